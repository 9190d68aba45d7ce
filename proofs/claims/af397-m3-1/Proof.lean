import JvmDerived
import JvmDerived.Pilot.@@N@@Statement
import JvmDerived.Pilot.@@N@@Code
set_option linter.unusedVariables false
set_option linter.unusedSimpArgs false
namespace Jvm.RoadKit
open Sem ClassFile Op Lib Jvm.Stand Jvm.Free Jvm.LawKit
section New
variable {p : Program} {l : Launch} {e : Env} {R : Room} {s : State} {m : MethodId} {args : Array Value} {below : List Frame} {meth : Method} {c : Code} {T : State} {locs : List Loc} {cells slots : Nat}
theorem retI (X : Stand p l e R s m args below meth c T locs cells slots) (hx : p.tables.exec = Jvm.exec) {pc : Nat} {Ls : Array Slot} {z : Int32} {rest : List Value} (hret : meth.sig.returnType = some .int) (hd : decode c.code pc = .ok (.ireturn, 1)) {fs : List Frame}
    (hl : ∀ (f : JFrame) (acts : List Action), f.method = m → f.locked = none → f.entered = [] → (doReturn e (T.setTop f) acts (some (.int z))).1 = T.setFrames fs) : Steps p.tables e below (T.setTop (mkF m pc Ls (.int z :: rest))) (T.setFrames fs) := by
  have hm' : T.vm.method? m = some meth := X.method'
  have hn : narrow .int (.int z) = .int z := rfl
  show Steps p.tables e below (T.setTop { method := m, pc := pc, locals := Ls, stack := _ :: rest, locked := none }) _
  jvm_step X.here [X.here.top, hx, hd, hm', hret, hn]
  first | (intro acts; rw [hl _ acts rfl rfl rfl]) | rw [hl _ _ rfl rfl rfl]
  exact Steps.refl _
end New
end Jvm.RoadKit
/- laws to paste: Road.backV, Road.lenW, Road.chN, Road.codOf (cut by pick.py; bodies as the Statement names them) -/
namespace Jvm.Pilot.@@N@@
namespace StrChars
open Jvm Sem ClassFile Op Lib Jvm.Stand Jvm.Free.XT Jvm.Free.ALB Jvm.Free.JM Jvm.Free
open Jvm.Lib.Cold (StaticIs)
/-- a char array whose places are chars -/
def Ch (a : Addr) (A : Cell) (U : State) : Prop := Arr .char a A U ∧ Typed .char A
theorem Ch.mv {a : Addr} {A : Cell} {U U' : State} (h : Ch a A U) (hal : U.vm.Alike U'.vm) (hh : U'.heap = U.heap) : Ch a A U' := ⟨h.1.mv hal hh, h.2⟩
theorem Ch.keep {a : Addr} {A : Cell} {U U' : State} (h : Ch a A U) (hal : U.vm.Alike U'.vm) (hk : U'.heap[a]? = some A) : Ch a A U' := ⟨h.1.keep hal hk, h.2⟩
/-- what place i of a char[]'s cell holds -/
def cv (A : Cell) (i : Nat) : Int32 := match A.slots[i]? with | some (.int x) => x | _ => 0
theorem Ch.get {a : Addr} {A : Cell} {U : State} (h : Ch a A U) {i : Nat} (hi : i < A.slots.size) : A.slots[i]? = some (.int (cv A i)) := by
  have e := Array.getElem?_eq_getElem hi
  have f := h.2 i _ e
  unfold cv; rw [e]
  generalize A.slots[i] = v at f
  cases v <;> simp [fits] at f ⊢
/-- the byte that i2b leaves of a char -/
def lo8 (x : Int32) : Int32 := x.toInt8.toInt32
theorem fits_lo8 (y : Int32) : fits .byte (.int (lo8 y)) = true := by
  have h1 := y.toInt8.le_toInt
  have h2 := y.toInt8.toInt_lt
  simp only [lo8, fits, Bool.and_eq_true, decide_eq_true_eq, Int32.le_iff_toInt_le, Int8.toInt_toInt32, show (-128 : Int32).toInt = -128 from by decide, show (127 : Int32).toInt = 127 from by decide]
  omega
/-- A' is A but that each place j of lo .. hi - 1 holds f j -/
def Laid (A A' : Cell) (lo hi : Nat) (f : Nat → Value) : Prop := A'.cls = A.cls ∧ A'.vm = A.vm ∧ A'.slots.size = A.slots.size ∧ ∀ i, A'.slots[i]? = if lo ≤ i ∧ i < hi then some (f i) else A.slots[i]?
theorem Laid.zero (A : Cell) (lo : Nat) (f : Nat → Value) : Laid A A lo (lo + 0) f := ⟨rfl, rfl, rfl, fun i => by rw [if_neg (by omega)]⟩
theorem Laid.step {A Ak : Cell} {lo k : Nat} {f : Nat → Value} {v : Value} (h : Laid A Ak lo k f) (hlo : lo ≤ k) (hk : k < Ak.slots.size) (hv : v = f k) : Laid A (Ak.setSlot k v) lo (k + 1) f := by
  refine ⟨h.1, h.2.1, by simpa [Cell.setSlot] using h.2.2.1, fun i => ?_⟩
  by_cases e : k = i
  · subst e; rw [Cell.slots_setSlot_self v hk, if_pos (by omega), hv]
  · rw [Cell.slots_setSlot_ne v e, h.2.2.2 i]
    by_cases q : lo ≤ i ∧ i < k
    · rw [if_pos q, if_pos (by omega)]
    · rw [if_neg q, if_neg (by omega)]
def U16 : String := "java/lang/StringUTF16"
namespace Cmp5
def yN : MethodName := ⟨"java/lang/StringUTF16", "compress", "([CI[BII)I"⟩
abbrev yB : ByteArray := jdk_52_method_21_code
theorem d0 : decode yB 0 = .ok (.iconst 0, 1) := by decide +kernel
theorem d1 : decode yB 1 = .ok (.istore 5, 2) := by decide +kernel
theorem d3 : decode yB 3 = .ok (.iload 5, 2) := by decide +kernel
theorem d5 : decode yB 5 = .ok (.iload 4, 2) := by decide +kernel
theorem d7 : decode yB 7 = .ok (.if_icmp (.ge) 37, 3) := by decide +kernel
theorem d10 : decode yB 10 = .ok (.aload_n 0, 1) := by decide +kernel
theorem d11 : decode yB 11 = .ok (.iload_n 1, 1) := by decide +kernel
theorem d12 : decode yB 12 = .ok (.caload, 1) := by decide +kernel
theorem d13 : decode yB 13 = .ok (.istore 6, 2) := by decide +kernel
theorem d15 : decode yB 15 = .ok (.iload 6, 2) := by decide +kernel
theorem d17 : decode yB 17 = .ok (.sipush 255, 3) := by decide +kernel
theorem d20 : decode yB 20 = .ok (.if_icmp (.le) 6, 3) := by decide +kernel
theorem d26 : decode yB 26 = .ok (.aload_n 2, 1) := by decide +kernel
theorem d27 : decode yB 27 = .ok (.iload_n 3, 1) := by decide +kernel
theorem d28 : decode yB 28 = .ok (.iload 6, 2) := by decide +kernel
theorem d30 : decode yB 30 = .ok (.i2b, 1) := by decide +kernel
theorem d31 : decode yB 31 = .ok (.bastore, 1) := by decide +kernel
theorem d32 : decode yB 32 = .ok (.iinc 1 1, 3) := by decide +kernel
theorem d35 : decode yB 35 = .ok (.iinc 3 1, 3) := by decide +kernel
theorem d38 : decode yB 38 = .ok (.iinc 5 1, 3) := by decide +kernel
theorem d41 : decode yB 41 = .ok (.goto (-38), 3) := by decide +kernel
theorem d44 : decode yB 44 = .ok (.iload 4, 2) := by decide +kernel
theorem d46 : decode yB 46 = .ok (.ireturn, 1) := by decide +kernel
def site : List Cond := []
def tab : Cond := tabOf yN yB 7 (some .int) site
def P (b : Addr) (A : Cell) (d : Addr) (B : Cell) (o q len : Nat) (args : Array Value) (s : State) : Prop := args = #[.ref b, .int (Int32.ofNat o), .ref d, .int (Int32.ofNat q), .int (Int32.ofNat len)] ∧ Ch b A s ∧ Arr .byte d B s ∧ b ≠ d ∧ o + len ≤ A.slots.size ∧ q + len ≤ B.slots.size ∧ ∀ i, i < len → ¬ 255 < cv A (o + i)
def E (b : Addr) (A : Cell) (d : Addr) (B : Cell) (o q len : Nat) (r : Option Value) (s u : State) : Prop := r = some (.int (Int32.ofNat len)) ∧ ∃ B', Put d B' s u ∧ Laid B B' q (q + len) (fun j => Value.int (lo8 (cv A (o + (j - q)))))
/-- no char of the range above 255: len; the places written hold each char's low byte -/
theorem law (l : Launch) (b : Addr) (A : Cell) (d : Addr) (B : Cell) (o q len : Nat) : Law l yN 5 5 0 0 yB 7 (some .int) site (P b A d B o q len) (E b A d B o q len) (copyLocs d q len) 0 0 := by
  refine Law.of_walk (plainFor_of_name (by decide +kernel)) (by decide +kernel) (by decide +kernel) (by decide) (fun _ _ h => by rw [h.1]; rfl) (fun _ U U' hal hh h => ⟨h.1, h.2.1.mv hal hh, h.2.2.1.mv hal hh, h.2.2.2⟩) (fun r U U' V V' h1 hal h2 h => ⟨h.1, h.2.elim fun B' q => ⟨B', q.1.mv h1 h2, q.2⟩⟩) ?_
  intro p e s m args below meth c s₁ X0 hexec hbytes hml hret hlk hnm hown hh0 W hP
  obtain ⟨rfl, hA, hB, hne, l1, l2, hp⟩ := hP
  have c1 : Steps p.tables e below (s₁.setTop (entryFrame m #[.ref b, .int (Int32.ofNat o), .ref d, .int (Int32.ofNat q), .int (Int32.ofNat len)] 7)) (s₁.setTop (mkF m 0 #[.val (.ref b), .val (.int (Int32.ofNat o)), .val (.ref d), .val (.int (Int32.ofNat q)), .val (.int (Int32.ofNat len)), .unset, .unset] [])) := entry rfl
  have hA0 := hA.1.mv X0.warmed.alike hh0
  have hB0 := hB.mv X0.warmed.alike hh0
  have a31 := hA.1.2.2.2
  have c2 : Steps p.tables e below (s₁.setTop (entryFrame m #[.ref b, .int (Int32.ofNat o), .ref d, .int (Int32.ofNat q), .int (Int32.ofNat len)] 7)) (s₁.setTop (mkF m 3 #[.val (.ref b), .val (.int (Int32.ofNat o)), .val (.ref d), .val (.int (Int32.ofNat q)), .val (.int (Int32.ofNat len)), .val (.int 0), .unset] [])) := c1.trans (by
    refine iconstV X0.here hexec rfl 0 (hb hbytes d0) (by decide) ?_
    refine XS.istore X0.here hexec rfl (hb hbytes d1) rfl rfl ?_
    exact Steps.refl _)
  have loop : ∀ (r i : Nat), i + r = len → ∀ (z : Slot), (z = .unset ∨ ∃ w, z = .val w ∧ w.category = 1) → ∀ (Tl : State) (Bk : Cell), Stand p l e { frames := 0, locals := 0, cells := 0, slots := 0 } s m #[.ref b, .int (Int32.ofNat o), .ref d, .int (Int32.ofNat q), .int (Int32.ofNat len)] below meth c Tl ([] ++ copyLocs d q i) 0 0 → Put d Bk s₁ Tl → Laid B Bk q (q + i) (fun j => Value.int (lo8 (cv A (o + (j - q))))) →
      Steps p.tables e below (s₁.setTop (entryFrame m #[.ref b, .int (Int32.ofNat o), .ref d, .int (Int32.ofNat q), .int (Int32.ofNat len)] 7)) (Tl.setTop (mkF m 3 #[.val (.ref b), .val (.int (Int32.ofNat (o + i))), .val (.ref d), .val (.int (Int32.ofNat (q + i))), .val (.int (Int32.ofNat len)), .val (.int (Int32.ofNat i)), z] [])) → ∃ (T' : State) (B' : Cell) (z' : Slot), Stand p l e { frames := 0, locals := 0, cells := 0, slots := 0 } s m #[.ref b, .int (Int32.ofNat o), .ref d, .int (Int32.ofNat q), .int (Int32.ofNat len)] below meth c T' ([] ++ copyLocs d q len) 0 0 ∧ Put d B' s₁ T' ∧ Laid B B' q (q + len) (fun j => Value.int (lo8 (cv A (o + (j - q))))) ∧
      Steps p.tables e below (s₁.setTop (entryFrame m #[.ref b, .int (Int32.ofNat o), .ref d, .int (Int32.ofNat q), .int (Int32.ofNat len)] 7)) (T'.setTop (mkF m 3 #[.val (.ref b), .val (.int (Int32.ofNat (o + len))), .val (.ref d), .val (.int (Int32.ofNat (q + len))), .val (.int (Int32.ofNat len)), .val (.int (Int32.ofNat len)), z'] [])) := by
    intro r
    induction r with
    | zero =>
      intro i hi z hz Tl Bk Xl pl fl cl
      have hil : i = len := by omega
      rw [hil] at Xl fl cl
      exact ⟨Tl, Bk, z, Xl, pl, fl, cl⟩
    | succ r ih =>
      intro i hi z hz Tl Bk Xl pl fl cl
      have all := X0.warmed.alike.symm.trans Xl.warmed.alike
      have hAl := hA0.keep all (pl.other hne hA0.1)
      have hBk := hB0.like all pl.1 fl.1 fl.2.1 fl.2.2.1
      have hlt : q + i < Bk.slots.size := by rw [fl.2.2.1]; omega
      have c3 : Steps p.tables e below (s₁.setTop (entryFrame m #[.ref b, .int (Int32.ofNat o), .ref d, .int (Int32.ofNat q), .int (Int32.ofNat len)] 7)) (Tl.setTop (mkF m 12 #[.val (.ref b), .val (.int (Int32.ofNat (o + i))), .val (.ref d), .val (.int (Int32.ofNat (q + i))), .val (.int (Int32.ofNat len)), .val (.int (Int32.ofNat i)), z] [.int (Int32.ofNat (o + i)), .ref b])) := cl.trans (by
        refine XS.iload Xl.here hexec rfl (hb hbytes d3) rfl ?_
        refine XS.iload Xl.here hexec rfl (hb hbytes d5) rfl ?_
        refine XS.icmpNo Xl.here hexec rfl (hb hbytes d7) rfl (ii_ge_f (lt32 (by omega) (by omega))) ?_
        refine XS.aloadN Xl.here hexec rfl (hb hbytes d10) rfl rfl ?_
        refine XS.iloadN Xl.here hexec rfl (hb hbytes d11) rfl ?_
        exact Steps.refl _)
      have c4 : Steps p.tables e below (s₁.setTop (entryFrame m #[.ref b, .int (Int32.ofNat o), .ref d, .int (Int32.ofNat q), .int (Int32.ofNat len)] 7)) (Tl.setTop (mkF m 13 #[.val (.ref b), .val (.int (Int32.ofNat (o + i))), .val (.ref d), .val (.int (Int32.ofNat (q + i))), .val (.int (Int32.ofNat len)), .val (.int (Int32.ofNat i)), z] [.int (cv A (o + i))])) := c3.trans (by
        refine Xl.aget hexec hAl rfl (hA.get (i := o + i) (by omega)) rfl rfl (hb hbytes d12) ?_
        exact Steps.refl _)
      have c5 : Steps p.tables e below (s₁.setTop (entryFrame m #[.ref b, .int (Int32.ofNat o), .ref d, .int (Int32.ofNat q), .int (Int32.ofNat len)] 7)) (Tl.setTop (mkF m 15 #[.val (.ref b), .val (.int (Int32.ofNat (o + i))), .val (.ref d), .val (.int (Int32.ofNat (q + i))), .val (.int (Int32.ofNat len)), .val (.int (Int32.ofNat i)), .val (.int (cv A (o + i)))] [])) := c4.trans (by
        refine XS.istoreS Xl.here hexec rfl (hb hbytes d13) rfl rfl hz ?_
        exact Steps.refl _)
      have c6 : Steps p.tables e below (s₁.setTop (entryFrame m #[.ref b, .int (Int32.ofNat o), .ref d, .int (Int32.ofNat q), .int (Int32.ofNat len)] 7)) (Tl.setTop (mkF m 31 #[.val (.ref b), .val (.int (Int32.ofNat (o + i))), .val (.ref d), .val (.int (Int32.ofNat (q + i))), .val (.int (Int32.ofNat len)), .val (.int (Int32.ofNat i)), .val (.int (cv A (o + i)))] [.int (lo8 (cv A (o + i))), .int (Int32.ofNat (q + i)), .ref d])) := c5.trans (by
        refine XS.iload Xl.here hexec rfl (hb hbytes d15) rfl ?_
        refine sipushV Xl.here hexec rfl 255 (hb hbytes d17) (by decide) ?_
        refine XS.icmpYes Xl.here hexec rfl (pc0 := 20) rfl (hb hbytes d20) rfl (ii_le_t (hp i (by omega))) (by decide) rfl ?_
        refine XS.aloadN Xl.here hexec rfl (hb hbytes d26) rfl rfl ?_
        refine XS.iloadN Xl.here hexec rfl (hb hbytes d27) rfl ?_
        refine XS.iload Xl.here hexec rfl (hb hbytes d28) rfl ?_
        refine i2b Xl.here hexec rfl (hb hbytes d30) rfl ?_
        exact Steps.refl _)
      obtain ⟨T7, X7, p7, st7⟩ := Xl.aput hexec hBk rfl hlt rfl (fits_lo8 (cv A (o + i))) (g := (mkF m 31 #[.val (.ref b), .val (.int (Int32.ofNat (o + i))), .val (.ref d), .val (.int (Int32.ofNat (q + i))), .val (.int (Int32.ofNat len)), .val (.int (Int32.ofNat i)), .val (.int (cv A (o + i)))] [.int (lo8 (cv A (o + i))), .int (Int32.ofNat (q + i)), .ref d])) rfl (rest := []) rfl (hb hbytes d31)
      have c8 : Steps p.tables e below (s₁.setTop (entryFrame m #[.ref b, .int (Int32.ofNat o), .ref d, .int (Int32.ofNat q), .int (Int32.ofNat len)] 7)) (T7.setTop (mkF m 32 #[.val (.ref b), .val (.int (Int32.ofNat (o + i))), .val (.ref d), .val (.int (Int32.ofNat (q + i))), .val (.int (Int32.ofNat len)), .val (.int (Int32.ofNat i)), .val (.int (cv A (o + i)))] [])) := c6.trans (st7 _ (Steps.refl _))
      have c9 : Steps p.tables e below (s₁.setTop (entryFrame m #[.ref b, .int (Int32.ofNat o), .ref d, .int (Int32.ofNat q), .int (Int32.ofNat len)] 7)) (T7.setTop (mkF m 3 #[.val (.ref b), .val (.int (Int32.ofNat (o + i) + 1)), .val (.ref d), .val (.int (Int32.ofNat (q + i) + 1)), .val (.int (Int32.ofNat len)), .val (.int (Int32.ofNat i + 1)), .val (.int (cv A (o + i)))] [])) := c8.trans (by
        refine iincV X7.here hexec rfl 1 (hb hbytes d32) (by decide) rfl rfl ?_
        refine iincV X7.here hexec rfl 1 (hb hbytes d35) (by decide) rfl rfl ?_
        refine iincV X7.here hexec rfl 1 (hb hbytes d38) (by decide) rfl rfl ?_
        refine XS.goto X7.here hexec rfl (pc0 := 41) rfl (hb hbytes d41) (by decide) rfl ?_
        exact Steps.refl _)
      have c10 : Steps p.tables e below (s₁.setTop (entryFrame m #[.ref b, .int (Int32.ofNat o), .ref d, .int (Int32.ofNat q), .int (Int32.ofNat len)] 7)) (T7.setTop (mkF m 3 #[.val (.ref b), .val (.int (Int32.ofNat (o + (i + 1)))), .val (.ref d), .val (.int (Int32.ofNat (q + (i + 1)))), .val (.int (Int32.ofNat len)), .val (.int (Int32.ofNat (i + 1))), .val (.int (cv A (o + i)))] [])) := by
        have := c9
        rw [succ32, succ32, succ32] at this
        exact this
      exact ih (i + 1) (by omega) _ (Or.inr ⟨_, rfl, rfl⟩) T7 _ (by rw [copyLocs_step, ← List.append_assoc]; exact X7) (pl.trans p7) (fl.step (by omega) hlt (by simp)) c10
  obtain ⟨T9, B9, z9, X9, p9, f9, g9⟩ := loop len 0 (by omega) .unset (Or.inl rfl) s₁ B (by simpa [copyLocs] using X0) ⟨hB0.1, fun _ _ => rfl, rfl⟩ (Laid.zero _ _ _) c2
  have c11 : Steps p.tables e below (s₁.setTop (entryFrame m #[.ref b, .int (Int32.ofNat o), .ref d, .int (Int32.ofNat q), .int (Int32.ofNat len)] 7)) (T9.setTop (mkF m 46 #[.val (.ref b), .val (.int (Int32.ofNat (o + len))), .val (.ref d), .val (.int (Int32.ofNat (q + len))), .val (.int (Int32.ofNat len)), .val (.int (Int32.ofNat len)), z9] [.int (Int32.ofNat len)])) := g9.trans (by
    refine XS.iload X9.here hexec rfl (hb hbytes d3) rfl ?_
    refine XS.iload X9.here hexec rfl (hb hbytes d5) rfl ?_
    refine XS.icmpYes X9.here hexec rfl (pc0 := 7) rfl (hb hbytes d7) rfl (ii_ge_t (nlt32 (by omega) (Nat.le_refl _))) (by decide) rfl ?_
    refine XS.iload X9.here hexec rfl (hb hbytes d44) rfl ?_
    exact Steps.refl _)
  exact ⟨T9, some (.int (Int32.ofNat len)), _, _, _, X9, by simp, rfl, rfl, (fun h => by cases h), ⟨rfl, B9, p9.from hh0, f9⟩, fun fs hl => c11.trans (X9.ireturnOut hexec hret rfl (Or.inl rfl) (hb hbytes d46) hl)⟩
end Cmp5
namespace Cmp3
def yN : MethodName := ⟨"java/lang/StringUTF16", "compress", "([CII)[B"⟩
abbrev yB : ByteArray := jdk_52_method_16_code
theorem d0 : decode yB 0 = .ok (.iload_n 2, 1) := by decide +kernel
theorem d1 : decode yB 1 = .ok (.newarray .byte, 2) := by decide +kernel
theorem d3 : decode yB 3 = .ok (.astore_n 3, 1) := by decide +kernel
theorem d4 : decode yB 4 = .ok (.aload_n 0, 1) := by decide +kernel
theorem d5 : decode yB 5 = .ok (.iload_n 1, 1) := by decide +kernel
theorem d6 : decode yB 6 = .ok (.aload_n 3, 1) := by decide +kernel
theorem d7 : decode yB 7 = .ok (.iconst 0, 1) := by decide +kernel
theorem d8 : decode yB 8 = .ok (.iload_n 2, 1) := by decide +kernel
theorem d9 : decode yB 9 = .ok (.invokestatic 115, 3) := by decide +kernel
theorem d12 : decode yB 12 = .ok (.istore 4, 2) := by decide +kernel
theorem d14 : decode yB 14 = .ok (.iload 4, 2) := by decide +kernel
theorem d16 : decode yB 16 = .ok (.iload_n 2, 1) := by decide +kernel
theorem d17 : decode yB 17 = .ok (.if_icmp (.eq) 40, 3) := by decide +kernel
theorem d57 : decode yB 57 = .ok (.aload_n 3, 1) := by decide +kernel
theorem d58 : decode yB 58 = .ok (.areturn, 1) := by decide +kernel
def site : List Cond := [.arrayClass .byte, Cmp5.tab] ++ staticW U16 115 Cmp5.yN
def tab : Cond := tabOf yN yB 6 (some (.array .byte)) site
def P (b : Addr) (A : Cell) (o len : Nat) (args : Array Value) (s : State) : Prop := args = #[.ref b, .int (Int32.ofNat o), .int (Int32.ofNat len)] ∧ Ch b A s ∧ o + len ≤ A.slots.size ∧ len ≤ 536870912 ∧ ∀ i, i < len → ¬ 255 < cv A (o + i)
def E (b : Addr) (A : Cell) (o len : Nat) (r : Option Value) (s u : State) : Prop := NewArr .byte "[B" len (fun j => .int (lo8 (cv A (o + j)))) r s u ∧ u.heap.size = s.heap.size + 1
/-- no char of the range above 255: a new byte[] of their low bytes -/
theorem law (l : Launch) (b : Addr) (A : Cell) (o len : Nat) : Law l yN 3 3 1 18 yB 6 (some (.array .byte)) site (P b A o len) (E b A o len) [] 1 len := by
  refine Law.of_walk (plainFor_of_name (by decide +kernel)) (by decide +kernel) (by decide +kernel) (by decide) (fun _ _ h => by rw [h.1]; rfl) (fun _ U U' hal hh h => ⟨h.1, h.2.1.mv hal hh, h.2.2⟩) (fun r U U' V V' h1 hal h2 h => ⟨NewArr.mv r U U' V V' h1 hal h2 h.1, by rw [h1, h2]; exact h.2⟩) ?_
  intro p e s m args below meth c s₁ X0 hexec hbytes hml hret hlk hnm hown hh0 W hP
  obtain ⟨rfl, hA, l1, l2, hp⟩ := hP
  have a31 := hA.1.2.2.2
  have c1 : Steps p.tables e below (s₁.setTop (entryFrame m #[.ref b, .int (Int32.ofNat o), .int (Int32.ofNat len)] 6)) (s₁.setTop (mkF m 0 #[.val (.ref b), .val (.int (Int32.ofNat o)), .val (.int (Int32.ofNat len)), .unset, .unset, .unset] [])) := entry rfl
  have c2 : Steps p.tables e below (s₁.setTop (entryFrame m #[.ref b, .int (Int32.ofNat o), .int (Int32.ofNat len)] 6)) (s₁.setTop (mkF m 1 #[.val (.ref b), .val (.int (Int32.ofNat o)), .val (.int (Int32.ofNat len)), .unset, .unset, .unset] [.int (Int32.ofNat len)])) := c1.trans (by
    refine XS.iloadN X0.here hexec rfl (hb hbytes d0) rfl ?_
    exact Steps.refl _)
  obtain ⟨T3, B3, X3, ba3, bs3, bv3, bh3, bf3, st3⟩ := X0.anew hexec (atype := .byte) (wk W (.arrayClass .byte)) rfl (by show len * 1 ≤ _; omega) (by omega) (g := (mkF m 1 #[.val (.ref b), .val (.int (Int32.ofNat o)), .val (.int (Int32.ofNat len)), .unset, .unset, .unset] [.int (Int32.ofNat len)])) rfl (hb hbytes d1) (rest := []) rfl (Nat.le_refl _) (by show 0 + len ≤ len; omega)
  rw [hh0] at ba3 st3
  have kp3 : XT.Kept s T3 := (XT.Kept.of_eq hh0).push bh3
  have hA3 := hA.keep X3.warmed.alike (kp3 _ _ hA.1.1)
  have hne : b ≠ s.heap.size := hA.1.ne
  have c4 : Steps p.tables e below (s₁.setTop (entryFrame m #[.ref b, .int (Int32.ofNat o), .int (Int32.ofNat len)] 6)) (T3.setTop (mkF m 3 #[.val (.ref b), .val (.int (Int32.ofNat o)), .val (.int (Int32.ofNat len)), .unset, .unset, .unset] [.ref s.heap.size])) := c2.trans (st3 _ (Steps.refl _))
  have c5 : Steps p.tables e below (s₁.setTop (entryFrame m #[.ref b, .int (Int32.ofNat o), .int (Int32.ofNat len)] 6)) (T3.setTop (mkF m 9 #[.val (.ref b), .val (.int (Int32.ofNat o)), .val (.int (Int32.ofNat len)), .val (.ref s.heap.size), .unset, .unset] [.int (Int32.ofNat len), .int 0, .ref s.heap.size, .int (Int32.ofNat o), .ref b])) := c4.trans (by
    refine XS.astoreN X3.here hexec rfl (hb hbytes d3) rfl rfl rfl ?_
    refine XS.aloadN X3.here hexec rfl (hb hbytes d4) rfl rfl ?_
    refine XS.iloadN X3.here hexec rfl (hb hbytes d5) rfl ?_
    refine XS.aloadN X3.here hexec rfl (hb hbytes d6) rfl rfl ?_
    refine iconstV X3.here hexec rfl 0 (hb hbytes d7) (by decide) ?_
    refine XS.iloadN X3.here hexec rfl (hb hbytes d8) rfl ?_
    exact Steps.refl _)
  obtain ⟨v6, T6, X6, E6, g6⟩ := X3.callS hexec (Cmp5.law l b A s.heap.size B3 o 0 len) hown (wks W (staticW U16 115 Cmp5.yN)) (wk W Cmp5.tab) (W := 0) (Nat.le_of_ble_eq_true rfl) (Nat.le_of_ble_eq_true rfl) (Nat.le_refl _) (by show 0 + len + 0 ≤ len; omega) (g := (mkF m 9 #[.val (.ref b), .val (.int (Int32.ofNat o)), .val (.int (Int32.ofNat len)), .val (.ref s.heap.size), .unset, .unset] [.int (Int32.ofNat len), .int (Int32.ofNat 0), .ref s.heap.size, .int (Int32.ofNat o), .ref b])) rfl (by rw [hml]; rfl) c5 (argsL := [.ref b, .int (Int32.ofNat o), .ref s.heap.size, .int (Int32.ofNat 0), .int (Int32.ofNat len)]) (rest := []) rfl rfl (by show 2 * 0 + 0 ≤ _; decide) (hb hbytes d9) (⟨rfl, hA3, ba3, hne, l1, by rw [bs3]; simp, hp⟩)
  obtain ⟨rfl, B6, p6, f6⟩ := E6
  have c7 : Steps p.tables e below (s₁.setTop (entryFrame m #[.ref b, .int (Int32.ofNat o), .int (Int32.ofNat len)] 6)) (T6.setTop (mkF m 12 #[.val (.ref b), .val (.int (Int32.ofNat o)), .val (.int (Int32.ofNat len)), .val (.ref s.heap.size), .unset, .unset] [.int (Int32.ofNat len)])) := g6
  have c8 : Steps p.tables e below (s₁.setTop (entryFrame m #[.ref b, .int (Int32.ofNat o), .int (Int32.ofNat len)] 6)) (T6.setTop (mkF m 58 #[.val (.ref b), .val (.int (Int32.ofNat o)), .val (.int (Int32.ofNat len)), .val (.ref s.heap.size), .val (.int (Int32.ofNat len)), .unset] [.ref s.heap.size])) := c7.trans (by
    refine XS.istore X6.here hexec rfl (hb hbytes d12) rfl rfl ?_
    refine XS.iload X6.here hexec rfl (hb hbytes d14) rfl ?_
    refine XS.iloadN X6.here hexec rfl (hb hbytes d16) rfl ?_
    refine XS.icmpYes X6.here hexec rfl (pc0 := 17) rfl (hb hbytes d17) rfl (ii_eq_t rfl) (by decide) rfl ?_
    refine XS.aloadN X6.here hexec rfl (hb hbytes d57) rfl rfl ?_
    exact Steps.refl _)
  have X8 := X6.wide (L' := []) (cells' := 1) (slots' := len) (fun x hx hlt => by
    simp only [List.nil_append, copyLocs, List.mem_map, List.mem_range] at hx
    obtain ⟨i, -, rfl⟩ := hx
    exact absurd hlt (Nat.lt_irrefl _)) (Nat.le_refl _) (by omega)
  exact ⟨T6, some (.ref s.heap.size), _, _, _, X8, rfl, rfl, rfl, (fun h => by cases h), ⟨⟨rfl, B6, ba3.like (X3.warmed.alike.symm.trans X6.warmed.alike) p6.1 f6.1 f6.2.1 f6.2.2.1, f6.2.1.trans bv3, by rw [X6.warmed.alike.findClass, f6.1]; exact bf3, by rw [f6.2.2.1, bs3]; simp, fun j hj => by rw [f6.2.2.2 j, if_pos (by omega)]; rfl, kp3.put p6 (Nat.le_refl _)⟩, by rw [p6.2.2, bh3, hh0]; simp⟩, fun fs hl => c8.trans (X8.areturnOut hexec rfl hret rfl (hb hbytes d58) hl)⟩
end Cmp3
namespace CodL
def yN : MethodName := ⟨"java/lang/StringUTF16", "coderFromArrayLen", "([BI)B"⟩
abbrev yB : ByteArray := jdk_52_method_15_code
theorem d0 : decode yB 0 = .ok (.iload_n 1, 1) := by decide +kernel
theorem d1 : decode yB 1 = .ok (.aload_n 0, 1) := by decide +kernel
theorem d2 : decode yB 2 = .ok (.arraylength, 1) := by decide +kernel
theorem d3 : decode yB 3 = .ok (.isub, 1) := by decide +kernel
theorem d4 : decode yB 4 = .ok (.bipush 31, 2) := by decide +kernel
theorem d6 : decode yB 6 = .ok (.iushr, 1) := by decide +kernel
theorem d7 : decode yB 7 = .ok (.i2b, 1) := by decide +kernel
theorem d8 : decode yB 8 = .ok (.ireturn, 1) := by decide +kernel
def site : List Cond := []
def tab : Cond := tabOf yN yB 2 (some .byte) site
def P (d : Addr) (B : Cell) (args : Array Value) (s : State) : Prop := args = #[.ref d, .int (Int32.ofNat B.slots.size)] ∧ Arr .byte d B s
def E (r : Option Value) (s u : State) : Prop := XT.PureE (some (.int 0)) r s u
/-- an array as long as the number of chars: LATIN1 -/
theorem law (l : Launch) (d : Addr) (B : Cell) : Law l yN 2 2 0 0 yB 2 (some .byte) site (P d B) E [] 0 0 := by
  refine Law.of_walk (plainFor_of_name (by decide +kernel)) (by decide +kernel) (by decide +kernel) (by decide) (fun _ _ h => by rw [h.1]; rfl) (fun _ U U' hal hh h => ⟨h.1, h.2.mv hal hh⟩) (fun r U U' V V' h1 hal h2 h => XT.PureE.mv r U U' V V' h1 hal h2 h) ?_
  intro p e s m args below meth c s₁ X0 hexec hbytes hml hret hlk hnm hown hh0 W hP
  obtain ⟨rfl, hB⟩ := hP
  have hB0 := hB.mv X0.warmed.alike hh0
  have c1 : Steps p.tables e below (s₁.setTop (entryFrame m #[.ref d, .int (Int32.ofNat B.slots.size)] 2)) (s₁.setTop (mkF m 0 #[.val (.ref d), .val (.int (Int32.ofNat B.slots.size))] [])) := entry rfl
  have c2 : Steps p.tables e below (s₁.setTop (entryFrame m #[.ref d, .int (Int32.ofNat B.slots.size)] 2)) (s₁.setTop (mkF m 2 #[.val (.ref d), .val (.int (Int32.ofNat B.slots.size))] [.ref d, .int (Int32.ofNat B.slots.size)])) := c1.trans (by
    refine XS.iloadN X0.here hexec rfl (hb hbytes d0) rfl ?_
    refine XS.aloadN X0.here hexec rfl (hb hbytes d1) rfl rfl ?_
    exact Steps.refl _)
  have c3 : Steps p.tables e below (s₁.setTop (entryFrame m #[.ref d, .int (Int32.ofNat B.slots.size)] 2)) (s₁.setTop (mkF m 8 #[.val (.ref d), .val (.int (Int32.ofNat B.slots.size))] [.int (lo8 (ushr (Int32.ofNat B.slots.size - Int32.ofNat B.slots.size) 31))])) := c2.trans (by
    refine X0.alen hexec hB0 rfl rfl (hb hbytes d2) ?_
    refine XS.isub X0.here hexec rfl (hb hbytes d3) rfl ?_
    refine bipushV X0.here hexec rfl 31 (hb hbytes d4) (by decide) ?_
    refine iushr X0.here hexec rfl (hb hbytes d6) rfl ?_
    refine i2b X0.here hexec rfl (hb hbytes d7) rfl ?_
    exact Steps.refl _)
  have e0 : lo8 (ushr (Int32.ofNat B.slots.size - Int32.ofNat B.slots.size) 31) = 0 := by rw [Int32.sub_self]; decide
  rw [e0] at c3
  exact ⟨s₁, some (.int 0), _, _, _, X0, rfl, rfl, rfl, (fun h => by cases h), ⟨rfl, hh0⟩, fun fs hl => c3.trans (X0.ireturnOut hexec hret rfl (Or.inr (Or.inr (Or.inl rfl))) (hb hbytes d8) hl)⟩
end CodL
/-- the String at a is Latin-1 over a new byte[] (the heap's one new cell): the low bytes of the len chars of A from o on; every cell but a is kept -/
def Got (a : Addr) (D : Cell) (fV fC : Field) (A : Cell) (o len : Nat) (r : Option Value) (s u : State) : Prop := r = none ∧ ∃ D' V : Cell, Blank "java/lang/String" a D' u ∧ Same D D' [fV.slot, fC.slot] ∧ D'.slots[fV.slot]? = some (.ref s.heap.size) ∧ D'.slots[fC.slot]? = some (.int 0) ∧ Arr .byte s.heap.size V u ∧ V.vm = .none ∧ u.vm.findClass "[B" = some V.cls ∧ V.slots.size = len ∧ (∀ j, j < len → V.slots[j]? = some (.int (lo8 (cv A (o + j))))) ∧ (∀ (y : Addr) (c : Cell), y ≠ a → s.heap[y]? = some c → u.heap[y]? = some c) ∧ u.heap.size = s.heap.size + 1
theorem Got.mv {a : Addr} {D A : Cell} {fV fC : Field} {o len : Nat} : ∀ r (U U' V V' : State), U'.heap = U.heap → V.vm.Alike V'.vm → V'.heap = V.heap → Got a D fV fC A o len r U V → Got a D fV fC A o len r U' V' :=
  fun r U U' V V' h1 hal h2 ⟨e0, D', X, a1, a2, a3, a4, a5, a6, a7, a8, a9, a10, a11⟩ => ⟨e0, D', X, a1.mv hal h2, a2, by rw [h1]; exact a3, a4, by rw [h1]; exact a5.mv hal h2, a6, by rw [hal.findClass]; exact a7, a8, a9, by rw [h1, h2]; exact a10, by rw [h1, h2]; exact a11⟩
namespace New4
def yN : MethodName := ⟨"java/lang/String", "<init>", "([CIILjava/lang/Void;)V"⟩
abbrev yB : ByteArray := jdk_42_method_149_code
theorem d0 : decode yB 0 = .ok (.aload_n 0, 1) := by decide +kernel
theorem d1 : decode yB 1 = .ok (.invokespecial 1, 3) := by decide +kernel
theorem d4 : decode yB 4 = .ok (.iload_n 3, 1) := by decide +kernel
theorem d5 : decode yB 5 = .ok (.ifCond (.ne) 22, 3) := by decide +kernel
theorem d27 : decode yB 27 = .ok (.getstatic 38, 3) := by decide +kernel
theorem d30 : decode yB 30 = .ok (.ifCond (.eq) 28, 3) := by decide +kernel
theorem d33 : decode yB 33 = .ok (.aload_n 1, 1) := by decide +kernel
theorem d34 : decode yB 34 = .ok (.iload_n 2, 1) := by decide +kernel
theorem d35 : decode yB 35 = .ok (.iload_n 3, 1) := by decide +kernel
theorem d36 : decode yB 36 = .ok (.invokestatic 177, 3) := by decide +kernel
theorem d39 : decode yB 39 = .ok (.astore 5, 2) := by decide +kernel
theorem d41 : decode yB 41 = .ok (.aload_n 0, 1) := by decide +kernel
theorem d42 : decode yB 42 = .ok (.aload 5, 2) := by decide +kernel
theorem d44 : decode yB 44 = .ok (.iload_n 3, 1) := by decide +kernel
theorem d45 : decode yB 45 = .ok (.invokestatic 47, 3) := by decide +kernel
theorem d48 : decode yB 48 = .ok (.putfield 15, 3) := by decide +kernel
theorem d51 : decode yB 51 = .ok (.aload_n 0, 1) := by decide +kernel
theorem d52 : decode yB 52 = .ok (.aload 5, 2) := by decide +kernel
theorem d54 : decode yB 54 = .ok (.putfield 9, 3) := by decide +kernel
theorem d57 : decode yB 57 = .ok (.return_, 1) := by decide +kernel
def site : List Cond := [.fieldLink "java/lang/String" 38 "java/lang/String" "COMPACT_STRINGS" "Z", Cmp3.tab, CodL.tab, .laysFinal "java/lang/String" "java/lang/String" "value" "[B", .fieldLink "java/lang/String" 9 "java/lang/String" "value" "[B", .laysFinal "java/lang/String" "java/lang/String" "coder" "B", .fieldLink "java/lang/String" 15 "java/lang/String" "coder" "B"] ++ objW "java/lang/String" 1 ++ staticW "java/lang/String" 177 Cmp3.yN ++ staticW "java/lang/String" 47 CodL.yN
def tab : Cond := tabOf yN yB 6 none site
def P (a : Addr) (D : Cell) (fV fC : Field) (b : Addr) (A : Cell) (z : Int32) (o len : Nat) (args : Array Value) (s : State) : Prop := args = #[.ref a, .ref b, .int (Int32.ofNat o), .int (Int32.ofNat len), .null] ∧ Blank "java/lang/String" a D s ∧ Found "java/lang/String" "value" "[B" fV s ∧ Found "java/lang/String" "coder" "B" fC s ∧ Ch b A s ∧ StaticIs s "java/lang/String" "COMPACT_STRINGS" "Z" (.int z) ∧ ¬ z = 0 ∧ 0 < len ∧ o + len ≤ A.slots.size ∧ len ≤ 536870912 ∧ ∀ i, i < len → ¬ 255 < cv A (o + i)
def E (a : Addr) (D : Cell) (fV fC : Field) (A : Cell) (o len : Nat) (r : Option Value) (s u : State) : Prop := Got a D fV fC A o len r s u
/-- len > 0, no char of the range above 255: a Latin-1 String of their low bytes -/
theorem law (l : Launch) (a : Addr) (D : Cell) (fV fC : Field) (b : Addr) (A : Cell) (z : Int32) (o len : Nat) : Law l yN 5 4 2 35 yB 6 none site (P a D fV fC b A z o len) (E a D fV fC A o len) [⟨a, fC.slot⟩, ⟨a, fV.slot⟩] 1 len := by
  refine Law.of_walk (plainFor_of_name (by decide +kernel)) (by decide +kernel) (by decide +kernel) (by decide) (fun _ _ h => by rw [h.1]; rfl) (fun _ U U' hal hh h => ⟨h.1, h.2.1.mv hal hh, h.2.2.1.al hal, h.2.2.2.1.al hal, h.2.2.2.2.1.mv hal hh, h.2.2.2.2.2.1.there hal hh, h.2.2.2.2.2.2⟩) (fun r U U' V V' h1 hal h2 h => Got.mv r U U' V V' h1 hal h2 h) ?_
  intro p e s m args below meth c s₁ X0 hexec hbytes hml hret hlk hnm hown hh0 W hP
  obtain ⟨rfl, hB, f1, f2, hA, s1, hz, l0, l1, l2, hp⟩ := hP
  have a31 := hA.1.2.2.2
  have c1 : Steps p.tables e below (s₁.setTop (entryFrame m #[.ref a, .ref b, .int (Int32.ofNat o), .int (Int32.ofNat len), .null] 6)) (s₁.setTop (mkF m 0 #[.val (.ref a), .val (.ref b), .val (.int (Int32.ofNat o)), .val (.int (Int32.ofNat len)), .val .null, .unset] [])) := entry rfl
  have c2 : Steps p.tables e below (s₁.setTop (entryFrame m #[.ref a, .ref b, .int (Int32.ofNat o), .int (Int32.ofNat len), .null] 6)) (s₁.setTop (mkF m 1 #[.val (.ref a), .val (.ref b), .val (.int (Int32.ofNat o)), .val (.int (Int32.ofNat len)), .val .null, .unset] [.ref a])) := c1.trans (by
    refine XS.aloadN X0.here hexec rfl (hb hbytes d0) rfl rfl ?_
    exact Steps.refl _)
  obtain ⟨T3, X3, q3, st3⟩ := X0.oinit hexec hown (wks W (objW "java/lang/String" 1)) (g := (mkF m 1 #[.val (.ref a), .val (.ref b), .val (.int (Int32.ofNat o)), .val (.int (Int32.ofNat len)), .val .null, .unset] [.ref a])) rfl (by rw [hml]; rfl) (rest := []) rfl (hb hbytes d1) (W := 0) (by show 2 * 0 + 0 ≤ _; decide) (Nat.le_of_ble_eq_true rfl) (Nat.le_of_ble_eq_true rfl)
  have hh3 := q3.trans hh0
  have c4 : Steps p.tables e below (s₁.setTop (entryFrame m #[.ref a, .ref b, .int (Int32.ofNat o), .int (Int32.ofNat len), .null] 6)) (T3.setTop (mkF m 27 #[.val (.ref a), .val (.ref b), .val (.int (Int32.ofNat o)), .val (.int (Int32.ofNat len)), .val .null, .unset] [])) := (c2.trans (st3 _ (Steps.refl _))).trans (by
    refine XS.iloadN X3.here hexec rfl (hb hbytes d4) rfl ?_
    refine XS.ifYes X3.here hexec rfl (pc0 := 5) rfl (hb hbytes d5) rfl (i0_ne_t (nz32 (by omega) l0)) (by decide) rfl ?_
    exact Steps.refl _)
  obtain ⟨T5, X5, q5, st5⟩ := X3.sget hexec hown (wk W (.fieldLink "java/lang/String" 38 "java/lang/String" "COMPACT_STRINGS" "Z")) s1 (fun _ _ h => by rw [hh3]; exact h) (g := (mkF m 27 #[.val (.ref a), .val (.ref b), .val (.int (Int32.ofNat o)), .val (.int (Int32.ofNat len)), .val .null, .unset] [])) rfl (hb hbytes d27)
  have hh5 := q5.trans hh3
  have c6 : Steps p.tables e below (s₁.setTop (entryFrame m #[.ref a, .ref b, .int (Int32.ofNat o), .int (Int32.ofNat len), .null] 6)) (T5.setTop (mkF m 30 #[.val (.ref a), .val (.ref b), .val (.int (Int32.ofNat o)), .val (.int (Int32.ofNat len)), .val .null, .unset] [.int z])) := c4.trans (st5 _ (Steps.refl _))
  have c7 : Steps p.tables e below (s₁.setTop (entryFrame m #[.ref a, .ref b, .int (Int32.ofNat o), .int (Int32.ofNat len), .null] 6)) (T5.setTop (mkF m 36 #[.val (.ref a), .val (.ref b), .val (.int (Int32.ofNat o)), .val (.int (Int32.ofNat len)), .val .null, .unset] [.int (Int32.ofNat len), .int (Int32.ofNat o), .ref b])) := c6.trans (by
    refine XS.ifNo X5.here hexec rfl (hb hbytes d30) rfl (i0_eq_f hz) ?_
    refine XS.aloadN X5.here hexec rfl (hb hbytes d33) rfl rfl ?_
    refine XS.iloadN X5.here hexec rfl (hb hbytes d34) rfl ?_
    refine XS.iloadN X5.here hexec rfl (hb hbytes d35) rfl ?_
    exact Steps.refl _)
  obtain ⟨v8, T8, X8, E8, g8⟩ := X5.callS hexec (Cmp3.law l b A o len) hown (wks W (staticW "java/lang/String" 177 Cmp3.yN)) (wk W Cmp3.tab) (W := 0) (Nat.le_of_ble_eq_true rfl) (Nat.le_of_ble_eq_true rfl) (Nat.le_refl _) (by show 0 + len ≤ len; omega) (g := (mkF m 36 #[.val (.ref a), .val (.ref b), .val (.int (Int32.ofNat o)), .val (.int (Int32.ofNat len)), .val .null, .unset] [.int (Int32.ofNat len), .int (Int32.ofNat o), .ref b])) rfl (by rw [hml]; rfl) c7 (argsL := [.ref b, .int (Int32.ofNat o), .int (Int32.ofNat len)]) (rest := []) rfl rfl (by show 2 * 0 + 0 ≤ _; decide) (hb hbytes d36) (⟨rfl, hA.mv X5.warmed.alike hh5, l1, l2, hp⟩)
  obtain ⟨e8, z8⟩ := E8
  obtain ⟨rfl, N, n1, n2, n3, n4, n5, n6⟩ := NewArr.mv _ T5 s _ _ hh5.symm (Vm.Alike.refl _) rfl e8
  rw [hh5] at z8
  have hB1 := hB.keep X8.warmed.alike (n6 _ _ hB.1)
  have hne : s.heap.size ≠ a := (Nat.ne_of_lt (Array.getElem?_eq_some_iff.mp hB.1).1).symm
  have c9 : Steps p.tables e below (s₁.setTop (entryFrame m #[.ref a, .ref b, .int (Int32.ofNat o), .int (Int32.ofNat len), .null] 6)) (T8.setTop (mkF m 39 #[.val (.ref a), .val (.ref b), .val (.int (Int32.ofNat o)), .val (.int (Int32.ofNat len)), .val .null, .unset] [.ref s.heap.size])) := g8
  have c10 : Steps p.tables e below (s₁.setTop (entryFrame m #[.ref a, .ref b, .int (Int32.ofNat o), .int (Int32.ofNat len), .null] 6)) (T8.setTop (mkF m 45 #[.val (.ref a), .val (.ref b), .val (.int (Int32.ofNat o)), .val (.int (Int32.ofNat len)), .val .null, .val (.ref s.heap.size)] [.int (Int32.ofNat N.slots.size), .ref s.heap.size, .ref a])) := by
    have hc : Steps p.tables e below (s₁.setTop (entryFrame m #[.ref a, .ref b, .int (Int32.ofNat o), .int (Int32.ofNat len), .null] 6)) (T8.setTop (mkF m 45 #[.val (.ref a), .val (.ref b), .val (.int (Int32.ofNat o)), .val (.int (Int32.ofNat len)), .val .null, .val (.ref s.heap.size)] [.int (Int32.ofNat len), .ref s.heap.size, .ref a])) := c9.trans (by
      refine XS.astore X8.here hexec rfl (hb hbytes d39) rfl rfl rfl ?_
      refine XS.aloadN X8.here hexec rfl (hb hbytes d41) rfl rfl ?_
      refine XS.aload X8.here hexec rfl (hb hbytes d42) rfl rfl ?_
      refine XS.iloadN X8.here hexec rfl (hb hbytes d44) rfl ?_
      exact Steps.refl _)
    rw [n4]; exact hc
  obtain ⟨v11, T11, X11, E11, g11⟩ := X8.callS hexec (CodL.law l s.heap.size N) hown (wks W (staticW "java/lang/String" 47 CodL.yN)) (wk W CodL.tab) (W := 1) (Nat.le_of_ble_eq_true rfl) (Nat.le_of_ble_eq_true rfl) (Nat.le_refl _) (by show 0 + len + 0 ≤ len; omega) (g := (mkF m 45 #[.val (.ref a), .val (.ref b), .val (.int (Int32.ofNat o)), .val (.int (Int32.ofNat len)), .val .null, .val (.ref s.heap.size)] [.int (Int32.ofNat N.slots.size), .ref s.heap.size, .ref a])) rfl (by rw [hml]; rfl) c10 (argsL := [.ref s.heap.size, .int (Int32.ofNat N.slots.size)]) (rest := [.ref a]) rfl rfl (by show 2 * 0 + (1 + 0) ≤ _; decide) (hb hbytes d45) (⟨rfl, n1⟩)
  obtain ⟨rfl, q11⟩ := E11
  have hB11 := hB1.mv (X8.warmed.alike.symm.trans X11.warmed.alike) q11
  have c12 : Steps p.tables e below (s₁.setTop (entryFrame m #[.ref a, .ref b, .int (Int32.ofNat o), .int (Int32.ofNat len), .null] 6)) (T11.setTop (mkF m 48 #[.val (.ref a), .val (.ref b), .val (.int (Int32.ofNat o)), .val (.int (Int32.ofNat len)), .val .null, .val (.ref s.heap.size)] [.int 0, .ref a])) := g11
  obtain ⟨T13, X13, p13, bl13, sl13, st13⟩ := X11.finit hexec hown (wk W (.fieldLink "java/lang/String" 15 "java/lang/String" "coder" "B")) (Or.inr ⟨_, (wk W (.laysFinal "java/lang/String" "java/lang/String" "coder" "B"))⟩) (Or.inl ⟨rfl, hnm⟩) f2 (Or.inl rfl) hB11 (t := .byte) (by decide +kernel) rfl (g := (mkF m 48 #[.val (.ref a), .val (.ref b), .val (.int (Int32.ofNat o)), .val (.int (Int32.ofNat len)), .val .null, .val (.ref s.heap.size)] [.int 0, .ref a])) rfl (rest := []) rfl (hb hbytes d48)
  have c14 : Steps p.tables e below (s₁.setTop (entryFrame m #[.ref a, .ref b, .int (Int32.ofNat o), .int (Int32.ofNat len), .null] 6)) (T13.setTop (mkF m 54 #[.val (.ref a), .val (.ref b), .val (.int (Int32.ofNat o)), .val (.int (Int32.ofNat len)), .val .null, .val (.ref s.heap.size)] [.ref s.heap.size, .ref a])) := (c12.trans (st13 _ (Steps.refl _))).trans (by
    refine XS.aloadN X13.here hexec rfl (hb hbytes d51) rfl rfl ?_
    refine XS.aload X13.here hexec rfl (hb hbytes d52) rfl rfl ?_
    exact Steps.refl _)
  obtain ⟨T15, X15, p15, bl15, sl15, st15⟩ := X13.finit hexec hown (wk W (.fieldLink "java/lang/String" 9 "java/lang/String" "value" "[B")) (Or.inr ⟨_, (wk W (.laysFinal "java/lang/String" "java/lang/String" "value" "[B"))⟩) (Or.inl ⟨rfl, hnm⟩) f1 (Or.inl rfl) bl13 (t := (.array .byte)) (by decide +kernel) rfl (g := (mkF m 54 #[.val (.ref a), .val (.ref b), .val (.int (Int32.ofNat o)), .val (.int (Int32.ofNat len)), .val .null, .val (.ref s.heap.size)] [.ref s.heap.size, .ref a])) rfl (rest := []) rfl (hb hbytes d54)
  have c16 : Steps p.tables e below (s₁.setTop (entryFrame m #[.ref a, .ref b, .int (Int32.ofNat o), .int (Int32.ofNat len), .null] 6)) (T15.setTop (mkF m 57 #[.val (.ref a), .val (.ref b), .val (.int (Int32.ofNat o)), .val (.int (Int32.ofNat len)), .val .null, .val (.ref s.heap.size)] [])) := c14.trans (st15 _ (Steps.refl _))
  have ap := apart (Or.inr ⟨_, (wk W (.laysFinal "java/lang/String" "java/lang/String" "value" "[B"))⟩) (Or.inr ⟨_, (wk W (.laysFinal "java/lang/String" "java/lang/String" "coder" "B"))⟩) f1 f2 (t₁ := .array .byte) (t₂ := .byte) (by decide +kernel) (by decide +kernel) (by decide)
  have al := X8.warmed.alike.symm.trans X15.warmed.alike
  have n7 : T11.heap[s.heap.size]? = some N := by rw [q11]; exact n1.1
  exact ⟨T15, none, _, _, _, X15, by simp, rfl, by omega, (fun _ => rfl), ⟨rfl, _, N, bl15, ((Same.refl D _).set _ (by simp)).set _ (by simp), sl15, (Cell.slots_setSlot_ne _ ap).trans sl13, n1.keep al (p15.other hne (p13.other hne n7)), n2, by rw [al.findClass]; exact n3, n4, n5, fun y c h1 h2 => p15.other h1 (p13.other h1 (by rw [q11]; exact n6 y c h2)), by rw [p15.2.2, p13.2.2, q11]; exact z8⟩, fun fs hl => c16.trans (X15.returnOut hexec hret (hb hbytes d57) hl)⟩
end New4
namespace New1
def yN : MethodName := ⟨"java/lang/String", "<init>", "([C)V"⟩
abbrev yB : ByteArray := jdk_42_method_3_code
theorem d0 : decode yB 0 = .ok (.aload_n 0, 1) := by decide +kernel
theorem d1 : decode yB 1 = .ok (.aload_n 1, 1) := by decide +kernel
theorem d2 : decode yB 2 = .ok (.iconst 0, 1) := by decide +kernel
theorem d3 : decode yB 3 = .ok (.aload_n 1, 1) := by decide +kernel
theorem d4 : decode yB 4 = .ok (.arraylength, 1) := by decide +kernel
theorem d5 : decode yB 5 = .ok (.aconst_null, 1) := by decide +kernel
theorem d6 : decode yB 6 = .ok (.invokespecial 27, 3) := by decide +kernel
theorem d9 : decode yB 9 = .ok (.return_, 1) := by decide +kernel
def site : List Cond := [New4.tab] ++ initW "java/lang/String" 27 New4.yN
def tab : Cond := tabOf yN yB 2 none site
def P (a : Addr) (D : Cell) (fV fC : Field) (b : Addr) (A : Cell) (z : Int32) (args : Array Value) (s : State) : Prop := args = #[.ref a, .ref b] ∧ Blank "java/lang/String" a D s ∧ Found "java/lang/String" "value" "[B" fV s ∧ Found "java/lang/String" "coder" "B" fC s ∧ Ch b A s ∧ StaticIs s "java/lang/String" "COMPACT_STRINGS" "Z" (.int z) ∧ ¬ z = 0 ∧ 0 < A.slots.size ∧ A.slots.size ≤ 536870912 ∧ ∀ i, i < A.slots.size → ¬ 255 < cv A i
def E (a : Addr) (D : Cell) (fV fC : Field) (A : Cell) (r : Option Value) (s u : State) : Prop := Got a D fV fC A 0 A.slots.size r s u
/-- new String(chars), not empty, no char above 255: a Latin-1 String of their low bytes -/
theorem law (l : Launch) (a : Addr) (D : Cell) (fV fC : Field) (b : Addr) (A : Cell) (z : Int32) : Law l yN 2 1 3 52 yB 2 none site (P a D fV fC b A z) (E a D fV fC A) [⟨a, fC.slot⟩, ⟨a, fV.slot⟩] 1 A.slots.size := by
  refine Law.of_walk (plainFor_of_name (by decide +kernel)) (by decide +kernel) (by decide +kernel) (by decide) (fun _ _ h => by rw [h.1]; rfl) (fun _ U U' hal hh h => ⟨h.1, h.2.1.mv hal hh, h.2.2.1.al hal, h.2.2.2.1.al hal, h.2.2.2.2.1.mv hal hh, h.2.2.2.2.2.1.there hal hh, h.2.2.2.2.2.2⟩) (fun r U U' V V' h1 hal h2 h => Got.mv r U U' V V' h1 hal h2 h) ?_
  intro p e s m args below meth c s₁ X0 hexec hbytes hml hret hlk hnm hown hh0 W hP
  obtain ⟨rfl, hB, f1, f2, hA, s1, hz, l0, l2, hp⟩ := hP
  have c1 : Steps p.tables e below (s₁.setTop (entryFrame m #[.ref a, .ref b] 2)) (s₁.setTop (mkF m 0 #[.val (.ref a), .val (.ref b)] [])) := entry rfl
  have c2 : Steps p.tables e below (s₁.setTop (entryFrame m #[.ref a, .ref b] 2)) (s₁.setTop (mkF m 6 #[.val (.ref a), .val (.ref b)] [.null, .int (Int32.ofNat A.slots.size), .int 0, .ref b, .ref a])) := c1.trans (by
    refine XS.aloadN X0.here hexec rfl (hb hbytes d0) rfl rfl ?_
    refine XS.aloadN X0.here hexec rfl (hb hbytes d1) rfl rfl ?_
    refine iconstV X0.here hexec rfl 0 (hb hbytes d2) (by decide) ?_
    refine XS.aloadN X0.here hexec rfl (hb hbytes d3) rfl rfl ?_
    refine X0.alen hexec (hA.1.mv X0.warmed.alike hh0) rfl rfl (hb hbytes d4) ?_
    refine XS.aconstNull X0.here hexec rfl (hb hbytes d5) ?_
    exact Steps.refl _)
  obtain ⟨v3, T3, X3, E3, g3⟩ := X0.callN hexec (New4.law l a D fV fC b A z 0 A.slots.size) rfl hown (wks W (initW "java/lang/String" 27 New4.yN)) (W New4.tab (by simp only [site, List.mem_cons, List.mem_append, true_or, or_true])) (W := 0) (Nat.le_of_ble_eq_true rfl) (Nat.le_of_ble_eq_true rfl) (Nat.le_refl _) (by show 0 + A.slots.size ≤ A.slots.size; omega) (g := (mkF m 6 #[.val (.ref a), .val (.ref b)] [.null, .int (Int32.ofNat A.slots.size), .int (Int32.ofNat 0), .ref b, .ref a])) rfl (by rw [hml]; rfl) c2 (argsL := [.ref b, .int (Int32.ofNat 0), .int (Int32.ofNat A.slots.size), .null]) (rest := []) rfl rfl (by show 2 * 0 + 0 ≤ _; decide) (hb hbytes d6) (⟨rfl, hB.mv X0.warmed.alike hh0, f1.al X0.warmed.alike, f2.al X0.warmed.alike, hA.mv X0.warmed.alike hh0, s1.there X0.warmed.alike hh0, hz, l0, by omega, l2, fun i hi => by rw [Nat.zero_add]; exact hp i hi⟩)
  have e0 := Got.mv _ s₁ s _ _ hh0.symm (Vm.Alike.refl _) rfl E3
  obtain rfl := e0.1
  have c4 : Steps p.tables e below (s₁.setTop (entryFrame m #[.ref a, .ref b] 2)) (T3.setTop (mkF m 9 #[.val (.ref a), .val (.ref b)] [])) := g3
  exact ⟨T3, none, _, _, _, X3, by simp, rfl, by omega, (fun _ => rfl), e0, fun fs hl => c4.trans (X3.returnOut hexec hret (hb hbytes d9) hl)⟩
theorem pays {l : Launch} {R : Room} {p : Program} {e : Env} {below : List Frame} {s : State} {sargs : Array Value} {len W : Nat} (a : Addr) (D : Cell) (fV fC : Field) (b : Addr) (A : Cell) (z : Int32) (htab : tab.before sargs s = true) (hfr : 4 ≤ R.frames) (hlo : W + 65 ≤ R.locals) :
    Back l R p e below s sargs yN len W (fun A₁ a₁ => A₁.cells + 1 ≤ R.cells ∧ A₁.slots + A.slots.size ≤ R.slots ∧ P a D fV fC b A z a₁ A₁.U) (fun A₁ _ v₁ B₁ => E a D fV fC A v₁ A₁.U B₁.U ∧ B₁.locs = A₁.locs ++ [⟨a, fC.slot⟩, ⟨a, fV.slot⟩] ∧ B₁.cells = A₁.cells + 1 ∧ B₁.slots = A₁.slots + A.slots.size) :=
  (law l a D fV fC b A z).pays htab hfr (by omega)
end New1
/-- the byte, read back as charAt reads it, is the char -/
theorem lo8_mask {x : Int32} (h0 : ¬ x < 0) (h1 : ¬ 255 < x) : lo8 x &&& 255 = x := by
  have t : ∀ k : Fin 256, lo8 (Int32.ofNat k.val) &&& 255 = Int32.ofNat k.val := by decide +kernel
  rw [Int32.lt_iff_toInt_lt] at h0 h1
  have e0 : (0 : Int32).toInt = 0 := rfl
  have e1 : (255 : Int32).toInt = 255 := rfl
  obtain ⟨k, hk⟩ : ∃ k : Nat, x.toInt = k := ⟨x.toInt.toNat, by omega⟩
  have hx : x = Int32.ofNat k := Int32.toInt_inj.mp (by rw [hk, Int32.toInt_ofNat_small (by omega)])
  rw [hx]
  exact t ⟨k, by omega⟩
end StrChars
namespace StrChars.Road
open Jvm Sem ClassFile Op Lib Jvm.Stand Jvm.Free Jvm.Free.XT
open Jvm.Lib.Cold (StaticIs)
abbrev ST : String := "java/lang/String"
/-- every table word that New1's law asks, flat -/
abbrev words : List Jvm.Cond := [.code New1.yN New1.yB 2 none, .initialized ST, .methodLink ST 27 New4.yN, .instanceMethod New4.yN,
  .code New4.yN New4.yB 6 none, .fieldLink ST 38 ST "COMPACT_STRINGS" "Z", .laysFinal ST ST "value" "[B", .fieldLink ST 9 ST "value" "[B", .laysFinal ST ST "coder" "B", .fieldLink ST 15 ST "coder" "B",
  .methodLink ST 1 Lib.objectInit, .instanceMethod Lib.objectInit, .code Lib.objectInit ⟨#[0xb1]⟩ 1 none, .methodLink ST 177 Cmp3.yN, .static Cmp3.yN, .methodLink ST 47 CodL.yN, .static CodL.yN,
  .code Cmp3.yN Cmp3.yB 6 (some (.array .byte)), .initialized U16, .arrayClass .byte, .methodLink U16 115 Cmp5.yN, .static Cmp5.yN, .code Cmp5.yN Cmp5.yB 7 (some .int), .code CodL.yN CodL.yB 2 (some .byte)]
theorem tab_of {a : Array Value} {s : State} (h : ∀ w ∈ words, w.before a s = true) : New1.tab.before a s = true := by
  have h5 : Cmp5.tab.before a s = true := unparts (wk h (.code Cmp5.yN Cmp5.yB 7 (some .int))) (wks h (.initialized Cmp5.yN.cls :: Cmp5.site))
  have hc : CodL.tab.before a s = true := unparts (wk h (.code CodL.yN CodL.yB 2 (some .byte))) (wks h (.initialized CodL.yN.cls :: CodL.site))
  have q5 : ∀ w ∈ Cmp5.tab :: words, w.before a s = true := fun w hw => (List.mem_cons.mp hw).elim (fun e => e ▸ h5) (h w)
  have h3 : Cmp3.tab.before a s = true := unparts (wk q5 (.code Cmp3.yN Cmp3.yB 6 (some (.array .byte)))) (wks q5 (.initialized Cmp3.yN.cls :: Cmp3.site))
  have q3 : ∀ w ∈ Cmp3.tab :: CodL.tab :: words, w.before a s = true := fun w hw => (List.mem_cons.mp hw).elim (fun e => e ▸ h3) fun hw => (List.mem_cons.mp hw).elim (fun e => e ▸ hc) (h w)
  have h4 : New4.tab.before a s = true := unparts (wk q3 (.code New4.yN New4.yB 6 none)) (wks q3 (.initialized New4.yN.cls :: New4.site))
  have q4 : ∀ w ∈ New4.tab :: words, w.before a s = true := fun w hw => (List.mem_cons.mp hw).elim (fun e => e ▸ h4) (h w)
  exact unparts (wk q4 (.code New1.yN New1.yB 2 none)) (wks q4 (.initialized New1.yN.cls :: New1.site))
/-- the words ride from the start Z to the walk's own state -/
theorem moved {Z s : State} {a0 args : Array Value} (hZ : Z.Warmed39 s.vm) (hw : ∀ d ∈ words, d.before a0 Z = true) : ∀ d ∈ words, d.before args s = true := fun d hd => by
  have q := hw d hd
  have t : ∀ d ∈ words, d = .arrayClass .byte ∨ (d.onTables && d.keepsFace) = true := by decide +kernel
  rcases t d hd with rfl | t
  · exact RoadKit.mvA hZ q
  · exact RoadKit.mv hZ q t
/-- WHAT COMES BACK, over the tables of the start Z: h the heap at the call, h' behind it -/
def Q (Z : State) (x : Addr) (A : Cell) (h : Heap) (v : Option Value) (h' : Heap) (L : List Loc) : Prop := v = none ∧ (∀ y ∈ L, y.base = x) ∧ RoadKit.Keep h h' [x] ∧ h'.size = h.size + 1 ∧ RoadKit.Exa Z h' x ST ∧ RoadKit.Fld Z h' x ST "value" "[B" (.ref h.size) ∧ RoadKit.Fld Z h' x ST "coder" "B" (.int 0) ∧
  (∃ V : Cell, RoadKit.Arr Z h' h.size V .byte ∧ V.vm = .none ∧ Z.vm.findClass "[B" = some V.cls ∧ V.slots.size = A.slots.size ∧ ∀ j, j < A.slots.size → V.slots[j]? = some (.int (lo8 (cv A j)))) ∧
  ∀ (O n d : String) (w : Value), RoadKit.Fld Z h x O n d w → RoadKit.slotOf Z O n d ≠ RoadKit.slotOf Z ST "value" "[B" → RoadKit.slotOf Z O n d ≠ RoadKit.slotOf Z ST "coder" "B" → RoadKit.Fld Z h' x O n d w
/-- **new String(chars) AT A CALL, IN THE ROAD'S FORM**: for specialBack behind newO: x the fresh String, b the char[] with the cell A -/
theorem back {p : Program} {l : Launch} {e : Env} {R : Room} {s : State} {args : Array Value} {below : List Frame} {len W : Nat} {Z : State} {a0 : Array Value} {h : Heap} (hZ : Z.Warmed39 s.vm) (hw : ∀ d ∈ words, d.before a0 Z = true) {kI : Nat} (wi : (Jvm.Cond.instantiable ST kI).before a0 Z = true)
    {x b : Addr} {A : Cell} {z : Int32} {v0 c0 : Value} (E : RoadKit.Exa Z h x ST) (V : RoadKit.Fld Z h x ST "value" "[B" v0) (C : RoadKit.Fld Z h x ST "coder" "B" c0) (K : RoadKit.Arr Z h b A .char) (hty : Typed .char A) (S : RoadKit.Sta Z h ST "COMPACT_STRINGS" "Z" (.int z)) (hz : ¬ z = 0)
    (l0 : 0 < A.slots.size) (l2 : A.slots.size ≤ 536870912) (hp : ∀ i, i < A.slots.size → ¬ 255 < cv A i) (hfr : 4 ≤ R.frames) (hlo : W + 65 ≤ R.locals) :
    Back l R p e below s args New1.yN len W (fun P a => a = #[.ref x, .ref b] ∧ P.U.heap = h ∧ P.cells + 1 ≤ R.cells ∧ P.slots + A.slots.size ≤ R.slots)
      (fun P _ v B => ∃ L, Q Z x A h v B.U.heap L ∧ B.locs = P.locs ++ L ∧ B.cells = P.cells + 1 ∧ B.slots = P.slots + A.slots.size) := by
  intro m meth c P g ig mk a X hg hsize hdg hW hn hp'
  obtain ⟨rfl, rfl, r1, r2⟩ := hp'
  have al : Z.vm.Alike P.U.vm := hZ.alike.trans X.warmed.alike
  obtain ⟨D, cfV, kV, iV, fV, hD, gV, stV, knV, obV, asV, slV⟩ := id V
  obtain ⟨D', cfC, kC, iC, fC, hD', gC, stC, -, -, asC, slC⟩ := id C
  cases hD.symm.trans hD'
  obtain ⟨D2, kD, e1, e2, e3, e4, e5⟩ := id E
  cases hD.symm.trans e1
  obtain ⟨c2, k2, i1, i2, i3, -⟩ := Cond.instantiable_spec wi
  cases e2.symm.trans i1
  cases e3.symm.trans i2
  obtain ⟨kU, u1, u2⟩ := al.2.2 _ _ e3
  have hB : Blank ST x D P.U := ⟨hD, ⟨knV, fun q hq => by rw [hq] at obV; cases obV⟩, by rw [al.findClass]; exact e2, kU, u1, by rw [u2]; exact i3, by rw [u2]; exact e5 i3⟩
  have F1 : Found ST "value" "[B" fV P.U := ⟨SBG.found_only al ⟨cfV, kV, iV, gV⟩, stV⟩
  have F2 : Found ST "coder" "B" fC P.U := ⟨SBG.found_only al ⟨cfC, kC, iC, gC⟩, stC⟩
  have hA : Ch b A P.U := ⟨⟨K.1, State.isArrayOf_alike al K.2.1, K.2.2, by omega⟩, hty⟩
  have hS : StaticIs P.U ST "COMPACT_STRINGS" "Z" (.int z) := by
    obtain ⟨cfS, iS, kS, fS, st, cS, t1, t2, t3, t4, t5, t6, t7⟩ := S
    exact StaticIs.there (s := { Z with heap := P.U.heap }) ⟨cfS, iS, kS, fS, st, cS, t1, t2, t3, t4, t5, (fun q => by rw [q] at t6; cases t6), t7⟩ al rfl
  obtain ⟨v, B, X', ⟨⟨hv, E', V', q1, q2, q3, q4, q5, q6, q7, q8, q9, q10, q11⟩, hl, hc, hs⟩, st⟩ := New1.pays x D fV fC b A z (tab_of (moved hZ hw)) hfr hlo m meth c P g ig mk _ X hg hsize hdg hW hn ⟨r1, r2, rfl, hB, F1, F2, hA, hS, hz, l0, l2, hp⟩
  have al' : Z.vm.Alike B.U.vm := hZ.alike.trans X'.warmed.alike
  have hsz : E'.slots.size = D.slots.size := by
    obtain ⟨-, -, -, kB, w1, w2, w3⟩ := q1
    obtain ⟨kB', y1, y2⟩ := al'.2.2 _ _ e3
    rw [q2.2.1] at w1
    cases w1.symm.trans y1
    rw [w3, e5 i3, y2]
  refine ⟨v, B, X', ⟨_, ⟨hv, ?_, ⟨by omega, fun y cy hy hn' => q10 y cy (by simpa using hn') hy, fun y cy hy => ?_⟩, q11, ⟨E', _, q1.1, by rw [q2.2.1]; exact e2, by rw [q2.2.1]; exact e3, by rw [q2.1]; exact obV, fun _ => by rw [hsz]; exact e5 i3⟩,
    ⟨E', cfV, kV, iV, fV, q1.1, gV, stV, by rw [q2.1]; exact knV, by rw [q2.1]; exact obV, by rw [q2.2.1]; exact asV, q3⟩, ⟨E', cfC, kC, iC, fC, q1.1, gC, stC, by rw [q2.1]; exact knV, by rw [q2.1]; exact obV, by rw [q2.2.1]; exact asC, q4⟩,
    ⟨V', ⟨q5.1, State.isArrayOf_alike al'.symm q5.2.1, q5.2.2.1⟩, q6, by rw [← al'.findClass]; exact q7, q8, fun j hj => by have := q9 j hj; rwa [Nat.zero_add] at this⟩, fun O n d w F n1 n2 => ?_⟩, hl, hc, hs⟩, st⟩
  · intro y hy
    simp only [List.mem_cons, List.not_mem_nil, or_false] at hy
    rcases hy with rfl | rfl <;> rfl
  · by_cases q : y = x
    · subst q
      cases hD.symm.trans hy
      exact ⟨E', q1.1, q2.2.1, q2.1, hsz⟩
    · exact ⟨cy, q10 y cy q hy, rfl, rfl, rfl⟩
  · obtain ⟨D3, cf, k, i, f, g1, g2, g3, g4, g5, g6, g7⟩ := F
    cases hD.symm.trans g1
    simp only [RoadKit.slotOf, g2, gV, gC, Option.map_some, Option.getD_some] at n1 n2
    exact ⟨E', cf, k, i, f, q1.1, g2, g3, by rw [q2.1]; exact g4, by rw [q2.1]; exact g5, by rw [q2.2.1]; exact g6, by rw [q2.2.2 f.slot (by simp [n1, n2])]; exact g7⟩
end StrChars.Road
namespace StrChars.Road
open Jvm Sem ClassFile Op Lib Jvm.Stand Jvm.Free Jvm.Free.XT
/-- WHAT COMES BACK, the byte[] as a list of values -/
def QA (Z : State) (x : Addr) (zn : Int32) (cs : List Int32) (h : Heap) (v : Option Value) (h' : Heap) (L : List Loc) : Prop := v = none ∧ (∀ y ∈ L, y.base = x) ∧ RoadKit.Keep h h' [x] ∧ h'.size = h.size + 1 ∧ RoadKit.Exa Z h' x ST ∧ RoadKit.Fld Z h' x ST "value" "[B" (.ref h.size) ∧ RoadKit.Fld Z h' x ST "coder" "B" (.int 0) ∧
  (∃ kb, Z.vm.findClass "[B" = some kb ∧ RoadKit.Arv Z h' h.size kb .byte zn (cs.map fun c => .int (lo8 c)) (.int 0)) ∧
  ∀ (O n d : String) (w : Value), RoadKit.Fld Z h x O n d w → RoadKit.slotOf Z O n d ≠ RoadKit.slotOf Z ST "value" "[B" → RoadKit.slotOf Z O n d ≠ RoadKit.slotOf Z ST "coder" "B" → RoadKit.Fld Z h' x O n d w
/-- **new String(chars) AT A CALL, THE ARRAYS AS LISTS**: the char[] at b holds cs, not empty, no char above 255 -/
theorem backArv {p : Program} {l : Launch} {e : Env} {R : Room} {s : State} {args : Array Value} {below : List Frame} {len W : Nat} {Z : State} {a0 : Array Value} {h : Heap} (hZ : Z.Warmed39 s.vm) (hw : ∀ d ∈ words, d.before a0 Z = true) {kI : Nat} (wi : (Jvm.Cond.instantiable ST kI).before a0 Z = true)
    {x b : Addr} {k : ClassId} {zn z : Int32} {cs : List Int32} {dv v0 c0 : Value} (E : RoadKit.Exa Z h x ST) (V : RoadKit.Fld Z h x ST "value" "[B" v0) (C : RoadKit.Fld Z h x ST "coder" "B" c0) (K : RoadKit.Arv Z h b k .char zn (cs.map Value.int) dv) (S : RoadKit.Sta Z h ST "COMPACT_STRINGS" "Z" (.int z)) (hz : ¬ z = 0)
    (hlen : zn.toNatClampNeg = cs.length) (h0 : 0 < cs.length) (hbig : cs.length ≤ 536870912) (hall : ∀ c ∈ cs, ¬ 255 < c) (hfr : 4 ≤ R.frames) (hlo : W + 65 ≤ R.locals) :
    Back l R p e below s args New1.yN len W (fun P a => a = #[.ref x, .ref b] ∧ P.U.heap = h ∧ P.cells + 1 ≤ R.cells ∧ P.slots + cs.length ≤ R.slots)
      (fun P _ v B => ∃ L, QA Z x zn cs h v B.U.heap L ∧ B.locs = P.locs ++ L ∧ B.cells = P.cells + 1 ∧ B.slots = P.slots + cs.length) := by
  obtain ⟨A, K1, K2, K3, K4, K5, K6⟩ := K
  have e : A.slots.size = cs.length := K3.trans hlen
  have hat : ∀ (i : Nat) (hi : i < cs.length), A.slots[i]? = some (.int cs[i]) := fun i hi => by rw [K5 i (by omega)]; simp [List.getD_eq_getElem?_getD, hi]
  have hcv : ∀ (i : Nat) (hi : i < cs.length), cv A i = cs[i] := fun i hi => by unfold cv; rw [hat i hi]
  have hty : Typed .char A := fun i v hv => by
    have hi : i < A.slots.size := (Array.getElem?_eq_some_iff.mp hv).1
    have q := K5 i hi
    rw [hv] at q
    rw [Option.some.inj q]
    exact K6 i hi
  refine Back.mono (back hZ hw wi E V C K1 hty S hz (by omega) (by omega) (fun i hi => by rw [hcv i (by omega)]; exact hall _ (List.getElem_mem _)) hfr hlo) (fun P a hp => ⟨hp.1, hp.2.1, hp.2.2.1, by rw [e]; exact hp.2.2.2⟩) (fun P a v B hp hq => ?_)
  obtain ⟨L, ⟨q1, q2, q3, q4, q5, q6, q7, ⟨V', v1, v2, v3, v4, v5⟩, q9⟩, hl, hc, hs⟩ := hq
  refine ⟨L, ⟨q1, q2, q3, q4, q5, q6, q7, ⟨V'.cls, v3, V', v1, rfl, by rw [v4, e, hlen], K4, fun i hi => ?_, fun i hi => ?_⟩, q9⟩, hl, hc, by rw [hs, e]⟩
  · have hi' : i < cs.length := by omega
    rw [v5 i (by omega), hcv i hi']; simp [List.getD_eq_getElem?_getD, hi']
  · have hi' : i < cs.length := by omega
    simp only [List.getD_eq_getElem?_getD, List.getElem?_map, List.getElem?_eq_getElem hi', Option.map_some, Option.getD_some]
    exact fits_lo8 _
end StrChars.Road
namespace StrChars.Road
open Jvm Sem ClassFile Op Lib Jvm.Stand Jvm.Free Jvm.Free.XT
/-- WHAT COMES BACK, in the writer's own shape -/
def QV (Z : State) (x : Addr) (N : Int32) (bs : List Int32) (h : Heap) (n0 : Nat) (v : Option Value) (h' : Heap) (L : List Loc) : Prop := v = none ∧ RoadKit.Fr n0 L ∧ RoadKit.Keep h h' [x] ∧ RoadKit.Exa Z h' x ST ∧ RoadKit.Fld Z h' x ST "coder" "B" (.int 0) ∧
  ∃ (t : Addr) (kb : ClassId), n0 ≤ t ∧ h.size ≤ t ∧ ¬ t = x ∧ RoadKit.Fld Z h' x ST "value" "[B" (.ref t) ∧ RoadKit.Arv Z h' t kb .byte N (bs.map Value.int) (.int 0)
/-- **new String(chars) AT A CALL, FOR THE WRITER**: a char[] of n known ints, each 0 to 255 -/
theorem backV {p : Program} {l : Launch} {e : Env} {R : Room} {s : State} {args : Array Value} {below : List Frame} {len W : Nat} {Z : State} {a0 : Array Value} {h : Heap} (hZ : Z.Warmed39 s.vm) (hw : ∀ d ∈ words, d.before a0 Z = true) {kI : Nat} (wi : (Jvm.Cond.instantiable ST kI).before a0 Z = true)
    {x b : Addr} {kC : ClassId} {cs bs : List Int32} {d v0 c0 : Value} {z N : Int32} {n n0 : Nat} (hx0 : n0 ≤ x) (hh0 : n0 ≤ h.size) (E : RoadKit.Exa Z h x ST) (V : RoadKit.Fld Z h x ST "value" "[B" v0) (C : RoadKit.Fld Z h x ST "coder" "B" c0) (K : RoadKit.Arv Z h b kC .char N (cs.map Value.int) d) (S : RoadKit.Sta Z h ST "COMPACT_STRINGS" "Z" (.int z)) (hz : ¬ z = 0)
    (hn : cs.length = n) (hN : N = Int32.ofNat n) (l0 : 0 < n) (l2 : n ≤ 4000) (hp : ∀ c ∈ cs, ¬ c < 0 ∧ ¬ (255 : Int32) < c) (hb : bs = cs.map (fun c => c.toInt8.toInt32)) (hfr : 4 ≤ R.frames) (hlo : W + 65 ≤ R.locals) :
    Back l R p e below s args (⟨"java/lang/String", "<init>", "([C)V"⟩ : MethodName) len W (fun P a => a = #[.ref x, .ref b] ∧ P.U.heap = h ∧ P.cells + 1 ≤ R.cells ∧ P.slots + n ≤ R.slots)
      (fun P _ v B => ∃ L, QV Z x N bs h n0 v B.U.heap L ∧ B.locs = P.locs ++ L ∧ B.cells = P.cells + 1 ∧ B.slots = P.slots + n) := by
  subst hn hN hb
  refine Back.mono (backArv hZ hw wi E V C K S hz (n32 (by omega)) l0 (by omega) (fun c hc => (hp c hc).2) hfr hlo) (fun P a hp => hp) (fun P a v B hp hq => ?_)
  obtain ⟨L, ⟨q1, q2, q3, q4, q5, q6, q7, ⟨kb, v1, v2⟩, q9⟩, hl, hc, hs⟩ := hq
  exact ⟨L, ⟨q1, fun y hy => by rw [q2 y hy]; exact hx0, q3, q5, q7, h.size, kb, hh0, Nat.le_refl _, Nat.ne_of_gt E.lt, q6, by rw [List.map_map]; exact v2⟩, hl, hc, hs⟩
end StrChars.Road
namespace StrChars
open Jvm Sem ClassFile Op Lib Jvm.Stand Jvm.Free.XT Jvm.Free.ALB Jvm.Free.JM Jvm.Free
open Jvm.Lib.Cold (StaticIs)
def hi8 (x : Int32) : Int32 := lo8 (x >>> ((8 : Int32) &&& 31))
/-- what StringUTF16.getChar makes of two bytes -/
def pairCh (u v : Int32) : Int32 := (((u &&& 255) <<< ((0 : Int32) &&& 31)) ||| ((v &&& 255) <<< ((8 : Int32) &&& 31))).toUInt32.toUInt16.toUInt32.toInt32
theorem shr0 (c : Int32) : c >>> ((0 : Int32) &&& 31) = c := by
  have e : ((0 : Int32) &&& 31) = 0 := by decide
  rw [e]
  apply Int32.toBitVec_inj.mp
  rw [Int32.toBitVec_shiftRight]
  have e1 : ((0 : Int32).toBitVec.smod 32) = 0#32 := by decide
  rw [e1, BitVec.sshiftRight_eq']
  exact BitVec.sshiftRight_zero
theorem lo8_and (x : Int32) : (lo8 x &&& 255).toBitVec.toNat = x.toBitVec.toNat % 256 := by
  have h : (lo8 x).toBitVec = (x.toBitVec.signExtend 8).signExtend 32 := by rw [lo8, Int8.toBitVec_toInt32, Int32.toBitVec_toInt8]
  rw [Int32.toBitVec_and, BitVec.toNat_and, h]
  have e : ((x.toBitVec.signExtend 8).signExtend 32).toNat % 256 = x.toBitVec.toNat % 256 := by
    rw [BitVec.toNat_signExtend]
    have hlt := x.toBitVec.isLt
    simp only [BitVec.toNat_setWidth, BitVec.toNat_signExtend]
    split <;> split <;> omega
  rw [← e]
  exact Nat.and_two_pow_sub_one_eq_mod _ 8
theorem pair_says {c : Int32} (h0 : ¬ c < 0) (h1 : ¬ 65535 < c) : pairCh (lo8 c) (hi8 c) = c := by
  rw [Int32.lt_iff_toInt_lt] at h0 h1
  have e0 : (0 : Int32).toInt = 0 := rfl
  have e1 : (65535 : Int32).toInt = 65535 := rfl
  have hc : c.toInt = c.toBitVec.toNat := by
    have := c.toBitVec.isLt
    have e : c.toInt = c.toBitVec.toInt := rfl
    rw [e] at h0 h1
    rw [e]
    rw [BitVec.toInt_eq_toNat_cond] at h0 h1 ⊢
    split at h0 <;> split <;> omega
  have hn : c.toBitVec.toNat < 65536 := by omega
  have a1 := lo8_and c
  have a2 : (hi8 c &&& 255).toBitVec.toNat = c.toBitVec.toNat / 256 := by
    rw [hi8, lo8_and]
    have e : ((8 : Int32) &&& 31) = 8 := by decide
    rw [e, Int32.toBitVec_shiftRight]
    have e2 : ((8 : Int32).toBitVec.smod 32) = 8#32 := by decide
    rw [e2, BitVec.sshiftRight_eq', BitVec.toNat_sshiftRight_of_msb_false (by rw [BitVec.msb_eq_false_iff_two_mul_lt]; omega)]
    show c.toBitVec.toNat >>> 8 % 256 = _
    rw [Nat.shiftRight_eq_div_pow]
    omega
  unfold pairCh
  apply Int32.toBitVec_inj.mp
  apply BitVec.eq_of_toNat_eq
  have f0 : ((0 : Int32) &&& 31) = 0 := by decide
  have f8 : ((8 : Int32) &&& 31) = 8 := by decide
  rw [f0, f8]
  have g : (((lo8 c &&& 255) <<< (0 : Int32)) ||| ((hi8 c &&& 255) <<< (8 : Int32))).toBitVec.toNat = c.toBitVec.toNat := by
    rw [Int32.toBitVec_or, Int32.toBitVec_shiftLeft, Int32.toBitVec_shiftLeft]
    have s0 : ((0 : Int32).toBitVec.smod 32) = 0#32 := by decide
    have s8 : ((8 : Int32).toBitVec.smod 32) = 8#32 := by decide
    rw [s0, s8, BitVec.toNat_or]
    simp only [BitVec.shiftLeft_eq', BitVec.toNat_shiftLeft, a1, a2]
    show (c.toBitVec.toNat % 256) <<< 0 % 2 ^ 32 ||| (c.toBitVec.toNat / 256) <<< 8 % 2 ^ 32 = _
    rw [Nat.shiftLeft_zero, Nat.mod_eq_of_lt (show c.toBitVec.toNat % 256 < 2 ^ 32 by omega), Nat.mod_eq_of_lt (show (c.toBitVec.toNat / 256) <<< 8 < 2 ^ 32 by rw [Nat.shiftLeft_eq]; omega), Nat.or_comm, ← Nat.shiftLeft_add_eq_or_of_lt (by omega), Nat.shiftLeft_eq]
    omega
  show BitVec.toNat (((((lo8 c &&& 255) <<< (0 : Int32)) ||| ((hi8 c &&& 255) <<< (8 : Int32))).toBitVec.setWidth 16).setWidth 32) = _
  rw [BitVec.toNat_setWidth, BitVec.toNat_setWidth, g]
  omega
end StrChars
namespace StrChars
open Jvm Sem ClassFile Op Lib Jvm.Stand Jvm.Free.XT Jvm.Free.ALB Jvm.Free.JM Jvm.Free
open Jvm.Lib.Cold (StaticIs)
theorem shr1 {n : Nat} (h : 2 * n < 2 ^ 31) : Int32.ofNat (2 * n) >>> ((1 : Int32) &&& 31) = Int32.ofNat n := by
  have e : ((1 : Int32) &&& 31) = 1 := by decide
  rw [e]
  apply Int32.toBitVec_inj.mp
  rw [Int32.toBitVec_shiftRight]
  have e1 : ((1 : Int32).toBitVec.smod 32) = 1#32 := by decide
  have hm : (BitVec.ofNat 32 (2 * n)).toNat = 2 * n := by rw [BitVec.toNat_ofNat, Nat.mod_eq_of_lt (by omega)]
  rw [e1, BitVec.sshiftRight_eq']
  apply BitVec.eq_of_toNat_eq
  show ((BitVec.ofNat 32 (2 * n)).sshiftRight 1).toNat = (BitVec.ofNat 32 n).toNat
  rw [BitVec.toNat_sshiftRight_of_msb_false (by rw [BitVec.msb_eq_false_iff_two_mul_lt, hm]; omega), hm, BitVec.toNat_ofNat, Nat.shiftRight_eq_div_pow]
  omega
/-- charAt's cast of a byte read back -/
def chr8 (u : Int32) : Int32 := (u &&& 255).toUInt32.toUInt16.toUInt32.toInt32
theorem chr8_lo8 {c : Int32} (h0 : ¬ c < 0) (h1 : ¬ 255 < c) : chr8 (lo8 c) = c := by
  have t : ∀ k : Fin 256, (Int32.ofNat k.val).toUInt32.toUInt16.toUInt32.toInt32 = Int32.ofNat k.val := by decide +kernel
  unfold chr8
  rw [lo8_mask h0 h1]
  rw [Int32.lt_iff_toInt_lt] at h0 h1
  have e0 : (0 : Int32).toInt = 0 := rfl
  have e1 : (255 : Int32).toInt = 255 := rfl
  obtain ⟨k, hk⟩ : ∃ k : Nat, c.toInt = k := ⟨c.toInt.toNat, by omega⟩
  have hx : c = Int32.ofNat k := Int32.toInt_inj.mp (by rw [hk, Int32.toInt_ofNat_small (by omega)])
  rw [hx]
  exact t ⟨k, by omega⟩
theorem narrow_ch {c : Int32} (h0 : ¬ c < 0) (h1 : ¬ 65535 < c) : narrow .char (.int c) = .int c := by
  have q : narrow .char (.int (pairCh (lo8 c) (hi8 c))) = .int (pairCh (lo8 c) (hi8 c)) := narrow_c _
  rwa [pair_says h0 h1] at q
/-- the array's cell V codes the n chars f 0 .. f (n - 1) by the coder cd, as the JDK does: coder 1 just where some char is above 255 -/
def Cod (cd : Int32) (n : Nat) (f : Nat → Int32) (V : Cell) : Prop := (cd = 0 ∧ V.slots.size = n ∧ ∀ j, j < n → V.slots[j]? = some (.int (lo8 (f j))) ∧ ¬ 255 < f j) ∨ (cd = 1 ∧ V.slots.size = 2 * n ∧ (∀ j, j < n → V.slots[2 * j]? = some (.int (lo8 (f j))) ∧ V.slots[2 * j + 1]? = some (.int (hi8 (f j)))) ∧ ∃ j, j < n ∧ 255 < f j)
theorem Cod.cd {cd : Int32} {n : Nat} {f : Nat → Int32} {V : Cell} (h : Cod cd n f V) : cd = 0 ∨ cd = 1 := h.imp (fun q => q.1) fun q => q.1
theorem Cod.len {cd : Int32} {n : Nat} {f : Nat → Int32} {V : Cell} (h : Cod cd n f V) (hs : V.slots.size < 2 ^ 31) : Int32.ofNat V.slots.size >>> (cd &&& 31) = Int32.ofNat n := by
  rcases h with ⟨rfl, h, -⟩ | ⟨rfl, h, -⟩
  · rw [shr0, h]
  · rw [h, shr1 (by omega)]
/-- **x is a String of the n chars f 0 .. f (n - 1)**, Latin-1 or UTF-16; its array at t has the cell V -/
def Txt (x t : Addr) (V : Cell) (cd : Int32) (n : Nat) (f : Nat → Int32) (U : State) : Prop := Exact "java/lang/String" x U ∧ Has x "java/lang/String" "value" "[B" (.ref t) U ∧ Has x "java/lang/String" "coder" "B" (.int cd) U ∧ XT.Arr .byte t V U ∧ Cod cd n f V ∧ ∀ j, j < n → ¬ f j < 0 ∧ ¬ 65535 < f j
theorem Txt.mv {x t : Addr} {V : Cell} {cd : Int32} {n : Nat} {f : Nat → Int32} {U U' : State} (h : Txt x t V cd n f U) (hal : U.vm.Alike U'.vm) (hh : U'.heap = U.heap) : Txt x t V cd n f U' := ⟨h.1.mv hal hh, h.2.1.mv hal hh, h.2.2.1.mv hal hh, h.2.2.2.1.mv hal hh, h.2.2.2.2⟩
namespace Cdr
def yN : MethodName := ⟨"java/lang/String", "coder", "()B"⟩
abbrev yB : ByteArray := jdk_42_method_152_code
theorem d0 : decode yB 0 = .ok (.getstatic 38, 3) := by decide +kernel
theorem d3 : decode yB 3 = .ok (.ifCond (.eq) 10, 3) := by decide +kernel
theorem d6 : decode yB 6 = .ok (.aload_n 0, 1) := by decide +kernel
theorem d7 : decode yB 7 = .ok (.getfield 15, 3) := by decide +kernel
theorem d10 : decode yB 10 = .ok (.goto 4, 3) := by decide +kernel
theorem d14 : decode yB 14 = .ok (.ireturn, 1) := by decide +kernel
def site : List Cond := [.fieldLink "java/lang/String" 38 "java/lang/String" "COMPACT_STRINGS" "Z", .fieldLink "java/lang/String" 15 "java/lang/String" "coder" "B"]
def tab : Cond := tabOf yN yB 1 (some .byte) site
def P (x : Addr) (cd z : Int32) (args : Array Value) (s : State) : Prop := args = #[.ref x] ∧ Has x "java/lang/String" "coder" "B" (.int cd) s ∧ (cd = 0 ∨ cd = 1) ∧ StaticIs s "java/lang/String" "COMPACT_STRINGS" "Z" (.int z) ∧ ¬ z = 0
def E (cd : Int32) (r : Option Value) (s u : State) : Prop := XT.PureE (some (.int cd)) r s u
theorem law (l : Launch) (x : Addr) (cd z : Int32) : Law l yN 1 0 0 0 yB 1 (some .byte) site (P x cd z) (E cd) [] 0 0 := by
  refine Law.of_walk (plainFor_of_name (by decide +kernel)) (by decide +kernel) (by decide +kernel) (by decide) (fun _ _ h => by rw [h.1]; rfl) (fun _ U U' hal hh h => ⟨h.1, h.2.1.mv hal hh, h.2.2.1, h.2.2.2.1.there hal hh, h.2.2.2.2⟩) (fun r U U' V V' h1 hal h2 h => XT.PureE.mv r U U' V V' h1 hal h2 h) ?_
  intro p e s m args below meth c s₁ X0 hexec hbytes hml hret hlk hnm hown hh0 W hP
  obtain ⟨rfl, hx, hc, s1, hz⟩ := hP
  have c1 : Steps p.tables e below (s₁.setTop (entryFrame m #[.ref x] 1)) (s₁.setTop (mkF m 0 #[.val (.ref x)] [])) := entry rfl
  obtain ⟨T2, X2, q2, st2⟩ := X0.sget hexec hown (wk W (.fieldLink "java/lang/String" 38 "java/lang/String" "COMPACT_STRINGS" "Z")) s1 (fun _ _ h => by rw [hh0]; exact h) (g := (mkF m 0 #[.val (.ref x)] [])) rfl (hb hbytes d0)
  have hh2 := q2.trans hh0
  have c3 : Steps p.tables e below (s₁.setTop (entryFrame m #[.ref x] 1)) (T2.setTop (mkF m 7 #[.val (.ref x)] [.ref x])) := (c1.trans (st2 _ (Steps.refl _))).trans (by
    refine XS.ifNo X2.here hexec rfl (hb hbytes d3) rfl (i0_eq_f hz) ?_
    refine XS.aloadN X2.here hexec rfl (hb hbytes d6) rfl rfl ?_
    exact Steps.refl _)
  obtain ⟨T4, X4, q4, st4⟩ := X2.hget hexec hown (wk W (.fieldLink "java/lang/String" 15 "java/lang/String" "coder" "B")) (hx.mv X2.warmed.alike hh2) (g := (mkF m 7 #[.val (.ref x)] [.ref x])) rfl (rest := []) rfl (hb hbytes d7)
  have c5 : Steps p.tables e below (s₁.setTop (entryFrame m #[.ref x] 1)) (T4.setTop (mkF m 14 #[.val (.ref x)] [.int cd])) := (c3.trans (st4 _ (Steps.refl _))).trans (by
    refine XS.goto X4.here hexec rfl (pc0 := 10) rfl (hb hbytes d10) (by decide) rfl ?_
    exact Steps.refl _)
  exact ⟨T4, some (.int cd), _, _, _, X4, rfl, rfl, rfl, (fun h => by cases h), ⟨rfl, q4.trans hh2⟩, fun fs hl => c5.trans (X4.ireturnOut hexec hret (by rcases hc with rfl | rfl <;> rfl) (Or.inr (Or.inr (Or.inl rfl))) (hb hbytes d14) hl)⟩
end Cdr
namespace Len
def yN : MethodName := ⟨"java/lang/String", "length", "()I"⟩
abbrev yB : ByteArray := jdk_42_method_54_code
theorem d0 : decode yB 0 = .ok (.aload_n 0, 1) := by decide +kernel
theorem d1 : decode yB 1 = .ok (.getfield 9, 3) := by decide +kernel
theorem d4 : decode yB 4 = .ok (.arraylength, 1) := by decide +kernel
theorem d5 : decode yB 5 = .ok (.aload_n 0, 1) := by decide +kernel
theorem d6 : decode yB 6 = .ok (.invokevirtual 335, 3) := by decide +kernel
theorem d9 : decode yB 9 = .ok (.ishr, 1) := by decide +kernel
theorem d10 : decode yB 10 = .ok (.ireturn, 1) := by decide +kernel
def site : List Cond := [.fieldLink "java/lang/String" 9 "java/lang/String" "value" "[B", Cdr.tab] ++ virtW "java/lang/String" 335 "java/lang/String" Cdr.yN Cdr.yN
def tab : Cond := tabOf yN yB 1 (some .int) site
def P (x t : Addr) (V : Cell) (cd : Int32) (n : Nat) (f : Nat → Int32) (z : Int32) (args : Array Value) (s : State) : Prop := args = #[.ref x] ∧ Txt x t V cd n f s ∧ StaticIs s "java/lang/String" "COMPACT_STRINGS" "Z" (.int z) ∧ ¬ z = 0
def E (n : Nat) (r : Option Value) (s u : State) : Prop := XT.PureE (some (.int (Int32.ofNat n))) r s u
/-- length() of a String of n chars, in either coding -/
theorem law (l : Launch) (x t : Addr) (V : Cell) (cd : Int32) (n : Nat) (f : Nat → Int32) (z : Int32) : Law l yN 1 0 1 13 yB 1 (some .int) site (P x t V cd n f z) (E n) [] 0 0 := by
  refine Law.of_walk (plainFor_of_name (by decide +kernel)) (by decide +kernel) (by decide +kernel) (by decide) (fun _ _ h => by rw [h.1]; rfl) (fun _ U U' hal hh h => ⟨h.1, h.2.1.mv hal hh, h.2.2.1.there hal hh, h.2.2.2⟩) (fun r U U' V V' h1 hal h2 h => XT.PureE.mv r U U' V V' h1 hal h2 h) ?_
  intro p e s m args below meth c s₁ X0 hexec hbytes hml hret hlk hnm hown hh0 W hP
  obtain ⟨rfl, hx, s1, hz⟩ := hP
  have v31 := hx.2.2.2.1.2.2.2
  have c1 : Steps p.tables e below (s₁.setTop (entryFrame m #[.ref x] 1)) (s₁.setTop (mkF m 1 #[.val (.ref x)] [.ref x])) := Steps.trans (entry rfl) (by
    show Steps p.tables e below (s₁.setTop (mkF m 0 #[.val (.ref x)] [])) _
    refine XS.aloadN X0.here hexec rfl (hb hbytes d0) rfl rfl ?_
    exact Steps.refl _)
  obtain ⟨T2, X2, q2, st2⟩ := X0.hget hexec hown (wk W (.fieldLink "java/lang/String" 9 "java/lang/String" "value" "[B")) (hx.mv X0.warmed.alike hh0).2.1 (g := (mkF m 1 #[.val (.ref x)] [.ref x])) rfl (rest := []) rfl (hb hbytes d1)
  have hh2 := q2.trans hh0
  have hx2 := hx.mv X2.warmed.alike hh2
  have c3 : Steps p.tables e below (s₁.setTop (entryFrame m #[.ref x] 1)) (T2.setTop (mkF m 6 #[.val (.ref x)] [.ref x, .int (Int32.ofNat V.slots.size)])) := (c1.trans (st2 _ (Steps.refl _))).trans (by
    refine X2.alen hexec hx2.2.2.2.1 rfl rfl (hb hbytes d4) ?_
    refine XS.aloadN X2.here hexec rfl (hb hbytes d5) rfl rfl ?_
    exact Steps.refl _)
  obtain ⟨v4, T4, X4, E4, g4⟩ := X2.callV hexec (Cdr.law l x cd z) hown (wks W (virtW "java/lang/String" 335 "java/lang/String" Cdr.yN Cdr.yN)) rfl (by decide) (wk W Cdr.tab) (W := 1) (Nat.le_of_ble_eq_true rfl) (Nat.le_of_ble_eq_true rfl) (Nat.le_refl _) (Nat.le_refl _) (hx2.1.fc X2.warmed.alike) hx2.1.is (g := (mkF m 6 #[.val (.ref x)] [.ref x, .int (Int32.ofNat V.slots.size)])) rfl (by rw [hml]; rfl) c3 (argsL := []) (rest := [.int (Int32.ofNat V.slots.size)]) rfl rfl (by show 2 * 0 + (1 + 0) ≤ _; decide) (hb hbytes d6) (⟨rfl, hx2.2.2.1, hx.2.2.2.2.1.cd, s1.there X2.warmed.alike hh2, hz⟩)
  obtain ⟨rfl, q4⟩ := E4
  have c5 : Steps p.tables e below (s₁.setTop (entryFrame m #[.ref x] 1)) (T4.setTop (mkF m 10 #[.val (.ref x)] [.int (Int32.ofNat V.slots.size >>> (cd &&& 31))])) := Steps.trans g4 (by
    refine ishr X4.here hexec rfl (hb hbytes d9) rfl ?_
    exact Steps.refl _)
  rw [hx.2.2.2.2.1.len v31] at c5
  exact ⟨T4, some (.int (Int32.ofNat n)), _, _, _, X4, rfl, rfl, rfl, (fun h => by cases h), ⟨rfl, q4.trans hh2⟩, fun fs hl => c5.trans (X4.ireturnOut hexec hret rfl (Or.inl rfl) (hb hbytes d10) hl)⟩
theorem pays {l : Launch} {R : Room} {p : Program} {e : Env} {below : List Frame} {s : State} {sargs : Array Value} {len W : Nat} (x t : Addr) (V : Cell) (cd : Int32) (n : Nat) (f : Nat → Int32) (z : Int32) (htab : tab.before sargs s = true) (hfr : 2 ≤ R.frames) (hlo : W + 25 ≤ R.locals) :
    Back l R p e below s sargs yN len W (fun A₁ a₁ => A₁.cells + 0 ≤ R.cells ∧ A₁.slots + 0 ≤ R.slots ∧ P x t V cd n f z a₁ A₁.U) (fun A₁ _ v₁ B₁ => E n v₁ A₁.U B₁.U ∧ B₁.locs = A₁.locs ++ [] ∧ B₁.cells = A₁.cells + 0 ∧ B₁.slots = A₁.slots + 0) :=
  (law l x t V cd n f z).pays htab hfr (by omega)
end Len
namespace IsL
def yN : MethodName := ⟨"java/lang/String", "isLatin1", "()Z"⟩
abbrev yB : ByteArray := jdk_42_method_154_code
theorem d0 : decode yB 0 = .ok (.getstatic 38, 3) := by decide +kernel
theorem d3 : decode yB 3 = .ok (.ifCond (.eq) 14, 3) := by decide +kernel
theorem d6 : decode yB 6 = .ok (.aload_n 0, 1) := by decide +kernel
theorem d7 : decode yB 7 = .ok (.getfield 15, 3) := by decide +kernel
theorem d10 : decode yB 10 = .ok (.ifCond (.ne) 7, 3) := by decide +kernel
theorem d13 : decode yB 13 = .ok (.iconst 1, 1) := by decide +kernel
theorem d14 : decode yB 14 = .ok (.goto 4, 3) := by decide +kernel
theorem d17 : decode yB 17 = .ok (.iconst 0, 1) := by decide +kernel
theorem d18 : decode yB 18 = .ok (.ireturn, 1) := by decide +kernel
def site : List Cond := [.fieldLink "java/lang/String" 38 "java/lang/String" "COMPACT_STRINGS" "Z", .fieldLink "java/lang/String" 15 "java/lang/String" "coder" "B"]
def tab : Cond := tabOf yN yB 1 (some .boolean) site
def P (x : Addr) (cd z : Int32) (args : Array Value) (s : State) : Prop := args = #[.ref x] ∧ Has x "java/lang/String" "coder" "B" (.int cd) s ∧ (cd = 0 ∨ cd = 1) ∧ StaticIs s "java/lang/String" "COMPACT_STRINGS" "Z" (.int z) ∧ ¬ z = 0
def E (cd : Int32) (r : Option Value) (s u : State) : Prop := XT.PureE (some (.int (1 - cd))) r s u
theorem law (l : Launch) (x : Addr) (cd z : Int32) : Law l yN 1 0 0 0 yB 1 (some .boolean) site (P x cd z) (E cd) [] 0 0 := by
  refine Law.of_walk (plainFor_of_name (by decide +kernel)) (by decide +kernel) (by decide +kernel) (by decide) (fun _ _ h => by rw [h.1]; rfl) (fun _ U U' hal hh h => ⟨h.1, h.2.1.mv hal hh, h.2.2.1, h.2.2.2.1.there hal hh, h.2.2.2.2⟩) (fun r U U' V V' h1 hal h2 h => XT.PureE.mv r U U' V V' h1 hal h2 h) ?_
  intro p e s m args below meth c s₁ X0 hexec hbytes hml hret hlk hnm hown hh0 W hP
  obtain ⟨rfl, hx, hc, s1, hz⟩ := hP
  have c1 : Steps p.tables e below (s₁.setTop (entryFrame m #[.ref x] 1)) (s₁.setTop (mkF m 0 #[.val (.ref x)] [])) := entry rfl
  obtain ⟨T2, X2, q2, st2⟩ := X0.sget hexec hown (wk W (.fieldLink "java/lang/String" 38 "java/lang/String" "COMPACT_STRINGS" "Z")) s1 (fun _ _ h => by rw [hh0]; exact h) (g := (mkF m 0 #[.val (.ref x)] [])) rfl (hb hbytes d0)
  have hh2 := q2.trans hh0
  have c3 : Steps p.tables e below (s₁.setTop (entryFrame m #[.ref x] 1)) (T2.setTop (mkF m 7 #[.val (.ref x)] [.ref x])) := (c1.trans (st2 _ (Steps.refl _))).trans (by
    refine XS.ifNo X2.here hexec rfl (hb hbytes d3) rfl (i0_eq_f hz) ?_
    refine XS.aloadN X2.here hexec rfl (hb hbytes d6) rfl rfl ?_
    exact Steps.refl _)
  obtain ⟨T4, X4, q4, st4⟩ := X2.hget hexec hown (wk W (.fieldLink "java/lang/String" 15 "java/lang/String" "coder" "B")) (hx.mv X2.warmed.alike hh2) (g := (mkF m 7 #[.val (.ref x)] [.ref x])) rfl (rest := []) rfl (hb hbytes d7)
  have c5 : Steps p.tables e below (s₁.setTop (entryFrame m #[.ref x] 1)) (T4.setTop (mkF m 10 #[.val (.ref x)] [.int cd])) := c3.trans (st4 _ (Steps.refl _))
  have c6 : Steps p.tables e below (s₁.setTop (entryFrame m #[.ref x] 1)) (T4.setTop (mkF m 18 #[.val (.ref x)] [.int (1 - cd)])) := by
    rcases hc with rfl | rfl
    · exact c5.trans (by
        refine XS.ifNo X4.here hexec rfl (hb hbytes d10) rfl (i0_ne_f rfl) ?_
        refine iconstV X4.here hexec rfl 1 (hb hbytes d13) (by decide) ?_
        refine XS.goto X4.here hexec rfl (pc0 := 14) rfl (hb hbytes d14) (by decide) rfl ?_
        exact Steps.refl _)
    · exact c5.trans (by
        refine XS.ifYes X4.here hexec rfl (pc0 := 10) rfl (hb hbytes d10) rfl (i0_ne_t (by decide)) (by decide) rfl ?_
        refine iconstV X4.here hexec rfl 0 (hb hbytes d17) (by decide) ?_
        exact Steps.refl _)
  exact ⟨T4, some (.int (1 - cd)), _, _, _, X4, rfl, rfl, rfl, (fun h => by cases h), ⟨rfl, q4.trans hh2⟩, fun fs hl => c6.trans (X4.ireturnOut hexec hret (by rcases hc with rfl | rfl <;> rfl) (Or.inr (Or.inl rfl)) (hb hbytes d18) hl)⟩
end IsL
namespace LChA
def yN : MethodName := ⟨"java/lang/StringLatin1", "charAt", "([BI)C"⟩
abbrev yB : ByteArray := jdk_43_method_2_code
theorem d0 : decode yB 0 = .ok (.iload_n 1, 1) := by decide +kernel
theorem d1 : decode yB 1 = .ok (.aload_n 0, 1) := by decide +kernel
theorem d2 : decode yB 2 = .ok (.arraylength, 1) := by decide +kernel
theorem d3 : decode yB 3 = .ok (.invokestatic 9, 3) := by decide +kernel
theorem d6 : decode yB 6 = .ok (.aload_n 0, 1) := by decide +kernel
theorem d7 : decode yB 7 = .ok (.iload_n 1, 1) := by decide +kernel
theorem d8 : decode yB 8 = .ok (.baload, 1) := by decide +kernel
theorem d9 : decode yB 9 = .ok (.sipush 255, 3) := by decide +kernel
theorem d12 : decode yB 12 = .ok (.iand, 1) := by decide +kernel
theorem d13 : decode yB 13 = .ok (.i2c, 1) := by decide +kernel
theorem d14 : decode yB 14 = .ok (.ireturn, 1) := by decide +kernel
def site : List Cond := [JO.Str_checkIndex.tab] ++ staticW "java/lang/StringLatin1" 9 JO.Str_checkIndex.yN
def tab : Cond := tabOf yN yB 2 (some .char) site
def P (t : Addr) (V : Cell) (i : Nat) (u : Int32) (fm : Value) (args : Array Value) (s : State) : Prop := args = #[.ref t, .int (Int32.ofNat i)] ∧ XT.Arr .byte t V s ∧ V.slots[i]? = some (.int u) ∧ (StaticIs s "jdk/internal/util/Preconditions" "SIOOBE_FORMATTER" "Ljava/util/function/BiFunction;" fm ∧ fm.isRef = true)
def E (u : Int32) (r : Option Value) (s w : State) : Prop := XT.PureE (some (.int (chr8 u))) r s w
theorem law (l : Launch) (t : Addr) (V : Cell) (i : Nat) (u : Int32) (fm : Value) : Law l yN 2 2 2 27 yB 2 (some .char) site (P t V i u fm) (E u) [] 0 0 := by
  refine Law.of_walk (plainFor_of_name (by decide +kernel)) (by decide +kernel) (by decide +kernel) (by decide) (fun _ _ h => by rw [h.1]; rfl) (fun _ U U' hal hh h => ⟨h.1, h.2.1.mv hal hh, h.2.2.1, h.2.2.2.1.there hal hh, h.2.2.2.2⟩) (fun r U U' V V' h1 hal h2 h => XT.PureE.mv r U U' V V' h1 hal h2 h) ?_
  intro p e s m args below meth c s₁ X0 hexec hbytes hml hret hlk hnm hown hh0 W hP
  obtain ⟨rfl, hV, hu, s1, rf⟩ := hP
  have v31 := hV.2.2.2
  have hi : i < V.slots.size := (Array.getElem?_eq_some_iff.mp hu).1
  have c1 : Steps p.tables e below (s₁.setTop (entryFrame m #[.ref t, .int (Int32.ofNat i)] 2)) (s₁.setTop (mkF m 0 #[.val (.ref t), .val (.int (Int32.ofNat i))] [])) := entry rfl
  have c2 : Steps p.tables e below (s₁.setTop (entryFrame m #[.ref t, .int (Int32.ofNat i)] 2)) (s₁.setTop (mkF m 3 #[.val (.ref t), .val (.int (Int32.ofNat i))] [.int (Int32.ofNat V.slots.size), .int (Int32.ofNat i)])) := c1.trans (by
    refine XS.iloadN X0.here hexec rfl (hb hbytes d0) rfl ?_
    refine XS.aloadN X0.here hexec rfl (hb hbytes d1) rfl rfl ?_
    refine X0.alen hexec (hV.mv X0.warmed.alike hh0) rfl rfl (hb hbytes d2) ?_
    exact Steps.refl _)
  obtain ⟨v3, T3, X3, E3, g3⟩ := X0.callS hexec (JO.Str_checkIndex.law l (Int32.ofNat i) (Int32.ofNat V.slots.size) fm) hown (wks W (staticW "java/lang/StringLatin1" 9 JO.Str_checkIndex.yN)) (wk W JO.Str_checkIndex.tab) (W := 0) (Nat.le_of_ble_eq_true rfl) (Nat.le_of_ble_eq_true rfl) (Nat.le_refl _) (Nat.le_refl _) (g := (mkF m 3 #[.val (.ref t), .val (.int (Int32.ofNat i))] [.int (Int32.ofNat V.slots.size), .int (Int32.ofNat i)])) rfl (by rw [hml]; rfl) c2 (argsL := [.int (Int32.ofNat i), .int (Int32.ofNat V.slots.size)]) (rest := []) rfl rfl (by show 2 * 0 + 0 ≤ _; decide) (hb hbytes d3) (⟨rfl, rf, s1.there X0.warmed.alike hh0, Int32.ofNat_not_neg (by omega), lt32 v31 hi⟩)
  obtain ⟨rfl, q3⟩ := E3
  have hh3 := q3.trans hh0
  have c4 : Steps p.tables e below (s₁.setTop (entryFrame m #[.ref t, .int (Int32.ofNat i)] 2)) (T3.setTop (mkF m 14 #[.val (.ref t), .val (.int (Int32.ofNat i))] [.int (chr8 u)])) := Steps.trans g3 (by
    refine XS.aloadN X3.here hexec rfl (hb hbytes d6) rfl rfl ?_
    refine XS.iloadN X3.here hexec rfl (hb hbytes d7) rfl ?_
    refine X3.aget hexec (hV.mv X3.warmed.alike hh3) rfl hu rfl rfl (hb hbytes d8) ?_
    refine sipushV X3.here hexec rfl 255 (hb hbytes d9) (by decide) ?_
    refine XS.iand X3.here hexec rfl (hb hbytes d12) rfl ?_
    refine i2c X3.here hexec rfl (hb hbytes d13) rfl ?_
    exact Steps.refl _)
  exact ⟨T3, some (.int (chr8 u)), _, _, _, X3, rfl, rfl, rfl, (fun h => by cases h), ⟨rfl, hh3⟩, fun fs hl => c4.trans (X3.ireturnOut hexec hret (narrow_c _) (Or.inr (Or.inr (Or.inr (Or.inl rfl)))) (hb hbytes d14) hl)⟩
end LChA
end StrChars
namespace StrChars.Road
open Jvm Sem ClassFile Op Lib Jvm.Stand Jvm.Free Jvm.Free.XT
open Jvm.Lib.Cold (StaticIs)
theorem consq {a : Array Value} {s : State} {c : Jvm.Cond} {L : List Jvm.Cond} (h0 : c.before a s = true) (h : ∀ w ∈ L, w.before a s = true) : ∀ w ∈ c :: L, w.before a s = true := fun w hw => (List.mem_cons.mp hw).elim (fun e => e ▸ h0) (h w)
/-- the words of String.length(), either coding -/
abbrev wordsLen : List Jvm.Cond := [.code Len.yN Len.yB 1 (some .int), .initialized ST, .fieldLink ST 9 ST "value" "[B", .fieldLink ST 38 ST "COMPACT_STRINGS" "Z", .fieldLink ST 15 ST "coder" "B", .code Cdr.yN Cdr.yB 1 (some .byte), .methodLink ST 335 Cdr.yN, .declares Cdr.yN, .selects ST Cdr.yN Cdr.yN, .instanceMethod Cdr.yN]
theorem tabLen_of {a : Array Value} {s : State} (h : ∀ w ∈ wordsLen, w.before a s = true) : Len.tab.before a s = true := by
  have hc : Cdr.tab.before a s = true := unparts (wk h (.code Cdr.yN Cdr.yB 1 (some .byte))) (wks h (.initialized Cdr.yN.cls :: Cdr.site))
  have q := consq hc h
  exact unparts (wk q (.code Len.yN Len.yB 1 (some .int))) (wks q (.initialized Len.yN.cls :: Len.site))
theorem movedLen {Z s : State} {a0 args : Array Value} (hZ : Z.Warmed39 s.vm) (hw : ∀ d ∈ wordsLen, d.before a0 Z = true) : ∀ d ∈ wordsLen, d.before args s = true := fun d hd => by
  have q := hw d hd
  have t : ∀ d ∈ wordsLen, d = .arrayClass .byte ∨ (d.onTables && d.keepsFace) = true := by decide +kernel
  rcases t d hd with rfl | t
  · exact RoadKit.mvA hZ q
  · exact RoadKit.mv hZ q t
/-- the bytes of the chars cs, low before high -/
def wideBytes : List Int32 → List Value
  | [] => []
  | c :: cs => .int (lo8 c) :: .int (hi8 c) :: wideBytes cs
theorem wide_lo (d : Value) : ∀ (cs : List Int32) (j : Nat), j < cs.length → (wideBytes cs).getD (2 * j) d = .int (lo8 (cs.getD j 0))
  | [], j, h => absurd h (Nat.not_lt_zero j)
  | c :: cs, 0, _ => rfl
  | c :: cs, j + 1, h => by
    have q := wide_lo d cs j (by simpa using h)
    rw [show 2 * (j + 1) = 2 * j + 1 + 1 from by omega]
    simpa [wideBytes] using q
theorem wide_hi (d : Value) : ∀ (cs : List Int32) (j : Nat), j < cs.length → (wideBytes cs).getD (2 * j + 1) d = .int (hi8 (cs.getD j 0))
  | [], j, h => absurd h (Nat.not_lt_zero j)
  | c :: cs, 0, _ => rfl
  | c :: cs, j + 1, h => by
    have q := wide_hi d cs j (by simpa using h)
    rw [show 2 * (j + 1) + 1 = 2 * j + 1 + 1 + 1 from by omega]
    simpa [wideBytes] using q
theorem low_at (d : Value) (cs : List Int32) (j : Nat) (h : j < cs.length) : (cs.map fun c => Value.int (lo8 c)).getD j d = .int (lo8 (cs.getD j 0)) := by
  simp [List.getD_eq_getElem?_getD, h]
/-- an array of N2 bytes vs codes the chars cs by the coder cd -/
def CodA (cs : List Int32) (cd N2 : Int32) (vs : List Value) : Prop := (cd = 0 ∧ N2 = Int32.ofNat cs.length ∧ vs = (cs.map fun c => Value.int (lo8 c)) ∧ ∀ c ∈ cs, ¬ 255 < c) ∨ (cd = 1 ∧ N2 = Int32.ofNat (2 * cs.length) ∧ vs = wideBytes cs ∧ ∃ c ∈ cs, 255 < c)
theorem CodA.cod {cs : List Int32} {cd N2 : Int32} {vs : List Value} {V : Cell} (h : CodA cs cd N2 vs) (hn : 2 * cs.length < 2 ^ 31) (hs : V.slots.size = N2.toNatClampNeg) (hv : RoadKit.Has V vs (.int 0)) : Cod cd cs.length (fun j => cs.getD j 0) V := by
  rcases h with ⟨rfl, rfl, rfl, h⟩ | ⟨rfl, rfl, rfl, c, hc, hw⟩
  · rw [n32 (by omega)] at hs
    exact Or.inl ⟨rfl, hs, fun j hj => ⟨by rw [hv j (by omega), low_at _ _ _ hj], by
      have e : cs.getD j 0 = cs[j] := by simp [List.getD_eq_getElem?_getD, hj]
      show ¬ 255 < cs.getD j 0
      rw [e]; exact h _ (List.getElem_mem _)⟩⟩
  · rw [n32 (by omega)] at hs
    obtain ⟨j, hj, rfl⟩ := List.getElem_of_mem hc
    exact Or.inr ⟨rfl, hs, fun j hj => ⟨by rw [hv _ (by omega), wide_lo _ _ _ hj], by rw [hv _ (by omega), wide_hi _ _ _ hj]⟩, j, hj, by
      have e : cs.getD j 0 = cs[j] := by simp [List.getD_eq_getElem?_getD, hj]
      show 255 < cs.getD j 0
      rw [e]; exact hw⟩
/-- an object of exactly java/lang/String, its two fields found: as the laws ask it -/
theorem strObj {Z U : State} {a0 : Array Value} {kI : Nat} (wi : (Jvm.Cond.instantiable ST kI).before a0 Z = true) (al : Z.vm.Alike U.vm) {x : Addr} {v0 c0 : Value} (E : RoadKit.Exa Z U.heap x ST) (V : RoadKit.Fld Z U.heap x ST "value" "[B" v0) (C : RoadKit.Fld Z U.heap x ST "coder" "B" c0) :
    ∃ (D : Cell) (fV fC : Field), Blank ST x D U ∧ Found ST "value" "[B" fV U ∧ Found ST "coder" "B" fC U ∧ D.slots[fV.slot]? = some v0 ∧ D.slots[fC.slot]? = some c0 ∧ RoadKit.slotOf Z ST "value" "[B" = fV.slot ∧ RoadKit.slotOf Z ST "coder" "B" = fC.slot := by
  obtain ⟨D, cfV, kV, iV, fV, hD, gV, stV, knV, obV, asV, slV⟩ := V
  obtain ⟨D', cfC, kC, iC, fC, hD', gC, stC, -, -, asC, slC⟩ := C
  cases hD.symm.trans hD'
  obtain ⟨D2, kD, e1, e2, e3, e4, e5⟩ := E
  cases hD.symm.trans e1
  obtain ⟨c2, k2, i1, i2, i3, -⟩ := Cond.instantiable_spec wi
  cases e2.symm.trans i1
  cases e3.symm.trans i2
  obtain ⟨kU, u1, u2⟩ := al.2.2 _ _ e3
  exact ⟨D, fV, fC, ⟨hD, ⟨knV, fun q hq => by rw [hq] at obV; cases obV⟩, by rw [al.findClass]; exact e2, kU, u1, by rw [u2]; exact i3, by rw [u2]; exact e5 i3⟩, ⟨SBG.found_only al ⟨cfV, kV, iV, gV⟩, stV⟩, ⟨SBG.found_only al ⟨cfC, kC, iC, gC⟩, stC⟩, slV, slC, by simp [RoadKit.slotOf, gV], by simp [RoadKit.slotOf, gC]⟩
theorem sta_is {Z U : State} (al : Z.vm.Alike U.vm) {C n d : String} {v : Value} (S : RoadKit.Sta Z U.heap C n d v) : StaticIs U C n d v := by
  obtain ⟨cfS, iS, kS, fS, st, cS, t1, t2, t3, t4, t5, t6, t7⟩ := S
  exact StaticIs.there (s := { Z with heap := U.heap }) ⟨cfS, iS, kS, fS, st, cS, t1, t2, t3, t4, t5, (fun q => by rw [q] at t6; cases t6), t7⟩ al rfl
/-- **length() OF SUCH A STRING** -/
theorem lenW {p : Program} {l : Launch} {e : Env} {R : Room} {s : State} {args : Array Value} {below : List Frame} {len W : Nat} {Z : State} {a0 : Array Value} {h : Heap} (hZ : Z.Warmed39 s.vm) (hw : ∀ d ∈ wordsLen, d.before a0 Z = true) {kI : Nat} (wi : (Jvm.Cond.instantiable ST kI).before a0 Z = true)
    {x t : Addr} {kb : ClassId} {cs : List Int32} {cd N2 z : Int32} {vs : List Value} (E : RoadKit.Exa Z h x ST) (V : RoadKit.Fld Z h x ST "value" "[B" (.ref t)) (C : RoadKit.Fld Z h x ST "coder" "B" (.int cd)) (K : RoadKit.Arv Z h t kb .byte N2 vs (.int 0)) (hc : CodA cs cd N2 vs) (hb : ∀ c ∈ cs, ¬ c < 0 ∧ ¬ (65535 : Int32) < c)
    (S : RoadKit.Sta Z h ST "COMPACT_STRINGS" "Z" (.int z)) (hz : ¬ z = 0) (l2 : cs.length ≤ 4000) (hfr : 2 ≤ R.frames) (hlo : W + 25 ≤ R.locals) :
    Back l R p e below s args (⟨"java/lang/String", "length", "()I"⟩ : MethodName) len W (fun P a => a = #[.ref x] ∧ P.U.heap = h ∧ P.cells + 0 ≤ R.cells ∧ P.slots + 0 ≤ R.slots)
      (fun P _ v B => ∃ L, (v = some (.int (Int32.ofNat cs.length)) ∧ L = [] ∧ B.U.heap = h) ∧ B.locs = P.locs ++ L ∧ B.cells = P.cells + 0 ∧ B.slots = P.slots + 0) := by
  obtain ⟨A, K1, K2, K3, K4, K5, K6⟩ := K
  have hcod := hc.cod (by omega) K3 K5
  intro m meth c P g ig mk a X hg hsize hdg hW hn hp'
  obtain ⟨rfl, rfl, r1, r2⟩ := hp'
  have al : Z.vm.Alike P.U.vm := hZ.alike.trans X.warmed.alike
  obtain ⟨D, fV, fC, hB, F1, F2, g1, g2, -, -⟩ := strObj wi al E V C
  have hx : Txt x t A cd cs.length (fun j => cs.getD j 0) P.U := ⟨⟨_, hB.2.2.1, D, hB.1, rfl, by cases q : D.vm <;> first | rfl | exact absurd q (hB.2.1.2 _)⟩, Has.of hB F1 g1, Has.of hB F2 g2, ⟨K1.1, State.isArrayOf_alike al K1.2.1, K1.2.2, by rcases hcod with ⟨-, q, -⟩ | ⟨-, q, -⟩ <;> omega⟩, hcod, fun j hj => by
    have e : cs.getD j 0 = cs[j] := by simp [List.getD_eq_getElem?_getD, hj]
    show ¬ cs.getD j 0 < 0 ∧ ¬ 65535 < cs.getD j 0
    rw [e]; exact hb _ (List.getElem_mem _)⟩
  obtain ⟨v, B, X', ⟨⟨hv, hh⟩, hl, hk, hs⟩, st⟩ := Len.pays x t A cd cs.length (fun j => cs.getD j 0) z (tabLen_of (movedLen hZ hw)) hfr hlo m meth c P g ig mk _ X hg hsize hdg hW hn ⟨r1, r2, rfl, hx, sta_is al S, hz⟩
  exact ⟨v, B, X', ⟨[], ⟨hv, rfl, hh⟩, hl, hk, hs⟩, st⟩
end StrChars.Road
namespace StrChars.Road
open Jvm Sem ClassFile Op Lib Jvm.Stand Jvm.Free Jvm.Free.XT
open Jvm.Lib.Cold (StaticIs)
/-- the road's facts of a String, as the laws ask it -/
theorem txt_of {Z U : State} {a0 : Array Value} {kI : Nat} (wi : (Jvm.Cond.instantiable ST kI).before a0 Z = true) (al : Z.vm.Alike U.vm) {x t : Addr} {kb : ClassId} {cs : List Int32} {cd N2 : Int32} {vs : List Value} (E : RoadKit.Exa Z U.heap x ST) (V : RoadKit.Fld Z U.heap x ST "value" "[B" (.ref t)) (C : RoadKit.Fld Z U.heap x ST "coder" "B" (.int cd)) (K : RoadKit.Arv Z U.heap t kb .byte N2 vs (.int 0)) (hc : CodA cs cd N2 vs) (hb : ∀ c ∈ cs, ¬ c < 0 ∧ ¬ (65535 : Int32) < c) (l2 : cs.length ≤ 4000) :
    ∃ A, Txt x t A cd cs.length (fun j => cs.getD j 0) U := by
  obtain ⟨A, K1, K2, K3, K4, K5, K6⟩ := K
  have hcod := hc.cod (by omega) K3 K5
  obtain ⟨D, fV, fC, hB, F1, F2, g1, g2, -, -⟩ := strObj wi al E V C
  exact ⟨A, ⟨_, hB.2.2.1, D, hB.1, rfl, by cases q : D.vm <;> first | rfl | exact absurd q (hB.2.1.2 _)⟩, Has.of hB F1 g1, Has.of hB F2 g2, ⟨K1.1, State.isArrayOf_alike al K1.2.1, K1.2.2, by rcases hcod with ⟨-, q, -⟩ | ⟨-, q, -⟩ <;> omega⟩, hcod, fun j hj => by
    have e : cs.getD j 0 = cs[j] := by simp [List.getD_eq_getElem?_getD, hj]
    show ¬ cs.getD j 0 < 0 ∧ ¬ 65535 < cs.getD j 0
    rw [e]; exact hb _ (List.getElem_mem _)⟩
end StrChars.Road
namespace StrChars
open Jvm Sem ClassFile Op Lib Jvm.Stand Jvm.Free.XT Jvm.Free.ALB Jvm.Free.JM Jvm.Free
open Jvm.Lib.Cold (StaticIs)
namespace ChN
def yN : MethodName := ⟨"java/lang/String", "charAt", "(I)C"⟩
abbrev yB : ByteArray := jdk_42_method_56_code
theorem d0 : decode yB 0 = .ok (.aload_n 0, 1) := by decide +kernel
theorem d1 : decode yB 1 = .ok (.invokevirtual 492, 3) := by decide +kernel
theorem d4 : decode yB 4 = .ok (.ifCond (.eq) 12, 3) := by decide +kernel
theorem d7 : decode yB 7 = .ok (.aload_n 0, 1) := by decide +kernel
theorem d8 : decode yB 8 = .ok (.getfield 9, 3) := by decide +kernel
theorem d11 : decode yB 11 = .ok (.iload_n 1, 1) := by decide +kernel
theorem d12 : decode yB 12 = .ok (.invokestatic 495, 3) := by decide +kernel
theorem d15 : decode yB 15 = .ok (.ireturn, 1) := by decide +kernel
def site : List Cond := [.fieldLink "java/lang/String" 9 "java/lang/String" "value" "[B", IsL.tab, LChA.tab] ++ virtW "java/lang/String" 492 "java/lang/String" IsL.yN IsL.yN ++ staticW "java/lang/String" 495 LChA.yN
def tab : Cond := tabOf yN yB 2 (some .char) site
def P (x t : Addr) (V : Cell) (n : Nat) (f : Nat → Int32) (z : Int32) (fm : Value) (i : Nat) (args : Array Value) (s : State) : Prop := args = #[.ref x, .int (Int32.ofNat i)] ∧ Txt x t V 0 n f s ∧ i < n ∧ StaticIs s "java/lang/String" "COMPACT_STRINGS" "Z" (.int z) ∧ ¬ z = 0 ∧ StaticIs s "jdk/internal/util/Preconditions" "SIOOBE_FORMATTER" "Ljava/util/function/BiFunction;" fm ∧ fm.isRef = true
def E (f : Nat → Int32) (i : Nat) (r : Option Value) (s u : State) : Prop := XT.PureE (some (.int (f i))) r s u
/-- charAt(i) of a Latin-1 String of n chars, i < n: f i -/
theorem law (l : Launch) (x t : Addr) (V : Cell) (n : Nat) (f : Nat → Int32) (z : Int32) (fm : Value) (i : Nat) : Law l yN 2 1 3 40 yB 2 (some .char) site (P x t V n f z fm i) (E f i) [] 0 0 := by
  refine Law.of_walk (plainFor_of_name (by decide +kernel)) (by decide +kernel) (by decide +kernel) (by decide) (fun _ _ h => by rw [h.1]; rfl) (fun _ U U' hal hh h => ⟨h.1, h.2.1.mv hal hh, h.2.2.1, h.2.2.2.1.there hal hh, h.2.2.2.2.1, h.2.2.2.2.2.1.there hal hh, h.2.2.2.2.2.2⟩) (fun r U U' V V' h1 hal h2 h => XT.PureE.mv r U U' V V' h1 hal h2 h) ?_
  intro p e s m args below meth c s₁ X0 hexec hbytes hml hret hlk hnm hown hh0 W hP
  obtain ⟨rfl, hx, hi, s1, hz, s3, rf⟩ := hP
  have v31 := hx.2.2.2.1.2.2.2
  have hr := hx.2.2.2.2.2 i hi
  have hx0 := hx.mv X0.warmed.alike hh0
  have c1 : Steps p.tables e below (s₁.setTop (entryFrame m #[.ref x, .int (Int32.ofNat i)] 2)) (s₁.setTop (mkF m 1 #[.val (.ref x), .val (.int (Int32.ofNat i))] [.ref x])) := Steps.trans (entry rfl) (by
    show Steps p.tables e below (s₁.setTop (mkF m 0 #[.val (.ref x), .val (.int (Int32.ofNat i))] [])) _
    refine XS.aloadN X0.here hexec rfl (hb hbytes d0) rfl rfl ?_
    exact Steps.refl _)
  obtain ⟨v2, T2, X2, E2, g2⟩ := X0.callV hexec (IsL.law l x 0 z) hown (wks W (virtW "java/lang/String" 492 "java/lang/String" IsL.yN IsL.yN)) rfl (by decide) (wk W IsL.tab) (W := 0) (Nat.le_of_ble_eq_true rfl) (Nat.le_of_ble_eq_true rfl) (Nat.le_refl _) (Nat.le_refl _) (hx0.1.fc X0.warmed.alike) hx0.1.is (g := (mkF m 1 #[.val (.ref x), .val (.int (Int32.ofNat i))] [.ref x])) rfl (by rw [hml]; rfl) c1 (argsL := []) (rest := []) rfl rfl (by show 2 * 0 + 0 ≤ _; decide) (hb hbytes d1) (⟨rfl, hx0.2.2.1, hx.2.2.2.2.1.cd, s1.there X0.warmed.alike hh0, hz⟩)
  obtain ⟨rfl, q2⟩ := E2
  have hh2 := q2.trans hh0
  have hx2 := hx.mv X2.warmed.alike hh2
  obtain ⟨-, k1, k2⟩ | ⟨k0, -⟩ := hx.2.2.2.2.1
  · have c3 : Steps p.tables e below (s₁.setTop (entryFrame m #[.ref x, .int (Int32.ofNat i)] 2)) (T2.setTop (mkF m 8 #[.val (.ref x), .val (.int (Int32.ofNat i))] [.ref x])) := Steps.trans g2 (by
      refine XS.ifNo X2.here hexec rfl (hb hbytes d4) rfl (i0_eq_f (by decide)) ?_
      refine XS.aloadN X2.here hexec rfl (hb hbytes d7) rfl rfl ?_
      exact Steps.refl _)
    obtain ⟨T4, X4, q4, st4⟩ := X2.hget hexec hown (wk W (.fieldLink "java/lang/String" 9 "java/lang/String" "value" "[B")) hx2.2.1 (g := (mkF m 8 #[.val (.ref x), .val (.int (Int32.ofNat i))] [.ref x])) rfl (rest := []) rfl (hb hbytes d8)
    have hh4 := q4.trans hh2
    have c5 : Steps p.tables e below (s₁.setTop (entryFrame m #[.ref x, .int (Int32.ofNat i)] 2)) (T4.setTop (mkF m 12 #[.val (.ref x), .val (.int (Int32.ofNat i))] [.int (Int32.ofNat i), .ref t])) := (c3.trans (st4 _ (Steps.refl _))).trans (by
      refine XS.iloadN X4.here hexec rfl (hb hbytes d11) rfl ?_
      exact Steps.refl _)
    obtain ⟨v6, T6, X6, E6, g6⟩ := X4.callS hexec (LChA.law l t V i (lo8 (f i)) fm) hown (wks W (staticW "java/lang/String" 495 LChA.yN)) (wk W LChA.tab) (W := 0) (Nat.le_of_ble_eq_true rfl) (Nat.le_of_ble_eq_true rfl) (Nat.le_refl _) (Nat.le_refl _) (g := (mkF m 12 #[.val (.ref x), .val (.int (Int32.ofNat i))] [.int (Int32.ofNat i), .ref t])) rfl (by rw [hml]; rfl) c5 (argsL := [.ref t, .int (Int32.ofNat i)]) (rest := []) rfl rfl (by show 2 * 0 + 0 ≤ _; decide) (hb hbytes d12) (⟨rfl, hx.2.2.2.1.mv X4.warmed.alike hh4, (k2 i hi).1, s3.there X4.warmed.alike hh4, rf⟩)
    obtain ⟨rfl, q6⟩ := E6
    rw [chr8_lo8 hr.1 (k2 i hi).2] at g6
    exact ⟨T6, some (.int (f i)), _, _, _, X6, rfl, rfl, rfl, (fun h => by cases h), ⟨rfl, q6.trans hh4⟩, fun fs hl => Steps.trans g6 (X6.ireturnOut hexec hret (narrow_ch hr.1 hr.2) (Or.inr (Or.inr (Or.inr (Or.inl rfl)))) (hb hbytes d15) hl)⟩
  · exact absurd k0 (by decide)
theorem pays {l : Launch} {R : Room} {p : Program} {e : Env} {below : List Frame} {s : State} {sargs : Array Value} {len W : Nat} (x t : Addr) (V : Cell) (n : Nat) (f : Nat → Int32) (z : Int32) (fm : Value) (i : Nat) (htab : tab.before sargs s = true) (hfr : 4 ≤ R.frames) (hlo : W + 53 ≤ R.locals) :
    Back l R p e below s sargs yN len W (fun A₁ a₁ => A₁.cells + 0 ≤ R.cells ∧ A₁.slots + 0 ≤ R.slots ∧ P x t V n f z fm i a₁ A₁.U) (fun A₁ _ v₁ B₁ => E f i v₁ A₁.U B₁.U ∧ B₁.locs = A₁.locs ++ [] ∧ B₁.cells = A₁.cells + 0 ∧ B₁.slots = A₁.slots + 0) :=
  (law l x t V n f z fm i).pays htab hfr (by omega)
end ChN
end StrChars
namespace StrChars.Road
open Jvm Sem ClassFile Op Lib Jvm.Stand Jvm.Free Jvm.Free.XT
open Jvm.Lib.Cold (StaticIs)
/-- the words of String.charAt(int), the Latin-1 road alone -/
abbrev wordsChN : List Jvm.Cond := [.code ChN.yN ChN.yB 2 (some .char), .initialized ST, .fieldLink ST 9 ST "value" "[B", .fieldLink ST 38 ST "COMPACT_STRINGS" "Z", .fieldLink ST 15 ST "coder" "B", .code IsL.yN IsL.yB 1 (some .boolean), .methodLink ST 492 IsL.yN, .declares IsL.yN, .selects ST IsL.yN IsL.yN, .instanceMethod IsL.yN,
  .methodLink ST 495 LChA.yN, .static LChA.yN, .code LChA.yN LChA.yB 2 (some .char), .initialized "java/lang/StringLatin1", .methodLink "java/lang/StringLatin1" 9 JO.Str_checkIndex.yN, .static JO.Str_checkIndex.yN, .code JO.Str_checkIndex.yN JO.Str_checkIndex.yB 2 none,
  .fieldLink ST 1053 "jdk/internal/util/Preconditions" "SIOOBE_FORMATTER" "Ljava/util/function/BiFunction;", .methodLink ST 1059 JC.PreCheck.yN, .static JC.PreCheck.yN, .code JC.PreCheck.yN JC.PreCheck.yB 3 (some .int), .initialized "jdk/internal/util/Preconditions"]
theorem tabChN_of {a : Array Value} {s : State} (h : ∀ w ∈ wordsChN, w.before a s = true) : ChN.tab.before a s = true := by
  have hp : JC.PreCheck.tab.before a s = true := unparts (wk h (.code JC.PreCheck.yN JC.PreCheck.yB 3 (some .int))) (wks h (.initialized JC.PreCheck.yN.cls :: JC.PreCheck.site))
  have qk := consq hp h
  have hk : JO.Str_checkIndex.tab.before a s = true := unparts (wk qk (.code JO.Str_checkIndex.yN JO.Str_checkIndex.yB 2 none)) (wks qk (.initialized JO.Str_checkIndex.yN.cls :: JO.Str_checkIndex.site))
  have ql := consq hk h
  have hl : LChA.tab.before a s = true := unparts (wk ql (.code LChA.yN LChA.yB 2 (some .char))) (wks ql (.initialized LChA.yN.cls :: LChA.site))
  have hi : IsL.tab.before a s = true := unparts (wk h (.code IsL.yN IsL.yB 1 (some .boolean))) (wks h (.initialized IsL.yN.cls :: IsL.site))
  have q := consq hi (consq hl h)
  exact unparts (wk q (.code ChN.yN ChN.yB 2 (some .char))) (wks q (.initialized ChN.yN.cls :: ChN.site))
theorem movedChN {Z s : State} {a0 args : Array Value} (hZ : Z.Warmed39 s.vm) (hw : ∀ d ∈ wordsChN, d.before a0 Z = true) : ∀ d ∈ wordsChN, d.before args s = true := fun d hd => by
  have t : ∀ d ∈ wordsChN, (d.onTables && d.keepsFace) = true := by decide +kernel
  exact RoadKit.mv hZ (hw d hd) (t d hd)
/-- **charAt(i) OF A LATIN-1 STRING**, i < n: the char -/
theorem chN {p : Program} {l : Launch} {e : Env} {R : Room} {s : State} {args : Array Value} {below : List Frame} {len W : Nat} {Z : State} {a0 : Array Value} {h : Heap} (hZ : Z.Warmed39 s.vm) (hw : ∀ d ∈ wordsChN, d.before a0 Z = true) {kI : Nat} (wi : (Jvm.Cond.instantiable ST kI).before a0 Z = true)
    {x t : Addr} {kb : ClassId} {cs : List Int32} {N2 z : Int32} {vs : List Value} {fm : Value} {i : Nat} {j : Int32} (E : RoadKit.Exa Z h x ST) (V : RoadKit.Fld Z h x ST "value" "[B" (.ref t)) (C : RoadKit.Fld Z h x ST "coder" "B" (.int 0)) (K : RoadKit.Arv Z h t kb .byte N2 vs (.int 0)) (hc : CodA cs 0 N2 vs) (hb : ∀ c ∈ cs, ¬ c < 0 ∧ ¬ (65535 : Int32) < c)
    (S : RoadKit.Sta Z h ST "COMPACT_STRINGS" "Z" (.int z)) (hz : ¬ z = 0) (F : RoadKit.Sta Z h "jdk/internal/util/Preconditions" "SIOOBE_FORMATTER" "Ljava/util/function/BiFunction;" fm) (rf : fm.isRef = true) (l2 : cs.length ≤ 4000) (hi : i < cs.length) (hj : j = Int32.ofNat i) (hfr : 4 ≤ R.frames) (hlo : W + 53 ≤ R.locals) :
    Back l R p e below s args (⟨"java/lang/String", "charAt", "(I)C"⟩ : MethodName) len W (fun P a => a = #[.ref x, .int j] ∧ P.U.heap = h ∧ P.cells + 0 ≤ R.cells ∧ P.slots + 0 ≤ R.slots)
      (fun P _ v B => ∃ L, (v = some (.int (cs.getD i 0)) ∧ L = [] ∧ B.U.heap = h) ∧ B.locs = P.locs ++ L ∧ B.cells = P.cells + 0 ∧ B.slots = P.slots + 0) := by
  subst hj
  intro m meth c P g ig mk a X hg hsize hdg hW hn hp'
  obtain ⟨rfl, rfl, r1, r2⟩ := hp'
  have al : Z.vm.Alike P.U.vm := hZ.alike.trans X.warmed.alike
  obtain ⟨A, hx⟩ := txt_of wi al E V C K hc hb l2
  obtain ⟨v, B, X', ⟨⟨hv, hh⟩, hl, hk, hs⟩, st⟩ := ChN.pays x t A cs.length (fun j => cs.getD j 0) z fm i (tabChN_of (movedChN hZ hw)) hfr hlo m meth c P g ig mk _ X hg hsize hdg hW hn ⟨r1, r2, rfl, hx, hi, sta_is al S, hz, sta_is al F, rf⟩
  exact ⟨v, B, X', ⟨[], ⟨hv, rfl, hh⟩, hl, hk, hs⟩, st⟩
/-- what backV says of its String, as the contracts of this text ask it: cs's low bytes, coder 0 -/
theorem codOf {cs : List Int32} {n : Nat} (hn : cs.length = n) (hb : ∀ c ∈ cs, ¬ 255 < c) : CodA cs 0 (Int32.ofNat n) ((cs.map lo8).map Value.int) := Or.inl ⟨rfl, by rw [hn], by simp [List.map_map, Function.comp_def], hb⟩
end StrChars.Road
end Jvm.Pilot.@@N@@

namespace Jvm.Pilot.@@N@@
open Jvm Jvm.ClassFile Sem Op Lib Jvm.Free Jvm.Stand Jvm.LawKit Jvm.RoadKit Bundle Jvm.Pilot.@@N@@.Jvm.D
def own_To (p : Program) (l : Launch) (e : Env) (R : Room) (s : State) (m : MethodId) (args : Array Value) (below : List Frame) (meth : Method) (c : Code) (locs : List Loc) (cells slots : Nat) (h : Heap) (T : State) (g g' : JFrame) : Prop :=
  ∃ T' : State, Stand p l e R s m args below meth c T' locs cells slots ∧ T'.heap = h ∧ ∀ tg, Steps p.tables e below (T'.setTop g') tg → Steps p.tables e below (T.setTop g) tg
theorem own_to {p : Program} {l : Launch} {e : Env} {R : Room} {s : State} {m : MethodId} {args : Array Value} {below : List Frame} {meth : Method} {c : Code} {T : State} {locs : List Loc} {cells slots : Nat} (X : Stand p l e R s m args below meth c T locs cells slots) {h : Heap} {g g' : JFrame}
    (H : own_To p l e R s m args below meth c locs cells slots h T g g') : ∃ T' : State, Stand p l e R s m args below meth c T' locs cells slots ∧ T'.heap = h ∧ ∀ tg, Steps p.tables e below (T'.setTop g') tg → Steps p.tables e below (T.setTop g) tg := H
def own_ToP (p : Program) (l : Launch) (e : Env) (R : Room) (s : State) (m : MethodId) (args : Array Value) (below : List Frame) (meth : Method) (c : Code) (locs : List Loc) (cells slots : Nat) (h : Heap) (T : State) (g : JFrame) (P : JFrame → Prop) : Prop :=
  ∃ (T' : State) (g' : JFrame), P g' ∧ Stand p l e R s m args below meth c T' locs cells slots ∧ T'.heap = h ∧ ∀ tg, Steps p.tables e below (T'.setTop g') tg → Steps p.tables e below (T.setTop g) tg
def own_ToK (p : Program) (l : Launch) (e : Env) (R : Room) (s : State) (m : MethodId) (args : Array Value) (below : List Frame) (meth : Method) (c : Code) (n0 : Nat) (cells slots : Nat) (T : State) (g : JFrame) (P : Heap → JFrame → Prop) : Prop :=
  ∃ (T' : State) (g' : JFrame) (L : List Loc), Stand p l e R s m args below meth c T' L cells slots ∧ Fr n0 L ∧ P T'.heap g' ∧ ∀ tg, Steps p.tables e below (T'.setTop g') tg → Steps p.tables e below (T.setTop g) tg
theorem own_wid {p : Program} {l : Launch} {e : Env} {R : Room} {s : State} {m : MethodId} {args : Array Value} {below : List Frame} {meth : Method} {c : Code} {T : State} {locs : List Loc} {cells slots cells' slots' : Nat} (X : Stand p l e R s m args below meth c T locs cells slots) (h1 : cells ≤ cells') (h2 : slots ≤ slots') : Stand p l e R s m args below meth c T locs cells' slots' := { X with same := X.same.mono h1 h2 }
theorem own_inc (i : Nat) : Int32.ofNat i + (1 : Int32) = Int32.ofNat (i + 1) := (Int32.ofNat_add i 1).symm
theorem own_toI {i : Nat} (h : i < 2147483648) : (Int32.ofNat i).toInt = (i : Int) := Int32.toInt_ofNat_of_lt h
theorem own_lt {i j : Nat} (h : i < j) (hj : j < 2147483648) : Int32.ofNat i < Int32.ofNat j := by
  rw [Int32.lt_iff_toInt_lt, own_toI (by omega), own_toI hj]; omega
theorem own_nlt {i j : Nat} (h : ¬ i < j) (hi : i < 2147483648) : ¬ Int32.ofNat i < Int32.ofNat j := by
  rw [Int32.lt_iff_toInt_lt, own_toI hi, own_toI (by omega)]; omega
theorem own_ltI {i j : Nat} (h : Int32.ofNat i < Int32.ofNat j) (hi : i < 2147483648) (hj : j < 2147483648) : i < j := by
  rw [Int32.lt_iff_toInt_lt, own_toI hi, own_toI hj] at h; omega
theorem own_nltI {i j : Nat} (h : ¬ Int32.ofNat i < Int32.ofNat j) (hi : i < 2147483648) (hj : j < 2147483648) : ¬ i < j := by
  rw [Int32.lt_iff_toInt_lt, own_toI hi, own_toI hj] at h; omega
theorem own_inj {i j : Nat} (h : Int32.ofNat i = Int32.ofNat j) (hi : i < 2147483648) (hj : j < 2147483648) : i = j := by
  have q := congrArg Int32.toInt h
  rw [own_toI hi, own_toI hj] at q; omega
theorem own_nneg (i : Nat) (hi : i < 2147483648) : ¬ Int32.ofNat i < 0 := by
  rw [Int32.lt_iff_toInt_lt, own_toI hi]; show ¬ (i : Int) < 0; omega
theorem own_clamp {i : Nat} (hi : i < 2147483648) : (Int32.ofNat i).toNatClampNeg = i := clamp_of rfl hi
theorem own_narm (x : Int32) : nar .char (x &&& (255 : Int32)) = (x &&& (255 : Int32)) := i2c_mask x
theorem own_osz {Z : State} {n0 : Nat} {h : Heap} (O : Old Z n0 h) : n0 ≤ h.size := O.1 ▸ O.2.1
theorem pn_0 : plainName "java/lang/StringLatin1" = true := by first | (simp [plainName, overriddenIn]; done) | decide +kernel
theorem pn_1 : plainName "java/lang/String" = true := by first | (simp [plainName, overriddenIn]; done) | decide +kernel
theorem pn_2 : plainName "com/example/resultwire/resultwire/er7/Pieces" = true := by first | (simp [plainName, overriddenIn]; done) | decide +kernel
theorem pn_3 : plainName "com/example/resultwire/resultwire/er7/PieceIndex" = true := by first | (simp [plainName, overriddenIn]; done) | decide +kernel
theorem pn_4 : plainName "java/util/Arrays" = true := by first | (simp [plainName, overriddenIn]; done) | decide +kernel
theorem pn_5 : plainName "com/example/resultwire/resultwire/er7/PieceIndexEndPinLaw" = true := by first | (simp [plainName, overriddenIn]; done) | decide +kernel
theorem pd_0 : parseMethodDescriptor "(I)Z" = some ⟨[.int], some .boolean⟩ := by decide +kernel
theorem pd_1 : parseMethodDescriptor "(II)I" = some ⟨[.int, .int], some .int⟩ := by decide +kernel
theorem pd_2 : parseMethodDescriptor "([BIII)I" = some ⟨[(.array .byte), .int, .int, .int], some .int⟩ := by decide +kernel
theorem pd_3 : parseMethodDescriptor "()Z" = some ⟨[], some .boolean⟩ := by decide +kernel
theorem pd_4 : parseMethodDescriptor "()I" = some ⟨[], some .int⟩ := by decide +kernel
theorem pd_5 : parseMethodDescriptor "(I)C" = some ⟨[.int], some .char⟩ := by decide +kernel
theorem pd_6 : parseMethodDescriptor "(Ljava/lang/String;III)I" = some ⟨[(.object "java/lang/String"), .int, .int, .int], some .int⟩ := by decide +kernel
theorem pd_7 : parseMethodDescriptor "(Ljava/lang/String;III[II)V" = some ⟨[(.object "java/lang/String"), .int, .int, .int, (.array .int), .int], none⟩ := by decide +kernel
theorem pd_8 : parseMethodDescriptor "()V" = some ⟨[], none⟩ := by decide +kernel
theorem pd_9 : parseMethodDescriptor "([II)[I" = some ⟨[(.array .int), .int], some (.array .int)⟩ := by decide +kernel
theorem pd_10 : parseMethodDescriptor "(Ljava/lang/String;III)V" = some ⟨[(.object "java/lang/String"), .int, .int, .int], none⟩ := by decide +kernel
theorem pd_11 : parseMethodDescriptor "(JIII)C" = some ⟨[.long, .int, .int, .int], some .char⟩ := by decide +kernel
theorem pd_12 : parseMethodDescriptor "([C)V" = some ⟨[(.array .char)], none⟩ := by decide +kernel
theorem pd_13 : parseMethodDescriptor "(I)Lcom/example/resultwire/resultwire/er7/PieceIndex;" = some ⟨[.int], some (.object "com/example/resultwire/resultwire/er7/PieceIndex")⟩ := by decide +kernel
theorem pd_14 : parseMethodDescriptor "(I)I" = some ⟨[.int], some .int⟩ := by decide +kernel
theorem pd_15 : parseMethodDescriptor "([CIIII)Z" = some ⟨[(.array .char), .int, .int, .int, .int], some .boolean⟩ := by decide +kernel
theorem d_jdk_29_method_65_0 : decode jdk_29_method_65_code 0 = .ok (.iload_n 0, 1) := by decide +kernel
theorem d_jdk_29_method_65_1 : decode jdk_29_method_65_code 1 = .ok (.iload_n 1, 1) := by decide +kernel
theorem d_jdk_29_method_65_10 : decode jdk_29_method_65_code 10 = .ok (.ireturn, 1) := by decide +kernel
theorem d_jdk_29_method_65_2 : decode jdk_29_method_65_code 2 = .ok (.if_icmp .lt 7, 3) := by decide +kernel
theorem d_jdk_29_method_65_5 : decode jdk_29_method_65_code 5 = .ok (.iload_n 0, 1) := by decide +kernel
theorem d_jdk_29_method_65_6 : decode jdk_29_method_65_code 6 = .ok (.goto 4, 3) := by decide +kernel
theorem d_jdk_29_method_65_9 : decode jdk_29_method_65_code 9 = .ok (.iload_n 1, 1) := by decide +kernel
theorem d_jdk_29_method_69_0 : decode jdk_29_method_69_code 0 = .ok (.iload_n 0, 1) := by decide +kernel
theorem d_jdk_29_method_69_1 : decode jdk_29_method_69_code 1 = .ok (.iload_n 1, 1) := by decide +kernel
theorem d_jdk_29_method_69_10 : decode jdk_29_method_69_code 10 = .ok (.ireturn, 1) := by decide +kernel
theorem d_jdk_29_method_69_2 : decode jdk_29_method_69_code 2 = .ok (.if_icmp .gt 7, 3) := by decide +kernel
theorem d_jdk_29_method_69_5 : decode jdk_29_method_69_code 5 = .ok (.iload_n 0, 1) := by decide +kernel
theorem d_jdk_29_method_69_6 : decode jdk_29_method_69_code 6 = .ok (.goto 4, 3) := by decide +kernel
theorem d_jdk_29_method_69_9 : decode jdk_29_method_69_code 9 = .ok (.iload_n 1, 1) := by decide +kernel
theorem d_jdk_42_method_154_0 : decode jdk_42_method_154_code 0 = .ok (.getstatic 38, 3) := by decide +kernel
theorem d_jdk_42_method_154_10 : decode jdk_42_method_154_code 10 = .ok (.ifCond .ne 7, 3) := by decide +kernel
theorem d_jdk_42_method_154_13 : decode jdk_42_method_154_code 13 = .ok (.iconst 1, 1) := by decide +kernel
theorem d_jdk_42_method_154_14 : decode jdk_42_method_154_code 14 = .ok (.goto 4, 3) := by decide +kernel
theorem d_jdk_42_method_154_18 : decode jdk_42_method_154_code 18 = .ok (.ireturn, 1) := by decide +kernel
theorem d_jdk_42_method_154_3 : decode jdk_42_method_154_code 3 = .ok (.ifCond .eq 14, 3) := by decide +kernel
theorem d_jdk_42_method_154_6 : decode jdk_42_method_154_code 6 = .ok (.aload_n 0, 1) := by decide +kernel
theorem d_jdk_42_method_154_7 : decode jdk_42_method_154_code 7 = .ok (.getfield 15, 3) := by decide +kernel
theorem d_jdk_42_method_80_0 : decode jdk_42_method_80_code 0 = .ok (.aload_n 0, 1) := by decide +kernel
theorem d_jdk_42_method_80_1 : decode jdk_42_method_80_code 1 = .ok (.invokevirtual 492, 3) := by decide +kernel
theorem d_jdk_42_method_80_11 : decode jdk_42_method_80_code 11 = .ok (.iload_n 1, 1) := by decide +kernel
theorem d_jdk_42_method_80_12 : decode jdk_42_method_80_code 12 = .ok (.iload_n 2, 1) := by decide +kernel
theorem d_jdk_42_method_80_13 : decode jdk_42_method_80_code 13 = .ok (.aload_n 0, 1) := by decide +kernel
theorem d_jdk_42_method_80_14 : decode jdk_42_method_80_code 14 = .ok (.invokevirtual 505, 3) := by decide +kernel
theorem d_jdk_42_method_80_17 : decode jdk_42_method_80_code 17 = .ok (.invokestatic 637, 3) := by decide +kernel
theorem d_jdk_42_method_80_20 : decode jdk_42_method_80_code 20 = .ok (.goto 16, 3) := by decide +kernel
theorem d_jdk_42_method_80_36 : decode jdk_42_method_80_code 36 = .ok (.ireturn, 1) := by decide +kernel
theorem d_jdk_42_method_80_4 : decode jdk_42_method_80_code 4 = .ok (.ifCond .eq 19, 3) := by decide +kernel
theorem d_jdk_42_method_80_7 : decode jdk_42_method_80_code 7 = .ok (.aload_n 0, 1) := by decide +kernel
theorem d_jdk_42_method_80_8 : decode jdk_42_method_80_code 8 = .ok (.getfield 9, 3) := by decide +kernel
theorem d_jdk_43_method_22_0 : decode jdk_43_method_22_code 0 = .ok (.iload_n 1, 1) := by decide +kernel
theorem d_jdk_43_method_22_1 : decode jdk_43_method_22_code 1 = .ok (.invokestatic 88, 3) := by decide +kernel
theorem d_jdk_43_method_22_10 : decode jdk_43_method_22_code 10 = .ok (.iconst 0, 1) := by decide +kernel
theorem d_jdk_43_method_22_11 : decode jdk_43_method_22_code 11 = .ok (.invokestatic 92, 3) := by decide +kernel
theorem d_jdk_43_method_22_14 : decode jdk_43_method_22_code 14 = .ok (.istore_n 2, 1) := by decide +kernel
theorem d_jdk_43_method_22_15 : decode jdk_43_method_22_code 15 = .ok (.iload_n 3, 1) := by decide +kernel
theorem d_jdk_43_method_22_16 : decode jdk_43_method_22_code 16 = .ok (.aload_n 0, 1) := by decide +kernel
theorem d_jdk_43_method_22_17 : decode jdk_43_method_22_code 17 = .ok (.arraylength, 1) := by decide +kernel
theorem d_jdk_43_method_22_18 : decode jdk_43_method_22_code 18 = .ok (.invokestatic 38, 3) := by decide +kernel
theorem d_jdk_43_method_22_21 : decode jdk_43_method_22_code 21 = .ok (.istore_n 3, 1) := by decide +kernel
theorem d_jdk_43_method_22_22 : decode jdk_43_method_22_code 22 = .ok (.iload_n 2, 1) := by decide +kernel
theorem d_jdk_43_method_22_23 : decode jdk_43_method_22_code 23 = .ok (.iload_n 3, 1) := by decide +kernel
theorem d_jdk_43_method_22_24 : decode jdk_43_method_22_code 24 = .ok (.if_icmp .lt 5, 3) := by decide +kernel
theorem d_jdk_43_method_22_27 : decode jdk_43_method_22_code 27 = .ok (.iconst (-1), 1) := by decide +kernel
theorem d_jdk_43_method_22_28 : decode jdk_43_method_22_code 28 = .ok (.ireturn, 1) := by decide +kernel
theorem d_jdk_43_method_22_29 : decode jdk_43_method_22_code 29 = .ok (.aload_n 0, 1) := by decide +kernel
theorem d_jdk_43_method_22_30 : decode jdk_43_method_22_code 30 = .ok (.iload_n 1, 1) := by decide +kernel
theorem d_jdk_43_method_22_31 : decode jdk_43_method_22_code 31 = .ok (.iload_n 2, 1) := by decide +kernel
theorem d_jdk_43_method_22_32 : decode jdk_43_method_22_code 32 = .ok (.iload_n 3, 1) := by decide +kernel
theorem d_jdk_43_method_22_33 : decode jdk_43_method_22_code 33 = .ok (.invokestatic 95, 3) := by decide +kernel
theorem d_jdk_43_method_22_36 : decode jdk_43_method_22_code 36 = .ok (.ireturn, 1) := by decide +kernel
theorem d_jdk_43_method_22_4 : decode jdk_43_method_22_code 4 = .ok (.ifCond .ne 5, 3) := by decide +kernel
theorem d_jdk_43_method_22_7 : decode jdk_43_method_22_code 7 = .ok (.iconst (-1), 1) := by decide +kernel
theorem d_jdk_43_method_22_8 : decode jdk_43_method_22_code 8 = .ok (.ireturn, 1) := by decide +kernel
theorem d_jdk_43_method_22_9 : decode jdk_43_method_22_code 9 = .ok (.iload_n 2, 1) := by decide +kernel
theorem d_jdk_43_method_23_0 : decode jdk_43_method_23_code 0 = .ok (.iload_n 1, 1) := by decide +kernel
theorem d_jdk_43_method_23_1 : decode jdk_43_method_23_code 1 = .ok (.i2b, 1) := by decide +kernel
theorem d_jdk_43_method_23_10 : decode jdk_43_method_23_code 10 = .ok (.if_icmp .ge 21, 3) := by decide +kernel
theorem d_jdk_43_method_23_13 : decode jdk_43_method_23_code 13 = .ok (.aload_n 0, 1) := by decide +kernel
theorem d_jdk_43_method_23_14 : decode jdk_43_method_23_code 14 = .ok (.iload 5, 2) := by decide +kernel
theorem d_jdk_43_method_23_16 : decode jdk_43_method_23_code 16 = .ok (.baload, 1) := by decide +kernel
theorem d_jdk_43_method_23_17 : decode jdk_43_method_23_code 17 = .ok (.iload 4, 2) := by decide +kernel
theorem d_jdk_43_method_23_19 : decode jdk_43_method_23_code 19 = .ok (.if_icmp .ne 6, 3) := by decide +kernel
theorem d_jdk_43_method_23_2 : decode jdk_43_method_23_code 2 = .ok (.istore 4, 2) := by decide +kernel
theorem d_jdk_43_method_23_22 : decode jdk_43_method_23_code 22 = .ok (.iload 5, 2) := by decide +kernel
theorem d_jdk_43_method_23_24 : decode jdk_43_method_23_code 24 = .ok (.ireturn, 1) := by decide +kernel
theorem d_jdk_43_method_23_25 : decode jdk_43_method_23_code 25 = .ok (.iinc 5 1, 3) := by decide +kernel
theorem d_jdk_43_method_23_28 : decode jdk_43_method_23_code 28 = .ok (.goto (-21), 3) := by decide +kernel
theorem d_jdk_43_method_23_31 : decode jdk_43_method_23_code 31 = .ok (.iconst (-1), 1) := by decide +kernel
theorem d_jdk_43_method_23_32 : decode jdk_43_method_23_code 32 = .ok (.ireturn, 1) := by decide +kernel
theorem d_jdk_43_method_23_4 : decode jdk_43_method_23_code 4 = .ok (.iload_n 2, 1) := by decide +kernel
theorem d_jdk_43_method_23_5 : decode jdk_43_method_23_code 5 = .ok (.istore 5, 2) := by decide +kernel
theorem d_jdk_43_method_23_7 : decode jdk_43_method_23_code 7 = .ok (.iload 5, 2) := by decide +kernel
theorem d_jdk_43_method_23_9 : decode jdk_43_method_23_code 9 = .ok (.iload_n 3, 1) := by decide +kernel
theorem d_jdk_43_method_4_0 : decode jdk_43_method_4_code 0 = .ok (.iload_n 0, 1) := by decide +kernel
theorem d_jdk_43_method_4_1 : decode jdk_43_method_4_code 1 = .ok (.ifCond .lt 14, 3) := by decide +kernel
theorem d_jdk_43_method_4_11 : decode jdk_43_method_4_code 11 = .ok (.iconst 1, 1) := by decide +kernel
theorem d_jdk_43_method_4_12 : decode jdk_43_method_4_code 12 = .ok (.goto 4, 3) := by decide +kernel
theorem d_jdk_43_method_4_15 : decode jdk_43_method_4_code 15 = .ok (.iconst 0, 1) := by decide +kernel
theorem d_jdk_43_method_4_16 : decode jdk_43_method_4_code 16 = .ok (.ireturn, 1) := by decide +kernel
theorem d_jdk_43_method_4_4 : decode jdk_43_method_4_code 4 = .ok (.iload_n 0, 1) := by decide +kernel
theorem d_jdk_43_method_4_5 : decode jdk_43_method_4_code 5 = .ok (.sipush 255, 3) := by decide +kernel
theorem d_jdk_43_method_4_8 : decode jdk_43_method_4_code 8 = .ok (.if_icmp .gt 7, 3) := by decide +kernel
theorem d_jdk_65_method_123_0 : decode jdk_65_method_123_code 0 = .ok (.iload_n 1, 1) := by decide +kernel
theorem d_jdk_65_method_123_1 : decode jdk_65_method_123_code 1 = .ok (.aload_n 0, 1) := by decide +kernel
theorem d_jdk_65_method_123_14 : decode jdk_65_method_123_code 14 = .ok (.iload_n 1, 1) := by decide +kernel
theorem d_jdk_65_method_123_15 : decode jdk_65_method_123_code 15 = .ok (.newarray .int, 2) := by decide +kernel
theorem d_jdk_65_method_123_17 : decode jdk_65_method_123_code 17 = .ok (.astore_n 2, 1) := by decide +kernel
theorem d_jdk_65_method_123_18 : decode jdk_65_method_123_code 18 = .ok (.aload_n 0, 1) := by decide +kernel
theorem d_jdk_65_method_123_19 : decode jdk_65_method_123_code 19 = .ok (.iconst 0, 1) := by decide +kernel
theorem d_jdk_65_method_123_2 : decode jdk_65_method_123_code 2 = .ok (.arraylength, 1) := by decide +kernel
theorem d_jdk_65_method_123_20 : decode jdk_65_method_123_code 20 = .ok (.aload_n 2, 1) := by decide +kernel
theorem d_jdk_65_method_123_21 : decode jdk_65_method_123_code 21 = .ok (.iconst 0, 1) := by decide +kernel
theorem d_jdk_65_method_123_22 : decode jdk_65_method_123_code 22 = .ok (.aload_n 0, 1) := by decide +kernel
theorem d_jdk_65_method_123_23 : decode jdk_65_method_123_code 23 = .ok (.arraylength, 1) := by decide +kernel
theorem d_jdk_65_method_123_24 : decode jdk_65_method_123_code 24 = .ok (.iload_n 1, 1) := by decide +kernel
theorem d_jdk_65_method_123_25 : decode jdk_65_method_123_code 25 = .ok (.invokestatic 304, 3) := by decide +kernel
theorem d_jdk_65_method_123_28 : decode jdk_65_method_123_code 28 = .ok (.invokestatic 150, 3) := by decide +kernel
theorem d_jdk_65_method_123_3 : decode jdk_65_method_123_code 3 = .ok (.if_icmp .ne 11, 3) := by decide +kernel
theorem d_jdk_65_method_123_31 : decode jdk_65_method_123_code 31 = .ok (.aload_n 2, 1) := by decide +kernel
theorem d_jdk_65_method_123_32 : decode jdk_65_method_123_code 32 = .ok (.areturn, 1) := by decide +kernel
theorem d_method_3_0 : decode method_3_code 0 = .ok (.iload_n 2, 1) := by decide +kernel
theorem d_method_3_1 : decode method_3_code 1 = .ok (.bipush 10, 2) := by decide +kernel
theorem d_method_3_11 : decode method_3_code 11 = .ok (.iload 4, 2) := by decide +kernel
theorem d_method_3_13 : decode method_3_code 13 = .ok (.ifCond .lt 9, 3) := by decide +kernel
theorem d_method_3_16 : decode method_3_code 16 = .ok (.iload 4, 2) := by decide +kernel
theorem d_method_3_18 : decode method_3_code 18 = .ok (.i2c, 1) := by decide +kernel
theorem d_method_3_19 : decode method_3_code 19 = .ok (.goto 6, 3) := by decide +kernel
theorem d_method_3_22 : decode method_3_code 22 = .ok (.lload_n 0, 1) := by decide +kernel
theorem d_method_3_23 : decode method_3_code 23 = .ok (.l2i, 1) := by decide +kernel
theorem d_method_3_24 : decode method_3_code 24 = .ok (.i2c, 1) := by decide +kernel
theorem d_method_3_25 : decode method_3_code 25 = .ok (.ireturn, 1) := by decide +kernel
theorem d_method_3_3 : decode method_3_code 3 = .ok (.iload_n 3, 1) := by decide +kernel
theorem d_method_3_4 : decode method_3_code 4 = .ok (.iadd, 1) := by decide +kernel
theorem d_method_3_5 : decode method_3_code 5 = .ok (.iushr, 1) := by decide +kernel
theorem d_method_3_6 : decode method_3_code 6 = .ok (.iconst 1, 1) := by decide +kernel
theorem d_method_3_7 : decode method_3_code 7 = .ok (.iand, 1) := by decide +kernel
theorem d_method_3_8 : decode method_3_code 8 = .ok (.ifCond .eq 14, 3) := by decide +kernel
theorem d_method_4_0 : decode method_4_code 0 = .ok (.iload_n 2, 1) := by decide +kernel
theorem d_method_4_1 : decode method_4_code 1 = .ok (.iload_n 1, 1) := by decide +kernel
theorem d_method_4_10 : decode method_4_code 10 = .ok (.aload_n 0, 1) := by decide +kernel
theorem d_method_4_11 : decode method_4_code 11 = .ok (.iload_n 1, 1) := by decide +kernel
theorem d_method_4_12 : decode method_4_code 12 = .ok (.caload, 1) := by decide +kernel
theorem d_method_4_13 : decode method_4_code 13 = .ok (.iload 4, 2) := by decide +kernel
theorem d_method_4_15 : decode method_4_code 15 = .ok (.if_icmp .ne 7, 3) := by decide +kernel
theorem d_method_4_18 : decode method_4_code 18 = .ok (.iconst 1, 1) := by decide +kernel
theorem d_method_4_19 : decode method_4_code 19 = .ok (.goto 4, 3) := by decide +kernel
theorem d_method_4_2 : decode method_4_code 2 = .ok (.if_icmp .gt 20, 3) := by decide +kernel
theorem d_method_4_22 : decode method_4_code 22 = .ok (.iconst 0, 1) := by decide +kernel
theorem d_method_4_23 : decode method_4_code 23 = .ok (.ireturn, 1) := by decide +kernel
theorem d_method_4_5 : decode method_4_code 5 = .ok (.iload_n 1, 1) := by decide +kernel
theorem d_method_4_6 : decode method_4_code 6 = .ok (.iload_n 3, 1) := by decide +kernel
theorem d_method_4_7 : decode method_4_code 7 = .ok (.if_icmp .ge 15, 3) := by decide +kernel
theorem d_prog_140_method_1_0 : decode prog_140_method_1_code 0 = .ok (.aload_n 0, 1) := by decide +kernel
theorem d_prog_140_method_1_1 : decode prog_140_method_1_code 1 = .ok (.aload_n 1, 1) := by decide +kernel
theorem d_prog_140_method_1_10 : decode prog_140_method_1_code 10 = .ok (.invokespecial 7, 3) := by decide +kernel
theorem d_prog_140_method_1_13 : decode prog_140_method_1_code 13 = .ok (.return_, 1) := by decide +kernel
theorem d_prog_140_method_1_2 : decode prog_140_method_1_code 2 = .ok (.iload_n 2, 1) := by decide +kernel
theorem d_prog_140_method_1_3 : decode prog_140_method_1_code 3 = .ok (.iload_n 3, 1) := by decide +kernel
theorem d_prog_140_method_1_4 : decode prog_140_method_1_code 4 = .ok (.iload 4, 2) := by decide +kernel
theorem d_prog_140_method_1_6 : decode prog_140_method_1_code 6 = .ok (.getstatic 1, 3) := by decide +kernel
theorem d_prog_140_method_1_9 : decode prog_140_method_1_code 9 = .ok (.iconst 0, 1) := by decide +kernel
theorem d_prog_140_method_2_0 : decode prog_140_method_2_code 0 = .ok (.aload_n 0, 1) := by decide +kernel
theorem d_prog_140_method_2_1 : decode prog_140_method_2_code 1 = .ok (.invokespecial 11, 3) := by decide +kernel
theorem d_prog_140_method_2_10 : decode prog_140_method_2_code 10 = .ok (.iload_n 2, 1) := by decide +kernel
theorem d_prog_140_method_2_11 : decode prog_140_method_2_code 11 = .ok (.putfield 20, 3) := by decide +kernel
theorem d_prog_140_method_2_14 : decode prog_140_method_2_code 14 = .ok (.aload_n 0, 1) := by decide +kernel
theorem d_prog_140_method_2_15 : decode prog_140_method_2_code 15 = .ok (.iload_n 3, 1) := by decide +kernel
theorem d_prog_140_method_2_16 : decode prog_140_method_2_code 16 = .ok (.putfield 24, 3) := by decide +kernel
theorem d_prog_140_method_2_19 : decode prog_140_method_2_code 19 = .ok (.aload_n 0, 1) := by decide +kernel
theorem d_prog_140_method_2_20 : decode prog_140_method_2_code 20 = .ok (.iload 4, 2) := by decide +kernel
theorem d_prog_140_method_2_22 : decode prog_140_method_2_code 22 = .ok (.putfield 27, 3) := by decide +kernel
theorem d_prog_140_method_2_25 : decode prog_140_method_2_code 25 = .ok (.aload_n 0, 1) := by decide +kernel
theorem d_prog_140_method_2_26 : decode prog_140_method_2_code 26 = .ok (.aload 5, 2) := by decide +kernel
theorem d_prog_140_method_2_28 : decode prog_140_method_2_code 28 = .ok (.putfield 30, 3) := by decide +kernel
theorem d_prog_140_method_2_31 : decode prog_140_method_2_code 31 = .ok (.aload_n 0, 1) := by decide +kernel
theorem d_prog_140_method_2_32 : decode prog_140_method_2_code 32 = .ok (.iload 6, 2) := by decide +kernel
theorem d_prog_140_method_2_34 : decode prog_140_method_2_code 34 = .ok (.putfield 33, 3) := by decide +kernel
theorem d_prog_140_method_2_37 : decode prog_140_method_2_code 37 = .ok (.return_, 1) := by decide +kernel
theorem d_prog_140_method_2_4 : decode prog_140_method_2_code 4 = .ok (.aload_n 0, 1) := by decide +kernel
theorem d_prog_140_method_2_5 : decode prog_140_method_2_code 5 = .ok (.aload_n 1, 1) := by decide +kernel
theorem d_prog_140_method_2_6 : decode prog_140_method_2_code 6 = .ok (.putfield 16, 3) := by decide +kernel
theorem d_prog_140_method_2_9 : decode prog_140_method_2_code 9 = .ok (.aload_n 0, 1) := by decide +kernel
theorem d_prog_140_method_3_0 : decode prog_140_method_3_code 0 = .ok (.iload_n 1, 1) := by decide +kernel
theorem d_prog_140_method_3_1 : decode prog_140_method_3_code 1 = .ok (.aload_n 0, 1) := by decide +kernel
theorem d_prog_140_method_3_111 : decode prog_140_method_3_code 111 = .ok (.aload_n 0, 1) := by decide +kernel
theorem d_prog_140_method_3_112 : decode prog_140_method_3_code 112 = .ok (.getfield 27, 3) := by decide +kernel
theorem d_prog_140_method_3_115 : decode prog_140_method_3_code 115 = .ok (.invokespecial 50, 3) := by decide +kernel
theorem d_prog_140_method_3_118 : decode prog_140_method_3_code 118 = .ok (.astore 5, 2) := by decide +kernel
theorem d_prog_140_method_3_12 : decode prog_140_method_3_code 12 = .ok (.ifCond .le 23, 3) := by decide +kernel
theorem d_prog_140_method_3_120 : decode prog_140_method_3_code 120 = .ok (.iload 4, 2) := by decide +kernel
theorem d_prog_140_method_3_122 : decode prog_140_method_3_code 122 = .ok (.iload_n 2, 1) := by decide +kernel
theorem d_prog_140_method_3_123 : decode prog_140_method_3_code 123 = .ok (.if_icmp .ge 47, 3) := by decide +kernel
theorem d_prog_140_method_3_126 : decode prog_140_method_3_code 126 = .ok (.aload 5, 2) := by decide +kernel
theorem d_prog_140_method_3_128 : decode prog_140_method_3_code 128 = .ok (.invokevirtual 53, 3) := by decide +kernel
theorem d_prog_140_method_3_131 : decode prog_140_method_3_code 131 = .ok (.ifCond .eq 39, 3) := by decide +kernel
theorem d_prog_140_method_3_134 : decode prog_140_method_3_code 134 = .ok (.aload 5, 2) := by decide +kernel
theorem d_prog_140_method_3_136 : decode prog_140_method_3_code 136 = .ok (.invokevirtual 57, 3) := by decide +kernel
theorem d_prog_140_method_3_139 : decode prog_140_method_3_code 139 = .ok (.iload 4, 2) := by decide +kernel
theorem d_prog_140_method_3_141 : decode prog_140_method_3_code 141 = .ok (.aload_n 3, 1) := by decide +kernel
theorem d_prog_140_method_3_142 : decode prog_140_method_3_code 142 = .ok (.arraylength, 1) := by decide +kernel
theorem d_prog_140_method_3_143 : decode prog_140_method_3_code 143 = .ok (.if_icmp .ne 12, 3) := by decide +kernel
theorem d_prog_140_method_3_146 : decode prog_140_method_3_code 146 = .ok (.aload_n 3, 1) := by decide +kernel
theorem d_prog_140_method_3_147 : decode prog_140_method_3_code 147 = .ok (.iconst 2, 1) := by decide +kernel
theorem d_prog_140_method_3_148 : decode prog_140_method_3_code 148 = .ok (.iload 4, 2) := by decide +kernel
theorem d_prog_140_method_3_150 : decode prog_140_method_3_code 150 = .ok (.imul, 1) := by decide +kernel
theorem d_prog_140_method_3_151 : decode prog_140_method_3_code 151 = .ok (.invokestatic 42, 3) := by decide +kernel
theorem d_prog_140_method_3_154 : decode prog_140_method_3_code 154 = .ok (.astore_n 3, 1) := by decide +kernel
theorem d_prog_140_method_3_155 : decode prog_140_method_3_code 155 = .ok (.aload_n 3, 1) := by decide +kernel
theorem d_prog_140_method_3_156 : decode prog_140_method_3_code 156 = .ok (.iload 4, 2) := by decide +kernel
theorem d_prog_140_method_3_158 : decode prog_140_method_3_code 158 = .ok (.aload 5, 2) := by decide +kernel
theorem d_prog_140_method_3_160 : decode prog_140_method_3_code 160 = .ok (.invokevirtual 60, 3) := by decide +kernel
theorem d_prog_140_method_3_163 : decode prog_140_method_3_code 163 = .ok (.iastore, 1) := by decide +kernel
theorem d_prog_140_method_3_164 : decode prog_140_method_3_code 164 = .ok (.iinc 4 1, 3) := by decide +kernel
theorem d_prog_140_method_3_167 : decode prog_140_method_3_code 167 = .ok (.goto (-47), 3) := by decide +kernel
theorem d_prog_140_method_3_170 : decode prog_140_method_3_code 170 = .ok (.new 2, 3) := by decide +kernel
theorem d_prog_140_method_3_173 : decode prog_140_method_3_code 173 = .ok (.dup, 1) := by decide +kernel
theorem d_prog_140_method_3_174 : decode prog_140_method_3_code 174 = .ok (.aload_n 0, 1) := by decide +kernel
theorem d_prog_140_method_3_175 : decode prog_140_method_3_code 175 = .ok (.getfield 16, 3) := by decide +kernel
theorem d_prog_140_method_3_178 : decode prog_140_method_3_code 178 = .ok (.aload_n 0, 1) := by decide +kernel
theorem d_prog_140_method_3_179 : decode prog_140_method_3_code 179 = .ok (.getfield 20, 3) := by decide +kernel
theorem d_prog_140_method_3_182 : decode prog_140_method_3_code 182 = .ok (.aload_n 0, 1) := by decide +kernel
theorem d_prog_140_method_3_183 : decode prog_140_method_3_code 183 = .ok (.getfield 24, 3) := by decide +kernel
theorem d_prog_140_method_3_186 : decode prog_140_method_3_code 186 = .ok (.aload_n 0, 1) := by decide +kernel
theorem d_prog_140_method_3_187 : decode prog_140_method_3_code 187 = .ok (.getfield 27, 3) := by decide +kernel
theorem d_prog_140_method_3_190 : decode prog_140_method_3_code 190 = .ok (.aload_n 3, 1) := by decide +kernel
theorem d_prog_140_method_3_191 : decode prog_140_method_3_code 191 = .ok (.iload 4, 2) := by decide +kernel
theorem d_prog_140_method_3_193 : decode prog_140_method_3_code 193 = .ok (.invokespecial 7, 3) := by decide +kernel
theorem d_prog_140_method_3_196 : decode prog_140_method_3_code 196 = .ok (.areturn, 1) := by decide +kernel
theorem d_prog_140_method_3_2 : decode prog_140_method_3_code 2 = .ok (.getfield 33, 3) := by decide +kernel
theorem d_prog_140_method_3_33 : decode prog_140_method_3_code 33 = .ok (.aload_n 0, 1) := by decide +kernel
theorem d_prog_140_method_3_34 : decode prog_140_method_3_code 34 = .ok (.areturn, 1) := by decide +kernel
theorem d_prog_140_method_3_35 : decode prog_140_method_3_code 35 = .ok (.iload_n 1, 1) := by decide +kernel
theorem d_prog_140_method_3_36 : decode prog_140_method_3_code 36 = .ok (.bipush 8, 2) := by decide +kernel
theorem d_prog_140_method_3_38 : decode prog_140_method_3_code 38 = .ok (.iconst 2, 1) := by decide +kernel
theorem d_prog_140_method_3_39 : decode prog_140_method_3_code 39 = .ok (.aload_n 0, 1) := by decide +kernel
theorem d_prog_140_method_3_40 : decode prog_140_method_3_code 40 = .ok (.getfield 33, 3) := by decide +kernel
theorem d_prog_140_method_3_43 : decode prog_140_method_3_code 43 = .ok (.imul, 1) := by decide +kernel
theorem d_prog_140_method_3_44 : decode prog_140_method_3_code 44 = .ok (.invokestatic 36, 3) := by decide +kernel
theorem d_prog_140_method_3_47 : decode prog_140_method_3_code 47 = .ok (.invokestatic 36, 3) := by decide +kernel
theorem d_prog_140_method_3_5 : decode prog_140_method_3_code 5 = .ok (.if_icmp .le 28, 3) := by decide +kernel
theorem d_prog_140_method_3_50 : decode prog_140_method_3_code 50 = .ok (.istore_n 2, 1) := by decide +kernel
theorem d_prog_140_method_3_51 : decode prog_140_method_3_code 51 = .ok (.aload_n 0, 1) := by decide +kernel
theorem d_prog_140_method_3_52 : decode prog_140_method_3_code 52 = .ok (.getfield 30, 3) := by decide +kernel
theorem d_prog_140_method_3_55 : decode prog_140_method_3_code 55 = .ok (.bipush 8, 2) := by decide +kernel
theorem d_prog_140_method_3_57 : decode prog_140_method_3_code 57 = .ok (.iconst 2, 1) := by decide +kernel
theorem d_prog_140_method_3_58 : decode prog_140_method_3_code 58 = .ok (.aload_n 0, 1) := by decide +kernel
theorem d_prog_140_method_3_59 : decode prog_140_method_3_code 59 = .ok (.getfield 33, 3) := by decide +kernel
theorem d_prog_140_method_3_62 : decode prog_140_method_3_code 62 = .ok (.imul, 1) := by decide +kernel
theorem d_prog_140_method_3_63 : decode prog_140_method_3_code 63 = .ok (.invokestatic 36, 3) := by decide +kernel
theorem d_prog_140_method_3_66 : decode prog_140_method_3_code 66 = .ok (.invokestatic 42, 3) := by decide +kernel
theorem d_prog_140_method_3_69 : decode prog_140_method_3_code 69 = .ok (.astore_n 3, 1) := by decide +kernel
theorem d_prog_140_method_3_70 : decode prog_140_method_3_code 70 = .ok (.aload_n 0, 1) := by decide +kernel
theorem d_prog_140_method_3_71 : decode prog_140_method_3_code 71 = .ok (.getfield 33, 3) := by decide +kernel
theorem d_prog_140_method_3_74 : decode prog_140_method_3_code 74 = .ok (.istore 4, 2) := by decide +kernel
theorem d_prog_140_method_3_76 : decode prog_140_method_3_code 76 = .ok (.new 48, 3) := by decide +kernel
theorem d_prog_140_method_3_79 : decode prog_140_method_3_code 79 = .ok (.dup, 1) := by decide +kernel
theorem d_prog_140_method_3_8 : decode prog_140_method_3_code 8 = .ok (.aload_n 0, 1) := by decide +kernel
theorem d_prog_140_method_3_80 : decode prog_140_method_3_code 80 = .ok (.aload_n 0, 1) := by decide +kernel
theorem d_prog_140_method_3_81 : decode prog_140_method_3_code 81 = .ok (.getfield 16, 3) := by decide +kernel
theorem d_prog_140_method_3_84 : decode prog_140_method_3_code 84 = .ok (.aload_n 0, 1) := by decide +kernel
theorem d_prog_140_method_3_85 : decode prog_140_method_3_code 85 = .ok (.getfield 20, 3) := by decide +kernel
theorem d_prog_140_method_3_88 : decode prog_140_method_3_code 88 = .ok (.iload 4, 2) := by decide +kernel
theorem d_prog_140_method_3_9 : decode prog_140_method_3_code 9 = .ok (.getfield 33, 3) := by decide +kernel
theorem d_prog_140_method_3_90 : decode prog_140_method_3_code 90 = .ok (.ifCond .ne 10, 3) := by decide +kernel
theorem d_prog_140_method_3_93 : decode prog_140_method_3_code 93 = .ok (.aload_n 0, 1) := by decide +kernel
theorem d_prog_140_method_3_94 : decode prog_140_method_3_code 94 = .ok (.getfield 24, 3) := by decide +kernel
theorem d_prog_140_method_3_97 : decode prog_140_method_3_code 97 = .ok (.goto 14, 3) := by decide +kernel
theorem d_prog_140_method_5_0 : decode prog_140_method_5_code 0 = .ok (.iload_n 1, 1) := by decide +kernel
theorem d_prog_140_method_5_1 : decode prog_140_method_5_code 1 = .ok (.iconst 1, 1) := by decide +kernel
theorem d_prog_140_method_5_10 : decode prog_140_method_5_code 10 = .ok (.if_icmp .gt 14, 3) := by decide +kernel
theorem d_prog_140_method_5_13 : decode prog_140_method_5_code 13 = .ok (.aload_n 0, 1) := by decide +kernel
theorem d_prog_140_method_5_14 : decode prog_140_method_5_code 14 = .ok (.getfield 30, 3) := by decide +kernel
theorem d_prog_140_method_5_17 : decode prog_140_method_5_code 17 = .ok (.iload_n 1, 1) := by decide +kernel
theorem d_prog_140_method_5_18 : decode prog_140_method_5_code 18 = .ok (.iconst 1, 1) := by decide +kernel
theorem d_prog_140_method_5_19 : decode prog_140_method_5_code 19 = .ok (.isub, 1) := by decide +kernel
theorem d_prog_140_method_5_2 : decode prog_140_method_5_code 2 = .ok (.if_icmp .lt 22, 3) := by decide +kernel
theorem d_prog_140_method_5_20 : decode prog_140_method_5_code 20 = .ok (.iaload, 1) := by decide +kernel
theorem d_prog_140_method_5_21 : decode prog_140_method_5_code 21 = .ok (.goto 7, 3) := by decide +kernel
theorem d_prog_140_method_5_24 : decode prog_140_method_5_code 24 = .ok (.aload_n 0, 1) := by decide +kernel
theorem d_prog_140_method_5_25 : decode prog_140_method_5_code 25 = .ok (.getfield 27, 3) := by decide +kernel
theorem d_prog_140_method_5_28 : decode prog_140_method_5_code 28 = .ok (.ireturn, 1) := by decide +kernel
theorem d_prog_140_method_5_5 : decode prog_140_method_5_code 5 = .ok (.iload_n 1, 1) := by decide +kernel
theorem d_prog_140_method_5_6 : decode prog_140_method_5_code 6 = .ok (.aload_n 0, 1) := by decide +kernel
theorem d_prog_140_method_5_7 : decode prog_140_method_5_code 7 = .ok (.getfield 33, 3) := by decide +kernel
theorem d_prog_142_method_1_0 : decode prog_142_method_1_code 0 = .ok (.aload_n 0, 1) := by decide +kernel
theorem d_prog_142_method_1_1 : decode prog_142_method_1_code 1 = .ok (.invokespecial 1, 3) := by decide +kernel
theorem d_prog_142_method_1_10 : decode prog_142_method_1_code 10 = .ok (.iload_n 2, 1) := by decide +kernel
theorem d_prog_142_method_1_11 : decode prog_142_method_1_code 11 = .ok (.putfield 13, 3) := by decide +kernel
theorem d_prog_142_method_1_14 : decode prog_142_method_1_code 14 = .ok (.aload_n 0, 1) := by decide +kernel
theorem d_prog_142_method_1_15 : decode prog_142_method_1_code 15 = .ok (.iload 4, 2) := by decide +kernel
theorem d_prog_142_method_1_17 : decode prog_142_method_1_code 17 = .ok (.putfield 17, 3) := by decide +kernel
theorem d_prog_142_method_1_20 : decode prog_142_method_1_code 20 = .ok (.aload_n 0, 1) := by decide +kernel
theorem d_prog_142_method_1_21 : decode prog_142_method_1_code 21 = .ok (.iload_n 3, 1) := by decide +kernel
theorem d_prog_142_method_1_22 : decode prog_142_method_1_code 22 = .ok (.putfield 20, 3) := by decide +kernel
theorem d_prog_142_method_1_25 : decode prog_142_method_1_code 25 = .ok (.aload_n 0, 1) := by decide +kernel
theorem d_prog_142_method_1_26 : decode prog_142_method_1_code 26 = .ok (.iload_n 3, 1) := by decide +kernel
theorem d_prog_142_method_1_27 : decode prog_142_method_1_code 27 = .ok (.putfield 23, 3) := by decide +kernel
theorem d_prog_142_method_1_30 : decode prog_142_method_1_code 30 = .ok (.aload_n 0, 1) := by decide +kernel
theorem d_prog_142_method_1_31 : decode prog_142_method_1_code 31 = .ok (.iload_n 3, 1) := by decide +kernel
theorem d_prog_142_method_1_32 : decode prog_142_method_1_code 32 = .ok (.putfield 26, 3) := by decide +kernel
theorem d_prog_142_method_1_35 : decode prog_142_method_1_code 35 = .ok (.return_, 1) := by decide +kernel
theorem d_prog_142_method_1_4 : decode prog_142_method_1_code 4 = .ok (.aload_n 0, 1) := by decide +kernel
theorem d_prog_142_method_1_5 : decode prog_142_method_1_code 5 = .ok (.aload_n 1, 1) := by decide +kernel
theorem d_prog_142_method_1_6 : decode prog_142_method_1_code 6 = .ok (.putfield 7, 3) := by decide +kernel
theorem d_prog_142_method_1_9 : decode prog_142_method_1_code 9 = .ok (.aload_n 0, 1) := by decide +kernel
theorem d_prog_142_method_3_0 : decode prog_142_method_3_code 0 = .ok (.iload_n 3, 1) := by decide +kernel
theorem d_prog_142_method_3_1 : decode prog_142_method_3_code 1 = .ok (.istore 4, 2) := by decide +kernel
theorem d_prog_142_method_3_11 : decode prog_142_method_3_code 11 = .ok (.iload_n 3, 1) := by decide +kernel
theorem d_prog_142_method_3_12 : decode prog_142_method_3_code 12 = .ok (.aload_n 0, 1) := by decide +kernel
theorem d_prog_142_method_3_13 : decode prog_142_method_3_code 13 = .ok (.invokevirtual 36, 3) := by decide +kernel
theorem d_prog_142_method_3_16 : decode prog_142_method_3_code 16 = .ok (.if_icmp .ne 23, 3) := by decide +kernel
theorem d_prog_142_method_3_19 : decode prog_142_method_3_code 19 = .ok (.aload_n 0, 1) := by decide +kernel
theorem d_prog_142_method_3_20 : decode prog_142_method_3_code 20 = .ok (.iload_n 1, 1) := by decide +kernel
theorem d_prog_142_method_3_21 : decode prog_142_method_3_code 21 = .ok (.iload_n 2, 1) := by decide +kernel
theorem d_prog_142_method_3_22 : decode prog_142_method_3_code 22 = .ok (.invokevirtual 42, 3) := by decide +kernel
theorem d_prog_142_method_3_25 : decode prog_142_method_3_code 25 = .ok (.istore 5, 2) := by decide +kernel
theorem d_prog_142_method_3_27 : decode prog_142_method_3_code 27 = .ok (.iload 5, 2) := by decide +kernel
theorem d_prog_142_method_3_29 : decode prog_142_method_3_code 29 = .ok (.ifCond .lt 7, 3) := by decide +kernel
theorem d_prog_142_method_3_3 : decode prog_142_method_3_code 3 = .ok (.iload_n 1, 1) := by decide +kernel
theorem d_prog_142_method_3_32 : decode prog_142_method_3_code 32 = .ok (.iload 5, 2) := by decide +kernel
theorem d_prog_142_method_3_34 : decode prog_142_method_3_code 34 = .ok (.istore 4, 2) := by decide +kernel
theorem d_prog_142_method_3_36 : decode prog_142_method_3_code 36 = .ok (.goto 32, 3) := by decide +kernel
theorem d_prog_142_method_3_39 : decode prog_142_method_3_code 39 = .ok (.iload_n 2, 1) := by decide +kernel
theorem d_prog_142_method_3_4 : decode prog_142_method_3_code 4 = .ok (.iconst (-1), 1) := by decide +kernel
theorem d_prog_142_method_3_40 : decode prog_142_method_3_code 40 = .ok (.istore 5, 2) := by decide +kernel
theorem d_prog_142_method_3_42 : decode prog_142_method_3_code 42 = .ok (.iload 5, 2) := by decide +kernel
theorem d_prog_142_method_3_44 : decode prog_142_method_3_code 44 = .ok (.iload_n 3, 1) := by decide +kernel
theorem d_prog_142_method_3_45 : decode prog_142_method_3_code 45 = .ok (.if_icmp .ge 19, 3) := by decide +kernel
theorem d_prog_142_method_3_48 : decode prog_142_method_3_code 48 = .ok (.aload_n 0, 1) := by decide +kernel
theorem d_prog_142_method_3_49 : decode prog_142_method_3_code 49 = .ok (.iload 5, 2) := by decide +kernel
theorem d_prog_142_method_3_5 : decode prog_142_method_3_code 5 = .ok (.if_icmp .ne 6, 3) := by decide +kernel
theorem d_prog_142_method_3_51 : decode prog_142_method_3_code 51 = .ok (.invokevirtual 46, 3) := by decide +kernel
theorem d_prog_142_method_3_54 : decode prog_142_method_3_code 54 = .ok (.iload_n 1, 1) := by decide +kernel
theorem d_prog_142_method_3_55 : decode prog_142_method_3_code 55 = .ok (.if_icmp .eq 9, 3) := by decide +kernel
theorem d_prog_142_method_3_58 : decode prog_142_method_3_code 58 = .ok (.iinc 5 1, 3) := by decide +kernel
theorem d_prog_142_method_3_61 : decode prog_142_method_3_code 61 = .ok (.goto (-19), 3) := by decide +kernel
theorem d_prog_142_method_3_64 : decode prog_142_method_3_code 64 = .ok (.iload 5, 2) := by decide +kernel
theorem d_prog_142_method_3_66 : decode prog_142_method_3_code 66 = .ok (.istore 4, 2) := by decide +kernel
theorem d_prog_142_method_3_68 : decode prog_142_method_3_code 68 = .ok (.iload 4, 2) := by decide +kernel
theorem d_prog_142_method_3_70 : decode prog_142_method_3_code 70 = .ok (.ireturn, 1) := by decide +kernel
theorem d_prog_142_method_3_8 : decode prog_142_method_3_code 8 = .ok (.goto 60, 3) := by decide +kernel
theorem d_prog_142_method_7_0 : decode prog_142_method_7_code 0 = .ok (.aload_n 0, 1) := by decide +kernel
theorem d_prog_142_method_7_1 : decode prog_142_method_7_code 1 = .ok (.getfield 26, 3) := by decide +kernel
theorem d_prog_142_method_7_4 : decode prog_142_method_7_code 4 = .ok (.ireturn, 1) := by decide +kernel
theorem d_prog_142_method_8_0 : decode prog_142_method_8_code 0 = .ok (.aload_n 0, 1) := by decide +kernel
theorem d_prog_142_method_8_1 : decode prog_142_method_8_code 1 = .ok (.invokevirtual 53, 3) := by decide +kernel
theorem d_prog_142_method_8_15 : decode prog_142_method_8_code 15 = .ok (.aload_n 0, 1) := by decide +kernel
theorem d_prog_142_method_8_16 : decode prog_142_method_8_code 16 = .ok (.aload_n 0, 1) := by decide +kernel
theorem d_prog_142_method_8_17 : decode prog_142_method_8_code 17 = .ok (.getfield 20, 3) := by decide +kernel
theorem d_prog_142_method_8_20 : decode prog_142_method_8_code 20 = .ok (.putfield 23, 3) := by decide +kernel
theorem d_prog_142_method_8_23 : decode prog_142_method_8_code 23 = .ok (.aload_n 0, 1) := by decide +kernel
theorem d_prog_142_method_8_24 : decode prog_142_method_8_code 24 = .ok (.aload_n 0, 1) := by decide +kernel
theorem d_prog_142_method_8_25 : decode prog_142_method_8_code 25 = .ok (.getfield 7, 3) := by decide +kernel
theorem d_prog_142_method_8_28 : decode prog_142_method_8_code 28 = .ok (.aload_n 0, 1) := by decide +kernel
theorem d_prog_142_method_8_29 : decode prog_142_method_8_code 29 = .ok (.getfield 13, 3) := by decide +kernel
theorem d_prog_142_method_8_32 : decode prog_142_method_8_code 32 = .ok (.aload_n 0, 1) := by decide +kernel
theorem d_prog_142_method_8_33 : decode prog_142_method_8_code 33 = .ok (.getfield 20, 3) := by decide +kernel
theorem d_prog_142_method_8_36 : decode prog_142_method_8_code 36 = .ok (.aload_n 0, 1) := by decide +kernel
theorem d_prog_142_method_8_37 : decode prog_142_method_8_code 37 = .ok (.getfield 17, 3) := by decide +kernel
theorem d_prog_142_method_8_4 : decode prog_142_method_8_code 4 = .ok (.ifCond .ne 11, 3) := by decide +kernel
theorem d_prog_142_method_8_40 : decode prog_142_method_8_code 40 = .ok (.invokestatic 60, 3) := by decide +kernel
theorem d_prog_142_method_8_43 : decode prog_142_method_8_code 43 = .ok (.putfield 26, 3) := by decide +kernel
theorem d_prog_142_method_8_46 : decode prog_142_method_8_code 46 = .ok (.aload_n 0, 1) := by decide +kernel
theorem d_prog_142_method_8_47 : decode prog_142_method_8_code 47 = .ok (.aload_n 0, 1) := by decide +kernel
theorem d_prog_142_method_8_48 : decode prog_142_method_8_code 48 = .ok (.getfield 26, 3) := by decide +kernel
theorem d_prog_142_method_8_51 : decode prog_142_method_8_code 51 = .ok (.iconst 1, 1) := by decide +kernel
theorem d_prog_142_method_8_52 : decode prog_142_method_8_code 52 = .ok (.iadd, 1) := by decide +kernel
theorem d_prog_142_method_8_53 : decode prog_142_method_8_code 53 = .ok (.putfield 20, 3) := by decide +kernel
theorem d_prog_142_method_8_56 : decode prog_142_method_8_code 56 = .ok (.aload_n 0, 1) := by decide +kernel
theorem d_prog_142_method_8_57 : decode prog_142_method_8_code 57 = .ok (.dup, 1) := by decide +kernel
theorem d_prog_142_method_8_58 : decode prog_142_method_8_code 58 = .ok (.getfield 50, 3) := by decide +kernel
theorem d_prog_142_method_8_61 : decode prog_142_method_8_code 61 = .ok (.iconst 1, 1) := by decide +kernel
theorem d_prog_142_method_8_62 : decode prog_142_method_8_code 62 = .ok (.iadd, 1) := by decide +kernel
theorem d_prog_142_method_8_63 : decode prog_142_method_8_code 63 = .ok (.putfield 50, 3) := by decide +kernel
theorem d_prog_142_method_8_66 : decode prog_142_method_8_code 66 = .ok (.return_, 1) := by decide +kernel
theorem d_prog_142_method_9_0 : decode prog_142_method_9_code 0 = .ok (.aload_n 0, 1) := by decide +kernel
theorem d_prog_142_method_9_1 : decode prog_142_method_9_code 1 = .ok (.getfield 20, 3) := by decide +kernel
theorem d_prog_142_method_9_11 : decode prog_142_method_9_code 11 = .ok (.iconst 1, 1) := by decide +kernel
theorem d_prog_142_method_9_12 : decode prog_142_method_9_code 12 = .ok (.goto 4, 3) := by decide +kernel
theorem d_prog_142_method_9_15 : decode prog_142_method_9_code 15 = .ok (.iconst 0, 1) := by decide +kernel
theorem d_prog_142_method_9_16 : decode prog_142_method_9_code 16 = .ok (.ireturn, 1) := by decide +kernel
theorem d_prog_142_method_9_4 : decode prog_142_method_9_code 4 = .ok (.aload_n 0, 1) := by decide +kernel
theorem d_prog_142_method_9_5 : decode prog_142_method_9_code 5 = .ok (.getfield 17, 3) := by decide +kernel
theorem d_prog_142_method_9_8 : decode prog_142_method_9_code 8 = .ok (.if_icmp .gt 7, 3) := by decide +kernel
theorem w_0 {Z : State} {a0 : Array Value} (hw : ∀ d ∈ tables_1, d.before a0 Z = true) : ((Jvm.Cond.arrayClass Jvm.ClassFile.FieldType.char) : Jvm.Cond).before a0 Z = true := hw _ (List.mem_of_getElem? (i := 0) rfl)
theorem w_1 {Z : State} {a0 : Array Value} (hw : ∀ d ∈ tables_1, d.before a0 Z = true) : ((Jvm.Cond.constantLong "com/example/resultwire/resultwire/er7/PieceIndexEndPinLaw" (7 : Nat) (255 : Int64)) : Jvm.Cond).before a0 Z = true := hw _ (List.mem_of_getElem? (i := 1) rfl)
theorem w_2 {Z : State} {a0 : Array Value} (hw : ∀ d ∈ tables_1, d.before a0 Z = true) : ((Jvm.Cond.methodLink "com/example/resultwire/resultwire/er7/PieceIndexEndPinLaw" (9 : Nat) ({ cls := "com/example/resultwire/resultwire/er7/PieceIndexEndPinLaw", name := "ch", desc := "(JIII)C" } : Jvm.MethodName)) : Jvm.Cond).before a0 Z = true := hw _ (List.mem_of_getElem? (i := 2) rfl)
theorem w_3 {Z : State} {a0 : Array Value} (hw : ∀ d ∈ tables_1, d.before a0 Z = true) : ((Jvm.Cond.static ({ cls := "com/example/resultwire/resultwire/er7/PieceIndexEndPinLaw", name := "ch", desc := "(JIII)C" } : Jvm.MethodName)) : Jvm.Cond).before a0 Z = true := hw _ (List.mem_of_getElem? (i := 3) rfl)
theorem w_4 {Z : State} {a0 : Array Value} (hw : ∀ d ∈ tables_1, d.before a0 Z = true) : ((Jvm.Cond.initialized "com/example/resultwire/resultwire/er7/PieceIndexEndPinLaw") : Jvm.Cond).before a0 Z = true := hw _ (List.mem_of_getElem? (i := 4) rfl)
theorem w_5 {Z : State} {a0 : Array Value} (hw : ∀ d ∈ tables_1, d.before a0 Z = true) : ((Jvm.Cond.code ({ cls := "com/example/resultwire/resultwire/er7/PieceIndexEndPinLaw", name := "ch", desc := "(JIII)C" } : Jvm.MethodName) method_3_code (5 : Nat) (Option.some Jvm.ClassFile.FieldType.char)) : Jvm.Cond).before a0 Z = true := hw _ (List.mem_of_getElem? (i := 5) rfl)
theorem w_6 {Z : State} {a0 : Array Value} (hw : ∀ d ∈ tables_1, d.before a0 Z = true) : ((Jvm.Cond.classLink "com/example/resultwire/resultwire/er7/PieceIndexEndPinLaw" (15 : Nat) "java/lang/String") : Jvm.Cond).before a0 Z = true := hw _ (List.mem_of_getElem? (i := 6) rfl)
theorem w_7 {Z : State} {a0 : Array Value} (hw : ∀ d ∈ tables_1, d.before a0 Z = true) : ((Jvm.Cond.instantiable "java/lang/String" (4 : Nat)) : Jvm.Cond).before a0 Z = true := hw _ (List.mem_of_getElem? (i := 7) rfl)
theorem w_8 {Z : State} {a0 : Array Value} (hw : ∀ d ∈ tables_1, d.before a0 Z = true) : ((Jvm.Cond.initialized "java/lang/String") : Jvm.Cond).before a0 Z = true := hw _ (List.mem_of_getElem? (i := 8) rfl)
theorem w_9 {Z : State} {a0 : Array Value} (hw : ∀ d ∈ tables_1, d.before a0 Z = true) : ((Jvm.Cond.methodLink "com/example/resultwire/resultwire/er7/PieceIndexEndPinLaw" (17 : Nat) ({ cls := "java/lang/String", name := "<init>", desc := "([C)V" } : Jvm.MethodName)) : Jvm.Cond).before a0 Z = true := hw _ (List.mem_of_getElem? (i := 9) rfl)
theorem w_10 {Z : State} {a0 : Array Value} (hw : ∀ d ∈ tables_1, d.before a0 Z = true) : ((Jvm.Cond.instanceMethod ({ cls := "java/lang/String", name := "<init>", desc := "([C)V" } : Jvm.MethodName)) : Jvm.Cond).before a0 Z = true := hw _ (List.mem_of_getElem? (i := 10) rfl)
theorem w_11 {Z : State} {a0 : Array Value} (hw : ∀ d ∈ tables_1, d.before a0 Z = true) : ((Jvm.Cond.code ({ cls := "java/lang/String", name := "<init>", desc := "([C)V" } : Jvm.MethodName) jdk_42_method_3_code (2 : Nat) (Option.none : Option Jvm.ClassFile.FieldType)) : Jvm.Cond).before a0 Z = true := hw _ (List.mem_of_getElem? (i := 11) rfl)
theorem w_17 {Z : State} {a0 : Array Value} (hw : ∀ d ∈ tables_1, d.before a0 Z = true) : ((Jvm.Cond.instanceMethod ({ cls := "java/lang/Object", name := "<init>", desc := "()V" } : Jvm.MethodName)) : Jvm.Cond).before a0 Z = true := hw _ (List.mem_of_getElem? (i := 17) rfl)
theorem w_18 {Z : State} {a0 : Array Value} (hw : ∀ d ∈ tables_1, d.before a0 Z = true) : ((Jvm.Cond.code ({ cls := "java/lang/Object", name := "<init>", desc := "()V" } : Jvm.MethodName) object_method_1_code (1 : Nat) (Option.none : Option Jvm.ClassFile.FieldType)) : Jvm.Cond).before a0 Z = true := hw _ (List.mem_of_getElem? (i := 18) rfl)
theorem w_19 {Z : State} {a0 : Array Value} (hw : ∀ d ∈ tables_1, d.before a0 Z = true) : ((Jvm.Cond.fieldLink "java/lang/String" (38 : Nat) "java/lang/String" "COMPACT_STRINGS" "Z") : Jvm.Cond).before a0 Z = true := hw _ (List.mem_of_getElem? (i := 19) rfl)
theorem w_31 {Z : State} {a0 : Array Value} (hw : ∀ d ∈ tables_1, d.before a0 Z = true) : ((Jvm.Cond.fieldLink "java/lang/String" (15 : Nat) "java/lang/String" "coder" "B") : Jvm.Cond).before a0 Z = true := hw _ (List.mem_of_getElem? (i := 31) rfl)
theorem w_32 {Z : State} {a0 : Array Value} (hw : ∀ d ∈ tables_1, d.before a0 Z = true) : ((Jvm.Cond.laysFinal "java/lang/String" "java/lang/String" "coder" "B") : Jvm.Cond).before a0 Z = true := hw _ (List.mem_of_getElem? (i := 32) rfl)
theorem w_33 {Z : State} {a0 : Array Value} (hw : ∀ d ∈ tables_1, d.before a0 Z = true) : ((Jvm.Cond.fieldLink "java/lang/String" (9 : Nat) "java/lang/String" "value" "[B") : Jvm.Cond).before a0 Z = true := hw _ (List.mem_of_getElem? (i := 33) rfl)
theorem w_34 {Z : State} {a0 : Array Value} (hw : ∀ d ∈ tables_1, d.before a0 Z = true) : ((Jvm.Cond.laysFinal "java/lang/String" "java/lang/String" "value" "[B") : Jvm.Cond).before a0 Z = true := hw _ (List.mem_of_getElem? (i := 34) rfl)
theorem w_35 {Z : State} {a0 : Array Value} (hw : ∀ d ∈ tables_1, d.before a0 Z = true) : ((Jvm.Cond.constant "com/example/resultwire/resultwire/er7/PieceIndexEndPinLaw" (20 : Nat) (2147483647 : Int32)) : Jvm.Cond).before a0 Z = true := hw _ (List.mem_of_getElem? (i := 35) rfl)
theorem w_36 {Z : State} {a0 : Array Value} (hw : ∀ d ∈ tables_1, d.before a0 Z = true) : ((Jvm.Cond.classLink "com/example/resultwire/resultwire/er7/PieceIndexEndPinLaw" (21 : Nat) "com/example/resultwire/resultwire/er7/PieceIndex") : Jvm.Cond).before a0 Z = true := hw _ (List.mem_of_getElem? (i := 36) rfl)
theorem w_37 {Z : State} {a0 : Array Value} (hw : ∀ d ∈ tables_1, d.before a0 Z = true) : ((Jvm.Cond.instantiable "com/example/resultwire/resultwire/er7/PieceIndex" (6 : Nat)) : Jvm.Cond).before a0 Z = true := hw _ (List.mem_of_getElem? (i := 37) rfl)
theorem w_38 {Z : State} {a0 : Array Value} (hw : ∀ d ∈ tables_1, d.before a0 Z = true) : ((Jvm.Cond.initialized "com/example/resultwire/resultwire/er7/PieceIndex") : Jvm.Cond).before a0 Z = true := hw _ (List.mem_of_getElem? (i := 38) rfl)
theorem w_39 {Z : State} {a0 : Array Value} (hw : ∀ d ∈ tables_1, d.before a0 Z = true) : ((Jvm.Cond.methodLink "com/example/resultwire/resultwire/er7/PieceIndexEndPinLaw" (23 : Nat) ({ cls := "com/example/resultwire/resultwire/er7/PieceIndex", name := "<init>", desc := "(Ljava/lang/String;III)V" } : Jvm.MethodName)) : Jvm.Cond).before a0 Z = true := hw _ (List.mem_of_getElem? (i := 39) rfl)
theorem w_40 {Z : State} {a0 : Array Value} (hw : ∀ d ∈ tables_1, d.before a0 Z = true) : ((Jvm.Cond.instanceMethod ({ cls := "com/example/resultwire/resultwire/er7/PieceIndex", name := "<init>", desc := "(Ljava/lang/String;III)V" } : Jvm.MethodName)) : Jvm.Cond).before a0 Z = true := hw _ (List.mem_of_getElem? (i := 40) rfl)
theorem w_41 {Z : State} {a0 : Array Value} (hw : ∀ d ∈ tables_1, d.before a0 Z = true) : ((Jvm.Cond.code ({ cls := "com/example/resultwire/resultwire/er7/PieceIndex", name := "<init>", desc := "(Ljava/lang/String;III)V" } : Jvm.MethodName) prog_140_method_1_code (5 : Nat) (Option.none : Option Jvm.ClassFile.FieldType)) : Jvm.Cond).before a0 Z = true := hw _ (List.mem_of_getElem? (i := 41) rfl)
theorem w_42 {Z : State} {a0 : Array Value} (hw : ∀ d ∈ tables_1, d.before a0 Z = true) : ((Jvm.Cond.fieldLink "com/example/resultwire/resultwire/er7/PieceIndex" (1 : Nat) "com/example/resultwire/resultwire/er7/PieceIndex" "NO_ENDS" "[I") : Jvm.Cond).before a0 Z = true := hw _ (List.mem_of_getElem? (i := 42) rfl)
theorem w_43 {Z : State} {a0 : Array Value} (hw : ∀ d ∈ tables_1, d.before a0 Z = true) : ((Jvm.Cond.laysStatic "com/example/resultwire/resultwire/er7/PieceIndex" "NO_ENDS" "[I") : Jvm.Cond).before a0 Z = true := hw _ (List.mem_of_getElem? (i := 43) rfl)
theorem w_44 {Z : State} {a0 : Array Value} (hw : ∀ d ∈ tables_1, d.before a0 Z = true) : ((Jvm.Cond.methodLink "com/example/resultwire/resultwire/er7/PieceIndex" (7 : Nat) ({ cls := "com/example/resultwire/resultwire/er7/PieceIndex", name := "<init>", desc := "(Ljava/lang/String;III[II)V" } : Jvm.MethodName)) : Jvm.Cond).before a0 Z = true := hw _ (List.mem_of_getElem? (i := 44) rfl)
theorem w_45 {Z : State} {a0 : Array Value} (hw : ∀ d ∈ tables_1, d.before a0 Z = true) : ((Jvm.Cond.instanceMethod ({ cls := "com/example/resultwire/resultwire/er7/PieceIndex", name := "<init>", desc := "(Ljava/lang/String;III[II)V" } : Jvm.MethodName)) : Jvm.Cond).before a0 Z = true := hw _ (List.mem_of_getElem? (i := 45) rfl)
theorem w_46 {Z : State} {a0 : Array Value} (hw : ∀ d ∈ tables_1, d.before a0 Z = true) : ((Jvm.Cond.code ({ cls := "com/example/resultwire/resultwire/er7/PieceIndex", name := "<init>", desc := "(Ljava/lang/String;III[II)V" } : Jvm.MethodName) prog_140_method_2_code (7 : Nat) (Option.none : Option Jvm.ClassFile.FieldType)) : Jvm.Cond).before a0 Z = true := hw _ (List.mem_of_getElem? (i := 46) rfl)
theorem w_47 {Z : State} {a0 : Array Value} (hw : ∀ d ∈ tables_1, d.before a0 Z = true) : ((Jvm.Cond.methodLink "com/example/resultwire/resultwire/er7/PieceIndex" (11 : Nat) ({ cls := "java/lang/Object", name := "<init>", desc := "()V" } : Jvm.MethodName)) : Jvm.Cond).before a0 Z = true := hw _ (List.mem_of_getElem? (i := 47) rfl)
theorem w_48 {Z : State} {a0 : Array Value} (hw : ∀ d ∈ tables_1, d.before a0 Z = true) : ((Jvm.Cond.fieldLink "com/example/resultwire/resultwire/er7/PieceIndex" (16 : Nat) "com/example/resultwire/resultwire/er7/PieceIndex" "m_sText" "Ljava/lang/String;") : Jvm.Cond).before a0 Z = true := hw _ (List.mem_of_getElem? (i := 48) rfl)
theorem w_49 {Z : State} {a0 : Array Value} (hw : ∀ d ∈ tables_1, d.before a0 Z = true) : ((Jvm.Cond.laysFinal "com/example/resultwire/resultwire/er7/PieceIndex" "com/example/resultwire/resultwire/er7/PieceIndex" "m_sText" "Ljava/lang/String;") : Jvm.Cond).before a0 Z = true := hw _ (List.mem_of_getElem? (i := 49) rfl)
theorem w_50 {Z : State} {a0 : Array Value} (hw : ∀ d ∈ tables_1, d.before a0 Z = true) : ((Jvm.Cond.fieldLink "com/example/resultwire/resultwire/er7/PieceIndex" (20 : Nat) "com/example/resultwire/resultwire/er7/PieceIndex" "m_nDelimiter" "I") : Jvm.Cond).before a0 Z = true := hw _ (List.mem_of_getElem? (i := 50) rfl)
theorem w_51 {Z : State} {a0 : Array Value} (hw : ∀ d ∈ tables_1, d.before a0 Z = true) : ((Jvm.Cond.laysFinal "com/example/resultwire/resultwire/er7/PieceIndex" "com/example/resultwire/resultwire/er7/PieceIndex" "m_nDelimiter" "I") : Jvm.Cond).before a0 Z = true := hw _ (List.mem_of_getElem? (i := 51) rfl)
theorem w_52 {Z : State} {a0 : Array Value} (hw : ∀ d ∈ tables_1, d.before a0 Z = true) : ((Jvm.Cond.fieldLink "com/example/resultwire/resultwire/er7/PieceIndex" (24 : Nat) "com/example/resultwire/resultwire/er7/PieceIndex" "m_nFrom" "I") : Jvm.Cond).before a0 Z = true := hw _ (List.mem_of_getElem? (i := 52) rfl)
theorem w_53 {Z : State} {a0 : Array Value} (hw : ∀ d ∈ tables_1, d.before a0 Z = true) : ((Jvm.Cond.laysFinal "com/example/resultwire/resultwire/er7/PieceIndex" "com/example/resultwire/resultwire/er7/PieceIndex" "m_nFrom" "I") : Jvm.Cond).before a0 Z = true := hw _ (List.mem_of_getElem? (i := 53) rfl)
theorem w_54 {Z : State} {a0 : Array Value} (hw : ∀ d ∈ tables_1, d.before a0 Z = true) : ((Jvm.Cond.fieldLink "com/example/resultwire/resultwire/er7/PieceIndex" (27 : Nat) "com/example/resultwire/resultwire/er7/PieceIndex" "m_nTo" "I") : Jvm.Cond).before a0 Z = true := hw _ (List.mem_of_getElem? (i := 54) rfl)
theorem w_55 {Z : State} {a0 : Array Value} (hw : ∀ d ∈ tables_1, d.before a0 Z = true) : ((Jvm.Cond.laysFinal "com/example/resultwire/resultwire/er7/PieceIndex" "com/example/resultwire/resultwire/er7/PieceIndex" "m_nTo" "I") : Jvm.Cond).before a0 Z = true := hw _ (List.mem_of_getElem? (i := 55) rfl)
theorem w_56 {Z : State} {a0 : Array Value} (hw : ∀ d ∈ tables_1, d.before a0 Z = true) : ((Jvm.Cond.fieldLink "com/example/resultwire/resultwire/er7/PieceIndex" (30 : Nat) "com/example/resultwire/resultwire/er7/PieceIndex" "m_aEnds" "[I") : Jvm.Cond).before a0 Z = true := hw _ (List.mem_of_getElem? (i := 56) rfl)
theorem w_57 {Z : State} {a0 : Array Value} (hw : ∀ d ∈ tables_1, d.before a0 Z = true) : ((Jvm.Cond.laysFinal "com/example/resultwire/resultwire/er7/PieceIndex" "com/example/resultwire/resultwire/er7/PieceIndex" "m_aEnds" "[I") : Jvm.Cond).before a0 Z = true := hw _ (List.mem_of_getElem? (i := 57) rfl)
theorem w_58 {Z : State} {a0 : Array Value} (hw : ∀ d ∈ tables_1, d.before a0 Z = true) : ((Jvm.Cond.fieldLink "com/example/resultwire/resultwire/er7/PieceIndex" (33 : Nat) "com/example/resultwire/resultwire/er7/PieceIndex" "m_nCount" "I") : Jvm.Cond).before a0 Z = true := hw _ (List.mem_of_getElem? (i := 58) rfl)
theorem w_59 {Z : State} {a0 : Array Value} (hw : ∀ d ∈ tables_1, d.before a0 Z = true) : ((Jvm.Cond.laysFinal "com/example/resultwire/resultwire/er7/PieceIndex" "com/example/resultwire/resultwire/er7/PieceIndex" "m_nCount" "I") : Jvm.Cond).before a0 Z = true := hw _ (List.mem_of_getElem? (i := 59) rfl)
theorem w_60 {Z : State} {a0 : Array Value} (hw : ∀ d ∈ tables_1, d.before a0 Z = true) : ((Jvm.Cond.methodLink "com/example/resultwire/resultwire/er7/PieceIndexEndPinLaw" (26 : Nat) ({ cls := "com/example/resultwire/resultwire/er7/PieceIndex", name := "reach", desc := "(I)Lcom/example/resultwire/resultwire/er7/PieceIndex;" } : Jvm.MethodName)) : Jvm.Cond).before a0 Z = true := hw _ (List.mem_of_getElem? (i := 60) rfl)
theorem w_61 {Z : State} {a0 : Array Value} (hw : ∀ d ∈ tables_1, d.before a0 Z = true) : ((Jvm.Cond.declares ({ cls := "com/example/resultwire/resultwire/er7/PieceIndex", name := "reach", desc := "(I)Lcom/example/resultwire/resultwire/er7/PieceIndex;" } : Jvm.MethodName)) : Jvm.Cond).before a0 Z = true := hw _ (List.mem_of_getElem? (i := 61) rfl)
theorem w_62 {Z : State} {a0 : Array Value} (hw : ∀ d ∈ tables_1, d.before a0 Z = true) : ((Jvm.Cond.instanceMethod ({ cls := "com/example/resultwire/resultwire/er7/PieceIndex", name := "reach", desc := "(I)Lcom/example/resultwire/resultwire/er7/PieceIndex;" } : Jvm.MethodName)) : Jvm.Cond).before a0 Z = true := hw _ (List.mem_of_getElem? (i := 62) rfl)
theorem w_63 {Z : State} {a0 : Array Value} (hw : ∀ d ∈ tables_1, d.before a0 Z = true) : ((Jvm.Cond.selects "com/example/resultwire/resultwire/er7/PieceIndex" ({ cls := "com/example/resultwire/resultwire/er7/PieceIndex", name := "reach", desc := "(I)Lcom/example/resultwire/resultwire/er7/PieceIndex;" } : Jvm.MethodName) ({ cls := "com/example/resultwire/resultwire/er7/PieceIndex", name := "reach", desc := "(I)Lcom/example/resultwire/resultwire/er7/PieceIndex;" } : Jvm.MethodName)) : Jvm.Cond).before a0 Z = true := hw _ (List.mem_of_getElem? (i := 63) rfl)
theorem w_64 {Z : State} {a0 : Array Value} (hw : ∀ d ∈ tables_1, d.before a0 Z = true) : ((Jvm.Cond.code ({ cls := "com/example/resultwire/resultwire/er7/PieceIndex", name := "reach", desc := "(I)Lcom/example/resultwire/resultwire/er7/PieceIndex;" } : Jvm.MethodName) prog_140_method_3_code (6 : Nat) (Option.some (Jvm.ClassFile.FieldType.object "com/example/resultwire/resultwire/er7/PieceIndex"))) : Jvm.Cond).before a0 Z = true := hw _ (List.mem_of_getElem? (i := 64) rfl)
theorem w_65 {Z : State} {a0 : Array Value} (hw : ∀ d ∈ tables_1, d.before a0 Z = true) : ((Jvm.Cond.methodLink "com/example/resultwire/resultwire/er7/PieceIndex" (36 : Nat) ({ cls := "java/lang/Math", name := "max", desc := "(II)I" } : Jvm.MethodName)) : Jvm.Cond).before a0 Z = true := hw _ (List.mem_of_getElem? (i := 65) rfl)
theorem w_66 {Z : State} {a0 : Array Value} (hw : ∀ d ∈ tables_1, d.before a0 Z = true) : ((Jvm.Cond.static ({ cls := "java/lang/Math", name := "max", desc := "(II)I" } : Jvm.MethodName)) : Jvm.Cond).before a0 Z = true := hw _ (List.mem_of_getElem? (i := 66) rfl)
theorem w_67 {Z : State} {a0 : Array Value} (hw : ∀ d ∈ tables_1, d.before a0 Z = true) : ((Jvm.Cond.initialized "java/lang/Math") : Jvm.Cond).before a0 Z = true := hw _ (List.mem_of_getElem? (i := 67) rfl)
theorem w_68 {Z : State} {a0 : Array Value} (hw : ∀ d ∈ tables_1, d.before a0 Z = true) : ((Jvm.Cond.code ({ cls := "java/lang/Math", name := "max", desc := "(II)I" } : Jvm.MethodName) jdk_29_method_65_code (2 : Nat) (Option.some Jvm.ClassFile.FieldType.int)) : Jvm.Cond).before a0 Z = true := hw _ (List.mem_of_getElem? (i := 68) rfl)
theorem w_69 {Z : State} {a0 : Array Value} (hw : ∀ d ∈ tables_1, d.before a0 Z = true) : ((Jvm.Cond.methodLink "com/example/resultwire/resultwire/er7/PieceIndex" (42 : Nat) ({ cls := "java/util/Arrays", name := "copyOf", desc := "([II)[I" } : Jvm.MethodName)) : Jvm.Cond).before a0 Z = true := hw _ (List.mem_of_getElem? (i := 69) rfl)
theorem w_70 {Z : State} {a0 : Array Value} (hw : ∀ d ∈ tables_1, d.before a0 Z = true) : ((Jvm.Cond.static ({ cls := "java/util/Arrays", name := "copyOf", desc := "([II)[I" } : Jvm.MethodName)) : Jvm.Cond).before a0 Z = true := hw _ (List.mem_of_getElem? (i := 70) rfl)
theorem w_71 {Z : State} {a0 : Array Value} (hw : ∀ d ∈ tables_1, d.before a0 Z = true) : ((Jvm.Cond.initialized "java/util/Arrays") : Jvm.Cond).before a0 Z = true := hw _ (List.mem_of_getElem? (i := 71) rfl)
theorem w_72 {Z : State} {a0 : Array Value} (hw : ∀ d ∈ tables_1, d.before a0 Z = true) : ((Jvm.Cond.code ({ cls := "java/util/Arrays", name := "copyOf", desc := "([II)[I" } : Jvm.MethodName) jdk_65_method_123_code (3 : Nat) (Option.some (Jvm.ClassFile.FieldType.array Jvm.ClassFile.FieldType.int))) : Jvm.Cond).before a0 Z = true := hw _ (List.mem_of_getElem? (i := 72) rfl)
theorem w_73 {Z : State} {a0 : Array Value} (hw : ∀ d ∈ tables_1, d.before a0 Z = true) : ((Jvm.Cond.arrayClass Jvm.ClassFile.FieldType.int) : Jvm.Cond).before a0 Z = true := hw _ (List.mem_of_getElem? (i := 73) rfl)
theorem w_74 {Z : State} {a0 : Array Value} (hw : ∀ d ∈ tables_1, d.before a0 Z = true) : ((Jvm.Cond.methodLink "java/util/Arrays" (304 : Nat) ({ cls := "java/lang/Math", name := "min", desc := "(II)I" } : Jvm.MethodName)) : Jvm.Cond).before a0 Z = true := hw _ (List.mem_of_getElem? (i := 74) rfl)
theorem w_75 {Z : State} {a0 : Array Value} (hw : ∀ d ∈ tables_1, d.before a0 Z = true) : ((Jvm.Cond.static ({ cls := "java/lang/Math", name := "min", desc := "(II)I" } : Jvm.MethodName)) : Jvm.Cond).before a0 Z = true := hw _ (List.mem_of_getElem? (i := 75) rfl)
theorem w_76 {Z : State} {a0 : Array Value} (hw : ∀ d ∈ tables_1, d.before a0 Z = true) : ((Jvm.Cond.code ({ cls := "java/lang/Math", name := "min", desc := "(II)I" } : Jvm.MethodName) jdk_29_method_69_code (2 : Nat) (Option.some Jvm.ClassFile.FieldType.int)) : Jvm.Cond).before a0 Z = true := hw _ (List.mem_of_getElem? (i := 76) rfl)
theorem w_77 {Z : State} {a0 : Array Value} (hw : ∀ d ∈ tables_1, d.before a0 Z = true) : ((Jvm.Cond.methodLink "java/util/Arrays" (150 : Nat) ({ cls := "java/lang/System", name := "arraycopy", desc := "(Ljava/lang/Object;ILjava/lang/Object;II)V" } : Jvm.MethodName)) : Jvm.Cond).before a0 Z = true := hw _ (List.mem_of_getElem? (i := 77) rfl)
theorem w_78 {Z : State} {a0 : Array Value} (hw : ∀ d ∈ tables_1, d.before a0 Z = true) : ((Jvm.Cond.static ({ cls := "java/lang/System", name := "arraycopy", desc := "(Ljava/lang/Object;ILjava/lang/Object;II)V" } : Jvm.MethodName)) : Jvm.Cond).before a0 Z = true := hw _ (List.mem_of_getElem? (i := 78) rfl)
theorem w_79 {Z : State} {a0 : Array Value} (hw : ∀ d ∈ tables_1, d.before a0 Z = true) : ((Jvm.Cond.initialized "java/lang/System") : Jvm.Cond).before a0 Z = true := hw _ (List.mem_of_getElem? (i := 79) rfl)
theorem w_80 {Z : State} {a0 : Array Value} (hw : ∀ d ∈ tables_1, d.before a0 Z = true) : ((Jvm.Cond.native ({ cls := "java/lang/System", name := "arraycopy", desc := "(Ljava/lang/Object;ILjava/lang/Object;II)V" } : Jvm.MethodName)) : Jvm.Cond).before a0 Z = true := hw _ (List.mem_of_getElem? (i := 80) rfl)
theorem w_81 {Z : State} {a0 : Array Value} (hw : ∀ d ∈ tables_1, d.before a0 Z = true) : ((Jvm.Cond.classLink "com/example/resultwire/resultwire/er7/PieceIndex" (48 : Nat) "com/example/resultwire/resultwire/er7/Pieces") : Jvm.Cond).before a0 Z = true := hw _ (List.mem_of_getElem? (i := 81) rfl)
theorem w_82 {Z : State} {a0 : Array Value} (hw : ∀ d ∈ tables_1, d.before a0 Z = true) : ((Jvm.Cond.instantiable "com/example/resultwire/resultwire/er7/Pieces" (7 : Nat)) : Jvm.Cond).before a0 Z = true := hw _ (List.mem_of_getElem? (i := 82) rfl)
theorem w_83 {Z : State} {a0 : Array Value} (hw : ∀ d ∈ tables_1, d.before a0 Z = true) : ((Jvm.Cond.initialized "com/example/resultwire/resultwire/er7/Pieces") : Jvm.Cond).before a0 Z = true := hw _ (List.mem_of_getElem? (i := 83) rfl)
theorem w_84 {Z : State} {a0 : Array Value} (hw : ∀ d ∈ tables_1, d.before a0 Z = true) : ((Jvm.Cond.methodLink "com/example/resultwire/resultwire/er7/PieceIndex" (50 : Nat) ({ cls := "com/example/resultwire/resultwire/er7/Pieces", name := "<init>", desc := "(Ljava/lang/String;III)V" } : Jvm.MethodName)) : Jvm.Cond).before a0 Z = true := hw _ (List.mem_of_getElem? (i := 84) rfl)
theorem w_85 {Z : State} {a0 : Array Value} (hw : ∀ d ∈ tables_1, d.before a0 Z = true) : ((Jvm.Cond.instanceMethod ({ cls := "com/example/resultwire/resultwire/er7/Pieces", name := "<init>", desc := "(Ljava/lang/String;III)V" } : Jvm.MethodName)) : Jvm.Cond).before a0 Z = true := hw _ (List.mem_of_getElem? (i := 85) rfl)
theorem w_86 {Z : State} {a0 : Array Value} (hw : ∀ d ∈ tables_1, d.before a0 Z = true) : ((Jvm.Cond.code ({ cls := "com/example/resultwire/resultwire/er7/Pieces", name := "<init>", desc := "(Ljava/lang/String;III)V" } : Jvm.MethodName) prog_142_method_1_code (5 : Nat) (Option.none : Option Jvm.ClassFile.FieldType)) : Jvm.Cond).before a0 Z = true := hw _ (List.mem_of_getElem? (i := 86) rfl)
theorem w_87 {Z : State} {a0 : Array Value} (hw : ∀ d ∈ tables_1, d.before a0 Z = true) : ((Jvm.Cond.methodLink "com/example/resultwire/resultwire/er7/Pieces" (1 : Nat) ({ cls := "java/lang/Object", name := "<init>", desc := "()V" } : Jvm.MethodName)) : Jvm.Cond).before a0 Z = true := hw _ (List.mem_of_getElem? (i := 87) rfl)
theorem w_88 {Z : State} {a0 : Array Value} (hw : ∀ d ∈ tables_1, d.before a0 Z = true) : ((Jvm.Cond.fieldLink "com/example/resultwire/resultwire/er7/Pieces" (7 : Nat) "com/example/resultwire/resultwire/er7/Pieces" "m_sText" "Ljava/lang/String;") : Jvm.Cond).before a0 Z = true := hw _ (List.mem_of_getElem? (i := 88) rfl)
theorem w_89 {Z : State} {a0 : Array Value} (hw : ∀ d ∈ tables_1, d.before a0 Z = true) : ((Jvm.Cond.laysFinal "com/example/resultwire/resultwire/er7/Pieces" "com/example/resultwire/resultwire/er7/Pieces" "m_sText" "Ljava/lang/String;") : Jvm.Cond).before a0 Z = true := hw _ (List.mem_of_getElem? (i := 89) rfl)
theorem w_90 {Z : State} {a0 : Array Value} (hw : ∀ d ∈ tables_1, d.before a0 Z = true) : ((Jvm.Cond.fieldLink "com/example/resultwire/resultwire/er7/Pieces" (13 : Nat) "com/example/resultwire/resultwire/er7/Pieces" "m_nDelimiter" "I") : Jvm.Cond).before a0 Z = true := hw _ (List.mem_of_getElem? (i := 90) rfl)
theorem w_91 {Z : State} {a0 : Array Value} (hw : ∀ d ∈ tables_1, d.before a0 Z = true) : ((Jvm.Cond.laysFinal "com/example/resultwire/resultwire/er7/Pieces" "com/example/resultwire/resultwire/er7/Pieces" "m_nDelimiter" "I") : Jvm.Cond).before a0 Z = true := hw _ (List.mem_of_getElem? (i := 91) rfl)
theorem w_92 {Z : State} {a0 : Array Value} (hw : ∀ d ∈ tables_1, d.before a0 Z = true) : ((Jvm.Cond.fieldLink "com/example/resultwire/resultwire/er7/Pieces" (17 : Nat) "com/example/resultwire/resultwire/er7/Pieces" "m_nTo" "I") : Jvm.Cond).before a0 Z = true := hw _ (List.mem_of_getElem? (i := 92) rfl)
theorem w_93 {Z : State} {a0 : Array Value} (hw : ∀ d ∈ tables_1, d.before a0 Z = true) : ((Jvm.Cond.laysFinal "com/example/resultwire/resultwire/er7/Pieces" "com/example/resultwire/resultwire/er7/Pieces" "m_nTo" "I") : Jvm.Cond).before a0 Z = true := hw _ (List.mem_of_getElem? (i := 93) rfl)
theorem w_94 {Z : State} {a0 : Array Value} (hw : ∀ d ∈ tables_1, d.before a0 Z = true) : ((Jvm.Cond.fieldLink "com/example/resultwire/resultwire/er7/Pieces" (20 : Nat) "com/example/resultwire/resultwire/er7/Pieces" "m_nFrom" "I") : Jvm.Cond).before a0 Z = true := hw _ (List.mem_of_getElem? (i := 94) rfl)
theorem w_95 {Z : State} {a0 : Array Value} (hw : ∀ d ∈ tables_1, d.before a0 Z = true) : ((Jvm.Cond.lays "com/example/resultwire/resultwire/er7/Pieces" "com/example/resultwire/resultwire/er7/Pieces" "m_nFrom" "I") : Jvm.Cond).before a0 Z = true := hw _ (List.mem_of_getElem? (i := 95) rfl)
theorem w_96 {Z : State} {a0 : Array Value} (hw : ∀ d ∈ tables_1, d.before a0 Z = true) : ((Jvm.Cond.fieldLink "com/example/resultwire/resultwire/er7/Pieces" (23 : Nat) "com/example/resultwire/resultwire/er7/Pieces" "m_nStart" "I") : Jvm.Cond).before a0 Z = true := hw _ (List.mem_of_getElem? (i := 96) rfl)
theorem w_97 {Z : State} {a0 : Array Value} (hw : ∀ d ∈ tables_1, d.before a0 Z = true) : ((Jvm.Cond.lays "com/example/resultwire/resultwire/er7/Pieces" "com/example/resultwire/resultwire/er7/Pieces" "m_nStart" "I") : Jvm.Cond).before a0 Z = true := hw _ (List.mem_of_getElem? (i := 97) rfl)
theorem w_98 {Z : State} {a0 : Array Value} (hw : ∀ d ∈ tables_1, d.before a0 Z = true) : ((Jvm.Cond.fieldLink "com/example/resultwire/resultwire/er7/Pieces" (26 : Nat) "com/example/resultwire/resultwire/er7/Pieces" "m_nEnd" "I") : Jvm.Cond).before a0 Z = true := hw _ (List.mem_of_getElem? (i := 98) rfl)
theorem w_99 {Z : State} {a0 : Array Value} (hw : ∀ d ∈ tables_1, d.before a0 Z = true) : ((Jvm.Cond.lays "com/example/resultwire/resultwire/er7/Pieces" "com/example/resultwire/resultwire/er7/Pieces" "m_nEnd" "I") : Jvm.Cond).before a0 Z = true := hw _ (List.mem_of_getElem? (i := 99) rfl)
theorem w_100 {Z : State} {a0 : Array Value} (hw : ∀ d ∈ tables_1, d.before a0 Z = true) : ((Jvm.Cond.methodLink "com/example/resultwire/resultwire/er7/PieceIndex" (53 : Nat) ({ cls := "com/example/resultwire/resultwire/er7/Pieces", name := "hasNext", desc := "()Z" } : Jvm.MethodName)) : Jvm.Cond).before a0 Z = true := hw _ (List.mem_of_getElem? (i := 100) rfl)
theorem w_101 {Z : State} {a0 : Array Value} (hw : ∀ d ∈ tables_1, d.before a0 Z = true) : ((Jvm.Cond.declares ({ cls := "com/example/resultwire/resultwire/er7/Pieces", name := "hasNext", desc := "()Z" } : Jvm.MethodName)) : Jvm.Cond).before a0 Z = true := hw _ (List.mem_of_getElem? (i := 101) rfl)
theorem w_102 {Z : State} {a0 : Array Value} (hw : ∀ d ∈ tables_1, d.before a0 Z = true) : ((Jvm.Cond.instanceMethod ({ cls := "com/example/resultwire/resultwire/er7/Pieces", name := "hasNext", desc := "()Z" } : Jvm.MethodName)) : Jvm.Cond).before a0 Z = true := hw _ (List.mem_of_getElem? (i := 102) rfl)
theorem w_103 {Z : State} {a0 : Array Value} (hw : ∀ d ∈ tables_1, d.before a0 Z = true) : ((Jvm.Cond.selects "com/example/resultwire/resultwire/er7/Pieces" ({ cls := "com/example/resultwire/resultwire/er7/Pieces", name := "hasNext", desc := "()Z" } : Jvm.MethodName) ({ cls := "com/example/resultwire/resultwire/er7/Pieces", name := "hasNext", desc := "()Z" } : Jvm.MethodName)) : Jvm.Cond).before a0 Z = true := hw _ (List.mem_of_getElem? (i := 103) rfl)
theorem w_104 {Z : State} {a0 : Array Value} (hw : ∀ d ∈ tables_1, d.before a0 Z = true) : ((Jvm.Cond.code ({ cls := "com/example/resultwire/resultwire/er7/Pieces", name := "hasNext", desc := "()Z" } : Jvm.MethodName) prog_142_method_9_code (1 : Nat) (Option.some Jvm.ClassFile.FieldType.boolean)) : Jvm.Cond).before a0 Z = true := hw _ (List.mem_of_getElem? (i := 104) rfl)
theorem w_105 {Z : State} {a0 : Array Value} (hw : ∀ d ∈ tables_1, d.before a0 Z = true) : ((Jvm.Cond.methodLink "com/example/resultwire/resultwire/er7/PieceIndex" (57 : Nat) ({ cls := "com/example/resultwire/resultwire/er7/Pieces", name := "advance", desc := "()V" } : Jvm.MethodName)) : Jvm.Cond).before a0 Z = true := hw _ (List.mem_of_getElem? (i := 105) rfl)
theorem w_106 {Z : State} {a0 : Array Value} (hw : ∀ d ∈ tables_1, d.before a0 Z = true) : ((Jvm.Cond.declares ({ cls := "com/example/resultwire/resultwire/er7/Pieces", name := "advance", desc := "()V" } : Jvm.MethodName)) : Jvm.Cond).before a0 Z = true := hw _ (List.mem_of_getElem? (i := 106) rfl)
theorem w_107 {Z : State} {a0 : Array Value} (hw : ∀ d ∈ tables_1, d.before a0 Z = true) : ((Jvm.Cond.instanceMethod ({ cls := "com/example/resultwire/resultwire/er7/Pieces", name := "advance", desc := "()V" } : Jvm.MethodName)) : Jvm.Cond).before a0 Z = true := hw _ (List.mem_of_getElem? (i := 107) rfl)
theorem w_108 {Z : State} {a0 : Array Value} (hw : ∀ d ∈ tables_1, d.before a0 Z = true) : ((Jvm.Cond.selects "com/example/resultwire/resultwire/er7/Pieces" ({ cls := "com/example/resultwire/resultwire/er7/Pieces", name := "advance", desc := "()V" } : Jvm.MethodName) ({ cls := "com/example/resultwire/resultwire/er7/Pieces", name := "advance", desc := "()V" } : Jvm.MethodName)) : Jvm.Cond).before a0 Z = true := hw _ (List.mem_of_getElem? (i := 108) rfl)
theorem w_109 {Z : State} {a0 : Array Value} (hw : ∀ d ∈ tables_1, d.before a0 Z = true) : ((Jvm.Cond.code ({ cls := "com/example/resultwire/resultwire/er7/Pieces", name := "advance", desc := "()V" } : Jvm.MethodName) prog_142_method_8_code (1 : Nat) (Option.none : Option Jvm.ClassFile.FieldType)) : Jvm.Cond).before a0 Z = true := hw _ (List.mem_of_getElem? (i := 109) rfl)
theorem w_110 {Z : State} {a0 : Array Value} (hw : ∀ d ∈ tables_1, d.before a0 Z = true) : ((Jvm.Cond.methodLink "com/example/resultwire/resultwire/er7/Pieces" (53 : Nat) ({ cls := "com/example/resultwire/resultwire/er7/Pieces", name := "hasNext", desc := "()Z" } : Jvm.MethodName)) : Jvm.Cond).before a0 Z = true := hw _ (List.mem_of_getElem? (i := 110) rfl)
theorem w_111 {Z : State} {a0 : Array Value} (hw : ∀ d ∈ tables_1, d.before a0 Z = true) : ((Jvm.Cond.methodLink "com/example/resultwire/resultwire/er7/Pieces" (60 : Nat) ({ cls := "com/example/resultwire/resultwire/er7/Pieces", name := "endOf", desc := "(Ljava/lang/String;III)I" } : Jvm.MethodName)) : Jvm.Cond).before a0 Z = true := hw _ (List.mem_of_getElem? (i := 111) rfl)
theorem w_112 {Z : State} {a0 : Array Value} (hw : ∀ d ∈ tables_1, d.before a0 Z = true) : ((Jvm.Cond.static ({ cls := "com/example/resultwire/resultwire/er7/Pieces", name := "endOf", desc := "(Ljava/lang/String;III)I" } : Jvm.MethodName)) : Jvm.Cond).before a0 Z = true := hw _ (List.mem_of_getElem? (i := 112) rfl)
theorem w_113 {Z : State} {a0 : Array Value} (hw : ∀ d ∈ tables_1, d.before a0 Z = true) : ((Jvm.Cond.code ({ cls := "com/example/resultwire/resultwire/er7/Pieces", name := "endOf", desc := "(Ljava/lang/String;III)I" } : Jvm.MethodName) prog_142_method_3_code (6 : Nat) (Option.some Jvm.ClassFile.FieldType.int)) : Jvm.Cond).before a0 Z = true := hw _ (List.mem_of_getElem? (i := 113) rfl)
theorem w_114 {Z : State} {a0 : Array Value} (hw : ∀ d ∈ tables_1, d.before a0 Z = true) : ((Jvm.Cond.methodLink "com/example/resultwire/resultwire/er7/Pieces" (36 : Nat) ({ cls := "java/lang/String", name := "length", desc := "()I" } : Jvm.MethodName)) : Jvm.Cond).before a0 Z = true := hw _ (List.mem_of_getElem? (i := 114) rfl)
theorem w_115 {Z : State} {a0 : Array Value} (hw : ∀ d ∈ tables_1, d.before a0 Z = true) : ((Jvm.Cond.declares ({ cls := "java/lang/String", name := "length", desc := "()I" } : Jvm.MethodName)) : Jvm.Cond).before a0 Z = true := hw _ (List.mem_of_getElem? (i := 115) rfl)
theorem w_116 {Z : State} {a0 : Array Value} (hw : ∀ d ∈ tables_1, d.before a0 Z = true) : ((Jvm.Cond.instanceMethod ({ cls := "java/lang/String", name := "length", desc := "()I" } : Jvm.MethodName)) : Jvm.Cond).before a0 Z = true := hw _ (List.mem_of_getElem? (i := 116) rfl)
theorem w_117 {Z : State} {a0 : Array Value} (hw : ∀ d ∈ tables_1, d.before a0 Z = true) : ((Jvm.Cond.selects "java/lang/String" ({ cls := "java/lang/String", name := "length", desc := "()I" } : Jvm.MethodName) ({ cls := "java/lang/String", name := "length", desc := "()I" } : Jvm.MethodName)) : Jvm.Cond).before a0 Z = true := hw _ (List.mem_of_getElem? (i := 117) rfl)
theorem w_118 {Z : State} {a0 : Array Value} (hw : ∀ d ∈ tables_1, d.before a0 Z = true) : ((Jvm.Cond.code ({ cls := "java/lang/String", name := "length", desc := "()I" } : Jvm.MethodName) jdk_42_method_54_code (1 : Nat) (Option.some Jvm.ClassFile.FieldType.int)) : Jvm.Cond).before a0 Z = true := hw _ (List.mem_of_getElem? (i := 118) rfl)
theorem w_124 {Z : State} {a0 : Array Value} (hw : ∀ d ∈ tables_1, d.before a0 Z = true) : ((Jvm.Cond.fieldLink "com/example/resultwire/resultwire/er7/Pieces" (50 : Nat) "com/example/resultwire/resultwire/er7/Pieces" "m_nNumber" "I") : Jvm.Cond).before a0 Z = true := hw _ (List.mem_of_getElem? (i := 124) rfl)
theorem w_125 {Z : State} {a0 : Array Value} (hw : ∀ d ∈ tables_1, d.before a0 Z = true) : ((Jvm.Cond.lays "com/example/resultwire/resultwire/er7/Pieces" "com/example/resultwire/resultwire/er7/Pieces" "m_nNumber" "I") : Jvm.Cond).before a0 Z = true := hw _ (List.mem_of_getElem? (i := 125) rfl)
theorem w_126 {Z : State} {a0 : Array Value} (hw : ∀ d ∈ tables_1, d.before a0 Z = true) : ((Jvm.Cond.methodLink "com/example/resultwire/resultwire/er7/PieceIndex" (60 : Nat) ({ cls := "com/example/resultwire/resultwire/er7/Pieces", name := "end", desc := "()I" } : Jvm.MethodName)) : Jvm.Cond).before a0 Z = true := hw _ (List.mem_of_getElem? (i := 126) rfl)
theorem w_127 {Z : State} {a0 : Array Value} (hw : ∀ d ∈ tables_1, d.before a0 Z = true) : ((Jvm.Cond.declares ({ cls := "com/example/resultwire/resultwire/er7/Pieces", name := "end", desc := "()I" } : Jvm.MethodName)) : Jvm.Cond).before a0 Z = true := hw _ (List.mem_of_getElem? (i := 127) rfl)
theorem w_128 {Z : State} {a0 : Array Value} (hw : ∀ d ∈ tables_1, d.before a0 Z = true) : ((Jvm.Cond.instanceMethod ({ cls := "com/example/resultwire/resultwire/er7/Pieces", name := "end", desc := "()I" } : Jvm.MethodName)) : Jvm.Cond).before a0 Z = true := hw _ (List.mem_of_getElem? (i := 128) rfl)
theorem w_129 {Z : State} {a0 : Array Value} (hw : ∀ d ∈ tables_1, d.before a0 Z = true) : ((Jvm.Cond.selects "com/example/resultwire/resultwire/er7/Pieces" ({ cls := "com/example/resultwire/resultwire/er7/Pieces", name := "end", desc := "()I" } : Jvm.MethodName) ({ cls := "com/example/resultwire/resultwire/er7/Pieces", name := "end", desc := "()I" } : Jvm.MethodName)) : Jvm.Cond).before a0 Z = true := hw _ (List.mem_of_getElem? (i := 129) rfl)
theorem w_130 {Z : State} {a0 : Array Value} (hw : ∀ d ∈ tables_1, d.before a0 Z = true) : ((Jvm.Cond.code ({ cls := "com/example/resultwire/resultwire/er7/Pieces", name := "end", desc := "()I" } : Jvm.MethodName) prog_142_method_7_code (1 : Nat) (Option.some Jvm.ClassFile.FieldType.int)) : Jvm.Cond).before a0 Z = true := hw _ (List.mem_of_getElem? (i := 130) rfl)
theorem w_131 {Z : State} {a0 : Array Value} (hw : ∀ d ∈ tables_1, d.before a0 Z = true) : ((Jvm.Cond.classLink "com/example/resultwire/resultwire/er7/PieceIndex" (2 : Nat) "com/example/resultwire/resultwire/er7/PieceIndex") : Jvm.Cond).before a0 Z = true := hw _ (List.mem_of_getElem? (i := 131) rfl)
theorem w_132 {Z : State} {a0 : Array Value} (hw : ∀ d ∈ tables_1, d.before a0 Z = true) : ((Jvm.Cond.methodLink "com/example/resultwire/resultwire/er7/PieceIndexEndPinLaw" (30 : Nat) ({ cls := "com/example/resultwire/resultwire/er7/PieceIndex", name := "end", desc := "(I)I" } : Jvm.MethodName)) : Jvm.Cond).before a0 Z = true := hw _ (List.mem_of_getElem? (i := 132) rfl)
theorem w_133 {Z : State} {a0 : Array Value} (hw : ∀ d ∈ tables_1, d.before a0 Z = true) : ((Jvm.Cond.declares ({ cls := "com/example/resultwire/resultwire/er7/PieceIndex", name := "end", desc := "(I)I" } : Jvm.MethodName)) : Jvm.Cond).before a0 Z = true := hw _ (List.mem_of_getElem? (i := 133) rfl)
theorem w_134 {Z : State} {a0 : Array Value} (hw : ∀ d ∈ tables_1, d.before a0 Z = true) : ((Jvm.Cond.instanceMethod ({ cls := "com/example/resultwire/resultwire/er7/PieceIndex", name := "end", desc := "(I)I" } : Jvm.MethodName)) : Jvm.Cond).before a0 Z = true := hw _ (List.mem_of_getElem? (i := 134) rfl)
theorem w_135 {Z : State} {a0 : Array Value} (hw : ∀ d ∈ tables_1, d.before a0 Z = true) : ((Jvm.Cond.selects "com/example/resultwire/resultwire/er7/PieceIndex" ({ cls := "com/example/resultwire/resultwire/er7/PieceIndex", name := "end", desc := "(I)I" } : Jvm.MethodName) ({ cls := "com/example/resultwire/resultwire/er7/PieceIndex", name := "end", desc := "(I)I" } : Jvm.MethodName)) : Jvm.Cond).before a0 Z = true := hw _ (List.mem_of_getElem? (i := 135) rfl)
theorem w_136 {Z : State} {a0 : Array Value} (hw : ∀ d ∈ tables_1, d.before a0 Z = true) : ((Jvm.Cond.code ({ cls := "com/example/resultwire/resultwire/er7/PieceIndex", name := "end", desc := "(I)I" } : Jvm.MethodName) prog_140_method_5_code (2 : Nat) (Option.some Jvm.ClassFile.FieldType.int)) : Jvm.Cond).before a0 Z = true := hw _ (List.mem_of_getElem? (i := 136) rfl)
theorem w_137 {Z : State} {a0 : Array Value} (hw : ∀ d ∈ tables_1, d.before a0 Z = true) : ((Jvm.Cond.methodLink "com/example/resultwire/resultwire/er7/PieceIndexEndPinLaw" (34 : Nat) ({ cls := "com/example/resultwire/resultwire/er7/PieceIndexEndPinLaw", name := "isD", desc := "([CIIII)Z" } : Jvm.MethodName)) : Jvm.Cond).before a0 Z = true := hw _ (List.mem_of_getElem? (i := 137) rfl)
theorem w_138 {Z : State} {a0 : Array Value} (hw : ∀ d ∈ tables_1, d.before a0 Z = true) : ((Jvm.Cond.static ({ cls := "com/example/resultwire/resultwire/er7/PieceIndexEndPinLaw", name := "isD", desc := "([CIIII)Z" } : Jvm.MethodName)) : Jvm.Cond).before a0 Z = true := hw _ (List.mem_of_getElem? (i := 138) rfl)
theorem w_139 {Z : State} {a0 : Array Value} (hw : ∀ d ∈ tables_1, d.before a0 Z = true) : ((Jvm.Cond.code ({ cls := "com/example/resultwire/resultwire/er7/PieceIndexEndPinLaw", name := "isD", desc := "([CIIII)Z" } : Jvm.MethodName) method_4_code (5 : Nat) (Option.some Jvm.ClassFile.FieldType.boolean)) : Jvm.Cond).before a0 Z = true := hw _ (List.mem_of_getElem? (i := 139) rfl)
theorem w_140 {Z : State} {a0 : Array Value} (hw : ∀ d ∈ tables_1, d.before a0 Z = true) : ((Jvm.Cond.methodLink "com/example/resultwire/resultwire/er7/PieceIndexEndPinLaw" (38 : Nat) ({ cls := "java/lang/Math", name := "max", desc := "(II)I" } : Jvm.MethodName)) : Jvm.Cond).before a0 Z = true := hw _ (List.mem_of_getElem? (i := 140) rfl)
theorem w_141 {Z : State} {a0 : Array Value} (hw : ∀ d ∈ tables_1, d.before a0 Z = true) : ((Jvm.Cond.methodLink "com/example/resultwire/resultwire/er7/PieceIndexEndPinLaw" (44 : Nat) ({ cls := "java/lang/Math", name := "min", desc := "(II)I" } : Jvm.MethodName)) : Jvm.Cond).before a0 Z = true := hw _ (List.mem_of_getElem? (i := 141) rfl)
theorem w_142 {Z : State} {a0 : Array Value} (hw : ∀ d ∈ tables_1, d.before a0 Z = true) : ((Jvm.Cond.methodLink "com/example/resultwire/resultwire/er7/Pieces" (42 : Nat) ({ cls := "java/lang/String", name := "indexOf", desc := "(II)I" } : Jvm.MethodName)) : Jvm.Cond).before a0 Z = true := hw _ (List.mem_of_getElem? (i := 142) rfl)
theorem w_143 {Z : State} {a0 : Array Value} (hw : ∀ d ∈ tables_1, d.before a0 Z = true) : ((Jvm.Cond.declares ({ cls := "java/lang/String", name := "indexOf", desc := "(II)I" } : Jvm.MethodName)) : Jvm.Cond).before a0 Z = true := hw _ (List.mem_of_getElem? (i := 143) rfl)
theorem w_144 {Z : State} {a0 : Array Value} (hw : ∀ d ∈ tables_1, d.before a0 Z = true) : ((Jvm.Cond.instanceMethod ({ cls := "java/lang/String", name := "indexOf", desc := "(II)I" } : Jvm.MethodName)) : Jvm.Cond).before a0 Z = true := hw _ (List.mem_of_getElem? (i := 144) rfl)
theorem w_145 {Z : State} {a0 : Array Value} (hw : ∀ d ∈ tables_1, d.before a0 Z = true) : ((Jvm.Cond.selects "java/lang/String" ({ cls := "java/lang/String", name := "indexOf", desc := "(II)I" } : Jvm.MethodName) ({ cls := "java/lang/String", name := "indexOf", desc := "(II)I" } : Jvm.MethodName)) : Jvm.Cond).before a0 Z = true := hw _ (List.mem_of_getElem? (i := 145) rfl)
theorem w_146 {Z : State} {a0 : Array Value} (hw : ∀ d ∈ tables_1, d.before a0 Z = true) : ((Jvm.Cond.code ({ cls := "java/lang/String", name := "indexOf", desc := "(II)I" } : Jvm.MethodName) jdk_42_method_80_code (3 : Nat) (Option.some Jvm.ClassFile.FieldType.int)) : Jvm.Cond).before a0 Z = true := hw _ (List.mem_of_getElem? (i := 146) rfl)
theorem w_147 {Z : State} {a0 : Array Value} (hw : ∀ d ∈ tables_1, d.before a0 Z = true) : ((Jvm.Cond.methodLink "java/lang/String" (492 : Nat) ({ cls := "java/lang/String", name := "isLatin1", desc := "()Z" } : Jvm.MethodName)) : Jvm.Cond).before a0 Z = true := hw _ (List.mem_of_getElem? (i := 147) rfl)
theorem w_148 {Z : State} {a0 : Array Value} (hw : ∀ d ∈ tables_1, d.before a0 Z = true) : ((Jvm.Cond.declares ({ cls := "java/lang/String", name := "isLatin1", desc := "()Z" } : Jvm.MethodName)) : Jvm.Cond).before a0 Z = true := hw _ (List.mem_of_getElem? (i := 148) rfl)
theorem w_149 {Z : State} {a0 : Array Value} (hw : ∀ d ∈ tables_1, d.before a0 Z = true) : ((Jvm.Cond.instanceMethod ({ cls := "java/lang/String", name := "isLatin1", desc := "()Z" } : Jvm.MethodName)) : Jvm.Cond).before a0 Z = true := hw _ (List.mem_of_getElem? (i := 149) rfl)
theorem w_150 {Z : State} {a0 : Array Value} (hw : ∀ d ∈ tables_1, d.before a0 Z = true) : ((Jvm.Cond.selects "java/lang/String" ({ cls := "java/lang/String", name := "isLatin1", desc := "()Z" } : Jvm.MethodName) ({ cls := "java/lang/String", name := "isLatin1", desc := "()Z" } : Jvm.MethodName)) : Jvm.Cond).before a0 Z = true := hw _ (List.mem_of_getElem? (i := 150) rfl)
theorem w_151 {Z : State} {a0 : Array Value} (hw : ∀ d ∈ tables_1, d.before a0 Z = true) : ((Jvm.Cond.code ({ cls := "java/lang/String", name := "isLatin1", desc := "()Z" } : Jvm.MethodName) jdk_42_method_154_code (1 : Nat) (Option.some Jvm.ClassFile.FieldType.boolean)) : Jvm.Cond).before a0 Z = true := hw _ (List.mem_of_getElem? (i := 151) rfl)
theorem w_152 {Z : State} {a0 : Array Value} (hw : ∀ d ∈ tables_1, d.before a0 Z = true) : ((Jvm.Cond.methodLink "java/lang/String" (505 : Nat) ({ cls := "java/lang/String", name := "length", desc := "()I" } : Jvm.MethodName)) : Jvm.Cond).before a0 Z = true := hw _ (List.mem_of_getElem? (i := 152) rfl)
theorem w_153 {Z : State} {a0 : Array Value} (hw : ∀ d ∈ tables_1, d.before a0 Z = true) : ((Jvm.Cond.methodLink "java/lang/String" (637 : Nat) ({ cls := "java/lang/StringLatin1", name := "indexOf", desc := "([BIII)I" } : Jvm.MethodName)) : Jvm.Cond).before a0 Z = true := hw _ (List.mem_of_getElem? (i := 153) rfl)
theorem w_154 {Z : State} {a0 : Array Value} (hw : ∀ d ∈ tables_1, d.before a0 Z = true) : ((Jvm.Cond.static ({ cls := "java/lang/StringLatin1", name := "indexOf", desc := "([BIII)I" } : Jvm.MethodName)) : Jvm.Cond).before a0 Z = true := hw _ (List.mem_of_getElem? (i := 154) rfl)
theorem w_155 {Z : State} {a0 : Array Value} (hw : ∀ d ∈ tables_1, d.before a0 Z = true) : ((Jvm.Cond.initialized "java/lang/StringLatin1") : Jvm.Cond).before a0 Z = true := hw _ (List.mem_of_getElem? (i := 155) rfl)
theorem w_156 {Z : State} {a0 : Array Value} (hw : ∀ d ∈ tables_1, d.before a0 Z = true) : ((Jvm.Cond.code ({ cls := "java/lang/StringLatin1", name := "indexOf", desc := "([BIII)I" } : Jvm.MethodName) jdk_43_method_22_code (4 : Nat) (Option.some Jvm.ClassFile.FieldType.int)) : Jvm.Cond).before a0 Z = true := hw _ (List.mem_of_getElem? (i := 156) rfl)
theorem w_157 {Z : State} {a0 : Array Value} (hw : ∀ d ∈ tables_1, d.before a0 Z = true) : ((Jvm.Cond.methodLink "java/lang/StringLatin1" (88 : Nat) ({ cls := "java/lang/StringLatin1", name := "canEncode", desc := "(I)Z" } : Jvm.MethodName)) : Jvm.Cond).before a0 Z = true := hw _ (List.mem_of_getElem? (i := 157) rfl)
theorem w_158 {Z : State} {a0 : Array Value} (hw : ∀ d ∈ tables_1, d.before a0 Z = true) : ((Jvm.Cond.static ({ cls := "java/lang/StringLatin1", name := "canEncode", desc := "(I)Z" } : Jvm.MethodName)) : Jvm.Cond).before a0 Z = true := hw _ (List.mem_of_getElem? (i := 158) rfl)
theorem w_159 {Z : State} {a0 : Array Value} (hw : ∀ d ∈ tables_1, d.before a0 Z = true) : ((Jvm.Cond.code ({ cls := "java/lang/StringLatin1", name := "canEncode", desc := "(I)Z" } : Jvm.MethodName) jdk_43_method_4_code (1 : Nat) (Option.some Jvm.ClassFile.FieldType.boolean)) : Jvm.Cond).before a0 Z = true := hw _ (List.mem_of_getElem? (i := 159) rfl)
theorem w_160 {Z : State} {a0 : Array Value} (hw : ∀ d ∈ tables_1, d.before a0 Z = true) : ((Jvm.Cond.methodLink "java/lang/StringLatin1" (92 : Nat) ({ cls := "java/lang/Math", name := "max", desc := "(II)I" } : Jvm.MethodName)) : Jvm.Cond).before a0 Z = true := hw _ (List.mem_of_getElem? (i := 160) rfl)
theorem w_161 {Z : State} {a0 : Array Value} (hw : ∀ d ∈ tables_1, d.before a0 Z = true) : ((Jvm.Cond.methodLink "java/lang/StringLatin1" (38 : Nat) ({ cls := "java/lang/Math", name := "min", desc := "(II)I" } : Jvm.MethodName)) : Jvm.Cond).before a0 Z = true := hw _ (List.mem_of_getElem? (i := 161) rfl)
theorem w_162 {Z : State} {a0 : Array Value} (hw : ∀ d ∈ tables_1, d.before a0 Z = true) : ((Jvm.Cond.methodLink "com/example/resultwire/resultwire/er7/Pieces" (46 : Nat) ({ cls := "java/lang/String", name := "charAt", desc := "(I)C" } : Jvm.MethodName)) : Jvm.Cond).before a0 Z = true := hw _ (List.mem_of_getElem? (i := 162) rfl)
theorem w_163 {Z : State} {a0 : Array Value} (hw : ∀ d ∈ tables_1, d.before a0 Z = true) : ((Jvm.Cond.declares ({ cls := "java/lang/String", name := "charAt", desc := "(I)C" } : Jvm.MethodName)) : Jvm.Cond).before a0 Z = true := hw _ (List.mem_of_getElem? (i := 163) rfl)
theorem w_164 {Z : State} {a0 : Array Value} (hw : ∀ d ∈ tables_1, d.before a0 Z = true) : ((Jvm.Cond.instanceMethod ({ cls := "java/lang/String", name := "charAt", desc := "(I)C" } : Jvm.MethodName)) : Jvm.Cond).before a0 Z = true := hw _ (List.mem_of_getElem? (i := 164) rfl)
theorem w_165 {Z : State} {a0 : Array Value} (hw : ∀ d ∈ tables_1, d.before a0 Z = true) : ((Jvm.Cond.selects "java/lang/String" ({ cls := "java/lang/String", name := "charAt", desc := "(I)C" } : Jvm.MethodName) ({ cls := "java/lang/String", name := "charAt", desc := "(I)C" } : Jvm.MethodName)) : Jvm.Cond).before a0 Z = true := hw _ (List.mem_of_getElem? (i := 165) rfl)
theorem w_166 {Z : State} {a0 : Array Value} (hw : ∀ d ∈ tables_1, d.before a0 Z = true) : ((Jvm.Cond.code ({ cls := "java/lang/String", name := "charAt", desc := "(I)C" } : Jvm.MethodName) jdk_42_method_56_code (2 : Nat) (Option.some Jvm.ClassFile.FieldType.char)) : Jvm.Cond).before a0 Z = true := hw _ (List.mem_of_getElem? (i := 166) rfl)
theorem w_178 {Z : State} {a0 : Array Value} (hw : ∀ d ∈ tables_1, d.before a0 Z = true) : ((Jvm.Cond.methodLink "java/lang/StringLatin1" (95 : Nat) ({ cls := "java/lang/StringLatin1", name := "indexOfChar", desc := "([BIII)I" } : Jvm.MethodName)) : Jvm.Cond).before a0 Z = true := hw _ (List.mem_of_getElem? (i := 178) rfl)
theorem w_179 {Z : State} {a0 : Array Value} (hw : ∀ d ∈ tables_1, d.before a0 Z = true) : ((Jvm.Cond.static ({ cls := "java/lang/StringLatin1", name := "indexOfChar", desc := "([BIII)I" } : Jvm.MethodName)) : Jvm.Cond).before a0 Z = true := hw _ (List.mem_of_getElem? (i := 179) rfl)
theorem w_180 {Z : State} {a0 : Array Value} (hw : ∀ d ∈ tables_1, d.before a0 Z = true) : ((Jvm.Cond.code ({ cls := "java/lang/StringLatin1", name := "indexOfChar", desc := "([BIII)I" } : Jvm.MethodName) jdk_43_method_23_code (6 : Nat) (Option.some Jvm.ClassFile.FieldType.int)) : Jvm.Cond).before a0 Z = true := hw _ (List.mem_of_getElem? (i := 180) rfl)
theorem own_big {c : Int32} (q : (65535 : Int32) < c) : (255 : Int32) < c := by
  rw [Int32.lt_iff_toInt_lt] at q ⊢
  have e1 : (65535 : Int32).toInt = 65535 := by decide
  have e2 : (255 : Int32).toInt = 255 := by decide
  omega
def own_b8 (cs : List Int32) : List Value := (cs.map fun c => c.toInt8.toInt32).map Value.int
def own_Str (Z : State) (h : Heap) (x t : Addr) (k : ClassId) (cs : List Int32) : Prop := Exa Z h x "java/lang/String" ∧ Fld Z h x "java/lang/String" "value" "[B" (.ref t) ∧ Fld Z h x "java/lang/String" "coder" "B" (.int (0 : Int32)) ∧ Arv Z h t k .byte (Int32.ofNat cs.length) (own_b8 cs) (.int 0) ∧ cs.length ≤ 4000 ∧ ∀ c ∈ cs, ¬ c < 0 ∧ ¬ (255 : Int32) < c
theorem own_up {Z : State} {h : Heap} {x t : Addr} {k : ClassId} {cs : List Int32} (S : own_Str Z h x t k cs) : ∀ c ∈ cs, ¬ c < 0 ∧ ¬ (65535 : Int32) < c := fun c hc => ⟨(S.2.2.2.2.2 c hc).1, fun q => (S.2.2.2.2.2 c hc).2 (own_big q)⟩
theorem own_w_backV {Z : State} {a0 : Array Value} (hw : ∀ d ∈ tables_1, d.before a0 Z = true) : ∀ d ∈ StrChars.Road.words, d.before a0 Z = true := fun d hd => hw d ((by decide +kernel : ∀ d ∈ StrChars.Road.words, d ∈ tables_1) d hd)
theorem own_w_lenW {Z : State} {a0 : Array Value} (hw : ∀ d ∈ tables_1, d.before a0 Z = true) : ∀ d ∈ StrChars.Road.wordsLen, d.before a0 Z = true := fun d hd => hw d ((by decide +kernel : ∀ d ∈ StrChars.Road.wordsLen, d ∈ tables_1) d hd)
theorem own_w_chN {Z : State} {a0 : Array Value} (hw : ∀ d ∈ tables_1, d.before a0 Z = true) : ∀ d ∈ StrChars.Road.wordsChN, d.before a0 Z = true := fun d hd => hw d ((by decide +kernel : ∀ d ∈ StrChars.Road.wordsChN, d ∈ tables_1) d hd)
theorem own_cod {Z : State} {h : Heap} {x t : Addr} {k : ClassId} {cs : List Int32} (S : own_Str Z h x t k cs) : StrChars.Road.CodA cs 0 (Int32.ofNat cs.length) (own_b8 cs) := StrChars.Road.codOf rfl (fun c hc => (S.2.2.2.2.2 c hc).2)
theorem own_len {p : Program} {l : Launch} {e : Env} {R : Room} {s : State} {args : Array Value} {below : List Frame} {len W : Nat} {Z : State} {a0 : Array Value} {h : Heap} (hZ : Z.Warmed39 s.vm) (hw : ∀ d ∈ tables_1, d.before a0 Z = true) {x t : Addr} {k : ClassId} {cs : List Int32} {z : Int32} (S : own_Str Z h x t k cs) (C : Sta Z h "java/lang/String" "COMPACT_STRINGS" "Z" (.int z)) (hz : ¬ (z = (0 : Int32))) (hfr : 2 ≤ R.frames) (hlo : W + 25 ≤ R.locals) :
    Back l R p e below s args (⟨"java/lang/String", "length", "()I"⟩ : MethodName) len W (fun P a => a = #[.ref x] ∧ P.U.heap = h ∧ P.cells + 0 ≤ R.cells ∧ P.slots + 0 ≤ R.slots) (fun P _ v B => ∃ L, (v = some (.int (Int32.ofNat cs.length)) ∧ L = [] ∧ B.U.heap = h) ∧ B.locs = P.locs ++ L ∧ B.cells = P.cells + 0 ∧ B.slots = P.slots + 0) :=
  StrChars.Road.lenW hZ (own_w_lenW hw) (w_7 hw) S.1 S.2.1 S.2.2.1 S.2.2.2.1 (own_cod S) (own_up S) C hz S.2.2.2.2.1 hfr hlo
theorem own_chr {p : Program} {l : Launch} {e : Env} {R : Room} {s : State} {args : Array Value} {below : List Frame} {len W : Nat} {Z : State} {a0 : Array Value} {h : Heap} (hZ : Z.Warmed39 s.vm) (hw : ∀ d ∈ tables_1, d.before a0 Z = true) {x t : Addr} {k : ClassId} {cs : List Int32} {z : Int32} {fm : Value} {i : Nat} {j : Int32} (S : own_Str Z h x t k cs) (C : Sta Z h "java/lang/String" "COMPACT_STRINGS" "Z" (.int z)) (hz : ¬ (z = (0 : Int32))) (F : Sta Z h "jdk/internal/util/Preconditions" "SIOOBE_FORMATTER" "Ljava/util/function/BiFunction;" fm) (rf : fm.isRef = true) (hi : i < cs.length) (hj : j = Int32.ofNat i) (hfr : 4 ≤ R.frames) (hlo : W + 53 ≤ R.locals) :
    Back l R p e below s args (⟨"java/lang/String", "charAt", "(I)C"⟩ : MethodName) len W (fun P a => a = #[.ref x, .int j] ∧ P.U.heap = h ∧ P.cells + 0 ≤ R.cells ∧ P.slots + 0 ≤ R.slots) (fun P _ v B => ∃ L, (v = some (.int (cs.getD i 0)) ∧ L = [] ∧ B.U.heap = h) ∧ B.locs = P.locs ++ L ∧ B.cells = P.cells + 0 ∧ B.slots = P.slots + 0) :=
  StrChars.Road.chN hZ (own_w_chN hw) (w_7 hw) S.1 S.2.1 S.2.2.1 S.2.2.2.1 (own_cod S) (own_up S) C hz F rf S.2.2.2.2.1 hi hj hfr hlo
theorem own_new {p : Program} {l : Launch} {e : Env} {R : Room} {s : State} {args : Array Value} {below : List Frame} {len W : Nat} {Z : State} {a0 : Array Value} {h : Heap} (hZ : Z.Warmed39 s.vm) (hw : ∀ d ∈ tables_1, d.before a0 Z = true) {x b : Addr} {kC : ClassId} {cs : List Int32} {d v0 c0 : Value} {z N : Int32} {n n0 : Nat} (hx0 : n0 ≤ x) (hh0 : n0 ≤ h.size) (E : Exa Z h x "java/lang/String") (V : Fld Z h x "java/lang/String" "value" "[B" v0) (C : Fld Z h x "java/lang/String" "coder" "B" c0) (K : Arv Z h b kC .char N (cs.map Value.int) d) (S : Sta Z h "java/lang/String" "COMPACT_STRINGS" "Z" (.int z)) (hz : ¬ (z = (0 : Int32))) (hn : cs.length = n) (hN : N = Int32.ofNat n) (l0 : 0 < n) (l2 : n ≤ 4000) (hp : ∀ c ∈ cs, ¬ c < 0 ∧ ¬ (255 : Int32) < c) (hfr : 4 ≤ R.frames) (hlo : W + 65 ≤ R.locals) :
    Back l R p e below s args (⟨"java/lang/String", "<init>", "([C)V"⟩ : MethodName) len W (fun P a => a = #[.ref x, .ref b] ∧ P.U.heap = h ∧ P.cells + 1 ≤ R.cells ∧ P.slots + n ≤ R.slots)
      (fun P _ v B => ∃ L, (v = none ∧ Fr n0 L ∧ Keep h B.U.heap [x] ∧ ∃ (t : Addr) (kb : ClassId), h.size ≤ t ∧ own_Str Z B.U.heap x t kb cs) ∧ B.locs = P.locs ++ L ∧ B.cells = P.cells + 1 ∧ B.slots = P.slots + n) := by
  refine Back.mono (StrChars.Road.backV hZ (own_w_backV hw) (w_7 hw) hx0 hh0 E V C K S hz hn hN l0 l2 hp rfl hfr hlo) (fun _ _ h => h) (fun P a v B hp' hq => ?_)
  obtain ⟨L, ⟨h1, h2, h3, h4, h5, t, kb, h6, h7, h8, h9, h10⟩, h11⟩ := hq
  subst hn hN
  exact ⟨L, ⟨h1, h2, h3, t, kb, h7, h4, h9, h5, h10, l2, hp⟩, h11⟩


def own_max (p q : Int32) : Int32 := if p < q then q else p
def own_min (p q : Int32) : Int32 := if q < p then q else p
def own_enc (p : Int32) : Int32 := if p < (0 : Int32) then 0 else if (255 : Int32) < p then 0 else 1
def own_end (cs : List Int32) (d : Int32) : Nat → Nat → Nat
  | i, 0 => i
  | i, k + 1 => if cs.getD i 0 = d then i else own_end cs d (i + 1) k
def own_ixk (cs : List Int32) (d : Int32) : Nat → Nat → Int32
  | _, 0 => -1
  | i, k + 1 => if cs.getD i 0 = d then Int32.ofNat i else own_ixk cs d (i + 1) k
theorem own_end_bd (cs : List Int32) (d : Int32) : ∀ k i, i ≤ own_end cs d i k ∧ own_end cs d i k ≤ i + k
  | 0, i => by simp [own_end]
  | k + 1, i => by
    have h := own_end_bd cs d k (i + 1)
    simp only [own_end]
    split <;> omega
theorem own_end_at (cs : List Int32) (d : Int32) : ∀ k i, own_end cs d i k < i + k → cs.getD (own_end cs d i k) 0 = d
  | 0, i => by simp [own_end]
  | k + 1, i => by
    have h := own_end_at cs d k (i + 1)
    simp only [own_end]
    split
    · rename_i q; intro _; exact q
    · intro q; exact h (by omega)
theorem own_end_no (cs : List Int32) (d : Int32) : ∀ k i j, i ≤ j → j < own_end cs d i k → ¬ cs.getD j 0 = d
  | 0, i, j => by intro h1 h2; simp only [own_end] at h2; omega
  | k + 1, i, j => by
    intro h1 h2
    simp only [own_end] at h2
    split at h2
    · omega
    · rename_i q
      by_cases e : i = j
      · subst e; exact q
      · exact own_end_no cs d k (i + 1) j (by omega) h2
theorem own_ixk_end (cs : List Int32) (d : Int32) : ∀ k i, own_ixk cs d i k = if own_end cs d i k < i + k then Int32.ofNat (own_end cs d i k) else -1
  | 0, i => by simp [own_end, own_ixk]
  | k + 1, i => by
    simp only [own_end, own_ixk]
    split
    · rw [if_pos (by omega)]
    · rw [own_ixk_end cs d k (i + 1), show i + 1 + k = i + (k + 1) by omega]
theorem own_lo8_inj {x y : Int32} (hx : ¬ x < 0 ∧ ¬ (255 : Int32) < x) (hy : ¬ y < 0 ∧ ¬ (255 : Int32) < y) (h : x.toInt8.toInt32 = y.toInt8.toInt32) : x = y := by
  rw [Int32.lt_iff_toInt_lt, Int32.lt_iff_toInt_lt] at hx hy
  have e1 : (0 : Int32).toInt = 0 := by decide
  have e2 : (255 : Int32).toInt = 255 := by decide
  rw [e1, e2] at hx hy
  have q := congrArg Int32.toInt h
  rw [Int8.toInt_toInt32, Int8.toInt_toInt32, Int32.toInt_toInt8, Int32.toInt_toInt8] at q
  refine Int32.toInt_inj.mp ?_
  simp only [Int.bmod_def] at q
  omega
theorem own_b8_get (cs : List Int32) {i : Nat} (h : i < cs.length) (h2 : cs.length ≤ 4000) : (own_b8 cs).getD (Int32.ofNat i).toNatClampNeg (.int 0) = .int (cs.getD i 0).toInt8.toInt32 := by
  rw [own_clamp (by omega), own_b8, List.map_map]
  simp [List.getD_eq_getElem?_getD, List.getElem?_map, List.getElem?_eq_getElem h]
theorem own_mem (cs : List Int32) {i : Nat} (h : i < cs.length) : cs.getD i 0 ∈ cs := by
  simp [List.getD_eq_getElem?_getD, List.getElem?_eq_getElem h]
theorem own_enc_bad {cs : List Int32} {d : Int32} (h : own_enc d = 0) (hb : ∀ c ∈ cs, ¬ c < 0 ∧ ¬ (255 : Int32) < c) : ∀ k i, i + k ≤ cs.length → own_ixk cs d i k = -1
  | 0, i => fun _ => rfl
  | k + 1, i => fun q => by
    have m := hb _ (own_mem cs (i := i) (by omega))
    have n : ¬ cs.getD i 0 = d := fun e => by
      rw [e] at m
      rw [own_enc, if_neg m.1, if_neg m.2] at h
      exact absurd h (by decide)
    rw [own_ixk, if_neg n]
    exact own_enc_bad h hb k (i + 1) (by omega)
theorem own_enc_ok {d : Int32} (h : ¬ own_enc d = 0) : ¬ d < 0 ∧ ¬ (255 : Int32) < d := by
  unfold own_enc at h
  split at h
  · exact absurd rfl h
  · split at h
    · exact absurd rfl h
    · exact ⟨by assumption, by assumption⟩
theorem own_ixk_neg {cs : List Int32} {d : Int32} {i k : Nat} (hn : i + k < 2147483648) (h : own_ixk cs d i k < 0) : own_end cs d i k = i + k := by
  rw [own_ixk_end] at h
  have b := own_end_bd cs d k i
  split at h
  · exact absurd h (own_nneg _ (by omega))
  · omega
theorem own_ixk_pos {cs : List Int32} {d : Int32} {i k : Nat} (h : ¬ own_ixk cs d i k < 0) : Int32.ofNat (own_end cs d i k) = own_ixk cs d i k := by
  rw [own_ixk_end] at h ⊢
  split at h
  · rw [if_pos (by assumption)]
  · exact absurd (by decide) h
def own_endOf (cs : List Int32) (d : Int32) (f t : Nat) : Nat := if d = (-1 : Int32) then t else own_end cs d f (t - f)
theorem own_endOf_bd {cs : List Int32} {d : Int32} {f t : Nat} (h : f ≤ t) : f ≤ own_endOf cs d f t ∧ own_endOf cs d f t ≤ t := by
  have b := own_end_bd cs d (t - f) f
  unfold own_endOf
  split <;> omega


def own_hn (p q : Int32) : Int32 := if q < p then 0 else 1
theorem own_hn1 {p q : Int32} (h : ¬ q < p) : own_hn p q = 1 := if_neg h


def own_iv (es : List Nat) : List Value := es.map fun e => Value.int (Int32.ofNat e)
theorem own_iv_len (es : List Nat) : (own_iv es).length = es.length := by simp [own_iv]
theorem own_pad1 (vs : List Value) (d : Value) (i : Nat) : (vs ++ [d]).getD i d = vs.getD i d := pad_rep vs d 1 i
theorem own_ivpush (es : List Nat) (e : Nat) (d : Value) : (own_iv es ++ [d]).set es.length (.int (Int32.ofNat e)) = own_iv (es ++ [e]) := by
  rw [own_iv, own_iv, List.map_append, List.set_append_right _ _ (by simp)]
  simp
def own_pcs (cs : List Int32) (d : Int32) (t : Nat) : Nat → Nat → List Nat
  | 0, _ => []
  | k + 1, f => if f ≤ t then own_endOf cs d f t :: own_pcs cs d t k (own_endOf cs d f t + 1) else []
theorem own_pcs_stop (cs : List Int32) (d : Int32) (t : Nat) {f : Nat} (h : ¬ f ≤ t) : ∀ k, own_pcs cs d t k f = []
  | 0 => rfl
  | k + 1 => by rw [own_pcs, if_neg h]
def own_st2 (n q : Int32) (es : List Nat) : Int32 := if (1 : Int32) < n then (if (Int32.ofNat es.length) < n then q else (Int32.ofNat (es.getD (n.toInt.toNat - 2) 0)) + (1 : Int32)) else q
def own_start (n ff q : Int32) (es : List Nat) : Int32 := if n = (1 : Int32) then (if (0 : Int32) < (Int32.ofNat es.length) then ff else own_st2 n q es) else own_st2 n q es
theorem own_sub2 {n : Int32} (h : (1 : Int32) < n) : (n - 2).toInt = n.toInt - 2 := by
  rw [Int32.lt_iff_toInt_lt] at h
  have e1 : (1 : Int32).toInt = 1 := by decide
  have e2 : (2 : Int32).toInt = 2 := by decide
  rw [e1] at h
  have h2 := n.toInt_lt
  rw [Int32.toInt_sub, e2, Int.bmod_def]
  split <;> omega
theorem own_sin {n z : Int32} {es : List Nat} (h1 : (1 : Int32) < n) (h2 : ¬ (Int32.ofNat es.length) < n) (h3 : es.length ≤ z.toNatClampNeg ∧ ¬ z < 0) : ¬ (n - (2 : Int32)) < 0 ∧ (n - (2 : Int32)) < z := by
  have e := own_sub2 h1
  have hz := nat_of h3.2
  have hz2 := z.toInt_lt
  rw [Int32.lt_iff_toInt_lt] at h1
  rw [Int32.lt_iff_toInt_lt, own_toI (by omega)] at h2
  have e1 : (1 : Int32).toInt = 1 := by decide
  have e0 : (0 : Int32).toInt = 0 := by decide
  rw [e1] at h1
  rw [Int32.lt_iff_toInt_lt, Int32.lt_iff_toInt_lt, e, e0]
  omega
theorem own_sget {n z : Int32} {es : List Nat} (h1 : (1 : Int32) < n) (h2 : ¬ (Int32.ofNat es.length) < n) (h3 : es.length ≤ z.toNatClampNeg ∧ ¬ z < 0) : (own_iv es).getD (n - (2 : Int32)).toNatClampNeg (.int (0 : Int32)) = .int (Int32.ofNat (es.getD (n.toInt.toNat - 2) 0)) := by
  have q := own_sin h1 h2 h3
  have e := own_sub2 h1
  have g := nat_of q.1
  have hz := nat_of h3.2
  have hz2 := z.toInt_lt
  rw [Int32.lt_iff_toInt_lt] at h1
  rw [Int32.lt_iff_toInt_lt, own_toI (by omega)] at h2
  have e1 : (1 : Int32).toInt = 1 := by decide
  rw [e1] at h1
  rw [show (n - (2 : Int32)).toNatClampNeg = n.toInt.toNat - 2 by omega]
  have l : n.toInt.toNat - 2 < es.length := by omega
  simp only [own_iv, List.getD_eq_getElem?_getD, List.getElem?_map, List.getElem?_eq_getElem l, Option.map_some, Option.getD_some]
def own_fin (n q : Int32) (es : List Nat) : Int32 := if n < (1 : Int32) then q else if (Int32.ofNat es.length) < n then q else Int32.ofNat (es.getD (n.toInt.toNat - 1) 0)
theorem own_sub1 {n : Int32} (h : ¬ n < (1 : Int32)) : (n - 1).toInt = n.toInt - 1 := by
  rw [Int32.lt_iff_toInt_lt] at h
  have e1 : (1 : Int32).toInt = 1 := by decide
  rw [e1] at h
  have h2 := n.toInt_lt
  rw [Int32.toInt_sub, e1, Int.bmod_def]
  split <;> omega
theorem own_ein {n z : Int32} {es : List Nat} (h1 : ¬ n < (1 : Int32)) (h2 : ¬ (Int32.ofNat es.length) < n) (h3 : es.length ≤ z.toNatClampNeg ∧ ¬ z < 0) : ¬ (n - (1 : Int32)) < 0 ∧ (n - (1 : Int32)) < z := by
  have e := own_sub1 h1
  have hz := nat_of h3.2
  have hz2 := z.toInt_lt
  rw [Int32.lt_iff_toInt_lt] at h1
  rw [Int32.lt_iff_toInt_lt, own_toI (by omega)] at h2
  have e1 : (1 : Int32).toInt = 1 := by decide
  have e0 : (0 : Int32).toInt = 0 := by decide
  rw [e1] at h1
  rw [Int32.lt_iff_toInt_lt, Int32.lt_iff_toInt_lt, e, e0]
  omega
theorem own_eget {n z : Int32} {es : List Nat} (h1 : ¬ n < (1 : Int32)) (h2 : ¬ (Int32.ofNat es.length) < n) (h3 : es.length ≤ z.toNatClampNeg ∧ ¬ z < 0) : (own_iv es).getD (n - (1 : Int32)).toNatClampNeg (.int (0 : Int32)) = .int (Int32.ofNat (es.getD (n.toInt.toNat - 1) 0)) := by
  have q := own_ein h1 h2 h3
  have e := own_sub1 h1
  have g := nat_of q.1
  have hz := nat_of h3.2
  have hz2 := z.toInt_lt
  rw [Int32.lt_iff_toInt_lt] at h1
  rw [Int32.lt_iff_toInt_lt, own_toI (by omega)] at h2
  have e1 : (1 : Int32).toInt = 1 := by decide
  rw [e1] at h1
  rw [show (n - (1 : Int32)).toNatClampNeg = n.toInt.toNat - 1 by omega]
  have l : n.toInt.toNat - 1 < es.length := by omega
  simp only [own_iv, List.getD_eq_getElem?_getD, List.getElem?_map, List.getElem?_eq_getElem l, Option.map_some, Option.getD_some]
theorem own_range8 {es : List Nat} (h : es.length = 8) : own_iv es = (List.range (8 : Int32).toNatClampNeg).map fun i => (own_iv es).getD ((0 : Int32).toNatClampNeg + i) (.int (0 : Int32)) := by
  show own_iv es = (List.range 8).map fun i => (own_iv es).getD (0 + i) (.int (0 : Int32))
  have hl : (own_iv es).length = 8 := by rw [own_iv_len, h]
  apply List.ext_getElem?
  intro i
  by_cases hi : i < 8
  · simp [List.getElem?_eq_getElem (show i < (own_iv es).length by omega), hi, List.getD_eq_getElem?_getD]
  · rw [List.getElem?_eq_none (by omega), List.getElem?_eq_none (by simp; omega)]
theorem own_lt8 {j : Nat} (h : j < 8) : Int32.ofNat j < (8 : Int32) := own_lt (j := 8) h (by omega)
theorem own_lt16 {j : Nat} (h : j < 16) : Int32.ofNat j < (16 : Int32) := own_lt (j := 16) h (by omega)
theorem own_step (cs : List Int32) (d : Int32) {tt f k w : Nat} {es : List Nat} (hlt : es.length < w) (hf : f ≤ tt) : es ++ (own_pcs cs d tt (k + 1) f).take (w - es.length) = (es ++ [own_endOf cs d f tt]) ++ (own_pcs cs d tt k (own_endOf cs d f tt + 1)).take (w - (es ++ [own_endOf cs d f tt]).length) := by
  rw [own_pcs, if_pos hf, List.length_append, show w - es.length = (w - (es.length + 1)) + 1 by omega, List.take_succ_cons, List.append_assoc]
  rfl
theorem own_want {r : Int32} (h : (0 : Int32) < r) : ∃ w : Nat, own_max r (8 : Int32) = Int32.ofNat w ∧ 8 ≤ w ∧ w < 2147483648 ∧ (w : Int) = max r.toInt 8 := by
  rw [Int32.lt_iff_toInt_lt] at h
  have e0 : (0 : Int32).toInt = 0 := by decide
  have e8 : (8 : Int32).toInt = 8 := by decide
  rw [e0] at h
  unfold own_max
  split
  · rename_i q
    rw [Int32.lt_iff_toInt_lt, e8] at q
    exact ⟨8, rfl, by omega, by omega, by omega⟩
  · rename_i q
    rw [Int32.lt_iff_toInt_lt, e8] at q
    have h2 := r.toInt_lt
    refine ⟨r.toInt.toNat, ?_, by omega, by omega, by omega⟩
    apply Int32.toInt_inj.mp
    rw [own_toI (by omega)]
    omega


def own_dls (cs : List Int32) (d : Int32) : Nat → Nat → List Nat
  | _, 0 => []
  | i, k + 1 => if cs.getD i 0 = d then i :: own_dls cs d (i + 1) k else own_dls cs d (i + 1) k
theorem own_dls_end (cs : List Int32) (d : Int32) : ∀ k i, own_dls cs d i k = if own_end cs d i k < i + k then own_end cs d i k :: own_dls cs d (own_end cs d i k + 1) (i + k - (own_end cs d i k + 1)) else []
  | 0, i => by simp [own_dls, own_end]
  | k + 1, i => by
    simp only [own_dls, own_end]
    split
    · rw [if_pos (by omega), show i + (k + 1) - (i + 1) = k by omega]
    · rw [own_dls_end cs d k (i + 1), show i + 1 + k = i + (k + 1) by omega]
theorem own_dls_snoc (cs : List Int32) (d : Int32) : ∀ k i, own_dls cs d i (k + 1) = own_dls cs d i k ++ (if cs.getD (i + k) 0 = d then [i + k] else [])
  | 0, i => by simp only [own_dls, Nat.add_zero]; split <;> rfl
  | k + 1, i => by
    rw [own_dls, own_dls_snoc cs d k (i + 1), show i + 1 + k = i + (k + 1) by omega]
    conv => rhs; rw [own_dls]
    by_cases h : cs.getD i 0 = d
    · rw [if_pos h, if_pos h]; rfl
    · rw [if_neg h, if_neg h]
theorem own_dls_len (cs : List Int32) (d : Int32) : ∀ k i, (own_dls cs d i k).length ≤ k
  | 0, i => Nat.le_refl _
  | k + 1, i => by
    have := own_dls_len cs d k (i + 1)
    rw [own_dls]
    split
    · simp only [List.length_cons]; omega
    · omega
theorem own_end_neg {cs : List Int32} (hb : ∀ c ∈ cs, ¬ c < 0 ∧ ¬ (255 : Int32) < c) : ∀ k i, i + k ≤ cs.length → own_dls cs (-1) i k = []
  | 0, i, _ => rfl
  | k + 1, i, q => by
    have m := (hb _ (own_mem cs (i := i) (by omega))).1
    rw [own_dls, if_neg (fun e => m (by rw [e]; decide))]
    exact own_end_neg hb k (i + 1) (by omega)
theorem own_pcs_dls {cs : List Int32} {d : Int32} {t : Nat} (hb : ∀ c ∈ cs, ¬ c < 0 ∧ ¬ (255 : Int32) < c) (ht : t ≤ cs.length) : ∀ K f, f ≤ t → t + 1 ≤ f + K → own_pcs cs d t K f = own_dls cs d f (t - f) ++ [t]
  | 0, f, h1, h2 => by omega
  | K + 1, f, h1, h2 => by
    rw [own_pcs, if_pos h1]
    by_cases hd : d = (-1 : Int32)
    · subst hd
      rw [own_endOf, if_pos rfl, own_end_neg hb _ _ (by omega), own_pcs_stop _ _ _ (by omega)]
      rfl
    · have e : own_endOf cs d f t = own_end cs d f (t - f) := if_neg hd
      have b := own_end_bd cs d (t - f) f
      rw [e, own_dls_end]
      by_cases h : own_end cs d f (t - f) < f + (t - f)
      · rw [if_pos h, own_pcs_dls hb ht K _ (by omega) (by omega), show f + (t - f) - (own_end cs d f (t - f) + 1) = t - (own_end cs d f (t - f) + 1) by omega]
        rfl
      · have e2 : own_end cs d f (t - f) = t := by omega
        rw [if_neg h, e2, own_pcs_stop _ _ _ (by omega)]
        rfl
def own_isd (c i d f q : Int32) : Int32 := if i < f then 0 else if i < q then (if c = d then 1 else 0) else 0
theorem own_isd0 {c d : Int32} {i f t : Nat} (hi : i < 2147483648) (hf : f < 2147483648) (ht : t < 2147483648) : own_isd c (Int32.ofNat i) d (Int32.ofNat f) (Int32.ofNat t) = 0 ↔ ¬ (f ≤ i ∧ i < t ∧ c = d) := by
  unfold own_isd
  split
  · rename_i h; have := own_ltI h hi hf; simp; omega
  · rename_i h; have h := own_nltI h hi hf
    split
    · rename_i h'; have h' := own_ltI h' hi ht
      split
      · rename_i e; simp [e, h']; omega
      · rename_i e; simp [e]
    · rename_i h'; have h' := own_nltI h' hi ht
      simp; omega
def own_s1 (b c : Int32) : Int32 := if b = (0 : Int32) then c else c + 1
def own_s2 (b c k r i : Int32) : Int32 := if b = (0 : Int32) then r else if c + 1 = k then i else r
def own_pick (A : List Nat) (k r : Int32) : Int32 := if 0 < k.toInt ∧ k.toInt ≤ A.length then Int32.ofNat (A.getD (k.toInt.toNat - 1) 0) else r
theorem own_pick_snoc (A : List Nat) (x : Nat) (k r : Int32) (hA : A.length < 2147483647) : own_pick (A ++ [x]) k r = if Int32.ofNat A.length + 1 = k then Int32.ofNat x else own_pick A k r := by
  unfold own_pick
  rw [own_inc]
  by_cases h : Int32.ofNat (A.length + 1) = k
  · rw [if_pos h]
    have e : k.toInt = ((A.length + 1 : Nat) : Int) := by rw [← h, own_toI (by omega)]
    rw [if_pos (by rw [List.length_append]; simp only [List.length_cons, List.length_nil]; omega)]
    congr 1
    rw [show k.toInt.toNat - 1 = A.length by omega]
    simp [List.getD_eq_getElem?_getD]
  · rw [if_neg h]
    have e : k.toInt ≠ ((A.length + 1 : Nat) : Int) := fun q => h (Int32.toInt_inj.mp (by rw [own_toI (by omega), q]))
    by_cases g : 0 < k.toInt ∧ k.toInt ≤ (A.length : Int)
    · rw [if_pos g, if_pos (by rw [List.length_append]; simp only [List.length_cons, List.length_nil]; omega)]
      congr 1
      simp only [List.getD_eq_getElem?_getD]
      rw [List.getElem?_append_left (by omega)]
    · rw [if_neg g, if_neg (by rw [List.length_append]; simp only [List.length_cons, List.length_nil]; omega)]
def own_A (cs : List Int32) (d : Int32) (f t i : Nat) : List Nat := own_dls cs d f (min i t - f)
theorem own_A_step (cs : List Int32) (d : Int32) (f t i : Nat) : own_A cs d f t (i + 1) = if f ≤ i ∧ i < t ∧ cs.getD i 0 = d then own_A cs d f t i ++ [i] else own_A cs d f t i := by
  unfold own_A
  by_cases h : f ≤ i ∧ i < t
  · rw [show min (i + 1) t - f = (min i t - f) + 1 by omega, own_dls_snoc, show f + (min i t - f) = i by omega]
    by_cases g : cs.getD i 0 = d
    · rw [if_pos g, if_pos ⟨h.1, h.2, g⟩]
    · rw [if_neg g, if_neg (fun q => g q.2.2), List.append_nil]
  · rw [if_neg (fun q => h ⟨q.1, q.2.1⟩)]
    congr 1
    omega
theorem own_A0 (cs : List Int32) (d : Int32) (f t : Nat) : own_A cs d f t 0 = [] := by
  unfold own_A
  rw [show min 0 t - f = 0 by omega]
  rfl
theorem own_A_len (cs : List Int32) (d : Int32) (f t i : Nat) : (own_A cs d f t i).length ≤ i := by
  unfold own_A
  have := own_dls_len cs d (min i t - f) f
  omega
theorem own_A_all {cs : List Int32} {d : Int32} {f t i : Nat} (h : t ≤ i) : own_A cs d f t i = own_dls cs d f (t - f) := by
  unfold own_A
  rw [Nat.min_eq_right h]
theorem own_scan {cs : List Int32} {d k r0 c r b : Int32} {f t i : Nat} (hi : i < 4000) (hf : f < 4000) (ht : t < 4000) (hb : b = own_isd (cs.getD i 0) (Int32.ofNat i) d (Int32.ofNat f) (Int32.ofNat t)) (hc : c = Int32.ofNat (own_A cs d f t i).length) (hr : r = own_pick (own_A cs d f t i) k r0) :
    own_s1 b c = Int32.ofNat (own_A cs d f t (i + 1)).length ∧ own_s2 b c k r (Int32.ofNat i) = own_pick (own_A cs d f t (i + 1)) k r0 := by
  have l := own_A_len cs d f t i
  have q := own_isd0 (c := cs.getD i 0) (d := d) (i := i) (f := f) (t := t) (by omega) (by omega) (by omega)
  rw [← hb] at q
  rw [own_A_step]
  by_cases h : b = 0
  · rw [own_s1, own_s2, if_pos h, if_pos h, if_neg (q.mp h)]
    exact ⟨hc, hr⟩
  · have g : f ≤ i ∧ i < t ∧ cs.getD i 0 = d := Classical.byContradiction fun z => h (q.mpr z)
    rw [own_s1, own_s2, if_neg h, if_neg h, if_pos g, hc, hr, own_pick_snoc _ _ _ _ (by omega)]
    refine ⟨?_, rfl⟩
    rw [List.length_append]
    exact own_inc _


theorem own_c255 (x : Int32) : ¬ (x &&& (255 : Int32)) < 0 ∧ ¬ (255 : Int32) < (x &&& (255 : Int32)) := by
  have h : (x &&& (255 : Int32)).toBitVec.toNat ≤ 255 := by
    show ((x.toBitVec &&& 255#32)).toNat ≤ 255
    rw [BitVec.toNat_and]
    exact Nat.and_le_right
  have e : (x &&& (255 : Int32)).toInt = ((x &&& (255 : Int32)).toBitVec.toNat : Int) := by
    show (x &&& (255 : Int32)).toBitVec.toInt = _
    rw [BitVec.toInt_eq_toNat_cond, if_pos (by omega)]
  constructor <;> rw [Int32.lt_iff_toInt_lt, e]
  · show ¬ _ < (0 : Int); omega
  · show ¬ (255 : Int) < _; omega
theorem own_rem (a b : Nat) (ha : a < 2147483648) (hb : b + 1 < 2147483648) : Int32.ofNat a % Int32.ofNat (b + 1) = Int32.ofNat (a % (b + 1)) := by
  apply Int32.toInt_inj.mp
  have h1 : a % (b + 1) ≤ a := Nat.mod_le _ _
  rw [Int32.toInt_mod, own_toI ha, own_toI hb, own_toI (by omega)]
  rw [Int.tmod_eq_emod_of_nonneg (by omega)]
  omega
theorem own_nz (b : Nat) (hb : b + 1 < 2147483648) : Int32.ofNat (b + 1) ≠ 0 := fun h => by
  have q := congrArg Int32.toInt h
  rw [own_toI hb] at q
  have e : (0 : Int32).toInt = 0 := by decide
  rw [e] at q; omega


theorem own_min_of {a b : Nat} (ha : a < 4000) (hb : b < 4000) : own_min (Int32.ofNat a) (Int32.ofNat b) = Int32.ofNat (min a b) := by
  unfold own_min
  split
  · rename_i h; have := own_ltI h (by omega) (by omega); rw [Nat.min_eq_right (by omega)]
  · rename_i h; have := own_nltI h (by omega) (by omega); rw [Nat.min_eq_left (by omega)]
theorem own_max_of {a b : Nat} (ha : a < 4000) (hb : b < 4000) : own_max (Int32.ofNat a) (Int32.ofNat b) = Int32.ofNat (max a b) := by
  unfold own_max
  split
  · rename_i h; have := own_ltI h (by omega) (by omega); rw [Nat.max_eq_right (by omega)]
  · rename_i h; have := own_nltI h (by omega) (by omega); rw [Nat.max_eq_left (by omega)]


theorem own_i2c {c : Int32} (h : ¬ c < 0 ∧ ¬ (255 : Int32) < c) : c.toUInt32.toUInt16.toUInt32.toInt32 = c := by
  have e : c &&& (255 : Int32) = c := by
    rw [Int32.lt_iff_toInt_lt, Int32.lt_iff_toInt_lt] at h
    have e0 : (0 : Int32).toInt = 0 := by decide
    have e2 : (255 : Int32).toInt = 255 := by decide
    rw [e0, e2] at h
    have hn : c.toBitVec.toNat ≤ 255 := by
      have q : c.toInt = c.toBitVec.toInt := rfl
      rw [BitVec.toInt_eq_toNat_cond] at q
      have := c.toBitVec.isLt
      split at q <;> omega
    apply Int32.toBitVec_inj.mp
    show c.toBitVec &&& 255#32 = c.toBitVec
    apply BitVec.eq_of_toNat_eq
    rw [BitVec.toNat_and]
    show c.toBitVec.toNat &&& 255 = _
    rw [show (255 : Nat) = 2 ^ 8 - 1 from rfl, Nat.and_two_pow_sub_one_eq_mod]
    omega
  have := i2c_mask c
  rw [e] at this
  exact this
theorem own_nc {c : Int32} (h : ¬ c < 0 ∧ ¬ (255 : Int32) < c) : nar .char c = c := own_i2c h


def own_ck (w : Int64) (q i d : Int32) : Int32 := if (((q.toUInt32 >>> (((10 : Int32) + i) &&& 31).toUInt32).toInt32) &&& (1 : Int32)) = (0 : Int32) then w.toInt32 else if d < (0 : Int32) then w.toInt32 else d
theorem own_ckb {w : Int64} {q i d : Int32} (h : ¬ w.toInt32 < 0 ∧ ¬ (255 : Int32) < w.toInt32) (hd : ¬ (255 : Int32) < d) : ¬ own_ck w q i d < 0 ∧ ¬ (255 : Int32) < own_ck w q i d := by
  unfold own_ck
  split
  · exact h
  · split
    · exact h
    · exact ⟨by assumption, hd⟩
def own_cv (cs : List Int32) : List Value := cs.map Value.int
theorem own_cvget (cs : List Int32) {i : Nat} (h : i < cs.length) (h2 : cs.length ≤ 4000) : (own_cv cs).getD (Int32.ofNat i).toNatClampNeg (.int (0 : Int32)) = .int (cs.getD i 0) := by
  rw [own_clamp (by omega)]
  simp [own_cv, List.getD_eq_getElem?_getD, List.getElem?_map, List.getElem?_eq_getElem h]
def own_dq (q : Int32) : Int32 := if (q &&& (3 : Int32)) = (0 : Int32) then (-1 : Int32) else (((q.toUInt32 >>> ((2 : Int32) &&& 31).toUInt32).toInt32) &&& (255 : Int32))
theorem own_dqb (q : Int32) : ¬ (255 : Int32) < own_dq q := by
  unfold own_dq
  split
  · decide
  · exact (own_c255 _).2
theorem own_l255 (x : Int64) : ¬ (x &&& (255 : Int64)).toInt32 < 0 ∧ ¬ (255 : Int32) < (x &&& (255 : Int64)).toInt32 := by
  have e : (x &&& (255 : Int64)).toInt32 = x.toInt32 &&& (255 : Int32) := by rw [Int64.toInt32_and]; rfl
  rw [e]
  exact own_c255 _
theorem own_i255 (x : Int32) : ¬ ((x &&& (255 : Int32)).toInt64).toInt32 < 0 ∧ ¬ (255 : Int32) < ((x &&& (255 : Int32)).toInt64).toInt32 := by
  rw [Int32.toInt32_toInt64]
  exact own_c255 _
theorem own_and31 (x : Int32) : ∃ n : Nat, n < 2147483648 ∧ (x &&& (2147483647 : Int32)) = Int32.ofNat n := by
  refine ⟨(x &&& 2147483647).toBitVec.toNat, ?_, ?_⟩
  · show ((x.toBitVec &&& 2147483647#32)).toNat < _
    rw [BitVec.toNat_and]
    exact Nat.lt_of_le_of_lt Nat.and_le_right (by decide)
  · apply Int32.toBitVec_inj.mp
    show (x &&& 2147483647).toBitVec = _
    rw [Int32.toBitVec_ofNat']
    exact BitVec.eq_of_toNat_eq ((BitVec.toNat_ofNat _ _).trans (Nat.mod_eq_of_lt (BitVec.isLt _))).symm
theorem own_sh8 (x : Int32) : ∃ n : Nat, n < 2147483648 ∧ ((x.toUInt32 >>> ((8 : Int32) &&& 31).toUInt32).toInt32) = Int32.ofNat n := by
  refine ⟨(x.toUInt32 >>> ((8 : Int32) &&& 31).toUInt32).toNat, ?_, ?_⟩
  · rw [UInt32.toNat_shiftRight]
    have := x.toUInt32.toNat_lt
    have e : (((8 : Int32) &&& 31).toUInt32.toNat % 32) = 8 := by decide
    rw [e, Nat.shiftRight_eq_div_pow]
    omega
  · apply Int32.toBitVec_inj.mp
    rw [Int32.toBitVec_ofNat']
    show (x.toUInt32 >>> ((8 : Int32) &&& 31).toUInt32).toBitVec = BitVec.ofNat 32 (x.toUInt32 >>> ((8 : Int32) &&& 31).toUInt32).toBitVec.toNat
    exact BitVec.eq_of_toNat_eq ((BitVec.toNat_ofNat _ _).trans (Nat.mod_eq_of_lt (BitVec.isLt _))).symm
theorem own_elev {f : Nat} (h : f ≤ 10) : (11 : Int32) - Int32.ofNat f = Int32.ofNat ((10 - f) + 1) := by
  apply Int32.toInt_inj.mp
  rw [own_toI (by omega), Int32.toInt_sub, own_toI (by omega), show (11 : Int32).toInt = 11 by decide, Int.bmod_def]
  split <;> omega
theorem own_addn {a b : Nat} : Int32.ofNat a + Int32.ofNat b = Int32.ofNat (a + b) := (Int32.ofNat_add a b).symm
theorem own_fin_nil (n q : Int32) : own_fin n q [] = q := by
  unfold own_fin
  split
  · rfl
  · rename_i h
    rw [if_pos]
    rw [Int32.lt_iff_toInt_lt] at h ⊢
    have e1 : (1 : Int32).toInt = 1 := by decide
    have e0 : (Int32.ofNat ([] : List Nat).length).toInt = 0 := by decide
    omega
theorem own_m3 {cs : List Int32} {d k : Int32} {f t w : Nat} (hcs : ∀ c ∈ cs, ¬ c < 0 ∧ ¬ (255 : Int32) < c) (hft : f ≤ t) (ht : t ≤ cs.length) (hl : cs.length ≤ 4000) (hw : w < 2147483648) :
    Int32.ofNat ((own_pcs cs d t (t + 1 - f) f).take w).length = own_min (Int32.ofNat (own_A cs d f t cs.length).length + (1 : Int32)) (Int32.ofNat w) ∧ (¬ k < (1 : Int32) → ¬ Int32.ofNat ((own_pcs cs d t (t + 1 - f) f).take w).length < k → own_fin k (Int32.ofNat t) ((own_pcs cs d t (t + 1 - f) f).take w) = own_pick (own_A cs d f t cs.length) k (Int32.ofNat t)) := by
  have hA := own_pcs_dls (d := d) hcs (t := t) ht (t + 1 - f) f hft (by omega)
  have ea := own_A_all (cs := cs) (d := d) (f := f) (t := t) (i := cs.length) ht
  have l := own_A_len cs d f t cs.length
  rw [hA, ← ea]
  generalize own_A cs d f t cs.length = A at *
  have hlen : ((A ++ [t]).take w).length = min w (A.length + 1) := by rw [List.length_take, List.length_append]; rfl
  constructor
  · rw [hlen, own_inc]
    unfold own_min
    split
    · rename_i q; have := own_ltI q (by omega) (by omega); rw [Nat.min_eq_left (by omega)]
    · rename_i q; have := own_nltI q (by omega) (by omega); rw [Nat.min_eq_right (by omega)]
  · intro h1 h2
    unfold own_fin
    rw [if_neg h1, if_neg h2]
    rw [hlen, Int32.lt_iff_toInt_lt, own_toI (by omega)] at h2
    rw [Int32.lt_iff_toInt_lt] at h1
    have e1 : (1 : Int32).toInt = 1 := by decide
    rw [e1] at h1
    have hi : k.toInt.toNat - 1 < min w (A.length + 1) := by omega
    unfold own_pick
    have g : ((A ++ [t]).take w).getD (k.toInt.toNat - 1) 0 = (A ++ [t]).getD (k.toInt.toNat - 1) 0 := by
      simp only [List.getD_eq_getElem?_getD]
      rw [List.getElem?_take_of_lt (by omega)]
    rw [g]
    by_cases q : k.toInt ≤ (A.length : Int)
    · rw [if_pos (by omega)]
      congr 1
      simp only [List.getD_eq_getElem?_getD]
      rw [List.getElem?_append_left (by omega)]
    · rw [if_neg (by omega), show k.toInt.toNat - 1 = A.length by omega]
      simp [List.getD_eq_getElem?_getD]


theorem own_r1 {r : Int32} (h : (0 : Int32) < r) : ¬ r < (1 : Int32) := by
  intro q
  rw [Int32.lt_iff_toInt_lt] at h q
  have e1 : (1 : Int32).toInt = 1 := by decide
  have e0 : (0 : Int32).toInt = 0 := by decide
  omega
theorem own_r0 {r : Int32} (h : ¬ (0 : Int32) < r) : r < (1 : Int32) := by
  rw [Int32.lt_iff_toInt_lt] at h ⊢
  have e1 : (1 : Int32).toInt = 1 := by decide
  have e0 : (0 : Int32).toInt = 0 := by decide
  omega
theorem own_wmax {r : Int32} {w : Nat} (h : 8 ≤ w ∧ w < 2147483648 ∧ (w : Int) = max r.toInt 8) : own_max r (8 : Int32) = Int32.ofNat w := by
  have e8 : (8 : Int32).toInt = 8 := by decide
  unfold own_max
  split
  · rename_i q
    rw [Int32.lt_iff_toInt_lt, e8] at q
    apply Int32.toInt_inj.mp
    rw [own_toI (by omega), e8]
    omega
  · rename_i q
    rw [Int32.lt_iff_toInt_lt, e8] at q
    apply Int32.toInt_inj.mp
    rw [own_toI (by omega)]
    omega


theorem own_k1 {r : Int32} (h : ¬ r < (1 : Int32)) : (0 : Int32) < r := by
  rw [Int32.lt_iff_toInt_lt] at h ⊢
  have e1 : (1 : Int32).toInt = 1 := by decide
  have e0 : (0 : Int32).toInt = 0 := by decide
  omega


theorem own_len0 {s : State} {args : Array Value} {t : Jvm.Term} {a : Addr} {cl : Cell} {ty : FieldType} (ev : t.eval args s none [] s = some (.ref a)) (A : Arr s s.heap a cl ty) (h : (Jvm.Cond.eq (Jvm.Term.length t) (Jvm.Term.int (0 : Int32))).value args s none s [] = some true) : cl.slots.size < 2 ^ 31 ∧ cl.slots.size.toInt32 = 0 := by
  have ha : s.arrayAt? a = some cl := Arr.fin (Vm.Alike.refl _) A
  obtain ⟨x, y, h1, h2, -, -⟩ := cmp_v (Or.inl h)
  by_cases q : cl.slots.size < 2 ^ 31
  · refine ⟨q, ?_⟩
    have h3 := len_f ev ha q (first := s) (o := none)
    have h4 := Cond.eq_ints h3 (Term.int_eval (0 : Int32)) (args := args) (first := s) (o := none) (idx := [])
    rw [h] at h4
    simpa using h4
  · exfalso
    simp [Term.eval, ev, ha, q] at h1

theorem ef_max (m : MethodId) (x0 : Int32) (x1 : Int32) : entryFrame m #[(.int x0), (.int x1)] 2 = mkF m 0 #[.val (.int x0), .val (.int x1)] [] := by first | (simp [entryFrame, mkF, argsToLocals, Value.category]; done) | rfl
def Q_max (Z : State) (p : Int32) (q : Int32) (h0 : Heap) (n0 : Nat) (vV : Option Value) (h : Heap) (LL : List Loc) : Prop := vV = some (.int (own_max p q)) ∧ LL = [] ∧ h = h0
set_option maxRecDepth 65536 in
set_option maxHeartbeats 40000000 in
theorem rm_max (l : Launch) (Z : State) (a0 : Array Value) (hw : ∀ d ∈ tables_1, d.before a0 Z = true) (ws : List Jvm.Cond) (p : Int32) (q : Int32) (h0 : Heap) (n0 : Nat) (O0 : Old Z n0 h0) :
    MetFree l (⟨"java/lang/Math", "max", "(II)I"⟩ : MethodName) (head1 (Jvm.Cond.code (⟨"java/lang/Math", "max", "(II)I"⟩ : MethodName) jdk_29_method_65_code 2 (some .int) :: ws) ({ frames := 0, cells := 0, slots := 0, locals := 0 } : Room)) (fun aa_ U => aa_ = #[(.int p), (.int q)] ∧ Z.Warmed39 U.vm ∧ U.heap = h0) (fun _ _ _ _ _ => True) (fun _ U o U' => ∃ vV LL, o = .returned vV ∧ Q_max Z p q h0 n0 vV U'.heap LL ∧ FrameEnd U o U' LL ({ frames := 0, cells := 0, slots := 0, locals := 0 } : Room).cells ({ frames := 0, cells := 0, slots := 0, locals := 0 } : Room).slots) := by
  refine MetFree.of_bodySF (Jvm.Free.JP.mathPlain rfl (by decide +kernel)) hisR ?_
  intro pP eE sS mM args below meth cC s₁ Bd hml0 hP hK
  obtain ⟨rfl, hZ, hh⟩ := hP
  have hx := Bd.exec
  have hby := Bd.bytes
  have hml : cC.maxLocals = 2 := hml0
  have hown : sS.vm.findClass "java/lang/Math" = some mM.cls := findClass_of_methodNamed Bd.named
  have hnm := (name_of_methodNamed Bd.named Bd.method).1
  have X0 : Stand pP l eE ({ frames := 0, cells := 0, slots := 0, locals := 0 } : Room) sS mM #[(.int p), (.int q)] below meth cC s₁ [] 0 0 := Stand.of_body Bd
  have e0 : s₁.heap = h0 := by rw [← hh, Bd.state]; rfl
  have N0 := Fr.nil n0
  have pre0 : ∀ tg, Steps pP.tables eE below (s₁.setTop (mkF mM 0 #[.val (.int p), .val (.int q)] [])) tg → Steps pP.tables eE below (s₁.setTop (entryFrame mM #[(.int p), (.int q)] 2)) tg := fun tg kg => castTop (ef_max mM p q) kg
  have pre2 : ∀ tg, Steps pP.tables eE below (s₁.setTop (mkF mM 2 #[.val (.int p), .val (.int q)] [(.int q), (.int p)])) tg → Steps pP.tables eE below (s₁.setTop (entryFrame mM #[(.int p), (.int q)] 2)) tg := fun tg kg => pre0 tg (by
    refine XS.iloadN X0.here hx rfl (hb hby d_jdk_29_method_65_0) rfl ?_
    show Steps pP.tables eE below (s₁.setTop (mkF mM 1 #[.val (.int p), .val (.int q)] [(.int p)])) _
    refine XS.iloadN X0.here hx rfl (hb hby d_jdk_29_method_65_1) rfl ?_
    exact kg)
  by_cases hc1 : p < q
  · obtain ⟨fs, hr, hrun, hended, hW, hsame⟩ := X0.leave (v := some (.int q)) (fun h => by rw [Bd.returns] at h; cases h)
    refine ⟨_, _, pre2 _ ?_, hrun, hended, _, _, rfl, ?_, ⟨_, rfl⟩, hW, hsame.mono (by decide) (by decide)⟩
    · refine XS.icmpYes X0.here hx rfl (pc0 := 2) (pc' := 9) rfl (hb hby d_jdk_29_method_65_2) rfl (tlt hc1).1 (by decide) (by decide) ?_
      show Steps pP.tables eE below (s₁.setTop (mkF mM 9 #[.val (.int p), .val (.int q)] [])) _
      refine XS.iloadN X0.here hx rfl (hb hby d_jdk_29_method_65_9) rfl ?_
      show Steps pP.tables eE below (s₁.setTop (mkF mM 10 #[.val (.int p), .val (.int q)] [(.int q)])) _
      exact retI X0 hx Bd.returns (hb hby d_jdk_29_method_65_10) hr
    · show Q_max Z p q h0 n0 _ s₁.heap _
      rw [e0]
      exact ⟨(by rw [own_max, if_pos hc1]), rfl, rfl⟩
  · obtain ⟨fs, hr, hrun, hended, hW, hsame⟩ := X0.leave (v := some (.int p)) (fun h => by rw [Bd.returns] at h; cases h)
    refine ⟨_, _, pre2 _ ?_, hrun, hended, _, _, rfl, ?_, ⟨_, rfl⟩, hW, hsame.mono (by decide) (by decide)⟩
    · refine XS.icmpNo X0.here hx rfl (hb hby d_jdk_29_method_65_2) rfl (flt hc1).1 ?_
      show Steps pP.tables eE below (s₁.setTop (mkF mM 5 #[.val (.int p), .val (.int q)] [])) _
      refine XS.iloadN X0.here hx rfl (hb hby d_jdk_29_method_65_5) rfl ?_
      show Steps pP.tables eE below (s₁.setTop (mkF mM 6 #[.val (.int p), .val (.int q)] [(.int p)])) _
      refine XS.goto X0.here hx rfl (pc0 := 6) (pc' := 10) rfl (hb hby d_jdk_29_method_65_6) (by decide) (by decide) ?_
      show Steps pP.tables eE below (s₁.setTop (mkF mM 10 #[.val (.int p), .val (.int q)] [(.int p)])) _
      exact retI X0 hx Bd.returns (hb hby d_jdk_29_method_65_10) hr
    · show Q_max Z p q h0 n0 _ s₁.heap _
      rw [e0]
      exact ⟨(by rw [own_max, if_neg hc1]), rfl, rfl⟩
theorem ef_min (m : MethodId) (x0 : Int32) (x1 : Int32) : entryFrame m #[(.int x0), (.int x1)] 2 = mkF m 0 #[.val (.int x0), .val (.int x1)] [] := by first | (simp [entryFrame, mkF, argsToLocals, Value.category]; done) | rfl
def Q_min (Z : State) (p : Int32) (q : Int32) (h0 : Heap) (n0 : Nat) (vV : Option Value) (h : Heap) (LL : List Loc) : Prop := vV = some (.int (own_min p q)) ∧ LL = [] ∧ h = h0
set_option maxRecDepth 65536 in
set_option maxHeartbeats 40000000 in
theorem rm_min (l : Launch) (Z : State) (a0 : Array Value) (hw : ∀ d ∈ tables_1, d.before a0 Z = true) (ws : List Jvm.Cond) (p : Int32) (q : Int32) (h0 : Heap) (n0 : Nat) (O0 : Old Z n0 h0) :
    MetFree l (⟨"java/lang/Math", "min", "(II)I"⟩ : MethodName) (head1 (Jvm.Cond.code (⟨"java/lang/Math", "min", "(II)I"⟩ : MethodName) jdk_29_method_69_code 2 (some .int) :: ws) ({ frames := 0, cells := 0, slots := 0, locals := 0 } : Room)) (fun aa_ U => aa_ = #[(.int p), (.int q)] ∧ Z.Warmed39 U.vm ∧ U.heap = h0) (fun _ _ _ _ _ => True) (fun _ U o U' => ∃ vV LL, o = .returned vV ∧ Q_min Z p q h0 n0 vV U'.heap LL ∧ FrameEnd U o U' LL ({ frames := 0, cells := 0, slots := 0, locals := 0 } : Room).cells ({ frames := 0, cells := 0, slots := 0, locals := 0 } : Room).slots) := by
  refine MetFree.of_bodySF (Jvm.Free.JP.mathPlain rfl (by decide +kernel)) hisR ?_
  intro pP eE sS mM args below meth cC s₁ Bd hml0 hP hK
  obtain ⟨rfl, hZ, hh⟩ := hP
  have hx := Bd.exec
  have hby := Bd.bytes
  have hml : cC.maxLocals = 2 := hml0
  have hown : sS.vm.findClass "java/lang/Math" = some mM.cls := findClass_of_methodNamed Bd.named
  have hnm := (name_of_methodNamed Bd.named Bd.method).1
  have X0 : Stand pP l eE ({ frames := 0, cells := 0, slots := 0, locals := 0 } : Room) sS mM #[(.int p), (.int q)] below meth cC s₁ [] 0 0 := Stand.of_body Bd
  have e0 : s₁.heap = h0 := by rw [← hh, Bd.state]; rfl
  have N0 := Fr.nil n0
  have pre0 : ∀ tg, Steps pP.tables eE below (s₁.setTop (mkF mM 0 #[.val (.int p), .val (.int q)] [])) tg → Steps pP.tables eE below (s₁.setTop (entryFrame mM #[(.int p), (.int q)] 2)) tg := fun tg kg => castTop (ef_min mM p q) kg
  have pre2 : ∀ tg, Steps pP.tables eE below (s₁.setTop (mkF mM 2 #[.val (.int p), .val (.int q)] [(.int q), (.int p)])) tg → Steps pP.tables eE below (s₁.setTop (entryFrame mM #[(.int p), (.int q)] 2)) tg := fun tg kg => pre0 tg (by
    refine XS.iloadN X0.here hx rfl (hb hby d_jdk_29_method_69_0) rfl ?_
    show Steps pP.tables eE below (s₁.setTop (mkF mM 1 #[.val (.int p), .val (.int q)] [(.int p)])) _
    refine XS.iloadN X0.here hx rfl (hb hby d_jdk_29_method_69_1) rfl ?_
    exact kg)
  by_cases hc1 : q < p
  · obtain ⟨fs, hr, hrun, hended, hW, hsame⟩ := X0.leave (v := some (.int q)) (fun h => by rw [Bd.returns] at h; cases h)
    refine ⟨_, _, pre2 _ ?_, hrun, hended, _, _, rfl, ?_, ⟨_, rfl⟩, hW, hsame.mono (by decide) (by decide)⟩
    · refine XS.icmpYes X0.here hx rfl (pc0 := 2) (pc' := 9) rfl (hb hby d_jdk_29_method_69_2) rfl (tlt hc1).2.2.1 (by decide) (by decide) ?_
      show Steps pP.tables eE below (s₁.setTop (mkF mM 9 #[.val (.int p), .val (.int q)] [])) _
      refine XS.iloadN X0.here hx rfl (hb hby d_jdk_29_method_69_9) rfl ?_
      show Steps pP.tables eE below (s₁.setTop (mkF mM 10 #[.val (.int p), .val (.int q)] [(.int q)])) _
      exact retI X0 hx Bd.returns (hb hby d_jdk_29_method_69_10) hr
    · show Q_min Z p q h0 n0 _ s₁.heap _
      rw [e0]
      exact ⟨(by rw [own_min, if_pos hc1]), rfl, rfl⟩
  · obtain ⟨fs, hr, hrun, hended, hW, hsame⟩ := X0.leave (v := some (.int p)) (fun h => by rw [Bd.returns] at h; cases h)
    refine ⟨_, _, pre2 _ ?_, hrun, hended, _, _, rfl, ?_, ⟨_, rfl⟩, hW, hsame.mono (by decide) (by decide)⟩
    · refine XS.icmpNo X0.here hx rfl (hb hby d_jdk_29_method_69_2) rfl (flt hc1).2.2.1 ?_
      show Steps pP.tables eE below (s₁.setTop (mkF mM 5 #[.val (.int p), .val (.int q)] [])) _
      refine XS.iloadN X0.here hx rfl (hb hby d_jdk_29_method_69_5) rfl ?_
      show Steps pP.tables eE below (s₁.setTop (mkF mM 6 #[.val (.int p), .val (.int q)] [(.int p)])) _
      refine XS.goto X0.here hx rfl (pc0 := 6) (pc' := 10) rfl (hb hby d_jdk_29_method_69_6) (by decide) (by decide) ?_
      show Steps pP.tables eE below (s₁.setTop (mkF mM 10 #[.val (.int p), .val (.int q)] [(.int p)])) _
      exact retI X0 hx Bd.returns (hb hby d_jdk_29_method_69_10) hr
    · show Q_min Z p q h0 n0 _ s₁.heap _
      rw [e0]
      exact ⟨(by rw [own_min, if_neg hc1]), rfl, rfl⟩
theorem ef_enc (m : MethodId) (x0 : Int32) : entryFrame m #[(.int x0)] 1 = mkF m 0 #[.val (.int x0)] [] := by first | (simp [entryFrame, mkF, argsToLocals, Value.category]; done) | rfl
def Q_enc (Z : State) (p : Int32) (h0 : Heap) (n0 : Nat) (vV : Option Value) (h : Heap) (LL : List Loc) : Prop := vV = some (.int (own_enc p)) ∧ LL = [] ∧ h = h0
set_option maxRecDepth 65536 in
set_option maxHeartbeats 40000000 in
theorem rm_enc (l : Launch) (Z : State) (a0 : Array Value) (hw : ∀ d ∈ tables_1, d.before a0 Z = true) (ws : List Jvm.Cond) (p : Int32) (h0 : Heap) (n0 : Nat) (O0 : Old Z n0 h0) :
    MetFree l (⟨"java/lang/StringLatin1", "canEncode", "(I)Z"⟩ : MethodName) (head1 (Jvm.Cond.code (⟨"java/lang/StringLatin1", "canEncode", "(I)Z"⟩ : MethodName) jdk_43_method_4_code 1 (some .boolean) :: ws) ({ frames := 0, cells := 0, slots := 0, locals := 0 } : Room)) (fun aa_ U => aa_ = #[(.int p)] ∧ Z.Warmed39 U.vm ∧ U.heap = h0) (fun _ _ _ _ _ => True) (fun _ U o U' => ∃ vV LL, o = .returned vV ∧ Q_enc Z p h0 n0 vV U'.heap LL ∧ FrameEnd U o U' LL ({ frames := 0, cells := 0, slots := 0, locals := 0 } : Room).cells ({ frames := 0, cells := 0, slots := 0, locals := 0 } : Room).slots) := by
  refine MetFree.of_bodySF (plainFor_of_name pn_0) hisR ?_
  intro pP eE sS mM args below meth cC s₁ Bd hml0 hP hK
  obtain ⟨rfl, hZ, hh⟩ := hP
  have hx := Bd.exec
  have hby := Bd.bytes
  have hml : cC.maxLocals = 1 := hml0
  have hown : sS.vm.findClass "java/lang/StringLatin1" = some mM.cls := findClass_of_methodNamed Bd.named
  have hnm := (name_of_methodNamed Bd.named Bd.method).1
  have X0 : Stand pP l eE ({ frames := 0, cells := 0, slots := 0, locals := 0 } : Room) sS mM #[(.int p)] below meth cC s₁ [] 0 0 := Stand.of_body Bd
  have e0 : s₁.heap = h0 := by rw [← hh, Bd.state]; rfl
  have N0 := Fr.nil n0
  have pre0 : ∀ tg, Steps pP.tables eE below (s₁.setTop (mkF mM 0 #[.val (.int p)] [])) tg → Steps pP.tables eE below (s₁.setTop (entryFrame mM #[(.int p)] 1)) tg := fun tg kg => castTop (ef_enc mM p) kg
  have pre2 : ∀ tg, Steps pP.tables eE below (s₁.setTop (mkF mM 1 #[.val (.int p)] [(.int p)])) tg → Steps pP.tables eE below (s₁.setTop (entryFrame mM #[(.int p)] 1)) tg := fun tg kg => pre0 tg (by
    refine XS.iloadN X0.here hx rfl (hb hby d_jdk_43_method_4_0) rfl ?_
    exact kg)
  by_cases hc1 : p < (0 : Int32)
  · obtain ⟨fs, hr, hrun, hended, hW, hsame⟩ := X0.leave (v := some (.int (0 : Int32))) (fun h => by rw [Bd.returns] at h; cases h)
    refine ⟨_, _, pre2 _ ?_, hrun, hended, _, _, rfl, ?_, ⟨_, rfl⟩, hW, hsame.mono (by decide) (by decide)⟩
    · refine XS.ifYes X0.here hx rfl (pc0 := 1) (pc' := 15) rfl (hb hby d_jdk_43_method_4_1) rfl ((if0 _ _).trans (tlt hc1).1) (by decide) (by decide) ?_
      show Steps pP.tables eE below (s₁.setTop (mkF mM 15 #[.val (.int p)] [])) _
      refine XS.iconst X0.here hx rfl (hb hby d_jdk_43_method_4_15) ?_
      show Steps pP.tables eE below (s₁.setTop (mkF mM 16 #[.val (.int p)] [(.int (0 : Int32))])) _
      exact retN X0 hx (t := .boolean) Bd.returns (by simp) (hb hby d_jdk_43_method_4_16) hr
    · show Q_enc Z p h0 n0 _ s₁.heap _
      rw [e0]
      exact ⟨(by rw [own_enc, if_pos hc1]), rfl, rfl⟩
  · have pre5 : ∀ tg, Steps pP.tables eE below (s₁.setTop (mkF mM 8 #[.val (.int p)] [(.int (255 : Int32)), (.int p)])) tg → Steps pP.tables eE below (s₁.setTop (entryFrame mM #[(.int p)] 1)) tg := fun tg kg => pre2 tg (by
      refine XS.ifNo X0.here hx rfl (hb hby d_jdk_43_method_4_1) rfl ((if0 _ _).trans (flt hc1).1) ?_
      show Steps pP.tables eE below (s₁.setTop (mkF mM 4 #[.val (.int p)] [])) _
      refine XS.iloadN X0.here hx rfl (hb hby d_jdk_43_method_4_4) rfl ?_
      show Steps pP.tables eE below (s₁.setTop (mkF mM 5 #[.val (.int p)] [(.int p)])) _
      refine XS.sipush X0.here hx rfl (hb hby d_jdk_43_method_4_5) ?_
      exact kg)
    by_cases hc4 : (255 : Int32) < p
    · obtain ⟨fs, hr, hrun, hended, hW, hsame⟩ := X0.leave (v := some (.int (0 : Int32))) (fun h => by rw [Bd.returns] at h; cases h)
      refine ⟨_, _, pre5 _ ?_, hrun, hended, _, _, rfl, ?_, ⟨_, rfl⟩, hW, hsame.mono (by decide) (by decide)⟩
      · refine XS.icmpYes X0.here hx rfl (pc0 := 8) (pc' := 15) rfl (hb hby d_jdk_43_method_4_8) rfl (tlt hc4).2.2.1 (by decide) (by decide) ?_
        show Steps pP.tables eE below (s₁.setTop (mkF mM 15 #[.val (.int p)] [])) _
        refine XS.iconst X0.here hx rfl (hb hby d_jdk_43_method_4_15) ?_
        show Steps pP.tables eE below (s₁.setTop (mkF mM 16 #[.val (.int p)] [(.int (0 : Int32))])) _
        exact retN X0 hx (t := .boolean) Bd.returns (by simp) (hb hby d_jdk_43_method_4_16) hr
      · show Q_enc Z p h0 n0 _ s₁.heap _
        rw [e0]
        exact ⟨(by rw [own_enc, if_neg hc1, if_pos hc4]), rfl, rfl⟩
    · obtain ⟨fs, hr, hrun, hended, hW, hsame⟩ := X0.leave (v := some (.int (1 : Int32))) (fun h => by rw [Bd.returns] at h; cases h)
      refine ⟨_, _, pre5 _ ?_, hrun, hended, _, _, rfl, ?_, ⟨_, rfl⟩, hW, hsame.mono (by decide) (by decide)⟩
      · refine XS.icmpNo X0.here hx rfl (hb hby d_jdk_43_method_4_8) rfl (flt hc4).2.2.1 ?_
        show Steps pP.tables eE below (s₁.setTop (mkF mM 11 #[.val (.int p)] [])) _
        refine XS.iconst X0.here hx rfl (hb hby d_jdk_43_method_4_11) ?_
        show Steps pP.tables eE below (s₁.setTop (mkF mM 12 #[.val (.int p)] [(.int (1 : Int32))])) _
        refine XS.goto X0.here hx rfl (pc0 := 12) (pc' := 16) rfl (hb hby d_jdk_43_method_4_12) (by decide) (by decide) ?_
        show Steps pP.tables eE below (s₁.setTop (mkF mM 16 #[.val (.int p)] [(.int (1 : Int32))])) _
        exact retN X0 hx (t := .boolean) Bd.returns (by simp) (hb hby d_jdk_43_method_4_16) hr
      · show Q_enc Z p h0 n0 _ s₁.heap _
        rw [e0]
        exact ⟨(by rw [own_enc, if_neg hc1, if_neg hc4]), rfl, rfl⟩
theorem ef_lat (m : MethodId) (x0 : Addr) : entryFrame m #[(.ref x0)] 1 = mkF m 0 #[.val (.ref x0)] [] := by first | (simp [entryFrame, mkF, argsToLocals, Value.category]; done) | rfl
def Q_lat (Z : State) (x : Addr) (zc : Int32) (h0 : Heap) (n0 : Nat) (vV : Option Value) (h : Heap) (LL : List Loc) : Prop := vV = some (.int (1 : Int32)) ∧ LL = [] ∧ h = h0
set_option maxRecDepth 65536 in
set_option maxHeartbeats 40000000 in
theorem rm_lat (l : Launch) (Z : State) (a0 : Array Value) (hw : ∀ d ∈ tables_1, d.before a0 Z = true) (ws : List Jvm.Cond) (x : Addr) (zc : Int32) (h0 : Heap) (n0 : Nat) (O0 : Old Z n0 h0) (F_x_coder : Fld Z h0 x "java/lang/String" "coder" "B" (.int (0 : Int32))) (S_COMPACT_STRINGS : Sta Z Z.heap "java/lang/String" "COMPACT_STRINGS" "Z" (.int zc)) (hp2 : (¬ (zc = (0 : Int32)))) :
    MetFree l (⟨"java/lang/String", "isLatin1", "()Z"⟩ : MethodName) (head1 (Jvm.Cond.code (⟨"java/lang/String", "isLatin1", "()Z"⟩ : MethodName) jdk_42_method_154_code 1 (some .boolean) :: ws) ({ frames := 0, cells := 0, slots := 0, locals := 0 } : Room)) (fun aa_ U => aa_ = #[(.ref x)] ∧ Z.Warmed39 U.vm ∧ U.heap = h0) (fun _ _ _ _ _ => True) (fun _ U o U' => ∃ vV LL, o = .returned vV ∧ Q_lat Z x zc h0 n0 vV U'.heap LL ∧ FrameEnd U o U' LL ({ frames := 0, cells := 0, slots := 0, locals := 0 } : Room).cells ({ frames := 0, cells := 0, slots := 0, locals := 0 } : Room).slots) := by
  refine MetFree.of_bodySF (plainFor_of_name pn_1) hisR ?_
  intro pP eE sS mM args below meth cC s₁ Bd hml0 hP hK
  obtain ⟨rfl, hZ, hh⟩ := hP
  have hx := Bd.exec
  have hby := Bd.bytes
  have hml : cC.maxLocals = 1 := hml0
  have hown : sS.vm.findClass "java/lang/String" = some mM.cls := findClass_of_methodNamed Bd.named
  have hnm := (name_of_methodNamed Bd.named Bd.method).1
  have X0 : Stand pP l eE ({ frames := 0, cells := 0, slots := 0, locals := 0 } : Room) sS mM #[(.ref x)] below meth cC s₁ [] 0 0 := Stand.of_body Bd
  have e0 : s₁.heap = h0 := by rw [← hh, Bd.state]; rfl
  have N0 := Fr.nil n0
  have pre0 : ∀ tg, Steps pP.tables eE below (s₁.setTop (mkF mM 0 #[.val (.ref x)] [])) tg → Steps pP.tables eE below (s₁.setTop (entryFrame mM #[(.ref x)] 1)) tg := fun tg kg => castTop (ef_lat mM x) kg
  obtain ⟨T1, X1, e1, st1⟩ := getS2 X0 hx hZ hown (host := "") (Or.inl (w_19 hw)) Via.refl e0 (Sta.ext (O0).2 S_COMPACT_STRINGS) (g := (mkF mM 0 #[.val (.ref x)] [])) rfl (hb hby d_jdk_42_method_154_0)
  obtain ⟨T2, X2, e2, st2⟩ := getF X1 hx hZ hown (host := "") (Or.inl (w_31 hw)) Via.refl e1 F_x_coder (g := (mkF mM 7 #[.val (.ref x)] [(.ref x)])) rfl rfl (hb hby d_jdk_42_method_154_7)
  obtain ⟨fs, hr, hrun, hended, hW, hsame⟩ := X2.leave (v := some (.int (1 : Int32))) (fun h => by rw [Bd.returns] at h; cases h)
  refine ⟨_, _, pre0 _ ?_, hrun, hended, _, _, rfl, ?_, ⟨_, rfl⟩, hW, hsame.mono (by decide) (by decide)⟩
  · refine st1 _ ?_
    show Steps pP.tables eE below (T1.setTop (mkF mM 3 #[.val (.ref x)] [(.int zc)])) _
    refine XS.ifNo X1.here hx rfl (hb hby d_jdk_42_method_154_3) rfl ((if0 _ _).trans (feq hp2).1) ?_
    show Steps pP.tables eE below (T1.setTop (mkF mM 6 #[.val (.ref x)] [])) _
    refine XS.aloadN X1.here hx rfl (hb hby d_jdk_42_method_154_6) rfl rfl ?_
    show Steps pP.tables eE below (T1.setTop (mkF mM 7 #[.val (.ref x)] [(.ref x)])) _
    refine st2 _ ?_
    show Steps pP.tables eE below (T2.setTop (mkF mM 10 #[.val (.ref x)] [(.int (0 : Int32))])) _
    refine XS.ifNo X2.here hx rfl (hb hby d_jdk_42_method_154_10) rfl ((if0 _ _).trans (teq (by decide : (0 : Int32) = (0 : Int32))).2) ?_
    show Steps pP.tables eE below (T2.setTop (mkF mM 13 #[.val (.ref x)] [])) _
    refine XS.iconst X2.here hx rfl (hb hby d_jdk_42_method_154_13) ?_
    show Steps pP.tables eE below (T2.setTop (mkF mM 14 #[.val (.ref x)] [(.int (1 : Int32))])) _
    refine XS.goto X2.here hx rfl (pc0 := 14) (pc' := 18) rfl (hb hby d_jdk_42_method_154_14) (by decide) (by decide) ?_
    show Steps pP.tables eE below (T2.setTop (mkF mM 18 #[.val (.ref x)] [(.int (1 : Int32))])) _
    exact retN X2 hx (t := .boolean) Bd.returns (by simp) (hb hby d_jdk_42_method_154_18) hr
  · show Q_lat Z x zc h0 n0 _ T2.heap _
    rw [e2]
    exact ⟨rfl, rfl, rfl⟩
set_option maxRecDepth 65536 in
set_option maxHeartbeats 40000000 in
theorem lp_ioc {pP : Program} {l : Launch} {eE : Env} {sS : State} {mM : MethodId} {args : Array Value} {below : List Frame} {meth : Method} {cC : Code} {locs : List Loc} {Z : State} {a0 : Array Value} (t : Addr) (kk : ClassId) (cs : List Int32) (d : Int32) (f : Nat) {h0 : Heap} {n0 : Nat} (hx : pP.tables.exec = Jvm.exec) (hZ : Z.Warmed39 sS.vm) (hw : ∀ d ∈ tables_1, d.before a0 Z = true) (hby : cC.code = jdk_43_method_23_code) (hml : cC.maxLocals = 6) (hown : sS.vm.findClass "java/lang/StringLatin1" = some mM.cls) (O0 : Old Z n0 h0) (V_t : Arv Z h0 t kk .byte (Int32.ofNat (cs).length) (own_b8 cs) (.int 0)) (hp1 : (cs.length ≤ 4000)) (hp2 : (∀ c ∈ cs, ¬ c < 0 ∧ ¬ (255 : Int32) < c)) (hp3 : (¬ d < 0 ∧ ¬ (255 : Int32) < d)) :
    ∀ (k : Nat) (i : Nat) {T0 : State} (X0 : Stand pP l eE ({ frames := 0, cells := 0, slots := 0, locals := 0 } : Room) sS mM args below meth cC T0 locs 0 0) (e0 : T0.heap = h0) (hik : i + k = cs.length), own_ToP pP l eE ({ frames := 0, cells := 0, slots := 0, locals := 0 } : Room) sS mM args below meth cC locs 0 0 h0 T0 (mkF mM 7 #[.val (.ref t), .val (.int d), .val (.int (Int32.ofNat f)), .val (.int (Int32.ofNat (cs).length)), .val (.int (d.toInt8.toInt32)), .val (.int (Int32.ofNat i))] []) (fun g' => (∃ Ls, g' = mkF mM 24 Ls [(.int (own_ixk cs d i k))]) ∨ (∃ Ls, g' = mkF mM 32 Ls [(.int (own_ixk cs d i k))])) := by
  intro k
  induction k with
  | zero =>
    intro i T0 X0 e0 hik
    refine ⟨T0, mkF mM 32 #[.val (.ref t), .val (.int d), .val (.int (Int32.ofNat f)), .val (.int (Int32.ofNat (cs).length)), .val (.int (d.toInt8.toInt32)), .val (.int (Int32.ofNat i))] [(.int (own_ixk cs d i 0))], Or.inr (⟨_, rfl⟩), X0, e0, fun tg kg => ?_⟩
    rw [show own_ixk cs d i 0 = (-1 : Int32) from rfl] at kg
    refine XS.iload X0.here hx rfl (hb hby d_jdk_43_method_23_7) rfl ?_
    show Steps pP.tables eE below (T0.setTop (mkF mM 9 #[.val (.ref t), .val (.int d), .val (.int (Int32.ofNat f)), .val (.int (Int32.ofNat (cs).length)), .val (.int (d.toInt8.toInt32)), .val (.int (Int32.ofNat i))] [(.int (Int32.ofNat i))])) _
    refine XS.iloadN X0.here hx rfl (hb hby d_jdk_43_method_23_9) rfl ?_
    show Steps pP.tables eE below (T0.setTop (mkF mM 10 #[.val (.ref t), .val (.int d), .val (.int (Int32.ofNat f)), .val (.int (Int32.ofNat (cs).length)), .val (.int (d.toInt8.toInt32)), .val (.int (Int32.ofNat i))] [(.int (Int32.ofNat (cs).length)), (.int (Int32.ofNat i))])) _
    refine XS.icmpYes X0.here hx rfl (pc0 := 10) (pc' := 31) rfl (hb hby d_jdk_43_method_23_10) rfl (flt (own_nlt (by omega) (by omega))).2.1 (by decide) (by decide) ?_
    show Steps pP.tables eE below (T0.setTop (mkF mM 31 #[.val (.ref t), .val (.int d), .val (.int (Int32.ofNat f)), .val (.int (Int32.ofNat (cs).length)), .val (.int (d.toInt8.toInt32)), .val (.int (Int32.ofNat i))] [])) _
    refine XS.iconst X0.here hx rfl (hb hby d_jdk_43_method_23_31) ?_
    exact kg
  | succ k ih =>
    intro i T0 X0 e0 hik
    obtain ⟨cl1, Ar1, -, S1, Nn1, Hh1, -⟩ := id V_t
    have hin1 : ¬ ((Int32.ofNat i) < 0 ∨ cl1.slots.size ≤ ((Int32.ofNat i)).toNatClampNeg) := inb_of S1 ⟨own_nneg _ (by omega), own_lt (by omega) (by omega)⟩
    have hat1 : cl1.slots[((Int32.ofNat i)).toNatClampNeg]? = some (.int ((cs.getD i 0).toInt8.toInt32)) := Hh1.at hin1 (own_b8_get cs (by omega) hp1)
    have pre3 : ∀ tg, Steps pP.tables eE below (T0.setTop (mkF mM 19 #[.val (.ref t), .val (.int d), .val (.int (Int32.ofNat f)), .val (.int (Int32.ofNat (cs).length)), .val (.int (d.toInt8.toInt32)), .val (.int (Int32.ofNat i))] [(.int (d.toInt8.toInt32)), (.int ((cs.getD i 0).toInt8.toInt32))])) tg → Steps pP.tables eE below (T0.setTop (mkF mM 7 #[.val (.ref t), .val (.int d), .val (.int (Int32.ofNat f)), .val (.int (Int32.ofNat (cs).length)), .val (.int (d.toInt8.toInt32)), .val (.int (Int32.ofNat i))] [])) tg := fun tg kg => (by
      refine XS.iload X0.here hx rfl (hb hby d_jdk_43_method_23_7) rfl ?_
      show Steps pP.tables eE below (T0.setTop (mkF mM 9 #[.val (.ref t), .val (.int d), .val (.int (Int32.ofNat f)), .val (.int (Int32.ofNat (cs).length)), .val (.int (d.toInt8.toInt32)), .val (.int (Int32.ofNat i))] [(.int (Int32.ofNat i))])) _
      refine XS.iloadN X0.here hx rfl (hb hby d_jdk_43_method_23_9) rfl ?_
      show Steps pP.tables eE below (T0.setTop (mkF mM 10 #[.val (.ref t), .val (.int d), .val (.int (Int32.ofNat f)), .val (.int (Int32.ofNat (cs).length)), .val (.int (d.toInt8.toInt32)), .val (.int (Int32.ofNat i))] [(.int (Int32.ofNat (cs).length)), (.int (Int32.ofNat i))])) _
      refine XS.icmpNo X0.here hx rfl (hb hby d_jdk_43_method_23_10) rfl (tlt (own_lt (by omega) (by omega))).2.1 ?_
      show Steps pP.tables eE below (T0.setTop (mkF mM 13 #[.val (.ref t), .val (.int d), .val (.int (Int32.ofNat f)), .val (.int (Int32.ofNat (cs).length)), .val (.int (d.toInt8.toInt32)), .val (.int (Int32.ofNat i))] [])) _
      refine XS.aloadN X0.here hx rfl (hb hby d_jdk_43_method_23_13) rfl rfl ?_
      show Steps pP.tables eE below (T0.setTop (mkF mM 14 #[.val (.ref t), .val (.int d), .val (.int (Int32.ofNat f)), .val (.int (Int32.ofNat (cs).length)), .val (.int (d.toInt8.toInt32)), .val (.int (Int32.ofNat i))] [(.ref t)])) _
      refine XS.iload X0.here hx rfl (hb hby d_jdk_43_method_23_14) rfl ?_
      show Steps pP.tables eE below (T0.setTop (mkF mM 16 #[.val (.ref t), .val (.int d), .val (.int (Int32.ofNat f)), .val (.int (Int32.ofNat (cs).length)), .val (.int (d.toInt8.toInt32)), .val (.int (Int32.ofNat i))] [(.int (Int32.ofNat i)), (.ref t)])) _
      refine X0.baloadBytes hx (j := (Int32.ofNat i)) (v := (.int ((cs.getD i 0).toInt8.toInt32))) (by rw [e0]; exact Ar1.1) (State.isArrayOf_alike hZ.alike Ar1.2.1) Ar1.2.2 hin1 hat1 (g := (mkF mM 16 #[.val (.ref t), .val (.int d), .val (.int (Int32.ofNat f)), .val (.int (Int32.ofNat (cs).length)), .val (.int (d.toInt8.toInt32)), .val (.int (Int32.ofNat i))] [(.int (Int32.ofNat i)), (.ref t)])) rfl rfl (hb hby d_jdk_43_method_23_16) _ ?_
      show Steps pP.tables eE below (T0.setTop (mkF mM 17 #[.val (.ref t), .val (.int d), .val (.int (Int32.ofNat f)), .val (.int (Int32.ofNat (cs).length)), .val (.int (d.toInt8.toInt32)), .val (.int (Int32.ofNat i))] [(.int ((cs.getD i 0).toInt8.toInt32))])) _
      refine XS.iload X0.here hx rfl (hb hby d_jdk_43_method_23_17) rfl ?_
      exact kg)
    by_cases hc2 : ((cs.getD i 0).toInt8.toInt32) = (d.toInt8.toInt32)
    · refine ⟨T0, mkF mM 24 #[.val (.ref t), .val (.int d), .val (.int (Int32.ofNat f)), .val (.int (Int32.ofNat (cs).length)), .val (.int (d.toInt8.toInt32)), .val (.int (Int32.ofNat i))] [(.int (own_ixk cs d i (k + 1)))], Or.inl ⟨_, rfl⟩, X0, e0, fun tg kg => ?_⟩
      rw [show own_ixk cs d i (k + 1) = Int32.ofNat i from if_pos (own_lo8_inj (hp2 _ (own_mem cs (i := i) (by omega))) hp3 hc2)] at kg
      refine pre3 tg ?_
      refine XS.icmpNo X0.here hx rfl (hb hby d_jdk_43_method_23_19) rfl (teq hc2).2 ?_
      show Steps pP.tables eE below (T0.setTop (mkF mM 22 #[.val (.ref t), .val (.int d), .val (.int (Int32.ofNat f)), .val (.int (Int32.ofNat (cs).length)), .val (.int (d.toInt8.toInt32)), .val (.int (Int32.ofNat i))] [])) _
      refine XS.iload X0.here hx rfl (hb hby d_jdk_43_method_23_22) rfl ?_
      exact kg
    · obtain ⟨T4, g4, hg4, X4, e4, st4⟩ := ih (i + 1) X0 e0 (by omega)
      refine ⟨T4, g4, (by rw [show own_ixk cs d i (k + 1) = own_ixk cs d (i + 1) k from if_neg (fun q => hc2 (by rw [q]))]; exact hg4), X4, e4, fun tg kg => ?_⟩
      refine pre3 tg ?_
      refine XS.icmpYes X0.here hx rfl (pc0 := 19) (pc' := 25) rfl (hb hby d_jdk_43_method_23_19) rfl (feq hc2).2 (by decide) (by decide) ?_
      show Steps pP.tables eE below (T0.setTop (mkF mM 25 #[.val (.ref t), .val (.int d), .val (.int (Int32.ofNat f)), .val (.int (Int32.ofNat (cs).length)), .val (.int (d.toInt8.toInt32)), .val (.int (Int32.ofNat i))] [])) _
      refine XS.iinc X0.here hx rfl (hb hby d_jdk_43_method_23_25) rfl (l' := #[.val (.ref t), .val (.int d), .val (.int (Int32.ofNat f)), .val (.int (Int32.ofNat (cs).length)), .val (.int (d.toInt8.toInt32)), .val (.int ((Int32.ofNat i) + (1 : Int32)))]) rfl ?_
      show Steps pP.tables eE below (T0.setTop (mkF mM 28 #[.val (.ref t), .val (.int d), .val (.int (Int32.ofNat f)), .val (.int (Int32.ofNat (cs).length)), .val (.int (d.toInt8.toInt32)), .val (.int ((Int32.ofNat i) + (1 : Int32)))] [])) _
      refine XS.goto X0.here hx rfl (pc0 := 28) (pc' := 7) rfl (hb hby d_jdk_43_method_23_28) (by decide) (by decide) ?_
      show Steps pP.tables eE below (T0.setTop (mkF mM 7 #[.val (.ref t), .val (.int d), .val (.int (Int32.ofNat f)), .val (.int (Int32.ofNat (cs).length)), .val (.int (d.toInt8.toInt32)), .val (.int ((Int32.ofNat i) + (1 : Int32)))] [])) _
      rw [own_inc i]
      exact st4 tg kg
theorem ef_ioc (m : MethodId) (x0 : Addr) (x1 : Int32) (x2 : Int32) (x3 : Int32) : entryFrame m #[(.ref x0), (.int x1), (.int x2), (.int x3)] 6 = mkF m 0 #[.val (.ref x0), .val (.int x1), .val (.int x2), .val (.int x3), .unset, .unset] [] := by first | (simp [entryFrame, mkF, argsToLocals, Value.category]; done) | rfl
def Q_ioc (Z : State) (t : Addr) (kk : ClassId) (cs : List Int32) (d : Int32) (f : Nat) (h0 : Heap) (n0 : Nat) (vV : Option Value) (h : Heap) (LL : List Loc) : Prop := vV = some (.int (own_ixk cs d f (cs.length - f))) ∧ LL = [] ∧ h = h0
set_option maxRecDepth 65536 in
set_option maxHeartbeats 40000000 in
theorem rm_ioc (l : Launch) (Z : State) (a0 : Array Value) (hw : ∀ d ∈ tables_1, d.before a0 Z = true) (ws : List Jvm.Cond) (t : Addr) (kk : ClassId) (cs : List Int32) (d : Int32) (f : Nat) (h0 : Heap) (n0 : Nat) (O0 : Old Z n0 h0) (V_t : Arv Z h0 t kk .byte (Int32.ofNat (cs).length) (own_b8 cs) (.int 0)) (hp1 : (cs.length ≤ 4000)) (hp2 : (∀ c ∈ cs, ¬ c < 0 ∧ ¬ (255 : Int32) < c)) (hp3 : (¬ d < 0 ∧ ¬ (255 : Int32) < d)) (hp4 : (f ≤ cs.length)) :
    MetFree l (⟨"java/lang/StringLatin1", "indexOfChar", "([BIII)I"⟩ : MethodName) (head1 (Jvm.Cond.code (⟨"java/lang/StringLatin1", "indexOfChar", "([BIII)I"⟩ : MethodName) jdk_43_method_23_code 6 (some .int) :: ws) ({ frames := 0, cells := 0, slots := 0, locals := 0 } : Room)) (fun aa_ U => aa_ = #[(.ref t), (.int d), (.int (Int32.ofNat f)), (.int (Int32.ofNat (cs).length))] ∧ Z.Warmed39 U.vm ∧ U.heap = h0) (fun _ _ _ _ _ => True) (fun _ U o U' => ∃ vV LL, o = .returned vV ∧ Q_ioc Z t kk cs d f h0 n0 vV U'.heap LL ∧ FrameEnd U o U' LL ({ frames := 0, cells := 0, slots := 0, locals := 0 } : Room).cells ({ frames := 0, cells := 0, slots := 0, locals := 0 } : Room).slots) := by
  refine MetFree.of_bodySF (plainFor_of_name pn_0) hisR ?_
  intro pP eE sS mM args below meth cC s₁ Bd hml0 hP hK
  obtain ⟨rfl, hZ, hh⟩ := hP
  have hx := Bd.exec
  have hby := Bd.bytes
  have hml : cC.maxLocals = 6 := hml0
  have hown : sS.vm.findClass "java/lang/StringLatin1" = some mM.cls := findClass_of_methodNamed Bd.named
  have hnm := (name_of_methodNamed Bd.named Bd.method).1
  have X0 : Stand pP l eE ({ frames := 0, cells := 0, slots := 0, locals := 0 } : Room) sS mM #[(.ref t), (.int d), (.int (Int32.ofNat f)), (.int (Int32.ofNat (cs).length))] below meth cC s₁ [] 0 0 := Stand.of_body Bd
  have e0 : s₁.heap = h0 := by rw [← hh, Bd.state]; rfl
  have N0 := Fr.nil n0
  have pre0 : ∀ tg, Steps pP.tables eE below (s₁.setTop (mkF mM 0 #[.val (.ref t), .val (.int d), .val (.int (Int32.ofNat f)), .val (.int (Int32.ofNat (cs).length)), .unset, .unset] [])) tg → Steps pP.tables eE below (s₁.setTop (entryFrame mM #[(.ref t), (.int d), (.int (Int32.ofNat f)), (.int (Int32.ofNat (cs).length))] 6)) tg := fun tg kg => castTop (ef_ioc mM t d (Int32.ofNat f) (Int32.ofNat (cs).length)) kg
  obtain ⟨T1, g1, hg1, X1, e1, st1⟩ := lp_ioc t kk cs d f hx hZ hw hby hml hown O0 V_t hp1 hp2 hp3 (cs.length - f) (f) X0 e0 (by omega)
  rcases hg1 with ⟨Lx1, rfl⟩ | ⟨Lx1, rfl⟩
  · obtain ⟨fs, hr, hrun, hended, hW, hsame⟩ := X1.leave (v := some (.int (own_ixk cs d f (cs.length - f)))) (fun h => by rw [Bd.returns] at h; cases h)
    refine ⟨_, _, pre0 _ ?_, hrun, hended, _, _, rfl, ?_, ⟨_, rfl⟩, hW, hsame.mono (by decide) (by decide)⟩
    · refine XS.iloadN X0.here hx rfl (hb hby d_jdk_43_method_23_0) rfl ?_
      show Steps pP.tables eE below (s₁.setTop (mkF mM 1 #[.val (.ref t), .val (.int d), .val (.int (Int32.ofNat f)), .val (.int (Int32.ofNat (cs).length)), .unset, .unset] [(.int d)])) _
      refine XS.i2b X0.here hx rfl (hb hby d_jdk_43_method_23_1) rfl ?_
      show Steps pP.tables eE below (s₁.setTop (mkF mM 2 #[.val (.ref t), .val (.int d), .val (.int (Int32.ofNat f)), .val (.int (Int32.ofNat (cs).length)), .unset, .unset] [(.int (d.toInt8.toInt32))])) _
      refine XS.istore X0.here hx rfl (hb hby d_jdk_43_method_23_2) rfl (l' := #[.val (.ref t), .val (.int d), .val (.int (Int32.ofNat f)), .val (.int (Int32.ofNat (cs).length)), .val (.int (d.toInt8.toInt32)), .unset]) rfl ?_
      show Steps pP.tables eE below (s₁.setTop (mkF mM 4 #[.val (.ref t), .val (.int d), .val (.int (Int32.ofNat f)), .val (.int (Int32.ofNat (cs).length)), .val (.int (d.toInt8.toInt32)), .unset] [])) _
      refine XS.iloadN X0.here hx rfl (hb hby d_jdk_43_method_23_4) rfl ?_
      show Steps pP.tables eE below (s₁.setTop (mkF mM 5 #[.val (.ref t), .val (.int d), .val (.int (Int32.ofNat f)), .val (.int (Int32.ofNat (cs).length)), .val (.int (d.toInt8.toInt32)), .unset] [(.int (Int32.ofNat f))])) _
      refine XS.istore X0.here hx rfl (hb hby d_jdk_43_method_23_5) rfl (l' := #[.val (.ref t), .val (.int d), .val (.int (Int32.ofNat f)), .val (.int (Int32.ofNat (cs).length)), .val (.int (d.toInt8.toInt32)), .val (.int (Int32.ofNat f))]) rfl ?_
      show Steps pP.tables eE below (s₁.setTop (mkF mM 7 #[.val (.ref t), .val (.int d), .val (.int (Int32.ofNat f)), .val (.int (Int32.ofNat (cs).length)), .val (.int (d.toInt8.toInt32)), .val (.int (Int32.ofNat f))] [])) _
      refine st1 _ ?_
      show Steps pP.tables eE below (T1.setTop (mkF mM 24 Lx1 [(.int (own_ixk cs d f (cs.length - f)))])) _
      exact retI X1 hx Bd.returns (hb hby d_jdk_43_method_23_24) hr
    · show Q_ioc Z t kk cs d f h0 n0 _ T1.heap _
      rw [e1]
      exact ⟨rfl, rfl, rfl⟩
  · obtain ⟨fs, hr, hrun, hended, hW, hsame⟩ := X1.leave (v := some (.int (own_ixk cs d f (cs.length - f)))) (fun h => by rw [Bd.returns] at h; cases h)
    refine ⟨_, _, pre0 _ ?_, hrun, hended, _, _, rfl, ?_, ⟨_, rfl⟩, hW, hsame.mono (by decide) (by decide)⟩
    · refine XS.iloadN X0.here hx rfl (hb hby d_jdk_43_method_23_0) rfl ?_
      show Steps pP.tables eE below (s₁.setTop (mkF mM 1 #[.val (.ref t), .val (.int d), .val (.int (Int32.ofNat f)), .val (.int (Int32.ofNat (cs).length)), .unset, .unset] [(.int d)])) _
      refine XS.i2b X0.here hx rfl (hb hby d_jdk_43_method_23_1) rfl ?_
      show Steps pP.tables eE below (s₁.setTop (mkF mM 2 #[.val (.ref t), .val (.int d), .val (.int (Int32.ofNat f)), .val (.int (Int32.ofNat (cs).length)), .unset, .unset] [(.int (d.toInt8.toInt32))])) _
      refine XS.istore X0.here hx rfl (hb hby d_jdk_43_method_23_2) rfl (l' := #[.val (.ref t), .val (.int d), .val (.int (Int32.ofNat f)), .val (.int (Int32.ofNat (cs).length)), .val (.int (d.toInt8.toInt32)), .unset]) rfl ?_
      show Steps pP.tables eE below (s₁.setTop (mkF mM 4 #[.val (.ref t), .val (.int d), .val (.int (Int32.ofNat f)), .val (.int (Int32.ofNat (cs).length)), .val (.int (d.toInt8.toInt32)), .unset] [])) _
      refine XS.iloadN X0.here hx rfl (hb hby d_jdk_43_method_23_4) rfl ?_
      show Steps pP.tables eE below (s₁.setTop (mkF mM 5 #[.val (.ref t), .val (.int d), .val (.int (Int32.ofNat f)), .val (.int (Int32.ofNat (cs).length)), .val (.int (d.toInt8.toInt32)), .unset] [(.int (Int32.ofNat f))])) _
      refine XS.istore X0.here hx rfl (hb hby d_jdk_43_method_23_5) rfl (l' := #[.val (.ref t), .val (.int d), .val (.int (Int32.ofNat f)), .val (.int (Int32.ofNat (cs).length)), .val (.int (d.toInt8.toInt32)), .val (.int (Int32.ofNat f))]) rfl ?_
      show Steps pP.tables eE below (s₁.setTop (mkF mM 7 #[.val (.ref t), .val (.int d), .val (.int (Int32.ofNat f)), .val (.int (Int32.ofNat (cs).length)), .val (.int (d.toInt8.toInt32)), .val (.int (Int32.ofNat f))] [])) _
      refine st1 _ ?_
      show Steps pP.tables eE below (T1.setTop (mkF mM 32 Lx1 [(.int (own_ixk cs d f (cs.length - f)))])) _
      exact retI X1 hx Bd.returns (hb hby d_jdk_43_method_23_32) hr
    · show Q_ioc Z t kk cs d f h0 n0 _ T1.heap _
      rw [e1]
      exact ⟨rfl, rfl, rfl⟩
theorem ef_lix (m : MethodId) (x0 : Addr) (x1 : Int32) (x2 : Int32) (x3 : Int32) : entryFrame m #[(.ref x0), (.int x1), (.int x2), (.int x3)] 4 = mkF m 0 #[.val (.ref x0), .val (.int x1), .val (.int x2), .val (.int x3)] [] := by first | (simp [entryFrame, mkF, argsToLocals, Value.category]; done) | rfl
def Q_lix (Z : State) (t : Addr) (kk : ClassId) (cs : List Int32) (d : Int32) (f : Nat) (h0 : Heap) (n0 : Nat) (vV : Option Value) (h : Heap) (LL : List Loc) : Prop := vV = some (.int (own_ixk cs d f (cs.length - f))) ∧ LL = [] ∧ h = h0
set_option maxRecDepth 65536 in
set_option maxHeartbeats 40000000 in
theorem rm_lix (l : Launch) (Z : State) (a0 : Array Value) (hw : ∀ d ∈ tables_1, d.before a0 Z = true) (ws : List Jvm.Cond) (t : Addr) (kk : ClassId) (cs : List Int32) (d : Int32) (f : Nat) (h0 : Heap) (n0 : Nat) (O0 : Old Z n0 h0) (V_t : Arv Z h0 t kk .byte (Int32.ofNat (cs).length) (own_b8 cs) (.int 0)) (hp1 : (cs.length ≤ 4000)) (hp2 : (∀ c ∈ cs, ¬ c < 0 ∧ ¬ (255 : Int32) < c)) (hp3 : (f ≤ cs.length)) :
    MetFree l (⟨"java/lang/StringLatin1", "indexOf", "([BIII)I"⟩ : MethodName) (head1 (Jvm.Cond.code (⟨"java/lang/StringLatin1", "indexOf", "([BIII)I"⟩ : MethodName) jdk_43_method_22_code 4 (some .int) :: ws) ({ frames := 1, cells := 0, slots := 0, locals := 17 } : Room)) (fun aa_ U => aa_ = #[(.ref t), (.int d), (.int (Int32.ofNat f)), (.int (Int32.ofNat (cs).length))] ∧ Z.Warmed39 U.vm ∧ U.heap = h0) (fun _ _ _ _ _ => True) (fun _ U o U' => ∃ vV LL, o = .returned vV ∧ Q_lix Z t kk cs d f h0 n0 vV U'.heap LL ∧ FrameEnd U o U' LL ({ frames := 1, cells := 0, slots := 0, locals := 17 } : Room).cells ({ frames := 1, cells := 0, slots := 0, locals := 17 } : Room).slots) := by
  refine MetFree.of_bodySF (plainFor_of_name pn_0) hisR ?_
  intro pP eE sS mM args below meth cC s₁ Bd hml0 hP hK
  obtain ⟨rfl, hZ, hh⟩ := hP
  have hx := Bd.exec
  have hby := Bd.bytes
  have hml : cC.maxLocals = 4 := hml0
  have hown : sS.vm.findClass "java/lang/StringLatin1" = some mM.cls := findClass_of_methodNamed Bd.named
  have hnm := (name_of_methodNamed Bd.named Bd.method).1
  have X0 : Stand pP l eE ({ frames := 1, cells := 0, slots := 0, locals := 17 } : Room) sS mM #[(.ref t), (.int d), (.int (Int32.ofNat f)), (.int (Int32.ofNat (cs).length))] below meth cC s₁ [] 0 0 := Stand.of_body Bd
  have e0 : s₁.heap = h0 := by rw [← hh, Bd.state]; rfl
  have N0 := Fr.nil n0
  have pre0 : ∀ tg, Steps pP.tables eE below (s₁.setTop (mkF mM 0 #[.val (.ref t), .val (.int d), .val (.int (Int32.ofNat f)), .val (.int (Int32.ofNat (cs).length))] [])) tg → Steps pP.tables eE below (s₁.setTop (entryFrame mM #[(.ref t), (.int d), (.int (Int32.ofNat f)), (.int (Int32.ofNat (cs).length))] 4)) tg := fun tg kg => castTop (ef_lix mM t d (Int32.ofNat f) (Int32.ofNat (cs).length)) kg
  obtain ⟨_, _, ⟨T1, L1, k1, n1⟩, -, X1, ⟨Lc1, hQ1, l1, y1, z1⟩, st1⟩ := Jvm.LawKit.callS X0 hx (y := (⟨"java/lang/StringLatin1", "canEncode", "(I)Z"⟩ : MethodName)) hown (mvT hZ (w_157 hw)) (mvT hZ (w_158 hw)) (mvT hZ (w_155 hw)) (mvT hZ (w_159 hw)) (by decide) (backOf (W := 0) (rm_enc l Z a0 hw [] d h0 n0 O0 ) hZ (w_159 hw) (w_155 hw) (by decide) (by decide)) (g := (mkF mM 1 #[.val (.ref t), .val (.int d), .val (.int (Int32.ofNat f)), .val (.int (Int32.ofNat (cs).length))] [(.int d)])) rfl (by rw [hml]; rfl) (argsL := [(.int d)]) (rest := []) (lenOf pd_0 rfl) rfl (by show 2 * 0 + _ ≤ _; exact Nat.le_of_eq rfl) (hb hby d_jdk_43_method_22_1) (fun _ _ => ⟨rfl, e0, (by decide : 0 + 0 ≤ _), (by decide : 0 + 0 ≤ _)⟩)
  dsimp only [Pt.U, Pt.locs, Pt.cells, Pt.slots] at X1 l1 y1 z1 st1 hQ1
  subst l1 y1 z1
  obtain ⟨rfl, rfl, Kq1⟩ := hQ1
  try rw [List.append_nil] at X1
  have pre3 : ∀ tg, Steps pP.tables eE below (T1.setTop (mkF mM 4 #[.val (.ref t), .val (.int d), .val (.int (Int32.ofNat f)), .val (.int (Int32.ofNat (cs).length))] [(.int (own_enc d))])) tg → Steps pP.tables eE below (s₁.setTop (entryFrame mM #[(.ref t), (.int d), (.int (Int32.ofNat f)), (.int (Int32.ofNat (cs).length))] 4)) tg := fun tg kg => pre0 tg (by
    refine XS.iloadN X0.here hx rfl (hb hby d_jdk_43_method_22_0) rfl ?_
    show Steps pP.tables eE below (s₁.setTop (mkF mM 1 #[.val (.ref t), .val (.int d), .val (.int (Int32.ofNat f)), .val (.int (Int32.ofNat (cs).length))] [(.int d)])) _
    refine st1 _ ?_
    exact kg)
  by_cases hc2 : (own_enc d) = (0 : Int32)
  · obtain ⟨fs, hr, hrun, hended, hW, hsame⟩ := X1.leave (v := some (.int (-1 : Int32))) (fun h => by rw [Bd.returns] at h; cases h)
    refine ⟨_, _, pre3 _ ?_, hrun, hended, _, _, rfl, ?_, ⟨_, rfl⟩, hW, hsame.mono (by decide) (by decide)⟩
    · refine XS.ifNo X1.here hx rfl (hb hby d_jdk_43_method_22_4) rfl ((if0 _ _).trans (teq hc2).2) ?_
      show Steps pP.tables eE below (T1.setTop (mkF mM 7 #[.val (.ref t), .val (.int d), .val (.int (Int32.ofNat f)), .val (.int (Int32.ofNat (cs).length))] [])) _
      refine XS.iconst X1.here hx rfl (hb hby d_jdk_43_method_22_7) ?_
      show Steps pP.tables eE below (T1.setTop (mkF mM 8 #[.val (.ref t), .val (.int d), .val (.int (Int32.ofNat f)), .val (.int (Int32.ofNat (cs).length))] [(.int (-1 : Int32))])) _
      exact retI X1 hx Bd.returns (hb hby d_jdk_43_method_22_8) hr
    · show Q_lix Z t kk cs d f h0 n0 _ T1.heap _
      rw [Kq1]
      exact ⟨(by rw [own_enc_bad hc2 hp2 _ _ (by omega)]), rfl, rfl⟩
  · obtain ⟨_, _, ⟨T5, L5, k5, n5⟩, -, X5, ⟨Lc5, hQ5, l5, y5, z5⟩, st5⟩ := Jvm.LawKit.callS X1 hx (y := (⟨"java/lang/Math", "max", "(II)I"⟩ : MethodName)) hown (mvT hZ (w_160 hw)) (mvT hZ (w_66 hw)) (mvT hZ (w_67 hw)) (mvT hZ (w_68 hw)) (by decide) (backOf (W := 0) (rm_max l Z a0 hw [] (Int32.ofNat f) (0 : Int32) h0 n0 O0 ) hZ (w_68 hw) (w_67 hw) (by decide) (by decide)) (g := (mkF mM 11 #[.val (.ref t), .val (.int d), .val (.int (Int32.ofNat f)), .val (.int (Int32.ofNat (cs).length))] [(.int (0 : Int32)), (.int (Int32.ofNat f))])) rfl (by rw [hml]; rfl) (argsL := [(.int (Int32.ofNat f)), (.int (0 : Int32))]) (rest := []) (lenOf pd_1 rfl) rfl (by show 2 * 0 + _ ≤ _; exact Nat.le_of_eq rfl) (hb hby d_jdk_43_method_22_11) (fun _ _ => ⟨rfl, Kq1, (by decide : 0 + 0 ≤ _), (by decide : 0 + 0 ≤ _)⟩)
    dsimp only [Pt.U, Pt.locs, Pt.cells, Pt.slots] at X5 l5 y5 z5 st5 hQ5
    subst l5 y5 z5
    obtain ⟨rfl, rfl, Kq5⟩ := hQ5
    try rw [List.append_nil] at X5
    obtain ⟨cl6, Ar6, -, S6, Nn6, -, -⟩ := id V_t
    obtain ⟨_, _, ⟨T7, L7, k7, n7⟩, -, X7, ⟨Lc7, hQ7, l7, y7, z7⟩, st7⟩ := Jvm.LawKit.callS X5 hx (y := (⟨"java/lang/Math", "min", "(II)I"⟩ : MethodName)) hown (mvT hZ (w_161 hw)) (mvT hZ (w_75 hw)) (mvT hZ (w_67 hw)) (mvT hZ (w_76 hw)) (by decide) (backOf (W := 0) (rm_min l Z a0 hw [] (Int32.ofNat (cs).length) (Int32.ofNat (cs).length) h0 n0 O0 ) hZ (w_76 hw) (w_67 hw) (by decide) (by decide)) (g := (mkF mM 18 #[.val (.ref t), .val (.int d), .val (.int (Int32.ofNat f)), .val (.int (Int32.ofNat (cs).length))] [(.int (Int32.ofNat (cs).length)), (.int (Int32.ofNat (cs).length))])) rfl (by rw [hml]; rfl) (argsL := [(.int (Int32.ofNat (cs).length)), (.int (Int32.ofNat (cs).length))]) (rest := []) (lenOf pd_1 rfl) rfl (by show 2 * 0 + _ ≤ _; exact Nat.le_of_eq rfl) (hb hby d_jdk_43_method_22_18) (fun _ _ => ⟨rfl, Kq5, (by decide : 0 + 0 ≤ _), (by decide : 0 + 0 ≤ _)⟩)
    dsimp only [Pt.U, Pt.locs, Pt.cells, Pt.slots] at X7 l7 y7 z7 st7 hQ7
    subst l7 y7 z7
    obtain ⟨rfl, rfl, Kq7⟩ := hQ7
    try rw [List.append_nil] at X7
    have pre9 : ∀ tg, Steps pP.tables eE below (T7.setTop (mkF mM 24 #[.val (.ref t), .val (.int d), .val (.int (Int32.ofNat f)), .val (.int (Int32.ofNat (cs).length))] [(.int (Int32.ofNat (cs).length)), (.int (Int32.ofNat f))])) tg → Steps pP.tables eE below (s₁.setTop (entryFrame mM #[(.ref t), (.int d), (.int (Int32.ofNat f)), (.int (Int32.ofNat (cs).length))] 4)) tg := fun tg kg => pre3 tg (by
      refine XS.ifYes X1.here hx rfl (pc0 := 4) (pc' := 9) rfl (hb hby d_jdk_43_method_22_4) rfl ((if0 _ _).trans (feq hc2).2) (by decide) (by decide) ?_
      show Steps pP.tables eE below (T1.setTop (mkF mM 9 #[.val (.ref t), .val (.int d), .val (.int (Int32.ofNat f)), .val (.int (Int32.ofNat (cs).length))] [])) _
      refine XS.iloadN X1.here hx rfl (hb hby d_jdk_43_method_22_9) rfl ?_
      show Steps pP.tables eE below (T1.setTop (mkF mM 10 #[.val (.ref t), .val (.int d), .val (.int (Int32.ofNat f)), .val (.int (Int32.ofNat (cs).length))] [(.int (Int32.ofNat f))])) _
      refine XS.iconst X1.here hx rfl (hb hby d_jdk_43_method_22_10) ?_
      show Steps pP.tables eE below (T1.setTop (mkF mM 11 #[.val (.ref t), .val (.int d), .val (.int (Int32.ofNat f)), .val (.int (Int32.ofNat (cs).length))] [(.int (0 : Int32)), (.int (Int32.ofNat f))])) _
      refine st5 _ ?_
      show Steps pP.tables eE below (T5.setTop (mkF mM 14 #[.val (.ref t), .val (.int d), .val (.int (Int32.ofNat f)), .val (.int (Int32.ofNat (cs).length))] [(.int (own_max (Int32.ofNat f) (0 : Int32)))])) _
      rw [show own_max (Int32.ofNat f) (0 : Int32) = Int32.ofNat f from if_neg (own_nneg _ (by omega))]
      show Steps pP.tables eE below (T5.setTop (mkF mM 14 #[.val (.ref t), .val (.int d), .val (.int (Int32.ofNat f)), .val (.int (Int32.ofNat (cs).length))] [(.int (Int32.ofNat f))])) _
      refine XS.istoreN X5.here hx rfl (hb hby d_jdk_43_method_22_14) rfl (l' := #[.val (.ref t), .val (.int d), .val (.int (Int32.ofNat f)), .val (.int (Int32.ofNat (cs).length))]) rfl ?_
      show Steps pP.tables eE below (T5.setTop (mkF mM 15 #[.val (.ref t), .val (.int d), .val (.int (Int32.ofNat f)), .val (.int (Int32.ofNat (cs).length))] [])) _
      refine XS.iloadN X5.here hx rfl (hb hby d_jdk_43_method_22_15) rfl ?_
      show Steps pP.tables eE below (T5.setTop (mkF mM 16 #[.val (.ref t), .val (.int d), .val (.int (Int32.ofNat f)), .val (.int (Int32.ofNat (cs).length))] [(.int (Int32.ofNat (cs).length))])) _
      refine XS.aloadN X5.here hx rfl (hb hby d_jdk_43_method_22_16) rfl rfl ?_
      show Steps pP.tables eE below (T5.setTop (mkF mM 17 #[.val (.ref t), .val (.int d), .val (.int (Int32.ofNat f)), .val (.int (Int32.ofNat (cs).length))] [(.ref t), (.int (Int32.ofNat (cs).length))])) _
      refine X5.arraylength hx (by rw [Kq5]; exact Ar6.1) (State.isArrayOf_alike hZ.alike Ar6.2.1) (g := (mkF mM 17 #[.val (.ref t), .val (.int d), .val (.int (Int32.ofNat f)), .val (.int (Int32.ofNat (cs).length))] [(.ref t), (.int (Int32.ofNat (cs).length))])) rfl rfl (hb hby d_jdk_43_method_22_17) _ ?_
      rw [len_of S6 Nn6]
      show Steps pP.tables eE below (T5.setTop (mkF mM 18 #[.val (.ref t), .val (.int d), .val (.int (Int32.ofNat f)), .val (.int (Int32.ofNat (cs).length))] [(.int (Int32.ofNat (cs).length)), (.int (Int32.ofNat (cs).length))])) _
      refine st7 _ ?_
      show Steps pP.tables eE below (T7.setTop (mkF mM 21 #[.val (.ref t), .val (.int d), .val (.int (Int32.ofNat f)), .val (.int (Int32.ofNat (cs).length))] [(.int (own_min (Int32.ofNat (cs).length) (Int32.ofNat (cs).length)))])) _
      rw [show own_min (Int32.ofNat (cs).length) (Int32.ofNat (cs).length) = Int32.ofNat (cs).length from if_neg (fun q => absurd (own_ltI q (by omega) (by omega)) (by omega))]
      show Steps pP.tables eE below (T7.setTop (mkF mM 21 #[.val (.ref t), .val (.int d), .val (.int (Int32.ofNat f)), .val (.int (Int32.ofNat (cs).length))] [(.int (Int32.ofNat (cs).length))])) _
      refine XS.istoreN X7.here hx rfl (hb hby d_jdk_43_method_22_21) rfl (l' := #[.val (.ref t), .val (.int d), .val (.int (Int32.ofNat f)), .val (.int (Int32.ofNat (cs).length))]) rfl ?_
      show Steps pP.tables eE below (T7.setTop (mkF mM 22 #[.val (.ref t), .val (.int d), .val (.int (Int32.ofNat f)), .val (.int (Int32.ofNat (cs).length))] [])) _
      refine XS.iloadN X7.here hx rfl (hb hby d_jdk_43_method_22_22) rfl ?_
      show Steps pP.tables eE below (T7.setTop (mkF mM 23 #[.val (.ref t), .val (.int d), .val (.int (Int32.ofNat f)), .val (.int (Int32.ofNat (cs).length))] [(.int (Int32.ofNat f))])) _
      refine XS.iloadN X7.here hx rfl (hb hby d_jdk_43_method_22_23) rfl ?_
      exact kg)
    by_cases hc8 : (Int32.ofNat f) < (Int32.ofNat (cs).length)
    · obtain ⟨_, _, ⟨T10, L10, k10, n10⟩, -, X10, ⟨Lc10, hQ10, l10, y10, z10⟩, st10⟩ := Jvm.LawKit.callS X7 hx (y := (⟨"java/lang/StringLatin1", "indexOfChar", "([BIII)I"⟩ : MethodName)) hown (mvT hZ (w_178 hw)) (mvT hZ (w_179 hw)) (mvT hZ (w_155 hw)) (mvT hZ (w_180 hw)) (by decide) (backOf (W := 0) (rm_ioc l Z a0 hw [] t kk cs d f h0 n0 O0 V_t hp1 hp2 (own_enc_ok hc2 : ¬ d < 0 ∧ ¬ (255 : Int32) < d) hp3) hZ (w_180 hw) (w_155 hw) (by decide) (by decide)) (g := (mkF mM 33 #[.val (.ref t), .val (.int d), .val (.int (Int32.ofNat f)), .val (.int (Int32.ofNat (cs).length))] [(.int (Int32.ofNat (cs).length)), (.int (Int32.ofNat f)), (.int d), (.ref t)])) rfl (by rw [hml]; rfl) (argsL := [(.ref t), (.int d), (.int (Int32.ofNat f)), (.int (Int32.ofNat (cs).length))]) (rest := []) (lenOf pd_2 rfl) rfl (by show 2 * 0 + _ ≤ _; exact Nat.le_of_eq rfl) (hb hby d_jdk_43_method_22_33) (fun _ _ => ⟨rfl, Kq7, (by decide : 0 + 0 ≤ _), (by decide : 0 + 0 ≤ _)⟩)
      dsimp only [Pt.U, Pt.locs, Pt.cells, Pt.slots] at X10 l10 y10 z10 st10 hQ10
      subst l10 y10 z10
      obtain ⟨rfl, rfl, Kq10⟩ := hQ10
      try rw [List.append_nil] at X10
      obtain ⟨fs, hr, hrun, hended, hW, hsame⟩ := X10.leave (v := some (.int (own_ixk cs d f (cs.length - f)))) (fun h => by rw [Bd.returns] at h; cases h)
      refine ⟨_, _, pre9 _ ?_, hrun, hended, _, _, rfl, ?_, ⟨_, rfl⟩, hW, hsame.mono (by decide) (by decide)⟩
      · refine XS.icmpYes X7.here hx rfl (pc0 := 24) (pc' := 29) rfl (hb hby d_jdk_43_method_22_24) rfl (tlt hc8).1 (by decide) (by decide) ?_
        show Steps pP.tables eE below (T7.setTop (mkF mM 29 #[.val (.ref t), .val (.int d), .val (.int (Int32.ofNat f)), .val (.int (Int32.ofNat (cs).length))] [])) _
        refine XS.aloadN X7.here hx rfl (hb hby d_jdk_43_method_22_29) rfl rfl ?_
        show Steps pP.tables eE below (T7.setTop (mkF mM 30 #[.val (.ref t), .val (.int d), .val (.int (Int32.ofNat f)), .val (.int (Int32.ofNat (cs).length))] [(.ref t)])) _
        refine XS.iloadN X7.here hx rfl (hb hby d_jdk_43_method_22_30) rfl ?_
        show Steps pP.tables eE below (T7.setTop (mkF mM 31 #[.val (.ref t), .val (.int d), .val (.int (Int32.ofNat f)), .val (.int (Int32.ofNat (cs).length))] [(.int d), (.ref t)])) _
        refine XS.iloadN X7.here hx rfl (hb hby d_jdk_43_method_22_31) rfl ?_
        show Steps pP.tables eE below (T7.setTop (mkF mM 32 #[.val (.ref t), .val (.int d), .val (.int (Int32.ofNat f)), .val (.int (Int32.ofNat (cs).length))] [(.int (Int32.ofNat f)), (.int d), (.ref t)])) _
        refine XS.iloadN X7.here hx rfl (hb hby d_jdk_43_method_22_32) rfl ?_
        show Steps pP.tables eE below (T7.setTop (mkF mM 33 #[.val (.ref t), .val (.int d), .val (.int (Int32.ofNat f)), .val (.int (Int32.ofNat (cs).length))] [(.int (Int32.ofNat (cs).length)), (.int (Int32.ofNat f)), (.int d), (.ref t)])) _
        refine st10 _ ?_
        show Steps pP.tables eE below (T10.setTop (mkF mM 36 #[.val (.ref t), .val (.int d), .val (.int (Int32.ofNat f)), .val (.int (Int32.ofNat (cs).length))] [(.int (own_ixk cs d f (cs.length - f)))])) _
        exact retI X10 hx Bd.returns (hb hby d_jdk_43_method_22_36) hr
      · show Q_lix Z t kk cs d f h0 n0 _ T10.heap _
        rw [Kq10]
        exact ⟨rfl, rfl, rfl⟩
    · obtain ⟨fs, hr, hrun, hended, hW, hsame⟩ := X7.leave (v := some (.int (-1 : Int32))) (fun h => by rw [Bd.returns] at h; cases h)
      refine ⟨_, _, pre9 _ ?_, hrun, hended, _, _, rfl, ?_, ⟨_, rfl⟩, hW, hsame.mono (by decide) (by decide)⟩
      · refine XS.icmpNo X7.here hx rfl (hb hby d_jdk_43_method_22_24) rfl (flt hc8).1 ?_
        show Steps pP.tables eE below (T7.setTop (mkF mM 27 #[.val (.ref t), .val (.int d), .val (.int (Int32.ofNat f)), .val (.int (Int32.ofNat (cs).length))] [])) _
        refine XS.iconst X7.here hx rfl (hb hby d_jdk_43_method_22_27) ?_
        show Steps pP.tables eE below (T7.setTop (mkF mM 28 #[.val (.ref t), .val (.int d), .val (.int (Int32.ofNat f)), .val (.int (Int32.ofNat (cs).length))] [(.int (-1 : Int32))])) _
        exact retI X7 hx Bd.returns (hb hby d_jdk_43_method_22_28) hr
      · show Q_lix Z t kk cs d f h0 n0 _ T7.heap _
        rw [Kq7]
        exact ⟨(by have q := own_nltI hc8 (by omega) (by omega); rw [show cs.length - f = 0 by omega]; rfl), rfl, rfl⟩
theorem ef_io (m : MethodId) (x0 : Addr) (x1 : Int32) (x2 : Int32) : entryFrame m #[(.ref x0), (.int x1), (.int x2)] 3 = mkF m 0 #[.val (.ref x0), .val (.int x1), .val (.int x2)] [] := by first | (simp [entryFrame, mkF, argsToLocals, Value.category]; done) | rfl
def Q_io (Z : State) (x : Addr) (t : Addr) (kk : ClassId) (cs : List Int32) (d : Int32) (f : Nat) (zc : Int32) (fm : Value) (h0 : Heap) (n0 : Nat) (vV : Option Value) (h : Heap) (LL : List Loc) : Prop := vV = some (.int (own_ixk cs d f (cs.length - f))) ∧ LL = [] ∧ h = h0
set_option maxRecDepth 65536 in
set_option maxHeartbeats 40000000 in
theorem rm_io (l : Launch) (Z : State) (a0 : Array Value) (hw : ∀ d ∈ tables_1, d.before a0 Z = true) (ws : List Jvm.Cond) (x : Addr) (t : Addr) (kk : ClassId) (cs : List Int32) (d : Int32) (f : Nat) (zc : Int32) (fm : Value) (h0 : Heap) (n0 : Nat) (O0 : Old Z n0 h0) (Str_x : own_Str Z h0 x t kk cs) (hp1 : (f ≤ cs.length)) (S_COMPACT_STRINGS : Sta Z Z.heap "java/lang/String" "COMPACT_STRINGS" "Z" (.int zc)) (hp3 : (¬ (zc = (0 : Int32)))) (S_SIOOBE_FORMATTER : Sta Z Z.heap "jdk/internal/util/Preconditions" "SIOOBE_FORMATTER" "Ljava/util/function/BiFunction;" fm) (hp5 : (fm.isRef = true)) :
    MetFree l (⟨"java/lang/String", "indexOf", "(II)I"⟩ : MethodName) (head1 (Jvm.Cond.code (⟨"java/lang/String", "indexOf", "(II)I"⟩ : MethodName) jdk_42_method_80_code 3 (some .int) :: ws) ({ frames := 2, cells := 0, slots := 0, locals := 32 } : Room)) (fun aa_ U => aa_ = #[(.ref x), (.int d), (.int (Int32.ofNat f))] ∧ Z.Warmed39 U.vm ∧ U.heap = h0) (fun _ _ _ _ _ => True) (fun _ U o U' => ∃ vV LL, o = .returned vV ∧ Q_io Z x t kk cs d f zc fm h0 n0 vV U'.heap LL ∧ FrameEnd U o U' LL ({ frames := 2, cells := 0, slots := 0, locals := 32 } : Room).cells ({ frames := 2, cells := 0, slots := 0, locals := 32 } : Room).slots) := by
  refine MetFree.of_bodySF (plainFor_of_name pn_1) hisR ?_
  intro pP eE sS mM args below meth cC s₁ Bd hml0 hP hK
  obtain ⟨rfl, hZ, hh⟩ := hP
  have hx := Bd.exec
  have hby := Bd.bytes
  have hml : cC.maxLocals = 3 := hml0
  have hown : sS.vm.findClass "java/lang/String" = some mM.cls := findClass_of_methodNamed Bd.named
  have hnm := (name_of_methodNamed Bd.named Bd.method).1
  have X0 : Stand pP l eE ({ frames := 2, cells := 0, slots := 0, locals := 32 } : Room) sS mM #[(.ref x), (.int d), (.int (Int32.ofNat f))] below meth cC s₁ [] 0 0 := Stand.of_body Bd
  have e0 : s₁.heap = h0 := by rw [← hh, Bd.state]; rfl
  have N0 := Fr.nil n0
  have pre0 : ∀ tg, Steps pP.tables eE below (s₁.setTop (mkF mM 0 #[.val (.ref x), .val (.int d), .val (.int (Int32.ofNat f))] [])) tg → Steps pP.tables eE below (s₁.setTop (entryFrame mM #[(.ref x), (.int d), (.int (Int32.ofNat f))] 3)) tg := fun tg kg => castTop (ef_io mM x d (Int32.ofNat f)) kg
  obtain ⟨cq1, kq1, q1a, q1b, q1c⟩ := isOf hZ e0 (Str_x).1
  obtain ⟨_, _, ⟨T1, L1, k1, n1⟩, -, X1, ⟨Lc1, hQ1, l1, y1, z1⟩, st1⟩ := X0.virtualBack hx (y := (⟨"java/lang/String", "isLatin1", "()Z"⟩ : MethodName)) (z := (⟨"java/lang/String", "isLatin1", "()Z"⟩ : MethodName)) hown (mvT hZ (w_147 hw)) (mvT hZ (w_148 hw)) (notFace_of_selects (args := #[]) (mvT hZ (w_150 hw))) (mvT hZ (w_150 hw)) (mvT hZ (w_149 hw)) (by decide) (backOf (W := 0) (rm_lat l Z a0 hw [] x zc h0 n0 O0 (Str_x).2.2.1 S_COMPACT_STRINGS hp3) hZ (w_151 hw) (w_8 hw) (by decide) (by decide)) q1a q1c (g := (mkF mM 1 #[.val (.ref x), .val (.int d), .val (.int (Int32.ofNat f))] [(.ref x)])) rfl (by rw [hml]; rfl) (Steps.refl _) (argsL := []) (rest := []) (lenOf pd_3 rfl) rfl (by show 2 * 0 + _ ≤ _; exact Nat.le_of_eq rfl) (hb hby d_jdk_42_method_80_1) (fun _ _ => ⟨rfl, e0, (by decide : 0 + 0 ≤ _), (by decide : 0 + 0 ≤ _)⟩)
  dsimp only [Pt.U, Pt.locs, Pt.cells, Pt.slots] at X1 l1 y1 z1 st1 hQ1
  subst l1 y1 z1
  obtain ⟨rfl, rfl, Kq1⟩ := hQ1
  try rw [List.append_nil] at X1
  obtain ⟨T2, X2, e2, st2⟩ := getF X1 hx hZ hown (host := "") (Or.inl (w_33 hw)) Via.refl Kq1 (Str_x).2.1 (g := (mkF mM 8 #[.val (.ref x), .val (.int d), .val (.int (Int32.ofNat f))] [(.ref x)])) rfl rfl (hb hby d_jdk_42_method_80_8)
  obtain ⟨cq3, kq3, q3a, q3b, q3c⟩ := isOf hZ e2 (Str_x).1
  obtain ⟨_, _, ⟨T3, L3, k3, n3⟩, -, X3, ⟨Lc3, hQ3, l3, y3, z3⟩, st3⟩ := X2.virtualBack hx (y := (⟨"java/lang/String", "length", "()I"⟩ : MethodName)) (z := (⟨"java/lang/String", "length", "()I"⟩ : MethodName)) hown (mvT hZ (w_152 hw)) (mvT hZ (w_115 hw)) (notFace_of_selects (args := #[]) (mvT hZ (w_117 hw))) (mvT hZ (w_117 hw)) (mvT hZ (w_116 hw)) (by decide) (own_len (W := 3) hZ hw (⟨(Str_x).1, (Str_x).2.1, (Str_x).2.2.1, (Str_x).2.2.2.1, (Str_x).2.2.2.2⟩ : own_Str Z h0 x t kk cs) (Sta.ext (O0).2 S_COMPACT_STRINGS) hp3 (by decide) (by decide)) q3a q3c (g := (mkF mM 14 #[.val (.ref x), .val (.int d), .val (.int (Int32.ofNat f))] [(.ref x), (.int (Int32.ofNat f)), (.int d), (.ref t)])) rfl (by rw [hml]; rfl) (Steps.refl _) (argsL := []) (rest := [(.int (Int32.ofNat f)), (.int d), (.ref t)]) (lenOf pd_4 rfl) rfl (by show 2 * 0 + _ ≤ _; exact Nat.le_of_eq rfl) (hb hby d_jdk_42_method_80_14) (fun _ _ => ⟨rfl, e2, (by decide : 0 + 0 ≤ _), (by decide : 0 + 0 ≤ _)⟩)
  dsimp only [Pt.U, Pt.locs, Pt.cells, Pt.slots] at X3 l3 y3 z3 st3 hQ3
  subst l3 y3 z3
  obtain ⟨rfl, rfl, Kq3⟩ := hQ3
  try rw [List.append_nil] at X3
  obtain ⟨_, _, ⟨T4, L4, k4, n4⟩, -, X4, ⟨Lc4, hQ4, l4, y4, z4⟩, st4⟩ := Jvm.LawKit.callS X3 hx (y := (⟨"java/lang/StringLatin1", "indexOf", "([BIII)I"⟩ : MethodName)) hown (mvT hZ (w_153 hw)) (mvT hZ (w_154 hw)) (mvT hZ (w_155 hw)) (mvT hZ (w_156 hw)) (by decide) (backOf (W := 0) (rm_lix l Z a0 hw [] t kk cs d f h0 n0 O0 (Str_x).2.2.2.1 (Str_x.2.2.2.2.1 : cs.length ≤ 4000) (Str_x.2.2.2.2.2 : ∀ c ∈ cs, ¬ c < 0 ∧ ¬ (255 : Int32) < c) hp1) hZ (w_156 hw) (w_155 hw) (by decide) (by decide)) (g := (mkF mM 17 #[.val (.ref x), .val (.int d), .val (.int (Int32.ofNat f))] [(.int (Int32.ofNat (cs).length)), (.int (Int32.ofNat f)), (.int d), (.ref t)])) rfl (by rw [hml]; rfl) (argsL := [(.ref t), (.int d), (.int (Int32.ofNat f)), (.int (Int32.ofNat (cs).length))]) (rest := []) (lenOf pd_2 rfl) rfl (by show 2 * 0 + _ ≤ _; exact Nat.le_of_eq rfl) (hb hby d_jdk_42_method_80_17) (fun _ _ => ⟨rfl, Kq3, (by decide : 0 + 0 ≤ _), (by decide : 0 + 0 ≤ _)⟩)
  dsimp only [Pt.U, Pt.locs, Pt.cells, Pt.slots] at X4 l4 y4 z4 st4 hQ4
  subst l4 y4 z4
  obtain ⟨rfl, rfl, Kq4⟩ := hQ4
  try rw [List.append_nil] at X4
  obtain ⟨fs, hr, hrun, hended, hW, hsame⟩ := X4.leave (v := some (.int (own_ixk cs d f (cs.length - f)))) (fun h => by rw [Bd.returns] at h; cases h)
  refine ⟨_, _, pre0 _ ?_, hrun, hended, _, _, rfl, ?_, ⟨_, rfl⟩, hW, hsame.mono (by decide) (by decide)⟩
  · refine XS.aloadN X0.here hx rfl (hb hby d_jdk_42_method_80_0) rfl rfl ?_
    show Steps pP.tables eE below (s₁.setTop (mkF mM 1 #[.val (.ref x), .val (.int d), .val (.int (Int32.ofNat f))] [(.ref x)])) _
    refine st1.trans ?_
    show Steps pP.tables eE below (T1.setTop (mkF mM 4 #[.val (.ref x), .val (.int d), .val (.int (Int32.ofNat f))] [(.int (1 : Int32))])) _
    refine XS.ifNo X1.here hx rfl (hb hby d_jdk_42_method_80_4) rfl ((if0 _ _).trans (feq (by decide : ¬ ((1 : Int32) = (0 : Int32)))).1) ?_
    show Steps pP.tables eE below (T1.setTop (mkF mM 7 #[.val (.ref x), .val (.int d), .val (.int (Int32.ofNat f))] [])) _
    refine XS.aloadN X1.here hx rfl (hb hby d_jdk_42_method_80_7) rfl rfl ?_
    show Steps pP.tables eE below (T1.setTop (mkF mM 8 #[.val (.ref x), .val (.int d), .val (.int (Int32.ofNat f))] [(.ref x)])) _
    refine st2 _ ?_
    show Steps pP.tables eE below (T2.setTop (mkF mM 11 #[.val (.ref x), .val (.int d), .val (.int (Int32.ofNat f))] [(.ref t)])) _
    refine XS.iloadN X2.here hx rfl (hb hby d_jdk_42_method_80_11) rfl ?_
    show Steps pP.tables eE below (T2.setTop (mkF mM 12 #[.val (.ref x), .val (.int d), .val (.int (Int32.ofNat f))] [(.int d), (.ref t)])) _
    refine XS.iloadN X2.here hx rfl (hb hby d_jdk_42_method_80_12) rfl ?_
    show Steps pP.tables eE below (T2.setTop (mkF mM 13 #[.val (.ref x), .val (.int d), .val (.int (Int32.ofNat f))] [(.int (Int32.ofNat f)), (.int d), (.ref t)])) _
    refine XS.aloadN X2.here hx rfl (hb hby d_jdk_42_method_80_13) rfl rfl ?_
    show Steps pP.tables eE below (T2.setTop (mkF mM 14 #[.val (.ref x), .val (.int d), .val (.int (Int32.ofNat f))] [(.ref x), (.int (Int32.ofNat f)), (.int d), (.ref t)])) _
    refine st3.trans ?_
    show Steps pP.tables eE below (T3.setTop (mkF mM 17 #[.val (.ref x), .val (.int d), .val (.int (Int32.ofNat f))] [(.int (Int32.ofNat (cs).length)), (.int (Int32.ofNat f)), (.int d), (.ref t)])) _
    refine st4 _ ?_
    show Steps pP.tables eE below (T4.setTop (mkF mM 20 #[.val (.ref x), .val (.int d), .val (.int (Int32.ofNat f))] [(.int (own_ixk cs d f (cs.length - f)))])) _
    refine XS.goto X4.here hx rfl (pc0 := 20) (pc' := 36) rfl (hb hby d_jdk_42_method_80_20) (by decide) (by decide) ?_
    show Steps pP.tables eE below (T4.setTop (mkF mM 36 #[.val (.ref x), .val (.int d), .val (.int (Int32.ofNat f))] [(.int (own_ixk cs d f (cs.length - f)))])) _
    exact retI X4 hx Bd.returns (hb hby d_jdk_42_method_80_36) hr
  · show Q_io Z x t kk cs d f zc fm h0 n0 _ T4.heap _
    rw [Kq4]
    exact ⟨rfl, rfl, rfl⟩
theorem ef_pinit (m : MethodId) (x0 : Addr) (x1 : Addr) (x2 : Int32) (x3 : Int32) (x4 : Int32) : entryFrame m #[(.ref x0), (.ref x1), (.int x2), (.int x3), (.int x4)] 5 = mkF m 0 #[.val (.ref x0), .val (.ref x1), .val (.int x2), .val (.int x3), .val (.int x4)] [] := by first | (simp [entryFrame, mkF, argsToLocals, Value.category]; done) | rfl
def Q_pinit (Z : State) (a : Addr) (x : Addr) (d : Int32) (f : Int32) (tt : Int32) (u1 : Value) (u2 : Value) (u3 : Value) (u4 : Value) (u5 : Value) (u6 : Value) (h0 : Heap) (n0 : Nat) (vV : Option Value) (h : Heap) (LL : List Loc) : Prop := vV = none ∧ Fr n0 LL ∧ Keep h0 h [a] ∧ Exa Z h a "com/example/resultwire/resultwire/er7/Pieces" ∧ Fld Z h a "com/example/resultwire/resultwire/er7/Pieces" "m_sText" "Ljava/lang/String;" (.ref x) ∧ Fld Z h a "com/example/resultwire/resultwire/er7/Pieces" "m_nDelimiter" "I" (.int d) ∧ Fld Z h a "com/example/resultwire/resultwire/er7/Pieces" "m_nTo" "I" (.int tt) ∧ Fld Z h a "com/example/resultwire/resultwire/er7/Pieces" "m_nFrom" "I" (.int f) ∧ Fld Z h a "com/example/resultwire/resultwire/er7/Pieces" "m_nEnd" "I" (.int f) ∧ Fld Z h a "com/example/resultwire/resultwire/er7/Pieces" "m_nStart" "I" (.int f) ∧ Fld Z h a "com/example/resultwire/resultwire/er7/Pieces" "m_nNumber" "I" (.int (0 : Int32))
set_option maxRecDepth 65536 in
set_option maxHeartbeats 40000000 in
theorem rm_pinit (l : Launch) (Z : State) (a0 : Array Value) (hw : ∀ d ∈ tables_1, d.before a0 Z = true) (ws : List Jvm.Cond) (a : Addr) (x : Addr) (d : Int32) (f : Int32) (tt : Int32) (u1 : Value) (u2 : Value) (u3 : Value) (u4 : Value) (u5 : Value) (u6 : Value) (h0 : Heap) (n0 : Nat) (O0 : Old Z n0 h0) (E_a : Exa Z h0 a "com/example/resultwire/resultwire/er7/Pieces") (F_a_m_sText : Fld Z h0 a "com/example/resultwire/resultwire/er7/Pieces" "m_sText" "Ljava/lang/String;" u1) (F_a_m_nDelimiter : Fld Z h0 a "com/example/resultwire/resultwire/er7/Pieces" "m_nDelimiter" "I" u2) (F_a_m_nTo : Fld Z h0 a "com/example/resultwire/resultwire/er7/Pieces" "m_nTo" "I" u3) (F_a_m_nFrom : Fld Z h0 a "com/example/resultwire/resultwire/er7/Pieces" "m_nFrom" "I" u4) (F_a_m_nStart : Fld Z h0 a "com/example/resultwire/resultwire/er7/Pieces" "m_nStart" "I" u5) (F_a_m_nEnd : Fld Z h0 a "com/example/resultwire/resultwire/er7/Pieces" "m_nEnd" "I" u6) (F_a_m_nNumber : Fld Z h0 a "com/example/resultwire/resultwire/er7/Pieces" "m_nNumber" "I" (.int (0 : Int32))) (g_a : n0 ≤ a) :
    MetFree l (⟨"com/example/resultwire/resultwire/er7/Pieces", "<init>", "(Ljava/lang/String;III)V"⟩ : MethodName) (head1 (Jvm.Cond.code (⟨"com/example/resultwire/resultwire/er7/Pieces", "<init>", "(Ljava/lang/String;III)V"⟩ : MethodName) prog_142_method_1_code 5 none :: ws) ({ frames := 1, cells := 0, slots := 0, locals := 12 } : Room)) (fun aa_ U => aa_ = #[(.ref a), (.ref x), (.int d), (.int f), (.int tt)] ∧ Z.Warmed39 U.vm ∧ U.heap = h0) (fun _ _ _ _ _ => True) (fun _ U o U' => ∃ vV LL, o = .returned vV ∧ Q_pinit Z a x d f tt u1 u2 u3 u4 u5 u6 h0 n0 vV U'.heap LL ∧ FrameEnd U o U' LL ({ frames := 1, cells := 0, slots := 0, locals := 12 } : Room).cells ({ frames := 1, cells := 0, slots := 0, locals := 12 } : Room).slots) := by
  refine MetFree.of_bodySF (plainFor_of_name pn_2) hisR ?_
  intro pP eE sS mM args below meth cC s₁ Bd hml0 hP hK
  obtain ⟨rfl, hZ, hh⟩ := hP
  have hx := Bd.exec
  have hby := Bd.bytes
  have hml : cC.maxLocals = 5 := hml0
  have hown : sS.vm.findClass "com/example/resultwire/resultwire/er7/Pieces" = some mM.cls := findClass_of_methodNamed Bd.named
  have hnm := (name_of_methodNamed Bd.named Bd.method).1
  have X0 : Stand pP l eE ({ frames := 1, cells := 0, slots := 0, locals := 12 } : Room) sS mM #[(.ref a), (.ref x), (.int d), (.int f), (.int tt)] below meth cC s₁ [] 0 0 := Stand.of_body Bd
  have e0 : s₁.heap = h0 := by rw [← hh, Bd.state]; rfl
  have N0 := Fr.nil n0
  have pre0 : ∀ tg, Steps pP.tables eE below (s₁.setTop (mkF mM 0 #[.val (.ref a), .val (.ref x), .val (.int d), .val (.int f), .val (.int tt)] [])) tg → Steps pP.tables eE below (s₁.setTop (entryFrame mM #[(.ref a), (.ref x), (.int d), (.int f), (.int tt)] 5)) tg := fun tg kg => castTop (ef_pinit mM a x d f tt) kg
  have K0 : Keep h0 h0 [a] := Keep.refl _ _
  obtain ⟨T1, X1, e1, st1⟩ := initO X0 hx hZ hown (w_87 hw) (w_17 hw) (w_18 hw) e0 (g := (mkF mM 1 #[.val (.ref a), .val (.ref x), .val (.int d), .val (.int f), .val (.int tt)] [(.ref a)])) rfl (by rw [hml]; rfl) rfl (hb hby d_prog_142_method_1_1) (by decide) (W := 0) (by show 2 * 0 + _ ≤ _; exact Nat.le_of_eq rfl) (by decide)
  obtain ⟨T2, h2, X2, e2, W2, st2⟩ := putF X1 hx hZ hown (host := "") (Or.inl (w_88 hw)) Via.refl e1 F_a_m_sText E_a (Or.inr ⟨(w_89 hw), rfl, hnm⟩) (w_82 hw) (ty := (.object "java/lang/String")) (by decide) rfl rfl (g := (mkF mM 6 #[.val (.ref a), .val (.ref x), .val (.int d), .val (.int f), .val (.int tt)] [(.ref x), (.ref a)])) rfl rfl (hb hby d_prog_142_method_1_6)
  have K3 : Keep h0 h2 [a] := K0.wr W2 (Or.inl (List.mem_of_getElem? (i := 0) rfl))
  have Fw2 : Fld Z h2 a "com/example/resultwire/resultwire/er7/Pieces" "m_sText" "Ljava/lang/String;" (.ref x) := F_a_m_sText.same W2
  have N2 := Fr.snoc X2 N0 g_a
  have f4 := (F_a_m_nDelimiter.other W2 (Or.inr (slot_ne (Or.inr (w_91 hw)) (Or.inr (w_89 hw)) (by decide) (t := .int) (t' := (.object "java/lang/String")) (by decide) (by decide))))
  have f5 := (E_a.wr W2)
  obtain ⟨T6, h6, X6, e6, W6, st6⟩ := putF X2 hx hZ hown (host := "") (Or.inl (w_90 hw)) Via.refl e2 f4 f5 (Or.inr ⟨(w_91 hw), rfl, hnm⟩) (w_82 hw) (ty := .int) (by decide) rfl rfl (g := (mkF mM 11 #[.val (.ref a), .val (.ref x), .val (.int d), .val (.int f), .val (.int tt)] [(.int d), (.ref a)])) rfl rfl (hb hby d_prog_142_method_1_11)
  have K7 : Keep h0 h6 [a] := K3.wr W6 (Or.inl (List.mem_of_getElem? (i := 0) rfl))
  have Fw6 : Fld Z h6 a "com/example/resultwire/resultwire/er7/Pieces" "m_nDelimiter" "I" (.int d) := f4.same W6
  have N6 := Fr.snoc X6 N2 g_a
  have f8 := ((F_a_m_nTo.other W2 (Or.inr (slot_ne (Or.inr (w_93 hw)) (Or.inr (w_89 hw)) (by decide) (t := .int) (t' := (.object "java/lang/String")) (by decide) (by decide)))).other W6 (Or.inr (slot_ne (Or.inr (w_93 hw)) (Or.inr (w_91 hw)) (by decide) (t := .int) (t' := .int) (by decide) (by decide))))
  have f9 := (f5.wr W6)
  obtain ⟨T10, h10, X10, e10, W10, st10⟩ := putF X6 hx hZ hown (host := "") (Or.inl (w_92 hw)) Via.refl e6 f8 f9 (Or.inr ⟨(w_93 hw), rfl, hnm⟩) (w_82 hw) (ty := .int) (by decide) rfl rfl (g := (mkF mM 17 #[.val (.ref a), .val (.ref x), .val (.int d), .val (.int f), .val (.int tt)] [(.int tt), (.ref a)])) rfl rfl (hb hby d_prog_142_method_1_17)
  have K11 : Keep h0 h10 [a] := K7.wr W10 (Or.inl (List.mem_of_getElem? (i := 0) rfl))
  have Fw10 : Fld Z h10 a "com/example/resultwire/resultwire/er7/Pieces" "m_nTo" "I" (.int tt) := f8.same W10
  have N10 := Fr.snoc X10 N6 g_a
  have f12 := (((F_a_m_nFrom.other W2 (Or.inr (slot_ne (Or.inl (w_95 hw)) (Or.inr (w_89 hw)) (by decide) (t := .int) (t' := (.object "java/lang/String")) (by decide) (by decide)))).other W6 (Or.inr (slot_ne (Or.inl (w_95 hw)) (Or.inr (w_91 hw)) (by decide) (t := .int) (t' := .int) (by decide) (by decide)))).other W10 (Or.inr (slot_ne (Or.inl (w_95 hw)) (Or.inr (w_93 hw)) (by decide) (t := .int) (t' := .int) (by decide) (by decide))))
  have f13 := (f9.wr W10)
  obtain ⟨T14, h14, X14, e14, W14, st14⟩ := putF X10 hx hZ hown (host := "") (Or.inl (w_94 hw)) Via.refl e10 f12 f13 (Or.inl (w_95 hw)) (w_82 hw) (ty := .int) (by decide) rfl rfl (g := (mkF mM 22 #[.val (.ref a), .val (.ref x), .val (.int d), .val (.int f), .val (.int tt)] [(.int f), (.ref a)])) rfl rfl (hb hby d_prog_142_method_1_22)
  have K15 : Keep h0 h14 [a] := K11.wr W14 (Or.inl (List.mem_of_getElem? (i := 0) rfl))
  have Fw14 : Fld Z h14 a "com/example/resultwire/resultwire/er7/Pieces" "m_nFrom" "I" (.int f) := f12.same W14
  have N14 := Fr.snoc X14 N10 g_a
  have f16 := ((((F_a_m_nStart.other W2 (Or.inr (slot_ne (Or.inl (w_97 hw)) (Or.inr (w_89 hw)) (by decide) (t := .int) (t' := (.object "java/lang/String")) (by decide) (by decide)))).other W6 (Or.inr (slot_ne (Or.inl (w_97 hw)) (Or.inr (w_91 hw)) (by decide) (t := .int) (t' := .int) (by decide) (by decide)))).other W10 (Or.inr (slot_ne (Or.inl (w_97 hw)) (Or.inr (w_93 hw)) (by decide) (t := .int) (t' := .int) (by decide) (by decide)))).other W14 (Or.inr (slot_ne (Or.inl (w_97 hw)) (Or.inl (w_95 hw)) (by decide) (t := .int) (t' := .int) (by decide) (by decide))))
  have f17 := (f13.wr W14)
  obtain ⟨T18, h18, X18, e18, W18, st18⟩ := putF X14 hx hZ hown (host := "") (Or.inl (w_96 hw)) Via.refl e14 f16 f17 (Or.inl (w_97 hw)) (w_82 hw) (ty := .int) (by decide) rfl rfl (g := (mkF mM 27 #[.val (.ref a), .val (.ref x), .val (.int d), .val (.int f), .val (.int tt)] [(.int f), (.ref a)])) rfl rfl (hb hby d_prog_142_method_1_27)
  have K19 : Keep h0 h18 [a] := K15.wr W18 (Or.inl (List.mem_of_getElem? (i := 0) rfl))
  have Fw18 : Fld Z h18 a "com/example/resultwire/resultwire/er7/Pieces" "m_nStart" "I" (.int f) := f16.same W18
  have N18 := Fr.snoc X18 N14 g_a
  have f20 := (((((F_a_m_nEnd.other W2 (Or.inr (slot_ne (Or.inl (w_99 hw)) (Or.inr (w_89 hw)) (by decide) (t := .int) (t' := (.object "java/lang/String")) (by decide) (by decide)))).other W6 (Or.inr (slot_ne (Or.inl (w_99 hw)) (Or.inr (w_91 hw)) (by decide) (t := .int) (t' := .int) (by decide) (by decide)))).other W10 (Or.inr (slot_ne (Or.inl (w_99 hw)) (Or.inr (w_93 hw)) (by decide) (t := .int) (t' := .int) (by decide) (by decide)))).other W14 (Or.inr (slot_ne (Or.inl (w_99 hw)) (Or.inl (w_95 hw)) (by decide) (t := .int) (t' := .int) (by decide) (by decide)))).other W18 (Or.inr (slot_ne (Or.inl (w_99 hw)) (Or.inl (w_97 hw)) (by decide) (t := .int) (t' := .int) (by decide) (by decide))))
  have f21 := (f17.wr W18)
  obtain ⟨T22, h22, X22, e22, W22, st22⟩ := putF X18 hx hZ hown (host := "") (Or.inl (w_98 hw)) Via.refl e18 f20 f21 (Or.inl (w_99 hw)) (w_82 hw) (ty := .int) (by decide) rfl rfl (g := (mkF mM 32 #[.val (.ref a), .val (.ref x), .val (.int d), .val (.int f), .val (.int tt)] [(.int f), (.ref a)])) rfl rfl (hb hby d_prog_142_method_1_32)
  have K23 : Keep h0 h22 [a] := K19.wr W22 (Or.inl (List.mem_of_getElem? (i := 0) rfl))
  have Fw22 : Fld Z h22 a "com/example/resultwire/resultwire/er7/Pieces" "m_nEnd" "I" (.int f) := f20.same W22
  have N22 := Fr.snoc X22 N18 g_a
  have f25 := (f21.wr W22)
  have f26 := (((((Fw2.other W6 (Or.inr (slot_ne (Or.inr (w_89 hw)) (Or.inr (w_91 hw)) (by decide) (t := (.object "java/lang/String")) (t' := .int) (by decide) (by decide)))).other W10 (Or.inr (slot_ne (Or.inr (w_89 hw)) (Or.inr (w_93 hw)) (by decide) (t := (.object "java/lang/String")) (t' := .int) (by decide) (by decide)))).other W14 (Or.inr (slot_ne (Or.inr (w_89 hw)) (Or.inl (w_95 hw)) (by decide) (t := (.object "java/lang/String")) (t' := .int) (by decide) (by decide)))).other W18 (Or.inr (slot_ne (Or.inr (w_89 hw)) (Or.inl (w_97 hw)) (by decide) (t := (.object "java/lang/String")) (t' := .int) (by decide) (by decide)))).other W22 (Or.inr (slot_ne (Or.inr (w_89 hw)) (Or.inl (w_99 hw)) (by decide) (t := (.object "java/lang/String")) (t' := .int) (by decide) (by decide))))
  have f27 := ((((Fw6.other W10 (Or.inr (slot_ne (Or.inr (w_91 hw)) (Or.inr (w_93 hw)) (by decide) (t := .int) (t' := .int) (by decide) (by decide)))).other W14 (Or.inr (slot_ne (Or.inr (w_91 hw)) (Or.inl (w_95 hw)) (by decide) (t := .int) (t' := .int) (by decide) (by decide)))).other W18 (Or.inr (slot_ne (Or.inr (w_91 hw)) (Or.inl (w_97 hw)) (by decide) (t := .int) (t' := .int) (by decide) (by decide)))).other W22 (Or.inr (slot_ne (Or.inr (w_91 hw)) (Or.inl (w_99 hw)) (by decide) (t := .int) (t' := .int) (by decide) (by decide))))
  have f28 := (((Fw10.other W14 (Or.inr (slot_ne (Or.inr (w_93 hw)) (Or.inl (w_95 hw)) (by decide) (t := .int) (t' := .int) (by decide) (by decide)))).other W18 (Or.inr (slot_ne (Or.inr (w_93 hw)) (Or.inl (w_97 hw)) (by decide) (t := .int) (t' := .int) (by decide) (by decide)))).other W22 (Or.inr (slot_ne (Or.inr (w_93 hw)) (Or.inl (w_99 hw)) (by decide) (t := .int) (t' := .int) (by decide) (by decide))))
  have f29 := ((Fw14.other W18 (Or.inr (slot_ne (Or.inl (w_95 hw)) (Or.inl (w_97 hw)) (by decide) (t := .int) (t' := .int) (by decide) (by decide)))).other W22 (Or.inr (slot_ne (Or.inl (w_95 hw)) (Or.inl (w_99 hw)) (by decide) (t := .int) (t' := .int) (by decide) (by decide))))
  have f30 := (Fw18.other W22 (Or.inr (slot_ne (Or.inl (w_97 hw)) (Or.inl (w_99 hw)) (by decide) (t := .int) (t' := .int) (by decide) (by decide))))
  have f31 := ((((((F_a_m_nNumber.other W2 (Or.inr (slot_ne (Or.inl (w_125 hw)) (Or.inr (w_89 hw)) (by decide) (t := .int) (t' := (.object "java/lang/String")) (by decide) (by decide)))).other W6 (Or.inr (slot_ne (Or.inl (w_125 hw)) (Or.inr (w_91 hw)) (by decide) (t := .int) (t' := .int) (by decide) (by decide)))).other W10 (Or.inr (slot_ne (Or.inl (w_125 hw)) (Or.inr (w_93 hw)) (by decide) (t := .int) (t' := .int) (by decide) (by decide)))).other W14 (Or.inr (slot_ne (Or.inl (w_125 hw)) (Or.inl (w_95 hw)) (by decide) (t := .int) (t' := .int) (by decide) (by decide)))).other W18 (Or.inr (slot_ne (Or.inl (w_125 hw)) (Or.inl (w_97 hw)) (by decide) (t := .int) (t' := .int) (by decide) (by decide)))).other W22 (Or.inr (slot_ne (Or.inl (w_125 hw)) (Or.inl (w_99 hw)) (by decide) (t := .int) (t' := .int) (by decide) (by decide))))
  obtain ⟨fs, hr, hrun, hended, hW, hsame⟩ := X22.leave (v := none) (fun _ => rfl)
  refine ⟨_, _, pre0 _ ?_, hrun, hended, _, _, rfl, ?_, ⟨_, rfl⟩, hW, hsame.mono (by decide) (by decide)⟩
  · refine XS.aloadN X0.here hx rfl (hb hby d_prog_142_method_1_0) rfl rfl ?_
    show Steps pP.tables eE below (s₁.setTop (mkF mM 1 #[.val (.ref a), .val (.ref x), .val (.int d), .val (.int f), .val (.int tt)] [(.ref a)])) _
    refine st1 _ ?_
    show Steps pP.tables eE below (T1.setTop (mkF mM 4 #[.val (.ref a), .val (.ref x), .val (.int d), .val (.int f), .val (.int tt)] [])) _
    refine XS.aloadN X1.here hx rfl (hb hby d_prog_142_method_1_4) rfl rfl ?_
    show Steps pP.tables eE below (T1.setTop (mkF mM 5 #[.val (.ref a), .val (.ref x), .val (.int d), .val (.int f), .val (.int tt)] [(.ref a)])) _
    refine XS.aloadN X1.here hx rfl (hb hby d_prog_142_method_1_5) rfl rfl ?_
    show Steps pP.tables eE below (T1.setTop (mkF mM 6 #[.val (.ref a), .val (.ref x), .val (.int d), .val (.int f), .val (.int tt)] [(.ref x), (.ref a)])) _
    refine st2 _ ?_
    show Steps pP.tables eE below (T2.setTop (mkF mM 9 #[.val (.ref a), .val (.ref x), .val (.int d), .val (.int f), .val (.int tt)] [])) _
    refine XS.aloadN X2.here hx rfl (hb hby d_prog_142_method_1_9) rfl rfl ?_
    show Steps pP.tables eE below (T2.setTop (mkF mM 10 #[.val (.ref a), .val (.ref x), .val (.int d), .val (.int f), .val (.int tt)] [(.ref a)])) _
    refine XS.iloadN X2.here hx rfl (hb hby d_prog_142_method_1_10) rfl ?_
    show Steps pP.tables eE below (T2.setTop (mkF mM 11 #[.val (.ref a), .val (.ref x), .val (.int d), .val (.int f), .val (.int tt)] [(.int d), (.ref a)])) _
    refine st6 _ ?_
    show Steps pP.tables eE below (T6.setTop (mkF mM 14 #[.val (.ref a), .val (.ref x), .val (.int d), .val (.int f), .val (.int tt)] [])) _
    refine XS.aloadN X6.here hx rfl (hb hby d_prog_142_method_1_14) rfl rfl ?_
    show Steps pP.tables eE below (T6.setTop (mkF mM 15 #[.val (.ref a), .val (.ref x), .val (.int d), .val (.int f), .val (.int tt)] [(.ref a)])) _
    refine XS.iload X6.here hx rfl (hb hby d_prog_142_method_1_15) rfl ?_
    show Steps pP.tables eE below (T6.setTop (mkF mM 17 #[.val (.ref a), .val (.ref x), .val (.int d), .val (.int f), .val (.int tt)] [(.int tt), (.ref a)])) _
    refine st10 _ ?_
    show Steps pP.tables eE below (T10.setTop (mkF mM 20 #[.val (.ref a), .val (.ref x), .val (.int d), .val (.int f), .val (.int tt)] [])) _
    refine XS.aloadN X10.here hx rfl (hb hby d_prog_142_method_1_20) rfl rfl ?_
    show Steps pP.tables eE below (T10.setTop (mkF mM 21 #[.val (.ref a), .val (.ref x), .val (.int d), .val (.int f), .val (.int tt)] [(.ref a)])) _
    refine XS.iloadN X10.here hx rfl (hb hby d_prog_142_method_1_21) rfl ?_
    show Steps pP.tables eE below (T10.setTop (mkF mM 22 #[.val (.ref a), .val (.ref x), .val (.int d), .val (.int f), .val (.int tt)] [(.int f), (.ref a)])) _
    refine st14 _ ?_
    show Steps pP.tables eE below (T14.setTop (mkF mM 25 #[.val (.ref a), .val (.ref x), .val (.int d), .val (.int f), .val (.int tt)] [])) _
    refine XS.aloadN X14.here hx rfl (hb hby d_prog_142_method_1_25) rfl rfl ?_
    show Steps pP.tables eE below (T14.setTop (mkF mM 26 #[.val (.ref a), .val (.ref x), .val (.int d), .val (.int f), .val (.int tt)] [(.ref a)])) _
    refine XS.iloadN X14.here hx rfl (hb hby d_prog_142_method_1_26) rfl ?_
    show Steps pP.tables eE below (T14.setTop (mkF mM 27 #[.val (.ref a), .val (.ref x), .val (.int d), .val (.int f), .val (.int tt)] [(.int f), (.ref a)])) _
    refine st18 _ ?_
    show Steps pP.tables eE below (T18.setTop (mkF mM 30 #[.val (.ref a), .val (.ref x), .val (.int d), .val (.int f), .val (.int tt)] [])) _
    refine XS.aloadN X18.here hx rfl (hb hby d_prog_142_method_1_30) rfl rfl ?_
    show Steps pP.tables eE below (T18.setTop (mkF mM 31 #[.val (.ref a), .val (.ref x), .val (.int d), .val (.int f), .val (.int tt)] [(.ref a)])) _
    refine XS.iloadN X18.here hx rfl (hb hby d_prog_142_method_1_31) rfl ?_
    show Steps pP.tables eE below (T18.setTop (mkF mM 32 #[.val (.ref a), .val (.ref x), .val (.int d), .val (.int f), .val (.int tt)] [(.int f), (.ref a)])) _
    refine st22 _ ?_
    show Steps pP.tables eE below (T22.setTop (mkF mM 35 #[.val (.ref a), .val (.ref x), .val (.int d), .val (.int f), .val (.int tt)] [])) _
    exact X22.returnOut hx Bd.returns (hb hby d_prog_142_method_1_35) hr
  · show Q_pinit Z a x d f tt u1 u2 u3 u4 u5 u6 h0 n0 _ T22.heap _
    rw [e22]
    exact ⟨rfl, N22, K23, f25, f26, f27, f28, f29, Fw22, f30, f31⟩
theorem ef_hn (m : MethodId) (x0 : Addr) : entryFrame m #[(.ref x0)] 1 = mkF m 0 #[.val (.ref x0)] [] := by first | (simp [entryFrame, mkF, argsToLocals, Value.category]; done) | rfl
def Q_hn (Z : State) (a : Addr) (p : Int32) (q : Int32) (h0 : Heap) (n0 : Nat) (vV : Option Value) (h : Heap) (LL : List Loc) : Prop := vV = some (.int (own_hn p q)) ∧ LL = [] ∧ h = h0
set_option maxRecDepth 65536 in
set_option maxHeartbeats 40000000 in
theorem rm_hn (l : Launch) (Z : State) (a0 : Array Value) (hw : ∀ d ∈ tables_1, d.before a0 Z = true) (ws : List Jvm.Cond) (a : Addr) (p : Int32) (q : Int32) (h0 : Heap) (n0 : Nat) (O0 : Old Z n0 h0) (F_a_m_nFrom : Fld Z h0 a "com/example/resultwire/resultwire/er7/Pieces" "m_nFrom" "I" (.int p)) (F_a_m_nTo : Fld Z h0 a "com/example/resultwire/resultwire/er7/Pieces" "m_nTo" "I" (.int q)) :
    MetFree l (⟨"com/example/resultwire/resultwire/er7/Pieces", "hasNext", "()Z"⟩ : MethodName) (head1 (Jvm.Cond.code (⟨"com/example/resultwire/resultwire/er7/Pieces", "hasNext", "()Z"⟩ : MethodName) prog_142_method_9_code 1 (some .boolean) :: ws) ({ frames := 0, cells := 0, slots := 0, locals := 0 } : Room)) (fun aa_ U => aa_ = #[(.ref a)] ∧ Z.Warmed39 U.vm ∧ U.heap = h0) (fun _ _ _ _ _ => True) (fun _ U o U' => ∃ vV LL, o = .returned vV ∧ Q_hn Z a p q h0 n0 vV U'.heap LL ∧ FrameEnd U o U' LL ({ frames := 0, cells := 0, slots := 0, locals := 0 } : Room).cells ({ frames := 0, cells := 0, slots := 0, locals := 0 } : Room).slots) := by
  refine MetFree.of_bodySF (plainFor_of_name pn_2) hisR ?_
  intro pP eE sS mM args below meth cC s₁ Bd hml0 hP hK
  obtain ⟨rfl, hZ, hh⟩ := hP
  have hx := Bd.exec
  have hby := Bd.bytes
  have hml : cC.maxLocals = 1 := hml0
  have hown : sS.vm.findClass "com/example/resultwire/resultwire/er7/Pieces" = some mM.cls := findClass_of_methodNamed Bd.named
  have hnm := (name_of_methodNamed Bd.named Bd.method).1
  have X0 : Stand pP l eE ({ frames := 0, cells := 0, slots := 0, locals := 0 } : Room) sS mM #[(.ref a)] below meth cC s₁ [] 0 0 := Stand.of_body Bd
  have e0 : s₁.heap = h0 := by rw [← hh, Bd.state]; rfl
  have N0 := Fr.nil n0
  have pre0 : ∀ tg, Steps pP.tables eE below (s₁.setTop (mkF mM 0 #[.val (.ref a)] [])) tg → Steps pP.tables eE below (s₁.setTop (entryFrame mM #[(.ref a)] 1)) tg := fun tg kg => castTop (ef_hn mM a) kg
  obtain ⟨T1, X1, e1, st1⟩ := getF X0 hx hZ hown (host := "") (Or.inl (w_94 hw)) Via.refl e0 F_a_m_nFrom (g := (mkF mM 1 #[.val (.ref a)] [(.ref a)])) rfl rfl (hb hby d_prog_142_method_9_1)
  obtain ⟨T2, X2, e2, st2⟩ := getF X1 hx hZ hown (host := "") (Or.inl (w_92 hw)) Via.refl e1 F_a_m_nTo (g := (mkF mM 5 #[.val (.ref a)] [(.ref a), (.int p)])) rfl rfl (hb hby d_prog_142_method_9_5)
  have pre4 : ∀ tg, Steps pP.tables eE below (T2.setTop (mkF mM 8 #[.val (.ref a)] [(.int q), (.int p)])) tg → Steps pP.tables eE below (s₁.setTop (entryFrame mM #[(.ref a)] 1)) tg := fun tg kg => pre0 tg (by
    refine XS.aloadN X0.here hx rfl (hb hby d_prog_142_method_9_0) rfl rfl ?_
    show Steps pP.tables eE below (s₁.setTop (mkF mM 1 #[.val (.ref a)] [(.ref a)])) _
    refine st1 _ ?_
    show Steps pP.tables eE below (T1.setTop (mkF mM 4 #[.val (.ref a)] [(.int p)])) _
    refine XS.aloadN X1.here hx rfl (hb hby d_prog_142_method_9_4) rfl rfl ?_
    show Steps pP.tables eE below (T1.setTop (mkF mM 5 #[.val (.ref a)] [(.ref a), (.int p)])) _
    refine st2 _ ?_
    exact kg)
  by_cases hc3 : q < p
  · obtain ⟨fs, hr, hrun, hended, hW, hsame⟩ := X2.leave (v := some (.int (0 : Int32))) (fun h => by rw [Bd.returns] at h; cases h)
    refine ⟨_, _, pre4 _ ?_, hrun, hended, _, _, rfl, ?_, ⟨_, rfl⟩, hW, hsame.mono (by decide) (by decide)⟩
    · refine XS.icmpYes X2.here hx rfl (pc0 := 8) (pc' := 15) rfl (hb hby d_prog_142_method_9_8) rfl (tlt hc3).2.2.1 (by decide) (by decide) ?_
      show Steps pP.tables eE below (T2.setTop (mkF mM 15 #[.val (.ref a)] [])) _
      refine XS.iconst X2.here hx rfl (hb hby d_prog_142_method_9_15) ?_
      show Steps pP.tables eE below (T2.setTop (mkF mM 16 #[.val (.ref a)] [(.int (0 : Int32))])) _
      exact retN X2 hx (t := .boolean) Bd.returns (by simp) (hb hby d_prog_142_method_9_16) hr
    · show Q_hn Z a p q h0 n0 _ T2.heap _
      rw [e2]
      exact ⟨(by rw [own_hn, if_pos hc3]), rfl, rfl⟩
  · obtain ⟨fs, hr, hrun, hended, hW, hsame⟩ := X2.leave (v := some (.int (1 : Int32))) (fun h => by rw [Bd.returns] at h; cases h)
    refine ⟨_, _, pre4 _ ?_, hrun, hended, _, _, rfl, ?_, ⟨_, rfl⟩, hW, hsame.mono (by decide) (by decide)⟩
    · refine XS.icmpNo X2.here hx rfl (hb hby d_prog_142_method_9_8) rfl (flt hc3).2.2.1 ?_
      show Steps pP.tables eE below (T2.setTop (mkF mM 11 #[.val (.ref a)] [])) _
      refine XS.iconst X2.here hx rfl (hb hby d_prog_142_method_9_11) ?_
      show Steps pP.tables eE below (T2.setTop (mkF mM 12 #[.val (.ref a)] [(.int (1 : Int32))])) _
      refine XS.goto X2.here hx rfl (pc0 := 12) (pc' := 16) rfl (hb hby d_prog_142_method_9_12) (by decide) (by decide) ?_
      show Steps pP.tables eE below (T2.setTop (mkF mM 16 #[.val (.ref a)] [(.int (1 : Int32))])) _
      exact retN X2 hx (t := .boolean) Bd.returns (by simp) (hb hby d_prog_142_method_9_16) hr
    · show Q_hn Z a p q h0 n0 _ T2.heap _
      rw [e2]
      exact ⟨(by rw [own_hn, if_neg hc3]), rfl, rfl⟩
set_option maxRecDepth 65536 in
set_option maxHeartbeats 40000000 in
theorem lp_eo {pP : Program} {l : Launch} {eE : Env} {sS : State} {mM : MethodId} {args : Array Value} {below : List Frame} {meth : Method} {cC : Code} {locs : List Loc} {Z : State} {a0 : Array Value} (x : Addr) (t : Addr) (kk : ClassId) (cs : List Int32) (d : Int32) (f : Nat) (tt : Nat) (zc : Int32) (fm : Value) {h0 : Heap} {n0 : Nat} (hx : pP.tables.exec = Jvm.exec) (hZ : Z.Warmed39 sS.vm) (hw : ∀ d ∈ tables_1, d.before a0 Z = true) (hby : cC.code = prog_142_method_3_code) (hml : cC.maxLocals = 6) (hown : sS.vm.findClass "com/example/resultwire/resultwire/er7/Pieces" = some mM.cls) (O0 : Old Z n0 h0) (Str_x : own_Str Z h0 x t kk cs) (hp1 : (tt ≤ cs.length)) (S_COMPACT_STRINGS : Sta Z Z.heap "java/lang/String" "COMPACT_STRINGS" "Z" (.int zc)) (hp3 : (¬ (zc = (0 : Int32)))) (S_SIOOBE_FORMATTER : Sta Z Z.heap "jdk/internal/util/Preconditions" "SIOOBE_FORMATTER" "Ljava/util/function/BiFunction;" fm) (hp5 : (fm.isRef = true)) :
    ∀ (k : Nat) (i : Nat) {T0 : State} (X0 : Stand pP l eE ({ frames := 4, cells := 0, slots := 0, locals := 60 } : Room) sS mM args below meth cC T0 locs 0 0) (e0 : T0.heap = h0) (hik : i + k = tt), own_To pP l eE ({ frames := 4, cells := 0, slots := 0, locals := 60 } : Room) sS mM args below meth cC locs 0 0 h0 T0 (mkF mM 42 #[.val (.ref x), .val (.int d), .val (.int (Int32.ofNat f)), .val (.int (Int32.ofNat tt)), .val (.int (Int32.ofNat tt)), .val (.int (Int32.ofNat i))] []) (mkF mM 64 #[.val (.ref x), .val (.int d), .val (.int (Int32.ofNat f)), .val (.int (Int32.ofNat tt)), .val (.int (Int32.ofNat tt)), .val (.int (Int32.ofNat (own_end cs d i k)))] []) := by
  have l4 := Str_x.2.2.2.2.1
  intro k
  induction k with
  | zero =>
    intro i T0 X0 e0 hik
    refine ⟨T0, X0, e0, fun tg kg => ?_⟩
    rw [show own_end cs d i 0 = i from rfl] at kg
    refine XS.iload X0.here hx rfl (hb hby d_prog_142_method_3_42) rfl ?_
    show Steps pP.tables eE below (T0.setTop (mkF mM 44 #[.val (.ref x), .val (.int d), .val (.int (Int32.ofNat f)), .val (.int (Int32.ofNat tt)), .val (.int (Int32.ofNat tt)), .val (.int (Int32.ofNat i))] [(.int (Int32.ofNat i))])) _
    refine XS.iloadN X0.here hx rfl (hb hby d_prog_142_method_3_44) rfl ?_
    show Steps pP.tables eE below (T0.setTop (mkF mM 45 #[.val (.ref x), .val (.int d), .val (.int (Int32.ofNat f)), .val (.int (Int32.ofNat tt)), .val (.int (Int32.ofNat tt)), .val (.int (Int32.ofNat i))] [(.int (Int32.ofNat tt)), (.int (Int32.ofNat i))])) _
    refine XS.icmpYes X0.here hx rfl (pc0 := 45) (pc' := 64) rfl (hb hby d_prog_142_method_3_45) rfl (flt (own_nlt (by omega) (by omega))).2.1 (by decide) (by decide) ?_
    exact kg
  | succ k ih =>
    intro i T0 X0 e0 hik
    obtain ⟨cq1, kq1, q1a, q1b, q1c⟩ := isOf hZ e0 (Str_x).1
    obtain ⟨_, _, ⟨T1, L1, k1, n1⟩, -, X1, ⟨Lc1, hQ1, l1, y1, z1⟩, st1⟩ := X0.virtualBack hx (y := (⟨"java/lang/String", "charAt", "(I)C"⟩ : MethodName)) (z := (⟨"java/lang/String", "charAt", "(I)C"⟩ : MethodName)) hown (mvT hZ (w_162 hw)) (mvT hZ (w_163 hw)) (notFace_of_selects (args := #[]) (mvT hZ (w_165 hw))) (mvT hZ (w_165 hw)) (mvT hZ (w_164 hw)) (by decide) (own_chr (W := 0) hZ hw (⟨(Str_x).1, (Str_x).2.1, (Str_x).2.2.1, (Str_x).2.2.2.1, (Str_x).2.2.2.2⟩ : own_Str Z h0 x t kk cs) (Sta.ext (O0).2 S_COMPACT_STRINGS) hp3 (Sta.ext (O0).2 S_SIOOBE_FORMATTER) hp5 (i := i) (by omega) rfl (by decide) (by decide)) q1a q1c (g := (mkF mM 51 #[.val (.ref x), .val (.int d), .val (.int (Int32.ofNat f)), .val (.int (Int32.ofNat tt)), .val (.int (Int32.ofNat tt)), .val (.int (Int32.ofNat i))] [(.int (Int32.ofNat i)), (.ref x)])) rfl (by rw [hml]; rfl) (Steps.refl _) (argsL := [(.int (Int32.ofNat i))]) (rest := []) (lenOf pd_5 rfl) rfl (by show 2 * 0 + _ ≤ _; exact Nat.le_of_eq rfl) (hb hby d_prog_142_method_3_51) (fun _ _ => ⟨rfl, e0, (by decide : 0 + 0 ≤ _), (by decide : 0 + 0 ≤ _)⟩)
    dsimp only [Pt.U, Pt.locs, Pt.cells, Pt.slots] at X1 l1 y1 z1 st1 hQ1
    subst l1 y1 z1
    obtain ⟨rfl, rfl, Kq1⟩ := hQ1
    try rw [List.append_nil] at X1
    have pre3 : ∀ tg, Steps pP.tables eE below (T1.setTop (mkF mM 55 #[.val (.ref x), .val (.int d), .val (.int (Int32.ofNat f)), .val (.int (Int32.ofNat tt)), .val (.int (Int32.ofNat tt)), .val (.int (Int32.ofNat i))] [(.int d), (.int ((cs).getD i 0))])) tg → Steps pP.tables eE below (T0.setTop (mkF mM 42 #[.val (.ref x), .val (.int d), .val (.int (Int32.ofNat f)), .val (.int (Int32.ofNat tt)), .val (.int (Int32.ofNat tt)), .val (.int (Int32.ofNat i))] [])) tg := fun tg kg => (by
      refine XS.iload X0.here hx rfl (hb hby d_prog_142_method_3_42) rfl ?_
      show Steps pP.tables eE below (T0.setTop (mkF mM 44 #[.val (.ref x), .val (.int d), .val (.int (Int32.ofNat f)), .val (.int (Int32.ofNat tt)), .val (.int (Int32.ofNat tt)), .val (.int (Int32.ofNat i))] [(.int (Int32.ofNat i))])) _
      refine XS.iloadN X0.here hx rfl (hb hby d_prog_142_method_3_44) rfl ?_
      show Steps pP.tables eE below (T0.setTop (mkF mM 45 #[.val (.ref x), .val (.int d), .val (.int (Int32.ofNat f)), .val (.int (Int32.ofNat tt)), .val (.int (Int32.ofNat tt)), .val (.int (Int32.ofNat i))] [(.int (Int32.ofNat tt)), (.int (Int32.ofNat i))])) _
      refine XS.icmpNo X0.here hx rfl (hb hby d_prog_142_method_3_45) rfl (tlt (own_lt (by omega) (by omega))).2.1 ?_
      show Steps pP.tables eE below (T0.setTop (mkF mM 48 #[.val (.ref x), .val (.int d), .val (.int (Int32.ofNat f)), .val (.int (Int32.ofNat tt)), .val (.int (Int32.ofNat tt)), .val (.int (Int32.ofNat i))] [])) _
      refine XS.aloadN X0.here hx rfl (hb hby d_prog_142_method_3_48) rfl rfl ?_
      show Steps pP.tables eE below (T0.setTop (mkF mM 49 #[.val (.ref x), .val (.int d), .val (.int (Int32.ofNat f)), .val (.int (Int32.ofNat tt)), .val (.int (Int32.ofNat tt)), .val (.int (Int32.ofNat i))] [(.ref x)])) _
      refine XS.iload X0.here hx rfl (hb hby d_prog_142_method_3_49) rfl ?_
      show Steps pP.tables eE below (T0.setTop (mkF mM 51 #[.val (.ref x), .val (.int d), .val (.int (Int32.ofNat f)), .val (.int (Int32.ofNat tt)), .val (.int (Int32.ofNat tt)), .val (.int (Int32.ofNat i))] [(.int (Int32.ofNat i)), (.ref x)])) _
      refine st1.trans ?_
      show Steps pP.tables eE below (T1.setTop (mkF mM 54 #[.val (.ref x), .val (.int d), .val (.int (Int32.ofNat f)), .val (.int (Int32.ofNat tt)), .val (.int (Int32.ofNat tt)), .val (.int (Int32.ofNat i))] [(.int ((cs).getD i 0))])) _
      refine XS.iloadN X1.here hx rfl (hb hby d_prog_142_method_3_54) rfl ?_
      exact kg)
    by_cases hc2 : ((cs).getD i 0) = d
    · refine ⟨T1, X1, Kq1, fun tg kg => ?_⟩
      rw [show own_end cs d i (k + 1) = i from if_pos hc2] at kg
      refine pre3 tg ?_
      refine XS.icmpYes X1.here hx rfl (pc0 := 55) (pc' := 64) rfl (hb hby d_prog_142_method_3_55) rfl (teq hc2).1 (by decide) (by decide) ?_
      exact kg
    · obtain ⟨T4, X4, e4, st4⟩ := ih (i + 1) X1 Kq1 (by omega)
      refine ⟨T4, X4, e4, fun tg kg => ?_⟩
      rw [show own_end cs d i (k + 1) = own_end cs d (i + 1) k from if_neg hc2] at kg
      refine pre3 tg ?_
      refine XS.icmpNo X1.here hx rfl (hb hby d_prog_142_method_3_55) rfl (feq hc2).1 ?_
      show Steps pP.tables eE below (T1.setTop (mkF mM 58 #[.val (.ref x), .val (.int d), .val (.int (Int32.ofNat f)), .val (.int (Int32.ofNat tt)), .val (.int (Int32.ofNat tt)), .val (.int (Int32.ofNat i))] [])) _
      refine XS.iinc X1.here hx rfl (hb hby d_prog_142_method_3_58) rfl (l' := #[.val (.ref x), .val (.int d), .val (.int (Int32.ofNat f)), .val (.int (Int32.ofNat tt)), .val (.int (Int32.ofNat tt)), .val (.int ((Int32.ofNat i) + (1 : Int32)))]) rfl ?_
      show Steps pP.tables eE below (T1.setTop (mkF mM 61 #[.val (.ref x), .val (.int d), .val (.int (Int32.ofNat f)), .val (.int (Int32.ofNat tt)), .val (.int (Int32.ofNat tt)), .val (.int ((Int32.ofNat i) + (1 : Int32)))] [])) _
      refine XS.goto X1.here hx rfl (pc0 := 61) (pc' := 42) rfl (hb hby d_prog_142_method_3_61) (by decide) (by decide) ?_
      show Steps pP.tables eE below (T1.setTop (mkF mM 42 #[.val (.ref x), .val (.int d), .val (.int (Int32.ofNat f)), .val (.int (Int32.ofNat tt)), .val (.int (Int32.ofNat tt)), .val (.int ((Int32.ofNat i) + (1 : Int32)))] [])) _
      rw [own_inc i]
      exact st4 tg kg
theorem ef_eo (m : MethodId) (x0 : Addr) (x1 : Int32) (x2 : Int32) (x3 : Int32) : entryFrame m #[(.ref x0), (.int x1), (.int x2), (.int x3)] 6 = mkF m 0 #[.val (.ref x0), .val (.int x1), .val (.int x2), .val (.int x3), .unset, .unset] [] := by first | (simp [entryFrame, mkF, argsToLocals, Value.category]; done) | rfl
def Q_eo (Z : State) (x : Addr) (t : Addr) (kk : ClassId) (cs : List Int32) (d : Int32) (f : Nat) (tt : Nat) (zc : Int32) (fm : Value) (h0 : Heap) (n0 : Nat) (vV : Option Value) (h : Heap) (LL : List Loc) : Prop := vV = some (.int (Int32.ofNat (own_endOf cs d f tt))) ∧ LL = [] ∧ h = h0
set_option maxRecDepth 65536 in
set_option maxHeartbeats 40000000 in
theorem rm_eo (l : Launch) (Z : State) (a0 : Array Value) (hw : ∀ d ∈ tables_1, d.before a0 Z = true) (ws : List Jvm.Cond) (x : Addr) (t : Addr) (kk : ClassId) (cs : List Int32) (d : Int32) (f : Nat) (tt : Nat) (zc : Int32) (fm : Value) (h0 : Heap) (n0 : Nat) (O0 : Old Z n0 h0) (Str_x : own_Str Z h0 x t kk cs) (hp1 : (f ≤ tt)) (hp2 : (tt ≤ cs.length)) (S_COMPACT_STRINGS : Sta Z Z.heap "java/lang/String" "COMPACT_STRINGS" "Z" (.int zc)) (hp4 : (¬ (zc = (0 : Int32)))) (S_SIOOBE_FORMATTER : Sta Z Z.heap "jdk/internal/util/Preconditions" "SIOOBE_FORMATTER" "Ljava/util/function/BiFunction;" fm) (hp6 : (fm.isRef = true)) :
    MetFree l (⟨"com/example/resultwire/resultwire/er7/Pieces", "endOf", "(Ljava/lang/String;III)I"⟩ : MethodName) (head1 (Jvm.Cond.code (⟨"com/example/resultwire/resultwire/er7/Pieces", "endOf", "(Ljava/lang/String;III)I"⟩ : MethodName) prog_142_method_3_code 6 (some .int) :: ws) ({ frames := 4, cells := 0, slots := 0, locals := 60 } : Room)) (fun aa_ U => aa_ = #[(.ref x), (.int d), (.int (Int32.ofNat f)), (.int (Int32.ofNat tt))] ∧ Z.Warmed39 U.vm ∧ U.heap = h0) (fun _ _ _ _ _ => True) (fun _ U o U' => ∃ vV LL, o = .returned vV ∧ Q_eo Z x t kk cs d f tt zc fm h0 n0 vV U'.heap LL ∧ FrameEnd U o U' LL ({ frames := 4, cells := 0, slots := 0, locals := 60 } : Room).cells ({ frames := 4, cells := 0, slots := 0, locals := 60 } : Room).slots) := by
  refine MetFree.of_bodySF (plainFor_of_name pn_2) hisR ?_
  intro pP eE sS mM args below meth cC s₁ Bd hml0 hP hK
  obtain ⟨rfl, hZ, hh⟩ := hP
  have hx := Bd.exec
  have hby := Bd.bytes
  have hml : cC.maxLocals = 6 := hml0
  have hown : sS.vm.findClass "com/example/resultwire/resultwire/er7/Pieces" = some mM.cls := findClass_of_methodNamed Bd.named
  have hnm := (name_of_methodNamed Bd.named Bd.method).1
  have X0 : Stand pP l eE ({ frames := 4, cells := 0, slots := 0, locals := 60 } : Room) sS mM #[(.ref x), (.int d), (.int (Int32.ofNat f)), (.int (Int32.ofNat tt))] below meth cC s₁ [] 0 0 := Stand.of_body Bd
  have e0 : s₁.heap = h0 := by rw [← hh, Bd.state]; rfl
  have N0 := Fr.nil n0
  have pre0 : ∀ tg, Steps pP.tables eE below (s₁.setTop (mkF mM 0 #[.val (.ref x), .val (.int d), .val (.int (Int32.ofNat f)), .val (.int (Int32.ofNat tt)), .unset, .unset] [])) tg → Steps pP.tables eE below (s₁.setTop (entryFrame mM #[(.ref x), (.int d), (.int (Int32.ofNat f)), (.int (Int32.ofNat tt))] 6)) tg := fun tg kg => castTop (ef_eo mM x d (Int32.ofNat f) (Int32.ofNat tt)) kg
  have l4 := Str_x.2.2.2.2.1
  have pre2 : ∀ tg, Steps pP.tables eE below (s₁.setTop (mkF mM 5 #[.val (.ref x), .val (.int d), .val (.int (Int32.ofNat f)), .val (.int (Int32.ofNat tt)), .val (.int (Int32.ofNat tt)), .unset] [(.int (-1 : Int32)), (.int d)])) tg → Steps pP.tables eE below (s₁.setTop (entryFrame mM #[(.ref x), (.int d), (.int (Int32.ofNat f)), (.int (Int32.ofNat tt))] 6)) tg := fun tg kg => pre0 tg (by
    refine XS.iloadN X0.here hx rfl (hb hby d_prog_142_method_3_0) rfl ?_
    show Steps pP.tables eE below (s₁.setTop (mkF mM 1 #[.val (.ref x), .val (.int d), .val (.int (Int32.ofNat f)), .val (.int (Int32.ofNat tt)), .unset, .unset] [(.int (Int32.ofNat tt))])) _
    refine XS.istore X0.here hx rfl (hb hby d_prog_142_method_3_1) rfl (l' := #[.val (.ref x), .val (.int d), .val (.int (Int32.ofNat f)), .val (.int (Int32.ofNat tt)), .val (.int (Int32.ofNat tt)), .unset]) rfl ?_
    show Steps pP.tables eE below (s₁.setTop (mkF mM 3 #[.val (.ref x), .val (.int d), .val (.int (Int32.ofNat f)), .val (.int (Int32.ofNat tt)), .val (.int (Int32.ofNat tt)), .unset] [])) _
    refine XS.iloadN X0.here hx rfl (hb hby d_prog_142_method_3_3) rfl ?_
    show Steps pP.tables eE below (s₁.setTop (mkF mM 4 #[.val (.ref x), .val (.int d), .val (.int (Int32.ofNat f)), .val (.int (Int32.ofNat tt)), .val (.int (Int32.ofNat tt)), .unset] [(.int d)])) _
    refine XS.iconst X0.here hx rfl (hb hby d_prog_142_method_3_4) ?_
    exact kg)
  by_cases hc1 : d = (-1 : Int32)
  · obtain ⟨fs, hr, hrun, hended, hW, hsame⟩ := X0.leave (v := some (.int (Int32.ofNat tt))) (fun h => by rw [Bd.returns] at h; cases h)
    refine ⟨_, _, pre2 _ ?_, hrun, hended, _, _, rfl, ?_, ⟨_, rfl⟩, hW, hsame.mono (by decide) (by decide)⟩
    · refine XS.icmpNo X0.here hx rfl (hb hby d_prog_142_method_3_5) rfl (teq hc1).2 ?_
      show Steps pP.tables eE below (s₁.setTop (mkF mM 8 #[.val (.ref x), .val (.int d), .val (.int (Int32.ofNat f)), .val (.int (Int32.ofNat tt)), .val (.int (Int32.ofNat tt)), .unset] [])) _
      refine XS.goto X0.here hx rfl (pc0 := 8) (pc' := 68) rfl (hb hby d_prog_142_method_3_8) (by decide) (by decide) ?_
      show Steps pP.tables eE below (s₁.setTop (mkF mM 68 #[.val (.ref x), .val (.int d), .val (.int (Int32.ofNat f)), .val (.int (Int32.ofNat tt)), .val (.int (Int32.ofNat tt)), .unset] [])) _
      refine XS.iload X0.here hx rfl (hb hby d_prog_142_method_3_68) rfl ?_
      show Steps pP.tables eE below (s₁.setTop (mkF mM 70 #[.val (.ref x), .val (.int d), .val (.int (Int32.ofNat f)), .val (.int (Int32.ofNat tt)), .val (.int (Int32.ofNat tt)), .unset] [(.int (Int32.ofNat tt))])) _
      exact retI X0 hx Bd.returns (hb hby d_prog_142_method_3_70) hr
    · show Q_eo Z x t kk cs d f tt zc fm h0 n0 _ s₁.heap _
      rw [e0]
      exact ⟨(by rw [own_endOf, if_pos hc1]), rfl, rfl⟩
  · obtain ⟨cq4, kq4, q4a, q4b, q4c⟩ := isOf hZ e0 (Str_x).1
    obtain ⟨_, _, ⟨T4, L4, k4, n4⟩, -, X4, ⟨Lc4, hQ4, l4, y4, z4⟩, st4⟩ := X0.virtualBack hx (y := (⟨"java/lang/String", "length", "()I"⟩ : MethodName)) (z := (⟨"java/lang/String", "length", "()I"⟩ : MethodName)) hown (mvT hZ (w_114 hw)) (mvT hZ (w_115 hw)) (notFace_of_selects (args := #[]) (mvT hZ (w_117 hw))) (mvT hZ (w_117 hw)) (mvT hZ (w_116 hw)) (by decide) (own_len (W := 1) hZ hw (⟨(Str_x).1, (Str_x).2.1, (Str_x).2.2.1, (Str_x).2.2.2.1, (Str_x).2.2.2.2⟩ : own_Str Z h0 x t kk cs) (Sta.ext (O0).2 S_COMPACT_STRINGS) hp4 (by decide) (by decide)) q4a q4c (g := (mkF mM 13 #[.val (.ref x), .val (.int d), .val (.int (Int32.ofNat f)), .val (.int (Int32.ofNat tt)), .val (.int (Int32.ofNat tt)), .unset] [(.ref x), (.int (Int32.ofNat tt))])) rfl (by rw [hml]; rfl) (Steps.refl _) (argsL := []) (rest := [(.int (Int32.ofNat tt))]) (lenOf pd_4 rfl) rfl (by show 2 * 0 + _ ≤ _; exact Nat.le_of_eq rfl) (hb hby d_prog_142_method_3_13) (fun _ _ => ⟨rfl, e0, (by decide : 0 + 0 ≤ _), (by decide : 0 + 0 ≤ _)⟩)
    dsimp only [Pt.U, Pt.locs, Pt.cells, Pt.slots] at X4 l4 y4 z4 st4 hQ4
    subst l4 y4 z4
    obtain ⟨rfl, rfl, Kq4⟩ := hQ4
    try rw [List.append_nil] at X4
    have pre6 : ∀ tg, Steps pP.tables eE below (T4.setTop (mkF mM 16 #[.val (.ref x), .val (.int d), .val (.int (Int32.ofNat f)), .val (.int (Int32.ofNat tt)), .val (.int (Int32.ofNat tt)), .unset] [(.int (Int32.ofNat (cs).length)), (.int (Int32.ofNat tt))])) tg → Steps pP.tables eE below (s₁.setTop (entryFrame mM #[(.ref x), (.int d), (.int (Int32.ofNat f)), (.int (Int32.ofNat tt))] 6)) tg := fun tg kg => pre2 tg (by
      refine XS.icmpYes X0.here hx rfl (pc0 := 5) (pc' := 11) rfl (hb hby d_prog_142_method_3_5) rfl (feq hc1).2 (by decide) (by decide) ?_
      show Steps pP.tables eE below (s₁.setTop (mkF mM 11 #[.val (.ref x), .val (.int d), .val (.int (Int32.ofNat f)), .val (.int (Int32.ofNat tt)), .val (.int (Int32.ofNat tt)), .unset] [])) _
      refine XS.iloadN X0.here hx rfl (hb hby d_prog_142_method_3_11) rfl ?_
      show Steps pP.tables eE below (s₁.setTop (mkF mM 12 #[.val (.ref x), .val (.int d), .val (.int (Int32.ofNat f)), .val (.int (Int32.ofNat tt)), .val (.int (Int32.ofNat tt)), .unset] [(.int (Int32.ofNat tt))])) _
      refine XS.aloadN X0.here hx rfl (hb hby d_prog_142_method_3_12) rfl rfl ?_
      show Steps pP.tables eE below (s₁.setTop (mkF mM 13 #[.val (.ref x), .val (.int d), .val (.int (Int32.ofNat f)), .val (.int (Int32.ofNat tt)), .val (.int (Int32.ofNat tt)), .unset] [(.ref x), (.int (Int32.ofNat tt))])) _
      refine st4.trans ?_
      exact kg)
    by_cases hc5 : (Int32.ofNat tt) = (Int32.ofNat (cs).length)
    · obtain ⟨cq7, kq7, q7a, q7b, q7c⟩ := isOf hZ Kq4 (Str_x).1
      obtain ⟨_, _, ⟨T7, L7, k7, n7⟩, -, X7, ⟨Lc7, hQ7, l7, y7, z7⟩, st7⟩ := X4.virtualBack hx (y := (⟨"java/lang/String", "indexOf", "(II)I"⟩ : MethodName)) (z := (⟨"java/lang/String", "indexOf", "(II)I"⟩ : MethodName)) hown (mvT hZ (w_142 hw)) (mvT hZ (w_143 hw)) (notFace_of_selects (args := #[]) (mvT hZ (w_145 hw))) (mvT hZ (w_145 hw)) (mvT hZ (w_144 hw)) (by decide) (backOf (W := 0) (rm_io l Z a0 hw [] x t kk cs d f zc fm h0 n0 O0 (⟨(Str_x).1, (Str_x).2.1, (Str_x).2.2.1, (Str_x).2.2.2.1, (Str_x).2.2.2.2⟩ : own_Str Z h0 x t kk cs) (by omega : f ≤ cs.length) S_COMPACT_STRINGS hp4 S_SIOOBE_FORMATTER hp6) hZ (w_146 hw) (w_8 hw) (by decide) (by decide)) q7a q7c (g := (mkF mM 22 #[.val (.ref x), .val (.int d), .val (.int (Int32.ofNat f)), .val (.int (Int32.ofNat tt)), .val (.int (Int32.ofNat tt)), .unset] [(.int (Int32.ofNat f)), (.int d), (.ref x)])) rfl (by rw [hml]; rfl) (Steps.refl _) (argsL := [(.int d), (.int (Int32.ofNat f))]) (rest := []) (lenOf pd_1 rfl) rfl (by show 2 * 0 + _ ≤ _; exact Nat.le_of_eq rfl) (hb hby d_prog_142_method_3_22) (fun _ _ => ⟨rfl, Kq4, (by decide : 0 + 0 ≤ _), (by decide : 0 + 0 ≤ _)⟩)
      dsimp only [Pt.U, Pt.locs, Pt.cells, Pt.slots] at X7 l7 y7 z7 st7 hQ7
      subst l7 y7 z7
      obtain ⟨rfl, rfl, Kq7⟩ := hQ7
      try rw [List.append_nil] at X7
      have pre9 : ∀ tg, Steps pP.tables eE below (T7.setTop (mkF mM 29 #[.val (.ref x), .val (.int d), .val (.int (Int32.ofNat f)), .val (.int (Int32.ofNat tt)), .val (.int (Int32.ofNat tt)), .val (.int (own_ixk cs d f (cs.length - f)))] [(.int (own_ixk cs d f (cs.length - f)))])) tg → Steps pP.tables eE below (s₁.setTop (entryFrame mM #[(.ref x), (.int d), (.int (Int32.ofNat f)), (.int (Int32.ofNat tt))] 6)) tg := fun tg kg => pre6 tg (by
        refine XS.icmpNo X4.here hx rfl (hb hby d_prog_142_method_3_16) rfl (teq hc5).2 ?_
        show Steps pP.tables eE below (T4.setTop (mkF mM 19 #[.val (.ref x), .val (.int d), .val (.int (Int32.ofNat f)), .val (.int (Int32.ofNat tt)), .val (.int (Int32.ofNat tt)), .unset] [])) _
        refine XS.aloadN X4.here hx rfl (hb hby d_prog_142_method_3_19) rfl rfl ?_
        show Steps pP.tables eE below (T4.setTop (mkF mM 20 #[.val (.ref x), .val (.int d), .val (.int (Int32.ofNat f)), .val (.int (Int32.ofNat tt)), .val (.int (Int32.ofNat tt)), .unset] [(.ref x)])) _
        refine XS.iloadN X4.here hx rfl (hb hby d_prog_142_method_3_20) rfl ?_
        show Steps pP.tables eE below (T4.setTop (mkF mM 21 #[.val (.ref x), .val (.int d), .val (.int (Int32.ofNat f)), .val (.int (Int32.ofNat tt)), .val (.int (Int32.ofNat tt)), .unset] [(.int d), (.ref x)])) _
        refine XS.iloadN X4.here hx rfl (hb hby d_prog_142_method_3_21) rfl ?_
        show Steps pP.tables eE below (T4.setTop (mkF mM 22 #[.val (.ref x), .val (.int d), .val (.int (Int32.ofNat f)), .val (.int (Int32.ofNat tt)), .val (.int (Int32.ofNat tt)), .unset] [(.int (Int32.ofNat f)), (.int d), (.ref x)])) _
        refine st7.trans ?_
        show Steps pP.tables eE below (T7.setTop (mkF mM 25 #[.val (.ref x), .val (.int d), .val (.int (Int32.ofNat f)), .val (.int (Int32.ofNat tt)), .val (.int (Int32.ofNat tt)), .unset] [(.int (own_ixk cs d f (cs.length - f)))])) _
        refine XS.istore X7.here hx rfl (hb hby d_prog_142_method_3_25) rfl (l' := #[.val (.ref x), .val (.int d), .val (.int (Int32.ofNat f)), .val (.int (Int32.ofNat tt)), .val (.int (Int32.ofNat tt)), .val (.int (own_ixk cs d f (cs.length - f)))]) rfl ?_
        show Steps pP.tables eE below (T7.setTop (mkF mM 27 #[.val (.ref x), .val (.int d), .val (.int (Int32.ofNat f)), .val (.int (Int32.ofNat tt)), .val (.int (Int32.ofNat tt)), .val (.int (own_ixk cs d f (cs.length - f)))] [])) _
        refine XS.iload X7.here hx rfl (hb hby d_prog_142_method_3_27) rfl ?_
        exact kg)
      by_cases hc8 : (own_ixk cs d f (cs.length - f)) < (0 : Int32)
      · obtain ⟨fs, hr, hrun, hended, hW, hsame⟩ := X7.leave (v := some (.int (Int32.ofNat tt))) (fun h => by rw [Bd.returns] at h; cases h)
        refine ⟨_, _, pre9 _ ?_, hrun, hended, _, _, rfl, ?_, ⟨_, rfl⟩, hW, hsame.mono (by decide) (by decide)⟩
        · refine XS.ifYes X7.here hx rfl (pc0 := 29) (pc' := 36) rfl (hb hby d_prog_142_method_3_29) rfl ((if0 _ _).trans (tlt hc8).1) (by decide) (by decide) ?_
          show Steps pP.tables eE below (T7.setTop (mkF mM 36 #[.val (.ref x), .val (.int d), .val (.int (Int32.ofNat f)), .val (.int (Int32.ofNat tt)), .val (.int (Int32.ofNat tt)), .val (.int (own_ixk cs d f (cs.length - f)))] [])) _
          refine XS.goto X7.here hx rfl (pc0 := 36) (pc' := 68) rfl (hb hby d_prog_142_method_3_36) (by decide) (by decide) ?_
          show Steps pP.tables eE below (T7.setTop (mkF mM 68 #[.val (.ref x), .val (.int d), .val (.int (Int32.ofNat f)), .val (.int (Int32.ofNat tt)), .val (.int (Int32.ofNat tt)), .val (.int (own_ixk cs d f (cs.length - f)))] [])) _
          refine XS.iload X7.here hx rfl (hb hby d_prog_142_method_3_68) rfl ?_
          show Steps pP.tables eE below (T7.setTop (mkF mM 70 #[.val (.ref x), .val (.int d), .val (.int (Int32.ofNat f)), .val (.int (Int32.ofNat tt)), .val (.int (Int32.ofNat tt)), .val (.int (own_ixk cs d f (cs.length - f)))] [(.int (Int32.ofNat tt))])) _
          exact retI X7 hx Bd.returns (hb hby d_prog_142_method_3_70) hr
        · show Q_eo Z x t kk cs d f tt zc fm h0 n0 _ T7.heap _
          rw [Kq7]
          exact ⟨(by have e2 := own_inj hc5 (by omega) (by omega); have q := own_ixk_neg (by omega) hc8; rw [own_endOf, if_neg hc1, e2, q, show f + (cs.length - f) = cs.length by omega]), rfl, rfl⟩
      · obtain ⟨fs, hr, hrun, hended, hW, hsame⟩ := X7.leave (v := some (.int (own_ixk cs d f (cs.length - f)))) (fun h => by rw [Bd.returns] at h; cases h)
        refine ⟨_, _, pre9 _ ?_, hrun, hended, _, _, rfl, ?_, ⟨_, rfl⟩, hW, hsame.mono (by decide) (by decide)⟩
        · refine XS.ifNo X7.here hx rfl (hb hby d_prog_142_method_3_29) rfl ((if0 _ _).trans (flt hc8).1) ?_
          show Steps pP.tables eE below (T7.setTop (mkF mM 32 #[.val (.ref x), .val (.int d), .val (.int (Int32.ofNat f)), .val (.int (Int32.ofNat tt)), .val (.int (Int32.ofNat tt)), .val (.int (own_ixk cs d f (cs.length - f)))] [])) _
          refine XS.iload X7.here hx rfl (hb hby d_prog_142_method_3_32) rfl ?_
          show Steps pP.tables eE below (T7.setTop (mkF mM 34 #[.val (.ref x), .val (.int d), .val (.int (Int32.ofNat f)), .val (.int (Int32.ofNat tt)), .val (.int (Int32.ofNat tt)), .val (.int (own_ixk cs d f (cs.length - f)))] [(.int (own_ixk cs d f (cs.length - f)))])) _
          refine XS.istore X7.here hx rfl (hb hby d_prog_142_method_3_34) rfl (l' := #[.val (.ref x), .val (.int d), .val (.int (Int32.ofNat f)), .val (.int (Int32.ofNat tt)), .val (.int (own_ixk cs d f (cs.length - f))), .val (.int (own_ixk cs d f (cs.length - f)))]) rfl ?_
          show Steps pP.tables eE below (T7.setTop (mkF mM 36 #[.val (.ref x), .val (.int d), .val (.int (Int32.ofNat f)), .val (.int (Int32.ofNat tt)), .val (.int (own_ixk cs d f (cs.length - f))), .val (.int (own_ixk cs d f (cs.length - f)))] [])) _
          refine XS.goto X7.here hx rfl (pc0 := 36) (pc' := 68) rfl (hb hby d_prog_142_method_3_36) (by decide) (by decide) ?_
          show Steps pP.tables eE below (T7.setTop (mkF mM 68 #[.val (.ref x), .val (.int d), .val (.int (Int32.ofNat f)), .val (.int (Int32.ofNat tt)), .val (.int (own_ixk cs d f (cs.length - f))), .val (.int (own_ixk cs d f (cs.length - f)))] [])) _
          refine XS.iload X7.here hx rfl (hb hby d_prog_142_method_3_68) rfl ?_
          show Steps pP.tables eE below (T7.setTop (mkF mM 70 #[.val (.ref x), .val (.int d), .val (.int (Int32.ofNat f)), .val (.int (Int32.ofNat tt)), .val (.int (own_ixk cs d f (cs.length - f))), .val (.int (own_ixk cs d f (cs.length - f)))] [(.int (own_ixk cs d f (cs.length - f)))])) _
          exact retI X7 hx Bd.returns (hb hby d_prog_142_method_3_70) hr
        · show Q_eo Z x t kk cs d f tt zc fm h0 n0 _ T7.heap _
          rw [Kq7]
          exact ⟨(by have e2 := own_inj hc5 (by omega) (by omega); have q := own_ixk_pos hc8; rw [own_endOf, if_neg hc1, e2, q]), rfl, rfl⟩
    · obtain ⟨T12, X12, e12, st12⟩ := lp_eo x t kk cs d f tt zc fm hx hZ hw hby hml hown O0 (⟨(Str_x).1, (Str_x).2.1, (Str_x).2.2.1, (Str_x).2.2.2.1, (Str_x).2.2.2.2⟩ : own_Str Z h0 x t kk cs) hp2 S_COMPACT_STRINGS hp4 S_SIOOBE_FORMATTER hp6 (tt - f) (f) X4 Kq4 (by omega)
      obtain ⟨fs, hr, hrun, hended, hW, hsame⟩ := X12.leave (v := some (.int (Int32.ofNat (own_end cs d f (tt - f))))) (fun h => by rw [Bd.returns] at h; cases h)
      refine ⟨_, _, pre6 _ ?_, hrun, hended, _, _, rfl, ?_, ⟨_, rfl⟩, hW, hsame.mono (by decide) (by decide)⟩
      · refine XS.icmpYes X4.here hx rfl (pc0 := 16) (pc' := 39) rfl (hb hby d_prog_142_method_3_16) rfl (feq hc5).2 (by decide) (by decide) ?_
        show Steps pP.tables eE below (T4.setTop (mkF mM 39 #[.val (.ref x), .val (.int d), .val (.int (Int32.ofNat f)), .val (.int (Int32.ofNat tt)), .val (.int (Int32.ofNat tt)), .unset] [])) _
        refine XS.iloadN X4.here hx rfl (hb hby d_prog_142_method_3_39) rfl ?_
        show Steps pP.tables eE below (T4.setTop (mkF mM 40 #[.val (.ref x), .val (.int d), .val (.int (Int32.ofNat f)), .val (.int (Int32.ofNat tt)), .val (.int (Int32.ofNat tt)), .unset] [(.int (Int32.ofNat f))])) _
        refine XS.istore X4.here hx rfl (hb hby d_prog_142_method_3_40) rfl (l' := #[.val (.ref x), .val (.int d), .val (.int (Int32.ofNat f)), .val (.int (Int32.ofNat tt)), .val (.int (Int32.ofNat tt)), .val (.int (Int32.ofNat f))]) rfl ?_
        show Steps pP.tables eE below (T4.setTop (mkF mM 42 #[.val (.ref x), .val (.int d), .val (.int (Int32.ofNat f)), .val (.int (Int32.ofNat tt)), .val (.int (Int32.ofNat tt)), .val (.int (Int32.ofNat f))] [])) _
        refine st12 _ ?_
        show Steps pP.tables eE below (T12.setTop (mkF mM 64 #[.val (.ref x), .val (.int d), .val (.int (Int32.ofNat f)), .val (.int (Int32.ofNat tt)), .val (.int (Int32.ofNat tt)), .val (.int (Int32.ofNat (own_end cs d f (tt - f))))] [])) _
        refine XS.iload X12.here hx rfl (hb hby d_prog_142_method_3_64) rfl ?_
        show Steps pP.tables eE below (T12.setTop (mkF mM 66 #[.val (.ref x), .val (.int d), .val (.int (Int32.ofNat f)), .val (.int (Int32.ofNat tt)), .val (.int (Int32.ofNat tt)), .val (.int (Int32.ofNat (own_end cs d f (tt - f))))] [(.int (Int32.ofNat (own_end cs d f (tt - f))))])) _
        refine XS.istore X12.here hx rfl (hb hby d_prog_142_method_3_66) rfl (l' := #[.val (.ref x), .val (.int d), .val (.int (Int32.ofNat f)), .val (.int (Int32.ofNat tt)), .val (.int (Int32.ofNat (own_end cs d f (tt - f)))), .val (.int (Int32.ofNat (own_end cs d f (tt - f))))]) rfl ?_
        show Steps pP.tables eE below (T12.setTop (mkF mM 68 #[.val (.ref x), .val (.int d), .val (.int (Int32.ofNat f)), .val (.int (Int32.ofNat tt)), .val (.int (Int32.ofNat (own_end cs d f (tt - f)))), .val (.int (Int32.ofNat (own_end cs d f (tt - f))))] [])) _
        refine XS.iload X12.here hx rfl (hb hby d_prog_142_method_3_68) rfl ?_
        show Steps pP.tables eE below (T12.setTop (mkF mM 70 #[.val (.ref x), .val (.int d), .val (.int (Int32.ofNat f)), .val (.int (Int32.ofNat tt)), .val (.int (Int32.ofNat (own_end cs d f (tt - f)))), .val (.int (Int32.ofNat (own_end cs d f (tt - f))))] [(.int (Int32.ofNat (own_end cs d f (tt - f))))])) _
        exact retI X12 hx Bd.returns (hb hby d_prog_142_method_3_70) hr
      · show Q_eo Z x t kk cs d f tt zc fm h0 n0 _ T12.heap _
        rw [e12]
        exact ⟨(by rw [own_endOf, if_neg hc1]), rfl, rfl⟩
theorem ef_adv (m : MethodId) (x0 : Addr) : entryFrame m #[(.ref x0)] 1 = mkF m 0 #[.val (.ref x0)] [] := by first | (simp [entryFrame, mkF, argsToLocals, Value.category]; done) | rfl
def Q_adv (Z : State) (a : Addr) (x : Addr) (t : Addr) (kk : ClassId) (cs : List Int32) (d : Int32) (f : Nat) (tt : Nat) (zc : Int32) (fm : Value) (u : Int32) (v1 : Value) (v2 : Value) (h0 : Heap) (n0 : Nat) (vV : Option Value) (h : Heap) (LL : List Loc) : Prop := vV = none ∧ Fr n0 LL ∧ Keep h0 h [a] ∧ Exa Z h a "com/example/resultwire/resultwire/er7/Pieces" ∧ Fld Z h a "com/example/resultwire/resultwire/er7/Pieces" "m_sText" "Ljava/lang/String;" (.ref x) ∧ Fld Z h a "com/example/resultwire/resultwire/er7/Pieces" "m_nDelimiter" "I" (.int d) ∧ Fld Z h a "com/example/resultwire/resultwire/er7/Pieces" "m_nTo" "I" (.int (Int32.ofNat tt)) ∧ Fld Z h a "com/example/resultwire/resultwire/er7/Pieces" "m_nFrom" "I" (.int (Int32.ofNat (own_endOf cs d f tt + 1))) ∧ Fld Z h a "com/example/resultwire/resultwire/er7/Pieces" "m_nStart" "I" (.int (Int32.ofNat f)) ∧ Fld Z h a "com/example/resultwire/resultwire/er7/Pieces" "m_nEnd" "I" (.int (Int32.ofNat (own_endOf cs d f tt))) ∧ Fld Z h a "com/example/resultwire/resultwire/er7/Pieces" "m_nNumber" "I" (.int (u + (1 : Int32)))
set_option maxRecDepth 65536 in
set_option maxHeartbeats 40000000 in
theorem rm_adv (l : Launch) (Z : State) (a0 : Array Value) (hw : ∀ d ∈ tables_1, d.before a0 Z = true) (ws : List Jvm.Cond) (a : Addr) (x : Addr) (t : Addr) (kk : ClassId) (cs : List Int32) (d : Int32) (f : Nat) (tt : Nat) (zc : Int32) (fm : Value) (u : Int32) (v1 : Value) (v2 : Value) (h0 : Heap) (n0 : Nat) (O0 : Old Z n0 h0) (E_a : Exa Z h0 a "com/example/resultwire/resultwire/er7/Pieces") (F_a_m_sText : Fld Z h0 a "com/example/resultwire/resultwire/er7/Pieces" "m_sText" "Ljava/lang/String;" (.ref x)) (F_a_m_nDelimiter : Fld Z h0 a "com/example/resultwire/resultwire/er7/Pieces" "m_nDelimiter" "I" (.int d)) (F_a_m_nTo : Fld Z h0 a "com/example/resultwire/resultwire/er7/Pieces" "m_nTo" "I" (.int (Int32.ofNat tt))) (F_a_m_nFrom : Fld Z h0 a "com/example/resultwire/resultwire/er7/Pieces" "m_nFrom" "I" (.int (Int32.ofNat f))) (F_a_m_nStart : Fld Z h0 a "com/example/resultwire/resultwire/er7/Pieces" "m_nStart" "I" v1) (F_a_m_nEnd : Fld Z h0 a "com/example/resultwire/resultwire/er7/Pieces" "m_nEnd" "I" v2) (F_a_m_nNumber : Fld Z h0 a "com/example/resultwire/resultwire/er7/Pieces" "m_nNumber" "I" (.int u)) (g_a : n0 ≤ a) (Str_x : own_Str Z h0 x t kk cs) (hp10 : (f ≤ tt)) (hp11 : (tt ≤ cs.length)) (ne12 : x ≠ a) (ne13 : t ≠ a) (S_COMPACT_STRINGS : Sta Z Z.heap "java/lang/String" "COMPACT_STRINGS" "Z" (.int zc)) (hp15 : (¬ (zc = (0 : Int32)))) (S_SIOOBE_FORMATTER : Sta Z Z.heap "jdk/internal/util/Preconditions" "SIOOBE_FORMATTER" "Ljava/util/function/BiFunction;" fm) (hp17 : (fm.isRef = true)) :
    MetFree l (⟨"com/example/resultwire/resultwire/er7/Pieces", "advance", "()V"⟩ : MethodName) (head1 (Jvm.Cond.code (⟨"com/example/resultwire/resultwire/er7/Pieces", "advance", "()V"⟩ : MethodName) prog_142_method_8_code 1 none :: ws) ({ frames := 5, cells := 0, slots := 0, locals := 78 } : Room)) (fun aa_ U => aa_ = #[(.ref a)] ∧ Z.Warmed39 U.vm ∧ U.heap = h0) (fun _ _ _ _ _ => True) (fun _ U o U' => ∃ vV LL, o = .returned vV ∧ Q_adv Z a x t kk cs d f tt zc fm u v1 v2 h0 n0 vV U'.heap LL ∧ FrameEnd U o U' LL ({ frames := 5, cells := 0, slots := 0, locals := 78 } : Room).cells ({ frames := 5, cells := 0, slots := 0, locals := 78 } : Room).slots) := by
  refine MetFree.of_bodySF (plainFor_of_name pn_2) hisR ?_
  intro pP eE sS mM args below meth cC s₁ Bd hml0 hP hK
  obtain ⟨rfl, hZ, hh⟩ := hP
  have hx := Bd.exec
  have hby := Bd.bytes
  have hml : cC.maxLocals = 1 := hml0
  have hown : sS.vm.findClass "com/example/resultwire/resultwire/er7/Pieces" = some mM.cls := findClass_of_methodNamed Bd.named
  have hnm := (name_of_methodNamed Bd.named Bd.method).1
  have X0 : Stand pP l eE ({ frames := 5, cells := 0, slots := 0, locals := 78 } : Room) sS mM #[(.ref a)] below meth cC s₁ [] 0 0 := Stand.of_body Bd
  have e0 : s₁.heap = h0 := by rw [← hh, Bd.state]; rfl
  have N0 := Fr.nil n0
  have pre0 : ∀ tg, Steps pP.tables eE below (s₁.setTop (mkF mM 0 #[.val (.ref a)] [])) tg → Steps pP.tables eE below (s₁.setTop (entryFrame mM #[(.ref a)] 1)) tg := fun tg kg => castTop (ef_adv mM a) kg
  have K0 : Keep h0 h0 [a] := Keep.refl _ _
  obtain ⟨cq1, kq1, q1a, q1b, q1c⟩ := isOf hZ e0 E_a
  obtain ⟨_, _, ⟨T1, L1, k1, n1⟩, -, X1, ⟨Lc1, hQ1, l1, y1, z1⟩, st1⟩ := X0.virtualBack hx (y := (⟨"com/example/resultwire/resultwire/er7/Pieces", "hasNext", "()Z"⟩ : MethodName)) (z := (⟨"com/example/resultwire/resultwire/er7/Pieces", "hasNext", "()Z"⟩ : MethodName)) hown (mvT hZ (w_110 hw)) (mvT hZ (w_101 hw)) (notFace_of_selects (args := #[]) (mvT hZ (w_103 hw))) (mvT hZ (w_103 hw)) (mvT hZ (w_102 hw)) (by decide) (backOf (W := 0) (rm_hn l Z a0 hw [] a (Int32.ofNat f) (Int32.ofNat tt) h0 n0 O0 F_a_m_nFrom F_a_m_nTo) hZ (w_104 hw) (w_83 hw) (by decide) (by decide)) q1a q1c (g := (mkF mM 1 #[.val (.ref a)] [(.ref a)])) rfl (by rw [hml]; rfl) (Steps.refl _) (argsL := []) (rest := []) (lenOf pd_3 rfl) rfl (by show 2 * 0 + _ ≤ _; exact Nat.le_of_eq rfl) (hb hby d_prog_142_method_8_1) (fun _ _ => ⟨rfl, e0, (by decide : 0 + 0 ≤ _), (by decide : 0 + 0 ≤ _)⟩)
  dsimp only [Pt.U, Pt.locs, Pt.cells, Pt.slots] at X1 l1 y1 z1 st1 hQ1
  subst l1 y1 z1
  obtain ⟨rfl, rfl, Kq1⟩ := hQ1
  try rw [List.append_nil] at X1
  obtain ⟨T2, X2, e2, st2⟩ := getF X1 hx hZ hown (host := "") (Or.inl (w_94 hw)) Via.refl Kq1 F_a_m_nFrom (g := (mkF mM 17 #[.val (.ref a)] [(.ref a), (.ref a)])) rfl rfl (hb hby d_prog_142_method_8_17)
  obtain ⟨T3, h3, X3, e3, W3, st3⟩ := putF X2 hx hZ hown (host := "") (Or.inl (w_96 hw)) Via.refl e2 F_a_m_nStart E_a (Or.inl (w_97 hw)) (w_82 hw) (ty := .int) (by decide) rfl rfl (g := (mkF mM 20 #[.val (.ref a)] [(.int (Int32.ofNat f)), (.ref a)])) rfl rfl (hb hby d_prog_142_method_8_20)
  have K4 : Keep h0 h3 [a] := K0.wr W3 (Or.inl (List.mem_of_getElem? (i := 0) rfl))
  have Fw3 : Fld Z h3 a "com/example/resultwire/resultwire/er7/Pieces" "m_nStart" "I" (.int (Int32.ofNat f)) := F_a_m_nStart.same W3
  have N3 := Fr.snoc X3 N0 g_a
  have f5 := (F_a_m_sText.other W3 (Or.inr (slot_ne (Or.inr (w_89 hw)) (Or.inl (w_97 hw)) (by decide) (t := (.object "java/lang/String")) (t' := .int) (by decide) (by decide))))
  obtain ⟨T6, X6, e6, st6⟩ := getF X3 hx hZ hown (host := "") (Or.inl (w_88 hw)) Via.refl e3 f5 (g := (mkF mM 25 #[.val (.ref a)] [(.ref a), (.ref a)])) rfl rfl (hb hby d_prog_142_method_8_25)
  have f7 := (F_a_m_nDelimiter.other W3 (Or.inr (slot_ne (Or.inr (w_91 hw)) (Or.inl (w_97 hw)) (by decide) (t := .int) (t' := .int) (by decide) (by decide))))
  obtain ⟨T8, X8, e8, st8⟩ := getF X6 hx hZ hown (host := "") (Or.inl (w_90 hw)) Via.refl e6 f7 (g := (mkF mM 29 #[.val (.ref a)] [(.ref a), (.ref x), (.ref a)])) rfl rfl (hb hby d_prog_142_method_8_29)
  have f9 := (F_a_m_nFrom.other W3 (Or.inr (slot_ne (Or.inl (w_95 hw)) (Or.inl (w_97 hw)) (by decide) (t := .int) (t' := .int) (by decide) (by decide))))
  obtain ⟨T10, X10, e10, st10⟩ := getF X8 hx hZ hown (host := "") (Or.inl (w_94 hw)) Via.refl e8 f9 (g := (mkF mM 33 #[.val (.ref a)] [(.ref a), (.int d), (.ref x), (.ref a)])) rfl rfl (hb hby d_prog_142_method_8_33)
  have f11 := (F_a_m_nTo.other W3 (Or.inr (slot_ne (Or.inr (w_93 hw)) (Or.inl (w_97 hw)) (by decide) (t := .int) (t' := .int) (by decide) (by decide))))
  obtain ⟨T12, X12, e12, st12⟩ := getF X10 hx hZ hown (host := "") (Or.inl (w_92 hw)) Via.refl e10 f11 (g := (mkF mM 37 #[.val (.ref a)] [(.ref a), (.int (Int32.ofNat f)), (.int d), (.ref x), (.ref a)])) rfl rfl (hb hby d_prog_142_method_8_37)
  have f13 := ((Str_x).1.wr W3)
  have f14 := ((Str_x).2.1.other W3 (Or.inl ne12))
  have f15 := ((Str_x).2.2.1.other W3 (Or.inl ne12))
  have f16 := ((Str_x).2.2.2.1.other W3 ne13)
  have f17 := (O0.wr W3 g_a)
  obtain ⟨_, _, ⟨T18, L18, k18, n18⟩, -, X18, ⟨Lc18, hQ18, l18, y18, z18⟩, st18⟩ := Jvm.LawKit.callS X12 hx (y := (⟨"com/example/resultwire/resultwire/er7/Pieces", "endOf", "(Ljava/lang/String;III)I"⟩ : MethodName)) hown (mvT hZ (w_111 hw)) (mvT hZ (w_112 hw)) (mvT hZ (w_83 hw)) (mvT hZ (w_113 hw)) (by decide) (backOf (W := 1) (rm_eo l Z a0 hw [] x t kk cs d f tt zc fm h3 n0 f17 (⟨f13, f14, f15, f16, (Str_x).2.2.2.2⟩ : own_Str Z h3 x t kk cs) hp10 hp11 S_COMPACT_STRINGS hp15 S_SIOOBE_FORMATTER hp17) hZ (w_113 hw) (w_83 hw) (by decide) (by decide)) (g := (mkF mM 40 #[.val (.ref a)] [(.int (Int32.ofNat tt)), (.int (Int32.ofNat f)), (.int d), (.ref x), (.ref a)])) rfl (by rw [hml]; rfl) (argsL := [(.ref x), (.int d), (.int (Int32.ofNat f)), (.int (Int32.ofNat tt))]) (rest := [(.ref a)]) (lenOf pd_6 rfl) rfl (by show 2 * 0 + _ ≤ _; exact Nat.le_of_eq rfl) (hb hby d_prog_142_method_8_40) (fun _ _ => ⟨rfl, e12, (by decide : 0 + 0 ≤ _), (by decide : 0 + 0 ≤ _)⟩)
  dsimp only [Pt.U, Pt.locs, Pt.cells, Pt.slots] at X18 l18 y18 z18 st18 hQ18
  subst l18 y18 z18
  obtain ⟨rfl, rfl, Kq18⟩ := hQ18
  try rw [List.append_nil] at X18
  have f19 := (F_a_m_nEnd.other W3 (Or.inr (slot_ne (Or.inl (w_99 hw)) (Or.inl (w_97 hw)) (by decide) (t := .int) (t' := .int) (by decide) (by decide))))
  have f20 := (E_a.wr W3)
  obtain ⟨T21, h21, X21, e21, W21, st21⟩ := putF X18 hx hZ hown (host := "") (Or.inl (w_98 hw)) Via.refl Kq18 f19 f20 (Or.inl (w_99 hw)) (w_82 hw) (ty := .int) (by decide) rfl rfl (g := (mkF mM 43 #[.val (.ref a)] [(.int (Int32.ofNat (own_endOf cs d f tt))), (.ref a)])) rfl rfl (hb hby d_prog_142_method_8_43)
  have K22 : Keep h0 h21 [a] := K4.wr W21 (Or.inl (List.mem_of_getElem? (i := 0) rfl))
  have Fw21 : Fld Z h21 a "com/example/resultwire/resultwire/er7/Pieces" "m_nEnd" "I" (.int (Int32.ofNat (own_endOf cs d f tt))) := f19.same W21
  have N21 := Fr.snoc X21 N3 g_a
  obtain ⟨T23, X23, e23, st23⟩ := getF X21 hx hZ hown (host := "") (Or.inl (w_98 hw)) Via.refl e21 Fw21 (g := (mkF mM 48 #[.val (.ref a)] [(.ref a), (.ref a)])) rfl rfl (hb hby d_prog_142_method_8_48)
  have f24 := (f9.other W21 (Or.inr (slot_ne (Or.inl (w_95 hw)) (Or.inl (w_99 hw)) (by decide) (t := .int) (t' := .int) (by decide) (by decide))))
  have f25 := (f20.wr W21)
  obtain ⟨T26, h26, X26, e26, W26, st26⟩ := putF X23 hx hZ hown (host := "") (Or.inl (w_94 hw)) Via.refl e23 f24 f25 (Or.inl (w_95 hw)) (w_82 hw) (ty := .int) (by decide) rfl rfl (g := (mkF mM 53 #[.val (.ref a)] [(.int (Int32.ofNat (own_endOf cs d f tt + 1))), (.ref a)])) rfl rfl (hb hby d_prog_142_method_8_53)
  have K27 : Keep h0 h26 [a] := K22.wr W26 (Or.inl (List.mem_of_getElem? (i := 0) rfl))
  have Fw26 : Fld Z h26 a "com/example/resultwire/resultwire/er7/Pieces" "m_nFrom" "I" (.int (Int32.ofNat (own_endOf cs d f tt + 1))) := f24.same W26
  have N26 := Fr.snoc X26 N21 g_a
  have f28 := (((F_a_m_nNumber.other W3 (Or.inr (slot_ne (Or.inl (w_125 hw)) (Or.inl (w_97 hw)) (by decide) (t := .int) (t' := .int) (by decide) (by decide)))).other W21 (Or.inr (slot_ne (Or.inl (w_125 hw)) (Or.inl (w_99 hw)) (by decide) (t := .int) (t' := .int) (by decide) (by decide)))).other W26 (Or.inr (slot_ne (Or.inl (w_125 hw)) (Or.inl (w_95 hw)) (by decide) (t := .int) (t' := .int) (by decide) (by decide))))
  obtain ⟨T29, X29, e29, st29⟩ := getF X26 hx hZ hown (host := "") (Or.inl (w_124 hw)) Via.refl e26 f28 (g := (mkF mM 58 #[.val (.ref a)] [(.ref a), (.ref a)])) rfl rfl (hb hby d_prog_142_method_8_58)
  have f30 := (f25.wr W26)
  obtain ⟨T31, h31, X31, e31, W31, st31⟩ := putF X29 hx hZ hown (host := "") (Or.inl (w_124 hw)) Via.refl e29 f28 f30 (Or.inl (w_125 hw)) (w_82 hw) (ty := .int) (by decide) rfl rfl (g := (mkF mM 63 #[.val (.ref a)] [(.int (u + (1 : Int32))), (.ref a)])) rfl rfl (hb hby d_prog_142_method_8_63)
  have K32 : Keep h0 h31 [a] := K27.wr W31 (Or.inl (List.mem_of_getElem? (i := 0) rfl))
  have Fw31 : Fld Z h31 a "com/example/resultwire/resultwire/er7/Pieces" "m_nNumber" "I" (.int (u + (1 : Int32))) := f28.same W31
  have N31 := Fr.snoc X31 N26 g_a
  have f34 := (f30.wr W31)
  have f35 := (((f5.other W21 (Or.inr (slot_ne (Or.inr (w_89 hw)) (Or.inl (w_99 hw)) (by decide) (t := (.object "java/lang/String")) (t' := .int) (by decide) (by decide)))).other W26 (Or.inr (slot_ne (Or.inr (w_89 hw)) (Or.inl (w_95 hw)) (by decide) (t := (.object "java/lang/String")) (t' := .int) (by decide) (by decide)))).other W31 (Or.inr (slot_ne (Or.inr (w_89 hw)) (Or.inl (w_125 hw)) (by decide) (t := (.object "java/lang/String")) (t' := .int) (by decide) (by decide))))
  have f36 := (((f7.other W21 (Or.inr (slot_ne (Or.inr (w_91 hw)) (Or.inl (w_99 hw)) (by decide) (t := .int) (t' := .int) (by decide) (by decide)))).other W26 (Or.inr (slot_ne (Or.inr (w_91 hw)) (Or.inl (w_95 hw)) (by decide) (t := .int) (t' := .int) (by decide) (by decide)))).other W31 (Or.inr (slot_ne (Or.inr (w_91 hw)) (Or.inl (w_125 hw)) (by decide) (t := .int) (t' := .int) (by decide) (by decide))))
  have f37 := (((f11.other W21 (Or.inr (slot_ne (Or.inr (w_93 hw)) (Or.inl (w_99 hw)) (by decide) (t := .int) (t' := .int) (by decide) (by decide)))).other W26 (Or.inr (slot_ne (Or.inr (w_93 hw)) (Or.inl (w_95 hw)) (by decide) (t := .int) (t' := .int) (by decide) (by decide)))).other W31 (Or.inr (slot_ne (Or.inr (w_93 hw)) (Or.inl (w_125 hw)) (by decide) (t := .int) (t' := .int) (by decide) (by decide))))
  have f38 := (Fw26.other W31 (Or.inr (slot_ne (Or.inl (w_95 hw)) (Or.inl (w_125 hw)) (by decide) (t := .int) (t' := .int) (by decide) (by decide))))
  have f39 := (((Fw3.other W21 (Or.inr (slot_ne (Or.inl (w_97 hw)) (Or.inl (w_99 hw)) (by decide) (t := .int) (t' := .int) (by decide) (by decide)))).other W26 (Or.inr (slot_ne (Or.inl (w_97 hw)) (Or.inl (w_95 hw)) (by decide) (t := .int) (t' := .int) (by decide) (by decide)))).other W31 (Or.inr (slot_ne (Or.inl (w_97 hw)) (Or.inl (w_125 hw)) (by decide) (t := .int) (t' := .int) (by decide) (by decide))))
  have f40 := ((Fw21.other W26 (Or.inr (slot_ne (Or.inl (w_99 hw)) (Or.inl (w_95 hw)) (by decide) (t := .int) (t' := .int) (by decide) (by decide)))).other W31 (Or.inr (slot_ne (Or.inl (w_99 hw)) (Or.inl (w_125 hw)) (by decide) (t := .int) (t' := .int) (by decide) (by decide))))
  obtain ⟨fs, hr, hrun, hended, hW, hsame⟩ := X31.leave (v := none) (fun _ => rfl)
  refine ⟨_, _, pre0 _ ?_, hrun, hended, _, _, rfl, ?_, ⟨_, rfl⟩, hW, hsame.mono (by decide) (by decide)⟩
  · refine XS.aloadN X0.here hx rfl (hb hby d_prog_142_method_8_0) rfl rfl ?_
    show Steps pP.tables eE below (s₁.setTop (mkF mM 1 #[.val (.ref a)] [(.ref a)])) _
    refine st1.trans ?_
    show Steps pP.tables eE below (T1.setTop (mkF mM 4 #[.val (.ref a)] [(.int (own_hn (Int32.ofNat f) (Int32.ofNat tt)))])) _
    refine XS.ifYes X1.here hx rfl (pc0 := 4) (pc' := 15) rfl (hb hby d_prog_142_method_8_4) rfl ((if0 _ _).trans (feq (by rw [own_hn1 (own_nlt (by omega) (by have := Str_x.2.2.2.2.1; omega))]; decide)).2) (by decide) (by decide) ?_
    show Steps pP.tables eE below (T1.setTop (mkF mM 15 #[.val (.ref a)] [])) _
    refine XS.aloadN X1.here hx rfl (hb hby d_prog_142_method_8_15) rfl rfl ?_
    show Steps pP.tables eE below (T1.setTop (mkF mM 16 #[.val (.ref a)] [(.ref a)])) _
    refine XS.aloadN X1.here hx rfl (hb hby d_prog_142_method_8_16) rfl rfl ?_
    show Steps pP.tables eE below (T1.setTop (mkF mM 17 #[.val (.ref a)] [(.ref a), (.ref a)])) _
    refine st2 _ ?_
    show Steps pP.tables eE below (T2.setTop (mkF mM 20 #[.val (.ref a)] [(.int (Int32.ofNat f)), (.ref a)])) _
    refine st3 _ ?_
    show Steps pP.tables eE below (T3.setTop (mkF mM 23 #[.val (.ref a)] [])) _
    refine XS.aloadN X3.here hx rfl (hb hby d_prog_142_method_8_23) rfl rfl ?_
    show Steps pP.tables eE below (T3.setTop (mkF mM 24 #[.val (.ref a)] [(.ref a)])) _
    refine XS.aloadN X3.here hx rfl (hb hby d_prog_142_method_8_24) rfl rfl ?_
    show Steps pP.tables eE below (T3.setTop (mkF mM 25 #[.val (.ref a)] [(.ref a), (.ref a)])) _
    refine st6 _ ?_
    show Steps pP.tables eE below (T6.setTop (mkF mM 28 #[.val (.ref a)] [(.ref x), (.ref a)])) _
    refine XS.aloadN X6.here hx rfl (hb hby d_prog_142_method_8_28) rfl rfl ?_
    show Steps pP.tables eE below (T6.setTop (mkF mM 29 #[.val (.ref a)] [(.ref a), (.ref x), (.ref a)])) _
    refine st8 _ ?_
    show Steps pP.tables eE below (T8.setTop (mkF mM 32 #[.val (.ref a)] [(.int d), (.ref x), (.ref a)])) _
    refine XS.aloadN X8.here hx rfl (hb hby d_prog_142_method_8_32) rfl rfl ?_
    show Steps pP.tables eE below (T8.setTop (mkF mM 33 #[.val (.ref a)] [(.ref a), (.int d), (.ref x), (.ref a)])) _
    refine st10 _ ?_
    show Steps pP.tables eE below (T10.setTop (mkF mM 36 #[.val (.ref a)] [(.int (Int32.ofNat f)), (.int d), (.ref x), (.ref a)])) _
    refine XS.aloadN X10.here hx rfl (hb hby d_prog_142_method_8_36) rfl rfl ?_
    show Steps pP.tables eE below (T10.setTop (mkF mM 37 #[.val (.ref a)] [(.ref a), (.int (Int32.ofNat f)), (.int d), (.ref x), (.ref a)])) _
    refine st12 _ ?_
    show Steps pP.tables eE below (T12.setTop (mkF mM 40 #[.val (.ref a)] [(.int (Int32.ofNat tt)), (.int (Int32.ofNat f)), (.int d), (.ref x), (.ref a)])) _
    refine st18 _ ?_
    show Steps pP.tables eE below (T18.setTop (mkF mM 43 #[.val (.ref a)] [(.int (Int32.ofNat (own_endOf cs d f tt))), (.ref a)])) _
    refine st21 _ ?_
    show Steps pP.tables eE below (T21.setTop (mkF mM 46 #[.val (.ref a)] [])) _
    refine XS.aloadN X21.here hx rfl (hb hby d_prog_142_method_8_46) rfl rfl ?_
    show Steps pP.tables eE below (T21.setTop (mkF mM 47 #[.val (.ref a)] [(.ref a)])) _
    refine XS.aloadN X21.here hx rfl (hb hby d_prog_142_method_8_47) rfl rfl ?_
    show Steps pP.tables eE below (T21.setTop (mkF mM 48 #[.val (.ref a)] [(.ref a), (.ref a)])) _
    refine st23 _ ?_
    show Steps pP.tables eE below (T23.setTop (mkF mM 51 #[.val (.ref a)] [(.int (Int32.ofNat (own_endOf cs d f tt))), (.ref a)])) _
    refine XS.iconst X23.here hx rfl (hb hby d_prog_142_method_8_51) ?_
    show Steps pP.tables eE below (T23.setTop (mkF mM 52 #[.val (.ref a)] [(.int (1 : Int32)), (.int (Int32.ofNat (own_endOf cs d f tt))), (.ref a)])) _
    refine XS.iadd X23.here hx rfl (hb hby d_prog_142_method_8_52) rfl ?_
    show Steps pP.tables eE below (T23.setTop (mkF mM 53 #[.val (.ref a)] [(.int ((Int32.ofNat (own_endOf cs d f tt)) + (1 : Int32))), (.ref a)])) _
    rw [own_inc (own_endOf cs d f tt)]
    show Steps pP.tables eE below (T23.setTop (mkF mM 53 #[.val (.ref a)] [(.int (Int32.ofNat (own_endOf cs d f tt + 1))), (.ref a)])) _
    refine st26 _ ?_
    show Steps pP.tables eE below (T26.setTop (mkF mM 56 #[.val (.ref a)] [])) _
    refine XS.aloadN X26.here hx rfl (hb hby d_prog_142_method_8_56) rfl rfl ?_
    show Steps pP.tables eE below (T26.setTop (mkF mM 57 #[.val (.ref a)] [(.ref a)])) _
    refine XS.dup X26.here hx rfl (hb hby d_prog_142_method_8_57) rfl rfl ?_
    show Steps pP.tables eE below (T26.setTop (mkF mM 58 #[.val (.ref a)] [(.ref a), (.ref a)])) _
    refine st29 _ ?_
    show Steps pP.tables eE below (T29.setTop (mkF mM 61 #[.val (.ref a)] [(.int u), (.ref a)])) _
    refine XS.iconst X29.here hx rfl (hb hby d_prog_142_method_8_61) ?_
    show Steps pP.tables eE below (T29.setTop (mkF mM 62 #[.val (.ref a)] [(.int (1 : Int32)), (.int u), (.ref a)])) _
    refine XS.iadd X29.here hx rfl (hb hby d_prog_142_method_8_62) rfl ?_
    show Steps pP.tables eE below (T29.setTop (mkF mM 63 #[.val (.ref a)] [(.int (u + (1 : Int32))), (.ref a)])) _
    refine st31 _ ?_
    show Steps pP.tables eE below (T31.setTop (mkF mM 66 #[.val (.ref a)] [])) _
    exact X31.returnOut hx Bd.returns (hb hby d_prog_142_method_8_66) hr
  · show Q_adv Z a x t kk cs d f tt zc fm u v1 v2 h0 n0 _ T31.heap _
    rw [e31]
    exact ⟨rfl, N31, K32, f34, f35, f36, f37, f38, f39, f40, Fw31⟩
theorem ef_pend (m : MethodId) (x0 : Addr) : entryFrame m #[(.ref x0)] 1 = mkF m 0 #[.val (.ref x0)] [] := by first | (simp [entryFrame, mkF, argsToLocals, Value.category]; done) | rfl
def Q_pend (Z : State) (a : Addr) (u : Int32) (h0 : Heap) (n0 : Nat) (vV : Option Value) (h : Heap) (LL : List Loc) : Prop := vV = some (.int u) ∧ LL = [] ∧ h = h0
set_option maxRecDepth 65536 in
set_option maxHeartbeats 40000000 in
theorem rm_pend (l : Launch) (Z : State) (a0 : Array Value) (hw : ∀ d ∈ tables_1, d.before a0 Z = true) (ws : List Jvm.Cond) (a : Addr) (u : Int32) (h0 : Heap) (n0 : Nat) (O0 : Old Z n0 h0) (F_a_m_nEnd : Fld Z h0 a "com/example/resultwire/resultwire/er7/Pieces" "m_nEnd" "I" (.int u)) :
    MetFree l (⟨"com/example/resultwire/resultwire/er7/Pieces", "end", "()I"⟩ : MethodName) (head1 (Jvm.Cond.code (⟨"com/example/resultwire/resultwire/er7/Pieces", "end", "()I"⟩ : MethodName) prog_142_method_7_code 1 (some .int) :: ws) ({ frames := 0, cells := 0, slots := 0, locals := 0 } : Room)) (fun aa_ U => aa_ = #[(.ref a)] ∧ Z.Warmed39 U.vm ∧ U.heap = h0) (fun _ _ _ _ _ => True) (fun _ U o U' => ∃ vV LL, o = .returned vV ∧ Q_pend Z a u h0 n0 vV U'.heap LL ∧ FrameEnd U o U' LL ({ frames := 0, cells := 0, slots := 0, locals := 0 } : Room).cells ({ frames := 0, cells := 0, slots := 0, locals := 0 } : Room).slots) := by
  refine MetFree.of_bodySF (plainFor_of_name pn_2) hisR ?_
  intro pP eE sS mM args below meth cC s₁ Bd hml0 hP hK
  obtain ⟨rfl, hZ, hh⟩ := hP
  have hx := Bd.exec
  have hby := Bd.bytes
  have hml : cC.maxLocals = 1 := hml0
  have hown : sS.vm.findClass "com/example/resultwire/resultwire/er7/Pieces" = some mM.cls := findClass_of_methodNamed Bd.named
  have hnm := (name_of_methodNamed Bd.named Bd.method).1
  have X0 : Stand pP l eE ({ frames := 0, cells := 0, slots := 0, locals := 0 } : Room) sS mM #[(.ref a)] below meth cC s₁ [] 0 0 := Stand.of_body Bd
  have e0 : s₁.heap = h0 := by rw [← hh, Bd.state]; rfl
  have N0 := Fr.nil n0
  have pre0 : ∀ tg, Steps pP.tables eE below (s₁.setTop (mkF mM 0 #[.val (.ref a)] [])) tg → Steps pP.tables eE below (s₁.setTop (entryFrame mM #[(.ref a)] 1)) tg := fun tg kg => castTop (ef_pend mM a) kg
  obtain ⟨T1, X1, e1, st1⟩ := getF X0 hx hZ hown (host := "") (Or.inl (w_98 hw)) Via.refl e0 F_a_m_nEnd (g := (mkF mM 1 #[.val (.ref a)] [(.ref a)])) rfl rfl (hb hby d_prog_142_method_7_1)
  obtain ⟨fs, hr, hrun, hended, hW, hsame⟩ := X1.leave (v := some (.int u)) (fun h => by rw [Bd.returns] at h; cases h)
  refine ⟨_, _, pre0 _ ?_, hrun, hended, _, _, rfl, ?_, ⟨_, rfl⟩, hW, hsame.mono (by decide) (by decide)⟩
  · refine XS.aloadN X0.here hx rfl (hb hby d_prog_142_method_7_0) rfl rfl ?_
    show Steps pP.tables eE below (s₁.setTop (mkF mM 1 #[.val (.ref a)] [(.ref a)])) _
    refine st1 _ ?_
    show Steps pP.tables eE below (T1.setTop (mkF mM 4 #[.val (.ref a)] [(.int u)])) _
    exact retI X1 hx Bd.returns (hb hby d_prog_142_method_7_4) hr
  · show Q_pend Z a u h0 n0 _ T1.heap _
    rw [e1]
    exact ⟨rfl, rfl, rfl⟩
theorem ef_pi2 (m : MethodId) (x0 : Addr) (x1 : Addr) (x2 : Int32) (x3 : Int32) (x4 : Int32) (x5 : Addr) (x6 : Int32) : entryFrame m #[(.ref x0), (.ref x1), (.int x2), (.int x3), (.int x4), (.ref x5), (.int x6)] 7 = mkF m 0 #[.val (.ref x0), .val (.ref x1), .val (.int x2), .val (.int x3), .val (.int x4), .val (.ref x5), .val (.int x6)] [] := by first | (simp [entryFrame, mkF, argsToLocals, Value.category]; done) | rfl
def Q_pi2 (Z : State) (a : Addr) (x : Addr) (d : Int32) (f : Int32) (tt : Int32) (b : Addr) (n : Int32) (u0 : Value) (u1 : Value) (u2 : Value) (u3 : Value) (u4 : Value) (u5 : Value) (h0 : Heap) (n0 : Nat) (vV : Option Value) (h : Heap) (LL : List Loc) : Prop := vV = none ∧ Fr n0 LL ∧ Keep h0 h [a] ∧ Exa Z h a "com/example/resultwire/resultwire/er7/PieceIndex" ∧ Fld Z h a "com/example/resultwire/resultwire/er7/PieceIndex" "m_sText" "Ljava/lang/String;" (.ref x) ∧ Fld Z h a "com/example/resultwire/resultwire/er7/PieceIndex" "m_nDelimiter" "I" (.int d) ∧ Fld Z h a "com/example/resultwire/resultwire/er7/PieceIndex" "m_nFrom" "I" (.int f) ∧ Fld Z h a "com/example/resultwire/resultwire/er7/PieceIndex" "m_nTo" "I" (.int tt) ∧ Fld Z h a "com/example/resultwire/resultwire/er7/PieceIndex" "m_aEnds" "[I" (.ref b) ∧ Fld Z h a "com/example/resultwire/resultwire/er7/PieceIndex" "m_nCount" "I" (.int n)
set_option maxRecDepth 65536 in
set_option maxHeartbeats 40000000 in
theorem rm_pi2 (l : Launch) (Z : State) (a0 : Array Value) (hw : ∀ d ∈ tables_1, d.before a0 Z = true) (ws : List Jvm.Cond) (a : Addr) (x : Addr) (d : Int32) (f : Int32) (tt : Int32) (b : Addr) (n : Int32) (u0 : Value) (u1 : Value) (u2 : Value) (u3 : Value) (u4 : Value) (u5 : Value) (h0 : Heap) (n0 : Nat) (O0 : Old Z n0 h0) (E_a : Exa Z h0 a "com/example/resultwire/resultwire/er7/PieceIndex") (F_a_m_sText : Fld Z h0 a "com/example/resultwire/resultwire/er7/PieceIndex" "m_sText" "Ljava/lang/String;" u0) (F_a_m_nDelimiter : Fld Z h0 a "com/example/resultwire/resultwire/er7/PieceIndex" "m_nDelimiter" "I" u1) (F_a_m_nFrom : Fld Z h0 a "com/example/resultwire/resultwire/er7/PieceIndex" "m_nFrom" "I" u2) (F_a_m_nTo : Fld Z h0 a "com/example/resultwire/resultwire/er7/PieceIndex" "m_nTo" "I" u3) (F_a_m_aEnds : Fld Z h0 a "com/example/resultwire/resultwire/er7/PieceIndex" "m_aEnds" "[I" u4) (F_a_m_nCount : Fld Z h0 a "com/example/resultwire/resultwire/er7/PieceIndex" "m_nCount" "I" u5) (g_a : n0 ≤ a) :
    MetFree l (⟨"com/example/resultwire/resultwire/er7/PieceIndex", "<init>", "(Ljava/lang/String;III[II)V"⟩ : MethodName) (head1 (Jvm.Cond.code (⟨"com/example/resultwire/resultwire/er7/PieceIndex", "<init>", "(Ljava/lang/String;III[II)V"⟩ : MethodName) prog_140_method_2_code 7 none :: ws) ({ frames := 1, cells := 0, slots := 0, locals := 12 } : Room)) (fun aa_ U => aa_ = #[(.ref a), (.ref x), (.int d), (.int f), (.int tt), (.ref b), (.int n)] ∧ Z.Warmed39 U.vm ∧ U.heap = h0) (fun _ _ _ _ _ => True) (fun _ U o U' => ∃ vV LL, o = .returned vV ∧ Q_pi2 Z a x d f tt b n u0 u1 u2 u3 u4 u5 h0 n0 vV U'.heap LL ∧ FrameEnd U o U' LL ({ frames := 1, cells := 0, slots := 0, locals := 12 } : Room).cells ({ frames := 1, cells := 0, slots := 0, locals := 12 } : Room).slots) := by
  refine MetFree.of_bodySF (plainFor_of_name pn_3) hisR ?_
  intro pP eE sS mM args below meth cC s₁ Bd hml0 hP hK
  obtain ⟨rfl, hZ, hh⟩ := hP
  have hx := Bd.exec
  have hby := Bd.bytes
  have hml : cC.maxLocals = 7 := hml0
  have hown : sS.vm.findClass "com/example/resultwire/resultwire/er7/PieceIndex" = some mM.cls := findClass_of_methodNamed Bd.named
  have hnm := (name_of_methodNamed Bd.named Bd.method).1
  have X0 : Stand pP l eE ({ frames := 1, cells := 0, slots := 0, locals := 12 } : Room) sS mM #[(.ref a), (.ref x), (.int d), (.int f), (.int tt), (.ref b), (.int n)] below meth cC s₁ [] 0 0 := Stand.of_body Bd
  have e0 : s₁.heap = h0 := by rw [← hh, Bd.state]; rfl
  have N0 := Fr.nil n0
  have pre0 : ∀ tg, Steps pP.tables eE below (s₁.setTop (mkF mM 0 #[.val (.ref a), .val (.ref x), .val (.int d), .val (.int f), .val (.int tt), .val (.ref b), .val (.int n)] [])) tg → Steps pP.tables eE below (s₁.setTop (entryFrame mM #[(.ref a), (.ref x), (.int d), (.int f), (.int tt), (.ref b), (.int n)] 7)) tg := fun tg kg => castTop (ef_pi2 mM a x d f tt b n) kg
  have K0 : Keep h0 h0 [a] := Keep.refl _ _
  obtain ⟨T1, X1, e1, st1⟩ := initO X0 hx hZ hown (w_47 hw) (w_17 hw) (w_18 hw) e0 (g := (mkF mM 1 #[.val (.ref a), .val (.ref x), .val (.int d), .val (.int f), .val (.int tt), .val (.ref b), .val (.int n)] [(.ref a)])) rfl (by rw [hml]; rfl) rfl (hb hby d_prog_140_method_2_1) (by decide) (W := 0) (by show 2 * 0 + _ ≤ _; exact Nat.le_of_eq rfl) (by decide)
  obtain ⟨T2, h2, X2, e2, W2, st2⟩ := putF X1 hx hZ hown (host := "") (Or.inl (w_48 hw)) Via.refl e1 F_a_m_sText E_a (Or.inr ⟨(w_49 hw), rfl, hnm⟩) (w_37 hw) (ty := (.object "java/lang/String")) (by decide) rfl rfl (g := (mkF mM 6 #[.val (.ref a), .val (.ref x), .val (.int d), .val (.int f), .val (.int tt), .val (.ref b), .val (.int n)] [(.ref x), (.ref a)])) rfl rfl (hb hby d_prog_140_method_2_6)
  have K3 : Keep h0 h2 [a] := K0.wr W2 (Or.inl (List.mem_of_getElem? (i := 0) rfl))
  have Fw2 : Fld Z h2 a "com/example/resultwire/resultwire/er7/PieceIndex" "m_sText" "Ljava/lang/String;" (.ref x) := F_a_m_sText.same W2
  have N2 := Fr.snoc X2 N0 g_a
  have f4 := (F_a_m_nDelimiter.other W2 (Or.inr (slot_ne (Or.inr (w_51 hw)) (Or.inr (w_49 hw)) (by decide) (t := .int) (t' := (.object "java/lang/String")) (by decide) (by decide))))
  have f5 := (E_a.wr W2)
  obtain ⟨T6, h6, X6, e6, W6, st6⟩ := putF X2 hx hZ hown (host := "") (Or.inl (w_50 hw)) Via.refl e2 f4 f5 (Or.inr ⟨(w_51 hw), rfl, hnm⟩) (w_37 hw) (ty := .int) (by decide) rfl rfl (g := (mkF mM 11 #[.val (.ref a), .val (.ref x), .val (.int d), .val (.int f), .val (.int tt), .val (.ref b), .val (.int n)] [(.int d), (.ref a)])) rfl rfl (hb hby d_prog_140_method_2_11)
  have K7 : Keep h0 h6 [a] := K3.wr W6 (Or.inl (List.mem_of_getElem? (i := 0) rfl))
  have Fw6 : Fld Z h6 a "com/example/resultwire/resultwire/er7/PieceIndex" "m_nDelimiter" "I" (.int d) := f4.same W6
  have N6 := Fr.snoc X6 N2 g_a
  have f8 := ((F_a_m_nFrom.other W2 (Or.inr (slot_ne (Or.inr (w_53 hw)) (Or.inr (w_49 hw)) (by decide) (t := .int) (t' := (.object "java/lang/String")) (by decide) (by decide)))).other W6 (Or.inr (slot_ne (Or.inr (w_53 hw)) (Or.inr (w_51 hw)) (by decide) (t := .int) (t' := .int) (by decide) (by decide))))
  have f9 := (f5.wr W6)
  obtain ⟨T10, h10, X10, e10, W10, st10⟩ := putF X6 hx hZ hown (host := "") (Or.inl (w_52 hw)) Via.refl e6 f8 f9 (Or.inr ⟨(w_53 hw), rfl, hnm⟩) (w_37 hw) (ty := .int) (by decide) rfl rfl (g := (mkF mM 16 #[.val (.ref a), .val (.ref x), .val (.int d), .val (.int f), .val (.int tt), .val (.ref b), .val (.int n)] [(.int f), (.ref a)])) rfl rfl (hb hby d_prog_140_method_2_16)
  have K11 : Keep h0 h10 [a] := K7.wr W10 (Or.inl (List.mem_of_getElem? (i := 0) rfl))
  have Fw10 : Fld Z h10 a "com/example/resultwire/resultwire/er7/PieceIndex" "m_nFrom" "I" (.int f) := f8.same W10
  have N10 := Fr.snoc X10 N6 g_a
  have f12 := (((F_a_m_nTo.other W2 (Or.inr (slot_ne (Or.inr (w_55 hw)) (Or.inr (w_49 hw)) (by decide) (t := .int) (t' := (.object "java/lang/String")) (by decide) (by decide)))).other W6 (Or.inr (slot_ne (Or.inr (w_55 hw)) (Or.inr (w_51 hw)) (by decide) (t := .int) (t' := .int) (by decide) (by decide)))).other W10 (Or.inr (slot_ne (Or.inr (w_55 hw)) (Or.inr (w_53 hw)) (by decide) (t := .int) (t' := .int) (by decide) (by decide))))
  have f13 := (f9.wr W10)
  obtain ⟨T14, h14, X14, e14, W14, st14⟩ := putF X10 hx hZ hown (host := "") (Or.inl (w_54 hw)) Via.refl e10 f12 f13 (Or.inr ⟨(w_55 hw), rfl, hnm⟩) (w_37 hw) (ty := .int) (by decide) rfl rfl (g := (mkF mM 22 #[.val (.ref a), .val (.ref x), .val (.int d), .val (.int f), .val (.int tt), .val (.ref b), .val (.int n)] [(.int tt), (.ref a)])) rfl rfl (hb hby d_prog_140_method_2_22)
  have K15 : Keep h0 h14 [a] := K11.wr W14 (Or.inl (List.mem_of_getElem? (i := 0) rfl))
  have Fw14 : Fld Z h14 a "com/example/resultwire/resultwire/er7/PieceIndex" "m_nTo" "I" (.int tt) := f12.same W14
  have N14 := Fr.snoc X14 N10 g_a
  have f16 := ((((F_a_m_aEnds.other W2 (Or.inr (slot_ne (Or.inr (w_57 hw)) (Or.inr (w_49 hw)) (by decide) (t := (.array .int)) (t' := (.object "java/lang/String")) (by decide) (by decide)))).other W6 (Or.inr (slot_ne (Or.inr (w_57 hw)) (Or.inr (w_51 hw)) (by decide) (t := (.array .int)) (t' := .int) (by decide) (by decide)))).other W10 (Or.inr (slot_ne (Or.inr (w_57 hw)) (Or.inr (w_53 hw)) (by decide) (t := (.array .int)) (t' := .int) (by decide) (by decide)))).other W14 (Or.inr (slot_ne (Or.inr (w_57 hw)) (Or.inr (w_55 hw)) (by decide) (t := (.array .int)) (t' := .int) (by decide) (by decide))))
  have f17 := (f13.wr W14)
  obtain ⟨T18, h18, X18, e18, W18, st18⟩ := putF X14 hx hZ hown (host := "") (Or.inl (w_56 hw)) Via.refl e14 f16 f17 (Or.inr ⟨(w_57 hw), rfl, hnm⟩) (w_37 hw) (ty := (.array .int)) (by decide) rfl rfl (g := (mkF mM 28 #[.val (.ref a), .val (.ref x), .val (.int d), .val (.int f), .val (.int tt), .val (.ref b), .val (.int n)] [(.ref b), (.ref a)])) rfl rfl (hb hby d_prog_140_method_2_28)
  have K19 : Keep h0 h18 [a] := K15.wr W18 (Or.inl (List.mem_of_getElem? (i := 0) rfl))
  have Fw18 : Fld Z h18 a "com/example/resultwire/resultwire/er7/PieceIndex" "m_aEnds" "[I" (.ref b) := f16.same W18
  have N18 := Fr.snoc X18 N14 g_a
  have f20 := (((((F_a_m_nCount.other W2 (Or.inr (slot_ne (Or.inr (w_59 hw)) (Or.inr (w_49 hw)) (by decide) (t := .int) (t' := (.object "java/lang/String")) (by decide) (by decide)))).other W6 (Or.inr (slot_ne (Or.inr (w_59 hw)) (Or.inr (w_51 hw)) (by decide) (t := .int) (t' := .int) (by decide) (by decide)))).other W10 (Or.inr (slot_ne (Or.inr (w_59 hw)) (Or.inr (w_53 hw)) (by decide) (t := .int) (t' := .int) (by decide) (by decide)))).other W14 (Or.inr (slot_ne (Or.inr (w_59 hw)) (Or.inr (w_55 hw)) (by decide) (t := .int) (t' := .int) (by decide) (by decide)))).other W18 (Or.inr (slot_ne (Or.inr (w_59 hw)) (Or.inr (w_57 hw)) (by decide) (t := .int) (t' := (.array .int)) (by decide) (by decide))))
  have f21 := (f17.wr W18)
  obtain ⟨T22, h22, X22, e22, W22, st22⟩ := putF X18 hx hZ hown (host := "") (Or.inl (w_58 hw)) Via.refl e18 f20 f21 (Or.inr ⟨(w_59 hw), rfl, hnm⟩) (w_37 hw) (ty := .int) (by decide) rfl rfl (g := (mkF mM 34 #[.val (.ref a), .val (.ref x), .val (.int d), .val (.int f), .val (.int tt), .val (.ref b), .val (.int n)] [(.int n), (.ref a)])) rfl rfl (hb hby d_prog_140_method_2_34)
  have K23 : Keep h0 h22 [a] := K19.wr W22 (Or.inl (List.mem_of_getElem? (i := 0) rfl))
  have Fw22 : Fld Z h22 a "com/example/resultwire/resultwire/er7/PieceIndex" "m_nCount" "I" (.int n) := f20.same W22
  have N22 := Fr.snoc X22 N18 g_a
  have f25 := (f21.wr W22)
  have f26 := (((((Fw2.other W6 (Or.inr (slot_ne (Or.inr (w_49 hw)) (Or.inr (w_51 hw)) (by decide) (t := (.object "java/lang/String")) (t' := .int) (by decide) (by decide)))).other W10 (Or.inr (slot_ne (Or.inr (w_49 hw)) (Or.inr (w_53 hw)) (by decide) (t := (.object "java/lang/String")) (t' := .int) (by decide) (by decide)))).other W14 (Or.inr (slot_ne (Or.inr (w_49 hw)) (Or.inr (w_55 hw)) (by decide) (t := (.object "java/lang/String")) (t' := .int) (by decide) (by decide)))).other W18 (Or.inr (slot_ne (Or.inr (w_49 hw)) (Or.inr (w_57 hw)) (by decide) (t := (.object "java/lang/String")) (t' := (.array .int)) (by decide) (by decide)))).other W22 (Or.inr (slot_ne (Or.inr (w_49 hw)) (Or.inr (w_59 hw)) (by decide) (t := (.object "java/lang/String")) (t' := .int) (by decide) (by decide))))
  have f27 := ((((Fw6.other W10 (Or.inr (slot_ne (Or.inr (w_51 hw)) (Or.inr (w_53 hw)) (by decide) (t := .int) (t' := .int) (by decide) (by decide)))).other W14 (Or.inr (slot_ne (Or.inr (w_51 hw)) (Or.inr (w_55 hw)) (by decide) (t := .int) (t' := .int) (by decide) (by decide)))).other W18 (Or.inr (slot_ne (Or.inr (w_51 hw)) (Or.inr (w_57 hw)) (by decide) (t := .int) (t' := (.array .int)) (by decide) (by decide)))).other W22 (Or.inr (slot_ne (Or.inr (w_51 hw)) (Or.inr (w_59 hw)) (by decide) (t := .int) (t' := .int) (by decide) (by decide))))
  have f28 := (((Fw10.other W14 (Or.inr (slot_ne (Or.inr (w_53 hw)) (Or.inr (w_55 hw)) (by decide) (t := .int) (t' := .int) (by decide) (by decide)))).other W18 (Or.inr (slot_ne (Or.inr (w_53 hw)) (Or.inr (w_57 hw)) (by decide) (t := .int) (t' := (.array .int)) (by decide) (by decide)))).other W22 (Or.inr (slot_ne (Or.inr (w_53 hw)) (Or.inr (w_59 hw)) (by decide) (t := .int) (t' := .int) (by decide) (by decide))))
  have f29 := ((Fw14.other W18 (Or.inr (slot_ne (Or.inr (w_55 hw)) (Or.inr (w_57 hw)) (by decide) (t := .int) (t' := (.array .int)) (by decide) (by decide)))).other W22 (Or.inr (slot_ne (Or.inr (w_55 hw)) (Or.inr (w_59 hw)) (by decide) (t := .int) (t' := .int) (by decide) (by decide))))
  have f30 := (Fw18.other W22 (Or.inr (slot_ne (Or.inr (w_57 hw)) (Or.inr (w_59 hw)) (by decide) (t := (.array .int)) (t' := .int) (by decide) (by decide))))
  obtain ⟨fs, hr, hrun, hended, hW, hsame⟩ := X22.leave (v := none) (fun _ => rfl)
  refine ⟨_, _, pre0 _ ?_, hrun, hended, _, _, rfl, ?_, ⟨_, rfl⟩, hW, hsame.mono (by decide) (by decide)⟩
  · refine XS.aloadN X0.here hx rfl (hb hby d_prog_140_method_2_0) rfl rfl ?_
    show Steps pP.tables eE below (s₁.setTop (mkF mM 1 #[.val (.ref a), .val (.ref x), .val (.int d), .val (.int f), .val (.int tt), .val (.ref b), .val (.int n)] [(.ref a)])) _
    refine st1 _ ?_
    show Steps pP.tables eE below (T1.setTop (mkF mM 4 #[.val (.ref a), .val (.ref x), .val (.int d), .val (.int f), .val (.int tt), .val (.ref b), .val (.int n)] [])) _
    refine XS.aloadN X1.here hx rfl (hb hby d_prog_140_method_2_4) rfl rfl ?_
    show Steps pP.tables eE below (T1.setTop (mkF mM 5 #[.val (.ref a), .val (.ref x), .val (.int d), .val (.int f), .val (.int tt), .val (.ref b), .val (.int n)] [(.ref a)])) _
    refine XS.aloadN X1.here hx rfl (hb hby d_prog_140_method_2_5) rfl rfl ?_
    show Steps pP.tables eE below (T1.setTop (mkF mM 6 #[.val (.ref a), .val (.ref x), .val (.int d), .val (.int f), .val (.int tt), .val (.ref b), .val (.int n)] [(.ref x), (.ref a)])) _
    refine st2 _ ?_
    show Steps pP.tables eE below (T2.setTop (mkF mM 9 #[.val (.ref a), .val (.ref x), .val (.int d), .val (.int f), .val (.int tt), .val (.ref b), .val (.int n)] [])) _
    refine XS.aloadN X2.here hx rfl (hb hby d_prog_140_method_2_9) rfl rfl ?_
    show Steps pP.tables eE below (T2.setTop (mkF mM 10 #[.val (.ref a), .val (.ref x), .val (.int d), .val (.int f), .val (.int tt), .val (.ref b), .val (.int n)] [(.ref a)])) _
    refine XS.iloadN X2.here hx rfl (hb hby d_prog_140_method_2_10) rfl ?_
    show Steps pP.tables eE below (T2.setTop (mkF mM 11 #[.val (.ref a), .val (.ref x), .val (.int d), .val (.int f), .val (.int tt), .val (.ref b), .val (.int n)] [(.int d), (.ref a)])) _
    refine st6 _ ?_
    show Steps pP.tables eE below (T6.setTop (mkF mM 14 #[.val (.ref a), .val (.ref x), .val (.int d), .val (.int f), .val (.int tt), .val (.ref b), .val (.int n)] [])) _
    refine XS.aloadN X6.here hx rfl (hb hby d_prog_140_method_2_14) rfl rfl ?_
    show Steps pP.tables eE below (T6.setTop (mkF mM 15 #[.val (.ref a), .val (.ref x), .val (.int d), .val (.int f), .val (.int tt), .val (.ref b), .val (.int n)] [(.ref a)])) _
    refine XS.iloadN X6.here hx rfl (hb hby d_prog_140_method_2_15) rfl ?_
    show Steps pP.tables eE below (T6.setTop (mkF mM 16 #[.val (.ref a), .val (.ref x), .val (.int d), .val (.int f), .val (.int tt), .val (.ref b), .val (.int n)] [(.int f), (.ref a)])) _
    refine st10 _ ?_
    show Steps pP.tables eE below (T10.setTop (mkF mM 19 #[.val (.ref a), .val (.ref x), .val (.int d), .val (.int f), .val (.int tt), .val (.ref b), .val (.int n)] [])) _
    refine XS.aloadN X10.here hx rfl (hb hby d_prog_140_method_2_19) rfl rfl ?_
    show Steps pP.tables eE below (T10.setTop (mkF mM 20 #[.val (.ref a), .val (.ref x), .val (.int d), .val (.int f), .val (.int tt), .val (.ref b), .val (.int n)] [(.ref a)])) _
    refine XS.iload X10.here hx rfl (hb hby d_prog_140_method_2_20) rfl ?_
    show Steps pP.tables eE below (T10.setTop (mkF mM 22 #[.val (.ref a), .val (.ref x), .val (.int d), .val (.int f), .val (.int tt), .val (.ref b), .val (.int n)] [(.int tt), (.ref a)])) _
    refine st14 _ ?_
    show Steps pP.tables eE below (T14.setTop (mkF mM 25 #[.val (.ref a), .val (.ref x), .val (.int d), .val (.int f), .val (.int tt), .val (.ref b), .val (.int n)] [])) _
    refine XS.aloadN X14.here hx rfl (hb hby d_prog_140_method_2_25) rfl rfl ?_
    show Steps pP.tables eE below (T14.setTop (mkF mM 26 #[.val (.ref a), .val (.ref x), .val (.int d), .val (.int f), .val (.int tt), .val (.ref b), .val (.int n)] [(.ref a)])) _
    refine XS.aload X14.here hx rfl (hb hby d_prog_140_method_2_26) rfl rfl ?_
    show Steps pP.tables eE below (T14.setTop (mkF mM 28 #[.val (.ref a), .val (.ref x), .val (.int d), .val (.int f), .val (.int tt), .val (.ref b), .val (.int n)] [(.ref b), (.ref a)])) _
    refine st18 _ ?_
    show Steps pP.tables eE below (T18.setTop (mkF mM 31 #[.val (.ref a), .val (.ref x), .val (.int d), .val (.int f), .val (.int tt), .val (.ref b), .val (.int n)] [])) _
    refine XS.aloadN X18.here hx rfl (hb hby d_prog_140_method_2_31) rfl rfl ?_
    show Steps pP.tables eE below (T18.setTop (mkF mM 32 #[.val (.ref a), .val (.ref x), .val (.int d), .val (.int f), .val (.int tt), .val (.ref b), .val (.int n)] [(.ref a)])) _
    refine XS.iload X18.here hx rfl (hb hby d_prog_140_method_2_32) rfl ?_
    show Steps pP.tables eE below (T18.setTop (mkF mM 34 #[.val (.ref a), .val (.ref x), .val (.int d), .val (.int f), .val (.int tt), .val (.ref b), .val (.int n)] [(.int n), (.ref a)])) _
    refine st22 _ ?_
    show Steps pP.tables eE below (T22.setTop (mkF mM 37 #[.val (.ref a), .val (.ref x), .val (.int d), .val (.int f), .val (.int tt), .val (.ref b), .val (.int n)] [])) _
    exact X22.returnOut hx Bd.returns (hb hby d_prog_140_method_2_37) hr
  · show Q_pi2 Z a x d f tt b n u0 u1 u2 u3 u4 u5 h0 n0 _ T22.heap _
    rw [e22]
    exact ⟨rfl, N22, K23, f25, f26, f27, f28, f29, f30, Fw22⟩
theorem ef_pi1 (m : MethodId) (x0 : Addr) (x1 : Addr) (x2 : Int32) (x3 : Int32) (x4 : Int32) : entryFrame m #[(.ref x0), (.ref x1), (.int x2), (.int x3), (.int x4)] 5 = mkF m 0 #[.val (.ref x0), .val (.ref x1), .val (.int x2), .val (.int x3), .val (.int x4)] [] := by first | (simp [entryFrame, mkF, argsToLocals, Value.category]; done) | rfl
def Q_pi1 (Z : State) (a : Addr) (x : Addr) (d : Int32) (f : Int32) (tt : Int32) (ne : Addr) (u0 : Value) (u1 : Value) (u2 : Value) (u3 : Value) (u4 : Value) (u5 : Value) (h0 : Heap) (n0 : Nat) (vV : Option Value) (h : Heap) (LL : List Loc) : Prop := vV = none ∧ Fr n0 LL ∧ Keep h0 h [a] ∧ Exa Z h a "com/example/resultwire/resultwire/er7/PieceIndex" ∧ Fld Z h a "com/example/resultwire/resultwire/er7/PieceIndex" "m_sText" "Ljava/lang/String;" (.ref x) ∧ Fld Z h a "com/example/resultwire/resultwire/er7/PieceIndex" "m_nDelimiter" "I" (.int d) ∧ Fld Z h a "com/example/resultwire/resultwire/er7/PieceIndex" "m_nFrom" "I" (.int f) ∧ Fld Z h a "com/example/resultwire/resultwire/er7/PieceIndex" "m_nTo" "I" (.int tt) ∧ Fld Z h a "com/example/resultwire/resultwire/er7/PieceIndex" "m_aEnds" "[I" (.ref ne) ∧ Fld Z h a "com/example/resultwire/resultwire/er7/PieceIndex" "m_nCount" "I" (.int (0 : Int32))
set_option maxRecDepth 65536 in
set_option maxHeartbeats 40000000 in
theorem rm_pi1 (l : Launch) (Z : State) (a0 : Array Value) (hw : ∀ d ∈ tables_1, d.before a0 Z = true) (ws : List Jvm.Cond) (a : Addr) (x : Addr) (d : Int32) (f : Int32) (tt : Int32) (ne : Addr) (u0 : Value) (u1 : Value) (u2 : Value) (u3 : Value) (u4 : Value) (u5 : Value) (h0 : Heap) (n0 : Nat) (O0 : Old Z n0 h0) (E_a : Exa Z h0 a "com/example/resultwire/resultwire/er7/PieceIndex") (F_a_m_sText : Fld Z h0 a "com/example/resultwire/resultwire/er7/PieceIndex" "m_sText" "Ljava/lang/String;" u0) (F_a_m_nDelimiter : Fld Z h0 a "com/example/resultwire/resultwire/er7/PieceIndex" "m_nDelimiter" "I" u1) (F_a_m_nFrom : Fld Z h0 a "com/example/resultwire/resultwire/er7/PieceIndex" "m_nFrom" "I" u2) (F_a_m_nTo : Fld Z h0 a "com/example/resultwire/resultwire/er7/PieceIndex" "m_nTo" "I" u3) (F_a_m_aEnds : Fld Z h0 a "com/example/resultwire/resultwire/er7/PieceIndex" "m_aEnds" "[I" u4) (F_a_m_nCount : Fld Z h0 a "com/example/resultwire/resultwire/er7/PieceIndex" "m_nCount" "I" u5) (g_a : n0 ≤ a) (S_NO_ENDS : Sta Z Z.heap "com/example/resultwire/resultwire/er7/PieceIndex" "NO_ENDS" "[I" (.ref ne)) :
    MetFree l (⟨"com/example/resultwire/resultwire/er7/PieceIndex", "<init>", "(Ljava/lang/String;III)V"⟩ : MethodName) (head1 (Jvm.Cond.code (⟨"com/example/resultwire/resultwire/er7/PieceIndex", "<init>", "(Ljava/lang/String;III)V"⟩ : MethodName) prog_140_method_1_code 5 none :: ws) ({ frames := 2, cells := 0, slots := 0, locals := 30 } : Room)) (fun aa_ U => aa_ = #[(.ref a), (.ref x), (.int d), (.int f), (.int tt)] ∧ Z.Warmed39 U.vm ∧ U.heap = h0) (fun _ _ _ _ _ => True) (fun _ U o U' => ∃ vV LL, o = .returned vV ∧ Q_pi1 Z a x d f tt ne u0 u1 u2 u3 u4 u5 h0 n0 vV U'.heap LL ∧ FrameEnd U o U' LL ({ frames := 2, cells := 0, slots := 0, locals := 30 } : Room).cells ({ frames := 2, cells := 0, slots := 0, locals := 30 } : Room).slots) := by
  refine MetFree.of_bodySF (plainFor_of_name pn_3) hisR ?_
  intro pP eE sS mM args below meth cC s₁ Bd hml0 hP hK
  obtain ⟨rfl, hZ, hh⟩ := hP
  have hx := Bd.exec
  have hby := Bd.bytes
  have hml : cC.maxLocals = 5 := hml0
  have hown : sS.vm.findClass "com/example/resultwire/resultwire/er7/PieceIndex" = some mM.cls := findClass_of_methodNamed Bd.named
  have hnm := (name_of_methodNamed Bd.named Bd.method).1
  have X0 : Stand pP l eE ({ frames := 2, cells := 0, slots := 0, locals := 30 } : Room) sS mM #[(.ref a), (.ref x), (.int d), (.int f), (.int tt)] below meth cC s₁ [] 0 0 := Stand.of_body Bd
  have e0 : s₁.heap = h0 := by rw [← hh, Bd.state]; rfl
  have N0 := Fr.nil n0
  have pre0 : ∀ tg, Steps pP.tables eE below (s₁.setTop (mkF mM 0 #[.val (.ref a), .val (.ref x), .val (.int d), .val (.int f), .val (.int tt)] [])) tg → Steps pP.tables eE below (s₁.setTop (entryFrame mM #[(.ref a), (.ref x), (.int d), (.int f), (.int tt)] 5)) tg := fun tg kg => castTop (ef_pi1 mM a x d f tt) kg
  have K0 : Keep h0 h0 [a] := Keep.refl _ _
  obtain ⟨T1, X1, e1, st1⟩ := getS2 X0 hx hZ hown (host := "") (Or.inl (w_42 hw)) Via.refl e0 (Sta.ext (O0).2 S_NO_ENDS) (g := (mkF mM 6 #[.val (.ref a), .val (.ref x), .val (.int d), .val (.int f), .val (.int tt)] [(.int tt), (.int f), (.int d), (.ref x), (.ref a)])) rfl (hb hby d_prog_140_method_1_6)
  obtain ⟨_, _, ⟨T2, L2, k2, n2⟩, -, X2, ⟨Lc2, hQ2, l2, y2, z2⟩, st2⟩ := X1.specialBack hx (y := (⟨"com/example/resultwire/resultwire/er7/PieceIndex", "<init>", "(Ljava/lang/String;III[II)V"⟩ : MethodName)) rfl hown (mvT hZ (w_44 hw)) (mvT hZ (w_45 hw)) (mvT hZ (w_46 hw)) (by decide) (backOf (W := 0) (rm_pi2 l Z a0 hw [] a x d f tt ne (0 : Int32) u0 u1 u2 u3 u4 u5 h0 n0 O0 E_a F_a_m_sText F_a_m_nDelimiter F_a_m_nFrom F_a_m_nTo F_a_m_aEnds F_a_m_nCount g_a) hZ (w_46 hw) (w_38 hw) (by decide) (by decide)) (g := (mkF mM 10 #[.val (.ref a), .val (.ref x), .val (.int d), .val (.int f), .val (.int tt)] [(.int (0 : Int32)), (.ref ne), (.int tt), (.int f), (.int d), (.ref x), (.ref a)])) rfl (by rw [hml]; rfl) (Steps.refl _) (a := a) (argsL := [(.ref x), (.int d), (.int f), (.int tt), (.ref ne), (.int (0 : Int32))]) (rest := []) (lenOf pd_7 rfl) rfl (by show 2 * 0 + _ ≤ _; exact Nat.le_of_eq rfl) (hb hby d_prog_140_method_1_10) (fun _ _ => ⟨rfl, e1, (by decide : 0 + 0 ≤ _), (by decide : 0 + 0 ≤ _)⟩)
  dsimp only [Pt.U, Pt.locs, Pt.cells, Pt.slots] at X2 l2 y2 z2 st2 hQ2
  subst l2 y2 z2
  obtain ⟨rfl, Nq2, Kq2, q2_0, q2_1, q2_2, q2_3, q2_4, q2_5, q2_6⟩ := hQ2
  have N2 := Fr.app N0 Nq2
  have K3 : Keep h0 T2.heap [a] := K0.trans Kq2 (allS (Or.inl (List.mem_of_getElem? (i := 0) rfl)) all0)
  obtain ⟨fs, hr, hrun, hended, hW, hsame⟩ := X2.leave (v := none) (fun _ => rfl)
  refine ⟨_, _, pre0 _ ?_, hrun, hended, _, _, rfl, ?_, ⟨_, rfl⟩, hW, hsame.mono (by decide) (by decide)⟩
  · refine XS.aloadN X0.here hx rfl (hb hby d_prog_140_method_1_0) rfl rfl ?_
    show Steps pP.tables eE below (s₁.setTop (mkF mM 1 #[.val (.ref a), .val (.ref x), .val (.int d), .val (.int f), .val (.int tt)] [(.ref a)])) _
    refine XS.aloadN X0.here hx rfl (hb hby d_prog_140_method_1_1) rfl rfl ?_
    show Steps pP.tables eE below (s₁.setTop (mkF mM 2 #[.val (.ref a), .val (.ref x), .val (.int d), .val (.int f), .val (.int tt)] [(.ref x), (.ref a)])) _
    refine XS.iloadN X0.here hx rfl (hb hby d_prog_140_method_1_2) rfl ?_
    show Steps pP.tables eE below (s₁.setTop (mkF mM 3 #[.val (.ref a), .val (.ref x), .val (.int d), .val (.int f), .val (.int tt)] [(.int d), (.ref x), (.ref a)])) _
    refine XS.iloadN X0.here hx rfl (hb hby d_prog_140_method_1_3) rfl ?_
    show Steps pP.tables eE below (s₁.setTop (mkF mM 4 #[.val (.ref a), .val (.ref x), .val (.int d), .val (.int f), .val (.int tt)] [(.int f), (.int d), (.ref x), (.ref a)])) _
    refine XS.iload X0.here hx rfl (hb hby d_prog_140_method_1_4) rfl ?_
    show Steps pP.tables eE below (s₁.setTop (mkF mM 6 #[.val (.ref a), .val (.ref x), .val (.int d), .val (.int f), .val (.int tt)] [(.int tt), (.int f), (.int d), (.ref x), (.ref a)])) _
    refine st1 _ ?_
    show Steps pP.tables eE below (T1.setTop (mkF mM 9 #[.val (.ref a), .val (.ref x), .val (.int d), .val (.int f), .val (.int tt)] [(.ref ne), (.int tt), (.int f), (.int d), (.ref x), (.ref a)])) _
    refine XS.iconst X1.here hx rfl (hb hby d_prog_140_method_1_9) ?_
    show Steps pP.tables eE below (T1.setTop (mkF mM 10 #[.val (.ref a), .val (.ref x), .val (.int d), .val (.int f), .val (.int tt)] [(.int (0 : Int32)), (.ref ne), (.int tt), (.int f), (.int d), (.ref x), (.ref a)])) _
    refine st2.trans ?_
    show Steps pP.tables eE below (T2.setTop (mkF mM 13 #[.val (.ref a), .val (.ref x), .val (.int d), .val (.int f), .val (.int tt)] [])) _
    exact X2.returnOut hx Bd.returns (hb hby d_prog_140_method_1_13) hr
  · show Q_pi1 Z a x d f tt ne u0 u1 u2 u3 u4 u5 h0 n0 _ T2.heap _
    exact ⟨rfl, N2, K3, q2_0, q2_1, q2_2, q2_3, q2_4, q2_5, q2_6⟩
theorem ef_cp0 (m : MethodId) (x0 : Addr) (x1 : Int32) : entryFrame m #[(.ref x0), (.int x1)] 3 = mkF m 0 #[.val (.ref x0), .val (.int x1), .unset] [] := by first | (simp [entryFrame, mkF, argsToLocals, Value.category]; done) | rfl
def Q_cp0 (Z : State) (t : Addr) (k : ClassId) (h0 : Heap) (n0 : Nat) (vV : Option Value) (h : Heap) (LL : List Loc) : Prop := ∃ (b : Addr) (kb : ClassId), vV = some (.ref b) ∧ Fr n0 LL ∧ Keep h0 h [] ∧ h0.size ≤ b ∧ Arv Z h b kb .int (8 : Int32) [] (.int (0 : Int32))
set_option maxRecDepth 65536 in
set_option maxHeartbeats 40000000 in
theorem rm_cp0 (l : Launch) (Z : State) (a0 : Array Value) (hw : ∀ d ∈ tables_1, d.before a0 Z = true) (ws : List Jvm.Cond) (t : Addr) (k : ClassId) (h0 : Heap) (n0 : Nat) (O0 : Old Z n0 h0) (V_t : Arv Z h0 t k .int (0 : Int32) [] (.int (0 : Int32))) :
    MetFree l (⟨"java/util/Arrays", "copyOf", "([II)[I"⟩ : MethodName) (head1 (Jvm.Cond.code (⟨"java/util/Arrays", "copyOf", "([II)[I"⟩ : MethodName) jdk_65_method_123_code 3 (some (.array .int)) :: ws) ({ frames := 1, cells := 1, slots := 8, locals := 18 } : Room)) (fun aa_ U => aa_ = #[(.ref t), (.int (8 : Int32))] ∧ Z.Warmed39 U.vm ∧ U.heap = h0) (fun _ _ _ _ _ => True) (fun _ U o U' => ∃ vV LL, o = .returned vV ∧ Q_cp0 Z t k h0 n0 vV U'.heap LL ∧ FrameEnd U o U' LL ({ frames := 1, cells := 1, slots := 8, locals := 18 } : Room).cells ({ frames := 1, cells := 1, slots := 8, locals := 18 } : Room).slots) := by
  refine MetFree.of_bodySF (plainFor_of_name pn_4) hisR ?_
  intro pP eE sS mM args below meth cC s₁ Bd hml0 hP hK
  obtain ⟨rfl, hZ, hh⟩ := hP
  have hx := Bd.exec
  have hby := Bd.bytes
  have hml : cC.maxLocals = 3 := hml0
  have hown : sS.vm.findClass "java/util/Arrays" = some mM.cls := findClass_of_methodNamed Bd.named
  have hnm := (name_of_methodNamed Bd.named Bd.method).1
  have X0 : Stand pP l eE ({ frames := 1, cells := 1, slots := 8, locals := 18 } : Room) sS mM #[(.ref t), (.int (8 : Int32))] below meth cC s₁ [] 0 0 := Stand.of_body Bd
  have e0 : s₁.heap = h0 := by rw [← hh, Bd.state]; rfl
  have N0 := Fr.nil n0
  have pre0 : ∀ tg, Steps pP.tables eE below (s₁.setTop (mkF mM 0 #[.val (.ref t), .val (.int (8 : Int32)), .unset] [])) tg → Steps pP.tables eE below (s₁.setTop (entryFrame mM #[(.ref t), (.int (8 : Int32))] 3)) tg := fun tg kg => castTop (ef_cp0 mM t (8 : Int32)) kg
  have K0 : Keep h0 h0 [] := Keep.refl _ _
  obtain ⟨cl1, Ar1, -, S1, Nn1, -, -⟩ := id V_t
  obtain ⟨T2, h2, k2, X2, e2, E2, A2, st2⟩ := newP X0 hx hZ (aty := .int) (w_73 hw) e0 (g := (mkF mM 15 #[.val (.ref t), .val (.int (8 : Int32)), .unset] [(.int (8 : Int32))])) rfl (hb hby d_jdk_65_method_123_15) rfl (by decide) (cap := 8) (by decide) (by decide) (by decide) (by decide)
  obtain ⟨b2, g2⟩ : ∃ z, z = h0.size := ⟨_, rfl⟩
  rw [← g2] at A2 st2
  have g_b2 : n0 ≤ b2 := Nat.le_trans (own_osz O0) (Nat.le_of_eq g2.symm)
  have sz_b2 : h0.size ≤ b2 := Nat.le_trans K0.1 (Nat.le_of_eq g2.symm)
  have K3 : Keep h0 h2 [] := K0.ext E2
  have V2 : Arv Z h2 b2 k2 .int (8 : Int32) [(.int (0 : Int32)), (.int (0 : Int32)), (.int (0 : Int32)), (.int (0 : Int32)), (.int (0 : Int32)), (.int (0 : Int32)), (.int (0 : Int32)), (.int (0 : Int32))] (.int (0 : Int32)) := (Arv.new A2 (by decide)).pad (pad_rep [] (.int (0 : Int32)) 8)
  have f5 := (V_t.ext E2)
  obtain ⟨cl4, Ar4, -, S4, Nn4, -, -⟩ := id f5
  have f6 := (O0.ext E2)
  obtain ⟨_, _, ⟨T7, L7, k7, n7⟩, -, X7, ⟨Lc7, hQ7, l7, y7, z7⟩, st7⟩ := Jvm.LawKit.callS X2 hx (y := (⟨"java/lang/Math", "min", "(II)I"⟩ : MethodName)) hown (mvT hZ (w_74 hw)) (mvT hZ (w_75 hw)) (mvT hZ (w_67 hw)) (mvT hZ (w_76 hw)) (by decide) (backOf (W := 4) (rm_min l Z a0 hw [] (0 : Int32) (8 : Int32) h2 n0 f6 ) hZ (w_76 hw) (w_67 hw) (by decide) (by decide)) (g := (mkF mM 25 #[.val (.ref t), .val (.int (8 : Int32)), .val (.ref b2)] [(.int (8 : Int32)), (.int (0 : Int32)), (.int (0 : Int32)), (.ref b2), (.int (0 : Int32)), (.ref t)])) rfl (by rw [hml]; rfl) (argsL := [(.int (0 : Int32)), (.int (8 : Int32))]) (rest := [(.int (0 : Int32)), (.ref b2), (.int (0 : Int32)), (.ref t)]) (lenOf pd_1 rfl) rfl (by show 2 * 0 + _ ≤ _; exact Nat.le_of_eq rfl) (hb hby d_jdk_65_method_123_25) (fun _ _ => ⟨rfl, e2, (by decide : 1 + 0 ≤ _), (by decide : 8 + 0 ≤ _)⟩)
  dsimp only [Pt.U, Pt.locs, Pt.cells, Pt.slots] at X7 l7 y7 z7 st7 hQ7
  subst l7 y7 z7
  obtain ⟨rfl, rfl, Kq7⟩ := hQ7
  try rw [List.append_nil] at X7
  obtain ⟨T8, h8, L8, X8, e8, N8, Kc8, Vc8, st8⟩ := cpA X7 hx hZ hown (w_77 hw) (w_80 hw) (w_78 hw) (w_79 hw) Kq7 f5 V2 (us := []) (Or.inl ⟨rfl, rfl⟩) (by decide) (by decide) (by decide) (by decide) (by decide) rfl (by decide) N0 g_b2 (g := (mkF mM 28 #[.val (.ref t), .val (.int (8 : Int32)), .val (.ref b2)] [(.int (0 : Int32)), (.int (0 : Int32)), (.ref b2), (.int (0 : Int32)), (.ref t)])) rfl (by rw [hml]; rfl) (rest := []) rfl (hb hby d_jdk_65_method_123_28) (by decide) (W := 0) (by show 2 * 0 + _ ≤ _; exact Nat.le_of_eq rfl) (by simp [nativeFrameWords])
  have K9 : Keep h0 h8 [] := K3.trans Kc8 (allS (Or.inr sz_b2) all0)
  have V8 : Arv Z h8 b2 k2 .int (8 : Int32) [(.int (0 : Int32)), (.int (0 : Int32)), (.int (0 : Int32)), (.int (0 : Int32)), (.int (0 : Int32)), (.int (0 : Int32)), (.int (0 : Int32)), (.int (0 : Int32))] (.int (0 : Int32)) := Vc8
  obtain ⟨fs, hr, hrun, hended, hW, hsame⟩ := X8.leave (v := some (.ref b2)) (fun h => by rw [Bd.returns] at h; cases h)
  refine ⟨_, _, pre0 _ ?_, hrun, hended, _, _, rfl, ?_, ⟨_, rfl⟩, hW, hsame.mono (by decide) (by decide)⟩
  · refine XS.iloadN X0.here hx rfl (hb hby d_jdk_65_method_123_0) rfl ?_
    show Steps pP.tables eE below (s₁.setTop (mkF mM 1 #[.val (.ref t), .val (.int (8 : Int32)), .unset] [(.int (8 : Int32))])) _
    refine XS.aloadN X0.here hx rfl (hb hby d_jdk_65_method_123_1) rfl rfl ?_
    show Steps pP.tables eE below (s₁.setTop (mkF mM 2 #[.val (.ref t), .val (.int (8 : Int32)), .unset] [(.ref t), (.int (8 : Int32))])) _
    refine X0.arraylength hx (by rw [e0]; exact Ar1.1) (State.isArrayOf_alike hZ.alike Ar1.2.1) (g := (mkF mM 2 #[.val (.ref t), .val (.int (8 : Int32)), .unset] [(.ref t), (.int (8 : Int32))])) rfl rfl (hb hby d_jdk_65_method_123_2) _ ?_
    rw [len_of S1 Nn1]
    show Steps pP.tables eE below (s₁.setTop (mkF mM 3 #[.val (.ref t), .val (.int (8 : Int32)), .unset] [(.int (0 : Int32)), (.int (8 : Int32))])) _
    refine XS.icmpYes X0.here hx rfl (pc0 := 3) (pc' := 14) rfl (hb hby d_jdk_65_method_123_3) rfl (feq (by decide : ¬ ((8 : Int32) = (0 : Int32)))).2 (by decide) (by decide) ?_
    show Steps pP.tables eE below (s₁.setTop (mkF mM 14 #[.val (.ref t), .val (.int (8 : Int32)), .unset] [])) _
    refine XS.iloadN X0.here hx rfl (hb hby d_jdk_65_method_123_14) rfl ?_
    show Steps pP.tables eE below (s₁.setTop (mkF mM 15 #[.val (.ref t), .val (.int (8 : Int32)), .unset] [(.int (8 : Int32))])) _
    refine st2 _ ?_
    show Steps pP.tables eE below (T2.setTop (mkF mM 17 #[.val (.ref t), .val (.int (8 : Int32)), .unset] [(.ref b2)])) _
    refine XS.astoreN X2.here hx rfl (hb hby d_jdk_65_method_123_17) rfl rfl (l' := #[.val (.ref t), .val (.int (8 : Int32)), .val (.ref b2)]) rfl ?_
    show Steps pP.tables eE below (T2.setTop (mkF mM 18 #[.val (.ref t), .val (.int (8 : Int32)), .val (.ref b2)] [])) _
    refine XS.aloadN X2.here hx rfl (hb hby d_jdk_65_method_123_18) rfl rfl ?_
    show Steps pP.tables eE below (T2.setTop (mkF mM 19 #[.val (.ref t), .val (.int (8 : Int32)), .val (.ref b2)] [(.ref t)])) _
    refine XS.iconst X2.here hx rfl (hb hby d_jdk_65_method_123_19) ?_
    show Steps pP.tables eE below (T2.setTop (mkF mM 20 #[.val (.ref t), .val (.int (8 : Int32)), .val (.ref b2)] [(.int (0 : Int32)), (.ref t)])) _
    refine XS.aloadN X2.here hx rfl (hb hby d_jdk_65_method_123_20) rfl rfl ?_
    show Steps pP.tables eE below (T2.setTop (mkF mM 21 #[.val (.ref t), .val (.int (8 : Int32)), .val (.ref b2)] [(.ref b2), (.int (0 : Int32)), (.ref t)])) _
    refine XS.iconst X2.here hx rfl (hb hby d_jdk_65_method_123_21) ?_
    show Steps pP.tables eE below (T2.setTop (mkF mM 22 #[.val (.ref t), .val (.int (8 : Int32)), .val (.ref b2)] [(.int (0 : Int32)), (.ref b2), (.int (0 : Int32)), (.ref t)])) _
    refine XS.aloadN X2.here hx rfl (hb hby d_jdk_65_method_123_22) rfl rfl ?_
    show Steps pP.tables eE below (T2.setTop (mkF mM 23 #[.val (.ref t), .val (.int (8 : Int32)), .val (.ref b2)] [(.ref t), (.int (0 : Int32)), (.ref b2), (.int (0 : Int32)), (.ref t)])) _
    refine X2.arraylength hx (by rw [e2]; exact Ar4.1) (State.isArrayOf_alike hZ.alike Ar4.2.1) (g := (mkF mM 23 #[.val (.ref t), .val (.int (8 : Int32)), .val (.ref b2)] [(.ref t), (.int (0 : Int32)), (.ref b2), (.int (0 : Int32)), (.ref t)])) rfl rfl (hb hby d_jdk_65_method_123_23) _ ?_
    rw [len_of S4 Nn4]
    show Steps pP.tables eE below (T2.setTop (mkF mM 24 #[.val (.ref t), .val (.int (8 : Int32)), .val (.ref b2)] [(.int (0 : Int32)), (.int (0 : Int32)), (.ref b2), (.int (0 : Int32)), (.ref t)])) _
    refine XS.iloadN X2.here hx rfl (hb hby d_jdk_65_method_123_24) rfl ?_
    show Steps pP.tables eE below (T2.setTop (mkF mM 25 #[.val (.ref t), .val (.int (8 : Int32)), .val (.ref b2)] [(.int (8 : Int32)), (.int (0 : Int32)), (.int (0 : Int32)), (.ref b2), (.int (0 : Int32)), (.ref t)])) _
    refine st7 _ ?_
    show Steps pP.tables eE below (T7.setTop (mkF mM 28 #[.val (.ref t), .val (.int (8 : Int32)), .val (.ref b2)] [(.int (own_min (0 : Int32) (8 : Int32))), (.int (0 : Int32)), (.ref b2), (.int (0 : Int32)), (.ref t)])) _
    rw [show own_min (0 : Int32) (8 : Int32) = (0 : Int32) from by decide]
    show Steps pP.tables eE below (T7.setTop (mkF mM 28 #[.val (.ref t), .val (.int (8 : Int32)), .val (.ref b2)] [(.int (0 : Int32)), (.int (0 : Int32)), (.ref b2), (.int (0 : Int32)), (.ref t)])) _
    refine st8 _ ?_
    show Steps pP.tables eE below (T8.setTop (mkF mM 31 #[.val (.ref t), .val (.int (8 : Int32)), .val (.ref b2)] [])) _
    refine XS.aloadN X8.here hx rfl (hb hby d_jdk_65_method_123_31) rfl rfl ?_
    show Steps pP.tables eE below (T8.setTop (mkF mM 32 #[.val (.ref t), .val (.int (8 : Int32)), .val (.ref b2)] [(.ref b2)])) _
    jvm_step X8.here [X8.here.top, hx, (hb hby d_jdk_65_method_123_32), X8.method', Bd.returns, Value.isRef, FieldType.isReference]
    first | (intro acts; rw [hr _ acts rfl rfl rfl]) | rw [hr _ _ rfl rfl rfl]
    exact Steps.refl _
  · show Q_cp0 Z t k h0 n0 _ T8.heap _
    rw [e8]
    exact ⟨b2, k2, rfl, N8, K9, sz_b2, Arv.pad V8 (fun i => (pad_rep [] (.int (0 : Int32)) 8 i).symm)⟩
theorem ef_cp8 (m : MethodId) (x0 : Addr) (x1 : Int32) : entryFrame m #[(.ref x0), (.int x1)] 3 = mkF m 0 #[.val (.ref x0), .val (.int x1), .unset] [] := by first | (simp [entryFrame, mkF, argsToLocals, Value.category]; done) | rfl
def Q_cp8 (Z : State) (t : Addr) (k : ClassId) (es : List Nat) (h0 : Heap) (n0 : Nat) (vV : Option Value) (h : Heap) (LL : List Loc) : Prop := ∃ (b : Addr) (kb : ClassId), vV = some (.ref b) ∧ Fr n0 LL ∧ Keep h0 h [] ∧ h0.size ≤ b ∧ Arv Z h b kb .int (16 : Int32) (own_iv es) (.int (0 : Int32))
set_option maxRecDepth 65536 in
set_option maxHeartbeats 40000000 in
theorem rm_cp8 (l : Launch) (Z : State) (a0 : Array Value) (hw : ∀ d ∈ tables_1, d.before a0 Z = true) (ws : List Jvm.Cond) (t : Addr) (k : ClassId) (es : List Nat) (h0 : Heap) (n0 : Nat) (O0 : Old Z n0 h0) (V_t : Arv Z h0 t k .int (8 : Int32) (own_iv es) (.int (0 : Int32))) (hp1 : (es.length = 8)) :
    MetFree l (⟨"java/util/Arrays", "copyOf", "([II)[I"⟩ : MethodName) (head1 (Jvm.Cond.code (⟨"java/util/Arrays", "copyOf", "([II)[I"⟩ : MethodName) jdk_65_method_123_code 3 (some (.array .int)) :: ws) ({ frames := 1, cells := 1, slots := 16, locals := 18 } : Room)) (fun aa_ U => aa_ = #[(.ref t), (.int (16 : Int32))] ∧ Z.Warmed39 U.vm ∧ U.heap = h0) (fun _ _ _ _ _ => True) (fun _ U o U' => ∃ vV LL, o = .returned vV ∧ Q_cp8 Z t k es h0 n0 vV U'.heap LL ∧ FrameEnd U o U' LL ({ frames := 1, cells := 1, slots := 16, locals := 18 } : Room).cells ({ frames := 1, cells := 1, slots := 16, locals := 18 } : Room).slots) := by
  refine MetFree.of_bodySF (plainFor_of_name pn_4) hisR ?_
  intro pP eE sS mM args below meth cC s₁ Bd hml0 hP hK
  obtain ⟨rfl, hZ, hh⟩ := hP
  have hx := Bd.exec
  have hby := Bd.bytes
  have hml : cC.maxLocals = 3 := hml0
  have hown : sS.vm.findClass "java/util/Arrays" = some mM.cls := findClass_of_methodNamed Bd.named
  have hnm := (name_of_methodNamed Bd.named Bd.method).1
  have X0 : Stand pP l eE ({ frames := 1, cells := 1, slots := 16, locals := 18 } : Room) sS mM #[(.ref t), (.int (16 : Int32))] below meth cC s₁ [] 0 0 := Stand.of_body Bd
  have e0 : s₁.heap = h0 := by rw [← hh, Bd.state]; rfl
  have N0 := Fr.nil n0
  have pre0 : ∀ tg, Steps pP.tables eE below (s₁.setTop (mkF mM 0 #[.val (.ref t), .val (.int (16 : Int32)), .unset] [])) tg → Steps pP.tables eE below (s₁.setTop (entryFrame mM #[(.ref t), (.int (16 : Int32))] 3)) tg := fun tg kg => castTop (ef_cp8 mM t (16 : Int32)) kg
  have K0 : Keep h0 h0 [] := Keep.refl _ _
  obtain ⟨cl1, Ar1, -, S1, Nn1, -, -⟩ := id V_t
  obtain ⟨T2, h2, k2, X2, e2, E2, A2, st2⟩ := newP X0 hx hZ (aty := .int) (w_73 hw) e0 (g := (mkF mM 15 #[.val (.ref t), .val (.int (16 : Int32)), .unset] [(.int (16 : Int32))])) rfl (hb hby d_jdk_65_method_123_15) rfl (by decide) (cap := 16) (by decide) (by decide) (by decide) (by decide)
  obtain ⟨b2, g2⟩ : ∃ z, z = h0.size := ⟨_, rfl⟩
  rw [← g2] at A2 st2
  have g_b2 : n0 ≤ b2 := Nat.le_trans (own_osz O0) (Nat.le_of_eq g2.symm)
  have sz_b2 : h0.size ≤ b2 := Nat.le_trans K0.1 (Nat.le_of_eq g2.symm)
  have K3 : Keep h0 h2 [] := K0.ext E2
  have V2 : Arv Z h2 b2 k2 .int (16 : Int32) [(.int (0 : Int32)), (.int (0 : Int32)), (.int (0 : Int32)), (.int (0 : Int32)), (.int (0 : Int32)), (.int (0 : Int32)), (.int (0 : Int32)), (.int (0 : Int32)), (.int (0 : Int32)), (.int (0 : Int32)), (.int (0 : Int32)), (.int (0 : Int32)), (.int (0 : Int32)), (.int (0 : Int32)), (.int (0 : Int32)), (.int (0 : Int32))] (.int (0 : Int32)) := (Arv.new A2 (by decide)).pad (pad_rep [] (.int (0 : Int32)) 16)
  have f5 := (V_t.ext E2)
  obtain ⟨cl4, Ar4, -, S4, Nn4, -, -⟩ := id f5
  have f6 := (O0.ext E2)
  obtain ⟨_, _, ⟨T7, L7, k7, n7⟩, -, X7, ⟨Lc7, hQ7, l7, y7, z7⟩, st7⟩ := Jvm.LawKit.callS X2 hx (y := (⟨"java/lang/Math", "min", "(II)I"⟩ : MethodName)) hown (mvT hZ (w_74 hw)) (mvT hZ (w_75 hw)) (mvT hZ (w_67 hw)) (mvT hZ (w_76 hw)) (by decide) (backOf (W := 4) (rm_min l Z a0 hw [] (8 : Int32) (16 : Int32) h2 n0 f6 ) hZ (w_76 hw) (w_67 hw) (by decide) (by decide)) (g := (mkF mM 25 #[.val (.ref t), .val (.int (16 : Int32)), .val (.ref b2)] [(.int (16 : Int32)), (.int (8 : Int32)), (.int (0 : Int32)), (.ref b2), (.int (0 : Int32)), (.ref t)])) rfl (by rw [hml]; rfl) (argsL := [(.int (8 : Int32)), (.int (16 : Int32))]) (rest := [(.int (0 : Int32)), (.ref b2), (.int (0 : Int32)), (.ref t)]) (lenOf pd_1 rfl) rfl (by show 2 * 0 + _ ≤ _; exact Nat.le_of_eq rfl) (hb hby d_jdk_65_method_123_25) (fun _ _ => ⟨rfl, e2, (by decide : 1 + 0 ≤ _), (by decide : 16 + 0 ≤ _)⟩)
  dsimp only [Pt.U, Pt.locs, Pt.cells, Pt.slots] at X7 l7 y7 z7 st7 hQ7
  subst l7 y7 z7
  obtain ⟨rfl, rfl, Kq7⟩ := hQ7
  try rw [List.append_nil] at X7
  obtain ⟨T8, h8, L8, X8, e8, N8, Kc8, Vc8, st8⟩ := cpA X7 hx hZ hown (w_77 hw) (w_80 hw) (w_78 hw) (w_79 hw) Kq7 f5 V2 (us := (own_iv es)) (Or.inl ⟨rfl, rfl⟩) (by decide) (by decide) (by decide) (by decide) (by decide) (own_range8 hp1) (by decide) N0 g_b2 (g := (mkF mM 28 #[.val (.ref t), .val (.int (16 : Int32)), .val (.ref b2)] [(.int (8 : Int32)), (.int (0 : Int32)), (.ref b2), (.int (0 : Int32)), (.ref t)])) rfl (by rw [hml]; rfl) (rest := []) rfl (hb hby d_jdk_65_method_123_28) (by decide) (W := 0) (by show 2 * 0 + _ ≤ _; exact Nat.le_of_eq rfl) (by simp [nativeFrameWords])
  have K9 : Keep h0 h8 [] := K3.trans Kc8 (allS (Or.inr sz_b2) all0)
  have V8 : Arv Z h8 b2 k2 .int (16 : Int32) (own_iv es ++ List.replicate 8 (.int (0 : Int32))) (.int (0 : Int32)) := Vc8
  obtain ⟨fs, hr, hrun, hended, hW, hsame⟩ := X8.leave (v := some (.ref b2)) (fun h => by rw [Bd.returns] at h; cases h)
  refine ⟨_, _, pre0 _ ?_, hrun, hended, _, _, rfl, ?_, ⟨_, rfl⟩, hW, hsame.mono (by decide) (by decide)⟩
  · refine XS.iloadN X0.here hx rfl (hb hby d_jdk_65_method_123_0) rfl ?_
    show Steps pP.tables eE below (s₁.setTop (mkF mM 1 #[.val (.ref t), .val (.int (16 : Int32)), .unset] [(.int (16 : Int32))])) _
    refine XS.aloadN X0.here hx rfl (hb hby d_jdk_65_method_123_1) rfl rfl ?_
    show Steps pP.tables eE below (s₁.setTop (mkF mM 2 #[.val (.ref t), .val (.int (16 : Int32)), .unset] [(.ref t), (.int (16 : Int32))])) _
    refine X0.arraylength hx (by rw [e0]; exact Ar1.1) (State.isArrayOf_alike hZ.alike Ar1.2.1) (g := (mkF mM 2 #[.val (.ref t), .val (.int (16 : Int32)), .unset] [(.ref t), (.int (16 : Int32))])) rfl rfl (hb hby d_jdk_65_method_123_2) _ ?_
    rw [len_of S1 Nn1]
    show Steps pP.tables eE below (s₁.setTop (mkF mM 3 #[.val (.ref t), .val (.int (16 : Int32)), .unset] [(.int (8 : Int32)), (.int (16 : Int32))])) _
    refine XS.icmpYes X0.here hx rfl (pc0 := 3) (pc' := 14) rfl (hb hby d_jdk_65_method_123_3) rfl (feq (by decide : ¬ ((16 : Int32) = (8 : Int32)))).2 (by decide) (by decide) ?_
    show Steps pP.tables eE below (s₁.setTop (mkF mM 14 #[.val (.ref t), .val (.int (16 : Int32)), .unset] [])) _
    refine XS.iloadN X0.here hx rfl (hb hby d_jdk_65_method_123_14) rfl ?_
    show Steps pP.tables eE below (s₁.setTop (mkF mM 15 #[.val (.ref t), .val (.int (16 : Int32)), .unset] [(.int (16 : Int32))])) _
    refine st2 _ ?_
    show Steps pP.tables eE below (T2.setTop (mkF mM 17 #[.val (.ref t), .val (.int (16 : Int32)), .unset] [(.ref b2)])) _
    refine XS.astoreN X2.here hx rfl (hb hby d_jdk_65_method_123_17) rfl rfl (l' := #[.val (.ref t), .val (.int (16 : Int32)), .val (.ref b2)]) rfl ?_
    show Steps pP.tables eE below (T2.setTop (mkF mM 18 #[.val (.ref t), .val (.int (16 : Int32)), .val (.ref b2)] [])) _
    refine XS.aloadN X2.here hx rfl (hb hby d_jdk_65_method_123_18) rfl rfl ?_
    show Steps pP.tables eE below (T2.setTop (mkF mM 19 #[.val (.ref t), .val (.int (16 : Int32)), .val (.ref b2)] [(.ref t)])) _
    refine XS.iconst X2.here hx rfl (hb hby d_jdk_65_method_123_19) ?_
    show Steps pP.tables eE below (T2.setTop (mkF mM 20 #[.val (.ref t), .val (.int (16 : Int32)), .val (.ref b2)] [(.int (0 : Int32)), (.ref t)])) _
    refine XS.aloadN X2.here hx rfl (hb hby d_jdk_65_method_123_20) rfl rfl ?_
    show Steps pP.tables eE below (T2.setTop (mkF mM 21 #[.val (.ref t), .val (.int (16 : Int32)), .val (.ref b2)] [(.ref b2), (.int (0 : Int32)), (.ref t)])) _
    refine XS.iconst X2.here hx rfl (hb hby d_jdk_65_method_123_21) ?_
    show Steps pP.tables eE below (T2.setTop (mkF mM 22 #[.val (.ref t), .val (.int (16 : Int32)), .val (.ref b2)] [(.int (0 : Int32)), (.ref b2), (.int (0 : Int32)), (.ref t)])) _
    refine XS.aloadN X2.here hx rfl (hb hby d_jdk_65_method_123_22) rfl rfl ?_
    show Steps pP.tables eE below (T2.setTop (mkF mM 23 #[.val (.ref t), .val (.int (16 : Int32)), .val (.ref b2)] [(.ref t), (.int (0 : Int32)), (.ref b2), (.int (0 : Int32)), (.ref t)])) _
    refine X2.arraylength hx (by rw [e2]; exact Ar4.1) (State.isArrayOf_alike hZ.alike Ar4.2.1) (g := (mkF mM 23 #[.val (.ref t), .val (.int (16 : Int32)), .val (.ref b2)] [(.ref t), (.int (0 : Int32)), (.ref b2), (.int (0 : Int32)), (.ref t)])) rfl rfl (hb hby d_jdk_65_method_123_23) _ ?_
    rw [len_of S4 Nn4]
    show Steps pP.tables eE below (T2.setTop (mkF mM 24 #[.val (.ref t), .val (.int (16 : Int32)), .val (.ref b2)] [(.int (8 : Int32)), (.int (0 : Int32)), (.ref b2), (.int (0 : Int32)), (.ref t)])) _
    refine XS.iloadN X2.here hx rfl (hb hby d_jdk_65_method_123_24) rfl ?_
    show Steps pP.tables eE below (T2.setTop (mkF mM 25 #[.val (.ref t), .val (.int (16 : Int32)), .val (.ref b2)] [(.int (16 : Int32)), (.int (8 : Int32)), (.int (0 : Int32)), (.ref b2), (.int (0 : Int32)), (.ref t)])) _
    refine st7 _ ?_
    show Steps pP.tables eE below (T7.setTop (mkF mM 28 #[.val (.ref t), .val (.int (16 : Int32)), .val (.ref b2)] [(.int (own_min (8 : Int32) (16 : Int32))), (.int (0 : Int32)), (.ref b2), (.int (0 : Int32)), (.ref t)])) _
    rw [show own_min (8 : Int32) (16 : Int32) = (8 : Int32) from by decide]
    show Steps pP.tables eE below (T7.setTop (mkF mM 28 #[.val (.ref t), .val (.int (16 : Int32)), .val (.ref b2)] [(.int (8 : Int32)), (.int (0 : Int32)), (.ref b2), (.int (0 : Int32)), (.ref t)])) _
    refine st8 _ ?_
    show Steps pP.tables eE below (T8.setTop (mkF mM 31 #[.val (.ref t), .val (.int (16 : Int32)), .val (.ref b2)] [])) _
    refine XS.aloadN X8.here hx rfl (hb hby d_jdk_65_method_123_31) rfl rfl ?_
    show Steps pP.tables eE below (T8.setTop (mkF mM 32 #[.val (.ref t), .val (.int (16 : Int32)), .val (.ref b2)] [(.ref b2)])) _
    jvm_step X8.here [X8.here.top, hx, (hb hby d_jdk_65_method_123_32), X8.method', Bd.returns, Value.isRef, FieldType.isReference]
    first | (intro acts; rw [hr _ acts rfl rfl rfl]) | rw [hr _ _ rfl rfl rfl]
    exact Steps.refl _
  · show Q_cp8 Z t k es h0 n0 _ T8.heap _
    rw [e8]
    exact ⟨b2, k2, rfl, N8, K9, sz_b2, Arv.pad V8 (fun i => (pad_rep (own_iv es) (.int (0 : Int32)) 8 i).symm)⟩
theorem ef_reach0 (m : MethodId) (x0 : Addr) (x1 : Int32) : entryFrame m #[(.ref x0), (.int x1)] 6 = mkF m 0 #[.val (.ref x0), .val (.int x1), .unset, .unset, .unset, .unset] [] := by first | (simp [entryFrame, mkF, argsToLocals, Value.category]; done) | rfl
def Q_reach0 (Z : State) (a : Addr) (r : Int32) (h0 : Heap) (n0 : Nat) (vV : Option Value) (h : Heap) (LL : List Loc) : Prop := vV = some (.ref a) ∧ LL = [] ∧ h = h0
set_option maxRecDepth 65536 in
set_option maxHeartbeats 40000000 in
theorem rm_reach0 (l : Launch) (Z : State) (a0 : Array Value) (hw : ∀ d ∈ tables_1, d.before a0 Z = true) (ws : List Jvm.Cond) (a : Addr) (r : Int32) (h0 : Heap) (n0 : Nat) (O0 : Old Z n0 h0) (F_a_m_nCount : Fld Z h0 a "com/example/resultwire/resultwire/er7/PieceIndex" "m_nCount" "I" (.int (0 : Int32))) (hp1 : (¬ ((0 : Int32) < r))) :
    MetFree l (⟨"com/example/resultwire/resultwire/er7/PieceIndex", "reach", "(I)Lcom/example/resultwire/resultwire/er7/PieceIndex;"⟩ : MethodName) (head1 (Jvm.Cond.code (⟨"com/example/resultwire/resultwire/er7/PieceIndex", "reach", "(I)Lcom/example/resultwire/resultwire/er7/PieceIndex;"⟩ : MethodName) prog_140_method_3_code 6 (some (.object "com/example/resultwire/resultwire/er7/PieceIndex")) :: ws) ({ frames := 0, cells := 0, slots := 0, locals := 0 } : Room)) (fun aa_ U => aa_ = #[(.ref a), (.int r)] ∧ Z.Warmed39 U.vm ∧ U.heap = h0) (fun _ _ _ _ _ => True) (fun _ U o U' => ∃ vV LL, o = .returned vV ∧ Q_reach0 Z a r h0 n0 vV U'.heap LL ∧ FrameEnd U o U' LL ({ frames := 0, cells := 0, slots := 0, locals := 0 } : Room).cells ({ frames := 0, cells := 0, slots := 0, locals := 0 } : Room).slots) := by
  refine MetFree.of_bodySF (plainFor_of_name pn_3) hisR ?_
  intro pP eE sS mM args below meth cC s₁ Bd hml0 hP hK
  obtain ⟨rfl, hZ, hh⟩ := hP
  have hx := Bd.exec
  have hby := Bd.bytes
  have hml : cC.maxLocals = 6 := hml0
  have hown : sS.vm.findClass "com/example/resultwire/resultwire/er7/PieceIndex" = some mM.cls := findClass_of_methodNamed Bd.named
  have hnm := (name_of_methodNamed Bd.named Bd.method).1
  have X0 : Stand pP l eE ({ frames := 0, cells := 0, slots := 0, locals := 0 } : Room) sS mM #[(.ref a), (.int r)] below meth cC s₁ [] 0 0 := Stand.of_body Bd
  have e0 : s₁.heap = h0 := by rw [← hh, Bd.state]; rfl
  have N0 := Fr.nil n0
  have pre0 : ∀ tg, Steps pP.tables eE below (s₁.setTop (mkF mM 0 #[.val (.ref a), .val (.int r), .unset, .unset, .unset, .unset] [])) tg → Steps pP.tables eE below (s₁.setTop (entryFrame mM #[(.ref a), (.int r)] 6)) tg := fun tg kg => castTop (ef_reach0 mM a r) kg
  obtain ⟨T1, X1, e1, st1⟩ := getF X0 hx hZ hown (host := "") (Or.inl (w_58 hw)) Via.refl e0 F_a_m_nCount (g := (mkF mM 2 #[.val (.ref a), .val (.int r), .unset, .unset, .unset, .unset] [(.ref a), (.int r)])) rfl rfl (hb hby d_prog_140_method_3_2)
  obtain ⟨fs, hr, hrun, hended, hW, hsame⟩ := X1.leave (v := some (.ref a)) (fun h => by rw [Bd.returns] at h; cases h)
  refine ⟨_, _, pre0 _ ?_, hrun, hended, _, _, rfl, ?_, ⟨_, rfl⟩, hW, hsame.mono (by decide) (by decide)⟩
  · refine XS.iloadN X0.here hx rfl (hb hby d_prog_140_method_3_0) rfl ?_
    show Steps pP.tables eE below (s₁.setTop (mkF mM 1 #[.val (.ref a), .val (.int r), .unset, .unset, .unset, .unset] [(.int r)])) _
    refine XS.aloadN X0.here hx rfl (hb hby d_prog_140_method_3_1) rfl rfl ?_
    show Steps pP.tables eE below (s₁.setTop (mkF mM 2 #[.val (.ref a), .val (.int r), .unset, .unset, .unset, .unset] [(.ref a), (.int r)])) _
    refine st1 _ ?_
    show Steps pP.tables eE below (T1.setTop (mkF mM 5 #[.val (.ref a), .val (.int r), .unset, .unset, .unset, .unset] [(.int (0 : Int32)), (.int r)])) _
    refine XS.icmpYes X1.here hx rfl (pc0 := 5) (pc' := 33) rfl (hb hby d_prog_140_method_3_5) rfl (flt hp1).2.2.2 (by decide) (by decide) ?_
    show Steps pP.tables eE below (T1.setTop (mkF mM 33 #[.val (.ref a), .val (.int r), .unset, .unset, .unset, .unset] [])) _
    refine XS.aloadN X1.here hx rfl (hb hby d_prog_140_method_3_33) rfl rfl ?_
    show Steps pP.tables eE below (T1.setTop (mkF mM 34 #[.val (.ref a), .val (.int r), .unset, .unset, .unset, .unset] [(.ref a)])) _
    jvm_step X1.here [X1.here.top, hx, (hb hby d_prog_140_method_3_34), X1.method', Bd.returns, Value.isRef, FieldType.isReference]
    first | (intro acts; rw [hr _ acts rfl rfl rfl]) | rw [hr _ _ rfl rfl rfl]
    exact Steps.refl _
  · show Q_reach0 Z a r h0 n0 _ T1.heap _
    rw [e1]
    exact ⟨rfl, rfl, rfl⟩
set_option maxRecDepth 65536 in
set_option maxHeartbeats 40000000 in
theorem lp_re16 {pP : Program} {l : Launch} {eE : Env} {sS : State} {mM : MethodId} {args : Array Value} {below : List Frame} {meth : Method} {cC : Code} {Z : State} {a0 : Array Value} {n0 : Nat} (a : Addr) (x : Addr) (t : Addr) (kk : ClassId) (cs : List Int32) (d : Int32) (tt : Nat) (zc : Int32) (fm : Value) (r : Int32) (w : Nat) (a5 : Addr) (hx : pP.tables.exec = Jvm.exec) (hZ : Z.Warmed39 sS.vm) (hw : ∀ d ∈ tables_1, d.before a0 Z = true) (hby : cC.code = prog_140_method_3_code) (hml : cC.maxLocals = 6) (hown : sS.vm.findClass "com/example/resultwire/resultwire/er7/PieceIndex" = some mM.cls) (ga5 : n0 ≤ a5) (S_COMPACT_STRINGS : Sta Z Z.heap "java/lang/String" "COMPACT_STRINGS" "Z" (.int zc)) (hzc : (¬ (zc = (0 : Int32)))) (S_SIOOBE_FORMATTER : Sta Z Z.heap "jdk/internal/util/Preconditions" "SIOOBE_FORMATTER" "Ljava/util/function/BiFunction;" fm) (hrf : (fm.isRef = true)) (hw1 : (w < 2147483648)) (hw2 : (8 ≤ w)) (htt : (tt ≤ cs.length ∧ cs.length ≤ 4000)) :
    ∀ (k : Nat) (f : Nat) (es : List Nat) (t3 : Addr) (kt : ClassId) (u : Int32) (v1 : Value) (v2 : Value) {T0 : State} {L0 : List Loc} (X0 : Stand pP l eE ({ frames := 6, cells := 4, slots := 40, locals := 95 } : Room) sS mM args below meth cC T0 L0 3 31) (N0 : Fr n0 L0) (O0 : Old Z n0 T0.heap) (E_a5 : Exa Z T0.heap a5 "com/example/resultwire/resultwire/er7/Pieces") (F_a5_m_sText : Fld Z T0.heap a5 "com/example/resultwire/resultwire/er7/Pieces" "m_sText" "Ljava/lang/String;" (.ref x)) (F_a5_m_nDelimiter : Fld Z T0.heap a5 "com/example/resultwire/resultwire/er7/Pieces" "m_nDelimiter" "I" (.int d)) (F_a5_m_nTo : Fld Z T0.heap a5 "com/example/resultwire/resultwire/er7/Pieces" "m_nTo" "I" (.int (Int32.ofNat tt))) (F_a5_m_nFrom : Fld Z T0.heap a5 "com/example/resultwire/resultwire/er7/Pieces" "m_nFrom" "I" (.int (Int32.ofNat f))) (F_a5_m_nStart : Fld Z T0.heap a5 "com/example/resultwire/resultwire/er7/Pieces" "m_nStart" "I" v1) (F_a5_m_nEnd : Fld Z T0.heap a5 "com/example/resultwire/resultwire/er7/Pieces" "m_nEnd" "I" v2) (F_a5_m_nNumber : Fld Z T0.heap a5 "com/example/resultwire/resultwire/er7/Pieces" "m_nNumber" "I" (.int u)) (V_t3 : Arv Z T0.heap t3 kt .int (16 : Int32) (own_iv es) (.int (0 : Int32))) (g_t3 : n0 ≤ t3) (Str_x : own_Str Z T0.heap x t kk cs) (ne11 : t3 ≠ a5) (ne12 : x ≠ t3) (ne13 : t ≠ t3) (ne14 : x ≠ a5) (ne15 : t ≠ a5) (hk : tt + 1 ≤ f + k) (hbd : es.length + k ≤ 15) (he : es.length ≤ 16) (hf : f ≤ tt + 1), own_ToK pP l eE ({ frames := 6, cells := 4, slots := 40, locals := 95 } : Room) sS mM args below meth cC n0 3 31 T0 (mkF mM 120 #[.val (.ref a), .val (.int r), .val (.int (Int32.ofNat w)), .val (.ref t3), .val (.int (Int32.ofNat es.length)), .val (.ref a5)] []) (fun h' g' => ∃ (t4 : Addr) (kt4 : ClassId) (z4 : Int32), g' = mkF mM 170 #[.val (.ref a), .val (.int r), .val (.int (Int32.ofNat w)), .val (.ref t4), .val (.int (Int32.ofNat (es ++ (own_pcs cs d tt k f).take (w - es.length)).length)), .val (.ref a5)] [] ∧ Keep T0.heap h' [a5, t3] ∧ Arv Z h' t4 kt4 .int z4 (own_iv (es ++ (own_pcs cs d tt k f).take (w - es.length))) (.int (0 : Int32)) ∧ n0 ≤ t4 ∧ ((es ++ (own_pcs cs d tt k f).take (w - es.length)).length ≤ z4.toNatClampNeg ∧ ¬ z4 < 0)) := by
  intro k
  induction k with
  | zero =>
    intro f es t3 kt u v1 v2 T0 L0 X0 N0 O0 E_a5 F_a5_m_sText F_a5_m_nDelimiter F_a5_m_nTo F_a5_m_nFrom F_a5_m_nStart F_a5_m_nEnd F_a5_m_nNumber V_t3 g_t3 Str_x ne11 ne12 ne13 ne14 ne15 hk hbd he hf
    have K0 : Keep T0.heap T0.heap [a5, t3] := Keep.refl _ _
    have pre2 : ∀ tg, Steps pP.tables eE below (T0.setTop (mkF mM 123 #[.val (.ref a), .val (.int r), .val (.int (Int32.ofNat w)), .val (.ref t3), .val (.int (Int32.ofNat es.length)), .val (.ref a5)] [(.int (Int32.ofNat w)), (.int (Int32.ofNat es.length))])) tg → Steps pP.tables eE below (T0.setTop (mkF mM 120 #[.val (.ref a), .val (.int r), .val (.int (Int32.ofNat w)), .val (.ref t3), .val (.int (Int32.ofNat es.length)), .val (.ref a5)] [])) tg := fun tg kg => (by
      refine XS.iload X0.here hx rfl (hb hby d_prog_140_method_3_120) rfl ?_
      show Steps pP.tables eE below (T0.setTop (mkF mM 122 #[.val (.ref a), .val (.int r), .val (.int (Int32.ofNat w)), .val (.ref t3), .val (.int (Int32.ofNat es.length)), .val (.ref a5)] [(.int (Int32.ofNat es.length))])) _
      refine XS.iloadN X0.here hx rfl (hb hby d_prog_140_method_3_122) rfl ?_
      exact kg)
    by_cases hc1 : (Int32.ofNat es.length) < (Int32.ofNat w)
    · obtain ⟨cq3, kq3, q3a, q3b, q3c⟩ := isOf hZ rfl E_a5
      obtain ⟨_, _, ⟨T3, L3, k3, n3⟩, -, X3, ⟨Lc3, hQ3, l3, y3, z3⟩, st3⟩ := X0.virtualBack hx (y := (⟨"com/example/resultwire/resultwire/er7/Pieces", "hasNext", "()Z"⟩ : MethodName)) (z := (⟨"com/example/resultwire/resultwire/er7/Pieces", "hasNext", "()Z"⟩ : MethodName)) hown (mvT hZ (w_100 hw)) (mvT hZ (w_101 hw)) (notFace_of_selects (args := #[]) (mvT hZ (w_103 hw))) (mvT hZ (w_103 hw)) (mvT hZ (w_102 hw)) (by decide) (backOf (W := 0) (rm_hn l Z a0 hw [] a5 (Int32.ofNat f) (Int32.ofNat tt) T0.heap n0 O0 F_a5_m_nFrom F_a5_m_nTo) hZ (w_104 hw) (w_83 hw) (by decide) (by decide)) q3a q3c (g := (mkF mM 128 #[.val (.ref a), .val (.int r), .val (.int (Int32.ofNat w)), .val (.ref t3), .val (.int (Int32.ofNat es.length)), .val (.ref a5)] [(.ref a5)])) rfl (by rw [hml]; rfl) (Steps.refl _) (argsL := []) (rest := []) (lenOf pd_3 rfl) rfl (by show 2 * 0 + _ ≤ _; exact Nat.le_of_eq rfl) (hb hby d_prog_140_method_3_128) (fun _ _ => ⟨rfl, rfl, (by decide : 3 + 0 ≤ _), (by decide : 31 + 0 ≤ _)⟩)
      dsimp only [Pt.U, Pt.locs, Pt.cells, Pt.slots] at X3 l3 y3 z3 st3 hQ3
      subst l3 y3 z3
      obtain ⟨rfl, rfl, Kq3⟩ := hQ3
      try rw [List.append_nil] at X3
      have hn4 : ¬ f ≤ tt := by omega
      have he5 : es ++ (own_pcs cs d tt 0 f).take (w - es.length) = es := (by rw [own_pcs_stop cs d tt hn4, List.take_nil, List.append_nil])
      refine ⟨T3, _, _, own_wid X3 (by decide) (by decide), N0, ⟨t3, kt, (16 : Int32), rfl, (by rw [Kq3]; exact K0), (by rw [Kq3]; exact (he5.symm ▸ V_t3)), g_t3, (by rw [he5]; exact ⟨by show es.length ≤ 16; omega, by decide⟩)⟩, fun tg kg => ?_⟩
      rw [he5] at kg
      refine pre2 tg ?_
      refine XS.icmpNo X0.here hx rfl (hb hby d_prog_140_method_3_123) rfl (tlt hc1).2.1 ?_
      show Steps pP.tables eE below (T0.setTop (mkF mM 126 #[.val (.ref a), .val (.int r), .val (.int (Int32.ofNat w)), .val (.ref t3), .val (.int (Int32.ofNat es.length)), .val (.ref a5)] [])) _
      refine XS.aload X0.here hx rfl (hb hby d_prog_140_method_3_126) rfl rfl ?_
      show Steps pP.tables eE below (T0.setTop (mkF mM 128 #[.val (.ref a), .val (.int r), .val (.int (Int32.ofNat w)), .val (.ref t3), .val (.int (Int32.ofNat es.length)), .val (.ref a5)] [(.ref a5)])) _
      refine st3.trans ?_
      show Steps pP.tables eE below (T3.setTop (mkF mM 131 #[.val (.ref a), .val (.int r), .val (.int (Int32.ofNat w)), .val (.ref t3), .val (.int (Int32.ofNat es.length)), .val (.ref a5)] [(.int (own_hn (Int32.ofNat f) (Int32.ofNat tt)))])) _
      refine XS.ifYes X3.here hx rfl (pc0 := 131) (pc' := 170) rfl (hb hby d_prog_140_method_3_131) rfl ((if0 _ _).trans (teq (if_pos (own_lt (by omega) (by omega)))).1) (by decide) (by decide) ?_
      exact kg
    · have he6 : es ++ (own_pcs cs d tt 0 f).take (w - es.length) = es := (by have q := own_nltI hc1 (by omega) (by omega); rw [show w - es.length = 0 by omega, List.take_zero, List.append_nil])
      refine ⟨T0, _, _, own_wid X0 (by decide) (by decide), N0, ⟨t3, kt, (16 : Int32), rfl, K0, (he6.symm ▸ V_t3), g_t3, (by rw [he6]; exact ⟨by show es.length ≤ 16; omega, by decide⟩)⟩, fun tg kg => ?_⟩
      rw [he6] at kg
      refine pre2 tg ?_
      refine XS.icmpYes X0.here hx rfl (pc0 := 123) (pc' := 170) rfl (hb hby d_prog_140_method_3_123) rfl (flt hc1).2.1 (by decide) (by decide) ?_
      exact kg
  | succ k ih =>
    intro f es t3 kt u v1 v2 T0 L0 X0 N0 O0 E_a5 F_a5_m_sText F_a5_m_nDelimiter F_a5_m_nTo F_a5_m_nFrom F_a5_m_nStart F_a5_m_nEnd F_a5_m_nNumber V_t3 g_t3 Str_x ne11 ne12 ne13 ne14 ne15 hk hbd he hf
    have K0 : Keep T0.heap T0.heap [a5, t3] := Keep.refl _ _
    have pre2 : ∀ tg, Steps pP.tables eE below (T0.setTop (mkF mM 123 #[.val (.ref a), .val (.int r), .val (.int (Int32.ofNat w)), .val (.ref t3), .val (.int (Int32.ofNat es.length)), .val (.ref a5)] [(.int (Int32.ofNat w)), (.int (Int32.ofNat es.length))])) tg → Steps pP.tables eE below (T0.setTop (mkF mM 120 #[.val (.ref a), .val (.int r), .val (.int (Int32.ofNat w)), .val (.ref t3), .val (.int (Int32.ofNat es.length)), .val (.ref a5)] [])) tg := fun tg kg => (by
      refine XS.iload X0.here hx rfl (hb hby d_prog_140_method_3_120) rfl ?_
      show Steps pP.tables eE below (T0.setTop (mkF mM 122 #[.val (.ref a), .val (.int r), .val (.int (Int32.ofNat w)), .val (.ref t3), .val (.int (Int32.ofNat es.length)), .val (.ref a5)] [(.int (Int32.ofNat es.length))])) _
      refine XS.iloadN X0.here hx rfl (hb hby d_prog_140_method_3_122) rfl ?_
      exact kg)
    by_cases hc1 : (Int32.ofNat es.length) < (Int32.ofNat w)
    · obtain ⟨cq3, kq3, q3a, q3b, q3c⟩ := isOf hZ rfl E_a5
      obtain ⟨_, _, ⟨T3, L3, k3, n3⟩, -, X3, ⟨Lc3, hQ3, l3, y3, z3⟩, st3⟩ := X0.virtualBack hx (y := (⟨"com/example/resultwire/resultwire/er7/Pieces", "hasNext", "()Z"⟩ : MethodName)) (z := (⟨"com/example/resultwire/resultwire/er7/Pieces", "hasNext", "()Z"⟩ : MethodName)) hown (mvT hZ (w_100 hw)) (mvT hZ (w_101 hw)) (notFace_of_selects (args := #[]) (mvT hZ (w_103 hw))) (mvT hZ (w_103 hw)) (mvT hZ (w_102 hw)) (by decide) (backOf (W := 0) (rm_hn l Z a0 hw [] a5 (Int32.ofNat f) (Int32.ofNat tt) T0.heap n0 O0 F_a5_m_nFrom F_a5_m_nTo) hZ (w_104 hw) (w_83 hw) (by decide) (by decide)) q3a q3c (g := (mkF mM 128 #[.val (.ref a), .val (.int r), .val (.int (Int32.ofNat w)), .val (.ref t3), .val (.int (Int32.ofNat es.length)), .val (.ref a5)] [(.ref a5)])) rfl (by rw [hml]; rfl) (Steps.refl _) (argsL := []) (rest := []) (lenOf pd_3 rfl) rfl (by show 2 * 0 + _ ≤ _; exact Nat.le_of_eq rfl) (hb hby d_prog_140_method_3_128) (fun _ _ => ⟨rfl, rfl, (by decide : 3 + 0 ≤ _), (by decide : 31 + 0 ≤ _)⟩)
      dsimp only [Pt.U, Pt.locs, Pt.cells, Pt.slots] at X3 l3 y3 z3 st3 hQ3
      subst l3 y3 z3
      obtain ⟨rfl, rfl, Kq3⟩ := hQ3
      try rw [List.append_nil] at X3
      have pre5 : ∀ tg, Steps pP.tables eE below (T3.setTop (mkF mM 131 #[.val (.ref a), .val (.int r), .val (.int (Int32.ofNat w)), .val (.ref t3), .val (.int (Int32.ofNat es.length)), .val (.ref a5)] [(.int (own_hn (Int32.ofNat f) (Int32.ofNat tt)))])) tg → Steps pP.tables eE below (T0.setTop (mkF mM 120 #[.val (.ref a), .val (.int r), .val (.int (Int32.ofNat w)), .val (.ref t3), .val (.int (Int32.ofNat es.length)), .val (.ref a5)] [])) tg := fun tg kg => pre2 tg (by
        refine XS.icmpNo X0.here hx rfl (hb hby d_prog_140_method_3_123) rfl (tlt hc1).2.1 ?_
        show Steps pP.tables eE below (T0.setTop (mkF mM 126 #[.val (.ref a), .val (.int r), .val (.int (Int32.ofNat w)), .val (.ref t3), .val (.int (Int32.ofNat es.length)), .val (.ref a5)] [])) _
        refine XS.aload X0.here hx rfl (hb hby d_prog_140_method_3_126) rfl rfl ?_
        show Steps pP.tables eE below (T0.setTop (mkF mM 128 #[.val (.ref a), .val (.int r), .val (.int (Int32.ofNat w)), .val (.ref t3), .val (.int (Int32.ofNat es.length)), .val (.ref a5)] [(.ref a5)])) _
        refine st3.trans ?_
        exact kg)
      by_cases hn4 : f ≤ tt
      · obtain ⟨cq6, kq6, q6a, q6b, q6c⟩ := isOf hZ Kq3 E_a5
        obtain ⟨_, _, ⟨T6, L6, k6, n6⟩, -, X6, ⟨Lc6, hQ6, l6, y6, z6⟩, st6⟩ := X3.virtualBack hx (y := (⟨"com/example/resultwire/resultwire/er7/Pieces", "advance", "()V"⟩ : MethodName)) (z := (⟨"com/example/resultwire/resultwire/er7/Pieces", "advance", "()V"⟩ : MethodName)) hown (mvT hZ (w_105 hw)) (mvT hZ (w_106 hw)) (notFace_of_selects (args := #[]) (mvT hZ (w_108 hw))) (mvT hZ (w_108 hw)) (mvT hZ (w_107 hw)) (by decide) (backOf (W := 0) (rm_adv l Z a0 hw [] a5 x t kk cs d f tt zc fm u v1 v2 T0.heap n0 O0 E_a5 F_a5_m_sText F_a5_m_nDelimiter F_a5_m_nTo F_a5_m_nFrom F_a5_m_nStart F_a5_m_nEnd F_a5_m_nNumber ga5 (⟨(Str_x).1, (Str_x).2.1, (Str_x).2.2.1, (Str_x).2.2.2.1, (Str_x).2.2.2.2⟩ : own_Str Z T0.heap x t kk cs) (by omega : f ≤ tt) (by omega : tt ≤ cs.length) ne14 ne15 S_COMPACT_STRINGS hzc S_SIOOBE_FORMATTER hrf) hZ (w_109 hw) (w_83 hw) (by decide) (by decide)) q6a q6c (g := (mkF mM 136 #[.val (.ref a), .val (.int r), .val (.int (Int32.ofNat w)), .val (.ref t3), .val (.int (Int32.ofNat es.length)), .val (.ref a5)] [(.ref a5)])) rfl (by rw [hml]; rfl) (Steps.refl _) (argsL := []) (rest := []) (lenOf pd_8 rfl) rfl (by show 2 * 0 + _ ≤ _; exact Nat.le_of_eq rfl) (hb hby d_prog_140_method_3_136) (fun _ _ => ⟨rfl, Kq3, (by decide : 3 + 0 ≤ _), (by decide : 31 + 0 ≤ _)⟩)
        dsimp only [Pt.U, Pt.locs, Pt.cells, Pt.slots] at X6 l6 y6 z6 st6 hQ6
        subst l6 y6 z6
        obtain ⟨rfl, Nq6, Kq6, q6_0, q6_1, q6_2, q6_3, q6_4, q6_5, q6_6, q6_7⟩ := hQ6
        have N6 := Fr.app N0 Nq6
        have K7 : Keep T0.heap T6.heap [a5, t3] := K0.trans Kq6 (allS (Or.inl (List.mem_of_getElem? (i := 0) rfl)) all0)
        have f9 := (V_t3.keep Kq6 (ninS ne11 nin0))
        obtain ⟨cl8, Ar8, -, S8, Nn8, -, -⟩ := id f9
        have hfl10 : ¬ es.length = 16 := by omega
        have f11 := (O0.keep Kq6 (allS ga5 all0))
        obtain ⟨cq12, kq12, q12a, q12b, q12c⟩ := isOf hZ rfl q6_0
        obtain ⟨_, _, ⟨T12, L12, k12, n12⟩, -, X12, ⟨Lc12, hQ12, l12, y12, z12⟩, st12⟩ := X6.virtualBack hx (y := (⟨"com/example/resultwire/resultwire/er7/Pieces", "end", "()I"⟩ : MethodName)) (z := (⟨"com/example/resultwire/resultwire/er7/Pieces", "end", "()I"⟩ : MethodName)) hown (mvT hZ (w_126 hw)) (mvT hZ (w_127 hw)) (notFace_of_selects (args := #[]) (mvT hZ (w_129 hw))) (mvT hZ (w_129 hw)) (mvT hZ (w_128 hw)) (by decide) (backOf (W := 2) (rm_pend l Z a0 hw [] a5 (Int32.ofNat (own_endOf cs d f tt)) T6.heap n0 f11 q6_6) hZ (w_130 hw) (w_83 hw) (by decide) (by decide)) q12a q12c (g := (mkF mM 160 #[.val (.ref a), .val (.int r), .val (.int (Int32.ofNat w)), .val (.ref t3), .val (.int (Int32.ofNat es.length)), .val (.ref a5)] [(.ref a5), (.int (Int32.ofNat es.length)), (.ref t3)])) rfl (by rw [hml]; rfl) (Steps.refl _) (argsL := []) (rest := [(.int (Int32.ofNat es.length)), (.ref t3)]) (lenOf pd_4 rfl) rfl (by show 2 * 0 + _ ≤ _; exact Nat.le_of_eq rfl) (hb hby d_prog_140_method_3_160) (fun _ _ => ⟨rfl, rfl, (by decide : 3 + 0 ≤ _), (by decide : 31 + 0 ≤ _)⟩)
        dsimp only [Pt.U, Pt.locs, Pt.cells, Pt.slots] at X12 l12 y12 z12 st12 hQ12
        subst l12 y12 z12
        obtain ⟨rfl, rfl, Kq12⟩ := hQ12
        try rw [List.append_nil] at X12
        have Vp13 := Arv.pad f9 (own_pad1 (own_iv es) (.int (0 : Int32)))
        obtain ⟨cl14, Ar14, qk14, S14, Nn14, Hh14, G14⟩ := id Vp13
        have hin14 : ¬ ((Int32.ofNat es.length) < 0 ∨ cl14.slots.size ≤ ((Int32.ofNat es.length)).toNatClampNeg) := inb_of S14 ⟨own_nneg _ (by omega), own_lt16 (by omega)⟩
        obtain ⟨T14, h14, X14, e14, W14, st14⟩ := stI X12 hx hZ Kq12 Ar14 (j := (Int32.ofNat es.length)) hin14 (g := (mkF mM 163 #[.val (.ref a), .val (.int r), .val (.int (Int32.ofNat w)), .val (.ref t3), .val (.int (Int32.ofNat es.length)), .val (.ref a5)] [(.int (Int32.ofNat (own_endOf cs d f tt))), (.int (Int32.ofNat es.length)), (.ref t3)])) rfl rfl (hb hby d_prog_140_method_3_163)
        have K15 : Keep T0.heap h14 [a5, t3] := K7.wr W14 (Or.inl (List.mem_of_getElem? (i := 1) rfl))
        have V14 : Arv Z h14 t3 kt .int (16 : Int32) (((own_iv es ++ [(Value.int (0 : Int32))])).set es.length (.int (Int32.ofNat (own_endOf cs d f tt)))) (.int (0 : Int32)) := Arv.set Ar14 qk14 S14 Nn14 Hh14 G14 rfl W14 es.length (own_clamp (by omega)) (by rw [List.length_append, own_iv_len]; exact Nat.lt_succ_self _)
        have N14 := Fr.snoc X14 N6 g_t3
        have Vp16 : Arv Z h14 t3 kt .int (16 : Int32) (own_iv (es ++ [(own_endOf cs d f tt)])) (.int (0 : Int32)) := own_ivpush es (own_endOf cs d f tt) (.int (0 : Int32)) ▸ V14
        subst e14
        have hbe := own_endOf_bd (cs := cs) (d := d) hn4
        have hlt := own_ltI hc1 (by omega) (by omega)
        have hes : es ++ (own_pcs cs d tt (k + 1) f).take (w - es.length) = (es ++ [(own_endOf cs d f tt)]) ++ (own_pcs cs d tt k ((own_endOf cs d f tt) + 1)).take (w - (es ++ [(own_endOf cs d f tt)]).length) := own_step cs d hlt hn4
        have f18 := (q6_0.wr W14)
        have f19 := (q6_1.other W14 (Or.inl (Ne.symm ne11)))
        have f20 := (q6_2.other W14 (Or.inl (Ne.symm ne11)))
        have f21 := (q6_3.other W14 (Or.inl (Ne.symm ne11)))
        have f22 := (q6_4.other W14 (Or.inl (Ne.symm ne11)))
        have f23 := (q6_5.other W14 (Or.inl (Ne.symm ne11)))
        have f24 := (q6_6.other W14 (Or.inl (Ne.symm ne11)))
        have f25 := (q6_7.other W14 (Or.inl (Ne.symm ne11)))
        have f26 := (((Str_x).1.keep Kq6).wr W14)
        have f27 := (((Str_x).2.1.keep Kq6 (ninS ne14 nin0)).other W14 (Or.inl ne12))
        have f28 := (((Str_x).2.2.1.keep Kq6 (ninS ne14 nin0)).other W14 (Or.inl ne12))
        have f29 := (((Str_x).2.2.2.1.keep Kq6 (ninS ne15 nin0)).other W14 ne13)
        have f30 := (f11.wr W14 g_t3)
        obtain ⟨T17, g17, L17, X17, N17, ⟨t4_17, kt4_17, z4_17, rfl, Kq17, q17_0, q17_1, q17_2⟩, st17⟩ := ih ((own_endOf cs d f tt) + 1) (es ++ [(own_endOf cs d f tt)]) (t3) (kt) ((u + (1 : Int32))) ((.int (Int32.ofNat f))) ((.int (Int32.ofNat (own_endOf cs d f tt)))) X14 N14 f30 f18 f19 f20 f21 f22 f23 f24 f25 Vp16 g_t3 (⟨f26, f27, f28, f29, (Str_x).2.2.2.2⟩ : own_Str Z T14.heap x t kk cs) ne11 ne12 ne13 ne14 ne15 (by omega) (by rw [List.length_append]; show es.length + 1 + _ ≤ _; omega) (by rw [List.length_append]; show es.length + 1 ≤ _; omega) (by omega)
        refine ⟨T17, _, L17, X17, N17, ⟨t4_17, kt4_17, z4_17, rfl, K15.trans Kq17 (allS (Or.inl (List.mem_of_getElem? (i := 0) rfl)) (allS (Or.inl (List.mem_of_getElem? (i := 1) rfl)) all0)), (hes ▸ q17_0), q17_1, (hes ▸ q17_2)⟩, fun tg kg => ?_⟩
        refine pre5 tg ?_
        refine XS.ifNo X3.here hx rfl (hb hby d_prog_140_method_3_131) rfl ((if0 _ _).trans (feq (by rw [own_hn1 (own_nlt (by omega) (by omega))]; decide)).1) ?_
        show Steps pP.tables eE below (T3.setTop (mkF mM 134 #[.val (.ref a), .val (.int r), .val (.int (Int32.ofNat w)), .val (.ref t3), .val (.int (Int32.ofNat es.length)), .val (.ref a5)] [])) _
        refine XS.aload X3.here hx rfl (hb hby d_prog_140_method_3_134) rfl rfl ?_
        show Steps pP.tables eE below (T3.setTop (mkF mM 136 #[.val (.ref a), .val (.int r), .val (.int (Int32.ofNat w)), .val (.ref t3), .val (.int (Int32.ofNat es.length)), .val (.ref a5)] [(.ref a5)])) _
        refine st6.trans ?_
        show Steps pP.tables eE below (T6.setTop (mkF mM 139 #[.val (.ref a), .val (.int r), .val (.int (Int32.ofNat w)), .val (.ref t3), .val (.int (Int32.ofNat es.length)), .val (.ref a5)] [])) _
        refine XS.iload X6.here hx rfl (hb hby d_prog_140_method_3_139) rfl ?_
        show Steps pP.tables eE below (T6.setTop (mkF mM 141 #[.val (.ref a), .val (.int r), .val (.int (Int32.ofNat w)), .val (.ref t3), .val (.int (Int32.ofNat es.length)), .val (.ref a5)] [(.int (Int32.ofNat es.length))])) _
        refine XS.aloadN X6.here hx rfl (hb hby d_prog_140_method_3_141) rfl rfl ?_
        show Steps pP.tables eE below (T6.setTop (mkF mM 142 #[.val (.ref a), .val (.int r), .val (.int (Int32.ofNat w)), .val (.ref t3), .val (.int (Int32.ofNat es.length)), .val (.ref a5)] [(.ref t3), (.int (Int32.ofNat es.length))])) _
        refine X6.arraylength hx (Ar8.1) (State.isArrayOf_alike hZ.alike Ar8.2.1) (g := (mkF mM 142 #[.val (.ref a), .val (.int r), .val (.int (Int32.ofNat w)), .val (.ref t3), .val (.int (Int32.ofNat es.length)), .val (.ref a5)] [(.ref t3), (.int (Int32.ofNat es.length))])) rfl rfl (hb hby d_prog_140_method_3_142) _ ?_
        rw [len_of S8 Nn8]
        show Steps pP.tables eE below (T6.setTop (mkF mM 143 #[.val (.ref a), .val (.int r), .val (.int (Int32.ofNat w)), .val (.ref t3), .val (.int (Int32.ofNat es.length)), .val (.ref a5)] [(.int (16 : Int32)), (.int (Int32.ofNat es.length))])) _
        refine XS.icmpYes X6.here hx rfl (pc0 := 143) (pc' := 155) rfl (hb hby d_prog_140_method_3_143) rfl (feq (fun q => hfl10 (own_inj (j := 16) q (by omega) (by omega)))).2 (by decide) (by decide) ?_
        show Steps pP.tables eE below (T6.setTop (mkF mM 155 #[.val (.ref a), .val (.int r), .val (.int (Int32.ofNat w)), .val (.ref t3), .val (.int (Int32.ofNat es.length)), .val (.ref a5)] [])) _
        refine XS.aloadN X6.here hx rfl (hb hby d_prog_140_method_3_155) rfl rfl ?_
        show Steps pP.tables eE below (T6.setTop (mkF mM 156 #[.val (.ref a), .val (.int r), .val (.int (Int32.ofNat w)), .val (.ref t3), .val (.int (Int32.ofNat es.length)), .val (.ref a5)] [(.ref t3)])) _
        refine XS.iload X6.here hx rfl (hb hby d_prog_140_method_3_156) rfl ?_
        show Steps pP.tables eE below (T6.setTop (mkF mM 158 #[.val (.ref a), .val (.int r), .val (.int (Int32.ofNat w)), .val (.ref t3), .val (.int (Int32.ofNat es.length)), .val (.ref a5)] [(.int (Int32.ofNat es.length)), (.ref t3)])) _
        refine XS.aload X6.here hx rfl (hb hby d_prog_140_method_3_158) rfl rfl ?_
        show Steps pP.tables eE below (T6.setTop (mkF mM 160 #[.val (.ref a), .val (.int r), .val (.int (Int32.ofNat w)), .val (.ref t3), .val (.int (Int32.ofNat es.length)), .val (.ref a5)] [(.ref a5), (.int (Int32.ofNat es.length)), (.ref t3)])) _
        refine st12.trans ?_
        show Steps pP.tables eE below (T12.setTop (mkF mM 163 #[.val (.ref a), .val (.int r), .val (.int (Int32.ofNat w)), .val (.ref t3), .val (.int (Int32.ofNat es.length)), .val (.ref a5)] [(.int (Int32.ofNat (own_endOf cs d f tt))), (.int (Int32.ofNat es.length)), (.ref t3)])) _
        refine st14 _ ?_
        show Steps pP.tables eE below (T14.setTop (mkF mM 164 #[.val (.ref a), .val (.int r), .val (.int (Int32.ofNat w)), .val (.ref t3), .val (.int (Int32.ofNat es.length)), .val (.ref a5)] [])) _
        refine XS.iinc X14.here hx rfl (hb hby d_prog_140_method_3_164) rfl (l' := #[.val (.ref a), .val (.int r), .val (.int (Int32.ofNat w)), .val (.ref t3), .val (.int ((Int32.ofNat es.length) + (1 : Int32))), .val (.ref a5)]) rfl ?_
        show Steps pP.tables eE below (T14.setTop (mkF mM 167 #[.val (.ref a), .val (.int r), .val (.int (Int32.ofNat w)), .val (.ref t3), .val (.int ((Int32.ofNat es.length) + (1 : Int32))), .val (.ref a5)] [])) _
        refine XS.goto X14.here hx rfl (pc0 := 167) (pc' := 120) rfl (hb hby d_prog_140_method_3_167) (by decide) (by decide) ?_
        show Steps pP.tables eE below (T14.setTop (mkF mM 120 #[.val (.ref a), .val (.int r), .val (.int (Int32.ofNat w)), .val (.ref t3), .val (.int ((Int32.ofNat es.length) + (1 : Int32))), .val (.ref a5)] [])) _
        rw [show Int32.ofNat es.length + (1 : Int32) = Int32.ofNat (es ++ [(own_endOf cs d f tt)]).length from by rw [own_inc, List.length_append]; rfl]
        rw [hes] at kg
        exact st17 tg kg
      · have he31 : es ++ (own_pcs cs d tt (k + 1) f).take (w - es.length) = es := (by rw [own_pcs_stop cs d tt hn4, List.take_nil, List.append_nil])
        refine ⟨T3, _, _, own_wid X3 (by decide) (by decide), N0, ⟨t3, kt, (16 : Int32), rfl, (by rw [Kq3]; exact K0), (by rw [Kq3]; exact (he31.symm ▸ V_t3)), g_t3, (by rw [he31]; exact ⟨by show es.length ≤ 16; omega, by decide⟩)⟩, fun tg kg => ?_⟩
        rw [he31] at kg
        refine pre5 tg ?_
        refine XS.ifYes X3.here hx rfl (pc0 := 131) (pc' := 170) rfl (hb hby d_prog_140_method_3_131) rfl ((if0 _ _).trans (teq (if_pos (own_lt (by omega) (by omega)))).1) (by decide) (by decide) ?_
        exact kg
    · have he32 : es ++ (own_pcs cs d tt (k + 1) f).take (w - es.length) = es := (by have q := own_nltI hc1 (by omega) (by omega); rw [show w - es.length = 0 by omega, List.take_zero, List.append_nil])
      refine ⟨T0, _, _, own_wid X0 (by decide) (by decide), N0, ⟨t3, kt, (16 : Int32), rfl, K0, (he32.symm ▸ V_t3), g_t3, (by rw [he32]; exact ⟨by show es.length ≤ 16; omega, by decide⟩)⟩, fun tg kg => ?_⟩
      rw [he32] at kg
      refine pre2 tg ?_
      refine XS.icmpYes X0.here hx rfl (pc0 := 123) (pc' := 170) rfl (hb hby d_prog_140_method_3_123) rfl (flt hc1).2.1 (by decide) (by decide) ?_
      exact kg
set_option maxRecDepth 65536 in
set_option maxHeartbeats 40000000 in
theorem lp_re8 {pP : Program} {l : Launch} {eE : Env} {sS : State} {mM : MethodId} {args : Array Value} {below : List Frame} {meth : Method} {cC : Code} {Z : State} {a0 : Array Value} {n0 : Nat} (a : Addr) (x : Addr) (t : Addr) (kk : ClassId) (cs : List Int32) (d : Int32) (tt : Nat) (zc : Int32) (fm : Value) (r : Int32) (w : Nat) (a5 : Addr) (hx : pP.tables.exec = Jvm.exec) (hZ : Z.Warmed39 sS.vm) (hw : ∀ d ∈ tables_1, d.before a0 Z = true) (hby : cC.code = prog_140_method_3_code) (hml : cC.maxLocals = 6) (hown : sS.vm.findClass "com/example/resultwire/resultwire/er7/PieceIndex" = some mM.cls) (ga5 : n0 ≤ a5) (S_COMPACT_STRINGS : Sta Z Z.heap "java/lang/String" "COMPACT_STRINGS" "Z" (.int zc)) (hzc : (¬ (zc = (0 : Int32)))) (S_SIOOBE_FORMATTER : Sta Z Z.heap "jdk/internal/util/Preconditions" "SIOOBE_FORMATTER" "Ljava/util/function/BiFunction;" fm) (hrf : (fm.isRef = true)) (hw1 : (w < 2147483648)) (hw2 : (8 ≤ w)) (htt : (tt ≤ cs.length ∧ cs.length ≤ 4000)) :
    ∀ (k : Nat) (f : Nat) (es : List Nat) (t3 : Addr) (kt : ClassId) (u : Int32) (v1 : Value) (v2 : Value) {T0 : State} {L0 : List Loc} (X0 : Stand pP l eE ({ frames := 6, cells := 4, slots := 40, locals := 95 } : Room) sS mM args below meth cC T0 L0 2 15) (N0 : Fr n0 L0) (O0 : Old Z n0 T0.heap) (E_a5 : Exa Z T0.heap a5 "com/example/resultwire/resultwire/er7/Pieces") (F_a5_m_sText : Fld Z T0.heap a5 "com/example/resultwire/resultwire/er7/Pieces" "m_sText" "Ljava/lang/String;" (.ref x)) (F_a5_m_nDelimiter : Fld Z T0.heap a5 "com/example/resultwire/resultwire/er7/Pieces" "m_nDelimiter" "I" (.int d)) (F_a5_m_nTo : Fld Z T0.heap a5 "com/example/resultwire/resultwire/er7/Pieces" "m_nTo" "I" (.int (Int32.ofNat tt))) (F_a5_m_nFrom : Fld Z T0.heap a5 "com/example/resultwire/resultwire/er7/Pieces" "m_nFrom" "I" (.int (Int32.ofNat f))) (F_a5_m_nStart : Fld Z T0.heap a5 "com/example/resultwire/resultwire/er7/Pieces" "m_nStart" "I" v1) (F_a5_m_nEnd : Fld Z T0.heap a5 "com/example/resultwire/resultwire/er7/Pieces" "m_nEnd" "I" v2) (F_a5_m_nNumber : Fld Z T0.heap a5 "com/example/resultwire/resultwire/er7/Pieces" "m_nNumber" "I" (.int u)) (V_t3 : Arv Z T0.heap t3 kt .int (8 : Int32) (own_iv es) (.int (0 : Int32))) (g_t3 : n0 ≤ t3) (Str_x : own_Str Z T0.heap x t kk cs) (ne11 : t3 ≠ a5) (ne12 : x ≠ t3) (ne13 : t ≠ t3) (ne14 : x ≠ a5) (ne15 : t ≠ a5) (hk : tt + 1 ≤ f + k) (hbd : es.length + k ≤ 15) (he : es.length ≤ 8) (hf : f ≤ tt + 1), own_ToK pP l eE ({ frames := 6, cells := 4, slots := 40, locals := 95 } : Room) sS mM args below meth cC n0 3 31 T0 (mkF mM 120 #[.val (.ref a), .val (.int r), .val (.int (Int32.ofNat w)), .val (.ref t3), .val (.int (Int32.ofNat es.length)), .val (.ref a5)] []) (fun h' g' => ∃ (t4 : Addr) (kt4 : ClassId) (z4 : Int32), g' = mkF mM 170 #[.val (.ref a), .val (.int r), .val (.int (Int32.ofNat w)), .val (.ref t4), .val (.int (Int32.ofNat (es ++ (own_pcs cs d tt k f).take (w - es.length)).length)), .val (.ref a5)] [] ∧ Keep T0.heap h' [a5, t3] ∧ Arv Z h' t4 kt4 .int z4 (own_iv (es ++ (own_pcs cs d tt k f).take (w - es.length))) (.int (0 : Int32)) ∧ n0 ≤ t4 ∧ ((es ++ (own_pcs cs d tt k f).take (w - es.length)).length ≤ z4.toNatClampNeg ∧ ¬ z4 < 0)) := by
  intro k
  induction k with
  | zero =>
    intro f es t3 kt u v1 v2 T0 L0 X0 N0 O0 E_a5 F_a5_m_sText F_a5_m_nDelimiter F_a5_m_nTo F_a5_m_nFrom F_a5_m_nStart F_a5_m_nEnd F_a5_m_nNumber V_t3 g_t3 Str_x ne11 ne12 ne13 ne14 ne15 hk hbd he hf
    have K0 : Keep T0.heap T0.heap [a5, t3] := Keep.refl _ _
    have pre2 : ∀ tg, Steps pP.tables eE below (T0.setTop (mkF mM 123 #[.val (.ref a), .val (.int r), .val (.int (Int32.ofNat w)), .val (.ref t3), .val (.int (Int32.ofNat es.length)), .val (.ref a5)] [(.int (Int32.ofNat w)), (.int (Int32.ofNat es.length))])) tg → Steps pP.tables eE below (T0.setTop (mkF mM 120 #[.val (.ref a), .val (.int r), .val (.int (Int32.ofNat w)), .val (.ref t3), .val (.int (Int32.ofNat es.length)), .val (.ref a5)] [])) tg := fun tg kg => (by
      refine XS.iload X0.here hx rfl (hb hby d_prog_140_method_3_120) rfl ?_
      show Steps pP.tables eE below (T0.setTop (mkF mM 122 #[.val (.ref a), .val (.int r), .val (.int (Int32.ofNat w)), .val (.ref t3), .val (.int (Int32.ofNat es.length)), .val (.ref a5)] [(.int (Int32.ofNat es.length))])) _
      refine XS.iloadN X0.here hx rfl (hb hby d_prog_140_method_3_122) rfl ?_
      exact kg)
    by_cases hc1 : (Int32.ofNat es.length) < (Int32.ofNat w)
    · obtain ⟨cq3, kq3, q3a, q3b, q3c⟩ := isOf hZ rfl E_a5
      obtain ⟨_, _, ⟨T3, L3, k3, n3⟩, -, X3, ⟨Lc3, hQ3, l3, y3, z3⟩, st3⟩ := X0.virtualBack hx (y := (⟨"com/example/resultwire/resultwire/er7/Pieces", "hasNext", "()Z"⟩ : MethodName)) (z := (⟨"com/example/resultwire/resultwire/er7/Pieces", "hasNext", "()Z"⟩ : MethodName)) hown (mvT hZ (w_100 hw)) (mvT hZ (w_101 hw)) (notFace_of_selects (args := #[]) (mvT hZ (w_103 hw))) (mvT hZ (w_103 hw)) (mvT hZ (w_102 hw)) (by decide) (backOf (W := 0) (rm_hn l Z a0 hw [] a5 (Int32.ofNat f) (Int32.ofNat tt) T0.heap n0 O0 F_a5_m_nFrom F_a5_m_nTo) hZ (w_104 hw) (w_83 hw) (by decide) (by decide)) q3a q3c (g := (mkF mM 128 #[.val (.ref a), .val (.int r), .val (.int (Int32.ofNat w)), .val (.ref t3), .val (.int (Int32.ofNat es.length)), .val (.ref a5)] [(.ref a5)])) rfl (by rw [hml]; rfl) (Steps.refl _) (argsL := []) (rest := []) (lenOf pd_3 rfl) rfl (by show 2 * 0 + _ ≤ _; exact Nat.le_of_eq rfl) (hb hby d_prog_140_method_3_128) (fun _ _ => ⟨rfl, rfl, (by decide : 2 + 0 ≤ _), (by decide : 15 + 0 ≤ _)⟩)
      dsimp only [Pt.U, Pt.locs, Pt.cells, Pt.slots] at X3 l3 y3 z3 st3 hQ3
      subst l3 y3 z3
      obtain ⟨rfl, rfl, Kq3⟩ := hQ3
      try rw [List.append_nil] at X3
      have hn4 : ¬ f ≤ tt := by omega
      have he5 : es ++ (own_pcs cs d tt 0 f).take (w - es.length) = es := (by rw [own_pcs_stop cs d tt hn4, List.take_nil, List.append_nil])
      refine ⟨T3, _, _, own_wid X3 (by decide) (by decide), N0, ⟨t3, kt, (8 : Int32), rfl, (by rw [Kq3]; exact K0), (by rw [Kq3]; exact (he5.symm ▸ V_t3)), g_t3, (by rw [he5]; exact ⟨by show es.length ≤ 8; omega, by decide⟩)⟩, fun tg kg => ?_⟩
      rw [he5] at kg
      refine pre2 tg ?_
      refine XS.icmpNo X0.here hx rfl (hb hby d_prog_140_method_3_123) rfl (tlt hc1).2.1 ?_
      show Steps pP.tables eE below (T0.setTop (mkF mM 126 #[.val (.ref a), .val (.int r), .val (.int (Int32.ofNat w)), .val (.ref t3), .val (.int (Int32.ofNat es.length)), .val (.ref a5)] [])) _
      refine XS.aload X0.here hx rfl (hb hby d_prog_140_method_3_126) rfl rfl ?_
      show Steps pP.tables eE below (T0.setTop (mkF mM 128 #[.val (.ref a), .val (.int r), .val (.int (Int32.ofNat w)), .val (.ref t3), .val (.int (Int32.ofNat es.length)), .val (.ref a5)] [(.ref a5)])) _
      refine st3.trans ?_
      show Steps pP.tables eE below (T3.setTop (mkF mM 131 #[.val (.ref a), .val (.int r), .val (.int (Int32.ofNat w)), .val (.ref t3), .val (.int (Int32.ofNat es.length)), .val (.ref a5)] [(.int (own_hn (Int32.ofNat f) (Int32.ofNat tt)))])) _
      refine XS.ifYes X3.here hx rfl (pc0 := 131) (pc' := 170) rfl (hb hby d_prog_140_method_3_131) rfl ((if0 _ _).trans (teq (if_pos (own_lt (by omega) (by omega)))).1) (by decide) (by decide) ?_
      exact kg
    · have he6 : es ++ (own_pcs cs d tt 0 f).take (w - es.length) = es := (by have q := own_nltI hc1 (by omega) (by omega); rw [show w - es.length = 0 by omega, List.take_zero, List.append_nil])
      refine ⟨T0, _, _, own_wid X0 (by decide) (by decide), N0, ⟨t3, kt, (8 : Int32), rfl, K0, (he6.symm ▸ V_t3), g_t3, (by rw [he6]; exact ⟨by show es.length ≤ 8; omega, by decide⟩)⟩, fun tg kg => ?_⟩
      rw [he6] at kg
      refine pre2 tg ?_
      refine XS.icmpYes X0.here hx rfl (pc0 := 123) (pc' := 170) rfl (hb hby d_prog_140_method_3_123) rfl (flt hc1).2.1 (by decide) (by decide) ?_
      exact kg
  | succ k ih =>
    intro f es t3 kt u v1 v2 T0 L0 X0 N0 O0 E_a5 F_a5_m_sText F_a5_m_nDelimiter F_a5_m_nTo F_a5_m_nFrom F_a5_m_nStart F_a5_m_nEnd F_a5_m_nNumber V_t3 g_t3 Str_x ne11 ne12 ne13 ne14 ne15 hk hbd he hf
    have K0 : Keep T0.heap T0.heap [a5, t3] := Keep.refl _ _
    have pre2 : ∀ tg, Steps pP.tables eE below (T0.setTop (mkF mM 123 #[.val (.ref a), .val (.int r), .val (.int (Int32.ofNat w)), .val (.ref t3), .val (.int (Int32.ofNat es.length)), .val (.ref a5)] [(.int (Int32.ofNat w)), (.int (Int32.ofNat es.length))])) tg → Steps pP.tables eE below (T0.setTop (mkF mM 120 #[.val (.ref a), .val (.int r), .val (.int (Int32.ofNat w)), .val (.ref t3), .val (.int (Int32.ofNat es.length)), .val (.ref a5)] [])) tg := fun tg kg => (by
      refine XS.iload X0.here hx rfl (hb hby d_prog_140_method_3_120) rfl ?_
      show Steps pP.tables eE below (T0.setTop (mkF mM 122 #[.val (.ref a), .val (.int r), .val (.int (Int32.ofNat w)), .val (.ref t3), .val (.int (Int32.ofNat es.length)), .val (.ref a5)] [(.int (Int32.ofNat es.length))])) _
      refine XS.iloadN X0.here hx rfl (hb hby d_prog_140_method_3_122) rfl ?_
      exact kg)
    by_cases hc1 : (Int32.ofNat es.length) < (Int32.ofNat w)
    · obtain ⟨cq3, kq3, q3a, q3b, q3c⟩ := isOf hZ rfl E_a5
      obtain ⟨_, _, ⟨T3, L3, k3, n3⟩, -, X3, ⟨Lc3, hQ3, l3, y3, z3⟩, st3⟩ := X0.virtualBack hx (y := (⟨"com/example/resultwire/resultwire/er7/Pieces", "hasNext", "()Z"⟩ : MethodName)) (z := (⟨"com/example/resultwire/resultwire/er7/Pieces", "hasNext", "()Z"⟩ : MethodName)) hown (mvT hZ (w_100 hw)) (mvT hZ (w_101 hw)) (notFace_of_selects (args := #[]) (mvT hZ (w_103 hw))) (mvT hZ (w_103 hw)) (mvT hZ (w_102 hw)) (by decide) (backOf (W := 0) (rm_hn l Z a0 hw [] a5 (Int32.ofNat f) (Int32.ofNat tt) T0.heap n0 O0 F_a5_m_nFrom F_a5_m_nTo) hZ (w_104 hw) (w_83 hw) (by decide) (by decide)) q3a q3c (g := (mkF mM 128 #[.val (.ref a), .val (.int r), .val (.int (Int32.ofNat w)), .val (.ref t3), .val (.int (Int32.ofNat es.length)), .val (.ref a5)] [(.ref a5)])) rfl (by rw [hml]; rfl) (Steps.refl _) (argsL := []) (rest := []) (lenOf pd_3 rfl) rfl (by show 2 * 0 + _ ≤ _; exact Nat.le_of_eq rfl) (hb hby d_prog_140_method_3_128) (fun _ _ => ⟨rfl, rfl, (by decide : 2 + 0 ≤ _), (by decide : 15 + 0 ≤ _)⟩)
      dsimp only [Pt.U, Pt.locs, Pt.cells, Pt.slots] at X3 l3 y3 z3 st3 hQ3
      subst l3 y3 z3
      obtain ⟨rfl, rfl, Kq3⟩ := hQ3
      try rw [List.append_nil] at X3
      have pre5 : ∀ tg, Steps pP.tables eE below (T3.setTop (mkF mM 131 #[.val (.ref a), .val (.int r), .val (.int (Int32.ofNat w)), .val (.ref t3), .val (.int (Int32.ofNat es.length)), .val (.ref a5)] [(.int (own_hn (Int32.ofNat f) (Int32.ofNat tt)))])) tg → Steps pP.tables eE below (T0.setTop (mkF mM 120 #[.val (.ref a), .val (.int r), .val (.int (Int32.ofNat w)), .val (.ref t3), .val (.int (Int32.ofNat es.length)), .val (.ref a5)] [])) tg := fun tg kg => pre2 tg (by
        refine XS.icmpNo X0.here hx rfl (hb hby d_prog_140_method_3_123) rfl (tlt hc1).2.1 ?_
        show Steps pP.tables eE below (T0.setTop (mkF mM 126 #[.val (.ref a), .val (.int r), .val (.int (Int32.ofNat w)), .val (.ref t3), .val (.int (Int32.ofNat es.length)), .val (.ref a5)] [])) _
        refine XS.aload X0.here hx rfl (hb hby d_prog_140_method_3_126) rfl rfl ?_
        show Steps pP.tables eE below (T0.setTop (mkF mM 128 #[.val (.ref a), .val (.int r), .val (.int (Int32.ofNat w)), .val (.ref t3), .val (.int (Int32.ofNat es.length)), .val (.ref a5)] [(.ref a5)])) _
        refine st3.trans ?_
        exact kg)
      by_cases hn4 : f ≤ tt
      · obtain ⟨cq6, kq6, q6a, q6b, q6c⟩ := isOf hZ Kq3 E_a5
        obtain ⟨_, _, ⟨T6, L6, k6, n6⟩, -, X6, ⟨Lc6, hQ6, l6, y6, z6⟩, st6⟩ := X3.virtualBack hx (y := (⟨"com/example/resultwire/resultwire/er7/Pieces", "advance", "()V"⟩ : MethodName)) (z := (⟨"com/example/resultwire/resultwire/er7/Pieces", "advance", "()V"⟩ : MethodName)) hown (mvT hZ (w_105 hw)) (mvT hZ (w_106 hw)) (notFace_of_selects (args := #[]) (mvT hZ (w_108 hw))) (mvT hZ (w_108 hw)) (mvT hZ (w_107 hw)) (by decide) (backOf (W := 0) (rm_adv l Z a0 hw [] a5 x t kk cs d f tt zc fm u v1 v2 T0.heap n0 O0 E_a5 F_a5_m_sText F_a5_m_nDelimiter F_a5_m_nTo F_a5_m_nFrom F_a5_m_nStart F_a5_m_nEnd F_a5_m_nNumber ga5 (⟨(Str_x).1, (Str_x).2.1, (Str_x).2.2.1, (Str_x).2.2.2.1, (Str_x).2.2.2.2⟩ : own_Str Z T0.heap x t kk cs) (by omega : f ≤ tt) (by omega : tt ≤ cs.length) ne14 ne15 S_COMPACT_STRINGS hzc S_SIOOBE_FORMATTER hrf) hZ (w_109 hw) (w_83 hw) (by decide) (by decide)) q6a q6c (g := (mkF mM 136 #[.val (.ref a), .val (.int r), .val (.int (Int32.ofNat w)), .val (.ref t3), .val (.int (Int32.ofNat es.length)), .val (.ref a5)] [(.ref a5)])) rfl (by rw [hml]; rfl) (Steps.refl _) (argsL := []) (rest := []) (lenOf pd_8 rfl) rfl (by show 2 * 0 + _ ≤ _; exact Nat.le_of_eq rfl) (hb hby d_prog_140_method_3_136) (fun _ _ => ⟨rfl, Kq3, (by decide : 2 + 0 ≤ _), (by decide : 15 + 0 ≤ _)⟩)
        dsimp only [Pt.U, Pt.locs, Pt.cells, Pt.slots] at X6 l6 y6 z6 st6 hQ6
        subst l6 y6 z6
        obtain ⟨rfl, Nq6, Kq6, q6_0, q6_1, q6_2, q6_3, q6_4, q6_5, q6_6, q6_7⟩ := hQ6
        have N6 := Fr.app N0 Nq6
        have K7 : Keep T0.heap T6.heap [a5, t3] := K0.trans Kq6 (allS (Or.inl (List.mem_of_getElem? (i := 0) rfl)) all0)
        have f9 := (V_t3.keep Kq6 (ninS ne11 nin0))
        obtain ⟨cl8, Ar8, -, S8, Nn8, -, -⟩ := id f9
        have pre11 : ∀ tg, Steps pP.tables eE below (T6.setTop (mkF mM 143 #[.val (.ref a), .val (.int r), .val (.int (Int32.ofNat w)), .val (.ref t3), .val (.int (Int32.ofNat es.length)), .val (.ref a5)] [(.int (8 : Int32)), (.int (Int32.ofNat es.length))])) tg → Steps pP.tables eE below (T0.setTop (mkF mM 120 #[.val (.ref a), .val (.int r), .val (.int (Int32.ofNat w)), .val (.ref t3), .val (.int (Int32.ofNat es.length)), .val (.ref a5)] [])) tg := fun tg kg => pre5 tg (by
          refine XS.ifNo X3.here hx rfl (hb hby d_prog_140_method_3_131) rfl ((if0 _ _).trans (feq (by rw [own_hn1 (own_nlt (by omega) (by omega))]; decide)).1) ?_
          show Steps pP.tables eE below (T3.setTop (mkF mM 134 #[.val (.ref a), .val (.int r), .val (.int (Int32.ofNat w)), .val (.ref t3), .val (.int (Int32.ofNat es.length)), .val (.ref a5)] [])) _
          refine XS.aload X3.here hx rfl (hb hby d_prog_140_method_3_134) rfl rfl ?_
          show Steps pP.tables eE below (T3.setTop (mkF mM 136 #[.val (.ref a), .val (.int r), .val (.int (Int32.ofNat w)), .val (.ref t3), .val (.int (Int32.ofNat es.length)), .val (.ref a5)] [(.ref a5)])) _
          refine st6.trans ?_
          show Steps pP.tables eE below (T6.setTop (mkF mM 139 #[.val (.ref a), .val (.int r), .val (.int (Int32.ofNat w)), .val (.ref t3), .val (.int (Int32.ofNat es.length)), .val (.ref a5)] [])) _
          refine XS.iload X6.here hx rfl (hb hby d_prog_140_method_3_139) rfl ?_
          show Steps pP.tables eE below (T6.setTop (mkF mM 141 #[.val (.ref a), .val (.int r), .val (.int (Int32.ofNat w)), .val (.ref t3), .val (.int (Int32.ofNat es.length)), .val (.ref a5)] [(.int (Int32.ofNat es.length))])) _
          refine XS.aloadN X6.here hx rfl (hb hby d_prog_140_method_3_141) rfl rfl ?_
          show Steps pP.tables eE below (T6.setTop (mkF mM 142 #[.val (.ref a), .val (.int r), .val (.int (Int32.ofNat w)), .val (.ref t3), .val (.int (Int32.ofNat es.length)), .val (.ref a5)] [(.ref t3), (.int (Int32.ofNat es.length))])) _
          refine X6.arraylength hx (Ar8.1) (State.isArrayOf_alike hZ.alike Ar8.2.1) (g := (mkF mM 142 #[.val (.ref a), .val (.int r), .val (.int (Int32.ofNat w)), .val (.ref t3), .val (.int (Int32.ofNat es.length)), .val (.ref a5)] [(.ref t3), (.int (Int32.ofNat es.length))])) rfl rfl (hb hby d_prog_140_method_3_142) _ ?_
          rw [len_of S8 Nn8]
          exact kg)
        by_cases hfl10 : es.length = 8
        · have f12 := (O0.keep Kq6 (allS ga5 all0))
          obtain ⟨_, _, ⟨T13, L13, k13, n13⟩, -, X13, ⟨Lc13, hQ13, l13, y13, z13⟩, st13⟩ := Jvm.LawKit.callS X6 hx (y := (⟨"java/util/Arrays", "copyOf", "([II)[I"⟩ : MethodName)) hown (mvT hZ (w_69 hw)) (mvT hZ (w_70 hw)) (mvT hZ (w_71 hw)) (mvT hZ (w_72 hw)) (by decide) (backOf (W := 0) (rm_cp8 l Z a0 hw [] t3 kt es T6.heap n0 f12 f9 hfl10) hZ (w_72 hw) (w_71 hw) (by decide) (by decide)) (g := (mkF mM 151 #[.val (.ref a), .val (.int r), .val (.int (Int32.ofNat w)), .val (.ref t3), .val (.int (Int32.ofNat es.length)), .val (.ref a5)] [(.int (16 : Int32)), (.ref t3)])) rfl (by rw [hml]; rfl) (argsL := [(.ref t3), (.int (16 : Int32))]) (rest := []) (lenOf pd_9 rfl) rfl (by show 2 * 0 + _ ≤ _; exact Nat.le_of_eq rfl) (hb hby d_prog_140_method_3_151) (fun _ _ => ⟨rfl, rfl, (by decide : 2 + 1 ≤ _), (by decide : 15 + 16 ≤ _)⟩)
          dsimp only [Pt.U, Pt.locs, Pt.cells, Pt.slots] at X13 l13 y13 z13 st13 hQ13
          subst l13 y13 z13
          obtain ⟨b_13, kb_13, rfl, Nq13, Kq13, q13_0, q13_1⟩ := hQ13
          have N13 := Fr.app N6 Nq13
          have g_b_13 : n0 ≤ b_13 := Nat.le_trans (own_osz f12) q13_0
          have sz_b_13 : T0.heap.size ≤ b_13 := Nat.le_trans K7.1 q13_0
          have K14 : Keep T0.heap T13.heap [a5, t3] := K7.trans Kq13 all0
          have f15 := (q6_6.keep Kq13 nin0)
          have f16 := (f12.keep Kq13 all0)
          have f18 := (q6_0.keep Kq13)
          obtain ⟨cq17, kq17, q17a, q17b, q17c⟩ := isOf hZ rfl f18
          obtain ⟨_, _, ⟨T17, L17, k17, n17⟩, -, X17, ⟨Lc17, hQ17, l17, y17, z17⟩, st17⟩ := X13.virtualBack hx (y := (⟨"com/example/resultwire/resultwire/er7/Pieces", "end", "()I"⟩ : MethodName)) (z := (⟨"com/example/resultwire/resultwire/er7/Pieces", "end", "()I"⟩ : MethodName)) hown (mvT hZ (w_126 hw)) (mvT hZ (w_127 hw)) (notFace_of_selects (args := #[]) (mvT hZ (w_129 hw))) (mvT hZ (w_129 hw)) (mvT hZ (w_128 hw)) (by decide) (backOf (W := 2) (rm_pend l Z a0 hw [] a5 (Int32.ofNat (own_endOf cs d f tt)) T13.heap n0 f16 f15) hZ (w_130 hw) (w_83 hw) (by decide) (by decide)) q17a q17c (g := (mkF mM 160 #[.val (.ref a), .val (.int r), .val (.int (Int32.ofNat w)), .val (.ref b_13), .val (.int (Int32.ofNat es.length)), .val (.ref a5)] [(.ref a5), (.int (Int32.ofNat es.length)), (.ref b_13)])) rfl (by rw [hml]; rfl) (Steps.refl _) (argsL := []) (rest := [(.int (Int32.ofNat es.length)), (.ref b_13)]) (lenOf pd_4 rfl) rfl (by show 2 * 0 + _ ≤ _; exact Nat.le_of_eq rfl) (hb hby d_prog_140_method_3_160) (fun _ _ => ⟨rfl, rfl, (by decide : 3 + 0 ≤ _), (by decide : 31 + 0 ≤ _)⟩)
          dsimp only [Pt.U, Pt.locs, Pt.cells, Pt.slots] at X17 l17 y17 z17 st17 hQ17
          subst l17 y17 z17
          obtain ⟨rfl, rfl, Kq17⟩ := hQ17
          try rw [List.append_nil] at X17
          have Vp19 := Arv.pad q13_1 (own_pad1 (own_iv es) (.int (0 : Int32)))
          obtain ⟨cl20, Ar20, qk20, S20, Nn20, Hh20, G20⟩ := id Vp19
          have hin20 : ¬ ((Int32.ofNat es.length) < 0 ∨ cl20.slots.size ≤ ((Int32.ofNat es.length)).toNatClampNeg) := inb_of S20 ⟨own_nneg _ (by omega), own_lt16 (by omega)⟩
          obtain ⟨T20, h20, X20, e20, W20, st20⟩ := stI X17 hx hZ Kq17 Ar20 (j := (Int32.ofNat es.length)) hin20 (g := (mkF mM 163 #[.val (.ref a), .val (.int r), .val (.int (Int32.ofNat w)), .val (.ref b_13), .val (.int (Int32.ofNat es.length)), .val (.ref a5)] [(.int (Int32.ofNat (own_endOf cs d f tt))), (.int (Int32.ofNat es.length)), (.ref b_13)])) rfl rfl (hb hby d_prog_140_method_3_163)
          have K21 : Keep T0.heap h20 [a5, t3] := K14.wr W20 (Or.inr sz_b_13)
          have V20 : Arv Z h20 b_13 kb_13 .int (16 : Int32) (((own_iv es ++ [(Value.int (0 : Int32))])).set es.length (.int (Int32.ofNat (own_endOf cs d f tt)))) (.int (0 : Int32)) := Arv.set Ar20 qk20 S20 Nn20 Hh20 G20 rfl W20 es.length (own_clamp (by omega)) (by rw [List.length_append, own_iv_len]; exact Nat.lt_succ_self _)
          have N20 := Fr.snoc X20 N13 g_b_13
          have Vp22 : Arv Z h20 b_13 kb_13 .int (16 : Int32) (own_iv (es ++ [(own_endOf cs d f tt)])) (.int (0 : Int32)) := own_ivpush es (own_endOf cs d f tt) (.int (0 : Int32)) ▸ V20
          subst e20
          have hbe := own_endOf_bd (cs := cs) (d := d) hn4
          have hlt := own_ltI hc1 (by omega) (by omega)
          have hes : es ++ (own_pcs cs d tt (k + 1) f).take (w - es.length) = (es ++ [(own_endOf cs d f tt)]) ++ (own_pcs cs d tt k ((own_endOf cs d f tt) + 1)).take (w - (es ++ [(own_endOf cs d f tt)]).length) := own_step cs d hlt hn4
          have f24 := (f18.wr W20)
          have f25 := ((q6_1.keep Kq13 nin0).other W20 (Or.inl (Nat.ne_of_lt (Nat.lt_of_lt_of_le (q6_0).lt q13_0))))
          have f26 := ((q6_2.keep Kq13 nin0).other W20 (Or.inl (Nat.ne_of_lt (Nat.lt_of_lt_of_le (q6_0).lt q13_0))))
          have f27 := ((q6_3.keep Kq13 nin0).other W20 (Or.inl (Nat.ne_of_lt (Nat.lt_of_lt_of_le (q6_0).lt q13_0))))
          have f28 := ((q6_4.keep Kq13 nin0).other W20 (Or.inl (Nat.ne_of_lt (Nat.lt_of_lt_of_le (q6_0).lt q13_0))))
          have f29 := ((q6_5.keep Kq13 nin0).other W20 (Or.inl (Nat.ne_of_lt (Nat.lt_of_lt_of_le (q6_0).lt q13_0))))
          have f30 := (f15.other W20 (Or.inl (Nat.ne_of_lt (Nat.lt_of_lt_of_le (q6_0).lt q13_0))))
          have f31 := ((q6_7.keep Kq13 nin0).other W20 (Or.inl (Nat.ne_of_lt (Nat.lt_of_lt_of_le (q6_0).lt q13_0))))
          have f32 := ((((Str_x).1.keep Kq6).keep Kq13).wr W20)
          have f33 := ((((Str_x).2.1.keep Kq6 (ninS ne14 nin0)).keep Kq13 nin0).other W20 (Or.inl (Nat.ne_of_lt (Nat.lt_of_lt_of_le (Nat.lt_of_lt_of_le ((Str_x).1).lt Kq6.1) q13_0))))
          have f34 := ((((Str_x).2.2.1.keep Kq6 (ninS ne14 nin0)).keep Kq13 nin0).other W20 (Or.inl (Nat.ne_of_lt (Nat.lt_of_lt_of_le (Nat.lt_of_lt_of_le ((Str_x).1).lt Kq6.1) q13_0))))
          have f35 := ((((Str_x).2.2.2.1.keep Kq6 (ninS ne15 nin0)).keep Kq13 nin0).other W20 (Nat.ne_of_lt (Nat.lt_of_lt_of_le (Nat.lt_of_lt_of_le ((Str_x).2.2.2.1).lt Kq6.1) q13_0)))
          have f36 := (f16.wr W20 g_b_13)
          obtain ⟨T23, g23, L23, X23, N23, ⟨t4_23, kt4_23, z4_23, rfl, Kq23, q23_0, q23_1, q23_2⟩, st23⟩ := lp_re16 a x t kk cs d tt zc fm r w a5 hx hZ hw hby hml hown ga5 S_COMPACT_STRINGS hzc S_SIOOBE_FORMATTER hrf hw1 hw2 htt k ((own_endOf cs d f tt) + 1) (es ++ [(own_endOf cs d f tt)]) (b_13) (kb_13) ((u + (1 : Int32))) ((.int (Int32.ofNat f))) ((.int (Int32.ofNat (own_endOf cs d f tt)))) X20 N20 f36 f24 f25 f26 f27 f28 f29 f30 f31 Vp22 g_b_13 (⟨f32, f33, f34, f35, (Str_x).2.2.2.2⟩ : own_Str Z T20.heap x t kk cs) (Ne.symm (Nat.ne_of_lt (Nat.lt_of_lt_of_le (q6_0).lt q13_0))) (Nat.ne_of_lt (Nat.lt_of_lt_of_le (Nat.lt_of_lt_of_le ((Str_x).1).lt Kq6.1) q13_0)) (Nat.ne_of_lt (Nat.lt_of_lt_of_le (Nat.lt_of_lt_of_le ((Str_x).2.2.2.1).lt Kq6.1) q13_0)) ne14 ne15 (by omega) (by rw [List.length_append]; show es.length + 1 + _ ≤ _; omega) (by rw [List.length_append]; show es.length + 1 ≤ _; omega) (by omega)
          refine ⟨T23, _, L23, X23, N23, ⟨t4_23, kt4_23, z4_23, rfl, K21.trans Kq23 (allS (Or.inl (List.mem_of_getElem? (i := 0) rfl)) (allS (Or.inr sz_b_13) all0)), (hes ▸ q23_0), q23_1, (hes ▸ q23_2)⟩, fun tg kg => ?_⟩
          refine pre11 tg ?_
          refine XS.icmpNo X6.here hx rfl (hb hby d_prog_140_method_3_143) rfl (teq (congrArg Int32.ofNat hfl10 : Int32.ofNat es.length = Int32.ofNat 8)).2 ?_
          show Steps pP.tables eE below (T6.setTop (mkF mM 146 #[.val (.ref a), .val (.int r), .val (.int (Int32.ofNat w)), .val (.ref t3), .val (.int (Int32.ofNat es.length)), .val (.ref a5)] [])) _
          refine XS.aloadN X6.here hx rfl (hb hby d_prog_140_method_3_146) rfl rfl ?_
          show Steps pP.tables eE below (T6.setTop (mkF mM 147 #[.val (.ref a), .val (.int r), .val (.int (Int32.ofNat w)), .val (.ref t3), .val (.int (Int32.ofNat es.length)), .val (.ref a5)] [(.ref t3)])) _
          refine XS.iconst X6.here hx rfl (hb hby d_prog_140_method_3_147) ?_
          show Steps pP.tables eE below (T6.setTop (mkF mM 148 #[.val (.ref a), .val (.int r), .val (.int (Int32.ofNat w)), .val (.ref t3), .val (.int (Int32.ofNat es.length)), .val (.ref a5)] [(.int (2 : Int32)), (.ref t3)])) _
          refine XS.iload X6.here hx rfl (hb hby d_prog_140_method_3_148) rfl ?_
          show Steps pP.tables eE below (T6.setTop (mkF mM 150 #[.val (.ref a), .val (.int r), .val (.int (Int32.ofNat w)), .val (.ref t3), .val (.int (Int32.ofNat es.length)), .val (.ref a5)] [(.int (Int32.ofNat es.length)), (.int (2 : Int32)), (.ref t3)])) _
          refine XS.imul X6.here hx rfl (hb hby d_prog_140_method_3_150) rfl ?_
          show Steps pP.tables eE below (T6.setTop (mkF mM 151 #[.val (.ref a), .val (.int r), .val (.int (Int32.ofNat w)), .val (.ref t3), .val (.int (Int32.ofNat es.length)), .val (.ref a5)] [(.int ((2 : Int32) * (Int32.ofNat es.length))), (.ref t3)])) _
          rw [show (2 : Int32) * (Int32.ofNat es.length) = (16 : Int32) from by rw [hfl10]; decide]
          show Steps pP.tables eE below (T6.setTop (mkF mM 151 #[.val (.ref a), .val (.int r), .val (.int (Int32.ofNat w)), .val (.ref t3), .val (.int (Int32.ofNat es.length)), .val (.ref a5)] [(.int (16 : Int32)), (.ref t3)])) _
          refine st13 _ ?_
          show Steps pP.tables eE below (T13.setTop (mkF mM 154 #[.val (.ref a), .val (.int r), .val (.int (Int32.ofNat w)), .val (.ref t3), .val (.int (Int32.ofNat es.length)), .val (.ref a5)] [(.ref b_13)])) _
          refine XS.astoreN X13.here hx rfl (hb hby d_prog_140_method_3_154) rfl rfl (l' := #[.val (.ref a), .val (.int r), .val (.int (Int32.ofNat w)), .val (.ref b_13), .val (.int (Int32.ofNat es.length)), .val (.ref a5)]) rfl ?_
          show Steps pP.tables eE below (T13.setTop (mkF mM 155 #[.val (.ref a), .val (.int r), .val (.int (Int32.ofNat w)), .val (.ref b_13), .val (.int (Int32.ofNat es.length)), .val (.ref a5)] [])) _
          refine XS.aloadN X13.here hx rfl (hb hby d_prog_140_method_3_155) rfl rfl ?_
          show Steps pP.tables eE below (T13.setTop (mkF mM 156 #[.val (.ref a), .val (.int r), .val (.int (Int32.ofNat w)), .val (.ref b_13), .val (.int (Int32.ofNat es.length)), .val (.ref a5)] [(.ref b_13)])) _
          refine XS.iload X13.here hx rfl (hb hby d_prog_140_method_3_156) rfl ?_
          show Steps pP.tables eE below (T13.setTop (mkF mM 158 #[.val (.ref a), .val (.int r), .val (.int (Int32.ofNat w)), .val (.ref b_13), .val (.int (Int32.ofNat es.length)), .val (.ref a5)] [(.int (Int32.ofNat es.length)), (.ref b_13)])) _
          refine XS.aload X13.here hx rfl (hb hby d_prog_140_method_3_158) rfl rfl ?_
          show Steps pP.tables eE below (T13.setTop (mkF mM 160 #[.val (.ref a), .val (.int r), .val (.int (Int32.ofNat w)), .val (.ref b_13), .val (.int (Int32.ofNat es.length)), .val (.ref a5)] [(.ref a5), (.int (Int32.ofNat es.length)), (.ref b_13)])) _
          refine st17.trans ?_
          show Steps pP.tables eE below (T17.setTop (mkF mM 163 #[.val (.ref a), .val (.int r), .val (.int (Int32.ofNat w)), .val (.ref b_13), .val (.int (Int32.ofNat es.length)), .val (.ref a5)] [(.int (Int32.ofNat (own_endOf cs d f tt))), (.int (Int32.ofNat es.length)), (.ref b_13)])) _
          refine st20 _ ?_
          show Steps pP.tables eE below (T20.setTop (mkF mM 164 #[.val (.ref a), .val (.int r), .val (.int (Int32.ofNat w)), .val (.ref b_13), .val (.int (Int32.ofNat es.length)), .val (.ref a5)] [])) _
          refine XS.iinc X20.here hx rfl (hb hby d_prog_140_method_3_164) rfl (l' := #[.val (.ref a), .val (.int r), .val (.int (Int32.ofNat w)), .val (.ref b_13), .val (.int ((Int32.ofNat es.length) + (1 : Int32))), .val (.ref a5)]) rfl ?_
          show Steps pP.tables eE below (T20.setTop (mkF mM 167 #[.val (.ref a), .val (.int r), .val (.int (Int32.ofNat w)), .val (.ref b_13), .val (.int ((Int32.ofNat es.length) + (1 : Int32))), .val (.ref a5)] [])) _
          refine XS.goto X20.here hx rfl (pc0 := 167) (pc' := 120) rfl (hb hby d_prog_140_method_3_167) (by decide) (by decide) ?_
          show Steps pP.tables eE below (T20.setTop (mkF mM 120 #[.val (.ref a), .val (.int r), .val (.int (Int32.ofNat w)), .val (.ref b_13), .val (.int ((Int32.ofNat es.length) + (1 : Int32))), .val (.ref a5)] [])) _
          rw [show Int32.ofNat es.length + (1 : Int32) = Int32.ofNat (es ++ [(own_endOf cs d f tt)]).length from by rw [own_inc, List.length_append]; rfl]
          rw [hes] at kg
          exact st23 tg kg
        · have f37 := (O0.keep Kq6 (allS ga5 all0))
          obtain ⟨cq38, kq38, q38a, q38b, q38c⟩ := isOf hZ rfl q6_0
          obtain ⟨_, _, ⟨T38, L38, k38, n38⟩, -, X38, ⟨Lc38, hQ38, l38, y38, z38⟩, st38⟩ := X6.virtualBack hx (y := (⟨"com/example/resultwire/resultwire/er7/Pieces", "end", "()I"⟩ : MethodName)) (z := (⟨"com/example/resultwire/resultwire/er7/Pieces", "end", "()I"⟩ : MethodName)) hown (mvT hZ (w_126 hw)) (mvT hZ (w_127 hw)) (notFace_of_selects (args := #[]) (mvT hZ (w_129 hw))) (mvT hZ (w_129 hw)) (mvT hZ (w_128 hw)) (by decide) (backOf (W := 2) (rm_pend l Z a0 hw [] a5 (Int32.ofNat (own_endOf cs d f tt)) T6.heap n0 f37 q6_6) hZ (w_130 hw) (w_83 hw) (by decide) (by decide)) q38a q38c (g := (mkF mM 160 #[.val (.ref a), .val (.int r), .val (.int (Int32.ofNat w)), .val (.ref t3), .val (.int (Int32.ofNat es.length)), .val (.ref a5)] [(.ref a5), (.int (Int32.ofNat es.length)), (.ref t3)])) rfl (by rw [hml]; rfl) (Steps.refl _) (argsL := []) (rest := [(.int (Int32.ofNat es.length)), (.ref t3)]) (lenOf pd_4 rfl) rfl (by show 2 * 0 + _ ≤ _; exact Nat.le_of_eq rfl) (hb hby d_prog_140_method_3_160) (fun _ _ => ⟨rfl, rfl, (by decide : 2 + 0 ≤ _), (by decide : 15 + 0 ≤ _)⟩)
          dsimp only [Pt.U, Pt.locs, Pt.cells, Pt.slots] at X38 l38 y38 z38 st38 hQ38
          subst l38 y38 z38
          obtain ⟨rfl, rfl, Kq38⟩ := hQ38
          try rw [List.append_nil] at X38
          have Vp39 := Arv.pad f9 (own_pad1 (own_iv es) (.int (0 : Int32)))
          obtain ⟨cl40, Ar40, qk40, S40, Nn40, Hh40, G40⟩ := id Vp39
          have hin40 : ¬ ((Int32.ofNat es.length) < 0 ∨ cl40.slots.size ≤ ((Int32.ofNat es.length)).toNatClampNeg) := inb_of S40 ⟨own_nneg _ (by omega), own_lt8 (by omega)⟩
          obtain ⟨T40, h40, X40, e40, W40, st40⟩ := stI X38 hx hZ Kq38 Ar40 (j := (Int32.ofNat es.length)) hin40 (g := (mkF mM 163 #[.val (.ref a), .val (.int r), .val (.int (Int32.ofNat w)), .val (.ref t3), .val (.int (Int32.ofNat es.length)), .val (.ref a5)] [(.int (Int32.ofNat (own_endOf cs d f tt))), (.int (Int32.ofNat es.length)), (.ref t3)])) rfl rfl (hb hby d_prog_140_method_3_163)
          have K41 : Keep T0.heap h40 [a5, t3] := K7.wr W40 (Or.inl (List.mem_of_getElem? (i := 1) rfl))
          have V40 : Arv Z h40 t3 kt .int (8 : Int32) (((own_iv es ++ [(Value.int (0 : Int32))])).set es.length (.int (Int32.ofNat (own_endOf cs d f tt)))) (.int (0 : Int32)) := Arv.set Ar40 qk40 S40 Nn40 Hh40 G40 rfl W40 es.length (own_clamp (by omega)) (by rw [List.length_append, own_iv_len]; exact Nat.lt_succ_self _)
          have N40 := Fr.snoc X40 N6 g_t3
          have Vp42 : Arv Z h40 t3 kt .int (8 : Int32) (own_iv (es ++ [(own_endOf cs d f tt)])) (.int (0 : Int32)) := own_ivpush es (own_endOf cs d f tt) (.int (0 : Int32)) ▸ V40
          subst e40
          have hbe := own_endOf_bd (cs := cs) (d := d) hn4
          have hlt := own_ltI hc1 (by omega) (by omega)
          have hes : es ++ (own_pcs cs d tt (k + 1) f).take (w - es.length) = (es ++ [(own_endOf cs d f tt)]) ++ (own_pcs cs d tt k ((own_endOf cs d f tt) + 1)).take (w - (es ++ [(own_endOf cs d f tt)]).length) := own_step cs d hlt hn4
          have f44 := (q6_0.wr W40)
          have f45 := (q6_1.other W40 (Or.inl (Ne.symm ne11)))
          have f46 := (q6_2.other W40 (Or.inl (Ne.symm ne11)))
          have f47 := (q6_3.other W40 (Or.inl (Ne.symm ne11)))
          have f48 := (q6_4.other W40 (Or.inl (Ne.symm ne11)))
          have f49 := (q6_5.other W40 (Or.inl (Ne.symm ne11)))
          have f50 := (q6_6.other W40 (Or.inl (Ne.symm ne11)))
          have f51 := (q6_7.other W40 (Or.inl (Ne.symm ne11)))
          have f52 := (((Str_x).1.keep Kq6).wr W40)
          have f53 := (((Str_x).2.1.keep Kq6 (ninS ne14 nin0)).other W40 (Or.inl ne12))
          have f54 := (((Str_x).2.2.1.keep Kq6 (ninS ne14 nin0)).other W40 (Or.inl ne12))
          have f55 := (((Str_x).2.2.2.1.keep Kq6 (ninS ne15 nin0)).other W40 ne13)
          have f56 := (f37.wr W40 g_t3)
          obtain ⟨T43, g43, L43, X43, N43, ⟨t4_43, kt4_43, z4_43, rfl, Kq43, q43_0, q43_1, q43_2⟩, st43⟩ := ih ((own_endOf cs d f tt) + 1) (es ++ [(own_endOf cs d f tt)]) (t3) (kt) ((u + (1 : Int32))) ((.int (Int32.ofNat f))) ((.int (Int32.ofNat (own_endOf cs d f tt)))) X40 N40 f56 f44 f45 f46 f47 f48 f49 f50 f51 Vp42 g_t3 (⟨f52, f53, f54, f55, (Str_x).2.2.2.2⟩ : own_Str Z T40.heap x t kk cs) ne11 ne12 ne13 ne14 ne15 (by omega) (by rw [List.length_append]; show es.length + 1 + _ ≤ _; omega) (by rw [List.length_append]; show es.length + 1 ≤ _; omega) (by omega)
          refine ⟨T43, _, L43, X43, N43, ⟨t4_43, kt4_43, z4_43, rfl, K41.trans Kq43 (allS (Or.inl (List.mem_of_getElem? (i := 0) rfl)) (allS (Or.inl (List.mem_of_getElem? (i := 1) rfl)) all0)), (hes ▸ q43_0), q43_1, (hes ▸ q43_2)⟩, fun tg kg => ?_⟩
          refine pre11 tg ?_
          refine XS.icmpYes X6.here hx rfl (pc0 := 143) (pc' := 155) rfl (hb hby d_prog_140_method_3_143) rfl (feq (fun q => hfl10 (own_inj (j := 8) q (by omega) (by omega)))).2 (by decide) (by decide) ?_
          show Steps pP.tables eE below (T6.setTop (mkF mM 155 #[.val (.ref a), .val (.int r), .val (.int (Int32.ofNat w)), .val (.ref t3), .val (.int (Int32.ofNat es.length)), .val (.ref a5)] [])) _
          refine XS.aloadN X6.here hx rfl (hb hby d_prog_140_method_3_155) rfl rfl ?_
          show Steps pP.tables eE below (T6.setTop (mkF mM 156 #[.val (.ref a), .val (.int r), .val (.int (Int32.ofNat w)), .val (.ref t3), .val (.int (Int32.ofNat es.length)), .val (.ref a5)] [(.ref t3)])) _
          refine XS.iload X6.here hx rfl (hb hby d_prog_140_method_3_156) rfl ?_
          show Steps pP.tables eE below (T6.setTop (mkF mM 158 #[.val (.ref a), .val (.int r), .val (.int (Int32.ofNat w)), .val (.ref t3), .val (.int (Int32.ofNat es.length)), .val (.ref a5)] [(.int (Int32.ofNat es.length)), (.ref t3)])) _
          refine XS.aload X6.here hx rfl (hb hby d_prog_140_method_3_158) rfl rfl ?_
          show Steps pP.tables eE below (T6.setTop (mkF mM 160 #[.val (.ref a), .val (.int r), .val (.int (Int32.ofNat w)), .val (.ref t3), .val (.int (Int32.ofNat es.length)), .val (.ref a5)] [(.ref a5), (.int (Int32.ofNat es.length)), (.ref t3)])) _
          refine st38.trans ?_
          show Steps pP.tables eE below (T38.setTop (mkF mM 163 #[.val (.ref a), .val (.int r), .val (.int (Int32.ofNat w)), .val (.ref t3), .val (.int (Int32.ofNat es.length)), .val (.ref a5)] [(.int (Int32.ofNat (own_endOf cs d f tt))), (.int (Int32.ofNat es.length)), (.ref t3)])) _
          refine st40 _ ?_
          show Steps pP.tables eE below (T40.setTop (mkF mM 164 #[.val (.ref a), .val (.int r), .val (.int (Int32.ofNat w)), .val (.ref t3), .val (.int (Int32.ofNat es.length)), .val (.ref a5)] [])) _
          refine XS.iinc X40.here hx rfl (hb hby d_prog_140_method_3_164) rfl (l' := #[.val (.ref a), .val (.int r), .val (.int (Int32.ofNat w)), .val (.ref t3), .val (.int ((Int32.ofNat es.length) + (1 : Int32))), .val (.ref a5)]) rfl ?_
          show Steps pP.tables eE below (T40.setTop (mkF mM 167 #[.val (.ref a), .val (.int r), .val (.int (Int32.ofNat w)), .val (.ref t3), .val (.int ((Int32.ofNat es.length) + (1 : Int32))), .val (.ref a5)] [])) _
          refine XS.goto X40.here hx rfl (pc0 := 167) (pc' := 120) rfl (hb hby d_prog_140_method_3_167) (by decide) (by decide) ?_
          show Steps pP.tables eE below (T40.setTop (mkF mM 120 #[.val (.ref a), .val (.int r), .val (.int (Int32.ofNat w)), .val (.ref t3), .val (.int ((Int32.ofNat es.length) + (1 : Int32))), .val (.ref a5)] [])) _
          rw [show Int32.ofNat es.length + (1 : Int32) = Int32.ofNat (es ++ [(own_endOf cs d f tt)]).length from by rw [own_inc, List.length_append]; rfl]
          rw [hes] at kg
          exact st43 tg kg
      · have he57 : es ++ (own_pcs cs d tt (k + 1) f).take (w - es.length) = es := (by rw [own_pcs_stop cs d tt hn4, List.take_nil, List.append_nil])
        refine ⟨T3, _, _, own_wid X3 (by decide) (by decide), N0, ⟨t3, kt, (8 : Int32), rfl, (by rw [Kq3]; exact K0), (by rw [Kq3]; exact (he57.symm ▸ V_t3)), g_t3, (by rw [he57]; exact ⟨by show es.length ≤ 8; omega, by decide⟩)⟩, fun tg kg => ?_⟩
        rw [he57] at kg
        refine pre5 tg ?_
        refine XS.ifYes X3.here hx rfl (pc0 := 131) (pc' := 170) rfl (hb hby d_prog_140_method_3_131) rfl ((if0 _ _).trans (teq (if_pos (own_lt (by omega) (by omega)))).1) (by decide) (by decide) ?_
        exact kg
    · have he58 : es ++ (own_pcs cs d tt (k + 1) f).take (w - es.length) = es := (by have q := own_nltI hc1 (by omega) (by omega); rw [show w - es.length = 0 by omega, List.take_zero, List.append_nil])
      refine ⟨T0, _, _, own_wid X0 (by decide) (by decide), N0, ⟨t3, kt, (8 : Int32), rfl, K0, (he58.symm ▸ V_t3), g_t3, (by rw [he58]; exact ⟨by show es.length ≤ 8; omega, by decide⟩)⟩, fun tg kg => ?_⟩
      rw [he58] at kg
      refine pre2 tg ?_
      refine XS.icmpYes X0.here hx rfl (pc0 := 123) (pc' := 170) rfl (hb hby d_prog_140_method_3_123) rfl (flt hc1).2.1 (by decide) (by decide) ?_
      exact kg
theorem ef_reach1 (m : MethodId) (x0 : Addr) (x1 : Int32) : entryFrame m #[(.ref x0), (.int x1)] 6 = mkF m 0 #[.val (.ref x0), .val (.int x1), .unset, .unset, .unset, .unset] [] := by first | (simp [entryFrame, mkF, argsToLocals, Value.category]; done) | rfl
def Q_reach1 (Z : State) (a : Addr) (r : Int32) (x : Addr) (t : Addr) (kk : ClassId) (cs : List Int32) (d : Int32) (f0 : Nat) (tt : Nat) (ne : Addr) (kne : ClassId) (zc : Int32) (fm : Value) (h0 : Heap) (n0 : Nat) (vV : Option Value) (h : Heap) (LL : List Loc) : Prop := ∃ (b : Addr) (t4 : Addr) (kt4 : ClassId) (z4 : Int32) (w : Nat), vV = some (.ref b) ∧ Fr n0 LL ∧ Keep h0 h [] ∧ h0.size ≤ b ∧ Exa Z h b "com/example/resultwire/resultwire/er7/PieceIndex" ∧ Fld Z h b "com/example/resultwire/resultwire/er7/PieceIndex" "m_sText" "Ljava/lang/String;" (.ref x) ∧ Fld Z h b "com/example/resultwire/resultwire/er7/PieceIndex" "m_nDelimiter" "I" (.int d) ∧ Fld Z h b "com/example/resultwire/resultwire/er7/PieceIndex" "m_nFrom" "I" (.int (Int32.ofNat f0)) ∧ Fld Z h b "com/example/resultwire/resultwire/er7/PieceIndex" "m_nTo" "I" (.int (Int32.ofNat tt)) ∧ Fld Z h b "com/example/resultwire/resultwire/er7/PieceIndex" "m_aEnds" "[I" (.ref t4) ∧ Fld Z h b "com/example/resultwire/resultwire/er7/PieceIndex" "m_nCount" "I" (.int (Int32.ofNat ((own_pcs cs d tt (tt + 1 - f0) f0).take w).length)) ∧ Arv Z h t4 kt4 .int z4 (own_iv ((own_pcs cs d tt (tt + 1 - f0) f0).take w)) (.int (0 : Int32)) ∧ (8 ≤ w ∧ w < 2147483648 ∧ (w : Int) = max r.toInt 8) ∧ (((own_pcs cs d tt (tt + 1 - f0) f0).take w).length ≤ z4.toNatClampNeg ∧ ¬ z4 < 0)
set_option maxRecDepth 65536 in
set_option maxHeartbeats 40000000 in
theorem rm_reach1 (l : Launch) (Z : State) (a0 : Array Value) (hw : ∀ d ∈ tables_1, d.before a0 Z = true) (ws : List Jvm.Cond) (a : Addr) (r : Int32) (x : Addr) (t : Addr) (kk : ClassId) (cs : List Int32) (d : Int32) (f0 : Nat) (tt : Nat) (ne : Addr) (kne : ClassId) (zc : Int32) (fm : Value) (h0 : Heap) (n0 : Nat) (O0 : Old Z n0 h0) (F_a_m_sText : Fld Z h0 a "com/example/resultwire/resultwire/er7/PieceIndex" "m_sText" "Ljava/lang/String;" (.ref x)) (F_a_m_nDelimiter : Fld Z h0 a "com/example/resultwire/resultwire/er7/PieceIndex" "m_nDelimiter" "I" (.int d)) (F_a_m_nFrom : Fld Z h0 a "com/example/resultwire/resultwire/er7/PieceIndex" "m_nFrom" "I" (.int (Int32.ofNat f0))) (F_a_m_nTo : Fld Z h0 a "com/example/resultwire/resultwire/er7/PieceIndex" "m_nTo" "I" (.int (Int32.ofNat tt))) (F_a_m_aEnds : Fld Z h0 a "com/example/resultwire/resultwire/er7/PieceIndex" "m_aEnds" "[I" (.ref ne)) (F_a_m_nCount : Fld Z h0 a "com/example/resultwire/resultwire/er7/PieceIndex" "m_nCount" "I" (.int (0 : Int32))) (V_ne : Arv Z h0 ne kne .int (0 : Int32) [] (.int (0 : Int32))) (Str_x : own_Str Z h0 x t kk cs) (E_a : Exa Z h0 a "com/example/resultwire/resultwire/er7/PieceIndex") (hp9 : ((0 : Int32) < r)) (hp10 : (f0 ≤ tt)) (hp11 : (tt ≤ cs.length ∧ tt ≤ 10)) (S_COMPACT_STRINGS : Sta Z Z.heap "java/lang/String" "COMPACT_STRINGS" "Z" (.int zc)) (hp13 : (¬ (zc = (0 : Int32)))) (S_SIOOBE_FORMATTER : Sta Z Z.heap "jdk/internal/util/Preconditions" "SIOOBE_FORMATTER" "Ljava/util/function/BiFunction;" fm) (hp15 : (fm.isRef = true)) :
    MetFree l (⟨"com/example/resultwire/resultwire/er7/PieceIndex", "reach", "(I)Lcom/example/resultwire/resultwire/er7/PieceIndex;"⟩ : MethodName) (head1 (Jvm.Cond.code (⟨"com/example/resultwire/resultwire/er7/PieceIndex", "reach", "(I)Lcom/example/resultwire/resultwire/er7/PieceIndex;"⟩ : MethodName) prog_140_method_3_code 6 (some (.object "com/example/resultwire/resultwire/er7/PieceIndex")) :: ws) ({ frames := 6, cells := 4, slots := 40, locals := 95 } : Room)) (fun aa_ U => aa_ = #[(.ref a), (.int r)] ∧ Z.Warmed39 U.vm ∧ U.heap = h0) (fun _ _ _ _ _ => True) (fun _ U o U' => ∃ vV LL, o = .returned vV ∧ Q_reach1 Z a r x t kk cs d f0 tt ne kne zc fm h0 n0 vV U'.heap LL ∧ FrameEnd U o U' LL ({ frames := 6, cells := 4, slots := 40, locals := 95 } : Room).cells ({ frames := 6, cells := 4, slots := 40, locals := 95 } : Room).slots) := by
  refine MetFree.of_bodySF (plainFor_of_name pn_3) hisR ?_
  intro pP eE sS mM args below meth cC s₁ Bd hml0 hP hK
  obtain ⟨rfl, hZ, hh⟩ := hP
  have hx := Bd.exec
  have hby := Bd.bytes
  have hml : cC.maxLocals = 6 := hml0
  have hown : sS.vm.findClass "com/example/resultwire/resultwire/er7/PieceIndex" = some mM.cls := findClass_of_methodNamed Bd.named
  have hnm := (name_of_methodNamed Bd.named Bd.method).1
  have X0 : Stand pP l eE ({ frames := 6, cells := 4, slots := 40, locals := 95 } : Room) sS mM #[(.ref a), (.int r)] below meth cC s₁ [] 0 0 := Stand.of_body Bd
  have e0 : s₁.heap = h0 := by rw [← hh, Bd.state]; rfl
  have N0 := Fr.nil n0
  have pre0 : ∀ tg, Steps pP.tables eE below (s₁.setTop (mkF mM 0 #[.val (.ref a), .val (.int r), .unset, .unset, .unset, .unset] [])) tg → Steps pP.tables eE below (s₁.setTop (entryFrame mM #[(.ref a), (.int r)] 6)) tg := fun tg kg => castTop (ef_reach1 mM a r) kg
  have K0 : Keep h0 h0 [] := Keep.refl _ _
  obtain ⟨w, ew, hw2, hw1, hwr⟩ := own_want hp9
  obtain ⟨T1, X1, e1, st1⟩ := getF X0 hx hZ hown (host := "") (Or.inl (w_58 hw)) Via.refl e0 F_a_m_nCount (g := (mkF mM 2 #[.val (.ref a), .val (.int r), .unset, .unset, .unset, .unset] [(.ref a), (.int r)])) rfl rfl (hb hby d_prog_140_method_3_2)
  obtain ⟨T2, X2, e2, st2⟩ := getF X1 hx hZ hown (host := "") (Or.inl (w_58 hw)) Via.refl e1 F_a_m_nCount (g := (mkF mM 9 #[.val (.ref a), .val (.int r), .unset, .unset, .unset, .unset] [(.ref a)])) rfl rfl (hb hby d_prog_140_method_3_9)
  obtain ⟨T3, X3, e3, st3⟩ := getF X2 hx hZ hown (host := "") (Or.inl (w_58 hw)) Via.refl e2 F_a_m_nCount (g := (mkF mM 40 #[.val (.ref a), .val (.int r), .unset, .unset, .unset, .unset] [(.ref a), (.int (2 : Int32)), (.int (8 : Int32)), (.int r)])) rfl rfl (hb hby d_prog_140_method_3_40)
  obtain ⟨_, _, ⟨T4, L4, k4, n4⟩, -, X4, ⟨Lc4, hQ4, l4, y4, z4⟩, st4⟩ := Jvm.LawKit.callS X3 hx (y := (⟨"java/lang/Math", "max", "(II)I"⟩ : MethodName)) hown (mvT hZ (w_65 hw)) (mvT hZ (w_66 hw)) (mvT hZ (w_67 hw)) (mvT hZ (w_68 hw)) (by decide) (backOf (W := 1) (rm_max l Z a0 hw [] (8 : Int32) (0 : Int32) h0 n0 O0 ) hZ (w_68 hw) (w_67 hw) (by decide) (by decide)) (g := (mkF mM 44 #[.val (.ref a), .val (.int r), .unset, .unset, .unset, .unset] [(.int (0 : Int32)), (.int (8 : Int32)), (.int r)])) rfl (by rw [hml]; rfl) (argsL := [(.int (8 : Int32)), (.int (0 : Int32))]) (rest := [(.int r)]) (lenOf pd_1 rfl) rfl (by show 2 * 0 + _ ≤ _; exact Nat.le_of_eq rfl) (hb hby d_prog_140_method_3_44) (fun _ _ => ⟨rfl, e3, (by decide : 0 + 0 ≤ _), (by decide : 0 + 0 ≤ _)⟩)
  dsimp only [Pt.U, Pt.locs, Pt.cells, Pt.slots] at X4 l4 y4 z4 st4 hQ4
  subst l4 y4 z4
  obtain ⟨rfl, rfl, Kq4⟩ := hQ4
  try rw [List.append_nil] at X4
  obtain ⟨_, _, ⟨T5, L5, k5, n5⟩, -, X5, ⟨Lc5, hQ5, l5, y5, z5⟩, st5⟩ := Jvm.LawKit.callS X4 hx (y := (⟨"java/lang/Math", "max", "(II)I"⟩ : MethodName)) hown (mvT hZ (w_65 hw)) (mvT hZ (w_66 hw)) (mvT hZ (w_67 hw)) (mvT hZ (w_68 hw)) (by decide) (backOf (W := 0) (rm_max l Z a0 hw [] r (8 : Int32) h0 n0 O0 ) hZ (w_68 hw) (w_67 hw) (by decide) (by decide)) (g := (mkF mM 47 #[.val (.ref a), .val (.int r), .unset, .unset, .unset, .unset] [(.int (8 : Int32)), (.int r)])) rfl (by rw [hml]; rfl) (argsL := [(.int r), (.int (8 : Int32))]) (rest := []) (lenOf pd_1 rfl) rfl (by show 2 * 0 + _ ≤ _; exact Nat.le_of_eq rfl) (hb hby d_prog_140_method_3_47) (fun _ _ => ⟨rfl, Kq4, (by decide : 0 + 0 ≤ _), (by decide : 0 + 0 ≤ _)⟩)
  dsimp only [Pt.U, Pt.locs, Pt.cells, Pt.slots] at X5 l5 y5 z5 st5 hQ5
  subst l5 y5 z5
  obtain ⟨rfl, rfl, Kq5⟩ := hQ5
  try rw [List.append_nil] at X5
  obtain ⟨T6, X6, e6, st6⟩ := getF X5 hx hZ hown (host := "") (Or.inl (w_56 hw)) Via.refl Kq5 F_a_m_aEnds (g := (mkF mM 52 #[.val (.ref a), .val (.int r), .val (.int (Int32.ofNat w)), .unset, .unset, .unset] [(.ref a)])) rfl rfl (hb hby d_prog_140_method_3_52)
  obtain ⟨T7, X7, e7, st7⟩ := getF X6 hx hZ hown (host := "") (Or.inl (w_58 hw)) Via.refl e6 F_a_m_nCount (g := (mkF mM 59 #[.val (.ref a), .val (.int r), .val (.int (Int32.ofNat w)), .unset, .unset, .unset] [(.ref a), (.int (2 : Int32)), (.int (8 : Int32)), (.ref ne)])) rfl rfl (hb hby d_prog_140_method_3_59)
  obtain ⟨_, _, ⟨T8, L8, k8, n8⟩, -, X8, ⟨Lc8, hQ8, l8, y8, z8⟩, st8⟩ := Jvm.LawKit.callS X7 hx (y := (⟨"java/lang/Math", "max", "(II)I"⟩ : MethodName)) hown (mvT hZ (w_65 hw)) (mvT hZ (w_66 hw)) (mvT hZ (w_67 hw)) (mvT hZ (w_68 hw)) (by decide) (backOf (W := 1) (rm_max l Z a0 hw [] (8 : Int32) (0 : Int32) h0 n0 O0 ) hZ (w_68 hw) (w_67 hw) (by decide) (by decide)) (g := (mkF mM 63 #[.val (.ref a), .val (.int r), .val (.int (Int32.ofNat w)), .unset, .unset, .unset] [(.int (0 : Int32)), (.int (8 : Int32)), (.ref ne)])) rfl (by rw [hml]; rfl) (argsL := [(.int (8 : Int32)), (.int (0 : Int32))]) (rest := [(.ref ne)]) (lenOf pd_1 rfl) rfl (by show 2 * 0 + _ ≤ _; exact Nat.le_of_eq rfl) (hb hby d_prog_140_method_3_63) (fun _ _ => ⟨rfl, e7, (by decide : 0 + 0 ≤ _), (by decide : 0 + 0 ≤ _)⟩)
  dsimp only [Pt.U, Pt.locs, Pt.cells, Pt.slots] at X8 l8 y8 z8 st8 hQ8
  subst l8 y8 z8
  obtain ⟨rfl, rfl, Kq8⟩ := hQ8
  try rw [List.append_nil] at X8
  obtain ⟨_, _, ⟨T9, L9, k9, n9⟩, -, X9, ⟨Lc9, hQ9, l9, y9, z9⟩, st9⟩ := Jvm.LawKit.callS X8 hx (y := (⟨"java/util/Arrays", "copyOf", "([II)[I"⟩ : MethodName)) hown (mvT hZ (w_69 hw)) (mvT hZ (w_70 hw)) (mvT hZ (w_71 hw)) (mvT hZ (w_72 hw)) (by decide) (backOf (W := 0) (rm_cp0 l Z a0 hw [] ne kne h0 n0 O0 V_ne) hZ (w_72 hw) (w_71 hw) (by decide) (by decide)) (g := (mkF mM 66 #[.val (.ref a), .val (.int r), .val (.int (Int32.ofNat w)), .unset, .unset, .unset] [(.int (8 : Int32)), (.ref ne)])) rfl (by rw [hml]; rfl) (argsL := [(.ref ne), (.int (8 : Int32))]) (rest := []) (lenOf pd_9 rfl) rfl (by show 2 * 0 + _ ≤ _; exact Nat.le_of_eq rfl) (hb hby d_prog_140_method_3_66) (fun _ _ => ⟨rfl, Kq8, (by decide : 0 + 1 ≤ _), (by decide : 0 + 8 ≤ _)⟩)
  dsimp only [Pt.U, Pt.locs, Pt.cells, Pt.slots] at X9 l9 y9 z9 st9 hQ9
  subst l9 y9 z9
  obtain ⟨b_9, kb_9, rfl, Nq9, Kq9, q9_0, q9_1⟩ := hQ9
  have N9 := Fr.app N0 Nq9
  have g_b_9 : n0 ≤ b_9 := Nat.le_trans (own_osz O0) q9_0
  have sz_b_9 : h0.size ≤ b_9 := Nat.le_trans K0.1 q9_0
  have K10 : Keep h0 T9.heap [] := K0.trans Kq9 all0
  have f11 := (F_a_m_nCount.keep Kq9 nin0)
  obtain ⟨T12, X12, e12, st12⟩ := getF X9 hx hZ hown (host := "") (Or.inl (w_58 hw)) Via.refl rfl f11 (g := (mkF mM 71 #[.val (.ref a), .val (.int r), .val (.int (Int32.ofNat w)), .val (.ref b_9), .unset, .unset] [(.ref a)])) rfl rfl (hb hby d_prog_140_method_3_71)
  obtain ⟨T13, h13, X13, e13, E13, A13, D13, -, st13⟩ := newO X12 hx hZ hown (w_81 hw) (w_82 hw) (w_83 hw) e12 (g := (mkF mM 76 #[.val (.ref a), .val (.int r), .val (.int (Int32.ofNat w)), .val (.ref b_9), .val (.int (0 : Int32)), .unset] [])) rfl (hb hby d_prog_140_method_3_76) (by decide) (by decide)
  obtain ⟨b13, g13⟩ : ∃ z, z = T9.heap.size := ⟨_, rfl⟩
  rw [← g13] at A13 D13 st13
  have f14 := (O0.keep Kq9 all0)
  have g_b13 : n0 ≤ b13 := Nat.le_trans (own_osz f14) (Nat.le_of_eq g13.symm)
  have sz_b13 : h0.size ≤ b13 := Nat.le_trans K10.1 (Nat.le_of_eq g13.symm)
  have K15 : Keep h0 h13 [] := K10.ext E13
  have F_b13_m_sText : Fld Z h13 b13 "com/example/resultwire/resultwire/er7/Pieces" "m_sText" "Ljava/lang/String;" .null := D13 (Or.inr (w_89 hw)) (ty := (.object "java/lang/String")) (by decide)
  have F_b13_m_nDelimiter : Fld Z h13 b13 "com/example/resultwire/resultwire/er7/Pieces" "m_nDelimiter" "I" (.int (0 : Int32)) := D13 (Or.inr (w_91 hw)) (ty := .int) (by decide)
  have F_b13_m_nTo : Fld Z h13 b13 "com/example/resultwire/resultwire/er7/Pieces" "m_nTo" "I" (.int (0 : Int32)) := D13 (Or.inr (w_93 hw)) (ty := .int) (by decide)
  have F_b13_m_nFrom : Fld Z h13 b13 "com/example/resultwire/resultwire/er7/Pieces" "m_nFrom" "I" (.int (0 : Int32)) := D13 (Or.inl (w_95 hw)) (ty := .int) (by decide)
  have F_b13_m_nStart : Fld Z h13 b13 "com/example/resultwire/resultwire/er7/Pieces" "m_nStart" "I" (.int (0 : Int32)) := D13 (Or.inl (w_97 hw)) (ty := .int) (by decide)
  have F_b13_m_nEnd : Fld Z h13 b13 "com/example/resultwire/resultwire/er7/Pieces" "m_nEnd" "I" (.int (0 : Int32)) := D13 (Or.inl (w_99 hw)) (ty := .int) (by decide)
  have F_b13_m_nNumber : Fld Z h13 b13 "com/example/resultwire/resultwire/er7/Pieces" "m_nNumber" "I" (.int (0 : Int32)) := D13 (Or.inl (w_125 hw)) (ty := .int) (by decide)
  have f16 := ((F_a_m_sText.keep Kq9 nin0).ext E13)
  obtain ⟨T17, X17, e17, st17⟩ := getF X13 hx hZ hown (host := "") (Or.inl (w_48 hw)) Via.refl e13 f16 (g := (mkF mM 81 #[.val (.ref a), .val (.int r), .val (.int (Int32.ofNat w)), .val (.ref b_9), .val (.int (0 : Int32)), .unset] [(.ref a), (.ref b13), (.ref b13)])) rfl rfl (hb hby d_prog_140_method_3_81)
  have f18 := ((F_a_m_nDelimiter.keep Kq9 nin0).ext E13)
  obtain ⟨T19, X19, e19, st19⟩ := getF X17 hx hZ hown (host := "") (Or.inl (w_50 hw)) Via.refl e17 f18 (g := (mkF mM 85 #[.val (.ref a), .val (.int r), .val (.int (Int32.ofNat w)), .val (.ref b_9), .val (.int (0 : Int32)), .unset] [(.ref a), (.ref x), (.ref b13), (.ref b13)])) rfl rfl (hb hby d_prog_140_method_3_85)
  have f20 := ((F_a_m_nFrom.keep Kq9 nin0).ext E13)
  obtain ⟨T21, X21, e21, st21⟩ := getF X19 hx hZ hown (host := "") (Or.inl (w_52 hw)) Via.refl e19 f20 (g := (mkF mM 94 #[.val (.ref a), .val (.int r), .val (.int (Int32.ofNat w)), .val (.ref b_9), .val (.int (0 : Int32)), .unset] [(.ref a), (.int d), (.ref x), (.ref b13), (.ref b13)])) rfl rfl (hb hby d_prog_140_method_3_94)
  have f22 := ((F_a_m_nTo.keep Kq9 nin0).ext E13)
  obtain ⟨T23, X23, e23, st23⟩ := getF X21 hx hZ hown (host := "") (Or.inl (w_54 hw)) Via.refl e21 f22 (g := (mkF mM 112 #[.val (.ref a), .val (.int r), .val (.int (Int32.ofNat w)), .val (.ref b_9), .val (.int (0 : Int32)), .unset] [(.ref a), (.int (Int32.ofNat f0)), (.int d), (.ref x), (.ref b13), (.ref b13)])) rfl rfl (hb hby d_prog_140_method_3_112)
  have f24 := (f14.ext E13)
  obtain ⟨_, _, ⟨T25, L25, k25, n25⟩, -, X25, ⟨Lc25, hQ25, l25, y25, z25⟩, st25⟩ := X23.specialBack hx (y := (⟨"com/example/resultwire/resultwire/er7/Pieces", "<init>", "(Ljava/lang/String;III)V"⟩ : MethodName)) rfl hown (mvT hZ (w_84 hw)) (mvT hZ (w_85 hw)) (mvT hZ (w_86 hw)) (by decide) (backOf (W := 1) (rm_pinit l Z a0 hw [] b13 x d (Int32.ofNat f0) (Int32.ofNat tt) .null (.int (0 : Int32)) (.int (0 : Int32)) (.int (0 : Int32)) (.int (0 : Int32)) (.int (0 : Int32)) h13 n0 f24 A13 F_b13_m_sText F_b13_m_nDelimiter F_b13_m_nTo F_b13_m_nFrom F_b13_m_nStart F_b13_m_nEnd F_b13_m_nNumber g_b13) hZ (w_86 hw) (w_83 hw) (by decide) (by decide)) (g := (mkF mM 115 #[.val (.ref a), .val (.int r), .val (.int (Int32.ofNat w)), .val (.ref b_9), .val (.int (0 : Int32)), .unset] [(.int (Int32.ofNat tt)), (.int (Int32.ofNat f0)), (.int d), (.ref x), (.ref b13), (.ref b13)])) rfl (by rw [hml]; rfl) (Steps.refl _) (a := b13) (argsL := [(.ref x), (.int d), (.int (Int32.ofNat f0)), (.int (Int32.ofNat tt))]) (rest := [(.ref b13)]) (lenOf pd_10 rfl) rfl (by show 2 * 0 + _ ≤ _; exact Nat.le_of_eq rfl) (hb hby d_prog_140_method_3_115) (fun _ _ => ⟨rfl, e23, (by decide : 2 + 0 ≤ _), (by decide : 15 + 0 ≤ _)⟩)
  dsimp only [Pt.U, Pt.locs, Pt.cells, Pt.slots] at X25 l25 y25 z25 st25 hQ25
  subst l25 y25 z25
  obtain ⟨rfl, Nq25, Kq25, q25_0, q25_1, q25_2, q25_3, q25_4, q25_5, q25_6, q25_7⟩ := hQ25
  have N25 := Fr.app N9 Nq25
  have K26 : Keep h0 T25.heap [] := K15.trans Kq25 (allS (Or.inr sz_b13) all0)
  have f28 := ((q9_1.ext E13).keep Kq25 (ninS (Nat.ne_of_lt (Nat.lt_of_lt_of_le (q9_1).lt (Nat.le_of_eq g13.symm))) nin0))
  have f29 := ((((Str_x).1.keep Kq9).ext E13).keep Kq25)
  have f30 := ((((Str_x).2.1.keep Kq9 nin0).ext E13).keep Kq25 (ninS (Nat.ne_of_lt (Nat.lt_of_lt_of_le (Nat.lt_of_lt_of_le ((Str_x).1).lt Kq9.1) (Nat.le_of_eq g13.symm))) nin0))
  have f31 := ((((Str_x).2.2.1.keep Kq9 nin0).ext E13).keep Kq25 (ninS (Nat.ne_of_lt (Nat.lt_of_lt_of_le (Nat.lt_of_lt_of_le ((Str_x).1).lt Kq9.1) (Nat.le_of_eq g13.symm))) nin0))
  have f32 := ((((Str_x).2.2.2.1.keep Kq9 nin0).ext E13).keep Kq25 (ninS (Nat.ne_of_lt (Nat.lt_of_lt_of_le (Nat.lt_of_lt_of_le ((Str_x).2.2.2.1).lt Kq9.1) (Nat.le_of_eq g13.symm))) nin0))
  have f33 := (f24.keep Kq25 (allS g_b13 all0))
  obtain ⟨T27, g27, L27, X27, N27, ⟨t4, kt4, z4, rfl, Kq27, q27_0, q27_1, q27_2⟩, st27⟩ := lp_re8 a x t kk cs d tt zc fm r w b13 hx hZ hw hby hml hown g_b13 S_COMPACT_STRINGS hp13 S_SIOOBE_FORMATTER hp15 hw1 hw2 (by have l4 := Str_x.2.2.2.2.1; omega) (tt + 1 - f0) f0 [] b_9 kb_9 (0 : Int32) (.int (Int32.ofNat f0)) (.int (Int32.ofNat f0)) X25 N25 f33 q25_0 q25_1 q25_2 q25_3 q25_4 q25_6 q25_5 q25_7 f28 g_b_9 (⟨f29, f30, f31, f32, (Str_x).2.2.2.2⟩ : own_Str Z T25.heap x t kk cs) (Nat.ne_of_lt (Nat.lt_of_lt_of_le (q9_1).lt (Nat.le_of_eq g13.symm))) (Nat.ne_of_lt (Nat.lt_of_lt_of_le ((Str_x).1).lt q9_0)) (Nat.ne_of_lt (Nat.lt_of_lt_of_le ((Str_x).2.2.2.1).lt q9_0)) (Nat.ne_of_lt (Nat.lt_of_lt_of_le (Nat.lt_of_lt_of_le ((Str_x).1).lt Kq9.1) (Nat.le_of_eq g13.symm))) (Nat.ne_of_lt (Nat.lt_of_lt_of_le (Nat.lt_of_lt_of_le ((Str_x).2.2.2.1).lt Kq9.1) (Nat.le_of_eq g13.symm))) (by omega) (by show 0 + _ ≤ _; omega) (by show 0 ≤ _; omega) (by omega)
  have K34 : Keep h0 T27.heap [] := K26.trans Kq27 (allS (Or.inr sz_b13) (allS (Or.inr sz_b_9) all0))
  obtain ⟨T35, h35, X35, e35, E35, A35, D35, -, st35⟩ := newO X27 hx hZ hown (w_131 hw) (w_37 hw) (w_38 hw) rfl (g := (mkF mM 170 #[.val (.ref a), .val (.int r), .val (.int (Int32.ofNat w)), .val (.ref t4), .val (.int (Int32.ofNat ((own_pcs cs d tt (tt + 1 - f0) f0).take w).length)), .val (.ref b13)] [])) rfl (hb hby d_prog_140_method_3_170) (by decide) (by decide)
  obtain ⟨b35, g35⟩ : ∃ z, z = T27.heap.size := ⟨_, rfl⟩
  rw [← g35] at A35 D35 st35
  have f36 := (f33.keep Kq27 (allS g_b13 (allS g_b_9 all0)))
  have g_b35 : n0 ≤ b35 := Nat.le_trans (own_osz f36) (Nat.le_of_eq g35.symm)
  have sz_b35 : h0.size ≤ b35 := Nat.le_trans K34.1 (Nat.le_of_eq g35.symm)
  have K37 : Keep h0 h35 [] := K34.ext E35
  have F_b35_m_sText : Fld Z h35 b35 "com/example/resultwire/resultwire/er7/PieceIndex" "m_sText" "Ljava/lang/String;" .null := D35 (Or.inr (w_49 hw)) (ty := (.object "java/lang/String")) (by decide)
  have F_b35_m_nDelimiter : Fld Z h35 b35 "com/example/resultwire/resultwire/er7/PieceIndex" "m_nDelimiter" "I" (.int (0 : Int32)) := D35 (Or.inr (w_51 hw)) (ty := .int) (by decide)
  have F_b35_m_nFrom : Fld Z h35 b35 "com/example/resultwire/resultwire/er7/PieceIndex" "m_nFrom" "I" (.int (0 : Int32)) := D35 (Or.inr (w_53 hw)) (ty := .int) (by decide)
  have F_b35_m_nTo : Fld Z h35 b35 "com/example/resultwire/resultwire/er7/PieceIndex" "m_nTo" "I" (.int (0 : Int32)) := D35 (Or.inr (w_55 hw)) (ty := .int) (by decide)
  have F_b35_m_aEnds : Fld Z h35 b35 "com/example/resultwire/resultwire/er7/PieceIndex" "m_aEnds" "[I" .null := D35 (Or.inr (w_57 hw)) (ty := (.array .int)) (by decide)
  have F_b35_m_nCount : Fld Z h35 b35 "com/example/resultwire/resultwire/er7/PieceIndex" "m_nCount" "I" (.int (0 : Int32)) := D35 (Or.inr (w_59 hw)) (ty := .int) (by decide)
  have f38 := (((f16.keep Kq25 (ninS (Nat.ne_of_lt (Nat.lt_of_lt_of_le (Nat.lt_of_lt_of_le (F_a_m_sText).lt Kq9.1) (Nat.le_of_eq g13.symm))) nin0)).keep Kq27 (ninS (Nat.ne_of_lt (Nat.lt_of_lt_of_le (Nat.lt_of_lt_of_le (F_a_m_sText).lt Kq9.1) (Nat.le_of_eq g13.symm))) (ninS (Nat.ne_of_lt (Nat.lt_of_lt_of_le (F_a_m_sText).lt q9_0)) nin0))).ext E35)
  obtain ⟨T39, X39, e39, st39⟩ := getF X35 hx hZ hown (host := "") (Or.inl (w_48 hw)) Via.refl e35 f38 (g := (mkF mM 175 #[.val (.ref a), .val (.int r), .val (.int (Int32.ofNat w)), .val (.ref t4), .val (.int (Int32.ofNat ((own_pcs cs d tt (tt + 1 - f0) f0).take w).length)), .val (.ref b13)] [(.ref a), (.ref b35), (.ref b35)])) rfl rfl (hb hby d_prog_140_method_3_175)
  have f40 := (((f18.keep Kq25 (ninS (Nat.ne_of_lt (Nat.lt_of_lt_of_le (Nat.lt_of_lt_of_le (F_a_m_sText).lt Kq9.1) (Nat.le_of_eq g13.symm))) nin0)).keep Kq27 (ninS (Nat.ne_of_lt (Nat.lt_of_lt_of_le (Nat.lt_of_lt_of_le (F_a_m_sText).lt Kq9.1) (Nat.le_of_eq g13.symm))) (ninS (Nat.ne_of_lt (Nat.lt_of_lt_of_le (F_a_m_sText).lt q9_0)) nin0))).ext E35)
  obtain ⟨T41, X41, e41, st41⟩ := getF X39 hx hZ hown (host := "") (Or.inl (w_50 hw)) Via.refl e39 f40 (g := (mkF mM 179 #[.val (.ref a), .val (.int r), .val (.int (Int32.ofNat w)), .val (.ref t4), .val (.int (Int32.ofNat ((own_pcs cs d tt (tt + 1 - f0) f0).take w).length)), .val (.ref b13)] [(.ref a), (.ref x), (.ref b35), (.ref b35)])) rfl rfl (hb hby d_prog_140_method_3_179)
  have f42 := (((f20.keep Kq25 (ninS (Nat.ne_of_lt (Nat.lt_of_lt_of_le (Nat.lt_of_lt_of_le (F_a_m_sText).lt Kq9.1) (Nat.le_of_eq g13.symm))) nin0)).keep Kq27 (ninS (Nat.ne_of_lt (Nat.lt_of_lt_of_le (Nat.lt_of_lt_of_le (F_a_m_sText).lt Kq9.1) (Nat.le_of_eq g13.symm))) (ninS (Nat.ne_of_lt (Nat.lt_of_lt_of_le (F_a_m_sText).lt q9_0)) nin0))).ext E35)
  obtain ⟨T43, X43, e43, st43⟩ := getF X41 hx hZ hown (host := "") (Or.inl (w_52 hw)) Via.refl e41 f42 (g := (mkF mM 183 #[.val (.ref a), .val (.int r), .val (.int (Int32.ofNat w)), .val (.ref t4), .val (.int (Int32.ofNat ((own_pcs cs d tt (tt + 1 - f0) f0).take w).length)), .val (.ref b13)] [(.ref a), (.int d), (.ref x), (.ref b35), (.ref b35)])) rfl rfl (hb hby d_prog_140_method_3_183)
  have f44 := (((f22.keep Kq25 (ninS (Nat.ne_of_lt (Nat.lt_of_lt_of_le (Nat.lt_of_lt_of_le (F_a_m_sText).lt Kq9.1) (Nat.le_of_eq g13.symm))) nin0)).keep Kq27 (ninS (Nat.ne_of_lt (Nat.lt_of_lt_of_le (Nat.lt_of_lt_of_le (F_a_m_sText).lt Kq9.1) (Nat.le_of_eq g13.symm))) (ninS (Nat.ne_of_lt (Nat.lt_of_lt_of_le (F_a_m_sText).lt q9_0)) nin0))).ext E35)
  obtain ⟨T45, X45, e45, st45⟩ := getF X43 hx hZ hown (host := "") (Or.inl (w_54 hw)) Via.refl e43 f44 (g := (mkF mM 187 #[.val (.ref a), .val (.int r), .val (.int (Int32.ofNat w)), .val (.ref t4), .val (.int (Int32.ofNat ((own_pcs cs d tt (tt + 1 - f0) f0).take w).length)), .val (.ref b13)] [(.ref a), (.int (Int32.ofNat f0)), (.int d), (.ref x), (.ref b35), (.ref b35)])) rfl rfl (hb hby d_prog_140_method_3_187)
  have f46 := (f36.ext E35)
  obtain ⟨_, _, ⟨T47, L47, k47, n47⟩, -, X47, ⟨Lc47, hQ47, l47, y47, z47⟩, st47⟩ := X45.specialBack hx (y := (⟨"com/example/resultwire/resultwire/er7/PieceIndex", "<init>", "(Ljava/lang/String;III[II)V"⟩ : MethodName)) rfl hown (mvT hZ (w_44 hw)) (mvT hZ (w_45 hw)) (mvT hZ (w_46 hw)) (by decide) (backOf (W := 1) (rm_pi2 l Z a0 hw [] b35 x d (Int32.ofNat f0) (Int32.ofNat tt) t4 (Int32.ofNat ((own_pcs cs d tt (tt + 1 - f0) f0).take w).length) .null (.int (0 : Int32)) (.int (0 : Int32)) (.int (0 : Int32)) .null (.int (0 : Int32)) h35 n0 f46 A35 F_b35_m_sText F_b35_m_nDelimiter F_b35_m_nFrom F_b35_m_nTo F_b35_m_aEnds F_b35_m_nCount g_b35) hZ (w_46 hw) (w_38 hw) (by decide) (by decide)) (g := (mkF mM 193 #[.val (.ref a), .val (.int r), .val (.int (Int32.ofNat w)), .val (.ref t4), .val (.int (Int32.ofNat ((own_pcs cs d tt (tt + 1 - f0) f0).take w).length)), .val (.ref b13)] [(.int (Int32.ofNat ((own_pcs cs d tt (tt + 1 - f0) f0).take w).length)), (.ref t4), (.int (Int32.ofNat tt)), (.int (Int32.ofNat f0)), (.int d), (.ref x), (.ref b35), (.ref b35)])) rfl (by rw [hml]; rfl) (Steps.refl _) (a := b35) (argsL := [(.ref x), (.int d), (.int (Int32.ofNat f0)), (.int (Int32.ofNat tt)), (.ref t4), (.int (Int32.ofNat ((own_pcs cs d tt (tt + 1 - f0) f0).take w).length))]) (rest := [(.ref b35)]) (lenOf pd_7 rfl) rfl (by show 2 * 0 + _ ≤ _; exact Nat.le_of_eq rfl) (hb hby d_prog_140_method_3_193) (fun _ _ => ⟨rfl, e45, (by decide : 4 + 0 ≤ _), (by decide : 37 + 0 ≤ _)⟩)
  dsimp only [Pt.U, Pt.locs, Pt.cells, Pt.slots] at X47 l47 y47 z47 st47 hQ47
  subst l47 y47 z47
  obtain ⟨rfl, Nq47, Kq47, q47_0, q47_1, q47_2, q47_3, q47_4, q47_5, q47_6⟩ := hQ47
  have N47 := Fr.app N27 Nq47
  have K48 : Keep h0 T47.heap [] := K37.trans Kq47 (allS (Or.inr sz_b35) all0)
  have f50 := ((q27_0.ext E35).keep Kq47 (ninS (Nat.ne_of_lt (Nat.lt_of_lt_of_le (q27_0).lt (Nat.le_of_eq g35.symm))) nin0))
  obtain ⟨fs, hr, hrun, hended, hW, hsame⟩ := X47.leave (v := some (.ref b35)) (fun h => by rw [Bd.returns] at h; cases h)
  refine ⟨_, _, pre0 _ ?_, hrun, hended, _, _, rfl, ?_, ⟨_, rfl⟩, hW, hsame.mono (by decide) (by decide)⟩
  · refine XS.iloadN X0.here hx rfl (hb hby d_prog_140_method_3_0) rfl ?_
    show Steps pP.tables eE below (s₁.setTop (mkF mM 1 #[.val (.ref a), .val (.int r), .unset, .unset, .unset, .unset] [(.int r)])) _
    refine XS.aloadN X0.here hx rfl (hb hby d_prog_140_method_3_1) rfl rfl ?_
    show Steps pP.tables eE below (s₁.setTop (mkF mM 2 #[.val (.ref a), .val (.int r), .unset, .unset, .unset, .unset] [(.ref a), (.int r)])) _
    refine st1 _ ?_
    show Steps pP.tables eE below (T1.setTop (mkF mM 5 #[.val (.ref a), .val (.int r), .unset, .unset, .unset, .unset] [(.int (0 : Int32)), (.int r)])) _
    refine XS.icmpNo X1.here hx rfl (hb hby d_prog_140_method_3_5) rfl (tlt hp9).2.2.2 ?_
    show Steps pP.tables eE below (T1.setTop (mkF mM 8 #[.val (.ref a), .val (.int r), .unset, .unset, .unset, .unset] [])) _
    refine XS.aloadN X1.here hx rfl (hb hby d_prog_140_method_3_8) rfl rfl ?_
    show Steps pP.tables eE below (T1.setTop (mkF mM 9 #[.val (.ref a), .val (.int r), .unset, .unset, .unset, .unset] [(.ref a)])) _
    refine st2 _ ?_
    show Steps pP.tables eE below (T2.setTop (mkF mM 12 #[.val (.ref a), .val (.int r), .unset, .unset, .unset, .unset] [(.int (0 : Int32))])) _
    refine XS.ifYes X2.here hx rfl (pc0 := 12) (pc' := 35) rfl (hb hby d_prog_140_method_3_12) rfl ((if0 _ _).trans (flt (by decide : ¬ ((0 : Int32) < (0 : Int32)))).2.2.2) (by decide) (by decide) ?_
    show Steps pP.tables eE below (T2.setTop (mkF mM 35 #[.val (.ref a), .val (.int r), .unset, .unset, .unset, .unset] [])) _
    refine XS.iloadN X2.here hx rfl (hb hby d_prog_140_method_3_35) rfl ?_
    show Steps pP.tables eE below (T2.setTop (mkF mM 36 #[.val (.ref a), .val (.int r), .unset, .unset, .unset, .unset] [(.int r)])) _
    refine XS.bipush X2.here hx rfl (hb hby d_prog_140_method_3_36) ?_
    show Steps pP.tables eE below (T2.setTop (mkF mM 38 #[.val (.ref a), .val (.int r), .unset, .unset, .unset, .unset] [(.int (8 : Int32)), (.int r)])) _
    refine XS.iconst X2.here hx rfl (hb hby d_prog_140_method_3_38) ?_
    show Steps pP.tables eE below (T2.setTop (mkF mM 39 #[.val (.ref a), .val (.int r), .unset, .unset, .unset, .unset] [(.int (2 : Int32)), (.int (8 : Int32)), (.int r)])) _
    refine XS.aloadN X2.here hx rfl (hb hby d_prog_140_method_3_39) rfl rfl ?_
    show Steps pP.tables eE below (T2.setTop (mkF mM 40 #[.val (.ref a), .val (.int r), .unset, .unset, .unset, .unset] [(.ref a), (.int (2 : Int32)), (.int (8 : Int32)), (.int r)])) _
    refine st3 _ ?_
    show Steps pP.tables eE below (T3.setTop (mkF mM 43 #[.val (.ref a), .val (.int r), .unset, .unset, .unset, .unset] [(.int (0 : Int32)), (.int (2 : Int32)), (.int (8 : Int32)), (.int r)])) _
    refine XS.imul X3.here hx rfl (hb hby d_prog_140_method_3_43) rfl ?_
    show Steps pP.tables eE below (T3.setTop (mkF mM 44 #[.val (.ref a), .val (.int r), .unset, .unset, .unset, .unset] [(.int (0 : Int32)), (.int (8 : Int32)), (.int r)])) _
    refine st4 _ ?_
    show Steps pP.tables eE below (T4.setTop (mkF mM 47 #[.val (.ref a), .val (.int r), .unset, .unset, .unset, .unset] [(.int (own_max (8 : Int32) (0 : Int32))), (.int r)])) _
    rw [show own_max (8 : Int32) (0 : Int32) = (8 : Int32) from by decide]
    show Steps pP.tables eE below (T4.setTop (mkF mM 47 #[.val (.ref a), .val (.int r), .unset, .unset, .unset, .unset] [(.int (8 : Int32)), (.int r)])) _
    refine st5 _ ?_
    show Steps pP.tables eE below (T5.setTop (mkF mM 50 #[.val (.ref a), .val (.int r), .unset, .unset, .unset, .unset] [(.int (own_max r (8 : Int32)))])) _
    rw [ew]
    show Steps pP.tables eE below (T5.setTop (mkF mM 50 #[.val (.ref a), .val (.int r), .unset, .unset, .unset, .unset] [(.int (Int32.ofNat w))])) _
    refine XS.istoreN X5.here hx rfl (hb hby d_prog_140_method_3_50) rfl (l' := #[.val (.ref a), .val (.int r), .val (.int (Int32.ofNat w)), .unset, .unset, .unset]) rfl ?_
    show Steps pP.tables eE below (T5.setTop (mkF mM 51 #[.val (.ref a), .val (.int r), .val (.int (Int32.ofNat w)), .unset, .unset, .unset] [])) _
    refine XS.aloadN X5.here hx rfl (hb hby d_prog_140_method_3_51) rfl rfl ?_
    show Steps pP.tables eE below (T5.setTop (mkF mM 52 #[.val (.ref a), .val (.int r), .val (.int (Int32.ofNat w)), .unset, .unset, .unset] [(.ref a)])) _
    refine st6 _ ?_
    show Steps pP.tables eE below (T6.setTop (mkF mM 55 #[.val (.ref a), .val (.int r), .val (.int (Int32.ofNat w)), .unset, .unset, .unset] [(.ref ne)])) _
    refine XS.bipush X6.here hx rfl (hb hby d_prog_140_method_3_55) ?_
    show Steps pP.tables eE below (T6.setTop (mkF mM 57 #[.val (.ref a), .val (.int r), .val (.int (Int32.ofNat w)), .unset, .unset, .unset] [(.int (8 : Int32)), (.ref ne)])) _
    refine XS.iconst X6.here hx rfl (hb hby d_prog_140_method_3_57) ?_
    show Steps pP.tables eE below (T6.setTop (mkF mM 58 #[.val (.ref a), .val (.int r), .val (.int (Int32.ofNat w)), .unset, .unset, .unset] [(.int (2 : Int32)), (.int (8 : Int32)), (.ref ne)])) _
    refine XS.aloadN X6.here hx rfl (hb hby d_prog_140_method_3_58) rfl rfl ?_
    show Steps pP.tables eE below (T6.setTop (mkF mM 59 #[.val (.ref a), .val (.int r), .val (.int (Int32.ofNat w)), .unset, .unset, .unset] [(.ref a), (.int (2 : Int32)), (.int (8 : Int32)), (.ref ne)])) _
    refine st7 _ ?_
    show Steps pP.tables eE below (T7.setTop (mkF mM 62 #[.val (.ref a), .val (.int r), .val (.int (Int32.ofNat w)), .unset, .unset, .unset] [(.int (0 : Int32)), (.int (2 : Int32)), (.int (8 : Int32)), (.ref ne)])) _
    refine XS.imul X7.here hx rfl (hb hby d_prog_140_method_3_62) rfl ?_
    show Steps pP.tables eE below (T7.setTop (mkF mM 63 #[.val (.ref a), .val (.int r), .val (.int (Int32.ofNat w)), .unset, .unset, .unset] [(.int (0 : Int32)), (.int (8 : Int32)), (.ref ne)])) _
    refine st8 _ ?_
    show Steps pP.tables eE below (T8.setTop (mkF mM 66 #[.val (.ref a), .val (.int r), .val (.int (Int32.ofNat w)), .unset, .unset, .unset] [(.int (own_max (8 : Int32) (0 : Int32))), (.ref ne)])) _
    rw [show own_max (8 : Int32) (0 : Int32) = (8 : Int32) from by decide]
    show Steps pP.tables eE below (T8.setTop (mkF mM 66 #[.val (.ref a), .val (.int r), .val (.int (Int32.ofNat w)), .unset, .unset, .unset] [(.int (8 : Int32)), (.ref ne)])) _
    refine st9 _ ?_
    show Steps pP.tables eE below (T9.setTop (mkF mM 69 #[.val (.ref a), .val (.int r), .val (.int (Int32.ofNat w)), .unset, .unset, .unset] [(.ref b_9)])) _
    refine XS.astoreN X9.here hx rfl (hb hby d_prog_140_method_3_69) rfl rfl (l' := #[.val (.ref a), .val (.int r), .val (.int (Int32.ofNat w)), .val (.ref b_9), .unset, .unset]) rfl ?_
    show Steps pP.tables eE below (T9.setTop (mkF mM 70 #[.val (.ref a), .val (.int r), .val (.int (Int32.ofNat w)), .val (.ref b_9), .unset, .unset] [])) _
    refine XS.aloadN X9.here hx rfl (hb hby d_prog_140_method_3_70) rfl rfl ?_
    show Steps pP.tables eE below (T9.setTop (mkF mM 71 #[.val (.ref a), .val (.int r), .val (.int (Int32.ofNat w)), .val (.ref b_9), .unset, .unset] [(.ref a)])) _
    refine st12 _ ?_
    show Steps pP.tables eE below (T12.setTop (mkF mM 74 #[.val (.ref a), .val (.int r), .val (.int (Int32.ofNat w)), .val (.ref b_9), .unset, .unset] [(.int (0 : Int32))])) _
    refine XS.istore X12.here hx rfl (hb hby d_prog_140_method_3_74) rfl (l' := #[.val (.ref a), .val (.int r), .val (.int (Int32.ofNat w)), .val (.ref b_9), .val (.int (0 : Int32)), .unset]) rfl ?_
    show Steps pP.tables eE below (T12.setTop (mkF mM 76 #[.val (.ref a), .val (.int r), .val (.int (Int32.ofNat w)), .val (.ref b_9), .val (.int (0 : Int32)), .unset] [])) _
    refine st13 _ ?_
    show Steps pP.tables eE below (T13.setTop (mkF mM 79 #[.val (.ref a), .val (.int r), .val (.int (Int32.ofNat w)), .val (.ref b_9), .val (.int (0 : Int32)), .unset] [(.ref b13)])) _
    refine XS.dup X13.here hx rfl (hb hby d_prog_140_method_3_79) rfl rfl ?_
    show Steps pP.tables eE below (T13.setTop (mkF mM 80 #[.val (.ref a), .val (.int r), .val (.int (Int32.ofNat w)), .val (.ref b_9), .val (.int (0 : Int32)), .unset] [(.ref b13), (.ref b13)])) _
    refine XS.aloadN X13.here hx rfl (hb hby d_prog_140_method_3_80) rfl rfl ?_
    show Steps pP.tables eE below (T13.setTop (mkF mM 81 #[.val (.ref a), .val (.int r), .val (.int (Int32.ofNat w)), .val (.ref b_9), .val (.int (0 : Int32)), .unset] [(.ref a), (.ref b13), (.ref b13)])) _
    refine st17 _ ?_
    show Steps pP.tables eE below (T17.setTop (mkF mM 84 #[.val (.ref a), .val (.int r), .val (.int (Int32.ofNat w)), .val (.ref b_9), .val (.int (0 : Int32)), .unset] [(.ref x), (.ref b13), (.ref b13)])) _
    refine XS.aloadN X17.here hx rfl (hb hby d_prog_140_method_3_84) rfl rfl ?_
    show Steps pP.tables eE below (T17.setTop (mkF mM 85 #[.val (.ref a), .val (.int r), .val (.int (Int32.ofNat w)), .val (.ref b_9), .val (.int (0 : Int32)), .unset] [(.ref a), (.ref x), (.ref b13), (.ref b13)])) _
    refine st19 _ ?_
    show Steps pP.tables eE below (T19.setTop (mkF mM 88 #[.val (.ref a), .val (.int r), .val (.int (Int32.ofNat w)), .val (.ref b_9), .val (.int (0 : Int32)), .unset] [(.int d), (.ref x), (.ref b13), (.ref b13)])) _
    refine XS.iload X19.here hx rfl (hb hby d_prog_140_method_3_88) rfl ?_
    show Steps pP.tables eE below (T19.setTop (mkF mM 90 #[.val (.ref a), .val (.int r), .val (.int (Int32.ofNat w)), .val (.ref b_9), .val (.int (0 : Int32)), .unset] [(.int (0 : Int32)), (.int d), (.ref x), (.ref b13), (.ref b13)])) _
    refine XS.ifNo X19.here hx rfl (hb hby d_prog_140_method_3_90) rfl ((if0 _ _).trans (teq (by decide : (0 : Int32) = (0 : Int32))).2) ?_
    show Steps pP.tables eE below (T19.setTop (mkF mM 93 #[.val (.ref a), .val (.int r), .val (.int (Int32.ofNat w)), .val (.ref b_9), .val (.int (0 : Int32)), .unset] [(.int d), (.ref x), (.ref b13), (.ref b13)])) _
    refine XS.aloadN X19.here hx rfl (hb hby d_prog_140_method_3_93) rfl rfl ?_
    show Steps pP.tables eE below (T19.setTop (mkF mM 94 #[.val (.ref a), .val (.int r), .val (.int (Int32.ofNat w)), .val (.ref b_9), .val (.int (0 : Int32)), .unset] [(.ref a), (.int d), (.ref x), (.ref b13), (.ref b13)])) _
    refine st21 _ ?_
    show Steps pP.tables eE below (T21.setTop (mkF mM 97 #[.val (.ref a), .val (.int r), .val (.int (Int32.ofNat w)), .val (.ref b_9), .val (.int (0 : Int32)), .unset] [(.int (Int32.ofNat f0)), (.int d), (.ref x), (.ref b13), (.ref b13)])) _
    refine XS.goto X21.here hx rfl (pc0 := 97) (pc' := 111) rfl (hb hby d_prog_140_method_3_97) (by decide) (by decide) ?_
    show Steps pP.tables eE below (T21.setTop (mkF mM 111 #[.val (.ref a), .val (.int r), .val (.int (Int32.ofNat w)), .val (.ref b_9), .val (.int (0 : Int32)), .unset] [(.int (Int32.ofNat f0)), (.int d), (.ref x), (.ref b13), (.ref b13)])) _
    refine XS.aloadN X21.here hx rfl (hb hby d_prog_140_method_3_111) rfl rfl ?_
    show Steps pP.tables eE below (T21.setTop (mkF mM 112 #[.val (.ref a), .val (.int r), .val (.int (Int32.ofNat w)), .val (.ref b_9), .val (.int (0 : Int32)), .unset] [(.ref a), (.int (Int32.ofNat f0)), (.int d), (.ref x), (.ref b13), (.ref b13)])) _
    refine st23 _ ?_
    show Steps pP.tables eE below (T23.setTop (mkF mM 115 #[.val (.ref a), .val (.int r), .val (.int (Int32.ofNat w)), .val (.ref b_9), .val (.int (0 : Int32)), .unset] [(.int (Int32.ofNat tt)), (.int (Int32.ofNat f0)), (.int d), (.ref x), (.ref b13), (.ref b13)])) _
    refine st25.trans ?_
    show Steps pP.tables eE below (T25.setTop (mkF mM 118 #[.val (.ref a), .val (.int r), .val (.int (Int32.ofNat w)), .val (.ref b_9), .val (.int (0 : Int32)), .unset] [(.ref b13)])) _
    refine XS.astore X25.here hx rfl (hb hby d_prog_140_method_3_118) rfl rfl (l' := #[.val (.ref a), .val (.int r), .val (.int (Int32.ofNat w)), .val (.ref b_9), .val (.int (0 : Int32)), .val (.ref b13)]) rfl ?_
    show Steps pP.tables eE below (T25.setTop (mkF mM 120 #[.val (.ref a), .val (.int r), .val (.int (Int32.ofNat w)), .val (.ref b_9), .val (.int (0 : Int32)), .val (.ref b13)] [])) _
    refine st27 _ ?_
    show Steps pP.tables eE below (T27.setTop (mkF mM 170 #[.val (.ref a), .val (.int r), .val (.int (Int32.ofNat w)), .val (.ref t4), .val (.int (Int32.ofNat ((own_pcs cs d tt (tt + 1 - f0) f0).take w).length)), .val (.ref b13)] [])) _
    refine st35 _ ?_
    show Steps pP.tables eE below (T35.setTop (mkF mM 173 #[.val (.ref a), .val (.int r), .val (.int (Int32.ofNat w)), .val (.ref t4), .val (.int (Int32.ofNat ((own_pcs cs d tt (tt + 1 - f0) f0).take w).length)), .val (.ref b13)] [(.ref b35)])) _
    refine XS.dup X35.here hx rfl (hb hby d_prog_140_method_3_173) rfl rfl ?_
    show Steps pP.tables eE below (T35.setTop (mkF mM 174 #[.val (.ref a), .val (.int r), .val (.int (Int32.ofNat w)), .val (.ref t4), .val (.int (Int32.ofNat ((own_pcs cs d tt (tt + 1 - f0) f0).take w).length)), .val (.ref b13)] [(.ref b35), (.ref b35)])) _
    refine XS.aloadN X35.here hx rfl (hb hby d_prog_140_method_3_174) rfl rfl ?_
    show Steps pP.tables eE below (T35.setTop (mkF mM 175 #[.val (.ref a), .val (.int r), .val (.int (Int32.ofNat w)), .val (.ref t4), .val (.int (Int32.ofNat ((own_pcs cs d tt (tt + 1 - f0) f0).take w).length)), .val (.ref b13)] [(.ref a), (.ref b35), (.ref b35)])) _
    refine st39 _ ?_
    show Steps pP.tables eE below (T39.setTop (mkF mM 178 #[.val (.ref a), .val (.int r), .val (.int (Int32.ofNat w)), .val (.ref t4), .val (.int (Int32.ofNat ((own_pcs cs d tt (tt + 1 - f0) f0).take w).length)), .val (.ref b13)] [(.ref x), (.ref b35), (.ref b35)])) _
    refine XS.aloadN X39.here hx rfl (hb hby d_prog_140_method_3_178) rfl rfl ?_
    show Steps pP.tables eE below (T39.setTop (mkF mM 179 #[.val (.ref a), .val (.int r), .val (.int (Int32.ofNat w)), .val (.ref t4), .val (.int (Int32.ofNat ((own_pcs cs d tt (tt + 1 - f0) f0).take w).length)), .val (.ref b13)] [(.ref a), (.ref x), (.ref b35), (.ref b35)])) _
    refine st41 _ ?_
    show Steps pP.tables eE below (T41.setTop (mkF mM 182 #[.val (.ref a), .val (.int r), .val (.int (Int32.ofNat w)), .val (.ref t4), .val (.int (Int32.ofNat ((own_pcs cs d tt (tt + 1 - f0) f0).take w).length)), .val (.ref b13)] [(.int d), (.ref x), (.ref b35), (.ref b35)])) _
    refine XS.aloadN X41.here hx rfl (hb hby d_prog_140_method_3_182) rfl rfl ?_
    show Steps pP.tables eE below (T41.setTop (mkF mM 183 #[.val (.ref a), .val (.int r), .val (.int (Int32.ofNat w)), .val (.ref t4), .val (.int (Int32.ofNat ((own_pcs cs d tt (tt + 1 - f0) f0).take w).length)), .val (.ref b13)] [(.ref a), (.int d), (.ref x), (.ref b35), (.ref b35)])) _
    refine st43 _ ?_
    show Steps pP.tables eE below (T43.setTop (mkF mM 186 #[.val (.ref a), .val (.int r), .val (.int (Int32.ofNat w)), .val (.ref t4), .val (.int (Int32.ofNat ((own_pcs cs d tt (tt + 1 - f0) f0).take w).length)), .val (.ref b13)] [(.int (Int32.ofNat f0)), (.int d), (.ref x), (.ref b35), (.ref b35)])) _
    refine XS.aloadN X43.here hx rfl (hb hby d_prog_140_method_3_186) rfl rfl ?_
    show Steps pP.tables eE below (T43.setTop (mkF mM 187 #[.val (.ref a), .val (.int r), .val (.int (Int32.ofNat w)), .val (.ref t4), .val (.int (Int32.ofNat ((own_pcs cs d tt (tt + 1 - f0) f0).take w).length)), .val (.ref b13)] [(.ref a), (.int (Int32.ofNat f0)), (.int d), (.ref x), (.ref b35), (.ref b35)])) _
    refine st45 _ ?_
    show Steps pP.tables eE below (T45.setTop (mkF mM 190 #[.val (.ref a), .val (.int r), .val (.int (Int32.ofNat w)), .val (.ref t4), .val (.int (Int32.ofNat ((own_pcs cs d tt (tt + 1 - f0) f0).take w).length)), .val (.ref b13)] [(.int (Int32.ofNat tt)), (.int (Int32.ofNat f0)), (.int d), (.ref x), (.ref b35), (.ref b35)])) _
    refine XS.aloadN X45.here hx rfl (hb hby d_prog_140_method_3_190) rfl rfl ?_
    show Steps pP.tables eE below (T45.setTop (mkF mM 191 #[.val (.ref a), .val (.int r), .val (.int (Int32.ofNat w)), .val (.ref t4), .val (.int (Int32.ofNat ((own_pcs cs d tt (tt + 1 - f0) f0).take w).length)), .val (.ref b13)] [(.ref t4), (.int (Int32.ofNat tt)), (.int (Int32.ofNat f0)), (.int d), (.ref x), (.ref b35), (.ref b35)])) _
    refine XS.iload X45.here hx rfl (hb hby d_prog_140_method_3_191) rfl ?_
    show Steps pP.tables eE below (T45.setTop (mkF mM 193 #[.val (.ref a), .val (.int r), .val (.int (Int32.ofNat w)), .val (.ref t4), .val (.int (Int32.ofNat ((own_pcs cs d tt (tt + 1 - f0) f0).take w).length)), .val (.ref b13)] [(.int (Int32.ofNat ((own_pcs cs d tt (tt + 1 - f0) f0).take w).length)), (.ref t4), (.int (Int32.ofNat tt)), (.int (Int32.ofNat f0)), (.int d), (.ref x), (.ref b35), (.ref b35)])) _
    refine st47.trans ?_
    show Steps pP.tables eE below (T47.setTop (mkF mM 196 #[.val (.ref a), .val (.int r), .val (.int (Int32.ofNat w)), .val (.ref t4), .val (.int (Int32.ofNat ((own_pcs cs d tt (tt + 1 - f0) f0).take w).length)), .val (.ref b13)] [(.ref b35)])) _
    jvm_step X47.here [X47.here.top, hx, (hb hby d_prog_140_method_3_196), X47.method', Bd.returns, Value.isRef, FieldType.isReference]
    first | (intro acts; rw [hr _ acts rfl rfl rfl]) | rw [hr _ _ rfl rfl rfl]
    exact Steps.refl _
  · show Q_reach1 Z a r x t kk cs d f0 tt ne kne zc fm h0 n0 _ T47.heap _
    exact ⟨b35, t4, kt4, z4, w, rfl, N47, K48, sz_b35, q47_0, q47_1, q47_2, q47_3, q47_4, q47_5, q47_6, f50, ⟨hw2, hw1, hwr⟩, q27_2⟩
theorem ef_endc (m : MethodId) (x0 : Addr) (x1 : Int32) : entryFrame m #[(.ref x0), (.int x1)] 2 = mkF m 0 #[.val (.ref x0), .val (.int x1)] [] := by first | (simp [entryFrame, mkF, argsToLocals, Value.category]; done) | rfl
def Q_endc (Z : State) (a : Addr) (n : Int32) (ff : Int32) (q : Int32) (t4 : Addr) (kt : ClassId) (z : Int32) (es : List Nat) (h0 : Heap) (n0 : Nat) (vV : Option Value) (h : Heap) (LL : List Loc) : Prop := vV = some (.int (own_fin n q es)) ∧ LL = [] ∧ h = h0
set_option maxRecDepth 65536 in
set_option maxHeartbeats 40000000 in
theorem rm_endc (l : Launch) (Z : State) (a0 : Array Value) (hw : ∀ d ∈ tables_1, d.before a0 Z = true) (ws : List Jvm.Cond) (a : Addr) (n : Int32) (ff : Int32) (q : Int32) (t4 : Addr) (kt : ClassId) (z : Int32) (es : List Nat) (h0 : Heap) (n0 : Nat) (O0 : Old Z n0 h0) (F_a_m_nFrom : Fld Z h0 a "com/example/resultwire/resultwire/er7/PieceIndex" "m_nFrom" "I" (.int ff)) (F_a_m_nTo : Fld Z h0 a "com/example/resultwire/resultwire/er7/PieceIndex" "m_nTo" "I" (.int q)) (F_a_m_aEnds : Fld Z h0 a "com/example/resultwire/resultwire/er7/PieceIndex" "m_aEnds" "[I" (.ref t4)) (F_a_m_nCount : Fld Z h0 a "com/example/resultwire/resultwire/er7/PieceIndex" "m_nCount" "I" (.int (Int32.ofNat es.length))) (V_t4 : Arv Z h0 t4 kt .int z (own_iv es) (.int (0 : Int32))) (hp5 : (es.length ≤ z.toNatClampNeg ∧ ¬ z < 0)) :
    MetFree l (⟨"com/example/resultwire/resultwire/er7/PieceIndex", "end", "(I)I"⟩ : MethodName) (head1 (Jvm.Cond.code (⟨"com/example/resultwire/resultwire/er7/PieceIndex", "end", "(I)I"⟩ : MethodName) prog_140_method_5_code 2 (some .int) :: ws) ({ frames := 0, cells := 0, slots := 0, locals := 0 } : Room)) (fun aa_ U => aa_ = #[(.ref a), (.int n)] ∧ Z.Warmed39 U.vm ∧ U.heap = h0) (fun _ _ _ _ _ => True) (fun _ U o U' => ∃ vV LL, o = .returned vV ∧ Q_endc Z a n ff q t4 kt z es h0 n0 vV U'.heap LL ∧ FrameEnd U o U' LL ({ frames := 0, cells := 0, slots := 0, locals := 0 } : Room).cells ({ frames := 0, cells := 0, slots := 0, locals := 0 } : Room).slots) := by
  refine MetFree.of_bodySF (plainFor_of_name pn_3) hisR ?_
  intro pP eE sS mM args below meth cC s₁ Bd hml0 hP hK
  obtain ⟨rfl, hZ, hh⟩ := hP
  have hx := Bd.exec
  have hby := Bd.bytes
  have hml : cC.maxLocals = 2 := hml0
  have hown : sS.vm.findClass "com/example/resultwire/resultwire/er7/PieceIndex" = some mM.cls := findClass_of_methodNamed Bd.named
  have hnm := (name_of_methodNamed Bd.named Bd.method).1
  have X0 : Stand pP l eE ({ frames := 0, cells := 0, slots := 0, locals := 0 } : Room) sS mM #[(.ref a), (.int n)] below meth cC s₁ [] 0 0 := Stand.of_body Bd
  have e0 : s₁.heap = h0 := by rw [← hh, Bd.state]; rfl
  have N0 := Fr.nil n0
  have pre0 : ∀ tg, Steps pP.tables eE below (s₁.setTop (mkF mM 0 #[.val (.ref a), .val (.int n)] [])) tg → Steps pP.tables eE below (s₁.setTop (entryFrame mM #[(.ref a), (.int n)] 2)) tg := fun tg kg => castTop (ef_endc mM a n) kg
  have pre2 : ∀ tg, Steps pP.tables eE below (s₁.setTop (mkF mM 2 #[.val (.ref a), .val (.int n)] [(.int (1 : Int32)), (.int n)])) tg → Steps pP.tables eE below (s₁.setTop (entryFrame mM #[(.ref a), (.int n)] 2)) tg := fun tg kg => pre0 tg (by
    refine XS.iloadN X0.here hx rfl (hb hby d_prog_140_method_5_0) rfl ?_
    show Steps pP.tables eE below (s₁.setTop (mkF mM 1 #[.val (.ref a), .val (.int n)] [(.int n)])) _
    refine XS.iconst X0.here hx rfl (hb hby d_prog_140_method_5_1) ?_
    exact kg)
  by_cases hc1 : n < (1 : Int32)
  · obtain ⟨T3, X3, e3, st3⟩ := getF X0 hx hZ hown (host := "") (Or.inl (w_54 hw)) Via.refl e0 F_a_m_nTo (g := (mkF mM 25 #[.val (.ref a), .val (.int n)] [(.ref a)])) rfl rfl (hb hby d_prog_140_method_5_25)
    obtain ⟨fs, hr, hrun, hended, hW, hsame⟩ := X3.leave (v := some (.int q)) (fun h => by rw [Bd.returns] at h; cases h)
    refine ⟨_, _, pre2 _ ?_, hrun, hended, _, _, rfl, ?_, ⟨_, rfl⟩, hW, hsame.mono (by decide) (by decide)⟩
    · refine XS.icmpYes X0.here hx rfl (pc0 := 2) (pc' := 24) rfl (hb hby d_prog_140_method_5_2) rfl (tlt hc1).1 (by decide) (by decide) ?_
      show Steps pP.tables eE below (s₁.setTop (mkF mM 24 #[.val (.ref a), .val (.int n)] [])) _
      refine XS.aloadN X0.here hx rfl (hb hby d_prog_140_method_5_24) rfl rfl ?_
      show Steps pP.tables eE below (s₁.setTop (mkF mM 25 #[.val (.ref a), .val (.int n)] [(.ref a)])) _
      refine st3 _ ?_
      show Steps pP.tables eE below (T3.setTop (mkF mM 28 #[.val (.ref a), .val (.int n)] [(.int q)])) _
      exact retI X3 hx Bd.returns (hb hby d_prog_140_method_5_28) hr
    · show Q_endc Z a n ff q t4 kt z es h0 n0 _ T3.heap _
      rw [e3]
      exact ⟨(by rw [own_fin, if_pos hc1]), rfl, rfl⟩
  · obtain ⟨T5, X5, e5, st5⟩ := getF X0 hx hZ hown (host := "") (Or.inl (w_58 hw)) Via.refl e0 F_a_m_nCount (g := (mkF mM 7 #[.val (.ref a), .val (.int n)] [(.ref a), (.int n)])) rfl rfl (hb hby d_prog_140_method_5_7)
    have pre7 : ∀ tg, Steps pP.tables eE below (T5.setTop (mkF mM 10 #[.val (.ref a), .val (.int n)] [(.int (Int32.ofNat es.length)), (.int n)])) tg → Steps pP.tables eE below (s₁.setTop (entryFrame mM #[(.ref a), (.int n)] 2)) tg := fun tg kg => pre2 tg (by
      refine XS.icmpNo X0.here hx rfl (hb hby d_prog_140_method_5_2) rfl (flt hc1).1 ?_
      show Steps pP.tables eE below (s₁.setTop (mkF mM 5 #[.val (.ref a), .val (.int n)] [])) _
      refine XS.iloadN X0.here hx rfl (hb hby d_prog_140_method_5_5) rfl ?_
      show Steps pP.tables eE below (s₁.setTop (mkF mM 6 #[.val (.ref a), .val (.int n)] [(.int n)])) _
      refine XS.aloadN X0.here hx rfl (hb hby d_prog_140_method_5_6) rfl rfl ?_
      show Steps pP.tables eE below (s₁.setTop (mkF mM 7 #[.val (.ref a), .val (.int n)] [(.ref a), (.int n)])) _
      refine st5 _ ?_
      exact kg)
    by_cases hc6 : (Int32.ofNat es.length) < n
    · obtain ⟨T8, X8, e8, st8⟩ := getF X5 hx hZ hown (host := "") (Or.inl (w_54 hw)) Via.refl e5 F_a_m_nTo (g := (mkF mM 25 #[.val (.ref a), .val (.int n)] [(.ref a)])) rfl rfl (hb hby d_prog_140_method_5_25)
      obtain ⟨fs, hr, hrun, hended, hW, hsame⟩ := X8.leave (v := some (.int q)) (fun h => by rw [Bd.returns] at h; cases h)
      refine ⟨_, _, pre7 _ ?_, hrun, hended, _, _, rfl, ?_, ⟨_, rfl⟩, hW, hsame.mono (by decide) (by decide)⟩
      · refine XS.icmpYes X5.here hx rfl (pc0 := 10) (pc' := 24) rfl (hb hby d_prog_140_method_5_10) rfl (tlt hc6).2.2.1 (by decide) (by decide) ?_
        show Steps pP.tables eE below (T5.setTop (mkF mM 24 #[.val (.ref a), .val (.int n)] [])) _
        refine XS.aloadN X5.here hx rfl (hb hby d_prog_140_method_5_24) rfl rfl ?_
        show Steps pP.tables eE below (T5.setTop (mkF mM 25 #[.val (.ref a), .val (.int n)] [(.ref a)])) _
        refine st8 _ ?_
        show Steps pP.tables eE below (T8.setTop (mkF mM 28 #[.val (.ref a), .val (.int n)] [(.int q)])) _
        exact retI X8 hx Bd.returns (hb hby d_prog_140_method_5_28) hr
      · show Q_endc Z a n ff q t4 kt z es h0 n0 _ T8.heap _
        rw [e8]
        exact ⟨(by rw [own_fin, if_neg hc1, if_pos hc6]), rfl, rfl⟩
    · obtain ⟨T10, X10, e10, st10⟩ := getF X5 hx hZ hown (host := "") (Or.inl (w_56 hw)) Via.refl e5 F_a_m_aEnds (g := (mkF mM 14 #[.val (.ref a), .val (.int n)] [(.ref a)])) rfl rfl (hb hby d_prog_140_method_5_14)
      obtain ⟨cl11, Ar11, -, S11, Nn11, Hh11, -⟩ := id V_t4
      have hin11 : ¬ ((n - (1 : Int32)) < 0 ∨ cl11.slots.size ≤ ((n - (1 : Int32))).toNatClampNeg) := inb_of S11 (own_ein hc1 hc6 hp5)
      have hat11 : cl11.slots[((n - (1 : Int32))).toNatClampNeg]? = some (.int (Int32.ofNat (es.getD (n.toInt.toNat - 1) 0))) := Hh11.at hin11 (own_eget hc1 hc6 hp5)
      obtain ⟨fs, hr, hrun, hended, hW, hsame⟩ := X10.leave (v := some (.int (Int32.ofNat (es.getD (n.toInt.toNat - 1) 0)))) (fun h => by rw [Bd.returns] at h; cases h)
      refine ⟨_, _, pre7 _ ?_, hrun, hended, _, _, rfl, ?_, ⟨_, rfl⟩, hW, hsame.mono (by decide) (by decide)⟩
      · refine XS.icmpNo X5.here hx rfl (hb hby d_prog_140_method_5_10) rfl (flt hc6).2.2.1 ?_
        show Steps pP.tables eE below (T5.setTop (mkF mM 13 #[.val (.ref a), .val (.int n)] [])) _
        refine XS.aloadN X5.here hx rfl (hb hby d_prog_140_method_5_13) rfl rfl ?_
        show Steps pP.tables eE below (T5.setTop (mkF mM 14 #[.val (.ref a), .val (.int n)] [(.ref a)])) _
        refine st10 _ ?_
        show Steps pP.tables eE below (T10.setTop (mkF mM 17 #[.val (.ref a), .val (.int n)] [(.ref t4)])) _
        refine XS.iloadN X10.here hx rfl (hb hby d_prog_140_method_5_17) rfl ?_
        show Steps pP.tables eE below (T10.setTop (mkF mM 18 #[.val (.ref a), .val (.int n)] [(.int n), (.ref t4)])) _
        refine XS.iconst X10.here hx rfl (hb hby d_prog_140_method_5_18) ?_
        show Steps pP.tables eE below (T10.setTop (mkF mM 19 #[.val (.ref a), .val (.int n)] [(.int (1 : Int32)), (.int n), (.ref t4)])) _
        refine XS.isub X10.here hx rfl (hb hby d_prog_140_method_5_19) rfl ?_
        show Steps pP.tables eE below (T10.setTop (mkF mM 20 #[.val (.ref a), .val (.int n)] [(.int (n - (1 : Int32))), (.ref t4)])) _
        refine X10.iaload hx (j := (n - (1 : Int32))) (v := (.int (Int32.ofNat (es.getD (n.toInt.toNat - 1) 0)))) (by rw [e10]; exact Ar11.1) (State.isArrayOf_alike hZ.alike Ar11.2.1) Ar11.2.2 hin11 hat11 (g := (mkF mM 20 #[.val (.ref a), .val (.int n)] [(.int (n - (1 : Int32))), (.ref t4)])) rfl rfl (hb hby d_prog_140_method_5_20) _ ?_
        show Steps pP.tables eE below (T10.setTop (mkF mM 21 #[.val (.ref a), .val (.int n)] [(.int (Int32.ofNat (es.getD (n.toInt.toNat - 1) 0)))])) _
        refine XS.goto X10.here hx rfl (pc0 := 21) (pc' := 28) rfl (hb hby d_prog_140_method_5_21) (by decide) (by decide) ?_
        show Steps pP.tables eE below (T10.setTop (mkF mM 28 #[.val (.ref a), .val (.int n)] [(.int (Int32.ofNat (es.getD (n.toInt.toNat - 1) 0)))])) _
        exact retI X10 hx Bd.returns (hb hby d_prog_140_method_5_28) hr
      · show Q_endc Z a n ff q t4 kt z es h0 n0 _ T10.heap _
        rw [e10]
        exact ⟨(by rw [own_fin, if_neg hc1, if_neg hc6]), rfl, rfl⟩
theorem ef_chc (m : MethodId) (x0 : Int64) (x1 : Int32) (x2 : Int32) (x3 : Int32) : entryFrame m #[(.long x0), (.int x1), (.int x2), (.int x3)] 5 = mkF m 0 #[.val (.long x0), .second, .val (.int x1), .val (.int x2), .val (.int x3)] [] := by first | (simp [entryFrame, mkF, argsToLocals, Value.category]; done) | rfl
def Q_chc (Z : State) (w : Int64) (q : Int32) (i : Int32) (d : Int32) (h0 : Heap) (n0 : Nat) (vV : Option Value) (h : Heap) (LL : List Loc) : Prop := vV = some (.int (own_ck w q i d)) ∧ LL = [] ∧ h = h0
set_option maxRecDepth 65536 in
set_option maxHeartbeats 40000000 in
theorem rm_chc (l : Launch) (Z : State) (a0 : Array Value) (hw : ∀ d ∈ tables_1, d.before a0 Z = true) (ws : List Jvm.Cond) (w : Int64) (q : Int32) (i : Int32) (d : Int32) (h0 : Heap) (n0 : Nat) (O0 : Old Z n0 h0) (hp0 : (¬ w.toInt32 < 0 ∧ ¬ (255 : Int32) < w.toInt32)) (hp1 : (¬ (255 : Int32) < d)) :
    MetFree l (⟨"com/example/resultwire/resultwire/er7/PieceIndexEndPinLaw", "ch", "(JIII)C"⟩ : MethodName) (head1 (Jvm.Cond.code (⟨"com/example/resultwire/resultwire/er7/PieceIndexEndPinLaw", "ch", "(JIII)C"⟩ : MethodName) method_3_code 5 (some .char) :: ws) ({ frames := 0, cells := 0, slots := 0, locals := 0 } : Room)) (fun aa_ U => aa_ = #[(.long w), (.int q), (.int i), (.int d)] ∧ Z.Warmed39 U.vm ∧ U.heap = h0) (fun _ _ _ _ _ => True) (fun _ U o U' => ∃ vV LL, o = .returned vV ∧ Q_chc Z w q i d h0 n0 vV U'.heap LL ∧ FrameEnd U o U' LL ({ frames := 0, cells := 0, slots := 0, locals := 0 } : Room).cells ({ frames := 0, cells := 0, slots := 0, locals := 0 } : Room).slots) := by
  refine MetFree.of_bodySF (plainFor_of_name pn_5) hisR ?_
  intro pP eE sS mM args below meth cC s₁ Bd hml0 hP hK
  obtain ⟨rfl, hZ, hh⟩ := hP
  have hx := Bd.exec
  have hby := Bd.bytes
  have hml : cC.maxLocals = 5 := hml0
  have hown : sS.vm.findClass "com/example/resultwire/resultwire/er7/PieceIndexEndPinLaw" = some mM.cls := findClass_of_methodNamed Bd.named
  have hnm := (name_of_methodNamed Bd.named Bd.method).1
  have X0 : Stand pP l eE ({ frames := 0, cells := 0, slots := 0, locals := 0 } : Room) sS mM #[(.long w), (.int q), (.int i), (.int d)] below meth cC s₁ [] 0 0 := Stand.of_body Bd
  have e0 : s₁.heap = h0 := by rw [← hh, Bd.state]; rfl
  have N0 := Fr.nil n0
  have pre0 : ∀ tg, Steps pP.tables eE below (s₁.setTop (mkF mM 0 #[.val (.long w), .second, .val (.int q), .val (.int i), .val (.int d)] [])) tg → Steps pP.tables eE below (s₁.setTop (entryFrame mM #[(.long w), (.int q), (.int i), (.int d)] 5)) tg := fun tg kg => castTop (ef_chc mM w q i d) kg
  have pre2 : ∀ tg, Steps pP.tables eE below (s₁.setTop (mkF mM 8 #[.val (.long w), .second, .val (.int q), .val (.int i), .val (.int d)] [(.int (((q.toUInt32 >>> (((10 : Int32) + i) &&& 31).toUInt32).toInt32) &&& (1 : Int32)))])) tg → Steps pP.tables eE below (s₁.setTop (entryFrame mM #[(.long w), (.int q), (.int i), (.int d)] 5)) tg := fun tg kg => pre0 tg (by
    refine XS.iloadN X0.here hx rfl (hb hby d_method_3_0) rfl ?_
    show Steps pP.tables eE below (s₁.setTop (mkF mM 1 #[.val (.long w), .second, .val (.int q), .val (.int i), .val (.int d)] [(.int q)])) _
    refine XS.bipush X0.here hx rfl (hb hby d_method_3_1) ?_
    show Steps pP.tables eE below (s₁.setTop (mkF mM 3 #[.val (.long w), .second, .val (.int q), .val (.int i), .val (.int d)] [(.int (10 : Int32)), (.int q)])) _
    refine XS.iloadN X0.here hx rfl (hb hby d_method_3_3) rfl ?_
    show Steps pP.tables eE below (s₁.setTop (mkF mM 4 #[.val (.long w), .second, .val (.int q), .val (.int i), .val (.int d)] [(.int i), (.int (10 : Int32)), (.int q)])) _
    refine XS.iadd X0.here hx rfl (hb hby d_method_3_4) rfl ?_
    show Steps pP.tables eE below (s₁.setTop (mkF mM 5 #[.val (.long w), .second, .val (.int q), .val (.int i), .val (.int d)] [(.int ((10 : Int32) + i)), (.int q)])) _
    refine XS.iushr X0.here hx rfl (hb hby d_method_3_5) rfl ?_
    show Steps pP.tables eE below (s₁.setTop (mkF mM 6 #[.val (.long w), .second, .val (.int q), .val (.int i), .val (.int d)] [(.int ((q.toUInt32 >>> (((10 : Int32) + i) &&& 31).toUInt32).toInt32))])) _
    refine XS.iconst X0.here hx rfl (hb hby d_method_3_6) ?_
    show Steps pP.tables eE below (s₁.setTop (mkF mM 7 #[.val (.long w), .second, .val (.int q), .val (.int i), .val (.int d)] [(.int (1 : Int32)), (.int ((q.toUInt32 >>> (((10 : Int32) + i) &&& 31).toUInt32).toInt32))])) _
    refine XS.iand X0.here hx rfl (hb hby d_method_3_7) rfl ?_
    exact kg)
  by_cases hc1 : (((q.toUInt32 >>> (((10 : Int32) + i) &&& 31).toUInt32).toInt32) &&& (1 : Int32)) = (0 : Int32)
  · obtain ⟨fs, hr, hrun, hended, hW, hsame⟩ := X0.leave (v := some (.int (nar .char (w.toInt32)))) (fun h => by rw [Bd.returns] at h; cases h)
    refine ⟨_, _, pre2 _ ?_, hrun, hended, _, _, rfl, ?_, ⟨_, rfl⟩, hW, hsame.mono (by decide) (by decide)⟩
    · refine XS.ifYes X0.here hx rfl (pc0 := 8) (pc' := 22) rfl (hb hby d_method_3_8) rfl ((if0 _ _).trans (teq hc1).1) (by decide) (by decide) ?_
      show Steps pP.tables eE below (s₁.setTop (mkF mM 22 #[.val (.long w), .second, .val (.int q), .val (.int i), .val (.int d)] [])) _
      refine XS.lloadN X0.here hx rfl (hb hby d_method_3_22) rfl ?_
      show Steps pP.tables eE below (s₁.setTop (mkF mM 23 #[.val (.long w), .second, .val (.int q), .val (.int i), .val (.int d)] [(.long w)])) _
      refine XS.l2i X0.here hx rfl (hb hby d_method_3_23) rfl ?_
      show Steps pP.tables eE below (s₁.setTop (mkF mM 24 #[.val (.long w), .second, .val (.int q), .val (.int i), .val (.int d)] [(.int (w.toInt32))])) _
      refine XS.i2c X0.here hx rfl (hb hby d_method_3_24) rfl ?_
      show Steps pP.tables eE below (s₁.setTop (mkF mM 25 #[.val (.long w), .second, .val (.int q), .val (.int i), .val (.int d)] [(.int ((w.toInt32).toUInt32.toUInt16.toUInt32.toInt32))])) _
      rw [own_i2c hp0]
      show Steps pP.tables eE below (s₁.setTop (mkF mM 25 #[.val (.long w), .second, .val (.int q), .val (.int i), .val (.int d)] [(.int (w.toInt32))])) _
      exact retN X0 hx (t := .char) Bd.returns (by simp) (hb hby d_method_3_25) hr
    · show Q_chc Z w q i d h0 n0 _ s₁.heap _
      rw [e0]
      exact ⟨(by rw [own_ck, if_pos hc1, own_nc hp0]), rfl, rfl⟩
  · have pre5 : ∀ tg, Steps pP.tables eE below (s₁.setTop (mkF mM 13 #[.val (.long w), .second, .val (.int q), .val (.int i), .val (.int d)] [(.int d)])) tg → Steps pP.tables eE below (s₁.setTop (entryFrame mM #[(.long w), (.int q), (.int i), (.int d)] 5)) tg := fun tg kg => pre2 tg (by
      refine XS.ifNo X0.here hx rfl (hb hby d_method_3_8) rfl ((if0 _ _).trans (feq hc1).1) ?_
      show Steps pP.tables eE below (s₁.setTop (mkF mM 11 #[.val (.long w), .second, .val (.int q), .val (.int i), .val (.int d)] [])) _
      refine XS.iload X0.here hx rfl (hb hby d_method_3_11) rfl ?_
      exact kg)
    by_cases hc4 : d < (0 : Int32)
    · obtain ⟨fs, hr, hrun, hended, hW, hsame⟩ := X0.leave (v := some (.int (nar .char (w.toInt32)))) (fun h => by rw [Bd.returns] at h; cases h)
      refine ⟨_, _, pre5 _ ?_, hrun, hended, _, _, rfl, ?_, ⟨_, rfl⟩, hW, hsame.mono (by decide) (by decide)⟩
      · refine XS.ifYes X0.here hx rfl (pc0 := 13) (pc' := 22) rfl (hb hby d_method_3_13) rfl ((if0 _ _).trans (tlt hc4).1) (by decide) (by decide) ?_
        show Steps pP.tables eE below (s₁.setTop (mkF mM 22 #[.val (.long w), .second, .val (.int q), .val (.int i), .val (.int d)] [])) _
        refine XS.lloadN X0.here hx rfl (hb hby d_method_3_22) rfl ?_
        show Steps pP.tables eE below (s₁.setTop (mkF mM 23 #[.val (.long w), .second, .val (.int q), .val (.int i), .val (.int d)] [(.long w)])) _
        refine XS.l2i X0.here hx rfl (hb hby d_method_3_23) rfl ?_
        show Steps pP.tables eE below (s₁.setTop (mkF mM 24 #[.val (.long w), .second, .val (.int q), .val (.int i), .val (.int d)] [(.int (w.toInt32))])) _
        refine XS.i2c X0.here hx rfl (hb hby d_method_3_24) rfl ?_
        show Steps pP.tables eE below (s₁.setTop (mkF mM 25 #[.val (.long w), .second, .val (.int q), .val (.int i), .val (.int d)] [(.int ((w.toInt32).toUInt32.toUInt16.toUInt32.toInt32))])) _
        rw [own_i2c hp0]
        show Steps pP.tables eE below (s₁.setTop (mkF mM 25 #[.val (.long w), .second, .val (.int q), .val (.int i), .val (.int d)] [(.int (w.toInt32))])) _
        exact retN X0 hx (t := .char) Bd.returns (by simp) (hb hby d_method_3_25) hr
      · show Q_chc Z w q i d h0 n0 _ s₁.heap _
        rw [e0]
        exact ⟨(by rw [own_ck, if_neg hc1, if_pos hc4, own_nc hp0]), rfl, rfl⟩
    · obtain ⟨fs, hr, hrun, hended, hW, hsame⟩ := X0.leave (v := some (.int (nar .char d))) (fun h => by rw [Bd.returns] at h; cases h)
      refine ⟨_, _, pre5 _ ?_, hrun, hended, _, _, rfl, ?_, ⟨_, rfl⟩, hW, hsame.mono (by decide) (by decide)⟩
      · refine XS.ifNo X0.here hx rfl (hb hby d_method_3_13) rfl ((if0 _ _).trans (flt hc4).1) ?_
        show Steps pP.tables eE below (s₁.setTop (mkF mM 16 #[.val (.long w), .second, .val (.int q), .val (.int i), .val (.int d)] [])) _
        refine XS.iload X0.here hx rfl (hb hby d_method_3_16) rfl ?_
        show Steps pP.tables eE below (s₁.setTop (mkF mM 18 #[.val (.long w), .second, .val (.int q), .val (.int i), .val (.int d)] [(.int d)])) _
        refine XS.i2c X0.here hx rfl (hb hby d_method_3_18) rfl ?_
        show Steps pP.tables eE below (s₁.setTop (mkF mM 19 #[.val (.long w), .second, .val (.int q), .val (.int i), .val (.int d)] [(.int (d.toUInt32.toUInt16.toUInt32.toInt32))])) _
        rw [own_i2c ⟨hc4, hp1⟩]
        show Steps pP.tables eE below (s₁.setTop (mkF mM 19 #[.val (.long w), .second, .val (.int q), .val (.int i), .val (.int d)] [(.int d)])) _
        refine XS.goto X0.here hx rfl (pc0 := 19) (pc' := 25) rfl (hb hby d_method_3_19) (by decide) (by decide) ?_
        show Steps pP.tables eE below (s₁.setTop (mkF mM 25 #[.val (.long w), .second, .val (.int q), .val (.int i), .val (.int d)] [(.int d)])) _
        exact retN X0 hx (t := .char) Bd.returns (by simp) (hb hby d_method_3_25) hr
      · show Q_chc Z w q i d h0 n0 _ s₁.heap _
        rw [e0]
        exact ⟨(by rw [own_ck, if_neg hc1, if_neg hc4, own_nc ⟨hc4, hp1⟩]), rfl, rfl⟩
theorem ef_isD (m : MethodId) (x0 : Addr) (x1 : Int32) (x2 : Int32) (x3 : Int32) (x4 : Int32) : entryFrame m #[(.ref x0), (.int x1), (.int x2), (.int x3), (.int x4)] 5 = mkF m 0 #[.val (.ref x0), .val (.int x1), .val (.int x2), .val (.int x3), .val (.int x4)] [] := by first | (simp [entryFrame, mkF, argsToLocals, Value.category]; done) | rfl
def Q_isD (Z : State) (t : Addr) (k : ClassId) (cs : List Int32) (i : Nat) (f : Int32) (q : Int32) (d : Int32) (h0 : Heap) (n0 : Nat) (vV : Option Value) (h : Heap) (LL : List Loc) : Prop := vV = some (.int (own_isd (cs.getD i 0) (Int32.ofNat i) d f q)) ∧ LL = [] ∧ h = h0
set_option maxRecDepth 65536 in
set_option maxHeartbeats 40000000 in
theorem rm_isD (l : Launch) (Z : State) (a0 : Array Value) (hw : ∀ d ∈ tables_1, d.before a0 Z = true) (ws : List Jvm.Cond) (t : Addr) (k : ClassId) (cs : List Int32) (i : Nat) (f : Int32) (q : Int32) (d : Int32) (h0 : Heap) (n0 : Nat) (O0 : Old Z n0 h0) (V_t : Arv Z h0 t k .char (Int32.ofNat cs.length) (own_cv cs) (.int (0 : Int32))) (hp1 : (i < cs.length)) (hp2 : (cs.length ≤ 4000)) :
    MetFree l (⟨"com/example/resultwire/resultwire/er7/PieceIndexEndPinLaw", "isD", "([CIIII)Z"⟩ : MethodName) (head1 (Jvm.Cond.code (⟨"com/example/resultwire/resultwire/er7/PieceIndexEndPinLaw", "isD", "([CIIII)Z"⟩ : MethodName) method_4_code 5 (some .boolean) :: ws) ({ frames := 0, cells := 0, slots := 0, locals := 0 } : Room)) (fun aa_ U => aa_ = #[(.ref t), (.int (Int32.ofNat i)), (.int f), (.int q), (.int d)] ∧ Z.Warmed39 U.vm ∧ U.heap = h0) (fun _ _ _ _ _ => True) (fun _ U o U' => ∃ vV LL, o = .returned vV ∧ Q_isD Z t k cs i f q d h0 n0 vV U'.heap LL ∧ FrameEnd U o U' LL ({ frames := 0, cells := 0, slots := 0, locals := 0 } : Room).cells ({ frames := 0, cells := 0, slots := 0, locals := 0 } : Room).slots) := by
  refine MetFree.of_bodySF (plainFor_of_name pn_5) hisR ?_
  intro pP eE sS mM args below meth cC s₁ Bd hml0 hP hK
  obtain ⟨rfl, hZ, hh⟩ := hP
  have hx := Bd.exec
  have hby := Bd.bytes
  have hml : cC.maxLocals = 5 := hml0
  have hown : sS.vm.findClass "com/example/resultwire/resultwire/er7/PieceIndexEndPinLaw" = some mM.cls := findClass_of_methodNamed Bd.named
  have hnm := (name_of_methodNamed Bd.named Bd.method).1
  have X0 : Stand pP l eE ({ frames := 0, cells := 0, slots := 0, locals := 0 } : Room) sS mM #[(.ref t), (.int (Int32.ofNat i)), (.int f), (.int q), (.int d)] below meth cC s₁ [] 0 0 := Stand.of_body Bd
  have e0 : s₁.heap = h0 := by rw [← hh, Bd.state]; rfl
  have N0 := Fr.nil n0
  have pre0 : ∀ tg, Steps pP.tables eE below (s₁.setTop (mkF mM 0 #[.val (.ref t), .val (.int (Int32.ofNat i)), .val (.int f), .val (.int q), .val (.int d)] [])) tg → Steps pP.tables eE below (s₁.setTop (entryFrame mM #[(.ref t), (.int (Int32.ofNat i)), (.int f), (.int q), (.int d)] 5)) tg := fun tg kg => castTop (ef_isD mM t (Int32.ofNat i) f q d) kg
  have pre2 : ∀ tg, Steps pP.tables eE below (s₁.setTop (mkF mM 2 #[.val (.ref t), .val (.int (Int32.ofNat i)), .val (.int f), .val (.int q), .val (.int d)] [(.int (Int32.ofNat i)), (.int f)])) tg → Steps pP.tables eE below (s₁.setTop (entryFrame mM #[(.ref t), (.int (Int32.ofNat i)), (.int f), (.int q), (.int d)] 5)) tg := fun tg kg => pre0 tg (by
    refine XS.iloadN X0.here hx rfl (hb hby d_method_4_0) rfl ?_
    show Steps pP.tables eE below (s₁.setTop (mkF mM 1 #[.val (.ref t), .val (.int (Int32.ofNat i)), .val (.int f), .val (.int q), .val (.int d)] [(.int f)])) _
    refine XS.iloadN X0.here hx rfl (hb hby d_method_4_1) rfl ?_
    exact kg)
  by_cases hc1 : (Int32.ofNat i) < f
  · obtain ⟨fs, hr, hrun, hended, hW, hsame⟩ := X0.leave (v := some (.int (0 : Int32))) (fun h => by rw [Bd.returns] at h; cases h)
    refine ⟨_, _, pre2 _ ?_, hrun, hended, _, _, rfl, ?_, ⟨_, rfl⟩, hW, hsame.mono (by decide) (by decide)⟩
    · refine XS.icmpYes X0.here hx rfl (pc0 := 2) (pc' := 22) rfl (hb hby d_method_4_2) rfl (tlt hc1).2.2.1 (by decide) (by decide) ?_
      show Steps pP.tables eE below (s₁.setTop (mkF mM 22 #[.val (.ref t), .val (.int (Int32.ofNat i)), .val (.int f), .val (.int q), .val (.int d)] [])) _
      refine XS.iconst X0.here hx rfl (hb hby d_method_4_22) ?_
      show Steps pP.tables eE below (s₁.setTop (mkF mM 23 #[.val (.ref t), .val (.int (Int32.ofNat i)), .val (.int f), .val (.int q), .val (.int d)] [(.int (0 : Int32))])) _
      exact retN X0 hx (t := .boolean) Bd.returns (by simp) (hb hby d_method_4_23) hr
    · show Q_isD Z t k cs i f q d h0 n0 _ s₁.heap _
      rw [e0]
      exact ⟨(by rw [own_isd, if_pos hc1]), rfl, rfl⟩
  · have pre5 : ∀ tg, Steps pP.tables eE below (s₁.setTop (mkF mM 7 #[.val (.ref t), .val (.int (Int32.ofNat i)), .val (.int f), .val (.int q), .val (.int d)] [(.int q), (.int (Int32.ofNat i))])) tg → Steps pP.tables eE below (s₁.setTop (entryFrame mM #[(.ref t), (.int (Int32.ofNat i)), (.int f), (.int q), (.int d)] 5)) tg := fun tg kg => pre2 tg (by
      refine XS.icmpNo X0.here hx rfl (hb hby d_method_4_2) rfl (flt hc1).2.2.1 ?_
      show Steps pP.tables eE below (s₁.setTop (mkF mM 5 #[.val (.ref t), .val (.int (Int32.ofNat i)), .val (.int f), .val (.int q), .val (.int d)] [])) _
      refine XS.iloadN X0.here hx rfl (hb hby d_method_4_5) rfl ?_
      show Steps pP.tables eE below (s₁.setTop (mkF mM 6 #[.val (.ref t), .val (.int (Int32.ofNat i)), .val (.int f), .val (.int q), .val (.int d)] [(.int (Int32.ofNat i))])) _
      refine XS.iloadN X0.here hx rfl (hb hby d_method_4_6) rfl ?_
      exact kg)
    by_cases hc4 : (Int32.ofNat i) < q
    · obtain ⟨cl6, Ar6, -, S6, Nn6, Hh6, -⟩ := id V_t
      have hin6 : ¬ ((Int32.ofNat i) < 0 ∨ cl6.slots.size ≤ ((Int32.ofNat i)).toNatClampNeg) := inb_of S6 ⟨own_nneg _ (by omega), own_lt (by omega) (by omega)⟩
      have hat6 : cl6.slots[((Int32.ofNat i)).toNatClampNeg]? = some (.int (cs.getD i 0)) := Hh6.at hin6 (own_cvget cs hp1 hp2)
      have pre8 : ∀ tg, Steps pP.tables eE below (s₁.setTop (mkF mM 15 #[.val (.ref t), .val (.int (Int32.ofNat i)), .val (.int f), .val (.int q), .val (.int d)] [(.int d), (.int (cs.getD i 0))])) tg → Steps pP.tables eE below (s₁.setTop (entryFrame mM #[(.ref t), (.int (Int32.ofNat i)), (.int f), (.int q), (.int d)] 5)) tg := fun tg kg => pre5 tg (by
        refine XS.icmpNo X0.here hx rfl (hb hby d_method_4_7) rfl (tlt hc4).2.1 ?_
        show Steps pP.tables eE below (s₁.setTop (mkF mM 10 #[.val (.ref t), .val (.int (Int32.ofNat i)), .val (.int f), .val (.int q), .val (.int d)] [])) _
        refine XS.aloadN X0.here hx rfl (hb hby d_method_4_10) rfl rfl ?_
        show Steps pP.tables eE below (s₁.setTop (mkF mM 11 #[.val (.ref t), .val (.int (Int32.ofNat i)), .val (.int f), .val (.int q), .val (.int d)] [(.ref t)])) _
        refine XS.iloadN X0.here hx rfl (hb hby d_method_4_11) rfl ?_
        show Steps pP.tables eE below (s₁.setTop (mkF mM 12 #[.val (.ref t), .val (.int (Int32.ofNat i)), .val (.int f), .val (.int q), .val (.int d)] [(.int (Int32.ofNat i)), (.ref t)])) _
        refine X0.caload hx (j := (Int32.ofNat i)) (v := (.int (cs.getD i 0))) (by rw [e0]; exact Ar6.1) (State.isArrayOf_alike hZ.alike Ar6.2.1) Ar6.2.2 hin6 hat6 (g := (mkF mM 12 #[.val (.ref t), .val (.int (Int32.ofNat i)), .val (.int f), .val (.int q), .val (.int d)] [(.int (Int32.ofNat i)), (.ref t)])) rfl rfl (hb hby d_method_4_12) _ ?_
        show Steps pP.tables eE below (s₁.setTop (mkF mM 13 #[.val (.ref t), .val (.int (Int32.ofNat i)), .val (.int f), .val (.int q), .val (.int d)] [(.int (cs.getD i 0))])) _
        refine XS.iload X0.here hx rfl (hb hby d_method_4_13) rfl ?_
        exact kg)
      by_cases hc7 : (cs.getD i 0) = d
      · obtain ⟨fs, hr, hrun, hended, hW, hsame⟩ := X0.leave (v := some (.int (1 : Int32))) (fun h => by rw [Bd.returns] at h; cases h)
        refine ⟨_, _, pre8 _ ?_, hrun, hended, _, _, rfl, ?_, ⟨_, rfl⟩, hW, hsame.mono (by decide) (by decide)⟩
        · refine XS.icmpNo X0.here hx rfl (hb hby d_method_4_15) rfl (teq hc7).2 ?_
          show Steps pP.tables eE below (s₁.setTop (mkF mM 18 #[.val (.ref t), .val (.int (Int32.ofNat i)), .val (.int f), .val (.int q), .val (.int d)] [])) _
          refine XS.iconst X0.here hx rfl (hb hby d_method_4_18) ?_
          show Steps pP.tables eE below (s₁.setTop (mkF mM 19 #[.val (.ref t), .val (.int (Int32.ofNat i)), .val (.int f), .val (.int q), .val (.int d)] [(.int (1 : Int32))])) _
          refine XS.goto X0.here hx rfl (pc0 := 19) (pc' := 23) rfl (hb hby d_method_4_19) (by decide) (by decide) ?_
          show Steps pP.tables eE below (s₁.setTop (mkF mM 23 #[.val (.ref t), .val (.int (Int32.ofNat i)), .val (.int f), .val (.int q), .val (.int d)] [(.int (1 : Int32))])) _
          exact retN X0 hx (t := .boolean) Bd.returns (by simp) (hb hby d_method_4_23) hr
        · show Q_isD Z t k cs i f q d h0 n0 _ s₁.heap _
          rw [e0]
          exact ⟨(by rw [own_isd, if_neg hc1, if_pos hc4, if_pos hc7]), rfl, rfl⟩
      · obtain ⟨fs, hr, hrun, hended, hW, hsame⟩ := X0.leave (v := some (.int (0 : Int32))) (fun h => by rw [Bd.returns] at h; cases h)
        refine ⟨_, _, pre8 _ ?_, hrun, hended, _, _, rfl, ?_, ⟨_, rfl⟩, hW, hsame.mono (by decide) (by decide)⟩
        · refine XS.icmpYes X0.here hx rfl (pc0 := 15) (pc' := 22) rfl (hb hby d_method_4_15) rfl (feq hc7).2 (by decide) (by decide) ?_
          show Steps pP.tables eE below (s₁.setTop (mkF mM 22 #[.val (.ref t), .val (.int (Int32.ofNat i)), .val (.int f), .val (.int q), .val (.int d)] [])) _
          refine XS.iconst X0.here hx rfl (hb hby d_method_4_22) ?_
          show Steps pP.tables eE below (s₁.setTop (mkF mM 23 #[.val (.ref t), .val (.int (Int32.ofNat i)), .val (.int f), .val (.int q), .val (.int d)] [(.int (0 : Int32))])) _
          exact retN X0 hx (t := .boolean) Bd.returns (by simp) (hb hby d_method_4_23) hr
        · show Q_isD Z t k cs i f q d h0 n0 _ s₁.heap _
          rw [e0]
          exact ⟨(by rw [own_isd, if_neg hc1, if_pos hc4, if_neg hc7]), rfl, rfl⟩
    · obtain ⟨fs, hr, hrun, hended, hW, hsame⟩ := X0.leave (v := some (.int (0 : Int32))) (fun h => by rw [Bd.returns] at h; cases h)
      refine ⟨_, _, pre5 _ ?_, hrun, hended, _, _, rfl, ?_, ⟨_, rfl⟩, hW, hsame.mono (by decide) (by decide)⟩
      · refine XS.icmpYes X0.here hx rfl (pc0 := 7) (pc' := 22) rfl (hb hby d_method_4_7) rfl (flt hc4).2.1 (by decide) (by decide) ?_
        show Steps pP.tables eE below (s₁.setTop (mkF mM 22 #[.val (.ref t), .val (.int (Int32.ofNat i)), .val (.int f), .val (.int q), .val (.int d)] [])) _
        refine XS.iconst X0.here hx rfl (hb hby d_method_4_22) ?_
        show Steps pP.tables eE below (s₁.setTop (mkF mM 23 #[.val (.ref t), .val (.int (Int32.ofNat i)), .val (.int f), .val (.int q), .val (.int d)] [(.int (0 : Int32))])) _
        exact retN X0 hx (t := .boolean) Bd.returns (by simp) (hb hby d_method_4_23) hr
      · show Q_isD Z t k cs i f q d h0 n0 _ s₁.heap _
        rw [e0]
        exact ⟨(by rw [own_isd, if_neg hc1, if_neg hc4]), rfl, rfl⟩
theorem ef_law (m : MethodId) (x0 : Int64) (x1 : Int32) (x2 : Int32) (x3 : Int32) (x4 : Int32) (x5 : Int32) : entryFrame m #[(.long x0), (.int x1), (.int x2), (.int x3), (.int x4), (.int x5)] maxLocals = mkF m 0 #[.val (.long x0), .second, .val (.int x1), .val (.int x2), .val (.int x3), .val (.int x4), .val (.int x5), .unset, .unset, .unset, .unset, .unset, .unset, .unset, .unset, .unset, .unset, .unset, .unset] [] := by first | (simp [entryFrame, mkF, argsToLocals, Value.category, maxLocals]; done) | rfl
def Q_law (Z : State) (p0 : Int64) (p1 : Int32) (p2 : Int32) (p3 : Int32) (p4 : Int32) (p5 : Int32) (ne : Addr) (kne : ClassId) (zc : Int32) (fm : Value) (h0 : Heap) (n0 : Nat) (vV : Option Value) (h : Heap) (LL : List Loc) : Prop := vV = some (.int 1) ∧ Fr n0 LL ∧ Keep h0 h []
set_option maxRecDepth 65536 in
set_option maxHeartbeats 40000000 in
theorem rm_law (l : Launch) (Z : State) (a0 : Array Value) (hw : ∀ d ∈ tables_1, d.before a0 Z = true) (ws : List Jvm.Cond) (p0 : Int64) (p1 : Int32) (p2 : Int32) (p3 : Int32) (p4 : Int32) (p5 : Int32) (ne : Addr) (kne : ClassId) (zc : Int32) (fm : Value) (h0 : Heap) (n0 : Nat) (O0 : Old Z n0 h0) (S_NO_ENDS : Sta Z Z.heap "com/example/resultwire/resultwire/er7/PieceIndex" "NO_ENDS" "[I" (.ref ne)) (V_ne : Arv Z h0 ne kne .int (0 : Int32) [] (.int (0 : Int32))) (S_COMPACT_STRINGS : Sta Z Z.heap "java/lang/String" "COMPACT_STRINGS" "Z" (.int zc)) (hp3 : (¬ (zc = (0 : Int32)))) (S_SIOOBE_FORMATTER : Sta Z Z.heap "jdk/internal/util/Preconditions" "SIOOBE_FORMATTER" "Ljava/util/function/BiFunction;" fm) (hp5 : (fm.isRef = true)) :
    MetFree l x (head1 (Jvm.Cond.code x code maxLocals ret :: ws) room_1) (fun aa_ U => aa_ = #[(.long p0), (.int p1), (.int p2), (.int p3), (.int p4), (.int p5)] ∧ Z.Warmed39 U.vm ∧ U.heap = h0) (fun _ _ _ _ _ => True) (fun _ U o U' => ∃ vV LL, o = .returned vV ∧ Q_law Z p0 p1 p2 p3 p4 p5 ne kne zc fm h0 n0 vV U'.heap LL ∧ FrameEnd U o U' LL room_1.cells room_1.slots) := by
  refine MetFree.of_bodySF (plainFor_of_name pn_5) hisR ?_
  intro pP eE sS mM args below meth cC s₁ Bd hml0 hP hK
  obtain ⟨rfl, hZ, hh⟩ := hP
  have hx := Bd.exec
  have hby := Bd.bytes
  have hml : cC.maxLocals = 19 := hml0
  have hown : sS.vm.findClass "com/example/resultwire/resultwire/er7/PieceIndexEndPinLaw" = some mM.cls := findClass_of_methodNamed Bd.named
  have hnm := (name_of_methodNamed Bd.named Bd.method).1
  have X0 : Stand pP l eE room_1 sS mM #[(.long p0), (.int p1), (.int p2), (.int p3), (.int p4), (.int p5)] below meth cC s₁ [] 0 0 := Stand.of_body Bd
  have e0 : s₁.heap = h0 := by rw [← hh, Bd.state]; rfl
  have N0 := Fr.nil n0
  have pre0 : ∀ tg, Steps pP.tables eE below (s₁.setTop (mkF mM 0 #[.val (.long p0), .second, .val (.int p1), .val (.int p2), .val (.int p3), .val (.int p4), .val (.int p5), .unset, .unset, .unset, .unset, .unset, .unset, .unset, .unset, .unset, .unset, .unset, .unset] [])) tg → Steps pP.tables eE below (s₁.setTop (entryFrame mM #[(.long p0), (.int p1), (.int p2), (.int p3), (.int p4), (.int p5)] maxLocals)) tg := fun tg kg => castTop (ef_law mM p0 p1 p2 p3 p4 p5) kg
  have K0 : Keep h0 h0 [] := Keep.refl _ _
  obtain ⟨d, hd⟩ : ∃ z, z = own_dq p2 := ⟨_, rfl⟩
  have hdb : ¬ (255 : Int32) < d := hd ▸ own_dqb p2
  obtain ⟨m31, hm31, em31⟩ := own_and31 p3
  obtain ⟨m8, hm8, em8⟩ := own_sh8 p3
  obtain ⟨f, hf⟩ : ∃ z, z = m31 % (10 + 1) := ⟨_, rfl⟩
  have hf10 : f ≤ 10 := by omega
  have ef : Int32.ofNat m31 % (11 : Int32) = Int32.ofNat f := by rw [hf]; exact own_rem m31 10 hm31 (by omega)
  obtain ⟨g8, hg8⟩ : ∃ z, z = m8 % ((10 - f) + 1) := ⟨_, rfl⟩
  have hg10 : g8 ≤ 10 - f := by have := Nat.mod_lt m8 (show 0 < (10 - f) + 1 by omega); omega
  have eg : Int32.ofNat m8 % Int32.ofNat ((10 - f) + 1) = Int32.ofNat g8 := by rw [hg8]; exact own_rem m8 (10 - f) hm8 (by omega)
  have e11 := own_elev hf10
  have hnz := own_nz (10 - f) (by omega)
  obtain ⟨tt, htt⟩ : ∃ z, z = f + g8 := ⟨_, rfl⟩
  have ett : Int32.ofNat f + Int32.ofNat g8 = Int32.ofNat tt := by rw [htt]; exact own_addn
  have hft : f ≤ tt := by omega
  have ht10 : tt ≤ 10 := by omega
  obtain ⟨T1, X1, e1, st1⟩ := own_to X0 (h := h0) (g := (mkF mM 0 #[.val (.long p0), .second, .val (.int p1), .val (.int p2), .val (.int p3), .val (.int p4), .val (.int p5), .unset, .unset, .unset, .unset, .unset, .unset, .unset, .unset, .unset, .unset, .unset, .unset] [])) (g' := (mkF mM 17 #[.val (.long p0), .second, .val (.int p1), .val (.int p2), .val (.int p3), .val (.int p4), .val (.int p5), .unset, .unset, .unset, .unset, .unset, .unset, .unset, .unset, .unset, .unset, .unset, .unset] [(.int d)])) (by
    have pre3 : ∀ tg, Steps pP.tables eE below (s₁.setTop (mkF mM 3 #[.val (.long p0), .second, .val (.int p1), .val (.int p2), .val (.int p3), .val (.int p4), .val (.int p5), .unset, .unset, .unset, .unset, .unset, .unset, .unset, .unset, .unset, .unset, .unset, .unset] [(.int (p2 &&& (3 : Int32)))])) tg → Steps pP.tables eE below (s₁.setTop (mkF mM 0 #[.val (.long p0), .second, .val (.int p1), .val (.int p2), .val (.int p3), .val (.int p4), .val (.int p5), .unset, .unset, .unset, .unset, .unset, .unset, .unset, .unset, .unset, .unset, .unset, .unset] [])) tg := fun tg kg => (by
      refine XS.iloadN X0.here hx rfl (hb hby at_0) rfl ?_
      show Steps pP.tables eE below (s₁.setTop (mkF mM 1 #[.val (.long p0), .second, .val (.int p1), .val (.int p2), .val (.int p3), .val (.int p4), .val (.int p5), .unset, .unset, .unset, .unset, .unset, .unset, .unset, .unset, .unset, .unset, .unset, .unset] [(.int p2)])) _
      refine XS.iconst X0.here hx rfl (hb hby at_1) ?_
      show Steps pP.tables eE below (s₁.setTop (mkF mM 2 #[.val (.long p0), .second, .val (.int p1), .val (.int p2), .val (.int p3), .val (.int p4), .val (.int p5), .unset, .unset, .unset, .unset, .unset, .unset, .unset, .unset, .unset, .unset, .unset, .unset] [(.int (3 : Int32)), (.int p2)])) _
      refine XS.iand X0.here hx rfl (hb hby at_2) rfl ?_
      exact kg)
    by_cases hc2 : (p2 &&& (3 : Int32)) = (0 : Int32)
    · refine ⟨s₁, X0, e0, fun tg kg => ?_⟩
      rw [hd.trans (if_pos hc2)] at kg
      refine pre3 tg ?_
      refine XS.ifNo X0.here hx rfl (hb hby at_3) rfl ((if0 _ _).trans (teq hc2).2) ?_
      show Steps pP.tables eE below (s₁.setTop (mkF mM 6 #[.val (.long p0), .second, .val (.int p1), .val (.int p2), .val (.int p3), .val (.int p4), .val (.int p5), .unset, .unset, .unset, .unset, .unset, .unset, .unset, .unset, .unset, .unset, .unset, .unset] [])) _
      refine XS.iconst X0.here hx rfl (hb hby at_6) ?_
      show Steps pP.tables eE below (s₁.setTop (mkF mM 7 #[.val (.long p0), .second, .val (.int p1), .val (.int p2), .val (.int p3), .val (.int p4), .val (.int p5), .unset, .unset, .unset, .unset, .unset, .unset, .unset, .unset, .unset, .unset, .unset, .unset] [(.int (-1 : Int32))])) _
      refine XS.goto X0.here hx rfl (pc0 := 7) (pc' := 17) rfl (hb hby at_7) (by decide) (by decide) ?_
      exact kg
    · refine ⟨s₁, X0, e0, fun tg kg => ?_⟩
      rw [hd.trans (if_neg hc2)] at kg
      refine pre3 tg ?_
      refine XS.ifYes X0.here hx rfl (pc0 := 3) (pc' := 10) rfl (hb hby at_3) rfl ((if0 _ _).trans (feq hc2).2) (by decide) (by decide) ?_
      show Steps pP.tables eE below (s₁.setTop (mkF mM 10 #[.val (.long p0), .second, .val (.int p1), .val (.int p2), .val (.int p3), .val (.int p4), .val (.int p5), .unset, .unset, .unset, .unset, .unset, .unset, .unset, .unset, .unset, .unset, .unset, .unset] [])) _
      refine XS.iloadN X0.here hx rfl (hb hby at_10) rfl ?_
      show Steps pP.tables eE below (s₁.setTop (mkF mM 11 #[.val (.long p0), .second, .val (.int p1), .val (.int p2), .val (.int p3), .val (.int p4), .val (.int p5), .unset, .unset, .unset, .unset, .unset, .unset, .unset, .unset, .unset, .unset, .unset, .unset] [(.int p2)])) _
      refine XS.iconst X0.here hx rfl (hb hby at_11) ?_
      show Steps pP.tables eE below (s₁.setTop (mkF mM 12 #[.val (.long p0), .second, .val (.int p1), .val (.int p2), .val (.int p3), .val (.int p4), .val (.int p5), .unset, .unset, .unset, .unset, .unset, .unset, .unset, .unset, .unset, .unset, .unset, .unset] [(.int (2 : Int32)), (.int p2)])) _
      refine XS.iushr X0.here hx rfl (hb hby at_12) rfl ?_
      show Steps pP.tables eE below (s₁.setTop (mkF mM 13 #[.val (.long p0), .second, .val (.int p1), .val (.int p2), .val (.int p3), .val (.int p4), .val (.int p5), .unset, .unset, .unset, .unset, .unset, .unset, .unset, .unset, .unset, .unset, .unset, .unset] [(.int ((p2.toUInt32 >>> ((2 : Int32) &&& 31).toUInt32).toInt32))])) _
      refine XS.sipush X0.here hx rfl (hb hby at_13) ?_
      show Steps pP.tables eE below (s₁.setTop (mkF mM 16 #[.val (.long p0), .second, .val (.int p1), .val (.int p2), .val (.int p3), .val (.int p4), .val (.int p5), .unset, .unset, .unset, .unset, .unset, .unset, .unset, .unset, .unset, .unset, .unset, .unset] [(.int (255 : Int32)), (.int ((p2.toUInt32 >>> ((2 : Int32) &&& 31).toUInt32).toInt32))])) _
      refine XS.iand X0.here hx rfl (hb hby at_16) rfl ?_
      exact kg)
  let Ls4 : Array Slot := #[.val (.long p0), .second, .val (.int p1), .val (.int p2), .val (.int p3), .val (.int p4), .val (.int p5), .val (.int d), .unset, .unset, .unset, .unset, .unset, .unset, .unset, .unset, .unset, .unset, .unset]
  obtain ⟨T5, h5, k5, X5, e5, E5, A5, st5⟩ := newP X1 hx hZ (aty := .char) (w_0 hw) e1 (g := (mkF mM 21 Ls4 [(.int (10 : Int32))])) rfl (hb hby at_21) rfl (by decide) (cap := 10) (by decide) (by decide) (by decide) (by decide)
  obtain ⟨b5, g5⟩ : ∃ z, z = h0.size := ⟨_, rfl⟩
  rw [← g5] at A5 st5
  have g_b5 : n0 ≤ b5 := Nat.le_trans (own_osz O0) (Nat.le_of_eq g5.symm)
  have sz_b5 : h0.size ≤ b5 := Nat.le_trans K0.1 (Nat.le_of_eq g5.symm)
  have K6 : Keep h0 h5 [] := K0.ext E5
  have V5 : Arv Z h5 b5 k5 .char (10 : Int32) [(.int (0 : Int32)), (.int (0 : Int32)), (.int (0 : Int32)), (.int (0 : Int32)), (.int (0 : Int32)), (.int (0 : Int32)), (.int (0 : Int32)), (.int (0 : Int32)), (.int (0 : Int32)), (.int (0 : Int32))] (.int (0 : Int32)) := (Arv.new A5 (by decide)).pad (pad_rep [] (.int (0 : Int32)) 10)
  let Ls7 : Array Slot := #[.val (.long p0), .second, .val (.int p1), .val (.int p2), .val (.int p3), .val (.int p4), .val (.int p5), .val (.int d), .val (.ref b5), .unset, .unset, .unset, .unset, .unset, .unset, .unset, .unset, .unset, .unset]
  have f8 := (O0.ext E5)
  obtain ⟨_, _, ⟨T9, L9, k9, n9⟩, -, X9, ⟨Lc9, hQ9, l9, y9, z9⟩, st9⟩ := Jvm.LawKit.callS X5 hx (y := (⟨"com/example/resultwire/resultwire/er7/PieceIndexEndPinLaw", "ch", "(JIII)C"⟩ : MethodName)) hown (mvT hZ (w_2 hw)) (mvT hZ (w_3 hw)) (mvT hZ (w_4 hw)) (mvT hZ (w_5 hw)) (by decide) (backOf (W := 2) (rm_chc l Z a0 hw [] (p0 &&& (255 : Int64)) p2 (0 : Int32) d h5 n0 f8 (own_l255 _ : ¬ (p0 &&& (255 : Int64)).toInt32 < 0 ∧ ¬ (255 : Int32) < (p0 &&& (255 : Int64)).toInt32) (hdb : ¬ (255 : Int32) < d)) hZ (w_5 hw) (w_4 hw) (by decide) (by decide)) (g := (mkF mM 37 Ls7 [(.int d), (.int (0 : Int32)), (.int p2), (.long (p0 &&& (255 : Int64))), (.int (0 : Int32)), (.ref b5)])) rfl (by rw [hml]; rfl) (argsL := [(.long (p0 &&& (255 : Int64))), (.int p2), (.int (0 : Int32)), (.int d)]) (rest := [(.int (0 : Int32)), (.ref b5)]) (lenOf pd_11 rfl) rfl (by show 2 * 0 + _ ≤ _; exact Nat.le_of_eq rfl) (hb hby at_37) (fun _ _ => ⟨rfl, e5, (by decide : 1 + 0 ≤ _), (by decide : 10 + 0 ≤ _)⟩)
  dsimp only [Pt.U, Pt.locs, Pt.cells, Pt.slots] at X9 l9 y9 z9 st9 hQ9
  subst l9 y9 z9
  obtain ⟨rfl, rfl, Kq9⟩ := hQ9
  try rw [List.append_nil] at X9
  obtain ⟨x0, hx0⟩ : ∃ z, z = (own_ck (p0 &&& (255 : Int64)) p2 (0 : Int32) d) := ⟨_, rfl⟩
  have hxb0 : ¬ x0 < 0 ∧ ¬ (255 : Int32) < x0 := hx0 ▸ own_ckb (own_l255 _) hdb
  obtain ⟨cl10, Ar10, qk10, S10, Nn10, Hh10, G10⟩ := id V5
  have hin10 : ¬ ((0 : Int32) < 0 ∨ cl10.slots.size ≤ ((0 : Int32)).toNatClampNeg) := inb_of S10 ⟨by decide, by decide⟩
  obtain ⟨T10, h10, X10, e10, W10, st10⟩ := stC X9 hx hZ Kq9 Ar10 (j := (0 : Int32)) hin10 (g := (mkF mM 40 Ls7 [(.int x0), (.int (0 : Int32)), (.ref b5)])) rfl rfl (hb hby at_40)
  rw [own_nc hxb0] at W10
  have K11 : Keep h0 h10 [] := K6.wr W10 (Or.inr sz_b5)
  have V10 : Arv Z h10 b5 k5 .char (10 : Int32) [(.int x0), (.int (0 : Int32)), (.int (0 : Int32)), (.int (0 : Int32)), (.int (0 : Int32)), (.int (0 : Int32)), (.int (0 : Int32)), (.int (0 : Int32)), (.int (0 : Int32)), (.int (0 : Int32))] (.int (0 : Int32)) := Arv.set Ar10 qk10 S10 Nn10 Hh10 G10 (own_nc hxb0 ▸ fits_nar_char _) W10 0 rfl (Nat.le_of_ble_eq_true rfl)
  have N10 := Fr.snoc X10 N0 g_b5
  have f12 := (f8.wr W10 g_b5)
  obtain ⟨_, _, ⟨T13, L13, k13, n13⟩, -, X13, ⟨Lc13, hQ13, l13, y13, z13⟩, st13⟩ := Jvm.LawKit.callS X10 hx (y := (⟨"com/example/resultwire/resultwire/er7/PieceIndexEndPinLaw", "ch", "(JIII)C"⟩ : MethodName)) hown (mvT hZ (w_2 hw)) (mvT hZ (w_3 hw)) (mvT hZ (w_4 hw)) (mvT hZ (w_5 hw)) (by decide) (backOf (W := 2) (rm_chc l Z a0 hw [] (((p0.toUInt64 >>> ((8 : Int32) &&& 0x3f).toInt64.toUInt64).toInt64) &&& (255 : Int64)) p2 (1 : Int32) d h10 n0 f12 (own_l255 _ : ¬ (((p0.toUInt64 >>> ((8 : Int32) &&& 0x3f).toInt64.toUInt64).toInt64) &&& (255 : Int64)).toInt32 < 0 ∧ ¬ (255 : Int32) < (((p0.toUInt64 >>> ((8 : Int32) &&& 0x3f).toInt64.toUInt64).toInt64) &&& (255 : Int64)).toInt32) (hdb : ¬ (255 : Int32) < d)) hZ (w_5 hw) (w_4 hw) (by decide) (by decide)) (g := (mkF mM 56 Ls7 [(.int d), (.int (1 : Int32)), (.int p2), (.long (((p0.toUInt64 >>> ((8 : Int32) &&& 0x3f).toInt64.toUInt64).toInt64) &&& (255 : Int64))), (.int (1 : Int32)), (.ref b5)])) rfl (by rw [hml]; rfl) (argsL := [(.long (((p0.toUInt64 >>> ((8 : Int32) &&& 0x3f).toInt64.toUInt64).toInt64) &&& (255 : Int64))), (.int p2), (.int (1 : Int32)), (.int d)]) (rest := [(.int (1 : Int32)), (.ref b5)]) (lenOf pd_11 rfl) rfl (by show 2 * 0 + _ ≤ _; exact Nat.le_of_eq rfl) (hb hby at_56) (fun _ _ => ⟨rfl, e10, (by decide : 1 + 0 ≤ _), (by decide : 10 + 0 ≤ _)⟩)
  dsimp only [Pt.U, Pt.locs, Pt.cells, Pt.slots] at X13 l13 y13 z13 st13 hQ13
  subst l13 y13 z13
  obtain ⟨rfl, rfl, Kq13⟩ := hQ13
  try rw [List.append_nil] at X13
  obtain ⟨x1, hx1⟩ : ∃ z, z = (own_ck (((p0.toUInt64 >>> ((8 : Int32) &&& 0x3f).toInt64.toUInt64).toInt64) &&& (255 : Int64)) p2 (1 : Int32) d) := ⟨_, rfl⟩
  have hxb1 : ¬ x1 < 0 ∧ ¬ (255 : Int32) < x1 := hx1 ▸ own_ckb (own_l255 _) hdb
  obtain ⟨cl14, Ar14, qk14, S14, Nn14, Hh14, G14⟩ := id V10
  have hin14 : ¬ ((1 : Int32) < 0 ∨ cl14.slots.size ≤ ((1 : Int32)).toNatClampNeg) := inb_of S14 ⟨by decide, by decide⟩
  obtain ⟨T14, h14, X14, e14, W14, st14⟩ := stC X13 hx hZ Kq13 Ar14 (j := (1 : Int32)) hin14 (g := (mkF mM 59 Ls7 [(.int x1), (.int (1 : Int32)), (.ref b5)])) rfl rfl (hb hby at_59)
  rw [own_nc hxb1] at W14
  have K15 : Keep h0 h14 [] := K11.wr W14 (Or.inr sz_b5)
  have V14 : Arv Z h14 b5 k5 .char (10 : Int32) [(.int x0), (.int x1), (.int (0 : Int32)), (.int (0 : Int32)), (.int (0 : Int32)), (.int (0 : Int32)), (.int (0 : Int32)), (.int (0 : Int32)), (.int (0 : Int32)), (.int (0 : Int32))] (.int (0 : Int32)) := Arv.set Ar14 qk14 S14 Nn14 Hh14 G14 (own_nc hxb1 ▸ fits_nar_char _) W14 1 rfl (Nat.le_of_ble_eq_true rfl)
  have N14 := Fr.snoc X14 N10 g_b5
  have f16 := (f12.wr W14 g_b5)
  obtain ⟨_, _, ⟨T17, L17, k17, n17⟩, -, X17, ⟨Lc17, hQ17, l17, y17, z17⟩, st17⟩ := Jvm.LawKit.callS X14 hx (y := (⟨"com/example/resultwire/resultwire/er7/PieceIndexEndPinLaw", "ch", "(JIII)C"⟩ : MethodName)) hown (mvT hZ (w_2 hw)) (mvT hZ (w_3 hw)) (mvT hZ (w_4 hw)) (mvT hZ (w_5 hw)) (by decide) (backOf (W := 2) (rm_chc l Z a0 hw [] (((p0.toUInt64 >>> ((16 : Int32) &&& 0x3f).toInt64.toUInt64).toInt64) &&& (255 : Int64)) p2 (2 : Int32) d h14 n0 f16 (own_l255 _ : ¬ (((p0.toUInt64 >>> ((16 : Int32) &&& 0x3f).toInt64.toUInt64).toInt64) &&& (255 : Int64)).toInt32 < 0 ∧ ¬ (255 : Int32) < (((p0.toUInt64 >>> ((16 : Int32) &&& 0x3f).toInt64.toUInt64).toInt64) &&& (255 : Int64)).toInt32) (hdb : ¬ (255 : Int32) < d)) hZ (w_5 hw) (w_4 hw) (by decide) (by decide)) (g := (mkF mM 75 Ls7 [(.int d), (.int (2 : Int32)), (.int p2), (.long (((p0.toUInt64 >>> ((16 : Int32) &&& 0x3f).toInt64.toUInt64).toInt64) &&& (255 : Int64))), (.int (2 : Int32)), (.ref b5)])) rfl (by rw [hml]; rfl) (argsL := [(.long (((p0.toUInt64 >>> ((16 : Int32) &&& 0x3f).toInt64.toUInt64).toInt64) &&& (255 : Int64))), (.int p2), (.int (2 : Int32)), (.int d)]) (rest := [(.int (2 : Int32)), (.ref b5)]) (lenOf pd_11 rfl) rfl (by show 2 * 0 + _ ≤ _; exact Nat.le_of_eq rfl) (hb hby at_75) (fun _ _ => ⟨rfl, e14, (by decide : 1 + 0 ≤ _), (by decide : 10 + 0 ≤ _)⟩)
  dsimp only [Pt.U, Pt.locs, Pt.cells, Pt.slots] at X17 l17 y17 z17 st17 hQ17
  subst l17 y17 z17
  obtain ⟨rfl, rfl, Kq17⟩ := hQ17
  try rw [List.append_nil] at X17
  obtain ⟨x2, hx2⟩ : ∃ z, z = (own_ck (((p0.toUInt64 >>> ((16 : Int32) &&& 0x3f).toInt64.toUInt64).toInt64) &&& (255 : Int64)) p2 (2 : Int32) d) := ⟨_, rfl⟩
  have hxb2 : ¬ x2 < 0 ∧ ¬ (255 : Int32) < x2 := hx2 ▸ own_ckb (own_l255 _) hdb
  obtain ⟨cl18, Ar18, qk18, S18, Nn18, Hh18, G18⟩ := id V14
  have hin18 : ¬ ((2 : Int32) < 0 ∨ cl18.slots.size ≤ ((2 : Int32)).toNatClampNeg) := inb_of S18 ⟨by decide, by decide⟩
  obtain ⟨T18, h18, X18, e18, W18, st18⟩ := stC X17 hx hZ Kq17 Ar18 (j := (2 : Int32)) hin18 (g := (mkF mM 78 Ls7 [(.int x2), (.int (2 : Int32)), (.ref b5)])) rfl rfl (hb hby at_78)
  rw [own_nc hxb2] at W18
  have K19 : Keep h0 h18 [] := K15.wr W18 (Or.inr sz_b5)
  have V18 : Arv Z h18 b5 k5 .char (10 : Int32) [(.int x0), (.int x1), (.int x2), (.int (0 : Int32)), (.int (0 : Int32)), (.int (0 : Int32)), (.int (0 : Int32)), (.int (0 : Int32)), (.int (0 : Int32)), (.int (0 : Int32))] (.int (0 : Int32)) := Arv.set Ar18 qk18 S18 Nn18 Hh18 G18 (own_nc hxb2 ▸ fits_nar_char _) W18 2 rfl (Nat.le_of_ble_eq_true rfl)
  have N18 := Fr.snoc X18 N14 g_b5
  have f20 := (f16.wr W18 g_b5)
  obtain ⟨_, _, ⟨T21, L21, k21, n21⟩, -, X21, ⟨Lc21, hQ21, l21, y21, z21⟩, st21⟩ := Jvm.LawKit.callS X18 hx (y := (⟨"com/example/resultwire/resultwire/er7/PieceIndexEndPinLaw", "ch", "(JIII)C"⟩ : MethodName)) hown (mvT hZ (w_2 hw)) (mvT hZ (w_3 hw)) (mvT hZ (w_4 hw)) (mvT hZ (w_5 hw)) (by decide) (backOf (W := 2) (rm_chc l Z a0 hw [] (((p0.toUInt64 >>> ((24 : Int32) &&& 0x3f).toInt64.toUInt64).toInt64) &&& (255 : Int64)) p2 (3 : Int32) d h18 n0 f20 (own_l255 _ : ¬ (((p0.toUInt64 >>> ((24 : Int32) &&& 0x3f).toInt64.toUInt64).toInt64) &&& (255 : Int64)).toInt32 < 0 ∧ ¬ (255 : Int32) < (((p0.toUInt64 >>> ((24 : Int32) &&& 0x3f).toInt64.toUInt64).toInt64) &&& (255 : Int64)).toInt32) (hdb : ¬ (255 : Int32) < d)) hZ (w_5 hw) (w_4 hw) (by decide) (by decide)) (g := (mkF mM 94 Ls7 [(.int d), (.int (3 : Int32)), (.int p2), (.long (((p0.toUInt64 >>> ((24 : Int32) &&& 0x3f).toInt64.toUInt64).toInt64) &&& (255 : Int64))), (.int (3 : Int32)), (.ref b5)])) rfl (by rw [hml]; rfl) (argsL := [(.long (((p0.toUInt64 >>> ((24 : Int32) &&& 0x3f).toInt64.toUInt64).toInt64) &&& (255 : Int64))), (.int p2), (.int (3 : Int32)), (.int d)]) (rest := [(.int (3 : Int32)), (.ref b5)]) (lenOf pd_11 rfl) rfl (by show 2 * 0 + _ ≤ _; exact Nat.le_of_eq rfl) (hb hby at_94) (fun _ _ => ⟨rfl, e18, (by decide : 1 + 0 ≤ _), (by decide : 10 + 0 ≤ _)⟩)
  dsimp only [Pt.U, Pt.locs, Pt.cells, Pt.slots] at X21 l21 y21 z21 st21 hQ21
  subst l21 y21 z21
  obtain ⟨rfl, rfl, Kq21⟩ := hQ21
  try rw [List.append_nil] at X21
  obtain ⟨x3, hx3⟩ : ∃ z, z = (own_ck (((p0.toUInt64 >>> ((24 : Int32) &&& 0x3f).toInt64.toUInt64).toInt64) &&& (255 : Int64)) p2 (3 : Int32) d) := ⟨_, rfl⟩
  have hxb3 : ¬ x3 < 0 ∧ ¬ (255 : Int32) < x3 := hx3 ▸ own_ckb (own_l255 _) hdb
  obtain ⟨cl22, Ar22, qk22, S22, Nn22, Hh22, G22⟩ := id V18
  have hin22 : ¬ ((3 : Int32) < 0 ∨ cl22.slots.size ≤ ((3 : Int32)).toNatClampNeg) := inb_of S22 ⟨by decide, by decide⟩
  obtain ⟨T22, h22, X22, e22, W22, st22⟩ := stC X21 hx hZ Kq21 Ar22 (j := (3 : Int32)) hin22 (g := (mkF mM 97 Ls7 [(.int x3), (.int (3 : Int32)), (.ref b5)])) rfl rfl (hb hby at_97)
  rw [own_nc hxb3] at W22
  have K23 : Keep h0 h22 [] := K19.wr W22 (Or.inr sz_b5)
  have V22 : Arv Z h22 b5 k5 .char (10 : Int32) [(.int x0), (.int x1), (.int x2), (.int x3), (.int (0 : Int32)), (.int (0 : Int32)), (.int (0 : Int32)), (.int (0 : Int32)), (.int (0 : Int32)), (.int (0 : Int32))] (.int (0 : Int32)) := Arv.set Ar22 qk22 S22 Nn22 Hh22 G22 (own_nc hxb3 ▸ fits_nar_char _) W22 3 rfl (Nat.le_of_ble_eq_true rfl)
  have N22 := Fr.snoc X22 N18 g_b5
  have f24 := (f20.wr W22 g_b5)
  obtain ⟨_, _, ⟨T25, L25, k25, n25⟩, -, X25, ⟨Lc25, hQ25, l25, y25, z25⟩, st25⟩ := Jvm.LawKit.callS X22 hx (y := (⟨"com/example/resultwire/resultwire/er7/PieceIndexEndPinLaw", "ch", "(JIII)C"⟩ : MethodName)) hown (mvT hZ (w_2 hw)) (mvT hZ (w_3 hw)) (mvT hZ (w_4 hw)) (mvT hZ (w_5 hw)) (by decide) (backOf (W := 2) (rm_chc l Z a0 hw [] (((p0.toUInt64 >>> ((32 : Int32) &&& 0x3f).toInt64.toUInt64).toInt64) &&& (255 : Int64)) p2 (4 : Int32) d h22 n0 f24 (own_l255 _ : ¬ (((p0.toUInt64 >>> ((32 : Int32) &&& 0x3f).toInt64.toUInt64).toInt64) &&& (255 : Int64)).toInt32 < 0 ∧ ¬ (255 : Int32) < (((p0.toUInt64 >>> ((32 : Int32) &&& 0x3f).toInt64.toUInt64).toInt64) &&& (255 : Int64)).toInt32) (hdb : ¬ (255 : Int32) < d)) hZ (w_5 hw) (w_4 hw) (by decide) (by decide)) (g := (mkF mM 113 Ls7 [(.int d), (.int (4 : Int32)), (.int p2), (.long (((p0.toUInt64 >>> ((32 : Int32) &&& 0x3f).toInt64.toUInt64).toInt64) &&& (255 : Int64))), (.int (4 : Int32)), (.ref b5)])) rfl (by rw [hml]; rfl) (argsL := [(.long (((p0.toUInt64 >>> ((32 : Int32) &&& 0x3f).toInt64.toUInt64).toInt64) &&& (255 : Int64))), (.int p2), (.int (4 : Int32)), (.int d)]) (rest := [(.int (4 : Int32)), (.ref b5)]) (lenOf pd_11 rfl) rfl (by show 2 * 0 + _ ≤ _; exact Nat.le_of_eq rfl) (hb hby at_113) (fun _ _ => ⟨rfl, e22, (by decide : 1 + 0 ≤ _), (by decide : 10 + 0 ≤ _)⟩)
  dsimp only [Pt.U, Pt.locs, Pt.cells, Pt.slots] at X25 l25 y25 z25 st25 hQ25
  subst l25 y25 z25
  obtain ⟨rfl, rfl, Kq25⟩ := hQ25
  try rw [List.append_nil] at X25
  obtain ⟨x4, hx4⟩ : ∃ z, z = (own_ck (((p0.toUInt64 >>> ((32 : Int32) &&& 0x3f).toInt64.toUInt64).toInt64) &&& (255 : Int64)) p2 (4 : Int32) d) := ⟨_, rfl⟩
  have hxb4 : ¬ x4 < 0 ∧ ¬ (255 : Int32) < x4 := hx4 ▸ own_ckb (own_l255 _) hdb
  obtain ⟨cl26, Ar26, qk26, S26, Nn26, Hh26, G26⟩ := id V22
  have hin26 : ¬ ((4 : Int32) < 0 ∨ cl26.slots.size ≤ ((4 : Int32)).toNatClampNeg) := inb_of S26 ⟨by decide, by decide⟩
  obtain ⟨T26, h26, X26, e26, W26, st26⟩ := stC X25 hx hZ Kq25 Ar26 (j := (4 : Int32)) hin26 (g := (mkF mM 116 Ls7 [(.int x4), (.int (4 : Int32)), (.ref b5)])) rfl rfl (hb hby at_116)
  rw [own_nc hxb4] at W26
  have K27 : Keep h0 h26 [] := K23.wr W26 (Or.inr sz_b5)
  have V26 : Arv Z h26 b5 k5 .char (10 : Int32) [(.int x0), (.int x1), (.int x2), (.int x3), (.int x4), (.int (0 : Int32)), (.int (0 : Int32)), (.int (0 : Int32)), (.int (0 : Int32)), (.int (0 : Int32))] (.int (0 : Int32)) := Arv.set Ar26 qk26 S26 Nn26 Hh26 G26 (own_nc hxb4 ▸ fits_nar_char _) W26 4 rfl (Nat.le_of_ble_eq_true rfl)
  have N26 := Fr.snoc X26 N22 g_b5
  have f28 := (f24.wr W26 g_b5)
  obtain ⟨_, _, ⟨T29, L29, k29, n29⟩, -, X29, ⟨Lc29, hQ29, l29, y29, z29⟩, st29⟩ := Jvm.LawKit.callS X26 hx (y := (⟨"com/example/resultwire/resultwire/er7/PieceIndexEndPinLaw", "ch", "(JIII)C"⟩ : MethodName)) hown (mvT hZ (w_2 hw)) (mvT hZ (w_3 hw)) (mvT hZ (w_4 hw)) (mvT hZ (w_5 hw)) (by decide) (backOf (W := 2) (rm_chc l Z a0 hw [] (((p0.toUInt64 >>> ((40 : Int32) &&& 0x3f).toInt64.toUInt64).toInt64) &&& (255 : Int64)) p2 (5 : Int32) d h26 n0 f28 (own_l255 _ : ¬ (((p0.toUInt64 >>> ((40 : Int32) &&& 0x3f).toInt64.toUInt64).toInt64) &&& (255 : Int64)).toInt32 < 0 ∧ ¬ (255 : Int32) < (((p0.toUInt64 >>> ((40 : Int32) &&& 0x3f).toInt64.toUInt64).toInt64) &&& (255 : Int64)).toInt32) (hdb : ¬ (255 : Int32) < d)) hZ (w_5 hw) (w_4 hw) (by decide) (by decide)) (g := (mkF mM 132 Ls7 [(.int d), (.int (5 : Int32)), (.int p2), (.long (((p0.toUInt64 >>> ((40 : Int32) &&& 0x3f).toInt64.toUInt64).toInt64) &&& (255 : Int64))), (.int (5 : Int32)), (.ref b5)])) rfl (by rw [hml]; rfl) (argsL := [(.long (((p0.toUInt64 >>> ((40 : Int32) &&& 0x3f).toInt64.toUInt64).toInt64) &&& (255 : Int64))), (.int p2), (.int (5 : Int32)), (.int d)]) (rest := [(.int (5 : Int32)), (.ref b5)]) (lenOf pd_11 rfl) rfl (by show 2 * 0 + _ ≤ _; exact Nat.le_of_eq rfl) (hb hby at_132) (fun _ _ => ⟨rfl, e26, (by decide : 1 + 0 ≤ _), (by decide : 10 + 0 ≤ _)⟩)
  dsimp only [Pt.U, Pt.locs, Pt.cells, Pt.slots] at X29 l29 y29 z29 st29 hQ29
  subst l29 y29 z29
  obtain ⟨rfl, rfl, Kq29⟩ := hQ29
  try rw [List.append_nil] at X29
  obtain ⟨x5, hx5⟩ : ∃ z, z = (own_ck (((p0.toUInt64 >>> ((40 : Int32) &&& 0x3f).toInt64.toUInt64).toInt64) &&& (255 : Int64)) p2 (5 : Int32) d) := ⟨_, rfl⟩
  have hxb5 : ¬ x5 < 0 ∧ ¬ (255 : Int32) < x5 := hx5 ▸ own_ckb (own_l255 _) hdb
  obtain ⟨cl30, Ar30, qk30, S30, Nn30, Hh30, G30⟩ := id V26
  have hin30 : ¬ ((5 : Int32) < 0 ∨ cl30.slots.size ≤ ((5 : Int32)).toNatClampNeg) := inb_of S30 ⟨by decide, by decide⟩
  obtain ⟨T30, h30, X30, e30, W30, st30⟩ := stC X29 hx hZ Kq29 Ar30 (j := (5 : Int32)) hin30 (g := (mkF mM 135 Ls7 [(.int x5), (.int (5 : Int32)), (.ref b5)])) rfl rfl (hb hby at_135)
  rw [own_nc hxb5] at W30
  have K31 : Keep h0 h30 [] := K27.wr W30 (Or.inr sz_b5)
  have V30 : Arv Z h30 b5 k5 .char (10 : Int32) [(.int x0), (.int x1), (.int x2), (.int x3), (.int x4), (.int x5), (.int (0 : Int32)), (.int (0 : Int32)), (.int (0 : Int32)), (.int (0 : Int32))] (.int (0 : Int32)) := Arv.set Ar30 qk30 S30 Nn30 Hh30 G30 (own_nc hxb5 ▸ fits_nar_char _) W30 5 rfl (Nat.le_of_ble_eq_true rfl)
  have N30 := Fr.snoc X30 N26 g_b5
  have f32 := (f28.wr W30 g_b5)
  obtain ⟨_, _, ⟨T33, L33, k33, n33⟩, -, X33, ⟨Lc33, hQ33, l33, y33, z33⟩, st33⟩ := Jvm.LawKit.callS X30 hx (y := (⟨"com/example/resultwire/resultwire/er7/PieceIndexEndPinLaw", "ch", "(JIII)C"⟩ : MethodName)) hown (mvT hZ (w_2 hw)) (mvT hZ (w_3 hw)) (mvT hZ (w_4 hw)) (mvT hZ (w_5 hw)) (by decide) (backOf (W := 2) (rm_chc l Z a0 hw [] (((p0.toUInt64 >>> ((48 : Int32) &&& 0x3f).toInt64.toUInt64).toInt64) &&& (255 : Int64)) p2 (6 : Int32) d h30 n0 f32 (own_l255 _ : ¬ (((p0.toUInt64 >>> ((48 : Int32) &&& 0x3f).toInt64.toUInt64).toInt64) &&& (255 : Int64)).toInt32 < 0 ∧ ¬ (255 : Int32) < (((p0.toUInt64 >>> ((48 : Int32) &&& 0x3f).toInt64.toUInt64).toInt64) &&& (255 : Int64)).toInt32) (hdb : ¬ (255 : Int32) < d)) hZ (w_5 hw) (w_4 hw) (by decide) (by decide)) (g := (mkF mM 153 Ls7 [(.int d), (.int (6 : Int32)), (.int p2), (.long (((p0.toUInt64 >>> ((48 : Int32) &&& 0x3f).toInt64.toUInt64).toInt64) &&& (255 : Int64))), (.int (6 : Int32)), (.ref b5)])) rfl (by rw [hml]; rfl) (argsL := [(.long (((p0.toUInt64 >>> ((48 : Int32) &&& 0x3f).toInt64.toUInt64).toInt64) &&& (255 : Int64))), (.int p2), (.int (6 : Int32)), (.int d)]) (rest := [(.int (6 : Int32)), (.ref b5)]) (lenOf pd_11 rfl) rfl (by show 2 * 0 + _ ≤ _; exact Nat.le_of_eq rfl) (hb hby at_153) (fun _ _ => ⟨rfl, e30, (by decide : 1 + 0 ≤ _), (by decide : 10 + 0 ≤ _)⟩)
  dsimp only [Pt.U, Pt.locs, Pt.cells, Pt.slots] at X33 l33 y33 z33 st33 hQ33
  subst l33 y33 z33
  obtain ⟨rfl, rfl, Kq33⟩ := hQ33
  try rw [List.append_nil] at X33
  obtain ⟨x6, hx6⟩ : ∃ z, z = (own_ck (((p0.toUInt64 >>> ((48 : Int32) &&& 0x3f).toInt64.toUInt64).toInt64) &&& (255 : Int64)) p2 (6 : Int32) d) := ⟨_, rfl⟩
  have hxb6 : ¬ x6 < 0 ∧ ¬ (255 : Int32) < x6 := hx6 ▸ own_ckb (own_l255 _) hdb
  obtain ⟨cl34, Ar34, qk34, S34, Nn34, Hh34, G34⟩ := id V30
  have hin34 : ¬ ((6 : Int32) < 0 ∨ cl34.slots.size ≤ ((6 : Int32)).toNatClampNeg) := inb_of S34 ⟨by decide, by decide⟩
  obtain ⟨T34, h34, X34, e34, W34, st34⟩ := stC X33 hx hZ Kq33 Ar34 (j := (6 : Int32)) hin34 (g := (mkF mM 156 Ls7 [(.int x6), (.int (6 : Int32)), (.ref b5)])) rfl rfl (hb hby at_156)
  rw [own_nc hxb6] at W34
  have K35 : Keep h0 h34 [] := K31.wr W34 (Or.inr sz_b5)
  have V34 : Arv Z h34 b5 k5 .char (10 : Int32) [(.int x0), (.int x1), (.int x2), (.int x3), (.int x4), (.int x5), (.int x6), (.int (0 : Int32)), (.int (0 : Int32)), (.int (0 : Int32))] (.int (0 : Int32)) := Arv.set Ar34 qk34 S34 Nn34 Hh34 G34 (own_nc hxb6 ▸ fits_nar_char _) W34 6 rfl (Nat.le_of_ble_eq_true rfl)
  have N34 := Fr.snoc X34 N30 g_b5
  have f36 := (f32.wr W34 g_b5)
  obtain ⟨_, _, ⟨T37, L37, k37, n37⟩, -, X37, ⟨Lc37, hQ37, l37, y37, z37⟩, st37⟩ := Jvm.LawKit.callS X34 hx (y := (⟨"com/example/resultwire/resultwire/er7/PieceIndexEndPinLaw", "ch", "(JIII)C"⟩ : MethodName)) hown (mvT hZ (w_2 hw)) (mvT hZ (w_3 hw)) (mvT hZ (w_4 hw)) (mvT hZ (w_5 hw)) (by decide) (backOf (W := 2) (rm_chc l Z a0 hw [] (((p0.toUInt64 >>> ((56 : Int32) &&& 0x3f).toInt64.toUInt64).toInt64) &&& (255 : Int64)) p2 (7 : Int32) d h34 n0 f36 (own_l255 _ : ¬ (((p0.toUInt64 >>> ((56 : Int32) &&& 0x3f).toInt64.toUInt64).toInt64) &&& (255 : Int64)).toInt32 < 0 ∧ ¬ (255 : Int32) < (((p0.toUInt64 >>> ((56 : Int32) &&& 0x3f).toInt64.toUInt64).toInt64) &&& (255 : Int64)).toInt32) (hdb : ¬ (255 : Int32) < d)) hZ (w_5 hw) (w_4 hw) (by decide) (by decide)) (g := (mkF mM 174 Ls7 [(.int d), (.int (7 : Int32)), (.int p2), (.long (((p0.toUInt64 >>> ((56 : Int32) &&& 0x3f).toInt64.toUInt64).toInt64) &&& (255 : Int64))), (.int (7 : Int32)), (.ref b5)])) rfl (by rw [hml]; rfl) (argsL := [(.long (((p0.toUInt64 >>> ((56 : Int32) &&& 0x3f).toInt64.toUInt64).toInt64) &&& (255 : Int64))), (.int p2), (.int (7 : Int32)), (.int d)]) (rest := [(.int (7 : Int32)), (.ref b5)]) (lenOf pd_11 rfl) rfl (by show 2 * 0 + _ ≤ _; exact Nat.le_of_eq rfl) (hb hby at_174) (fun _ _ => ⟨rfl, e34, (by decide : 1 + 0 ≤ _), (by decide : 10 + 0 ≤ _)⟩)
  dsimp only [Pt.U, Pt.locs, Pt.cells, Pt.slots] at X37 l37 y37 z37 st37 hQ37
  subst l37 y37 z37
  obtain ⟨rfl, rfl, Kq37⟩ := hQ37
  try rw [List.append_nil] at X37
  obtain ⟨x7, hx7⟩ : ∃ z, z = (own_ck (((p0.toUInt64 >>> ((56 : Int32) &&& 0x3f).toInt64.toUInt64).toInt64) &&& (255 : Int64)) p2 (7 : Int32) d) := ⟨_, rfl⟩
  have hxb7 : ¬ x7 < 0 ∧ ¬ (255 : Int32) < x7 := hx7 ▸ own_ckb (own_l255 _) hdb
  obtain ⟨cl38, Ar38, qk38, S38, Nn38, Hh38, G38⟩ := id V34
  have hin38 : ¬ ((7 : Int32) < 0 ∨ cl38.slots.size ≤ ((7 : Int32)).toNatClampNeg) := inb_of S38 ⟨by decide, by decide⟩
  obtain ⟨T38, h38, X38, e38, W38, st38⟩ := stC X37 hx hZ Kq37 Ar38 (j := (7 : Int32)) hin38 (g := (mkF mM 177 Ls7 [(.int x7), (.int (7 : Int32)), (.ref b5)])) rfl rfl (hb hby at_177)
  rw [own_nc hxb7] at W38
  have K39 : Keep h0 h38 [] := K35.wr W38 (Or.inr sz_b5)
  have V38 : Arv Z h38 b5 k5 .char (10 : Int32) [(.int x0), (.int x1), (.int x2), (.int x3), (.int x4), (.int x5), (.int x6), (.int x7), (.int (0 : Int32)), (.int (0 : Int32))] (.int (0 : Int32)) := Arv.set Ar38 qk38 S38 Nn38 Hh38 G38 (own_nc hxb7 ▸ fits_nar_char _) W38 7 rfl (Nat.le_of_ble_eq_true rfl)
  have N38 := Fr.snoc X38 N34 g_b5
  have f40 := (f36.wr W38 g_b5)
  obtain ⟨_, _, ⟨T41, L41, k41, n41⟩, -, X41, ⟨Lc41, hQ41, l41, y41, z41⟩, st41⟩ := Jvm.LawKit.callS X38 hx (y := (⟨"com/example/resultwire/resultwire/er7/PieceIndexEndPinLaw", "ch", "(JIII)C"⟩ : MethodName)) hown (mvT hZ (w_2 hw)) (mvT hZ (w_3 hw)) (mvT hZ (w_4 hw)) (mvT hZ (w_5 hw)) (by decide) (backOf (W := 2) (rm_chc l Z a0 hw [] ((p1 &&& (255 : Int32)).toInt64) p2 (8 : Int32) d h38 n0 f40 (own_i255 _ : ¬ ((p1 &&& (255 : Int32)).toInt64).toInt32 < 0 ∧ ¬ (255 : Int32) < ((p1 &&& (255 : Int32)).toInt64).toInt32) (hdb : ¬ (255 : Int32) < d)) hZ (w_5 hw) (w_4 hw) (by decide) (by decide)) (g := (mkF mM 193 Ls7 [(.int d), (.int (8 : Int32)), (.int p2), (.long ((p1 &&& (255 : Int32)).toInt64)), (.int (8 : Int32)), (.ref b5)])) rfl (by rw [hml]; rfl) (argsL := [(.long ((p1 &&& (255 : Int32)).toInt64)), (.int p2), (.int (8 : Int32)), (.int d)]) (rest := [(.int (8 : Int32)), (.ref b5)]) (lenOf pd_11 rfl) rfl (by show 2 * 0 + _ ≤ _; exact Nat.le_of_eq rfl) (hb hby at_193) (fun _ _ => ⟨rfl, e38, (by decide : 1 + 0 ≤ _), (by decide : 10 + 0 ≤ _)⟩)
  dsimp only [Pt.U, Pt.locs, Pt.cells, Pt.slots] at X41 l41 y41 z41 st41 hQ41
  subst l41 y41 z41
  obtain ⟨rfl, rfl, Kq41⟩ := hQ41
  try rw [List.append_nil] at X41
  obtain ⟨x8, hx8⟩ : ∃ z, z = (own_ck ((p1 &&& (255 : Int32)).toInt64) p2 (8 : Int32) d) := ⟨_, rfl⟩
  have hxb8 : ¬ x8 < 0 ∧ ¬ (255 : Int32) < x8 := hx8 ▸ own_ckb (own_i255 _) hdb
  obtain ⟨cl42, Ar42, qk42, S42, Nn42, Hh42, G42⟩ := id V38
  have hin42 : ¬ ((8 : Int32) < 0 ∨ cl42.slots.size ≤ ((8 : Int32)).toNatClampNeg) := inb_of S42 ⟨by decide, by decide⟩
  obtain ⟨T42, h42, X42, e42, W42, st42⟩ := stC X41 hx hZ Kq41 Ar42 (j := (8 : Int32)) hin42 (g := (mkF mM 196 Ls7 [(.int x8), (.int (8 : Int32)), (.ref b5)])) rfl rfl (hb hby at_196)
  rw [own_nc hxb8] at W42
  have K43 : Keep h0 h42 [] := K39.wr W42 (Or.inr sz_b5)
  have V42 : Arv Z h42 b5 k5 .char (10 : Int32) [(.int x0), (.int x1), (.int x2), (.int x3), (.int x4), (.int x5), (.int x6), (.int x7), (.int x8), (.int (0 : Int32))] (.int (0 : Int32)) := Arv.set Ar42 qk42 S42 Nn42 Hh42 G42 (own_nc hxb8 ▸ fits_nar_char _) W42 8 rfl (Nat.le_of_ble_eq_true rfl)
  have N42 := Fr.snoc X42 N38 g_b5
  have f44 := (f40.wr W42 g_b5)
  obtain ⟨_, _, ⟨T45, L45, k45, n45⟩, -, X45, ⟨Lc45, hQ45, l45, y45, z45⟩, st45⟩ := Jvm.LawKit.callS X42 hx (y := (⟨"com/example/resultwire/resultwire/er7/PieceIndexEndPinLaw", "ch", "(JIII)C"⟩ : MethodName)) hown (mvT hZ (w_2 hw)) (mvT hZ (w_3 hw)) (mvT hZ (w_4 hw)) (mvT hZ (w_5 hw)) (by decide) (backOf (W := 2) (rm_chc l Z a0 hw [] ((((p1.toUInt32 >>> ((8 : Int32) &&& 31).toUInt32).toInt32) &&& (255 : Int32)).toInt64) p2 (9 : Int32) d h42 n0 f44 (own_i255 _ : ¬ ((((p1.toUInt32 >>> ((8 : Int32) &&& 31).toUInt32).toInt32) &&& (255 : Int32)).toInt64).toInt32 < 0 ∧ ¬ (255 : Int32) < ((((p1.toUInt32 >>> ((8 : Int32) &&& 31).toUInt32).toInt32) &&& (255 : Int32)).toInt64).toInt32) (hdb : ¬ (255 : Int32) < d)) hZ (w_5 hw) (w_4 hw) (by decide) (by decide)) (g := (mkF mM 215 Ls7 [(.int d), (.int (9 : Int32)), (.int p2), (.long ((((p1.toUInt32 >>> ((8 : Int32) &&& 31).toUInt32).toInt32) &&& (255 : Int32)).toInt64)), (.int (9 : Int32)), (.ref b5)])) rfl (by rw [hml]; rfl) (argsL := [(.long ((((p1.toUInt32 >>> ((8 : Int32) &&& 31).toUInt32).toInt32) &&& (255 : Int32)).toInt64)), (.int p2), (.int (9 : Int32)), (.int d)]) (rest := [(.int (9 : Int32)), (.ref b5)]) (lenOf pd_11 rfl) rfl (by show 2 * 0 + _ ≤ _; exact Nat.le_of_eq rfl) (hb hby at_215) (fun _ _ => ⟨rfl, e42, (by decide : 1 + 0 ≤ _), (by decide : 10 + 0 ≤ _)⟩)
  dsimp only [Pt.U, Pt.locs, Pt.cells, Pt.slots] at X45 l45 y45 z45 st45 hQ45
  subst l45 y45 z45
  obtain ⟨rfl, rfl, Kq45⟩ := hQ45
  try rw [List.append_nil] at X45
  obtain ⟨x9, hx9⟩ : ∃ z, z = (own_ck ((((p1.toUInt32 >>> ((8 : Int32) &&& 31).toUInt32).toInt32) &&& (255 : Int32)).toInt64) p2 (9 : Int32) d) := ⟨_, rfl⟩
  have hxb9 : ¬ x9 < 0 ∧ ¬ (255 : Int32) < x9 := hx9 ▸ own_ckb (own_i255 _) hdb
  have hcs : ∀ c ∈ ([x0, x1, x2, x3, x4, x5, x6, x7, x8, x9] : List Int32), ¬ c < 0 ∧ ¬ (255 : Int32) < c := by
    intro c hc
    simp only [List.mem_cons, List.not_mem_nil, or_false] at hc
    rcases hc with rfl | rfl | rfl | rfl | rfl | rfl | rfl | rfl | rfl | rfl
    all_goals first | exact hxb0 | exact hxb1 | exact hxb2 | exact hxb3 | exact hxb4 | exact hxb5 | exact hxb6 | exact hxb7 | exact hxb8 | exact hxb9
  have hlen : ([x0, x1, x2, x3, x4, x5, x6, x7, x8, x9] : List Int32).length = 10 := rfl
  obtain ⟨cl46, Ar46, qk46, S46, Nn46, Hh46, G46⟩ := id V42
  have hin46 : ¬ ((9 : Int32) < 0 ∨ cl46.slots.size ≤ ((9 : Int32)).toNatClampNeg) := inb_of S46 ⟨by decide, by decide⟩
  obtain ⟨T46, h46, X46, e46, W46, st46⟩ := stC X45 hx hZ Kq45 Ar46 (j := (9 : Int32)) hin46 (g := (mkF mM 218 Ls7 [(.int x9), (.int (9 : Int32)), (.ref b5)])) rfl rfl (hb hby at_218)
  rw [own_nc hxb9] at W46
  have K47 : Keep h0 h46 [] := K43.wr W46 (Or.inr sz_b5)
  have V46 : Arv Z h46 b5 k5 .char (10 : Int32) [(.int x0), (.int x1), (.int x2), (.int x3), (.int x4), (.int x5), (.int x6), (.int x7), (.int x8), (.int x9)] (.int (0 : Int32)) := Arv.set Ar46 qk46 S46 Nn46 Hh46 G46 (own_nc hxb9 ▸ fits_nar_char _) W46 9 rfl (Nat.le_of_ble_eq_true rfl)
  have N46 := Fr.snoc X46 N42 g_b5
  obtain ⟨T48, h48, X48, e48, E48, A48, D48, -, st48⟩ := newO X46 hx hZ hown (w_6 hw) (w_7 hw) (w_8 hw) e46 (g := (mkF mM 219 Ls7 [])) rfl (hb hby at_219) (by decide) (by decide)
  obtain ⟨b48, g48⟩ : ∃ z, z = h46.size := ⟨_, rfl⟩
  rw [← g48] at A48 D48 st48
  have f49 := (f44.wr W46 g_b5)
  have g_b48 : n0 ≤ b48 := Nat.le_trans (own_osz f49) (Nat.le_of_eq g48.symm)
  have sz_b48 : h0.size ≤ b48 := Nat.le_trans K47.1 (Nat.le_of_eq g48.symm)
  have K50 : Keep h0 h48 [] := K47.ext E48
  have F_b48_coder : Fld Z h48 b48 "java/lang/String" "coder" "B" (.int (0 : Int32)) := D48 (Or.inr (w_32 hw)) (ty := .byte) (by decide)
  have F_b48_value : Fld Z h48 b48 "java/lang/String" "value" "[B" .null := D48 (Or.inr (w_34 hw)) (ty := (.array .byte)) (by decide)
  have f51 := (f49.ext E48)
  have f52 := (V46.ext E48)
  obtain ⟨_, _, ⟨T53, L53, k53, n53⟩, -, X53, ⟨Lc53, hQ53, l53, y53, z53⟩, st53⟩ := X48.specialBack hx (y := (⟨"java/lang/String", "<init>", "([C)V"⟩ : MethodName)) rfl hown (mvT hZ (w_9 hw)) (mvT hZ (w_10 hw)) (mvT hZ (w_11 hw)) (by decide) (own_new (W := 1) hZ hw (cs := [x0, x1, x2, x3, x4, x5, x6, x7, x8, x9]) (n := 10) g_b48 (own_osz f51) A48 F_b48_value F_b48_coder f52 (Sta.ext (f51).2 S_COMPACT_STRINGS) hp3 rfl rfl (by decide) (by decide) hcs (by decide) (by decide)) (g := (mkF mM 225 Ls7 [(.ref b5), (.ref b48), (.ref b48)])) rfl (by rw [hml]; rfl) (Steps.refl _) (a := b48) (argsL := [(.ref b5)]) (rest := [(.ref b48)]) (lenOf pd_12 rfl) rfl (by show 2 * 0 + _ ≤ _; exact Nat.le_of_eq rfl) (hb hby at_225) (fun _ _ => ⟨rfl, e48, (by decide : 2 + 1 ≤ _), (by decide : 14 + 10 ≤ _)⟩)
  dsimp only [Pt.U, Pt.locs, Pt.cells, Pt.slots] at X53 l53 y53 z53 st53 hQ53
  subst l53 y53 z53
  obtain ⟨rfl, Nq53, Kq53, t53, kb53, hs53, Sq53⟩ := hQ53
  have N53 := Fr.app N46 Nq53
  have g_t53 : n0 ≤ t53 := Nat.le_trans (own_osz f51) hs53
  have sz_t53 : h0.size ≤ t53 := Nat.le_trans K50.1 hs53
  have K54 : Keep h0 T53.heap [] := K50.trans Kq53 (allS (Or.inr sz_b48) all0)
  let Ls55 : Array Slot := #[.val (.long p0), .second, .val (.int p1), .val (.int p2), .val (.int p3), .val (.int p4), .val (.int p5), .val (.int d), .val (.ref b5), .val (.ref b48), .unset, .unset, .unset, .unset, .unset, .unset, .unset, .unset, .unset]
  let Ls56 : Array Slot := #[.val (.long p0), .second, .val (.int p1), .val (.int p2), .val (.int p3), .val (.int p4), .val (.int p5), .val (.int d), .val (.ref b5), .val (.ref b48), .val (.int (Int32.ofNat f)), .unset, .unset, .unset, .unset, .unset, .unset, .unset, .unset]
  let Ls57 : Array Slot := #[.val (.long p0), .second, .val (.int p1), .val (.int p2), .val (.int p3), .val (.int p4), .val (.int p5), .val (.int d), .val (.ref b5), .val (.ref b48), .val (.int (Int32.ofNat f)), .val (.int (Int32.ofNat tt)), .unset, .unset, .unset, .unset, .unset, .unset, .unset]
  obtain ⟨T58, h58, X58, e58, E58, A58, D58, -, st58⟩ := newO X53 hx hZ hown (w_36 hw) (w_37 hw) (w_38 hw) rfl (g := (mkF mM 256 Ls57 [])) rfl (hb hby at_256) (by decide) (by decide)
  obtain ⟨b58, g58⟩ : ∃ z, z = T53.heap.size := ⟨_, rfl⟩
  rw [← g58] at A58 D58 st58
  have f59 := (f51.keep Kq53 (allS g_b48 all0))
  have g_b58 : n0 ≤ b58 := Nat.le_trans (own_osz f59) (Nat.le_of_eq g58.symm)
  have sz_b58 : h0.size ≤ b58 := Nat.le_trans K54.1 (Nat.le_of_eq g58.symm)
  have K60 : Keep h0 h58 [] := K54.ext E58
  have F_b58_m_sText : Fld Z h58 b58 "com/example/resultwire/resultwire/er7/PieceIndex" "m_sText" "Ljava/lang/String;" .null := D58 (Or.inr (w_49 hw)) (ty := (.object "java/lang/String")) (by decide)
  have F_b58_m_nDelimiter : Fld Z h58 b58 "com/example/resultwire/resultwire/er7/PieceIndex" "m_nDelimiter" "I" (.int (0 : Int32)) := D58 (Or.inr (w_51 hw)) (ty := .int) (by decide)
  have F_b58_m_nFrom : Fld Z h58 b58 "com/example/resultwire/resultwire/er7/PieceIndex" "m_nFrom" "I" (.int (0 : Int32)) := D58 (Or.inr (w_53 hw)) (ty := .int) (by decide)
  have F_b58_m_nTo : Fld Z h58 b58 "com/example/resultwire/resultwire/er7/PieceIndex" "m_nTo" "I" (.int (0 : Int32)) := D58 (Or.inr (w_55 hw)) (ty := .int) (by decide)
  have F_b58_m_aEnds : Fld Z h58 b58 "com/example/resultwire/resultwire/er7/PieceIndex" "m_aEnds" "[I" .null := D58 (Or.inr (w_57 hw)) (ty := (.array .int)) (by decide)
  have F_b58_m_nCount : Fld Z h58 b58 "com/example/resultwire/resultwire/er7/PieceIndex" "m_nCount" "I" (.int (0 : Int32)) := D58 (Or.inr (w_59 hw)) (ty := .int) (by decide)
  have f61 := (f59.ext E58)
  obtain ⟨_, _, ⟨T62, L62, k62, n62⟩, -, X62, ⟨Lc62, hQ62, l62, y62, z62⟩, st62⟩ := X58.specialBack hx (y := (⟨"com/example/resultwire/resultwire/er7/PieceIndex", "<init>", "(Ljava/lang/String;III)V"⟩ : MethodName)) rfl hown (mvT hZ (w_39 hw)) (mvT hZ (w_40 hw)) (mvT hZ (w_41 hw)) (by decide) (backOf (W := 1) (rm_pi1 l Z a0 hw [] b58 b48 d (Int32.ofNat f) (Int32.ofNat tt) ne .null (.int (0 : Int32)) (.int (0 : Int32)) (.int (0 : Int32)) .null (.int (0 : Int32)) h58 n0 f61 A58 F_b58_m_sText F_b58_m_nDelimiter F_b58_m_nFrom F_b58_m_nTo F_b58_m_aEnds F_b58_m_nCount g_b58 S_NO_ENDS) hZ (w_41 hw) (w_38 hw) (by decide) (by decide)) (g := (mkF mM 268 Ls57 [(.int (Int32.ofNat tt)), (.int (Int32.ofNat f)), (.int d), (.ref b48), (.ref b58), (.ref b58)])) rfl (by rw [hml]; rfl) (Steps.refl _) (a := b58) (argsL := [(.ref b48), (.int d), (.int (Int32.ofNat f)), (.int (Int32.ofNat tt))]) (rest := [(.ref b58)]) (lenOf pd_10 rfl) rfl (by show 2 * 0 + _ ≤ _; exact Nat.le_of_eq rfl) (hb hby at_268) (fun _ _ => ⟨rfl, e58, (by decide : 4 + 0 ≤ _), (by decide : 30 + 0 ≤ _)⟩)
  dsimp only [Pt.U, Pt.locs, Pt.cells, Pt.slots] at X62 l62 y62 z62 st62 hQ62
  subst l62 y62 z62
  obtain ⟨rfl, Nq62, Kq62, q62_0, q62_1, q62_2, q62_3, q62_4, q62_5, q62_6⟩ := hQ62
  have N62 := Fr.app N53 Nq62
  have K63 : Keep h0 T62.heap [] := K60.trans Kq62 (allS (Or.inr sz_b58) all0)
  have pre65 : ∀ tg, Steps pP.tables eE below (T62.setTop (mkF mM 271 Ls57 [(.ref b58)])) tg → Steps pP.tables eE below (s₁.setTop (entryFrame mM #[(.long p0), (.int p1), (.int p2), (.int p3), (.int p4), (.int p5)] maxLocals)) tg := fun tg kg => pre0 tg (by
    refine st1 _ ?_
    show Steps pP.tables eE below (T1.setTop (mkF mM 17 #[.val (.long p0), .second, .val (.int p1), .val (.int p2), .val (.int p3), .val (.int p4), .val (.int p5), .unset, .unset, .unset, .unset, .unset, .unset, .unset, .unset, .unset, .unset, .unset, .unset] [(.int d)])) _
    refine XS.istore X1.here hx rfl (hb hby at_17) rfl (l' := Ls4) rfl ?_
    show Steps pP.tables eE below (T1.setTop (mkF mM 19 Ls4 [])) _
    refine XS.bipush X1.here hx rfl (hb hby at_19) ?_
    show Steps pP.tables eE below (T1.setTop (mkF mM 21 Ls4 [(.int (10 : Int32))])) _
    refine st5 _ ?_
    show Steps pP.tables eE below (T5.setTop (mkF mM 23 Ls4 [(.ref b5)])) _
    refine XS.astore X5.here hx rfl (hb hby at_23) rfl rfl (l' := Ls7) rfl ?_
    show Steps pP.tables eE below (T5.setTop (mkF mM 25 Ls7 [])) _
    refine XS.aload X5.here hx rfl (hb hby at_25) rfl rfl ?_
    show Steps pP.tables eE below (T5.setTop (mkF mM 27 Ls7 [(.ref b5)])) _
    refine XS.iconst X5.here hx rfl (hb hby at_27) ?_
    show Steps pP.tables eE below (T5.setTop (mkF mM 28 Ls7 [(.int (0 : Int32)), (.ref b5)])) _
    refine XS.lloadN X5.here hx rfl (hb hby at_28) rfl ?_
    show Steps pP.tables eE below (T5.setTop (mkF mM 29 Ls7 [(.long p0), (.int (0 : Int32)), (.ref b5)])) _
    refine X5.ldc2Long hx hown (mvT hZ (w_1 hw)) (g := (mkF mM 29 Ls7 [(.long p0), (.int (0 : Int32)), (.ref b5)])) rfl (hb hby at_29) _ ?_
    show Steps pP.tables eE below (T5.setTop (mkF mM 32 Ls7 [(.long (255 : Int64)), (.long p0), (.int (0 : Int32)), (.ref b5)])) _
    refine XS.land X5.here hx rfl (hb hby at_32) rfl ?_
    show Steps pP.tables eE below (T5.setTop (mkF mM 33 Ls7 [(.long (p0 &&& (255 : Int64))), (.int (0 : Int32)), (.ref b5)])) _
    refine XS.iloadN X5.here hx rfl (hb hby at_33) rfl ?_
    show Steps pP.tables eE below (T5.setTop (mkF mM 34 Ls7 [(.int p2), (.long (p0 &&& (255 : Int64))), (.int (0 : Int32)), (.ref b5)])) _
    refine XS.iconst X5.here hx rfl (hb hby at_34) ?_
    show Steps pP.tables eE below (T5.setTop (mkF mM 35 Ls7 [(.int (0 : Int32)), (.int p2), (.long (p0 &&& (255 : Int64))), (.int (0 : Int32)), (.ref b5)])) _
    refine XS.iload X5.here hx rfl (hb hby at_35) rfl ?_
    show Steps pP.tables eE below (T5.setTop (mkF mM 37 Ls7 [(.int d), (.int (0 : Int32)), (.int p2), (.long (p0 &&& (255 : Int64))), (.int (0 : Int32)), (.ref b5)])) _
    refine st9 _ ?_
    show Steps pP.tables eE below (T9.setTop (mkF mM 40 Ls7 [(.int (own_ck (p0 &&& (255 : Int64)) p2 (0 : Int32) d)), (.int (0 : Int32)), (.ref b5)])) _
    rw [← hx0]
    show Steps pP.tables eE below (T9.setTop (mkF mM 40 Ls7 [(.int x0), (.int (0 : Int32)), (.ref b5)])) _
    refine st10 _ ?_
    show Steps pP.tables eE below (T10.setTop (mkF mM 41 Ls7 [])) _
    refine XS.aload X10.here hx rfl (hb hby at_41) rfl rfl ?_
    show Steps pP.tables eE below (T10.setTop (mkF mM 43 Ls7 [(.ref b5)])) _
    refine XS.iconst X10.here hx rfl (hb hby at_43) ?_
    show Steps pP.tables eE below (T10.setTop (mkF mM 44 Ls7 [(.int (1 : Int32)), (.ref b5)])) _
    refine XS.lloadN X10.here hx rfl (hb hby at_44) rfl ?_
    show Steps pP.tables eE below (T10.setTop (mkF mM 45 Ls7 [(.long p0), (.int (1 : Int32)), (.ref b5)])) _
    refine XS.bipush X10.here hx rfl (hb hby at_45) ?_
    show Steps pP.tables eE below (T10.setTop (mkF mM 47 Ls7 [(.int (8 : Int32)), (.long p0), (.int (1 : Int32)), (.ref b5)])) _
    refine XS.lushr X10.here hx rfl (hb hby at_47) rfl ?_
    show Steps pP.tables eE below (T10.setTop (mkF mM 48 Ls7 [(.long ((p0.toUInt64 >>> ((8 : Int32) &&& 0x3f).toInt64.toUInt64).toInt64)), (.int (1 : Int32)), (.ref b5)])) _
    refine X10.ldc2Long hx hown (mvT hZ (w_1 hw)) (g := (mkF mM 48 Ls7 [(.long ((p0.toUInt64 >>> ((8 : Int32) &&& 0x3f).toInt64.toUInt64).toInt64)), (.int (1 : Int32)), (.ref b5)])) rfl (hb hby at_48) _ ?_
    show Steps pP.tables eE below (T10.setTop (mkF mM 51 Ls7 [(.long (255 : Int64)), (.long ((p0.toUInt64 >>> ((8 : Int32) &&& 0x3f).toInt64.toUInt64).toInt64)), (.int (1 : Int32)), (.ref b5)])) _
    refine XS.land X10.here hx rfl (hb hby at_51) rfl ?_
    show Steps pP.tables eE below (T10.setTop (mkF mM 52 Ls7 [(.long (((p0.toUInt64 >>> ((8 : Int32) &&& 0x3f).toInt64.toUInt64).toInt64) &&& (255 : Int64))), (.int (1 : Int32)), (.ref b5)])) _
    refine XS.iloadN X10.here hx rfl (hb hby at_52) rfl ?_
    show Steps pP.tables eE below (T10.setTop (mkF mM 53 Ls7 [(.int p2), (.long (((p0.toUInt64 >>> ((8 : Int32) &&& 0x3f).toInt64.toUInt64).toInt64) &&& (255 : Int64))), (.int (1 : Int32)), (.ref b5)])) _
    refine XS.iconst X10.here hx rfl (hb hby at_53) ?_
    show Steps pP.tables eE below (T10.setTop (mkF mM 54 Ls7 [(.int (1 : Int32)), (.int p2), (.long (((p0.toUInt64 >>> ((8 : Int32) &&& 0x3f).toInt64.toUInt64).toInt64) &&& (255 : Int64))), (.int (1 : Int32)), (.ref b5)])) _
    refine XS.iload X10.here hx rfl (hb hby at_54) rfl ?_
    show Steps pP.tables eE below (T10.setTop (mkF mM 56 Ls7 [(.int d), (.int (1 : Int32)), (.int p2), (.long (((p0.toUInt64 >>> ((8 : Int32) &&& 0x3f).toInt64.toUInt64).toInt64) &&& (255 : Int64))), (.int (1 : Int32)), (.ref b5)])) _
    refine st13 _ ?_
    show Steps pP.tables eE below (T13.setTop (mkF mM 59 Ls7 [(.int (own_ck (((p0.toUInt64 >>> ((8 : Int32) &&& 0x3f).toInt64.toUInt64).toInt64) &&& (255 : Int64)) p2 (1 : Int32) d)), (.int (1 : Int32)), (.ref b5)])) _
    rw [← hx1]
    show Steps pP.tables eE below (T13.setTop (mkF mM 59 Ls7 [(.int x1), (.int (1 : Int32)), (.ref b5)])) _
    refine st14 _ ?_
    show Steps pP.tables eE below (T14.setTop (mkF mM 60 Ls7 [])) _
    refine XS.aload X14.here hx rfl (hb hby at_60) rfl rfl ?_
    show Steps pP.tables eE below (T14.setTop (mkF mM 62 Ls7 [(.ref b5)])) _
    refine XS.iconst X14.here hx rfl (hb hby at_62) ?_
    show Steps pP.tables eE below (T14.setTop (mkF mM 63 Ls7 [(.int (2 : Int32)), (.ref b5)])) _
    refine XS.lloadN X14.here hx rfl (hb hby at_63) rfl ?_
    show Steps pP.tables eE below (T14.setTop (mkF mM 64 Ls7 [(.long p0), (.int (2 : Int32)), (.ref b5)])) _
    refine XS.bipush X14.here hx rfl (hb hby at_64) ?_
    show Steps pP.tables eE below (T14.setTop (mkF mM 66 Ls7 [(.int (16 : Int32)), (.long p0), (.int (2 : Int32)), (.ref b5)])) _
    refine XS.lushr X14.here hx rfl (hb hby at_66) rfl ?_
    show Steps pP.tables eE below (T14.setTop (mkF mM 67 Ls7 [(.long ((p0.toUInt64 >>> ((16 : Int32) &&& 0x3f).toInt64.toUInt64).toInt64)), (.int (2 : Int32)), (.ref b5)])) _
    refine X14.ldc2Long hx hown (mvT hZ (w_1 hw)) (g := (mkF mM 67 Ls7 [(.long ((p0.toUInt64 >>> ((16 : Int32) &&& 0x3f).toInt64.toUInt64).toInt64)), (.int (2 : Int32)), (.ref b5)])) rfl (hb hby at_67) _ ?_
    show Steps pP.tables eE below (T14.setTop (mkF mM 70 Ls7 [(.long (255 : Int64)), (.long ((p0.toUInt64 >>> ((16 : Int32) &&& 0x3f).toInt64.toUInt64).toInt64)), (.int (2 : Int32)), (.ref b5)])) _
    refine XS.land X14.here hx rfl (hb hby at_70) rfl ?_
    show Steps pP.tables eE below (T14.setTop (mkF mM 71 Ls7 [(.long (((p0.toUInt64 >>> ((16 : Int32) &&& 0x3f).toInt64.toUInt64).toInt64) &&& (255 : Int64))), (.int (2 : Int32)), (.ref b5)])) _
    refine XS.iloadN X14.here hx rfl (hb hby at_71) rfl ?_
    show Steps pP.tables eE below (T14.setTop (mkF mM 72 Ls7 [(.int p2), (.long (((p0.toUInt64 >>> ((16 : Int32) &&& 0x3f).toInt64.toUInt64).toInt64) &&& (255 : Int64))), (.int (2 : Int32)), (.ref b5)])) _
    refine XS.iconst X14.here hx rfl (hb hby at_72) ?_
    show Steps pP.tables eE below (T14.setTop (mkF mM 73 Ls7 [(.int (2 : Int32)), (.int p2), (.long (((p0.toUInt64 >>> ((16 : Int32) &&& 0x3f).toInt64.toUInt64).toInt64) &&& (255 : Int64))), (.int (2 : Int32)), (.ref b5)])) _
    refine XS.iload X14.here hx rfl (hb hby at_73) rfl ?_
    show Steps pP.tables eE below (T14.setTop (mkF mM 75 Ls7 [(.int d), (.int (2 : Int32)), (.int p2), (.long (((p0.toUInt64 >>> ((16 : Int32) &&& 0x3f).toInt64.toUInt64).toInt64) &&& (255 : Int64))), (.int (2 : Int32)), (.ref b5)])) _
    refine st17 _ ?_
    show Steps pP.tables eE below (T17.setTop (mkF mM 78 Ls7 [(.int (own_ck (((p0.toUInt64 >>> ((16 : Int32) &&& 0x3f).toInt64.toUInt64).toInt64) &&& (255 : Int64)) p2 (2 : Int32) d)), (.int (2 : Int32)), (.ref b5)])) _
    rw [← hx2]
    show Steps pP.tables eE below (T17.setTop (mkF mM 78 Ls7 [(.int x2), (.int (2 : Int32)), (.ref b5)])) _
    refine st18 _ ?_
    show Steps pP.tables eE below (T18.setTop (mkF mM 79 Ls7 [])) _
    refine XS.aload X18.here hx rfl (hb hby at_79) rfl rfl ?_
    show Steps pP.tables eE below (T18.setTop (mkF mM 81 Ls7 [(.ref b5)])) _
    refine XS.iconst X18.here hx rfl (hb hby at_81) ?_
    show Steps pP.tables eE below (T18.setTop (mkF mM 82 Ls7 [(.int (3 : Int32)), (.ref b5)])) _
    refine XS.lloadN X18.here hx rfl (hb hby at_82) rfl ?_
    show Steps pP.tables eE below (T18.setTop (mkF mM 83 Ls7 [(.long p0), (.int (3 : Int32)), (.ref b5)])) _
    refine XS.bipush X18.here hx rfl (hb hby at_83) ?_
    show Steps pP.tables eE below (T18.setTop (mkF mM 85 Ls7 [(.int (24 : Int32)), (.long p0), (.int (3 : Int32)), (.ref b5)])) _
    refine XS.lushr X18.here hx rfl (hb hby at_85) rfl ?_
    show Steps pP.tables eE below (T18.setTop (mkF mM 86 Ls7 [(.long ((p0.toUInt64 >>> ((24 : Int32) &&& 0x3f).toInt64.toUInt64).toInt64)), (.int (3 : Int32)), (.ref b5)])) _
    refine X18.ldc2Long hx hown (mvT hZ (w_1 hw)) (g := (mkF mM 86 Ls7 [(.long ((p0.toUInt64 >>> ((24 : Int32) &&& 0x3f).toInt64.toUInt64).toInt64)), (.int (3 : Int32)), (.ref b5)])) rfl (hb hby at_86) _ ?_
    show Steps pP.tables eE below (T18.setTop (mkF mM 89 Ls7 [(.long (255 : Int64)), (.long ((p0.toUInt64 >>> ((24 : Int32) &&& 0x3f).toInt64.toUInt64).toInt64)), (.int (3 : Int32)), (.ref b5)])) _
    refine XS.land X18.here hx rfl (hb hby at_89) rfl ?_
    show Steps pP.tables eE below (T18.setTop (mkF mM 90 Ls7 [(.long (((p0.toUInt64 >>> ((24 : Int32) &&& 0x3f).toInt64.toUInt64).toInt64) &&& (255 : Int64))), (.int (3 : Int32)), (.ref b5)])) _
    refine XS.iloadN X18.here hx rfl (hb hby at_90) rfl ?_
    show Steps pP.tables eE below (T18.setTop (mkF mM 91 Ls7 [(.int p2), (.long (((p0.toUInt64 >>> ((24 : Int32) &&& 0x3f).toInt64.toUInt64).toInt64) &&& (255 : Int64))), (.int (3 : Int32)), (.ref b5)])) _
    refine XS.iconst X18.here hx rfl (hb hby at_91) ?_
    show Steps pP.tables eE below (T18.setTop (mkF mM 92 Ls7 [(.int (3 : Int32)), (.int p2), (.long (((p0.toUInt64 >>> ((24 : Int32) &&& 0x3f).toInt64.toUInt64).toInt64) &&& (255 : Int64))), (.int (3 : Int32)), (.ref b5)])) _
    refine XS.iload X18.here hx rfl (hb hby at_92) rfl ?_
    show Steps pP.tables eE below (T18.setTop (mkF mM 94 Ls7 [(.int d), (.int (3 : Int32)), (.int p2), (.long (((p0.toUInt64 >>> ((24 : Int32) &&& 0x3f).toInt64.toUInt64).toInt64) &&& (255 : Int64))), (.int (3 : Int32)), (.ref b5)])) _
    refine st21 _ ?_
    show Steps pP.tables eE below (T21.setTop (mkF mM 97 Ls7 [(.int (own_ck (((p0.toUInt64 >>> ((24 : Int32) &&& 0x3f).toInt64.toUInt64).toInt64) &&& (255 : Int64)) p2 (3 : Int32) d)), (.int (3 : Int32)), (.ref b5)])) _
    rw [← hx3]
    show Steps pP.tables eE below (T21.setTop (mkF mM 97 Ls7 [(.int x3), (.int (3 : Int32)), (.ref b5)])) _
    refine st22 _ ?_
    show Steps pP.tables eE below (T22.setTop (mkF mM 98 Ls7 [])) _
    refine XS.aload X22.here hx rfl (hb hby at_98) rfl rfl ?_
    show Steps pP.tables eE below (T22.setTop (mkF mM 100 Ls7 [(.ref b5)])) _
    refine XS.iconst X22.here hx rfl (hb hby at_100) ?_
    show Steps pP.tables eE below (T22.setTop (mkF mM 101 Ls7 [(.int (4 : Int32)), (.ref b5)])) _
    refine XS.lloadN X22.here hx rfl (hb hby at_101) rfl ?_
    show Steps pP.tables eE below (T22.setTop (mkF mM 102 Ls7 [(.long p0), (.int (4 : Int32)), (.ref b5)])) _
    refine XS.bipush X22.here hx rfl (hb hby at_102) ?_
    show Steps pP.tables eE below (T22.setTop (mkF mM 104 Ls7 [(.int (32 : Int32)), (.long p0), (.int (4 : Int32)), (.ref b5)])) _
    refine XS.lushr X22.here hx rfl (hb hby at_104) rfl ?_
    show Steps pP.tables eE below (T22.setTop (mkF mM 105 Ls7 [(.long ((p0.toUInt64 >>> ((32 : Int32) &&& 0x3f).toInt64.toUInt64).toInt64)), (.int (4 : Int32)), (.ref b5)])) _
    refine X22.ldc2Long hx hown (mvT hZ (w_1 hw)) (g := (mkF mM 105 Ls7 [(.long ((p0.toUInt64 >>> ((32 : Int32) &&& 0x3f).toInt64.toUInt64).toInt64)), (.int (4 : Int32)), (.ref b5)])) rfl (hb hby at_105) _ ?_
    show Steps pP.tables eE below (T22.setTop (mkF mM 108 Ls7 [(.long (255 : Int64)), (.long ((p0.toUInt64 >>> ((32 : Int32) &&& 0x3f).toInt64.toUInt64).toInt64)), (.int (4 : Int32)), (.ref b5)])) _
    refine XS.land X22.here hx rfl (hb hby at_108) rfl ?_
    show Steps pP.tables eE below (T22.setTop (mkF mM 109 Ls7 [(.long (((p0.toUInt64 >>> ((32 : Int32) &&& 0x3f).toInt64.toUInt64).toInt64) &&& (255 : Int64))), (.int (4 : Int32)), (.ref b5)])) _
    refine XS.iloadN X22.here hx rfl (hb hby at_109) rfl ?_
    show Steps pP.tables eE below (T22.setTop (mkF mM 110 Ls7 [(.int p2), (.long (((p0.toUInt64 >>> ((32 : Int32) &&& 0x3f).toInt64.toUInt64).toInt64) &&& (255 : Int64))), (.int (4 : Int32)), (.ref b5)])) _
    refine XS.iconst X22.here hx rfl (hb hby at_110) ?_
    show Steps pP.tables eE below (T22.setTop (mkF mM 111 Ls7 [(.int (4 : Int32)), (.int p2), (.long (((p0.toUInt64 >>> ((32 : Int32) &&& 0x3f).toInt64.toUInt64).toInt64) &&& (255 : Int64))), (.int (4 : Int32)), (.ref b5)])) _
    refine XS.iload X22.here hx rfl (hb hby at_111) rfl ?_
    show Steps pP.tables eE below (T22.setTop (mkF mM 113 Ls7 [(.int d), (.int (4 : Int32)), (.int p2), (.long (((p0.toUInt64 >>> ((32 : Int32) &&& 0x3f).toInt64.toUInt64).toInt64) &&& (255 : Int64))), (.int (4 : Int32)), (.ref b5)])) _
    refine st25 _ ?_
    show Steps pP.tables eE below (T25.setTop (mkF mM 116 Ls7 [(.int (own_ck (((p0.toUInt64 >>> ((32 : Int32) &&& 0x3f).toInt64.toUInt64).toInt64) &&& (255 : Int64)) p2 (4 : Int32) d)), (.int (4 : Int32)), (.ref b5)])) _
    rw [← hx4]
    show Steps pP.tables eE below (T25.setTop (mkF mM 116 Ls7 [(.int x4), (.int (4 : Int32)), (.ref b5)])) _
    refine st26 _ ?_
    show Steps pP.tables eE below (T26.setTop (mkF mM 117 Ls7 [])) _
    refine XS.aload X26.here hx rfl (hb hby at_117) rfl rfl ?_
    show Steps pP.tables eE below (T26.setTop (mkF mM 119 Ls7 [(.ref b5)])) _
    refine XS.iconst X26.here hx rfl (hb hby at_119) ?_
    show Steps pP.tables eE below (T26.setTop (mkF mM 120 Ls7 [(.int (5 : Int32)), (.ref b5)])) _
    refine XS.lloadN X26.here hx rfl (hb hby at_120) rfl ?_
    show Steps pP.tables eE below (T26.setTop (mkF mM 121 Ls7 [(.long p0), (.int (5 : Int32)), (.ref b5)])) _
    refine XS.bipush X26.here hx rfl (hb hby at_121) ?_
    show Steps pP.tables eE below (T26.setTop (mkF mM 123 Ls7 [(.int (40 : Int32)), (.long p0), (.int (5 : Int32)), (.ref b5)])) _
    refine XS.lushr X26.here hx rfl (hb hby at_123) rfl ?_
    show Steps pP.tables eE below (T26.setTop (mkF mM 124 Ls7 [(.long ((p0.toUInt64 >>> ((40 : Int32) &&& 0x3f).toInt64.toUInt64).toInt64)), (.int (5 : Int32)), (.ref b5)])) _
    refine X26.ldc2Long hx hown (mvT hZ (w_1 hw)) (g := (mkF mM 124 Ls7 [(.long ((p0.toUInt64 >>> ((40 : Int32) &&& 0x3f).toInt64.toUInt64).toInt64)), (.int (5 : Int32)), (.ref b5)])) rfl (hb hby at_124) _ ?_
    show Steps pP.tables eE below (T26.setTop (mkF mM 127 Ls7 [(.long (255 : Int64)), (.long ((p0.toUInt64 >>> ((40 : Int32) &&& 0x3f).toInt64.toUInt64).toInt64)), (.int (5 : Int32)), (.ref b5)])) _
    refine XS.land X26.here hx rfl (hb hby at_127) rfl ?_
    show Steps pP.tables eE below (T26.setTop (mkF mM 128 Ls7 [(.long (((p0.toUInt64 >>> ((40 : Int32) &&& 0x3f).toInt64.toUInt64).toInt64) &&& (255 : Int64))), (.int (5 : Int32)), (.ref b5)])) _
    refine XS.iloadN X26.here hx rfl (hb hby at_128) rfl ?_
    show Steps pP.tables eE below (T26.setTop (mkF mM 129 Ls7 [(.int p2), (.long (((p0.toUInt64 >>> ((40 : Int32) &&& 0x3f).toInt64.toUInt64).toInt64) &&& (255 : Int64))), (.int (5 : Int32)), (.ref b5)])) _
    refine XS.iconst X26.here hx rfl (hb hby at_129) ?_
    show Steps pP.tables eE below (T26.setTop (mkF mM 130 Ls7 [(.int (5 : Int32)), (.int p2), (.long (((p0.toUInt64 >>> ((40 : Int32) &&& 0x3f).toInt64.toUInt64).toInt64) &&& (255 : Int64))), (.int (5 : Int32)), (.ref b5)])) _
    refine XS.iload X26.here hx rfl (hb hby at_130) rfl ?_
    show Steps pP.tables eE below (T26.setTop (mkF mM 132 Ls7 [(.int d), (.int (5 : Int32)), (.int p2), (.long (((p0.toUInt64 >>> ((40 : Int32) &&& 0x3f).toInt64.toUInt64).toInt64) &&& (255 : Int64))), (.int (5 : Int32)), (.ref b5)])) _
    refine st29 _ ?_
    show Steps pP.tables eE below (T29.setTop (mkF mM 135 Ls7 [(.int (own_ck (((p0.toUInt64 >>> ((40 : Int32) &&& 0x3f).toInt64.toUInt64).toInt64) &&& (255 : Int64)) p2 (5 : Int32) d)), (.int (5 : Int32)), (.ref b5)])) _
    rw [← hx5]
    show Steps pP.tables eE below (T29.setTop (mkF mM 135 Ls7 [(.int x5), (.int (5 : Int32)), (.ref b5)])) _
    refine st30 _ ?_
    show Steps pP.tables eE below (T30.setTop (mkF mM 136 Ls7 [])) _
    refine XS.aload X30.here hx rfl (hb hby at_136) rfl rfl ?_
    show Steps pP.tables eE below (T30.setTop (mkF mM 138 Ls7 [(.ref b5)])) _
    refine XS.bipush X30.here hx rfl (hb hby at_138) ?_
    show Steps pP.tables eE below (T30.setTop (mkF mM 140 Ls7 [(.int (6 : Int32)), (.ref b5)])) _
    refine XS.lloadN X30.here hx rfl (hb hby at_140) rfl ?_
    show Steps pP.tables eE below (T30.setTop (mkF mM 141 Ls7 [(.long p0), (.int (6 : Int32)), (.ref b5)])) _
    refine XS.bipush X30.here hx rfl (hb hby at_141) ?_
    show Steps pP.tables eE below (T30.setTop (mkF mM 143 Ls7 [(.int (48 : Int32)), (.long p0), (.int (6 : Int32)), (.ref b5)])) _
    refine XS.lushr X30.here hx rfl (hb hby at_143) rfl ?_
    show Steps pP.tables eE below (T30.setTop (mkF mM 144 Ls7 [(.long ((p0.toUInt64 >>> ((48 : Int32) &&& 0x3f).toInt64.toUInt64).toInt64)), (.int (6 : Int32)), (.ref b5)])) _
    refine X30.ldc2Long hx hown (mvT hZ (w_1 hw)) (g := (mkF mM 144 Ls7 [(.long ((p0.toUInt64 >>> ((48 : Int32) &&& 0x3f).toInt64.toUInt64).toInt64)), (.int (6 : Int32)), (.ref b5)])) rfl (hb hby at_144) _ ?_
    show Steps pP.tables eE below (T30.setTop (mkF mM 147 Ls7 [(.long (255 : Int64)), (.long ((p0.toUInt64 >>> ((48 : Int32) &&& 0x3f).toInt64.toUInt64).toInt64)), (.int (6 : Int32)), (.ref b5)])) _
    refine XS.land X30.here hx rfl (hb hby at_147) rfl ?_
    show Steps pP.tables eE below (T30.setTop (mkF mM 148 Ls7 [(.long (((p0.toUInt64 >>> ((48 : Int32) &&& 0x3f).toInt64.toUInt64).toInt64) &&& (255 : Int64))), (.int (6 : Int32)), (.ref b5)])) _
    refine XS.iloadN X30.here hx rfl (hb hby at_148) rfl ?_
    show Steps pP.tables eE below (T30.setTop (mkF mM 149 Ls7 [(.int p2), (.long (((p0.toUInt64 >>> ((48 : Int32) &&& 0x3f).toInt64.toUInt64).toInt64) &&& (255 : Int64))), (.int (6 : Int32)), (.ref b5)])) _
    refine XS.bipush X30.here hx rfl (hb hby at_149) ?_
    show Steps pP.tables eE below (T30.setTop (mkF mM 151 Ls7 [(.int (6 : Int32)), (.int p2), (.long (((p0.toUInt64 >>> ((48 : Int32) &&& 0x3f).toInt64.toUInt64).toInt64) &&& (255 : Int64))), (.int (6 : Int32)), (.ref b5)])) _
    refine XS.iload X30.here hx rfl (hb hby at_151) rfl ?_
    show Steps pP.tables eE below (T30.setTop (mkF mM 153 Ls7 [(.int d), (.int (6 : Int32)), (.int p2), (.long (((p0.toUInt64 >>> ((48 : Int32) &&& 0x3f).toInt64.toUInt64).toInt64) &&& (255 : Int64))), (.int (6 : Int32)), (.ref b5)])) _
    refine st33 _ ?_
    show Steps pP.tables eE below (T33.setTop (mkF mM 156 Ls7 [(.int (own_ck (((p0.toUInt64 >>> ((48 : Int32) &&& 0x3f).toInt64.toUInt64).toInt64) &&& (255 : Int64)) p2 (6 : Int32) d)), (.int (6 : Int32)), (.ref b5)])) _
    rw [← hx6]
    show Steps pP.tables eE below (T33.setTop (mkF mM 156 Ls7 [(.int x6), (.int (6 : Int32)), (.ref b5)])) _
    refine st34 _ ?_
    show Steps pP.tables eE below (T34.setTop (mkF mM 157 Ls7 [])) _
    refine XS.aload X34.here hx rfl (hb hby at_157) rfl rfl ?_
    show Steps pP.tables eE below (T34.setTop (mkF mM 159 Ls7 [(.ref b5)])) _
    refine XS.bipush X34.here hx rfl (hb hby at_159) ?_
    show Steps pP.tables eE below (T34.setTop (mkF mM 161 Ls7 [(.int (7 : Int32)), (.ref b5)])) _
    refine XS.lloadN X34.here hx rfl (hb hby at_161) rfl ?_
    show Steps pP.tables eE below (T34.setTop (mkF mM 162 Ls7 [(.long p0), (.int (7 : Int32)), (.ref b5)])) _
    refine XS.bipush X34.here hx rfl (hb hby at_162) ?_
    show Steps pP.tables eE below (T34.setTop (mkF mM 164 Ls7 [(.int (56 : Int32)), (.long p0), (.int (7 : Int32)), (.ref b5)])) _
    refine XS.lushr X34.here hx rfl (hb hby at_164) rfl ?_
    show Steps pP.tables eE below (T34.setTop (mkF mM 165 Ls7 [(.long ((p0.toUInt64 >>> ((56 : Int32) &&& 0x3f).toInt64.toUInt64).toInt64)), (.int (7 : Int32)), (.ref b5)])) _
    refine X34.ldc2Long hx hown (mvT hZ (w_1 hw)) (g := (mkF mM 165 Ls7 [(.long ((p0.toUInt64 >>> ((56 : Int32) &&& 0x3f).toInt64.toUInt64).toInt64)), (.int (7 : Int32)), (.ref b5)])) rfl (hb hby at_165) _ ?_
    show Steps pP.tables eE below (T34.setTop (mkF mM 168 Ls7 [(.long (255 : Int64)), (.long ((p0.toUInt64 >>> ((56 : Int32) &&& 0x3f).toInt64.toUInt64).toInt64)), (.int (7 : Int32)), (.ref b5)])) _
    refine XS.land X34.here hx rfl (hb hby at_168) rfl ?_
    show Steps pP.tables eE below (T34.setTop (mkF mM 169 Ls7 [(.long (((p0.toUInt64 >>> ((56 : Int32) &&& 0x3f).toInt64.toUInt64).toInt64) &&& (255 : Int64))), (.int (7 : Int32)), (.ref b5)])) _
    refine XS.iloadN X34.here hx rfl (hb hby at_169) rfl ?_
    show Steps pP.tables eE below (T34.setTop (mkF mM 170 Ls7 [(.int p2), (.long (((p0.toUInt64 >>> ((56 : Int32) &&& 0x3f).toInt64.toUInt64).toInt64) &&& (255 : Int64))), (.int (7 : Int32)), (.ref b5)])) _
    refine XS.bipush X34.here hx rfl (hb hby at_170) ?_
    show Steps pP.tables eE below (T34.setTop (mkF mM 172 Ls7 [(.int (7 : Int32)), (.int p2), (.long (((p0.toUInt64 >>> ((56 : Int32) &&& 0x3f).toInt64.toUInt64).toInt64) &&& (255 : Int64))), (.int (7 : Int32)), (.ref b5)])) _
    refine XS.iload X34.here hx rfl (hb hby at_172) rfl ?_
    show Steps pP.tables eE below (T34.setTop (mkF mM 174 Ls7 [(.int d), (.int (7 : Int32)), (.int p2), (.long (((p0.toUInt64 >>> ((56 : Int32) &&& 0x3f).toInt64.toUInt64).toInt64) &&& (255 : Int64))), (.int (7 : Int32)), (.ref b5)])) _
    refine st37 _ ?_
    show Steps pP.tables eE below (T37.setTop (mkF mM 177 Ls7 [(.int (own_ck (((p0.toUInt64 >>> ((56 : Int32) &&& 0x3f).toInt64.toUInt64).toInt64) &&& (255 : Int64)) p2 (7 : Int32) d)), (.int (7 : Int32)), (.ref b5)])) _
    rw [← hx7]
    show Steps pP.tables eE below (T37.setTop (mkF mM 177 Ls7 [(.int x7), (.int (7 : Int32)), (.ref b5)])) _
    refine st38 _ ?_
    show Steps pP.tables eE below (T38.setTop (mkF mM 178 Ls7 [])) _
    refine XS.aload X38.here hx rfl (hb hby at_178) rfl rfl ?_
    show Steps pP.tables eE below (T38.setTop (mkF mM 180 Ls7 [(.ref b5)])) _
    refine XS.bipush X38.here hx rfl (hb hby at_180) ?_
    show Steps pP.tables eE below (T38.setTop (mkF mM 182 Ls7 [(.int (8 : Int32)), (.ref b5)])) _
    refine XS.iloadN X38.here hx rfl (hb hby at_182) rfl ?_
    show Steps pP.tables eE below (T38.setTop (mkF mM 183 Ls7 [(.int p1), (.int (8 : Int32)), (.ref b5)])) _
    refine XS.sipush X38.here hx rfl (hb hby at_183) ?_
    show Steps pP.tables eE below (T38.setTop (mkF mM 186 Ls7 [(.int (255 : Int32)), (.int p1), (.int (8 : Int32)), (.ref b5)])) _
    refine XS.iand X38.here hx rfl (hb hby at_186) rfl ?_
    show Steps pP.tables eE below (T38.setTop (mkF mM 187 Ls7 [(.int (p1 &&& (255 : Int32))), (.int (8 : Int32)), (.ref b5)])) _
    refine XS.i2l X38.here hx rfl (hb hby at_187) rfl ?_
    show Steps pP.tables eE below (T38.setTop (mkF mM 188 Ls7 [(.long ((p1 &&& (255 : Int32)).toInt64)), (.int (8 : Int32)), (.ref b5)])) _
    refine XS.iloadN X38.here hx rfl (hb hby at_188) rfl ?_
    show Steps pP.tables eE below (T38.setTop (mkF mM 189 Ls7 [(.int p2), (.long ((p1 &&& (255 : Int32)).toInt64)), (.int (8 : Int32)), (.ref b5)])) _
    refine XS.bipush X38.here hx rfl (hb hby at_189) ?_
    show Steps pP.tables eE below (T38.setTop (mkF mM 191 Ls7 [(.int (8 : Int32)), (.int p2), (.long ((p1 &&& (255 : Int32)).toInt64)), (.int (8 : Int32)), (.ref b5)])) _
    refine XS.iload X38.here hx rfl (hb hby at_191) rfl ?_
    show Steps pP.tables eE below (T38.setTop (mkF mM 193 Ls7 [(.int d), (.int (8 : Int32)), (.int p2), (.long ((p1 &&& (255 : Int32)).toInt64)), (.int (8 : Int32)), (.ref b5)])) _
    refine st41 _ ?_
    show Steps pP.tables eE below (T41.setTop (mkF mM 196 Ls7 [(.int (own_ck ((p1 &&& (255 : Int32)).toInt64) p2 (8 : Int32) d)), (.int (8 : Int32)), (.ref b5)])) _
    rw [← hx8]
    show Steps pP.tables eE below (T41.setTop (mkF mM 196 Ls7 [(.int x8), (.int (8 : Int32)), (.ref b5)])) _
    refine st42 _ ?_
    show Steps pP.tables eE below (T42.setTop (mkF mM 197 Ls7 [])) _
    refine XS.aload X42.here hx rfl (hb hby at_197) rfl rfl ?_
    show Steps pP.tables eE below (T42.setTop (mkF mM 199 Ls7 [(.ref b5)])) _
    refine XS.bipush X42.here hx rfl (hb hby at_199) ?_
    show Steps pP.tables eE below (T42.setTop (mkF mM 201 Ls7 [(.int (9 : Int32)), (.ref b5)])) _
    refine XS.iloadN X42.here hx rfl (hb hby at_201) rfl ?_
    show Steps pP.tables eE below (T42.setTop (mkF mM 202 Ls7 [(.int p1), (.int (9 : Int32)), (.ref b5)])) _
    refine XS.bipush X42.here hx rfl (hb hby at_202) ?_
    show Steps pP.tables eE below (T42.setTop (mkF mM 204 Ls7 [(.int (8 : Int32)), (.int p1), (.int (9 : Int32)), (.ref b5)])) _
    refine XS.iushr X42.here hx rfl (hb hby at_204) rfl ?_
    show Steps pP.tables eE below (T42.setTop (mkF mM 205 Ls7 [(.int ((p1.toUInt32 >>> ((8 : Int32) &&& 31).toUInt32).toInt32)), (.int (9 : Int32)), (.ref b5)])) _
    refine XS.sipush X42.here hx rfl (hb hby at_205) ?_
    show Steps pP.tables eE below (T42.setTop (mkF mM 208 Ls7 [(.int (255 : Int32)), (.int ((p1.toUInt32 >>> ((8 : Int32) &&& 31).toUInt32).toInt32)), (.int (9 : Int32)), (.ref b5)])) _
    refine XS.iand X42.here hx rfl (hb hby at_208) rfl ?_
    show Steps pP.tables eE below (T42.setTop (mkF mM 209 Ls7 [(.int (((p1.toUInt32 >>> ((8 : Int32) &&& 31).toUInt32).toInt32) &&& (255 : Int32))), (.int (9 : Int32)), (.ref b5)])) _
    refine XS.i2l X42.here hx rfl (hb hby at_209) rfl ?_
    show Steps pP.tables eE below (T42.setTop (mkF mM 210 Ls7 [(.long ((((p1.toUInt32 >>> ((8 : Int32) &&& 31).toUInt32).toInt32) &&& (255 : Int32)).toInt64)), (.int (9 : Int32)), (.ref b5)])) _
    refine XS.iloadN X42.here hx rfl (hb hby at_210) rfl ?_
    show Steps pP.tables eE below (T42.setTop (mkF mM 211 Ls7 [(.int p2), (.long ((((p1.toUInt32 >>> ((8 : Int32) &&& 31).toUInt32).toInt32) &&& (255 : Int32)).toInt64)), (.int (9 : Int32)), (.ref b5)])) _
    refine XS.bipush X42.here hx rfl (hb hby at_211) ?_
    show Steps pP.tables eE below (T42.setTop (mkF mM 213 Ls7 [(.int (9 : Int32)), (.int p2), (.long ((((p1.toUInt32 >>> ((8 : Int32) &&& 31).toUInt32).toInt32) &&& (255 : Int32)).toInt64)), (.int (9 : Int32)), (.ref b5)])) _
    refine XS.iload X42.here hx rfl (hb hby at_213) rfl ?_
    show Steps pP.tables eE below (T42.setTop (mkF mM 215 Ls7 [(.int d), (.int (9 : Int32)), (.int p2), (.long ((((p1.toUInt32 >>> ((8 : Int32) &&& 31).toUInt32).toInt32) &&& (255 : Int32)).toInt64)), (.int (9 : Int32)), (.ref b5)])) _
    refine st45 _ ?_
    show Steps pP.tables eE below (T45.setTop (mkF mM 218 Ls7 [(.int (own_ck ((((p1.toUInt32 >>> ((8 : Int32) &&& 31).toUInt32).toInt32) &&& (255 : Int32)).toInt64) p2 (9 : Int32) d)), (.int (9 : Int32)), (.ref b5)])) _
    rw [← hx9]
    show Steps pP.tables eE below (T45.setTop (mkF mM 218 Ls7 [(.int x9), (.int (9 : Int32)), (.ref b5)])) _
    refine st46 _ ?_
    show Steps pP.tables eE below (T46.setTop (mkF mM 219 Ls7 [])) _
    refine st48 _ ?_
    show Steps pP.tables eE below (T48.setTop (mkF mM 222 Ls7 [(.ref b48)])) _
    refine XS.dup X48.here hx rfl (hb hby at_222) rfl rfl ?_
    show Steps pP.tables eE below (T48.setTop (mkF mM 223 Ls7 [(.ref b48), (.ref b48)])) _
    refine XS.aload X48.here hx rfl (hb hby at_223) rfl rfl ?_
    show Steps pP.tables eE below (T48.setTop (mkF mM 225 Ls7 [(.ref b5), (.ref b48), (.ref b48)])) _
    refine st53.trans ?_
    show Steps pP.tables eE below (T53.setTop (mkF mM 228 Ls7 [(.ref b48)])) _
    refine XS.astore X53.here hx rfl (hb hby at_228) rfl rfl (l' := Ls55) rfl ?_
    show Steps pP.tables eE below (T53.setTop (mkF mM 230 Ls55 [])) _
    refine XS.iload X53.here hx rfl (hb hby at_230) rfl ?_
    show Steps pP.tables eE below (T53.setTop (mkF mM 232 Ls55 [(.int p3)])) _
    refine X53.ldcInt hx hown (mvT hZ (w_35 hw)) (g := (mkF mM 232 Ls55 [(.int p3)])) rfl (hb hby at_232) _ ?_
    show Steps pP.tables eE below (T53.setTop (mkF mM 234 Ls55 [(.int (2147483647 : Int32)), (.int p3)])) _
    refine XS.iand X53.here hx rfl (hb hby at_234) rfl ?_
    show Steps pP.tables eE below (T53.setTop (mkF mM 235 Ls55 [(.int (p3 &&& (2147483647 : Int32)))])) _
    rw [em31]
    show Steps pP.tables eE below (T53.setTop (mkF mM 235 Ls55 [(.int (Int32.ofNat m31))])) _
    refine XS.bipush X53.here hx rfl (hb hby at_235) ?_
    show Steps pP.tables eE below (T53.setTop (mkF mM 237 Ls55 [(.int (11 : Int32)), (.int (Int32.ofNat m31))])) _
    refine iremM X53 hx (g := (mkF mM 237 Ls55 [(.int (11 : Int32)), (.int (Int32.ofNat m31))])) rfl (hb hby at_237) rfl (by decide) ?_
    show Steps pP.tables eE below (T53.setTop (mkF mM 238 Ls55 [(.int ((Int32.ofNat m31) % (11 : Int32)))])) _
    rw [ef]
    show Steps pP.tables eE below (T53.setTop (mkF mM 238 Ls55 [(.int (Int32.ofNat f))])) _
    refine XS.istore X53.here hx rfl (hb hby at_238) rfl (l' := Ls56) rfl ?_
    show Steps pP.tables eE below (T53.setTop (mkF mM 240 Ls56 [])) _
    refine XS.iload X53.here hx rfl (hb hby at_240) rfl ?_
    show Steps pP.tables eE below (T53.setTop (mkF mM 242 Ls56 [(.int (Int32.ofNat f))])) _
    refine XS.iload X53.here hx rfl (hb hby at_242) rfl ?_
    show Steps pP.tables eE below (T53.setTop (mkF mM 244 Ls56 [(.int p3), (.int (Int32.ofNat f))])) _
    refine XS.bipush X53.here hx rfl (hb hby at_244) ?_
    show Steps pP.tables eE below (T53.setTop (mkF mM 246 Ls56 [(.int (8 : Int32)), (.int p3), (.int (Int32.ofNat f))])) _
    refine XS.iushr X53.here hx rfl (hb hby at_246) rfl ?_
    show Steps pP.tables eE below (T53.setTop (mkF mM 247 Ls56 [(.int ((p3.toUInt32 >>> ((8 : Int32) &&& 31).toUInt32).toInt32)), (.int (Int32.ofNat f))])) _
    rw [em8]
    show Steps pP.tables eE below (T53.setTop (mkF mM 247 Ls56 [(.int (Int32.ofNat m8)), (.int (Int32.ofNat f))])) _
    refine XS.bipush X53.here hx rfl (hb hby at_247) ?_
    show Steps pP.tables eE below (T53.setTop (mkF mM 249 Ls56 [(.int (11 : Int32)), (.int (Int32.ofNat m8)), (.int (Int32.ofNat f))])) _
    refine XS.iload X53.here hx rfl (hb hby at_249) rfl ?_
    show Steps pP.tables eE below (T53.setTop (mkF mM 251 Ls56 [(.int (Int32.ofNat f)), (.int (11 : Int32)), (.int (Int32.ofNat m8)), (.int (Int32.ofNat f))])) _
    refine XS.isub X53.here hx rfl (hb hby at_251) rfl ?_
    show Steps pP.tables eE below (T53.setTop (mkF mM 252 Ls56 [(.int ((11 : Int32) - (Int32.ofNat f))), (.int (Int32.ofNat m8)), (.int (Int32.ofNat f))])) _
    rw [e11]
    show Steps pP.tables eE below (T53.setTop (mkF mM 252 Ls56 [(.int (Int32.ofNat ((10 - f) + 1))), (.int (Int32.ofNat m8)), (.int (Int32.ofNat f))])) _
    refine iremM X53 hx (g := (mkF mM 252 Ls56 [(.int (Int32.ofNat ((10 - f) + 1))), (.int (Int32.ofNat m8)), (.int (Int32.ofNat f))])) rfl (hb hby at_252) rfl hnz ?_
    show Steps pP.tables eE below (T53.setTop (mkF mM 253 Ls56 [(.int ((Int32.ofNat m8) % (Int32.ofNat ((10 - f) + 1)))), (.int (Int32.ofNat f))])) _
    rw [eg]
    show Steps pP.tables eE below (T53.setTop (mkF mM 253 Ls56 [(.int (Int32.ofNat g8)), (.int (Int32.ofNat f))])) _
    refine XS.iadd X53.here hx rfl (hb hby at_253) rfl ?_
    show Steps pP.tables eE below (T53.setTop (mkF mM 254 Ls56 [(.int ((Int32.ofNat f) + (Int32.ofNat g8)))])) _
    rw [ett]
    show Steps pP.tables eE below (T53.setTop (mkF mM 254 Ls56 [(.int (Int32.ofNat tt))])) _
    refine XS.istore X53.here hx rfl (hb hby at_254) rfl (l' := Ls57) rfl ?_
    show Steps pP.tables eE below (T53.setTop (mkF mM 256 Ls57 [])) _
    refine st58 _ ?_
    show Steps pP.tables eE below (T58.setTop (mkF mM 259 Ls57 [(.ref b58)])) _
    refine XS.dup X58.here hx rfl (hb hby at_259) rfl rfl ?_
    show Steps pP.tables eE below (T58.setTop (mkF mM 260 Ls57 [(.ref b58), (.ref b58)])) _
    refine XS.aload X58.here hx rfl (hb hby at_260) rfl rfl ?_
    show Steps pP.tables eE below (T58.setTop (mkF mM 262 Ls57 [(.ref b48), (.ref b58), (.ref b58)])) _
    refine XS.iload X58.here hx rfl (hb hby at_262) rfl ?_
    show Steps pP.tables eE below (T58.setTop (mkF mM 264 Ls57 [(.int d), (.ref b48), (.ref b58), (.ref b58)])) _
    refine XS.iload X58.here hx rfl (hb hby at_264) rfl ?_
    show Steps pP.tables eE below (T58.setTop (mkF mM 266 Ls57 [(.int (Int32.ofNat f)), (.int d), (.ref b48), (.ref b58), (.ref b58)])) _
    refine XS.iload X58.here hx rfl (hb hby at_266) rfl ?_
    show Steps pP.tables eE below (T58.setTop (mkF mM 268 Ls57 [(.int (Int32.ofNat tt)), (.int (Int32.ofNat f)), (.int d), (.ref b48), (.ref b58), (.ref b58)])) _
    refine st62.trans ?_
    exact kg)
  by_cases hr064 : (0 : Int32) < p4
  · have f66 := (((((((((((((((V_ne.ext E5).other W10 (Nat.ne_of_lt (Nat.lt_of_lt_of_le (V_ne).lt (Nat.le_of_eq g5.symm)))).other W14 (Nat.ne_of_lt (Nat.lt_of_lt_of_le (V_ne).lt (Nat.le_of_eq g5.symm)))).other W18 (Nat.ne_of_lt (Nat.lt_of_lt_of_le (V_ne).lt (Nat.le_of_eq g5.symm)))).other W22 (Nat.ne_of_lt (Nat.lt_of_lt_of_le (V_ne).lt (Nat.le_of_eq g5.symm)))).other W26 (Nat.ne_of_lt (Nat.lt_of_lt_of_le (V_ne).lt (Nat.le_of_eq g5.symm)))).other W30 (Nat.ne_of_lt (Nat.lt_of_lt_of_le (V_ne).lt (Nat.le_of_eq g5.symm)))).other W34 (Nat.ne_of_lt (Nat.lt_of_lt_of_le (V_ne).lt (Nat.le_of_eq g5.symm)))).other W38 (Nat.ne_of_lt (Nat.lt_of_lt_of_le (V_ne).lt (Nat.le_of_eq g5.symm)))).other W42 (Nat.ne_of_lt (Nat.lt_of_lt_of_le (V_ne).lt (Nat.le_of_eq g5.symm)))).other W46 (Nat.ne_of_lt (Nat.lt_of_lt_of_le (V_ne).lt (Nat.le_of_eq g5.symm)))).ext E48).keep Kq53 (ninS (Nat.ne_of_lt (Nat.lt_of_lt_of_le (Nat.lt_of_lt_of_le (Nat.lt_of_lt_of_le (Nat.lt_of_lt_of_le (Nat.lt_of_lt_of_le (Nat.lt_of_lt_of_le (Nat.lt_of_lt_of_le (Nat.lt_of_lt_of_le (Nat.lt_of_lt_of_le (Nat.lt_of_lt_of_le (Nat.lt_of_lt_of_le (Nat.lt_of_lt_of_le (V_ne).lt E5.1) (Nat.le_of_eq W10.size.symm)) (Nat.le_of_eq W14.size.symm)) (Nat.le_of_eq W18.size.symm)) (Nat.le_of_eq W22.size.symm)) (Nat.le_of_eq W26.size.symm)) (Nat.le_of_eq W30.size.symm)) (Nat.le_of_eq W34.size.symm)) (Nat.le_of_eq W38.size.symm)) (Nat.le_of_eq W42.size.symm)) (Nat.le_of_eq W46.size.symm)) (Nat.le_of_eq g48.symm))) nin0)).ext E58).keep Kq62 (ninS (Nat.ne_of_lt (Nat.lt_of_lt_of_le (Nat.lt_of_lt_of_le (Nat.lt_of_lt_of_le (Nat.lt_of_lt_of_le (Nat.lt_of_lt_of_le (Nat.lt_of_lt_of_le (Nat.lt_of_lt_of_le (Nat.lt_of_lt_of_le (Nat.lt_of_lt_of_le (Nat.lt_of_lt_of_le (Nat.lt_of_lt_of_le (Nat.lt_of_lt_of_le (Nat.lt_of_lt_of_le (Nat.lt_of_lt_of_le (V_ne).lt E5.1) (Nat.le_of_eq W10.size.symm)) (Nat.le_of_eq W14.size.symm)) (Nat.le_of_eq W18.size.symm)) (Nat.le_of_eq W22.size.symm)) (Nat.le_of_eq W26.size.symm)) (Nat.le_of_eq W30.size.symm)) (Nat.le_of_eq W34.size.symm)) (Nat.le_of_eq W38.size.symm)) (Nat.le_of_eq W42.size.symm)) (Nat.le_of_eq W46.size.symm)) E48.1) Kq53.1) (Nat.le_of_eq g58.symm))) nin0))
    have f67 := (((Sq53).1.ext E58).keep Kq62)
    have f68 := (((Sq53).2.1.ext E58).keep Kq62 (ninS (Nat.ne_of_lt (Nat.lt_of_lt_of_le ((Sq53).1).lt (Nat.le_of_eq g58.symm))) nin0))
    have f69 := (((Sq53).2.2.1.ext E58).keep Kq62 (ninS (Nat.ne_of_lt (Nat.lt_of_lt_of_le ((Sq53).1).lt (Nat.le_of_eq g58.symm))) nin0))
    have f70 := (((Sq53).2.2.2.1.ext E58).keep Kq62 (ninS (Nat.ne_of_lt (Nat.lt_of_lt_of_le ((Sq53).2.2.2.1).lt (Nat.le_of_eq g58.symm))) nin0))
    have f71 := (f61.keep Kq62 (allS g_b58 all0))
    obtain ⟨cq72, kq72, q72a, q72b, q72c⟩ := isOf hZ rfl q62_0
    obtain ⟨_, _, ⟨T72, L72, k72, n72⟩, -, X72, ⟨Lc72, hQ72, l72, y72, z72⟩, st72⟩ := X62.virtualBack hx (y := (⟨"com/example/resultwire/resultwire/er7/PieceIndex", "reach", "(I)Lcom/example/resultwire/resultwire/er7/PieceIndex;"⟩ : MethodName)) (z := (⟨"com/example/resultwire/resultwire/er7/PieceIndex", "reach", "(I)Lcom/example/resultwire/resultwire/er7/PieceIndex;"⟩ : MethodName)) hown (mvT hZ (w_60 hw)) (mvT hZ (w_61 hw)) (notFace_of_selects (args := #[]) (mvT hZ (w_63 hw))) (mvT hZ (w_63 hw)) (mvT hZ (w_62 hw)) (by decide) (backOf (W := 0) (rm_reach1 l Z a0 hw [] b58 p4 b48 t53 kb53 ([x0, x1, x2, x3, x4, x5, x6, x7, x8, x9]) d f tt ne kne zc fm T62.heap n0 f71 q62_1 q62_2 q62_3 q62_4 q62_5 q62_6 f66 (⟨f67, f68, f69, f70, (Sq53).2.2.2.2⟩ : own_Str Z T62.heap b48 t53 kb53 [x0, x1, x2, x3, x4, x5, x6, x7, x8, x9]) q62_0 hr064 (by omega : f ≤ tt) (by rw [hlen]; omega : tt ≤ [x0, x1, x2, x3, x4, x5, x6, x7, x8, x9].length ∧ tt ≤ 10) S_COMPACT_STRINGS hp3 S_SIOOBE_FORMATTER hp5) hZ (w_64 hw) (w_38 hw) (by decide) (by decide)) q72a q72c (g := (mkF mM 273 Ls57 [(.int p4), (.ref b58)])) rfl (by rw [hml]; rfl) (Steps.refl _) (argsL := [(.int p4)]) (rest := []) (lenOf pd_13 rfl) rfl (by show 2 * 0 + _ ≤ _; exact Nat.le_of_eq rfl) (hb hby at_273) (fun _ _ => ⟨rfl, rfl, (by decide : 4 + 4 ≤ _), (by decide : 30 + 40 ≤ _)⟩)
    dsimp only [Pt.U, Pt.locs, Pt.cells, Pt.slots] at X72 l72 y72 z72 st72 hQ72
    subst l72 y72 z72
    obtain ⟨b_72, t4_72, kt4_72, z4_72, w_72, rfl, Nq72, Kq72, q72_0, q72_1, q72_2, q72_3, q72_4, q72_5, q72_6, q72_7, q72_8, q72_9, q72_10⟩ := hQ72
    have N72 := Fr.app N62 Nq72
    have g_b_72 : n0 ≤ b_72 := Nat.le_trans (own_osz f71) q72_0
    have sz_b_72 : h0.size ≤ b_72 := Nat.le_trans K63.1 q72_0
    have K73 : Keep h0 T72.heap [] := K63.trans Kq72 all0
    let Ls74 : Array Slot := #[.val (.long p0), .second, .val (.int p1), .val (.int p2), .val (.int p3), .val (.int p4), .val (.int p5), .val (.int d), .val (.ref b5), .val (.ref b48), .val (.int (Int32.ofNat f)), .val (.int (Int32.ofNat tt)), .val (.ref b_72), .unset, .unset, .unset, .unset, .unset, .unset]
    have f75 := (f71.keep Kq72 all0)
    obtain ⟨cq76, kq76, q76a, q76b, q76c⟩ := isOf hZ rfl q72_1
    obtain ⟨_, _, ⟨T76, L76, k76, n76⟩, -, X76, ⟨Lc76, hQ76, l76, y76, z76⟩, st76⟩ := X72.virtualBack hx (y := (⟨"com/example/resultwire/resultwire/er7/PieceIndex", "end", "(I)I"⟩ : MethodName)) (z := (⟨"com/example/resultwire/resultwire/er7/PieceIndex", "end", "(I)I"⟩ : MethodName)) hown (mvT hZ (w_132 hw)) (mvT hZ (w_133 hw)) (notFace_of_selects (args := #[]) (mvT hZ (w_135 hw))) (mvT hZ (w_135 hw)) (mvT hZ (w_134 hw)) (by decide) (backOf (W := 0) (rm_endc l Z a0 hw [] b_72 p5 (Int32.ofNat f) (Int32.ofNat tt) t4_72 kt4_72 z4_72 ((own_pcs [x0, x1, x2, x3, x4, x5, x6, x7, x8, x9] d tt (tt + 1 - f) f).take w_72) T72.heap n0 f75 q72_4 q72_5 q72_6 q72_7 q72_8 q72_10) hZ (w_136 hw) (w_38 hw) (by decide) (by decide)) q76a q76c (g := (mkF mM 282 Ls74 [(.int p5), (.ref b_72)])) rfl (by rw [hml]; rfl) (Steps.refl _) (argsL := [(.int p5)]) (rest := []) (lenOf pd_14 rfl) rfl (by show 2 * 0 + _ ≤ _; exact Nat.le_of_eq rfl) (hb hby at_282) (fun _ _ => ⟨rfl, rfl, (by decide : 8 + 0 ≤ _), (by decide : 70 + 0 ≤ _)⟩)
    dsimp only [Pt.U, Pt.locs, Pt.cells, Pt.slots] at X76 l76 y76 z76 st76 hQ76
    subst l76 y76 z76
    obtain ⟨rfl, rfl, Kq76⟩ := hQ76
    try rw [List.append_nil] at X76
    let Ls77 : Array Slot := #[.val (.long p0), .second, .val (.int p1), .val (.int p2), .val (.int p3), .val (.int p4), .val (.int p5), .val (.int d), .val (.ref b5), .val (.ref b48), .val (.int (Int32.ofNat f)), .val (.int (Int32.ofNat tt)), .val (.ref b_72), .val (.int (own_fin p5 (Int32.ofNat tt) ((own_pcs [x0, x1, x2, x3, x4, x5, x6, x7, x8, x9] d tt (tt + 1 - f) f).take w_72))), .unset, .unset, .unset, .unset, .unset]
    let Ls78 : Array Slot := #[.val (.long p0), .second, .val (.int p1), .val (.int p2), .val (.int p3), .val (.int p4), .val (.int p5), .val (.int d), .val (.ref b5), .val (.ref b48), .val (.int (Int32.ofNat f)), .val (.int (Int32.ofNat tt)), .val (.ref b_72), .val (.int (own_fin p5 (Int32.ofNat tt) ((own_pcs [x0, x1, x2, x3, x4, x5, x6, x7, x8, x9] d tt (tt + 1 - f) f).take w_72))), .val (.int (0 : Int32)), .unset, .unset, .unset, .unset]
    let Ls79 : Array Slot := #[.val (.long p0), .second, .val (.int p1), .val (.int p2), .val (.int p3), .val (.int p4), .val (.int p5), .val (.int d), .val (.ref b5), .val (.ref b48), .val (.int (Int32.ofNat f)), .val (.int (Int32.ofNat tt)), .val (.ref b_72), .val (.int (own_fin p5 (Int32.ofNat tt) ((own_pcs [x0, x1, x2, x3, x4, x5, x6, x7, x8, x9] d tt (tt + 1 - f) f).take w_72))), .val (.int (0 : Int32)), .val (.int (Int32.ofNat tt)), .unset, .unset, .unset]
    have f80 := ((((f52.keep Kq53 (ninS (Nat.ne_of_lt (Nat.lt_of_lt_of_le (Nat.lt_of_lt_of_le (Nat.lt_of_lt_of_le (Nat.lt_of_lt_of_le (Nat.lt_of_lt_of_le (Nat.lt_of_lt_of_le (Nat.lt_of_lt_of_le (Nat.lt_of_lt_of_le (Nat.lt_of_lt_of_le (Nat.lt_of_lt_of_le (Nat.lt_of_lt_of_le (V5).lt (Nat.le_of_eq W10.size.symm)) (Nat.le_of_eq W14.size.symm)) (Nat.le_of_eq W18.size.symm)) (Nat.le_of_eq W22.size.symm)) (Nat.le_of_eq W26.size.symm)) (Nat.le_of_eq W30.size.symm)) (Nat.le_of_eq W34.size.symm)) (Nat.le_of_eq W38.size.symm)) (Nat.le_of_eq W42.size.symm)) (Nat.le_of_eq W46.size.symm)) (Nat.le_of_eq g48.symm))) nin0)).ext E58).keep Kq62 (ninS (Nat.ne_of_lt (Nat.lt_of_lt_of_le (Nat.lt_of_lt_of_le (Nat.lt_of_lt_of_le (Nat.lt_of_lt_of_le (Nat.lt_of_lt_of_le (Nat.lt_of_lt_of_le (Nat.lt_of_lt_of_le (Nat.lt_of_lt_of_le (Nat.lt_of_lt_of_le (Nat.lt_of_lt_of_le (Nat.lt_of_lt_of_le (Nat.lt_of_lt_of_le (Nat.lt_of_lt_of_le (V5).lt (Nat.le_of_eq W10.size.symm)) (Nat.le_of_eq W14.size.symm)) (Nat.le_of_eq W18.size.symm)) (Nat.le_of_eq W22.size.symm)) (Nat.le_of_eq W26.size.symm)) (Nat.le_of_eq W30.size.symm)) (Nat.le_of_eq W34.size.symm)) (Nat.le_of_eq W38.size.symm)) (Nat.le_of_eq W42.size.symm)) (Nat.le_of_eq W46.size.symm)) E48.1) Kq53.1) (Nat.le_of_eq g58.symm))) nin0)).keep Kq72 nin0)
    obtain ⟨_, _, ⟨T81, L81, k81, n81⟩, -, X81, ⟨Lc81, hQ81, l81, y81, z81⟩, st81⟩ := Jvm.LawKit.callS X76 hx (y := (⟨"com/example/resultwire/resultwire/er7/PieceIndexEndPinLaw", "isD", "([CIIII)Z"⟩ : MethodName)) hown (mvT hZ (w_137 hw)) (mvT hZ (w_138 hw)) (mvT hZ (w_4 hw)) (mvT hZ (w_139 hw)) (by decide) (backOf (W := 0) (rm_isD l Z a0 hw [] b5 k5 ([x0, x1, x2, x3, x4, x5, x6, x7, x8, x9]) 0 (Int32.ofNat f) (Int32.ofNat tt) d T72.heap n0 f75 f80 (by first | decide | exact Nat.le_of_ble_eq_true rfl : 0 < [x0, x1, x2, x3, x4, x5, x6, x7, x8, x9].length) (by first | decide | exact Nat.le_of_ble_eq_true rfl : [x0, x1, x2, x3, x4, x5, x6, x7, x8, x9].length ≤ 4000)) hZ (w_139 hw) (w_4 hw) (by decide) (by decide)) (g := (mkF mM 303 Ls79 [(.int d), (.int (Int32.ofNat tt)), (.int (Int32.ofNat f)), (.int (0 : Int32)), (.ref b5)])) rfl (by rw [hml]; rfl) (argsL := [(.ref b5), (.int (0 : Int32)), (.int (Int32.ofNat f)), (.int (Int32.ofNat tt)), (.int d)]) (rest := []) (lenOf pd_15 rfl) rfl (by show 2 * 0 + _ ≤ _; exact Nat.le_of_eq rfl) (hb hby at_303) (fun _ _ => ⟨rfl, Kq76, (by decide : 8 + 0 ≤ _), (by decide : 70 + 0 ≤ _)⟩)
    dsimp only [Pt.U, Pt.locs, Pt.cells, Pt.slots] at X81 l81 y81 z81 st81 hQ81
    subst l81 y81 z81
    obtain ⟨rfl, rfl, Kq81⟩ := hQ81
    try rw [List.append_nil] at X81
    obtain ⟨bd0, hbd0⟩ : ∃ z, z = (own_isd ([x0, x1, x2, x3, x4, x5, x6, x7, x8, x9].getD 0 0) (Int32.ofNat 0) d (Int32.ofNat f) (Int32.ofNat tt)) := ⟨_, rfl⟩
    obtain ⟨c82, hc82⟩ : ∃ z, z = own_s1 bd0 (0 : Int32) := ⟨_, rfl⟩
    obtain ⟨r82, hr82⟩ : ∃ z, z = own_s2 bd0 (0 : Int32) p5 (Int32.ofNat tt) (0 : Int32) := ⟨_, rfl⟩
    obtain ⟨T83, X83, e83, st83⟩ := own_to X81 (h := T72.heap) (g := (mkF mM 306 Ls79 [(.int bd0)])) (g' := (mkF mM 322 #[.val (.long p0), .second, .val (.int p1), .val (.int p2), .val (.int p3), .val (.int p4), .val (.int p5), .val (.int d), .val (.ref b5), .val (.ref b48), .val (.int (Int32.ofNat f)), .val (.int (Int32.ofNat tt)), .val (.ref b_72), .val (.int (own_fin p5 (Int32.ofNat tt) ((own_pcs [x0, x1, x2, x3, x4, x5, x6, x7, x8, x9] d tt (tt + 1 - f) f).take w_72))), .val (.int c82), .val (.int r82), .unset, .unset, .unset] [])) (by
      by_cases hc84 : bd0 = (0 : Int32)
      · refine ⟨T81, X81, Kq81, fun tg kg => ?_⟩
        rw [hc82.trans (if_pos hc84)] at kg
        rw [hr82.trans (if_pos hc84)] at kg
        refine XS.ifYes X81.here hx rfl (pc0 := 306) (pc' := 322) rfl (hb hby at_306) rfl ((if0 _ _).trans (teq hc84).1) (by decide) (by decide) ?_
        exact kg
      · let Ls85 : Array Slot := #[.val (.long p0), .second, .val (.int p1), .val (.int p2), .val (.int p3), .val (.int p4), .val (.int p5), .val (.int d), .val (.ref b5), .val (.ref b48), .val (.int (Int32.ofNat f)), .val (.int (Int32.ofNat tt)), .val (.ref b_72), .val (.int (own_fin p5 (Int32.ofNat tt) ((own_pcs [x0, x1, x2, x3, x4, x5, x6, x7, x8, x9] d tt (tt + 1 - f) f).take w_72))), .val (.int ((0 : Int32) + (1 : Int32))), .val (.int (Int32.ofNat tt)), .unset, .unset, .unset]
        have pre87 : ∀ tg, Steps pP.tables eE below (T81.setTop (mkF mM 316 Ls85 [(.int p5), (.int ((0 : Int32) + (1 : Int32)))])) tg → Steps pP.tables eE below (T81.setTop (mkF mM 306 Ls79 [(.int bd0)])) tg := fun tg kg => (by
          refine XS.ifNo X81.here hx rfl (hb hby at_306) rfl ((if0 _ _).trans (feq hc84).1) ?_
          show Steps pP.tables eE below (T81.setTop (mkF mM 309 Ls79 [])) _
          refine XS.iinc X81.here hx rfl (hb hby at_309) rfl (l' := Ls85) rfl ?_
          show Steps pP.tables eE below (T81.setTop (mkF mM 312 Ls85 [])) _
          refine XS.iload X81.here hx rfl (hb hby at_312) rfl ?_
          show Steps pP.tables eE below (T81.setTop (mkF mM 314 Ls85 [(.int ((0 : Int32) + (1 : Int32)))])) _
          refine XS.iload X81.here hx rfl (hb hby at_314) rfl ?_
          exact kg)
        by_cases hc86 : ((0 : Int32) + (1 : Int32)) = p5
        · let Ls88 : Array Slot := #[.val (.long p0), .second, .val (.int p1), .val (.int p2), .val (.int p3), .val (.int p4), .val (.int p5), .val (.int d), .val (.ref b5), .val (.ref b48), .val (.int (Int32.ofNat f)), .val (.int (Int32.ofNat tt)), .val (.ref b_72), .val (.int (own_fin p5 (Int32.ofNat tt) ((own_pcs [x0, x1, x2, x3, x4, x5, x6, x7, x8, x9] d tt (tt + 1 - f) f).take w_72))), .val (.int ((0 : Int32) + (1 : Int32))), .val (.int (0 : Int32)), .unset, .unset, .unset]
          refine ⟨T81, X81, Kq81, fun tg kg => ?_⟩
          rw [hc82.trans (if_neg hc84)] at kg
          rw [hr82.trans ((if_neg hc84).trans (if_pos hc86))] at kg
          refine pre87 tg ?_
          refine XS.icmpNo X81.here hx rfl (hb hby at_316) rfl (teq hc86).2 ?_
          show Steps pP.tables eE below (T81.setTop (mkF mM 319 Ls85 [])) _
          refine XS.iconst X81.here hx rfl (hb hby at_319) ?_
          show Steps pP.tables eE below (T81.setTop (mkF mM 320 Ls85 [(.int (0 : Int32))])) _
          refine XS.istore X81.here hx rfl (hb hby at_320) rfl (l' := Ls88) rfl ?_
          exact kg
        · refine ⟨T81, X81, Kq81, fun tg kg => ?_⟩
          rw [hc82.trans (if_neg hc84)] at kg
          rw [hr82.trans ((if_neg hc84).trans (if_neg hc86))] at kg
          refine pre87 tg ?_
          refine XS.icmpYes X81.here hx rfl (pc0 := 316) (pc' := 322) rfl (hb hby at_316) rfl (feq hc86).2 (by decide) (by decide) ?_
          exact kg)
    let Ls89 : Array Slot := #[.val (.long p0), .second, .val (.int p1), .val (.int p2), .val (.int p3), .val (.int p4), .val (.int p5), .val (.int d), .val (.ref b5), .val (.ref b48), .val (.int (Int32.ofNat f)), .val (.int (Int32.ofNat tt)), .val (.ref b_72), .val (.int (own_fin p5 (Int32.ofNat tt) ((own_pcs [x0, x1, x2, x3, x4, x5, x6, x7, x8, x9] d tt (tt + 1 - f) f).take w_72))), .val (.int c82), .val (.int r82), .unset, .unset, .unset]
    obtain ⟨_, _, ⟨T90, L90, k90, n90⟩, -, X90, ⟨Lc90, hQ90, l90, y90, z90⟩, st90⟩ := Jvm.LawKit.callS X83 hx (y := (⟨"com/example/resultwire/resultwire/er7/PieceIndexEndPinLaw", "isD", "([CIIII)Z"⟩ : MethodName)) hown (mvT hZ (w_137 hw)) (mvT hZ (w_138 hw)) (mvT hZ (w_4 hw)) (mvT hZ (w_139 hw)) (by decide) (backOf (W := 0) (rm_isD l Z a0 hw [] b5 k5 ([x0, x1, x2, x3, x4, x5, x6, x7, x8, x9]) 1 (Int32.ofNat f) (Int32.ofNat tt) d T72.heap n0 f75 f80 (by first | decide | exact Nat.le_of_ble_eq_true rfl : 1 < [x0, x1, x2, x3, x4, x5, x6, x7, x8, x9].length) (by first | decide | exact Nat.le_of_ble_eq_true rfl : [x0, x1, x2, x3, x4, x5, x6, x7, x8, x9].length ≤ 4000)) hZ (w_139 hw) (w_4 hw) (by decide) (by decide)) (g := (mkF mM 331 Ls89 [(.int d), (.int (Int32.ofNat tt)), (.int (Int32.ofNat f)), (.int (1 : Int32)), (.ref b5)])) rfl (by rw [hml]; rfl) (argsL := [(.ref b5), (.int (1 : Int32)), (.int (Int32.ofNat f)), (.int (Int32.ofNat tt)), (.int d)]) (rest := []) (lenOf pd_15 rfl) rfl (by show 2 * 0 + _ ≤ _; exact Nat.le_of_eq rfl) (hb hby at_331) (fun _ _ => ⟨rfl, e83, (by decide : 8 + 0 ≤ _), (by decide : 70 + 0 ≤ _)⟩)
    dsimp only [Pt.U, Pt.locs, Pt.cells, Pt.slots] at X90 l90 y90 z90 st90 hQ90
    subst l90 y90 z90
    obtain ⟨rfl, rfl, Kq90⟩ := hQ90
    try rw [List.append_nil] at X90
    obtain ⟨bd1, hbd1⟩ : ∃ z, z = (own_isd ([x0, x1, x2, x3, x4, x5, x6, x7, x8, x9].getD 1 0) (Int32.ofNat 1) d (Int32.ofNat f) (Int32.ofNat tt)) := ⟨_, rfl⟩
    obtain ⟨c91, hc91⟩ : ∃ z, z = own_s1 bd1 c82 := ⟨_, rfl⟩
    obtain ⟨r91, hr91⟩ : ∃ z, z = own_s2 bd1 c82 p5 r82 (1 : Int32) := ⟨_, rfl⟩
    obtain ⟨T92, X92, e92, st92⟩ := own_to X90 (h := T72.heap) (g := (mkF mM 334 Ls89 [(.int bd1)])) (g' := (mkF mM 350 #[.val (.long p0), .second, .val (.int p1), .val (.int p2), .val (.int p3), .val (.int p4), .val (.int p5), .val (.int d), .val (.ref b5), .val (.ref b48), .val (.int (Int32.ofNat f)), .val (.int (Int32.ofNat tt)), .val (.ref b_72), .val (.int (own_fin p5 (Int32.ofNat tt) ((own_pcs [x0, x1, x2, x3, x4, x5, x6, x7, x8, x9] d tt (tt + 1 - f) f).take w_72))), .val (.int c91), .val (.int r91), .unset, .unset, .unset] [])) (by
      by_cases hc93 : bd1 = (0 : Int32)
      · refine ⟨T90, X90, Kq90, fun tg kg => ?_⟩
        rw [hc91.trans (if_pos hc93)] at kg
        rw [hr91.trans (if_pos hc93)] at kg
        refine XS.ifYes X90.here hx rfl (pc0 := 334) (pc' := 350) rfl (hb hby at_334) rfl ((if0 _ _).trans (teq hc93).1) (by decide) (by decide) ?_
        exact kg
      · let Ls94 : Array Slot := #[.val (.long p0), .second, .val (.int p1), .val (.int p2), .val (.int p3), .val (.int p4), .val (.int p5), .val (.int d), .val (.ref b5), .val (.ref b48), .val (.int (Int32.ofNat f)), .val (.int (Int32.ofNat tt)), .val (.ref b_72), .val (.int (own_fin p5 (Int32.ofNat tt) ((own_pcs [x0, x1, x2, x3, x4, x5, x6, x7, x8, x9] d tt (tt + 1 - f) f).take w_72))), .val (.int (c82 + (1 : Int32))), .val (.int r82), .unset, .unset, .unset]
        have pre96 : ∀ tg, Steps pP.tables eE below (T90.setTop (mkF mM 344 Ls94 [(.int p5), (.int (c82 + (1 : Int32)))])) tg → Steps pP.tables eE below (T90.setTop (mkF mM 334 Ls89 [(.int bd1)])) tg := fun tg kg => (by
          refine XS.ifNo X90.here hx rfl (hb hby at_334) rfl ((if0 _ _).trans (feq hc93).1) ?_
          show Steps pP.tables eE below (T90.setTop (mkF mM 337 Ls89 [])) _
          refine XS.iinc X90.here hx rfl (hb hby at_337) rfl (l' := Ls94) rfl ?_
          show Steps pP.tables eE below (T90.setTop (mkF mM 340 Ls94 [])) _
          refine XS.iload X90.here hx rfl (hb hby at_340) rfl ?_
          show Steps pP.tables eE below (T90.setTop (mkF mM 342 Ls94 [(.int (c82 + (1 : Int32)))])) _
          refine XS.iload X90.here hx rfl (hb hby at_342) rfl ?_
          exact kg)
        by_cases hc95 : (c82 + (1 : Int32)) = p5
        · let Ls97 : Array Slot := #[.val (.long p0), .second, .val (.int p1), .val (.int p2), .val (.int p3), .val (.int p4), .val (.int p5), .val (.int d), .val (.ref b5), .val (.ref b48), .val (.int (Int32.ofNat f)), .val (.int (Int32.ofNat tt)), .val (.ref b_72), .val (.int (own_fin p5 (Int32.ofNat tt) ((own_pcs [x0, x1, x2, x3, x4, x5, x6, x7, x8, x9] d tt (tt + 1 - f) f).take w_72))), .val (.int (c82 + (1 : Int32))), .val (.int (1 : Int32)), .unset, .unset, .unset]
          refine ⟨T90, X90, Kq90, fun tg kg => ?_⟩
          rw [hc91.trans (if_neg hc93)] at kg
          rw [hr91.trans ((if_neg hc93).trans (if_pos hc95))] at kg
          refine pre96 tg ?_
          refine XS.icmpNo X90.here hx rfl (hb hby at_344) rfl (teq hc95).2 ?_
          show Steps pP.tables eE below (T90.setTop (mkF mM 347 Ls94 [])) _
          refine XS.iconst X90.here hx rfl (hb hby at_347) ?_
          show Steps pP.tables eE below (T90.setTop (mkF mM 348 Ls94 [(.int (1 : Int32))])) _
          refine XS.istore X90.here hx rfl (hb hby at_348) rfl (l' := Ls97) rfl ?_
          exact kg
        · refine ⟨T90, X90, Kq90, fun tg kg => ?_⟩
          rw [hc91.trans (if_neg hc93)] at kg
          rw [hr91.trans ((if_neg hc93).trans (if_neg hc95))] at kg
          refine pre96 tg ?_
          refine XS.icmpYes X90.here hx rfl (pc0 := 344) (pc' := 350) rfl (hb hby at_344) rfl (feq hc95).2 (by decide) (by decide) ?_
          exact kg)
    let Ls98 : Array Slot := #[.val (.long p0), .second, .val (.int p1), .val (.int p2), .val (.int p3), .val (.int p4), .val (.int p5), .val (.int d), .val (.ref b5), .val (.ref b48), .val (.int (Int32.ofNat f)), .val (.int (Int32.ofNat tt)), .val (.ref b_72), .val (.int (own_fin p5 (Int32.ofNat tt) ((own_pcs [x0, x1, x2, x3, x4, x5, x6, x7, x8, x9] d tt (tt + 1 - f) f).take w_72))), .val (.int c91), .val (.int r91), .unset, .unset, .unset]
    obtain ⟨_, _, ⟨T99, L99, k99, n99⟩, -, X99, ⟨Lc99, hQ99, l99, y99, z99⟩, st99⟩ := Jvm.LawKit.callS X92 hx (y := (⟨"com/example/resultwire/resultwire/er7/PieceIndexEndPinLaw", "isD", "([CIIII)Z"⟩ : MethodName)) hown (mvT hZ (w_137 hw)) (mvT hZ (w_138 hw)) (mvT hZ (w_4 hw)) (mvT hZ (w_139 hw)) (by decide) (backOf (W := 0) (rm_isD l Z a0 hw [] b5 k5 ([x0, x1, x2, x3, x4, x5, x6, x7, x8, x9]) 2 (Int32.ofNat f) (Int32.ofNat tt) d T72.heap n0 f75 f80 (by first | decide | exact Nat.le_of_ble_eq_true rfl : 2 < [x0, x1, x2, x3, x4, x5, x6, x7, x8, x9].length) (by first | decide | exact Nat.le_of_ble_eq_true rfl : [x0, x1, x2, x3, x4, x5, x6, x7, x8, x9].length ≤ 4000)) hZ (w_139 hw) (w_4 hw) (by decide) (by decide)) (g := (mkF mM 359 Ls98 [(.int d), (.int (Int32.ofNat tt)), (.int (Int32.ofNat f)), (.int (2 : Int32)), (.ref b5)])) rfl (by rw [hml]; rfl) (argsL := [(.ref b5), (.int (2 : Int32)), (.int (Int32.ofNat f)), (.int (Int32.ofNat tt)), (.int d)]) (rest := []) (lenOf pd_15 rfl) rfl (by show 2 * 0 + _ ≤ _; exact Nat.le_of_eq rfl) (hb hby at_359) (fun _ _ => ⟨rfl, e92, (by decide : 8 + 0 ≤ _), (by decide : 70 + 0 ≤ _)⟩)
    dsimp only [Pt.U, Pt.locs, Pt.cells, Pt.slots] at X99 l99 y99 z99 st99 hQ99
    subst l99 y99 z99
    obtain ⟨rfl, rfl, Kq99⟩ := hQ99
    try rw [List.append_nil] at X99
    obtain ⟨bd2, hbd2⟩ : ∃ z, z = (own_isd ([x0, x1, x2, x3, x4, x5, x6, x7, x8, x9].getD 2 0) (Int32.ofNat 2) d (Int32.ofNat f) (Int32.ofNat tt)) := ⟨_, rfl⟩
    obtain ⟨c100, hc100⟩ : ∃ z, z = own_s1 bd2 c91 := ⟨_, rfl⟩
    obtain ⟨r100, hr100⟩ : ∃ z, z = own_s2 bd2 c91 p5 r91 (2 : Int32) := ⟨_, rfl⟩
    obtain ⟨T101, X101, e101, st101⟩ := own_to X99 (h := T72.heap) (g := (mkF mM 362 Ls98 [(.int bd2)])) (g' := (mkF mM 378 #[.val (.long p0), .second, .val (.int p1), .val (.int p2), .val (.int p3), .val (.int p4), .val (.int p5), .val (.int d), .val (.ref b5), .val (.ref b48), .val (.int (Int32.ofNat f)), .val (.int (Int32.ofNat tt)), .val (.ref b_72), .val (.int (own_fin p5 (Int32.ofNat tt) ((own_pcs [x0, x1, x2, x3, x4, x5, x6, x7, x8, x9] d tt (tt + 1 - f) f).take w_72))), .val (.int c100), .val (.int r100), .unset, .unset, .unset] [])) (by
      by_cases hc102 : bd2 = (0 : Int32)
      · refine ⟨T99, X99, Kq99, fun tg kg => ?_⟩
        rw [hc100.trans (if_pos hc102)] at kg
        rw [hr100.trans (if_pos hc102)] at kg
        refine XS.ifYes X99.here hx rfl (pc0 := 362) (pc' := 378) rfl (hb hby at_362) rfl ((if0 _ _).trans (teq hc102).1) (by decide) (by decide) ?_
        exact kg
      · let Ls103 : Array Slot := #[.val (.long p0), .second, .val (.int p1), .val (.int p2), .val (.int p3), .val (.int p4), .val (.int p5), .val (.int d), .val (.ref b5), .val (.ref b48), .val (.int (Int32.ofNat f)), .val (.int (Int32.ofNat tt)), .val (.ref b_72), .val (.int (own_fin p5 (Int32.ofNat tt) ((own_pcs [x0, x1, x2, x3, x4, x5, x6, x7, x8, x9] d tt (tt + 1 - f) f).take w_72))), .val (.int (c91 + (1 : Int32))), .val (.int r91), .unset, .unset, .unset]
        have pre105 : ∀ tg, Steps pP.tables eE below (T99.setTop (mkF mM 372 Ls103 [(.int p5), (.int (c91 + (1 : Int32)))])) tg → Steps pP.tables eE below (T99.setTop (mkF mM 362 Ls98 [(.int bd2)])) tg := fun tg kg => (by
          refine XS.ifNo X99.here hx rfl (hb hby at_362) rfl ((if0 _ _).trans (feq hc102).1) ?_
          show Steps pP.tables eE below (T99.setTop (mkF mM 365 Ls98 [])) _
          refine XS.iinc X99.here hx rfl (hb hby at_365) rfl (l' := Ls103) rfl ?_
          show Steps pP.tables eE below (T99.setTop (mkF mM 368 Ls103 [])) _
          refine XS.iload X99.here hx rfl (hb hby at_368) rfl ?_
          show Steps pP.tables eE below (T99.setTop (mkF mM 370 Ls103 [(.int (c91 + (1 : Int32)))])) _
          refine XS.iload X99.here hx rfl (hb hby at_370) rfl ?_
          exact kg)
        by_cases hc104 : (c91 + (1 : Int32)) = p5
        · let Ls106 : Array Slot := #[.val (.long p0), .second, .val (.int p1), .val (.int p2), .val (.int p3), .val (.int p4), .val (.int p5), .val (.int d), .val (.ref b5), .val (.ref b48), .val (.int (Int32.ofNat f)), .val (.int (Int32.ofNat tt)), .val (.ref b_72), .val (.int (own_fin p5 (Int32.ofNat tt) ((own_pcs [x0, x1, x2, x3, x4, x5, x6, x7, x8, x9] d tt (tt + 1 - f) f).take w_72))), .val (.int (c91 + (1 : Int32))), .val (.int (2 : Int32)), .unset, .unset, .unset]
          refine ⟨T99, X99, Kq99, fun tg kg => ?_⟩
          rw [hc100.trans (if_neg hc102)] at kg
          rw [hr100.trans ((if_neg hc102).trans (if_pos hc104))] at kg
          refine pre105 tg ?_
          refine XS.icmpNo X99.here hx rfl (hb hby at_372) rfl (teq hc104).2 ?_
          show Steps pP.tables eE below (T99.setTop (mkF mM 375 Ls103 [])) _
          refine XS.iconst X99.here hx rfl (hb hby at_375) ?_
          show Steps pP.tables eE below (T99.setTop (mkF mM 376 Ls103 [(.int (2 : Int32))])) _
          refine XS.istore X99.here hx rfl (hb hby at_376) rfl (l' := Ls106) rfl ?_
          exact kg
        · refine ⟨T99, X99, Kq99, fun tg kg => ?_⟩
          rw [hc100.trans (if_neg hc102)] at kg
          rw [hr100.trans ((if_neg hc102).trans (if_neg hc104))] at kg
          refine pre105 tg ?_
          refine XS.icmpYes X99.here hx rfl (pc0 := 372) (pc' := 378) rfl (hb hby at_372) rfl (feq hc104).2 (by decide) (by decide) ?_
          exact kg)
    let Ls107 : Array Slot := #[.val (.long p0), .second, .val (.int p1), .val (.int p2), .val (.int p3), .val (.int p4), .val (.int p5), .val (.int d), .val (.ref b5), .val (.ref b48), .val (.int (Int32.ofNat f)), .val (.int (Int32.ofNat tt)), .val (.ref b_72), .val (.int (own_fin p5 (Int32.ofNat tt) ((own_pcs [x0, x1, x2, x3, x4, x5, x6, x7, x8, x9] d tt (tt + 1 - f) f).take w_72))), .val (.int c100), .val (.int r100), .unset, .unset, .unset]
    obtain ⟨_, _, ⟨T108, L108, k108, n108⟩, -, X108, ⟨Lc108, hQ108, l108, y108, z108⟩, st108⟩ := Jvm.LawKit.callS X101 hx (y := (⟨"com/example/resultwire/resultwire/er7/PieceIndexEndPinLaw", "isD", "([CIIII)Z"⟩ : MethodName)) hown (mvT hZ (w_137 hw)) (mvT hZ (w_138 hw)) (mvT hZ (w_4 hw)) (mvT hZ (w_139 hw)) (by decide) (backOf (W := 0) (rm_isD l Z a0 hw [] b5 k5 ([x0, x1, x2, x3, x4, x5, x6, x7, x8, x9]) 3 (Int32.ofNat f) (Int32.ofNat tt) d T72.heap n0 f75 f80 (by first | decide | exact Nat.le_of_ble_eq_true rfl : 3 < [x0, x1, x2, x3, x4, x5, x6, x7, x8, x9].length) (by first | decide | exact Nat.le_of_ble_eq_true rfl : [x0, x1, x2, x3, x4, x5, x6, x7, x8, x9].length ≤ 4000)) hZ (w_139 hw) (w_4 hw) (by decide) (by decide)) (g := (mkF mM 387 Ls107 [(.int d), (.int (Int32.ofNat tt)), (.int (Int32.ofNat f)), (.int (3 : Int32)), (.ref b5)])) rfl (by rw [hml]; rfl) (argsL := [(.ref b5), (.int (3 : Int32)), (.int (Int32.ofNat f)), (.int (Int32.ofNat tt)), (.int d)]) (rest := []) (lenOf pd_15 rfl) rfl (by show 2 * 0 + _ ≤ _; exact Nat.le_of_eq rfl) (hb hby at_387) (fun _ _ => ⟨rfl, e101, (by decide : 8 + 0 ≤ _), (by decide : 70 + 0 ≤ _)⟩)
    dsimp only [Pt.U, Pt.locs, Pt.cells, Pt.slots] at X108 l108 y108 z108 st108 hQ108
    subst l108 y108 z108
    obtain ⟨rfl, rfl, Kq108⟩ := hQ108
    try rw [List.append_nil] at X108
    obtain ⟨bd3, hbd3⟩ : ∃ z, z = (own_isd ([x0, x1, x2, x3, x4, x5, x6, x7, x8, x9].getD 3 0) (Int32.ofNat 3) d (Int32.ofNat f) (Int32.ofNat tt)) := ⟨_, rfl⟩
    obtain ⟨c109, hc109⟩ : ∃ z, z = own_s1 bd3 c100 := ⟨_, rfl⟩
    obtain ⟨r109, hr109⟩ : ∃ z, z = own_s2 bd3 c100 p5 r100 (3 : Int32) := ⟨_, rfl⟩
    obtain ⟨T110, X110, e110, st110⟩ := own_to X108 (h := T72.heap) (g := (mkF mM 390 Ls107 [(.int bd3)])) (g' := (mkF mM 406 #[.val (.long p0), .second, .val (.int p1), .val (.int p2), .val (.int p3), .val (.int p4), .val (.int p5), .val (.int d), .val (.ref b5), .val (.ref b48), .val (.int (Int32.ofNat f)), .val (.int (Int32.ofNat tt)), .val (.ref b_72), .val (.int (own_fin p5 (Int32.ofNat tt) ((own_pcs [x0, x1, x2, x3, x4, x5, x6, x7, x8, x9] d tt (tt + 1 - f) f).take w_72))), .val (.int c109), .val (.int r109), .unset, .unset, .unset] [])) (by
      by_cases hc111 : bd3 = (0 : Int32)
      · refine ⟨T108, X108, Kq108, fun tg kg => ?_⟩
        rw [hc109.trans (if_pos hc111)] at kg
        rw [hr109.trans (if_pos hc111)] at kg
        refine XS.ifYes X108.here hx rfl (pc0 := 390) (pc' := 406) rfl (hb hby at_390) rfl ((if0 _ _).trans (teq hc111).1) (by decide) (by decide) ?_
        exact kg
      · let Ls112 : Array Slot := #[.val (.long p0), .second, .val (.int p1), .val (.int p2), .val (.int p3), .val (.int p4), .val (.int p5), .val (.int d), .val (.ref b5), .val (.ref b48), .val (.int (Int32.ofNat f)), .val (.int (Int32.ofNat tt)), .val (.ref b_72), .val (.int (own_fin p5 (Int32.ofNat tt) ((own_pcs [x0, x1, x2, x3, x4, x5, x6, x7, x8, x9] d tt (tt + 1 - f) f).take w_72))), .val (.int (c100 + (1 : Int32))), .val (.int r100), .unset, .unset, .unset]
        have pre114 : ∀ tg, Steps pP.tables eE below (T108.setTop (mkF mM 400 Ls112 [(.int p5), (.int (c100 + (1 : Int32)))])) tg → Steps pP.tables eE below (T108.setTop (mkF mM 390 Ls107 [(.int bd3)])) tg := fun tg kg => (by
          refine XS.ifNo X108.here hx rfl (hb hby at_390) rfl ((if0 _ _).trans (feq hc111).1) ?_
          show Steps pP.tables eE below (T108.setTop (mkF mM 393 Ls107 [])) _
          refine XS.iinc X108.here hx rfl (hb hby at_393) rfl (l' := Ls112) rfl ?_
          show Steps pP.tables eE below (T108.setTop (mkF mM 396 Ls112 [])) _
          refine XS.iload X108.here hx rfl (hb hby at_396) rfl ?_
          show Steps pP.tables eE below (T108.setTop (mkF mM 398 Ls112 [(.int (c100 + (1 : Int32)))])) _
          refine XS.iload X108.here hx rfl (hb hby at_398) rfl ?_
          exact kg)
        by_cases hc113 : (c100 + (1 : Int32)) = p5
        · let Ls115 : Array Slot := #[.val (.long p0), .second, .val (.int p1), .val (.int p2), .val (.int p3), .val (.int p4), .val (.int p5), .val (.int d), .val (.ref b5), .val (.ref b48), .val (.int (Int32.ofNat f)), .val (.int (Int32.ofNat tt)), .val (.ref b_72), .val (.int (own_fin p5 (Int32.ofNat tt) ((own_pcs [x0, x1, x2, x3, x4, x5, x6, x7, x8, x9] d tt (tt + 1 - f) f).take w_72))), .val (.int (c100 + (1 : Int32))), .val (.int (3 : Int32)), .unset, .unset, .unset]
          refine ⟨T108, X108, Kq108, fun tg kg => ?_⟩
          rw [hc109.trans (if_neg hc111)] at kg
          rw [hr109.trans ((if_neg hc111).trans (if_pos hc113))] at kg
          refine pre114 tg ?_
          refine XS.icmpNo X108.here hx rfl (hb hby at_400) rfl (teq hc113).2 ?_
          show Steps pP.tables eE below (T108.setTop (mkF mM 403 Ls112 [])) _
          refine XS.iconst X108.here hx rfl (hb hby at_403) ?_
          show Steps pP.tables eE below (T108.setTop (mkF mM 404 Ls112 [(.int (3 : Int32))])) _
          refine XS.istore X108.here hx rfl (hb hby at_404) rfl (l' := Ls115) rfl ?_
          exact kg
        · refine ⟨T108, X108, Kq108, fun tg kg => ?_⟩
          rw [hc109.trans (if_neg hc111)] at kg
          rw [hr109.trans ((if_neg hc111).trans (if_neg hc113))] at kg
          refine pre114 tg ?_
          refine XS.icmpYes X108.here hx rfl (pc0 := 400) (pc' := 406) rfl (hb hby at_400) rfl (feq hc113).2 (by decide) (by decide) ?_
          exact kg)
    let Ls116 : Array Slot := #[.val (.long p0), .second, .val (.int p1), .val (.int p2), .val (.int p3), .val (.int p4), .val (.int p5), .val (.int d), .val (.ref b5), .val (.ref b48), .val (.int (Int32.ofNat f)), .val (.int (Int32.ofNat tt)), .val (.ref b_72), .val (.int (own_fin p5 (Int32.ofNat tt) ((own_pcs [x0, x1, x2, x3, x4, x5, x6, x7, x8, x9] d tt (tt + 1 - f) f).take w_72))), .val (.int c109), .val (.int r109), .unset, .unset, .unset]
    obtain ⟨_, _, ⟨T117, L117, k117, n117⟩, -, X117, ⟨Lc117, hQ117, l117, y117, z117⟩, st117⟩ := Jvm.LawKit.callS X110 hx (y := (⟨"com/example/resultwire/resultwire/er7/PieceIndexEndPinLaw", "isD", "([CIIII)Z"⟩ : MethodName)) hown (mvT hZ (w_137 hw)) (mvT hZ (w_138 hw)) (mvT hZ (w_4 hw)) (mvT hZ (w_139 hw)) (by decide) (backOf (W := 0) (rm_isD l Z a0 hw [] b5 k5 ([x0, x1, x2, x3, x4, x5, x6, x7, x8, x9]) 4 (Int32.ofNat f) (Int32.ofNat tt) d T72.heap n0 f75 f80 (by first | decide | exact Nat.le_of_ble_eq_true rfl : 4 < [x0, x1, x2, x3, x4, x5, x6, x7, x8, x9].length) (by first | decide | exact Nat.le_of_ble_eq_true rfl : [x0, x1, x2, x3, x4, x5, x6, x7, x8, x9].length ≤ 4000)) hZ (w_139 hw) (w_4 hw) (by decide) (by decide)) (g := (mkF mM 415 Ls116 [(.int d), (.int (Int32.ofNat tt)), (.int (Int32.ofNat f)), (.int (4 : Int32)), (.ref b5)])) rfl (by rw [hml]; rfl) (argsL := [(.ref b5), (.int (4 : Int32)), (.int (Int32.ofNat f)), (.int (Int32.ofNat tt)), (.int d)]) (rest := []) (lenOf pd_15 rfl) rfl (by show 2 * 0 + _ ≤ _; exact Nat.le_of_eq rfl) (hb hby at_415) (fun _ _ => ⟨rfl, e110, (by decide : 8 + 0 ≤ _), (by decide : 70 + 0 ≤ _)⟩)
    dsimp only [Pt.U, Pt.locs, Pt.cells, Pt.slots] at X117 l117 y117 z117 st117 hQ117
    subst l117 y117 z117
    obtain ⟨rfl, rfl, Kq117⟩ := hQ117
    try rw [List.append_nil] at X117
    obtain ⟨bd4, hbd4⟩ : ∃ z, z = (own_isd ([x0, x1, x2, x3, x4, x5, x6, x7, x8, x9].getD 4 0) (Int32.ofNat 4) d (Int32.ofNat f) (Int32.ofNat tt)) := ⟨_, rfl⟩
    obtain ⟨c118, hc118⟩ : ∃ z, z = own_s1 bd4 c109 := ⟨_, rfl⟩
    obtain ⟨r118, hr118⟩ : ∃ z, z = own_s2 bd4 c109 p5 r109 (4 : Int32) := ⟨_, rfl⟩
    obtain ⟨T119, X119, e119, st119⟩ := own_to X117 (h := T72.heap) (g := (mkF mM 418 Ls116 [(.int bd4)])) (g' := (mkF mM 434 #[.val (.long p0), .second, .val (.int p1), .val (.int p2), .val (.int p3), .val (.int p4), .val (.int p5), .val (.int d), .val (.ref b5), .val (.ref b48), .val (.int (Int32.ofNat f)), .val (.int (Int32.ofNat tt)), .val (.ref b_72), .val (.int (own_fin p5 (Int32.ofNat tt) ((own_pcs [x0, x1, x2, x3, x4, x5, x6, x7, x8, x9] d tt (tt + 1 - f) f).take w_72))), .val (.int c118), .val (.int r118), .unset, .unset, .unset] [])) (by
      by_cases hc120 : bd4 = (0 : Int32)
      · refine ⟨T117, X117, Kq117, fun tg kg => ?_⟩
        rw [hc118.trans (if_pos hc120)] at kg
        rw [hr118.trans (if_pos hc120)] at kg
        refine XS.ifYes X117.here hx rfl (pc0 := 418) (pc' := 434) rfl (hb hby at_418) rfl ((if0 _ _).trans (teq hc120).1) (by decide) (by decide) ?_
        exact kg
      · let Ls121 : Array Slot := #[.val (.long p0), .second, .val (.int p1), .val (.int p2), .val (.int p3), .val (.int p4), .val (.int p5), .val (.int d), .val (.ref b5), .val (.ref b48), .val (.int (Int32.ofNat f)), .val (.int (Int32.ofNat tt)), .val (.ref b_72), .val (.int (own_fin p5 (Int32.ofNat tt) ((own_pcs [x0, x1, x2, x3, x4, x5, x6, x7, x8, x9] d tt (tt + 1 - f) f).take w_72))), .val (.int (c109 + (1 : Int32))), .val (.int r109), .unset, .unset, .unset]
        have pre123 : ∀ tg, Steps pP.tables eE below (T117.setTop (mkF mM 428 Ls121 [(.int p5), (.int (c109 + (1 : Int32)))])) tg → Steps pP.tables eE below (T117.setTop (mkF mM 418 Ls116 [(.int bd4)])) tg := fun tg kg => (by
          refine XS.ifNo X117.here hx rfl (hb hby at_418) rfl ((if0 _ _).trans (feq hc120).1) ?_
          show Steps pP.tables eE below (T117.setTop (mkF mM 421 Ls116 [])) _
          refine XS.iinc X117.here hx rfl (hb hby at_421) rfl (l' := Ls121) rfl ?_
          show Steps pP.tables eE below (T117.setTop (mkF mM 424 Ls121 [])) _
          refine XS.iload X117.here hx rfl (hb hby at_424) rfl ?_
          show Steps pP.tables eE below (T117.setTop (mkF mM 426 Ls121 [(.int (c109 + (1 : Int32)))])) _
          refine XS.iload X117.here hx rfl (hb hby at_426) rfl ?_
          exact kg)
        by_cases hc122 : (c109 + (1 : Int32)) = p5
        · let Ls124 : Array Slot := #[.val (.long p0), .second, .val (.int p1), .val (.int p2), .val (.int p3), .val (.int p4), .val (.int p5), .val (.int d), .val (.ref b5), .val (.ref b48), .val (.int (Int32.ofNat f)), .val (.int (Int32.ofNat tt)), .val (.ref b_72), .val (.int (own_fin p5 (Int32.ofNat tt) ((own_pcs [x0, x1, x2, x3, x4, x5, x6, x7, x8, x9] d tt (tt + 1 - f) f).take w_72))), .val (.int (c109 + (1 : Int32))), .val (.int (4 : Int32)), .unset, .unset, .unset]
          refine ⟨T117, X117, Kq117, fun tg kg => ?_⟩
          rw [hc118.trans (if_neg hc120)] at kg
          rw [hr118.trans ((if_neg hc120).trans (if_pos hc122))] at kg
          refine pre123 tg ?_
          refine XS.icmpNo X117.here hx rfl (hb hby at_428) rfl (teq hc122).2 ?_
          show Steps pP.tables eE below (T117.setTop (mkF mM 431 Ls121 [])) _
          refine XS.iconst X117.here hx rfl (hb hby at_431) ?_
          show Steps pP.tables eE below (T117.setTop (mkF mM 432 Ls121 [(.int (4 : Int32))])) _
          refine XS.istore X117.here hx rfl (hb hby at_432) rfl (l' := Ls124) rfl ?_
          exact kg
        · refine ⟨T117, X117, Kq117, fun tg kg => ?_⟩
          rw [hc118.trans (if_neg hc120)] at kg
          rw [hr118.trans ((if_neg hc120).trans (if_neg hc122))] at kg
          refine pre123 tg ?_
          refine XS.icmpYes X117.here hx rfl (pc0 := 428) (pc' := 434) rfl (hb hby at_428) rfl (feq hc122).2 (by decide) (by decide) ?_
          exact kg)
    let Ls125 : Array Slot := #[.val (.long p0), .second, .val (.int p1), .val (.int p2), .val (.int p3), .val (.int p4), .val (.int p5), .val (.int d), .val (.ref b5), .val (.ref b48), .val (.int (Int32.ofNat f)), .val (.int (Int32.ofNat tt)), .val (.ref b_72), .val (.int (own_fin p5 (Int32.ofNat tt) ((own_pcs [x0, x1, x2, x3, x4, x5, x6, x7, x8, x9] d tt (tt + 1 - f) f).take w_72))), .val (.int c118), .val (.int r118), .unset, .unset, .unset]
    obtain ⟨_, _, ⟨T126, L126, k126, n126⟩, -, X126, ⟨Lc126, hQ126, l126, y126, z126⟩, st126⟩ := Jvm.LawKit.callS X119 hx (y := (⟨"com/example/resultwire/resultwire/er7/PieceIndexEndPinLaw", "isD", "([CIIII)Z"⟩ : MethodName)) hown (mvT hZ (w_137 hw)) (mvT hZ (w_138 hw)) (mvT hZ (w_4 hw)) (mvT hZ (w_139 hw)) (by decide) (backOf (W := 0) (rm_isD l Z a0 hw [] b5 k5 ([x0, x1, x2, x3, x4, x5, x6, x7, x8, x9]) 5 (Int32.ofNat f) (Int32.ofNat tt) d T72.heap n0 f75 f80 (by first | decide | exact Nat.le_of_ble_eq_true rfl : 5 < [x0, x1, x2, x3, x4, x5, x6, x7, x8, x9].length) (by first | decide | exact Nat.le_of_ble_eq_true rfl : [x0, x1, x2, x3, x4, x5, x6, x7, x8, x9].length ≤ 4000)) hZ (w_139 hw) (w_4 hw) (by decide) (by decide)) (g := (mkF mM 443 Ls125 [(.int d), (.int (Int32.ofNat tt)), (.int (Int32.ofNat f)), (.int (5 : Int32)), (.ref b5)])) rfl (by rw [hml]; rfl) (argsL := [(.ref b5), (.int (5 : Int32)), (.int (Int32.ofNat f)), (.int (Int32.ofNat tt)), (.int d)]) (rest := []) (lenOf pd_15 rfl) rfl (by show 2 * 0 + _ ≤ _; exact Nat.le_of_eq rfl) (hb hby at_443) (fun _ _ => ⟨rfl, e119, (by decide : 8 + 0 ≤ _), (by decide : 70 + 0 ≤ _)⟩)
    dsimp only [Pt.U, Pt.locs, Pt.cells, Pt.slots] at X126 l126 y126 z126 st126 hQ126
    subst l126 y126 z126
    obtain ⟨rfl, rfl, Kq126⟩ := hQ126
    try rw [List.append_nil] at X126
    obtain ⟨bd5, hbd5⟩ : ∃ z, z = (own_isd ([x0, x1, x2, x3, x4, x5, x6, x7, x8, x9].getD 5 0) (Int32.ofNat 5) d (Int32.ofNat f) (Int32.ofNat tt)) := ⟨_, rfl⟩
    obtain ⟨c127, hc127⟩ : ∃ z, z = own_s1 bd5 c118 := ⟨_, rfl⟩
    obtain ⟨r127, hr127⟩ : ∃ z, z = own_s2 bd5 c118 p5 r118 (5 : Int32) := ⟨_, rfl⟩
    obtain ⟨T128, X128, e128, st128⟩ := own_to X126 (h := T72.heap) (g := (mkF mM 446 Ls125 [(.int bd5)])) (g' := (mkF mM 462 #[.val (.long p0), .second, .val (.int p1), .val (.int p2), .val (.int p3), .val (.int p4), .val (.int p5), .val (.int d), .val (.ref b5), .val (.ref b48), .val (.int (Int32.ofNat f)), .val (.int (Int32.ofNat tt)), .val (.ref b_72), .val (.int (own_fin p5 (Int32.ofNat tt) ((own_pcs [x0, x1, x2, x3, x4, x5, x6, x7, x8, x9] d tt (tt + 1 - f) f).take w_72))), .val (.int c127), .val (.int r127), .unset, .unset, .unset] [])) (by
      by_cases hc129 : bd5 = (0 : Int32)
      · refine ⟨T126, X126, Kq126, fun tg kg => ?_⟩
        rw [hc127.trans (if_pos hc129)] at kg
        rw [hr127.trans (if_pos hc129)] at kg
        refine XS.ifYes X126.here hx rfl (pc0 := 446) (pc' := 462) rfl (hb hby at_446) rfl ((if0 _ _).trans (teq hc129).1) (by decide) (by decide) ?_
        exact kg
      · let Ls130 : Array Slot := #[.val (.long p0), .second, .val (.int p1), .val (.int p2), .val (.int p3), .val (.int p4), .val (.int p5), .val (.int d), .val (.ref b5), .val (.ref b48), .val (.int (Int32.ofNat f)), .val (.int (Int32.ofNat tt)), .val (.ref b_72), .val (.int (own_fin p5 (Int32.ofNat tt) ((own_pcs [x0, x1, x2, x3, x4, x5, x6, x7, x8, x9] d tt (tt + 1 - f) f).take w_72))), .val (.int (c118 + (1 : Int32))), .val (.int r118), .unset, .unset, .unset]
        have pre132 : ∀ tg, Steps pP.tables eE below (T126.setTop (mkF mM 456 Ls130 [(.int p5), (.int (c118 + (1 : Int32)))])) tg → Steps pP.tables eE below (T126.setTop (mkF mM 446 Ls125 [(.int bd5)])) tg := fun tg kg => (by
          refine XS.ifNo X126.here hx rfl (hb hby at_446) rfl ((if0 _ _).trans (feq hc129).1) ?_
          show Steps pP.tables eE below (T126.setTop (mkF mM 449 Ls125 [])) _
          refine XS.iinc X126.here hx rfl (hb hby at_449) rfl (l' := Ls130) rfl ?_
          show Steps pP.tables eE below (T126.setTop (mkF mM 452 Ls130 [])) _
          refine XS.iload X126.here hx rfl (hb hby at_452) rfl ?_
          show Steps pP.tables eE below (T126.setTop (mkF mM 454 Ls130 [(.int (c118 + (1 : Int32)))])) _
          refine XS.iload X126.here hx rfl (hb hby at_454) rfl ?_
          exact kg)
        by_cases hc131 : (c118 + (1 : Int32)) = p5
        · let Ls133 : Array Slot := #[.val (.long p0), .second, .val (.int p1), .val (.int p2), .val (.int p3), .val (.int p4), .val (.int p5), .val (.int d), .val (.ref b5), .val (.ref b48), .val (.int (Int32.ofNat f)), .val (.int (Int32.ofNat tt)), .val (.ref b_72), .val (.int (own_fin p5 (Int32.ofNat tt) ((own_pcs [x0, x1, x2, x3, x4, x5, x6, x7, x8, x9] d tt (tt + 1 - f) f).take w_72))), .val (.int (c118 + (1 : Int32))), .val (.int (5 : Int32)), .unset, .unset, .unset]
          refine ⟨T126, X126, Kq126, fun tg kg => ?_⟩
          rw [hc127.trans (if_neg hc129)] at kg
          rw [hr127.trans ((if_neg hc129).trans (if_pos hc131))] at kg
          refine pre132 tg ?_
          refine XS.icmpNo X126.here hx rfl (hb hby at_456) rfl (teq hc131).2 ?_
          show Steps pP.tables eE below (T126.setTop (mkF mM 459 Ls130 [])) _
          refine XS.iconst X126.here hx rfl (hb hby at_459) ?_
          show Steps pP.tables eE below (T126.setTop (mkF mM 460 Ls130 [(.int (5 : Int32))])) _
          refine XS.istore X126.here hx rfl (hb hby at_460) rfl (l' := Ls133) rfl ?_
          exact kg
        · refine ⟨T126, X126, Kq126, fun tg kg => ?_⟩
          rw [hc127.trans (if_neg hc129)] at kg
          rw [hr127.trans ((if_neg hc129).trans (if_neg hc131))] at kg
          refine pre132 tg ?_
          refine XS.icmpYes X126.here hx rfl (pc0 := 456) (pc' := 462) rfl (hb hby at_456) rfl (feq hc131).2 (by decide) (by decide) ?_
          exact kg)
    let Ls134 : Array Slot := #[.val (.long p0), .second, .val (.int p1), .val (.int p2), .val (.int p3), .val (.int p4), .val (.int p5), .val (.int d), .val (.ref b5), .val (.ref b48), .val (.int (Int32.ofNat f)), .val (.int (Int32.ofNat tt)), .val (.ref b_72), .val (.int (own_fin p5 (Int32.ofNat tt) ((own_pcs [x0, x1, x2, x3, x4, x5, x6, x7, x8, x9] d tt (tt + 1 - f) f).take w_72))), .val (.int c127), .val (.int r127), .unset, .unset, .unset]
    obtain ⟨_, _, ⟨T135, L135, k135, n135⟩, -, X135, ⟨Lc135, hQ135, l135, y135, z135⟩, st135⟩ := Jvm.LawKit.callS X128 hx (y := (⟨"com/example/resultwire/resultwire/er7/PieceIndexEndPinLaw", "isD", "([CIIII)Z"⟩ : MethodName)) hown (mvT hZ (w_137 hw)) (mvT hZ (w_138 hw)) (mvT hZ (w_4 hw)) (mvT hZ (w_139 hw)) (by decide) (backOf (W := 0) (rm_isD l Z a0 hw [] b5 k5 ([x0, x1, x2, x3, x4, x5, x6, x7, x8, x9]) 6 (Int32.ofNat f) (Int32.ofNat tt) d T72.heap n0 f75 f80 (by first | decide | exact Nat.le_of_ble_eq_true rfl : 6 < [x0, x1, x2, x3, x4, x5, x6, x7, x8, x9].length) (by first | decide | exact Nat.le_of_ble_eq_true rfl : [x0, x1, x2, x3, x4, x5, x6, x7, x8, x9].length ≤ 4000)) hZ (w_139 hw) (w_4 hw) (by decide) (by decide)) (g := (mkF mM 472 Ls134 [(.int d), (.int (Int32.ofNat tt)), (.int (Int32.ofNat f)), (.int (6 : Int32)), (.ref b5)])) rfl (by rw [hml]; rfl) (argsL := [(.ref b5), (.int (6 : Int32)), (.int (Int32.ofNat f)), (.int (Int32.ofNat tt)), (.int d)]) (rest := []) (lenOf pd_15 rfl) rfl (by show 2 * 0 + _ ≤ _; exact Nat.le_of_eq rfl) (hb hby at_472) (fun _ _ => ⟨rfl, e128, (by decide : 8 + 0 ≤ _), (by decide : 70 + 0 ≤ _)⟩)
    dsimp only [Pt.U, Pt.locs, Pt.cells, Pt.slots] at X135 l135 y135 z135 st135 hQ135
    subst l135 y135 z135
    obtain ⟨rfl, rfl, Kq135⟩ := hQ135
    try rw [List.append_nil] at X135
    obtain ⟨bd6, hbd6⟩ : ∃ z, z = (own_isd ([x0, x1, x2, x3, x4, x5, x6, x7, x8, x9].getD 6 0) (Int32.ofNat 6) d (Int32.ofNat f) (Int32.ofNat tt)) := ⟨_, rfl⟩
    obtain ⟨c136, hc136⟩ : ∃ z, z = own_s1 bd6 c127 := ⟨_, rfl⟩
    obtain ⟨r136, hr136⟩ : ∃ z, z = own_s2 bd6 c127 p5 r127 (6 : Int32) := ⟨_, rfl⟩
    obtain ⟨T137, X137, e137, st137⟩ := own_to X135 (h := T72.heap) (g := (mkF mM 475 Ls134 [(.int bd6)])) (g' := (mkF mM 492 #[.val (.long p0), .second, .val (.int p1), .val (.int p2), .val (.int p3), .val (.int p4), .val (.int p5), .val (.int d), .val (.ref b5), .val (.ref b48), .val (.int (Int32.ofNat f)), .val (.int (Int32.ofNat tt)), .val (.ref b_72), .val (.int (own_fin p5 (Int32.ofNat tt) ((own_pcs [x0, x1, x2, x3, x4, x5, x6, x7, x8, x9] d tt (tt + 1 - f) f).take w_72))), .val (.int c136), .val (.int r136), .unset, .unset, .unset] [])) (by
      by_cases hc138 : bd6 = (0 : Int32)
      · refine ⟨T135, X135, Kq135, fun tg kg => ?_⟩
        rw [hc136.trans (if_pos hc138)] at kg
        rw [hr136.trans (if_pos hc138)] at kg
        refine XS.ifYes X135.here hx rfl (pc0 := 475) (pc' := 492) rfl (hb hby at_475) rfl ((if0 _ _).trans (teq hc138).1) (by decide) (by decide) ?_
        exact kg
      · let Ls139 : Array Slot := #[.val (.long p0), .second, .val (.int p1), .val (.int p2), .val (.int p3), .val (.int p4), .val (.int p5), .val (.int d), .val (.ref b5), .val (.ref b48), .val (.int (Int32.ofNat f)), .val (.int (Int32.ofNat tt)), .val (.ref b_72), .val (.int (own_fin p5 (Int32.ofNat tt) ((own_pcs [x0, x1, x2, x3, x4, x5, x6, x7, x8, x9] d tt (tt + 1 - f) f).take w_72))), .val (.int (c127 + (1 : Int32))), .val (.int r127), .unset, .unset, .unset]
        have pre141 : ∀ tg, Steps pP.tables eE below (T135.setTop (mkF mM 485 Ls139 [(.int p5), (.int (c127 + (1 : Int32)))])) tg → Steps pP.tables eE below (T135.setTop (mkF mM 475 Ls134 [(.int bd6)])) tg := fun tg kg => (by
          refine XS.ifNo X135.here hx rfl (hb hby at_475) rfl ((if0 _ _).trans (feq hc138).1) ?_
          show Steps pP.tables eE below (T135.setTop (mkF mM 478 Ls134 [])) _
          refine XS.iinc X135.here hx rfl (hb hby at_478) rfl (l' := Ls139) rfl ?_
          show Steps pP.tables eE below (T135.setTop (mkF mM 481 Ls139 [])) _
          refine XS.iload X135.here hx rfl (hb hby at_481) rfl ?_
          show Steps pP.tables eE below (T135.setTop (mkF mM 483 Ls139 [(.int (c127 + (1 : Int32)))])) _
          refine XS.iload X135.here hx rfl (hb hby at_483) rfl ?_
          exact kg)
        by_cases hc140 : (c127 + (1 : Int32)) = p5
        · let Ls142 : Array Slot := #[.val (.long p0), .second, .val (.int p1), .val (.int p2), .val (.int p3), .val (.int p4), .val (.int p5), .val (.int d), .val (.ref b5), .val (.ref b48), .val (.int (Int32.ofNat f)), .val (.int (Int32.ofNat tt)), .val (.ref b_72), .val (.int (own_fin p5 (Int32.ofNat tt) ((own_pcs [x0, x1, x2, x3, x4, x5, x6, x7, x8, x9] d tt (tt + 1 - f) f).take w_72))), .val (.int (c127 + (1 : Int32))), .val (.int (6 : Int32)), .unset, .unset, .unset]
          refine ⟨T135, X135, Kq135, fun tg kg => ?_⟩
          rw [hc136.trans (if_neg hc138)] at kg
          rw [hr136.trans ((if_neg hc138).trans (if_pos hc140))] at kg
          refine pre141 tg ?_
          refine XS.icmpNo X135.here hx rfl (hb hby at_485) rfl (teq hc140).2 ?_
          show Steps pP.tables eE below (T135.setTop (mkF mM 488 Ls139 [])) _
          refine XS.bipush X135.here hx rfl (hb hby at_488) ?_
          show Steps pP.tables eE below (T135.setTop (mkF mM 490 Ls139 [(.int (6 : Int32))])) _
          refine XS.istore X135.here hx rfl (hb hby at_490) rfl (l' := Ls142) rfl ?_
          exact kg
        · refine ⟨T135, X135, Kq135, fun tg kg => ?_⟩
          rw [hc136.trans (if_neg hc138)] at kg
          rw [hr136.trans ((if_neg hc138).trans (if_neg hc140))] at kg
          refine pre141 tg ?_
          refine XS.icmpYes X135.here hx rfl (pc0 := 485) (pc' := 492) rfl (hb hby at_485) rfl (feq hc140).2 (by decide) (by decide) ?_
          exact kg)
    let Ls143 : Array Slot := #[.val (.long p0), .second, .val (.int p1), .val (.int p2), .val (.int p3), .val (.int p4), .val (.int p5), .val (.int d), .val (.ref b5), .val (.ref b48), .val (.int (Int32.ofNat f)), .val (.int (Int32.ofNat tt)), .val (.ref b_72), .val (.int (own_fin p5 (Int32.ofNat tt) ((own_pcs [x0, x1, x2, x3, x4, x5, x6, x7, x8, x9] d tt (tt + 1 - f) f).take w_72))), .val (.int c136), .val (.int r136), .unset, .unset, .unset]
    obtain ⟨_, _, ⟨T144, L144, k144, n144⟩, -, X144, ⟨Lc144, hQ144, l144, y144, z144⟩, st144⟩ := Jvm.LawKit.callS X137 hx (y := (⟨"com/example/resultwire/resultwire/er7/PieceIndexEndPinLaw", "isD", "([CIIII)Z"⟩ : MethodName)) hown (mvT hZ (w_137 hw)) (mvT hZ (w_138 hw)) (mvT hZ (w_4 hw)) (mvT hZ (w_139 hw)) (by decide) (backOf (W := 0) (rm_isD l Z a0 hw [] b5 k5 ([x0, x1, x2, x3, x4, x5, x6, x7, x8, x9]) 7 (Int32.ofNat f) (Int32.ofNat tt) d T72.heap n0 f75 f80 (by first | decide | exact Nat.le_of_ble_eq_true rfl : 7 < [x0, x1, x2, x3, x4, x5, x6, x7, x8, x9].length) (by first | decide | exact Nat.le_of_ble_eq_true rfl : [x0, x1, x2, x3, x4, x5, x6, x7, x8, x9].length ≤ 4000)) hZ (w_139 hw) (w_4 hw) (by decide) (by decide)) (g := (mkF mM 502 Ls143 [(.int d), (.int (Int32.ofNat tt)), (.int (Int32.ofNat f)), (.int (7 : Int32)), (.ref b5)])) rfl (by rw [hml]; rfl) (argsL := [(.ref b5), (.int (7 : Int32)), (.int (Int32.ofNat f)), (.int (Int32.ofNat tt)), (.int d)]) (rest := []) (lenOf pd_15 rfl) rfl (by show 2 * 0 + _ ≤ _; exact Nat.le_of_eq rfl) (hb hby at_502) (fun _ _ => ⟨rfl, e137, (by decide : 8 + 0 ≤ _), (by decide : 70 + 0 ≤ _)⟩)
    dsimp only [Pt.U, Pt.locs, Pt.cells, Pt.slots] at X144 l144 y144 z144 st144 hQ144
    subst l144 y144 z144
    obtain ⟨rfl, rfl, Kq144⟩ := hQ144
    try rw [List.append_nil] at X144
    obtain ⟨bd7, hbd7⟩ : ∃ z, z = (own_isd ([x0, x1, x2, x3, x4, x5, x6, x7, x8, x9].getD 7 0) (Int32.ofNat 7) d (Int32.ofNat f) (Int32.ofNat tt)) := ⟨_, rfl⟩
    obtain ⟨c145, hc145⟩ : ∃ z, z = own_s1 bd7 c136 := ⟨_, rfl⟩
    obtain ⟨r145, hr145⟩ : ∃ z, z = own_s2 bd7 c136 p5 r136 (7 : Int32) := ⟨_, rfl⟩
    obtain ⟨T146, X146, e146, st146⟩ := own_to X144 (h := T72.heap) (g := (mkF mM 505 Ls143 [(.int bd7)])) (g' := (mkF mM 522 #[.val (.long p0), .second, .val (.int p1), .val (.int p2), .val (.int p3), .val (.int p4), .val (.int p5), .val (.int d), .val (.ref b5), .val (.ref b48), .val (.int (Int32.ofNat f)), .val (.int (Int32.ofNat tt)), .val (.ref b_72), .val (.int (own_fin p5 (Int32.ofNat tt) ((own_pcs [x0, x1, x2, x3, x4, x5, x6, x7, x8, x9] d tt (tt + 1 - f) f).take w_72))), .val (.int c145), .val (.int r145), .unset, .unset, .unset] [])) (by
      by_cases hc147 : bd7 = (0 : Int32)
      · refine ⟨T144, X144, Kq144, fun tg kg => ?_⟩
        rw [hc145.trans (if_pos hc147)] at kg
        rw [hr145.trans (if_pos hc147)] at kg
        refine XS.ifYes X144.here hx rfl (pc0 := 505) (pc' := 522) rfl (hb hby at_505) rfl ((if0 _ _).trans (teq hc147).1) (by decide) (by decide) ?_
        exact kg
      · let Ls148 : Array Slot := #[.val (.long p0), .second, .val (.int p1), .val (.int p2), .val (.int p3), .val (.int p4), .val (.int p5), .val (.int d), .val (.ref b5), .val (.ref b48), .val (.int (Int32.ofNat f)), .val (.int (Int32.ofNat tt)), .val (.ref b_72), .val (.int (own_fin p5 (Int32.ofNat tt) ((own_pcs [x0, x1, x2, x3, x4, x5, x6, x7, x8, x9] d tt (tt + 1 - f) f).take w_72))), .val (.int (c136 + (1 : Int32))), .val (.int r136), .unset, .unset, .unset]
        have pre150 : ∀ tg, Steps pP.tables eE below (T144.setTop (mkF mM 515 Ls148 [(.int p5), (.int (c136 + (1 : Int32)))])) tg → Steps pP.tables eE below (T144.setTop (mkF mM 505 Ls143 [(.int bd7)])) tg := fun tg kg => (by
          refine XS.ifNo X144.here hx rfl (hb hby at_505) rfl ((if0 _ _).trans (feq hc147).1) ?_
          show Steps pP.tables eE below (T144.setTop (mkF mM 508 Ls143 [])) _
          refine XS.iinc X144.here hx rfl (hb hby at_508) rfl (l' := Ls148) rfl ?_
          show Steps pP.tables eE below (T144.setTop (mkF mM 511 Ls148 [])) _
          refine XS.iload X144.here hx rfl (hb hby at_511) rfl ?_
          show Steps pP.tables eE below (T144.setTop (mkF mM 513 Ls148 [(.int (c136 + (1 : Int32)))])) _
          refine XS.iload X144.here hx rfl (hb hby at_513) rfl ?_
          exact kg)
        by_cases hc149 : (c136 + (1 : Int32)) = p5
        · let Ls151 : Array Slot := #[.val (.long p0), .second, .val (.int p1), .val (.int p2), .val (.int p3), .val (.int p4), .val (.int p5), .val (.int d), .val (.ref b5), .val (.ref b48), .val (.int (Int32.ofNat f)), .val (.int (Int32.ofNat tt)), .val (.ref b_72), .val (.int (own_fin p5 (Int32.ofNat tt) ((own_pcs [x0, x1, x2, x3, x4, x5, x6, x7, x8, x9] d tt (tt + 1 - f) f).take w_72))), .val (.int (c136 + (1 : Int32))), .val (.int (7 : Int32)), .unset, .unset, .unset]
          refine ⟨T144, X144, Kq144, fun tg kg => ?_⟩
          rw [hc145.trans (if_neg hc147)] at kg
          rw [hr145.trans ((if_neg hc147).trans (if_pos hc149))] at kg
          refine pre150 tg ?_
          refine XS.icmpNo X144.here hx rfl (hb hby at_515) rfl (teq hc149).2 ?_
          show Steps pP.tables eE below (T144.setTop (mkF mM 518 Ls148 [])) _
          refine XS.bipush X144.here hx rfl (hb hby at_518) ?_
          show Steps pP.tables eE below (T144.setTop (mkF mM 520 Ls148 [(.int (7 : Int32))])) _
          refine XS.istore X144.here hx rfl (hb hby at_520) rfl (l' := Ls151) rfl ?_
          exact kg
        · refine ⟨T144, X144, Kq144, fun tg kg => ?_⟩
          rw [hc145.trans (if_neg hc147)] at kg
          rw [hr145.trans ((if_neg hc147).trans (if_neg hc149))] at kg
          refine pre150 tg ?_
          refine XS.icmpYes X144.here hx rfl (pc0 := 515) (pc' := 522) rfl (hb hby at_515) rfl (feq hc149).2 (by decide) (by decide) ?_
          exact kg)
    let Ls152 : Array Slot := #[.val (.long p0), .second, .val (.int p1), .val (.int p2), .val (.int p3), .val (.int p4), .val (.int p5), .val (.int d), .val (.ref b5), .val (.ref b48), .val (.int (Int32.ofNat f)), .val (.int (Int32.ofNat tt)), .val (.ref b_72), .val (.int (own_fin p5 (Int32.ofNat tt) ((own_pcs [x0, x1, x2, x3, x4, x5, x6, x7, x8, x9] d tt (tt + 1 - f) f).take w_72))), .val (.int c145), .val (.int r145), .unset, .unset, .unset]
    obtain ⟨_, _, ⟨T153, L153, k153, n153⟩, -, X153, ⟨Lc153, hQ153, l153, y153, z153⟩, st153⟩ := Jvm.LawKit.callS X146 hx (y := (⟨"com/example/resultwire/resultwire/er7/PieceIndexEndPinLaw", "isD", "([CIIII)Z"⟩ : MethodName)) hown (mvT hZ (w_137 hw)) (mvT hZ (w_138 hw)) (mvT hZ (w_4 hw)) (mvT hZ (w_139 hw)) (by decide) (backOf (W := 0) (rm_isD l Z a0 hw [] b5 k5 ([x0, x1, x2, x3, x4, x5, x6, x7, x8, x9]) 8 (Int32.ofNat f) (Int32.ofNat tt) d T72.heap n0 f75 f80 (by first | decide | exact Nat.le_of_ble_eq_true rfl : 8 < [x0, x1, x2, x3, x4, x5, x6, x7, x8, x9].length) (by first | decide | exact Nat.le_of_ble_eq_true rfl : [x0, x1, x2, x3, x4, x5, x6, x7, x8, x9].length ≤ 4000)) hZ (w_139 hw) (w_4 hw) (by decide) (by decide)) (g := (mkF mM 532 Ls152 [(.int d), (.int (Int32.ofNat tt)), (.int (Int32.ofNat f)), (.int (8 : Int32)), (.ref b5)])) rfl (by rw [hml]; rfl) (argsL := [(.ref b5), (.int (8 : Int32)), (.int (Int32.ofNat f)), (.int (Int32.ofNat tt)), (.int d)]) (rest := []) (lenOf pd_15 rfl) rfl (by show 2 * 0 + _ ≤ _; exact Nat.le_of_eq rfl) (hb hby at_532) (fun _ _ => ⟨rfl, e146, (by decide : 8 + 0 ≤ _), (by decide : 70 + 0 ≤ _)⟩)
    dsimp only [Pt.U, Pt.locs, Pt.cells, Pt.slots] at X153 l153 y153 z153 st153 hQ153
    subst l153 y153 z153
    obtain ⟨rfl, rfl, Kq153⟩ := hQ153
    try rw [List.append_nil] at X153
    obtain ⟨bd8, hbd8⟩ : ∃ z, z = (own_isd ([x0, x1, x2, x3, x4, x5, x6, x7, x8, x9].getD 8 0) (Int32.ofNat 8) d (Int32.ofNat f) (Int32.ofNat tt)) := ⟨_, rfl⟩
    obtain ⟨c154, hc154⟩ : ∃ z, z = own_s1 bd8 c145 := ⟨_, rfl⟩
    obtain ⟨r154, hr154⟩ : ∃ z, z = own_s2 bd8 c145 p5 r145 (8 : Int32) := ⟨_, rfl⟩
    obtain ⟨T155, X155, e155, st155⟩ := own_to X153 (h := T72.heap) (g := (mkF mM 535 Ls152 [(.int bd8)])) (g' := (mkF mM 552 #[.val (.long p0), .second, .val (.int p1), .val (.int p2), .val (.int p3), .val (.int p4), .val (.int p5), .val (.int d), .val (.ref b5), .val (.ref b48), .val (.int (Int32.ofNat f)), .val (.int (Int32.ofNat tt)), .val (.ref b_72), .val (.int (own_fin p5 (Int32.ofNat tt) ((own_pcs [x0, x1, x2, x3, x4, x5, x6, x7, x8, x9] d tt (tt + 1 - f) f).take w_72))), .val (.int c154), .val (.int r154), .unset, .unset, .unset] [])) (by
      by_cases hc156 : bd8 = (0 : Int32)
      · refine ⟨T153, X153, Kq153, fun tg kg => ?_⟩
        rw [hc154.trans (if_pos hc156)] at kg
        rw [hr154.trans (if_pos hc156)] at kg
        refine XS.ifYes X153.here hx rfl (pc0 := 535) (pc' := 552) rfl (hb hby at_535) rfl ((if0 _ _).trans (teq hc156).1) (by decide) (by decide) ?_
        exact kg
      · let Ls157 : Array Slot := #[.val (.long p0), .second, .val (.int p1), .val (.int p2), .val (.int p3), .val (.int p4), .val (.int p5), .val (.int d), .val (.ref b5), .val (.ref b48), .val (.int (Int32.ofNat f)), .val (.int (Int32.ofNat tt)), .val (.ref b_72), .val (.int (own_fin p5 (Int32.ofNat tt) ((own_pcs [x0, x1, x2, x3, x4, x5, x6, x7, x8, x9] d tt (tt + 1 - f) f).take w_72))), .val (.int (c145 + (1 : Int32))), .val (.int r145), .unset, .unset, .unset]
        have pre159 : ∀ tg, Steps pP.tables eE below (T153.setTop (mkF mM 545 Ls157 [(.int p5), (.int (c145 + (1 : Int32)))])) tg → Steps pP.tables eE below (T153.setTop (mkF mM 535 Ls152 [(.int bd8)])) tg := fun tg kg => (by
          refine XS.ifNo X153.here hx rfl (hb hby at_535) rfl ((if0 _ _).trans (feq hc156).1) ?_
          show Steps pP.tables eE below (T153.setTop (mkF mM 538 Ls152 [])) _
          refine XS.iinc X153.here hx rfl (hb hby at_538) rfl (l' := Ls157) rfl ?_
          show Steps pP.tables eE below (T153.setTop (mkF mM 541 Ls157 [])) _
          refine XS.iload X153.here hx rfl (hb hby at_541) rfl ?_
          show Steps pP.tables eE below (T153.setTop (mkF mM 543 Ls157 [(.int (c145 + (1 : Int32)))])) _
          refine XS.iload X153.here hx rfl (hb hby at_543) rfl ?_
          exact kg)
        by_cases hc158 : (c145 + (1 : Int32)) = p5
        · let Ls160 : Array Slot := #[.val (.long p0), .second, .val (.int p1), .val (.int p2), .val (.int p3), .val (.int p4), .val (.int p5), .val (.int d), .val (.ref b5), .val (.ref b48), .val (.int (Int32.ofNat f)), .val (.int (Int32.ofNat tt)), .val (.ref b_72), .val (.int (own_fin p5 (Int32.ofNat tt) ((own_pcs [x0, x1, x2, x3, x4, x5, x6, x7, x8, x9] d tt (tt + 1 - f) f).take w_72))), .val (.int (c145 + (1 : Int32))), .val (.int (8 : Int32)), .unset, .unset, .unset]
          refine ⟨T153, X153, Kq153, fun tg kg => ?_⟩
          rw [hc154.trans (if_neg hc156)] at kg
          rw [hr154.trans ((if_neg hc156).trans (if_pos hc158))] at kg
          refine pre159 tg ?_
          refine XS.icmpNo X153.here hx rfl (hb hby at_545) rfl (teq hc158).2 ?_
          show Steps pP.tables eE below (T153.setTop (mkF mM 548 Ls157 [])) _
          refine XS.bipush X153.here hx rfl (hb hby at_548) ?_
          show Steps pP.tables eE below (T153.setTop (mkF mM 550 Ls157 [(.int (8 : Int32))])) _
          refine XS.istore X153.here hx rfl (hb hby at_550) rfl (l' := Ls160) rfl ?_
          exact kg
        · refine ⟨T153, X153, Kq153, fun tg kg => ?_⟩
          rw [hc154.trans (if_neg hc156)] at kg
          rw [hr154.trans ((if_neg hc156).trans (if_neg hc158))] at kg
          refine pre159 tg ?_
          refine XS.icmpYes X153.here hx rfl (pc0 := 545) (pc' := 552) rfl (hb hby at_545) rfl (feq hc158).2 (by decide) (by decide) ?_
          exact kg)
    let Ls161 : Array Slot := #[.val (.long p0), .second, .val (.int p1), .val (.int p2), .val (.int p3), .val (.int p4), .val (.int p5), .val (.int d), .val (.ref b5), .val (.ref b48), .val (.int (Int32.ofNat f)), .val (.int (Int32.ofNat tt)), .val (.ref b_72), .val (.int (own_fin p5 (Int32.ofNat tt) ((own_pcs [x0, x1, x2, x3, x4, x5, x6, x7, x8, x9] d tt (tt + 1 - f) f).take w_72))), .val (.int c154), .val (.int r154), .unset, .unset, .unset]
    obtain ⟨_, _, ⟨T162, L162, k162, n162⟩, -, X162, ⟨Lc162, hQ162, l162, y162, z162⟩, st162⟩ := Jvm.LawKit.callS X155 hx (y := (⟨"com/example/resultwire/resultwire/er7/PieceIndexEndPinLaw", "isD", "([CIIII)Z"⟩ : MethodName)) hown (mvT hZ (w_137 hw)) (mvT hZ (w_138 hw)) (mvT hZ (w_4 hw)) (mvT hZ (w_139 hw)) (by decide) (backOf (W := 0) (rm_isD l Z a0 hw [] b5 k5 ([x0, x1, x2, x3, x4, x5, x6, x7, x8, x9]) 9 (Int32.ofNat f) (Int32.ofNat tt) d T72.heap n0 f75 f80 (by first | decide | exact Nat.le_of_ble_eq_true rfl : 9 < [x0, x1, x2, x3, x4, x5, x6, x7, x8, x9].length) (by first | decide | exact Nat.le_of_ble_eq_true rfl : [x0, x1, x2, x3, x4, x5, x6, x7, x8, x9].length ≤ 4000)) hZ (w_139 hw) (w_4 hw) (by decide) (by decide)) (g := (mkF mM 562 Ls161 [(.int d), (.int (Int32.ofNat tt)), (.int (Int32.ofNat f)), (.int (9 : Int32)), (.ref b5)])) rfl (by rw [hml]; rfl) (argsL := [(.ref b5), (.int (9 : Int32)), (.int (Int32.ofNat f)), (.int (Int32.ofNat tt)), (.int d)]) (rest := []) (lenOf pd_15 rfl) rfl (by show 2 * 0 + _ ≤ _; exact Nat.le_of_eq rfl) (hb hby at_562) (fun _ _ => ⟨rfl, e155, (by decide : 8 + 0 ≤ _), (by decide : 70 + 0 ≤ _)⟩)
    dsimp only [Pt.U, Pt.locs, Pt.cells, Pt.slots] at X162 l162 y162 z162 st162 hQ162
    subst l162 y162 z162
    obtain ⟨rfl, rfl, Kq162⟩ := hQ162
    try rw [List.append_nil] at X162
    obtain ⟨bd9, hbd9⟩ : ∃ z, z = (own_isd ([x0, x1, x2, x3, x4, x5, x6, x7, x8, x9].getD 9 0) (Int32.ofNat 9) d (Int32.ofNat f) (Int32.ofNat tt)) := ⟨_, rfl⟩
    obtain ⟨c163, hc163⟩ : ∃ z, z = own_s1 bd9 c154 := ⟨_, rfl⟩
    obtain ⟨r163, hr163⟩ : ∃ z, z = own_s2 bd9 c154 p5 r154 (9 : Int32) := ⟨_, rfl⟩
    obtain ⟨T164, X164, e164, st164⟩ := own_to X162 (h := T72.heap) (g := (mkF mM 565 Ls161 [(.int bd9)])) (g' := (mkF mM 582 #[.val (.long p0), .second, .val (.int p1), .val (.int p2), .val (.int p3), .val (.int p4), .val (.int p5), .val (.int d), .val (.ref b5), .val (.ref b48), .val (.int (Int32.ofNat f)), .val (.int (Int32.ofNat tt)), .val (.ref b_72), .val (.int (own_fin p5 (Int32.ofNat tt) ((own_pcs [x0, x1, x2, x3, x4, x5, x6, x7, x8, x9] d tt (tt + 1 - f) f).take w_72))), .val (.int c163), .val (.int r163), .unset, .unset, .unset] [])) (by
      by_cases hc165 : bd9 = (0 : Int32)
      · refine ⟨T162, X162, Kq162, fun tg kg => ?_⟩
        rw [hc163.trans (if_pos hc165)] at kg
        rw [hr163.trans (if_pos hc165)] at kg
        refine XS.ifYes X162.here hx rfl (pc0 := 565) (pc' := 582) rfl (hb hby at_565) rfl ((if0 _ _).trans (teq hc165).1) (by decide) (by decide) ?_
        exact kg
      · let Ls166 : Array Slot := #[.val (.long p0), .second, .val (.int p1), .val (.int p2), .val (.int p3), .val (.int p4), .val (.int p5), .val (.int d), .val (.ref b5), .val (.ref b48), .val (.int (Int32.ofNat f)), .val (.int (Int32.ofNat tt)), .val (.ref b_72), .val (.int (own_fin p5 (Int32.ofNat tt) ((own_pcs [x0, x1, x2, x3, x4, x5, x6, x7, x8, x9] d tt (tt + 1 - f) f).take w_72))), .val (.int (c154 + (1 : Int32))), .val (.int r154), .unset, .unset, .unset]
        have pre168 : ∀ tg, Steps pP.tables eE below (T162.setTop (mkF mM 575 Ls166 [(.int p5), (.int (c154 + (1 : Int32)))])) tg → Steps pP.tables eE below (T162.setTop (mkF mM 565 Ls161 [(.int bd9)])) tg := fun tg kg => (by
          refine XS.ifNo X162.here hx rfl (hb hby at_565) rfl ((if0 _ _).trans (feq hc165).1) ?_
          show Steps pP.tables eE below (T162.setTop (mkF mM 568 Ls161 [])) _
          refine XS.iinc X162.here hx rfl (hb hby at_568) rfl (l' := Ls166) rfl ?_
          show Steps pP.tables eE below (T162.setTop (mkF mM 571 Ls166 [])) _
          refine XS.iload X162.here hx rfl (hb hby at_571) rfl ?_
          show Steps pP.tables eE below (T162.setTop (mkF mM 573 Ls166 [(.int (c154 + (1 : Int32)))])) _
          refine XS.iload X162.here hx rfl (hb hby at_573) rfl ?_
          exact kg)
        by_cases hc167 : (c154 + (1 : Int32)) = p5
        · let Ls169 : Array Slot := #[.val (.long p0), .second, .val (.int p1), .val (.int p2), .val (.int p3), .val (.int p4), .val (.int p5), .val (.int d), .val (.ref b5), .val (.ref b48), .val (.int (Int32.ofNat f)), .val (.int (Int32.ofNat tt)), .val (.ref b_72), .val (.int (own_fin p5 (Int32.ofNat tt) ((own_pcs [x0, x1, x2, x3, x4, x5, x6, x7, x8, x9] d tt (tt + 1 - f) f).take w_72))), .val (.int (c154 + (1 : Int32))), .val (.int (9 : Int32)), .unset, .unset, .unset]
          refine ⟨T162, X162, Kq162, fun tg kg => ?_⟩
          rw [hc163.trans (if_neg hc165)] at kg
          rw [hr163.trans ((if_neg hc165).trans (if_pos hc167))] at kg
          refine pre168 tg ?_
          refine XS.icmpNo X162.here hx rfl (hb hby at_575) rfl (teq hc167).2 ?_
          show Steps pP.tables eE below (T162.setTop (mkF mM 578 Ls166 [])) _
          refine XS.bipush X162.here hx rfl (hb hby at_578) ?_
          show Steps pP.tables eE below (T162.setTop (mkF mM 580 Ls166 [(.int (9 : Int32))])) _
          refine XS.istore X162.here hx rfl (hb hby at_580) rfl (l' := Ls169) rfl ?_
          exact kg
        · refine ⟨T162, X162, Kq162, fun tg kg => ?_⟩
          rw [hc163.trans (if_neg hc165)] at kg
          rw [hr163.trans ((if_neg hc165).trans (if_neg hc167))] at kg
          refine pre168 tg ?_
          refine XS.icmpYes X162.here hx rfl (pc0 := 575) (pc' := 582) rfl (hb hby at_575) rfl (feq hc167).2 (by decide) (by decide) ?_
          exact kg)
    let Ls170 : Array Slot := #[.val (.long p0), .second, .val (.int p1), .val (.int p2), .val (.int p3), .val (.int p4), .val (.int p5), .val (.int d), .val (.ref b5), .val (.ref b48), .val (.int (Int32.ofNat f)), .val (.int (Int32.ofNat tt)), .val (.ref b_72), .val (.int (own_fin p5 (Int32.ofNat tt) ((own_pcs [x0, x1, x2, x3, x4, x5, x6, x7, x8, x9] d tt (tt + 1 - f) f).take w_72))), .val (.int c163), .val (.int r163), .unset, .unset, .unset]
    have s0 : (0 : Int32) = Int32.ofNat (own_A [x0, x1, x2, x3, x4, x5, x6, x7, x8, x9] d f tt 0).length := by rw [own_A0]; rfl
    have r0 : Int32.ofNat tt = own_pick (own_A [x0, x1, x2, x3, x4, x5, x6, x7, x8, x9] d f tt 0) p5 (Int32.ofNat tt) := by rw [own_A0, own_pick, if_neg (by simp only [List.length_nil]; omega)]
    have sc0 := own_scan (cs := [x0, x1, x2, x3, x4, x5, x6, x7, x8, x9]) (k := p5) (r0 := Int32.ofNat tt) (i := 0) (by omega) (by omega) (by omega) hbd0 s0 r0
    rw [show Int32.ofNat 0 = (0 : Int32) from rfl, ← hc82, ← hr82] at sc0
    have sc1 := own_scan (cs := [x0, x1, x2, x3, x4, x5, x6, x7, x8, x9]) (k := p5) (r0 := Int32.ofNat tt) (i := 1) (by omega) (by omega) (by omega) hbd1 sc0.1 sc0.2
    rw [show Int32.ofNat 1 = (1 : Int32) from rfl, ← hc91, ← hr91] at sc1
    have sc2 := own_scan (cs := [x0, x1, x2, x3, x4, x5, x6, x7, x8, x9]) (k := p5) (r0 := Int32.ofNat tt) (i := 2) (by omega) (by omega) (by omega) hbd2 sc1.1 sc1.2
    rw [show Int32.ofNat 2 = (2 : Int32) from rfl, ← hc100, ← hr100] at sc2
    have sc3 := own_scan (cs := [x0, x1, x2, x3, x4, x5, x6, x7, x8, x9]) (k := p5) (r0 := Int32.ofNat tt) (i := 3) (by omega) (by omega) (by omega) hbd3 sc2.1 sc2.2
    rw [show Int32.ofNat 3 = (3 : Int32) from rfl, ← hc109, ← hr109] at sc3
    have sc4 := own_scan (cs := [x0, x1, x2, x3, x4, x5, x6, x7, x8, x9]) (k := p5) (r0 := Int32.ofNat tt) (i := 4) (by omega) (by omega) (by omega) hbd4 sc3.1 sc3.2
    rw [show Int32.ofNat 4 = (4 : Int32) from rfl, ← hc118, ← hr118] at sc4
    have sc5 := own_scan (cs := [x0, x1, x2, x3, x4, x5, x6, x7, x8, x9]) (k := p5) (r0 := Int32.ofNat tt) (i := 5) (by omega) (by omega) (by omega) hbd5 sc4.1 sc4.2
    rw [show Int32.ofNat 5 = (5 : Int32) from rfl, ← hc127, ← hr127] at sc5
    have sc6 := own_scan (cs := [x0, x1, x2, x3, x4, x5, x6, x7, x8, x9]) (k := p5) (r0 := Int32.ofNat tt) (i := 6) (by omega) (by omega) (by omega) hbd6 sc5.1 sc5.2
    rw [show Int32.ofNat 6 = (6 : Int32) from rfl, ← hc136, ← hr136] at sc6
    have sc7 := own_scan (cs := [x0, x1, x2, x3, x4, x5, x6, x7, x8, x9]) (k := p5) (r0 := Int32.ofNat tt) (i := 7) (by omega) (by omega) (by omega) hbd7 sc6.1 sc6.2
    rw [show Int32.ofNat 7 = (7 : Int32) from rfl, ← hc145, ← hr145] at sc7
    have sc8 := own_scan (cs := [x0, x1, x2, x3, x4, x5, x6, x7, x8, x9]) (k := p5) (r0 := Int32.ofNat tt) (i := 8) (by omega) (by omega) (by omega) hbd8 sc7.1 sc7.2
    rw [show Int32.ofNat 8 = (8 : Int32) from rfl, ← hc154, ← hr154] at sc8
    have sc9 := own_scan (cs := [x0, x1, x2, x3, x4, x5, x6, x7, x8, x9]) (k := p5) (r0 := Int32.ofNat tt) (i := 9) (by omega) (by omega) (by omega) hbd9 sc8.1 sc8.2
    rw [show Int32.ofNat 9 = (9 : Int32) from rfl, ← hc163, ← hr163] at sc9
    let Ls171 : Array Slot := #[.val (.long p0), .second, .val (.int p1), .val (.int p2), .val (.int p3), .val (.int p4), .val (.int p5), .val (.int d), .val (.ref b5), .val (.ref b48), .val (.int (Int32.ofNat f)), .val (.int (Int32.ofNat tt)), .val (.ref b_72), .val (.int (own_fin p5 (Int32.ofNat tt) ((own_pcs [x0, x1, x2, x3, x4, x5, x6, x7, x8, x9] d tt (tt + 1 - f) f).take w_72))), .val (.int c163), .val (.int r163), .val (.int (c163 + (1 : Int32))), .unset, .unset]
    obtain ⟨_, _, ⟨T172, L172, k172, n172⟩, -, X172, ⟨Lc172, hQ172, l172, y172, z172⟩, st172⟩ := Jvm.LawKit.callS X164 hx (y := (⟨"java/lang/Math", "max", "(II)I"⟩ : MethodName)) hown (mvT hZ (w_140 hw)) (mvT hZ (w_66 hw)) (mvT hZ (w_67 hw)) (mvT hZ (w_68 hw)) (by decide) (backOf (W := 1) (rm_max l Z a0 hw [] p4 (8 : Int32) T72.heap n0 f75 ) hZ (w_68 hw) (w_67 hw) (by decide) (by decide)) (g := (mkF mM 604 Ls171 [(.int (8 : Int32)), (.int p4), (.int (c163 + (1 : Int32)))])) rfl (by rw [hml]; rfl) (argsL := [(.int p4), (.int (8 : Int32))]) (rest := [(.int (c163 + (1 : Int32)))]) (lenOf pd_1 rfl) rfl (by show 2 * 0 + _ ≤ _; exact Nat.le_of_eq rfl) (hb hby at_604) (fun _ _ => ⟨rfl, e164, (by decide : 8 + 0 ≤ _), (by decide : 70 + 0 ≤ _)⟩)
    dsimp only [Pt.U, Pt.locs, Pt.cells, Pt.slots] at X172 l172 y172 z172 st172 hQ172
    subst l172 y172 z172
    obtain ⟨rfl, rfl, Kq172⟩ := hQ172
    try rw [List.append_nil] at X172
    obtain ⟨_, _, ⟨T173, L173, k173, n173⟩, -, X173, ⟨Lc173, hQ173, l173, y173, z173⟩, st173⟩ := Jvm.LawKit.callS X172 hx (y := (⟨"java/lang/Math", "min", "(II)I"⟩ : MethodName)) hown (mvT hZ (w_141 hw)) (mvT hZ (w_75 hw)) (mvT hZ (w_67 hw)) (mvT hZ (w_76 hw)) (by decide) (backOf (W := 0) (rm_min l Z a0 hw [] (c163 + (1 : Int32)) (own_max p4 (8 : Int32)) T72.heap n0 f75 ) hZ (w_76 hw) (w_67 hw) (by decide) (by decide)) (g := (mkF mM 607 Ls171 [(.int (own_max p4 (8 : Int32))), (.int (c163 + (1 : Int32)))])) rfl (by rw [hml]; rfl) (argsL := [(.int (c163 + (1 : Int32))), (.int (own_max p4 (8 : Int32)))]) (rest := []) (lenOf pd_1 rfl) rfl (by show 2 * 0 + _ ≤ _; exact Nat.le_of_eq rfl) (hb hby at_607) (fun _ _ => ⟨rfl, Kq172, (by decide : 8 + 0 ≤ _), (by decide : 70 + 0 ≤ _)⟩)
    dsimp only [Pt.U, Pt.locs, Pt.cells, Pt.slots] at X173 l173 y173 z173 st173 hQ173
    subst l173 y173 z173
    obtain ⟨rfl, rfl, Kq173⟩ := hQ173
    try rw [List.append_nil] at X173
    let Ls174 : Array Slot := #[.val (.long p0), .second, .val (.int p1), .val (.int p2), .val (.int p3), .val (.int p4), .val (.int p5), .val (.int d), .val (.ref b5), .val (.ref b48), .val (.int (Int32.ofNat f)), .val (.int (Int32.ofNat tt)), .val (.ref b_72), .val (.int (own_fin p5 (Int32.ofNat tt) ((own_pcs [x0, x1, x2, x3, x4, x5, x6, x7, x8, x9] d tt (tt + 1 - f) f).take w_72))), .val (.int c163), .val (.int r163), .val (.int (c163 + (1 : Int32))), .val (.int (own_min (c163 + (1 : Int32)) (own_max p4 (8 : Int32)))), .unset]
    have pre176 : ∀ tg, Steps pP.tables eE below (T173.setTop (mkF mM 615 Ls174 [(.int (1 : Int32)), (.int p5)])) tg → Steps pP.tables eE below (s₁.setTop (entryFrame mM #[(.long p0), (.int p1), (.int p2), (.int p3), (.int p4), (.int p5)] maxLocals)) tg := fun tg kg => pre65 tg (by
      refine XS.iload X62.here hx rfl (hb hby at_271) rfl ?_
      show Steps pP.tables eE below (T62.setTop (mkF mM 273 Ls57 [(.int p4), (.ref b58)])) _
      refine st72.trans ?_
      show Steps pP.tables eE below (T72.setTop (mkF mM 276 Ls57 [(.ref b_72)])) _
      refine XS.astore X72.here hx rfl (hb hby at_276) rfl rfl (l' := Ls74) rfl ?_
      show Steps pP.tables eE below (T72.setTop (mkF mM 278 Ls74 [])) _
      refine XS.aload X72.here hx rfl (hb hby at_278) rfl rfl ?_
      show Steps pP.tables eE below (T72.setTop (mkF mM 280 Ls74 [(.ref b_72)])) _
      refine XS.iload X72.here hx rfl (hb hby at_280) rfl ?_
      show Steps pP.tables eE below (T72.setTop (mkF mM 282 Ls74 [(.int p5), (.ref b_72)])) _
      refine st76.trans ?_
      show Steps pP.tables eE below (T76.setTop (mkF mM 285 Ls74 [(.int (own_fin p5 (Int32.ofNat tt) ((own_pcs [x0, x1, x2, x3, x4, x5, x6, x7, x8, x9] d tt (tt + 1 - f) f).take w_72)))])) _
      refine XS.istore X76.here hx rfl (hb hby at_285) rfl (l' := Ls77) rfl ?_
      show Steps pP.tables eE below (T76.setTop (mkF mM 287 Ls77 [])) _
      refine XS.iconst X76.here hx rfl (hb hby at_287) ?_
      show Steps pP.tables eE below (T76.setTop (mkF mM 288 Ls77 [(.int (0 : Int32))])) _
      refine XS.istore X76.here hx rfl (hb hby at_288) rfl (l' := Ls78) rfl ?_
      show Steps pP.tables eE below (T76.setTop (mkF mM 290 Ls78 [])) _
      refine XS.iload X76.here hx rfl (hb hby at_290) rfl ?_
      show Steps pP.tables eE below (T76.setTop (mkF mM 292 Ls78 [(.int (Int32.ofNat tt))])) _
      refine XS.istore X76.here hx rfl (hb hby at_292) rfl (l' := Ls79) rfl ?_
      show Steps pP.tables eE below (T76.setTop (mkF mM 294 Ls79 [])) _
      refine XS.aload X76.here hx rfl (hb hby at_294) rfl rfl ?_
      show Steps pP.tables eE below (T76.setTop (mkF mM 296 Ls79 [(.ref b5)])) _
      refine XS.iconst X76.here hx rfl (hb hby at_296) ?_
      show Steps pP.tables eE below (T76.setTop (mkF mM 297 Ls79 [(.int (0 : Int32)), (.ref b5)])) _
      refine XS.iload X76.here hx rfl (hb hby at_297) rfl ?_
      show Steps pP.tables eE below (T76.setTop (mkF mM 299 Ls79 [(.int (Int32.ofNat f)), (.int (0 : Int32)), (.ref b5)])) _
      refine XS.iload X76.here hx rfl (hb hby at_299) rfl ?_
      show Steps pP.tables eE below (T76.setTop (mkF mM 301 Ls79 [(.int (Int32.ofNat tt)), (.int (Int32.ofNat f)), (.int (0 : Int32)), (.ref b5)])) _
      refine XS.iload X76.here hx rfl (hb hby at_301) rfl ?_
      show Steps pP.tables eE below (T76.setTop (mkF mM 303 Ls79 [(.int d), (.int (Int32.ofNat tt)), (.int (Int32.ofNat f)), (.int (0 : Int32)), (.ref b5)])) _
      refine st81 _ ?_
      show Steps pP.tables eE below (T81.setTop (mkF mM 306 Ls79 [(.int (own_isd ([x0, x1, x2, x3, x4, x5, x6, x7, x8, x9].getD 0 0) (Int32.ofNat 0) d (Int32.ofNat f) (Int32.ofNat tt)))])) _
      rw [← hbd0]
      show Steps pP.tables eE below (T81.setTop (mkF mM 306 Ls79 [(.int bd0)])) _
      refine st83 _ ?_
      show Steps pP.tables eE below (T83.setTop (mkF mM 322 Ls89 [])) _
      refine XS.aload X83.here hx rfl (hb hby at_322) rfl rfl ?_
      show Steps pP.tables eE below (T83.setTop (mkF mM 324 Ls89 [(.ref b5)])) _
      refine XS.iconst X83.here hx rfl (hb hby at_324) ?_
      show Steps pP.tables eE below (T83.setTop (mkF mM 325 Ls89 [(.int (1 : Int32)), (.ref b5)])) _
      refine XS.iload X83.here hx rfl (hb hby at_325) rfl ?_
      show Steps pP.tables eE below (T83.setTop (mkF mM 327 Ls89 [(.int (Int32.ofNat f)), (.int (1 : Int32)), (.ref b5)])) _
      refine XS.iload X83.here hx rfl (hb hby at_327) rfl ?_
      show Steps pP.tables eE below (T83.setTop (mkF mM 329 Ls89 [(.int (Int32.ofNat tt)), (.int (Int32.ofNat f)), (.int (1 : Int32)), (.ref b5)])) _
      refine XS.iload X83.here hx rfl (hb hby at_329) rfl ?_
      show Steps pP.tables eE below (T83.setTop (mkF mM 331 Ls89 [(.int d), (.int (Int32.ofNat tt)), (.int (Int32.ofNat f)), (.int (1 : Int32)), (.ref b5)])) _
      refine st90 _ ?_
      show Steps pP.tables eE below (T90.setTop (mkF mM 334 Ls89 [(.int (own_isd ([x0, x1, x2, x3, x4, x5, x6, x7, x8, x9].getD 1 0) (Int32.ofNat 1) d (Int32.ofNat f) (Int32.ofNat tt)))])) _
      rw [← hbd1]
      show Steps pP.tables eE below (T90.setTop (mkF mM 334 Ls89 [(.int bd1)])) _
      refine st92 _ ?_
      show Steps pP.tables eE below (T92.setTop (mkF mM 350 Ls98 [])) _
      refine XS.aload X92.here hx rfl (hb hby at_350) rfl rfl ?_
      show Steps pP.tables eE below (T92.setTop (mkF mM 352 Ls98 [(.ref b5)])) _
      refine XS.iconst X92.here hx rfl (hb hby at_352) ?_
      show Steps pP.tables eE below (T92.setTop (mkF mM 353 Ls98 [(.int (2 : Int32)), (.ref b5)])) _
      refine XS.iload X92.here hx rfl (hb hby at_353) rfl ?_
      show Steps pP.tables eE below (T92.setTop (mkF mM 355 Ls98 [(.int (Int32.ofNat f)), (.int (2 : Int32)), (.ref b5)])) _
      refine XS.iload X92.here hx rfl (hb hby at_355) rfl ?_
      show Steps pP.tables eE below (T92.setTop (mkF mM 357 Ls98 [(.int (Int32.ofNat tt)), (.int (Int32.ofNat f)), (.int (2 : Int32)), (.ref b5)])) _
      refine XS.iload X92.here hx rfl (hb hby at_357) rfl ?_
      show Steps pP.tables eE below (T92.setTop (mkF mM 359 Ls98 [(.int d), (.int (Int32.ofNat tt)), (.int (Int32.ofNat f)), (.int (2 : Int32)), (.ref b5)])) _
      refine st99 _ ?_
      show Steps pP.tables eE below (T99.setTop (mkF mM 362 Ls98 [(.int (own_isd ([x0, x1, x2, x3, x4, x5, x6, x7, x8, x9].getD 2 0) (Int32.ofNat 2) d (Int32.ofNat f) (Int32.ofNat tt)))])) _
      rw [← hbd2]
      show Steps pP.tables eE below (T99.setTop (mkF mM 362 Ls98 [(.int bd2)])) _
      refine st101 _ ?_
      show Steps pP.tables eE below (T101.setTop (mkF mM 378 Ls107 [])) _
      refine XS.aload X101.here hx rfl (hb hby at_378) rfl rfl ?_
      show Steps pP.tables eE below (T101.setTop (mkF mM 380 Ls107 [(.ref b5)])) _
      refine XS.iconst X101.here hx rfl (hb hby at_380) ?_
      show Steps pP.tables eE below (T101.setTop (mkF mM 381 Ls107 [(.int (3 : Int32)), (.ref b5)])) _
      refine XS.iload X101.here hx rfl (hb hby at_381) rfl ?_
      show Steps pP.tables eE below (T101.setTop (mkF mM 383 Ls107 [(.int (Int32.ofNat f)), (.int (3 : Int32)), (.ref b5)])) _
      refine XS.iload X101.here hx rfl (hb hby at_383) rfl ?_
      show Steps pP.tables eE below (T101.setTop (mkF mM 385 Ls107 [(.int (Int32.ofNat tt)), (.int (Int32.ofNat f)), (.int (3 : Int32)), (.ref b5)])) _
      refine XS.iload X101.here hx rfl (hb hby at_385) rfl ?_
      show Steps pP.tables eE below (T101.setTop (mkF mM 387 Ls107 [(.int d), (.int (Int32.ofNat tt)), (.int (Int32.ofNat f)), (.int (3 : Int32)), (.ref b5)])) _
      refine st108 _ ?_
      show Steps pP.tables eE below (T108.setTop (mkF mM 390 Ls107 [(.int (own_isd ([x0, x1, x2, x3, x4, x5, x6, x7, x8, x9].getD 3 0) (Int32.ofNat 3) d (Int32.ofNat f) (Int32.ofNat tt)))])) _
      rw [← hbd3]
      show Steps pP.tables eE below (T108.setTop (mkF mM 390 Ls107 [(.int bd3)])) _
      refine st110 _ ?_
      show Steps pP.tables eE below (T110.setTop (mkF mM 406 Ls116 [])) _
      refine XS.aload X110.here hx rfl (hb hby at_406) rfl rfl ?_
      show Steps pP.tables eE below (T110.setTop (mkF mM 408 Ls116 [(.ref b5)])) _
      refine XS.iconst X110.here hx rfl (hb hby at_408) ?_
      show Steps pP.tables eE below (T110.setTop (mkF mM 409 Ls116 [(.int (4 : Int32)), (.ref b5)])) _
      refine XS.iload X110.here hx rfl (hb hby at_409) rfl ?_
      show Steps pP.tables eE below (T110.setTop (mkF mM 411 Ls116 [(.int (Int32.ofNat f)), (.int (4 : Int32)), (.ref b5)])) _
      refine XS.iload X110.here hx rfl (hb hby at_411) rfl ?_
      show Steps pP.tables eE below (T110.setTop (mkF mM 413 Ls116 [(.int (Int32.ofNat tt)), (.int (Int32.ofNat f)), (.int (4 : Int32)), (.ref b5)])) _
      refine XS.iload X110.here hx rfl (hb hby at_413) rfl ?_
      show Steps pP.tables eE below (T110.setTop (mkF mM 415 Ls116 [(.int d), (.int (Int32.ofNat tt)), (.int (Int32.ofNat f)), (.int (4 : Int32)), (.ref b5)])) _
      refine st117 _ ?_
      show Steps pP.tables eE below (T117.setTop (mkF mM 418 Ls116 [(.int (own_isd ([x0, x1, x2, x3, x4, x5, x6, x7, x8, x9].getD 4 0) (Int32.ofNat 4) d (Int32.ofNat f) (Int32.ofNat tt)))])) _
      rw [← hbd4]
      show Steps pP.tables eE below (T117.setTop (mkF mM 418 Ls116 [(.int bd4)])) _
      refine st119 _ ?_
      show Steps pP.tables eE below (T119.setTop (mkF mM 434 Ls125 [])) _
      refine XS.aload X119.here hx rfl (hb hby at_434) rfl rfl ?_
      show Steps pP.tables eE below (T119.setTop (mkF mM 436 Ls125 [(.ref b5)])) _
      refine XS.iconst X119.here hx rfl (hb hby at_436) ?_
      show Steps pP.tables eE below (T119.setTop (mkF mM 437 Ls125 [(.int (5 : Int32)), (.ref b5)])) _
      refine XS.iload X119.here hx rfl (hb hby at_437) rfl ?_
      show Steps pP.tables eE below (T119.setTop (mkF mM 439 Ls125 [(.int (Int32.ofNat f)), (.int (5 : Int32)), (.ref b5)])) _
      refine XS.iload X119.here hx rfl (hb hby at_439) rfl ?_
      show Steps pP.tables eE below (T119.setTop (mkF mM 441 Ls125 [(.int (Int32.ofNat tt)), (.int (Int32.ofNat f)), (.int (5 : Int32)), (.ref b5)])) _
      refine XS.iload X119.here hx rfl (hb hby at_441) rfl ?_
      show Steps pP.tables eE below (T119.setTop (mkF mM 443 Ls125 [(.int d), (.int (Int32.ofNat tt)), (.int (Int32.ofNat f)), (.int (5 : Int32)), (.ref b5)])) _
      refine st126 _ ?_
      show Steps pP.tables eE below (T126.setTop (mkF mM 446 Ls125 [(.int (own_isd ([x0, x1, x2, x3, x4, x5, x6, x7, x8, x9].getD 5 0) (Int32.ofNat 5) d (Int32.ofNat f) (Int32.ofNat tt)))])) _
      rw [← hbd5]
      show Steps pP.tables eE below (T126.setTop (mkF mM 446 Ls125 [(.int bd5)])) _
      refine st128 _ ?_
      show Steps pP.tables eE below (T128.setTop (mkF mM 462 Ls134 [])) _
      refine XS.aload X128.here hx rfl (hb hby at_462) rfl rfl ?_
      show Steps pP.tables eE below (T128.setTop (mkF mM 464 Ls134 [(.ref b5)])) _
      refine XS.bipush X128.here hx rfl (hb hby at_464) ?_
      show Steps pP.tables eE below (T128.setTop (mkF mM 466 Ls134 [(.int (6 : Int32)), (.ref b5)])) _
      refine XS.iload X128.here hx rfl (hb hby at_466) rfl ?_
      show Steps pP.tables eE below (T128.setTop (mkF mM 468 Ls134 [(.int (Int32.ofNat f)), (.int (6 : Int32)), (.ref b5)])) _
      refine XS.iload X128.here hx rfl (hb hby at_468) rfl ?_
      show Steps pP.tables eE below (T128.setTop (mkF mM 470 Ls134 [(.int (Int32.ofNat tt)), (.int (Int32.ofNat f)), (.int (6 : Int32)), (.ref b5)])) _
      refine XS.iload X128.here hx rfl (hb hby at_470) rfl ?_
      show Steps pP.tables eE below (T128.setTop (mkF mM 472 Ls134 [(.int d), (.int (Int32.ofNat tt)), (.int (Int32.ofNat f)), (.int (6 : Int32)), (.ref b5)])) _
      refine st135 _ ?_
      show Steps pP.tables eE below (T135.setTop (mkF mM 475 Ls134 [(.int (own_isd ([x0, x1, x2, x3, x4, x5, x6, x7, x8, x9].getD 6 0) (Int32.ofNat 6) d (Int32.ofNat f) (Int32.ofNat tt)))])) _
      rw [← hbd6]
      show Steps pP.tables eE below (T135.setTop (mkF mM 475 Ls134 [(.int bd6)])) _
      refine st137 _ ?_
      show Steps pP.tables eE below (T137.setTop (mkF mM 492 Ls143 [])) _
      refine XS.aload X137.here hx rfl (hb hby at_492) rfl rfl ?_
      show Steps pP.tables eE below (T137.setTop (mkF mM 494 Ls143 [(.ref b5)])) _
      refine XS.bipush X137.here hx rfl (hb hby at_494) ?_
      show Steps pP.tables eE below (T137.setTop (mkF mM 496 Ls143 [(.int (7 : Int32)), (.ref b5)])) _
      refine XS.iload X137.here hx rfl (hb hby at_496) rfl ?_
      show Steps pP.tables eE below (T137.setTop (mkF mM 498 Ls143 [(.int (Int32.ofNat f)), (.int (7 : Int32)), (.ref b5)])) _
      refine XS.iload X137.here hx rfl (hb hby at_498) rfl ?_
      show Steps pP.tables eE below (T137.setTop (mkF mM 500 Ls143 [(.int (Int32.ofNat tt)), (.int (Int32.ofNat f)), (.int (7 : Int32)), (.ref b5)])) _
      refine XS.iload X137.here hx rfl (hb hby at_500) rfl ?_
      show Steps pP.tables eE below (T137.setTop (mkF mM 502 Ls143 [(.int d), (.int (Int32.ofNat tt)), (.int (Int32.ofNat f)), (.int (7 : Int32)), (.ref b5)])) _
      refine st144 _ ?_
      show Steps pP.tables eE below (T144.setTop (mkF mM 505 Ls143 [(.int (own_isd ([x0, x1, x2, x3, x4, x5, x6, x7, x8, x9].getD 7 0) (Int32.ofNat 7) d (Int32.ofNat f) (Int32.ofNat tt)))])) _
      rw [← hbd7]
      show Steps pP.tables eE below (T144.setTop (mkF mM 505 Ls143 [(.int bd7)])) _
      refine st146 _ ?_
      show Steps pP.tables eE below (T146.setTop (mkF mM 522 Ls152 [])) _
      refine XS.aload X146.here hx rfl (hb hby at_522) rfl rfl ?_
      show Steps pP.tables eE below (T146.setTop (mkF mM 524 Ls152 [(.ref b5)])) _
      refine XS.bipush X146.here hx rfl (hb hby at_524) ?_
      show Steps pP.tables eE below (T146.setTop (mkF mM 526 Ls152 [(.int (8 : Int32)), (.ref b5)])) _
      refine XS.iload X146.here hx rfl (hb hby at_526) rfl ?_
      show Steps pP.tables eE below (T146.setTop (mkF mM 528 Ls152 [(.int (Int32.ofNat f)), (.int (8 : Int32)), (.ref b5)])) _
      refine XS.iload X146.here hx rfl (hb hby at_528) rfl ?_
      show Steps pP.tables eE below (T146.setTop (mkF mM 530 Ls152 [(.int (Int32.ofNat tt)), (.int (Int32.ofNat f)), (.int (8 : Int32)), (.ref b5)])) _
      refine XS.iload X146.here hx rfl (hb hby at_530) rfl ?_
      show Steps pP.tables eE below (T146.setTop (mkF mM 532 Ls152 [(.int d), (.int (Int32.ofNat tt)), (.int (Int32.ofNat f)), (.int (8 : Int32)), (.ref b5)])) _
      refine st153 _ ?_
      show Steps pP.tables eE below (T153.setTop (mkF mM 535 Ls152 [(.int (own_isd ([x0, x1, x2, x3, x4, x5, x6, x7, x8, x9].getD 8 0) (Int32.ofNat 8) d (Int32.ofNat f) (Int32.ofNat tt)))])) _
      rw [← hbd8]
      show Steps pP.tables eE below (T153.setTop (mkF mM 535 Ls152 [(.int bd8)])) _
      refine st155 _ ?_
      show Steps pP.tables eE below (T155.setTop (mkF mM 552 Ls161 [])) _
      refine XS.aload X155.here hx rfl (hb hby at_552) rfl rfl ?_
      show Steps pP.tables eE below (T155.setTop (mkF mM 554 Ls161 [(.ref b5)])) _
      refine XS.bipush X155.here hx rfl (hb hby at_554) ?_
      show Steps pP.tables eE below (T155.setTop (mkF mM 556 Ls161 [(.int (9 : Int32)), (.ref b5)])) _
      refine XS.iload X155.here hx rfl (hb hby at_556) rfl ?_
      show Steps pP.tables eE below (T155.setTop (mkF mM 558 Ls161 [(.int (Int32.ofNat f)), (.int (9 : Int32)), (.ref b5)])) _
      refine XS.iload X155.here hx rfl (hb hby at_558) rfl ?_
      show Steps pP.tables eE below (T155.setTop (mkF mM 560 Ls161 [(.int (Int32.ofNat tt)), (.int (Int32.ofNat f)), (.int (9 : Int32)), (.ref b5)])) _
      refine XS.iload X155.here hx rfl (hb hby at_560) rfl ?_
      show Steps pP.tables eE below (T155.setTop (mkF mM 562 Ls161 [(.int d), (.int (Int32.ofNat tt)), (.int (Int32.ofNat f)), (.int (9 : Int32)), (.ref b5)])) _
      refine st162 _ ?_
      show Steps pP.tables eE below (T162.setTop (mkF mM 565 Ls161 [(.int (own_isd ([x0, x1, x2, x3, x4, x5, x6, x7, x8, x9].getD 9 0) (Int32.ofNat 9) d (Int32.ofNat f) (Int32.ofNat tt)))])) _
      rw [← hbd9]
      show Steps pP.tables eE below (T162.setTop (mkF mM 565 Ls161 [(.int bd9)])) _
      refine st164 _ ?_
      show Steps pP.tables eE below (T164.setTop (mkF mM 582 Ls170 [])) _
      refine XS.iload X164.here hx rfl (hb hby at_582) rfl ?_
      show Steps pP.tables eE below (T164.setTop (mkF mM 584 Ls170 [(.int c163)])) _
      refine XS.iconst X164.here hx rfl (hb hby at_584) ?_
      show Steps pP.tables eE below (T164.setTop (mkF mM 585 Ls170 [(.int (1 : Int32)), (.int c163)])) _
      refine XS.iadd X164.here hx rfl (hb hby at_585) rfl ?_
      show Steps pP.tables eE below (T164.setTop (mkF mM 586 Ls170 [(.int (c163 + (1 : Int32)))])) _
      refine XS.istore X164.here hx rfl (hb hby at_586) rfl (l' := Ls171) rfl ?_
      show Steps pP.tables eE below (T164.setTop (mkF mM 588 Ls171 [])) _
      refine XS.iload X164.here hx rfl (hb hby at_588) rfl ?_
      show Steps pP.tables eE below (T164.setTop (mkF mM 590 Ls171 [(.int p4)])) _
      refine XS.iconst X164.here hx rfl (hb hby at_590) ?_
      show Steps pP.tables eE below (T164.setTop (mkF mM 591 Ls171 [(.int (1 : Int32)), (.int p4)])) _
      refine XS.icmpYes X164.here hx rfl (pc0 := 591) (pc' := 598) rfl (hb hby at_591) rfl (flt (own_r1 hr064)).2.1 (by decide) (by decide) ?_
      show Steps pP.tables eE below (T164.setTop (mkF mM 598 Ls171 [])) _
      refine XS.iload X164.here hx rfl (hb hby at_598) rfl ?_
      show Steps pP.tables eE below (T164.setTop (mkF mM 600 Ls171 [(.int (c163 + (1 : Int32)))])) _
      refine XS.iload X164.here hx rfl (hb hby at_600) rfl ?_
      show Steps pP.tables eE below (T164.setTop (mkF mM 602 Ls171 [(.int p4), (.int (c163 + (1 : Int32)))])) _
      refine XS.bipush X164.here hx rfl (hb hby at_602) ?_
      show Steps pP.tables eE below (T164.setTop (mkF mM 604 Ls171 [(.int (8 : Int32)), (.int p4), (.int (c163 + (1 : Int32)))])) _
      refine st172 _ ?_
      show Steps pP.tables eE below (T172.setTop (mkF mM 607 Ls171 [(.int (own_max p4 (8 : Int32))), (.int (c163 + (1 : Int32)))])) _
      refine st173 _ ?_
      show Steps pP.tables eE below (T173.setTop (mkF mM 610 Ls171 [(.int (own_min (c163 + (1 : Int32)) (own_max p4 (8 : Int32))))])) _
      refine XS.istore X173.here hx rfl (hb hby at_610) rfl (l' := Ls174) rfl ?_
      show Steps pP.tables eE below (T173.setTop (mkF mM 612 Ls174 [])) _
      refine XS.iload X173.here hx rfl (hb hby at_612) rfl ?_
      show Steps pP.tables eE below (T173.setTop (mkF mM 614 Ls174 [(.int p5)])) _
      refine XS.iconst X173.here hx rfl (hb hby at_614) ?_
      exact kg)
    by_cases hc175 : p5 < (1 : Int32)
    · let Ls177 : Array Slot := #[.val (.long p0), .second, .val (.int p1), .val (.int p2), .val (.int p3), .val (.int p4), .val (.int p5), .val (.int d), .val (.ref b5), .val (.ref b48), .val (.int (Int32.ofNat f)), .val (.int (Int32.ofNat tt)), .val (.ref b_72), .val (.int (own_fin p5 (Int32.ofNat tt) ((own_pcs [x0, x1, x2, x3, x4, x5, x6, x7, x8, x9] d tt (tt + 1 - f) f).take w_72))), .val (.int c163), .val (.int r163), .val (.int (c163 + (1 : Int32))), .val (.int (own_min (c163 + (1 : Int32)) (own_max p4 (8 : Int32)))), .val (.int (Int32.ofNat tt))]
      obtain ⟨fs, hr, hrun, hended, hW, hsame⟩ := X173.leave (v := some (.int (1 : Int32))) (fun h => by rw [Bd.returns] at h; cases h)
      refine ⟨_, _, pre176 _ ?_, hrun, hended, _, _, rfl, ?_, ⟨_, rfl⟩, hW, hsame.mono (by decide) (by decide)⟩
      · refine XS.icmpYes X173.here hx rfl (pc0 := 615) (pc' := 630) rfl (hb hby at_615) rfl (tlt hc175).1 (by decide) (by decide) ?_
        show Steps pP.tables eE below (T173.setTop (mkF mM 630 Ls174 [])) _
        refine XS.iload X173.here hx rfl (hb hby at_630) rfl ?_
        show Steps pP.tables eE below (T173.setTop (mkF mM 632 Ls174 [(.int (Int32.ofNat tt))])) _
        refine XS.istore X173.here hx rfl (hb hby at_632) rfl (l' := Ls177) rfl ?_
        show Steps pP.tables eE below (T173.setTop (mkF mM 634 Ls177 [])) _
        refine XS.iload X173.here hx rfl (hb hby at_634) rfl ?_
        show Steps pP.tables eE below (T173.setTop (mkF mM 636 Ls177 [(.int (own_fin p5 (Int32.ofNat tt) ((own_pcs [x0, x1, x2, x3, x4, x5, x6, x7, x8, x9] d tt (tt + 1 - f) f).take w_72)))])) _
        refine XS.iload X173.here hx rfl (hb hby at_636) rfl ?_
        show Steps pP.tables eE below (T173.setTop (mkF mM 638 Ls177 [(.int (Int32.ofNat tt)), (.int (own_fin p5 (Int32.ofNat tt) ((own_pcs [x0, x1, x2, x3, x4, x5, x6, x7, x8, x9] d tt (tt + 1 - f) f).take w_72)))])) _
        refine XS.icmpNo X173.here hx rfl (hb hby at_638) rfl (teq (if_pos hc175)).2 ?_
        show Steps pP.tables eE below (T173.setTop (mkF mM 641 Ls177 [])) _
        refine XS.iconst X173.here hx rfl (hb hby at_641) ?_
        show Steps pP.tables eE below (T173.setTop (mkF mM 642 Ls177 [(.int (1 : Int32))])) _
        refine XS.goto X173.here hx rfl (pc0 := 642) (pc' := 646) rfl (hb hby at_642) (by decide) (by decide) ?_
        show Steps pP.tables eE below (T173.setTop (mkF mM 646 Ls177 [(.int (1 : Int32))])) _
        exact retN X173 hx (t := .boolean) Bd.returns (by simp) (hb hby at_646) hr
      · show Q_law Z p0 p1 p2 p3 p4 p5 ne kne zc fm h0 n0 _ T173.heap _
        rw [Kq173]
        exact ⟨rfl, N72, K73⟩
    · have pre180 : ∀ tg, Steps pP.tables eE below (T173.setTop (mkF mM 622 Ls174 [(.int (own_min (c163 + (1 : Int32)) (own_max p4 (8 : Int32)))), (.int p5)])) tg → Steps pP.tables eE below (s₁.setTop (entryFrame mM #[(.long p0), (.int p1), (.int p2), (.int p3), (.int p4), (.int p5)] maxLocals)) tg := fun tg kg => pre176 tg (by
        refine XS.icmpNo X173.here hx rfl (hb hby at_615) rfl (flt hc175).1 ?_
        show Steps pP.tables eE below (T173.setTop (mkF mM 618 Ls174 [])) _
        refine XS.iload X173.here hx rfl (hb hby at_618) rfl ?_
        show Steps pP.tables eE below (T173.setTop (mkF mM 620 Ls174 [(.int p5)])) _
        refine XS.iload X173.here hx rfl (hb hby at_620) rfl ?_
        exact kg)
      by_cases hc179 : (own_min (c163 + (1 : Int32)) (own_max p4 (8 : Int32))) < p5
      · let Ls181 : Array Slot := #[.val (.long p0), .second, .val (.int p1), .val (.int p2), .val (.int p3), .val (.int p4), .val (.int p5), .val (.int d), .val (.ref b5), .val (.ref b48), .val (.int (Int32.ofNat f)), .val (.int (Int32.ofNat tt)), .val (.ref b_72), .val (.int (own_fin p5 (Int32.ofNat tt) ((own_pcs [x0, x1, x2, x3, x4, x5, x6, x7, x8, x9] d tt (tt + 1 - f) f).take w_72))), .val (.int c163), .val (.int r163), .val (.int (c163 + (1 : Int32))), .val (.int (own_min (c163 + (1 : Int32)) (own_max p4 (8 : Int32)))), .val (.int (Int32.ofNat tt))]
        obtain ⟨hm1, hm2⟩ := own_m3 (cs := [x0, x1, x2, x3, x4, x5, x6, x7, x8, x9]) (d := d) (k := p5) hcs hft (by rw [hlen]; omega) (Nat.le_of_ble_eq_true rfl) q72_9.2.1
        have hcnt := hm1.trans (by rw [hlen, ← sc9.1, own_wmax q72_9] : _ = own_min (c163 + (1 : Int32)) (own_max p4 (8 : Int32)))
        obtain ⟨fs, hr, hrun, hended, hW, hsame⟩ := X173.leave (v := some (.int (1 : Int32))) (fun h => by rw [Bd.returns] at h; cases h)
        refine ⟨_, _, pre180 _ ?_, hrun, hended, _, _, rfl, ?_, ⟨_, rfl⟩, hW, hsame.mono (by decide) (by decide)⟩
        · refine XS.icmpYes X173.here hx rfl (pc0 := 622) (pc' := 630) rfl (hb hby at_622) rfl (tlt hc179).2.2.1 (by decide) (by decide) ?_
          show Steps pP.tables eE below (T173.setTop (mkF mM 630 Ls174 [])) _
          refine XS.iload X173.here hx rfl (hb hby at_630) rfl ?_
          show Steps pP.tables eE below (T173.setTop (mkF mM 632 Ls174 [(.int (Int32.ofNat tt))])) _
          refine XS.istore X173.here hx rfl (hb hby at_632) rfl (l' := Ls181) rfl ?_
          show Steps pP.tables eE below (T173.setTop (mkF mM 634 Ls181 [])) _
          refine XS.iload X173.here hx rfl (hb hby at_634) rfl ?_
          show Steps pP.tables eE below (T173.setTop (mkF mM 636 Ls181 [(.int (own_fin p5 (Int32.ofNat tt) ((own_pcs [x0, x1, x2, x3, x4, x5, x6, x7, x8, x9] d tt (tt + 1 - f) f).take w_72)))])) _
          refine XS.iload X173.here hx rfl (hb hby at_636) rfl ?_
          show Steps pP.tables eE below (T173.setTop (mkF mM 638 Ls181 [(.int (Int32.ofNat tt)), (.int (own_fin p5 (Int32.ofNat tt) ((own_pcs [x0, x1, x2, x3, x4, x5, x6, x7, x8, x9] d tt (tt + 1 - f) f).take w_72)))])) _
          refine XS.icmpNo X173.here hx rfl (hb hby at_638) rfl (teq ((if_neg hc175).trans (if_pos (hcnt ▸ hc179)))).2 ?_
          show Steps pP.tables eE below (T173.setTop (mkF mM 641 Ls181 [])) _
          refine XS.iconst X173.here hx rfl (hb hby at_641) ?_
          show Steps pP.tables eE below (T173.setTop (mkF mM 642 Ls181 [(.int (1 : Int32))])) _
          refine XS.goto X173.here hx rfl (pc0 := 642) (pc' := 646) rfl (hb hby at_642) (by decide) (by decide) ?_
          show Steps pP.tables eE below (T173.setTop (mkF mM 646 Ls181 [(.int (1 : Int32))])) _
          exact retN X173 hx (t := .boolean) Bd.returns (by simp) (hb hby at_646) hr
        · show Q_law Z p0 p1 p2 p3 p4 p5 ne kne zc fm h0 n0 _ T173.heap _
          rw [Kq173]
          exact ⟨rfl, N72, K73⟩
      · let Ls183 : Array Slot := #[.val (.long p0), .second, .val (.int p1), .val (.int p2), .val (.int p3), .val (.int p4), .val (.int p5), .val (.int d), .val (.ref b5), .val (.ref b48), .val (.int (Int32.ofNat f)), .val (.int (Int32.ofNat tt)), .val (.ref b_72), .val (.int (own_fin p5 (Int32.ofNat tt) ((own_pcs [x0, x1, x2, x3, x4, x5, x6, x7, x8, x9] d tt (tt + 1 - f) f).take w_72))), .val (.int c163), .val (.int r163), .val (.int (c163 + (1 : Int32))), .val (.int (own_min (c163 + (1 : Int32)) (own_max p4 (8 : Int32)))), .val (.int r163)]
        obtain ⟨hm1, hm2⟩ := own_m3 (cs := [x0, x1, x2, x3, x4, x5, x6, x7, x8, x9]) (d := d) (k := p5) hcs hft (by rw [hlen]; omega) (Nat.le_of_ble_eq_true rfl) q72_9.2.1
        have hcnt := hm1.trans (by rw [hlen, ← sc9.1, own_wmax q72_9] : _ = own_min (c163 + (1 : Int32)) (own_max p4 (8 : Int32)))
        obtain ⟨fs, hr, hrun, hended, hW, hsame⟩ := X173.leave (v := some (.int (1 : Int32))) (fun h => by rw [Bd.returns] at h; cases h)
        refine ⟨_, _, pre180 _ ?_, hrun, hended, _, _, rfl, ?_, ⟨_, rfl⟩, hW, hsame.mono (by decide) (by decide)⟩
        · refine XS.icmpNo X173.here hx rfl (hb hby at_622) rfl (flt hc179).2.2.1 ?_
          show Steps pP.tables eE below (T173.setTop (mkF mM 625 Ls174 [])) _
          refine XS.iload X173.here hx rfl (hb hby at_625) rfl ?_
          show Steps pP.tables eE below (T173.setTop (mkF mM 627 Ls174 [(.int r163)])) _
          refine XS.goto X173.here hx rfl (pc0 := 627) (pc' := 632) rfl (hb hby at_627) (by decide) (by decide) ?_
          show Steps pP.tables eE below (T173.setTop (mkF mM 632 Ls174 [(.int r163)])) _
          refine XS.istore X173.here hx rfl (hb hby at_632) rfl (l' := Ls183) rfl ?_
          show Steps pP.tables eE below (T173.setTop (mkF mM 634 Ls183 [])) _
          refine XS.iload X173.here hx rfl (hb hby at_634) rfl ?_
          show Steps pP.tables eE below (T173.setTop (mkF mM 636 Ls183 [(.int (own_fin p5 (Int32.ofNat tt) ((own_pcs [x0, x1, x2, x3, x4, x5, x6, x7, x8, x9] d tt (tt + 1 - f) f).take w_72)))])) _
          refine XS.iload X173.here hx rfl (hb hby at_636) rfl ?_
          show Steps pP.tables eE below (T173.setTop (mkF mM 638 Ls183 [(.int r163), (.int (own_fin p5 (Int32.ofNat tt) ((own_pcs [x0, x1, x2, x3, x4, x5, x6, x7, x8, x9] d tt (tt + 1 - f) f).take w_72)))])) _
          refine XS.icmpNo X173.here hx rfl (hb hby at_638) rfl (teq ((hm2 hc175 (hcnt ▸ hc179)).trans sc9.2.symm)).2 ?_
          show Steps pP.tables eE below (T173.setTop (mkF mM 641 Ls183 [])) _
          refine XS.iconst X173.here hx rfl (hb hby at_641) ?_
          show Steps pP.tables eE below (T173.setTop (mkF mM 642 Ls183 [(.int (1 : Int32))])) _
          refine XS.goto X173.here hx rfl (pc0 := 642) (pc' := 646) rfl (hb hby at_642) (by decide) (by decide) ?_
          show Steps pP.tables eE below (T173.setTop (mkF mM 646 Ls183 [(.int (1 : Int32))])) _
          exact retN X173 hx (t := .boolean) Bd.returns (by simp) (hb hby at_646) hr
        · show Q_law Z p0 p1 p2 p3 p4 p5 ne kne zc fm h0 n0 _ T173.heap _
          rw [Kq173]
          exact ⟨rfl, N72, K73⟩
  · have f185 := (f61.keep Kq62 (allS g_b58 all0))
    obtain ⟨cq186, kq186, q186a, q186b, q186c⟩ := isOf hZ rfl q62_0
    obtain ⟨_, _, ⟨T186, L186, k186, n186⟩, -, X186, ⟨Lc186, hQ186, l186, y186, z186⟩, st186⟩ := X62.virtualBack hx (y := (⟨"com/example/resultwire/resultwire/er7/PieceIndex", "reach", "(I)Lcom/example/resultwire/resultwire/er7/PieceIndex;"⟩ : MethodName)) (z := (⟨"com/example/resultwire/resultwire/er7/PieceIndex", "reach", "(I)Lcom/example/resultwire/resultwire/er7/PieceIndex;"⟩ : MethodName)) hown (mvT hZ (w_60 hw)) (mvT hZ (w_61 hw)) (notFace_of_selects (args := #[]) (mvT hZ (w_63 hw))) (mvT hZ (w_63 hw)) (mvT hZ (w_62 hw)) (by decide) (backOf (W := 0) (rm_reach0 l Z a0 hw [] b58 p4 T62.heap n0 f185 q62_6 hr064) hZ (w_64 hw) (w_38 hw) (by decide) (by decide)) q186a q186c (g := (mkF mM 273 Ls57 [(.int p4), (.ref b58)])) rfl (by rw [hml]; rfl) (Steps.refl _) (argsL := [(.int p4)]) (rest := []) (lenOf pd_13 rfl) rfl (by show 2 * 0 + _ ≤ _; exact Nat.le_of_eq rfl) (hb hby at_273) (fun _ _ => ⟨rfl, rfl, (by decide : 4 + 0 ≤ _), (by decide : 30 + 0 ≤ _)⟩)
    dsimp only [Pt.U, Pt.locs, Pt.cells, Pt.slots] at X186 l186 y186 z186 st186 hQ186
    subst l186 y186 z186
    obtain ⟨rfl, rfl, Kq186⟩ := hQ186
    try rw [List.append_nil] at X186
    let Ls187 : Array Slot := #[.val (.long p0), .second, .val (.int p1), .val (.int p2), .val (.int p3), .val (.int p4), .val (.int p5), .val (.int d), .val (.ref b5), .val (.ref b48), .val (.int (Int32.ofNat f)), .val (.int (Int32.ofNat tt)), .val (.ref b58), .unset, .unset, .unset, .unset, .unset, .unset]
    have f188 := (((((((((((((((V_ne.ext E5).other W10 (Nat.ne_of_lt (Nat.lt_of_lt_of_le (V_ne).lt (Nat.le_of_eq g5.symm)))).other W14 (Nat.ne_of_lt (Nat.lt_of_lt_of_le (V_ne).lt (Nat.le_of_eq g5.symm)))).other W18 (Nat.ne_of_lt (Nat.lt_of_lt_of_le (V_ne).lt (Nat.le_of_eq g5.symm)))).other W22 (Nat.ne_of_lt (Nat.lt_of_lt_of_le (V_ne).lt (Nat.le_of_eq g5.symm)))).other W26 (Nat.ne_of_lt (Nat.lt_of_lt_of_le (V_ne).lt (Nat.le_of_eq g5.symm)))).other W30 (Nat.ne_of_lt (Nat.lt_of_lt_of_le (V_ne).lt (Nat.le_of_eq g5.symm)))).other W34 (Nat.ne_of_lt (Nat.lt_of_lt_of_le (V_ne).lt (Nat.le_of_eq g5.symm)))).other W38 (Nat.ne_of_lt (Nat.lt_of_lt_of_le (V_ne).lt (Nat.le_of_eq g5.symm)))).other W42 (Nat.ne_of_lt (Nat.lt_of_lt_of_le (V_ne).lt (Nat.le_of_eq g5.symm)))).other W46 (Nat.ne_of_lt (Nat.lt_of_lt_of_le (V_ne).lt (Nat.le_of_eq g5.symm)))).ext E48).keep Kq53 (ninS (Nat.ne_of_lt (Nat.lt_of_lt_of_le (Nat.lt_of_lt_of_le (Nat.lt_of_lt_of_le (Nat.lt_of_lt_of_le (Nat.lt_of_lt_of_le (Nat.lt_of_lt_of_le (Nat.lt_of_lt_of_le (Nat.lt_of_lt_of_le (Nat.lt_of_lt_of_le (Nat.lt_of_lt_of_le (Nat.lt_of_lt_of_le (Nat.lt_of_lt_of_le (V_ne).lt E5.1) (Nat.le_of_eq W10.size.symm)) (Nat.le_of_eq W14.size.symm)) (Nat.le_of_eq W18.size.symm)) (Nat.le_of_eq W22.size.symm)) (Nat.le_of_eq W26.size.symm)) (Nat.le_of_eq W30.size.symm)) (Nat.le_of_eq W34.size.symm)) (Nat.le_of_eq W38.size.symm)) (Nat.le_of_eq W42.size.symm)) (Nat.le_of_eq W46.size.symm)) (Nat.le_of_eq g48.symm))) nin0)).ext E58).keep Kq62 (ninS (Nat.ne_of_lt (Nat.lt_of_lt_of_le (Nat.lt_of_lt_of_le (Nat.lt_of_lt_of_le (Nat.lt_of_lt_of_le (Nat.lt_of_lt_of_le (Nat.lt_of_lt_of_le (Nat.lt_of_lt_of_le (Nat.lt_of_lt_of_le (Nat.lt_of_lt_of_le (Nat.lt_of_lt_of_le (Nat.lt_of_lt_of_le (Nat.lt_of_lt_of_le (Nat.lt_of_lt_of_le (Nat.lt_of_lt_of_le (V_ne).lt E5.1) (Nat.le_of_eq W10.size.symm)) (Nat.le_of_eq W14.size.symm)) (Nat.le_of_eq W18.size.symm)) (Nat.le_of_eq W22.size.symm)) (Nat.le_of_eq W26.size.symm)) (Nat.le_of_eq W30.size.symm)) (Nat.le_of_eq W34.size.symm)) (Nat.le_of_eq W38.size.symm)) (Nat.le_of_eq W42.size.symm)) (Nat.le_of_eq W46.size.symm)) E48.1) Kq53.1) (Nat.le_of_eq g58.symm))) nin0))
    obtain ⟨cq189, kq189, q189a, q189b, q189c⟩ := isOf hZ Kq186 q62_0
    obtain ⟨_, _, ⟨T189, L189, k189, n189⟩, -, X189, ⟨Lc189, hQ189, l189, y189, z189⟩, st189⟩ := X186.virtualBack hx (y := (⟨"com/example/resultwire/resultwire/er7/PieceIndex", "end", "(I)I"⟩ : MethodName)) (z := (⟨"com/example/resultwire/resultwire/er7/PieceIndex", "end", "(I)I"⟩ : MethodName)) hown (mvT hZ (w_132 hw)) (mvT hZ (w_133 hw)) (notFace_of_selects (args := #[]) (mvT hZ (w_135 hw))) (mvT hZ (w_135 hw)) (mvT hZ (w_134 hw)) (by decide) (backOf (W := 0) (rm_endc l Z a0 hw [] b58 p5 (Int32.ofNat f) (Int32.ofNat tt) ne kne (0 : Int32) [] T62.heap n0 f185 q62_3 q62_4 q62_5 q62_6 f188 (by first | decide | exact Nat.le_of_ble_eq_true rfl : [].length ≤ (0 : Int32).toNatClampNeg ∧ ¬ (0 : Int32) < 0)) hZ (w_136 hw) (w_38 hw) (by decide) (by decide)) q189a q189c (g := (mkF mM 282 Ls187 [(.int p5), (.ref b58)])) rfl (by rw [hml]; rfl) (Steps.refl _) (argsL := [(.int p5)]) (rest := []) (lenOf pd_14 rfl) rfl (by show 2 * 0 + _ ≤ _; exact Nat.le_of_eq rfl) (hb hby at_282) (fun _ _ => ⟨rfl, Kq186, (by decide : 4 + 0 ≤ _), (by decide : 30 + 0 ≤ _)⟩)
    dsimp only [Pt.U, Pt.locs, Pt.cells, Pt.slots] at X189 l189 y189 z189 st189 hQ189
    subst l189 y189 z189
    obtain ⟨rfl, rfl, Kq189⟩ := hQ189
    try rw [List.append_nil] at X189
    let Ls190 : Array Slot := #[.val (.long p0), .second, .val (.int p1), .val (.int p2), .val (.int p3), .val (.int p4), .val (.int p5), .val (.int d), .val (.ref b5), .val (.ref b48), .val (.int (Int32.ofNat f)), .val (.int (Int32.ofNat tt)), .val (.ref b58), .val (.int (own_fin p5 (Int32.ofNat tt) [])), .unset, .unset, .unset, .unset, .unset]
    let Ls191 : Array Slot := #[.val (.long p0), .second, .val (.int p1), .val (.int p2), .val (.int p3), .val (.int p4), .val (.int p5), .val (.int d), .val (.ref b5), .val (.ref b48), .val (.int (Int32.ofNat f)), .val (.int (Int32.ofNat tt)), .val (.ref b58), .val (.int (own_fin p5 (Int32.ofNat tt) [])), .val (.int (0 : Int32)), .unset, .unset, .unset, .unset]
    let Ls192 : Array Slot := #[.val (.long p0), .second, .val (.int p1), .val (.int p2), .val (.int p3), .val (.int p4), .val (.int p5), .val (.int d), .val (.ref b5), .val (.ref b48), .val (.int (Int32.ofNat f)), .val (.int (Int32.ofNat tt)), .val (.ref b58), .val (.int (own_fin p5 (Int32.ofNat tt) [])), .val (.int (0 : Int32)), .val (.int (Int32.ofNat tt)), .unset, .unset, .unset]
    have f193 := (((f52.keep Kq53 (ninS (Nat.ne_of_lt (Nat.lt_of_lt_of_le (Nat.lt_of_lt_of_le (Nat.lt_of_lt_of_le (Nat.lt_of_lt_of_le (Nat.lt_of_lt_of_le (Nat.lt_of_lt_of_le (Nat.lt_of_lt_of_le (Nat.lt_of_lt_of_le (Nat.lt_of_lt_of_le (Nat.lt_of_lt_of_le (Nat.lt_of_lt_of_le (V5).lt (Nat.le_of_eq W10.size.symm)) (Nat.le_of_eq W14.size.symm)) (Nat.le_of_eq W18.size.symm)) (Nat.le_of_eq W22.size.symm)) (Nat.le_of_eq W26.size.symm)) (Nat.le_of_eq W30.size.symm)) (Nat.le_of_eq W34.size.symm)) (Nat.le_of_eq W38.size.symm)) (Nat.le_of_eq W42.size.symm)) (Nat.le_of_eq W46.size.symm)) (Nat.le_of_eq g48.symm))) nin0)).ext E58).keep Kq62 (ninS (Nat.ne_of_lt (Nat.lt_of_lt_of_le (Nat.lt_of_lt_of_le (Nat.lt_of_lt_of_le (Nat.lt_of_lt_of_le (Nat.lt_of_lt_of_le (Nat.lt_of_lt_of_le (Nat.lt_of_lt_of_le (Nat.lt_of_lt_of_le (Nat.lt_of_lt_of_le (Nat.lt_of_lt_of_le (Nat.lt_of_lt_of_le (Nat.lt_of_lt_of_le (Nat.lt_of_lt_of_le (V5).lt (Nat.le_of_eq W10.size.symm)) (Nat.le_of_eq W14.size.symm)) (Nat.le_of_eq W18.size.symm)) (Nat.le_of_eq W22.size.symm)) (Nat.le_of_eq W26.size.symm)) (Nat.le_of_eq W30.size.symm)) (Nat.le_of_eq W34.size.symm)) (Nat.le_of_eq W38.size.symm)) (Nat.le_of_eq W42.size.symm)) (Nat.le_of_eq W46.size.symm)) E48.1) Kq53.1) (Nat.le_of_eq g58.symm))) nin0))
    obtain ⟨_, _, ⟨T194, L194, k194, n194⟩, -, X194, ⟨Lc194, hQ194, l194, y194, z194⟩, st194⟩ := Jvm.LawKit.callS X189 hx (y := (⟨"com/example/resultwire/resultwire/er7/PieceIndexEndPinLaw", "isD", "([CIIII)Z"⟩ : MethodName)) hown (mvT hZ (w_137 hw)) (mvT hZ (w_138 hw)) (mvT hZ (w_4 hw)) (mvT hZ (w_139 hw)) (by decide) (backOf (W := 0) (rm_isD l Z a0 hw [] b5 k5 ([x0, x1, x2, x3, x4, x5, x6, x7, x8, x9]) 0 (Int32.ofNat f) (Int32.ofNat tt) d T62.heap n0 f185 f193 (by first | decide | exact Nat.le_of_ble_eq_true rfl : 0 < [x0, x1, x2, x3, x4, x5, x6, x7, x8, x9].length) (by first | decide | exact Nat.le_of_ble_eq_true rfl : [x0, x1, x2, x3, x4, x5, x6, x7, x8, x9].length ≤ 4000)) hZ (w_139 hw) (w_4 hw) (by decide) (by decide)) (g := (mkF mM 303 Ls192 [(.int d), (.int (Int32.ofNat tt)), (.int (Int32.ofNat f)), (.int (0 : Int32)), (.ref b5)])) rfl (by rw [hml]; rfl) (argsL := [(.ref b5), (.int (0 : Int32)), (.int (Int32.ofNat f)), (.int (Int32.ofNat tt)), (.int d)]) (rest := []) (lenOf pd_15 rfl) rfl (by show 2 * 0 + _ ≤ _; exact Nat.le_of_eq rfl) (hb hby at_303) (fun _ _ => ⟨rfl, Kq189, (by decide : 4 + 0 ≤ _), (by decide : 30 + 0 ≤ _)⟩)
    dsimp only [Pt.U, Pt.locs, Pt.cells, Pt.slots] at X194 l194 y194 z194 st194 hQ194
    subst l194 y194 z194
    obtain ⟨rfl, rfl, Kq194⟩ := hQ194
    try rw [List.append_nil] at X194
    obtain ⟨bd0, hbd0⟩ : ∃ z, z = (own_isd ([x0, x1, x2, x3, x4, x5, x6, x7, x8, x9].getD 0 0) (Int32.ofNat 0) d (Int32.ofNat f) (Int32.ofNat tt)) := ⟨_, rfl⟩
    obtain ⟨c195, hc195⟩ : ∃ z, z = own_s1 bd0 (0 : Int32) := ⟨_, rfl⟩
    obtain ⟨r195, hr195⟩ : ∃ z, z = own_s2 bd0 (0 : Int32) p5 (Int32.ofNat tt) (0 : Int32) := ⟨_, rfl⟩
    obtain ⟨T196, X196, e196, st196⟩ := own_to X194 (h := T62.heap) (g := (mkF mM 306 Ls192 [(.int bd0)])) (g' := (mkF mM 322 #[.val (.long p0), .second, .val (.int p1), .val (.int p2), .val (.int p3), .val (.int p4), .val (.int p5), .val (.int d), .val (.ref b5), .val (.ref b48), .val (.int (Int32.ofNat f)), .val (.int (Int32.ofNat tt)), .val (.ref b58), .val (.int (own_fin p5 (Int32.ofNat tt) [])), .val (.int c195), .val (.int r195), .unset, .unset, .unset] [])) (by
      by_cases hc197 : bd0 = (0 : Int32)
      · refine ⟨T194, X194, Kq194, fun tg kg => ?_⟩
        rw [hc195.trans (if_pos hc197)] at kg
        rw [hr195.trans (if_pos hc197)] at kg
        refine XS.ifYes X194.here hx rfl (pc0 := 306) (pc' := 322) rfl (hb hby at_306) rfl ((if0 _ _).trans (teq hc197).1) (by decide) (by decide) ?_
        exact kg
      · let Ls198 : Array Slot := #[.val (.long p0), .second, .val (.int p1), .val (.int p2), .val (.int p3), .val (.int p4), .val (.int p5), .val (.int d), .val (.ref b5), .val (.ref b48), .val (.int (Int32.ofNat f)), .val (.int (Int32.ofNat tt)), .val (.ref b58), .val (.int (own_fin p5 (Int32.ofNat tt) [])), .val (.int ((0 : Int32) + (1 : Int32))), .val (.int (Int32.ofNat tt)), .unset, .unset, .unset]
        have pre200 : ∀ tg, Steps pP.tables eE below (T194.setTop (mkF mM 316 Ls198 [(.int p5), (.int ((0 : Int32) + (1 : Int32)))])) tg → Steps pP.tables eE below (T194.setTop (mkF mM 306 Ls192 [(.int bd0)])) tg := fun tg kg => (by
          refine XS.ifNo X194.here hx rfl (hb hby at_306) rfl ((if0 _ _).trans (feq hc197).1) ?_
          show Steps pP.tables eE below (T194.setTop (mkF mM 309 Ls192 [])) _
          refine XS.iinc X194.here hx rfl (hb hby at_309) rfl (l' := Ls198) rfl ?_
          show Steps pP.tables eE below (T194.setTop (mkF mM 312 Ls198 [])) _
          refine XS.iload X194.here hx rfl (hb hby at_312) rfl ?_
          show Steps pP.tables eE below (T194.setTop (mkF mM 314 Ls198 [(.int ((0 : Int32) + (1 : Int32)))])) _
          refine XS.iload X194.here hx rfl (hb hby at_314) rfl ?_
          exact kg)
        by_cases hc199 : ((0 : Int32) + (1 : Int32)) = p5
        · let Ls201 : Array Slot := #[.val (.long p0), .second, .val (.int p1), .val (.int p2), .val (.int p3), .val (.int p4), .val (.int p5), .val (.int d), .val (.ref b5), .val (.ref b48), .val (.int (Int32.ofNat f)), .val (.int (Int32.ofNat tt)), .val (.ref b58), .val (.int (own_fin p5 (Int32.ofNat tt) [])), .val (.int ((0 : Int32) + (1 : Int32))), .val (.int (0 : Int32)), .unset, .unset, .unset]
          refine ⟨T194, X194, Kq194, fun tg kg => ?_⟩
          rw [hc195.trans (if_neg hc197)] at kg
          rw [hr195.trans ((if_neg hc197).trans (if_pos hc199))] at kg
          refine pre200 tg ?_
          refine XS.icmpNo X194.here hx rfl (hb hby at_316) rfl (teq hc199).2 ?_
          show Steps pP.tables eE below (T194.setTop (mkF mM 319 Ls198 [])) _
          refine XS.iconst X194.here hx rfl (hb hby at_319) ?_
          show Steps pP.tables eE below (T194.setTop (mkF mM 320 Ls198 [(.int (0 : Int32))])) _
          refine XS.istore X194.here hx rfl (hb hby at_320) rfl (l' := Ls201) rfl ?_
          exact kg
        · refine ⟨T194, X194, Kq194, fun tg kg => ?_⟩
          rw [hc195.trans (if_neg hc197)] at kg
          rw [hr195.trans ((if_neg hc197).trans (if_neg hc199))] at kg
          refine pre200 tg ?_
          refine XS.icmpYes X194.here hx rfl (pc0 := 316) (pc' := 322) rfl (hb hby at_316) rfl (feq hc199).2 (by decide) (by decide) ?_
          exact kg)
    let Ls202 : Array Slot := #[.val (.long p0), .second, .val (.int p1), .val (.int p2), .val (.int p3), .val (.int p4), .val (.int p5), .val (.int d), .val (.ref b5), .val (.ref b48), .val (.int (Int32.ofNat f)), .val (.int (Int32.ofNat tt)), .val (.ref b58), .val (.int (own_fin p5 (Int32.ofNat tt) [])), .val (.int c195), .val (.int r195), .unset, .unset, .unset]
    obtain ⟨_, _, ⟨T203, L203, k203, n203⟩, -, X203, ⟨Lc203, hQ203, l203, y203, z203⟩, st203⟩ := Jvm.LawKit.callS X196 hx (y := (⟨"com/example/resultwire/resultwire/er7/PieceIndexEndPinLaw", "isD", "([CIIII)Z"⟩ : MethodName)) hown (mvT hZ (w_137 hw)) (mvT hZ (w_138 hw)) (mvT hZ (w_4 hw)) (mvT hZ (w_139 hw)) (by decide) (backOf (W := 0) (rm_isD l Z a0 hw [] b5 k5 ([x0, x1, x2, x3, x4, x5, x6, x7, x8, x9]) 1 (Int32.ofNat f) (Int32.ofNat tt) d T62.heap n0 f185 f193 (by first | decide | exact Nat.le_of_ble_eq_true rfl : 1 < [x0, x1, x2, x3, x4, x5, x6, x7, x8, x9].length) (by first | decide | exact Nat.le_of_ble_eq_true rfl : [x0, x1, x2, x3, x4, x5, x6, x7, x8, x9].length ≤ 4000)) hZ (w_139 hw) (w_4 hw) (by decide) (by decide)) (g := (mkF mM 331 Ls202 [(.int d), (.int (Int32.ofNat tt)), (.int (Int32.ofNat f)), (.int (1 : Int32)), (.ref b5)])) rfl (by rw [hml]; rfl) (argsL := [(.ref b5), (.int (1 : Int32)), (.int (Int32.ofNat f)), (.int (Int32.ofNat tt)), (.int d)]) (rest := []) (lenOf pd_15 rfl) rfl (by show 2 * 0 + _ ≤ _; exact Nat.le_of_eq rfl) (hb hby at_331) (fun _ _ => ⟨rfl, e196, (by decide : 4 + 0 ≤ _), (by decide : 30 + 0 ≤ _)⟩)
    dsimp only [Pt.U, Pt.locs, Pt.cells, Pt.slots] at X203 l203 y203 z203 st203 hQ203
    subst l203 y203 z203
    obtain ⟨rfl, rfl, Kq203⟩ := hQ203
    try rw [List.append_nil] at X203
    obtain ⟨bd1, hbd1⟩ : ∃ z, z = (own_isd ([x0, x1, x2, x3, x4, x5, x6, x7, x8, x9].getD 1 0) (Int32.ofNat 1) d (Int32.ofNat f) (Int32.ofNat tt)) := ⟨_, rfl⟩
    obtain ⟨c204, hc204⟩ : ∃ z, z = own_s1 bd1 c195 := ⟨_, rfl⟩
    obtain ⟨r204, hr204⟩ : ∃ z, z = own_s2 bd1 c195 p5 r195 (1 : Int32) := ⟨_, rfl⟩
    obtain ⟨T205, X205, e205, st205⟩ := own_to X203 (h := T62.heap) (g := (mkF mM 334 Ls202 [(.int bd1)])) (g' := (mkF mM 350 #[.val (.long p0), .second, .val (.int p1), .val (.int p2), .val (.int p3), .val (.int p4), .val (.int p5), .val (.int d), .val (.ref b5), .val (.ref b48), .val (.int (Int32.ofNat f)), .val (.int (Int32.ofNat tt)), .val (.ref b58), .val (.int (own_fin p5 (Int32.ofNat tt) [])), .val (.int c204), .val (.int r204), .unset, .unset, .unset] [])) (by
      by_cases hc206 : bd1 = (0 : Int32)
      · refine ⟨T203, X203, Kq203, fun tg kg => ?_⟩
        rw [hc204.trans (if_pos hc206)] at kg
        rw [hr204.trans (if_pos hc206)] at kg
        refine XS.ifYes X203.here hx rfl (pc0 := 334) (pc' := 350) rfl (hb hby at_334) rfl ((if0 _ _).trans (teq hc206).1) (by decide) (by decide) ?_
        exact kg
      · let Ls207 : Array Slot := #[.val (.long p0), .second, .val (.int p1), .val (.int p2), .val (.int p3), .val (.int p4), .val (.int p5), .val (.int d), .val (.ref b5), .val (.ref b48), .val (.int (Int32.ofNat f)), .val (.int (Int32.ofNat tt)), .val (.ref b58), .val (.int (own_fin p5 (Int32.ofNat tt) [])), .val (.int (c195 + (1 : Int32))), .val (.int r195), .unset, .unset, .unset]
        have pre209 : ∀ tg, Steps pP.tables eE below (T203.setTop (mkF mM 344 Ls207 [(.int p5), (.int (c195 + (1 : Int32)))])) tg → Steps pP.tables eE below (T203.setTop (mkF mM 334 Ls202 [(.int bd1)])) tg := fun tg kg => (by
          refine XS.ifNo X203.here hx rfl (hb hby at_334) rfl ((if0 _ _).trans (feq hc206).1) ?_
          show Steps pP.tables eE below (T203.setTop (mkF mM 337 Ls202 [])) _
          refine XS.iinc X203.here hx rfl (hb hby at_337) rfl (l' := Ls207) rfl ?_
          show Steps pP.tables eE below (T203.setTop (mkF mM 340 Ls207 [])) _
          refine XS.iload X203.here hx rfl (hb hby at_340) rfl ?_
          show Steps pP.tables eE below (T203.setTop (mkF mM 342 Ls207 [(.int (c195 + (1 : Int32)))])) _
          refine XS.iload X203.here hx rfl (hb hby at_342) rfl ?_
          exact kg)
        by_cases hc208 : (c195 + (1 : Int32)) = p5
        · let Ls210 : Array Slot := #[.val (.long p0), .second, .val (.int p1), .val (.int p2), .val (.int p3), .val (.int p4), .val (.int p5), .val (.int d), .val (.ref b5), .val (.ref b48), .val (.int (Int32.ofNat f)), .val (.int (Int32.ofNat tt)), .val (.ref b58), .val (.int (own_fin p5 (Int32.ofNat tt) [])), .val (.int (c195 + (1 : Int32))), .val (.int (1 : Int32)), .unset, .unset, .unset]
          refine ⟨T203, X203, Kq203, fun tg kg => ?_⟩
          rw [hc204.trans (if_neg hc206)] at kg
          rw [hr204.trans ((if_neg hc206).trans (if_pos hc208))] at kg
          refine pre209 tg ?_
          refine XS.icmpNo X203.here hx rfl (hb hby at_344) rfl (teq hc208).2 ?_
          show Steps pP.tables eE below (T203.setTop (mkF mM 347 Ls207 [])) _
          refine XS.iconst X203.here hx rfl (hb hby at_347) ?_
          show Steps pP.tables eE below (T203.setTop (mkF mM 348 Ls207 [(.int (1 : Int32))])) _
          refine XS.istore X203.here hx rfl (hb hby at_348) rfl (l' := Ls210) rfl ?_
          exact kg
        · refine ⟨T203, X203, Kq203, fun tg kg => ?_⟩
          rw [hc204.trans (if_neg hc206)] at kg
          rw [hr204.trans ((if_neg hc206).trans (if_neg hc208))] at kg
          refine pre209 tg ?_
          refine XS.icmpYes X203.here hx rfl (pc0 := 344) (pc' := 350) rfl (hb hby at_344) rfl (feq hc208).2 (by decide) (by decide) ?_
          exact kg)
    let Ls211 : Array Slot := #[.val (.long p0), .second, .val (.int p1), .val (.int p2), .val (.int p3), .val (.int p4), .val (.int p5), .val (.int d), .val (.ref b5), .val (.ref b48), .val (.int (Int32.ofNat f)), .val (.int (Int32.ofNat tt)), .val (.ref b58), .val (.int (own_fin p5 (Int32.ofNat tt) [])), .val (.int c204), .val (.int r204), .unset, .unset, .unset]
    obtain ⟨_, _, ⟨T212, L212, k212, n212⟩, -, X212, ⟨Lc212, hQ212, l212, y212, z212⟩, st212⟩ := Jvm.LawKit.callS X205 hx (y := (⟨"com/example/resultwire/resultwire/er7/PieceIndexEndPinLaw", "isD", "([CIIII)Z"⟩ : MethodName)) hown (mvT hZ (w_137 hw)) (mvT hZ (w_138 hw)) (mvT hZ (w_4 hw)) (mvT hZ (w_139 hw)) (by decide) (backOf (W := 0) (rm_isD l Z a0 hw [] b5 k5 ([x0, x1, x2, x3, x4, x5, x6, x7, x8, x9]) 2 (Int32.ofNat f) (Int32.ofNat tt) d T62.heap n0 f185 f193 (by first | decide | exact Nat.le_of_ble_eq_true rfl : 2 < [x0, x1, x2, x3, x4, x5, x6, x7, x8, x9].length) (by first | decide | exact Nat.le_of_ble_eq_true rfl : [x0, x1, x2, x3, x4, x5, x6, x7, x8, x9].length ≤ 4000)) hZ (w_139 hw) (w_4 hw) (by decide) (by decide)) (g := (mkF mM 359 Ls211 [(.int d), (.int (Int32.ofNat tt)), (.int (Int32.ofNat f)), (.int (2 : Int32)), (.ref b5)])) rfl (by rw [hml]; rfl) (argsL := [(.ref b5), (.int (2 : Int32)), (.int (Int32.ofNat f)), (.int (Int32.ofNat tt)), (.int d)]) (rest := []) (lenOf pd_15 rfl) rfl (by show 2 * 0 + _ ≤ _; exact Nat.le_of_eq rfl) (hb hby at_359) (fun _ _ => ⟨rfl, e205, (by decide : 4 + 0 ≤ _), (by decide : 30 + 0 ≤ _)⟩)
    dsimp only [Pt.U, Pt.locs, Pt.cells, Pt.slots] at X212 l212 y212 z212 st212 hQ212
    subst l212 y212 z212
    obtain ⟨rfl, rfl, Kq212⟩ := hQ212
    try rw [List.append_nil] at X212
    obtain ⟨bd2, hbd2⟩ : ∃ z, z = (own_isd ([x0, x1, x2, x3, x4, x5, x6, x7, x8, x9].getD 2 0) (Int32.ofNat 2) d (Int32.ofNat f) (Int32.ofNat tt)) := ⟨_, rfl⟩
    obtain ⟨c213, hc213⟩ : ∃ z, z = own_s1 bd2 c204 := ⟨_, rfl⟩
    obtain ⟨r213, hr213⟩ : ∃ z, z = own_s2 bd2 c204 p5 r204 (2 : Int32) := ⟨_, rfl⟩
    obtain ⟨T214, X214, e214, st214⟩ := own_to X212 (h := T62.heap) (g := (mkF mM 362 Ls211 [(.int bd2)])) (g' := (mkF mM 378 #[.val (.long p0), .second, .val (.int p1), .val (.int p2), .val (.int p3), .val (.int p4), .val (.int p5), .val (.int d), .val (.ref b5), .val (.ref b48), .val (.int (Int32.ofNat f)), .val (.int (Int32.ofNat tt)), .val (.ref b58), .val (.int (own_fin p5 (Int32.ofNat tt) [])), .val (.int c213), .val (.int r213), .unset, .unset, .unset] [])) (by
      by_cases hc215 : bd2 = (0 : Int32)
      · refine ⟨T212, X212, Kq212, fun tg kg => ?_⟩
        rw [hc213.trans (if_pos hc215)] at kg
        rw [hr213.trans (if_pos hc215)] at kg
        refine XS.ifYes X212.here hx rfl (pc0 := 362) (pc' := 378) rfl (hb hby at_362) rfl ((if0 _ _).trans (teq hc215).1) (by decide) (by decide) ?_
        exact kg
      · let Ls216 : Array Slot := #[.val (.long p0), .second, .val (.int p1), .val (.int p2), .val (.int p3), .val (.int p4), .val (.int p5), .val (.int d), .val (.ref b5), .val (.ref b48), .val (.int (Int32.ofNat f)), .val (.int (Int32.ofNat tt)), .val (.ref b58), .val (.int (own_fin p5 (Int32.ofNat tt) [])), .val (.int (c204 + (1 : Int32))), .val (.int r204), .unset, .unset, .unset]
        have pre218 : ∀ tg, Steps pP.tables eE below (T212.setTop (mkF mM 372 Ls216 [(.int p5), (.int (c204 + (1 : Int32)))])) tg → Steps pP.tables eE below (T212.setTop (mkF mM 362 Ls211 [(.int bd2)])) tg := fun tg kg => (by
          refine XS.ifNo X212.here hx rfl (hb hby at_362) rfl ((if0 _ _).trans (feq hc215).1) ?_
          show Steps pP.tables eE below (T212.setTop (mkF mM 365 Ls211 [])) _
          refine XS.iinc X212.here hx rfl (hb hby at_365) rfl (l' := Ls216) rfl ?_
          show Steps pP.tables eE below (T212.setTop (mkF mM 368 Ls216 [])) _
          refine XS.iload X212.here hx rfl (hb hby at_368) rfl ?_
          show Steps pP.tables eE below (T212.setTop (mkF mM 370 Ls216 [(.int (c204 + (1 : Int32)))])) _
          refine XS.iload X212.here hx rfl (hb hby at_370) rfl ?_
          exact kg)
        by_cases hc217 : (c204 + (1 : Int32)) = p5
        · let Ls219 : Array Slot := #[.val (.long p0), .second, .val (.int p1), .val (.int p2), .val (.int p3), .val (.int p4), .val (.int p5), .val (.int d), .val (.ref b5), .val (.ref b48), .val (.int (Int32.ofNat f)), .val (.int (Int32.ofNat tt)), .val (.ref b58), .val (.int (own_fin p5 (Int32.ofNat tt) [])), .val (.int (c204 + (1 : Int32))), .val (.int (2 : Int32)), .unset, .unset, .unset]
          refine ⟨T212, X212, Kq212, fun tg kg => ?_⟩
          rw [hc213.trans (if_neg hc215)] at kg
          rw [hr213.trans ((if_neg hc215).trans (if_pos hc217))] at kg
          refine pre218 tg ?_
          refine XS.icmpNo X212.here hx rfl (hb hby at_372) rfl (teq hc217).2 ?_
          show Steps pP.tables eE below (T212.setTop (mkF mM 375 Ls216 [])) _
          refine XS.iconst X212.here hx rfl (hb hby at_375) ?_
          show Steps pP.tables eE below (T212.setTop (mkF mM 376 Ls216 [(.int (2 : Int32))])) _
          refine XS.istore X212.here hx rfl (hb hby at_376) rfl (l' := Ls219) rfl ?_
          exact kg
        · refine ⟨T212, X212, Kq212, fun tg kg => ?_⟩
          rw [hc213.trans (if_neg hc215)] at kg
          rw [hr213.trans ((if_neg hc215).trans (if_neg hc217))] at kg
          refine pre218 tg ?_
          refine XS.icmpYes X212.here hx rfl (pc0 := 372) (pc' := 378) rfl (hb hby at_372) rfl (feq hc217).2 (by decide) (by decide) ?_
          exact kg)
    let Ls220 : Array Slot := #[.val (.long p0), .second, .val (.int p1), .val (.int p2), .val (.int p3), .val (.int p4), .val (.int p5), .val (.int d), .val (.ref b5), .val (.ref b48), .val (.int (Int32.ofNat f)), .val (.int (Int32.ofNat tt)), .val (.ref b58), .val (.int (own_fin p5 (Int32.ofNat tt) [])), .val (.int c213), .val (.int r213), .unset, .unset, .unset]
    obtain ⟨_, _, ⟨T221, L221, k221, n221⟩, -, X221, ⟨Lc221, hQ221, l221, y221, z221⟩, st221⟩ := Jvm.LawKit.callS X214 hx (y := (⟨"com/example/resultwire/resultwire/er7/PieceIndexEndPinLaw", "isD", "([CIIII)Z"⟩ : MethodName)) hown (mvT hZ (w_137 hw)) (mvT hZ (w_138 hw)) (mvT hZ (w_4 hw)) (mvT hZ (w_139 hw)) (by decide) (backOf (W := 0) (rm_isD l Z a0 hw [] b5 k5 ([x0, x1, x2, x3, x4, x5, x6, x7, x8, x9]) 3 (Int32.ofNat f) (Int32.ofNat tt) d T62.heap n0 f185 f193 (by first | decide | exact Nat.le_of_ble_eq_true rfl : 3 < [x0, x1, x2, x3, x4, x5, x6, x7, x8, x9].length) (by first | decide | exact Nat.le_of_ble_eq_true rfl : [x0, x1, x2, x3, x4, x5, x6, x7, x8, x9].length ≤ 4000)) hZ (w_139 hw) (w_4 hw) (by decide) (by decide)) (g := (mkF mM 387 Ls220 [(.int d), (.int (Int32.ofNat tt)), (.int (Int32.ofNat f)), (.int (3 : Int32)), (.ref b5)])) rfl (by rw [hml]; rfl) (argsL := [(.ref b5), (.int (3 : Int32)), (.int (Int32.ofNat f)), (.int (Int32.ofNat tt)), (.int d)]) (rest := []) (lenOf pd_15 rfl) rfl (by show 2 * 0 + _ ≤ _; exact Nat.le_of_eq rfl) (hb hby at_387) (fun _ _ => ⟨rfl, e214, (by decide : 4 + 0 ≤ _), (by decide : 30 + 0 ≤ _)⟩)
    dsimp only [Pt.U, Pt.locs, Pt.cells, Pt.slots] at X221 l221 y221 z221 st221 hQ221
    subst l221 y221 z221
    obtain ⟨rfl, rfl, Kq221⟩ := hQ221
    try rw [List.append_nil] at X221
    obtain ⟨bd3, hbd3⟩ : ∃ z, z = (own_isd ([x0, x1, x2, x3, x4, x5, x6, x7, x8, x9].getD 3 0) (Int32.ofNat 3) d (Int32.ofNat f) (Int32.ofNat tt)) := ⟨_, rfl⟩
    obtain ⟨c222, hc222⟩ : ∃ z, z = own_s1 bd3 c213 := ⟨_, rfl⟩
    obtain ⟨r222, hr222⟩ : ∃ z, z = own_s2 bd3 c213 p5 r213 (3 : Int32) := ⟨_, rfl⟩
    obtain ⟨T223, X223, e223, st223⟩ := own_to X221 (h := T62.heap) (g := (mkF mM 390 Ls220 [(.int bd3)])) (g' := (mkF mM 406 #[.val (.long p0), .second, .val (.int p1), .val (.int p2), .val (.int p3), .val (.int p4), .val (.int p5), .val (.int d), .val (.ref b5), .val (.ref b48), .val (.int (Int32.ofNat f)), .val (.int (Int32.ofNat tt)), .val (.ref b58), .val (.int (own_fin p5 (Int32.ofNat tt) [])), .val (.int c222), .val (.int r222), .unset, .unset, .unset] [])) (by
      by_cases hc224 : bd3 = (0 : Int32)
      · refine ⟨T221, X221, Kq221, fun tg kg => ?_⟩
        rw [hc222.trans (if_pos hc224)] at kg
        rw [hr222.trans (if_pos hc224)] at kg
        refine XS.ifYes X221.here hx rfl (pc0 := 390) (pc' := 406) rfl (hb hby at_390) rfl ((if0 _ _).trans (teq hc224).1) (by decide) (by decide) ?_
        exact kg
      · let Ls225 : Array Slot := #[.val (.long p0), .second, .val (.int p1), .val (.int p2), .val (.int p3), .val (.int p4), .val (.int p5), .val (.int d), .val (.ref b5), .val (.ref b48), .val (.int (Int32.ofNat f)), .val (.int (Int32.ofNat tt)), .val (.ref b58), .val (.int (own_fin p5 (Int32.ofNat tt) [])), .val (.int (c213 + (1 : Int32))), .val (.int r213), .unset, .unset, .unset]
        have pre227 : ∀ tg, Steps pP.tables eE below (T221.setTop (mkF mM 400 Ls225 [(.int p5), (.int (c213 + (1 : Int32)))])) tg → Steps pP.tables eE below (T221.setTop (mkF mM 390 Ls220 [(.int bd3)])) tg := fun tg kg => (by
          refine XS.ifNo X221.here hx rfl (hb hby at_390) rfl ((if0 _ _).trans (feq hc224).1) ?_
          show Steps pP.tables eE below (T221.setTop (mkF mM 393 Ls220 [])) _
          refine XS.iinc X221.here hx rfl (hb hby at_393) rfl (l' := Ls225) rfl ?_
          show Steps pP.tables eE below (T221.setTop (mkF mM 396 Ls225 [])) _
          refine XS.iload X221.here hx rfl (hb hby at_396) rfl ?_
          show Steps pP.tables eE below (T221.setTop (mkF mM 398 Ls225 [(.int (c213 + (1 : Int32)))])) _
          refine XS.iload X221.here hx rfl (hb hby at_398) rfl ?_
          exact kg)
        by_cases hc226 : (c213 + (1 : Int32)) = p5
        · let Ls228 : Array Slot := #[.val (.long p0), .second, .val (.int p1), .val (.int p2), .val (.int p3), .val (.int p4), .val (.int p5), .val (.int d), .val (.ref b5), .val (.ref b48), .val (.int (Int32.ofNat f)), .val (.int (Int32.ofNat tt)), .val (.ref b58), .val (.int (own_fin p5 (Int32.ofNat tt) [])), .val (.int (c213 + (1 : Int32))), .val (.int (3 : Int32)), .unset, .unset, .unset]
          refine ⟨T221, X221, Kq221, fun tg kg => ?_⟩
          rw [hc222.trans (if_neg hc224)] at kg
          rw [hr222.trans ((if_neg hc224).trans (if_pos hc226))] at kg
          refine pre227 tg ?_
          refine XS.icmpNo X221.here hx rfl (hb hby at_400) rfl (teq hc226).2 ?_
          show Steps pP.tables eE below (T221.setTop (mkF mM 403 Ls225 [])) _
          refine XS.iconst X221.here hx rfl (hb hby at_403) ?_
          show Steps pP.tables eE below (T221.setTop (mkF mM 404 Ls225 [(.int (3 : Int32))])) _
          refine XS.istore X221.here hx rfl (hb hby at_404) rfl (l' := Ls228) rfl ?_
          exact kg
        · refine ⟨T221, X221, Kq221, fun tg kg => ?_⟩
          rw [hc222.trans (if_neg hc224)] at kg
          rw [hr222.trans ((if_neg hc224).trans (if_neg hc226))] at kg
          refine pre227 tg ?_
          refine XS.icmpYes X221.here hx rfl (pc0 := 400) (pc' := 406) rfl (hb hby at_400) rfl (feq hc226).2 (by decide) (by decide) ?_
          exact kg)
    let Ls229 : Array Slot := #[.val (.long p0), .second, .val (.int p1), .val (.int p2), .val (.int p3), .val (.int p4), .val (.int p5), .val (.int d), .val (.ref b5), .val (.ref b48), .val (.int (Int32.ofNat f)), .val (.int (Int32.ofNat tt)), .val (.ref b58), .val (.int (own_fin p5 (Int32.ofNat tt) [])), .val (.int c222), .val (.int r222), .unset, .unset, .unset]
    obtain ⟨_, _, ⟨T230, L230, k230, n230⟩, -, X230, ⟨Lc230, hQ230, l230, y230, z230⟩, st230⟩ := Jvm.LawKit.callS X223 hx (y := (⟨"com/example/resultwire/resultwire/er7/PieceIndexEndPinLaw", "isD", "([CIIII)Z"⟩ : MethodName)) hown (mvT hZ (w_137 hw)) (mvT hZ (w_138 hw)) (mvT hZ (w_4 hw)) (mvT hZ (w_139 hw)) (by decide) (backOf (W := 0) (rm_isD l Z a0 hw [] b5 k5 ([x0, x1, x2, x3, x4, x5, x6, x7, x8, x9]) 4 (Int32.ofNat f) (Int32.ofNat tt) d T62.heap n0 f185 f193 (by first | decide | exact Nat.le_of_ble_eq_true rfl : 4 < [x0, x1, x2, x3, x4, x5, x6, x7, x8, x9].length) (by first | decide | exact Nat.le_of_ble_eq_true rfl : [x0, x1, x2, x3, x4, x5, x6, x7, x8, x9].length ≤ 4000)) hZ (w_139 hw) (w_4 hw) (by decide) (by decide)) (g := (mkF mM 415 Ls229 [(.int d), (.int (Int32.ofNat tt)), (.int (Int32.ofNat f)), (.int (4 : Int32)), (.ref b5)])) rfl (by rw [hml]; rfl) (argsL := [(.ref b5), (.int (4 : Int32)), (.int (Int32.ofNat f)), (.int (Int32.ofNat tt)), (.int d)]) (rest := []) (lenOf pd_15 rfl) rfl (by show 2 * 0 + _ ≤ _; exact Nat.le_of_eq rfl) (hb hby at_415) (fun _ _ => ⟨rfl, e223, (by decide : 4 + 0 ≤ _), (by decide : 30 + 0 ≤ _)⟩)
    dsimp only [Pt.U, Pt.locs, Pt.cells, Pt.slots] at X230 l230 y230 z230 st230 hQ230
    subst l230 y230 z230
    obtain ⟨rfl, rfl, Kq230⟩ := hQ230
    try rw [List.append_nil] at X230
    obtain ⟨bd4, hbd4⟩ : ∃ z, z = (own_isd ([x0, x1, x2, x3, x4, x5, x6, x7, x8, x9].getD 4 0) (Int32.ofNat 4) d (Int32.ofNat f) (Int32.ofNat tt)) := ⟨_, rfl⟩
    obtain ⟨c231, hc231⟩ : ∃ z, z = own_s1 bd4 c222 := ⟨_, rfl⟩
    obtain ⟨r231, hr231⟩ : ∃ z, z = own_s2 bd4 c222 p5 r222 (4 : Int32) := ⟨_, rfl⟩
    obtain ⟨T232, X232, e232, st232⟩ := own_to X230 (h := T62.heap) (g := (mkF mM 418 Ls229 [(.int bd4)])) (g' := (mkF mM 434 #[.val (.long p0), .second, .val (.int p1), .val (.int p2), .val (.int p3), .val (.int p4), .val (.int p5), .val (.int d), .val (.ref b5), .val (.ref b48), .val (.int (Int32.ofNat f)), .val (.int (Int32.ofNat tt)), .val (.ref b58), .val (.int (own_fin p5 (Int32.ofNat tt) [])), .val (.int c231), .val (.int r231), .unset, .unset, .unset] [])) (by
      by_cases hc233 : bd4 = (0 : Int32)
      · refine ⟨T230, X230, Kq230, fun tg kg => ?_⟩
        rw [hc231.trans (if_pos hc233)] at kg
        rw [hr231.trans (if_pos hc233)] at kg
        refine XS.ifYes X230.here hx rfl (pc0 := 418) (pc' := 434) rfl (hb hby at_418) rfl ((if0 _ _).trans (teq hc233).1) (by decide) (by decide) ?_
        exact kg
      · let Ls234 : Array Slot := #[.val (.long p0), .second, .val (.int p1), .val (.int p2), .val (.int p3), .val (.int p4), .val (.int p5), .val (.int d), .val (.ref b5), .val (.ref b48), .val (.int (Int32.ofNat f)), .val (.int (Int32.ofNat tt)), .val (.ref b58), .val (.int (own_fin p5 (Int32.ofNat tt) [])), .val (.int (c222 + (1 : Int32))), .val (.int r222), .unset, .unset, .unset]
        have pre236 : ∀ tg, Steps pP.tables eE below (T230.setTop (mkF mM 428 Ls234 [(.int p5), (.int (c222 + (1 : Int32)))])) tg → Steps pP.tables eE below (T230.setTop (mkF mM 418 Ls229 [(.int bd4)])) tg := fun tg kg => (by
          refine XS.ifNo X230.here hx rfl (hb hby at_418) rfl ((if0 _ _).trans (feq hc233).1) ?_
          show Steps pP.tables eE below (T230.setTop (mkF mM 421 Ls229 [])) _
          refine XS.iinc X230.here hx rfl (hb hby at_421) rfl (l' := Ls234) rfl ?_
          show Steps pP.tables eE below (T230.setTop (mkF mM 424 Ls234 [])) _
          refine XS.iload X230.here hx rfl (hb hby at_424) rfl ?_
          show Steps pP.tables eE below (T230.setTop (mkF mM 426 Ls234 [(.int (c222 + (1 : Int32)))])) _
          refine XS.iload X230.here hx rfl (hb hby at_426) rfl ?_
          exact kg)
        by_cases hc235 : (c222 + (1 : Int32)) = p5
        · let Ls237 : Array Slot := #[.val (.long p0), .second, .val (.int p1), .val (.int p2), .val (.int p3), .val (.int p4), .val (.int p5), .val (.int d), .val (.ref b5), .val (.ref b48), .val (.int (Int32.ofNat f)), .val (.int (Int32.ofNat tt)), .val (.ref b58), .val (.int (own_fin p5 (Int32.ofNat tt) [])), .val (.int (c222 + (1 : Int32))), .val (.int (4 : Int32)), .unset, .unset, .unset]
          refine ⟨T230, X230, Kq230, fun tg kg => ?_⟩
          rw [hc231.trans (if_neg hc233)] at kg
          rw [hr231.trans ((if_neg hc233).trans (if_pos hc235))] at kg
          refine pre236 tg ?_
          refine XS.icmpNo X230.here hx rfl (hb hby at_428) rfl (teq hc235).2 ?_
          show Steps pP.tables eE below (T230.setTop (mkF mM 431 Ls234 [])) _
          refine XS.iconst X230.here hx rfl (hb hby at_431) ?_
          show Steps pP.tables eE below (T230.setTop (mkF mM 432 Ls234 [(.int (4 : Int32))])) _
          refine XS.istore X230.here hx rfl (hb hby at_432) rfl (l' := Ls237) rfl ?_
          exact kg
        · refine ⟨T230, X230, Kq230, fun tg kg => ?_⟩
          rw [hc231.trans (if_neg hc233)] at kg
          rw [hr231.trans ((if_neg hc233).trans (if_neg hc235))] at kg
          refine pre236 tg ?_
          refine XS.icmpYes X230.here hx rfl (pc0 := 428) (pc' := 434) rfl (hb hby at_428) rfl (feq hc235).2 (by decide) (by decide) ?_
          exact kg)
    let Ls238 : Array Slot := #[.val (.long p0), .second, .val (.int p1), .val (.int p2), .val (.int p3), .val (.int p4), .val (.int p5), .val (.int d), .val (.ref b5), .val (.ref b48), .val (.int (Int32.ofNat f)), .val (.int (Int32.ofNat tt)), .val (.ref b58), .val (.int (own_fin p5 (Int32.ofNat tt) [])), .val (.int c231), .val (.int r231), .unset, .unset, .unset]
    obtain ⟨_, _, ⟨T239, L239, k239, n239⟩, -, X239, ⟨Lc239, hQ239, l239, y239, z239⟩, st239⟩ := Jvm.LawKit.callS X232 hx (y := (⟨"com/example/resultwire/resultwire/er7/PieceIndexEndPinLaw", "isD", "([CIIII)Z"⟩ : MethodName)) hown (mvT hZ (w_137 hw)) (mvT hZ (w_138 hw)) (mvT hZ (w_4 hw)) (mvT hZ (w_139 hw)) (by decide) (backOf (W := 0) (rm_isD l Z a0 hw [] b5 k5 ([x0, x1, x2, x3, x4, x5, x6, x7, x8, x9]) 5 (Int32.ofNat f) (Int32.ofNat tt) d T62.heap n0 f185 f193 (by first | decide | exact Nat.le_of_ble_eq_true rfl : 5 < [x0, x1, x2, x3, x4, x5, x6, x7, x8, x9].length) (by first | decide | exact Nat.le_of_ble_eq_true rfl : [x0, x1, x2, x3, x4, x5, x6, x7, x8, x9].length ≤ 4000)) hZ (w_139 hw) (w_4 hw) (by decide) (by decide)) (g := (mkF mM 443 Ls238 [(.int d), (.int (Int32.ofNat tt)), (.int (Int32.ofNat f)), (.int (5 : Int32)), (.ref b5)])) rfl (by rw [hml]; rfl) (argsL := [(.ref b5), (.int (5 : Int32)), (.int (Int32.ofNat f)), (.int (Int32.ofNat tt)), (.int d)]) (rest := []) (lenOf pd_15 rfl) rfl (by show 2 * 0 + _ ≤ _; exact Nat.le_of_eq rfl) (hb hby at_443) (fun _ _ => ⟨rfl, e232, (by decide : 4 + 0 ≤ _), (by decide : 30 + 0 ≤ _)⟩)
    dsimp only [Pt.U, Pt.locs, Pt.cells, Pt.slots] at X239 l239 y239 z239 st239 hQ239
    subst l239 y239 z239
    obtain ⟨rfl, rfl, Kq239⟩ := hQ239
    try rw [List.append_nil] at X239
    obtain ⟨bd5, hbd5⟩ : ∃ z, z = (own_isd ([x0, x1, x2, x3, x4, x5, x6, x7, x8, x9].getD 5 0) (Int32.ofNat 5) d (Int32.ofNat f) (Int32.ofNat tt)) := ⟨_, rfl⟩
    obtain ⟨c240, hc240⟩ : ∃ z, z = own_s1 bd5 c231 := ⟨_, rfl⟩
    obtain ⟨r240, hr240⟩ : ∃ z, z = own_s2 bd5 c231 p5 r231 (5 : Int32) := ⟨_, rfl⟩
    obtain ⟨T241, X241, e241, st241⟩ := own_to X239 (h := T62.heap) (g := (mkF mM 446 Ls238 [(.int bd5)])) (g' := (mkF mM 462 #[.val (.long p0), .second, .val (.int p1), .val (.int p2), .val (.int p3), .val (.int p4), .val (.int p5), .val (.int d), .val (.ref b5), .val (.ref b48), .val (.int (Int32.ofNat f)), .val (.int (Int32.ofNat tt)), .val (.ref b58), .val (.int (own_fin p5 (Int32.ofNat tt) [])), .val (.int c240), .val (.int r240), .unset, .unset, .unset] [])) (by
      by_cases hc242 : bd5 = (0 : Int32)
      · refine ⟨T239, X239, Kq239, fun tg kg => ?_⟩
        rw [hc240.trans (if_pos hc242)] at kg
        rw [hr240.trans (if_pos hc242)] at kg
        refine XS.ifYes X239.here hx rfl (pc0 := 446) (pc' := 462) rfl (hb hby at_446) rfl ((if0 _ _).trans (teq hc242).1) (by decide) (by decide) ?_
        exact kg
      · let Ls243 : Array Slot := #[.val (.long p0), .second, .val (.int p1), .val (.int p2), .val (.int p3), .val (.int p4), .val (.int p5), .val (.int d), .val (.ref b5), .val (.ref b48), .val (.int (Int32.ofNat f)), .val (.int (Int32.ofNat tt)), .val (.ref b58), .val (.int (own_fin p5 (Int32.ofNat tt) [])), .val (.int (c231 + (1 : Int32))), .val (.int r231), .unset, .unset, .unset]
        have pre245 : ∀ tg, Steps pP.tables eE below (T239.setTop (mkF mM 456 Ls243 [(.int p5), (.int (c231 + (1 : Int32)))])) tg → Steps pP.tables eE below (T239.setTop (mkF mM 446 Ls238 [(.int bd5)])) tg := fun tg kg => (by
          refine XS.ifNo X239.here hx rfl (hb hby at_446) rfl ((if0 _ _).trans (feq hc242).1) ?_
          show Steps pP.tables eE below (T239.setTop (mkF mM 449 Ls238 [])) _
          refine XS.iinc X239.here hx rfl (hb hby at_449) rfl (l' := Ls243) rfl ?_
          show Steps pP.tables eE below (T239.setTop (mkF mM 452 Ls243 [])) _
          refine XS.iload X239.here hx rfl (hb hby at_452) rfl ?_
          show Steps pP.tables eE below (T239.setTop (mkF mM 454 Ls243 [(.int (c231 + (1 : Int32)))])) _
          refine XS.iload X239.here hx rfl (hb hby at_454) rfl ?_
          exact kg)
        by_cases hc244 : (c231 + (1 : Int32)) = p5
        · let Ls246 : Array Slot := #[.val (.long p0), .second, .val (.int p1), .val (.int p2), .val (.int p3), .val (.int p4), .val (.int p5), .val (.int d), .val (.ref b5), .val (.ref b48), .val (.int (Int32.ofNat f)), .val (.int (Int32.ofNat tt)), .val (.ref b58), .val (.int (own_fin p5 (Int32.ofNat tt) [])), .val (.int (c231 + (1 : Int32))), .val (.int (5 : Int32)), .unset, .unset, .unset]
          refine ⟨T239, X239, Kq239, fun tg kg => ?_⟩
          rw [hc240.trans (if_neg hc242)] at kg
          rw [hr240.trans ((if_neg hc242).trans (if_pos hc244))] at kg
          refine pre245 tg ?_
          refine XS.icmpNo X239.here hx rfl (hb hby at_456) rfl (teq hc244).2 ?_
          show Steps pP.tables eE below (T239.setTop (mkF mM 459 Ls243 [])) _
          refine XS.iconst X239.here hx rfl (hb hby at_459) ?_
          show Steps pP.tables eE below (T239.setTop (mkF mM 460 Ls243 [(.int (5 : Int32))])) _
          refine XS.istore X239.here hx rfl (hb hby at_460) rfl (l' := Ls246) rfl ?_
          exact kg
        · refine ⟨T239, X239, Kq239, fun tg kg => ?_⟩
          rw [hc240.trans (if_neg hc242)] at kg
          rw [hr240.trans ((if_neg hc242).trans (if_neg hc244))] at kg
          refine pre245 tg ?_
          refine XS.icmpYes X239.here hx rfl (pc0 := 456) (pc' := 462) rfl (hb hby at_456) rfl (feq hc244).2 (by decide) (by decide) ?_
          exact kg)
    let Ls247 : Array Slot := #[.val (.long p0), .second, .val (.int p1), .val (.int p2), .val (.int p3), .val (.int p4), .val (.int p5), .val (.int d), .val (.ref b5), .val (.ref b48), .val (.int (Int32.ofNat f)), .val (.int (Int32.ofNat tt)), .val (.ref b58), .val (.int (own_fin p5 (Int32.ofNat tt) [])), .val (.int c240), .val (.int r240), .unset, .unset, .unset]
    obtain ⟨_, _, ⟨T248, L248, k248, n248⟩, -, X248, ⟨Lc248, hQ248, l248, y248, z248⟩, st248⟩ := Jvm.LawKit.callS X241 hx (y := (⟨"com/example/resultwire/resultwire/er7/PieceIndexEndPinLaw", "isD", "([CIIII)Z"⟩ : MethodName)) hown (mvT hZ (w_137 hw)) (mvT hZ (w_138 hw)) (mvT hZ (w_4 hw)) (mvT hZ (w_139 hw)) (by decide) (backOf (W := 0) (rm_isD l Z a0 hw [] b5 k5 ([x0, x1, x2, x3, x4, x5, x6, x7, x8, x9]) 6 (Int32.ofNat f) (Int32.ofNat tt) d T62.heap n0 f185 f193 (by first | decide | exact Nat.le_of_ble_eq_true rfl : 6 < [x0, x1, x2, x3, x4, x5, x6, x7, x8, x9].length) (by first | decide | exact Nat.le_of_ble_eq_true rfl : [x0, x1, x2, x3, x4, x5, x6, x7, x8, x9].length ≤ 4000)) hZ (w_139 hw) (w_4 hw) (by decide) (by decide)) (g := (mkF mM 472 Ls247 [(.int d), (.int (Int32.ofNat tt)), (.int (Int32.ofNat f)), (.int (6 : Int32)), (.ref b5)])) rfl (by rw [hml]; rfl) (argsL := [(.ref b5), (.int (6 : Int32)), (.int (Int32.ofNat f)), (.int (Int32.ofNat tt)), (.int d)]) (rest := []) (lenOf pd_15 rfl) rfl (by show 2 * 0 + _ ≤ _; exact Nat.le_of_eq rfl) (hb hby at_472) (fun _ _ => ⟨rfl, e241, (by decide : 4 + 0 ≤ _), (by decide : 30 + 0 ≤ _)⟩)
    dsimp only [Pt.U, Pt.locs, Pt.cells, Pt.slots] at X248 l248 y248 z248 st248 hQ248
    subst l248 y248 z248
    obtain ⟨rfl, rfl, Kq248⟩ := hQ248
    try rw [List.append_nil] at X248
    obtain ⟨bd6, hbd6⟩ : ∃ z, z = (own_isd ([x0, x1, x2, x3, x4, x5, x6, x7, x8, x9].getD 6 0) (Int32.ofNat 6) d (Int32.ofNat f) (Int32.ofNat tt)) := ⟨_, rfl⟩
    obtain ⟨c249, hc249⟩ : ∃ z, z = own_s1 bd6 c240 := ⟨_, rfl⟩
    obtain ⟨r249, hr249⟩ : ∃ z, z = own_s2 bd6 c240 p5 r240 (6 : Int32) := ⟨_, rfl⟩
    obtain ⟨T250, X250, e250, st250⟩ := own_to X248 (h := T62.heap) (g := (mkF mM 475 Ls247 [(.int bd6)])) (g' := (mkF mM 492 #[.val (.long p0), .second, .val (.int p1), .val (.int p2), .val (.int p3), .val (.int p4), .val (.int p5), .val (.int d), .val (.ref b5), .val (.ref b48), .val (.int (Int32.ofNat f)), .val (.int (Int32.ofNat tt)), .val (.ref b58), .val (.int (own_fin p5 (Int32.ofNat tt) [])), .val (.int c249), .val (.int r249), .unset, .unset, .unset] [])) (by
      by_cases hc251 : bd6 = (0 : Int32)
      · refine ⟨T248, X248, Kq248, fun tg kg => ?_⟩
        rw [hc249.trans (if_pos hc251)] at kg
        rw [hr249.trans (if_pos hc251)] at kg
        refine XS.ifYes X248.here hx rfl (pc0 := 475) (pc' := 492) rfl (hb hby at_475) rfl ((if0 _ _).trans (teq hc251).1) (by decide) (by decide) ?_
        exact kg
      · let Ls252 : Array Slot := #[.val (.long p0), .second, .val (.int p1), .val (.int p2), .val (.int p3), .val (.int p4), .val (.int p5), .val (.int d), .val (.ref b5), .val (.ref b48), .val (.int (Int32.ofNat f)), .val (.int (Int32.ofNat tt)), .val (.ref b58), .val (.int (own_fin p5 (Int32.ofNat tt) [])), .val (.int (c240 + (1 : Int32))), .val (.int r240), .unset, .unset, .unset]
        have pre254 : ∀ tg, Steps pP.tables eE below (T248.setTop (mkF mM 485 Ls252 [(.int p5), (.int (c240 + (1 : Int32)))])) tg → Steps pP.tables eE below (T248.setTop (mkF mM 475 Ls247 [(.int bd6)])) tg := fun tg kg => (by
          refine XS.ifNo X248.here hx rfl (hb hby at_475) rfl ((if0 _ _).trans (feq hc251).1) ?_
          show Steps pP.tables eE below (T248.setTop (mkF mM 478 Ls247 [])) _
          refine XS.iinc X248.here hx rfl (hb hby at_478) rfl (l' := Ls252) rfl ?_
          show Steps pP.tables eE below (T248.setTop (mkF mM 481 Ls252 [])) _
          refine XS.iload X248.here hx rfl (hb hby at_481) rfl ?_
          show Steps pP.tables eE below (T248.setTop (mkF mM 483 Ls252 [(.int (c240 + (1 : Int32)))])) _
          refine XS.iload X248.here hx rfl (hb hby at_483) rfl ?_
          exact kg)
        by_cases hc253 : (c240 + (1 : Int32)) = p5
        · let Ls255 : Array Slot := #[.val (.long p0), .second, .val (.int p1), .val (.int p2), .val (.int p3), .val (.int p4), .val (.int p5), .val (.int d), .val (.ref b5), .val (.ref b48), .val (.int (Int32.ofNat f)), .val (.int (Int32.ofNat tt)), .val (.ref b58), .val (.int (own_fin p5 (Int32.ofNat tt) [])), .val (.int (c240 + (1 : Int32))), .val (.int (6 : Int32)), .unset, .unset, .unset]
          refine ⟨T248, X248, Kq248, fun tg kg => ?_⟩
          rw [hc249.trans (if_neg hc251)] at kg
          rw [hr249.trans ((if_neg hc251).trans (if_pos hc253))] at kg
          refine pre254 tg ?_
          refine XS.icmpNo X248.here hx rfl (hb hby at_485) rfl (teq hc253).2 ?_
          show Steps pP.tables eE below (T248.setTop (mkF mM 488 Ls252 [])) _
          refine XS.bipush X248.here hx rfl (hb hby at_488) ?_
          show Steps pP.tables eE below (T248.setTop (mkF mM 490 Ls252 [(.int (6 : Int32))])) _
          refine XS.istore X248.here hx rfl (hb hby at_490) rfl (l' := Ls255) rfl ?_
          exact kg
        · refine ⟨T248, X248, Kq248, fun tg kg => ?_⟩
          rw [hc249.trans (if_neg hc251)] at kg
          rw [hr249.trans ((if_neg hc251).trans (if_neg hc253))] at kg
          refine pre254 tg ?_
          refine XS.icmpYes X248.here hx rfl (pc0 := 485) (pc' := 492) rfl (hb hby at_485) rfl (feq hc253).2 (by decide) (by decide) ?_
          exact kg)
    let Ls256 : Array Slot := #[.val (.long p0), .second, .val (.int p1), .val (.int p2), .val (.int p3), .val (.int p4), .val (.int p5), .val (.int d), .val (.ref b5), .val (.ref b48), .val (.int (Int32.ofNat f)), .val (.int (Int32.ofNat tt)), .val (.ref b58), .val (.int (own_fin p5 (Int32.ofNat tt) [])), .val (.int c249), .val (.int r249), .unset, .unset, .unset]
    obtain ⟨_, _, ⟨T257, L257, k257, n257⟩, -, X257, ⟨Lc257, hQ257, l257, y257, z257⟩, st257⟩ := Jvm.LawKit.callS X250 hx (y := (⟨"com/example/resultwire/resultwire/er7/PieceIndexEndPinLaw", "isD", "([CIIII)Z"⟩ : MethodName)) hown (mvT hZ (w_137 hw)) (mvT hZ (w_138 hw)) (mvT hZ (w_4 hw)) (mvT hZ (w_139 hw)) (by decide) (backOf (W := 0) (rm_isD l Z a0 hw [] b5 k5 ([x0, x1, x2, x3, x4, x5, x6, x7, x8, x9]) 7 (Int32.ofNat f) (Int32.ofNat tt) d T62.heap n0 f185 f193 (by first | decide | exact Nat.le_of_ble_eq_true rfl : 7 < [x0, x1, x2, x3, x4, x5, x6, x7, x8, x9].length) (by first | decide | exact Nat.le_of_ble_eq_true rfl : [x0, x1, x2, x3, x4, x5, x6, x7, x8, x9].length ≤ 4000)) hZ (w_139 hw) (w_4 hw) (by decide) (by decide)) (g := (mkF mM 502 Ls256 [(.int d), (.int (Int32.ofNat tt)), (.int (Int32.ofNat f)), (.int (7 : Int32)), (.ref b5)])) rfl (by rw [hml]; rfl) (argsL := [(.ref b5), (.int (7 : Int32)), (.int (Int32.ofNat f)), (.int (Int32.ofNat tt)), (.int d)]) (rest := []) (lenOf pd_15 rfl) rfl (by show 2 * 0 + _ ≤ _; exact Nat.le_of_eq rfl) (hb hby at_502) (fun _ _ => ⟨rfl, e250, (by decide : 4 + 0 ≤ _), (by decide : 30 + 0 ≤ _)⟩)
    dsimp only [Pt.U, Pt.locs, Pt.cells, Pt.slots] at X257 l257 y257 z257 st257 hQ257
    subst l257 y257 z257
    obtain ⟨rfl, rfl, Kq257⟩ := hQ257
    try rw [List.append_nil] at X257
    obtain ⟨bd7, hbd7⟩ : ∃ z, z = (own_isd ([x0, x1, x2, x3, x4, x5, x6, x7, x8, x9].getD 7 0) (Int32.ofNat 7) d (Int32.ofNat f) (Int32.ofNat tt)) := ⟨_, rfl⟩
    obtain ⟨c258, hc258⟩ : ∃ z, z = own_s1 bd7 c249 := ⟨_, rfl⟩
    obtain ⟨r258, hr258⟩ : ∃ z, z = own_s2 bd7 c249 p5 r249 (7 : Int32) := ⟨_, rfl⟩
    obtain ⟨T259, X259, e259, st259⟩ := own_to X257 (h := T62.heap) (g := (mkF mM 505 Ls256 [(.int bd7)])) (g' := (mkF mM 522 #[.val (.long p0), .second, .val (.int p1), .val (.int p2), .val (.int p3), .val (.int p4), .val (.int p5), .val (.int d), .val (.ref b5), .val (.ref b48), .val (.int (Int32.ofNat f)), .val (.int (Int32.ofNat tt)), .val (.ref b58), .val (.int (own_fin p5 (Int32.ofNat tt) [])), .val (.int c258), .val (.int r258), .unset, .unset, .unset] [])) (by
      by_cases hc260 : bd7 = (0 : Int32)
      · refine ⟨T257, X257, Kq257, fun tg kg => ?_⟩
        rw [hc258.trans (if_pos hc260)] at kg
        rw [hr258.trans (if_pos hc260)] at kg
        refine XS.ifYes X257.here hx rfl (pc0 := 505) (pc' := 522) rfl (hb hby at_505) rfl ((if0 _ _).trans (teq hc260).1) (by decide) (by decide) ?_
        exact kg
      · let Ls261 : Array Slot := #[.val (.long p0), .second, .val (.int p1), .val (.int p2), .val (.int p3), .val (.int p4), .val (.int p5), .val (.int d), .val (.ref b5), .val (.ref b48), .val (.int (Int32.ofNat f)), .val (.int (Int32.ofNat tt)), .val (.ref b58), .val (.int (own_fin p5 (Int32.ofNat tt) [])), .val (.int (c249 + (1 : Int32))), .val (.int r249), .unset, .unset, .unset]
        have pre263 : ∀ tg, Steps pP.tables eE below (T257.setTop (mkF mM 515 Ls261 [(.int p5), (.int (c249 + (1 : Int32)))])) tg → Steps pP.tables eE below (T257.setTop (mkF mM 505 Ls256 [(.int bd7)])) tg := fun tg kg => (by
          refine XS.ifNo X257.here hx rfl (hb hby at_505) rfl ((if0 _ _).trans (feq hc260).1) ?_
          show Steps pP.tables eE below (T257.setTop (mkF mM 508 Ls256 [])) _
          refine XS.iinc X257.here hx rfl (hb hby at_508) rfl (l' := Ls261) rfl ?_
          show Steps pP.tables eE below (T257.setTop (mkF mM 511 Ls261 [])) _
          refine XS.iload X257.here hx rfl (hb hby at_511) rfl ?_
          show Steps pP.tables eE below (T257.setTop (mkF mM 513 Ls261 [(.int (c249 + (1 : Int32)))])) _
          refine XS.iload X257.here hx rfl (hb hby at_513) rfl ?_
          exact kg)
        by_cases hc262 : (c249 + (1 : Int32)) = p5
        · let Ls264 : Array Slot := #[.val (.long p0), .second, .val (.int p1), .val (.int p2), .val (.int p3), .val (.int p4), .val (.int p5), .val (.int d), .val (.ref b5), .val (.ref b48), .val (.int (Int32.ofNat f)), .val (.int (Int32.ofNat tt)), .val (.ref b58), .val (.int (own_fin p5 (Int32.ofNat tt) [])), .val (.int (c249 + (1 : Int32))), .val (.int (7 : Int32)), .unset, .unset, .unset]
          refine ⟨T257, X257, Kq257, fun tg kg => ?_⟩
          rw [hc258.trans (if_neg hc260)] at kg
          rw [hr258.trans ((if_neg hc260).trans (if_pos hc262))] at kg
          refine pre263 tg ?_
          refine XS.icmpNo X257.here hx rfl (hb hby at_515) rfl (teq hc262).2 ?_
          show Steps pP.tables eE below (T257.setTop (mkF mM 518 Ls261 [])) _
          refine XS.bipush X257.here hx rfl (hb hby at_518) ?_
          show Steps pP.tables eE below (T257.setTop (mkF mM 520 Ls261 [(.int (7 : Int32))])) _
          refine XS.istore X257.here hx rfl (hb hby at_520) rfl (l' := Ls264) rfl ?_
          exact kg
        · refine ⟨T257, X257, Kq257, fun tg kg => ?_⟩
          rw [hc258.trans (if_neg hc260)] at kg
          rw [hr258.trans ((if_neg hc260).trans (if_neg hc262))] at kg
          refine pre263 tg ?_
          refine XS.icmpYes X257.here hx rfl (pc0 := 515) (pc' := 522) rfl (hb hby at_515) rfl (feq hc262).2 (by decide) (by decide) ?_
          exact kg)
    let Ls265 : Array Slot := #[.val (.long p0), .second, .val (.int p1), .val (.int p2), .val (.int p3), .val (.int p4), .val (.int p5), .val (.int d), .val (.ref b5), .val (.ref b48), .val (.int (Int32.ofNat f)), .val (.int (Int32.ofNat tt)), .val (.ref b58), .val (.int (own_fin p5 (Int32.ofNat tt) [])), .val (.int c258), .val (.int r258), .unset, .unset, .unset]
    obtain ⟨_, _, ⟨T266, L266, k266, n266⟩, -, X266, ⟨Lc266, hQ266, l266, y266, z266⟩, st266⟩ := Jvm.LawKit.callS X259 hx (y := (⟨"com/example/resultwire/resultwire/er7/PieceIndexEndPinLaw", "isD", "([CIIII)Z"⟩ : MethodName)) hown (mvT hZ (w_137 hw)) (mvT hZ (w_138 hw)) (mvT hZ (w_4 hw)) (mvT hZ (w_139 hw)) (by decide) (backOf (W := 0) (rm_isD l Z a0 hw [] b5 k5 ([x0, x1, x2, x3, x4, x5, x6, x7, x8, x9]) 8 (Int32.ofNat f) (Int32.ofNat tt) d T62.heap n0 f185 f193 (by first | decide | exact Nat.le_of_ble_eq_true rfl : 8 < [x0, x1, x2, x3, x4, x5, x6, x7, x8, x9].length) (by first | decide | exact Nat.le_of_ble_eq_true rfl : [x0, x1, x2, x3, x4, x5, x6, x7, x8, x9].length ≤ 4000)) hZ (w_139 hw) (w_4 hw) (by decide) (by decide)) (g := (mkF mM 532 Ls265 [(.int d), (.int (Int32.ofNat tt)), (.int (Int32.ofNat f)), (.int (8 : Int32)), (.ref b5)])) rfl (by rw [hml]; rfl) (argsL := [(.ref b5), (.int (8 : Int32)), (.int (Int32.ofNat f)), (.int (Int32.ofNat tt)), (.int d)]) (rest := []) (lenOf pd_15 rfl) rfl (by show 2 * 0 + _ ≤ _; exact Nat.le_of_eq rfl) (hb hby at_532) (fun _ _ => ⟨rfl, e259, (by decide : 4 + 0 ≤ _), (by decide : 30 + 0 ≤ _)⟩)
    dsimp only [Pt.U, Pt.locs, Pt.cells, Pt.slots] at X266 l266 y266 z266 st266 hQ266
    subst l266 y266 z266
    obtain ⟨rfl, rfl, Kq266⟩ := hQ266
    try rw [List.append_nil] at X266
    obtain ⟨bd8, hbd8⟩ : ∃ z, z = (own_isd ([x0, x1, x2, x3, x4, x5, x6, x7, x8, x9].getD 8 0) (Int32.ofNat 8) d (Int32.ofNat f) (Int32.ofNat tt)) := ⟨_, rfl⟩
    obtain ⟨c267, hc267⟩ : ∃ z, z = own_s1 bd8 c258 := ⟨_, rfl⟩
    obtain ⟨r267, hr267⟩ : ∃ z, z = own_s2 bd8 c258 p5 r258 (8 : Int32) := ⟨_, rfl⟩
    obtain ⟨T268, X268, e268, st268⟩ := own_to X266 (h := T62.heap) (g := (mkF mM 535 Ls265 [(.int bd8)])) (g' := (mkF mM 552 #[.val (.long p0), .second, .val (.int p1), .val (.int p2), .val (.int p3), .val (.int p4), .val (.int p5), .val (.int d), .val (.ref b5), .val (.ref b48), .val (.int (Int32.ofNat f)), .val (.int (Int32.ofNat tt)), .val (.ref b58), .val (.int (own_fin p5 (Int32.ofNat tt) [])), .val (.int c267), .val (.int r267), .unset, .unset, .unset] [])) (by
      by_cases hc269 : bd8 = (0 : Int32)
      · refine ⟨T266, X266, Kq266, fun tg kg => ?_⟩
        rw [hc267.trans (if_pos hc269)] at kg
        rw [hr267.trans (if_pos hc269)] at kg
        refine XS.ifYes X266.here hx rfl (pc0 := 535) (pc' := 552) rfl (hb hby at_535) rfl ((if0 _ _).trans (teq hc269).1) (by decide) (by decide) ?_
        exact kg
      · let Ls270 : Array Slot := #[.val (.long p0), .second, .val (.int p1), .val (.int p2), .val (.int p3), .val (.int p4), .val (.int p5), .val (.int d), .val (.ref b5), .val (.ref b48), .val (.int (Int32.ofNat f)), .val (.int (Int32.ofNat tt)), .val (.ref b58), .val (.int (own_fin p5 (Int32.ofNat tt) [])), .val (.int (c258 + (1 : Int32))), .val (.int r258), .unset, .unset, .unset]
        have pre272 : ∀ tg, Steps pP.tables eE below (T266.setTop (mkF mM 545 Ls270 [(.int p5), (.int (c258 + (1 : Int32)))])) tg → Steps pP.tables eE below (T266.setTop (mkF mM 535 Ls265 [(.int bd8)])) tg := fun tg kg => (by
          refine XS.ifNo X266.here hx rfl (hb hby at_535) rfl ((if0 _ _).trans (feq hc269).1) ?_
          show Steps pP.tables eE below (T266.setTop (mkF mM 538 Ls265 [])) _
          refine XS.iinc X266.here hx rfl (hb hby at_538) rfl (l' := Ls270) rfl ?_
          show Steps pP.tables eE below (T266.setTop (mkF mM 541 Ls270 [])) _
          refine XS.iload X266.here hx rfl (hb hby at_541) rfl ?_
          show Steps pP.tables eE below (T266.setTop (mkF mM 543 Ls270 [(.int (c258 + (1 : Int32)))])) _
          refine XS.iload X266.here hx rfl (hb hby at_543) rfl ?_
          exact kg)
        by_cases hc271 : (c258 + (1 : Int32)) = p5
        · let Ls273 : Array Slot := #[.val (.long p0), .second, .val (.int p1), .val (.int p2), .val (.int p3), .val (.int p4), .val (.int p5), .val (.int d), .val (.ref b5), .val (.ref b48), .val (.int (Int32.ofNat f)), .val (.int (Int32.ofNat tt)), .val (.ref b58), .val (.int (own_fin p5 (Int32.ofNat tt) [])), .val (.int (c258 + (1 : Int32))), .val (.int (8 : Int32)), .unset, .unset, .unset]
          refine ⟨T266, X266, Kq266, fun tg kg => ?_⟩
          rw [hc267.trans (if_neg hc269)] at kg
          rw [hr267.trans ((if_neg hc269).trans (if_pos hc271))] at kg
          refine pre272 tg ?_
          refine XS.icmpNo X266.here hx rfl (hb hby at_545) rfl (teq hc271).2 ?_
          show Steps pP.tables eE below (T266.setTop (mkF mM 548 Ls270 [])) _
          refine XS.bipush X266.here hx rfl (hb hby at_548) ?_
          show Steps pP.tables eE below (T266.setTop (mkF mM 550 Ls270 [(.int (8 : Int32))])) _
          refine XS.istore X266.here hx rfl (hb hby at_550) rfl (l' := Ls273) rfl ?_
          exact kg
        · refine ⟨T266, X266, Kq266, fun tg kg => ?_⟩
          rw [hc267.trans (if_neg hc269)] at kg
          rw [hr267.trans ((if_neg hc269).trans (if_neg hc271))] at kg
          refine pre272 tg ?_
          refine XS.icmpYes X266.here hx rfl (pc0 := 545) (pc' := 552) rfl (hb hby at_545) rfl (feq hc271).2 (by decide) (by decide) ?_
          exact kg)
    let Ls274 : Array Slot := #[.val (.long p0), .second, .val (.int p1), .val (.int p2), .val (.int p3), .val (.int p4), .val (.int p5), .val (.int d), .val (.ref b5), .val (.ref b48), .val (.int (Int32.ofNat f)), .val (.int (Int32.ofNat tt)), .val (.ref b58), .val (.int (own_fin p5 (Int32.ofNat tt) [])), .val (.int c267), .val (.int r267), .unset, .unset, .unset]
    obtain ⟨_, _, ⟨T275, L275, k275, n275⟩, -, X275, ⟨Lc275, hQ275, l275, y275, z275⟩, st275⟩ := Jvm.LawKit.callS X268 hx (y := (⟨"com/example/resultwire/resultwire/er7/PieceIndexEndPinLaw", "isD", "([CIIII)Z"⟩ : MethodName)) hown (mvT hZ (w_137 hw)) (mvT hZ (w_138 hw)) (mvT hZ (w_4 hw)) (mvT hZ (w_139 hw)) (by decide) (backOf (W := 0) (rm_isD l Z a0 hw [] b5 k5 ([x0, x1, x2, x3, x4, x5, x6, x7, x8, x9]) 9 (Int32.ofNat f) (Int32.ofNat tt) d T62.heap n0 f185 f193 (by first | decide | exact Nat.le_of_ble_eq_true rfl : 9 < [x0, x1, x2, x3, x4, x5, x6, x7, x8, x9].length) (by first | decide | exact Nat.le_of_ble_eq_true rfl : [x0, x1, x2, x3, x4, x5, x6, x7, x8, x9].length ≤ 4000)) hZ (w_139 hw) (w_4 hw) (by decide) (by decide)) (g := (mkF mM 562 Ls274 [(.int d), (.int (Int32.ofNat tt)), (.int (Int32.ofNat f)), (.int (9 : Int32)), (.ref b5)])) rfl (by rw [hml]; rfl) (argsL := [(.ref b5), (.int (9 : Int32)), (.int (Int32.ofNat f)), (.int (Int32.ofNat tt)), (.int d)]) (rest := []) (lenOf pd_15 rfl) rfl (by show 2 * 0 + _ ≤ _; exact Nat.le_of_eq rfl) (hb hby at_562) (fun _ _ => ⟨rfl, e268, (by decide : 4 + 0 ≤ _), (by decide : 30 + 0 ≤ _)⟩)
    dsimp only [Pt.U, Pt.locs, Pt.cells, Pt.slots] at X275 l275 y275 z275 st275 hQ275
    subst l275 y275 z275
    obtain ⟨rfl, rfl, Kq275⟩ := hQ275
    try rw [List.append_nil] at X275
    obtain ⟨bd9, hbd9⟩ : ∃ z, z = (own_isd ([x0, x1, x2, x3, x4, x5, x6, x7, x8, x9].getD 9 0) (Int32.ofNat 9) d (Int32.ofNat f) (Int32.ofNat tt)) := ⟨_, rfl⟩
    obtain ⟨c276, hc276⟩ : ∃ z, z = own_s1 bd9 c267 := ⟨_, rfl⟩
    obtain ⟨r276, hr276⟩ : ∃ z, z = own_s2 bd9 c267 p5 r267 (9 : Int32) := ⟨_, rfl⟩
    obtain ⟨T277, X277, e277, st277⟩ := own_to X275 (h := T62.heap) (g := (mkF mM 565 Ls274 [(.int bd9)])) (g' := (mkF mM 582 #[.val (.long p0), .second, .val (.int p1), .val (.int p2), .val (.int p3), .val (.int p4), .val (.int p5), .val (.int d), .val (.ref b5), .val (.ref b48), .val (.int (Int32.ofNat f)), .val (.int (Int32.ofNat tt)), .val (.ref b58), .val (.int (own_fin p5 (Int32.ofNat tt) [])), .val (.int c276), .val (.int r276), .unset, .unset, .unset] [])) (by
      by_cases hc278 : bd9 = (0 : Int32)
      · refine ⟨T275, X275, Kq275, fun tg kg => ?_⟩
        rw [hc276.trans (if_pos hc278)] at kg
        rw [hr276.trans (if_pos hc278)] at kg
        refine XS.ifYes X275.here hx rfl (pc0 := 565) (pc' := 582) rfl (hb hby at_565) rfl ((if0 _ _).trans (teq hc278).1) (by decide) (by decide) ?_
        exact kg
      · let Ls279 : Array Slot := #[.val (.long p0), .second, .val (.int p1), .val (.int p2), .val (.int p3), .val (.int p4), .val (.int p5), .val (.int d), .val (.ref b5), .val (.ref b48), .val (.int (Int32.ofNat f)), .val (.int (Int32.ofNat tt)), .val (.ref b58), .val (.int (own_fin p5 (Int32.ofNat tt) [])), .val (.int (c267 + (1 : Int32))), .val (.int r267), .unset, .unset, .unset]
        have pre281 : ∀ tg, Steps pP.tables eE below (T275.setTop (mkF mM 575 Ls279 [(.int p5), (.int (c267 + (1 : Int32)))])) tg → Steps pP.tables eE below (T275.setTop (mkF mM 565 Ls274 [(.int bd9)])) tg := fun tg kg => (by
          refine XS.ifNo X275.here hx rfl (hb hby at_565) rfl ((if0 _ _).trans (feq hc278).1) ?_
          show Steps pP.tables eE below (T275.setTop (mkF mM 568 Ls274 [])) _
          refine XS.iinc X275.here hx rfl (hb hby at_568) rfl (l' := Ls279) rfl ?_
          show Steps pP.tables eE below (T275.setTop (mkF mM 571 Ls279 [])) _
          refine XS.iload X275.here hx rfl (hb hby at_571) rfl ?_
          show Steps pP.tables eE below (T275.setTop (mkF mM 573 Ls279 [(.int (c267 + (1 : Int32)))])) _
          refine XS.iload X275.here hx rfl (hb hby at_573) rfl ?_
          exact kg)
        by_cases hc280 : (c267 + (1 : Int32)) = p5
        · let Ls282 : Array Slot := #[.val (.long p0), .second, .val (.int p1), .val (.int p2), .val (.int p3), .val (.int p4), .val (.int p5), .val (.int d), .val (.ref b5), .val (.ref b48), .val (.int (Int32.ofNat f)), .val (.int (Int32.ofNat tt)), .val (.ref b58), .val (.int (own_fin p5 (Int32.ofNat tt) [])), .val (.int (c267 + (1 : Int32))), .val (.int (9 : Int32)), .unset, .unset, .unset]
          refine ⟨T275, X275, Kq275, fun tg kg => ?_⟩
          rw [hc276.trans (if_neg hc278)] at kg
          rw [hr276.trans ((if_neg hc278).trans (if_pos hc280))] at kg
          refine pre281 tg ?_
          refine XS.icmpNo X275.here hx rfl (hb hby at_575) rfl (teq hc280).2 ?_
          show Steps pP.tables eE below (T275.setTop (mkF mM 578 Ls279 [])) _
          refine XS.bipush X275.here hx rfl (hb hby at_578) ?_
          show Steps pP.tables eE below (T275.setTop (mkF mM 580 Ls279 [(.int (9 : Int32))])) _
          refine XS.istore X275.here hx rfl (hb hby at_580) rfl (l' := Ls282) rfl ?_
          exact kg
        · refine ⟨T275, X275, Kq275, fun tg kg => ?_⟩
          rw [hc276.trans (if_neg hc278)] at kg
          rw [hr276.trans ((if_neg hc278).trans (if_neg hc280))] at kg
          refine pre281 tg ?_
          refine XS.icmpYes X275.here hx rfl (pc0 := 575) (pc' := 582) rfl (hb hby at_575) rfl (feq hc280).2 (by decide) (by decide) ?_
          exact kg)
    let Ls283 : Array Slot := #[.val (.long p0), .second, .val (.int p1), .val (.int p2), .val (.int p3), .val (.int p4), .val (.int p5), .val (.int d), .val (.ref b5), .val (.ref b48), .val (.int (Int32.ofNat f)), .val (.int (Int32.ofNat tt)), .val (.ref b58), .val (.int (own_fin p5 (Int32.ofNat tt) [])), .val (.int c276), .val (.int r276), .unset, .unset, .unset]
    have s0 : (0 : Int32) = Int32.ofNat (own_A [x0, x1, x2, x3, x4, x5, x6, x7, x8, x9] d f tt 0).length := by rw [own_A0]; rfl
    have r0 : Int32.ofNat tt = own_pick (own_A [x0, x1, x2, x3, x4, x5, x6, x7, x8, x9] d f tt 0) p5 (Int32.ofNat tt) := by rw [own_A0, own_pick, if_neg (by simp only [List.length_nil]; omega)]
    have sc0 := own_scan (cs := [x0, x1, x2, x3, x4, x5, x6, x7, x8, x9]) (k := p5) (r0 := Int32.ofNat tt) (i := 0) (by omega) (by omega) (by omega) hbd0 s0 r0
    rw [show Int32.ofNat 0 = (0 : Int32) from rfl, ← hc195, ← hr195] at sc0
    have sc1 := own_scan (cs := [x0, x1, x2, x3, x4, x5, x6, x7, x8, x9]) (k := p5) (r0 := Int32.ofNat tt) (i := 1) (by omega) (by omega) (by omega) hbd1 sc0.1 sc0.2
    rw [show Int32.ofNat 1 = (1 : Int32) from rfl, ← hc204, ← hr204] at sc1
    have sc2 := own_scan (cs := [x0, x1, x2, x3, x4, x5, x6, x7, x8, x9]) (k := p5) (r0 := Int32.ofNat tt) (i := 2) (by omega) (by omega) (by omega) hbd2 sc1.1 sc1.2
    rw [show Int32.ofNat 2 = (2 : Int32) from rfl, ← hc213, ← hr213] at sc2
    have sc3 := own_scan (cs := [x0, x1, x2, x3, x4, x5, x6, x7, x8, x9]) (k := p5) (r0 := Int32.ofNat tt) (i := 3) (by omega) (by omega) (by omega) hbd3 sc2.1 sc2.2
    rw [show Int32.ofNat 3 = (3 : Int32) from rfl, ← hc222, ← hr222] at sc3
    have sc4 := own_scan (cs := [x0, x1, x2, x3, x4, x5, x6, x7, x8, x9]) (k := p5) (r0 := Int32.ofNat tt) (i := 4) (by omega) (by omega) (by omega) hbd4 sc3.1 sc3.2
    rw [show Int32.ofNat 4 = (4 : Int32) from rfl, ← hc231, ← hr231] at sc4
    have sc5 := own_scan (cs := [x0, x1, x2, x3, x4, x5, x6, x7, x8, x9]) (k := p5) (r0 := Int32.ofNat tt) (i := 5) (by omega) (by omega) (by omega) hbd5 sc4.1 sc4.2
    rw [show Int32.ofNat 5 = (5 : Int32) from rfl, ← hc240, ← hr240] at sc5
    have sc6 := own_scan (cs := [x0, x1, x2, x3, x4, x5, x6, x7, x8, x9]) (k := p5) (r0 := Int32.ofNat tt) (i := 6) (by omega) (by omega) (by omega) hbd6 sc5.1 sc5.2
    rw [show Int32.ofNat 6 = (6 : Int32) from rfl, ← hc249, ← hr249] at sc6
    have sc7 := own_scan (cs := [x0, x1, x2, x3, x4, x5, x6, x7, x8, x9]) (k := p5) (r0 := Int32.ofNat tt) (i := 7) (by omega) (by omega) (by omega) hbd7 sc6.1 sc6.2
    rw [show Int32.ofNat 7 = (7 : Int32) from rfl, ← hc258, ← hr258] at sc7
    have sc8 := own_scan (cs := [x0, x1, x2, x3, x4, x5, x6, x7, x8, x9]) (k := p5) (r0 := Int32.ofNat tt) (i := 8) (by omega) (by omega) (by omega) hbd8 sc7.1 sc7.2
    rw [show Int32.ofNat 8 = (8 : Int32) from rfl, ← hc267, ← hr267] at sc8
    have sc9 := own_scan (cs := [x0, x1, x2, x3, x4, x5, x6, x7, x8, x9]) (k := p5) (r0 := Int32.ofNat tt) (i := 9) (by omega) (by omega) (by omega) hbd9 sc8.1 sc8.2
    rw [show Int32.ofNat 9 = (9 : Int32) from rfl, ← hc276, ← hr276] at sc9
    let Ls284 : Array Slot := #[.val (.long p0), .second, .val (.int p1), .val (.int p2), .val (.int p3), .val (.int p4), .val (.int p5), .val (.int d), .val (.ref b5), .val (.ref b48), .val (.int (Int32.ofNat f)), .val (.int (Int32.ofNat tt)), .val (.ref b58), .val (.int (own_fin p5 (Int32.ofNat tt) [])), .val (.int c276), .val (.int r276), .val (.int (c276 + (1 : Int32))), .unset, .unset]
    let Ls285 : Array Slot := #[.val (.long p0), .second, .val (.int p1), .val (.int p2), .val (.int p3), .val (.int p4), .val (.int p5), .val (.int d), .val (.ref b5), .val (.ref b48), .val (.int (Int32.ofNat f)), .val (.int (Int32.ofNat tt)), .val (.ref b58), .val (.int (own_fin p5 (Int32.ofNat tt) [])), .val (.int c276), .val (.int r276), .val (.int (c276 + (1 : Int32))), .val (.int (0 : Int32)), .unset]
    have pre287 : ∀ tg, Steps pP.tables eE below (T277.setTop (mkF mM 615 Ls285 [(.int (1 : Int32)), (.int p5)])) tg → Steps pP.tables eE below (s₁.setTop (entryFrame mM #[(.long p0), (.int p1), (.int p2), (.int p3), (.int p4), (.int p5)] maxLocals)) tg := fun tg kg => pre65 tg (by
      refine XS.iload X62.here hx rfl (hb hby at_271) rfl ?_
      show Steps pP.tables eE below (T62.setTop (mkF mM 273 Ls57 [(.int p4), (.ref b58)])) _
      refine st186.trans ?_
      show Steps pP.tables eE below (T186.setTop (mkF mM 276 Ls57 [(.ref b58)])) _
      refine XS.astore X186.here hx rfl (hb hby at_276) rfl rfl (l' := Ls187) rfl ?_
      show Steps pP.tables eE below (T186.setTop (mkF mM 278 Ls187 [])) _
      refine XS.aload X186.here hx rfl (hb hby at_278) rfl rfl ?_
      show Steps pP.tables eE below (T186.setTop (mkF mM 280 Ls187 [(.ref b58)])) _
      refine XS.iload X186.here hx rfl (hb hby at_280) rfl ?_
      show Steps pP.tables eE below (T186.setTop (mkF mM 282 Ls187 [(.int p5), (.ref b58)])) _
      refine st189.trans ?_
      show Steps pP.tables eE below (T189.setTop (mkF mM 285 Ls187 [(.int (own_fin p5 (Int32.ofNat tt) []))])) _
      refine XS.istore X189.here hx rfl (hb hby at_285) rfl (l' := Ls190) rfl ?_
      show Steps pP.tables eE below (T189.setTop (mkF mM 287 Ls190 [])) _
      refine XS.iconst X189.here hx rfl (hb hby at_287) ?_
      show Steps pP.tables eE below (T189.setTop (mkF mM 288 Ls190 [(.int (0 : Int32))])) _
      refine XS.istore X189.here hx rfl (hb hby at_288) rfl (l' := Ls191) rfl ?_
      show Steps pP.tables eE below (T189.setTop (mkF mM 290 Ls191 [])) _
      refine XS.iload X189.here hx rfl (hb hby at_290) rfl ?_
      show Steps pP.tables eE below (T189.setTop (mkF mM 292 Ls191 [(.int (Int32.ofNat tt))])) _
      refine XS.istore X189.here hx rfl (hb hby at_292) rfl (l' := Ls192) rfl ?_
      show Steps pP.tables eE below (T189.setTop (mkF mM 294 Ls192 [])) _
      refine XS.aload X189.here hx rfl (hb hby at_294) rfl rfl ?_
      show Steps pP.tables eE below (T189.setTop (mkF mM 296 Ls192 [(.ref b5)])) _
      refine XS.iconst X189.here hx rfl (hb hby at_296) ?_
      show Steps pP.tables eE below (T189.setTop (mkF mM 297 Ls192 [(.int (0 : Int32)), (.ref b5)])) _
      refine XS.iload X189.here hx rfl (hb hby at_297) rfl ?_
      show Steps pP.tables eE below (T189.setTop (mkF mM 299 Ls192 [(.int (Int32.ofNat f)), (.int (0 : Int32)), (.ref b5)])) _
      refine XS.iload X189.here hx rfl (hb hby at_299) rfl ?_
      show Steps pP.tables eE below (T189.setTop (mkF mM 301 Ls192 [(.int (Int32.ofNat tt)), (.int (Int32.ofNat f)), (.int (0 : Int32)), (.ref b5)])) _
      refine XS.iload X189.here hx rfl (hb hby at_301) rfl ?_
      show Steps pP.tables eE below (T189.setTop (mkF mM 303 Ls192 [(.int d), (.int (Int32.ofNat tt)), (.int (Int32.ofNat f)), (.int (0 : Int32)), (.ref b5)])) _
      refine st194 _ ?_
      show Steps pP.tables eE below (T194.setTop (mkF mM 306 Ls192 [(.int (own_isd ([x0, x1, x2, x3, x4, x5, x6, x7, x8, x9].getD 0 0) (Int32.ofNat 0) d (Int32.ofNat f) (Int32.ofNat tt)))])) _
      rw [← hbd0]
      show Steps pP.tables eE below (T194.setTop (mkF mM 306 Ls192 [(.int bd0)])) _
      refine st196 _ ?_
      show Steps pP.tables eE below (T196.setTop (mkF mM 322 Ls202 [])) _
      refine XS.aload X196.here hx rfl (hb hby at_322) rfl rfl ?_
      show Steps pP.tables eE below (T196.setTop (mkF mM 324 Ls202 [(.ref b5)])) _
      refine XS.iconst X196.here hx rfl (hb hby at_324) ?_
      show Steps pP.tables eE below (T196.setTop (mkF mM 325 Ls202 [(.int (1 : Int32)), (.ref b5)])) _
      refine XS.iload X196.here hx rfl (hb hby at_325) rfl ?_
      show Steps pP.tables eE below (T196.setTop (mkF mM 327 Ls202 [(.int (Int32.ofNat f)), (.int (1 : Int32)), (.ref b5)])) _
      refine XS.iload X196.here hx rfl (hb hby at_327) rfl ?_
      show Steps pP.tables eE below (T196.setTop (mkF mM 329 Ls202 [(.int (Int32.ofNat tt)), (.int (Int32.ofNat f)), (.int (1 : Int32)), (.ref b5)])) _
      refine XS.iload X196.here hx rfl (hb hby at_329) rfl ?_
      show Steps pP.tables eE below (T196.setTop (mkF mM 331 Ls202 [(.int d), (.int (Int32.ofNat tt)), (.int (Int32.ofNat f)), (.int (1 : Int32)), (.ref b5)])) _
      refine st203 _ ?_
      show Steps pP.tables eE below (T203.setTop (mkF mM 334 Ls202 [(.int (own_isd ([x0, x1, x2, x3, x4, x5, x6, x7, x8, x9].getD 1 0) (Int32.ofNat 1) d (Int32.ofNat f) (Int32.ofNat tt)))])) _
      rw [← hbd1]
      show Steps pP.tables eE below (T203.setTop (mkF mM 334 Ls202 [(.int bd1)])) _
      refine st205 _ ?_
      show Steps pP.tables eE below (T205.setTop (mkF mM 350 Ls211 [])) _
      refine XS.aload X205.here hx rfl (hb hby at_350) rfl rfl ?_
      show Steps pP.tables eE below (T205.setTop (mkF mM 352 Ls211 [(.ref b5)])) _
      refine XS.iconst X205.here hx rfl (hb hby at_352) ?_
      show Steps pP.tables eE below (T205.setTop (mkF mM 353 Ls211 [(.int (2 : Int32)), (.ref b5)])) _
      refine XS.iload X205.here hx rfl (hb hby at_353) rfl ?_
      show Steps pP.tables eE below (T205.setTop (mkF mM 355 Ls211 [(.int (Int32.ofNat f)), (.int (2 : Int32)), (.ref b5)])) _
      refine XS.iload X205.here hx rfl (hb hby at_355) rfl ?_
      show Steps pP.tables eE below (T205.setTop (mkF mM 357 Ls211 [(.int (Int32.ofNat tt)), (.int (Int32.ofNat f)), (.int (2 : Int32)), (.ref b5)])) _
      refine XS.iload X205.here hx rfl (hb hby at_357) rfl ?_
      show Steps pP.tables eE below (T205.setTop (mkF mM 359 Ls211 [(.int d), (.int (Int32.ofNat tt)), (.int (Int32.ofNat f)), (.int (2 : Int32)), (.ref b5)])) _
      refine st212 _ ?_
      show Steps pP.tables eE below (T212.setTop (mkF mM 362 Ls211 [(.int (own_isd ([x0, x1, x2, x3, x4, x5, x6, x7, x8, x9].getD 2 0) (Int32.ofNat 2) d (Int32.ofNat f) (Int32.ofNat tt)))])) _
      rw [← hbd2]
      show Steps pP.tables eE below (T212.setTop (mkF mM 362 Ls211 [(.int bd2)])) _
      refine st214 _ ?_
      show Steps pP.tables eE below (T214.setTop (mkF mM 378 Ls220 [])) _
      refine XS.aload X214.here hx rfl (hb hby at_378) rfl rfl ?_
      show Steps pP.tables eE below (T214.setTop (mkF mM 380 Ls220 [(.ref b5)])) _
      refine XS.iconst X214.here hx rfl (hb hby at_380) ?_
      show Steps pP.tables eE below (T214.setTop (mkF mM 381 Ls220 [(.int (3 : Int32)), (.ref b5)])) _
      refine XS.iload X214.here hx rfl (hb hby at_381) rfl ?_
      show Steps pP.tables eE below (T214.setTop (mkF mM 383 Ls220 [(.int (Int32.ofNat f)), (.int (3 : Int32)), (.ref b5)])) _
      refine XS.iload X214.here hx rfl (hb hby at_383) rfl ?_
      show Steps pP.tables eE below (T214.setTop (mkF mM 385 Ls220 [(.int (Int32.ofNat tt)), (.int (Int32.ofNat f)), (.int (3 : Int32)), (.ref b5)])) _
      refine XS.iload X214.here hx rfl (hb hby at_385) rfl ?_
      show Steps pP.tables eE below (T214.setTop (mkF mM 387 Ls220 [(.int d), (.int (Int32.ofNat tt)), (.int (Int32.ofNat f)), (.int (3 : Int32)), (.ref b5)])) _
      refine st221 _ ?_
      show Steps pP.tables eE below (T221.setTop (mkF mM 390 Ls220 [(.int (own_isd ([x0, x1, x2, x3, x4, x5, x6, x7, x8, x9].getD 3 0) (Int32.ofNat 3) d (Int32.ofNat f) (Int32.ofNat tt)))])) _
      rw [← hbd3]
      show Steps pP.tables eE below (T221.setTop (mkF mM 390 Ls220 [(.int bd3)])) _
      refine st223 _ ?_
      show Steps pP.tables eE below (T223.setTop (mkF mM 406 Ls229 [])) _
      refine XS.aload X223.here hx rfl (hb hby at_406) rfl rfl ?_
      show Steps pP.tables eE below (T223.setTop (mkF mM 408 Ls229 [(.ref b5)])) _
      refine XS.iconst X223.here hx rfl (hb hby at_408) ?_
      show Steps pP.tables eE below (T223.setTop (mkF mM 409 Ls229 [(.int (4 : Int32)), (.ref b5)])) _
      refine XS.iload X223.here hx rfl (hb hby at_409) rfl ?_
      show Steps pP.tables eE below (T223.setTop (mkF mM 411 Ls229 [(.int (Int32.ofNat f)), (.int (4 : Int32)), (.ref b5)])) _
      refine XS.iload X223.here hx rfl (hb hby at_411) rfl ?_
      show Steps pP.tables eE below (T223.setTop (mkF mM 413 Ls229 [(.int (Int32.ofNat tt)), (.int (Int32.ofNat f)), (.int (4 : Int32)), (.ref b5)])) _
      refine XS.iload X223.here hx rfl (hb hby at_413) rfl ?_
      show Steps pP.tables eE below (T223.setTop (mkF mM 415 Ls229 [(.int d), (.int (Int32.ofNat tt)), (.int (Int32.ofNat f)), (.int (4 : Int32)), (.ref b5)])) _
      refine st230 _ ?_
      show Steps pP.tables eE below (T230.setTop (mkF mM 418 Ls229 [(.int (own_isd ([x0, x1, x2, x3, x4, x5, x6, x7, x8, x9].getD 4 0) (Int32.ofNat 4) d (Int32.ofNat f) (Int32.ofNat tt)))])) _
      rw [← hbd4]
      show Steps pP.tables eE below (T230.setTop (mkF mM 418 Ls229 [(.int bd4)])) _
      refine st232 _ ?_
      show Steps pP.tables eE below (T232.setTop (mkF mM 434 Ls238 [])) _
      refine XS.aload X232.here hx rfl (hb hby at_434) rfl rfl ?_
      show Steps pP.tables eE below (T232.setTop (mkF mM 436 Ls238 [(.ref b5)])) _
      refine XS.iconst X232.here hx rfl (hb hby at_436) ?_
      show Steps pP.tables eE below (T232.setTop (mkF mM 437 Ls238 [(.int (5 : Int32)), (.ref b5)])) _
      refine XS.iload X232.here hx rfl (hb hby at_437) rfl ?_
      show Steps pP.tables eE below (T232.setTop (mkF mM 439 Ls238 [(.int (Int32.ofNat f)), (.int (5 : Int32)), (.ref b5)])) _
      refine XS.iload X232.here hx rfl (hb hby at_439) rfl ?_
      show Steps pP.tables eE below (T232.setTop (mkF mM 441 Ls238 [(.int (Int32.ofNat tt)), (.int (Int32.ofNat f)), (.int (5 : Int32)), (.ref b5)])) _
      refine XS.iload X232.here hx rfl (hb hby at_441) rfl ?_
      show Steps pP.tables eE below (T232.setTop (mkF mM 443 Ls238 [(.int d), (.int (Int32.ofNat tt)), (.int (Int32.ofNat f)), (.int (5 : Int32)), (.ref b5)])) _
      refine st239 _ ?_
      show Steps pP.tables eE below (T239.setTop (mkF mM 446 Ls238 [(.int (own_isd ([x0, x1, x2, x3, x4, x5, x6, x7, x8, x9].getD 5 0) (Int32.ofNat 5) d (Int32.ofNat f) (Int32.ofNat tt)))])) _
      rw [← hbd5]
      show Steps pP.tables eE below (T239.setTop (mkF mM 446 Ls238 [(.int bd5)])) _
      refine st241 _ ?_
      show Steps pP.tables eE below (T241.setTop (mkF mM 462 Ls247 [])) _
      refine XS.aload X241.here hx rfl (hb hby at_462) rfl rfl ?_
      show Steps pP.tables eE below (T241.setTop (mkF mM 464 Ls247 [(.ref b5)])) _
      refine XS.bipush X241.here hx rfl (hb hby at_464) ?_
      show Steps pP.tables eE below (T241.setTop (mkF mM 466 Ls247 [(.int (6 : Int32)), (.ref b5)])) _
      refine XS.iload X241.here hx rfl (hb hby at_466) rfl ?_
      show Steps pP.tables eE below (T241.setTop (mkF mM 468 Ls247 [(.int (Int32.ofNat f)), (.int (6 : Int32)), (.ref b5)])) _
      refine XS.iload X241.here hx rfl (hb hby at_468) rfl ?_
      show Steps pP.tables eE below (T241.setTop (mkF mM 470 Ls247 [(.int (Int32.ofNat tt)), (.int (Int32.ofNat f)), (.int (6 : Int32)), (.ref b5)])) _
      refine XS.iload X241.here hx rfl (hb hby at_470) rfl ?_
      show Steps pP.tables eE below (T241.setTop (mkF mM 472 Ls247 [(.int d), (.int (Int32.ofNat tt)), (.int (Int32.ofNat f)), (.int (6 : Int32)), (.ref b5)])) _
      refine st248 _ ?_
      show Steps pP.tables eE below (T248.setTop (mkF mM 475 Ls247 [(.int (own_isd ([x0, x1, x2, x3, x4, x5, x6, x7, x8, x9].getD 6 0) (Int32.ofNat 6) d (Int32.ofNat f) (Int32.ofNat tt)))])) _
      rw [← hbd6]
      show Steps pP.tables eE below (T248.setTop (mkF mM 475 Ls247 [(.int bd6)])) _
      refine st250 _ ?_
      show Steps pP.tables eE below (T250.setTop (mkF mM 492 Ls256 [])) _
      refine XS.aload X250.here hx rfl (hb hby at_492) rfl rfl ?_
      show Steps pP.tables eE below (T250.setTop (mkF mM 494 Ls256 [(.ref b5)])) _
      refine XS.bipush X250.here hx rfl (hb hby at_494) ?_
      show Steps pP.tables eE below (T250.setTop (mkF mM 496 Ls256 [(.int (7 : Int32)), (.ref b5)])) _
      refine XS.iload X250.here hx rfl (hb hby at_496) rfl ?_
      show Steps pP.tables eE below (T250.setTop (mkF mM 498 Ls256 [(.int (Int32.ofNat f)), (.int (7 : Int32)), (.ref b5)])) _
      refine XS.iload X250.here hx rfl (hb hby at_498) rfl ?_
      show Steps pP.tables eE below (T250.setTop (mkF mM 500 Ls256 [(.int (Int32.ofNat tt)), (.int (Int32.ofNat f)), (.int (7 : Int32)), (.ref b5)])) _
      refine XS.iload X250.here hx rfl (hb hby at_500) rfl ?_
      show Steps pP.tables eE below (T250.setTop (mkF mM 502 Ls256 [(.int d), (.int (Int32.ofNat tt)), (.int (Int32.ofNat f)), (.int (7 : Int32)), (.ref b5)])) _
      refine st257 _ ?_
      show Steps pP.tables eE below (T257.setTop (mkF mM 505 Ls256 [(.int (own_isd ([x0, x1, x2, x3, x4, x5, x6, x7, x8, x9].getD 7 0) (Int32.ofNat 7) d (Int32.ofNat f) (Int32.ofNat tt)))])) _
      rw [← hbd7]
      show Steps pP.tables eE below (T257.setTop (mkF mM 505 Ls256 [(.int bd7)])) _
      refine st259 _ ?_
      show Steps pP.tables eE below (T259.setTop (mkF mM 522 Ls265 [])) _
      refine XS.aload X259.here hx rfl (hb hby at_522) rfl rfl ?_
      show Steps pP.tables eE below (T259.setTop (mkF mM 524 Ls265 [(.ref b5)])) _
      refine XS.bipush X259.here hx rfl (hb hby at_524) ?_
      show Steps pP.tables eE below (T259.setTop (mkF mM 526 Ls265 [(.int (8 : Int32)), (.ref b5)])) _
      refine XS.iload X259.here hx rfl (hb hby at_526) rfl ?_
      show Steps pP.tables eE below (T259.setTop (mkF mM 528 Ls265 [(.int (Int32.ofNat f)), (.int (8 : Int32)), (.ref b5)])) _
      refine XS.iload X259.here hx rfl (hb hby at_528) rfl ?_
      show Steps pP.tables eE below (T259.setTop (mkF mM 530 Ls265 [(.int (Int32.ofNat tt)), (.int (Int32.ofNat f)), (.int (8 : Int32)), (.ref b5)])) _
      refine XS.iload X259.here hx rfl (hb hby at_530) rfl ?_
      show Steps pP.tables eE below (T259.setTop (mkF mM 532 Ls265 [(.int d), (.int (Int32.ofNat tt)), (.int (Int32.ofNat f)), (.int (8 : Int32)), (.ref b5)])) _
      refine st266 _ ?_
      show Steps pP.tables eE below (T266.setTop (mkF mM 535 Ls265 [(.int (own_isd ([x0, x1, x2, x3, x4, x5, x6, x7, x8, x9].getD 8 0) (Int32.ofNat 8) d (Int32.ofNat f) (Int32.ofNat tt)))])) _
      rw [← hbd8]
      show Steps pP.tables eE below (T266.setTop (mkF mM 535 Ls265 [(.int bd8)])) _
      refine st268 _ ?_
      show Steps pP.tables eE below (T268.setTop (mkF mM 552 Ls274 [])) _
      refine XS.aload X268.here hx rfl (hb hby at_552) rfl rfl ?_
      show Steps pP.tables eE below (T268.setTop (mkF mM 554 Ls274 [(.ref b5)])) _
      refine XS.bipush X268.here hx rfl (hb hby at_554) ?_
      show Steps pP.tables eE below (T268.setTop (mkF mM 556 Ls274 [(.int (9 : Int32)), (.ref b5)])) _
      refine XS.iload X268.here hx rfl (hb hby at_556) rfl ?_
      show Steps pP.tables eE below (T268.setTop (mkF mM 558 Ls274 [(.int (Int32.ofNat f)), (.int (9 : Int32)), (.ref b5)])) _
      refine XS.iload X268.here hx rfl (hb hby at_558) rfl ?_
      show Steps pP.tables eE below (T268.setTop (mkF mM 560 Ls274 [(.int (Int32.ofNat tt)), (.int (Int32.ofNat f)), (.int (9 : Int32)), (.ref b5)])) _
      refine XS.iload X268.here hx rfl (hb hby at_560) rfl ?_
      show Steps pP.tables eE below (T268.setTop (mkF mM 562 Ls274 [(.int d), (.int (Int32.ofNat tt)), (.int (Int32.ofNat f)), (.int (9 : Int32)), (.ref b5)])) _
      refine st275 _ ?_
      show Steps pP.tables eE below (T275.setTop (mkF mM 565 Ls274 [(.int (own_isd ([x0, x1, x2, x3, x4, x5, x6, x7, x8, x9].getD 9 0) (Int32.ofNat 9) d (Int32.ofNat f) (Int32.ofNat tt)))])) _
      rw [← hbd9]
      show Steps pP.tables eE below (T275.setTop (mkF mM 565 Ls274 [(.int bd9)])) _
      refine st277 _ ?_
      show Steps pP.tables eE below (T277.setTop (mkF mM 582 Ls283 [])) _
      refine XS.iload X277.here hx rfl (hb hby at_582) rfl ?_
      show Steps pP.tables eE below (T277.setTop (mkF mM 584 Ls283 [(.int c276)])) _
      refine XS.iconst X277.here hx rfl (hb hby at_584) ?_
      show Steps pP.tables eE below (T277.setTop (mkF mM 585 Ls283 [(.int (1 : Int32)), (.int c276)])) _
      refine XS.iadd X277.here hx rfl (hb hby at_585) rfl ?_
      show Steps pP.tables eE below (T277.setTop (mkF mM 586 Ls283 [(.int (c276 + (1 : Int32)))])) _
      refine XS.istore X277.here hx rfl (hb hby at_586) rfl (l' := Ls284) rfl ?_
      show Steps pP.tables eE below (T277.setTop (mkF mM 588 Ls284 [])) _
      refine XS.iload X277.here hx rfl (hb hby at_588) rfl ?_
      show Steps pP.tables eE below (T277.setTop (mkF mM 590 Ls284 [(.int p4)])) _
      refine XS.iconst X277.here hx rfl (hb hby at_590) ?_
      show Steps pP.tables eE below (T277.setTop (mkF mM 591 Ls284 [(.int (1 : Int32)), (.int p4)])) _
      refine XS.icmpNo X277.here hx rfl (hb hby at_591) rfl (tlt (own_r0 hr064)).2.1 ?_
      show Steps pP.tables eE below (T277.setTop (mkF mM 594 Ls284 [])) _
      refine XS.iconst X277.here hx rfl (hb hby at_594) ?_
      show Steps pP.tables eE below (T277.setTop (mkF mM 595 Ls284 [(.int (0 : Int32))])) _
      refine XS.goto X277.here hx rfl (pc0 := 595) (pc' := 610) rfl (hb hby at_595) (by decide) (by decide) ?_
      show Steps pP.tables eE below (T277.setTop (mkF mM 610 Ls284 [(.int (0 : Int32))])) _
      refine XS.istore X277.here hx rfl (hb hby at_610) rfl (l' := Ls285) rfl ?_
      show Steps pP.tables eE below (T277.setTop (mkF mM 612 Ls285 [])) _
      refine XS.iload X277.here hx rfl (hb hby at_612) rfl ?_
      show Steps pP.tables eE below (T277.setTop (mkF mM 614 Ls285 [(.int p5)])) _
      refine XS.iconst X277.here hx rfl (hb hby at_614) ?_
      exact kg)
    by_cases hc286 : p5 < (1 : Int32)
    · let Ls288 : Array Slot := #[.val (.long p0), .second, .val (.int p1), .val (.int p2), .val (.int p3), .val (.int p4), .val (.int p5), .val (.int d), .val (.ref b5), .val (.ref b48), .val (.int (Int32.ofNat f)), .val (.int (Int32.ofNat tt)), .val (.ref b58), .val (.int (own_fin p5 (Int32.ofNat tt) [])), .val (.int c276), .val (.int r276), .val (.int (c276 + (1 : Int32))), .val (.int (0 : Int32)), .val (.int (Int32.ofNat tt))]
      obtain ⟨fs, hr, hrun, hended, hW, hsame⟩ := X277.leave (v := some (.int (1 : Int32))) (fun h => by rw [Bd.returns] at h; cases h)
      refine ⟨_, _, pre287 _ ?_, hrun, hended, _, _, rfl, ?_, ⟨_, rfl⟩, hW, hsame.mono (by decide) (by decide)⟩
      · refine XS.icmpYes X277.here hx rfl (pc0 := 615) (pc' := 630) rfl (hb hby at_615) rfl (tlt hc286).1 (by decide) (by decide) ?_
        show Steps pP.tables eE below (T277.setTop (mkF mM 630 Ls285 [])) _
        refine XS.iload X277.here hx rfl (hb hby at_630) rfl ?_
        show Steps pP.tables eE below (T277.setTop (mkF mM 632 Ls285 [(.int (Int32.ofNat tt))])) _
        refine XS.istore X277.here hx rfl (hb hby at_632) rfl (l' := Ls288) rfl ?_
        show Steps pP.tables eE below (T277.setTop (mkF mM 634 Ls288 [])) _
        refine XS.iload X277.here hx rfl (hb hby at_634) rfl ?_
        show Steps pP.tables eE below (T277.setTop (mkF mM 636 Ls288 [(.int (own_fin p5 (Int32.ofNat tt) []))])) _
        refine XS.iload X277.here hx rfl (hb hby at_636) rfl ?_
        show Steps pP.tables eE below (T277.setTop (mkF mM 638 Ls288 [(.int (Int32.ofNat tt)), (.int (own_fin p5 (Int32.ofNat tt) []))])) _
        refine XS.icmpNo X277.here hx rfl (hb hby at_638) rfl (teq (own_fin_nil _ _)).2 ?_
        show Steps pP.tables eE below (T277.setTop (mkF mM 641 Ls288 [])) _
        refine XS.iconst X277.here hx rfl (hb hby at_641) ?_
        show Steps pP.tables eE below (T277.setTop (mkF mM 642 Ls288 [(.int (1 : Int32))])) _
        refine XS.goto X277.here hx rfl (pc0 := 642) (pc' := 646) rfl (hb hby at_642) (by decide) (by decide) ?_
        show Steps pP.tables eE below (T277.setTop (mkF mM 646 Ls288 [(.int (1 : Int32))])) _
        exact retN X277 hx (t := .boolean) Bd.returns (by simp) (hb hby at_646) hr
      · show Q_law Z p0 p1 p2 p3 p4 p5 ne kne zc fm h0 n0 _ T277.heap _
        rw [e277]
        exact ⟨rfl, N62, K63⟩
    · let Ls290 : Array Slot := #[.val (.long p0), .second, .val (.int p1), .val (.int p2), .val (.int p3), .val (.int p4), .val (.int p5), .val (.int d), .val (.ref b5), .val (.ref b48), .val (.int (Int32.ofNat f)), .val (.int (Int32.ofNat tt)), .val (.ref b58), .val (.int (own_fin p5 (Int32.ofNat tt) [])), .val (.int c276), .val (.int r276), .val (.int (c276 + (1 : Int32))), .val (.int (0 : Int32)), .val (.int (Int32.ofNat tt))]
      obtain ⟨fs, hr, hrun, hended, hW, hsame⟩ := X277.leave (v := some (.int (1 : Int32))) (fun h => by rw [Bd.returns] at h; cases h)
      refine ⟨_, _, pre287 _ ?_, hrun, hended, _, _, rfl, ?_, ⟨_, rfl⟩, hW, hsame.mono (by decide) (by decide)⟩
      · refine XS.icmpNo X277.here hx rfl (hb hby at_615) rfl (flt hc286).1 ?_
        show Steps pP.tables eE below (T277.setTop (mkF mM 618 Ls285 [])) _
        refine XS.iload X277.here hx rfl (hb hby at_618) rfl ?_
        show Steps pP.tables eE below (T277.setTop (mkF mM 620 Ls285 [(.int p5)])) _
        refine XS.iload X277.here hx rfl (hb hby at_620) rfl ?_
        show Steps pP.tables eE below (T277.setTop (mkF mM 622 Ls285 [(.int (0 : Int32)), (.int p5)])) _
        refine XS.icmpYes X277.here hx rfl (pc0 := 622) (pc' := 630) rfl (hb hby at_622) rfl (tlt (own_k1 hc286)).2.2.1 (by decide) (by decide) ?_
        show Steps pP.tables eE below (T277.setTop (mkF mM 630 Ls285 [])) _
        refine XS.iload X277.here hx rfl (hb hby at_630) rfl ?_
        show Steps pP.tables eE below (T277.setTop (mkF mM 632 Ls285 [(.int (Int32.ofNat tt))])) _
        refine XS.istore X277.here hx rfl (hb hby at_632) rfl (l' := Ls290) rfl ?_
        show Steps pP.tables eE below (T277.setTop (mkF mM 634 Ls290 [])) _
        refine XS.iload X277.here hx rfl (hb hby at_634) rfl ?_
        show Steps pP.tables eE below (T277.setTop (mkF mM 636 Ls290 [(.int (own_fin p5 (Int32.ofNat tt) []))])) _
        refine XS.iload X277.here hx rfl (hb hby at_636) rfl ?_
        show Steps pP.tables eE below (T277.setTop (mkF mM 638 Ls290 [(.int (Int32.ofNat tt)), (.int (own_fin p5 (Int32.ofNat tt) []))])) _
        refine XS.icmpNo X277.here hx rfl (hb hby at_638) rfl (teq (own_fin_nil _ _)).2 ?_
        show Steps pP.tables eE below (T277.setTop (mkF mM 641 Ls290 [])) _
        refine XS.iconst X277.here hx rfl (hb hby at_641) ?_
        show Steps pP.tables eE below (T277.setTop (mkF mM 642 Ls290 [(.int (1 : Int32))])) _
        refine XS.goto X277.here hx rfl (pc0 := 642) (pc' := 646) rfl (hb hby at_642) (by decide) (by decide) ?_
        show Steps pP.tables eE below (T277.setTop (mkF mM 646 Ls290 [(.int (1 : Int32))])) _
        exact retN X277 hx (t := .boolean) Bd.returns (by simp) (hb hby at_646) hr
      · show Q_law Z p0 p1 p2 p3 p4 p5 ne kne zc fm h0 n0 _ T277.heap _
        rw [e277]
        exact ⟨rfl, N62, K63⟩
set_option maxRecDepth 65536 in
set_option maxHeartbeats 40000000 in
theorem comes_1 {Post : Tables → Env → Array Value → State → Outcome → State → Prop} (hpost : ∀ tb e args s v u, (limb_1_1.after args s (.returned v) u = true ∧ limb_1_2.after args s (.returned v) u = true ∧ True) → FrameEnd s (.returned v) u (Jvm.fieldLocs frame_1_writes args s ++ Jvm.arrayLocs frame_1_arrays args s ++ Jvm.staticLocs frame_1_statics s) 24 192 → Post tb e args s (.returned v) u) :
    ArmFor flags0 classFile x code maxLocals ret World_1 tables_1 room_1 Calls_1 rest_1 Pre_1 Post := by
  intro l hfl _ _ p e ha hc hk s m args below hf hA hF happ hP
  obtain ⟨hcalls, hrest, hpre⟩ := hP
  obtain ⟨-, -, -, hnamed, -, -, -, hat⟩ := (Spec.applies_iff hf).mp happ
  obtain ⟨hg, hn⟩ := and_e (Cond.before_iff.mp (show (Jvm.Cond.and given_1 narrow_1).before args s = true from hpre))
  obtain ⟨hcnt, hg0⟩ := and_e hg
  obtain ⟨ga0, hg1⟩ := and_e hg0
  obtain ⟨ga1, hg2⟩ := and_e hg1
  obtain ⟨ga2, hg3⟩ := and_e hg2
  obtain ⟨ga3, hg4⟩ := and_e hg3
  obtain ⟨ga4, hg5⟩ := and_e hg4
  have ga5 := hg5
  obtain ⟨w0, w1, w2, w3, w4, w5, rfl⟩ : ∃ w0 w1 w2 w3 w4 w5 : Value, args = #[w0, w1, w2, w3, w4, w5] := by
    have hs : args.size = 6 := by simpa [Cond.value, given_1] using hcnt
    obtain ⟨L⟩ := args
    match L, hs with
    | [w0, w1, w2, w3, w4, w5], _ => exact ⟨w0, w1, w2, w3, w4, w5, rfl⟩
  have hw := fun d (hd : d ∈ tables_1) => atoms_spec (ws := Jvm.Cond.code x code maxLocals ret :: tables_1) hat d (List.mem_cons_of_mem _ hd)
  have hfit : Fit s := fun {y c} hc i hi => by
    obtain ⟨ha, rfl⟩ := Array.getElem?_eq_some_iff.mp hc
    have q := List.all_eq_true.mp ((Array.all_eq_true_iff_forall_mem.mp hF) _ (Array.getElem_mem ha)) i (List.mem_range.mpr hi)
    simpa [Array.getElem?_eq_getElem hi] using q
  obtain ⟨i0, ei0⟩ := isL_v ga0
  obtain rfl : w0 = (.long i0) := Option.some.inj ei0
  obtain ⟨i1, ei1⟩ := is_v ga1
  obtain rfl : w1 = (.int i1) := Option.some.inj ei1
  obtain ⟨i2, ei2⟩ := is_v ga2
  obtain rfl : w2 = (.int i2) := Option.some.inj ei2
  obtain ⟨i3, ei3⟩ := is_v ga3
  obtain rfl : w3 = (.int i3) := Option.some.inj ei3
  obtain ⟨i4, ei4⟩ := is_v ga4
  obtain rfl : w4 = (.int i4) := Option.some.inj ei4
  obtain ⟨i5, ei5⟩ := is_v ga5
  obtain rfl : w5 = (.int i5) := Option.some.inj ei5
  obtain ⟨hsets, hown0⟩ := atoms_of _ (rest_1_c_eq ▸ (show rest_1_c.before _ s = true from hrest))
  have hr0 := Cond.before_iff.mp hown0
  have nzc := not_v (Cond.before_iff.mp (hsets _ (List.mem_of_getElem? (i := 2) rfl)))
  obtain ⟨zc, ezc⟩ := is_v (Cond.before_iff.mp (hsets _ (List.mem_of_getElem? (i := 1) rfl)))
  have Szc : Sta s s.heap "java/lang/String" "COMPACT_STRINGS" "Z" (.int zc) := Sta.start ezc (Or.inl (hsets _ (List.mem_of_getElem? (i := 0) rfl)))
  obtain ⟨fm, efm, rfm⟩ := isR_v (Cond.before_iff.mp (hsets _ (List.mem_of_getElem? (i := 8) rfl)))
  have Sfm : Sta s s.heap "jdk/internal/util/Preconditions" "SIOOBE_FORMATTER" "Ljava/util/function/BiFunction;" fm := Sta.start efm (Or.inl (hsets _ (List.mem_of_getElem? (i := 7) rfl)))
  have hzc : ¬ (zc = (0 : Int32)) := gotF (Cond.eq_ints ezc (Term.int_eval (0))) nzc
  obtain ⟨hn1, hn23⟩ := and_e hn
  obtain ⟨hn2, hn3⟩ := and_e hn23
  obtain ⟨ne, ene⟩ := arr_v hn1
  have Sne : Sta s s.heap "com/example/resultwire/resultwire/er7/PieceIndex" "NO_ENDS" "[I" (.ref ne) := Sta.start ene (Or.inr ⟨(w_38 hw), (w_43 hw)⟩)
  obtain ⟨cne, Ane⟩ := Arr.start ene hn1
  have Lne : cne.slots.size < 2 ^ 31 ∧ cne.slots.size.toInt32 = 0 := own_len0 ene Ane hn3
  have Vne : Arv s s.heap ne cne.cls .int (0 : Int32) [] (.int (0 : Int32)) := Arv.start hfit Ane Lne.1 Lne.2 (by decide) rfl trivial
  obtain ⟨n, o, h1, h2, h3, _, L, rfl, ⟨rfl, N, _⟩, hq⟩ := rm_law l s _ hw tables_1 i0 i1 i2 i3 i4 i5 ne cne.cls zc fm s.heap s.heap.size (Old.start s) Sne Vne Szc hzc Sfm rfm p e ha hc hk s m _ below hf ((Spec.applies_iff_loose hf).mp happ).1 ⟨rfl, State.Warmed39.refl s, rfl⟩ trivial
  refine ⟨n, _, h1, h2, h3, hpost _ _ _ _ _ _ ⟨Cond.after_iff.mpr rfl, Cond.after_iff.mpr (eq_i res_at (Term.int_eval (1)) rfl), trivial⟩ ⟨hq.1, hq.2.1, (hq.2.2.sift fun y hy => Or.inr (N y hy)).mono (by decide) (by decide)⟩⟩
theorem main_1_1 : Claimed_1_1 := comes_1 fun _ _ _ _ _ _ h hF => ⟨h.1, hF⟩
theorem main_1_2 : Claimed_1_2 := comes_1 fun _ _ _ _ _ _ h hF => ⟨h.2.1, hF⟩
end Jvm.Pilot.@@N@@
namespace Jvm.Pilot.@@N@@
open Jvm Jvm.ClassFile Sem Op Lib Jvm.Free Jvm.Stand Jvm.Pilot.@@N@@.Jvm.D
/-! MADE BY PROGRAM (witnessworld.py) out of the Statement's table words and the real class files: 24 classes; the members and pool entries that the words name. The judged class is class 1, her method 1. -/
namespace start1
open Jvm.ClassFile
def u (s : String) : CpInfo := .utf8 (stringToUtf16 s)
/-- a pool by its gaps: so many unusable entries, then the entry; so many at the end -/
def gap : Nat → List CpInfo → List CpInfo
  | 0, r => r
  | n + 1, r => .unusable :: gap n r
def poolList (es : List (Nat × CpInfo)) (last : Nat) : List CpInfo := es.foldr (fun e r => gap e.1 (e.2 :: r)) (gap last [])
def pool (es : List (Nat × CpInfo)) (last : Nat) : Array CpInfo := ⟨poolList es last⟩
def fileOf (pool : Array CpInfo) (this : Nat) (attrs : Array Attribute := #[]) (ms : Array MethodInfo := #[]) (fl : Nat := 33) (sup : Nat := 0) (ifs : Array Nat := #[]) (fds : Array FieldInfo := #[]) : ClassFile where
  minorVersion := 0
  majorVersion := 65
  constantPool := pool
  accessFlags := fl
  thisClass := this
  superClass := sup
  interfaces := ifs
  fields := fds
  methods := ms
  attributes := attrs
def plain (name : String) (sup : Option ClassId) : Class where
  name := name
  kind := .ordinary
  loader := none
  accessFlags := 33
  super := sup
  interfaces := #[]
  cf := none
  fields := #[]
  methods := #[]
  instanceTypes := #[]
  staticTypes := #[]
  resolved := #[]
  callSites := []
  init := .initialized
  statics := none
  mirror := none

def pool0 : Array CpInfo := pool [(5, u "<init>"), (0, u "()V"), (1, .class_ 10), (1, u "java/lang/Object")] 113

def k0c0 : Code := { maxStack := 0, maxLocals := 1, code := object_method_1_code, exceptionTable := #[], attributes := #[] }
def k0m0 : Method := { name := "<init>", desc := "()V", sig := { parameters := [], returnType := none }, accessFlags := 1, code := some k0c0 }
/-- java/lang/Object -/
def k0 : Class := { plain "java/lang/Object" none with
  accessFlags := 33
  interfaces := #[]
  cf := some (fileOf pool0 8 #[] #[{ accessFlags := 1, nameIndex := 5, descriptorIndex := 6, attributes := #[] }] 33 0 #[] #[])
  fields := #[]
  methods := #[k0m0]
  instanceTypes := #[]
  staticTypes := #[]
  resolved := Array.replicate 124 none
  statics := none }

def pool1 : Array CpInfo := pool [(2, .class_ 4), (1, u "java/lang/Object"), (0, u "<init>"), (0, u "()V"), (0, .long 255), (1, .methodref 10 11), (0, .class_ 12), (0, .nameAndType 13 14), (0, u "com/example/resultwire/resultwire/er7/PieceIndexEndPinLaw"), (0, u "ch"), (0, u "(JIII)C"), (0, .class_ 16), (0, u "java/lang/String"), (0, .methodref 15 18), (0, .nameAndType 5 19), (0, u "([C)V"), (0, .integer 2147483647), (0, .class_ 22), (0, u "com/example/resultwire/resultwire/er7/PieceIndex"), (0, .methodref 21 24), (0, .nameAndType 5 25), (0, u "(Ljava/lang/String;III)V"), (0, .methodref 21 27), (0, .nameAndType 28 29), (0, u "reach"), (0, u "(I)Lcom/example/resultwire/resultwire/er7/PieceIndex;"), (0, .methodref 21 31), (0, .nameAndType 32 33), (0, u "end"), (0, u "(I)I"), (0, .methodref 10 35), (0, .nameAndType 36 37), (0, u "isD"), (0, u "([CIIII)Z"), (0, .methodref 39 40), (0, .class_ 41), (0, .nameAndType 42 43), (0, u "java/lang/Math"), (0, u "max"), (0, u "(II)I"), (0, .methodref 39 45), (0, .nameAndType 46 43), (0, u "min"), (2, u "law"), (0, u "(JIIIII)Z")] 5

def k1m0 : Method := { name := "<init>", desc := "()V", sig := { parameters := [], returnType := none }, accessFlags := 1, code := none }
def k1c1 : Code := { maxStack := 7, maxLocals := 19, code := code, exceptionTable := #[], attributes := #[] }
def k1m1 : Method := { name := "law", desc := "(JIIIII)Z", sig := { parameters := [.long, .int, .int, .int, .int, .int], returnType := some .boolean }, accessFlags := 9, code := some k1c1 }
def k1c2 : Code := { maxStack := 3, maxLocals := 5, code := method_3_code, exceptionTable := #[], attributes := #[] }
def k1m2 : Method := { name := "ch", desc := "(JIII)C", sig := { parameters := [.long, .int, .int, .int], returnType := some .char }, accessFlags := 10, code := some k1c2 }
def k1c3 : Code := { maxStack := 2, maxLocals := 5, code := method_4_code, exceptionTable := #[], attributes := #[] }
def k1m3 : Method := { name := "isD", desc := "([CIIII)Z", sig := { parameters := [(.array .char), .int, .int, .int, .int], returnType := some .boolean }, accessFlags := 10, code := some k1c3 }
/-- com/example/resultwire/resultwire/er7/PieceIndexEndPinLaw -/
def k1 : Class := { plain "com/example/resultwire/resultwire/er7/PieceIndexEndPinLaw" (some 0) with
  accessFlags := 49
  interfaces := #[]
  cf := some (fileOf pool1 10 #[] #[{ accessFlags := 1, nameIndex := 5, descriptorIndex := 6, attributes := #[] }, { accessFlags := 9, nameIndex := 49, descriptorIndex := 50, attributes := #[] }, { accessFlags := 10, nameIndex := 13, descriptorIndex := 14, attributes := #[] }, { accessFlags := 10, nameIndex := 36, descriptorIndex := 37, attributes := #[] }] 49 2 #[] #[])
  fields := #[]
  methods := #[k1m0, k1m1, k1m2, k1m3]
  instanceTypes := #[]
  staticTypes := #[]
  resolved := Array.replicate 56 none
  statics := none }

def pool2 : Array CpInfo := pool [(1, .class_ 2), (0, u "java/io/Serializable"), (0, .class_ 4), (0, u "java/lang/Object")] 2

/-- java/io/Serializable -/
def k2 : Class := { plain "java/io/Serializable" (some 0) with
  accessFlags := 1537
  interfaces := #[]
  cf := some (fileOf pool2 1 #[] #[] 1537 3 #[] #[])
  fields := #[]
  methods := #[]
  instanceTypes := #[]
  staticTypes := #[]
  resolved := Array.replicate 7 none
  statics := none }

def pool3 : Array CpInfo := pool [(1, .class_ 2), (0, u "java/lang/Comparable"), (0, .class_ 4), (0, u "java/lang/Object")] 7

/-- java/lang/Comparable -/
def k3 : Class := { plain "java/lang/Comparable" (some 0) with
  accessFlags := 1537
  interfaces := #[]
  cf := some (fileOf pool3 1 #[] #[] 1537 3 #[] #[])
  fields := #[]
  methods := #[]
  instanceTypes := #[]
  staticTypes := #[]
  resolved := Array.replicate 12 none
  statics := none }

def pool4 : Array CpInfo := pool [(2, .class_ 4), (1, u "java/lang/CharSequence"), (42, .class_ 48), (0, u "java/lang/CharSequence$1CodePointIterator"), (10, .class_ 60), (0, u "java/lang/CharSequence$1CharIterator"), (5, .class_ 67), (0, u "java/lang/Object")] 63

/-- java/lang/CharSequence -/
def k4 : Class := { plain "java/lang/CharSequence" (some 0) with
  accessFlags := 1537
  interfaces := #[]
  cf := some (fileOf pool4 2 #[.nestMembers #[47, 59]] #[] 1537 66 #[] #[])
  fields := #[]
  methods := #[]
  instanceTypes := #[]
  staticTypes := #[]
  resolved := Array.replicate 131 none
  statics := none }

def pool5 : Array CpInfo := pool [(1, .class_ 2), (0, u "java/lang/constant/Constable"), (0, .class_ 4), (0, u "java/lang/Object")] 6

/-- java/lang/constant/Constable -/
def k5 : Class := { plain "java/lang/constant/Constable" (some 0) with
  accessFlags := 1537
  interfaces := #[]
  cf := some (fileOf pool5 1 #[] #[] 1537 3 #[] #[])
  fields := #[]
  methods := #[]
  instanceTypes := #[]
  staticTypes := #[]
  resolved := Array.replicate 11 none
  statics := none }

def pool6 : Array CpInfo := pool [(1, .class_ 2), (0, u "java/lang/constant/ConstantDesc"), (0, .class_ 4), (0, u "java/lang/Object")] 32

/-- java/lang/constant/ConstantDesc -/
def k6 : Class := { plain "java/lang/constant/ConstantDesc" (some 0) with
  accessFlags := 1537
  interfaces := #[]
  cf := some (fileOf pool6 1 #[] #[] 1537 3 #[] #[])
  fields := #[]
  methods := #[]
  instanceTypes := #[]
  staticTypes := #[]
  resolved := Array.replicate 37 none
  statics := none }

def pool7 : Array CpInfo := pool [(1, .methodref 2 3), (0, .class_ 4), (0, .nameAndType 5 6), (0, u "java/lang/Object"), (0, u "<init>"), (0, u "()V"), (2, .fieldref 10 11), (0, .class_ 12), (0, .nameAndType 13 14), (0, u "java/lang/String"), (0, u "value"), (0, u "[B"), (0, .fieldref 10 16), (0, .nameAndType 17 18), (0, u "coder"), (0, u "B"), (2, u "hash"), (0, u "I"), (2, u "hashIsZero"), (0, u "Z"), (0, .methodref 10 28), (0, .nameAndType 5 29), (0, u "([CIILjava/lang/Void;)V"), (8, .fieldref 10 39), (0, .nameAndType 40 26), (0, u "COMPACT_STRINGS"), (1, .class_ 44), (1, u "java/lang/StringUTF16"), (0, u "compress"), (1, .methodref 42 48), (0, .nameAndType 49 50), (0, u "coderFromArrayLen"), (0, u "([BI)B"), (56, .class_ 109), (1, u "java/lang/StringLatin1"), (32, u "()Z"), (34, .methodref 42 178), (0, .nameAndType 45 179), (0, u "([CII)[B"), (154, u "()I"), (0, .methodref 10 336), (0, .nameAndType 17 337), (0, u "()B"), (25, u "([BI)C"), (27, u "(II)V"), (35, u "(I)C"), (64, .methodref 10 493), (0, .nameAndType 494 142), (0, u "isLatin1"), (0, .methodref 107 496), (0, .nameAndType 497 363), (0, u "charAt"), (3, u "checkIndex"), (3, .methodref 10 506), (0, .nameAndType 507 334), (0, u "length"), (67, .class_ 576), (0, u "java/lang/CharSequence"), (22, u "CASE_INSENSITIVE_ORDER"), (0, u "Ljava/util/Comparator;"), (34, u "indexOf"), (0, u "(II)I"), (0, .methodref 107 638), (0, .nameAndType 635 639), (0, u "([BIII)I"), (370, u "([C)V"), (42, .fieldref 1054 1055), (0, .class_ 1056), (0, .nameAndType 1057 1058), (0, u "jdk/internal/util/Preconditions"), (0, u "SIOOBE_FORMATTER"), (0, u "Ljava/util/function/BiFunction;"), (0, .methodref 1054 1060), (0, .nameAndType 501 1061), (0, u "(IILjava/util/function/BiFunction;)I"), (39, u "serialPersistentFields"), (0, u "[Ljava/io/ObjectStreamField;"), (0, .class_ 1104), (0, u "java/lang/String$CaseInsensitiveComparator"), (1, .class_ 1107), (0, u "java/io/Serializable"), (0, .class_ 1109), (0, u "java/lang/Comparable"), (0, .class_ 1111), (0, u "java/lang/constant/Constable"), (0, .class_ 1113), (0, u "java/lang/constant/ConstantDesc"), (2, u "serialVersionUID"), (0, u "J"), (3, u "REPL"), (0, u "C"), (2, u "LATIN1"), (1, u "UTF16")] 323

def k7m0 : Method := { name := "<init>", desc := "()V", sig := { parameters := [], returnType := none }, accessFlags := 1, code := none }
def k7c1 : Code := { maxStack := 5, maxLocals := 2, code := jdk_42_method_3_code, exceptionTable := #[], attributes := #[] }
def k7m1 : Method := { name := "<init>", desc := "([C)V", sig := { parameters := [(.array .char)], returnType := none }, accessFlags := 1, code := some k7c1 }
def k7c2 : Code := { maxStack := 2, maxLocals := 1, code := jdk_42_method_54_code, exceptionTable := #[], attributes := #[] }
def k7m2 : Method := { name := "length", desc := "()I", sig := { parameters := [], returnType := some .int }, accessFlags := 1, code := some k7c2 }
def k7c3 : Code := { maxStack := 2, maxLocals := 2, code := jdk_42_method_56_code, exceptionTable := #[], attributes := #[] }
def k7m3 : Method := { name := "charAt", desc := "(I)C", sig := { parameters := [.int], returnType := some .char }, accessFlags := 1, code := some k7c3 }
def k7c4 : Code := { maxStack := 4, maxLocals := 3, code := jdk_42_method_80_code, exceptionTable := #[], attributes := #[] }
def k7m4 : Method := { name := "indexOf", desc := "(II)I", sig := { parameters := [.int, .int], returnType := some .int }, accessFlags := 1, code := some k7c4 }
def k7c5 : Code := { maxStack := 4, maxLocals := 6, code := jdk_42_method_149_code, exceptionTable := #[], attributes := #[] }
def k7m5 : Method := { name := "<init>", desc := "([CIILjava/lang/Void;)V", sig := { parameters := [(.array .char), .int, .int, (.object "java/lang/Void")], returnType := none }, accessFlags := 2, code := some k7c5 }
def k7c6 : Code := { maxStack := 1, maxLocals := 1, code := jdk_42_method_152_code, exceptionTable := #[], attributes := #[] }
def k7m6 : Method := { name := "coder", desc := "()B", sig := { parameters := [], returnType := some .byte }, accessFlags := 0, code := some k7c6 }
def k7c7 : Code := { maxStack := 1, maxLocals := 1, code := jdk_42_method_154_code, exceptionTable := #[], attributes := #[] }
def k7m7 : Method := { name := "isLatin1", desc := "()Z", sig := { parameters := [], returnType := some .boolean }, accessFlags := 0, code := some k7c7 }
def k7c8 : Code := { maxStack := 3, maxLocals := 2, code := jdk_42_method_155_code, exceptionTable := #[], attributes := #[] }
def k7m8 : Method := { name := "checkIndex", desc := "(II)V", sig := { parameters := [.int, .int], returnType := none }, accessFlags := 8, code := some k7c8 }
/-- java/lang/String -/
def k7 : Class := { plain "java/lang/String" (some 0) with
  accessFlags := 49
  interfaces := #[2, 3, 4, 5, 6]
  cf := some (fileOf pool7 10 #[.nestMembers #[1103]] #[{ accessFlags := 1, nameIndex := 5, descriptorIndex := 6, attributes := #[] }, { accessFlags := 1, nameIndex := 5, descriptorIndex := 1010, attributes := #[] }, { accessFlags := 1, nameIndex := 507, descriptorIndex := 334, attributes := #[] }, { accessFlags := 1, nameIndex := 497, descriptorIndex := 427, attributes := #[] }, { accessFlags := 1, nameIndex := 635, descriptorIndex := 636, attributes := #[] }, { accessFlags := 2, nameIndex := 5, descriptorIndex := 29, attributes := #[] }, { accessFlags := 0, nameIndex := 17, descriptorIndex := 337, attributes := #[] }, { accessFlags := 0, nameIndex := 494, descriptorIndex := 142, attributes := #[] }, { accessFlags := 8, nameIndex := 501, descriptorIndex := 391, attributes := #[] }] 49 2 #[1106, 1108, 575, 1110, 1112] #[{ accessFlags := 18, nameIndex := 13, descriptorIndex := 14, attributes := #[] }, { accessFlags := 18, nameIndex := 17, descriptorIndex := 18, attributes := #[] }, { accessFlags := 2, nameIndex := 21, descriptorIndex := 22, attributes := #[] }, { accessFlags := 2, nameIndex := 25, descriptorIndex := 26, attributes := #[] }, { accessFlags := 26, nameIndex := 1116, descriptorIndex := 1117, attributes := #[] }, { accessFlags := 24, nameIndex := 40, descriptorIndex := 26, attributes := #[] }, { accessFlags := 26, nameIndex := 1101, descriptorIndex := 1102, attributes := #[] }, { accessFlags := 26, nameIndex := 1121, descriptorIndex := 1122, attributes := #[] }, { accessFlags := 25, nameIndex := 599, descriptorIndex := 600, attributes := #[] }, { accessFlags := 24, nameIndex := 1125, descriptorIndex := 18, attributes := #[] }, { accessFlags := 24, nameIndex := 1127, descriptorIndex := 18, attributes := #[] }])
  fields := #[{ name := "value", type := (.array .byte), accessFlags := 18, slot := 0, constantValue := 0 }, { name := "coder", type := .byte, accessFlags := 18, slot := 1, constantValue := 0 }, { name := "hash", type := .int, accessFlags := 2, slot := 2, constantValue := 0 }, { name := "hashIsZero", type := .boolean, accessFlags := 2, slot := 3, constantValue := 0 }, { name := "serialVersionUID", type := .long, accessFlags := 26, slot := 0, constantValue := 0 }, { name := "COMPACT_STRINGS", type := .boolean, accessFlags := 24, slot := 1, constantValue := 0 }, { name := "serialPersistentFields", type := (.array (.object "java/io/ObjectStreamField")), accessFlags := 26, slot := 2, constantValue := 0 }, { name := "REPL", type := .char, accessFlags := 26, slot := 3, constantValue := 0 }, { name := "CASE_INSENSITIVE_ORDER", type := (.object "java/util/Comparator"), accessFlags := 25, slot := 4, constantValue := 0 }, { name := "LATIN1", type := .byte, accessFlags := 24, slot := 5, constantValue := 0 }, { name := "UTF16", type := .byte, accessFlags := 24, slot := 6, constantValue := 0 }]
  methods := #[k7m0, k7m1, k7m2, k7m3, k7m4, k7m5, k7m6, k7m7, k7m8]
  instanceTypes := #[(.array .byte), .byte, .int, .boolean]
  staticTypes := #[.long, .boolean, (.array (.object "java/io/ObjectStreamField")), .char, (.object "java/util/Comparator"), .byte, .byte]
  resolved := Array.replicate 1451 none
  statics := some 0 }

def pool8 : Array CpInfo := pool [(6, .class_ 8), (1, u "java/lang/Object"), (0, u "<init>"), (0, u "()V"), (1, .class_ 14), (1, u "java/lang/StringUTF16"), (31, u "$assertionsDisabled"), (0, u "Z"), (13, u "HI_BYTE_SHIFT"), (0, u "I"), (2, u "LO_BYTE_SHIFT"), (49, .methodref 12 116), (0, .nameAndType 117 118), (0, u "compress"), (0, u "([CI[BII)I"), (3, u "([CII)[B"), (138, u "coderFromArrayLen"), (0, u "([BI)B"), (106, .class_ 371), (1, u "java/lang/StringUTF16$LinesSpliterator"), (58, u "MAX_LENGTH"), (196, .class_ 628), (0, u "java/lang/StringUTF16$CodePointsSpliterator"), (0, .class_ 630), (0, u "java/lang/StringUTF16$CharsSpliterator")] 4

def k8m0 : Method := { name := "<init>", desc := "()V", sig := { parameters := [], returnType := none }, accessFlags := 0, code := none }
def k8c1 : Code := { maxStack := 2, maxLocals := 2, code := jdk_52_method_15_code, exceptionTable := #[], attributes := #[] }
def k8m1 : Method := { name := "coderFromArrayLen", desc := "([BI)B", sig := { parameters := [(.array .byte), .int], returnType := some .byte }, accessFlags := 8, code := some k8c1 }
def k8c2 : Code := { maxStack := 5, maxLocals := 6, code := jdk_52_method_16_code, exceptionTable := #[], attributes := #[] }
def k8m2 : Method := { name := "compress", desc := "([CII)[B", sig := { parameters := [(.array .char), .int, .int], returnType := some (.array .byte) }, accessFlags := 9, code := some k8c2 }
def k8c3 : Code := { maxStack := 3, maxLocals := 7, code := jdk_52_method_21_code, exceptionTable := #[], attributes := #[] }
def k8m3 : Method := { name := "compress", desc := "([CI[BII)I", sig := { parameters := [(.array .char), .int, (.array .byte), .int, .int], returnType := some .int }, accessFlags := 9, code := some k8c3 }
/-- java/lang/StringUTF16 -/
def k8 : Class := { plain "java/lang/StringUTF16" (some 0) with
  accessFlags := 48
  interfaces := #[]
  cf := some (fileOf pool8 12 #[.nestMembers #[627, 629, 369]] #[{ accessFlags := 0, nameIndex := 9, descriptorIndex := 10, attributes := #[] }, { accessFlags := 8, nameIndex := 261, descriptorIndex := 262, attributes := #[] }, { accessFlags := 9, nameIndex := 117, descriptorIndex := 122, attributes := #[] }, { accessFlags := 9, nameIndex := 117, descriptorIndex := 118, attributes := #[] }] 48 6 #[] #[{ accessFlags := 26, nameIndex := 61, descriptorIndex := 62, attributes := #[] }, { accessFlags := 26, nameIndex := 65, descriptorIndex := 62, attributes := #[] }, { accessFlags := 24, nameIndex := 430, descriptorIndex := 62, attributes := #[] }, { accessFlags := 4120, nameIndex := 46, descriptorIndex := 47, attributes := #[] }])
  fields := #[{ name := "HI_BYTE_SHIFT", type := .int, accessFlags := 26, slot := 0, constantValue := 0 }, { name := "LO_BYTE_SHIFT", type := .int, accessFlags := 26, slot := 1, constantValue := 0 }, { name := "MAX_LENGTH", type := .int, accessFlags := 24, slot := 2, constantValue := 0 }, { name := "$assertionsDisabled", type := .boolean, accessFlags := 4120, slot := 3, constantValue := 0 }]
  methods := #[k8m0, k8m1, k8m2, k8m3]
  instanceTypes := #[]
  staticTypes := #[.int, .int, .int, .boolean]
  resolved := Array.replicate 635 none
  statics := none }

def pool9 : Array CpInfo := pool [(1, .fieldref 2 3), (0, .class_ 4), (0, .nameAndType 5 6), (0, u "com/example/resultwire/resultwire/er7/PieceIndex"), (0, u "NO_ENDS"), (0, u "[I"), (0, .methodref 2 8), (0, .nameAndType 9 10), (0, u "<init>"), (0, u "(Ljava/lang/String;III[II)V"), (0, .methodref 12 13), (0, .class_ 14), (0, .nameAndType 9 15), (0, u "java/lang/Object"), (0, u "()V"), (0, .fieldref 2 17), (0, .nameAndType 18 19), (0, u "m_sText"), (0, u "Ljava/lang/String;"), (0, .fieldref 2 21), (0, .nameAndType 22 23), (0, u "m_nDelimiter"), (0, u "I"), (0, .fieldref 2 25), (0, .nameAndType 26 23), (0, u "m_nFrom"), (0, .fieldref 2 28), (0, .nameAndType 29 23), (0, u "m_nTo"), (0, .fieldref 2 31), (0, .nameAndType 32 6), (0, u "m_aEnds"), (0, .fieldref 2 34), (0, .nameAndType 35 23), (0, u "m_nCount"), (0, .methodref 37 38), (0, .class_ 39), (0, .nameAndType 40 41), (0, u "java/lang/Math"), (0, u "max"), (0, u "(II)I"), (0, .methodref 43 44), (0, .class_ 45), (0, .nameAndType 46 47), (0, u "java/util/Arrays"), (0, u "copyOf"), (0, u "([II)[I"), (0, .class_ 49), (0, u "com/example/resultwire/resultwire/er7/Pieces"), (0, .methodref 48 51), (0, .nameAndType 9 52), (0, u "(Ljava/lang/String;III)V"), (0, .methodref 48 54), (0, .nameAndType 55 56), (0, u "hasNext"), (0, u "()Z"), (0, .methodref 48 58), (0, .nameAndType 59 15), (0, u "advance"), (0, .methodref 48 61), (0, .nameAndType 62 63), (0, u "end"), (0, u "()I"), (0, u "MIN_STEP"), (4, u "reach"), (0, u "(I)Lcom/example/resultwire/resultwire/er7/PieceIndex;"), (5, u "(I)I")] 3

def k9c0 : Code := { maxStack := 7, maxLocals := 5, code := prog_140_method_1_code, exceptionTable := #[], attributes := #[] }
def k9m0 : Method := { name := "<init>", desc := "(Ljava/lang/String;III)V", sig := { parameters := [(.object "java/lang/String"), .int, .int, .int], returnType := none }, accessFlags := 0, code := some k9c0 }
def k9c1 : Code := { maxStack := 2, maxLocals := 7, code := prog_140_method_2_code, exceptionTable := #[], attributes := #[] }
def k9m1 : Method := { name := "<init>", desc := "(Ljava/lang/String;III[II)V", sig := { parameters := [(.object "java/lang/String"), .int, .int, .int, (.array .int), .int], returnType := none }, accessFlags := 2, code := some k9c1 }
def k9c2 : Code := { maxStack := 8, maxLocals := 6, code := prog_140_method_3_code, exceptionTable := #[], attributes := #[] }
def k9m2 : Method := { name := "reach", desc := "(I)Lcom/example/resultwire/resultwire/er7/PieceIndex;", sig := { parameters := [.int], returnType := some (.object "com/example/resultwire/resultwire/er7/PieceIndex") }, accessFlags := 0, code := some k9c2 }
def k9c3 : Code := { maxStack := 3, maxLocals := 2, code := prog_140_method_5_code, exceptionTable := #[], attributes := #[] }
def k9m3 : Method := { name := "end", desc := "(I)I", sig := { parameters := [.int], returnType := some .int }, accessFlags := 0, code := some k9c3 }
/-- com/example/resultwire/resultwire/er7/PieceIndex -/
def k9 : Class := { plain "com/example/resultwire/resultwire/er7/PieceIndex" (some 0) with
  accessFlags := 48
  interfaces := #[]
  cf := some (fileOf pool9 2 #[] #[{ accessFlags := 0, nameIndex := 9, descriptorIndex := 52, attributes := #[] }, { accessFlags := 2, nameIndex := 9, descriptorIndex := 10, attributes := #[] }, { accessFlags := 0, nameIndex := 69, descriptorIndex := 70, attributes := #[] }, { accessFlags := 0, nameIndex := 62, descriptorIndex := 76, attributes := #[] }] 48 12 #[] #[{ accessFlags := 26, nameIndex := 64, descriptorIndex := 23, attributes := #[] }, { accessFlags := 26, nameIndex := 5, descriptorIndex := 6, attributes := #[] }, { accessFlags := 18, nameIndex := 18, descriptorIndex := 19, attributes := #[] }, { accessFlags := 18, nameIndex := 22, descriptorIndex := 23, attributes := #[] }, { accessFlags := 18, nameIndex := 26, descriptorIndex := 23, attributes := #[] }, { accessFlags := 18, nameIndex := 29, descriptorIndex := 23, attributes := #[] }, { accessFlags := 18, nameIndex := 32, descriptorIndex := 6, attributes := #[] }, { accessFlags := 18, nameIndex := 35, descriptorIndex := 23, attributes := #[] }])
  fields := #[{ name := "MIN_STEP", type := .int, accessFlags := 26, slot := 0, constantValue := 0 }, { name := "NO_ENDS", type := (.array .int), accessFlags := 26, slot := 1, constantValue := 0 }, { name := "m_sText", type := (.object "java/lang/String"), accessFlags := 18, slot := 0, constantValue := 0 }, { name := "m_nDelimiter", type := .int, accessFlags := 18, slot := 1, constantValue := 0 }, { name := "m_nFrom", type := .int, accessFlags := 18, slot := 2, constantValue := 0 }, { name := "m_nTo", type := .int, accessFlags := 18, slot := 3, constantValue := 0 }, { name := "m_aEnds", type := (.array .int), accessFlags := 18, slot := 4, constantValue := 0 }, { name := "m_nCount", type := .int, accessFlags := 18, slot := 5, constantValue := 0 }]
  methods := #[k9m0, k9m1, k9m2, k9m3]
  instanceTypes := #[(.object "java/lang/String"), .int, .int, .int, (.array .int), .int]
  staticTypes := #[.int, (.array .int)]
  resolved := Array.replicate 80 none
  statics := some 1 }

def pool10 : Array CpInfo := pool [(1, .class_ 2), (0, u "java/lang/Math"), (1, .class_ 6), (1, u "java/lang/Object"), (0, u "<init>"), (0, u "()V"), (89, .class_ 100), (1, u "java/lang/Math$RandomNumberGeneratorHolder"), (71, u "negativeZeroFloatBits"), (0, u "J"), (2, u "negativeZeroDoubleBits"), (21, u "max"), (2, u "min"), (43, u "$assertionsDisabled"), (0, u "Z"), (88, u "(II)I"), (2, u "twoToTheDoubleScaleDown"), (0, u "D"), (4, u "twoToTheDoubleScaleUp"), (9, u "E"), (3, u "PI"), (2, u "TAU"), (2, u "DEGREES_TO_RADIANS"), (0, u "RADIANS_TO_DEGREES")] 94

def k10m0 : Method := { name := "<init>", desc := "()V", sig := { parameters := [], returnType := none }, accessFlags := 2, code := none }
def k10c1 : Code := { maxStack := 2, maxLocals := 2, code := jdk_29_method_65_code, exceptionTable := #[], attributes := #[] }
def k10m1 : Method := { name := "max", desc := "(II)I", sig := { parameters := [.int, .int], returnType := some .int }, accessFlags := 9, code := some k10c1 }
def k10c2 : Code := { maxStack := 2, maxLocals := 2, code := jdk_29_method_69_code, exceptionTable := #[], attributes := #[] }
def k10m2 : Method := { name := "min", desc := "(II)I", sig := { parameters := [.int, .int], returnType := some .int }, accessFlags := 9, code := some k10c2 }
/-- java/lang/Math -/
def k10 : Class := { plain "java/lang/Math" (some 0) with
  accessFlags := 49
  interfaces := #[]
  cf := some (fileOf pool10 1 #[.nestMembers #[98]] #[{ accessFlags := 2, nameIndex := 7, descriptorIndex := 8, attributes := #[] }, { accessFlags := 9, nameIndex := 198, descriptorIndex := 335, attributes := #[] }, { accessFlags := 9, nameIndex := 201, descriptorIndex := 335, attributes := #[] }] 49 4 #[] #[{ accessFlags := 25, nameIndex := 354, descriptorIndex := 339, attributes := #[] }, { accessFlags := 25, nameIndex := 358, descriptorIndex := 339, attributes := #[] }, { accessFlags := 25, nameIndex := 361, descriptorIndex := 339, attributes := #[] }, { accessFlags := 26, nameIndex := 364, descriptorIndex := 339, attributes := #[] }, { accessFlags := 26, nameIndex := 365, descriptorIndex := 339, attributes := #[] }, { accessFlags := 26, nameIndex := 172, descriptorIndex := 173, attributes := #[] }, { accessFlags := 26, nameIndex := 176, descriptorIndex := 173, attributes := #[] }, { accessFlags := 8, nameIndex := 344, descriptorIndex := 339, attributes := #[] }, { accessFlags := 8, nameIndex := 338, descriptorIndex := 339, attributes := #[] }, { accessFlags := 4120, nameIndex := 245, descriptorIndex := 246, attributes := #[] }])
  fields := #[{ name := "E", type := .double, accessFlags := 25, slot := 0, constantValue := 0 }, { name := "PI", type := .double, accessFlags := 25, slot := 1, constantValue := 0 }, { name := "TAU", type := .double, accessFlags := 25, slot := 2, constantValue := 0 }, { name := "DEGREES_TO_RADIANS", type := .double, accessFlags := 26, slot := 3, constantValue := 0 }, { name := "RADIANS_TO_DEGREES", type := .double, accessFlags := 26, slot := 4, constantValue := 0 }, { name := "negativeZeroFloatBits", type := .long, accessFlags := 26, slot := 5, constantValue := 0 }, { name := "negativeZeroDoubleBits", type := .long, accessFlags := 26, slot := 6, constantValue := 0 }, { name := "twoToTheDoubleScaleUp", type := .double, accessFlags := 8, slot := 7, constantValue := 0 }, { name := "twoToTheDoubleScaleDown", type := .double, accessFlags := 8, slot := 8, constantValue := 0 }, { name := "$assertionsDisabled", type := .boolean, accessFlags := 4120, slot := 9, constantValue := 0 }]
  methods := #[k10m0, k10m1, k10m2]
  instanceTypes := #[]
  staticTypes := #[.double, .double, .double, .double, .double, .long, .long, .double, .double, .boolean]
  resolved := Array.replicate 460 none
  statics := none }

def pool11 : Array CpInfo := pool [(2, .class_ 4), (1, u "java/lang/Object"), (0, u "<init>"), (0, u "()V"), (7, .class_ 16), (1, u "java/util/Arrays"), (57, .class_ 76), (1, u "java/util/Arrays$NaturalOrder"), (36, .class_ 115), (1, u "java/util/Arrays$LegacyMergeSort"), (1, u "Z"), (32, .methodref 151 152), (0, .class_ 153), (0, .nameAndType 154 155), (0, u "java/lang/System"), (0, u "arraycopy"), (0, u "(Ljava/lang/Object;ILjava/lang/Object;II)V"), (146, u "copyOf"), (1, .methodref 305 306), (0, .class_ 307), (0, .nameAndType 308 309), (0, u "java/lang/Math"), (0, u "min"), (0, u "(II)I"), (65, .class_ 376), (0, u "java/util/Arrays$ArrayList"), (68, u "$assertionsDisabled"), (269, u "MIN_ARRAY_SORT_GRAN"), (0, u "I"), (2, u "INSERTIONSORT_THRESHOLD"), (151, u "([II)[I"), (103, .class_ 976), (0, u "java/util/Arrays$ArrayItr")] 52

def k11m0 : Method := { name := "<init>", desc := "()V", sig := { parameters := [], returnType := none }, accessFlags := 2, code := none }
def k11c1 : Code := { maxStack := 6, maxLocals := 3, code := jdk_65_method_123_code, exceptionTable := #[], attributes := #[] }
def k11m1 : Method := { name := "copyOf", desc := "([II)[I", sig := { parameters := [(.array .int), .int], returnType := some (.array .int) }, accessFlags := 9, code := some k11c1 }
/-- java/util/Arrays -/
def k11 : Class := { plain "java/util/Arrays" (some 0) with
  accessFlags := 49
  interfaces := #[]
  cf := some (fileOf pool11 14 #[.nestMembers #[975, 375, 113, 74]] #[{ accessFlags := 2, nameIndex := 5, descriptorIndex := 6, attributes := #[] }, { accessFlags := 9, nameIndex := 302, descriptorIndex := 871, attributes := #[] }] 49 2 #[] #[{ accessFlags := 26, nameIndex := 715, descriptorIndex := 716, attributes := #[] }, { accessFlags := 26, nameIndex := 719, descriptorIndex := 716, attributes := #[] }, { accessFlags := 4120, nameIndex := 445, descriptorIndex := 117, attributes := #[] }])
  fields := #[{ name := "MIN_ARRAY_SORT_GRAN", type := .int, accessFlags := 26, slot := 0, constantValue := 0 }, { name := "INSERTIONSORT_THRESHOLD", type := .int, accessFlags := 26, slot := 1, constantValue := 0 }, { name := "$assertionsDisabled", type := .boolean, accessFlags := 4120, slot := 2, constantValue := 0 }]
  methods := #[k11m0, k11m1]
  instanceTypes := #[]
  staticTypes := #[.int, .int, .boolean]
  resolved := Array.replicate 1029 none
  statics := none }

def pool12 : Array CpInfo := pool [(2, .class_ 4), (1, u "java/lang/Object"), (0, u "<init>"), (0, u "()V"), (1, .class_ 10), (1, u "java/lang/System"), (0, u "allowSecurityManager"), (0, u "I"), (16, u "cons"), (0, u "Ljava/io/Console;"), (77, .class_ 110), (1, u "java/lang/System$CallersHolder"), (43, u "initialErrStream"), (0, u "Ljava/io/PrintStream;"), (19, u "security"), (0, u "Ljava/lang/SecurityManager;"), (31, .class_ 209), (0, u "java/lang/System$1"), (7, u "props"), (0, u "Ljava/util/Properties;"), (2, u "lineSeparator"), (0, u "Ljava/lang/String;"), (96, .class_ 321), (1, u "java/lang/System$LoggerFinder"), (5, .class_ 328), (0, u "java/lang/System$Logger"), (67, u "err"), (2, u "out"), (91, u "notSupportedJnuEncoding"), (15, u "in"), (17, u "initialIn"), (0, u "Ljava/io/InputStream;"), (35, u "bootLayer"), (0, u "Ljava/lang/ModuleLayer;"), (99, .class_ 664), (0, u "java/lang/System$2"), (9, u "NEVER"), (2, u "MAYBE"), (49, u "arraycopy"), (0, u "(Ljava/lang/Object;ILjava/lang/Object;II)V"), (72, .class_ 802), (0, u "java/lang/System$Logger$Level")] 31

def k12m0 : Method := { name := "<init>", desc := "()V", sig := { parameters := [], returnType := none }, accessFlags := 2, code := none }
def k12m1 : Method := { name := "arraycopy", desc := "(Ljava/lang/Object;ILjava/lang/Object;II)V", sig := { parameters := [(.object "java/lang/Object"), .int, (.object "java/lang/Object"), .int, .int], returnType := none }, accessFlags := 265, code := none }
/-- java/lang/System -/
def k12 : Class := { plain "java/lang/System" (some 0) with
  accessFlags := 49
  interfaces := #[]
  cf := some (fileOf pool12 8 #[.nestMembers #[319, 327, 801, 108, 663, 208]] #[{ accessFlags := 2, nameIndex := 5, descriptorIndex := 6, attributes := #[] }, { accessFlags := 265, nameIndex := 727, descriptorIndex := 728, attributes := #[] }] 49 2 #[] #[{ accessFlags := 25, nameIndex := 507, descriptorIndex := 526, attributes := #[] }, { accessFlags := 25, nameIndex := 399, descriptorIndex := 155, attributes := #[] }, { accessFlags := 25, nameIndex := 396, descriptorIndex := 155, attributes := #[] }, { accessFlags := 10, nameIndex := 525, descriptorIndex := 526, attributes := #[] }, { accessFlags := 26, nameIndex := 674, descriptorIndex := 12, attributes := #[] }, { accessFlags := 26, nameIndex := 677, descriptorIndex := 12, attributes := #[] }, { accessFlags := 10, nameIndex := 11, descriptorIndex := 12, attributes := #[] }, { accessFlags := 74, nameIndex := 175, descriptorIndex := 176, attributes := #[] }, { accessFlags := 10, nameIndex := 491, descriptorIndex := 222, attributes := #[] }, { accessFlags := 74, nameIndex := 29, descriptorIndex := 30, attributes := #[] }, { accessFlags := 74, nameIndex := 154, descriptorIndex := 155, attributes := #[] }, { accessFlags := 10, nameIndex := 217, descriptorIndex := 218, attributes := #[] }, { accessFlags := 10, nameIndex := 221, descriptorIndex := 222, attributes := #[] }, { accessFlags := 8, nameIndex := 562, descriptorIndex := 563, attributes := #[] }])
  fields := #[{ name := "in", type := (.object "java/io/InputStream"), accessFlags := 25, slot := 0, constantValue := 0 }, { name := "out", type := (.object "java/io/PrintStream"), accessFlags := 25, slot := 1, constantValue := 0 }, { name := "err", type := (.object "java/io/PrintStream"), accessFlags := 25, slot := 2, constantValue := 0 }, { name := "initialIn", type := (.object "java/io/InputStream"), accessFlags := 10, slot := 3, constantValue := 0 }, { name := "NEVER", type := .int, accessFlags := 26, slot := 4, constantValue := 0 }, { name := "MAYBE", type := .int, accessFlags := 26, slot := 5, constantValue := 0 }, { name := "allowSecurityManager", type := .int, accessFlags := 10, slot := 6, constantValue := 0 }, { name := "security", type := (.object "java/lang/SecurityManager"), accessFlags := 74, slot := 7, constantValue := 0 }, { name := "notSupportedJnuEncoding", type := (.object "java/lang/String"), accessFlags := 10, slot := 8, constantValue := 0 }, { name := "cons", type := (.object "java/io/Console"), accessFlags := 74, slot := 9, constantValue := 0 }, { name := "initialErrStream", type := (.object "java/io/PrintStream"), accessFlags := 74, slot := 10, constantValue := 0 }, { name := "props", type := (.object "java/util/Properties"), accessFlags := 10, slot := 11, constantValue := 0 }, { name := "lineSeparator", type := (.object "java/lang/String"), accessFlags := 10, slot := 12, constantValue := 0 }, { name := "bootLayer", type := (.object "java/lang/ModuleLayer"), accessFlags := 8, slot := 13, constantValue := 0 }]
  methods := #[k12m0, k12m1]
  instanceTypes := #[]
  staticTypes := #[(.object "java/io/InputStream"), (.object "java/io/PrintStream"), (.object "java/io/PrintStream"), (.object "java/io/InputStream"), .int, .int, .int, (.object "java/lang/SecurityManager"), (.object "java/lang/String"), (.object "java/io/Console"), (.object "java/io/PrintStream"), (.object "java/util/Properties"), (.object "java/lang/String"), (.object "java/lang/ModuleLayer")]
  resolved := Array.replicate 834 none
  statics := none }

def pool13 : Array CpInfo := pool [(1, .methodref 2 3), (0, .class_ 4), (0, .nameAndType 5 6), (0, u "java/lang/Object"), (0, u "<init>"), (0, u "()V"), (0, .fieldref 8 9), (0, .class_ 10), (0, .nameAndType 11 12), (0, u "com/example/resultwire/resultwire/er7/Pieces"), (0, u "m_sText"), (0, u "Ljava/lang/String;"), (0, .fieldref 8 14), (0, .nameAndType 15 16), (0, u "m_nDelimiter"), (0, u "I"), (0, .fieldref 8 18), (0, .nameAndType 19 16), (0, u "m_nTo"), (0, .fieldref 8 21), (0, .nameAndType 22 16), (0, u "m_nFrom"), (0, .fieldref 8 24), (0, .nameAndType 25 16), (0, u "m_nStart"), (0, .fieldref 8 27), (0, .nameAndType 28 16), (0, u "m_nEnd"), (6, u "(Ljava/lang/String;III)V"), (0, .methodref 37 38), (0, .class_ 39), (0, .nameAndType 40 41), (0, u "java/lang/String"), (0, u "length"), (0, u "()I"), (0, .methodref 37 43), (0, .nameAndType 44 45), (0, u "indexOf"), (0, u "(II)I"), (0, .methodref 37 47), (0, .nameAndType 48 49), (0, u "charAt"), (0, u "(I)C"), (0, .fieldref 8 51), (0, .nameAndType 52 16), (0, u "m_nNumber"), (0, .methodref 8 54), (0, .nameAndType 55 56), (0, u "hasNext"), (0, u "()Z"), (3, .methodref 8 61), (0, .nameAndType 62 63), (0, u "endOf"), (0, u "(Ljava/lang/String;III)I"), (8, u "end"), (0, u "advance")] 4

def k13c0 : Code := { maxStack := 2, maxLocals := 5, code := prog_142_method_1_code, exceptionTable := #[], attributes := #[] }
def k13m0 : Method := { name := "<init>", desc := "(Ljava/lang/String;III)V", sig := { parameters := [(.object "java/lang/String"), .int, .int, .int], returnType := none }, accessFlags := 0, code := some k13c0 }
def k13c1 : Code := { maxStack := 3, maxLocals := 6, code := prog_142_method_3_code, exceptionTable := #[], attributes := #[] }
def k13m1 : Method := { name := "endOf", desc := "(Ljava/lang/String;III)I", sig := { parameters := [(.object "java/lang/String"), .int, .int, .int], returnType := some .int }, accessFlags := 8, code := some k13c1 }
def k13c2 : Code := { maxStack := 1, maxLocals := 1, code := prog_142_method_7_code, exceptionTable := #[], attributes := #[] }
def k13m2 : Method := { name := "end", desc := "()I", sig := { parameters := [], returnType := some .int }, accessFlags := 0, code := some k13c2 }
def k13c3 : Code := { maxStack := 5, maxLocals := 1, code := prog_142_method_8_code, exceptionTable := #[], attributes := #[] }
def k13m3 : Method := { name := "advance", desc := "()V", sig := { parameters := [], returnType := none }, accessFlags := 0, code := some k13c3 }
def k13c4 : Code := { maxStack := 2, maxLocals := 1, code := prog_142_method_9_code, exceptionTable := #[], attributes := #[] }
def k13m4 : Method := { name := "hasNext", desc := "()Z", sig := { parameters := [], returnType := some .boolean }, accessFlags := 0, code := some k13c4 }
/-- com/example/resultwire/resultwire/er7/Pieces -/
def k13 : Class := { plain "com/example/resultwire/resultwire/er7/Pieces" (some 0) with
  accessFlags := 48
  interfaces := #[]
  cf := some (fileOf pool13 8 #[] #[{ accessFlags := 0, nameIndex := 5, descriptorIndex := 35, attributes := #[] }, { accessFlags := 8, nameIndex := 62, descriptorIndex := 63, attributes := #[] }, { accessFlags := 0, nameIndex := 72, descriptorIndex := 41, attributes := #[] }, { accessFlags := 0, nameIndex := 73, descriptorIndex := 6, attributes := #[] }, { accessFlags := 0, nameIndex := 55, descriptorIndex := 56, attributes := #[] }] 48 2 #[] #[{ accessFlags := 18, nameIndex := 11, descriptorIndex := 12, attributes := #[] }, { accessFlags := 18, nameIndex := 15, descriptorIndex := 16, attributes := #[] }, { accessFlags := 18, nameIndex := 19, descriptorIndex := 16, attributes := #[] }, { accessFlags := 2, nameIndex := 22, descriptorIndex := 16, attributes := #[] }, { accessFlags := 2, nameIndex := 52, descriptorIndex := 16, attributes := #[] }, { accessFlags := 2, nameIndex := 25, descriptorIndex := 16, attributes := #[] }, { accessFlags := 2, nameIndex := 28, descriptorIndex := 16, attributes := #[] }])
  fields := #[{ name := "m_sText", type := (.object "java/lang/String"), accessFlags := 18, slot := 0, constantValue := 0 }, { name := "m_nDelimiter", type := .int, accessFlags := 18, slot := 1, constantValue := 0 }, { name := "m_nTo", type := .int, accessFlags := 18, slot := 2, constantValue := 0 }, { name := "m_nFrom", type := .int, accessFlags := 2, slot := 3, constantValue := 0 }, { name := "m_nNumber", type := .int, accessFlags := 2, slot := 4, constantValue := 0 }, { name := "m_nStart", type := .int, accessFlags := 2, slot := 5, constantValue := 0 }, { name := "m_nEnd", type := .int, accessFlags := 2, slot := 6, constantValue := 0 }]
  methods := #[k13m0, k13m1, k13m2, k13m3, k13m4]
  instanceTypes := #[(.object "java/lang/String"), .int, .int, .int, .int, .int, .int]
  staticTypes := #[]
  resolved := Array.replicate 78 none
  statics := none }

def pool14 : Array CpInfo := pool [(1, .class_ 2), (0, u "java/lang/String"), (1, .class_ 6), (1, u "java/lang/Object"), (0, u "<init>"), (0, u "()V"), (0, .methodref 1 10), (0, .nameAndType 11 12), (0, u "checkIndex"), (0, u "(II)V"), (1, .class_ 16), (1, u "java/lang/StringLatin1"), (21, .methodref 39 40), (0, .class_ 41), (0, .nameAndType 42 43), (0, u "java/lang/Math"), (0, u "min"), (0, u "(II)I"), (9, u "([BI)C"), (34, .methodref 14 89), (0, .nameAndType 90 91), (0, u "canEncode"), (0, u "(I)Z"), (0, .methodref 39 93), (0, .nameAndType 94 43), (0, u "max"), (0, .methodref 14 96), (0, .nameAndType 97 98), (0, u "indexOfChar"), (0, u "([BIII)I"), (2, u "indexOf"), (19, u "$assertionsDisabled"), (0, u "Z"), (98, .class_ 223), (1, u "java/lang/StringLatin1$LinesSpliterator"), (28, u "charAt"), (137, .class_ 391), (0, u "java/lang/StringLatin1$CharsSpliterator")] 3

def k14m0 : Method := { name := "<init>", desc := "()V", sig := { parameters := [], returnType := none }, accessFlags := 0, code := none }
def k14c1 : Code := { maxStack := 2, maxLocals := 2, code := jdk_43_method_2_code, exceptionTable := #[], attributes := #[] }
def k14m1 : Method := { name := "charAt", desc := "([BI)C", sig := { parameters := [(.array .byte), .int], returnType := some .char }, accessFlags := 9, code := some k14c1 }
def k14c2 : Code := { maxStack := 2, maxLocals := 1, code := jdk_43_method_4_code, exceptionTable := #[], attributes := #[] }
def k14m2 : Method := { name := "canEncode", desc := "(I)Z", sig := { parameters := [.int], returnType := some .boolean }, accessFlags := 9, code := some k14c2 }
def k14c3 : Code := { maxStack := 4, maxLocals := 4, code := jdk_43_method_22_code, exceptionTable := #[], attributes := #[] }
def k14m3 : Method := { name := "indexOf", desc := "([BIII)I", sig := { parameters := [(.array .byte), .int, .int, .int], returnType := some .int }, accessFlags := 9, code := some k14c3 }
def k14c4 : Code := { maxStack := 2, maxLocals := 6, code := jdk_43_method_23_code, exceptionTable := #[], attributes := #[] }
def k14m4 : Method := { name := "indexOfChar", desc := "([BIII)I", sig := { parameters := [(.array .byte), .int, .int, .int], returnType := some .int }, accessFlags := 10, code := some k14c4 }
/-- java/lang/StringLatin1 -/
def k14 : Class := { plain "java/lang/StringLatin1" (some 0) with
  accessFlags := 48
  interfaces := #[]
  cf := some (fileOf pool14 14 #[.nestMembers #[390, 221]] #[{ accessFlags := 0, nameIndex := 7, descriptorIndex := 8, attributes := #[] }, { accessFlags := 9, nameIndex := 252, descriptorIndex := 53, attributes := #[] }, { accessFlags := 9, nameIndex := 90, descriptorIndex := 91, attributes := #[] }, { accessFlags := 9, nameIndex := 101, descriptorIndex := 98, attributes := #[] }, { accessFlags := 10, nameIndex := 97, descriptorIndex := 98, attributes := #[] }] 48 4 #[] #[{ accessFlags := 4120, nameIndex := 121, descriptorIndex := 122, attributes := #[] }])
  fields := #[{ name := "$assertionsDisabled", type := .boolean, accessFlags := 4120, slot := 0, constantValue := 0 }]
  methods := #[k14m0, k14m1, k14m2, k14m3, k14m4]
  instanceTypes := #[]
  staticTypes := #[.boolean]
  resolved := Array.replicate 395 none
  statics := none }

def pool15 : Array CpInfo := pool [(2, .class_ 4), (1, u "java/lang/Object"), (0, u "<init>"), (0, u "()V"), (17, .class_ 26), (1, u "jdk/internal/util/Preconditions"), (6, u "checkIndex"), (21, .class_ 56), (0, u "jdk/internal/util/Preconditions$4"), (57, .class_ 115), (0, u "jdk/internal/util/Preconditions$1"), (7, u "SIOOBE_FORMATTER"), (0, u "Ljava/util/function/BiFunction;"), (0, .class_ 126), (0, u "jdk/internal/util/Preconditions$2"), (3, u "AIOOBE_FORMATTER"), (0, .class_ 132), (0, u "jdk/internal/util/Preconditions$3"), (3, u "IOOBE_FORMATTER"), (41, u "(IILjava/util/function/BiFunction;)I")] 15

def k15m0 : Method := { name := "<init>", desc := "()V", sig := { parameters := [], returnType := none }, accessFlags := 1, code := none }
def k15c1 : Code := { maxStack := 3, maxLocals := 3, code := jdk_41_method_11_code, exceptionTable := #[], attributes := #[] }
def k15m1 : Method := { name := "checkIndex", desc := "(IILjava/util/function/BiFunction;)I", sig := { parameters := [.int, .int, (.object "java/util/function/BiFunction")], returnType := some .int }, accessFlags := 9, code := some k15c1 }
/-- jdk/internal/util/Preconditions -/
def k15 : Class := { plain "jdk/internal/util/Preconditions" (some 0) with
  accessFlags := 33
  interfaces := #[]
  cf := some (fileOf pool15 24 #[.nestMembers #[55, 131, 125, 114]] #[{ accessFlags := 1, nameIndex := 5, descriptorIndex := 6, attributes := #[] }, { accessFlags := 9, nameIndex := 33, descriptorIndex := 178, attributes := #[] }] 33 2 #[] #[{ accessFlags := 25, nameIndex := 123, descriptorIndex := 124, attributes := #[] }, { accessFlags := 25, nameIndex := 130, descriptorIndex := 124, attributes := #[] }, { accessFlags := 25, nameIndex := 136, descriptorIndex := 124, attributes := #[] }])
  fields := #[{ name := "SIOOBE_FORMATTER", type := (.object "java/util/function/BiFunction"), accessFlags := 25, slot := 0, constantValue := 0 }, { name := "AIOOBE_FORMATTER", type := (.object "java/util/function/BiFunction"), accessFlags := 25, slot := 1, constantValue := 0 }, { name := "IOOBE_FORMATTER", type := (.object "java/util/function/BiFunction"), accessFlags := 25, slot := 2, constantValue := 0 }]
  methods := #[k15m0, k15m1]
  instanceTypes := #[]
  staticTypes := #[(.object "java/util/function/BiFunction"), (.object "java/util/function/BiFunction"), (.object "java/util/function/BiFunction")]
  resolved := Array.replicate 194 none
  statics := some 2 }

def pool16 : Array CpInfo := pool [(9, u "<init>"), (6, .class_ 18), (1, u "java/lang/Object"), (0, u "()V"), (1, .class_ 23), (1, u "jdk/internal/util/ArraysSupport"), (0, u "LOG2_ARRAY_LONG_INDEX_SCALE"), (0, u "I"), (2, u "U"), (0, u "Ljdk/internal/misc/Unsafe;"), (8, u "BIG_ENDIAN"), (0, u "Z"), (8, u "LOG2_BYTE_BIT_SIZE"), (4, u "LOG2_ARRAY_INT_INDEX_SCALE"), (54, u "JLA"), (0, u "Ljdk/internal/access/JavaLangAccess;"), (11, u "LOG2_ARRAY_BOOLEAN_INDEX_SCALE"), (9, u "LOG2_ARRAY_BYTE_INDEX_SCALE"), (5, u "LOG2_ARRAY_CHAR_INDEX_SCALE"), (5, u "LOG2_ARRAY_SHORT_INDEX_SCALE"), (18, u "LOG2_ARRAY_FLOAT_INDEX_SCALE"), (24, u "LOG2_ARRAY_DOUBLE_INDEX_SCALE"), (89, u "T_BOOLEAN"), (2, u "T_CHAR"), (1, u "T_FLOAT"), (1, u "T_DOUBLE"), (1, u "T_BYTE"), (1, u "T_SHORT"), (1, u "T_INT"), (1, u "T_LONG"), (1, u "SOFT_MAX_ARRAY_LENGTH")] 83

def k16m0 : Method := { name := "<init>", desc := "()V", sig := { parameters := [], returnType := none }, accessFlags := 2, code := none }
/-- jdk/internal/util/ArraysSupport -/
def k16 : Class := { plain "jdk/internal/util/ArraysSupport" (some 0) with
  accessFlags := 33
  interfaces := #[]
  cf := some (fileOf pool16 21 #[] #[{ accessFlags := 2, nameIndex := 9, descriptorIndex := 19, attributes := #[] }] 33 16 #[] #[{ accessFlags := 24, nameIndex := 28, descriptorIndex := 29, attributes := #[] }, { accessFlags := 26, nameIndex := 38, descriptorIndex := 39, attributes := #[] }, { accessFlags := 25, nameIndex := 121, descriptorIndex := 25, attributes := #[] }, { accessFlags := 25, nameIndex := 131, descriptorIndex := 25, attributes := #[] }, { accessFlags := 25, nameIndex := 137, descriptorIndex := 25, attributes := #[] }, { accessFlags := 25, nameIndex := 143, descriptorIndex := 25, attributes := #[] }, { accessFlags := 25, nameIndex := 53, descriptorIndex := 25, attributes := #[] }, { accessFlags := 25, nameIndex := 24, descriptorIndex := 25, attributes := #[] }, { accessFlags := 25, nameIndex := 162, descriptorIndex := 25, attributes := #[] }, { accessFlags := 25, nameIndex := 187, descriptorIndex := 25, attributes := #[] }, { accessFlags := 26, nameIndex := 48, descriptorIndex := 25, attributes := #[] }, { accessFlags := 25, nameIndex := 277, descriptorIndex := 25, attributes := #[] }, { accessFlags := 25, nameIndex := 280, descriptorIndex := 25, attributes := #[] }, { accessFlags := 25, nameIndex := 282, descriptorIndex := 25, attributes := #[] }, { accessFlags := 25, nameIndex := 284, descriptorIndex := 25, attributes := #[] }, { accessFlags := 25, nameIndex := 286, descriptorIndex := 25, attributes := #[] }, { accessFlags := 25, nameIndex := 288, descriptorIndex := 25, attributes := #[] }, { accessFlags := 25, nameIndex := 290, descriptorIndex := 25, attributes := #[] }, { accessFlags := 25, nameIndex := 292, descriptorIndex := 25, attributes := #[] }, { accessFlags := 26, nameIndex := 108, descriptorIndex := 109, attributes := #[] }, { accessFlags := 25, nameIndex := 294, descriptorIndex := 25, attributes := #[] }])
  fields := #[{ name := "U", type := (.object "jdk/internal/misc/Unsafe"), accessFlags := 24, slot := 0, constantValue := 0 }, { name := "BIG_ENDIAN", type := .boolean, accessFlags := 26, slot := 1, constantValue := 0 }, { name := "LOG2_ARRAY_BOOLEAN_INDEX_SCALE", type := .int, accessFlags := 25, slot := 2, constantValue := 0 }, { name := "LOG2_ARRAY_BYTE_INDEX_SCALE", type := .int, accessFlags := 25, slot := 3, constantValue := 0 }, { name := "LOG2_ARRAY_CHAR_INDEX_SCALE", type := .int, accessFlags := 25, slot := 4, constantValue := 0 }, { name := "LOG2_ARRAY_SHORT_INDEX_SCALE", type := .int, accessFlags := 25, slot := 5, constantValue := 0 }, { name := "LOG2_ARRAY_INT_INDEX_SCALE", type := .int, accessFlags := 25, slot := 6, constantValue := 0 }, { name := "LOG2_ARRAY_LONG_INDEX_SCALE", type := .int, accessFlags := 25, slot := 7, constantValue := 0 }, { name := "LOG2_ARRAY_FLOAT_INDEX_SCALE", type := .int, accessFlags := 25, slot := 8, constantValue := 0 }, { name := "LOG2_ARRAY_DOUBLE_INDEX_SCALE", type := .int, accessFlags := 25, slot := 9, constantValue := 0 }, { name := "LOG2_BYTE_BIT_SIZE", type := .int, accessFlags := 26, slot := 10, constantValue := 0 }, { name := "T_BOOLEAN", type := .int, accessFlags := 25, slot := 11, constantValue := 0 }, { name := "T_CHAR", type := .int, accessFlags := 25, slot := 12, constantValue := 0 }, { name := "T_FLOAT", type := .int, accessFlags := 25, slot := 13, constantValue := 0 }, { name := "T_DOUBLE", type := .int, accessFlags := 25, slot := 14, constantValue := 0 }, { name := "T_BYTE", type := .int, accessFlags := 25, slot := 15, constantValue := 0 }, { name := "T_SHORT", type := .int, accessFlags := 25, slot := 16, constantValue := 0 }, { name := "T_INT", type := .int, accessFlags := 25, slot := 17, constantValue := 0 }, { name := "T_LONG", type := .int, accessFlags := 25, slot := 18, constantValue := 0 }, { name := "JLA", type := (.object "jdk/internal/access/JavaLangAccess"), accessFlags := 26, slot := 19, constantValue := 0 }, { name := "SOFT_MAX_ARRAY_LENGTH", type := .int, accessFlags := 25, slot := 20, constantValue := 0 }]
  methods := #[k16m0]
  instanceTypes := #[]
  staticTypes := #[(.object "jdk/internal/misc/Unsafe"), .boolean, .int, .int, .int, .int, .int, .int, .int, .int, .int, .int, .int, .int, .int, .int, .int, .int, .int, (.object "jdk/internal/access/JavaLangAccess"), .int]
  resolved := Array.replicate 378 none
  statics := none }

def pool17 : Array CpInfo := pool [(1, u "java/lang/Cloneable"), (0, .class_ 1), (0, u "java/lang/Object"), (0, .class_ 3)] 3

/-- java/lang/Cloneable -/
def k17 : Class := { plain "java/lang/Cloneable" (some 0) with
  accessFlags := 1537
  interfaces := #[]
  cf := some (fileOf pool17 2 #[] #[] 1537 4 #[] #[])
  fields := #[]
  methods := #[]
  instanceTypes := #[]
  staticTypes := #[]
  resolved := Array.replicate 8 none
  statics := none }

/-- the primitive byte -/
def k18 : Class := { plain "byte" none with kind := .primitive 'B', accessFlags := 0x411 }
/-- [B -/
def k19 : Class := { plain "[B" (some 0) with kind := .array 18 .byte, interfaces := #[17, 2], accessFlags := 1041 }

/-- the primitive char -/
def k20 : Class := { plain "char" none with kind := .primitive 'C', accessFlags := 0x411 }
/-- [C -/
def k21 : Class := { plain "[C" (some 0) with kind := .array 20 .char, interfaces := #[17, 2], accessFlags := 1041 }

/-- the primitive int -/
def k22 : Class := { plain "int" none with kind := .primitive 'I', accessFlags := 0x411 }
/-- [I -/
def k23 : Class := { plain "[I" (some 0) with kind := .array 22 .int, interfaces := #[17, 2], accessFlags := 1041 }

def heap : Heap := #[{ cls := 7, slots := #[.long 0, .int 1, .null, .int 0, .null, .int 0, .int 0], vm := .statics 7 },
  { cls := 9, slots := #[.int 0, .ref 3], vm := .statics 9 },
  { cls := 15, slots := #[.null, .null, .null], vm := .statics 15 },
  { cls := 23, slots := #[], vm := .none }]
def classes : Array Class := #[k0, k1, k2, k3, k4, k5, k6, k7, k8, k9, k10, k11, k12, k13, k14, k15, k16, k17, k18, k19, k20, k21, k22, k23]
def interned : List (Array UInt16 × Addr) := []
def slotsUsed : Nat := 12
def theMethod : MethodId := ⟨1, 1⟩
def args0 : Array Value := #[.long 5, .int 5, .int 5, .int 5, .int 5, .int 5]
def aboutOver (below : List Frame) : State where
  vm := { classes := classes, interned := interned.toArray }
  heap := heap
  slotsUsed := slotsUsed
  threads := #[{ frames := .invoking theMethod args0 :: below }]
def below0 : List Frame := [.native { method := ⟨0, 0⟩, args := #[] }]
def about1 : State := aboutOver below0
def p0 : Program := .bare "" "" ""
def e0 : Env := launch0.env 0 0 0
theorem w_frames : about1.frames = Frame.invoking theMethod args0 :: below0 := rfl
set_option maxRecDepth 65536 in
theorem w_args : argsFit about1.vm theMethod args0 = true := by decide +kernel
set_option maxRecDepth 65536 in
theorem w_heap : heapFits about1 = true := by decide +kernel
set_option maxRecDepth 65536 in
theorem w_runnable : about1.curStatus? = some .runnable := by decide +kernel
set_option maxRecDepth 65536 in
theorem w_alone : about1.alone = true := by decide +kernel
set_option maxRecDepth 65536 in
theorem w_named : about1.methodNamed? x = some theMethod := by decide +kernel
set_option maxRecDepth 65536 in
theorem w_hears : about1.hears theMethod below0 = true := by decide +kernel
set_option maxRecDepth 65536 in
theorem w_ripe : about1.ripe theMethod args0 below0 = true := by decide +kernel
theorem w_running : about1.status = .running := rfl
set_option maxRecDepth 65536 in
theorem w_room : about1.hasRoom e0.platform room_1 = true :=
  launch0.hasRoom_least _ room_1 (by decide +kernel) (by decide +kernel) (by decide +kernel) (by decide +kernel) (by decide +kernel) (by decide +kernel)
theorem allAtoms_all (ts : List Jvm.Cond) (a : Array Jvm.Value) (st : Jvm.State) : (allAtoms ts).before a st = ts.all (fun c => c.before a st) := by
  induction ts with
  | nil => rfl
  | cons c t ih =>
    show (Jvm.Cond.and c (allAtoms t)).before a st = _
    rw [Jvm.Cond.before_and, ih, List.all_cons]
def words1 : List Jvm.Cond := Jvm.Cond.code x code maxLocals ret :: tables_1
/-- a 'code' word, met by the world's own term for the bytes: nothing is compared byte by byte -/
theorem code_word {y : MethodName} {bytes : ByteArray} {mx : Nat} {rt : Option FieldType} {a : Array Value} {s : State} {m : MethodId} {meth : Method} {c : Code} (h1 : s.methodNamed? y = some m) (h2 : s.vm.method? m = some meth) (h3 : meth.code = some c) (h4 : c.code = bytes)
    (h5 : (c.maxLocals == mx && c.exceptionTable.isEmpty && decide (c.maxStack ≤ mostOperands) && decide (meth.sig.returnType = rt) && !meth.locks && decide (parseMethodDescriptor y.desc = some meth.sig)) = true) : (Jvm.Cond.code y bytes mx rt).before a s = true := by
  simp only [Bool.and_eq_true, beq_iff_eq, Bool.not_eq_true', decide_eq_true_eq] at h5
  obtain ⟨⟨⟨⟨⟨g1, g2⟩, g3⟩, g4⟩, g5⟩, g6⟩ := h5
  simp [Cond.before, Cond.holds, Cond.value, h1, h2, h3, h4, g1, g2, g3, g4, g5, g6]
def isCode : Jvm.Cond → Bool
  | .code _ _ _ _ => true
  | _ => false
theorem all_split {L : List Jvm.Cond} {P : Jvm.Cond → Bool} (h1 : L.all (fun c => isCode c || P c) = true) (h2 : ∀ c ∈ L.filter isCode, P c = true) : L.all P = true := by
  refine List.all_eq_true.mpr fun c hc => ?_
  have h := List.all_eq_true.mp h1 c hc
  rcases Bool.eq_false_or_eq_true (isCode c) with hi | hi
  · exact h2 c (List.mem_filter.mpr ⟨hc, hi⟩)
  · simpa [hi] using h
set_option maxRecDepth 65536 in
theorem w_c0 : (Jvm.Cond.code x code maxLocals ret).before args0 about1 = true := code_word (m := ⟨1, 1⟩) (meth := k1m1) (c := k1c1) (by decide +kernel) rfl rfl rfl (by decide +kernel)
set_option maxRecDepth 65536 in
theorem w_c1 : (Jvm.Cond.code ({ cls := "com/example/resultwire/resultwire/er7/PieceIndexEndPinLaw", name := "ch", desc := "(JIII)C" } : Jvm.MethodName) method_3_code (5 : Nat) (Option.some Jvm.ClassFile.FieldType.char)).before args0 about1 = true := code_word (m := ⟨1, 2⟩) (meth := k1m2) (c := k1c2) (by decide +kernel) rfl rfl rfl (by decide +kernel)
set_option maxRecDepth 65536 in
theorem w_c2 : (Jvm.Cond.code ({ cls := "java/lang/String", name := "<init>", desc := "([C)V" } : Jvm.MethodName) jdk_42_method_3_code (2 : Nat) (Option.none : Option Jvm.ClassFile.FieldType)).before args0 about1 = true := code_word (m := ⟨7, 1⟩) (meth := k7m1) (c := k7c1) (by decide +kernel) rfl rfl rfl (by decide +kernel)
set_option maxRecDepth 65536 in
theorem w_c3 : (Jvm.Cond.code ({ cls := "java/lang/String", name := "<init>", desc := "([CIILjava/lang/Void;)V" } : Jvm.MethodName) jdk_42_method_149_code (6 : Nat) (Option.none : Option Jvm.ClassFile.FieldType)).before args0 about1 = true := code_word (m := ⟨7, 5⟩) (meth := k7m5) (c := k7c5) (by decide +kernel) rfl rfl rfl (by decide +kernel)
set_option maxRecDepth 65536 in
theorem w_c4 : (Jvm.Cond.code ({ cls := "java/lang/Object", name := "<init>", desc := "()V" } : Jvm.MethodName) object_method_1_code (1 : Nat) (Option.none : Option Jvm.ClassFile.FieldType)).before args0 about1 = true := code_word (m := ⟨0, 0⟩) (meth := k0m0) (c := k0c0) (by decide +kernel) rfl rfl rfl (by decide +kernel)
set_option maxRecDepth 65536 in
theorem w_c5 : (Jvm.Cond.code ({ cls := "java/lang/StringUTF16", name := "compress", desc := "([CII)[B" } : Jvm.MethodName) jdk_52_method_16_code (6 : Nat) (Option.some (Jvm.ClassFile.FieldType.array Jvm.ClassFile.FieldType.byte))).before args0 about1 = true := code_word (m := ⟨8, 2⟩) (meth := k8m2) (c := k8c2) (by decide +kernel) rfl rfl rfl (by decide +kernel)
set_option maxRecDepth 65536 in
theorem w_c6 : (Jvm.Cond.code ({ cls := "java/lang/StringUTF16", name := "compress", desc := "([CI[BII)I" } : Jvm.MethodName) jdk_52_method_21_code (7 : Nat) (Option.some Jvm.ClassFile.FieldType.int)).before args0 about1 = true := code_word (m := ⟨8, 3⟩) (meth := k8m3) (c := k8c3) (by decide +kernel) rfl rfl rfl (by decide +kernel)
set_option maxRecDepth 65536 in
theorem w_c7 : (Jvm.Cond.code ({ cls := "java/lang/StringUTF16", name := "coderFromArrayLen", desc := "([BI)B" } : Jvm.MethodName) jdk_52_method_15_code (2 : Nat) (Option.some Jvm.ClassFile.FieldType.byte)).before args0 about1 = true := code_word (m := ⟨8, 1⟩) (meth := k8m1) (c := k8c1) (by decide +kernel) rfl rfl rfl (by decide +kernel)
set_option maxRecDepth 65536 in
theorem w_c8 : (Jvm.Cond.code ({ cls := "com/example/resultwire/resultwire/er7/PieceIndex", name := "<init>", desc := "(Ljava/lang/String;III)V" } : Jvm.MethodName) prog_140_method_1_code (5 : Nat) (Option.none : Option Jvm.ClassFile.FieldType)).before args0 about1 = true := code_word (m := ⟨9, 0⟩) (meth := k9m0) (c := k9c0) (by decide +kernel) rfl rfl rfl (by decide +kernel)
set_option maxRecDepth 65536 in
theorem w_c9 : (Jvm.Cond.code ({ cls := "com/example/resultwire/resultwire/er7/PieceIndex", name := "<init>", desc := "(Ljava/lang/String;III[II)V" } : Jvm.MethodName) prog_140_method_2_code (7 : Nat) (Option.none : Option Jvm.ClassFile.FieldType)).before args0 about1 = true := code_word (m := ⟨9, 1⟩) (meth := k9m1) (c := k9c1) (by decide +kernel) rfl rfl rfl (by decide +kernel)
set_option maxRecDepth 65536 in
theorem w_c10 : (Jvm.Cond.code ({ cls := "com/example/resultwire/resultwire/er7/PieceIndex", name := "reach", desc := "(I)Lcom/example/resultwire/resultwire/er7/PieceIndex;" } : Jvm.MethodName) prog_140_method_3_code (6 : Nat) (Option.some (Jvm.ClassFile.FieldType.object "com/example/resultwire/resultwire/er7/PieceIndex"))).before args0 about1 = true := code_word (m := ⟨9, 2⟩) (meth := k9m2) (c := k9c2) (by decide +kernel) rfl rfl rfl (by decide +kernel)
set_option maxRecDepth 65536 in
theorem w_c11 : (Jvm.Cond.code ({ cls := "java/lang/Math", name := "max", desc := "(II)I" } : Jvm.MethodName) jdk_29_method_65_code (2 : Nat) (Option.some Jvm.ClassFile.FieldType.int)).before args0 about1 = true := code_word (m := ⟨10, 1⟩) (meth := k10m1) (c := k10c1) (by decide +kernel) rfl rfl rfl (by decide +kernel)
set_option maxRecDepth 65536 in
theorem w_c12 : (Jvm.Cond.code ({ cls := "java/util/Arrays", name := "copyOf", desc := "([II)[I" } : Jvm.MethodName) jdk_65_method_123_code (3 : Nat) (Option.some (Jvm.ClassFile.FieldType.array Jvm.ClassFile.FieldType.int))).before args0 about1 = true := code_word (m := ⟨11, 1⟩) (meth := k11m1) (c := k11c1) (by decide +kernel) rfl rfl rfl (by decide +kernel)
set_option maxRecDepth 65536 in
theorem w_c13 : (Jvm.Cond.code ({ cls := "java/lang/Math", name := "min", desc := "(II)I" } : Jvm.MethodName) jdk_29_method_69_code (2 : Nat) (Option.some Jvm.ClassFile.FieldType.int)).before args0 about1 = true := code_word (m := ⟨10, 2⟩) (meth := k10m2) (c := k10c2) (by decide +kernel) rfl rfl rfl (by decide +kernel)
set_option maxRecDepth 65536 in
theorem w_c14 : (Jvm.Cond.code ({ cls := "com/example/resultwire/resultwire/er7/Pieces", name := "<init>", desc := "(Ljava/lang/String;III)V" } : Jvm.MethodName) prog_142_method_1_code (5 : Nat) (Option.none : Option Jvm.ClassFile.FieldType)).before args0 about1 = true := code_word (m := ⟨13, 0⟩) (meth := k13m0) (c := k13c0) (by decide +kernel) rfl rfl rfl (by decide +kernel)
set_option maxRecDepth 65536 in
theorem w_c15 : (Jvm.Cond.code ({ cls := "com/example/resultwire/resultwire/er7/Pieces", name := "hasNext", desc := "()Z" } : Jvm.MethodName) prog_142_method_9_code (1 : Nat) (Option.some Jvm.ClassFile.FieldType.boolean)).before args0 about1 = true := code_word (m := ⟨13, 4⟩) (meth := k13m4) (c := k13c4) (by decide +kernel) rfl rfl rfl (by decide +kernel)
set_option maxRecDepth 65536 in
theorem w_c16 : (Jvm.Cond.code ({ cls := "com/example/resultwire/resultwire/er7/Pieces", name := "advance", desc := "()V" } : Jvm.MethodName) prog_142_method_8_code (1 : Nat) (Option.none : Option Jvm.ClassFile.FieldType)).before args0 about1 = true := code_word (m := ⟨13, 3⟩) (meth := k13m3) (c := k13c3) (by decide +kernel) rfl rfl rfl (by decide +kernel)
set_option maxRecDepth 65536 in
theorem w_c17 : (Jvm.Cond.code ({ cls := "com/example/resultwire/resultwire/er7/Pieces", name := "endOf", desc := "(Ljava/lang/String;III)I" } : Jvm.MethodName) prog_142_method_3_code (6 : Nat) (Option.some Jvm.ClassFile.FieldType.int)).before args0 about1 = true := code_word (m := ⟨13, 1⟩) (meth := k13m1) (c := k13c1) (by decide +kernel) rfl rfl rfl (by decide +kernel)
set_option maxRecDepth 65536 in
theorem w_c18 : (Jvm.Cond.code ({ cls := "java/lang/String", name := "length", desc := "()I" } : Jvm.MethodName) jdk_42_method_54_code (1 : Nat) (Option.some Jvm.ClassFile.FieldType.int)).before args0 about1 = true := code_word (m := ⟨7, 2⟩) (meth := k7m2) (c := k7c2) (by decide +kernel) rfl rfl rfl (by decide +kernel)
set_option maxRecDepth 65536 in
theorem w_c19 : (Jvm.Cond.code ({ cls := "java/lang/String", name := "coder", desc := "()B" } : Jvm.MethodName) jdk_42_method_152_code (1 : Nat) (Option.some Jvm.ClassFile.FieldType.byte)).before args0 about1 = true := code_word (m := ⟨7, 6⟩) (meth := k7m6) (c := k7c6) (by decide +kernel) rfl rfl rfl (by decide +kernel)
set_option maxRecDepth 65536 in
theorem w_c20 : (Jvm.Cond.code ({ cls := "com/example/resultwire/resultwire/er7/Pieces", name := "end", desc := "()I" } : Jvm.MethodName) prog_142_method_7_code (1 : Nat) (Option.some Jvm.ClassFile.FieldType.int)).before args0 about1 = true := code_word (m := ⟨13, 2⟩) (meth := k13m2) (c := k13c2) (by decide +kernel) rfl rfl rfl (by decide +kernel)
set_option maxRecDepth 65536 in
theorem w_c21 : (Jvm.Cond.code ({ cls := "com/example/resultwire/resultwire/er7/PieceIndex", name := "end", desc := "(I)I" } : Jvm.MethodName) prog_140_method_5_code (2 : Nat) (Option.some Jvm.ClassFile.FieldType.int)).before args0 about1 = true := code_word (m := ⟨9, 3⟩) (meth := k9m3) (c := k9c3) (by decide +kernel) rfl rfl rfl (by decide +kernel)
set_option maxRecDepth 65536 in
theorem w_c22 : (Jvm.Cond.code ({ cls := "com/example/resultwire/resultwire/er7/PieceIndexEndPinLaw", name := "isD", desc := "([CIIII)Z" } : Jvm.MethodName) method_4_code (5 : Nat) (Option.some Jvm.ClassFile.FieldType.boolean)).before args0 about1 = true := code_word (m := ⟨1, 3⟩) (meth := k1m3) (c := k1c3) (by decide +kernel) rfl rfl rfl (by decide +kernel)
set_option maxRecDepth 65536 in
theorem w_c23 : (Jvm.Cond.code ({ cls := "java/lang/String", name := "indexOf", desc := "(II)I" } : Jvm.MethodName) jdk_42_method_80_code (3 : Nat) (Option.some Jvm.ClassFile.FieldType.int)).before args0 about1 = true := code_word (m := ⟨7, 4⟩) (meth := k7m4) (c := k7c4) (by decide +kernel) rfl rfl rfl (by decide +kernel)
set_option maxRecDepth 65536 in
theorem w_c24 : (Jvm.Cond.code ({ cls := "java/lang/String", name := "isLatin1", desc := "()Z" } : Jvm.MethodName) jdk_42_method_154_code (1 : Nat) (Option.some Jvm.ClassFile.FieldType.boolean)).before args0 about1 = true := code_word (m := ⟨7, 7⟩) (meth := k7m7) (c := k7c7) (by decide +kernel) rfl rfl rfl (by decide +kernel)
set_option maxRecDepth 65536 in
theorem w_c25 : (Jvm.Cond.code ({ cls := "java/lang/StringLatin1", name := "indexOf", desc := "([BIII)I" } : Jvm.MethodName) jdk_43_method_22_code (4 : Nat) (Option.some Jvm.ClassFile.FieldType.int)).before args0 about1 = true := code_word (m := ⟨14, 3⟩) (meth := k14m3) (c := k14c3) (by decide +kernel) rfl rfl rfl (by decide +kernel)
set_option maxRecDepth 65536 in
theorem w_c26 : (Jvm.Cond.code ({ cls := "java/lang/StringLatin1", name := "canEncode", desc := "(I)Z" } : Jvm.MethodName) jdk_43_method_4_code (1 : Nat) (Option.some Jvm.ClassFile.FieldType.boolean)).before args0 about1 = true := code_word (m := ⟨14, 2⟩) (meth := k14m2) (c := k14c2) (by decide +kernel) rfl rfl rfl (by decide +kernel)
set_option maxRecDepth 65536 in
theorem w_c27 : (Jvm.Cond.code ({ cls := "java/lang/String", name := "charAt", desc := "(I)C" } : Jvm.MethodName) jdk_42_method_56_code (2 : Nat) (Option.some Jvm.ClassFile.FieldType.char)).before args0 about1 = true := code_word (m := ⟨7, 3⟩) (meth := k7m3) (c := k7c3) (by decide +kernel) rfl rfl rfl (by decide +kernel)
set_option maxRecDepth 65536 in
theorem w_c28 : (Jvm.Cond.code ({ cls := "java/lang/StringLatin1", name := "charAt", desc := "([BI)C" } : Jvm.MethodName) jdk_43_method_2_code (2 : Nat) (Option.some Jvm.ClassFile.FieldType.char)).before args0 about1 = true := code_word (m := ⟨14, 1⟩) (meth := k14m1) (c := k14c1) (by decide +kernel) rfl rfl rfl (by decide +kernel)
set_option maxRecDepth 65536 in
theorem w_c29 : (Jvm.Cond.code ({ cls := "java/lang/String", name := "checkIndex", desc := "(II)V" } : Jvm.MethodName) jdk_42_method_155_code (2 : Nat) (Option.none : Option Jvm.ClassFile.FieldType)).before args0 about1 = true := code_word (m := ⟨7, 8⟩) (meth := k7m8) (c := k7c8) (by decide +kernel) rfl rfl rfl (by decide +kernel)
set_option maxRecDepth 65536 in
theorem w_c30 : (Jvm.Cond.code ({ cls := "jdk/internal/util/Preconditions", name := "checkIndex", desc := "(IILjava/util/function/BiFunction;)I" } : Jvm.MethodName) jdk_41_method_11_code (3 : Nat) (Option.some Jvm.ClassFile.FieldType.int)).before args0 about1 = true := code_word (m := ⟨15, 1⟩) (meth := k15m1) (c := k15c1) (by decide +kernel) rfl rfl rfl (by decide +kernel)
set_option maxRecDepth 65536 in
theorem w_c31 : (Jvm.Cond.code ({ cls := "java/lang/StringLatin1", name := "indexOfChar", desc := "([BIII)I" } : Jvm.MethodName) jdk_43_method_23_code (6 : Nat) (Option.some Jvm.ClassFile.FieldType.int)).before args0 about1 = true := code_word (m := ⟨14, 4⟩) (meth := k14m4) (c := k14c4) (by decide +kernel) rfl rfl rfl (by decide +kernel)
def codes1 : List Jvm.Cond := [Jvm.Cond.code x code maxLocals ret, Jvm.Cond.code ({ cls := "com/example/resultwire/resultwire/er7/PieceIndexEndPinLaw", name := "ch", desc := "(JIII)C" } : Jvm.MethodName) method_3_code (5 : Nat) (Option.some Jvm.ClassFile.FieldType.char), Jvm.Cond.code ({ cls := "java/lang/String", name := "<init>", desc := "([C)V" } : Jvm.MethodName) jdk_42_method_3_code (2 : Nat) (Option.none : Option Jvm.ClassFile.FieldType), Jvm.Cond.code ({ cls := "java/lang/String", name := "<init>", desc := "([CIILjava/lang/Void;)V" } : Jvm.MethodName) jdk_42_method_149_code (6 : Nat) (Option.none : Option Jvm.ClassFile.FieldType), Jvm.Cond.code ({ cls := "java/lang/Object", name := "<init>", desc := "()V" } : Jvm.MethodName) object_method_1_code (1 : Nat) (Option.none : Option Jvm.ClassFile.FieldType), Jvm.Cond.code ({ cls := "java/lang/StringUTF16", name := "compress", desc := "([CII)[B" } : Jvm.MethodName) jdk_52_method_16_code (6 : Nat) (Option.some (Jvm.ClassFile.FieldType.array Jvm.ClassFile.FieldType.byte)), Jvm.Cond.code ({ cls := "java/lang/StringUTF16", name := "compress", desc := "([CI[BII)I" } : Jvm.MethodName) jdk_52_method_21_code (7 : Nat) (Option.some Jvm.ClassFile.FieldType.int), Jvm.Cond.code ({ cls := "java/lang/StringUTF16", name := "coderFromArrayLen", desc := "([BI)B" } : Jvm.MethodName) jdk_52_method_15_code (2 : Nat) (Option.some Jvm.ClassFile.FieldType.byte), Jvm.Cond.code ({ cls := "com/example/resultwire/resultwire/er7/PieceIndex", name := "<init>", desc := "(Ljava/lang/String;III)V" } : Jvm.MethodName) prog_140_method_1_code (5 : Nat) (Option.none : Option Jvm.ClassFile.FieldType), Jvm.Cond.code ({ cls := "com/example/resultwire/resultwire/er7/PieceIndex", name := "<init>", desc := "(Ljava/lang/String;III[II)V" } : Jvm.MethodName) prog_140_method_2_code (7 : Nat) (Option.none : Option Jvm.ClassFile.FieldType), Jvm.Cond.code ({ cls := "com/example/resultwire/resultwire/er7/PieceIndex", name := "reach", desc := "(I)Lcom/example/resultwire/resultwire/er7/PieceIndex;" } : Jvm.MethodName) prog_140_method_3_code (6 : Nat) (Option.some (Jvm.ClassFile.FieldType.object "com/example/resultwire/resultwire/er7/PieceIndex")), Jvm.Cond.code ({ cls := "java/lang/Math", name := "max", desc := "(II)I" } : Jvm.MethodName) jdk_29_method_65_code (2 : Nat) (Option.some Jvm.ClassFile.FieldType.int), Jvm.Cond.code ({ cls := "java/util/Arrays", name := "copyOf", desc := "([II)[I" } : Jvm.MethodName) jdk_65_method_123_code (3 : Nat) (Option.some (Jvm.ClassFile.FieldType.array Jvm.ClassFile.FieldType.int)), Jvm.Cond.code ({ cls := "java/lang/Math", name := "min", desc := "(II)I" } : Jvm.MethodName) jdk_29_method_69_code (2 : Nat) (Option.some Jvm.ClassFile.FieldType.int), Jvm.Cond.code ({ cls := "com/example/resultwire/resultwire/er7/Pieces", name := "<init>", desc := "(Ljava/lang/String;III)V" } : Jvm.MethodName) prog_142_method_1_code (5 : Nat) (Option.none : Option Jvm.ClassFile.FieldType), Jvm.Cond.code ({ cls := "com/example/resultwire/resultwire/er7/Pieces", name := "hasNext", desc := "()Z" } : Jvm.MethodName) prog_142_method_9_code (1 : Nat) (Option.some Jvm.ClassFile.FieldType.boolean), Jvm.Cond.code ({ cls := "com/example/resultwire/resultwire/er7/Pieces", name := "advance", desc := "()V" } : Jvm.MethodName) prog_142_method_8_code (1 : Nat) (Option.none : Option Jvm.ClassFile.FieldType), Jvm.Cond.code ({ cls := "com/example/resultwire/resultwire/er7/Pieces", name := "endOf", desc := "(Ljava/lang/String;III)I" } : Jvm.MethodName) prog_142_method_3_code (6 : Nat) (Option.some Jvm.ClassFile.FieldType.int), Jvm.Cond.code ({ cls := "java/lang/String", name := "length", desc := "()I" } : Jvm.MethodName) jdk_42_method_54_code (1 : Nat) (Option.some Jvm.ClassFile.FieldType.int), Jvm.Cond.code ({ cls := "java/lang/String", name := "coder", desc := "()B" } : Jvm.MethodName) jdk_42_method_152_code (1 : Nat) (Option.some Jvm.ClassFile.FieldType.byte), Jvm.Cond.code ({ cls := "com/example/resultwire/resultwire/er7/Pieces", name := "end", desc := "()I" } : Jvm.MethodName) prog_142_method_7_code (1 : Nat) (Option.some Jvm.ClassFile.FieldType.int), Jvm.Cond.code ({ cls := "com/example/resultwire/resultwire/er7/PieceIndex", name := "end", desc := "(I)I" } : Jvm.MethodName) prog_140_method_5_code (2 : Nat) (Option.some Jvm.ClassFile.FieldType.int), Jvm.Cond.code ({ cls := "com/example/resultwire/resultwire/er7/PieceIndexEndPinLaw", name := "isD", desc := "([CIIII)Z" } : Jvm.MethodName) method_4_code (5 : Nat) (Option.some Jvm.ClassFile.FieldType.boolean), Jvm.Cond.code ({ cls := "java/lang/String", name := "indexOf", desc := "(II)I" } : Jvm.MethodName) jdk_42_method_80_code (3 : Nat) (Option.some Jvm.ClassFile.FieldType.int), Jvm.Cond.code ({ cls := "java/lang/String", name := "isLatin1", desc := "()Z" } : Jvm.MethodName) jdk_42_method_154_code (1 : Nat) (Option.some Jvm.ClassFile.FieldType.boolean), Jvm.Cond.code ({ cls := "java/lang/StringLatin1", name := "indexOf", desc := "([BIII)I" } : Jvm.MethodName) jdk_43_method_22_code (4 : Nat) (Option.some Jvm.ClassFile.FieldType.int), Jvm.Cond.code ({ cls := "java/lang/StringLatin1", name := "canEncode", desc := "(I)Z" } : Jvm.MethodName) jdk_43_method_4_code (1 : Nat) (Option.some Jvm.ClassFile.FieldType.boolean), Jvm.Cond.code ({ cls := "java/lang/String", name := "charAt", desc := "(I)C" } : Jvm.MethodName) jdk_42_method_56_code (2 : Nat) (Option.some Jvm.ClassFile.FieldType.char), Jvm.Cond.code ({ cls := "java/lang/StringLatin1", name := "charAt", desc := "([BI)C" } : Jvm.MethodName) jdk_43_method_2_code (2 : Nat) (Option.some Jvm.ClassFile.FieldType.char), Jvm.Cond.code ({ cls := "java/lang/String", name := "checkIndex", desc := "(II)V" } : Jvm.MethodName) jdk_42_method_155_code (2 : Nat) (Option.none : Option Jvm.ClassFile.FieldType), Jvm.Cond.code ({ cls := "jdk/internal/util/Preconditions", name := "checkIndex", desc := "(IILjava/util/function/BiFunction;)I" } : Jvm.MethodName) jdk_41_method_11_code (3 : Nat) (Option.some Jvm.ClassFile.FieldType.int), Jvm.Cond.code ({ cls := "java/lang/StringLatin1", name := "indexOfChar", desc := "([BIII)I" } : Jvm.MethodName) jdk_43_method_23_code (6 : Nat) (Option.some Jvm.ClassFile.FieldType.int)]
set_option maxRecDepth 65536 in
theorem codes_eq : words1.filter isCode = codes1 := rfl
theorem w_codes : ∀ c ∈ words1.filter isCode, c.before args0 about1 = true := by
  rw [codes_eq]
  intro c hc
  simp only [codes1, List.mem_cons, List.not_mem_nil, or_false] at hc
  rcases hc with rfl | rfl | rfl | rfl | rfl | rfl | rfl | rfl | rfl | rfl | rfl | rfl | rfl | rfl | rfl | rfl | rfl | rfl | rfl | rfl | rfl | rfl | rfl | rfl | rfl | rfl | rfl | rfl | rfl | rfl | rfl | rfl
  · exact w_c0
  · exact w_c1
  · exact w_c2
  · exact w_c3
  · exact w_c4
  · exact w_c5
  · exact w_c6
  · exact w_c7
  · exact w_c8
  · exact w_c9
  · exact w_c10
  · exact w_c11
  · exact w_c12
  · exact w_c13
  · exact w_c14
  · exact w_c15
  · exact w_c16
  · exact w_c17
  · exact w_c18
  · exact w_c19
  · exact w_c20
  · exact w_c21
  · exact w_c22
  · exact w_c23
  · exact w_c24
  · exact w_c25
  · exact w_c26
  · exact w_c27
  · exact w_c28
  · exact w_c29
  · exact w_c30
  · exact w_c31
set_option maxRecDepth 65536 in
theorem w_t1 : (words1.take 24).all (fun c => isCode c || c.before args0 about1) = true := by decide +kernel
set_option maxRecDepth 65536 in
theorem w_t2 : ((words1.drop 24).take 24).all (fun c => isCode c || c.before args0 about1) = true := by decide +kernel
set_option maxRecDepth 65536 in
theorem w_t3 : (((words1.drop 24).drop 24).take 24).all (fun c => isCode c || c.before args0 about1) = true := by decide +kernel
set_option maxRecDepth 65536 in
theorem w_t4 : ((((words1.drop 24).drop 24).drop 24).take 24).all (fun c => isCode c || c.before args0 about1) = true := by decide +kernel
set_option maxRecDepth 65536 in
theorem w_t5 : (((((words1.drop 24).drop 24).drop 24).drop 24).take 24).all (fun c => isCode c || c.before args0 about1) = true := by decide +kernel
set_option maxRecDepth 65536 in
theorem w_t6 : ((((((words1.drop 24).drop 24).drop 24).drop 24).drop 24).take 24).all (fun c => isCode c || c.before args0 about1) = true := by decide +kernel
set_option maxRecDepth 65536 in
theorem w_t7 : (((((((words1.drop 24).drop 24).drop 24).drop 24).drop 24).drop 24).take 24).all (fun c => isCode c || c.before args0 about1) = true := by decide +kernel
set_option maxRecDepth 65536 in
theorem w_t8 : (((((((words1.drop 24).drop 24).drop 24).drop 24).drop 24).drop 24).drop 24).all (fun c => isCode c || c.before args0 about1) = true := by decide +kernel
theorem w_tables : (allAtoms (Jvm.Cond.code x code maxLocals ret :: tables_1)).before args0 about1 = true := by
  rw [allAtoms_all]
  show words1.all (fun c => c.before args0 about1) = true
  refine all_split ?_ w_codes
  rw [← List.take_append_drop 24 words1, List.all_append, w_t1, ← List.take_append_drop 24 (words1.drop 24), List.all_append, w_t2, ← List.take_append_drop 24 ((words1.drop 24).drop 24), List.all_append, w_t3, ← List.take_append_drop 24 (((words1.drop 24).drop 24).drop 24), List.all_append, w_t4, ← List.take_append_drop 24 ((((words1.drop 24).drop 24).drop 24).drop 24), List.all_append, w_t5, ← List.take_append_drop 24 (((((words1.drop 24).drop 24).drop 24).drop 24).drop 24), List.all_append, w_t6, ← List.take_append_drop 24 ((((((words1.drop 24).drop 24).drop 24).drop 24).drop 24).drop 24), List.all_append, w_t7, w_t8]
  rfl
set_option maxRecDepth 65536 in
theorem w_rest : rest_1_c.before args0 about1 = true := by decide +kernel
set_option maxRecDepth 65536 in
theorem w_case : (Jvm.Cond.and given_1 narrow_1).before args0 about1 = true := by decide +kernel
theorem w_applies : (headSpec (Jvm.Cond.code x code maxLocals ret :: tables_1) room_1).applies x e0.platform about1 = true :=
  (Spec.applies_iff w_frames).mpr ⟨w_running, w_runnable, w_alone, w_named, w_hears, w_ripe, w_room, w_tables⟩
theorem atStart : AtStart classFile x code maxLocals ret World_1 tables_1 room_1 Calls_1 rest_1 Pre_1 launch0 p0 e0 about1 theMethod args0 below0 :=
  ⟨lists_1, trivial, launch0.admits_env _ _ _, launch0.least_env, fairChoices_fair.cas, fairChoices_fair.clock, w_frames, w_args, w_heap, w_applies, trivial, w_rest, w_case⟩
end start1
theorem witness_1 : WitnessClaimed_1 := ⟨start1.p0, start1.e0, start1.about1, start1.theMethod, start1.args0, start1.below0, start1.atStart⟩
end Jvm.Pilot.@@N@@
