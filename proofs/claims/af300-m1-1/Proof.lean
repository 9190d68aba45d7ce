import JvmDerived
import JvmDerived.Pilot.@@N@@Statement
import JvmDerived.Pilot.@@N@@Code
set_option linter.unusedVariables false
set_option linter.unusedSimpArgs false
namespace Jvm.RoadKit
open Sem ClassFile Op Lib Jvm.Stand Jvm.Free Jvm.LawKit
section New
variable {p : Program} {l : Launch} {e : Env} {R : Room} {s : State} {m : MethodId} {args : Array Value} {below : List Frame} {meth : Method} {c : Code} {T : State} {locs : List Loc} {cells slots : Nat}
theorem retI (X : Stand p l e R s m args below meth c T locs cells slots) (hx : p.tables.exec = Jvm.exec) {pc : Nat} {Ls : Array Slot} {z : Int32} {rest : List Value} (hret : meth.sig.returnType = some .int) (hd : decode c.code pc = .ok (.ireturn, 1)) {fs : List Frame}
    (hl : ∀ (f : JFrame) (acts : List Action), f.method = m → f.locked = none → f.entered = [] → (doReturn e (T.setTop f) acts (some (.int z))).1 = T.setFrames fs) : Steps p.tables e below (T.setTop (mkF m pc Ls (.int z :: rest))) (T.setFrames fs) := by
  have hm' : T.vm.method? m = some meth := X.method'
  have hn : narrow .int (.int z) = .int z := rfl
  show Steps p.tables e below (T.setTop { method := m, pc := pc, locals := Ls, stack := _ :: rest, locked := none }) _
  jvm_step X.here [X.here.top, hx, hd, hm', hret, hn]
  first | (intro acts; rw [hl _ acts rfl rfl rfl]) | rw [hl _ _ rfl rfl rfl]
  exact Steps.refl _
end New
end Jvm.RoadKit
/- laws to paste: Road.backV, Road.eqW, Road.codOf (cut by pick.py; bodies as the Statement names them) -/
namespace Jvm.Pilot.@@N@@
namespace StrChars
open Jvm Sem ClassFile Op Lib Jvm.Stand Jvm.Free.XT Jvm.Free.ALB Jvm.Free.JM Jvm.Free
open Jvm.Lib.Cold (StaticIs)
/-- a char array whose places are chars -/
def Ch (a : Addr) (A : Cell) (U : State) : Prop := Arr .char a A U ∧ Typed .char A
theorem Ch.mv {a : Addr} {A : Cell} {U U' : State} (h : Ch a A U) (hal : U.vm.Alike U'.vm) (hh : U'.heap = U.heap) : Ch a A U' := ⟨h.1.mv hal hh, h.2⟩
theorem Ch.keep {a : Addr} {A : Cell} {U U' : State} (h : Ch a A U) (hal : U.vm.Alike U'.vm) (hk : U'.heap[a]? = some A) : Ch a A U' := ⟨h.1.keep hal hk, h.2⟩
/-- what place i of a char[]'s cell holds -/
def cv (A : Cell) (i : Nat) : Int32 := match A.slots[i]? with | some (.int x) => x | _ => 0
theorem Ch.get {a : Addr} {A : Cell} {U : State} (h : Ch a A U) {i : Nat} (hi : i < A.slots.size) : A.slots[i]? = some (.int (cv A i)) := by
  have e := Array.getElem?_eq_getElem hi
  have f := h.2 i _ e
  unfold cv; rw [e]
  generalize A.slots[i] = v at f
  cases v <;> simp [fits] at f ⊢
/-- the byte that i2b leaves of a char -/
def lo8 (x : Int32) : Int32 := x.toInt8.toInt32
theorem fits_lo8 (y : Int32) : fits .byte (.int (lo8 y)) = true := by
  have h1 := y.toInt8.le_toInt
  have h2 := y.toInt8.toInt_lt
  simp only [lo8, fits, Bool.and_eq_true, decide_eq_true_eq, Int32.le_iff_toInt_le, Int8.toInt_toInt32, show (-128 : Int32).toInt = -128 from by decide, show (127 : Int32).toInt = 127 from by decide]
  omega
/-- A' is A but that each place j of lo .. hi - 1 holds f j -/
def Laid (A A' : Cell) (lo hi : Nat) (f : Nat → Value) : Prop := A'.cls = A.cls ∧ A'.vm = A.vm ∧ A'.slots.size = A.slots.size ∧ ∀ i, A'.slots[i]? = if lo ≤ i ∧ i < hi then some (f i) else A.slots[i]?
theorem Laid.zero (A : Cell) (lo : Nat) (f : Nat → Value) : Laid A A lo (lo + 0) f := ⟨rfl, rfl, rfl, fun i => by rw [if_neg (by omega)]⟩
theorem Laid.step {A Ak : Cell} {lo k : Nat} {f : Nat → Value} {v : Value} (h : Laid A Ak lo k f) (hlo : lo ≤ k) (hk : k < Ak.slots.size) (hv : v = f k) : Laid A (Ak.setSlot k v) lo (k + 1) f := by
  refine ⟨h.1, h.2.1, by simpa [Cell.setSlot] using h.2.2.1, fun i => ?_⟩
  by_cases e : k = i
  · subst e; rw [Cell.slots_setSlot_self v hk, if_pos (by omega), hv]
  · rw [Cell.slots_setSlot_ne v e, h.2.2.2 i]
    by_cases q : lo ≤ i ∧ i < k
    · rw [if_pos q, if_pos (by omega)]
    · rw [if_neg q, if_neg (by omega)]
def U16 : String := "java/lang/StringUTF16"
namespace Cmp5
def yN : MethodName := ⟨"java/lang/StringUTF16", "compress", "([CI[BII)I"⟩
abbrev yB : ByteArray := jdk_52_method_21_code
theorem d0 : decode yB 0 = .ok (.iconst 0, 1) := by decide +kernel
theorem d1 : decode yB 1 = .ok (.istore 5, 2) := by decide +kernel
theorem d3 : decode yB 3 = .ok (.iload 5, 2) := by decide +kernel
theorem d5 : decode yB 5 = .ok (.iload 4, 2) := by decide +kernel
theorem d7 : decode yB 7 = .ok (.if_icmp (.ge) 37, 3) := by decide +kernel
theorem d10 : decode yB 10 = .ok (.aload_n 0, 1) := by decide +kernel
theorem d11 : decode yB 11 = .ok (.iload_n 1, 1) := by decide +kernel
theorem d12 : decode yB 12 = .ok (.caload, 1) := by decide +kernel
theorem d13 : decode yB 13 = .ok (.istore 6, 2) := by decide +kernel
theorem d15 : decode yB 15 = .ok (.iload 6, 2) := by decide +kernel
theorem d17 : decode yB 17 = .ok (.sipush 255, 3) := by decide +kernel
theorem d20 : decode yB 20 = .ok (.if_icmp (.le) 6, 3) := by decide +kernel
theorem d26 : decode yB 26 = .ok (.aload_n 2, 1) := by decide +kernel
theorem d27 : decode yB 27 = .ok (.iload_n 3, 1) := by decide +kernel
theorem d28 : decode yB 28 = .ok (.iload 6, 2) := by decide +kernel
theorem d30 : decode yB 30 = .ok (.i2b, 1) := by decide +kernel
theorem d31 : decode yB 31 = .ok (.bastore, 1) := by decide +kernel
theorem d32 : decode yB 32 = .ok (.iinc 1 1, 3) := by decide +kernel
theorem d35 : decode yB 35 = .ok (.iinc 3 1, 3) := by decide +kernel
theorem d38 : decode yB 38 = .ok (.iinc 5 1, 3) := by decide +kernel
theorem d41 : decode yB 41 = .ok (.goto (-38), 3) := by decide +kernel
theorem d44 : decode yB 44 = .ok (.iload 4, 2) := by decide +kernel
theorem d46 : decode yB 46 = .ok (.ireturn, 1) := by decide +kernel
def site : List Cond := []
def tab : Cond := tabOf yN yB 7 (some .int) site
def P (b : Addr) (A : Cell) (d : Addr) (B : Cell) (o q len : Nat) (args : Array Value) (s : State) : Prop := args = #[.ref b, .int (Int32.ofNat o), .ref d, .int (Int32.ofNat q), .int (Int32.ofNat len)] ∧ Ch b A s ∧ Arr .byte d B s ∧ b ≠ d ∧ o + len ≤ A.slots.size ∧ q + len ≤ B.slots.size ∧ ∀ i, i < len → ¬ 255 < cv A (o + i)
def E (b : Addr) (A : Cell) (d : Addr) (B : Cell) (o q len : Nat) (r : Option Value) (s u : State) : Prop := r = some (.int (Int32.ofNat len)) ∧ ∃ B', Put d B' s u ∧ Laid B B' q (q + len) (fun j => Value.int (lo8 (cv A (o + (j - q)))))
/-- no char of the range above 255: len; the places written hold each char's low byte -/
theorem law (l : Launch) (b : Addr) (A : Cell) (d : Addr) (B : Cell) (o q len : Nat) : Law l yN 5 5 0 0 yB 7 (some .int) site (P b A d B o q len) (E b A d B o q len) (copyLocs d q len) 0 0 := by
  refine Law.of_walk (plainFor_of_name (by decide +kernel)) (by decide +kernel) (by decide +kernel) (by decide) (fun _ _ h => by rw [h.1]; rfl) (fun _ U U' hal hh h => ⟨h.1, h.2.1.mv hal hh, h.2.2.1.mv hal hh, h.2.2.2⟩) (fun r U U' V V' h1 hal h2 h => ⟨h.1, h.2.elim fun B' q => ⟨B', q.1.mv h1 h2, q.2⟩⟩) ?_
  intro p e s m args below meth c s₁ X0 hexec hbytes hml hret hlk hnm hown hh0 W hP
  obtain ⟨rfl, hA, hB, hne, l1, l2, hp⟩ := hP
  have c1 : Steps p.tables e below (s₁.setTop (entryFrame m #[.ref b, .int (Int32.ofNat o), .ref d, .int (Int32.ofNat q), .int (Int32.ofNat len)] 7)) (s₁.setTop (mkF m 0 #[.val (.ref b), .val (.int (Int32.ofNat o)), .val (.ref d), .val (.int (Int32.ofNat q)), .val (.int (Int32.ofNat len)), .unset, .unset] [])) := entry rfl
  have hA0 := hA.1.mv X0.warmed.alike hh0
  have hB0 := hB.mv X0.warmed.alike hh0
  have a31 := hA.1.2.2.2
  have c2 : Steps p.tables e below (s₁.setTop (entryFrame m #[.ref b, .int (Int32.ofNat o), .ref d, .int (Int32.ofNat q), .int (Int32.ofNat len)] 7)) (s₁.setTop (mkF m 3 #[.val (.ref b), .val (.int (Int32.ofNat o)), .val (.ref d), .val (.int (Int32.ofNat q)), .val (.int (Int32.ofNat len)), .val (.int 0), .unset] [])) := c1.trans (by
    refine iconstV X0.here hexec rfl 0 (hb hbytes d0) (by decide) ?_
    refine XS.istore X0.here hexec rfl (hb hbytes d1) rfl rfl ?_
    exact Steps.refl _)
  have loop : ∀ (r i : Nat), i + r = len → ∀ (z : Slot), (z = .unset ∨ ∃ w, z = .val w ∧ w.category = 1) → ∀ (Tl : State) (Bk : Cell), Stand p l e { frames := 0, locals := 0, cells := 0, slots := 0 } s m #[.ref b, .int (Int32.ofNat o), .ref d, .int (Int32.ofNat q), .int (Int32.ofNat len)] below meth c Tl ([] ++ copyLocs d q i) 0 0 → Put d Bk s₁ Tl → Laid B Bk q (q + i) (fun j => Value.int (lo8 (cv A (o + (j - q))))) →
      Steps p.tables e below (s₁.setTop (entryFrame m #[.ref b, .int (Int32.ofNat o), .ref d, .int (Int32.ofNat q), .int (Int32.ofNat len)] 7)) (Tl.setTop (mkF m 3 #[.val (.ref b), .val (.int (Int32.ofNat (o + i))), .val (.ref d), .val (.int (Int32.ofNat (q + i))), .val (.int (Int32.ofNat len)), .val (.int (Int32.ofNat i)), z] [])) → ∃ (T' : State) (B' : Cell) (z' : Slot), Stand p l e { frames := 0, locals := 0, cells := 0, slots := 0 } s m #[.ref b, .int (Int32.ofNat o), .ref d, .int (Int32.ofNat q), .int (Int32.ofNat len)] below meth c T' ([] ++ copyLocs d q len) 0 0 ∧ Put d B' s₁ T' ∧ Laid B B' q (q + len) (fun j => Value.int (lo8 (cv A (o + (j - q))))) ∧
      Steps p.tables e below (s₁.setTop (entryFrame m #[.ref b, .int (Int32.ofNat o), .ref d, .int (Int32.ofNat q), .int (Int32.ofNat len)] 7)) (T'.setTop (mkF m 3 #[.val (.ref b), .val (.int (Int32.ofNat (o + len))), .val (.ref d), .val (.int (Int32.ofNat (q + len))), .val (.int (Int32.ofNat len)), .val (.int (Int32.ofNat len)), z'] [])) := by
    intro r
    induction r with
    | zero =>
      intro i hi z hz Tl Bk Xl pl fl cl
      have hil : i = len := by omega
      rw [hil] at Xl fl cl
      exact ⟨Tl, Bk, z, Xl, pl, fl, cl⟩
    | succ r ih =>
      intro i hi z hz Tl Bk Xl pl fl cl
      have all := X0.warmed.alike.symm.trans Xl.warmed.alike
      have hAl := hA0.keep all (pl.other hne hA0.1)
      have hBk := hB0.like all pl.1 fl.1 fl.2.1 fl.2.2.1
      have hlt : q + i < Bk.slots.size := by rw [fl.2.2.1]; omega
      have c3 : Steps p.tables e below (s₁.setTop (entryFrame m #[.ref b, .int (Int32.ofNat o), .ref d, .int (Int32.ofNat q), .int (Int32.ofNat len)] 7)) (Tl.setTop (mkF m 12 #[.val (.ref b), .val (.int (Int32.ofNat (o + i))), .val (.ref d), .val (.int (Int32.ofNat (q + i))), .val (.int (Int32.ofNat len)), .val (.int (Int32.ofNat i)), z] [.int (Int32.ofNat (o + i)), .ref b])) := cl.trans (by
        refine XS.iload Xl.here hexec rfl (hb hbytes d3) rfl ?_
        refine XS.iload Xl.here hexec rfl (hb hbytes d5) rfl ?_
        refine XS.icmpNo Xl.here hexec rfl (hb hbytes d7) rfl (ii_ge_f (lt32 (by omega) (by omega))) ?_
        refine XS.aloadN Xl.here hexec rfl (hb hbytes d10) rfl rfl ?_
        refine XS.iloadN Xl.here hexec rfl (hb hbytes d11) rfl ?_
        exact Steps.refl _)
      have c4 : Steps p.tables e below (s₁.setTop (entryFrame m #[.ref b, .int (Int32.ofNat o), .ref d, .int (Int32.ofNat q), .int (Int32.ofNat len)] 7)) (Tl.setTop (mkF m 13 #[.val (.ref b), .val (.int (Int32.ofNat (o + i))), .val (.ref d), .val (.int (Int32.ofNat (q + i))), .val (.int (Int32.ofNat len)), .val (.int (Int32.ofNat i)), z] [.int (cv A (o + i))])) := c3.trans (by
        refine Xl.aget hexec hAl rfl (hA.get (i := o + i) (by omega)) rfl rfl (hb hbytes d12) ?_
        exact Steps.refl _)
      have c5 : Steps p.tables e below (s₁.setTop (entryFrame m #[.ref b, .int (Int32.ofNat o), .ref d, .int (Int32.ofNat q), .int (Int32.ofNat len)] 7)) (Tl.setTop (mkF m 15 #[.val (.ref b), .val (.int (Int32.ofNat (o + i))), .val (.ref d), .val (.int (Int32.ofNat (q + i))), .val (.int (Int32.ofNat len)), .val (.int (Int32.ofNat i)), .val (.int (cv A (o + i)))] [])) := c4.trans (by
        refine XS.istoreS Xl.here hexec rfl (hb hbytes d13) rfl rfl hz ?_
        exact Steps.refl _)
      have c6 : Steps p.tables e below (s₁.setTop (entryFrame m #[.ref b, .int (Int32.ofNat o), .ref d, .int (Int32.ofNat q), .int (Int32.ofNat len)] 7)) (Tl.setTop (mkF m 31 #[.val (.ref b), .val (.int (Int32.ofNat (o + i))), .val (.ref d), .val (.int (Int32.ofNat (q + i))), .val (.int (Int32.ofNat len)), .val (.int (Int32.ofNat i)), .val (.int (cv A (o + i)))] [.int (lo8 (cv A (o + i))), .int (Int32.ofNat (q + i)), .ref d])) := c5.trans (by
        refine XS.iload Xl.here hexec rfl (hb hbytes d15) rfl ?_
        refine sipushV Xl.here hexec rfl 255 (hb hbytes d17) (by decide) ?_
        refine XS.icmpYes Xl.here hexec rfl (pc0 := 20) rfl (hb hbytes d20) rfl (ii_le_t (hp i (by omega))) (by decide) rfl ?_
        refine XS.aloadN Xl.here hexec rfl (hb hbytes d26) rfl rfl ?_
        refine XS.iloadN Xl.here hexec rfl (hb hbytes d27) rfl ?_
        refine XS.iload Xl.here hexec rfl (hb hbytes d28) rfl ?_
        refine i2b Xl.here hexec rfl (hb hbytes d30) rfl ?_
        exact Steps.refl _)
      obtain ⟨T7, X7, p7, st7⟩ := Xl.aput hexec hBk rfl hlt rfl (fits_lo8 (cv A (o + i))) (g := (mkF m 31 #[.val (.ref b), .val (.int (Int32.ofNat (o + i))), .val (.ref d), .val (.int (Int32.ofNat (q + i))), .val (.int (Int32.ofNat len)), .val (.int (Int32.ofNat i)), .val (.int (cv A (o + i)))] [.int (lo8 (cv A (o + i))), .int (Int32.ofNat (q + i)), .ref d])) rfl (rest := []) rfl (hb hbytes d31)
      have c8 : Steps p.tables e below (s₁.setTop (entryFrame m #[.ref b, .int (Int32.ofNat o), .ref d, .int (Int32.ofNat q), .int (Int32.ofNat len)] 7)) (T7.setTop (mkF m 32 #[.val (.ref b), .val (.int (Int32.ofNat (o + i))), .val (.ref d), .val (.int (Int32.ofNat (q + i))), .val (.int (Int32.ofNat len)), .val (.int (Int32.ofNat i)), .val (.int (cv A (o + i)))] [])) := c6.trans (st7 _ (Steps.refl _))
      have c9 : Steps p.tables e below (s₁.setTop (entryFrame m #[.ref b, .int (Int32.ofNat o), .ref d, .int (Int32.ofNat q), .int (Int32.ofNat len)] 7)) (T7.setTop (mkF m 3 #[.val (.ref b), .val (.int (Int32.ofNat (o + i) + 1)), .val (.ref d), .val (.int (Int32.ofNat (q + i) + 1)), .val (.int (Int32.ofNat len)), .val (.int (Int32.ofNat i + 1)), .val (.int (cv A (o + i)))] [])) := c8.trans (by
        refine iincV X7.here hexec rfl 1 (hb hbytes d32) (by decide) rfl rfl ?_
        refine iincV X7.here hexec rfl 1 (hb hbytes d35) (by decide) rfl rfl ?_
        refine iincV X7.here hexec rfl 1 (hb hbytes d38) (by decide) rfl rfl ?_
        refine XS.goto X7.here hexec rfl (pc0 := 41) rfl (hb hbytes d41) (by decide) rfl ?_
        exact Steps.refl _)
      have c10 : Steps p.tables e below (s₁.setTop (entryFrame m #[.ref b, .int (Int32.ofNat o), .ref d, .int (Int32.ofNat q), .int (Int32.ofNat len)] 7)) (T7.setTop (mkF m 3 #[.val (.ref b), .val (.int (Int32.ofNat (o + (i + 1)))), .val (.ref d), .val (.int (Int32.ofNat (q + (i + 1)))), .val (.int (Int32.ofNat len)), .val (.int (Int32.ofNat (i + 1))), .val (.int (cv A (o + i)))] [])) := by
        have := c9
        rw [succ32, succ32, succ32] at this
        exact this
      exact ih (i + 1) (by omega) _ (Or.inr ⟨_, rfl, rfl⟩) T7 _ (by rw [copyLocs_step, ← List.append_assoc]; exact X7) (pl.trans p7) (fl.step (by omega) hlt (by simp)) c10
  obtain ⟨T9, B9, z9, X9, p9, f9, g9⟩ := loop len 0 (by omega) .unset (Or.inl rfl) s₁ B (by simpa [copyLocs] using X0) ⟨hB0.1, fun _ _ => rfl, rfl⟩ (Laid.zero _ _ _) c2
  have c11 : Steps p.tables e below (s₁.setTop (entryFrame m #[.ref b, .int (Int32.ofNat o), .ref d, .int (Int32.ofNat q), .int (Int32.ofNat len)] 7)) (T9.setTop (mkF m 46 #[.val (.ref b), .val (.int (Int32.ofNat (o + len))), .val (.ref d), .val (.int (Int32.ofNat (q + len))), .val (.int (Int32.ofNat len)), .val (.int (Int32.ofNat len)), z9] [.int (Int32.ofNat len)])) := g9.trans (by
    refine XS.iload X9.here hexec rfl (hb hbytes d3) rfl ?_
    refine XS.iload X9.here hexec rfl (hb hbytes d5) rfl ?_
    refine XS.icmpYes X9.here hexec rfl (pc0 := 7) rfl (hb hbytes d7) rfl (ii_ge_t (nlt32 (by omega) (Nat.le_refl _))) (by decide) rfl ?_
    refine XS.iload X9.here hexec rfl (hb hbytes d44) rfl ?_
    exact Steps.refl _)
  exact ⟨T9, some (.int (Int32.ofNat len)), _, _, _, X9, by simp, rfl, rfl, (fun h => by cases h), ⟨rfl, B9, p9.from hh0, f9⟩, fun fs hl => c11.trans (X9.ireturnOut hexec hret rfl (Or.inl rfl) (hb hbytes d46) hl)⟩
end Cmp5
namespace Cmp3
def yN : MethodName := ⟨"java/lang/StringUTF16", "compress", "([CII)[B"⟩
abbrev yB : ByteArray := jdk_52_method_16_code
theorem d0 : decode yB 0 = .ok (.iload_n 2, 1) := by decide +kernel
theorem d1 : decode yB 1 = .ok (.newarray .byte, 2) := by decide +kernel
theorem d3 : decode yB 3 = .ok (.astore_n 3, 1) := by decide +kernel
theorem d4 : decode yB 4 = .ok (.aload_n 0, 1) := by decide +kernel
theorem d5 : decode yB 5 = .ok (.iload_n 1, 1) := by decide +kernel
theorem d6 : decode yB 6 = .ok (.aload_n 3, 1) := by decide +kernel
theorem d7 : decode yB 7 = .ok (.iconst 0, 1) := by decide +kernel
theorem d8 : decode yB 8 = .ok (.iload_n 2, 1) := by decide +kernel
theorem d9 : decode yB 9 = .ok (.invokestatic 115, 3) := by decide +kernel
theorem d12 : decode yB 12 = .ok (.istore 4, 2) := by decide +kernel
theorem d14 : decode yB 14 = .ok (.iload 4, 2) := by decide +kernel
theorem d16 : decode yB 16 = .ok (.iload_n 2, 1) := by decide +kernel
theorem d17 : decode yB 17 = .ok (.if_icmp (.eq) 40, 3) := by decide +kernel
theorem d57 : decode yB 57 = .ok (.aload_n 3, 1) := by decide +kernel
theorem d58 : decode yB 58 = .ok (.areturn, 1) := by decide +kernel
def site : List Cond := [.arrayClass .byte, Cmp5.tab] ++ staticW U16 115 Cmp5.yN
def tab : Cond := tabOf yN yB 6 (some (.array .byte)) site
def P (b : Addr) (A : Cell) (o len : Nat) (args : Array Value) (s : State) : Prop := args = #[.ref b, .int (Int32.ofNat o), .int (Int32.ofNat len)] ∧ Ch b A s ∧ o + len ≤ A.slots.size ∧ len ≤ 536870912 ∧ ∀ i, i < len → ¬ 255 < cv A (o + i)
def E (b : Addr) (A : Cell) (o len : Nat) (r : Option Value) (s u : State) : Prop := NewArr .byte "[B" len (fun j => .int (lo8 (cv A (o + j)))) r s u ∧ u.heap.size = s.heap.size + 1
/-- no char of the range above 255: a new byte[] of their low bytes -/
theorem law (l : Launch) (b : Addr) (A : Cell) (o len : Nat) : Law l yN 3 3 1 18 yB 6 (some (.array .byte)) site (P b A o len) (E b A o len) [] 1 len := by
  refine Law.of_walk (plainFor_of_name (by decide +kernel)) (by decide +kernel) (by decide +kernel) (by decide) (fun _ _ h => by rw [h.1]; rfl) (fun _ U U' hal hh h => ⟨h.1, h.2.1.mv hal hh, h.2.2⟩) (fun r U U' V V' h1 hal h2 h => ⟨NewArr.mv r U U' V V' h1 hal h2 h.1, by rw [h1, h2]; exact h.2⟩) ?_
  intro p e s m args below meth c s₁ X0 hexec hbytes hml hret hlk hnm hown hh0 W hP
  obtain ⟨rfl, hA, l1, l2, hp⟩ := hP
  have a31 := hA.1.2.2.2
  have c1 : Steps p.tables e below (s₁.setTop (entryFrame m #[.ref b, .int (Int32.ofNat o), .int (Int32.ofNat len)] 6)) (s₁.setTop (mkF m 0 #[.val (.ref b), .val (.int (Int32.ofNat o)), .val (.int (Int32.ofNat len)), .unset, .unset, .unset] [])) := entry rfl
  have c2 : Steps p.tables e below (s₁.setTop (entryFrame m #[.ref b, .int (Int32.ofNat o), .int (Int32.ofNat len)] 6)) (s₁.setTop (mkF m 1 #[.val (.ref b), .val (.int (Int32.ofNat o)), .val (.int (Int32.ofNat len)), .unset, .unset, .unset] [.int (Int32.ofNat len)])) := c1.trans (by
    refine XS.iloadN X0.here hexec rfl (hb hbytes d0) rfl ?_
    exact Steps.refl _)
  obtain ⟨T3, B3, X3, ba3, bs3, bv3, bh3, bf3, st3⟩ := X0.anew hexec (atype := .byte) (wk W (.arrayClass .byte)) rfl (by show len * 1 ≤ _; omega) (by omega) (g := (mkF m 1 #[.val (.ref b), .val (.int (Int32.ofNat o)), .val (.int (Int32.ofNat len)), .unset, .unset, .unset] [.int (Int32.ofNat len)])) rfl (hb hbytes d1) (rest := []) rfl (Nat.le_refl _) (by show 0 + len ≤ len; omega)
  rw [hh0] at ba3 st3
  have kp3 : XT.Kept s T3 := (XT.Kept.of_eq hh0).push bh3
  have hA3 := hA.keep X3.warmed.alike (kp3 _ _ hA.1.1)
  have hne : b ≠ s.heap.size := hA.1.ne
  have c4 : Steps p.tables e below (s₁.setTop (entryFrame m #[.ref b, .int (Int32.ofNat o), .int (Int32.ofNat len)] 6)) (T3.setTop (mkF m 3 #[.val (.ref b), .val (.int (Int32.ofNat o)), .val (.int (Int32.ofNat len)), .unset, .unset, .unset] [.ref s.heap.size])) := c2.trans (st3 _ (Steps.refl _))
  have c5 : Steps p.tables e below (s₁.setTop (entryFrame m #[.ref b, .int (Int32.ofNat o), .int (Int32.ofNat len)] 6)) (T3.setTop (mkF m 9 #[.val (.ref b), .val (.int (Int32.ofNat o)), .val (.int (Int32.ofNat len)), .val (.ref s.heap.size), .unset, .unset] [.int (Int32.ofNat len), .int 0, .ref s.heap.size, .int (Int32.ofNat o), .ref b])) := c4.trans (by
    refine XS.astoreN X3.here hexec rfl (hb hbytes d3) rfl rfl rfl ?_
    refine XS.aloadN X3.here hexec rfl (hb hbytes d4) rfl rfl ?_
    refine XS.iloadN X3.here hexec rfl (hb hbytes d5) rfl ?_
    refine XS.aloadN X3.here hexec rfl (hb hbytes d6) rfl rfl ?_
    refine iconstV X3.here hexec rfl 0 (hb hbytes d7) (by decide) ?_
    refine XS.iloadN X3.here hexec rfl (hb hbytes d8) rfl ?_
    exact Steps.refl _)
  obtain ⟨v6, T6, X6, E6, g6⟩ := X3.callS hexec (Cmp5.law l b A s.heap.size B3 o 0 len) hown (wks W (staticW U16 115 Cmp5.yN)) (wk W Cmp5.tab) (W := 0) (Nat.le_of_ble_eq_true rfl) (Nat.le_of_ble_eq_true rfl) (Nat.le_refl _) (by show 0 + len + 0 ≤ len; omega) (g := (mkF m 9 #[.val (.ref b), .val (.int (Int32.ofNat o)), .val (.int (Int32.ofNat len)), .val (.ref s.heap.size), .unset, .unset] [.int (Int32.ofNat len), .int (Int32.ofNat 0), .ref s.heap.size, .int (Int32.ofNat o), .ref b])) rfl (by rw [hml]; rfl) c5 (argsL := [.ref b, .int (Int32.ofNat o), .ref s.heap.size, .int (Int32.ofNat 0), .int (Int32.ofNat len)]) (rest := []) rfl rfl (by show 2 * 0 + 0 ≤ _; decide) (hb hbytes d9) (⟨rfl, hA3, ba3, hne, l1, by rw [bs3]; simp, hp⟩)
  obtain ⟨rfl, B6, p6, f6⟩ := E6
  have c7 : Steps p.tables e below (s₁.setTop (entryFrame m #[.ref b, .int (Int32.ofNat o), .int (Int32.ofNat len)] 6)) (T6.setTop (mkF m 12 #[.val (.ref b), .val (.int (Int32.ofNat o)), .val (.int (Int32.ofNat len)), .val (.ref s.heap.size), .unset, .unset] [.int (Int32.ofNat len)])) := g6
  have c8 : Steps p.tables e below (s₁.setTop (entryFrame m #[.ref b, .int (Int32.ofNat o), .int (Int32.ofNat len)] 6)) (T6.setTop (mkF m 58 #[.val (.ref b), .val (.int (Int32.ofNat o)), .val (.int (Int32.ofNat len)), .val (.ref s.heap.size), .val (.int (Int32.ofNat len)), .unset] [.ref s.heap.size])) := c7.trans (by
    refine XS.istore X6.here hexec rfl (hb hbytes d12) rfl rfl ?_
    refine XS.iload X6.here hexec rfl (hb hbytes d14) rfl ?_
    refine XS.iloadN X6.here hexec rfl (hb hbytes d16) rfl ?_
    refine XS.icmpYes X6.here hexec rfl (pc0 := 17) rfl (hb hbytes d17) rfl (ii_eq_t rfl) (by decide) rfl ?_
    refine XS.aloadN X6.here hexec rfl (hb hbytes d57) rfl rfl ?_
    exact Steps.refl _)
  have X8 := X6.wide (L' := []) (cells' := 1) (slots' := len) (fun x hx hlt => by
    simp only [List.nil_append, copyLocs, List.mem_map, List.mem_range] at hx
    obtain ⟨i, -, rfl⟩ := hx
    exact absurd hlt (Nat.lt_irrefl _)) (Nat.le_refl _) (by omega)
  exact ⟨T6, some (.ref s.heap.size), _, _, _, X8, rfl, rfl, rfl, (fun h => by cases h), ⟨⟨rfl, B6, ba3.like (X3.warmed.alike.symm.trans X6.warmed.alike) p6.1 f6.1 f6.2.1 f6.2.2.1, f6.2.1.trans bv3, by rw [X6.warmed.alike.findClass, f6.1]; exact bf3, by rw [f6.2.2.1, bs3]; simp, fun j hj => by rw [f6.2.2.2 j, if_pos (by omega)]; rfl, kp3.put p6 (Nat.le_refl _)⟩, by rw [p6.2.2, bh3, hh0]; simp⟩, fun fs hl => c8.trans (X8.areturnOut hexec rfl hret rfl (hb hbytes d58) hl)⟩
end Cmp3
namespace CodL
def yN : MethodName := ⟨"java/lang/StringUTF16", "coderFromArrayLen", "([BI)B"⟩
abbrev yB : ByteArray := jdk_52_method_15_code
theorem d0 : decode yB 0 = .ok (.iload_n 1, 1) := by decide +kernel
theorem d1 : decode yB 1 = .ok (.aload_n 0, 1) := by decide +kernel
theorem d2 : decode yB 2 = .ok (.arraylength, 1) := by decide +kernel
theorem d3 : decode yB 3 = .ok (.isub, 1) := by decide +kernel
theorem d4 : decode yB 4 = .ok (.bipush 31, 2) := by decide +kernel
theorem d6 : decode yB 6 = .ok (.iushr, 1) := by decide +kernel
theorem d7 : decode yB 7 = .ok (.i2b, 1) := by decide +kernel
theorem d8 : decode yB 8 = .ok (.ireturn, 1) := by decide +kernel
def site : List Cond := []
def tab : Cond := tabOf yN yB 2 (some .byte) site
def P (d : Addr) (B : Cell) (args : Array Value) (s : State) : Prop := args = #[.ref d, .int (Int32.ofNat B.slots.size)] ∧ Arr .byte d B s
def E (r : Option Value) (s u : State) : Prop := XT.PureE (some (.int 0)) r s u
/-- an array as long as the number of chars: LATIN1 -/
theorem law (l : Launch) (d : Addr) (B : Cell) : Law l yN 2 2 0 0 yB 2 (some .byte) site (P d B) E [] 0 0 := by
  refine Law.of_walk (plainFor_of_name (by decide +kernel)) (by decide +kernel) (by decide +kernel) (by decide) (fun _ _ h => by rw [h.1]; rfl) (fun _ U U' hal hh h => ⟨h.1, h.2.mv hal hh⟩) (fun r U U' V V' h1 hal h2 h => XT.PureE.mv r U U' V V' h1 hal h2 h) ?_
  intro p e s m args below meth c s₁ X0 hexec hbytes hml hret hlk hnm hown hh0 W hP
  obtain ⟨rfl, hB⟩ := hP
  have hB0 := hB.mv X0.warmed.alike hh0
  have c1 : Steps p.tables e below (s₁.setTop (entryFrame m #[.ref d, .int (Int32.ofNat B.slots.size)] 2)) (s₁.setTop (mkF m 0 #[.val (.ref d), .val (.int (Int32.ofNat B.slots.size))] [])) := entry rfl
  have c2 : Steps p.tables e below (s₁.setTop (entryFrame m #[.ref d, .int (Int32.ofNat B.slots.size)] 2)) (s₁.setTop (mkF m 2 #[.val (.ref d), .val (.int (Int32.ofNat B.slots.size))] [.ref d, .int (Int32.ofNat B.slots.size)])) := c1.trans (by
    refine XS.iloadN X0.here hexec rfl (hb hbytes d0) rfl ?_
    refine XS.aloadN X0.here hexec rfl (hb hbytes d1) rfl rfl ?_
    exact Steps.refl _)
  have c3 : Steps p.tables e below (s₁.setTop (entryFrame m #[.ref d, .int (Int32.ofNat B.slots.size)] 2)) (s₁.setTop (mkF m 8 #[.val (.ref d), .val (.int (Int32.ofNat B.slots.size))] [.int (lo8 (ushr (Int32.ofNat B.slots.size - Int32.ofNat B.slots.size) 31))])) := c2.trans (by
    refine X0.alen hexec hB0 rfl rfl (hb hbytes d2) ?_
    refine XS.isub X0.here hexec rfl (hb hbytes d3) rfl ?_
    refine bipushV X0.here hexec rfl 31 (hb hbytes d4) (by decide) ?_
    refine iushr X0.here hexec rfl (hb hbytes d6) rfl ?_
    refine i2b X0.here hexec rfl (hb hbytes d7) rfl ?_
    exact Steps.refl _)
  have e0 : lo8 (ushr (Int32.ofNat B.slots.size - Int32.ofNat B.slots.size) 31) = 0 := by rw [Int32.sub_self]; decide
  rw [e0] at c3
  exact ⟨s₁, some (.int 0), _, _, _, X0, rfl, rfl, rfl, (fun h => by cases h), ⟨rfl, hh0⟩, fun fs hl => c3.trans (X0.ireturnOut hexec hret rfl (Or.inr (Or.inr (Or.inl rfl))) (hb hbytes d8) hl)⟩
end CodL
/-- the String at a is Latin-1 over a new byte[] (the heap's one new cell): the low bytes of the len chars of A from o on; every cell but a is kept -/
def Got (a : Addr) (D : Cell) (fV fC : Field) (A : Cell) (o len : Nat) (r : Option Value) (s u : State) : Prop := r = none ∧ ∃ D' V : Cell, Blank "java/lang/String" a D' u ∧ Same D D' [fV.slot, fC.slot] ∧ D'.slots[fV.slot]? = some (.ref s.heap.size) ∧ D'.slots[fC.slot]? = some (.int 0) ∧ Arr .byte s.heap.size V u ∧ V.vm = .none ∧ u.vm.findClass "[B" = some V.cls ∧ V.slots.size = len ∧ (∀ j, j < len → V.slots[j]? = some (.int (lo8 (cv A (o + j))))) ∧ (∀ (y : Addr) (c : Cell), y ≠ a → s.heap[y]? = some c → u.heap[y]? = some c) ∧ u.heap.size = s.heap.size + 1
theorem Got.mv {a : Addr} {D A : Cell} {fV fC : Field} {o len : Nat} : ∀ r (U U' V V' : State), U'.heap = U.heap → V.vm.Alike V'.vm → V'.heap = V.heap → Got a D fV fC A o len r U V → Got a D fV fC A o len r U' V' :=
  fun r U U' V V' h1 hal h2 ⟨e0, D', X, a1, a2, a3, a4, a5, a6, a7, a8, a9, a10, a11⟩ => ⟨e0, D', X, a1.mv hal h2, a2, by rw [h1]; exact a3, a4, by rw [h1]; exact a5.mv hal h2, a6, by rw [hal.findClass]; exact a7, a8, a9, by rw [h1, h2]; exact a10, by rw [h1, h2]; exact a11⟩
namespace New4
def yN : MethodName := ⟨"java/lang/String", "<init>", "([CIILjava/lang/Void;)V"⟩
abbrev yB : ByteArray := jdk_42_method_149_code
theorem d0 : decode yB 0 = .ok (.aload_n 0, 1) := by decide +kernel
theorem d1 : decode yB 1 = .ok (.invokespecial 1, 3) := by decide +kernel
theorem d4 : decode yB 4 = .ok (.iload_n 3, 1) := by decide +kernel
theorem d5 : decode yB 5 = .ok (.ifCond (.ne) 22, 3) := by decide +kernel
theorem d27 : decode yB 27 = .ok (.getstatic 38, 3) := by decide +kernel
theorem d30 : decode yB 30 = .ok (.ifCond (.eq) 28, 3) := by decide +kernel
theorem d33 : decode yB 33 = .ok (.aload_n 1, 1) := by decide +kernel
theorem d34 : decode yB 34 = .ok (.iload_n 2, 1) := by decide +kernel
theorem d35 : decode yB 35 = .ok (.iload_n 3, 1) := by decide +kernel
theorem d36 : decode yB 36 = .ok (.invokestatic 177, 3) := by decide +kernel
theorem d39 : decode yB 39 = .ok (.astore 5, 2) := by decide +kernel
theorem d41 : decode yB 41 = .ok (.aload_n 0, 1) := by decide +kernel
theorem d42 : decode yB 42 = .ok (.aload 5, 2) := by decide +kernel
theorem d44 : decode yB 44 = .ok (.iload_n 3, 1) := by decide +kernel
theorem d45 : decode yB 45 = .ok (.invokestatic 47, 3) := by decide +kernel
theorem d48 : decode yB 48 = .ok (.putfield 15, 3) := by decide +kernel
theorem d51 : decode yB 51 = .ok (.aload_n 0, 1) := by decide +kernel
theorem d52 : decode yB 52 = .ok (.aload 5, 2) := by decide +kernel
theorem d54 : decode yB 54 = .ok (.putfield 9, 3) := by decide +kernel
theorem d57 : decode yB 57 = .ok (.return_, 1) := by decide +kernel
def site : List Cond := [.fieldLink "java/lang/String" 38 "java/lang/String" "COMPACT_STRINGS" "Z", Cmp3.tab, CodL.tab, .laysFinal "java/lang/String" "java/lang/String" "value" "[B", .fieldLink "java/lang/String" 9 "java/lang/String" "value" "[B", .laysFinal "java/lang/String" "java/lang/String" "coder" "B", .fieldLink "java/lang/String" 15 "java/lang/String" "coder" "B"] ++ objW "java/lang/String" 1 ++ staticW "java/lang/String" 177 Cmp3.yN ++ staticW "java/lang/String" 47 CodL.yN
def tab : Cond := tabOf yN yB 6 none site
def P (a : Addr) (D : Cell) (fV fC : Field) (b : Addr) (A : Cell) (z : Int32) (o len : Nat) (args : Array Value) (s : State) : Prop := args = #[.ref a, .ref b, .int (Int32.ofNat o), .int (Int32.ofNat len), .null] ∧ Blank "java/lang/String" a D s ∧ Found "java/lang/String" "value" "[B" fV s ∧ Found "java/lang/String" "coder" "B" fC s ∧ Ch b A s ∧ StaticIs s "java/lang/String" "COMPACT_STRINGS" "Z" (.int z) ∧ ¬ z = 0 ∧ 0 < len ∧ o + len ≤ A.slots.size ∧ len ≤ 536870912 ∧ ∀ i, i < len → ¬ 255 < cv A (o + i)
def E (a : Addr) (D : Cell) (fV fC : Field) (A : Cell) (o len : Nat) (r : Option Value) (s u : State) : Prop := Got a D fV fC A o len r s u
/-- len > 0, no char of the range above 255: a Latin-1 String of their low bytes -/
theorem law (l : Launch) (a : Addr) (D : Cell) (fV fC : Field) (b : Addr) (A : Cell) (z : Int32) (o len : Nat) : Law l yN 5 4 2 35 yB 6 none site (P a D fV fC b A z o len) (E a D fV fC A o len) [⟨a, fC.slot⟩, ⟨a, fV.slot⟩] 1 len := by
  refine Law.of_walk (plainFor_of_name (by decide +kernel)) (by decide +kernel) (by decide +kernel) (by decide) (fun _ _ h => by rw [h.1]; rfl) (fun _ U U' hal hh h => ⟨h.1, h.2.1.mv hal hh, h.2.2.1.al hal, h.2.2.2.1.al hal, h.2.2.2.2.1.mv hal hh, h.2.2.2.2.2.1.there hal hh, h.2.2.2.2.2.2⟩) (fun r U U' V V' h1 hal h2 h => Got.mv r U U' V V' h1 hal h2 h) ?_
  intro p e s m args below meth c s₁ X0 hexec hbytes hml hret hlk hnm hown hh0 W hP
  obtain ⟨rfl, hB, f1, f2, hA, s1, hz, l0, l1, l2, hp⟩ := hP
  have a31 := hA.1.2.2.2
  have c1 : Steps p.tables e below (s₁.setTop (entryFrame m #[.ref a, .ref b, .int (Int32.ofNat o), .int (Int32.ofNat len), .null] 6)) (s₁.setTop (mkF m 0 #[.val (.ref a), .val (.ref b), .val (.int (Int32.ofNat o)), .val (.int (Int32.ofNat len)), .val .null, .unset] [])) := entry rfl
  have c2 : Steps p.tables e below (s₁.setTop (entryFrame m #[.ref a, .ref b, .int (Int32.ofNat o), .int (Int32.ofNat len), .null] 6)) (s₁.setTop (mkF m 1 #[.val (.ref a), .val (.ref b), .val (.int (Int32.ofNat o)), .val (.int (Int32.ofNat len)), .val .null, .unset] [.ref a])) := c1.trans (by
    refine XS.aloadN X0.here hexec rfl (hb hbytes d0) rfl rfl ?_
    exact Steps.refl _)
  obtain ⟨T3, X3, q3, st3⟩ := X0.oinit hexec hown (wks W (objW "java/lang/String" 1)) (g := (mkF m 1 #[.val (.ref a), .val (.ref b), .val (.int (Int32.ofNat o)), .val (.int (Int32.ofNat len)), .val .null, .unset] [.ref a])) rfl (by rw [hml]; rfl) (rest := []) rfl (hb hbytes d1) (W := 0) (by show 2 * 0 + 0 ≤ _; decide) (Nat.le_of_ble_eq_true rfl) (Nat.le_of_ble_eq_true rfl)
  have hh3 := q3.trans hh0
  have c4 : Steps p.tables e below (s₁.setTop (entryFrame m #[.ref a, .ref b, .int (Int32.ofNat o), .int (Int32.ofNat len), .null] 6)) (T3.setTop (mkF m 27 #[.val (.ref a), .val (.ref b), .val (.int (Int32.ofNat o)), .val (.int (Int32.ofNat len)), .val .null, .unset] [])) := (c2.trans (st3 _ (Steps.refl _))).trans (by
    refine XS.iloadN X3.here hexec rfl (hb hbytes d4) rfl ?_
    refine XS.ifYes X3.here hexec rfl (pc0 := 5) rfl (hb hbytes d5) rfl (i0_ne_t (nz32 (by omega) l0)) (by decide) rfl ?_
    exact Steps.refl _)
  obtain ⟨T5, X5, q5, st5⟩ := X3.sget hexec hown (wk W (.fieldLink "java/lang/String" 38 "java/lang/String" "COMPACT_STRINGS" "Z")) s1 (fun _ _ h => by rw [hh3]; exact h) (g := (mkF m 27 #[.val (.ref a), .val (.ref b), .val (.int (Int32.ofNat o)), .val (.int (Int32.ofNat len)), .val .null, .unset] [])) rfl (hb hbytes d27)
  have hh5 := q5.trans hh3
  have c6 : Steps p.tables e below (s₁.setTop (entryFrame m #[.ref a, .ref b, .int (Int32.ofNat o), .int (Int32.ofNat len), .null] 6)) (T5.setTop (mkF m 30 #[.val (.ref a), .val (.ref b), .val (.int (Int32.ofNat o)), .val (.int (Int32.ofNat len)), .val .null, .unset] [.int z])) := c4.trans (st5 _ (Steps.refl _))
  have c7 : Steps p.tables e below (s₁.setTop (entryFrame m #[.ref a, .ref b, .int (Int32.ofNat o), .int (Int32.ofNat len), .null] 6)) (T5.setTop (mkF m 36 #[.val (.ref a), .val (.ref b), .val (.int (Int32.ofNat o)), .val (.int (Int32.ofNat len)), .val .null, .unset] [.int (Int32.ofNat len), .int (Int32.ofNat o), .ref b])) := c6.trans (by
    refine XS.ifNo X5.here hexec rfl (hb hbytes d30) rfl (i0_eq_f hz) ?_
    refine XS.aloadN X5.here hexec rfl (hb hbytes d33) rfl rfl ?_
    refine XS.iloadN X5.here hexec rfl (hb hbytes d34) rfl ?_
    refine XS.iloadN X5.here hexec rfl (hb hbytes d35) rfl ?_
    exact Steps.refl _)
  obtain ⟨v8, T8, X8, E8, g8⟩ := X5.callS hexec (Cmp3.law l b A o len) hown (wks W (staticW "java/lang/String" 177 Cmp3.yN)) (wk W Cmp3.tab) (W := 0) (Nat.le_of_ble_eq_true rfl) (Nat.le_of_ble_eq_true rfl) (Nat.le_refl _) (by show 0 + len ≤ len; omega) (g := (mkF m 36 #[.val (.ref a), .val (.ref b), .val (.int (Int32.ofNat o)), .val (.int (Int32.ofNat len)), .val .null, .unset] [.int (Int32.ofNat len), .int (Int32.ofNat o), .ref b])) rfl (by rw [hml]; rfl) c7 (argsL := [.ref b, .int (Int32.ofNat o), .int (Int32.ofNat len)]) (rest := []) rfl rfl (by show 2 * 0 + 0 ≤ _; decide) (hb hbytes d36) (⟨rfl, hA.mv X5.warmed.alike hh5, l1, l2, hp⟩)
  obtain ⟨e8, z8⟩ := E8
  obtain ⟨rfl, N, n1, n2, n3, n4, n5, n6⟩ := NewArr.mv _ T5 s _ _ hh5.symm (Vm.Alike.refl _) rfl e8
  rw [hh5] at z8
  have hB1 := hB.keep X8.warmed.alike (n6 _ _ hB.1)
  have hne : s.heap.size ≠ a := (Nat.ne_of_lt (Array.getElem?_eq_some_iff.mp hB.1).1).symm
  have c9 : Steps p.tables e below (s₁.setTop (entryFrame m #[.ref a, .ref b, .int (Int32.ofNat o), .int (Int32.ofNat len), .null] 6)) (T8.setTop (mkF m 39 #[.val (.ref a), .val (.ref b), .val (.int (Int32.ofNat o)), .val (.int (Int32.ofNat len)), .val .null, .unset] [.ref s.heap.size])) := g8
  have c10 : Steps p.tables e below (s₁.setTop (entryFrame m #[.ref a, .ref b, .int (Int32.ofNat o), .int (Int32.ofNat len), .null] 6)) (T8.setTop (mkF m 45 #[.val (.ref a), .val (.ref b), .val (.int (Int32.ofNat o)), .val (.int (Int32.ofNat len)), .val .null, .val (.ref s.heap.size)] [.int (Int32.ofNat N.slots.size), .ref s.heap.size, .ref a])) := by
    have hc : Steps p.tables e below (s₁.setTop (entryFrame m #[.ref a, .ref b, .int (Int32.ofNat o), .int (Int32.ofNat len), .null] 6)) (T8.setTop (mkF m 45 #[.val (.ref a), .val (.ref b), .val (.int (Int32.ofNat o)), .val (.int (Int32.ofNat len)), .val .null, .val (.ref s.heap.size)] [.int (Int32.ofNat len), .ref s.heap.size, .ref a])) := c9.trans (by
      refine XS.astore X8.here hexec rfl (hb hbytes d39) rfl rfl rfl ?_
      refine XS.aloadN X8.here hexec rfl (hb hbytes d41) rfl rfl ?_
      refine XS.aload X8.here hexec rfl (hb hbytes d42) rfl rfl ?_
      refine XS.iloadN X8.here hexec rfl (hb hbytes d44) rfl ?_
      exact Steps.refl _)
    rw [n4]; exact hc
  obtain ⟨v11, T11, X11, E11, g11⟩ := X8.callS hexec (CodL.law l s.heap.size N) hown (wks W (staticW "java/lang/String" 47 CodL.yN)) (wk W CodL.tab) (W := 1) (Nat.le_of_ble_eq_true rfl) (Nat.le_of_ble_eq_true rfl) (Nat.le_refl _) (by show 0 + len + 0 ≤ len; omega) (g := (mkF m 45 #[.val (.ref a), .val (.ref b), .val (.int (Int32.ofNat o)), .val (.int (Int32.ofNat len)), .val .null, .val (.ref s.heap.size)] [.int (Int32.ofNat N.slots.size), .ref s.heap.size, .ref a])) rfl (by rw [hml]; rfl) c10 (argsL := [.ref s.heap.size, .int (Int32.ofNat N.slots.size)]) (rest := [.ref a]) rfl rfl (by show 2 * 0 + (1 + 0) ≤ _; decide) (hb hbytes d45) (⟨rfl, n1⟩)
  obtain ⟨rfl, q11⟩ := E11
  have hB11 := hB1.mv (X8.warmed.alike.symm.trans X11.warmed.alike) q11
  have c12 : Steps p.tables e below (s₁.setTop (entryFrame m #[.ref a, .ref b, .int (Int32.ofNat o), .int (Int32.ofNat len), .null] 6)) (T11.setTop (mkF m 48 #[.val (.ref a), .val (.ref b), .val (.int (Int32.ofNat o)), .val (.int (Int32.ofNat len)), .val .null, .val (.ref s.heap.size)] [.int 0, .ref a])) := g11
  obtain ⟨T13, X13, p13, bl13, sl13, st13⟩ := X11.finit hexec hown (wk W (.fieldLink "java/lang/String" 15 "java/lang/String" "coder" "B")) (Or.inr ⟨_, (wk W (.laysFinal "java/lang/String" "java/lang/String" "coder" "B"))⟩) (Or.inl ⟨rfl, hnm⟩) f2 (Or.inl rfl) hB11 (t := .byte) (by decide +kernel) rfl (g := (mkF m 48 #[.val (.ref a), .val (.ref b), .val (.int (Int32.ofNat o)), .val (.int (Int32.ofNat len)), .val .null, .val (.ref s.heap.size)] [.int 0, .ref a])) rfl (rest := []) rfl (hb hbytes d48)
  have c14 : Steps p.tables e below (s₁.setTop (entryFrame m #[.ref a, .ref b, .int (Int32.ofNat o), .int (Int32.ofNat len), .null] 6)) (T13.setTop (mkF m 54 #[.val (.ref a), .val (.ref b), .val (.int (Int32.ofNat o)), .val (.int (Int32.ofNat len)), .val .null, .val (.ref s.heap.size)] [.ref s.heap.size, .ref a])) := (c12.trans (st13 _ (Steps.refl _))).trans (by
    refine XS.aloadN X13.here hexec rfl (hb hbytes d51) rfl rfl ?_
    refine XS.aload X13.here hexec rfl (hb hbytes d52) rfl rfl ?_
    exact Steps.refl _)
  obtain ⟨T15, X15, p15, bl15, sl15, st15⟩ := X13.finit hexec hown (wk W (.fieldLink "java/lang/String" 9 "java/lang/String" "value" "[B")) (Or.inr ⟨_, (wk W (.laysFinal "java/lang/String" "java/lang/String" "value" "[B"))⟩) (Or.inl ⟨rfl, hnm⟩) f1 (Or.inl rfl) bl13 (t := (.array .byte)) (by decide +kernel) rfl (g := (mkF m 54 #[.val (.ref a), .val (.ref b), .val (.int (Int32.ofNat o)), .val (.int (Int32.ofNat len)), .val .null, .val (.ref s.heap.size)] [.ref s.heap.size, .ref a])) rfl (rest := []) rfl (hb hbytes d54)
  have c16 : Steps p.tables e below (s₁.setTop (entryFrame m #[.ref a, .ref b, .int (Int32.ofNat o), .int (Int32.ofNat len), .null] 6)) (T15.setTop (mkF m 57 #[.val (.ref a), .val (.ref b), .val (.int (Int32.ofNat o)), .val (.int (Int32.ofNat len)), .val .null, .val (.ref s.heap.size)] [])) := c14.trans (st15 _ (Steps.refl _))
  have ap := apart (Or.inr ⟨_, (wk W (.laysFinal "java/lang/String" "java/lang/String" "value" "[B"))⟩) (Or.inr ⟨_, (wk W (.laysFinal "java/lang/String" "java/lang/String" "coder" "B"))⟩) f1 f2 (t₁ := .array .byte) (t₂ := .byte) (by decide +kernel) (by decide +kernel) (by decide)
  have al := X8.warmed.alike.symm.trans X15.warmed.alike
  have n7 : T11.heap[s.heap.size]? = some N := by rw [q11]; exact n1.1
  exact ⟨T15, none, _, _, _, X15, by simp, rfl, by omega, (fun _ => rfl), ⟨rfl, _, N, bl15, ((Same.refl D _).set _ (by simp)).set _ (by simp), sl15, (Cell.slots_setSlot_ne _ ap).trans sl13, n1.keep al (p15.other hne (p13.other hne n7)), n2, by rw [al.findClass]; exact n3, n4, n5, fun y c h1 h2 => p15.other h1 (p13.other h1 (by rw [q11]; exact n6 y c h2)), by rw [p15.2.2, p13.2.2, q11]; exact z8⟩, fun fs hl => c16.trans (X15.returnOut hexec hret (hb hbytes d57) hl)⟩
end New4
namespace New1
def yN : MethodName := ⟨"java/lang/String", "<init>", "([C)V"⟩
abbrev yB : ByteArray := jdk_42_method_3_code
theorem d0 : decode yB 0 = .ok (.aload_n 0, 1) := by decide +kernel
theorem d1 : decode yB 1 = .ok (.aload_n 1, 1) := by decide +kernel
theorem d2 : decode yB 2 = .ok (.iconst 0, 1) := by decide +kernel
theorem d3 : decode yB 3 = .ok (.aload_n 1, 1) := by decide +kernel
theorem d4 : decode yB 4 = .ok (.arraylength, 1) := by decide +kernel
theorem d5 : decode yB 5 = .ok (.aconst_null, 1) := by decide +kernel
theorem d6 : decode yB 6 = .ok (.invokespecial 27, 3) := by decide +kernel
theorem d9 : decode yB 9 = .ok (.return_, 1) := by decide +kernel
def site : List Cond := [New4.tab] ++ initW "java/lang/String" 27 New4.yN
def tab : Cond := tabOf yN yB 2 none site
def P (a : Addr) (D : Cell) (fV fC : Field) (b : Addr) (A : Cell) (z : Int32) (args : Array Value) (s : State) : Prop := args = #[.ref a, .ref b] ∧ Blank "java/lang/String" a D s ∧ Found "java/lang/String" "value" "[B" fV s ∧ Found "java/lang/String" "coder" "B" fC s ∧ Ch b A s ∧ StaticIs s "java/lang/String" "COMPACT_STRINGS" "Z" (.int z) ∧ ¬ z = 0 ∧ 0 < A.slots.size ∧ A.slots.size ≤ 536870912 ∧ ∀ i, i < A.slots.size → ¬ 255 < cv A i
def E (a : Addr) (D : Cell) (fV fC : Field) (A : Cell) (r : Option Value) (s u : State) : Prop := Got a D fV fC A 0 A.slots.size r s u
/-- new String(chars), not empty, no char above 255: a Latin-1 String of their low bytes -/
theorem law (l : Launch) (a : Addr) (D : Cell) (fV fC : Field) (b : Addr) (A : Cell) (z : Int32) : Law l yN 2 1 3 52 yB 2 none site (P a D fV fC b A z) (E a D fV fC A) [⟨a, fC.slot⟩, ⟨a, fV.slot⟩] 1 A.slots.size := by
  refine Law.of_walk (plainFor_of_name (by decide +kernel)) (by decide +kernel) (by decide +kernel) (by decide) (fun _ _ h => by rw [h.1]; rfl) (fun _ U U' hal hh h => ⟨h.1, h.2.1.mv hal hh, h.2.2.1.al hal, h.2.2.2.1.al hal, h.2.2.2.2.1.mv hal hh, h.2.2.2.2.2.1.there hal hh, h.2.2.2.2.2.2⟩) (fun r U U' V V' h1 hal h2 h => Got.mv r U U' V V' h1 hal h2 h) ?_
  intro p e s m args below meth c s₁ X0 hexec hbytes hml hret hlk hnm hown hh0 W hP
  obtain ⟨rfl, hB, f1, f2, hA, s1, hz, l0, l2, hp⟩ := hP
  have c1 : Steps p.tables e below (s₁.setTop (entryFrame m #[.ref a, .ref b] 2)) (s₁.setTop (mkF m 0 #[.val (.ref a), .val (.ref b)] [])) := entry rfl
  have c2 : Steps p.tables e below (s₁.setTop (entryFrame m #[.ref a, .ref b] 2)) (s₁.setTop (mkF m 6 #[.val (.ref a), .val (.ref b)] [.null, .int (Int32.ofNat A.slots.size), .int 0, .ref b, .ref a])) := c1.trans (by
    refine XS.aloadN X0.here hexec rfl (hb hbytes d0) rfl rfl ?_
    refine XS.aloadN X0.here hexec rfl (hb hbytes d1) rfl rfl ?_
    refine iconstV X0.here hexec rfl 0 (hb hbytes d2) (by decide) ?_
    refine XS.aloadN X0.here hexec rfl (hb hbytes d3) rfl rfl ?_
    refine X0.alen hexec (hA.1.mv X0.warmed.alike hh0) rfl rfl (hb hbytes d4) ?_
    refine XS.aconstNull X0.here hexec rfl (hb hbytes d5) ?_
    exact Steps.refl _)
  obtain ⟨v3, T3, X3, E3, g3⟩ := X0.callN hexec (New4.law l a D fV fC b A z 0 A.slots.size) rfl hown (wks W (initW "java/lang/String" 27 New4.yN)) (W New4.tab (by simp only [site, List.mem_cons, List.mem_append, true_or, or_true])) (W := 0) (Nat.le_of_ble_eq_true rfl) (Nat.le_of_ble_eq_true rfl) (Nat.le_refl _) (by show 0 + A.slots.size ≤ A.slots.size; omega) (g := (mkF m 6 #[.val (.ref a), .val (.ref b)] [.null, .int (Int32.ofNat A.slots.size), .int (Int32.ofNat 0), .ref b, .ref a])) rfl (by rw [hml]; rfl) c2 (argsL := [.ref b, .int (Int32.ofNat 0), .int (Int32.ofNat A.slots.size), .null]) (rest := []) rfl rfl (by show 2 * 0 + 0 ≤ _; decide) (hb hbytes d6) (⟨rfl, hB.mv X0.warmed.alike hh0, f1.al X0.warmed.alike, f2.al X0.warmed.alike, hA.mv X0.warmed.alike hh0, s1.there X0.warmed.alike hh0, hz, l0, by omega, l2, fun i hi => by rw [Nat.zero_add]; exact hp i hi⟩)
  have e0 := Got.mv _ s₁ s _ _ hh0.symm (Vm.Alike.refl _) rfl E3
  obtain rfl := e0.1
  have c4 : Steps p.tables e below (s₁.setTop (entryFrame m #[.ref a, .ref b] 2)) (T3.setTop (mkF m 9 #[.val (.ref a), .val (.ref b)] [])) := g3
  exact ⟨T3, none, _, _, _, X3, by simp, rfl, by omega, (fun _ => rfl), e0, fun fs hl => c4.trans (X3.returnOut hexec hret (hb hbytes d9) hl)⟩
theorem pays {l : Launch} {R : Room} {p : Program} {e : Env} {below : List Frame} {s : State} {sargs : Array Value} {len W : Nat} (a : Addr) (D : Cell) (fV fC : Field) (b : Addr) (A : Cell) (z : Int32) (htab : tab.before sargs s = true) (hfr : 4 ≤ R.frames) (hlo : W + 65 ≤ R.locals) :
    Back l R p e below s sargs yN len W (fun A₁ a₁ => A₁.cells + 1 ≤ R.cells ∧ A₁.slots + A.slots.size ≤ R.slots ∧ P a D fV fC b A z a₁ A₁.U) (fun A₁ _ v₁ B₁ => E a D fV fC A v₁ A₁.U B₁.U ∧ B₁.locs = A₁.locs ++ [⟨a, fC.slot⟩, ⟨a, fV.slot⟩] ∧ B₁.cells = A₁.cells + 1 ∧ B₁.slots = A₁.slots + A.slots.size) :=
  (law l a D fV fC b A z).pays htab hfr (by omega)
end New1
/-- the byte, read back as charAt reads it, is the char -/
theorem lo8_mask {x : Int32} (h0 : ¬ x < 0) (h1 : ¬ 255 < x) : lo8 x &&& 255 = x := by
  have t : ∀ k : Fin 256, lo8 (Int32.ofNat k.val) &&& 255 = Int32.ofNat k.val := by decide +kernel
  rw [Int32.lt_iff_toInt_lt] at h0 h1
  have e0 : (0 : Int32).toInt = 0 := rfl
  have e1 : (255 : Int32).toInt = 255 := rfl
  obtain ⟨k, hk⟩ : ∃ k : Nat, x.toInt = k := ⟨x.toInt.toNat, by omega⟩
  have hx : x = Int32.ofNat k := Int32.toInt_inj.mp (by rw [hk, Int32.toInt_ofNat_small (by omega)])
  rw [hx]
  exact t ⟨k, by omega⟩
end StrChars
namespace StrChars.Road
open Jvm Sem ClassFile Op Lib Jvm.Stand Jvm.Free Jvm.Free.XT
open Jvm.Lib.Cold (StaticIs)
abbrev ST : String := "java/lang/String"
/-- every table word that New1's law asks, flat -/
abbrev words : List Jvm.Cond := [.code New1.yN New1.yB 2 none, .initialized ST, .methodLink ST 27 New4.yN, .instanceMethod New4.yN,
  .code New4.yN New4.yB 6 none, .fieldLink ST 38 ST "COMPACT_STRINGS" "Z", .laysFinal ST ST "value" "[B", .fieldLink ST 9 ST "value" "[B", .laysFinal ST ST "coder" "B", .fieldLink ST 15 ST "coder" "B",
  .methodLink ST 1 Lib.objectInit, .instanceMethod Lib.objectInit, .code Lib.objectInit ⟨#[0xb1]⟩ 1 none, .methodLink ST 177 Cmp3.yN, .static Cmp3.yN, .methodLink ST 47 CodL.yN, .static CodL.yN,
  .code Cmp3.yN Cmp3.yB 6 (some (.array .byte)), .initialized U16, .arrayClass .byte, .methodLink U16 115 Cmp5.yN, .static Cmp5.yN, .code Cmp5.yN Cmp5.yB 7 (some .int), .code CodL.yN CodL.yB 2 (some .byte)]
theorem tab_of {a : Array Value} {s : State} (h : ∀ w ∈ words, w.before a s = true) : New1.tab.before a s = true := by
  have h5 : Cmp5.tab.before a s = true := unparts (wk h (.code Cmp5.yN Cmp5.yB 7 (some .int))) (wks h (.initialized Cmp5.yN.cls :: Cmp5.site))
  have hc : CodL.tab.before a s = true := unparts (wk h (.code CodL.yN CodL.yB 2 (some .byte))) (wks h (.initialized CodL.yN.cls :: CodL.site))
  have q5 : ∀ w ∈ Cmp5.tab :: words, w.before a s = true := fun w hw => (List.mem_cons.mp hw).elim (fun e => e ▸ h5) (h w)
  have h3 : Cmp3.tab.before a s = true := unparts (wk q5 (.code Cmp3.yN Cmp3.yB 6 (some (.array .byte)))) (wks q5 (.initialized Cmp3.yN.cls :: Cmp3.site))
  have q3 : ∀ w ∈ Cmp3.tab :: CodL.tab :: words, w.before a s = true := fun w hw => (List.mem_cons.mp hw).elim (fun e => e ▸ h3) fun hw => (List.mem_cons.mp hw).elim (fun e => e ▸ hc) (h w)
  have h4 : New4.tab.before a s = true := unparts (wk q3 (.code New4.yN New4.yB 6 none)) (wks q3 (.initialized New4.yN.cls :: New4.site))
  have q4 : ∀ w ∈ New4.tab :: words, w.before a s = true := fun w hw => (List.mem_cons.mp hw).elim (fun e => e ▸ h4) (h w)
  exact unparts (wk q4 (.code New1.yN New1.yB 2 none)) (wks q4 (.initialized New1.yN.cls :: New1.site))
/-- the words ride from the start Z to the walk's own state -/
theorem moved {Z s : State} {a0 args : Array Value} (hZ : Z.Warmed39 s.vm) (hw : ∀ d ∈ words, d.before a0 Z = true) : ∀ d ∈ words, d.before args s = true := fun d hd => by
  have q := hw d hd
  have t : ∀ d ∈ words, d = .arrayClass .byte ∨ (d.onTables && d.keepsFace) = true := by decide +kernel
  rcases t d hd with rfl | t
  · exact RoadKit.mvA hZ q
  · exact RoadKit.mv hZ q t
/-- WHAT COMES BACK, over the tables of the start Z: h the heap at the call, h' behind it -/
def Q (Z : State) (x : Addr) (A : Cell) (h : Heap) (v : Option Value) (h' : Heap) (L : List Loc) : Prop := v = none ∧ (∀ y ∈ L, y.base = x) ∧ RoadKit.Keep h h' [x] ∧ h'.size = h.size + 1 ∧ RoadKit.Exa Z h' x ST ∧ RoadKit.Fld Z h' x ST "value" "[B" (.ref h.size) ∧ RoadKit.Fld Z h' x ST "coder" "B" (.int 0) ∧
  (∃ V : Cell, RoadKit.Arr Z h' h.size V .byte ∧ V.vm = .none ∧ Z.vm.findClass "[B" = some V.cls ∧ V.slots.size = A.slots.size ∧ ∀ j, j < A.slots.size → V.slots[j]? = some (.int (lo8 (cv A j)))) ∧
  ∀ (O n d : String) (w : Value), RoadKit.Fld Z h x O n d w → RoadKit.slotOf Z O n d ≠ RoadKit.slotOf Z ST "value" "[B" → RoadKit.slotOf Z O n d ≠ RoadKit.slotOf Z ST "coder" "B" → RoadKit.Fld Z h' x O n d w
/-- **new String(chars) AT A CALL, IN THE ROAD'S FORM**: for specialBack behind newO: x the fresh String, b the char[] with the cell A -/
theorem back {p : Program} {l : Launch} {e : Env} {R : Room} {s : State} {args : Array Value} {below : List Frame} {len W : Nat} {Z : State} {a0 : Array Value} {h : Heap} (hZ : Z.Warmed39 s.vm) (hw : ∀ d ∈ words, d.before a0 Z = true) {kI : Nat} (wi : (Jvm.Cond.instantiable ST kI).before a0 Z = true)
    {x b : Addr} {A : Cell} {z : Int32} {v0 c0 : Value} (E : RoadKit.Exa Z h x ST) (V : RoadKit.Fld Z h x ST "value" "[B" v0) (C : RoadKit.Fld Z h x ST "coder" "B" c0) (K : RoadKit.Arr Z h b A .char) (hty : Typed .char A) (S : RoadKit.Sta Z h ST "COMPACT_STRINGS" "Z" (.int z)) (hz : ¬ z = 0)
    (l0 : 0 < A.slots.size) (l2 : A.slots.size ≤ 536870912) (hp : ∀ i, i < A.slots.size → ¬ 255 < cv A i) (hfr : 4 ≤ R.frames) (hlo : W + 65 ≤ R.locals) :
    Back l R p e below s args New1.yN len W (fun P a => a = #[.ref x, .ref b] ∧ P.U.heap = h ∧ P.cells + 1 ≤ R.cells ∧ P.slots + A.slots.size ≤ R.slots)
      (fun P _ v B => ∃ L, Q Z x A h v B.U.heap L ∧ B.locs = P.locs ++ L ∧ B.cells = P.cells + 1 ∧ B.slots = P.slots + A.slots.size) := by
  intro m meth c P g ig mk a X hg hsize hdg hW hn hp'
  obtain ⟨rfl, rfl, r1, r2⟩ := hp'
  have al : Z.vm.Alike P.U.vm := hZ.alike.trans X.warmed.alike
  obtain ⟨D, cfV, kV, iV, fV, hD, gV, stV, knV, obV, asV, slV⟩ := id V
  obtain ⟨D', cfC, kC, iC, fC, hD', gC, stC, -, -, asC, slC⟩ := id C
  cases hD.symm.trans hD'
  obtain ⟨D2, kD, e1, e2, e3, e4, e5⟩ := id E
  cases hD.symm.trans e1
  obtain ⟨c2, k2, i1, i2, i3, -⟩ := Cond.instantiable_spec wi
  cases e2.symm.trans i1
  cases e3.symm.trans i2
  obtain ⟨kU, u1, u2⟩ := al.2.2 _ _ e3
  have hB : Blank ST x D P.U := ⟨hD, ⟨knV, fun q hq => by rw [hq] at obV; cases obV⟩, by rw [al.findClass]; exact e2, kU, u1, by rw [u2]; exact i3, by rw [u2]; exact e5 i3⟩
  have F1 : Found ST "value" "[B" fV P.U := ⟨SBG.found_only al ⟨cfV, kV, iV, gV⟩, stV⟩
  have F2 : Found ST "coder" "B" fC P.U := ⟨SBG.found_only al ⟨cfC, kC, iC, gC⟩, stC⟩
  have hA : Ch b A P.U := ⟨⟨K.1, State.isArrayOf_alike al K.2.1, K.2.2, by omega⟩, hty⟩
  have hS : StaticIs P.U ST "COMPACT_STRINGS" "Z" (.int z) := by
    obtain ⟨cfS, iS, kS, fS, st, cS, t1, t2, t3, t4, t5, t6, t7⟩ := S
    exact StaticIs.there (s := { Z with heap := P.U.heap }) ⟨cfS, iS, kS, fS, st, cS, t1, t2, t3, t4, t5, (fun q => by rw [q] at t6; cases t6), t7⟩ al rfl
  obtain ⟨v, B, X', ⟨⟨hv, E', V', q1, q2, q3, q4, q5, q6, q7, q8, q9, q10, q11⟩, hl, hc, hs⟩, st⟩ := New1.pays x D fV fC b A z (tab_of (moved hZ hw)) hfr hlo m meth c P g ig mk _ X hg hsize hdg hW hn ⟨r1, r2, rfl, hB, F1, F2, hA, hS, hz, l0, l2, hp⟩
  have al' : Z.vm.Alike B.U.vm := hZ.alike.trans X'.warmed.alike
  have hsz : E'.slots.size = D.slots.size := by
    obtain ⟨-, -, -, kB, w1, w2, w3⟩ := q1
    obtain ⟨kB', y1, y2⟩ := al'.2.2 _ _ e3
    rw [q2.2.1] at w1
    cases w1.symm.trans y1
    rw [w3, e5 i3, y2]
  refine ⟨v, B, X', ⟨_, ⟨hv, ?_, ⟨by omega, fun y cy hy hn' => q10 y cy (by simpa using hn') hy, fun y cy hy => ?_⟩, q11, ⟨E', _, q1.1, by rw [q2.2.1]; exact e2, by rw [q2.2.1]; exact e3, by rw [q2.1]; exact obV, fun _ => by rw [hsz]; exact e5 i3⟩,
    ⟨E', cfV, kV, iV, fV, q1.1, gV, stV, by rw [q2.1]; exact knV, by rw [q2.1]; exact obV, by rw [q2.2.1]; exact asV, q3⟩, ⟨E', cfC, kC, iC, fC, q1.1, gC, stC, by rw [q2.1]; exact knV, by rw [q2.1]; exact obV, by rw [q2.2.1]; exact asC, q4⟩,
    ⟨V', ⟨q5.1, State.isArrayOf_alike al'.symm q5.2.1, q5.2.2.1⟩, q6, by rw [← al'.findClass]; exact q7, q8, fun j hj => by have := q9 j hj; rwa [Nat.zero_add] at this⟩, fun O n d w F n1 n2 => ?_⟩, hl, hc, hs⟩, st⟩
  · intro y hy
    simp only [List.mem_cons, List.not_mem_nil, or_false] at hy
    rcases hy with rfl | rfl <;> rfl
  · by_cases q : y = x
    · subst q
      cases hD.symm.trans hy
      exact ⟨E', q1.1, q2.2.1, q2.1, hsz⟩
    · exact ⟨cy, q10 y cy q hy, rfl, rfl, rfl⟩
  · obtain ⟨D3, cf, k, i, f, g1, g2, g3, g4, g5, g6, g7⟩ := F
    cases hD.symm.trans g1
    simp only [RoadKit.slotOf, g2, gV, gC, Option.map_some, Option.getD_some] at n1 n2
    exact ⟨E', cf, k, i, f, q1.1, g2, g3, by rw [q2.1]; exact g4, by rw [q2.1]; exact g5, by rw [q2.2.1]; exact g6, by rw [q2.2.2 f.slot (by simp [n1, n2])]; exact g7⟩
end StrChars.Road
namespace StrChars.Road
open Jvm Sem ClassFile Op Lib Jvm.Stand Jvm.Free Jvm.Free.XT
/-- WHAT COMES BACK, the byte[] as a list of values -/
def QA (Z : State) (x : Addr) (zn : Int32) (cs : List Int32) (h : Heap) (v : Option Value) (h' : Heap) (L : List Loc) : Prop := v = none ∧ (∀ y ∈ L, y.base = x) ∧ RoadKit.Keep h h' [x] ∧ h'.size = h.size + 1 ∧ RoadKit.Exa Z h' x ST ∧ RoadKit.Fld Z h' x ST "value" "[B" (.ref h.size) ∧ RoadKit.Fld Z h' x ST "coder" "B" (.int 0) ∧
  (∃ kb, Z.vm.findClass "[B" = some kb ∧ RoadKit.Arv Z h' h.size kb .byte zn (cs.map fun c => .int (lo8 c)) (.int 0)) ∧
  ∀ (O n d : String) (w : Value), RoadKit.Fld Z h x O n d w → RoadKit.slotOf Z O n d ≠ RoadKit.slotOf Z ST "value" "[B" → RoadKit.slotOf Z O n d ≠ RoadKit.slotOf Z ST "coder" "B" → RoadKit.Fld Z h' x O n d w
/-- **new String(chars) AT A CALL, THE ARRAYS AS LISTS**: the char[] at b holds cs, not empty, no char above 255 -/
theorem backArv {p : Program} {l : Launch} {e : Env} {R : Room} {s : State} {args : Array Value} {below : List Frame} {len W : Nat} {Z : State} {a0 : Array Value} {h : Heap} (hZ : Z.Warmed39 s.vm) (hw : ∀ d ∈ words, d.before a0 Z = true) {kI : Nat} (wi : (Jvm.Cond.instantiable ST kI).before a0 Z = true)
    {x b : Addr} {k : ClassId} {zn z : Int32} {cs : List Int32} {dv v0 c0 : Value} (E : RoadKit.Exa Z h x ST) (V : RoadKit.Fld Z h x ST "value" "[B" v0) (C : RoadKit.Fld Z h x ST "coder" "B" c0) (K : RoadKit.Arv Z h b k .char zn (cs.map Value.int) dv) (S : RoadKit.Sta Z h ST "COMPACT_STRINGS" "Z" (.int z)) (hz : ¬ z = 0)
    (hlen : zn.toNatClampNeg = cs.length) (h0 : 0 < cs.length) (hbig : cs.length ≤ 536870912) (hall : ∀ c ∈ cs, ¬ 255 < c) (hfr : 4 ≤ R.frames) (hlo : W + 65 ≤ R.locals) :
    Back l R p e below s args New1.yN len W (fun P a => a = #[.ref x, .ref b] ∧ P.U.heap = h ∧ P.cells + 1 ≤ R.cells ∧ P.slots + cs.length ≤ R.slots)
      (fun P _ v B => ∃ L, QA Z x zn cs h v B.U.heap L ∧ B.locs = P.locs ++ L ∧ B.cells = P.cells + 1 ∧ B.slots = P.slots + cs.length) := by
  obtain ⟨A, K1, K2, K3, K4, K5, K6⟩ := K
  have e : A.slots.size = cs.length := K3.trans hlen
  have hat : ∀ (i : Nat) (hi : i < cs.length), A.slots[i]? = some (.int cs[i]) := fun i hi => by rw [K5 i (by omega)]; simp [List.getD_eq_getElem?_getD, hi]
  have hcv : ∀ (i : Nat) (hi : i < cs.length), cv A i = cs[i] := fun i hi => by unfold cv; rw [hat i hi]
  have hty : Typed .char A := fun i v hv => by
    have hi : i < A.slots.size := (Array.getElem?_eq_some_iff.mp hv).1
    have q := K5 i hi
    rw [hv] at q
    rw [Option.some.inj q]
    exact K6 i hi
  refine Back.mono (back hZ hw wi E V C K1 hty S hz (by omega) (by omega) (fun i hi => by rw [hcv i (by omega)]; exact hall _ (List.getElem_mem _)) hfr hlo) (fun P a hp => ⟨hp.1, hp.2.1, hp.2.2.1, by rw [e]; exact hp.2.2.2⟩) (fun P a v B hp hq => ?_)
  obtain ⟨L, ⟨q1, q2, q3, q4, q5, q6, q7, ⟨V', v1, v2, v3, v4, v5⟩, q9⟩, hl, hc, hs⟩ := hq
  refine ⟨L, ⟨q1, q2, q3, q4, q5, q6, q7, ⟨V'.cls, v3, V', v1, rfl, by rw [v4, e, hlen], K4, fun i hi => ?_, fun i hi => ?_⟩, q9⟩, hl, hc, by rw [hs, e]⟩
  · have hi' : i < cs.length := by omega
    rw [v5 i (by omega), hcv i hi']; simp [List.getD_eq_getElem?_getD, hi']
  · have hi' : i < cs.length := by omega
    simp only [List.getD_eq_getElem?_getD, List.getElem?_map, List.getElem?_eq_getElem hi', Option.map_some, Option.getD_some]
    exact fits_lo8 _
end StrChars.Road
namespace StrChars.Road
open Jvm Sem ClassFile Op Lib Jvm.Stand Jvm.Free Jvm.Free.XT
/-- WHAT COMES BACK, in the writer's own shape -/
def QV (Z : State) (x : Addr) (N : Int32) (bs : List Int32) (h : Heap) (n0 : Nat) (v : Option Value) (h' : Heap) (L : List Loc) : Prop := v = none ∧ RoadKit.Fr n0 L ∧ RoadKit.Keep h h' [x] ∧ RoadKit.Exa Z h' x ST ∧ RoadKit.Fld Z h' x ST "coder" "B" (.int 0) ∧
  ∃ (t : Addr) (kb : ClassId), n0 ≤ t ∧ h.size ≤ t ∧ ¬ t = x ∧ RoadKit.Fld Z h' x ST "value" "[B" (.ref t) ∧ RoadKit.Arv Z h' t kb .byte N (bs.map Value.int) (.int 0)
/-- **new String(chars) AT A CALL, FOR THE WRITER**: a char[] of n known ints, each 0 to 255 -/
theorem backV {p : Program} {l : Launch} {e : Env} {R : Room} {s : State} {args : Array Value} {below : List Frame} {len W : Nat} {Z : State} {a0 : Array Value} {h : Heap} (hZ : Z.Warmed39 s.vm) (hw : ∀ d ∈ words, d.before a0 Z = true) {kI : Nat} (wi : (Jvm.Cond.instantiable ST kI).before a0 Z = true)
    {x b : Addr} {kC : ClassId} {cs bs : List Int32} {d v0 c0 : Value} {z N : Int32} {n n0 : Nat} (hx0 : n0 ≤ x) (hh0 : n0 ≤ h.size) (E : RoadKit.Exa Z h x ST) (V : RoadKit.Fld Z h x ST "value" "[B" v0) (C : RoadKit.Fld Z h x ST "coder" "B" c0) (K : RoadKit.Arv Z h b kC .char N (cs.map Value.int) d) (S : RoadKit.Sta Z h ST "COMPACT_STRINGS" "Z" (.int z)) (hz : ¬ z = 0)
    (hn : cs.length = n) (hN : N = Int32.ofNat n) (l0 : 0 < n) (l2 : n ≤ 4000) (hp : ∀ c ∈ cs, ¬ c < 0 ∧ ¬ (255 : Int32) < c) (hb : bs = cs.map (fun c => c.toInt8.toInt32)) (hfr : 4 ≤ R.frames) (hlo : W + 65 ≤ R.locals) :
    Back l R p e below s args (⟨"java/lang/String", "<init>", "([C)V"⟩ : MethodName) len W (fun P a => a = #[.ref x, .ref b] ∧ P.U.heap = h ∧ P.cells + 1 ≤ R.cells ∧ P.slots + n ≤ R.slots)
      (fun P _ v B => ∃ L, QV Z x N bs h n0 v B.U.heap L ∧ B.locs = P.locs ++ L ∧ B.cells = P.cells + 1 ∧ B.slots = P.slots + n) := by
  subst hn hN hb
  refine Back.mono (backArv hZ hw wi E V C K S hz (n32 (by omega)) l0 (by omega) (fun c hc => (hp c hc).2) hfr hlo) (fun P a hp => hp) (fun P a v B hp hq => ?_)
  obtain ⟨L, ⟨q1, q2, q3, q4, q5, q6, q7, ⟨kb, v1, v2⟩, q9⟩, hl, hc, hs⟩ := hq
  exact ⟨L, ⟨q1, fun y hy => by rw [q2 y hy]; exact hx0, q3, q5, q7, h.size, kb, hh0, Nat.le_refl _, Nat.ne_of_gt E.lt, q6, by rw [List.map_map]; exact v2⟩, hl, hc, hs⟩
end StrChars.Road
namespace StrChars
open Jvm Sem ClassFile Op Lib Jvm.Stand Jvm.Free.XT Jvm.Free.ALB Jvm.Free.JM Jvm.Free
open Jvm.Lib.Cold (StaticIs)
def hi8 (x : Int32) : Int32 := lo8 (x >>> ((8 : Int32) &&& 31))
/-- what StringUTF16.getChar makes of two bytes -/
def pairCh (u v : Int32) : Int32 := (((u &&& 255) <<< ((0 : Int32) &&& 31)) ||| ((v &&& 255) <<< ((8 : Int32) &&& 31))).toUInt32.toUInt16.toUInt32.toInt32
theorem lo8_and (x : Int32) : (lo8 x &&& 255).toBitVec.toNat = x.toBitVec.toNat % 256 := by
  have h : (lo8 x).toBitVec = (x.toBitVec.signExtend 8).signExtend 32 := by rw [lo8, Int8.toBitVec_toInt32, Int32.toBitVec_toInt8]
  rw [Int32.toBitVec_and, BitVec.toNat_and, h]
  have e : ((x.toBitVec.signExtend 8).signExtend 32).toNat % 256 = x.toBitVec.toNat % 256 := by
    rw [BitVec.toNat_signExtend]
    have hlt := x.toBitVec.isLt
    simp only [BitVec.toNat_setWidth, BitVec.toNat_signExtend]
    split <;> split <;> omega
  rw [← e]
  exact Nat.and_two_pow_sub_one_eq_mod _ 8
theorem pair_says {c : Int32} (h0 : ¬ c < 0) (h1 : ¬ 65535 < c) : pairCh (lo8 c) (hi8 c) = c := by
  rw [Int32.lt_iff_toInt_lt] at h0 h1
  have e0 : (0 : Int32).toInt = 0 := rfl
  have e1 : (65535 : Int32).toInt = 65535 := rfl
  have hc : c.toInt = c.toBitVec.toNat := by
    have := c.toBitVec.isLt
    have e : c.toInt = c.toBitVec.toInt := rfl
    rw [e] at h0 h1
    rw [e]
    rw [BitVec.toInt_eq_toNat_cond] at h0 h1 ⊢
    split at h0 <;> split <;> omega
  have hn : c.toBitVec.toNat < 65536 := by omega
  have a1 := lo8_and c
  have a2 : (hi8 c &&& 255).toBitVec.toNat = c.toBitVec.toNat / 256 := by
    rw [hi8, lo8_and]
    have e : ((8 : Int32) &&& 31) = 8 := by decide
    rw [e, Int32.toBitVec_shiftRight]
    have e2 : ((8 : Int32).toBitVec.smod 32) = 8#32 := by decide
    rw [e2, BitVec.sshiftRight_eq', BitVec.toNat_sshiftRight_of_msb_false (by rw [BitVec.msb_eq_false_iff_two_mul_lt]; omega)]
    show c.toBitVec.toNat >>> 8 % 256 = _
    rw [Nat.shiftRight_eq_div_pow]
    omega
  unfold pairCh
  apply Int32.toBitVec_inj.mp
  apply BitVec.eq_of_toNat_eq
  have f0 : ((0 : Int32) &&& 31) = 0 := by decide
  have f8 : ((8 : Int32) &&& 31) = 8 := by decide
  rw [f0, f8]
  have g : (((lo8 c &&& 255) <<< (0 : Int32)) ||| ((hi8 c &&& 255) <<< (8 : Int32))).toBitVec.toNat = c.toBitVec.toNat := by
    rw [Int32.toBitVec_or, Int32.toBitVec_shiftLeft, Int32.toBitVec_shiftLeft]
    have s0 : ((0 : Int32).toBitVec.smod 32) = 0#32 := by decide
    have s8 : ((8 : Int32).toBitVec.smod 32) = 8#32 := by decide
    rw [s0, s8, BitVec.toNat_or]
    simp only [BitVec.shiftLeft_eq', BitVec.toNat_shiftLeft, a1, a2]
    show (c.toBitVec.toNat % 256) <<< 0 % 2 ^ 32 ||| (c.toBitVec.toNat / 256) <<< 8 % 2 ^ 32 = _
    rw [Nat.shiftLeft_zero, Nat.mod_eq_of_lt (show c.toBitVec.toNat % 256 < 2 ^ 32 by omega), Nat.mod_eq_of_lt (show (c.toBitVec.toNat / 256) <<< 8 < 2 ^ 32 by rw [Nat.shiftLeft_eq]; omega), Nat.or_comm, ← Nat.shiftLeft_add_eq_or_of_lt (by omega), Nat.shiftLeft_eq]
    omega
  show BitVec.toNat (((((lo8 c &&& 255) <<< (0 : Int32)) ||| ((hi8 c &&& 255) <<< (8 : Int32))).toBitVec.setWidth 16).setWidth 32) = _
  rw [BitVec.toNat_setWidth, BitVec.toNat_setWidth, g]
  omega
end StrChars
namespace StrChars
open Jvm Sem ClassFile Op Lib Jvm.Stand Jvm.Free.XT Jvm.Free.ALB Jvm.Free.JM Jvm.Free
open Jvm.Lib.Cold (StaticIs)
/-- the array's cell V codes the n chars f 0 .. f (n - 1) by the coder cd, as the JDK does: coder 1 just where some char is above 255 -/
def Cod (cd : Int32) (n : Nat) (f : Nat → Int32) (V : Cell) : Prop := (cd = 0 ∧ V.slots.size = n ∧ ∀ j, j < n → V.slots[j]? = some (.int (lo8 (f j))) ∧ ¬ 255 < f j) ∨ (cd = 1 ∧ V.slots.size = 2 * n ∧ (∀ j, j < n → V.slots[2 * j]? = some (.int (lo8 (f j))) ∧ V.slots[2 * j + 1]? = some (.int (hi8 (f j)))) ∧ ∃ j, j < n ∧ 255 < f j)
/-- **x is a String of the n chars f 0 .. f (n - 1)**, Latin-1 or UTF-16; its array at t has the cell V -/
def Txt (x t : Addr) (V : Cell) (cd : Int32) (n : Nat) (f : Nat → Int32) (U : State) : Prop := Exact "java/lang/String" x U ∧ Has x "java/lang/String" "value" "[B" (.ref t) U ∧ Has x "java/lang/String" "coder" "B" (.int cd) U ∧ XT.Arr .byte t V U ∧ Cod cd n f V ∧ ∀ j, j < n → ¬ f j < 0 ∧ ¬ 65535 < f j
theorem Txt.mv {x t : Addr} {V : Cell} {cd : Int32} {n : Nat} {f : Nat → Int32} {U U' : State} (h : Txt x t V cd n f U) (hal : U.vm.Alike U'.vm) (hh : U'.heap = U.heap) : Txt x t V cd n f U' := ⟨h.1.mv hal hh, h.2.1.mv hal hh, h.2.2.1.mv hal hh, h.2.2.2.1.mv hal hh, h.2.2.2.2⟩
end StrChars
namespace StrChars.Road
open Jvm Sem ClassFile Op Lib Jvm.Stand Jvm.Free Jvm.Free.XT
open Jvm.Lib.Cold (StaticIs)
theorem consq {a : Array Value} {s : State} {c : Jvm.Cond} {L : List Jvm.Cond} (h0 : c.before a s = true) (h : ∀ w ∈ L, w.before a s = true) : ∀ w ∈ c :: L, w.before a s = true := fun w hw => (List.mem_cons.mp hw).elim (fun e => e ▸ h0) (h w)
/-- the bytes of the chars cs, low before high -/
def wideBytes : List Int32 → List Value
  | [] => []
  | c :: cs => .int (lo8 c) :: .int (hi8 c) :: wideBytes cs
theorem wide_lo (d : Value) : ∀ (cs : List Int32) (j : Nat), j < cs.length → (wideBytes cs).getD (2 * j) d = .int (lo8 (cs.getD j 0))
  | [], j, h => absurd h (Nat.not_lt_zero j)
  | c :: cs, 0, _ => rfl
  | c :: cs, j + 1, h => by
    have q := wide_lo d cs j (by simpa using h)
    rw [show 2 * (j + 1) = 2 * j + 1 + 1 from by omega]
    simpa [wideBytes] using q
theorem wide_hi (d : Value) : ∀ (cs : List Int32) (j : Nat), j < cs.length → (wideBytes cs).getD (2 * j + 1) d = .int (hi8 (cs.getD j 0))
  | [], j, h => absurd h (Nat.not_lt_zero j)
  | c :: cs, 0, _ => rfl
  | c :: cs, j + 1, h => by
    have q := wide_hi d cs j (by simpa using h)
    rw [show 2 * (j + 1) + 1 = 2 * j + 1 + 1 + 1 from by omega]
    simpa [wideBytes] using q
theorem low_at (d : Value) (cs : List Int32) (j : Nat) (h : j < cs.length) : (cs.map fun c => Value.int (lo8 c)).getD j d = .int (lo8 (cs.getD j 0)) := by
  simp [List.getD_eq_getElem?_getD, h]
/-- an array of N2 bytes vs codes the chars cs by the coder cd -/
def CodA (cs : List Int32) (cd N2 : Int32) (vs : List Value) : Prop := (cd = 0 ∧ N2 = Int32.ofNat cs.length ∧ vs = (cs.map fun c => Value.int (lo8 c)) ∧ ∀ c ∈ cs, ¬ 255 < c) ∨ (cd = 1 ∧ N2 = Int32.ofNat (2 * cs.length) ∧ vs = wideBytes cs ∧ ∃ c ∈ cs, 255 < c)
theorem CodA.cod {cs : List Int32} {cd N2 : Int32} {vs : List Value} {V : Cell} (h : CodA cs cd N2 vs) (hn : 2 * cs.length < 2 ^ 31) (hs : V.slots.size = N2.toNatClampNeg) (hv : RoadKit.Has V vs (.int 0)) : Cod cd cs.length (fun j => cs.getD j 0) V := by
  rcases h with ⟨rfl, rfl, rfl, h⟩ | ⟨rfl, rfl, rfl, c, hc, hw⟩
  · rw [n32 (by omega)] at hs
    exact Or.inl ⟨rfl, hs, fun j hj => ⟨by rw [hv j (by omega), low_at _ _ _ hj], by
      have e : cs.getD j 0 = cs[j] := by simp [List.getD_eq_getElem?_getD, hj]
      show ¬ 255 < cs.getD j 0
      rw [e]; exact h _ (List.getElem_mem _)⟩⟩
  · rw [n32 (by omega)] at hs
    obtain ⟨j, hj, rfl⟩ := List.getElem_of_mem hc
    exact Or.inr ⟨rfl, hs, fun j hj => ⟨by rw [hv _ (by omega), wide_lo _ _ _ hj], by rw [hv _ (by omega), wide_hi _ _ _ hj]⟩, j, hj, by
      have e : cs.getD j 0 = cs[j] := by simp [List.getD_eq_getElem?_getD, hj]
      show 255 < cs.getD j 0
      rw [e]; exact hw⟩
/-- an object of exactly java/lang/String, its two fields found: as the laws ask it -/
theorem strObj {Z U : State} {a0 : Array Value} {kI : Nat} (wi : (Jvm.Cond.instantiable ST kI).before a0 Z = true) (al : Z.vm.Alike U.vm) {x : Addr} {v0 c0 : Value} (E : RoadKit.Exa Z U.heap x ST) (V : RoadKit.Fld Z U.heap x ST "value" "[B" v0) (C : RoadKit.Fld Z U.heap x ST "coder" "B" c0) :
    ∃ (D : Cell) (fV fC : Field), Blank ST x D U ∧ Found ST "value" "[B" fV U ∧ Found ST "coder" "B" fC U ∧ D.slots[fV.slot]? = some v0 ∧ D.slots[fC.slot]? = some c0 ∧ RoadKit.slotOf Z ST "value" "[B" = fV.slot ∧ RoadKit.slotOf Z ST "coder" "B" = fC.slot := by
  obtain ⟨D, cfV, kV, iV, fV, hD, gV, stV, knV, obV, asV, slV⟩ := V
  obtain ⟨D', cfC, kC, iC, fC, hD', gC, stC, -, -, asC, slC⟩ := C
  cases hD.symm.trans hD'
  obtain ⟨D2, kD, e1, e2, e3, e4, e5⟩ := E
  cases hD.symm.trans e1
  obtain ⟨c2, k2, i1, i2, i3, -⟩ := Cond.instantiable_spec wi
  cases e2.symm.trans i1
  cases e3.symm.trans i2
  obtain ⟨kU, u1, u2⟩ := al.2.2 _ _ e3
  exact ⟨D, fV, fC, ⟨hD, ⟨knV, fun q hq => by rw [hq] at obV; cases obV⟩, by rw [al.findClass]; exact e2, kU, u1, by rw [u2]; exact i3, by rw [u2]; exact e5 i3⟩, ⟨SBG.found_only al ⟨cfV, kV, iV, gV⟩, stV⟩, ⟨SBG.found_only al ⟨cfC, kC, iC, gC⟩, stC⟩, slV, slC, by simp [RoadKit.slotOf, gV], by simp [RoadKit.slotOf, gC]⟩
theorem sta_is {Z U : State} (al : Z.vm.Alike U.vm) {C n d : String} {v : Value} (S : RoadKit.Sta Z U.heap C n d v) : StaticIs U C n d v := by
  obtain ⟨cfS, iS, kS, fS, st, cS, t1, t2, t3, t4, t5, t6, t7⟩ := S
  exact StaticIs.there (s := { Z with heap := U.heap }) ⟨cfS, iS, kS, fS, st, cS, t1, t2, t3, t4, t5, (fun q => by rw [q] at t6; cases t6), t7⟩ al rfl
end StrChars.Road
namespace StrChars
open Jvm Sem ClassFile Op Lib Jvm.Stand Jvm.Free.XT Jvm.Free.ALB Jvm.Free.JM Jvm.Free
open Jvm.Lib.Cold (StaticIs)
/-- what place i of a byte[]'s cell holds -/
def yv (A : Cell) (i : Nat) : Int32 := match A.slots[i]? with | some (.int x) => x | _ => 0
theorem yv_get {a : Addr} {A : Cell} {U : State} (h : XT.Arr .byte a A U) (ht : Typed .byte A) {i : Nat} (hi : i < A.slots.size) : A.slots[i]? = some (.int (yv A i)) := by
  have e := Array.getElem?_eq_getElem hi
  have f := ht i _ e
  unfold yv; rw [e]
  generalize A.slots[i] = v at f
  cases v <;> simp [fits] at f ⊢
/-- the two arrays are equal, place for place -/
def EqC (A B : Cell) : Prop := A.slots.size = B.slots.size ∧ ∀ i, i < A.slots.size → yv A i = yv B i
/-- a boolean that says whether p -/
def Says01 (q : Prop) (r : Option Value) (s u : State) : Prop := ∃ v : Int32, r = some (.int v) ∧ u.heap = s.heap ∧ ((v = 1 ∧ q) ∨ (v = 0 ∧ ¬ q))
theorem Says01.mv {q : Prop} : ∀ r (U U' V V' : State), U'.heap = U.heap → V.vm.Alike V'.vm → V'.heap = V.heap → Says01 q r U V → Says01 q r U' V' :=
  fun r U U' V V' h1 _ h2 ⟨v, a, b, c⟩ => ⟨v, a, by rw [h1, h2]; exact b, c⟩
namespace LEq
def yN : MethodName := ⟨"java/lang/StringLatin1", "equals", "([B[B)Z"⟩
abbrev yB : ByteArray := jdk_43_method_13_code
theorem d0 : decode yB 0 = .ok (.aload_n 0, 1) := by decide +kernel
theorem d1 : decode yB 1 = .ok (.arraylength, 1) := by decide +kernel
theorem d2 : decode yB 2 = .ok (.aload_n 1, 1) := by decide +kernel
theorem d3 : decode yB 3 = .ok (.arraylength, 1) := by decide +kernel
theorem d4 : decode yB 4 = .ok (.if_icmp (.ne) 30, 3) := by decide +kernel
theorem d7 : decode yB 7 = .ok (.iconst 0, 1) := by decide +kernel
theorem d8 : decode yB 8 = .ok (.istore_n 2, 1) := by decide +kernel
theorem d9 : decode yB 9 = .ok (.iload_n 2, 1) := by decide +kernel
theorem d10 : decode yB 10 = .ok (.aload_n 0, 1) := by decide +kernel
theorem d11 : decode yB 11 = .ok (.arraylength, 1) := by decide +kernel
theorem d12 : decode yB 12 = .ok (.if_icmp (.ge) 20, 3) := by decide +kernel
theorem d15 : decode yB 15 = .ok (.aload_n 0, 1) := by decide +kernel
theorem d16 : decode yB 16 = .ok (.iload_n 2, 1) := by decide +kernel
theorem d17 : decode yB 17 = .ok (.baload, 1) := by decide +kernel
theorem d18 : decode yB 18 = .ok (.aload_n 1, 1) := by decide +kernel
theorem d19 : decode yB 19 = .ok (.iload_n 2, 1) := by decide +kernel
theorem d20 : decode yB 20 = .ok (.baload, 1) := by decide +kernel
theorem d21 : decode yB 21 = .ok (.if_icmp (.eq) 5, 3) := by decide +kernel
theorem d24 : decode yB 24 = .ok (.iconst 0, 1) := by decide +kernel
theorem d25 : decode yB 25 = .ok (.ireturn, 1) := by decide +kernel
theorem d26 : decode yB 26 = .ok (.iinc 2 1, 3) := by decide +kernel
theorem d29 : decode yB 29 = .ok (.goto (-20), 3) := by decide +kernel
theorem d32 : decode yB 32 = .ok (.iconst 1, 1) := by decide +kernel
theorem d33 : decode yB 33 = .ok (.ireturn, 1) := by decide +kernel
theorem d34 : decode yB 34 = .ok (.iconst 0, 1) := by decide +kernel
theorem d35 : decode yB 35 = .ok (.ireturn, 1) := by decide +kernel
def site : List Cond := []
def tab : Cond := tabOf yN yB 3 (some .boolean) site
def P (a : Addr) (A : Cell) (b : Addr) (B : Cell) (args : Array Value) (s : State) : Prop := args = #[.ref a, .ref b] ∧ XT.Arr .byte a A s ∧ Typed .byte A ∧ XT.Arr .byte b B s ∧ Typed .byte B
/-- whether two byte[] are equal, place for place -/
theorem law (l : Launch) (a : Addr) (A : Cell) (b : Addr) (B : Cell) : Law l yN 2 2 0 0 yB 3 (some .boolean) site (P a A b B) (Says01 (EqC A B)) [] 0 0 := by
  refine Law.of_walk (plainFor_of_name (by decide +kernel)) (by decide +kernel) (by decide +kernel) (by decide) (fun _ _ h => by rw [h.1]; rfl) (fun _ U U' hal hh h => ⟨h.1, h.2.1.mv hal hh, h.2.2.1, h.2.2.2.1.mv hal hh, h.2.2.2.2⟩) (fun r U U' V V' h1 hal h2 h => Says01.mv r U U' V V' h1 hal h2 h) ?_
  intro p e s m args below meth c s₁ X0 hexec hbytes hml hret hlk hnm hown hh0 W hP
  obtain ⟨rfl, hA, tA, hB, tB⟩ := hP
  have a31 := hA.2.2.2
  have b31 := hB.2.2.2
  have hA0 := hA.mv X0.warmed.alike hh0
  have hB0 := hB.mv X0.warmed.alike hh0
  have c1 : Steps p.tables e below (s₁.setTop (entryFrame m #[.ref a, .ref b] 3)) (s₁.setTop (mkF m 0 #[.val (.ref a), .val (.ref b), .unset] [])) := entry rfl
  have c2 : Steps p.tables e below (s₁.setTop (entryFrame m #[.ref a, .ref b] 3)) (s₁.setTop (mkF m 4 #[.val (.ref a), .val (.ref b), .unset] [.int (Int32.ofNat B.slots.size), .int (Int32.ofNat A.slots.size)])) := c1.trans (by
    refine XS.aloadN X0.here hexec rfl (hb hbytes d0) rfl rfl ?_
    refine X0.alen hexec hA0 rfl rfl (hb hbytes d1) ?_
    refine XS.aloadN X0.here hexec rfl (hb hbytes d2) rfl rfl ?_
    refine X0.alen hexec hB0 rfl rfl (hb hbytes d3) ?_
    exact Steps.refl _)
  by_cases hs : A.slots.size = B.slots.size
  · have c3 : Steps p.tables e below (s₁.setTop (entryFrame m #[.ref a, .ref b] 3)) (s₁.setTop (mkF m 9 #[.val (.ref a), .val (.ref b), .val (.int 0)] [])) := c2.trans (by
      refine XS.icmpNo X0.here hexec rfl (hb hbytes d4) rfl (ii_ne_f (by rw [hs])) ?_
      refine iconstV X0.here hexec rfl 0 (hb hbytes d7) (by decide) ?_
      refine XS.istoreN X0.here hexec rfl (hb hbytes d8) rfl rfl ?_
      exact Steps.refl _)
    have loop : ∀ (r i : Nat), i + r = A.slots.size → (∀ j, j < i → yv A j = yv B j) → Steps p.tables e below (s₁.setTop (entryFrame m #[.ref a, .ref b] 3)) (s₁.setTop (mkF m 9 #[.val (.ref a), .val (.ref b), .val (.int (Int32.ofNat i))] [])) → ∃ (pc : Nat) (Ls : Array Slot) (v : Int32), (pc = 25 ∨ pc = 33) ∧ ((v = 1 ∧ EqC A B) ∨ (v = 0 ∧ ¬ EqC A B)) ∧ Steps p.tables e below (s₁.setTop (entryFrame m #[.ref a, .ref b] 3)) (s₁.setTop (mkF m pc Ls [.int v])) := by
      intro r
      induction r with
      | zero =>
        intro i hi he cl
        exact ⟨33, _, 1, Or.inr rfl, Or.inl ⟨rfl, hs, fun j hj => he j (by omega)⟩, cl.trans (by
          refine XS.iloadN X0.here hexec rfl (hb hbytes d9) rfl ?_
          refine XS.aloadN X0.here hexec rfl (hb hbytes d10) rfl rfl ?_
          refine X0.alen hexec hA0 rfl rfl (hb hbytes d11) ?_
          refine XS.icmpYes X0.here hexec rfl (pc0 := 12) rfl (hb hbytes d12) rfl (ii_ge_t (nlt32 (by omega) (by omega))) (by decide) rfl ?_
          refine iconstV X0.here hexec rfl 1 (hb hbytes d32) (by decide) ?_
          exact Steps.refl _)⟩
      | succ r ih =>
        intro i hi he cl
        have c4 : Steps p.tables e below (s₁.setTop (entryFrame m #[.ref a, .ref b] 3)) (s₁.setTop (mkF m 21 #[.val (.ref a), .val (.ref b), .val (.int (Int32.ofNat i))] [.int (yv B i), .int (yv A i)])) := cl.trans (by
          refine XS.iloadN X0.here hexec rfl (hb hbytes d9) rfl ?_
          refine XS.aloadN X0.here hexec rfl (hb hbytes d10) rfl rfl ?_
          refine X0.alen hexec hA0 rfl rfl (hb hbytes d11) ?_
          refine XS.icmpNo X0.here hexec rfl (hb hbytes d12) rfl (ii_ge_f (lt32 (by omega) (by omega))) ?_
          refine XS.aloadN X0.here hexec rfl (hb hbytes d15) rfl rfl ?_
          refine XS.iloadN X0.here hexec rfl (hb hbytes d16) rfl ?_
          refine X0.aget hexec hA0 rfl (yv_get hA tA (i := i) (by omega)) rfl rfl (hb hbytes d17) ?_
          refine XS.aloadN X0.here hexec rfl (hb hbytes d18) rfl rfl ?_
          refine XS.iloadN X0.here hexec rfl (hb hbytes d19) rfl ?_
          refine X0.aget hexec hB0 rfl (yv_get hB tB (i := i) (by omega)) rfl rfl (hb hbytes d20) ?_
          exact Steps.refl _)
        by_cases hv : yv A i = yv B i
        · have c5 : Steps p.tables e below (s₁.setTop (entryFrame m #[.ref a, .ref b] 3)) (s₁.setTop (mkF m 9 #[.val (.ref a), .val (.ref b), .val (.int (Int32.ofNat i + 1))] [])) := c4.trans (by
            refine XS.icmpYes X0.here hexec rfl (pc0 := 21) rfl (hb hbytes d21) rfl (ii_eq_t hv) (by decide) rfl ?_
            refine iincV X0.here hexec rfl 1 (hb hbytes d26) (by decide) rfl rfl ?_
            refine XS.goto X0.here hexec rfl (pc0 := 29) rfl (hb hbytes d29) (by decide) rfl ?_
            exact Steps.refl _)
          rw [succ32] at c5
          exact ih (i + 1) (by omega) (fun j hj => by
            by_cases e : j = i
            · rw [e]; exact hv
            · exact he j (by omega)) c5
        · exact ⟨25, _, 0, Or.inl rfl, Or.inr ⟨rfl, fun q => hv (q.2 i (by omega))⟩, c4.trans (by
            refine XS.icmpNo X0.here hexec rfl (hb hbytes d21) rfl (ii_eq_f hv) ?_
            refine iconstV X0.here hexec rfl 0 (hb hbytes d24) (by decide) ?_
            exact Steps.refl _)⟩
    obtain ⟨pc, Ls, v, hpc, hv, cz⟩ := loop A.slots.size 0 (by omega) (fun j hj => absurd hj (Nat.not_lt_zero j)) c3
    have nv : narrow .boolean (.int v) = .int v := by rcases hv with ⟨rfl, -⟩ | ⟨rfl, -⟩ <;> rfl
    rcases hpc with rfl | rfl
    · exact ⟨s₁, some (.int v), _, _, _, X0, rfl, rfl, rfl, (fun h => by cases h), ⟨v, rfl, hh0, hv⟩, fun fs hl => cz.trans (X0.ireturnOut hexec hret nv (Or.inr (Or.inl rfl)) (hb hbytes d25) hl)⟩
    · exact ⟨s₁, some (.int v), _, _, _, X0, rfl, rfl, rfl, (fun h => by cases h), ⟨v, rfl, hh0, hv⟩, fun fs hl => cz.trans (X0.ireturnOut hexec hret nv (Or.inr (Or.inl rfl)) (hb hbytes d33) hl)⟩
  · have c3 : Steps p.tables e below (s₁.setTop (entryFrame m #[.ref a, .ref b] 3)) (s₁.setTop (mkF m 35 #[.val (.ref a), .val (.ref b), .unset] [.int 0])) := c2.trans (by
      refine XS.icmpYes X0.here hexec rfl (pc0 := 4) rfl (hb hbytes d4) rfl (ii_ne_t (ne32 a31 b31 hs)) (by decide) rfl ?_
      refine iconstV X0.here hexec rfl 0 (hb hbytes d34) (by decide) ?_
      exact Steps.refl _)
    exact ⟨s₁, some (.int 0), _, _, _, X0, rfl, rfl, rfl, (fun h => by cases h), ⟨0, rfl, hh0, Or.inr ⟨rfl, fun q => hs q.1⟩⟩, fun fs hl => c3.trans (X0.ireturnOut hexec hret rfl (Or.inr (Or.inl rfl)) (hb hbytes d35) hl)⟩
end LEq
theorem Cod.ty {cd : Int32} {n : Nat} {f : Nat → Int32} {V : Cell} (h : Cod cd n f V) : Typed .byte V := fun i v hv => by
  have hi : i < V.slots.size := (Array.getElem?_eq_some_iff.mp hv).1
  rcases h with ⟨-, k1, k2⟩ | ⟨-, k1, k2, -⟩
  · rw [(k2 i (by omega)).1] at hv; cases hv; exact fits_lo8 _
  · rcases Nat.mod_two_eq_zero_or_one i with e | e
    · obtain ⟨j, rfl⟩ : ∃ j, i = 2 * j := ⟨i / 2, by omega⟩
      rw [(k2 j (by omega)).1] at hv; cases hv; exact fits_lo8 _
    · obtain ⟨j, rfl⟩ : ∃ j, i = 2 * j + 1 := ⟨i / 2, by omega⟩
      rw [(k2 j (by omega)).2] at hv; cases hv; exact fits_lo8 _
/-- the same text -/
def SameT (n : Nat) (f : Nat → Int32) (k : Nat) (g : Nat → Int32) : Prop := n = k ∧ ∀ j, j < n → f j = g j
theorem lo8_inj {x y : Int32} (h0 : ¬ x < 0) (h1 : ¬ 255 < x) (k0 : ¬ y < 0) (k1 : ¬ 255 < y) (h : lo8 x = lo8 y) : x = y := by
  rw [← lo8_mask h0 h1, ← lo8_mask k0 k1, h]
/-- arrays coded by one coder are equal just where the texts are -/
theorem Cod.eqv {cd : Int32} {n k : Nat} {f g : Nat → Int32} {V V' : Cell} (h : Cod cd n f V) (h' : Cod cd k g V') (hf : ∀ j, j < n → ¬ f j < 0 ∧ ¬ 65535 < f j) (hg : ∀ j, j < k → ¬ g j < 0 ∧ ¬ 65535 < g j) : EqC V V' ↔ SameT n f k g := by
  have yvv : ∀ {W : Cell} {i : Nat} {x : Int32}, W.slots[i]? = some (.int x) → yv W i = x := fun q => by unfold yv; rw [q]
  rcases h with ⟨rfl, k1, k2⟩ | ⟨rfl, k1, k2, -⟩
  · rcases h' with ⟨-, m1, m2⟩ | ⟨e, -⟩
    · constructor
      · rintro ⟨e1, e2⟩
        refine ⟨by omega, fun j hj => ?_⟩
        have q := e2 j (by omega)
        rw [yvv (k2 j hj).1, yvv (m2 j (by omega)).1] at q
        exact lo8_inj (hf j hj).1 (k2 j hj).2 (hg j (by omega)).1 (m2 j (by omega)).2 q
      · rintro ⟨rfl, e2⟩
        refine ⟨by omega, fun j hj => ?_⟩
        rw [yvv (k2 j (by omega)).1, yvv (m2 j (by omega)).1, e2 j (by omega)]
    · exact absurd e (by decide)
  · rcases h' with ⟨e, -⟩ | ⟨-, m1, m2, -⟩
    · exact absurd e (by decide)
    · constructor
      · rintro ⟨e1, e2⟩
        refine ⟨by omega, fun j hj => ?_⟩
        have q1 := e2 (2 * j) (by omega)
        have q2 := e2 (2 * j + 1) (by omega)
        rw [yvv (k2 j hj).1, yvv (m2 j (by omega)).1] at q1
        rw [yvv (k2 j hj).2, yvv (m2 j (by omega)).2] at q2
        rw [← pair_says (hf j hj).1 (hf j hj).2, ← pair_says (hg j (by omega)).1 (hg j (by omega)).2, q1, q2]
      · rintro ⟨rfl, e2⟩
        refine ⟨by omega, fun i hi => ?_⟩
        rcases Nat.mod_two_eq_zero_or_one i with e | e
        · obtain ⟨j, rfl⟩ : ∃ j, i = 2 * j := ⟨i / 2, by omega⟩
          rw [yvv (k2 j (by omega)).1, yvv (m2 j (by omega)).1, e2 j (by omega)]
        · obtain ⟨j, rfl⟩ : ∃ j, i = 2 * j + 1 := ⟨i / 2, by omega⟩
          rw [yvv (k2 j (by omega)).2, yvv (m2 j (by omega)).2, e2 j (by omega)]
/-- two codings differ: so do the texts -/
theorem Cod.dif {cd cd' : Int32} {n k : Nat} {f g : Nat → Int32} {V V' : Cell} (h : Cod cd n f V) (h' : Cod cd' k g V') (hne : ¬ cd = cd') : ¬ SameT n f k g := by
  rintro ⟨rfl, e⟩
  rcases h with ⟨rfl, -, k2⟩ | ⟨rfl, -, -, j, hj, hw⟩
  · rcases h' with ⟨rfl, -⟩ | ⟨-, -, -, j, hj, hw⟩
    · exact hne rfl
    · exact (k2 j hj).2 (by rw [e j hj]; exact hw)
  · rcases h' with ⟨-, -, m2⟩ | ⟨rfl, -⟩
    · exact (m2 j hj).2 (by rw [← e j hj]; exact hw)
    · exact hne rfl
/-- an object of exactly C is an instance of C -/
theorem cinst {p : Program} {l : Launch} {e : Env} {R : Room} {s : State} {m : MethodId} {args : Array Value} {below : List Frame} {meth : Method} {c : Code} {T : State} {locs : List Loc} {cells slots : Nat} (X : Stand p l e R s m args below meth c T locs cells slots) (hexec : p.tables.exec = Jvm.exec) {own C : String} {index : Nat} (hown : s.vm.findClass own = some m.cls) (hlink : (Cond.classLink own index C).before args s = true) {a : Addr} (hE : Exact C a T)
    {g : JFrame} (hg : g.method = m) {rest : List Value} (hstack : g.stack = .ref a :: rest) (hdg : decode c.code g.pc = .ok (.instanceof index, 3)) :
    ∃ T', Stand p l e R s m args below meth c T' locs cells slots ∧ T'.heap = T.heap ∧ ∀ target, Steps p.tables e below (T'.setTop { g with pc := g.pc + 3, stack := .int 1 :: rest }) target → Steps p.tables e below (T.setTop g) target := by
  obtain ⟨cB, h1, D, h2, h3, h4⟩ := hE
  have h1' : s.vm.findClass C = some cB := by rw [← X.warmed.alike.findClass]; exact h1
  obtain ⟨vm', X', st⟩ := X.instanceofYes hexec hown hlink h2 h4 h1' (by rw [h3]; exact Jvm.Free.SB.assignable_self _ _) hg hstack hdg
  exact ⟨_, X', rfl, st⟩
theorem cself {p : Program} {l : Launch} {e : Env} {R : Room} {s : State} {m : MethodId} {args : Array Value} {below : List Frame} {meth : Method} {c : Code} {T : State} {locs : List Loc} {cells slots : Nat} (X : Stand p l e R s m args below meth c T locs cells slots) (hexec : p.tables.exec = Jvm.exec) {own C : String} {index : Nat} (hown : s.vm.findClass own = some m.cls) (hlink : (Cond.classLink own index C).before args s = true) {a : Addr} (hE : Exact C a T)
    {g : JFrame} (hg : g.method = m) {rest : List Value} (hstack : g.stack = .ref a :: rest) (hdg : decode c.code g.pc = .ok (.checkcast index, 3)) :
    ∃ T', Stand p l e R s m args below meth c T' locs cells slots ∧ T'.heap = T.heap ∧ ∀ target, Steps p.tables e below (T'.setTop { g with pc := g.pc + 3, stack := .ref a :: rest }) target → Steps p.tables e below (T.setTop g) target := by
  obtain ⟨cB, h1, D, h2, h3, h4⟩ := hE
  have h1' : s.vm.findClass C = some cB := by rw [← X.warmed.alike.findClass]; exact h1
  obtain ⟨vm', X', st⟩ := X.checkcastYes hexec hown hlink h2 h4 h1' (by rw [h3]; exact Jvm.Free.SB.assignable_self _ _) hg hstack hdg
  exact ⟨_, X', rfl, fun t h => st t (by rw [← hstack] at h; exact h)⟩
namespace SEq
def yN : MethodName := ⟨"java/lang/String", "equals", "(Ljava/lang/Object;)Z"⟩
abbrev yB : ByteArray := jdk_42_method_66_code
theorem d0 : decode yB 0 = .ok (.aload_n 0, 1) := by decide +kernel
theorem d1 : decode yB 1 = .ok (.aload_n 1, 1) := by decide +kernel
theorem d2 : decode yB 2 = .ok (.if_acmp (.ne) 5, 3) := by decide +kernel
theorem d5 : decode yB 5 = .ok (.iconst 1, 1) := by decide +kernel
theorem d6 : decode yB 6 = .ok (.ireturn, 1) := by decide +kernel
theorem d7 : decode yB 7 = .ok (.aload_n 1, 1) := by decide +kernel
theorem d8 : decode yB 8 = .ok (.instanceof 10, 3) := by decide +kernel
theorem d11 : decode yB 11 = .ok (.ifCond (.eq) 43, 3) := by decide +kernel
theorem d14 : decode yB 14 = .ok (.aload_n 1, 1) := by decide +kernel
theorem d15 : decode yB 15 = .ok (.checkcast 10, 3) := by decide +kernel
theorem d18 : decode yB 18 = .ok (.astore_n 2, 1) := by decide +kernel
theorem d19 : decode yB 19 = .ok (.getstatic 38, 3) := by decide +kernel
theorem d22 : decode yB 22 = .ok (.ifCond (.eq) 14, 3) := by decide +kernel
theorem d25 : decode yB 25 = .ok (.aload_n 0, 1) := by decide +kernel
theorem d26 : decode yB 26 = .ok (.getfield 15, 3) := by decide +kernel
theorem d29 : decode yB 29 = .ok (.aload_n 2, 1) := by decide +kernel
theorem d30 : decode yB 30 = .ok (.getfield 15, 3) := by decide +kernel
theorem d33 : decode yB 33 = .ok (.if_icmp (.ne) 21, 3) := by decide +kernel
theorem d36 : decode yB 36 = .ok (.aload_n 0, 1) := by decide +kernel
theorem d37 : decode yB 37 = .ok (.getfield 9, 3) := by decide +kernel
theorem d40 : decode yB 40 = .ok (.aload_n 2, 1) := by decide +kernel
theorem d41 : decode yB 41 = .ok (.getfield 9, 3) := by decide +kernel
theorem d44 : decode yB 44 = .ok (.invokestatic 541, 3) := by decide +kernel
theorem d47 : decode yB 47 = .ok (.ifCond (.eq) 7, 3) := by decide +kernel
theorem d50 : decode yB 50 = .ok (.iconst 1, 1) := by decide +kernel
theorem d51 : decode yB 51 = .ok (.goto 4, 3) := by decide +kernel
theorem d54 : decode yB 54 = .ok (.iconst 0, 1) := by decide +kernel
theorem d55 : decode yB 55 = .ok (.ireturn, 1) := by decide +kernel
def site : List Cond := [.classLink "java/lang/String" 10 "java/lang/String", .fieldLink "java/lang/String" 38 "java/lang/String" "COMPACT_STRINGS" "Z", .fieldLink "java/lang/String" 15 "java/lang/String" "coder" "B", .fieldLink "java/lang/String" 9 "java/lang/String" "value" "[B", LEq.tab] ++ staticW "java/lang/String" 541 LEq.yN
def tab : Cond := tabOf yN yB 3 (some .boolean) site
def P (x t : Addr) (V : Cell) (cd : Int32) (n : Nat) (f : Nat → Int32) (y t' : Addr) (V' : Cell) (cd' : Int32) (k : Nat) (g : Nat → Int32) (z : Int32) (args : Array Value) (s : State) : Prop := args = #[.ref x, .ref y] ∧ Txt x t V cd n f s ∧ Txt y t' V' cd' k g s ∧ StaticIs s "java/lang/String" "COMPACT_STRINGS" "Z" (.int z) ∧ ¬ z = 0
/-- equals(Object) of two Strings: whether the texts are the same -/
theorem law (l : Launch) (x t : Addr) (V : Cell) (cd : Int32) (n : Nat) (f : Nat → Int32) (y t' : Addr) (V' : Cell) (cd' : Int32) (k : Nat) (g : Nat → Int32) (z : Int32) : Law l yN 2 1 1 14 yB 3 (some .boolean) site (P x t V cd n f y t' V' cd' k g z) (Says01 (SameT n f k g)) [] 0 0 := by
  refine Law.of_walk (plainFor_of_name (by decide +kernel)) (by decide +kernel) (by decide +kernel) (by decide) (fun _ _ h => by rw [h.1]; rfl) (fun _ U U' hal hh h => ⟨h.1, h.2.1.mv hal hh, h.2.2.1.mv hal hh, h.2.2.2.1.there hal hh, h.2.2.2.2⟩) (fun r U U' V V' h1 hal h2 h => Says01.mv r U U' V V' h1 hal h2 h) ?_
  intro p e s m args below meth c s₁ X0 hexec hbytes hml hret hlk hnm hown hh0 W hP
  obtain ⟨rfl, hx, hy, s1, hz⟩ := hP
  have c1 : Steps p.tables e below (s₁.setTop (entryFrame m #[.ref x, .ref y] 3)) (s₁.setTop (mkF m 2 #[.val (.ref x), .val (.ref y), .unset] [.ref y, .ref x])) := Steps.trans (entry rfl) (by
    show Steps p.tables e below (s₁.setTop (mkF m 0 #[.val (.ref x), .val (.ref y), .unset] [])) _
    refine XS.aloadN X0.here hexec rfl (hb hbytes d0) rfl rfl ?_
    refine XS.aloadN X0.here hexec rfl (hb hbytes d1) rfl rfl ?_
    exact Steps.refl _)
  by_cases hxy : x = y
  · have c2 : Steps p.tables e below (s₁.setTop (entryFrame m #[.ref x, .ref y] 3)) (s₁.setTop (mkF m 6 #[.val (.ref x), .val (.ref y), .unset] [.int 1])) := c1.trans (by
      refine acmpNo X0.here hexec rfl (hb hbytes d2) rfl rfl rfl (by simp [acmp, hxy]) ?_
      refine iconstV X0.here hexec rfl 1 (hb hbytes d5) (by decide) ?_
      exact Steps.refl _)
    subst hxy
    have ec : cd = cd' := by
      obtain ⟨D, fd, a1, a2, a3⟩ := hx.2.2.1
      obtain ⟨D', fd', b1, b2, b3⟩ := hy.2.2.1
      cases a1.symm.trans b1
      obtain ⟨q1, q2, q3, q4⟩ := a2.1
      obtain ⟨r1, r2, r3, r4⟩ := b2.1
      cases q4.symm.trans r4
      cases a3.symm.trans b3; rfl
    have et : t = t' := by
      obtain ⟨D, fd, a1, a2, a3⟩ := hx.2.1
      obtain ⟨D', fd', b1, b2, b3⟩ := hy.2.1
      cases a1.symm.trans b1
      obtain ⟨q1, q2, q3, q4⟩ := a2.1
      obtain ⟨r1, r2, r3, r4⟩ := b2.1
      cases q4.symm.trans r4
      cases a3.symm.trans b3; rfl
    subst ec et
    have ev : V = V' := by cases hx.2.2.2.1.1.symm.trans hy.2.2.2.1.1; rfl
    subst ev
    have hs : SameT n f k g := (Cod.eqv hx.2.2.2.2.1 hy.2.2.2.2.1 hx.2.2.2.2.2 hy.2.2.2.2.2).mp ⟨rfl, fun _ _ => rfl⟩
    exact ⟨s₁, some (.int 1), _, _, _, X0, rfl, rfl, rfl, (fun h => by cases h), ⟨1, rfl, hh0, Or.inl ⟨rfl, hs⟩⟩, fun fs hl => c2.trans (X0.ireturnOut hexec hret rfl (Or.inr (Or.inl rfl)) (hb hbytes d6) hl)⟩
  · have c2 : Steps p.tables e below (s₁.setTop (entryFrame m #[.ref x, .ref y] 3)) (s₁.setTop (mkF m 8 #[.val (.ref x), .val (.ref y), .unset] [.ref y])) := c1.trans (by
      refine acmpYes X0.here hexec rfl (pc0 := 2) rfl (hb hbytes d2) rfl rfl rfl (by simp [acmp, hxy]) (by decide) rfl ?_
      refine XS.aloadN X0.here hexec rfl (hb hbytes d7) rfl rfl ?_
      exact Steps.refl _)
    obtain ⟨T3, X3, q3, st3⟩ := cinst X0 hexec hown (wk W (.classLink "java/lang/String" 10 "java/lang/String")) (hy.mv X0.warmed.alike hh0).1 (g := (mkF m 8 #[.val (.ref x), .val (.ref y), .unset] [.ref y])) rfl (rest := []) rfl (hb hbytes d8)
    have hh3 := q3.trans hh0
    have c4 : Steps p.tables e below (s₁.setTop (entryFrame m #[.ref x, .ref y] 3)) (T3.setTop (mkF m 15 #[.val (.ref x), .val (.ref y), .unset] [.ref y])) := (c2.trans (st3 _ (Steps.refl _))).trans (by
      refine XS.ifNo X3.here hexec rfl (hb hbytes d11) rfl (i0_eq_f (by decide)) ?_
      refine XS.aloadN X3.here hexec rfl (hb hbytes d14) rfl rfl ?_
      exact Steps.refl _)
    obtain ⟨T5, X5, q5, st5⟩ := cself X3 hexec hown (wk W (.classLink "java/lang/String" 10 "java/lang/String")) (hy.mv X3.warmed.alike hh3).1 (g := (mkF m 15 #[.val (.ref x), .val (.ref y), .unset] [.ref y])) rfl (rest := []) rfl (hb hbytes d15)
    have hh5 := q5.trans hh3
    have c6 : Steps p.tables e below (s₁.setTop (entryFrame m #[.ref x, .ref y] 3)) (T5.setTop (mkF m 19 #[.val (.ref x), .val (.ref y), .val (.ref y)] [])) := (c4.trans (st5 _ (Steps.refl _))).trans (by
      refine XS.astoreN X5.here hexec rfl (hb hbytes d18) rfl rfl rfl ?_
      exact Steps.refl _)
    obtain ⟨T7, X7, q7, st7⟩ := X5.sget hexec hown (wk W (.fieldLink "java/lang/String" 38 "java/lang/String" "COMPACT_STRINGS" "Z")) s1 (fun _ _ h => by rw [hh5]; exact h) (g := (mkF m 19 #[.val (.ref x), .val (.ref y), .val (.ref y)] [])) rfl (hb hbytes d19)
    have hh7 := q7.trans hh5
    have c8 : Steps p.tables e below (s₁.setTop (entryFrame m #[.ref x, .ref y] 3)) (T7.setTop (mkF m 26 #[.val (.ref x), .val (.ref y), .val (.ref y)] [.ref x])) := (c6.trans (st7 _ (Steps.refl _))).trans (by
      refine XS.ifNo X7.here hexec rfl (hb hbytes d22) rfl (i0_eq_f hz) ?_
      refine XS.aloadN X7.here hexec rfl (hb hbytes d25) rfl rfl ?_
      exact Steps.refl _)
    obtain ⟨T9, X9, q9, st9⟩ := X7.hget hexec hown (wk W (.fieldLink "java/lang/String" 15 "java/lang/String" "coder" "B")) (hx.mv X7.warmed.alike hh7).2.2.1 (g := (mkF m 26 #[.val (.ref x), .val (.ref y), .val (.ref y)] [.ref x])) rfl (rest := []) rfl (hb hbytes d26)
    have hh9 := q9.trans hh7
    have c10 : Steps p.tables e below (s₁.setTop (entryFrame m #[.ref x, .ref y] 3)) (T9.setTop (mkF m 30 #[.val (.ref x), .val (.ref y), .val (.ref y)] [.ref y, .int cd])) := (c8.trans (st9 _ (Steps.refl _))).trans (by
      refine XS.aloadN X9.here hexec rfl (hb hbytes d29) rfl rfl ?_
      exact Steps.refl _)
    obtain ⟨T11, X11, q11, st11⟩ := X9.hget hexec hown (wk W (.fieldLink "java/lang/String" 15 "java/lang/String" "coder" "B")) (hy.mv X9.warmed.alike hh9).2.2.1 (g := (mkF m 30 #[.val (.ref x), .val (.ref y), .val (.ref y)] [.ref y, .int cd])) rfl (rest := [.int cd]) rfl (hb hbytes d30)
    have hh11 := q11.trans hh9
    have c12 : Steps p.tables e below (s₁.setTop (entryFrame m #[.ref x, .ref y] 3)) (T11.setTop (mkF m 33 #[.val (.ref x), .val (.ref y), .val (.ref y)] [.int cd', .int cd])) := c10.trans (st11 _ (Steps.refl _))
    by_cases hcd : cd = cd'
    · subst hcd
      have c13 : Steps p.tables e below (s₁.setTop (entryFrame m #[.ref x, .ref y] 3)) (T11.setTop (mkF m 37 #[.val (.ref x), .val (.ref y), .val (.ref y)] [.ref x])) := c12.trans (by
        refine XS.icmpNo X11.here hexec rfl (hb hbytes d33) rfl (ii_ne_f rfl) ?_
        refine XS.aloadN X11.here hexec rfl (hb hbytes d36) rfl rfl ?_
        exact Steps.refl _)
      obtain ⟨T14, X14, q14, st14⟩ := X11.hget hexec hown (wk W (.fieldLink "java/lang/String" 9 "java/lang/String" "value" "[B")) (hx.mv X11.warmed.alike hh11).2.1 (g := (mkF m 37 #[.val (.ref x), .val (.ref y), .val (.ref y)] [.ref x])) rfl (rest := []) rfl (hb hbytes d37)
      have hh14 := q14.trans hh11
      have c15 : Steps p.tables e below (s₁.setTop (entryFrame m #[.ref x, .ref y] 3)) (T14.setTop (mkF m 41 #[.val (.ref x), .val (.ref y), .val (.ref y)] [.ref y, .ref t])) := (c13.trans (st14 _ (Steps.refl _))).trans (by
        refine XS.aloadN X14.here hexec rfl (hb hbytes d40) rfl rfl ?_
        exact Steps.refl _)
      obtain ⟨T16, X16, q16, st16⟩ := X14.hget hexec hown (wk W (.fieldLink "java/lang/String" 9 "java/lang/String" "value" "[B")) (hy.mv X14.warmed.alike hh14).2.1 (g := (mkF m 41 #[.val (.ref x), .val (.ref y), .val (.ref y)] [.ref y, .ref t])) rfl (rest := [.ref t]) rfl (hb hbytes d41)
      have hh16 := q16.trans hh14
      have c17 : Steps p.tables e below (s₁.setTop (entryFrame m #[.ref x, .ref y] 3)) (T16.setTop (mkF m 44 #[.val (.ref x), .val (.ref y), .val (.ref y)] [.ref t', .ref t])) := c15.trans (st16 _ (Steps.refl _))
      obtain ⟨v18, T18, X18, E18, g18⟩ := X16.callS hexec (LEq.law l t V t' V') hown (wks W (staticW "java/lang/String" 541 LEq.yN)) (wk W LEq.tab) (W := 0) (Nat.le_of_ble_eq_true rfl) (Nat.le_of_ble_eq_true rfl) (Nat.le_refl _) (Nat.le_refl _) (g := (mkF m 44 #[.val (.ref x), .val (.ref y), .val (.ref y)] [.ref t', .ref t])) rfl (by rw [hml]; rfl) c17 (argsL := [.ref t, .ref t']) (rest := []) rfl rfl (by show 2 * 0 + 0 ≤ _; decide) (hb hbytes d44) (⟨rfl, hx.2.2.2.1.mv X16.warmed.alike hh16, hx.2.2.2.2.1.ty, hy.2.2.2.1.mv X16.warmed.alike hh16, hy.2.2.2.2.1.ty⟩)
      obtain ⟨v, rfl, q18, hv⟩ := E18
      have iff := Cod.eqv hx.2.2.2.2.1 hy.2.2.2.2.1 hx.2.2.2.2.2 hy.2.2.2.2.2
      rcases hv with ⟨rfl, he⟩ | ⟨rfl, he⟩
      · have c19 : Steps p.tables e below (s₁.setTop (entryFrame m #[.ref x, .ref y] 3)) (T18.setTop (mkF m 55 #[.val (.ref x), .val (.ref y), .val (.ref y)] [.int 1])) := Steps.trans g18 (by
          refine XS.ifNo X18.here hexec rfl (hb hbytes d47) rfl (i0_eq_f (by decide)) ?_
          refine iconstV X18.here hexec rfl 1 (hb hbytes d50) (by decide) ?_
          refine XS.goto X18.here hexec rfl (pc0 := 51) rfl (hb hbytes d51) (by decide) rfl ?_
          exact Steps.refl _)
        exact ⟨T18, some (.int 1), _, _, _, X18, rfl, rfl, rfl, (fun h => by cases h), ⟨1, rfl, q18.trans hh16, Or.inl ⟨rfl, iff.mp he⟩⟩, fun fs hl => c19.trans (X18.ireturnOut hexec hret rfl (Or.inr (Or.inl rfl)) (hb hbytes d55) hl)⟩
      · have c19 : Steps p.tables e below (s₁.setTop (entryFrame m #[.ref x, .ref y] 3)) (T18.setTop (mkF m 55 #[.val (.ref x), .val (.ref y), .val (.ref y)] [.int 0])) := Steps.trans g18 (by
          refine XS.ifYes X18.here hexec rfl (pc0 := 47) rfl (hb hbytes d47) rfl (i0_eq_t rfl) (by decide) rfl ?_
          refine iconstV X18.here hexec rfl 0 (hb hbytes d54) (by decide) ?_
          exact Steps.refl _)
        exact ⟨T18, some (.int 0), _, _, _, X18, rfl, rfl, rfl, (fun h => by cases h), ⟨0, rfl, q18.trans hh16, Or.inr ⟨rfl, fun q => he (iff.mpr q)⟩⟩, fun fs hl => c19.trans (X18.ireturnOut hexec hret rfl (Or.inr (Or.inl rfl)) (hb hbytes d55) hl)⟩
    · have c13 : Steps p.tables e below (s₁.setTop (entryFrame m #[.ref x, .ref y] 3)) (T11.setTop (mkF m 55 #[.val (.ref x), .val (.ref y), .val (.ref y)] [.int 0])) := c12.trans (by
        refine XS.icmpYes X11.here hexec rfl (pc0 := 33) rfl (hb hbytes d33) rfl (ii_ne_t hcd) (by decide) rfl ?_
        refine iconstV X11.here hexec rfl 0 (hb hbytes d54) (by decide) ?_
        exact Steps.refl _)
      exact ⟨T11, some (.int 0), _, _, _, X11, rfl, rfl, rfl, (fun h => by cases h), ⟨0, rfl, hh11, Or.inr ⟨rfl, Cod.dif hx.2.2.2.2.1 hy.2.2.2.2.1 hcd⟩⟩, fun fs hl => c13.trans (X11.ireturnOut hexec hret rfl (Or.inr (Or.inl rfl)) (hb hbytes d55) hl)⟩
theorem pays {l : Launch} {R : Room} {p : Program} {e : Env} {below : List Frame} {s : State} {sargs : Array Value} {len W : Nat} (x t : Addr) (V : Cell) (cd : Int32) (n : Nat) (f : Nat → Int32) (y t' : Addr) (V' : Cell) (cd' : Int32) (k : Nat) (g : Nat → Int32) (z : Int32) (htab : tab.before sargs s = true) (hfr : 2 ≤ R.frames) (hlo : W + 28 ≤ R.locals) :
    Back l R p e below s sargs yN len W (fun A₁ a₁ => A₁.cells + 0 ≤ R.cells ∧ A₁.slots + 0 ≤ R.slots ∧ P x t V cd n f y t' V' cd' k g z a₁ A₁.U) (fun A₁ _ v₁ B₁ => Says01 (SameT n f k g) v₁ A₁.U B₁.U ∧ B₁.locs = A₁.locs ++ [] ∧ B₁.cells = A₁.cells + 0 ∧ B₁.slots = A₁.slots + 0) :=
  (law l x t V cd n f y t' V' cd' k g z).pays htab hfr (by omega)
end SEq
end StrChars
namespace StrChars.Road
open Jvm Sem ClassFile Op Lib Jvm.Stand Jvm.Free Jvm.Free.XT
open Jvm.Lib.Cold (StaticIs)
/-- the words of String.equals(Object) -/
abbrev wordsEq : List Jvm.Cond := [.code SEq.yN SEq.yB 3 (some .boolean), .initialized ST, .classLink ST 10 ST, .fieldLink ST 38 ST "COMPACT_STRINGS" "Z", .fieldLink ST 15 ST "coder" "B", .fieldLink ST 9 ST "value" "[B", .methodLink ST 541 LEq.yN, .static LEq.yN, .code LEq.yN LEq.yB 3 (some .boolean), .initialized "java/lang/StringLatin1"]
theorem tabEq_of {a : Array Value} {s : State} (h : ∀ w ∈ wordsEq, w.before a s = true) : SEq.tab.before a s = true := by
  have hl : LEq.tab.before a s = true := unparts (wk h (.code LEq.yN LEq.yB 3 (some .boolean))) (wks h (.initialized LEq.yN.cls :: LEq.site))
  have q := consq hl h
  exact unparts (wk q (.code SEq.yN SEq.yB 3 (some .boolean))) (wks q (.initialized SEq.yN.cls :: SEq.site))
theorem movedEq {Z s : State} {a0 args : Array Value} (hZ : Z.Warmed39 s.vm) (hw : ∀ d ∈ wordsEq, d.before a0 Z = true) : ∀ d ∈ wordsEq, d.before args s = true := fun d hd => by
  have t : ∀ d ∈ wordsEq, (d.onTables && d.keepsFace) = true := by decide +kernel
  exact RoadKit.mv hZ (hw d hd) (t d hd)
/-- the road's facts of a String, as the laws ask it -/
theorem txt_of {Z U : State} {a0 : Array Value} {kI : Nat} (wi : (Jvm.Cond.instantiable ST kI).before a0 Z = true) (al : Z.vm.Alike U.vm) {x t : Addr} {kb : ClassId} {cs : List Int32} {cd N2 : Int32} {vs : List Value} (E : RoadKit.Exa Z U.heap x ST) (V : RoadKit.Fld Z U.heap x ST "value" "[B" (.ref t)) (C : RoadKit.Fld Z U.heap x ST "coder" "B" (.int cd)) (K : RoadKit.Arv Z U.heap t kb .byte N2 vs (.int 0)) (hc : CodA cs cd N2 vs) (hb : ∀ c ∈ cs, ¬ c < 0 ∧ ¬ (65535 : Int32) < c) (l2 : cs.length ≤ 4000) :
    ∃ A, Txt x t A cd cs.length (fun j => cs.getD j 0) U := by
  obtain ⟨A, K1, K2, K3, K4, K5, K6⟩ := K
  have hcod := hc.cod (by omega) K3 K5
  obtain ⟨D, fV, fC, hB, F1, F2, g1, g2, -, -⟩ := strObj wi al E V C
  exact ⟨A, ⟨_, hB.2.2.1, D, hB.1, rfl, by cases q : D.vm <;> first | rfl | exact absurd q (hB.2.1.2 _)⟩, Has.of hB F1 g1, Has.of hB F2 g2, ⟨K1.1, State.isArrayOf_alike al K1.2.1, K1.2.2, by rcases hcod with ⟨-, q, -⟩ | ⟨-, q, -⟩ <;> omega⟩, hcod, fun j hj => by
    have e : cs.getD j 0 = cs[j] := by simp [List.getD_eq_getElem?_getD, hj]
    show ¬ cs.getD j 0 < 0 ∧ ¬ 65535 < cs.getD j 0
    rw [e]; exact hb _ (List.getElem_mem _)⟩
theorem same_list (cs ds : List Int32) : SameT cs.length (fun j => cs.getD j 0) ds.length (fun j => ds.getD j 0) ↔ cs = ds := by
  constructor
  · rintro ⟨e, q⟩
    refine List.ext_getElem e fun j h1 h2 => ?_
    have := q j h1
    simpa [List.getD_eq_getElem?_getD, h1, h2] using this
  · rintro rfl
    exact ⟨rfl, fun _ _ => rfl⟩
/-- **equals(Object) OF TWO SUCH STRINGS**: 1 just where the chars are the same -/
theorem eqW {p : Program} {l : Launch} {e : Env} {R : Room} {s : State} {args : Array Value} {below : List Frame} {len W : Nat} {Z : State} {a0 : Array Value} {h : Heap} (hZ : Z.Warmed39 s.vm) (hw : ∀ d ∈ wordsEq, d.before a0 Z = true) {kI : Nat} (wi : (Jvm.Cond.instantiable ST kI).before a0 Z = true)
    {x t : Addr} {kb : ClassId} {cs : List Int32} {cd N2 : Int32} {vs : List Value} (E : RoadKit.Exa Z h x ST) (V : RoadKit.Fld Z h x ST "value" "[B" (.ref t)) (C : RoadKit.Fld Z h x ST "coder" "B" (.int cd)) (K : RoadKit.Arv Z h t kb .byte N2 vs (.int 0)) (hc : CodA cs cd N2 vs) (hb : ∀ c ∈ cs, ¬ c < 0 ∧ ¬ (65535 : Int32) < c) (l2 : cs.length ≤ 4000)
    {y t' : Addr} {kb' : ClassId} {ds : List Int32} {cd' N2' : Int32} {vs' : List Value} (E' : RoadKit.Exa Z h y ST) (V' : RoadKit.Fld Z h y ST "value" "[B" (.ref t')) (C' : RoadKit.Fld Z h y ST "coder" "B" (.int cd')) (K' : RoadKit.Arv Z h t' kb' .byte N2' vs' (.int 0)) (hc' : CodA ds cd' N2' vs') (hb' : ∀ c ∈ ds, ¬ c < 0 ∧ ¬ (65535 : Int32) < c) (l2' : ds.length ≤ 4000)
    {z : Int32} (S : RoadKit.Sta Z h ST "COMPACT_STRINGS" "Z" (.int z)) (hz : ¬ z = 0) (hfr : 2 ≤ R.frames) (hlo : W + 28 ≤ R.locals) :
    Back l R p e below s args (⟨"java/lang/String", "equals", "(Ljava/lang/Object;)Z"⟩ : MethodName) len W (fun P a => a = #[.ref x, .ref y] ∧ P.U.heap = h ∧ P.cells + 0 ≤ R.cells ∧ P.slots + 0 ≤ R.slots)
      (fun P _ v B => ∃ L, (((v = some (.int 1) ∧ cs = ds) ∨ (v = some (.int 0) ∧ ¬ cs = ds)) ∧ L = [] ∧ B.U.heap = h) ∧ B.locs = P.locs ++ L ∧ B.cells = P.cells + 0 ∧ B.slots = P.slots + 0) := by
  intro m meth c P g ig mk a X hg hsize hdg hW hn hp'
  obtain ⟨rfl, rfl, r1, r2⟩ := hp'
  have al : Z.vm.Alike P.U.vm := hZ.alike.trans X.warmed.alike
  obtain ⟨A, hx⟩ := txt_of wi al E V C K hc hb l2
  obtain ⟨A', hy⟩ := txt_of wi al E' V' C' K' hc' hb' l2'
  obtain ⟨v, B, X', ⟨⟨w, hv, hh, hq⟩, hl, hk, hs⟩, st⟩ := SEq.pays x t A cd cs.length (fun j => cs.getD j 0) y t' A' cd' ds.length (fun j => ds.getD j 0) z (tabEq_of (movedEq hZ hw)) hfr hlo m meth c P g ig mk _ X hg hsize hdg hW hn ⟨r1, r2, rfl, hx, hy, sta_is al S, hz⟩
  refine ⟨v, B, X', ⟨[], ⟨?_, rfl, hh⟩, hl, hk, hs⟩, st⟩
  rcases hq with ⟨rfl, q⟩ | ⟨rfl, q⟩
  · exact Or.inl ⟨hv, (same_list cs ds).mp q⟩
  · exact Or.inr ⟨hv, fun e => q ((same_list cs ds).mpr e)⟩
end StrChars.Road
namespace StrChars.Road
open Jvm Sem ClassFile Op Lib Jvm.Stand Jvm.Free Jvm.Free.XT
open Jvm.Lib.Cold (StaticIs)
/-- what backV says of its String, as the contracts of this text ask it: cs's low bytes, coder 0 -/
theorem codOf {cs : List Int32} {n : Nat} (hn : cs.length = n) (hb : ∀ c ∈ cs, ¬ 255 < c) : CodA cs 0 (Int32.ofNat n) ((cs.map lo8).map Value.int) := Or.inl ⟨rfl, by rw [hn], by simp [List.map_map, Function.comp_def], hb⟩
end StrChars.Road
end Jvm.Pilot.@@N@@

namespace Jvm.Pilot.@@N@@
open Jvm Jvm.ClassFile Sem Op Lib Jvm.Free Jvm.Stand Jvm.LawKit Jvm.RoadKit Bundle Jvm.Pilot.@@N@@.Jvm.D
def own_To (p : Program) (l : Launch) (e : Env) (R : Room) (s : State) (m : MethodId) (args : Array Value) (below : List Frame) (meth : Method) (c : Code) (locs : List Loc) (cells slots : Nat) (h : Heap) (T : State) (g g' : JFrame) : Prop :=
  ∃ T' : State, Stand p l e R s m args below meth c T' locs cells slots ∧ T'.heap = h ∧ ∀ tg, Steps p.tables e below (T'.setTop g') tg → Steps p.tables e below (T.setTop g) tg
theorem own_to {p : Program} {l : Launch} {e : Env} {R : Room} {s : State} {m : MethodId} {args : Array Value} {below : List Frame} {meth : Method} {c : Code} {T : State} {locs : List Loc} {cells slots : Nat} (X : Stand p l e R s m args below meth c T locs cells slots) {h : Heap} {g g' : JFrame}
    (H : own_To p l e R s m args below meth c locs cells slots h T g g') : ∃ T' : State, Stand p l e R s m args below meth c T' locs cells slots ∧ T'.heap = h ∧ ∀ tg, Steps p.tables e below (T'.setTop g') tg → Steps p.tables e below (T.setTop g) tg := H
def own_ToP (p : Program) (l : Launch) (e : Env) (R : Room) (s : State) (m : MethodId) (args : Array Value) (below : List Frame) (meth : Method) (c : Code) (locs : List Loc) (cells slots : Nat) (h : Heap) (T : State) (g : JFrame) (P : JFrame → Prop) : Prop :=
  ∃ (T' : State) (g' : JFrame), P g' ∧ Stand p l e R s m args below meth c T' locs cells slots ∧ T'.heap = h ∧ ∀ tg, Steps p.tables e below (T'.setTop g') tg → Steps p.tables e below (T.setTop g) tg
def own_ToK (p : Program) (l : Launch) (e : Env) (R : Room) (s : State) (m : MethodId) (args : Array Value) (below : List Frame) (meth : Method) (c : Code) (n0 : Nat) (cells slots : Nat) (T : State) (g : JFrame) (P : Heap → JFrame → Prop) : Prop :=
  ∃ (T' : State) (g' : JFrame) (L : List Loc), Stand p l e R s m args below meth c T' L cells slots ∧ Fr n0 L ∧ P T'.heap g' ∧ ∀ tg, Steps p.tables e below (T'.setTop g') tg → Steps p.tables e below (T.setTop g) tg
theorem own_wid {p : Program} {l : Launch} {e : Env} {R : Room} {s : State} {m : MethodId} {args : Array Value} {below : List Frame} {meth : Method} {c : Code} {T : State} {locs : List Loc} {cells slots cells' slots' : Nat} (X : Stand p l e R s m args below meth c T locs cells slots) (h1 : cells ≤ cells') (h2 : slots ≤ slots') : Stand p l e R s m args below meth c T locs cells' slots' := { X with same := X.same.mono h1 h2 }
theorem own_inc (i : Nat) : Int32.ofNat i + (1 : Int32) = Int32.ofNat (i + 1) := (Int32.ofNat_add i 1).symm
theorem own_toI {i : Nat} (h : i < 2147483648) : (Int32.ofNat i).toInt = (i : Int) := Int32.toInt_ofNat_of_lt h
theorem own_lt {i j : Nat} (h : i < j) (hj : j < 2147483648) : Int32.ofNat i < Int32.ofNat j := by
  rw [Int32.lt_iff_toInt_lt, own_toI (by omega), own_toI hj]; omega
theorem own_nlt {i j : Nat} (h : ¬ i < j) (hi : i < 2147483648) : ¬ Int32.ofNat i < Int32.ofNat j := by
  rw [Int32.lt_iff_toInt_lt, own_toI hi, own_toI (by omega)]; omega
theorem own_ltI {i j : Nat} (h : Int32.ofNat i < Int32.ofNat j) (hi : i < 2147483648) (hj : j < 2147483648) : i < j := by
  rw [Int32.lt_iff_toInt_lt, own_toI hi, own_toI hj] at h; omega
theorem own_nltI {i j : Nat} (h : ¬ Int32.ofNat i < Int32.ofNat j) (hi : i < 2147483648) (hj : j < 2147483648) : ¬ i < j := by
  rw [Int32.lt_iff_toInt_lt, own_toI hi, own_toI hj] at h; omega
theorem own_inj {i j : Nat} (h : Int32.ofNat i = Int32.ofNat j) (hi : i < 2147483648) (hj : j < 2147483648) : i = j := by
  have q := congrArg Int32.toInt h
  rw [own_toI hi, own_toI hj] at q; omega
theorem own_nneg (i : Nat) (hi : i < 2147483648) : ¬ Int32.ofNat i < 0 := by
  rw [Int32.lt_iff_toInt_lt, own_toI hi]; show ¬ (i : Int) < 0; omega
theorem own_clamp {i : Nat} (hi : i < 2147483648) : (Int32.ofNat i).toNatClampNeg = i := clamp_of rfl hi
theorem own_narm (x : Int32) : nar .char (x &&& (255 : Int32)) = (x &&& (255 : Int32)) := i2c_mask x
theorem own_osz {Z : State} {n0 : Nat} {h : Heap} (O : Old Z n0 h) : n0 ≤ h.size := O.1 ▸ O.2.1
theorem pn_0 : plainName "java/lang/StringLatin1" = true := by first | (simp [plainName, overriddenIn]; done) | decide +kernel
theorem pn_1 : plainName "java/lang/String" = true := by first | (simp [plainName, overriddenIn]; done) | decide +kernel
theorem pn_2 : plainName "com/example/entity_state_manager/entitystatemanager/QualifiedNameEqualsPinLaw" = true := by first | (simp [plainName, overriddenIn]; done) | decide +kernel
theorem pn_3 : plainName "com/example/entity_state_manager/entitystatemanager/QualifiedName" = true := by first | (simp [plainName, overriddenIn]; done) | decide +kernel
theorem pd_0 : parseMethodDescriptor "(C)Z" = some ⟨[.char], some .boolean⟩ := by decide +kernel
theorem pd_1 : parseMethodDescriptor "(C)[B" = some ⟨[.char], some (.array .byte)⟩ := by decide +kernel
theorem pd_2 : parseMethodDescriptor "([BB)V" = some ⟨[(.array .byte), .byte], none⟩ := by decide +kernel
theorem pd_3 : parseMethodDescriptor "(I)I" = some ⟨[.int], some .int⟩ := by decide +kernel
theorem pd_4 : parseMethodDescriptor "(C)Ljava/lang/String;" = some ⟨[.char], some (.object "java/lang/String")⟩ := by decide +kernel
theorem pd_5 : parseMethodDescriptor "([C)V" = some ⟨[(.array .char)], none⟩ := by decide +kernel
theorem pd_6 : parseMethodDescriptor "(III)Ljava/lang/String;" = some ⟨[.int, .int, .int], some (.object "java/lang/String")⟩ := by decide +kernel
theorem pd_7 : parseMethodDescriptor "(Ljava/lang/Object;)Z" = some ⟨[(.object "java/lang/Object")], some .boolean⟩ := by decide +kernel
theorem pd_8 : parseMethodDescriptor "(I)Ljava/lang/String;" = some ⟨[.int], some (.object "java/lang/String")⟩ := by decide +kernel
theorem pd_9 : parseMethodDescriptor "(Ljava/lang/String;Ljava/lang/String;Ljava/lang/String;)V" = some ⟨[(.object "java/lang/String"), (.object "java/lang/String"), (.object "java/lang/String")], none⟩ := by decide +kernel
theorem pd_10 : parseMethodDescriptor "(I)Z" = some ⟨[.int], some .boolean⟩ := by decide +kernel
theorem d_jdk_42_method_139_0 : decode jdk_42_method_139_code 0 = .ok (.getstatic 38, 3) := by decide +kernel
theorem d_jdk_42_method_139_10 : decode jdk_42_method_139_code 10 = .ok (.ifCond .eq 16, 3) := by decide +kernel
theorem d_jdk_42_method_139_13 : decode jdk_42_method_139_code 13 = .ok (.new 10, 3) := by decide +kernel
theorem d_jdk_42_method_139_16 : decode jdk_42_method_139_code 16 = .ok (.dup, 1) := by decide +kernel
theorem d_jdk_42_method_139_17 : decode jdk_42_method_139_code 17 = .ok (.iload_n 0, 1) := by decide +kernel
theorem d_jdk_42_method_139_18 : decode jdk_42_method_139_code 18 = .ok (.invokestatic 1018, 3) := by decide +kernel
theorem d_jdk_42_method_139_21 : decode jdk_42_method_139_code 21 = .ok (.iconst 0, 1) := by decide +kernel
theorem d_jdk_42_method_139_22 : decode jdk_42_method_139_code 22 = .ok (.invokespecial 209, 3) := by decide +kernel
theorem d_jdk_42_method_139_25 : decode jdk_42_method_139_code 25 = .ok (.areturn, 1) := by decide +kernel
theorem d_jdk_42_method_139_3 : decode jdk_42_method_139_code 3 = .ok (.ifCond .eq 23, 3) := by decide +kernel
theorem d_jdk_42_method_139_6 : decode jdk_42_method_139_code 6 = .ok (.iload_n 0, 1) := by decide +kernel
theorem d_jdk_42_method_139_7 : decode jdk_42_method_139_code 7 = .ok (.invokestatic 1015, 3) := by decide +kernel
theorem d_jdk_42_method_151_0 : decode jdk_42_method_151_code 0 = .ok (.aload_n 0, 1) := by decide +kernel
theorem d_jdk_42_method_151_1 : decode jdk_42_method_151_code 1 = .ok (.invokespecial 1, 3) := by decide +kernel
theorem d_jdk_42_method_151_10 : decode jdk_42_method_151_code 10 = .ok (.iload_n 2, 1) := by decide +kernel
theorem d_jdk_42_method_151_11 : decode jdk_42_method_151_code 11 = .ok (.putfield 15, 3) := by decide +kernel
theorem d_jdk_42_method_151_14 : decode jdk_42_method_151_code 14 = .ok (.return_, 1) := by decide +kernel
theorem d_jdk_42_method_151_4 : decode jdk_42_method_151_code 4 = .ok (.aload_n 0, 1) := by decide +kernel
theorem d_jdk_42_method_151_5 : decode jdk_42_method_151_code 5 = .ok (.aload_n 1, 1) := by decide +kernel
theorem d_jdk_42_method_151_6 : decode jdk_42_method_151_code 6 = .ok (.putfield 9, 3) := by decide +kernel
theorem d_jdk_42_method_151_9 : decode jdk_42_method_151_code 9 = .ok (.aload_n 0, 1) := by decide +kernel
theorem d_jdk_43_method_3_0 : decode jdk_43_method_3_code 0 = .ok (.iload_n 0, 1) := by decide +kernel
theorem d_jdk_43_method_3_1 : decode jdk_43_method_3_code 1 = .ok (.sipush 255, 3) := by decide +kernel
theorem d_jdk_43_method_3_12 : decode jdk_43_method_3_code 12 = .ok (.ireturn, 1) := by decide +kernel
theorem d_jdk_43_method_3_4 : decode jdk_43_method_3_code 4 = .ok (.if_icmp .gt 7, 3) := by decide +kernel
theorem d_jdk_43_method_3_7 : decode jdk_43_method_3_code 7 = .ok (.iconst 1, 1) := by decide +kernel
theorem d_jdk_43_method_3_8 : decode jdk_43_method_3_code 8 = .ok (.goto 4, 3) := by decide +kernel
theorem d_jdk_43_method_46_0 : decode jdk_43_method_46_code 0 = .ok (.iconst 1, 1) := by decide +kernel
theorem d_jdk_43_method_46_1 : decode jdk_43_method_46_code 1 = .ok (.newarray .byte, 2) := by decide +kernel
theorem d_jdk_43_method_46_3 : decode jdk_43_method_46_code 3 = .ok (.dup, 1) := by decide +kernel
theorem d_jdk_43_method_46_4 : decode jdk_43_method_46_code 4 = .ok (.iconst 0, 1) := by decide +kernel
theorem d_jdk_43_method_46_5 : decode jdk_43_method_46_code 5 = .ok (.iload_n 0, 1) := by decide +kernel
theorem d_jdk_43_method_46_6 : decode jdk_43_method_46_code 6 = .ok (.i2b, 1) := by decide +kernel
theorem d_jdk_43_method_46_7 : decode jdk_43_method_46_code 7 = .ok (.bastore, 1) := by decide +kernel
theorem d_jdk_43_method_46_8 : decode jdk_43_method_46_code 8 = .ok (.areturn, 1) := by decide +kernel
theorem d_method_10_0 : decode method_10_code 0 = .ok (.iload_n 0, 1) := by decide +kernel
theorem d_method_10_1 : decode method_10_code 1 = .ok (.invokestatic 34, 3) := by decide +kernel
theorem d_method_10_12 : decode method_10_code 12 = .ok (.invokestatic 30, 3) := by decide +kernel
theorem d_method_10_15 : decode method_10_code 15 = .ok (.areturn, 1) := by decide +kernel
theorem d_method_10_4 : decode method_10_code 4 = .ok (.iload_n 0, 1) := by decide +kernel
theorem d_method_10_5 : decode method_10_code 5 = .ok (.invokestatic 37, 3) := by decide +kernel
theorem d_method_10_8 : decode method_10_code 8 = .ok (.iload_n 0, 1) := by decide +kernel
theorem d_method_10_9 : decode method_10_code 9 = .ok (.invokestatic 40, 3) := by decide +kernel
theorem d_method_11_0 : decode method_11_code 0 = .ok (.iload_n 0, 1) := by decide +kernel
theorem d_method_11_1 : decode method_11_code 1 = .ok (.invokestatic 7, 3) := by decide +kernel
theorem d_method_11_10 : decode method_11_code 10 = .ok (.if_icmp .eq 5, 3) := by decide +kernel
theorem d_method_11_13 : decode method_11_code 13 = .ok (.iconst 0, 1) := by decide +kernel
theorem d_method_11_14 : decode method_11_code 14 = .ok (.ireturn, 1) := by decide +kernel
theorem d_method_11_15 : decode method_11_code 15 = .ok (.iload_n 1, 1) := by decide +kernel
theorem d_method_11_16 : decode method_11_code 16 = .ok (.ifCond .ne 5, 3) := by decide +kernel
theorem d_method_11_19 : decode method_11_code 19 = .ok (.iconst 1, 1) := by decide +kernel
theorem d_method_11_20 : decode method_11_code 20 = .ok (.ireturn, 1) := by decide +kernel
theorem d_method_11_21 : decode method_11_code 21 = .ok (.iload_n 0, 1) := by decide +kernel
theorem d_method_11_22 : decode method_11_code 22 = .ok (.invokestatic 13, 3) := by decide +kernel
theorem d_method_11_25 : decode method_11_code 25 = .ok (.iload_n 0, 1) := by decide +kernel
theorem d_method_11_26 : decode method_11_code 26 = .ok (.invokestatic 37, 3) := by decide +kernel
theorem d_method_11_29 : decode method_11_code 29 = .ok (.if_icmp .eq 5, 3) := by decide +kernel
theorem d_method_11_32 : decode method_11_code 32 = .ok (.iconst 0, 1) := by decide +kernel
theorem d_method_11_33 : decode method_11_code 33 = .ok (.ireturn, 1) := by decide +kernel
theorem d_method_11_34 : decode method_11_code 34 = .ok (.iload_n 1, 1) := by decide +kernel
theorem d_method_11_35 : decode method_11_code 35 = .ok (.iconst 1, 1) := by decide +kernel
theorem d_method_11_36 : decode method_11_code 36 = .ok (.if_icmp .ne 5, 3) := by decide +kernel
theorem d_method_11_39 : decode method_11_code 39 = .ok (.iconst 1, 1) := by decide +kernel
theorem d_method_11_4 : decode method_11_code 4 = .ok (.istore_n 1, 1) := by decide +kernel
theorem d_method_11_40 : decode method_11_code 40 = .ok (.ireturn, 1) := by decide +kernel
theorem d_method_11_41 : decode method_11_code 41 = .ok (.iload_n 0, 1) := by decide +kernel
theorem d_method_11_42 : decode method_11_code 42 = .ok (.invokestatic 16, 3) := by decide +kernel
theorem d_method_11_45 : decode method_11_code 45 = .ok (.iload_n 0, 1) := by decide +kernel
theorem d_method_11_46 : decode method_11_code 46 = .ok (.invokestatic 40, 3) := by decide +kernel
theorem d_method_11_49 : decode method_11_code 49 = .ok (.if_icmp .ne 7, 3) := by decide +kernel
theorem d_method_11_5 : decode method_11_code 5 = .ok (.iload_n 1, 1) := by decide +kernel
theorem d_method_11_52 : decode method_11_code 52 = .ok (.iconst 1, 1) := by decide +kernel
theorem d_method_11_53 : decode method_11_code 53 = .ok (.goto 4, 3) := by decide +kernel
theorem d_method_11_56 : decode method_11_code 56 = .ok (.iconst 0, 1) := by decide +kernel
theorem d_method_11_57 : decode method_11_code 57 = .ok (.ireturn, 1) := by decide +kernel
theorem d_method_11_6 : decode method_11_code 6 = .ok (.iload_n 0, 1) := by decide +kernel
theorem d_method_11_7 : decode method_11_code 7 = .ok (.invokestatic 34, 3) := by decide +kernel
theorem d_method_2_0 : decode method_2_code 0 = .ok (.iload_n 0, 1) := by decide +kernel
theorem d_method_2_1 : decode method_2_code 1 = .ok (.bipush 17, 2) := by decide +kernel
theorem d_method_2_10 : decode method_2_code 10 = .ok (.iconst 1, 1) := by decide +kernel
theorem d_method_2_11 : decode method_2_code 11 = .ok (.iand, 1) := by decide +kernel
theorem d_method_2_12 : decode method_2_code 12 = .ok (.iadd, 1) := by decide +kernel
theorem d_method_2_13 : decode method_2_code 13 = .ok (.ireturn, 1) := by decide +kernel
theorem d_method_2_3 : decode method_2_code 3 = .ok (.iushr, 1) := by decide +kernel
theorem d_method_2_4 : decode method_2_code 4 = .ok (.iconst 1, 1) := by decide +kernel
theorem d_method_2_5 : decode method_2_code 5 = .ok (.iand, 1) := by decide +kernel
theorem d_method_2_6 : decode method_2_code 6 = .ok (.iload_n 0, 1) := by decide +kernel
theorem d_method_2_7 : decode method_2_code 7 = .ok (.bipush 18, 2) := by decide +kernel
theorem d_method_2_9 : decode method_2_code 9 = .ok (.iushr, 1) := by decide +kernel
theorem d_method_3_0 : decode method_3_code 0 = .ok (.iload_n 0, 1) := by decide +kernel
theorem d_method_3_1 : decode method_3_code 1 = .ok (.bipush 19, 2) := by decide +kernel
theorem d_method_3_10 : decode method_3_code 10 = .ok (.invokestatic 7, 3) := by decide +kernel
theorem d_method_3_13 : decode method_3_code 13 = .ok (.goto 16, 3) := by decide +kernel
theorem d_method_3_16 : decode method_3_code 16 = .ok (.iload_n 0, 1) := by decide +kernel
theorem d_method_3_17 : decode method_3_code 17 = .ok (.bipush 20, 2) := by decide +kernel
theorem d_method_3_19 : decode method_3_code 19 = .ok (.iushr, 1) := by decide +kernel
theorem d_method_3_20 : decode method_3_code 20 = .ok (.iconst 1, 1) := by decide +kernel
theorem d_method_3_21 : decode method_3_code 21 = .ok (.iand, 1) := by decide +kernel
theorem d_method_3_22 : decode method_3_code 22 = .ok (.iload_n 0, 1) := by decide +kernel
theorem d_method_3_23 : decode method_3_code 23 = .ok (.bipush 21, 2) := by decide +kernel
theorem d_method_3_25 : decode method_3_code 25 = .ok (.iushr, 1) := by decide +kernel
theorem d_method_3_26 : decode method_3_code 26 = .ok (.iconst 1, 1) := by decide +kernel
theorem d_method_3_27 : decode method_3_code 27 = .ok (.iand, 1) := by decide +kernel
theorem d_method_3_28 : decode method_3_code 28 = .ok (.iadd, 1) := by decide +kernel
theorem d_method_3_29 : decode method_3_code 29 = .ok (.ireturn, 1) := by decide +kernel
theorem d_method_3_3 : decode method_3_code 3 = .ok (.iushr, 1) := by decide +kernel
theorem d_method_3_4 : decode method_3_code 4 = .ok (.iconst 1, 1) := by decide +kernel
theorem d_method_3_5 : decode method_3_code 5 = .ok (.iand, 1) := by decide +kernel
theorem d_method_3_6 : decode method_3_code 6 = .ok (.ifCond .ne 10, 3) := by decide +kernel
theorem d_method_3_9 : decode method_3_code 9 = .ok (.iload_n 0, 1) := by decide +kernel
theorem d_method_4_0 : decode method_4_code 0 = .ok (.iload_n 0, 1) := by decide +kernel
theorem d_method_4_1 : decode method_4_code 1 = .ok (.sipush 255, 3) := by decide +kernel
theorem d_method_4_4 : decode method_4_code 4 = .ok (.iand, 1) := by decide +kernel
theorem d_method_4_5 : decode method_4_code 5 = .ok (.ireturn, 1) := by decide +kernel
theorem d_method_5_0 : decode method_5_code 0 = .ok (.iload_n 0, 1) := by decide +kernel
theorem d_method_5_1 : decode method_5_code 1 = .ok (.bipush 16, 2) := by decide +kernel
theorem d_method_5_10 : decode method_5_code 10 = .ok (.invokestatic 13, 3) := by decide +kernel
theorem d_method_5_13 : decode method_5_code 13 = .ok (.goto 11, 3) := by decide +kernel
theorem d_method_5_16 : decode method_5_code 16 = .ok (.iload_n 0, 1) := by decide +kernel
theorem d_method_5_17 : decode method_5_code 17 = .ok (.bipush 8, 2) := by decide +kernel
theorem d_method_5_19 : decode method_5_code 19 = .ok (.iushr, 1) := by decide +kernel
theorem d_method_5_20 : decode method_5_code 20 = .ok (.sipush 255, 3) := by decide +kernel
theorem d_method_5_23 : decode method_5_code 23 = .ok (.iand, 1) := by decide +kernel
theorem d_method_5_24 : decode method_5_code 24 = .ok (.ireturn, 1) := by decide +kernel
theorem d_method_5_3 : decode method_5_code 3 = .ok (.iushr, 1) := by decide +kernel
theorem d_method_5_4 : decode method_5_code 4 = .ok (.iconst 1, 1) := by decide +kernel
theorem d_method_5_5 : decode method_5_code 5 = .ok (.iand, 1) := by decide +kernel
theorem d_method_5_6 : decode method_5_code 6 = .ok (.ifCond .ne 10, 3) := by decide +kernel
theorem d_method_5_9 : decode method_5_code 9 = .ok (.iload_n 0, 1) := by decide +kernel
theorem d_method_6_0 : decode method_6_code 0 = .ok (.iload_n 0, 1) := by decide +kernel
theorem d_method_6_1 : decode method_6_code 1 = .ok (.bipush 24, 2) := by decide +kernel
theorem d_method_6_3 : decode method_6_code 3 = .ok (.iushr, 1) := by decide +kernel
theorem d_method_6_4 : decode method_6_code 4 = .ok (.sipush 255, 3) := by decide +kernel
theorem d_method_6_7 : decode method_6_code 7 = .ok (.iand, 1) := by decide +kernel
theorem d_method_6_8 : decode method_6_code 8 = .ok (.ireturn, 1) := by decide +kernel
theorem d_method_7_0 : decode method_7_code 0 = .ok (.iload_n 0, 1) := by decide +kernel
theorem d_method_7_1 : decode method_7_code 1 = .ok (.bipush 22, 2) := by decide +kernel
theorem d_method_7_10 : decode method_7_code 10 = .ok (.invokestatic 16, 3) := by decide +kernel
theorem d_method_7_13 : decode method_7_code 13 = .ok (.goto 9, 3) := by decide +kernel
theorem d_method_7_16 : decode method_7_code 16 = .ok (.iload_n 0, 1) := by decide +kernel
theorem d_method_7_17 : decode method_7_code 17 = .ok (.invokestatic 16, 3) := by decide +kernel
theorem d_method_7_20 : decode method_7_code 20 = .ok (.iconst 1, 1) := by decide +kernel
theorem d_method_7_21 : decode method_7_code 21 = .ok (.ixor, 1) := by decide +kernel
theorem d_method_7_22 : decode method_7_code 22 = .ok (.ireturn, 1) := by decide +kernel
theorem d_method_7_3 : decode method_7_code 3 = .ok (.iushr, 1) := by decide +kernel
theorem d_method_7_4 : decode method_7_code 4 = .ok (.iconst 1, 1) := by decide +kernel
theorem d_method_7_5 : decode method_7_code 5 = .ok (.iand, 1) := by decide +kernel
theorem d_method_7_6 : decode method_7_code 6 = .ok (.ifCond .ne 10, 3) := by decide +kernel
theorem d_method_7_9 : decode method_7_code 9 = .ok (.iload_n 0, 1) := by decide +kernel
theorem d_method_8_0 : decode method_8_code 0 = .ok (.iload_n 0, 1) := by decide +kernel
theorem d_method_8_1 : decode method_8_code 1 = .ok (.ifCond .ne 6, 3) := by decide +kernel
theorem d_method_8_12 : decode method_8_code 12 = .ok (.iload_n 1, 1) := by decide +kernel
theorem d_method_8_13 : decode method_8_code 13 = .ok (.i2c, 1) := by decide +kernel
theorem d_method_8_14 : decode method_8_code 14 = .ok (.invokestatic 21, 3) := by decide +kernel
theorem d_method_8_17 : decode method_8_code 17 = .ok (.areturn, 1) := by decide +kernel
theorem d_method_8_18 : decode method_8_code 18 = .ok (.iconst 2, 1) := by decide +kernel
theorem d_method_8_19 : decode method_8_code 19 = .ok (.newarray .char, 2) := by decide +kernel
theorem d_method_8_21 : decode method_8_code 21 = .ok (.astore_n 3, 1) := by decide +kernel
theorem d_method_8_22 : decode method_8_code 22 = .ok (.aload_n 3, 1) := by decide +kernel
theorem d_method_8_23 : decode method_8_code 23 = .ok (.iconst 0, 1) := by decide +kernel
theorem d_method_8_24 : decode method_8_code 24 = .ok (.iload_n 1, 1) := by decide +kernel
theorem d_method_8_25 : decode method_8_code 25 = .ok (.i2c, 1) := by decide +kernel
theorem d_method_8_26 : decode method_8_code 26 = .ok (.castore, 1) := by decide +kernel
theorem d_method_8_27 : decode method_8_code 27 = .ok (.aload_n 3, 1) := by decide +kernel
theorem d_method_8_28 : decode method_8_code 28 = .ok (.iconst 1, 1) := by decide +kernel
theorem d_method_8_29 : decode method_8_code 29 = .ok (.iload_n 2, 1) := by decide +kernel
theorem d_method_8_30 : decode method_8_code 30 = .ok (.i2c, 1) := by decide +kernel
theorem d_method_8_31 : decode method_8_code 31 = .ok (.castore, 1) := by decide +kernel
theorem d_method_8_32 : decode method_8_code 32 = .ok (.new 22, 3) := by decide +kernel
theorem d_method_8_35 : decode method_8_code 35 = .ok (.dup, 1) := by decide +kernel
theorem d_method_8_36 : decode method_8_code 36 = .ok (.aload_n 3, 1) := by decide +kernel
theorem d_method_8_37 : decode method_8_code 37 = .ok (.invokespecial 27, 3) := by decide +kernel
theorem d_method_8_4 : decode method_8_code 4 = .ok (.ldc 19, 2) := by decide +kernel
theorem d_method_8_40 : decode method_8_code 40 = .ok (.areturn, 1) := by decide +kernel
theorem d_method_8_6 : decode method_8_code 6 = .ok (.areturn, 1) := by decide +kernel
theorem d_method_8_7 : decode method_8_code 7 = .ok (.iload_n 0, 1) := by decide +kernel
theorem d_method_8_8 : decode method_8_code 8 = .ok (.iconst 1, 1) := by decide +kernel
theorem d_method_8_9 : decode method_8_code 9 = .ok (.if_icmp .ne 9, 3) := by decide +kernel
theorem d_method_9_0 : decode method_9_code 0 = .ok (.iload_n 0, 1) := by decide +kernel
theorem d_method_9_1 : decode method_9_code 1 = .ok (.invokestatic 7, 3) := by decide +kernel
theorem d_method_9_12 : decode method_9_code 12 = .ok (.invokestatic 30, 3) := by decide +kernel
theorem d_method_9_15 : decode method_9_code 15 = .ok (.areturn, 1) := by decide +kernel
theorem d_method_9_4 : decode method_9_code 4 = .ok (.iload_n 0, 1) := by decide +kernel
theorem d_method_9_5 : decode method_9_code 5 = .ok (.invokestatic 13, 3) := by decide +kernel
theorem d_method_9_8 : decode method_9_code 8 = .ok (.iload_n 0, 1) := by decide +kernel
theorem d_method_9_9 : decode method_9_code 9 = .ok (.invokestatic 16, 3) := by decide +kernel
theorem d_prog_7_method_1_0 : decode prog_7_method_1_code 0 = .ok (.aload_n 0, 1) := by decide +kernel
theorem d_prog_7_method_1_1 : decode prog_7_method_1_code 1 = .ok (.invokespecial 1, 3) := by decide +kernel
theorem d_prog_7_method_1_10 : decode prog_7_method_1_code 10 = .ok (.aload_n 2, 1) := by decide +kernel
theorem d_prog_7_method_1_11 : decode prog_7_method_1_code 11 = .ok (.putfield 13, 3) := by decide +kernel
theorem d_prog_7_method_1_14 : decode prog_7_method_1_code 14 = .ok (.aload_n 0, 1) := by decide +kernel
theorem d_prog_7_method_1_15 : decode prog_7_method_1_code 15 = .ok (.aload_n 3, 1) := by decide +kernel
theorem d_prog_7_method_1_16 : decode prog_7_method_1_code 16 = .ok (.putfield 16, 3) := by decide +kernel
theorem d_prog_7_method_1_19 : decode prog_7_method_1_code 19 = .ok (.return_, 1) := by decide +kernel
theorem d_prog_7_method_1_4 : decode prog_7_method_1_code 4 = .ok (.aload_n 0, 1) := by decide +kernel
theorem d_prog_7_method_1_5 : decode prog_7_method_1_code 5 = .ok (.aload_n 1, 1) := by decide +kernel
theorem d_prog_7_method_1_6 : decode prog_7_method_1_code 6 = .ok (.putfield 7, 3) := by decide +kernel
theorem d_prog_7_method_1_9 : decode prog_7_method_1_code 9 = .ok (.aload_n 0, 1) := by decide +kernel
theorem d_prog_7_method_6_0 : decode prog_7_method_6_code 0 = .ok (.aload_n 1, 1) := by decide +kernel
theorem d_prog_7_method_6_1 : decode prog_7_method_6_code 1 = .ok (.instanceof 8, 3) := by decide +kernel
theorem d_prog_7_method_6_10 : decode prog_7_method_6_code 10 = .ok (.checkcast 8, 3) := by decide +kernel
theorem d_prog_7_method_6_13 : decode prog_7_method_6_code 13 = .ok (.astore_n 2, 1) := by decide +kernel
theorem d_prog_7_method_6_14 : decode prog_7_method_6_code 14 = .ok (.aload_n 0, 1) := by decide +kernel
theorem d_prog_7_method_6_15 : decode prog_7_method_6_code 15 = .ok (.getfield 7, 3) := by decide +kernel
theorem d_prog_7_method_6_18 : decode prog_7_method_6_code 18 = .ok (.aload_n 2, 1) := by decide +kernel
theorem d_prog_7_method_6_19 : decode prog_7_method_6_code 19 = .ok (.getfield 7, 3) := by decide +kernel
theorem d_prog_7_method_6_22 : decode prog_7_method_6_code 22 = .ok (.invokevirtual 26, 3) := by decide +kernel
theorem d_prog_7_method_6_25 : decode prog_7_method_6_code 25 = .ok (.ifCond .eq 35, 3) := by decide +kernel
theorem d_prog_7_method_6_28 : decode prog_7_method_6_code 28 = .ok (.aload_n 0, 1) := by decide +kernel
theorem d_prog_7_method_6_29 : decode prog_7_method_6_code 29 = .ok (.getfield 13, 3) := by decide +kernel
theorem d_prog_7_method_6_32 : decode prog_7_method_6_code 32 = .ok (.aload_n 2, 1) := by decide +kernel
theorem d_prog_7_method_6_33 : decode prog_7_method_6_code 33 = .ok (.getfield 13, 3) := by decide +kernel
theorem d_prog_7_method_6_36 : decode prog_7_method_6_code 36 = .ok (.invokevirtual 26, 3) := by decide +kernel
theorem d_prog_7_method_6_39 : decode prog_7_method_6_code 39 = .ok (.ifCond .eq 21, 3) := by decide +kernel
theorem d_prog_7_method_6_4 : decode prog_7_method_6_code 4 = .ok (.ifCond .ne 5, 3) := by decide +kernel
theorem d_prog_7_method_6_42 : decode prog_7_method_6_code 42 = .ok (.aload_n 0, 1) := by decide +kernel
theorem d_prog_7_method_6_43 : decode prog_7_method_6_code 43 = .ok (.getfield 16, 3) := by decide +kernel
theorem d_prog_7_method_6_46 : decode prog_7_method_6_code 46 = .ok (.aload_n 2, 1) := by decide +kernel
theorem d_prog_7_method_6_47 : decode prog_7_method_6_code 47 = .ok (.getfield 16, 3) := by decide +kernel
theorem d_prog_7_method_6_50 : decode prog_7_method_6_code 50 = .ok (.invokevirtual 26, 3) := by decide +kernel
theorem d_prog_7_method_6_53 : decode prog_7_method_6_code 53 = .ok (.ifCond .eq 7, 3) := by decide +kernel
theorem d_prog_7_method_6_56 : decode prog_7_method_6_code 56 = .ok (.iconst 1, 1) := by decide +kernel
theorem d_prog_7_method_6_57 : decode prog_7_method_6_code 57 = .ok (.goto 4, 3) := by decide +kernel
theorem d_prog_7_method_6_60 : decode prog_7_method_6_code 60 = .ok (.iconst 0, 1) := by decide +kernel
theorem d_prog_7_method_6_61 : decode prog_7_method_6_code 61 = .ok (.ireturn, 1) := by decide +kernel
theorem d_prog_7_method_6_7 : decode prog_7_method_6_code 7 = .ok (.iconst 0, 1) := by decide +kernel
theorem d_prog_7_method_6_8 : decode prog_7_method_6_code 8 = .ok (.ireturn, 1) := by decide +kernel
theorem d_prog_7_method_6_9 : decode prog_7_method_6_code 9 = .ok (.aload_n 1, 1) := by decide +kernel
theorem w_0 {Z : State} {a0 : Array Value} (hw : ∀ d ∈ tables_1, d.before a0 Z = true) : ((Jvm.Cond.classLink "com/example/entity_state_manager/entitystatemanager/QualifiedNameEqualsPinLaw" (43 : Nat) "com/example/entity_state_manager/entitystatemanager/QualifiedName") : Jvm.Cond).before a0 Z = true := hw _ (List.mem_of_getElem? (i := 0) rfl)
theorem w_1 {Z : State} {a0 : Array Value} (hw : ∀ d ∈ tables_1, d.before a0 Z = true) : ((Jvm.Cond.instantiable "com/example/entity_state_manager/entitystatemanager/QualifiedName" (3 : Nat)) : Jvm.Cond).before a0 Z = true := hw _ (List.mem_of_getElem? (i := 1) rfl)
theorem w_2 {Z : State} {a0 : Array Value} (hw : ∀ d ∈ tables_1, d.before a0 Z = true) : ((Jvm.Cond.initialized "com/example/entity_state_manager/entitystatemanager/QualifiedName") : Jvm.Cond).before a0 Z = true := hw _ (List.mem_of_getElem? (i := 2) rfl)
theorem w_3 {Z : State} {a0 : Array Value} (hw : ∀ d ∈ tables_1, d.before a0 Z = true) : ((Jvm.Cond.methodLink "com/example/entity_state_manager/entitystatemanager/QualifiedNameEqualsPinLaw" (45 : Nat) ({ cls := "com/example/entity_state_manager/entitystatemanager/QualifiedNameEqualsPinLaw", name := "recvPart", desc := "(I)Ljava/lang/String;" } : Jvm.MethodName)) : Jvm.Cond).before a0 Z = true := hw _ (List.mem_of_getElem? (i := 3) rfl)
theorem w_4 {Z : State} {a0 : Array Value} (hw : ∀ d ∈ tables_1, d.before a0 Z = true) : ((Jvm.Cond.static ({ cls := "com/example/entity_state_manager/entitystatemanager/QualifiedNameEqualsPinLaw", name := "recvPart", desc := "(I)Ljava/lang/String;" } : Jvm.MethodName)) : Jvm.Cond).before a0 Z = true := hw _ (List.mem_of_getElem? (i := 4) rfl)
theorem w_5 {Z : State} {a0 : Array Value} (hw : ∀ d ∈ tables_1, d.before a0 Z = true) : ((Jvm.Cond.initialized "com/example/entity_state_manager/entitystatemanager/QualifiedNameEqualsPinLaw") : Jvm.Cond).before a0 Z = true := hw _ (List.mem_of_getElem? (i := 5) rfl)
theorem w_6 {Z : State} {a0 : Array Value} (hw : ∀ d ∈ tables_1, d.before a0 Z = true) : ((Jvm.Cond.code ({ cls := "com/example/entity_state_manager/entitystatemanager/QualifiedNameEqualsPinLaw", name := "recvPart", desc := "(I)Ljava/lang/String;" } : Jvm.MethodName) method_9_code (1 : Nat) (Option.some (Jvm.ClassFile.FieldType.object "java/lang/String"))) : Jvm.Cond).before a0 Z = true := hw _ (List.mem_of_getElem? (i := 6) rfl)
theorem w_7 {Z : State} {a0 : Array Value} (hw : ∀ d ∈ tables_1, d.before a0 Z = true) : ((Jvm.Cond.methodLink "com/example/entity_state_manager/entitystatemanager/QualifiedNameEqualsPinLaw" (7 : Nat) ({ cls := "com/example/entity_state_manager/entitystatemanager/QualifiedNameEqualsPinLaw", name := "lenA", desc := "(I)I" } : Jvm.MethodName)) : Jvm.Cond).before a0 Z = true := hw _ (List.mem_of_getElem? (i := 7) rfl)
theorem w_8 {Z : State} {a0 : Array Value} (hw : ∀ d ∈ tables_1, d.before a0 Z = true) : ((Jvm.Cond.static ({ cls := "com/example/entity_state_manager/entitystatemanager/QualifiedNameEqualsPinLaw", name := "lenA", desc := "(I)I" } : Jvm.MethodName)) : Jvm.Cond).before a0 Z = true := hw _ (List.mem_of_getElem? (i := 8) rfl)
theorem w_9 {Z : State} {a0 : Array Value} (hw : ∀ d ∈ tables_1, d.before a0 Z = true) : ((Jvm.Cond.code ({ cls := "com/example/entity_state_manager/entitystatemanager/QualifiedNameEqualsPinLaw", name := "lenA", desc := "(I)I" } : Jvm.MethodName) method_2_code (1 : Nat) (Option.some Jvm.ClassFile.FieldType.int)) : Jvm.Cond).before a0 Z = true := hw _ (List.mem_of_getElem? (i := 9) rfl)
theorem w_10 {Z : State} {a0 : Array Value} (hw : ∀ d ∈ tables_1, d.before a0 Z = true) : ((Jvm.Cond.methodLink "com/example/entity_state_manager/entitystatemanager/QualifiedNameEqualsPinLaw" (13 : Nat) ({ cls := "com/example/entity_state_manager/entitystatemanager/QualifiedNameEqualsPinLaw", name := "firstA", desc := "(I)I" } : Jvm.MethodName)) : Jvm.Cond).before a0 Z = true := hw _ (List.mem_of_getElem? (i := 10) rfl)
theorem w_11 {Z : State} {a0 : Array Value} (hw : ∀ d ∈ tables_1, d.before a0 Z = true) : ((Jvm.Cond.static ({ cls := "com/example/entity_state_manager/entitystatemanager/QualifiedNameEqualsPinLaw", name := "firstA", desc := "(I)I" } : Jvm.MethodName)) : Jvm.Cond).before a0 Z = true := hw _ (List.mem_of_getElem? (i := 11) rfl)
theorem w_12 {Z : State} {a0 : Array Value} (hw : ∀ d ∈ tables_1, d.before a0 Z = true) : ((Jvm.Cond.code ({ cls := "com/example/entity_state_manager/entitystatemanager/QualifiedNameEqualsPinLaw", name := "firstA", desc := "(I)I" } : Jvm.MethodName) method_4_code (1 : Nat) (Option.some Jvm.ClassFile.FieldType.int)) : Jvm.Cond).before a0 Z = true := hw _ (List.mem_of_getElem? (i := 12) rfl)
theorem w_13 {Z : State} {a0 : Array Value} (hw : ∀ d ∈ tables_1, d.before a0 Z = true) : ((Jvm.Cond.methodLink "com/example/entity_state_manager/entitystatemanager/QualifiedNameEqualsPinLaw" (16 : Nat) ({ cls := "com/example/entity_state_manager/entitystatemanager/QualifiedNameEqualsPinLaw", name := "secA", desc := "(I)I" } : Jvm.MethodName)) : Jvm.Cond).before a0 Z = true := hw _ (List.mem_of_getElem? (i := 13) rfl)
theorem w_14 {Z : State} {a0 : Array Value} (hw : ∀ d ∈ tables_1, d.before a0 Z = true) : ((Jvm.Cond.static ({ cls := "com/example/entity_state_manager/entitystatemanager/QualifiedNameEqualsPinLaw", name := "secA", desc := "(I)I" } : Jvm.MethodName)) : Jvm.Cond).before a0 Z = true := hw _ (List.mem_of_getElem? (i := 14) rfl)
theorem w_15 {Z : State} {a0 : Array Value} (hw : ∀ d ∈ tables_1, d.before a0 Z = true) : ((Jvm.Cond.code ({ cls := "com/example/entity_state_manager/entitystatemanager/QualifiedNameEqualsPinLaw", name := "secA", desc := "(I)I" } : Jvm.MethodName) method_6_code (1 : Nat) (Option.some Jvm.ClassFile.FieldType.int)) : Jvm.Cond).before a0 Z = true := hw _ (List.mem_of_getElem? (i := 15) rfl)
theorem w_16 {Z : State} {a0 : Array Value} (hw : ∀ d ∈ tables_1, d.before a0 Z = true) : ((Jvm.Cond.methodLink "com/example/entity_state_manager/entitystatemanager/QualifiedNameEqualsPinLaw" (30 : Nat) ({ cls := "com/example/entity_state_manager/entitystatemanager/QualifiedNameEqualsPinLaw", name := "part", desc := "(III)Ljava/lang/String;" } : Jvm.MethodName)) : Jvm.Cond).before a0 Z = true := hw _ (List.mem_of_getElem? (i := 16) rfl)
theorem w_17 {Z : State} {a0 : Array Value} (hw : ∀ d ∈ tables_1, d.before a0 Z = true) : ((Jvm.Cond.static ({ cls := "com/example/entity_state_manager/entitystatemanager/QualifiedNameEqualsPinLaw", name := "part", desc := "(III)Ljava/lang/String;" } : Jvm.MethodName)) : Jvm.Cond).before a0 Z = true := hw _ (List.mem_of_getElem? (i := 17) rfl)
theorem w_18 {Z : State} {a0 : Array Value} (hw : ∀ d ∈ tables_1, d.before a0 Z = true) : ((Jvm.Cond.code ({ cls := "com/example/entity_state_manager/entitystatemanager/QualifiedNameEqualsPinLaw", name := "part", desc := "(III)Ljava/lang/String;" } : Jvm.MethodName) method_8_code (4 : Nat) (Option.some (Jvm.ClassFile.FieldType.object "java/lang/String"))) : Jvm.Cond).before a0 Z = true := hw _ (List.mem_of_getElem? (i := 18) rfl)
theorem w_19 {Z : State} {a0 : Array Value} (hw : ∀ d ∈ tables_1, d.before a0 Z = true) : ((Jvm.Cond.stringLink "com/example/entity_state_manager/entitystatemanager/QualifiedNameEqualsPinLaw" (19 : Nat) "") : Jvm.Cond).before a0 Z = true := hw _ (List.mem_of_getElem? (i := 19) rfl)
theorem w_20 {Z : State} {a0 : Array Value} (hw : ∀ d ∈ tables_1, d.before a0 Z = true) : ((Jvm.Cond.initialized "java/lang/String") : Jvm.Cond).before a0 Z = true := hw _ (List.mem_of_getElem? (i := 20) rfl)
theorem w_21 {Z : State} {a0 : Array Value} (hw : ∀ d ∈ tables_1, d.before a0 Z = true) : ((Jvm.Cond.instantiable "java/lang/String" (4 : Nat)) : Jvm.Cond).before a0 Z = true := hw _ (List.mem_of_getElem? (i := 21) rfl)
theorem w_22 {Z : State} {a0 : Array Value} (hw : ∀ d ∈ tables_1, d.before a0 Z = true) : ((Jvm.Cond.arrayClass Jvm.ClassFile.FieldType.byte) : Jvm.Cond).before a0 Z = true := hw _ (List.mem_of_getElem? (i := 22) rfl)
theorem w_23 {Z : State} {a0 : Array Value} (hw : ∀ d ∈ tables_1, d.before a0 Z = true) : ((Jvm.Cond.laysFinal "java/lang/String" "java/lang/String" "value" "[B") : Jvm.Cond).before a0 Z = true := hw _ (List.mem_of_getElem? (i := 23) rfl)
theorem w_24 {Z : State} {a0 : Array Value} (hw : ∀ d ∈ tables_1, d.before a0 Z = true) : ((Jvm.Cond.laysFinal "java/lang/String" "java/lang/String" "coder" "B") : Jvm.Cond).before a0 Z = true := hw _ (List.mem_of_getElem? (i := 24) rfl)
theorem w_27 {Z : State} {a0 : Array Value} (hw : ∀ d ∈ tables_1, d.before a0 Z = true) : ((Jvm.Cond.methodLink "com/example/entity_state_manager/entitystatemanager/QualifiedNameEqualsPinLaw" (49 : Nat) ({ cls := "com/example/entity_state_manager/entitystatemanager/QualifiedName", name := "<init>", desc := "(Ljava/lang/String;Ljava/lang/String;Ljava/lang/String;)V" } : Jvm.MethodName)) : Jvm.Cond).before a0 Z = true := hw _ (List.mem_of_getElem? (i := 27) rfl)
theorem w_28 {Z : State} {a0 : Array Value} (hw : ∀ d ∈ tables_1, d.before a0 Z = true) : ((Jvm.Cond.instanceMethod ({ cls := "com/example/entity_state_manager/entitystatemanager/QualifiedName", name := "<init>", desc := "(Ljava/lang/String;Ljava/lang/String;Ljava/lang/String;)V" } : Jvm.MethodName)) : Jvm.Cond).before a0 Z = true := hw _ (List.mem_of_getElem? (i := 28) rfl)
theorem w_29 {Z : State} {a0 : Array Value} (hw : ∀ d ∈ tables_1, d.before a0 Z = true) : ((Jvm.Cond.code ({ cls := "com/example/entity_state_manager/entitystatemanager/QualifiedName", name := "<init>", desc := "(Ljava/lang/String;Ljava/lang/String;Ljava/lang/String;)V" } : Jvm.MethodName) prog_7_method_1_code (4 : Nat) (Option.none : Option Jvm.ClassFile.FieldType)) : Jvm.Cond).before a0 Z = true := hw _ (List.mem_of_getElem? (i := 29) rfl)
theorem w_30 {Z : State} {a0 : Array Value} (hw : ∀ d ∈ tables_1, d.before a0 Z = true) : ((Jvm.Cond.methodLink "com/example/entity_state_manager/entitystatemanager/QualifiedName" (1 : Nat) ({ cls := "java/lang/Object", name := "<init>", desc := "()V" } : Jvm.MethodName)) : Jvm.Cond).before a0 Z = true := hw _ (List.mem_of_getElem? (i := 30) rfl)
theorem w_31 {Z : State} {a0 : Array Value} (hw : ∀ d ∈ tables_1, d.before a0 Z = true) : ((Jvm.Cond.instanceMethod ({ cls := "java/lang/Object", name := "<init>", desc := "()V" } : Jvm.MethodName)) : Jvm.Cond).before a0 Z = true := hw _ (List.mem_of_getElem? (i := 31) rfl)
theorem w_32 {Z : State} {a0 : Array Value} (hw : ∀ d ∈ tables_1, d.before a0 Z = true) : ((Jvm.Cond.code ({ cls := "java/lang/Object", name := "<init>", desc := "()V" } : Jvm.MethodName) object_method_1_code (1 : Nat) (Option.none : Option Jvm.ClassFile.FieldType)) : Jvm.Cond).before a0 Z = true := hw _ (List.mem_of_getElem? (i := 32) rfl)
theorem w_33 {Z : State} {a0 : Array Value} (hw : ∀ d ∈ tables_1, d.before a0 Z = true) : ((Jvm.Cond.fieldLink "com/example/entity_state_manager/entitystatemanager/QualifiedName" (7 : Nat) "com/example/entity_state_manager/entitystatemanager/QualifiedName" "catalog" "Ljava/lang/String;") : Jvm.Cond).before a0 Z = true := hw _ (List.mem_of_getElem? (i := 33) rfl)
theorem w_34 {Z : State} {a0 : Array Value} (hw : ∀ d ∈ tables_1, d.before a0 Z = true) : ((Jvm.Cond.laysFinal "com/example/entity_state_manager/entitystatemanager/QualifiedName" "com/example/entity_state_manager/entitystatemanager/QualifiedName" "catalog" "Ljava/lang/String;") : Jvm.Cond).before a0 Z = true := hw _ (List.mem_of_getElem? (i := 34) rfl)
theorem w_35 {Z : State} {a0 : Array Value} (hw : ∀ d ∈ tables_1, d.before a0 Z = true) : ((Jvm.Cond.fieldLink "com/example/entity_state_manager/entitystatemanager/QualifiedName" (13 : Nat) "com/example/entity_state_manager/entitystatemanager/QualifiedName" "schema" "Ljava/lang/String;") : Jvm.Cond).before a0 Z = true := hw _ (List.mem_of_getElem? (i := 35) rfl)
theorem w_36 {Z : State} {a0 : Array Value} (hw : ∀ d ∈ tables_1, d.before a0 Z = true) : ((Jvm.Cond.laysFinal "com/example/entity_state_manager/entitystatemanager/QualifiedName" "com/example/entity_state_manager/entitystatemanager/QualifiedName" "schema" "Ljava/lang/String;") : Jvm.Cond).before a0 Z = true := hw _ (List.mem_of_getElem? (i := 36) rfl)
theorem w_37 {Z : State} {a0 : Array Value} (hw : ∀ d ∈ tables_1, d.before a0 Z = true) : ((Jvm.Cond.fieldLink "com/example/entity_state_manager/entitystatemanager/QualifiedName" (16 : Nat) "com/example/entity_state_manager/entitystatemanager/QualifiedName" "name" "Ljava/lang/String;") : Jvm.Cond).before a0 Z = true := hw _ (List.mem_of_getElem? (i := 37) rfl)
theorem w_38 {Z : State} {a0 : Array Value} (hw : ∀ d ∈ tables_1, d.before a0 Z = true) : ((Jvm.Cond.laysFinal "com/example/entity_state_manager/entitystatemanager/QualifiedName" "com/example/entity_state_manager/entitystatemanager/QualifiedName" "name" "Ljava/lang/String;") : Jvm.Cond).before a0 Z = true := hw _ (List.mem_of_getElem? (i := 38) rfl)
theorem w_39 {Z : State} {a0 : Array Value} (hw : ∀ d ∈ tables_1, d.before a0 Z = true) : ((Jvm.Cond.methodLink "com/example/entity_state_manager/entitystatemanager/QualifiedNameEqualsPinLaw" (52 : Nat) ({ cls := "com/example/entity_state_manager/entitystatemanager/QualifiedName", name := "equals", desc := "(Ljava/lang/Object;)Z" } : Jvm.MethodName)) : Jvm.Cond).before a0 Z = true := hw _ (List.mem_of_getElem? (i := 39) rfl)
theorem w_40 {Z : State} {a0 : Array Value} (hw : ∀ d ∈ tables_1, d.before a0 Z = true) : ((Jvm.Cond.declares ({ cls := "com/example/entity_state_manager/entitystatemanager/QualifiedName", name := "equals", desc := "(Ljava/lang/Object;)Z" } : Jvm.MethodName)) : Jvm.Cond).before a0 Z = true := hw _ (List.mem_of_getElem? (i := 40) rfl)
theorem w_41 {Z : State} {a0 : Array Value} (hw : ∀ d ∈ tables_1, d.before a0 Z = true) : ((Jvm.Cond.instanceMethod ({ cls := "com/example/entity_state_manager/entitystatemanager/QualifiedName", name := "equals", desc := "(Ljava/lang/Object;)Z" } : Jvm.MethodName)) : Jvm.Cond).before a0 Z = true := hw _ (List.mem_of_getElem? (i := 41) rfl)
theorem w_42 {Z : State} {a0 : Array Value} (hw : ∀ d ∈ tables_1, d.before a0 Z = true) : ((Jvm.Cond.selects "com/example/entity_state_manager/entitystatemanager/QualifiedName" ({ cls := "com/example/entity_state_manager/entitystatemanager/QualifiedName", name := "equals", desc := "(Ljava/lang/Object;)Z" } : Jvm.MethodName) ({ cls := "com/example/entity_state_manager/entitystatemanager/QualifiedName", name := "equals", desc := "(Ljava/lang/Object;)Z" } : Jvm.MethodName)) : Jvm.Cond).before a0 Z = true := hw _ (List.mem_of_getElem? (i := 42) rfl)
theorem w_43 {Z : State} {a0 : Array Value} (hw : ∀ d ∈ tables_1, d.before a0 Z = true) : ((Jvm.Cond.code ({ cls := "com/example/entity_state_manager/entitystatemanager/QualifiedName", name := "equals", desc := "(Ljava/lang/Object;)Z" } : Jvm.MethodName) prog_7_method_6_code (3 : Nat) (Option.some Jvm.ClassFile.FieldType.boolean)) : Jvm.Cond).before a0 Z = true := hw _ (List.mem_of_getElem? (i := 43) rfl)
theorem w_44 {Z : State} {a0 : Array Value} (hw : ∀ d ∈ tables_1, d.before a0 Z = true) : ((Jvm.Cond.classLink "com/example/entity_state_manager/entitystatemanager/QualifiedName" (8 : Nat) "com/example/entity_state_manager/entitystatemanager/QualifiedName") : Jvm.Cond).before a0 Z = true := hw _ (List.mem_of_getElem? (i := 44) rfl)
theorem w_45 {Z : State} {a0 : Array Value} (hw : ∀ d ∈ tables_1, d.before a0 Z = true) : ((Jvm.Cond.superclass "java/lang/String" "java/lang/Object") : Jvm.Cond).before a0 Z = true := hw _ (List.mem_of_getElem? (i := 45) rfl)
theorem w_46 {Z : State} {a0 : Array Value} (hw : ∀ d ∈ tables_1, d.before a0 Z = true) : ((Jvm.Cond.noSuperclass "java/lang/Object") : Jvm.Cond).before a0 Z = true := hw _ (List.mem_of_getElem? (i := 46) rfl)
theorem w_47 {Z : State} {a0 : Array Value} (hw : ∀ d ∈ tables_1, d.before a0 Z = true) : ((Jvm.Cond.arrayClass Jvm.ClassFile.FieldType.char) : Jvm.Cond).before a0 Z = true := hw _ (List.mem_of_getElem? (i := 47) rfl)
theorem w_48 {Z : State} {a0 : Array Value} (hw : ∀ d ∈ tables_1, d.before a0 Z = true) : ((Jvm.Cond.classLink "com/example/entity_state_manager/entitystatemanager/QualifiedNameEqualsPinLaw" (22 : Nat) "java/lang/String") : Jvm.Cond).before a0 Z = true := hw _ (List.mem_of_getElem? (i := 48) rfl)
theorem w_49 {Z : State} {a0 : Array Value} (hw : ∀ d ∈ tables_1, d.before a0 Z = true) : ((Jvm.Cond.methodLink "com/example/entity_state_manager/entitystatemanager/QualifiedNameEqualsPinLaw" (27 : Nat) ({ cls := "java/lang/String", name := "<init>", desc := "([C)V" } : Jvm.MethodName)) : Jvm.Cond).before a0 Z = true := hw _ (List.mem_of_getElem? (i := 49) rfl)
theorem w_50 {Z : State} {a0 : Array Value} (hw : ∀ d ∈ tables_1, d.before a0 Z = true) : ((Jvm.Cond.instanceMethod ({ cls := "java/lang/String", name := "<init>", desc := "([C)V" } : Jvm.MethodName)) : Jvm.Cond).before a0 Z = true := hw _ (List.mem_of_getElem? (i := 50) rfl)
theorem w_51 {Z : State} {a0 : Array Value} (hw : ∀ d ∈ tables_1, d.before a0 Z = true) : ((Jvm.Cond.code ({ cls := "java/lang/String", name := "<init>", desc := "([C)V" } : Jvm.MethodName) jdk_42_method_3_code (2 : Nat) (Option.none : Option Jvm.ClassFile.FieldType)) : Jvm.Cond).before a0 Z = true := hw _ (List.mem_of_getElem? (i := 51) rfl)
theorem w_56 {Z : State} {a0 : Array Value} (hw : ∀ d ∈ tables_1, d.before a0 Z = true) : ((Jvm.Cond.methodLink "java/lang/String" (1 : Nat) ({ cls := "java/lang/Object", name := "<init>", desc := "()V" } : Jvm.MethodName)) : Jvm.Cond).before a0 Z = true := hw _ (List.mem_of_getElem? (i := 56) rfl)
theorem w_57 {Z : State} {a0 : Array Value} (hw : ∀ d ∈ tables_1, d.before a0 Z = true) : ((Jvm.Cond.fieldLink "java/lang/String" (38 : Nat) "java/lang/String" "COMPACT_STRINGS" "Z") : Jvm.Cond).before a0 Z = true := hw _ (List.mem_of_getElem? (i := 57) rfl)
theorem w_68 {Z : State} {a0 : Array Value} (hw : ∀ d ∈ tables_1, d.before a0 Z = true) : ((Jvm.Cond.fieldLink "java/lang/String" (15 : Nat) "java/lang/String" "coder" "B") : Jvm.Cond).before a0 Z = true := hw _ (List.mem_of_getElem? (i := 68) rfl)
theorem w_69 {Z : State} {a0 : Array Value} (hw : ∀ d ∈ tables_1, d.before a0 Z = true) : ((Jvm.Cond.fieldLink "java/lang/String" (9 : Nat) "java/lang/String" "value" "[B") : Jvm.Cond).before a0 Z = true := hw _ (List.mem_of_getElem? (i := 69) rfl)
theorem w_70 {Z : State} {a0 : Array Value} (hw : ∀ d ∈ tables_1, d.before a0 Z = true) : ((Jvm.Cond.methodLink "com/example/entity_state_manager/entitystatemanager/QualifiedNameEqualsPinLaw" (21 : Nat) ({ cls := "java/lang/String", name := "valueOf", desc := "(C)Ljava/lang/String;" } : Jvm.MethodName)) : Jvm.Cond).before a0 Z = true := hw _ (List.mem_of_getElem? (i := 70) rfl)
theorem w_71 {Z : State} {a0 : Array Value} (hw : ∀ d ∈ tables_1, d.before a0 Z = true) : ((Jvm.Cond.static ({ cls := "java/lang/String", name := "valueOf", desc := "(C)Ljava/lang/String;" } : Jvm.MethodName)) : Jvm.Cond).before a0 Z = true := hw _ (List.mem_of_getElem? (i := 71) rfl)
theorem w_72 {Z : State} {a0 : Array Value} (hw : ∀ d ∈ tables_1, d.before a0 Z = true) : ((Jvm.Cond.code ({ cls := "java/lang/String", name := "valueOf", desc := "(C)Ljava/lang/String;" } : Jvm.MethodName) jdk_42_method_139_code (1 : Nat) (Option.some (Jvm.ClassFile.FieldType.object "java/lang/String"))) : Jvm.Cond).before a0 Z = true := hw _ (List.mem_of_getElem? (i := 72) rfl)
theorem w_73 {Z : State} {a0 : Array Value} (hw : ∀ d ∈ tables_1, d.before a0 Z = true) : ((Jvm.Cond.methodLink "java/lang/String" (1015 : Nat) ({ cls := "java/lang/StringLatin1", name := "canEncode", desc := "(C)Z" } : Jvm.MethodName)) : Jvm.Cond).before a0 Z = true := hw _ (List.mem_of_getElem? (i := 73) rfl)
theorem w_74 {Z : State} {a0 : Array Value} (hw : ∀ d ∈ tables_1, d.before a0 Z = true) : ((Jvm.Cond.static ({ cls := "java/lang/StringLatin1", name := "canEncode", desc := "(C)Z" } : Jvm.MethodName)) : Jvm.Cond).before a0 Z = true := hw _ (List.mem_of_getElem? (i := 74) rfl)
theorem w_75 {Z : State} {a0 : Array Value} (hw : ∀ d ∈ tables_1, d.before a0 Z = true) : ((Jvm.Cond.initialized "java/lang/StringLatin1") : Jvm.Cond).before a0 Z = true := hw _ (List.mem_of_getElem? (i := 75) rfl)
theorem w_76 {Z : State} {a0 : Array Value} (hw : ∀ d ∈ tables_1, d.before a0 Z = true) : ((Jvm.Cond.code ({ cls := "java/lang/StringLatin1", name := "canEncode", desc := "(C)Z" } : Jvm.MethodName) jdk_43_method_3_code (1 : Nat) (Option.some Jvm.ClassFile.FieldType.boolean)) : Jvm.Cond).before a0 Z = true := hw _ (List.mem_of_getElem? (i := 76) rfl)
theorem w_77 {Z : State} {a0 : Array Value} (hw : ∀ d ∈ tables_1, d.before a0 Z = true) : ((Jvm.Cond.classLink "java/lang/String" (10 : Nat) "java/lang/String") : Jvm.Cond).before a0 Z = true := hw _ (List.mem_of_getElem? (i := 77) rfl)
theorem w_78 {Z : State} {a0 : Array Value} (hw : ∀ d ∈ tables_1, d.before a0 Z = true) : ((Jvm.Cond.methodLink "java/lang/String" (1018 : Nat) ({ cls := "java/lang/StringLatin1", name := "toBytes", desc := "(C)[B" } : Jvm.MethodName)) : Jvm.Cond).before a0 Z = true := hw _ (List.mem_of_getElem? (i := 78) rfl)
theorem w_79 {Z : State} {a0 : Array Value} (hw : ∀ d ∈ tables_1, d.before a0 Z = true) : ((Jvm.Cond.static ({ cls := "java/lang/StringLatin1", name := "toBytes", desc := "(C)[B" } : Jvm.MethodName)) : Jvm.Cond).before a0 Z = true := hw _ (List.mem_of_getElem? (i := 79) rfl)
theorem w_80 {Z : State} {a0 : Array Value} (hw : ∀ d ∈ tables_1, d.before a0 Z = true) : ((Jvm.Cond.code ({ cls := "java/lang/StringLatin1", name := "toBytes", desc := "(C)[B" } : Jvm.MethodName) jdk_43_method_46_code (1 : Nat) (Option.some (Jvm.ClassFile.FieldType.array Jvm.ClassFile.FieldType.byte))) : Jvm.Cond).before a0 Z = true := hw _ (List.mem_of_getElem? (i := 80) rfl)
theorem w_81 {Z : State} {a0 : Array Value} (hw : ∀ d ∈ tables_1, d.before a0 Z = true) : ((Jvm.Cond.methodLink "java/lang/String" (209 : Nat) ({ cls := "java/lang/String", name := "<init>", desc := "([BB)V" } : Jvm.MethodName)) : Jvm.Cond).before a0 Z = true := hw _ (List.mem_of_getElem? (i := 81) rfl)
theorem w_82 {Z : State} {a0 : Array Value} (hw : ∀ d ∈ tables_1, d.before a0 Z = true) : ((Jvm.Cond.instanceMethod ({ cls := "java/lang/String", name := "<init>", desc := "([BB)V" } : Jvm.MethodName)) : Jvm.Cond).before a0 Z = true := hw _ (List.mem_of_getElem? (i := 82) rfl)
theorem w_83 {Z : State} {a0 : Array Value} (hw : ∀ d ∈ tables_1, d.before a0 Z = true) : ((Jvm.Cond.code ({ cls := "java/lang/String", name := "<init>", desc := "([BB)V" } : Jvm.MethodName) jdk_42_method_151_code (3 : Nat) (Option.none : Option Jvm.ClassFile.FieldType)) : Jvm.Cond).before a0 Z = true := hw _ (List.mem_of_getElem? (i := 83) rfl)
theorem w_84 {Z : State} {a0 : Array Value} (hw : ∀ d ∈ tables_1, d.before a0 Z = true) : ((Jvm.Cond.methodLink "com/example/entity_state_manager/entitystatemanager/QualifiedNameEqualsPinLaw" (56 : Nat) ({ cls := "com/example/entity_state_manager/entitystatemanager/QualifiedNameEqualsPinLaw", name := "othPart", desc := "(I)Ljava/lang/String;" } : Jvm.MethodName)) : Jvm.Cond).before a0 Z = true := hw _ (List.mem_of_getElem? (i := 84) rfl)
theorem w_85 {Z : State} {a0 : Array Value} (hw : ∀ d ∈ tables_1, d.before a0 Z = true) : ((Jvm.Cond.static ({ cls := "com/example/entity_state_manager/entitystatemanager/QualifiedNameEqualsPinLaw", name := "othPart", desc := "(I)Ljava/lang/String;" } : Jvm.MethodName)) : Jvm.Cond).before a0 Z = true := hw _ (List.mem_of_getElem? (i := 85) rfl)
theorem w_86 {Z : State} {a0 : Array Value} (hw : ∀ d ∈ tables_1, d.before a0 Z = true) : ((Jvm.Cond.code ({ cls := "com/example/entity_state_manager/entitystatemanager/QualifiedNameEqualsPinLaw", name := "othPart", desc := "(I)Ljava/lang/String;" } : Jvm.MethodName) method_10_code (1 : Nat) (Option.some (Jvm.ClassFile.FieldType.object "java/lang/String"))) : Jvm.Cond).before a0 Z = true := hw _ (List.mem_of_getElem? (i := 86) rfl)
theorem w_87 {Z : State} {a0 : Array Value} (hw : ∀ d ∈ tables_1, d.before a0 Z = true) : ((Jvm.Cond.methodLink "com/example/entity_state_manager/entitystatemanager/QualifiedNameEqualsPinLaw" (34 : Nat) ({ cls := "com/example/entity_state_manager/entitystatemanager/QualifiedNameEqualsPinLaw", name := "lenB", desc := "(I)I" } : Jvm.MethodName)) : Jvm.Cond).before a0 Z = true := hw _ (List.mem_of_getElem? (i := 87) rfl)
theorem w_88 {Z : State} {a0 : Array Value} (hw : ∀ d ∈ tables_1, d.before a0 Z = true) : ((Jvm.Cond.static ({ cls := "com/example/entity_state_manager/entitystatemanager/QualifiedNameEqualsPinLaw", name := "lenB", desc := "(I)I" } : Jvm.MethodName)) : Jvm.Cond).before a0 Z = true := hw _ (List.mem_of_getElem? (i := 88) rfl)
theorem w_89 {Z : State} {a0 : Array Value} (hw : ∀ d ∈ tables_1, d.before a0 Z = true) : ((Jvm.Cond.code ({ cls := "com/example/entity_state_manager/entitystatemanager/QualifiedNameEqualsPinLaw", name := "lenB", desc := "(I)I" } : Jvm.MethodName) method_3_code (1 : Nat) (Option.some Jvm.ClassFile.FieldType.int)) : Jvm.Cond).before a0 Z = true := hw _ (List.mem_of_getElem? (i := 89) rfl)
theorem w_90 {Z : State} {a0 : Array Value} (hw : ∀ d ∈ tables_1, d.before a0 Z = true) : ((Jvm.Cond.methodLink "com/example/entity_state_manager/entitystatemanager/QualifiedNameEqualsPinLaw" (37 : Nat) ({ cls := "com/example/entity_state_manager/entitystatemanager/QualifiedNameEqualsPinLaw", name := "firstB", desc := "(I)I" } : Jvm.MethodName)) : Jvm.Cond).before a0 Z = true := hw _ (List.mem_of_getElem? (i := 90) rfl)
theorem w_91 {Z : State} {a0 : Array Value} (hw : ∀ d ∈ tables_1, d.before a0 Z = true) : ((Jvm.Cond.static ({ cls := "com/example/entity_state_manager/entitystatemanager/QualifiedNameEqualsPinLaw", name := "firstB", desc := "(I)I" } : Jvm.MethodName)) : Jvm.Cond).before a0 Z = true := hw _ (List.mem_of_getElem? (i := 91) rfl)
theorem w_92 {Z : State} {a0 : Array Value} (hw : ∀ d ∈ tables_1, d.before a0 Z = true) : ((Jvm.Cond.code ({ cls := "com/example/entity_state_manager/entitystatemanager/QualifiedNameEqualsPinLaw", name := "firstB", desc := "(I)I" } : Jvm.MethodName) method_5_code (1 : Nat) (Option.some Jvm.ClassFile.FieldType.int)) : Jvm.Cond).before a0 Z = true := hw _ (List.mem_of_getElem? (i := 92) rfl)
theorem w_93 {Z : State} {a0 : Array Value} (hw : ∀ d ∈ tables_1, d.before a0 Z = true) : ((Jvm.Cond.methodLink "com/example/entity_state_manager/entitystatemanager/QualifiedNameEqualsPinLaw" (40 : Nat) ({ cls := "com/example/entity_state_manager/entitystatemanager/QualifiedNameEqualsPinLaw", name := "secB", desc := "(I)I" } : Jvm.MethodName)) : Jvm.Cond).before a0 Z = true := hw _ (List.mem_of_getElem? (i := 93) rfl)
theorem w_94 {Z : State} {a0 : Array Value} (hw : ∀ d ∈ tables_1, d.before a0 Z = true) : ((Jvm.Cond.static ({ cls := "com/example/entity_state_manager/entitystatemanager/QualifiedNameEqualsPinLaw", name := "secB", desc := "(I)I" } : Jvm.MethodName)) : Jvm.Cond).before a0 Z = true := hw _ (List.mem_of_getElem? (i := 94) rfl)
theorem w_95 {Z : State} {a0 : Array Value} (hw : ∀ d ∈ tables_1, d.before a0 Z = true) : ((Jvm.Cond.code ({ cls := "com/example/entity_state_manager/entitystatemanager/QualifiedNameEqualsPinLaw", name := "secB", desc := "(I)I" } : Jvm.MethodName) method_7_code (1 : Nat) (Option.some Jvm.ClassFile.FieldType.int)) : Jvm.Cond).before a0 Z = true := hw _ (List.mem_of_getElem? (i := 95) rfl)
theorem w_96 {Z : State} {a0 : Array Value} (hw : ∀ d ∈ tables_1, d.before a0 Z = true) : ((Jvm.Cond.methodLink "com/example/entity_state_manager/entitystatemanager/QualifiedNameEqualsPinLaw" (59 : Nat) ({ cls := "com/example/entity_state_manager/entitystatemanager/QualifiedNameEqualsPinLaw", name := "samePart", desc := "(I)Z" } : Jvm.MethodName)) : Jvm.Cond).before a0 Z = true := hw _ (List.mem_of_getElem? (i := 96) rfl)
theorem w_97 {Z : State} {a0 : Array Value} (hw : ∀ d ∈ tables_1, d.before a0 Z = true) : ((Jvm.Cond.static ({ cls := "com/example/entity_state_manager/entitystatemanager/QualifiedNameEqualsPinLaw", name := "samePart", desc := "(I)Z" } : Jvm.MethodName)) : Jvm.Cond).before a0 Z = true := hw _ (List.mem_of_getElem? (i := 97) rfl)
theorem w_98 {Z : State} {a0 : Array Value} (hw : ∀ d ∈ tables_1, d.before a0 Z = true) : ((Jvm.Cond.code ({ cls := "com/example/entity_state_manager/entitystatemanager/QualifiedNameEqualsPinLaw", name := "samePart", desc := "(I)Z" } : Jvm.MethodName) method_11_code (2 : Nat) (Option.some Jvm.ClassFile.FieldType.boolean)) : Jvm.Cond).before a0 Z = true := hw _ (List.mem_of_getElem? (i := 98) rfl)
theorem w_100 {Z : State} {a0 : Array Value} (hw : ∀ d ∈ tables_1, d.before a0 Z = true) : ((Jvm.Cond.methodLink "com/example/entity_state_manager/entitystatemanager/QualifiedName" (26 : Nat) ({ cls := "java/lang/String", name := "equals", desc := "(Ljava/lang/Object;)Z" } : Jvm.MethodName)) : Jvm.Cond).before a0 Z = true := hw _ (List.mem_of_getElem? (i := 100) rfl)
theorem w_101 {Z : State} {a0 : Array Value} (hw : ∀ d ∈ tables_1, d.before a0 Z = true) : ((Jvm.Cond.declares ({ cls := "java/lang/String", name := "equals", desc := "(Ljava/lang/Object;)Z" } : Jvm.MethodName)) : Jvm.Cond).before a0 Z = true := hw _ (List.mem_of_getElem? (i := 101) rfl)
theorem w_102 {Z : State} {a0 : Array Value} (hw : ∀ d ∈ tables_1, d.before a0 Z = true) : ((Jvm.Cond.instanceMethod ({ cls := "java/lang/String", name := "equals", desc := "(Ljava/lang/Object;)Z" } : Jvm.MethodName)) : Jvm.Cond).before a0 Z = true := hw _ (List.mem_of_getElem? (i := 102) rfl)
theorem w_103 {Z : State} {a0 : Array Value} (hw : ∀ d ∈ tables_1, d.before a0 Z = true) : ((Jvm.Cond.selects "java/lang/String" ({ cls := "java/lang/String", name := "equals", desc := "(Ljava/lang/Object;)Z" } : Jvm.MethodName) ({ cls := "java/lang/String", name := "equals", desc := "(Ljava/lang/Object;)Z" } : Jvm.MethodName)) : Jvm.Cond).before a0 Z = true := hw _ (List.mem_of_getElem? (i := 103) rfl)
theorem w_104 {Z : State} {a0 : Array Value} (hw : ∀ d ∈ tables_1, d.before a0 Z = true) : ((Jvm.Cond.code ({ cls := "java/lang/String", name := "equals", desc := "(Ljava/lang/Object;)Z" } : Jvm.MethodName) jdk_42_method_66_code (3 : Nat) (Option.some Jvm.ClassFile.FieldType.boolean)) : Jvm.Cond).before a0 Z = true := hw _ (List.mem_of_getElem? (i := 104) rfl)
theorem own_big {c : Int32} (q : (65535 : Int32) < c) : (255 : Int32) < c := by
  rw [Int32.lt_iff_toInt_lt] at q ⊢
  have e1 : (65535 : Int32).toInt = 65535 := by decide
  have e2 : (255 : Int32).toInt = 255 := by decide
  omega
def own_b8 (cs : List Int32) : List Value := (cs.map fun c => c.toInt8.toInt32).map Value.int
def own_Str (Z : State) (h : Heap) (x t : Addr) (k : ClassId) (cs : List Int32) : Prop := Exa Z h x "java/lang/String" ∧ Fld Z h x "java/lang/String" "value" "[B" (.ref t) ∧ Fld Z h x "java/lang/String" "coder" "B" (.int (0 : Int32)) ∧ Arv Z h t k .byte (Int32.ofNat cs.length) (own_b8 cs) (.int 0) ∧ cs.length ≤ 4000 ∧ ∀ c ∈ cs, ¬ c < 0 ∧ ¬ (255 : Int32) < c
theorem own_up {Z : State} {h : Heap} {x t : Addr} {k : ClassId} {cs : List Int32} (S : own_Str Z h x t k cs) : ∀ c ∈ cs, ¬ c < 0 ∧ ¬ (65535 : Int32) < c := fun c hc => ⟨(S.2.2.2.2.2 c hc).1, fun q => (S.2.2.2.2.2 c hc).2 (own_big q)⟩
theorem own_w_backV {Z : State} {a0 : Array Value} (hw : ∀ d ∈ tables_1, d.before a0 Z = true) : ∀ d ∈ StrChars.Road.words, d.before a0 Z = true := fun d hd => hw d ((by decide +kernel : ∀ d ∈ StrChars.Road.words, d ∈ tables_1) d hd)
theorem own_w_eqW {Z : State} {a0 : Array Value} (hw : ∀ d ∈ tables_1, d.before a0 Z = true) : ∀ d ∈ StrChars.Road.wordsEq, d.before a0 Z = true := fun d hd => hw d ((by decide +kernel : ∀ d ∈ StrChars.Road.wordsEq, d ∈ tables_1) d hd)
theorem own_cod {Z : State} {h : Heap} {x t : Addr} {k : ClassId} {cs : List Int32} (S : own_Str Z h x t k cs) : StrChars.Road.CodA cs 0 (Int32.ofNat cs.length) (own_b8 cs) := StrChars.Road.codOf rfl (fun c hc => (S.2.2.2.2.2 c hc).2)
theorem own_seq {p : Program} {l : Launch} {e : Env} {R : Room} {s : State} {args : Array Value} {below : List Frame} {len W : Nat} {Z : State} {a0 : Array Value} {h : Heap} (hZ : Z.Warmed39 s.vm) (hw : ∀ d ∈ tables_1, d.before a0 Z = true) {x t y u : Addr} {k k' : ClassId} {cs ds : List Int32} {z : Int32} (S : own_Str Z h x t k cs) (S' : own_Str Z h y u k' ds) (C : Sta Z h "java/lang/String" "COMPACT_STRINGS" "Z" (.int z)) (hz : ¬ (z = (0 : Int32))) (hfr : 2 ≤ R.frames) (hlo : W + 28 ≤ R.locals) :
    Back l R p e below s args (⟨"java/lang/String", "equals", "(Ljava/lang/Object;)Z"⟩ : MethodName) len W (fun P a => a = #[.ref x, .ref y] ∧ P.U.heap = h ∧ P.cells + 0 ≤ R.cells ∧ P.slots + 0 ≤ R.slots) (fun P _ v B => ∃ L, (v = some (.int (if cs = ds then (1 : Int32) else (0 : Int32))) ∧ L = [] ∧ B.U.heap = h) ∧ B.locs = P.locs ++ L ∧ B.cells = P.cells + 0 ∧ B.slots = P.slots + 0) := by
  refine Back.mono (StrChars.Road.eqW hZ (own_w_eqW hw) (w_21 hw) S.1 S.2.1 S.2.2.1 S.2.2.2.1 (own_cod S) (own_up S) S.2.2.2.2.1 S'.1 S'.2.1 S'.2.2.1 S'.2.2.2.1 (own_cod S') (own_up S') S'.2.2.2.2.1 C hz hfr hlo) (fun _ _ h => h) (fun P a v B hp hq => ?_)
  obtain ⟨L, ⟨h1, h2, h3⟩, h4⟩ := hq
  refine ⟨L, ⟨?_, h2, h3⟩, h4⟩
  rcases h1 with ⟨rfl, q⟩ | ⟨rfl, q⟩
  · rw [if_pos q]
  · rw [if_neg q]
theorem own_new {p : Program} {l : Launch} {e : Env} {R : Room} {s : State} {args : Array Value} {below : List Frame} {len W : Nat} {Z : State} {a0 : Array Value} {h : Heap} (hZ : Z.Warmed39 s.vm) (hw : ∀ d ∈ tables_1, d.before a0 Z = true) {x b : Addr} {kC : ClassId} {cs : List Int32} {d v0 c0 : Value} {z N : Int32} {n n0 : Nat} (hx0 : n0 ≤ x) (hh0 : n0 ≤ h.size) (E : Exa Z h x "java/lang/String") (V : Fld Z h x "java/lang/String" "value" "[B" v0) (C : Fld Z h x "java/lang/String" "coder" "B" c0) (K : Arv Z h b kC .char N (cs.map Value.int) d) (S : Sta Z h "java/lang/String" "COMPACT_STRINGS" "Z" (.int z)) (hz : ¬ (z = (0 : Int32))) (hn : cs.length = n) (hN : N = Int32.ofNat n) (l0 : 0 < n) (l2 : n ≤ 4000) (hp : ∀ c ∈ cs, ¬ c < 0 ∧ ¬ (255 : Int32) < c) (hfr : 4 ≤ R.frames) (hlo : W + 65 ≤ R.locals) :
    Back l R p e below s args (⟨"java/lang/String", "<init>", "([C)V"⟩ : MethodName) len W (fun P a => a = #[.ref x, .ref b] ∧ P.U.heap = h ∧ P.cells + 1 ≤ R.cells ∧ P.slots + n ≤ R.slots)
      (fun P _ v B => ∃ L, (v = none ∧ Fr n0 L ∧ Keep h B.U.heap [x] ∧ ∃ (t : Addr) (kb : ClassId), h.size ≤ t ∧ own_Str Z B.U.heap x t kb cs) ∧ B.locs = P.locs ++ L ∧ B.cells = P.cells + 1 ∧ B.slots = P.slots + n) := by
  refine Back.mono (StrChars.Road.backV hZ (own_w_backV hw) (w_21 hw) hx0 hh0 E V C K S hz hn hN l0 l2 hp rfl hfr hlo) (fun _ _ h => h) (fun P a v B hp' hq => ?_)
  obtain ⟨L, ⟨h1, h2, h3, h4, h5, t, kb, h6, h7, h8, h9, h10⟩, h11⟩ := hq
  subst hn hN
  exact ⟨L, ⟨h1, h2, h3, t, kb, h7, h4, h9, h5, h10, l2, hp⟩, h11⟩

def own_EL : List (String × Nat) := [("com/example/entity_state_manager/entitystatemanager/QualifiedNameEqualsPinLaw", 19)]
theorem own_EW {Z : State} {a0 : Array Value} (hw : ∀ d ∈ tables_1, d.before a0 Z = true) : EW Z a0 own_EL := (EW.cons (w_19 hw) (by decide) EW.nil)
theorem own_wS {Z : State} {a0 : Array Value} (hw : ∀ d ∈ tables_1, d.before a0 Z = true) : ∀ a ∈ Bundle.stringAtoms, a.before a0 Z = true := fun d hd => hw d ((by decide +kernel : ∀ d ∈ Bundle.stringAtoms, d ∈ tables_1) d hd)
theorem own_sf0 {Z : State} {EL : List (String × Nat)} {vm0 : Vm} {h : Heap} : ∀ x ∈ ([] : List Addr), x < h.size ∧ Safe Z EL vm0 h x := fun _ q => nomatch q
theorem own_sfS {Z : State} {EL : List (String × Nat)} {vm0 : Vm} {h : Heap} {x : Addr} {ws : List Addr} (n1 : x < h.size) (n : Safe Z EL vm0 h x) (r : ∀ y ∈ ws, y < h.size ∧ Safe Z EL vm0 h y) : ∀ y ∈ x :: ws, y < h.size ∧ Safe Z EL vm0 h y := fun y q => by
  rcases List.mem_cons.mp q with rfl | q
  · exact ⟨n1, n⟩
  · exact r y q
theorem own_backOfSH {p : Program} {l : Launch} {e : Env} {R : Room} {s : State} {args : Array Value} {below : List Frame} {Z : State} {a0 : Array Value} {EL : List (String × Nat)} {h : Heap} {vm0 : Vm} {sf : List Addr} {y : MethodName} {bytes : ByteArray} {maxL : Nat} {ret : Option FieldType} {rm : Room} {len W : Nat} {as' : Array Value} {Q : Option Value → Heap → List Loc → Prop}
    (hM : MetFree l y (head1 [Jvm.Cond.code y bytes maxL ret] rm) (fun a U => a = as' ∧ Z.Warmed39 U.vm ∧ U.heap = h ∧ CHv Z EL U.vm h ∧ ∀ x ∈ sf, Safe Z EL U.vm h x) (fun _ _ _ _ _ => True) (fun _ U o U' => ∃ v L, o = .returned v ∧ Q v U'.heap L ∧ CHr Z EL U.vm U.heap U'.vm U'.heap ∧ ReturnedEndW U o U' L rm.cells rm.slots))
    (hZ : Z.Warmed39 vm0) (wc : (Jvm.Cond.code y bytes maxL ret).before a0 Z = true) (wz : (Jvm.Cond.initialized y.cls).before a0 Z = true) (hf : rm.frames + 1 ≤ R.frames) (hl : W + (maxL + 11) + rm.locals ≤ R.locals) (hEL : EW Z a0 EL) (H : CHv Z EL vm0 h) (hsf : ∀ x ∈ sf, x < h.size ∧ Safe Z EL vm0 h x) :
    BackS l R p e below (s.setVm vm0) args y len W (fun A a => a = as' ∧ A.U.heap = h ∧ A.cells + rm.cells ≤ R.cells ∧ A.slots + rm.slots ≤ R.slots)
      (fun A _ v B => ∃ L, Q v B.U.heap L ∧ B.locs = A.locs ++ L ∧ B.cells = A.cells + rm.cells ∧ B.slots = A.slots + rm.slots ∧ CHr Z EL vm0 h B.U.vm B.U.heap) :=
  BackS.of_freeW (bytes := bytes) (maxL := maxL) (ret := ret) (E := fun _ first o t L k n => k = rm.cells ∧ n = rm.slots ∧ (∃ v, o = .returned v ∧ Q v t.heap L) ∧ CHr Z EL first.vm first.heap t.vm t.heap) hM hf hl
    (fun m meth c A a Y hp => have hU : Z.Warmed39 A.U.vm := wtrans (s := s.setVm vm0) hZ Y.warmed
      ⟨by show (Jvm.Cond.and _ .tt).before a A.U = true; rw [Cond.before_and, mv hU wc]; rfl, mv hU wc, mv hU wz, hp.2.2.1, hp.2.2.2⟩)
    (fun m meth c A a g mk Y hp => ⟨hp.1, wtrans (s := s.setVm vm0) hZ Y.warmed, hp.2.1, (CHv.at Y hZ hEL H).1, fun x hx => (CHv.at Y hZ hEL H).safe (hsf x hx).1 (hsf x hx).2⟩) (fun _ _ _ _ _ _ _ _ _ => trivial)
    (fun _ _ _ _ ⟨v, L, h1, h2, h3, h4⟩ => ⟨L, _, _, h4, rfl, rfl, ⟨v, h1, h2⟩, h3⟩)
    (fun m meth c A a g mk v t L k n Y hp _ _ ⟨e1, e2, ⟨v', e3, e4⟩, e5⟩ => by
      cases e3; subst e1 e2
      refine ⟨L, e4, rfl, rfl, rfl, (CHv.at Y hZ hEL H).trans ?_⟩
      rw [← hp.2.1]; exact e5)


theorem own_c255 (x : Int32) : ¬ (x &&& (255 : Int32)) < 0 ∧ ¬ (255 : Int32) < (x &&& (255 : Int32)) := by
  have h : (x &&& (255 : Int32)).toBitVec.toNat ≤ 255 := by
    show ((x.toBitVec &&& 255#32)).toNat ≤ 255
    rw [BitVec.toNat_and]
    exact Nat.and_le_right
  have e : (x &&& (255 : Int32)).toInt = ((x &&& (255 : Int32)).toBitVec.toNat : Int) := by
    show (x &&& (255 : Int32)).toBitVec.toInt = _
    rw [BitVec.toInt_eq_toNat_cond, if_pos (by omega)]
  constructor <;> rw [Int32.lt_iff_toInt_lt, e]
  · show ¬ _ < (0 : Int); omega
  · show ¬ (255 : Int) < _; omega
theorem own_rem (a b : Nat) (ha : a < 2147483648) (hb : b + 1 < 2147483648) : Int32.ofNat a % Int32.ofNat (b + 1) = Int32.ofNat (a % (b + 1)) := by
  apply Int32.toInt_inj.mp
  have h1 : a % (b + 1) ≤ a := Nat.mod_le _ _
  rw [Int32.toInt_mod, own_toI ha, own_toI hb, own_toI (by omega)]
  rw [Int.tmod_eq_emod_of_nonneg (by omega)]
  omega
theorem own_nz (b : Nat) (hb : b + 1 < 2147483648) : Int32.ofNat (b + 1) ≠ 0 := fun h => by
  have q := congrArg Int32.toInt h
  rw [own_toI hb] at q
  have e : (0 : Int32).toInt = 0 := by decide
  rw [e] at q; omega


theorem own_nb (c : Int32) : nar .byte (c.toInt8.toInt32) = c.toInt8.toInt32 := by
  show (c.toInt8.toInt32).toInt8.toInt32 = c.toInt8.toInt32
  rw [Int8.toInt8_toInt32]


def own_lenA (p : Int32) : Int32 := (((p.toUInt32 >>> ((17 : Int32) &&& 31).toUInt32).toInt32) &&& (1 : Int32)) + (((p.toUInt32 >>> ((18 : Int32) &&& 31).toUInt32).toInt32) &&& (1 : Int32))
def own_firstA (p : Int32) : Int32 := p &&& (255 : Int32)
def own_secA (p : Int32) : Int32 := ((p.toUInt32 >>> ((24 : Int32) &&& 31).toUInt32).toInt32) &&& (255 : Int32)
def own_lenB (p : Int32) : Int32 := if (((p.toUInt32 >>> ((19 : Int32) &&& 31).toUInt32).toInt32) &&& (1 : Int32)) = (0 : Int32) then own_lenA p else (((p.toUInt32 >>> ((20 : Int32) &&& 31).toUInt32).toInt32) &&& (1 : Int32)) + (((p.toUInt32 >>> ((21 : Int32) &&& 31).toUInt32).toInt32) &&& (1 : Int32))
def own_firstB (p : Int32) : Int32 := if (((p.toUInt32 >>> ((16 : Int32) &&& 31).toUInt32).toInt32) &&& (1 : Int32)) = (0 : Int32) then own_firstA p else ((p.toUInt32 >>> ((8 : Int32) &&& 31).toUInt32).toInt32) &&& (255 : Int32)
def own_secB (p : Int32) : Int32 := if (((p.toUInt32 >>> ((22 : Int32) &&& 31).toUInt32).toInt32) &&& (1 : Int32)) = (0 : Int32) then own_secA p else own_secA p ^^^ (1 : Int32)
def own_samePart (p : Int32) : Int32 := if own_lenA p = own_lenB p then (if own_lenA p = (0 : Int32) then 1 else if own_firstA p = own_firstB p then (if own_lenA p = (1 : Int32) then 1 else if own_secA p = own_secB p then 1 else 0) else 0) else 0

def own_part (l c d : Int32) : List Int32 := if l = (0 : Int32) then [] else if l = (1 : Int32) then [c] else [c, d]
def own_ra (p : Int32) : List Int32 := own_part (own_lenA p) (own_firstA p) (own_secA p)
def own_oa (p : Int32) : List Int32 := own_part (own_lenB p) (own_firstB p) (own_secB p)
theorem own_bit (x : Int32) : (x &&& (1 : Int32)) = 0 ∨ (x &&& (1 : Int32)) = 1 := and_one x
theorem own_l3 (x y : Int32) : (x &&& (1 : Int32)) + (y &&& (1 : Int32)) = 0 ∨ (x &&& (1 : Int32)) + (y &&& (1 : Int32)) = 1 ∨ (x &&& (1 : Int32)) + (y &&& (1 : Int32)) = 2 := by
  rcases own_bit x with h | h <;> rcases own_bit y with g | g <;> rw [h, g]
  · exact Or.inl (by decide)
  · exact Or.inr (Or.inl (by decide))
  · exact Or.inr (Or.inl (by decide))
  · exact Or.inr (Or.inr (by decide))
theorem own_lA (p : Int32) : own_lenA p = 0 ∨ own_lenA p = 1 ∨ own_lenA p = 2 := own_l3 _ _
theorem own_lB (p : Int32) : own_lenB p = 0 ∨ own_lenB p = 1 ∨ own_lenB p = 2 := by
  unfold own_lenB
  split
  · exact own_lA p
  · exact own_l3 _ _
theorem own_small {c : Int32} (h : c.toBitVec.toNat ≤ 255) : ¬ c < 0 ∧ ¬ (255 : Int32) < c := by
  have e : c.toInt = (c.toBitVec.toNat : Int) := by
    show c.toBitVec.toInt = _
    rw [BitVec.toInt_eq_toNat_cond, if_pos (by omega)]
  constructor <;> rw [Int32.lt_iff_toInt_lt, e]
  · show ¬ _ < (0 : Int); omega
  · show ¬ (255 : Int) < _; omega
theorem own_fA (p : Int32) : ¬ own_firstA p < 0 ∧ ¬ (255 : Int32) < own_firstA p := own_c255 _
theorem own_sA (p : Int32) : ¬ own_secA p < 0 ∧ ¬ (255 : Int32) < own_secA p := own_c255 _
theorem own_fB (p : Int32) : ¬ own_firstB p < 0 ∧ ¬ (255 : Int32) < own_firstB p := by
  unfold own_firstB
  split
  · exact own_c255 _
  · exact own_c255 _
theorem own_sB (p : Int32) : ¬ own_secB p < 0 ∧ ¬ (255 : Int32) < own_secB p := by
  unfold own_secB
  split
  · exact own_c255 _
  · apply own_small
    have h : (own_secA p).toBitVec.toNat ≤ 255 := by
      show (((_ : BitVec 32) &&& 255#32)).toNat ≤ 255
      rw [BitVec.toNat_and]
      exact Nat.and_le_right
    show ((own_secA p).toBitVec ^^^ 1#32).toNat ≤ 255
    rw [BitVec.toNat_xor]
    have := Nat.xor_lt_two_pow (n := 8) (x := (own_secA p).toBitVec.toNat) (y := (1#32).toNat) (by omega) (by decide)
    omega
theorem own_i2c {c : Int32} (h : ¬ c < 0 ∧ ¬ (255 : Int32) < c) : c.toUInt32.toUInt16.toUInt32.toInt32 = c := by
  have e : c &&& (255 : Int32) = c := by
    rw [Int32.lt_iff_toInt_lt, Int32.lt_iff_toInt_lt] at h
    have e0 : (0 : Int32).toInt = 0 := by decide
    have e2 : (255 : Int32).toInt = 255 := by decide
    rw [e0, e2] at h
    have hn : c.toBitVec.toNat ≤ 255 := by
      have q : c.toInt = c.toBitVec.toInt := rfl
      rw [BitVec.toInt_eq_toNat_cond] at q
      have := c.toBitVec.isLt
      split at q <;> omega
    apply Int32.toBitVec_inj.mp
    show c.toBitVec &&& 255#32 = c.toBitVec
    apply BitVec.eq_of_toNat_eq
    rw [BitVec.toNat_and]
    show c.toBitVec.toNat &&& 255 = _
    rw [show (255 : Nat) = 2 ^ 8 - 1 from rfl, Nat.and_two_pow_sub_one_eq_mod]
    omega
  have := i2c_mask c
  rw [e] at this
  exact this
theorem own_nc {c : Int32} (h : ¬ c < 0 ∧ ¬ (255 : Int32) < c) : nar .char c = c := own_i2c h
theorem own_part_eq {l l' c d c' d' : Int32} (hl : l = 0 ∨ l = 1 ∨ l = 2) (hl' : l' = 0 ∨ l' = 1 ∨ l' = 2) : own_part l c d = own_part l' c' d' ↔ l = l' ∧ (l = 0 ∨ (c = c' ∧ (l = 1 ∨ d = d'))) := by
  unfold own_part
  rcases hl with rfl | rfl | rfl <;> rcases hl' with rfl | rfl | rfl <;> simp
theorem own_sp_iff (p : Int32) : own_samePart p = if own_ra p = own_oa p then 1 else 0 := by
  have q := own_part_eq (c := own_firstA p) (d := own_secA p) (c' := own_firstB p) (d' := own_secB p) (own_lA p) (own_lB p)
  have e : (own_ra p = own_oa p) ↔ _ := q
  unfold own_samePart
  by_cases h1 : own_lenA p = own_lenB p
  · rw [if_pos h1]
    by_cases h2 : own_lenA p = 0
    · rw [if_pos h2, if_pos (e.mpr ⟨h1, Or.inl h2⟩)]
    · rw [if_neg h2]
      by_cases h3 : own_firstA p = own_firstB p
      · rw [if_pos h3]
        by_cases h4 : own_lenA p = 1
        · rw [if_pos h4, if_pos (e.mpr ⟨h1, Or.inr ⟨h3, Or.inl h4⟩⟩)]
        · rw [if_neg h4]
          by_cases h5 : own_secA p = own_secB p
          · rw [if_pos h5, if_pos (e.mpr ⟨h1, Or.inr ⟨h3, Or.inr h5⟩⟩)]
          · rw [if_neg h5, if_neg (fun z => (e.mp z).2.elim h2 (fun y => y.2.elim h4 h5))]
      · rw [if_neg h3, if_neg (fun z => (e.mp z).2.elim h2 (fun y => h3 y.1))]
  · rw [if_neg h1, if_neg (fun z => h1 (e.mp z).1)]
theorem own_sp0 {p : Int32} (h : own_samePart p = 0) : own_ra p ≠ own_oa p := fun e => by rw [own_sp_iff, if_pos e] at h; exact absurd h (by decide)
theorem own_sp1 {p : Int32} (h : ¬ own_samePart p = 0) : own_ra p = own_oa p := Classical.byContradiction fun e => h (by rw [own_sp_iff, if_neg e])
def own_qeq (a b c d e f : List Int32) : Int32 := if (if a = b then (1 : Int32) else (0 : Int32)) = (0 : Int32) then 0 else if (if c = d then (1 : Int32) else (0 : Int32)) = (0 : Int32) then 0 else if (if e = f then (1 : Int32) else (0 : Int32)) = (0 : Int32) then 0 else 1
theorem own_qeq_eq (a b c d e f : List Int32) : own_qeq a b c d e f = if a = b ∧ c = d ∧ e = f then 1 else 0 := by
  unfold own_qeq
  by_cases h : a = b <;> by_cases g : c = d <;> by_cases k : e = f <;> simp [h, g, k]


theorem own_NSroot {Z : State} {a0 : Array Value} {O K : String} {n : Nat} (w : (Jvm.Cond.noSuperclass O).before a0 Z = true) (wk : (Jvm.Cond.instantiable K n).before a0 Z = true) (hn : O ≠ K) : NS Z O K := by
  obtain ⟨c, k, h1, h2, h3, -, -⟩ := Cond.noSuperclass_spec w
  obtain ⟨t, kt, g1, -⟩ := Cond.instantiable_spec wk
  have ne := ids_ne h1 g1 hn
  refine ⟨c, t, h1, g1, fun fuel => ?_⟩
  cases fuel with
  | zero => rfl
  | succ f => simp [Vm.isSubclassAux, ne, h2, h3]

theorem own_NSno {Z : State} {a0 : Array Value} {C S K : String} {m : Nat} (w : (Jvm.Cond.superclass C S).before a0 Z = true) (wk : (Jvm.Cond.instantiable K m).before a0 Z = true) (n : NS Z C K) (hn : C ≠ K) : ∃ c t, Z.vm.findClass C = some c ∧ Z.vm.findClass K = some t ∧ Z.vm.assignable c t = false := by
  obtain ⟨c, t, h0, g0, n3⟩ := n
  obtain ⟨p, k, kp, h1, h2, h3, h4, h5, -, h7⟩ := Cond.superclass_spec h0 w
  obtain ⟨q, k', g1, g2, g5, gf, -⟩ := Cond.instantiable_spec wk
  cases g0.symm.trans g1
  have ne := ids_ne h0 g0 hn
  refine ⟨c, t, h0, g0, ?_⟩
  show Z.vm.assignableAux (255 + 1) c t = false
  have g7 : k'.isInterface = false := by simp_all [Class.isInterface]
  simp [Vm.assignableAux, ne, h2, g2, h5, g5, g7, Vm.isSubclass, n3]

theorem ef_cenc (m : MethodId) (x0 : Int32) : entryFrame m #[(.int x0)] 1 = mkF m 0 #[.val (.int x0)] [] := by first | (simp [entryFrame, mkF, argsToLocals, Value.category]; done) | rfl
def Q_cenc (Z : State) (p : Int32) (h0 : Heap) (n0 : Nat) (vV : Option Value) (h : Heap) (LL : List Loc) : Prop := vV = some (.int (1 : Int32)) ∧ LL = [] ∧ h = h0
set_option maxRecDepth 65536 in
set_option maxHeartbeats 40000000 in
theorem rm_cenc (l : Launch) (Z : State) (a0 : Array Value) (hw : ∀ d ∈ tables_1, d.before a0 Z = true) (ws : List Jvm.Cond) (p : Int32) (h0 : Heap) (n0 : Nat) (O0 : Old Z n0 h0) (hp0 : (¬ ((255 : Int32) < p))) :
    MetFree l (⟨"java/lang/StringLatin1", "canEncode", "(C)Z"⟩ : MethodName) (head1 (Jvm.Cond.code (⟨"java/lang/StringLatin1", "canEncode", "(C)Z"⟩ : MethodName) jdk_43_method_3_code 1 (some .boolean) :: ws) ({ frames := 0, cells := 0, slots := 0, locals := 0 } : Room)) (fun aa_ U => aa_ = #[(.int p)] ∧ Z.Warmed39 U.vm ∧ U.heap = h0) (fun _ _ _ _ _ => True) (fun _ U o U' => ∃ vV LL, o = .returned vV ∧ Q_cenc Z p h0 n0 vV U'.heap LL ∧ FrameEnd U o U' LL ({ frames := 0, cells := 0, slots := 0, locals := 0 } : Room).cells ({ frames := 0, cells := 0, slots := 0, locals := 0 } : Room).slots) := by
  refine MetFree.of_bodySF (plainFor_of_name pn_0) hisR ?_
  intro pP eE sS mM args below meth cC s₁ Bd hml0 hP hK
  obtain ⟨rfl, hZ, hh⟩ := hP
  have hx := Bd.exec
  have hby := Bd.bytes
  have hml : cC.maxLocals = 1 := hml0
  have hown : sS.vm.findClass "java/lang/StringLatin1" = some mM.cls := findClass_of_methodNamed Bd.named
  have hnm := (name_of_methodNamed Bd.named Bd.method).1
  have X0 : Stand pP l eE ({ frames := 0, cells := 0, slots := 0, locals := 0 } : Room) sS mM #[(.int p)] below meth cC s₁ [] 0 0 := Stand.of_body Bd
  have e0 : s₁.heap = h0 := by rw [← hh, Bd.state]; rfl
  have N0 := Fr.nil n0
  have pre0 : ∀ tg, Steps pP.tables eE below (s₁.setTop (mkF mM 0 #[.val (.int p)] [])) tg → Steps pP.tables eE below (s₁.setTop (entryFrame mM #[(.int p)] 1)) tg := fun tg kg => castTop (ef_cenc mM p) kg
  obtain ⟨fs, hr, hrun, hended, hW, hsame⟩ := X0.leave (v := some (.int (1 : Int32))) (fun h => by rw [Bd.returns] at h; cases h)
  refine ⟨_, _, pre0 _ ?_, hrun, hended, _, _, rfl, ?_, ⟨_, rfl⟩, hW, hsame.mono (by decide) (by decide)⟩
  · refine XS.iloadN X0.here hx rfl (hb hby d_jdk_43_method_3_0) rfl ?_
    show Steps pP.tables eE below (s₁.setTop (mkF mM 1 #[.val (.int p)] [(.int p)])) _
    refine XS.sipush X0.here hx rfl (hb hby d_jdk_43_method_3_1) ?_
    show Steps pP.tables eE below (s₁.setTop (mkF mM 4 #[.val (.int p)] [(.int (255 : Int32)), (.int p)])) _
    refine XS.icmpNo X0.here hx rfl (hb hby d_jdk_43_method_3_4) rfl (flt hp0).2.2.1 ?_
    show Steps pP.tables eE below (s₁.setTop (mkF mM 7 #[.val (.int p)] [])) _
    refine XS.iconst X0.here hx rfl (hb hby d_jdk_43_method_3_7) ?_
    show Steps pP.tables eE below (s₁.setTop (mkF mM 8 #[.val (.int p)] [(.int (1 : Int32))])) _
    refine XS.goto X0.here hx rfl (pc0 := 8) (pc' := 12) rfl (hb hby d_jdk_43_method_3_8) (by decide) (by decide) ?_
    show Steps pP.tables eE below (s₁.setTop (mkF mM 12 #[.val (.int p)] [(.int (1 : Int32))])) _
    exact retN X0 hx (t := .boolean) Bd.returns (by simp) (hb hby d_jdk_43_method_3_12) hr
  · show Q_cenc Z p h0 n0 _ s₁.heap _
    rw [e0]
    exact ⟨rfl, rfl, rfl⟩
theorem ef_tob (m : MethodId) (x0 : Int32) : entryFrame m #[(.int x0)] 1 = mkF m 0 #[.val (.int x0)] [] := by first | (simp [entryFrame, mkF, argsToLocals, Value.category]; done) | rfl
def Q_tob (Z : State) (p : Int32) (h0 : Heap) (n0 : Nat) (vV : Option Value) (h : Heap) (LL : List Loc) : Prop := ∃ (b : Addr) (k : ClassId), vV = some (.ref b) ∧ Fr n0 LL ∧ Keep h0 h [] ∧ h0.size ≤ b ∧ Arv Z h b k .byte (1 : Int32) [(.int (p.toInt8.toInt32))] (.int (0 : Int32))
set_option maxRecDepth 65536 in
set_option maxHeartbeats 40000000 in
theorem rm_tob (l : Launch) (Z : State) (a0 : Array Value) (hw : ∀ d ∈ tables_1, d.before a0 Z = true) (ws : List Jvm.Cond) (p : Int32) (h0 : Heap) (n0 : Nat) (O0 : Old Z n0 h0) :
    MetFree l (⟨"java/lang/StringLatin1", "toBytes", "(C)[B"⟩ : MethodName) (head1 (Jvm.Cond.code (⟨"java/lang/StringLatin1", "toBytes", "(C)[B"⟩ : MethodName) jdk_43_method_46_code 1 (some (.array .byte)) :: ws) ({ frames := 0, cells := 1, slots := 1, locals := 0 } : Room)) (fun aa_ U => aa_ = #[(.int p)] ∧ Z.Warmed39 U.vm ∧ U.heap = h0) (fun _ _ _ _ _ => True) (fun _ U o U' => ∃ vV LL, o = .returned vV ∧ Q_tob Z p h0 n0 vV U'.heap LL ∧ FrameEnd U o U' LL ({ frames := 0, cells := 1, slots := 1, locals := 0 } : Room).cells ({ frames := 0, cells := 1, slots := 1, locals := 0 } : Room).slots) := by
  refine MetFree.of_bodySF (plainFor_of_name pn_0) hisR ?_
  intro pP eE sS mM args below meth cC s₁ Bd hml0 hP hK
  obtain ⟨rfl, hZ, hh⟩ := hP
  have hx := Bd.exec
  have hby := Bd.bytes
  have hml : cC.maxLocals = 1 := hml0
  have hown : sS.vm.findClass "java/lang/StringLatin1" = some mM.cls := findClass_of_methodNamed Bd.named
  have hnm := (name_of_methodNamed Bd.named Bd.method).1
  have X0 : Stand pP l eE ({ frames := 0, cells := 1, slots := 1, locals := 0 } : Room) sS mM #[(.int p)] below meth cC s₁ [] 0 0 := Stand.of_body Bd
  have e0 : s₁.heap = h0 := by rw [← hh, Bd.state]; rfl
  have N0 := Fr.nil n0
  have pre0 : ∀ tg, Steps pP.tables eE below (s₁.setTop (mkF mM 0 #[.val (.int p)] [])) tg → Steps pP.tables eE below (s₁.setTop (entryFrame mM #[(.int p)] 1)) tg := fun tg kg => castTop (ef_tob mM p) kg
  have K0 : Keep h0 h0 [] := Keep.refl _ _
  obtain ⟨T1, h1, k1, X1, e1, E1, A1, st1⟩ := newP X0 hx hZ (aty := .byte) (w_22 hw) e0 (g := (mkF mM 1 #[.val (.int p)] [(.int (1 : Int32))])) rfl (hb hby d_jdk_43_method_46_1) rfl (by decide) (cap := 1) (by decide) (by decide) (by decide) (by decide)
  obtain ⟨b1, g1⟩ : ∃ z, z = h0.size := ⟨_, rfl⟩
  rw [← g1] at A1 st1
  have g_b1 : n0 ≤ b1 := Nat.le_trans (own_osz O0) (Nat.le_of_eq g1.symm)
  have sz_b1 : h0.size ≤ b1 := Nat.le_trans K0.1 (Nat.le_of_eq g1.symm)
  have K2 : Keep h0 h1 [] := K0.ext E1
  have V1 : Arv Z h1 b1 k1 .byte (1 : Int32) [(.int (0 : Int32))] (.int (0 : Int32)) := (Arv.new A1 (by decide)).pad (pad_rep [] (.int (0 : Int32)) 1)
  obtain ⟨cl3, Ar3, qk3, S3, Nn3, Hh3, G3⟩ := id V1
  have hin3 : ¬ ((0 : Int32) < 0 ∨ cl3.slots.size ≤ ((0 : Int32)).toNatClampNeg) := inb_of S3 ⟨by decide, by decide⟩
  obtain ⟨T3, h3, X3, e3, W3, st3⟩ := stB X1 hx hZ e1 Ar3 (j := (0 : Int32)) hin3 (g := (mkF mM 7 #[.val (.int p)] [(.int (p.toInt8.toInt32)), (.int (0 : Int32)), (.ref b1), (.ref b1)])) rfl rfl (hb hby d_jdk_43_method_46_7)
  rw [own_nb p] at W3
  have K4 : Keep h0 h3 [] := K2.wr W3 (Or.inr sz_b1)
  have V3 : Arv Z h3 b1 k1 .byte (1 : Int32) [(.int (p.toInt8.toInt32))] (.int (0 : Int32)) := Arv.set Ar3 qk3 S3 Nn3 Hh3 G3 (own_nb p ▸ fits_nar_byte _) W3 0 rfl (Nat.le_of_ble_eq_true rfl)
  have N3 := Fr.snoc X3 N0 g_b1
  obtain ⟨fs, hr, hrun, hended, hW, hsame⟩ := X3.leave (v := some (.ref b1)) (fun h => by rw [Bd.returns] at h; cases h)
  refine ⟨_, _, pre0 _ ?_, hrun, hended, _, _, rfl, ?_, ⟨_, rfl⟩, hW, hsame.mono (by decide) (by decide)⟩
  · refine XS.iconst X0.here hx rfl (hb hby d_jdk_43_method_46_0) ?_
    show Steps pP.tables eE below (s₁.setTop (mkF mM 1 #[.val (.int p)] [(.int (1 : Int32))])) _
    refine st1 _ ?_
    show Steps pP.tables eE below (T1.setTop (mkF mM 3 #[.val (.int p)] [(.ref b1)])) _
    refine XS.dup X1.here hx rfl (hb hby d_jdk_43_method_46_3) rfl rfl ?_
    show Steps pP.tables eE below (T1.setTop (mkF mM 4 #[.val (.int p)] [(.ref b1), (.ref b1)])) _
    refine XS.iconst X1.here hx rfl (hb hby d_jdk_43_method_46_4) ?_
    show Steps pP.tables eE below (T1.setTop (mkF mM 5 #[.val (.int p)] [(.int (0 : Int32)), (.ref b1), (.ref b1)])) _
    refine XS.iloadN X1.here hx rfl (hb hby d_jdk_43_method_46_5) rfl ?_
    show Steps pP.tables eE below (T1.setTop (mkF mM 6 #[.val (.int p)] [(.int p), (.int (0 : Int32)), (.ref b1), (.ref b1)])) _
    refine XS.i2b X1.here hx rfl (hb hby d_jdk_43_method_46_6) rfl ?_
    show Steps pP.tables eE below (T1.setTop (mkF mM 7 #[.val (.int p)] [(.int (p.toInt8.toInt32)), (.int (0 : Int32)), (.ref b1), (.ref b1)])) _
    refine st3 _ ?_
    show Steps pP.tables eE below (T3.setTop (mkF mM 8 #[.val (.int p)] [(.ref b1)])) _
    jvm_step X3.here [X3.here.top, hx, (hb hby d_jdk_43_method_46_8), X3.method', Bd.returns, Value.isRef, FieldType.isReference]
    first | (intro acts; rw [hr _ acts rfl rfl rfl]) | rw [hr _ _ rfl rfl rfl]
    exact Steps.refl _
  · show Q_tob Z p h0 n0 _ T3.heap _
    rw [e3]
    exact ⟨b1, k1, rfl, N3, K4, sz_b1, V3⟩
theorem ef_sbb (m : MethodId) (x0 : Addr) (x1 : Addr) (x2 : Int32) : entryFrame m #[(.ref x0), (.ref x1), (.int x2)] 3 = mkF m 0 #[.val (.ref x0), .val (.ref x1), .val (.int x2)] [] := by first | (simp [entryFrame, mkF, argsToLocals, Value.category]; done) | rfl
def Q_sbb (Z : State) (x : Addr) (b : Addr) (u1 : Value) (u2 : Value) (h0 : Heap) (n0 : Nat) (vV : Option Value) (h : Heap) (LL : List Loc) : Prop := vV = none ∧ Fr n0 LL ∧ Keep h0 h [x] ∧ Exa Z h x "java/lang/String" ∧ Fld Z h x "java/lang/String" "value" "[B" (.ref b) ∧ Fld Z h x "java/lang/String" "coder" "B" (.int (0 : Int32))
set_option maxRecDepth 65536 in
set_option maxHeartbeats 40000000 in
theorem rm_sbb (l : Launch) (Z : State) (a0 : Array Value) (hw : ∀ d ∈ tables_1, d.before a0 Z = true) (ws : List Jvm.Cond) (x : Addr) (b : Addr) (u1 : Value) (u2 : Value) (h0 : Heap) (n0 : Nat) (O0 : Old Z n0 h0) (E_x : Exa Z h0 x "java/lang/String") (F_x_value : Fld Z h0 x "java/lang/String" "value" "[B" u1) (F_x_coder : Fld Z h0 x "java/lang/String" "coder" "B" u2) (g_x : n0 ≤ x) :
    MetFree l (⟨"java/lang/String", "<init>", "([BB)V"⟩ : MethodName) (head1 (Jvm.Cond.code (⟨"java/lang/String", "<init>", "([BB)V"⟩ : MethodName) jdk_42_method_151_code 3 none :: ws) ({ frames := 1, cells := 0, slots := 0, locals := 12 } : Room)) (fun aa_ U => aa_ = #[(.ref x), (.ref b), (.int (0 : Int32))] ∧ Z.Warmed39 U.vm ∧ U.heap = h0) (fun _ _ _ _ _ => True) (fun _ U o U' => ∃ vV LL, o = .returned vV ∧ Q_sbb Z x b u1 u2 h0 n0 vV U'.heap LL ∧ FrameEnd U o U' LL ({ frames := 1, cells := 0, slots := 0, locals := 12 } : Room).cells ({ frames := 1, cells := 0, slots := 0, locals := 12 } : Room).slots) := by
  refine MetFree.of_bodySF (plainFor_of_name pn_1) hisR ?_
  intro pP eE sS mM args below meth cC s₁ Bd hml0 hP hK
  obtain ⟨rfl, hZ, hh⟩ := hP
  have hx := Bd.exec
  have hby := Bd.bytes
  have hml : cC.maxLocals = 3 := hml0
  have hown : sS.vm.findClass "java/lang/String" = some mM.cls := findClass_of_methodNamed Bd.named
  have hnm := (name_of_methodNamed Bd.named Bd.method).1
  have X0 : Stand pP l eE ({ frames := 1, cells := 0, slots := 0, locals := 12 } : Room) sS mM #[(.ref x), (.ref b), (.int (0 : Int32))] below meth cC s₁ [] 0 0 := Stand.of_body Bd
  have e0 : s₁.heap = h0 := by rw [← hh, Bd.state]; rfl
  have N0 := Fr.nil n0
  have pre0 : ∀ tg, Steps pP.tables eE below (s₁.setTop (mkF mM 0 #[.val (.ref x), .val (.ref b), .val (.int (0 : Int32))] [])) tg → Steps pP.tables eE below (s₁.setTop (entryFrame mM #[(.ref x), (.ref b), (.int (0 : Int32))] 3)) tg := fun tg kg => castTop (ef_sbb mM x b (0 : Int32)) kg
  have K0 : Keep h0 h0 [x] := Keep.refl _ _
  obtain ⟨T1, X1, e1, st1⟩ := initO X0 hx hZ hown (w_56 hw) (w_31 hw) (w_32 hw) e0 (g := (mkF mM 1 #[.val (.ref x), .val (.ref b), .val (.int (0 : Int32))] [(.ref x)])) rfl (by rw [hml]; rfl) rfl (hb hby d_jdk_42_method_151_1) (by decide) (W := 0) (by show 2 * 0 + _ ≤ _; exact Nat.le_of_eq rfl) (by decide)
  obtain ⟨T2, h2, X2, e2, W2, st2⟩ := putF X1 hx hZ hown (host := "") (Or.inl (w_69 hw)) Via.refl e1 F_x_value E_x (Or.inr ⟨(w_23 hw), rfl, hnm⟩) (w_21 hw) (ty := (.array .byte)) (by decide) rfl rfl (g := (mkF mM 6 #[.val (.ref x), .val (.ref b), .val (.int (0 : Int32))] [(.ref b), (.ref x)])) rfl rfl (hb hby d_jdk_42_method_151_6)
  have K3 : Keep h0 h2 [x] := K0.wr W2 (Or.inl (List.mem_of_getElem? (i := 0) rfl))
  have Fw2 : Fld Z h2 x "java/lang/String" "value" "[B" (.ref b) := F_x_value.same W2
  have N2 := Fr.snoc X2 N0 g_x
  have f4 := (F_x_coder.other W2 (Or.inr (slot_ne (Or.inr (w_24 hw)) (Or.inr (w_23 hw)) (by decide) (t := .byte) (t' := (.array .byte)) (by decide) (by decide))))
  have f5 := (E_x.wr W2)
  obtain ⟨T6, h6, X6, e6, W6, st6⟩ := putFN X2 hx hZ hown (w_68 hw) Via.refl e2 f4 f5 (Or.inr ⟨(w_24 hw), rfl, hnm⟩) (w_21 hw) (ty := .byte) (v' := (.int (nar .byte (0 : Int32)))) (by decide) rfl (fits_nar_byte _) (g := (mkF mM 11 #[.val (.ref x), .val (.ref b), .val (.int (0 : Int32))] [(.int (0 : Int32)), (.ref x)])) rfl rfl (hb hby d_jdk_42_method_151_11)
  have K7 : Keep h0 h6 [x] := K3.wr W6 (Or.inl (List.mem_of_getElem? (i := 0) rfl))
  have Fw6 : Fld Z h6 x "java/lang/String" "coder" "B" (.int (0 : Int32)) := f4.same W6
  have N6 := Fr.snoc X6 N2 g_x
  have f9 := (f5.wr W6)
  have f10 := (Fw2.other W6 (Or.inr (slot_ne (Or.inr (w_23 hw)) (Or.inr (w_24 hw)) (by decide) (t := (.array .byte)) (t' := .byte) (by decide) (by decide))))
  obtain ⟨fs, hr, hrun, hended, hW, hsame⟩ := X6.leave (v := none) (fun _ => rfl)
  refine ⟨_, _, pre0 _ ?_, hrun, hended, _, _, rfl, ?_, ⟨_, rfl⟩, hW, hsame.mono (by decide) (by decide)⟩
  · refine XS.aloadN X0.here hx rfl (hb hby d_jdk_42_method_151_0) rfl rfl ?_
    show Steps pP.tables eE below (s₁.setTop (mkF mM 1 #[.val (.ref x), .val (.ref b), .val (.int (0 : Int32))] [(.ref x)])) _
    refine st1 _ ?_
    show Steps pP.tables eE below (T1.setTop (mkF mM 4 #[.val (.ref x), .val (.ref b), .val (.int (0 : Int32))] [])) _
    refine XS.aloadN X1.here hx rfl (hb hby d_jdk_42_method_151_4) rfl rfl ?_
    show Steps pP.tables eE below (T1.setTop (mkF mM 5 #[.val (.ref x), .val (.ref b), .val (.int (0 : Int32))] [(.ref x)])) _
    refine XS.aloadN X1.here hx rfl (hb hby d_jdk_42_method_151_5) rfl rfl ?_
    show Steps pP.tables eE below (T1.setTop (mkF mM 6 #[.val (.ref x), .val (.ref b), .val (.int (0 : Int32))] [(.ref b), (.ref x)])) _
    refine st2 _ ?_
    show Steps pP.tables eE below (T2.setTop (mkF mM 9 #[.val (.ref x), .val (.ref b), .val (.int (0 : Int32))] [])) _
    refine XS.aloadN X2.here hx rfl (hb hby d_jdk_42_method_151_9) rfl rfl ?_
    show Steps pP.tables eE below (T2.setTop (mkF mM 10 #[.val (.ref x), .val (.ref b), .val (.int (0 : Int32))] [(.ref x)])) _
    refine XS.iloadN X2.here hx rfl (hb hby d_jdk_42_method_151_10) rfl ?_
    show Steps pP.tables eE below (T2.setTop (mkF mM 11 #[.val (.ref x), .val (.ref b), .val (.int (0 : Int32))] [(.int (0 : Int32)), (.ref x)])) _
    refine st6 _ ?_
    show Steps pP.tables eE below (T6.setTop (mkF mM 14 #[.val (.ref x), .val (.ref b), .val (.int (0 : Int32))] [])) _
    exact X6.returnOut hx Bd.returns (hb hby d_jdk_42_method_151_14) hr
  · show Q_sbb Z x b u1 u2 h0 n0 _ T6.heap _
    rw [e6]
    exact ⟨rfl, N6, K7, f9, f10, Fw6⟩
theorem ef_vof (m : MethodId) (x0 : Int32) : entryFrame m #[(.int x0)] 1 = mkF m 0 #[.val (.int x0)] [] := by first | (simp [entryFrame, mkF, argsToLocals, Value.category]; done) | rfl
def Q_vof (Z : State) (p : Int32) (zc : Int32) (h0 : Heap) (n0 : Nat) (vV : Option Value) (h : Heap) (LL : List Loc) : Prop := ∃ (b : Addr) (t : Addr) (k : ClassId), vV = some (.ref b) ∧ Fr n0 LL ∧ Keep h0 h [] ∧ h0.size ≤ b ∧ h0.size ≤ t ∧ own_Str Z h b t k [p]
set_option maxRecDepth 65536 in
set_option maxHeartbeats 40000000 in
theorem rm_vof (l : Launch) (Z : State) (a0 : Array Value) (hw : ∀ d ∈ tables_1, d.before a0 Z = true) (ws : List Jvm.Cond) (p : Int32) (zc : Int32) (h0 : Heap) (n0 : Nat) (O0 : Old Z n0 h0) (hp0 : (¬ p < 0 ∧ ¬ (255 : Int32) < p)) (S_COMPACT_STRINGS : Sta Z Z.heap "java/lang/String" "COMPACT_STRINGS" "Z" (.int zc)) (hp2 : (¬ (zc = (0 : Int32)))) :
    MetFree l (⟨"java/lang/String", "valueOf", "(C)Ljava/lang/String;"⟩ : MethodName) (head1 (Jvm.Cond.code (⟨"java/lang/String", "valueOf", "(C)Ljava/lang/String;"⟩ : MethodName) jdk_42_method_139_code 1 (some (.object "java/lang/String")) :: ws) ({ frames := 2, cells := 2, slots := 5, locals := 27 } : Room)) (fun aa_ U => aa_ = #[(.int p)] ∧ Z.Warmed39 U.vm ∧ U.heap = h0) (fun _ _ _ _ _ => True) (fun _ U o U' => ∃ vV LL, o = .returned vV ∧ Q_vof Z p zc h0 n0 vV U'.heap LL ∧ FrameEnd U o U' LL ({ frames := 2, cells := 2, slots := 5, locals := 27 } : Room).cells ({ frames := 2, cells := 2, slots := 5, locals := 27 } : Room).slots) := by
  refine MetFree.of_bodySF (plainFor_of_name pn_1) hisR ?_
  intro pP eE sS mM args below meth cC s₁ Bd hml0 hP hK
  obtain ⟨rfl, hZ, hh⟩ := hP
  have hx := Bd.exec
  have hby := Bd.bytes
  have hml : cC.maxLocals = 1 := hml0
  have hown : sS.vm.findClass "java/lang/String" = some mM.cls := findClass_of_methodNamed Bd.named
  have hnm := (name_of_methodNamed Bd.named Bd.method).1
  have X0 : Stand pP l eE ({ frames := 2, cells := 2, slots := 5, locals := 27 } : Room) sS mM #[(.int p)] below meth cC s₁ [] 0 0 := Stand.of_body Bd
  have e0 : s₁.heap = h0 := by rw [← hh, Bd.state]; rfl
  have N0 := Fr.nil n0
  have pre0 : ∀ tg, Steps pP.tables eE below (s₁.setTop (mkF mM 0 #[.val (.int p)] [])) tg → Steps pP.tables eE below (s₁.setTop (entryFrame mM #[(.int p)] 1)) tg := fun tg kg => castTop (ef_vof mM p) kg
  have K0 : Keep h0 h0 [] := Keep.refl _ _
  obtain ⟨T1, X1, e1, st1⟩ := getS2 X0 hx hZ hown (host := "") (Or.inl (w_57 hw)) Via.refl e0 (Sta.ext (O0).2 S_COMPACT_STRINGS) (g := (mkF mM 0 #[.val (.int p)] [])) rfl (hb hby d_jdk_42_method_139_0)
  obtain ⟨_, _, ⟨T2, L2, k2, n2⟩, -, X2, ⟨Lc2, hQ2, l2, y2, z2⟩, st2⟩ := Jvm.LawKit.callS X1 hx (y := (⟨"java/lang/StringLatin1", "canEncode", "(C)Z"⟩ : MethodName)) hown (mvT hZ (w_73 hw)) (mvT hZ (w_74 hw)) (mvT hZ (w_75 hw)) (mvT hZ (w_76 hw)) (by decide) (backOf (W := 0) (rm_cenc l Z a0 hw [] p h0 n0 O0 (hp0.2 : ¬ ((255 : Int32) < p))) hZ (w_76 hw) (w_75 hw) (by decide) (by decide)) (g := (mkF mM 7 #[.val (.int p)] [(.int p)])) rfl (by rw [hml]; rfl) (argsL := [(.int p)]) (rest := []) (lenOf pd_0 rfl) rfl (by show 2 * 0 + _ ≤ _; exact Nat.le_of_eq rfl) (hb hby d_jdk_42_method_139_7) (fun _ _ => ⟨rfl, e1, (by decide : 0 + 0 ≤ _), (by decide : 0 + 0 ≤ _)⟩)
  dsimp only [Pt.U, Pt.locs, Pt.cells, Pt.slots] at X2 l2 y2 z2 st2 hQ2
  subst l2 y2 z2
  obtain ⟨rfl, rfl, Kq2⟩ := hQ2
  try rw [List.append_nil] at X2
  obtain ⟨T3, h3, X3, e3, E3, A3, D3, -, st3⟩ := newO X2 hx hZ hown (w_77 hw) (w_21 hw) (w_20 hw) Kq2 (g := (mkF mM 13 #[.val (.int p)] [])) rfl (hb hby d_jdk_42_method_139_13) (by decide) (by decide)
  obtain ⟨b3, g3⟩ : ∃ z, z = h0.size := ⟨_, rfl⟩
  rw [← g3] at A3 D3 st3
  have g_b3 : n0 ≤ b3 := Nat.le_trans (own_osz O0) (Nat.le_of_eq g3.symm)
  have sz_b3 : h0.size ≤ b3 := Nat.le_trans K0.1 (Nat.le_of_eq g3.symm)
  have K4 : Keep h0 h3 [] := K0.ext E3
  have F_b3_value : Fld Z h3 b3 "java/lang/String" "value" "[B" .null := D3 (Or.inr (w_23 hw)) (ty := (.array .byte)) (by decide)
  have F_b3_coder : Fld Z h3 b3 "java/lang/String" "coder" "B" (.int (0 : Int32)) := D3 (Or.inr (w_24 hw)) (ty := .byte) (by decide)
  have f5 := (O0.ext E3)
  obtain ⟨_, _, ⟨T6, L6, k6, n6⟩, -, X6, ⟨Lc6, hQ6, l6, y6, z6⟩, st6⟩ := Jvm.LawKit.callS X3 hx (y := (⟨"java/lang/StringLatin1", "toBytes", "(C)[B"⟩ : MethodName)) hown (mvT hZ (w_78 hw)) (mvT hZ (w_79 hw)) (mvT hZ (w_75 hw)) (mvT hZ (w_80 hw)) (by decide) (backOf (W := 2) (rm_tob l Z a0 hw [] p h3 n0 f5 ) hZ (w_80 hw) (w_75 hw) (by decide) (by decide)) (g := (mkF mM 18 #[.val (.int p)] [(.int p), (.ref b3), (.ref b3)])) rfl (by rw [hml]; rfl) (argsL := [(.int p)]) (rest := [(.ref b3), (.ref b3)]) (lenOf pd_1 rfl) rfl (by show 2 * 0 + _ ≤ _; exact Nat.le_of_eq rfl) (hb hby d_jdk_42_method_139_18) (fun _ _ => ⟨rfl, e3, (by decide : 1 + 1 ≤ _), (by decide : 4 + 1 ≤ _)⟩)
  dsimp only [Pt.U, Pt.locs, Pt.cells, Pt.slots] at X6 l6 y6 z6 st6 hQ6
  subst l6 y6 z6
  obtain ⟨b_6, k_6, rfl, Nq6, Kq6, q6_0, q6_1⟩ := hQ6
  have N6 := Fr.app N0 Nq6
  have g_b_6 : n0 ≤ b_6 := Nat.le_trans (own_osz f5) q6_0
  have sz_b_6 : h0.size ≤ b_6 := Nat.le_trans K4.1 q6_0
  have K7 : Keep h0 T6.heap [] := K4.trans Kq6 all0
  have f8 := (A3.keep Kq6)
  have f9 := (F_b3_value.keep Kq6 nin0)
  have f10 := (F_b3_coder.keep Kq6 nin0)
  have f11 := (f5.keep Kq6 all0)
  obtain ⟨_, _, ⟨T12, L12, k12, n12⟩, -, X12, ⟨Lc12, hQ12, l12, y12, z12⟩, st12⟩ := X6.specialBack hx (y := (⟨"java/lang/String", "<init>", "([BB)V"⟩ : MethodName)) rfl hown (mvT hZ (w_81 hw)) (mvT hZ (w_82 hw)) (mvT hZ (w_83 hw)) (by decide) (backOf (W := 1) (rm_sbb l Z a0 hw [] b3 b_6 .null (.int (0 : Int32)) T6.heap n0 f11 f8 f9 f10 g_b3) hZ (w_83 hw) (w_20 hw) (by decide) (by decide)) (g := (mkF mM 22 #[.val (.int p)] [(.int (0 : Int32)), (.ref b_6), (.ref b3), (.ref b3)])) rfl (by rw [hml]; rfl) (Steps.refl _) (a := b3) (argsL := [(.ref b_6), (.int (0 : Int32))]) (rest := [(.ref b3)]) (lenOf pd_2 rfl) rfl (by show 2 * 0 + _ ≤ _; exact Nat.le_of_eq rfl) (hb hby d_jdk_42_method_139_22) (fun _ _ => ⟨rfl, rfl, (by decide : 2 + 0 ≤ _), (by decide : 5 + 0 ≤ _)⟩)
  dsimp only [Pt.U, Pt.locs, Pt.cells, Pt.slots] at X12 l12 y12 z12 st12 hQ12
  subst l12 y12 z12
  obtain ⟨rfl, Nq12, Kq12, q12_0, q12_1, q12_2⟩ := hQ12
  have N12 := Fr.app N6 Nq12
  have K13 : Keep h0 T12.heap [] := K7.trans Kq12 (allS (Or.inr sz_b3) all0)
  have f15 := (q6_1.keep Kq12 (ninS (Ne.symm (Nat.ne_of_lt (Nat.lt_of_lt_of_le (A3).lt q6_0))) nin0))
  obtain ⟨fs, hr, hrun, hended, hW, hsame⟩ := X12.leave (v := some (.ref b3)) (fun h => by rw [Bd.returns] at h; cases h)
  refine ⟨_, _, pre0 _ ?_, hrun, hended, _, _, rfl, ?_, ⟨_, rfl⟩, hW, hsame.mono (by decide) (by decide)⟩
  · refine st1 _ ?_
    show Steps pP.tables eE below (T1.setTop (mkF mM 3 #[.val (.int p)] [(.int zc)])) _
    refine XS.ifNo X1.here hx rfl (hb hby d_jdk_42_method_139_3) rfl ((if0 _ _).trans (feq hp2).1) ?_
    show Steps pP.tables eE below (T1.setTop (mkF mM 6 #[.val (.int p)] [])) _
    refine XS.iloadN X1.here hx rfl (hb hby d_jdk_42_method_139_6) rfl ?_
    show Steps pP.tables eE below (T1.setTop (mkF mM 7 #[.val (.int p)] [(.int p)])) _
    refine st2 _ ?_
    show Steps pP.tables eE below (T2.setTop (mkF mM 10 #[.val (.int p)] [(.int (1 : Int32))])) _
    refine XS.ifNo X2.here hx rfl (hb hby d_jdk_42_method_139_10) rfl ((if0 _ _).trans (feq (by decide : ¬ ((1 : Int32) = (0 : Int32)))).1) ?_
    show Steps pP.tables eE below (T2.setTop (mkF mM 13 #[.val (.int p)] [])) _
    refine st3 _ ?_
    show Steps pP.tables eE below (T3.setTop (mkF mM 16 #[.val (.int p)] [(.ref b3)])) _
    refine XS.dup X3.here hx rfl (hb hby d_jdk_42_method_139_16) rfl rfl ?_
    show Steps pP.tables eE below (T3.setTop (mkF mM 17 #[.val (.int p)] [(.ref b3), (.ref b3)])) _
    refine XS.iloadN X3.here hx rfl (hb hby d_jdk_42_method_139_17) rfl ?_
    show Steps pP.tables eE below (T3.setTop (mkF mM 18 #[.val (.int p)] [(.int p), (.ref b3), (.ref b3)])) _
    refine st6 _ ?_
    show Steps pP.tables eE below (T6.setTop (mkF mM 21 #[.val (.int p)] [(.ref b_6), (.ref b3), (.ref b3)])) _
    refine XS.iconst X6.here hx rfl (hb hby d_jdk_42_method_139_21) ?_
    show Steps pP.tables eE below (T6.setTop (mkF mM 22 #[.val (.int p)] [(.int (0 : Int32)), (.ref b_6), (.ref b3), (.ref b3)])) _
    refine st12.trans ?_
    show Steps pP.tables eE below (T12.setTop (mkF mM 25 #[.val (.int p)] [(.ref b3)])) _
    jvm_step X12.here [X12.here.top, hx, (hb hby d_jdk_42_method_139_25), X12.method', Bd.returns, Value.isRef, FieldType.isReference]
    first | (intro acts; rw [hr _ acts rfl rfl rfl]) | rw [hr _ _ rfl rfl rfl]
    exact Steps.refl _
  · show Q_vof Z p zc h0 n0 _ T12.heap _
    exact ⟨b3, b_6, k_6, rfl, N12, K13, sz_b3, sz_b_6, (⟨q12_0, q12_1, q12_2, f15, (⟨Nat.le_of_ble_eq_true rfl, fun c hc => by rw [List.mem_singleton.mp hc]; exact hp0⟩ : ([p] : List Int32).length ≤ 4000 ∧ ∀ c ∈ ([p] : List Int32), ¬ c < 0 ∧ ¬ (255 : Int32) < c)⟩ : own_Str Z T12.heap b3 b_6 k_6 [p])⟩
theorem ef_lenA (m : MethodId) (x0 : Int32) : entryFrame m #[(.int x0)] 1 = mkF m 0 #[.val (.int x0)] [] := by first | (simp [entryFrame, mkF, argsToLocals, Value.category]; done) | rfl
def Q_lenA (Z : State) (p : Int32) (h0 : Heap) (n0 : Nat) (vV : Option Value) (h : Heap) (LL : List Loc) : Prop := vV = some (.int (own_lenA p)) ∧ LL = [] ∧ h = h0
set_option maxRecDepth 65536 in
set_option maxHeartbeats 40000000 in
theorem rm_lenA (l : Launch) (Z : State) (a0 : Array Value) (hw : ∀ d ∈ tables_1, d.before a0 Z = true) (ws : List Jvm.Cond) (p : Int32) (h0 : Heap) (n0 : Nat) (O0 : Old Z n0 h0) :
    MetFree l (⟨"com/example/entity_state_manager/entitystatemanager/QualifiedNameEqualsPinLaw", "lenA", "(I)I"⟩ : MethodName) (head1 (Jvm.Cond.code (⟨"com/example/entity_state_manager/entitystatemanager/QualifiedNameEqualsPinLaw", "lenA", "(I)I"⟩ : MethodName) method_2_code 1 (some .int) :: ws) ({ frames := 0, cells := 0, slots := 0, locals := 0 } : Room)) (fun aa_ U => aa_ = #[(.int p)] ∧ Z.Warmed39 U.vm ∧ U.heap = h0) (fun _ _ _ _ _ => True) (fun _ U o U' => ∃ vV LL, o = .returned vV ∧ Q_lenA Z p h0 n0 vV U'.heap LL ∧ FrameEnd U o U' LL ({ frames := 0, cells := 0, slots := 0, locals := 0 } : Room).cells ({ frames := 0, cells := 0, slots := 0, locals := 0 } : Room).slots) := by
  refine MetFree.of_bodySF (plainFor_of_name pn_2) hisR ?_
  intro pP eE sS mM args below meth cC s₁ Bd hml0 hP hK
  obtain ⟨rfl, hZ, hh⟩ := hP
  have hx := Bd.exec
  have hby := Bd.bytes
  have hml : cC.maxLocals = 1 := hml0
  have hown : sS.vm.findClass "com/example/entity_state_manager/entitystatemanager/QualifiedNameEqualsPinLaw" = some mM.cls := findClass_of_methodNamed Bd.named
  have hnm := (name_of_methodNamed Bd.named Bd.method).1
  have X0 : Stand pP l eE ({ frames := 0, cells := 0, slots := 0, locals := 0 } : Room) sS mM #[(.int p)] below meth cC s₁ [] 0 0 := Stand.of_body Bd
  have e0 : s₁.heap = h0 := by rw [← hh, Bd.state]; rfl
  have N0 := Fr.nil n0
  have pre0 : ∀ tg, Steps pP.tables eE below (s₁.setTop (mkF mM 0 #[.val (.int p)] [])) tg → Steps pP.tables eE below (s₁.setTop (entryFrame mM #[(.int p)] 1)) tg := fun tg kg => castTop (ef_lenA mM p) kg
  obtain ⟨fs, hr, hrun, hended, hW, hsame⟩ := X0.leave (v := some (.int ((((p.toUInt32 >>> ((17 : Int32) &&& 31).toUInt32).toInt32) &&& (1 : Int32)) + (((p.toUInt32 >>> ((18 : Int32) &&& 31).toUInt32).toInt32) &&& (1 : Int32))))) (fun h => by rw [Bd.returns] at h; cases h)
  refine ⟨_, _, pre0 _ ?_, hrun, hended, _, _, rfl, ?_, ⟨_, rfl⟩, hW, hsame.mono (by decide) (by decide)⟩
  · refine XS.iloadN X0.here hx rfl (hb hby d_method_2_0) rfl ?_
    show Steps pP.tables eE below (s₁.setTop (mkF mM 1 #[.val (.int p)] [(.int p)])) _
    refine XS.bipush X0.here hx rfl (hb hby d_method_2_1) ?_
    show Steps pP.tables eE below (s₁.setTop (mkF mM 3 #[.val (.int p)] [(.int (17 : Int32)), (.int p)])) _
    refine XS.iushr X0.here hx rfl (hb hby d_method_2_3) rfl ?_
    show Steps pP.tables eE below (s₁.setTop (mkF mM 4 #[.val (.int p)] [(.int ((p.toUInt32 >>> ((17 : Int32) &&& 31).toUInt32).toInt32))])) _
    refine XS.iconst X0.here hx rfl (hb hby d_method_2_4) ?_
    show Steps pP.tables eE below (s₁.setTop (mkF mM 5 #[.val (.int p)] [(.int (1 : Int32)), (.int ((p.toUInt32 >>> ((17 : Int32) &&& 31).toUInt32).toInt32))])) _
    refine XS.iand X0.here hx rfl (hb hby d_method_2_5) rfl ?_
    show Steps pP.tables eE below (s₁.setTop (mkF mM 6 #[.val (.int p)] [(.int (((p.toUInt32 >>> ((17 : Int32) &&& 31).toUInt32).toInt32) &&& (1 : Int32)))])) _
    refine XS.iloadN X0.here hx rfl (hb hby d_method_2_6) rfl ?_
    show Steps pP.tables eE below (s₁.setTop (mkF mM 7 #[.val (.int p)] [(.int p), (.int (((p.toUInt32 >>> ((17 : Int32) &&& 31).toUInt32).toInt32) &&& (1 : Int32)))])) _
    refine XS.bipush X0.here hx rfl (hb hby d_method_2_7) ?_
    show Steps pP.tables eE below (s₁.setTop (mkF mM 9 #[.val (.int p)] [(.int (18 : Int32)), (.int p), (.int (((p.toUInt32 >>> ((17 : Int32) &&& 31).toUInt32).toInt32) &&& (1 : Int32)))])) _
    refine XS.iushr X0.here hx rfl (hb hby d_method_2_9) rfl ?_
    show Steps pP.tables eE below (s₁.setTop (mkF mM 10 #[.val (.int p)] [(.int ((p.toUInt32 >>> ((18 : Int32) &&& 31).toUInt32).toInt32)), (.int (((p.toUInt32 >>> ((17 : Int32) &&& 31).toUInt32).toInt32) &&& (1 : Int32)))])) _
    refine XS.iconst X0.here hx rfl (hb hby d_method_2_10) ?_
    show Steps pP.tables eE below (s₁.setTop (mkF mM 11 #[.val (.int p)] [(.int (1 : Int32)), (.int ((p.toUInt32 >>> ((18 : Int32) &&& 31).toUInt32).toInt32)), (.int (((p.toUInt32 >>> ((17 : Int32) &&& 31).toUInt32).toInt32) &&& (1 : Int32)))])) _
    refine XS.iand X0.here hx rfl (hb hby d_method_2_11) rfl ?_
    show Steps pP.tables eE below (s₁.setTop (mkF mM 12 #[.val (.int p)] [(.int (((p.toUInt32 >>> ((18 : Int32) &&& 31).toUInt32).toInt32) &&& (1 : Int32))), (.int (((p.toUInt32 >>> ((17 : Int32) &&& 31).toUInt32).toInt32) &&& (1 : Int32)))])) _
    refine XS.iadd X0.here hx rfl (hb hby d_method_2_12) rfl ?_
    show Steps pP.tables eE below (s₁.setTop (mkF mM 13 #[.val (.int p)] [(.int ((((p.toUInt32 >>> ((17 : Int32) &&& 31).toUInt32).toInt32) &&& (1 : Int32)) + (((p.toUInt32 >>> ((18 : Int32) &&& 31).toUInt32).toInt32) &&& (1 : Int32))))])) _
    exact retI X0 hx Bd.returns (hb hby d_method_2_13) hr
  · show Q_lenA Z p h0 n0 _ s₁.heap _
    rw [e0]
    exact ⟨rfl, rfl, rfl⟩
theorem ef_firstA (m : MethodId) (x0 : Int32) : entryFrame m #[(.int x0)] 1 = mkF m 0 #[.val (.int x0)] [] := by first | (simp [entryFrame, mkF, argsToLocals, Value.category]; done) | rfl
def Q_firstA (Z : State) (p : Int32) (h0 : Heap) (n0 : Nat) (vV : Option Value) (h : Heap) (LL : List Loc) : Prop := vV = some (.int (own_firstA p)) ∧ LL = [] ∧ h = h0
set_option maxRecDepth 65536 in
set_option maxHeartbeats 40000000 in
theorem rm_firstA (l : Launch) (Z : State) (a0 : Array Value) (hw : ∀ d ∈ tables_1, d.before a0 Z = true) (ws : List Jvm.Cond) (p : Int32) (h0 : Heap) (n0 : Nat) (O0 : Old Z n0 h0) :
    MetFree l (⟨"com/example/entity_state_manager/entitystatemanager/QualifiedNameEqualsPinLaw", "firstA", "(I)I"⟩ : MethodName) (head1 (Jvm.Cond.code (⟨"com/example/entity_state_manager/entitystatemanager/QualifiedNameEqualsPinLaw", "firstA", "(I)I"⟩ : MethodName) method_4_code 1 (some .int) :: ws) ({ frames := 0, cells := 0, slots := 0, locals := 0 } : Room)) (fun aa_ U => aa_ = #[(.int p)] ∧ Z.Warmed39 U.vm ∧ U.heap = h0) (fun _ _ _ _ _ => True) (fun _ U o U' => ∃ vV LL, o = .returned vV ∧ Q_firstA Z p h0 n0 vV U'.heap LL ∧ FrameEnd U o U' LL ({ frames := 0, cells := 0, slots := 0, locals := 0 } : Room).cells ({ frames := 0, cells := 0, slots := 0, locals := 0 } : Room).slots) := by
  refine MetFree.of_bodySF (plainFor_of_name pn_2) hisR ?_
  intro pP eE sS mM args below meth cC s₁ Bd hml0 hP hK
  obtain ⟨rfl, hZ, hh⟩ := hP
  have hx := Bd.exec
  have hby := Bd.bytes
  have hml : cC.maxLocals = 1 := hml0
  have hown : sS.vm.findClass "com/example/entity_state_manager/entitystatemanager/QualifiedNameEqualsPinLaw" = some mM.cls := findClass_of_methodNamed Bd.named
  have hnm := (name_of_methodNamed Bd.named Bd.method).1
  have X0 : Stand pP l eE ({ frames := 0, cells := 0, slots := 0, locals := 0 } : Room) sS mM #[(.int p)] below meth cC s₁ [] 0 0 := Stand.of_body Bd
  have e0 : s₁.heap = h0 := by rw [← hh, Bd.state]; rfl
  have N0 := Fr.nil n0
  have pre0 : ∀ tg, Steps pP.tables eE below (s₁.setTop (mkF mM 0 #[.val (.int p)] [])) tg → Steps pP.tables eE below (s₁.setTop (entryFrame mM #[(.int p)] 1)) tg := fun tg kg => castTop (ef_firstA mM p) kg
  obtain ⟨fs, hr, hrun, hended, hW, hsame⟩ := X0.leave (v := some (.int (p &&& (255 : Int32)))) (fun h => by rw [Bd.returns] at h; cases h)
  refine ⟨_, _, pre0 _ ?_, hrun, hended, _, _, rfl, ?_, ⟨_, rfl⟩, hW, hsame.mono (by decide) (by decide)⟩
  · refine XS.iloadN X0.here hx rfl (hb hby d_method_4_0) rfl ?_
    show Steps pP.tables eE below (s₁.setTop (mkF mM 1 #[.val (.int p)] [(.int p)])) _
    refine XS.sipush X0.here hx rfl (hb hby d_method_4_1) ?_
    show Steps pP.tables eE below (s₁.setTop (mkF mM 4 #[.val (.int p)] [(.int (255 : Int32)), (.int p)])) _
    refine XS.iand X0.here hx rfl (hb hby d_method_4_4) rfl ?_
    show Steps pP.tables eE below (s₁.setTop (mkF mM 5 #[.val (.int p)] [(.int (p &&& (255 : Int32)))])) _
    exact retI X0 hx Bd.returns (hb hby d_method_4_5) hr
  · show Q_firstA Z p h0 n0 _ s₁.heap _
    rw [e0]
    exact ⟨rfl, rfl, rfl⟩
theorem ef_secA (m : MethodId) (x0 : Int32) : entryFrame m #[(.int x0)] 1 = mkF m 0 #[.val (.int x0)] [] := by first | (simp [entryFrame, mkF, argsToLocals, Value.category]; done) | rfl
def Q_secA (Z : State) (p : Int32) (h0 : Heap) (n0 : Nat) (vV : Option Value) (h : Heap) (LL : List Loc) : Prop := vV = some (.int (own_secA p)) ∧ LL = [] ∧ h = h0
set_option maxRecDepth 65536 in
set_option maxHeartbeats 40000000 in
theorem rm_secA (l : Launch) (Z : State) (a0 : Array Value) (hw : ∀ d ∈ tables_1, d.before a0 Z = true) (ws : List Jvm.Cond) (p : Int32) (h0 : Heap) (n0 : Nat) (O0 : Old Z n0 h0) :
    MetFree l (⟨"com/example/entity_state_manager/entitystatemanager/QualifiedNameEqualsPinLaw", "secA", "(I)I"⟩ : MethodName) (head1 (Jvm.Cond.code (⟨"com/example/entity_state_manager/entitystatemanager/QualifiedNameEqualsPinLaw", "secA", "(I)I"⟩ : MethodName) method_6_code 1 (some .int) :: ws) ({ frames := 0, cells := 0, slots := 0, locals := 0 } : Room)) (fun aa_ U => aa_ = #[(.int p)] ∧ Z.Warmed39 U.vm ∧ U.heap = h0) (fun _ _ _ _ _ => True) (fun _ U o U' => ∃ vV LL, o = .returned vV ∧ Q_secA Z p h0 n0 vV U'.heap LL ∧ FrameEnd U o U' LL ({ frames := 0, cells := 0, slots := 0, locals := 0 } : Room).cells ({ frames := 0, cells := 0, slots := 0, locals := 0 } : Room).slots) := by
  refine MetFree.of_bodySF (plainFor_of_name pn_2) hisR ?_
  intro pP eE sS mM args below meth cC s₁ Bd hml0 hP hK
  obtain ⟨rfl, hZ, hh⟩ := hP
  have hx := Bd.exec
  have hby := Bd.bytes
  have hml : cC.maxLocals = 1 := hml0
  have hown : sS.vm.findClass "com/example/entity_state_manager/entitystatemanager/QualifiedNameEqualsPinLaw" = some mM.cls := findClass_of_methodNamed Bd.named
  have hnm := (name_of_methodNamed Bd.named Bd.method).1
  have X0 : Stand pP l eE ({ frames := 0, cells := 0, slots := 0, locals := 0 } : Room) sS mM #[(.int p)] below meth cC s₁ [] 0 0 := Stand.of_body Bd
  have e0 : s₁.heap = h0 := by rw [← hh, Bd.state]; rfl
  have N0 := Fr.nil n0
  have pre0 : ∀ tg, Steps pP.tables eE below (s₁.setTop (mkF mM 0 #[.val (.int p)] [])) tg → Steps pP.tables eE below (s₁.setTop (entryFrame mM #[(.int p)] 1)) tg := fun tg kg => castTop (ef_secA mM p) kg
  obtain ⟨fs, hr, hrun, hended, hW, hsame⟩ := X0.leave (v := some (.int (((p.toUInt32 >>> ((24 : Int32) &&& 31).toUInt32).toInt32) &&& (255 : Int32)))) (fun h => by rw [Bd.returns] at h; cases h)
  refine ⟨_, _, pre0 _ ?_, hrun, hended, _, _, rfl, ?_, ⟨_, rfl⟩, hW, hsame.mono (by decide) (by decide)⟩
  · refine XS.iloadN X0.here hx rfl (hb hby d_method_6_0) rfl ?_
    show Steps pP.tables eE below (s₁.setTop (mkF mM 1 #[.val (.int p)] [(.int p)])) _
    refine XS.bipush X0.here hx rfl (hb hby d_method_6_1) ?_
    show Steps pP.tables eE below (s₁.setTop (mkF mM 3 #[.val (.int p)] [(.int (24 : Int32)), (.int p)])) _
    refine XS.iushr X0.here hx rfl (hb hby d_method_6_3) rfl ?_
    show Steps pP.tables eE below (s₁.setTop (mkF mM 4 #[.val (.int p)] [(.int ((p.toUInt32 >>> ((24 : Int32) &&& 31).toUInt32).toInt32))])) _
    refine XS.sipush X0.here hx rfl (hb hby d_method_6_4) ?_
    show Steps pP.tables eE below (s₁.setTop (mkF mM 7 #[.val (.int p)] [(.int (255 : Int32)), (.int ((p.toUInt32 >>> ((24 : Int32) &&& 31).toUInt32).toInt32))])) _
    refine XS.iand X0.here hx rfl (hb hby d_method_6_7) rfl ?_
    show Steps pP.tables eE below (s₁.setTop (mkF mM 8 #[.val (.int p)] [(.int (((p.toUInt32 >>> ((24 : Int32) &&& 31).toUInt32).toInt32) &&& (255 : Int32)))])) _
    exact retI X0 hx Bd.returns (hb hby d_method_6_8) hr
  · show Q_secA Z p h0 n0 _ s₁.heap _
    rw [e0]
    exact ⟨rfl, rfl, rfl⟩
theorem ef_lenB (m : MethodId) (x0 : Int32) : entryFrame m #[(.int x0)] 1 = mkF m 0 #[.val (.int x0)] [] := by first | (simp [entryFrame, mkF, argsToLocals, Value.category]; done) | rfl
def Q_lenB (Z : State) (p : Int32) (h0 : Heap) (n0 : Nat) (vV : Option Value) (h : Heap) (LL : List Loc) : Prop := vV = some (.int (own_lenB p)) ∧ LL = [] ∧ h = h0
set_option maxRecDepth 65536 in
set_option maxHeartbeats 40000000 in
theorem rm_lenB (l : Launch) (Z : State) (a0 : Array Value) (hw : ∀ d ∈ tables_1, d.before a0 Z = true) (ws : List Jvm.Cond) (p : Int32) (h0 : Heap) (n0 : Nat) (O0 : Old Z n0 h0) :
    MetFree l (⟨"com/example/entity_state_manager/entitystatemanager/QualifiedNameEqualsPinLaw", "lenB", "(I)I"⟩ : MethodName) (head1 (Jvm.Cond.code (⟨"com/example/entity_state_manager/entitystatemanager/QualifiedNameEqualsPinLaw", "lenB", "(I)I"⟩ : MethodName) method_3_code 1 (some .int) :: ws) ({ frames := 1, cells := 0, slots := 0, locals := 12 } : Room)) (fun aa_ U => aa_ = #[(.int p)] ∧ Z.Warmed39 U.vm ∧ U.heap = h0) (fun _ _ _ _ _ => True) (fun _ U o U' => ∃ vV LL, o = .returned vV ∧ Q_lenB Z p h0 n0 vV U'.heap LL ∧ FrameEnd U o U' LL ({ frames := 1, cells := 0, slots := 0, locals := 12 } : Room).cells ({ frames := 1, cells := 0, slots := 0, locals := 12 } : Room).slots) := by
  refine MetFree.of_bodySF (plainFor_of_name pn_2) hisR ?_
  intro pP eE sS mM args below meth cC s₁ Bd hml0 hP hK
  obtain ⟨rfl, hZ, hh⟩ := hP
  have hx := Bd.exec
  have hby := Bd.bytes
  have hml : cC.maxLocals = 1 := hml0
  have hown : sS.vm.findClass "com/example/entity_state_manager/entitystatemanager/QualifiedNameEqualsPinLaw" = some mM.cls := findClass_of_methodNamed Bd.named
  have hnm := (name_of_methodNamed Bd.named Bd.method).1
  have X0 : Stand pP l eE ({ frames := 1, cells := 0, slots := 0, locals := 12 } : Room) sS mM #[(.int p)] below meth cC s₁ [] 0 0 := Stand.of_body Bd
  have e0 : s₁.heap = h0 := by rw [← hh, Bd.state]; rfl
  have N0 := Fr.nil n0
  have pre0 : ∀ tg, Steps pP.tables eE below (s₁.setTop (mkF mM 0 #[.val (.int p)] [])) tg → Steps pP.tables eE below (s₁.setTop (entryFrame mM #[(.int p)] 1)) tg := fun tg kg => castTop (ef_lenB mM p) kg
  have pre2 : ∀ tg, Steps pP.tables eE below (s₁.setTop (mkF mM 6 #[.val (.int p)] [(.int (((p.toUInt32 >>> ((19 : Int32) &&& 31).toUInt32).toInt32) &&& (1 : Int32)))])) tg → Steps pP.tables eE below (s₁.setTop (entryFrame mM #[(.int p)] 1)) tg := fun tg kg => pre0 tg (by
    refine XS.iloadN X0.here hx rfl (hb hby d_method_3_0) rfl ?_
    show Steps pP.tables eE below (s₁.setTop (mkF mM 1 #[.val (.int p)] [(.int p)])) _
    refine XS.bipush X0.here hx rfl (hb hby d_method_3_1) ?_
    show Steps pP.tables eE below (s₁.setTop (mkF mM 3 #[.val (.int p)] [(.int (19 : Int32)), (.int p)])) _
    refine XS.iushr X0.here hx rfl (hb hby d_method_3_3) rfl ?_
    show Steps pP.tables eE below (s₁.setTop (mkF mM 4 #[.val (.int p)] [(.int ((p.toUInt32 >>> ((19 : Int32) &&& 31).toUInt32).toInt32))])) _
    refine XS.iconst X0.here hx rfl (hb hby d_method_3_4) ?_
    show Steps pP.tables eE below (s₁.setTop (mkF mM 5 #[.val (.int p)] [(.int (1 : Int32)), (.int ((p.toUInt32 >>> ((19 : Int32) &&& 31).toUInt32).toInt32))])) _
    refine XS.iand X0.here hx rfl (hb hby d_method_3_5) rfl ?_
    exact kg)
  by_cases hc1 : (((p.toUInt32 >>> ((19 : Int32) &&& 31).toUInt32).toInt32) &&& (1 : Int32)) = (0 : Int32)
  · obtain ⟨_, _, ⟨T3, L3, k3, n3⟩, -, X3, ⟨Lc3, hQ3, l3, y3, z3⟩, st3⟩ := Jvm.LawKit.callS X0 hx (y := (⟨"com/example/entity_state_manager/entitystatemanager/QualifiedNameEqualsPinLaw", "lenA", "(I)I"⟩ : MethodName)) hown (mvT hZ (w_7 hw)) (mvT hZ (w_8 hw)) (mvT hZ (w_5 hw)) (mvT hZ (w_9 hw)) (by decide) (backOf (W := 0) (rm_lenA l Z a0 hw [] p h0 n0 O0 ) hZ (w_9 hw) (w_5 hw) (by decide) (by decide)) (g := (mkF mM 10 #[.val (.int p)] [(.int p)])) rfl (by rw [hml]; rfl) (argsL := [(.int p)]) (rest := []) (lenOf pd_3 rfl) rfl (by show 2 * 0 + _ ≤ _; exact Nat.le_of_eq rfl) (hb hby d_method_3_10) (fun _ _ => ⟨rfl, e0, (by decide : 0 + 0 ≤ _), (by decide : 0 + 0 ≤ _)⟩)
    dsimp only [Pt.U, Pt.locs, Pt.cells, Pt.slots] at X3 l3 y3 z3 st3 hQ3
    subst l3 y3 z3
    obtain ⟨rfl, rfl, Kq3⟩ := hQ3
    try rw [List.append_nil] at X3
    obtain ⟨fs, hr, hrun, hended, hW, hsame⟩ := X3.leave (v := some (.int (own_lenA p))) (fun h => by rw [Bd.returns] at h; cases h)
    refine ⟨_, _, pre2 _ ?_, hrun, hended, _, _, rfl, ?_, ⟨_, rfl⟩, hW, hsame.mono (by decide) (by decide)⟩
    · refine XS.ifNo X0.here hx rfl (hb hby d_method_3_6) rfl ((if0 _ _).trans (teq hc1).2) ?_
      show Steps pP.tables eE below (s₁.setTop (mkF mM 9 #[.val (.int p)] [])) _
      refine XS.iloadN X0.here hx rfl (hb hby d_method_3_9) rfl ?_
      show Steps pP.tables eE below (s₁.setTop (mkF mM 10 #[.val (.int p)] [(.int p)])) _
      refine st3 _ ?_
      show Steps pP.tables eE below (T3.setTop (mkF mM 13 #[.val (.int p)] [(.int (own_lenA p))])) _
      refine XS.goto X3.here hx rfl (pc0 := 13) (pc' := 29) rfl (hb hby d_method_3_13) (by decide) (by decide) ?_
      show Steps pP.tables eE below (T3.setTop (mkF mM 29 #[.val (.int p)] [(.int (own_lenA p))])) _
      exact retI X3 hx Bd.returns (hb hby d_method_3_29) hr
    · show Q_lenB Z p h0 n0 _ T3.heap _
      rw [Kq3]
      exact ⟨(by rw [own_lenB, if_pos hc1]), rfl, rfl⟩
  · obtain ⟨fs, hr, hrun, hended, hW, hsame⟩ := X0.leave (v := some (.int ((((p.toUInt32 >>> ((20 : Int32) &&& 31).toUInt32).toInt32) &&& (1 : Int32)) + (((p.toUInt32 >>> ((21 : Int32) &&& 31).toUInt32).toInt32) &&& (1 : Int32))))) (fun h => by rw [Bd.returns] at h; cases h)
    refine ⟨_, _, pre2 _ ?_, hrun, hended, _, _, rfl, ?_, ⟨_, rfl⟩, hW, hsame.mono (by decide) (by decide)⟩
    · refine XS.ifYes X0.here hx rfl (pc0 := 6) (pc' := 16) rfl (hb hby d_method_3_6) rfl ((if0 _ _).trans (feq hc1).2) (by decide) (by decide) ?_
      show Steps pP.tables eE below (s₁.setTop (mkF mM 16 #[.val (.int p)] [])) _
      refine XS.iloadN X0.here hx rfl (hb hby d_method_3_16) rfl ?_
      show Steps pP.tables eE below (s₁.setTop (mkF mM 17 #[.val (.int p)] [(.int p)])) _
      refine XS.bipush X0.here hx rfl (hb hby d_method_3_17) ?_
      show Steps pP.tables eE below (s₁.setTop (mkF mM 19 #[.val (.int p)] [(.int (20 : Int32)), (.int p)])) _
      refine XS.iushr X0.here hx rfl (hb hby d_method_3_19) rfl ?_
      show Steps pP.tables eE below (s₁.setTop (mkF mM 20 #[.val (.int p)] [(.int ((p.toUInt32 >>> ((20 : Int32) &&& 31).toUInt32).toInt32))])) _
      refine XS.iconst X0.here hx rfl (hb hby d_method_3_20) ?_
      show Steps pP.tables eE below (s₁.setTop (mkF mM 21 #[.val (.int p)] [(.int (1 : Int32)), (.int ((p.toUInt32 >>> ((20 : Int32) &&& 31).toUInt32).toInt32))])) _
      refine XS.iand X0.here hx rfl (hb hby d_method_3_21) rfl ?_
      show Steps pP.tables eE below (s₁.setTop (mkF mM 22 #[.val (.int p)] [(.int (((p.toUInt32 >>> ((20 : Int32) &&& 31).toUInt32).toInt32) &&& (1 : Int32)))])) _
      refine XS.iloadN X0.here hx rfl (hb hby d_method_3_22) rfl ?_
      show Steps pP.tables eE below (s₁.setTop (mkF mM 23 #[.val (.int p)] [(.int p), (.int (((p.toUInt32 >>> ((20 : Int32) &&& 31).toUInt32).toInt32) &&& (1 : Int32)))])) _
      refine XS.bipush X0.here hx rfl (hb hby d_method_3_23) ?_
      show Steps pP.tables eE below (s₁.setTop (mkF mM 25 #[.val (.int p)] [(.int (21 : Int32)), (.int p), (.int (((p.toUInt32 >>> ((20 : Int32) &&& 31).toUInt32).toInt32) &&& (1 : Int32)))])) _
      refine XS.iushr X0.here hx rfl (hb hby d_method_3_25) rfl ?_
      show Steps pP.tables eE below (s₁.setTop (mkF mM 26 #[.val (.int p)] [(.int ((p.toUInt32 >>> ((21 : Int32) &&& 31).toUInt32).toInt32)), (.int (((p.toUInt32 >>> ((20 : Int32) &&& 31).toUInt32).toInt32) &&& (1 : Int32)))])) _
      refine XS.iconst X0.here hx rfl (hb hby d_method_3_26) ?_
      show Steps pP.tables eE below (s₁.setTop (mkF mM 27 #[.val (.int p)] [(.int (1 : Int32)), (.int ((p.toUInt32 >>> ((21 : Int32) &&& 31).toUInt32).toInt32)), (.int (((p.toUInt32 >>> ((20 : Int32) &&& 31).toUInt32).toInt32) &&& (1 : Int32)))])) _
      refine XS.iand X0.here hx rfl (hb hby d_method_3_27) rfl ?_
      show Steps pP.tables eE below (s₁.setTop (mkF mM 28 #[.val (.int p)] [(.int (((p.toUInt32 >>> ((21 : Int32) &&& 31).toUInt32).toInt32) &&& (1 : Int32))), (.int (((p.toUInt32 >>> ((20 : Int32) &&& 31).toUInt32).toInt32) &&& (1 : Int32)))])) _
      refine XS.iadd X0.here hx rfl (hb hby d_method_3_28) rfl ?_
      show Steps pP.tables eE below (s₁.setTop (mkF mM 29 #[.val (.int p)] [(.int ((((p.toUInt32 >>> ((20 : Int32) &&& 31).toUInt32).toInt32) &&& (1 : Int32)) + (((p.toUInt32 >>> ((21 : Int32) &&& 31).toUInt32).toInt32) &&& (1 : Int32))))])) _
      exact retI X0 hx Bd.returns (hb hby d_method_3_29) hr
    · show Q_lenB Z p h0 n0 _ s₁.heap _
      rw [e0]
      exact ⟨(by rw [own_lenB, if_neg hc1]), rfl, rfl⟩
theorem ef_firstB (m : MethodId) (x0 : Int32) : entryFrame m #[(.int x0)] 1 = mkF m 0 #[.val (.int x0)] [] := by first | (simp [entryFrame, mkF, argsToLocals, Value.category]; done) | rfl
def Q_firstB (Z : State) (p : Int32) (h0 : Heap) (n0 : Nat) (vV : Option Value) (h : Heap) (LL : List Loc) : Prop := vV = some (.int (own_firstB p)) ∧ LL = [] ∧ h = h0
set_option maxRecDepth 65536 in
set_option maxHeartbeats 40000000 in
theorem rm_firstB (l : Launch) (Z : State) (a0 : Array Value) (hw : ∀ d ∈ tables_1, d.before a0 Z = true) (ws : List Jvm.Cond) (p : Int32) (h0 : Heap) (n0 : Nat) (O0 : Old Z n0 h0) :
    MetFree l (⟨"com/example/entity_state_manager/entitystatemanager/QualifiedNameEqualsPinLaw", "firstB", "(I)I"⟩ : MethodName) (head1 (Jvm.Cond.code (⟨"com/example/entity_state_manager/entitystatemanager/QualifiedNameEqualsPinLaw", "firstB", "(I)I"⟩ : MethodName) method_5_code 1 (some .int) :: ws) ({ frames := 1, cells := 0, slots := 0, locals := 12 } : Room)) (fun aa_ U => aa_ = #[(.int p)] ∧ Z.Warmed39 U.vm ∧ U.heap = h0) (fun _ _ _ _ _ => True) (fun _ U o U' => ∃ vV LL, o = .returned vV ∧ Q_firstB Z p h0 n0 vV U'.heap LL ∧ FrameEnd U o U' LL ({ frames := 1, cells := 0, slots := 0, locals := 12 } : Room).cells ({ frames := 1, cells := 0, slots := 0, locals := 12 } : Room).slots) := by
  refine MetFree.of_bodySF (plainFor_of_name pn_2) hisR ?_
  intro pP eE sS mM args below meth cC s₁ Bd hml0 hP hK
  obtain ⟨rfl, hZ, hh⟩ := hP
  have hx := Bd.exec
  have hby := Bd.bytes
  have hml : cC.maxLocals = 1 := hml0
  have hown : sS.vm.findClass "com/example/entity_state_manager/entitystatemanager/QualifiedNameEqualsPinLaw" = some mM.cls := findClass_of_methodNamed Bd.named
  have hnm := (name_of_methodNamed Bd.named Bd.method).1
  have X0 : Stand pP l eE ({ frames := 1, cells := 0, slots := 0, locals := 12 } : Room) sS mM #[(.int p)] below meth cC s₁ [] 0 0 := Stand.of_body Bd
  have e0 : s₁.heap = h0 := by rw [← hh, Bd.state]; rfl
  have N0 := Fr.nil n0
  have pre0 : ∀ tg, Steps pP.tables eE below (s₁.setTop (mkF mM 0 #[.val (.int p)] [])) tg → Steps pP.tables eE below (s₁.setTop (entryFrame mM #[(.int p)] 1)) tg := fun tg kg => castTop (ef_firstB mM p) kg
  have pre2 : ∀ tg, Steps pP.tables eE below (s₁.setTop (mkF mM 6 #[.val (.int p)] [(.int (((p.toUInt32 >>> ((16 : Int32) &&& 31).toUInt32).toInt32) &&& (1 : Int32)))])) tg → Steps pP.tables eE below (s₁.setTop (entryFrame mM #[(.int p)] 1)) tg := fun tg kg => pre0 tg (by
    refine XS.iloadN X0.here hx rfl (hb hby d_method_5_0) rfl ?_
    show Steps pP.tables eE below (s₁.setTop (mkF mM 1 #[.val (.int p)] [(.int p)])) _
    refine XS.bipush X0.here hx rfl (hb hby d_method_5_1) ?_
    show Steps pP.tables eE below (s₁.setTop (mkF mM 3 #[.val (.int p)] [(.int (16 : Int32)), (.int p)])) _
    refine XS.iushr X0.here hx rfl (hb hby d_method_5_3) rfl ?_
    show Steps pP.tables eE below (s₁.setTop (mkF mM 4 #[.val (.int p)] [(.int ((p.toUInt32 >>> ((16 : Int32) &&& 31).toUInt32).toInt32))])) _
    refine XS.iconst X0.here hx rfl (hb hby d_method_5_4) ?_
    show Steps pP.tables eE below (s₁.setTop (mkF mM 5 #[.val (.int p)] [(.int (1 : Int32)), (.int ((p.toUInt32 >>> ((16 : Int32) &&& 31).toUInt32).toInt32))])) _
    refine XS.iand X0.here hx rfl (hb hby d_method_5_5) rfl ?_
    exact kg)
  by_cases hc1 : (((p.toUInt32 >>> ((16 : Int32) &&& 31).toUInt32).toInt32) &&& (1 : Int32)) = (0 : Int32)
  · obtain ⟨_, _, ⟨T3, L3, k3, n3⟩, -, X3, ⟨Lc3, hQ3, l3, y3, z3⟩, st3⟩ := Jvm.LawKit.callS X0 hx (y := (⟨"com/example/entity_state_manager/entitystatemanager/QualifiedNameEqualsPinLaw", "firstA", "(I)I"⟩ : MethodName)) hown (mvT hZ (w_10 hw)) (mvT hZ (w_11 hw)) (mvT hZ (w_5 hw)) (mvT hZ (w_12 hw)) (by decide) (backOf (W := 0) (rm_firstA l Z a0 hw [] p h0 n0 O0 ) hZ (w_12 hw) (w_5 hw) (by decide) (by decide)) (g := (mkF mM 10 #[.val (.int p)] [(.int p)])) rfl (by rw [hml]; rfl) (argsL := [(.int p)]) (rest := []) (lenOf pd_3 rfl) rfl (by show 2 * 0 + _ ≤ _; exact Nat.le_of_eq rfl) (hb hby d_method_5_10) (fun _ _ => ⟨rfl, e0, (by decide : 0 + 0 ≤ _), (by decide : 0 + 0 ≤ _)⟩)
    dsimp only [Pt.U, Pt.locs, Pt.cells, Pt.slots] at X3 l3 y3 z3 st3 hQ3
    subst l3 y3 z3
    obtain ⟨rfl, rfl, Kq3⟩ := hQ3
    try rw [List.append_nil] at X3
    obtain ⟨fs, hr, hrun, hended, hW, hsame⟩ := X3.leave (v := some (.int (own_firstA p))) (fun h => by rw [Bd.returns] at h; cases h)
    refine ⟨_, _, pre2 _ ?_, hrun, hended, _, _, rfl, ?_, ⟨_, rfl⟩, hW, hsame.mono (by decide) (by decide)⟩
    · refine XS.ifNo X0.here hx rfl (hb hby d_method_5_6) rfl ((if0 _ _).trans (teq hc1).2) ?_
      show Steps pP.tables eE below (s₁.setTop (mkF mM 9 #[.val (.int p)] [])) _
      refine XS.iloadN X0.here hx rfl (hb hby d_method_5_9) rfl ?_
      show Steps pP.tables eE below (s₁.setTop (mkF mM 10 #[.val (.int p)] [(.int p)])) _
      refine st3 _ ?_
      show Steps pP.tables eE below (T3.setTop (mkF mM 13 #[.val (.int p)] [(.int (own_firstA p))])) _
      refine XS.goto X3.here hx rfl (pc0 := 13) (pc' := 24) rfl (hb hby d_method_5_13) (by decide) (by decide) ?_
      show Steps pP.tables eE below (T3.setTop (mkF mM 24 #[.val (.int p)] [(.int (own_firstA p))])) _
      exact retI X3 hx Bd.returns (hb hby d_method_5_24) hr
    · show Q_firstB Z p h0 n0 _ T3.heap _
      rw [Kq3]
      exact ⟨(by rw [own_firstB, if_pos hc1]), rfl, rfl⟩
  · obtain ⟨fs, hr, hrun, hended, hW, hsame⟩ := X0.leave (v := some (.int (((p.toUInt32 >>> ((8 : Int32) &&& 31).toUInt32).toInt32) &&& (255 : Int32)))) (fun h => by rw [Bd.returns] at h; cases h)
    refine ⟨_, _, pre2 _ ?_, hrun, hended, _, _, rfl, ?_, ⟨_, rfl⟩, hW, hsame.mono (by decide) (by decide)⟩
    · refine XS.ifYes X0.here hx rfl (pc0 := 6) (pc' := 16) rfl (hb hby d_method_5_6) rfl ((if0 _ _).trans (feq hc1).2) (by decide) (by decide) ?_
      show Steps pP.tables eE below (s₁.setTop (mkF mM 16 #[.val (.int p)] [])) _
      refine XS.iloadN X0.here hx rfl (hb hby d_method_5_16) rfl ?_
      show Steps pP.tables eE below (s₁.setTop (mkF mM 17 #[.val (.int p)] [(.int p)])) _
      refine XS.bipush X0.here hx rfl (hb hby d_method_5_17) ?_
      show Steps pP.tables eE below (s₁.setTop (mkF mM 19 #[.val (.int p)] [(.int (8 : Int32)), (.int p)])) _
      refine XS.iushr X0.here hx rfl (hb hby d_method_5_19) rfl ?_
      show Steps pP.tables eE below (s₁.setTop (mkF mM 20 #[.val (.int p)] [(.int ((p.toUInt32 >>> ((8 : Int32) &&& 31).toUInt32).toInt32))])) _
      refine XS.sipush X0.here hx rfl (hb hby d_method_5_20) ?_
      show Steps pP.tables eE below (s₁.setTop (mkF mM 23 #[.val (.int p)] [(.int (255 : Int32)), (.int ((p.toUInt32 >>> ((8 : Int32) &&& 31).toUInt32).toInt32))])) _
      refine XS.iand X0.here hx rfl (hb hby d_method_5_23) rfl ?_
      show Steps pP.tables eE below (s₁.setTop (mkF mM 24 #[.val (.int p)] [(.int (((p.toUInt32 >>> ((8 : Int32) &&& 31).toUInt32).toInt32) &&& (255 : Int32)))])) _
      exact retI X0 hx Bd.returns (hb hby d_method_5_24) hr
    · show Q_firstB Z p h0 n0 _ s₁.heap _
      rw [e0]
      exact ⟨(by rw [own_firstB, if_neg hc1]), rfl, rfl⟩
theorem ef_secB (m : MethodId) (x0 : Int32) : entryFrame m #[(.int x0)] 1 = mkF m 0 #[.val (.int x0)] [] := by first | (simp [entryFrame, mkF, argsToLocals, Value.category]; done) | rfl
def Q_secB (Z : State) (p : Int32) (h0 : Heap) (n0 : Nat) (vV : Option Value) (h : Heap) (LL : List Loc) : Prop := vV = some (.int (own_secB p)) ∧ LL = [] ∧ h = h0
set_option maxRecDepth 65536 in
set_option maxHeartbeats 40000000 in
theorem rm_secB (l : Launch) (Z : State) (a0 : Array Value) (hw : ∀ d ∈ tables_1, d.before a0 Z = true) (ws : List Jvm.Cond) (p : Int32) (h0 : Heap) (n0 : Nat) (O0 : Old Z n0 h0) :
    MetFree l (⟨"com/example/entity_state_manager/entitystatemanager/QualifiedNameEqualsPinLaw", "secB", "(I)I"⟩ : MethodName) (head1 (Jvm.Cond.code (⟨"com/example/entity_state_manager/entitystatemanager/QualifiedNameEqualsPinLaw", "secB", "(I)I"⟩ : MethodName) method_7_code 1 (some .int) :: ws) ({ frames := 1, cells := 0, slots := 0, locals := 12 } : Room)) (fun aa_ U => aa_ = #[(.int p)] ∧ Z.Warmed39 U.vm ∧ U.heap = h0) (fun _ _ _ _ _ => True) (fun _ U o U' => ∃ vV LL, o = .returned vV ∧ Q_secB Z p h0 n0 vV U'.heap LL ∧ FrameEnd U o U' LL ({ frames := 1, cells := 0, slots := 0, locals := 12 } : Room).cells ({ frames := 1, cells := 0, slots := 0, locals := 12 } : Room).slots) := by
  refine MetFree.of_bodySF (plainFor_of_name pn_2) hisR ?_
  intro pP eE sS mM args below meth cC s₁ Bd hml0 hP hK
  obtain ⟨rfl, hZ, hh⟩ := hP
  have hx := Bd.exec
  have hby := Bd.bytes
  have hml : cC.maxLocals = 1 := hml0
  have hown : sS.vm.findClass "com/example/entity_state_manager/entitystatemanager/QualifiedNameEqualsPinLaw" = some mM.cls := findClass_of_methodNamed Bd.named
  have hnm := (name_of_methodNamed Bd.named Bd.method).1
  have X0 : Stand pP l eE ({ frames := 1, cells := 0, slots := 0, locals := 12 } : Room) sS mM #[(.int p)] below meth cC s₁ [] 0 0 := Stand.of_body Bd
  have e0 : s₁.heap = h0 := by rw [← hh, Bd.state]; rfl
  have N0 := Fr.nil n0
  have pre0 : ∀ tg, Steps pP.tables eE below (s₁.setTop (mkF mM 0 #[.val (.int p)] [])) tg → Steps pP.tables eE below (s₁.setTop (entryFrame mM #[(.int p)] 1)) tg := fun tg kg => castTop (ef_secB mM p) kg
  have pre2 : ∀ tg, Steps pP.tables eE below (s₁.setTop (mkF mM 6 #[.val (.int p)] [(.int (((p.toUInt32 >>> ((22 : Int32) &&& 31).toUInt32).toInt32) &&& (1 : Int32)))])) tg → Steps pP.tables eE below (s₁.setTop (entryFrame mM #[(.int p)] 1)) tg := fun tg kg => pre0 tg (by
    refine XS.iloadN X0.here hx rfl (hb hby d_method_7_0) rfl ?_
    show Steps pP.tables eE below (s₁.setTop (mkF mM 1 #[.val (.int p)] [(.int p)])) _
    refine XS.bipush X0.here hx rfl (hb hby d_method_7_1) ?_
    show Steps pP.tables eE below (s₁.setTop (mkF mM 3 #[.val (.int p)] [(.int (22 : Int32)), (.int p)])) _
    refine XS.iushr X0.here hx rfl (hb hby d_method_7_3) rfl ?_
    show Steps pP.tables eE below (s₁.setTop (mkF mM 4 #[.val (.int p)] [(.int ((p.toUInt32 >>> ((22 : Int32) &&& 31).toUInt32).toInt32))])) _
    refine XS.iconst X0.here hx rfl (hb hby d_method_7_4) ?_
    show Steps pP.tables eE below (s₁.setTop (mkF mM 5 #[.val (.int p)] [(.int (1 : Int32)), (.int ((p.toUInt32 >>> ((22 : Int32) &&& 31).toUInt32).toInt32))])) _
    refine XS.iand X0.here hx rfl (hb hby d_method_7_5) rfl ?_
    exact kg)
  by_cases hc1 : (((p.toUInt32 >>> ((22 : Int32) &&& 31).toUInt32).toInt32) &&& (1 : Int32)) = (0 : Int32)
  · obtain ⟨_, _, ⟨T3, L3, k3, n3⟩, -, X3, ⟨Lc3, hQ3, l3, y3, z3⟩, st3⟩ := Jvm.LawKit.callS X0 hx (y := (⟨"com/example/entity_state_manager/entitystatemanager/QualifiedNameEqualsPinLaw", "secA", "(I)I"⟩ : MethodName)) hown (mvT hZ (w_13 hw)) (mvT hZ (w_14 hw)) (mvT hZ (w_5 hw)) (mvT hZ (w_15 hw)) (by decide) (backOf (W := 0) (rm_secA l Z a0 hw [] p h0 n0 O0 ) hZ (w_15 hw) (w_5 hw) (by decide) (by decide)) (g := (mkF mM 10 #[.val (.int p)] [(.int p)])) rfl (by rw [hml]; rfl) (argsL := [(.int p)]) (rest := []) (lenOf pd_3 rfl) rfl (by show 2 * 0 + _ ≤ _; exact Nat.le_of_eq rfl) (hb hby d_method_7_10) (fun _ _ => ⟨rfl, e0, (by decide : 0 + 0 ≤ _), (by decide : 0 + 0 ≤ _)⟩)
    dsimp only [Pt.U, Pt.locs, Pt.cells, Pt.slots] at X3 l3 y3 z3 st3 hQ3
    subst l3 y3 z3
    obtain ⟨rfl, rfl, Kq3⟩ := hQ3
    try rw [List.append_nil] at X3
    obtain ⟨fs, hr, hrun, hended, hW, hsame⟩ := X3.leave (v := some (.int (own_secA p))) (fun h => by rw [Bd.returns] at h; cases h)
    refine ⟨_, _, pre2 _ ?_, hrun, hended, _, _, rfl, ?_, ⟨_, rfl⟩, hW, hsame.mono (by decide) (by decide)⟩
    · refine XS.ifNo X0.here hx rfl (hb hby d_method_7_6) rfl ((if0 _ _).trans (teq hc1).2) ?_
      show Steps pP.tables eE below (s₁.setTop (mkF mM 9 #[.val (.int p)] [])) _
      refine XS.iloadN X0.here hx rfl (hb hby d_method_7_9) rfl ?_
      show Steps pP.tables eE below (s₁.setTop (mkF mM 10 #[.val (.int p)] [(.int p)])) _
      refine st3 _ ?_
      show Steps pP.tables eE below (T3.setTop (mkF mM 13 #[.val (.int p)] [(.int (own_secA p))])) _
      refine XS.goto X3.here hx rfl (pc0 := 13) (pc' := 22) rfl (hb hby d_method_7_13) (by decide) (by decide) ?_
      show Steps pP.tables eE below (T3.setTop (mkF mM 22 #[.val (.int p)] [(.int (own_secA p))])) _
      exact retI X3 hx Bd.returns (hb hby d_method_7_22) hr
    · show Q_secB Z p h0 n0 _ T3.heap _
      rw [Kq3]
      exact ⟨(by rw [own_secB, if_pos hc1]), rfl, rfl⟩
  · obtain ⟨_, _, ⟨T5, L5, k5, n5⟩, -, X5, ⟨Lc5, hQ5, l5, y5, z5⟩, st5⟩ := Jvm.LawKit.callS X0 hx (y := (⟨"com/example/entity_state_manager/entitystatemanager/QualifiedNameEqualsPinLaw", "secA", "(I)I"⟩ : MethodName)) hown (mvT hZ (w_13 hw)) (mvT hZ (w_14 hw)) (mvT hZ (w_5 hw)) (mvT hZ (w_15 hw)) (by decide) (backOf (W := 0) (rm_secA l Z a0 hw [] p h0 n0 O0 ) hZ (w_15 hw) (w_5 hw) (by decide) (by decide)) (g := (mkF mM 17 #[.val (.int p)] [(.int p)])) rfl (by rw [hml]; rfl) (argsL := [(.int p)]) (rest := []) (lenOf pd_3 rfl) rfl (by show 2 * 0 + _ ≤ _; exact Nat.le_of_eq rfl) (hb hby d_method_7_17) (fun _ _ => ⟨rfl, e0, (by decide : 0 + 0 ≤ _), (by decide : 0 + 0 ≤ _)⟩)
    dsimp only [Pt.U, Pt.locs, Pt.cells, Pt.slots] at X5 l5 y5 z5 st5 hQ5
    subst l5 y5 z5
    obtain ⟨rfl, rfl, Kq5⟩ := hQ5
    try rw [List.append_nil] at X5
    obtain ⟨fs, hr, hrun, hended, hW, hsame⟩ := X5.leave (v := some (.int ((own_secA p) ^^^ (1 : Int32)))) (fun h => by rw [Bd.returns] at h; cases h)
    refine ⟨_, _, pre2 _ ?_, hrun, hended, _, _, rfl, ?_, ⟨_, rfl⟩, hW, hsame.mono (by decide) (by decide)⟩
    · refine XS.ifYes X0.here hx rfl (pc0 := 6) (pc' := 16) rfl (hb hby d_method_7_6) rfl ((if0 _ _).trans (feq hc1).2) (by decide) (by decide) ?_
      show Steps pP.tables eE below (s₁.setTop (mkF mM 16 #[.val (.int p)] [])) _
      refine XS.iloadN X0.here hx rfl (hb hby d_method_7_16) rfl ?_
      show Steps pP.tables eE below (s₁.setTop (mkF mM 17 #[.val (.int p)] [(.int p)])) _
      refine st5 _ ?_
      show Steps pP.tables eE below (T5.setTop (mkF mM 20 #[.val (.int p)] [(.int (own_secA p))])) _
      refine XS.iconst X5.here hx rfl (hb hby d_method_7_20) ?_
      show Steps pP.tables eE below (T5.setTop (mkF mM 21 #[.val (.int p)] [(.int (1 : Int32)), (.int (own_secA p))])) _
      refine XS.ixor X5.here hx rfl (hb hby d_method_7_21) rfl ?_
      show Steps pP.tables eE below (T5.setTop (mkF mM 22 #[.val (.int p)] [(.int ((own_secA p) ^^^ (1 : Int32)))])) _
      exact retI X5 hx Bd.returns (hb hby d_method_7_22) hr
    · show Q_secB Z p h0 n0 _ T5.heap _
      rw [Kq5]
      exact ⟨(by rw [own_secB, if_neg hc1]), rfl, rfl⟩
theorem ef_sp (m : MethodId) (x0 : Int32) : entryFrame m #[(.int x0)] 2 = mkF m 0 #[.val (.int x0), .unset] [] := by first | (simp [entryFrame, mkF, argsToLocals, Value.category]; done) | rfl
def Q_sp (Z : State) (p : Int32) (h0 : Heap) (n0 : Nat) (vV : Option Value) (h : Heap) (LL : List Loc) : Prop := vV = some (.int (own_samePart p)) ∧ LL = [] ∧ h = h0
set_option maxRecDepth 65536 in
set_option maxHeartbeats 40000000 in
theorem rm_sp (l : Launch) (Z : State) (a0 : Array Value) (hw : ∀ d ∈ tables_1, d.before a0 Z = true) (ws : List Jvm.Cond) (p : Int32) (h0 : Heap) (n0 : Nat) (O0 : Old Z n0 h0) :
    MetFree l (⟨"com/example/entity_state_manager/entitystatemanager/QualifiedNameEqualsPinLaw", "samePart", "(I)Z"⟩ : MethodName) (head1 (Jvm.Cond.code (⟨"com/example/entity_state_manager/entitystatemanager/QualifiedNameEqualsPinLaw", "samePart", "(I)Z"⟩ : MethodName) method_11_code 2 (some .boolean) :: ws) ({ frames := 2, cells := 0, slots := 0, locals := 25 } : Room)) (fun aa_ U => aa_ = #[(.int p)] ∧ Z.Warmed39 U.vm ∧ U.heap = h0) (fun _ _ _ _ _ => True) (fun _ U o U' => ∃ vV LL, o = .returned vV ∧ Q_sp Z p h0 n0 vV U'.heap LL ∧ FrameEnd U o U' LL ({ frames := 2, cells := 0, slots := 0, locals := 25 } : Room).cells ({ frames := 2, cells := 0, slots := 0, locals := 25 } : Room).slots) := by
  refine MetFree.of_bodySF (plainFor_of_name pn_2) hisR ?_
  intro pP eE sS mM args below meth cC s₁ Bd hml0 hP hK
  obtain ⟨rfl, hZ, hh⟩ := hP
  have hx := Bd.exec
  have hby := Bd.bytes
  have hml : cC.maxLocals = 2 := hml0
  have hown : sS.vm.findClass "com/example/entity_state_manager/entitystatemanager/QualifiedNameEqualsPinLaw" = some mM.cls := findClass_of_methodNamed Bd.named
  have hnm := (name_of_methodNamed Bd.named Bd.method).1
  have X0 : Stand pP l eE ({ frames := 2, cells := 0, slots := 0, locals := 25 } : Room) sS mM #[(.int p)] below meth cC s₁ [] 0 0 := Stand.of_body Bd
  have e0 : s₁.heap = h0 := by rw [← hh, Bd.state]; rfl
  have N0 := Fr.nil n0
  have pre0 : ∀ tg, Steps pP.tables eE below (s₁.setTop (mkF mM 0 #[.val (.int p), .unset] [])) tg → Steps pP.tables eE below (s₁.setTop (entryFrame mM #[(.int p)] 2)) tg := fun tg kg => castTop (ef_sp mM p) kg
  obtain ⟨_, _, ⟨T1, L1, k1, n1⟩, -, X1, ⟨Lc1, hQ1, l1, y1, z1⟩, st1⟩ := Jvm.LawKit.callS X0 hx (y := (⟨"com/example/entity_state_manager/entitystatemanager/QualifiedNameEqualsPinLaw", "lenA", "(I)I"⟩ : MethodName)) hown (mvT hZ (w_7 hw)) (mvT hZ (w_8 hw)) (mvT hZ (w_5 hw)) (mvT hZ (w_9 hw)) (by decide) (backOf (W := 0) (rm_lenA l Z a0 hw [] p h0 n0 O0 ) hZ (w_9 hw) (w_5 hw) (by decide) (by decide)) (g := (mkF mM 1 #[.val (.int p), .unset] [(.int p)])) rfl (by rw [hml]; rfl) (argsL := [(.int p)]) (rest := []) (lenOf pd_3 rfl) rfl (by show 2 * 0 + _ ≤ _; exact Nat.le_of_eq rfl) (hb hby d_method_11_1) (fun _ _ => ⟨rfl, e0, (by decide : 0 + 0 ≤ _), (by decide : 0 + 0 ≤ _)⟩)
  dsimp only [Pt.U, Pt.locs, Pt.cells, Pt.slots] at X1 l1 y1 z1 st1 hQ1
  subst l1 y1 z1
  obtain ⟨rfl, rfl, Kq1⟩ := hQ1
  try rw [List.append_nil] at X1
  obtain ⟨_, _, ⟨T2, L2, k2, n2⟩, -, X2, ⟨Lc2, hQ2, l2, y2, z2⟩, st2⟩ := Jvm.LawKit.callS X1 hx (y := (⟨"com/example/entity_state_manager/entitystatemanager/QualifiedNameEqualsPinLaw", "lenB", "(I)I"⟩ : MethodName)) hown (mvT hZ (w_87 hw)) (mvT hZ (w_88 hw)) (mvT hZ (w_5 hw)) (mvT hZ (w_89 hw)) (by decide) (backOf (W := 1) (rm_lenB l Z a0 hw [] p h0 n0 O0 ) hZ (w_89 hw) (w_5 hw) (by decide) (by decide)) (g := (mkF mM 7 #[.val (.int p), .val (.int (own_lenA p))] [(.int p), (.int (own_lenA p))])) rfl (by rw [hml]; rfl) (argsL := [(.int p)]) (rest := [(.int (own_lenA p))]) (lenOf pd_3 rfl) rfl (by show 2 * 0 + _ ≤ _; exact Nat.le_of_eq rfl) (hb hby d_method_11_7) (fun _ _ => ⟨rfl, Kq1, (by decide : 0 + 0 ≤ _), (by decide : 0 + 0 ≤ _)⟩)
  dsimp only [Pt.U, Pt.locs, Pt.cells, Pt.slots] at X2 l2 y2 z2 st2 hQ2
  subst l2 y2 z2
  obtain ⟨rfl, rfl, Kq2⟩ := hQ2
  try rw [List.append_nil] at X2
  have pre4 : ∀ tg, Steps pP.tables eE below (T2.setTop (mkF mM 10 #[.val (.int p), .val (.int (own_lenA p))] [(.int (own_lenB p)), (.int (own_lenA p))])) tg → Steps pP.tables eE below (s₁.setTop (entryFrame mM #[(.int p)] 2)) tg := fun tg kg => pre0 tg (by
    refine XS.iloadN X0.here hx rfl (hb hby d_method_11_0) rfl ?_
    show Steps pP.tables eE below (s₁.setTop (mkF mM 1 #[.val (.int p), .unset] [(.int p)])) _
    refine st1 _ ?_
    show Steps pP.tables eE below (T1.setTop (mkF mM 4 #[.val (.int p), .unset] [(.int (own_lenA p))])) _
    refine XS.istoreN X1.here hx rfl (hb hby d_method_11_4) rfl (l' := #[.val (.int p), .val (.int (own_lenA p))]) rfl ?_
    show Steps pP.tables eE below (T1.setTop (mkF mM 5 #[.val (.int p), .val (.int (own_lenA p))] [])) _
    refine XS.iloadN X1.here hx rfl (hb hby d_method_11_5) rfl ?_
    show Steps pP.tables eE below (T1.setTop (mkF mM 6 #[.val (.int p), .val (.int (own_lenA p))] [(.int (own_lenA p))])) _
    refine XS.iloadN X1.here hx rfl (hb hby d_method_11_6) rfl ?_
    show Steps pP.tables eE below (T1.setTop (mkF mM 7 #[.val (.int p), .val (.int (own_lenA p))] [(.int p), (.int (own_lenA p))])) _
    refine st2 _ ?_
    exact kg)
  by_cases hc3 : (own_lenA p) = (own_lenB p)
  · have pre6 : ∀ tg, Steps pP.tables eE below (T2.setTop (mkF mM 16 #[.val (.int p), .val (.int (own_lenA p))] [(.int (own_lenA p))])) tg → Steps pP.tables eE below (s₁.setTop (entryFrame mM #[(.int p)] 2)) tg := fun tg kg => pre4 tg (by
      refine XS.icmpYes X2.here hx rfl (pc0 := 10) (pc' := 15) rfl (hb hby d_method_11_10) rfl (teq hc3).1 (by decide) (by decide) ?_
      show Steps pP.tables eE below (T2.setTop (mkF mM 15 #[.val (.int p), .val (.int (own_lenA p))] [])) _
      refine XS.iloadN X2.here hx rfl (hb hby d_method_11_15) rfl ?_
      exact kg)
    by_cases hc5 : (own_lenA p) = (0 : Int32)
    · obtain ⟨fs, hr, hrun, hended, hW, hsame⟩ := X2.leave (v := some (.int (1 : Int32))) (fun h => by rw [Bd.returns] at h; cases h)
      refine ⟨_, _, pre6 _ ?_, hrun, hended, _, _, rfl, ?_, ⟨_, rfl⟩, hW, hsame.mono (by decide) (by decide)⟩
      · refine XS.ifNo X2.here hx rfl (hb hby d_method_11_16) rfl ((if0 _ _).trans (teq hc5).2) ?_
        show Steps pP.tables eE below (T2.setTop (mkF mM 19 #[.val (.int p), .val (.int (own_lenA p))] [])) _
        refine XS.iconst X2.here hx rfl (hb hby d_method_11_19) ?_
        show Steps pP.tables eE below (T2.setTop (mkF mM 20 #[.val (.int p), .val (.int (own_lenA p))] [(.int (1 : Int32))])) _
        exact retN X2 hx (t := .boolean) Bd.returns (by simp) (hb hby d_method_11_20) hr
      · show Q_sp Z p h0 n0 _ T2.heap _
        rw [Kq2]
        exact ⟨(by rw [own_samePart, if_pos hc3, if_pos hc5]), rfl, rfl⟩
    · obtain ⟨_, _, ⟨T8, L8, k8, n8⟩, -, X8, ⟨Lc8, hQ8, l8, y8, z8⟩, st8⟩ := Jvm.LawKit.callS X2 hx (y := (⟨"com/example/entity_state_manager/entitystatemanager/QualifiedNameEqualsPinLaw", "firstA", "(I)I"⟩ : MethodName)) hown (mvT hZ (w_10 hw)) (mvT hZ (w_11 hw)) (mvT hZ (w_5 hw)) (mvT hZ (w_12 hw)) (by decide) (backOf (W := 0) (rm_firstA l Z a0 hw [] p h0 n0 O0 ) hZ (w_12 hw) (w_5 hw) (by decide) (by decide)) (g := (mkF mM 22 #[.val (.int p), .val (.int (own_lenA p))] [(.int p)])) rfl (by rw [hml]; rfl) (argsL := [(.int p)]) (rest := []) (lenOf pd_3 rfl) rfl (by show 2 * 0 + _ ≤ _; exact Nat.le_of_eq rfl) (hb hby d_method_11_22) (fun _ _ => ⟨rfl, Kq2, (by decide : 0 + 0 ≤ _), (by decide : 0 + 0 ≤ _)⟩)
      dsimp only [Pt.U, Pt.locs, Pt.cells, Pt.slots] at X8 l8 y8 z8 st8 hQ8
      subst l8 y8 z8
      obtain ⟨rfl, rfl, Kq8⟩ := hQ8
      try rw [List.append_nil] at X8
      obtain ⟨_, _, ⟨T9, L9, k9, n9⟩, -, X9, ⟨Lc9, hQ9, l9, y9, z9⟩, st9⟩ := Jvm.LawKit.callS X8 hx (y := (⟨"com/example/entity_state_manager/entitystatemanager/QualifiedNameEqualsPinLaw", "firstB", "(I)I"⟩ : MethodName)) hown (mvT hZ (w_90 hw)) (mvT hZ (w_91 hw)) (mvT hZ (w_5 hw)) (mvT hZ (w_92 hw)) (by decide) (backOf (W := 1) (rm_firstB l Z a0 hw [] p h0 n0 O0 ) hZ (w_92 hw) (w_5 hw) (by decide) (by decide)) (g := (mkF mM 26 #[.val (.int p), .val (.int (own_lenA p))] [(.int p), (.int (own_firstA p))])) rfl (by rw [hml]; rfl) (argsL := [(.int p)]) (rest := [(.int (own_firstA p))]) (lenOf pd_3 rfl) rfl (by show 2 * 0 + _ ≤ _; exact Nat.le_of_eq rfl) (hb hby d_method_11_26) (fun _ _ => ⟨rfl, Kq8, (by decide : 0 + 0 ≤ _), (by decide : 0 + 0 ≤ _)⟩)
      dsimp only [Pt.U, Pt.locs, Pt.cells, Pt.slots] at X9 l9 y9 z9 st9 hQ9
      subst l9 y9 z9
      obtain ⟨rfl, rfl, Kq9⟩ := hQ9
      try rw [List.append_nil] at X9
      have pre11 : ∀ tg, Steps pP.tables eE below (T9.setTop (mkF mM 29 #[.val (.int p), .val (.int (own_lenA p))] [(.int (own_firstB p)), (.int (own_firstA p))])) tg → Steps pP.tables eE below (s₁.setTop (entryFrame mM #[(.int p)] 2)) tg := fun tg kg => pre6 tg (by
        refine XS.ifYes X2.here hx rfl (pc0 := 16) (pc' := 21) rfl (hb hby d_method_11_16) rfl ((if0 _ _).trans (feq hc5).2) (by decide) (by decide) ?_
        show Steps pP.tables eE below (T2.setTop (mkF mM 21 #[.val (.int p), .val (.int (own_lenA p))] [])) _
        refine XS.iloadN X2.here hx rfl (hb hby d_method_11_21) rfl ?_
        show Steps pP.tables eE below (T2.setTop (mkF mM 22 #[.val (.int p), .val (.int (own_lenA p))] [(.int p)])) _
        refine st8 _ ?_
        show Steps pP.tables eE below (T8.setTop (mkF mM 25 #[.val (.int p), .val (.int (own_lenA p))] [(.int (own_firstA p))])) _
        refine XS.iloadN X8.here hx rfl (hb hby d_method_11_25) rfl ?_
        show Steps pP.tables eE below (T8.setTop (mkF mM 26 #[.val (.int p), .val (.int (own_lenA p))] [(.int p), (.int (own_firstA p))])) _
        refine st9 _ ?_
        exact kg)
      by_cases hc10 : (own_firstA p) = (own_firstB p)
      · have pre13 : ∀ tg, Steps pP.tables eE below (T9.setTop (mkF mM 36 #[.val (.int p), .val (.int (own_lenA p))] [(.int (1 : Int32)), (.int (own_lenA p))])) tg → Steps pP.tables eE below (s₁.setTop (entryFrame mM #[(.int p)] 2)) tg := fun tg kg => pre11 tg (by
          refine XS.icmpYes X9.here hx rfl (pc0 := 29) (pc' := 34) rfl (hb hby d_method_11_29) rfl (teq hc10).1 (by decide) (by decide) ?_
          show Steps pP.tables eE below (T9.setTop (mkF mM 34 #[.val (.int p), .val (.int (own_lenA p))] [])) _
          refine XS.iloadN X9.here hx rfl (hb hby d_method_11_34) rfl ?_
          show Steps pP.tables eE below (T9.setTop (mkF mM 35 #[.val (.int p), .val (.int (own_lenA p))] [(.int (own_lenA p))])) _
          refine XS.iconst X9.here hx rfl (hb hby d_method_11_35) ?_
          exact kg)
        by_cases hc12 : (own_lenA p) = (1 : Int32)
        · obtain ⟨fs, hr, hrun, hended, hW, hsame⟩ := X9.leave (v := some (.int (1 : Int32))) (fun h => by rw [Bd.returns] at h; cases h)
          refine ⟨_, _, pre13 _ ?_, hrun, hended, _, _, rfl, ?_, ⟨_, rfl⟩, hW, hsame.mono (by decide) (by decide)⟩
          · refine XS.icmpNo X9.here hx rfl (hb hby d_method_11_36) rfl (teq hc12).2 ?_
            show Steps pP.tables eE below (T9.setTop (mkF mM 39 #[.val (.int p), .val (.int (own_lenA p))] [])) _
            refine XS.iconst X9.here hx rfl (hb hby d_method_11_39) ?_
            show Steps pP.tables eE below (T9.setTop (mkF mM 40 #[.val (.int p), .val (.int (own_lenA p))] [(.int (1 : Int32))])) _
            exact retN X9 hx (t := .boolean) Bd.returns (by simp) (hb hby d_method_11_40) hr
          · show Q_sp Z p h0 n0 _ T9.heap _
            rw [Kq9]
            exact ⟨(by rw [own_samePart, if_pos hc3, if_neg hc5, if_pos hc10, if_pos hc12]), rfl, rfl⟩
        · obtain ⟨_, _, ⟨T15, L15, k15, n15⟩, -, X15, ⟨Lc15, hQ15, l15, y15, z15⟩, st15⟩ := Jvm.LawKit.callS X9 hx (y := (⟨"com/example/entity_state_manager/entitystatemanager/QualifiedNameEqualsPinLaw", "secA", "(I)I"⟩ : MethodName)) hown (mvT hZ (w_13 hw)) (mvT hZ (w_14 hw)) (mvT hZ (w_5 hw)) (mvT hZ (w_15 hw)) (by decide) (backOf (W := 0) (rm_secA l Z a0 hw [] p h0 n0 O0 ) hZ (w_15 hw) (w_5 hw) (by decide) (by decide)) (g := (mkF mM 42 #[.val (.int p), .val (.int (own_lenA p))] [(.int p)])) rfl (by rw [hml]; rfl) (argsL := [(.int p)]) (rest := []) (lenOf pd_3 rfl) rfl (by show 2 * 0 + _ ≤ _; exact Nat.le_of_eq rfl) (hb hby d_method_11_42) (fun _ _ => ⟨rfl, Kq9, (by decide : 0 + 0 ≤ _), (by decide : 0 + 0 ≤ _)⟩)
          dsimp only [Pt.U, Pt.locs, Pt.cells, Pt.slots] at X15 l15 y15 z15 st15 hQ15
          subst l15 y15 z15
          obtain ⟨rfl, rfl, Kq15⟩ := hQ15
          try rw [List.append_nil] at X15
          obtain ⟨_, _, ⟨T16, L16, k16, n16⟩, -, X16, ⟨Lc16, hQ16, l16, y16, z16⟩, st16⟩ := Jvm.LawKit.callS X15 hx (y := (⟨"com/example/entity_state_manager/entitystatemanager/QualifiedNameEqualsPinLaw", "secB", "(I)I"⟩ : MethodName)) hown (mvT hZ (w_93 hw)) (mvT hZ (w_94 hw)) (mvT hZ (w_5 hw)) (mvT hZ (w_95 hw)) (by decide) (backOf (W := 1) (rm_secB l Z a0 hw [] p h0 n0 O0 ) hZ (w_95 hw) (w_5 hw) (by decide) (by decide)) (g := (mkF mM 46 #[.val (.int p), .val (.int (own_lenA p))] [(.int p), (.int (own_secA p))])) rfl (by rw [hml]; rfl) (argsL := [(.int p)]) (rest := [(.int (own_secA p))]) (lenOf pd_3 rfl) rfl (by show 2 * 0 + _ ≤ _; exact Nat.le_of_eq rfl) (hb hby d_method_11_46) (fun _ _ => ⟨rfl, Kq15, (by decide : 0 + 0 ≤ _), (by decide : 0 + 0 ≤ _)⟩)
          dsimp only [Pt.U, Pt.locs, Pt.cells, Pt.slots] at X16 l16 y16 z16 st16 hQ16
          subst l16 y16 z16
          obtain ⟨rfl, rfl, Kq16⟩ := hQ16
          try rw [List.append_nil] at X16
          have pre18 : ∀ tg, Steps pP.tables eE below (T16.setTop (mkF mM 49 #[.val (.int p), .val (.int (own_lenA p))] [(.int (own_secB p)), (.int (own_secA p))])) tg → Steps pP.tables eE below (s₁.setTop (entryFrame mM #[(.int p)] 2)) tg := fun tg kg => pre13 tg (by
            refine XS.icmpYes X9.here hx rfl (pc0 := 36) (pc' := 41) rfl (hb hby d_method_11_36) rfl (feq hc12).2 (by decide) (by decide) ?_
            show Steps pP.tables eE below (T9.setTop (mkF mM 41 #[.val (.int p), .val (.int (own_lenA p))] [])) _
            refine XS.iloadN X9.here hx rfl (hb hby d_method_11_41) rfl ?_
            show Steps pP.tables eE below (T9.setTop (mkF mM 42 #[.val (.int p), .val (.int (own_lenA p))] [(.int p)])) _
            refine st15 _ ?_
            show Steps pP.tables eE below (T15.setTop (mkF mM 45 #[.val (.int p), .val (.int (own_lenA p))] [(.int (own_secA p))])) _
            refine XS.iloadN X15.here hx rfl (hb hby d_method_11_45) rfl ?_
            show Steps pP.tables eE below (T15.setTop (mkF mM 46 #[.val (.int p), .val (.int (own_lenA p))] [(.int p), (.int (own_secA p))])) _
            refine st16 _ ?_
            exact kg)
          by_cases hc17 : (own_secA p) = (own_secB p)
          · obtain ⟨fs, hr, hrun, hended, hW, hsame⟩ := X16.leave (v := some (.int (1 : Int32))) (fun h => by rw [Bd.returns] at h; cases h)
            refine ⟨_, _, pre18 _ ?_, hrun, hended, _, _, rfl, ?_, ⟨_, rfl⟩, hW, hsame.mono (by decide) (by decide)⟩
            · refine XS.icmpNo X16.here hx rfl (hb hby d_method_11_49) rfl (teq hc17).2 ?_
              show Steps pP.tables eE below (T16.setTop (mkF mM 52 #[.val (.int p), .val (.int (own_lenA p))] [])) _
              refine XS.iconst X16.here hx rfl (hb hby d_method_11_52) ?_
              show Steps pP.tables eE below (T16.setTop (mkF mM 53 #[.val (.int p), .val (.int (own_lenA p))] [(.int (1 : Int32))])) _
              refine XS.goto X16.here hx rfl (pc0 := 53) (pc' := 57) rfl (hb hby d_method_11_53) (by decide) (by decide) ?_
              show Steps pP.tables eE below (T16.setTop (mkF mM 57 #[.val (.int p), .val (.int (own_lenA p))] [(.int (1 : Int32))])) _
              exact retN X16 hx (t := .boolean) Bd.returns (by simp) (hb hby d_method_11_57) hr
            · show Q_sp Z p h0 n0 _ T16.heap _
              rw [Kq16]
              exact ⟨(by rw [own_samePart, if_pos hc3, if_neg hc5, if_pos hc10, if_neg hc12, if_pos hc17]), rfl, rfl⟩
          · obtain ⟨fs, hr, hrun, hended, hW, hsame⟩ := X16.leave (v := some (.int (0 : Int32))) (fun h => by rw [Bd.returns] at h; cases h)
            refine ⟨_, _, pre18 _ ?_, hrun, hended, _, _, rfl, ?_, ⟨_, rfl⟩, hW, hsame.mono (by decide) (by decide)⟩
            · refine XS.icmpYes X16.here hx rfl (pc0 := 49) (pc' := 56) rfl (hb hby d_method_11_49) rfl (feq hc17).2 (by decide) (by decide) ?_
              show Steps pP.tables eE below (T16.setTop (mkF mM 56 #[.val (.int p), .val (.int (own_lenA p))] [])) _
              refine XS.iconst X16.here hx rfl (hb hby d_method_11_56) ?_
              show Steps pP.tables eE below (T16.setTop (mkF mM 57 #[.val (.int p), .val (.int (own_lenA p))] [(.int (0 : Int32))])) _
              exact retN X16 hx (t := .boolean) Bd.returns (by simp) (hb hby d_method_11_57) hr
            · show Q_sp Z p h0 n0 _ T16.heap _
              rw [Kq16]
              exact ⟨(by rw [own_samePart, if_pos hc3, if_neg hc5, if_pos hc10, if_neg hc12, if_neg hc17]), rfl, rfl⟩
      · obtain ⟨fs, hr, hrun, hended, hW, hsame⟩ := X9.leave (v := some (.int (0 : Int32))) (fun h => by rw [Bd.returns] at h; cases h)
        refine ⟨_, _, pre11 _ ?_, hrun, hended, _, _, rfl, ?_, ⟨_, rfl⟩, hW, hsame.mono (by decide) (by decide)⟩
        · refine XS.icmpNo X9.here hx rfl (hb hby d_method_11_29) rfl (feq hc10).1 ?_
          show Steps pP.tables eE below (T9.setTop (mkF mM 32 #[.val (.int p), .val (.int (own_lenA p))] [])) _
          refine XS.iconst X9.here hx rfl (hb hby d_method_11_32) ?_
          show Steps pP.tables eE below (T9.setTop (mkF mM 33 #[.val (.int p), .val (.int (own_lenA p))] [(.int (0 : Int32))])) _
          exact retN X9 hx (t := .boolean) Bd.returns (by simp) (hb hby d_method_11_33) hr
        · show Q_sp Z p h0 n0 _ T9.heap _
          rw [Kq9]
          exact ⟨(by rw [own_samePart, if_pos hc3, if_neg hc5, if_neg hc10]), rfl, rfl⟩
  · obtain ⟨fs, hr, hrun, hended, hW, hsame⟩ := X2.leave (v := some (.int (0 : Int32))) (fun h => by rw [Bd.returns] at h; cases h)
    refine ⟨_, _, pre4 _ ?_, hrun, hended, _, _, rfl, ?_, ⟨_, rfl⟩, hW, hsame.mono (by decide) (by decide)⟩
    · refine XS.icmpNo X2.here hx rfl (hb hby d_method_11_10) rfl (feq hc3).1 ?_
      show Steps pP.tables eE below (T2.setTop (mkF mM 13 #[.val (.int p), .val (.int (own_lenA p))] [])) _
      refine XS.iconst X2.here hx rfl (hb hby d_method_11_13) ?_
      show Steps pP.tables eE below (T2.setTop (mkF mM 14 #[.val (.int p), .val (.int (own_lenA p))] [(.int (0 : Int32))])) _
      exact retN X2 hx (t := .boolean) Bd.returns (by simp) (hb hby d_method_11_14) hr
    · show Q_sp Z p h0 n0 _ T2.heap _
      rw [Kq2]
      exact ⟨(by rw [own_samePart, if_neg hc3]), rfl, rfl⟩
theorem ef_part (m : MethodId) (x0 : Int32) (x1 : Int32) (x2 : Int32) : entryFrame m #[(.int x0), (.int x1), (.int x2)] 4 = mkF m 0 #[.val (.int x0), .val (.int x1), .val (.int x2), .unset] [] := by first | (simp [entryFrame, mkF, argsToLocals, Value.category]; done) | rfl
def Q_part (Z : State) (n : Int32) (c : Int32) (d : Int32) (zc : Int32) (h0 : Heap) (n0 : Nat) (vV : Option Value) (h : Heap) (LL : List Loc) : Prop := ∃ (b : Addr) (t : Addr) (k : ClassId), vV = some (.ref b) ∧ Fr n0 LL ∧ Keep h0 h [] ∧ own_Str Z h b t k (own_part n c d)
set_option maxRecDepth 65536 in
set_option maxHeartbeats 40000000 in
theorem rm_part (l : Launch) (Z : State) (a0 : Array Value) (hw : ∀ d ∈ tables_1, d.before a0 Z = true) (ws : List Jvm.Cond) (n : Int32) (c : Int32) (d : Int32) (zc : Int32) (h0 : Heap) (n0 : Nat) (O0 : Old Z n0 h0) (hp0 : (¬ c < 0 ∧ ¬ (255 : Int32) < c)) (hp1 : (¬ d < 0 ∧ ¬ (255 : Int32) < d)) (S_COMPACT_STRINGS : Sta Z Z.heap "java/lang/String" "COMPACT_STRINGS" "Z" (.int zc)) (hp3 : (¬ (zc = (0 : Int32)))) :
    MetFree l (⟨"com/example/entity_state_manager/entitystatemanager/QualifiedNameEqualsPinLaw", "part", "(III)Ljava/lang/String;"⟩ : MethodName) (head1 (Jvm.Cond.code (⟨"com/example/entity_state_manager/entitystatemanager/QualifiedNameEqualsPinLaw", "part", "(III)Ljava/lang/String;"⟩ : MethodName) method_8_code 4 (some (.object "java/lang/String")) :: ws) ({ frames := 4, cells := 3, slots := 8, locals := 66 } : Room)) (fun aa_ U => aa_ = #[(.int n), (.int c), (.int d)] ∧ Z.Warmed39 U.vm ∧ U.heap = h0 ∧ CHv Z own_EL U.vm h0 ∧ ∀ xX_ ∈ ([] : List Addr), Safe Z own_EL U.vm h0 xX_) (fun _ _ _ _ _ => True) (fun _ U o U' => ∃ vV LL, o = .returned vV ∧ Q_part Z n c d zc h0 n0 vV U'.heap LL ∧ CHr Z own_EL U.vm U.heap U'.vm U'.heap ∧ ReturnedEndW U o U' LL ({ frames := 4, cells := 3, slots := 8, locals := 66 } : Room).cells ({ frames := 4, cells := 3, slots := 8, locals := 66 } : Room).slots) := by
  refine MetFree.of_bodySF (plainFor_of_name pn_2) hisR ?_
  intro pP eE sS mM args below meth cC s₁ Bd hml0 hP hK
  obtain ⟨rfl, hZ, hh, hCH, hSf⟩ := hP
  have hx := Bd.exec
  have hby := Bd.bytes
  have hml : cC.maxLocals = 4 := hml0
  have hown : sS.vm.findClass "com/example/entity_state_manager/entitystatemanager/QualifiedNameEqualsPinLaw" = some mM.cls := findClass_of_methodNamed Bd.named
  have hnm := (name_of_methodNamed Bd.named Bd.method).1
  have X0 : Stand pP l eE ({ frames := 4, cells := 3, slots := 8, locals := 66 } : Room) (sS.setVm sS.vm) mM #[(.int n), (.int c), (.int d)] below meth cC s₁ [] 0 0 := Stand.of_body Bd
  have e0 : s₁.heap = h0 := by rw [← hh, Bd.state]; rfl
  have N0 := Fr.nil n0
  have pre0 : ∀ tg, Steps pP.tables eE below (s₁.setTop (mkF mM 0 #[.val (.int n), .val (.int c), .val (.int d), .unset] [])) tg → Steps pP.tables eE below (s₁.setTop (entryFrame mM #[(.int n), (.int c), (.int d)] 4)) tg := fun tg kg => castTop (ef_part mM n c d) kg
  have K0 : Keep h0 h0 [] := Keep.refl _ _
  have hZ0 : Z.Warmed39 (sS.setVm sS.vm).vm := hZ
  have hown0 : (sS.setVm sS.vm).vm.findClass "com/example/entity_state_manager/entitystatemanager/QualifiedNameEqualsPinLaw" = some mM.cls := hown
  have hS0 : sS.Since sS.vm 0 := (State.WarmedH.refl sS).since 0
  have hk0 : 0 ≤ h0.size := Nat.zero_le _
  have CH0 : CHr Z own_EL sS.vm h0 sS.vm h0 := CHr.refl hCH
  have hEL := own_EW hw
  have wS := own_wS hw
  have pre2 : ∀ tg, Steps pP.tables eE below (s₁.setTop (mkF mM 1 #[.val (.int n), .val (.int c), .val (.int d), .unset] [(.int n)])) tg → Steps pP.tables eE below (s₁.setTop (entryFrame mM #[(.int n), (.int c), (.int d)] 4)) tg := fun tg kg => pre0 tg (by
    refine XS.iloadN X0.here hx rfl (hb hby d_method_8_0) rfl ?_
    exact kg)
  by_cases hc1 : n = (0 : Int32)
  · obtain ⟨a3, T3, h3, k3, b3, kb3, X3, e3, E3, hS3, hk3, hZ3, hown3, La3, Lb3, Lc3, Ld3, -, -, CHl3, Lit3, Ls3, st3⟩ := ldcCH X0 hx hZ0 hown0 (w_19 hw) wS e0 hS0 hk0 hEL (List.mem_of_getElem? (i := 0) rfl) CH0.1 (vs := []) (z := 0) ⟨by decide, by decide⟩ (by decide) rfl (g := (mkF mM 4 #[.val (.int n), .val (.int c), .val (.int d), .unset] [])) rfl (hb hby d_method_8_4) (n := 0) (by decide) (by decide) (by decide) (by decide)
    have CH4 : CHr Z own_EL sS.vm h0 T3.vm h3 := CH0.trans (CHl3)
    skip
    have K6 : Keep h0 h3 [] := K0.ext E3
    obtain ⟨fs, hr, hrun, hended, hR1, hR2, hR3, hR4⟩ := Stand.leaveW (s := sS) (vm₁ := T3.vm) X3 hS3 (by rw [e3]; exact hk3) (v := some (.ref a3)) (fun h => by rw [Bd.returns] at h; cases h)
    refine ⟨_, _, pre2 _ ?_, hrun, hended, _, _, rfl, ?_, ?_, hR1, hR2, hR3, hR4.mono (by decide) (by decide)⟩
    · refine XS.ifNo X0.here hx rfl (hb hby d_method_8_1) rfl ((if0 _ _).trans (teq hc1).2) ?_
      show Steps pP.tables eE below (s₁.setTop (mkF mM 4 #[.val (.int n), .val (.int c), .val (.int d), .unset] [])) _
      refine st3 _ ?_
      show Steps pP.tables eE below (T3.setTop (mkF mM 6 #[.val (.int n), .val (.int c), .val (.int d), .unset] [(.ref a3)])) _
      jvm_step X3.here [X3.here.top, hx, (hb hby d_method_8_6), X3.method', Bd.returns, Value.isRef, FieldType.isReference]
      first | (intro acts; rw [hr _ acts rfl rfl rfl]) | rw [hr _ _ rfl rfl rfl]
      exact Steps.refl _
    · show Q_part Z n c d zc h0 n0 _ T3.heap _
      rw [e3]
      exact ⟨a3, b3, kb3, rfl, N0, K6, ((by rw [own_part, if_pos hc1] : own_part n c d = []).symm ▸ (⟨La3, Lc3, Lb3, Ld3, (⟨by decide, by decide⟩ : ([] : List Int32).length ≤ 4000 ∧ ∀ c ∈ ([] : List Int32), ¬ c < 0 ∧ ¬ (255 : Int32) < c)⟩ : own_Str Z h3 a3 b3 kb3 []))⟩
    · show CHr Z own_EL sS.vm sS.heap T3.vm T3.heap
      rw [hh, e3]
      exact CH4.trans (CHv.at X3 hZ3 hEL CH4.1)
  · have pre9 : ∀ tg, Steps pP.tables eE below (s₁.setTop (mkF mM 9 #[.val (.int n), .val (.int c), .val (.int d), .unset] [(.int (1 : Int32)), (.int n)])) tg → Steps pP.tables eE below (s₁.setTop (entryFrame mM #[(.int n), (.int c), (.int d)] 4)) tg := fun tg kg => pre2 tg (by
      refine XS.ifYes X0.here hx rfl (pc0 := 1) (pc' := 7) rfl (hb hby d_method_8_1) rfl ((if0 _ _).trans (feq hc1).2) (by decide) (by decide) ?_
      show Steps pP.tables eE below (s₁.setTop (mkF mM 7 #[.val (.int n), .val (.int c), .val (.int d), .unset] [])) _
      refine XS.iloadN X0.here hx rfl (hb hby d_method_8_7) rfl ?_
      show Steps pP.tables eE below (s₁.setTop (mkF mM 8 #[.val (.int n), .val (.int c), .val (.int d), .unset] [(.int n)])) _
      refine XS.iconst X0.here hx rfl (hb hby d_method_8_8) ?_
      exact kg)
    by_cases hc8 : n = (1 : Int32)
    · obtain ⟨_, _, ⟨T10, L10, k10, n10⟩, -, X10, ⟨Lc10, hQ10, l10, y10, z10⟩, st10⟩ := Jvm.LawKit.callS X0 hx (y := (⟨"java/lang/String", "valueOf", "(C)Ljava/lang/String;"⟩ : MethodName)) hown0 (mvT hZ0 (w_70 hw)) (mvT hZ0 (w_71 hw)) (mvT hZ0 (w_20 hw)) (mvT hZ0 (w_72 hw)) (by decide) (backOf (W := 0) (rm_vof l Z a0 hw [] c zc h0 n0 O0 (hp0 : ¬ c < 0 ∧ ¬ (255 : Int32) < c) S_COMPACT_STRINGS hp3) hZ0 (w_72 hw) (w_20 hw) (by decide) (by decide)) (g := (mkF mM 14 #[.val (.int n), .val (.int c), .val (.int d), .unset] [(.int c)])) rfl (by rw [hml]; rfl) (argsL := [(.int c)]) (rest := []) (lenOf pd_4 rfl) rfl (by show 2 * 0 + _ ≤ _; exact Nat.le_of_eq rfl) (hb hby d_method_8_14) (fun _ _ => ⟨rfl, e0, (by decide : 0 + 2 ≤ _), (by decide : 0 + 5 ≤ _)⟩)
      dsimp only [Pt.U, Pt.locs, Pt.cells, Pt.slots] at X10 l10 y10 z10 st10 hQ10
      subst l10 y10 z10
      obtain ⟨b_10, t_10, k_10, rfl, Nq10, Kq10, q10_0, q10_1, q10_2⟩ := hQ10
      have N10 := Fr.app N0 Nq10
      have g_b_10 : n0 ≤ b_10 := Nat.le_trans (own_osz O0) q10_0
      have sz_b_10 : h0.size ≤ b_10 := Nat.le_trans K0.1 q10_0
      have g_t_10 : n0 ≤ t_10 := Nat.le_trans (own_osz O0) q10_1
      have sz_t_10 : h0.size ≤ t_10 := Nat.le_trans K0.1 q10_1
      have CH11 : CHr Z own_EL sS.vm h0 sS.vm T10.heap := CH0.trans (CHr.keep Kq10 sf0 CH0.1)
      have hk12 := Nat.le_trans hk0 Kq10.1
      have K13 : Keep h0 T10.heap [] := K0.trans Kq10 all0
      obtain ⟨fs, hr, hrun, hended, hR1, hR2, hR3, hR4⟩ := Stand.leaveW (s := sS) (vm₁ := sS.vm) X10 hS0 (hk12) (v := some (.ref b_10)) (fun h => by rw [Bd.returns] at h; cases h)
      refine ⟨_, _, pre9 _ ?_, hrun, hended, _, _, rfl, ?_, ?_, hR1, hR2, hR3, hR4.mono (by decide) (by decide)⟩
      · refine XS.icmpNo X0.here hx rfl (hb hby d_method_8_9) rfl (teq hc8).2 ?_
        show Steps pP.tables eE below (s₁.setTop (mkF mM 12 #[.val (.int n), .val (.int c), .val (.int d), .unset] [])) _
        refine XS.iloadN X0.here hx rfl (hb hby d_method_8_12) rfl ?_
        show Steps pP.tables eE below (s₁.setTop (mkF mM 13 #[.val (.int n), .val (.int c), .val (.int d), .unset] [(.int c)])) _
        refine XS.i2c X0.here hx rfl (hb hby d_method_8_13) rfl ?_
        show Steps pP.tables eE below (s₁.setTop (mkF mM 14 #[.val (.int n), .val (.int c), .val (.int d), .unset] [(.int (c.toUInt32.toUInt16.toUInt32.toInt32))])) _
        rw [own_i2c hp0]
        show Steps pP.tables eE below (s₁.setTop (mkF mM 14 #[.val (.int n), .val (.int c), .val (.int d), .unset] [(.int c)])) _
        refine st10 _ ?_
        show Steps pP.tables eE below (T10.setTop (mkF mM 17 #[.val (.int n), .val (.int c), .val (.int d), .unset] [(.ref b_10)])) _
        jvm_step X10.here [X10.here.top, hx, (hb hby d_method_8_17), X10.method', Bd.returns, Value.isRef, FieldType.isReference]
        first | (intro acts; rw [hr _ acts rfl rfl rfl]) | rw [hr _ _ rfl rfl rfl]
        exact Steps.refl _
      · show Q_part Z n c d zc h0 n0 _ T10.heap _
        exact ⟨b_10, t_10, k_10, rfl, N10, K13, ((by rw [own_part, if_neg hc1, if_pos hc8] : own_part n c d = [c]).symm ▸ (⟨(q10_2).1, (q10_2).2.1, (q10_2).2.2.1, (q10_2).2.2.2.1, (q10_2).2.2.2.2⟩ : own_Str Z T10.heap b_10 t_10 k_10 [c]))⟩
      · show CHr Z own_EL sS.vm sS.heap T10.vm T10.heap
        rw [hh]
        exact CH11.trans (CHv.at X10 hZ0 hEL CH11.1)
    · obtain ⟨T15, h15, k15, X15, e15, E15, A15, st15⟩ := newP X0 hx hZ0 (aty := .char) (w_47 hw) e0 (g := (mkF mM 19 #[.val (.int n), .val (.int c), .val (.int d), .unset] [(.int (2 : Int32))])) rfl (hb hby d_method_8_19) rfl (by decide) (cap := 2) (by decide) (by decide) (by decide) (by decide)
      obtain ⟨b15, g15⟩ : ∃ z, z = h0.size := ⟨_, rfl⟩
      rw [← g15] at A15 st15
      have Sn_b15 : Safe Z own_EL sS.vm h0 b15 := Safe.new (Nat.le_of_eq g15.symm)
      have g_b15 : n0 ≤ b15 := Nat.le_trans (own_osz O0) (Nat.le_of_eq g15.symm)
      have sz_b15 : h0.size ≤ b15 := Nat.le_trans K0.1 (Nat.le_of_eq g15.symm)
      have CH16 : CHr Z own_EL sS.vm h0 sS.vm h15 := CH0.trans (CHr.ext E15 CH0.1)
      have hk17 := Nat.le_trans hk0 E15.1
      have K18 : Keep h0 h15 [] := K0.ext E15
      have V15 : Arv Z h15 b15 k15 .char (2 : Int32) [(.int (0 : Int32)), (.int (0 : Int32))] (.int (0 : Int32)) := (Arv.new A15 (by decide)).pad (pad_rep [] (.int (0 : Int32)) 2)
      obtain ⟨cl19, Ar19, qk19, S19, Nn19, Hh19, G19⟩ := id V15
      have hin19 : ¬ ((0 : Int32) < 0 ∨ cl19.slots.size ≤ ((0 : Int32)).toNatClampNeg) := inb_of S19 ⟨by decide, by decide⟩
      obtain ⟨T19, h19, X19, e19, W19, st19⟩ := stC X15 hx hZ0 e15 Ar19 (j := (0 : Int32)) hin19 (g := (mkF mM 26 #[.val (.int n), .val (.int c), .val (.int d), .val (.ref b15)] [(.int c), (.int (0 : Int32)), (.ref b15)])) rfl rfl (hb hby d_method_8_26)
      rw [own_nc hp0] at W19
      have f22 := (Safe.ext E15 CH0.1 Sn_b15)
      have sfp21 := f22
      have CH20 : CHr Z own_EL sS.vm h0 sS.vm h19 := CH16.trans (CHr.wr W19 sfp21 CH16.1)
      have hk23 := Nat.le_trans hk17 (Nat.le_of_eq W19.size.symm)
      have K24 : Keep h0 h19 [] := K18.wr W19 (Or.inr sz_b15)
      have V19 : Arv Z h19 b15 k15 .char (2 : Int32) [(.int c), (.int (0 : Int32))] (.int (0 : Int32)) := Arv.set Ar19 qk19 S19 Nn19 Hh19 G19 (own_nc hp0 ▸ fits_nar_char _) W19 0 rfl (Nat.le_of_ble_eq_true rfl)
      have N19 := Fr.snoc X19 N0 g_b15
      obtain ⟨cl25, Ar25, qk25, S25, Nn25, Hh25, G25⟩ := id V19
      have hin25 : ¬ ((1 : Int32) < 0 ∨ cl25.slots.size ≤ ((1 : Int32)).toNatClampNeg) := inb_of S25 ⟨by decide, by decide⟩
      obtain ⟨T25, h25, X25, e25, W25, st25⟩ := stC X19 hx hZ0 e19 Ar25 (j := (1 : Int32)) hin25 (g := (mkF mM 31 #[.val (.int n), .val (.int c), .val (.int d), .val (.ref b15)] [(.int d), (.int (1 : Int32)), (.ref b15)])) rfl rfl (hb hby d_method_8_31)
      rw [own_nc hp1] at W25
      have f28 := (Safe.wr W19 sfp21 CH16.1 f22)
      have sfp27 := f28
      have CH26 : CHr Z own_EL sS.vm h0 sS.vm h25 := CH20.trans (CHr.wr W25 sfp27 CH20.1)
      have hk29 := Nat.le_trans hk23 (Nat.le_of_eq W25.size.symm)
      have K30 : Keep h0 h25 [] := K24.wr W25 (Or.inr sz_b15)
      have V25 : Arv Z h25 b15 k15 .char (2 : Int32) [(.int c), (.int d)] (.int (0 : Int32)) := Arv.set Ar25 qk25 S25 Nn25 Hh25 G25 (own_nc hp1 ▸ fits_nar_char _) W25 1 rfl (Nat.le_of_ble_eq_true rfl)
      have N25 := Fr.snoc X25 N19 g_b15
      obtain ⟨T31, h31, X31, e31, E31, A31, D31, -, st31⟩ := newO X25 hx hZ0 hown0 (w_48 hw) (w_21 hw) (w_20 hw) e25 (g := (mkF mM 32 #[.val (.int n), .val (.int c), .val (.int d), .val (.ref b15)] [])) rfl (hb hby d_method_8_32) (by decide) (by decide)
      obtain ⟨b31, g31⟩ : ∃ z, z = h25.size := ⟨_, rfl⟩
      rw [← g31] at A31 D31 st31
      have Sn_b31 : Safe Z own_EL sS.vm h25 b31 := Safe.new (Nat.le_of_eq g31.symm)
      have f32 := (((O0.ext E15).wr W19 g_b15).wr W25 g_b15)
      have g_b31 : n0 ≤ b31 := Nat.le_trans (own_osz f32) (Nat.le_of_eq g31.symm)
      have sz_b31 : h0.size ≤ b31 := Nat.le_trans K30.1 (Nat.le_of_eq g31.symm)
      have CH33 : CHr Z own_EL sS.vm h0 sS.vm h31 := CH26.trans (CHr.ext E31 CH26.1)
      have hk34 := Nat.le_trans hk29 E31.1
      have K35 : Keep h0 h31 [] := K30.ext E31
      have F_b31_value : Fld Z h31 b31 "java/lang/String" "value" "[B" .null := D31 (Or.inr (w_23 hw)) (ty := (.array .byte)) (by decide)
      have F_b31_coder : Fld Z h31 b31 "java/lang/String" "coder" "B" (.int (0 : Int32)) := D31 (Or.inr (w_24 hw)) (ty := .byte) (by decide)
      have f36 := (f32.ext E31)
      have f37 := (V25.ext E31)
      obtain ⟨_, _, ⟨T38, L38, k38, n38⟩, -, X38, ⟨Lc38, hQ38, l38, y38, z38⟩, st38⟩ := X31.specialBack hx (y := (⟨"java/lang/String", "<init>", "([C)V"⟩ : MethodName)) rfl hown0 (mvT hZ0 (w_49 hw)) (mvT hZ0 (w_50 hw)) (mvT hZ0 (w_51 hw)) (by decide) (own_new (W := 1) hZ0 hw (cs := [c, d]) (n := 2) g_b31 (own_osz f36) A31 F_b31_value F_b31_coder f37 (Sta.ext (f36).2 S_COMPACT_STRINGS) hp3 rfl rfl (by decide) (by decide) (by intro z hz; simp only [List.mem_cons, List.not_mem_nil, or_false] at hz; rcases hz with rfl | rfl <;> first | exact hp0 | exact hp1) (by decide) (by decide)) (g := (mkF mM 37 #[.val (.int n), .val (.int c), .val (.int d), .val (.ref b15)] [(.ref b15), (.ref b31), (.ref b31)])) rfl (by rw [hml]; rfl) (Steps.refl _) (a := b31) (argsL := [(.ref b15)]) (rest := [(.ref b31)]) (lenOf pd_5 rfl) rfl (by show 2 * 0 + _ ≤ _; exact Nat.le_of_eq rfl) (hb hby d_method_8_37) (fun _ _ => ⟨rfl, e31, (by decide : 2 + 1 ≤ _), (by decide : 6 + 2 ≤ _)⟩)
      dsimp only [Pt.U, Pt.locs, Pt.cells, Pt.slots] at X38 l38 y38 z38 st38 hQ38
      subst l38 y38 z38
      obtain ⟨rfl, Nq38, Kq38, t38, kb38, hs38, Sq38⟩ := hQ38
      have N38 := Fr.app N25 Nq38
      have g_t38 : n0 ≤ t38 := Nat.le_trans (own_osz f36) hs38
      have sz_t38 : h0.size ≤ t38 := Nat.le_trans K35.1 hs38
      have f40 := (Safe.ext E31 CH26.1 Sn_b31)
      have sfp41 := (sfS f40 sf0)
      have CH39 : CHr Z own_EL sS.vm h0 sS.vm T38.heap := CH33.trans (CHr.keep Kq38 sfp41 CH33.1)
      have hk42 := Nat.le_trans hk34 Kq38.1
      have K43 : Keep h0 T38.heap [] := K35.trans Kq38 (allS (Or.inr sz_b31) all0)
      obtain ⟨fs, hr, hrun, hended, hR1, hR2, hR3, hR4⟩ := Stand.leaveW (s := sS) (vm₁ := sS.vm) X38 hS0 (hk42) (v := some (.ref b31)) (fun h => by rw [Bd.returns] at h; cases h)
      refine ⟨_, _, pre9 _ ?_, hrun, hended, _, _, rfl, ?_, ?_, hR1, hR2, hR3, hR4.mono (by decide) (by decide)⟩
      · refine XS.icmpYes X0.here hx rfl (pc0 := 9) (pc' := 18) rfl (hb hby d_method_8_9) rfl (feq hc8).2 (by decide) (by decide) ?_
        show Steps pP.tables eE below (s₁.setTop (mkF mM 18 #[.val (.int n), .val (.int c), .val (.int d), .unset] [])) _
        refine XS.iconst X0.here hx rfl (hb hby d_method_8_18) ?_
        show Steps pP.tables eE below (s₁.setTop (mkF mM 19 #[.val (.int n), .val (.int c), .val (.int d), .unset] [(.int (2 : Int32))])) _
        refine st15 _ ?_
        show Steps pP.tables eE below (T15.setTop (mkF mM 21 #[.val (.int n), .val (.int c), .val (.int d), .unset] [(.ref b15)])) _
        refine XS.astoreN X15.here hx rfl (hb hby d_method_8_21) rfl rfl (l' := #[.val (.int n), .val (.int c), .val (.int d), .val (.ref b15)]) rfl ?_
        show Steps pP.tables eE below (T15.setTop (mkF mM 22 #[.val (.int n), .val (.int c), .val (.int d), .val (.ref b15)] [])) _
        refine XS.aloadN X15.here hx rfl (hb hby d_method_8_22) rfl rfl ?_
        show Steps pP.tables eE below (T15.setTop (mkF mM 23 #[.val (.int n), .val (.int c), .val (.int d), .val (.ref b15)] [(.ref b15)])) _
        refine XS.iconst X15.here hx rfl (hb hby d_method_8_23) ?_
        show Steps pP.tables eE below (T15.setTop (mkF mM 24 #[.val (.int n), .val (.int c), .val (.int d), .val (.ref b15)] [(.int (0 : Int32)), (.ref b15)])) _
        refine XS.iloadN X15.here hx rfl (hb hby d_method_8_24) rfl ?_
        show Steps pP.tables eE below (T15.setTop (mkF mM 25 #[.val (.int n), .val (.int c), .val (.int d), .val (.ref b15)] [(.int c), (.int (0 : Int32)), (.ref b15)])) _
        refine XS.i2c X15.here hx rfl (hb hby d_method_8_25) rfl ?_
        show Steps pP.tables eE below (T15.setTop (mkF mM 26 #[.val (.int n), .val (.int c), .val (.int d), .val (.ref b15)] [(.int (c.toUInt32.toUInt16.toUInt32.toInt32)), (.int (0 : Int32)), (.ref b15)])) _
        rw [own_i2c hp0]
        show Steps pP.tables eE below (T15.setTop (mkF mM 26 #[.val (.int n), .val (.int c), .val (.int d), .val (.ref b15)] [(.int c), (.int (0 : Int32)), (.ref b15)])) _
        refine st19 _ ?_
        show Steps pP.tables eE below (T19.setTop (mkF mM 27 #[.val (.int n), .val (.int c), .val (.int d), .val (.ref b15)] [])) _
        refine XS.aloadN X19.here hx rfl (hb hby d_method_8_27) rfl rfl ?_
        show Steps pP.tables eE below (T19.setTop (mkF mM 28 #[.val (.int n), .val (.int c), .val (.int d), .val (.ref b15)] [(.ref b15)])) _
        refine XS.iconst X19.here hx rfl (hb hby d_method_8_28) ?_
        show Steps pP.tables eE below (T19.setTop (mkF mM 29 #[.val (.int n), .val (.int c), .val (.int d), .val (.ref b15)] [(.int (1 : Int32)), (.ref b15)])) _
        refine XS.iloadN X19.here hx rfl (hb hby d_method_8_29) rfl ?_
        show Steps pP.tables eE below (T19.setTop (mkF mM 30 #[.val (.int n), .val (.int c), .val (.int d), .val (.ref b15)] [(.int d), (.int (1 : Int32)), (.ref b15)])) _
        refine XS.i2c X19.here hx rfl (hb hby d_method_8_30) rfl ?_
        show Steps pP.tables eE below (T19.setTop (mkF mM 31 #[.val (.int n), .val (.int c), .val (.int d), .val (.ref b15)] [(.int (d.toUInt32.toUInt16.toUInt32.toInt32)), (.int (1 : Int32)), (.ref b15)])) _
        rw [own_i2c hp1]
        show Steps pP.tables eE below (T19.setTop (mkF mM 31 #[.val (.int n), .val (.int c), .val (.int d), .val (.ref b15)] [(.int d), (.int (1 : Int32)), (.ref b15)])) _
        refine st25 _ ?_
        show Steps pP.tables eE below (T25.setTop (mkF mM 32 #[.val (.int n), .val (.int c), .val (.int d), .val (.ref b15)] [])) _
        refine st31 _ ?_
        show Steps pP.tables eE below (T31.setTop (mkF mM 35 #[.val (.int n), .val (.int c), .val (.int d), .val (.ref b15)] [(.ref b31)])) _
        refine XS.dup X31.here hx rfl (hb hby d_method_8_35) rfl rfl ?_
        show Steps pP.tables eE below (T31.setTop (mkF mM 36 #[.val (.int n), .val (.int c), .val (.int d), .val (.ref b15)] [(.ref b31), (.ref b31)])) _
        refine XS.aloadN X31.here hx rfl (hb hby d_method_8_36) rfl rfl ?_
        show Steps pP.tables eE below (T31.setTop (mkF mM 37 #[.val (.int n), .val (.int c), .val (.int d), .val (.ref b15)] [(.ref b15), (.ref b31), (.ref b31)])) _
        refine st38.trans ?_
        show Steps pP.tables eE below (T38.setTop (mkF mM 40 #[.val (.int n), .val (.int c), .val (.int d), .val (.ref b15)] [(.ref b31)])) _
        jvm_step X38.here [X38.here.top, hx, (hb hby d_method_8_40), X38.method', Bd.returns, Value.isRef, FieldType.isReference]
        first | (intro acts; rw [hr _ acts rfl rfl rfl]) | rw [hr _ _ rfl rfl rfl]
        exact Steps.refl _
      · show Q_part Z n c d zc h0 n0 _ T38.heap _
        exact ⟨b31, t38, kb38, rfl, N38, K43, ((by rw [own_part, if_neg hc1, if_neg hc8] : own_part n c d = [c, d]).symm ▸ (⟨(Sq38).1, (Sq38).2.1, (Sq38).2.2.1, (Sq38).2.2.2.1, (Sq38).2.2.2.2⟩ : own_Str Z T38.heap b31 t38 kb38 [c, d]))⟩
      · show CHr Z own_EL sS.vm sS.heap T38.vm T38.heap
        rw [hh]
        exact CH39.trans (CHv.at X38 hZ0 hEL CH39.1)
theorem ef_rp (m : MethodId) (x0 : Int32) : entryFrame m #[(.int x0)] 1 = mkF m 0 #[.val (.int x0)] [] := by first | (simp [entryFrame, mkF, argsToLocals, Value.category]; done) | rfl
def Q_rp (Z : State) (p : Int32) (zc : Int32) (h0 : Heap) (n0 : Nat) (vV : Option Value) (h : Heap) (LL : List Loc) : Prop := ∃ (b : Addr) (t : Addr) (k : ClassId), vV = some (.ref b) ∧ Fr n0 LL ∧ Keep h0 h [] ∧ own_Str Z h b t k (own_ra p)
set_option maxRecDepth 65536 in
set_option maxHeartbeats 40000000 in
theorem rm_rp (l : Launch) (Z : State) (a0 : Array Value) (hw : ∀ d ∈ tables_1, d.before a0 Z = true) (ws : List Jvm.Cond) (p : Int32) (zc : Int32) (h0 : Heap) (n0 : Nat) (O0 : Old Z n0 h0) (S_COMPACT_STRINGS : Sta Z Z.heap "java/lang/String" "COMPACT_STRINGS" "Z" (.int zc)) (hp1 : (¬ (zc = (0 : Int32)))) :
    MetFree l (⟨"com/example/entity_state_manager/entitystatemanager/QualifiedNameEqualsPinLaw", "recvPart", "(I)Ljava/lang/String;"⟩ : MethodName) (head1 (Jvm.Cond.code (⟨"com/example/entity_state_manager/entitystatemanager/QualifiedNameEqualsPinLaw", "recvPart", "(I)Ljava/lang/String;"⟩ : MethodName) method_9_code 1 (some (.object "java/lang/String")) :: ws) ({ frames := 5, cells := 3, slots := 8, locals := 81 } : Room)) (fun aa_ U => aa_ = #[(.int p)] ∧ Z.Warmed39 U.vm ∧ U.heap = h0 ∧ CHv Z own_EL U.vm h0 ∧ ∀ xX_ ∈ ([] : List Addr), Safe Z own_EL U.vm h0 xX_) (fun _ _ _ _ _ => True) (fun _ U o U' => ∃ vV LL, o = .returned vV ∧ Q_rp Z p zc h0 n0 vV U'.heap LL ∧ CHr Z own_EL U.vm U.heap U'.vm U'.heap ∧ ReturnedEndW U o U' LL ({ frames := 5, cells := 3, slots := 8, locals := 81 } : Room).cells ({ frames := 5, cells := 3, slots := 8, locals := 81 } : Room).slots) := by
  refine MetFree.of_bodySF (plainFor_of_name pn_2) hisR ?_
  intro pP eE sS mM args below meth cC s₁ Bd hml0 hP hK
  obtain ⟨rfl, hZ, hh, hCH, hSf⟩ := hP
  have hx := Bd.exec
  have hby := Bd.bytes
  have hml : cC.maxLocals = 1 := hml0
  have hown : sS.vm.findClass "com/example/entity_state_manager/entitystatemanager/QualifiedNameEqualsPinLaw" = some mM.cls := findClass_of_methodNamed Bd.named
  have hnm := (name_of_methodNamed Bd.named Bd.method).1
  have X0 : Stand pP l eE ({ frames := 5, cells := 3, slots := 8, locals := 81 } : Room) (sS.setVm sS.vm) mM #[(.int p)] below meth cC s₁ [] 0 0 := Stand.of_body Bd
  have e0 : s₁.heap = h0 := by rw [← hh, Bd.state]; rfl
  have N0 := Fr.nil n0
  have pre0 : ∀ tg, Steps pP.tables eE below (s₁.setTop (mkF mM 0 #[.val (.int p)] [])) tg → Steps pP.tables eE below (s₁.setTop (entryFrame mM #[(.int p)] 1)) tg := fun tg kg => castTop (ef_rp mM p) kg
  have K0 : Keep h0 h0 [] := Keep.refl _ _
  have hZ0 : Z.Warmed39 (sS.setVm sS.vm).vm := hZ
  have hown0 : (sS.setVm sS.vm).vm.findClass "com/example/entity_state_manager/entitystatemanager/QualifiedNameEqualsPinLaw" = some mM.cls := hown
  have hS0 : sS.Since sS.vm 0 := (State.WarmedH.refl sS).since 0
  have hk0 : 0 ≤ h0.size := Nat.zero_le _
  have CH0 : CHr Z own_EL sS.vm h0 sS.vm h0 := CHr.refl hCH
  have hEL := own_EW hw
  have wS := own_wS hw
  obtain ⟨_, _, ⟨T1, L1, k1, n1⟩, -, X1, ⟨Lc1, hQ1, l1, y1, z1⟩, st1⟩ := Jvm.LawKit.callS X0 hx (y := (⟨"com/example/entity_state_manager/entitystatemanager/QualifiedNameEqualsPinLaw", "lenA", "(I)I"⟩ : MethodName)) hown0 (mvT hZ0 (w_7 hw)) (mvT hZ0 (w_8 hw)) (mvT hZ0 (w_5 hw)) (mvT hZ0 (w_9 hw)) (by decide) (backOf (W := 0) (rm_lenA l Z a0 hw [] p h0 n0 O0 ) hZ0 (w_9 hw) (w_5 hw) (by decide) (by decide)) (g := (mkF mM 1 #[.val (.int p)] [(.int p)])) rfl (by rw [hml]; rfl) (argsL := [(.int p)]) (rest := []) (lenOf pd_3 rfl) rfl (by show 2 * 0 + _ ≤ _; exact Nat.le_of_eq rfl) (hb hby d_method_9_1) (fun _ _ => ⟨rfl, e0, (by decide : 0 + 0 ≤ _), (by decide : 0 + 0 ≤ _)⟩)
  dsimp only [Pt.U, Pt.locs, Pt.cells, Pt.slots] at X1 l1 y1 z1 st1 hQ1
  subst l1 y1 z1
  obtain ⟨rfl, rfl, Kq1⟩ := hQ1
  try rw [List.append_nil] at X1
  obtain ⟨_, _, ⟨T2, L2, k2, n2⟩, -, X2, ⟨Lc2, hQ2, l2, y2, z2⟩, st2⟩ := Jvm.LawKit.callS X1 hx (y := (⟨"com/example/entity_state_manager/entitystatemanager/QualifiedNameEqualsPinLaw", "firstA", "(I)I"⟩ : MethodName)) hown0 (mvT hZ0 (w_10 hw)) (mvT hZ0 (w_11 hw)) (mvT hZ0 (w_5 hw)) (mvT hZ0 (w_12 hw)) (by decide) (backOf (W := 1) (rm_firstA l Z a0 hw [] p h0 n0 O0 ) hZ0 (w_12 hw) (w_5 hw) (by decide) (by decide)) (g := (mkF mM 5 #[.val (.int p)] [(.int p), (.int (own_lenA p))])) rfl (by rw [hml]; rfl) (argsL := [(.int p)]) (rest := [(.int (own_lenA p))]) (lenOf pd_3 rfl) rfl (by show 2 * 0 + _ ≤ _; exact Nat.le_of_eq rfl) (hb hby d_method_9_5) (fun _ _ => ⟨rfl, Kq1, (by decide : 0 + 0 ≤ _), (by decide : 0 + 0 ≤ _)⟩)
  dsimp only [Pt.U, Pt.locs, Pt.cells, Pt.slots] at X2 l2 y2 z2 st2 hQ2
  subst l2 y2 z2
  obtain ⟨rfl, rfl, Kq2⟩ := hQ2
  try rw [List.append_nil] at X2
  obtain ⟨_, _, ⟨T3, L3, k3, n3⟩, -, X3, ⟨Lc3, hQ3, l3, y3, z3⟩, st3⟩ := Jvm.LawKit.callS X2 hx (y := (⟨"com/example/entity_state_manager/entitystatemanager/QualifiedNameEqualsPinLaw", "secA", "(I)I"⟩ : MethodName)) hown0 (mvT hZ0 (w_13 hw)) (mvT hZ0 (w_14 hw)) (mvT hZ0 (w_5 hw)) (mvT hZ0 (w_15 hw)) (by decide) (backOf (W := 2) (rm_secA l Z a0 hw [] p h0 n0 O0 ) hZ0 (w_15 hw) (w_5 hw) (by decide) (by decide)) (g := (mkF mM 9 #[.val (.int p)] [(.int p), (.int (own_firstA p)), (.int (own_lenA p))])) rfl (by rw [hml]; rfl) (argsL := [(.int p)]) (rest := [(.int (own_firstA p)), (.int (own_lenA p))]) (lenOf pd_3 rfl) rfl (by show 2 * 0 + _ ≤ _; exact Nat.le_of_eq rfl) (hb hby d_method_9_9) (fun _ _ => ⟨rfl, Kq2, (by decide : 0 + 0 ≤ _), (by decide : 0 + 0 ≤ _)⟩)
  dsimp only [Pt.U, Pt.locs, Pt.cells, Pt.slots] at X3 l3 y3 z3 st3 hQ3
  subst l3 y3 z3
  obtain ⟨rfl, rfl, Kq3⟩ := hQ3
  try rw [List.append_nil] at X3
  obtain ⟨_, _, ⟨T4, L4, k4, n4⟩, -, X4, hS24, hg24, ⟨Lc4, hQ4, l4, y4, z4, CHl4⟩, st4⟩ := callSS X3 hx (y := (⟨"com/example/entity_state_manager/entitystatemanager/QualifiedNameEqualsPinLaw", "part", "(III)Ljava/lang/String;"⟩ : MethodName)) hown0 (mvT hZ0 (w_16 hw)) (mvT hZ0 (w_17 hw)) (mvT hZ0 (w_5 hw)) (mvT hZ0 (w_18 hw)) (by decide) (own_backOfSH (s := sS) (vm0 := sS.vm) (rm := ({ frames := 4, cells := 3, slots := 8, locals := 66 } : Room)) (W := 0) (rm_part l Z a0 hw [] (own_lenA p) (own_firstA p) (own_secA p) zc h0 n0 O0 (own_fA p : ¬ (own_firstA p) < 0 ∧ ¬ (255 : Int32) < (own_firstA p)) (own_sA p : ¬ (own_secA p) < 0 ∧ ¬ (255 : Int32) < (own_secA p)) S_COMPACT_STRINGS hp1) hZ0 (w_18 hw) (w_5 hw) (by decide) (by decide) hEL CH0.1 own_sf0) (g := (mkF mM 12 #[.val (.int p)] [(.int (own_secA p)), (.int (own_firstA p)), (.int (own_lenA p))])) rfl (by rw [hml]; rfl) (argsL := [(.int (own_lenA p)), (.int (own_firstA p)), (.int (own_secA p))]) (rest := []) (lenOf pd_6 rfl) rfl (by show 2 * 0 + _ ≤ _; exact Nat.le_of_eq rfl) (hb hby d_method_9_12) (fun _ _ => ⟨rfl, Kq3, (by decide : 0 + 3 ≤ _), (by decide : 0 + 8 ≤ _)⟩)
  dsimp only [Pt.U, Pt.locs, Pt.cells, Pt.slots] at X4 l4 y4 z4 st4 hQ4 hS24 hg24 CHl4
  subst l4 y4 z4
  have hS4 := foldS hS0 (by rw [Kq3]; exact hk0) hS24 hg24
  have hZ4 : Z.Warmed39 (sS.setVm T4.vm).vm := State.Warmed39.trans (t := sS.setVm sS.vm) hZ0 hS24.1
  have hown4 : (sS.setVm T4.vm).vm.findClass "com/example/entity_state_manager/entitystatemanager/QualifiedNameEqualsPinLaw" = some mM.cls := by rw [show (sS.setVm T4.vm).vm = T4.vm from rfl, hS24.1.alike.findClass]; exact hown0
  have hk4 : T4.heap.size ≤ T4.heap.size := Nat.le_refl _
  replace X4 : Stand pP l eE ({ frames := 5, cells := 3, slots := 8, locals := 81 } : Room) (sS.setVm T4.vm) mM _ below meth cC T4 _ _ _ := X4
  obtain ⟨b_4, t_4, k_4, rfl, Nq4, Kq4, q4_0⟩ := hQ4
  have N4 := Fr.app N0 Nq4
  have CH5 : CHr Z own_EL sS.vm h0 T4.vm T4.heap := CH0.trans (CHl4)
  skip
  have K7 : Keep h0 T4.heap [] := K0.trans Kq4 all0
  obtain ⟨fs, hr, hrun, hended, hR1, hR2, hR3, hR4⟩ := Stand.leaveW (s := sS) (vm₁ := T4.vm) X4 hS4 (hk4) (v := some (.ref b_4)) (fun h => by rw [Bd.returns] at h; cases h)
  refine ⟨_, _, pre0 _ ?_, hrun, hended, _, _, rfl, ?_, ?_, hR1, hR2, hR3, hR4.mono (by decide) (by decide)⟩
  · refine XS.iloadN X0.here hx rfl (hb hby d_method_9_0) rfl ?_
    show Steps pP.tables eE below (s₁.setTop (mkF mM 1 #[.val (.int p)] [(.int p)])) _
    refine st1 _ ?_
    show Steps pP.tables eE below (T1.setTop (mkF mM 4 #[.val (.int p)] [(.int (own_lenA p))])) _
    refine XS.iloadN X1.here hx rfl (hb hby d_method_9_4) rfl ?_
    show Steps pP.tables eE below (T1.setTop (mkF mM 5 #[.val (.int p)] [(.int p), (.int (own_lenA p))])) _
    refine st2 _ ?_
    show Steps pP.tables eE below (T2.setTop (mkF mM 8 #[.val (.int p)] [(.int (own_firstA p)), (.int (own_lenA p))])) _
    refine XS.iloadN X2.here hx rfl (hb hby d_method_9_8) rfl ?_
    show Steps pP.tables eE below (T2.setTop (mkF mM 9 #[.val (.int p)] [(.int p), (.int (own_firstA p)), (.int (own_lenA p))])) _
    refine st3 _ ?_
    show Steps pP.tables eE below (T3.setTop (mkF mM 12 #[.val (.int p)] [(.int (own_secA p)), (.int (own_firstA p)), (.int (own_lenA p))])) _
    refine st4.trans ?_
    show Steps pP.tables eE below (T4.setTop (mkF mM 15 #[.val (.int p)] [(.ref b_4)])) _
    jvm_step X4.here [X4.here.top, hx, (hb hby d_method_9_15), X4.method', Bd.returns, Value.isRef, FieldType.isReference]
    first | (intro acts; rw [hr _ acts rfl rfl rfl]) | rw [hr _ _ rfl rfl rfl]
    exact Steps.refl _
  · show Q_rp Z p zc h0 n0 _ T4.heap _
    exact ⟨b_4, t_4, k_4, rfl, N4, K7, (⟨(q4_0).1, (q4_0).2.1, (q4_0).2.2.1, (q4_0).2.2.2.1, (q4_0).2.2.2.2⟩ : own_Str Z T4.heap b_4 t_4 k_4 (own_part (own_lenA p) (own_firstA p) (own_secA p)))⟩
  · show CHr Z own_EL sS.vm sS.heap T4.vm T4.heap
    rw [hh]
    exact CH5.trans (CHv.at X4 hZ4 hEL CH5.1)
theorem ef_op (m : MethodId) (x0 : Int32) : entryFrame m #[(.int x0)] 1 = mkF m 0 #[.val (.int x0)] [] := by first | (simp [entryFrame, mkF, argsToLocals, Value.category]; done) | rfl
def Q_op (Z : State) (p : Int32) (zc : Int32) (h0 : Heap) (n0 : Nat) (vV : Option Value) (h : Heap) (LL : List Loc) : Prop := ∃ (b : Addr) (t : Addr) (k : ClassId), vV = some (.ref b) ∧ Fr n0 LL ∧ Keep h0 h [] ∧ own_Str Z h b t k (own_oa p)
set_option maxRecDepth 65536 in
set_option maxHeartbeats 40000000 in
theorem rm_op (l : Launch) (Z : State) (a0 : Array Value) (hw : ∀ d ∈ tables_1, d.before a0 Z = true) (ws : List Jvm.Cond) (p : Int32) (zc : Int32) (h0 : Heap) (n0 : Nat) (O0 : Old Z n0 h0) (S_COMPACT_STRINGS : Sta Z Z.heap "java/lang/String" "COMPACT_STRINGS" "Z" (.int zc)) (hp1 : (¬ (zc = (0 : Int32)))) :
    MetFree l (⟨"com/example/entity_state_manager/entitystatemanager/QualifiedNameEqualsPinLaw", "othPart", "(I)Ljava/lang/String;"⟩ : MethodName) (head1 (Jvm.Cond.code (⟨"com/example/entity_state_manager/entitystatemanager/QualifiedNameEqualsPinLaw", "othPart", "(I)Ljava/lang/String;"⟩ : MethodName) method_10_code 1 (some (.object "java/lang/String")) :: ws) ({ frames := 5, cells := 3, slots := 8, locals := 81 } : Room)) (fun aa_ U => aa_ = #[(.int p)] ∧ Z.Warmed39 U.vm ∧ U.heap = h0 ∧ CHv Z own_EL U.vm h0 ∧ ∀ xX_ ∈ ([] : List Addr), Safe Z own_EL U.vm h0 xX_) (fun _ _ _ _ _ => True) (fun _ U o U' => ∃ vV LL, o = .returned vV ∧ Q_op Z p zc h0 n0 vV U'.heap LL ∧ CHr Z own_EL U.vm U.heap U'.vm U'.heap ∧ ReturnedEndW U o U' LL ({ frames := 5, cells := 3, slots := 8, locals := 81 } : Room).cells ({ frames := 5, cells := 3, slots := 8, locals := 81 } : Room).slots) := by
  refine MetFree.of_bodySF (plainFor_of_name pn_2) hisR ?_
  intro pP eE sS mM args below meth cC s₁ Bd hml0 hP hK
  obtain ⟨rfl, hZ, hh, hCH, hSf⟩ := hP
  have hx := Bd.exec
  have hby := Bd.bytes
  have hml : cC.maxLocals = 1 := hml0
  have hown : sS.vm.findClass "com/example/entity_state_manager/entitystatemanager/QualifiedNameEqualsPinLaw" = some mM.cls := findClass_of_methodNamed Bd.named
  have hnm := (name_of_methodNamed Bd.named Bd.method).1
  have X0 : Stand pP l eE ({ frames := 5, cells := 3, slots := 8, locals := 81 } : Room) (sS.setVm sS.vm) mM #[(.int p)] below meth cC s₁ [] 0 0 := Stand.of_body Bd
  have e0 : s₁.heap = h0 := by rw [← hh, Bd.state]; rfl
  have N0 := Fr.nil n0
  have pre0 : ∀ tg, Steps pP.tables eE below (s₁.setTop (mkF mM 0 #[.val (.int p)] [])) tg → Steps pP.tables eE below (s₁.setTop (entryFrame mM #[(.int p)] 1)) tg := fun tg kg => castTop (ef_op mM p) kg
  have K0 : Keep h0 h0 [] := Keep.refl _ _
  have hZ0 : Z.Warmed39 (sS.setVm sS.vm).vm := hZ
  have hown0 : (sS.setVm sS.vm).vm.findClass "com/example/entity_state_manager/entitystatemanager/QualifiedNameEqualsPinLaw" = some mM.cls := hown
  have hS0 : sS.Since sS.vm 0 := (State.WarmedH.refl sS).since 0
  have hk0 : 0 ≤ h0.size := Nat.zero_le _
  have CH0 : CHr Z own_EL sS.vm h0 sS.vm h0 := CHr.refl hCH
  have hEL := own_EW hw
  have wS := own_wS hw
  obtain ⟨_, _, ⟨T1, L1, k1, n1⟩, -, X1, ⟨Lc1, hQ1, l1, y1, z1⟩, st1⟩ := Jvm.LawKit.callS X0 hx (y := (⟨"com/example/entity_state_manager/entitystatemanager/QualifiedNameEqualsPinLaw", "lenB", "(I)I"⟩ : MethodName)) hown0 (mvT hZ0 (w_87 hw)) (mvT hZ0 (w_88 hw)) (mvT hZ0 (w_5 hw)) (mvT hZ0 (w_89 hw)) (by decide) (backOf (W := 0) (rm_lenB l Z a0 hw [] p h0 n0 O0 ) hZ0 (w_89 hw) (w_5 hw) (by decide) (by decide)) (g := (mkF mM 1 #[.val (.int p)] [(.int p)])) rfl (by rw [hml]; rfl) (argsL := [(.int p)]) (rest := []) (lenOf pd_3 rfl) rfl (by show 2 * 0 + _ ≤ _; exact Nat.le_of_eq rfl) (hb hby d_method_10_1) (fun _ _ => ⟨rfl, e0, (by decide : 0 + 0 ≤ _), (by decide : 0 + 0 ≤ _)⟩)
  dsimp only [Pt.U, Pt.locs, Pt.cells, Pt.slots] at X1 l1 y1 z1 st1 hQ1
  subst l1 y1 z1
  obtain ⟨rfl, rfl, Kq1⟩ := hQ1
  try rw [List.append_nil] at X1
  obtain ⟨_, _, ⟨T2, L2, k2, n2⟩, -, X2, ⟨Lc2, hQ2, l2, y2, z2⟩, st2⟩ := Jvm.LawKit.callS X1 hx (y := (⟨"com/example/entity_state_manager/entitystatemanager/QualifiedNameEqualsPinLaw", "firstB", "(I)I"⟩ : MethodName)) hown0 (mvT hZ0 (w_90 hw)) (mvT hZ0 (w_91 hw)) (mvT hZ0 (w_5 hw)) (mvT hZ0 (w_92 hw)) (by decide) (backOf (W := 1) (rm_firstB l Z a0 hw [] p h0 n0 O0 ) hZ0 (w_92 hw) (w_5 hw) (by decide) (by decide)) (g := (mkF mM 5 #[.val (.int p)] [(.int p), (.int (own_lenB p))])) rfl (by rw [hml]; rfl) (argsL := [(.int p)]) (rest := [(.int (own_lenB p))]) (lenOf pd_3 rfl) rfl (by show 2 * 0 + _ ≤ _; exact Nat.le_of_eq rfl) (hb hby d_method_10_5) (fun _ _ => ⟨rfl, Kq1, (by decide : 0 + 0 ≤ _), (by decide : 0 + 0 ≤ _)⟩)
  dsimp only [Pt.U, Pt.locs, Pt.cells, Pt.slots] at X2 l2 y2 z2 st2 hQ2
  subst l2 y2 z2
  obtain ⟨rfl, rfl, Kq2⟩ := hQ2
  try rw [List.append_nil] at X2
  obtain ⟨_, _, ⟨T3, L3, k3, n3⟩, -, X3, ⟨Lc3, hQ3, l3, y3, z3⟩, st3⟩ := Jvm.LawKit.callS X2 hx (y := (⟨"com/example/entity_state_manager/entitystatemanager/QualifiedNameEqualsPinLaw", "secB", "(I)I"⟩ : MethodName)) hown0 (mvT hZ0 (w_93 hw)) (mvT hZ0 (w_94 hw)) (mvT hZ0 (w_5 hw)) (mvT hZ0 (w_95 hw)) (by decide) (backOf (W := 2) (rm_secB l Z a0 hw [] p h0 n0 O0 ) hZ0 (w_95 hw) (w_5 hw) (by decide) (by decide)) (g := (mkF mM 9 #[.val (.int p)] [(.int p), (.int (own_firstB p)), (.int (own_lenB p))])) rfl (by rw [hml]; rfl) (argsL := [(.int p)]) (rest := [(.int (own_firstB p)), (.int (own_lenB p))]) (lenOf pd_3 rfl) rfl (by show 2 * 0 + _ ≤ _; exact Nat.le_of_eq rfl) (hb hby d_method_10_9) (fun _ _ => ⟨rfl, Kq2, (by decide : 0 + 0 ≤ _), (by decide : 0 + 0 ≤ _)⟩)
  dsimp only [Pt.U, Pt.locs, Pt.cells, Pt.slots] at X3 l3 y3 z3 st3 hQ3
  subst l3 y3 z3
  obtain ⟨rfl, rfl, Kq3⟩ := hQ3
  try rw [List.append_nil] at X3
  obtain ⟨_, _, ⟨T4, L4, k4, n4⟩, -, X4, hS24, hg24, ⟨Lc4, hQ4, l4, y4, z4, CHl4⟩, st4⟩ := callSS X3 hx (y := (⟨"com/example/entity_state_manager/entitystatemanager/QualifiedNameEqualsPinLaw", "part", "(III)Ljava/lang/String;"⟩ : MethodName)) hown0 (mvT hZ0 (w_16 hw)) (mvT hZ0 (w_17 hw)) (mvT hZ0 (w_5 hw)) (mvT hZ0 (w_18 hw)) (by decide) (own_backOfSH (s := sS) (vm0 := sS.vm) (rm := ({ frames := 4, cells := 3, slots := 8, locals := 66 } : Room)) (W := 0) (rm_part l Z a0 hw [] (own_lenB p) (own_firstB p) (own_secB p) zc h0 n0 O0 (own_fB p : ¬ (own_firstB p) < 0 ∧ ¬ (255 : Int32) < (own_firstB p)) (own_sB p : ¬ (own_secB p) < 0 ∧ ¬ (255 : Int32) < (own_secB p)) S_COMPACT_STRINGS hp1) hZ0 (w_18 hw) (w_5 hw) (by decide) (by decide) hEL CH0.1 own_sf0) (g := (mkF mM 12 #[.val (.int p)] [(.int (own_secB p)), (.int (own_firstB p)), (.int (own_lenB p))])) rfl (by rw [hml]; rfl) (argsL := [(.int (own_lenB p)), (.int (own_firstB p)), (.int (own_secB p))]) (rest := []) (lenOf pd_6 rfl) rfl (by show 2 * 0 + _ ≤ _; exact Nat.le_of_eq rfl) (hb hby d_method_10_12) (fun _ _ => ⟨rfl, Kq3, (by decide : 0 + 3 ≤ _), (by decide : 0 + 8 ≤ _)⟩)
  dsimp only [Pt.U, Pt.locs, Pt.cells, Pt.slots] at X4 l4 y4 z4 st4 hQ4 hS24 hg24 CHl4
  subst l4 y4 z4
  have hS4 := foldS hS0 (by rw [Kq3]; exact hk0) hS24 hg24
  have hZ4 : Z.Warmed39 (sS.setVm T4.vm).vm := State.Warmed39.trans (t := sS.setVm sS.vm) hZ0 hS24.1
  have hown4 : (sS.setVm T4.vm).vm.findClass "com/example/entity_state_manager/entitystatemanager/QualifiedNameEqualsPinLaw" = some mM.cls := by rw [show (sS.setVm T4.vm).vm = T4.vm from rfl, hS24.1.alike.findClass]; exact hown0
  have hk4 : T4.heap.size ≤ T4.heap.size := Nat.le_refl _
  replace X4 : Stand pP l eE ({ frames := 5, cells := 3, slots := 8, locals := 81 } : Room) (sS.setVm T4.vm) mM _ below meth cC T4 _ _ _ := X4
  obtain ⟨b_4, t_4, k_4, rfl, Nq4, Kq4, q4_0⟩ := hQ4
  have N4 := Fr.app N0 Nq4
  have CH5 : CHr Z own_EL sS.vm h0 T4.vm T4.heap := CH0.trans (CHl4)
  skip
  have K7 : Keep h0 T4.heap [] := K0.trans Kq4 all0
  obtain ⟨fs, hr, hrun, hended, hR1, hR2, hR3, hR4⟩ := Stand.leaveW (s := sS) (vm₁ := T4.vm) X4 hS4 (hk4) (v := some (.ref b_4)) (fun h => by rw [Bd.returns] at h; cases h)
  refine ⟨_, _, pre0 _ ?_, hrun, hended, _, _, rfl, ?_, ?_, hR1, hR2, hR3, hR4.mono (by decide) (by decide)⟩
  · refine XS.iloadN X0.here hx rfl (hb hby d_method_10_0) rfl ?_
    show Steps pP.tables eE below (s₁.setTop (mkF mM 1 #[.val (.int p)] [(.int p)])) _
    refine st1 _ ?_
    show Steps pP.tables eE below (T1.setTop (mkF mM 4 #[.val (.int p)] [(.int (own_lenB p))])) _
    refine XS.iloadN X1.here hx rfl (hb hby d_method_10_4) rfl ?_
    show Steps pP.tables eE below (T1.setTop (mkF mM 5 #[.val (.int p)] [(.int p), (.int (own_lenB p))])) _
    refine st2 _ ?_
    show Steps pP.tables eE below (T2.setTop (mkF mM 8 #[.val (.int p)] [(.int (own_firstB p)), (.int (own_lenB p))])) _
    refine XS.iloadN X2.here hx rfl (hb hby d_method_10_8) rfl ?_
    show Steps pP.tables eE below (T2.setTop (mkF mM 9 #[.val (.int p)] [(.int p), (.int (own_firstB p)), (.int (own_lenB p))])) _
    refine st3 _ ?_
    show Steps pP.tables eE below (T3.setTop (mkF mM 12 #[.val (.int p)] [(.int (own_secB p)), (.int (own_firstB p)), (.int (own_lenB p))])) _
    refine st4.trans ?_
    show Steps pP.tables eE below (T4.setTop (mkF mM 15 #[.val (.int p)] [(.ref b_4)])) _
    jvm_step X4.here [X4.here.top, hx, (hb hby d_method_10_15), X4.method', Bd.returns, Value.isRef, FieldType.isReference]
    first | (intro acts; rw [hr _ acts rfl rfl rfl]) | rw [hr _ _ rfl rfl rfl]
    exact Steps.refl _
  · show Q_op Z p zc h0 n0 _ T4.heap _
    exact ⟨b_4, t_4, k_4, rfl, N4, K7, (⟨(q4_0).1, (q4_0).2.1, (q4_0).2.2.1, (q4_0).2.2.2.1, (q4_0).2.2.2.2⟩ : own_Str Z T4.heap b_4 t_4 k_4 (own_part (own_lenB p) (own_firstB p) (own_secB p)))⟩
  · show CHr Z own_EL sS.vm sS.heap T4.vm T4.heap
    rw [hh]
    exact CH5.trans (CHv.at X4 hZ4 hEL CH5.1)
theorem ef_qini (m : MethodId) (x0 : Addr) (x1 : Addr) (x2 : Addr) (x3 : Addr) : entryFrame m #[(.ref x0), (.ref x1), (.ref x2), (.ref x3)] 4 = mkF m 0 #[.val (.ref x0), .val (.ref x1), .val (.ref x2), .val (.ref x3)] [] := by first | (simp [entryFrame, mkF, argsToLocals, Value.category]; done) | rfl
def Q_qini (Z : State) (a : Addr) (x : Addr) (y : Addr) (z : Addr) (u1 : Value) (u2 : Value) (u3 : Value) (h0 : Heap) (n0 : Nat) (vV : Option Value) (h : Heap) (LL : List Loc) : Prop := vV = none ∧ Fr n0 LL ∧ Keep h0 h [a] ∧ Exa Z h a "com/example/entity_state_manager/entitystatemanager/QualifiedName" ∧ Fld Z h a "com/example/entity_state_manager/entitystatemanager/QualifiedName" "catalog" "Ljava/lang/String;" (.ref x) ∧ Fld Z h a "com/example/entity_state_manager/entitystatemanager/QualifiedName" "schema" "Ljava/lang/String;" (.ref y) ∧ Fld Z h a "com/example/entity_state_manager/entitystatemanager/QualifiedName" "name" "Ljava/lang/String;" (.ref z)
set_option maxRecDepth 65536 in
set_option maxHeartbeats 40000000 in
theorem rm_qini (l : Launch) (Z : State) (a0 : Array Value) (hw : ∀ d ∈ tables_1, d.before a0 Z = true) (ws : List Jvm.Cond) (a : Addr) (x : Addr) (y : Addr) (z : Addr) (u1 : Value) (u2 : Value) (u3 : Value) (h0 : Heap) (n0 : Nat) (O0 : Old Z n0 h0) (E_a : Exa Z h0 a "com/example/entity_state_manager/entitystatemanager/QualifiedName") (F_a_catalog : Fld Z h0 a "com/example/entity_state_manager/entitystatemanager/QualifiedName" "catalog" "Ljava/lang/String;" u1) (F_a_schema : Fld Z h0 a "com/example/entity_state_manager/entitystatemanager/QualifiedName" "schema" "Ljava/lang/String;" u2) (F_a_name : Fld Z h0 a "com/example/entity_state_manager/entitystatemanager/QualifiedName" "name" "Ljava/lang/String;" u3) (g_a : n0 ≤ a) :
    MetFree l (⟨"com/example/entity_state_manager/entitystatemanager/QualifiedName", "<init>", "(Ljava/lang/String;Ljava/lang/String;Ljava/lang/String;)V"⟩ : MethodName) (head1 (Jvm.Cond.code (⟨"com/example/entity_state_manager/entitystatemanager/QualifiedName", "<init>", "(Ljava/lang/String;Ljava/lang/String;Ljava/lang/String;)V"⟩ : MethodName) prog_7_method_1_code 4 none :: ws) ({ frames := 1, cells := 0, slots := 0, locals := 12 } : Room)) (fun aa_ U => aa_ = #[(.ref a), (.ref x), (.ref y), (.ref z)] ∧ Z.Warmed39 U.vm ∧ U.heap = h0) (fun _ _ _ _ _ => True) (fun _ U o U' => ∃ vV LL, o = .returned vV ∧ Q_qini Z a x y z u1 u2 u3 h0 n0 vV U'.heap LL ∧ FrameEnd U o U' LL ({ frames := 1, cells := 0, slots := 0, locals := 12 } : Room).cells ({ frames := 1, cells := 0, slots := 0, locals := 12 } : Room).slots) := by
  refine MetFree.of_bodySF (plainFor_of_name pn_3) hisR ?_
  intro pP eE sS mM args below meth cC s₁ Bd hml0 hP hK
  obtain ⟨rfl, hZ, hh⟩ := hP
  have hx := Bd.exec
  have hby := Bd.bytes
  have hml : cC.maxLocals = 4 := hml0
  have hown : sS.vm.findClass "com/example/entity_state_manager/entitystatemanager/QualifiedName" = some mM.cls := findClass_of_methodNamed Bd.named
  have hnm := (name_of_methodNamed Bd.named Bd.method).1
  have X0 : Stand pP l eE ({ frames := 1, cells := 0, slots := 0, locals := 12 } : Room) sS mM #[(.ref a), (.ref x), (.ref y), (.ref z)] below meth cC s₁ [] 0 0 := Stand.of_body Bd
  have e0 : s₁.heap = h0 := by rw [← hh, Bd.state]; rfl
  have N0 := Fr.nil n0
  have pre0 : ∀ tg, Steps pP.tables eE below (s₁.setTop (mkF mM 0 #[.val (.ref a), .val (.ref x), .val (.ref y), .val (.ref z)] [])) tg → Steps pP.tables eE below (s₁.setTop (entryFrame mM #[(.ref a), (.ref x), (.ref y), (.ref z)] 4)) tg := fun tg kg => castTop (ef_qini mM a x y z) kg
  have K0 : Keep h0 h0 [a] := Keep.refl _ _
  obtain ⟨T1, X1, e1, st1⟩ := initO X0 hx hZ hown (w_30 hw) (w_31 hw) (w_32 hw) e0 (g := (mkF mM 1 #[.val (.ref a), .val (.ref x), .val (.ref y), .val (.ref z)] [(.ref a)])) rfl (by rw [hml]; rfl) rfl (hb hby d_prog_7_method_1_1) (by decide) (W := 0) (by show 2 * 0 + _ ≤ _; exact Nat.le_of_eq rfl) (by decide)
  obtain ⟨T2, h2, X2, e2, W2, st2⟩ := putF X1 hx hZ hown (host := "") (Or.inl (w_33 hw)) Via.refl e1 F_a_catalog E_a (Or.inr ⟨(w_34 hw), rfl, hnm⟩) (w_1 hw) (ty := (.object "java/lang/String")) (by decide) rfl rfl (g := (mkF mM 6 #[.val (.ref a), .val (.ref x), .val (.ref y), .val (.ref z)] [(.ref x), (.ref a)])) rfl rfl (hb hby d_prog_7_method_1_6)
  have K3 : Keep h0 h2 [a] := K0.wr W2 (Or.inl (List.mem_of_getElem? (i := 0) rfl))
  have Fw2 : Fld Z h2 a "com/example/entity_state_manager/entitystatemanager/QualifiedName" "catalog" "Ljava/lang/String;" (.ref x) := F_a_catalog.same W2
  have N2 := Fr.snoc X2 N0 g_a
  have f4 := (F_a_schema.other W2 (Or.inr (slot_ne (Or.inr (w_36 hw)) (Or.inr (w_34 hw)) (by decide) (t := (.object "java/lang/String")) (t' := (.object "java/lang/String")) (by decide) (by decide))))
  have f5 := (E_a.wr W2)
  obtain ⟨T6, h6, X6, e6, W6, st6⟩ := putF X2 hx hZ hown (host := "") (Or.inl (w_35 hw)) Via.refl e2 f4 f5 (Or.inr ⟨(w_36 hw), rfl, hnm⟩) (w_1 hw) (ty := (.object "java/lang/String")) (by decide) rfl rfl (g := (mkF mM 11 #[.val (.ref a), .val (.ref x), .val (.ref y), .val (.ref z)] [(.ref y), (.ref a)])) rfl rfl (hb hby d_prog_7_method_1_11)
  have K7 : Keep h0 h6 [a] := K3.wr W6 (Or.inl (List.mem_of_getElem? (i := 0) rfl))
  have Fw6 : Fld Z h6 a "com/example/entity_state_manager/entitystatemanager/QualifiedName" "schema" "Ljava/lang/String;" (.ref y) := f4.same W6
  have N6 := Fr.snoc X6 N2 g_a
  have f8 := ((F_a_name.other W2 (Or.inr (slot_ne (Or.inr (w_38 hw)) (Or.inr (w_34 hw)) (by decide) (t := (.object "java/lang/String")) (t' := (.object "java/lang/String")) (by decide) (by decide)))).other W6 (Or.inr (slot_ne (Or.inr (w_38 hw)) (Or.inr (w_36 hw)) (by decide) (t := (.object "java/lang/String")) (t' := (.object "java/lang/String")) (by decide) (by decide))))
  have f9 := (f5.wr W6)
  obtain ⟨T10, h10, X10, e10, W10, st10⟩ := putF X6 hx hZ hown (host := "") (Or.inl (w_37 hw)) Via.refl e6 f8 f9 (Or.inr ⟨(w_38 hw), rfl, hnm⟩) (w_1 hw) (ty := (.object "java/lang/String")) (by decide) rfl rfl (g := (mkF mM 16 #[.val (.ref a), .val (.ref x), .val (.ref y), .val (.ref z)] [(.ref z), (.ref a)])) rfl rfl (hb hby d_prog_7_method_1_16)
  have K11 : Keep h0 h10 [a] := K7.wr W10 (Or.inl (List.mem_of_getElem? (i := 0) rfl))
  have Fw10 : Fld Z h10 a "com/example/entity_state_manager/entitystatemanager/QualifiedName" "name" "Ljava/lang/String;" (.ref z) := f8.same W10
  have N10 := Fr.snoc X10 N6 g_a
  have f13 := (f9.wr W10)
  have f14 := ((Fw2.other W6 (Or.inr (slot_ne (Or.inr (w_34 hw)) (Or.inr (w_36 hw)) (by decide) (t := (.object "java/lang/String")) (t' := (.object "java/lang/String")) (by decide) (by decide)))).other W10 (Or.inr (slot_ne (Or.inr (w_34 hw)) (Or.inr (w_38 hw)) (by decide) (t := (.object "java/lang/String")) (t' := (.object "java/lang/String")) (by decide) (by decide))))
  have f15 := (Fw6.other W10 (Or.inr (slot_ne (Or.inr (w_36 hw)) (Or.inr (w_38 hw)) (by decide) (t := (.object "java/lang/String")) (t' := (.object "java/lang/String")) (by decide) (by decide))))
  obtain ⟨fs, hr, hrun, hended, hW, hsame⟩ := X10.leave (v := none) (fun _ => rfl)
  refine ⟨_, _, pre0 _ ?_, hrun, hended, _, _, rfl, ?_, ⟨_, rfl⟩, hW, hsame.mono (by decide) (by decide)⟩
  · refine XS.aloadN X0.here hx rfl (hb hby d_prog_7_method_1_0) rfl rfl ?_
    show Steps pP.tables eE below (s₁.setTop (mkF mM 1 #[.val (.ref a), .val (.ref x), .val (.ref y), .val (.ref z)] [(.ref a)])) _
    refine st1 _ ?_
    show Steps pP.tables eE below (T1.setTop (mkF mM 4 #[.val (.ref a), .val (.ref x), .val (.ref y), .val (.ref z)] [])) _
    refine XS.aloadN X1.here hx rfl (hb hby d_prog_7_method_1_4) rfl rfl ?_
    show Steps pP.tables eE below (T1.setTop (mkF mM 5 #[.val (.ref a), .val (.ref x), .val (.ref y), .val (.ref z)] [(.ref a)])) _
    refine XS.aloadN X1.here hx rfl (hb hby d_prog_7_method_1_5) rfl rfl ?_
    show Steps pP.tables eE below (T1.setTop (mkF mM 6 #[.val (.ref a), .val (.ref x), .val (.ref y), .val (.ref z)] [(.ref x), (.ref a)])) _
    refine st2 _ ?_
    show Steps pP.tables eE below (T2.setTop (mkF mM 9 #[.val (.ref a), .val (.ref x), .val (.ref y), .val (.ref z)] [])) _
    refine XS.aloadN X2.here hx rfl (hb hby d_prog_7_method_1_9) rfl rfl ?_
    show Steps pP.tables eE below (T2.setTop (mkF mM 10 #[.val (.ref a), .val (.ref x), .val (.ref y), .val (.ref z)] [(.ref a)])) _
    refine XS.aloadN X2.here hx rfl (hb hby d_prog_7_method_1_10) rfl rfl ?_
    show Steps pP.tables eE below (T2.setTop (mkF mM 11 #[.val (.ref a), .val (.ref x), .val (.ref y), .val (.ref z)] [(.ref y), (.ref a)])) _
    refine st6 _ ?_
    show Steps pP.tables eE below (T6.setTop (mkF mM 14 #[.val (.ref a), .val (.ref x), .val (.ref y), .val (.ref z)] [])) _
    refine XS.aloadN X6.here hx rfl (hb hby d_prog_7_method_1_14) rfl rfl ?_
    show Steps pP.tables eE below (T6.setTop (mkF mM 15 #[.val (.ref a), .val (.ref x), .val (.ref y), .val (.ref z)] [(.ref a)])) _
    refine XS.aloadN X6.here hx rfl (hb hby d_prog_7_method_1_15) rfl rfl ?_
    show Steps pP.tables eE below (T6.setTop (mkF mM 16 #[.val (.ref a), .val (.ref x), .val (.ref y), .val (.ref z)] [(.ref z), (.ref a)])) _
    refine st10 _ ?_
    show Steps pP.tables eE below (T10.setTop (mkF mM 19 #[.val (.ref a), .val (.ref x), .val (.ref y), .val (.ref z)] [])) _
    exact X10.returnOut hx Bd.returns (hb hby d_prog_7_method_1_19) hr
  · show Q_qini Z a x y z u1 u2 u3 h0 n0 _ T10.heap _
    rw [e10]
    exact ⟨rfl, N10, K11, f13, f14, f15, Fw10⟩
theorem ef_eq0 (m : MethodId) (x0 : Addr) : entryFrame m #[(.ref x0), .null] 3 = mkF m 0 #[.val (.ref x0), .val .null, .unset] [] := by first | (simp [entryFrame, mkF, argsToLocals, Value.category]; done) | rfl
def Q_eq0 (Z : State) (a : Addr) (h0 : Heap) (n0 : Nat) (vV : Option Value) (h : Heap) (LL : List Loc) : Prop := vV = some (.int (0 : Int32)) ∧ LL = [] ∧ h = h0
set_option maxRecDepth 65536 in
set_option maxHeartbeats 40000000 in
theorem rm_eq0 (l : Launch) (Z : State) (a0 : Array Value) (hw : ∀ d ∈ tables_1, d.before a0 Z = true) (ws : List Jvm.Cond) (a : Addr) (h0 : Heap) (n0 : Nat) (O0 : Old Z n0 h0) :
    MetFree l (⟨"com/example/entity_state_manager/entitystatemanager/QualifiedName", "equals", "(Ljava/lang/Object;)Z"⟩ : MethodName) (head1 (Jvm.Cond.code (⟨"com/example/entity_state_manager/entitystatemanager/QualifiedName", "equals", "(Ljava/lang/Object;)Z"⟩ : MethodName) prog_7_method_6_code 3 (some .boolean) :: ws) ({ frames := 0, cells := 0, slots := 0, locals := 0 } : Room)) (fun aa_ U => aa_ = #[(.ref a), .null] ∧ Z.Warmed39 U.vm ∧ U.heap = h0) (fun _ _ _ _ _ => True) (fun _ U o U' => ∃ vV LL, o = .returned vV ∧ Q_eq0 Z a h0 n0 vV U'.heap LL ∧ FrameEnd U o U' LL ({ frames := 0, cells := 0, slots := 0, locals := 0 } : Room).cells ({ frames := 0, cells := 0, slots := 0, locals := 0 } : Room).slots) := by
  refine MetFree.of_bodySF (plainFor_of_name pn_3) hisR ?_
  intro pP eE sS mM args below meth cC s₁ Bd hml0 hP hK
  obtain ⟨rfl, hZ, hh⟩ := hP
  have hx := Bd.exec
  have hby := Bd.bytes
  have hml : cC.maxLocals = 3 := hml0
  have hown : sS.vm.findClass "com/example/entity_state_manager/entitystatemanager/QualifiedName" = some mM.cls := findClass_of_methodNamed Bd.named
  have hnm := (name_of_methodNamed Bd.named Bd.method).1
  have X0 : Stand pP l eE ({ frames := 0, cells := 0, slots := 0, locals := 0 } : Room) sS mM #[(.ref a), .null] below meth cC s₁ [] 0 0 := Stand.of_body Bd
  have e0 : s₁.heap = h0 := by rw [← hh, Bd.state]; rfl
  have N0 := Fr.nil n0
  have pre0 : ∀ tg, Steps pP.tables eE below (s₁.setTop (mkF mM 0 #[.val (.ref a), .val .null, .unset] [])) tg → Steps pP.tables eE below (s₁.setTop (entryFrame mM #[(.ref a), .null] 3)) tg := fun tg kg => castTop (ef_eq0 mM a) kg
  obtain ⟨fs, hr, hrun, hended, hW, hsame⟩ := X0.leave (v := some (.int (0 : Int32))) (fun h => by rw [Bd.returns] at h; cases h)
  refine ⟨_, _, pre0 _ ?_, hrun, hended, _, _, rfl, ?_, ⟨_, rfl⟩, hW, hsame.mono (by decide) (by decide)⟩
  · refine XS.aloadN X0.here hx rfl (hb hby d_prog_7_method_6_0) rfl rfl ?_
    show Steps pP.tables eE below (s₁.setTop (mkF mM 1 #[.val (.ref a), .val .null, .unset] [.null])) _
    refine X0.instanceofNull hx (g := (mkF mM 1 #[.val (.ref a), .val .null, .unset] [.null])) rfl rfl (hb hby d_prog_7_method_6_1) _ ?_
    show Steps pP.tables eE below (s₁.setTop (mkF mM 4 #[.val (.ref a), .val .null, .unset] [(.int (0 : Int32))])) _
    refine XS.ifNo X0.here hx rfl (hb hby d_prog_7_method_6_4) rfl ((if0 _ _).trans (teq (by decide : (0 : Int32) = (0 : Int32))).2) ?_
    show Steps pP.tables eE below (s₁.setTop (mkF mM 7 #[.val (.ref a), .val .null, .unset] [])) _
    refine XS.iconst X0.here hx rfl (hb hby d_prog_7_method_6_7) ?_
    show Steps pP.tables eE below (s₁.setTop (mkF mM 8 #[.val (.ref a), .val .null, .unset] [(.int (0 : Int32))])) _
    exact retN X0 hx (t := .boolean) Bd.returns (by simp) (hb hby d_prog_7_method_6_8) hr
  · show Q_eq0 Z a h0 n0 _ s₁.heap _
    rw [e0]
    exact ⟨rfl, rfl, rfl⟩
theorem ef_eqS (m : MethodId) (x0 : Addr) (x1 : Addr) : entryFrame m #[(.ref x0), (.ref x1)] 3 = mkF m 0 #[.val (.ref x0), .val (.ref x1), .unset] [] := by first | (simp [entryFrame, mkF, argsToLocals, Value.category]; done) | rfl
def Q_eqS (Z : State) (a : Addr) (x : Addr) (h0 : Heap) (n0 : Nat) (vV : Option Value) (h : Heap) (LL : List Loc) : Prop := vV = some (.int (0 : Int32)) ∧ LL = [] ∧ h = h0
set_option maxRecDepth 65536 in
set_option maxHeartbeats 40000000 in
theorem rm_eqS (l : Launch) (Z : State) (a0 : Array Value) (hw : ∀ d ∈ tables_1, d.before a0 Z = true) (ws : List Jvm.Cond) (a : Addr) (x : Addr) (h0 : Heap) (n0 : Nat) (O0 : Old Z n0 h0) (E_x : Exa Z h0 x "java/lang/String") :
    MetFree l (⟨"com/example/entity_state_manager/entitystatemanager/QualifiedName", "equals", "(Ljava/lang/Object;)Z"⟩ : MethodName) (head1 (Jvm.Cond.code (⟨"com/example/entity_state_manager/entitystatemanager/QualifiedName", "equals", "(Ljava/lang/Object;)Z"⟩ : MethodName) prog_7_method_6_code 3 (some .boolean) :: ws) ({ frames := 0, cells := 0, slots := 0, locals := 0 } : Room)) (fun aa_ U => aa_ = #[(.ref a), (.ref x)] ∧ Z.Warmed39 U.vm ∧ U.heap = h0) (fun _ _ _ _ _ => True) (fun _ U o U' => ∃ vV LL, o = .returned vV ∧ Q_eqS Z a x h0 n0 vV U'.heap LL ∧ FrameEnd U o U' LL ({ frames := 0, cells := 0, slots := 0, locals := 0 } : Room).cells ({ frames := 0, cells := 0, slots := 0, locals := 0 } : Room).slots) := by
  refine MetFree.of_bodySF (plainFor_of_name pn_3) hisR ?_
  intro pP eE sS mM args below meth cC s₁ Bd hml0 hP hK
  obtain ⟨rfl, hZ, hh⟩ := hP
  have hx := Bd.exec
  have hby := Bd.bytes
  have hml : cC.maxLocals = 3 := hml0
  have hown : sS.vm.findClass "com/example/entity_state_manager/entitystatemanager/QualifiedName" = some mM.cls := findClass_of_methodNamed Bd.named
  have hnm := (name_of_methodNamed Bd.named Bd.method).1
  have X0 : Stand pP l eE ({ frames := 0, cells := 0, slots := 0, locals := 0 } : Room) sS mM #[(.ref a), (.ref x)] below meth cC s₁ [] 0 0 := Stand.of_body Bd
  have e0 : s₁.heap = h0 := by rw [← hh, Bd.state]; rfl
  have N0 := Fr.nil n0
  have pre0 : ∀ tg, Steps pP.tables eE below (s₁.setTop (mkF mM 0 #[.val (.ref a), .val (.ref x), .unset] [])) tg → Steps pP.tables eE below (s₁.setTop (entryFrame mM #[(.ref a), (.ref x)] 3)) tg := fun tg kg => castTop (ef_eqS mM a x) kg
  obtain ⟨T1, X1, e1, st1⟩ := instNo X0 hx hZ hown (w_44 hw) e0 E_x (own_NSno (w_45 hw) (w_1 hw) (NS.step (w_45 hw) (own_NSroot (w_46 hw) (w_1 hw) (by decide)) (by decide)) (by decide)) (g := (mkF mM 1 #[.val (.ref a), .val (.ref x), .unset] [(.ref x)])) rfl rfl (hb hby d_prog_7_method_6_1)
  obtain ⟨fs, hr, hrun, hended, hW, hsame⟩ := X1.leave (v := some (.int (0 : Int32))) (fun h => by rw [Bd.returns] at h; cases h)
  refine ⟨_, _, pre0 _ ?_, hrun, hended, _, _, rfl, ?_, ⟨_, rfl⟩, hW, hsame.mono (by decide) (by decide)⟩
  · refine XS.aloadN X0.here hx rfl (hb hby d_prog_7_method_6_0) rfl rfl ?_
    show Steps pP.tables eE below (s₁.setTop (mkF mM 1 #[.val (.ref a), .val (.ref x), .unset] [(.ref x)])) _
    refine st1 _ ?_
    show Steps pP.tables eE below (T1.setTop (mkF mM 4 #[.val (.ref a), .val (.ref x), .unset] [(.int (0 : Int32))])) _
    refine XS.ifNo X1.here hx rfl (hb hby d_prog_7_method_6_4) rfl ((if0 _ _).trans (teq (by decide : (0 : Int32) = (0 : Int32))).2) ?_
    show Steps pP.tables eE below (T1.setTop (mkF mM 7 #[.val (.ref a), .val (.ref x), .unset] [])) _
    refine XS.iconst X1.here hx rfl (hb hby d_prog_7_method_6_7) ?_
    show Steps pP.tables eE below (T1.setTop (mkF mM 8 #[.val (.ref a), .val (.ref x), .unset] [(.int (0 : Int32))])) _
    exact retN X1 hx (t := .boolean) Bd.returns (by simp) (hb hby d_prog_7_method_6_8) hr
  · show Q_eqS Z a x h0 n0 _ T1.heap _
    rw [e1]
    exact ⟨rfl, rfl, rfl⟩
theorem ef_eqL (m : MethodId) (x0 : Addr) (x1 : Addr) : entryFrame m #[(.ref x0), (.ref x1)] 3 = mkF m 0 #[.val (.ref x0), .val (.ref x1), .unset] [] := by first | (simp [entryFrame, mkF, argsToLocals, Value.category]; done) | rfl
def Q_eqL (Z : State) (a : Addr) (b : Addr) (x0 : Addr) (t0 : Addr) (k0 : ClassId) (c0 : List Int32) (x1 : Addr) (t1 : Addr) (k1 : ClassId) (c1 : List Int32) (x2 : Addr) (t2 : Addr) (k2 : ClassId) (c2 : List Int32) (x3 : Addr) (t3 : Addr) (k3 : ClassId) (c3 : List Int32) (x4 : Addr) (t4 : Addr) (k4 : ClassId) (c4 : List Int32) (x5 : Addr) (t5 : Addr) (k5 : ClassId) (c5 : List Int32) (zc : Int32) (h0 : Heap) (n0 : Nat) (vV : Option Value) (h : Heap) (LL : List Loc) : Prop := vV = some (.int (own_qeq c0 c1 c2 c3 c4 c5)) ∧ LL = [] ∧ h = h0
set_option maxRecDepth 65536 in
set_option maxHeartbeats 40000000 in
theorem rm_eqL (l : Launch) (Z : State) (a0 : Array Value) (hw : ∀ d ∈ tables_1, d.before a0 Z = true) (ws : List Jvm.Cond) (a : Addr) (b : Addr) (x0 : Addr) (t0 : Addr) (k0 : ClassId) (c0 : List Int32) (x1 : Addr) (t1 : Addr) (k1 : ClassId) (c1 : List Int32) (x2 : Addr) (t2 : Addr) (k2 : ClassId) (c2 : List Int32) (x3 : Addr) (t3 : Addr) (k3 : ClassId) (c3 : List Int32) (x4 : Addr) (t4 : Addr) (k4 : ClassId) (c4 : List Int32) (x5 : Addr) (t5 : Addr) (k5 : ClassId) (c5 : List Int32) (zc : Int32) (h0 : Heap) (n0 : Nat) (O0 : Old Z n0 h0) (E_b : Exa Z h0 b "com/example/entity_state_manager/entitystatemanager/QualifiedName") (F_a_catalog : Fld Z h0 a "com/example/entity_state_manager/entitystatemanager/QualifiedName" "catalog" "Ljava/lang/String;" (.ref x0)) (F_b_catalog : Fld Z h0 b "com/example/entity_state_manager/entitystatemanager/QualifiedName" "catalog" "Ljava/lang/String;" (.ref x1)) (F_a_schema : Fld Z h0 a "com/example/entity_state_manager/entitystatemanager/QualifiedName" "schema" "Ljava/lang/String;" (.ref x2)) (F_b_schema : Fld Z h0 b "com/example/entity_state_manager/entitystatemanager/QualifiedName" "schema" "Ljava/lang/String;" (.ref x3)) (F_a_name : Fld Z h0 a "com/example/entity_state_manager/entitystatemanager/QualifiedName" "name" "Ljava/lang/String;" (.ref x4)) (F_b_name : Fld Z h0 b "com/example/entity_state_manager/entitystatemanager/QualifiedName" "name" "Ljava/lang/String;" (.ref x5)) (Str_x0 : own_Str Z h0 x0 t0 k0 c0) (Str_x1 : own_Str Z h0 x1 t1 k1 c1) (Str_x2 : own_Str Z h0 x2 t2 k2 c2) (Str_x3 : own_Str Z h0 x3 t3 k3 c3) (Str_x4 : own_Str Z h0 x4 t4 k4 c4) (Str_x5 : own_Str Z h0 x5 t5 k5 c5) (S_COMPACT_STRINGS : Sta Z Z.heap "java/lang/String" "COMPACT_STRINGS" "Z" (.int zc)) (hp14 : (¬ (zc = (0 : Int32)))) :
    MetFree l (⟨"com/example/entity_state_manager/entitystatemanager/QualifiedName", "equals", "(Ljava/lang/Object;)Z"⟩ : MethodName) (head1 (Jvm.Cond.code (⟨"com/example/entity_state_manager/entitystatemanager/QualifiedName", "equals", "(Ljava/lang/Object;)Z"⟩ : MethodName) prog_7_method_6_code 3 (some .boolean) :: ws) ({ frames := 2, cells := 0, slots := 0, locals := 28 } : Room)) (fun aa_ U => aa_ = #[(.ref a), (.ref b)] ∧ Z.Warmed39 U.vm ∧ U.heap = h0) (fun _ _ _ _ _ => True) (fun _ U o U' => ∃ vV LL, o = .returned vV ∧ Q_eqL Z a b x0 t0 k0 c0 x1 t1 k1 c1 x2 t2 k2 c2 x3 t3 k3 c3 x4 t4 k4 c4 x5 t5 k5 c5 zc h0 n0 vV U'.heap LL ∧ FrameEnd U o U' LL ({ frames := 2, cells := 0, slots := 0, locals := 28 } : Room).cells ({ frames := 2, cells := 0, slots := 0, locals := 28 } : Room).slots) := by
  refine MetFree.of_bodySF (plainFor_of_name pn_3) hisR ?_
  intro pP eE sS mM args below meth cC s₁ Bd hml0 hP hK
  obtain ⟨rfl, hZ, hh⟩ := hP
  have hx := Bd.exec
  have hby := Bd.bytes
  have hml : cC.maxLocals = 3 := hml0
  have hown : sS.vm.findClass "com/example/entity_state_manager/entitystatemanager/QualifiedName" = some mM.cls := findClass_of_methodNamed Bd.named
  have hnm := (name_of_methodNamed Bd.named Bd.method).1
  have X0 : Stand pP l eE ({ frames := 2, cells := 0, slots := 0, locals := 28 } : Room) sS mM #[(.ref a), (.ref b)] below meth cC s₁ [] 0 0 := Stand.of_body Bd
  have e0 : s₁.heap = h0 := by rw [← hh, Bd.state]; rfl
  have N0 := Fr.nil n0
  have pre0 : ∀ tg, Steps pP.tables eE below (s₁.setTop (mkF mM 0 #[.val (.ref a), .val (.ref b), .unset] [])) tg → Steps pP.tables eE below (s₁.setTop (entryFrame mM #[(.ref a), (.ref b)] 3)) tg := fun tg kg => castTop (ef_eqL mM a b) kg
  obtain ⟨T1, X1, e1, st1⟩ := instY X0 hx hZ hown (w_44 hw) e0 (Ins.self E_b) (g := (mkF mM 1 #[.val (.ref a), .val (.ref b), .unset] [(.ref b)])) rfl rfl (hb hby d_prog_7_method_6_1)
  obtain ⟨T2, X2, e2, st2⟩ := castY X1 hx hZ hown (w_44 hw) e1 (Ins.self E_b) (g := (mkF mM 10 #[.val (.ref a), .val (.ref b), .unset] [(.ref b)])) rfl rfl (hb hby d_prog_7_method_6_10)
  obtain ⟨T3, X3, e3, st3⟩ := getF X2 hx hZ hown (host := "") (Or.inl (w_33 hw)) Via.refl e2 F_a_catalog (g := (mkF mM 15 #[.val (.ref a), .val (.ref b), .val (.ref b)] [(.ref a)])) rfl rfl (hb hby d_prog_7_method_6_15)
  obtain ⟨T4, X4, e4, st4⟩ := getF X3 hx hZ hown (host := "") (Or.inl (w_33 hw)) Via.refl e3 F_b_catalog (g := (mkF mM 19 #[.val (.ref a), .val (.ref b), .val (.ref b)] [(.ref b), (.ref x0)])) rfl rfl (hb hby d_prog_7_method_6_19)
  obtain ⟨cq5, kq5, q5a, q5b, q5c⟩ := isOf hZ e4 (Str_x0).1
  obtain ⟨_, _, ⟨T5, L5, k5, n5⟩, -, X5, ⟨Lc5, hQ5, l5, y5, z5⟩, st5⟩ := X4.virtualBack hx (y := (⟨"java/lang/String", "equals", "(Ljava/lang/Object;)Z"⟩ : MethodName)) (z := (⟨"java/lang/String", "equals", "(Ljava/lang/Object;)Z"⟩ : MethodName)) hown (mvT hZ (w_100 hw)) (mvT hZ (w_101 hw)) (notFace_of_selects (args := #[]) (mvT hZ (w_103 hw))) (mvT hZ (w_103 hw)) (mvT hZ (w_102 hw)) (by decide) (own_seq (W := 0) hZ hw (⟨(Str_x0).1, (Str_x0).2.1, (Str_x0).2.2.1, (Str_x0).2.2.2.1, (Str_x0).2.2.2.2⟩ : own_Str Z h0 x0 t0 k0 c0) (⟨(Str_x1).1, (Str_x1).2.1, (Str_x1).2.2.1, (Str_x1).2.2.2.1, (Str_x1).2.2.2.2⟩ : own_Str Z h0 x1 t1 k1 c1) (Sta.ext (O0).2 S_COMPACT_STRINGS) hp14 (by decide) (by decide)) q5a q5c (g := (mkF mM 22 #[.val (.ref a), .val (.ref b), .val (.ref b)] [(.ref x1), (.ref x0)])) rfl (by rw [hml]; rfl) (Steps.refl _) (argsL := [(.ref x1)]) (rest := []) (lenOf pd_7 rfl) rfl (by show 2 * 0 + _ ≤ _; exact Nat.le_of_eq rfl) (hb hby d_prog_7_method_6_22) (fun _ _ => ⟨rfl, e4, (by decide : 0 + 0 ≤ _), (by decide : 0 + 0 ≤ _)⟩)
  dsimp only [Pt.U, Pt.locs, Pt.cells, Pt.slots] at X5 l5 y5 z5 st5 hQ5
  subst l5 y5 z5
  obtain ⟨rfl, rfl, Kq5⟩ := hQ5
  try rw [List.append_nil] at X5
  have pre7 : ∀ tg, Steps pP.tables eE below (T5.setTop (mkF mM 25 #[.val (.ref a), .val (.ref b), .val (.ref b)] [(.int (if c0 = c1 then (1 : Int32) else (0 : Int32)))])) tg → Steps pP.tables eE below (s₁.setTop (entryFrame mM #[(.ref a), (.ref b)] 3)) tg := fun tg kg => pre0 tg (by
    refine XS.aloadN X0.here hx rfl (hb hby d_prog_7_method_6_0) rfl rfl ?_
    show Steps pP.tables eE below (s₁.setTop (mkF mM 1 #[.val (.ref a), .val (.ref b), .unset] [(.ref b)])) _
    refine st1 _ ?_
    show Steps pP.tables eE below (T1.setTop (mkF mM 4 #[.val (.ref a), .val (.ref b), .unset] [(.int (1 : Int32))])) _
    refine XS.ifYes X1.here hx rfl (pc0 := 4) (pc' := 9) rfl (hb hby d_prog_7_method_6_4) rfl ((if0 _ _).trans (feq (by decide : ¬ ((1 : Int32) = (0 : Int32)))).2) (by decide) (by decide) ?_
    show Steps pP.tables eE below (T1.setTop (mkF mM 9 #[.val (.ref a), .val (.ref b), .unset] [])) _
    refine XS.aloadN X1.here hx rfl (hb hby d_prog_7_method_6_9) rfl rfl ?_
    show Steps pP.tables eE below (T1.setTop (mkF mM 10 #[.val (.ref a), .val (.ref b), .unset] [(.ref b)])) _
    refine st2 _ ?_
    show Steps pP.tables eE below (T2.setTop (mkF mM 13 #[.val (.ref a), .val (.ref b), .unset] [(.ref b)])) _
    refine XS.astoreN X2.here hx rfl (hb hby d_prog_7_method_6_13) rfl rfl (l' := #[.val (.ref a), .val (.ref b), .val (.ref b)]) rfl ?_
    show Steps pP.tables eE below (T2.setTop (mkF mM 14 #[.val (.ref a), .val (.ref b), .val (.ref b)] [])) _
    refine XS.aloadN X2.here hx rfl (hb hby d_prog_7_method_6_14) rfl rfl ?_
    show Steps pP.tables eE below (T2.setTop (mkF mM 15 #[.val (.ref a), .val (.ref b), .val (.ref b)] [(.ref a)])) _
    refine st3 _ ?_
    show Steps pP.tables eE below (T3.setTop (mkF mM 18 #[.val (.ref a), .val (.ref b), .val (.ref b)] [(.ref x0)])) _
    refine XS.aloadN X3.here hx rfl (hb hby d_prog_7_method_6_18) rfl rfl ?_
    show Steps pP.tables eE below (T3.setTop (mkF mM 19 #[.val (.ref a), .val (.ref b), .val (.ref b)] [(.ref b), (.ref x0)])) _
    refine st4 _ ?_
    show Steps pP.tables eE below (T4.setTop (mkF mM 22 #[.val (.ref a), .val (.ref b), .val (.ref b)] [(.ref x1), (.ref x0)])) _
    refine st5.trans ?_
    exact kg)
  by_cases hc6 : (if c0 = c1 then (1 : Int32) else (0 : Int32)) = (0 : Int32)
  · obtain ⟨fs, hr, hrun, hended, hW, hsame⟩ := X5.leave (v := some (.int (0 : Int32))) (fun h => by rw [Bd.returns] at h; cases h)
    refine ⟨_, _, pre7 _ ?_, hrun, hended, _, _, rfl, ?_, ⟨_, rfl⟩, hW, hsame.mono (by decide) (by decide)⟩
    · refine XS.ifYes X5.here hx rfl (pc0 := 25) (pc' := 60) rfl (hb hby d_prog_7_method_6_25) rfl ((if0 _ _).trans (teq hc6).1) (by decide) (by decide) ?_
      show Steps pP.tables eE below (T5.setTop (mkF mM 60 #[.val (.ref a), .val (.ref b), .val (.ref b)] [])) _
      refine XS.iconst X5.here hx rfl (hb hby d_prog_7_method_6_60) ?_
      show Steps pP.tables eE below (T5.setTop (mkF mM 61 #[.val (.ref a), .val (.ref b), .val (.ref b)] [(.int (0 : Int32))])) _
      exact retN X5 hx (t := .boolean) Bd.returns (by simp) (hb hby d_prog_7_method_6_61) hr
    · show Q_eqL Z a b x0 t0 k0 c0 x1 t1 k1 c1 x2 t2 k2 c2 x3 t3 k3 c3 x4 t4 k4 c4 x5 t5 k5 c5 zc h0 n0 _ T5.heap _
      rw [Kq5]
      exact ⟨(by rw [own_qeq, if_pos hc6]), rfl, rfl⟩
  · obtain ⟨T9, X9, e9, st9⟩ := getF X5 hx hZ hown (host := "") (Or.inl (w_35 hw)) Via.refl Kq5 F_a_schema (g := (mkF mM 29 #[.val (.ref a), .val (.ref b), .val (.ref b)] [(.ref a)])) rfl rfl (hb hby d_prog_7_method_6_29)
    obtain ⟨T10, X10, e10, st10⟩ := getF X9 hx hZ hown (host := "") (Or.inl (w_35 hw)) Via.refl e9 F_b_schema (g := (mkF mM 33 #[.val (.ref a), .val (.ref b), .val (.ref b)] [(.ref b), (.ref x2)])) rfl rfl (hb hby d_prog_7_method_6_33)
    obtain ⟨cq11, kq11, q11a, q11b, q11c⟩ := isOf hZ e10 (Str_x2).1
    obtain ⟨_, _, ⟨T11, L11, k11, n11⟩, -, X11, ⟨Lc11, hQ11, l11, y11, z11⟩, st11⟩ := X10.virtualBack hx (y := (⟨"java/lang/String", "equals", "(Ljava/lang/Object;)Z"⟩ : MethodName)) (z := (⟨"java/lang/String", "equals", "(Ljava/lang/Object;)Z"⟩ : MethodName)) hown (mvT hZ (w_100 hw)) (mvT hZ (w_101 hw)) (notFace_of_selects (args := #[]) (mvT hZ (w_103 hw))) (mvT hZ (w_103 hw)) (mvT hZ (w_102 hw)) (by decide) (own_seq (W := 0) hZ hw (⟨(Str_x2).1, (Str_x2).2.1, (Str_x2).2.2.1, (Str_x2).2.2.2.1, (Str_x2).2.2.2.2⟩ : own_Str Z h0 x2 t2 k2 c2) (⟨(Str_x3).1, (Str_x3).2.1, (Str_x3).2.2.1, (Str_x3).2.2.2.1, (Str_x3).2.2.2.2⟩ : own_Str Z h0 x3 t3 k3 c3) (Sta.ext (O0).2 S_COMPACT_STRINGS) hp14 (by decide) (by decide)) q11a q11c (g := (mkF mM 36 #[.val (.ref a), .val (.ref b), .val (.ref b)] [(.ref x3), (.ref x2)])) rfl (by rw [hml]; rfl) (Steps.refl _) (argsL := [(.ref x3)]) (rest := []) (lenOf pd_7 rfl) rfl (by show 2 * 0 + _ ≤ _; exact Nat.le_of_eq rfl) (hb hby d_prog_7_method_6_36) (fun _ _ => ⟨rfl, e10, (by decide : 0 + 0 ≤ _), (by decide : 0 + 0 ≤ _)⟩)
    dsimp only [Pt.U, Pt.locs, Pt.cells, Pt.slots] at X11 l11 y11 z11 st11 hQ11
    subst l11 y11 z11
    obtain ⟨rfl, rfl, Kq11⟩ := hQ11
    try rw [List.append_nil] at X11
    have pre13 : ∀ tg, Steps pP.tables eE below (T11.setTop (mkF mM 39 #[.val (.ref a), .val (.ref b), .val (.ref b)] [(.int (if c2 = c3 then (1 : Int32) else (0 : Int32)))])) tg → Steps pP.tables eE below (s₁.setTop (entryFrame mM #[(.ref a), (.ref b)] 3)) tg := fun tg kg => pre7 tg (by
      refine XS.ifNo X5.here hx rfl (hb hby d_prog_7_method_6_25) rfl ((if0 _ _).trans (feq hc6).1) ?_
      show Steps pP.tables eE below (T5.setTop (mkF mM 28 #[.val (.ref a), .val (.ref b), .val (.ref b)] [])) _
      refine XS.aloadN X5.here hx rfl (hb hby d_prog_7_method_6_28) rfl rfl ?_
      show Steps pP.tables eE below (T5.setTop (mkF mM 29 #[.val (.ref a), .val (.ref b), .val (.ref b)] [(.ref a)])) _
      refine st9 _ ?_
      show Steps pP.tables eE below (T9.setTop (mkF mM 32 #[.val (.ref a), .val (.ref b), .val (.ref b)] [(.ref x2)])) _
      refine XS.aloadN X9.here hx rfl (hb hby d_prog_7_method_6_32) rfl rfl ?_
      show Steps pP.tables eE below (T9.setTop (mkF mM 33 #[.val (.ref a), .val (.ref b), .val (.ref b)] [(.ref b), (.ref x2)])) _
      refine st10 _ ?_
      show Steps pP.tables eE below (T10.setTop (mkF mM 36 #[.val (.ref a), .val (.ref b), .val (.ref b)] [(.ref x3), (.ref x2)])) _
      refine st11.trans ?_
      exact kg)
    by_cases hc12 : (if c2 = c3 then (1 : Int32) else (0 : Int32)) = (0 : Int32)
    · obtain ⟨fs, hr, hrun, hended, hW, hsame⟩ := X11.leave (v := some (.int (0 : Int32))) (fun h => by rw [Bd.returns] at h; cases h)
      refine ⟨_, _, pre13 _ ?_, hrun, hended, _, _, rfl, ?_, ⟨_, rfl⟩, hW, hsame.mono (by decide) (by decide)⟩
      · refine XS.ifYes X11.here hx rfl (pc0 := 39) (pc' := 60) rfl (hb hby d_prog_7_method_6_39) rfl ((if0 _ _).trans (teq hc12).1) (by decide) (by decide) ?_
        show Steps pP.tables eE below (T11.setTop (mkF mM 60 #[.val (.ref a), .val (.ref b), .val (.ref b)] [])) _
        refine XS.iconst X11.here hx rfl (hb hby d_prog_7_method_6_60) ?_
        show Steps pP.tables eE below (T11.setTop (mkF mM 61 #[.val (.ref a), .val (.ref b), .val (.ref b)] [(.int (0 : Int32))])) _
        exact retN X11 hx (t := .boolean) Bd.returns (by simp) (hb hby d_prog_7_method_6_61) hr
      · show Q_eqL Z a b x0 t0 k0 c0 x1 t1 k1 c1 x2 t2 k2 c2 x3 t3 k3 c3 x4 t4 k4 c4 x5 t5 k5 c5 zc h0 n0 _ T11.heap _
        rw [Kq11]
        exact ⟨(by rw [own_qeq, if_neg hc6, if_pos hc12]), rfl, rfl⟩
    · obtain ⟨T15, X15, e15, st15⟩ := getF X11 hx hZ hown (host := "") (Or.inl (w_37 hw)) Via.refl Kq11 F_a_name (g := (mkF mM 43 #[.val (.ref a), .val (.ref b), .val (.ref b)] [(.ref a)])) rfl rfl (hb hby d_prog_7_method_6_43)
      obtain ⟨T16, X16, e16, st16⟩ := getF X15 hx hZ hown (host := "") (Or.inl (w_37 hw)) Via.refl e15 F_b_name (g := (mkF mM 47 #[.val (.ref a), .val (.ref b), .val (.ref b)] [(.ref b), (.ref x4)])) rfl rfl (hb hby d_prog_7_method_6_47)
      obtain ⟨cq17, kq17, q17a, q17b, q17c⟩ := isOf hZ e16 (Str_x4).1
      obtain ⟨_, _, ⟨T17, L17, k17, n17⟩, -, X17, ⟨Lc17, hQ17, l17, y17, z17⟩, st17⟩ := X16.virtualBack hx (y := (⟨"java/lang/String", "equals", "(Ljava/lang/Object;)Z"⟩ : MethodName)) (z := (⟨"java/lang/String", "equals", "(Ljava/lang/Object;)Z"⟩ : MethodName)) hown (mvT hZ (w_100 hw)) (mvT hZ (w_101 hw)) (notFace_of_selects (args := #[]) (mvT hZ (w_103 hw))) (mvT hZ (w_103 hw)) (mvT hZ (w_102 hw)) (by decide) (own_seq (W := 0) hZ hw (⟨(Str_x4).1, (Str_x4).2.1, (Str_x4).2.2.1, (Str_x4).2.2.2.1, (Str_x4).2.2.2.2⟩ : own_Str Z h0 x4 t4 k4 c4) (⟨(Str_x5).1, (Str_x5).2.1, (Str_x5).2.2.1, (Str_x5).2.2.2.1, (Str_x5).2.2.2.2⟩ : own_Str Z h0 x5 t5 k5 c5) (Sta.ext (O0).2 S_COMPACT_STRINGS) hp14 (by decide) (by decide)) q17a q17c (g := (mkF mM 50 #[.val (.ref a), .val (.ref b), .val (.ref b)] [(.ref x5), (.ref x4)])) rfl (by rw [hml]; rfl) (Steps.refl _) (argsL := [(.ref x5)]) (rest := []) (lenOf pd_7 rfl) rfl (by show 2 * 0 + _ ≤ _; exact Nat.le_of_eq rfl) (hb hby d_prog_7_method_6_50) (fun _ _ => ⟨rfl, e16, (by decide : 0 + 0 ≤ _), (by decide : 0 + 0 ≤ _)⟩)
      dsimp only [Pt.U, Pt.locs, Pt.cells, Pt.slots] at X17 l17 y17 z17 st17 hQ17
      subst l17 y17 z17
      obtain ⟨rfl, rfl, Kq17⟩ := hQ17
      try rw [List.append_nil] at X17
      have pre19 : ∀ tg, Steps pP.tables eE below (T17.setTop (mkF mM 53 #[.val (.ref a), .val (.ref b), .val (.ref b)] [(.int (if c4 = c5 then (1 : Int32) else (0 : Int32)))])) tg → Steps pP.tables eE below (s₁.setTop (entryFrame mM #[(.ref a), (.ref b)] 3)) tg := fun tg kg => pre13 tg (by
        refine XS.ifNo X11.here hx rfl (hb hby d_prog_7_method_6_39) rfl ((if0 _ _).trans (feq hc12).1) ?_
        show Steps pP.tables eE below (T11.setTop (mkF mM 42 #[.val (.ref a), .val (.ref b), .val (.ref b)] [])) _
        refine XS.aloadN X11.here hx rfl (hb hby d_prog_7_method_6_42) rfl rfl ?_
        show Steps pP.tables eE below (T11.setTop (mkF mM 43 #[.val (.ref a), .val (.ref b), .val (.ref b)] [(.ref a)])) _
        refine st15 _ ?_
        show Steps pP.tables eE below (T15.setTop (mkF mM 46 #[.val (.ref a), .val (.ref b), .val (.ref b)] [(.ref x4)])) _
        refine XS.aloadN X15.here hx rfl (hb hby d_prog_7_method_6_46) rfl rfl ?_
        show Steps pP.tables eE below (T15.setTop (mkF mM 47 #[.val (.ref a), .val (.ref b), .val (.ref b)] [(.ref b), (.ref x4)])) _
        refine st16 _ ?_
        show Steps pP.tables eE below (T16.setTop (mkF mM 50 #[.val (.ref a), .val (.ref b), .val (.ref b)] [(.ref x5), (.ref x4)])) _
        refine st17.trans ?_
        exact kg)
      by_cases hc18 : (if c4 = c5 then (1 : Int32) else (0 : Int32)) = (0 : Int32)
      · obtain ⟨fs, hr, hrun, hended, hW, hsame⟩ := X17.leave (v := some (.int (0 : Int32))) (fun h => by rw [Bd.returns] at h; cases h)
        refine ⟨_, _, pre19 _ ?_, hrun, hended, _, _, rfl, ?_, ⟨_, rfl⟩, hW, hsame.mono (by decide) (by decide)⟩
        · refine XS.ifYes X17.here hx rfl (pc0 := 53) (pc' := 60) rfl (hb hby d_prog_7_method_6_53) rfl ((if0 _ _).trans (teq hc18).1) (by decide) (by decide) ?_
          show Steps pP.tables eE below (T17.setTop (mkF mM 60 #[.val (.ref a), .val (.ref b), .val (.ref b)] [])) _
          refine XS.iconst X17.here hx rfl (hb hby d_prog_7_method_6_60) ?_
          show Steps pP.tables eE below (T17.setTop (mkF mM 61 #[.val (.ref a), .val (.ref b), .val (.ref b)] [(.int (0 : Int32))])) _
          exact retN X17 hx (t := .boolean) Bd.returns (by simp) (hb hby d_prog_7_method_6_61) hr
        · show Q_eqL Z a b x0 t0 k0 c0 x1 t1 k1 c1 x2 t2 k2 c2 x3 t3 k3 c3 x4 t4 k4 c4 x5 t5 k5 c5 zc h0 n0 _ T17.heap _
          rw [Kq17]
          exact ⟨(by rw [own_qeq, if_neg hc6, if_neg hc12, if_pos hc18]), rfl, rfl⟩
      · obtain ⟨fs, hr, hrun, hended, hW, hsame⟩ := X17.leave (v := some (.int (1 : Int32))) (fun h => by rw [Bd.returns] at h; cases h)
        refine ⟨_, _, pre19 _ ?_, hrun, hended, _, _, rfl, ?_, ⟨_, rfl⟩, hW, hsame.mono (by decide) (by decide)⟩
        · refine XS.ifNo X17.here hx rfl (hb hby d_prog_7_method_6_53) rfl ((if0 _ _).trans (feq hc18).1) ?_
          show Steps pP.tables eE below (T17.setTop (mkF mM 56 #[.val (.ref a), .val (.ref b), .val (.ref b)] [])) _
          refine XS.iconst X17.here hx rfl (hb hby d_prog_7_method_6_56) ?_
          show Steps pP.tables eE below (T17.setTop (mkF mM 57 #[.val (.ref a), .val (.ref b), .val (.ref b)] [(.int (1 : Int32))])) _
          refine XS.goto X17.here hx rfl (pc0 := 57) (pc' := 61) rfl (hb hby d_prog_7_method_6_57) (by decide) (by decide) ?_
          show Steps pP.tables eE below (T17.setTop (mkF mM 61 #[.val (.ref a), .val (.ref b), .val (.ref b)] [(.int (1 : Int32))])) _
          exact retN X17 hx (t := .boolean) Bd.returns (by simp) (hb hby d_prog_7_method_6_61) hr
        · show Q_eqL Z a b x0 t0 k0 c0 x1 t1 k1 c1 x2 t2 k2 c2 x3 t3 k3 c3 x4 t4 k4 c4 x5 t5 k5 c5 zc h0 n0 _ T17.heap _
          rw [Kq17]
          exact ⟨(by rw [own_qeq, if_neg hc6, if_neg hc12, if_neg hc18]), rfl, rfl⟩
theorem ef_eqX (m : MethodId) (x0 : Addr) (x1 : Addr) : entryFrame m #[(.ref x0), (.ref x1)] 3 = mkF m 0 #[.val (.ref x0), .val (.ref x1), .unset] [] := by first | (simp [entryFrame, mkF, argsToLocals, Value.category]; done) | rfl
def Q_eqX (Z : State) (a : Addr) (x0 : Addr) (t0 : Addr) (k0 : ClassId) (c0 : List Int32) (x1 : Addr) (t1 : Addr) (k1 : ClassId) (c1 : List Int32) (x2 : Addr) (t2 : Addr) (k2 : ClassId) (c2 : List Int32) (zc : Int32) (h0 : Heap) (n0 : Nat) (vV : Option Value) (h : Heap) (LL : List Loc) : Prop := vV = some (.int (1 : Int32)) ∧ LL = [] ∧ h = h0
set_option maxRecDepth 65536 in
set_option maxHeartbeats 40000000 in
theorem rm_eqX (l : Launch) (Z : State) (a0 : Array Value) (hw : ∀ d ∈ tables_1, d.before a0 Z = true) (ws : List Jvm.Cond) (a : Addr) (x0 : Addr) (t0 : Addr) (k0 : ClassId) (c0 : List Int32) (x1 : Addr) (t1 : Addr) (k1 : ClassId) (c1 : List Int32) (x2 : Addr) (t2 : Addr) (k2 : ClassId) (c2 : List Int32) (zc : Int32) (h0 : Heap) (n0 : Nat) (O0 : Old Z n0 h0) (E_a : Exa Z h0 a "com/example/entity_state_manager/entitystatemanager/QualifiedName") (F_a_catalog : Fld Z h0 a "com/example/entity_state_manager/entitystatemanager/QualifiedName" "catalog" "Ljava/lang/String;" (.ref x0)) (F_a_schema : Fld Z h0 a "com/example/entity_state_manager/entitystatemanager/QualifiedName" "schema" "Ljava/lang/String;" (.ref x1)) (F_a_name : Fld Z h0 a "com/example/entity_state_manager/entitystatemanager/QualifiedName" "name" "Ljava/lang/String;" (.ref x2)) (Str_x0 : own_Str Z h0 x0 t0 k0 c0) (Str_x1 : own_Str Z h0 x1 t1 k1 c1) (Str_x2 : own_Str Z h0 x2 t2 k2 c2) (S_COMPACT_STRINGS : Sta Z Z.heap "java/lang/String" "COMPACT_STRINGS" "Z" (.int zc)) (hp8 : (¬ (zc = (0 : Int32)))) :
    MetFree l (⟨"com/example/entity_state_manager/entitystatemanager/QualifiedName", "equals", "(Ljava/lang/Object;)Z"⟩ : MethodName) (head1 (Jvm.Cond.code (⟨"com/example/entity_state_manager/entitystatemanager/QualifiedName", "equals", "(Ljava/lang/Object;)Z"⟩ : MethodName) prog_7_method_6_code 3 (some .boolean) :: ws) ({ frames := 2, cells := 0, slots := 0, locals := 28 } : Room)) (fun aa_ U => aa_ = #[(.ref a), (.ref a)] ∧ Z.Warmed39 U.vm ∧ U.heap = h0) (fun _ _ _ _ _ => True) (fun _ U o U' => ∃ vV LL, o = .returned vV ∧ Q_eqX Z a x0 t0 k0 c0 x1 t1 k1 c1 x2 t2 k2 c2 zc h0 n0 vV U'.heap LL ∧ FrameEnd U o U' LL ({ frames := 2, cells := 0, slots := 0, locals := 28 } : Room).cells ({ frames := 2, cells := 0, slots := 0, locals := 28 } : Room).slots) := by
  refine MetFree.of_bodySF (plainFor_of_name pn_3) hisR ?_
  intro pP eE sS mM args below meth cC s₁ Bd hml0 hP hK
  obtain ⟨rfl, hZ, hh⟩ := hP
  have hx := Bd.exec
  have hby := Bd.bytes
  have hml : cC.maxLocals = 3 := hml0
  have hown : sS.vm.findClass "com/example/entity_state_manager/entitystatemanager/QualifiedName" = some mM.cls := findClass_of_methodNamed Bd.named
  have hnm := (name_of_methodNamed Bd.named Bd.method).1
  have X0 : Stand pP l eE ({ frames := 2, cells := 0, slots := 0, locals := 28 } : Room) sS mM #[(.ref a), (.ref a)] below meth cC s₁ [] 0 0 := Stand.of_body Bd
  have e0 : s₁.heap = h0 := by rw [← hh, Bd.state]; rfl
  have N0 := Fr.nil n0
  have pre0 : ∀ tg, Steps pP.tables eE below (s₁.setTop (mkF mM 0 #[.val (.ref a), .val (.ref a), .unset] [])) tg → Steps pP.tables eE below (s₁.setTop (entryFrame mM #[(.ref a), (.ref a)] 3)) tg := fun tg kg => castTop (ef_eqX mM a a) kg
  obtain ⟨T1, X1, e1, st1⟩ := instY X0 hx hZ hown (w_44 hw) e0 (Ins.self E_a) (g := (mkF mM 1 #[.val (.ref a), .val (.ref a), .unset] [(.ref a)])) rfl rfl (hb hby d_prog_7_method_6_1)
  obtain ⟨T2, X2, e2, st2⟩ := castY X1 hx hZ hown (w_44 hw) e1 (Ins.self E_a) (g := (mkF mM 10 #[.val (.ref a), .val (.ref a), .unset] [(.ref a)])) rfl rfl (hb hby d_prog_7_method_6_10)
  obtain ⟨T3, X3, e3, st3⟩ := getF X2 hx hZ hown (host := "") (Or.inl (w_33 hw)) Via.refl e2 F_a_catalog (g := (mkF mM 15 #[.val (.ref a), .val (.ref a), .val (.ref a)] [(.ref a)])) rfl rfl (hb hby d_prog_7_method_6_15)
  obtain ⟨T4, X4, e4, st4⟩ := getF X3 hx hZ hown (host := "") (Or.inl (w_33 hw)) Via.refl e3 F_a_catalog (g := (mkF mM 19 #[.val (.ref a), .val (.ref a), .val (.ref a)] [(.ref a), (.ref x0)])) rfl rfl (hb hby d_prog_7_method_6_19)
  obtain ⟨cq5, kq5, q5a, q5b, q5c⟩ := isOf hZ e4 (Str_x0).1
  obtain ⟨_, _, ⟨T5, L5, k5, n5⟩, -, X5, ⟨Lc5, hQ5, l5, y5, z5⟩, st5⟩ := X4.virtualBack hx (y := (⟨"java/lang/String", "equals", "(Ljava/lang/Object;)Z"⟩ : MethodName)) (z := (⟨"java/lang/String", "equals", "(Ljava/lang/Object;)Z"⟩ : MethodName)) hown (mvT hZ (w_100 hw)) (mvT hZ (w_101 hw)) (notFace_of_selects (args := #[]) (mvT hZ (w_103 hw))) (mvT hZ (w_103 hw)) (mvT hZ (w_102 hw)) (by decide) (own_seq (W := 0) hZ hw (⟨(Str_x0).1, (Str_x0).2.1, (Str_x0).2.2.1, (Str_x0).2.2.2.1, (Str_x0).2.2.2.2⟩ : own_Str Z h0 x0 t0 k0 c0) (⟨(Str_x0).1, (Str_x0).2.1, (Str_x0).2.2.1, (Str_x0).2.2.2.1, (Str_x0).2.2.2.2⟩ : own_Str Z h0 x0 t0 k0 c0) (Sta.ext (O0).2 S_COMPACT_STRINGS) hp8 (by decide) (by decide)) q5a q5c (g := (mkF mM 22 #[.val (.ref a), .val (.ref a), .val (.ref a)] [(.ref x0), (.ref x0)])) rfl (by rw [hml]; rfl) (Steps.refl _) (argsL := [(.ref x0)]) (rest := []) (lenOf pd_7 rfl) rfl (by show 2 * 0 + _ ≤ _; exact Nat.le_of_eq rfl) (hb hby d_prog_7_method_6_22) (fun _ _ => ⟨rfl, e4, (by decide : 0 + 0 ≤ _), (by decide : 0 + 0 ≤ _)⟩)
  dsimp only [Pt.U, Pt.locs, Pt.cells, Pt.slots] at X5 l5 y5 z5 st5 hQ5
  subst l5 y5 z5
  obtain ⟨rfl, rfl, Kq5⟩ := hQ5
  try rw [List.append_nil] at X5
  obtain ⟨T6, X6, e6, st6⟩ := getF X5 hx hZ hown (host := "") (Or.inl (w_35 hw)) Via.refl Kq5 F_a_schema (g := (mkF mM 29 #[.val (.ref a), .val (.ref a), .val (.ref a)] [(.ref a)])) rfl rfl (hb hby d_prog_7_method_6_29)
  obtain ⟨T7, X7, e7, st7⟩ := getF X6 hx hZ hown (host := "") (Or.inl (w_35 hw)) Via.refl e6 F_a_schema (g := (mkF mM 33 #[.val (.ref a), .val (.ref a), .val (.ref a)] [(.ref a), (.ref x1)])) rfl rfl (hb hby d_prog_7_method_6_33)
  obtain ⟨cq8, kq8, q8a, q8b, q8c⟩ := isOf hZ e7 (Str_x1).1
  obtain ⟨_, _, ⟨T8, L8, k8, n8⟩, -, X8, ⟨Lc8, hQ8, l8, y8, z8⟩, st8⟩ := X7.virtualBack hx (y := (⟨"java/lang/String", "equals", "(Ljava/lang/Object;)Z"⟩ : MethodName)) (z := (⟨"java/lang/String", "equals", "(Ljava/lang/Object;)Z"⟩ : MethodName)) hown (mvT hZ (w_100 hw)) (mvT hZ (w_101 hw)) (notFace_of_selects (args := #[]) (mvT hZ (w_103 hw))) (mvT hZ (w_103 hw)) (mvT hZ (w_102 hw)) (by decide) (own_seq (W := 0) hZ hw (⟨(Str_x1).1, (Str_x1).2.1, (Str_x1).2.2.1, (Str_x1).2.2.2.1, (Str_x1).2.2.2.2⟩ : own_Str Z h0 x1 t1 k1 c1) (⟨(Str_x1).1, (Str_x1).2.1, (Str_x1).2.2.1, (Str_x1).2.2.2.1, (Str_x1).2.2.2.2⟩ : own_Str Z h0 x1 t1 k1 c1) (Sta.ext (O0).2 S_COMPACT_STRINGS) hp8 (by decide) (by decide)) q8a q8c (g := (mkF mM 36 #[.val (.ref a), .val (.ref a), .val (.ref a)] [(.ref x1), (.ref x1)])) rfl (by rw [hml]; rfl) (Steps.refl _) (argsL := [(.ref x1)]) (rest := []) (lenOf pd_7 rfl) rfl (by show 2 * 0 + _ ≤ _; exact Nat.le_of_eq rfl) (hb hby d_prog_7_method_6_36) (fun _ _ => ⟨rfl, e7, (by decide : 0 + 0 ≤ _), (by decide : 0 + 0 ≤ _)⟩)
  dsimp only [Pt.U, Pt.locs, Pt.cells, Pt.slots] at X8 l8 y8 z8 st8 hQ8
  subst l8 y8 z8
  obtain ⟨rfl, rfl, Kq8⟩ := hQ8
  try rw [List.append_nil] at X8
  obtain ⟨T9, X9, e9, st9⟩ := getF X8 hx hZ hown (host := "") (Or.inl (w_37 hw)) Via.refl Kq8 F_a_name (g := (mkF mM 43 #[.val (.ref a), .val (.ref a), .val (.ref a)] [(.ref a)])) rfl rfl (hb hby d_prog_7_method_6_43)
  obtain ⟨T10, X10, e10, st10⟩ := getF X9 hx hZ hown (host := "") (Or.inl (w_37 hw)) Via.refl e9 F_a_name (g := (mkF mM 47 #[.val (.ref a), .val (.ref a), .val (.ref a)] [(.ref a), (.ref x2)])) rfl rfl (hb hby d_prog_7_method_6_47)
  obtain ⟨cq11, kq11, q11a, q11b, q11c⟩ := isOf hZ e10 (Str_x2).1
  obtain ⟨_, _, ⟨T11, L11, k11, n11⟩, -, X11, ⟨Lc11, hQ11, l11, y11, z11⟩, st11⟩ := X10.virtualBack hx (y := (⟨"java/lang/String", "equals", "(Ljava/lang/Object;)Z"⟩ : MethodName)) (z := (⟨"java/lang/String", "equals", "(Ljava/lang/Object;)Z"⟩ : MethodName)) hown (mvT hZ (w_100 hw)) (mvT hZ (w_101 hw)) (notFace_of_selects (args := #[]) (mvT hZ (w_103 hw))) (mvT hZ (w_103 hw)) (mvT hZ (w_102 hw)) (by decide) (own_seq (W := 0) hZ hw (⟨(Str_x2).1, (Str_x2).2.1, (Str_x2).2.2.1, (Str_x2).2.2.2.1, (Str_x2).2.2.2.2⟩ : own_Str Z h0 x2 t2 k2 c2) (⟨(Str_x2).1, (Str_x2).2.1, (Str_x2).2.2.1, (Str_x2).2.2.2.1, (Str_x2).2.2.2.2⟩ : own_Str Z h0 x2 t2 k2 c2) (Sta.ext (O0).2 S_COMPACT_STRINGS) hp8 (by decide) (by decide)) q11a q11c (g := (mkF mM 50 #[.val (.ref a), .val (.ref a), .val (.ref a)] [(.ref x2), (.ref x2)])) rfl (by rw [hml]; rfl) (Steps.refl _) (argsL := [(.ref x2)]) (rest := []) (lenOf pd_7 rfl) rfl (by show 2 * 0 + _ ≤ _; exact Nat.le_of_eq rfl) (hb hby d_prog_7_method_6_50) (fun _ _ => ⟨rfl, e10, (by decide : 0 + 0 ≤ _), (by decide : 0 + 0 ≤ _)⟩)
  dsimp only [Pt.U, Pt.locs, Pt.cells, Pt.slots] at X11 l11 y11 z11 st11 hQ11
  subst l11 y11 z11
  obtain ⟨rfl, rfl, Kq11⟩ := hQ11
  try rw [List.append_nil] at X11
  obtain ⟨fs, hr, hrun, hended, hW, hsame⟩ := X11.leave (v := some (.int (1 : Int32))) (fun h => by rw [Bd.returns] at h; cases h)
  refine ⟨_, _, pre0 _ ?_, hrun, hended, _, _, rfl, ?_, ⟨_, rfl⟩, hW, hsame.mono (by decide) (by decide)⟩
  · refine XS.aloadN X0.here hx rfl (hb hby d_prog_7_method_6_0) rfl rfl ?_
    show Steps pP.tables eE below (s₁.setTop (mkF mM 1 #[.val (.ref a), .val (.ref a), .unset] [(.ref a)])) _
    refine st1 _ ?_
    show Steps pP.tables eE below (T1.setTop (mkF mM 4 #[.val (.ref a), .val (.ref a), .unset] [(.int (1 : Int32))])) _
    refine XS.ifYes X1.here hx rfl (pc0 := 4) (pc' := 9) rfl (hb hby d_prog_7_method_6_4) rfl ((if0 _ _).trans (feq (by decide : ¬ ((1 : Int32) = (0 : Int32)))).2) (by decide) (by decide) ?_
    show Steps pP.tables eE below (T1.setTop (mkF mM 9 #[.val (.ref a), .val (.ref a), .unset] [])) _
    refine XS.aloadN X1.here hx rfl (hb hby d_prog_7_method_6_9) rfl rfl ?_
    show Steps pP.tables eE below (T1.setTop (mkF mM 10 #[.val (.ref a), .val (.ref a), .unset] [(.ref a)])) _
    refine st2 _ ?_
    show Steps pP.tables eE below (T2.setTop (mkF mM 13 #[.val (.ref a), .val (.ref a), .unset] [(.ref a)])) _
    refine XS.astoreN X2.here hx rfl (hb hby d_prog_7_method_6_13) rfl rfl (l' := #[.val (.ref a), .val (.ref a), .val (.ref a)]) rfl ?_
    show Steps pP.tables eE below (T2.setTop (mkF mM 14 #[.val (.ref a), .val (.ref a), .val (.ref a)] [])) _
    refine XS.aloadN X2.here hx rfl (hb hby d_prog_7_method_6_14) rfl rfl ?_
    show Steps pP.tables eE below (T2.setTop (mkF mM 15 #[.val (.ref a), .val (.ref a), .val (.ref a)] [(.ref a)])) _
    refine st3 _ ?_
    show Steps pP.tables eE below (T3.setTop (mkF mM 18 #[.val (.ref a), .val (.ref a), .val (.ref a)] [(.ref x0)])) _
    refine XS.aloadN X3.here hx rfl (hb hby d_prog_7_method_6_18) rfl rfl ?_
    show Steps pP.tables eE below (T3.setTop (mkF mM 19 #[.val (.ref a), .val (.ref a), .val (.ref a)] [(.ref a), (.ref x0)])) _
    refine st4 _ ?_
    show Steps pP.tables eE below (T4.setTop (mkF mM 22 #[.val (.ref a), .val (.ref a), .val (.ref a)] [(.ref x0), (.ref x0)])) _
    refine st5.trans ?_
    show Steps pP.tables eE below (T5.setTop (mkF mM 25 #[.val (.ref a), .val (.ref a), .val (.ref a)] [(.int (if c0 = c0 then (1 : Int32) else (0 : Int32)))])) _
    rw [(if_pos rfl : (if c0 = c0 then (1 : Int32) else (0 : Int32)) = (1 : Int32))]
    show Steps pP.tables eE below (T5.setTop (mkF mM 25 #[.val (.ref a), .val (.ref a), .val (.ref a)] [(.int (1 : Int32))])) _
    refine XS.ifNo X5.here hx rfl (hb hby d_prog_7_method_6_25) rfl ((if0 _ _).trans (feq (by decide : ¬ ((1 : Int32) = (0 : Int32)))).1) ?_
    show Steps pP.tables eE below (T5.setTop (mkF mM 28 #[.val (.ref a), .val (.ref a), .val (.ref a)] [])) _
    refine XS.aloadN X5.here hx rfl (hb hby d_prog_7_method_6_28) rfl rfl ?_
    show Steps pP.tables eE below (T5.setTop (mkF mM 29 #[.val (.ref a), .val (.ref a), .val (.ref a)] [(.ref a)])) _
    refine st6 _ ?_
    show Steps pP.tables eE below (T6.setTop (mkF mM 32 #[.val (.ref a), .val (.ref a), .val (.ref a)] [(.ref x1)])) _
    refine XS.aloadN X6.here hx rfl (hb hby d_prog_7_method_6_32) rfl rfl ?_
    show Steps pP.tables eE below (T6.setTop (mkF mM 33 #[.val (.ref a), .val (.ref a), .val (.ref a)] [(.ref a), (.ref x1)])) _
    refine st7 _ ?_
    show Steps pP.tables eE below (T7.setTop (mkF mM 36 #[.val (.ref a), .val (.ref a), .val (.ref a)] [(.ref x1), (.ref x1)])) _
    refine st8.trans ?_
    show Steps pP.tables eE below (T8.setTop (mkF mM 39 #[.val (.ref a), .val (.ref a), .val (.ref a)] [(.int (if c1 = c1 then (1 : Int32) else (0 : Int32)))])) _
    rw [(if_pos rfl : (if c1 = c1 then (1 : Int32) else (0 : Int32)) = (1 : Int32))]
    show Steps pP.tables eE below (T8.setTop (mkF mM 39 #[.val (.ref a), .val (.ref a), .val (.ref a)] [(.int (1 : Int32))])) _
    refine XS.ifNo X8.here hx rfl (hb hby d_prog_7_method_6_39) rfl ((if0 _ _).trans (feq (by decide : ¬ ((1 : Int32) = (0 : Int32)))).1) ?_
    show Steps pP.tables eE below (T8.setTop (mkF mM 42 #[.val (.ref a), .val (.ref a), .val (.ref a)] [])) _
    refine XS.aloadN X8.here hx rfl (hb hby d_prog_7_method_6_42) rfl rfl ?_
    show Steps pP.tables eE below (T8.setTop (mkF mM 43 #[.val (.ref a), .val (.ref a), .val (.ref a)] [(.ref a)])) _
    refine st9 _ ?_
    show Steps pP.tables eE below (T9.setTop (mkF mM 46 #[.val (.ref a), .val (.ref a), .val (.ref a)] [(.ref x2)])) _
    refine XS.aloadN X9.here hx rfl (hb hby d_prog_7_method_6_46) rfl rfl ?_
    show Steps pP.tables eE below (T9.setTop (mkF mM 47 #[.val (.ref a), .val (.ref a), .val (.ref a)] [(.ref a), (.ref x2)])) _
    refine st10 _ ?_
    show Steps pP.tables eE below (T10.setTop (mkF mM 50 #[.val (.ref a), .val (.ref a), .val (.ref a)] [(.ref x2), (.ref x2)])) _
    refine st11.trans ?_
    show Steps pP.tables eE below (T11.setTop (mkF mM 53 #[.val (.ref a), .val (.ref a), .val (.ref a)] [(.int (if c2 = c2 then (1 : Int32) else (0 : Int32)))])) _
    rw [(if_pos rfl : (if c2 = c2 then (1 : Int32) else (0 : Int32)) = (1 : Int32))]
    show Steps pP.tables eE below (T11.setTop (mkF mM 53 #[.val (.ref a), .val (.ref a), .val (.ref a)] [(.int (1 : Int32))])) _
    refine XS.ifNo X11.here hx rfl (hb hby d_prog_7_method_6_53) rfl ((if0 _ _).trans (feq (by decide : ¬ ((1 : Int32) = (0 : Int32)))).1) ?_
    show Steps pP.tables eE below (T11.setTop (mkF mM 56 #[.val (.ref a), .val (.ref a), .val (.ref a)] [])) _
    refine XS.iconst X11.here hx rfl (hb hby d_prog_7_method_6_56) ?_
    show Steps pP.tables eE below (T11.setTop (mkF mM 57 #[.val (.ref a), .val (.ref a), .val (.ref a)] [(.int (1 : Int32))])) _
    refine XS.goto X11.here hx rfl (pc0 := 57) (pc' := 61) rfl (hb hby d_prog_7_method_6_57) (by decide) (by decide) ?_
    show Steps pP.tables eE below (T11.setTop (mkF mM 61 #[.val (.ref a), .val (.ref a), .val (.ref a)] [(.int (1 : Int32))])) _
    exact retN X11 hx (t := .boolean) Bd.returns (by simp) (hb hby d_prog_7_method_6_61) hr
  · show Q_eqX Z a x0 t0 k0 c0 x1 t1 k1 c1 x2 t2 k2 c2 zc h0 n0 _ T11.heap _
    rw [Kq11]
    exact ⟨rfl, rfl, rfl⟩
theorem ef_law (m : MethodId) (x0 : Int32) (x1 : Int32) (x2 : Int32) (x3 : Int32) : entryFrame m #[(.int x0), (.int x1), (.int x2), (.int x3)] maxLocals = mkF m 0 #[.val (.int x0), .val (.int x1), .val (.int x2), .val (.int x3), .unset, .unset, .unset, .unset] [] := by first | (simp [entryFrame, mkF, argsToLocals, Value.category, maxLocals]; done) | rfl
def Q_law (Z : State) (p0 : Int32) (p1 : Int32) (p2 : Int32) (p3 : Int32) (zc : Int32) (fm : Value) (h0 : Heap) (n0 : Nat) (vV : Option Value) (h : Heap) (LL : List Loc) : Prop := vV = some (.int 1) ∧ Fr n0 LL ∧ Keep h0 h []
set_option maxRecDepth 65536 in
set_option maxHeartbeats 40000000 in
theorem rm_law (l : Launch) (Z : State) (a0 : Array Value) (hw : ∀ d ∈ tables_1, d.before a0 Z = true) (ws : List Jvm.Cond) (p0 : Int32) (p1 : Int32) (p2 : Int32) (p3 : Int32) (zc : Int32) (fm : Value) (h0 : Heap) (n0 : Nat) (O0 : Old Z n0 h0) (S_COMPACT_STRINGS : Sta Z Z.heap "java/lang/String" "COMPACT_STRINGS" "Z" (.int zc)) (hp1 : (¬ (zc = (0 : Int32)))) (S_SIOOBE_FORMATTER : Sta Z Z.heap "jdk/internal/util/Preconditions" "SIOOBE_FORMATTER" "Ljava/util/function/BiFunction;" fm) (hp3 : (fm.isRef = true)) :
    MetFree l x (head1 (Jvm.Cond.code x code maxLocals ret :: ws) room_1) (fun aa_ U => aa_ = #[(.int p0), (.int p1), (.int p2), (.int p3)] ∧ Z.Warmed39 U.vm ∧ U.heap = h0 ∧ CHv Z own_EL U.vm h0 ∧ ∀ xX_ ∈ ([] : List Addr), Safe Z own_EL U.vm h0 xX_) (fun _ _ _ _ _ => True) (fun _ U o U' => ∃ vV LL, o = .returned vV ∧ Q_law Z p0 p1 p2 p3 zc fm h0 n0 vV U'.heap LL ∧ CHr Z own_EL U.vm U.heap U'.vm U'.heap ∧ ReturnedEndW U o U' LL room_1.cells room_1.slots) := by
  refine MetFree.of_bodySF (plainFor_of_name pn_2) hisR ?_
  intro pP eE sS mM args below meth cC s₁ Bd hml0 hP hK
  obtain ⟨rfl, hZ, hh, hCH, hSf⟩ := hP
  have hx := Bd.exec
  have hby := Bd.bytes
  have hml : cC.maxLocals = 8 := hml0
  have hown : sS.vm.findClass "com/example/entity_state_manager/entitystatemanager/QualifiedNameEqualsPinLaw" = some mM.cls := findClass_of_methodNamed Bd.named
  have hnm := (name_of_methodNamed Bd.named Bd.method).1
  have X0 : Stand pP l eE room_1 (sS.setVm sS.vm) mM #[(.int p0), (.int p1), (.int p2), (.int p3)] below meth cC s₁ [] 0 0 := Stand.of_body Bd
  have e0 : s₁.heap = h0 := by rw [← hh, Bd.state]; rfl
  have N0 := Fr.nil n0
  have pre0 : ∀ tg, Steps pP.tables eE below (s₁.setTop (mkF mM 0 #[.val (.int p0), .val (.int p1), .val (.int p2), .val (.int p3), .unset, .unset, .unset, .unset] [])) tg → Steps pP.tables eE below (s₁.setTop (entryFrame mM #[(.int p0), (.int p1), (.int p2), (.int p3)] maxLocals)) tg := fun tg kg => castTop (ef_law mM p0 p1 p2 p3) kg
  have K0 : Keep h0 h0 [] := Keep.refl _ _
  have hZ0 : Z.Warmed39 (sS.setVm sS.vm).vm := hZ
  have hown0 : (sS.setVm sS.vm).vm.findClass "com/example/entity_state_manager/entitystatemanager/QualifiedNameEqualsPinLaw" = some mM.cls := hown
  have hS0 : sS.Since sS.vm 0 := (State.WarmedH.refl sS).since 0
  have hk0 : 0 ≤ h0.size := Nat.zero_le _
  have CH0 : CHr Z own_EL sS.vm h0 sS.vm h0 := CHr.refl hCH
  have hEL := own_EW hw
  have wS := own_wS hw
  obtain ⟨T1, h1, X1, e1, E1, A1, D1, -, st1⟩ := newO X0 hx hZ0 hown0 (w_0 hw) (w_1 hw) (w_2 hw) e0 (g := (mkF mM 0 #[.val (.int p0), .val (.int p1), .val (.int p2), .val (.int p3), .unset, .unset, .unset, .unset] [])) rfl (hb hby at_0) (by decide) (by decide)
  obtain ⟨b1, g1⟩ : ∃ z, z = h0.size := ⟨_, rfl⟩
  rw [← g1] at A1 D1 st1
  have Sn_b1 : Safe Z own_EL sS.vm h0 b1 := Safe.new (Nat.le_of_eq g1.symm)
  have g_b1 : n0 ≤ b1 := Nat.le_trans (own_osz O0) (Nat.le_of_eq g1.symm)
  have sz_b1 : h0.size ≤ b1 := Nat.le_trans K0.1 (Nat.le_of_eq g1.symm)
  have CH2 : CHr Z own_EL sS.vm h0 sS.vm h1 := CH0.trans (CHr.ext E1 CH0.1)
  have hk3 := Nat.le_trans hk0 E1.1
  have K4 : Keep h0 h1 [] := K0.ext E1
  have F_b1_catalog : Fld Z h1 b1 "com/example/entity_state_manager/entitystatemanager/QualifiedName" "catalog" "Ljava/lang/String;" .null := D1 (Or.inr (w_34 hw)) (ty := (.object "java/lang/String")) (by decide)
  have F_b1_schema : Fld Z h1 b1 "com/example/entity_state_manager/entitystatemanager/QualifiedName" "schema" "Ljava/lang/String;" .null := D1 (Or.inr (w_36 hw)) (ty := (.object "java/lang/String")) (by decide)
  have F_b1_name : Fld Z h1 b1 "com/example/entity_state_manager/entitystatemanager/QualifiedName" "name" "Ljava/lang/String;" .null := D1 (Or.inr (w_38 hw)) (ty := (.object "java/lang/String")) (by decide)
  have f5 := (O0.ext E1)
  obtain ⟨_, _, ⟨T6, L6, k6, n6⟩, -, X6, hS26, hg26, ⟨Lc6, hQ6, l6, y6, z6, CHl6⟩, st6⟩ := callSS X1 hx (y := (⟨"com/example/entity_state_manager/entitystatemanager/QualifiedNameEqualsPinLaw", "recvPart", "(I)Ljava/lang/String;"⟩ : MethodName)) hown0 (mvT hZ0 (w_3 hw)) (mvT hZ0 (w_4 hw)) (mvT hZ0 (w_5 hw)) (mvT hZ0 (w_6 hw)) (by decide) (own_backOfSH (s := sS) (vm0 := sS.vm) (rm := ({ frames := 5, cells := 3, slots := 8, locals := 81 } : Room)) (W := 2) (rm_rp l Z a0 hw [] p0 zc h1 n0 f5 S_COMPACT_STRINGS hp1) hZ0 (w_6 hw) (w_5 hw) (by decide) (by decide) hEL CH2.1 own_sf0) (g := (mkF mM 5 #[.val (.int p0), .val (.int p1), .val (.int p2), .val (.int p3), .unset, .unset, .unset, .unset] [(.int p0), (.ref b1), (.ref b1)])) rfl (by rw [hml]; rfl) (argsL := [(.int p0)]) (rest := [(.ref b1), (.ref b1)]) (lenOf pd_8 rfl) rfl (by show 2 * 0 + _ ≤ _; exact Nat.le_of_eq rfl) (hb hby at_5) (fun _ _ => ⟨rfl, e1, (by decide : 1 + 3 ≤ _), (by decide : 3 + 8 ≤ _)⟩)
  dsimp only [Pt.U, Pt.locs, Pt.cells, Pt.slots] at X6 l6 y6 z6 st6 hQ6 hS26 hg26 CHl6
  subst l6 y6 z6
  have hS6 := foldS hS0 (by rw [e1]; exact hk3) hS26 hg26
  have hZ6 : Z.Warmed39 (sS.setVm T6.vm).vm := State.Warmed39.trans (t := sS.setVm sS.vm) hZ0 hS26.1
  have hown6 : (sS.setVm T6.vm).vm.findClass "com/example/entity_state_manager/entitystatemanager/QualifiedNameEqualsPinLaw" = some mM.cls := by rw [show (sS.setVm T6.vm).vm = T6.vm from rfl, hS26.1.alike.findClass]; exact hown0
  have hk6 : T6.heap.size ≤ T6.heap.size := Nat.le_refl _
  replace X6 : Stand pP l eE room_1 (sS.setVm T6.vm) mM _ below meth cC T6 _ _ _ := X6
  obtain ⟨b_6, t_6, k_6, rfl, Nq6, Kq6, q6_0⟩ := hQ6
  have N6 := Fr.app N0 Nq6
  have CH7 : CHr Z own_EL sS.vm h0 T6.vm T6.heap := CH2.trans (CHl6)
  skip
  have K9 : Keep h0 T6.heap [] := K4.trans Kq6 all0
  have f10 := (f5.keep Kq6 all0)
  obtain ⟨_, _, ⟨T11, L11, k11, n11⟩, -, X11, hS211, hg211, ⟨Lc11, hQ11, l11, y11, z11, CHl11⟩, st11⟩ := callSS X6 hx (y := (⟨"com/example/entity_state_manager/entitystatemanager/QualifiedNameEqualsPinLaw", "recvPart", "(I)Ljava/lang/String;"⟩ : MethodName)) hown6 (mvT hZ6 (w_3 hw)) (mvT hZ6 (w_4 hw)) (mvT hZ6 (w_5 hw)) (mvT hZ6 (w_6 hw)) (by decide) (own_backOfSH (s := sS) (vm0 := T6.vm) (rm := ({ frames := 5, cells := 3, slots := 8, locals := 81 } : Room)) (W := 3) (rm_rp l Z a0 hw [] p1 zc T6.heap n0 f10 S_COMPACT_STRINGS hp1) hZ6 (w_6 hw) (w_5 hw) (by decide) (by decide) hEL CH7.1 own_sf0) (g := (mkF mM 9 #[.val (.int p0), .val (.int p1), .val (.int p2), .val (.int p3), .unset, .unset, .unset, .unset] [(.int p1), (.ref b_6), (.ref b1), (.ref b1)])) rfl (by rw [hml]; rfl) (argsL := [(.int p1)]) (rest := [(.ref b_6), (.ref b1), (.ref b1)]) (lenOf pd_8 rfl) rfl (by show 2 * 0 + _ ≤ _; exact Nat.le_of_eq rfl) (hb hby at_9) (fun _ _ => ⟨rfl, rfl, (by decide : 4 + 3 ≤ _), (by decide : 11 + 8 ≤ _)⟩)
  dsimp only [Pt.U, Pt.locs, Pt.cells, Pt.slots] at X11 l11 y11 z11 st11 hQ11 hS211 hg211 CHl11
  subst l11 y11 z11
  have hS11 := foldS hS6 (hk6) hS211 hg211
  have hZ11 : Z.Warmed39 (sS.setVm T11.vm).vm := State.Warmed39.trans (t := sS.setVm T6.vm) hZ6 hS211.1
  have hown11 : (sS.setVm T11.vm).vm.findClass "com/example/entity_state_manager/entitystatemanager/QualifiedNameEqualsPinLaw" = some mM.cls := by rw [show (sS.setVm T11.vm).vm = T11.vm from rfl, hS211.1.alike.findClass]; exact hown6
  have hk11 : T11.heap.size ≤ T11.heap.size := Nat.le_refl _
  replace X11 : Stand pP l eE room_1 (sS.setVm T11.vm) mM _ below meth cC T11 _ _ _ := X11
  obtain ⟨b_11, t_11, k_11, rfl, Nq11, Kq11, q11_0⟩ := hQ11
  have N11 := Fr.app N6 Nq11
  have CH12 : CHr Z own_EL sS.vm h0 T11.vm T11.heap := CH7.trans (CHl11)
  skip
  have K14 : Keep h0 T11.heap [] := K9.trans Kq11 all0
  have f15 := (f10.keep Kq11 all0)
  obtain ⟨_, _, ⟨T16, L16, k16, n16⟩, -, X16, hS216, hg216, ⟨Lc16, hQ16, l16, y16, z16, CHl16⟩, st16⟩ := callSS X11 hx (y := (⟨"com/example/entity_state_manager/entitystatemanager/QualifiedNameEqualsPinLaw", "recvPart", "(I)Ljava/lang/String;"⟩ : MethodName)) hown11 (mvT hZ11 (w_3 hw)) (mvT hZ11 (w_4 hw)) (mvT hZ11 (w_5 hw)) (mvT hZ11 (w_6 hw)) (by decide) (own_backOfSH (s := sS) (vm0 := T11.vm) (rm := ({ frames := 5, cells := 3, slots := 8, locals := 81 } : Room)) (W := 4) (rm_rp l Z a0 hw [] p2 zc T11.heap n0 f15 S_COMPACT_STRINGS hp1) hZ11 (w_6 hw) (w_5 hw) (by decide) (by decide) hEL CH12.1 own_sf0) (g := (mkF mM 13 #[.val (.int p0), .val (.int p1), .val (.int p2), .val (.int p3), .unset, .unset, .unset, .unset] [(.int p2), (.ref b_11), (.ref b_6), (.ref b1), (.ref b1)])) rfl (by rw [hml]; rfl) (argsL := [(.int p2)]) (rest := [(.ref b_11), (.ref b_6), (.ref b1), (.ref b1)]) (lenOf pd_8 rfl) rfl (by show 2 * 0 + _ ≤ _; exact Nat.le_of_eq rfl) (hb hby at_13) (fun _ _ => ⟨rfl, rfl, (by decide : 7 + 3 ≤ _), (by decide : 19 + 8 ≤ _)⟩)
  dsimp only [Pt.U, Pt.locs, Pt.cells, Pt.slots] at X16 l16 y16 z16 st16 hQ16 hS216 hg216 CHl16
  subst l16 y16 z16
  have hS16 := foldS hS11 (hk11) hS216 hg216
  have hZ16 : Z.Warmed39 (sS.setVm T16.vm).vm := State.Warmed39.trans (t := sS.setVm T11.vm) hZ11 hS216.1
  have hown16 : (sS.setVm T16.vm).vm.findClass "com/example/entity_state_manager/entitystatemanager/QualifiedNameEqualsPinLaw" = some mM.cls := by rw [show (sS.setVm T16.vm).vm = T16.vm from rfl, hS216.1.alike.findClass]; exact hown11
  have hk16 : T16.heap.size ≤ T16.heap.size := Nat.le_refl _
  replace X16 : Stand pP l eE room_1 (sS.setVm T16.vm) mM _ below meth cC T16 _ _ _ := X16
  obtain ⟨b_16, t_16, k_16, rfl, Nq16, Kq16, q16_0⟩ := hQ16
  have N16 := Fr.app N11 Nq16
  have CH17 : CHr Z own_EL sS.vm h0 T16.vm T16.heap := CH12.trans (CHl16)
  skip
  have K19 : Keep h0 T16.heap [] := K14.trans Kq16 all0
  have f20 := (((A1.keep Kq6).keep Kq11).keep Kq16)
  have f21 := (((F_b1_catalog.keep Kq6 nin0).keep Kq11 nin0).keep Kq16 nin0)
  have f22 := (((F_b1_schema.keep Kq6 nin0).keep Kq11 nin0).keep Kq16 nin0)
  have f23 := (((F_b1_name.keep Kq6 nin0).keep Kq11 nin0).keep Kq16 nin0)
  have f24 := (f15.keep Kq16 all0)
  obtain ⟨_, _, ⟨T25, L25, k25, n25⟩, -, X25, ⟨Lc25, hQ25, l25, y25, z25⟩, st25⟩ := X16.specialBack hx (y := (⟨"com/example/entity_state_manager/entitystatemanager/QualifiedName", "<init>", "(Ljava/lang/String;Ljava/lang/String;Ljava/lang/String;)V"⟩ : MethodName)) rfl hown16 (mvT hZ16 (w_27 hw)) (mvT hZ16 (w_28 hw)) (mvT hZ16 (w_29 hw)) (by decide) (backOf (W := 1) (rm_qini l Z a0 hw [] b1 b_6 b_11 b_16 .null .null .null T16.heap n0 f24 f20 f21 f22 f23 g_b1) hZ16 (w_29 hw) (w_2 hw) (by decide) (by decide)) (g := (mkF mM 16 #[.val (.int p0), .val (.int p1), .val (.int p2), .val (.int p3), .unset, .unset, .unset, .unset] [(.ref b_16), (.ref b_11), (.ref b_6), (.ref b1), (.ref b1)])) rfl (by rw [hml]; rfl) (Steps.refl _) (a := b1) (argsL := [(.ref b_6), (.ref b_11), (.ref b_16)]) (rest := [(.ref b1)]) (lenOf pd_9 rfl) rfl (by show 2 * 0 + _ ≤ _; exact Nat.le_of_eq rfl) (hb hby at_16) (fun _ _ => ⟨rfl, rfl, (by decide : 10 + 0 ≤ _), (by decide : 27 + 0 ≤ _)⟩)
  dsimp only [Pt.U, Pt.locs, Pt.cells, Pt.slots] at X25 l25 y25 z25 st25 hQ25
  subst l25 y25 z25
  obtain ⟨rfl, Nq25, Kq25, q25_0, q25_1, q25_2, q25_3⟩ := hQ25
  have N25 := Fr.app N16 Nq25
  have f27 := (CHr.safe CHl16 (Nat.lt_of_lt_of_le (Nat.lt_of_lt_of_le (A1).lt Kq6.1) Kq11.1) (CHr.safe CHl11 (Nat.lt_of_lt_of_le (A1).lt Kq6.1) (CHr.safe CHl6 (A1).lt (Safe.ext E1 CH0.1 Sn_b1))))
  have sfp28 := (sfS f27 sf0)
  have CH26 : CHr Z own_EL sS.vm h0 T16.vm T25.heap := CH17.trans (CHr.keep Kq25 sfp28 CH17.1)
  have hk29 := Nat.le_trans hk16 Kq25.1
  have K30 : Keep h0 T25.heap [] := K19.trans Kq25 (allS (Or.inr sz_b1) all0)
  let Ls31 : Array Slot := #[.val (.int p0), .val (.int p1), .val (.int p2), .val (.int p3), .val (.ref b1), .unset, .unset, .unset]
  let Ls32 : Array Slot := #[.val (.int p0), .val (.int p1), .val (.int p2), .val (.int p3), .val (.ref b1), .val (.int (p3 &&& (3 : Int32))), .unset, .unset]
  have pre34 : ∀ tg, Steps pP.tables eE below (T25.setTop (mkF mM 29 Ls32 [(.int (1 : Int32)), (.int (p3 &&& (3 : Int32)))])) tg → Steps pP.tables eE below (s₁.setTop (entryFrame mM #[(.int p0), (.int p1), (.int p2), (.int p3)] maxLocals)) tg := fun tg kg => pre0 tg (by
    refine st1 _ ?_
    show Steps pP.tables eE below (T1.setTop (mkF mM 3 #[.val (.int p0), .val (.int p1), .val (.int p2), .val (.int p3), .unset, .unset, .unset, .unset] [(.ref b1)])) _
    refine XS.dup X1.here hx rfl (hb hby at_3) rfl rfl ?_
    show Steps pP.tables eE below (T1.setTop (mkF mM 4 #[.val (.int p0), .val (.int p1), .val (.int p2), .val (.int p3), .unset, .unset, .unset, .unset] [(.ref b1), (.ref b1)])) _
    refine XS.iloadN X1.here hx rfl (hb hby at_4) rfl ?_
    show Steps pP.tables eE below (T1.setTop (mkF mM 5 #[.val (.int p0), .val (.int p1), .val (.int p2), .val (.int p3), .unset, .unset, .unset, .unset] [(.int p0), (.ref b1), (.ref b1)])) _
    refine st6.trans ?_
    show Steps pP.tables eE below (T6.setTop (mkF mM 8 #[.val (.int p0), .val (.int p1), .val (.int p2), .val (.int p3), .unset, .unset, .unset, .unset] [(.ref b_6), (.ref b1), (.ref b1)])) _
    refine XS.iloadN X6.here hx rfl (hb hby at_8) rfl ?_
    show Steps pP.tables eE below (T6.setTop (mkF mM 9 #[.val (.int p0), .val (.int p1), .val (.int p2), .val (.int p3), .unset, .unset, .unset, .unset] [(.int p1), (.ref b_6), (.ref b1), (.ref b1)])) _
    refine st11.trans ?_
    show Steps pP.tables eE below (T11.setTop (mkF mM 12 #[.val (.int p0), .val (.int p1), .val (.int p2), .val (.int p3), .unset, .unset, .unset, .unset] [(.ref b_11), (.ref b_6), (.ref b1), (.ref b1)])) _
    refine XS.iloadN X11.here hx rfl (hb hby at_12) rfl ?_
    show Steps pP.tables eE below (T11.setTop (mkF mM 13 #[.val (.int p0), .val (.int p1), .val (.int p2), .val (.int p3), .unset, .unset, .unset, .unset] [(.int p2), (.ref b_11), (.ref b_6), (.ref b1), (.ref b1)])) _
    refine st16.trans ?_
    show Steps pP.tables eE below (T16.setTop (mkF mM 16 #[.val (.int p0), .val (.int p1), .val (.int p2), .val (.int p3), .unset, .unset, .unset, .unset] [(.ref b_16), (.ref b_11), (.ref b_6), (.ref b1), (.ref b1)])) _
    refine st25.trans ?_
    show Steps pP.tables eE below (T25.setTop (mkF mM 19 #[.val (.int p0), .val (.int p1), .val (.int p2), .val (.int p3), .unset, .unset, .unset, .unset] [(.ref b1)])) _
    refine XS.astore X25.here hx rfl (hb hby at_19) rfl rfl (l' := Ls31) rfl ?_
    show Steps pP.tables eE below (T25.setTop (mkF mM 21 Ls31 [])) _
    refine XS.iloadN X25.here hx rfl (hb hby at_21) rfl ?_
    show Steps pP.tables eE below (T25.setTop (mkF mM 22 Ls31 [(.int p3)])) _
    refine XS.iconst X25.here hx rfl (hb hby at_22) ?_
    show Steps pP.tables eE below (T25.setTop (mkF mM 23 Ls31 [(.int (3 : Int32)), (.int p3)])) _
    refine XS.iand X25.here hx rfl (hb hby at_23) rfl ?_
    show Steps pP.tables eE below (T25.setTop (mkF mM 24 Ls31 [(.int (p3 &&& (3 : Int32)))])) _
    refine XS.istore X25.here hx rfl (hb hby at_24) rfl (l' := Ls32) rfl ?_
    show Steps pP.tables eE below (T25.setTop (mkF mM 26 Ls32 [])) _
    refine XS.iload X25.here hx rfl (hb hby at_26) rfl ?_
    show Steps pP.tables eE below (T25.setTop (mkF mM 28 Ls32 [(.int (p3 &&& (3 : Int32)))])) _
    refine XS.iconst X25.here hx rfl (hb hby at_28) ?_
    exact kg)
  by_cases hc33 : (p3 &&& (3 : Int32)) = (1 : Int32)
  · have f35 := (f24.keep Kq25 (allS g_b1 all0))
    obtain ⟨cq36, kq36, q36a, q36b, q36c⟩ := isOf hZ16 rfl q25_0
    obtain ⟨_, _, ⟨T36, L36, k36, n36⟩, -, X36, ⟨Lc36, hQ36, l36, y36, z36⟩, st36⟩ := X25.virtualBack hx (y := (⟨"com/example/entity_state_manager/entitystatemanager/QualifiedName", "equals", "(Ljava/lang/Object;)Z"⟩ : MethodName)) (z := (⟨"com/example/entity_state_manager/entitystatemanager/QualifiedName", "equals", "(Ljava/lang/Object;)Z"⟩ : MethodName)) hown16 (mvT hZ16 (w_39 hw)) (mvT hZ16 (w_40 hw)) (notFace_of_selects (args := #[]) (mvT hZ16 (w_42 hw))) (mvT hZ16 (w_42 hw)) (mvT hZ16 (w_41 hw)) (by decide) (backOf (W := 0) (rm_eq0 l Z a0 hw [] b1 T25.heap n0 f35 ) hZ16 (w_43 hw) (w_2 hw) (by decide) (by decide)) q36a q36c (g := (mkF mM 35 Ls32 [.null, (.ref b1)])) rfl (by rw [hml]; rfl) (Steps.refl _) (argsL := [.null]) (rest := []) (lenOf pd_7 rfl) rfl (by show 2 * 0 + _ ≤ _; exact Nat.le_of_eq rfl) (hb hby at_35) (fun _ _ => ⟨rfl, rfl, (by decide : 10 + 0 ≤ _), (by decide : 27 + 0 ≤ _)⟩)
    dsimp only [Pt.U, Pt.locs, Pt.cells, Pt.slots] at X36 l36 y36 z36 st36 hQ36
    subst l36 y36 z36
    obtain ⟨rfl, rfl, Kq36⟩ := hQ36
    try rw [List.append_nil] at X36
    obtain ⟨fs, hr, hrun, hended, hR1, hR2, hR3, hR4⟩ := Stand.leaveW (s := sS) (vm₁ := T16.vm) X36 hS16 (by rw [Kq36]; exact hk29) (v := some (.int (1 : Int32))) (fun h => by rw [Bd.returns] at h; cases h)
    refine ⟨_, _, pre34 _ ?_, hrun, hended, _, _, rfl, ?_, ?_, hR1, hR2, hR3, hR4.mono (by decide) (by decide)⟩
    · refine XS.icmpNo X25.here hx rfl (hb hby at_29) rfl (teq hc33).2 ?_
      show Steps pP.tables eE below (T25.setTop (mkF mM 32 Ls32 [])) _
      refine XS.aload X25.here hx rfl (hb hby at_32) rfl rfl ?_
      show Steps pP.tables eE below (T25.setTop (mkF mM 34 Ls32 [(.ref b1)])) _
      refine XS.aconstNull X25.here hx rfl (hb hby at_34) ?_
      show Steps pP.tables eE below (T25.setTop (mkF mM 35 Ls32 [.null, (.ref b1)])) _
      refine st36.trans ?_
      show Steps pP.tables eE below (T36.setTop (mkF mM 38 Ls32 [(.int (0 : Int32))])) _
      refine XS.ifNo X36.here hx rfl (hb hby at_38) rfl ((if0 _ _).trans (teq (by decide : (0 : Int32) = (0 : Int32))).2) ?_
      show Steps pP.tables eE below (T36.setTop (mkF mM 41 Ls32 [])) _
      refine XS.iconst X36.here hx rfl (hb hby at_41) ?_
      show Steps pP.tables eE below (T36.setTop (mkF mM 42 Ls32 [(.int (1 : Int32))])) _
      refine XS.goto X36.here hx rfl (pc0 := 42) (pc' := 46) rfl (hb hby at_42) (by decide) (by decide) ?_
      show Steps pP.tables eE below (T36.setTop (mkF mM 46 Ls32 [(.int (1 : Int32))])) _
      exact retN X36 hx (t := .boolean) Bd.returns (by simp) (hb hby at_46) hr
    · show Q_law Z p0 p1 p2 p3 zc fm h0 n0 _ T36.heap _
      rw [Kq36]
      exact ⟨rfl, N25, K30⟩
    · show CHr Z own_EL sS.vm sS.heap T36.vm T36.heap
      rw [hh, Kq36]
      exact CH26.trans (CHv.at X36 hZ16 hEL CH26.1)
  · have pre39 : ∀ tg, Steps pP.tables eE below (T25.setTop (mkF mM 50 Ls32 [(.int (2 : Int32)), (.int (p3 &&& (3 : Int32)))])) tg → Steps pP.tables eE below (s₁.setTop (entryFrame mM #[(.int p0), (.int p1), (.int p2), (.int p3)] maxLocals)) tg := fun tg kg => pre34 tg (by
      refine XS.icmpYes X25.here hx rfl (pc0 := 29) (pc' := 47) rfl (hb hby at_29) rfl (feq hc33).2 (by decide) (by decide) ?_
      show Steps pP.tables eE below (T25.setTop (mkF mM 47 Ls32 [])) _
      refine XS.iload X25.here hx rfl (hb hby at_47) rfl ?_
      show Steps pP.tables eE below (T25.setTop (mkF mM 49 Ls32 [(.int (p3 &&& (3 : Int32)))])) _
      refine XS.iconst X25.here hx rfl (hb hby at_49) ?_
      exact kg)
    by_cases hc38 : (p3 &&& (3 : Int32)) = (2 : Int32)
    · have f40 := (f24.keep Kq25 (allS g_b1 all0))
      obtain ⟨_, _, ⟨T41, L41, k41, n41⟩, -, X41, hS241, hg241, ⟨Lc41, hQ41, l41, y41, z41, CHl41⟩, st41⟩ := callSS X25 hx (y := (⟨"com/example/entity_state_manager/entitystatemanager/QualifiedNameEqualsPinLaw", "recvPart", "(I)Ljava/lang/String;"⟩ : MethodName)) hown16 (mvT hZ16 (w_3 hw)) (mvT hZ16 (w_4 hw)) (mvT hZ16 (w_5 hw)) (mvT hZ16 (w_6 hw)) (by decide) (own_backOfSH (s := sS) (vm0 := T16.vm) (rm := ({ frames := 5, cells := 3, slots := 8, locals := 81 } : Room)) (W := 0) (rm_rp l Z a0 hw [] p2 zc T25.heap n0 f40 S_COMPACT_STRINGS hp1) hZ16 (w_6 hw) (w_5 hw) (by decide) (by decide) hEL CH26.1 own_sf0) (g := (mkF mM 54 Ls32 [(.int p2)])) rfl (by rw [hml]; rfl) (argsL := [(.int p2)]) (rest := []) (lenOf pd_8 rfl) rfl (by show 2 * 0 + _ ≤ _; exact Nat.le_of_eq rfl) (hb hby at_54) (fun _ _ => ⟨rfl, rfl, (by decide : 10 + 3 ≤ _), (by decide : 27 + 8 ≤ _)⟩)
      dsimp only [Pt.U, Pt.locs, Pt.cells, Pt.slots] at X41 l41 y41 z41 st41 hQ41 hS241 hg241 CHl41
      subst l41 y41 z41
      have hS41 := foldS hS16 (hk29) hS241 hg241
      have hZ41 : Z.Warmed39 (sS.setVm T41.vm).vm := State.Warmed39.trans (t := sS.setVm T16.vm) hZ16 hS241.1
      have hown41 : (sS.setVm T41.vm).vm.findClass "com/example/entity_state_manager/entitystatemanager/QualifiedNameEqualsPinLaw" = some mM.cls := by rw [show (sS.setVm T41.vm).vm = T41.vm from rfl, hS241.1.alike.findClass]; exact hown16
      have hk41 : T41.heap.size ≤ T41.heap.size := Nat.le_refl _
      replace X41 : Stand pP l eE room_1 (sS.setVm T41.vm) mM _ below meth cC T41 _ _ _ := X41
      obtain ⟨b_41, t_41, k_41, rfl, Nq41, Kq41, q41_0⟩ := hQ41
      have N41 := Fr.app N25 Nq41
      have CH42 : CHr Z own_EL sS.vm h0 T41.vm T41.heap := CH26.trans (CHl41)
      skip
      have K44 : Keep h0 T41.heap [] := K30.trans Kq41 all0
      let Ls45 : Array Slot := #[.val (.int p0), .val (.int p1), .val (.int p2), .val (.int p3), .val (.ref b1), .val (.int (p3 &&& (3 : Int32))), .val (.ref b_41), .unset]
      have f46 := (f40.keep Kq41 all0)
      have f48 := (q25_0.keep Kq41)
      obtain ⟨cq47, kq47, q47a, q47b, q47c⟩ := isOf hZ41 rfl f48
      obtain ⟨_, _, ⟨T47, L47, k47, n47⟩, -, X47, ⟨Lc47, hQ47, l47, y47, z47⟩, st47⟩ := X41.virtualBack hx (y := (⟨"com/example/entity_state_manager/entitystatemanager/QualifiedName", "equals", "(Ljava/lang/Object;)Z"⟩ : MethodName)) (z := (⟨"com/example/entity_state_manager/entitystatemanager/QualifiedName", "equals", "(Ljava/lang/Object;)Z"⟩ : MethodName)) hown41 (mvT hZ41 (w_39 hw)) (mvT hZ41 (w_40 hw)) (notFace_of_selects (args := #[]) (mvT hZ41 (w_42 hw))) (mvT hZ41 (w_42 hw)) (mvT hZ41 (w_41 hw)) (by decide) (backOf (W := 0) (rm_eqS l Z a0 hw [] b1 b_41 T41.heap n0 f46 (q41_0).1) hZ41 (w_43 hw) (w_2 hw) (by decide) (by decide)) q47a q47c (g := (mkF mM 63 Ls45 [(.ref b_41), (.ref b1)])) rfl (by rw [hml]; rfl) (Steps.refl _) (argsL := [(.ref b_41)]) (rest := []) (lenOf pd_7 rfl) rfl (by show 2 * 0 + _ ≤ _; exact Nat.le_of_eq rfl) (hb hby at_63) (fun _ _ => ⟨rfl, rfl, (by decide : 13 + 0 ≤ _), (by decide : 35 + 0 ≤ _)⟩)
      dsimp only [Pt.U, Pt.locs, Pt.cells, Pt.slots] at X47 l47 y47 z47 st47 hQ47
      subst l47 y47 z47
      obtain ⟨rfl, rfl, Kq47⟩ := hQ47
      try rw [List.append_nil] at X47
      obtain ⟨fs, hr, hrun, hended, hR1, hR2, hR3, hR4⟩ := Stand.leaveW (s := sS) (vm₁ := T41.vm) X47 hS41 (by rw [Kq47]; exact hk41) (v := some (.int (1 : Int32))) (fun h => by rw [Bd.returns] at h; cases h)
      refine ⟨_, _, pre39 _ ?_, hrun, hended, _, _, rfl, ?_, ?_, hR1, hR2, hR3, hR4.mono (by decide) (by decide)⟩
      · refine XS.icmpNo X25.here hx rfl (hb hby at_50) rfl (teq hc38).2 ?_
        show Steps pP.tables eE below (T25.setTop (mkF mM 53 Ls32 [])) _
        refine XS.iloadN X25.here hx rfl (hb hby at_53) rfl ?_
        show Steps pP.tables eE below (T25.setTop (mkF mM 54 Ls32 [(.int p2)])) _
        refine st41.trans ?_
        show Steps pP.tables eE below (T41.setTop (mkF mM 57 Ls32 [(.ref b_41)])) _
        refine XS.astore X41.here hx rfl (hb hby at_57) rfl rfl (l' := Ls45) rfl ?_
        show Steps pP.tables eE below (T41.setTop (mkF mM 59 Ls45 [])) _
        refine XS.aload X41.here hx rfl (hb hby at_59) rfl rfl ?_
        show Steps pP.tables eE below (T41.setTop (mkF mM 61 Ls45 [(.ref b1)])) _
        refine XS.aload X41.here hx rfl (hb hby at_61) rfl rfl ?_
        show Steps pP.tables eE below (T41.setTop (mkF mM 63 Ls45 [(.ref b_41), (.ref b1)])) _
        refine st47.trans ?_
        show Steps pP.tables eE below (T47.setTop (mkF mM 66 Ls45 [(.int (0 : Int32))])) _
        refine XS.ifNo X47.here hx rfl (hb hby at_66) rfl ((if0 _ _).trans (teq (by decide : (0 : Int32) = (0 : Int32))).2) ?_
        show Steps pP.tables eE below (T47.setTop (mkF mM 69 Ls45 [])) _
        refine XS.iconst X47.here hx rfl (hb hby at_69) ?_
        show Steps pP.tables eE below (T47.setTop (mkF mM 70 Ls45 [(.int (1 : Int32))])) _
        refine XS.goto X47.here hx rfl (pc0 := 70) (pc' := 74) rfl (hb hby at_70) (by decide) (by decide) ?_
        show Steps pP.tables eE below (T47.setTop (mkF mM 74 Ls45 [(.int (1 : Int32))])) _
        exact retN X47 hx (t := .boolean) Bd.returns (by simp) (hb hby at_74) hr
      · show Q_law Z p0 p1 p2 p3 zc fm h0 n0 _ T47.heap _
        rw [Kq47]
        exact ⟨rfl, N41, K44⟩
      · show CHr Z own_EL sS.vm sS.heap T47.vm T47.heap
        rw [hh, Kq47]
        exact CH42.trans (CHv.at X47 hZ41 hEL CH42.1)
    · have pre51 : ∀ tg, Steps pP.tables eE below (T25.setTop (mkF mM 78 Ls32 [(.int (3 : Int32)), (.int (p3 &&& (3 : Int32)))])) tg → Steps pP.tables eE below (s₁.setTop (entryFrame mM #[(.int p0), (.int p1), (.int p2), (.int p3)] maxLocals)) tg := fun tg kg => pre39 tg (by
        refine XS.icmpYes X25.here hx rfl (pc0 := 50) (pc' := 75) rfl (hb hby at_50) rfl (feq hc38).2 (by decide) (by decide) ?_
        show Steps pP.tables eE below (T25.setTop (mkF mM 75 Ls32 [])) _
        refine XS.iload X25.here hx rfl (hb hby at_75) rfl ?_
        show Steps pP.tables eE below (T25.setTop (mkF mM 77 Ls32 [(.int (p3 &&& (3 : Int32)))])) _
        refine XS.iconst X25.here hx rfl (hb hby at_77) ?_
        exact kg)
      by_cases hc50 : (p3 &&& (3 : Int32)) = (3 : Int32)
      · have f52 := ((((q6_0).1.keep Kq11).keep Kq16).keep Kq25)
        have f53 := (((q6_0).1.keep Kq11).keep Kq16)
        have f54 := ((((q6_0).2.1.keep Kq11 nin0).keep Kq16 nin0).keep Kq25 (ninS (ne_exa f53 f20 (by decide)) nin0))
        have f55 := ((((q6_0).2.2.1.keep Kq11 nin0).keep Kq16 nin0).keep Kq25 (ninS (ne_exa f53 f20 (by decide)) nin0))
        have f56 := (((q6_0).2.2.2.1.keep Kq11 nin0).keep Kq16 nin0)
        have f57 := ((((q6_0).2.2.2.1.keep Kq11 nin0).keep Kq16 nin0).keep Kq25 (ninS (Ne.symm (Exa.neArv f20 f56 (w_1 hw))) nin0))
        have f58 := (((q11_0).1.keep Kq16).keep Kq25)
        have f59 := ((q11_0).1.keep Kq16)
        have f60 := (((q11_0).2.1.keep Kq16 nin0).keep Kq25 (ninS (ne_exa f59 f20 (by decide)) nin0))
        have f61 := (((q11_0).2.2.1.keep Kq16 nin0).keep Kq25 (ninS (ne_exa f59 f20 (by decide)) nin0))
        have f62 := ((q11_0).2.2.2.1.keep Kq16 nin0)
        have f63 := (((q11_0).2.2.2.1.keep Kq16 nin0).keep Kq25 (ninS (Ne.symm (Exa.neArv f20 f62 (w_1 hw))) nin0))
        have f64 := ((q16_0).1.keep Kq25)
        have f65 := ((q16_0).2.1.keep Kq25 (ninS (ne_exa (q16_0).1 f20 (by decide)) nin0))
        have f66 := ((q16_0).2.2.1.keep Kq25 (ninS (ne_exa (q16_0).1 f20 (by decide)) nin0))
        have f67 := ((q16_0).2.2.2.1.keep Kq25 (ninS (Ne.symm (Exa.neArv f20 (q16_0).2.2.2.1 (w_1 hw))) nin0))
        have f68 := (f24.keep Kq25 (allS g_b1 all0))
        obtain ⟨cq69, kq69, q69a, q69b, q69c⟩ := isOf hZ16 rfl q25_0
        obtain ⟨_, _, ⟨T69, L69, k69, n69⟩, -, X69, ⟨Lc69, hQ69, l69, y69, z69⟩, st69⟩ := X25.virtualBack hx (y := (⟨"com/example/entity_state_manager/entitystatemanager/QualifiedName", "equals", "(Ljava/lang/Object;)Z"⟩ : MethodName)) (z := (⟨"com/example/entity_state_manager/entitystatemanager/QualifiedName", "equals", "(Ljava/lang/Object;)Z"⟩ : MethodName)) hown16 (mvT hZ16 (w_39 hw)) (mvT hZ16 (w_40 hw)) (notFace_of_selects (args := #[]) (mvT hZ16 (w_42 hw))) (mvT hZ16 (w_42 hw)) (mvT hZ16 (w_41 hw)) (by decide) (backOf (W := 0) (rm_eqX l Z a0 hw [] b1 b_6 t_6 k_6 (own_ra p0) b_11 t_11 k_11 (own_ra p1) b_16 t_16 k_16 (own_ra p2) zc T25.heap n0 f68 q25_0 q25_1 q25_2 q25_3 (⟨f52, f54, f55, f57, (q6_0).2.2.2.2⟩ : own_Str Z T25.heap b_6 t_6 k_6 (own_ra p0)) (⟨f58, f60, f61, f63, (q11_0).2.2.2.2⟩ : own_Str Z T25.heap b_11 t_11 k_11 (own_ra p1)) (⟨f64, f65, f66, f67, (q16_0).2.2.2.2⟩ : own_Str Z T25.heap b_16 t_16 k_16 (own_ra p2)) S_COMPACT_STRINGS hp1) hZ16 (w_43 hw) (w_2 hw) (by decide) (by decide)) q69a q69c (g := (mkF mM 85 Ls32 [(.ref b1), (.ref b1)])) rfl (by rw [hml]; rfl) (Steps.refl _) (argsL := [(.ref b1)]) (rest := []) (lenOf pd_7 rfl) rfl (by show 2 * 0 + _ ≤ _; exact Nat.le_of_eq rfl) (hb hby at_85) (fun _ _ => ⟨rfl, rfl, (by decide : 10 + 0 ≤ _), (by decide : 27 + 0 ≤ _)⟩)
        dsimp only [Pt.U, Pt.locs, Pt.cells, Pt.slots] at X69 l69 y69 z69 st69 hQ69
        subst l69 y69 z69
        obtain ⟨rfl, rfl, Kq69⟩ := hQ69
        try rw [List.append_nil] at X69
        obtain ⟨fs, hr, hrun, hended, hR1, hR2, hR3, hR4⟩ := Stand.leaveW (s := sS) (vm₁ := T16.vm) X69 hS16 (by rw [Kq69]; exact hk29) (v := some (.int (1 : Int32))) (fun h => by rw [Bd.returns] at h; cases h)
        refine ⟨_, _, pre51 _ ?_, hrun, hended, _, _, rfl, ?_, ?_, hR1, hR2, hR3, hR4.mono (by decide) (by decide)⟩
        · refine XS.icmpNo X25.here hx rfl (hb hby at_78) rfl (teq hc50).2 ?_
          show Steps pP.tables eE below (T25.setTop (mkF mM 81 Ls32 [])) _
          refine XS.aload X25.here hx rfl (hb hby at_81) rfl rfl ?_
          show Steps pP.tables eE below (T25.setTop (mkF mM 83 Ls32 [(.ref b1)])) _
          refine XS.aload X25.here hx rfl (hb hby at_83) rfl rfl ?_
          show Steps pP.tables eE below (T25.setTop (mkF mM 85 Ls32 [(.ref b1), (.ref b1)])) _
          refine st69.trans ?_
          show Steps pP.tables eE below (T69.setTop (mkF mM 88 Ls32 [(.int (1 : Int32))])) _
          exact retN X69 hx (t := .boolean) Bd.returns (by simp) (hb hby at_88) hr
        · show Q_law Z p0 p1 p2 p3 zc fm h0 n0 _ T69.heap _
          rw [Kq69]
          exact ⟨rfl, N25, K30⟩
        · show CHr Z own_EL sS.vm sS.heap T69.vm T69.heap
          rw [hh, Kq69]
          exact CH26.trans (CHv.at X69 hZ16 hEL CH26.1)
      · obtain ⟨T71, h71, X71, e71, E71, A71, D71, -, st71⟩ := newO X25 hx hZ16 hown16 (w_0 hw) (w_1 hw) (w_2 hw) rfl (g := (mkF mM 89 Ls32 [])) rfl (hb hby at_89) (by decide) (by decide)
        obtain ⟨b71, g71⟩ : ∃ z, z = T25.heap.size := ⟨_, rfl⟩
        rw [← g71] at A71 D71 st71
        have Sn_b71 : Safe Z own_EL T16.vm T25.heap b71 := Safe.new (Nat.le_of_eq g71.symm)
        have f72 := (f24.keep Kq25 (allS g_b1 all0))
        have g_b71 : n0 ≤ b71 := Nat.le_trans (own_osz f72) (Nat.le_of_eq g71.symm)
        have sz_b71 : h0.size ≤ b71 := Nat.le_trans K30.1 (Nat.le_of_eq g71.symm)
        have CH73 : CHr Z own_EL sS.vm h0 T16.vm h71 := CH26.trans (CHr.ext E71 CH26.1)
        have hk74 := Nat.le_trans hk29 E71.1
        have K75 : Keep h0 h71 [] := K30.ext E71
        have F_b71_catalog : Fld Z h71 b71 "com/example/entity_state_manager/entitystatemanager/QualifiedName" "catalog" "Ljava/lang/String;" .null := D71 (Or.inr (w_34 hw)) (ty := (.object "java/lang/String")) (by decide)
        have F_b71_schema : Fld Z h71 b71 "com/example/entity_state_manager/entitystatemanager/QualifiedName" "schema" "Ljava/lang/String;" .null := D71 (Or.inr (w_36 hw)) (ty := (.object "java/lang/String")) (by decide)
        have F_b71_name : Fld Z h71 b71 "com/example/entity_state_manager/entitystatemanager/QualifiedName" "name" "Ljava/lang/String;" .null := D71 (Or.inr (w_38 hw)) (ty := (.object "java/lang/String")) (by decide)
        have f76 := (f72.ext E71)
        obtain ⟨_, _, ⟨T77, L77, k77, n77⟩, -, X77, hS277, hg277, ⟨Lc77, hQ77, l77, y77, z77, CHl77⟩, st77⟩ := callSS X71 hx (y := (⟨"com/example/entity_state_manager/entitystatemanager/QualifiedNameEqualsPinLaw", "othPart", "(I)Ljava/lang/String;"⟩ : MethodName)) hown16 (mvT hZ16 (w_84 hw)) (mvT hZ16 (w_85 hw)) (mvT hZ16 (w_5 hw)) (mvT hZ16 (w_86 hw)) (by decide) (own_backOfSH (s := sS) (vm0 := T16.vm) (rm := ({ frames := 5, cells := 3, slots := 8, locals := 81 } : Room)) (W := 2) (rm_op l Z a0 hw [] p0 zc h71 n0 f76 S_COMPACT_STRINGS hp1) hZ16 (w_86 hw) (w_5 hw) (by decide) (by decide) hEL CH73.1 own_sf0) (g := (mkF mM 94 Ls32 [(.int p0), (.ref b71), (.ref b71)])) rfl (by rw [hml]; rfl) (argsL := [(.int p0)]) (rest := [(.ref b71), (.ref b71)]) (lenOf pd_8 rfl) rfl (by show 2 * 0 + _ ≤ _; exact Nat.le_of_eq rfl) (hb hby at_94) (fun _ _ => ⟨rfl, e71, (by decide : 11 + 3 ≤ _), (by decide : 30 + 8 ≤ _)⟩)
        dsimp only [Pt.U, Pt.locs, Pt.cells, Pt.slots] at X77 l77 y77 z77 st77 hQ77 hS277 hg277 CHl77
        subst l77 y77 z77
        have hS77 := foldS hS16 (by rw [e71]; exact hk74) hS277 hg277
        have hZ77 : Z.Warmed39 (sS.setVm T77.vm).vm := State.Warmed39.trans (t := sS.setVm T16.vm) hZ16 hS277.1
        have hown77 : (sS.setVm T77.vm).vm.findClass "com/example/entity_state_manager/entitystatemanager/QualifiedNameEqualsPinLaw" = some mM.cls := by rw [show (sS.setVm T77.vm).vm = T77.vm from rfl, hS277.1.alike.findClass]; exact hown16
        have hk77 : T77.heap.size ≤ T77.heap.size := Nat.le_refl _
        replace X77 : Stand pP l eE room_1 (sS.setVm T77.vm) mM _ below meth cC T77 _ _ _ := X77
        obtain ⟨b_77, t_77, k_77, rfl, Nq77, Kq77, q77_0⟩ := hQ77
        have N77 := Fr.app N25 Nq77
        have CH78 : CHr Z own_EL sS.vm h0 T77.vm T77.heap := CH73.trans (CHl77)
        skip
        have K80 : Keep h0 T77.heap [] := K75.trans Kq77 all0
        have f81 := (f76.keep Kq77 all0)
        obtain ⟨_, _, ⟨T82, L82, k82, n82⟩, -, X82, hS282, hg282, ⟨Lc82, hQ82, l82, y82, z82, CHl82⟩, st82⟩ := callSS X77 hx (y := (⟨"com/example/entity_state_manager/entitystatemanager/QualifiedNameEqualsPinLaw", "othPart", "(I)Ljava/lang/String;"⟩ : MethodName)) hown77 (mvT hZ77 (w_84 hw)) (mvT hZ77 (w_85 hw)) (mvT hZ77 (w_5 hw)) (mvT hZ77 (w_86 hw)) (by decide) (own_backOfSH (s := sS) (vm0 := T77.vm) (rm := ({ frames := 5, cells := 3, slots := 8, locals := 81 } : Room)) (W := 3) (rm_op l Z a0 hw [] p1 zc T77.heap n0 f81 S_COMPACT_STRINGS hp1) hZ77 (w_86 hw) (w_5 hw) (by decide) (by decide) hEL CH78.1 own_sf0) (g := (mkF mM 98 Ls32 [(.int p1), (.ref b_77), (.ref b71), (.ref b71)])) rfl (by rw [hml]; rfl) (argsL := [(.int p1)]) (rest := [(.ref b_77), (.ref b71), (.ref b71)]) (lenOf pd_8 rfl) rfl (by show 2 * 0 + _ ≤ _; exact Nat.le_of_eq rfl) (hb hby at_98) (fun _ _ => ⟨rfl, rfl, (by decide : 14 + 3 ≤ _), (by decide : 38 + 8 ≤ _)⟩)
        dsimp only [Pt.U, Pt.locs, Pt.cells, Pt.slots] at X82 l82 y82 z82 st82 hQ82 hS282 hg282 CHl82
        subst l82 y82 z82
        have hS82 := foldS hS77 (hk77) hS282 hg282
        have hZ82 : Z.Warmed39 (sS.setVm T82.vm).vm := State.Warmed39.trans (t := sS.setVm T77.vm) hZ77 hS282.1
        have hown82 : (sS.setVm T82.vm).vm.findClass "com/example/entity_state_manager/entitystatemanager/QualifiedNameEqualsPinLaw" = some mM.cls := by rw [show (sS.setVm T82.vm).vm = T82.vm from rfl, hS282.1.alike.findClass]; exact hown77
        have hk82 : T82.heap.size ≤ T82.heap.size := Nat.le_refl _
        replace X82 : Stand pP l eE room_1 (sS.setVm T82.vm) mM _ below meth cC T82 _ _ _ := X82
        obtain ⟨b_82, t_82, k_82, rfl, Nq82, Kq82, q82_0⟩ := hQ82
        have N82 := Fr.app N77 Nq82
        have CH83 : CHr Z own_EL sS.vm h0 T82.vm T82.heap := CH78.trans (CHl82)
        skip
        have K85 : Keep h0 T82.heap [] := K80.trans Kq82 all0
        have f86 := (f81.keep Kq82 all0)
        obtain ⟨_, _, ⟨T87, L87, k87, n87⟩, -, X87, hS287, hg287, ⟨Lc87, hQ87, l87, y87, z87, CHl87⟩, st87⟩ := callSS X82 hx (y := (⟨"com/example/entity_state_manager/entitystatemanager/QualifiedNameEqualsPinLaw", "othPart", "(I)Ljava/lang/String;"⟩ : MethodName)) hown82 (mvT hZ82 (w_84 hw)) (mvT hZ82 (w_85 hw)) (mvT hZ82 (w_5 hw)) (mvT hZ82 (w_86 hw)) (by decide) (own_backOfSH (s := sS) (vm0 := T82.vm) (rm := ({ frames := 5, cells := 3, slots := 8, locals := 81 } : Room)) (W := 4) (rm_op l Z a0 hw [] p2 zc T82.heap n0 f86 S_COMPACT_STRINGS hp1) hZ82 (w_86 hw) (w_5 hw) (by decide) (by decide) hEL CH83.1 own_sf0) (g := (mkF mM 102 Ls32 [(.int p2), (.ref b_82), (.ref b_77), (.ref b71), (.ref b71)])) rfl (by rw [hml]; rfl) (argsL := [(.int p2)]) (rest := [(.ref b_82), (.ref b_77), (.ref b71), (.ref b71)]) (lenOf pd_8 rfl) rfl (by show 2 * 0 + _ ≤ _; exact Nat.le_of_eq rfl) (hb hby at_102) (fun _ _ => ⟨rfl, rfl, (by decide : 17 + 3 ≤ _), (by decide : 46 + 8 ≤ _)⟩)
        dsimp only [Pt.U, Pt.locs, Pt.cells, Pt.slots] at X87 l87 y87 z87 st87 hQ87 hS287 hg287 CHl87
        subst l87 y87 z87
        have hS87 := foldS hS82 (hk82) hS287 hg287
        have hZ87 : Z.Warmed39 (sS.setVm T87.vm).vm := State.Warmed39.trans (t := sS.setVm T82.vm) hZ82 hS287.1
        have hown87 : (sS.setVm T87.vm).vm.findClass "com/example/entity_state_manager/entitystatemanager/QualifiedNameEqualsPinLaw" = some mM.cls := by rw [show (sS.setVm T87.vm).vm = T87.vm from rfl, hS287.1.alike.findClass]; exact hown82
        have hk87 : T87.heap.size ≤ T87.heap.size := Nat.le_refl _
        replace X87 : Stand pP l eE room_1 (sS.setVm T87.vm) mM _ below meth cC T87 _ _ _ := X87
        obtain ⟨b_87, t_87, k_87, rfl, Nq87, Kq87, q87_0⟩ := hQ87
        have N87 := Fr.app N82 Nq87
        have CH88 : CHr Z own_EL sS.vm h0 T87.vm T87.heap := CH83.trans (CHl87)
        skip
        have K90 : Keep h0 T87.heap [] := K85.trans Kq87 all0
        have f91 := (((A71.keep Kq77).keep Kq82).keep Kq87)
        have f92 := (((F_b71_catalog.keep Kq77 nin0).keep Kq82 nin0).keep Kq87 nin0)
        have f93 := (((F_b71_schema.keep Kq77 nin0).keep Kq82 nin0).keep Kq87 nin0)
        have f94 := (((F_b71_name.keep Kq77 nin0).keep Kq82 nin0).keep Kq87 nin0)
        have f95 := (f86.keep Kq87 all0)
        obtain ⟨_, _, ⟨T96, L96, k96, n96⟩, -, X96, ⟨Lc96, hQ96, l96, y96, z96⟩, st96⟩ := X87.specialBack hx (y := (⟨"com/example/entity_state_manager/entitystatemanager/QualifiedName", "<init>", "(Ljava/lang/String;Ljava/lang/String;Ljava/lang/String;)V"⟩ : MethodName)) rfl hown87 (mvT hZ87 (w_27 hw)) (mvT hZ87 (w_28 hw)) (mvT hZ87 (w_29 hw)) (by decide) (backOf (W := 1) (rm_qini l Z a0 hw [] b71 b_77 b_82 b_87 .null .null .null T87.heap n0 f95 f91 f92 f93 f94 g_b71) hZ87 (w_29 hw) (w_2 hw) (by decide) (by decide)) (g := (mkF mM 105 Ls32 [(.ref b_87), (.ref b_82), (.ref b_77), (.ref b71), (.ref b71)])) rfl (by rw [hml]; rfl) (Steps.refl _) (a := b71) (argsL := [(.ref b_77), (.ref b_82), (.ref b_87)]) (rest := [(.ref b71)]) (lenOf pd_9 rfl) rfl (by show 2 * 0 + _ ≤ _; exact Nat.le_of_eq rfl) (hb hby at_105) (fun _ _ => ⟨rfl, rfl, (by decide : 20 + 0 ≤ _), (by decide : 54 + 0 ≤ _)⟩)
        dsimp only [Pt.U, Pt.locs, Pt.cells, Pt.slots] at X96 l96 y96 z96 st96 hQ96
        subst l96 y96 z96
        obtain ⟨rfl, Nq96, Kq96, q96_0, q96_1, q96_2, q96_3⟩ := hQ96
        have N96 := Fr.app N87 Nq96
        have f98 := (CHr.safe CHl87 (Nat.lt_of_lt_of_le (Nat.lt_of_lt_of_le (A71).lt Kq77.1) Kq82.1) (CHr.safe CHl82 (Nat.lt_of_lt_of_le (A71).lt Kq77.1) (CHr.safe CHl77 (A71).lt (Safe.ext E71 CH26.1 Sn_b71))))
        have sfp99 := (sfS f98 sf0)
        have CH97 : CHr Z own_EL sS.vm h0 T87.vm T96.heap := CH88.trans (CHr.keep Kq96 sfp99 CH88.1)
        have hk100 := Nat.le_trans hk87 Kq96.1
        have K101 : Keep h0 T96.heap [] := K90.trans Kq96 (allS (Or.inr sz_b71) all0)
        let Ls102 : Array Slot := #[.val (.int p0), .val (.int p1), .val (.int p2), .val (.int p3), .val (.ref b1), .val (.int (p3 &&& (3 : Int32))), .val (.ref b71), .unset]
        have f103 := (f95.keep Kq96 (allS g_b71 all0))
        obtain ⟨_, _, ⟨T104, L104, k104, n104⟩, -, X104, ⟨Lc104, hQ104, l104, y104, z104⟩, st104⟩ := Jvm.LawKit.callS X96 hx (y := (⟨"com/example/entity_state_manager/entitystatemanager/QualifiedNameEqualsPinLaw", "samePart", "(I)Z"⟩ : MethodName)) hown87 (mvT hZ87 (w_96 hw)) (mvT hZ87 (w_97 hw)) (mvT hZ87 (w_5 hw)) (mvT hZ87 (w_98 hw)) (by decide) (backOf (W := 0) (rm_sp l Z a0 hw [] p0 T96.heap n0 f103 ) hZ87 (w_98 hw) (w_5 hw) (by decide) (by decide)) (g := (mkF mM 111 Ls102 [(.int p0)])) rfl (by rw [hml]; rfl) (argsL := [(.int p0)]) (rest := []) (lenOf pd_10 rfl) rfl (by show 2 * 0 + _ ≤ _; exact Nat.le_of_eq rfl) (hb hby at_111) (fun _ _ => ⟨rfl, rfl, (by decide : 20 + 0 ≤ _), (by decide : 54 + 0 ≤ _)⟩)
        dsimp only [Pt.U, Pt.locs, Pt.cells, Pt.slots] at X104 l104 y104 z104 st104 hQ104
        subst l104 y104 z104
        obtain ⟨rfl, rfl, Kq104⟩ := hQ104
        try rw [List.append_nil] at X104
        have pre106 : ∀ tg, Steps pP.tables eE below (T104.setTop (mkF mM 114 Ls102 [(.int (own_samePart p0))])) tg → Steps pP.tables eE below (s₁.setTop (entryFrame mM #[(.int p0), (.int p1), (.int p2), (.int p3)] maxLocals)) tg := fun tg kg => pre51 tg (by
          refine XS.icmpYes X25.here hx rfl (pc0 := 78) (pc' := 89) rfl (hb hby at_78) rfl (feq hc50).2 (by decide) (by decide) ?_
          show Steps pP.tables eE below (T25.setTop (mkF mM 89 Ls32 [])) _
          refine st71 _ ?_
          show Steps pP.tables eE below (T71.setTop (mkF mM 92 Ls32 [(.ref b71)])) _
          refine XS.dup X71.here hx rfl (hb hby at_92) rfl rfl ?_
          show Steps pP.tables eE below (T71.setTop (mkF mM 93 Ls32 [(.ref b71), (.ref b71)])) _
          refine XS.iloadN X71.here hx rfl (hb hby at_93) rfl ?_
          show Steps pP.tables eE below (T71.setTop (mkF mM 94 Ls32 [(.int p0), (.ref b71), (.ref b71)])) _
          refine st77.trans ?_
          show Steps pP.tables eE below (T77.setTop (mkF mM 97 Ls32 [(.ref b_77), (.ref b71), (.ref b71)])) _
          refine XS.iloadN X77.here hx rfl (hb hby at_97) rfl ?_
          show Steps pP.tables eE below (T77.setTop (mkF mM 98 Ls32 [(.int p1), (.ref b_77), (.ref b71), (.ref b71)])) _
          refine st82.trans ?_
          show Steps pP.tables eE below (T82.setTop (mkF mM 101 Ls32 [(.ref b_82), (.ref b_77), (.ref b71), (.ref b71)])) _
          refine XS.iloadN X82.here hx rfl (hb hby at_101) rfl ?_
          show Steps pP.tables eE below (T82.setTop (mkF mM 102 Ls32 [(.int p2), (.ref b_82), (.ref b_77), (.ref b71), (.ref b71)])) _
          refine st87.trans ?_
          show Steps pP.tables eE below (T87.setTop (mkF mM 105 Ls32 [(.ref b_87), (.ref b_82), (.ref b_77), (.ref b71), (.ref b71)])) _
          refine st96.trans ?_
          show Steps pP.tables eE below (T96.setTop (mkF mM 108 Ls32 [(.ref b71)])) _
          refine XS.astore X96.here hx rfl (hb hby at_108) rfl rfl (l' := Ls102) rfl ?_
          show Steps pP.tables eE below (T96.setTop (mkF mM 110 Ls102 [])) _
          refine XS.iloadN X96.here hx rfl (hb hby at_110) rfl ?_
          show Steps pP.tables eE below (T96.setTop (mkF mM 111 Ls102 [(.int p0)])) _
          refine st104 _ ?_
          exact kg)
        by_cases hc105 : (own_samePart p0) = (0 : Int32)
        · let Ls107 : Array Slot := #[.val (.int p0), .val (.int p1), .val (.int p2), .val (.int p3), .val (.ref b1), .val (.int (p3 &&& (3 : Int32))), .val (.ref b71), .val (.int (0 : Int32))]
          have f108 := (((((q25_1.ext E71).keep Kq77 nin0).keep Kq82 nin0).keep Kq87 nin0).keep Kq96 (ninS (Nat.ne_of_lt (Nat.lt_of_lt_of_le (q25_0).lt (Nat.le_of_eq g71.symm))) nin0))
          have f109 := (((((q25_2.ext E71).keep Kq77 nin0).keep Kq82 nin0).keep Kq87 nin0).keep Kq96 (ninS (Nat.ne_of_lt (Nat.lt_of_lt_of_le (q25_0).lt (Nat.le_of_eq g71.symm))) nin0))
          have f110 := (((((q25_3.ext E71).keep Kq77 nin0).keep Kq82 nin0).keep Kq87 nin0).keep Kq96 (ninS (Nat.ne_of_lt (Nat.lt_of_lt_of_le (q25_0).lt (Nat.le_of_eq g71.symm))) nin0))
          have f111 := (((((((((q6_0).1.keep Kq11).keep Kq16).keep Kq25).ext E71).keep Kq77).keep Kq82).keep Kq87).keep Kq96)
          have f112 := (((q6_0).1.keep Kq11).keep Kq16)
          have f113 := (((((((((q6_0).2.1.keep Kq11 nin0).keep Kq16 nin0).keep Kq25 (ninS (ne_exa f112 f20 (by decide)) nin0)).ext E71).keep Kq77 nin0).keep Kq82 nin0).keep Kq87 nin0).keep Kq96 (ninS (Nat.ne_of_lt (Nat.lt_of_lt_of_le (Nat.lt_of_lt_of_le (Nat.lt_of_lt_of_le (Nat.lt_of_lt_of_le ((q6_0).1).lt Kq11.1) Kq16.1) Kq25.1) (Nat.le_of_eq g71.symm))) nin0))
          have f114 := (((((((((q6_0).2.2.1.keep Kq11 nin0).keep Kq16 nin0).keep Kq25 (ninS (ne_exa f112 f20 (by decide)) nin0)).ext E71).keep Kq77 nin0).keep Kq82 nin0).keep Kq87 nin0).keep Kq96 (ninS (Nat.ne_of_lt (Nat.lt_of_lt_of_le (Nat.lt_of_lt_of_le (Nat.lt_of_lt_of_le (Nat.lt_of_lt_of_le ((q6_0).1).lt Kq11.1) Kq16.1) Kq25.1) (Nat.le_of_eq g71.symm))) nin0))
          have f115 := (((q6_0).2.2.2.1.keep Kq11 nin0).keep Kq16 nin0)
          have f116 := (((((((((q6_0).2.2.2.1.keep Kq11 nin0).keep Kq16 nin0).keep Kq25 (ninS (Ne.symm (Exa.neArv f20 f115 (w_1 hw))) nin0)).ext E71).keep Kq77 nin0).keep Kq82 nin0).keep Kq87 nin0).keep Kq96 (ninS (Nat.ne_of_lt (Nat.lt_of_lt_of_le (Nat.lt_of_lt_of_le (Nat.lt_of_lt_of_le (Nat.lt_of_lt_of_le ((q6_0).2.2.2.1).lt Kq11.1) Kq16.1) Kq25.1) (Nat.le_of_eq g71.symm))) nin0))
          have f117 := ((((q77_0).1.keep Kq82).keep Kq87).keep Kq96)
          have f118 := (((q77_0).1.keep Kq82).keep Kq87)
          have f119 := ((((q77_0).2.1.keep Kq82 nin0).keep Kq87 nin0).keep Kq96 (ninS (ne_exa f118 f91 (by decide)) nin0))
          have f120 := ((((q77_0).2.2.1.keep Kq82 nin0).keep Kq87 nin0).keep Kq96 (ninS (ne_exa f118 f91 (by decide)) nin0))
          have f121 := (((q77_0).2.2.2.1.keep Kq82 nin0).keep Kq87 nin0)
          have f122 := ((((q77_0).2.2.2.1.keep Kq82 nin0).keep Kq87 nin0).keep Kq96 (ninS (Ne.symm (Exa.neArv f91 f121 (w_1 hw))) nin0))
          have f123 := ((((((((q11_0).1.keep Kq16).keep Kq25).ext E71).keep Kq77).keep Kq82).keep Kq87).keep Kq96)
          have f124 := ((q11_0).1.keep Kq16)
          have f125 := ((((((((q11_0).2.1.keep Kq16 nin0).keep Kq25 (ninS (ne_exa f124 f20 (by decide)) nin0)).ext E71).keep Kq77 nin0).keep Kq82 nin0).keep Kq87 nin0).keep Kq96 (ninS (Nat.ne_of_lt (Nat.lt_of_lt_of_le (Nat.lt_of_lt_of_le (Nat.lt_of_lt_of_le ((q11_0).1).lt Kq16.1) Kq25.1) (Nat.le_of_eq g71.symm))) nin0))
          have f126 := ((((((((q11_0).2.2.1.keep Kq16 nin0).keep Kq25 (ninS (ne_exa f124 f20 (by decide)) nin0)).ext E71).keep Kq77 nin0).keep Kq82 nin0).keep Kq87 nin0).keep Kq96 (ninS (Nat.ne_of_lt (Nat.lt_of_lt_of_le (Nat.lt_of_lt_of_le (Nat.lt_of_lt_of_le ((q11_0).1).lt Kq16.1) Kq25.1) (Nat.le_of_eq g71.symm))) nin0))
          have f127 := ((q11_0).2.2.2.1.keep Kq16 nin0)
          have f128 := ((((((((q11_0).2.2.2.1.keep Kq16 nin0).keep Kq25 (ninS (Ne.symm (Exa.neArv f20 f127 (w_1 hw))) nin0)).ext E71).keep Kq77 nin0).keep Kq82 nin0).keep Kq87 nin0).keep Kq96 (ninS (Nat.ne_of_lt (Nat.lt_of_lt_of_le (Nat.lt_of_lt_of_le (Nat.lt_of_lt_of_le ((q11_0).2.2.2.1).lt Kq16.1) Kq25.1) (Nat.le_of_eq g71.symm))) nin0))
          have f129 := (((q82_0).1.keep Kq87).keep Kq96)
          have f130 := ((q82_0).1.keep Kq87)
          have f131 := (((q82_0).2.1.keep Kq87 nin0).keep Kq96 (ninS (ne_exa f130 f91 (by decide)) nin0))
          have f132 := (((q82_0).2.2.1.keep Kq87 nin0).keep Kq96 (ninS (ne_exa f130 f91 (by decide)) nin0))
          have f133 := ((q82_0).2.2.2.1.keep Kq87 nin0)
          have f134 := (((q82_0).2.2.2.1.keep Kq87 nin0).keep Kq96 (ninS (Ne.symm (Exa.neArv f91 f133 (w_1 hw))) nin0))
          have f135 := (((((((q16_0).1.keep Kq25).ext E71).keep Kq77).keep Kq82).keep Kq87).keep Kq96)
          have f136 := (((((((q16_0).2.1.keep Kq25 (ninS (ne_exa (q16_0).1 f20 (by decide)) nin0)).ext E71).keep Kq77 nin0).keep Kq82 nin0).keep Kq87 nin0).keep Kq96 (ninS (Nat.ne_of_lt (Nat.lt_of_lt_of_le (Nat.lt_of_lt_of_le ((q16_0).1).lt Kq25.1) (Nat.le_of_eq g71.symm))) nin0))
          have f137 := (((((((q16_0).2.2.1.keep Kq25 (ninS (ne_exa (q16_0).1 f20 (by decide)) nin0)).ext E71).keep Kq77 nin0).keep Kq82 nin0).keep Kq87 nin0).keep Kq96 (ninS (Nat.ne_of_lt (Nat.lt_of_lt_of_le (Nat.lt_of_lt_of_le ((q16_0).1).lt Kq25.1) (Nat.le_of_eq g71.symm))) nin0))
          have f138 := (((((((q16_0).2.2.2.1.keep Kq25 (ninS (Ne.symm (Exa.neArv f20 (q16_0).2.2.2.1 (w_1 hw))) nin0)).ext E71).keep Kq77 nin0).keep Kq82 nin0).keep Kq87 nin0).keep Kq96 (ninS (Nat.ne_of_lt (Nat.lt_of_lt_of_le (Nat.lt_of_lt_of_le ((q16_0).2.2.2.1).lt Kq25.1) (Nat.le_of_eq g71.symm))) nin0))
          have f139 := ((q87_0).1.keep Kq96)
          have f140 := ((q87_0).2.1.keep Kq96 (ninS (ne_exa (q87_0).1 f91 (by decide)) nin0))
          have f141 := ((q87_0).2.2.1.keep Kq96 (ninS (ne_exa (q87_0).1 f91 (by decide)) nin0))
          have f142 := ((q87_0).2.2.2.1.keep Kq96 (ninS (Ne.symm (Exa.neArv f91 (q87_0).2.2.2.1 (w_1 hw))) nin0))
          have f144 := (((((q25_0.ext E71).keep Kq77).keep Kq82).keep Kq87).keep Kq96)
          obtain ⟨cq143, kq143, q143a, q143b, q143c⟩ := isOf hZ87 Kq104 f144
          obtain ⟨_, _, ⟨T143, L143, k143, n143⟩, -, X143, ⟨Lc143, hQ143, l143, y143, z143⟩, st143⟩ := X104.virtualBack hx (y := (⟨"com/example/entity_state_manager/entitystatemanager/QualifiedName", "equals", "(Ljava/lang/Object;)Z"⟩ : MethodName)) (z := (⟨"com/example/entity_state_manager/entitystatemanager/QualifiedName", "equals", "(Ljava/lang/Object;)Z"⟩ : MethodName)) hown87 (mvT hZ87 (w_39 hw)) (mvT hZ87 (w_40 hw)) (notFace_of_selects (args := #[]) (mvT hZ87 (w_42 hw))) (mvT hZ87 (w_42 hw)) (mvT hZ87 (w_41 hw)) (by decide) (backOf (W := 0) (rm_eqL l Z a0 hw [] b1 b71 b_6 t_6 k_6 (own_ra p0) b_77 t_77 k_77 (own_oa p0) b_11 t_11 k_11 (own_ra p1) b_82 t_82 k_82 (own_oa p1) b_16 t_16 k_16 (own_ra p2) b_87 t_87 k_87 (own_oa p2) zc T96.heap n0 f103 q96_0 f108 q96_1 f109 q96_2 f110 q96_3 (⟨f111, f113, f114, f116, (q6_0).2.2.2.2⟩ : own_Str Z T96.heap b_6 t_6 k_6 (own_ra p0)) (⟨f117, f119, f120, f122, (q77_0).2.2.2.2⟩ : own_Str Z T96.heap b_77 t_77 k_77 (own_oa p0)) (⟨f123, f125, f126, f128, (q11_0).2.2.2.2⟩ : own_Str Z T96.heap b_11 t_11 k_11 (own_ra p1)) (⟨f129, f131, f132, f134, (q82_0).2.2.2.2⟩ : own_Str Z T96.heap b_82 t_82 k_82 (own_oa p1)) (⟨f135, f136, f137, f138, (q16_0).2.2.2.2⟩ : own_Str Z T96.heap b_16 t_16 k_16 (own_ra p2)) (⟨f139, f140, f141, f142, (q87_0).2.2.2.2⟩ : own_Str Z T96.heap b_87 t_87 k_87 (own_oa p2)) S_COMPACT_STRINGS hp1) hZ87 (w_43 hw) (w_2 hw) (by decide) (by decide)) q143a q143c (g := (mkF mM 142 Ls107 [(.ref b71), (.ref b1)])) rfl (by rw [hml]; rfl) (Steps.refl _) (argsL := [(.ref b71)]) (rest := []) (lenOf pd_7 rfl) rfl (by show 2 * 0 + _ ≤ _; exact Nat.le_of_eq rfl) (hb hby at_142) (fun _ _ => ⟨rfl, Kq104, (by decide : 20 + 0 ≤ _), (by decide : 54 + 0 ≤ _)⟩)
          dsimp only [Pt.U, Pt.locs, Pt.cells, Pt.slots] at X143 l143 y143 z143 st143 hQ143
          subst l143 y143 z143
          obtain ⟨rfl, rfl, Kq143⟩ := hQ143
          try rw [List.append_nil] at X143
          obtain ⟨cq145, kq145, q145a, q145b, q145c⟩ := isOf hZ87 Kq143 q96_0
          obtain ⟨_, _, ⟨T145, L145, k145, n145⟩, -, X145, ⟨Lc145, hQ145, l145, y145, z145⟩, st145⟩ := X143.virtualBack hx (y := (⟨"com/example/entity_state_manager/entitystatemanager/QualifiedName", "equals", "(Ljava/lang/Object;)Z"⟩ : MethodName)) (z := (⟨"com/example/entity_state_manager/entitystatemanager/QualifiedName", "equals", "(Ljava/lang/Object;)Z"⟩ : MethodName)) hown87 (mvT hZ87 (w_39 hw)) (mvT hZ87 (w_40 hw)) (notFace_of_selects (args := #[]) (mvT hZ87 (w_42 hw))) (mvT hZ87 (w_42 hw)) (mvT hZ87 (w_41 hw)) (by decide) (backOf (W := 0) (rm_eqL l Z a0 hw [] b71 b1 b_77 t_77 k_77 (own_oa p0) b_6 t_6 k_6 (own_ra p0) b_82 t_82 k_82 (own_oa p1) b_11 t_11 k_11 (own_ra p1) b_87 t_87 k_87 (own_oa p2) b_16 t_16 k_16 (own_ra p2) zc T96.heap n0 f103 f144 q96_1 f108 q96_2 f109 q96_3 f110 (⟨f117, f119, f120, f122, (q77_0).2.2.2.2⟩ : own_Str Z T96.heap b_77 t_77 k_77 (own_oa p0)) (⟨f111, f113, f114, f116, (q6_0).2.2.2.2⟩ : own_Str Z T96.heap b_6 t_6 k_6 (own_ra p0)) (⟨f129, f131, f132, f134, (q82_0).2.2.2.2⟩ : own_Str Z T96.heap b_82 t_82 k_82 (own_oa p1)) (⟨f123, f125, f126, f128, (q11_0).2.2.2.2⟩ : own_Str Z T96.heap b_11 t_11 k_11 (own_ra p1)) (⟨f139, f140, f141, f142, (q87_0).2.2.2.2⟩ : own_Str Z T96.heap b_87 t_87 k_87 (own_oa p2)) (⟨f135, f136, f137, f138, (q16_0).2.2.2.2⟩ : own_Str Z T96.heap b_16 t_16 k_16 (own_ra p2)) S_COMPACT_STRINGS hp1) hZ87 (w_43 hw) (w_2 hw) (by decide) (by decide)) q145a q145c (g := (mkF mM 154 Ls107 [(.ref b1), (.ref b71)])) rfl (by rw [hml]; rfl) (Steps.refl _) (argsL := [(.ref b1)]) (rest := []) (lenOf pd_7 rfl) rfl (by show 2 * 0 + _ ≤ _; exact Nat.le_of_eq rfl) (hb hby at_154) (fun _ _ => ⟨rfl, Kq143, (by decide : 20 + 0 ≤ _), (by decide : 54 + 0 ≤ _)⟩)
          dsimp only [Pt.U, Pt.locs, Pt.cells, Pt.slots] at X145 l145 y145 z145 st145 hQ145
          subst l145 y145 z145
          obtain ⟨rfl, rfl, Kq145⟩ := hQ145
          try rw [List.append_nil] at X145
          obtain ⟨fs, hr, hrun, hended, hR1, hR2, hR3, hR4⟩ := Stand.leaveW (s := sS) (vm₁ := T87.vm) X145 hS87 (by rw [Kq145]; exact hk100) (v := some (.int (1 : Int32))) (fun h => by rw [Bd.returns] at h; cases h)
          refine ⟨_, _, pre106 _ ?_, hrun, hended, _, _, rfl, ?_, ?_, hR1, hR2, hR3, hR4.mono (by decide) (by decide)⟩
          · refine XS.ifYes X104.here hx rfl (pc0 := 114) (pc' := 135) rfl (hb hby at_114) rfl ((if0 _ _).trans (teq hc105).1) (by decide) (by decide) ?_
            show Steps pP.tables eE below (T104.setTop (mkF mM 135 Ls102 [])) _
            refine XS.iconst X104.here hx rfl (hb hby at_135) ?_
            show Steps pP.tables eE below (T104.setTop (mkF mM 136 Ls102 [(.int (0 : Int32))])) _
            refine XS.istore X104.here hx rfl (hb hby at_136) rfl (l' := Ls107) rfl ?_
            show Steps pP.tables eE below (T104.setTop (mkF mM 138 Ls107 [])) _
            refine XS.aload X104.here hx rfl (hb hby at_138) rfl rfl ?_
            show Steps pP.tables eE below (T104.setTop (mkF mM 140 Ls107 [(.ref b1)])) _
            refine XS.aload X104.here hx rfl (hb hby at_140) rfl rfl ?_
            show Steps pP.tables eE below (T104.setTop (mkF mM 142 Ls107 [(.ref b71), (.ref b1)])) _
            refine st143.trans ?_
            show Steps pP.tables eE below (T143.setTop (mkF mM 145 Ls107 [(.int (own_qeq (own_ra p0) (own_oa p0) (own_ra p1) (own_oa p1) (own_ra p2) (own_oa p2)))])) _
            refine XS.iload X143.here hx rfl (hb hby at_145) rfl ?_
            show Steps pP.tables eE below (T143.setTop (mkF mM 147 Ls107 [(.int (0 : Int32)), (.int (own_qeq (own_ra p0) (own_oa p0) (own_ra p1) (own_oa p1) (own_ra p2) (own_oa p2)))])) _
            refine XS.icmpNo X143.here hx rfl (hb hby at_147) rfl (teq (by rw [own_qeq_eq, if_neg (fun z => own_sp0 hc105 z.1)])).2 ?_
            show Steps pP.tables eE below (T143.setTop (mkF mM 150 Ls107 [])) _
            refine XS.aload X143.here hx rfl (hb hby at_150) rfl rfl ?_
            show Steps pP.tables eE below (T143.setTop (mkF mM 152 Ls107 [(.ref b71)])) _
            refine XS.aload X143.here hx rfl (hb hby at_152) rfl rfl ?_
            show Steps pP.tables eE below (T143.setTop (mkF mM 154 Ls107 [(.ref b1), (.ref b71)])) _
            refine st145.trans ?_
            show Steps pP.tables eE below (T145.setTop (mkF mM 157 Ls107 [(.int (own_qeq (own_oa p0) (own_ra p0) (own_oa p1) (own_ra p1) (own_oa p2) (own_ra p2)))])) _
            refine XS.iload X145.here hx rfl (hb hby at_157) rfl ?_
            show Steps pP.tables eE below (T145.setTop (mkF mM 159 Ls107 [(.int (0 : Int32)), (.int (own_qeq (own_oa p0) (own_ra p0) (own_oa p1) (own_ra p1) (own_oa p2) (own_ra p2)))])) _
            refine XS.icmpNo X145.here hx rfl (hb hby at_159) rfl (teq (by rw [own_qeq_eq, if_neg (fun z => own_sp0 hc105 z.1.symm)])).2 ?_
            show Steps pP.tables eE below (T145.setTop (mkF mM 162 Ls107 [])) _
            refine XS.iconst X145.here hx rfl (hb hby at_162) ?_
            show Steps pP.tables eE below (T145.setTop (mkF mM 163 Ls107 [(.int (1 : Int32))])) _
            refine XS.goto X145.here hx rfl (pc0 := 163) (pc' := 167) rfl (hb hby at_163) (by decide) (by decide) ?_
            show Steps pP.tables eE below (T145.setTop (mkF mM 167 Ls107 [(.int (1 : Int32))])) _
            exact retN X145 hx (t := .boolean) Bd.returns (by simp) (hb hby at_167) hr
          · show Q_law Z p0 p1 p2 p3 zc fm h0 n0 _ T145.heap _
            rw [Kq145]
            exact ⟨rfl, N96, K101⟩
          · show CHr Z own_EL sS.vm sS.heap T145.vm T145.heap
            rw [hh, Kq145]
            exact CH97.trans (CHv.at X145 hZ87 hEL CH97.1)
        · obtain ⟨_, _, ⟨T147, L147, k147, n147⟩, -, X147, ⟨Lc147, hQ147, l147, y147, z147⟩, st147⟩ := Jvm.LawKit.callS X104 hx (y := (⟨"com/example/entity_state_manager/entitystatemanager/QualifiedNameEqualsPinLaw", "samePart", "(I)Z"⟩ : MethodName)) hown87 (mvT hZ87 (w_96 hw)) (mvT hZ87 (w_97 hw)) (mvT hZ87 (w_5 hw)) (mvT hZ87 (w_98 hw)) (by decide) (backOf (W := 0) (rm_sp l Z a0 hw [] p1 T96.heap n0 f103 ) hZ87 (w_98 hw) (w_5 hw) (by decide) (by decide)) (g := (mkF mM 118 Ls102 [(.int p1)])) rfl (by rw [hml]; rfl) (argsL := [(.int p1)]) (rest := []) (lenOf pd_10 rfl) rfl (by show 2 * 0 + _ ≤ _; exact Nat.le_of_eq rfl) (hb hby at_118) (fun _ _ => ⟨rfl, Kq104, (by decide : 20 + 0 ≤ _), (by decide : 54 + 0 ≤ _)⟩)
          dsimp only [Pt.U, Pt.locs, Pt.cells, Pt.slots] at X147 l147 y147 z147 st147 hQ147
          subst l147 y147 z147
          obtain ⟨rfl, rfl, Kq147⟩ := hQ147
          try rw [List.append_nil] at X147
          have pre149 : ∀ tg, Steps pP.tables eE below (T147.setTop (mkF mM 121 Ls102 [(.int (own_samePart p1))])) tg → Steps pP.tables eE below (s₁.setTop (entryFrame mM #[(.int p0), (.int p1), (.int p2), (.int p3)] maxLocals)) tg := fun tg kg => pre106 tg (by
            refine XS.ifNo X104.here hx rfl (hb hby at_114) rfl ((if0 _ _).trans (feq hc105).1) ?_
            show Steps pP.tables eE below (T104.setTop (mkF mM 117 Ls102 [])) _
            refine XS.iloadN X104.here hx rfl (hb hby at_117) rfl ?_
            show Steps pP.tables eE below (T104.setTop (mkF mM 118 Ls102 [(.int p1)])) _
            refine st147 _ ?_
            exact kg)
          by_cases hc148 : (own_samePart p1) = (0 : Int32)
          · let Ls150 : Array Slot := #[.val (.int p0), .val (.int p1), .val (.int p2), .val (.int p3), .val (.ref b1), .val (.int (p3 &&& (3 : Int32))), .val (.ref b71), .val (.int (0 : Int32))]
            have f151 := (((((q25_1.ext E71).keep Kq77 nin0).keep Kq82 nin0).keep Kq87 nin0).keep Kq96 (ninS (Nat.ne_of_lt (Nat.lt_of_lt_of_le (q25_0).lt (Nat.le_of_eq g71.symm))) nin0))
            have f152 := (((((q25_2.ext E71).keep Kq77 nin0).keep Kq82 nin0).keep Kq87 nin0).keep Kq96 (ninS (Nat.ne_of_lt (Nat.lt_of_lt_of_le (q25_0).lt (Nat.le_of_eq g71.symm))) nin0))
            have f153 := (((((q25_3.ext E71).keep Kq77 nin0).keep Kq82 nin0).keep Kq87 nin0).keep Kq96 (ninS (Nat.ne_of_lt (Nat.lt_of_lt_of_le (q25_0).lt (Nat.le_of_eq g71.symm))) nin0))
            have f154 := (((((((((q6_0).1.keep Kq11).keep Kq16).keep Kq25).ext E71).keep Kq77).keep Kq82).keep Kq87).keep Kq96)
            have f155 := (((q6_0).1.keep Kq11).keep Kq16)
            have f156 := (((((((((q6_0).2.1.keep Kq11 nin0).keep Kq16 nin0).keep Kq25 (ninS (ne_exa f155 f20 (by decide)) nin0)).ext E71).keep Kq77 nin0).keep Kq82 nin0).keep Kq87 nin0).keep Kq96 (ninS (Nat.ne_of_lt (Nat.lt_of_lt_of_le (Nat.lt_of_lt_of_le (Nat.lt_of_lt_of_le (Nat.lt_of_lt_of_le ((q6_0).1).lt Kq11.1) Kq16.1) Kq25.1) (Nat.le_of_eq g71.symm))) nin0))
            have f157 := (((((((((q6_0).2.2.1.keep Kq11 nin0).keep Kq16 nin0).keep Kq25 (ninS (ne_exa f155 f20 (by decide)) nin0)).ext E71).keep Kq77 nin0).keep Kq82 nin0).keep Kq87 nin0).keep Kq96 (ninS (Nat.ne_of_lt (Nat.lt_of_lt_of_le (Nat.lt_of_lt_of_le (Nat.lt_of_lt_of_le (Nat.lt_of_lt_of_le ((q6_0).1).lt Kq11.1) Kq16.1) Kq25.1) (Nat.le_of_eq g71.symm))) nin0))
            have f158 := (((q6_0).2.2.2.1.keep Kq11 nin0).keep Kq16 nin0)
            have f159 := (((((((((q6_0).2.2.2.1.keep Kq11 nin0).keep Kq16 nin0).keep Kq25 (ninS (Ne.symm (Exa.neArv f20 f158 (w_1 hw))) nin0)).ext E71).keep Kq77 nin0).keep Kq82 nin0).keep Kq87 nin0).keep Kq96 (ninS (Nat.ne_of_lt (Nat.lt_of_lt_of_le (Nat.lt_of_lt_of_le (Nat.lt_of_lt_of_le (Nat.lt_of_lt_of_le ((q6_0).2.2.2.1).lt Kq11.1) Kq16.1) Kq25.1) (Nat.le_of_eq g71.symm))) nin0))
            have f160 := ((((q77_0).1.keep Kq82).keep Kq87).keep Kq96)
            have f161 := (((q77_0).1.keep Kq82).keep Kq87)
            have f162 := ((((q77_0).2.1.keep Kq82 nin0).keep Kq87 nin0).keep Kq96 (ninS (ne_exa f161 f91 (by decide)) nin0))
            have f163 := ((((q77_0).2.2.1.keep Kq82 nin0).keep Kq87 nin0).keep Kq96 (ninS (ne_exa f161 f91 (by decide)) nin0))
            have f164 := (((q77_0).2.2.2.1.keep Kq82 nin0).keep Kq87 nin0)
            have f165 := ((((q77_0).2.2.2.1.keep Kq82 nin0).keep Kq87 nin0).keep Kq96 (ninS (Ne.symm (Exa.neArv f91 f164 (w_1 hw))) nin0))
            have f166 := ((((((((q11_0).1.keep Kq16).keep Kq25).ext E71).keep Kq77).keep Kq82).keep Kq87).keep Kq96)
            have f167 := ((q11_0).1.keep Kq16)
            have f168 := ((((((((q11_0).2.1.keep Kq16 nin0).keep Kq25 (ninS (ne_exa f167 f20 (by decide)) nin0)).ext E71).keep Kq77 nin0).keep Kq82 nin0).keep Kq87 nin0).keep Kq96 (ninS (Nat.ne_of_lt (Nat.lt_of_lt_of_le (Nat.lt_of_lt_of_le (Nat.lt_of_lt_of_le ((q11_0).1).lt Kq16.1) Kq25.1) (Nat.le_of_eq g71.symm))) nin0))
            have f169 := ((((((((q11_0).2.2.1.keep Kq16 nin0).keep Kq25 (ninS (ne_exa f167 f20 (by decide)) nin0)).ext E71).keep Kq77 nin0).keep Kq82 nin0).keep Kq87 nin0).keep Kq96 (ninS (Nat.ne_of_lt (Nat.lt_of_lt_of_le (Nat.lt_of_lt_of_le (Nat.lt_of_lt_of_le ((q11_0).1).lt Kq16.1) Kq25.1) (Nat.le_of_eq g71.symm))) nin0))
            have f170 := ((q11_0).2.2.2.1.keep Kq16 nin0)
            have f171 := ((((((((q11_0).2.2.2.1.keep Kq16 nin0).keep Kq25 (ninS (Ne.symm (Exa.neArv f20 f170 (w_1 hw))) nin0)).ext E71).keep Kq77 nin0).keep Kq82 nin0).keep Kq87 nin0).keep Kq96 (ninS (Nat.ne_of_lt (Nat.lt_of_lt_of_le (Nat.lt_of_lt_of_le (Nat.lt_of_lt_of_le ((q11_0).2.2.2.1).lt Kq16.1) Kq25.1) (Nat.le_of_eq g71.symm))) nin0))
            have f172 := (((q82_0).1.keep Kq87).keep Kq96)
            have f173 := ((q82_0).1.keep Kq87)
            have f174 := (((q82_0).2.1.keep Kq87 nin0).keep Kq96 (ninS (ne_exa f173 f91 (by decide)) nin0))
            have f175 := (((q82_0).2.2.1.keep Kq87 nin0).keep Kq96 (ninS (ne_exa f173 f91 (by decide)) nin0))
            have f176 := ((q82_0).2.2.2.1.keep Kq87 nin0)
            have f177 := (((q82_0).2.2.2.1.keep Kq87 nin0).keep Kq96 (ninS (Ne.symm (Exa.neArv f91 f176 (w_1 hw))) nin0))
            have f178 := (((((((q16_0).1.keep Kq25).ext E71).keep Kq77).keep Kq82).keep Kq87).keep Kq96)
            have f179 := (((((((q16_0).2.1.keep Kq25 (ninS (ne_exa (q16_0).1 f20 (by decide)) nin0)).ext E71).keep Kq77 nin0).keep Kq82 nin0).keep Kq87 nin0).keep Kq96 (ninS (Nat.ne_of_lt (Nat.lt_of_lt_of_le (Nat.lt_of_lt_of_le ((q16_0).1).lt Kq25.1) (Nat.le_of_eq g71.symm))) nin0))
            have f180 := (((((((q16_0).2.2.1.keep Kq25 (ninS (ne_exa (q16_0).1 f20 (by decide)) nin0)).ext E71).keep Kq77 nin0).keep Kq82 nin0).keep Kq87 nin0).keep Kq96 (ninS (Nat.ne_of_lt (Nat.lt_of_lt_of_le (Nat.lt_of_lt_of_le ((q16_0).1).lt Kq25.1) (Nat.le_of_eq g71.symm))) nin0))
            have f181 := (((((((q16_0).2.2.2.1.keep Kq25 (ninS (Ne.symm (Exa.neArv f20 (q16_0).2.2.2.1 (w_1 hw))) nin0)).ext E71).keep Kq77 nin0).keep Kq82 nin0).keep Kq87 nin0).keep Kq96 (ninS (Nat.ne_of_lt (Nat.lt_of_lt_of_le (Nat.lt_of_lt_of_le ((q16_0).2.2.2.1).lt Kq25.1) (Nat.le_of_eq g71.symm))) nin0))
            have f182 := ((q87_0).1.keep Kq96)
            have f183 := ((q87_0).2.1.keep Kq96 (ninS (ne_exa (q87_0).1 f91 (by decide)) nin0))
            have f184 := ((q87_0).2.2.1.keep Kq96 (ninS (ne_exa (q87_0).1 f91 (by decide)) nin0))
            have f185 := ((q87_0).2.2.2.1.keep Kq96 (ninS (Ne.symm (Exa.neArv f91 (q87_0).2.2.2.1 (w_1 hw))) nin0))
            have f187 := (((((q25_0.ext E71).keep Kq77).keep Kq82).keep Kq87).keep Kq96)
            obtain ⟨cq186, kq186, q186a, q186b, q186c⟩ := isOf hZ87 Kq147 f187
            obtain ⟨_, _, ⟨T186, L186, k186, n186⟩, -, X186, ⟨Lc186, hQ186, l186, y186, z186⟩, st186⟩ := X147.virtualBack hx (y := (⟨"com/example/entity_state_manager/entitystatemanager/QualifiedName", "equals", "(Ljava/lang/Object;)Z"⟩ : MethodName)) (z := (⟨"com/example/entity_state_manager/entitystatemanager/QualifiedName", "equals", "(Ljava/lang/Object;)Z"⟩ : MethodName)) hown87 (mvT hZ87 (w_39 hw)) (mvT hZ87 (w_40 hw)) (notFace_of_selects (args := #[]) (mvT hZ87 (w_42 hw))) (mvT hZ87 (w_42 hw)) (mvT hZ87 (w_41 hw)) (by decide) (backOf (W := 0) (rm_eqL l Z a0 hw [] b1 b71 b_6 t_6 k_6 (own_ra p0) b_77 t_77 k_77 (own_oa p0) b_11 t_11 k_11 (own_ra p1) b_82 t_82 k_82 (own_oa p1) b_16 t_16 k_16 (own_ra p2) b_87 t_87 k_87 (own_oa p2) zc T96.heap n0 f103 q96_0 f151 q96_1 f152 q96_2 f153 q96_3 (⟨f154, f156, f157, f159, (q6_0).2.2.2.2⟩ : own_Str Z T96.heap b_6 t_6 k_6 (own_ra p0)) (⟨f160, f162, f163, f165, (q77_0).2.2.2.2⟩ : own_Str Z T96.heap b_77 t_77 k_77 (own_oa p0)) (⟨f166, f168, f169, f171, (q11_0).2.2.2.2⟩ : own_Str Z T96.heap b_11 t_11 k_11 (own_ra p1)) (⟨f172, f174, f175, f177, (q82_0).2.2.2.2⟩ : own_Str Z T96.heap b_82 t_82 k_82 (own_oa p1)) (⟨f178, f179, f180, f181, (q16_0).2.2.2.2⟩ : own_Str Z T96.heap b_16 t_16 k_16 (own_ra p2)) (⟨f182, f183, f184, f185, (q87_0).2.2.2.2⟩ : own_Str Z T96.heap b_87 t_87 k_87 (own_oa p2)) S_COMPACT_STRINGS hp1) hZ87 (w_43 hw) (w_2 hw) (by decide) (by decide)) q186a q186c (g := (mkF mM 142 Ls150 [(.ref b71), (.ref b1)])) rfl (by rw [hml]; rfl) (Steps.refl _) (argsL := [(.ref b71)]) (rest := []) (lenOf pd_7 rfl) rfl (by show 2 * 0 + _ ≤ _; exact Nat.le_of_eq rfl) (hb hby at_142) (fun _ _ => ⟨rfl, Kq147, (by decide : 20 + 0 ≤ _), (by decide : 54 + 0 ≤ _)⟩)
            dsimp only [Pt.U, Pt.locs, Pt.cells, Pt.slots] at X186 l186 y186 z186 st186 hQ186
            subst l186 y186 z186
            obtain ⟨rfl, rfl, Kq186⟩ := hQ186
            try rw [List.append_nil] at X186
            obtain ⟨cq188, kq188, q188a, q188b, q188c⟩ := isOf hZ87 Kq186 q96_0
            obtain ⟨_, _, ⟨T188, L188, k188, n188⟩, -, X188, ⟨Lc188, hQ188, l188, y188, z188⟩, st188⟩ := X186.virtualBack hx (y := (⟨"com/example/entity_state_manager/entitystatemanager/QualifiedName", "equals", "(Ljava/lang/Object;)Z"⟩ : MethodName)) (z := (⟨"com/example/entity_state_manager/entitystatemanager/QualifiedName", "equals", "(Ljava/lang/Object;)Z"⟩ : MethodName)) hown87 (mvT hZ87 (w_39 hw)) (mvT hZ87 (w_40 hw)) (notFace_of_selects (args := #[]) (mvT hZ87 (w_42 hw))) (mvT hZ87 (w_42 hw)) (mvT hZ87 (w_41 hw)) (by decide) (backOf (W := 0) (rm_eqL l Z a0 hw [] b71 b1 b_77 t_77 k_77 (own_oa p0) b_6 t_6 k_6 (own_ra p0) b_82 t_82 k_82 (own_oa p1) b_11 t_11 k_11 (own_ra p1) b_87 t_87 k_87 (own_oa p2) b_16 t_16 k_16 (own_ra p2) zc T96.heap n0 f103 f187 q96_1 f151 q96_2 f152 q96_3 f153 (⟨f160, f162, f163, f165, (q77_0).2.2.2.2⟩ : own_Str Z T96.heap b_77 t_77 k_77 (own_oa p0)) (⟨f154, f156, f157, f159, (q6_0).2.2.2.2⟩ : own_Str Z T96.heap b_6 t_6 k_6 (own_ra p0)) (⟨f172, f174, f175, f177, (q82_0).2.2.2.2⟩ : own_Str Z T96.heap b_82 t_82 k_82 (own_oa p1)) (⟨f166, f168, f169, f171, (q11_0).2.2.2.2⟩ : own_Str Z T96.heap b_11 t_11 k_11 (own_ra p1)) (⟨f182, f183, f184, f185, (q87_0).2.2.2.2⟩ : own_Str Z T96.heap b_87 t_87 k_87 (own_oa p2)) (⟨f178, f179, f180, f181, (q16_0).2.2.2.2⟩ : own_Str Z T96.heap b_16 t_16 k_16 (own_ra p2)) S_COMPACT_STRINGS hp1) hZ87 (w_43 hw) (w_2 hw) (by decide) (by decide)) q188a q188c (g := (mkF mM 154 Ls150 [(.ref b1), (.ref b71)])) rfl (by rw [hml]; rfl) (Steps.refl _) (argsL := [(.ref b1)]) (rest := []) (lenOf pd_7 rfl) rfl (by show 2 * 0 + _ ≤ _; exact Nat.le_of_eq rfl) (hb hby at_154) (fun _ _ => ⟨rfl, Kq186, (by decide : 20 + 0 ≤ _), (by decide : 54 + 0 ≤ _)⟩)
            dsimp only [Pt.U, Pt.locs, Pt.cells, Pt.slots] at X188 l188 y188 z188 st188 hQ188
            subst l188 y188 z188
            obtain ⟨rfl, rfl, Kq188⟩ := hQ188
            try rw [List.append_nil] at X188
            obtain ⟨fs, hr, hrun, hended, hR1, hR2, hR3, hR4⟩ := Stand.leaveW (s := sS) (vm₁ := T87.vm) X188 hS87 (by rw [Kq188]; exact hk100) (v := some (.int (1 : Int32))) (fun h => by rw [Bd.returns] at h; cases h)
            refine ⟨_, _, pre149 _ ?_, hrun, hended, _, _, rfl, ?_, ?_, hR1, hR2, hR3, hR4.mono (by decide) (by decide)⟩
            · refine XS.ifYes X147.here hx rfl (pc0 := 121) (pc' := 135) rfl (hb hby at_121) rfl ((if0 _ _).trans (teq hc148).1) (by decide) (by decide) ?_
              show Steps pP.tables eE below (T147.setTop (mkF mM 135 Ls102 [])) _
              refine XS.iconst X147.here hx rfl (hb hby at_135) ?_
              show Steps pP.tables eE below (T147.setTop (mkF mM 136 Ls102 [(.int (0 : Int32))])) _
              refine XS.istore X147.here hx rfl (hb hby at_136) rfl (l' := Ls150) rfl ?_
              show Steps pP.tables eE below (T147.setTop (mkF mM 138 Ls150 [])) _
              refine XS.aload X147.here hx rfl (hb hby at_138) rfl rfl ?_
              show Steps pP.tables eE below (T147.setTop (mkF mM 140 Ls150 [(.ref b1)])) _
              refine XS.aload X147.here hx rfl (hb hby at_140) rfl rfl ?_
              show Steps pP.tables eE below (T147.setTop (mkF mM 142 Ls150 [(.ref b71), (.ref b1)])) _
              refine st186.trans ?_
              show Steps pP.tables eE below (T186.setTop (mkF mM 145 Ls150 [(.int (own_qeq (own_ra p0) (own_oa p0) (own_ra p1) (own_oa p1) (own_ra p2) (own_oa p2)))])) _
              refine XS.iload X186.here hx rfl (hb hby at_145) rfl ?_
              show Steps pP.tables eE below (T186.setTop (mkF mM 147 Ls150 [(.int (0 : Int32)), (.int (own_qeq (own_ra p0) (own_oa p0) (own_ra p1) (own_oa p1) (own_ra p2) (own_oa p2)))])) _
              refine XS.icmpNo X186.here hx rfl (hb hby at_147) rfl (teq (by rw [own_qeq_eq, if_neg (fun z => own_sp0 hc148 z.2.1)])).2 ?_
              show Steps pP.tables eE below (T186.setTop (mkF mM 150 Ls150 [])) _
              refine XS.aload X186.here hx rfl (hb hby at_150) rfl rfl ?_
              show Steps pP.tables eE below (T186.setTop (mkF mM 152 Ls150 [(.ref b71)])) _
              refine XS.aload X186.here hx rfl (hb hby at_152) rfl rfl ?_
              show Steps pP.tables eE below (T186.setTop (mkF mM 154 Ls150 [(.ref b1), (.ref b71)])) _
              refine st188.trans ?_
              show Steps pP.tables eE below (T188.setTop (mkF mM 157 Ls150 [(.int (own_qeq (own_oa p0) (own_ra p0) (own_oa p1) (own_ra p1) (own_oa p2) (own_ra p2)))])) _
              refine XS.iload X188.here hx rfl (hb hby at_157) rfl ?_
              show Steps pP.tables eE below (T188.setTop (mkF mM 159 Ls150 [(.int (0 : Int32)), (.int (own_qeq (own_oa p0) (own_ra p0) (own_oa p1) (own_ra p1) (own_oa p2) (own_ra p2)))])) _
              refine XS.icmpNo X188.here hx rfl (hb hby at_159) rfl (teq (by rw [own_qeq_eq, if_neg (fun z => own_sp0 hc148 z.2.1.symm)])).2 ?_
              show Steps pP.tables eE below (T188.setTop (mkF mM 162 Ls150 [])) _
              refine XS.iconst X188.here hx rfl (hb hby at_162) ?_
              show Steps pP.tables eE below (T188.setTop (mkF mM 163 Ls150 [(.int (1 : Int32))])) _
              refine XS.goto X188.here hx rfl (pc0 := 163) (pc' := 167) rfl (hb hby at_163) (by decide) (by decide) ?_
              show Steps pP.tables eE below (T188.setTop (mkF mM 167 Ls150 [(.int (1 : Int32))])) _
              exact retN X188 hx (t := .boolean) Bd.returns (by simp) (hb hby at_167) hr
            · show Q_law Z p0 p1 p2 p3 zc fm h0 n0 _ T188.heap _
              rw [Kq188]
              exact ⟨rfl, N96, K101⟩
            · show CHr Z own_EL sS.vm sS.heap T188.vm T188.heap
              rw [hh, Kq188]
              exact CH97.trans (CHv.at X188 hZ87 hEL CH97.1)
          · obtain ⟨_, _, ⟨T190, L190, k190, n190⟩, -, X190, ⟨Lc190, hQ190, l190, y190, z190⟩, st190⟩ := Jvm.LawKit.callS X147 hx (y := (⟨"com/example/entity_state_manager/entitystatemanager/QualifiedNameEqualsPinLaw", "samePart", "(I)Z"⟩ : MethodName)) hown87 (mvT hZ87 (w_96 hw)) (mvT hZ87 (w_97 hw)) (mvT hZ87 (w_5 hw)) (mvT hZ87 (w_98 hw)) (by decide) (backOf (W := 0) (rm_sp l Z a0 hw [] p2 T96.heap n0 f103 ) hZ87 (w_98 hw) (w_5 hw) (by decide) (by decide)) (g := (mkF mM 125 Ls102 [(.int p2)])) rfl (by rw [hml]; rfl) (argsL := [(.int p2)]) (rest := []) (lenOf pd_10 rfl) rfl (by show 2 * 0 + _ ≤ _; exact Nat.le_of_eq rfl) (hb hby at_125) (fun _ _ => ⟨rfl, Kq147, (by decide : 20 + 0 ≤ _), (by decide : 54 + 0 ≤ _)⟩)
            dsimp only [Pt.U, Pt.locs, Pt.cells, Pt.slots] at X190 l190 y190 z190 st190 hQ190
            subst l190 y190 z190
            obtain ⟨rfl, rfl, Kq190⟩ := hQ190
            try rw [List.append_nil] at X190
            have pre192 : ∀ tg, Steps pP.tables eE below (T190.setTop (mkF mM 128 Ls102 [(.int (own_samePart p2))])) tg → Steps pP.tables eE below (s₁.setTop (entryFrame mM #[(.int p0), (.int p1), (.int p2), (.int p3)] maxLocals)) tg := fun tg kg => pre149 tg (by
              refine XS.ifNo X147.here hx rfl (hb hby at_121) rfl ((if0 _ _).trans (feq hc148).1) ?_
              show Steps pP.tables eE below (T147.setTop (mkF mM 124 Ls102 [])) _
              refine XS.iloadN X147.here hx rfl (hb hby at_124) rfl ?_
              show Steps pP.tables eE below (T147.setTop (mkF mM 125 Ls102 [(.int p2)])) _
              refine st190 _ ?_
              exact kg)
            by_cases hc191 : (own_samePart p2) = (0 : Int32)
            · let Ls193 : Array Slot := #[.val (.int p0), .val (.int p1), .val (.int p2), .val (.int p3), .val (.ref b1), .val (.int (p3 &&& (3 : Int32))), .val (.ref b71), .val (.int (0 : Int32))]
              have f194 := (((((q25_1.ext E71).keep Kq77 nin0).keep Kq82 nin0).keep Kq87 nin0).keep Kq96 (ninS (Nat.ne_of_lt (Nat.lt_of_lt_of_le (q25_0).lt (Nat.le_of_eq g71.symm))) nin0))
              have f195 := (((((q25_2.ext E71).keep Kq77 nin0).keep Kq82 nin0).keep Kq87 nin0).keep Kq96 (ninS (Nat.ne_of_lt (Nat.lt_of_lt_of_le (q25_0).lt (Nat.le_of_eq g71.symm))) nin0))
              have f196 := (((((q25_3.ext E71).keep Kq77 nin0).keep Kq82 nin0).keep Kq87 nin0).keep Kq96 (ninS (Nat.ne_of_lt (Nat.lt_of_lt_of_le (q25_0).lt (Nat.le_of_eq g71.symm))) nin0))
              have f197 := (((((((((q6_0).1.keep Kq11).keep Kq16).keep Kq25).ext E71).keep Kq77).keep Kq82).keep Kq87).keep Kq96)
              have f198 := (((q6_0).1.keep Kq11).keep Kq16)
              have f199 := (((((((((q6_0).2.1.keep Kq11 nin0).keep Kq16 nin0).keep Kq25 (ninS (ne_exa f198 f20 (by decide)) nin0)).ext E71).keep Kq77 nin0).keep Kq82 nin0).keep Kq87 nin0).keep Kq96 (ninS (Nat.ne_of_lt (Nat.lt_of_lt_of_le (Nat.lt_of_lt_of_le (Nat.lt_of_lt_of_le (Nat.lt_of_lt_of_le ((q6_0).1).lt Kq11.1) Kq16.1) Kq25.1) (Nat.le_of_eq g71.symm))) nin0))
              have f200 := (((((((((q6_0).2.2.1.keep Kq11 nin0).keep Kq16 nin0).keep Kq25 (ninS (ne_exa f198 f20 (by decide)) nin0)).ext E71).keep Kq77 nin0).keep Kq82 nin0).keep Kq87 nin0).keep Kq96 (ninS (Nat.ne_of_lt (Nat.lt_of_lt_of_le (Nat.lt_of_lt_of_le (Nat.lt_of_lt_of_le (Nat.lt_of_lt_of_le ((q6_0).1).lt Kq11.1) Kq16.1) Kq25.1) (Nat.le_of_eq g71.symm))) nin0))
              have f201 := (((q6_0).2.2.2.1.keep Kq11 nin0).keep Kq16 nin0)
              have f202 := (((((((((q6_0).2.2.2.1.keep Kq11 nin0).keep Kq16 nin0).keep Kq25 (ninS (Ne.symm (Exa.neArv f20 f201 (w_1 hw))) nin0)).ext E71).keep Kq77 nin0).keep Kq82 nin0).keep Kq87 nin0).keep Kq96 (ninS (Nat.ne_of_lt (Nat.lt_of_lt_of_le (Nat.lt_of_lt_of_le (Nat.lt_of_lt_of_le (Nat.lt_of_lt_of_le ((q6_0).2.2.2.1).lt Kq11.1) Kq16.1) Kq25.1) (Nat.le_of_eq g71.symm))) nin0))
              have f203 := ((((q77_0).1.keep Kq82).keep Kq87).keep Kq96)
              have f204 := (((q77_0).1.keep Kq82).keep Kq87)
              have f205 := ((((q77_0).2.1.keep Kq82 nin0).keep Kq87 nin0).keep Kq96 (ninS (ne_exa f204 f91 (by decide)) nin0))
              have f206 := ((((q77_0).2.2.1.keep Kq82 nin0).keep Kq87 nin0).keep Kq96 (ninS (ne_exa f204 f91 (by decide)) nin0))
              have f207 := (((q77_0).2.2.2.1.keep Kq82 nin0).keep Kq87 nin0)
              have f208 := ((((q77_0).2.2.2.1.keep Kq82 nin0).keep Kq87 nin0).keep Kq96 (ninS (Ne.symm (Exa.neArv f91 f207 (w_1 hw))) nin0))
              have f209 := ((((((((q11_0).1.keep Kq16).keep Kq25).ext E71).keep Kq77).keep Kq82).keep Kq87).keep Kq96)
              have f210 := ((q11_0).1.keep Kq16)
              have f211 := ((((((((q11_0).2.1.keep Kq16 nin0).keep Kq25 (ninS (ne_exa f210 f20 (by decide)) nin0)).ext E71).keep Kq77 nin0).keep Kq82 nin0).keep Kq87 nin0).keep Kq96 (ninS (Nat.ne_of_lt (Nat.lt_of_lt_of_le (Nat.lt_of_lt_of_le (Nat.lt_of_lt_of_le ((q11_0).1).lt Kq16.1) Kq25.1) (Nat.le_of_eq g71.symm))) nin0))
              have f212 := ((((((((q11_0).2.2.1.keep Kq16 nin0).keep Kq25 (ninS (ne_exa f210 f20 (by decide)) nin0)).ext E71).keep Kq77 nin0).keep Kq82 nin0).keep Kq87 nin0).keep Kq96 (ninS (Nat.ne_of_lt (Nat.lt_of_lt_of_le (Nat.lt_of_lt_of_le (Nat.lt_of_lt_of_le ((q11_0).1).lt Kq16.1) Kq25.1) (Nat.le_of_eq g71.symm))) nin0))
              have f213 := ((q11_0).2.2.2.1.keep Kq16 nin0)
              have f214 := ((((((((q11_0).2.2.2.1.keep Kq16 nin0).keep Kq25 (ninS (Ne.symm (Exa.neArv f20 f213 (w_1 hw))) nin0)).ext E71).keep Kq77 nin0).keep Kq82 nin0).keep Kq87 nin0).keep Kq96 (ninS (Nat.ne_of_lt (Nat.lt_of_lt_of_le (Nat.lt_of_lt_of_le (Nat.lt_of_lt_of_le ((q11_0).2.2.2.1).lt Kq16.1) Kq25.1) (Nat.le_of_eq g71.symm))) nin0))
              have f215 := (((q82_0).1.keep Kq87).keep Kq96)
              have f216 := ((q82_0).1.keep Kq87)
              have f217 := (((q82_0).2.1.keep Kq87 nin0).keep Kq96 (ninS (ne_exa f216 f91 (by decide)) nin0))
              have f218 := (((q82_0).2.2.1.keep Kq87 nin0).keep Kq96 (ninS (ne_exa f216 f91 (by decide)) nin0))
              have f219 := ((q82_0).2.2.2.1.keep Kq87 nin0)
              have f220 := (((q82_0).2.2.2.1.keep Kq87 nin0).keep Kq96 (ninS (Ne.symm (Exa.neArv f91 f219 (w_1 hw))) nin0))
              have f221 := (((((((q16_0).1.keep Kq25).ext E71).keep Kq77).keep Kq82).keep Kq87).keep Kq96)
              have f222 := (((((((q16_0).2.1.keep Kq25 (ninS (ne_exa (q16_0).1 f20 (by decide)) nin0)).ext E71).keep Kq77 nin0).keep Kq82 nin0).keep Kq87 nin0).keep Kq96 (ninS (Nat.ne_of_lt (Nat.lt_of_lt_of_le (Nat.lt_of_lt_of_le ((q16_0).1).lt Kq25.1) (Nat.le_of_eq g71.symm))) nin0))
              have f223 := (((((((q16_0).2.2.1.keep Kq25 (ninS (ne_exa (q16_0).1 f20 (by decide)) nin0)).ext E71).keep Kq77 nin0).keep Kq82 nin0).keep Kq87 nin0).keep Kq96 (ninS (Nat.ne_of_lt (Nat.lt_of_lt_of_le (Nat.lt_of_lt_of_le ((q16_0).1).lt Kq25.1) (Nat.le_of_eq g71.symm))) nin0))
              have f224 := (((((((q16_0).2.2.2.1.keep Kq25 (ninS (Ne.symm (Exa.neArv f20 (q16_0).2.2.2.1 (w_1 hw))) nin0)).ext E71).keep Kq77 nin0).keep Kq82 nin0).keep Kq87 nin0).keep Kq96 (ninS (Nat.ne_of_lt (Nat.lt_of_lt_of_le (Nat.lt_of_lt_of_le ((q16_0).2.2.2.1).lt Kq25.1) (Nat.le_of_eq g71.symm))) nin0))
              have f225 := ((q87_0).1.keep Kq96)
              have f226 := ((q87_0).2.1.keep Kq96 (ninS (ne_exa (q87_0).1 f91 (by decide)) nin0))
              have f227 := ((q87_0).2.2.1.keep Kq96 (ninS (ne_exa (q87_0).1 f91 (by decide)) nin0))
              have f228 := ((q87_0).2.2.2.1.keep Kq96 (ninS (Ne.symm (Exa.neArv f91 (q87_0).2.2.2.1 (w_1 hw))) nin0))
              have f230 := (((((q25_0.ext E71).keep Kq77).keep Kq82).keep Kq87).keep Kq96)
              obtain ⟨cq229, kq229, q229a, q229b, q229c⟩ := isOf hZ87 Kq190 f230
              obtain ⟨_, _, ⟨T229, L229, k229, n229⟩, -, X229, ⟨Lc229, hQ229, l229, y229, z229⟩, st229⟩ := X190.virtualBack hx (y := (⟨"com/example/entity_state_manager/entitystatemanager/QualifiedName", "equals", "(Ljava/lang/Object;)Z"⟩ : MethodName)) (z := (⟨"com/example/entity_state_manager/entitystatemanager/QualifiedName", "equals", "(Ljava/lang/Object;)Z"⟩ : MethodName)) hown87 (mvT hZ87 (w_39 hw)) (mvT hZ87 (w_40 hw)) (notFace_of_selects (args := #[]) (mvT hZ87 (w_42 hw))) (mvT hZ87 (w_42 hw)) (mvT hZ87 (w_41 hw)) (by decide) (backOf (W := 0) (rm_eqL l Z a0 hw [] b1 b71 b_6 t_6 k_6 (own_ra p0) b_77 t_77 k_77 (own_oa p0) b_11 t_11 k_11 (own_ra p1) b_82 t_82 k_82 (own_oa p1) b_16 t_16 k_16 (own_ra p2) b_87 t_87 k_87 (own_oa p2) zc T96.heap n0 f103 q96_0 f194 q96_1 f195 q96_2 f196 q96_3 (⟨f197, f199, f200, f202, (q6_0).2.2.2.2⟩ : own_Str Z T96.heap b_6 t_6 k_6 (own_ra p0)) (⟨f203, f205, f206, f208, (q77_0).2.2.2.2⟩ : own_Str Z T96.heap b_77 t_77 k_77 (own_oa p0)) (⟨f209, f211, f212, f214, (q11_0).2.2.2.2⟩ : own_Str Z T96.heap b_11 t_11 k_11 (own_ra p1)) (⟨f215, f217, f218, f220, (q82_0).2.2.2.2⟩ : own_Str Z T96.heap b_82 t_82 k_82 (own_oa p1)) (⟨f221, f222, f223, f224, (q16_0).2.2.2.2⟩ : own_Str Z T96.heap b_16 t_16 k_16 (own_ra p2)) (⟨f225, f226, f227, f228, (q87_0).2.2.2.2⟩ : own_Str Z T96.heap b_87 t_87 k_87 (own_oa p2)) S_COMPACT_STRINGS hp1) hZ87 (w_43 hw) (w_2 hw) (by decide) (by decide)) q229a q229c (g := (mkF mM 142 Ls193 [(.ref b71), (.ref b1)])) rfl (by rw [hml]; rfl) (Steps.refl _) (argsL := [(.ref b71)]) (rest := []) (lenOf pd_7 rfl) rfl (by show 2 * 0 + _ ≤ _; exact Nat.le_of_eq rfl) (hb hby at_142) (fun _ _ => ⟨rfl, Kq190, (by decide : 20 + 0 ≤ _), (by decide : 54 + 0 ≤ _)⟩)
              dsimp only [Pt.U, Pt.locs, Pt.cells, Pt.slots] at X229 l229 y229 z229 st229 hQ229
              subst l229 y229 z229
              obtain ⟨rfl, rfl, Kq229⟩ := hQ229
              try rw [List.append_nil] at X229
              obtain ⟨cq231, kq231, q231a, q231b, q231c⟩ := isOf hZ87 Kq229 q96_0
              obtain ⟨_, _, ⟨T231, L231, k231, n231⟩, -, X231, ⟨Lc231, hQ231, l231, y231, z231⟩, st231⟩ := X229.virtualBack hx (y := (⟨"com/example/entity_state_manager/entitystatemanager/QualifiedName", "equals", "(Ljava/lang/Object;)Z"⟩ : MethodName)) (z := (⟨"com/example/entity_state_manager/entitystatemanager/QualifiedName", "equals", "(Ljava/lang/Object;)Z"⟩ : MethodName)) hown87 (mvT hZ87 (w_39 hw)) (mvT hZ87 (w_40 hw)) (notFace_of_selects (args := #[]) (mvT hZ87 (w_42 hw))) (mvT hZ87 (w_42 hw)) (mvT hZ87 (w_41 hw)) (by decide) (backOf (W := 0) (rm_eqL l Z a0 hw [] b71 b1 b_77 t_77 k_77 (own_oa p0) b_6 t_6 k_6 (own_ra p0) b_82 t_82 k_82 (own_oa p1) b_11 t_11 k_11 (own_ra p1) b_87 t_87 k_87 (own_oa p2) b_16 t_16 k_16 (own_ra p2) zc T96.heap n0 f103 f230 q96_1 f194 q96_2 f195 q96_3 f196 (⟨f203, f205, f206, f208, (q77_0).2.2.2.2⟩ : own_Str Z T96.heap b_77 t_77 k_77 (own_oa p0)) (⟨f197, f199, f200, f202, (q6_0).2.2.2.2⟩ : own_Str Z T96.heap b_6 t_6 k_6 (own_ra p0)) (⟨f215, f217, f218, f220, (q82_0).2.2.2.2⟩ : own_Str Z T96.heap b_82 t_82 k_82 (own_oa p1)) (⟨f209, f211, f212, f214, (q11_0).2.2.2.2⟩ : own_Str Z T96.heap b_11 t_11 k_11 (own_ra p1)) (⟨f225, f226, f227, f228, (q87_0).2.2.2.2⟩ : own_Str Z T96.heap b_87 t_87 k_87 (own_oa p2)) (⟨f221, f222, f223, f224, (q16_0).2.2.2.2⟩ : own_Str Z T96.heap b_16 t_16 k_16 (own_ra p2)) S_COMPACT_STRINGS hp1) hZ87 (w_43 hw) (w_2 hw) (by decide) (by decide)) q231a q231c (g := (mkF mM 154 Ls193 [(.ref b1), (.ref b71)])) rfl (by rw [hml]; rfl) (Steps.refl _) (argsL := [(.ref b1)]) (rest := []) (lenOf pd_7 rfl) rfl (by show 2 * 0 + _ ≤ _; exact Nat.le_of_eq rfl) (hb hby at_154) (fun _ _ => ⟨rfl, Kq229, (by decide : 20 + 0 ≤ _), (by decide : 54 + 0 ≤ _)⟩)
              dsimp only [Pt.U, Pt.locs, Pt.cells, Pt.slots] at X231 l231 y231 z231 st231 hQ231
              subst l231 y231 z231
              obtain ⟨rfl, rfl, Kq231⟩ := hQ231
              try rw [List.append_nil] at X231
              obtain ⟨fs, hr, hrun, hended, hR1, hR2, hR3, hR4⟩ := Stand.leaveW (s := sS) (vm₁ := T87.vm) X231 hS87 (by rw [Kq231]; exact hk100) (v := some (.int (1 : Int32))) (fun h => by rw [Bd.returns] at h; cases h)
              refine ⟨_, _, pre192 _ ?_, hrun, hended, _, _, rfl, ?_, ?_, hR1, hR2, hR3, hR4.mono (by decide) (by decide)⟩
              · refine XS.ifYes X190.here hx rfl (pc0 := 128) (pc' := 135) rfl (hb hby at_128) rfl ((if0 _ _).trans (teq hc191).1) (by decide) (by decide) ?_
                show Steps pP.tables eE below (T190.setTop (mkF mM 135 Ls102 [])) _
                refine XS.iconst X190.here hx rfl (hb hby at_135) ?_
                show Steps pP.tables eE below (T190.setTop (mkF mM 136 Ls102 [(.int (0 : Int32))])) _
                refine XS.istore X190.here hx rfl (hb hby at_136) rfl (l' := Ls193) rfl ?_
                show Steps pP.tables eE below (T190.setTop (mkF mM 138 Ls193 [])) _
                refine XS.aload X190.here hx rfl (hb hby at_138) rfl rfl ?_
                show Steps pP.tables eE below (T190.setTop (mkF mM 140 Ls193 [(.ref b1)])) _
                refine XS.aload X190.here hx rfl (hb hby at_140) rfl rfl ?_
                show Steps pP.tables eE below (T190.setTop (mkF mM 142 Ls193 [(.ref b71), (.ref b1)])) _
                refine st229.trans ?_
                show Steps pP.tables eE below (T229.setTop (mkF mM 145 Ls193 [(.int (own_qeq (own_ra p0) (own_oa p0) (own_ra p1) (own_oa p1) (own_ra p2) (own_oa p2)))])) _
                refine XS.iload X229.here hx rfl (hb hby at_145) rfl ?_
                show Steps pP.tables eE below (T229.setTop (mkF mM 147 Ls193 [(.int (0 : Int32)), (.int (own_qeq (own_ra p0) (own_oa p0) (own_ra p1) (own_oa p1) (own_ra p2) (own_oa p2)))])) _
                refine XS.icmpNo X229.here hx rfl (hb hby at_147) rfl (teq (by rw [own_qeq_eq, if_neg (fun z => own_sp0 hc191 z.2.2)])).2 ?_
                show Steps pP.tables eE below (T229.setTop (mkF mM 150 Ls193 [])) _
                refine XS.aload X229.here hx rfl (hb hby at_150) rfl rfl ?_
                show Steps pP.tables eE below (T229.setTop (mkF mM 152 Ls193 [(.ref b71)])) _
                refine XS.aload X229.here hx rfl (hb hby at_152) rfl rfl ?_
                show Steps pP.tables eE below (T229.setTop (mkF mM 154 Ls193 [(.ref b1), (.ref b71)])) _
                refine st231.trans ?_
                show Steps pP.tables eE below (T231.setTop (mkF mM 157 Ls193 [(.int (own_qeq (own_oa p0) (own_ra p0) (own_oa p1) (own_ra p1) (own_oa p2) (own_ra p2)))])) _
                refine XS.iload X231.here hx rfl (hb hby at_157) rfl ?_
                show Steps pP.tables eE below (T231.setTop (mkF mM 159 Ls193 [(.int (0 : Int32)), (.int (own_qeq (own_oa p0) (own_ra p0) (own_oa p1) (own_ra p1) (own_oa p2) (own_ra p2)))])) _
                refine XS.icmpNo X231.here hx rfl (hb hby at_159) rfl (teq (by rw [own_qeq_eq, if_neg (fun z => own_sp0 hc191 z.2.2.symm)])).2 ?_
                show Steps pP.tables eE below (T231.setTop (mkF mM 162 Ls193 [])) _
                refine XS.iconst X231.here hx rfl (hb hby at_162) ?_
                show Steps pP.tables eE below (T231.setTop (mkF mM 163 Ls193 [(.int (1 : Int32))])) _
                refine XS.goto X231.here hx rfl (pc0 := 163) (pc' := 167) rfl (hb hby at_163) (by decide) (by decide) ?_
                show Steps pP.tables eE below (T231.setTop (mkF mM 167 Ls193 [(.int (1 : Int32))])) _
                exact retN X231 hx (t := .boolean) Bd.returns (by simp) (hb hby at_167) hr
              · show Q_law Z p0 p1 p2 p3 zc fm h0 n0 _ T231.heap _
                rw [Kq231]
                exact ⟨rfl, N96, K101⟩
              · show CHr Z own_EL sS.vm sS.heap T231.vm T231.heap
                rw [hh, Kq231]
                exact CH97.trans (CHv.at X231 hZ87 hEL CH97.1)
            · let Ls233 : Array Slot := #[.val (.int p0), .val (.int p1), .val (.int p2), .val (.int p3), .val (.ref b1), .val (.int (p3 &&& (3 : Int32))), .val (.ref b71), .val (.int (1 : Int32))]
              have f234 := (((((q25_1.ext E71).keep Kq77 nin0).keep Kq82 nin0).keep Kq87 nin0).keep Kq96 (ninS (Nat.ne_of_lt (Nat.lt_of_lt_of_le (q25_0).lt (Nat.le_of_eq g71.symm))) nin0))
              have f235 := (((((q25_2.ext E71).keep Kq77 nin0).keep Kq82 nin0).keep Kq87 nin0).keep Kq96 (ninS (Nat.ne_of_lt (Nat.lt_of_lt_of_le (q25_0).lt (Nat.le_of_eq g71.symm))) nin0))
              have f236 := (((((q25_3.ext E71).keep Kq77 nin0).keep Kq82 nin0).keep Kq87 nin0).keep Kq96 (ninS (Nat.ne_of_lt (Nat.lt_of_lt_of_le (q25_0).lt (Nat.le_of_eq g71.symm))) nin0))
              have f237 := (((((((((q6_0).1.keep Kq11).keep Kq16).keep Kq25).ext E71).keep Kq77).keep Kq82).keep Kq87).keep Kq96)
              have f238 := (((q6_0).1.keep Kq11).keep Kq16)
              have f239 := (((((((((q6_0).2.1.keep Kq11 nin0).keep Kq16 nin0).keep Kq25 (ninS (ne_exa f238 f20 (by decide)) nin0)).ext E71).keep Kq77 nin0).keep Kq82 nin0).keep Kq87 nin0).keep Kq96 (ninS (Nat.ne_of_lt (Nat.lt_of_lt_of_le (Nat.lt_of_lt_of_le (Nat.lt_of_lt_of_le (Nat.lt_of_lt_of_le ((q6_0).1).lt Kq11.1) Kq16.1) Kq25.1) (Nat.le_of_eq g71.symm))) nin0))
              have f240 := (((((((((q6_0).2.2.1.keep Kq11 nin0).keep Kq16 nin0).keep Kq25 (ninS (ne_exa f238 f20 (by decide)) nin0)).ext E71).keep Kq77 nin0).keep Kq82 nin0).keep Kq87 nin0).keep Kq96 (ninS (Nat.ne_of_lt (Nat.lt_of_lt_of_le (Nat.lt_of_lt_of_le (Nat.lt_of_lt_of_le (Nat.lt_of_lt_of_le ((q6_0).1).lt Kq11.1) Kq16.1) Kq25.1) (Nat.le_of_eq g71.symm))) nin0))
              have f241 := (((q6_0).2.2.2.1.keep Kq11 nin0).keep Kq16 nin0)
              have f242 := (((((((((q6_0).2.2.2.1.keep Kq11 nin0).keep Kq16 nin0).keep Kq25 (ninS (Ne.symm (Exa.neArv f20 f241 (w_1 hw))) nin0)).ext E71).keep Kq77 nin0).keep Kq82 nin0).keep Kq87 nin0).keep Kq96 (ninS (Nat.ne_of_lt (Nat.lt_of_lt_of_le (Nat.lt_of_lt_of_le (Nat.lt_of_lt_of_le (Nat.lt_of_lt_of_le ((q6_0).2.2.2.1).lt Kq11.1) Kq16.1) Kq25.1) (Nat.le_of_eq g71.symm))) nin0))
              have f243 := ((((q77_0).1.keep Kq82).keep Kq87).keep Kq96)
              have f244 := (((q77_0).1.keep Kq82).keep Kq87)
              have f245 := ((((q77_0).2.1.keep Kq82 nin0).keep Kq87 nin0).keep Kq96 (ninS (ne_exa f244 f91 (by decide)) nin0))
              have f246 := ((((q77_0).2.2.1.keep Kq82 nin0).keep Kq87 nin0).keep Kq96 (ninS (ne_exa f244 f91 (by decide)) nin0))
              have f247 := (((q77_0).2.2.2.1.keep Kq82 nin0).keep Kq87 nin0)
              have f248 := ((((q77_0).2.2.2.1.keep Kq82 nin0).keep Kq87 nin0).keep Kq96 (ninS (Ne.symm (Exa.neArv f91 f247 (w_1 hw))) nin0))
              have f249 := ((((((((q11_0).1.keep Kq16).keep Kq25).ext E71).keep Kq77).keep Kq82).keep Kq87).keep Kq96)
              have f250 := ((q11_0).1.keep Kq16)
              have f251 := ((((((((q11_0).2.1.keep Kq16 nin0).keep Kq25 (ninS (ne_exa f250 f20 (by decide)) nin0)).ext E71).keep Kq77 nin0).keep Kq82 nin0).keep Kq87 nin0).keep Kq96 (ninS (Nat.ne_of_lt (Nat.lt_of_lt_of_le (Nat.lt_of_lt_of_le (Nat.lt_of_lt_of_le ((q11_0).1).lt Kq16.1) Kq25.1) (Nat.le_of_eq g71.symm))) nin0))
              have f252 := ((((((((q11_0).2.2.1.keep Kq16 nin0).keep Kq25 (ninS (ne_exa f250 f20 (by decide)) nin0)).ext E71).keep Kq77 nin0).keep Kq82 nin0).keep Kq87 nin0).keep Kq96 (ninS (Nat.ne_of_lt (Nat.lt_of_lt_of_le (Nat.lt_of_lt_of_le (Nat.lt_of_lt_of_le ((q11_0).1).lt Kq16.1) Kq25.1) (Nat.le_of_eq g71.symm))) nin0))
              have f253 := ((q11_0).2.2.2.1.keep Kq16 nin0)
              have f254 := ((((((((q11_0).2.2.2.1.keep Kq16 nin0).keep Kq25 (ninS (Ne.symm (Exa.neArv f20 f253 (w_1 hw))) nin0)).ext E71).keep Kq77 nin0).keep Kq82 nin0).keep Kq87 nin0).keep Kq96 (ninS (Nat.ne_of_lt (Nat.lt_of_lt_of_le (Nat.lt_of_lt_of_le (Nat.lt_of_lt_of_le ((q11_0).2.2.2.1).lt Kq16.1) Kq25.1) (Nat.le_of_eq g71.symm))) nin0))
              have f255 := (((q82_0).1.keep Kq87).keep Kq96)
              have f256 := ((q82_0).1.keep Kq87)
              have f257 := (((q82_0).2.1.keep Kq87 nin0).keep Kq96 (ninS (ne_exa f256 f91 (by decide)) nin0))
              have f258 := (((q82_0).2.2.1.keep Kq87 nin0).keep Kq96 (ninS (ne_exa f256 f91 (by decide)) nin0))
              have f259 := ((q82_0).2.2.2.1.keep Kq87 nin0)
              have f260 := (((q82_0).2.2.2.1.keep Kq87 nin0).keep Kq96 (ninS (Ne.symm (Exa.neArv f91 f259 (w_1 hw))) nin0))
              have f261 := (((((((q16_0).1.keep Kq25).ext E71).keep Kq77).keep Kq82).keep Kq87).keep Kq96)
              have f262 := (((((((q16_0).2.1.keep Kq25 (ninS (ne_exa (q16_0).1 f20 (by decide)) nin0)).ext E71).keep Kq77 nin0).keep Kq82 nin0).keep Kq87 nin0).keep Kq96 (ninS (Nat.ne_of_lt (Nat.lt_of_lt_of_le (Nat.lt_of_lt_of_le ((q16_0).1).lt Kq25.1) (Nat.le_of_eq g71.symm))) nin0))
              have f263 := (((((((q16_0).2.2.1.keep Kq25 (ninS (ne_exa (q16_0).1 f20 (by decide)) nin0)).ext E71).keep Kq77 nin0).keep Kq82 nin0).keep Kq87 nin0).keep Kq96 (ninS (Nat.ne_of_lt (Nat.lt_of_lt_of_le (Nat.lt_of_lt_of_le ((q16_0).1).lt Kq25.1) (Nat.le_of_eq g71.symm))) nin0))
              have f264 := (((((((q16_0).2.2.2.1.keep Kq25 (ninS (Ne.symm (Exa.neArv f20 (q16_0).2.2.2.1 (w_1 hw))) nin0)).ext E71).keep Kq77 nin0).keep Kq82 nin0).keep Kq87 nin0).keep Kq96 (ninS (Nat.ne_of_lt (Nat.lt_of_lt_of_le (Nat.lt_of_lt_of_le ((q16_0).2.2.2.1).lt Kq25.1) (Nat.le_of_eq g71.symm))) nin0))
              have f265 := ((q87_0).1.keep Kq96)
              have f266 := ((q87_0).2.1.keep Kq96 (ninS (ne_exa (q87_0).1 f91 (by decide)) nin0))
              have f267 := ((q87_0).2.2.1.keep Kq96 (ninS (ne_exa (q87_0).1 f91 (by decide)) nin0))
              have f268 := ((q87_0).2.2.2.1.keep Kq96 (ninS (Ne.symm (Exa.neArv f91 (q87_0).2.2.2.1 (w_1 hw))) nin0))
              have f270 := (((((q25_0.ext E71).keep Kq77).keep Kq82).keep Kq87).keep Kq96)
              obtain ⟨cq269, kq269, q269a, q269b, q269c⟩ := isOf hZ87 Kq190 f270
              obtain ⟨_, _, ⟨T269, L269, k269, n269⟩, -, X269, ⟨Lc269, hQ269, l269, y269, z269⟩, st269⟩ := X190.virtualBack hx (y := (⟨"com/example/entity_state_manager/entitystatemanager/QualifiedName", "equals", "(Ljava/lang/Object;)Z"⟩ : MethodName)) (z := (⟨"com/example/entity_state_manager/entitystatemanager/QualifiedName", "equals", "(Ljava/lang/Object;)Z"⟩ : MethodName)) hown87 (mvT hZ87 (w_39 hw)) (mvT hZ87 (w_40 hw)) (notFace_of_selects (args := #[]) (mvT hZ87 (w_42 hw))) (mvT hZ87 (w_42 hw)) (mvT hZ87 (w_41 hw)) (by decide) (backOf (W := 0) (rm_eqL l Z a0 hw [] b1 b71 b_6 t_6 k_6 (own_ra p0) b_77 t_77 k_77 (own_oa p0) b_11 t_11 k_11 (own_ra p1) b_82 t_82 k_82 (own_oa p1) b_16 t_16 k_16 (own_ra p2) b_87 t_87 k_87 (own_oa p2) zc T96.heap n0 f103 q96_0 f234 q96_1 f235 q96_2 f236 q96_3 (⟨f237, f239, f240, f242, (q6_0).2.2.2.2⟩ : own_Str Z T96.heap b_6 t_6 k_6 (own_ra p0)) (⟨f243, f245, f246, f248, (q77_0).2.2.2.2⟩ : own_Str Z T96.heap b_77 t_77 k_77 (own_oa p0)) (⟨f249, f251, f252, f254, (q11_0).2.2.2.2⟩ : own_Str Z T96.heap b_11 t_11 k_11 (own_ra p1)) (⟨f255, f257, f258, f260, (q82_0).2.2.2.2⟩ : own_Str Z T96.heap b_82 t_82 k_82 (own_oa p1)) (⟨f261, f262, f263, f264, (q16_0).2.2.2.2⟩ : own_Str Z T96.heap b_16 t_16 k_16 (own_ra p2)) (⟨f265, f266, f267, f268, (q87_0).2.2.2.2⟩ : own_Str Z T96.heap b_87 t_87 k_87 (own_oa p2)) S_COMPACT_STRINGS hp1) hZ87 (w_43 hw) (w_2 hw) (by decide) (by decide)) q269a q269c (g := (mkF mM 142 Ls233 [(.ref b71), (.ref b1)])) rfl (by rw [hml]; rfl) (Steps.refl _) (argsL := [(.ref b71)]) (rest := []) (lenOf pd_7 rfl) rfl (by show 2 * 0 + _ ≤ _; exact Nat.le_of_eq rfl) (hb hby at_142) (fun _ _ => ⟨rfl, Kq190, (by decide : 20 + 0 ≤ _), (by decide : 54 + 0 ≤ _)⟩)
              dsimp only [Pt.U, Pt.locs, Pt.cells, Pt.slots] at X269 l269 y269 z269 st269 hQ269
              subst l269 y269 z269
              obtain ⟨rfl, rfl, Kq269⟩ := hQ269
              try rw [List.append_nil] at X269
              obtain ⟨cq271, kq271, q271a, q271b, q271c⟩ := isOf hZ87 Kq269 q96_0
              obtain ⟨_, _, ⟨T271, L271, k271, n271⟩, -, X271, ⟨Lc271, hQ271, l271, y271, z271⟩, st271⟩ := X269.virtualBack hx (y := (⟨"com/example/entity_state_manager/entitystatemanager/QualifiedName", "equals", "(Ljava/lang/Object;)Z"⟩ : MethodName)) (z := (⟨"com/example/entity_state_manager/entitystatemanager/QualifiedName", "equals", "(Ljava/lang/Object;)Z"⟩ : MethodName)) hown87 (mvT hZ87 (w_39 hw)) (mvT hZ87 (w_40 hw)) (notFace_of_selects (args := #[]) (mvT hZ87 (w_42 hw))) (mvT hZ87 (w_42 hw)) (mvT hZ87 (w_41 hw)) (by decide) (backOf (W := 0) (rm_eqL l Z a0 hw [] b71 b1 b_77 t_77 k_77 (own_oa p0) b_6 t_6 k_6 (own_ra p0) b_82 t_82 k_82 (own_oa p1) b_11 t_11 k_11 (own_ra p1) b_87 t_87 k_87 (own_oa p2) b_16 t_16 k_16 (own_ra p2) zc T96.heap n0 f103 f270 q96_1 f234 q96_2 f235 q96_3 f236 (⟨f243, f245, f246, f248, (q77_0).2.2.2.2⟩ : own_Str Z T96.heap b_77 t_77 k_77 (own_oa p0)) (⟨f237, f239, f240, f242, (q6_0).2.2.2.2⟩ : own_Str Z T96.heap b_6 t_6 k_6 (own_ra p0)) (⟨f255, f257, f258, f260, (q82_0).2.2.2.2⟩ : own_Str Z T96.heap b_82 t_82 k_82 (own_oa p1)) (⟨f249, f251, f252, f254, (q11_0).2.2.2.2⟩ : own_Str Z T96.heap b_11 t_11 k_11 (own_ra p1)) (⟨f265, f266, f267, f268, (q87_0).2.2.2.2⟩ : own_Str Z T96.heap b_87 t_87 k_87 (own_oa p2)) (⟨f261, f262, f263, f264, (q16_0).2.2.2.2⟩ : own_Str Z T96.heap b_16 t_16 k_16 (own_ra p2)) S_COMPACT_STRINGS hp1) hZ87 (w_43 hw) (w_2 hw) (by decide) (by decide)) q271a q271c (g := (mkF mM 154 Ls233 [(.ref b1), (.ref b71)])) rfl (by rw [hml]; rfl) (Steps.refl _) (argsL := [(.ref b1)]) (rest := []) (lenOf pd_7 rfl) rfl (by show 2 * 0 + _ ≤ _; exact Nat.le_of_eq rfl) (hb hby at_154) (fun _ _ => ⟨rfl, Kq269, (by decide : 20 + 0 ≤ _), (by decide : 54 + 0 ≤ _)⟩)
              dsimp only [Pt.U, Pt.locs, Pt.cells, Pt.slots] at X271 l271 y271 z271 st271 hQ271
              subst l271 y271 z271
              obtain ⟨rfl, rfl, Kq271⟩ := hQ271
              try rw [List.append_nil] at X271
              obtain ⟨fs, hr, hrun, hended, hR1, hR2, hR3, hR4⟩ := Stand.leaveW (s := sS) (vm₁ := T87.vm) X271 hS87 (by rw [Kq271]; exact hk100) (v := some (.int (1 : Int32))) (fun h => by rw [Bd.returns] at h; cases h)
              refine ⟨_, _, pre192 _ ?_, hrun, hended, _, _, rfl, ?_, ?_, hR1, hR2, hR3, hR4.mono (by decide) (by decide)⟩
              · refine XS.ifNo X190.here hx rfl (hb hby at_128) rfl ((if0 _ _).trans (feq hc191).1) ?_
                show Steps pP.tables eE below (T190.setTop (mkF mM 131 Ls102 [])) _
                refine XS.iconst X190.here hx rfl (hb hby at_131) ?_
                show Steps pP.tables eE below (T190.setTop (mkF mM 132 Ls102 [(.int (1 : Int32))])) _
                refine XS.goto X190.here hx rfl (pc0 := 132) (pc' := 136) rfl (hb hby at_132) (by decide) (by decide) ?_
                show Steps pP.tables eE below (T190.setTop (mkF mM 136 Ls102 [(.int (1 : Int32))])) _
                refine XS.istore X190.here hx rfl (hb hby at_136) rfl (l' := Ls233) rfl ?_
                show Steps pP.tables eE below (T190.setTop (mkF mM 138 Ls233 [])) _
                refine XS.aload X190.here hx rfl (hb hby at_138) rfl rfl ?_
                show Steps pP.tables eE below (T190.setTop (mkF mM 140 Ls233 [(.ref b1)])) _
                refine XS.aload X190.here hx rfl (hb hby at_140) rfl rfl ?_
                show Steps pP.tables eE below (T190.setTop (mkF mM 142 Ls233 [(.ref b71), (.ref b1)])) _
                refine st269.trans ?_
                show Steps pP.tables eE below (T269.setTop (mkF mM 145 Ls233 [(.int (own_qeq (own_ra p0) (own_oa p0) (own_ra p1) (own_oa p1) (own_ra p2) (own_oa p2)))])) _
                refine XS.iload X269.here hx rfl (hb hby at_145) rfl ?_
                show Steps pP.tables eE below (T269.setTop (mkF mM 147 Ls233 [(.int (1 : Int32)), (.int (own_qeq (own_ra p0) (own_oa p0) (own_ra p1) (own_oa p1) (own_ra p2) (own_oa p2)))])) _
                refine XS.icmpNo X269.here hx rfl (hb hby at_147) rfl (teq (by rw [own_qeq_eq, if_pos ⟨(own_sp1 hc105), (own_sp1 hc148), (own_sp1 hc191)⟩])).2 ?_
                show Steps pP.tables eE below (T269.setTop (mkF mM 150 Ls233 [])) _
                refine XS.aload X269.here hx rfl (hb hby at_150) rfl rfl ?_
                show Steps pP.tables eE below (T269.setTop (mkF mM 152 Ls233 [(.ref b71)])) _
                refine XS.aload X269.here hx rfl (hb hby at_152) rfl rfl ?_
                show Steps pP.tables eE below (T269.setTop (mkF mM 154 Ls233 [(.ref b1), (.ref b71)])) _
                refine st271.trans ?_
                show Steps pP.tables eE below (T271.setTop (mkF mM 157 Ls233 [(.int (own_qeq (own_oa p0) (own_ra p0) (own_oa p1) (own_ra p1) (own_oa p2) (own_ra p2)))])) _
                refine XS.iload X271.here hx rfl (hb hby at_157) rfl ?_
                show Steps pP.tables eE below (T271.setTop (mkF mM 159 Ls233 [(.int (1 : Int32)), (.int (own_qeq (own_oa p0) (own_ra p0) (own_oa p1) (own_ra p1) (own_oa p2) (own_ra p2)))])) _
                refine XS.icmpNo X271.here hx rfl (hb hby at_159) rfl (teq (by rw [own_qeq_eq, if_pos ⟨(own_sp1 hc105).symm, (own_sp1 hc148).symm, (own_sp1 hc191).symm⟩])).2 ?_
                show Steps pP.tables eE below (T271.setTop (mkF mM 162 Ls233 [])) _
                refine XS.iconst X271.here hx rfl (hb hby at_162) ?_
                show Steps pP.tables eE below (T271.setTop (mkF mM 163 Ls233 [(.int (1 : Int32))])) _
                refine XS.goto X271.here hx rfl (pc0 := 163) (pc' := 167) rfl (hb hby at_163) (by decide) (by decide) ?_
                show Steps pP.tables eE below (T271.setTop (mkF mM 167 Ls233 [(.int (1 : Int32))])) _
                exact retN X271 hx (t := .boolean) Bd.returns (by simp) (hb hby at_167) hr
              · show Q_law Z p0 p1 p2 p3 zc fm h0 n0 _ T271.heap _
                rw [Kq271]
                exact ⟨rfl, N96, K101⟩
              · show CHr Z own_EL sS.vm sS.heap T271.vm T271.heap
                rw [hh, Kq271]
                exact CH97.trans (CHv.at X271 hZ87 hEL CH97.1)
theorem own_held {s : State} (h : constsHeld consts_1 s) : ∀ p ∈ own_EL, Jvm.Lit.constHeld s p.1 p.2 := fun p hp => h p ((by decide : ∀ p ∈ own_EL, p ∈ consts_1) p hp)
set_option maxRecDepth 65536 in
set_option maxHeartbeats 40000000 in
theorem comes_1 {Post : Tables → Env → Array Value → State → Outcome → State → Prop} (hpost : ∀ tb e args s v u, (limb_1_1.after args s (.returned v) u = true ∧ limb_1_2.after args s (.returned v) u = true ∧ True) → ReturnedEndW s (.returned v) u (Jvm.fieldLocs frame_1_writes args s ++ Jvm.arrayLocs frame_1_arrays args s ++ Jvm.staticLocs frame_1_statics s) 56 1216 → Post tb e args s (.returned v) u) :
    ArmFor flags0 classFile x code maxLocals ret World_1 tables_1 room_1 Calls_1 rest_1 Pre_1 Post := by
  intro l hfl _ _ p e ha hc hk s m args below hf hA hF happ hP
  obtain ⟨hcalls, hrest, hpre⟩ := hP
  obtain ⟨-, -, -, hnamed, -, -, -, hat⟩ := (Spec.applies_iff hf).mp happ
  obtain ⟨hg, hn⟩ := and_e (Cond.before_iff.mp (show (Jvm.Cond.and given_1 narrow_1).before args s = true from hpre))
  obtain ⟨hcnt, hg0⟩ := and_e hg
  obtain ⟨ga0, hg1⟩ := and_e hg0
  obtain ⟨ga1, hg2⟩ := and_e hg1
  obtain ⟨ga2, hg3⟩ := and_e hg2
  have ga3 := hg3
  obtain ⟨w0, w1, w2, w3, rfl⟩ : ∃ w0 w1 w2 w3 : Value, args = #[w0, w1, w2, w3] := by
    have hs : args.size = 4 := by simpa [Cond.value, given_1] using hcnt
    obtain ⟨L⟩ := args
    match L, hs with
    | [w0, w1, w2, w3], _ => exact ⟨w0, w1, w2, w3, rfl⟩
  have hw := fun d (hd : d ∈ tables_1) => atoms_spec (ws := Jvm.Cond.code x code maxLocals ret :: tables_1) hat d (List.mem_cons_of_mem _ hd)
  have hfit : Fit s := fun {y c} hc i hi => by
    obtain ⟨ha, rfl⟩ := Array.getElem?_eq_some_iff.mp hc
    have q := List.all_eq_true.mp ((Array.all_eq_true_iff_forall_mem.mp hF) _ (Array.getElem_mem ha)) i (List.mem_range.mpr hi)
    simpa [Array.getElem?_eq_getElem hi] using q
  obtain ⟨i0, ei0⟩ := is_v ga0
  obtain rfl : w0 = (.int i0) := Option.some.inj ei0
  obtain ⟨i1, ei1⟩ := is_v ga1
  obtain rfl : w1 = (.int i1) := Option.some.inj ei1
  obtain ⟨i2, ei2⟩ := is_v ga2
  obtain rfl : w2 = (.int i2) := Option.some.inj ei2
  obtain ⟨i3, ei3⟩ := is_v ga3
  obtain rfl : w3 = (.int i3) := Option.some.inj ei3
  obtain ⟨hsets, hown0⟩ := atoms_of _ (rest_1_c_eq ▸ (show rest_1_c.before _ s = true from hrest))
  have hr0 := Cond.before_iff.mp hown0
  have nzc := not_v (Cond.before_iff.mp (hsets _ (List.mem_of_getElem? (i := 2) rfl)))
  obtain ⟨zc, ezc⟩ := is_v (Cond.before_iff.mp (hsets _ (List.mem_of_getElem? (i := 1) rfl)))
  have Szc : Sta s s.heap "java/lang/String" "COMPACT_STRINGS" "Z" (.int zc) := Sta.start ezc (Or.inl (hsets _ (List.mem_of_getElem? (i := 0) rfl)))
  obtain ⟨fm, efm, rfm⟩ := isR_v (Cond.before_iff.mp (hsets _ (List.mem_of_getElem? (i := 8) rfl)))
  have Sfm : Sta s s.heap "jdk/internal/util/Preconditions" "SIOOBE_FORMATTER" "Ljava/util/function/BiFunction;" fm := Sta.start efm (Or.inl (hsets _ (List.mem_of_getElem? (i := 7) rfl)))
  have hzc : ¬ (zc = (0 : Int32)) := gotF (Cond.eq_ints ezc (Term.int_eval (0))) nzc
  have hcw : Jvm.Lit.compactW.before #[(.int i0), (.int i1), (.int i2), (.int i3)] s = true := hsets _ (List.mem_of_getElem? (i := 2) rfl)
  have hCH : CHv s own_EL s.vm s.heap := CHv.start (own_EW hw) (fun p hp => own_held (hcalls.1) p hp) hcw (w_22 hw) (w_21 hw)
  obtain ⟨n, o, h1, h2, h3, _, L, rfl, ⟨rfl, N, _⟩, -, q1, q2, q3, hq⟩ := rm_law l s _ hw tables_1 i0 i1 i2 i3 zc fm s.heap s.heap.size (Old.start s) Szc hzc Sfm rfm p e ha hc hk s m _ below hf ((Spec.applies_iff_loose hf).mp happ).1 ⟨rfl, State.Warmed39.refl s, rfl, hCH, sf0⟩ trivial
  refine ⟨n, _, h1, h2, h3, hpost _ _ _ _ _ _ ⟨Cond.after_iff.mpr rfl, Cond.after_iff.mpr (eq_i res_at (Term.int_eval (1)) rfl), trivial⟩ ⟨q1, q2, q3, (hq.sift fun y hy => Or.inr (N y hy)).mono (by decide) (by decide)⟩⟩
theorem main_1_1 : Claimed_1_1 := comes_1 fun _ _ _ _ _ _ h hF => ⟨h.1, hF⟩
theorem main_1_2 : Claimed_1_2 := comes_1 fun _ _ _ _ _ _ h hF => ⟨h.2.1, hF⟩
end Jvm.Pilot.@@N@@
namespace Jvm.Pilot.@@N@@
open Jvm Jvm.ClassFile Sem Op Lib Jvm.Free Jvm.Stand Jvm.Pilot.@@N@@.Jvm.D
/-! MADE BY PROGRAM (witnessworld.py) out of the Statement's table words and the real class files: 20 classes; the members and pool entries that the words name. The judged class is class 1, her method 11. -/
namespace start1
open Jvm.ClassFile
def u (s : String) : CpInfo := .utf8 (stringToUtf16 s)
/-- a pool by its gaps: so many unusable entries, then the entry; so many at the end -/
def gap : Nat → List CpInfo → List CpInfo
  | 0, r => r
  | n + 1, r => .unusable :: gap n r
def poolList (es : List (Nat × CpInfo)) (last : Nat) : List CpInfo := es.foldr (fun e r => gap e.1 (e.2 :: r)) (gap last [])
def pool (es : List (Nat × CpInfo)) (last : Nat) : Array CpInfo := ⟨poolList es last⟩
def fileOf (pool : Array CpInfo) (this : Nat) (attrs : Array Attribute := #[]) (ms : Array MethodInfo := #[]) (fl : Nat := 33) (sup : Nat := 0) (ifs : Array Nat := #[]) (fds : Array FieldInfo := #[]) : ClassFile where
  minorVersion := 0
  majorVersion := 65
  constantPool := pool
  accessFlags := fl
  thisClass := this
  superClass := sup
  interfaces := ifs
  fields := fds
  methods := ms
  attributes := attrs
def plain (name : String) (sup : Option ClassId) : Class where
  name := name
  kind := .ordinary
  loader := none
  accessFlags := 33
  super := sup
  interfaces := #[]
  cf := none
  fields := #[]
  methods := #[]
  instanceTypes := #[]
  staticTypes := #[]
  resolved := #[]
  callSites := []
  init := .initialized
  statics := none
  mirror := none

def pool0 : Array CpInfo := pool [(5, u "<init>"), (0, u "()V"), (1, .class_ 10), (1, u "java/lang/Object")] 113

def k0c0 : Code := { maxStack := 0, maxLocals := 1, code := object_method_1_code, exceptionTable := #[], attributes := #[] }
def k0m0 : Method := { name := "<init>", desc := "()V", sig := { parameters := [], returnType := none }, accessFlags := 1, code := some k0c0 }
/-- java/lang/Object -/
def k0 : Class := { plain "java/lang/Object" none with
  accessFlags := 33
  interfaces := #[]
  cf := some (fileOf pool0 8 #[] #[{ accessFlags := 1, nameIndex := 5, descriptorIndex := 6, attributes := #[] }] 33 0 #[] #[])
  fields := #[]
  methods := #[k0m0]
  instanceTypes := #[]
  staticTypes := #[]
  resolved := Array.replicate 124 none
  statics := none }

def pool1 : Array CpInfo := pool [(2, .class_ 4), (1, u "java/lang/Object"), (0, u "<init>"), (0, u "()V"), (0, .methodref 8 9), (0, .class_ 10), (0, .nameAndType 11 12), (0, u "com/example/entity_state_manager/entitystatemanager/QualifiedNameEqualsPinLaw"), (0, u "lenA"), (0, u "(I)I"), (0, .methodref 8 14), (0, .nameAndType 15 12), (0, u "firstA"), (0, .methodref 8 17), (0, .nameAndType 18 12), (0, u "secA"), (0, .string 20), (0, u ""), (0, .methodref 22 23), (0, .class_ 24), (0, .nameAndType 25 26), (0, u "java/lang/String"), (0, u "valueOf"), (0, u "(C)Ljava/lang/String;"), (0, .methodref 22 28), (0, .nameAndType 5 29), (0, u "([C)V"), (0, .methodref 8 31), (0, .nameAndType 32 33), (0, u "part"), (0, u "(III)Ljava/lang/String;"), (0, .methodref 8 35), (0, .nameAndType 36 12), (0, u "lenB"), (0, .methodref 8 38), (0, .nameAndType 39 12), (0, u "firstB"), (0, .methodref 8 41), (0, .nameAndType 42 12), (0, u "secB"), (0, .class_ 44), (0, u "com/example/entity_state_manager/entitystatemanager/QualifiedName"), (0, .methodref 8 46), (0, .nameAndType 47 48), (0, u "recvPart"), (0, u "(I)Ljava/lang/String;"), (0, .methodref 43 50), (0, .nameAndType 5 51), (0, u "(Ljava/lang/String;Ljava/lang/String;Ljava/lang/String;)V"), (0, .methodref 43 53), (0, .nameAndType 54 55), (0, u "equals"), (0, u "(Ljava/lang/Object;)Z"), (0, .methodref 8 57), (0, .nameAndType 58 48), (0, u "othPart"), (0, .methodref 8 60), (0, .nameAndType 61 62), (0, u "samePart"), (0, u "(I)Z"), (3, u "law"), (0, u "(IIII)Z")] 2

def k1m0 : Method := { name := "<init>", desc := "()V", sig := { parameters := [], returnType := none }, accessFlags := 1, code := none }
def k1c1 : Code := { maxStack := 3, maxLocals := 1, code := method_2_code, exceptionTable := #[], attributes := #[] }
def k1m1 : Method := { name := "lenA", desc := "(I)I", sig := { parameters := [.int], returnType := some .int }, accessFlags := 10, code := some k1c1 }
def k1c2 : Code := { maxStack := 3, maxLocals := 1, code := method_3_code, exceptionTable := #[], attributes := #[] }
def k1m2 : Method := { name := "lenB", desc := "(I)I", sig := { parameters := [.int], returnType := some .int }, accessFlags := 10, code := some k1c2 }
def k1c3 : Code := { maxStack := 2, maxLocals := 1, code := method_4_code, exceptionTable := #[], attributes := #[] }
def k1m3 : Method := { name := "firstA", desc := "(I)I", sig := { parameters := [.int], returnType := some .int }, accessFlags := 10, code := some k1c3 }
def k1c4 : Code := { maxStack := 2, maxLocals := 1, code := method_5_code, exceptionTable := #[], attributes := #[] }
def k1m4 : Method := { name := "firstB", desc := "(I)I", sig := { parameters := [.int], returnType := some .int }, accessFlags := 10, code := some k1c4 }
def k1c5 : Code := { maxStack := 2, maxLocals := 1, code := method_6_code, exceptionTable := #[], attributes := #[] }
def k1m5 : Method := { name := "secA", desc := "(I)I", sig := { parameters := [.int], returnType := some .int }, accessFlags := 10, code := some k1c5 }
def k1c6 : Code := { maxStack := 2, maxLocals := 1, code := method_7_code, exceptionTable := #[], attributes := #[] }
def k1m6 : Method := { name := "secB", desc := "(I)I", sig := { parameters := [.int], returnType := some .int }, accessFlags := 10, code := some k1c6 }
def k1c7 : Code := { maxStack := 3, maxLocals := 4, code := method_8_code, exceptionTable := #[], attributes := #[] }
def k1m7 : Method := { name := "part", desc := "(III)Ljava/lang/String;", sig := { parameters := [.int, .int, .int], returnType := some (.object "java/lang/String") }, accessFlags := 10, code := some k1c7 }
def k1c8 : Code := { maxStack := 3, maxLocals := 1, code := method_9_code, exceptionTable := #[], attributes := #[] }
def k1m8 : Method := { name := "recvPart", desc := "(I)Ljava/lang/String;", sig := { parameters := [.int], returnType := some (.object "java/lang/String") }, accessFlags := 10, code := some k1c8 }
def k1c9 : Code := { maxStack := 3, maxLocals := 1, code := method_10_code, exceptionTable := #[], attributes := #[] }
def k1m9 : Method := { name := "othPart", desc := "(I)Ljava/lang/String;", sig := { parameters := [.int], returnType := some (.object "java/lang/String") }, accessFlags := 10, code := some k1c9 }
def k1c10 : Code := { maxStack := 2, maxLocals := 2, code := method_11_code, exceptionTable := #[], attributes := #[] }
def k1m10 : Method := { name := "samePart", desc := "(I)Z", sig := { parameters := [.int], returnType := some .boolean }, accessFlags := 10, code := some k1c10 }
def k1c11 : Code := { maxStack := 5, maxLocals := 8, code := code, exceptionTable := #[], attributes := #[] }
def k1m11 : Method := { name := "law", desc := "(IIII)Z", sig := { parameters := [.int, .int, .int, .int], returnType := some .boolean }, accessFlags := 9, code := some k1c11 }
/-- com/example/entity_state_manager/entitystatemanager/QualifiedNameEqualsPinLaw -/
def k1 : Class := { plain "com/example/entity_state_manager/entitystatemanager/QualifiedNameEqualsPinLaw" (some 0) with
  accessFlags := 49
  interfaces := #[]
  cf := some (fileOf pool1 8 #[] #[{ accessFlags := 1, nameIndex := 5, descriptorIndex := 6, attributes := #[] }, { accessFlags := 10, nameIndex := 11, descriptorIndex := 12, attributes := #[] }, { accessFlags := 10, nameIndex := 36, descriptorIndex := 12, attributes := #[] }, { accessFlags := 10, nameIndex := 15, descriptorIndex := 12, attributes := #[] }, { accessFlags := 10, nameIndex := 39, descriptorIndex := 12, attributes := #[] }, { accessFlags := 10, nameIndex := 18, descriptorIndex := 12, attributes := #[] }, { accessFlags := 10, nameIndex := 42, descriptorIndex := 12, attributes := #[] }, { accessFlags := 10, nameIndex := 32, descriptorIndex := 33, attributes := #[] }, { accessFlags := 10, nameIndex := 47, descriptorIndex := 48, attributes := #[] }, { accessFlags := 10, nameIndex := 58, descriptorIndex := 48, attributes := #[] }, { accessFlags := 10, nameIndex := 61, descriptorIndex := 62, attributes := #[] }, { accessFlags := 9, nameIndex := 66, descriptorIndex := 67, attributes := #[] }] 49 2 #[] #[])
  fields := #[]
  methods := #[k1m0, k1m1, k1m2, k1m3, k1m4, k1m5, k1m6, k1m7, k1m8, k1m9, k1m10, k1m11]
  instanceTypes := #[]
  staticTypes := #[]
  resolved := Array.replicate 70 none
  statics := none }

def pool2 : Array CpInfo := pool [(1, .methodref 2 3), (0, .class_ 4), (0, .nameAndType 5 6), (0, u "java/lang/Object"), (0, u "<init>"), (0, u "()V"), (0, .fieldref 8 9), (0, .class_ 10), (0, .nameAndType 11 12), (0, u "com/example/entity_state_manager/entitystatemanager/QualifiedName"), (0, u "catalog"), (0, u "Ljava/lang/String;"), (0, .fieldref 8 14), (0, .nameAndType 15 12), (0, u "schema"), (0, .fieldref 8 17), (0, .nameAndType 18 12), (0, u "name"), (6, u "(Ljava/lang/String;Ljava/lang/String;Ljava/lang/String;)V"), (0, .methodref 27 28), (0, .class_ 29), (0, .nameAndType 30 31), (0, u "java/lang/String"), (0, u "equals"), (0, u "(Ljava/lang/Object;)Z")] 34

def k2c0 : Code := { maxStack := 2, maxLocals := 4, code := prog_7_method_1_code, exceptionTable := #[], attributes := #[] }
def k2m0 : Method := { name := "<init>", desc := "(Ljava/lang/String;Ljava/lang/String;Ljava/lang/String;)V", sig := { parameters := [(.object "java/lang/String"), (.object "java/lang/String"), (.object "java/lang/String")], returnType := none }, accessFlags := 0, code := some k2c0 }
def k2c1 : Code := { maxStack := 2, maxLocals := 3, code := prog_7_method_6_code, exceptionTable := #[], attributes := #[] }
def k2m1 : Method := { name := "equals", desc := "(Ljava/lang/Object;)Z", sig := { parameters := [(.object "java/lang/Object")], returnType := some .boolean }, accessFlags := 1, code := some k2c1 }
/-- com/example/entity_state_manager/entitystatemanager/QualifiedName -/
def k2 : Class := { plain "com/example/entity_state_manager/entitystatemanager/QualifiedName" (some 0) with
  accessFlags := 48
  interfaces := #[]
  cf := some (fileOf pool2 8 #[] #[{ accessFlags := 0, nameIndex := 5, descriptorIndex := 25, attributes := #[] }, { accessFlags := 1, nameIndex := 30, descriptorIndex := 31, attributes := #[] }] 48 2 #[] #[{ accessFlags := 18, nameIndex := 11, descriptorIndex := 12, attributes := #[] }, { accessFlags := 18, nameIndex := 15, descriptorIndex := 12, attributes := #[] }, { accessFlags := 18, nameIndex := 18, descriptorIndex := 12, attributes := #[] }])
  fields := #[{ name := "catalog", type := (.object "java/lang/String"), accessFlags := 18, slot := 0, constantValue := 0 }, { name := "schema", type := (.object "java/lang/String"), accessFlags := 18, slot := 1, constantValue := 0 }, { name := "name", type := (.object "java/lang/String"), accessFlags := 18, slot := 2, constantValue := 0 }]
  methods := #[k2m0, k2m1]
  instanceTypes := #[(.object "java/lang/String"), (.object "java/lang/String"), (.object "java/lang/String")]
  staticTypes := #[]
  resolved := Array.replicate 66 none
  statics := none }

def pool3 : Array CpInfo := pool [(1, .class_ 2), (0, u "java/io/Serializable"), (0, .class_ 4), (0, u "java/lang/Object")] 2

/-- java/io/Serializable -/
def k3 : Class := { plain "java/io/Serializable" (some 0) with
  accessFlags := 1537
  interfaces := #[]
  cf := some (fileOf pool3 1 #[] #[] 1537 3 #[] #[])
  fields := #[]
  methods := #[]
  instanceTypes := #[]
  staticTypes := #[]
  resolved := Array.replicate 7 none
  statics := none }

def pool4 : Array CpInfo := pool [(1, .class_ 2), (0, u "java/lang/Comparable"), (0, .class_ 4), (0, u "java/lang/Object")] 7

/-- java/lang/Comparable -/
def k4 : Class := { plain "java/lang/Comparable" (some 0) with
  accessFlags := 1537
  interfaces := #[]
  cf := some (fileOf pool4 1 #[] #[] 1537 3 #[] #[])
  fields := #[]
  methods := #[]
  instanceTypes := #[]
  staticTypes := #[]
  resolved := Array.replicate 12 none
  statics := none }

def pool5 : Array CpInfo := pool [(2, .class_ 4), (1, u "java/lang/CharSequence"), (42, .class_ 48), (0, u "java/lang/CharSequence$1CodePointIterator"), (10, .class_ 60), (0, u "java/lang/CharSequence$1CharIterator"), (5, .class_ 67), (0, u "java/lang/Object")] 63

/-- java/lang/CharSequence -/
def k5 : Class := { plain "java/lang/CharSequence" (some 0) with
  accessFlags := 1537
  interfaces := #[]
  cf := some (fileOf pool5 2 #[.nestMembers #[47, 59]] #[] 1537 66 #[] #[])
  fields := #[]
  methods := #[]
  instanceTypes := #[]
  staticTypes := #[]
  resolved := Array.replicate 131 none
  statics := none }

def pool6 : Array CpInfo := pool [(1, .class_ 2), (0, u "java/lang/constant/Constable"), (0, .class_ 4), (0, u "java/lang/Object")] 6

/-- java/lang/constant/Constable -/
def k6 : Class := { plain "java/lang/constant/Constable" (some 0) with
  accessFlags := 1537
  interfaces := #[]
  cf := some (fileOf pool6 1 #[] #[] 1537 3 #[] #[])
  fields := #[]
  methods := #[]
  instanceTypes := #[]
  staticTypes := #[]
  resolved := Array.replicate 11 none
  statics := none }

def pool7 : Array CpInfo := pool [(1, .class_ 2), (0, u "java/lang/constant/ConstantDesc"), (0, .class_ 4), (0, u "java/lang/Object")] 32

/-- java/lang/constant/ConstantDesc -/
def k7 : Class := { plain "java/lang/constant/ConstantDesc" (some 0) with
  accessFlags := 1537
  interfaces := #[]
  cf := some (fileOf pool7 1 #[] #[] 1537 3 #[] #[])
  fields := #[]
  methods := #[]
  instanceTypes := #[]
  staticTypes := #[]
  resolved := Array.replicate 37 none
  statics := none }

def pool8 : Array CpInfo := pool [(1, .methodref 2 3), (0, .class_ 4), (0, .nameAndType 5 6), (0, u "java/lang/Object"), (0, u "<init>"), (0, u "()V"), (2, .fieldref 10 11), (0, .class_ 12), (0, .nameAndType 13 14), (0, u "java/lang/String"), (0, u "value"), (0, u "[B"), (0, .fieldref 10 16), (0, .nameAndType 17 18), (0, u "coder"), (0, u "B"), (2, u "hash"), (0, u "I"), (2, u "hashIsZero"), (0, u "Z"), (0, .methodref 10 28), (0, .nameAndType 5 29), (0, u "([CIILjava/lang/Void;)V"), (8, .fieldref 10 39), (0, .nameAndType 40 26), (0, u "COMPACT_STRINGS"), (1, .class_ 44), (1, u "java/lang/StringUTF16"), (0, u "compress"), (1, .methodref 42 48), (0, .nameAndType 49 50), (0, u "coderFromArrayLen"), (0, u "([BI)B"), (2, u "toBytes"), (53, .class_ 109), (1, u "java/lang/StringLatin1"), (67, .methodref 42 178), (0, .nameAndType 45 179), (0, u "([CII)[B"), (29, .methodref 10 210), (0, .nameAndType 5 211), (0, u "([BB)V"), (157, u "(C)Z"), (171, .methodref 107 542), (0, .nameAndType 543 544), (0, u "equals"), (0, u "([B[B)Z"), (28, u "(Ljava/lang/Object;)Z"), (1, .class_ 576), (0, u "java/lang/CharSequence"), (22, u "CASE_INSENSITIVE_ORDER"), (0, u "Ljava/util/Comparator;"), (181, u "valueOf"), (0, u "(C)Ljava/lang/String;"), (226, u "([C)V"), (4, .methodref 107 1016), (0, .nameAndType 1017 369), (0, u "canEncode"), (0, .methodref 107 1019), (0, .nameAndType 53 1020), (0, u "(C)[B"), (80, u "serialPersistentFields"), (0, u "[Ljava/io/ObjectStreamField;"), (0, .class_ 1104), (0, u "java/lang/String$CaseInsensitiveComparator"), (1, .class_ 1107), (0, u "java/io/Serializable"), (0, .class_ 1109), (0, u "java/lang/Comparable"), (0, .class_ 1111), (0, u "java/lang/constant/Constable"), (0, .class_ 1113), (0, u "java/lang/constant/ConstantDesc"), (2, u "serialVersionUID"), (0, u "J"), (3, u "REPL"), (0, u "C"), (2, u "LATIN1"), (1, u "UTF16")] 323

def k8m0 : Method := { name := "<init>", desc := "()V", sig := { parameters := [], returnType := none }, accessFlags := 1, code := none }
def k8c1 : Code := { maxStack := 5, maxLocals := 2, code := jdk_42_method_3_code, exceptionTable := #[], attributes := #[] }
def k8m1 : Method := { name := "<init>", desc := "([C)V", sig := { parameters := [(.array .char)], returnType := none }, accessFlags := 1, code := some k8c1 }
def k8c2 : Code := { maxStack := 2, maxLocals := 3, code := jdk_42_method_66_code, exceptionTable := #[], attributes := #[] }
def k8m2 : Method := { name := "equals", desc := "(Ljava/lang/Object;)Z", sig := { parameters := [(.object "java/lang/Object")], returnType := some .boolean }, accessFlags := 1, code := some k8c2 }
def k8c3 : Code := { maxStack := 4, maxLocals := 1, code := jdk_42_method_139_code, exceptionTable := #[], attributes := #[] }
def k8m3 : Method := { name := "valueOf", desc := "(C)Ljava/lang/String;", sig := { parameters := [.char], returnType := some (.object "java/lang/String") }, accessFlags := 9, code := some k8c3 }
def k8c4 : Code := { maxStack := 4, maxLocals := 6, code := jdk_42_method_149_code, exceptionTable := #[], attributes := #[] }
def k8m4 : Method := { name := "<init>", desc := "([CIILjava/lang/Void;)V", sig := { parameters := [(.array .char), .int, .int, (.object "java/lang/Void")], returnType := none }, accessFlags := 2, code := some k8c4 }
def k8c5 : Code := { maxStack := 2, maxLocals := 3, code := jdk_42_method_151_code, exceptionTable := #[], attributes := #[] }
def k8m5 : Method := { name := "<init>", desc := "([BB)V", sig := { parameters := [(.array .byte), .byte], returnType := none }, accessFlags := 0, code := some k8c5 }
/-- java/lang/String -/
def k8 : Class := { plain "java/lang/String" (some 0) with
  accessFlags := 49
  interfaces := #[3, 4, 5, 6, 7]
  cf := some (fileOf pool8 10 #[.nestMembers #[1103]] #[{ accessFlags := 1, nameIndex := 5, descriptorIndex := 6, attributes := #[] }, { accessFlags := 1, nameIndex := 5, descriptorIndex := 1010, attributes := #[] }, { accessFlags := 1, nameIndex := 543, descriptorIndex := 573, attributes := #[] }, { accessFlags := 9, nameIndex := 782, descriptorIndex := 783, attributes := #[] }, { accessFlags := 2, nameIndex := 5, descriptorIndex := 29, attributes := #[] }, { accessFlags := 0, nameIndex := 5, descriptorIndex := 211, attributes := #[] }] 49 2 #[1106, 1108, 575, 1110, 1112] #[{ accessFlags := 18, nameIndex := 13, descriptorIndex := 14, attributes := #[] }, { accessFlags := 18, nameIndex := 17, descriptorIndex := 18, attributes := #[] }, { accessFlags := 2, nameIndex := 21, descriptorIndex := 22, attributes := #[] }, { accessFlags := 2, nameIndex := 25, descriptorIndex := 26, attributes := #[] }, { accessFlags := 26, nameIndex := 1116, descriptorIndex := 1117, attributes := #[] }, { accessFlags := 24, nameIndex := 40, descriptorIndex := 26, attributes := #[] }, { accessFlags := 26, nameIndex := 1101, descriptorIndex := 1102, attributes := #[] }, { accessFlags := 26, nameIndex := 1121, descriptorIndex := 1122, attributes := #[] }, { accessFlags := 25, nameIndex := 599, descriptorIndex := 600, attributes := #[] }, { accessFlags := 24, nameIndex := 1125, descriptorIndex := 18, attributes := #[] }, { accessFlags := 24, nameIndex := 1127, descriptorIndex := 18, attributes := #[] }])
  fields := #[{ name := "value", type := (.array .byte), accessFlags := 18, slot := 0, constantValue := 0 }, { name := "coder", type := .byte, accessFlags := 18, slot := 1, constantValue := 0 }, { name := "hash", type := .int, accessFlags := 2, slot := 2, constantValue := 0 }, { name := "hashIsZero", type := .boolean, accessFlags := 2, slot := 3, constantValue := 0 }, { name := "serialVersionUID", type := .long, accessFlags := 26, slot := 0, constantValue := 0 }, { name := "COMPACT_STRINGS", type := .boolean, accessFlags := 24, slot := 1, constantValue := 0 }, { name := "serialPersistentFields", type := (.array (.object "java/io/ObjectStreamField")), accessFlags := 26, slot := 2, constantValue := 0 }, { name := "REPL", type := .char, accessFlags := 26, slot := 3, constantValue := 0 }, { name := "CASE_INSENSITIVE_ORDER", type := (.object "java/util/Comparator"), accessFlags := 25, slot := 4, constantValue := 0 }, { name := "LATIN1", type := .byte, accessFlags := 24, slot := 5, constantValue := 0 }, { name := "UTF16", type := .byte, accessFlags := 24, slot := 6, constantValue := 0 }]
  methods := #[k8m0, k8m1, k8m2, k8m3, k8m4, k8m5]
  instanceTypes := #[(.array .byte), .byte, .int, .boolean]
  staticTypes := #[.long, .boolean, (.array (.object "java/io/ObjectStreamField")), .char, (.object "java/util/Comparator"), .byte, .byte]
  resolved := Array.replicate 1451 none
  statics := some 0 }

def pool9 : Array CpInfo := pool [(6, .class_ 8), (1, u "java/lang/Object"), (0, u "<init>"), (0, u "()V"), (1, .class_ 14), (1, u "java/lang/StringUTF16"), (31, u "$assertionsDisabled"), (0, u "Z"), (13, u "HI_BYTE_SHIFT"), (0, u "I"), (2, u "LO_BYTE_SHIFT"), (49, .methodref 12 116), (0, .nameAndType 117 118), (0, u "compress"), (0, u "([CI[BII)I"), (3, u "([CII)[B"), (138, u "coderFromArrayLen"), (0, u "([BI)B"), (106, .class_ 371), (1, u "java/lang/StringUTF16$LinesSpliterator"), (58, u "MAX_LENGTH"), (196, .class_ 628), (0, u "java/lang/StringUTF16$CodePointsSpliterator"), (0, .class_ 630), (0, u "java/lang/StringUTF16$CharsSpliterator")] 4

def k9m0 : Method := { name := "<init>", desc := "()V", sig := { parameters := [], returnType := none }, accessFlags := 0, code := none }
def k9c1 : Code := { maxStack := 2, maxLocals := 2, code := jdk_52_method_15_code, exceptionTable := #[], attributes := #[] }
def k9m1 : Method := { name := "coderFromArrayLen", desc := "([BI)B", sig := { parameters := [(.array .byte), .int], returnType := some .byte }, accessFlags := 8, code := some k9c1 }
def k9c2 : Code := { maxStack := 5, maxLocals := 6, code := jdk_52_method_16_code, exceptionTable := #[], attributes := #[] }
def k9m2 : Method := { name := "compress", desc := "([CII)[B", sig := { parameters := [(.array .char), .int, .int], returnType := some (.array .byte) }, accessFlags := 9, code := some k9c2 }
def k9c3 : Code := { maxStack := 3, maxLocals := 7, code := jdk_52_method_21_code, exceptionTable := #[], attributes := #[] }
def k9m3 : Method := { name := "compress", desc := "([CI[BII)I", sig := { parameters := [(.array .char), .int, (.array .byte), .int, .int], returnType := some .int }, accessFlags := 9, code := some k9c3 }
/-- java/lang/StringUTF16 -/
def k9 : Class := { plain "java/lang/StringUTF16" (some 0) with
  accessFlags := 48
  interfaces := #[]
  cf := some (fileOf pool9 12 #[.nestMembers #[627, 629, 369]] #[{ accessFlags := 0, nameIndex := 9, descriptorIndex := 10, attributes := #[] }, { accessFlags := 8, nameIndex := 261, descriptorIndex := 262, attributes := #[] }, { accessFlags := 9, nameIndex := 117, descriptorIndex := 122, attributes := #[] }, { accessFlags := 9, nameIndex := 117, descriptorIndex := 118, attributes := #[] }] 48 6 #[] #[{ accessFlags := 26, nameIndex := 61, descriptorIndex := 62, attributes := #[] }, { accessFlags := 26, nameIndex := 65, descriptorIndex := 62, attributes := #[] }, { accessFlags := 24, nameIndex := 430, descriptorIndex := 62, attributes := #[] }, { accessFlags := 4120, nameIndex := 46, descriptorIndex := 47, attributes := #[] }])
  fields := #[{ name := "HI_BYTE_SHIFT", type := .int, accessFlags := 26, slot := 0, constantValue := 0 }, { name := "LO_BYTE_SHIFT", type := .int, accessFlags := 26, slot := 1, constantValue := 0 }, { name := "MAX_LENGTH", type := .int, accessFlags := 24, slot := 2, constantValue := 0 }, { name := "$assertionsDisabled", type := .boolean, accessFlags := 4120, slot := 3, constantValue := 0 }]
  methods := #[k9m0, k9m1, k9m2, k9m3]
  instanceTypes := #[]
  staticTypes := #[.int, .int, .int, .boolean]
  resolved := Array.replicate 635 none
  statics := none }

def pool10 : Array CpInfo := pool [(4, .class_ 6), (1, u "java/lang/Object"), (0, u "<init>"), (0, u "()V"), (5, .class_ 16), (1, u "java/lang/StringLatin1"), (73, u "canEncode"), (14, u "(C)Z"), (15, u "$assertionsDisabled"), (0, u "Z"), (98, .class_ 223), (1, u "java/lang/StringLatin1$LinesSpliterator"), (57, u "equals"), (0, u "([B[B)Z"), (97, u "toBytes"), (1, u "(C)[B"), (7, .class_ 391), (0, u "java/lang/StringLatin1$CharsSpliterator")] 3

def k10m0 : Method := { name := "<init>", desc := "()V", sig := { parameters := [], returnType := none }, accessFlags := 0, code := none }
def k10c1 : Code := { maxStack := 2, maxLocals := 1, code := jdk_43_method_3_code, exceptionTable := #[], attributes := #[] }
def k10m1 : Method := { name := "canEncode", desc := "(C)Z", sig := { parameters := [.char], returnType := some .boolean }, accessFlags := 9, code := some k10c1 }
def k10c2 : Code := { maxStack := 3, maxLocals := 3, code := jdk_43_method_13_code, exceptionTable := #[], attributes := #[] }
def k10m2 : Method := { name := "equals", desc := "([B[B)Z", sig := { parameters := [(.array .byte), (.array .byte)], returnType := some .boolean }, accessFlags := 9, code := some k10c2 }
def k10c3 : Code := { maxStack := 4, maxLocals := 1, code := jdk_43_method_46_code, exceptionTable := #[], attributes := #[] }
def k10m3 : Method := { name := "toBytes", desc := "(C)[B", sig := { parameters := [.char], returnType := some (.array .byte) }, accessFlags := 9, code := some k10c3 }
/-- java/lang/StringLatin1 -/
def k10 : Class := { plain "java/lang/StringLatin1" (some 0) with
  accessFlags := 48
  interfaces := #[]
  cf := some (fileOf pool10 14 #[.nestMembers #[390, 221]] #[{ accessFlags := 0, nameIndex := 7, descriptorIndex := 8, attributes := #[] }, { accessFlags := 9, nameIndex := 90, descriptorIndex := 105, attributes := #[] }, { accessFlags := 9, nameIndex := 281, descriptorIndex := 282, attributes := #[] }, { accessFlags := 9, nameIndex := 380, descriptorIndex := 382, attributes := #[] }] 48 4 #[] #[{ accessFlags := 4120, nameIndex := 121, descriptorIndex := 122, attributes := #[] }])
  fields := #[{ name := "$assertionsDisabled", type := .boolean, accessFlags := 4120, slot := 0, constantValue := 0 }]
  methods := #[k10m0, k10m1, k10m2, k10m3]
  instanceTypes := #[]
  staticTypes := #[.boolean]
  resolved := Array.replicate 395 none
  statics := none }

def pool11 : Array CpInfo := pool [(2, .class_ 4), (1, u "java/lang/Object"), (0, u "<init>"), (0, u "()V"), (17, .class_ 26), (1, u "jdk/internal/util/Preconditions"), (28, .class_ 56), (0, u "jdk/internal/util/Preconditions$4"), (57, .class_ 115), (0, u "jdk/internal/util/Preconditions$1"), (7, u "SIOOBE_FORMATTER"), (0, u "Ljava/util/function/BiFunction;"), (0, .class_ 126), (0, u "jdk/internal/util/Preconditions$2"), (3, u "AIOOBE_FORMATTER"), (0, .class_ 132), (0, u "jdk/internal/util/Preconditions$3"), (3, u "IOOBE_FORMATTER")] 57

def k11m0 : Method := { name := "<init>", desc := "()V", sig := { parameters := [], returnType := none }, accessFlags := 1, code := none }
/-- jdk/internal/util/Preconditions -/
def k11 : Class := { plain "jdk/internal/util/Preconditions" (some 0) with
  accessFlags := 33
  interfaces := #[]
  cf := some (fileOf pool11 24 #[.nestMembers #[55, 131, 125, 114]] #[{ accessFlags := 1, nameIndex := 5, descriptorIndex := 6, attributes := #[] }] 33 2 #[] #[{ accessFlags := 25, nameIndex := 123, descriptorIndex := 124, attributes := #[] }, { accessFlags := 25, nameIndex := 130, descriptorIndex := 124, attributes := #[] }, { accessFlags := 25, nameIndex := 136, descriptorIndex := 124, attributes := #[] }])
  fields := #[{ name := "SIOOBE_FORMATTER", type := (.object "java/util/function/BiFunction"), accessFlags := 25, slot := 0, constantValue := 0 }, { name := "AIOOBE_FORMATTER", type := (.object "java/util/function/BiFunction"), accessFlags := 25, slot := 1, constantValue := 0 }, { name := "IOOBE_FORMATTER", type := (.object "java/util/function/BiFunction"), accessFlags := 25, slot := 2, constantValue := 0 }]
  methods := #[k11m0]
  instanceTypes := #[]
  staticTypes := #[(.object "java/util/function/BiFunction"), (.object "java/util/function/BiFunction"), (.object "java/util/function/BiFunction")]
  resolved := Array.replicate 194 none
  statics := some 1 }

def pool12 : Array CpInfo := pool [(9, u "<init>"), (6, .class_ 18), (1, u "java/lang/Object"), (0, u "()V"), (1, .class_ 23), (1, u "jdk/internal/util/ArraysSupport"), (0, u "LOG2_ARRAY_LONG_INDEX_SCALE"), (0, u "I"), (2, u "U"), (0, u "Ljdk/internal/misc/Unsafe;"), (8, u "BIG_ENDIAN"), (0, u "Z"), (8, u "LOG2_BYTE_BIT_SIZE"), (4, u "LOG2_ARRAY_INT_INDEX_SCALE"), (54, u "JLA"), (0, u "Ljdk/internal/access/JavaLangAccess;"), (11, u "LOG2_ARRAY_BOOLEAN_INDEX_SCALE"), (9, u "LOG2_ARRAY_BYTE_INDEX_SCALE"), (5, u "LOG2_ARRAY_CHAR_INDEX_SCALE"), (5, u "LOG2_ARRAY_SHORT_INDEX_SCALE"), (18, u "LOG2_ARRAY_FLOAT_INDEX_SCALE"), (24, u "LOG2_ARRAY_DOUBLE_INDEX_SCALE"), (89, u "T_BOOLEAN"), (2, u "T_CHAR"), (1, u "T_FLOAT"), (1, u "T_DOUBLE"), (1, u "T_BYTE"), (1, u "T_SHORT"), (1, u "T_INT"), (1, u "T_LONG"), (1, u "SOFT_MAX_ARRAY_LENGTH")] 83

def k12m0 : Method := { name := "<init>", desc := "()V", sig := { parameters := [], returnType := none }, accessFlags := 2, code := none }
/-- jdk/internal/util/ArraysSupport -/
def k12 : Class := { plain "jdk/internal/util/ArraysSupport" (some 0) with
  accessFlags := 33
  interfaces := #[]
  cf := some (fileOf pool12 21 #[] #[{ accessFlags := 2, nameIndex := 9, descriptorIndex := 19, attributes := #[] }] 33 16 #[] #[{ accessFlags := 24, nameIndex := 28, descriptorIndex := 29, attributes := #[] }, { accessFlags := 26, nameIndex := 38, descriptorIndex := 39, attributes := #[] }, { accessFlags := 25, nameIndex := 121, descriptorIndex := 25, attributes := #[] }, { accessFlags := 25, nameIndex := 131, descriptorIndex := 25, attributes := #[] }, { accessFlags := 25, nameIndex := 137, descriptorIndex := 25, attributes := #[] }, { accessFlags := 25, nameIndex := 143, descriptorIndex := 25, attributes := #[] }, { accessFlags := 25, nameIndex := 53, descriptorIndex := 25, attributes := #[] }, { accessFlags := 25, nameIndex := 24, descriptorIndex := 25, attributes := #[] }, { accessFlags := 25, nameIndex := 162, descriptorIndex := 25, attributes := #[] }, { accessFlags := 25, nameIndex := 187, descriptorIndex := 25, attributes := #[] }, { accessFlags := 26, nameIndex := 48, descriptorIndex := 25, attributes := #[] }, { accessFlags := 25, nameIndex := 277, descriptorIndex := 25, attributes := #[] }, { accessFlags := 25, nameIndex := 280, descriptorIndex := 25, attributes := #[] }, { accessFlags := 25, nameIndex := 282, descriptorIndex := 25, attributes := #[] }, { accessFlags := 25, nameIndex := 284, descriptorIndex := 25, attributes := #[] }, { accessFlags := 25, nameIndex := 286, descriptorIndex := 25, attributes := #[] }, { accessFlags := 25, nameIndex := 288, descriptorIndex := 25, attributes := #[] }, { accessFlags := 25, nameIndex := 290, descriptorIndex := 25, attributes := #[] }, { accessFlags := 25, nameIndex := 292, descriptorIndex := 25, attributes := #[] }, { accessFlags := 26, nameIndex := 108, descriptorIndex := 109, attributes := #[] }, { accessFlags := 25, nameIndex := 294, descriptorIndex := 25, attributes := #[] }])
  fields := #[{ name := "U", type := (.object "jdk/internal/misc/Unsafe"), accessFlags := 24, slot := 0, constantValue := 0 }, { name := "BIG_ENDIAN", type := .boolean, accessFlags := 26, slot := 1, constantValue := 0 }, { name := "LOG2_ARRAY_BOOLEAN_INDEX_SCALE", type := .int, accessFlags := 25, slot := 2, constantValue := 0 }, { name := "LOG2_ARRAY_BYTE_INDEX_SCALE", type := .int, accessFlags := 25, slot := 3, constantValue := 0 }, { name := "LOG2_ARRAY_CHAR_INDEX_SCALE", type := .int, accessFlags := 25, slot := 4, constantValue := 0 }, { name := "LOG2_ARRAY_SHORT_INDEX_SCALE", type := .int, accessFlags := 25, slot := 5, constantValue := 0 }, { name := "LOG2_ARRAY_INT_INDEX_SCALE", type := .int, accessFlags := 25, slot := 6, constantValue := 0 }, { name := "LOG2_ARRAY_LONG_INDEX_SCALE", type := .int, accessFlags := 25, slot := 7, constantValue := 0 }, { name := "LOG2_ARRAY_FLOAT_INDEX_SCALE", type := .int, accessFlags := 25, slot := 8, constantValue := 0 }, { name := "LOG2_ARRAY_DOUBLE_INDEX_SCALE", type := .int, accessFlags := 25, slot := 9, constantValue := 0 }, { name := "LOG2_BYTE_BIT_SIZE", type := .int, accessFlags := 26, slot := 10, constantValue := 0 }, { name := "T_BOOLEAN", type := .int, accessFlags := 25, slot := 11, constantValue := 0 }, { name := "T_CHAR", type := .int, accessFlags := 25, slot := 12, constantValue := 0 }, { name := "T_FLOAT", type := .int, accessFlags := 25, slot := 13, constantValue := 0 }, { name := "T_DOUBLE", type := .int, accessFlags := 25, slot := 14, constantValue := 0 }, { name := "T_BYTE", type := .int, accessFlags := 25, slot := 15, constantValue := 0 }, { name := "T_SHORT", type := .int, accessFlags := 25, slot := 16, constantValue := 0 }, { name := "T_INT", type := .int, accessFlags := 25, slot := 17, constantValue := 0 }, { name := "T_LONG", type := .int, accessFlags := 25, slot := 18, constantValue := 0 }, { name := "JLA", type := (.object "jdk/internal/access/JavaLangAccess"), accessFlags := 26, slot := 19, constantValue := 0 }, { name := "SOFT_MAX_ARRAY_LENGTH", type := .int, accessFlags := 25, slot := 20, constantValue := 0 }]
  methods := #[k12m0]
  instanceTypes := #[]
  staticTypes := #[(.object "jdk/internal/misc/Unsafe"), .boolean, .int, .int, .int, .int, .int, .int, .int, .int, .int, .int, .int, .int, .int, .int, .int, .int, .int, (.object "jdk/internal/access/JavaLangAccess"), .int]
  resolved := Array.replicate 378 none
  statics := none }

def pool13 : Array CpInfo := pool [(1, u "java/lang/Cloneable"), (0, .class_ 1), (0, u "java/lang/Object"), (0, .class_ 3)] 3

/-- java/lang/Cloneable -/
def k13 : Class := { plain "java/lang/Cloneable" (some 0) with
  accessFlags := 1537
  interfaces := #[]
  cf := some (fileOf pool13 2 #[] #[] 1537 4 #[] #[])
  fields := #[]
  methods := #[]
  instanceTypes := #[]
  staticTypes := #[]
  resolved := Array.replicate 8 none
  statics := none }

/-- the primitive byte -/
def k14 : Class := { plain "byte" none with kind := .primitive 'B', accessFlags := 0x411 }
/-- [B -/
def k15 : Class := { plain "[B" (some 0) with kind := .array 14 .byte, interfaces := #[13, 3], accessFlags := 1041 }

/-- the primitive char -/
def k16 : Class := { plain "char" none with kind := .primitive 'C', accessFlags := 0x411 }
/-- [C -/
def k17 : Class := { plain "[C" (some 0) with kind := .array 16 .char, interfaces := #[13, 3], accessFlags := 1041 }

/-- the primitive int -/
def k18 : Class := { plain "int" none with kind := .primitive 'I', accessFlags := 0x411 }
/-- [I -/
def k19 : Class := { plain "[I" (some 0) with kind := .array 18 .int, interfaces := #[13, 3], accessFlags := 1041 }

def heap : Heap := #[{ cls := 8, slots := #[.long 0, .int 1, .null, .int 0, .null, .int 0, .int 0], vm := .statics 8 },
  { cls := 11, slots := #[.null, .null, .null], vm := .statics 11 }]
def classes : Array Class := #[k0, k1, k2, k3, k4, k5, k6, k7, k8, k9, k10, k11, k12, k13, k14, k15, k16, k17, k18, k19]
def interned : List (Array UInt16 × Addr) := []
def slotsUsed : Nat := 10
def theMethod : MethodId := ⟨1, 11⟩
def args0 : Array Value := #[.int 5, .int 5, .int 5, .int 5]
def aboutOver (below : List Frame) : State where
  vm := { classes := classes, interned := interned.toArray }
  heap := heap
  slotsUsed := slotsUsed
  threads := #[{ frames := .invoking theMethod args0 :: below }]
def below0 : List Frame := [.native { method := ⟨0, 0⟩, args := #[] }]
def about1 : State := aboutOver below0
def p0 : Program := .bare "" "" ""
def e0 : Env := launch0.env 0 0 0
theorem w_frames : about1.frames = Frame.invoking theMethod args0 :: below0 := rfl
set_option maxRecDepth 65536 in
theorem w_args : argsFit about1.vm theMethod args0 = true := by decide +kernel
set_option maxRecDepth 65536 in
theorem w_heap : heapFits about1 = true := by decide +kernel
set_option maxRecDepth 65536 in
theorem w_runnable : about1.curStatus? = some .runnable := by decide +kernel
set_option maxRecDepth 65536 in
theorem w_alone : about1.alone = true := by decide +kernel
set_option maxRecDepth 65536 in
theorem w_named : about1.methodNamed? x = some theMethod := by decide +kernel
set_option maxRecDepth 65536 in
theorem w_hears : about1.hears theMethod below0 = true := by decide +kernel
set_option maxRecDepth 65536 in
theorem w_ripe : about1.ripe theMethod args0 below0 = true := by decide +kernel
theorem w_running : about1.status = .running := rfl
set_option maxRecDepth 65536 in
theorem w_room : about1.hasRoom e0.platform room_1 = true :=
  launch0.hasRoom_least _ room_1 (by decide +kernel) (by decide +kernel) (by decide +kernel) (by decide +kernel) (by decide +kernel) (by decide +kernel)
theorem allAtoms_all (ts : List Jvm.Cond) (a : Array Jvm.Value) (st : Jvm.State) : (allAtoms ts).before a st = ts.all (fun c => c.before a st) := by
  induction ts with
  | nil => rfl
  | cons c t ih =>
    show (Jvm.Cond.and c (allAtoms t)).before a st = _
    rw [Jvm.Cond.before_and, ih, List.all_cons]
def words1 : List Jvm.Cond := Jvm.Cond.code x code maxLocals ret :: tables_1
/-- a 'code' word, met by the world's own term for the bytes: nothing is compared byte by byte -/
theorem code_word {y : MethodName} {bytes : ByteArray} {mx : Nat} {rt : Option FieldType} {a : Array Value} {s : State} {m : MethodId} {meth : Method} {c : Code} (h1 : s.methodNamed? y = some m) (h2 : s.vm.method? m = some meth) (h3 : meth.code = some c) (h4 : c.code = bytes)
    (h5 : (c.maxLocals == mx && c.exceptionTable.isEmpty && decide (c.maxStack ≤ mostOperands) && decide (meth.sig.returnType = rt) && !meth.locks && decide (parseMethodDescriptor y.desc = some meth.sig)) = true) : (Jvm.Cond.code y bytes mx rt).before a s = true := by
  simp only [Bool.and_eq_true, beq_iff_eq, Bool.not_eq_true', decide_eq_true_eq] at h5
  obtain ⟨⟨⟨⟨⟨g1, g2⟩, g3⟩, g4⟩, g5⟩, g6⟩ := h5
  simp [Cond.before, Cond.holds, Cond.value, h1, h2, h3, h4, g1, g2, g3, g4, g5, g6]
def isCode : Jvm.Cond → Bool
  | .code _ _ _ _ => true
  | _ => false
theorem all_split {L : List Jvm.Cond} {P : Jvm.Cond → Bool} (h1 : L.all (fun c => isCode c || P c) = true) (h2 : ∀ c ∈ L.filter isCode, P c = true) : L.all P = true := by
  refine List.all_eq_true.mpr fun c hc => ?_
  have h := List.all_eq_true.mp h1 c hc
  rcases Bool.eq_false_or_eq_true (isCode c) with hi | hi
  · exact h2 c (List.mem_filter.mpr ⟨hc, hi⟩)
  · simpa [hi] using h
set_option maxRecDepth 65536 in
theorem w_c0 : (Jvm.Cond.code x code maxLocals ret).before args0 about1 = true := code_word (m := ⟨1, 11⟩) (meth := k1m11) (c := k1c11) (by decide +kernel) rfl rfl rfl (by decide +kernel)
set_option maxRecDepth 65536 in
theorem w_c1 : (Jvm.Cond.code ({ cls := "com/example/entity_state_manager/entitystatemanager/QualifiedNameEqualsPinLaw", name := "recvPart", desc := "(I)Ljava/lang/String;" } : Jvm.MethodName) method_9_code (1 : Nat) (Option.some (Jvm.ClassFile.FieldType.object "java/lang/String"))).before args0 about1 = true := code_word (m := ⟨1, 8⟩) (meth := k1m8) (c := k1c8) (by decide +kernel) rfl rfl rfl (by decide +kernel)
set_option maxRecDepth 65536 in
theorem w_c2 : (Jvm.Cond.code ({ cls := "com/example/entity_state_manager/entitystatemanager/QualifiedNameEqualsPinLaw", name := "lenA", desc := "(I)I" } : Jvm.MethodName) method_2_code (1 : Nat) (Option.some Jvm.ClassFile.FieldType.int)).before args0 about1 = true := code_word (m := ⟨1, 1⟩) (meth := k1m1) (c := k1c1) (by decide +kernel) rfl rfl rfl (by decide +kernel)
set_option maxRecDepth 65536 in
theorem w_c3 : (Jvm.Cond.code ({ cls := "com/example/entity_state_manager/entitystatemanager/QualifiedNameEqualsPinLaw", name := "firstA", desc := "(I)I" } : Jvm.MethodName) method_4_code (1 : Nat) (Option.some Jvm.ClassFile.FieldType.int)).before args0 about1 = true := code_word (m := ⟨1, 3⟩) (meth := k1m3) (c := k1c3) (by decide +kernel) rfl rfl rfl (by decide +kernel)
set_option maxRecDepth 65536 in
theorem w_c4 : (Jvm.Cond.code ({ cls := "com/example/entity_state_manager/entitystatemanager/QualifiedNameEqualsPinLaw", name := "secA", desc := "(I)I" } : Jvm.MethodName) method_6_code (1 : Nat) (Option.some Jvm.ClassFile.FieldType.int)).before args0 about1 = true := code_word (m := ⟨1, 5⟩) (meth := k1m5) (c := k1c5) (by decide +kernel) rfl rfl rfl (by decide +kernel)
set_option maxRecDepth 65536 in
theorem w_c5 : (Jvm.Cond.code ({ cls := "com/example/entity_state_manager/entitystatemanager/QualifiedNameEqualsPinLaw", name := "part", desc := "(III)Ljava/lang/String;" } : Jvm.MethodName) method_8_code (4 : Nat) (Option.some (Jvm.ClassFile.FieldType.object "java/lang/String"))).before args0 about1 = true := code_word (m := ⟨1, 7⟩) (meth := k1m7) (c := k1c7) (by decide +kernel) rfl rfl rfl (by decide +kernel)
set_option maxRecDepth 65536 in
theorem w_c6 : (Jvm.Cond.code ({ cls := "com/example/entity_state_manager/entitystatemanager/QualifiedName", name := "<init>", desc := "(Ljava/lang/String;Ljava/lang/String;Ljava/lang/String;)V" } : Jvm.MethodName) prog_7_method_1_code (4 : Nat) (Option.none : Option Jvm.ClassFile.FieldType)).before args0 about1 = true := code_word (m := ⟨2, 0⟩) (meth := k2m0) (c := k2c0) (by decide +kernel) rfl rfl rfl (by decide +kernel)
set_option maxRecDepth 65536 in
theorem w_c7 : (Jvm.Cond.code ({ cls := "java/lang/Object", name := "<init>", desc := "()V" } : Jvm.MethodName) object_method_1_code (1 : Nat) (Option.none : Option Jvm.ClassFile.FieldType)).before args0 about1 = true := code_word (m := ⟨0, 0⟩) (meth := k0m0) (c := k0c0) (by decide +kernel) rfl rfl rfl (by decide +kernel)
set_option maxRecDepth 65536 in
theorem w_c8 : (Jvm.Cond.code ({ cls := "com/example/entity_state_manager/entitystatemanager/QualifiedName", name := "equals", desc := "(Ljava/lang/Object;)Z" } : Jvm.MethodName) prog_7_method_6_code (3 : Nat) (Option.some Jvm.ClassFile.FieldType.boolean)).before args0 about1 = true := code_word (m := ⟨2, 1⟩) (meth := k2m1) (c := k2c1) (by decide +kernel) rfl rfl rfl (by decide +kernel)
set_option maxRecDepth 65536 in
theorem w_c9 : (Jvm.Cond.code ({ cls := "java/lang/String", name := "<init>", desc := "([C)V" } : Jvm.MethodName) jdk_42_method_3_code (2 : Nat) (Option.none : Option Jvm.ClassFile.FieldType)).before args0 about1 = true := code_word (m := ⟨8, 1⟩) (meth := k8m1) (c := k8c1) (by decide +kernel) rfl rfl rfl (by decide +kernel)
set_option maxRecDepth 65536 in
theorem w_c10 : (Jvm.Cond.code ({ cls := "java/lang/String", name := "<init>", desc := "([CIILjava/lang/Void;)V" } : Jvm.MethodName) jdk_42_method_149_code (6 : Nat) (Option.none : Option Jvm.ClassFile.FieldType)).before args0 about1 = true := code_word (m := ⟨8, 4⟩) (meth := k8m4) (c := k8c4) (by decide +kernel) rfl rfl rfl (by decide +kernel)
set_option maxRecDepth 65536 in
theorem w_c11 : (Jvm.Cond.code ({ cls := "java/lang/StringUTF16", name := "compress", desc := "([CII)[B" } : Jvm.MethodName) jdk_52_method_16_code (6 : Nat) (Option.some (Jvm.ClassFile.FieldType.array Jvm.ClassFile.FieldType.byte))).before args0 about1 = true := code_word (m := ⟨9, 2⟩) (meth := k9m2) (c := k9c2) (by decide +kernel) rfl rfl rfl (by decide +kernel)
set_option maxRecDepth 65536 in
theorem w_c12 : (Jvm.Cond.code ({ cls := "java/lang/StringUTF16", name := "compress", desc := "([CI[BII)I" } : Jvm.MethodName) jdk_52_method_21_code (7 : Nat) (Option.some Jvm.ClassFile.FieldType.int)).before args0 about1 = true := code_word (m := ⟨9, 3⟩) (meth := k9m3) (c := k9c3) (by decide +kernel) rfl rfl rfl (by decide +kernel)
set_option maxRecDepth 65536 in
theorem w_c13 : (Jvm.Cond.code ({ cls := "java/lang/StringUTF16", name := "coderFromArrayLen", desc := "([BI)B" } : Jvm.MethodName) jdk_52_method_15_code (2 : Nat) (Option.some Jvm.ClassFile.FieldType.byte)).before args0 about1 = true := code_word (m := ⟨9, 1⟩) (meth := k9m1) (c := k9c1) (by decide +kernel) rfl rfl rfl (by decide +kernel)
set_option maxRecDepth 65536 in
theorem w_c14 : (Jvm.Cond.code ({ cls := "java/lang/String", name := "valueOf", desc := "(C)Ljava/lang/String;" } : Jvm.MethodName) jdk_42_method_139_code (1 : Nat) (Option.some (Jvm.ClassFile.FieldType.object "java/lang/String"))).before args0 about1 = true := code_word (m := ⟨8, 3⟩) (meth := k8m3) (c := k8c3) (by decide +kernel) rfl rfl rfl (by decide +kernel)
set_option maxRecDepth 65536 in
theorem w_c15 : (Jvm.Cond.code ({ cls := "java/lang/StringLatin1", name := "canEncode", desc := "(C)Z" } : Jvm.MethodName) jdk_43_method_3_code (1 : Nat) (Option.some Jvm.ClassFile.FieldType.boolean)).before args0 about1 = true := code_word (m := ⟨10, 1⟩) (meth := k10m1) (c := k10c1) (by decide +kernel) rfl rfl rfl (by decide +kernel)
set_option maxRecDepth 65536 in
theorem w_c16 : (Jvm.Cond.code ({ cls := "java/lang/StringLatin1", name := "toBytes", desc := "(C)[B" } : Jvm.MethodName) jdk_43_method_46_code (1 : Nat) (Option.some (Jvm.ClassFile.FieldType.array Jvm.ClassFile.FieldType.byte))).before args0 about1 = true := code_word (m := ⟨10, 3⟩) (meth := k10m3) (c := k10c3) (by decide +kernel) rfl rfl rfl (by decide +kernel)
set_option maxRecDepth 65536 in
theorem w_c17 : (Jvm.Cond.code ({ cls := "java/lang/String", name := "<init>", desc := "([BB)V" } : Jvm.MethodName) jdk_42_method_151_code (3 : Nat) (Option.none : Option Jvm.ClassFile.FieldType)).before args0 about1 = true := code_word (m := ⟨8, 5⟩) (meth := k8m5) (c := k8c5) (by decide +kernel) rfl rfl rfl (by decide +kernel)
set_option maxRecDepth 65536 in
theorem w_c18 : (Jvm.Cond.code ({ cls := "com/example/entity_state_manager/entitystatemanager/QualifiedNameEqualsPinLaw", name := "othPart", desc := "(I)Ljava/lang/String;" } : Jvm.MethodName) method_10_code (1 : Nat) (Option.some (Jvm.ClassFile.FieldType.object "java/lang/String"))).before args0 about1 = true := code_word (m := ⟨1, 9⟩) (meth := k1m9) (c := k1c9) (by decide +kernel) rfl rfl rfl (by decide +kernel)
set_option maxRecDepth 65536 in
theorem w_c19 : (Jvm.Cond.code ({ cls := "com/example/entity_state_manager/entitystatemanager/QualifiedNameEqualsPinLaw", name := "lenB", desc := "(I)I" } : Jvm.MethodName) method_3_code (1 : Nat) (Option.some Jvm.ClassFile.FieldType.int)).before args0 about1 = true := code_word (m := ⟨1, 2⟩) (meth := k1m2) (c := k1c2) (by decide +kernel) rfl rfl rfl (by decide +kernel)
set_option maxRecDepth 65536 in
theorem w_c20 : (Jvm.Cond.code ({ cls := "com/example/entity_state_manager/entitystatemanager/QualifiedNameEqualsPinLaw", name := "firstB", desc := "(I)I" } : Jvm.MethodName) method_5_code (1 : Nat) (Option.some Jvm.ClassFile.FieldType.int)).before args0 about1 = true := code_word (m := ⟨1, 4⟩) (meth := k1m4) (c := k1c4) (by decide +kernel) rfl rfl rfl (by decide +kernel)
set_option maxRecDepth 65536 in
theorem w_c21 : (Jvm.Cond.code ({ cls := "com/example/entity_state_manager/entitystatemanager/QualifiedNameEqualsPinLaw", name := "secB", desc := "(I)I" } : Jvm.MethodName) method_7_code (1 : Nat) (Option.some Jvm.ClassFile.FieldType.int)).before args0 about1 = true := code_word (m := ⟨1, 6⟩) (meth := k1m6) (c := k1c6) (by decide +kernel) rfl rfl rfl (by decide +kernel)
set_option maxRecDepth 65536 in
theorem w_c22 : (Jvm.Cond.code ({ cls := "com/example/entity_state_manager/entitystatemanager/QualifiedNameEqualsPinLaw", name := "samePart", desc := "(I)Z" } : Jvm.MethodName) method_11_code (2 : Nat) (Option.some Jvm.ClassFile.FieldType.boolean)).before args0 about1 = true := code_word (m := ⟨1, 10⟩) (meth := k1m10) (c := k1c10) (by decide +kernel) rfl rfl rfl (by decide +kernel)
set_option maxRecDepth 65536 in
theorem w_c23 : (Jvm.Cond.code ({ cls := "java/lang/String", name := "equals", desc := "(Ljava/lang/Object;)Z" } : Jvm.MethodName) jdk_42_method_66_code (3 : Nat) (Option.some Jvm.ClassFile.FieldType.boolean)).before args0 about1 = true := code_word (m := ⟨8, 2⟩) (meth := k8m2) (c := k8c2) (by decide +kernel) rfl rfl rfl (by decide +kernel)
set_option maxRecDepth 65536 in
theorem w_c24 : (Jvm.Cond.code ({ cls := "java/lang/StringLatin1", name := "equals", desc := "([B[B)Z" } : Jvm.MethodName) jdk_43_method_13_code (3 : Nat) (Option.some Jvm.ClassFile.FieldType.boolean)).before args0 about1 = true := code_word (m := ⟨10, 2⟩) (meth := k10m2) (c := k10c2) (by decide +kernel) rfl rfl rfl (by decide +kernel)
def codes1 : List Jvm.Cond := [Jvm.Cond.code x code maxLocals ret, Jvm.Cond.code ({ cls := "com/example/entity_state_manager/entitystatemanager/QualifiedNameEqualsPinLaw", name := "recvPart", desc := "(I)Ljava/lang/String;" } : Jvm.MethodName) method_9_code (1 : Nat) (Option.some (Jvm.ClassFile.FieldType.object "java/lang/String")), Jvm.Cond.code ({ cls := "com/example/entity_state_manager/entitystatemanager/QualifiedNameEqualsPinLaw", name := "lenA", desc := "(I)I" } : Jvm.MethodName) method_2_code (1 : Nat) (Option.some Jvm.ClassFile.FieldType.int), Jvm.Cond.code ({ cls := "com/example/entity_state_manager/entitystatemanager/QualifiedNameEqualsPinLaw", name := "firstA", desc := "(I)I" } : Jvm.MethodName) method_4_code (1 : Nat) (Option.some Jvm.ClassFile.FieldType.int), Jvm.Cond.code ({ cls := "com/example/entity_state_manager/entitystatemanager/QualifiedNameEqualsPinLaw", name := "secA", desc := "(I)I" } : Jvm.MethodName) method_6_code (1 : Nat) (Option.some Jvm.ClassFile.FieldType.int), Jvm.Cond.code ({ cls := "com/example/entity_state_manager/entitystatemanager/QualifiedNameEqualsPinLaw", name := "part", desc := "(III)Ljava/lang/String;" } : Jvm.MethodName) method_8_code (4 : Nat) (Option.some (Jvm.ClassFile.FieldType.object "java/lang/String")), Jvm.Cond.code ({ cls := "com/example/entity_state_manager/entitystatemanager/QualifiedName", name := "<init>", desc := "(Ljava/lang/String;Ljava/lang/String;Ljava/lang/String;)V" } : Jvm.MethodName) prog_7_method_1_code (4 : Nat) (Option.none : Option Jvm.ClassFile.FieldType), Jvm.Cond.code ({ cls := "java/lang/Object", name := "<init>", desc := "()V" } : Jvm.MethodName) object_method_1_code (1 : Nat) (Option.none : Option Jvm.ClassFile.FieldType), Jvm.Cond.code ({ cls := "com/example/entity_state_manager/entitystatemanager/QualifiedName", name := "equals", desc := "(Ljava/lang/Object;)Z" } : Jvm.MethodName) prog_7_method_6_code (3 : Nat) (Option.some Jvm.ClassFile.FieldType.boolean), Jvm.Cond.code ({ cls := "java/lang/String", name := "<init>", desc := "([C)V" } : Jvm.MethodName) jdk_42_method_3_code (2 : Nat) (Option.none : Option Jvm.ClassFile.FieldType), Jvm.Cond.code ({ cls := "java/lang/String", name := "<init>", desc := "([CIILjava/lang/Void;)V" } : Jvm.MethodName) jdk_42_method_149_code (6 : Nat) (Option.none : Option Jvm.ClassFile.FieldType), Jvm.Cond.code ({ cls := "java/lang/StringUTF16", name := "compress", desc := "([CII)[B" } : Jvm.MethodName) jdk_52_method_16_code (6 : Nat) (Option.some (Jvm.ClassFile.FieldType.array Jvm.ClassFile.FieldType.byte)), Jvm.Cond.code ({ cls := "java/lang/StringUTF16", name := "compress", desc := "([CI[BII)I" } : Jvm.MethodName) jdk_52_method_21_code (7 : Nat) (Option.some Jvm.ClassFile.FieldType.int), Jvm.Cond.code ({ cls := "java/lang/StringUTF16", name := "coderFromArrayLen", desc := "([BI)B" } : Jvm.MethodName) jdk_52_method_15_code (2 : Nat) (Option.some Jvm.ClassFile.FieldType.byte), Jvm.Cond.code ({ cls := "java/lang/String", name := "valueOf", desc := "(C)Ljava/lang/String;" } : Jvm.MethodName) jdk_42_method_139_code (1 : Nat) (Option.some (Jvm.ClassFile.FieldType.object "java/lang/String")), Jvm.Cond.code ({ cls := "java/lang/StringLatin1", name := "canEncode", desc := "(C)Z" } : Jvm.MethodName) jdk_43_method_3_code (1 : Nat) (Option.some Jvm.ClassFile.FieldType.boolean), Jvm.Cond.code ({ cls := "java/lang/StringLatin1", name := "toBytes", desc := "(C)[B" } : Jvm.MethodName) jdk_43_method_46_code (1 : Nat) (Option.some (Jvm.ClassFile.FieldType.array Jvm.ClassFile.FieldType.byte)), Jvm.Cond.code ({ cls := "java/lang/String", name := "<init>", desc := "([BB)V" } : Jvm.MethodName) jdk_42_method_151_code (3 : Nat) (Option.none : Option Jvm.ClassFile.FieldType), Jvm.Cond.code ({ cls := "com/example/entity_state_manager/entitystatemanager/QualifiedNameEqualsPinLaw", name := "othPart", desc := "(I)Ljava/lang/String;" } : Jvm.MethodName) method_10_code (1 : Nat) (Option.some (Jvm.ClassFile.FieldType.object "java/lang/String")), Jvm.Cond.code ({ cls := "com/example/entity_state_manager/entitystatemanager/QualifiedNameEqualsPinLaw", name := "lenB", desc := "(I)I" } : Jvm.MethodName) method_3_code (1 : Nat) (Option.some Jvm.ClassFile.FieldType.int), Jvm.Cond.code ({ cls := "com/example/entity_state_manager/entitystatemanager/QualifiedNameEqualsPinLaw", name := "firstB", desc := "(I)I" } : Jvm.MethodName) method_5_code (1 : Nat) (Option.some Jvm.ClassFile.FieldType.int), Jvm.Cond.code ({ cls := "com/example/entity_state_manager/entitystatemanager/QualifiedNameEqualsPinLaw", name := "secB", desc := "(I)I" } : Jvm.MethodName) method_7_code (1 : Nat) (Option.some Jvm.ClassFile.FieldType.int), Jvm.Cond.code ({ cls := "com/example/entity_state_manager/entitystatemanager/QualifiedNameEqualsPinLaw", name := "samePart", desc := "(I)Z" } : Jvm.MethodName) method_11_code (2 : Nat) (Option.some Jvm.ClassFile.FieldType.boolean), Jvm.Cond.code ({ cls := "java/lang/String", name := "equals", desc := "(Ljava/lang/Object;)Z" } : Jvm.MethodName) jdk_42_method_66_code (3 : Nat) (Option.some Jvm.ClassFile.FieldType.boolean), Jvm.Cond.code ({ cls := "java/lang/StringLatin1", name := "equals", desc := "([B[B)Z" } : Jvm.MethodName) jdk_43_method_13_code (3 : Nat) (Option.some Jvm.ClassFile.FieldType.boolean)]
set_option maxRecDepth 65536 in
theorem codes_eq : words1.filter isCode = codes1 := rfl
theorem w_codes : ∀ c ∈ words1.filter isCode, c.before args0 about1 = true := by
  rw [codes_eq]
  intro c hc
  simp only [codes1, List.mem_cons, List.not_mem_nil, or_false] at hc
  rcases hc with rfl | rfl | rfl | rfl | rfl | rfl | rfl | rfl | rfl | rfl | rfl | rfl | rfl | rfl | rfl | rfl | rfl | rfl | rfl | rfl | rfl | rfl | rfl | rfl | rfl
  · exact w_c0
  · exact w_c1
  · exact w_c2
  · exact w_c3
  · exact w_c4
  · exact w_c5
  · exact w_c6
  · exact w_c7
  · exact w_c8
  · exact w_c9
  · exact w_c10
  · exact w_c11
  · exact w_c12
  · exact w_c13
  · exact w_c14
  · exact w_c15
  · exact w_c16
  · exact w_c17
  · exact w_c18
  · exact w_c19
  · exact w_c20
  · exact w_c21
  · exact w_c22
  · exact w_c23
  · exact w_c24
set_option maxRecDepth 65536 in
theorem w_t1 : (words1.take 24).all (fun c => isCode c || c.before args0 about1) = true := by decide +kernel
set_option maxRecDepth 65536 in
theorem w_t2 : ((words1.drop 24).take 24).all (fun c => isCode c || c.before args0 about1) = true := by decide +kernel
set_option maxRecDepth 65536 in
theorem w_t3 : (((words1.drop 24).drop 24).take 24).all (fun c => isCode c || c.before args0 about1) = true := by decide +kernel
set_option maxRecDepth 65536 in
theorem w_t4 : ((((words1.drop 24).drop 24).drop 24).take 24).all (fun c => isCode c || c.before args0 about1) = true := by decide +kernel
set_option maxRecDepth 65536 in
theorem w_t5 : ((((words1.drop 24).drop 24).drop 24).drop 24).all (fun c => isCode c || c.before args0 about1) = true := by decide +kernel
theorem w_tables : (allAtoms (Jvm.Cond.code x code maxLocals ret :: tables_1)).before args0 about1 = true := by
  rw [allAtoms_all]
  show words1.all (fun c => c.before args0 about1) = true
  refine all_split ?_ w_codes
  rw [← List.take_append_drop 24 words1, List.all_append, w_t1, ← List.take_append_drop 24 (words1.drop 24), List.all_append, w_t2, ← List.take_append_drop 24 ((words1.drop 24).drop 24), List.all_append, w_t3, ← List.take_append_drop 24 (((words1.drop 24).drop 24).drop 24), List.all_append, w_t4, w_t5]
  rfl
set_option maxRecDepth 65536 in
theorem w_rest : rest_1_c.before args0 about1 = true := by decide +kernel
set_option maxRecDepth 65536 in
theorem w_case : (Jvm.Cond.and given_1 narrow_1).before args0 about1 = true := by decide +kernel
set_option maxRecDepth 65536 in
theorem w_consts : constsHeld consts_1 about1 := Jvm.Lit.constsHeldB_iff.mp (by decide +kernel)
theorem w_applies : (headSpec (Jvm.Cond.code x code maxLocals ret :: tables_1) room_1).applies x e0.platform about1 = true :=
  (Spec.applies_iff w_frames).mpr ⟨w_running, w_runnable, w_alone, w_named, w_hears, w_ripe, w_room, w_tables⟩
theorem atStart : AtStart classFile x code maxLocals ret World_1 tables_1 room_1 Calls_1 rest_1 Pre_1 launch0 p0 e0 about1 theMethod args0 below0 :=
  ⟨lists_1, trivial, launch0.admits_env _ _ _, launch0.least_env, fairChoices_fair.cas, fairChoices_fair.clock, w_frames, w_args, w_heap, w_applies, ⟨w_consts, trivial⟩, w_rest, w_case⟩
end start1
theorem witness_1 : WitnessClaimed_1 := ⟨start1.p0, start1.e0, start1.about1, start1.theMethod, start1.args0, start1.below0, start1.atStart⟩
end Jvm.Pilot.@@N@@
