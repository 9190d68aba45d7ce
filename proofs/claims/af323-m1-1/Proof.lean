import JvmDerived
import JvmDerived.Pilot.@@N@@Statement
import JvmDerived.Pilot.@@N@@Code
set_option linter.unusedVariables false
set_option linter.unusedSimpArgs false
namespace Jvm.RoadKit
open Sem ClassFile Op Lib Jvm.Stand Jvm.Free Jvm.LawKit
section New
variable {p : Program} {l : Launch} {e : Env} {R : Room} {s : State} {m : MethodId} {args : Array Value} {below : List Frame} {meth : Method} {c : Code} {T : State} {locs : List Loc} {cells slots : Nat}
theorem retI (X : Stand p l e R s m args below meth c T locs cells slots) (hx : p.tables.exec = Jvm.exec) {pc : Nat} {Ls : Array Slot} {z : Int32} {rest : List Value} (hret : meth.sig.returnType = some .int) (hd : decode c.code pc = .ok (.ireturn, 1)) {fs : List Frame}
    (hl : ∀ (f : JFrame) (acts : List Action), f.method = m → f.locked = none → f.entered = [] → (doReturn e (T.setTop f) acts (some (.int z))).1 = T.setFrames fs) : Steps p.tables e below (T.setTop (mkF m pc Ls (.int z :: rest))) (T.setFrames fs) := by
  have hm' : T.vm.method? m = some meth := X.method'
  have hn : narrow .int (.int z) = .int z := rfl
  show Steps p.tables e below (T.setTop { method := m, pc := pc, locals := Ls, stack := _ :: rest, locked := none }) _
  jvm_step X.here [X.here.top, hx, hd, hm', hret, hn]
  first | (intro acts; rw [hl _ acts rfl rfl rfl]) | rw [hl _ _ rfl rfl rfl]
  exact Steps.refl _
end New
end Jvm.RoadKit
/- laws to paste: Road.backV, Road.eqW, Road.codOf (cut by pick.py; bodies as the Statement names them) -/
namespace Jvm.Pilot.@@N@@
namespace StrChars
open Jvm Sem ClassFile Op Lib Jvm.Stand Jvm.Free.XT Jvm.Free.ALB Jvm.Free.JM Jvm.Free
open Jvm.Lib.Cold (StaticIs)
/-- a char array whose places are chars -/
def Ch (a : Addr) (A : Cell) (U : State) : Prop := Arr .char a A U ∧ Typed .char A
theorem Ch.mv {a : Addr} {A : Cell} {U U' : State} (h : Ch a A U) (hal : U.vm.Alike U'.vm) (hh : U'.heap = U.heap) : Ch a A U' := ⟨h.1.mv hal hh, h.2⟩
theorem Ch.keep {a : Addr} {A : Cell} {U U' : State} (h : Ch a A U) (hal : U.vm.Alike U'.vm) (hk : U'.heap[a]? = some A) : Ch a A U' := ⟨h.1.keep hal hk, h.2⟩
/-- what place i of a char[]'s cell holds -/
def cv (A : Cell) (i : Nat) : Int32 := match A.slots[i]? with | some (.int x) => x | _ => 0
theorem Ch.get {a : Addr} {A : Cell} {U : State} (h : Ch a A U) {i : Nat} (hi : i < A.slots.size) : A.slots[i]? = some (.int (cv A i)) := by
  have e := Array.getElem?_eq_getElem hi
  have f := h.2 i _ e
  unfold cv; rw [e]
  generalize A.slots[i] = v at f
  cases v <;> simp [fits] at f ⊢
/-- the byte that i2b leaves of a char -/
def lo8 (x : Int32) : Int32 := x.toInt8.toInt32
theorem fits_lo8 (y : Int32) : fits .byte (.int (lo8 y)) = true := by
  have h1 := y.toInt8.le_toInt
  have h2 := y.toInt8.toInt_lt
  simp only [lo8, fits, Bool.and_eq_true, decide_eq_true_eq, Int32.le_iff_toInt_le, Int8.toInt_toInt32, show (-128 : Int32).toInt = -128 from by decide, show (127 : Int32).toInt = 127 from by decide]
  omega
/-- A' is A but that each place j of lo .. hi - 1 holds f j -/
def Laid (A A' : Cell) (lo hi : Nat) (f : Nat → Value) : Prop := A'.cls = A.cls ∧ A'.vm = A.vm ∧ A'.slots.size = A.slots.size ∧ ∀ i, A'.slots[i]? = if lo ≤ i ∧ i < hi then some (f i) else A.slots[i]?
theorem Laid.zero (A : Cell) (lo : Nat) (f : Nat → Value) : Laid A A lo (lo + 0) f := ⟨rfl, rfl, rfl, fun i => by rw [if_neg (by omega)]⟩
theorem Laid.step {A Ak : Cell} {lo k : Nat} {f : Nat → Value} {v : Value} (h : Laid A Ak lo k f) (hlo : lo ≤ k) (hk : k < Ak.slots.size) (hv : v = f k) : Laid A (Ak.setSlot k v) lo (k + 1) f := by
  refine ⟨h.1, h.2.1, by simpa [Cell.setSlot] using h.2.2.1, fun i => ?_⟩
  by_cases e : k = i
  · subst e; rw [Cell.slots_setSlot_self v hk, if_pos (by omega), hv]
  · rw [Cell.slots_setSlot_ne v e, h.2.2.2 i]
    by_cases q : lo ≤ i ∧ i < k
    · rw [if_pos q, if_pos (by omega)]
    · rw [if_neg q, if_neg (by omega)]
def U16 : String := "java/lang/StringUTF16"
namespace Cmp5
def yN : MethodName := ⟨"java/lang/StringUTF16", "compress", "([CI[BII)I"⟩
abbrev yB : ByteArray := jdk_52_method_21_code
theorem d0 : decode yB 0 = .ok (.iconst 0, 1) := by decide +kernel
theorem d1 : decode yB 1 = .ok (.istore 5, 2) := by decide +kernel
theorem d3 : decode yB 3 = .ok (.iload 5, 2) := by decide +kernel
theorem d5 : decode yB 5 = .ok (.iload 4, 2) := by decide +kernel
theorem d7 : decode yB 7 = .ok (.if_icmp (.ge) 37, 3) := by decide +kernel
theorem d10 : decode yB 10 = .ok (.aload_n 0, 1) := by decide +kernel
theorem d11 : decode yB 11 = .ok (.iload_n 1, 1) := by decide +kernel
theorem d12 : decode yB 12 = .ok (.caload, 1) := by decide +kernel
theorem d13 : decode yB 13 = .ok (.istore 6, 2) := by decide +kernel
theorem d15 : decode yB 15 = .ok (.iload 6, 2) := by decide +kernel
theorem d17 : decode yB 17 = .ok (.sipush 255, 3) := by decide +kernel
theorem d20 : decode yB 20 = .ok (.if_icmp (.le) 6, 3) := by decide +kernel
theorem d26 : decode yB 26 = .ok (.aload_n 2, 1) := by decide +kernel
theorem d27 : decode yB 27 = .ok (.iload_n 3, 1) := by decide +kernel
theorem d28 : decode yB 28 = .ok (.iload 6, 2) := by decide +kernel
theorem d30 : decode yB 30 = .ok (.i2b, 1) := by decide +kernel
theorem d31 : decode yB 31 = .ok (.bastore, 1) := by decide +kernel
theorem d32 : decode yB 32 = .ok (.iinc 1 1, 3) := by decide +kernel
theorem d35 : decode yB 35 = .ok (.iinc 3 1, 3) := by decide +kernel
theorem d38 : decode yB 38 = .ok (.iinc 5 1, 3) := by decide +kernel
theorem d41 : decode yB 41 = .ok (.goto (-38), 3) := by decide +kernel
theorem d44 : decode yB 44 = .ok (.iload 4, 2) := by decide +kernel
theorem d46 : decode yB 46 = .ok (.ireturn, 1) := by decide +kernel
def site : List Cond := []
def tab : Cond := tabOf yN yB 7 (some .int) site
def P (b : Addr) (A : Cell) (d : Addr) (B : Cell) (o q len : Nat) (args : Array Value) (s : State) : Prop := args = #[.ref b, .int (Int32.ofNat o), .ref d, .int (Int32.ofNat q), .int (Int32.ofNat len)] ∧ Ch b A s ∧ Arr .byte d B s ∧ b ≠ d ∧ o + len ≤ A.slots.size ∧ q + len ≤ B.slots.size ∧ ∀ i, i < len → ¬ 255 < cv A (o + i)
def E (b : Addr) (A : Cell) (d : Addr) (B : Cell) (o q len : Nat) (r : Option Value) (s u : State) : Prop := r = some (.int (Int32.ofNat len)) ∧ ∃ B', Put d B' s u ∧ Laid B B' q (q + len) (fun j => Value.int (lo8 (cv A (o + (j - q)))))
/-- no char of the range above 255: len; the places written hold each char's low byte -/
theorem law (l : Launch) (b : Addr) (A : Cell) (d : Addr) (B : Cell) (o q len : Nat) : Law l yN 5 5 0 0 yB 7 (some .int) site (P b A d B o q len) (E b A d B o q len) (copyLocs d q len) 0 0 := by
  refine Law.of_walk (plainFor_of_name (by decide +kernel)) (by decide +kernel) (by decide +kernel) (by decide) (fun _ _ h => by rw [h.1]; rfl) (fun _ U U' hal hh h => ⟨h.1, h.2.1.mv hal hh, h.2.2.1.mv hal hh, h.2.2.2⟩) (fun r U U' V V' h1 hal h2 h => ⟨h.1, h.2.elim fun B' q => ⟨B', q.1.mv h1 h2, q.2⟩⟩) ?_
  intro p e s m args below meth c s₁ X0 hexec hbytes hml hret hlk hnm hown hh0 W hP
  obtain ⟨rfl, hA, hB, hne, l1, l2, hp⟩ := hP
  have c1 : Steps p.tables e below (s₁.setTop (entryFrame m #[.ref b, .int (Int32.ofNat o), .ref d, .int (Int32.ofNat q), .int (Int32.ofNat len)] 7)) (s₁.setTop (mkF m 0 #[.val (.ref b), .val (.int (Int32.ofNat o)), .val (.ref d), .val (.int (Int32.ofNat q)), .val (.int (Int32.ofNat len)), .unset, .unset] [])) := entry rfl
  have hA0 := hA.1.mv X0.warmed.alike hh0
  have hB0 := hB.mv X0.warmed.alike hh0
  have a31 := hA.1.2.2.2
  have c2 : Steps p.tables e below (s₁.setTop (entryFrame m #[.ref b, .int (Int32.ofNat o), .ref d, .int (Int32.ofNat q), .int (Int32.ofNat len)] 7)) (s₁.setTop (mkF m 3 #[.val (.ref b), .val (.int (Int32.ofNat o)), .val (.ref d), .val (.int (Int32.ofNat q)), .val (.int (Int32.ofNat len)), .val (.int 0), .unset] [])) := c1.trans (by
    refine iconstV X0.here hexec rfl 0 (hb hbytes d0) (by decide) ?_
    refine XS.istore X0.here hexec rfl (hb hbytes d1) rfl rfl ?_
    exact Steps.refl _)
  have loop : ∀ (r i : Nat), i + r = len → ∀ (z : Slot), (z = .unset ∨ ∃ w, z = .val w ∧ w.category = 1) → ∀ (Tl : State) (Bk : Cell), Stand p l e { frames := 0, locals := 0, cells := 0, slots := 0 } s m #[.ref b, .int (Int32.ofNat o), .ref d, .int (Int32.ofNat q), .int (Int32.ofNat len)] below meth c Tl ([] ++ copyLocs d q i) 0 0 → Put d Bk s₁ Tl → Laid B Bk q (q + i) (fun j => Value.int (lo8 (cv A (o + (j - q))))) →
      Steps p.tables e below (s₁.setTop (entryFrame m #[.ref b, .int (Int32.ofNat o), .ref d, .int (Int32.ofNat q), .int (Int32.ofNat len)] 7)) (Tl.setTop (mkF m 3 #[.val (.ref b), .val (.int (Int32.ofNat (o + i))), .val (.ref d), .val (.int (Int32.ofNat (q + i))), .val (.int (Int32.ofNat len)), .val (.int (Int32.ofNat i)), z] [])) → ∃ (T' : State) (B' : Cell) (z' : Slot), Stand p l e { frames := 0, locals := 0, cells := 0, slots := 0 } s m #[.ref b, .int (Int32.ofNat o), .ref d, .int (Int32.ofNat q), .int (Int32.ofNat len)] below meth c T' ([] ++ copyLocs d q len) 0 0 ∧ Put d B' s₁ T' ∧ Laid B B' q (q + len) (fun j => Value.int (lo8 (cv A (o + (j - q))))) ∧
      Steps p.tables e below (s₁.setTop (entryFrame m #[.ref b, .int (Int32.ofNat o), .ref d, .int (Int32.ofNat q), .int (Int32.ofNat len)] 7)) (T'.setTop (mkF m 3 #[.val (.ref b), .val (.int (Int32.ofNat (o + len))), .val (.ref d), .val (.int (Int32.ofNat (q + len))), .val (.int (Int32.ofNat len)), .val (.int (Int32.ofNat len)), z'] [])) := by
    intro r
    induction r with
    | zero =>
      intro i hi z hz Tl Bk Xl pl fl cl
      have hil : i = len := by omega
      rw [hil] at Xl fl cl
      exact ⟨Tl, Bk, z, Xl, pl, fl, cl⟩
    | succ r ih =>
      intro i hi z hz Tl Bk Xl pl fl cl
      have all := X0.warmed.alike.symm.trans Xl.warmed.alike
      have hAl := hA0.keep all (pl.other hne hA0.1)
      have hBk := hB0.like all pl.1 fl.1 fl.2.1 fl.2.2.1
      have hlt : q + i < Bk.slots.size := by rw [fl.2.2.1]; omega
      have c3 : Steps p.tables e below (s₁.setTop (entryFrame m #[.ref b, .int (Int32.ofNat o), .ref d, .int (Int32.ofNat q), .int (Int32.ofNat len)] 7)) (Tl.setTop (mkF m 12 #[.val (.ref b), .val (.int (Int32.ofNat (o + i))), .val (.ref d), .val (.int (Int32.ofNat (q + i))), .val (.int (Int32.ofNat len)), .val (.int (Int32.ofNat i)), z] [.int (Int32.ofNat (o + i)), .ref b])) := cl.trans (by
        refine XS.iload Xl.here hexec rfl (hb hbytes d3) rfl ?_
        refine XS.iload Xl.here hexec rfl (hb hbytes d5) rfl ?_
        refine XS.icmpNo Xl.here hexec rfl (hb hbytes d7) rfl (ii_ge_f (lt32 (by omega) (by omega))) ?_
        refine XS.aloadN Xl.here hexec rfl (hb hbytes d10) rfl rfl ?_
        refine XS.iloadN Xl.here hexec rfl (hb hbytes d11) rfl ?_
        exact Steps.refl _)
      have c4 : Steps p.tables e below (s₁.setTop (entryFrame m #[.ref b, .int (Int32.ofNat o), .ref d, .int (Int32.ofNat q), .int (Int32.ofNat len)] 7)) (Tl.setTop (mkF m 13 #[.val (.ref b), .val (.int (Int32.ofNat (o + i))), .val (.ref d), .val (.int (Int32.ofNat (q + i))), .val (.int (Int32.ofNat len)), .val (.int (Int32.ofNat i)), z] [.int (cv A (o + i))])) := c3.trans (by
        refine Xl.aget hexec hAl rfl (hA.get (i := o + i) (by omega)) rfl rfl (hb hbytes d12) ?_
        exact Steps.refl _)
      have c5 : Steps p.tables e below (s₁.setTop (entryFrame m #[.ref b, .int (Int32.ofNat o), .ref d, .int (Int32.ofNat q), .int (Int32.ofNat len)] 7)) (Tl.setTop (mkF m 15 #[.val (.ref b), .val (.int (Int32.ofNat (o + i))), .val (.ref d), .val (.int (Int32.ofNat (q + i))), .val (.int (Int32.ofNat len)), .val (.int (Int32.ofNat i)), .val (.int (cv A (o + i)))] [])) := c4.trans (by
        refine XS.istoreS Xl.here hexec rfl (hb hbytes d13) rfl rfl hz ?_
        exact Steps.refl _)
      have c6 : Steps p.tables e below (s₁.setTop (entryFrame m #[.ref b, .int (Int32.ofNat o), .ref d, .int (Int32.ofNat q), .int (Int32.ofNat len)] 7)) (Tl.setTop (mkF m 31 #[.val (.ref b), .val (.int (Int32.ofNat (o + i))), .val (.ref d), .val (.int (Int32.ofNat (q + i))), .val (.int (Int32.ofNat len)), .val (.int (Int32.ofNat i)), .val (.int (cv A (o + i)))] [.int (lo8 (cv A (o + i))), .int (Int32.ofNat (q + i)), .ref d])) := c5.trans (by
        refine XS.iload Xl.here hexec rfl (hb hbytes d15) rfl ?_
        refine sipushV Xl.here hexec rfl 255 (hb hbytes d17) (by decide) ?_
        refine XS.icmpYes Xl.here hexec rfl (pc0 := 20) rfl (hb hbytes d20) rfl (ii_le_t (hp i (by omega))) (by decide) rfl ?_
        refine XS.aloadN Xl.here hexec rfl (hb hbytes d26) rfl rfl ?_
        refine XS.iloadN Xl.here hexec rfl (hb hbytes d27) rfl ?_
        refine XS.iload Xl.here hexec rfl (hb hbytes d28) rfl ?_
        refine i2b Xl.here hexec rfl (hb hbytes d30) rfl ?_
        exact Steps.refl _)
      obtain ⟨T7, X7, p7, st7⟩ := Xl.aput hexec hBk rfl hlt rfl (fits_lo8 (cv A (o + i))) (g := (mkF m 31 #[.val (.ref b), .val (.int (Int32.ofNat (o + i))), .val (.ref d), .val (.int (Int32.ofNat (q + i))), .val (.int (Int32.ofNat len)), .val (.int (Int32.ofNat i)), .val (.int (cv A (o + i)))] [.int (lo8 (cv A (o + i))), .int (Int32.ofNat (q + i)), .ref d])) rfl (rest := []) rfl (hb hbytes d31)
      have c8 : Steps p.tables e below (s₁.setTop (entryFrame m #[.ref b, .int (Int32.ofNat o), .ref d, .int (Int32.ofNat q), .int (Int32.ofNat len)] 7)) (T7.setTop (mkF m 32 #[.val (.ref b), .val (.int (Int32.ofNat (o + i))), .val (.ref d), .val (.int (Int32.ofNat (q + i))), .val (.int (Int32.ofNat len)), .val (.int (Int32.ofNat i)), .val (.int (cv A (o + i)))] [])) := c6.trans (st7 _ (Steps.refl _))
      have c9 : Steps p.tables e below (s₁.setTop (entryFrame m #[.ref b, .int (Int32.ofNat o), .ref d, .int (Int32.ofNat q), .int (Int32.ofNat len)] 7)) (T7.setTop (mkF m 3 #[.val (.ref b), .val (.int (Int32.ofNat (o + i) + 1)), .val (.ref d), .val (.int (Int32.ofNat (q + i) + 1)), .val (.int (Int32.ofNat len)), .val (.int (Int32.ofNat i + 1)), .val (.int (cv A (o + i)))] [])) := c8.trans (by
        refine iincV X7.here hexec rfl 1 (hb hbytes d32) (by decide) rfl rfl ?_
        refine iincV X7.here hexec rfl 1 (hb hbytes d35) (by decide) rfl rfl ?_
        refine iincV X7.here hexec rfl 1 (hb hbytes d38) (by decide) rfl rfl ?_
        refine XS.goto X7.here hexec rfl (pc0 := 41) rfl (hb hbytes d41) (by decide) rfl ?_
        exact Steps.refl _)
      have c10 : Steps p.tables e below (s₁.setTop (entryFrame m #[.ref b, .int (Int32.ofNat o), .ref d, .int (Int32.ofNat q), .int (Int32.ofNat len)] 7)) (T7.setTop (mkF m 3 #[.val (.ref b), .val (.int (Int32.ofNat (o + (i + 1)))), .val (.ref d), .val (.int (Int32.ofNat (q + (i + 1)))), .val (.int (Int32.ofNat len)), .val (.int (Int32.ofNat (i + 1))), .val (.int (cv A (o + i)))] [])) := by
        have := c9
        rw [succ32, succ32, succ32] at this
        exact this
      exact ih (i + 1) (by omega) _ (Or.inr ⟨_, rfl, rfl⟩) T7 _ (by rw [copyLocs_step, ← List.append_assoc]; exact X7) (pl.trans p7) (fl.step (by omega) hlt (by simp)) c10
  obtain ⟨T9, B9, z9, X9, p9, f9, g9⟩ := loop len 0 (by omega) .unset (Or.inl rfl) s₁ B (by simpa [copyLocs] using X0) ⟨hB0.1, fun _ _ => rfl, rfl⟩ (Laid.zero _ _ _) c2
  have c11 : Steps p.tables e below (s₁.setTop (entryFrame m #[.ref b, .int (Int32.ofNat o), .ref d, .int (Int32.ofNat q), .int (Int32.ofNat len)] 7)) (T9.setTop (mkF m 46 #[.val (.ref b), .val (.int (Int32.ofNat (o + len))), .val (.ref d), .val (.int (Int32.ofNat (q + len))), .val (.int (Int32.ofNat len)), .val (.int (Int32.ofNat len)), z9] [.int (Int32.ofNat len)])) := g9.trans (by
    refine XS.iload X9.here hexec rfl (hb hbytes d3) rfl ?_
    refine XS.iload X9.here hexec rfl (hb hbytes d5) rfl ?_
    refine XS.icmpYes X9.here hexec rfl (pc0 := 7) rfl (hb hbytes d7) rfl (ii_ge_t (nlt32 (by omega) (Nat.le_refl _))) (by decide) rfl ?_
    refine XS.iload X9.here hexec rfl (hb hbytes d44) rfl ?_
    exact Steps.refl _)
  exact ⟨T9, some (.int (Int32.ofNat len)), _, _, _, X9, by simp, rfl, rfl, (fun h => by cases h), ⟨rfl, B9, p9.from hh0, f9⟩, fun fs hl => c11.trans (X9.ireturnOut hexec hret rfl (Or.inl rfl) (hb hbytes d46) hl)⟩
end Cmp5
namespace Cmp3
def yN : MethodName := ⟨"java/lang/StringUTF16", "compress", "([CII)[B"⟩
abbrev yB : ByteArray := jdk_52_method_16_code
theorem d0 : decode yB 0 = .ok (.iload_n 2, 1) := by decide +kernel
theorem d1 : decode yB 1 = .ok (.newarray .byte, 2) := by decide +kernel
theorem d3 : decode yB 3 = .ok (.astore_n 3, 1) := by decide +kernel
theorem d4 : decode yB 4 = .ok (.aload_n 0, 1) := by decide +kernel
theorem d5 : decode yB 5 = .ok (.iload_n 1, 1) := by decide +kernel
theorem d6 : decode yB 6 = .ok (.aload_n 3, 1) := by decide +kernel
theorem d7 : decode yB 7 = .ok (.iconst 0, 1) := by decide +kernel
theorem d8 : decode yB 8 = .ok (.iload_n 2, 1) := by decide +kernel
theorem d9 : decode yB 9 = .ok (.invokestatic 115, 3) := by decide +kernel
theorem d12 : decode yB 12 = .ok (.istore 4, 2) := by decide +kernel
theorem d14 : decode yB 14 = .ok (.iload 4, 2) := by decide +kernel
theorem d16 : decode yB 16 = .ok (.iload_n 2, 1) := by decide +kernel
theorem d17 : decode yB 17 = .ok (.if_icmp (.eq) 40, 3) := by decide +kernel
theorem d57 : decode yB 57 = .ok (.aload_n 3, 1) := by decide +kernel
theorem d58 : decode yB 58 = .ok (.areturn, 1) := by decide +kernel
def site : List Cond := [.arrayClass .byte, Cmp5.tab] ++ staticW U16 115 Cmp5.yN
def tab : Cond := tabOf yN yB 6 (some (.array .byte)) site
def P (b : Addr) (A : Cell) (o len : Nat) (args : Array Value) (s : State) : Prop := args = #[.ref b, .int (Int32.ofNat o), .int (Int32.ofNat len)] ∧ Ch b A s ∧ o + len ≤ A.slots.size ∧ len ≤ 536870912 ∧ ∀ i, i < len → ¬ 255 < cv A (o + i)
def E (b : Addr) (A : Cell) (o len : Nat) (r : Option Value) (s u : State) : Prop := NewArr .byte "[B" len (fun j => .int (lo8 (cv A (o + j)))) r s u ∧ u.heap.size = s.heap.size + 1
/-- no char of the range above 255: a new byte[] of their low bytes -/
theorem law (l : Launch) (b : Addr) (A : Cell) (o len : Nat) : Law l yN 3 3 1 18 yB 6 (some (.array .byte)) site (P b A o len) (E b A o len) [] 1 len := by
  refine Law.of_walk (plainFor_of_name (by decide +kernel)) (by decide +kernel) (by decide +kernel) (by decide) (fun _ _ h => by rw [h.1]; rfl) (fun _ U U' hal hh h => ⟨h.1, h.2.1.mv hal hh, h.2.2⟩) (fun r U U' V V' h1 hal h2 h => ⟨NewArr.mv r U U' V V' h1 hal h2 h.1, by rw [h1, h2]; exact h.2⟩) ?_
  intro p e s m args below meth c s₁ X0 hexec hbytes hml hret hlk hnm hown hh0 W hP
  obtain ⟨rfl, hA, l1, l2, hp⟩ := hP
  have a31 := hA.1.2.2.2
  have c1 : Steps p.tables e below (s₁.setTop (entryFrame m #[.ref b, .int (Int32.ofNat o), .int (Int32.ofNat len)] 6)) (s₁.setTop (mkF m 0 #[.val (.ref b), .val (.int (Int32.ofNat o)), .val (.int (Int32.ofNat len)), .unset, .unset, .unset] [])) := entry rfl
  have c2 : Steps p.tables e below (s₁.setTop (entryFrame m #[.ref b, .int (Int32.ofNat o), .int (Int32.ofNat len)] 6)) (s₁.setTop (mkF m 1 #[.val (.ref b), .val (.int (Int32.ofNat o)), .val (.int (Int32.ofNat len)), .unset, .unset, .unset] [.int (Int32.ofNat len)])) := c1.trans (by
    refine XS.iloadN X0.here hexec rfl (hb hbytes d0) rfl ?_
    exact Steps.refl _)
  obtain ⟨T3, B3, X3, ba3, bs3, bv3, bh3, bf3, st3⟩ := X0.anew hexec (atype := .byte) (wk W (.arrayClass .byte)) rfl (by show len * 1 ≤ _; omega) (by omega) (g := (mkF m 1 #[.val (.ref b), .val (.int (Int32.ofNat o)), .val (.int (Int32.ofNat len)), .unset, .unset, .unset] [.int (Int32.ofNat len)])) rfl (hb hbytes d1) (rest := []) rfl (Nat.le_refl _) (by show 0 + len ≤ len; omega)
  rw [hh0] at ba3 st3
  have kp3 : XT.Kept s T3 := (XT.Kept.of_eq hh0).push bh3
  have hA3 := hA.keep X3.warmed.alike (kp3 _ _ hA.1.1)
  have hne : b ≠ s.heap.size := hA.1.ne
  have c4 : Steps p.tables e below (s₁.setTop (entryFrame m #[.ref b, .int (Int32.ofNat o), .int (Int32.ofNat len)] 6)) (T3.setTop (mkF m 3 #[.val (.ref b), .val (.int (Int32.ofNat o)), .val (.int (Int32.ofNat len)), .unset, .unset, .unset] [.ref s.heap.size])) := c2.trans (st3 _ (Steps.refl _))
  have c5 : Steps p.tables e below (s₁.setTop (entryFrame m #[.ref b, .int (Int32.ofNat o), .int (Int32.ofNat len)] 6)) (T3.setTop (mkF m 9 #[.val (.ref b), .val (.int (Int32.ofNat o)), .val (.int (Int32.ofNat len)), .val (.ref s.heap.size), .unset, .unset] [.int (Int32.ofNat len), .int 0, .ref s.heap.size, .int (Int32.ofNat o), .ref b])) := c4.trans (by
    refine XS.astoreN X3.here hexec rfl (hb hbytes d3) rfl rfl rfl ?_
    refine XS.aloadN X3.here hexec rfl (hb hbytes d4) rfl rfl ?_
    refine XS.iloadN X3.here hexec rfl (hb hbytes d5) rfl ?_
    refine XS.aloadN X3.here hexec rfl (hb hbytes d6) rfl rfl ?_
    refine iconstV X3.here hexec rfl 0 (hb hbytes d7) (by decide) ?_
    refine XS.iloadN X3.here hexec rfl (hb hbytes d8) rfl ?_
    exact Steps.refl _)
  obtain ⟨v6, T6, X6, E6, g6⟩ := X3.callS hexec (Cmp5.law l b A s.heap.size B3 o 0 len) hown (wks W (staticW U16 115 Cmp5.yN)) (wk W Cmp5.tab) (W := 0) (Nat.le_of_ble_eq_true rfl) (Nat.le_of_ble_eq_true rfl) (Nat.le_refl _) (by show 0 + len + 0 ≤ len; omega) (g := (mkF m 9 #[.val (.ref b), .val (.int (Int32.ofNat o)), .val (.int (Int32.ofNat len)), .val (.ref s.heap.size), .unset, .unset] [.int (Int32.ofNat len), .int (Int32.ofNat 0), .ref s.heap.size, .int (Int32.ofNat o), .ref b])) rfl (by rw [hml]; rfl) c5 (argsL := [.ref b, .int (Int32.ofNat o), .ref s.heap.size, .int (Int32.ofNat 0), .int (Int32.ofNat len)]) (rest := []) rfl rfl (by show 2 * 0 + 0 ≤ _; decide) (hb hbytes d9) (⟨rfl, hA3, ba3, hne, l1, by rw [bs3]; simp, hp⟩)
  obtain ⟨rfl, B6, p6, f6⟩ := E6
  have c7 : Steps p.tables e below (s₁.setTop (entryFrame m #[.ref b, .int (Int32.ofNat o), .int (Int32.ofNat len)] 6)) (T6.setTop (mkF m 12 #[.val (.ref b), .val (.int (Int32.ofNat o)), .val (.int (Int32.ofNat len)), .val (.ref s.heap.size), .unset, .unset] [.int (Int32.ofNat len)])) := g6
  have c8 : Steps p.tables e below (s₁.setTop (entryFrame m #[.ref b, .int (Int32.ofNat o), .int (Int32.ofNat len)] 6)) (T6.setTop (mkF m 58 #[.val (.ref b), .val (.int (Int32.ofNat o)), .val (.int (Int32.ofNat len)), .val (.ref s.heap.size), .val (.int (Int32.ofNat len)), .unset] [.ref s.heap.size])) := c7.trans (by
    refine XS.istore X6.here hexec rfl (hb hbytes d12) rfl rfl ?_
    refine XS.iload X6.here hexec rfl (hb hbytes d14) rfl ?_
    refine XS.iloadN X6.here hexec rfl (hb hbytes d16) rfl ?_
    refine XS.icmpYes X6.here hexec rfl (pc0 := 17) rfl (hb hbytes d17) rfl (ii_eq_t rfl) (by decide) rfl ?_
    refine XS.aloadN X6.here hexec rfl (hb hbytes d57) rfl rfl ?_
    exact Steps.refl _)
  have X8 := X6.wide (L' := []) (cells' := 1) (slots' := len) (fun x hx hlt => by
    simp only [List.nil_append, copyLocs, List.mem_map, List.mem_range] at hx
    obtain ⟨i, -, rfl⟩ := hx
    exact absurd hlt (Nat.lt_irrefl _)) (Nat.le_refl _) (by omega)
  exact ⟨T6, some (.ref s.heap.size), _, _, _, X8, rfl, rfl, rfl, (fun h => by cases h), ⟨⟨rfl, B6, ba3.like (X3.warmed.alike.symm.trans X6.warmed.alike) p6.1 f6.1 f6.2.1 f6.2.2.1, f6.2.1.trans bv3, by rw [X6.warmed.alike.findClass, f6.1]; exact bf3, by rw [f6.2.2.1, bs3]; simp, fun j hj => by rw [f6.2.2.2 j, if_pos (by omega)]; rfl, kp3.put p6 (Nat.le_refl _)⟩, by rw [p6.2.2, bh3, hh0]; simp⟩, fun fs hl => c8.trans (X8.areturnOut hexec rfl hret rfl (hb hbytes d58) hl)⟩
end Cmp3
namespace CodL
def yN : MethodName := ⟨"java/lang/StringUTF16", "coderFromArrayLen", "([BI)B"⟩
abbrev yB : ByteArray := jdk_52_method_15_code
theorem d0 : decode yB 0 = .ok (.iload_n 1, 1) := by decide +kernel
theorem d1 : decode yB 1 = .ok (.aload_n 0, 1) := by decide +kernel
theorem d2 : decode yB 2 = .ok (.arraylength, 1) := by decide +kernel
theorem d3 : decode yB 3 = .ok (.isub, 1) := by decide +kernel
theorem d4 : decode yB 4 = .ok (.bipush 31, 2) := by decide +kernel
theorem d6 : decode yB 6 = .ok (.iushr, 1) := by decide +kernel
theorem d7 : decode yB 7 = .ok (.i2b, 1) := by decide +kernel
theorem d8 : decode yB 8 = .ok (.ireturn, 1) := by decide +kernel
def site : List Cond := []
def tab : Cond := tabOf yN yB 2 (some .byte) site
def P (d : Addr) (B : Cell) (args : Array Value) (s : State) : Prop := args = #[.ref d, .int (Int32.ofNat B.slots.size)] ∧ Arr .byte d B s
def E (r : Option Value) (s u : State) : Prop := XT.PureE (some (.int 0)) r s u
/-- an array as long as the number of chars: LATIN1 -/
theorem law (l : Launch) (d : Addr) (B : Cell) : Law l yN 2 2 0 0 yB 2 (some .byte) site (P d B) E [] 0 0 := by
  refine Law.of_walk (plainFor_of_name (by decide +kernel)) (by decide +kernel) (by decide +kernel) (by decide) (fun _ _ h => by rw [h.1]; rfl) (fun _ U U' hal hh h => ⟨h.1, h.2.mv hal hh⟩) (fun r U U' V V' h1 hal h2 h => XT.PureE.mv r U U' V V' h1 hal h2 h) ?_
  intro p e s m args below meth c s₁ X0 hexec hbytes hml hret hlk hnm hown hh0 W hP
  obtain ⟨rfl, hB⟩ := hP
  have hB0 := hB.mv X0.warmed.alike hh0
  have c1 : Steps p.tables e below (s₁.setTop (entryFrame m #[.ref d, .int (Int32.ofNat B.slots.size)] 2)) (s₁.setTop (mkF m 0 #[.val (.ref d), .val (.int (Int32.ofNat B.slots.size))] [])) := entry rfl
  have c2 : Steps p.tables e below (s₁.setTop (entryFrame m #[.ref d, .int (Int32.ofNat B.slots.size)] 2)) (s₁.setTop (mkF m 2 #[.val (.ref d), .val (.int (Int32.ofNat B.slots.size))] [.ref d, .int (Int32.ofNat B.slots.size)])) := c1.trans (by
    refine XS.iloadN X0.here hexec rfl (hb hbytes d0) rfl ?_
    refine XS.aloadN X0.here hexec rfl (hb hbytes d1) rfl rfl ?_
    exact Steps.refl _)
  have c3 : Steps p.tables e below (s₁.setTop (entryFrame m #[.ref d, .int (Int32.ofNat B.slots.size)] 2)) (s₁.setTop (mkF m 8 #[.val (.ref d), .val (.int (Int32.ofNat B.slots.size))] [.int (lo8 (ushr (Int32.ofNat B.slots.size - Int32.ofNat B.slots.size) 31))])) := c2.trans (by
    refine X0.alen hexec hB0 rfl rfl (hb hbytes d2) ?_
    refine XS.isub X0.here hexec rfl (hb hbytes d3) rfl ?_
    refine bipushV X0.here hexec rfl 31 (hb hbytes d4) (by decide) ?_
    refine iushr X0.here hexec rfl (hb hbytes d6) rfl ?_
    refine i2b X0.here hexec rfl (hb hbytes d7) rfl ?_
    exact Steps.refl _)
  have e0 : lo8 (ushr (Int32.ofNat B.slots.size - Int32.ofNat B.slots.size) 31) = 0 := by rw [Int32.sub_self]; decide
  rw [e0] at c3
  exact ⟨s₁, some (.int 0), _, _, _, X0, rfl, rfl, rfl, (fun h => by cases h), ⟨rfl, hh0⟩, fun fs hl => c3.trans (X0.ireturnOut hexec hret rfl (Or.inr (Or.inr (Or.inl rfl))) (hb hbytes d8) hl)⟩
end CodL
/-- the String at a is Latin-1 over a new byte[] (the heap's one new cell): the low bytes of the len chars of A from o on; every cell but a is kept -/
def Got (a : Addr) (D : Cell) (fV fC : Field) (A : Cell) (o len : Nat) (r : Option Value) (s u : State) : Prop := r = none ∧ ∃ D' V : Cell, Blank "java/lang/String" a D' u ∧ Same D D' [fV.slot, fC.slot] ∧ D'.slots[fV.slot]? = some (.ref s.heap.size) ∧ D'.slots[fC.slot]? = some (.int 0) ∧ Arr .byte s.heap.size V u ∧ V.vm = .none ∧ u.vm.findClass "[B" = some V.cls ∧ V.slots.size = len ∧ (∀ j, j < len → V.slots[j]? = some (.int (lo8 (cv A (o + j))))) ∧ (∀ (y : Addr) (c : Cell), y ≠ a → s.heap[y]? = some c → u.heap[y]? = some c) ∧ u.heap.size = s.heap.size + 1
theorem Got.mv {a : Addr} {D A : Cell} {fV fC : Field} {o len : Nat} : ∀ r (U U' V V' : State), U'.heap = U.heap → V.vm.Alike V'.vm → V'.heap = V.heap → Got a D fV fC A o len r U V → Got a D fV fC A o len r U' V' :=
  fun r U U' V V' h1 hal h2 ⟨e0, D', X, a1, a2, a3, a4, a5, a6, a7, a8, a9, a10, a11⟩ => ⟨e0, D', X, a1.mv hal h2, a2, by rw [h1]; exact a3, a4, by rw [h1]; exact a5.mv hal h2, a6, by rw [hal.findClass]; exact a7, a8, a9, by rw [h1, h2]; exact a10, by rw [h1, h2]; exact a11⟩
namespace New4
def yN : MethodName := ⟨"java/lang/String", "<init>", "([CIILjava/lang/Void;)V"⟩
abbrev yB : ByteArray := jdk_42_method_149_code
theorem d0 : decode yB 0 = .ok (.aload_n 0, 1) := by decide +kernel
theorem d1 : decode yB 1 = .ok (.invokespecial 1, 3) := by decide +kernel
theorem d4 : decode yB 4 = .ok (.iload_n 3, 1) := by decide +kernel
theorem d5 : decode yB 5 = .ok (.ifCond (.ne) 22, 3) := by decide +kernel
theorem d27 : decode yB 27 = .ok (.getstatic 38, 3) := by decide +kernel
theorem d30 : decode yB 30 = .ok (.ifCond (.eq) 28, 3) := by decide +kernel
theorem d33 : decode yB 33 = .ok (.aload_n 1, 1) := by decide +kernel
theorem d34 : decode yB 34 = .ok (.iload_n 2, 1) := by decide +kernel
theorem d35 : decode yB 35 = .ok (.iload_n 3, 1) := by decide +kernel
theorem d36 : decode yB 36 = .ok (.invokestatic 177, 3) := by decide +kernel
theorem d39 : decode yB 39 = .ok (.astore 5, 2) := by decide +kernel
theorem d41 : decode yB 41 = .ok (.aload_n 0, 1) := by decide +kernel
theorem d42 : decode yB 42 = .ok (.aload 5, 2) := by decide +kernel
theorem d44 : decode yB 44 = .ok (.iload_n 3, 1) := by decide +kernel
theorem d45 : decode yB 45 = .ok (.invokestatic 47, 3) := by decide +kernel
theorem d48 : decode yB 48 = .ok (.putfield 15, 3) := by decide +kernel
theorem d51 : decode yB 51 = .ok (.aload_n 0, 1) := by decide +kernel
theorem d52 : decode yB 52 = .ok (.aload 5, 2) := by decide +kernel
theorem d54 : decode yB 54 = .ok (.putfield 9, 3) := by decide +kernel
theorem d57 : decode yB 57 = .ok (.return_, 1) := by decide +kernel
def site : List Cond := [.fieldLink "java/lang/String" 38 "java/lang/String" "COMPACT_STRINGS" "Z", Cmp3.tab, CodL.tab, .laysFinal "java/lang/String" "java/lang/String" "value" "[B", .fieldLink "java/lang/String" 9 "java/lang/String" "value" "[B", .laysFinal "java/lang/String" "java/lang/String" "coder" "B", .fieldLink "java/lang/String" 15 "java/lang/String" "coder" "B"] ++ objW "java/lang/String" 1 ++ staticW "java/lang/String" 177 Cmp3.yN ++ staticW "java/lang/String" 47 CodL.yN
def tab : Cond := tabOf yN yB 6 none site
def P (a : Addr) (D : Cell) (fV fC : Field) (b : Addr) (A : Cell) (z : Int32) (o len : Nat) (args : Array Value) (s : State) : Prop := args = #[.ref a, .ref b, .int (Int32.ofNat o), .int (Int32.ofNat len), .null] ∧ Blank "java/lang/String" a D s ∧ Found "java/lang/String" "value" "[B" fV s ∧ Found "java/lang/String" "coder" "B" fC s ∧ Ch b A s ∧ StaticIs s "java/lang/String" "COMPACT_STRINGS" "Z" (.int z) ∧ ¬ z = 0 ∧ 0 < len ∧ o + len ≤ A.slots.size ∧ len ≤ 536870912 ∧ ∀ i, i < len → ¬ 255 < cv A (o + i)
def E (a : Addr) (D : Cell) (fV fC : Field) (A : Cell) (o len : Nat) (r : Option Value) (s u : State) : Prop := Got a D fV fC A o len r s u
/-- len > 0, no char of the range above 255: a Latin-1 String of their low bytes -/
theorem law (l : Launch) (a : Addr) (D : Cell) (fV fC : Field) (b : Addr) (A : Cell) (z : Int32) (o len : Nat) : Law l yN 5 4 2 35 yB 6 none site (P a D fV fC b A z o len) (E a D fV fC A o len) [⟨a, fC.slot⟩, ⟨a, fV.slot⟩] 1 len := by
  refine Law.of_walk (plainFor_of_name (by decide +kernel)) (by decide +kernel) (by decide +kernel) (by decide) (fun _ _ h => by rw [h.1]; rfl) (fun _ U U' hal hh h => ⟨h.1, h.2.1.mv hal hh, h.2.2.1.al hal, h.2.2.2.1.al hal, h.2.2.2.2.1.mv hal hh, h.2.2.2.2.2.1.there hal hh, h.2.2.2.2.2.2⟩) (fun r U U' V V' h1 hal h2 h => Got.mv r U U' V V' h1 hal h2 h) ?_
  intro p e s m args below meth c s₁ X0 hexec hbytes hml hret hlk hnm hown hh0 W hP
  obtain ⟨rfl, hB, f1, f2, hA, s1, hz, l0, l1, l2, hp⟩ := hP
  have a31 := hA.1.2.2.2
  have c1 : Steps p.tables e below (s₁.setTop (entryFrame m #[.ref a, .ref b, .int (Int32.ofNat o), .int (Int32.ofNat len), .null] 6)) (s₁.setTop (mkF m 0 #[.val (.ref a), .val (.ref b), .val (.int (Int32.ofNat o)), .val (.int (Int32.ofNat len)), .val .null, .unset] [])) := entry rfl
  have c2 : Steps p.tables e below (s₁.setTop (entryFrame m #[.ref a, .ref b, .int (Int32.ofNat o), .int (Int32.ofNat len), .null] 6)) (s₁.setTop (mkF m 1 #[.val (.ref a), .val (.ref b), .val (.int (Int32.ofNat o)), .val (.int (Int32.ofNat len)), .val .null, .unset] [.ref a])) := c1.trans (by
    refine XS.aloadN X0.here hexec rfl (hb hbytes d0) rfl rfl ?_
    exact Steps.refl _)
  obtain ⟨T3, X3, q3, st3⟩ := X0.oinit hexec hown (wks W (objW "java/lang/String" 1)) (g := (mkF m 1 #[.val (.ref a), .val (.ref b), .val (.int (Int32.ofNat o)), .val (.int (Int32.ofNat len)), .val .null, .unset] [.ref a])) rfl (by rw [hml]; rfl) (rest := []) rfl (hb hbytes d1) (W := 0) (by show 2 * 0 + 0 ≤ _; decide) (Nat.le_of_ble_eq_true rfl) (Nat.le_of_ble_eq_true rfl)
  have hh3 := q3.trans hh0
  have c4 : Steps p.tables e below (s₁.setTop (entryFrame m #[.ref a, .ref b, .int (Int32.ofNat o), .int (Int32.ofNat len), .null] 6)) (T3.setTop (mkF m 27 #[.val (.ref a), .val (.ref b), .val (.int (Int32.ofNat o)), .val (.int (Int32.ofNat len)), .val .null, .unset] [])) := (c2.trans (st3 _ (Steps.refl _))).trans (by
    refine XS.iloadN X3.here hexec rfl (hb hbytes d4) rfl ?_
    refine XS.ifYes X3.here hexec rfl (pc0 := 5) rfl (hb hbytes d5) rfl (i0_ne_t (nz32 (by omega) l0)) (by decide) rfl ?_
    exact Steps.refl _)
  obtain ⟨T5, X5, q5, st5⟩ := X3.sget hexec hown (wk W (.fieldLink "java/lang/String" 38 "java/lang/String" "COMPACT_STRINGS" "Z")) s1 (fun _ _ h => by rw [hh3]; exact h) (g := (mkF m 27 #[.val (.ref a), .val (.ref b), .val (.int (Int32.ofNat o)), .val (.int (Int32.ofNat len)), .val .null, .unset] [])) rfl (hb hbytes d27)
  have hh5 := q5.trans hh3
  have c6 : Steps p.tables e below (s₁.setTop (entryFrame m #[.ref a, .ref b, .int (Int32.ofNat o), .int (Int32.ofNat len), .null] 6)) (T5.setTop (mkF m 30 #[.val (.ref a), .val (.ref b), .val (.int (Int32.ofNat o)), .val (.int (Int32.ofNat len)), .val .null, .unset] [.int z])) := c4.trans (st5 _ (Steps.refl _))
  have c7 : Steps p.tables e below (s₁.setTop (entryFrame m #[.ref a, .ref b, .int (Int32.ofNat o), .int (Int32.ofNat len), .null] 6)) (T5.setTop (mkF m 36 #[.val (.ref a), .val (.ref b), .val (.int (Int32.ofNat o)), .val (.int (Int32.ofNat len)), .val .null, .unset] [.int (Int32.ofNat len), .int (Int32.ofNat o), .ref b])) := c6.trans (by
    refine XS.ifNo X5.here hexec rfl (hb hbytes d30) rfl (i0_eq_f hz) ?_
    refine XS.aloadN X5.here hexec rfl (hb hbytes d33) rfl rfl ?_
    refine XS.iloadN X5.here hexec rfl (hb hbytes d34) rfl ?_
    refine XS.iloadN X5.here hexec rfl (hb hbytes d35) rfl ?_
    exact Steps.refl _)
  obtain ⟨v8, T8, X8, E8, g8⟩ := X5.callS hexec (Cmp3.law l b A o len) hown (wks W (staticW "java/lang/String" 177 Cmp3.yN)) (wk W Cmp3.tab) (W := 0) (Nat.le_of_ble_eq_true rfl) (Nat.le_of_ble_eq_true rfl) (Nat.le_refl _) (by show 0 + len ≤ len; omega) (g := (mkF m 36 #[.val (.ref a), .val (.ref b), .val (.int (Int32.ofNat o)), .val (.int (Int32.ofNat len)), .val .null, .unset] [.int (Int32.ofNat len), .int (Int32.ofNat o), .ref b])) rfl (by rw [hml]; rfl) c7 (argsL := [.ref b, .int (Int32.ofNat o), .int (Int32.ofNat len)]) (rest := []) rfl rfl (by show 2 * 0 + 0 ≤ _; decide) (hb hbytes d36) (⟨rfl, hA.mv X5.warmed.alike hh5, l1, l2, hp⟩)
  obtain ⟨e8, z8⟩ := E8
  obtain ⟨rfl, N, n1, n2, n3, n4, n5, n6⟩ := NewArr.mv _ T5 s _ _ hh5.symm (Vm.Alike.refl _) rfl e8
  rw [hh5] at z8
  have hB1 := hB.keep X8.warmed.alike (n6 _ _ hB.1)
  have hne : s.heap.size ≠ a := (Nat.ne_of_lt (Array.getElem?_eq_some_iff.mp hB.1).1).symm
  have c9 : Steps p.tables e below (s₁.setTop (entryFrame m #[.ref a, .ref b, .int (Int32.ofNat o), .int (Int32.ofNat len), .null] 6)) (T8.setTop (mkF m 39 #[.val (.ref a), .val (.ref b), .val (.int (Int32.ofNat o)), .val (.int (Int32.ofNat len)), .val .null, .unset] [.ref s.heap.size])) := g8
  have c10 : Steps p.tables e below (s₁.setTop (entryFrame m #[.ref a, .ref b, .int (Int32.ofNat o), .int (Int32.ofNat len), .null] 6)) (T8.setTop (mkF m 45 #[.val (.ref a), .val (.ref b), .val (.int (Int32.ofNat o)), .val (.int (Int32.ofNat len)), .val .null, .val (.ref s.heap.size)] [.int (Int32.ofNat N.slots.size), .ref s.heap.size, .ref a])) := by
    have hc : Steps p.tables e below (s₁.setTop (entryFrame m #[.ref a, .ref b, .int (Int32.ofNat o), .int (Int32.ofNat len), .null] 6)) (T8.setTop (mkF m 45 #[.val (.ref a), .val (.ref b), .val (.int (Int32.ofNat o)), .val (.int (Int32.ofNat len)), .val .null, .val (.ref s.heap.size)] [.int (Int32.ofNat len), .ref s.heap.size, .ref a])) := c9.trans (by
      refine XS.astore X8.here hexec rfl (hb hbytes d39) rfl rfl rfl ?_
      refine XS.aloadN X8.here hexec rfl (hb hbytes d41) rfl rfl ?_
      refine XS.aload X8.here hexec rfl (hb hbytes d42) rfl rfl ?_
      refine XS.iloadN X8.here hexec rfl (hb hbytes d44) rfl ?_
      exact Steps.refl _)
    rw [n4]; exact hc
  obtain ⟨v11, T11, X11, E11, g11⟩ := X8.callS hexec (CodL.law l s.heap.size N) hown (wks W (staticW "java/lang/String" 47 CodL.yN)) (wk W CodL.tab) (W := 1) (Nat.le_of_ble_eq_true rfl) (Nat.le_of_ble_eq_true rfl) (Nat.le_refl _) (by show 0 + len + 0 ≤ len; omega) (g := (mkF m 45 #[.val (.ref a), .val (.ref b), .val (.int (Int32.ofNat o)), .val (.int (Int32.ofNat len)), .val .null, .val (.ref s.heap.size)] [.int (Int32.ofNat N.slots.size), .ref s.heap.size, .ref a])) rfl (by rw [hml]; rfl) c10 (argsL := [.ref s.heap.size, .int (Int32.ofNat N.slots.size)]) (rest := [.ref a]) rfl rfl (by show 2 * 0 + (1 + 0) ≤ _; decide) (hb hbytes d45) (⟨rfl, n1⟩)
  obtain ⟨rfl, q11⟩ := E11
  have hB11 := hB1.mv (X8.warmed.alike.symm.trans X11.warmed.alike) q11
  have c12 : Steps p.tables e below (s₁.setTop (entryFrame m #[.ref a, .ref b, .int (Int32.ofNat o), .int (Int32.ofNat len), .null] 6)) (T11.setTop (mkF m 48 #[.val (.ref a), .val (.ref b), .val (.int (Int32.ofNat o)), .val (.int (Int32.ofNat len)), .val .null, .val (.ref s.heap.size)] [.int 0, .ref a])) := g11
  obtain ⟨T13, X13, p13, bl13, sl13, st13⟩ := X11.finit hexec hown (wk W (.fieldLink "java/lang/String" 15 "java/lang/String" "coder" "B")) (Or.inr ⟨_, (wk W (.laysFinal "java/lang/String" "java/lang/String" "coder" "B"))⟩) (Or.inl ⟨rfl, hnm⟩) f2 (Or.inl rfl) hB11 (t := .byte) (by decide +kernel) rfl (g := (mkF m 48 #[.val (.ref a), .val (.ref b), .val (.int (Int32.ofNat o)), .val (.int (Int32.ofNat len)), .val .null, .val (.ref s.heap.size)] [.int 0, .ref a])) rfl (rest := []) rfl (hb hbytes d48)
  have c14 : Steps p.tables e below (s₁.setTop (entryFrame m #[.ref a, .ref b, .int (Int32.ofNat o), .int (Int32.ofNat len), .null] 6)) (T13.setTop (mkF m 54 #[.val (.ref a), .val (.ref b), .val (.int (Int32.ofNat o)), .val (.int (Int32.ofNat len)), .val .null, .val (.ref s.heap.size)] [.ref s.heap.size, .ref a])) := (c12.trans (st13 _ (Steps.refl _))).trans (by
    refine XS.aloadN X13.here hexec rfl (hb hbytes d51) rfl rfl ?_
    refine XS.aload X13.here hexec rfl (hb hbytes d52) rfl rfl ?_
    exact Steps.refl _)
  obtain ⟨T15, X15, p15, bl15, sl15, st15⟩ := X13.finit hexec hown (wk W (.fieldLink "java/lang/String" 9 "java/lang/String" "value" "[B")) (Or.inr ⟨_, (wk W (.laysFinal "java/lang/String" "java/lang/String" "value" "[B"))⟩) (Or.inl ⟨rfl, hnm⟩) f1 (Or.inl rfl) bl13 (t := (.array .byte)) (by decide +kernel) rfl (g := (mkF m 54 #[.val (.ref a), .val (.ref b), .val (.int (Int32.ofNat o)), .val (.int (Int32.ofNat len)), .val .null, .val (.ref s.heap.size)] [.ref s.heap.size, .ref a])) rfl (rest := []) rfl (hb hbytes d54)
  have c16 : Steps p.tables e below (s₁.setTop (entryFrame m #[.ref a, .ref b, .int (Int32.ofNat o), .int (Int32.ofNat len), .null] 6)) (T15.setTop (mkF m 57 #[.val (.ref a), .val (.ref b), .val (.int (Int32.ofNat o)), .val (.int (Int32.ofNat len)), .val .null, .val (.ref s.heap.size)] [])) := c14.trans (st15 _ (Steps.refl _))
  have ap := apart (Or.inr ⟨_, (wk W (.laysFinal "java/lang/String" "java/lang/String" "value" "[B"))⟩) (Or.inr ⟨_, (wk W (.laysFinal "java/lang/String" "java/lang/String" "coder" "B"))⟩) f1 f2 (t₁ := .array .byte) (t₂ := .byte) (by decide +kernel) (by decide +kernel) (by decide)
  have al := X8.warmed.alike.symm.trans X15.warmed.alike
  have n7 : T11.heap[s.heap.size]? = some N := by rw [q11]; exact n1.1
  exact ⟨T15, none, _, _, _, X15, by simp, rfl, by omega, (fun _ => rfl), ⟨rfl, _, N, bl15, ((Same.refl D _).set _ (by simp)).set _ (by simp), sl15, (Cell.slots_setSlot_ne _ ap).trans sl13, n1.keep al (p15.other hne (p13.other hne n7)), n2, by rw [al.findClass]; exact n3, n4, n5, fun y c h1 h2 => p15.other h1 (p13.other h1 (by rw [q11]; exact n6 y c h2)), by rw [p15.2.2, p13.2.2, q11]; exact z8⟩, fun fs hl => c16.trans (X15.returnOut hexec hret (hb hbytes d57) hl)⟩
end New4
namespace New1
def yN : MethodName := ⟨"java/lang/String", "<init>", "([C)V"⟩
abbrev yB : ByteArray := jdk_42_method_3_code
theorem d0 : decode yB 0 = .ok (.aload_n 0, 1) := by decide +kernel
theorem d1 : decode yB 1 = .ok (.aload_n 1, 1) := by decide +kernel
theorem d2 : decode yB 2 = .ok (.iconst 0, 1) := by decide +kernel
theorem d3 : decode yB 3 = .ok (.aload_n 1, 1) := by decide +kernel
theorem d4 : decode yB 4 = .ok (.arraylength, 1) := by decide +kernel
theorem d5 : decode yB 5 = .ok (.aconst_null, 1) := by decide +kernel
theorem d6 : decode yB 6 = .ok (.invokespecial 27, 3) := by decide +kernel
theorem d9 : decode yB 9 = .ok (.return_, 1) := by decide +kernel
def site : List Cond := [New4.tab] ++ initW "java/lang/String" 27 New4.yN
def tab : Cond := tabOf yN yB 2 none site
def P (a : Addr) (D : Cell) (fV fC : Field) (b : Addr) (A : Cell) (z : Int32) (args : Array Value) (s : State) : Prop := args = #[.ref a, .ref b] ∧ Blank "java/lang/String" a D s ∧ Found "java/lang/String" "value" "[B" fV s ∧ Found "java/lang/String" "coder" "B" fC s ∧ Ch b A s ∧ StaticIs s "java/lang/String" "COMPACT_STRINGS" "Z" (.int z) ∧ ¬ z = 0 ∧ 0 < A.slots.size ∧ A.slots.size ≤ 536870912 ∧ ∀ i, i < A.slots.size → ¬ 255 < cv A i
def E (a : Addr) (D : Cell) (fV fC : Field) (A : Cell) (r : Option Value) (s u : State) : Prop := Got a D fV fC A 0 A.slots.size r s u
/-- new String(chars), not empty, no char above 255: a Latin-1 String of their low bytes -/
theorem law (l : Launch) (a : Addr) (D : Cell) (fV fC : Field) (b : Addr) (A : Cell) (z : Int32) : Law l yN 2 1 3 52 yB 2 none site (P a D fV fC b A z) (E a D fV fC A) [⟨a, fC.slot⟩, ⟨a, fV.slot⟩] 1 A.slots.size := by
  refine Law.of_walk (plainFor_of_name (by decide +kernel)) (by decide +kernel) (by decide +kernel) (by decide) (fun _ _ h => by rw [h.1]; rfl) (fun _ U U' hal hh h => ⟨h.1, h.2.1.mv hal hh, h.2.2.1.al hal, h.2.2.2.1.al hal, h.2.2.2.2.1.mv hal hh, h.2.2.2.2.2.1.there hal hh, h.2.2.2.2.2.2⟩) (fun r U U' V V' h1 hal h2 h => Got.mv r U U' V V' h1 hal h2 h) ?_
  intro p e s m args below meth c s₁ X0 hexec hbytes hml hret hlk hnm hown hh0 W hP
  obtain ⟨rfl, hB, f1, f2, hA, s1, hz, l0, l2, hp⟩ := hP
  have c1 : Steps p.tables e below (s₁.setTop (entryFrame m #[.ref a, .ref b] 2)) (s₁.setTop (mkF m 0 #[.val (.ref a), .val (.ref b)] [])) := entry rfl
  have c2 : Steps p.tables e below (s₁.setTop (entryFrame m #[.ref a, .ref b] 2)) (s₁.setTop (mkF m 6 #[.val (.ref a), .val (.ref b)] [.null, .int (Int32.ofNat A.slots.size), .int 0, .ref b, .ref a])) := c1.trans (by
    refine XS.aloadN X0.here hexec rfl (hb hbytes d0) rfl rfl ?_
    refine XS.aloadN X0.here hexec rfl (hb hbytes d1) rfl rfl ?_
    refine iconstV X0.here hexec rfl 0 (hb hbytes d2) (by decide) ?_
    refine XS.aloadN X0.here hexec rfl (hb hbytes d3) rfl rfl ?_
    refine X0.alen hexec (hA.1.mv X0.warmed.alike hh0) rfl rfl (hb hbytes d4) ?_
    refine XS.aconstNull X0.here hexec rfl (hb hbytes d5) ?_
    exact Steps.refl _)
  obtain ⟨v3, T3, X3, E3, g3⟩ := X0.callN hexec (New4.law l a D fV fC b A z 0 A.slots.size) rfl hown (wks W (initW "java/lang/String" 27 New4.yN)) (W New4.tab (by simp only [site, List.mem_cons, List.mem_append, true_or, or_true])) (W := 0) (Nat.le_of_ble_eq_true rfl) (Nat.le_of_ble_eq_true rfl) (Nat.le_refl _) (by show 0 + A.slots.size ≤ A.slots.size; omega) (g := (mkF m 6 #[.val (.ref a), .val (.ref b)] [.null, .int (Int32.ofNat A.slots.size), .int (Int32.ofNat 0), .ref b, .ref a])) rfl (by rw [hml]; rfl) c2 (argsL := [.ref b, .int (Int32.ofNat 0), .int (Int32.ofNat A.slots.size), .null]) (rest := []) rfl rfl (by show 2 * 0 + 0 ≤ _; decide) (hb hbytes d6) (⟨rfl, hB.mv X0.warmed.alike hh0, f1.al X0.warmed.alike, f2.al X0.warmed.alike, hA.mv X0.warmed.alike hh0, s1.there X0.warmed.alike hh0, hz, l0, by omega, l2, fun i hi => by rw [Nat.zero_add]; exact hp i hi⟩)
  have e0 := Got.mv _ s₁ s _ _ hh0.symm (Vm.Alike.refl _) rfl E3
  obtain rfl := e0.1
  have c4 : Steps p.tables e below (s₁.setTop (entryFrame m #[.ref a, .ref b] 2)) (T3.setTop (mkF m 9 #[.val (.ref a), .val (.ref b)] [])) := g3
  exact ⟨T3, none, _, _, _, X3, by simp, rfl, by omega, (fun _ => rfl), e0, fun fs hl => c4.trans (X3.returnOut hexec hret (hb hbytes d9) hl)⟩
theorem pays {l : Launch} {R : Room} {p : Program} {e : Env} {below : List Frame} {s : State} {sargs : Array Value} {len W : Nat} (a : Addr) (D : Cell) (fV fC : Field) (b : Addr) (A : Cell) (z : Int32) (htab : tab.before sargs s = true) (hfr : 4 ≤ R.frames) (hlo : W + 65 ≤ R.locals) :
    Back l R p e below s sargs yN len W (fun A₁ a₁ => A₁.cells + 1 ≤ R.cells ∧ A₁.slots + A.slots.size ≤ R.slots ∧ P a D fV fC b A z a₁ A₁.U) (fun A₁ _ v₁ B₁ => E a D fV fC A v₁ A₁.U B₁.U ∧ B₁.locs = A₁.locs ++ [⟨a, fC.slot⟩, ⟨a, fV.slot⟩] ∧ B₁.cells = A₁.cells + 1 ∧ B₁.slots = A₁.slots + A.slots.size) :=
  (law l a D fV fC b A z).pays htab hfr (by omega)
end New1
/-- the byte, read back as charAt reads it, is the char -/
theorem lo8_mask {x : Int32} (h0 : ¬ x < 0) (h1 : ¬ 255 < x) : lo8 x &&& 255 = x := by
  have t : ∀ k : Fin 256, lo8 (Int32.ofNat k.val) &&& 255 = Int32.ofNat k.val := by decide +kernel
  rw [Int32.lt_iff_toInt_lt] at h0 h1
  have e0 : (0 : Int32).toInt = 0 := rfl
  have e1 : (255 : Int32).toInt = 255 := rfl
  obtain ⟨k, hk⟩ : ∃ k : Nat, x.toInt = k := ⟨x.toInt.toNat, by omega⟩
  have hx : x = Int32.ofNat k := Int32.toInt_inj.mp (by rw [hk, Int32.toInt_ofNat_small (by omega)])
  rw [hx]
  exact t ⟨k, by omega⟩
end StrChars
namespace StrChars.Road
open Jvm Sem ClassFile Op Lib Jvm.Stand Jvm.Free Jvm.Free.XT
open Jvm.Lib.Cold (StaticIs)
abbrev ST : String := "java/lang/String"
/-- every table word that New1's law asks, flat -/
abbrev words : List Jvm.Cond := [.code New1.yN New1.yB 2 none, .initialized ST, .methodLink ST 27 New4.yN, .instanceMethod New4.yN,
  .code New4.yN New4.yB 6 none, .fieldLink ST 38 ST "COMPACT_STRINGS" "Z", .laysFinal ST ST "value" "[B", .fieldLink ST 9 ST "value" "[B", .laysFinal ST ST "coder" "B", .fieldLink ST 15 ST "coder" "B",
  .methodLink ST 1 Lib.objectInit, .instanceMethod Lib.objectInit, .code Lib.objectInit ⟨#[0xb1]⟩ 1 none, .methodLink ST 177 Cmp3.yN, .static Cmp3.yN, .methodLink ST 47 CodL.yN, .static CodL.yN,
  .code Cmp3.yN Cmp3.yB 6 (some (.array .byte)), .initialized U16, .arrayClass .byte, .methodLink U16 115 Cmp5.yN, .static Cmp5.yN, .code Cmp5.yN Cmp5.yB 7 (some .int), .code CodL.yN CodL.yB 2 (some .byte)]
theorem tab_of {a : Array Value} {s : State} (h : ∀ w ∈ words, w.before a s = true) : New1.tab.before a s = true := by
  have h5 : Cmp5.tab.before a s = true := unparts (wk h (.code Cmp5.yN Cmp5.yB 7 (some .int))) (wks h (.initialized Cmp5.yN.cls :: Cmp5.site))
  have hc : CodL.tab.before a s = true := unparts (wk h (.code CodL.yN CodL.yB 2 (some .byte))) (wks h (.initialized CodL.yN.cls :: CodL.site))
  have q5 : ∀ w ∈ Cmp5.tab :: words, w.before a s = true := fun w hw => (List.mem_cons.mp hw).elim (fun e => e ▸ h5) (h w)
  have h3 : Cmp3.tab.before a s = true := unparts (wk q5 (.code Cmp3.yN Cmp3.yB 6 (some (.array .byte)))) (wks q5 (.initialized Cmp3.yN.cls :: Cmp3.site))
  have q3 : ∀ w ∈ Cmp3.tab :: CodL.tab :: words, w.before a s = true := fun w hw => (List.mem_cons.mp hw).elim (fun e => e ▸ h3) fun hw => (List.mem_cons.mp hw).elim (fun e => e ▸ hc) (h w)
  have h4 : New4.tab.before a s = true := unparts (wk q3 (.code New4.yN New4.yB 6 none)) (wks q3 (.initialized New4.yN.cls :: New4.site))
  have q4 : ∀ w ∈ New4.tab :: words, w.before a s = true := fun w hw => (List.mem_cons.mp hw).elim (fun e => e ▸ h4) (h w)
  exact unparts (wk q4 (.code New1.yN New1.yB 2 none)) (wks q4 (.initialized New1.yN.cls :: New1.site))
/-- the words ride from the start Z to the walk's own state -/
theorem moved {Z s : State} {a0 args : Array Value} (hZ : Z.Warmed39 s.vm) (hw : ∀ d ∈ words, d.before a0 Z = true) : ∀ d ∈ words, d.before args s = true := fun d hd => by
  have q := hw d hd
  have t : ∀ d ∈ words, d = .arrayClass .byte ∨ (d.onTables && d.keepsFace) = true := by decide +kernel
  rcases t d hd with rfl | t
  · exact RoadKit.mvA hZ q
  · exact RoadKit.mv hZ q t
/-- WHAT COMES BACK, over the tables of the start Z: h the heap at the call, h' behind it -/
def Q (Z : State) (x : Addr) (A : Cell) (h : Heap) (v : Option Value) (h' : Heap) (L : List Loc) : Prop := v = none ∧ (∀ y ∈ L, y.base = x) ∧ RoadKit.Keep h h' [x] ∧ h'.size = h.size + 1 ∧ RoadKit.Exa Z h' x ST ∧ RoadKit.Fld Z h' x ST "value" "[B" (.ref h.size) ∧ RoadKit.Fld Z h' x ST "coder" "B" (.int 0) ∧
  (∃ V : Cell, RoadKit.Arr Z h' h.size V .byte ∧ V.vm = .none ∧ Z.vm.findClass "[B" = some V.cls ∧ V.slots.size = A.slots.size ∧ ∀ j, j < A.slots.size → V.slots[j]? = some (.int (lo8 (cv A j)))) ∧
  ∀ (O n d : String) (w : Value), RoadKit.Fld Z h x O n d w → RoadKit.slotOf Z O n d ≠ RoadKit.slotOf Z ST "value" "[B" → RoadKit.slotOf Z O n d ≠ RoadKit.slotOf Z ST "coder" "B" → RoadKit.Fld Z h' x O n d w
/-- **new String(chars) AT A CALL, IN THE ROAD'S FORM**: for specialBack behind newO: x the fresh String, b the char[] with the cell A -/
theorem back {p : Program} {l : Launch} {e : Env} {R : Room} {s : State} {args : Array Value} {below : List Frame} {len W : Nat} {Z : State} {a0 : Array Value} {h : Heap} (hZ : Z.Warmed39 s.vm) (hw : ∀ d ∈ words, d.before a0 Z = true) {kI : Nat} (wi : (Jvm.Cond.instantiable ST kI).before a0 Z = true)
    {x b : Addr} {A : Cell} {z : Int32} {v0 c0 : Value} (E : RoadKit.Exa Z h x ST) (V : RoadKit.Fld Z h x ST "value" "[B" v0) (C : RoadKit.Fld Z h x ST "coder" "B" c0) (K : RoadKit.Arr Z h b A .char) (hty : Typed .char A) (S : RoadKit.Sta Z h ST "COMPACT_STRINGS" "Z" (.int z)) (hz : ¬ z = 0)
    (l0 : 0 < A.slots.size) (l2 : A.slots.size ≤ 536870912) (hp : ∀ i, i < A.slots.size → ¬ 255 < cv A i) (hfr : 4 ≤ R.frames) (hlo : W + 65 ≤ R.locals) :
    Back l R p e below s args New1.yN len W (fun P a => a = #[.ref x, .ref b] ∧ P.U.heap = h ∧ P.cells + 1 ≤ R.cells ∧ P.slots + A.slots.size ≤ R.slots)
      (fun P _ v B => ∃ L, Q Z x A h v B.U.heap L ∧ B.locs = P.locs ++ L ∧ B.cells = P.cells + 1 ∧ B.slots = P.slots + A.slots.size) := by
  intro m meth c P g ig mk a X hg hsize hdg hW hn hp'
  obtain ⟨rfl, rfl, r1, r2⟩ := hp'
  have al : Z.vm.Alike P.U.vm := hZ.alike.trans X.warmed.alike
  obtain ⟨D, cfV, kV, iV, fV, hD, gV, stV, knV, obV, asV, slV⟩ := id V
  obtain ⟨D', cfC, kC, iC, fC, hD', gC, stC, -, -, asC, slC⟩ := id C
  cases hD.symm.trans hD'
  obtain ⟨D2, kD, e1, e2, e3, e4, e5⟩ := id E
  cases hD.symm.trans e1
  obtain ⟨c2, k2, i1, i2, i3, -⟩ := Cond.instantiable_spec wi
  cases e2.symm.trans i1
  cases e3.symm.trans i2
  obtain ⟨kU, u1, u2⟩ := al.2.2 _ _ e3
  have hB : Blank ST x D P.U := ⟨hD, ⟨knV, fun q hq => by rw [hq] at obV; cases obV⟩, by rw [al.findClass]; exact e2, kU, u1, by rw [u2]; exact i3, by rw [u2]; exact e5 i3⟩
  have F1 : Found ST "value" "[B" fV P.U := ⟨SBG.found_only al ⟨cfV, kV, iV, gV⟩, stV⟩
  have F2 : Found ST "coder" "B" fC P.U := ⟨SBG.found_only al ⟨cfC, kC, iC, gC⟩, stC⟩
  have hA : Ch b A P.U := ⟨⟨K.1, State.isArrayOf_alike al K.2.1, K.2.2, by omega⟩, hty⟩
  have hS : StaticIs P.U ST "COMPACT_STRINGS" "Z" (.int z) := by
    obtain ⟨cfS, iS, kS, fS, st, cS, t1, t2, t3, t4, t5, t6, t7⟩ := S
    exact StaticIs.there (s := { Z with heap := P.U.heap }) ⟨cfS, iS, kS, fS, st, cS, t1, t2, t3, t4, t5, (fun q => by rw [q] at t6; cases t6), t7⟩ al rfl
  obtain ⟨v, B, X', ⟨⟨hv, E', V', q1, q2, q3, q4, q5, q6, q7, q8, q9, q10, q11⟩, hl, hc, hs⟩, st⟩ := New1.pays x D fV fC b A z (tab_of (moved hZ hw)) hfr hlo m meth c P g ig mk _ X hg hsize hdg hW hn ⟨r1, r2, rfl, hB, F1, F2, hA, hS, hz, l0, l2, hp⟩
  have al' : Z.vm.Alike B.U.vm := hZ.alike.trans X'.warmed.alike
  have hsz : E'.slots.size = D.slots.size := by
    obtain ⟨-, -, -, kB, w1, w2, w3⟩ := q1
    obtain ⟨kB', y1, y2⟩ := al'.2.2 _ _ e3
    rw [q2.2.1] at w1
    cases w1.symm.trans y1
    rw [w3, e5 i3, y2]
  refine ⟨v, B, X', ⟨_, ⟨hv, ?_, ⟨by omega, fun y cy hy hn' => q10 y cy (by simpa using hn') hy, fun y cy hy => ?_⟩, q11, ⟨E', _, q1.1, by rw [q2.2.1]; exact e2, by rw [q2.2.1]; exact e3, by rw [q2.1]; exact obV, fun _ => by rw [hsz]; exact e5 i3⟩,
    ⟨E', cfV, kV, iV, fV, q1.1, gV, stV, by rw [q2.1]; exact knV, by rw [q2.1]; exact obV, by rw [q2.2.1]; exact asV, q3⟩, ⟨E', cfC, kC, iC, fC, q1.1, gC, stC, by rw [q2.1]; exact knV, by rw [q2.1]; exact obV, by rw [q2.2.1]; exact asC, q4⟩,
    ⟨V', ⟨q5.1, State.isArrayOf_alike al'.symm q5.2.1, q5.2.2.1⟩, q6, by rw [← al'.findClass]; exact q7, q8, fun j hj => by have := q9 j hj; rwa [Nat.zero_add] at this⟩, fun O n d w F n1 n2 => ?_⟩, hl, hc, hs⟩, st⟩
  · intro y hy
    simp only [List.mem_cons, List.not_mem_nil, or_false] at hy
    rcases hy with rfl | rfl <;> rfl
  · by_cases q : y = x
    · subst q
      cases hD.symm.trans hy
      exact ⟨E', q1.1, q2.2.1, q2.1, hsz⟩
    · exact ⟨cy, q10 y cy q hy, rfl, rfl, rfl⟩
  · obtain ⟨D3, cf, k, i, f, g1, g2, g3, g4, g5, g6, g7⟩ := F
    cases hD.symm.trans g1
    simp only [RoadKit.slotOf, g2, gV, gC, Option.map_some, Option.getD_some] at n1 n2
    exact ⟨E', cf, k, i, f, q1.1, g2, g3, by rw [q2.1]; exact g4, by rw [q2.1]; exact g5, by rw [q2.2.1]; exact g6, by rw [q2.2.2 f.slot (by simp [n1, n2])]; exact g7⟩
end StrChars.Road
namespace StrChars.Road
open Jvm Sem ClassFile Op Lib Jvm.Stand Jvm.Free Jvm.Free.XT
/-- WHAT COMES BACK, the byte[] as a list of values -/
def QA (Z : State) (x : Addr) (zn : Int32) (cs : List Int32) (h : Heap) (v : Option Value) (h' : Heap) (L : List Loc) : Prop := v = none ∧ (∀ y ∈ L, y.base = x) ∧ RoadKit.Keep h h' [x] ∧ h'.size = h.size + 1 ∧ RoadKit.Exa Z h' x ST ∧ RoadKit.Fld Z h' x ST "value" "[B" (.ref h.size) ∧ RoadKit.Fld Z h' x ST "coder" "B" (.int 0) ∧
  (∃ kb, Z.vm.findClass "[B" = some kb ∧ RoadKit.Arv Z h' h.size kb .byte zn (cs.map fun c => .int (lo8 c)) (.int 0)) ∧
  ∀ (O n d : String) (w : Value), RoadKit.Fld Z h x O n d w → RoadKit.slotOf Z O n d ≠ RoadKit.slotOf Z ST "value" "[B" → RoadKit.slotOf Z O n d ≠ RoadKit.slotOf Z ST "coder" "B" → RoadKit.Fld Z h' x O n d w
/-- **new String(chars) AT A CALL, THE ARRAYS AS LISTS**: the char[] at b holds cs, not empty, no char above 255 -/
theorem backArv {p : Program} {l : Launch} {e : Env} {R : Room} {s : State} {args : Array Value} {below : List Frame} {len W : Nat} {Z : State} {a0 : Array Value} {h : Heap} (hZ : Z.Warmed39 s.vm) (hw : ∀ d ∈ words, d.before a0 Z = true) {kI : Nat} (wi : (Jvm.Cond.instantiable ST kI).before a0 Z = true)
    {x b : Addr} {k : ClassId} {zn z : Int32} {cs : List Int32} {dv v0 c0 : Value} (E : RoadKit.Exa Z h x ST) (V : RoadKit.Fld Z h x ST "value" "[B" v0) (C : RoadKit.Fld Z h x ST "coder" "B" c0) (K : RoadKit.Arv Z h b k .char zn (cs.map Value.int) dv) (S : RoadKit.Sta Z h ST "COMPACT_STRINGS" "Z" (.int z)) (hz : ¬ z = 0)
    (hlen : zn.toNatClampNeg = cs.length) (h0 : 0 < cs.length) (hbig : cs.length ≤ 536870912) (hall : ∀ c ∈ cs, ¬ 255 < c) (hfr : 4 ≤ R.frames) (hlo : W + 65 ≤ R.locals) :
    Back l R p e below s args New1.yN len W (fun P a => a = #[.ref x, .ref b] ∧ P.U.heap = h ∧ P.cells + 1 ≤ R.cells ∧ P.slots + cs.length ≤ R.slots)
      (fun P _ v B => ∃ L, QA Z x zn cs h v B.U.heap L ∧ B.locs = P.locs ++ L ∧ B.cells = P.cells + 1 ∧ B.slots = P.slots + cs.length) := by
  obtain ⟨A, K1, K2, K3, K4, K5, K6⟩ := K
  have e : A.slots.size = cs.length := K3.trans hlen
  have hat : ∀ (i : Nat) (hi : i < cs.length), A.slots[i]? = some (.int cs[i]) := fun i hi => by rw [K5 i (by omega)]; simp [List.getD_eq_getElem?_getD, hi]
  have hcv : ∀ (i : Nat) (hi : i < cs.length), cv A i = cs[i] := fun i hi => by unfold cv; rw [hat i hi]
  have hty : Typed .char A := fun i v hv => by
    have hi : i < A.slots.size := (Array.getElem?_eq_some_iff.mp hv).1
    have q := K5 i hi
    rw [hv] at q
    rw [Option.some.inj q]
    exact K6 i hi
  refine Back.mono (back hZ hw wi E V C K1 hty S hz (by omega) (by omega) (fun i hi => by rw [hcv i (by omega)]; exact hall _ (List.getElem_mem _)) hfr hlo) (fun P a hp => ⟨hp.1, hp.2.1, hp.2.2.1, by rw [e]; exact hp.2.2.2⟩) (fun P a v B hp hq => ?_)
  obtain ⟨L, ⟨q1, q2, q3, q4, q5, q6, q7, ⟨V', v1, v2, v3, v4, v5⟩, q9⟩, hl, hc, hs⟩ := hq
  refine ⟨L, ⟨q1, q2, q3, q4, q5, q6, q7, ⟨V'.cls, v3, V', v1, rfl, by rw [v4, e, hlen], K4, fun i hi => ?_, fun i hi => ?_⟩, q9⟩, hl, hc, by rw [hs, e]⟩
  · have hi' : i < cs.length := by omega
    rw [v5 i (by omega), hcv i hi']; simp [List.getD_eq_getElem?_getD, hi']
  · have hi' : i < cs.length := by omega
    simp only [List.getD_eq_getElem?_getD, List.getElem?_map, List.getElem?_eq_getElem hi', Option.map_some, Option.getD_some]
    exact fits_lo8 _
end StrChars.Road
namespace StrChars.Road
open Jvm Sem ClassFile Op Lib Jvm.Stand Jvm.Free Jvm.Free.XT
/-- WHAT COMES BACK, in the writer's own shape -/
def QV (Z : State) (x : Addr) (N : Int32) (bs : List Int32) (h : Heap) (n0 : Nat) (v : Option Value) (h' : Heap) (L : List Loc) : Prop := v = none ∧ RoadKit.Fr n0 L ∧ RoadKit.Keep h h' [x] ∧ RoadKit.Exa Z h' x ST ∧ RoadKit.Fld Z h' x ST "coder" "B" (.int 0) ∧
  ∃ (t : Addr) (kb : ClassId), n0 ≤ t ∧ h.size ≤ t ∧ ¬ t = x ∧ RoadKit.Fld Z h' x ST "value" "[B" (.ref t) ∧ RoadKit.Arv Z h' t kb .byte N (bs.map Value.int) (.int 0)
/-- **new String(chars) AT A CALL, FOR THE WRITER**: a char[] of n known ints, each 0 to 255 -/
theorem backV {p : Program} {l : Launch} {e : Env} {R : Room} {s : State} {args : Array Value} {below : List Frame} {len W : Nat} {Z : State} {a0 : Array Value} {h : Heap} (hZ : Z.Warmed39 s.vm) (hw : ∀ d ∈ words, d.before a0 Z = true) {kI : Nat} (wi : (Jvm.Cond.instantiable ST kI).before a0 Z = true)
    {x b : Addr} {kC : ClassId} {cs bs : List Int32} {d v0 c0 : Value} {z N : Int32} {n n0 : Nat} (hx0 : n0 ≤ x) (hh0 : n0 ≤ h.size) (E : RoadKit.Exa Z h x ST) (V : RoadKit.Fld Z h x ST "value" "[B" v0) (C : RoadKit.Fld Z h x ST "coder" "B" c0) (K : RoadKit.Arv Z h b kC .char N (cs.map Value.int) d) (S : RoadKit.Sta Z h ST "COMPACT_STRINGS" "Z" (.int z)) (hz : ¬ z = 0)
    (hn : cs.length = n) (hN : N = Int32.ofNat n) (l0 : 0 < n) (l2 : n ≤ 4000) (hp : ∀ c ∈ cs, ¬ c < 0 ∧ ¬ (255 : Int32) < c) (hb : bs = cs.map (fun c => c.toInt8.toInt32)) (hfr : 4 ≤ R.frames) (hlo : W + 65 ≤ R.locals) :
    Back l R p e below s args (⟨"java/lang/String", "<init>", "([C)V"⟩ : MethodName) len W (fun P a => a = #[.ref x, .ref b] ∧ P.U.heap = h ∧ P.cells + 1 ≤ R.cells ∧ P.slots + n ≤ R.slots)
      (fun P _ v B => ∃ L, QV Z x N bs h n0 v B.U.heap L ∧ B.locs = P.locs ++ L ∧ B.cells = P.cells + 1 ∧ B.slots = P.slots + n) := by
  subst hn hN hb
  refine Back.mono (backArv hZ hw wi E V C K S hz (n32 (by omega)) l0 (by omega) (fun c hc => (hp c hc).2) hfr hlo) (fun P a hp => hp) (fun P a v B hp hq => ?_)
  obtain ⟨L, ⟨q1, q2, q3, q4, q5, q6, q7, ⟨kb, v1, v2⟩, q9⟩, hl, hc, hs⟩ := hq
  exact ⟨L, ⟨q1, fun y hy => by rw [q2 y hy]; exact hx0, q3, q5, q7, h.size, kb, hh0, Nat.le_refl _, Nat.ne_of_gt E.lt, q6, by rw [List.map_map]; exact v2⟩, hl, hc, hs⟩
end StrChars.Road
namespace StrChars
open Jvm Sem ClassFile Op Lib Jvm.Stand Jvm.Free.XT Jvm.Free.ALB Jvm.Free.JM Jvm.Free
open Jvm.Lib.Cold (StaticIs)
def hi8 (x : Int32) : Int32 := lo8 (x >>> ((8 : Int32) &&& 31))
/-- what StringUTF16.getChar makes of two bytes -/
def pairCh (u v : Int32) : Int32 := (((u &&& 255) <<< ((0 : Int32) &&& 31)) ||| ((v &&& 255) <<< ((8 : Int32) &&& 31))).toUInt32.toUInt16.toUInt32.toInt32
theorem lo8_and (x : Int32) : (lo8 x &&& 255).toBitVec.toNat = x.toBitVec.toNat % 256 := by
  have h : (lo8 x).toBitVec = (x.toBitVec.signExtend 8).signExtend 32 := by rw [lo8, Int8.toBitVec_toInt32, Int32.toBitVec_toInt8]
  rw [Int32.toBitVec_and, BitVec.toNat_and, h]
  have e : ((x.toBitVec.signExtend 8).signExtend 32).toNat % 256 = x.toBitVec.toNat % 256 := by
    rw [BitVec.toNat_signExtend]
    have hlt := x.toBitVec.isLt
    simp only [BitVec.toNat_setWidth, BitVec.toNat_signExtend]
    split <;> split <;> omega
  rw [← e]
  exact Nat.and_two_pow_sub_one_eq_mod _ 8
theorem pair_says {c : Int32} (h0 : ¬ c < 0) (h1 : ¬ 65535 < c) : pairCh (lo8 c) (hi8 c) = c := by
  rw [Int32.lt_iff_toInt_lt] at h0 h1
  have e0 : (0 : Int32).toInt = 0 := rfl
  have e1 : (65535 : Int32).toInt = 65535 := rfl
  have hc : c.toInt = c.toBitVec.toNat := by
    have := c.toBitVec.isLt
    have e : c.toInt = c.toBitVec.toInt := rfl
    rw [e] at h0 h1
    rw [e]
    rw [BitVec.toInt_eq_toNat_cond] at h0 h1 ⊢
    split at h0 <;> split <;> omega
  have hn : c.toBitVec.toNat < 65536 := by omega
  have a1 := lo8_and c
  have a2 : (hi8 c &&& 255).toBitVec.toNat = c.toBitVec.toNat / 256 := by
    rw [hi8, lo8_and]
    have e : ((8 : Int32) &&& 31) = 8 := by decide
    rw [e, Int32.toBitVec_shiftRight]
    have e2 : ((8 : Int32).toBitVec.smod 32) = 8#32 := by decide
    rw [e2, BitVec.sshiftRight_eq', BitVec.toNat_sshiftRight_of_msb_false (by rw [BitVec.msb_eq_false_iff_two_mul_lt]; omega)]
    show c.toBitVec.toNat >>> 8 % 256 = _
    rw [Nat.shiftRight_eq_div_pow]
    omega
  unfold pairCh
  apply Int32.toBitVec_inj.mp
  apply BitVec.eq_of_toNat_eq
  have f0 : ((0 : Int32) &&& 31) = 0 := by decide
  have f8 : ((8 : Int32) &&& 31) = 8 := by decide
  rw [f0, f8]
  have g : (((lo8 c &&& 255) <<< (0 : Int32)) ||| ((hi8 c &&& 255) <<< (8 : Int32))).toBitVec.toNat = c.toBitVec.toNat := by
    rw [Int32.toBitVec_or, Int32.toBitVec_shiftLeft, Int32.toBitVec_shiftLeft]
    have s0 : ((0 : Int32).toBitVec.smod 32) = 0#32 := by decide
    have s8 : ((8 : Int32).toBitVec.smod 32) = 8#32 := by decide
    rw [s0, s8, BitVec.toNat_or]
    simp only [BitVec.shiftLeft_eq', BitVec.toNat_shiftLeft, a1, a2]
    show (c.toBitVec.toNat % 256) <<< 0 % 2 ^ 32 ||| (c.toBitVec.toNat / 256) <<< 8 % 2 ^ 32 = _
    rw [Nat.shiftLeft_zero, Nat.mod_eq_of_lt (show c.toBitVec.toNat % 256 < 2 ^ 32 by omega), Nat.mod_eq_of_lt (show (c.toBitVec.toNat / 256) <<< 8 < 2 ^ 32 by rw [Nat.shiftLeft_eq]; omega), Nat.or_comm, ← Nat.shiftLeft_add_eq_or_of_lt (by omega), Nat.shiftLeft_eq]
    omega
  show BitVec.toNat (((((lo8 c &&& 255) <<< (0 : Int32)) ||| ((hi8 c &&& 255) <<< (8 : Int32))).toBitVec.setWidth 16).setWidth 32) = _
  rw [BitVec.toNat_setWidth, BitVec.toNat_setWidth, g]
  omega
end StrChars
namespace StrChars
open Jvm Sem ClassFile Op Lib Jvm.Stand Jvm.Free.XT Jvm.Free.ALB Jvm.Free.JM Jvm.Free
open Jvm.Lib.Cold (StaticIs)
/-- the array's cell V codes the n chars f 0 .. f (n - 1) by the coder cd, as the JDK does: coder 1 just where some char is above 255 -/
def Cod (cd : Int32) (n : Nat) (f : Nat → Int32) (V : Cell) : Prop := (cd = 0 ∧ V.slots.size = n ∧ ∀ j, j < n → V.slots[j]? = some (.int (lo8 (f j))) ∧ ¬ 255 < f j) ∨ (cd = 1 ∧ V.slots.size = 2 * n ∧ (∀ j, j < n → V.slots[2 * j]? = some (.int (lo8 (f j))) ∧ V.slots[2 * j + 1]? = some (.int (hi8 (f j)))) ∧ ∃ j, j < n ∧ 255 < f j)
/-- **x is a String of the n chars f 0 .. f (n - 1)**, Latin-1 or UTF-16; its array at t has the cell V -/
def Txt (x t : Addr) (V : Cell) (cd : Int32) (n : Nat) (f : Nat → Int32) (U : State) : Prop := Exact "java/lang/String" x U ∧ Has x "java/lang/String" "value" "[B" (.ref t) U ∧ Has x "java/lang/String" "coder" "B" (.int cd) U ∧ XT.Arr .byte t V U ∧ Cod cd n f V ∧ ∀ j, j < n → ¬ f j < 0 ∧ ¬ 65535 < f j
theorem Txt.mv {x t : Addr} {V : Cell} {cd : Int32} {n : Nat} {f : Nat → Int32} {U U' : State} (h : Txt x t V cd n f U) (hal : U.vm.Alike U'.vm) (hh : U'.heap = U.heap) : Txt x t V cd n f U' := ⟨h.1.mv hal hh, h.2.1.mv hal hh, h.2.2.1.mv hal hh, h.2.2.2.1.mv hal hh, h.2.2.2.2⟩
end StrChars
namespace StrChars.Road
open Jvm Sem ClassFile Op Lib Jvm.Stand Jvm.Free Jvm.Free.XT
open Jvm.Lib.Cold (StaticIs)
theorem consq {a : Array Value} {s : State} {c : Jvm.Cond} {L : List Jvm.Cond} (h0 : c.before a s = true) (h : ∀ w ∈ L, w.before a s = true) : ∀ w ∈ c :: L, w.before a s = true := fun w hw => (List.mem_cons.mp hw).elim (fun e => e ▸ h0) (h w)
/-- the bytes of the chars cs, low before high -/
def wideBytes : List Int32 → List Value
  | [] => []
  | c :: cs => .int (lo8 c) :: .int (hi8 c) :: wideBytes cs
theorem wide_lo (d : Value) : ∀ (cs : List Int32) (j : Nat), j < cs.length → (wideBytes cs).getD (2 * j) d = .int (lo8 (cs.getD j 0))
  | [], j, h => absurd h (Nat.not_lt_zero j)
  | c :: cs, 0, _ => rfl
  | c :: cs, j + 1, h => by
    have q := wide_lo d cs j (by simpa using h)
    rw [show 2 * (j + 1) = 2 * j + 1 + 1 from by omega]
    simpa [wideBytes] using q
theorem wide_hi (d : Value) : ∀ (cs : List Int32) (j : Nat), j < cs.length → (wideBytes cs).getD (2 * j + 1) d = .int (hi8 (cs.getD j 0))
  | [], j, h => absurd h (Nat.not_lt_zero j)
  | c :: cs, 0, _ => rfl
  | c :: cs, j + 1, h => by
    have q := wide_hi d cs j (by simpa using h)
    rw [show 2 * (j + 1) + 1 = 2 * j + 1 + 1 + 1 from by omega]
    simpa [wideBytes] using q
theorem low_at (d : Value) (cs : List Int32) (j : Nat) (h : j < cs.length) : (cs.map fun c => Value.int (lo8 c)).getD j d = .int (lo8 (cs.getD j 0)) := by
  simp [List.getD_eq_getElem?_getD, h]
/-- an array of N2 bytes vs codes the chars cs by the coder cd -/
def CodA (cs : List Int32) (cd N2 : Int32) (vs : List Value) : Prop := (cd = 0 ∧ N2 = Int32.ofNat cs.length ∧ vs = (cs.map fun c => Value.int (lo8 c)) ∧ ∀ c ∈ cs, ¬ 255 < c) ∨ (cd = 1 ∧ N2 = Int32.ofNat (2 * cs.length) ∧ vs = wideBytes cs ∧ ∃ c ∈ cs, 255 < c)
theorem CodA.cod {cs : List Int32} {cd N2 : Int32} {vs : List Value} {V : Cell} (h : CodA cs cd N2 vs) (hn : 2 * cs.length < 2 ^ 31) (hs : V.slots.size = N2.toNatClampNeg) (hv : RoadKit.Has V vs (.int 0)) : Cod cd cs.length (fun j => cs.getD j 0) V := by
  rcases h with ⟨rfl, rfl, rfl, h⟩ | ⟨rfl, rfl, rfl, c, hc, hw⟩
  · rw [n32 (by omega)] at hs
    exact Or.inl ⟨rfl, hs, fun j hj => ⟨by rw [hv j (by omega), low_at _ _ _ hj], by
      have e : cs.getD j 0 = cs[j] := by simp [List.getD_eq_getElem?_getD, hj]
      show ¬ 255 < cs.getD j 0
      rw [e]; exact h _ (List.getElem_mem _)⟩⟩
  · rw [n32 (by omega)] at hs
    obtain ⟨j, hj, rfl⟩ := List.getElem_of_mem hc
    exact Or.inr ⟨rfl, hs, fun j hj => ⟨by rw [hv _ (by omega), wide_lo _ _ _ hj], by rw [hv _ (by omega), wide_hi _ _ _ hj]⟩, j, hj, by
      have e : cs.getD j 0 = cs[j] := by simp [List.getD_eq_getElem?_getD, hj]
      show 255 < cs.getD j 0
      rw [e]; exact hw⟩
/-- an object of exactly java/lang/String, its two fields found: as the laws ask it -/
theorem strObj {Z U : State} {a0 : Array Value} {kI : Nat} (wi : (Jvm.Cond.instantiable ST kI).before a0 Z = true) (al : Z.vm.Alike U.vm) {x : Addr} {v0 c0 : Value} (E : RoadKit.Exa Z U.heap x ST) (V : RoadKit.Fld Z U.heap x ST "value" "[B" v0) (C : RoadKit.Fld Z U.heap x ST "coder" "B" c0) :
    ∃ (D : Cell) (fV fC : Field), Blank ST x D U ∧ Found ST "value" "[B" fV U ∧ Found ST "coder" "B" fC U ∧ D.slots[fV.slot]? = some v0 ∧ D.slots[fC.slot]? = some c0 ∧ RoadKit.slotOf Z ST "value" "[B" = fV.slot ∧ RoadKit.slotOf Z ST "coder" "B" = fC.slot := by
  obtain ⟨D, cfV, kV, iV, fV, hD, gV, stV, knV, obV, asV, slV⟩ := V
  obtain ⟨D', cfC, kC, iC, fC, hD', gC, stC, -, -, asC, slC⟩ := C
  cases hD.symm.trans hD'
  obtain ⟨D2, kD, e1, e2, e3, e4, e5⟩ := E
  cases hD.symm.trans e1
  obtain ⟨c2, k2, i1, i2, i3, -⟩ := Cond.instantiable_spec wi
  cases e2.symm.trans i1
  cases e3.symm.trans i2
  obtain ⟨kU, u1, u2⟩ := al.2.2 _ _ e3
  exact ⟨D, fV, fC, ⟨hD, ⟨knV, fun q hq => by rw [hq] at obV; cases obV⟩, by rw [al.findClass]; exact e2, kU, u1, by rw [u2]; exact i3, by rw [u2]; exact e5 i3⟩, ⟨SBG.found_only al ⟨cfV, kV, iV, gV⟩, stV⟩, ⟨SBG.found_only al ⟨cfC, kC, iC, gC⟩, stC⟩, slV, slC, by simp [RoadKit.slotOf, gV], by simp [RoadKit.slotOf, gC]⟩
theorem sta_is {Z U : State} (al : Z.vm.Alike U.vm) {C n d : String} {v : Value} (S : RoadKit.Sta Z U.heap C n d v) : StaticIs U C n d v := by
  obtain ⟨cfS, iS, kS, fS, st, cS, t1, t2, t3, t4, t5, t6, t7⟩ := S
  exact StaticIs.there (s := { Z with heap := U.heap }) ⟨cfS, iS, kS, fS, st, cS, t1, t2, t3, t4, t5, (fun q => by rw [q] at t6; cases t6), t7⟩ al rfl
end StrChars.Road
namespace StrChars
open Jvm Sem ClassFile Op Lib Jvm.Stand Jvm.Free.XT Jvm.Free.ALB Jvm.Free.JM Jvm.Free
open Jvm.Lib.Cold (StaticIs)
/-- what place i of a byte[]'s cell holds -/
def yv (A : Cell) (i : Nat) : Int32 := match A.slots[i]? with | some (.int x) => x | _ => 0
theorem yv_get {a : Addr} {A : Cell} {U : State} (h : XT.Arr .byte a A U) (ht : Typed .byte A) {i : Nat} (hi : i < A.slots.size) : A.slots[i]? = some (.int (yv A i)) := by
  have e := Array.getElem?_eq_getElem hi
  have f := ht i _ e
  unfold yv; rw [e]
  generalize A.slots[i] = v at f
  cases v <;> simp [fits] at f ⊢
/-- the two arrays are equal, place for place -/
def EqC (A B : Cell) : Prop := A.slots.size = B.slots.size ∧ ∀ i, i < A.slots.size → yv A i = yv B i
/-- a boolean that says whether p -/
def Says01 (q : Prop) (r : Option Value) (s u : State) : Prop := ∃ v : Int32, r = some (.int v) ∧ u.heap = s.heap ∧ ((v = 1 ∧ q) ∨ (v = 0 ∧ ¬ q))
theorem Says01.mv {q : Prop} : ∀ r (U U' V V' : State), U'.heap = U.heap → V.vm.Alike V'.vm → V'.heap = V.heap → Says01 q r U V → Says01 q r U' V' :=
  fun r U U' V V' h1 _ h2 ⟨v, a, b, c⟩ => ⟨v, a, by rw [h1, h2]; exact b, c⟩
namespace LEq
def yN : MethodName := ⟨"java/lang/StringLatin1", "equals", "([B[B)Z"⟩
abbrev yB : ByteArray := jdk_43_method_13_code
theorem d0 : decode yB 0 = .ok (.aload_n 0, 1) := by decide +kernel
theorem d1 : decode yB 1 = .ok (.arraylength, 1) := by decide +kernel
theorem d2 : decode yB 2 = .ok (.aload_n 1, 1) := by decide +kernel
theorem d3 : decode yB 3 = .ok (.arraylength, 1) := by decide +kernel
theorem d4 : decode yB 4 = .ok (.if_icmp (.ne) 30, 3) := by decide +kernel
theorem d7 : decode yB 7 = .ok (.iconst 0, 1) := by decide +kernel
theorem d8 : decode yB 8 = .ok (.istore_n 2, 1) := by decide +kernel
theorem d9 : decode yB 9 = .ok (.iload_n 2, 1) := by decide +kernel
theorem d10 : decode yB 10 = .ok (.aload_n 0, 1) := by decide +kernel
theorem d11 : decode yB 11 = .ok (.arraylength, 1) := by decide +kernel
theorem d12 : decode yB 12 = .ok (.if_icmp (.ge) 20, 3) := by decide +kernel
theorem d15 : decode yB 15 = .ok (.aload_n 0, 1) := by decide +kernel
theorem d16 : decode yB 16 = .ok (.iload_n 2, 1) := by decide +kernel
theorem d17 : decode yB 17 = .ok (.baload, 1) := by decide +kernel
theorem d18 : decode yB 18 = .ok (.aload_n 1, 1) := by decide +kernel
theorem d19 : decode yB 19 = .ok (.iload_n 2, 1) := by decide +kernel
theorem d20 : decode yB 20 = .ok (.baload, 1) := by decide +kernel
theorem d21 : decode yB 21 = .ok (.if_icmp (.eq) 5, 3) := by decide +kernel
theorem d24 : decode yB 24 = .ok (.iconst 0, 1) := by decide +kernel
theorem d25 : decode yB 25 = .ok (.ireturn, 1) := by decide +kernel
theorem d26 : decode yB 26 = .ok (.iinc 2 1, 3) := by decide +kernel
theorem d29 : decode yB 29 = .ok (.goto (-20), 3) := by decide +kernel
theorem d32 : decode yB 32 = .ok (.iconst 1, 1) := by decide +kernel
theorem d33 : decode yB 33 = .ok (.ireturn, 1) := by decide +kernel
theorem d34 : decode yB 34 = .ok (.iconst 0, 1) := by decide +kernel
theorem d35 : decode yB 35 = .ok (.ireturn, 1) := by decide +kernel
def site : List Cond := []
def tab : Cond := tabOf yN yB 3 (some .boolean) site
def P (a : Addr) (A : Cell) (b : Addr) (B : Cell) (args : Array Value) (s : State) : Prop := args = #[.ref a, .ref b] ∧ XT.Arr .byte a A s ∧ Typed .byte A ∧ XT.Arr .byte b B s ∧ Typed .byte B
/-- whether two byte[] are equal, place for place -/
theorem law (l : Launch) (a : Addr) (A : Cell) (b : Addr) (B : Cell) : Law l yN 2 2 0 0 yB 3 (some .boolean) site (P a A b B) (Says01 (EqC A B)) [] 0 0 := by
  refine Law.of_walk (plainFor_of_name (by decide +kernel)) (by decide +kernel) (by decide +kernel) (by decide) (fun _ _ h => by rw [h.1]; rfl) (fun _ U U' hal hh h => ⟨h.1, h.2.1.mv hal hh, h.2.2.1, h.2.2.2.1.mv hal hh, h.2.2.2.2⟩) (fun r U U' V V' h1 hal h2 h => Says01.mv r U U' V V' h1 hal h2 h) ?_
  intro p e s m args below meth c s₁ X0 hexec hbytes hml hret hlk hnm hown hh0 W hP
  obtain ⟨rfl, hA, tA, hB, tB⟩ := hP
  have a31 := hA.2.2.2
  have b31 := hB.2.2.2
  have hA0 := hA.mv X0.warmed.alike hh0
  have hB0 := hB.mv X0.warmed.alike hh0
  have c1 : Steps p.tables e below (s₁.setTop (entryFrame m #[.ref a, .ref b] 3)) (s₁.setTop (mkF m 0 #[.val (.ref a), .val (.ref b), .unset] [])) := entry rfl
  have c2 : Steps p.tables e below (s₁.setTop (entryFrame m #[.ref a, .ref b] 3)) (s₁.setTop (mkF m 4 #[.val (.ref a), .val (.ref b), .unset] [.int (Int32.ofNat B.slots.size), .int (Int32.ofNat A.slots.size)])) := c1.trans (by
    refine XS.aloadN X0.here hexec rfl (hb hbytes d0) rfl rfl ?_
    refine X0.alen hexec hA0 rfl rfl (hb hbytes d1) ?_
    refine XS.aloadN X0.here hexec rfl (hb hbytes d2) rfl rfl ?_
    refine X0.alen hexec hB0 rfl rfl (hb hbytes d3) ?_
    exact Steps.refl _)
  by_cases hs : A.slots.size = B.slots.size
  · have c3 : Steps p.tables e below (s₁.setTop (entryFrame m #[.ref a, .ref b] 3)) (s₁.setTop (mkF m 9 #[.val (.ref a), .val (.ref b), .val (.int 0)] [])) := c2.trans (by
      refine XS.icmpNo X0.here hexec rfl (hb hbytes d4) rfl (ii_ne_f (by rw [hs])) ?_
      refine iconstV X0.here hexec rfl 0 (hb hbytes d7) (by decide) ?_
      refine XS.istoreN X0.here hexec rfl (hb hbytes d8) rfl rfl ?_
      exact Steps.refl _)
    have loop : ∀ (r i : Nat), i + r = A.slots.size → (∀ j, j < i → yv A j = yv B j) → Steps p.tables e below (s₁.setTop (entryFrame m #[.ref a, .ref b] 3)) (s₁.setTop (mkF m 9 #[.val (.ref a), .val (.ref b), .val (.int (Int32.ofNat i))] [])) → ∃ (pc : Nat) (Ls : Array Slot) (v : Int32), (pc = 25 ∨ pc = 33) ∧ ((v = 1 ∧ EqC A B) ∨ (v = 0 ∧ ¬ EqC A B)) ∧ Steps p.tables e below (s₁.setTop (entryFrame m #[.ref a, .ref b] 3)) (s₁.setTop (mkF m pc Ls [.int v])) := by
      intro r
      induction r with
      | zero =>
        intro i hi he cl
        exact ⟨33, _, 1, Or.inr rfl, Or.inl ⟨rfl, hs, fun j hj => he j (by omega)⟩, cl.trans (by
          refine XS.iloadN X0.here hexec rfl (hb hbytes d9) rfl ?_
          refine XS.aloadN X0.here hexec rfl (hb hbytes d10) rfl rfl ?_
          refine X0.alen hexec hA0 rfl rfl (hb hbytes d11) ?_
          refine XS.icmpYes X0.here hexec rfl (pc0 := 12) rfl (hb hbytes d12) rfl (ii_ge_t (nlt32 (by omega) (by omega))) (by decide) rfl ?_
          refine iconstV X0.here hexec rfl 1 (hb hbytes d32) (by decide) ?_
          exact Steps.refl _)⟩
      | succ r ih =>
        intro i hi he cl
        have c4 : Steps p.tables e below (s₁.setTop (entryFrame m #[.ref a, .ref b] 3)) (s₁.setTop (mkF m 21 #[.val (.ref a), .val (.ref b), .val (.int (Int32.ofNat i))] [.int (yv B i), .int (yv A i)])) := cl.trans (by
          refine XS.iloadN X0.here hexec rfl (hb hbytes d9) rfl ?_
          refine XS.aloadN X0.here hexec rfl (hb hbytes d10) rfl rfl ?_
          refine X0.alen hexec hA0 rfl rfl (hb hbytes d11) ?_
          refine XS.icmpNo X0.here hexec rfl (hb hbytes d12) rfl (ii_ge_f (lt32 (by omega) (by omega))) ?_
          refine XS.aloadN X0.here hexec rfl (hb hbytes d15) rfl rfl ?_
          refine XS.iloadN X0.here hexec rfl (hb hbytes d16) rfl ?_
          refine X0.aget hexec hA0 rfl (yv_get hA tA (i := i) (by omega)) rfl rfl (hb hbytes d17) ?_
          refine XS.aloadN X0.here hexec rfl (hb hbytes d18) rfl rfl ?_
          refine XS.iloadN X0.here hexec rfl (hb hbytes d19) rfl ?_
          refine X0.aget hexec hB0 rfl (yv_get hB tB (i := i) (by omega)) rfl rfl (hb hbytes d20) ?_
          exact Steps.refl _)
        by_cases hv : yv A i = yv B i
        · have c5 : Steps p.tables e below (s₁.setTop (entryFrame m #[.ref a, .ref b] 3)) (s₁.setTop (mkF m 9 #[.val (.ref a), .val (.ref b), .val (.int (Int32.ofNat i + 1))] [])) := c4.trans (by
            refine XS.icmpYes X0.here hexec rfl (pc0 := 21) rfl (hb hbytes d21) rfl (ii_eq_t hv) (by decide) rfl ?_
            refine iincV X0.here hexec rfl 1 (hb hbytes d26) (by decide) rfl rfl ?_
            refine XS.goto X0.here hexec rfl (pc0 := 29) rfl (hb hbytes d29) (by decide) rfl ?_
            exact Steps.refl _)
          rw [succ32] at c5
          exact ih (i + 1) (by omega) (fun j hj => by
            by_cases e : j = i
            · rw [e]; exact hv
            · exact he j (by omega)) c5
        · exact ⟨25, _, 0, Or.inl rfl, Or.inr ⟨rfl, fun q => hv (q.2 i (by omega))⟩, c4.trans (by
            refine XS.icmpNo X0.here hexec rfl (hb hbytes d21) rfl (ii_eq_f hv) ?_
            refine iconstV X0.here hexec rfl 0 (hb hbytes d24) (by decide) ?_
            exact Steps.refl _)⟩
    obtain ⟨pc, Ls, v, hpc, hv, cz⟩ := loop A.slots.size 0 (by omega) (fun j hj => absurd hj (Nat.not_lt_zero j)) c3
    have nv : narrow .boolean (.int v) = .int v := by rcases hv with ⟨rfl, -⟩ | ⟨rfl, -⟩ <;> rfl
    rcases hpc with rfl | rfl
    · exact ⟨s₁, some (.int v), _, _, _, X0, rfl, rfl, rfl, (fun h => by cases h), ⟨v, rfl, hh0, hv⟩, fun fs hl => cz.trans (X0.ireturnOut hexec hret nv (Or.inr (Or.inl rfl)) (hb hbytes d25) hl)⟩
    · exact ⟨s₁, some (.int v), _, _, _, X0, rfl, rfl, rfl, (fun h => by cases h), ⟨v, rfl, hh0, hv⟩, fun fs hl => cz.trans (X0.ireturnOut hexec hret nv (Or.inr (Or.inl rfl)) (hb hbytes d33) hl)⟩
  · have c3 : Steps p.tables e below (s₁.setTop (entryFrame m #[.ref a, .ref b] 3)) (s₁.setTop (mkF m 35 #[.val (.ref a), .val (.ref b), .unset] [.int 0])) := c2.trans (by
      refine XS.icmpYes X0.here hexec rfl (pc0 := 4) rfl (hb hbytes d4) rfl (ii_ne_t (ne32 a31 b31 hs)) (by decide) rfl ?_
      refine iconstV X0.here hexec rfl 0 (hb hbytes d34) (by decide) ?_
      exact Steps.refl _)
    exact ⟨s₁, some (.int 0), _, _, _, X0, rfl, rfl, rfl, (fun h => by cases h), ⟨0, rfl, hh0, Or.inr ⟨rfl, fun q => hs q.1⟩⟩, fun fs hl => c3.trans (X0.ireturnOut hexec hret rfl (Or.inr (Or.inl rfl)) (hb hbytes d35) hl)⟩
end LEq
theorem Cod.ty {cd : Int32} {n : Nat} {f : Nat → Int32} {V : Cell} (h : Cod cd n f V) : Typed .byte V := fun i v hv => by
  have hi : i < V.slots.size := (Array.getElem?_eq_some_iff.mp hv).1
  rcases h with ⟨-, k1, k2⟩ | ⟨-, k1, k2, -⟩
  · rw [(k2 i (by omega)).1] at hv; cases hv; exact fits_lo8 _
  · rcases Nat.mod_two_eq_zero_or_one i with e | e
    · obtain ⟨j, rfl⟩ : ∃ j, i = 2 * j := ⟨i / 2, by omega⟩
      rw [(k2 j (by omega)).1] at hv; cases hv; exact fits_lo8 _
    · obtain ⟨j, rfl⟩ : ∃ j, i = 2 * j + 1 := ⟨i / 2, by omega⟩
      rw [(k2 j (by omega)).2] at hv; cases hv; exact fits_lo8 _
/-- the same text -/
def SameT (n : Nat) (f : Nat → Int32) (k : Nat) (g : Nat → Int32) : Prop := n = k ∧ ∀ j, j < n → f j = g j
theorem lo8_inj {x y : Int32} (h0 : ¬ x < 0) (h1 : ¬ 255 < x) (k0 : ¬ y < 0) (k1 : ¬ 255 < y) (h : lo8 x = lo8 y) : x = y := by
  rw [← lo8_mask h0 h1, ← lo8_mask k0 k1, h]
/-- arrays coded by one coder are equal just where the texts are -/
theorem Cod.eqv {cd : Int32} {n k : Nat} {f g : Nat → Int32} {V V' : Cell} (h : Cod cd n f V) (h' : Cod cd k g V') (hf : ∀ j, j < n → ¬ f j < 0 ∧ ¬ 65535 < f j) (hg : ∀ j, j < k → ¬ g j < 0 ∧ ¬ 65535 < g j) : EqC V V' ↔ SameT n f k g := by
  have yvv : ∀ {W : Cell} {i : Nat} {x : Int32}, W.slots[i]? = some (.int x) → yv W i = x := fun q => by unfold yv; rw [q]
  rcases h with ⟨rfl, k1, k2⟩ | ⟨rfl, k1, k2, -⟩
  · rcases h' with ⟨-, m1, m2⟩ | ⟨e, -⟩
    · constructor
      · rintro ⟨e1, e2⟩
        refine ⟨by omega, fun j hj => ?_⟩
        have q := e2 j (by omega)
        rw [yvv (k2 j hj).1, yvv (m2 j (by omega)).1] at q
        exact lo8_inj (hf j hj).1 (k2 j hj).2 (hg j (by omega)).1 (m2 j (by omega)).2 q
      · rintro ⟨rfl, e2⟩
        refine ⟨by omega, fun j hj => ?_⟩
        rw [yvv (k2 j (by omega)).1, yvv (m2 j (by omega)).1, e2 j (by omega)]
    · exact absurd e (by decide)
  · rcases h' with ⟨e, -⟩ | ⟨-, m1, m2, -⟩
    · exact absurd e (by decide)
    · constructor
      · rintro ⟨e1, e2⟩
        refine ⟨by omega, fun j hj => ?_⟩
        have q1 := e2 (2 * j) (by omega)
        have q2 := e2 (2 * j + 1) (by omega)
        rw [yvv (k2 j hj).1, yvv (m2 j (by omega)).1] at q1
        rw [yvv (k2 j hj).2, yvv (m2 j (by omega)).2] at q2
        rw [← pair_says (hf j hj).1 (hf j hj).2, ← pair_says (hg j (by omega)).1 (hg j (by omega)).2, q1, q2]
      · rintro ⟨rfl, e2⟩
        refine ⟨by omega, fun i hi => ?_⟩
        rcases Nat.mod_two_eq_zero_or_one i with e | e
        · obtain ⟨j, rfl⟩ : ∃ j, i = 2 * j := ⟨i / 2, by omega⟩
          rw [yvv (k2 j (by omega)).1, yvv (m2 j (by omega)).1, e2 j (by omega)]
        · obtain ⟨j, rfl⟩ : ∃ j, i = 2 * j + 1 := ⟨i / 2, by omega⟩
          rw [yvv (k2 j (by omega)).2, yvv (m2 j (by omega)).2, e2 j (by omega)]
/-- two codings differ: so do the texts -/
theorem Cod.dif {cd cd' : Int32} {n k : Nat} {f g : Nat → Int32} {V V' : Cell} (h : Cod cd n f V) (h' : Cod cd' k g V') (hne : ¬ cd = cd') : ¬ SameT n f k g := by
  rintro ⟨rfl, e⟩
  rcases h with ⟨rfl, -, k2⟩ | ⟨rfl, -, -, j, hj, hw⟩
  · rcases h' with ⟨rfl, -⟩ | ⟨-, -, -, j, hj, hw⟩
    · exact hne rfl
    · exact (k2 j hj).2 (by rw [e j hj]; exact hw)
  · rcases h' with ⟨-, -, m2⟩ | ⟨rfl, -⟩
    · exact (m2 j hj).2 (by rw [← e j hj]; exact hw)
    · exact hne rfl
/-- an object of exactly C is an instance of C -/
theorem cinst {p : Program} {l : Launch} {e : Env} {R : Room} {s : State} {m : MethodId} {args : Array Value} {below : List Frame} {meth : Method} {c : Code} {T : State} {locs : List Loc} {cells slots : Nat} (X : Stand p l e R s m args below meth c T locs cells slots) (hexec : p.tables.exec = Jvm.exec) {own C : String} {index : Nat} (hown : s.vm.findClass own = some m.cls) (hlink : (Cond.classLink own index C).before args s = true) {a : Addr} (hE : Exact C a T)
    {g : JFrame} (hg : g.method = m) {rest : List Value} (hstack : g.stack = .ref a :: rest) (hdg : decode c.code g.pc = .ok (.instanceof index, 3)) :
    ∃ T', Stand p l e R s m args below meth c T' locs cells slots ∧ T'.heap = T.heap ∧ ∀ target, Steps p.tables e below (T'.setTop { g with pc := g.pc + 3, stack := .int 1 :: rest }) target → Steps p.tables e below (T.setTop g) target := by
  obtain ⟨cB, h1, D, h2, h3, h4⟩ := hE
  have h1' : s.vm.findClass C = some cB := by rw [← X.warmed.alike.findClass]; exact h1
  obtain ⟨vm', X', st⟩ := X.instanceofYes hexec hown hlink h2 h4 h1' (by rw [h3]; exact Jvm.Free.SB.assignable_self _ _) hg hstack hdg
  exact ⟨_, X', rfl, st⟩
theorem cself {p : Program} {l : Launch} {e : Env} {R : Room} {s : State} {m : MethodId} {args : Array Value} {below : List Frame} {meth : Method} {c : Code} {T : State} {locs : List Loc} {cells slots : Nat} (X : Stand p l e R s m args below meth c T locs cells slots) (hexec : p.tables.exec = Jvm.exec) {own C : String} {index : Nat} (hown : s.vm.findClass own = some m.cls) (hlink : (Cond.classLink own index C).before args s = true) {a : Addr} (hE : Exact C a T)
    {g : JFrame} (hg : g.method = m) {rest : List Value} (hstack : g.stack = .ref a :: rest) (hdg : decode c.code g.pc = .ok (.checkcast index, 3)) :
    ∃ T', Stand p l e R s m args below meth c T' locs cells slots ∧ T'.heap = T.heap ∧ ∀ target, Steps p.tables e below (T'.setTop { g with pc := g.pc + 3, stack := .ref a :: rest }) target → Steps p.tables e below (T.setTop g) target := by
  obtain ⟨cB, h1, D, h2, h3, h4⟩ := hE
  have h1' : s.vm.findClass C = some cB := by rw [← X.warmed.alike.findClass]; exact h1
  obtain ⟨vm', X', st⟩ := X.checkcastYes hexec hown hlink h2 h4 h1' (by rw [h3]; exact Jvm.Free.SB.assignable_self _ _) hg hstack hdg
  exact ⟨_, X', rfl, fun t h => st t (by rw [← hstack] at h; exact h)⟩
namespace SEq
def yN : MethodName := ⟨"java/lang/String", "equals", "(Ljava/lang/Object;)Z"⟩
abbrev yB : ByteArray := jdk_42_method_66_code
theorem d0 : decode yB 0 = .ok (.aload_n 0, 1) := by decide +kernel
theorem d1 : decode yB 1 = .ok (.aload_n 1, 1) := by decide +kernel
theorem d2 : decode yB 2 = .ok (.if_acmp (.ne) 5, 3) := by decide +kernel
theorem d5 : decode yB 5 = .ok (.iconst 1, 1) := by decide +kernel
theorem d6 : decode yB 6 = .ok (.ireturn, 1) := by decide +kernel
theorem d7 : decode yB 7 = .ok (.aload_n 1, 1) := by decide +kernel
theorem d8 : decode yB 8 = .ok (.instanceof 10, 3) := by decide +kernel
theorem d11 : decode yB 11 = .ok (.ifCond (.eq) 43, 3) := by decide +kernel
theorem d14 : decode yB 14 = .ok (.aload_n 1, 1) := by decide +kernel
theorem d15 : decode yB 15 = .ok (.checkcast 10, 3) := by decide +kernel
theorem d18 : decode yB 18 = .ok (.astore_n 2, 1) := by decide +kernel
theorem d19 : decode yB 19 = .ok (.getstatic 38, 3) := by decide +kernel
theorem d22 : decode yB 22 = .ok (.ifCond (.eq) 14, 3) := by decide +kernel
theorem d25 : decode yB 25 = .ok (.aload_n 0, 1) := by decide +kernel
theorem d26 : decode yB 26 = .ok (.getfield 15, 3) := by decide +kernel
theorem d29 : decode yB 29 = .ok (.aload_n 2, 1) := by decide +kernel
theorem d30 : decode yB 30 = .ok (.getfield 15, 3) := by decide +kernel
theorem d33 : decode yB 33 = .ok (.if_icmp (.ne) 21, 3) := by decide +kernel
theorem d36 : decode yB 36 = .ok (.aload_n 0, 1) := by decide +kernel
theorem d37 : decode yB 37 = .ok (.getfield 9, 3) := by decide +kernel
theorem d40 : decode yB 40 = .ok (.aload_n 2, 1) := by decide +kernel
theorem d41 : decode yB 41 = .ok (.getfield 9, 3) := by decide +kernel
theorem d44 : decode yB 44 = .ok (.invokestatic 541, 3) := by decide +kernel
theorem d47 : decode yB 47 = .ok (.ifCond (.eq) 7, 3) := by decide +kernel
theorem d50 : decode yB 50 = .ok (.iconst 1, 1) := by decide +kernel
theorem d51 : decode yB 51 = .ok (.goto 4, 3) := by decide +kernel
theorem d54 : decode yB 54 = .ok (.iconst 0, 1) := by decide +kernel
theorem d55 : decode yB 55 = .ok (.ireturn, 1) := by decide +kernel
def site : List Cond := [.classLink "java/lang/String" 10 "java/lang/String", .fieldLink "java/lang/String" 38 "java/lang/String" "COMPACT_STRINGS" "Z", .fieldLink "java/lang/String" 15 "java/lang/String" "coder" "B", .fieldLink "java/lang/String" 9 "java/lang/String" "value" "[B", LEq.tab] ++ staticW "java/lang/String" 541 LEq.yN
def tab : Cond := tabOf yN yB 3 (some .boolean) site
def P (x t : Addr) (V : Cell) (cd : Int32) (n : Nat) (f : Nat → Int32) (y t' : Addr) (V' : Cell) (cd' : Int32) (k : Nat) (g : Nat → Int32) (z : Int32) (args : Array Value) (s : State) : Prop := args = #[.ref x, .ref y] ∧ Txt x t V cd n f s ∧ Txt y t' V' cd' k g s ∧ StaticIs s "java/lang/String" "COMPACT_STRINGS" "Z" (.int z) ∧ ¬ z = 0
/-- equals(Object) of two Strings: whether the texts are the same -/
theorem law (l : Launch) (x t : Addr) (V : Cell) (cd : Int32) (n : Nat) (f : Nat → Int32) (y t' : Addr) (V' : Cell) (cd' : Int32) (k : Nat) (g : Nat → Int32) (z : Int32) : Law l yN 2 1 1 14 yB 3 (some .boolean) site (P x t V cd n f y t' V' cd' k g z) (Says01 (SameT n f k g)) [] 0 0 := by
  refine Law.of_walk (plainFor_of_name (by decide +kernel)) (by decide +kernel) (by decide +kernel) (by decide) (fun _ _ h => by rw [h.1]; rfl) (fun _ U U' hal hh h => ⟨h.1, h.2.1.mv hal hh, h.2.2.1.mv hal hh, h.2.2.2.1.there hal hh, h.2.2.2.2⟩) (fun r U U' V V' h1 hal h2 h => Says01.mv r U U' V V' h1 hal h2 h) ?_
  intro p e s m args below meth c s₁ X0 hexec hbytes hml hret hlk hnm hown hh0 W hP
  obtain ⟨rfl, hx, hy, s1, hz⟩ := hP
  have c1 : Steps p.tables e below (s₁.setTop (entryFrame m #[.ref x, .ref y] 3)) (s₁.setTop (mkF m 2 #[.val (.ref x), .val (.ref y), .unset] [.ref y, .ref x])) := Steps.trans (entry rfl) (by
    show Steps p.tables e below (s₁.setTop (mkF m 0 #[.val (.ref x), .val (.ref y), .unset] [])) _
    refine XS.aloadN X0.here hexec rfl (hb hbytes d0) rfl rfl ?_
    refine XS.aloadN X0.here hexec rfl (hb hbytes d1) rfl rfl ?_
    exact Steps.refl _)
  by_cases hxy : x = y
  · have c2 : Steps p.tables e below (s₁.setTop (entryFrame m #[.ref x, .ref y] 3)) (s₁.setTop (mkF m 6 #[.val (.ref x), .val (.ref y), .unset] [.int 1])) := c1.trans (by
      refine acmpNo X0.here hexec rfl (hb hbytes d2) rfl rfl rfl (by simp [acmp, hxy]) ?_
      refine iconstV X0.here hexec rfl 1 (hb hbytes d5) (by decide) ?_
      exact Steps.refl _)
    subst hxy
    have ec : cd = cd' := by
      obtain ⟨D, fd, a1, a2, a3⟩ := hx.2.2.1
      obtain ⟨D', fd', b1, b2, b3⟩ := hy.2.2.1
      cases a1.symm.trans b1
      obtain ⟨q1, q2, q3, q4⟩ := a2.1
      obtain ⟨r1, r2, r3, r4⟩ := b2.1
      cases q4.symm.trans r4
      cases a3.symm.trans b3; rfl
    have et : t = t' := by
      obtain ⟨D, fd, a1, a2, a3⟩ := hx.2.1
      obtain ⟨D', fd', b1, b2, b3⟩ := hy.2.1
      cases a1.symm.trans b1
      obtain ⟨q1, q2, q3, q4⟩ := a2.1
      obtain ⟨r1, r2, r3, r4⟩ := b2.1
      cases q4.symm.trans r4
      cases a3.symm.trans b3; rfl
    subst ec et
    have ev : V = V' := by cases hx.2.2.2.1.1.symm.trans hy.2.2.2.1.1; rfl
    subst ev
    have hs : SameT n f k g := (Cod.eqv hx.2.2.2.2.1 hy.2.2.2.2.1 hx.2.2.2.2.2 hy.2.2.2.2.2).mp ⟨rfl, fun _ _ => rfl⟩
    exact ⟨s₁, some (.int 1), _, _, _, X0, rfl, rfl, rfl, (fun h => by cases h), ⟨1, rfl, hh0, Or.inl ⟨rfl, hs⟩⟩, fun fs hl => c2.trans (X0.ireturnOut hexec hret rfl (Or.inr (Or.inl rfl)) (hb hbytes d6) hl)⟩
  · have c2 : Steps p.tables e below (s₁.setTop (entryFrame m #[.ref x, .ref y] 3)) (s₁.setTop (mkF m 8 #[.val (.ref x), .val (.ref y), .unset] [.ref y])) := c1.trans (by
      refine acmpYes X0.here hexec rfl (pc0 := 2) rfl (hb hbytes d2) rfl rfl rfl (by simp [acmp, hxy]) (by decide) rfl ?_
      refine XS.aloadN X0.here hexec rfl (hb hbytes d7) rfl rfl ?_
      exact Steps.refl _)
    obtain ⟨T3, X3, q3, st3⟩ := cinst X0 hexec hown (wk W (.classLink "java/lang/String" 10 "java/lang/String")) (hy.mv X0.warmed.alike hh0).1 (g := (mkF m 8 #[.val (.ref x), .val (.ref y), .unset] [.ref y])) rfl (rest := []) rfl (hb hbytes d8)
    have hh3 := q3.trans hh0
    have c4 : Steps p.tables e below (s₁.setTop (entryFrame m #[.ref x, .ref y] 3)) (T3.setTop (mkF m 15 #[.val (.ref x), .val (.ref y), .unset] [.ref y])) := (c2.trans (st3 _ (Steps.refl _))).trans (by
      refine XS.ifNo X3.here hexec rfl (hb hbytes d11) rfl (i0_eq_f (by decide)) ?_
      refine XS.aloadN X3.here hexec rfl (hb hbytes d14) rfl rfl ?_
      exact Steps.refl _)
    obtain ⟨T5, X5, q5, st5⟩ := cself X3 hexec hown (wk W (.classLink "java/lang/String" 10 "java/lang/String")) (hy.mv X3.warmed.alike hh3).1 (g := (mkF m 15 #[.val (.ref x), .val (.ref y), .unset] [.ref y])) rfl (rest := []) rfl (hb hbytes d15)
    have hh5 := q5.trans hh3
    have c6 : Steps p.tables e below (s₁.setTop (entryFrame m #[.ref x, .ref y] 3)) (T5.setTop (mkF m 19 #[.val (.ref x), .val (.ref y), .val (.ref y)] [])) := (c4.trans (st5 _ (Steps.refl _))).trans (by
      refine XS.astoreN X5.here hexec rfl (hb hbytes d18) rfl rfl rfl ?_
      exact Steps.refl _)
    obtain ⟨T7, X7, q7, st7⟩ := X5.sget hexec hown (wk W (.fieldLink "java/lang/String" 38 "java/lang/String" "COMPACT_STRINGS" "Z")) s1 (fun _ _ h => by rw [hh5]; exact h) (g := (mkF m 19 #[.val (.ref x), .val (.ref y), .val (.ref y)] [])) rfl (hb hbytes d19)
    have hh7 := q7.trans hh5
    have c8 : Steps p.tables e below (s₁.setTop (entryFrame m #[.ref x, .ref y] 3)) (T7.setTop (mkF m 26 #[.val (.ref x), .val (.ref y), .val (.ref y)] [.ref x])) := (c6.trans (st7 _ (Steps.refl _))).trans (by
      refine XS.ifNo X7.here hexec rfl (hb hbytes d22) rfl (i0_eq_f hz) ?_
      refine XS.aloadN X7.here hexec rfl (hb hbytes d25) rfl rfl ?_
      exact Steps.refl _)
    obtain ⟨T9, X9, q9, st9⟩ := X7.hget hexec hown (wk W (.fieldLink "java/lang/String" 15 "java/lang/String" "coder" "B")) (hx.mv X7.warmed.alike hh7).2.2.1 (g := (mkF m 26 #[.val (.ref x), .val (.ref y), .val (.ref y)] [.ref x])) rfl (rest := []) rfl (hb hbytes d26)
    have hh9 := q9.trans hh7
    have c10 : Steps p.tables e below (s₁.setTop (entryFrame m #[.ref x, .ref y] 3)) (T9.setTop (mkF m 30 #[.val (.ref x), .val (.ref y), .val (.ref y)] [.ref y, .int cd])) := (c8.trans (st9 _ (Steps.refl _))).trans (by
      refine XS.aloadN X9.here hexec rfl (hb hbytes d29) rfl rfl ?_
      exact Steps.refl _)
    obtain ⟨T11, X11, q11, st11⟩ := X9.hget hexec hown (wk W (.fieldLink "java/lang/String" 15 "java/lang/String" "coder" "B")) (hy.mv X9.warmed.alike hh9).2.2.1 (g := (mkF m 30 #[.val (.ref x), .val (.ref y), .val (.ref y)] [.ref y, .int cd])) rfl (rest := [.int cd]) rfl (hb hbytes d30)
    have hh11 := q11.trans hh9
    have c12 : Steps p.tables e below (s₁.setTop (entryFrame m #[.ref x, .ref y] 3)) (T11.setTop (mkF m 33 #[.val (.ref x), .val (.ref y), .val (.ref y)] [.int cd', .int cd])) := c10.trans (st11 _ (Steps.refl _))
    by_cases hcd : cd = cd'
    · subst hcd
      have c13 : Steps p.tables e below (s₁.setTop (entryFrame m #[.ref x, .ref y] 3)) (T11.setTop (mkF m 37 #[.val (.ref x), .val (.ref y), .val (.ref y)] [.ref x])) := c12.trans (by
        refine XS.icmpNo X11.here hexec rfl (hb hbytes d33) rfl (ii_ne_f rfl) ?_
        refine XS.aloadN X11.here hexec rfl (hb hbytes d36) rfl rfl ?_
        exact Steps.refl _)
      obtain ⟨T14, X14, q14, st14⟩ := X11.hget hexec hown (wk W (.fieldLink "java/lang/String" 9 "java/lang/String" "value" "[B")) (hx.mv X11.warmed.alike hh11).2.1 (g := (mkF m 37 #[.val (.ref x), .val (.ref y), .val (.ref y)] [.ref x])) rfl (rest := []) rfl (hb hbytes d37)
      have hh14 := q14.trans hh11
      have c15 : Steps p.tables e below (s₁.setTop (entryFrame m #[.ref x, .ref y] 3)) (T14.setTop (mkF m 41 #[.val (.ref x), .val (.ref y), .val (.ref y)] [.ref y, .ref t])) := (c13.trans (st14 _ (Steps.refl _))).trans (by
        refine XS.aloadN X14.here hexec rfl (hb hbytes d40) rfl rfl ?_
        exact Steps.refl _)
      obtain ⟨T16, X16, q16, st16⟩ := X14.hget hexec hown (wk W (.fieldLink "java/lang/String" 9 "java/lang/String" "value" "[B")) (hy.mv X14.warmed.alike hh14).2.1 (g := (mkF m 41 #[.val (.ref x), .val (.ref y), .val (.ref y)] [.ref y, .ref t])) rfl (rest := [.ref t]) rfl (hb hbytes d41)
      have hh16 := q16.trans hh14
      have c17 : Steps p.tables e below (s₁.setTop (entryFrame m #[.ref x, .ref y] 3)) (T16.setTop (mkF m 44 #[.val (.ref x), .val (.ref y), .val (.ref y)] [.ref t', .ref t])) := c15.trans (st16 _ (Steps.refl _))
      obtain ⟨v18, T18, X18, E18, g18⟩ := X16.callS hexec (LEq.law l t V t' V') hown (wks W (staticW "java/lang/String" 541 LEq.yN)) (wk W LEq.tab) (W := 0) (Nat.le_of_ble_eq_true rfl) (Nat.le_of_ble_eq_true rfl) (Nat.le_refl _) (Nat.le_refl _) (g := (mkF m 44 #[.val (.ref x), .val (.ref y), .val (.ref y)] [.ref t', .ref t])) rfl (by rw [hml]; rfl) c17 (argsL := [.ref t, .ref t']) (rest := []) rfl rfl (by show 2 * 0 + 0 ≤ _; decide) (hb hbytes d44) (⟨rfl, hx.2.2.2.1.mv X16.warmed.alike hh16, hx.2.2.2.2.1.ty, hy.2.2.2.1.mv X16.warmed.alike hh16, hy.2.2.2.2.1.ty⟩)
      obtain ⟨v, rfl, q18, hv⟩ := E18
      have iff := Cod.eqv hx.2.2.2.2.1 hy.2.2.2.2.1 hx.2.2.2.2.2 hy.2.2.2.2.2
      rcases hv with ⟨rfl, he⟩ | ⟨rfl, he⟩
      · have c19 : Steps p.tables e below (s₁.setTop (entryFrame m #[.ref x, .ref y] 3)) (T18.setTop (mkF m 55 #[.val (.ref x), .val (.ref y), .val (.ref y)] [.int 1])) := Steps.trans g18 (by
          refine XS.ifNo X18.here hexec rfl (hb hbytes d47) rfl (i0_eq_f (by decide)) ?_
          refine iconstV X18.here hexec rfl 1 (hb hbytes d50) (by decide) ?_
          refine XS.goto X18.here hexec rfl (pc0 := 51) rfl (hb hbytes d51) (by decide) rfl ?_
          exact Steps.refl _)
        exact ⟨T18, some (.int 1), _, _, _, X18, rfl, rfl, rfl, (fun h => by cases h), ⟨1, rfl, q18.trans hh16, Or.inl ⟨rfl, iff.mp he⟩⟩, fun fs hl => c19.trans (X18.ireturnOut hexec hret rfl (Or.inr (Or.inl rfl)) (hb hbytes d55) hl)⟩
      · have c19 : Steps p.tables e below (s₁.setTop (entryFrame m #[.ref x, .ref y] 3)) (T18.setTop (mkF m 55 #[.val (.ref x), .val (.ref y), .val (.ref y)] [.int 0])) := Steps.trans g18 (by
          refine XS.ifYes X18.here hexec rfl (pc0 := 47) rfl (hb hbytes d47) rfl (i0_eq_t rfl) (by decide) rfl ?_
          refine iconstV X18.here hexec rfl 0 (hb hbytes d54) (by decide) ?_
          exact Steps.refl _)
        exact ⟨T18, some (.int 0), _, _, _, X18, rfl, rfl, rfl, (fun h => by cases h), ⟨0, rfl, q18.trans hh16, Or.inr ⟨rfl, fun q => he (iff.mpr q)⟩⟩, fun fs hl => c19.trans (X18.ireturnOut hexec hret rfl (Or.inr (Or.inl rfl)) (hb hbytes d55) hl)⟩
    · have c13 : Steps p.tables e below (s₁.setTop (entryFrame m #[.ref x, .ref y] 3)) (T11.setTop (mkF m 55 #[.val (.ref x), .val (.ref y), .val (.ref y)] [.int 0])) := c12.trans (by
        refine XS.icmpYes X11.here hexec rfl (pc0 := 33) rfl (hb hbytes d33) rfl (ii_ne_t hcd) (by decide) rfl ?_
        refine iconstV X11.here hexec rfl 0 (hb hbytes d54) (by decide) ?_
        exact Steps.refl _)
      exact ⟨T11, some (.int 0), _, _, _, X11, rfl, rfl, rfl, (fun h => by cases h), ⟨0, rfl, hh11, Or.inr ⟨rfl, Cod.dif hx.2.2.2.2.1 hy.2.2.2.2.1 hcd⟩⟩, fun fs hl => c13.trans (X11.ireturnOut hexec hret rfl (Or.inr (Or.inl rfl)) (hb hbytes d55) hl)⟩
theorem pays {l : Launch} {R : Room} {p : Program} {e : Env} {below : List Frame} {s : State} {sargs : Array Value} {len W : Nat} (x t : Addr) (V : Cell) (cd : Int32) (n : Nat) (f : Nat → Int32) (y t' : Addr) (V' : Cell) (cd' : Int32) (k : Nat) (g : Nat → Int32) (z : Int32) (htab : tab.before sargs s = true) (hfr : 2 ≤ R.frames) (hlo : W + 28 ≤ R.locals) :
    Back l R p e below s sargs yN len W (fun A₁ a₁ => A₁.cells + 0 ≤ R.cells ∧ A₁.slots + 0 ≤ R.slots ∧ P x t V cd n f y t' V' cd' k g z a₁ A₁.U) (fun A₁ _ v₁ B₁ => Says01 (SameT n f k g) v₁ A₁.U B₁.U ∧ B₁.locs = A₁.locs ++ [] ∧ B₁.cells = A₁.cells + 0 ∧ B₁.slots = A₁.slots + 0) :=
  (law l x t V cd n f y t' V' cd' k g z).pays htab hfr (by omega)
end SEq
end StrChars
namespace StrChars.Road
open Jvm Sem ClassFile Op Lib Jvm.Stand Jvm.Free Jvm.Free.XT
open Jvm.Lib.Cold (StaticIs)
/-- the words of String.equals(Object) -/
abbrev wordsEq : List Jvm.Cond := [.code SEq.yN SEq.yB 3 (some .boolean), .initialized ST, .classLink ST 10 ST, .fieldLink ST 38 ST "COMPACT_STRINGS" "Z", .fieldLink ST 15 ST "coder" "B", .fieldLink ST 9 ST "value" "[B", .methodLink ST 541 LEq.yN, .static LEq.yN, .code LEq.yN LEq.yB 3 (some .boolean), .initialized "java/lang/StringLatin1"]
theorem tabEq_of {a : Array Value} {s : State} (h : ∀ w ∈ wordsEq, w.before a s = true) : SEq.tab.before a s = true := by
  have hl : LEq.tab.before a s = true := unparts (wk h (.code LEq.yN LEq.yB 3 (some .boolean))) (wks h (.initialized LEq.yN.cls :: LEq.site))
  have q := consq hl h
  exact unparts (wk q (.code SEq.yN SEq.yB 3 (some .boolean))) (wks q (.initialized SEq.yN.cls :: SEq.site))
theorem movedEq {Z s : State} {a0 args : Array Value} (hZ : Z.Warmed39 s.vm) (hw : ∀ d ∈ wordsEq, d.before a0 Z = true) : ∀ d ∈ wordsEq, d.before args s = true := fun d hd => by
  have t : ∀ d ∈ wordsEq, (d.onTables && d.keepsFace) = true := by decide +kernel
  exact RoadKit.mv hZ (hw d hd) (t d hd)
/-- the road's facts of a String, as the laws ask it -/
theorem txt_of {Z U : State} {a0 : Array Value} {kI : Nat} (wi : (Jvm.Cond.instantiable ST kI).before a0 Z = true) (al : Z.vm.Alike U.vm) {x t : Addr} {kb : ClassId} {cs : List Int32} {cd N2 : Int32} {vs : List Value} (E : RoadKit.Exa Z U.heap x ST) (V : RoadKit.Fld Z U.heap x ST "value" "[B" (.ref t)) (C : RoadKit.Fld Z U.heap x ST "coder" "B" (.int cd)) (K : RoadKit.Arv Z U.heap t kb .byte N2 vs (.int 0)) (hc : CodA cs cd N2 vs) (hb : ∀ c ∈ cs, ¬ c < 0 ∧ ¬ (65535 : Int32) < c) (l2 : cs.length ≤ 4000) :
    ∃ A, Txt x t A cd cs.length (fun j => cs.getD j 0) U := by
  obtain ⟨A, K1, K2, K3, K4, K5, K6⟩ := K
  have hcod := hc.cod (by omega) K3 K5
  obtain ⟨D, fV, fC, hB, F1, F2, g1, g2, -, -⟩ := strObj wi al E V C
  exact ⟨A, ⟨_, hB.2.2.1, D, hB.1, rfl, by cases q : D.vm <;> first | rfl | exact absurd q (hB.2.1.2 _)⟩, Has.of hB F1 g1, Has.of hB F2 g2, ⟨K1.1, State.isArrayOf_alike al K1.2.1, K1.2.2, by rcases hcod with ⟨-, q, -⟩ | ⟨-, q, -⟩ <;> omega⟩, hcod, fun j hj => by
    have e : cs.getD j 0 = cs[j] := by simp [List.getD_eq_getElem?_getD, hj]
    show ¬ cs.getD j 0 < 0 ∧ ¬ 65535 < cs.getD j 0
    rw [e]; exact hb _ (List.getElem_mem _)⟩
theorem same_list (cs ds : List Int32) : SameT cs.length (fun j => cs.getD j 0) ds.length (fun j => ds.getD j 0) ↔ cs = ds := by
  constructor
  · rintro ⟨e, q⟩
    refine List.ext_getElem e fun j h1 h2 => ?_
    have := q j h1
    simpa [List.getD_eq_getElem?_getD, h1, h2] using this
  · rintro rfl
    exact ⟨rfl, fun _ _ => rfl⟩
/-- **equals(Object) OF TWO SUCH STRINGS**: 1 just where the chars are the same -/
theorem eqW {p : Program} {l : Launch} {e : Env} {R : Room} {s : State} {args : Array Value} {below : List Frame} {len W : Nat} {Z : State} {a0 : Array Value} {h : Heap} (hZ : Z.Warmed39 s.vm) (hw : ∀ d ∈ wordsEq, d.before a0 Z = true) {kI : Nat} (wi : (Jvm.Cond.instantiable ST kI).before a0 Z = true)
    {x t : Addr} {kb : ClassId} {cs : List Int32} {cd N2 : Int32} {vs : List Value} (E : RoadKit.Exa Z h x ST) (V : RoadKit.Fld Z h x ST "value" "[B" (.ref t)) (C : RoadKit.Fld Z h x ST "coder" "B" (.int cd)) (K : RoadKit.Arv Z h t kb .byte N2 vs (.int 0)) (hc : CodA cs cd N2 vs) (hb : ∀ c ∈ cs, ¬ c < 0 ∧ ¬ (65535 : Int32) < c) (l2 : cs.length ≤ 4000)
    {y t' : Addr} {kb' : ClassId} {ds : List Int32} {cd' N2' : Int32} {vs' : List Value} (E' : RoadKit.Exa Z h y ST) (V' : RoadKit.Fld Z h y ST "value" "[B" (.ref t')) (C' : RoadKit.Fld Z h y ST "coder" "B" (.int cd')) (K' : RoadKit.Arv Z h t' kb' .byte N2' vs' (.int 0)) (hc' : CodA ds cd' N2' vs') (hb' : ∀ c ∈ ds, ¬ c < 0 ∧ ¬ (65535 : Int32) < c) (l2' : ds.length ≤ 4000)
    {z : Int32} (S : RoadKit.Sta Z h ST "COMPACT_STRINGS" "Z" (.int z)) (hz : ¬ z = 0) (hfr : 2 ≤ R.frames) (hlo : W + 28 ≤ R.locals) :
    Back l R p e below s args (⟨"java/lang/String", "equals", "(Ljava/lang/Object;)Z"⟩ : MethodName) len W (fun P a => a = #[.ref x, .ref y] ∧ P.U.heap = h ∧ P.cells + 0 ≤ R.cells ∧ P.slots + 0 ≤ R.slots)
      (fun P _ v B => ∃ L, (((v = some (.int 1) ∧ cs = ds) ∨ (v = some (.int 0) ∧ ¬ cs = ds)) ∧ L = [] ∧ B.U.heap = h) ∧ B.locs = P.locs ++ L ∧ B.cells = P.cells + 0 ∧ B.slots = P.slots + 0) := by
  intro m meth c P g ig mk a X hg hsize hdg hW hn hp'
  obtain ⟨rfl, rfl, r1, r2⟩ := hp'
  have al : Z.vm.Alike P.U.vm := hZ.alike.trans X.warmed.alike
  obtain ⟨A, hx⟩ := txt_of wi al E V C K hc hb l2
  obtain ⟨A', hy⟩ := txt_of wi al E' V' C' K' hc' hb' l2'
  obtain ⟨v, B, X', ⟨⟨w, hv, hh, hq⟩, hl, hk, hs⟩, st⟩ := SEq.pays x t A cd cs.length (fun j => cs.getD j 0) y t' A' cd' ds.length (fun j => ds.getD j 0) z (tabEq_of (movedEq hZ hw)) hfr hlo m meth c P g ig mk _ X hg hsize hdg hW hn ⟨r1, r2, rfl, hx, hy, sta_is al S, hz⟩
  refine ⟨v, B, X', ⟨[], ⟨?_, rfl, hh⟩, hl, hk, hs⟩, st⟩
  rcases hq with ⟨rfl, q⟩ | ⟨rfl, q⟩
  · exact Or.inl ⟨hv, (same_list cs ds).mp q⟩
  · exact Or.inr ⟨hv, fun e => q ((same_list cs ds).mpr e)⟩
end StrChars.Road
namespace StrChars.Road
open Jvm Sem ClassFile Op Lib Jvm.Stand Jvm.Free Jvm.Free.XT
open Jvm.Lib.Cold (StaticIs)
/-- what backV says of its String, as the contracts of this text ask it: cs's low bytes, coder 0 -/
theorem codOf {cs : List Int32} {n : Nat} (hn : cs.length = n) (hb : ∀ c ∈ cs, ¬ 255 < c) : CodA cs 0 (Int32.ofNat n) ((cs.map lo8).map Value.int) := Or.inl ⟨rfl, by rw [hn], by simp [List.map_map, Function.comp_def], hb⟩
end StrChars.Road
end Jvm.Pilot.@@N@@

namespace Jvm.Pilot.@@N@@
open Jvm Jvm.ClassFile Sem Op Lib Jvm.Free Jvm.Stand Jvm.LawKit Jvm.RoadKit Bundle Jvm.Pilot.@@N@@.Jvm.D
def own_To (p : Program) (l : Launch) (e : Env) (R : Room) (s : State) (m : MethodId) (args : Array Value) (below : List Frame) (meth : Method) (c : Code) (locs : List Loc) (cells slots : Nat) (h : Heap) (T : State) (g g' : JFrame) : Prop :=
  ∃ T' : State, Stand p l e R s m args below meth c T' locs cells slots ∧ T'.heap = h ∧ ∀ tg, Steps p.tables e below (T'.setTop g') tg → Steps p.tables e below (T.setTop g) tg
theorem own_to {p : Program} {l : Launch} {e : Env} {R : Room} {s : State} {m : MethodId} {args : Array Value} {below : List Frame} {meth : Method} {c : Code} {T : State} {locs : List Loc} {cells slots : Nat} (X : Stand p l e R s m args below meth c T locs cells slots) {h : Heap} {g g' : JFrame}
    (H : own_To p l e R s m args below meth c locs cells slots h T g g') : ∃ T' : State, Stand p l e R s m args below meth c T' locs cells slots ∧ T'.heap = h ∧ ∀ tg, Steps p.tables e below (T'.setTop g') tg → Steps p.tables e below (T.setTop g) tg := H
def own_ToP (p : Program) (l : Launch) (e : Env) (R : Room) (s : State) (m : MethodId) (args : Array Value) (below : List Frame) (meth : Method) (c : Code) (locs : List Loc) (cells slots : Nat) (h : Heap) (T : State) (g : JFrame) (P : JFrame → Prop) : Prop :=
  ∃ (T' : State) (g' : JFrame), P g' ∧ Stand p l e R s m args below meth c T' locs cells slots ∧ T'.heap = h ∧ ∀ tg, Steps p.tables e below (T'.setTop g') tg → Steps p.tables e below (T.setTop g) tg
def own_ToK (p : Program) (l : Launch) (e : Env) (R : Room) (s : State) (m : MethodId) (args : Array Value) (below : List Frame) (meth : Method) (c : Code) (n0 : Nat) (cells slots : Nat) (T : State) (g : JFrame) (P : Heap → JFrame → Prop) : Prop :=
  ∃ (T' : State) (g' : JFrame) (L : List Loc), Stand p l e R s m args below meth c T' L cells slots ∧ Fr n0 L ∧ P T'.heap g' ∧ ∀ tg, Steps p.tables e below (T'.setTop g') tg → Steps p.tables e below (T.setTop g) tg
theorem own_wid {p : Program} {l : Launch} {e : Env} {R : Room} {s : State} {m : MethodId} {args : Array Value} {below : List Frame} {meth : Method} {c : Code} {T : State} {locs : List Loc} {cells slots cells' slots' : Nat} (X : Stand p l e R s m args below meth c T locs cells slots) (h1 : cells ≤ cells') (h2 : slots ≤ slots') : Stand p l e R s m args below meth c T locs cells' slots' := { X with same := X.same.mono h1 h2 }
theorem own_inc (i : Nat) : Int32.ofNat i + (1 : Int32) = Int32.ofNat (i + 1) := (Int32.ofNat_add i 1).symm
theorem own_toI {i : Nat} (h : i < 2147483648) : (Int32.ofNat i).toInt = (i : Int) := Int32.toInt_ofNat_of_lt h
theorem own_lt {i j : Nat} (h : i < j) (hj : j < 2147483648) : Int32.ofNat i < Int32.ofNat j := by
  rw [Int32.lt_iff_toInt_lt, own_toI (by omega), own_toI hj]; omega
theorem own_nlt {i j : Nat} (h : ¬ i < j) (hi : i < 2147483648) : ¬ Int32.ofNat i < Int32.ofNat j := by
  rw [Int32.lt_iff_toInt_lt, own_toI hi, own_toI (by omega)]; omega
theorem own_ltI {i j : Nat} (h : Int32.ofNat i < Int32.ofNat j) (hi : i < 2147483648) (hj : j < 2147483648) : i < j := by
  rw [Int32.lt_iff_toInt_lt, own_toI hi, own_toI hj] at h; omega
theorem own_nltI {i j : Nat} (h : ¬ Int32.ofNat i < Int32.ofNat j) (hi : i < 2147483648) (hj : j < 2147483648) : ¬ i < j := by
  rw [Int32.lt_iff_toInt_lt, own_toI hi, own_toI hj] at h; omega
theorem own_inj {i j : Nat} (h : Int32.ofNat i = Int32.ofNat j) (hi : i < 2147483648) (hj : j < 2147483648) : i = j := by
  have q := congrArg Int32.toInt h
  rw [own_toI hi, own_toI hj] at q; omega
theorem own_nneg (i : Nat) (hi : i < 2147483648) : ¬ Int32.ofNat i < 0 := by
  rw [Int32.lt_iff_toInt_lt, own_toI hi]; show ¬ (i : Int) < 0; omega
theorem own_clamp {i : Nat} (hi : i < 2147483648) : (Int32.ofNat i).toNatClampNeg = i := clamp_of rfl hi
theorem own_narm (x : Int32) : nar .char (x &&& (255 : Int32)) = (x &&& (255 : Int32)) := i2c_mask x
theorem own_osz {Z : State} {n0 : Nat} {h : Heap} (O : Old Z n0 h) : n0 ≤ h.size := O.1 ▸ O.2.1
theorem pn_0 : plainName "java/lang/String" = true := by first | (simp [plainName, overriddenIn]; done) | decide +kernel
theorem pn_1 : plainName "com/example/ullr/ullr/files/ListedLinkEqualsPinLaw" = true := by first | (simp [plainName, overriddenIn]; done) | decide +kernel
theorem pn_2 : plainName "java/util/Objects" = true := by first | (simp [plainName, overriddenIn]; done) | decide +kernel
theorem pn_3 : plainName "com/example/ullr/ullr/files/ListedLink" = true := by first | (simp [plainName, overriddenIn]; done) | decide +kernel
theorem pd_0 : parseMethodDescriptor "([CIILjava/lang/Void;)V" = some ⟨[(.array .char), .int, .int, (.object "java/lang/Void")], none⟩ := by decide +kernel
theorem pd_1 : parseMethodDescriptor "([C)V" = some ⟨[(.array .char)], none⟩ := by decide +kernel
theorem pd_2 : parseMethodDescriptor "(II)C" = some ⟨[.int, .int], some .char⟩ := by decide +kernel
theorem pd_3 : parseMethodDescriptor "(Ljava/lang/Object;Ljava/lang/String;)Ljava/lang/Object;" = some ⟨[(.object "java/lang/Object"), (.object "java/lang/String")], some (.object "java/lang/Object")⟩ := by decide +kernel
theorem pd_4 : parseMethodDescriptor "(Ljava/lang/Object;)Z" = some ⟨[(.object "java/lang/Object")], some .boolean⟩ := by decide +kernel
theorem pd_5 : parseMethodDescriptor "(I)Ljava/lang/String;" = some ⟨[.int], some (.object "java/lang/String")⟩ := by decide +kernel
theorem pd_6 : parseMethodDescriptor "(Ljava/lang/String;Ljava/lang/String;)V" = some ⟨[(.object "java/lang/String"), (.object "java/lang/String")], none⟩ := by decide +kernel
theorem pd_7 : parseMethodDescriptor "(II)Z" = some ⟨[.int, .int], some .boolean⟩ := by decide +kernel
theorem d_jdk_31_method_11_0 : decode jdk_31_method_11_code 0 = .ok (.aload_n 0, 1) := by decide +kernel
theorem d_jdk_31_method_11_1 : decode jdk_31_method_11_code 1 = .ok (.ifnonnull 12, 3) := by decide +kernel
theorem d_jdk_31_method_11_13 : decode jdk_31_method_11_code 13 = .ok (.aload_n 0, 1) := by decide +kernel
theorem d_jdk_31_method_11_14 : decode jdk_31_method_11_code 14 = .ok (.areturn, 1) := by decide +kernel
theorem d_jdk_42_method_149_0 : decode jdk_42_method_149_code 0 = .ok (.aload_n 0, 1) := by decide +kernel
theorem d_jdk_42_method_149_1 : decode jdk_42_method_149_code 1 = .ok (.invokespecial 1, 3) := by decide +kernel
theorem d_jdk_42_method_149_11 : decode jdk_42_method_149_code 11 = .ok (.getfield 9, 3) := by decide +kernel
theorem d_jdk_42_method_149_14 : decode jdk_42_method_149_code 14 = .ok (.putfield 9, 3) := by decide +kernel
theorem d_jdk_42_method_149_17 : decode jdk_42_method_149_code 17 = .ok (.aload_n 0, 1) := by decide +kernel
theorem d_jdk_42_method_149_18 : decode jdk_42_method_149_code 18 = .ok (.ldc 7, 2) := by decide +kernel
theorem d_jdk_42_method_149_20 : decode jdk_42_method_149_code 20 = .ok (.getfield 15, 3) := by decide +kernel
theorem d_jdk_42_method_149_23 : decode jdk_42_method_149_code 23 = .ok (.putfield 15, 3) := by decide +kernel
theorem d_jdk_42_method_149_26 : decode jdk_42_method_149_code 26 = .ok (.return_, 1) := by decide +kernel
theorem d_jdk_42_method_149_4 : decode jdk_42_method_149_code 4 = .ok (.iload_n 3, 1) := by decide +kernel
theorem d_jdk_42_method_149_5 : decode jdk_42_method_149_code 5 = .ok (.ifCond .ne 22, 3) := by decide +kernel
theorem d_jdk_42_method_149_8 : decode jdk_42_method_149_code 8 = .ok (.aload_n 0, 1) := by decide +kernel
theorem d_jdk_42_method_149_9 : decode jdk_42_method_149_code 9 = .ok (.ldc 7, 2) := by decide +kernel
theorem d_jdk_42_method_3_0 : decode jdk_42_method_3_code 0 = .ok (.aload_n 0, 1) := by decide +kernel
theorem d_jdk_42_method_3_1 : decode jdk_42_method_3_code 1 = .ok (.aload_n 1, 1) := by decide +kernel
theorem d_jdk_42_method_3_2 : decode jdk_42_method_3_code 2 = .ok (.iconst 0, 1) := by decide +kernel
theorem d_jdk_42_method_3_3 : decode jdk_42_method_3_code 3 = .ok (.aload_n 1, 1) := by decide +kernel
theorem d_jdk_42_method_3_4 : decode jdk_42_method_3_code 4 = .ok (.arraylength, 1) := by decide +kernel
theorem d_jdk_42_method_3_5 : decode jdk_42_method_3_code 5 = .ok (.aconst_null, 1) := by decide +kernel
theorem d_jdk_42_method_3_6 : decode jdk_42_method_3_code 6 = .ok (.invokespecial 27, 3) := by decide +kernel
theorem d_jdk_42_method_3_9 : decode jdk_42_method_3_code 9 = .ok (.return_, 1) := by decide +kernel
theorem d_method_2_0 : decode method_2_code 0 = .ok (.iload_n 0, 1) := by decide +kernel
theorem d_method_2_1 : decode method_2_code 1 = .ok (.iconst 2, 1) := by decide +kernel
theorem d_method_2_11 : decode method_2_code 11 = .ok (.iand, 1) := by decide +kernel
theorem d_method_2_12 : decode method_2_code 12 = .ok (.i2c, 1) := by decide +kernel
theorem d_method_2_13 : decode method_2_code 13 = .ok (.ireturn, 1) := by decide +kernel
theorem d_method_2_2 : decode method_2_code 2 = .ok (.bipush 8, 2) := by decide +kernel
theorem d_method_2_4 : decode method_2_code 4 = .ok (.iload_n 1, 1) := by decide +kernel
theorem d_method_2_5 : decode method_2_code 5 = .ok (.imul, 1) := by decide +kernel
theorem d_method_2_6 : decode method_2_code 6 = .ok (.iadd, 1) := by decide +kernel
theorem d_method_2_7 : decode method_2_code 7 = .ok (.iushr, 1) := by decide +kernel
theorem d_method_2_8 : decode method_2_code 8 = .ok (.sipush 255, 3) := by decide +kernel
theorem d_method_3_0 : decode method_3_code 0 = .ok (.iload_n 0, 1) := by decide +kernel
theorem d_method_3_1 : decode method_3_code 1 = .ok (.iconst 3, 1) := by decide +kernel
theorem d_method_3_100 : decode method_3_code 100 = .ok (.iconst 2, 1) := by decide +kernel
theorem d_method_3_101 : decode method_3_code 101 = .ok (.iload_n 0, 1) := by decide +kernel
theorem d_method_3_102 : decode method_3_code 102 = .ok (.iconst 2, 1) := by decide +kernel
theorem d_method_3_103 : decode method_3_code 103 = .ok (.invokestatic 12, 3) := by decide +kernel
theorem d_method_3_106 : decode method_3_code 106 = .ok (.castore, 1) := by decide +kernel
theorem d_method_3_107 : decode method_3_code 107 = .ok (.new 7, 3) := by decide +kernel
theorem d_method_3_11 : decode method_3_code 11 = .ok (.dup, 1) := by decide +kernel
theorem d_method_3_110 : decode method_3_code 110 = .ok (.dup, 1) := by decide +kernel
theorem d_method_3_111 : decode method_3_code 111 = .ok (.aload_n 2, 1) := by decide +kernel
theorem d_method_3_112 : decode method_3_code 112 = .ok (.invokespecial 9, 3) := by decide +kernel
theorem d_method_3_115 : decode method_3_code 115 = .ok (.areturn, 1) := by decide +kernel
theorem d_method_3_12 : decode method_3_code 12 = .ok (.iconst 0, 1) := by decide +kernel
theorem d_method_3_13 : decode method_3_code 13 = .ok (.newarray .char, 2) := by decide +kernel
theorem d_method_3_15 : decode method_3_code 15 = .ok (.invokespecial 9, 3) := by decide +kernel
theorem d_method_3_18 : decode method_3_code 18 = .ok (.areturn, 1) := by decide +kernel
theorem d_method_3_19 : decode method_3_code 19 = .ok (.iload_n 1, 1) := by decide +kernel
theorem d_method_3_2 : decode method_3_code 2 = .ok (.iand, 1) := by decide +kernel
theorem d_method_3_20 : decode method_3_code 20 = .ok (.iconst 1, 1) := by decide +kernel
theorem d_method_3_21 : decode method_3_code 21 = .ok (.if_icmp .ne 24, 3) := by decide +kernel
theorem d_method_3_24 : decode method_3_code 24 = .ok (.iconst 1, 1) := by decide +kernel
theorem d_method_3_25 : decode method_3_code 25 = .ok (.newarray .char, 2) := by decide +kernel
theorem d_method_3_27 : decode method_3_code 27 = .ok (.astore_n 2, 1) := by decide +kernel
theorem d_method_3_28 : decode method_3_code 28 = .ok (.aload_n 2, 1) := by decide +kernel
theorem d_method_3_29 : decode method_3_code 29 = .ok (.iconst 0, 1) := by decide +kernel
theorem d_method_3_3 : decode method_3_code 3 = .ok (.istore_n 1, 1) := by decide +kernel
theorem d_method_3_30 : decode method_3_code 30 = .ok (.iload_n 0, 1) := by decide +kernel
theorem d_method_3_31 : decode method_3_code 31 = .ok (.iconst 0, 1) := by decide +kernel
theorem d_method_3_32 : decode method_3_code 32 = .ok (.invokestatic 12, 3) := by decide +kernel
theorem d_method_3_35 : decode method_3_code 35 = .ok (.castore, 1) := by decide +kernel
theorem d_method_3_36 : decode method_3_code 36 = .ok (.new 7, 3) := by decide +kernel
theorem d_method_3_39 : decode method_3_code 39 = .ok (.dup, 1) := by decide +kernel
theorem d_method_3_4 : decode method_3_code 4 = .ok (.iload_n 1, 1) := by decide +kernel
theorem d_method_3_40 : decode method_3_code 40 = .ok (.aload_n 2, 1) := by decide +kernel
theorem d_method_3_41 : decode method_3_code 41 = .ok (.invokespecial 9, 3) := by decide +kernel
theorem d_method_3_44 : decode method_3_code 44 = .ok (.areturn, 1) := by decide +kernel
theorem d_method_3_45 : decode method_3_code 45 = .ok (.iload_n 1, 1) := by decide +kernel
theorem d_method_3_46 : decode method_3_code 46 = .ok (.iconst 2, 1) := by decide +kernel
theorem d_method_3_47 : decode method_3_code 47 = .ok (.if_icmp .ne 32, 3) := by decide +kernel
theorem d_method_3_5 : decode method_3_code 5 = .ok (.ifCond .ne 14, 3) := by decide +kernel
theorem d_method_3_50 : decode method_3_code 50 = .ok (.iconst 2, 1) := by decide +kernel
theorem d_method_3_51 : decode method_3_code 51 = .ok (.newarray .char, 2) := by decide +kernel
theorem d_method_3_53 : decode method_3_code 53 = .ok (.astore_n 2, 1) := by decide +kernel
theorem d_method_3_54 : decode method_3_code 54 = .ok (.aload_n 2, 1) := by decide +kernel
theorem d_method_3_55 : decode method_3_code 55 = .ok (.iconst 0, 1) := by decide +kernel
theorem d_method_3_56 : decode method_3_code 56 = .ok (.iload_n 0, 1) := by decide +kernel
theorem d_method_3_57 : decode method_3_code 57 = .ok (.iconst 0, 1) := by decide +kernel
theorem d_method_3_58 : decode method_3_code 58 = .ok (.invokestatic 12, 3) := by decide +kernel
theorem d_method_3_61 : decode method_3_code 61 = .ok (.castore, 1) := by decide +kernel
theorem d_method_3_62 : decode method_3_code 62 = .ok (.aload_n 2, 1) := by decide +kernel
theorem d_method_3_63 : decode method_3_code 63 = .ok (.iconst 1, 1) := by decide +kernel
theorem d_method_3_64 : decode method_3_code 64 = .ok (.iload_n 0, 1) := by decide +kernel
theorem d_method_3_65 : decode method_3_code 65 = .ok (.iconst 1, 1) := by decide +kernel
theorem d_method_3_66 : decode method_3_code 66 = .ok (.invokestatic 12, 3) := by decide +kernel
theorem d_method_3_69 : decode method_3_code 69 = .ok (.castore, 1) := by decide +kernel
theorem d_method_3_70 : decode method_3_code 70 = .ok (.new 7, 3) := by decide +kernel
theorem d_method_3_73 : decode method_3_code 73 = .ok (.dup, 1) := by decide +kernel
theorem d_method_3_74 : decode method_3_code 74 = .ok (.aload_n 2, 1) := by decide +kernel
theorem d_method_3_75 : decode method_3_code 75 = .ok (.invokespecial 9, 3) := by decide +kernel
theorem d_method_3_78 : decode method_3_code 78 = .ok (.areturn, 1) := by decide +kernel
theorem d_method_3_79 : decode method_3_code 79 = .ok (.iconst 3, 1) := by decide +kernel
theorem d_method_3_8 : decode method_3_code 8 = .ok (.new 7, 3) := by decide +kernel
theorem d_method_3_80 : decode method_3_code 80 = .ok (.newarray .char, 2) := by decide +kernel
theorem d_method_3_82 : decode method_3_code 82 = .ok (.astore_n 2, 1) := by decide +kernel
theorem d_method_3_83 : decode method_3_code 83 = .ok (.aload_n 2, 1) := by decide +kernel
theorem d_method_3_84 : decode method_3_code 84 = .ok (.iconst 0, 1) := by decide +kernel
theorem d_method_3_85 : decode method_3_code 85 = .ok (.iload_n 0, 1) := by decide +kernel
theorem d_method_3_86 : decode method_3_code 86 = .ok (.iconst 0, 1) := by decide +kernel
theorem d_method_3_87 : decode method_3_code 87 = .ok (.invokestatic 12, 3) := by decide +kernel
theorem d_method_3_90 : decode method_3_code 90 = .ok (.castore, 1) := by decide +kernel
theorem d_method_3_91 : decode method_3_code 91 = .ok (.aload_n 2, 1) := by decide +kernel
theorem d_method_3_92 : decode method_3_code 92 = .ok (.iconst 1, 1) := by decide +kernel
theorem d_method_3_93 : decode method_3_code 93 = .ok (.iload_n 0, 1) := by decide +kernel
theorem d_method_3_94 : decode method_3_code 94 = .ok (.iconst 1, 1) := by decide +kernel
theorem d_method_3_95 : decode method_3_code 95 = .ok (.invokestatic 12, 3) := by decide +kernel
theorem d_method_3_98 : decode method_3_code 98 = .ok (.castore, 1) := by decide +kernel
theorem d_method_3_99 : decode method_3_code 99 = .ok (.aload_n 2, 1) := by decide +kernel
theorem d_method_4_0 : decode method_4_code 0 = .ok (.iload_n 0, 1) := by decide +kernel
theorem d_method_4_1 : decode method_4_code 1 = .ok (.iconst 3, 1) := by decide +kernel
theorem d_method_4_11 : decode method_4_code 11 = .ok (.iconst 0, 1) := by decide +kernel
theorem d_method_4_12 : decode method_4_code 12 = .ok (.ireturn, 1) := by decide +kernel
theorem d_method_4_13 : decode method_4_code 13 = .ok (.iload_n 2, 1) := by decide +kernel
theorem d_method_4_14 : decode method_4_code 14 = .ok (.iconst 1, 1) := by decide +kernel
theorem d_method_4_15 : decode method_4_code 15 = .ok (.if_icmp .lt 16, 3) := by decide +kernel
theorem d_method_4_18 : decode method_4_code 18 = .ok (.iload_n 0, 1) := by decide +kernel
theorem d_method_4_19 : decode method_4_code 19 = .ok (.iconst 0, 1) := by decide +kernel
theorem d_method_4_2 : decode method_4_code 2 = .ok (.iand, 1) := by decide +kernel
theorem d_method_4_20 : decode method_4_code 20 = .ok (.invokestatic 12, 3) := by decide +kernel
theorem d_method_4_23 : decode method_4_code 23 = .ok (.iload_n 1, 1) := by decide +kernel
theorem d_method_4_24 : decode method_4_code 24 = .ok (.iconst 0, 1) := by decide +kernel
theorem d_method_4_25 : decode method_4_code 25 = .ok (.invokestatic 12, 3) := by decide +kernel
theorem d_method_4_28 : decode method_4_code 28 = .ok (.if_icmp .ne 43, 3) := by decide +kernel
theorem d_method_4_3 : decode method_4_code 3 = .ok (.istore_n 2, 1) := by decide +kernel
theorem d_method_4_31 : decode method_4_code 31 = .ok (.iload_n 2, 1) := by decide +kernel
theorem d_method_4_32 : decode method_4_code 32 = .ok (.iconst 2, 1) := by decide +kernel
theorem d_method_4_33 : decode method_4_code 33 = .ok (.if_icmp .lt 16, 3) := by decide +kernel
theorem d_method_4_36 : decode method_4_code 36 = .ok (.iload_n 0, 1) := by decide +kernel
theorem d_method_4_37 : decode method_4_code 37 = .ok (.iconst 1, 1) := by decide +kernel
theorem d_method_4_38 : decode method_4_code 38 = .ok (.invokestatic 12, 3) := by decide +kernel
theorem d_method_4_4 : decode method_4_code 4 = .ok (.iload_n 2, 1) := by decide +kernel
theorem d_method_4_41 : decode method_4_code 41 = .ok (.iload_n 1, 1) := by decide +kernel
theorem d_method_4_42 : decode method_4_code 42 = .ok (.iconst 1, 1) := by decide +kernel
theorem d_method_4_43 : decode method_4_code 43 = .ok (.invokestatic 12, 3) := by decide +kernel
theorem d_method_4_46 : decode method_4_code 46 = .ok (.if_icmp .ne 25, 3) := by decide +kernel
theorem d_method_4_49 : decode method_4_code 49 = .ok (.iload_n 2, 1) := by decide +kernel
theorem d_method_4_5 : decode method_4_code 5 = .ok (.iload_n 1, 1) := by decide +kernel
theorem d_method_4_50 : decode method_4_code 50 = .ok (.iconst 3, 1) := by decide +kernel
theorem d_method_4_51 : decode method_4_code 51 = .ok (.if_icmp .lt 16, 3) := by decide +kernel
theorem d_method_4_54 : decode method_4_code 54 = .ok (.iload_n 0, 1) := by decide +kernel
theorem d_method_4_55 : decode method_4_code 55 = .ok (.iconst 2, 1) := by decide +kernel
theorem d_method_4_56 : decode method_4_code 56 = .ok (.invokestatic 12, 3) := by decide +kernel
theorem d_method_4_59 : decode method_4_code 59 = .ok (.iload_n 1, 1) := by decide +kernel
theorem d_method_4_6 : decode method_4_code 6 = .ok (.iconst 3, 1) := by decide +kernel
theorem d_method_4_60 : decode method_4_code 60 = .ok (.iconst 2, 1) := by decide +kernel
theorem d_method_4_61 : decode method_4_code 61 = .ok (.invokestatic 12, 3) := by decide +kernel
theorem d_method_4_64 : decode method_4_code 64 = .ok (.if_icmp .ne 7, 3) := by decide +kernel
theorem d_method_4_67 : decode method_4_code 67 = .ok (.iconst 1, 1) := by decide +kernel
theorem d_method_4_68 : decode method_4_code 68 = .ok (.goto 4, 3) := by decide +kernel
theorem d_method_4_7 : decode method_4_code 7 = .ok (.iand, 1) := by decide +kernel
theorem d_method_4_71 : decode method_4_code 71 = .ok (.iconst 0, 1) := by decide +kernel
theorem d_method_4_72 : decode method_4_code 72 = .ok (.ireturn, 1) := by decide +kernel
theorem d_method_4_8 : decode method_4_code 8 = .ok (.if_icmp .eq 5, 3) := by decide +kernel
theorem d_prog_27_method_1_0 : decode prog_27_method_1_code 0 = .ok (.aload_n 0, 1) := by decide +kernel
theorem d_prog_27_method_1_1 : decode prog_27_method_1_code 1 = .ok (.invokespecial 1, 3) := by decide +kernel
theorem d_prog_27_method_1_11 : decode prog_27_method_1_code 11 = .ok (.checkcast 15, 3) := by decide +kernel
theorem d_prog_27_method_1_14 : decode prog_27_method_1_code 14 = .ok (.putfield 17, 3) := by decide +kernel
theorem d_prog_27_method_1_17 : decode prog_27_method_1_code 17 = .ok (.aload_n 0, 1) := by decide +kernel
theorem d_prog_27_method_1_18 : decode prog_27_method_1_code 18 = .ok (.aload_n 2, 1) := by decide +kernel
theorem d_prog_27_method_1_19 : decode prog_27_method_1_code 19 = .ok (.ldc 23, 2) := by decide +kernel
theorem d_prog_27_method_1_21 : decode prog_27_method_1_code 21 = .ok (.invokestatic 9, 3) := by decide +kernel
theorem d_prog_27_method_1_24 : decode prog_27_method_1_code 24 = .ok (.checkcast 15, 3) := by decide +kernel
theorem d_prog_27_method_1_27 : decode prog_27_method_1_code 27 = .ok (.putfield 25, 3) := by decide +kernel
theorem d_prog_27_method_1_30 : decode prog_27_method_1_code 30 = .ok (.return_, 1) := by decide +kernel
theorem d_prog_27_method_1_4 : decode prog_27_method_1_code 4 = .ok (.aload_n 0, 1) := by decide +kernel
theorem d_prog_27_method_1_5 : decode prog_27_method_1_code 5 = .ok (.aload_n 1, 1) := by decide +kernel
theorem d_prog_27_method_1_6 : decode prog_27_method_1_code 6 = .ok (.ldc 7, 2) := by decide +kernel
theorem d_prog_27_method_1_8 : decode prog_27_method_1_code 8 = .ok (.invokestatic 9, 3) := by decide +kernel
theorem d_prog_27_method_4_0 : decode prog_27_method_4_code 0 = .ok (.aload_n 1, 1) := by decide +kernel
theorem d_prog_27_method_4_1 : decode prog_27_method_4_code 1 = .ok (.instanceof 18, 3) := by decide +kernel
theorem d_prog_27_method_4_11 : decode prog_27_method_4_code 11 = .ok (.astore_n 2, 1) := by decide +kernel
theorem d_prog_27_method_4_12 : decode prog_27_method_4_code 12 = .ok (.aload_n 0, 1) := by decide +kernel
theorem d_prog_27_method_4_13 : decode prog_27_method_4_code 13 = .ok (.getfield 17, 3) := by decide +kernel
theorem d_prog_27_method_4_16 : decode prog_27_method_4_code 16 = .ok (.aload_n 2, 1) := by decide +kernel
theorem d_prog_27_method_4_17 : decode prog_27_method_4_code 17 = .ok (.getfield 17, 3) := by decide +kernel
theorem d_prog_27_method_4_20 : decode prog_27_method_4_code 20 = .ok (.invokevirtual 28, 3) := by decide +kernel
theorem d_prog_27_method_4_23 : decode prog_27_method_4_code 23 = .ok (.ifCond .eq 21, 3) := by decide +kernel
theorem d_prog_27_method_4_26 : decode prog_27_method_4_code 26 = .ok (.aload_n 0, 1) := by decide +kernel
theorem d_prog_27_method_4_27 : decode prog_27_method_4_code 27 = .ok (.getfield 25, 3) := by decide +kernel
theorem d_prog_27_method_4_30 : decode prog_27_method_4_code 30 = .ok (.aload_n 2, 1) := by decide +kernel
theorem d_prog_27_method_4_31 : decode prog_27_method_4_code 31 = .ok (.getfield 25, 3) := by decide +kernel
theorem d_prog_27_method_4_34 : decode prog_27_method_4_code 34 = .ok (.invokevirtual 28, 3) := by decide +kernel
theorem d_prog_27_method_4_37 : decode prog_27_method_4_code 37 = .ok (.ifCond .eq 7, 3) := by decide +kernel
theorem d_prog_27_method_4_4 : decode prog_27_method_4_code 4 = .ok (.ifCond .eq 40, 3) := by decide +kernel
theorem d_prog_27_method_4_40 : decode prog_27_method_4_code 40 = .ok (.iconst 1, 1) := by decide +kernel
theorem d_prog_27_method_4_41 : decode prog_27_method_4_code 41 = .ok (.goto 4, 3) := by decide +kernel
theorem d_prog_27_method_4_44 : decode prog_27_method_4_code 44 = .ok (.iconst 0, 1) := by decide +kernel
theorem d_prog_27_method_4_45 : decode prog_27_method_4_code 45 = .ok (.ireturn, 1) := by decide +kernel
theorem d_prog_27_method_4_7 : decode prog_27_method_4_code 7 = .ok (.aload_n 1, 1) := by decide +kernel
theorem d_prog_27_method_4_8 : decode prog_27_method_4_code 8 = .ok (.checkcast 18, 3) := by decide +kernel
theorem w_0 {Z : State} {a0 : Array Value} (hw : ∀ d ∈ tables_1, d.before a0 Z = true) : ((Jvm.Cond.classLink "com/example/ullr/ullr/files/ListedLinkEqualsPinLaw" (18 : Nat) "com/example/ullr/ullr/files/ListedLink") : Jvm.Cond).before a0 Z = true := hw _ (List.mem_of_getElem? (i := 0) rfl)
theorem w_1 {Z : State} {a0 : Array Value} (hw : ∀ d ∈ tables_1, d.before a0 Z = true) : ((Jvm.Cond.instantiable "com/example/ullr/ullr/files/ListedLink" (2 : Nat)) : Jvm.Cond).before a0 Z = true := hw _ (List.mem_of_getElem? (i := 1) rfl)
theorem w_2 {Z : State} {a0 : Array Value} (hw : ∀ d ∈ tables_1, d.before a0 Z = true) : ((Jvm.Cond.initialized "com/example/ullr/ullr/files/ListedLink") : Jvm.Cond).before a0 Z = true := hw _ (List.mem_of_getElem? (i := 2) rfl)
theorem w_3 {Z : State} {a0 : Array Value} (hw : ∀ d ∈ tables_1, d.before a0 Z = true) : ((Jvm.Cond.methodLink "com/example/ullr/ullr/files/ListedLinkEqualsPinLaw" (20 : Nat) ({ cls := "com/example/ullr/ullr/files/ListedLinkEqualsPinLaw", name := "mk", desc := "(I)Ljava/lang/String;" } : Jvm.MethodName)) : Jvm.Cond).before a0 Z = true := hw _ (List.mem_of_getElem? (i := 3) rfl)
theorem w_4 {Z : State} {a0 : Array Value} (hw : ∀ d ∈ tables_1, d.before a0 Z = true) : ((Jvm.Cond.static ({ cls := "com/example/ullr/ullr/files/ListedLinkEqualsPinLaw", name := "mk", desc := "(I)Ljava/lang/String;" } : Jvm.MethodName)) : Jvm.Cond).before a0 Z = true := hw _ (List.mem_of_getElem? (i := 4) rfl)
theorem w_5 {Z : State} {a0 : Array Value} (hw : ∀ d ∈ tables_1, d.before a0 Z = true) : ((Jvm.Cond.initialized "com/example/ullr/ullr/files/ListedLinkEqualsPinLaw") : Jvm.Cond).before a0 Z = true := hw _ (List.mem_of_getElem? (i := 5) rfl)
theorem w_6 {Z : State} {a0 : Array Value} (hw : ∀ d ∈ tables_1, d.before a0 Z = true) : ((Jvm.Cond.code ({ cls := "com/example/ullr/ullr/files/ListedLinkEqualsPinLaw", name := "mk", desc := "(I)Ljava/lang/String;" } : Jvm.MethodName) method_3_code (3 : Nat) (Option.some (Jvm.ClassFile.FieldType.object "java/lang/String"))) : Jvm.Cond).before a0 Z = true := hw _ (List.mem_of_getElem? (i := 6) rfl)
theorem w_7 {Z : State} {a0 : Array Value} (hw : ∀ d ∈ tables_1, d.before a0 Z = true) : ((Jvm.Cond.classLink "com/example/ullr/ullr/files/ListedLinkEqualsPinLaw" (7 : Nat) "java/lang/String") : Jvm.Cond).before a0 Z = true := hw _ (List.mem_of_getElem? (i := 7) rfl)
theorem w_8 {Z : State} {a0 : Array Value} (hw : ∀ d ∈ tables_1, d.before a0 Z = true) : ((Jvm.Cond.instantiable "java/lang/String" (4 : Nat)) : Jvm.Cond).before a0 Z = true := hw _ (List.mem_of_getElem? (i := 8) rfl)
theorem w_9 {Z : State} {a0 : Array Value} (hw : ∀ d ∈ tables_1, d.before a0 Z = true) : ((Jvm.Cond.initialized "java/lang/String") : Jvm.Cond).before a0 Z = true := hw _ (List.mem_of_getElem? (i := 9) rfl)
theorem w_10 {Z : State} {a0 : Array Value} (hw : ∀ d ∈ tables_1, d.before a0 Z = true) : ((Jvm.Cond.arrayClass Jvm.ClassFile.FieldType.char) : Jvm.Cond).before a0 Z = true := hw _ (List.mem_of_getElem? (i := 10) rfl)
theorem w_11 {Z : State} {a0 : Array Value} (hw : ∀ d ∈ tables_1, d.before a0 Z = true) : ((Jvm.Cond.methodLink "com/example/ullr/ullr/files/ListedLinkEqualsPinLaw" (9 : Nat) ({ cls := "java/lang/String", name := "<init>", desc := "([C)V" } : Jvm.MethodName)) : Jvm.Cond).before a0 Z = true := hw _ (List.mem_of_getElem? (i := 11) rfl)
theorem w_12 {Z : State} {a0 : Array Value} (hw : ∀ d ∈ tables_1, d.before a0 Z = true) : ((Jvm.Cond.instanceMethod ({ cls := "java/lang/String", name := "<init>", desc := "([C)V" } : Jvm.MethodName)) : Jvm.Cond).before a0 Z = true := hw _ (List.mem_of_getElem? (i := 12) rfl)
theorem w_13 {Z : State} {a0 : Array Value} (hw : ∀ d ∈ tables_1, d.before a0 Z = true) : ((Jvm.Cond.code ({ cls := "java/lang/String", name := "<init>", desc := "([C)V" } : Jvm.MethodName) jdk_42_method_3_code (2 : Nat) (Option.none : Option Jvm.ClassFile.FieldType)) : Jvm.Cond).before a0 Z = true := hw _ (List.mem_of_getElem? (i := 13) rfl)
theorem w_14 {Z : State} {a0 : Array Value} (hw : ∀ d ∈ tables_1, d.before a0 Z = true) : ((Jvm.Cond.methodLink "java/lang/String" (27 : Nat) ({ cls := "java/lang/String", name := "<init>", desc := "([CIILjava/lang/Void;)V" } : Jvm.MethodName)) : Jvm.Cond).before a0 Z = true := hw _ (List.mem_of_getElem? (i := 14) rfl)
theorem w_15 {Z : State} {a0 : Array Value} (hw : ∀ d ∈ tables_1, d.before a0 Z = true) : ((Jvm.Cond.instanceMethod ({ cls := "java/lang/String", name := "<init>", desc := "([CIILjava/lang/Void;)V" } : Jvm.MethodName)) : Jvm.Cond).before a0 Z = true := hw _ (List.mem_of_getElem? (i := 15) rfl)
theorem w_17 {Z : State} {a0 : Array Value} (hw : ∀ d ∈ tables_1, d.before a0 Z = true) : ((Jvm.Cond.code ({ cls := "java/lang/String", name := "<init>", desc := "([CIILjava/lang/Void;)V" } : Jvm.MethodName) jdk_42_method_149_code (6 : Nat) (Option.none : Option Jvm.ClassFile.FieldType)) : Jvm.Cond).before a0 Z = true := hw _ (List.mem_of_getElem? (i := 17) rfl)
theorem w_18 {Z : State} {a0 : Array Value} (hw : ∀ d ∈ tables_1, d.before a0 Z = true) : ((Jvm.Cond.methodLink "java/lang/String" (1 : Nat) ({ cls := "java/lang/Object", name := "<init>", desc := "()V" } : Jvm.MethodName)) : Jvm.Cond).before a0 Z = true := hw _ (List.mem_of_getElem? (i := 18) rfl)
theorem w_19 {Z : State} {a0 : Array Value} (hw : ∀ d ∈ tables_1, d.before a0 Z = true) : ((Jvm.Cond.instanceMethod ({ cls := "java/lang/Object", name := "<init>", desc := "()V" } : Jvm.MethodName)) : Jvm.Cond).before a0 Z = true := hw _ (List.mem_of_getElem? (i := 19) rfl)
theorem w_20 {Z : State} {a0 : Array Value} (hw : ∀ d ∈ tables_1, d.before a0 Z = true) : ((Jvm.Cond.code ({ cls := "java/lang/Object", name := "<init>", desc := "()V" } : Jvm.MethodName) object_method_1_code (1 : Nat) (Option.none : Option Jvm.ClassFile.FieldType)) : Jvm.Cond).before a0 Z = true := hw _ (List.mem_of_getElem? (i := 20) rfl)
theorem w_21 {Z : State} {a0 : Array Value} (hw : ∀ d ∈ tables_1, d.before a0 Z = true) : ((Jvm.Cond.stringLink "java/lang/String" (7 : Nat) "") : Jvm.Cond).before a0 Z = true := hw _ (List.mem_of_getElem? (i := 21) rfl)
theorem w_22 {Z : State} {a0 : Array Value} (hw : ∀ d ∈ tables_1, d.before a0 Z = true) : ((Jvm.Cond.arrayClass Jvm.ClassFile.FieldType.byte) : Jvm.Cond).before a0 Z = true := hw _ (List.mem_of_getElem? (i := 22) rfl)
theorem w_23 {Z : State} {a0 : Array Value} (hw : ∀ d ∈ tables_1, d.before a0 Z = true) : ((Jvm.Cond.laysFinal "java/lang/String" "java/lang/String" "value" "[B") : Jvm.Cond).before a0 Z = true := hw _ (List.mem_of_getElem? (i := 23) rfl)
theorem w_24 {Z : State} {a0 : Array Value} (hw : ∀ d ∈ tables_1, d.before a0 Z = true) : ((Jvm.Cond.laysFinal "java/lang/String" "java/lang/String" "coder" "B") : Jvm.Cond).before a0 Z = true := hw _ (List.mem_of_getElem? (i := 24) rfl)
theorem w_27 {Z : State} {a0 : Array Value} (hw : ∀ d ∈ tables_1, d.before a0 Z = true) : ((Jvm.Cond.fieldLink "java/lang/String" (9 : Nat) "java/lang/String" "value" "[B") : Jvm.Cond).before a0 Z = true := hw _ (List.mem_of_getElem? (i := 27) rfl)
theorem w_28 {Z : State} {a0 : Array Value} (hw : ∀ d ∈ tables_1, d.before a0 Z = true) : ((Jvm.Cond.fieldLink "java/lang/String" (15 : Nat) "java/lang/String" "coder" "B") : Jvm.Cond).before a0 Z = true := hw _ (List.mem_of_getElem? (i := 28) rfl)
theorem w_29 {Z : State} {a0 : Array Value} (hw : ∀ d ∈ tables_1, d.before a0 Z = true) : ((Jvm.Cond.methodLink "com/example/ullr/ullr/files/ListedLinkEqualsPinLaw" (12 : Nat) ({ cls := "com/example/ullr/ullr/files/ListedLinkEqualsPinLaw", name := "ch", desc := "(II)C" } : Jvm.MethodName)) : Jvm.Cond).before a0 Z = true := hw _ (List.mem_of_getElem? (i := 29) rfl)
theorem w_30 {Z : State} {a0 : Array Value} (hw : ∀ d ∈ tables_1, d.before a0 Z = true) : ((Jvm.Cond.static ({ cls := "com/example/ullr/ullr/files/ListedLinkEqualsPinLaw", name := "ch", desc := "(II)C" } : Jvm.MethodName)) : Jvm.Cond).before a0 Z = true := hw _ (List.mem_of_getElem? (i := 30) rfl)
theorem w_31 {Z : State} {a0 : Array Value} (hw : ∀ d ∈ tables_1, d.before a0 Z = true) : ((Jvm.Cond.code ({ cls := "com/example/ullr/ullr/files/ListedLinkEqualsPinLaw", name := "ch", desc := "(II)C" } : Jvm.MethodName) method_2_code (2 : Nat) (Option.some Jvm.ClassFile.FieldType.char)) : Jvm.Cond).before a0 Z = true := hw _ (List.mem_of_getElem? (i := 31) rfl)
theorem w_43 {Z : State} {a0 : Array Value} (hw : ∀ d ∈ tables_1, d.before a0 Z = true) : ((Jvm.Cond.methodLink "com/example/ullr/ullr/files/ListedLinkEqualsPinLaw" (24 : Nat) ({ cls := "com/example/ullr/ullr/files/ListedLink", name := "<init>", desc := "(Ljava/lang/String;Ljava/lang/String;)V" } : Jvm.MethodName)) : Jvm.Cond).before a0 Z = true := hw _ (List.mem_of_getElem? (i := 43) rfl)
theorem w_44 {Z : State} {a0 : Array Value} (hw : ∀ d ∈ tables_1, d.before a0 Z = true) : ((Jvm.Cond.instanceMethod ({ cls := "com/example/ullr/ullr/files/ListedLink", name := "<init>", desc := "(Ljava/lang/String;Ljava/lang/String;)V" } : Jvm.MethodName)) : Jvm.Cond).before a0 Z = true := hw _ (List.mem_of_getElem? (i := 44) rfl)
theorem w_45 {Z : State} {a0 : Array Value} (hw : ∀ d ∈ tables_1, d.before a0 Z = true) : ((Jvm.Cond.code ({ cls := "com/example/ullr/ullr/files/ListedLink", name := "<init>", desc := "(Ljava/lang/String;Ljava/lang/String;)V" } : Jvm.MethodName) prog_27_method_1_code (3 : Nat) (Option.none : Option Jvm.ClassFile.FieldType)) : Jvm.Cond).before a0 Z = true := hw _ (List.mem_of_getElem? (i := 45) rfl)
theorem w_46 {Z : State} {a0 : Array Value} (hw : ∀ d ∈ tables_1, d.before a0 Z = true) : ((Jvm.Cond.methodLink "com/example/ullr/ullr/files/ListedLink" (1 : Nat) ({ cls := "java/lang/Object", name := "<init>", desc := "()V" } : Jvm.MethodName)) : Jvm.Cond).before a0 Z = true := hw _ (List.mem_of_getElem? (i := 46) rfl)
theorem w_47 {Z : State} {a0 : Array Value} (hw : ∀ d ∈ tables_1, d.before a0 Z = true) : ((Jvm.Cond.stringLink "com/example/ullr/ullr/files/ListedLink" (7 : Nat) "path") : Jvm.Cond).before a0 Z = true := hw _ (List.mem_of_getElem? (i := 47) rfl)
theorem w_48 {Z : State} {a0 : Array Value} (hw : ∀ d ∈ tables_1, d.before a0 Z = true) : ((Jvm.Cond.methodLink "com/example/ullr/ullr/files/ListedLink" (9 : Nat) ({ cls := "java/util/Objects", name := "requireNonNull", desc := "(Ljava/lang/Object;Ljava/lang/String;)Ljava/lang/Object;" } : Jvm.MethodName)) : Jvm.Cond).before a0 Z = true := hw _ (List.mem_of_getElem? (i := 48) rfl)
theorem w_49 {Z : State} {a0 : Array Value} (hw : ∀ d ∈ tables_1, d.before a0 Z = true) : ((Jvm.Cond.static ({ cls := "java/util/Objects", name := "requireNonNull", desc := "(Ljava/lang/Object;Ljava/lang/String;)Ljava/lang/Object;" } : Jvm.MethodName)) : Jvm.Cond).before a0 Z = true := hw _ (List.mem_of_getElem? (i := 49) rfl)
theorem w_50 {Z : State} {a0 : Array Value} (hw : ∀ d ∈ tables_1, d.before a0 Z = true) : ((Jvm.Cond.initialized "java/util/Objects") : Jvm.Cond).before a0 Z = true := hw _ (List.mem_of_getElem? (i := 50) rfl)
theorem w_51 {Z : State} {a0 : Array Value} (hw : ∀ d ∈ tables_1, d.before a0 Z = true) : ((Jvm.Cond.code ({ cls := "java/util/Objects", name := "requireNonNull", desc := "(Ljava/lang/Object;Ljava/lang/String;)Ljava/lang/Object;" } : Jvm.MethodName) jdk_31_method_11_code (2 : Nat) (Option.some (Jvm.ClassFile.FieldType.object "java/lang/Object"))) : Jvm.Cond).before a0 Z = true := hw _ (List.mem_of_getElem? (i := 51) rfl)
theorem w_52 {Z : State} {a0 : Array Value} (hw : ∀ d ∈ tables_1, d.before a0 Z = true) : ((Jvm.Cond.classLink "com/example/ullr/ullr/files/ListedLink" (15 : Nat) "java/lang/String") : Jvm.Cond).before a0 Z = true := hw _ (List.mem_of_getElem? (i := 52) rfl)
theorem w_53 {Z : State} {a0 : Array Value} (hw : ∀ d ∈ tables_1, d.before a0 Z = true) : ((Jvm.Cond.fieldLink "com/example/ullr/ullr/files/ListedLink" (17 : Nat) "com/example/ullr/ullr/files/ListedLink" "_path" "Ljava/lang/String;") : Jvm.Cond).before a0 Z = true := hw _ (List.mem_of_getElem? (i := 53) rfl)
theorem w_54 {Z : State} {a0 : Array Value} (hw : ∀ d ∈ tables_1, d.before a0 Z = true) : ((Jvm.Cond.laysFinal "com/example/ullr/ullr/files/ListedLink" "com/example/ullr/ullr/files/ListedLink" "_path" "Ljava/lang/String;") : Jvm.Cond).before a0 Z = true := hw _ (List.mem_of_getElem? (i := 54) rfl)
theorem w_55 {Z : State} {a0 : Array Value} (hw : ∀ d ∈ tables_1, d.before a0 Z = true) : ((Jvm.Cond.stringLink "com/example/ullr/ullr/files/ListedLink" (23 : Nat) "target") : Jvm.Cond).before a0 Z = true := hw _ (List.mem_of_getElem? (i := 55) rfl)
theorem w_56 {Z : State} {a0 : Array Value} (hw : ∀ d ∈ tables_1, d.before a0 Z = true) : ((Jvm.Cond.fieldLink "com/example/ullr/ullr/files/ListedLink" (25 : Nat) "com/example/ullr/ullr/files/ListedLink" "_target" "Ljava/lang/String;") : Jvm.Cond).before a0 Z = true := hw _ (List.mem_of_getElem? (i := 56) rfl)
theorem w_57 {Z : State} {a0 : Array Value} (hw : ∀ d ∈ tables_1, d.before a0 Z = true) : ((Jvm.Cond.laysFinal "com/example/ullr/ullr/files/ListedLink" "com/example/ullr/ullr/files/ListedLink" "_target" "Ljava/lang/String;") : Jvm.Cond).before a0 Z = true := hw _ (List.mem_of_getElem? (i := 57) rfl)
theorem w_58 {Z : State} {a0 : Array Value} (hw : ∀ d ∈ tables_1, d.before a0 Z = true) : ((Jvm.Cond.methodLink "com/example/ullr/ullr/files/ListedLinkEqualsPinLaw" (27 : Nat) ({ cls := "com/example/ullr/ullr/files/ListedLinkEqualsPinLaw", name := "same", desc := "(II)Z" } : Jvm.MethodName)) : Jvm.Cond).before a0 Z = true := hw _ (List.mem_of_getElem? (i := 58) rfl)
theorem w_59 {Z : State} {a0 : Array Value} (hw : ∀ d ∈ tables_1, d.before a0 Z = true) : ((Jvm.Cond.static ({ cls := "com/example/ullr/ullr/files/ListedLinkEqualsPinLaw", name := "same", desc := "(II)Z" } : Jvm.MethodName)) : Jvm.Cond).before a0 Z = true := hw _ (List.mem_of_getElem? (i := 59) rfl)
theorem w_60 {Z : State} {a0 : Array Value} (hw : ∀ d ∈ tables_1, d.before a0 Z = true) : ((Jvm.Cond.code ({ cls := "com/example/ullr/ullr/files/ListedLinkEqualsPinLaw", name := "same", desc := "(II)Z" } : Jvm.MethodName) method_4_code (3 : Nat) (Option.some Jvm.ClassFile.FieldType.boolean)) : Jvm.Cond).before a0 Z = true := hw _ (List.mem_of_getElem? (i := 60) rfl)
theorem w_61 {Z : State} {a0 : Array Value} (hw : ∀ d ∈ tables_1, d.before a0 Z = true) : ((Jvm.Cond.methodLink "com/example/ullr/ullr/files/ListedLinkEqualsPinLaw" (31 : Nat) ({ cls := "com/example/ullr/ullr/files/ListedLink", name := "equals", desc := "(Ljava/lang/Object;)Z" } : Jvm.MethodName)) : Jvm.Cond).before a0 Z = true := hw _ (List.mem_of_getElem? (i := 61) rfl)
theorem w_62 {Z : State} {a0 : Array Value} (hw : ∀ d ∈ tables_1, d.before a0 Z = true) : ((Jvm.Cond.declares ({ cls := "com/example/ullr/ullr/files/ListedLink", name := "equals", desc := "(Ljava/lang/Object;)Z" } : Jvm.MethodName)) : Jvm.Cond).before a0 Z = true := hw _ (List.mem_of_getElem? (i := 62) rfl)
theorem w_63 {Z : State} {a0 : Array Value} (hw : ∀ d ∈ tables_1, d.before a0 Z = true) : ((Jvm.Cond.instanceMethod ({ cls := "com/example/ullr/ullr/files/ListedLink", name := "equals", desc := "(Ljava/lang/Object;)Z" } : Jvm.MethodName)) : Jvm.Cond).before a0 Z = true := hw _ (List.mem_of_getElem? (i := 63) rfl)
theorem w_64 {Z : State} {a0 : Array Value} (hw : ∀ d ∈ tables_1, d.before a0 Z = true) : ((Jvm.Cond.selects "com/example/ullr/ullr/files/ListedLink" ({ cls := "com/example/ullr/ullr/files/ListedLink", name := "equals", desc := "(Ljava/lang/Object;)Z" } : Jvm.MethodName) ({ cls := "com/example/ullr/ullr/files/ListedLink", name := "equals", desc := "(Ljava/lang/Object;)Z" } : Jvm.MethodName)) : Jvm.Cond).before a0 Z = true := hw _ (List.mem_of_getElem? (i := 64) rfl)
theorem w_65 {Z : State} {a0 : Array Value} (hw : ∀ d ∈ tables_1, d.before a0 Z = true) : ((Jvm.Cond.code ({ cls := "com/example/ullr/ullr/files/ListedLink", name := "equals", desc := "(Ljava/lang/Object;)Z" } : Jvm.MethodName) prog_27_method_4_code (3 : Nat) (Option.some Jvm.ClassFile.FieldType.boolean)) : Jvm.Cond).before a0 Z = true := hw _ (List.mem_of_getElem? (i := 65) rfl)
theorem w_66 {Z : State} {a0 : Array Value} (hw : ∀ d ∈ tables_1, d.before a0 Z = true) : ((Jvm.Cond.classLink "com/example/ullr/ullr/files/ListedLink" (18 : Nat) "com/example/ullr/ullr/files/ListedLink") : Jvm.Cond).before a0 Z = true := hw _ (List.mem_of_getElem? (i := 66) rfl)
theorem w_68 {Z : State} {a0 : Array Value} (hw : ∀ d ∈ tables_1, d.before a0 Z = true) : ((Jvm.Cond.methodLink "com/example/ullr/ullr/files/ListedLink" (28 : Nat) ({ cls := "java/lang/String", name := "equals", desc := "(Ljava/lang/Object;)Z" } : Jvm.MethodName)) : Jvm.Cond).before a0 Z = true := hw _ (List.mem_of_getElem? (i := 68) rfl)
theorem w_69 {Z : State} {a0 : Array Value} (hw : ∀ d ∈ tables_1, d.before a0 Z = true) : ((Jvm.Cond.declares ({ cls := "java/lang/String", name := "equals", desc := "(Ljava/lang/Object;)Z" } : Jvm.MethodName)) : Jvm.Cond).before a0 Z = true := hw _ (List.mem_of_getElem? (i := 69) rfl)
theorem w_70 {Z : State} {a0 : Array Value} (hw : ∀ d ∈ tables_1, d.before a0 Z = true) : ((Jvm.Cond.instanceMethod ({ cls := "java/lang/String", name := "equals", desc := "(Ljava/lang/Object;)Z" } : Jvm.MethodName)) : Jvm.Cond).before a0 Z = true := hw _ (List.mem_of_getElem? (i := 70) rfl)
theorem w_71 {Z : State} {a0 : Array Value} (hw : ∀ d ∈ tables_1, d.before a0 Z = true) : ((Jvm.Cond.selects "java/lang/String" ({ cls := "java/lang/String", name := "equals", desc := "(Ljava/lang/Object;)Z" } : Jvm.MethodName) ({ cls := "java/lang/String", name := "equals", desc := "(Ljava/lang/Object;)Z" } : Jvm.MethodName)) : Jvm.Cond).before a0 Z = true := hw _ (List.mem_of_getElem? (i := 71) rfl)
theorem w_72 {Z : State} {a0 : Array Value} (hw : ∀ d ∈ tables_1, d.before a0 Z = true) : ((Jvm.Cond.code ({ cls := "java/lang/String", name := "equals", desc := "(Ljava/lang/Object;)Z" } : Jvm.MethodName) jdk_42_method_66_code (3 : Nat) (Option.some Jvm.ClassFile.FieldType.boolean)) : Jvm.Cond).before a0 Z = true := hw _ (List.mem_of_getElem? (i := 72) rfl)
theorem w_78 {Z : State} {a0 : Array Value} (hw : ∀ d ∈ tables_1, d.before a0 Z = true) : ((Jvm.Cond.superclass "java/lang/String" "java/lang/Object") : Jvm.Cond).before a0 Z = true := hw _ (List.mem_of_getElem? (i := 78) rfl)
theorem w_79 {Z : State} {a0 : Array Value} (hw : ∀ d ∈ tables_1, d.before a0 Z = true) : ((Jvm.Cond.noSuperclass "java/lang/Object") : Jvm.Cond).before a0 Z = true := hw _ (List.mem_of_getElem? (i := 79) rfl)
theorem own_big {c : Int32} (q : (65535 : Int32) < c) : (255 : Int32) < c := by
  rw [Int32.lt_iff_toInt_lt] at q ⊢
  have e1 : (65535 : Int32).toInt = 65535 := by decide
  have e2 : (255 : Int32).toInt = 255 := by decide
  omega
def own_b8 (cs : List Int32) : List Value := (cs.map fun c => c.toInt8.toInt32).map Value.int
def own_Str (Z : State) (h : Heap) (x t : Addr) (k : ClassId) (cs : List Int32) : Prop := Exa Z h x "java/lang/String" ∧ Fld Z h x "java/lang/String" "value" "[B" (.ref t) ∧ Fld Z h x "java/lang/String" "coder" "B" (.int (0 : Int32)) ∧ Arv Z h t k .byte (Int32.ofNat cs.length) (own_b8 cs) (.int 0) ∧ cs.length ≤ 4000 ∧ ∀ c ∈ cs, ¬ c < 0 ∧ ¬ (255 : Int32) < c
theorem own_up {Z : State} {h : Heap} {x t : Addr} {k : ClassId} {cs : List Int32} (S : own_Str Z h x t k cs) : ∀ c ∈ cs, ¬ c < 0 ∧ ¬ (65535 : Int32) < c := fun c hc => ⟨(S.2.2.2.2.2 c hc).1, fun q => (S.2.2.2.2.2 c hc).2 (own_big q)⟩
theorem own_w_backV {Z : State} {a0 : Array Value} (hw : ∀ d ∈ tables_1, d.before a0 Z = true) : ∀ d ∈ StrChars.Road.words, d.before a0 Z = true := fun d hd => hw d ((by decide +kernel : ∀ d ∈ StrChars.Road.words, d ∈ tables_1) d hd)
theorem own_w_eqW {Z : State} {a0 : Array Value} (hw : ∀ d ∈ tables_1, d.before a0 Z = true) : ∀ d ∈ StrChars.Road.wordsEq, d.before a0 Z = true := fun d hd => hw d ((by decide +kernel : ∀ d ∈ StrChars.Road.wordsEq, d ∈ tables_1) d hd)
theorem own_cod {Z : State} {h : Heap} {x t : Addr} {k : ClassId} {cs : List Int32} (S : own_Str Z h x t k cs) : StrChars.Road.CodA cs 0 (Int32.ofNat cs.length) (own_b8 cs) := StrChars.Road.codOf rfl (fun c hc => (S.2.2.2.2.2 c hc).2)
theorem own_seq {p : Program} {l : Launch} {e : Env} {R : Room} {s : State} {args : Array Value} {below : List Frame} {len W : Nat} {Z : State} {a0 : Array Value} {h : Heap} (hZ : Z.Warmed39 s.vm) (hw : ∀ d ∈ tables_1, d.before a0 Z = true) {x t y u : Addr} {k k' : ClassId} {cs ds : List Int32} {z : Int32} (S : own_Str Z h x t k cs) (S' : own_Str Z h y u k' ds) (C : Sta Z h "java/lang/String" "COMPACT_STRINGS" "Z" (.int z)) (hz : ¬ (z = (0 : Int32))) (hfr : 2 ≤ R.frames) (hlo : W + 28 ≤ R.locals) :
    Back l R p e below s args (⟨"java/lang/String", "equals", "(Ljava/lang/Object;)Z"⟩ : MethodName) len W (fun P a => a = #[.ref x, .ref y] ∧ P.U.heap = h ∧ P.cells + 0 ≤ R.cells ∧ P.slots + 0 ≤ R.slots) (fun P _ v B => ∃ L, (v = some (.int (if cs = ds then (1 : Int32) else (0 : Int32))) ∧ L = [] ∧ B.U.heap = h) ∧ B.locs = P.locs ++ L ∧ B.cells = P.cells + 0 ∧ B.slots = P.slots + 0) := by
  refine Back.mono (StrChars.Road.eqW hZ (own_w_eqW hw) (w_8 hw) S.1 S.2.1 S.2.2.1 S.2.2.2.1 (own_cod S) (own_up S) S.2.2.2.2.1 S'.1 S'.2.1 S'.2.2.1 S'.2.2.2.1 (own_cod S') (own_up S') S'.2.2.2.2.1 C hz hfr hlo) (fun _ _ h => h) (fun P a v B hp hq => ?_)
  obtain ⟨L, ⟨h1, h2, h3⟩, h4⟩ := hq
  refine ⟨L, ⟨?_, h2, h3⟩, h4⟩
  rcases h1 with ⟨rfl, q⟩ | ⟨rfl, q⟩
  · rw [if_pos q]
  · rw [if_neg q]
theorem own_new {p : Program} {l : Launch} {e : Env} {R : Room} {s : State} {args : Array Value} {below : List Frame} {len W : Nat} {Z : State} {a0 : Array Value} {h : Heap} (hZ : Z.Warmed39 s.vm) (hw : ∀ d ∈ tables_1, d.before a0 Z = true) {x b : Addr} {kC : ClassId} {cs : List Int32} {d v0 c0 : Value} {z N : Int32} {n n0 : Nat} (hx0 : n0 ≤ x) (hh0 : n0 ≤ h.size) (E : Exa Z h x "java/lang/String") (V : Fld Z h x "java/lang/String" "value" "[B" v0) (C : Fld Z h x "java/lang/String" "coder" "B" c0) (K : Arv Z h b kC .char N (cs.map Value.int) d) (S : Sta Z h "java/lang/String" "COMPACT_STRINGS" "Z" (.int z)) (hz : ¬ (z = (0 : Int32))) (hn : cs.length = n) (hN : N = Int32.ofNat n) (l0 : 0 < n) (l2 : n ≤ 4000) (hp : ∀ c ∈ cs, ¬ c < 0 ∧ ¬ (255 : Int32) < c) (hfr : 4 ≤ R.frames) (hlo : W + 65 ≤ R.locals) :
    Back l R p e below s args (⟨"java/lang/String", "<init>", "([C)V"⟩ : MethodName) len W (fun P a => a = #[.ref x, .ref b] ∧ P.U.heap = h ∧ P.cells + 1 ≤ R.cells ∧ P.slots + n ≤ R.slots)
      (fun P _ v B => ∃ L, (v = none ∧ Fr n0 L ∧ Keep h B.U.heap [x] ∧ ∃ (t : Addr) (kb : ClassId), h.size ≤ t ∧ own_Str Z B.U.heap x t kb cs) ∧ B.locs = P.locs ++ L ∧ B.cells = P.cells + 1 ∧ B.slots = P.slots + n) := by
  refine Back.mono (StrChars.Road.backV hZ (own_w_backV hw) (w_8 hw) hx0 hh0 E V C K S hz hn hN l0 l2 hp rfl hfr hlo) (fun _ _ h => h) (fun P a v B hp' hq => ?_)
  obtain ⟨L, ⟨h1, h2, h3, h4, h5, t, kb, h6, h7, h8, h9, h10⟩, h11⟩ := hq
  subst hn hN
  exact ⟨L, ⟨h1, h2, h3, t, kb, h7, h4, h9, h5, h10, l2, hp⟩, h11⟩

def own_EL : List (String × Nat) := [("java/lang/String", 7)]
theorem own_EW {Z : State} {a0 : Array Value} (hw : ∀ d ∈ tables_1, d.before a0 Z = true) : EW Z a0 own_EL := (EW.cons (w_21 hw) (by decide) EW.nil)
theorem own_wS {Z : State} {a0 : Array Value} (hw : ∀ d ∈ tables_1, d.before a0 Z = true) : ∀ a ∈ Bundle.stringAtoms, a.before a0 Z = true := fun d hd => hw d ((by decide +kernel : ∀ d ∈ Bundle.stringAtoms, d ∈ tables_1) d hd)
theorem own_sf0 {Z : State} {EL : List (String × Nat)} {vm0 : Vm} {h : Heap} : ∀ x ∈ ([] : List Addr), x < h.size ∧ Safe Z EL vm0 h x := fun _ q => nomatch q
theorem own_sfS {Z : State} {EL : List (String × Nat)} {vm0 : Vm} {h : Heap} {x : Addr} {ws : List Addr} (n1 : x < h.size) (n : Safe Z EL vm0 h x) (r : ∀ y ∈ ws, y < h.size ∧ Safe Z EL vm0 h y) : ∀ y ∈ x :: ws, y < h.size ∧ Safe Z EL vm0 h y := fun y q => by
  rcases List.mem_cons.mp q with rfl | q
  · exact ⟨n1, n⟩
  · exact r y q
theorem own_backOfSH {p : Program} {l : Launch} {e : Env} {R : Room} {s : State} {args : Array Value} {below : List Frame} {Z : State} {a0 : Array Value} {EL : List (String × Nat)} {h : Heap} {vm0 : Vm} {sf : List Addr} {y : MethodName} {bytes : ByteArray} {maxL : Nat} {ret : Option FieldType} {rm : Room} {len W : Nat} {as' : Array Value} {Q : Option Value → Heap → List Loc → Prop}
    (hM : MetFree l y (head1 [Jvm.Cond.code y bytes maxL ret] rm) (fun a U => a = as' ∧ Z.Warmed39 U.vm ∧ U.heap = h ∧ CHv Z EL U.vm h ∧ ∀ x ∈ sf, Safe Z EL U.vm h x) (fun _ _ _ _ _ => True) (fun _ U o U' => ∃ v L, o = .returned v ∧ Q v U'.heap L ∧ CHr Z EL U.vm U.heap U'.vm U'.heap ∧ ReturnedEndW U o U' L rm.cells rm.slots))
    (hZ : Z.Warmed39 vm0) (wc : (Jvm.Cond.code y bytes maxL ret).before a0 Z = true) (wz : (Jvm.Cond.initialized y.cls).before a0 Z = true) (hf : rm.frames + 1 ≤ R.frames) (hl : W + (maxL + 11) + rm.locals ≤ R.locals) (hEL : EW Z a0 EL) (H : CHv Z EL vm0 h) (hsf : ∀ x ∈ sf, x < h.size ∧ Safe Z EL vm0 h x) :
    BackS l R p e below (s.setVm vm0) args y len W (fun A a => a = as' ∧ A.U.heap = h ∧ A.cells + rm.cells ≤ R.cells ∧ A.slots + rm.slots ≤ R.slots)
      (fun A _ v B => ∃ L, Q v B.U.heap L ∧ B.locs = A.locs ++ L ∧ B.cells = A.cells + rm.cells ∧ B.slots = A.slots + rm.slots ∧ CHr Z EL vm0 h B.U.vm B.U.heap) :=
  BackS.of_freeW (bytes := bytes) (maxL := maxL) (ret := ret) (E := fun _ first o t L k n => k = rm.cells ∧ n = rm.slots ∧ (∃ v, o = .returned v ∧ Q v t.heap L) ∧ CHr Z EL first.vm first.heap t.vm t.heap) hM hf hl
    (fun m meth c A a Y hp => have hU : Z.Warmed39 A.U.vm := wtrans (s := s.setVm vm0) hZ Y.warmed
      ⟨by show (Jvm.Cond.and _ .tt).before a A.U = true; rw [Cond.before_and, mv hU wc]; rfl, mv hU wc, mv hU wz, hp.2.2.1, hp.2.2.2⟩)
    (fun m meth c A a g mk Y hp => ⟨hp.1, wtrans (s := s.setVm vm0) hZ Y.warmed, hp.2.1, (CHv.at Y hZ hEL H).1, fun x hx => (CHv.at Y hZ hEL H).safe (hsf x hx).1 (hsf x hx).2⟩) (fun _ _ _ _ _ _ _ _ _ => trivial)
    (fun _ _ _ _ ⟨v, L, h1, h2, h3, h4⟩ => ⟨L, _, _, h4, rfl, rfl, ⟨v, h1, h2⟩, h3⟩)
    (fun m meth c A a g mk v t L k n Y hp _ _ ⟨e1, e2, ⟨v', e3, e4⟩, e5⟩ => by
      cases e3; subst e1 e2
      refine ⟨L, e4, rfl, rfl, rfl, (CHv.at Y hZ hEL H).trans ?_⟩
      rw [← hp.2.1]; exact e5)


theorem own_c255 (x : Int32) : ¬ (x &&& (255 : Int32)) < 0 ∧ ¬ (255 : Int32) < (x &&& (255 : Int32)) := by
  have h : (x &&& (255 : Int32)).toBitVec.toNat ≤ 255 := by
    show ((x.toBitVec &&& 255#32)).toNat ≤ 255
    rw [BitVec.toNat_and]
    exact Nat.and_le_right
  have e : (x &&& (255 : Int32)).toInt = ((x &&& (255 : Int32)).toBitVec.toNat : Int) := by
    show (x &&& (255 : Int32)).toBitVec.toInt = _
    rw [BitVec.toInt_eq_toNat_cond, if_pos (by omega)]
  constructor <;> rw [Int32.lt_iff_toInt_lt, e]
  · show ¬ _ < (0 : Int); omega
  · show ¬ (255 : Int) < _; omega
theorem own_rem (a b : Nat) (ha : a < 2147483648) (hb : b + 1 < 2147483648) : Int32.ofNat a % Int32.ofNat (b + 1) = Int32.ofNat (a % (b + 1)) := by
  apply Int32.toInt_inj.mp
  have h1 : a % (b + 1) ≤ a := Nat.mod_le _ _
  rw [Int32.toInt_mod, own_toI ha, own_toI hb, own_toI (by omega)]
  rw [Int.tmod_eq_emod_of_nonneg (by omega)]
  omega
theorem own_nz (b : Nat) (hb : b + 1 < 2147483648) : Int32.ofNat (b + 1) ≠ 0 := fun h => by
  have q := congrArg Int32.toInt h
  rw [own_toI hb] at q
  have e : (0 : Int32).toInt = 0 := by decide
  rw [e] at q; omega


theorem own_and3c (x : Int32) : (x &&& (3 : Int32)) = (0 : Int32) ∨ (x &&& (3 : Int32)) = (1 : Int32) ∨ (x &&& (3 : Int32)) = (2 : Int32) ∨ (x &&& (3 : Int32)) = (3 : Int32) := by
  have h : (x &&& (3 : Int32)).toBitVec.toNat ≤ 3 := by
    show ((x.toBitVec &&& 3#32)).toNat ≤ 3
    rw [BitVec.toNat_and]
    exact Nat.and_le_right
  have q : ∀ n : Nat, (x &&& (3 : Int32)).toBitVec.toNat = n → n < 4294967296 → (x &&& (3 : Int32)) = Int32.ofBitVec (BitVec.ofNat 32 n) := fun n e hn => by
    apply Int32.toBitVec_inj.mp
    apply BitVec.eq_of_toNat_eq
    rw [e]
    show n = n % 4294967296
    omega
  have c : (x &&& (3 : Int32)).toBitVec.toNat = 0 ∨ (x &&& (3 : Int32)).toBitVec.toNat = 1 ∨ (x &&& (3 : Int32)).toBitVec.toNat = 2 ∨ (x &&& (3 : Int32)).toBitVec.toNat = 3 := by omega
  rcases c with c | c | c | c
  · exact Or.inl (q 0 c (by omega))
  · exact Or.inr (Or.inl (q 1 c (by omega)))
  · exact Or.inr (Or.inr (Or.inl (q 2 c (by omega))))
  · exact Or.inr (Or.inr (Or.inr (q 3 c (by omega))))


def own_ch (p i : Int32) : Int32 := ((p.toUInt32 >>> (((2 : Int32) + ((8 : Int32) * i)) &&& 31).toUInt32).toInt32) &&& (255 : Int32)
theorem own_nch (p i : Int32) : nar .char (own_ch p i) = own_ch p i := i2c_mask _
theorem own_chb (p i : Int32) : ¬ own_ch p i < 0 ∧ ¬ (255 : Int32) < own_ch p i := own_c255 _
def own_mk (p : Int32) : List Int32 := if (p &&& (3 : Int32)) = (0 : Int32) then [] else if (p &&& (3 : Int32)) = (1 : Int32) then [own_ch p (0 : Int32)] else if (p &&& (3 : Int32)) = (2 : Int32) then [own_ch p (0 : Int32), own_ch p (1 : Int32)] else [own_ch p (0 : Int32), own_ch p (1 : Int32), own_ch p (2 : Int32)]
def own_same (x y : Int32) : Int32 := if (x &&& (3 : Int32)) = (y &&& (3 : Int32)) then (if (x &&& (3 : Int32)) < (1 : Int32) then (if (x &&& (3 : Int32)) < (2 : Int32) then (if (x &&& (3 : Int32)) < (3 : Int32) then 1 else if own_ch x (2 : Int32) = own_ch y (2 : Int32) then 1 else 0) else if own_ch x (1 : Int32) = own_ch y (1 : Int32) then (if (x &&& (3 : Int32)) < (3 : Int32) then 1 else if own_ch x (2 : Int32) = own_ch y (2 : Int32) then 1 else 0) else 0) else if own_ch x (0 : Int32) = own_ch y (0 : Int32) then (if (x &&& (3 : Int32)) < (2 : Int32) then (if (x &&& (3 : Int32)) < (3 : Int32) then 1 else if own_ch x (2 : Int32) = own_ch y (2 : Int32) then 1 else 0) else if own_ch x (1 : Int32) = own_ch y (1 : Int32) then (if (x &&& (3 : Int32)) < (3 : Int32) then 1 else if own_ch x (2 : Int32) = own_ch y (2 : Int32) then 1 else 0) else 0) else 0) else 0
theorem own_same_iff (x y : Int32) : own_same x y = if own_mk x = own_mk y then 1 else 0 := by
  unfold own_same own_mk
  rcases own_and3c x with h | h | h | h <;> rcases own_and3c y with g | g | g | g <;> rw [h, g] <;> simp
  all_goals (first | rfl | (repeat' split) <;> simp_all)
theorem own_sm0 {x y : Int32} (h : own_same x y = 0) : own_mk x ≠ own_mk y := fun e => by rw [own_same_iff, if_pos e] at h; exact absurd h (by decide)
theorem own_sm1 {x y : Int32} (h : ¬ own_same x y = 0) : own_mk x = own_mk y := Classical.byContradiction fun e => h (by rw [own_same_iff, if_neg e])
def own_leq (a b c d : List Int32) : Int32 := if (if a = b then (1 : Int32) else (0 : Int32)) = (0 : Int32) then 0 else if (if c = d then (1 : Int32) else (0 : Int32)) = (0 : Int32) then 0 else 1
theorem own_leq_eq (a b c d : List Int32) : own_leq a b c d = if a = b ∧ c = d then 1 else 0 := by
  unfold own_leq
  by_cases h : a = b <;> by_cases g : c = d <;> simp [h, g]
theorem own_NSroot {Z : State} {a0 : Array Value} {O K : String} {n : Nat} (w : (Jvm.Cond.noSuperclass O).before a0 Z = true) (wk : (Jvm.Cond.instantiable K n).before a0 Z = true) (hn : O ≠ K) : NS Z O K := by
  obtain ⟨c, k, h1, h2, h3, -, -⟩ := Cond.noSuperclass_spec w
  obtain ⟨t, kt, g1, -⟩ := Cond.instantiable_spec wk
  have ne := ids_ne h1 g1 hn
  refine ⟨c, t, h1, g1, fun fuel => ?_⟩
  cases fuel with
  | zero => rfl
  | succ f => simp [Vm.isSubclassAux, ne, h2, h3]

theorem own_NSno {Z : State} {a0 : Array Value} {C S K : String} {m : Nat} (w : (Jvm.Cond.superclass C S).before a0 Z = true) (wk : (Jvm.Cond.instantiable K m).before a0 Z = true) (n : NS Z C K) (hn : C ≠ K) : ∃ c t, Z.vm.findClass C = some c ∧ Z.vm.findClass K = some t ∧ Z.vm.assignable c t = false := by
  obtain ⟨c, t, h0, g0, n3⟩ := n
  obtain ⟨p, k, kp, h1, h2, h3, h4, h5, -, h7⟩ := Cond.superclass_spec h0 w
  obtain ⟨q, k', g1, g2, g5, gf, -⟩ := Cond.instantiable_spec wk
  cases g0.symm.trans g1
  have ne := ids_ne h0 g0 hn
  refine ⟨c, t, h0, g0, ?_⟩
  show Z.vm.assignableAux (255 + 1) c t = false
  have g7 : k'.isInterface = false := by simp_all [Class.isInterface]
  simp [Vm.assignableAux, ne, h2, g2, h5, g5, g7, Vm.isSubclass, n3]

theorem ef_se4 (m : MethodId) (x0 : Addr) (x1 : Addr) (x2 : Int32) (x3 : Int32) : entryFrame m #[(.ref x0), (.ref x1), (.int x2), (.int x3), .null] 6 = mkF m 0 #[.val (.ref x0), .val (.ref x1), .val (.int x2), .val (.int x3), .val .null, .unset] [] := by first | (simp [entryFrame, mkF, argsToLocals, Value.category]; done) | rfl
def Q_se4 (Z : State) (x : Addr) (b : Addr) (u1 : Value) (u2 : Value) (h0 : Heap) (n0 : Nat) (vV : Option Value) (h : Heap) (LL : List Loc) : Prop := ∃ (t : Addr) (k : ClassId), vV = none ∧ Fr n0 LL ∧ Keep h0 h [x] ∧ own_Str Z h x t k []
set_option maxRecDepth 65536 in
set_option maxHeartbeats 40000000 in
theorem rm_se4 (l : Launch) (Z : State) (a0 : Array Value) (hw : ∀ d ∈ tables_1, d.before a0 Z = true) (ws : List Jvm.Cond) (x : Addr) (b : Addr) (u1 : Value) (u2 : Value) (h0 : Heap) (n0 : Nat) (O0 : Old Z n0 h0) (E_x : Exa Z h0 x "java/lang/String") (F_x_value : Fld Z h0 x "java/lang/String" "value" "[B" u1) (F_x_coder : Fld Z h0 x "java/lang/String" "coder" "B" u2) (g_x : n0 ≤ x) :
    MetFree l (⟨"java/lang/String", "<init>", "([CIILjava/lang/Void;)V"⟩ : MethodName) (head1 (Jvm.Cond.code (⟨"java/lang/String", "<init>", "([CIILjava/lang/Void;)V"⟩ : MethodName) jdk_42_method_149_code 6 none :: ws) ({ frames := 1, cells := 4, slots := 8, locals := 12 } : Room)) (fun aa_ U => aa_ = #[(.ref x), (.ref b), (.int (0 : Int32)), (.int (0 : Int32)), .null] ∧ Z.Warmed39 U.vm ∧ U.heap = h0 ∧ CHv Z own_EL U.vm h0 ∧ ∀ xX_ ∈ ([x] : List Addr), Safe Z own_EL U.vm h0 xX_) (fun _ _ _ _ _ => True) (fun _ U o U' => ∃ vV LL, o = .returned vV ∧ Q_se4 Z x b u1 u2 h0 n0 vV U'.heap LL ∧ CHr Z own_EL U.vm U.heap U'.vm U'.heap ∧ ReturnedEndW U o U' LL ({ frames := 1, cells := 4, slots := 8, locals := 12 } : Room).cells ({ frames := 1, cells := 4, slots := 8, locals := 12 } : Room).slots) := by
  refine MetFree.of_bodySF (plainFor_of_name pn_0) hisR ?_
  intro pP eE sS mM args below meth cC s₁ Bd hml0 hP hK
  obtain ⟨rfl, hZ, hh, hCH, hSf⟩ := hP
  have hx := Bd.exec
  have hby := Bd.bytes
  have hml : cC.maxLocals = 6 := hml0
  have hown : sS.vm.findClass "java/lang/String" = some mM.cls := findClass_of_methodNamed Bd.named
  have hnm := (name_of_methodNamed Bd.named Bd.method).1
  have X0 : Stand pP l eE ({ frames := 1, cells := 4, slots := 8, locals := 12 } : Room) (sS.setVm sS.vm) mM #[(.ref x), (.ref b), (.int (0 : Int32)), (.int (0 : Int32)), .null] below meth cC s₁ [] 0 0 := Stand.of_body Bd
  have e0 : s₁.heap = h0 := by rw [← hh, Bd.state]; rfl
  have N0 := Fr.nil n0
  have pre0 : ∀ tg, Steps pP.tables eE below (s₁.setTop (mkF mM 0 #[.val (.ref x), .val (.ref b), .val (.int (0 : Int32)), .val (.int (0 : Int32)), .val .null, .unset] [])) tg → Steps pP.tables eE below (s₁.setTop (entryFrame mM #[(.ref x), (.ref b), (.int (0 : Int32)), (.int (0 : Int32)), .null] 6)) tg := fun tg kg => castTop (ef_se4 mM x b (0 : Int32) (0 : Int32)) kg
  have K0 : Keep h0 h0 [x] := Keep.refl _ _
  have hZ0 : Z.Warmed39 (sS.setVm sS.vm).vm := hZ
  have hown0 : (sS.setVm sS.vm).vm.findClass "java/lang/String" = some mM.cls := hown
  have hS0 : sS.Since sS.vm 0 := (State.WarmedH.refl sS).since 0
  have hk0 : 0 ≤ h0.size := Nat.zero_le _
  have CH0 : CHr Z own_EL sS.vm h0 sS.vm h0 := CHr.refl hCH
  have hEL := own_EW hw
  have wS := own_wS hw
  have Sf_x : Safe Z own_EL sS.vm h0 x := hSf _ (List.mem_of_getElem? (i := 0) rfl)
  obtain ⟨T1, X1, e1, st1⟩ := initO X0 hx hZ0 hown0 (w_18 hw) (w_19 hw) (w_20 hw) e0 (g := (mkF mM 1 #[.val (.ref x), .val (.ref b), .val (.int (0 : Int32)), .val (.int (0 : Int32)), .val .null, .unset] [(.ref x)])) rfl (by rw [hml]; rfl) rfl (hb hby d_jdk_42_method_149_1) (by decide) (W := 0) (by show 2 * 0 + _ ≤ _; exact Nat.le_of_eq rfl) (by decide)
  obtain ⟨a2, T2, h2, k2, b2, kb2, X2, e2, E2, hS2, hk2, hZ2, hown2, La2, Lb2, Lc2, Ld2, -, -, CHl2, Lit2, Ls2, st2⟩ := ldcCH X1 hx hZ0 hown0 (w_21 hw) wS e1 hS0 hk0 hEL (List.mem_of_getElem? (i := 0) rfl) CH0.1 (vs := []) (z := 0) ⟨by decide, by decide⟩ (by decide) rfl (g := (mkF mM 9 #[.val (.ref x), .val (.ref b), .val (.int (0 : Int32)), .val (.int (0 : Int32)), .val .null, .unset] [(.ref x)])) rfl (hb hby d_jdk_42_method_149_9) (n := 0) (by decide) (by decide) (by decide) (by decide)
  have CH3 : CHr Z own_EL sS.vm h0 T2.vm h2 := CH0.trans (CHl2)
  skip
  have K5 : Keep h0 h2 [x] := K0.ext E2
  have f7 := (CHr.safe CHl2 (E_x).lt Sf_x)
  have ln6 := Ls2 _ f7
  obtain ⟨T8, X8, e8, st8⟩ := getF X2 hx hZ2 hown2 (host := "") (Or.inl (w_27 hw)) Via.refl e2 Lc2 (g := (mkF mM 11 #[.val (.ref x), .val (.ref b), .val (.int (0 : Int32)), .val (.int (0 : Int32)), .val .null, .unset] [(.ref a2), (.ref x)])) rfl rfl (hb hby d_jdk_42_method_149_11)
  have f9 := (F_x_value.ext E2)
  have f10 := (E_x.ext E2)
  obtain ⟨T11, h11, X11, e11, W11, st11⟩ := putF X8 hx hZ2 hown2 (host := "") (Or.inl (w_27 hw)) Via.refl e8 f9 f10 (Or.inr ⟨(w_23 hw), rfl, hnm⟩) (w_8 hw) (ty := (.array .byte)) (by decide) rfl rfl (g := (mkF mM 14 #[.val (.ref x), .val (.ref b), .val (.int (0 : Int32)), .val (.int (0 : Int32)), .val .null, .unset] [(.ref b2), (.ref x)])) rfl rfl (hb hby d_jdk_42_method_149_14)
  have sfp13 := f7
  have CH12 : CHr Z own_EL sS.vm h0 T2.vm h11 := CH3.trans (CHr.wr W11 sfp13 CH3.1)
  have hk14 := Nat.le_trans hk2 (Nat.le_of_eq W11.size.symm)
  have K15 : Keep h0 h11 [x] := K5.wr W11 (Or.inl (List.mem_of_getElem? (i := 0) rfl))
  have Fw11 : Fld Z h11 x "java/lang/String" "value" "[B" (.ref b2) := f9.same W11
  have N11 := Fr.snoc X11 N0 g_x
  obtain ⟨a16, T16, h16, k16, b16, kb16, X16, e16, E16, hS16, hk16, hZ16, hown16, La16, Lb16, Lc16, Ld16, -, -, CHl16, Lit16, Ls16, st16⟩ := ldcCH X11 hx hZ2 hown2 (w_21 hw) wS e11 hS2 hk14 hEL (List.mem_of_getElem? (i := 0) rfl) CH12.1 (vs := []) (z := 0) ⟨by decide, by decide⟩ (by decide) rfl (g := (mkF mM 18 #[.val (.ref x), .val (.ref b), .val (.int (0 : Int32)), .val (.int (0 : Int32)), .val .null, .unset] [(.ref x)])) rfl (hb hby d_jdk_42_method_149_18) (n := 0) (by decide) (by decide) (by decide) (by decide)
  have CH17 : CHr Z own_EL sS.vm h0 T16.vm h16 := CH12.trans (CHl16)
  skip
  have K19 : Keep h0 h16 [x] := K15.ext E16
  have f21 := (CHr.safe CHl16 (Nat.lt_of_lt_of_le (Nat.lt_of_lt_of_le (E_x).lt E2.1) (Nat.le_of_eq W11.size.symm)) (Safe.wr W11 sfp13 CH3.1 f7))
  have ln20 := Ls16 _ f21
  obtain ⟨T22, X22, e22, st22⟩ := getF X16 hx hZ16 hown16 (host := "") (Or.inl (w_28 hw)) Via.refl e16 Lb16 (g := (mkF mM 20 #[.val (.ref x), .val (.ref b), .val (.int (0 : Int32)), .val (.int (0 : Int32)), .val .null, .unset] [(.ref a16), (.ref x)])) rfl rfl (hb hby d_jdk_42_method_149_20)
  have f23 := (((F_x_coder.ext E2).other W11 (Or.inr (slot_ne (Or.inr (w_24 hw)) (Or.inr (w_23 hw)) (by decide) (t := .byte) (t' := (.array .byte)) (by decide) (by decide)))).ext E16)
  have f24 := ((f10.wr W11).ext E16)
  obtain ⟨T25, h25, X25, e25, W25, st25⟩ := putFN X22 hx hZ16 hown16 (w_28 hw) Via.refl e22 f23 f24 (Or.inr ⟨(w_24 hw), rfl, hnm⟩) (w_8 hw) (ty := .byte) (v' := (.int (nar .byte (0 : Int32)))) (by decide) rfl (fits_nar_byte _) (g := (mkF mM 23 #[.val (.ref x), .val (.ref b), .val (.int (0 : Int32)), .val (.int (0 : Int32)), .val .null, .unset] [(.int (0 : Int32)), (.ref x)])) rfl rfl (hb hby d_jdk_42_method_149_23)
  have sfp27 := f21
  have CH26 : CHr Z own_EL sS.vm h0 T16.vm h25 := CH17.trans (CHr.wr W25 sfp27 CH17.1)
  have hk28 := Nat.le_trans hk16 (Nat.le_of_eq W25.size.symm)
  have K29 : Keep h0 h25 [x] := K19.wr W25 (Or.inl (List.mem_of_getElem? (i := 0) rfl))
  have Fw25 : Fld Z h25 x "java/lang/String" "coder" "B" (.int (0 : Int32)) := f23.same W25
  have N25 := Fr.snoc X25 N11 g_x
  have f31 := (f24.wr W25)
  have f32 := ((Fw11.ext E16).other W25 (Or.inr (slot_ne (Or.inr (w_23 hw)) (Or.inr (w_24 hw)) (by decide) (t := (.array .byte)) (t' := .byte) (by decide) (by decide))))
  have f33 := (((Ld2.other W11 (Ne.symm ln6.2)).ext E16).other W25 (Ne.symm ln6.2))
  obtain ⟨fs, hr, hrun, hended, hR1, hR2, hR3, hR4⟩ := Stand.leaveW (s := sS) (vm₁ := T16.vm) X25 hS16 (by rw [e25]; exact hk28) (v := none) (fun _ => rfl)
  refine ⟨_, _, pre0 _ ?_, hrun, hended, _, _, rfl, ?_, ?_, hR1, hR2, hR3, hR4.mono (by decide) (by decide)⟩
  · refine XS.aloadN X0.here hx rfl (hb hby d_jdk_42_method_149_0) rfl rfl ?_
    show Steps pP.tables eE below (s₁.setTop (mkF mM 1 #[.val (.ref x), .val (.ref b), .val (.int (0 : Int32)), .val (.int (0 : Int32)), .val .null, .unset] [(.ref x)])) _
    refine st1 _ ?_
    show Steps pP.tables eE below (T1.setTop (mkF mM 4 #[.val (.ref x), .val (.ref b), .val (.int (0 : Int32)), .val (.int (0 : Int32)), .val .null, .unset] [])) _
    refine XS.iloadN X1.here hx rfl (hb hby d_jdk_42_method_149_4) rfl ?_
    show Steps pP.tables eE below (T1.setTop (mkF mM 5 #[.val (.ref x), .val (.ref b), .val (.int (0 : Int32)), .val (.int (0 : Int32)), .val .null, .unset] [(.int (0 : Int32))])) _
    refine XS.ifNo X1.here hx rfl (hb hby d_jdk_42_method_149_5) rfl ((if0 _ _).trans (teq (by decide : (0 : Int32) = (0 : Int32))).2) ?_
    show Steps pP.tables eE below (T1.setTop (mkF mM 8 #[.val (.ref x), .val (.ref b), .val (.int (0 : Int32)), .val (.int (0 : Int32)), .val .null, .unset] [])) _
    refine XS.aloadN X1.here hx rfl (hb hby d_jdk_42_method_149_8) rfl rfl ?_
    show Steps pP.tables eE below (T1.setTop (mkF mM 9 #[.val (.ref x), .val (.ref b), .val (.int (0 : Int32)), .val (.int (0 : Int32)), .val .null, .unset] [(.ref x)])) _
    refine st2 _ ?_
    show Steps pP.tables eE below (T2.setTop (mkF mM 11 #[.val (.ref x), .val (.ref b), .val (.int (0 : Int32)), .val (.int (0 : Int32)), .val .null, .unset] [(.ref a2), (.ref x)])) _
    refine st8 _ ?_
    show Steps pP.tables eE below (T8.setTop (mkF mM 14 #[.val (.ref x), .val (.ref b), .val (.int (0 : Int32)), .val (.int (0 : Int32)), .val .null, .unset] [(.ref b2), (.ref x)])) _
    refine st11 _ ?_
    show Steps pP.tables eE below (T11.setTop (mkF mM 17 #[.val (.ref x), .val (.ref b), .val (.int (0 : Int32)), .val (.int (0 : Int32)), .val .null, .unset] [])) _
    refine XS.aloadN X11.here hx rfl (hb hby d_jdk_42_method_149_17) rfl rfl ?_
    show Steps pP.tables eE below (T11.setTop (mkF mM 18 #[.val (.ref x), .val (.ref b), .val (.int (0 : Int32)), .val (.int (0 : Int32)), .val .null, .unset] [(.ref x)])) _
    refine st16 _ ?_
    show Steps pP.tables eE below (T16.setTop (mkF mM 20 #[.val (.ref x), .val (.ref b), .val (.int (0 : Int32)), .val (.int (0 : Int32)), .val .null, .unset] [(.ref a16), (.ref x)])) _
    refine st22 _ ?_
    show Steps pP.tables eE below (T22.setTop (mkF mM 23 #[.val (.ref x), .val (.ref b), .val (.int (0 : Int32)), .val (.int (0 : Int32)), .val .null, .unset] [(.int (0 : Int32)), (.ref x)])) _
    refine st25 _ ?_
    show Steps pP.tables eE below (T25.setTop (mkF mM 26 #[.val (.ref x), .val (.ref b), .val (.int (0 : Int32)), .val (.int (0 : Int32)), .val .null, .unset] [])) _
    exact X25.returnOut hx Bd.returns (hb hby d_jdk_42_method_149_26) hr
  · show Q_se4 Z x b u1 u2 h0 n0 _ T25.heap _
    rw [e25]
    exact ⟨b2, kb2, rfl, N25, K29, (⟨f31, f32, Fw25, f33, (⟨by decide, by decide⟩ : ([] : List Int32).length ≤ 4000 ∧ ∀ c ∈ ([] : List Int32), ¬ c < 0 ∧ ¬ (255 : Int32) < c)⟩ : own_Str Z h25 x b2 kb2 [])⟩
  · show CHr Z own_EL sS.vm sS.heap T25.vm T25.heap
    rw [hh, e25]
    exact CH26.trans (CHv.at X25 hZ16 hEL CH26.1)
theorem ef_se1 (m : MethodId) (x0 : Addr) (x1 : Addr) : entryFrame m #[(.ref x0), (.ref x1)] 2 = mkF m 0 #[.val (.ref x0), .val (.ref x1)] [] := by first | (simp [entryFrame, mkF, argsToLocals, Value.category]; done) | rfl
def Q_se1 (Z : State) (x : Addr) (b : Addr) (u1 : Value) (u2 : Value) (kb : ClassId) (h0 : Heap) (n0 : Nat) (vV : Option Value) (h : Heap) (LL : List Loc) : Prop := ∃ (t : Addr) (k : ClassId), vV = none ∧ Fr n0 LL ∧ Keep h0 h [x] ∧ own_Str Z h x t k []
set_option maxRecDepth 65536 in
set_option maxHeartbeats 40000000 in
theorem rm_se1 (l : Launch) (Z : State) (a0 : Array Value) (hw : ∀ d ∈ tables_1, d.before a0 Z = true) (ws : List Jvm.Cond) (x : Addr) (b : Addr) (u1 : Value) (u2 : Value) (kb : ClassId) (h0 : Heap) (n0 : Nat) (O0 : Old Z n0 h0) (E_x : Exa Z h0 x "java/lang/String") (F_x_value : Fld Z h0 x "java/lang/String" "value" "[B" u1) (F_x_coder : Fld Z h0 x "java/lang/String" "coder" "B" u2) (g_x : n0 ≤ x) (V_b : Arv Z h0 b kb .char (0 : Int32) [] (.int (0 : Int32))) :
    MetFree l (⟨"java/lang/String", "<init>", "([C)V"⟩ : MethodName) (head1 (Jvm.Cond.code (⟨"java/lang/String", "<init>", "([C)V"⟩ : MethodName) jdk_42_method_3_code 2 none :: ws) ({ frames := 2, cells := 4, slots := 8, locals := 29 } : Room)) (fun aa_ U => aa_ = #[(.ref x), (.ref b)] ∧ Z.Warmed39 U.vm ∧ U.heap = h0 ∧ CHv Z own_EL U.vm h0 ∧ ∀ xX_ ∈ ([x] : List Addr), Safe Z own_EL U.vm h0 xX_) (fun _ _ _ _ _ => True) (fun _ U o U' => ∃ vV LL, o = .returned vV ∧ Q_se1 Z x b u1 u2 kb h0 n0 vV U'.heap LL ∧ CHr Z own_EL U.vm U.heap U'.vm U'.heap ∧ ReturnedEndW U o U' LL ({ frames := 2, cells := 4, slots := 8, locals := 29 } : Room).cells ({ frames := 2, cells := 4, slots := 8, locals := 29 } : Room).slots) := by
  refine MetFree.of_bodySF (plainFor_of_name pn_0) hisR ?_
  intro pP eE sS mM args below meth cC s₁ Bd hml0 hP hK
  obtain ⟨rfl, hZ, hh, hCH, hSf⟩ := hP
  have hx := Bd.exec
  have hby := Bd.bytes
  have hml : cC.maxLocals = 2 := hml0
  have hown : sS.vm.findClass "java/lang/String" = some mM.cls := findClass_of_methodNamed Bd.named
  have hnm := (name_of_methodNamed Bd.named Bd.method).1
  have X0 : Stand pP l eE ({ frames := 2, cells := 4, slots := 8, locals := 29 } : Room) (sS.setVm sS.vm) mM #[(.ref x), (.ref b)] below meth cC s₁ [] 0 0 := Stand.of_body Bd
  have e0 : s₁.heap = h0 := by rw [← hh, Bd.state]; rfl
  have N0 := Fr.nil n0
  have pre0 : ∀ tg, Steps pP.tables eE below (s₁.setTop (mkF mM 0 #[.val (.ref x), .val (.ref b)] [])) tg → Steps pP.tables eE below (s₁.setTop (entryFrame mM #[(.ref x), (.ref b)] 2)) tg := fun tg kg => castTop (ef_se1 mM x b) kg
  have K0 : Keep h0 h0 [x] := Keep.refl _ _
  have hZ0 : Z.Warmed39 (sS.setVm sS.vm).vm := hZ
  have hown0 : (sS.setVm sS.vm).vm.findClass "java/lang/String" = some mM.cls := hown
  have hS0 : sS.Since sS.vm 0 := (State.WarmedH.refl sS).since 0
  have hk0 : 0 ≤ h0.size := Nat.zero_le _
  have CH0 : CHr Z own_EL sS.vm h0 sS.vm h0 := CHr.refl hCH
  have hEL := own_EW hw
  have wS := own_wS hw
  have Sf_x : Safe Z own_EL sS.vm h0 x := hSf _ (List.mem_of_getElem? (i := 0) rfl)
  obtain ⟨cl1, Ar1, -, S1, Nn1, -, -⟩ := id V_b
  obtain ⟨_, _, ⟨T2, L2, k2, n2⟩, -, X2, hS22, hg22, ⟨Lc2, hQ2, l2, y2, z2, CHl2⟩, st2⟩ := X0.specialBackS hx (y := (⟨"java/lang/String", "<init>", "([CIILjava/lang/Void;)V"⟩ : MethodName)) rfl hown0 (mvT hZ0 (w_14 hw)) (mvT hZ0 (w_15 hw)) (mvT hZ0 (w_17 hw)) (by decide) (own_backOfSH (s := sS) (vm0 := sS.vm) (rm := ({ frames := 1, cells := 4, slots := 8, locals := 12 } : Room)) (W := 0) (rm_se4 l Z a0 hw [] x b u1 u2 h0 n0 O0 E_x F_x_value F_x_coder g_x) hZ0 (w_17 hw) (w_9 hw) (by decide) (by decide) hEL CH0.1 (own_sfS (E_x).lt Sf_x own_sf0)) (g := (mkF mM 6 #[.val (.ref x), .val (.ref b)] [.null, (.int (0 : Int32)), (.int (0 : Int32)), (.ref b), (.ref x)])) rfl (by rw [hml]; rfl) (Steps.refl _) (a := x) (argsL := [(.ref b), (.int (0 : Int32)), (.int (0 : Int32)), .null]) (rest := []) (lenOf pd_0 rfl) rfl (by show 2 * 0 + _ ≤ _; exact Nat.le_of_eq rfl) (hb hby d_jdk_42_method_3_6) (fun _ _ => ⟨rfl, e0, (by decide : 0 + 4 ≤ _), (by decide : 0 + 8 ≤ _)⟩)
  dsimp only [Pt.U, Pt.locs, Pt.cells, Pt.slots] at X2 l2 y2 z2 st2 hQ2 hS22 hg22 CHl2
  subst l2 y2 z2
  have hS2 := foldS hS0 (by rw [e0]; exact hk0) hS22 hg22
  have hZ2 : Z.Warmed39 (sS.setVm T2.vm).vm := State.Warmed39.trans (t := sS.setVm sS.vm) hZ0 hS22.1
  have hown2 : (sS.setVm T2.vm).vm.findClass "java/lang/String" = some mM.cls := by rw [show (sS.setVm T2.vm).vm = T2.vm from rfl, hS22.1.alike.findClass]; exact hown0
  have hk2 : T2.heap.size ≤ T2.heap.size := Nat.le_refl _
  replace X2 : Stand pP l eE ({ frames := 2, cells := 4, slots := 8, locals := 29 } : Room) (sS.setVm T2.vm) mM _ below meth cC T2 _ _ _ := X2
  obtain ⟨t_2, k_2, rfl, Nq2, Kq2, q2_0⟩ := hQ2
  have N2 := Fr.app N0 Nq2
  have CH3 : CHr Z own_EL sS.vm h0 T2.vm T2.heap := CH0.trans (CHl2)
  skip
  have K5 : Keep h0 T2.heap [x] := K0.trans Kq2 (allS (Or.inl (List.mem_of_getElem? (i := 0) rfl)) all0)
  obtain ⟨fs, hr, hrun, hended, hR1, hR2, hR3, hR4⟩ := Stand.leaveW (s := sS) (vm₁ := T2.vm) X2 hS2 (hk2) (v := none) (fun _ => rfl)
  refine ⟨_, _, pre0 _ ?_, hrun, hended, _, _, rfl, ?_, ?_, hR1, hR2, hR3, hR4.mono (by decide) (by decide)⟩
  · refine XS.aloadN X0.here hx rfl (hb hby d_jdk_42_method_3_0) rfl rfl ?_
    show Steps pP.tables eE below (s₁.setTop (mkF mM 1 #[.val (.ref x), .val (.ref b)] [(.ref x)])) _
    refine XS.aloadN X0.here hx rfl (hb hby d_jdk_42_method_3_1) rfl rfl ?_
    show Steps pP.tables eE below (s₁.setTop (mkF mM 2 #[.val (.ref x), .val (.ref b)] [(.ref b), (.ref x)])) _
    refine XS.iconst X0.here hx rfl (hb hby d_jdk_42_method_3_2) ?_
    show Steps pP.tables eE below (s₁.setTop (mkF mM 3 #[.val (.ref x), .val (.ref b)] [(.int (0 : Int32)), (.ref b), (.ref x)])) _
    refine XS.aloadN X0.here hx rfl (hb hby d_jdk_42_method_3_3) rfl rfl ?_
    show Steps pP.tables eE below (s₁.setTop (mkF mM 4 #[.val (.ref x), .val (.ref b)] [(.ref b), (.int (0 : Int32)), (.ref b), (.ref x)])) _
    refine X0.arraylength hx (by rw [e0]; exact Ar1.1) (State.isArrayOf_alike hZ0.alike Ar1.2.1) (g := (mkF mM 4 #[.val (.ref x), .val (.ref b)] [(.ref b), (.int (0 : Int32)), (.ref b), (.ref x)])) rfl rfl (hb hby d_jdk_42_method_3_4) _ ?_
    rw [len_of S1 Nn1]
    show Steps pP.tables eE below (s₁.setTop (mkF mM 5 #[.val (.ref x), .val (.ref b)] [(.int (0 : Int32)), (.int (0 : Int32)), (.ref b), (.ref x)])) _
    refine XS.aconstNull X0.here hx rfl (hb hby d_jdk_42_method_3_5) ?_
    show Steps pP.tables eE below (s₁.setTop (mkF mM 6 #[.val (.ref x), .val (.ref b)] [.null, (.int (0 : Int32)), (.int (0 : Int32)), (.ref b), (.ref x)])) _
    refine st2.trans ?_
    show Steps pP.tables eE below (T2.setTop (mkF mM 9 #[.val (.ref x), .val (.ref b)] [])) _
    exact X2.returnOut hx Bd.returns (hb hby d_jdk_42_method_3_9) hr
  · show Q_se1 Z x b u1 u2 kb h0 n0 _ T2.heap _
    exact ⟨t_2, k_2, rfl, N2, K5, (⟨(q2_0).1, (q2_0).2.1, (q2_0).2.2.1, (q2_0).2.2.2.1, (q2_0).2.2.2.2⟩ : own_Str Z T2.heap x t_2 k_2 [])⟩
  · show CHr Z own_EL sS.vm sS.heap T2.vm T2.heap
    rw [hh]
    exact CH3.trans (CHv.at X2 hZ2 hEL CH3.1)
theorem ef_ch (m : MethodId) (x0 : Int32) (x1 : Int32) : entryFrame m #[(.int x0), (.int x1)] 2 = mkF m 0 #[.val (.int x0), .val (.int x1)] [] := by first | (simp [entryFrame, mkF, argsToLocals, Value.category]; done) | rfl
def Q_ch (Z : State) (p : Int32) (i : Int32) (h0 : Heap) (n0 : Nat) (vV : Option Value) (h : Heap) (LL : List Loc) : Prop := vV = some (.int (own_ch p i)) ∧ LL = [] ∧ h = h0
set_option maxRecDepth 65536 in
set_option maxHeartbeats 40000000 in
theorem rm_ch (l : Launch) (Z : State) (a0 : Array Value) (hw : ∀ d ∈ tables_1, d.before a0 Z = true) (ws : List Jvm.Cond) (p : Int32) (i : Int32) (h0 : Heap) (n0 : Nat) (O0 : Old Z n0 h0) :
    MetFree l (⟨"com/example/ullr/ullr/files/ListedLinkEqualsPinLaw", "ch", "(II)C"⟩ : MethodName) (head1 (Jvm.Cond.code (⟨"com/example/ullr/ullr/files/ListedLinkEqualsPinLaw", "ch", "(II)C"⟩ : MethodName) method_2_code 2 (some .char) :: ws) ({ frames := 0, cells := 0, slots := 0, locals := 0 } : Room)) (fun aa_ U => aa_ = #[(.int p), (.int i)] ∧ Z.Warmed39 U.vm ∧ U.heap = h0) (fun _ _ _ _ _ => True) (fun _ U o U' => ∃ vV LL, o = .returned vV ∧ Q_ch Z p i h0 n0 vV U'.heap LL ∧ FrameEnd U o U' LL ({ frames := 0, cells := 0, slots := 0, locals := 0 } : Room).cells ({ frames := 0, cells := 0, slots := 0, locals := 0 } : Room).slots) := by
  refine MetFree.of_bodySF (plainFor_of_name pn_1) hisR ?_
  intro pP eE sS mM args below meth cC s₁ Bd hml0 hP hK
  obtain ⟨rfl, hZ, hh⟩ := hP
  have hx := Bd.exec
  have hby := Bd.bytes
  have hml : cC.maxLocals = 2 := hml0
  have hown : sS.vm.findClass "com/example/ullr/ullr/files/ListedLinkEqualsPinLaw" = some mM.cls := findClass_of_methodNamed Bd.named
  have hnm := (name_of_methodNamed Bd.named Bd.method).1
  have X0 : Stand pP l eE ({ frames := 0, cells := 0, slots := 0, locals := 0 } : Room) sS mM #[(.int p), (.int i)] below meth cC s₁ [] 0 0 := Stand.of_body Bd
  have e0 : s₁.heap = h0 := by rw [← hh, Bd.state]; rfl
  have N0 := Fr.nil n0
  have pre0 : ∀ tg, Steps pP.tables eE below (s₁.setTop (mkF mM 0 #[.val (.int p), .val (.int i)] [])) tg → Steps pP.tables eE below (s₁.setTop (entryFrame mM #[(.int p), (.int i)] 2)) tg := fun tg kg => castTop (ef_ch mM p i) kg
  obtain ⟨fs, hr, hrun, hended, hW, hsame⟩ := X0.leave (v := some (.int (nar .char (((p.toUInt32 >>> (((2 : Int32) + ((8 : Int32) * i)) &&& 31).toUInt32).toInt32) &&& (255 : Int32))))) (fun h => by rw [Bd.returns] at h; cases h)
  refine ⟨_, _, pre0 _ ?_, hrun, hended, _, _, rfl, ?_, ⟨_, rfl⟩, hW, hsame.mono (by decide) (by decide)⟩
  · refine XS.iloadN X0.here hx rfl (hb hby d_method_2_0) rfl ?_
    show Steps pP.tables eE below (s₁.setTop (mkF mM 1 #[.val (.int p), .val (.int i)] [(.int p)])) _
    refine XS.iconst X0.here hx rfl (hb hby d_method_2_1) ?_
    show Steps pP.tables eE below (s₁.setTop (mkF mM 2 #[.val (.int p), .val (.int i)] [(.int (2 : Int32)), (.int p)])) _
    refine XS.bipush X0.here hx rfl (hb hby d_method_2_2) ?_
    show Steps pP.tables eE below (s₁.setTop (mkF mM 4 #[.val (.int p), .val (.int i)] [(.int (8 : Int32)), (.int (2 : Int32)), (.int p)])) _
    refine XS.iloadN X0.here hx rfl (hb hby d_method_2_4) rfl ?_
    show Steps pP.tables eE below (s₁.setTop (mkF mM 5 #[.val (.int p), .val (.int i)] [(.int i), (.int (8 : Int32)), (.int (2 : Int32)), (.int p)])) _
    refine XS.imul X0.here hx rfl (hb hby d_method_2_5) rfl ?_
    show Steps pP.tables eE below (s₁.setTop (mkF mM 6 #[.val (.int p), .val (.int i)] [(.int ((8 : Int32) * i)), (.int (2 : Int32)), (.int p)])) _
    refine XS.iadd X0.here hx rfl (hb hby d_method_2_6) rfl ?_
    show Steps pP.tables eE below (s₁.setTop (mkF mM 7 #[.val (.int p), .val (.int i)] [(.int ((2 : Int32) + ((8 : Int32) * i))), (.int p)])) _
    refine XS.iushr X0.here hx rfl (hb hby d_method_2_7) rfl ?_
    show Steps pP.tables eE below (s₁.setTop (mkF mM 8 #[.val (.int p), .val (.int i)] [(.int ((p.toUInt32 >>> (((2 : Int32) + ((8 : Int32) * i)) &&& 31).toUInt32).toInt32))])) _
    refine XS.sipush X0.here hx rfl (hb hby d_method_2_8) ?_
    show Steps pP.tables eE below (s₁.setTop (mkF mM 11 #[.val (.int p), .val (.int i)] [(.int (255 : Int32)), (.int ((p.toUInt32 >>> (((2 : Int32) + ((8 : Int32) * i)) &&& 31).toUInt32).toInt32))])) _
    refine XS.iand X0.here hx rfl (hb hby d_method_2_11) rfl ?_
    show Steps pP.tables eE below (s₁.setTop (mkF mM 12 #[.val (.int p), .val (.int i)] [(.int (((p.toUInt32 >>> (((2 : Int32) + ((8 : Int32) * i)) &&& 31).toUInt32).toInt32) &&& (255 : Int32)))])) _
    refine XS.i2c X0.here hx rfl (hb hby d_method_2_12) rfl ?_
    show Steps pP.tables eE below (s₁.setTop (mkF mM 13 #[.val (.int p), .val (.int i)] [(.int ((((p.toUInt32 >>> (((2 : Int32) + ((8 : Int32) * i)) &&& 31).toUInt32).toInt32) &&& (255 : Int32)).toUInt32.toUInt16.toUInt32.toInt32))])) _
    rw [i2c_mask ((p.toUInt32 >>> (((2 : Int32) + ((8 : Int32) * i)) &&& 31).toUInt32).toInt32)]
    show Steps pP.tables eE below (s₁.setTop (mkF mM 13 #[.val (.int p), .val (.int i)] [(.int (((p.toUInt32 >>> (((2 : Int32) + ((8 : Int32) * i)) &&& 31).toUInt32).toInt32) &&& (255 : Int32)))])) _
    exact retN X0 hx (t := .char) Bd.returns (by simp) (hb hby d_method_2_13) hr
  · show Q_ch Z p i h0 n0 _ s₁.heap _
    rw [e0]
    exact ⟨(congrArg (fun z => some (Value.int z)) (i2c_mask _)), rfl, rfl⟩
theorem ef_mk (m : MethodId) (x0 : Int32) : entryFrame m #[(.int x0)] 3 = mkF m 0 #[.val (.int x0), .unset, .unset] [] := by first | (simp [entryFrame, mkF, argsToLocals, Value.category]; done) | rfl
def Q_mk (Z : State) (p : Int32) (zc : Int32) (h0 : Heap) (n0 : Nat) (vV : Option Value) (h : Heap) (LL : List Loc) : Prop := ∃ (b : Addr) (t : Addr) (k : ClassId), vV = some (.ref b) ∧ Fr n0 LL ∧ Keep h0 h [] ∧ h0.size ≤ b ∧ own_Str Z h b t k (own_mk p)
set_option maxRecDepth 65536 in
set_option maxHeartbeats 40000000 in
theorem rm_mk (l : Launch) (Z : State) (a0 : Array Value) (hw : ∀ d ∈ tables_1, d.before a0 Z = true) (ws : List Jvm.Cond) (p : Int32) (zc : Int32) (h0 : Heap) (n0 : Nat) (O0 : Old Z n0 h0) (S_COMPACT_STRINGS : Sta Z Z.heap "java/lang/String" "COMPACT_STRINGS" "Z" (.int zc)) (hp1 : (¬ (zc = (0 : Int32)))) :
    MetFree l (⟨"com/example/ullr/ullr/files/ListedLinkEqualsPinLaw", "mk", "(I)Ljava/lang/String;"⟩ : MethodName) (head1 (Jvm.Cond.code (⟨"com/example/ullr/ullr/files/ListedLinkEqualsPinLaw", "mk", "(I)Ljava/lang/String;"⟩ : MethodName) method_3_code 3 (some (.object "java/lang/String")) :: ws) ({ frames := 4, cells := 6, slots := 12, locals := 66 } : Room)) (fun aa_ U => aa_ = #[(.int p)] ∧ Z.Warmed39 U.vm ∧ U.heap = h0 ∧ CHv Z own_EL U.vm h0 ∧ ∀ xX_ ∈ ([] : List Addr), Safe Z own_EL U.vm h0 xX_) (fun _ _ _ _ _ => True) (fun _ U o U' => ∃ vV LL, o = .returned vV ∧ Q_mk Z p zc h0 n0 vV U'.heap LL ∧ CHr Z own_EL U.vm U.heap U'.vm U'.heap ∧ ReturnedEndW U o U' LL ({ frames := 4, cells := 6, slots := 12, locals := 66 } : Room).cells ({ frames := 4, cells := 6, slots := 12, locals := 66 } : Room).slots) := by
  refine MetFree.of_bodySF (plainFor_of_name pn_1) hisR ?_
  intro pP eE sS mM args below meth cC s₁ Bd hml0 hP hK
  obtain ⟨rfl, hZ, hh, hCH, hSf⟩ := hP
  have hx := Bd.exec
  have hby := Bd.bytes
  have hml : cC.maxLocals = 3 := hml0
  have hown : sS.vm.findClass "com/example/ullr/ullr/files/ListedLinkEqualsPinLaw" = some mM.cls := findClass_of_methodNamed Bd.named
  have hnm := (name_of_methodNamed Bd.named Bd.method).1
  have X0 : Stand pP l eE ({ frames := 4, cells := 6, slots := 12, locals := 66 } : Room) (sS.setVm sS.vm) mM #[(.int p)] below meth cC s₁ [] 0 0 := Stand.of_body Bd
  have e0 : s₁.heap = h0 := by rw [← hh, Bd.state]; rfl
  have N0 := Fr.nil n0
  have pre0 : ∀ tg, Steps pP.tables eE below (s₁.setTop (mkF mM 0 #[.val (.int p), .unset, .unset] [])) tg → Steps pP.tables eE below (s₁.setTop (entryFrame mM #[(.int p)] 3)) tg := fun tg kg => castTop (ef_mk mM p) kg
  have K0 : Keep h0 h0 [] := Keep.refl _ _
  have hZ0 : Z.Warmed39 (sS.setVm sS.vm).vm := hZ
  have hown0 : (sS.setVm sS.vm).vm.findClass "com/example/ullr/ullr/files/ListedLinkEqualsPinLaw" = some mM.cls := hown
  have hS0 : sS.Since sS.vm 0 := (State.WarmedH.refl sS).since 0
  have hk0 : 0 ≤ h0.size := Nat.zero_le _
  have CH0 : CHr Z own_EL sS.vm h0 sS.vm h0 := CHr.refl hCH
  have hEL := own_EW hw
  have wS := own_wS hw
  have pre2 : ∀ tg, Steps pP.tables eE below (s₁.setTop (mkF mM 5 #[.val (.int p), .val (.int (p &&& (3 : Int32))), .unset] [(.int (p &&& (3 : Int32)))])) tg → Steps pP.tables eE below (s₁.setTop (entryFrame mM #[(.int p)] 3)) tg := fun tg kg => pre0 tg (by
    refine XS.iloadN X0.here hx rfl (hb hby d_method_3_0) rfl ?_
    show Steps pP.tables eE below (s₁.setTop (mkF mM 1 #[.val (.int p), .unset, .unset] [(.int p)])) _
    refine XS.iconst X0.here hx rfl (hb hby d_method_3_1) ?_
    show Steps pP.tables eE below (s₁.setTop (mkF mM 2 #[.val (.int p), .unset, .unset] [(.int (3 : Int32)), (.int p)])) _
    refine XS.iand X0.here hx rfl (hb hby d_method_3_2) rfl ?_
    show Steps pP.tables eE below (s₁.setTop (mkF mM 3 #[.val (.int p), .unset, .unset] [(.int (p &&& (3 : Int32)))])) _
    refine XS.istoreN X0.here hx rfl (hb hby d_method_3_3) rfl (l' := #[.val (.int p), .val (.int (p &&& (3 : Int32))), .unset]) rfl ?_
    show Steps pP.tables eE below (s₁.setTop (mkF mM 4 #[.val (.int p), .val (.int (p &&& (3 : Int32))), .unset] [])) _
    refine XS.iloadN X0.here hx rfl (hb hby d_method_3_4) rfl ?_
    exact kg)
  by_cases hc1 : (p &&& (3 : Int32)) = (0 : Int32)
  · obtain ⟨T3, h3, X3, e3, E3, A3, D3, -, st3⟩ := newO X0 hx hZ0 hown0 (w_7 hw) (w_8 hw) (w_9 hw) e0 (g := (mkF mM 8 #[.val (.int p), .val (.int (p &&& (3 : Int32))), .unset] [])) rfl (hb hby d_method_3_8) (by decide) (by decide)
    obtain ⟨b3, g3⟩ : ∃ z, z = h0.size := ⟨_, rfl⟩
    rw [← g3] at A3 D3 st3
    have Sn_b3 : Safe Z own_EL sS.vm h0 b3 := Safe.new (Nat.le_of_eq g3.symm)
    have g_b3 : n0 ≤ b3 := Nat.le_trans (own_osz O0) (Nat.le_of_eq g3.symm)
    have sz_b3 : h0.size ≤ b3 := Nat.le_trans K0.1 (Nat.le_of_eq g3.symm)
    have CH4 : CHr Z own_EL sS.vm h0 sS.vm h3 := CH0.trans (CHr.ext E3 CH0.1)
    have hk5 := Nat.le_trans hk0 E3.1
    have K6 : Keep h0 h3 [] := K0.ext E3
    have F_b3_value : Fld Z h3 b3 "java/lang/String" "value" "[B" .null := D3 (Or.inr (w_23 hw)) (ty := (.array .byte)) (by decide)
    have F_b3_coder : Fld Z h3 b3 "java/lang/String" "coder" "B" (.int (0 : Int32)) := D3 (Or.inr (w_24 hw)) (ty := .byte) (by decide)
    obtain ⟨T7, h7, k7, X7, e7, E7, A7, st7⟩ := newP X3 hx hZ0 (aty := .char) (w_10 hw) e3 (g := (mkF mM 13 #[.val (.int p), .val (.int (p &&& (3 : Int32))), .unset] [(.int (0 : Int32)), (.ref b3), (.ref b3)])) rfl (hb hby d_method_3_13) rfl (by decide) (cap := 0) (by decide) (by decide) (by decide) (by decide)
    obtain ⟨b7, g7⟩ : ∃ z, z = h3.size := ⟨_, rfl⟩
    rw [← g7] at A7 st7
    have Sn_b7 : Safe Z own_EL sS.vm h3 b7 := Safe.new (Nat.le_of_eq g7.symm)
    have f8 := (O0.ext E3)
    have g_b7 : n0 ≤ b7 := Nat.le_trans (own_osz f8) (Nat.le_of_eq g7.symm)
    have sz_b7 : h0.size ≤ b7 := Nat.le_trans K6.1 (Nat.le_of_eq g7.symm)
    have CH9 : CHr Z own_EL sS.vm h0 sS.vm h7 := CH4.trans (CHr.ext E7 CH4.1)
    have hk10 := Nat.le_trans hk5 E7.1
    have K11 : Keep h0 h7 [] := K6.ext E7
    have V7 : Arv Z h7 b7 k7 .char (0 : Int32) [] (.int (0 : Int32)) := Arv.new A7 (by decide)
    have f12 := (A3.ext E7)
    have f13 := (F_b3_value.ext E7)
    have f14 := (F_b3_coder.ext E7)
    have f15 := (Safe.ext E7 CH4.1 (Safe.ext E3 CH0.1 Sn_b3))
    have f16 := (f8.ext E7)
    obtain ⟨_, _, ⟨T17, L17, k17, n17⟩, -, X17, hS217, hg217, ⟨Lc17, hQ17, l17, y17, z17, CHl17⟩, st17⟩ := X7.specialBackS hx (y := (⟨"java/lang/String", "<init>", "([C)V"⟩ : MethodName)) rfl hown0 (mvT hZ0 (w_11 hw)) (mvT hZ0 (w_12 hw)) (mvT hZ0 (w_13 hw)) (by decide) (own_backOfSH (s := sS) (vm0 := sS.vm) (rm := ({ frames := 2, cells := 4, slots := 8, locals := 29 } : Room)) (W := 1) (rm_se1 l Z a0 hw [] b3 b7 .null (.int (0 : Int32)) k7 h7 n0 f16 f12 f13 f14 g_b3 V7) hZ0 (w_13 hw) (w_9 hw) (by decide) (by decide) hEL CH9.1 (own_sfS (Nat.lt_of_lt_of_le (A3).lt E7.1) f15 own_sf0)) (g := (mkF mM 15 #[.val (.int p), .val (.int (p &&& (3 : Int32))), .unset] [(.ref b7), (.ref b3), (.ref b3)])) rfl (by rw [hml]; rfl) (Steps.refl _) (a := b3) (argsL := [(.ref b7)]) (rest := [(.ref b3)]) (lenOf pd_1 rfl) rfl (by show 2 * 0 + _ ≤ _; exact Nat.le_of_eq rfl) (hb hby d_method_3_15) (fun _ _ => ⟨rfl, e7, (by decide : 2 + 4 ≤ _), (by decide : 4 + 8 ≤ _)⟩)
    dsimp only [Pt.U, Pt.locs, Pt.cells, Pt.slots] at X17 l17 y17 z17 st17 hQ17 hS217 hg217 CHl17
    subst l17 y17 z17
    have hS17 := foldS hS0 (by rw [e7]; exact hk10) hS217 hg217
    have hZ17 : Z.Warmed39 (sS.setVm T17.vm).vm := State.Warmed39.trans (t := sS.setVm sS.vm) hZ0 hS217.1
    have hown17 : (sS.setVm T17.vm).vm.findClass "com/example/ullr/ullr/files/ListedLinkEqualsPinLaw" = some mM.cls := by rw [show (sS.setVm T17.vm).vm = T17.vm from rfl, hS217.1.alike.findClass]; exact hown0
    have hk17 : T17.heap.size ≤ T17.heap.size := Nat.le_refl _
    replace X17 : Stand pP l eE ({ frames := 4, cells := 6, slots := 12, locals := 66 } : Room) (sS.setVm T17.vm) mM _ below meth cC T17 _ _ _ := X17
    obtain ⟨t_17, k_17, rfl, Nq17, Kq17, q17_0⟩ := hQ17
    have N17 := Fr.app N0 Nq17
    have CH18 : CHr Z own_EL sS.vm h0 T17.vm T17.heap := CH9.trans (CHl17)
    skip
    have K20 : Keep h0 T17.heap [] := K11.trans Kq17 (allS (Or.inr sz_b3) all0)
    obtain ⟨fs, hr, hrun, hended, hR1, hR2, hR3, hR4⟩ := Stand.leaveW (s := sS) (vm₁ := T17.vm) X17 hS17 (hk17) (v := some (.ref b3)) (fun h => by rw [Bd.returns] at h; cases h)
    refine ⟨_, _, pre2 _ ?_, hrun, hended, _, _, rfl, ?_, ?_, hR1, hR2, hR3, hR4.mono (by decide) (by decide)⟩
    · refine XS.ifNo X0.here hx rfl (hb hby d_method_3_5) rfl ((if0 _ _).trans (teq hc1).2) ?_
      show Steps pP.tables eE below (s₁.setTop (mkF mM 8 #[.val (.int p), .val (.int (p &&& (3 : Int32))), .unset] [])) _
      refine st3 _ ?_
      show Steps pP.tables eE below (T3.setTop (mkF mM 11 #[.val (.int p), .val (.int (p &&& (3 : Int32))), .unset] [(.ref b3)])) _
      refine XS.dup X3.here hx rfl (hb hby d_method_3_11) rfl rfl ?_
      show Steps pP.tables eE below (T3.setTop (mkF mM 12 #[.val (.int p), .val (.int (p &&& (3 : Int32))), .unset] [(.ref b3), (.ref b3)])) _
      refine XS.iconst X3.here hx rfl (hb hby d_method_3_12) ?_
      show Steps pP.tables eE below (T3.setTop (mkF mM 13 #[.val (.int p), .val (.int (p &&& (3 : Int32))), .unset] [(.int (0 : Int32)), (.ref b3), (.ref b3)])) _
      refine st7 _ ?_
      show Steps pP.tables eE below (T7.setTop (mkF mM 15 #[.val (.int p), .val (.int (p &&& (3 : Int32))), .unset] [(.ref b7), (.ref b3), (.ref b3)])) _
      refine st17.trans ?_
      show Steps pP.tables eE below (T17.setTop (mkF mM 18 #[.val (.int p), .val (.int (p &&& (3 : Int32))), .unset] [(.ref b3)])) _
      jvm_step X17.here [X17.here.top, hx, (hb hby d_method_3_18), X17.method', Bd.returns, Value.isRef, FieldType.isReference]
      first | (intro acts; rw [hr _ acts rfl rfl rfl]) | rw [hr _ _ rfl rfl rfl]
      exact Steps.refl _
    · show Q_mk Z p zc h0 n0 _ T17.heap _
      exact ⟨b3, t_17, k_17, rfl, N17, K20, sz_b3, ((by rw [own_mk, if_pos hc1] : own_mk p = []).symm ▸ (⟨(q17_0).1, (q17_0).2.1, (q17_0).2.2.1, (q17_0).2.2.2.1, (q17_0).2.2.2.2⟩ : own_Str Z T17.heap b3 t_17 k_17 []))⟩
    · show CHr Z own_EL sS.vm sS.heap T17.vm T17.heap
      rw [hh]
      exact CH18.trans (CHv.at X17 hZ17 hEL CH18.1)
  · have pre23 : ∀ tg, Steps pP.tables eE below (s₁.setTop (mkF mM 21 #[.val (.int p), .val (.int (p &&& (3 : Int32))), .unset] [(.int (1 : Int32)), (.int (p &&& (3 : Int32)))])) tg → Steps pP.tables eE below (s₁.setTop (entryFrame mM #[(.int p)] 3)) tg := fun tg kg => pre2 tg (by
      refine XS.ifYes X0.here hx rfl (pc0 := 5) (pc' := 19) rfl (hb hby d_method_3_5) rfl ((if0 _ _).trans (feq hc1).2) (by decide) (by decide) ?_
      show Steps pP.tables eE below (s₁.setTop (mkF mM 19 #[.val (.int p), .val (.int (p &&& (3 : Int32))), .unset] [])) _
      refine XS.iloadN X0.here hx rfl (hb hby d_method_3_19) rfl ?_
      show Steps pP.tables eE below (s₁.setTop (mkF mM 20 #[.val (.int p), .val (.int (p &&& (3 : Int32))), .unset] [(.int (p &&& (3 : Int32)))])) _
      refine XS.iconst X0.here hx rfl (hb hby d_method_3_20) ?_
      exact kg)
    by_cases hc22 : (p &&& (3 : Int32)) = (1 : Int32)
    · obtain ⟨T24, h24, k24, X24, e24, E24, A24, st24⟩ := newP X0 hx hZ0 (aty := .char) (w_10 hw) e0 (g := (mkF mM 25 #[.val (.int p), .val (.int (p &&& (3 : Int32))), .unset] [(.int (1 : Int32))])) rfl (hb hby d_method_3_25) rfl (by decide) (cap := 1) (by decide) (by decide) (by decide) (by decide)
      obtain ⟨b24, g24⟩ : ∃ z, z = h0.size := ⟨_, rfl⟩
      rw [← g24] at A24 st24
      have Sn_b24 : Safe Z own_EL sS.vm h0 b24 := Safe.new (Nat.le_of_eq g24.symm)
      have g_b24 : n0 ≤ b24 := Nat.le_trans (own_osz O0) (Nat.le_of_eq g24.symm)
      have sz_b24 : h0.size ≤ b24 := Nat.le_trans K0.1 (Nat.le_of_eq g24.symm)
      have CH25 : CHr Z own_EL sS.vm h0 sS.vm h24 := CH0.trans (CHr.ext E24 CH0.1)
      have hk26 := Nat.le_trans hk0 E24.1
      have K27 : Keep h0 h24 [] := K0.ext E24
      have V24 : Arv Z h24 b24 k24 .char (1 : Int32) [(.int (0 : Int32))] (.int (0 : Int32)) := (Arv.new A24 (by decide)).pad (pad_rep [] (.int (0 : Int32)) 1)
      have f28 := (O0.ext E24)
      obtain ⟨_, _, ⟨T29, L29, k29, n29⟩, -, X29, ⟨Lc29, hQ29, l29, y29, z29⟩, st29⟩ := Jvm.LawKit.callS X24 hx (y := (⟨"com/example/ullr/ullr/files/ListedLinkEqualsPinLaw", "ch", "(II)C"⟩ : MethodName)) hown0 (mvT hZ0 (w_29 hw)) (mvT hZ0 (w_30 hw)) (mvT hZ0 (w_5 hw)) (mvT hZ0 (w_31 hw)) (by decide) (backOf (W := 2) (rm_ch l Z a0 hw [] p (0 : Int32) h24 n0 f28 ) hZ0 (w_31 hw) (w_5 hw) (by decide) (by decide)) (g := (mkF mM 32 #[.val (.int p), .val (.int (p &&& (3 : Int32))), .val (.ref b24)] [(.int (0 : Int32)), (.int p), (.int (0 : Int32)), (.ref b24)])) rfl (by rw [hml]; rfl) (argsL := [(.int p), (.int (0 : Int32))]) (rest := [(.int (0 : Int32)), (.ref b24)]) (lenOf pd_2 rfl) rfl (by show 2 * 0 + _ ≤ _; exact Nat.le_of_eq rfl) (hb hby d_method_3_32) (fun _ _ => ⟨rfl, e24, (by decide : 1 + 0 ≤ _), (by decide : 1 + 0 ≤ _)⟩)
      dsimp only [Pt.U, Pt.locs, Pt.cells, Pt.slots] at X29 l29 y29 z29 st29 hQ29
      subst l29 y29 z29
      obtain ⟨rfl, rfl, Kq29⟩ := hQ29
      try rw [List.append_nil] at X29
      obtain ⟨cl30, Ar30, qk30, S30, Nn30, Hh30, G30⟩ := id V24
      have hin30 : ¬ ((0 : Int32) < 0 ∨ cl30.slots.size ≤ ((0 : Int32)).toNatClampNeg) := inb_of S30 ⟨by decide, by decide⟩
      obtain ⟨T30, h30, X30, e30, W30, st30⟩ := stC X29 hx hZ0 Kq29 Ar30 (j := (0 : Int32)) hin30 (g := (mkF mM 35 #[.val (.int p), .val (.int (p &&& (3 : Int32))), .val (.ref b24)] [(.int (own_ch p (0 : Int32))), (.int (0 : Int32)), (.ref b24)])) rfl rfl (hb hby d_method_3_35)
      rw [own_nch p (0 : Int32)] at W30
      have f33 := (Safe.ext E24 CH0.1 Sn_b24)
      have sfp32 := f33
      have CH31 : CHr Z own_EL sS.vm h0 sS.vm h30 := CH25.trans (CHr.wr W30 sfp32 CH25.1)
      have hk34 := Nat.le_trans hk26 (Nat.le_of_eq W30.size.symm)
      have K35 : Keep h0 h30 [] := K27.wr W30 (Or.inr sz_b24)
      have V30 : Arv Z h30 b24 k24 .char (1 : Int32) [(.int (own_ch p (0 : Int32)))] (.int (0 : Int32)) := Arv.set Ar30 qk30 S30 Nn30 Hh30 G30 (own_nch p (0 : Int32) ▸ fits_nar_char _) W30 0 rfl (Nat.le_of_ble_eq_true rfl)
      have N30 := Fr.snoc X30 N0 g_b24
      obtain ⟨T36, h36, X36, e36, E36, A36, D36, -, st36⟩ := newO X30 hx hZ0 hown0 (w_7 hw) (w_8 hw) (w_9 hw) e30 (g := (mkF mM 36 #[.val (.int p), .val (.int (p &&& (3 : Int32))), .val (.ref b24)] [])) rfl (hb hby d_method_3_36) (by decide) (by decide)
      obtain ⟨b36, g36⟩ : ∃ z, z = h30.size := ⟨_, rfl⟩
      rw [← g36] at A36 D36 st36
      have Sn_b36 : Safe Z own_EL sS.vm h30 b36 := Safe.new (Nat.le_of_eq g36.symm)
      have f37 := (f28.wr W30 g_b24)
      have g_b36 : n0 ≤ b36 := Nat.le_trans (own_osz f37) (Nat.le_of_eq g36.symm)
      have sz_b36 : h0.size ≤ b36 := Nat.le_trans K35.1 (Nat.le_of_eq g36.symm)
      have CH38 : CHr Z own_EL sS.vm h0 sS.vm h36 := CH31.trans (CHr.ext E36 CH31.1)
      have hk39 := Nat.le_trans hk34 E36.1
      have K40 : Keep h0 h36 [] := K35.ext E36
      have F_b36_value : Fld Z h36 b36 "java/lang/String" "value" "[B" .null := D36 (Or.inr (w_23 hw)) (ty := (.array .byte)) (by decide)
      have F_b36_coder : Fld Z h36 b36 "java/lang/String" "coder" "B" (.int (0 : Int32)) := D36 (Or.inr (w_24 hw)) (ty := .byte) (by decide)
      have f41 := (f37.ext E36)
      have f42 := (V30.ext E36)
      obtain ⟨_, _, ⟨T43, L43, k43, n43⟩, -, X43, ⟨Lc43, hQ43, l43, y43, z43⟩, st43⟩ := X36.specialBack hx (y := (⟨"java/lang/String", "<init>", "([C)V"⟩ : MethodName)) rfl hown0 (mvT hZ0 (w_11 hw)) (mvT hZ0 (w_12 hw)) (mvT hZ0 (w_13 hw)) (by decide) (own_new (W := 1) hZ0 hw (cs := [(own_ch p (0 : Int32))]) (n := 1) g_b36 (own_osz f41) A36 F_b36_value F_b36_coder f42 (Sta.ext (f41).2 S_COMPACT_STRINGS) hp1 rfl rfl (by decide) (by decide) (by intro c hc; rw [List.mem_singleton.mp hc]; exact own_chb _ _) (by decide) (by decide)) (g := (mkF mM 41 #[.val (.int p), .val (.int (p &&& (3 : Int32))), .val (.ref b24)] [(.ref b24), (.ref b36), (.ref b36)])) rfl (by rw [hml]; rfl) (Steps.refl _) (a := b36) (argsL := [(.ref b24)]) (rest := [(.ref b36)]) (lenOf pd_1 rfl) rfl (by show 2 * 0 + _ ≤ _; exact Nat.le_of_eq rfl) (hb hby d_method_3_41) (fun _ _ => ⟨rfl, e36, (by decide : 2 + 1 ≤ _), (by decide : 5 + 1 ≤ _)⟩)
      dsimp only [Pt.U, Pt.locs, Pt.cells, Pt.slots] at X43 l43 y43 z43 st43 hQ43
      subst l43 y43 z43
      obtain ⟨rfl, Nq43, Kq43, t43, kb43, hs43, Sq43⟩ := hQ43
      have N43 := Fr.app N30 Nq43
      have g_t43 : n0 ≤ t43 := Nat.le_trans (own_osz f41) hs43
      have sz_t43 : h0.size ≤ t43 := Nat.le_trans K40.1 hs43
      have f45 := (Safe.ext E36 CH31.1 Sn_b36)
      have sfp46 := (sfS f45 sf0)
      have CH44 : CHr Z own_EL sS.vm h0 sS.vm T43.heap := CH38.trans (CHr.keep Kq43 sfp46 CH38.1)
      have hk47 := Nat.le_trans hk39 Kq43.1
      have K48 : Keep h0 T43.heap [] := K40.trans Kq43 (allS (Or.inr sz_b36) all0)
      obtain ⟨fs, hr, hrun, hended, hR1, hR2, hR3, hR4⟩ := Stand.leaveW (s := sS) (vm₁ := sS.vm) X43 hS0 (hk47) (v := some (.ref b36)) (fun h => by rw [Bd.returns] at h; cases h)
      refine ⟨_, _, pre23 _ ?_, hrun, hended, _, _, rfl, ?_, ?_, hR1, hR2, hR3, hR4.mono (by decide) (by decide)⟩
      · refine XS.icmpNo X0.here hx rfl (hb hby d_method_3_21) rfl (teq hc22).2 ?_
        show Steps pP.tables eE below (s₁.setTop (mkF mM 24 #[.val (.int p), .val (.int (p &&& (3 : Int32))), .unset] [])) _
        refine XS.iconst X0.here hx rfl (hb hby d_method_3_24) ?_
        show Steps pP.tables eE below (s₁.setTop (mkF mM 25 #[.val (.int p), .val (.int (p &&& (3 : Int32))), .unset] [(.int (1 : Int32))])) _
        refine st24 _ ?_
        show Steps pP.tables eE below (T24.setTop (mkF mM 27 #[.val (.int p), .val (.int (p &&& (3 : Int32))), .unset] [(.ref b24)])) _
        refine XS.astoreN X24.here hx rfl (hb hby d_method_3_27) rfl rfl (l' := #[.val (.int p), .val (.int (p &&& (3 : Int32))), .val (.ref b24)]) rfl ?_
        show Steps pP.tables eE below (T24.setTop (mkF mM 28 #[.val (.int p), .val (.int (p &&& (3 : Int32))), .val (.ref b24)] [])) _
        refine XS.aloadN X24.here hx rfl (hb hby d_method_3_28) rfl rfl ?_
        show Steps pP.tables eE below (T24.setTop (mkF mM 29 #[.val (.int p), .val (.int (p &&& (3 : Int32))), .val (.ref b24)] [(.ref b24)])) _
        refine XS.iconst X24.here hx rfl (hb hby d_method_3_29) ?_
        show Steps pP.tables eE below (T24.setTop (mkF mM 30 #[.val (.int p), .val (.int (p &&& (3 : Int32))), .val (.ref b24)] [(.int (0 : Int32)), (.ref b24)])) _
        refine XS.iloadN X24.here hx rfl (hb hby d_method_3_30) rfl ?_
        show Steps pP.tables eE below (T24.setTop (mkF mM 31 #[.val (.int p), .val (.int (p &&& (3 : Int32))), .val (.ref b24)] [(.int p), (.int (0 : Int32)), (.ref b24)])) _
        refine XS.iconst X24.here hx rfl (hb hby d_method_3_31) ?_
        show Steps pP.tables eE below (T24.setTop (mkF mM 32 #[.val (.int p), .val (.int (p &&& (3 : Int32))), .val (.ref b24)] [(.int (0 : Int32)), (.int p), (.int (0 : Int32)), (.ref b24)])) _
        refine st29 _ ?_
        show Steps pP.tables eE below (T29.setTop (mkF mM 35 #[.val (.int p), .val (.int (p &&& (3 : Int32))), .val (.ref b24)] [(.int (own_ch p (0 : Int32))), (.int (0 : Int32)), (.ref b24)])) _
        refine st30 _ ?_
        show Steps pP.tables eE below (T30.setTop (mkF mM 36 #[.val (.int p), .val (.int (p &&& (3 : Int32))), .val (.ref b24)] [])) _
        refine st36 _ ?_
        show Steps pP.tables eE below (T36.setTop (mkF mM 39 #[.val (.int p), .val (.int (p &&& (3 : Int32))), .val (.ref b24)] [(.ref b36)])) _
        refine XS.dup X36.here hx rfl (hb hby d_method_3_39) rfl rfl ?_
        show Steps pP.tables eE below (T36.setTop (mkF mM 40 #[.val (.int p), .val (.int (p &&& (3 : Int32))), .val (.ref b24)] [(.ref b36), (.ref b36)])) _
        refine XS.aloadN X36.here hx rfl (hb hby d_method_3_40) rfl rfl ?_
        show Steps pP.tables eE below (T36.setTop (mkF mM 41 #[.val (.int p), .val (.int (p &&& (3 : Int32))), .val (.ref b24)] [(.ref b24), (.ref b36), (.ref b36)])) _
        refine st43.trans ?_
        show Steps pP.tables eE below (T43.setTop (mkF mM 44 #[.val (.int p), .val (.int (p &&& (3 : Int32))), .val (.ref b24)] [(.ref b36)])) _
        jvm_step X43.here [X43.here.top, hx, (hb hby d_method_3_44), X43.method', Bd.returns, Value.isRef, FieldType.isReference]
        first | (intro acts; rw [hr _ acts rfl rfl rfl]) | rw [hr _ _ rfl rfl rfl]
        exact Steps.refl _
      · show Q_mk Z p zc h0 n0 _ T43.heap _
        exact ⟨b36, t43, kb43, rfl, N43, K48, sz_b36, ((by rw [own_mk, if_neg hc1, if_pos hc22] : own_mk p = [(own_ch p (0 : Int32))]).symm ▸ (⟨(Sq43).1, (Sq43).2.1, (Sq43).2.2.1, (Sq43).2.2.2.1, (Sq43).2.2.2.2⟩ : own_Str Z T43.heap b36 t43 kb43 [(own_ch p (0 : Int32))]))⟩
      · show CHr Z own_EL sS.vm sS.heap T43.vm T43.heap
        rw [hh]
        exact CH44.trans (CHv.at X43 hZ0 hEL CH44.1)
    · have pre51 : ∀ tg, Steps pP.tables eE below (s₁.setTop (mkF mM 47 #[.val (.int p), .val (.int (p &&& (3 : Int32))), .unset] [(.int (2 : Int32)), (.int (p &&& (3 : Int32)))])) tg → Steps pP.tables eE below (s₁.setTop (entryFrame mM #[(.int p)] 3)) tg := fun tg kg => pre23 tg (by
        refine XS.icmpYes X0.here hx rfl (pc0 := 21) (pc' := 45) rfl (hb hby d_method_3_21) rfl (feq hc22).2 (by decide) (by decide) ?_
        show Steps pP.tables eE below (s₁.setTop (mkF mM 45 #[.val (.int p), .val (.int (p &&& (3 : Int32))), .unset] [])) _
        refine XS.iloadN X0.here hx rfl (hb hby d_method_3_45) rfl ?_
        show Steps pP.tables eE below (s₁.setTop (mkF mM 46 #[.val (.int p), .val (.int (p &&& (3 : Int32))), .unset] [(.int (p &&& (3 : Int32)))])) _
        refine XS.iconst X0.here hx rfl (hb hby d_method_3_46) ?_
        exact kg)
      by_cases hc50 : (p &&& (3 : Int32)) = (2 : Int32)
      · obtain ⟨T52, h52, k52, X52, e52, E52, A52, st52⟩ := newP X0 hx hZ0 (aty := .char) (w_10 hw) e0 (g := (mkF mM 51 #[.val (.int p), .val (.int (p &&& (3 : Int32))), .unset] [(.int (2 : Int32))])) rfl (hb hby d_method_3_51) rfl (by decide) (cap := 2) (by decide) (by decide) (by decide) (by decide)
        obtain ⟨b52, g52⟩ : ∃ z, z = h0.size := ⟨_, rfl⟩
        rw [← g52] at A52 st52
        have Sn_b52 : Safe Z own_EL sS.vm h0 b52 := Safe.new (Nat.le_of_eq g52.symm)
        have g_b52 : n0 ≤ b52 := Nat.le_trans (own_osz O0) (Nat.le_of_eq g52.symm)
        have sz_b52 : h0.size ≤ b52 := Nat.le_trans K0.1 (Nat.le_of_eq g52.symm)
        have CH53 : CHr Z own_EL sS.vm h0 sS.vm h52 := CH0.trans (CHr.ext E52 CH0.1)
        have hk54 := Nat.le_trans hk0 E52.1
        have K55 : Keep h0 h52 [] := K0.ext E52
        have V52 : Arv Z h52 b52 k52 .char (2 : Int32) [(.int (0 : Int32)), (.int (0 : Int32))] (.int (0 : Int32)) := (Arv.new A52 (by decide)).pad (pad_rep [] (.int (0 : Int32)) 2)
        have f56 := (O0.ext E52)
        obtain ⟨_, _, ⟨T57, L57, k57, n57⟩, -, X57, ⟨Lc57, hQ57, l57, y57, z57⟩, st57⟩ := Jvm.LawKit.callS X52 hx (y := (⟨"com/example/ullr/ullr/files/ListedLinkEqualsPinLaw", "ch", "(II)C"⟩ : MethodName)) hown0 (mvT hZ0 (w_29 hw)) (mvT hZ0 (w_30 hw)) (mvT hZ0 (w_5 hw)) (mvT hZ0 (w_31 hw)) (by decide) (backOf (W := 2) (rm_ch l Z a0 hw [] p (0 : Int32) h52 n0 f56 ) hZ0 (w_31 hw) (w_5 hw) (by decide) (by decide)) (g := (mkF mM 58 #[.val (.int p), .val (.int (p &&& (3 : Int32))), .val (.ref b52)] [(.int (0 : Int32)), (.int p), (.int (0 : Int32)), (.ref b52)])) rfl (by rw [hml]; rfl) (argsL := [(.int p), (.int (0 : Int32))]) (rest := [(.int (0 : Int32)), (.ref b52)]) (lenOf pd_2 rfl) rfl (by show 2 * 0 + _ ≤ _; exact Nat.le_of_eq rfl) (hb hby d_method_3_58) (fun _ _ => ⟨rfl, e52, (by decide : 1 + 0 ≤ _), (by decide : 2 + 0 ≤ _)⟩)
        dsimp only [Pt.U, Pt.locs, Pt.cells, Pt.slots] at X57 l57 y57 z57 st57 hQ57
        subst l57 y57 z57
        obtain ⟨rfl, rfl, Kq57⟩ := hQ57
        try rw [List.append_nil] at X57
        obtain ⟨cl58, Ar58, qk58, S58, Nn58, Hh58, G58⟩ := id V52
        have hin58 : ¬ ((0 : Int32) < 0 ∨ cl58.slots.size ≤ ((0 : Int32)).toNatClampNeg) := inb_of S58 ⟨by decide, by decide⟩
        obtain ⟨T58, h58, X58, e58, W58, st58⟩ := stC X57 hx hZ0 Kq57 Ar58 (j := (0 : Int32)) hin58 (g := (mkF mM 61 #[.val (.int p), .val (.int (p &&& (3 : Int32))), .val (.ref b52)] [(.int (own_ch p (0 : Int32))), (.int (0 : Int32)), (.ref b52)])) rfl rfl (hb hby d_method_3_61)
        rw [own_nch p (0 : Int32)] at W58
        have f61 := (Safe.ext E52 CH0.1 Sn_b52)
        have sfp60 := f61
        have CH59 : CHr Z own_EL sS.vm h0 sS.vm h58 := CH53.trans (CHr.wr W58 sfp60 CH53.1)
        have hk62 := Nat.le_trans hk54 (Nat.le_of_eq W58.size.symm)
        have K63 : Keep h0 h58 [] := K55.wr W58 (Or.inr sz_b52)
        have V58 : Arv Z h58 b52 k52 .char (2 : Int32) [(.int (own_ch p (0 : Int32))), (.int (0 : Int32))] (.int (0 : Int32)) := Arv.set Ar58 qk58 S58 Nn58 Hh58 G58 (own_nch p (0 : Int32) ▸ fits_nar_char _) W58 0 rfl (Nat.le_of_ble_eq_true rfl)
        have N58 := Fr.snoc X58 N0 g_b52
        have f64 := (f56.wr W58 g_b52)
        obtain ⟨_, _, ⟨T65, L65, k65, n65⟩, -, X65, ⟨Lc65, hQ65, l65, y65, z65⟩, st65⟩ := Jvm.LawKit.callS X58 hx (y := (⟨"com/example/ullr/ullr/files/ListedLinkEqualsPinLaw", "ch", "(II)C"⟩ : MethodName)) hown0 (mvT hZ0 (w_29 hw)) (mvT hZ0 (w_30 hw)) (mvT hZ0 (w_5 hw)) (mvT hZ0 (w_31 hw)) (by decide) (backOf (W := 2) (rm_ch l Z a0 hw [] p (1 : Int32) h58 n0 f64 ) hZ0 (w_31 hw) (w_5 hw) (by decide) (by decide)) (g := (mkF mM 66 #[.val (.int p), .val (.int (p &&& (3 : Int32))), .val (.ref b52)] [(.int (1 : Int32)), (.int p), (.int (1 : Int32)), (.ref b52)])) rfl (by rw [hml]; rfl) (argsL := [(.int p), (.int (1 : Int32))]) (rest := [(.int (1 : Int32)), (.ref b52)]) (lenOf pd_2 rfl) rfl (by show 2 * 0 + _ ≤ _; exact Nat.le_of_eq rfl) (hb hby d_method_3_66) (fun _ _ => ⟨rfl, e58, (by decide : 1 + 0 ≤ _), (by decide : 2 + 0 ≤ _)⟩)
        dsimp only [Pt.U, Pt.locs, Pt.cells, Pt.slots] at X65 l65 y65 z65 st65 hQ65
        subst l65 y65 z65
        obtain ⟨rfl, rfl, Kq65⟩ := hQ65
        try rw [List.append_nil] at X65
        obtain ⟨cl66, Ar66, qk66, S66, Nn66, Hh66, G66⟩ := id V58
        have hin66 : ¬ ((1 : Int32) < 0 ∨ cl66.slots.size ≤ ((1 : Int32)).toNatClampNeg) := inb_of S66 ⟨by decide, by decide⟩
        obtain ⟨T66, h66, X66, e66, W66, st66⟩ := stC X65 hx hZ0 Kq65 Ar66 (j := (1 : Int32)) hin66 (g := (mkF mM 69 #[.val (.int p), .val (.int (p &&& (3 : Int32))), .val (.ref b52)] [(.int (own_ch p (1 : Int32))), (.int (1 : Int32)), (.ref b52)])) rfl rfl (hb hby d_method_3_69)
        rw [own_nch p (1 : Int32)] at W66
        have f69 := (Safe.wr W58 sfp60 CH53.1 f61)
        have sfp68 := f69
        have CH67 : CHr Z own_EL sS.vm h0 sS.vm h66 := CH59.trans (CHr.wr W66 sfp68 CH59.1)
        have hk70 := Nat.le_trans hk62 (Nat.le_of_eq W66.size.symm)
        have K71 : Keep h0 h66 [] := K63.wr W66 (Or.inr sz_b52)
        have V66 : Arv Z h66 b52 k52 .char (2 : Int32) [(.int (own_ch p (0 : Int32))), (.int (own_ch p (1 : Int32)))] (.int (0 : Int32)) := Arv.set Ar66 qk66 S66 Nn66 Hh66 G66 (own_nch p (1 : Int32) ▸ fits_nar_char _) W66 1 rfl (Nat.le_of_ble_eq_true rfl)
        have N66 := Fr.snoc X66 N58 g_b52
        obtain ⟨T72, h72, X72, e72, E72, A72, D72, -, st72⟩ := newO X66 hx hZ0 hown0 (w_7 hw) (w_8 hw) (w_9 hw) e66 (g := (mkF mM 70 #[.val (.int p), .val (.int (p &&& (3 : Int32))), .val (.ref b52)] [])) rfl (hb hby d_method_3_70) (by decide) (by decide)
        obtain ⟨b72, g72⟩ : ∃ z, z = h66.size := ⟨_, rfl⟩
        rw [← g72] at A72 D72 st72
        have Sn_b72 : Safe Z own_EL sS.vm h66 b72 := Safe.new (Nat.le_of_eq g72.symm)
        have f73 := (f64.wr W66 g_b52)
        have g_b72 : n0 ≤ b72 := Nat.le_trans (own_osz f73) (Nat.le_of_eq g72.symm)
        have sz_b72 : h0.size ≤ b72 := Nat.le_trans K71.1 (Nat.le_of_eq g72.symm)
        have CH74 : CHr Z own_EL sS.vm h0 sS.vm h72 := CH67.trans (CHr.ext E72 CH67.1)
        have hk75 := Nat.le_trans hk70 E72.1
        have K76 : Keep h0 h72 [] := K71.ext E72
        have F_b72_value : Fld Z h72 b72 "java/lang/String" "value" "[B" .null := D72 (Or.inr (w_23 hw)) (ty := (.array .byte)) (by decide)
        have F_b72_coder : Fld Z h72 b72 "java/lang/String" "coder" "B" (.int (0 : Int32)) := D72 (Or.inr (w_24 hw)) (ty := .byte) (by decide)
        have f77 := (f73.ext E72)
        have f78 := (V66.ext E72)
        obtain ⟨_, _, ⟨T79, L79, k79, n79⟩, -, X79, ⟨Lc79, hQ79, l79, y79, z79⟩, st79⟩ := X72.specialBack hx (y := (⟨"java/lang/String", "<init>", "([C)V"⟩ : MethodName)) rfl hown0 (mvT hZ0 (w_11 hw)) (mvT hZ0 (w_12 hw)) (mvT hZ0 (w_13 hw)) (by decide) (own_new (W := 1) hZ0 hw (cs := [(own_ch p (0 : Int32)), (own_ch p (1 : Int32))]) (n := 2) g_b72 (own_osz f77) A72 F_b72_value F_b72_coder f78 (Sta.ext (f77).2 S_COMPACT_STRINGS) hp1 rfl rfl (by decide) (by decide) (by intro c hc; simp only [List.mem_cons, List.not_mem_nil, or_false] at hc; rcases hc with rfl | rfl <;> exact own_chb _ _) (by decide) (by decide)) (g := (mkF mM 75 #[.val (.int p), .val (.int (p &&& (3 : Int32))), .val (.ref b52)] [(.ref b52), (.ref b72), (.ref b72)])) rfl (by rw [hml]; rfl) (Steps.refl _) (a := b72) (argsL := [(.ref b52)]) (rest := [(.ref b72)]) (lenOf pd_1 rfl) rfl (by show 2 * 0 + _ ≤ _; exact Nat.le_of_eq rfl) (hb hby d_method_3_75) (fun _ _ => ⟨rfl, e72, (by decide : 2 + 1 ≤ _), (by decide : 6 + 2 ≤ _)⟩)
        dsimp only [Pt.U, Pt.locs, Pt.cells, Pt.slots] at X79 l79 y79 z79 st79 hQ79
        subst l79 y79 z79
        obtain ⟨rfl, Nq79, Kq79, t79, kb79, hs79, Sq79⟩ := hQ79
        have N79 := Fr.app N66 Nq79
        have g_t79 : n0 ≤ t79 := Nat.le_trans (own_osz f77) hs79
        have sz_t79 : h0.size ≤ t79 := Nat.le_trans K76.1 hs79
        have f81 := (Safe.ext E72 CH67.1 Sn_b72)
        have sfp82 := (sfS f81 sf0)
        have CH80 : CHr Z own_EL sS.vm h0 sS.vm T79.heap := CH74.trans (CHr.keep Kq79 sfp82 CH74.1)
        have hk83 := Nat.le_trans hk75 Kq79.1
        have K84 : Keep h0 T79.heap [] := K76.trans Kq79 (allS (Or.inr sz_b72) all0)
        obtain ⟨fs, hr, hrun, hended, hR1, hR2, hR3, hR4⟩ := Stand.leaveW (s := sS) (vm₁ := sS.vm) X79 hS0 (hk83) (v := some (.ref b72)) (fun h => by rw [Bd.returns] at h; cases h)
        refine ⟨_, _, pre51 _ ?_, hrun, hended, _, _, rfl, ?_, ?_, hR1, hR2, hR3, hR4.mono (by decide) (by decide)⟩
        · refine XS.icmpNo X0.here hx rfl (hb hby d_method_3_47) rfl (teq hc50).2 ?_
          show Steps pP.tables eE below (s₁.setTop (mkF mM 50 #[.val (.int p), .val (.int (p &&& (3 : Int32))), .unset] [])) _
          refine XS.iconst X0.here hx rfl (hb hby d_method_3_50) ?_
          show Steps pP.tables eE below (s₁.setTop (mkF mM 51 #[.val (.int p), .val (.int (p &&& (3 : Int32))), .unset] [(.int (2 : Int32))])) _
          refine st52 _ ?_
          show Steps pP.tables eE below (T52.setTop (mkF mM 53 #[.val (.int p), .val (.int (p &&& (3 : Int32))), .unset] [(.ref b52)])) _
          refine XS.astoreN X52.here hx rfl (hb hby d_method_3_53) rfl rfl (l' := #[.val (.int p), .val (.int (p &&& (3 : Int32))), .val (.ref b52)]) rfl ?_
          show Steps pP.tables eE below (T52.setTop (mkF mM 54 #[.val (.int p), .val (.int (p &&& (3 : Int32))), .val (.ref b52)] [])) _
          refine XS.aloadN X52.here hx rfl (hb hby d_method_3_54) rfl rfl ?_
          show Steps pP.tables eE below (T52.setTop (mkF mM 55 #[.val (.int p), .val (.int (p &&& (3 : Int32))), .val (.ref b52)] [(.ref b52)])) _
          refine XS.iconst X52.here hx rfl (hb hby d_method_3_55) ?_
          show Steps pP.tables eE below (T52.setTop (mkF mM 56 #[.val (.int p), .val (.int (p &&& (3 : Int32))), .val (.ref b52)] [(.int (0 : Int32)), (.ref b52)])) _
          refine XS.iloadN X52.here hx rfl (hb hby d_method_3_56) rfl ?_
          show Steps pP.tables eE below (T52.setTop (mkF mM 57 #[.val (.int p), .val (.int (p &&& (3 : Int32))), .val (.ref b52)] [(.int p), (.int (0 : Int32)), (.ref b52)])) _
          refine XS.iconst X52.here hx rfl (hb hby d_method_3_57) ?_
          show Steps pP.tables eE below (T52.setTop (mkF mM 58 #[.val (.int p), .val (.int (p &&& (3 : Int32))), .val (.ref b52)] [(.int (0 : Int32)), (.int p), (.int (0 : Int32)), (.ref b52)])) _
          refine st57 _ ?_
          show Steps pP.tables eE below (T57.setTop (mkF mM 61 #[.val (.int p), .val (.int (p &&& (3 : Int32))), .val (.ref b52)] [(.int (own_ch p (0 : Int32))), (.int (0 : Int32)), (.ref b52)])) _
          refine st58 _ ?_
          show Steps pP.tables eE below (T58.setTop (mkF mM 62 #[.val (.int p), .val (.int (p &&& (3 : Int32))), .val (.ref b52)] [])) _
          refine XS.aloadN X58.here hx rfl (hb hby d_method_3_62) rfl rfl ?_
          show Steps pP.tables eE below (T58.setTop (mkF mM 63 #[.val (.int p), .val (.int (p &&& (3 : Int32))), .val (.ref b52)] [(.ref b52)])) _
          refine XS.iconst X58.here hx rfl (hb hby d_method_3_63) ?_
          show Steps pP.tables eE below (T58.setTop (mkF mM 64 #[.val (.int p), .val (.int (p &&& (3 : Int32))), .val (.ref b52)] [(.int (1 : Int32)), (.ref b52)])) _
          refine XS.iloadN X58.here hx rfl (hb hby d_method_3_64) rfl ?_
          show Steps pP.tables eE below (T58.setTop (mkF mM 65 #[.val (.int p), .val (.int (p &&& (3 : Int32))), .val (.ref b52)] [(.int p), (.int (1 : Int32)), (.ref b52)])) _
          refine XS.iconst X58.here hx rfl (hb hby d_method_3_65) ?_
          show Steps pP.tables eE below (T58.setTop (mkF mM 66 #[.val (.int p), .val (.int (p &&& (3 : Int32))), .val (.ref b52)] [(.int (1 : Int32)), (.int p), (.int (1 : Int32)), (.ref b52)])) _
          refine st65 _ ?_
          show Steps pP.tables eE below (T65.setTop (mkF mM 69 #[.val (.int p), .val (.int (p &&& (3 : Int32))), .val (.ref b52)] [(.int (own_ch p (1 : Int32))), (.int (1 : Int32)), (.ref b52)])) _
          refine st66 _ ?_
          show Steps pP.tables eE below (T66.setTop (mkF mM 70 #[.val (.int p), .val (.int (p &&& (3 : Int32))), .val (.ref b52)] [])) _
          refine st72 _ ?_
          show Steps pP.tables eE below (T72.setTop (mkF mM 73 #[.val (.int p), .val (.int (p &&& (3 : Int32))), .val (.ref b52)] [(.ref b72)])) _
          refine XS.dup X72.here hx rfl (hb hby d_method_3_73) rfl rfl ?_
          show Steps pP.tables eE below (T72.setTop (mkF mM 74 #[.val (.int p), .val (.int (p &&& (3 : Int32))), .val (.ref b52)] [(.ref b72), (.ref b72)])) _
          refine XS.aloadN X72.here hx rfl (hb hby d_method_3_74) rfl rfl ?_
          show Steps pP.tables eE below (T72.setTop (mkF mM 75 #[.val (.int p), .val (.int (p &&& (3 : Int32))), .val (.ref b52)] [(.ref b52), (.ref b72), (.ref b72)])) _
          refine st79.trans ?_
          show Steps pP.tables eE below (T79.setTop (mkF mM 78 #[.val (.int p), .val (.int (p &&& (3 : Int32))), .val (.ref b52)] [(.ref b72)])) _
          jvm_step X79.here [X79.here.top, hx, (hb hby d_method_3_78), X79.method', Bd.returns, Value.isRef, FieldType.isReference]
          first | (intro acts; rw [hr _ acts rfl rfl rfl]) | rw [hr _ _ rfl rfl rfl]
          exact Steps.refl _
        · show Q_mk Z p zc h0 n0 _ T79.heap _
          exact ⟨b72, t79, kb79, rfl, N79, K84, sz_b72, ((by rw [own_mk, if_neg hc1, if_neg hc22, if_pos hc50] : own_mk p = [(own_ch p (0 : Int32)), (own_ch p (1 : Int32))]).symm ▸ (⟨(Sq79).1, (Sq79).2.1, (Sq79).2.2.1, (Sq79).2.2.2.1, (Sq79).2.2.2.2⟩ : own_Str Z T79.heap b72 t79 kb79 [(own_ch p (0 : Int32)), (own_ch p (1 : Int32))]))⟩
        · show CHr Z own_EL sS.vm sS.heap T79.vm T79.heap
          rw [hh]
          exact CH80.trans (CHv.at X79 hZ0 hEL CH80.1)
      · obtain ⟨T86, h86, k86, X86, e86, E86, A86, st86⟩ := newP X0 hx hZ0 (aty := .char) (w_10 hw) e0 (g := (mkF mM 80 #[.val (.int p), .val (.int (p &&& (3 : Int32))), .unset] [(.int (3 : Int32))])) rfl (hb hby d_method_3_80) rfl (by decide) (cap := 3) (by decide) (by decide) (by decide) (by decide)
        obtain ⟨b86, g86⟩ : ∃ z, z = h0.size := ⟨_, rfl⟩
        rw [← g86] at A86 st86
        have Sn_b86 : Safe Z own_EL sS.vm h0 b86 := Safe.new (Nat.le_of_eq g86.symm)
        have g_b86 : n0 ≤ b86 := Nat.le_trans (own_osz O0) (Nat.le_of_eq g86.symm)
        have sz_b86 : h0.size ≤ b86 := Nat.le_trans K0.1 (Nat.le_of_eq g86.symm)
        have CH87 : CHr Z own_EL sS.vm h0 sS.vm h86 := CH0.trans (CHr.ext E86 CH0.1)
        have hk88 := Nat.le_trans hk0 E86.1
        have K89 : Keep h0 h86 [] := K0.ext E86
        have V86 : Arv Z h86 b86 k86 .char (3 : Int32) [(.int (0 : Int32)), (.int (0 : Int32)), (.int (0 : Int32))] (.int (0 : Int32)) := (Arv.new A86 (by decide)).pad (pad_rep [] (.int (0 : Int32)) 3)
        have f90 := (O0.ext E86)
        obtain ⟨_, _, ⟨T91, L91, k91, n91⟩, -, X91, ⟨Lc91, hQ91, l91, y91, z91⟩, st91⟩ := Jvm.LawKit.callS X86 hx (y := (⟨"com/example/ullr/ullr/files/ListedLinkEqualsPinLaw", "ch", "(II)C"⟩ : MethodName)) hown0 (mvT hZ0 (w_29 hw)) (mvT hZ0 (w_30 hw)) (mvT hZ0 (w_5 hw)) (mvT hZ0 (w_31 hw)) (by decide) (backOf (W := 2) (rm_ch l Z a0 hw [] p (0 : Int32) h86 n0 f90 ) hZ0 (w_31 hw) (w_5 hw) (by decide) (by decide)) (g := (mkF mM 87 #[.val (.int p), .val (.int (p &&& (3 : Int32))), .val (.ref b86)] [(.int (0 : Int32)), (.int p), (.int (0 : Int32)), (.ref b86)])) rfl (by rw [hml]; rfl) (argsL := [(.int p), (.int (0 : Int32))]) (rest := [(.int (0 : Int32)), (.ref b86)]) (lenOf pd_2 rfl) rfl (by show 2 * 0 + _ ≤ _; exact Nat.le_of_eq rfl) (hb hby d_method_3_87) (fun _ _ => ⟨rfl, e86, (by decide : 1 + 0 ≤ _), (by decide : 3 + 0 ≤ _)⟩)
        dsimp only [Pt.U, Pt.locs, Pt.cells, Pt.slots] at X91 l91 y91 z91 st91 hQ91
        subst l91 y91 z91
        obtain ⟨rfl, rfl, Kq91⟩ := hQ91
        try rw [List.append_nil] at X91
        obtain ⟨cl92, Ar92, qk92, S92, Nn92, Hh92, G92⟩ := id V86
        have hin92 : ¬ ((0 : Int32) < 0 ∨ cl92.slots.size ≤ ((0 : Int32)).toNatClampNeg) := inb_of S92 ⟨by decide, by decide⟩
        obtain ⟨T92, h92, X92, e92, W92, st92⟩ := stC X91 hx hZ0 Kq91 Ar92 (j := (0 : Int32)) hin92 (g := (mkF mM 90 #[.val (.int p), .val (.int (p &&& (3 : Int32))), .val (.ref b86)] [(.int (own_ch p (0 : Int32))), (.int (0 : Int32)), (.ref b86)])) rfl rfl (hb hby d_method_3_90)
        rw [own_nch p (0 : Int32)] at W92
        have f95 := (Safe.ext E86 CH0.1 Sn_b86)
        have sfp94 := f95
        have CH93 : CHr Z own_EL sS.vm h0 sS.vm h92 := CH87.trans (CHr.wr W92 sfp94 CH87.1)
        have hk96 := Nat.le_trans hk88 (Nat.le_of_eq W92.size.symm)
        have K97 : Keep h0 h92 [] := K89.wr W92 (Or.inr sz_b86)
        have V92 : Arv Z h92 b86 k86 .char (3 : Int32) [(.int (own_ch p (0 : Int32))), (.int (0 : Int32)), (.int (0 : Int32))] (.int (0 : Int32)) := Arv.set Ar92 qk92 S92 Nn92 Hh92 G92 (own_nch p (0 : Int32) ▸ fits_nar_char _) W92 0 rfl (Nat.le_of_ble_eq_true rfl)
        have N92 := Fr.snoc X92 N0 g_b86
        have f98 := (f90.wr W92 g_b86)
        obtain ⟨_, _, ⟨T99, L99, k99, n99⟩, -, X99, ⟨Lc99, hQ99, l99, y99, z99⟩, st99⟩ := Jvm.LawKit.callS X92 hx (y := (⟨"com/example/ullr/ullr/files/ListedLinkEqualsPinLaw", "ch", "(II)C"⟩ : MethodName)) hown0 (mvT hZ0 (w_29 hw)) (mvT hZ0 (w_30 hw)) (mvT hZ0 (w_5 hw)) (mvT hZ0 (w_31 hw)) (by decide) (backOf (W := 2) (rm_ch l Z a0 hw [] p (1 : Int32) h92 n0 f98 ) hZ0 (w_31 hw) (w_5 hw) (by decide) (by decide)) (g := (mkF mM 95 #[.val (.int p), .val (.int (p &&& (3 : Int32))), .val (.ref b86)] [(.int (1 : Int32)), (.int p), (.int (1 : Int32)), (.ref b86)])) rfl (by rw [hml]; rfl) (argsL := [(.int p), (.int (1 : Int32))]) (rest := [(.int (1 : Int32)), (.ref b86)]) (lenOf pd_2 rfl) rfl (by show 2 * 0 + _ ≤ _; exact Nat.le_of_eq rfl) (hb hby d_method_3_95) (fun _ _ => ⟨rfl, e92, (by decide : 1 + 0 ≤ _), (by decide : 3 + 0 ≤ _)⟩)
        dsimp only [Pt.U, Pt.locs, Pt.cells, Pt.slots] at X99 l99 y99 z99 st99 hQ99
        subst l99 y99 z99
        obtain ⟨rfl, rfl, Kq99⟩ := hQ99
        try rw [List.append_nil] at X99
        obtain ⟨cl100, Ar100, qk100, S100, Nn100, Hh100, G100⟩ := id V92
        have hin100 : ¬ ((1 : Int32) < 0 ∨ cl100.slots.size ≤ ((1 : Int32)).toNatClampNeg) := inb_of S100 ⟨by decide, by decide⟩
        obtain ⟨T100, h100, X100, e100, W100, st100⟩ := stC X99 hx hZ0 Kq99 Ar100 (j := (1 : Int32)) hin100 (g := (mkF mM 98 #[.val (.int p), .val (.int (p &&& (3 : Int32))), .val (.ref b86)] [(.int (own_ch p (1 : Int32))), (.int (1 : Int32)), (.ref b86)])) rfl rfl (hb hby d_method_3_98)
        rw [own_nch p (1 : Int32)] at W100
        have f103 := (Safe.wr W92 sfp94 CH87.1 f95)
        have sfp102 := f103
        have CH101 : CHr Z own_EL sS.vm h0 sS.vm h100 := CH93.trans (CHr.wr W100 sfp102 CH93.1)
        have hk104 := Nat.le_trans hk96 (Nat.le_of_eq W100.size.symm)
        have K105 : Keep h0 h100 [] := K97.wr W100 (Or.inr sz_b86)
        have V100 : Arv Z h100 b86 k86 .char (3 : Int32) [(.int (own_ch p (0 : Int32))), (.int (own_ch p (1 : Int32))), (.int (0 : Int32))] (.int (0 : Int32)) := Arv.set Ar100 qk100 S100 Nn100 Hh100 G100 (own_nch p (1 : Int32) ▸ fits_nar_char _) W100 1 rfl (Nat.le_of_ble_eq_true rfl)
        have N100 := Fr.snoc X100 N92 g_b86
        have f106 := (f98.wr W100 g_b86)
        obtain ⟨_, _, ⟨T107, L107, k107, n107⟩, -, X107, ⟨Lc107, hQ107, l107, y107, z107⟩, st107⟩ := Jvm.LawKit.callS X100 hx (y := (⟨"com/example/ullr/ullr/files/ListedLinkEqualsPinLaw", "ch", "(II)C"⟩ : MethodName)) hown0 (mvT hZ0 (w_29 hw)) (mvT hZ0 (w_30 hw)) (mvT hZ0 (w_5 hw)) (mvT hZ0 (w_31 hw)) (by decide) (backOf (W := 2) (rm_ch l Z a0 hw [] p (2 : Int32) h100 n0 f106 ) hZ0 (w_31 hw) (w_5 hw) (by decide) (by decide)) (g := (mkF mM 103 #[.val (.int p), .val (.int (p &&& (3 : Int32))), .val (.ref b86)] [(.int (2 : Int32)), (.int p), (.int (2 : Int32)), (.ref b86)])) rfl (by rw [hml]; rfl) (argsL := [(.int p), (.int (2 : Int32))]) (rest := [(.int (2 : Int32)), (.ref b86)]) (lenOf pd_2 rfl) rfl (by show 2 * 0 + _ ≤ _; exact Nat.le_of_eq rfl) (hb hby d_method_3_103) (fun _ _ => ⟨rfl, e100, (by decide : 1 + 0 ≤ _), (by decide : 3 + 0 ≤ _)⟩)
        dsimp only [Pt.U, Pt.locs, Pt.cells, Pt.slots] at X107 l107 y107 z107 st107 hQ107
        subst l107 y107 z107
        obtain ⟨rfl, rfl, Kq107⟩ := hQ107
        try rw [List.append_nil] at X107
        obtain ⟨cl108, Ar108, qk108, S108, Nn108, Hh108, G108⟩ := id V100
        have hin108 : ¬ ((2 : Int32) < 0 ∨ cl108.slots.size ≤ ((2 : Int32)).toNatClampNeg) := inb_of S108 ⟨by decide, by decide⟩
        obtain ⟨T108, h108, X108, e108, W108, st108⟩ := stC X107 hx hZ0 Kq107 Ar108 (j := (2 : Int32)) hin108 (g := (mkF mM 106 #[.val (.int p), .val (.int (p &&& (3 : Int32))), .val (.ref b86)] [(.int (own_ch p (2 : Int32))), (.int (2 : Int32)), (.ref b86)])) rfl rfl (hb hby d_method_3_106)
        rw [own_nch p (2 : Int32)] at W108
        have f111 := (Safe.wr W100 sfp102 CH93.1 f103)
        have sfp110 := f111
        have CH109 : CHr Z own_EL sS.vm h0 sS.vm h108 := CH101.trans (CHr.wr W108 sfp110 CH101.1)
        have hk112 := Nat.le_trans hk104 (Nat.le_of_eq W108.size.symm)
        have K113 : Keep h0 h108 [] := K105.wr W108 (Or.inr sz_b86)
        have V108 : Arv Z h108 b86 k86 .char (3 : Int32) [(.int (own_ch p (0 : Int32))), (.int (own_ch p (1 : Int32))), (.int (own_ch p (2 : Int32)))] (.int (0 : Int32)) := Arv.set Ar108 qk108 S108 Nn108 Hh108 G108 (own_nch p (2 : Int32) ▸ fits_nar_char _) W108 2 rfl (Nat.le_of_ble_eq_true rfl)
        have N108 := Fr.snoc X108 N100 g_b86
        obtain ⟨T114, h114, X114, e114, E114, A114, D114, -, st114⟩ := newO X108 hx hZ0 hown0 (w_7 hw) (w_8 hw) (w_9 hw) e108 (g := (mkF mM 107 #[.val (.int p), .val (.int (p &&& (3 : Int32))), .val (.ref b86)] [])) rfl (hb hby d_method_3_107) (by decide) (by decide)
        obtain ⟨b114, g114⟩ : ∃ z, z = h108.size := ⟨_, rfl⟩
        rw [← g114] at A114 D114 st114
        have Sn_b114 : Safe Z own_EL sS.vm h108 b114 := Safe.new (Nat.le_of_eq g114.symm)
        have f115 := (f106.wr W108 g_b86)
        have g_b114 : n0 ≤ b114 := Nat.le_trans (own_osz f115) (Nat.le_of_eq g114.symm)
        have sz_b114 : h0.size ≤ b114 := Nat.le_trans K113.1 (Nat.le_of_eq g114.symm)
        have CH116 : CHr Z own_EL sS.vm h0 sS.vm h114 := CH109.trans (CHr.ext E114 CH109.1)
        have hk117 := Nat.le_trans hk112 E114.1
        have K118 : Keep h0 h114 [] := K113.ext E114
        have F_b114_value : Fld Z h114 b114 "java/lang/String" "value" "[B" .null := D114 (Or.inr (w_23 hw)) (ty := (.array .byte)) (by decide)
        have F_b114_coder : Fld Z h114 b114 "java/lang/String" "coder" "B" (.int (0 : Int32)) := D114 (Or.inr (w_24 hw)) (ty := .byte) (by decide)
        have f119 := (f115.ext E114)
        have f120 := (V108.ext E114)
        obtain ⟨_, _, ⟨T121, L121, k121, n121⟩, -, X121, ⟨Lc121, hQ121, l121, y121, z121⟩, st121⟩ := X114.specialBack hx (y := (⟨"java/lang/String", "<init>", "([C)V"⟩ : MethodName)) rfl hown0 (mvT hZ0 (w_11 hw)) (mvT hZ0 (w_12 hw)) (mvT hZ0 (w_13 hw)) (by decide) (own_new (W := 1) hZ0 hw (cs := [(own_ch p (0 : Int32)), (own_ch p (1 : Int32)), (own_ch p (2 : Int32))]) (n := 3) g_b114 (own_osz f119) A114 F_b114_value F_b114_coder f120 (Sta.ext (f119).2 S_COMPACT_STRINGS) hp1 rfl rfl (by decide) (by decide) (by intro c hc; simp only [List.mem_cons, List.not_mem_nil, or_false] at hc; rcases hc with rfl | rfl | rfl <;> exact own_chb _ _) (by decide) (by decide)) (g := (mkF mM 112 #[.val (.int p), .val (.int (p &&& (3 : Int32))), .val (.ref b86)] [(.ref b86), (.ref b114), (.ref b114)])) rfl (by rw [hml]; rfl) (Steps.refl _) (a := b114) (argsL := [(.ref b86)]) (rest := [(.ref b114)]) (lenOf pd_1 rfl) rfl (by show 2 * 0 + _ ≤ _; exact Nat.le_of_eq rfl) (hb hby d_method_3_112) (fun _ _ => ⟨rfl, e114, (by decide : 2 + 1 ≤ _), (by decide : 7 + 3 ≤ _)⟩)
        dsimp only [Pt.U, Pt.locs, Pt.cells, Pt.slots] at X121 l121 y121 z121 st121 hQ121
        subst l121 y121 z121
        obtain ⟨rfl, Nq121, Kq121, t121, kb121, hs121, Sq121⟩ := hQ121
        have N121 := Fr.app N108 Nq121
        have g_t121 : n0 ≤ t121 := Nat.le_trans (own_osz f119) hs121
        have sz_t121 : h0.size ≤ t121 := Nat.le_trans K118.1 hs121
        have f123 := (Safe.ext E114 CH109.1 Sn_b114)
        have sfp124 := (sfS f123 sf0)
        have CH122 : CHr Z own_EL sS.vm h0 sS.vm T121.heap := CH116.trans (CHr.keep Kq121 sfp124 CH116.1)
        have hk125 := Nat.le_trans hk117 Kq121.1
        have K126 : Keep h0 T121.heap [] := K118.trans Kq121 (allS (Or.inr sz_b114) all0)
        obtain ⟨fs, hr, hrun, hended, hR1, hR2, hR3, hR4⟩ := Stand.leaveW (s := sS) (vm₁ := sS.vm) X121 hS0 (hk125) (v := some (.ref b114)) (fun h => by rw [Bd.returns] at h; cases h)
        refine ⟨_, _, pre51 _ ?_, hrun, hended, _, _, rfl, ?_, ?_, hR1, hR2, hR3, hR4.mono (by decide) (by decide)⟩
        · refine XS.icmpYes X0.here hx rfl (pc0 := 47) (pc' := 79) rfl (hb hby d_method_3_47) rfl (feq hc50).2 (by decide) (by decide) ?_
          show Steps pP.tables eE below (s₁.setTop (mkF mM 79 #[.val (.int p), .val (.int (p &&& (3 : Int32))), .unset] [])) _
          refine XS.iconst X0.here hx rfl (hb hby d_method_3_79) ?_
          show Steps pP.tables eE below (s₁.setTop (mkF mM 80 #[.val (.int p), .val (.int (p &&& (3 : Int32))), .unset] [(.int (3 : Int32))])) _
          refine st86 _ ?_
          show Steps pP.tables eE below (T86.setTop (mkF mM 82 #[.val (.int p), .val (.int (p &&& (3 : Int32))), .unset] [(.ref b86)])) _
          refine XS.astoreN X86.here hx rfl (hb hby d_method_3_82) rfl rfl (l' := #[.val (.int p), .val (.int (p &&& (3 : Int32))), .val (.ref b86)]) rfl ?_
          show Steps pP.tables eE below (T86.setTop (mkF mM 83 #[.val (.int p), .val (.int (p &&& (3 : Int32))), .val (.ref b86)] [])) _
          refine XS.aloadN X86.here hx rfl (hb hby d_method_3_83) rfl rfl ?_
          show Steps pP.tables eE below (T86.setTop (mkF mM 84 #[.val (.int p), .val (.int (p &&& (3 : Int32))), .val (.ref b86)] [(.ref b86)])) _
          refine XS.iconst X86.here hx rfl (hb hby d_method_3_84) ?_
          show Steps pP.tables eE below (T86.setTop (mkF mM 85 #[.val (.int p), .val (.int (p &&& (3 : Int32))), .val (.ref b86)] [(.int (0 : Int32)), (.ref b86)])) _
          refine XS.iloadN X86.here hx rfl (hb hby d_method_3_85) rfl ?_
          show Steps pP.tables eE below (T86.setTop (mkF mM 86 #[.val (.int p), .val (.int (p &&& (3 : Int32))), .val (.ref b86)] [(.int p), (.int (0 : Int32)), (.ref b86)])) _
          refine XS.iconst X86.here hx rfl (hb hby d_method_3_86) ?_
          show Steps pP.tables eE below (T86.setTop (mkF mM 87 #[.val (.int p), .val (.int (p &&& (3 : Int32))), .val (.ref b86)] [(.int (0 : Int32)), (.int p), (.int (0 : Int32)), (.ref b86)])) _
          refine st91 _ ?_
          show Steps pP.tables eE below (T91.setTop (mkF mM 90 #[.val (.int p), .val (.int (p &&& (3 : Int32))), .val (.ref b86)] [(.int (own_ch p (0 : Int32))), (.int (0 : Int32)), (.ref b86)])) _
          refine st92 _ ?_
          show Steps pP.tables eE below (T92.setTop (mkF mM 91 #[.val (.int p), .val (.int (p &&& (3 : Int32))), .val (.ref b86)] [])) _
          refine XS.aloadN X92.here hx rfl (hb hby d_method_3_91) rfl rfl ?_
          show Steps pP.tables eE below (T92.setTop (mkF mM 92 #[.val (.int p), .val (.int (p &&& (3 : Int32))), .val (.ref b86)] [(.ref b86)])) _
          refine XS.iconst X92.here hx rfl (hb hby d_method_3_92) ?_
          show Steps pP.tables eE below (T92.setTop (mkF mM 93 #[.val (.int p), .val (.int (p &&& (3 : Int32))), .val (.ref b86)] [(.int (1 : Int32)), (.ref b86)])) _
          refine XS.iloadN X92.here hx rfl (hb hby d_method_3_93) rfl ?_
          show Steps pP.tables eE below (T92.setTop (mkF mM 94 #[.val (.int p), .val (.int (p &&& (3 : Int32))), .val (.ref b86)] [(.int p), (.int (1 : Int32)), (.ref b86)])) _
          refine XS.iconst X92.here hx rfl (hb hby d_method_3_94) ?_
          show Steps pP.tables eE below (T92.setTop (mkF mM 95 #[.val (.int p), .val (.int (p &&& (3 : Int32))), .val (.ref b86)] [(.int (1 : Int32)), (.int p), (.int (1 : Int32)), (.ref b86)])) _
          refine st99 _ ?_
          show Steps pP.tables eE below (T99.setTop (mkF mM 98 #[.val (.int p), .val (.int (p &&& (3 : Int32))), .val (.ref b86)] [(.int (own_ch p (1 : Int32))), (.int (1 : Int32)), (.ref b86)])) _
          refine st100 _ ?_
          show Steps pP.tables eE below (T100.setTop (mkF mM 99 #[.val (.int p), .val (.int (p &&& (3 : Int32))), .val (.ref b86)] [])) _
          refine XS.aloadN X100.here hx rfl (hb hby d_method_3_99) rfl rfl ?_
          show Steps pP.tables eE below (T100.setTop (mkF mM 100 #[.val (.int p), .val (.int (p &&& (3 : Int32))), .val (.ref b86)] [(.ref b86)])) _
          refine XS.iconst X100.here hx rfl (hb hby d_method_3_100) ?_
          show Steps pP.tables eE below (T100.setTop (mkF mM 101 #[.val (.int p), .val (.int (p &&& (3 : Int32))), .val (.ref b86)] [(.int (2 : Int32)), (.ref b86)])) _
          refine XS.iloadN X100.here hx rfl (hb hby d_method_3_101) rfl ?_
          show Steps pP.tables eE below (T100.setTop (mkF mM 102 #[.val (.int p), .val (.int (p &&& (3 : Int32))), .val (.ref b86)] [(.int p), (.int (2 : Int32)), (.ref b86)])) _
          refine XS.iconst X100.here hx rfl (hb hby d_method_3_102) ?_
          show Steps pP.tables eE below (T100.setTop (mkF mM 103 #[.val (.int p), .val (.int (p &&& (3 : Int32))), .val (.ref b86)] [(.int (2 : Int32)), (.int p), (.int (2 : Int32)), (.ref b86)])) _
          refine st107 _ ?_
          show Steps pP.tables eE below (T107.setTop (mkF mM 106 #[.val (.int p), .val (.int (p &&& (3 : Int32))), .val (.ref b86)] [(.int (own_ch p (2 : Int32))), (.int (2 : Int32)), (.ref b86)])) _
          refine st108 _ ?_
          show Steps pP.tables eE below (T108.setTop (mkF mM 107 #[.val (.int p), .val (.int (p &&& (3 : Int32))), .val (.ref b86)] [])) _
          refine st114 _ ?_
          show Steps pP.tables eE below (T114.setTop (mkF mM 110 #[.val (.int p), .val (.int (p &&& (3 : Int32))), .val (.ref b86)] [(.ref b114)])) _
          refine XS.dup X114.here hx rfl (hb hby d_method_3_110) rfl rfl ?_
          show Steps pP.tables eE below (T114.setTop (mkF mM 111 #[.val (.int p), .val (.int (p &&& (3 : Int32))), .val (.ref b86)] [(.ref b114), (.ref b114)])) _
          refine XS.aloadN X114.here hx rfl (hb hby d_method_3_111) rfl rfl ?_
          show Steps pP.tables eE below (T114.setTop (mkF mM 112 #[.val (.int p), .val (.int (p &&& (3 : Int32))), .val (.ref b86)] [(.ref b86), (.ref b114), (.ref b114)])) _
          refine st121.trans ?_
          show Steps pP.tables eE below (T121.setTop (mkF mM 115 #[.val (.int p), .val (.int (p &&& (3 : Int32))), .val (.ref b86)] [(.ref b114)])) _
          jvm_step X121.here [X121.here.top, hx, (hb hby d_method_3_115), X121.method', Bd.returns, Value.isRef, FieldType.isReference]
          first | (intro acts; rw [hr _ acts rfl rfl rfl]) | rw [hr _ _ rfl rfl rfl]
          exact Steps.refl _
        · show Q_mk Z p zc h0 n0 _ T121.heap _
          exact ⟨b114, t121, kb121, rfl, N121, K126, sz_b114, ((by rw [own_mk, if_neg hc1, if_neg hc22, if_neg hc50] : own_mk p = [(own_ch p (0 : Int32)), (own_ch p (1 : Int32)), (own_ch p (2 : Int32))]).symm ▸ (⟨(Sq121).1, (Sq121).2.1, (Sq121).2.2.1, (Sq121).2.2.2.1, (Sq121).2.2.2.2⟩ : own_Str Z T121.heap b114 t121 kb121 [(own_ch p (0 : Int32)), (own_ch p (1 : Int32)), (own_ch p (2 : Int32))]))⟩
        · show CHr Z own_EL sS.vm sS.heap T121.vm T121.heap
          rw [hh]
          exact CH122.trans (CHv.at X121 hZ0 hEL CH122.1)
theorem ef_rnn (m : MethodId) (x0 : Addr) (x1 : Addr) : entryFrame m #[(.ref x0), (.ref x1)] 2 = mkF m 0 #[.val (.ref x0), .val (.ref x1)] [] := by first | (simp [entryFrame, mkF, argsToLocals, Value.category]; done) | rfl
def Q_rnn (Z : State) (x : Addr) (y : Addr) (h0 : Heap) (n0 : Nat) (vV : Option Value) (h : Heap) (LL : List Loc) : Prop := vV = some (.ref x) ∧ LL = [] ∧ h = h0
set_option maxRecDepth 65536 in
set_option maxHeartbeats 40000000 in
theorem rm_rnn (l : Launch) (Z : State) (a0 : Array Value) (hw : ∀ d ∈ tables_1, d.before a0 Z = true) (ws : List Jvm.Cond) (x : Addr) (y : Addr) (h0 : Heap) (n0 : Nat) (O0 : Old Z n0 h0) :
    MetFree l (⟨"java/util/Objects", "requireNonNull", "(Ljava/lang/Object;Ljava/lang/String;)Ljava/lang/Object;"⟩ : MethodName) (head1 (Jvm.Cond.code (⟨"java/util/Objects", "requireNonNull", "(Ljava/lang/Object;Ljava/lang/String;)Ljava/lang/Object;"⟩ : MethodName) jdk_31_method_11_code 2 (some (.object "java/lang/Object")) :: ws) ({ frames := 0, cells := 0, slots := 0, locals := 0 } : Room)) (fun aa_ U => aa_ = #[(.ref x), (.ref y)] ∧ Z.Warmed39 U.vm ∧ U.heap = h0) (fun _ _ _ _ _ => True) (fun _ U o U' => ∃ vV LL, o = .returned vV ∧ Q_rnn Z x y h0 n0 vV U'.heap LL ∧ FrameEnd U o U' LL ({ frames := 0, cells := 0, slots := 0, locals := 0 } : Room).cells ({ frames := 0, cells := 0, slots := 0, locals := 0 } : Room).slots) := by
  refine MetFree.of_bodySF (plainFor_of_name pn_2) hisR ?_
  intro pP eE sS mM args below meth cC s₁ Bd hml0 hP hK
  obtain ⟨rfl, hZ, hh⟩ := hP
  have hx := Bd.exec
  have hby := Bd.bytes
  have hml : cC.maxLocals = 2 := hml0
  have hown : sS.vm.findClass "java/util/Objects" = some mM.cls := findClass_of_methodNamed Bd.named
  have hnm := (name_of_methodNamed Bd.named Bd.method).1
  have X0 : Stand pP l eE ({ frames := 0, cells := 0, slots := 0, locals := 0 } : Room) sS mM #[(.ref x), (.ref y)] below meth cC s₁ [] 0 0 := Stand.of_body Bd
  have e0 : s₁.heap = h0 := by rw [← hh, Bd.state]; rfl
  have N0 := Fr.nil n0
  have pre0 : ∀ tg, Steps pP.tables eE below (s₁.setTop (mkF mM 0 #[.val (.ref x), .val (.ref y)] [])) tg → Steps pP.tables eE below (s₁.setTop (entryFrame mM #[(.ref x), (.ref y)] 2)) tg := fun tg kg => castTop (ef_rnn mM x y) kg
  obtain ⟨fs, hr, hrun, hended, hW, hsame⟩ := X0.leave (v := some (.ref x)) (fun h => by rw [Bd.returns] at h; cases h)
  refine ⟨_, _, pre0 _ ?_, hrun, hended, _, _, rfl, ?_, ⟨_, rfl⟩, hW, hsame.mono (by decide) (by decide)⟩
  · refine XS.aloadN X0.here hx rfl (hb hby d_jdk_31_method_11_0) rfl rfl ?_
    show Steps pP.tables eE below (s₁.setTop (mkF mM 1 #[.val (.ref x), .val (.ref y)] [(.ref x)])) _
    refine XS.ifnonnullYes X0.here hx rfl (pc0 := 1) (pc' := 13) rfl (hb hby d_jdk_31_method_11_1) rfl (by decide) (by decide) ?_
    show Steps pP.tables eE below (s₁.setTop (mkF mM 13 #[.val (.ref x), .val (.ref y)] [])) _
    refine XS.aloadN X0.here hx rfl (hb hby d_jdk_31_method_11_13) rfl rfl ?_
    show Steps pP.tables eE below (s₁.setTop (mkF mM 14 #[.val (.ref x), .val (.ref y)] [(.ref x)])) _
    jvm_step X0.here [X0.here.top, hx, (hb hby d_jdk_31_method_11_14), X0.method', Bd.returns, Value.isRef, FieldType.isReference]
    first | (intro acts; rw [hr _ acts rfl rfl rfl]) | rw [hr _ _ rfl rfl rfl]
    exact Steps.refl _
  · show Q_rnn Z x y h0 n0 _ s₁.heap _
    rw [e0]
    exact ⟨rfl, rfl, rfl⟩
theorem ef_lini (m : MethodId) (x0 : Addr) (x1 : Addr) (x2 : Addr) : entryFrame m #[(.ref x0), (.ref x1), (.ref x2)] 3 = mkF m 0 #[.val (.ref x0), .val (.ref x1), .val (.ref x2)] [] := by first | (simp [entryFrame, mkF, argsToLocals, Value.category]; done) | rfl
def Q_lini (Z : State) (a : Addr) (x : Addr) (y : Addr) (u1 : Value) (u2 : Value) (h0 : Heap) (n0 : Nat) (vV : Option Value) (h : Heap) (LL : List Loc) : Prop := vV = none ∧ Fr n0 LL ∧ Keep h0 h [a] ∧ Exa Z h a "com/example/ullr/ullr/files/ListedLink" ∧ Fld Z h a "com/example/ullr/ullr/files/ListedLink" "_path" "Ljava/lang/String;" (.ref x) ∧ Fld Z h a "com/example/ullr/ullr/files/ListedLink" "_target" "Ljava/lang/String;" (.ref y)
set_option maxRecDepth 65536 in
set_option maxHeartbeats 40000000 in
theorem rm_lini (l : Launch) (Z : State) (a0 : Array Value) (hw : ∀ d ∈ tables_1, d.before a0 Z = true) (ws : List Jvm.Cond) (a : Addr) (x : Addr) (y : Addr) (u1 : Value) (u2 : Value) (h0 : Heap) (n0 : Nat) (O0 : Old Z n0 h0) (E_a : Exa Z h0 a "com/example/ullr/ullr/files/ListedLink") (F_a__path : Fld Z h0 a "com/example/ullr/ullr/files/ListedLink" "_path" "Ljava/lang/String;" u1) (F_a__target : Fld Z h0 a "com/example/ullr/ullr/files/ListedLink" "_target" "Ljava/lang/String;" u2) (g_a : n0 ≤ a) (E_x : Exa Z h0 x "java/lang/String") (E_y : Exa Z h0 y "java/lang/String") :
    MetFree l (⟨"com/example/ullr/ullr/files/ListedLink", "<init>", "(Ljava/lang/String;Ljava/lang/String;)V"⟩ : MethodName) (head1 (Jvm.Cond.code (⟨"com/example/ullr/ullr/files/ListedLink", "<init>", "(Ljava/lang/String;Ljava/lang/String;)V"⟩ : MethodName) prog_27_method_1_code 3 none :: ws) ({ frames := 1, cells := 4, slots := 48, locals := 14 } : Room)) (fun aa_ U => aa_ = #[(.ref a), (.ref x), (.ref y)] ∧ Z.Warmed39 U.vm ∧ U.heap = h0 ∧ CHv Z own_EL U.vm h0 ∧ ∀ xX_ ∈ ([] : List Addr), Safe Z own_EL U.vm h0 xX_) (fun _ _ _ _ _ => True) (fun _ U o U' => ∃ vV LL, o = .returned vV ∧ Q_lini Z a x y u1 u2 h0 n0 vV U'.heap LL ∧ CHr Z own_EL U.vm U.heap U'.vm U'.heap ∧ ReturnedEndW U o U' LL ({ frames := 1, cells := 4, slots := 48, locals := 14 } : Room).cells ({ frames := 1, cells := 4, slots := 48, locals := 14 } : Room).slots) := by
  refine MetFree.of_bodySF (plainFor_of_name pn_3) hisR ?_
  intro pP eE sS mM args below meth cC s₁ Bd hml0 hP hK
  obtain ⟨rfl, hZ, hh, hCH, hSf⟩ := hP
  have hx := Bd.exec
  have hby := Bd.bytes
  have hml : cC.maxLocals = 3 := hml0
  have hown : sS.vm.findClass "com/example/ullr/ullr/files/ListedLink" = some mM.cls := findClass_of_methodNamed Bd.named
  have hnm := (name_of_methodNamed Bd.named Bd.method).1
  have X0 : Stand pP l eE ({ frames := 1, cells := 4, slots := 48, locals := 14 } : Room) (sS.setVm sS.vm) mM #[(.ref a), (.ref x), (.ref y)] below meth cC s₁ [] 0 0 := Stand.of_body Bd
  have e0 : s₁.heap = h0 := by rw [← hh, Bd.state]; rfl
  have N0 := Fr.nil n0
  have pre0 : ∀ tg, Steps pP.tables eE below (s₁.setTop (mkF mM 0 #[.val (.ref a), .val (.ref x), .val (.ref y)] [])) tg → Steps pP.tables eE below (s₁.setTop (entryFrame mM #[(.ref a), (.ref x), (.ref y)] 3)) tg := fun tg kg => castTop (ef_lini mM a x y) kg
  have K0 : Keep h0 h0 [a] := Keep.refl _ _
  have hZ0 : Z.Warmed39 (sS.setVm sS.vm).vm := hZ
  have hown0 : (sS.setVm sS.vm).vm.findClass "com/example/ullr/ullr/files/ListedLink" = some mM.cls := hown
  have hS0 : sS.Since sS.vm 0 := (State.WarmedH.refl sS).since 0
  have hk0 : 0 ≤ h0.size := Nat.zero_le _
  have CH0 : CHr Z own_EL sS.vm h0 sS.vm h0 := CHr.refl hCH
  have hEL := own_EW hw
  have wS := own_wS hw
  obtain ⟨T1, X1, e1, st1⟩ := initO X0 hx hZ0 hown0 (w_46 hw) (w_19 hw) (w_20 hw) e0 (g := (mkF mM 1 #[.val (.ref a), .val (.ref x), .val (.ref y)] [(.ref a)])) rfl (by rw [hml]; rfl) rfl (hb hby d_prog_27_method_1_1) (by decide) (W := 0) (by show 2 * 0 + _ ≤ _; exact Nat.le_of_eq rfl) (by decide)
  obtain ⟨a2, T2, h2, k2, X2, e2, E2, hS2, hk2, hZ2, hown2, CHl2, Lit2, st2⟩ := ldcOH X1 hx hZ0 hown0 (w_47 hw) wS e1 hS0 hk0 hEL CH0.1 (g := (mkF mM 6 #[.val (.ref a), .val (.ref x), .val (.ref y)] [(.ref x), (.ref a)])) rfl (hb hby d_prog_27_method_1_6) (n := 16) (by decide) (by decide) (by decide) (by decide)
  have CH3 : CHr Z own_EL sS.vm h0 T2.vm h2 := CH0.trans (CHl2)
  skip
  have K5 : Keep h0 h2 [a] := K0.ext E2
  have f6 := (O0.ext E2)
  obtain ⟨_, _, ⟨T7, L7, k7, n7⟩, -, X7, ⟨Lc7, hQ7, l7, y7, z7⟩, st7⟩ := Jvm.LawKit.callS X2 hx (y := (⟨"java/util/Objects", "requireNonNull", "(Ljava/lang/Object;Ljava/lang/String;)Ljava/lang/Object;"⟩ : MethodName)) hown2 (mvT hZ2 (w_48 hw)) (mvT hZ2 (w_49 hw)) (mvT hZ2 (w_50 hw)) (mvT hZ2 (w_51 hw)) (by decide) (backOf (W := 1) (rm_rnn l Z a0 hw [] x a2 h2 n0 f6 ) hZ2 (w_51 hw) (w_50 hw) (by decide) (by decide)) (g := (mkF mM 8 #[.val (.ref a), .val (.ref x), .val (.ref y)] [(.ref a2), (.ref x), (.ref a)])) rfl (by rw [hml]; rfl) (argsL := [(.ref x), (.ref a2)]) (rest := [(.ref a)]) (lenOf pd_3 rfl) rfl (by show 2 * 0 + _ ≤ _; exact Nat.le_of_eq rfl) (hb hby d_prog_27_method_1_8) (fun _ _ => ⟨rfl, e2, (by decide : 2 + 0 ≤ _), (by decide : 20 + 0 ≤ _)⟩)
  dsimp only [Pt.U, Pt.locs, Pt.cells, Pt.slots] at X7 l7 y7 z7 st7 hQ7
  subst l7 y7 z7
  obtain ⟨rfl, rfl, Kq7⟩ := hQ7
  try rw [List.append_nil] at X7
  have f8 := (E_x.ext E2)
  obtain ⟨T9, X9, e9, st9⟩ := castY X7 hx hZ2 hown2 (w_52 hw) Kq7 (Ins.self f8) (g := (mkF mM 11 #[.val (.ref a), .val (.ref x), .val (.ref y)] [(.ref x), (.ref a)])) rfl rfl (hb hby d_prog_27_method_1_11)
  have f10 := (F_a__path.ext E2)
  have f11 := (E_a.ext E2)
  obtain ⟨T12, h12, X12, e12, W12, st12⟩ := putF X9 hx hZ2 hown2 (host := "") (Or.inl (w_53 hw)) Via.refl e9 f10 f11 (Or.inr ⟨(w_54 hw), rfl, hnm⟩) (w_1 hw) (ty := (.object "java/lang/String")) (by decide) rfl rfl (g := (mkF mM 14 #[.val (.ref a), .val (.ref x), .val (.ref y)] [(.ref x), (.ref a)])) rfl rfl (hb hby d_prog_27_method_1_14)
  have sfp14 := (Safe.exa (EL := own_EL) hZ2.alike f11 (by decide) (by decide))
  have CH13 : CHr Z own_EL sS.vm h0 T2.vm h12 := CH3.trans (CHr.wr W12 sfp14 CH3.1)
  have hk15 := Nat.le_trans hk2 (Nat.le_of_eq W12.size.symm)
  have K16 : Keep h0 h12 [a] := K5.wr W12 (Or.inl (List.mem_of_getElem? (i := 0) rfl))
  have Fw12 : Fld Z h12 a "com/example/ullr/ullr/files/ListedLink" "_path" "Ljava/lang/String;" (.ref x) := f10.same W12
  have N12 := Fr.snoc X12 N0 g_a
  obtain ⟨a17, T17, h17, k17, X17, e17, E17, hS17, hk17, hZ17, hown17, CHl17, Lit17, st17⟩ := ldcOH X12 hx hZ2 hown2 (w_55 hw) wS e12 hS2 hk15 hEL CH13.1 (g := (mkF mM 19 #[.val (.ref a), .val (.ref x), .val (.ref y)] [(.ref y), (.ref a)])) rfl (hb hby d_prog_27_method_1_19) (n := 24) (by decide) (by decide) (by decide) (by decide)
  have CH18 : CHr Z own_EL sS.vm h0 T17.vm h17 := CH13.trans (CHl17)
  skip
  have K20 : Keep h0 h17 [a] := K16.ext E17
  have f21 := ((f6.wr W12 g_a).ext E17)
  obtain ⟨_, _, ⟨T22, L22, k22, n22⟩, -, X22, ⟨Lc22, hQ22, l22, y22, z22⟩, st22⟩ := Jvm.LawKit.callS X17 hx (y := (⟨"java/util/Objects", "requireNonNull", "(Ljava/lang/Object;Ljava/lang/String;)Ljava/lang/Object;"⟩ : MethodName)) hown17 (mvT hZ17 (w_48 hw)) (mvT hZ17 (w_49 hw)) (mvT hZ17 (w_50 hw)) (mvT hZ17 (w_51 hw)) (by decide) (backOf (W := 1) (rm_rnn l Z a0 hw [] y a17 h17 n0 f21 ) hZ17 (w_51 hw) (w_50 hw) (by decide) (by decide)) (g := (mkF mM 21 #[.val (.ref a), .val (.ref x), .val (.ref y)] [(.ref a17), (.ref y), (.ref a)])) rfl (by rw [hml]; rfl) (argsL := [(.ref y), (.ref a17)]) (rest := [(.ref a)]) (lenOf pd_3 rfl) rfl (by show 2 * 0 + _ ≤ _; exact Nat.le_of_eq rfl) (hb hby d_prog_27_method_1_21) (fun _ _ => ⟨rfl, e17, (by decide : 4 + 0 ≤ _), (by decide : 48 + 0 ≤ _)⟩)
  dsimp only [Pt.U, Pt.locs, Pt.cells, Pt.slots] at X22 l22 y22 z22 st22 hQ22
  subst l22 y22 z22
  obtain ⟨rfl, rfl, Kq22⟩ := hQ22
  try rw [List.append_nil] at X22
  have f23 := (((E_y.ext E2).wr W12).ext E17)
  obtain ⟨T24, X24, e24, st24⟩ := castY X22 hx hZ17 hown17 (w_52 hw) Kq22 (Ins.self f23) (g := (mkF mM 24 #[.val (.ref a), .val (.ref x), .val (.ref y)] [(.ref y), (.ref a)])) rfl rfl (hb hby d_prog_27_method_1_24)
  have f25 := (((F_a__target.ext E2).other W12 (Or.inr (slot_ne (Or.inr (w_57 hw)) (Or.inr (w_54 hw)) (by decide) (t := (.object "java/lang/String")) (t' := (.object "java/lang/String")) (by decide) (by decide)))).ext E17)
  have f26 := ((f11.wr W12).ext E17)
  obtain ⟨T27, h27, X27, e27, W27, st27⟩ := putF X24 hx hZ17 hown17 (host := "") (Or.inl (w_56 hw)) Via.refl e24 f25 f26 (Or.inr ⟨(w_57 hw), rfl, hnm⟩) (w_1 hw) (ty := (.object "java/lang/String")) (by decide) rfl rfl (g := (mkF mM 27 #[.val (.ref a), .val (.ref x), .val (.ref y)] [(.ref y), (.ref a)])) rfl rfl (hb hby d_prog_27_method_1_27)
  have sfp29 := (Safe.exa (EL := own_EL) hZ17.alike f26 (by decide) (by decide))
  have CH28 : CHr Z own_EL sS.vm h0 T17.vm h27 := CH18.trans (CHr.wr W27 sfp29 CH18.1)
  have hk30 := Nat.le_trans hk17 (Nat.le_of_eq W27.size.symm)
  have K31 : Keep h0 h27 [a] := K20.wr W27 (Or.inl (List.mem_of_getElem? (i := 0) rfl))
  have Fw27 : Fld Z h27 a "com/example/ullr/ullr/files/ListedLink" "_target" "Ljava/lang/String;" (.ref y) := f25.same W27
  have N27 := Fr.snoc X27 N12 g_a
  have f33 := (f26.wr W27)
  have f34 := ((Fw12.ext E17).other W27 (Or.inr (slot_ne (Or.inr (w_54 hw)) (Or.inr (w_57 hw)) (by decide) (t := (.object "java/lang/String")) (t' := (.object "java/lang/String")) (by decide) (by decide))))
  obtain ⟨fs, hr, hrun, hended, hR1, hR2, hR3, hR4⟩ := Stand.leaveW (s := sS) (vm₁ := T17.vm) X27 hS17 (by rw [e27]; exact hk30) (v := none) (fun _ => rfl)
  refine ⟨_, _, pre0 _ ?_, hrun, hended, _, _, rfl, ?_, ?_, hR1, hR2, hR3, hR4.mono (by decide) (by decide)⟩
  · refine XS.aloadN X0.here hx rfl (hb hby d_prog_27_method_1_0) rfl rfl ?_
    show Steps pP.tables eE below (s₁.setTop (mkF mM 1 #[.val (.ref a), .val (.ref x), .val (.ref y)] [(.ref a)])) _
    refine st1 _ ?_
    show Steps pP.tables eE below (T1.setTop (mkF mM 4 #[.val (.ref a), .val (.ref x), .val (.ref y)] [])) _
    refine XS.aloadN X1.here hx rfl (hb hby d_prog_27_method_1_4) rfl rfl ?_
    show Steps pP.tables eE below (T1.setTop (mkF mM 5 #[.val (.ref a), .val (.ref x), .val (.ref y)] [(.ref a)])) _
    refine XS.aloadN X1.here hx rfl (hb hby d_prog_27_method_1_5) rfl rfl ?_
    show Steps pP.tables eE below (T1.setTop (mkF mM 6 #[.val (.ref a), .val (.ref x), .val (.ref y)] [(.ref x), (.ref a)])) _
    refine st2 _ ?_
    show Steps pP.tables eE below (T2.setTop (mkF mM 8 #[.val (.ref a), .val (.ref x), .val (.ref y)] [(.ref a2), (.ref x), (.ref a)])) _
    refine st7 _ ?_
    show Steps pP.tables eE below (T7.setTop (mkF mM 11 #[.val (.ref a), .val (.ref x), .val (.ref y)] [(.ref x), (.ref a)])) _
    refine st9 _ ?_
    show Steps pP.tables eE below (T9.setTop (mkF mM 14 #[.val (.ref a), .val (.ref x), .val (.ref y)] [(.ref x), (.ref a)])) _
    refine st12 _ ?_
    show Steps pP.tables eE below (T12.setTop (mkF mM 17 #[.val (.ref a), .val (.ref x), .val (.ref y)] [])) _
    refine XS.aloadN X12.here hx rfl (hb hby d_prog_27_method_1_17) rfl rfl ?_
    show Steps pP.tables eE below (T12.setTop (mkF mM 18 #[.val (.ref a), .val (.ref x), .val (.ref y)] [(.ref a)])) _
    refine XS.aloadN X12.here hx rfl (hb hby d_prog_27_method_1_18) rfl rfl ?_
    show Steps pP.tables eE below (T12.setTop (mkF mM 19 #[.val (.ref a), .val (.ref x), .val (.ref y)] [(.ref y), (.ref a)])) _
    refine st17 _ ?_
    show Steps pP.tables eE below (T17.setTop (mkF mM 21 #[.val (.ref a), .val (.ref x), .val (.ref y)] [(.ref a17), (.ref y), (.ref a)])) _
    refine st22 _ ?_
    show Steps pP.tables eE below (T22.setTop (mkF mM 24 #[.val (.ref a), .val (.ref x), .val (.ref y)] [(.ref y), (.ref a)])) _
    refine st24 _ ?_
    show Steps pP.tables eE below (T24.setTop (mkF mM 27 #[.val (.ref a), .val (.ref x), .val (.ref y)] [(.ref y), (.ref a)])) _
    refine st27 _ ?_
    show Steps pP.tables eE below (T27.setTop (mkF mM 30 #[.val (.ref a), .val (.ref x), .val (.ref y)] [])) _
    exact X27.returnOut hx Bd.returns (hb hby d_prog_27_method_1_30) hr
  · show Q_lini Z a x y u1 u2 h0 n0 _ T27.heap _
    rw [e27]
    exact ⟨rfl, N27, K31, f33, f34, Fw27⟩
  · show CHr Z own_EL sS.vm sS.heap T27.vm T27.heap
    rw [hh, e27]
    exact CH28.trans (CHv.at X27 hZ17 hEL CH28.1)
theorem ef_sam (m : MethodId) (x0 : Int32) (x1 : Int32) : entryFrame m #[(.int x0), (.int x1)] 3 = mkF m 0 #[.val (.int x0), .val (.int x1), .unset] [] := by first | (simp [entryFrame, mkF, argsToLocals, Value.category]; done) | rfl
def Q_sam (Z : State) (x : Int32) (y : Int32) (h0 : Heap) (n0 : Nat) (vV : Option Value) (h : Heap) (LL : List Loc) : Prop := vV = some (.int (own_same x y)) ∧ LL = [] ∧ h = h0
set_option maxRecDepth 65536 in
set_option maxHeartbeats 40000000 in
theorem rm_sam (l : Launch) (Z : State) (a0 : Array Value) (hw : ∀ d ∈ tables_1, d.before a0 Z = true) (ws : List Jvm.Cond) (x : Int32) (y : Int32) (h0 : Heap) (n0 : Nat) (O0 : Old Z n0 h0) :
    MetFree l (⟨"com/example/ullr/ullr/files/ListedLinkEqualsPinLaw", "same", "(II)Z"⟩ : MethodName) (head1 (Jvm.Cond.code (⟨"com/example/ullr/ullr/files/ListedLinkEqualsPinLaw", "same", "(II)Z"⟩ : MethodName) method_4_code 3 (some .boolean) :: ws) ({ frames := 1, cells := 0, slots := 0, locals := 14 } : Room)) (fun aa_ U => aa_ = #[(.int x), (.int y)] ∧ Z.Warmed39 U.vm ∧ U.heap = h0) (fun _ _ _ _ _ => True) (fun _ U o U' => ∃ vV LL, o = .returned vV ∧ Q_sam Z x y h0 n0 vV U'.heap LL ∧ FrameEnd U o U' LL ({ frames := 1, cells := 0, slots := 0, locals := 14 } : Room).cells ({ frames := 1, cells := 0, slots := 0, locals := 14 } : Room).slots) := by
  refine MetFree.of_bodySF (plainFor_of_name pn_1) hisR ?_
  intro pP eE sS mM args below meth cC s₁ Bd hml0 hP hK
  obtain ⟨rfl, hZ, hh⟩ := hP
  have hx := Bd.exec
  have hby := Bd.bytes
  have hml : cC.maxLocals = 3 := hml0
  have hown : sS.vm.findClass "com/example/ullr/ullr/files/ListedLinkEqualsPinLaw" = some mM.cls := findClass_of_methodNamed Bd.named
  have hnm := (name_of_methodNamed Bd.named Bd.method).1
  have X0 : Stand pP l eE ({ frames := 1, cells := 0, slots := 0, locals := 14 } : Room) sS mM #[(.int x), (.int y)] below meth cC s₁ [] 0 0 := Stand.of_body Bd
  have e0 : s₁.heap = h0 := by rw [← hh, Bd.state]; rfl
  have N0 := Fr.nil n0
  have pre0 : ∀ tg, Steps pP.tables eE below (s₁.setTop (mkF mM 0 #[.val (.int x), .val (.int y), .unset] [])) tg → Steps pP.tables eE below (s₁.setTop (entryFrame mM #[(.int x), (.int y)] 3)) tg := fun tg kg => castTop (ef_sam mM x y) kg
  have pre2 : ∀ tg, Steps pP.tables eE below (s₁.setTop (mkF mM 8 #[.val (.int x), .val (.int y), .val (.int (x &&& (3 : Int32)))] [(.int (y &&& (3 : Int32))), (.int (x &&& (3 : Int32)))])) tg → Steps pP.tables eE below (s₁.setTop (entryFrame mM #[(.int x), (.int y)] 3)) tg := fun tg kg => pre0 tg (by
    refine XS.iloadN X0.here hx rfl (hb hby d_method_4_0) rfl ?_
    show Steps pP.tables eE below (s₁.setTop (mkF mM 1 #[.val (.int x), .val (.int y), .unset] [(.int x)])) _
    refine XS.iconst X0.here hx rfl (hb hby d_method_4_1) ?_
    show Steps pP.tables eE below (s₁.setTop (mkF mM 2 #[.val (.int x), .val (.int y), .unset] [(.int (3 : Int32)), (.int x)])) _
    refine XS.iand X0.here hx rfl (hb hby d_method_4_2) rfl ?_
    show Steps pP.tables eE below (s₁.setTop (mkF mM 3 #[.val (.int x), .val (.int y), .unset] [(.int (x &&& (3 : Int32)))])) _
    refine XS.istoreN X0.here hx rfl (hb hby d_method_4_3) rfl (l' := #[.val (.int x), .val (.int y), .val (.int (x &&& (3 : Int32)))]) rfl ?_
    show Steps pP.tables eE below (s₁.setTop (mkF mM 4 #[.val (.int x), .val (.int y), .val (.int (x &&& (3 : Int32)))] [])) _
    refine XS.iloadN X0.here hx rfl (hb hby d_method_4_4) rfl ?_
    show Steps pP.tables eE below (s₁.setTop (mkF mM 5 #[.val (.int x), .val (.int y), .val (.int (x &&& (3 : Int32)))] [(.int (x &&& (3 : Int32)))])) _
    refine XS.iloadN X0.here hx rfl (hb hby d_method_4_5) rfl ?_
    show Steps pP.tables eE below (s₁.setTop (mkF mM 6 #[.val (.int x), .val (.int y), .val (.int (x &&& (3 : Int32)))] [(.int y), (.int (x &&& (3 : Int32)))])) _
    refine XS.iconst X0.here hx rfl (hb hby d_method_4_6) ?_
    show Steps pP.tables eE below (s₁.setTop (mkF mM 7 #[.val (.int x), .val (.int y), .val (.int (x &&& (3 : Int32)))] [(.int (3 : Int32)), (.int y), (.int (x &&& (3 : Int32)))])) _
    refine XS.iand X0.here hx rfl (hb hby d_method_4_7) rfl ?_
    exact kg)
  by_cases hc1 : (x &&& (3 : Int32)) = (y &&& (3 : Int32))
  · have pre4 : ∀ tg, Steps pP.tables eE below (s₁.setTop (mkF mM 15 #[.val (.int x), .val (.int y), .val (.int (x &&& (3 : Int32)))] [(.int (1 : Int32)), (.int (x &&& (3 : Int32)))])) tg → Steps pP.tables eE below (s₁.setTop (entryFrame mM #[(.int x), (.int y)] 3)) tg := fun tg kg => pre2 tg (by
      refine XS.icmpYes X0.here hx rfl (pc0 := 8) (pc' := 13) rfl (hb hby d_method_4_8) rfl (teq hc1).1 (by decide) (by decide) ?_
      show Steps pP.tables eE below (s₁.setTop (mkF mM 13 #[.val (.int x), .val (.int y), .val (.int (x &&& (3 : Int32)))] [])) _
      refine XS.iloadN X0.here hx rfl (hb hby d_method_4_13) rfl ?_
      show Steps pP.tables eE below (s₁.setTop (mkF mM 14 #[.val (.int x), .val (.int y), .val (.int (x &&& (3 : Int32)))] [(.int (x &&& (3 : Int32)))])) _
      refine XS.iconst X0.here hx rfl (hb hby d_method_4_14) ?_
      exact kg)
    by_cases hc3 : (x &&& (3 : Int32)) < (1 : Int32)
    · have pre6 : ∀ tg, Steps pP.tables eE below (s₁.setTop (mkF mM 33 #[.val (.int x), .val (.int y), .val (.int (x &&& (3 : Int32)))] [(.int (2 : Int32)), (.int (x &&& (3 : Int32)))])) tg → Steps pP.tables eE below (s₁.setTop (entryFrame mM #[(.int x), (.int y)] 3)) tg := fun tg kg => pre4 tg (by
        refine XS.icmpYes X0.here hx rfl (pc0 := 15) (pc' := 31) rfl (hb hby d_method_4_15) rfl (tlt hc3).1 (by decide) (by decide) ?_
        show Steps pP.tables eE below (s₁.setTop (mkF mM 31 #[.val (.int x), .val (.int y), .val (.int (x &&& (3 : Int32)))] [])) _
        refine XS.iloadN X0.here hx rfl (hb hby d_method_4_31) rfl ?_
        show Steps pP.tables eE below (s₁.setTop (mkF mM 32 #[.val (.int x), .val (.int y), .val (.int (x &&& (3 : Int32)))] [(.int (x &&& (3 : Int32)))])) _
        refine XS.iconst X0.here hx rfl (hb hby d_method_4_32) ?_
        exact kg)
      by_cases hc5 : (x &&& (3 : Int32)) < (2 : Int32)
      · have pre8 : ∀ tg, Steps pP.tables eE below (s₁.setTop (mkF mM 51 #[.val (.int x), .val (.int y), .val (.int (x &&& (3 : Int32)))] [(.int (3 : Int32)), (.int (x &&& (3 : Int32)))])) tg → Steps pP.tables eE below (s₁.setTop (entryFrame mM #[(.int x), (.int y)] 3)) tg := fun tg kg => pre6 tg (by
          refine XS.icmpYes X0.here hx rfl (pc0 := 33) (pc' := 49) rfl (hb hby d_method_4_33) rfl (tlt hc5).1 (by decide) (by decide) ?_
          show Steps pP.tables eE below (s₁.setTop (mkF mM 49 #[.val (.int x), .val (.int y), .val (.int (x &&& (3 : Int32)))] [])) _
          refine XS.iloadN X0.here hx rfl (hb hby d_method_4_49) rfl ?_
          show Steps pP.tables eE below (s₁.setTop (mkF mM 50 #[.val (.int x), .val (.int y), .val (.int (x &&& (3 : Int32)))] [(.int (x &&& (3 : Int32)))])) _
          refine XS.iconst X0.here hx rfl (hb hby d_method_4_50) ?_
          exact kg)
        by_cases hc7 : (x &&& (3 : Int32)) < (3 : Int32)
        · obtain ⟨fs, hr, hrun, hended, hW, hsame⟩ := X0.leave (v := some (.int (1 : Int32))) (fun h => by rw [Bd.returns] at h; cases h)
          refine ⟨_, _, pre8 _ ?_, hrun, hended, _, _, rfl, ?_, ⟨_, rfl⟩, hW, hsame.mono (by decide) (by decide)⟩
          · refine XS.icmpYes X0.here hx rfl (pc0 := 51) (pc' := 67) rfl (hb hby d_method_4_51) rfl (tlt hc7).1 (by decide) (by decide) ?_
            show Steps pP.tables eE below (s₁.setTop (mkF mM 67 #[.val (.int x), .val (.int y), .val (.int (x &&& (3 : Int32)))] [])) _
            refine XS.iconst X0.here hx rfl (hb hby d_method_4_67) ?_
            show Steps pP.tables eE below (s₁.setTop (mkF mM 68 #[.val (.int x), .val (.int y), .val (.int (x &&& (3 : Int32)))] [(.int (1 : Int32))])) _
            refine XS.goto X0.here hx rfl (pc0 := 68) (pc' := 72) rfl (hb hby d_method_4_68) (by decide) (by decide) ?_
            show Steps pP.tables eE below (s₁.setTop (mkF mM 72 #[.val (.int x), .val (.int y), .val (.int (x &&& (3 : Int32)))] [(.int (1 : Int32))])) _
            exact retN X0 hx (t := .boolean) Bd.returns (by simp) (hb hby d_method_4_72) hr
          · show Q_sam Z x y h0 n0 _ s₁.heap _
            rw [e0]
            exact ⟨(by rw [own_same, if_pos hc1, if_pos hc3, if_pos hc5, if_pos hc7]), rfl, rfl⟩
        · obtain ⟨_, _, ⟨T10, L10, k10, n10⟩, -, X10, ⟨Lc10, hQ10, l10, y10, z10⟩, st10⟩ := Jvm.LawKit.callS X0 hx (y := (⟨"com/example/ullr/ullr/files/ListedLinkEqualsPinLaw", "ch", "(II)C"⟩ : MethodName)) hown (mvT hZ (w_29 hw)) (mvT hZ (w_30 hw)) (mvT hZ (w_5 hw)) (mvT hZ (w_31 hw)) (by decide) (backOf (W := 0) (rm_ch l Z a0 hw [] x (2 : Int32) h0 n0 O0 ) hZ (w_31 hw) (w_5 hw) (by decide) (by decide)) (g := (mkF mM 56 #[.val (.int x), .val (.int y), .val (.int (x &&& (3 : Int32)))] [(.int (2 : Int32)), (.int x)])) rfl (by rw [hml]; rfl) (argsL := [(.int x), (.int (2 : Int32))]) (rest := []) (lenOf pd_2 rfl) rfl (by show 2 * 0 + _ ≤ _; exact Nat.le_of_eq rfl) (hb hby d_method_4_56) (fun _ _ => ⟨rfl, e0, (by decide : 0 + 0 ≤ _), (by decide : 0 + 0 ≤ _)⟩)
          dsimp only [Pt.U, Pt.locs, Pt.cells, Pt.slots] at X10 l10 y10 z10 st10 hQ10
          subst l10 y10 z10
          obtain ⟨rfl, rfl, Kq10⟩ := hQ10
          try rw [List.append_nil] at X10
          obtain ⟨_, _, ⟨T11, L11, k11, n11⟩, -, X11, ⟨Lc11, hQ11, l11, y11, z11⟩, st11⟩ := Jvm.LawKit.callS X10 hx (y := (⟨"com/example/ullr/ullr/files/ListedLinkEqualsPinLaw", "ch", "(II)C"⟩ : MethodName)) hown (mvT hZ (w_29 hw)) (mvT hZ (w_30 hw)) (mvT hZ (w_5 hw)) (mvT hZ (w_31 hw)) (by decide) (backOf (W := 1) (rm_ch l Z a0 hw [] y (2 : Int32) h0 n0 O0 ) hZ (w_31 hw) (w_5 hw) (by decide) (by decide)) (g := (mkF mM 61 #[.val (.int x), .val (.int y), .val (.int (x &&& (3 : Int32)))] [(.int (2 : Int32)), (.int y), (.int (own_ch x (2 : Int32)))])) rfl (by rw [hml]; rfl) (argsL := [(.int y), (.int (2 : Int32))]) (rest := [(.int (own_ch x (2 : Int32)))]) (lenOf pd_2 rfl) rfl (by show 2 * 0 + _ ≤ _; exact Nat.le_of_eq rfl) (hb hby d_method_4_61) (fun _ _ => ⟨rfl, Kq10, (by decide : 0 + 0 ≤ _), (by decide : 0 + 0 ≤ _)⟩)
          dsimp only [Pt.U, Pt.locs, Pt.cells, Pt.slots] at X11 l11 y11 z11 st11 hQ11
          subst l11 y11 z11
          obtain ⟨rfl, rfl, Kq11⟩ := hQ11
          try rw [List.append_nil] at X11
          have pre13 : ∀ tg, Steps pP.tables eE below (T11.setTop (mkF mM 64 #[.val (.int x), .val (.int y), .val (.int (x &&& (3 : Int32)))] [(.int (own_ch y (2 : Int32))), (.int (own_ch x (2 : Int32)))])) tg → Steps pP.tables eE below (s₁.setTop (entryFrame mM #[(.int x), (.int y)] 3)) tg := fun tg kg => pre8 tg (by
            refine XS.icmpNo X0.here hx rfl (hb hby d_method_4_51) rfl (flt hc7).1 ?_
            show Steps pP.tables eE below (s₁.setTop (mkF mM 54 #[.val (.int x), .val (.int y), .val (.int (x &&& (3 : Int32)))] [])) _
            refine XS.iloadN X0.here hx rfl (hb hby d_method_4_54) rfl ?_
            show Steps pP.tables eE below (s₁.setTop (mkF mM 55 #[.val (.int x), .val (.int y), .val (.int (x &&& (3 : Int32)))] [(.int x)])) _
            refine XS.iconst X0.here hx rfl (hb hby d_method_4_55) ?_
            show Steps pP.tables eE below (s₁.setTop (mkF mM 56 #[.val (.int x), .val (.int y), .val (.int (x &&& (3 : Int32)))] [(.int (2 : Int32)), (.int x)])) _
            refine st10 _ ?_
            show Steps pP.tables eE below (T10.setTop (mkF mM 59 #[.val (.int x), .val (.int y), .val (.int (x &&& (3 : Int32)))] [(.int (own_ch x (2 : Int32)))])) _
            refine XS.iloadN X10.here hx rfl (hb hby d_method_4_59) rfl ?_
            show Steps pP.tables eE below (T10.setTop (mkF mM 60 #[.val (.int x), .val (.int y), .val (.int (x &&& (3 : Int32)))] [(.int y), (.int (own_ch x (2 : Int32)))])) _
            refine XS.iconst X10.here hx rfl (hb hby d_method_4_60) ?_
            show Steps pP.tables eE below (T10.setTop (mkF mM 61 #[.val (.int x), .val (.int y), .val (.int (x &&& (3 : Int32)))] [(.int (2 : Int32)), (.int y), (.int (own_ch x (2 : Int32)))])) _
            refine st11 _ ?_
            exact kg)
          by_cases hc12 : (own_ch x (2 : Int32)) = (own_ch y (2 : Int32))
          · obtain ⟨fs, hr, hrun, hended, hW, hsame⟩ := X11.leave (v := some (.int (1 : Int32))) (fun h => by rw [Bd.returns] at h; cases h)
            refine ⟨_, _, pre13 _ ?_, hrun, hended, _, _, rfl, ?_, ⟨_, rfl⟩, hW, hsame.mono (by decide) (by decide)⟩
            · refine XS.icmpNo X11.here hx rfl (hb hby d_method_4_64) rfl (teq hc12).2 ?_
              show Steps pP.tables eE below (T11.setTop (mkF mM 67 #[.val (.int x), .val (.int y), .val (.int (x &&& (3 : Int32)))] [])) _
              refine XS.iconst X11.here hx rfl (hb hby d_method_4_67) ?_
              show Steps pP.tables eE below (T11.setTop (mkF mM 68 #[.val (.int x), .val (.int y), .val (.int (x &&& (3 : Int32)))] [(.int (1 : Int32))])) _
              refine XS.goto X11.here hx rfl (pc0 := 68) (pc' := 72) rfl (hb hby d_method_4_68) (by decide) (by decide) ?_
              show Steps pP.tables eE below (T11.setTop (mkF mM 72 #[.val (.int x), .val (.int y), .val (.int (x &&& (3 : Int32)))] [(.int (1 : Int32))])) _
              exact retN X11 hx (t := .boolean) Bd.returns (by simp) (hb hby d_method_4_72) hr
            · show Q_sam Z x y h0 n0 _ T11.heap _
              rw [Kq11]
              exact ⟨(by rw [own_same, if_pos hc1, if_pos hc3, if_pos hc5, if_neg hc7, if_pos hc12]), rfl, rfl⟩
          · obtain ⟨fs, hr, hrun, hended, hW, hsame⟩ := X11.leave (v := some (.int (0 : Int32))) (fun h => by rw [Bd.returns] at h; cases h)
            refine ⟨_, _, pre13 _ ?_, hrun, hended, _, _, rfl, ?_, ⟨_, rfl⟩, hW, hsame.mono (by decide) (by decide)⟩
            · refine XS.icmpYes X11.here hx rfl (pc0 := 64) (pc' := 71) rfl (hb hby d_method_4_64) rfl (feq hc12).2 (by decide) (by decide) ?_
              show Steps pP.tables eE below (T11.setTop (mkF mM 71 #[.val (.int x), .val (.int y), .val (.int (x &&& (3 : Int32)))] [])) _
              refine XS.iconst X11.here hx rfl (hb hby d_method_4_71) ?_
              show Steps pP.tables eE below (T11.setTop (mkF mM 72 #[.val (.int x), .val (.int y), .val (.int (x &&& (3 : Int32)))] [(.int (0 : Int32))])) _
              exact retN X11 hx (t := .boolean) Bd.returns (by simp) (hb hby d_method_4_72) hr
            · show Q_sam Z x y h0 n0 _ T11.heap _
              rw [Kq11]
              exact ⟨(by rw [own_same, if_pos hc1, if_pos hc3, if_pos hc5, if_neg hc7, if_neg hc12]), rfl, rfl⟩
      · obtain ⟨_, _, ⟨T16, L16, k16, n16⟩, -, X16, ⟨Lc16, hQ16, l16, y16, z16⟩, st16⟩ := Jvm.LawKit.callS X0 hx (y := (⟨"com/example/ullr/ullr/files/ListedLinkEqualsPinLaw", "ch", "(II)C"⟩ : MethodName)) hown (mvT hZ (w_29 hw)) (mvT hZ (w_30 hw)) (mvT hZ (w_5 hw)) (mvT hZ (w_31 hw)) (by decide) (backOf (W := 0) (rm_ch l Z a0 hw [] x (1 : Int32) h0 n0 O0 ) hZ (w_31 hw) (w_5 hw) (by decide) (by decide)) (g := (mkF mM 38 #[.val (.int x), .val (.int y), .val (.int (x &&& (3 : Int32)))] [(.int (1 : Int32)), (.int x)])) rfl (by rw [hml]; rfl) (argsL := [(.int x), (.int (1 : Int32))]) (rest := []) (lenOf pd_2 rfl) rfl (by show 2 * 0 + _ ≤ _; exact Nat.le_of_eq rfl) (hb hby d_method_4_38) (fun _ _ => ⟨rfl, e0, (by decide : 0 + 0 ≤ _), (by decide : 0 + 0 ≤ _)⟩)
        dsimp only [Pt.U, Pt.locs, Pt.cells, Pt.slots] at X16 l16 y16 z16 st16 hQ16
        subst l16 y16 z16
        obtain ⟨rfl, rfl, Kq16⟩ := hQ16
        try rw [List.append_nil] at X16
        obtain ⟨_, _, ⟨T17, L17, k17, n17⟩, -, X17, ⟨Lc17, hQ17, l17, y17, z17⟩, st17⟩ := Jvm.LawKit.callS X16 hx (y := (⟨"com/example/ullr/ullr/files/ListedLinkEqualsPinLaw", "ch", "(II)C"⟩ : MethodName)) hown (mvT hZ (w_29 hw)) (mvT hZ (w_30 hw)) (mvT hZ (w_5 hw)) (mvT hZ (w_31 hw)) (by decide) (backOf (W := 1) (rm_ch l Z a0 hw [] y (1 : Int32) h0 n0 O0 ) hZ (w_31 hw) (w_5 hw) (by decide) (by decide)) (g := (mkF mM 43 #[.val (.int x), .val (.int y), .val (.int (x &&& (3 : Int32)))] [(.int (1 : Int32)), (.int y), (.int (own_ch x (1 : Int32)))])) rfl (by rw [hml]; rfl) (argsL := [(.int y), (.int (1 : Int32))]) (rest := [(.int (own_ch x (1 : Int32)))]) (lenOf pd_2 rfl) rfl (by show 2 * 0 + _ ≤ _; exact Nat.le_of_eq rfl) (hb hby d_method_4_43) (fun _ _ => ⟨rfl, Kq16, (by decide : 0 + 0 ≤ _), (by decide : 0 + 0 ≤ _)⟩)
        dsimp only [Pt.U, Pt.locs, Pt.cells, Pt.slots] at X17 l17 y17 z17 st17 hQ17
        subst l17 y17 z17
        obtain ⟨rfl, rfl, Kq17⟩ := hQ17
        try rw [List.append_nil] at X17
        have pre19 : ∀ tg, Steps pP.tables eE below (T17.setTop (mkF mM 46 #[.val (.int x), .val (.int y), .val (.int (x &&& (3 : Int32)))] [(.int (own_ch y (1 : Int32))), (.int (own_ch x (1 : Int32)))])) tg → Steps pP.tables eE below (s₁.setTop (entryFrame mM #[(.int x), (.int y)] 3)) tg := fun tg kg => pre6 tg (by
          refine XS.icmpNo X0.here hx rfl (hb hby d_method_4_33) rfl (flt hc5).1 ?_
          show Steps pP.tables eE below (s₁.setTop (mkF mM 36 #[.val (.int x), .val (.int y), .val (.int (x &&& (3 : Int32)))] [])) _
          refine XS.iloadN X0.here hx rfl (hb hby d_method_4_36) rfl ?_
          show Steps pP.tables eE below (s₁.setTop (mkF mM 37 #[.val (.int x), .val (.int y), .val (.int (x &&& (3 : Int32)))] [(.int x)])) _
          refine XS.iconst X0.here hx rfl (hb hby d_method_4_37) ?_
          show Steps pP.tables eE below (s₁.setTop (mkF mM 38 #[.val (.int x), .val (.int y), .val (.int (x &&& (3 : Int32)))] [(.int (1 : Int32)), (.int x)])) _
          refine st16 _ ?_
          show Steps pP.tables eE below (T16.setTop (mkF mM 41 #[.val (.int x), .val (.int y), .val (.int (x &&& (3 : Int32)))] [(.int (own_ch x (1 : Int32)))])) _
          refine XS.iloadN X16.here hx rfl (hb hby d_method_4_41) rfl ?_
          show Steps pP.tables eE below (T16.setTop (mkF mM 42 #[.val (.int x), .val (.int y), .val (.int (x &&& (3 : Int32)))] [(.int y), (.int (own_ch x (1 : Int32)))])) _
          refine XS.iconst X16.here hx rfl (hb hby d_method_4_42) ?_
          show Steps pP.tables eE below (T16.setTop (mkF mM 43 #[.val (.int x), .val (.int y), .val (.int (x &&& (3 : Int32)))] [(.int (1 : Int32)), (.int y), (.int (own_ch x (1 : Int32)))])) _
          refine st17 _ ?_
          exact kg)
        by_cases hc18 : (own_ch x (1 : Int32)) = (own_ch y (1 : Int32))
        · have pre21 : ∀ tg, Steps pP.tables eE below (T17.setTop (mkF mM 51 #[.val (.int x), .val (.int y), .val (.int (x &&& (3 : Int32)))] [(.int (3 : Int32)), (.int (x &&& (3 : Int32)))])) tg → Steps pP.tables eE below (s₁.setTop (entryFrame mM #[(.int x), (.int y)] 3)) tg := fun tg kg => pre19 tg (by
            refine XS.icmpNo X17.here hx rfl (hb hby d_method_4_46) rfl (teq hc18).2 ?_
            show Steps pP.tables eE below (T17.setTop (mkF mM 49 #[.val (.int x), .val (.int y), .val (.int (x &&& (3 : Int32)))] [])) _
            refine XS.iloadN X17.here hx rfl (hb hby d_method_4_49) rfl ?_
            show Steps pP.tables eE below (T17.setTop (mkF mM 50 #[.val (.int x), .val (.int y), .val (.int (x &&& (3 : Int32)))] [(.int (x &&& (3 : Int32)))])) _
            refine XS.iconst X17.here hx rfl (hb hby d_method_4_50) ?_
            exact kg)
          by_cases hc20 : (x &&& (3 : Int32)) < (3 : Int32)
          · obtain ⟨fs, hr, hrun, hended, hW, hsame⟩ := X17.leave (v := some (.int (1 : Int32))) (fun h => by rw [Bd.returns] at h; cases h)
            refine ⟨_, _, pre21 _ ?_, hrun, hended, _, _, rfl, ?_, ⟨_, rfl⟩, hW, hsame.mono (by decide) (by decide)⟩
            · refine XS.icmpYes X17.here hx rfl (pc0 := 51) (pc' := 67) rfl (hb hby d_method_4_51) rfl (tlt hc20).1 (by decide) (by decide) ?_
              show Steps pP.tables eE below (T17.setTop (mkF mM 67 #[.val (.int x), .val (.int y), .val (.int (x &&& (3 : Int32)))] [])) _
              refine XS.iconst X17.here hx rfl (hb hby d_method_4_67) ?_
              show Steps pP.tables eE below (T17.setTop (mkF mM 68 #[.val (.int x), .val (.int y), .val (.int (x &&& (3 : Int32)))] [(.int (1 : Int32))])) _
              refine XS.goto X17.here hx rfl (pc0 := 68) (pc' := 72) rfl (hb hby d_method_4_68) (by decide) (by decide) ?_
              show Steps pP.tables eE below (T17.setTop (mkF mM 72 #[.val (.int x), .val (.int y), .val (.int (x &&& (3 : Int32)))] [(.int (1 : Int32))])) _
              exact retN X17 hx (t := .boolean) Bd.returns (by simp) (hb hby d_method_4_72) hr
            · show Q_sam Z x y h0 n0 _ T17.heap _
              rw [Kq17]
              exact ⟨(by rw [own_same, if_pos hc1, if_pos hc3, if_neg hc5, if_pos hc18, if_pos hc20]), rfl, rfl⟩
          · obtain ⟨_, _, ⟨T23, L23, k23, n23⟩, -, X23, ⟨Lc23, hQ23, l23, y23, z23⟩, st23⟩ := Jvm.LawKit.callS X17 hx (y := (⟨"com/example/ullr/ullr/files/ListedLinkEqualsPinLaw", "ch", "(II)C"⟩ : MethodName)) hown (mvT hZ (w_29 hw)) (mvT hZ (w_30 hw)) (mvT hZ (w_5 hw)) (mvT hZ (w_31 hw)) (by decide) (backOf (W := 0) (rm_ch l Z a0 hw [] x (2 : Int32) h0 n0 O0 ) hZ (w_31 hw) (w_5 hw) (by decide) (by decide)) (g := (mkF mM 56 #[.val (.int x), .val (.int y), .val (.int (x &&& (3 : Int32)))] [(.int (2 : Int32)), (.int x)])) rfl (by rw [hml]; rfl) (argsL := [(.int x), (.int (2 : Int32))]) (rest := []) (lenOf pd_2 rfl) rfl (by show 2 * 0 + _ ≤ _; exact Nat.le_of_eq rfl) (hb hby d_method_4_56) (fun _ _ => ⟨rfl, Kq17, (by decide : 0 + 0 ≤ _), (by decide : 0 + 0 ≤ _)⟩)
            dsimp only [Pt.U, Pt.locs, Pt.cells, Pt.slots] at X23 l23 y23 z23 st23 hQ23
            subst l23 y23 z23
            obtain ⟨rfl, rfl, Kq23⟩ := hQ23
            try rw [List.append_nil] at X23
            obtain ⟨_, _, ⟨T24, L24, k24, n24⟩, -, X24, ⟨Lc24, hQ24, l24, y24, z24⟩, st24⟩ := Jvm.LawKit.callS X23 hx (y := (⟨"com/example/ullr/ullr/files/ListedLinkEqualsPinLaw", "ch", "(II)C"⟩ : MethodName)) hown (mvT hZ (w_29 hw)) (mvT hZ (w_30 hw)) (mvT hZ (w_5 hw)) (mvT hZ (w_31 hw)) (by decide) (backOf (W := 1) (rm_ch l Z a0 hw [] y (2 : Int32) h0 n0 O0 ) hZ (w_31 hw) (w_5 hw) (by decide) (by decide)) (g := (mkF mM 61 #[.val (.int x), .val (.int y), .val (.int (x &&& (3 : Int32)))] [(.int (2 : Int32)), (.int y), (.int (own_ch x (2 : Int32)))])) rfl (by rw [hml]; rfl) (argsL := [(.int y), (.int (2 : Int32))]) (rest := [(.int (own_ch x (2 : Int32)))]) (lenOf pd_2 rfl) rfl (by show 2 * 0 + _ ≤ _; exact Nat.le_of_eq rfl) (hb hby d_method_4_61) (fun _ _ => ⟨rfl, Kq23, (by decide : 0 + 0 ≤ _), (by decide : 0 + 0 ≤ _)⟩)
            dsimp only [Pt.U, Pt.locs, Pt.cells, Pt.slots] at X24 l24 y24 z24 st24 hQ24
            subst l24 y24 z24
            obtain ⟨rfl, rfl, Kq24⟩ := hQ24
            try rw [List.append_nil] at X24
            have pre26 : ∀ tg, Steps pP.tables eE below (T24.setTop (mkF mM 64 #[.val (.int x), .val (.int y), .val (.int (x &&& (3 : Int32)))] [(.int (own_ch y (2 : Int32))), (.int (own_ch x (2 : Int32)))])) tg → Steps pP.tables eE below (s₁.setTop (entryFrame mM #[(.int x), (.int y)] 3)) tg := fun tg kg => pre21 tg (by
              refine XS.icmpNo X17.here hx rfl (hb hby d_method_4_51) rfl (flt hc20).1 ?_
              show Steps pP.tables eE below (T17.setTop (mkF mM 54 #[.val (.int x), .val (.int y), .val (.int (x &&& (3 : Int32)))] [])) _
              refine XS.iloadN X17.here hx rfl (hb hby d_method_4_54) rfl ?_
              show Steps pP.tables eE below (T17.setTop (mkF mM 55 #[.val (.int x), .val (.int y), .val (.int (x &&& (3 : Int32)))] [(.int x)])) _
              refine XS.iconst X17.here hx rfl (hb hby d_method_4_55) ?_
              show Steps pP.tables eE below (T17.setTop (mkF mM 56 #[.val (.int x), .val (.int y), .val (.int (x &&& (3 : Int32)))] [(.int (2 : Int32)), (.int x)])) _
              refine st23 _ ?_
              show Steps pP.tables eE below (T23.setTop (mkF mM 59 #[.val (.int x), .val (.int y), .val (.int (x &&& (3 : Int32)))] [(.int (own_ch x (2 : Int32)))])) _
              refine XS.iloadN X23.here hx rfl (hb hby d_method_4_59) rfl ?_
              show Steps pP.tables eE below (T23.setTop (mkF mM 60 #[.val (.int x), .val (.int y), .val (.int (x &&& (3 : Int32)))] [(.int y), (.int (own_ch x (2 : Int32)))])) _
              refine XS.iconst X23.here hx rfl (hb hby d_method_4_60) ?_
              show Steps pP.tables eE below (T23.setTop (mkF mM 61 #[.val (.int x), .val (.int y), .val (.int (x &&& (3 : Int32)))] [(.int (2 : Int32)), (.int y), (.int (own_ch x (2 : Int32)))])) _
              refine st24 _ ?_
              exact kg)
            by_cases hc25 : (own_ch x (2 : Int32)) = (own_ch y (2 : Int32))
            · obtain ⟨fs, hr, hrun, hended, hW, hsame⟩ := X24.leave (v := some (.int (1 : Int32))) (fun h => by rw [Bd.returns] at h; cases h)
              refine ⟨_, _, pre26 _ ?_, hrun, hended, _, _, rfl, ?_, ⟨_, rfl⟩, hW, hsame.mono (by decide) (by decide)⟩
              · refine XS.icmpNo X24.here hx rfl (hb hby d_method_4_64) rfl (teq hc25).2 ?_
                show Steps pP.tables eE below (T24.setTop (mkF mM 67 #[.val (.int x), .val (.int y), .val (.int (x &&& (3 : Int32)))] [])) _
                refine XS.iconst X24.here hx rfl (hb hby d_method_4_67) ?_
                show Steps pP.tables eE below (T24.setTop (mkF mM 68 #[.val (.int x), .val (.int y), .val (.int (x &&& (3 : Int32)))] [(.int (1 : Int32))])) _
                refine XS.goto X24.here hx rfl (pc0 := 68) (pc' := 72) rfl (hb hby d_method_4_68) (by decide) (by decide) ?_
                show Steps pP.tables eE below (T24.setTop (mkF mM 72 #[.val (.int x), .val (.int y), .val (.int (x &&& (3 : Int32)))] [(.int (1 : Int32))])) _
                exact retN X24 hx (t := .boolean) Bd.returns (by simp) (hb hby d_method_4_72) hr
              · show Q_sam Z x y h0 n0 _ T24.heap _
                rw [Kq24]
                exact ⟨(by rw [own_same, if_pos hc1, if_pos hc3, if_neg hc5, if_pos hc18, if_neg hc20, if_pos hc25]), rfl, rfl⟩
            · obtain ⟨fs, hr, hrun, hended, hW, hsame⟩ := X24.leave (v := some (.int (0 : Int32))) (fun h => by rw [Bd.returns] at h; cases h)
              refine ⟨_, _, pre26 _ ?_, hrun, hended, _, _, rfl, ?_, ⟨_, rfl⟩, hW, hsame.mono (by decide) (by decide)⟩
              · refine XS.icmpYes X24.here hx rfl (pc0 := 64) (pc' := 71) rfl (hb hby d_method_4_64) rfl (feq hc25).2 (by decide) (by decide) ?_
                show Steps pP.tables eE below (T24.setTop (mkF mM 71 #[.val (.int x), .val (.int y), .val (.int (x &&& (3 : Int32)))] [])) _
                refine XS.iconst X24.here hx rfl (hb hby d_method_4_71) ?_
                show Steps pP.tables eE below (T24.setTop (mkF mM 72 #[.val (.int x), .val (.int y), .val (.int (x &&& (3 : Int32)))] [(.int (0 : Int32))])) _
                exact retN X24 hx (t := .boolean) Bd.returns (by simp) (hb hby d_method_4_72) hr
              · show Q_sam Z x y h0 n0 _ T24.heap _
                rw [Kq24]
                exact ⟨(by rw [own_same, if_pos hc1, if_pos hc3, if_neg hc5, if_pos hc18, if_neg hc20, if_neg hc25]), rfl, rfl⟩
        · obtain ⟨fs, hr, hrun, hended, hW, hsame⟩ := X17.leave (v := some (.int (0 : Int32))) (fun h => by rw [Bd.returns] at h; cases h)
          refine ⟨_, _, pre19 _ ?_, hrun, hended, _, _, rfl, ?_, ⟨_, rfl⟩, hW, hsame.mono (by decide) (by decide)⟩
          · refine XS.icmpYes X17.here hx rfl (pc0 := 46) (pc' := 71) rfl (hb hby d_method_4_46) rfl (feq hc18).2 (by decide) (by decide) ?_
            show Steps pP.tables eE below (T17.setTop (mkF mM 71 #[.val (.int x), .val (.int y), .val (.int (x &&& (3 : Int32)))] [])) _
            refine XS.iconst X17.here hx rfl (hb hby d_method_4_71) ?_
            show Steps pP.tables eE below (T17.setTop (mkF mM 72 #[.val (.int x), .val (.int y), .val (.int (x &&& (3 : Int32)))] [(.int (0 : Int32))])) _
            exact retN X17 hx (t := .boolean) Bd.returns (by simp) (hb hby d_method_4_72) hr
          · show Q_sam Z x y h0 n0 _ T17.heap _
            rw [Kq17]
            exact ⟨(by rw [own_same, if_pos hc1, if_pos hc3, if_neg hc5, if_neg hc18]), rfl, rfl⟩
    · obtain ⟨_, _, ⟨T30, L30, k30, n30⟩, -, X30, ⟨Lc30, hQ30, l30, y30, z30⟩, st30⟩ := Jvm.LawKit.callS X0 hx (y := (⟨"com/example/ullr/ullr/files/ListedLinkEqualsPinLaw", "ch", "(II)C"⟩ : MethodName)) hown (mvT hZ (w_29 hw)) (mvT hZ (w_30 hw)) (mvT hZ (w_5 hw)) (mvT hZ (w_31 hw)) (by decide) (backOf (W := 0) (rm_ch l Z a0 hw [] x (0 : Int32) h0 n0 O0 ) hZ (w_31 hw) (w_5 hw) (by decide) (by decide)) (g := (mkF mM 20 #[.val (.int x), .val (.int y), .val (.int (x &&& (3 : Int32)))] [(.int (0 : Int32)), (.int x)])) rfl (by rw [hml]; rfl) (argsL := [(.int x), (.int (0 : Int32))]) (rest := []) (lenOf pd_2 rfl) rfl (by show 2 * 0 + _ ≤ _; exact Nat.le_of_eq rfl) (hb hby d_method_4_20) (fun _ _ => ⟨rfl, e0, (by decide : 0 + 0 ≤ _), (by decide : 0 + 0 ≤ _)⟩)
      dsimp only [Pt.U, Pt.locs, Pt.cells, Pt.slots] at X30 l30 y30 z30 st30 hQ30
      subst l30 y30 z30
      obtain ⟨rfl, rfl, Kq30⟩ := hQ30
      try rw [List.append_nil] at X30
      obtain ⟨_, _, ⟨T31, L31, k31, n31⟩, -, X31, ⟨Lc31, hQ31, l31, y31, z31⟩, st31⟩ := Jvm.LawKit.callS X30 hx (y := (⟨"com/example/ullr/ullr/files/ListedLinkEqualsPinLaw", "ch", "(II)C"⟩ : MethodName)) hown (mvT hZ (w_29 hw)) (mvT hZ (w_30 hw)) (mvT hZ (w_5 hw)) (mvT hZ (w_31 hw)) (by decide) (backOf (W := 1) (rm_ch l Z a0 hw [] y (0 : Int32) h0 n0 O0 ) hZ (w_31 hw) (w_5 hw) (by decide) (by decide)) (g := (mkF mM 25 #[.val (.int x), .val (.int y), .val (.int (x &&& (3 : Int32)))] [(.int (0 : Int32)), (.int y), (.int (own_ch x (0 : Int32)))])) rfl (by rw [hml]; rfl) (argsL := [(.int y), (.int (0 : Int32))]) (rest := [(.int (own_ch x (0 : Int32)))]) (lenOf pd_2 rfl) rfl (by show 2 * 0 + _ ≤ _; exact Nat.le_of_eq rfl) (hb hby d_method_4_25) (fun _ _ => ⟨rfl, Kq30, (by decide : 0 + 0 ≤ _), (by decide : 0 + 0 ≤ _)⟩)
      dsimp only [Pt.U, Pt.locs, Pt.cells, Pt.slots] at X31 l31 y31 z31 st31 hQ31
      subst l31 y31 z31
      obtain ⟨rfl, rfl, Kq31⟩ := hQ31
      try rw [List.append_nil] at X31
      have pre33 : ∀ tg, Steps pP.tables eE below (T31.setTop (mkF mM 28 #[.val (.int x), .val (.int y), .val (.int (x &&& (3 : Int32)))] [(.int (own_ch y (0 : Int32))), (.int (own_ch x (0 : Int32)))])) tg → Steps pP.tables eE below (s₁.setTop (entryFrame mM #[(.int x), (.int y)] 3)) tg := fun tg kg => pre4 tg (by
        refine XS.icmpNo X0.here hx rfl (hb hby d_method_4_15) rfl (flt hc3).1 ?_
        show Steps pP.tables eE below (s₁.setTop (mkF mM 18 #[.val (.int x), .val (.int y), .val (.int (x &&& (3 : Int32)))] [])) _
        refine XS.iloadN X0.here hx rfl (hb hby d_method_4_18) rfl ?_
        show Steps pP.tables eE below (s₁.setTop (mkF mM 19 #[.val (.int x), .val (.int y), .val (.int (x &&& (3 : Int32)))] [(.int x)])) _
        refine XS.iconst X0.here hx rfl (hb hby d_method_4_19) ?_
        show Steps pP.tables eE below (s₁.setTop (mkF mM 20 #[.val (.int x), .val (.int y), .val (.int (x &&& (3 : Int32)))] [(.int (0 : Int32)), (.int x)])) _
        refine st30 _ ?_
        show Steps pP.tables eE below (T30.setTop (mkF mM 23 #[.val (.int x), .val (.int y), .val (.int (x &&& (3 : Int32)))] [(.int (own_ch x (0 : Int32)))])) _
        refine XS.iloadN X30.here hx rfl (hb hby d_method_4_23) rfl ?_
        show Steps pP.tables eE below (T30.setTop (mkF mM 24 #[.val (.int x), .val (.int y), .val (.int (x &&& (3 : Int32)))] [(.int y), (.int (own_ch x (0 : Int32)))])) _
        refine XS.iconst X30.here hx rfl (hb hby d_method_4_24) ?_
        show Steps pP.tables eE below (T30.setTop (mkF mM 25 #[.val (.int x), .val (.int y), .val (.int (x &&& (3 : Int32)))] [(.int (0 : Int32)), (.int y), (.int (own_ch x (0 : Int32)))])) _
        refine st31 _ ?_
        exact kg)
      by_cases hc32 : (own_ch x (0 : Int32)) = (own_ch y (0 : Int32))
      · have pre35 : ∀ tg, Steps pP.tables eE below (T31.setTop (mkF mM 33 #[.val (.int x), .val (.int y), .val (.int (x &&& (3 : Int32)))] [(.int (2 : Int32)), (.int (x &&& (3 : Int32)))])) tg → Steps pP.tables eE below (s₁.setTop (entryFrame mM #[(.int x), (.int y)] 3)) tg := fun tg kg => pre33 tg (by
          refine XS.icmpNo X31.here hx rfl (hb hby d_method_4_28) rfl (teq hc32).2 ?_
          show Steps pP.tables eE below (T31.setTop (mkF mM 31 #[.val (.int x), .val (.int y), .val (.int (x &&& (3 : Int32)))] [])) _
          refine XS.iloadN X31.here hx rfl (hb hby d_method_4_31) rfl ?_
          show Steps pP.tables eE below (T31.setTop (mkF mM 32 #[.val (.int x), .val (.int y), .val (.int (x &&& (3 : Int32)))] [(.int (x &&& (3 : Int32)))])) _
          refine XS.iconst X31.here hx rfl (hb hby d_method_4_32) ?_
          exact kg)
        by_cases hc34 : (x &&& (3 : Int32)) < (2 : Int32)
        · have pre37 : ∀ tg, Steps pP.tables eE below (T31.setTop (mkF mM 51 #[.val (.int x), .val (.int y), .val (.int (x &&& (3 : Int32)))] [(.int (3 : Int32)), (.int (x &&& (3 : Int32)))])) tg → Steps pP.tables eE below (s₁.setTop (entryFrame mM #[(.int x), (.int y)] 3)) tg := fun tg kg => pre35 tg (by
            refine XS.icmpYes X31.here hx rfl (pc0 := 33) (pc' := 49) rfl (hb hby d_method_4_33) rfl (tlt hc34).1 (by decide) (by decide) ?_
            show Steps pP.tables eE below (T31.setTop (mkF mM 49 #[.val (.int x), .val (.int y), .val (.int (x &&& (3 : Int32)))] [])) _
            refine XS.iloadN X31.here hx rfl (hb hby d_method_4_49) rfl ?_
            show Steps pP.tables eE below (T31.setTop (mkF mM 50 #[.val (.int x), .val (.int y), .val (.int (x &&& (3 : Int32)))] [(.int (x &&& (3 : Int32)))])) _
            refine XS.iconst X31.here hx rfl (hb hby d_method_4_50) ?_
            exact kg)
          by_cases hc36 : (x &&& (3 : Int32)) < (3 : Int32)
          · obtain ⟨fs, hr, hrun, hended, hW, hsame⟩ := X31.leave (v := some (.int (1 : Int32))) (fun h => by rw [Bd.returns] at h; cases h)
            refine ⟨_, _, pre37 _ ?_, hrun, hended, _, _, rfl, ?_, ⟨_, rfl⟩, hW, hsame.mono (by decide) (by decide)⟩
            · refine XS.icmpYes X31.here hx rfl (pc0 := 51) (pc' := 67) rfl (hb hby d_method_4_51) rfl (tlt hc36).1 (by decide) (by decide) ?_
              show Steps pP.tables eE below (T31.setTop (mkF mM 67 #[.val (.int x), .val (.int y), .val (.int (x &&& (3 : Int32)))] [])) _
              refine XS.iconst X31.here hx rfl (hb hby d_method_4_67) ?_
              show Steps pP.tables eE below (T31.setTop (mkF mM 68 #[.val (.int x), .val (.int y), .val (.int (x &&& (3 : Int32)))] [(.int (1 : Int32))])) _
              refine XS.goto X31.here hx rfl (pc0 := 68) (pc' := 72) rfl (hb hby d_method_4_68) (by decide) (by decide) ?_
              show Steps pP.tables eE below (T31.setTop (mkF mM 72 #[.val (.int x), .val (.int y), .val (.int (x &&& (3 : Int32)))] [(.int (1 : Int32))])) _
              exact retN X31 hx (t := .boolean) Bd.returns (by simp) (hb hby d_method_4_72) hr
            · show Q_sam Z x y h0 n0 _ T31.heap _
              rw [Kq31]
              exact ⟨(by rw [own_same, if_pos hc1, if_neg hc3, if_pos hc32, if_pos hc34, if_pos hc36]), rfl, rfl⟩
          · obtain ⟨_, _, ⟨T39, L39, k39, n39⟩, -, X39, ⟨Lc39, hQ39, l39, y39, z39⟩, st39⟩ := Jvm.LawKit.callS X31 hx (y := (⟨"com/example/ullr/ullr/files/ListedLinkEqualsPinLaw", "ch", "(II)C"⟩ : MethodName)) hown (mvT hZ (w_29 hw)) (mvT hZ (w_30 hw)) (mvT hZ (w_5 hw)) (mvT hZ (w_31 hw)) (by decide) (backOf (W := 0) (rm_ch l Z a0 hw [] x (2 : Int32) h0 n0 O0 ) hZ (w_31 hw) (w_5 hw) (by decide) (by decide)) (g := (mkF mM 56 #[.val (.int x), .val (.int y), .val (.int (x &&& (3 : Int32)))] [(.int (2 : Int32)), (.int x)])) rfl (by rw [hml]; rfl) (argsL := [(.int x), (.int (2 : Int32))]) (rest := []) (lenOf pd_2 rfl) rfl (by show 2 * 0 + _ ≤ _; exact Nat.le_of_eq rfl) (hb hby d_method_4_56) (fun _ _ => ⟨rfl, Kq31, (by decide : 0 + 0 ≤ _), (by decide : 0 + 0 ≤ _)⟩)
            dsimp only [Pt.U, Pt.locs, Pt.cells, Pt.slots] at X39 l39 y39 z39 st39 hQ39
            subst l39 y39 z39
            obtain ⟨rfl, rfl, Kq39⟩ := hQ39
            try rw [List.append_nil] at X39
            obtain ⟨_, _, ⟨T40, L40, k40, n40⟩, -, X40, ⟨Lc40, hQ40, l40, y40, z40⟩, st40⟩ := Jvm.LawKit.callS X39 hx (y := (⟨"com/example/ullr/ullr/files/ListedLinkEqualsPinLaw", "ch", "(II)C"⟩ : MethodName)) hown (mvT hZ (w_29 hw)) (mvT hZ (w_30 hw)) (mvT hZ (w_5 hw)) (mvT hZ (w_31 hw)) (by decide) (backOf (W := 1) (rm_ch l Z a0 hw [] y (2 : Int32) h0 n0 O0 ) hZ (w_31 hw) (w_5 hw) (by decide) (by decide)) (g := (mkF mM 61 #[.val (.int x), .val (.int y), .val (.int (x &&& (3 : Int32)))] [(.int (2 : Int32)), (.int y), (.int (own_ch x (2 : Int32)))])) rfl (by rw [hml]; rfl) (argsL := [(.int y), (.int (2 : Int32))]) (rest := [(.int (own_ch x (2 : Int32)))]) (lenOf pd_2 rfl) rfl (by show 2 * 0 + _ ≤ _; exact Nat.le_of_eq rfl) (hb hby d_method_4_61) (fun _ _ => ⟨rfl, Kq39, (by decide : 0 + 0 ≤ _), (by decide : 0 + 0 ≤ _)⟩)
            dsimp only [Pt.U, Pt.locs, Pt.cells, Pt.slots] at X40 l40 y40 z40 st40 hQ40
            subst l40 y40 z40
            obtain ⟨rfl, rfl, Kq40⟩ := hQ40
            try rw [List.append_nil] at X40
            have pre42 : ∀ tg, Steps pP.tables eE below (T40.setTop (mkF mM 64 #[.val (.int x), .val (.int y), .val (.int (x &&& (3 : Int32)))] [(.int (own_ch y (2 : Int32))), (.int (own_ch x (2 : Int32)))])) tg → Steps pP.tables eE below (s₁.setTop (entryFrame mM #[(.int x), (.int y)] 3)) tg := fun tg kg => pre37 tg (by
              refine XS.icmpNo X31.here hx rfl (hb hby d_method_4_51) rfl (flt hc36).1 ?_
              show Steps pP.tables eE below (T31.setTop (mkF mM 54 #[.val (.int x), .val (.int y), .val (.int (x &&& (3 : Int32)))] [])) _
              refine XS.iloadN X31.here hx rfl (hb hby d_method_4_54) rfl ?_
              show Steps pP.tables eE below (T31.setTop (mkF mM 55 #[.val (.int x), .val (.int y), .val (.int (x &&& (3 : Int32)))] [(.int x)])) _
              refine XS.iconst X31.here hx rfl (hb hby d_method_4_55) ?_
              show Steps pP.tables eE below (T31.setTop (mkF mM 56 #[.val (.int x), .val (.int y), .val (.int (x &&& (3 : Int32)))] [(.int (2 : Int32)), (.int x)])) _
              refine st39 _ ?_
              show Steps pP.tables eE below (T39.setTop (mkF mM 59 #[.val (.int x), .val (.int y), .val (.int (x &&& (3 : Int32)))] [(.int (own_ch x (2 : Int32)))])) _
              refine XS.iloadN X39.here hx rfl (hb hby d_method_4_59) rfl ?_
              show Steps pP.tables eE below (T39.setTop (mkF mM 60 #[.val (.int x), .val (.int y), .val (.int (x &&& (3 : Int32)))] [(.int y), (.int (own_ch x (2 : Int32)))])) _
              refine XS.iconst X39.here hx rfl (hb hby d_method_4_60) ?_
              show Steps pP.tables eE below (T39.setTop (mkF mM 61 #[.val (.int x), .val (.int y), .val (.int (x &&& (3 : Int32)))] [(.int (2 : Int32)), (.int y), (.int (own_ch x (2 : Int32)))])) _
              refine st40 _ ?_
              exact kg)
            by_cases hc41 : (own_ch x (2 : Int32)) = (own_ch y (2 : Int32))
            · obtain ⟨fs, hr, hrun, hended, hW, hsame⟩ := X40.leave (v := some (.int (1 : Int32))) (fun h => by rw [Bd.returns] at h; cases h)
              refine ⟨_, _, pre42 _ ?_, hrun, hended, _, _, rfl, ?_, ⟨_, rfl⟩, hW, hsame.mono (by decide) (by decide)⟩
              · refine XS.icmpNo X40.here hx rfl (hb hby d_method_4_64) rfl (teq hc41).2 ?_
                show Steps pP.tables eE below (T40.setTop (mkF mM 67 #[.val (.int x), .val (.int y), .val (.int (x &&& (3 : Int32)))] [])) _
                refine XS.iconst X40.here hx rfl (hb hby d_method_4_67) ?_
                show Steps pP.tables eE below (T40.setTop (mkF mM 68 #[.val (.int x), .val (.int y), .val (.int (x &&& (3 : Int32)))] [(.int (1 : Int32))])) _
                refine XS.goto X40.here hx rfl (pc0 := 68) (pc' := 72) rfl (hb hby d_method_4_68) (by decide) (by decide) ?_
                show Steps pP.tables eE below (T40.setTop (mkF mM 72 #[.val (.int x), .val (.int y), .val (.int (x &&& (3 : Int32)))] [(.int (1 : Int32))])) _
                exact retN X40 hx (t := .boolean) Bd.returns (by simp) (hb hby d_method_4_72) hr
              · show Q_sam Z x y h0 n0 _ T40.heap _
                rw [Kq40]
                exact ⟨(by rw [own_same, if_pos hc1, if_neg hc3, if_pos hc32, if_pos hc34, if_neg hc36, if_pos hc41]), rfl, rfl⟩
            · obtain ⟨fs, hr, hrun, hended, hW, hsame⟩ := X40.leave (v := some (.int (0 : Int32))) (fun h => by rw [Bd.returns] at h; cases h)
              refine ⟨_, _, pre42 _ ?_, hrun, hended, _, _, rfl, ?_, ⟨_, rfl⟩, hW, hsame.mono (by decide) (by decide)⟩
              · refine XS.icmpYes X40.here hx rfl (pc0 := 64) (pc' := 71) rfl (hb hby d_method_4_64) rfl (feq hc41).2 (by decide) (by decide) ?_
                show Steps pP.tables eE below (T40.setTop (mkF mM 71 #[.val (.int x), .val (.int y), .val (.int (x &&& (3 : Int32)))] [])) _
                refine XS.iconst X40.here hx rfl (hb hby d_method_4_71) ?_
                show Steps pP.tables eE below (T40.setTop (mkF mM 72 #[.val (.int x), .val (.int y), .val (.int (x &&& (3 : Int32)))] [(.int (0 : Int32))])) _
                exact retN X40 hx (t := .boolean) Bd.returns (by simp) (hb hby d_method_4_72) hr
              · show Q_sam Z x y h0 n0 _ T40.heap _
                rw [Kq40]
                exact ⟨(by rw [own_same, if_pos hc1, if_neg hc3, if_pos hc32, if_pos hc34, if_neg hc36, if_neg hc41]), rfl, rfl⟩
        · obtain ⟨_, _, ⟨T45, L45, k45, n45⟩, -, X45, ⟨Lc45, hQ45, l45, y45, z45⟩, st45⟩ := Jvm.LawKit.callS X31 hx (y := (⟨"com/example/ullr/ullr/files/ListedLinkEqualsPinLaw", "ch", "(II)C"⟩ : MethodName)) hown (mvT hZ (w_29 hw)) (mvT hZ (w_30 hw)) (mvT hZ (w_5 hw)) (mvT hZ (w_31 hw)) (by decide) (backOf (W := 0) (rm_ch l Z a0 hw [] x (1 : Int32) h0 n0 O0 ) hZ (w_31 hw) (w_5 hw) (by decide) (by decide)) (g := (mkF mM 38 #[.val (.int x), .val (.int y), .val (.int (x &&& (3 : Int32)))] [(.int (1 : Int32)), (.int x)])) rfl (by rw [hml]; rfl) (argsL := [(.int x), (.int (1 : Int32))]) (rest := []) (lenOf pd_2 rfl) rfl (by show 2 * 0 + _ ≤ _; exact Nat.le_of_eq rfl) (hb hby d_method_4_38) (fun _ _ => ⟨rfl, Kq31, (by decide : 0 + 0 ≤ _), (by decide : 0 + 0 ≤ _)⟩)
          dsimp only [Pt.U, Pt.locs, Pt.cells, Pt.slots] at X45 l45 y45 z45 st45 hQ45
          subst l45 y45 z45
          obtain ⟨rfl, rfl, Kq45⟩ := hQ45
          try rw [List.append_nil] at X45
          obtain ⟨_, _, ⟨T46, L46, k46, n46⟩, -, X46, ⟨Lc46, hQ46, l46, y46, z46⟩, st46⟩ := Jvm.LawKit.callS X45 hx (y := (⟨"com/example/ullr/ullr/files/ListedLinkEqualsPinLaw", "ch", "(II)C"⟩ : MethodName)) hown (mvT hZ (w_29 hw)) (mvT hZ (w_30 hw)) (mvT hZ (w_5 hw)) (mvT hZ (w_31 hw)) (by decide) (backOf (W := 1) (rm_ch l Z a0 hw [] y (1 : Int32) h0 n0 O0 ) hZ (w_31 hw) (w_5 hw) (by decide) (by decide)) (g := (mkF mM 43 #[.val (.int x), .val (.int y), .val (.int (x &&& (3 : Int32)))] [(.int (1 : Int32)), (.int y), (.int (own_ch x (1 : Int32)))])) rfl (by rw [hml]; rfl) (argsL := [(.int y), (.int (1 : Int32))]) (rest := [(.int (own_ch x (1 : Int32)))]) (lenOf pd_2 rfl) rfl (by show 2 * 0 + _ ≤ _; exact Nat.le_of_eq rfl) (hb hby d_method_4_43) (fun _ _ => ⟨rfl, Kq45, (by decide : 0 + 0 ≤ _), (by decide : 0 + 0 ≤ _)⟩)
          dsimp only [Pt.U, Pt.locs, Pt.cells, Pt.slots] at X46 l46 y46 z46 st46 hQ46
          subst l46 y46 z46
          obtain ⟨rfl, rfl, Kq46⟩ := hQ46
          try rw [List.append_nil] at X46
          have pre48 : ∀ tg, Steps pP.tables eE below (T46.setTop (mkF mM 46 #[.val (.int x), .val (.int y), .val (.int (x &&& (3 : Int32)))] [(.int (own_ch y (1 : Int32))), (.int (own_ch x (1 : Int32)))])) tg → Steps pP.tables eE below (s₁.setTop (entryFrame mM #[(.int x), (.int y)] 3)) tg := fun tg kg => pre35 tg (by
            refine XS.icmpNo X31.here hx rfl (hb hby d_method_4_33) rfl (flt hc34).1 ?_
            show Steps pP.tables eE below (T31.setTop (mkF mM 36 #[.val (.int x), .val (.int y), .val (.int (x &&& (3 : Int32)))] [])) _
            refine XS.iloadN X31.here hx rfl (hb hby d_method_4_36) rfl ?_
            show Steps pP.tables eE below (T31.setTop (mkF mM 37 #[.val (.int x), .val (.int y), .val (.int (x &&& (3 : Int32)))] [(.int x)])) _
            refine XS.iconst X31.here hx rfl (hb hby d_method_4_37) ?_
            show Steps pP.tables eE below (T31.setTop (mkF mM 38 #[.val (.int x), .val (.int y), .val (.int (x &&& (3 : Int32)))] [(.int (1 : Int32)), (.int x)])) _
            refine st45 _ ?_
            show Steps pP.tables eE below (T45.setTop (mkF mM 41 #[.val (.int x), .val (.int y), .val (.int (x &&& (3 : Int32)))] [(.int (own_ch x (1 : Int32)))])) _
            refine XS.iloadN X45.here hx rfl (hb hby d_method_4_41) rfl ?_
            show Steps pP.tables eE below (T45.setTop (mkF mM 42 #[.val (.int x), .val (.int y), .val (.int (x &&& (3 : Int32)))] [(.int y), (.int (own_ch x (1 : Int32)))])) _
            refine XS.iconst X45.here hx rfl (hb hby d_method_4_42) ?_
            show Steps pP.tables eE below (T45.setTop (mkF mM 43 #[.val (.int x), .val (.int y), .val (.int (x &&& (3 : Int32)))] [(.int (1 : Int32)), (.int y), (.int (own_ch x (1 : Int32)))])) _
            refine st46 _ ?_
            exact kg)
          by_cases hc47 : (own_ch x (1 : Int32)) = (own_ch y (1 : Int32))
          · have pre50 : ∀ tg, Steps pP.tables eE below (T46.setTop (mkF mM 51 #[.val (.int x), .val (.int y), .val (.int (x &&& (3 : Int32)))] [(.int (3 : Int32)), (.int (x &&& (3 : Int32)))])) tg → Steps pP.tables eE below (s₁.setTop (entryFrame mM #[(.int x), (.int y)] 3)) tg := fun tg kg => pre48 tg (by
              refine XS.icmpNo X46.here hx rfl (hb hby d_method_4_46) rfl (teq hc47).2 ?_
              show Steps pP.tables eE below (T46.setTop (mkF mM 49 #[.val (.int x), .val (.int y), .val (.int (x &&& (3 : Int32)))] [])) _
              refine XS.iloadN X46.here hx rfl (hb hby d_method_4_49) rfl ?_
              show Steps pP.tables eE below (T46.setTop (mkF mM 50 #[.val (.int x), .val (.int y), .val (.int (x &&& (3 : Int32)))] [(.int (x &&& (3 : Int32)))])) _
              refine XS.iconst X46.here hx rfl (hb hby d_method_4_50) ?_
              exact kg)
            by_cases hc49 : (x &&& (3 : Int32)) < (3 : Int32)
            · obtain ⟨fs, hr, hrun, hended, hW, hsame⟩ := X46.leave (v := some (.int (1 : Int32))) (fun h => by rw [Bd.returns] at h; cases h)
              refine ⟨_, _, pre50 _ ?_, hrun, hended, _, _, rfl, ?_, ⟨_, rfl⟩, hW, hsame.mono (by decide) (by decide)⟩
              · refine XS.icmpYes X46.here hx rfl (pc0 := 51) (pc' := 67) rfl (hb hby d_method_4_51) rfl (tlt hc49).1 (by decide) (by decide) ?_
                show Steps pP.tables eE below (T46.setTop (mkF mM 67 #[.val (.int x), .val (.int y), .val (.int (x &&& (3 : Int32)))] [])) _
                refine XS.iconst X46.here hx rfl (hb hby d_method_4_67) ?_
                show Steps pP.tables eE below (T46.setTop (mkF mM 68 #[.val (.int x), .val (.int y), .val (.int (x &&& (3 : Int32)))] [(.int (1 : Int32))])) _
                refine XS.goto X46.here hx rfl (pc0 := 68) (pc' := 72) rfl (hb hby d_method_4_68) (by decide) (by decide) ?_
                show Steps pP.tables eE below (T46.setTop (mkF mM 72 #[.val (.int x), .val (.int y), .val (.int (x &&& (3 : Int32)))] [(.int (1 : Int32))])) _
                exact retN X46 hx (t := .boolean) Bd.returns (by simp) (hb hby d_method_4_72) hr
              · show Q_sam Z x y h0 n0 _ T46.heap _
                rw [Kq46]
                exact ⟨(by rw [own_same, if_pos hc1, if_neg hc3, if_pos hc32, if_neg hc34, if_pos hc47, if_pos hc49]), rfl, rfl⟩
            · obtain ⟨_, _, ⟨T52, L52, k52, n52⟩, -, X52, ⟨Lc52, hQ52, l52, y52, z52⟩, st52⟩ := Jvm.LawKit.callS X46 hx (y := (⟨"com/example/ullr/ullr/files/ListedLinkEqualsPinLaw", "ch", "(II)C"⟩ : MethodName)) hown (mvT hZ (w_29 hw)) (mvT hZ (w_30 hw)) (mvT hZ (w_5 hw)) (mvT hZ (w_31 hw)) (by decide) (backOf (W := 0) (rm_ch l Z a0 hw [] x (2 : Int32) h0 n0 O0 ) hZ (w_31 hw) (w_5 hw) (by decide) (by decide)) (g := (mkF mM 56 #[.val (.int x), .val (.int y), .val (.int (x &&& (3 : Int32)))] [(.int (2 : Int32)), (.int x)])) rfl (by rw [hml]; rfl) (argsL := [(.int x), (.int (2 : Int32))]) (rest := []) (lenOf pd_2 rfl) rfl (by show 2 * 0 + _ ≤ _; exact Nat.le_of_eq rfl) (hb hby d_method_4_56) (fun _ _ => ⟨rfl, Kq46, (by decide : 0 + 0 ≤ _), (by decide : 0 + 0 ≤ _)⟩)
              dsimp only [Pt.U, Pt.locs, Pt.cells, Pt.slots] at X52 l52 y52 z52 st52 hQ52
              subst l52 y52 z52
              obtain ⟨rfl, rfl, Kq52⟩ := hQ52
              try rw [List.append_nil] at X52
              obtain ⟨_, _, ⟨T53, L53, k53, n53⟩, -, X53, ⟨Lc53, hQ53, l53, y53, z53⟩, st53⟩ := Jvm.LawKit.callS X52 hx (y := (⟨"com/example/ullr/ullr/files/ListedLinkEqualsPinLaw", "ch", "(II)C"⟩ : MethodName)) hown (mvT hZ (w_29 hw)) (mvT hZ (w_30 hw)) (mvT hZ (w_5 hw)) (mvT hZ (w_31 hw)) (by decide) (backOf (W := 1) (rm_ch l Z a0 hw [] y (2 : Int32) h0 n0 O0 ) hZ (w_31 hw) (w_5 hw) (by decide) (by decide)) (g := (mkF mM 61 #[.val (.int x), .val (.int y), .val (.int (x &&& (3 : Int32)))] [(.int (2 : Int32)), (.int y), (.int (own_ch x (2 : Int32)))])) rfl (by rw [hml]; rfl) (argsL := [(.int y), (.int (2 : Int32))]) (rest := [(.int (own_ch x (2 : Int32)))]) (lenOf pd_2 rfl) rfl (by show 2 * 0 + _ ≤ _; exact Nat.le_of_eq rfl) (hb hby d_method_4_61) (fun _ _ => ⟨rfl, Kq52, (by decide : 0 + 0 ≤ _), (by decide : 0 + 0 ≤ _)⟩)
              dsimp only [Pt.U, Pt.locs, Pt.cells, Pt.slots] at X53 l53 y53 z53 st53 hQ53
              subst l53 y53 z53
              obtain ⟨rfl, rfl, Kq53⟩ := hQ53
              try rw [List.append_nil] at X53
              have pre55 : ∀ tg, Steps pP.tables eE below (T53.setTop (mkF mM 64 #[.val (.int x), .val (.int y), .val (.int (x &&& (3 : Int32)))] [(.int (own_ch y (2 : Int32))), (.int (own_ch x (2 : Int32)))])) tg → Steps pP.tables eE below (s₁.setTop (entryFrame mM #[(.int x), (.int y)] 3)) tg := fun tg kg => pre50 tg (by
                refine XS.icmpNo X46.here hx rfl (hb hby d_method_4_51) rfl (flt hc49).1 ?_
                show Steps pP.tables eE below (T46.setTop (mkF mM 54 #[.val (.int x), .val (.int y), .val (.int (x &&& (3 : Int32)))] [])) _
                refine XS.iloadN X46.here hx rfl (hb hby d_method_4_54) rfl ?_
                show Steps pP.tables eE below (T46.setTop (mkF mM 55 #[.val (.int x), .val (.int y), .val (.int (x &&& (3 : Int32)))] [(.int x)])) _
                refine XS.iconst X46.here hx rfl (hb hby d_method_4_55) ?_
                show Steps pP.tables eE below (T46.setTop (mkF mM 56 #[.val (.int x), .val (.int y), .val (.int (x &&& (3 : Int32)))] [(.int (2 : Int32)), (.int x)])) _
                refine st52 _ ?_
                show Steps pP.tables eE below (T52.setTop (mkF mM 59 #[.val (.int x), .val (.int y), .val (.int (x &&& (3 : Int32)))] [(.int (own_ch x (2 : Int32)))])) _
                refine XS.iloadN X52.here hx rfl (hb hby d_method_4_59) rfl ?_
                show Steps pP.tables eE below (T52.setTop (mkF mM 60 #[.val (.int x), .val (.int y), .val (.int (x &&& (3 : Int32)))] [(.int y), (.int (own_ch x (2 : Int32)))])) _
                refine XS.iconst X52.here hx rfl (hb hby d_method_4_60) ?_
                show Steps pP.tables eE below (T52.setTop (mkF mM 61 #[.val (.int x), .val (.int y), .val (.int (x &&& (3 : Int32)))] [(.int (2 : Int32)), (.int y), (.int (own_ch x (2 : Int32)))])) _
                refine st53 _ ?_
                exact kg)
              by_cases hc54 : (own_ch x (2 : Int32)) = (own_ch y (2 : Int32))
              · obtain ⟨fs, hr, hrun, hended, hW, hsame⟩ := X53.leave (v := some (.int (1 : Int32))) (fun h => by rw [Bd.returns] at h; cases h)
                refine ⟨_, _, pre55 _ ?_, hrun, hended, _, _, rfl, ?_, ⟨_, rfl⟩, hW, hsame.mono (by decide) (by decide)⟩
                · refine XS.icmpNo X53.here hx rfl (hb hby d_method_4_64) rfl (teq hc54).2 ?_
                  show Steps pP.tables eE below (T53.setTop (mkF mM 67 #[.val (.int x), .val (.int y), .val (.int (x &&& (3 : Int32)))] [])) _
                  refine XS.iconst X53.here hx rfl (hb hby d_method_4_67) ?_
                  show Steps pP.tables eE below (T53.setTop (mkF mM 68 #[.val (.int x), .val (.int y), .val (.int (x &&& (3 : Int32)))] [(.int (1 : Int32))])) _
                  refine XS.goto X53.here hx rfl (pc0 := 68) (pc' := 72) rfl (hb hby d_method_4_68) (by decide) (by decide) ?_
                  show Steps pP.tables eE below (T53.setTop (mkF mM 72 #[.val (.int x), .val (.int y), .val (.int (x &&& (3 : Int32)))] [(.int (1 : Int32))])) _
                  exact retN X53 hx (t := .boolean) Bd.returns (by simp) (hb hby d_method_4_72) hr
                · show Q_sam Z x y h0 n0 _ T53.heap _
                  rw [Kq53]
                  exact ⟨(by rw [own_same, if_pos hc1, if_neg hc3, if_pos hc32, if_neg hc34, if_pos hc47, if_neg hc49, if_pos hc54]), rfl, rfl⟩
              · obtain ⟨fs, hr, hrun, hended, hW, hsame⟩ := X53.leave (v := some (.int (0 : Int32))) (fun h => by rw [Bd.returns] at h; cases h)
                refine ⟨_, _, pre55 _ ?_, hrun, hended, _, _, rfl, ?_, ⟨_, rfl⟩, hW, hsame.mono (by decide) (by decide)⟩
                · refine XS.icmpYes X53.here hx rfl (pc0 := 64) (pc' := 71) rfl (hb hby d_method_4_64) rfl (feq hc54).2 (by decide) (by decide) ?_
                  show Steps pP.tables eE below (T53.setTop (mkF mM 71 #[.val (.int x), .val (.int y), .val (.int (x &&& (3 : Int32)))] [])) _
                  refine XS.iconst X53.here hx rfl (hb hby d_method_4_71) ?_
                  show Steps pP.tables eE below (T53.setTop (mkF mM 72 #[.val (.int x), .val (.int y), .val (.int (x &&& (3 : Int32)))] [(.int (0 : Int32))])) _
                  exact retN X53 hx (t := .boolean) Bd.returns (by simp) (hb hby d_method_4_72) hr
                · show Q_sam Z x y h0 n0 _ T53.heap _
                  rw [Kq53]
                  exact ⟨(by rw [own_same, if_pos hc1, if_neg hc3, if_pos hc32, if_neg hc34, if_pos hc47, if_neg hc49, if_neg hc54]), rfl, rfl⟩
          · obtain ⟨fs, hr, hrun, hended, hW, hsame⟩ := X46.leave (v := some (.int (0 : Int32))) (fun h => by rw [Bd.returns] at h; cases h)
            refine ⟨_, _, pre48 _ ?_, hrun, hended, _, _, rfl, ?_, ⟨_, rfl⟩, hW, hsame.mono (by decide) (by decide)⟩
            · refine XS.icmpYes X46.here hx rfl (pc0 := 46) (pc' := 71) rfl (hb hby d_method_4_46) rfl (feq hc47).2 (by decide) (by decide) ?_
              show Steps pP.tables eE below (T46.setTop (mkF mM 71 #[.val (.int x), .val (.int y), .val (.int (x &&& (3 : Int32)))] [])) _
              refine XS.iconst X46.here hx rfl (hb hby d_method_4_71) ?_
              show Steps pP.tables eE below (T46.setTop (mkF mM 72 #[.val (.int x), .val (.int y), .val (.int (x &&& (3 : Int32)))] [(.int (0 : Int32))])) _
              exact retN X46 hx (t := .boolean) Bd.returns (by simp) (hb hby d_method_4_72) hr
            · show Q_sam Z x y h0 n0 _ T46.heap _
              rw [Kq46]
              exact ⟨(by rw [own_same, if_pos hc1, if_neg hc3, if_pos hc32, if_neg hc34, if_neg hc47]), rfl, rfl⟩
      · obtain ⟨fs, hr, hrun, hended, hW, hsame⟩ := X31.leave (v := some (.int (0 : Int32))) (fun h => by rw [Bd.returns] at h; cases h)
        refine ⟨_, _, pre33 _ ?_, hrun, hended, _, _, rfl, ?_, ⟨_, rfl⟩, hW, hsame.mono (by decide) (by decide)⟩
        · refine XS.icmpYes X31.here hx rfl (pc0 := 28) (pc' := 71) rfl (hb hby d_method_4_28) rfl (feq hc32).2 (by decide) (by decide) ?_
          show Steps pP.tables eE below (T31.setTop (mkF mM 71 #[.val (.int x), .val (.int y), .val (.int (x &&& (3 : Int32)))] [])) _
          refine XS.iconst X31.here hx rfl (hb hby d_method_4_71) ?_
          show Steps pP.tables eE below (T31.setTop (mkF mM 72 #[.val (.int x), .val (.int y), .val (.int (x &&& (3 : Int32)))] [(.int (0 : Int32))])) _
          exact retN X31 hx (t := .boolean) Bd.returns (by simp) (hb hby d_method_4_72) hr
        · show Q_sam Z x y h0 n0 _ T31.heap _
          rw [Kq31]
          exact ⟨(by rw [own_same, if_pos hc1, if_neg hc3, if_neg hc32]), rfl, rfl⟩
  · obtain ⟨fs, hr, hrun, hended, hW, hsame⟩ := X0.leave (v := some (.int (0 : Int32))) (fun h => by rw [Bd.returns] at h; cases h)
    refine ⟨_, _, pre2 _ ?_, hrun, hended, _, _, rfl, ?_, ⟨_, rfl⟩, hW, hsame.mono (by decide) (by decide)⟩
    · refine XS.icmpNo X0.here hx rfl (hb hby d_method_4_8) rfl (feq hc1).1 ?_
      show Steps pP.tables eE below (s₁.setTop (mkF mM 11 #[.val (.int x), .val (.int y), .val (.int (x &&& (3 : Int32)))] [])) _
      refine XS.iconst X0.here hx rfl (hb hby d_method_4_11) ?_
      show Steps pP.tables eE below (s₁.setTop (mkF mM 12 #[.val (.int x), .val (.int y), .val (.int (x &&& (3 : Int32)))] [(.int (0 : Int32))])) _
      exact retN X0 hx (t := .boolean) Bd.returns (by simp) (hb hby d_method_4_12) hr
    · show Q_sam Z x y h0 n0 _ s₁.heap _
      rw [e0]
      exact ⟨(by rw [own_same, if_neg hc1]), rfl, rfl⟩
theorem ef_eq0 (m : MethodId) (x0 : Addr) : entryFrame m #[(.ref x0), .null] 3 = mkF m 0 #[.val (.ref x0), .val .null, .unset] [] := by first | (simp [entryFrame, mkF, argsToLocals, Value.category]; done) | rfl
def Q_eq0 (Z : State) (a : Addr) (h0 : Heap) (n0 : Nat) (vV : Option Value) (h : Heap) (LL : List Loc) : Prop := vV = some (.int (0 : Int32)) ∧ LL = [] ∧ h = h0
set_option maxRecDepth 65536 in
set_option maxHeartbeats 40000000 in
theorem rm_eq0 (l : Launch) (Z : State) (a0 : Array Value) (hw : ∀ d ∈ tables_1, d.before a0 Z = true) (ws : List Jvm.Cond) (a : Addr) (h0 : Heap) (n0 : Nat) (O0 : Old Z n0 h0) :
    MetFree l (⟨"com/example/ullr/ullr/files/ListedLink", "equals", "(Ljava/lang/Object;)Z"⟩ : MethodName) (head1 (Jvm.Cond.code (⟨"com/example/ullr/ullr/files/ListedLink", "equals", "(Ljava/lang/Object;)Z"⟩ : MethodName) prog_27_method_4_code 3 (some .boolean) :: ws) ({ frames := 0, cells := 0, slots := 0, locals := 0 } : Room)) (fun aa_ U => aa_ = #[(.ref a), .null] ∧ Z.Warmed39 U.vm ∧ U.heap = h0) (fun _ _ _ _ _ => True) (fun _ U o U' => ∃ vV LL, o = .returned vV ∧ Q_eq0 Z a h0 n0 vV U'.heap LL ∧ FrameEnd U o U' LL ({ frames := 0, cells := 0, slots := 0, locals := 0 } : Room).cells ({ frames := 0, cells := 0, slots := 0, locals := 0 } : Room).slots) := by
  refine MetFree.of_bodySF (plainFor_of_name pn_3) hisR ?_
  intro pP eE sS mM args below meth cC s₁ Bd hml0 hP hK
  obtain ⟨rfl, hZ, hh⟩ := hP
  have hx := Bd.exec
  have hby := Bd.bytes
  have hml : cC.maxLocals = 3 := hml0
  have hown : sS.vm.findClass "com/example/ullr/ullr/files/ListedLink" = some mM.cls := findClass_of_methodNamed Bd.named
  have hnm := (name_of_methodNamed Bd.named Bd.method).1
  have X0 : Stand pP l eE ({ frames := 0, cells := 0, slots := 0, locals := 0 } : Room) sS mM #[(.ref a), .null] below meth cC s₁ [] 0 0 := Stand.of_body Bd
  have e0 : s₁.heap = h0 := by rw [← hh, Bd.state]; rfl
  have N0 := Fr.nil n0
  have pre0 : ∀ tg, Steps pP.tables eE below (s₁.setTop (mkF mM 0 #[.val (.ref a), .val .null, .unset] [])) tg → Steps pP.tables eE below (s₁.setTop (entryFrame mM #[(.ref a), .null] 3)) tg := fun tg kg => castTop (ef_eq0 mM a) kg
  obtain ⟨fs, hr, hrun, hended, hW, hsame⟩ := X0.leave (v := some (.int (0 : Int32))) (fun h => by rw [Bd.returns] at h; cases h)
  refine ⟨_, _, pre0 _ ?_, hrun, hended, _, _, rfl, ?_, ⟨_, rfl⟩, hW, hsame.mono (by decide) (by decide)⟩
  · refine XS.aloadN X0.here hx rfl (hb hby d_prog_27_method_4_0) rfl rfl ?_
    show Steps pP.tables eE below (s₁.setTop (mkF mM 1 #[.val (.ref a), .val .null, .unset] [.null])) _
    refine X0.instanceofNull hx (g := (mkF mM 1 #[.val (.ref a), .val .null, .unset] [.null])) rfl rfl (hb hby d_prog_27_method_4_1) _ ?_
    show Steps pP.tables eE below (s₁.setTop (mkF mM 4 #[.val (.ref a), .val .null, .unset] [(.int (0 : Int32))])) _
    refine XS.ifYes X0.here hx rfl (pc0 := 4) (pc' := 44) rfl (hb hby d_prog_27_method_4_4) rfl ((if0 _ _).trans (teq (by decide : (0 : Int32) = (0 : Int32))).1) (by decide) (by decide) ?_
    show Steps pP.tables eE below (s₁.setTop (mkF mM 44 #[.val (.ref a), .val .null, .unset] [])) _
    refine XS.iconst X0.here hx rfl (hb hby d_prog_27_method_4_44) ?_
    show Steps pP.tables eE below (s₁.setTop (mkF mM 45 #[.val (.ref a), .val .null, .unset] [(.int (0 : Int32))])) _
    exact retN X0 hx (t := .boolean) Bd.returns (by simp) (hb hby d_prog_27_method_4_45) hr
  · show Q_eq0 Z a h0 n0 _ s₁.heap _
    rw [e0]
    exact ⟨rfl, rfl, rfl⟩
theorem ef_eqS (m : MethodId) (x0 : Addr) (x1 : Addr) : entryFrame m #[(.ref x0), (.ref x1)] 3 = mkF m 0 #[.val (.ref x0), .val (.ref x1), .unset] [] := by first | (simp [entryFrame, mkF, argsToLocals, Value.category]; done) | rfl
def Q_eqS (Z : State) (a : Addr) (x : Addr) (h0 : Heap) (n0 : Nat) (vV : Option Value) (h : Heap) (LL : List Loc) : Prop := vV = some (.int (0 : Int32)) ∧ LL = [] ∧ h = h0
set_option maxRecDepth 65536 in
set_option maxHeartbeats 40000000 in
theorem rm_eqS (l : Launch) (Z : State) (a0 : Array Value) (hw : ∀ d ∈ tables_1, d.before a0 Z = true) (ws : List Jvm.Cond) (a : Addr) (x : Addr) (h0 : Heap) (n0 : Nat) (O0 : Old Z n0 h0) (E_x : Exa Z h0 x "java/lang/String") :
    MetFree l (⟨"com/example/ullr/ullr/files/ListedLink", "equals", "(Ljava/lang/Object;)Z"⟩ : MethodName) (head1 (Jvm.Cond.code (⟨"com/example/ullr/ullr/files/ListedLink", "equals", "(Ljava/lang/Object;)Z"⟩ : MethodName) prog_27_method_4_code 3 (some .boolean) :: ws) ({ frames := 0, cells := 0, slots := 0, locals := 0 } : Room)) (fun aa_ U => aa_ = #[(.ref a), (.ref x)] ∧ Z.Warmed39 U.vm ∧ U.heap = h0) (fun _ _ _ _ _ => True) (fun _ U o U' => ∃ vV LL, o = .returned vV ∧ Q_eqS Z a x h0 n0 vV U'.heap LL ∧ FrameEnd U o U' LL ({ frames := 0, cells := 0, slots := 0, locals := 0 } : Room).cells ({ frames := 0, cells := 0, slots := 0, locals := 0 } : Room).slots) := by
  refine MetFree.of_bodySF (plainFor_of_name pn_3) hisR ?_
  intro pP eE sS mM args below meth cC s₁ Bd hml0 hP hK
  obtain ⟨rfl, hZ, hh⟩ := hP
  have hx := Bd.exec
  have hby := Bd.bytes
  have hml : cC.maxLocals = 3 := hml0
  have hown : sS.vm.findClass "com/example/ullr/ullr/files/ListedLink" = some mM.cls := findClass_of_methodNamed Bd.named
  have hnm := (name_of_methodNamed Bd.named Bd.method).1
  have X0 : Stand pP l eE ({ frames := 0, cells := 0, slots := 0, locals := 0 } : Room) sS mM #[(.ref a), (.ref x)] below meth cC s₁ [] 0 0 := Stand.of_body Bd
  have e0 : s₁.heap = h0 := by rw [← hh, Bd.state]; rfl
  have N0 := Fr.nil n0
  have pre0 : ∀ tg, Steps pP.tables eE below (s₁.setTop (mkF mM 0 #[.val (.ref a), .val (.ref x), .unset] [])) tg → Steps pP.tables eE below (s₁.setTop (entryFrame mM #[(.ref a), (.ref x)] 3)) tg := fun tg kg => castTop (ef_eqS mM a x) kg
  obtain ⟨T1, X1, e1, st1⟩ := instNo X0 hx hZ hown (w_66 hw) e0 E_x (own_NSno (w_78 hw) (w_1 hw) (NS.step (w_78 hw) (own_NSroot (w_79 hw) (w_1 hw) (by decide)) (by decide)) (by decide)) (g := (mkF mM 1 #[.val (.ref a), .val (.ref x), .unset] [(.ref x)])) rfl rfl (hb hby d_prog_27_method_4_1)
  obtain ⟨fs, hr, hrun, hended, hW, hsame⟩ := X1.leave (v := some (.int (0 : Int32))) (fun h => by rw [Bd.returns] at h; cases h)
  refine ⟨_, _, pre0 _ ?_, hrun, hended, _, _, rfl, ?_, ⟨_, rfl⟩, hW, hsame.mono (by decide) (by decide)⟩
  · refine XS.aloadN X0.here hx rfl (hb hby d_prog_27_method_4_0) rfl rfl ?_
    show Steps pP.tables eE below (s₁.setTop (mkF mM 1 #[.val (.ref a), .val (.ref x), .unset] [(.ref x)])) _
    refine st1 _ ?_
    show Steps pP.tables eE below (T1.setTop (mkF mM 4 #[.val (.ref a), .val (.ref x), .unset] [(.int (0 : Int32))])) _
    refine XS.ifYes X1.here hx rfl (pc0 := 4) (pc' := 44) rfl (hb hby d_prog_27_method_4_4) rfl ((if0 _ _).trans (teq (by decide : (0 : Int32) = (0 : Int32))).1) (by decide) (by decide) ?_
    show Steps pP.tables eE below (T1.setTop (mkF mM 44 #[.val (.ref a), .val (.ref x), .unset] [])) _
    refine XS.iconst X1.here hx rfl (hb hby d_prog_27_method_4_44) ?_
    show Steps pP.tables eE below (T1.setTop (mkF mM 45 #[.val (.ref a), .val (.ref x), .unset] [(.int (0 : Int32))])) _
    exact retN X1 hx (t := .boolean) Bd.returns (by simp) (hb hby d_prog_27_method_4_45) hr
  · show Q_eqS Z a x h0 n0 _ T1.heap _
    rw [e1]
    exact ⟨rfl, rfl, rfl⟩
theorem ef_eqL (m : MethodId) (x0 : Addr) (x1 : Addr) : entryFrame m #[(.ref x0), (.ref x1)] 3 = mkF m 0 #[.val (.ref x0), .val (.ref x1), .unset] [] := by first | (simp [entryFrame, mkF, argsToLocals, Value.category]; done) | rfl
def Q_eqL (Z : State) (a : Addr) (b : Addr) (x0 : Addr) (t0 : Addr) (k0 : ClassId) (c0 : List Int32) (x1 : Addr) (t1 : Addr) (k1 : ClassId) (c1 : List Int32) (x2 : Addr) (t2 : Addr) (k2 : ClassId) (c2 : List Int32) (x3 : Addr) (t3 : Addr) (k3 : ClassId) (c3 : List Int32) (zc : Int32) (h0 : Heap) (n0 : Nat) (vV : Option Value) (h : Heap) (LL : List Loc) : Prop := vV = some (.int (own_leq c0 c1 c2 c3)) ∧ LL = [] ∧ h = h0
set_option maxRecDepth 65536 in
set_option maxHeartbeats 40000000 in
theorem rm_eqL (l : Launch) (Z : State) (a0 : Array Value) (hw : ∀ d ∈ tables_1, d.before a0 Z = true) (ws : List Jvm.Cond) (a : Addr) (b : Addr) (x0 : Addr) (t0 : Addr) (k0 : ClassId) (c0 : List Int32) (x1 : Addr) (t1 : Addr) (k1 : ClassId) (c1 : List Int32) (x2 : Addr) (t2 : Addr) (k2 : ClassId) (c2 : List Int32) (x3 : Addr) (t3 : Addr) (k3 : ClassId) (c3 : List Int32) (zc : Int32) (h0 : Heap) (n0 : Nat) (O0 : Old Z n0 h0) (E_b : Exa Z h0 b "com/example/ullr/ullr/files/ListedLink") (F_a__path : Fld Z h0 a "com/example/ullr/ullr/files/ListedLink" "_path" "Ljava/lang/String;" (.ref x0)) (F_b__path : Fld Z h0 b "com/example/ullr/ullr/files/ListedLink" "_path" "Ljava/lang/String;" (.ref x1)) (F_a__target : Fld Z h0 a "com/example/ullr/ullr/files/ListedLink" "_target" "Ljava/lang/String;" (.ref x2)) (F_b__target : Fld Z h0 b "com/example/ullr/ullr/files/ListedLink" "_target" "Ljava/lang/String;" (.ref x3)) (Str_x0 : own_Str Z h0 x0 t0 k0 c0) (Str_x1 : own_Str Z h0 x1 t1 k1 c1) (Str_x2 : own_Str Z h0 x2 t2 k2 c2) (Str_x3 : own_Str Z h0 x3 t3 k3 c3) (S_COMPACT_STRINGS : Sta Z Z.heap "java/lang/String" "COMPACT_STRINGS" "Z" (.int zc)) (hp10 : (¬ (zc = (0 : Int32)))) :
    MetFree l (⟨"com/example/ullr/ullr/files/ListedLink", "equals", "(Ljava/lang/Object;)Z"⟩ : MethodName) (head1 (Jvm.Cond.code (⟨"com/example/ullr/ullr/files/ListedLink", "equals", "(Ljava/lang/Object;)Z"⟩ : MethodName) prog_27_method_4_code 3 (some .boolean) :: ws) ({ frames := 2, cells := 0, slots := 0, locals := 28 } : Room)) (fun aa_ U => aa_ = #[(.ref a), (.ref b)] ∧ Z.Warmed39 U.vm ∧ U.heap = h0) (fun _ _ _ _ _ => True) (fun _ U o U' => ∃ vV LL, o = .returned vV ∧ Q_eqL Z a b x0 t0 k0 c0 x1 t1 k1 c1 x2 t2 k2 c2 x3 t3 k3 c3 zc h0 n0 vV U'.heap LL ∧ FrameEnd U o U' LL ({ frames := 2, cells := 0, slots := 0, locals := 28 } : Room).cells ({ frames := 2, cells := 0, slots := 0, locals := 28 } : Room).slots) := by
  refine MetFree.of_bodySF (plainFor_of_name pn_3) hisR ?_
  intro pP eE sS mM args below meth cC s₁ Bd hml0 hP hK
  obtain ⟨rfl, hZ, hh⟩ := hP
  have hx := Bd.exec
  have hby := Bd.bytes
  have hml : cC.maxLocals = 3 := hml0
  have hown : sS.vm.findClass "com/example/ullr/ullr/files/ListedLink" = some mM.cls := findClass_of_methodNamed Bd.named
  have hnm := (name_of_methodNamed Bd.named Bd.method).1
  have X0 : Stand pP l eE ({ frames := 2, cells := 0, slots := 0, locals := 28 } : Room) sS mM #[(.ref a), (.ref b)] below meth cC s₁ [] 0 0 := Stand.of_body Bd
  have e0 : s₁.heap = h0 := by rw [← hh, Bd.state]; rfl
  have N0 := Fr.nil n0
  have pre0 : ∀ tg, Steps pP.tables eE below (s₁.setTop (mkF mM 0 #[.val (.ref a), .val (.ref b), .unset] [])) tg → Steps pP.tables eE below (s₁.setTop (entryFrame mM #[(.ref a), (.ref b)] 3)) tg := fun tg kg => castTop (ef_eqL mM a b) kg
  obtain ⟨T1, X1, e1, st1⟩ := instY X0 hx hZ hown (w_66 hw) e0 (Ins.self E_b) (g := (mkF mM 1 #[.val (.ref a), .val (.ref b), .unset] [(.ref b)])) rfl rfl (hb hby d_prog_27_method_4_1)
  obtain ⟨T2, X2, e2, st2⟩ := castY X1 hx hZ hown (w_66 hw) e1 (Ins.self E_b) (g := (mkF mM 8 #[.val (.ref a), .val (.ref b), .unset] [(.ref b)])) rfl rfl (hb hby d_prog_27_method_4_8)
  obtain ⟨T3, X3, e3, st3⟩ := getF X2 hx hZ hown (host := "") (Or.inl (w_53 hw)) Via.refl e2 F_a__path (g := (mkF mM 13 #[.val (.ref a), .val (.ref b), .val (.ref b)] [(.ref a)])) rfl rfl (hb hby d_prog_27_method_4_13)
  obtain ⟨T4, X4, e4, st4⟩ := getF X3 hx hZ hown (host := "") (Or.inl (w_53 hw)) Via.refl e3 F_b__path (g := (mkF mM 17 #[.val (.ref a), .val (.ref b), .val (.ref b)] [(.ref b), (.ref x0)])) rfl rfl (hb hby d_prog_27_method_4_17)
  obtain ⟨cq5, kq5, q5a, q5b, q5c⟩ := isOf hZ e4 (Str_x0).1
  obtain ⟨_, _, ⟨T5, L5, k5, n5⟩, -, X5, ⟨Lc5, hQ5, l5, y5, z5⟩, st5⟩ := X4.virtualBack hx (y := (⟨"java/lang/String", "equals", "(Ljava/lang/Object;)Z"⟩ : MethodName)) (z := (⟨"java/lang/String", "equals", "(Ljava/lang/Object;)Z"⟩ : MethodName)) hown (mvT hZ (w_68 hw)) (mvT hZ (w_69 hw)) (notFace_of_selects (args := #[]) (mvT hZ (w_71 hw))) (mvT hZ (w_71 hw)) (mvT hZ (w_70 hw)) (by decide) (own_seq (W := 0) hZ hw (⟨(Str_x0).1, (Str_x0).2.1, (Str_x0).2.2.1, (Str_x0).2.2.2.1, (Str_x0).2.2.2.2⟩ : own_Str Z h0 x0 t0 k0 c0) (⟨(Str_x1).1, (Str_x1).2.1, (Str_x1).2.2.1, (Str_x1).2.2.2.1, (Str_x1).2.2.2.2⟩ : own_Str Z h0 x1 t1 k1 c1) (Sta.ext (O0).2 S_COMPACT_STRINGS) hp10 (by decide) (by decide)) q5a q5c (g := (mkF mM 20 #[.val (.ref a), .val (.ref b), .val (.ref b)] [(.ref x1), (.ref x0)])) rfl (by rw [hml]; rfl) (Steps.refl _) (argsL := [(.ref x1)]) (rest := []) (lenOf pd_4 rfl) rfl (by show 2 * 0 + _ ≤ _; exact Nat.le_of_eq rfl) (hb hby d_prog_27_method_4_20) (fun _ _ => ⟨rfl, e4, (by decide : 0 + 0 ≤ _), (by decide : 0 + 0 ≤ _)⟩)
  dsimp only [Pt.U, Pt.locs, Pt.cells, Pt.slots] at X5 l5 y5 z5 st5 hQ5
  subst l5 y5 z5
  obtain ⟨rfl, rfl, Kq5⟩ := hQ5
  try rw [List.append_nil] at X5
  have pre7 : ∀ tg, Steps pP.tables eE below (T5.setTop (mkF mM 23 #[.val (.ref a), .val (.ref b), .val (.ref b)] [(.int (if c0 = c1 then (1 : Int32) else (0 : Int32)))])) tg → Steps pP.tables eE below (s₁.setTop (entryFrame mM #[(.ref a), (.ref b)] 3)) tg := fun tg kg => pre0 tg (by
    refine XS.aloadN X0.here hx rfl (hb hby d_prog_27_method_4_0) rfl rfl ?_
    show Steps pP.tables eE below (s₁.setTop (mkF mM 1 #[.val (.ref a), .val (.ref b), .unset] [(.ref b)])) _
    refine st1 _ ?_
    show Steps pP.tables eE below (T1.setTop (mkF mM 4 #[.val (.ref a), .val (.ref b), .unset] [(.int (1 : Int32))])) _
    refine XS.ifNo X1.here hx rfl (hb hby d_prog_27_method_4_4) rfl ((if0 _ _).trans (feq (by decide : ¬ ((1 : Int32) = (0 : Int32)))).1) ?_
    show Steps pP.tables eE below (T1.setTop (mkF mM 7 #[.val (.ref a), .val (.ref b), .unset] [])) _
    refine XS.aloadN X1.here hx rfl (hb hby d_prog_27_method_4_7) rfl rfl ?_
    show Steps pP.tables eE below (T1.setTop (mkF mM 8 #[.val (.ref a), .val (.ref b), .unset] [(.ref b)])) _
    refine st2 _ ?_
    show Steps pP.tables eE below (T2.setTop (mkF mM 11 #[.val (.ref a), .val (.ref b), .unset] [(.ref b)])) _
    refine XS.astoreN X2.here hx rfl (hb hby d_prog_27_method_4_11) rfl rfl (l' := #[.val (.ref a), .val (.ref b), .val (.ref b)]) rfl ?_
    show Steps pP.tables eE below (T2.setTop (mkF mM 12 #[.val (.ref a), .val (.ref b), .val (.ref b)] [])) _
    refine XS.aloadN X2.here hx rfl (hb hby d_prog_27_method_4_12) rfl rfl ?_
    show Steps pP.tables eE below (T2.setTop (mkF mM 13 #[.val (.ref a), .val (.ref b), .val (.ref b)] [(.ref a)])) _
    refine st3 _ ?_
    show Steps pP.tables eE below (T3.setTop (mkF mM 16 #[.val (.ref a), .val (.ref b), .val (.ref b)] [(.ref x0)])) _
    refine XS.aloadN X3.here hx rfl (hb hby d_prog_27_method_4_16) rfl rfl ?_
    show Steps pP.tables eE below (T3.setTop (mkF mM 17 #[.val (.ref a), .val (.ref b), .val (.ref b)] [(.ref b), (.ref x0)])) _
    refine st4 _ ?_
    show Steps pP.tables eE below (T4.setTop (mkF mM 20 #[.val (.ref a), .val (.ref b), .val (.ref b)] [(.ref x1), (.ref x0)])) _
    refine st5.trans ?_
    exact kg)
  by_cases hc6 : (if c0 = c1 then (1 : Int32) else (0 : Int32)) = (0 : Int32)
  · obtain ⟨fs, hr, hrun, hended, hW, hsame⟩ := X5.leave (v := some (.int (0 : Int32))) (fun h => by rw [Bd.returns] at h; cases h)
    refine ⟨_, _, pre7 _ ?_, hrun, hended, _, _, rfl, ?_, ⟨_, rfl⟩, hW, hsame.mono (by decide) (by decide)⟩
    · refine XS.ifYes X5.here hx rfl (pc0 := 23) (pc' := 44) rfl (hb hby d_prog_27_method_4_23) rfl ((if0 _ _).trans (teq hc6).1) (by decide) (by decide) ?_
      show Steps pP.tables eE below (T5.setTop (mkF mM 44 #[.val (.ref a), .val (.ref b), .val (.ref b)] [])) _
      refine XS.iconst X5.here hx rfl (hb hby d_prog_27_method_4_44) ?_
      show Steps pP.tables eE below (T5.setTop (mkF mM 45 #[.val (.ref a), .val (.ref b), .val (.ref b)] [(.int (0 : Int32))])) _
      exact retN X5 hx (t := .boolean) Bd.returns (by simp) (hb hby d_prog_27_method_4_45) hr
    · show Q_eqL Z a b x0 t0 k0 c0 x1 t1 k1 c1 x2 t2 k2 c2 x3 t3 k3 c3 zc h0 n0 _ T5.heap _
      rw [Kq5]
      exact ⟨(by rw [own_leq, if_pos hc6]), rfl, rfl⟩
  · obtain ⟨T9, X9, e9, st9⟩ := getF X5 hx hZ hown (host := "") (Or.inl (w_56 hw)) Via.refl Kq5 F_a__target (g := (mkF mM 27 #[.val (.ref a), .val (.ref b), .val (.ref b)] [(.ref a)])) rfl rfl (hb hby d_prog_27_method_4_27)
    obtain ⟨T10, X10, e10, st10⟩ := getF X9 hx hZ hown (host := "") (Or.inl (w_56 hw)) Via.refl e9 F_b__target (g := (mkF mM 31 #[.val (.ref a), .val (.ref b), .val (.ref b)] [(.ref b), (.ref x2)])) rfl rfl (hb hby d_prog_27_method_4_31)
    obtain ⟨cq11, kq11, q11a, q11b, q11c⟩ := isOf hZ e10 (Str_x2).1
    obtain ⟨_, _, ⟨T11, L11, k11, n11⟩, -, X11, ⟨Lc11, hQ11, l11, y11, z11⟩, st11⟩ := X10.virtualBack hx (y := (⟨"java/lang/String", "equals", "(Ljava/lang/Object;)Z"⟩ : MethodName)) (z := (⟨"java/lang/String", "equals", "(Ljava/lang/Object;)Z"⟩ : MethodName)) hown (mvT hZ (w_68 hw)) (mvT hZ (w_69 hw)) (notFace_of_selects (args := #[]) (mvT hZ (w_71 hw))) (mvT hZ (w_71 hw)) (mvT hZ (w_70 hw)) (by decide) (own_seq (W := 0) hZ hw (⟨(Str_x2).1, (Str_x2).2.1, (Str_x2).2.2.1, (Str_x2).2.2.2.1, (Str_x2).2.2.2.2⟩ : own_Str Z h0 x2 t2 k2 c2) (⟨(Str_x3).1, (Str_x3).2.1, (Str_x3).2.2.1, (Str_x3).2.2.2.1, (Str_x3).2.2.2.2⟩ : own_Str Z h0 x3 t3 k3 c3) (Sta.ext (O0).2 S_COMPACT_STRINGS) hp10 (by decide) (by decide)) q11a q11c (g := (mkF mM 34 #[.val (.ref a), .val (.ref b), .val (.ref b)] [(.ref x3), (.ref x2)])) rfl (by rw [hml]; rfl) (Steps.refl _) (argsL := [(.ref x3)]) (rest := []) (lenOf pd_4 rfl) rfl (by show 2 * 0 + _ ≤ _; exact Nat.le_of_eq rfl) (hb hby d_prog_27_method_4_34) (fun _ _ => ⟨rfl, e10, (by decide : 0 + 0 ≤ _), (by decide : 0 + 0 ≤ _)⟩)
    dsimp only [Pt.U, Pt.locs, Pt.cells, Pt.slots] at X11 l11 y11 z11 st11 hQ11
    subst l11 y11 z11
    obtain ⟨rfl, rfl, Kq11⟩ := hQ11
    try rw [List.append_nil] at X11
    have pre13 : ∀ tg, Steps pP.tables eE below (T11.setTop (mkF mM 37 #[.val (.ref a), .val (.ref b), .val (.ref b)] [(.int (if c2 = c3 then (1 : Int32) else (0 : Int32)))])) tg → Steps pP.tables eE below (s₁.setTop (entryFrame mM #[(.ref a), (.ref b)] 3)) tg := fun tg kg => pre7 tg (by
      refine XS.ifNo X5.here hx rfl (hb hby d_prog_27_method_4_23) rfl ((if0 _ _).trans (feq hc6).1) ?_
      show Steps pP.tables eE below (T5.setTop (mkF mM 26 #[.val (.ref a), .val (.ref b), .val (.ref b)] [])) _
      refine XS.aloadN X5.here hx rfl (hb hby d_prog_27_method_4_26) rfl rfl ?_
      show Steps pP.tables eE below (T5.setTop (mkF mM 27 #[.val (.ref a), .val (.ref b), .val (.ref b)] [(.ref a)])) _
      refine st9 _ ?_
      show Steps pP.tables eE below (T9.setTop (mkF mM 30 #[.val (.ref a), .val (.ref b), .val (.ref b)] [(.ref x2)])) _
      refine XS.aloadN X9.here hx rfl (hb hby d_prog_27_method_4_30) rfl rfl ?_
      show Steps pP.tables eE below (T9.setTop (mkF mM 31 #[.val (.ref a), .val (.ref b), .val (.ref b)] [(.ref b), (.ref x2)])) _
      refine st10 _ ?_
      show Steps pP.tables eE below (T10.setTop (mkF mM 34 #[.val (.ref a), .val (.ref b), .val (.ref b)] [(.ref x3), (.ref x2)])) _
      refine st11.trans ?_
      exact kg)
    by_cases hc12 : (if c2 = c3 then (1 : Int32) else (0 : Int32)) = (0 : Int32)
    · obtain ⟨fs, hr, hrun, hended, hW, hsame⟩ := X11.leave (v := some (.int (0 : Int32))) (fun h => by rw [Bd.returns] at h; cases h)
      refine ⟨_, _, pre13 _ ?_, hrun, hended, _, _, rfl, ?_, ⟨_, rfl⟩, hW, hsame.mono (by decide) (by decide)⟩
      · refine XS.ifYes X11.here hx rfl (pc0 := 37) (pc' := 44) rfl (hb hby d_prog_27_method_4_37) rfl ((if0 _ _).trans (teq hc12).1) (by decide) (by decide) ?_
        show Steps pP.tables eE below (T11.setTop (mkF mM 44 #[.val (.ref a), .val (.ref b), .val (.ref b)] [])) _
        refine XS.iconst X11.here hx rfl (hb hby d_prog_27_method_4_44) ?_
        show Steps pP.tables eE below (T11.setTop (mkF mM 45 #[.val (.ref a), .val (.ref b), .val (.ref b)] [(.int (0 : Int32))])) _
        exact retN X11 hx (t := .boolean) Bd.returns (by simp) (hb hby d_prog_27_method_4_45) hr
      · show Q_eqL Z a b x0 t0 k0 c0 x1 t1 k1 c1 x2 t2 k2 c2 x3 t3 k3 c3 zc h0 n0 _ T11.heap _
        rw [Kq11]
        exact ⟨(by rw [own_leq, if_neg hc6, if_pos hc12]), rfl, rfl⟩
    · obtain ⟨fs, hr, hrun, hended, hW, hsame⟩ := X11.leave (v := some (.int (1 : Int32))) (fun h => by rw [Bd.returns] at h; cases h)
      refine ⟨_, _, pre13 _ ?_, hrun, hended, _, _, rfl, ?_, ⟨_, rfl⟩, hW, hsame.mono (by decide) (by decide)⟩
      · refine XS.ifNo X11.here hx rfl (hb hby d_prog_27_method_4_37) rfl ((if0 _ _).trans (feq hc12).1) ?_
        show Steps pP.tables eE below (T11.setTop (mkF mM 40 #[.val (.ref a), .val (.ref b), .val (.ref b)] [])) _
        refine XS.iconst X11.here hx rfl (hb hby d_prog_27_method_4_40) ?_
        show Steps pP.tables eE below (T11.setTop (mkF mM 41 #[.val (.ref a), .val (.ref b), .val (.ref b)] [(.int (1 : Int32))])) _
        refine XS.goto X11.here hx rfl (pc0 := 41) (pc' := 45) rfl (hb hby d_prog_27_method_4_41) (by decide) (by decide) ?_
        show Steps pP.tables eE below (T11.setTop (mkF mM 45 #[.val (.ref a), .val (.ref b), .val (.ref b)] [(.int (1 : Int32))])) _
        exact retN X11 hx (t := .boolean) Bd.returns (by simp) (hb hby d_prog_27_method_4_45) hr
      · show Q_eqL Z a b x0 t0 k0 c0 x1 t1 k1 c1 x2 t2 k2 c2 x3 t3 k3 c3 zc h0 n0 _ T11.heap _
        rw [Kq11]
        exact ⟨(by rw [own_leq, if_neg hc6, if_neg hc12]), rfl, rfl⟩
theorem ef_eqX (m : MethodId) (x0 : Addr) (x1 : Addr) : entryFrame m #[(.ref x0), (.ref x1)] 3 = mkF m 0 #[.val (.ref x0), .val (.ref x1), .unset] [] := by first | (simp [entryFrame, mkF, argsToLocals, Value.category]; done) | rfl
def Q_eqX (Z : State) (a : Addr) (x0 : Addr) (t0 : Addr) (k0 : ClassId) (c0 : List Int32) (x2 : Addr) (t2 : Addr) (k2 : ClassId) (c2 : List Int32) (zc : Int32) (h0 : Heap) (n0 : Nat) (vV : Option Value) (h : Heap) (LL : List Loc) : Prop := vV = some (.int (1 : Int32)) ∧ LL = [] ∧ h = h0
set_option maxRecDepth 65536 in
set_option maxHeartbeats 40000000 in
theorem rm_eqX (l : Launch) (Z : State) (a0 : Array Value) (hw : ∀ d ∈ tables_1, d.before a0 Z = true) (ws : List Jvm.Cond) (a : Addr) (x0 : Addr) (t0 : Addr) (k0 : ClassId) (c0 : List Int32) (x2 : Addr) (t2 : Addr) (k2 : ClassId) (c2 : List Int32) (zc : Int32) (h0 : Heap) (n0 : Nat) (O0 : Old Z n0 h0) (E_a : Exa Z h0 a "com/example/ullr/ullr/files/ListedLink") (F_a__path : Fld Z h0 a "com/example/ullr/ullr/files/ListedLink" "_path" "Ljava/lang/String;" (.ref x0)) (F_a__target : Fld Z h0 a "com/example/ullr/ullr/files/ListedLink" "_target" "Ljava/lang/String;" (.ref x2)) (Str_x0 : own_Str Z h0 x0 t0 k0 c0) (Str_x2 : own_Str Z h0 x2 t2 k2 c2) (S_COMPACT_STRINGS : Sta Z Z.heap "java/lang/String" "COMPACT_STRINGS" "Z" (.int zc)) (hp6 : (¬ (zc = (0 : Int32)))) :
    MetFree l (⟨"com/example/ullr/ullr/files/ListedLink", "equals", "(Ljava/lang/Object;)Z"⟩ : MethodName) (head1 (Jvm.Cond.code (⟨"com/example/ullr/ullr/files/ListedLink", "equals", "(Ljava/lang/Object;)Z"⟩ : MethodName) prog_27_method_4_code 3 (some .boolean) :: ws) ({ frames := 2, cells := 0, slots := 0, locals := 28 } : Room)) (fun aa_ U => aa_ = #[(.ref a), (.ref a)] ∧ Z.Warmed39 U.vm ∧ U.heap = h0) (fun _ _ _ _ _ => True) (fun _ U o U' => ∃ vV LL, o = .returned vV ∧ Q_eqX Z a x0 t0 k0 c0 x2 t2 k2 c2 zc h0 n0 vV U'.heap LL ∧ FrameEnd U o U' LL ({ frames := 2, cells := 0, slots := 0, locals := 28 } : Room).cells ({ frames := 2, cells := 0, slots := 0, locals := 28 } : Room).slots) := by
  refine MetFree.of_bodySF (plainFor_of_name pn_3) hisR ?_
  intro pP eE sS mM args below meth cC s₁ Bd hml0 hP hK
  obtain ⟨rfl, hZ, hh⟩ := hP
  have hx := Bd.exec
  have hby := Bd.bytes
  have hml : cC.maxLocals = 3 := hml0
  have hown : sS.vm.findClass "com/example/ullr/ullr/files/ListedLink" = some mM.cls := findClass_of_methodNamed Bd.named
  have hnm := (name_of_methodNamed Bd.named Bd.method).1
  have X0 : Stand pP l eE ({ frames := 2, cells := 0, slots := 0, locals := 28 } : Room) sS mM #[(.ref a), (.ref a)] below meth cC s₁ [] 0 0 := Stand.of_body Bd
  have e0 : s₁.heap = h0 := by rw [← hh, Bd.state]; rfl
  have N0 := Fr.nil n0
  have pre0 : ∀ tg, Steps pP.tables eE below (s₁.setTop (mkF mM 0 #[.val (.ref a), .val (.ref a), .unset] [])) tg → Steps pP.tables eE below (s₁.setTop (entryFrame mM #[(.ref a), (.ref a)] 3)) tg := fun tg kg => castTop (ef_eqX mM a a) kg
  obtain ⟨T1, X1, e1, st1⟩ := instY X0 hx hZ hown (w_66 hw) e0 (Ins.self E_a) (g := (mkF mM 1 #[.val (.ref a), .val (.ref a), .unset] [(.ref a)])) rfl rfl (hb hby d_prog_27_method_4_1)
  obtain ⟨T2, X2, e2, st2⟩ := castY X1 hx hZ hown (w_66 hw) e1 (Ins.self E_a) (g := (mkF mM 8 #[.val (.ref a), .val (.ref a), .unset] [(.ref a)])) rfl rfl (hb hby d_prog_27_method_4_8)
  obtain ⟨T3, X3, e3, st3⟩ := getF X2 hx hZ hown (host := "") (Or.inl (w_53 hw)) Via.refl e2 F_a__path (g := (mkF mM 13 #[.val (.ref a), .val (.ref a), .val (.ref a)] [(.ref a)])) rfl rfl (hb hby d_prog_27_method_4_13)
  obtain ⟨T4, X4, e4, st4⟩ := getF X3 hx hZ hown (host := "") (Or.inl (w_53 hw)) Via.refl e3 F_a__path (g := (mkF mM 17 #[.val (.ref a), .val (.ref a), .val (.ref a)] [(.ref a), (.ref x0)])) rfl rfl (hb hby d_prog_27_method_4_17)
  obtain ⟨cq5, kq5, q5a, q5b, q5c⟩ := isOf hZ e4 (Str_x0).1
  obtain ⟨_, _, ⟨T5, L5, k5, n5⟩, -, X5, ⟨Lc5, hQ5, l5, y5, z5⟩, st5⟩ := X4.virtualBack hx (y := (⟨"java/lang/String", "equals", "(Ljava/lang/Object;)Z"⟩ : MethodName)) (z := (⟨"java/lang/String", "equals", "(Ljava/lang/Object;)Z"⟩ : MethodName)) hown (mvT hZ (w_68 hw)) (mvT hZ (w_69 hw)) (notFace_of_selects (args := #[]) (mvT hZ (w_71 hw))) (mvT hZ (w_71 hw)) (mvT hZ (w_70 hw)) (by decide) (own_seq (W := 0) hZ hw (⟨(Str_x0).1, (Str_x0).2.1, (Str_x0).2.2.1, (Str_x0).2.2.2.1, (Str_x0).2.2.2.2⟩ : own_Str Z h0 x0 t0 k0 c0) (⟨(Str_x0).1, (Str_x0).2.1, (Str_x0).2.2.1, (Str_x0).2.2.2.1, (Str_x0).2.2.2.2⟩ : own_Str Z h0 x0 t0 k0 c0) (Sta.ext (O0).2 S_COMPACT_STRINGS) hp6 (by decide) (by decide)) q5a q5c (g := (mkF mM 20 #[.val (.ref a), .val (.ref a), .val (.ref a)] [(.ref x0), (.ref x0)])) rfl (by rw [hml]; rfl) (Steps.refl _) (argsL := [(.ref x0)]) (rest := []) (lenOf pd_4 rfl) rfl (by show 2 * 0 + _ ≤ _; exact Nat.le_of_eq rfl) (hb hby d_prog_27_method_4_20) (fun _ _ => ⟨rfl, e4, (by decide : 0 + 0 ≤ _), (by decide : 0 + 0 ≤ _)⟩)
  dsimp only [Pt.U, Pt.locs, Pt.cells, Pt.slots] at X5 l5 y5 z5 st5 hQ5
  subst l5 y5 z5
  obtain ⟨rfl, rfl, Kq5⟩ := hQ5
  try rw [List.append_nil] at X5
  obtain ⟨T6, X6, e6, st6⟩ := getF X5 hx hZ hown (host := "") (Or.inl (w_56 hw)) Via.refl Kq5 F_a__target (g := (mkF mM 27 #[.val (.ref a), .val (.ref a), .val (.ref a)] [(.ref a)])) rfl rfl (hb hby d_prog_27_method_4_27)
  obtain ⟨T7, X7, e7, st7⟩ := getF X6 hx hZ hown (host := "") (Or.inl (w_56 hw)) Via.refl e6 F_a__target (g := (mkF mM 31 #[.val (.ref a), .val (.ref a), .val (.ref a)] [(.ref a), (.ref x2)])) rfl rfl (hb hby d_prog_27_method_4_31)
  obtain ⟨cq8, kq8, q8a, q8b, q8c⟩ := isOf hZ e7 (Str_x2).1
  obtain ⟨_, _, ⟨T8, L8, k8, n8⟩, -, X8, ⟨Lc8, hQ8, l8, y8, z8⟩, st8⟩ := X7.virtualBack hx (y := (⟨"java/lang/String", "equals", "(Ljava/lang/Object;)Z"⟩ : MethodName)) (z := (⟨"java/lang/String", "equals", "(Ljava/lang/Object;)Z"⟩ : MethodName)) hown (mvT hZ (w_68 hw)) (mvT hZ (w_69 hw)) (notFace_of_selects (args := #[]) (mvT hZ (w_71 hw))) (mvT hZ (w_71 hw)) (mvT hZ (w_70 hw)) (by decide) (own_seq (W := 0) hZ hw (⟨(Str_x2).1, (Str_x2).2.1, (Str_x2).2.2.1, (Str_x2).2.2.2.1, (Str_x2).2.2.2.2⟩ : own_Str Z h0 x2 t2 k2 c2) (⟨(Str_x2).1, (Str_x2).2.1, (Str_x2).2.2.1, (Str_x2).2.2.2.1, (Str_x2).2.2.2.2⟩ : own_Str Z h0 x2 t2 k2 c2) (Sta.ext (O0).2 S_COMPACT_STRINGS) hp6 (by decide) (by decide)) q8a q8c (g := (mkF mM 34 #[.val (.ref a), .val (.ref a), .val (.ref a)] [(.ref x2), (.ref x2)])) rfl (by rw [hml]; rfl) (Steps.refl _) (argsL := [(.ref x2)]) (rest := []) (lenOf pd_4 rfl) rfl (by show 2 * 0 + _ ≤ _; exact Nat.le_of_eq rfl) (hb hby d_prog_27_method_4_34) (fun _ _ => ⟨rfl, e7, (by decide : 0 + 0 ≤ _), (by decide : 0 + 0 ≤ _)⟩)
  dsimp only [Pt.U, Pt.locs, Pt.cells, Pt.slots] at X8 l8 y8 z8 st8 hQ8
  subst l8 y8 z8
  obtain ⟨rfl, rfl, Kq8⟩ := hQ8
  try rw [List.append_nil] at X8
  obtain ⟨fs, hr, hrun, hended, hW, hsame⟩ := X8.leave (v := some (.int (1 : Int32))) (fun h => by rw [Bd.returns] at h; cases h)
  refine ⟨_, _, pre0 _ ?_, hrun, hended, _, _, rfl, ?_, ⟨_, rfl⟩, hW, hsame.mono (by decide) (by decide)⟩
  · refine XS.aloadN X0.here hx rfl (hb hby d_prog_27_method_4_0) rfl rfl ?_
    show Steps pP.tables eE below (s₁.setTop (mkF mM 1 #[.val (.ref a), .val (.ref a), .unset] [(.ref a)])) _
    refine st1 _ ?_
    show Steps pP.tables eE below (T1.setTop (mkF mM 4 #[.val (.ref a), .val (.ref a), .unset] [(.int (1 : Int32))])) _
    refine XS.ifNo X1.here hx rfl (hb hby d_prog_27_method_4_4) rfl ((if0 _ _).trans (feq (by decide : ¬ ((1 : Int32) = (0 : Int32)))).1) ?_
    show Steps pP.tables eE below (T1.setTop (mkF mM 7 #[.val (.ref a), .val (.ref a), .unset] [])) _
    refine XS.aloadN X1.here hx rfl (hb hby d_prog_27_method_4_7) rfl rfl ?_
    show Steps pP.tables eE below (T1.setTop (mkF mM 8 #[.val (.ref a), .val (.ref a), .unset] [(.ref a)])) _
    refine st2 _ ?_
    show Steps pP.tables eE below (T2.setTop (mkF mM 11 #[.val (.ref a), .val (.ref a), .unset] [(.ref a)])) _
    refine XS.astoreN X2.here hx rfl (hb hby d_prog_27_method_4_11) rfl rfl (l' := #[.val (.ref a), .val (.ref a), .val (.ref a)]) rfl ?_
    show Steps pP.tables eE below (T2.setTop (mkF mM 12 #[.val (.ref a), .val (.ref a), .val (.ref a)] [])) _
    refine XS.aloadN X2.here hx rfl (hb hby d_prog_27_method_4_12) rfl rfl ?_
    show Steps pP.tables eE below (T2.setTop (mkF mM 13 #[.val (.ref a), .val (.ref a), .val (.ref a)] [(.ref a)])) _
    refine st3 _ ?_
    show Steps pP.tables eE below (T3.setTop (mkF mM 16 #[.val (.ref a), .val (.ref a), .val (.ref a)] [(.ref x0)])) _
    refine XS.aloadN X3.here hx rfl (hb hby d_prog_27_method_4_16) rfl rfl ?_
    show Steps pP.tables eE below (T3.setTop (mkF mM 17 #[.val (.ref a), .val (.ref a), .val (.ref a)] [(.ref a), (.ref x0)])) _
    refine st4 _ ?_
    show Steps pP.tables eE below (T4.setTop (mkF mM 20 #[.val (.ref a), .val (.ref a), .val (.ref a)] [(.ref x0), (.ref x0)])) _
    refine st5.trans ?_
    show Steps pP.tables eE below (T5.setTop (mkF mM 23 #[.val (.ref a), .val (.ref a), .val (.ref a)] [(.int (if c0 = c0 then (1 : Int32) else (0 : Int32)))])) _
    rw [(if_pos rfl : (if c0 = c0 then (1 : Int32) else (0 : Int32)) = (1 : Int32))]
    show Steps pP.tables eE below (T5.setTop (mkF mM 23 #[.val (.ref a), .val (.ref a), .val (.ref a)] [(.int (1 : Int32))])) _
    refine XS.ifNo X5.here hx rfl (hb hby d_prog_27_method_4_23) rfl ((if0 _ _).trans (feq (by decide : ¬ ((1 : Int32) = (0 : Int32)))).1) ?_
    show Steps pP.tables eE below (T5.setTop (mkF mM 26 #[.val (.ref a), .val (.ref a), .val (.ref a)] [])) _
    refine XS.aloadN X5.here hx rfl (hb hby d_prog_27_method_4_26) rfl rfl ?_
    show Steps pP.tables eE below (T5.setTop (mkF mM 27 #[.val (.ref a), .val (.ref a), .val (.ref a)] [(.ref a)])) _
    refine st6 _ ?_
    show Steps pP.tables eE below (T6.setTop (mkF mM 30 #[.val (.ref a), .val (.ref a), .val (.ref a)] [(.ref x2)])) _
    refine XS.aloadN X6.here hx rfl (hb hby d_prog_27_method_4_30) rfl rfl ?_
    show Steps pP.tables eE below (T6.setTop (mkF mM 31 #[.val (.ref a), .val (.ref a), .val (.ref a)] [(.ref a), (.ref x2)])) _
    refine st7 _ ?_
    show Steps pP.tables eE below (T7.setTop (mkF mM 34 #[.val (.ref a), .val (.ref a), .val (.ref a)] [(.ref x2), (.ref x2)])) _
    refine st8.trans ?_
    show Steps pP.tables eE below (T8.setTop (mkF mM 37 #[.val (.ref a), .val (.ref a), .val (.ref a)] [(.int (if c2 = c2 then (1 : Int32) else (0 : Int32)))])) _
    rw [(if_pos rfl : (if c2 = c2 then (1 : Int32) else (0 : Int32)) = (1 : Int32))]
    show Steps pP.tables eE below (T8.setTop (mkF mM 37 #[.val (.ref a), .val (.ref a), .val (.ref a)] [(.int (1 : Int32))])) _
    refine XS.ifNo X8.here hx rfl (hb hby d_prog_27_method_4_37) rfl ((if0 _ _).trans (feq (by decide : ¬ ((1 : Int32) = (0 : Int32)))).1) ?_
    show Steps pP.tables eE below (T8.setTop (mkF mM 40 #[.val (.ref a), .val (.ref a), .val (.ref a)] [])) _
    refine XS.iconst X8.here hx rfl (hb hby d_prog_27_method_4_40) ?_
    show Steps pP.tables eE below (T8.setTop (mkF mM 41 #[.val (.ref a), .val (.ref a), .val (.ref a)] [(.int (1 : Int32))])) _
    refine XS.goto X8.here hx rfl (pc0 := 41) (pc' := 45) rfl (hb hby d_prog_27_method_4_41) (by decide) (by decide) ?_
    show Steps pP.tables eE below (T8.setTop (mkF mM 45 #[.val (.ref a), .val (.ref a), .val (.ref a)] [(.int (1 : Int32))])) _
    exact retN X8 hx (t := .boolean) Bd.returns (by simp) (hb hby d_prog_27_method_4_45) hr
  · show Q_eqX Z a x0 t0 k0 c0 x2 t2 k2 c2 zc h0 n0 _ T8.heap _
    rw [Kq8]
    exact ⟨rfl, rfl, rfl⟩
theorem ef_law (m : MethodId) (x0 : Int32) (x1 : Int32) (x2 : Int32) (x3 : Int32) (x4 : Int32) : entryFrame m #[(.int x0), (.int x1), (.int x2), (.int x3), (.int x4)] maxLocals = mkF m 0 #[.val (.int x0), .val (.int x1), .val (.int x2), .val (.int x3), .val (.int x4), .unset, .unset, .unset, .unset, .unset, .unset] [] := by first | (simp [entryFrame, mkF, argsToLocals, Value.category, maxLocals]; done) | rfl
def Q_law (Z : State) (p0 : Int32) (p1 : Int32) (p2 : Int32) (p3 : Int32) (p4 : Int32) (zc : Int32) (fm : Value) (h0 : Heap) (n0 : Nat) (vV : Option Value) (h : Heap) (LL : List Loc) : Prop := vV = some (.int 1) ∧ Fr n0 LL ∧ Keep h0 h []
set_option maxRecDepth 65536 in
set_option maxHeartbeats 40000000 in
theorem rm_law (l : Launch) (Z : State) (a0 : Array Value) (hw : ∀ d ∈ tables_1, d.before a0 Z = true) (ws : List Jvm.Cond) (p0 : Int32) (p1 : Int32) (p2 : Int32) (p3 : Int32) (p4 : Int32) (zc : Int32) (fm : Value) (h0 : Heap) (n0 : Nat) (O0 : Old Z n0 h0) (S_COMPACT_STRINGS : Sta Z Z.heap "java/lang/String" "COMPACT_STRINGS" "Z" (.int zc)) (hp1 : (¬ (zc = (0 : Int32)))) (S_SIOOBE_FORMATTER : Sta Z Z.heap "jdk/internal/util/Preconditions" "SIOOBE_FORMATTER" "Ljava/util/function/BiFunction;" fm) (hp3 : (fm.isRef = true)) :
    MetFree l x (head1 (Jvm.Cond.code x code maxLocals ret :: ws) room_1) (fun aa_ U => aa_ = #[(.int p0), (.int p1), (.int p2), (.int p3), (.int p4)] ∧ Z.Warmed39 U.vm ∧ U.heap = h0 ∧ CHv Z own_EL U.vm h0 ∧ ∀ xX_ ∈ ([] : List Addr), Safe Z own_EL U.vm h0 xX_) (fun _ _ _ _ _ => True) (fun _ U o U' => ∃ vV LL, o = .returned vV ∧ Q_law Z p0 p1 p2 p3 p4 zc fm h0 n0 vV U'.heap LL ∧ CHr Z own_EL U.vm U.heap U'.vm U'.heap ∧ ReturnedEndW U o U' LL room_1.cells room_1.slots) := by
  refine MetFree.of_bodySF (plainFor_of_name pn_1) hisR ?_
  intro pP eE sS mM args below meth cC s₁ Bd hml0 hP hK
  obtain ⟨rfl, hZ, hh, hCH, hSf⟩ := hP
  have hx := Bd.exec
  have hby := Bd.bytes
  have hml : cC.maxLocals = 11 := hml0
  have hown : sS.vm.findClass "com/example/ullr/ullr/files/ListedLinkEqualsPinLaw" = some mM.cls := findClass_of_methodNamed Bd.named
  have hnm := (name_of_methodNamed Bd.named Bd.method).1
  have X0 : Stand pP l eE room_1 (sS.setVm sS.vm) mM #[(.int p0), (.int p1), (.int p2), (.int p3), (.int p4)] below meth cC s₁ [] 0 0 := Stand.of_body Bd
  have e0 : s₁.heap = h0 := by rw [← hh, Bd.state]; rfl
  have N0 := Fr.nil n0
  have pre0 : ∀ tg, Steps pP.tables eE below (s₁.setTop (mkF mM 0 #[.val (.int p0), .val (.int p1), .val (.int p2), .val (.int p3), .val (.int p4), .unset, .unset, .unset, .unset, .unset, .unset] [])) tg → Steps pP.tables eE below (s₁.setTop (entryFrame mM #[(.int p0), (.int p1), (.int p2), (.int p3), (.int p4)] maxLocals)) tg := fun tg kg => castTop (ef_law mM p0 p1 p2 p3 p4) kg
  have K0 : Keep h0 h0 [] := Keep.refl _ _
  have hZ0 : Z.Warmed39 (sS.setVm sS.vm).vm := hZ
  have hown0 : (sS.setVm sS.vm).vm.findClass "com/example/ullr/ullr/files/ListedLinkEqualsPinLaw" = some mM.cls := hown
  have hS0 : sS.Since sS.vm 0 := (State.WarmedH.refl sS).since 0
  have hk0 : 0 ≤ h0.size := Nat.zero_le _
  have CH0 : CHr Z own_EL sS.vm h0 sS.vm h0 := CHr.refl hCH
  have hEL := own_EW hw
  have wS := own_wS hw
  let Ls1 : Array Slot := #[.val (.int p0), .val (.int p1), .val (.int p2), .val (.int p3), .val (.int p4), .val (.int (p0 ^^^ p1)), .unset, .unset, .unset, .unset, .unset]
  let Ls2 : Array Slot := #[.val (.int p0), .val (.int p1), .val (.int p2), .val (.int p3), .val (.int p4), .val (.int (p0 ^^^ p1)), .val (.int (p2 ^^^ p3)), .unset, .unset, .unset, .unset]
  obtain ⟨T3, h3, X3, e3, E3, A3, D3, -, st3⟩ := newO X0 hx hZ0 hown0 (w_0 hw) (w_1 hw) (w_2 hw) e0 (g := (mkF mM 10 Ls2 [])) rfl (hb hby at_10) (by decide) (by decide)
  obtain ⟨b3, g3⟩ : ∃ z, z = h0.size := ⟨_, rfl⟩
  rw [← g3] at A3 D3 st3
  have Sn_b3 : Safe Z own_EL sS.vm h0 b3 := Safe.new (Nat.le_of_eq g3.symm)
  have g_b3 : n0 ≤ b3 := Nat.le_trans (own_osz O0) (Nat.le_of_eq g3.symm)
  have sz_b3 : h0.size ≤ b3 := Nat.le_trans K0.1 (Nat.le_of_eq g3.symm)
  have CH4 : CHr Z own_EL sS.vm h0 sS.vm h3 := CH0.trans (CHr.ext E3 CH0.1)
  have hk5 := Nat.le_trans hk0 E3.1
  have K6 : Keep h0 h3 [] := K0.ext E3
  have F_b3__path : Fld Z h3 b3 "com/example/ullr/ullr/files/ListedLink" "_path" "Ljava/lang/String;" .null := D3 (Or.inr (w_54 hw)) (ty := (.object "java/lang/String")) (by decide)
  have F_b3__target : Fld Z h3 b3 "com/example/ullr/ullr/files/ListedLink" "_target" "Ljava/lang/String;" .null := D3 (Or.inr (w_57 hw)) (ty := (.object "java/lang/String")) (by decide)
  have f7 := (O0.ext E3)
  obtain ⟨_, _, ⟨T8, L8, k8, n8⟩, -, X8, hS28, hg28, ⟨Lc8, hQ8, l8, y8, z8, CHl8⟩, st8⟩ := callSS X3 hx (y := (⟨"com/example/ullr/ullr/files/ListedLinkEqualsPinLaw", "mk", "(I)Ljava/lang/String;"⟩ : MethodName)) hown0 (mvT hZ0 (w_3 hw)) (mvT hZ0 (w_4 hw)) (mvT hZ0 (w_5 hw)) (mvT hZ0 (w_6 hw)) (by decide) (own_backOfSH (s := sS) (vm0 := sS.vm) (rm := ({ frames := 4, cells := 6, slots := 12, locals := 66 } : Room)) (W := 2) (rm_mk l Z a0 hw [] p0 zc h3 n0 f7 S_COMPACT_STRINGS hp1) hZ0 (w_6 hw) (w_5 hw) (by decide) (by decide) hEL CH4.1 own_sf0) (g := (mkF mM 15 Ls2 [(.int p0), (.ref b3), (.ref b3)])) rfl (by rw [hml]; rfl) (argsL := [(.int p0)]) (rest := [(.ref b3), (.ref b3)]) (lenOf pd_5 rfl) rfl (by show 2 * 0 + _ ≤ _; exact Nat.le_of_eq rfl) (hb hby at_15) (fun _ _ => ⟨rfl, e3, (by decide : 1 + 6 ≤ _), (by decide : 2 + 12 ≤ _)⟩)
  dsimp only [Pt.U, Pt.locs, Pt.cells, Pt.slots] at X8 l8 y8 z8 st8 hQ8 hS28 hg28 CHl8
  subst l8 y8 z8
  have hS8 := foldS hS0 (by rw [e3]; exact hk5) hS28 hg28
  have hZ8 : Z.Warmed39 (sS.setVm T8.vm).vm := State.Warmed39.trans (t := sS.setVm sS.vm) hZ0 hS28.1
  have hown8 : (sS.setVm T8.vm).vm.findClass "com/example/ullr/ullr/files/ListedLinkEqualsPinLaw" = some mM.cls := by rw [show (sS.setVm T8.vm).vm = T8.vm from rfl, hS28.1.alike.findClass]; exact hown0
  have hk8 : T8.heap.size ≤ T8.heap.size := Nat.le_refl _
  replace X8 : Stand pP l eE room_1 (sS.setVm T8.vm) mM _ below meth cC T8 _ _ _ := X8
  obtain ⟨b_8, t_8, k_8, rfl, Nq8, Kq8, q8_0, q8_1⟩ := hQ8
  have N8 := Fr.app N0 Nq8
  have g_b_8 : n0 ≤ b_8 := Nat.le_trans (own_osz f7) q8_0
  have sz_b_8 : h0.size ≤ b_8 := Nat.le_trans K6.1 q8_0
  have CH9 : CHr Z own_EL sS.vm h0 T8.vm T8.heap := CH4.trans (CHl8)
  skip
  have K11 : Keep h0 T8.heap [] := K6.trans Kq8 all0
  have f12 := (f7.keep Kq8 all0)
  obtain ⟨_, _, ⟨T13, L13, k13, n13⟩, -, X13, hS213, hg213, ⟨Lc13, hQ13, l13, y13, z13, CHl13⟩, st13⟩ := callSS X8 hx (y := (⟨"com/example/ullr/ullr/files/ListedLinkEqualsPinLaw", "mk", "(I)Ljava/lang/String;"⟩ : MethodName)) hown8 (mvT hZ8 (w_3 hw)) (mvT hZ8 (w_4 hw)) (mvT hZ8 (w_5 hw)) (mvT hZ8 (w_6 hw)) (by decide) (own_backOfSH (s := sS) (vm0 := T8.vm) (rm := ({ frames := 4, cells := 6, slots := 12, locals := 66 } : Room)) (W := 3) (rm_mk l Z a0 hw [] p2 zc T8.heap n0 f12 S_COMPACT_STRINGS hp1) hZ8 (w_6 hw) (w_5 hw) (by decide) (by decide) hEL CH9.1 own_sf0) (g := (mkF mM 19 Ls2 [(.int p2), (.ref b_8), (.ref b3), (.ref b3)])) rfl (by rw [hml]; rfl) (argsL := [(.int p2)]) (rest := [(.ref b_8), (.ref b3), (.ref b3)]) (lenOf pd_5 rfl) rfl (by show 2 * 0 + _ ≤ _; exact Nat.le_of_eq rfl) (hb hby at_19) (fun _ _ => ⟨rfl, rfl, (by decide : 7 + 6 ≤ _), (by decide : 14 + 12 ≤ _)⟩)
  dsimp only [Pt.U, Pt.locs, Pt.cells, Pt.slots] at X13 l13 y13 z13 st13 hQ13 hS213 hg213 CHl13
  subst l13 y13 z13
  have hS13 := foldS hS8 (hk8) hS213 hg213
  have hZ13 : Z.Warmed39 (sS.setVm T13.vm).vm := State.Warmed39.trans (t := sS.setVm T8.vm) hZ8 hS213.1
  have hown13 : (sS.setVm T13.vm).vm.findClass "com/example/ullr/ullr/files/ListedLinkEqualsPinLaw" = some mM.cls := by rw [show (sS.setVm T13.vm).vm = T13.vm from rfl, hS213.1.alike.findClass]; exact hown8
  have hk13 : T13.heap.size ≤ T13.heap.size := Nat.le_refl _
  replace X13 : Stand pP l eE room_1 (sS.setVm T13.vm) mM _ below meth cC T13 _ _ _ := X13
  obtain ⟨b_13, t_13, k_13, rfl, Nq13, Kq13, q13_0, q13_1⟩ := hQ13
  have N13 := Fr.app N8 Nq13
  have g_b_13 : n0 ≤ b_13 := Nat.le_trans (own_osz f12) q13_0
  have sz_b_13 : h0.size ≤ b_13 := Nat.le_trans K11.1 q13_0
  have CH14 : CHr Z own_EL sS.vm h0 T13.vm T13.heap := CH9.trans (CHl13)
  skip
  have K16 : Keep h0 T13.heap [] := K11.trans Kq13 all0
  have f17 := ((A3.keep Kq8).keep Kq13)
  have f18 := ((F_b3__path.keep Kq8 nin0).keep Kq13 nin0)
  have f19 := ((F_b3__target.keep Kq8 nin0).keep Kq13 nin0)
  have f20 := ((q8_1).1.keep Kq13)
  have f21 := (f12.keep Kq13 all0)
  obtain ⟨_, _, ⟨T22, L22, k22, n22⟩, -, X22, hS222, hg222, ⟨Lc22, hQ22, l22, y22, z22, CHl22⟩, st22⟩ := X13.specialBackS hx (y := (⟨"com/example/ullr/ullr/files/ListedLink", "<init>", "(Ljava/lang/String;Ljava/lang/String;)V"⟩ : MethodName)) rfl hown13 (mvT hZ13 (w_43 hw)) (mvT hZ13 (w_44 hw)) (mvT hZ13 (w_45 hw)) (by decide) (own_backOfSH (s := sS) (vm0 := T13.vm) (rm := ({ frames := 1, cells := 4, slots := 48, locals := 14 } : Room)) (W := 1) (rm_lini l Z a0 hw [] b3 b_8 b_13 .null .null T13.heap n0 f21 f17 f18 f19 g_b3 f20 (q13_1).1) hZ13 (w_45 hw) (w_2 hw) (by decide) (by decide) hEL CH14.1 own_sf0) (g := (mkF mM 22 Ls2 [(.ref b_13), (.ref b_8), (.ref b3), (.ref b3)])) rfl (by rw [hml]; rfl) (Steps.refl _) (a := b3) (argsL := [(.ref b_8), (.ref b_13)]) (rest := [(.ref b3)]) (lenOf pd_6 rfl) rfl (by show 2 * 0 + _ ≤ _; exact Nat.le_of_eq rfl) (hb hby at_22) (fun _ _ => ⟨rfl, rfl, (by decide : 13 + 4 ≤ _), (by decide : 26 + 48 ≤ _)⟩)
  dsimp only [Pt.U, Pt.locs, Pt.cells, Pt.slots] at X22 l22 y22 z22 st22 hQ22 hS222 hg222 CHl22
  subst l22 y22 z22
  have hS22 := foldS hS13 (hk13) hS222 hg222
  have hZ22 : Z.Warmed39 (sS.setVm T22.vm).vm := State.Warmed39.trans (t := sS.setVm T13.vm) hZ13 hS222.1
  have hown22 : (sS.setVm T22.vm).vm.findClass "com/example/ullr/ullr/files/ListedLinkEqualsPinLaw" = some mM.cls := by rw [show (sS.setVm T22.vm).vm = T22.vm from rfl, hS222.1.alike.findClass]; exact hown13
  have hk22 : T22.heap.size ≤ T22.heap.size := Nat.le_refl _
  replace X22 : Stand pP l eE room_1 (sS.setVm T22.vm) mM _ below meth cC T22 _ _ _ := X22
  obtain ⟨rfl, Nq22, Kq22, q22_0, q22_1, q22_2⟩ := hQ22
  have N22 := Fr.app N13 Nq22
  have CH23 : CHr Z own_EL sS.vm h0 T22.vm T22.heap := CH14.trans (CHl22)
  skip
  have K25 : Keep h0 T22.heap [] := K16.trans Kq22 (allS (Or.inr sz_b3) all0)
  let Ls26 : Array Slot := #[.val (.int p0), .val (.int p1), .val (.int p2), .val (.int p3), .val (.int p4), .val (.int (p0 ^^^ p1)), .val (.int (p2 ^^^ p3)), .val (.ref b3), .unset, .unset, .unset]
  let Ls27 : Array Slot := #[.val (.int p0), .val (.int p1), .val (.int p2), .val (.int p3), .val (.int p4), .val (.int (p0 ^^^ p1)), .val (.int (p2 ^^^ p3)), .val (.ref b3), .val (.int (p4 &&& (3 : Int32))), .unset, .unset]
  have pre29 : ∀ tg, Steps pP.tables eE below (T22.setTop (mkF mM 35 Ls27 [(.int (p4 &&& (3 : Int32)))])) tg → Steps pP.tables eE below (s₁.setTop (entryFrame mM #[(.int p0), (.int p1), (.int p2), (.int p3), (.int p4)] maxLocals)) tg := fun tg kg => pre0 tg (by
    refine XS.iloadN X0.here hx rfl (hb hby at_0) rfl ?_
    show Steps pP.tables eE below (s₁.setTop (mkF mM 1 #[.val (.int p0), .val (.int p1), .val (.int p2), .val (.int p3), .val (.int p4), .unset, .unset, .unset, .unset, .unset, .unset] [(.int p0)])) _
    refine XS.iloadN X0.here hx rfl (hb hby at_1) rfl ?_
    show Steps pP.tables eE below (s₁.setTop (mkF mM 2 #[.val (.int p0), .val (.int p1), .val (.int p2), .val (.int p3), .val (.int p4), .unset, .unset, .unset, .unset, .unset, .unset] [(.int p1), (.int p0)])) _
    refine XS.ixor X0.here hx rfl (hb hby at_2) rfl ?_
    show Steps pP.tables eE below (s₁.setTop (mkF mM 3 #[.val (.int p0), .val (.int p1), .val (.int p2), .val (.int p3), .val (.int p4), .unset, .unset, .unset, .unset, .unset, .unset] [(.int (p0 ^^^ p1))])) _
    refine XS.istore X0.here hx rfl (hb hby at_3) rfl (l' := Ls1) rfl ?_
    show Steps pP.tables eE below (s₁.setTop (mkF mM 5 Ls1 [])) _
    refine XS.iloadN X0.here hx rfl (hb hby at_5) rfl ?_
    show Steps pP.tables eE below (s₁.setTop (mkF mM 6 Ls1 [(.int p2)])) _
    refine XS.iloadN X0.here hx rfl (hb hby at_6) rfl ?_
    show Steps pP.tables eE below (s₁.setTop (mkF mM 7 Ls1 [(.int p3), (.int p2)])) _
    refine XS.ixor X0.here hx rfl (hb hby at_7) rfl ?_
    show Steps pP.tables eE below (s₁.setTop (mkF mM 8 Ls1 [(.int (p2 ^^^ p3))])) _
    refine XS.istore X0.here hx rfl (hb hby at_8) rfl (l' := Ls2) rfl ?_
    show Steps pP.tables eE below (s₁.setTop (mkF mM 10 Ls2 [])) _
    refine st3 _ ?_
    show Steps pP.tables eE below (T3.setTop (mkF mM 13 Ls2 [(.ref b3)])) _
    refine XS.dup X3.here hx rfl (hb hby at_13) rfl rfl ?_
    show Steps pP.tables eE below (T3.setTop (mkF mM 14 Ls2 [(.ref b3), (.ref b3)])) _
    refine XS.iloadN X3.here hx rfl (hb hby at_14) rfl ?_
    show Steps pP.tables eE below (T3.setTop (mkF mM 15 Ls2 [(.int p0), (.ref b3), (.ref b3)])) _
    refine st8.trans ?_
    show Steps pP.tables eE below (T8.setTop (mkF mM 18 Ls2 [(.ref b_8), (.ref b3), (.ref b3)])) _
    refine XS.iloadN X8.here hx rfl (hb hby at_18) rfl ?_
    show Steps pP.tables eE below (T8.setTop (mkF mM 19 Ls2 [(.int p2), (.ref b_8), (.ref b3), (.ref b3)])) _
    refine st13.trans ?_
    show Steps pP.tables eE below (T13.setTop (mkF mM 22 Ls2 [(.ref b_13), (.ref b_8), (.ref b3), (.ref b3)])) _
    refine st22.trans ?_
    show Steps pP.tables eE below (T22.setTop (mkF mM 25 Ls2 [(.ref b3)])) _
    refine XS.astore X22.here hx rfl (hb hby at_25) rfl rfl (l' := Ls26) rfl ?_
    show Steps pP.tables eE below (T22.setTop (mkF mM 27 Ls26 [])) _
    refine XS.iload X22.here hx rfl (hb hby at_27) rfl ?_
    show Steps pP.tables eE below (T22.setTop (mkF mM 29 Ls26 [(.int p4)])) _
    refine XS.iconst X22.here hx rfl (hb hby at_29) ?_
    show Steps pP.tables eE below (T22.setTop (mkF mM 30 Ls26 [(.int (3 : Int32)), (.int p4)])) _
    refine XS.iand X22.here hx rfl (hb hby at_30) rfl ?_
    show Steps pP.tables eE below (T22.setTop (mkF mM 31 Ls26 [(.int (p4 &&& (3 : Int32)))])) _
    refine XS.istore X22.here hx rfl (hb hby at_31) rfl (l' := Ls27) rfl ?_
    show Steps pP.tables eE below (T22.setTop (mkF mM 33 Ls27 [])) _
    refine XS.iload X22.here hx rfl (hb hby at_33) rfl ?_
    exact kg)
  by_cases hc28 : (p4 &&& (3 : Int32)) = (0 : Int32)
  · obtain ⟨T30, h30, X30, e30, E30, A30, D30, -, st30⟩ := newO X22 hx hZ22 hown22 (w_0 hw) (w_1 hw) (w_2 hw) rfl (g := (mkF mM 38 Ls27 [])) rfl (hb hby at_38) (by decide) (by decide)
    obtain ⟨b30, g30⟩ : ∃ z, z = T22.heap.size := ⟨_, rfl⟩
    rw [← g30] at A30 D30 st30
    have Sn_b30 : Safe Z own_EL T22.vm T22.heap b30 := Safe.new (Nat.le_of_eq g30.symm)
    have f31 := (f21.keep Kq22 (allS g_b3 all0))
    have g_b30 : n0 ≤ b30 := Nat.le_trans (own_osz f31) (Nat.le_of_eq g30.symm)
    have sz_b30 : h0.size ≤ b30 := Nat.le_trans K25.1 (Nat.le_of_eq g30.symm)
    have CH32 : CHr Z own_EL sS.vm h0 T22.vm h30 := CH23.trans (CHr.ext E30 CH23.1)
    have hk33 := Nat.le_trans hk22 E30.1
    have K34 : Keep h0 h30 [] := K25.ext E30
    have F_b30__path : Fld Z h30 b30 "com/example/ullr/ullr/files/ListedLink" "_path" "Ljava/lang/String;" .null := D30 (Or.inr (w_54 hw)) (ty := (.object "java/lang/String")) (by decide)
    have F_b30__target : Fld Z h30 b30 "com/example/ullr/ullr/files/ListedLink" "_target" "Ljava/lang/String;" .null := D30 (Or.inr (w_57 hw)) (ty := (.object "java/lang/String")) (by decide)
    have f35 := (f31.ext E30)
    obtain ⟨_, _, ⟨T36, L36, k36, n36⟩, -, X36, hS236, hg236, ⟨Lc36, hQ36, l36, y36, z36, CHl36⟩, st36⟩ := callSS X30 hx (y := (⟨"com/example/ullr/ullr/files/ListedLinkEqualsPinLaw", "mk", "(I)Ljava/lang/String;"⟩ : MethodName)) hown22 (mvT hZ22 (w_3 hw)) (mvT hZ22 (w_4 hw)) (mvT hZ22 (w_5 hw)) (mvT hZ22 (w_6 hw)) (by decide) (own_backOfSH (s := sS) (vm0 := T22.vm) (rm := ({ frames := 4, cells := 6, slots := 12, locals := 66 } : Room)) (W := 2) (rm_mk l Z a0 hw [] (p0 ^^^ p1) zc h30 n0 f35 S_COMPACT_STRINGS hp1) hZ22 (w_6 hw) (w_5 hw) (by decide) (by decide) hEL CH32.1 own_sf0) (g := (mkF mM 44 Ls27 [(.int (p0 ^^^ p1)), (.ref b30), (.ref b30)])) rfl (by rw [hml]; rfl) (argsL := [(.int (p0 ^^^ p1))]) (rest := [(.ref b30), (.ref b30)]) (lenOf pd_5 rfl) rfl (by show 2 * 0 + _ ≤ _; exact Nat.le_of_eq rfl) (hb hby at_44) (fun _ _ => ⟨rfl, e30, (by decide : 18 + 6 ≤ _), (by decide : 76 + 12 ≤ _)⟩)
    dsimp only [Pt.U, Pt.locs, Pt.cells, Pt.slots] at X36 l36 y36 z36 st36 hQ36 hS236 hg236 CHl36
    subst l36 y36 z36
    have hS36 := foldS hS22 (by rw [e30]; exact hk33) hS236 hg236
    have hZ36 : Z.Warmed39 (sS.setVm T36.vm).vm := State.Warmed39.trans (t := sS.setVm T22.vm) hZ22 hS236.1
    have hown36 : (sS.setVm T36.vm).vm.findClass "com/example/ullr/ullr/files/ListedLinkEqualsPinLaw" = some mM.cls := by rw [show (sS.setVm T36.vm).vm = T36.vm from rfl, hS236.1.alike.findClass]; exact hown22
    have hk36 : T36.heap.size ≤ T36.heap.size := Nat.le_refl _
    replace X36 : Stand pP l eE room_1 (sS.setVm T36.vm) mM _ below meth cC T36 _ _ _ := X36
    obtain ⟨b_36, t_36, k_36, rfl, Nq36, Kq36, q36_0, q36_1⟩ := hQ36
    have N36 := Fr.app N22 Nq36
    have g_b_36 : n0 ≤ b_36 := Nat.le_trans (own_osz f35) q36_0
    have sz_b_36 : h0.size ≤ b_36 := Nat.le_trans K34.1 q36_0
    have CH37 : CHr Z own_EL sS.vm h0 T36.vm T36.heap := CH32.trans (CHl36)
    skip
    have K39 : Keep h0 T36.heap [] := K34.trans Kq36 all0
    have f40 := (f35.keep Kq36 all0)
    obtain ⟨_, _, ⟨T41, L41, k41, n41⟩, -, X41, hS241, hg241, ⟨Lc41, hQ41, l41, y41, z41, CHl41⟩, st41⟩ := callSS X36 hx (y := (⟨"com/example/ullr/ullr/files/ListedLinkEqualsPinLaw", "mk", "(I)Ljava/lang/String;"⟩ : MethodName)) hown36 (mvT hZ36 (w_3 hw)) (mvT hZ36 (w_4 hw)) (mvT hZ36 (w_5 hw)) (mvT hZ36 (w_6 hw)) (by decide) (own_backOfSH (s := sS) (vm0 := T36.vm) (rm := ({ frames := 4, cells := 6, slots := 12, locals := 66 } : Room)) (W := 3) (rm_mk l Z a0 hw [] (p2 ^^^ p3) zc T36.heap n0 f40 S_COMPACT_STRINGS hp1) hZ36 (w_6 hw) (w_5 hw) (by decide) (by decide) hEL CH37.1 own_sf0) (g := (mkF mM 49 Ls27 [(.int (p2 ^^^ p3)), (.ref b_36), (.ref b30), (.ref b30)])) rfl (by rw [hml]; rfl) (argsL := [(.int (p2 ^^^ p3))]) (rest := [(.ref b_36), (.ref b30), (.ref b30)]) (lenOf pd_5 rfl) rfl (by show 2 * 0 + _ ≤ _; exact Nat.le_of_eq rfl) (hb hby at_49) (fun _ _ => ⟨rfl, rfl, (by decide : 24 + 6 ≤ _), (by decide : 88 + 12 ≤ _)⟩)
    dsimp only [Pt.U, Pt.locs, Pt.cells, Pt.slots] at X41 l41 y41 z41 st41 hQ41 hS241 hg241 CHl41
    subst l41 y41 z41
    have hS41 := foldS hS36 (hk36) hS241 hg241
    have hZ41 : Z.Warmed39 (sS.setVm T41.vm).vm := State.Warmed39.trans (t := sS.setVm T36.vm) hZ36 hS241.1
    have hown41 : (sS.setVm T41.vm).vm.findClass "com/example/ullr/ullr/files/ListedLinkEqualsPinLaw" = some mM.cls := by rw [show (sS.setVm T41.vm).vm = T41.vm from rfl, hS241.1.alike.findClass]; exact hown36
    have hk41 : T41.heap.size ≤ T41.heap.size := Nat.le_refl _
    replace X41 : Stand pP l eE room_1 (sS.setVm T41.vm) mM _ below meth cC T41 _ _ _ := X41
    obtain ⟨b_41, t_41, k_41, rfl, Nq41, Kq41, q41_0, q41_1⟩ := hQ41
    have N41 := Fr.app N36 Nq41
    have g_b_41 : n0 ≤ b_41 := Nat.le_trans (own_osz f40) q41_0
    have sz_b_41 : h0.size ≤ b_41 := Nat.le_trans K39.1 q41_0
    have CH42 : CHr Z own_EL sS.vm h0 T41.vm T41.heap := CH37.trans (CHl41)
    skip
    have K44 : Keep h0 T41.heap [] := K39.trans Kq41 all0
    have f45 := ((A30.keep Kq36).keep Kq41)
    have f46 := ((F_b30__path.keep Kq36 nin0).keep Kq41 nin0)
    have f47 := ((F_b30__target.keep Kq36 nin0).keep Kq41 nin0)
    have f48 := ((q36_1).1.keep Kq41)
    have f49 := (f40.keep Kq41 all0)
    obtain ⟨_, _, ⟨T50, L50, k50, n50⟩, -, X50, hS250, hg250, ⟨Lc50, hQ50, l50, y50, z50, CHl50⟩, st50⟩ := X41.specialBackS hx (y := (⟨"com/example/ullr/ullr/files/ListedLink", "<init>", "(Ljava/lang/String;Ljava/lang/String;)V"⟩ : MethodName)) rfl hown41 (mvT hZ41 (w_43 hw)) (mvT hZ41 (w_44 hw)) (mvT hZ41 (w_45 hw)) (by decide) (own_backOfSH (s := sS) (vm0 := T41.vm) (rm := ({ frames := 1, cells := 4, slots := 48, locals := 14 } : Room)) (W := 1) (rm_lini l Z a0 hw [] b30 b_36 b_41 .null .null T41.heap n0 f49 f45 f46 f47 g_b30 f48 (q41_1).1) hZ41 (w_45 hw) (w_2 hw) (by decide) (by decide) hEL CH42.1 own_sf0) (g := (mkF mM 52 Ls27 [(.ref b_41), (.ref b_36), (.ref b30), (.ref b30)])) rfl (by rw [hml]; rfl) (Steps.refl _) (a := b30) (argsL := [(.ref b_36), (.ref b_41)]) (rest := [(.ref b30)]) (lenOf pd_6 rfl) rfl (by show 2 * 0 + _ ≤ _; exact Nat.le_of_eq rfl) (hb hby at_52) (fun _ _ => ⟨rfl, rfl, (by decide : 30 + 4 ≤ _), (by decide : 100 + 48 ≤ _)⟩)
    dsimp only [Pt.U, Pt.locs, Pt.cells, Pt.slots] at X50 l50 y50 z50 st50 hQ50 hS250 hg250 CHl50
    subst l50 y50 z50
    have hS50 := foldS hS41 (hk41) hS250 hg250
    have hZ50 : Z.Warmed39 (sS.setVm T50.vm).vm := State.Warmed39.trans (t := sS.setVm T41.vm) hZ41 hS250.1
    have hown50 : (sS.setVm T50.vm).vm.findClass "com/example/ullr/ullr/files/ListedLinkEqualsPinLaw" = some mM.cls := by rw [show (sS.setVm T50.vm).vm = T50.vm from rfl, hS250.1.alike.findClass]; exact hown41
    have hk50 : T50.heap.size ≤ T50.heap.size := Nat.le_refl _
    replace X50 : Stand pP l eE room_1 (sS.setVm T50.vm) mM _ below meth cC T50 _ _ _ := X50
    obtain ⟨rfl, Nq50, Kq50, q50_0, q50_1, q50_2⟩ := hQ50
    have N50 := Fr.app N41 Nq50
    have CH51 : CHr Z own_EL sS.vm h0 T50.vm T50.heap := CH42.trans (CHl50)
    skip
    have K53 : Keep h0 T50.heap [] := K44.trans Kq50 (allS (Or.inr sz_b30) all0)
    let Ls54 : Array Slot := #[.val (.int p0), .val (.int p1), .val (.int p2), .val (.int p3), .val (.int p4), .val (.int (p0 ^^^ p1)), .val (.int (p2 ^^^ p3)), .val (.ref b3), .val (.int (p4 &&& (3 : Int32))), .val (.ref b30), .unset]
    have f55 := (f49.keep Kq50 (allS g_b30 all0))
    obtain ⟨_, _, ⟨T56, L56, k56, n56⟩, -, X56, ⟨Lc56, hQ56, l56, y56, z56⟩, st56⟩ := Jvm.LawKit.callS X50 hx (y := (⟨"com/example/ullr/ullr/files/ListedLinkEqualsPinLaw", "same", "(II)Z"⟩ : MethodName)) hown50 (mvT hZ50 (w_58 hw)) (mvT hZ50 (w_59 hw)) (mvT hZ50 (w_5 hw)) (mvT hZ50 (w_60 hw)) (by decide) (backOf (W := 0) (rm_sam l Z a0 hw [] p0 (p0 ^^^ p1) T50.heap n0 f55 ) hZ50 (w_60 hw) (w_5 hw) (by decide) (by decide)) (g := (mkF mM 60 Ls54 [(.int (p0 ^^^ p1)), (.int p0)])) rfl (by rw [hml]; rfl) (argsL := [(.int p0), (.int (p0 ^^^ p1))]) (rest := []) (lenOf pd_7 rfl) rfl (by show 2 * 0 + _ ≤ _; exact Nat.le_of_eq rfl) (hb hby at_60) (fun _ _ => ⟨rfl, rfl, (by decide : 34 + 0 ≤ _), (by decide : 148 + 0 ≤ _)⟩)
    dsimp only [Pt.U, Pt.locs, Pt.cells, Pt.slots] at X56 l56 y56 z56 st56 hQ56
    subst l56 y56 z56
    obtain ⟨rfl, rfl, Kq56⟩ := hQ56
    try rw [List.append_nil] at X56
    have pre58 : ∀ tg, Steps pP.tables eE below (T56.setTop (mkF mM 63 Ls54 [(.int (own_same p0 (p0 ^^^ p1)))])) tg → Steps pP.tables eE below (s₁.setTop (entryFrame mM #[(.int p0), (.int p1), (.int p2), (.int p3), (.int p4)] maxLocals)) tg := fun tg kg => pre29 tg (by
      refine XS.ifNo X22.here hx rfl (hb hby at_35) rfl ((if0 _ _).trans (teq hc28).2) ?_
      show Steps pP.tables eE below (T22.setTop (mkF mM 38 Ls27 [])) _
      refine st30 _ ?_
      show Steps pP.tables eE below (T30.setTop (mkF mM 41 Ls27 [(.ref b30)])) _
      refine XS.dup X30.here hx rfl (hb hby at_41) rfl rfl ?_
      show Steps pP.tables eE below (T30.setTop (mkF mM 42 Ls27 [(.ref b30), (.ref b30)])) _
      refine XS.iload X30.here hx rfl (hb hby at_42) rfl ?_
      show Steps pP.tables eE below (T30.setTop (mkF mM 44 Ls27 [(.int (p0 ^^^ p1)), (.ref b30), (.ref b30)])) _
      refine st36.trans ?_
      show Steps pP.tables eE below (T36.setTop (mkF mM 47 Ls27 [(.ref b_36), (.ref b30), (.ref b30)])) _
      refine XS.iload X36.here hx rfl (hb hby at_47) rfl ?_
      show Steps pP.tables eE below (T36.setTop (mkF mM 49 Ls27 [(.int (p2 ^^^ p3)), (.ref b_36), (.ref b30), (.ref b30)])) _
      refine st41.trans ?_
      show Steps pP.tables eE below (T41.setTop (mkF mM 52 Ls27 [(.ref b_41), (.ref b_36), (.ref b30), (.ref b30)])) _
      refine st50.trans ?_
      show Steps pP.tables eE below (T50.setTop (mkF mM 55 Ls27 [(.ref b30)])) _
      refine XS.astore X50.here hx rfl (hb hby at_55) rfl rfl (l' := Ls54) rfl ?_
      show Steps pP.tables eE below (T50.setTop (mkF mM 57 Ls54 [])) _
      refine XS.iloadN X50.here hx rfl (hb hby at_57) rfl ?_
      show Steps pP.tables eE below (T50.setTop (mkF mM 58 Ls54 [(.int p0)])) _
      refine XS.iload X50.here hx rfl (hb hby at_58) rfl ?_
      show Steps pP.tables eE below (T50.setTop (mkF mM 60 Ls54 [(.int (p0 ^^^ p1)), (.int p0)])) _
      refine st56 _ ?_
      exact kg)
    by_cases hc57 : (own_same p0 (p0 ^^^ p1)) = (0 : Int32)
    · let Ls59 : Array Slot := #[.val (.int p0), .val (.int p1), .val (.int p2), .val (.int p3), .val (.int p4), .val (.int (p0 ^^^ p1)), .val (.int (p2 ^^^ p3)), .val (.ref b3), .val (.int (p4 &&& (3 : Int32))), .val (.ref b30), .val (.int (0 : Int32))]
      have f60 := ((((q22_1.ext E30).keep Kq36 nin0).keep Kq41 nin0).keep Kq50 (ninS (Nat.ne_of_lt (Nat.lt_of_lt_of_le (q22_0).lt (Nat.le_of_eq g30.symm))) nin0))
      have f61 := ((((q22_2.ext E30).keep Kq36 nin0).keep Kq41 nin0).keep Kq50 (ninS (Nat.ne_of_lt (Nat.lt_of_lt_of_le (q22_0).lt (Nat.le_of_eq g30.symm))) nin0))
      have f62 := (((((f20.keep Kq22).ext E30).keep Kq36).keep Kq41).keep Kq50)
      have f63 := (((((((q8_1).2.1.keep Kq13 nin0).keep Kq22 (ninS (Ne.symm (Nat.ne_of_lt (Nat.lt_of_lt_of_le (A3).lt q8_0))) nin0)).ext E30).keep Kq36 nin0).keep Kq41 nin0).keep Kq50 (ninS (Nat.ne_of_lt (Nat.lt_of_lt_of_le (Nat.lt_of_lt_of_le (Nat.lt_of_lt_of_le ((q8_1).1).lt Kq13.1) Kq22.1) (Nat.le_of_eq g30.symm))) nin0))
      have f64 := (((((((q8_1).2.2.1.keep Kq13 nin0).keep Kq22 (ninS (Ne.symm (Nat.ne_of_lt (Nat.lt_of_lt_of_le (A3).lt q8_0))) nin0)).ext E30).keep Kq36 nin0).keep Kq41 nin0).keep Kq50 (ninS (Nat.ne_of_lt (Nat.lt_of_lt_of_le (Nat.lt_of_lt_of_le (Nat.lt_of_lt_of_le ((q8_1).1).lt Kq13.1) Kq22.1) (Nat.le_of_eq g30.symm))) nin0))
      have f65 := ((q8_1).2.2.2.1.keep Kq13 nin0)
      have f66 := (((((((q8_1).2.2.2.1.keep Kq13 nin0).keep Kq22 (ninS (Ne.symm (Exa.neArv f17 f65 (w_1 hw))) nin0)).ext E30).keep Kq36 nin0).keep Kq41 nin0).keep Kq50 (ninS (Nat.ne_of_lt (Nat.lt_of_lt_of_le (Nat.lt_of_lt_of_le (Nat.lt_of_lt_of_le ((q8_1).2.2.2.1).lt Kq13.1) Kq22.1) (Nat.le_of_eq g30.symm))) nin0))
      have f67 := (f48.keep Kq50)
      have f68 := (((q36_1).2.1.keep Kq41 nin0).keep Kq50 (ninS (Ne.symm (Nat.ne_of_lt (Nat.lt_of_lt_of_le (A30).lt q36_0))) nin0))
      have f69 := (((q36_1).2.2.1.keep Kq41 nin0).keep Kq50 (ninS (Ne.symm (Nat.ne_of_lt (Nat.lt_of_lt_of_le (A30).lt q36_0))) nin0))
      have f70 := ((q36_1).2.2.2.1.keep Kq41 nin0)
      have f71 := (((q36_1).2.2.2.1.keep Kq41 nin0).keep Kq50 (ninS (Ne.symm (Exa.neArv f45 f70 (w_1 hw))) nin0))
      have f72 := ((((((q13_1).1.keep Kq22).ext E30).keep Kq36).keep Kq41).keep Kq50)
      have f73 := ((((((q13_1).2.1.keep Kq22 (ninS (Ne.symm (Nat.ne_of_lt (Nat.lt_of_lt_of_le (Nat.lt_of_lt_of_le (A3).lt Kq8.1) q13_0))) nin0)).ext E30).keep Kq36 nin0).keep Kq41 nin0).keep Kq50 (ninS (Nat.ne_of_lt (Nat.lt_of_lt_of_le (Nat.lt_of_lt_of_le ((q13_1).1).lt Kq22.1) (Nat.le_of_eq g30.symm))) nin0))
      have f74 := ((((((q13_1).2.2.1.keep Kq22 (ninS (Ne.symm (Nat.ne_of_lt (Nat.lt_of_lt_of_le (Nat.lt_of_lt_of_le (A3).lt Kq8.1) q13_0))) nin0)).ext E30).keep Kq36 nin0).keep Kq41 nin0).keep Kq50 (ninS (Nat.ne_of_lt (Nat.lt_of_lt_of_le (Nat.lt_of_lt_of_le ((q13_1).1).lt Kq22.1) (Nat.le_of_eq g30.symm))) nin0))
      have f75 := ((((((q13_1).2.2.2.1.keep Kq22 (ninS (Ne.symm (Exa.neArv f17 (q13_1).2.2.2.1 (w_1 hw))) nin0)).ext E30).keep Kq36 nin0).keep Kq41 nin0).keep Kq50 (ninS (Nat.ne_of_lt (Nat.lt_of_lt_of_le (Nat.lt_of_lt_of_le ((q13_1).2.2.2.1).lt Kq22.1) (Nat.le_of_eq g30.symm))) nin0))
      have f76 := ((q41_1).1.keep Kq50)
      have f77 := ((q41_1).2.1.keep Kq50 (ninS (Ne.symm (Nat.ne_of_lt (Nat.lt_of_lt_of_le (Nat.lt_of_lt_of_le (A30).lt Kq36.1) q41_0))) nin0))
      have f78 := ((q41_1).2.2.1.keep Kq50 (ninS (Ne.symm (Nat.ne_of_lt (Nat.lt_of_lt_of_le (Nat.lt_of_lt_of_le (A30).lt Kq36.1) q41_0))) nin0))
      have f79 := ((q41_1).2.2.2.1.keep Kq50 (ninS (Ne.symm (Exa.neArv f45 (q41_1).2.2.2.1 (w_1 hw))) nin0))
      have f81 := ((((q22_0.ext E30).keep Kq36).keep Kq41).keep Kq50)
      obtain ⟨cq80, kq80, q80a, q80b, q80c⟩ := isOf hZ50 Kq56 f81
      obtain ⟨_, _, ⟨T80, L80, k80, n80⟩, -, X80, ⟨Lc80, hQ80, l80, y80, z80⟩, st80⟩ := X56.virtualBack hx (y := (⟨"com/example/ullr/ullr/files/ListedLink", "equals", "(Ljava/lang/Object;)Z"⟩ : MethodName)) (z := (⟨"com/example/ullr/ullr/files/ListedLink", "equals", "(Ljava/lang/Object;)Z"⟩ : MethodName)) hown50 (mvT hZ50 (w_61 hw)) (mvT hZ50 (w_62 hw)) (notFace_of_selects (args := #[]) (mvT hZ50 (w_64 hw))) (mvT hZ50 (w_64 hw)) (mvT hZ50 (w_63 hw)) (by decide) (backOf (W := 0) (rm_eqL l Z a0 hw [] b3 b30 b_8 t_8 k_8 (own_mk p0) b_36 t_36 k_36 (own_mk (p0 ^^^ p1)) b_13 t_13 k_13 (own_mk p2) b_41 t_41 k_41 (own_mk (p2 ^^^ p3)) zc T50.heap n0 f55 q50_0 f60 q50_1 f61 q50_2 (⟨f62, f63, f64, f66, (q8_1).2.2.2.2⟩ : own_Str Z T50.heap b_8 t_8 k_8 (own_mk p0)) (⟨f67, f68, f69, f71, (q36_1).2.2.2.2⟩ : own_Str Z T50.heap b_36 t_36 k_36 (own_mk (p0 ^^^ p1))) (⟨f72, f73, f74, f75, (q13_1).2.2.2.2⟩ : own_Str Z T50.heap b_13 t_13 k_13 (own_mk p2)) (⟨f76, f77, f78, f79, (q41_1).2.2.2.2⟩ : own_Str Z T50.heap b_41 t_41 k_41 (own_mk (p2 ^^^ p3))) S_COMPACT_STRINGS hp1) hZ50 (w_65 hw) (w_2 hw) (by decide) (by decide)) q80a q80c (g := (mkF mM 86 Ls59 [(.ref b30), (.ref b3)])) rfl (by rw [hml]; rfl) (Steps.refl _) (argsL := [(.ref b30)]) (rest := []) (lenOf pd_4 rfl) rfl (by show 2 * 0 + _ ≤ _; exact Nat.le_of_eq rfl) (hb hby at_86) (fun _ _ => ⟨rfl, Kq56, (by decide : 34 + 0 ≤ _), (by decide : 148 + 0 ≤ _)⟩)
      dsimp only [Pt.U, Pt.locs, Pt.cells, Pt.slots] at X80 l80 y80 z80 st80 hQ80
      subst l80 y80 z80
      obtain ⟨rfl, rfl, Kq80⟩ := hQ80
      try rw [List.append_nil] at X80
      obtain ⟨cq82, kq82, q82a, q82b, q82c⟩ := isOf hZ50 Kq80 q50_0
      obtain ⟨_, _, ⟨T82, L82, k82, n82⟩, -, X82, ⟨Lc82, hQ82, l82, y82, z82⟩, st82⟩ := X80.virtualBack hx (y := (⟨"com/example/ullr/ullr/files/ListedLink", "equals", "(Ljava/lang/Object;)Z"⟩ : MethodName)) (z := (⟨"com/example/ullr/ullr/files/ListedLink", "equals", "(Ljava/lang/Object;)Z"⟩ : MethodName)) hown50 (mvT hZ50 (w_61 hw)) (mvT hZ50 (w_62 hw)) (notFace_of_selects (args := #[]) (mvT hZ50 (w_64 hw))) (mvT hZ50 (w_64 hw)) (mvT hZ50 (w_63 hw)) (by decide) (backOf (W := 0) (rm_eqL l Z a0 hw [] b30 b3 b_36 t_36 k_36 (own_mk (p0 ^^^ p1)) b_8 t_8 k_8 (own_mk p0) b_41 t_41 k_41 (own_mk (p2 ^^^ p3)) b_13 t_13 k_13 (own_mk p2) zc T50.heap n0 f55 f81 q50_1 f60 q50_2 f61 (⟨f67, f68, f69, f71, (q36_1).2.2.2.2⟩ : own_Str Z T50.heap b_36 t_36 k_36 (own_mk (p0 ^^^ p1))) (⟨f62, f63, f64, f66, (q8_1).2.2.2.2⟩ : own_Str Z T50.heap b_8 t_8 k_8 (own_mk p0)) (⟨f76, f77, f78, f79, (q41_1).2.2.2.2⟩ : own_Str Z T50.heap b_41 t_41 k_41 (own_mk (p2 ^^^ p3))) (⟨f72, f73, f74, f75, (q13_1).2.2.2.2⟩ : own_Str Z T50.heap b_13 t_13 k_13 (own_mk p2)) S_COMPACT_STRINGS hp1) hZ50 (w_65 hw) (w_2 hw) (by decide) (by decide)) q82a q82c (g := (mkF mM 98 Ls59 [(.ref b3), (.ref b30)])) rfl (by rw [hml]; rfl) (Steps.refl _) (argsL := [(.ref b3)]) (rest := []) (lenOf pd_4 rfl) rfl (by show 2 * 0 + _ ≤ _; exact Nat.le_of_eq rfl) (hb hby at_98) (fun _ _ => ⟨rfl, Kq80, (by decide : 34 + 0 ≤ _), (by decide : 148 + 0 ≤ _)⟩)
      dsimp only [Pt.U, Pt.locs, Pt.cells, Pt.slots] at X82 l82 y82 z82 st82 hQ82
      subst l82 y82 z82
      obtain ⟨rfl, rfl, Kq82⟩ := hQ82
      try rw [List.append_nil] at X82
      obtain ⟨fs, hr, hrun, hended, hR1, hR2, hR3, hR4⟩ := Stand.leaveW (s := sS) (vm₁ := T50.vm) X82 hS50 (by rw [Kq82]; exact hk50) (v := some (.int (1 : Int32))) (fun h => by rw [Bd.returns] at h; cases h)
      refine ⟨_, _, pre58 _ ?_, hrun, hended, _, _, rfl, ?_, ?_, hR1, hR2, hR3, hR4.mono (by decide) (by decide)⟩
      · refine XS.ifYes X56.here hx rfl (pc0 := 63) (pc' := 79) rfl (hb hby at_63) rfl ((if0 _ _).trans (teq hc57).1) (by decide) (by decide) ?_
        show Steps pP.tables eE below (T56.setTop (mkF mM 79 Ls54 [])) _
        refine XS.iconst X56.here hx rfl (hb hby at_79) ?_
        show Steps pP.tables eE below (T56.setTop (mkF mM 80 Ls54 [(.int (0 : Int32))])) _
        refine XS.istore X56.here hx rfl (hb hby at_80) rfl (l' := Ls59) rfl ?_
        show Steps pP.tables eE below (T56.setTop (mkF mM 82 Ls59 [])) _
        refine XS.aload X56.here hx rfl (hb hby at_82) rfl rfl ?_
        show Steps pP.tables eE below (T56.setTop (mkF mM 84 Ls59 [(.ref b3)])) _
        refine XS.aload X56.here hx rfl (hb hby at_84) rfl rfl ?_
        show Steps pP.tables eE below (T56.setTop (mkF mM 86 Ls59 [(.ref b30), (.ref b3)])) _
        refine st80.trans ?_
        show Steps pP.tables eE below (T80.setTop (mkF mM 89 Ls59 [(.int (own_leq (own_mk p0) (own_mk (p0 ^^^ p1)) (own_mk p2) (own_mk (p2 ^^^ p3))))])) _
        refine XS.iload X80.here hx rfl (hb hby at_89) rfl ?_
        show Steps pP.tables eE below (T80.setTop (mkF mM 91 Ls59 [(.int (0 : Int32)), (.int (own_leq (own_mk p0) (own_mk (p0 ^^^ p1)) (own_mk p2) (own_mk (p2 ^^^ p3))))])) _
        refine XS.icmpNo X80.here hx rfl (hb hby at_91) rfl (teq (by rw [own_leq_eq, if_neg (fun z => own_sm0 hc57 z.1)])).2 ?_
        show Steps pP.tables eE below (T80.setTop (mkF mM 94 Ls59 [])) _
        refine XS.aload X80.here hx rfl (hb hby at_94) rfl rfl ?_
        show Steps pP.tables eE below (T80.setTop (mkF mM 96 Ls59 [(.ref b30)])) _
        refine XS.aload X80.here hx rfl (hb hby at_96) rfl rfl ?_
        show Steps pP.tables eE below (T80.setTop (mkF mM 98 Ls59 [(.ref b3), (.ref b30)])) _
        refine st82.trans ?_
        show Steps pP.tables eE below (T82.setTop (mkF mM 101 Ls59 [(.int (own_leq (own_mk (p0 ^^^ p1)) (own_mk p0) (own_mk (p2 ^^^ p3)) (own_mk p2)))])) _
        refine XS.iload X82.here hx rfl (hb hby at_101) rfl ?_
        show Steps pP.tables eE below (T82.setTop (mkF mM 103 Ls59 [(.int (0 : Int32)), (.int (own_leq (own_mk (p0 ^^^ p1)) (own_mk p0) (own_mk (p2 ^^^ p3)) (own_mk p2)))])) _
        refine XS.icmpNo X82.here hx rfl (hb hby at_103) rfl (teq (by rw [own_leq_eq, if_neg (fun z => own_sm0 hc57 z.1.symm)])).2 ?_
        show Steps pP.tables eE below (T82.setTop (mkF mM 106 Ls59 [])) _
        refine XS.iconst X82.here hx rfl (hb hby at_106) ?_
        show Steps pP.tables eE below (T82.setTop (mkF mM 107 Ls59 [(.int (1 : Int32))])) _
        refine XS.goto X82.here hx rfl (pc0 := 107) (pc' := 111) rfl (hb hby at_107) (by decide) (by decide) ?_
        show Steps pP.tables eE below (T82.setTop (mkF mM 111 Ls59 [(.int (1 : Int32))])) _
        exact retN X82 hx (t := .boolean) Bd.returns (by simp) (hb hby at_111) hr
      · show Q_law Z p0 p1 p2 p3 p4 zc fm h0 n0 _ T82.heap _
        rw [Kq82]
        exact ⟨rfl, N50, K53⟩
      · show CHr Z own_EL sS.vm sS.heap T82.vm T82.heap
        rw [hh, Kq82]
        exact CH51.trans (CHv.at X82 hZ50 hEL CH51.1)
    · obtain ⟨_, _, ⟨T84, L84, k84, n84⟩, -, X84, ⟨Lc84, hQ84, l84, y84, z84⟩, st84⟩ := Jvm.LawKit.callS X56 hx (y := (⟨"com/example/ullr/ullr/files/ListedLinkEqualsPinLaw", "same", "(II)Z"⟩ : MethodName)) hown50 (mvT hZ50 (w_58 hw)) (mvT hZ50 (w_59 hw)) (mvT hZ50 (w_5 hw)) (mvT hZ50 (w_60 hw)) (by decide) (backOf (W := 0) (rm_sam l Z a0 hw [] p2 (p2 ^^^ p3) T50.heap n0 f55 ) hZ50 (w_60 hw) (w_5 hw) (by decide) (by decide)) (g := (mkF mM 69 Ls54 [(.int (p2 ^^^ p3)), (.int p2)])) rfl (by rw [hml]; rfl) (argsL := [(.int p2), (.int (p2 ^^^ p3))]) (rest := []) (lenOf pd_7 rfl) rfl (by show 2 * 0 + _ ≤ _; exact Nat.le_of_eq rfl) (hb hby at_69) (fun _ _ => ⟨rfl, Kq56, (by decide : 34 + 0 ≤ _), (by decide : 148 + 0 ≤ _)⟩)
      dsimp only [Pt.U, Pt.locs, Pt.cells, Pt.slots] at X84 l84 y84 z84 st84 hQ84
      subst l84 y84 z84
      obtain ⟨rfl, rfl, Kq84⟩ := hQ84
      try rw [List.append_nil] at X84
      have pre86 : ∀ tg, Steps pP.tables eE below (T84.setTop (mkF mM 72 Ls54 [(.int (own_same p2 (p2 ^^^ p3)))])) tg → Steps pP.tables eE below (s₁.setTop (entryFrame mM #[(.int p0), (.int p1), (.int p2), (.int p3), (.int p4)] maxLocals)) tg := fun tg kg => pre58 tg (by
        refine XS.ifNo X56.here hx rfl (hb hby at_63) rfl ((if0 _ _).trans (feq hc57).1) ?_
        show Steps pP.tables eE below (T56.setTop (mkF mM 66 Ls54 [])) _
        refine XS.iloadN X56.here hx rfl (hb hby at_66) rfl ?_
        show Steps pP.tables eE below (T56.setTop (mkF mM 67 Ls54 [(.int p2)])) _
        refine XS.iload X56.here hx rfl (hb hby at_67) rfl ?_
        show Steps pP.tables eE below (T56.setTop (mkF mM 69 Ls54 [(.int (p2 ^^^ p3)), (.int p2)])) _
        refine st84 _ ?_
        exact kg)
      by_cases hc85 : (own_same p2 (p2 ^^^ p3)) = (0 : Int32)
      · let Ls87 : Array Slot := #[.val (.int p0), .val (.int p1), .val (.int p2), .val (.int p3), .val (.int p4), .val (.int (p0 ^^^ p1)), .val (.int (p2 ^^^ p3)), .val (.ref b3), .val (.int (p4 &&& (3 : Int32))), .val (.ref b30), .val (.int (0 : Int32))]
        have f88 := ((((q22_1.ext E30).keep Kq36 nin0).keep Kq41 nin0).keep Kq50 (ninS (Nat.ne_of_lt (Nat.lt_of_lt_of_le (q22_0).lt (Nat.le_of_eq g30.symm))) nin0))
        have f89 := ((((q22_2.ext E30).keep Kq36 nin0).keep Kq41 nin0).keep Kq50 (ninS (Nat.ne_of_lt (Nat.lt_of_lt_of_le (q22_0).lt (Nat.le_of_eq g30.symm))) nin0))
        have f90 := (((((f20.keep Kq22).ext E30).keep Kq36).keep Kq41).keep Kq50)
        have f91 := (((((((q8_1).2.1.keep Kq13 nin0).keep Kq22 (ninS (Ne.symm (Nat.ne_of_lt (Nat.lt_of_lt_of_le (A3).lt q8_0))) nin0)).ext E30).keep Kq36 nin0).keep Kq41 nin0).keep Kq50 (ninS (Nat.ne_of_lt (Nat.lt_of_lt_of_le (Nat.lt_of_lt_of_le (Nat.lt_of_lt_of_le ((q8_1).1).lt Kq13.1) Kq22.1) (Nat.le_of_eq g30.symm))) nin0))
        have f92 := (((((((q8_1).2.2.1.keep Kq13 nin0).keep Kq22 (ninS (Ne.symm (Nat.ne_of_lt (Nat.lt_of_lt_of_le (A3).lt q8_0))) nin0)).ext E30).keep Kq36 nin0).keep Kq41 nin0).keep Kq50 (ninS (Nat.ne_of_lt (Nat.lt_of_lt_of_le (Nat.lt_of_lt_of_le (Nat.lt_of_lt_of_le ((q8_1).1).lt Kq13.1) Kq22.1) (Nat.le_of_eq g30.symm))) nin0))
        have f93 := ((q8_1).2.2.2.1.keep Kq13 nin0)
        have f94 := (((((((q8_1).2.2.2.1.keep Kq13 nin0).keep Kq22 (ninS (Ne.symm (Exa.neArv f17 f93 (w_1 hw))) nin0)).ext E30).keep Kq36 nin0).keep Kq41 nin0).keep Kq50 (ninS (Nat.ne_of_lt (Nat.lt_of_lt_of_le (Nat.lt_of_lt_of_le (Nat.lt_of_lt_of_le ((q8_1).2.2.2.1).lt Kq13.1) Kq22.1) (Nat.le_of_eq g30.symm))) nin0))
        have f95 := (f48.keep Kq50)
        have f96 := (((q36_1).2.1.keep Kq41 nin0).keep Kq50 (ninS (Ne.symm (Nat.ne_of_lt (Nat.lt_of_lt_of_le (A30).lt q36_0))) nin0))
        have f97 := (((q36_1).2.2.1.keep Kq41 nin0).keep Kq50 (ninS (Ne.symm (Nat.ne_of_lt (Nat.lt_of_lt_of_le (A30).lt q36_0))) nin0))
        have f98 := ((q36_1).2.2.2.1.keep Kq41 nin0)
        have f99 := (((q36_1).2.2.2.1.keep Kq41 nin0).keep Kq50 (ninS (Ne.symm (Exa.neArv f45 f98 (w_1 hw))) nin0))
        have f100 := ((((((q13_1).1.keep Kq22).ext E30).keep Kq36).keep Kq41).keep Kq50)
        have f101 := ((((((q13_1).2.1.keep Kq22 (ninS (Ne.symm (Nat.ne_of_lt (Nat.lt_of_lt_of_le (Nat.lt_of_lt_of_le (A3).lt Kq8.1) q13_0))) nin0)).ext E30).keep Kq36 nin0).keep Kq41 nin0).keep Kq50 (ninS (Nat.ne_of_lt (Nat.lt_of_lt_of_le (Nat.lt_of_lt_of_le ((q13_1).1).lt Kq22.1) (Nat.le_of_eq g30.symm))) nin0))
        have f102 := ((((((q13_1).2.2.1.keep Kq22 (ninS (Ne.symm (Nat.ne_of_lt (Nat.lt_of_lt_of_le (Nat.lt_of_lt_of_le (A3).lt Kq8.1) q13_0))) nin0)).ext E30).keep Kq36 nin0).keep Kq41 nin0).keep Kq50 (ninS (Nat.ne_of_lt (Nat.lt_of_lt_of_le (Nat.lt_of_lt_of_le ((q13_1).1).lt Kq22.1) (Nat.le_of_eq g30.symm))) nin0))
        have f103 := ((((((q13_1).2.2.2.1.keep Kq22 (ninS (Ne.symm (Exa.neArv f17 (q13_1).2.2.2.1 (w_1 hw))) nin0)).ext E30).keep Kq36 nin0).keep Kq41 nin0).keep Kq50 (ninS (Nat.ne_of_lt (Nat.lt_of_lt_of_le (Nat.lt_of_lt_of_le ((q13_1).2.2.2.1).lt Kq22.1) (Nat.le_of_eq g30.symm))) nin0))
        have f104 := ((q41_1).1.keep Kq50)
        have f105 := ((q41_1).2.1.keep Kq50 (ninS (Ne.symm (Nat.ne_of_lt (Nat.lt_of_lt_of_le (Nat.lt_of_lt_of_le (A30).lt Kq36.1) q41_0))) nin0))
        have f106 := ((q41_1).2.2.1.keep Kq50 (ninS (Ne.symm (Nat.ne_of_lt (Nat.lt_of_lt_of_le (Nat.lt_of_lt_of_le (A30).lt Kq36.1) q41_0))) nin0))
        have f107 := ((q41_1).2.2.2.1.keep Kq50 (ninS (Ne.symm (Exa.neArv f45 (q41_1).2.2.2.1 (w_1 hw))) nin0))
        have f109 := ((((q22_0.ext E30).keep Kq36).keep Kq41).keep Kq50)
        obtain ⟨cq108, kq108, q108a, q108b, q108c⟩ := isOf hZ50 Kq84 f109
        obtain ⟨_, _, ⟨T108, L108, k108, n108⟩, -, X108, ⟨Lc108, hQ108, l108, y108, z108⟩, st108⟩ := X84.virtualBack hx (y := (⟨"com/example/ullr/ullr/files/ListedLink", "equals", "(Ljava/lang/Object;)Z"⟩ : MethodName)) (z := (⟨"com/example/ullr/ullr/files/ListedLink", "equals", "(Ljava/lang/Object;)Z"⟩ : MethodName)) hown50 (mvT hZ50 (w_61 hw)) (mvT hZ50 (w_62 hw)) (notFace_of_selects (args := #[]) (mvT hZ50 (w_64 hw))) (mvT hZ50 (w_64 hw)) (mvT hZ50 (w_63 hw)) (by decide) (backOf (W := 0) (rm_eqL l Z a0 hw [] b3 b30 b_8 t_8 k_8 (own_mk p0) b_36 t_36 k_36 (own_mk (p0 ^^^ p1)) b_13 t_13 k_13 (own_mk p2) b_41 t_41 k_41 (own_mk (p2 ^^^ p3)) zc T50.heap n0 f55 q50_0 f88 q50_1 f89 q50_2 (⟨f90, f91, f92, f94, (q8_1).2.2.2.2⟩ : own_Str Z T50.heap b_8 t_8 k_8 (own_mk p0)) (⟨f95, f96, f97, f99, (q36_1).2.2.2.2⟩ : own_Str Z T50.heap b_36 t_36 k_36 (own_mk (p0 ^^^ p1))) (⟨f100, f101, f102, f103, (q13_1).2.2.2.2⟩ : own_Str Z T50.heap b_13 t_13 k_13 (own_mk p2)) (⟨f104, f105, f106, f107, (q41_1).2.2.2.2⟩ : own_Str Z T50.heap b_41 t_41 k_41 (own_mk (p2 ^^^ p3))) S_COMPACT_STRINGS hp1) hZ50 (w_65 hw) (w_2 hw) (by decide) (by decide)) q108a q108c (g := (mkF mM 86 Ls87 [(.ref b30), (.ref b3)])) rfl (by rw [hml]; rfl) (Steps.refl _) (argsL := [(.ref b30)]) (rest := []) (lenOf pd_4 rfl) rfl (by show 2 * 0 + _ ≤ _; exact Nat.le_of_eq rfl) (hb hby at_86) (fun _ _ => ⟨rfl, Kq84, (by decide : 34 + 0 ≤ _), (by decide : 148 + 0 ≤ _)⟩)
        dsimp only [Pt.U, Pt.locs, Pt.cells, Pt.slots] at X108 l108 y108 z108 st108 hQ108
        subst l108 y108 z108
        obtain ⟨rfl, rfl, Kq108⟩ := hQ108
        try rw [List.append_nil] at X108
        obtain ⟨cq110, kq110, q110a, q110b, q110c⟩ := isOf hZ50 Kq108 q50_0
        obtain ⟨_, _, ⟨T110, L110, k110, n110⟩, -, X110, ⟨Lc110, hQ110, l110, y110, z110⟩, st110⟩ := X108.virtualBack hx (y := (⟨"com/example/ullr/ullr/files/ListedLink", "equals", "(Ljava/lang/Object;)Z"⟩ : MethodName)) (z := (⟨"com/example/ullr/ullr/files/ListedLink", "equals", "(Ljava/lang/Object;)Z"⟩ : MethodName)) hown50 (mvT hZ50 (w_61 hw)) (mvT hZ50 (w_62 hw)) (notFace_of_selects (args := #[]) (mvT hZ50 (w_64 hw))) (mvT hZ50 (w_64 hw)) (mvT hZ50 (w_63 hw)) (by decide) (backOf (W := 0) (rm_eqL l Z a0 hw [] b30 b3 b_36 t_36 k_36 (own_mk (p0 ^^^ p1)) b_8 t_8 k_8 (own_mk p0) b_41 t_41 k_41 (own_mk (p2 ^^^ p3)) b_13 t_13 k_13 (own_mk p2) zc T50.heap n0 f55 f109 q50_1 f88 q50_2 f89 (⟨f95, f96, f97, f99, (q36_1).2.2.2.2⟩ : own_Str Z T50.heap b_36 t_36 k_36 (own_mk (p0 ^^^ p1))) (⟨f90, f91, f92, f94, (q8_1).2.2.2.2⟩ : own_Str Z T50.heap b_8 t_8 k_8 (own_mk p0)) (⟨f104, f105, f106, f107, (q41_1).2.2.2.2⟩ : own_Str Z T50.heap b_41 t_41 k_41 (own_mk (p2 ^^^ p3))) (⟨f100, f101, f102, f103, (q13_1).2.2.2.2⟩ : own_Str Z T50.heap b_13 t_13 k_13 (own_mk p2)) S_COMPACT_STRINGS hp1) hZ50 (w_65 hw) (w_2 hw) (by decide) (by decide)) q110a q110c (g := (mkF mM 98 Ls87 [(.ref b3), (.ref b30)])) rfl (by rw [hml]; rfl) (Steps.refl _) (argsL := [(.ref b3)]) (rest := []) (lenOf pd_4 rfl) rfl (by show 2 * 0 + _ ≤ _; exact Nat.le_of_eq rfl) (hb hby at_98) (fun _ _ => ⟨rfl, Kq108, (by decide : 34 + 0 ≤ _), (by decide : 148 + 0 ≤ _)⟩)
        dsimp only [Pt.U, Pt.locs, Pt.cells, Pt.slots] at X110 l110 y110 z110 st110 hQ110
        subst l110 y110 z110
        obtain ⟨rfl, rfl, Kq110⟩ := hQ110
        try rw [List.append_nil] at X110
        obtain ⟨fs, hr, hrun, hended, hR1, hR2, hR3, hR4⟩ := Stand.leaveW (s := sS) (vm₁ := T50.vm) X110 hS50 (by rw [Kq110]; exact hk50) (v := some (.int (1 : Int32))) (fun h => by rw [Bd.returns] at h; cases h)
        refine ⟨_, _, pre86 _ ?_, hrun, hended, _, _, rfl, ?_, ?_, hR1, hR2, hR3, hR4.mono (by decide) (by decide)⟩
        · refine XS.ifYes X84.here hx rfl (pc0 := 72) (pc' := 79) rfl (hb hby at_72) rfl ((if0 _ _).trans (teq hc85).1) (by decide) (by decide) ?_
          show Steps pP.tables eE below (T84.setTop (mkF mM 79 Ls54 [])) _
          refine XS.iconst X84.here hx rfl (hb hby at_79) ?_
          show Steps pP.tables eE below (T84.setTop (mkF mM 80 Ls54 [(.int (0 : Int32))])) _
          refine XS.istore X84.here hx rfl (hb hby at_80) rfl (l' := Ls87) rfl ?_
          show Steps pP.tables eE below (T84.setTop (mkF mM 82 Ls87 [])) _
          refine XS.aload X84.here hx rfl (hb hby at_82) rfl rfl ?_
          show Steps pP.tables eE below (T84.setTop (mkF mM 84 Ls87 [(.ref b3)])) _
          refine XS.aload X84.here hx rfl (hb hby at_84) rfl rfl ?_
          show Steps pP.tables eE below (T84.setTop (mkF mM 86 Ls87 [(.ref b30), (.ref b3)])) _
          refine st108.trans ?_
          show Steps pP.tables eE below (T108.setTop (mkF mM 89 Ls87 [(.int (own_leq (own_mk p0) (own_mk (p0 ^^^ p1)) (own_mk p2) (own_mk (p2 ^^^ p3))))])) _
          refine XS.iload X108.here hx rfl (hb hby at_89) rfl ?_
          show Steps pP.tables eE below (T108.setTop (mkF mM 91 Ls87 [(.int (0 : Int32)), (.int (own_leq (own_mk p0) (own_mk (p0 ^^^ p1)) (own_mk p2) (own_mk (p2 ^^^ p3))))])) _
          refine XS.icmpNo X108.here hx rfl (hb hby at_91) rfl (teq (by rw [own_leq_eq, if_neg (fun z => own_sm0 hc85 z.2)])).2 ?_
          show Steps pP.tables eE below (T108.setTop (mkF mM 94 Ls87 [])) _
          refine XS.aload X108.here hx rfl (hb hby at_94) rfl rfl ?_
          show Steps pP.tables eE below (T108.setTop (mkF mM 96 Ls87 [(.ref b30)])) _
          refine XS.aload X108.here hx rfl (hb hby at_96) rfl rfl ?_
          show Steps pP.tables eE below (T108.setTop (mkF mM 98 Ls87 [(.ref b3), (.ref b30)])) _
          refine st110.trans ?_
          show Steps pP.tables eE below (T110.setTop (mkF mM 101 Ls87 [(.int (own_leq (own_mk (p0 ^^^ p1)) (own_mk p0) (own_mk (p2 ^^^ p3)) (own_mk p2)))])) _
          refine XS.iload X110.here hx rfl (hb hby at_101) rfl ?_
          show Steps pP.tables eE below (T110.setTop (mkF mM 103 Ls87 [(.int (0 : Int32)), (.int (own_leq (own_mk (p0 ^^^ p1)) (own_mk p0) (own_mk (p2 ^^^ p3)) (own_mk p2)))])) _
          refine XS.icmpNo X110.here hx rfl (hb hby at_103) rfl (teq (by rw [own_leq_eq, if_neg (fun z => own_sm0 hc85 z.2.symm)])).2 ?_
          show Steps pP.tables eE below (T110.setTop (mkF mM 106 Ls87 [])) _
          refine XS.iconst X110.here hx rfl (hb hby at_106) ?_
          show Steps pP.tables eE below (T110.setTop (mkF mM 107 Ls87 [(.int (1 : Int32))])) _
          refine XS.goto X110.here hx rfl (pc0 := 107) (pc' := 111) rfl (hb hby at_107) (by decide) (by decide) ?_
          show Steps pP.tables eE below (T110.setTop (mkF mM 111 Ls87 [(.int (1 : Int32))])) _
          exact retN X110 hx (t := .boolean) Bd.returns (by simp) (hb hby at_111) hr
        · show Q_law Z p0 p1 p2 p3 p4 zc fm h0 n0 _ T110.heap _
          rw [Kq110]
          exact ⟨rfl, N50, K53⟩
        · show CHr Z own_EL sS.vm sS.heap T110.vm T110.heap
          rw [hh, Kq110]
          exact CH51.trans (CHv.at X110 hZ50 hEL CH51.1)
      · let Ls112 : Array Slot := #[.val (.int p0), .val (.int p1), .val (.int p2), .val (.int p3), .val (.int p4), .val (.int (p0 ^^^ p1)), .val (.int (p2 ^^^ p3)), .val (.ref b3), .val (.int (p4 &&& (3 : Int32))), .val (.ref b30), .val (.int (1 : Int32))]
        have f113 := ((((q22_1.ext E30).keep Kq36 nin0).keep Kq41 nin0).keep Kq50 (ninS (Nat.ne_of_lt (Nat.lt_of_lt_of_le (q22_0).lt (Nat.le_of_eq g30.symm))) nin0))
        have f114 := ((((q22_2.ext E30).keep Kq36 nin0).keep Kq41 nin0).keep Kq50 (ninS (Nat.ne_of_lt (Nat.lt_of_lt_of_le (q22_0).lt (Nat.le_of_eq g30.symm))) nin0))
        have f115 := (((((f20.keep Kq22).ext E30).keep Kq36).keep Kq41).keep Kq50)
        have f116 := (((((((q8_1).2.1.keep Kq13 nin0).keep Kq22 (ninS (Ne.symm (Nat.ne_of_lt (Nat.lt_of_lt_of_le (A3).lt q8_0))) nin0)).ext E30).keep Kq36 nin0).keep Kq41 nin0).keep Kq50 (ninS (Nat.ne_of_lt (Nat.lt_of_lt_of_le (Nat.lt_of_lt_of_le (Nat.lt_of_lt_of_le ((q8_1).1).lt Kq13.1) Kq22.1) (Nat.le_of_eq g30.symm))) nin0))
        have f117 := (((((((q8_1).2.2.1.keep Kq13 nin0).keep Kq22 (ninS (Ne.symm (Nat.ne_of_lt (Nat.lt_of_lt_of_le (A3).lt q8_0))) nin0)).ext E30).keep Kq36 nin0).keep Kq41 nin0).keep Kq50 (ninS (Nat.ne_of_lt (Nat.lt_of_lt_of_le (Nat.lt_of_lt_of_le (Nat.lt_of_lt_of_le ((q8_1).1).lt Kq13.1) Kq22.1) (Nat.le_of_eq g30.symm))) nin0))
        have f118 := ((q8_1).2.2.2.1.keep Kq13 nin0)
        have f119 := (((((((q8_1).2.2.2.1.keep Kq13 nin0).keep Kq22 (ninS (Ne.symm (Exa.neArv f17 f118 (w_1 hw))) nin0)).ext E30).keep Kq36 nin0).keep Kq41 nin0).keep Kq50 (ninS (Nat.ne_of_lt (Nat.lt_of_lt_of_le (Nat.lt_of_lt_of_le (Nat.lt_of_lt_of_le ((q8_1).2.2.2.1).lt Kq13.1) Kq22.1) (Nat.le_of_eq g30.symm))) nin0))
        have f120 := (f48.keep Kq50)
        have f121 := (((q36_1).2.1.keep Kq41 nin0).keep Kq50 (ninS (Ne.symm (Nat.ne_of_lt (Nat.lt_of_lt_of_le (A30).lt q36_0))) nin0))
        have f122 := (((q36_1).2.2.1.keep Kq41 nin0).keep Kq50 (ninS (Ne.symm (Nat.ne_of_lt (Nat.lt_of_lt_of_le (A30).lt q36_0))) nin0))
        have f123 := ((q36_1).2.2.2.1.keep Kq41 nin0)
        have f124 := (((q36_1).2.2.2.1.keep Kq41 nin0).keep Kq50 (ninS (Ne.symm (Exa.neArv f45 f123 (w_1 hw))) nin0))
        have f125 := ((((((q13_1).1.keep Kq22).ext E30).keep Kq36).keep Kq41).keep Kq50)
        have f126 := ((((((q13_1).2.1.keep Kq22 (ninS (Ne.symm (Nat.ne_of_lt (Nat.lt_of_lt_of_le (Nat.lt_of_lt_of_le (A3).lt Kq8.1) q13_0))) nin0)).ext E30).keep Kq36 nin0).keep Kq41 nin0).keep Kq50 (ninS (Nat.ne_of_lt (Nat.lt_of_lt_of_le (Nat.lt_of_lt_of_le ((q13_1).1).lt Kq22.1) (Nat.le_of_eq g30.symm))) nin0))
        have f127 := ((((((q13_1).2.2.1.keep Kq22 (ninS (Ne.symm (Nat.ne_of_lt (Nat.lt_of_lt_of_le (Nat.lt_of_lt_of_le (A3).lt Kq8.1) q13_0))) nin0)).ext E30).keep Kq36 nin0).keep Kq41 nin0).keep Kq50 (ninS (Nat.ne_of_lt (Nat.lt_of_lt_of_le (Nat.lt_of_lt_of_le ((q13_1).1).lt Kq22.1) (Nat.le_of_eq g30.symm))) nin0))
        have f128 := ((((((q13_1).2.2.2.1.keep Kq22 (ninS (Ne.symm (Exa.neArv f17 (q13_1).2.2.2.1 (w_1 hw))) nin0)).ext E30).keep Kq36 nin0).keep Kq41 nin0).keep Kq50 (ninS (Nat.ne_of_lt (Nat.lt_of_lt_of_le (Nat.lt_of_lt_of_le ((q13_1).2.2.2.1).lt Kq22.1) (Nat.le_of_eq g30.symm))) nin0))
        have f129 := ((q41_1).1.keep Kq50)
        have f130 := ((q41_1).2.1.keep Kq50 (ninS (Ne.symm (Nat.ne_of_lt (Nat.lt_of_lt_of_le (Nat.lt_of_lt_of_le (A30).lt Kq36.1) q41_0))) nin0))
        have f131 := ((q41_1).2.2.1.keep Kq50 (ninS (Ne.symm (Nat.ne_of_lt (Nat.lt_of_lt_of_le (Nat.lt_of_lt_of_le (A30).lt Kq36.1) q41_0))) nin0))
        have f132 := ((q41_1).2.2.2.1.keep Kq50 (ninS (Ne.symm (Exa.neArv f45 (q41_1).2.2.2.1 (w_1 hw))) nin0))
        have f134 := ((((q22_0.ext E30).keep Kq36).keep Kq41).keep Kq50)
        obtain ⟨cq133, kq133, q133a, q133b, q133c⟩ := isOf hZ50 Kq84 f134
        obtain ⟨_, _, ⟨T133, L133, k133, n133⟩, -, X133, ⟨Lc133, hQ133, l133, y133, z133⟩, st133⟩ := X84.virtualBack hx (y := (⟨"com/example/ullr/ullr/files/ListedLink", "equals", "(Ljava/lang/Object;)Z"⟩ : MethodName)) (z := (⟨"com/example/ullr/ullr/files/ListedLink", "equals", "(Ljava/lang/Object;)Z"⟩ : MethodName)) hown50 (mvT hZ50 (w_61 hw)) (mvT hZ50 (w_62 hw)) (notFace_of_selects (args := #[]) (mvT hZ50 (w_64 hw))) (mvT hZ50 (w_64 hw)) (mvT hZ50 (w_63 hw)) (by decide) (backOf (W := 0) (rm_eqL l Z a0 hw [] b3 b30 b_8 t_8 k_8 (own_mk p0) b_36 t_36 k_36 (own_mk (p0 ^^^ p1)) b_13 t_13 k_13 (own_mk p2) b_41 t_41 k_41 (own_mk (p2 ^^^ p3)) zc T50.heap n0 f55 q50_0 f113 q50_1 f114 q50_2 (⟨f115, f116, f117, f119, (q8_1).2.2.2.2⟩ : own_Str Z T50.heap b_8 t_8 k_8 (own_mk p0)) (⟨f120, f121, f122, f124, (q36_1).2.2.2.2⟩ : own_Str Z T50.heap b_36 t_36 k_36 (own_mk (p0 ^^^ p1))) (⟨f125, f126, f127, f128, (q13_1).2.2.2.2⟩ : own_Str Z T50.heap b_13 t_13 k_13 (own_mk p2)) (⟨f129, f130, f131, f132, (q41_1).2.2.2.2⟩ : own_Str Z T50.heap b_41 t_41 k_41 (own_mk (p2 ^^^ p3))) S_COMPACT_STRINGS hp1) hZ50 (w_65 hw) (w_2 hw) (by decide) (by decide)) q133a q133c (g := (mkF mM 86 Ls112 [(.ref b30), (.ref b3)])) rfl (by rw [hml]; rfl) (Steps.refl _) (argsL := [(.ref b30)]) (rest := []) (lenOf pd_4 rfl) rfl (by show 2 * 0 + _ ≤ _; exact Nat.le_of_eq rfl) (hb hby at_86) (fun _ _ => ⟨rfl, Kq84, (by decide : 34 + 0 ≤ _), (by decide : 148 + 0 ≤ _)⟩)
        dsimp only [Pt.U, Pt.locs, Pt.cells, Pt.slots] at X133 l133 y133 z133 st133 hQ133
        subst l133 y133 z133
        obtain ⟨rfl, rfl, Kq133⟩ := hQ133
        try rw [List.append_nil] at X133
        obtain ⟨cq135, kq135, q135a, q135b, q135c⟩ := isOf hZ50 Kq133 q50_0
        obtain ⟨_, _, ⟨T135, L135, k135, n135⟩, -, X135, ⟨Lc135, hQ135, l135, y135, z135⟩, st135⟩ := X133.virtualBack hx (y := (⟨"com/example/ullr/ullr/files/ListedLink", "equals", "(Ljava/lang/Object;)Z"⟩ : MethodName)) (z := (⟨"com/example/ullr/ullr/files/ListedLink", "equals", "(Ljava/lang/Object;)Z"⟩ : MethodName)) hown50 (mvT hZ50 (w_61 hw)) (mvT hZ50 (w_62 hw)) (notFace_of_selects (args := #[]) (mvT hZ50 (w_64 hw))) (mvT hZ50 (w_64 hw)) (mvT hZ50 (w_63 hw)) (by decide) (backOf (W := 0) (rm_eqL l Z a0 hw [] b30 b3 b_36 t_36 k_36 (own_mk (p0 ^^^ p1)) b_8 t_8 k_8 (own_mk p0) b_41 t_41 k_41 (own_mk (p2 ^^^ p3)) b_13 t_13 k_13 (own_mk p2) zc T50.heap n0 f55 f134 q50_1 f113 q50_2 f114 (⟨f120, f121, f122, f124, (q36_1).2.2.2.2⟩ : own_Str Z T50.heap b_36 t_36 k_36 (own_mk (p0 ^^^ p1))) (⟨f115, f116, f117, f119, (q8_1).2.2.2.2⟩ : own_Str Z T50.heap b_8 t_8 k_8 (own_mk p0)) (⟨f129, f130, f131, f132, (q41_1).2.2.2.2⟩ : own_Str Z T50.heap b_41 t_41 k_41 (own_mk (p2 ^^^ p3))) (⟨f125, f126, f127, f128, (q13_1).2.2.2.2⟩ : own_Str Z T50.heap b_13 t_13 k_13 (own_mk p2)) S_COMPACT_STRINGS hp1) hZ50 (w_65 hw) (w_2 hw) (by decide) (by decide)) q135a q135c (g := (mkF mM 98 Ls112 [(.ref b3), (.ref b30)])) rfl (by rw [hml]; rfl) (Steps.refl _) (argsL := [(.ref b3)]) (rest := []) (lenOf pd_4 rfl) rfl (by show 2 * 0 + _ ≤ _; exact Nat.le_of_eq rfl) (hb hby at_98) (fun _ _ => ⟨rfl, Kq133, (by decide : 34 + 0 ≤ _), (by decide : 148 + 0 ≤ _)⟩)
        dsimp only [Pt.U, Pt.locs, Pt.cells, Pt.slots] at X135 l135 y135 z135 st135 hQ135
        subst l135 y135 z135
        obtain ⟨rfl, rfl, Kq135⟩ := hQ135
        try rw [List.append_nil] at X135
        obtain ⟨fs, hr, hrun, hended, hR1, hR2, hR3, hR4⟩ := Stand.leaveW (s := sS) (vm₁ := T50.vm) X135 hS50 (by rw [Kq135]; exact hk50) (v := some (.int (1 : Int32))) (fun h => by rw [Bd.returns] at h; cases h)
        refine ⟨_, _, pre86 _ ?_, hrun, hended, _, _, rfl, ?_, ?_, hR1, hR2, hR3, hR4.mono (by decide) (by decide)⟩
        · refine XS.ifNo X84.here hx rfl (hb hby at_72) rfl ((if0 _ _).trans (feq hc85).1) ?_
          show Steps pP.tables eE below (T84.setTop (mkF mM 75 Ls54 [])) _
          refine XS.iconst X84.here hx rfl (hb hby at_75) ?_
          show Steps pP.tables eE below (T84.setTop (mkF mM 76 Ls54 [(.int (1 : Int32))])) _
          refine XS.goto X84.here hx rfl (pc0 := 76) (pc' := 80) rfl (hb hby at_76) (by decide) (by decide) ?_
          show Steps pP.tables eE below (T84.setTop (mkF mM 80 Ls54 [(.int (1 : Int32))])) _
          refine XS.istore X84.here hx rfl (hb hby at_80) rfl (l' := Ls112) rfl ?_
          show Steps pP.tables eE below (T84.setTop (mkF mM 82 Ls112 [])) _
          refine XS.aload X84.here hx rfl (hb hby at_82) rfl rfl ?_
          show Steps pP.tables eE below (T84.setTop (mkF mM 84 Ls112 [(.ref b3)])) _
          refine XS.aload X84.here hx rfl (hb hby at_84) rfl rfl ?_
          show Steps pP.tables eE below (T84.setTop (mkF mM 86 Ls112 [(.ref b30), (.ref b3)])) _
          refine st133.trans ?_
          show Steps pP.tables eE below (T133.setTop (mkF mM 89 Ls112 [(.int (own_leq (own_mk p0) (own_mk (p0 ^^^ p1)) (own_mk p2) (own_mk (p2 ^^^ p3))))])) _
          refine XS.iload X133.here hx rfl (hb hby at_89) rfl ?_
          show Steps pP.tables eE below (T133.setTop (mkF mM 91 Ls112 [(.int (1 : Int32)), (.int (own_leq (own_mk p0) (own_mk (p0 ^^^ p1)) (own_mk p2) (own_mk (p2 ^^^ p3))))])) _
          refine XS.icmpNo X133.here hx rfl (hb hby at_91) rfl (teq (by rw [own_leq_eq, if_pos ⟨(own_sm1 hc57), (own_sm1 hc85)⟩])).2 ?_
          show Steps pP.tables eE below (T133.setTop (mkF mM 94 Ls112 [])) _
          refine XS.aload X133.here hx rfl (hb hby at_94) rfl rfl ?_
          show Steps pP.tables eE below (T133.setTop (mkF mM 96 Ls112 [(.ref b30)])) _
          refine XS.aload X133.here hx rfl (hb hby at_96) rfl rfl ?_
          show Steps pP.tables eE below (T133.setTop (mkF mM 98 Ls112 [(.ref b3), (.ref b30)])) _
          refine st135.trans ?_
          show Steps pP.tables eE below (T135.setTop (mkF mM 101 Ls112 [(.int (own_leq (own_mk (p0 ^^^ p1)) (own_mk p0) (own_mk (p2 ^^^ p3)) (own_mk p2)))])) _
          refine XS.iload X135.here hx rfl (hb hby at_101) rfl ?_
          show Steps pP.tables eE below (T135.setTop (mkF mM 103 Ls112 [(.int (1 : Int32)), (.int (own_leq (own_mk (p0 ^^^ p1)) (own_mk p0) (own_mk (p2 ^^^ p3)) (own_mk p2)))])) _
          refine XS.icmpNo X135.here hx rfl (hb hby at_103) rfl (teq (by rw [own_leq_eq, if_pos ⟨(own_sm1 hc57).symm, (own_sm1 hc85).symm⟩])).2 ?_
          show Steps pP.tables eE below (T135.setTop (mkF mM 106 Ls112 [])) _
          refine XS.iconst X135.here hx rfl (hb hby at_106) ?_
          show Steps pP.tables eE below (T135.setTop (mkF mM 107 Ls112 [(.int (1 : Int32))])) _
          refine XS.goto X135.here hx rfl (pc0 := 107) (pc' := 111) rfl (hb hby at_107) (by decide) (by decide) ?_
          show Steps pP.tables eE below (T135.setTop (mkF mM 111 Ls112 [(.int (1 : Int32))])) _
          exact retN X135 hx (t := .boolean) Bd.returns (by simp) (hb hby at_111) hr
        · show Q_law Z p0 p1 p2 p3 p4 zc fm h0 n0 _ T135.heap _
          rw [Kq135]
          exact ⟨rfl, N50, K53⟩
        · show CHr Z own_EL sS.vm sS.heap T135.vm T135.heap
          rw [hh, Kq135]
          exact CH51.trans (CHv.at X135 hZ50 hEL CH51.1)
  · have pre138 : ∀ tg, Steps pP.tables eE below (T22.setTop (mkF mM 115 Ls27 [(.int (1 : Int32)), (.int (p4 &&& (3 : Int32)))])) tg → Steps pP.tables eE below (s₁.setTop (entryFrame mM #[(.int p0), (.int p1), (.int p2), (.int p3), (.int p4)] maxLocals)) tg := fun tg kg => pre29 tg (by
      refine XS.ifYes X22.here hx rfl (pc0 := 35) (pc' := 112) rfl (hb hby at_35) rfl ((if0 _ _).trans (feq hc28).2) (by decide) (by decide) ?_
      show Steps pP.tables eE below (T22.setTop (mkF mM 112 Ls27 [])) _
      refine XS.iload X22.here hx rfl (hb hby at_112) rfl ?_
      show Steps pP.tables eE below (T22.setTop (mkF mM 114 Ls27 [(.int (p4 &&& (3 : Int32)))])) _
      refine XS.iconst X22.here hx rfl (hb hby at_114) ?_
      exact kg)
    by_cases hc137 : (p4 &&& (3 : Int32)) = (1 : Int32)
    · have f139 := (f21.keep Kq22 (allS g_b3 all0))
      obtain ⟨cq140, kq140, q140a, q140b, q140c⟩ := isOf hZ22 rfl q22_0
      obtain ⟨_, _, ⟨T140, L140, k140, n140⟩, -, X140, ⟨Lc140, hQ140, l140, y140, z140⟩, st140⟩ := X22.virtualBack hx (y := (⟨"com/example/ullr/ullr/files/ListedLink", "equals", "(Ljava/lang/Object;)Z"⟩ : MethodName)) (z := (⟨"com/example/ullr/ullr/files/ListedLink", "equals", "(Ljava/lang/Object;)Z"⟩ : MethodName)) hown22 (mvT hZ22 (w_61 hw)) (mvT hZ22 (w_62 hw)) (notFace_of_selects (args := #[]) (mvT hZ22 (w_64 hw))) (mvT hZ22 (w_64 hw)) (mvT hZ22 (w_63 hw)) (by decide) (backOf (W := 0) (rm_eq0 l Z a0 hw [] b3 T22.heap n0 f139 ) hZ22 (w_65 hw) (w_2 hw) (by decide) (by decide)) q140a q140c (g := (mkF mM 121 Ls27 [.null, (.ref b3)])) rfl (by rw [hml]; rfl) (Steps.refl _) (argsL := [.null]) (rest := []) (lenOf pd_4 rfl) rfl (by show 2 * 0 + _ ≤ _; exact Nat.le_of_eq rfl) (hb hby at_121) (fun _ _ => ⟨rfl, rfl, (by decide : 17 + 0 ≤ _), (by decide : 74 + 0 ≤ _)⟩)
      dsimp only [Pt.U, Pt.locs, Pt.cells, Pt.slots] at X140 l140 y140 z140 st140 hQ140
      subst l140 y140 z140
      obtain ⟨rfl, rfl, Kq140⟩ := hQ140
      try rw [List.append_nil] at X140
      obtain ⟨fs, hr, hrun, hended, hR1, hR2, hR3, hR4⟩ := Stand.leaveW (s := sS) (vm₁ := T22.vm) X140 hS22 (by rw [Kq140]; exact hk22) (v := some (.int (1 : Int32))) (fun h => by rw [Bd.returns] at h; cases h)
      refine ⟨_, _, pre138 _ ?_, hrun, hended, _, _, rfl, ?_, ?_, hR1, hR2, hR3, hR4.mono (by decide) (by decide)⟩
      · refine XS.icmpNo X22.here hx rfl (hb hby at_115) rfl (teq hc137).2 ?_
        show Steps pP.tables eE below (T22.setTop (mkF mM 118 Ls27 [])) _
        refine XS.aload X22.here hx rfl (hb hby at_118) rfl rfl ?_
        show Steps pP.tables eE below (T22.setTop (mkF mM 120 Ls27 [(.ref b3)])) _
        refine XS.aconstNull X22.here hx rfl (hb hby at_120) ?_
        show Steps pP.tables eE below (T22.setTop (mkF mM 121 Ls27 [.null, (.ref b3)])) _
        refine st140.trans ?_
        show Steps pP.tables eE below (T140.setTop (mkF mM 124 Ls27 [(.int (0 : Int32))])) _
        refine XS.ifNo X140.here hx rfl (hb hby at_124) rfl ((if0 _ _).trans (teq (by decide : (0 : Int32) = (0 : Int32))).2) ?_
        show Steps pP.tables eE below (T140.setTop (mkF mM 127 Ls27 [])) _
        refine XS.iconst X140.here hx rfl (hb hby at_127) ?_
        show Steps pP.tables eE below (T140.setTop (mkF mM 128 Ls27 [(.int (1 : Int32))])) _
        refine XS.goto X140.here hx rfl (pc0 := 128) (pc' := 132) rfl (hb hby at_128) (by decide) (by decide) ?_
        show Steps pP.tables eE below (T140.setTop (mkF mM 132 Ls27 [(.int (1 : Int32))])) _
        exact retN X140 hx (t := .boolean) Bd.returns (by simp) (hb hby at_132) hr
      · show Q_law Z p0 p1 p2 p3 p4 zc fm h0 n0 _ T140.heap _
        rw [Kq140]
        exact ⟨rfl, N22, K25⟩
      · show CHr Z own_EL sS.vm sS.heap T140.vm T140.heap
        rw [hh, Kq140]
        exact CH23.trans (CHv.at X140 hZ22 hEL CH23.1)
    · have pre143 : ∀ tg, Steps pP.tables eE below (T22.setTop (mkF mM 136 Ls27 [(.int (2 : Int32)), (.int (p4 &&& (3 : Int32)))])) tg → Steps pP.tables eE below (s₁.setTop (entryFrame mM #[(.int p0), (.int p1), (.int p2), (.int p3), (.int p4)] maxLocals)) tg := fun tg kg => pre138 tg (by
        refine XS.icmpYes X22.here hx rfl (pc0 := 115) (pc' := 133) rfl (hb hby at_115) rfl (feq hc137).2 (by decide) (by decide) ?_
        show Steps pP.tables eE below (T22.setTop (mkF mM 133 Ls27 [])) _
        refine XS.iload X22.here hx rfl (hb hby at_133) rfl ?_
        show Steps pP.tables eE below (T22.setTop (mkF mM 135 Ls27 [(.int (p4 &&& (3 : Int32)))])) _
        refine XS.iconst X22.here hx rfl (hb hby at_135) ?_
        exact kg)
      by_cases hc142 : (p4 &&& (3 : Int32)) = (2 : Int32)
      · have f144 := (f21.keep Kq22 (allS g_b3 all0))
        obtain ⟨_, _, ⟨T145, L145, k145, n145⟩, -, X145, hS2145, hg2145, ⟨Lc145, hQ145, l145, y145, z145, CHl145⟩, st145⟩ := callSS X22 hx (y := (⟨"com/example/ullr/ullr/files/ListedLinkEqualsPinLaw", "mk", "(I)Ljava/lang/String;"⟩ : MethodName)) hown22 (mvT hZ22 (w_3 hw)) (mvT hZ22 (w_4 hw)) (mvT hZ22 (w_5 hw)) (mvT hZ22 (w_6 hw)) (by decide) (own_backOfSH (s := sS) (vm0 := T22.vm) (rm := ({ frames := 4, cells := 6, slots := 12, locals := 66 } : Room)) (W := 1) (rm_mk l Z a0 hw [] p0 zc T22.heap n0 f144 S_COMPACT_STRINGS hp1) hZ22 (w_6 hw) (w_5 hw) (by decide) (by decide) hEL CH23.1 own_sf0) (g := (mkF mM 142 Ls27 [(.int p0), (.ref b3)])) rfl (by rw [hml]; rfl) (argsL := [(.int p0)]) (rest := [(.ref b3)]) (lenOf pd_5 rfl) rfl (by show 2 * 0 + _ ≤ _; exact Nat.le_of_eq rfl) (hb hby at_142) (fun _ _ => ⟨rfl, rfl, (by decide : 17 + 6 ≤ _), (by decide : 74 + 12 ≤ _)⟩)
        dsimp only [Pt.U, Pt.locs, Pt.cells, Pt.slots] at X145 l145 y145 z145 st145 hQ145 hS2145 hg2145 CHl145
        subst l145 y145 z145
        have hS145 := foldS hS22 (hk22) hS2145 hg2145
        have hZ145 : Z.Warmed39 (sS.setVm T145.vm).vm := State.Warmed39.trans (t := sS.setVm T22.vm) hZ22 hS2145.1
        have hown145 : (sS.setVm T145.vm).vm.findClass "com/example/ullr/ullr/files/ListedLinkEqualsPinLaw" = some mM.cls := by rw [show (sS.setVm T145.vm).vm = T145.vm from rfl, hS2145.1.alike.findClass]; exact hown22
        have hk145 : T145.heap.size ≤ T145.heap.size := Nat.le_refl _
        replace X145 : Stand pP l eE room_1 (sS.setVm T145.vm) mM _ below meth cC T145 _ _ _ := X145
        obtain ⟨b_145, t_145, k_145, rfl, Nq145, Kq145, q145_0, q145_1⟩ := hQ145
        have N145 := Fr.app N22 Nq145
        have g_b_145 : n0 ≤ b_145 := Nat.le_trans (own_osz f144) q145_0
        have sz_b_145 : h0.size ≤ b_145 := Nat.le_trans K25.1 q145_0
        have CH146 : CHr Z own_EL sS.vm h0 T145.vm T145.heap := CH23.trans (CHl145)
        skip
        have K148 : Keep h0 T145.heap [] := K25.trans Kq145 all0
        have f149 := (f144.keep Kq145 all0)
        have f151 := (q22_0.keep Kq145)
        obtain ⟨cq150, kq150, q150a, q150b, q150c⟩ := isOf hZ145 rfl f151
        obtain ⟨_, _, ⟨T150, L150, k150, n150⟩, -, X150, ⟨Lc150, hQ150, l150, y150, z150⟩, st150⟩ := X145.virtualBack hx (y := (⟨"com/example/ullr/ullr/files/ListedLink", "equals", "(Ljava/lang/Object;)Z"⟩ : MethodName)) (z := (⟨"com/example/ullr/ullr/files/ListedLink", "equals", "(Ljava/lang/Object;)Z"⟩ : MethodName)) hown145 (mvT hZ145 (w_61 hw)) (mvT hZ145 (w_62 hw)) (notFace_of_selects (args := #[]) (mvT hZ145 (w_64 hw))) (mvT hZ145 (w_64 hw)) (mvT hZ145 (w_63 hw)) (by decide) (backOf (W := 0) (rm_eqS l Z a0 hw [] b3 b_145 T145.heap n0 f149 (q145_1).1) hZ145 (w_65 hw) (w_2 hw) (by decide) (by decide)) q150a q150c (g := (mkF mM 145 Ls27 [(.ref b_145), (.ref b3)])) rfl (by rw [hml]; rfl) (Steps.refl _) (argsL := [(.ref b_145)]) (rest := []) (lenOf pd_4 rfl) rfl (by show 2 * 0 + _ ≤ _; exact Nat.le_of_eq rfl) (hb hby at_145) (fun _ _ => ⟨rfl, rfl, (by decide : 23 + 0 ≤ _), (by decide : 86 + 0 ≤ _)⟩)
        dsimp only [Pt.U, Pt.locs, Pt.cells, Pt.slots] at X150 l150 y150 z150 st150 hQ150
        subst l150 y150 z150
        obtain ⟨rfl, rfl, Kq150⟩ := hQ150
        try rw [List.append_nil] at X150
        obtain ⟨fs, hr, hrun, hended, hR1, hR2, hR3, hR4⟩ := Stand.leaveW (s := sS) (vm₁ := T145.vm) X150 hS145 (by rw [Kq150]; exact hk145) (v := some (.int (1 : Int32))) (fun h => by rw [Bd.returns] at h; cases h)
        refine ⟨_, _, pre143 _ ?_, hrun, hended, _, _, rfl, ?_, ?_, hR1, hR2, hR3, hR4.mono (by decide) (by decide)⟩
        · refine XS.icmpNo X22.here hx rfl (hb hby at_136) rfl (teq hc142).2 ?_
          show Steps pP.tables eE below (T22.setTop (mkF mM 139 Ls27 [])) _
          refine XS.aload X22.here hx rfl (hb hby at_139) rfl rfl ?_
          show Steps pP.tables eE below (T22.setTop (mkF mM 141 Ls27 [(.ref b3)])) _
          refine XS.iloadN X22.here hx rfl (hb hby at_141) rfl ?_
          show Steps pP.tables eE below (T22.setTop (mkF mM 142 Ls27 [(.int p0), (.ref b3)])) _
          refine st145.trans ?_
          show Steps pP.tables eE below (T145.setTop (mkF mM 145 Ls27 [(.ref b_145), (.ref b3)])) _
          refine st150.trans ?_
          show Steps pP.tables eE below (T150.setTop (mkF mM 148 Ls27 [(.int (0 : Int32))])) _
          refine XS.ifNo X150.here hx rfl (hb hby at_148) rfl ((if0 _ _).trans (teq (by decide : (0 : Int32) = (0 : Int32))).2) ?_
          show Steps pP.tables eE below (T150.setTop (mkF mM 151 Ls27 [])) _
          refine XS.iconst X150.here hx rfl (hb hby at_151) ?_
          show Steps pP.tables eE below (T150.setTop (mkF mM 152 Ls27 [(.int (1 : Int32))])) _
          refine XS.goto X150.here hx rfl (pc0 := 152) (pc' := 156) rfl (hb hby at_152) (by decide) (by decide) ?_
          show Steps pP.tables eE below (T150.setTop (mkF mM 156 Ls27 [(.int (1 : Int32))])) _
          exact retN X150 hx (t := .boolean) Bd.returns (by simp) (hb hby at_156) hr
        · show Q_law Z p0 p1 p2 p3 p4 zc fm h0 n0 _ T150.heap _
          rw [Kq150]
          exact ⟨rfl, N145, K148⟩
        · show CHr Z own_EL sS.vm sS.heap T150.vm T150.heap
          rw [hh, Kq150]
          exact CH146.trans (CHv.at X150 hZ145 hEL CH146.1)
      · have f153 := (f20.keep Kq22)
        have f154 := (((q8_1).2.1.keep Kq13 nin0).keep Kq22 (ninS (Ne.symm (Nat.ne_of_lt (Nat.lt_of_lt_of_le (A3).lt q8_0))) nin0))
        have f155 := (((q8_1).2.2.1.keep Kq13 nin0).keep Kq22 (ninS (Ne.symm (Nat.ne_of_lt (Nat.lt_of_lt_of_le (A3).lt q8_0))) nin0))
        have f156 := ((q8_1).2.2.2.1.keep Kq13 nin0)
        have f157 := (((q8_1).2.2.2.1.keep Kq13 nin0).keep Kq22 (ninS (Ne.symm (Exa.neArv f17 f156 (w_1 hw))) nin0))
        have f158 := ((q13_1).1.keep Kq22)
        have f159 := ((q13_1).2.1.keep Kq22 (ninS (Ne.symm (Nat.ne_of_lt (Nat.lt_of_lt_of_le (Nat.lt_of_lt_of_le (A3).lt Kq8.1) q13_0))) nin0))
        have f160 := ((q13_1).2.2.1.keep Kq22 (ninS (Ne.symm (Nat.ne_of_lt (Nat.lt_of_lt_of_le (Nat.lt_of_lt_of_le (A3).lt Kq8.1) q13_0))) nin0))
        have f161 := ((q13_1).2.2.2.1.keep Kq22 (ninS (Ne.symm (Exa.neArv f17 (q13_1).2.2.2.1 (w_1 hw))) nin0))
        have f162 := (f21.keep Kq22 (allS g_b3 all0))
        obtain ⟨cq163, kq163, q163a, q163b, q163c⟩ := isOf hZ22 rfl q22_0
        obtain ⟨_, _, ⟨T163, L163, k163, n163⟩, -, X163, ⟨Lc163, hQ163, l163, y163, z163⟩, st163⟩ := X22.virtualBack hx (y := (⟨"com/example/ullr/ullr/files/ListedLink", "equals", "(Ljava/lang/Object;)Z"⟩ : MethodName)) (z := (⟨"com/example/ullr/ullr/files/ListedLink", "equals", "(Ljava/lang/Object;)Z"⟩ : MethodName)) hown22 (mvT hZ22 (w_61 hw)) (mvT hZ22 (w_62 hw)) (notFace_of_selects (args := #[]) (mvT hZ22 (w_64 hw))) (mvT hZ22 (w_64 hw)) (mvT hZ22 (w_63 hw)) (by decide) (backOf (W := 0) (rm_eqX l Z a0 hw [] b3 b_8 t_8 k_8 (own_mk p0) b_13 t_13 k_13 (own_mk p2) zc T22.heap n0 f162 q22_0 q22_1 q22_2 (⟨f153, f154, f155, f157, (q8_1).2.2.2.2⟩ : own_Str Z T22.heap b_8 t_8 k_8 (own_mk p0)) (⟨f158, f159, f160, f161, (q13_1).2.2.2.2⟩ : own_Str Z T22.heap b_13 t_13 k_13 (own_mk p2)) S_COMPACT_STRINGS hp1) hZ22 (w_65 hw) (w_2 hw) (by decide) (by decide)) q163a q163c (g := (mkF mM 161 Ls27 [(.ref b3), (.ref b3)])) rfl (by rw [hml]; rfl) (Steps.refl _) (argsL := [(.ref b3)]) (rest := []) (lenOf pd_4 rfl) rfl (by show 2 * 0 + _ ≤ _; exact Nat.le_of_eq rfl) (hb hby at_161) (fun _ _ => ⟨rfl, rfl, (by decide : 17 + 0 ≤ _), (by decide : 74 + 0 ≤ _)⟩)
        dsimp only [Pt.U, Pt.locs, Pt.cells, Pt.slots] at X163 l163 y163 z163 st163 hQ163
        subst l163 y163 z163
        obtain ⟨rfl, rfl, Kq163⟩ := hQ163
        try rw [List.append_nil] at X163
        obtain ⟨fs, hr, hrun, hended, hR1, hR2, hR3, hR4⟩ := Stand.leaveW (s := sS) (vm₁ := T22.vm) X163 hS22 (by rw [Kq163]; exact hk22) (v := some (.int (1 : Int32))) (fun h => by rw [Bd.returns] at h; cases h)
        refine ⟨_, _, pre143 _ ?_, hrun, hended, _, _, rfl, ?_, ?_, hR1, hR2, hR3, hR4.mono (by decide) (by decide)⟩
        · refine XS.icmpYes X22.here hx rfl (pc0 := 136) (pc' := 157) rfl (hb hby at_136) rfl (feq hc142).2 (by decide) (by decide) ?_
          show Steps pP.tables eE below (T22.setTop (mkF mM 157 Ls27 [])) _
          refine XS.aload X22.here hx rfl (hb hby at_157) rfl rfl ?_
          show Steps pP.tables eE below (T22.setTop (mkF mM 159 Ls27 [(.ref b3)])) _
          refine XS.aload X22.here hx rfl (hb hby at_159) rfl rfl ?_
          show Steps pP.tables eE below (T22.setTop (mkF mM 161 Ls27 [(.ref b3), (.ref b3)])) _
          refine st163.trans ?_
          show Steps pP.tables eE below (T163.setTop (mkF mM 164 Ls27 [(.int (1 : Int32))])) _
          exact retN X163 hx (t := .boolean) Bd.returns (by simp) (hb hby at_164) hr
        · show Q_law Z p0 p1 p2 p3 p4 zc fm h0 n0 _ T163.heap _
          rw [Kq163]
          exact ⟨rfl, N22, K25⟩
        · show CHr Z own_EL sS.vm sS.heap T163.vm T163.heap
          rw [hh, Kq163]
          exact CH23.trans (CHv.at X163 hZ22 hEL CH23.1)
theorem own_held {s : State} (h : constsHeld consts_1 s) : ∀ p ∈ own_EL, Jvm.Lit.constHeld s p.1 p.2 := fun p hp => h p ((by decide : ∀ p ∈ own_EL, p ∈ consts_1) p hp)
set_option maxRecDepth 65536 in
set_option maxHeartbeats 40000000 in
theorem comes_1 {Post : Tables → Env → Array Value → State → Outcome → State → Prop} (hpost : ∀ tb e args s v u, (limb_1_1.after args s (.returned v) u = true ∧ limb_1_2.after args s (.returned v) u = true ∧ True) → ReturnedEndW s (.returned v) u (Jvm.fieldLocs frame_1_writes args s ++ Jvm.arrayLocs frame_1_arrays args s ++ Jvm.staticLocs frame_1_statics s) 48 3264 → Post tb e args s (.returned v) u) :
    ArmFor flags0 classFile x code maxLocals ret World_1 tables_1 room_1 Calls_1 rest_1 Pre_1 Post := by
  intro l hfl _ _ p e ha hc hk s m args below hf hA hF happ hP
  obtain ⟨hcalls, hrest, hpre⟩ := hP
  obtain ⟨-, -, -, hnamed, -, -, -, hat⟩ := (Spec.applies_iff hf).mp happ
  obtain ⟨hg, hn⟩ := and_e (Cond.before_iff.mp (show (Jvm.Cond.and given_1 narrow_1).before args s = true from hpre))
  obtain ⟨hcnt, hg0⟩ := and_e hg
  obtain ⟨ga0, hg1⟩ := and_e hg0
  obtain ⟨ga1, hg2⟩ := and_e hg1
  obtain ⟨ga2, hg3⟩ := and_e hg2
  obtain ⟨ga3, hg4⟩ := and_e hg3
  have ga4 := hg4
  obtain ⟨w0, w1, w2, w3, w4, rfl⟩ : ∃ w0 w1 w2 w3 w4 : Value, args = #[w0, w1, w2, w3, w4] := by
    have hs : args.size = 5 := by simpa [Cond.value, given_1] using hcnt
    obtain ⟨L⟩ := args
    match L, hs with
    | [w0, w1, w2, w3, w4], _ => exact ⟨w0, w1, w2, w3, w4, rfl⟩
  have hw := fun d (hd : d ∈ tables_1) => atoms_spec (ws := Jvm.Cond.code x code maxLocals ret :: tables_1) hat d (List.mem_cons_of_mem _ hd)
  have hfit : Fit s := fun {y c} hc i hi => by
    obtain ⟨ha, rfl⟩ := Array.getElem?_eq_some_iff.mp hc
    have q := List.all_eq_true.mp ((Array.all_eq_true_iff_forall_mem.mp hF) _ (Array.getElem_mem ha)) i (List.mem_range.mpr hi)
    simpa [Array.getElem?_eq_getElem hi] using q
  obtain ⟨i0, ei0⟩ := is_v ga0
  obtain rfl : w0 = (.int i0) := Option.some.inj ei0
  obtain ⟨i1, ei1⟩ := is_v ga1
  obtain rfl : w1 = (.int i1) := Option.some.inj ei1
  obtain ⟨i2, ei2⟩ := is_v ga2
  obtain rfl : w2 = (.int i2) := Option.some.inj ei2
  obtain ⟨i3, ei3⟩ := is_v ga3
  obtain rfl : w3 = (.int i3) := Option.some.inj ei3
  obtain ⟨i4, ei4⟩ := is_v ga4
  obtain rfl : w4 = (.int i4) := Option.some.inj ei4
  obtain ⟨hsets, hown0⟩ := atoms_of _ (rest_1_c_eq ▸ (show rest_1_c.before _ s = true from hrest))
  have hr0 := Cond.before_iff.mp hown0
  have nzc := not_v (Cond.before_iff.mp (hsets _ (List.mem_of_getElem? (i := 2) rfl)))
  obtain ⟨zc, ezc⟩ := is_v (Cond.before_iff.mp (hsets _ (List.mem_of_getElem? (i := 1) rfl)))
  have Szc : Sta s s.heap "java/lang/String" "COMPACT_STRINGS" "Z" (.int zc) := Sta.start ezc (Or.inl (hsets _ (List.mem_of_getElem? (i := 0) rfl)))
  obtain ⟨fm, efm, rfm⟩ := isR_v (Cond.before_iff.mp (hsets _ (List.mem_of_getElem? (i := 8) rfl)))
  have Sfm : Sta s s.heap "jdk/internal/util/Preconditions" "SIOOBE_FORMATTER" "Ljava/util/function/BiFunction;" fm := Sta.start efm (Or.inl (hsets _ (List.mem_of_getElem? (i := 7) rfl)))
  have hzc : ¬ (zc = (0 : Int32)) := gotF (Cond.eq_ints ezc (Term.int_eval (0))) nzc
  have hcw : Jvm.Lit.compactW.before #[(.int i0), (.int i1), (.int i2), (.int i3), (.int i4)] s = true := hsets _ (List.mem_of_getElem? (i := 2) rfl)
  have hCH : CHv s own_EL s.vm s.heap := CHv.start (own_EW hw) (fun p hp => own_held (hcalls.1) p hp) hcw (w_22 hw) (w_8 hw)
  obtain ⟨n, o, h1, h2, h3, _, L, rfl, ⟨rfl, N, _⟩, -, q1, q2, q3, hq⟩ := rm_law l s _ hw tables_1 i0 i1 i2 i3 i4 zc fm s.heap s.heap.size (Old.start s) Szc hzc Sfm rfm p e ha hc hk s m _ below hf ((Spec.applies_iff_loose hf).mp happ).1 ⟨rfl, State.Warmed39.refl s, rfl, hCH, sf0⟩ trivial
  refine ⟨n, _, h1, h2, h3, hpost _ _ _ _ _ _ ⟨Cond.after_iff.mpr rfl, Cond.after_iff.mpr (eq_i res_at (Term.int_eval (1)) rfl), trivial⟩ ⟨q1, q2, q3, (hq.sift fun y hy => Or.inr (N y hy)).mono (by decide) (by decide)⟩⟩
theorem main_1_1 : Claimed_1_1 := comes_1 fun _ _ _ _ _ _ h hF => ⟨h.1, hF⟩
theorem main_1_2 : Claimed_1_2 := comes_1 fun _ _ _ _ _ _ h hF => ⟨h.2.1, hF⟩
end Jvm.Pilot.@@N@@
namespace Jvm.Pilot.@@N@@
open Jvm Jvm.ClassFile Sem Op Lib Jvm.Free Jvm.Stand Jvm.Pilot.@@N@@.Jvm.D
/-! MADE BY PROGRAM (witnessworld.py) out of the Statement's table words and the real class files: 21 classes; the members and pool entries that the words name. The judged class is class 1, her method 4. -/
namespace start1
open Jvm.ClassFile
def u (s : String) : CpInfo := .utf8 (stringToUtf16 s)
/-- a pool by its gaps: so many unusable entries, then the entry; so many at the end -/
def gap : Nat → List CpInfo → List CpInfo
  | 0, r => r
  | n + 1, r => .unusable :: gap n r
def poolList (es : List (Nat × CpInfo)) (last : Nat) : List CpInfo := es.foldr (fun e r => gap e.1 (e.2 :: r)) (gap last [])
def pool (es : List (Nat × CpInfo)) (last : Nat) : Array CpInfo := ⟨poolList es last⟩
def fileOf (pool : Array CpInfo) (this : Nat) (attrs : Array Attribute := #[]) (ms : Array MethodInfo := #[]) (fl : Nat := 33) (sup : Nat := 0) (ifs : Array Nat := #[]) (fds : Array FieldInfo := #[]) : ClassFile where
  minorVersion := 0
  majorVersion := 65
  constantPool := pool
  accessFlags := fl
  thisClass := this
  superClass := sup
  interfaces := ifs
  fields := fds
  methods := ms
  attributes := attrs
def plain (name : String) (sup : Option ClassId) : Class where
  name := name
  kind := .ordinary
  loader := none
  accessFlags := 33
  super := sup
  interfaces := #[]
  cf := none
  fields := #[]
  methods := #[]
  instanceTypes := #[]
  staticTypes := #[]
  resolved := #[]
  callSites := []
  init := .initialized
  statics := none
  mirror := none

def pool0 : Array CpInfo := pool [(5, u "<init>"), (0, u "()V"), (1, .class_ 10), (1, u "java/lang/Object")] 113

def k0c0 : Code := { maxStack := 0, maxLocals := 1, code := object_method_1_code, exceptionTable := #[], attributes := #[] }
def k0m0 : Method := { name := "<init>", desc := "()V", sig := { parameters := [], returnType := none }, accessFlags := 1, code := some k0c0 }
/-- java/lang/Object -/
def k0 : Class := { plain "java/lang/Object" none with
  accessFlags := 33
  interfaces := #[]
  cf := some (fileOf pool0 8 #[] #[{ accessFlags := 1, nameIndex := 5, descriptorIndex := 6, attributes := #[] }] 33 0 #[] #[])
  fields := #[]
  methods := #[k0m0]
  instanceTypes := #[]
  staticTypes := #[]
  resolved := Array.replicate 124 none
  statics := none }

def pool1 : Array CpInfo := pool [(2, .class_ 4), (1, u "java/lang/Object"), (0, u "<init>"), (0, u "()V"), (0, .class_ 8), (0, u "java/lang/String"), (0, .methodref 7 10), (0, .nameAndType 5 11), (0, u "([C)V"), (0, .methodref 13 14), (0, .class_ 15), (0, .nameAndType 16 17), (0, u "com/example/ullr/ullr/files/ListedLinkEqualsPinLaw"), (0, u "ch"), (0, u "(II)C"), (0, .class_ 19), (0, u "com/example/ullr/ullr/files/ListedLink"), (0, .methodref 13 21), (0, .nameAndType 22 23), (0, u "mk"), (0, u "(I)Ljava/lang/String;"), (0, .methodref 18 25), (0, .nameAndType 5 26), (0, u "(Ljava/lang/String;Ljava/lang/String;)V"), (0, .methodref 13 28), (0, .nameAndType 29 30), (0, u "same"), (0, u "(II)Z"), (0, .methodref 18 32), (0, .nameAndType 33 34), (0, u "equals"), (0, u "(Ljava/lang/Object;)Z"), (3, u "law"), (0, u "(IIIII)Z")] 2

def k1m0 : Method := { name := "<init>", desc := "()V", sig := { parameters := [], returnType := none }, accessFlags := 1, code := none }
def k1c1 : Code := { maxStack := 4, maxLocals := 2, code := method_2_code, exceptionTable := #[], attributes := #[] }
def k1m1 : Method := { name := "ch", desc := "(II)C", sig := { parameters := [.int, .int], returnType := some .char }, accessFlags := 10, code := some k1c1 }
def k1c2 : Code := { maxStack := 4, maxLocals := 3, code := method_3_code, exceptionTable := #[], attributes := #[] }
def k1m2 : Method := { name := "mk", desc := "(I)Ljava/lang/String;", sig := { parameters := [.int], returnType := some (.object "java/lang/String") }, accessFlags := 10, code := some k1c2 }
def k1c3 : Code := { maxStack := 3, maxLocals := 3, code := method_4_code, exceptionTable := #[], attributes := #[] }
def k1m3 : Method := { name := "same", desc := "(II)Z", sig := { parameters := [.int, .int], returnType := some .boolean }, accessFlags := 10, code := some k1c3 }
def k1c4 : Code := { maxStack := 4, maxLocals := 11, code := code, exceptionTable := #[], attributes := #[] }
def k1m4 : Method := { name := "law", desc := "(IIIII)Z", sig := { parameters := [.int, .int, .int, .int, .int], returnType := some .boolean }, accessFlags := 9, code := some k1c4 }
/-- com/example/ullr/ullr/files/ListedLinkEqualsPinLaw -/
def k1 : Class := { plain "com/example/ullr/ullr/files/ListedLinkEqualsPinLaw" (some 0) with
  accessFlags := 49
  interfaces := #[]
  cf := some (fileOf pool1 13 #[] #[{ accessFlags := 1, nameIndex := 5, descriptorIndex := 6, attributes := #[] }, { accessFlags := 10, nameIndex := 16, descriptorIndex := 17, attributes := #[] }, { accessFlags := 10, nameIndex := 22, descriptorIndex := 23, attributes := #[] }, { accessFlags := 10, nameIndex := 29, descriptorIndex := 30, attributes := #[] }, { accessFlags := 9, nameIndex := 38, descriptorIndex := 39, attributes := #[] }] 49 2 #[] #[])
  fields := #[]
  methods := #[k1m0, k1m1, k1m2, k1m3, k1m4]
  instanceTypes := #[]
  staticTypes := #[]
  resolved := Array.replicate 42 none
  statics := none }

def pool2 : Array CpInfo := pool [(1, .methodref 2 3), (0, .class_ 4), (0, .nameAndType 5 6), (0, u "java/lang/Object"), (0, u "<init>"), (0, u "()V"), (0, .string 8), (0, u "path"), (0, .methodref 10 11), (0, .class_ 12), (0, .nameAndType 13 14), (0, u "java/util/Objects"), (0, u "requireNonNull"), (0, u "(Ljava/lang/Object;Ljava/lang/String;)Ljava/lang/Object;"), (0, .class_ 16), (0, u "java/lang/String"), (0, .fieldref 18 19), (0, .class_ 20), (0, .nameAndType 21 22), (0, u "com/example/ullr/ullr/files/ListedLink"), (0, u "_path"), (0, u "Ljava/lang/String;"), (0, .string 24), (0, u "target"), (0, .fieldref 18 26), (0, .nameAndType 27 22), (0, u "_target"), (0, .methodref 15 29), (0, .nameAndType 30 31), (0, u "equals"), (0, u "(Ljava/lang/Object;)Z"), (4, u "(Ljava/lang/String;Ljava/lang/String;)V")] 8

def k2c0 : Code := { maxStack := 3, maxLocals := 3, code := prog_27_method_1_code, exceptionTable := #[], attributes := #[] }
def k2m0 : Method := { name := "<init>", desc := "(Ljava/lang/String;Ljava/lang/String;)V", sig := { parameters := [(.object "java/lang/String"), (.object "java/lang/String")], returnType := none }, accessFlags := 1, code := some k2c0 }
def k2c1 : Code := { maxStack := 2, maxLocals := 3, code := prog_27_method_4_code, exceptionTable := #[], attributes := #[] }
def k2m1 : Method := { name := "equals", desc := "(Ljava/lang/Object;)Z", sig := { parameters := [(.object "java/lang/Object")], returnType := some .boolean }, accessFlags := 1, code := some k2c1 }
/-- com/example/ullr/ullr/files/ListedLink -/
def k2 : Class := { plain "com/example/ullr/ullr/files/ListedLink" (some 0) with
  accessFlags := 49
  interfaces := #[]
  cf := some (fileOf pool2 18 #[] #[{ accessFlags := 1, nameIndex := 5, descriptorIndex := 36, attributes := #[] }, { accessFlags := 1, nameIndex := 30, descriptorIndex := 31, attributes := #[] }] 49 2 #[] #[{ accessFlags := 18, nameIndex := 21, descriptorIndex := 22, attributes := #[] }, { accessFlags := 18, nameIndex := 27, descriptorIndex := 22, attributes := #[] }])
  fields := #[{ name := "_path", type := (.object "java/lang/String"), accessFlags := 18, slot := 0, constantValue := 0 }, { name := "_target", type := (.object "java/lang/String"), accessFlags := 18, slot := 1, constantValue := 0 }]
  methods := #[k2m0, k2m1]
  instanceTypes := #[(.object "java/lang/String"), (.object "java/lang/String")]
  staticTypes := #[]
  resolved := Array.replicate 45 none
  statics := none }

def pool3 : Array CpInfo := pool [(1, .class_ 2), (0, u "java/io/Serializable"), (0, .class_ 4), (0, u "java/lang/Object")] 2

/-- java/io/Serializable -/
def k3 : Class := { plain "java/io/Serializable" (some 0) with
  accessFlags := 1537
  interfaces := #[]
  cf := some (fileOf pool3 1 #[] #[] 1537 3 #[] #[])
  fields := #[]
  methods := #[]
  instanceTypes := #[]
  staticTypes := #[]
  resolved := Array.replicate 7 none
  statics := none }

def pool4 : Array CpInfo := pool [(1, .class_ 2), (0, u "java/lang/Comparable"), (0, .class_ 4), (0, u "java/lang/Object")] 7

/-- java/lang/Comparable -/
def k4 : Class := { plain "java/lang/Comparable" (some 0) with
  accessFlags := 1537
  interfaces := #[]
  cf := some (fileOf pool4 1 #[] #[] 1537 3 #[] #[])
  fields := #[]
  methods := #[]
  instanceTypes := #[]
  staticTypes := #[]
  resolved := Array.replicate 12 none
  statics := none }

def pool5 : Array CpInfo := pool [(2, .class_ 4), (1, u "java/lang/CharSequence"), (42, .class_ 48), (0, u "java/lang/CharSequence$1CodePointIterator"), (10, .class_ 60), (0, u "java/lang/CharSequence$1CharIterator"), (5, .class_ 67), (0, u "java/lang/Object")] 63

/-- java/lang/CharSequence -/
def k5 : Class := { plain "java/lang/CharSequence" (some 0) with
  accessFlags := 1537
  interfaces := #[]
  cf := some (fileOf pool5 2 #[.nestMembers #[47, 59]] #[] 1537 66 #[] #[])
  fields := #[]
  methods := #[]
  instanceTypes := #[]
  staticTypes := #[]
  resolved := Array.replicate 131 none
  statics := none }

def pool6 : Array CpInfo := pool [(1, .class_ 2), (0, u "java/lang/constant/Constable"), (0, .class_ 4), (0, u "java/lang/Object")] 6

/-- java/lang/constant/Constable -/
def k6 : Class := { plain "java/lang/constant/Constable" (some 0) with
  accessFlags := 1537
  interfaces := #[]
  cf := some (fileOf pool6 1 #[] #[] 1537 3 #[] #[])
  fields := #[]
  methods := #[]
  instanceTypes := #[]
  staticTypes := #[]
  resolved := Array.replicate 11 none
  statics := none }

def pool7 : Array CpInfo := pool [(1, .class_ 2), (0, u "java/lang/constant/ConstantDesc"), (0, .class_ 4), (0, u "java/lang/Object")] 32

/-- java/lang/constant/ConstantDesc -/
def k7 : Class := { plain "java/lang/constant/ConstantDesc" (some 0) with
  accessFlags := 1537
  interfaces := #[]
  cf := some (fileOf pool7 1 #[] #[] 1537 3 #[] #[])
  fields := #[]
  methods := #[]
  instanceTypes := #[]
  staticTypes := #[]
  resolved := Array.replicate 37 none
  statics := none }

def pool8 : Array CpInfo := pool [(1, .methodref 2 3), (0, .class_ 4), (0, .nameAndType 5 6), (0, u "java/lang/Object"), (0, u "<init>"), (0, u "()V"), (0, .string 8), (0, u ""), (0, .fieldref 10 11), (0, .class_ 12), (0, .nameAndType 13 14), (0, u "java/lang/String"), (0, u "value"), (0, u "[B"), (0, .fieldref 10 16), (0, .nameAndType 17 18), (0, u "coder"), (0, u "B"), (2, u "hash"), (0, u "I"), (2, u "hashIsZero"), (0, u "Z"), (0, .methodref 10 28), (0, .nameAndType 5 29), (0, u "([CIILjava/lang/Void;)V"), (8, .fieldref 10 39), (0, .nameAndType 40 26), (0, u "COMPACT_STRINGS"), (1, .class_ 44), (1, u "java/lang/StringUTF16"), (0, u "compress"), (1, .methodref 42 48), (0, .nameAndType 49 50), (0, u "coderFromArrayLen"), (0, u "([BI)B"), (56, .class_ 109), (1, u "java/lang/StringLatin1"), (67, .methodref 42 178), (0, .nameAndType 45 179), (0, u "([CII)[B"), (361, .methodref 107 542), (0, .nameAndType 543 544), (0, u "equals"), (0, u "([B[B)Z"), (28, u "(Ljava/lang/Object;)Z"), (1, .class_ 576), (0, u "java/lang/CharSequence"), (22, u "CASE_INSENSITIVE_ORDER"), (0, u "Ljava/util/Comparator;"), (409, u "([C)V"), (90, u "serialPersistentFields"), (0, u "[Ljava/io/ObjectStreamField;"), (0, .class_ 1104), (0, u "java/lang/String$CaseInsensitiveComparator"), (1, .class_ 1107), (0, u "java/io/Serializable"), (0, .class_ 1109), (0, u "java/lang/Comparable"), (0, .class_ 1111), (0, u "java/lang/constant/Constable"), (0, .class_ 1113), (0, u "java/lang/constant/ConstantDesc"), (2, u "serialVersionUID"), (0, u "J"), (3, u "REPL"), (0, u "C"), (2, u "LATIN1"), (1, u "UTF16")] 323

def k8m0 : Method := { name := "<init>", desc := "()V", sig := { parameters := [], returnType := none }, accessFlags := 1, code := none }
def k8c1 : Code := { maxStack := 5, maxLocals := 2, code := jdk_42_method_3_code, exceptionTable := #[], attributes := #[] }
def k8m1 : Method := { name := "<init>", desc := "([C)V", sig := { parameters := [(.array .char)], returnType := none }, accessFlags := 1, code := some k8c1 }
def k8c2 : Code := { maxStack := 2, maxLocals := 3, code := jdk_42_method_66_code, exceptionTable := #[], attributes := #[] }
def k8m2 : Method := { name := "equals", desc := "(Ljava/lang/Object;)Z", sig := { parameters := [(.object "java/lang/Object")], returnType := some .boolean }, accessFlags := 1, code := some k8c2 }
def k8c3 : Code := { maxStack := 4, maxLocals := 6, code := jdk_42_method_149_code, exceptionTable := #[], attributes := #[] }
def k8m3 : Method := { name := "<init>", desc := "([CIILjava/lang/Void;)V", sig := { parameters := [(.array .char), .int, .int, (.object "java/lang/Void")], returnType := none }, accessFlags := 2, code := some k8c3 }
/-- java/lang/String -/
def k8 : Class := { plain "java/lang/String" (some 0) with
  accessFlags := 49
  interfaces := #[3, 4, 5, 6, 7]
  cf := some (fileOf pool8 10 #[.nestMembers #[1103]] #[{ accessFlags := 1, nameIndex := 5, descriptorIndex := 6, attributes := #[] }, { accessFlags := 1, nameIndex := 5, descriptorIndex := 1010, attributes := #[] }, { accessFlags := 1, nameIndex := 543, descriptorIndex := 573, attributes := #[] }, { accessFlags := 2, nameIndex := 5, descriptorIndex := 29, attributes := #[] }] 49 2 #[1106, 1108, 575, 1110, 1112] #[{ accessFlags := 18, nameIndex := 13, descriptorIndex := 14, attributes := #[] }, { accessFlags := 18, nameIndex := 17, descriptorIndex := 18, attributes := #[] }, { accessFlags := 2, nameIndex := 21, descriptorIndex := 22, attributes := #[] }, { accessFlags := 2, nameIndex := 25, descriptorIndex := 26, attributes := #[] }, { accessFlags := 26, nameIndex := 1116, descriptorIndex := 1117, attributes := #[] }, { accessFlags := 24, nameIndex := 40, descriptorIndex := 26, attributes := #[] }, { accessFlags := 26, nameIndex := 1101, descriptorIndex := 1102, attributes := #[] }, { accessFlags := 26, nameIndex := 1121, descriptorIndex := 1122, attributes := #[] }, { accessFlags := 25, nameIndex := 599, descriptorIndex := 600, attributes := #[] }, { accessFlags := 24, nameIndex := 1125, descriptorIndex := 18, attributes := #[] }, { accessFlags := 24, nameIndex := 1127, descriptorIndex := 18, attributes := #[] }])
  fields := #[{ name := "value", type := (.array .byte), accessFlags := 18, slot := 0, constantValue := 0 }, { name := "coder", type := .byte, accessFlags := 18, slot := 1, constantValue := 0 }, { name := "hash", type := .int, accessFlags := 2, slot := 2, constantValue := 0 }, { name := "hashIsZero", type := .boolean, accessFlags := 2, slot := 3, constantValue := 0 }, { name := "serialVersionUID", type := .long, accessFlags := 26, slot := 0, constantValue := 0 }, { name := "COMPACT_STRINGS", type := .boolean, accessFlags := 24, slot := 1, constantValue := 0 }, { name := "serialPersistentFields", type := (.array (.object "java/io/ObjectStreamField")), accessFlags := 26, slot := 2, constantValue := 0 }, { name := "REPL", type := .char, accessFlags := 26, slot := 3, constantValue := 0 }, { name := "CASE_INSENSITIVE_ORDER", type := (.object "java/util/Comparator"), accessFlags := 25, slot := 4, constantValue := 0 }, { name := "LATIN1", type := .byte, accessFlags := 24, slot := 5, constantValue := 0 }, { name := "UTF16", type := .byte, accessFlags := 24, slot := 6, constantValue := 0 }]
  methods := #[k8m0, k8m1, k8m2, k8m3]
  instanceTypes := #[(.array .byte), .byte, .int, .boolean]
  staticTypes := #[.long, .boolean, (.array (.object "java/io/ObjectStreamField")), .char, (.object "java/util/Comparator"), .byte, .byte]
  resolved := Array.replicate 1451 none
  statics := some 0 }

def pool9 : Array CpInfo := pool [(6, .class_ 8), (1, u "java/lang/Object"), (0, u "<init>"), (0, u "()V"), (1, .class_ 14), (1, u "java/lang/StringUTF16"), (31, u "$assertionsDisabled"), (0, u "Z"), (13, u "HI_BYTE_SHIFT"), (0, u "I"), (2, u "LO_BYTE_SHIFT"), (49, .methodref 12 116), (0, .nameAndType 117 118), (0, u "compress"), (0, u "([CI[BII)I"), (3, u "([CII)[B"), (138, u "coderFromArrayLen"), (0, u "([BI)B"), (106, .class_ 371), (1, u "java/lang/StringUTF16$LinesSpliterator"), (58, u "MAX_LENGTH"), (196, .class_ 628), (0, u "java/lang/StringUTF16$CodePointsSpliterator"), (0, .class_ 630), (0, u "java/lang/StringUTF16$CharsSpliterator")] 4

def k9m0 : Method := { name := "<init>", desc := "()V", sig := { parameters := [], returnType := none }, accessFlags := 0, code := none }
def k9c1 : Code := { maxStack := 2, maxLocals := 2, code := jdk_52_method_15_code, exceptionTable := #[], attributes := #[] }
def k9m1 : Method := { name := "coderFromArrayLen", desc := "([BI)B", sig := { parameters := [(.array .byte), .int], returnType := some .byte }, accessFlags := 8, code := some k9c1 }
def k9c2 : Code := { maxStack := 5, maxLocals := 6, code := jdk_52_method_16_code, exceptionTable := #[], attributes := #[] }
def k9m2 : Method := { name := "compress", desc := "([CII)[B", sig := { parameters := [(.array .char), .int, .int], returnType := some (.array .byte) }, accessFlags := 9, code := some k9c2 }
def k9c3 : Code := { maxStack := 3, maxLocals := 7, code := jdk_52_method_21_code, exceptionTable := #[], attributes := #[] }
def k9m3 : Method := { name := "compress", desc := "([CI[BII)I", sig := { parameters := [(.array .char), .int, (.array .byte), .int, .int], returnType := some .int }, accessFlags := 9, code := some k9c3 }
/-- java/lang/StringUTF16 -/
def k9 : Class := { plain "java/lang/StringUTF16" (some 0) with
  accessFlags := 48
  interfaces := #[]
  cf := some (fileOf pool9 12 #[.nestMembers #[627, 629, 369]] #[{ accessFlags := 0, nameIndex := 9, descriptorIndex := 10, attributes := #[] }, { accessFlags := 8, nameIndex := 261, descriptorIndex := 262, attributes := #[] }, { accessFlags := 9, nameIndex := 117, descriptorIndex := 122, attributes := #[] }, { accessFlags := 9, nameIndex := 117, descriptorIndex := 118, attributes := #[] }] 48 6 #[] #[{ accessFlags := 26, nameIndex := 61, descriptorIndex := 62, attributes := #[] }, { accessFlags := 26, nameIndex := 65, descriptorIndex := 62, attributes := #[] }, { accessFlags := 24, nameIndex := 430, descriptorIndex := 62, attributes := #[] }, { accessFlags := 4120, nameIndex := 46, descriptorIndex := 47, attributes := #[] }])
  fields := #[{ name := "HI_BYTE_SHIFT", type := .int, accessFlags := 26, slot := 0, constantValue := 0 }, { name := "LO_BYTE_SHIFT", type := .int, accessFlags := 26, slot := 1, constantValue := 0 }, { name := "MAX_LENGTH", type := .int, accessFlags := 24, slot := 2, constantValue := 0 }, { name := "$assertionsDisabled", type := .boolean, accessFlags := 4120, slot := 3, constantValue := 0 }]
  methods := #[k9m0, k9m1, k9m2, k9m3]
  instanceTypes := #[]
  staticTypes := #[.int, .int, .int, .boolean]
  resolved := Array.replicate 635 none
  statics := none }

def pool10 : Array CpInfo := pool [(2, .class_ 4), (1, u "java/lang/Object"), (0, u "<init>"), (0, u "()V"), (35, .class_ 44), (1, u "java/util/Objects"), (0, u "requireNonNull"), (48, u "(Ljava/lang/Object;Ljava/lang/String;)Ljava/lang/Object;")] 89

def k10m0 : Method := { name := "<init>", desc := "()V", sig := { parameters := [], returnType := none }, accessFlags := 2, code := none }
def k10c1 : Code := { maxStack := 3, maxLocals := 2, code := jdk_31_method_11_code, exceptionTable := #[], attributes := #[] }
def k10m1 : Method := { name := "requireNonNull", desc := "(Ljava/lang/Object;Ljava/lang/String;)Ljava/lang/Object;", sig := { parameters := [(.object "java/lang/Object"), (.object "java/lang/String")], returnType := some (.object "java/lang/Object") }, accessFlags := 9, code := some k10c1 }
/-- java/util/Objects -/
def k10 : Class := { plain "java/util/Objects" (some 0) with
  accessFlags := 49
  interfaces := #[]
  cf := some (fileOf pool10 42 #[] #[{ accessFlags := 2, nameIndex := 5, descriptorIndex := 6, attributes := #[] }, { accessFlags := 9, nameIndex := 45, descriptorIndex := 94, attributes := #[] }] 49 2 #[] #[])
  fields := #[]
  methods := #[k10m0, k10m1]
  instanceTypes := #[]
  staticTypes := #[]
  resolved := Array.replicate 184 none
  statics := none }

def pool11 : Array CpInfo := pool [(4, .class_ 6), (1, u "java/lang/Object"), (0, u "<init>"), (0, u "()V"), (5, .class_ 16), (1, u "java/lang/StringLatin1"), (104, u "$assertionsDisabled"), (0, u "Z"), (98, .class_ 223), (1, u "java/lang/StringLatin1$LinesSpliterator"), (57, u "equals"), (0, u "([B[B)Z"), (107, .class_ 391), (0, u "java/lang/StringLatin1$CharsSpliterator")] 3

def k11m0 : Method := { name := "<init>", desc := "()V", sig := { parameters := [], returnType := none }, accessFlags := 0, code := none }
def k11c1 : Code := { maxStack := 3, maxLocals := 3, code := jdk_43_method_13_code, exceptionTable := #[], attributes := #[] }
def k11m1 : Method := { name := "equals", desc := "([B[B)Z", sig := { parameters := [(.array .byte), (.array .byte)], returnType := some .boolean }, accessFlags := 9, code := some k11c1 }
/-- java/lang/StringLatin1 -/
def k11 : Class := { plain "java/lang/StringLatin1" (some 0) with
  accessFlags := 48
  interfaces := #[]
  cf := some (fileOf pool11 14 #[.nestMembers #[390, 221]] #[{ accessFlags := 0, nameIndex := 7, descriptorIndex := 8, attributes := #[] }, { accessFlags := 9, nameIndex := 281, descriptorIndex := 282, attributes := #[] }] 48 4 #[] #[{ accessFlags := 4120, nameIndex := 121, descriptorIndex := 122, attributes := #[] }])
  fields := #[{ name := "$assertionsDisabled", type := .boolean, accessFlags := 4120, slot := 0, constantValue := 0 }]
  methods := #[k11m0, k11m1]
  instanceTypes := #[]
  staticTypes := #[.boolean]
  resolved := Array.replicate 395 none
  statics := none }

def pool12 : Array CpInfo := pool [(2, .class_ 4), (1, u "java/lang/Object"), (0, u "<init>"), (0, u "()V"), (17, .class_ 26), (1, u "jdk/internal/util/Preconditions"), (28, .class_ 56), (0, u "jdk/internal/util/Preconditions$4"), (57, .class_ 115), (0, u "jdk/internal/util/Preconditions$1"), (7, u "SIOOBE_FORMATTER"), (0, u "Ljava/util/function/BiFunction;"), (0, .class_ 126), (0, u "jdk/internal/util/Preconditions$2"), (3, u "AIOOBE_FORMATTER"), (0, .class_ 132), (0, u "jdk/internal/util/Preconditions$3"), (3, u "IOOBE_FORMATTER")] 57

def k12m0 : Method := { name := "<init>", desc := "()V", sig := { parameters := [], returnType := none }, accessFlags := 1, code := none }
/-- jdk/internal/util/Preconditions -/
def k12 : Class := { plain "jdk/internal/util/Preconditions" (some 0) with
  accessFlags := 33
  interfaces := #[]
  cf := some (fileOf pool12 24 #[.nestMembers #[55, 131, 125, 114]] #[{ accessFlags := 1, nameIndex := 5, descriptorIndex := 6, attributes := #[] }] 33 2 #[] #[{ accessFlags := 25, nameIndex := 123, descriptorIndex := 124, attributes := #[] }, { accessFlags := 25, nameIndex := 130, descriptorIndex := 124, attributes := #[] }, { accessFlags := 25, nameIndex := 136, descriptorIndex := 124, attributes := #[] }])
  fields := #[{ name := "SIOOBE_FORMATTER", type := (.object "java/util/function/BiFunction"), accessFlags := 25, slot := 0, constantValue := 0 }, { name := "AIOOBE_FORMATTER", type := (.object "java/util/function/BiFunction"), accessFlags := 25, slot := 1, constantValue := 0 }, { name := "IOOBE_FORMATTER", type := (.object "java/util/function/BiFunction"), accessFlags := 25, slot := 2, constantValue := 0 }]
  methods := #[k12m0]
  instanceTypes := #[]
  staticTypes := #[(.object "java/util/function/BiFunction"), (.object "java/util/function/BiFunction"), (.object "java/util/function/BiFunction")]
  resolved := Array.replicate 194 none
  statics := some 1 }

def pool13 : Array CpInfo := pool [(9, u "<init>"), (6, .class_ 18), (1, u "java/lang/Object"), (0, u "()V"), (1, .class_ 23), (1, u "jdk/internal/util/ArraysSupport"), (0, u "LOG2_ARRAY_LONG_INDEX_SCALE"), (0, u "I"), (2, u "U"), (0, u "Ljdk/internal/misc/Unsafe;"), (8, u "BIG_ENDIAN"), (0, u "Z"), (8, u "LOG2_BYTE_BIT_SIZE"), (4, u "LOG2_ARRAY_INT_INDEX_SCALE"), (54, u "JLA"), (0, u "Ljdk/internal/access/JavaLangAccess;"), (11, u "LOG2_ARRAY_BOOLEAN_INDEX_SCALE"), (9, u "LOG2_ARRAY_BYTE_INDEX_SCALE"), (5, u "LOG2_ARRAY_CHAR_INDEX_SCALE"), (5, u "LOG2_ARRAY_SHORT_INDEX_SCALE"), (18, u "LOG2_ARRAY_FLOAT_INDEX_SCALE"), (24, u "LOG2_ARRAY_DOUBLE_INDEX_SCALE"), (89, u "T_BOOLEAN"), (2, u "T_CHAR"), (1, u "T_FLOAT"), (1, u "T_DOUBLE"), (1, u "T_BYTE"), (1, u "T_SHORT"), (1, u "T_INT"), (1, u "T_LONG"), (1, u "SOFT_MAX_ARRAY_LENGTH")] 83

def k13m0 : Method := { name := "<init>", desc := "()V", sig := { parameters := [], returnType := none }, accessFlags := 2, code := none }
/-- jdk/internal/util/ArraysSupport -/
def k13 : Class := { plain "jdk/internal/util/ArraysSupport" (some 0) with
  accessFlags := 33
  interfaces := #[]
  cf := some (fileOf pool13 21 #[] #[{ accessFlags := 2, nameIndex := 9, descriptorIndex := 19, attributes := #[] }] 33 16 #[] #[{ accessFlags := 24, nameIndex := 28, descriptorIndex := 29, attributes := #[] }, { accessFlags := 26, nameIndex := 38, descriptorIndex := 39, attributes := #[] }, { accessFlags := 25, nameIndex := 121, descriptorIndex := 25, attributes := #[] }, { accessFlags := 25, nameIndex := 131, descriptorIndex := 25, attributes := #[] }, { accessFlags := 25, nameIndex := 137, descriptorIndex := 25, attributes := #[] }, { accessFlags := 25, nameIndex := 143, descriptorIndex := 25, attributes := #[] }, { accessFlags := 25, nameIndex := 53, descriptorIndex := 25, attributes := #[] }, { accessFlags := 25, nameIndex := 24, descriptorIndex := 25, attributes := #[] }, { accessFlags := 25, nameIndex := 162, descriptorIndex := 25, attributes := #[] }, { accessFlags := 25, nameIndex := 187, descriptorIndex := 25, attributes := #[] }, { accessFlags := 26, nameIndex := 48, descriptorIndex := 25, attributes := #[] }, { accessFlags := 25, nameIndex := 277, descriptorIndex := 25, attributes := #[] }, { accessFlags := 25, nameIndex := 280, descriptorIndex := 25, attributes := #[] }, { accessFlags := 25, nameIndex := 282, descriptorIndex := 25, attributes := #[] }, { accessFlags := 25, nameIndex := 284, descriptorIndex := 25, attributes := #[] }, { accessFlags := 25, nameIndex := 286, descriptorIndex := 25, attributes := #[] }, { accessFlags := 25, nameIndex := 288, descriptorIndex := 25, attributes := #[] }, { accessFlags := 25, nameIndex := 290, descriptorIndex := 25, attributes := #[] }, { accessFlags := 25, nameIndex := 292, descriptorIndex := 25, attributes := #[] }, { accessFlags := 26, nameIndex := 108, descriptorIndex := 109, attributes := #[] }, { accessFlags := 25, nameIndex := 294, descriptorIndex := 25, attributes := #[] }])
  fields := #[{ name := "U", type := (.object "jdk/internal/misc/Unsafe"), accessFlags := 24, slot := 0, constantValue := 0 }, { name := "BIG_ENDIAN", type := .boolean, accessFlags := 26, slot := 1, constantValue := 0 }, { name := "LOG2_ARRAY_BOOLEAN_INDEX_SCALE", type := .int, accessFlags := 25, slot := 2, constantValue := 0 }, { name := "LOG2_ARRAY_BYTE_INDEX_SCALE", type := .int, accessFlags := 25, slot := 3, constantValue := 0 }, { name := "LOG2_ARRAY_CHAR_INDEX_SCALE", type := .int, accessFlags := 25, slot := 4, constantValue := 0 }, { name := "LOG2_ARRAY_SHORT_INDEX_SCALE", type := .int, accessFlags := 25, slot := 5, constantValue := 0 }, { name := "LOG2_ARRAY_INT_INDEX_SCALE", type := .int, accessFlags := 25, slot := 6, constantValue := 0 }, { name := "LOG2_ARRAY_LONG_INDEX_SCALE", type := .int, accessFlags := 25, slot := 7, constantValue := 0 }, { name := "LOG2_ARRAY_FLOAT_INDEX_SCALE", type := .int, accessFlags := 25, slot := 8, constantValue := 0 }, { name := "LOG2_ARRAY_DOUBLE_INDEX_SCALE", type := .int, accessFlags := 25, slot := 9, constantValue := 0 }, { name := "LOG2_BYTE_BIT_SIZE", type := .int, accessFlags := 26, slot := 10, constantValue := 0 }, { name := "T_BOOLEAN", type := .int, accessFlags := 25, slot := 11, constantValue := 0 }, { name := "T_CHAR", type := .int, accessFlags := 25, slot := 12, constantValue := 0 }, { name := "T_FLOAT", type := .int, accessFlags := 25, slot := 13, constantValue := 0 }, { name := "T_DOUBLE", type := .int, accessFlags := 25, slot := 14, constantValue := 0 }, { name := "T_BYTE", type := .int, accessFlags := 25, slot := 15, constantValue := 0 }, { name := "T_SHORT", type := .int, accessFlags := 25, slot := 16, constantValue := 0 }, { name := "T_INT", type := .int, accessFlags := 25, slot := 17, constantValue := 0 }, { name := "T_LONG", type := .int, accessFlags := 25, slot := 18, constantValue := 0 }, { name := "JLA", type := (.object "jdk/internal/access/JavaLangAccess"), accessFlags := 26, slot := 19, constantValue := 0 }, { name := "SOFT_MAX_ARRAY_LENGTH", type := .int, accessFlags := 25, slot := 20, constantValue := 0 }]
  methods := #[k13m0]
  instanceTypes := #[]
  staticTypes := #[(.object "jdk/internal/misc/Unsafe"), .boolean, .int, .int, .int, .int, .int, .int, .int, .int, .int, .int, .int, .int, .int, .int, .int, .int, .int, (.object "jdk/internal/access/JavaLangAccess"), .int]
  resolved := Array.replicate 378 none
  statics := none }

def pool14 : Array CpInfo := pool [(1, u "java/lang/Cloneable"), (0, .class_ 1), (0, u "java/lang/Object"), (0, .class_ 3)] 3

/-- java/lang/Cloneable -/
def k14 : Class := { plain "java/lang/Cloneable" (some 0) with
  accessFlags := 1537
  interfaces := #[]
  cf := some (fileOf pool14 2 #[] #[] 1537 4 #[] #[])
  fields := #[]
  methods := #[]
  instanceTypes := #[]
  staticTypes := #[]
  resolved := Array.replicate 8 none
  statics := none }

/-- the primitive byte -/
def k15 : Class := { plain "byte" none with kind := .primitive 'B', accessFlags := 0x411 }
/-- [B -/
def k16 : Class := { plain "[B" (some 0) with kind := .array 15 .byte, interfaces := #[14, 3], accessFlags := 1041 }

/-- the primitive char -/
def k17 : Class := { plain "char" none with kind := .primitive 'C', accessFlags := 0x411 }
/-- [C -/
def k18 : Class := { plain "[C" (some 0) with kind := .array 17 .char, interfaces := #[14, 3], accessFlags := 1041 }

/-- the primitive int -/
def k19 : Class := { plain "int" none with kind := .primitive 'I', accessFlags := 0x411 }
/-- [I -/
def k20 : Class := { plain "[I" (some 0) with kind := .array 19 .int, interfaces := #[14, 3], accessFlags := 1041 }

def heap : Heap := #[{ cls := 8, slots := #[.long 0, .int 1, .null, .int 0, .null, .int 0, .int 0], vm := .statics 8 },
  { cls := 12, slots := #[.null, .null, .null], vm := .statics 12 }]
def classes : Array Class := #[k0, k1, k2, k3, k4, k5, k6, k7, k8, k9, k10, k11, k12, k13, k14, k15, k16, k17, k18, k19, k20]
def interned : List (Array UInt16 × Addr) := []
def slotsUsed : Nat := 10
def theMethod : MethodId := ⟨1, 4⟩
def args0 : Array Value := #[.int 5, .int 5, .int 5, .int 5, .int 5]
def aboutOver (below : List Frame) : State where
  vm := { classes := classes, interned := interned.toArray }
  heap := heap
  slotsUsed := slotsUsed
  threads := #[{ frames := .invoking theMethod args0 :: below }]
def below0 : List Frame := [.native { method := ⟨0, 0⟩, args := #[] }]
def about1 : State := aboutOver below0
def p0 : Program := .bare "" "" ""
def e0 : Env := launch0.env 0 0 0
theorem w_frames : about1.frames = Frame.invoking theMethod args0 :: below0 := rfl
set_option maxRecDepth 65536 in
theorem w_args : argsFit about1.vm theMethod args0 = true := by decide +kernel
set_option maxRecDepth 65536 in
theorem w_heap : heapFits about1 = true := by decide +kernel
set_option maxRecDepth 65536 in
theorem w_runnable : about1.curStatus? = some .runnable := by decide +kernel
set_option maxRecDepth 65536 in
theorem w_alone : about1.alone = true := by decide +kernel
set_option maxRecDepth 65536 in
theorem w_named : about1.methodNamed? x = some theMethod := by decide +kernel
set_option maxRecDepth 65536 in
theorem w_hears : about1.hears theMethod below0 = true := by decide +kernel
set_option maxRecDepth 65536 in
theorem w_ripe : about1.ripe theMethod args0 below0 = true := by decide +kernel
theorem w_running : about1.status = .running := rfl
set_option maxRecDepth 65536 in
theorem w_room : about1.hasRoom e0.platform room_1 = true :=
  launch0.hasRoom_least _ room_1 (by decide +kernel) (by decide +kernel) (by decide +kernel) (by decide +kernel) (by decide +kernel) (by decide +kernel)
theorem allAtoms_all (ts : List Jvm.Cond) (a : Array Jvm.Value) (st : Jvm.State) : (allAtoms ts).before a st = ts.all (fun c => c.before a st) := by
  induction ts with
  | nil => rfl
  | cons c t ih =>
    show (Jvm.Cond.and c (allAtoms t)).before a st = _
    rw [Jvm.Cond.before_and, ih, List.all_cons]
def words1 : List Jvm.Cond := Jvm.Cond.code x code maxLocals ret :: tables_1
/-- a 'code' word, met by the world's own term for the bytes: nothing is compared byte by byte -/
theorem code_word {y : MethodName} {bytes : ByteArray} {mx : Nat} {rt : Option FieldType} {a : Array Value} {s : State} {m : MethodId} {meth : Method} {c : Code} (h1 : s.methodNamed? y = some m) (h2 : s.vm.method? m = some meth) (h3 : meth.code = some c) (h4 : c.code = bytes)
    (h5 : (c.maxLocals == mx && c.exceptionTable.isEmpty && decide (c.maxStack ≤ mostOperands) && decide (meth.sig.returnType = rt) && !meth.locks && decide (parseMethodDescriptor y.desc = some meth.sig)) = true) : (Jvm.Cond.code y bytes mx rt).before a s = true := by
  simp only [Bool.and_eq_true, beq_iff_eq, Bool.not_eq_true', decide_eq_true_eq] at h5
  obtain ⟨⟨⟨⟨⟨g1, g2⟩, g3⟩, g4⟩, g5⟩, g6⟩ := h5
  simp [Cond.before, Cond.holds, Cond.value, h1, h2, h3, h4, g1, g2, g3, g4, g5, g6]
def isCode : Jvm.Cond → Bool
  | .code _ _ _ _ => true
  | _ => false
theorem all_split {L : List Jvm.Cond} {P : Jvm.Cond → Bool} (h1 : L.all (fun c => isCode c || P c) = true) (h2 : ∀ c ∈ L.filter isCode, P c = true) : L.all P = true := by
  refine List.all_eq_true.mpr fun c hc => ?_
  have h := List.all_eq_true.mp h1 c hc
  rcases Bool.eq_false_or_eq_true (isCode c) with hi | hi
  · exact h2 c (List.mem_filter.mpr ⟨hc, hi⟩)
  · simpa [hi] using h
set_option maxRecDepth 65536 in
theorem w_c0 : (Jvm.Cond.code x code maxLocals ret).before args0 about1 = true := code_word (m := ⟨1, 4⟩) (meth := k1m4) (c := k1c4) (by decide +kernel) rfl rfl rfl (by decide +kernel)
set_option maxRecDepth 65536 in
theorem w_c1 : (Jvm.Cond.code ({ cls := "com/example/ullr/ullr/files/ListedLinkEqualsPinLaw", name := "mk", desc := "(I)Ljava/lang/String;" } : Jvm.MethodName) method_3_code (3 : Nat) (Option.some (Jvm.ClassFile.FieldType.object "java/lang/String"))).before args0 about1 = true := code_word (m := ⟨1, 2⟩) (meth := k1m2) (c := k1c2) (by decide +kernel) rfl rfl rfl (by decide +kernel)
set_option maxRecDepth 65536 in
theorem w_c2 : (Jvm.Cond.code ({ cls := "java/lang/String", name := "<init>", desc := "([C)V" } : Jvm.MethodName) jdk_42_method_3_code (2 : Nat) (Option.none : Option Jvm.ClassFile.FieldType)).before args0 about1 = true := code_word (m := ⟨8, 1⟩) (meth := k8m1) (c := k8c1) (by decide +kernel) rfl rfl rfl (by decide +kernel)
set_option maxRecDepth 65536 in
theorem w_c3 : (Jvm.Cond.code ({ cls := "java/lang/String", name := "<init>", desc := "([CIILjava/lang/Void;)V" } : Jvm.MethodName) jdk_42_method_149_code (6 : Nat) (Option.none : Option Jvm.ClassFile.FieldType)).before args0 about1 = true := code_word (m := ⟨8, 3⟩) (meth := k8m3) (c := k8c3) (by decide +kernel) rfl rfl rfl (by decide +kernel)
set_option maxRecDepth 65536 in
theorem w_c4 : (Jvm.Cond.code ({ cls := "java/lang/Object", name := "<init>", desc := "()V" } : Jvm.MethodName) object_method_1_code (1 : Nat) (Option.none : Option Jvm.ClassFile.FieldType)).before args0 about1 = true := code_word (m := ⟨0, 0⟩) (meth := k0m0) (c := k0c0) (by decide +kernel) rfl rfl rfl (by decide +kernel)
set_option maxRecDepth 65536 in
theorem w_c5 : (Jvm.Cond.code ({ cls := "com/example/ullr/ullr/files/ListedLinkEqualsPinLaw", name := "ch", desc := "(II)C" } : Jvm.MethodName) method_2_code (2 : Nat) (Option.some Jvm.ClassFile.FieldType.char)).before args0 about1 = true := code_word (m := ⟨1, 1⟩) (meth := k1m1) (c := k1c1) (by decide +kernel) rfl rfl rfl (by decide +kernel)
set_option maxRecDepth 65536 in
theorem w_c6 : (Jvm.Cond.code ({ cls := "java/lang/StringUTF16", name := "compress", desc := "([CII)[B" } : Jvm.MethodName) jdk_52_method_16_code (6 : Nat) (Option.some (Jvm.ClassFile.FieldType.array Jvm.ClassFile.FieldType.byte))).before args0 about1 = true := code_word (m := ⟨9, 2⟩) (meth := k9m2) (c := k9c2) (by decide +kernel) rfl rfl rfl (by decide +kernel)
set_option maxRecDepth 65536 in
theorem w_c7 : (Jvm.Cond.code ({ cls := "java/lang/StringUTF16", name := "compress", desc := "([CI[BII)I" } : Jvm.MethodName) jdk_52_method_21_code (7 : Nat) (Option.some Jvm.ClassFile.FieldType.int)).before args0 about1 = true := code_word (m := ⟨9, 3⟩) (meth := k9m3) (c := k9c3) (by decide +kernel) rfl rfl rfl (by decide +kernel)
set_option maxRecDepth 65536 in
theorem w_c8 : (Jvm.Cond.code ({ cls := "java/lang/StringUTF16", name := "coderFromArrayLen", desc := "([BI)B" } : Jvm.MethodName) jdk_52_method_15_code (2 : Nat) (Option.some Jvm.ClassFile.FieldType.byte)).before args0 about1 = true := code_word (m := ⟨9, 1⟩) (meth := k9m1) (c := k9c1) (by decide +kernel) rfl rfl rfl (by decide +kernel)
set_option maxRecDepth 65536 in
theorem w_c9 : (Jvm.Cond.code ({ cls := "com/example/ullr/ullr/files/ListedLink", name := "<init>", desc := "(Ljava/lang/String;Ljava/lang/String;)V" } : Jvm.MethodName) prog_27_method_1_code (3 : Nat) (Option.none : Option Jvm.ClassFile.FieldType)).before args0 about1 = true := code_word (m := ⟨2, 0⟩) (meth := k2m0) (c := k2c0) (by decide +kernel) rfl rfl rfl (by decide +kernel)
set_option maxRecDepth 65536 in
theorem w_c10 : (Jvm.Cond.code ({ cls := "java/util/Objects", name := "requireNonNull", desc := "(Ljava/lang/Object;Ljava/lang/String;)Ljava/lang/Object;" } : Jvm.MethodName) jdk_31_method_11_code (2 : Nat) (Option.some (Jvm.ClassFile.FieldType.object "java/lang/Object"))).before args0 about1 = true := code_word (m := ⟨10, 1⟩) (meth := k10m1) (c := k10c1) (by decide +kernel) rfl rfl rfl (by decide +kernel)
set_option maxRecDepth 65536 in
theorem w_c11 : (Jvm.Cond.code ({ cls := "com/example/ullr/ullr/files/ListedLinkEqualsPinLaw", name := "same", desc := "(II)Z" } : Jvm.MethodName) method_4_code (3 : Nat) (Option.some Jvm.ClassFile.FieldType.boolean)).before args0 about1 = true := code_word (m := ⟨1, 3⟩) (meth := k1m3) (c := k1c3) (by decide +kernel) rfl rfl rfl (by decide +kernel)
set_option maxRecDepth 65536 in
theorem w_c12 : (Jvm.Cond.code ({ cls := "com/example/ullr/ullr/files/ListedLink", name := "equals", desc := "(Ljava/lang/Object;)Z" } : Jvm.MethodName) prog_27_method_4_code (3 : Nat) (Option.some Jvm.ClassFile.FieldType.boolean)).before args0 about1 = true := code_word (m := ⟨2, 1⟩) (meth := k2m1) (c := k2c1) (by decide +kernel) rfl rfl rfl (by decide +kernel)
set_option maxRecDepth 65536 in
theorem w_c13 : (Jvm.Cond.code ({ cls := "java/lang/String", name := "equals", desc := "(Ljava/lang/Object;)Z" } : Jvm.MethodName) jdk_42_method_66_code (3 : Nat) (Option.some Jvm.ClassFile.FieldType.boolean)).before args0 about1 = true := code_word (m := ⟨8, 2⟩) (meth := k8m2) (c := k8c2) (by decide +kernel) rfl rfl rfl (by decide +kernel)
set_option maxRecDepth 65536 in
theorem w_c14 : (Jvm.Cond.code ({ cls := "java/lang/StringLatin1", name := "equals", desc := "([B[B)Z" } : Jvm.MethodName) jdk_43_method_13_code (3 : Nat) (Option.some Jvm.ClassFile.FieldType.boolean)).before args0 about1 = true := code_word (m := ⟨11, 1⟩) (meth := k11m1) (c := k11c1) (by decide +kernel) rfl rfl rfl (by decide +kernel)
def codes1 : List Jvm.Cond := [Jvm.Cond.code x code maxLocals ret, Jvm.Cond.code ({ cls := "com/example/ullr/ullr/files/ListedLinkEqualsPinLaw", name := "mk", desc := "(I)Ljava/lang/String;" } : Jvm.MethodName) method_3_code (3 : Nat) (Option.some (Jvm.ClassFile.FieldType.object "java/lang/String")), Jvm.Cond.code ({ cls := "java/lang/String", name := "<init>", desc := "([C)V" } : Jvm.MethodName) jdk_42_method_3_code (2 : Nat) (Option.none : Option Jvm.ClassFile.FieldType), Jvm.Cond.code ({ cls := "java/lang/String", name := "<init>", desc := "([CIILjava/lang/Void;)V" } : Jvm.MethodName) jdk_42_method_149_code (6 : Nat) (Option.none : Option Jvm.ClassFile.FieldType), Jvm.Cond.code ({ cls := "java/lang/Object", name := "<init>", desc := "()V" } : Jvm.MethodName) object_method_1_code (1 : Nat) (Option.none : Option Jvm.ClassFile.FieldType), Jvm.Cond.code ({ cls := "com/example/ullr/ullr/files/ListedLinkEqualsPinLaw", name := "ch", desc := "(II)C" } : Jvm.MethodName) method_2_code (2 : Nat) (Option.some Jvm.ClassFile.FieldType.char), Jvm.Cond.code ({ cls := "java/lang/StringUTF16", name := "compress", desc := "([CII)[B" } : Jvm.MethodName) jdk_52_method_16_code (6 : Nat) (Option.some (Jvm.ClassFile.FieldType.array Jvm.ClassFile.FieldType.byte)), Jvm.Cond.code ({ cls := "java/lang/StringUTF16", name := "compress", desc := "([CI[BII)I" } : Jvm.MethodName) jdk_52_method_21_code (7 : Nat) (Option.some Jvm.ClassFile.FieldType.int), Jvm.Cond.code ({ cls := "java/lang/StringUTF16", name := "coderFromArrayLen", desc := "([BI)B" } : Jvm.MethodName) jdk_52_method_15_code (2 : Nat) (Option.some Jvm.ClassFile.FieldType.byte), Jvm.Cond.code ({ cls := "com/example/ullr/ullr/files/ListedLink", name := "<init>", desc := "(Ljava/lang/String;Ljava/lang/String;)V" } : Jvm.MethodName) prog_27_method_1_code (3 : Nat) (Option.none : Option Jvm.ClassFile.FieldType), Jvm.Cond.code ({ cls := "java/util/Objects", name := "requireNonNull", desc := "(Ljava/lang/Object;Ljava/lang/String;)Ljava/lang/Object;" } : Jvm.MethodName) jdk_31_method_11_code (2 : Nat) (Option.some (Jvm.ClassFile.FieldType.object "java/lang/Object")), Jvm.Cond.code ({ cls := "com/example/ullr/ullr/files/ListedLinkEqualsPinLaw", name := "same", desc := "(II)Z" } : Jvm.MethodName) method_4_code (3 : Nat) (Option.some Jvm.ClassFile.FieldType.boolean), Jvm.Cond.code ({ cls := "com/example/ullr/ullr/files/ListedLink", name := "equals", desc := "(Ljava/lang/Object;)Z" } : Jvm.MethodName) prog_27_method_4_code (3 : Nat) (Option.some Jvm.ClassFile.FieldType.boolean), Jvm.Cond.code ({ cls := "java/lang/String", name := "equals", desc := "(Ljava/lang/Object;)Z" } : Jvm.MethodName) jdk_42_method_66_code (3 : Nat) (Option.some Jvm.ClassFile.FieldType.boolean), Jvm.Cond.code ({ cls := "java/lang/StringLatin1", name := "equals", desc := "([B[B)Z" } : Jvm.MethodName) jdk_43_method_13_code (3 : Nat) (Option.some Jvm.ClassFile.FieldType.boolean)]
set_option maxRecDepth 65536 in
theorem codes_eq : words1.filter isCode = codes1 := rfl
theorem w_codes : ∀ c ∈ words1.filter isCode, c.before args0 about1 = true := by
  rw [codes_eq]
  intro c hc
  simp only [codes1, List.mem_cons, List.not_mem_nil, or_false] at hc
  rcases hc with rfl | rfl | rfl | rfl | rfl | rfl | rfl | rfl | rfl | rfl | rfl | rfl | rfl | rfl | rfl
  · exact w_c0
  · exact w_c1
  · exact w_c2
  · exact w_c3
  · exact w_c4
  · exact w_c5
  · exact w_c6
  · exact w_c7
  · exact w_c8
  · exact w_c9
  · exact w_c10
  · exact w_c11
  · exact w_c12
  · exact w_c13
  · exact w_c14
set_option maxRecDepth 65536 in
theorem w_t1 : (words1.take 24).all (fun c => isCode c || c.before args0 about1) = true := by decide +kernel
set_option maxRecDepth 65536 in
theorem w_t2 : ((words1.drop 24).take 24).all (fun c => isCode c || c.before args0 about1) = true := by decide +kernel
set_option maxRecDepth 65536 in
theorem w_t3 : (((words1.drop 24).drop 24).take 24).all (fun c => isCode c || c.before args0 about1) = true := by decide +kernel
set_option maxRecDepth 65536 in
theorem w_t4 : (((words1.drop 24).drop 24).drop 24).all (fun c => isCode c || c.before args0 about1) = true := by decide +kernel
theorem w_tables : (allAtoms (Jvm.Cond.code x code maxLocals ret :: tables_1)).before args0 about1 = true := by
  rw [allAtoms_all]
  show words1.all (fun c => c.before args0 about1) = true
  refine all_split ?_ w_codes
  rw [← List.take_append_drop 24 words1, List.all_append, w_t1, ← List.take_append_drop 24 (words1.drop 24), List.all_append, w_t2, ← List.take_append_drop 24 ((words1.drop 24).drop 24), List.all_append, w_t3, w_t4]
  rfl
set_option maxRecDepth 65536 in
theorem w_rest : rest_1_c.before args0 about1 = true := by decide +kernel
set_option maxRecDepth 65536 in
theorem w_case : (Jvm.Cond.and given_1 narrow_1).before args0 about1 = true := by decide +kernel
set_option maxRecDepth 65536 in
theorem w_consts : constsHeld consts_1 about1 := Jvm.Lit.constsHeldB_iff.mp (by decide +kernel)
theorem w_applies : (headSpec (Jvm.Cond.code x code maxLocals ret :: tables_1) room_1).applies x e0.platform about1 = true :=
  (Spec.applies_iff w_frames).mpr ⟨w_running, w_runnable, w_alone, w_named, w_hears, w_ripe, w_room, w_tables⟩
theorem atStart : AtStart classFile x code maxLocals ret World_1 tables_1 room_1 Calls_1 rest_1 Pre_1 launch0 p0 e0 about1 theMethod args0 below0 :=
  ⟨lists_1, trivial, launch0.admits_env _ _ _, launch0.least_env, fairChoices_fair.cas, fairChoices_fair.clock, w_frames, w_args, w_heap, w_applies, ⟨w_consts, trivial⟩, w_rest, w_case⟩
end start1
theorem witness_1 : WitnessClaimed_1 := ⟨start1.p0, start1.e0, start1.about1, start1.theMethod, start1.args0, start1.below0, start1.atStart⟩
end Jvm.Pilot.@@N@@
