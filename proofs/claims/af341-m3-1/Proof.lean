import JvmDerived
import JvmDerived.Pilot.@@N@@Statement
import JvmDerived.Pilot.@@N@@Code
set_option linter.unusedVariables false
set_option linter.unusedSimpArgs false
namespace Jvm.RoadKit
open Sem ClassFile Op Lib Jvm.Stand Jvm.Free Jvm.LawKit
section New
variable {p : Program} {l : Launch} {e : Env} {R : Room} {s : State} {m : MethodId} {args : Array Value} {below : List Frame} {meth : Method} {c : Code} {T : State} {locs : List Loc} {cells slots : Nat}
theorem retI (X : Stand p l e R s m args below meth c T locs cells slots) (hx : p.tables.exec = Jvm.exec) {pc : Nat} {Ls : Array Slot} {z : Int32} {rest : List Value} (hret : meth.sig.returnType = some .int) (hd : decode c.code pc = .ok (.ireturn, 1)) {fs : List Frame}
    (hl : ∀ (f : JFrame) (acts : List Action), f.method = m → f.locked = none → f.entered = [] → (doReturn e (T.setTop f) acts (some (.int z))).1 = T.setFrames fs) : Steps p.tables e below (T.setTop (mkF m pc Ls (.int z :: rest))) (T.setFrames fs) := by
  have hm' : T.vm.method? m = some meth := X.method'
  have hn : narrow .int (.int z) = .int z := rfl
  show Steps p.tables e below (T.setTop { method := m, pc := pc, locals := Ls, stack := _ :: rest, locked := none }) _
  jvm_step X.here [X.here.top, hx, hd, hm', hret, hn]
  first | (intro acts; rw [hl _ acts rfl rfl rfl]) | rw [hl _ _ rfl rfl rfl]
  exact Steps.refl _
end New
end Jvm.RoadKit
namespace Jvm.Pilot.@@N@@
open Jvm Jvm.ClassFile Sem Op Lib Jvm.Free Jvm.Stand Jvm.LawKit Jvm.RoadKit Bundle Jvm.Pilot.@@N@@.Jvm.D
def own_To (p : Program) (l : Launch) (e : Env) (R : Room) (s : State) (m : MethodId) (args : Array Value) (below : List Frame) (meth : Method) (c : Code) (locs : List Loc) (cells slots : Nat) (h : Heap) (T : State) (g g' : JFrame) : Prop :=
  ∃ T' : State, Stand p l e R s m args below meth c T' locs cells slots ∧ T'.heap = h ∧ ∀ tg, Steps p.tables e below (T'.setTop g') tg → Steps p.tables e below (T.setTop g) tg
theorem own_to {p : Program} {l : Launch} {e : Env} {R : Room} {s : State} {m : MethodId} {args : Array Value} {below : List Frame} {meth : Method} {c : Code} {T : State} {locs : List Loc} {cells slots : Nat} (X : Stand p l e R s m args below meth c T locs cells slots) {h : Heap} {g g' : JFrame}
    (H : own_To p l e R s m args below meth c locs cells slots h T g g') : ∃ T' : State, Stand p l e R s m args below meth c T' locs cells slots ∧ T'.heap = h ∧ ∀ tg, Steps p.tables e below (T'.setTop g') tg → Steps p.tables e below (T.setTop g) tg := H
def own_ToP (p : Program) (l : Launch) (e : Env) (R : Room) (s : State) (m : MethodId) (args : Array Value) (below : List Frame) (meth : Method) (c : Code) (locs : List Loc) (cells slots : Nat) (h : Heap) (T : State) (g : JFrame) (P : JFrame → Prop) : Prop :=
  ∃ (T' : State) (g' : JFrame), P g' ∧ Stand p l e R s m args below meth c T' locs cells slots ∧ T'.heap = h ∧ ∀ tg, Steps p.tables e below (T'.setTop g') tg → Steps p.tables e below (T.setTop g) tg
def own_ToK (p : Program) (l : Launch) (e : Env) (R : Room) (s : State) (m : MethodId) (args : Array Value) (below : List Frame) (meth : Method) (c : Code) (n0 : Nat) (cells slots : Nat) (T : State) (g : JFrame) (P : Heap → JFrame → Prop) : Prop :=
  ∃ (T' : State) (g' : JFrame) (L : List Loc), Stand p l e R s m args below meth c T' L cells slots ∧ Fr n0 L ∧ P T'.heap g' ∧ ∀ tg, Steps p.tables e below (T'.setTop g') tg → Steps p.tables e below (T.setTop g) tg
theorem own_wid {p : Program} {l : Launch} {e : Env} {R : Room} {s : State} {m : MethodId} {args : Array Value} {below : List Frame} {meth : Method} {c : Code} {T : State} {locs : List Loc} {cells slots cells' slots' : Nat} (X : Stand p l e R s m args below meth c T locs cells slots) (h1 : cells ≤ cells') (h2 : slots ≤ slots') : Stand p l e R s m args below meth c T locs cells' slots' := { X with same := X.same.mono h1 h2 }
theorem own_inc (i : Nat) : Int32.ofNat i + (1 : Int32) = Int32.ofNat (i + 1) := (Int32.ofNat_add i 1).symm
theorem own_toI {i : Nat} (h : i < 2147483648) : (Int32.ofNat i).toInt = (i : Int) := Int32.toInt_ofNat_of_lt h
theorem own_lt {i j : Nat} (h : i < j) (hj : j < 2147483648) : Int32.ofNat i < Int32.ofNat j := by
  rw [Int32.lt_iff_toInt_lt, own_toI (by omega), own_toI hj]; omega
theorem own_nlt {i j : Nat} (h : ¬ i < j) (hi : i < 2147483648) : ¬ Int32.ofNat i < Int32.ofNat j := by
  rw [Int32.lt_iff_toInt_lt, own_toI hi, own_toI (by omega)]; omega
theorem own_ltI {i j : Nat} (h : Int32.ofNat i < Int32.ofNat j) (hi : i < 2147483648) (hj : j < 2147483648) : i < j := by
  rw [Int32.lt_iff_toInt_lt, own_toI hi, own_toI hj] at h; omega
theorem own_nltI {i j : Nat} (h : ¬ Int32.ofNat i < Int32.ofNat j) (hi : i < 2147483648) (hj : j < 2147483648) : ¬ i < j := by
  rw [Int32.lt_iff_toInt_lt, own_toI hi, own_toI hj] at h; omega
theorem own_inj {i j : Nat} (h : Int32.ofNat i = Int32.ofNat j) (hi : i < 2147483648) (hj : j < 2147483648) : i = j := by
  have q := congrArg Int32.toInt h
  rw [own_toI hi, own_toI hj] at q; omega
theorem own_nneg (i : Nat) (hi : i < 2147483648) : ¬ Int32.ofNat i < 0 := by
  rw [Int32.lt_iff_toInt_lt, own_toI hi]; show ¬ (i : Int) < 0; omega
theorem own_clamp {i : Nat} (hi : i < 2147483648) : (Int32.ofNat i).toNatClampNeg = i := clamp_of rfl hi
theorem own_osz {Z : State} {n0 : Nat} {h : Heap} (O : Old Z n0 h) : n0 ≤ h.size := O.1 ▸ O.2.1
theorem pn_0 : plainName "com/example/subsumer/subsumer/DependencySet" = true := by first | (simp [plainName, overriddenIn]; done) | decide +kernel
theorem pn_1 : plainName "java/util/Arrays" = true := by first | (simp [plainName, overriddenIn]; done) | decide +kernel
theorem pn_2 : plainName "com/example/subsumer/subsumer/DependencySetOfPinLaw" = true := by first | (simp [plainName, overriddenIn]; done) | decide +kernel
theorem pd_0 : parseMethodDescriptor "([I)V" = some ⟨[(.array .int)], none⟩ := by decide +kernel
theorem pd_1 : parseMethodDescriptor "([IIII)I" = some ⟨[(.array .int), .int, .int, .int], some .int⟩ := by decide +kernel
theorem pd_2 : parseMethodDescriptor "([II)I" = some ⟨[(.array .int), .int], some .int⟩ := by decide +kernel
theorem pd_3 : parseMethodDescriptor "(I)Lcom/example/subsumer/subsumer/DependencySet;" = some ⟨[.int], some (.object "com/example/subsumer/subsumer/DependencySet")⟩ := by decide +kernel
theorem pd_4 : parseMethodDescriptor "()Z" = some ⟨[], some .boolean⟩ := by decide +kernel
theorem pd_5 : parseMethodDescriptor "()I" = some ⟨[], some .int⟩ := by decide +kernel
theorem d_jdk_65_method_57_0 : decode jdk_65_method_57_code 0 = .ok (.aload_n 0, 1) := by decide +kernel
theorem d_jdk_65_method_57_1 : decode jdk_65_method_57_code 1 = .ok (.iconst 0, 1) := by decide +kernel
theorem d_jdk_65_method_57_2 : decode jdk_65_method_57_code 2 = .ok (.aload_n 0, 1) := by decide +kernel
theorem d_jdk_65_method_57_3 : decode jdk_65_method_57_code 3 = .ok (.arraylength, 1) := by decide +kernel
theorem d_jdk_65_method_57_4 : decode jdk_65_method_57_code 4 = .ok (.iload_n 1, 1) := by decide +kernel
theorem d_jdk_65_method_57_5 : decode jdk_65_method_57_code 5 = .ok (.invokestatic 209, 3) := by decide +kernel
theorem d_jdk_65_method_57_8 : decode jdk_65_method_57_code 8 = .ok (.ireturn, 1) := by decide +kernel
theorem d_jdk_65_method_59_0 : decode jdk_65_method_59_code 0 = .ok (.iload_n 1, 1) := by decide +kernel
theorem d_jdk_65_method_59_1 : decode jdk_65_method_59_code 1 = .ok (.istore 4, 2) := by decide +kernel
theorem d_jdk_65_method_59_10 : decode jdk_65_method_59_code 10 = .ok (.iload 5, 2) := by decide +kernel
theorem d_jdk_65_method_59_12 : decode jdk_65_method_59_code 12 = .ok (.if_icmp .gt 54, 3) := by decide +kernel
theorem d_jdk_65_method_59_15 : decode jdk_65_method_59_code 15 = .ok (.iload 4, 2) := by decide +kernel
theorem d_jdk_65_method_59_17 : decode jdk_65_method_59_code 17 = .ok (.iload 5, 2) := by decide +kernel
theorem d_jdk_65_method_59_19 : decode jdk_65_method_59_code 19 = .ok (.iadd, 1) := by decide +kernel
theorem d_jdk_65_method_59_20 : decode jdk_65_method_59_code 20 = .ok (.iconst 1, 1) := by decide +kernel
theorem d_jdk_65_method_59_21 : decode jdk_65_method_59_code 21 = .ok (.iushr, 1) := by decide +kernel
theorem d_jdk_65_method_59_22 : decode jdk_65_method_59_code 22 = .ok (.istore 6, 2) := by decide +kernel
theorem d_jdk_65_method_59_24 : decode jdk_65_method_59_code 24 = .ok (.aload_n 0, 1) := by decide +kernel
theorem d_jdk_65_method_59_25 : decode jdk_65_method_59_code 25 = .ok (.iload 6, 2) := by decide +kernel
theorem d_jdk_65_method_59_27 : decode jdk_65_method_59_code 27 = .ok (.iaload, 1) := by decide +kernel
theorem d_jdk_65_method_59_28 : decode jdk_65_method_59_code 28 = .ok (.istore 7, 2) := by decide +kernel
theorem d_jdk_65_method_59_3 : decode jdk_65_method_59_code 3 = .ok (.iload_n 2, 1) := by decide +kernel
theorem d_jdk_65_method_59_30 : decode jdk_65_method_59_code 30 = .ok (.iload 7, 2) := by decide +kernel
theorem d_jdk_65_method_59_32 : decode jdk_65_method_59_code 32 = .ok (.iload_n 3, 1) := by decide +kernel
theorem d_jdk_65_method_59_33 : decode jdk_65_method_59_code 33 = .ok (.if_icmp .ge 12, 3) := by decide +kernel
theorem d_jdk_65_method_59_36 : decode jdk_65_method_59_code 36 = .ok (.iload 6, 2) := by decide +kernel
theorem d_jdk_65_method_59_38 : decode jdk_65_method_59_code 38 = .ok (.iconst 1, 1) := by decide +kernel
theorem d_jdk_65_method_59_39 : decode jdk_65_method_59_code 39 = .ok (.iadd, 1) := by decide +kernel
theorem d_jdk_65_method_59_4 : decode jdk_65_method_59_code 4 = .ok (.iconst 1, 1) := by decide +kernel
theorem d_jdk_65_method_59_40 : decode jdk_65_method_59_code 40 = .ok (.istore 4, 2) := by decide +kernel
theorem d_jdk_65_method_59_42 : decode jdk_65_method_59_code 42 = .ok (.goto 21, 3) := by decide +kernel
theorem d_jdk_65_method_59_45 : decode jdk_65_method_59_code 45 = .ok (.iload 7, 2) := by decide +kernel
theorem d_jdk_65_method_59_47 : decode jdk_65_method_59_code 47 = .ok (.iload_n 3, 1) := by decide +kernel
theorem d_jdk_65_method_59_48 : decode jdk_65_method_59_code 48 = .ok (.if_icmp .le 12, 3) := by decide +kernel
theorem d_jdk_65_method_59_5 : decode jdk_65_method_59_code 5 = .ok (.isub, 1) := by decide +kernel
theorem d_jdk_65_method_59_51 : decode jdk_65_method_59_code 51 = .ok (.iload 6, 2) := by decide +kernel
theorem d_jdk_65_method_59_53 : decode jdk_65_method_59_code 53 = .ok (.iconst 1, 1) := by decide +kernel
theorem d_jdk_65_method_59_54 : decode jdk_65_method_59_code 54 = .ok (.isub, 1) := by decide +kernel
theorem d_jdk_65_method_59_55 : decode jdk_65_method_59_code 55 = .ok (.istore 5, 2) := by decide +kernel
theorem d_jdk_65_method_59_57 : decode jdk_65_method_59_code 57 = .ok (.goto 6, 3) := by decide +kernel
theorem d_jdk_65_method_59_6 : decode jdk_65_method_59_code 6 = .ok (.istore 5, 2) := by decide +kernel
theorem d_jdk_65_method_59_60 : decode jdk_65_method_59_code 60 = .ok (.iload 6, 2) := by decide +kernel
theorem d_jdk_65_method_59_62 : decode jdk_65_method_59_code 62 = .ok (.ireturn, 1) := by decide +kernel
theorem d_jdk_65_method_59_63 : decode jdk_65_method_59_code 63 = .ok (.goto (-55), 3) := by decide +kernel
theorem d_jdk_65_method_59_66 : decode jdk_65_method_59_code 66 = .ok (.iload 4, 2) := by decide +kernel
theorem d_jdk_65_method_59_68 : decode jdk_65_method_59_code 68 = .ok (.iconst 1, 1) := by decide +kernel
theorem d_jdk_65_method_59_69 : decode jdk_65_method_59_code 69 = .ok (.iadd, 1) := by decide +kernel
theorem d_jdk_65_method_59_70 : decode jdk_65_method_59_code 70 = .ok (.ineg, 1) := by decide +kernel
theorem d_jdk_65_method_59_71 : decode jdk_65_method_59_code 71 = .ok (.ireturn, 1) := by decide +kernel
theorem d_jdk_65_method_59_8 : decode jdk_65_method_59_code 8 = .ok (.iload 4, 2) := by decide +kernel
theorem d_prog_10_method_1_0 : decode prog_10_method_1_code 0 = .ok (.aload_n 0, 1) := by decide +kernel
theorem d_prog_10_method_1_1 : decode prog_10_method_1_code 1 = .ok (.invokespecial 1, 3) := by decide +kernel
theorem d_prog_10_method_1_4 : decode prog_10_method_1_code 4 = .ok (.aload_n 0, 1) := by decide +kernel
theorem d_prog_10_method_1_5 : decode prog_10_method_1_code 5 = .ok (.aload_n 1, 1) := by decide +kernel
theorem d_prog_10_method_1_6 : decode prog_10_method_1_code 6 = .ok (.putfield 7, 3) := by decide +kernel
theorem d_prog_10_method_1_9 : decode prog_10_method_1_code 9 = .ok (.return_, 1) := by decide +kernel
theorem d_prog_10_method_2_0 : decode prog_10_method_2_code 0 = .ok (.new 8, 3) := by decide +kernel
theorem d_prog_10_method_2_10 : decode prog_10_method_2_code 10 = .ok (.iastore, 1) := by decide +kernel
theorem d_prog_10_method_2_11 : decode prog_10_method_2_code 11 = .ok (.invokespecial 13, 3) := by decide +kernel
theorem d_prog_10_method_2_14 : decode prog_10_method_2_code 14 = .ok (.areturn, 1) := by decide +kernel
theorem d_prog_10_method_2_3 : decode prog_10_method_2_code 3 = .ok (.dup, 1) := by decide +kernel
theorem d_prog_10_method_2_4 : decode prog_10_method_2_code 4 = .ok (.iconst 1, 1) := by decide +kernel
theorem d_prog_10_method_2_5 : decode prog_10_method_2_code 5 = .ok (.newarray .int, 2) := by decide +kernel
theorem d_prog_10_method_2_7 : decode prog_10_method_2_code 7 = .ok (.dup, 1) := by decide +kernel
theorem d_prog_10_method_2_8 : decode prog_10_method_2_code 8 = .ok (.iconst 0, 1) := by decide +kernel
theorem d_prog_10_method_2_9 : decode prog_10_method_2_code 9 = .ok (.iload_n 0, 1) := by decide +kernel
theorem d_prog_10_method_3_0 : decode prog_10_method_3_code 0 = .ok (.aload_n 0, 1) := by decide +kernel
theorem d_prog_10_method_3_1 : decode prog_10_method_3_code 1 = .ok (.getfield 7, 3) := by decide +kernel
theorem d_prog_10_method_3_12 : decode prog_10_method_3_code 12 = .ok (.iconst 0, 1) := by decide +kernel
theorem d_prog_10_method_3_13 : decode prog_10_method_3_code 13 = .ok (.ireturn, 1) := by decide +kernel
theorem d_prog_10_method_3_4 : decode prog_10_method_3_code 4 = .ok (.arraylength, 1) := by decide +kernel
theorem d_prog_10_method_3_5 : decode prog_10_method_3_code 5 = .ok (.ifCond .ne 7, 3) := by decide +kernel
theorem d_prog_10_method_3_8 : decode prog_10_method_3_code 8 = .ok (.iconst 1, 1) := by decide +kernel
theorem d_prog_10_method_3_9 : decode prog_10_method_3_code 9 = .ok (.goto 4, 3) := by decide +kernel
theorem d_prog_10_method_4_0 : decode prog_10_method_4_code 0 = .ok (.aload_n 0, 1) := by decide +kernel
theorem d_prog_10_method_4_1 : decode prog_10_method_4_code 1 = .ok (.getfield 7, 3) := by decide +kernel
theorem d_prog_10_method_4_10 : decode prog_10_method_4_code 10 = .ok (.isub, 1) := by decide +kernel
theorem d_prog_10_method_4_11 : decode prog_10_method_4_code 11 = .ok (.iaload, 1) := by decide +kernel
theorem d_prog_10_method_4_12 : decode prog_10_method_4_code 12 = .ok (.ireturn, 1) := by decide +kernel
theorem d_prog_10_method_4_4 : decode prog_10_method_4_code 4 = .ok (.aload_n 0, 1) := by decide +kernel
theorem d_prog_10_method_4_5 : decode prog_10_method_4_code 5 = .ok (.getfield 7, 3) := by decide +kernel
theorem d_prog_10_method_4_8 : decode prog_10_method_4_code 8 = .ok (.arraylength, 1) := by decide +kernel
theorem d_prog_10_method_4_9 : decode prog_10_method_4_code 9 = .ok (.iconst 1, 1) := by decide +kernel
theorem d_prog_10_method_6_0 : decode prog_10_method_6_code 0 = .ok (.aload_n 0, 1) := by decide +kernel
theorem d_prog_10_method_6_1 : decode prog_10_method_6_code 1 = .ok (.getfield 7, 3) := by decide +kernel
theorem d_prog_10_method_6_10 : decode prog_10_method_6_code 10 = .ok (.astore_n 3, 1) := by decide +kernel
theorem d_prog_10_method_6_11 : decode prog_10_method_6_code 11 = .ok (.iload_n 2, 1) := by decide +kernel
theorem d_prog_10_method_6_12 : decode prog_10_method_6_code 12 = .ok (.ifCond .lt 54, 3) := by decide +kernel
theorem d_prog_10_method_6_15 : decode prog_10_method_6_code 15 = .ok (.aload_n 0, 1) := by decide +kernel
theorem d_prog_10_method_6_16 : decode prog_10_method_6_code 16 = .ok (.getfield 7, 3) := by decide +kernel
theorem d_prog_10_method_6_19 : decode prog_10_method_6_code 19 = .ok (.arraylength, 1) := by decide +kernel
theorem d_prog_10_method_6_20 : decode prog_10_method_6_code 20 = .ok (.iconst 1, 1) := by decide +kernel
theorem d_prog_10_method_6_21 : decode prog_10_method_6_code 21 = .ok (.isub, 1) := by decide +kernel
theorem d_prog_10_method_6_22 : decode prog_10_method_6_code 22 = .ok (.newarray .int, 2) := by decide +kernel
theorem d_prog_10_method_6_24 : decode prog_10_method_6_code 24 = .ok (.astore 4, 2) := by decide +kernel
theorem d_prog_10_method_6_26 : decode prog_10_method_6_code 26 = .ok (.aload_n 0, 1) := by decide +kernel
theorem d_prog_10_method_6_27 : decode prog_10_method_6_code 27 = .ok (.getfield 7, 3) := by decide +kernel
theorem d_prog_10_method_6_30 : decode prog_10_method_6_code 30 = .ok (.iconst 0, 1) := by decide +kernel
theorem d_prog_10_method_6_31 : decode prog_10_method_6_code 31 = .ok (.aload 4, 2) := by decide +kernel
theorem d_prog_10_method_6_33 : decode prog_10_method_6_code 33 = .ok (.iconst 0, 1) := by decide +kernel
theorem d_prog_10_method_6_34 : decode prog_10_method_6_code 34 = .ok (.iload_n 2, 1) := by decide +kernel
theorem d_prog_10_method_6_35 : decode prog_10_method_6_code 35 = .ok (.invokestatic 26, 3) := by decide +kernel
theorem d_prog_10_method_6_38 : decode prog_10_method_6_code 38 = .ok (.aload_n 0, 1) := by decide +kernel
theorem d_prog_10_method_6_39 : decode prog_10_method_6_code 39 = .ok (.getfield 7, 3) := by decide +kernel
theorem d_prog_10_method_6_4 : decode prog_10_method_6_code 4 = .ok (.iload_n 1, 1) := by decide +kernel
theorem d_prog_10_method_6_42 : decode prog_10_method_6_code 42 = .ok (.iload_n 2, 1) := by decide +kernel
theorem d_prog_10_method_6_43 : decode prog_10_method_6_code 43 = .ok (.iconst 1, 1) := by decide +kernel
theorem d_prog_10_method_6_44 : decode prog_10_method_6_code 44 = .ok (.iadd, 1) := by decide +kernel
theorem d_prog_10_method_6_45 : decode prog_10_method_6_code 45 = .ok (.aload 4, 2) := by decide +kernel
theorem d_prog_10_method_6_47 : decode prog_10_method_6_code 47 = .ok (.iload_n 2, 1) := by decide +kernel
theorem d_prog_10_method_6_48 : decode prog_10_method_6_code 48 = .ok (.aload 4, 2) := by decide +kernel
theorem d_prog_10_method_6_5 : decode prog_10_method_6_code 5 = .ok (.invokestatic 20, 3) := by decide +kernel
theorem d_prog_10_method_6_50 : decode prog_10_method_6_code 50 = .ok (.arraylength, 1) := by decide +kernel
theorem d_prog_10_method_6_51 : decode prog_10_method_6_code 51 = .ok (.iload_n 2, 1) := by decide +kernel
theorem d_prog_10_method_6_52 : decode prog_10_method_6_code 52 = .ok (.isub, 1) := by decide +kernel
theorem d_prog_10_method_6_53 : decode prog_10_method_6_code 53 = .ok (.invokestatic 26, 3) := by decide +kernel
theorem d_prog_10_method_6_56 : decode prog_10_method_6_code 56 = .ok (.new 8, 3) := by decide +kernel
theorem d_prog_10_method_6_59 : decode prog_10_method_6_code 59 = .ok (.dup, 1) := by decide +kernel
theorem d_prog_10_method_6_60 : decode prog_10_method_6_code 60 = .ok (.aload 4, 2) := by decide +kernel
theorem d_prog_10_method_6_62 : decode prog_10_method_6_code 62 = .ok (.invokespecial 13, 3) := by decide +kernel
theorem d_prog_10_method_6_65 : decode prog_10_method_6_code 65 = .ok (.astore_n 3, 1) := by decide +kernel
theorem d_prog_10_method_6_66 : decode prog_10_method_6_code 66 = .ok (.aload_n 3, 1) := by decide +kernel
theorem d_prog_10_method_6_67 : decode prog_10_method_6_code 67 = .ok (.areturn, 1) := by decide +kernel
theorem d_prog_10_method_6_8 : decode prog_10_method_6_code 8 = .ok (.istore_n 2, 1) := by decide +kernel
theorem d_prog_10_method_6_9 : decode prog_10_method_6_code 9 = .ok (.aload_n 0, 1) := by decide +kernel
theorem w_0 {Z : State} {a0 : Array Value} (hw : ∀ d ∈ tables_1, d.before a0 Z = true) : ((Jvm.Cond.methodLink "com/example/subsumer/subsumer/DependencySetOfPinLaw" (7 : Nat) ({ cls := "com/example/subsumer/subsumer/DependencySet", name := "of", desc := "(I)Lcom/example/subsumer/subsumer/DependencySet;" } : Jvm.MethodName)) : Jvm.Cond).before a0 Z = true := hw _ (List.mem_of_getElem? (i := 0) rfl)
theorem w_1 {Z : State} {a0 : Array Value} (hw : ∀ d ∈ tables_1, d.before a0 Z = true) : ((Jvm.Cond.static ({ cls := "com/example/subsumer/subsumer/DependencySet", name := "of", desc := "(I)Lcom/example/subsumer/subsumer/DependencySet;" } : Jvm.MethodName)) : Jvm.Cond).before a0 Z = true := hw _ (List.mem_of_getElem? (i := 1) rfl)
theorem w_2 {Z : State} {a0 : Array Value} (hw : ∀ d ∈ tables_1, d.before a0 Z = true) : ((Jvm.Cond.initialized "com/example/subsumer/subsumer/DependencySet") : Jvm.Cond).before a0 Z = true := hw _ (List.mem_of_getElem? (i := 2) rfl)
theorem w_3 {Z : State} {a0 : Array Value} (hw : ∀ d ∈ tables_1, d.before a0 Z = true) : ((Jvm.Cond.code ({ cls := "com/example/subsumer/subsumer/DependencySet", name := "of", desc := "(I)Lcom/example/subsumer/subsumer/DependencySet;" } : Jvm.MethodName) prog_10_method_2_code (1 : Nat) (Option.some (Jvm.ClassFile.FieldType.object "com/example/subsumer/subsumer/DependencySet"))) : Jvm.Cond).before a0 Z = true := hw _ (List.mem_of_getElem? (i := 3) rfl)
theorem w_4 {Z : State} {a0 : Array Value} (hw : ∀ d ∈ tables_1, d.before a0 Z = true) : ((Jvm.Cond.classLink "com/example/subsumer/subsumer/DependencySet" (8 : Nat) "com/example/subsumer/subsumer/DependencySet") : Jvm.Cond).before a0 Z = true := hw _ (List.mem_of_getElem? (i := 4) rfl)
theorem w_5 {Z : State} {a0 : Array Value} (hw : ∀ d ∈ tables_1, d.before a0 Z = true) : ((Jvm.Cond.instantiable "com/example/subsumer/subsumer/DependencySet" (1 : Nat)) : Jvm.Cond).before a0 Z = true := hw _ (List.mem_of_getElem? (i := 5) rfl)
theorem w_6 {Z : State} {a0 : Array Value} (hw : ∀ d ∈ tables_1, d.before a0 Z = true) : ((Jvm.Cond.arrayClass Jvm.ClassFile.FieldType.int) : Jvm.Cond).before a0 Z = true := hw _ (List.mem_of_getElem? (i := 6) rfl)
theorem w_7 {Z : State} {a0 : Array Value} (hw : ∀ d ∈ tables_1, d.before a0 Z = true) : ((Jvm.Cond.methodLink "com/example/subsumer/subsumer/DependencySet" (13 : Nat) ({ cls := "com/example/subsumer/subsumer/DependencySet", name := "<init>", desc := "([I)V" } : Jvm.MethodName)) : Jvm.Cond).before a0 Z = true := hw _ (List.mem_of_getElem? (i := 7) rfl)
theorem w_8 {Z : State} {a0 : Array Value} (hw : ∀ d ∈ tables_1, d.before a0 Z = true) : ((Jvm.Cond.instanceMethod ({ cls := "com/example/subsumer/subsumer/DependencySet", name := "<init>", desc := "([I)V" } : Jvm.MethodName)) : Jvm.Cond).before a0 Z = true := hw _ (List.mem_of_getElem? (i := 8) rfl)
theorem w_9 {Z : State} {a0 : Array Value} (hw : ∀ d ∈ tables_1, d.before a0 Z = true) : ((Jvm.Cond.code ({ cls := "com/example/subsumer/subsumer/DependencySet", name := "<init>", desc := "([I)V" } : Jvm.MethodName) prog_10_method_1_code (2 : Nat) (Option.none : Option Jvm.ClassFile.FieldType)) : Jvm.Cond).before a0 Z = true := hw _ (List.mem_of_getElem? (i := 9) rfl)
theorem w_10 {Z : State} {a0 : Array Value} (hw : ∀ d ∈ tables_1, d.before a0 Z = true) : ((Jvm.Cond.methodLink "com/example/subsumer/subsumer/DependencySet" (1 : Nat) ({ cls := "java/lang/Object", name := "<init>", desc := "()V" } : Jvm.MethodName)) : Jvm.Cond).before a0 Z = true := hw _ (List.mem_of_getElem? (i := 10) rfl)
theorem w_11 {Z : State} {a0 : Array Value} (hw : ∀ d ∈ tables_1, d.before a0 Z = true) : ((Jvm.Cond.instanceMethod ({ cls := "java/lang/Object", name := "<init>", desc := "()V" } : Jvm.MethodName)) : Jvm.Cond).before a0 Z = true := hw _ (List.mem_of_getElem? (i := 11) rfl)
theorem w_12 {Z : State} {a0 : Array Value} (hw : ∀ d ∈ tables_1, d.before a0 Z = true) : ((Jvm.Cond.code ({ cls := "java/lang/Object", name := "<init>", desc := "()V" } : Jvm.MethodName) object_method_1_code (1 : Nat) (Option.none : Option Jvm.ClassFile.FieldType)) : Jvm.Cond).before a0 Z = true := hw _ (List.mem_of_getElem? (i := 12) rfl)
theorem w_13 {Z : State} {a0 : Array Value} (hw : ∀ d ∈ tables_1, d.before a0 Z = true) : ((Jvm.Cond.fieldLink "com/example/subsumer/subsumer/DependencySet" (7 : Nat) "com/example/subsumer/subsumer/DependencySet" "levels" "[I") : Jvm.Cond).before a0 Z = true := hw _ (List.mem_of_getElem? (i := 13) rfl)
theorem w_14 {Z : State} {a0 : Array Value} (hw : ∀ d ∈ tables_1, d.before a0 Z = true) : ((Jvm.Cond.laysFinal "com/example/subsumer/subsumer/DependencySet" "com/example/subsumer/subsumer/DependencySet" "levels" "[I") : Jvm.Cond).before a0 Z = true := hw _ (List.mem_of_getElem? (i := 14) rfl)
theorem w_15 {Z : State} {a0 : Array Value} (hw : ∀ d ∈ tables_1, d.before a0 Z = true) : ((Jvm.Cond.methodLink "com/example/subsumer/subsumer/DependencySetOfPinLaw" (13 : Nat) ({ cls := "com/example/subsumer/subsumer/DependencySet", name := "isEmpty", desc := "()Z" } : Jvm.MethodName)) : Jvm.Cond).before a0 Z = true := hw _ (List.mem_of_getElem? (i := 15) rfl)
theorem w_16 {Z : State} {a0 : Array Value} (hw : ∀ d ∈ tables_1, d.before a0 Z = true) : ((Jvm.Cond.declares ({ cls := "com/example/subsumer/subsumer/DependencySet", name := "isEmpty", desc := "()Z" } : Jvm.MethodName)) : Jvm.Cond).before a0 Z = true := hw _ (List.mem_of_getElem? (i := 16) rfl)
theorem w_17 {Z : State} {a0 : Array Value} (hw : ∀ d ∈ tables_1, d.before a0 Z = true) : ((Jvm.Cond.instanceMethod ({ cls := "com/example/subsumer/subsumer/DependencySet", name := "isEmpty", desc := "()Z" } : Jvm.MethodName)) : Jvm.Cond).before a0 Z = true := hw _ (List.mem_of_getElem? (i := 17) rfl)
theorem w_18 {Z : State} {a0 : Array Value} (hw : ∀ d ∈ tables_1, d.before a0 Z = true) : ((Jvm.Cond.selects "com/example/subsumer/subsumer/DependencySet" ({ cls := "com/example/subsumer/subsumer/DependencySet", name := "isEmpty", desc := "()Z" } : Jvm.MethodName) ({ cls := "com/example/subsumer/subsumer/DependencySet", name := "isEmpty", desc := "()Z" } : Jvm.MethodName)) : Jvm.Cond).before a0 Z = true := hw _ (List.mem_of_getElem? (i := 18) rfl)
theorem w_19 {Z : State} {a0 : Array Value} (hw : ∀ d ∈ tables_1, d.before a0 Z = true) : ((Jvm.Cond.code ({ cls := "com/example/subsumer/subsumer/DependencySet", name := "isEmpty", desc := "()Z" } : Jvm.MethodName) prog_10_method_3_code (1 : Nat) (Option.some Jvm.ClassFile.FieldType.boolean)) : Jvm.Cond).before a0 Z = true := hw _ (List.mem_of_getElem? (i := 19) rfl)
theorem w_20 {Z : State} {a0 : Array Value} (hw : ∀ d ∈ tables_1, d.before a0 Z = true) : ((Jvm.Cond.methodLink "com/example/subsumer/subsumer/DependencySetOfPinLaw" (17 : Nat) ({ cls := "com/example/subsumer/subsumer/DependencySet", name := "max", desc := "()I" } : Jvm.MethodName)) : Jvm.Cond).before a0 Z = true := hw _ (List.mem_of_getElem? (i := 20) rfl)
theorem w_21 {Z : State} {a0 : Array Value} (hw : ∀ d ∈ tables_1, d.before a0 Z = true) : ((Jvm.Cond.declares ({ cls := "com/example/subsumer/subsumer/DependencySet", name := "max", desc := "()I" } : Jvm.MethodName)) : Jvm.Cond).before a0 Z = true := hw _ (List.mem_of_getElem? (i := 21) rfl)
theorem w_22 {Z : State} {a0 : Array Value} (hw : ∀ d ∈ tables_1, d.before a0 Z = true) : ((Jvm.Cond.instanceMethod ({ cls := "com/example/subsumer/subsumer/DependencySet", name := "max", desc := "()I" } : Jvm.MethodName)) : Jvm.Cond).before a0 Z = true := hw _ (List.mem_of_getElem? (i := 22) rfl)
theorem w_23 {Z : State} {a0 : Array Value} (hw : ∀ d ∈ tables_1, d.before a0 Z = true) : ((Jvm.Cond.selects "com/example/subsumer/subsumer/DependencySet" ({ cls := "com/example/subsumer/subsumer/DependencySet", name := "max", desc := "()I" } : Jvm.MethodName) ({ cls := "com/example/subsumer/subsumer/DependencySet", name := "max", desc := "()I" } : Jvm.MethodName)) : Jvm.Cond).before a0 Z = true := hw _ (List.mem_of_getElem? (i := 23) rfl)
theorem w_24 {Z : State} {a0 : Array Value} (hw : ∀ d ∈ tables_1, d.before a0 Z = true) : ((Jvm.Cond.code ({ cls := "com/example/subsumer/subsumer/DependencySet", name := "max", desc := "()I" } : Jvm.MethodName) prog_10_method_4_code (1 : Nat) (Option.some Jvm.ClassFile.FieldType.int)) : Jvm.Cond).before a0 Z = true := hw _ (List.mem_of_getElem? (i := 24) rfl)
theorem w_25 {Z : State} {a0 : Array Value} (hw : ∀ d ∈ tables_1, d.before a0 Z = true) : ((Jvm.Cond.methodLink "com/example/subsumer/subsumer/DependencySetOfPinLaw" (21 : Nat) ({ cls := "com/example/subsumer/subsumer/DependencySet", name := "without", desc := "(I)Lcom/example/subsumer/subsumer/DependencySet;" } : Jvm.MethodName)) : Jvm.Cond).before a0 Z = true := hw _ (List.mem_of_getElem? (i := 25) rfl)
theorem w_26 {Z : State} {a0 : Array Value} (hw : ∀ d ∈ tables_1, d.before a0 Z = true) : ((Jvm.Cond.declares ({ cls := "com/example/subsumer/subsumer/DependencySet", name := "without", desc := "(I)Lcom/example/subsumer/subsumer/DependencySet;" } : Jvm.MethodName)) : Jvm.Cond).before a0 Z = true := hw _ (List.mem_of_getElem? (i := 26) rfl)
theorem w_27 {Z : State} {a0 : Array Value} (hw : ∀ d ∈ tables_1, d.before a0 Z = true) : ((Jvm.Cond.instanceMethod ({ cls := "com/example/subsumer/subsumer/DependencySet", name := "without", desc := "(I)Lcom/example/subsumer/subsumer/DependencySet;" } : Jvm.MethodName)) : Jvm.Cond).before a0 Z = true := hw _ (List.mem_of_getElem? (i := 27) rfl)
theorem w_28 {Z : State} {a0 : Array Value} (hw : ∀ d ∈ tables_1, d.before a0 Z = true) : ((Jvm.Cond.selects "com/example/subsumer/subsumer/DependencySet" ({ cls := "com/example/subsumer/subsumer/DependencySet", name := "without", desc := "(I)Lcom/example/subsumer/subsumer/DependencySet;" } : Jvm.MethodName) ({ cls := "com/example/subsumer/subsumer/DependencySet", name := "without", desc := "(I)Lcom/example/subsumer/subsumer/DependencySet;" } : Jvm.MethodName)) : Jvm.Cond).before a0 Z = true := hw _ (List.mem_of_getElem? (i := 28) rfl)
theorem w_29 {Z : State} {a0 : Array Value} (hw : ∀ d ∈ tables_1, d.before a0 Z = true) : ((Jvm.Cond.code ({ cls := "com/example/subsumer/subsumer/DependencySet", name := "without", desc := "(I)Lcom/example/subsumer/subsumer/DependencySet;" } : Jvm.MethodName) prog_10_method_6_code (5 : Nat) (Option.some (Jvm.ClassFile.FieldType.object "com/example/subsumer/subsumer/DependencySet"))) : Jvm.Cond).before a0 Z = true := hw _ (List.mem_of_getElem? (i := 29) rfl)
theorem w_30 {Z : State} {a0 : Array Value} (hw : ∀ d ∈ tables_1, d.before a0 Z = true) : ((Jvm.Cond.methodLink "com/example/subsumer/subsumer/DependencySet" (20 : Nat) ({ cls := "java/util/Arrays", name := "binarySearch", desc := "([II)I" } : Jvm.MethodName)) : Jvm.Cond).before a0 Z = true := hw _ (List.mem_of_getElem? (i := 30) rfl)
theorem w_31 {Z : State} {a0 : Array Value} (hw : ∀ d ∈ tables_1, d.before a0 Z = true) : ((Jvm.Cond.static ({ cls := "java/util/Arrays", name := "binarySearch", desc := "([II)I" } : Jvm.MethodName)) : Jvm.Cond).before a0 Z = true := hw _ (List.mem_of_getElem? (i := 31) rfl)
theorem w_32 {Z : State} {a0 : Array Value} (hw : ∀ d ∈ tables_1, d.before a0 Z = true) : ((Jvm.Cond.initialized "java/util/Arrays") : Jvm.Cond).before a0 Z = true := hw _ (List.mem_of_getElem? (i := 32) rfl)
theorem w_33 {Z : State} {a0 : Array Value} (hw : ∀ d ∈ tables_1, d.before a0 Z = true) : ((Jvm.Cond.code ({ cls := "java/util/Arrays", name := "binarySearch", desc := "([II)I" } : Jvm.MethodName) jdk_65_method_57_code (2 : Nat) (Option.some Jvm.ClassFile.FieldType.int)) : Jvm.Cond).before a0 Z = true := hw _ (List.mem_of_getElem? (i := 33) rfl)
theorem w_34 {Z : State} {a0 : Array Value} (hw : ∀ d ∈ tables_1, d.before a0 Z = true) : ((Jvm.Cond.methodLink "java/util/Arrays" (209 : Nat) ({ cls := "java/util/Arrays", name := "binarySearch0", desc := "([IIII)I" } : Jvm.MethodName)) : Jvm.Cond).before a0 Z = true := hw _ (List.mem_of_getElem? (i := 34) rfl)
theorem w_35 {Z : State} {a0 : Array Value} (hw : ∀ d ∈ tables_1, d.before a0 Z = true) : ((Jvm.Cond.static ({ cls := "java/util/Arrays", name := "binarySearch0", desc := "([IIII)I" } : Jvm.MethodName)) : Jvm.Cond).before a0 Z = true := hw _ (List.mem_of_getElem? (i := 35) rfl)
theorem w_36 {Z : State} {a0 : Array Value} (hw : ∀ d ∈ tables_1, d.before a0 Z = true) : ((Jvm.Cond.code ({ cls := "java/util/Arrays", name := "binarySearch0", desc := "([IIII)I" } : Jvm.MethodName) jdk_65_method_59_code (8 : Nat) (Option.some Jvm.ClassFile.FieldType.int)) : Jvm.Cond).before a0 Z = true := hw _ (List.mem_of_getElem? (i := 36) rfl)
theorem w_37 {Z : State} {a0 : Array Value} (hw : ∀ d ∈ tables_1, d.before a0 Z = true) : ((Jvm.Cond.methodLink "com/example/subsumer/subsumer/DependencySet" (26 : Nat) ({ cls := "java/lang/System", name := "arraycopy", desc := "(Ljava/lang/Object;ILjava/lang/Object;II)V" } : Jvm.MethodName)) : Jvm.Cond).before a0 Z = true := hw _ (List.mem_of_getElem? (i := 37) rfl)
theorem w_38 {Z : State} {a0 : Array Value} (hw : ∀ d ∈ tables_1, d.before a0 Z = true) : ((Jvm.Cond.static ({ cls := "java/lang/System", name := "arraycopy", desc := "(Ljava/lang/Object;ILjava/lang/Object;II)V" } : Jvm.MethodName)) : Jvm.Cond).before a0 Z = true := hw _ (List.mem_of_getElem? (i := 38) rfl)
theorem w_39 {Z : State} {a0 : Array Value} (hw : ∀ d ∈ tables_1, d.before a0 Z = true) : ((Jvm.Cond.initialized "java/lang/System") : Jvm.Cond).before a0 Z = true := hw _ (List.mem_of_getElem? (i := 39) rfl)
theorem w_40 {Z : State} {a0 : Array Value} (hw : ∀ d ∈ tables_1, d.before a0 Z = true) : ((Jvm.Cond.native ({ cls := "java/lang/System", name := "arraycopy", desc := "(Ljava/lang/Object;ILjava/lang/Object;II)V" } : Jvm.MethodName)) : Jvm.Cond).before a0 Z = true := hw _ (List.mem_of_getElem? (i := 40) rfl)

def own_bs (x p : Int32) : Int32 := if x < p then -2 else if p < x then -1 else 0
theorem own_bs_lt {x p : Int32} (h : x < p) : own_bs x p = -2 := if_pos h
theorem own_bs_gt {x p : Int32} (h : p < x) : own_bs x p = -1 := by
  have h' : ¬ x < p := fun q => by rw [Int32.lt_iff_toInt_lt] at h q; omega
  rw [own_bs, if_neg h', if_pos h]
theorem own_bs_eq {x p : Int32} (h : ¬ x < p) (h' : ¬ p < x) : own_bs x p = 0 := by rw [own_bs, if_neg h, if_neg h']
theorem own_bs_self (x : Int32) : own_bs x x = 0 := own_bs_eq (fun q => by rw [Int32.lt_iff_toInt_lt] at q; omega) (fun q => by rw [Int32.lt_iff_toInt_lt] at q; omega)
theorem own_eq {x p : Int32} (h : ¬ x < p) (h' : ¬ p < x) : x = p := by
  rw [Int32.lt_iff_toInt_lt] at h h'
  exact Int32.toInt_inj.mp (by omega)
theorem own_bs_neg {x p : Int32} (h : ¬ p = x) : own_bs x p < 0 := by
  unfold own_bs
  split
  · decide
  · split
    · decide
    · exact absurd (own_eq (by assumption) (by assumption)).symm h

theorem ef_init (m : MethodId) (x0 : Addr) (x1 : Addr) : entryFrame m #[(.ref x0), (.ref x1)] 2 = mkF m 0 #[.val (.ref x0), .val (.ref x1)] [] := by first | (simp [entryFrame, mkF, argsToLocals, Value.category]; done) | rfl
def Q_init (Z : State) (a : Addr) (b : Addr) (u : Value) (h0 : Heap) (n0 : Nat) (v : Option Value) (h : Heap) (L : List Loc) : Prop := v = none ∧ Fr n0 L ∧ Keep h0 h [a] ∧ Exa Z h a "com/example/subsumer/subsumer/DependencySet" ∧ Fld Z h a "com/example/subsumer/subsumer/DependencySet" "levels" "[I" (.ref b)
set_option maxRecDepth 65536 in
set_option maxHeartbeats 40000000 in
theorem rm_init (l : Launch) (Z : State) (a0 : Array Value) (hw : ∀ d ∈ tables_1, d.before a0 Z = true) (ws : List Jvm.Cond) (a : Addr) (b : Addr) (u : Value) (h0 : Heap) (n0 : Nat) (O0 : Old Z n0 h0) (E_a : Exa Z h0 a "com/example/subsumer/subsumer/DependencySet") (F_a_levels : Fld Z h0 a "com/example/subsumer/subsumer/DependencySet" "levels" "[I" u) (g_a : n0 ≤ a) :
    MetFree l (⟨"com/example/subsumer/subsumer/DependencySet", "<init>", "([I)V"⟩ : MethodName) (head1 (Jvm.Cond.code (⟨"com/example/subsumer/subsumer/DependencySet", "<init>", "([I)V"⟩ : MethodName) prog_10_method_1_code 2 none :: ws) ({ frames := 1, cells := 0, slots := 0, locals := 12 } : Room)) (fun aa_ U => aa_ = #[(.ref a), (.ref b)] ∧ Z.Warmed39 U.vm ∧ U.heap = h0) (fun _ _ _ _ _ => True) (fun _ U o U' => ∃ v L, o = .returned v ∧ Q_init Z a b u h0 n0 v U'.heap L ∧ FrameEnd U o U' L ({ frames := 1, cells := 0, slots := 0, locals := 12 } : Room).cells ({ frames := 1, cells := 0, slots := 0, locals := 12 } : Room).slots) := by
  refine MetFree.of_bodySF (plainFor_of_name pn_0) hisR ?_
  intro pP eE sS mM args below meth cC s₁ Bd hml0 hP hK
  obtain ⟨rfl, hZ, hh⟩ := hP
  have hx := Bd.exec
  have hby := Bd.bytes
  have hml : cC.maxLocals = 2 := hml0
  have hown : sS.vm.findClass "com/example/subsumer/subsumer/DependencySet" = some mM.cls := findClass_of_methodNamed Bd.named
  have hnm := (name_of_methodNamed Bd.named Bd.method).1
  have X0 : Stand pP l eE ({ frames := 1, cells := 0, slots := 0, locals := 12 } : Room) sS mM #[(.ref a), (.ref b)] below meth cC s₁ [] 0 0 := Stand.of_body Bd
  have e0 : s₁.heap = h0 := by rw [← hh, Bd.state]; rfl
  have N0 := Fr.nil n0
  have pre0 : ∀ tg, Steps pP.tables eE below (s₁.setTop (mkF mM 0 #[.val (.ref a), .val (.ref b)] [])) tg → Steps pP.tables eE below (s₁.setTop (entryFrame mM #[(.ref a), (.ref b)] 2)) tg := fun tg kg => castTop (ef_init mM a b) kg
  have K0 : Keep h0 h0 [a] := Keep.refl _ _
  obtain ⟨T1, X1, e1, st1⟩ := initO X0 hx hZ hown (w_10 hw) (w_11 hw) (w_12 hw) e0 (g := (mkF mM 1 #[.val (.ref a), .val (.ref b)] [(.ref a)])) rfl (by rw [hml]; rfl) rfl (hb hby d_prog_10_method_1_1) (by decide) (W := 0) (by show 2 * 0 + _ ≤ _; exact Nat.le_of_eq rfl) (by decide)
  obtain ⟨T2, h2, X2, e2, W2, st2⟩ := putF X1 hx hZ hown (host := "") (Or.inl (w_13 hw)) Via.refl e1 F_a_levels E_a (Or.inr ⟨(w_14 hw), rfl, hnm⟩) (w_5 hw) (ty := (.array .int)) (by decide) rfl rfl (g := (mkF mM 6 #[.val (.ref a), .val (.ref b)] [(.ref b), (.ref a)])) rfl rfl (hb hby d_prog_10_method_1_6)
  have K3 : Keep h0 h2 [a] := K0.wr W2 (Or.inl (List.mem_of_getElem? (i := 0) rfl))
  have Fw2 : Fld Z h2 a "com/example/subsumer/subsumer/DependencySet" "levels" "[I" (.ref b) := F_a_levels.same W2
  have N2 := Fr.snoc X2 N0 g_a
  have f5 := (E_a.wr W2)
  obtain ⟨fs, hr, hrun, hended, hW, hsame⟩ := X2.leave (v := none) (fun _ => rfl)
  refine ⟨_, _, pre0 _ ?_, hrun, hended, _, _, rfl, ?_, ⟨_, rfl⟩, hW, hsame.mono (by decide) (by decide)⟩
  · refine XS.aloadN X0.here hx rfl (hb hby d_prog_10_method_1_0) rfl rfl ?_
    show Steps pP.tables eE below (s₁.setTop (mkF mM 1 #[.val (.ref a), .val (.ref b)] [(.ref a)])) _
    refine st1 _ ?_
    show Steps pP.tables eE below (T1.setTop (mkF mM 4 #[.val (.ref a), .val (.ref b)] [])) _
    refine XS.aloadN X1.here hx rfl (hb hby d_prog_10_method_1_4) rfl rfl ?_
    show Steps pP.tables eE below (T1.setTop (mkF mM 5 #[.val (.ref a), .val (.ref b)] [(.ref a)])) _
    refine XS.aloadN X1.here hx rfl (hb hby d_prog_10_method_1_5) rfl rfl ?_
    show Steps pP.tables eE below (T1.setTop (mkF mM 6 #[.val (.ref a), .val (.ref b)] [(.ref b), (.ref a)])) _
    refine st2 _ ?_
    show Steps pP.tables eE below (T2.setTop (mkF mM 9 #[.val (.ref a), .val (.ref b)] [])) _
    exact X2.returnOut hx Bd.returns (hb hby d_prog_10_method_1_9) hr
  · show Q_init Z a b u h0 n0 _ T2.heap _
    rw [e2]
    exact ⟨rfl, N2, K3, f5, Fw2⟩
theorem ef_of (m : MethodId) (x0 : Int32) : entryFrame m #[(.int x0)] 1 = mkF m 0 #[.val (.int x0)] [] := by first | (simp [entryFrame, mkF, argsToLocals, Value.category]; done) | rfl
def Q_of (Z : State) (p : Int32) (h0 : Heap) (n0 : Nat) (v : Option Value) (h : Heap) (L : List Loc) : Prop := ∃ (b : Addr) (t : Addr) (k : ClassId), v = some (.ref b) ∧ Fr n0 L ∧ Keep h0 h [] ∧ h0.size ≤ b ∧ h0.size ≤ t ∧ Exa Z h b "com/example/subsumer/subsumer/DependencySet" ∧ Fld Z h b "com/example/subsumer/subsumer/DependencySet" "levels" "[I" (.ref t) ∧ Arv Z h t k .int (1 : Int32) [(.int p)] (.int (0 : Int32))
set_option maxRecDepth 65536 in
set_option maxHeartbeats 40000000 in
theorem rm_of (l : Launch) (Z : State) (a0 : Array Value) (hw : ∀ d ∈ tables_1, d.before a0 Z = true) (ws : List Jvm.Cond) (p : Int32) (h0 : Heap) (n0 : Nat) (O0 : Old Z n0 h0) :
    MetFree l (⟨"com/example/subsumer/subsumer/DependencySet", "of", "(I)Lcom/example/subsumer/subsumer/DependencySet;"⟩ : MethodName) (head1 (Jvm.Cond.code (⟨"com/example/subsumer/subsumer/DependencySet", "of", "(I)Lcom/example/subsumer/subsumer/DependencySet;"⟩ : MethodName) prog_10_method_2_code 1 (some (.object "com/example/subsumer/subsumer/DependencySet")) :: ws) ({ frames := 2, cells := 2, slots := 2, locals := 26 } : Room)) (fun aa_ U => aa_ = #[(.int p)] ∧ Z.Warmed39 U.vm ∧ U.heap = h0) (fun _ _ _ _ _ => True) (fun _ U o U' => ∃ v L, o = .returned v ∧ Q_of Z p h0 n0 v U'.heap L ∧ FrameEnd U o U' L ({ frames := 2, cells := 2, slots := 2, locals := 26 } : Room).cells ({ frames := 2, cells := 2, slots := 2, locals := 26 } : Room).slots) := by
  refine MetFree.of_bodySF (plainFor_of_name pn_0) hisR ?_
  intro pP eE sS mM args below meth cC s₁ Bd hml0 hP hK
  obtain ⟨rfl, hZ, hh⟩ := hP
  have hx := Bd.exec
  have hby := Bd.bytes
  have hml : cC.maxLocals = 1 := hml0
  have hown : sS.vm.findClass "com/example/subsumer/subsumer/DependencySet" = some mM.cls := findClass_of_methodNamed Bd.named
  have hnm := (name_of_methodNamed Bd.named Bd.method).1
  have X0 : Stand pP l eE ({ frames := 2, cells := 2, slots := 2, locals := 26 } : Room) sS mM #[(.int p)] below meth cC s₁ [] 0 0 := Stand.of_body Bd
  have e0 : s₁.heap = h0 := by rw [← hh, Bd.state]; rfl
  have N0 := Fr.nil n0
  have pre0 : ∀ tg, Steps pP.tables eE below (s₁.setTop (mkF mM 0 #[.val (.int p)] [])) tg → Steps pP.tables eE below (s₁.setTop (entryFrame mM #[(.int p)] 1)) tg := fun tg kg => castTop (ef_of mM p) kg
  have K0 : Keep h0 h0 [] := Keep.refl _ _
  obtain ⟨T1, h1, X1, e1, E1, A1, D1, -, st1⟩ := newO X0 hx hZ hown (w_4 hw) (w_5 hw) (w_2 hw) e0 (g := (mkF mM 0 #[.val (.int p)] [])) rfl (hb hby d_prog_10_method_2_0) (by decide) (by decide)
  obtain ⟨b1, g1⟩ : ∃ z, z = h0.size := ⟨_, rfl⟩
  rw [← g1] at A1 D1 st1
  have g_b1 : n0 ≤ b1 := Nat.le_trans (own_osz O0) (Nat.le_of_eq g1.symm)
  have sz_b1 : h0.size ≤ b1 := Nat.le_trans K0.1 (Nat.le_of_eq g1.symm)
  have K2 : Keep h0 h1 [] := K0.ext E1
  have F_b1_levels : Fld Z h1 b1 "com/example/subsumer/subsumer/DependencySet" "levels" "[I" .null := D1 (Or.inr (w_14 hw)) (ty := (.array .int)) (by decide)
  obtain ⟨T3, h3, k3, X3, e3, E3, A3, st3⟩ := newP X1 hx hZ (aty := .int) (w_6 hw) e1 (g := (mkF mM 5 #[.val (.int p)] [(.int (1 : Int32)), (.ref b1), (.ref b1)])) rfl (hb hby d_prog_10_method_2_5) rfl (by decide) (cap := 1) (by decide) (by decide) (by decide) (by decide)
  obtain ⟨b3, g3⟩ : ∃ z, z = h1.size := ⟨_, rfl⟩
  rw [← g3] at A3 st3
  have f4 := (O0.ext E1)
  have g_b3 : n0 ≤ b3 := Nat.le_trans (own_osz f4) (Nat.le_of_eq g3.symm)
  have sz_b3 : h0.size ≤ b3 := Nat.le_trans K2.1 (Nat.le_of_eq g3.symm)
  have K5 : Keep h0 h3 [] := K2.ext E3
  have V3 : Arv Z h3 b3 k3 .int (1 : Int32) [(.int (0 : Int32))] (.int (0 : Int32)) := (Arv.new A3 (by decide)).pad (pad_rep [] (.int (0 : Int32)) 1)
  obtain ⟨cl6, Ar6, qk6, S6, Nn6, Hh6, G6⟩ := id V3
  have hin6 : ¬ ((0 : Int32) < 0 ∨ cl6.slots.size ≤ ((0 : Int32)).toNatClampNeg) := inb_of S6 ⟨by decide, by decide⟩
  obtain ⟨T6, h6, X6, e6, W6, st6⟩ := stI X3 hx hZ e3 Ar6 (j := (0 : Int32)) hin6 (g := (mkF mM 10 #[.val (.int p)] [(.int p), (.int (0 : Int32)), (.ref b3), (.ref b3), (.ref b1), (.ref b1)])) rfl rfl (hb hby d_prog_10_method_2_10)
  have K7 : Keep h0 h6 [] := K5.wr W6 (Or.inr sz_b3)
  have V6 : Arv Z h6 b3 k3 .int (1 : Int32) [(.int p)] (.int (0 : Int32)) := Arv.set Ar6 qk6 S6 Nn6 Hh6 G6 rfl W6 0 rfl (Nat.le_of_ble_eq_true rfl)
  have N6 := Fr.snoc X6 N0 g_b3
  have f8 := ((A1.ext E3).wr W6)
  have f9 := ((F_b1_levels.ext E3).other W6 (Or.inl (Nat.ne_of_lt (Nat.lt_of_lt_of_le (A1).lt (Nat.le_of_eq g3.symm)))))
  have f10 := ((f4.ext E3).wr W6 g_b3)
  obtain ⟨_, _, ⟨T11, L11, k11, n11⟩, -, X11, ⟨Lc11, hQ11, l11, y11, z11⟩, st11⟩ := X6.specialBack hx (y := (⟨"com/example/subsumer/subsumer/DependencySet", "<init>", "([I)V"⟩ : MethodName)) rfl hown (mvT hZ (w_7 hw)) (mvT hZ (w_8 hw)) (mvT hZ (w_9 hw)) (by decide) (backOf (W := 1) (rm_init l Z a0 hw [] b1 b3 .null h6 n0 f10 f8 f9 g_b1) hZ (w_9 hw) (w_2 hw) (by decide) (by decide)) (g := (mkF mM 11 #[.val (.int p)] [(.ref b3), (.ref b1), (.ref b1)])) rfl (by rw [hml]; rfl) (Steps.refl _) (a := b1) (argsL := [(.ref b3)]) (rest := [(.ref b1)]) (lenOf pd_0 rfl) rfl (by show 2 * 0 + _ ≤ _; exact Nat.le_of_eq rfl) (hb hby d_prog_10_method_2_11) (fun _ _ => ⟨rfl, e6, (by decide : 2 + 0 ≤ _), (by decide : 2 + 0 ≤ _)⟩)
  dsimp only [Pt.U, Pt.locs, Pt.cells, Pt.slots] at X11 l11 y11 z11 st11 hQ11
  subst l11 y11 z11
  obtain ⟨rfl, Nq11, Kq11, q11_0, q11_1⟩ := hQ11
  have N11 := Fr.app N6 Nq11
  have K12 : Keep h0 T11.heap [] := K7.trans Kq11 (allS (Or.inr sz_b1) all0)
  have f14 := (V6.keep Kq11 (ninS (Ne.symm (Nat.ne_of_lt (Nat.lt_of_lt_of_le (A1).lt (Nat.le_of_eq g3.symm)))) nin0))
  obtain ⟨fs, hr, hrun, hended, hW, hsame⟩ := X11.leave (v := some (.ref b1)) (fun h => by rw [Bd.returns] at h; cases h)
  refine ⟨_, _, pre0 _ ?_, hrun, hended, _, _, rfl, ?_, ⟨_, rfl⟩, hW, hsame.mono (by decide) (by decide)⟩
  · refine st1 _ ?_
    show Steps pP.tables eE below (T1.setTop (mkF mM 3 #[.val (.int p)] [(.ref b1)])) _
    refine XS.dup X1.here hx rfl (hb hby d_prog_10_method_2_3) rfl rfl ?_
    show Steps pP.tables eE below (T1.setTop (mkF mM 4 #[.val (.int p)] [(.ref b1), (.ref b1)])) _
    refine XS.iconst X1.here hx rfl (hb hby d_prog_10_method_2_4) ?_
    show Steps pP.tables eE below (T1.setTop (mkF mM 5 #[.val (.int p)] [(.int (1 : Int32)), (.ref b1), (.ref b1)])) _
    refine st3 _ ?_
    show Steps pP.tables eE below (T3.setTop (mkF mM 7 #[.val (.int p)] [(.ref b3), (.ref b1), (.ref b1)])) _
    refine XS.dup X3.here hx rfl (hb hby d_prog_10_method_2_7) rfl rfl ?_
    show Steps pP.tables eE below (T3.setTop (mkF mM 8 #[.val (.int p)] [(.ref b3), (.ref b3), (.ref b1), (.ref b1)])) _
    refine XS.iconst X3.here hx rfl (hb hby d_prog_10_method_2_8) ?_
    show Steps pP.tables eE below (T3.setTop (mkF mM 9 #[.val (.int p)] [(.int (0 : Int32)), (.ref b3), (.ref b3), (.ref b1), (.ref b1)])) _
    refine XS.iloadN X3.here hx rfl (hb hby d_prog_10_method_2_9) rfl ?_
    show Steps pP.tables eE below (T3.setTop (mkF mM 10 #[.val (.int p)] [(.int p), (.int (0 : Int32)), (.ref b3), (.ref b3), (.ref b1), (.ref b1)])) _
    refine st6 _ ?_
    show Steps pP.tables eE below (T6.setTop (mkF mM 11 #[.val (.int p)] [(.ref b3), (.ref b1), (.ref b1)])) _
    refine st11.trans ?_
    show Steps pP.tables eE below (T11.setTop (mkF mM 14 #[.val (.int p)] [(.ref b1)])) _
    jvm_step X11.here [X11.here.top, hx, (hb hby d_prog_10_method_2_14), X11.method', Bd.returns, Value.isRef, FieldType.isReference]
    first | (intro acts; rw [hr _ acts rfl rfl rfl]) | rw [hr _ _ rfl rfl rfl]
    exact Steps.refl _
  · show Q_of Z p h0 n0 _ T11.heap _
    exact ⟨b1, b3, k3, rfl, N11, K12, sz_b1, sz_b3, q11_0, q11_1, f14⟩
theorem ef_emp (m : MethodId) (x0 : Addr) : entryFrame m #[(.ref x0)] 1 = mkF m 0 #[.val (.ref x0)] [] := by first | (simp [entryFrame, mkF, argsToLocals, Value.category]; done) | rfl
def Q_emp (Z : State) (a : Addr) (t : Addr) (k : ClassId) (z : Int32) (vs : List Value) (h0 : Heap) (n0 : Nat) (v : Option Value) (h : Heap) (L : List Loc) : Prop := v = some (.int (if z = 0 then 1 else 0)) ∧ L = [] ∧ h = h0
set_option maxRecDepth 65536 in
set_option maxHeartbeats 40000000 in
theorem rm_emp (l : Launch) (Z : State) (a0 : Array Value) (hw : ∀ d ∈ tables_1, d.before a0 Z = true) (ws : List Jvm.Cond) (a : Addr) (t : Addr) (k : ClassId) (z : Int32) (vs : List Value) (h0 : Heap) (n0 : Nat) (O0 : Old Z n0 h0) (F_a_levels : Fld Z h0 a "com/example/subsumer/subsumer/DependencySet" "levels" "[I" (.ref t)) (V_t : Arv Z h0 t k .int z vs (.int (0 : Int32))) :
    MetFree l (⟨"com/example/subsumer/subsumer/DependencySet", "isEmpty", "()Z"⟩ : MethodName) (head1 (Jvm.Cond.code (⟨"com/example/subsumer/subsumer/DependencySet", "isEmpty", "()Z"⟩ : MethodName) prog_10_method_3_code 1 (some .boolean) :: ws) ({ frames := 0, cells := 0, slots := 0, locals := 0 } : Room)) (fun aa_ U => aa_ = #[(.ref a)] ∧ Z.Warmed39 U.vm ∧ U.heap = h0) (fun _ _ _ _ _ => True) (fun _ U o U' => ∃ v L, o = .returned v ∧ Q_emp Z a t k z vs h0 n0 v U'.heap L ∧ FrameEnd U o U' L ({ frames := 0, cells := 0, slots := 0, locals := 0 } : Room).cells ({ frames := 0, cells := 0, slots := 0, locals := 0 } : Room).slots) := by
  refine MetFree.of_bodySF (plainFor_of_name pn_0) hisR ?_
  intro pP eE sS mM args below meth cC s₁ Bd hml0 hP hK
  obtain ⟨rfl, hZ, hh⟩ := hP
  have hx := Bd.exec
  have hby := Bd.bytes
  have hml : cC.maxLocals = 1 := hml0
  have hown : sS.vm.findClass "com/example/subsumer/subsumer/DependencySet" = some mM.cls := findClass_of_methodNamed Bd.named
  have hnm := (name_of_methodNamed Bd.named Bd.method).1
  have X0 : Stand pP l eE ({ frames := 0, cells := 0, slots := 0, locals := 0 } : Room) sS mM #[(.ref a)] below meth cC s₁ [] 0 0 := Stand.of_body Bd
  have e0 : s₁.heap = h0 := by rw [← hh, Bd.state]; rfl
  have N0 := Fr.nil n0
  have pre0 : ∀ tg, Steps pP.tables eE below (s₁.setTop (mkF mM 0 #[.val (.ref a)] [])) tg → Steps pP.tables eE below (s₁.setTop (entryFrame mM #[(.ref a)] 1)) tg := fun tg kg => castTop (ef_emp mM a) kg
  obtain ⟨T1, X1, e1, st1⟩ := getF X0 hx hZ hown (host := "") (Or.inl (w_13 hw)) Via.refl e0 F_a_levels (g := (mkF mM 1 #[.val (.ref a)] [(.ref a)])) rfl rfl (hb hby d_prog_10_method_3_1)
  obtain ⟨cl2, Ar2, -, S2, Nn2, -, -⟩ := id V_t
  have pre4 : ∀ tg, Steps pP.tables eE below (T1.setTop (mkF mM 5 #[.val (.ref a)] [(.int z)])) tg → Steps pP.tables eE below (s₁.setTop (entryFrame mM #[(.ref a)] 1)) tg := fun tg kg => pre0 tg (by
    refine XS.aloadN X0.here hx rfl (hb hby d_prog_10_method_3_0) rfl rfl ?_
    show Steps pP.tables eE below (s₁.setTop (mkF mM 1 #[.val (.ref a)] [(.ref a)])) _
    refine st1 _ ?_
    show Steps pP.tables eE below (T1.setTop (mkF mM 4 #[.val (.ref a)] [(.ref t)])) _
    refine X1.arraylength hx (by rw [e1]; exact Ar2.1) (State.isArrayOf_alike hZ.alike Ar2.2.1) (g := (mkF mM 4 #[.val (.ref a)] [(.ref t)])) rfl rfl (hb hby d_prog_10_method_3_4) _ ?_
    rw [len_of S2 Nn2]
    exact kg)
  by_cases hc3 : z = (0 : Int32)
  · obtain ⟨fs, hr, hrun, hended, hW, hsame⟩ := X1.leave (v := some (.int (1 : Int32))) (fun h => by rw [Bd.returns] at h; cases h)
    refine ⟨_, _, pre4 _ ?_, hrun, hended, _, _, rfl, ?_, ⟨_, rfl⟩, hW, hsame.mono (by decide) (by decide)⟩
    · refine XS.ifNo X1.here hx rfl (hb hby d_prog_10_method_3_5) rfl ((if0 _ _).trans (teq hc3).2) ?_
      show Steps pP.tables eE below (T1.setTop (mkF mM 8 #[.val (.ref a)] [])) _
      refine XS.iconst X1.here hx rfl (hb hby d_prog_10_method_3_8) ?_
      show Steps pP.tables eE below (T1.setTop (mkF mM 9 #[.val (.ref a)] [(.int (1 : Int32))])) _
      refine XS.goto X1.here hx rfl (pc0 := 9) (pc' := 13) rfl (hb hby d_prog_10_method_3_9) (by decide) (by decide) ?_
      show Steps pP.tables eE below (T1.setTop (mkF mM 13 #[.val (.ref a)] [(.int (1 : Int32))])) _
      exact retN X1 hx (t := .boolean) Bd.returns (by simp) (hb hby d_prog_10_method_3_13) hr
    · show Q_emp Z a t k z vs h0 n0 _ T1.heap _
      rw [e1]
      exact ⟨(by rw [if_pos hc3]), rfl, rfl⟩
  · obtain ⟨fs, hr, hrun, hended, hW, hsame⟩ := X1.leave (v := some (.int (0 : Int32))) (fun h => by rw [Bd.returns] at h; cases h)
    refine ⟨_, _, pre4 _ ?_, hrun, hended, _, _, rfl, ?_, ⟨_, rfl⟩, hW, hsame.mono (by decide) (by decide)⟩
    · refine XS.ifYes X1.here hx rfl (pc0 := 5) (pc' := 12) rfl (hb hby d_prog_10_method_3_5) rfl ((if0 _ _).trans (feq hc3).2) (by decide) (by decide) ?_
      show Steps pP.tables eE below (T1.setTop (mkF mM 12 #[.val (.ref a)] [])) _
      refine XS.iconst X1.here hx rfl (hb hby d_prog_10_method_3_12) ?_
      show Steps pP.tables eE below (T1.setTop (mkF mM 13 #[.val (.ref a)] [(.int (0 : Int32))])) _
      exact retN X1 hx (t := .boolean) Bd.returns (by simp) (hb hby d_prog_10_method_3_13) hr
    · show Q_emp Z a t k z vs h0 n0 _ T1.heap _
      rw [e1]
      exact ⟨(by rw [if_neg hc3]), rfl, rfl⟩
theorem ef_max (m : MethodId) (x0 : Addr) : entryFrame m #[(.ref x0)] 1 = mkF m 0 #[.val (.ref x0)] [] := by first | (simp [entryFrame, mkF, argsToLocals, Value.category]; done) | rfl
def Q_max (Z : State) (a : Addr) (t : Addr) (k : ClassId) (x : Int32) (h0 : Heap) (n0 : Nat) (v : Option Value) (h : Heap) (L : List Loc) : Prop := v = some (.int x) ∧ L = [] ∧ h = h0
set_option maxRecDepth 65536 in
set_option maxHeartbeats 40000000 in
theorem rm_max (l : Launch) (Z : State) (a0 : Array Value) (hw : ∀ d ∈ tables_1, d.before a0 Z = true) (ws : List Jvm.Cond) (a : Addr) (t : Addr) (k : ClassId) (x : Int32) (h0 : Heap) (n0 : Nat) (O0 : Old Z n0 h0) (F_a_levels : Fld Z h0 a "com/example/subsumer/subsumer/DependencySet" "levels" "[I" (.ref t)) (V_t : Arv Z h0 t k .int (1 : Int32) [(.int x)] (.int (0 : Int32))) :
    MetFree l (⟨"com/example/subsumer/subsumer/DependencySet", "max", "()I"⟩ : MethodName) (head1 (Jvm.Cond.code (⟨"com/example/subsumer/subsumer/DependencySet", "max", "()I"⟩ : MethodName) prog_10_method_4_code 1 (some .int) :: ws) ({ frames := 0, cells := 0, slots := 0, locals := 0 } : Room)) (fun aa_ U => aa_ = #[(.ref a)] ∧ Z.Warmed39 U.vm ∧ U.heap = h0) (fun _ _ _ _ _ => True) (fun _ U o U' => ∃ v L, o = .returned v ∧ Q_max Z a t k x h0 n0 v U'.heap L ∧ FrameEnd U o U' L ({ frames := 0, cells := 0, slots := 0, locals := 0 } : Room).cells ({ frames := 0, cells := 0, slots := 0, locals := 0 } : Room).slots) := by
  refine MetFree.of_bodySF (plainFor_of_name pn_0) hisR ?_
  intro pP eE sS mM args below meth cC s₁ Bd hml0 hP hK
  obtain ⟨rfl, hZ, hh⟩ := hP
  have hx := Bd.exec
  have hby := Bd.bytes
  have hml : cC.maxLocals = 1 := hml0
  have hown : sS.vm.findClass "com/example/subsumer/subsumer/DependencySet" = some mM.cls := findClass_of_methodNamed Bd.named
  have hnm := (name_of_methodNamed Bd.named Bd.method).1
  have X0 : Stand pP l eE ({ frames := 0, cells := 0, slots := 0, locals := 0 } : Room) sS mM #[(.ref a)] below meth cC s₁ [] 0 0 := Stand.of_body Bd
  have e0 : s₁.heap = h0 := by rw [← hh, Bd.state]; rfl
  have N0 := Fr.nil n0
  have pre0 : ∀ tg, Steps pP.tables eE below (s₁.setTop (mkF mM 0 #[.val (.ref a)] [])) tg → Steps pP.tables eE below (s₁.setTop (entryFrame mM #[(.ref a)] 1)) tg := fun tg kg => castTop (ef_max mM a) kg
  obtain ⟨T1, X1, e1, st1⟩ := getF X0 hx hZ hown (host := "") (Or.inl (w_13 hw)) Via.refl e0 F_a_levels (g := (mkF mM 1 #[.val (.ref a)] [(.ref a)])) rfl rfl (hb hby d_prog_10_method_4_1)
  obtain ⟨T2, X2, e2, st2⟩ := getF X1 hx hZ hown (host := "") (Or.inl (w_13 hw)) Via.refl e1 F_a_levels (g := (mkF mM 5 #[.val (.ref a)] [(.ref a), (.ref t)])) rfl rfl (hb hby d_prog_10_method_4_5)
  obtain ⟨cl3, Ar3, -, S3, Nn3, -, -⟩ := id V_t
  obtain ⟨cl4, Ar4, -, S4, Nn4, Hh4, -⟩ := id V_t
  have hin4 : ¬ ((0 : Int32) < 0 ∨ cl4.slots.size ≤ ((0 : Int32)).toNatClampNeg) := inb_of S4 ⟨by decide, by decide⟩
  have hat4 : cl4.slots[((0 : Int32)).toNatClampNeg]? = some (.int x) := Hh4.at hin4 rfl
  obtain ⟨fs, hr, hrun, hended, hW, hsame⟩ := X2.leave (v := some (.int x)) (fun h => by rw [Bd.returns] at h; cases h)
  refine ⟨_, _, pre0 _ ?_, hrun, hended, _, _, rfl, ?_, ⟨_, rfl⟩, hW, hsame.mono (by decide) (by decide)⟩
  · refine XS.aloadN X0.here hx rfl (hb hby d_prog_10_method_4_0) rfl rfl ?_
    show Steps pP.tables eE below (s₁.setTop (mkF mM 1 #[.val (.ref a)] [(.ref a)])) _
    refine st1 _ ?_
    show Steps pP.tables eE below (T1.setTop (mkF mM 4 #[.val (.ref a)] [(.ref t)])) _
    refine XS.aloadN X1.here hx rfl (hb hby d_prog_10_method_4_4) rfl rfl ?_
    show Steps pP.tables eE below (T1.setTop (mkF mM 5 #[.val (.ref a)] [(.ref a), (.ref t)])) _
    refine st2 _ ?_
    show Steps pP.tables eE below (T2.setTop (mkF mM 8 #[.val (.ref a)] [(.ref t), (.ref t)])) _
    refine X2.arraylength hx (by rw [e2]; exact Ar3.1) (State.isArrayOf_alike hZ.alike Ar3.2.1) (g := (mkF mM 8 #[.val (.ref a)] [(.ref t), (.ref t)])) rfl rfl (hb hby d_prog_10_method_4_8) _ ?_
    rw [len_of S3 Nn3]
    show Steps pP.tables eE below (T2.setTop (mkF mM 9 #[.val (.ref a)] [(.int (1 : Int32)), (.ref t)])) _
    refine XS.iconst X2.here hx rfl (hb hby d_prog_10_method_4_9) ?_
    show Steps pP.tables eE below (T2.setTop (mkF mM 10 #[.val (.ref a)] [(.int (1 : Int32)), (.int (1 : Int32)), (.ref t)])) _
    refine XS.isub X2.here hx rfl (hb hby d_prog_10_method_4_10) rfl ?_
    show Steps pP.tables eE below (T2.setTop (mkF mM 11 #[.val (.ref a)] [(.int (0 : Int32)), (.ref t)])) _
    refine X2.iaload hx (j := (0 : Int32)) (v := (.int x)) (by rw [e2]; exact Ar4.1) (State.isArrayOf_alike hZ.alike Ar4.2.1) Ar4.2.2 hin4 hat4 (g := (mkF mM 11 #[.val (.ref a)] [(.int (0 : Int32)), (.ref t)])) rfl rfl (hb hby d_prog_10_method_4_11) _ ?_
    show Steps pP.tables eE below (T2.setTop (mkF mM 12 #[.val (.ref a)] [(.int x)])) _
    exact retI X2 hx Bd.returns (hb hby d_prog_10_method_4_12) hr
  · show Q_max Z a t k x h0 n0 _ T2.heap _
    rw [e2]
    exact ⟨rfl, rfl, rfl⟩
theorem ef_bs0 (m : MethodId) (x0 : Addr) (x1 : Int32) (x2 : Int32) (x3 : Int32) : entryFrame m #[(.ref x0), (.int x1), (.int x2), (.int x3)] 8 = mkF m 0 #[.val (.ref x0), .val (.int x1), .val (.int x2), .val (.int x3), .unset, .unset, .unset, .unset] [] := by first | (simp [entryFrame, mkF, argsToLocals, Value.category]; done) | rfl
def Q_bs0 (Z : State) (t : Addr) (k : ClassId) (x : Int32) (p : Int32) (h0 : Heap) (n0 : Nat) (v : Option Value) (h : Heap) (L : List Loc) : Prop := v = some (.int (own_bs x p)) ∧ L = [] ∧ h = h0
set_option maxRecDepth 65536 in
set_option maxHeartbeats 40000000 in
theorem rm_bs0 (l : Launch) (Z : State) (a0 : Array Value) (hw : ∀ d ∈ tables_1, d.before a0 Z = true) (ws : List Jvm.Cond) (t : Addr) (k : ClassId) (x : Int32) (p : Int32) (h0 : Heap) (n0 : Nat) (O0 : Old Z n0 h0) (V_t : Arv Z h0 t k .int (1 : Int32) [(.int x)] (.int (0 : Int32))) :
    MetFree l (⟨"java/util/Arrays", "binarySearch0", "([IIII)I"⟩ : MethodName) (head1 (Jvm.Cond.code (⟨"java/util/Arrays", "binarySearch0", "([IIII)I"⟩ : MethodName) jdk_65_method_59_code 8 (some .int) :: ws) ({ frames := 0, cells := 0, slots := 0, locals := 0 } : Room)) (fun aa_ U => aa_ = #[(.ref t), (.int (0 : Int32)), (.int (1 : Int32)), (.int p)] ∧ Z.Warmed39 U.vm ∧ U.heap = h0) (fun _ _ _ _ _ => True) (fun _ U o U' => ∃ v L, o = .returned v ∧ Q_bs0 Z t k x p h0 n0 v U'.heap L ∧ FrameEnd U o U' L ({ frames := 0, cells := 0, slots := 0, locals := 0 } : Room).cells ({ frames := 0, cells := 0, slots := 0, locals := 0 } : Room).slots) := by
  refine MetFree.of_bodySF (plainFor_of_name pn_1) hisR ?_
  intro pP eE sS mM args below meth cC s₁ Bd hml0 hP hK
  obtain ⟨rfl, hZ, hh⟩ := hP
  have hx := Bd.exec
  have hby := Bd.bytes
  have hml : cC.maxLocals = 8 := hml0
  have hown : sS.vm.findClass "java/util/Arrays" = some mM.cls := findClass_of_methodNamed Bd.named
  have hnm := (name_of_methodNamed Bd.named Bd.method).1
  have X0 : Stand pP l eE ({ frames := 0, cells := 0, slots := 0, locals := 0 } : Room) sS mM #[(.ref t), (.int (0 : Int32)), (.int (1 : Int32)), (.int p)] below meth cC s₁ [] 0 0 := Stand.of_body Bd
  have e0 : s₁.heap = h0 := by rw [← hh, Bd.state]; rfl
  have N0 := Fr.nil n0
  have pre0 : ∀ tg, Steps pP.tables eE below (s₁.setTop (mkF mM 0 #[.val (.ref t), .val (.int (0 : Int32)), .val (.int (1 : Int32)), .val (.int p), .unset, .unset, .unset, .unset] [])) tg → Steps pP.tables eE below (s₁.setTop (entryFrame mM #[(.ref t), (.int (0 : Int32)), (.int (1 : Int32)), (.int p)] 8)) tg := fun tg kg => castTop (ef_bs0 mM t (0 : Int32) (1 : Int32) p) kg
  let Ls1 : Array Slot := #[.val (.ref t), .val (.int (0 : Int32)), .val (.int (1 : Int32)), .val (.int p), .val (.int (0 : Int32)), .unset, .unset, .unset]
  let Ls2 : Array Slot := #[.val (.ref t), .val (.int (0 : Int32)), .val (.int (1 : Int32)), .val (.int p), .val (.int (0 : Int32)), .val (.int (0 : Int32)), .unset, .unset]
  let Ls3 : Array Slot := #[.val (.ref t), .val (.int (0 : Int32)), .val (.int (1 : Int32)), .val (.int p), .val (.int (0 : Int32)), .val (.int (0 : Int32)), .val (.int (((0 : Int32).toUInt32 >>> ((1 : Int32) &&& 31).toUInt32).toInt32)), .unset]
  obtain ⟨cl4, Ar4, -, S4, Nn4, Hh4, -⟩ := id V_t
  have hin4 : ¬ ((((0 : Int32).toUInt32 >>> ((1 : Int32) &&& 31).toUInt32).toInt32) < 0 ∨ cl4.slots.size ≤ ((((0 : Int32).toUInt32 >>> ((1 : Int32) &&& 31).toUInt32).toInt32)).toNatClampNeg) := inb_of S4 ⟨by decide, by decide⟩
  have hat4 : cl4.slots[((((0 : Int32).toUInt32 >>> ((1 : Int32) &&& 31).toUInt32).toInt32)).toNatClampNeg]? = some (.int x) := Hh4.at hin4 rfl
  let Ls5 : Array Slot := #[.val (.ref t), .val (.int (0 : Int32)), .val (.int (1 : Int32)), .val (.int p), .val (.int (0 : Int32)), .val (.int (0 : Int32)), .val (.int (((0 : Int32).toUInt32 >>> ((1 : Int32) &&& 31).toUInt32).toInt32)), .val (.int x)]
  have pre7 : ∀ tg, Steps pP.tables eE below (s₁.setTop (mkF mM 33 Ls5 [(.int p), (.int x)])) tg → Steps pP.tables eE below (s₁.setTop (entryFrame mM #[(.ref t), (.int (0 : Int32)), (.int (1 : Int32)), (.int p)] 8)) tg := fun tg kg => pre0 tg (by
    refine XS.iloadN X0.here hx rfl (hb hby d_jdk_65_method_59_0) rfl ?_
    show Steps pP.tables eE below (s₁.setTop (mkF mM 1 #[.val (.ref t), .val (.int (0 : Int32)), .val (.int (1 : Int32)), .val (.int p), .unset, .unset, .unset, .unset] [(.int (0 : Int32))])) _
    refine XS.istore X0.here hx rfl (hb hby d_jdk_65_method_59_1) rfl (l' := Ls1) rfl ?_
    show Steps pP.tables eE below (s₁.setTop (mkF mM 3 Ls1 [])) _
    refine XS.iloadN X0.here hx rfl (hb hby d_jdk_65_method_59_3) rfl ?_
    show Steps pP.tables eE below (s₁.setTop (mkF mM 4 Ls1 [(.int (1 : Int32))])) _
    refine XS.iconst X0.here hx rfl (hb hby d_jdk_65_method_59_4) ?_
    show Steps pP.tables eE below (s₁.setTop (mkF mM 5 Ls1 [(.int (1 : Int32)), (.int (1 : Int32))])) _
    refine XS.isub X0.here hx rfl (hb hby d_jdk_65_method_59_5) rfl ?_
    show Steps pP.tables eE below (s₁.setTop (mkF mM 6 Ls1 [(.int (0 : Int32))])) _
    refine XS.istore X0.here hx rfl (hb hby d_jdk_65_method_59_6) rfl (l' := Ls2) rfl ?_
    show Steps pP.tables eE below (s₁.setTop (mkF mM 8 Ls2 [])) _
    refine XS.iload X0.here hx rfl (hb hby d_jdk_65_method_59_8) rfl ?_
    show Steps pP.tables eE below (s₁.setTop (mkF mM 10 Ls2 [(.int (0 : Int32))])) _
    refine XS.iload X0.here hx rfl (hb hby d_jdk_65_method_59_10) rfl ?_
    show Steps pP.tables eE below (s₁.setTop (mkF mM 12 Ls2 [(.int (0 : Int32)), (.int (0 : Int32))])) _
    refine XS.icmpNo X0.here hx rfl (hb hby d_jdk_65_method_59_12) rfl (flt (by decide : ¬ ((0 : Int32) < (0 : Int32)))).2.2.1 ?_
    show Steps pP.tables eE below (s₁.setTop (mkF mM 15 Ls2 [])) _
    refine XS.iload X0.here hx rfl (hb hby d_jdk_65_method_59_15) rfl ?_
    show Steps pP.tables eE below (s₁.setTop (mkF mM 17 Ls2 [(.int (0 : Int32))])) _
    refine XS.iload X0.here hx rfl (hb hby d_jdk_65_method_59_17) rfl ?_
    show Steps pP.tables eE below (s₁.setTop (mkF mM 19 Ls2 [(.int (0 : Int32)), (.int (0 : Int32))])) _
    refine XS.iadd X0.here hx rfl (hb hby d_jdk_65_method_59_19) rfl ?_
    show Steps pP.tables eE below (s₁.setTop (mkF mM 20 Ls2 [(.int (0 : Int32))])) _
    refine XS.iconst X0.here hx rfl (hb hby d_jdk_65_method_59_20) ?_
    show Steps pP.tables eE below (s₁.setTop (mkF mM 21 Ls2 [(.int (1 : Int32)), (.int (0 : Int32))])) _
    refine XS.iushr X0.here hx rfl (hb hby d_jdk_65_method_59_21) rfl ?_
    show Steps pP.tables eE below (s₁.setTop (mkF mM 22 Ls2 [(.int (((0 : Int32).toUInt32 >>> ((1 : Int32) &&& 31).toUInt32).toInt32))])) _
    refine XS.istore X0.here hx rfl (hb hby d_jdk_65_method_59_22) rfl (l' := Ls3) rfl ?_
    show Steps pP.tables eE below (s₁.setTop (mkF mM 24 Ls3 [])) _
    refine XS.aloadN X0.here hx rfl (hb hby d_jdk_65_method_59_24) rfl rfl ?_
    show Steps pP.tables eE below (s₁.setTop (mkF mM 25 Ls3 [(.ref t)])) _
    refine XS.iload X0.here hx rfl (hb hby d_jdk_65_method_59_25) rfl ?_
    show Steps pP.tables eE below (s₁.setTop (mkF mM 27 Ls3 [(.int (((0 : Int32).toUInt32 >>> ((1 : Int32) &&& 31).toUInt32).toInt32)), (.ref t)])) _
    refine X0.iaload hx (j := (((0 : Int32).toUInt32 >>> ((1 : Int32) &&& 31).toUInt32).toInt32)) (v := (.int x)) (by rw [e0]; exact Ar4.1) (State.isArrayOf_alike hZ.alike Ar4.2.1) Ar4.2.2 hin4 hat4 (g := (mkF mM 27 Ls3 [(.int (((0 : Int32).toUInt32 >>> ((1 : Int32) &&& 31).toUInt32).toInt32)), (.ref t)])) rfl rfl (hb hby d_jdk_65_method_59_27) _ ?_
    show Steps pP.tables eE below (s₁.setTop (mkF mM 28 Ls3 [(.int x)])) _
    refine XS.istore X0.here hx rfl (hb hby d_jdk_65_method_59_28) rfl (l' := Ls5) rfl ?_
    show Steps pP.tables eE below (s₁.setTop (mkF mM 30 Ls5 [])) _
    refine XS.iload X0.here hx rfl (hb hby d_jdk_65_method_59_30) rfl ?_
    show Steps pP.tables eE below (s₁.setTop (mkF mM 32 Ls5 [(.int x)])) _
    refine XS.iloadN X0.here hx rfl (hb hby d_jdk_65_method_59_32) rfl ?_
    exact kg)
  by_cases hc6 : x < p
  · let Ls8 : Array Slot := #[.val (.ref t), .val (.int (0 : Int32)), .val (.int (1 : Int32)), .val (.int p), .val (.int ((((0 : Int32).toUInt32 >>> ((1 : Int32) &&& 31).toUInt32).toInt32) + (1 : Int32))), .val (.int (0 : Int32)), .val (.int (((0 : Int32).toUInt32 >>> ((1 : Int32) &&& 31).toUInt32).toInt32)), .val (.int x)]
    obtain ⟨fs, hr, hrun, hended, hW, hsame⟩ := X0.leave (v := some (.int (-(((((0 : Int32).toUInt32 >>> ((1 : Int32) &&& 31).toUInt32).toInt32) + (1 : Int32)) + (1 : Int32))))) (fun h => by rw [Bd.returns] at h; cases h)
    refine ⟨_, _, pre7 _ ?_, hrun, hended, _, _, rfl, ?_, ⟨_, rfl⟩, hW, hsame.mono (by decide) (by decide)⟩
    · refine XS.icmpNo X0.here hx rfl (hb hby d_jdk_65_method_59_33) rfl (tlt hc6).2.1 ?_
      show Steps pP.tables eE below (s₁.setTop (mkF mM 36 Ls5 [])) _
      refine XS.iload X0.here hx rfl (hb hby d_jdk_65_method_59_36) rfl ?_
      show Steps pP.tables eE below (s₁.setTop (mkF mM 38 Ls5 [(.int (((0 : Int32).toUInt32 >>> ((1 : Int32) &&& 31).toUInt32).toInt32))])) _
      refine XS.iconst X0.here hx rfl (hb hby d_jdk_65_method_59_38) ?_
      show Steps pP.tables eE below (s₁.setTop (mkF mM 39 Ls5 [(.int (1 : Int32)), (.int (((0 : Int32).toUInt32 >>> ((1 : Int32) &&& 31).toUInt32).toInt32))])) _
      refine XS.iadd X0.here hx rfl (hb hby d_jdk_65_method_59_39) rfl ?_
      show Steps pP.tables eE below (s₁.setTop (mkF mM 40 Ls5 [(.int ((((0 : Int32).toUInt32 >>> ((1 : Int32) &&& 31).toUInt32).toInt32) + (1 : Int32)))])) _
      refine XS.istore X0.here hx rfl (hb hby d_jdk_65_method_59_40) rfl (l' := Ls8) rfl ?_
      show Steps pP.tables eE below (s₁.setTop (mkF mM 42 Ls8 [])) _
      refine XS.goto X0.here hx rfl (pc0 := 42) (pc' := 63) rfl (hb hby d_jdk_65_method_59_42) (by decide) (by decide) ?_
      show Steps pP.tables eE below (s₁.setTop (mkF mM 63 Ls8 [])) _
      refine XS.goto X0.here hx rfl (pc0 := 63) (pc' := 8) rfl (hb hby d_jdk_65_method_59_63) (by decide) (by decide) ?_
      show Steps pP.tables eE below (s₁.setTop (mkF mM 8 Ls8 [])) _
      refine XS.iload X0.here hx rfl (hb hby d_jdk_65_method_59_8) rfl ?_
      show Steps pP.tables eE below (s₁.setTop (mkF mM 10 Ls8 [(.int ((((0 : Int32).toUInt32 >>> ((1 : Int32) &&& 31).toUInt32).toInt32) + (1 : Int32)))])) _
      refine XS.iload X0.here hx rfl (hb hby d_jdk_65_method_59_10) rfl ?_
      show Steps pP.tables eE below (s₁.setTop (mkF mM 12 Ls8 [(.int (0 : Int32)), (.int ((((0 : Int32).toUInt32 >>> ((1 : Int32) &&& 31).toUInt32).toInt32) + (1 : Int32)))])) _
      refine XS.icmpYes X0.here hx rfl (pc0 := 12) (pc' := 66) rfl (hb hby d_jdk_65_method_59_12) rfl (tlt (by decide : (0 : Int32) < ((((0 : Int32).toUInt32 >>> ((1 : Int32) &&& 31).toUInt32).toInt32) + (1 : Int32)))).2.2.1 (by decide) (by decide) ?_
      show Steps pP.tables eE below (s₁.setTop (mkF mM 66 Ls8 [])) _
      refine XS.iload X0.here hx rfl (hb hby d_jdk_65_method_59_66) rfl ?_
      show Steps pP.tables eE below (s₁.setTop (mkF mM 68 Ls8 [(.int ((((0 : Int32).toUInt32 >>> ((1 : Int32) &&& 31).toUInt32).toInt32) + (1 : Int32)))])) _
      refine XS.iconst X0.here hx rfl (hb hby d_jdk_65_method_59_68) ?_
      show Steps pP.tables eE below (s₁.setTop (mkF mM 69 Ls8 [(.int (1 : Int32)), (.int ((((0 : Int32).toUInt32 >>> ((1 : Int32) &&& 31).toUInt32).toInt32) + (1 : Int32)))])) _
      refine XS.iadd X0.here hx rfl (hb hby d_jdk_65_method_59_69) rfl ?_
      show Steps pP.tables eE below (s₁.setTop (mkF mM 70 Ls8 [(.int (((((0 : Int32).toUInt32 >>> ((1 : Int32) &&& 31).toUInt32).toInt32) + (1 : Int32)) + (1 : Int32)))])) _
      refine XS.ineg X0.here hx rfl (hb hby d_jdk_65_method_59_70) rfl ?_
      show Steps pP.tables eE below (s₁.setTop (mkF mM 71 Ls8 [(.int (-(((((0 : Int32).toUInt32 >>> ((1 : Int32) &&& 31).toUInt32).toInt32) + (1 : Int32)) + (1 : Int32))))])) _
      exact retI X0 hx Bd.returns (hb hby d_jdk_65_method_59_71) hr
    · show Q_bs0 Z t k x p h0 n0 _ s₁.heap _
      rw [e0]
      exact ⟨(by rw [own_bs_lt hc6]; rfl), rfl, rfl⟩
  · have pre11 : ∀ tg, Steps pP.tables eE below (s₁.setTop (mkF mM 48 Ls5 [(.int p), (.int x)])) tg → Steps pP.tables eE below (s₁.setTop (entryFrame mM #[(.ref t), (.int (0 : Int32)), (.int (1 : Int32)), (.int p)] 8)) tg := fun tg kg => pre7 tg (by
      refine XS.icmpYes X0.here hx rfl (pc0 := 33) (pc' := 45) rfl (hb hby d_jdk_65_method_59_33) rfl (flt hc6).2.1 (by decide) (by decide) ?_
      show Steps pP.tables eE below (s₁.setTop (mkF mM 45 Ls5 [])) _
      refine XS.iload X0.here hx rfl (hb hby d_jdk_65_method_59_45) rfl ?_
      show Steps pP.tables eE below (s₁.setTop (mkF mM 47 Ls5 [(.int x)])) _
      refine XS.iloadN X0.here hx rfl (hb hby d_jdk_65_method_59_47) rfl ?_
      exact kg)
    by_cases hc10 : p < x
    · let Ls12 : Array Slot := #[.val (.ref t), .val (.int (0 : Int32)), .val (.int (1 : Int32)), .val (.int p), .val (.int (0 : Int32)), .val (.int ((((0 : Int32).toUInt32 >>> ((1 : Int32) &&& 31).toUInt32).toInt32) - (1 : Int32))), .val (.int (((0 : Int32).toUInt32 >>> ((1 : Int32) &&& 31).toUInt32).toInt32)), .val (.int x)]
      obtain ⟨fs, hr, hrun, hended, hW, hsame⟩ := X0.leave (v := some (.int (-(1 : Int32)))) (fun h => by rw [Bd.returns] at h; cases h)
      refine ⟨_, _, pre11 _ ?_, hrun, hended, _, _, rfl, ?_, ⟨_, rfl⟩, hW, hsame.mono (by decide) (by decide)⟩
      · refine XS.icmpNo X0.here hx rfl (hb hby d_jdk_65_method_59_48) rfl (tlt hc10).2.2.2 ?_
        show Steps pP.tables eE below (s₁.setTop (mkF mM 51 Ls5 [])) _
        refine XS.iload X0.here hx rfl (hb hby d_jdk_65_method_59_51) rfl ?_
        show Steps pP.tables eE below (s₁.setTop (mkF mM 53 Ls5 [(.int (((0 : Int32).toUInt32 >>> ((1 : Int32) &&& 31).toUInt32).toInt32))])) _
        refine XS.iconst X0.here hx rfl (hb hby d_jdk_65_method_59_53) ?_
        show Steps pP.tables eE below (s₁.setTop (mkF mM 54 Ls5 [(.int (1 : Int32)), (.int (((0 : Int32).toUInt32 >>> ((1 : Int32) &&& 31).toUInt32).toInt32))])) _
        refine XS.isub X0.here hx rfl (hb hby d_jdk_65_method_59_54) rfl ?_
        show Steps pP.tables eE below (s₁.setTop (mkF mM 55 Ls5 [(.int ((((0 : Int32).toUInt32 >>> ((1 : Int32) &&& 31).toUInt32).toInt32) - (1 : Int32)))])) _
        refine XS.istore X0.here hx rfl (hb hby d_jdk_65_method_59_55) rfl (l' := Ls12) rfl ?_
        show Steps pP.tables eE below (s₁.setTop (mkF mM 57 Ls12 [])) _
        refine XS.goto X0.here hx rfl (pc0 := 57) (pc' := 63) rfl (hb hby d_jdk_65_method_59_57) (by decide) (by decide) ?_
        show Steps pP.tables eE below (s₁.setTop (mkF mM 63 Ls12 [])) _
        refine XS.goto X0.here hx rfl (pc0 := 63) (pc' := 8) rfl (hb hby d_jdk_65_method_59_63) (by decide) (by decide) ?_
        show Steps pP.tables eE below (s₁.setTop (mkF mM 8 Ls12 [])) _
        refine XS.iload X0.here hx rfl (hb hby d_jdk_65_method_59_8) rfl ?_
        show Steps pP.tables eE below (s₁.setTop (mkF mM 10 Ls12 [(.int (0 : Int32))])) _
        refine XS.iload X0.here hx rfl (hb hby d_jdk_65_method_59_10) rfl ?_
        show Steps pP.tables eE below (s₁.setTop (mkF mM 12 Ls12 [(.int ((((0 : Int32).toUInt32 >>> ((1 : Int32) &&& 31).toUInt32).toInt32) - (1 : Int32))), (.int (0 : Int32))])) _
        refine XS.icmpYes X0.here hx rfl (pc0 := 12) (pc' := 66) rfl (hb hby d_jdk_65_method_59_12) rfl (tlt (by decide : ((((0 : Int32).toUInt32 >>> ((1 : Int32) &&& 31).toUInt32).toInt32) - (1 : Int32)) < (0 : Int32))).2.2.1 (by decide) (by decide) ?_
        show Steps pP.tables eE below (s₁.setTop (mkF mM 66 Ls12 [])) _
        refine XS.iload X0.here hx rfl (hb hby d_jdk_65_method_59_66) rfl ?_
        show Steps pP.tables eE below (s₁.setTop (mkF mM 68 Ls12 [(.int (0 : Int32))])) _
        refine XS.iconst X0.here hx rfl (hb hby d_jdk_65_method_59_68) ?_
        show Steps pP.tables eE below (s₁.setTop (mkF mM 69 Ls12 [(.int (1 : Int32)), (.int (0 : Int32))])) _
        refine XS.iadd X0.here hx rfl (hb hby d_jdk_65_method_59_69) rfl ?_
        show Steps pP.tables eE below (s₁.setTop (mkF mM 70 Ls12 [(.int (1 : Int32))])) _
        refine XS.ineg X0.here hx rfl (hb hby d_jdk_65_method_59_70) rfl ?_
        show Steps pP.tables eE below (s₁.setTop (mkF mM 71 Ls12 [(.int (-(1 : Int32)))])) _
        exact retI X0 hx Bd.returns (hb hby d_jdk_65_method_59_71) hr
      · show Q_bs0 Z t k x p h0 n0 _ s₁.heap _
        rw [e0]
        exact ⟨(by rw [own_bs_gt hc10] <;> rfl), rfl, rfl⟩
    · obtain ⟨fs, hr, hrun, hended, hW, hsame⟩ := X0.leave (v := some (.int (((0 : Int32).toUInt32 >>> ((1 : Int32) &&& 31).toUInt32).toInt32))) (fun h => by rw [Bd.returns] at h; cases h)
      refine ⟨_, _, pre11 _ ?_, hrun, hended, _, _, rfl, ?_, ⟨_, rfl⟩, hW, hsame.mono (by decide) (by decide)⟩
      · refine XS.icmpYes X0.here hx rfl (pc0 := 48) (pc' := 60) rfl (hb hby d_jdk_65_method_59_48) rfl (flt hc10).2.2.2 (by decide) (by decide) ?_
        show Steps pP.tables eE below (s₁.setTop (mkF mM 60 Ls5 [])) _
        refine XS.iload X0.here hx rfl (hb hby d_jdk_65_method_59_60) rfl ?_
        show Steps pP.tables eE below (s₁.setTop (mkF mM 62 Ls5 [(.int (((0 : Int32).toUInt32 >>> ((1 : Int32) &&& 31).toUInt32).toInt32))])) _
        exact retI X0 hx Bd.returns (hb hby d_jdk_65_method_59_62) hr
      · show Q_bs0 Z t k x p h0 n0 _ s₁.heap _
        rw [e0]
        exact ⟨(by rw [own_bs_eq hc6 hc10] <;> rfl), rfl, rfl⟩
theorem ef_bs (m : MethodId) (x0 : Addr) (x1 : Int32) : entryFrame m #[(.ref x0), (.int x1)] 2 = mkF m 0 #[.val (.ref x0), .val (.int x1)] [] := by first | (simp [entryFrame, mkF, argsToLocals, Value.category]; done) | rfl
def Q_bs (Z : State) (t : Addr) (k : ClassId) (x : Int32) (p : Int32) (h0 : Heap) (n0 : Nat) (v : Option Value) (h : Heap) (L : List Loc) : Prop := v = some (.int (own_bs x p)) ∧ L = [] ∧ h = h0
set_option maxRecDepth 65536 in
set_option maxHeartbeats 40000000 in
theorem rm_bs (l : Launch) (Z : State) (a0 : Array Value) (hw : ∀ d ∈ tables_1, d.before a0 Z = true) (ws : List Jvm.Cond) (t : Addr) (k : ClassId) (x : Int32) (p : Int32) (h0 : Heap) (n0 : Nat) (O0 : Old Z n0 h0) (V_t : Arv Z h0 t k .int (1 : Int32) [(.int x)] (.int (0 : Int32))) :
    MetFree l (⟨"java/util/Arrays", "binarySearch", "([II)I"⟩ : MethodName) (head1 (Jvm.Cond.code (⟨"java/util/Arrays", "binarySearch", "([II)I"⟩ : MethodName) jdk_65_method_57_code 2 (some .int) :: ws) ({ frames := 1, cells := 0, slots := 0, locals := 19 } : Room)) (fun aa_ U => aa_ = #[(.ref t), (.int p)] ∧ Z.Warmed39 U.vm ∧ U.heap = h0) (fun _ _ _ _ _ => True) (fun _ U o U' => ∃ v L, o = .returned v ∧ Q_bs Z t k x p h0 n0 v U'.heap L ∧ FrameEnd U o U' L ({ frames := 1, cells := 0, slots := 0, locals := 19 } : Room).cells ({ frames := 1, cells := 0, slots := 0, locals := 19 } : Room).slots) := by
  refine MetFree.of_bodySF (plainFor_of_name pn_1) hisR ?_
  intro pP eE sS mM args below meth cC s₁ Bd hml0 hP hK
  obtain ⟨rfl, hZ, hh⟩ := hP
  have hx := Bd.exec
  have hby := Bd.bytes
  have hml : cC.maxLocals = 2 := hml0
  have hown : sS.vm.findClass "java/util/Arrays" = some mM.cls := findClass_of_methodNamed Bd.named
  have hnm := (name_of_methodNamed Bd.named Bd.method).1
  have X0 : Stand pP l eE ({ frames := 1, cells := 0, slots := 0, locals := 19 } : Room) sS mM #[(.ref t), (.int p)] below meth cC s₁ [] 0 0 := Stand.of_body Bd
  have e0 : s₁.heap = h0 := by rw [← hh, Bd.state]; rfl
  have N0 := Fr.nil n0
  have pre0 : ∀ tg, Steps pP.tables eE below (s₁.setTop (mkF mM 0 #[.val (.ref t), .val (.int p)] [])) tg → Steps pP.tables eE below (s₁.setTop (entryFrame mM #[(.ref t), (.int p)] 2)) tg := fun tg kg => castTop (ef_bs mM t p) kg
  obtain ⟨cl1, Ar1, -, S1, Nn1, -, -⟩ := id V_t
  obtain ⟨_, _, ⟨T2, L2, k2, n2⟩, -, X2, ⟨Lc2, hQ2, l2, y2, z2⟩, st2⟩ := Jvm.LawKit.callS X0 hx (y := (⟨"java/util/Arrays", "binarySearch0", "([IIII)I"⟩ : MethodName)) hown (mvT hZ (w_34 hw)) (mvT hZ (w_35 hw)) (mvT hZ (w_32 hw)) (mvT hZ (w_36 hw)) (by decide) (backOf (W := 0) (rm_bs0 l Z a0 hw [] t k x p h0 n0 O0 V_t) hZ (w_36 hw) (w_32 hw) (by decide) (by decide)) (g := (mkF mM 5 #[.val (.ref t), .val (.int p)] [(.int p), (.int (1 : Int32)), (.int (0 : Int32)), (.ref t)])) rfl (by rw [hml]; rfl) (argsL := [(.ref t), (.int (0 : Int32)), (.int (1 : Int32)), (.int p)]) (rest := []) (lenOf pd_1 rfl) rfl (by show 2 * 0 + _ ≤ _; exact Nat.le_of_eq rfl) (hb hby d_jdk_65_method_57_5) (fun _ _ => ⟨rfl, e0, (by decide : 0 + 0 ≤ _), (by decide : 0 + 0 ≤ _)⟩)
  dsimp only [Pt.U, Pt.locs, Pt.cells, Pt.slots] at X2 l2 y2 z2 st2 hQ2
  subst l2 y2 z2
  obtain ⟨rfl, rfl, Kq2⟩ := hQ2
  try rw [List.append_nil] at X2
  obtain ⟨fs, hr, hrun, hended, hW, hsame⟩ := X2.leave (v := some (.int (own_bs x p))) (fun h => by rw [Bd.returns] at h; cases h)
  refine ⟨_, _, pre0 _ ?_, hrun, hended, _, _, rfl, ?_, ⟨_, rfl⟩, hW, hsame.mono (by decide) (by decide)⟩
  · refine XS.aloadN X0.here hx rfl (hb hby d_jdk_65_method_57_0) rfl rfl ?_
    show Steps pP.tables eE below (s₁.setTop (mkF mM 1 #[.val (.ref t), .val (.int p)] [(.ref t)])) _
    refine XS.iconst X0.here hx rfl (hb hby d_jdk_65_method_57_1) ?_
    show Steps pP.tables eE below (s₁.setTop (mkF mM 2 #[.val (.ref t), .val (.int p)] [(.int (0 : Int32)), (.ref t)])) _
    refine XS.aloadN X0.here hx rfl (hb hby d_jdk_65_method_57_2) rfl rfl ?_
    show Steps pP.tables eE below (s₁.setTop (mkF mM 3 #[.val (.ref t), .val (.int p)] [(.ref t), (.int (0 : Int32)), (.ref t)])) _
    refine X0.arraylength hx (by rw [e0]; exact Ar1.1) (State.isArrayOf_alike hZ.alike Ar1.2.1) (g := (mkF mM 3 #[.val (.ref t), .val (.int p)] [(.ref t), (.int (0 : Int32)), (.ref t)])) rfl rfl (hb hby d_jdk_65_method_57_3) _ ?_
    rw [len_of S1 Nn1]
    show Steps pP.tables eE below (s₁.setTop (mkF mM 4 #[.val (.ref t), .val (.int p)] [(.int (1 : Int32)), (.int (0 : Int32)), (.ref t)])) _
    refine XS.iloadN X0.here hx rfl (hb hby d_jdk_65_method_57_4) rfl ?_
    show Steps pP.tables eE below (s₁.setTop (mkF mM 5 #[.val (.ref t), .val (.int p)] [(.int p), (.int (1 : Int32)), (.int (0 : Int32)), (.ref t)])) _
    refine st2 _ ?_
    show Steps pP.tables eE below (T2.setTop (mkF mM 8 #[.val (.ref t), .val (.int p)] [(.int (own_bs x p))])) _
    exact retI X2 hx Bd.returns (hb hby d_jdk_65_method_57_8) hr
  · show Q_bs Z t k x p h0 n0 _ T2.heap _
    rw [Kq2]
    exact ⟨rfl, rfl, rfl⟩
theorem ef_wo (m : MethodId) (x0 : Addr) (x1 : Int32) : entryFrame m #[(.ref x0), (.int x1)] 5 = mkF m 0 #[.val (.ref x0), .val (.int x1), .unset, .unset, .unset] [] := by first | (simp [entryFrame, mkF, argsToLocals, Value.category]; done) | rfl
def Q_wo (Z : State) (a : Addr) (t : Addr) (k : ClassId) (x : Int32) (p : Int32) (h0 : Heap) (n0 : Nat) (v : Option Value) (h : Heap) (L : List Loc) : Prop := v = some (.ref a) ∧ L = [] ∧ h = h0
set_option maxRecDepth 65536 in
set_option maxHeartbeats 40000000 in
theorem rm_wo (l : Launch) (Z : State) (a0 : Array Value) (hw : ∀ d ∈ tables_1, d.before a0 Z = true) (ws : List Jvm.Cond) (a : Addr) (t : Addr) (k : ClassId) (x : Int32) (p : Int32) (h0 : Heap) (n0 : Nat) (O0 : Old Z n0 h0) (F_a_levels : Fld Z h0 a "com/example/subsumer/subsumer/DependencySet" "levels" "[I" (.ref t)) (V_t : Arv Z h0 t k .int (1 : Int32) [(.int x)] (.int (0 : Int32))) (hp2 : ¬ (p = x)) :
    MetFree l (⟨"com/example/subsumer/subsumer/DependencySet", "without", "(I)Lcom/example/subsumer/subsumer/DependencySet;"⟩ : MethodName) (head1 (Jvm.Cond.code (⟨"com/example/subsumer/subsumer/DependencySet", "without", "(I)Lcom/example/subsumer/subsumer/DependencySet;"⟩ : MethodName) prog_10_method_6_code 5 (some (.object "com/example/subsumer/subsumer/DependencySet")) :: ws) ({ frames := 2, cells := 0, slots := 0, locals := 32 } : Room)) (fun aa_ U => aa_ = #[(.ref a), (.int p)] ∧ Z.Warmed39 U.vm ∧ U.heap = h0) (fun _ _ _ _ _ => True) (fun _ U o U' => ∃ v L, o = .returned v ∧ Q_wo Z a t k x p h0 n0 v U'.heap L ∧ FrameEnd U o U' L ({ frames := 2, cells := 0, slots := 0, locals := 32 } : Room).cells ({ frames := 2, cells := 0, slots := 0, locals := 32 } : Room).slots) := by
  refine MetFree.of_bodySF (plainFor_of_name pn_0) hisR ?_
  intro pP eE sS mM args below meth cC s₁ Bd hml0 hP hK
  obtain ⟨rfl, hZ, hh⟩ := hP
  have hx := Bd.exec
  have hby := Bd.bytes
  have hml : cC.maxLocals = 5 := hml0
  have hown : sS.vm.findClass "com/example/subsumer/subsumer/DependencySet" = some mM.cls := findClass_of_methodNamed Bd.named
  have hnm := (name_of_methodNamed Bd.named Bd.method).1
  have X0 : Stand pP l eE ({ frames := 2, cells := 0, slots := 0, locals := 32 } : Room) sS mM #[(.ref a), (.int p)] below meth cC s₁ [] 0 0 := Stand.of_body Bd
  have e0 : s₁.heap = h0 := by rw [← hh, Bd.state]; rfl
  have N0 := Fr.nil n0
  have pre0 : ∀ tg, Steps pP.tables eE below (s₁.setTop (mkF mM 0 #[.val (.ref a), .val (.int p), .unset, .unset, .unset] [])) tg → Steps pP.tables eE below (s₁.setTop (entryFrame mM #[(.ref a), (.int p)] 5)) tg := fun tg kg => castTop (ef_wo mM a p) kg
  obtain ⟨T1, X1, e1, st1⟩ := getF X0 hx hZ hown (host := "") (Or.inl (w_13 hw)) Via.refl e0 F_a_levels (g := (mkF mM 1 #[.val (.ref a), .val (.int p), .unset, .unset, .unset] [(.ref a)])) rfl rfl (hb hby d_prog_10_method_6_1)
  obtain ⟨_, _, ⟨T2, L2, k2, n2⟩, -, X2, ⟨Lc2, hQ2, l2, y2, z2⟩, st2⟩ := Jvm.LawKit.callS X1 hx (y := (⟨"java/util/Arrays", "binarySearch", "([II)I"⟩ : MethodName)) hown (mvT hZ (w_30 hw)) (mvT hZ (w_31 hw)) (mvT hZ (w_32 hw)) (mvT hZ (w_33 hw)) (by decide) (backOf (W := 0) (rm_bs l Z a0 hw [] t k x p h0 n0 O0 V_t) hZ (w_33 hw) (w_32 hw) (by decide) (by decide)) (g := (mkF mM 5 #[.val (.ref a), .val (.int p), .unset, .unset, .unset] [(.int p), (.ref t)])) rfl (by rw [hml]; rfl) (argsL := [(.ref t), (.int p)]) (rest := []) (lenOf pd_2 rfl) rfl (by show 2 * 0 + _ ≤ _; exact Nat.le_of_eq rfl) (hb hby d_prog_10_method_6_5) (fun _ _ => ⟨rfl, e1, (by decide : 0 + 0 ≤ _), (by decide : 0 + 0 ≤ _)⟩)
  dsimp only [Pt.U, Pt.locs, Pt.cells, Pt.slots] at X2 l2 y2 z2 st2 hQ2
  subst l2 y2 z2
  obtain ⟨rfl, rfl, Kq2⟩ := hQ2
  try rw [List.append_nil] at X2
  let Ls3 : Array Slot := #[.val (.ref a), .val (.int p), .val (.int (own_bs x p)), .unset, .unset]
  let Ls4 : Array Slot := #[.val (.ref a), .val (.int p), .val (.int (own_bs x p)), .val (.ref a), .unset]
  obtain ⟨fs, hr, hrun, hended, hW, hsame⟩ := X2.leave (v := some (.ref a)) (fun h => by rw [Bd.returns] at h; cases h)
  refine ⟨_, _, pre0 _ ?_, hrun, hended, _, _, rfl, ?_, ⟨_, rfl⟩, hW, hsame.mono (by decide) (by decide)⟩
  · refine XS.aloadN X0.here hx rfl (hb hby d_prog_10_method_6_0) rfl rfl ?_
    show Steps pP.tables eE below (s₁.setTop (mkF mM 1 #[.val (.ref a), .val (.int p), .unset, .unset, .unset] [(.ref a)])) _
    refine st1 _ ?_
    show Steps pP.tables eE below (T1.setTop (mkF mM 4 #[.val (.ref a), .val (.int p), .unset, .unset, .unset] [(.ref t)])) _
    refine XS.iloadN X1.here hx rfl (hb hby d_prog_10_method_6_4) rfl ?_
    show Steps pP.tables eE below (T1.setTop (mkF mM 5 #[.val (.ref a), .val (.int p), .unset, .unset, .unset] [(.int p), (.ref t)])) _
    refine st2 _ ?_
    show Steps pP.tables eE below (T2.setTop (mkF mM 8 #[.val (.ref a), .val (.int p), .unset, .unset, .unset] [(.int (own_bs x p))])) _
    refine XS.istoreN X2.here hx rfl (hb hby d_prog_10_method_6_8) rfl (l' := Ls3) rfl ?_
    show Steps pP.tables eE below (T2.setTop (mkF mM 9 Ls3 [])) _
    refine XS.aloadN X2.here hx rfl (hb hby d_prog_10_method_6_9) rfl rfl ?_
    show Steps pP.tables eE below (T2.setTop (mkF mM 10 Ls3 [(.ref a)])) _
    refine XS.astoreN X2.here hx rfl (hb hby d_prog_10_method_6_10) rfl rfl (l' := Ls4) rfl ?_
    show Steps pP.tables eE below (T2.setTop (mkF mM 11 Ls4 [])) _
    refine XS.iloadN X2.here hx rfl (hb hby d_prog_10_method_6_11) rfl ?_
    show Steps pP.tables eE below (T2.setTop (mkF mM 12 Ls4 [(.int (own_bs x p))])) _
    refine XS.ifYes X2.here hx rfl (pc0 := 12) (pc' := 66) rfl (hb hby d_prog_10_method_6_12) rfl ((if0 _ _).trans (tlt (own_bs_neg hp2)).1) (by decide) (by decide) ?_
    show Steps pP.tables eE below (T2.setTop (mkF mM 66 Ls4 [])) _
    refine XS.aloadN X2.here hx rfl (hb hby d_prog_10_method_6_66) rfl rfl ?_
    show Steps pP.tables eE below (T2.setTop (mkF mM 67 Ls4 [(.ref a)])) _
    jvm_step X2.here [X2.here.top, hx, (hb hby d_prog_10_method_6_67), X2.method', Bd.returns, Value.isRef, FieldType.isReference]
    first | (intro acts; rw [hr _ acts rfl rfl rfl]) | rw [hr _ _ rfl rfl rfl]
    exact Steps.refl _
  · show Q_wo Z a t k x p h0 n0 _ T2.heap _
    rw [Kq2]
    exact ⟨rfl, rfl, rfl⟩
theorem ef_wo0 (m : MethodId) (x0 : Addr) (x1 : Int32) : entryFrame m #[(.ref x0), (.int x1)] 5 = mkF m 0 #[.val (.ref x0), .val (.int x1), .unset, .unset, .unset] [] := by first | (simp [entryFrame, mkF, argsToLocals, Value.category]; done) | rfl
def Q_wo0 (Z : State) (a : Addr) (t : Addr) (k : ClassId) (x : Int32) (h0 : Heap) (n0 : Nat) (v : Option Value) (h : Heap) (L : List Loc) : Prop := ∃ (b : Addr) (t2 : Addr) (k2 : ClassId), v = some (.ref b) ∧ Fr n0 L ∧ Keep h0 h [] ∧ h0.size ≤ b ∧ Exa Z h b "com/example/subsumer/subsumer/DependencySet" ∧ Fld Z h b "com/example/subsumer/subsumer/DependencySet" "levels" "[I" (.ref t2) ∧ Arv Z h t2 k2 .int (0 : Int32) [] (.int (0 : Int32))
set_option maxRecDepth 65536 in
set_option maxHeartbeats 40000000 in
theorem rm_wo0 (l : Launch) (Z : State) (a0 : Array Value) (hw : ∀ d ∈ tables_1, d.before a0 Z = true) (ws : List Jvm.Cond) (a : Addr) (t : Addr) (k : ClassId) (x : Int32) (h0 : Heap) (n0 : Nat) (O0 : Old Z n0 h0) (F_a_levels : Fld Z h0 a "com/example/subsumer/subsumer/DependencySet" "levels" "[I" (.ref t)) (V_t : Arv Z h0 t k .int (1 : Int32) [(.int x)] (.int (0 : Int32))) :
    MetFree l (⟨"com/example/subsumer/subsumer/DependencySet", "without", "(I)Lcom/example/subsumer/subsumer/DependencySet;"⟩ : MethodName) (head1 (Jvm.Cond.code (⟨"com/example/subsumer/subsumer/DependencySet", "without", "(I)Lcom/example/subsumer/subsumer/DependencySet;"⟩ : MethodName) prog_10_method_6_code 5 (some (.object "com/example/subsumer/subsumer/DependencySet")) :: ws) ({ frames := 2, cells := 2, slots := 1, locals := 32 } : Room)) (fun aa_ U => aa_ = #[(.ref a), (.int x)] ∧ Z.Warmed39 U.vm ∧ U.heap = h0) (fun _ _ _ _ _ => True) (fun _ U o U' => ∃ v L, o = .returned v ∧ Q_wo0 Z a t k x h0 n0 v U'.heap L ∧ FrameEnd U o U' L ({ frames := 2, cells := 2, slots := 1, locals := 32 } : Room).cells ({ frames := 2, cells := 2, slots := 1, locals := 32 } : Room).slots) := by
  refine MetFree.of_bodySF (plainFor_of_name pn_0) hisR ?_
  intro pP eE sS mM args below meth cC s₁ Bd hml0 hP hK
  obtain ⟨rfl, hZ, hh⟩ := hP
  have hx := Bd.exec
  have hby := Bd.bytes
  have hml : cC.maxLocals = 5 := hml0
  have hown : sS.vm.findClass "com/example/subsumer/subsumer/DependencySet" = some mM.cls := findClass_of_methodNamed Bd.named
  have hnm := (name_of_methodNamed Bd.named Bd.method).1
  have X0 : Stand pP l eE ({ frames := 2, cells := 2, slots := 1, locals := 32 } : Room) sS mM #[(.ref a), (.int x)] below meth cC s₁ [] 0 0 := Stand.of_body Bd
  have e0 : s₁.heap = h0 := by rw [← hh, Bd.state]; rfl
  have N0 := Fr.nil n0
  have pre0 : ∀ tg, Steps pP.tables eE below (s₁.setTop (mkF mM 0 #[.val (.ref a), .val (.int x), .unset, .unset, .unset] [])) tg → Steps pP.tables eE below (s₁.setTop (entryFrame mM #[(.ref a), (.int x)] 5)) tg := fun tg kg => castTop (ef_wo0 mM a x) kg
  have K0 : Keep h0 h0 [] := Keep.refl _ _
  obtain ⟨T1, X1, e1, st1⟩ := getF X0 hx hZ hown (host := "") (Or.inl (w_13 hw)) Via.refl e0 F_a_levels (g := (mkF mM 1 #[.val (.ref a), .val (.int x), .unset, .unset, .unset] [(.ref a)])) rfl rfl (hb hby d_prog_10_method_6_1)
  obtain ⟨_, _, ⟨T2, L2, k2, n2⟩, -, X2, ⟨Lc2, hQ2, l2, y2, z2⟩, st2⟩ := Jvm.LawKit.callS X1 hx (y := (⟨"java/util/Arrays", "binarySearch", "([II)I"⟩ : MethodName)) hown (mvT hZ (w_30 hw)) (mvT hZ (w_31 hw)) (mvT hZ (w_32 hw)) (mvT hZ (w_33 hw)) (by decide) (backOf (W := 0) (rm_bs l Z a0 hw [] t k x x h0 n0 O0 V_t) hZ (w_33 hw) (w_32 hw) (by decide) (by decide)) (g := (mkF mM 5 #[.val (.ref a), .val (.int x), .unset, .unset, .unset] [(.int x), (.ref t)])) rfl (by rw [hml]; rfl) (argsL := [(.ref t), (.int x)]) (rest := []) (lenOf pd_2 rfl) rfl (by show 2 * 0 + _ ≤ _; exact Nat.le_of_eq rfl) (hb hby d_prog_10_method_6_5) (fun _ _ => ⟨rfl, e1, (by decide : 0 + 0 ≤ _), (by decide : 0 + 0 ≤ _)⟩)
  dsimp only [Pt.U, Pt.locs, Pt.cells, Pt.slots] at X2 l2 y2 z2 st2 hQ2
  subst l2 y2 z2
  obtain ⟨rfl, rfl, Kq2⟩ := hQ2
  try rw [List.append_nil] at X2
  have hz0 : own_bs x x = 0 := own_bs_self x
  have pre3 : ∀ tg, Steps pP.tables eE below (T2.setTop (mkF mM 8 #[.val (.ref a), .val (.int x), .unset, .unset, .unset] [(.int (own_bs x x))])) tg → Steps pP.tables eE below (s₁.setTop (entryFrame mM #[(.ref a), (.int x)] 5)) tg := fun tg kg => pre0 tg (by
    refine XS.aloadN X0.here hx rfl (hb hby d_prog_10_method_6_0) rfl rfl ?_
    show Steps pP.tables eE below (s₁.setTop (mkF mM 1 #[.val (.ref a), .val (.int x), .unset, .unset, .unset] [(.ref a)])) _
    refine st1 _ ?_
    show Steps pP.tables eE below (T1.setTop (mkF mM 4 #[.val (.ref a), .val (.int x), .unset, .unset, .unset] [(.ref t)])) _
    refine XS.iloadN X1.here hx rfl (hb hby d_prog_10_method_6_4) rfl ?_
    show Steps pP.tables eE below (T1.setTop (mkF mM 5 #[.val (.ref a), .val (.int x), .unset, .unset, .unset] [(.int x), (.ref t)])) _
    refine st2 _ ?_
    exact kg)
  rw [hz0] at pre3
  let Ls4 : Array Slot := #[.val (.ref a), .val (.int x), .val (.int (0 : Int32)), .unset, .unset]
  let Ls5 : Array Slot := #[.val (.ref a), .val (.int x), .val (.int (0 : Int32)), .val (.ref a), .unset]
  obtain ⟨T6, X6, e6, st6⟩ := getF X2 hx hZ hown (host := "") (Or.inl (w_13 hw)) Via.refl Kq2 F_a_levels (g := (mkF mM 16 Ls5 [(.ref a)])) rfl rfl (hb hby d_prog_10_method_6_16)
  obtain ⟨cl7, Ar7, -, S7, Nn7, -, -⟩ := id V_t
  obtain ⟨T8, h8, k8, X8, e8, E8, A8, st8⟩ := newP X6 hx hZ (aty := .int) (w_6 hw) e6 (g := (mkF mM 22 Ls5 [(.int (0 : Int32))])) rfl (hb hby d_prog_10_method_6_22) rfl (by decide) (cap := 0) (by decide) (by decide) (by decide) (by decide)
  obtain ⟨b8, g8⟩ : ∃ z, z = h0.size := ⟨_, rfl⟩
  rw [← g8] at A8 st8
  have g_b8 : n0 ≤ b8 := Nat.le_trans (own_osz O0) (Nat.le_of_eq g8.symm)
  have sz_b8 : h0.size ≤ b8 := Nat.le_trans K0.1 (Nat.le_of_eq g8.symm)
  have K9 : Keep h0 h8 [] := K0.ext E8
  have V8 : Arv Z h8 b8 k8 .int (0 : Int32) [] (.int (0 : Int32)) := Arv.new A8 (by decide)
  let Ls10 : Array Slot := #[.val (.ref a), .val (.int x), .val (.int (0 : Int32)), .val (.ref a), .val (.ref b8)]
  have f11 := (F_a_levels.ext E8)
  obtain ⟨T12, X12, e12, st12⟩ := getF X8 hx hZ hown (host := "") (Or.inl (w_13 hw)) Via.refl e8 f11 (g := (mkF mM 27 Ls10 [(.ref a)])) rfl rfl (hb hby d_prog_10_method_6_27)
  have f14 := (V_t.ext E8)
  obtain ⟨T13, h13, L13, X13, e13, N13, Kc13, Vc13, st13⟩ := cpA X12 hx hZ hown (w_37 hw) (w_40 hw) (w_38 hw) (w_39 hw) e12 f14 V8 (us := []) (Or.inl ⟨rfl, rfl⟩) (by decide) (by decide) (by decide) (by decide) (by decide) rfl (by decide) N0 g_b8 (g := (mkF mM 35 Ls10 [(.int (0 : Int32)), (.int (0 : Int32)), (.ref b8), (.int (0 : Int32)), (.ref t)])) rfl (by rw [hml]; rfl) (rest := []) rfl (hb hby d_prog_10_method_6_35) (by decide) (W := 0) (by show 2 * 0 + _ ≤ _; exact Nat.le_of_eq rfl) (by simp [nativeFrameWords])
  have K15 : Keep h0 h13 [] := K9.trans Kc13 (allS (Or.inr sz_b8) all0)
  have V13 : Arv Z h13 b8 k8 .int (0 : Int32) [] (.int (0 : Int32)) := Vc13
  have f16 := (f11.keep Kc13 (ninS (Nat.ne_of_lt (Nat.lt_of_lt_of_le (F_a_levels).lt (Nat.le_of_eq g8.symm))) nin0))
  obtain ⟨T17, X17, e17, st17⟩ := getF X13 hx hZ hown (host := "") (Or.inl (w_13 hw)) Via.refl e13 f16 (g := (mkF mM 39 Ls10 [(.ref a)])) rfl rfl (hb hby d_prog_10_method_6_39)
  obtain ⟨cl18, Ar18, -, S18, Nn18, -, -⟩ := id V13
  have f20 := (f14.keep Kc13 (ninS (Nat.ne_of_lt (Nat.lt_of_lt_of_le (V_t).lt (Nat.le_of_eq g8.symm))) nin0))
  obtain ⟨T19, h19, L19, X19, e19, N19, Kc19, Vc19, st19⟩ := cpA X17 hx hZ hown (w_37 hw) (w_40 hw) (w_38 hw) (w_39 hw) e17 f20 V13 (us := []) (Or.inl ⟨rfl, rfl⟩) (by decide) (by decide) (by decide) (by decide) (by decide) rfl (by decide) N13 g_b8 (g := (mkF mM 53 Ls10 [(.int (0 : Int32)), (.int (0 : Int32)), (.ref b8), (.int (1 : Int32)), (.ref t)])) rfl (by rw [hml]; rfl) (rest := []) rfl (hb hby d_prog_10_method_6_53) (by decide) (W := 0) (by show 2 * 0 + _ ≤ _; exact Nat.le_of_eq rfl) (by simp [nativeFrameWords])
  have K21 : Keep h0 h19 [] := K15.trans Kc19 (allS (Or.inr sz_b8) all0)
  have V19 : Arv Z h19 b8 k8 .int (0 : Int32) [] (.int (0 : Int32)) := Vc19
  obtain ⟨T22, h22, X22, e22, E22, A22, D22, -, st22⟩ := newO X19 hx hZ hown (w_4 hw) (w_5 hw) (w_2 hw) e19 (g := (mkF mM 56 Ls10 [])) rfl (hb hby d_prog_10_method_6_56) (by decide) (by decide)
  obtain ⟨b22, g22⟩ : ∃ z, z = h19.size := ⟨_, rfl⟩
  rw [← g22] at A22 D22 st22
  have f23 := (((O0.ext E8).keep Kc13 (allS g_b8 all0)).keep Kc19 (allS g_b8 all0))
  have g_b22 : n0 ≤ b22 := Nat.le_trans (own_osz f23) (Nat.le_of_eq g22.symm)
  have sz_b22 : h0.size ≤ b22 := Nat.le_trans K21.1 (Nat.le_of_eq g22.symm)
  have K24 : Keep h0 h22 [] := K21.ext E22
  have F_b22_levels : Fld Z h22 b22 "com/example/subsumer/subsumer/DependencySet" "levels" "[I" .null := D22 (Or.inr (w_14 hw)) (ty := (.array .int)) (by decide)
  have f25 := (f23.ext E22)
  obtain ⟨_, _, ⟨T26, L26, k26, n26⟩, -, X26, ⟨Lc26, hQ26, l26, y26, z26⟩, st26⟩ := X22.specialBack hx (y := (⟨"com/example/subsumer/subsumer/DependencySet", "<init>", "([I)V"⟩ : MethodName)) rfl hown (mvT hZ (w_7 hw)) (mvT hZ (w_8 hw)) (mvT hZ (w_9 hw)) (by decide) (backOf (W := 1) (rm_init l Z a0 hw [] b22 b8 .null h22 n0 f25 A22 F_b22_levels g_b22) hZ (w_9 hw) (w_2 hw) (by decide) (by decide)) (g := (mkF mM 62 Ls10 [(.ref b8), (.ref b22), (.ref b22)])) rfl (by rw [hml]; rfl) (Steps.refl _) (a := b22) (argsL := [(.ref b8)]) (rest := [(.ref b22)]) (lenOf pd_0 rfl) rfl (by show 2 * 0 + _ ≤ _; exact Nat.le_of_eq rfl) (hb hby d_prog_10_method_6_62) (fun _ _ => ⟨rfl, e22, (by decide : 2 + 0 ≤ _), (by decide : 1 + 0 ≤ _)⟩)
  dsimp only [Pt.U, Pt.locs, Pt.cells, Pt.slots] at X26 l26 y26 z26 st26 hQ26
  subst l26 y26 z26
  obtain ⟨rfl, Nq26, Kq26, q26_0, q26_1⟩ := hQ26
  have N26 := Fr.app N19 Nq26
  have K27 : Keep h0 T26.heap [] := K24.trans Kq26 (allS (Or.inr sz_b22) all0)
  let Ls28 : Array Slot := #[.val (.ref a), .val (.int x), .val (.int (0 : Int32)), .val (.ref b22), .val (.ref b8)]
  have f30 := ((V19.ext E22).keep Kq26 (ninS (Nat.ne_of_lt (Nat.lt_of_lt_of_le (Nat.lt_of_lt_of_le (Nat.lt_of_lt_of_le (V8).lt Kc13.1) Kc19.1) (Nat.le_of_eq g22.symm))) nin0))
  obtain ⟨fs, hr, hrun, hended, hW, hsame⟩ := X26.leave (v := some (.ref b22)) (fun h => by rw [Bd.returns] at h; cases h)
  refine ⟨_, _, pre3 _ ?_, hrun, hended, _, _, rfl, ?_, ⟨_, rfl⟩, hW, hsame.mono (by decide) (by decide)⟩
  · refine XS.istoreN X2.here hx rfl (hb hby d_prog_10_method_6_8) rfl (l' := Ls4) rfl ?_
    show Steps pP.tables eE below (T2.setTop (mkF mM 9 Ls4 [])) _
    refine XS.aloadN X2.here hx rfl (hb hby d_prog_10_method_6_9) rfl rfl ?_
    show Steps pP.tables eE below (T2.setTop (mkF mM 10 Ls4 [(.ref a)])) _
    refine XS.astoreN X2.here hx rfl (hb hby d_prog_10_method_6_10) rfl rfl (l' := Ls5) rfl ?_
    show Steps pP.tables eE below (T2.setTop (mkF mM 11 Ls5 [])) _
    refine XS.iloadN X2.here hx rfl (hb hby d_prog_10_method_6_11) rfl ?_
    show Steps pP.tables eE below (T2.setTop (mkF mM 12 Ls5 [(.int (0 : Int32))])) _
    refine XS.ifNo X2.here hx rfl (hb hby d_prog_10_method_6_12) rfl ((if0 _ _).trans (flt (by decide : ¬ ((0 : Int32) < (0 : Int32)))).1) ?_
    show Steps pP.tables eE below (T2.setTop (mkF mM 15 Ls5 [])) _
    refine XS.aloadN X2.here hx rfl (hb hby d_prog_10_method_6_15) rfl rfl ?_
    show Steps pP.tables eE below (T2.setTop (mkF mM 16 Ls5 [(.ref a)])) _
    refine st6 _ ?_
    show Steps pP.tables eE below (T6.setTop (mkF mM 19 Ls5 [(.ref t)])) _
    refine X6.arraylength hx (by rw [e6]; exact Ar7.1) (State.isArrayOf_alike hZ.alike Ar7.2.1) (g := (mkF mM 19 Ls5 [(.ref t)])) rfl rfl (hb hby d_prog_10_method_6_19) _ ?_
    rw [len_of S7 Nn7]
    show Steps pP.tables eE below (T6.setTop (mkF mM 20 Ls5 [(.int (1 : Int32))])) _
    refine XS.iconst X6.here hx rfl (hb hby d_prog_10_method_6_20) ?_
    show Steps pP.tables eE below (T6.setTop (mkF mM 21 Ls5 [(.int (1 : Int32)), (.int (1 : Int32))])) _
    refine XS.isub X6.here hx rfl (hb hby d_prog_10_method_6_21) rfl ?_
    show Steps pP.tables eE below (T6.setTop (mkF mM 22 Ls5 [(.int (0 : Int32))])) _
    refine st8 _ ?_
    show Steps pP.tables eE below (T8.setTop (mkF mM 24 Ls5 [(.ref b8)])) _
    refine XS.astore X8.here hx rfl (hb hby d_prog_10_method_6_24) rfl rfl (l' := Ls10) rfl ?_
    show Steps pP.tables eE below (T8.setTop (mkF mM 26 Ls10 [])) _
    refine XS.aloadN X8.here hx rfl (hb hby d_prog_10_method_6_26) rfl rfl ?_
    show Steps pP.tables eE below (T8.setTop (mkF mM 27 Ls10 [(.ref a)])) _
    refine st12 _ ?_
    show Steps pP.tables eE below (T12.setTop (mkF mM 30 Ls10 [(.ref t)])) _
    refine XS.iconst X12.here hx rfl (hb hby d_prog_10_method_6_30) ?_
    show Steps pP.tables eE below (T12.setTop (mkF mM 31 Ls10 [(.int (0 : Int32)), (.ref t)])) _
    refine XS.aload X12.here hx rfl (hb hby d_prog_10_method_6_31) rfl rfl ?_
    show Steps pP.tables eE below (T12.setTop (mkF mM 33 Ls10 [(.ref b8), (.int (0 : Int32)), (.ref t)])) _
    refine XS.iconst X12.here hx rfl (hb hby d_prog_10_method_6_33) ?_
    show Steps pP.tables eE below (T12.setTop (mkF mM 34 Ls10 [(.int (0 : Int32)), (.ref b8), (.int (0 : Int32)), (.ref t)])) _
    refine XS.iloadN X12.here hx rfl (hb hby d_prog_10_method_6_34) rfl ?_
    show Steps pP.tables eE below (T12.setTop (mkF mM 35 Ls10 [(.int (0 : Int32)), (.int (0 : Int32)), (.ref b8), (.int (0 : Int32)), (.ref t)])) _
    refine st13 _ ?_
    show Steps pP.tables eE below (T13.setTop (mkF mM 38 Ls10 [])) _
    refine XS.aloadN X13.here hx rfl (hb hby d_prog_10_method_6_38) rfl rfl ?_
    show Steps pP.tables eE below (T13.setTop (mkF mM 39 Ls10 [(.ref a)])) _
    refine st17 _ ?_
    show Steps pP.tables eE below (T17.setTop (mkF mM 42 Ls10 [(.ref t)])) _
    refine XS.iloadN X17.here hx rfl (hb hby d_prog_10_method_6_42) rfl ?_
    show Steps pP.tables eE below (T17.setTop (mkF mM 43 Ls10 [(.int (0 : Int32)), (.ref t)])) _
    refine XS.iconst X17.here hx rfl (hb hby d_prog_10_method_6_43) ?_
    show Steps pP.tables eE below (T17.setTop (mkF mM 44 Ls10 [(.int (1 : Int32)), (.int (0 : Int32)), (.ref t)])) _
    refine XS.iadd X17.here hx rfl (hb hby d_prog_10_method_6_44) rfl ?_
    show Steps pP.tables eE below (T17.setTop (mkF mM 45 Ls10 [(.int (1 : Int32)), (.ref t)])) _
    refine XS.aload X17.here hx rfl (hb hby d_prog_10_method_6_45) rfl rfl ?_
    show Steps pP.tables eE below (T17.setTop (mkF mM 47 Ls10 [(.ref b8), (.int (1 : Int32)), (.ref t)])) _
    refine XS.iloadN X17.here hx rfl (hb hby d_prog_10_method_6_47) rfl ?_
    show Steps pP.tables eE below (T17.setTop (mkF mM 48 Ls10 [(.int (0 : Int32)), (.ref b8), (.int (1 : Int32)), (.ref t)])) _
    refine XS.aload X17.here hx rfl (hb hby d_prog_10_method_6_48) rfl rfl ?_
    show Steps pP.tables eE below (T17.setTop (mkF mM 50 Ls10 [(.ref b8), (.int (0 : Int32)), (.ref b8), (.int (1 : Int32)), (.ref t)])) _
    refine X17.arraylength hx (by rw [e17]; exact Ar18.1) (State.isArrayOf_alike hZ.alike Ar18.2.1) (g := (mkF mM 50 Ls10 [(.ref b8), (.int (0 : Int32)), (.ref b8), (.int (1 : Int32)), (.ref t)])) rfl rfl (hb hby d_prog_10_method_6_50) _ ?_
    rw [len_of S18 Nn18]
    show Steps pP.tables eE below (T17.setTop (mkF mM 51 Ls10 [(.int (0 : Int32)), (.int (0 : Int32)), (.ref b8), (.int (1 : Int32)), (.ref t)])) _
    refine XS.iloadN X17.here hx rfl (hb hby d_prog_10_method_6_51) rfl ?_
    show Steps pP.tables eE below (T17.setTop (mkF mM 52 Ls10 [(.int (0 : Int32)), (.int (0 : Int32)), (.int (0 : Int32)), (.ref b8), (.int (1 : Int32)), (.ref t)])) _
    refine XS.isub X17.here hx rfl (hb hby d_prog_10_method_6_52) rfl ?_
    show Steps pP.tables eE below (T17.setTop (mkF mM 53 Ls10 [(.int (0 : Int32)), (.int (0 : Int32)), (.ref b8), (.int (1 : Int32)), (.ref t)])) _
    refine st19 _ ?_
    show Steps pP.tables eE below (T19.setTop (mkF mM 56 Ls10 [])) _
    refine st22 _ ?_
    show Steps pP.tables eE below (T22.setTop (mkF mM 59 Ls10 [(.ref b22)])) _
    refine XS.dup X22.here hx rfl (hb hby d_prog_10_method_6_59) rfl rfl ?_
    show Steps pP.tables eE below (T22.setTop (mkF mM 60 Ls10 [(.ref b22), (.ref b22)])) _
    refine XS.aload X22.here hx rfl (hb hby d_prog_10_method_6_60) rfl rfl ?_
    show Steps pP.tables eE below (T22.setTop (mkF mM 62 Ls10 [(.ref b8), (.ref b22), (.ref b22)])) _
    refine st26.trans ?_
    show Steps pP.tables eE below (T26.setTop (mkF mM 65 Ls10 [(.ref b22)])) _
    refine XS.astoreN X26.here hx rfl (hb hby d_prog_10_method_6_65) rfl rfl (l' := Ls28) rfl ?_
    show Steps pP.tables eE below (T26.setTop (mkF mM 66 Ls28 [])) _
    refine XS.aloadN X26.here hx rfl (hb hby d_prog_10_method_6_66) rfl rfl ?_
    show Steps pP.tables eE below (T26.setTop (mkF mM 67 Ls28 [(.ref b22)])) _
    jvm_step X26.here [X26.here.top, hx, (hb hby d_prog_10_method_6_67), X26.method', Bd.returns, Value.isRef, FieldType.isReference]
    first | (intro acts; rw [hr _ acts rfl rfl rfl]) | rw [hr _ _ rfl rfl rfl]
    exact Steps.refl _
  · show Q_wo0 Z a t k x h0 n0 _ T26.heap _
    exact ⟨b22, b8, k8, rfl, N26, K27, sz_b22, q26_0, q26_1, f30⟩
theorem ef_law (m : MethodId) (x0 : Int32) (x1 : Int32) : entryFrame m #[(.int x0), (.int x1)] maxLocals = mkF m 0 #[.val (.int x0), .val (.int x1), .unset, .unset] [] := by first | (simp [entryFrame, mkF, argsToLocals, Value.category, maxLocals]; done) | rfl
def Q_law (Z : State) (p : Int32) (q : Int32) (h0 : Heap) (n0 : Nat) (v : Option Value) (h : Heap) (L : List Loc) : Prop := v = some (.int 1) ∧ Fr n0 L ∧ Keep h0 h []
set_option maxRecDepth 65536 in
set_option maxHeartbeats 40000000 in
theorem rm_law (l : Launch) (Z : State) (a0 : Array Value) (hw : ∀ d ∈ tables_1, d.before a0 Z = true) (ws : List Jvm.Cond) (p : Int32) (q : Int32) (h0 : Heap) (n0 : Nat) (O0 : Old Z n0 h0) :
    MetFree l x (head1 (Jvm.Cond.code x code maxLocals ret :: ws) room_1) (fun aa_ U => aa_ = #[(.int p), (.int q)] ∧ Z.Warmed39 U.vm ∧ U.heap = h0) (fun _ _ _ _ _ => True) (fun _ U o U' => ∃ v L, o = .returned v ∧ Q_law Z p q h0 n0 v U'.heap L ∧ FrameEnd U o U' L room_1.cells room_1.slots) := by
  refine MetFree.of_bodySF (plainFor_of_name pn_2) hisR ?_
  intro pP eE sS mM args below meth cC s₁ Bd hml0 hP hK
  obtain ⟨rfl, hZ, hh⟩ := hP
  have hx := Bd.exec
  have hby := Bd.bytes
  have hml : cC.maxLocals = 4 := hml0
  have hown : sS.vm.findClass "com/example/subsumer/subsumer/DependencySetOfPinLaw" = some mM.cls := findClass_of_methodNamed Bd.named
  have hnm := (name_of_methodNamed Bd.named Bd.method).1
  have X0 : Stand pP l eE room_1 sS mM #[(.int p), (.int q)] below meth cC s₁ [] 0 0 := Stand.of_body Bd
  have e0 : s₁.heap = h0 := by rw [← hh, Bd.state]; rfl
  have N0 := Fr.nil n0
  have pre0 : ∀ tg, Steps pP.tables eE below (s₁.setTop (mkF mM 0 #[.val (.int p), .val (.int q), .unset, .unset] [])) tg → Steps pP.tables eE below (s₁.setTop (entryFrame mM #[(.int p), (.int q)] maxLocals)) tg := fun tg kg => castTop (ef_law mM p q) kg
  have K0 : Keep h0 h0 [] := Keep.refl _ _
  obtain ⟨_, _, ⟨T1, L1, k1, n1⟩, -, X1, ⟨Lc1, hQ1, l1, y1, z1⟩, st1⟩ := Jvm.LawKit.callS X0 hx (y := (⟨"com/example/subsumer/subsumer/DependencySet", "of", "(I)Lcom/example/subsumer/subsumer/DependencySet;"⟩ : MethodName)) hown (mvT hZ (w_0 hw)) (mvT hZ (w_1 hw)) (mvT hZ (w_2 hw)) (mvT hZ (w_3 hw)) (by decide) (backOf (W := 0) (rm_of l Z a0 hw [] p h0 n0 O0 ) hZ (w_3 hw) (w_2 hw) (by decide) (by decide)) (g := (mkF mM 1 #[.val (.int p), .val (.int q), .unset, .unset] [(.int p)])) rfl (by rw [hml]; rfl) (argsL := [(.int p)]) (rest := []) (lenOf pd_3 rfl) rfl (by show 2 * 0 + _ ≤ _; exact Nat.le_of_eq rfl) (hb hby at_1) (fun _ _ => ⟨rfl, e0, (by decide : 0 + 2 ≤ _), (by decide : 0 + 2 ≤ _)⟩)
  dsimp only [Pt.U, Pt.locs, Pt.cells, Pt.slots] at X1 l1 y1 z1 st1 hQ1
  subst l1 y1 z1
  obtain ⟨b_1, t_1, k_1, rfl, Nq1, Kq1, q1_0, q1_1, q1_2, q1_3, q1_4⟩ := hQ1
  have N1 := Fr.app N0 Nq1
  have g_b_1 : n0 ≤ b_1 := Nat.le_trans (own_osz O0) q1_0
  have sz_b_1 : h0.size ≤ b_1 := Nat.le_trans K0.1 q1_0
  have g_t_1 : n0 ≤ t_1 := Nat.le_trans (own_osz O0) q1_1
  have sz_t_1 : h0.size ≤ t_1 := Nat.le_trans K0.1 q1_1
  have K2 : Keep h0 T1.heap [] := K0.trans Kq1 all0
  have f3 := (O0.keep Kq1 all0)
  obtain ⟨cq4, kq4, q4a, q4b, q4c⟩ := isOf hZ rfl q1_2
  obtain ⟨_, _, ⟨T4, L4, k4, n4⟩, -, X4, ⟨Lc4, hQ4, l4, y4, z4⟩, st4⟩ := X1.virtualBack hx (y := (⟨"com/example/subsumer/subsumer/DependencySet", "isEmpty", "()Z"⟩ : MethodName)) (z := (⟨"com/example/subsumer/subsumer/DependencySet", "isEmpty", "()Z"⟩ : MethodName)) hown (mvT hZ (w_15 hw)) (mvT hZ (w_16 hw)) (notFace_of_selects (args := #[]) (mvT hZ (w_18 hw))) (mvT hZ (w_18 hw)) (mvT hZ (w_17 hw)) (by decide) (backOf (W := 0) (rm_emp l Z a0 hw [] b_1 t_1 k_1 (1 : Int32) ([(.int p)]) T1.heap n0 f3 q1_3 q1_4) hZ (w_19 hw) (w_2 hw) (by decide) (by decide)) q4a q4c (g := (mkF mM 6 #[.val (.int p), .val (.int q), .val (.ref b_1), .unset] [(.ref b_1)])) rfl (by rw [hml]; rfl) (Steps.refl _) (argsL := []) (rest := []) (lenOf pd_4 rfl) rfl (by show 2 * 0 + _ ≤ _; exact Nat.le_of_eq rfl) (hb hby at_6) (fun _ _ => ⟨rfl, rfl, (by decide : 2 + 0 ≤ _), (by decide : 2 + 0 ≤ _)⟩)
  dsimp only [Pt.U, Pt.locs, Pt.cells, Pt.slots] at X4 l4 y4 z4 st4 hQ4
  subst l4 y4 z4
  obtain ⟨rfl, rfl, Kq4⟩ := hQ4
  try rw [List.append_nil] at X4
  obtain ⟨cq5, kq5, q5a, q5b, q5c⟩ := isOf hZ Kq4 q1_2
  obtain ⟨_, _, ⟨T5, L5, k5, n5⟩, -, X5, ⟨Lc5, hQ5, l5, y5, z5⟩, st5⟩ := X4.virtualBack hx (y := (⟨"com/example/subsumer/subsumer/DependencySet", "max", "()I"⟩ : MethodName)) (z := (⟨"com/example/subsumer/subsumer/DependencySet", "max", "()I"⟩ : MethodName)) hown (mvT hZ (w_20 hw)) (mvT hZ (w_21 hw)) (notFace_of_selects (args := #[]) (mvT hZ (w_23 hw))) (mvT hZ (w_23 hw)) (mvT hZ (w_22 hw)) (by decide) (backOf (W := 0) (rm_max l Z a0 hw [] b_1 t_1 k_1 p T1.heap n0 f3 q1_3 q1_4) hZ (w_24 hw) (w_2 hw) (by decide) (by decide)) q5a q5c (g := (mkF mM 15 #[.val (.int p), .val (.int q), .val (.ref b_1), .unset] [(.ref b_1)])) rfl (by rw [hml]; rfl) (Steps.refl _) (argsL := []) (rest := []) (lenOf pd_5 rfl) rfl (by show 2 * 0 + _ ≤ _; exact Nat.le_of_eq rfl) (hb hby at_15) (fun _ _ => ⟨rfl, Kq4, (by decide : 2 + 0 ≤ _), (by decide : 2 + 0 ≤ _)⟩)
  dsimp only [Pt.U, Pt.locs, Pt.cells, Pt.slots] at X5 l5 y5 z5 st5 hQ5
  subst l5 y5 z5
  obtain ⟨rfl, rfl, Kq5⟩ := hQ5
  try rw [List.append_nil] at X5
  obtain ⟨cq6, kq6, q6a, q6b, q6c⟩ := isOf hZ Kq5 q1_2
  obtain ⟨_, _, ⟨T6, L6, k6, n6⟩, -, X6, ⟨Lc6, hQ6, l6, y6, z6⟩, st6⟩ := X5.virtualBack hx (y := (⟨"com/example/subsumer/subsumer/DependencySet", "without", "(I)Lcom/example/subsumer/subsumer/DependencySet;"⟩ : MethodName)) (z := (⟨"com/example/subsumer/subsumer/DependencySet", "without", "(I)Lcom/example/subsumer/subsumer/DependencySet;"⟩ : MethodName)) hown (mvT hZ (w_25 hw)) (mvT hZ (w_26 hw)) (notFace_of_selects (args := #[]) (mvT hZ (w_28 hw))) (mvT hZ (w_28 hw)) (mvT hZ (w_27 hw)) (by decide) (backOf (W := 0) (rm_wo0 l Z a0 hw [] b_1 t_1 k_1 p T1.heap n0 f3 q1_3 q1_4) hZ (w_29 hw) (w_2 hw) (by decide) (by decide)) q6a q6c (g := (mkF mM 26 #[.val (.int p), .val (.int q), .val (.ref b_1), .unset] [(.int p), (.ref b_1)])) rfl (by rw [hml]; rfl) (Steps.refl _) (argsL := [(.int p)]) (rest := []) (lenOf pd_3 rfl) rfl (by show 2 * 0 + _ ≤ _; exact Nat.le_of_eq rfl) (hb hby at_26) (fun _ _ => ⟨rfl, Kq5, (by decide : 2 + 2 ≤ _), (by decide : 2 + 1 ≤ _)⟩)
  dsimp only [Pt.U, Pt.locs, Pt.cells, Pt.slots] at X6 l6 y6 z6 st6 hQ6
  subst l6 y6 z6
  obtain ⟨b_6, t2_6, k2_6, rfl, Nq6, Kq6, q6_0, q6_1, q6_2, q6_3⟩ := hQ6
  have N6 := Fr.app N1 Nq6
  have g_b_6 : n0 ≤ b_6 := Nat.le_trans (own_osz f3) q6_0
  have sz_b_6 : h0.size ≤ b_6 := Nat.le_trans K2.1 q6_0
  have K7 : Keep h0 T6.heap [] := K2.trans Kq6 all0
  have f8 := (f3.keep Kq6 all0)
  obtain ⟨cq9, kq9, q9a, q9b, q9c⟩ := isOf hZ rfl q6_1
  obtain ⟨_, _, ⟨T9, L9, k9, n9⟩, -, X9, ⟨Lc9, hQ9, l9, y9, z9⟩, st9⟩ := X6.virtualBack hx (y := (⟨"com/example/subsumer/subsumer/DependencySet", "isEmpty", "()Z"⟩ : MethodName)) (z := (⟨"com/example/subsumer/subsumer/DependencySet", "isEmpty", "()Z"⟩ : MethodName)) hown (mvT hZ (w_15 hw)) (mvT hZ (w_16 hw)) (notFace_of_selects (args := #[]) (mvT hZ (w_18 hw))) (mvT hZ (w_18 hw)) (mvT hZ (w_17 hw)) (by decide) (backOf (W := 0) (rm_emp l Z a0 hw [] b_6 t2_6 k2_6 (0 : Int32) [] T6.heap n0 f8 q6_2 q6_3) hZ (w_19 hw) (w_2 hw) (by decide) (by decide)) q9a q9c (g := (mkF mM 29 #[.val (.int p), .val (.int q), .val (.ref b_1), .unset] [(.ref b_6)])) rfl (by rw [hml]; rfl) (Steps.refl _) (argsL := []) (rest := []) (lenOf pd_4 rfl) rfl (by show 2 * 0 + _ ≤ _; exact Nat.le_of_eq rfl) (hb hby at_29) (fun _ _ => ⟨rfl, rfl, (by decide : 4 + 0 ≤ _), (by decide : 3 + 0 ≤ _)⟩)
  dsimp only [Pt.U, Pt.locs, Pt.cells, Pt.slots] at X9 l9 y9 z9 st9 hQ9
  subst l9 y9 z9
  obtain ⟨rfl, rfl, Kq9⟩ := hQ9
  try rw [List.append_nil] at X9
  have pre11 : ∀ tg, Steps pP.tables eE below (T9.setTop (mkF mM 39 #[.val (.int p), .val (.int q), .val (.ref b_1), .unset] [(.int p), (.int q)])) tg → Steps pP.tables eE below (s₁.setTop (entryFrame mM #[(.int p), (.int q)] maxLocals)) tg := fun tg kg => pre0 tg (by
    refine XS.iloadN X0.here hx rfl (hb hby at_0) rfl ?_
    show Steps pP.tables eE below (s₁.setTop (mkF mM 1 #[.val (.int p), .val (.int q), .unset, .unset] [(.int p)])) _
    refine st1 _ ?_
    show Steps pP.tables eE below (T1.setTop (mkF mM 4 #[.val (.int p), .val (.int q), .unset, .unset] [(.ref b_1)])) _
    refine XS.astoreN X1.here hx rfl (hb hby at_4) rfl rfl (l' := #[.val (.int p), .val (.int q), .val (.ref b_1), .unset]) rfl ?_
    show Steps pP.tables eE below (T1.setTop (mkF mM 5 #[.val (.int p), .val (.int q), .val (.ref b_1), .unset] [])) _
    refine XS.aloadN X1.here hx rfl (hb hby at_5) rfl rfl ?_
    show Steps pP.tables eE below (T1.setTop (mkF mM 6 #[.val (.int p), .val (.int q), .val (.ref b_1), .unset] [(.ref b_1)])) _
    refine st4.trans ?_
    show Steps pP.tables eE below (T4.setTop (mkF mM 9 #[.val (.int p), .val (.int q), .val (.ref b_1), .unset] [(.int (if (1 : Int32) = 0 then 1 else 0))])) _
    refine XS.ifYes X4.here hx rfl (pc0 := 9) (pc' := 14) rfl (hb hby at_9) rfl ((if0 _ _).trans (teq (by decide : (if (1 : Int32) = 0 then 1 else 0) = (0 : Int32))).1) (by decide) (by decide) ?_
    show Steps pP.tables eE below (T4.setTop (mkF mM 14 #[.val (.int p), .val (.int q), .val (.ref b_1), .unset] [])) _
    refine XS.aloadN X4.here hx rfl (hb hby at_14) rfl rfl ?_
    show Steps pP.tables eE below (T4.setTop (mkF mM 15 #[.val (.int p), .val (.int q), .val (.ref b_1), .unset] [(.ref b_1)])) _
    refine st5.trans ?_
    show Steps pP.tables eE below (T5.setTop (mkF mM 18 #[.val (.int p), .val (.int q), .val (.ref b_1), .unset] [(.int p)])) _
    refine XS.iloadN X5.here hx rfl (hb hby at_18) rfl ?_
    show Steps pP.tables eE below (T5.setTop (mkF mM 19 #[.val (.int p), .val (.int q), .val (.ref b_1), .unset] [(.int p), (.int p)])) _
    refine XS.icmpYes X5.here hx rfl (pc0 := 19) (pc' := 24) rfl (hb hby at_19) rfl (teq (rfl : p = p)).1 (by decide) (by decide) ?_
    show Steps pP.tables eE below (T5.setTop (mkF mM 24 #[.val (.int p), .val (.int q), .val (.ref b_1), .unset] [])) _
    refine XS.aloadN X5.here hx rfl (hb hby at_24) rfl rfl ?_
    show Steps pP.tables eE below (T5.setTop (mkF mM 25 #[.val (.int p), .val (.int q), .val (.ref b_1), .unset] [(.ref b_1)])) _
    refine XS.iloadN X5.here hx rfl (hb hby at_25) rfl ?_
    show Steps pP.tables eE below (T5.setTop (mkF mM 26 #[.val (.int p), .val (.int q), .val (.ref b_1), .unset] [(.int p), (.ref b_1)])) _
    refine st6.trans ?_
    show Steps pP.tables eE below (T6.setTop (mkF mM 29 #[.val (.int p), .val (.int q), .val (.ref b_1), .unset] [(.ref b_6)])) _
    refine st9.trans ?_
    show Steps pP.tables eE below (T9.setTop (mkF mM 32 #[.val (.int p), .val (.int q), .val (.ref b_1), .unset] [(.int (if (0 : Int32) = 0 then 1 else 0))])) _
    refine XS.ifYes X9.here hx rfl (pc0 := 32) (pc' := 37) rfl (hb hby at_32) rfl ((if0 _ _).trans (feq (by decide : ¬ ((if (0 : Int32) = 0 then 1 else 0) = (0 : Int32)))).2) (by decide) (by decide) ?_
    show Steps pP.tables eE below (T9.setTop (mkF mM 37 #[.val (.int p), .val (.int q), .val (.ref b_1), .unset] [])) _
    refine XS.iloadN X9.here hx rfl (hb hby at_37) rfl ?_
    show Steps pP.tables eE below (T9.setTop (mkF mM 38 #[.val (.int p), .val (.int q), .val (.ref b_1), .unset] [(.int q)])) _
    refine XS.iloadN X9.here hx rfl (hb hby at_38) rfl ?_
    exact kg)
  by_cases hc10 : q = p
  · obtain ⟨fs, hr, hrun, hended, hW, hsame⟩ := X9.leave (v := some (.int (1 : Int32))) (fun h => by rw [Bd.returns] at h; cases h)
    refine ⟨_, _, pre11 _ ?_, hrun, hended, _, _, rfl, ?_, ⟨_, rfl⟩, hW, hsame.mono (by decide) (by decide)⟩
    · refine XS.icmpYes X9.here hx rfl (pc0 := 39) (pc' := 67) rfl (hb hby at_39) rfl (teq hc10).1 (by decide) (by decide) ?_
      show Steps pP.tables eE below (T9.setTop (mkF mM 67 #[.val (.int p), .val (.int q), .val (.ref b_1), .unset] [])) _
      refine XS.iconst X9.here hx rfl (hb hby at_67) ?_
      show Steps pP.tables eE below (T9.setTop (mkF mM 68 #[.val (.int p), .val (.int q), .val (.ref b_1), .unset] [(.int (1 : Int32))])) _
      exact retN X9 hx (t := .boolean) Bd.returns (by simp) (hb hby at_68) hr
    · show Q_law Z p q h0 n0 _ T9.heap _
      rw [Kq9]
      exact ⟨rfl, N6, K7⟩
  · have f13 := (q1_3.keep Kq6 nin0)
    have f14 := (q1_4.keep Kq6 nin0)
    have f16 := (q1_2.keep Kq6)
    obtain ⟨cq15, kq15, q15a, q15b, q15c⟩ := isOf hZ Kq9 f16
    obtain ⟨_, _, ⟨T15, L15, k15, n15⟩, -, X15, ⟨Lc15, hQ15, l15, y15, z15⟩, st15⟩ := X9.virtualBack hx (y := (⟨"com/example/subsumer/subsumer/DependencySet", "without", "(I)Lcom/example/subsumer/subsumer/DependencySet;"⟩ : MethodName)) (z := (⟨"com/example/subsumer/subsumer/DependencySet", "without", "(I)Lcom/example/subsumer/subsumer/DependencySet;"⟩ : MethodName)) hown (mvT hZ (w_25 hw)) (mvT hZ (w_26 hw)) (notFace_of_selects (args := #[]) (mvT hZ (w_28 hw))) (mvT hZ (w_28 hw)) (mvT hZ (w_27 hw)) (by decide) (backOf (W := 0) (rm_wo l Z a0 hw [] b_1 t_1 k_1 p q T6.heap n0 f8 f13 f14 hc10) hZ (w_29 hw) (w_2 hw) (by decide) (by decide)) q15a q15c (g := (mkF mM 44 #[.val (.int p), .val (.int q), .val (.ref b_1), .unset] [(.int q), (.ref b_1)])) rfl (by rw [hml]; rfl) (Steps.refl _) (argsL := [(.int q)]) (rest := []) (lenOf pd_3 rfl) rfl (by show 2 * 0 + _ ≤ _; exact Nat.le_of_eq rfl) (hb hby at_44) (fun _ _ => ⟨rfl, Kq9, (by decide : 4 + 0 ≤ _), (by decide : 3 + 0 ≤ _)⟩)
    dsimp only [Pt.U, Pt.locs, Pt.cells, Pt.slots] at X15 l15 y15 z15 st15 hQ15
    subst l15 y15 z15
    obtain ⟨rfl, rfl, Kq15⟩ := hQ15
    try rw [List.append_nil] at X15
    obtain ⟨cq17, kq17, q17a, q17b, q17c⟩ := isOf hZ Kq15 f16
    obtain ⟨_, _, ⟨T17, L17, k17, n17⟩, -, X17, ⟨Lc17, hQ17, l17, y17, z17⟩, st17⟩ := X15.virtualBack hx (y := (⟨"com/example/subsumer/subsumer/DependencySet", "isEmpty", "()Z"⟩ : MethodName)) (z := (⟨"com/example/subsumer/subsumer/DependencySet", "isEmpty", "()Z"⟩ : MethodName)) hown (mvT hZ (w_15 hw)) (mvT hZ (w_16 hw)) (notFace_of_selects (args := #[]) (mvT hZ (w_18 hw))) (mvT hZ (w_18 hw)) (mvT hZ (w_17 hw)) (by decide) (backOf (W := 0) (rm_emp l Z a0 hw [] b_1 t_1 k_1 (1 : Int32) ([(.int p)]) T6.heap n0 f8 f13 f14) hZ (w_19 hw) (w_2 hw) (by decide) (by decide)) q17a q17c (g := (mkF mM 49 #[.val (.int p), .val (.int q), .val (.ref b_1), .val (.ref b_1)] [(.ref b_1)])) rfl (by rw [hml]; rfl) (Steps.refl _) (argsL := []) (rest := []) (lenOf pd_4 rfl) rfl (by show 2 * 0 + _ ≤ _; exact Nat.le_of_eq rfl) (hb hby at_49) (fun _ _ => ⟨rfl, Kq15, (by decide : 4 + 0 ≤ _), (by decide : 3 + 0 ≤ _)⟩)
    dsimp only [Pt.U, Pt.locs, Pt.cells, Pt.slots] at X17 l17 y17 z17 st17 hQ17
    subst l17 y17 z17
    obtain ⟨rfl, rfl, Kq17⟩ := hQ17
    try rw [List.append_nil] at X17
    obtain ⟨cq18, kq18, q18a, q18b, q18c⟩ := isOf hZ Kq17 f16
    obtain ⟨_, _, ⟨T18, L18, k18, n18⟩, -, X18, ⟨Lc18, hQ18, l18, y18, z18⟩, st18⟩ := X17.virtualBack hx (y := (⟨"com/example/subsumer/subsumer/DependencySet", "max", "()I"⟩ : MethodName)) (z := (⟨"com/example/subsumer/subsumer/DependencySet", "max", "()I"⟩ : MethodName)) hown (mvT hZ (w_20 hw)) (mvT hZ (w_21 hw)) (notFace_of_selects (args := #[]) (mvT hZ (w_23 hw))) (mvT hZ (w_23 hw)) (mvT hZ (w_22 hw)) (by decide) (backOf (W := 0) (rm_max l Z a0 hw [] b_1 t_1 k_1 p T6.heap n0 f8 f13 f14) hZ (w_24 hw) (w_2 hw) (by decide) (by decide)) q18a q18c (g := (mkF mM 58 #[.val (.int p), .val (.int q), .val (.ref b_1), .val (.ref b_1)] [(.ref b_1)])) rfl (by rw [hml]; rfl) (Steps.refl _) (argsL := []) (rest := []) (lenOf pd_5 rfl) rfl (by show 2 * 0 + _ ≤ _; exact Nat.le_of_eq rfl) (hb hby at_58) (fun _ _ => ⟨rfl, Kq17, (by decide : 4 + 0 ≤ _), (by decide : 3 + 0 ≤ _)⟩)
    dsimp only [Pt.U, Pt.locs, Pt.cells, Pt.slots] at X18 l18 y18 z18 st18 hQ18
    subst l18 y18 z18
    obtain ⟨rfl, rfl, Kq18⟩ := hQ18
    try rw [List.append_nil] at X18
    obtain ⟨fs, hr, hrun, hended, hW, hsame⟩ := X18.leave (v := some (.int (1 : Int32))) (fun h => by rw [Bd.returns] at h; cases h)
    refine ⟨_, _, pre11 _ ?_, hrun, hended, _, _, rfl, ?_, ⟨_, rfl⟩, hW, hsame.mono (by decide) (by decide)⟩
    · refine XS.icmpNo X9.here hx rfl (hb hby at_39) rfl (feq hc10).1 ?_
      show Steps pP.tables eE below (T9.setTop (mkF mM 42 #[.val (.int p), .val (.int q), .val (.ref b_1), .unset] [])) _
      refine XS.aloadN X9.here hx rfl (hb hby at_42) rfl rfl ?_
      show Steps pP.tables eE below (T9.setTop (mkF mM 43 #[.val (.int p), .val (.int q), .val (.ref b_1), .unset] [(.ref b_1)])) _
      refine XS.iloadN X9.here hx rfl (hb hby at_43) rfl ?_
      show Steps pP.tables eE below (T9.setTop (mkF mM 44 #[.val (.int p), .val (.int q), .val (.ref b_1), .unset] [(.int q), (.ref b_1)])) _
      refine st15.trans ?_
      show Steps pP.tables eE below (T15.setTop (mkF mM 47 #[.val (.int p), .val (.int q), .val (.ref b_1), .unset] [(.ref b_1)])) _
      refine XS.astoreN X15.here hx rfl (hb hby at_47) rfl rfl (l' := #[.val (.int p), .val (.int q), .val (.ref b_1), .val (.ref b_1)]) rfl ?_
      show Steps pP.tables eE below (T15.setTop (mkF mM 48 #[.val (.int p), .val (.int q), .val (.ref b_1), .val (.ref b_1)] [])) _
      refine XS.aloadN X15.here hx rfl (hb hby at_48) rfl rfl ?_
      show Steps pP.tables eE below (T15.setTop (mkF mM 49 #[.val (.int p), .val (.int q), .val (.ref b_1), .val (.ref b_1)] [(.ref b_1)])) _
      refine st17.trans ?_
      show Steps pP.tables eE below (T17.setTop (mkF mM 52 #[.val (.int p), .val (.int q), .val (.ref b_1), .val (.ref b_1)] [(.int (if (1 : Int32) = 0 then 1 else 0))])) _
      refine XS.ifYes X17.here hx rfl (pc0 := 52) (pc' := 57) rfl (hb hby at_52) rfl ((if0 _ _).trans (teq (by decide : (if (1 : Int32) = 0 then 1 else 0) = (0 : Int32))).1) (by decide) (by decide) ?_
      show Steps pP.tables eE below (T17.setTop (mkF mM 57 #[.val (.int p), .val (.int q), .val (.ref b_1), .val (.ref b_1)] [])) _
      refine XS.aloadN X17.here hx rfl (hb hby at_57) rfl rfl ?_
      show Steps pP.tables eE below (T17.setTop (mkF mM 58 #[.val (.int p), .val (.int q), .val (.ref b_1), .val (.ref b_1)] [(.ref b_1)])) _
      refine st18.trans ?_
      show Steps pP.tables eE below (T18.setTop (mkF mM 61 #[.val (.int p), .val (.int q), .val (.ref b_1), .val (.ref b_1)] [(.int p)])) _
      refine XS.iloadN X18.here hx rfl (hb hby at_61) rfl ?_
      show Steps pP.tables eE below (T18.setTop (mkF mM 62 #[.val (.int p), .val (.int q), .val (.ref b_1), .val (.ref b_1)] [(.int p), (.int p)])) _
      refine XS.icmpYes X18.here hx rfl (pc0 := 62) (pc' := 67) rfl (hb hby at_62) rfl (teq (rfl : p = p)).1 (by decide) (by decide) ?_
      show Steps pP.tables eE below (T18.setTop (mkF mM 67 #[.val (.int p), .val (.int q), .val (.ref b_1), .val (.ref b_1)] [])) _
      refine XS.iconst X18.here hx rfl (hb hby at_67) ?_
      show Steps pP.tables eE below (T18.setTop (mkF mM 68 #[.val (.int p), .val (.int q), .val (.ref b_1), .val (.ref b_1)] [(.int (1 : Int32))])) _
      exact retN X18 hx (t := .boolean) Bd.returns (by simp) (hb hby at_68) hr
    · show Q_law Z p q h0 n0 _ T18.heap _
      rw [Kq18]
      exact ⟨rfl, N6, K7⟩
set_option maxRecDepth 65536 in
set_option maxHeartbeats 40000000 in
theorem comes_1 {Post : Tables → Env → Array Value → State → Outcome → State → Prop} (hpost : ∀ tb e args s v u, (limb_1_1.after args s (.returned v) u = true ∧ limb_1_2.after args s (.returned v) u = true ∧ True) → FrameEnd s (.returned v) u (Jvm.fieldLocs frame_1_writes args s ++ Jvm.arrayLocs frame_1_arrays args s ++ Jvm.staticLocs frame_1_statics s) 16 128 → Post tb e args s (.returned v) u) :
    ArmFor flags0 classFile x code maxLocals ret World_1 tables_1 room_1 Calls_1 rest_1 Pre_1 Post := by
  intro l hfl _ _ p e ha hc hk s m args below hf hA hF happ hP
  obtain ⟨hcalls, hrest, hpre⟩ := hP
  obtain ⟨-, -, -, hnamed, -, -, -, hat⟩ := (Spec.applies_iff hf).mp happ
  obtain ⟨hg, hn⟩ := and_e (Cond.before_iff.mp (show (Jvm.Cond.and given_1 narrow_1).before args s = true from hpre))
  obtain ⟨hcnt, hg0⟩ := and_e hg
  obtain ⟨ga0, hg1⟩ := and_e hg0
  have ga1 := hg1
  obtain ⟨w0, w1, rfl⟩ : ∃ w0 w1 : Value, args = #[w0, w1] := by
    have hs : args.size = 2 := by simpa [Cond.value, given_1] using hcnt
    obtain ⟨L⟩ := args
    match L, hs with
    | [w0, w1], _ => exact ⟨w0, w1, rfl⟩
  have hw := fun d (hd : d ∈ tables_1) => atoms_spec (ws := Jvm.Cond.code x code maxLocals ret :: tables_1) hat d (List.mem_cons_of_mem _ hd)
  have hfit : Fit s := fun {y c} hc i hi => by
    obtain ⟨ha, rfl⟩ := Array.getElem?_eq_some_iff.mp hc
    have q := List.all_eq_true.mp ((Array.all_eq_true_iff_forall_mem.mp hF) _ (Array.getElem_mem ha)) i (List.mem_range.mpr hi)
    simpa [Array.getElem?_eq_getElem hi] using q
  obtain ⟨i0, ei0⟩ := is_v ga0
  obtain rfl : w0 = (.int i0) := Option.some.inj ei0
  obtain ⟨i1, ei1⟩ := is_v ga1
  obtain rfl : w1 = (.int i1) := Option.some.inj ei1
  obtain ⟨n, o, h1, h2, h3, _, L, rfl, ⟨rfl, N, _⟩, hq⟩ := rm_law l s _ hw tables_1 i0 i1 s.heap s.heap.size (Old.start s)  p e ha hc hk s m _ below hf ((Spec.applies_iff_loose hf).mp happ).1 ⟨rfl, State.Warmed39.refl s, rfl⟩ trivial
  refine ⟨n, _, h1, h2, h3, hpost _ _ _ _ _ _ ⟨Cond.after_iff.mpr rfl, Cond.after_iff.mpr (eq_i res_at (Term.int_eval (1)) rfl), trivial⟩ ⟨hq.1, hq.2.1, (hq.2.2.sift fun y hy => Or.inr (N y hy)).mono (by decide) (by decide)⟩⟩
theorem main_1_1 : Claimed_1_1 := comes_1 fun _ _ _ _ _ _ h hF => ⟨h.1, hF⟩
theorem main_1_2 : Claimed_1_2 := comes_1 fun _ _ _ _ _ _ h hF => ⟨h.2.1, hF⟩
end Jvm.Pilot.@@N@@
namespace Jvm.Pilot.@@N@@
open Jvm Jvm.ClassFile Sem Op Lib Jvm.Free Jvm.Stand Jvm.Pilot.@@N@@.Jvm.D
/-! MADE BY PROGRAM (witnessworld.py) out of the Statement's table words and the real class files: 11 classes; the members and pool entries that the words name. The judged class is class 1, her method 1. -/
namespace start1
open Jvm.ClassFile
def u (s : String) : CpInfo := .utf8 (stringToUtf16 s)
/-- a pool by its gaps: so many unusable entries, then the entry; so many at the end -/
def gap : Nat → List CpInfo → List CpInfo
  | 0, r => r
  | n + 1, r => .unusable :: gap n r
def poolList (es : List (Nat × CpInfo)) (last : Nat) : List CpInfo := es.foldr (fun e r => gap e.1 (e.2 :: r)) (gap last [])
def pool (es : List (Nat × CpInfo)) (last : Nat) : Array CpInfo := ⟨poolList es last⟩
def fileOf (pool : Array CpInfo) (this : Nat) (attrs : Array Attribute := #[]) (ms : Array MethodInfo := #[]) (fl : Nat := 33) (sup : Nat := 0) (ifs : Array Nat := #[]) (fds : Array FieldInfo := #[]) : ClassFile where
  minorVersion := 0
  majorVersion := 65
  constantPool := pool
  accessFlags := fl
  thisClass := this
  superClass := sup
  interfaces := ifs
  fields := fds
  methods := ms
  attributes := attrs
def plain (name : String) (sup : Option ClassId) : Class where
  name := name
  kind := .ordinary
  loader := none
  accessFlags := 33
  super := sup
  interfaces := #[]
  cf := none
  fields := #[]
  methods := #[]
  instanceTypes := #[]
  staticTypes := #[]
  resolved := #[]
  callSites := []
  init := .initialized
  statics := none
  mirror := none

def pool0 : Array CpInfo := pool [(5, u "<init>"), (0, u "()V"), (1, .class_ 10), (1, u "java/lang/Object")] 113

def k0c0 : Code := { maxStack := 0, maxLocals := 1, code := object_method_1_code, exceptionTable := #[], attributes := #[] }
def k0m0 : Method := { name := "<init>", desc := "()V", sig := { parameters := [], returnType := none }, accessFlags := 1, code := some k0c0 }
/-- java/lang/Object -/
def k0 : Class := { plain "java/lang/Object" none with
  accessFlags := 33
  interfaces := #[]
  cf := some (fileOf pool0 8 #[] #[{ accessFlags := 1, nameIndex := 5, descriptorIndex := 6, attributes := #[] }] 33 0 #[] #[])
  fields := #[]
  methods := #[k0m0]
  instanceTypes := #[]
  staticTypes := #[]
  resolved := Array.replicate 124 none
  statics := none }

def pool1 : Array CpInfo := pool [(2, .class_ 4), (1, u "java/lang/Object"), (0, u "<init>"), (0, u "()V"), (0, .methodref 8 9), (0, .class_ 10), (0, .nameAndType 11 12), (0, u "com/example/subsumer/subsumer/DependencySet"), (0, u "of"), (0, u "(I)Lcom/example/subsumer/subsumer/DependencySet;"), (0, .methodref 8 14), (0, .nameAndType 15 16), (0, u "isEmpty"), (0, u "()Z"), (0, .methodref 8 18), (0, .nameAndType 19 20), (0, u "max"), (0, u "()I"), (0, .methodref 8 22), (0, .nameAndType 23 12), (0, u "without"), (0, .class_ 25), (0, u "com/example/subsumer/subsumer/DependencySetOfPinLaw"), (2, u "law"), (0, u "(II)Z")] 3

def k1m0 : Method := { name := "<init>", desc := "()V", sig := { parameters := [], returnType := none }, accessFlags := 1, code := none }
def k1c1 : Code := { maxStack := 2, maxLocals := 4, code := code, exceptionTable := #[], attributes := #[] }
def k1m1 : Method := { name := "law", desc := "(II)Z", sig := { parameters := [.int, .int], returnType := some .boolean }, accessFlags := 9, code := some k1c1 }
/-- com/example/subsumer/subsumer/DependencySetOfPinLaw -/
def k1 : Class := { plain "com/example/subsumer/subsumer/DependencySetOfPinLaw" (some 0) with
  accessFlags := 49
  interfaces := #[]
  cf := some (fileOf pool1 24 #[] #[{ accessFlags := 1, nameIndex := 5, descriptorIndex := 6, attributes := #[] }, { accessFlags := 9, nameIndex := 28, descriptorIndex := 29, attributes := #[] }] 49 2 #[] #[])
  fields := #[]
  methods := #[k1m0, k1m1]
  instanceTypes := #[]
  staticTypes := #[]
  resolved := Array.replicate 33 none
  statics := none }

def pool2 : Array CpInfo := pool [(1, .methodref 2 3), (0, .class_ 4), (0, .nameAndType 5 6), (0, u "java/lang/Object"), (0, u "<init>"), (0, u "()V"), (0, .fieldref 8 9), (0, .class_ 10), (0, .nameAndType 11 12), (0, u "com/example/subsumer/subsumer/DependencySet"), (0, u "levels"), (0, u "[I"), (0, .methodref 8 14), (0, .nameAndType 5 15), (0, u "([I)V"), (4, .methodref 21 22), (0, .class_ 23), (0, .nameAndType 24 25), (0, u "java/util/Arrays"), (0, u "binarySearch"), (0, u "([II)I"), (0, .methodref 27 28), (0, .class_ 29), (0, .nameAndType 30 31), (0, u "java/lang/System"), (0, u "arraycopy"), (0, u "(Ljava/lang/Object;ILjava/lang/Object;II)V"), (6, u "EMPTY"), (0, u "Lcom/example/subsumer/subsumer/DependencySet;"), (2, u "of"), (0, u "(I)Lcom/example/subsumer/subsumer/DependencySet;"), (0, u "isEmpty"), (0, u "()Z"), (1, u "max"), (0, u "()I"), (2, u "without")] 4

def k2c0 : Code := { maxStack := 2, maxLocals := 2, code := prog_10_method_1_code, exceptionTable := #[], attributes := #[] }
def k2m0 : Method := { name := "<init>", desc := "([I)V", sig := { parameters := [(.array .int)], returnType := none }, accessFlags := 2, code := some k2c0 }
def k2c1 : Code := { maxStack := 6, maxLocals := 1, code := prog_10_method_2_code, exceptionTable := #[], attributes := #[] }
def k2m1 : Method := { name := "of", desc := "(I)Lcom/example/subsumer/subsumer/DependencySet;", sig := { parameters := [.int], returnType := some (.object "com/example/subsumer/subsumer/DependencySet") }, accessFlags := 8, code := some k2c1 }
def k2c2 : Code := { maxStack := 1, maxLocals := 1, code := prog_10_method_3_code, exceptionTable := #[], attributes := #[] }
def k2m2 : Method := { name := "isEmpty", desc := "()Z", sig := { parameters := [], returnType := some .boolean }, accessFlags := 0, code := some k2c2 }
def k2c3 : Code := { maxStack := 3, maxLocals := 1, code := prog_10_method_4_code, exceptionTable := #[], attributes := #[] }
def k2m3 : Method := { name := "max", desc := "()I", sig := { parameters := [], returnType := some .int }, accessFlags := 0, code := some k2c3 }
def k2c4 : Code := { maxStack := 6, maxLocals := 5, code := prog_10_method_6_code, exceptionTable := #[], attributes := #[] }
def k2m4 : Method := { name := "without", desc := "(I)Lcom/example/subsumer/subsumer/DependencySet;", sig := { parameters := [.int], returnType := some (.object "com/example/subsumer/subsumer/DependencySet") }, accessFlags := 0, code := some k2c4 }
/-- com/example/subsumer/subsumer/DependencySet -/
def k2 : Class := { plain "com/example/subsumer/subsumer/DependencySet" (some 0) with
  accessFlags := 48
  interfaces := #[]
  cf := some (fileOf pool2 8 #[] #[{ accessFlags := 2, nameIndex := 5, descriptorIndex := 15, attributes := #[] }, { accessFlags := 8, nameIndex := 42, descriptorIndex := 43, attributes := #[] }, { accessFlags := 0, nameIndex := 44, descriptorIndex := 45, attributes := #[] }, { accessFlags := 0, nameIndex := 47, descriptorIndex := 48, attributes := #[] }, { accessFlags := 0, nameIndex := 51, descriptorIndex := 43, attributes := #[] }] 48 2 #[] #[{ accessFlags := 24, nameIndex := 38, descriptorIndex := 39, attributes := #[] }, { accessFlags := 18, nameIndex := 11, descriptorIndex := 12, attributes := #[] }])
  fields := #[{ name := "EMPTY", type := (.object "com/example/subsumer/subsumer/DependencySet"), accessFlags := 24, slot := 0, constantValue := 0 }, { name := "levels", type := (.array .int), accessFlags := 18, slot := 0, constantValue := 0 }]
  methods := #[k2m0, k2m1, k2m2, k2m3, k2m4]
  instanceTypes := #[(.array .int)]
  staticTypes := #[(.object "com/example/subsumer/subsumer/DependencySet")]
  resolved := Array.replicate 56 none
  statics := none }

def pool3 : Array CpInfo := pool [(2, .class_ 4), (1, u "java/lang/Object"), (0, u "<init>"), (0, u "()V"), (7, .class_ 16), (1, u "java/util/Arrays"), (57, .class_ 76), (1, u "java/util/Arrays$NaturalOrder"), (36, .class_ 115), (1, u "java/util/Arrays$LegacyMergeSort"), (1, u "Z"), (89, u "binarySearch0"), (1, .methodref 14 210), (0, .nameAndType 207 211), (0, u "([IIII)I"), (163, .class_ 376), (0, u "java/util/Arrays$ArrayList"), (68, u "$assertionsDisabled"), (269, u "MIN_ARRAY_SORT_GRAN"), (0, u "I"), (2, u "INSERTIONSORT_THRESHOLD"), (74, u "binarySearch"), (4, u "([II)I"), (175, .class_ 976), (0, u "java/util/Arrays$ArrayItr")] 52

def k3m0 : Method := { name := "<init>", desc := "()V", sig := { parameters := [], returnType := none }, accessFlags := 2, code := none }
def k3c1 : Code := { maxStack := 4, maxLocals := 2, code := jdk_65_method_57_code, exceptionTable := #[], attributes := #[] }
def k3m1 : Method := { name := "binarySearch", desc := "([II)I", sig := { parameters := [(.array .int), .int], returnType := some .int }, accessFlags := 9, code := some k3c1 }
def k3c2 : Code := { maxStack := 2, maxLocals := 8, code := jdk_65_method_59_code, exceptionTable := #[], attributes := #[] }
def k3m2 : Method := { name := "binarySearch0", desc := "([IIII)I", sig := { parameters := [(.array .int), .int, .int, .int], returnType := some .int }, accessFlags := 10, code := some k3c2 }
/-- java/util/Arrays -/
def k3 : Class := { plain "java/util/Arrays" (some 0) with
  accessFlags := 49
  interfaces := #[]
  cf := some (fileOf pool3 14 #[.nestMembers #[975, 375, 113, 74]] #[{ accessFlags := 2, nameIndex := 5, descriptorIndex := 6, attributes := #[] }, { accessFlags := 9, nameIndex := 794, descriptorIndex := 799, attributes := #[] }, { accessFlags := 10, nameIndex := 207, descriptorIndex := 211, attributes := #[] }] 49 2 #[] #[{ accessFlags := 26, nameIndex := 715, descriptorIndex := 716, attributes := #[] }, { accessFlags := 26, nameIndex := 719, descriptorIndex := 716, attributes := #[] }, { accessFlags := 4120, nameIndex := 445, descriptorIndex := 117, attributes := #[] }])
  fields := #[{ name := "MIN_ARRAY_SORT_GRAN", type := .int, accessFlags := 26, slot := 0, constantValue := 0 }, { name := "INSERTIONSORT_THRESHOLD", type := .int, accessFlags := 26, slot := 1, constantValue := 0 }, { name := "$assertionsDisabled", type := .boolean, accessFlags := 4120, slot := 2, constantValue := 0 }]
  methods := #[k3m0, k3m1, k3m2]
  instanceTypes := #[]
  staticTypes := #[.int, .int, .boolean]
  resolved := Array.replicate 1029 none
  statics := none }

def pool4 : Array CpInfo := pool [(2, .class_ 4), (1, u "java/lang/Object"), (0, u "<init>"), (0, u "()V"), (1, .class_ 10), (1, u "java/lang/System"), (0, u "allowSecurityManager"), (0, u "I"), (16, u "cons"), (0, u "Ljava/io/Console;"), (77, .class_ 110), (1, u "java/lang/System$CallersHolder"), (43, u "initialErrStream"), (0, u "Ljava/io/PrintStream;"), (19, u "security"), (0, u "Ljava/lang/SecurityManager;"), (31, .class_ 209), (0, u "java/lang/System$1"), (7, u "props"), (0, u "Ljava/util/Properties;"), (2, u "lineSeparator"), (0, u "Ljava/lang/String;"), (96, .class_ 321), (1, u "java/lang/System$LoggerFinder"), (5, .class_ 328), (0, u "java/lang/System$Logger"), (67, u "err"), (2, u "out"), (91, u "notSupportedJnuEncoding"), (15, u "in"), (17, u "initialIn"), (0, u "Ljava/io/InputStream;"), (35, u "bootLayer"), (0, u "Ljava/lang/ModuleLayer;"), (99, .class_ 664), (0, u "java/lang/System$2"), (9, u "NEVER"), (2, u "MAYBE"), (49, u "arraycopy"), (0, u "(Ljava/lang/Object;ILjava/lang/Object;II)V"), (72, .class_ 802), (0, u "java/lang/System$Logger$Level")] 31

def k4m0 : Method := { name := "<init>", desc := "()V", sig := { parameters := [], returnType := none }, accessFlags := 2, code := none }
def k4m1 : Method := { name := "arraycopy", desc := "(Ljava/lang/Object;ILjava/lang/Object;II)V", sig := { parameters := [(.object "java/lang/Object"), .int, (.object "java/lang/Object"), .int, .int], returnType := none }, accessFlags := 265, code := none }
/-- java/lang/System -/
def k4 : Class := { plain "java/lang/System" (some 0) with
  accessFlags := 49
  interfaces := #[]
  cf := some (fileOf pool4 8 #[.nestMembers #[319, 327, 801, 108, 663, 208]] #[{ accessFlags := 2, nameIndex := 5, descriptorIndex := 6, attributes := #[] }, { accessFlags := 265, nameIndex := 727, descriptorIndex := 728, attributes := #[] }] 49 2 #[] #[{ accessFlags := 25, nameIndex := 507, descriptorIndex := 526, attributes := #[] }, { accessFlags := 25, nameIndex := 399, descriptorIndex := 155, attributes := #[] }, { accessFlags := 25, nameIndex := 396, descriptorIndex := 155, attributes := #[] }, { accessFlags := 10, nameIndex := 525, descriptorIndex := 526, attributes := #[] }, { accessFlags := 26, nameIndex := 674, descriptorIndex := 12, attributes := #[] }, { accessFlags := 26, nameIndex := 677, descriptorIndex := 12, attributes := #[] }, { accessFlags := 10, nameIndex := 11, descriptorIndex := 12, attributes := #[] }, { accessFlags := 74, nameIndex := 175, descriptorIndex := 176, attributes := #[] }, { accessFlags := 10, nameIndex := 491, descriptorIndex := 222, attributes := #[] }, { accessFlags := 74, nameIndex := 29, descriptorIndex := 30, attributes := #[] }, { accessFlags := 74, nameIndex := 154, descriptorIndex := 155, attributes := #[] }, { accessFlags := 10, nameIndex := 217, descriptorIndex := 218, attributes := #[] }, { accessFlags := 10, nameIndex := 221, descriptorIndex := 222, attributes := #[] }, { accessFlags := 8, nameIndex := 562, descriptorIndex := 563, attributes := #[] }])
  fields := #[{ name := "in", type := (.object "java/io/InputStream"), accessFlags := 25, slot := 0, constantValue := 0 }, { name := "out", type := (.object "java/io/PrintStream"), accessFlags := 25, slot := 1, constantValue := 0 }, { name := "err", type := (.object "java/io/PrintStream"), accessFlags := 25, slot := 2, constantValue := 0 }, { name := "initialIn", type := (.object "java/io/InputStream"), accessFlags := 10, slot := 3, constantValue := 0 }, { name := "NEVER", type := .int, accessFlags := 26, slot := 4, constantValue := 0 }, { name := "MAYBE", type := .int, accessFlags := 26, slot := 5, constantValue := 0 }, { name := "allowSecurityManager", type := .int, accessFlags := 10, slot := 6, constantValue := 0 }, { name := "security", type := (.object "java/lang/SecurityManager"), accessFlags := 74, slot := 7, constantValue := 0 }, { name := "notSupportedJnuEncoding", type := (.object "java/lang/String"), accessFlags := 10, slot := 8, constantValue := 0 }, { name := "cons", type := (.object "java/io/Console"), accessFlags := 74, slot := 9, constantValue := 0 }, { name := "initialErrStream", type := (.object "java/io/PrintStream"), accessFlags := 74, slot := 10, constantValue := 0 }, { name := "props", type := (.object "java/util/Properties"), accessFlags := 10, slot := 11, constantValue := 0 }, { name := "lineSeparator", type := (.object "java/lang/String"), accessFlags := 10, slot := 12, constantValue := 0 }, { name := "bootLayer", type := (.object "java/lang/ModuleLayer"), accessFlags := 8, slot := 13, constantValue := 0 }]
  methods := #[k4m0, k4m1]
  instanceTypes := #[]
  staticTypes := #[(.object "java/io/InputStream"), (.object "java/io/PrintStream"), (.object "java/io/PrintStream"), (.object "java/io/InputStream"), .int, .int, .int, (.object "java/lang/SecurityManager"), (.object "java/lang/String"), (.object "java/io/Console"), (.object "java/io/PrintStream"), (.object "java/util/Properties"), (.object "java/lang/String"), (.object "java/lang/ModuleLayer")]
  resolved := Array.replicate 834 none
  statics := none }

def pool5 : Array CpInfo := pool [(1, u "java/lang/Cloneable"), (0, .class_ 1), (0, u "java/lang/Object"), (0, .class_ 3)] 3

/-- java/lang/Cloneable -/
def k5 : Class := { plain "java/lang/Cloneable" (some 0) with
  accessFlags := 1537
  interfaces := #[]
  cf := some (fileOf pool5 2 #[] #[] 1537 4 #[] #[])
  fields := #[]
  methods := #[]
  instanceTypes := #[]
  staticTypes := #[]
  resolved := Array.replicate 8 none
  statics := none }

def pool6 : Array CpInfo := pool [(1, u "java/io/Serializable"), (0, .class_ 1), (0, u "java/lang/Object"), (0, .class_ 3)] 3

/-- java/io/Serializable -/
def k6 : Class := { plain "java/io/Serializable" (some 0) with
  accessFlags := 1537
  interfaces := #[]
  cf := some (fileOf pool6 2 #[] #[] 1537 4 #[] #[])
  fields := #[]
  methods := #[]
  instanceTypes := #[]
  staticTypes := #[]
  resolved := Array.replicate 8 none
  statics := none }

/-- the primitive byte -/
def k7 : Class := { plain "byte" none with kind := .primitive 'B', accessFlags := 0x411 }
/-- [B -/
def k8 : Class := { plain "[B" (some 0) with kind := .array 7 .byte, interfaces := #[5, 6], accessFlags := 1041 }

/-- the primitive int -/
def k9 : Class := { plain "int" none with kind := .primitive 'I', accessFlags := 0x411 }
/-- [I -/
def k10 : Class := { plain "[I" (some 0) with kind := .array 9 .int, interfaces := #[5, 6], accessFlags := 1041 }

def heap : Heap := #[]
def classes : Array Class := #[k0, k1, k2, k3, k4, k5, k6, k7, k8, k9, k10]
def interned : List (Array UInt16 × Addr) := []
def slotsUsed : Nat := 0
def theMethod : MethodId := ⟨1, 1⟩
def args0 : Array Value := #[.int 5, .int 5]
def aboutOver (below : List Frame) : State where
  vm := { classes := classes, interned := interned.toArray }
  heap := heap
  slotsUsed := slotsUsed
  threads := #[{ frames := .invoking theMethod args0 :: below }]
def below0 : List Frame := [.native { method := ⟨0, 0⟩, args := #[] }]
def about1 : State := aboutOver below0
def p0 : Program := .bare "" "" ""
def e0 : Env := launch0.env 0 0 0
theorem w_frames : about1.frames = Frame.invoking theMethod args0 :: below0 := rfl
set_option maxRecDepth 65536 in
theorem w_args : argsFit about1.vm theMethod args0 = true := by decide +kernel
set_option maxRecDepth 65536 in
theorem w_heap : heapFits about1 = true := by decide +kernel
set_option maxRecDepth 65536 in
theorem w_runnable : about1.curStatus? = some .runnable := by decide +kernel
set_option maxRecDepth 65536 in
theorem w_alone : about1.alone = true := by decide +kernel
set_option maxRecDepth 65536 in
theorem w_named : about1.methodNamed? x = some theMethod := by decide +kernel
set_option maxRecDepth 65536 in
theorem w_hears : about1.hears theMethod below0 = true := by decide +kernel
set_option maxRecDepth 65536 in
theorem w_ripe : about1.ripe theMethod args0 below0 = true := by decide +kernel
theorem w_running : about1.status = .running := rfl
set_option maxRecDepth 65536 in
theorem w_room : about1.hasRoom e0.platform room_1 = true :=
  launch0.hasRoom_least _ room_1 (by decide +kernel) (by decide +kernel) (by decide +kernel) (by decide +kernel) (by decide +kernel) (by decide +kernel)
theorem allAtoms_all (ts : List Jvm.Cond) (a : Array Jvm.Value) (st : Jvm.State) : (allAtoms ts).before a st = ts.all (fun c => c.before a st) := by
  induction ts with
  | nil => rfl
  | cons c t ih =>
    show (Jvm.Cond.and c (allAtoms t)).before a st = _
    rw [Jvm.Cond.before_and, ih, List.all_cons]
def words1 : List Jvm.Cond := Jvm.Cond.code x code maxLocals ret :: tables_1
/-- a 'code' word, met by the world's own term for the bytes: nothing is compared byte by byte -/
theorem code_word {y : MethodName} {bytes : ByteArray} {mx : Nat} {rt : Option FieldType} {a : Array Value} {s : State} {m : MethodId} {meth : Method} {c : Code} (h1 : s.methodNamed? y = some m) (h2 : s.vm.method? m = some meth) (h3 : meth.code = some c) (h4 : c.code = bytes)
    (h5 : (c.maxLocals == mx && c.exceptionTable.isEmpty && decide (c.maxStack ≤ mostOperands) && decide (meth.sig.returnType = rt) && !meth.locks && decide (parseMethodDescriptor y.desc = some meth.sig)) = true) : (Jvm.Cond.code y bytes mx rt).before a s = true := by
  simp only [Bool.and_eq_true, beq_iff_eq, Bool.not_eq_true', decide_eq_true_eq] at h5
  obtain ⟨⟨⟨⟨⟨g1, g2⟩, g3⟩, g4⟩, g5⟩, g6⟩ := h5
  simp [Cond.before, Cond.holds, Cond.value, h1, h2, h3, h4, g1, g2, g3, g4, g5, g6]
def isCode : Jvm.Cond → Bool
  | .code _ _ _ _ => true
  | _ => false
theorem all_split {L : List Jvm.Cond} {P : Jvm.Cond → Bool} (h1 : L.all (fun c => isCode c || P c) = true) (h2 : ∀ c ∈ L.filter isCode, P c = true) : L.all P = true := by
  refine List.all_eq_true.mpr fun c hc => ?_
  have h := List.all_eq_true.mp h1 c hc
  rcases Bool.eq_false_or_eq_true (isCode c) with hi | hi
  · exact h2 c (List.mem_filter.mpr ⟨hc, hi⟩)
  · simpa [hi] using h
set_option maxRecDepth 65536 in
theorem w_c0 : (Jvm.Cond.code x code maxLocals ret).before args0 about1 = true := code_word (m := ⟨1, 1⟩) (meth := k1m1) (c := k1c1) (by decide +kernel) rfl rfl rfl (by decide +kernel)
set_option maxRecDepth 65536 in
theorem w_c1 : (Jvm.Cond.code ({ cls := "com/example/subsumer/subsumer/DependencySet", name := "of", desc := "(I)Lcom/example/subsumer/subsumer/DependencySet;" } : Jvm.MethodName) prog_10_method_2_code (1 : Nat) (Option.some (Jvm.ClassFile.FieldType.object "com/example/subsumer/subsumer/DependencySet"))).before args0 about1 = true := code_word (m := ⟨2, 1⟩) (meth := k2m1) (c := k2c1) (by decide +kernel) rfl rfl rfl (by decide +kernel)
set_option maxRecDepth 65536 in
theorem w_c2 : (Jvm.Cond.code ({ cls := "com/example/subsumer/subsumer/DependencySet", name := "<init>", desc := "([I)V" } : Jvm.MethodName) prog_10_method_1_code (2 : Nat) (Option.none : Option Jvm.ClassFile.FieldType)).before args0 about1 = true := code_word (m := ⟨2, 0⟩) (meth := k2m0) (c := k2c0) (by decide +kernel) rfl rfl rfl (by decide +kernel)
set_option maxRecDepth 65536 in
theorem w_c3 : (Jvm.Cond.code ({ cls := "java/lang/Object", name := "<init>", desc := "()V" } : Jvm.MethodName) object_method_1_code (1 : Nat) (Option.none : Option Jvm.ClassFile.FieldType)).before args0 about1 = true := code_word (m := ⟨0, 0⟩) (meth := k0m0) (c := k0c0) (by decide +kernel) rfl rfl rfl (by decide +kernel)
set_option maxRecDepth 65536 in
theorem w_c4 : (Jvm.Cond.code ({ cls := "com/example/subsumer/subsumer/DependencySet", name := "isEmpty", desc := "()Z" } : Jvm.MethodName) prog_10_method_3_code (1 : Nat) (Option.some Jvm.ClassFile.FieldType.boolean)).before args0 about1 = true := code_word (m := ⟨2, 2⟩) (meth := k2m2) (c := k2c2) (by decide +kernel) rfl rfl rfl (by decide +kernel)
set_option maxRecDepth 65536 in
theorem w_c5 : (Jvm.Cond.code ({ cls := "com/example/subsumer/subsumer/DependencySet", name := "max", desc := "()I" } : Jvm.MethodName) prog_10_method_4_code (1 : Nat) (Option.some Jvm.ClassFile.FieldType.int)).before args0 about1 = true := code_word (m := ⟨2, 3⟩) (meth := k2m3) (c := k2c3) (by decide +kernel) rfl rfl rfl (by decide +kernel)
set_option maxRecDepth 65536 in
theorem w_c6 : (Jvm.Cond.code ({ cls := "com/example/subsumer/subsumer/DependencySet", name := "without", desc := "(I)Lcom/example/subsumer/subsumer/DependencySet;" } : Jvm.MethodName) prog_10_method_6_code (5 : Nat) (Option.some (Jvm.ClassFile.FieldType.object "com/example/subsumer/subsumer/DependencySet"))).before args0 about1 = true := code_word (m := ⟨2, 4⟩) (meth := k2m4) (c := k2c4) (by decide +kernel) rfl rfl rfl (by decide +kernel)
set_option maxRecDepth 65536 in
theorem w_c7 : (Jvm.Cond.code ({ cls := "java/util/Arrays", name := "binarySearch", desc := "([II)I" } : Jvm.MethodName) jdk_65_method_57_code (2 : Nat) (Option.some Jvm.ClassFile.FieldType.int)).before args0 about1 = true := code_word (m := ⟨3, 1⟩) (meth := k3m1) (c := k3c1) (by decide +kernel) rfl rfl rfl (by decide +kernel)
set_option maxRecDepth 65536 in
theorem w_c8 : (Jvm.Cond.code ({ cls := "java/util/Arrays", name := "binarySearch0", desc := "([IIII)I" } : Jvm.MethodName) jdk_65_method_59_code (8 : Nat) (Option.some Jvm.ClassFile.FieldType.int)).before args0 about1 = true := code_word (m := ⟨3, 2⟩) (meth := k3m2) (c := k3c2) (by decide +kernel) rfl rfl rfl (by decide +kernel)
def codes1 : List Jvm.Cond := [Jvm.Cond.code x code maxLocals ret, Jvm.Cond.code ({ cls := "com/example/subsumer/subsumer/DependencySet", name := "of", desc := "(I)Lcom/example/subsumer/subsumer/DependencySet;" } : Jvm.MethodName) prog_10_method_2_code (1 : Nat) (Option.some (Jvm.ClassFile.FieldType.object "com/example/subsumer/subsumer/DependencySet")), Jvm.Cond.code ({ cls := "com/example/subsumer/subsumer/DependencySet", name := "<init>", desc := "([I)V" } : Jvm.MethodName) prog_10_method_1_code (2 : Nat) (Option.none : Option Jvm.ClassFile.FieldType), Jvm.Cond.code ({ cls := "java/lang/Object", name := "<init>", desc := "()V" } : Jvm.MethodName) object_method_1_code (1 : Nat) (Option.none : Option Jvm.ClassFile.FieldType), Jvm.Cond.code ({ cls := "com/example/subsumer/subsumer/DependencySet", name := "isEmpty", desc := "()Z" } : Jvm.MethodName) prog_10_method_3_code (1 : Nat) (Option.some Jvm.ClassFile.FieldType.boolean), Jvm.Cond.code ({ cls := "com/example/subsumer/subsumer/DependencySet", name := "max", desc := "()I" } : Jvm.MethodName) prog_10_method_4_code (1 : Nat) (Option.some Jvm.ClassFile.FieldType.int), Jvm.Cond.code ({ cls := "com/example/subsumer/subsumer/DependencySet", name := "without", desc := "(I)Lcom/example/subsumer/subsumer/DependencySet;" } : Jvm.MethodName) prog_10_method_6_code (5 : Nat) (Option.some (Jvm.ClassFile.FieldType.object "com/example/subsumer/subsumer/DependencySet")), Jvm.Cond.code ({ cls := "java/util/Arrays", name := "binarySearch", desc := "([II)I" } : Jvm.MethodName) jdk_65_method_57_code (2 : Nat) (Option.some Jvm.ClassFile.FieldType.int), Jvm.Cond.code ({ cls := "java/util/Arrays", name := "binarySearch0", desc := "([IIII)I" } : Jvm.MethodName) jdk_65_method_59_code (8 : Nat) (Option.some Jvm.ClassFile.FieldType.int)]
set_option maxRecDepth 65536 in
theorem codes_eq : words1.filter isCode = codes1 := rfl
theorem w_codes : ∀ c ∈ words1.filter isCode, c.before args0 about1 = true := by
  rw [codes_eq]
  intro c hc
  simp only [codes1, List.mem_cons, List.not_mem_nil, or_false] at hc
  rcases hc with rfl | rfl | rfl | rfl | rfl | rfl | rfl | rfl | rfl
  · exact w_c0
  · exact w_c1
  · exact w_c2
  · exact w_c3
  · exact w_c4
  · exact w_c5
  · exact w_c6
  · exact w_c7
  · exact w_c8
set_option maxRecDepth 65536 in
theorem w_t1 : (words1.take 24).all (fun c => isCode c || c.before args0 about1) = true := by decide +kernel
set_option maxRecDepth 65536 in
theorem w_t2 : (words1.drop 24).all (fun c => isCode c || c.before args0 about1) = true := by decide +kernel
theorem w_tables : (allAtoms (Jvm.Cond.code x code maxLocals ret :: tables_1)).before args0 about1 = true := by
  rw [allAtoms_all]
  show words1.all (fun c => c.before args0 about1) = true
  refine all_split ?_ w_codes
  rw [← List.take_append_drop 24 words1, List.all_append, w_t1, w_t2]
  rfl
set_option maxRecDepth 65536 in
theorem w_case : (Jvm.Cond.and given_1 narrow_1).before args0 about1 = true := by decide +kernel
theorem w_applies : (headSpec (Jvm.Cond.code x code maxLocals ret :: tables_1) room_1).applies x e0.platform about1 = true :=
  (Spec.applies_iff w_frames).mpr ⟨w_running, w_runnable, w_alone, w_named, w_hears, w_ripe, w_room, w_tables⟩
theorem atStart : AtStart classFile x code maxLocals ret World_1 tables_1 room_1 Calls_1 rest_1 Pre_1 launch0 p0 e0 about1 theMethod args0 below0 :=
  ⟨lists_1, trivial, launch0.admits_env _ _ _, launch0.least_env, fairChoices_fair.cas, fairChoices_fair.clock, w_frames, w_args, w_heap, w_applies, trivial, trivial, w_case⟩
end start1
theorem witness_1 : WitnessClaimed_1 := ⟨start1.p0, start1.e0, start1.about1, start1.theMethod, start1.args0, start1.below0, start1.atStart⟩
end Jvm.Pilot.@@N@@
