import JvmDerived
import JvmDerived.Pilot.@@N@@Statement
import JvmDerived.Pilot.@@N@@Code
set_option linter.unusedVariables false
set_option linter.unusedSimpArgs false
@@BLOCK:NumsL.lean.txt@@
namespace Jvm.Pilot.@@N@@
open Jvm Jvm.ClassFile Sem Op Lib Jvm.Free Jvm.Stand Jvm.LawKit Jvm.RoadKit Bundle Jvm.Pilot.@@N@@.Jvm.D
theorem own_mvMN {Z s : State} {a0 args : Array Value} {own host : String} {index : Nat} {y : MethodName} (hZ : Z.Warmed39 s.vm) (w : (Jvm.Cond.methodLinkNest own index y host).before a0 Z = true) : (Jvm.Cond.methodLinkNest own index y host).before args s = true := (Cond.methodLinkNest_wide hZ w :)
theorem own_selP {Z s : State} {a0 args : Array Value} {y : MethodName} {n : Nat} (hZ : Z.Warmed39 s.vm) (wi : (Jvm.Cond.instantiable y.cls n).before a0 Z = true) (wp : (Jvm.Cond.privateMethod y).before a0 Z = true) (wm : (Jvm.Cond.instanceMethod y).before a0 Z = true) (hy : y.cls ≠ "java/lang/invoke/MethodHandle" ∧ y.cls ≠ "java/lang/invoke/VarHandle") : (Jvm.Cond.selects y.cls y y).before args s = true := by
  obtain ⟨c, k, h1, h2, -, h4, -⟩ := Cond.instantiable_spec (mvT (args := args) hZ wi)
  exact selects_self_of_private h1 h2 (by cases hh : k.isInterface <;> simp [hh] at h4 ⊢) (Cond.privateMethod_at (mvP hZ wp (args := #[]))) (mvT hZ wm) hy
theorem own_szO {Z : State} {n0 : Nat} {h : Heap} (O : Old Z n0 h) : n0 ≤ h.size := O.1 ▸ O.2.1
theorem pn_0 : plainName "com/example/serialpoint/serialpoint/AlgorithmWithPinLaw" = true := by first | (simp [plainName, overriddenIn]; done) | decide +kernel
theorem pn_1 : plainName "com/example/serialpoint/serialpoint/Algorithm" = true := by first | (simp [plainName, overriddenIn]; done) | decide +kernel
theorem pd_0 : parseMethodDescriptor "(I)Lcom/example/serialpoint/serialpoint/Algorithm;" = some ⟨[.int], some (.object "com/example/serialpoint/serialpoint/Algorithm")⟩ := by decide +kernel
theorem pd_1 : parseMethodDescriptor "(II)I" = some ⟨[.int, .int], some .int⟩ := by decide +kernel
theorem pd_2 : parseMethodDescriptor "(Lcom/example/serialpoint/serialpoint/Algorithm;)Lcom/example/serialpoint/serialpoint/Algorithm;" = some ⟨[(.object "com/example/serialpoint/serialpoint/Algorithm")], some (.object "com/example/serialpoint/serialpoint/Algorithm")⟩ := by decide +kernel
theorem d_jdk_29_method_65_0 : decode jdk_29_method_65_code 0 = .ok (.iload_n 0, 1) := by decide +kernel
theorem d_jdk_29_method_65_1 : decode jdk_29_method_65_code 1 = .ok (.iload_n 1, 1) := by decide +kernel
theorem d_jdk_29_method_65_2 : decode jdk_29_method_65_code 2 = .ok (.if_icmp .lt 7, 3) := by decide +kernel
theorem d_jdk_29_method_65_5 : decode jdk_29_method_65_code 5 = .ok (.iload_n 0, 1) := by decide +kernel
theorem d_jdk_29_method_65_6 : decode jdk_29_method_65_code 6 = .ok (.goto 4, 3) := by decide +kernel
theorem d_jdk_29_method_65_9 : decode jdk_29_method_65_code 9 = .ok (.iload_n 1, 1) := by decide +kernel
theorem d_jdk_29_method_65_10 : decode jdk_29_method_65_code 10 = .ok (.ireturn, 1) := by decide +kernel
theorem d_method_3_0 : decode method_3_code 0 = .ok (.iload_n 0, 1) := by decide +kernel
theorem d_method_3_1 : decode method_3_code 1 = .ok (.ifCond .ne 7, 3) := by decide +kernel
theorem d_method_3_4 : decode method_3_code 4 = .ok (.getstatic 29, 3) := by decide +kernel
theorem d_method_3_7 : decode method_3_code 7 = .ok (.areturn, 1) := by decide +kernel
theorem d_method_3_8 : decode method_3_code 8 = .ok (.iload_n 0, 1) := by decide +kernel
theorem d_method_3_9 : decode method_3_code 9 = .ok (.iconst 1, 1) := by decide +kernel
theorem d_method_3_10 : decode method_3_code 10 = .ok (.if_icmp .ne 7, 3) := by decide +kernel
theorem d_method_3_13 : decode method_3_code 13 = .ok (.getstatic 33, 3) := by decide +kernel
theorem d_method_3_16 : decode method_3_code 16 = .ok (.areturn, 1) := by decide +kernel
theorem d_method_3_17 : decode method_3_code 17 = .ok (.iload_n 0, 1) := by decide +kernel
theorem d_method_3_18 : decode method_3_code 18 = .ok (.iconst 2, 1) := by decide +kernel
theorem d_method_3_19 : decode method_3_code 19 = .ok (.if_icmp .ne 7, 3) := by decide +kernel
theorem d_method_3_22 : decode method_3_code 22 = .ok (.getstatic 36, 3) := by decide +kernel
theorem d_method_3_25 : decode method_3_code 25 = .ok (.areturn, 1) := by decide +kernel
theorem d_method_3_26 : decode method_3_code 26 = .ok (.iload_n 0, 1) := by decide +kernel
theorem d_method_3_27 : decode method_3_code 27 = .ok (.iconst 3, 1) := by decide +kernel
theorem d_method_3_28 : decode method_3_code 28 = .ok (.if_icmp .ne 7, 3) := by decide +kernel
theorem d_method_3_31 : decode method_3_code 31 = .ok (.getstatic 39, 3) := by decide +kernel
theorem d_method_3_34 : decode method_3_code 34 = .ok (.areturn, 1) := by decide +kernel
theorem d_method_3_35 : decode method_3_code 35 = .ok (.iload_n 0, 1) := by decide +kernel
theorem d_method_3_36 : decode method_3_code 36 = .ok (.iconst 4, 1) := by decide +kernel
theorem d_method_3_37 : decode method_3_code 37 = .ok (.if_icmp .ne 7, 3) := by decide +kernel
theorem d_method_3_40 : decode method_3_code 40 = .ok (.getstatic 42, 3) := by decide +kernel
theorem d_method_3_43 : decode method_3_code 43 = .ok (.areturn, 1) := by decide +kernel
theorem d_method_3_44 : decode method_3_code 44 = .ok (.getstatic 45, 3) := by decide +kernel
theorem d_method_3_47 : decode method_3_code 47 = .ok (.areturn, 1) := by decide +kernel
theorem d_method_4_0 : decode method_4_code 0 = .ok (.iload_n 0, 1) := by decide +kernel
theorem d_method_4_1 : decode method_4_code 1 = .ok (.iconst 4, 1) := by decide +kernel
theorem d_method_4_2 : decode method_4_code 2 = .ok (.if_icmp .ne 7, 3) := by decide +kernel
theorem d_method_4_5 : decode method_4_code 5 = .ok (.getstatic 33, 3) := by decide +kernel
theorem d_method_4_8 : decode method_4_code 8 = .ok (.areturn, 1) := by decide +kernel
theorem d_method_4_9 : decode method_4_code 9 = .ok (.iload_n 0, 1) := by decide +kernel
theorem d_method_4_10 : decode method_4_code 10 = .ok (.iconst 3, 1) := by decide +kernel
theorem d_method_4_11 : decode method_4_code 11 = .ok (.if_icmp .ne 7, 3) := by decide +kernel
theorem d_method_4_14 : decode method_4_code 14 = .ok (.getstatic 39, 3) := by decide +kernel
theorem d_method_4_17 : decode method_4_code 17 = .ok (.areturn, 1) := by decide +kernel
theorem d_method_4_18 : decode method_4_code 18 = .ok (.iload_n 0, 1) := by decide +kernel
theorem d_method_4_19 : decode method_4_code 19 = .ok (.iconst 2, 1) := by decide +kernel
theorem d_method_4_20 : decode method_4_code 20 = .ok (.if_icmp .ne 7, 3) := by decide +kernel
theorem d_method_4_23 : decode method_4_code 23 = .ok (.getstatic 45, 3) := by decide +kernel
theorem d_method_4_26 : decode method_4_code 26 = .ok (.areturn, 1) := by decide +kernel
theorem d_method_4_27 : decode method_4_code 27 = .ok (.iload_n 0, 1) := by decide +kernel
theorem d_method_4_28 : decode method_4_code 28 = .ok (.iconst 1, 1) := by decide +kernel
theorem d_method_4_29 : decode method_4_code 29 = .ok (.if_icmp .ne 7, 3) := by decide +kernel
theorem d_method_4_32 : decode method_4_code 32 = .ok (.getstatic 42, 3) := by decide +kernel
theorem d_method_4_35 : decode method_4_code 35 = .ok (.areturn, 1) := by decide +kernel
theorem d_method_4_36 : decode method_4_code 36 = .ok (.getstatic 36, 3) := by decide +kernel
theorem d_method_4_39 : decode method_4_code 39 = .ok (.areturn, 1) := by decide +kernel
theorem d_prog_4_method_13_0 : decode prog_4_method_13_code 0 = .ok (.aload_n 0, 1) := by decide +kernel
theorem d_prog_4_method_13_1 : decode prog_4_method_13_code 1 = .ok (.getstatic 7, 3) := by decide +kernel
theorem d_prog_4_method_13_4 : decode prog_4_method_13_code 4 = .ok (.if_acmp .eq 10, 3) := by decide +kernel
theorem d_prog_4_method_13_7 : decode prog_4_method_13_code 7 = .ok (.aload_n 1, 1) := by decide +kernel
theorem d_prog_4_method_13_8 : decode prog_4_method_13_code 8 = .ok (.getstatic 7, 3) := by decide +kernel
theorem d_prog_4_method_13_11 : decode prog_4_method_13_code 11 = .ok (.if_acmp .ne 10, 3) := by decide +kernel
theorem d_prog_4_method_13_14 : decode prog_4_method_13_code 14 = .ok (.getstatic 7, 3) := by decide +kernel
theorem d_prog_4_method_13_17 : decode prog_4_method_13_code 17 = .ok (.astore_n 2, 1) := by decide +kernel
theorem d_prog_4_method_13_18 : decode prog_4_method_13_code 18 = .ok (.goto 70, 3) := by decide +kernel
theorem d_prog_4_method_13_21 : decode prog_4_method_13_code 21 = .ok (.aload_n 0, 1) := by decide +kernel
theorem d_prog_4_method_13_22 : decode prog_4_method_13_code 22 = .ok (.getstatic 13, 3) := by decide +kernel
theorem d_prog_4_method_13_25 : decode prog_4_method_13_code 25 = .ok (.if_acmp .eq 10, 3) := by decide +kernel
theorem d_prog_4_method_13_28 : decode prog_4_method_13_code 28 = .ok (.aload_n 1, 1) := by decide +kernel
theorem d_prog_4_method_13_29 : decode prog_4_method_13_code 29 = .ok (.getstatic 13, 3) := by decide +kernel
theorem d_prog_4_method_13_32 : decode prog_4_method_13_code 32 = .ok (.if_acmp .ne 10, 3) := by decide +kernel
theorem d_prog_4_method_13_35 : decode prog_4_method_13_code 35 = .ok (.getstatic 13, 3) := by decide +kernel
theorem d_prog_4_method_13_38 : decode prog_4_method_13_code 38 = .ok (.astore_n 2, 1) := by decide +kernel
theorem d_prog_4_method_13_39 : decode prog_4_method_13_code 39 = .ok (.goto 49, 3) := by decide +kernel
theorem d_prog_4_method_13_42 : decode prog_4_method_13_code 42 = .ok (.aload_n 0, 1) := by decide +kernel
theorem d_prog_4_method_13_43 : decode prog_4_method_13_code 43 = .ok (.getstatic 19, 3) := by decide +kernel
theorem d_prog_4_method_13_46 : decode prog_4_method_13_code 46 = .ok (.if_acmp .eq 10, 3) := by decide +kernel
theorem d_prog_4_method_13_49 : decode prog_4_method_13_code 49 = .ok (.aload_n 1, 1) := by decide +kernel
theorem d_prog_4_method_13_50 : decode prog_4_method_13_code 50 = .ok (.getstatic 19, 3) := by decide +kernel
theorem d_prog_4_method_13_53 : decode prog_4_method_13_code 53 = .ok (.if_acmp .ne 10, 3) := by decide +kernel
theorem d_prog_4_method_13_56 : decode prog_4_method_13_code 56 = .ok (.getstatic 19, 3) := by decide +kernel
theorem d_prog_4_method_13_59 : decode prog_4_method_13_code 59 = .ok (.astore_n 2, 1) := by decide +kernel
theorem d_prog_4_method_13_60 : decode prog_4_method_13_code 60 = .ok (.goto 28, 3) := by decide +kernel
theorem d_prog_4_method_13_63 : decode prog_4_method_13_code 63 = .ok (.aload_n 0, 1) := by decide +kernel
theorem d_prog_4_method_13_64 : decode prog_4_method_13_code 64 = .ok (.getstatic 16, 3) := by decide +kernel
theorem d_prog_4_method_13_67 : decode prog_4_method_13_code 67 = .ok (.if_acmp .eq 10, 3) := by decide +kernel
theorem d_prog_4_method_13_70 : decode prog_4_method_13_code 70 = .ok (.aload_n 1, 1) := by decide +kernel
theorem d_prog_4_method_13_71 : decode prog_4_method_13_code 71 = .ok (.getstatic 16, 3) := by decide +kernel
theorem d_prog_4_method_13_74 : decode prog_4_method_13_code 74 = .ok (.if_acmp .ne 10, 3) := by decide +kernel
theorem d_prog_4_method_13_77 : decode prog_4_method_13_code 77 = .ok (.getstatic 16, 3) := by decide +kernel
theorem d_prog_4_method_13_80 : decode prog_4_method_13_code 80 = .ok (.astore_n 2, 1) := by decide +kernel
theorem d_prog_4_method_13_81 : decode prog_4_method_13_code 81 = .ok (.goto 7, 3) := by decide +kernel
theorem d_prog_4_method_13_84 : decode prog_4_method_13_code 84 = .ok (.getstatic 10, 3) := by decide +kernel
theorem d_prog_4_method_13_87 : decode prog_4_method_13_code 87 = .ok (.astore_n 2, 1) := by decide +kernel
theorem d_prog_4_method_13_88 : decode prog_4_method_13_code 88 = .ok (.aload_n 2, 1) := by decide +kernel
theorem d_prog_4_method_13_89 : decode prog_4_method_13_code 89 = .ok (.areturn, 1) := by decide +kernel
def own_pick (p : Int32) (aA aS aW aD aL aR : Addr) : Addr := if p = 0 then aA else if p = 1 then aS else if p = 2 then aW else if p = 3 then aD else if p = 4 then aL else aR
def own_of (p : Int32) (aA aS aW aD aL aR : Addr) : Addr := if p = 4 then aS else if p = 3 then aD else if p = 2 then aR else if p = 1 then aL else aW
def own_with (x y : Addr) (aA aS aW aD aL aR : Addr) : Addr := if x = aS ∨ y = aS then aS else if x = aD ∨ y = aD then aD else if x = aR ∨ y = aR then aR else if x = aL ∨ y = aL then aL else aW
def own_max (p q : Int32) : Int32 := if p < q then q else p
def own_rank (p : Int32) : Int32 := [0, 4, 0, 3, 1, 2].getD p.toNatClampNeg 0
theorem own_getD (f : List Int32) (i : Nat) : (f.map Value.int).getD i (.int 0) = .int (f.getD i 0) := by
  simp only [List.getD_eq_getElem?_getD, List.getElem?_map]; cases f[i]? <;> rfl
theorem own_pickP {P : Addr → Prop} (p : Int32) {aA aS aW aD aL aR : Addr} (h1 : P aA) (h2 : P aS) (h3 : P aW) (h4 : P aD) (h5 : P aL) (h6 : P aR) : P (own_pick p aA aS aW aD aL aR) := by
  unfold own_pick
  repeat' split
  all_goals assumption
theorem own_mod6 (p : Int32) : ∃ n : Nat, n < 6 ∧ ((p &&& (2147483647 : Int32)) - ((p &&& (2147483647 : Int32)) / (6 : Int32)) * (6 : Int32)) = Int32.ofNat n := by
  have e : (p &&& 2147483647).toInt = p.toInt % 2 ^ 31 := Jvm.Kit.i32_mask p 2147483647 (k := 31) (by decide) (by decide)
  have r := rem_toInt (p &&& 2147483647) 6
  have h6 : (6 : Int32).toInt = 6 := by decide
  rw [h6] at r
  generalize (p &&& (2147483647 : Int32)) - ((p &&& (2147483647 : Int32)) / (6 : Int32)) * (6 : Int32) = q at *
  have r2 : q.toInt = (p &&& 2147483647).toInt % 6 := by rw [r]; exact Int.tmod_eq_emod_of_nonneg (by omega)
  refine ⟨q.toInt.toNat, by omega, Int32.toInt_inj.mp ?_⟩
  rw [Int32.toInt_ofNat_of_lt (by omega)]; omega
theorem own_in6 : ∀ n : Nat, n < 6 → ¬ (Int32.ofNat n) < 0 ∧ (Int32.ofNat n) < 6 := by decide +kernel
theorem own_final {aA aS aW aD aL aR : Addr} (h1 : aS ≠ aD) (h2 : aS ≠ aR) (h3 : aS ≠ aL) (h4 : aS ≠ aW) (h5 : aS ≠ aA) (h6 : aD ≠ aR) (h7 : aD ≠ aL) (h8 : aD ≠ aW) (h9 : aD ≠ aA) (h10 : aR ≠ aL) (h11 : aR ≠ aW) (h12 : aR ≠ aA) (h13 : aL ≠ aW) (h14 : aL ≠ aA) (n k : Nat) (hn : n < 6) (hk : k < 6) :
    own_with (own_pick (Int32.ofNat n) aA aS aW aD aL aR) (own_pick (Int32.ofNat k) aA aS aW aD aL aR) aA aS aW aD aL aR = own_of (own_max (own_rank (Int32.ofNat n)) (own_rank (Int32.ofNat k))) aA aS aW aD aL aR := by
  have p0 : own_pick (Int32.ofNat 0) aA aS aW aD aL aR = aA := rfl
  have p1 : own_pick (Int32.ofNat 1) aA aS aW aD aL aR = aS := rfl
  have p2 : own_pick (Int32.ofNat 2) aA aS aW aD aL aR = aW := rfl
  have p3 : own_pick (Int32.ofNat 3) aA aS aW aD aL aR = aD := rfl
  have p4 : own_pick (Int32.ofNat 4) aA aS aW aD aL aR = aL := rfl
  have p5 : own_pick (Int32.ofNat 5) aA aS aW aD aL aR = aR := rfl
  have o0 : own_of 0 aA aS aW aD aL aR = aW := rfl
  have o1 : own_of 1 aA aS aW aD aL aR = aL := rfl
  have o2 : own_of 2 aA aS aW aD aL aR = aR := rfl
  have o3 : own_of 3 aA aS aW aD aL aR = aD := rfl
  have o4 : own_of 4 aA aS aW aD aL aR = aS := rfl
  have r0 : own_rank (Int32.ofNat 0) = 0 := by decide
  have r1 : own_rank (Int32.ofNat 1) = 4 := by decide
  have r2 : own_rank (Int32.ofNat 2) = 0 := by decide
  have r3 : own_rank (Int32.ofNat 3) = 3 := by decide
  have r4 : own_rank (Int32.ofNat 4) = 1 := by decide
  have r5 : own_rank (Int32.ofNat 5) = 2 := by decide
  have m00 : own_max 0 0 = 0 := by decide
  have m01 : own_max 0 1 = 1 := by decide
  have m02 : own_max 0 2 = 2 := by decide
  have m03 : own_max 0 3 = 3 := by decide
  have m04 : own_max 0 4 = 4 := by decide
  have m10 : own_max 1 0 = 1 := by decide
  have m11 : own_max 1 1 = 1 := by decide
  have m12 : own_max 1 2 = 2 := by decide
  have m13 : own_max 1 3 = 3 := by decide
  have m14 : own_max 1 4 = 4 := by decide
  have m20 : own_max 2 0 = 2 := by decide
  have m21 : own_max 2 1 = 2 := by decide
  have m22 : own_max 2 2 = 2 := by decide
  have m23 : own_max 2 3 = 3 := by decide
  have m24 : own_max 2 4 = 4 := by decide
  have m30 : own_max 3 0 = 3 := by decide
  have m31 : own_max 3 1 = 3 := by decide
  have m32 : own_max 3 2 = 3 := by decide
  have m33 : own_max 3 3 = 3 := by decide
  have m34 : own_max 3 4 = 4 := by decide
  have m40 : own_max 4 0 = 4 := by decide
  have m41 : own_max 4 1 = 4 := by decide
  have m42 : own_max 4 2 = 4 := by decide
  have m43 : own_max 4 3 = 4 := by decide
  have m44 : own_max 4 4 = 4 := by decide
  have cn : n = 0 ∨ n = 1 ∨ n = 2 ∨ n = 3 ∨ n = 4 ∨ n = 5 := by omega
  have ck : k = 0 ∨ k = 1 ∨ k = 2 ∨ k = 3 ∨ k = 4 ∨ k = 5 := by omega
  rcases cn with rfl | rfl | rfl | rfl | rfl | rfl <;> rcases ck with rfl | rfl | rfl | rfl | rfl | rfl <;>
    simp only [p0, p1, p2, p3, p4, p5, r0, r1, r2, r3, r4, r5, m00, m01, m02, m03, m04, m10, m11, m12, m13, m14, m20, m21, m22, m23, m24, m30, m31, m32, m33, m34, m40, m41, m42, m43, m44, o0, o1, o2, o3, o4] <;>
    simp [own_with, h1, h2, h3, h4, h5, h6, h7, h8, h9, h10, h11, h12, h13, h14, h1.symm, h2.symm, h3.symm, h4.symm, h5.symm, h6.symm, h7.symm, h8.symm, h9.symm, h10.symm, h11.symm, h12.symm, h13.symm, h14.symm]
theorem ef_pick (m : MethodId) (p1 : Int32) : entryFrame m #[(.int p1)] 1 = mkF m 0 #[.val (.int p1)] [] := by first | (simp [entryFrame, mkF, argsToLocals, Value.category]; done) | rfl
def Q_pick (Z : State) (p1 : Int32) (aA : Addr) (aS : Addr) (aW : Addr) (aD : Addr) (aL : Addr) (aR : Addr) (h0 : Heap) (n0 : Nat) (v : Option Value) (h : Heap) (L : List Loc) : Prop := v = some (.ref (own_pick p1 aA aS aW aD aL aR)) ∧ Fr n0 L ∧ h = h0
set_option maxRecDepth 65536 in
set_option maxHeartbeats 40000000 in
theorem rm_pick (l : Launch) (Z : State) (a0 : Array Value) (hw : ∀ d ∈ tables_1, d.before a0 Z = true) (ws : List Jvm.Cond) (p1 : Int32) (aA : Addr) (aS : Addr) (aW : Addr) (aD : Addr) (aL : Addr) (aR : Addr) (h0 : Heap) (n0 : Nat) (O0 : Old Z n0 h0) (SaA : Sta Z Z.heap "com/example/serialpoint/serialpoint/Algorithm" "AUTO" "Lcom/example/serialpoint/serialpoint/Algorithm;" (.ref aA)) (SaS : Sta Z Z.heap "com/example/serialpoint/serialpoint/Algorithm" "SEARCH" "Lcom/example/serialpoint/serialpoint/Algorithm;" (.ref aS)) (SaW : Sta Z Z.heap "com/example/serialpoint/serialpoint/Algorithm" "SINGLE_WRITER" "Lcom/example/serialpoint/serialpoint/Algorithm;" (.ref aW)) (SaD : Sta Z Z.heap "com/example/serialpoint/serialpoint/Algorithm" "DISTINCT_VALUES" "Lcom/example/serialpoint/serialpoint/Algorithm;" (.ref aD)) (SaL : Sta Z Z.heap "com/example/serialpoint/serialpoint/Algorithm" "LIST_APPEND" "Lcom/example/serialpoint/serialpoint/Algorithm;" (.ref aL)) (SaR : Sta Z Z.heap "com/example/serialpoint/serialpoint/Algorithm" "RW_REGISTER" "Lcom/example/serialpoint/serialpoint/Algorithm;" (.ref aR)) :
    MetFree l (⟨"com/example/serialpoint/serialpoint/AlgorithmWithPinLaw", "pick", "(I)Lcom/example/serialpoint/serialpoint/Algorithm;"⟩ : MethodName) (head1 (Jvm.Cond.code (⟨"com/example/serialpoint/serialpoint/AlgorithmWithPinLaw", "pick", "(I)Lcom/example/serialpoint/serialpoint/Algorithm;"⟩ : MethodName) method_3_code 1 (some (.object "com/example/serialpoint/serialpoint/Algorithm")) :: ws) ({ frames := 0, cells := 0, slots := 0, locals := 0 } : Room)) (fun a U => a = #[(.int p1)] ∧ Z.Warmed39 U.vm ∧ U.heap = h0) (fun _ _ _ _ _ => True) (fun _ U o U' => ∃ v L, o = .returned v ∧ Q_pick Z p1 aA aS aW aD aL aR h0 n0 v U'.heap L ∧ FrameEnd U o U' L ({ frames := 0, cells := 0, slots := 0, locals := 0 } : Room).cells ({ frames := 0, cells := 0, slots := 0, locals := 0 } : Room).slots) := by
  refine MetFree.of_bodySF (plainFor_of_name pn_0) hisR ?_
  intro p e s m args below meth c s₁ Bd hml0 hP hK
  obtain ⟨rfl, hZ, hh⟩ := hP
  have hx := Bd.exec
  have hby := Bd.bytes
  have hml : c.maxLocals = 1 := hml0
  have hown : s.vm.findClass "com/example/serialpoint/serialpoint/AlgorithmWithPinLaw" = some m.cls := findClass_of_methodNamed Bd.named
  have hnm := (name_of_methodNamed Bd.named Bd.method).1
  have X0 : Stand p l e ({ frames := 0, cells := 0, slots := 0, locals := 0 } : Room) s m #[(.int p1)] below meth c s₁ [] 0 0 := Stand.of_body Bd
  have e0 : s₁.heap = h0 := by rw [← hh, Bd.state]; rfl
  have N0 := Fr.nil n0
  have pre0 : ∀ t, Steps p.tables e below (s₁.setTop (mkF m 0 #[.val (.int p1)] [])) t → Steps p.tables e below (s₁.setTop (entryFrame m #[(.int p1)] 1)) t := fun t k => castTop (ef_pick m p1) k
  have pre101 : ∀ t, Steps p.tables e below (s₁.setTop (mkF m 1 #[.val (.int p1)] [(.int p1)])) t → Steps p.tables e below (s₁.setTop (entryFrame m #[(.int p1)] 1)) t := fun t kk => pre0 t (by
      show Steps p.tables e below (s₁.setTop (mkF m 0 #[.val (.int p1)] [])) _
      refine XS.iloadN X0.here hx rfl (hb hby d_method_3_0) rfl ?_
      show Steps p.tables e below (s₁.setTop (mkF m 1 #[.val (.int p1)] [(.int p1)])) _
      exact kk)
  by_cases hc102 : p1 = (0 : Int32)
  · obtain ⟨T103, X103, e103, st103⟩ := getS2 X0 hx hZ hown (host := "") (Or.inl (hw _ (List.mem_of_getElem? (i := 6) rfl))) Via.refl e0 (SaA.ext O0.2) (g := (mkF m 4 #[.val (.int p1)] [])) rfl (hb hby d_method_3_4)
    obtain ⟨fs, hr, hrun, hended, hW, hsame⟩ := X103.leave (v := some (.ref aA)) (fun h => by rw [Bd.returns] at h; cases h)
    refine ⟨_, _, pre101 _ ?_, hrun, hended, _, _, rfl, ?_, ⟨_, rfl⟩, hW, hsame.mono (by decide) (by decide)⟩
    · refine XS.ifNo X0.here hx rfl (hb hby d_method_3_1) rfl ((if0 _ _).trans (teq hc102).2) ?_
      show Steps p.tables e below (s₁.setTop (mkF m 4 #[.val (.int p1)] [])) _
      refine st103 _ ?_
      show Steps p.tables e below (T103.setTop (mkF m 7 #[.val (.int p1)] [(.ref aA)])) _
      exact retOut X103 hx (t := (.object "com/example/serialpoint/serialpoint/Algorithm")) (i := .areturn) Bd.returns rfl (Or.inr (Or.inr (Or.inr (Or.inr ⟨rfl, rfl, rfl⟩)))) (hb hby d_method_3_7) hr
    · show Q_pick Z p1 aA aS aW aD aL aR h0 n0 _ T103.heap _
      rw [e103]
      exact ⟨(by simp [own_pick, eq_true hc102]), N0, rfl⟩
  · have pre104 : ∀ t, Steps p.tables e below (s₁.setTop (mkF m 10 #[.val (.int p1)] [(.int (1 : Int32)), (.int p1)])) t → Steps p.tables e below (s₁.setTop (entryFrame m #[(.int p1)] 1)) t := fun t kk => pre101 t (by
        refine XS.ifYes X0.here hx rfl (pc0 := 1) (pc' := 8) rfl (hb hby d_method_3_1) rfl ((if0 _ _).trans (feq hc102).2) (by decide) (by decide) ?_
        refine XS.iloadN X0.here hx rfl (hb hby d_method_3_8) rfl ?_
        refine XS.iconst X0.here hx rfl (hb hby d_method_3_9) ?_
        show Steps p.tables e below (s₁.setTop (mkF m 10 #[.val (.int p1)] [(.int (1 : Int32)), (.int p1)])) _
        exact kk)
    by_cases hc105 : p1 = (1 : Int32)
    · obtain ⟨T106, X106, e106, st106⟩ := getS2 X0 hx hZ hown (host := "") (Or.inl (hw _ (List.mem_of_getElem? (i := 28) rfl))) Via.refl e0 (SaS.ext O0.2) (g := (mkF m 13 #[.val (.int p1)] [])) rfl (hb hby d_method_3_13)
      obtain ⟨fs, hr, hrun, hended, hW, hsame⟩ := X106.leave (v := some (.ref aS)) (fun h => by rw [Bd.returns] at h; cases h)
      refine ⟨_, _, pre104 _ ?_, hrun, hended, _, _, rfl, ?_, ⟨_, rfl⟩, hW, hsame.mono (by decide) (by decide)⟩
      · refine XS.icmpNo X0.here hx rfl (hb hby d_method_3_10) rfl (teq hc105).2 ?_
        show Steps p.tables e below (s₁.setTop (mkF m 13 #[.val (.int p1)] [])) _
        refine st106 _ ?_
        show Steps p.tables e below (T106.setTop (mkF m 16 #[.val (.int p1)] [(.ref aS)])) _
        exact retOut X106 hx (t := (.object "com/example/serialpoint/serialpoint/Algorithm")) (i := .areturn) Bd.returns rfl (Or.inr (Or.inr (Or.inr (Or.inr ⟨rfl, rfl, rfl⟩)))) (hb hby d_method_3_16) hr
      · show Q_pick Z p1 aA aS aW aD aL aR h0 n0 _ T106.heap _
        rw [e106]
        exact ⟨(by simp [own_pick, eq_false hc102, eq_true hc105]), N0, rfl⟩
    · have pre107 : ∀ t, Steps p.tables e below (s₁.setTop (mkF m 19 #[.val (.int p1)] [(.int (2 : Int32)), (.int p1)])) t → Steps p.tables e below (s₁.setTop (entryFrame m #[(.int p1)] 1)) t := fun t kk => pre104 t (by
          refine XS.icmpYes X0.here hx rfl (pc0 := 10) (pc' := 17) rfl (hb hby d_method_3_10) rfl (feq hc105).2 (by decide) (by decide) ?_
          refine XS.iloadN X0.here hx rfl (hb hby d_method_3_17) rfl ?_
          refine XS.iconst X0.here hx rfl (hb hby d_method_3_18) ?_
          show Steps p.tables e below (s₁.setTop (mkF m 19 #[.val (.int p1)] [(.int (2 : Int32)), (.int p1)])) _
          exact kk)
      by_cases hc108 : p1 = (2 : Int32)
      · obtain ⟨T109, X109, e109, st109⟩ := getS2 X0 hx hZ hown (host := "") (Or.inl (hw _ (List.mem_of_getElem? (i := 26) rfl))) Via.refl e0 (SaW.ext O0.2) (g := (mkF m 22 #[.val (.int p1)] [])) rfl (hb hby d_method_3_22)
        obtain ⟨fs, hr, hrun, hended, hW, hsame⟩ := X109.leave (v := some (.ref aW)) (fun h => by rw [Bd.returns] at h; cases h)
        refine ⟨_, _, pre107 _ ?_, hrun, hended, _, _, rfl, ?_, ⟨_, rfl⟩, hW, hsame.mono (by decide) (by decide)⟩
        · refine XS.icmpNo X0.here hx rfl (hb hby d_method_3_19) rfl (teq hc108).2 ?_
          show Steps p.tables e below (s₁.setTop (mkF m 22 #[.val (.int p1)] [])) _
          refine st109 _ ?_
          show Steps p.tables e below (T109.setTop (mkF m 25 #[.val (.int p1)] [(.ref aW)])) _
          exact retOut X109 hx (t := (.object "com/example/serialpoint/serialpoint/Algorithm")) (i := .areturn) Bd.returns rfl (Or.inr (Or.inr (Or.inr (Or.inr ⟨rfl, rfl, rfl⟩)))) (hb hby d_method_3_25) hr
        · show Q_pick Z p1 aA aS aW aD aL aR h0 n0 _ T109.heap _
          rw [e109]
          exact ⟨(by simp [own_pick, eq_false hc102, eq_false hc105, eq_true hc108]), N0, rfl⟩
      · have pre110 : ∀ t, Steps p.tables e below (s₁.setTop (mkF m 28 #[.val (.int p1)] [(.int (3 : Int32)), (.int p1)])) t → Steps p.tables e below (s₁.setTop (entryFrame m #[(.int p1)] 1)) t := fun t kk => pre107 t (by
            refine XS.icmpYes X0.here hx rfl (pc0 := 19) (pc' := 26) rfl (hb hby d_method_3_19) rfl (feq hc108).2 (by decide) (by decide) ?_
            refine XS.iloadN X0.here hx rfl (hb hby d_method_3_26) rfl ?_
            refine XS.iconst X0.here hx rfl (hb hby d_method_3_27) ?_
            show Steps p.tables e below (s₁.setTop (mkF m 28 #[.val (.int p1)] [(.int (3 : Int32)), (.int p1)])) _
            exact kk)
        by_cases hc111 : p1 = (3 : Int32)
        · obtain ⟨T112, X112, e112, st112⟩ := getS2 X0 hx hZ hown (host := "") (Or.inl (hw _ (List.mem_of_getElem? (i := 9) rfl))) Via.refl e0 (SaD.ext O0.2) (g := (mkF m 31 #[.val (.int p1)] [])) rfl (hb hby d_method_3_31)
          obtain ⟨fs, hr, hrun, hended, hW, hsame⟩ := X112.leave (v := some (.ref aD)) (fun h => by rw [Bd.returns] at h; cases h)
          refine ⟨_, _, pre110 _ ?_, hrun, hended, _, _, rfl, ?_, ⟨_, rfl⟩, hW, hsame.mono (by decide) (by decide)⟩
          · refine XS.icmpNo X0.here hx rfl (hb hby d_method_3_28) rfl (teq hc111).2 ?_
            show Steps p.tables e below (s₁.setTop (mkF m 31 #[.val (.int p1)] [])) _
            refine st112 _ ?_
            show Steps p.tables e below (T112.setTop (mkF m 34 #[.val (.int p1)] [(.ref aD)])) _
            exact retOut X112 hx (t := (.object "com/example/serialpoint/serialpoint/Algorithm")) (i := .areturn) Bd.returns rfl (Or.inr (Or.inr (Or.inr (Or.inr ⟨rfl, rfl, rfl⟩)))) (hb hby d_method_3_34) hr
          · show Q_pick Z p1 aA aS aW aD aL aR h0 n0 _ T112.heap _
            rw [e112]
            exact ⟨(by simp [own_pick, eq_false hc102, eq_false hc105, eq_false hc108, eq_true hc111]), N0, rfl⟩
        · have pre113 : ∀ t, Steps p.tables e below (s₁.setTop (mkF m 37 #[.val (.int p1)] [(.int (4 : Int32)), (.int p1)])) t → Steps p.tables e below (s₁.setTop (entryFrame m #[(.int p1)] 1)) t := fun t kk => pre110 t (by
              refine XS.icmpYes X0.here hx rfl (pc0 := 28) (pc' := 35) rfl (hb hby d_method_3_28) rfl (feq hc111).2 (by decide) (by decide) ?_
              refine XS.iloadN X0.here hx rfl (hb hby d_method_3_35) rfl ?_
              refine XS.iconst X0.here hx rfl (hb hby d_method_3_36) ?_
              show Steps p.tables e below (s₁.setTop (mkF m 37 #[.val (.int p1)] [(.int (4 : Int32)), (.int p1)])) _
              exact kk)
          by_cases hc114 : p1 = (4 : Int32)
          · obtain ⟨T115, X115, e115, st115⟩ := getS2 X0 hx hZ hown (host := "") (Or.inl (hw _ (List.mem_of_getElem? (i := 35) rfl))) Via.refl e0 (SaL.ext O0.2) (g := (mkF m 40 #[.val (.int p1)] [])) rfl (hb hby d_method_3_40)
            obtain ⟨fs, hr, hrun, hended, hW, hsame⟩ := X115.leave (v := some (.ref aL)) (fun h => by rw [Bd.returns] at h; cases h)
            refine ⟨_, _, pre113 _ ?_, hrun, hended, _, _, rfl, ?_, ⟨_, rfl⟩, hW, hsame.mono (by decide) (by decide)⟩
            · refine XS.icmpNo X0.here hx rfl (hb hby d_method_3_37) rfl (teq hc114).2 ?_
              show Steps p.tables e below (s₁.setTop (mkF m 40 #[.val (.int p1)] [])) _
              refine st115 _ ?_
              show Steps p.tables e below (T115.setTop (mkF m 43 #[.val (.int p1)] [(.ref aL)])) _
              exact retOut X115 hx (t := (.object "com/example/serialpoint/serialpoint/Algorithm")) (i := .areturn) Bd.returns rfl (Or.inr (Or.inr (Or.inr (Or.inr ⟨rfl, rfl, rfl⟩)))) (hb hby d_method_3_43) hr
            · show Q_pick Z p1 aA aS aW aD aL aR h0 n0 _ T115.heap _
              rw [e115]
              exact ⟨(by simp [own_pick, eq_false hc102, eq_false hc105, eq_false hc108, eq_false hc111, eq_true hc114]), N0, rfl⟩
          · obtain ⟨T116, X116, e116, st116⟩ := getS2 X0 hx hZ hown (host := "") (Or.inl (hw _ (List.mem_of_getElem? (i := 29) rfl))) Via.refl e0 (SaR.ext O0.2) (g := (mkF m 44 #[.val (.int p1)] [])) rfl (hb hby d_method_3_44)
            obtain ⟨fs, hr, hrun, hended, hW, hsame⟩ := X116.leave (v := some (.ref aR)) (fun h => by rw [Bd.returns] at h; cases h)
            refine ⟨_, _, pre113 _ ?_, hrun, hended, _, _, rfl, ?_, ⟨_, rfl⟩, hW, hsame.mono (by decide) (by decide)⟩
            · refine XS.icmpYes X0.here hx rfl (pc0 := 37) (pc' := 44) rfl (hb hby d_method_3_37) rfl (feq hc114).2 (by decide) (by decide) ?_
              show Steps p.tables e below (s₁.setTop (mkF m 44 #[.val (.int p1)] [])) _
              refine st116 _ ?_
              show Steps p.tables e below (T116.setTop (mkF m 47 #[.val (.int p1)] [(.ref aR)])) _
              exact retOut X116 hx (t := (.object "com/example/serialpoint/serialpoint/Algorithm")) (i := .areturn) Bd.returns rfl (Or.inr (Or.inr (Or.inr (Or.inr ⟨rfl, rfl, rfl⟩)))) (hb hby d_method_3_47) hr
            · show Q_pick Z p1 aA aS aW aD aL aR h0 n0 _ T116.heap _
              rw [e116]
              exact ⟨(by simp [own_pick, eq_false hc102, eq_false hc105, eq_false hc108, eq_false hc111, eq_false hc114]), N0, rfl⟩
theorem ef_ofr (m : MethodId) (p1 : Int32) : entryFrame m #[(.int p1)] 1 = mkF m 0 #[.val (.int p1)] [] := by first | (simp [entryFrame, mkF, argsToLocals, Value.category]; done) | rfl
def Q_ofr (Z : State) (p1 : Int32) (aA : Addr) (aS : Addr) (aW : Addr) (aD : Addr) (aL : Addr) (aR : Addr) (h0 : Heap) (n0 : Nat) (v : Option Value) (h : Heap) (L : List Loc) : Prop := v = some (.ref (own_of p1 aA aS aW aD aL aR)) ∧ Fr n0 L ∧ h = h0
set_option maxRecDepth 65536 in
set_option maxHeartbeats 40000000 in
theorem rm_ofr (l : Launch) (Z : State) (a0 : Array Value) (hw : ∀ d ∈ tables_1, d.before a0 Z = true) (ws : List Jvm.Cond) (p1 : Int32) (aA : Addr) (aS : Addr) (aW : Addr) (aD : Addr) (aL : Addr) (aR : Addr) (h0 : Heap) (n0 : Nat) (O0 : Old Z n0 h0) (SaA : Sta Z Z.heap "com/example/serialpoint/serialpoint/Algorithm" "AUTO" "Lcom/example/serialpoint/serialpoint/Algorithm;" (.ref aA)) (SaS : Sta Z Z.heap "com/example/serialpoint/serialpoint/Algorithm" "SEARCH" "Lcom/example/serialpoint/serialpoint/Algorithm;" (.ref aS)) (SaW : Sta Z Z.heap "com/example/serialpoint/serialpoint/Algorithm" "SINGLE_WRITER" "Lcom/example/serialpoint/serialpoint/Algorithm;" (.ref aW)) (SaD : Sta Z Z.heap "com/example/serialpoint/serialpoint/Algorithm" "DISTINCT_VALUES" "Lcom/example/serialpoint/serialpoint/Algorithm;" (.ref aD)) (SaL : Sta Z Z.heap "com/example/serialpoint/serialpoint/Algorithm" "LIST_APPEND" "Lcom/example/serialpoint/serialpoint/Algorithm;" (.ref aL)) (SaR : Sta Z Z.heap "com/example/serialpoint/serialpoint/Algorithm" "RW_REGISTER" "Lcom/example/serialpoint/serialpoint/Algorithm;" (.ref aR)) :
    MetFree l (⟨"com/example/serialpoint/serialpoint/AlgorithmWithPinLaw", "ofRank", "(I)Lcom/example/serialpoint/serialpoint/Algorithm;"⟩ : MethodName) (head1 (Jvm.Cond.code (⟨"com/example/serialpoint/serialpoint/AlgorithmWithPinLaw", "ofRank", "(I)Lcom/example/serialpoint/serialpoint/Algorithm;"⟩ : MethodName) method_4_code 1 (some (.object "com/example/serialpoint/serialpoint/Algorithm")) :: ws) ({ frames := 0, cells := 0, slots := 0, locals := 0 } : Room)) (fun a U => a = #[(.int p1)] ∧ Z.Warmed39 U.vm ∧ U.heap = h0) (fun _ _ _ _ _ => True) (fun _ U o U' => ∃ v L, o = .returned v ∧ Q_ofr Z p1 aA aS aW aD aL aR h0 n0 v U'.heap L ∧ FrameEnd U o U' L ({ frames := 0, cells := 0, slots := 0, locals := 0 } : Room).cells ({ frames := 0, cells := 0, slots := 0, locals := 0 } : Room).slots) := by
  refine MetFree.of_bodySF (plainFor_of_name pn_0) hisR ?_
  intro p e s m args below meth c s₁ Bd hml0 hP hK
  obtain ⟨rfl, hZ, hh⟩ := hP
  have hx := Bd.exec
  have hby := Bd.bytes
  have hml : c.maxLocals = 1 := hml0
  have hown : s.vm.findClass "com/example/serialpoint/serialpoint/AlgorithmWithPinLaw" = some m.cls := findClass_of_methodNamed Bd.named
  have hnm := (name_of_methodNamed Bd.named Bd.method).1
  have X0 : Stand p l e ({ frames := 0, cells := 0, slots := 0, locals := 0 } : Room) s m #[(.int p1)] below meth c s₁ [] 0 0 := Stand.of_body Bd
  have e0 : s₁.heap = h0 := by rw [← hh, Bd.state]; rfl
  have N0 := Fr.nil n0
  have pre0 : ∀ t, Steps p.tables e below (s₁.setTop (mkF m 0 #[.val (.int p1)] [])) t → Steps p.tables e below (s₁.setTop (entryFrame m #[(.int p1)] 1)) t := fun t k => castTop (ef_ofr m p1) k
  have pre101 : ∀ t, Steps p.tables e below (s₁.setTop (mkF m 2 #[.val (.int p1)] [(.int (4 : Int32)), (.int p1)])) t → Steps p.tables e below (s₁.setTop (entryFrame m #[(.int p1)] 1)) t := fun t kk => pre0 t (by
      show Steps p.tables e below (s₁.setTop (mkF m 0 #[.val (.int p1)] [])) _
      refine XS.iloadN X0.here hx rfl (hb hby d_method_4_0) rfl ?_
      refine XS.iconst X0.here hx rfl (hb hby d_method_4_1) ?_
      show Steps p.tables e below (s₁.setTop (mkF m 2 #[.val (.int p1)] [(.int (4 : Int32)), (.int p1)])) _
      exact kk)
  by_cases hc102 : p1 = (4 : Int32)
  · obtain ⟨T103, X103, e103, st103⟩ := getS2 X0 hx hZ hown (host := "") (Or.inl (hw _ (List.mem_of_getElem? (i := 28) rfl))) Via.refl e0 (SaS.ext O0.2) (g := (mkF m 5 #[.val (.int p1)] [])) rfl (hb hby d_method_4_5)
    obtain ⟨fs, hr, hrun, hended, hW, hsame⟩ := X103.leave (v := some (.ref aS)) (fun h => by rw [Bd.returns] at h; cases h)
    refine ⟨_, _, pre101 _ ?_, hrun, hended, _, _, rfl, ?_, ⟨_, rfl⟩, hW, hsame.mono (by decide) (by decide)⟩
    · refine XS.icmpNo X0.here hx rfl (hb hby d_method_4_2) rfl (teq hc102).2 ?_
      show Steps p.tables e below (s₁.setTop (mkF m 5 #[.val (.int p1)] [])) _
      refine st103 _ ?_
      show Steps p.tables e below (T103.setTop (mkF m 8 #[.val (.int p1)] [(.ref aS)])) _
      exact retOut X103 hx (t := (.object "com/example/serialpoint/serialpoint/Algorithm")) (i := .areturn) Bd.returns rfl (Or.inr (Or.inr (Or.inr (Or.inr ⟨rfl, rfl, rfl⟩)))) (hb hby d_method_4_8) hr
    · show Q_ofr Z p1 aA aS aW aD aL aR h0 n0 _ T103.heap _
      rw [e103]
      exact ⟨(by simp [own_of, eq_true hc102]), N0, rfl⟩
  · have pre104 : ∀ t, Steps p.tables e below (s₁.setTop (mkF m 11 #[.val (.int p1)] [(.int (3 : Int32)), (.int p1)])) t → Steps p.tables e below (s₁.setTop (entryFrame m #[(.int p1)] 1)) t := fun t kk => pre101 t (by
        refine XS.icmpYes X0.here hx rfl (pc0 := 2) (pc' := 9) rfl (hb hby d_method_4_2) rfl (feq hc102).2 (by decide) (by decide) ?_
        refine XS.iloadN X0.here hx rfl (hb hby d_method_4_9) rfl ?_
        refine XS.iconst X0.here hx rfl (hb hby d_method_4_10) ?_
        show Steps p.tables e below (s₁.setTop (mkF m 11 #[.val (.int p1)] [(.int (3 : Int32)), (.int p1)])) _
        exact kk)
    by_cases hc105 : p1 = (3 : Int32)
    · obtain ⟨T106, X106, e106, st106⟩ := getS2 X0 hx hZ hown (host := "") (Or.inl (hw _ (List.mem_of_getElem? (i := 9) rfl))) Via.refl e0 (SaD.ext O0.2) (g := (mkF m 14 #[.val (.int p1)] [])) rfl (hb hby d_method_4_14)
      obtain ⟨fs, hr, hrun, hended, hW, hsame⟩ := X106.leave (v := some (.ref aD)) (fun h => by rw [Bd.returns] at h; cases h)
      refine ⟨_, _, pre104 _ ?_, hrun, hended, _, _, rfl, ?_, ⟨_, rfl⟩, hW, hsame.mono (by decide) (by decide)⟩
      · refine XS.icmpNo X0.here hx rfl (hb hby d_method_4_11) rfl (teq hc105).2 ?_
        show Steps p.tables e below (s₁.setTop (mkF m 14 #[.val (.int p1)] [])) _
        refine st106 _ ?_
        show Steps p.tables e below (T106.setTop (mkF m 17 #[.val (.int p1)] [(.ref aD)])) _
        exact retOut X106 hx (t := (.object "com/example/serialpoint/serialpoint/Algorithm")) (i := .areturn) Bd.returns rfl (Or.inr (Or.inr (Or.inr (Or.inr ⟨rfl, rfl, rfl⟩)))) (hb hby d_method_4_17) hr
      · show Q_ofr Z p1 aA aS aW aD aL aR h0 n0 _ T106.heap _
        rw [e106]
        exact ⟨(by simp [own_of, eq_false hc102, eq_true hc105]), N0, rfl⟩
    · have pre107 : ∀ t, Steps p.tables e below (s₁.setTop (mkF m 20 #[.val (.int p1)] [(.int (2 : Int32)), (.int p1)])) t → Steps p.tables e below (s₁.setTop (entryFrame m #[(.int p1)] 1)) t := fun t kk => pre104 t (by
          refine XS.icmpYes X0.here hx rfl (pc0 := 11) (pc' := 18) rfl (hb hby d_method_4_11) rfl (feq hc105).2 (by decide) (by decide) ?_
          refine XS.iloadN X0.here hx rfl (hb hby d_method_4_18) rfl ?_
          refine XS.iconst X0.here hx rfl (hb hby d_method_4_19) ?_
          show Steps p.tables e below (s₁.setTop (mkF m 20 #[.val (.int p1)] [(.int (2 : Int32)), (.int p1)])) _
          exact kk)
      by_cases hc108 : p1 = (2 : Int32)
      · obtain ⟨T109, X109, e109, st109⟩ := getS2 X0 hx hZ hown (host := "") (Or.inl (hw _ (List.mem_of_getElem? (i := 29) rfl))) Via.refl e0 (SaR.ext O0.2) (g := (mkF m 23 #[.val (.int p1)] [])) rfl (hb hby d_method_4_23)
        obtain ⟨fs, hr, hrun, hended, hW, hsame⟩ := X109.leave (v := some (.ref aR)) (fun h => by rw [Bd.returns] at h; cases h)
        refine ⟨_, _, pre107 _ ?_, hrun, hended, _, _, rfl, ?_, ⟨_, rfl⟩, hW, hsame.mono (by decide) (by decide)⟩
        · refine XS.icmpNo X0.here hx rfl (hb hby d_method_4_20) rfl (teq hc108).2 ?_
          show Steps p.tables e below (s₁.setTop (mkF m 23 #[.val (.int p1)] [])) _
          refine st109 _ ?_
          show Steps p.tables e below (T109.setTop (mkF m 26 #[.val (.int p1)] [(.ref aR)])) _
          exact retOut X109 hx (t := (.object "com/example/serialpoint/serialpoint/Algorithm")) (i := .areturn) Bd.returns rfl (Or.inr (Or.inr (Or.inr (Or.inr ⟨rfl, rfl, rfl⟩)))) (hb hby d_method_4_26) hr
        · show Q_ofr Z p1 aA aS aW aD aL aR h0 n0 _ T109.heap _
          rw [e109]
          exact ⟨(by simp [own_of, eq_false hc102, eq_false hc105, eq_true hc108]), N0, rfl⟩
      · have pre110 : ∀ t, Steps p.tables e below (s₁.setTop (mkF m 29 #[.val (.int p1)] [(.int (1 : Int32)), (.int p1)])) t → Steps p.tables e below (s₁.setTop (entryFrame m #[(.int p1)] 1)) t := fun t kk => pre107 t (by
            refine XS.icmpYes X0.here hx rfl (pc0 := 20) (pc' := 27) rfl (hb hby d_method_4_20) rfl (feq hc108).2 (by decide) (by decide) ?_
            refine XS.iloadN X0.here hx rfl (hb hby d_method_4_27) rfl ?_
            refine XS.iconst X0.here hx rfl (hb hby d_method_4_28) ?_
            show Steps p.tables e below (s₁.setTop (mkF m 29 #[.val (.int p1)] [(.int (1 : Int32)), (.int p1)])) _
            exact kk)
        by_cases hc111 : p1 = (1 : Int32)
        · obtain ⟨T112, X112, e112, st112⟩ := getS2 X0 hx hZ hown (host := "") (Or.inl (hw _ (List.mem_of_getElem? (i := 35) rfl))) Via.refl e0 (SaL.ext O0.2) (g := (mkF m 32 #[.val (.int p1)] [])) rfl (hb hby d_method_4_32)
          obtain ⟨fs, hr, hrun, hended, hW, hsame⟩ := X112.leave (v := some (.ref aL)) (fun h => by rw [Bd.returns] at h; cases h)
          refine ⟨_, _, pre110 _ ?_, hrun, hended, _, _, rfl, ?_, ⟨_, rfl⟩, hW, hsame.mono (by decide) (by decide)⟩
          · refine XS.icmpNo X0.here hx rfl (hb hby d_method_4_29) rfl (teq hc111).2 ?_
            show Steps p.tables e below (s₁.setTop (mkF m 32 #[.val (.int p1)] [])) _
            refine st112 _ ?_
            show Steps p.tables e below (T112.setTop (mkF m 35 #[.val (.int p1)] [(.ref aL)])) _
            exact retOut X112 hx (t := (.object "com/example/serialpoint/serialpoint/Algorithm")) (i := .areturn) Bd.returns rfl (Or.inr (Or.inr (Or.inr (Or.inr ⟨rfl, rfl, rfl⟩)))) (hb hby d_method_4_35) hr
          · show Q_ofr Z p1 aA aS aW aD aL aR h0 n0 _ T112.heap _
            rw [e112]
            exact ⟨(by simp [own_of, eq_false hc102, eq_false hc105, eq_false hc108, eq_true hc111]), N0, rfl⟩
        · obtain ⟨T113, X113, e113, st113⟩ := getS2 X0 hx hZ hown (host := "") (Or.inl (hw _ (List.mem_of_getElem? (i := 26) rfl))) Via.refl e0 (SaW.ext O0.2) (g := (mkF m 36 #[.val (.int p1)] [])) rfl (hb hby d_method_4_36)
          obtain ⟨fs, hr, hrun, hended, hW, hsame⟩ := X113.leave (v := some (.ref aW)) (fun h => by rw [Bd.returns] at h; cases h)
          refine ⟨_, _, pre110 _ ?_, hrun, hended, _, _, rfl, ?_, ⟨_, rfl⟩, hW, hsame.mono (by decide) (by decide)⟩
          · refine XS.icmpYes X0.here hx rfl (pc0 := 29) (pc' := 36) rfl (hb hby d_method_4_29) rfl (feq hc111).2 (by decide) (by decide) ?_
            show Steps p.tables e below (s₁.setTop (mkF m 36 #[.val (.int p1)] [])) _
            refine st113 _ ?_
            show Steps p.tables e below (T113.setTop (mkF m 39 #[.val (.int p1)] [(.ref aW)])) _
            exact retOut X113 hx (t := (.object "com/example/serialpoint/serialpoint/Algorithm")) (i := .areturn) Bd.returns rfl (Or.inr (Or.inr (Or.inr (Or.inr ⟨rfl, rfl, rfl⟩)))) (hb hby d_method_4_39) hr
          · show Q_ofr Z p1 aA aS aW aD aL aR h0 n0 _ T113.heap _
            rw [e113]
            exact ⟨(by simp [own_of, eq_false hc102, eq_false hc105, eq_false hc108, eq_false hc111]), N0, rfl⟩
theorem ef_mx (m : MethodId) (p1 : Int32) (p2 : Int32) : entryFrame m #[(.int p1), (.int p2)] 2 = mkF m 0 #[.val (.int p1), .val (.int p2)] [] := by first | (simp [entryFrame, mkF, argsToLocals, Value.category]; done) | rfl
def Q_mx (Z : State) (p1 : Int32) (p2 : Int32) (h0 : Heap) (n0 : Nat) (v : Option Value) (h : Heap) (L : List Loc) : Prop := v = some (.int (own_max p1 p2)) ∧ Fr n0 L ∧ h = h0
set_option maxRecDepth 65536 in
set_option maxHeartbeats 40000000 in
theorem rm_mx (l : Launch) (Z : State) (a0 : Array Value) (hw : ∀ d ∈ tables_1, d.before a0 Z = true) (ws : List Jvm.Cond) (p1 : Int32) (p2 : Int32) (h0 : Heap) (n0 : Nat) (O0 : Old Z n0 h0) :
    MetFree l (⟨"java/lang/Math", "max", "(II)I"⟩ : MethodName) (head1 (Jvm.Cond.code (⟨"java/lang/Math", "max", "(II)I"⟩ : MethodName) jdk_29_method_65_code 2 (some .int) :: ws) ({ frames := 0, cells := 0, slots := 0, locals := 0 } : Room)) (fun a U => a = #[(.int p1), (.int p2)] ∧ Z.Warmed39 U.vm ∧ U.heap = h0) (fun _ _ _ _ _ => True) (fun _ U o U' => ∃ v L, o = .returned v ∧ Q_mx Z p1 p2 h0 n0 v U'.heap L ∧ FrameEnd U o U' L ({ frames := 0, cells := 0, slots := 0, locals := 0 } : Room).cells ({ frames := 0, cells := 0, slots := 0, locals := 0 } : Room).slots) := by
  refine MetFree.of_bodySF (Jvm.Free.JP.mathPlain rfl (by decide +kernel)) hisR ?_
  intro p e s m args below meth c s₁ Bd hml0 hP hK
  obtain ⟨rfl, hZ, hh⟩ := hP
  have hx := Bd.exec
  have hby := Bd.bytes
  have hml : c.maxLocals = 2 := hml0
  have hown : s.vm.findClass "java/lang/Math" = some m.cls := findClass_of_methodNamed Bd.named
  have hnm := (name_of_methodNamed Bd.named Bd.method).1
  have X0 : Stand p l e ({ frames := 0, cells := 0, slots := 0, locals := 0 } : Room) s m #[(.int p1), (.int p2)] below meth c s₁ [] 0 0 := Stand.of_body Bd
  have e0 : s₁.heap = h0 := by rw [← hh, Bd.state]; rfl
  have N0 := Fr.nil n0
  have pre0 : ∀ t, Steps p.tables e below (s₁.setTop (mkF m 0 #[.val (.int p1), .val (.int p2)] [])) t → Steps p.tables e below (s₁.setTop (entryFrame m #[(.int p1), (.int p2)] 2)) t := fun t k => castTop (ef_mx m p1 p2) k
  have pre101 : ∀ t, Steps p.tables e below (s₁.setTop (mkF m 2 #[.val (.int p1), .val (.int p2)] [(.int p2), (.int p1)])) t → Steps p.tables e below (s₁.setTop (entryFrame m #[(.int p1), (.int p2)] 2)) t := fun t kk => pre0 t (by
      show Steps p.tables e below (s₁.setTop (mkF m 0 #[.val (.int p1), .val (.int p2)] [])) _
      refine XS.iloadN X0.here hx rfl (hb hby d_jdk_29_method_65_0) rfl ?_
      refine XS.iloadN X0.here hx rfl (hb hby d_jdk_29_method_65_1) rfl ?_
      show Steps p.tables e below (s₁.setTop (mkF m 2 #[.val (.int p1), .val (.int p2)] [(.int p2), (.int p1)])) _
      exact kk)
  by_cases hc102 : p1 < p2
  · obtain ⟨fs, hr, hrun, hended, hW, hsame⟩ := X0.leave (v := some (.int p2)) (fun h => by rw [Bd.returns] at h; cases h)
    refine ⟨_, _, pre101 _ ?_, hrun, hended, _, _, rfl, ?_, ⟨_, rfl⟩, hW, hsame.mono (by decide) (by decide)⟩
    · refine XS.icmpYes X0.here hx rfl (pc0 := 2) (pc' := 9) rfl (hb hby d_jdk_29_method_65_2) rfl (tlt hc102).1 (by decide) (by decide) ?_
      refine XS.iloadN X0.here hx rfl (hb hby d_jdk_29_method_65_9) rfl ?_
      show Steps p.tables e below (s₁.setTop (mkF m 10 #[.val (.int p1), .val (.int p2)] [(.int p2)])) _
      exact retOut X0 hx (t := .int) (i := .ireturn) Bd.returns rfl (Or.inl ⟨rfl, Or.inl rfl, _, rfl⟩) (hb hby d_jdk_29_method_65_10) hr
    · show Q_mx Z p1 p2 h0 n0 _ s₁.heap _
      rw [e0]
      exact ⟨(by simp [own_max, eq_true hc102]), N0, rfl⟩
  · obtain ⟨fs, hr, hrun, hended, hW, hsame⟩ := X0.leave (v := some (.int p1)) (fun h => by rw [Bd.returns] at h; cases h)
    refine ⟨_, _, pre101 _ ?_, hrun, hended, _, _, rfl, ?_, ⟨_, rfl⟩, hW, hsame.mono (by decide) (by decide)⟩
    · refine XS.icmpNo X0.here hx rfl (hb hby d_jdk_29_method_65_2) rfl (flt hc102).1 ?_
      refine XS.iloadN X0.here hx rfl (hb hby d_jdk_29_method_65_5) rfl ?_
      refine XS.goto X0.here hx rfl (pc0 := 6) (pc' := 10) rfl (hb hby d_jdk_29_method_65_6) (by decide) (by decide) ?_
      show Steps p.tables e below (s₁.setTop (mkF m 10 #[.val (.int p1), .val (.int p2)] [(.int p1)])) _
      exact retOut X0 hx (t := .int) (i := .ireturn) Bd.returns rfl (Or.inl ⟨rfl, Or.inl rfl, _, rfl⟩) (hb hby d_jdk_29_method_65_10) hr
    · show Q_mx Z p1 p2 h0 n0 _ s₁.heap _
      rw [e0]
      exact ⟨(by simp [own_max, eq_false hc102]), N0, rfl⟩
theorem ef_wi (m : MethodId) (a1 : Addr) (a2 : Addr) : entryFrame m #[(.ref a1), (.ref a2)] 3 = mkF m 0 #[.val (.ref a1), .val (.ref a2), .unset] [] := by first | (simp [entryFrame, mkF, argsToLocals, Value.category]; done) | rfl
def Q_wi (Z : State) (a1 : Addr) (a2 : Addr) (aA : Addr) (aS : Addr) (aW : Addr) (aD : Addr) (aL : Addr) (aR : Addr) (h0 : Heap) (n0 : Nat) (v : Option Value) (h : Heap) (L : List Loc) : Prop := v = some (.ref (own_with a1 a2 aA aS aW aD aL aR)) ∧ Fr n0 L ∧ h = h0
set_option maxRecDepth 65536 in
set_option maxHeartbeats 40000000 in
theorem rm_wi (l : Launch) (Z : State) (a0 : Array Value) (hw : ∀ d ∈ tables_1, d.before a0 Z = true) (ws : List Jvm.Cond) (a1 : Addr) (a2 : Addr) (aA : Addr) (aS : Addr) (aW : Addr) (aD : Addr) (aL : Addr) (aR : Addr) (h0 : Heap) (n0 : Nat) (O0 : Old Z n0 h0) (SaA : Sta Z Z.heap "com/example/serialpoint/serialpoint/Algorithm" "AUTO" "Lcom/example/serialpoint/serialpoint/Algorithm;" (.ref aA)) (SaS : Sta Z Z.heap "com/example/serialpoint/serialpoint/Algorithm" "SEARCH" "Lcom/example/serialpoint/serialpoint/Algorithm;" (.ref aS)) (SaW : Sta Z Z.heap "com/example/serialpoint/serialpoint/Algorithm" "SINGLE_WRITER" "Lcom/example/serialpoint/serialpoint/Algorithm;" (.ref aW)) (SaD : Sta Z Z.heap "com/example/serialpoint/serialpoint/Algorithm" "DISTINCT_VALUES" "Lcom/example/serialpoint/serialpoint/Algorithm;" (.ref aD)) (SaL : Sta Z Z.heap "com/example/serialpoint/serialpoint/Algorithm" "LIST_APPEND" "Lcom/example/serialpoint/serialpoint/Algorithm;" (.ref aL)) (SaR : Sta Z Z.heap "com/example/serialpoint/serialpoint/Algorithm" "RW_REGISTER" "Lcom/example/serialpoint/serialpoint/Algorithm;" (.ref aR)) :
    MetFree l (⟨"com/example/serialpoint/serialpoint/Algorithm", "with", "(Lcom/example/serialpoint/serialpoint/Algorithm;)Lcom/example/serialpoint/serialpoint/Algorithm;"⟩ : MethodName) (head1 (Jvm.Cond.code (⟨"com/example/serialpoint/serialpoint/Algorithm", "with", "(Lcom/example/serialpoint/serialpoint/Algorithm;)Lcom/example/serialpoint/serialpoint/Algorithm;"⟩ : MethodName) prog_4_method_13_code 3 (some (.object "com/example/serialpoint/serialpoint/Algorithm")) :: ws) ({ frames := 0, cells := 0, slots := 0, locals := 0 } : Room)) (fun a U => a = #[(.ref a1), (.ref a2)] ∧ Z.Warmed39 U.vm ∧ U.heap = h0) (fun _ _ _ _ _ => True) (fun _ U o U' => ∃ v L, o = .returned v ∧ Q_wi Z a1 a2 aA aS aW aD aL aR h0 n0 v U'.heap L ∧ FrameEnd U o U' L ({ frames := 0, cells := 0, slots := 0, locals := 0 } : Room).cells ({ frames := 0, cells := 0, slots := 0, locals := 0 } : Room).slots) := by
  refine MetFree.of_bodySF (plainFor_of_name pn_1) hisR ?_
  intro p e s m args below meth c s₁ Bd hml0 hP hK
  obtain ⟨rfl, hZ, hh⟩ := hP
  have hx := Bd.exec
  have hby := Bd.bytes
  have hml : c.maxLocals = 3 := hml0
  have hown : s.vm.findClass "com/example/serialpoint/serialpoint/Algorithm" = some m.cls := findClass_of_methodNamed Bd.named
  have hnm := (name_of_methodNamed Bd.named Bd.method).1
  have X0 : Stand p l e ({ frames := 0, cells := 0, slots := 0, locals := 0 } : Room) s m #[(.ref a1), (.ref a2)] below meth c s₁ [] 0 0 := Stand.of_body Bd
  have e0 : s₁.heap = h0 := by rw [← hh, Bd.state]; rfl
  have N0 := Fr.nil n0
  have pre0 : ∀ t, Steps p.tables e below (s₁.setTop (mkF m 0 #[.val (.ref a1), .val (.ref a2), .unset] [])) t → Steps p.tables e below (s₁.setTop (entryFrame m #[(.ref a1), (.ref a2)] 3)) t := fun t k => castTop (ef_wi m a1 a2) k
  obtain ⟨T101, X101, e101, st101⟩ := getS2 X0 hx hZ hown (host := "") (Or.inl (hw _ (List.mem_of_getElem? (i := 23) rfl))) Via.refl e0 (SaS.ext O0.2) (g := (mkF m 1 #[.val (.ref a1), .val (.ref a2), .unset] [(.ref a1)])) rfl (hb hby d_prog_4_method_13_1)
  have pre102 : ∀ t, Steps p.tables e below (T101.setTop (mkF m 4 #[.val (.ref a1), .val (.ref a2), .unset] [(.ref aS), (.ref a1)])) t → Steps p.tables e below (s₁.setTop (entryFrame m #[(.ref a1), (.ref a2)] 3)) t := fun t kk => pre0 t (by
      show Steps p.tables e below (s₁.setTop (mkF m 0 #[.val (.ref a1), .val (.ref a2), .unset] [])) _
      refine XS.aloadN X0.here hx rfl (hb hby d_prog_4_method_13_0) rfl rfl ?_
      show Steps p.tables e below (s₁.setTop (mkF m 1 #[.val (.ref a1), .val (.ref a2), .unset] [(.ref a1)])) _
      refine st101 _ ?_
      show Steps p.tables e below (T101.setTop (mkF m 4 #[.val (.ref a1), .val (.ref a2), .unset] [(.ref aS), (.ref a1)])) _
      exact kk)
  by_cases hc103 : a1 = aS
  · obtain ⟨T104, X104, e104, st104⟩ := getS2 X101 hx hZ hown (host := "") (Or.inl (hw _ (List.mem_of_getElem? (i := 23) rfl))) Via.refl e101 (SaS.ext O0.2) (g := (mkF m 14 #[.val (.ref a1), .val (.ref a2), .unset] [])) rfl (hb hby d_prog_4_method_13_14)
    obtain ⟨fs, hr, hrun, hended, hW, hsame⟩ := X104.leave (v := some (.ref aS)) (fun h => by rw [Bd.returns] at h; cases h)
    refine ⟨_, _, pre102 _ ?_, hrun, hended, _, _, rfl, ?_, ⟨_, rfl⟩, hW, hsame.mono (by decide) (by decide)⟩
    · refine Jvm.RoadKit.acmp (g := (mkF m 4 #[.val (.ref a1), .val (.ref a2), .unset] [(.ref aS), (.ref a1)])) X101 hx rfl rfl rfl (pc0 := 4) (pc' := 14) (same := true) rfl (hb hby d_prog_4_method_13_4) rfl (decide_eq_true (congrArg Value.ref hc103)) (by decide) (by decide) ?_
      show Steps p.tables e below (T101.setTop (mkF m 14 #[.val (.ref a1), .val (.ref a2), .unset] [])) _
      refine st104 _ ?_
      show Steps p.tables e below (T104.setTop (mkF m 17 #[.val (.ref a1), .val (.ref a2), .unset] [(.ref aS)])) _
      refine XS.astoreN X104.here hx rfl (hb hby d_prog_4_method_13_17) rfl rfl (l' := #[.val (.ref a1), .val (.ref a2), .val (.ref aS)]) rfl ?_
      refine XS.goto X104.here hx rfl (pc0 := 18) (pc' := 88) rfl (hb hby d_prog_4_method_13_18) (by decide) (by decide) ?_
      refine XS.aloadN X104.here hx rfl (hb hby d_prog_4_method_13_88) rfl rfl ?_
      show Steps p.tables e below (T104.setTop (mkF m 89 #[.val (.ref a1), .val (.ref a2), .val (.ref aS)] [(.ref aS)])) _
      exact retOut X104 hx (t := (.object "com/example/serialpoint/serialpoint/Algorithm")) (i := .areturn) Bd.returns rfl (Or.inr (Or.inr (Or.inr (Or.inr ⟨rfl, rfl, rfl⟩)))) (hb hby d_prog_4_method_13_89) hr
    · show Q_wi Z a1 a2 aA aS aW aD aL aR h0 n0 _ T104.heap _
      rw [e104]
      exact ⟨(by simp [own_with, eq_true hc103]), N0, rfl⟩
  · obtain ⟨T105, X105, e105, st105⟩ := getS2 X101 hx hZ hown (host := "") (Or.inl (hw _ (List.mem_of_getElem? (i := 23) rfl))) Via.refl e101 (SaS.ext O0.2) (g := (mkF m 8 #[.val (.ref a1), .val (.ref a2), .unset] [(.ref a2)])) rfl (hb hby d_prog_4_method_13_8)
    have pre106 : ∀ t, Steps p.tables e below (T105.setTop (mkF m 11 #[.val (.ref a1), .val (.ref a2), .unset] [(.ref aS), (.ref a2)])) t → Steps p.tables e below (s₁.setTop (entryFrame m #[(.ref a1), (.ref a2)] 3)) t := fun t kk => pre102 t (by
        refine Jvm.RoadKit.acmp (g := (mkF m 4 #[.val (.ref a1), .val (.ref a2), .unset] [(.ref aS), (.ref a1)])) X101 hx rfl rfl rfl (pc0 := 4) (pc' := 7) (same := false) rfl (hb hby d_prog_4_method_13_4) rfl (decide_eq_false fun q => hc103 (Value.ref.inj q)) (by decide) (by decide) ?_
        show Steps p.tables e below (T101.setTop (mkF m 7 #[.val (.ref a1), .val (.ref a2), .unset] [])) _
        refine XS.aloadN X101.here hx rfl (hb hby d_prog_4_method_13_7) rfl rfl ?_
        show Steps p.tables e below (T101.setTop (mkF m 8 #[.val (.ref a1), .val (.ref a2), .unset] [(.ref a2)])) _
        refine st105 _ ?_
        show Steps p.tables e below (T105.setTop (mkF m 11 #[.val (.ref a1), .val (.ref a2), .unset] [(.ref aS), (.ref a2)])) _
        exact kk)
    by_cases hc107 : a2 = aS
    · obtain ⟨T108, X108, e108, st108⟩ := getS2 X105 hx hZ hown (host := "") (Or.inl (hw _ (List.mem_of_getElem? (i := 23) rfl))) Via.refl e105 (SaS.ext O0.2) (g := (mkF m 14 #[.val (.ref a1), .val (.ref a2), .unset] [])) rfl (hb hby d_prog_4_method_13_14)
      obtain ⟨fs, hr, hrun, hended, hW, hsame⟩ := X108.leave (v := some (.ref aS)) (fun h => by rw [Bd.returns] at h; cases h)
      refine ⟨_, _, pre106 _ ?_, hrun, hended, _, _, rfl, ?_, ⟨_, rfl⟩, hW, hsame.mono (by decide) (by decide)⟩
      · refine Jvm.RoadKit.acmp (g := (mkF m 11 #[.val (.ref a1), .val (.ref a2), .unset] [(.ref aS), (.ref a2)])) X105 hx rfl rfl rfl (pc0 := 11) (pc' := 14) (same := true) rfl (hb hby d_prog_4_method_13_11) rfl (decide_eq_true (congrArg Value.ref hc107)) (by decide) (by decide) ?_
        show Steps p.tables e below (T105.setTop (mkF m 14 #[.val (.ref a1), .val (.ref a2), .unset] [])) _
        refine st108 _ ?_
        show Steps p.tables e below (T108.setTop (mkF m 17 #[.val (.ref a1), .val (.ref a2), .unset] [(.ref aS)])) _
        refine XS.astoreN X108.here hx rfl (hb hby d_prog_4_method_13_17) rfl rfl (l' := #[.val (.ref a1), .val (.ref a2), .val (.ref aS)]) rfl ?_
        refine XS.goto X108.here hx rfl (pc0 := 18) (pc' := 88) rfl (hb hby d_prog_4_method_13_18) (by decide) (by decide) ?_
        refine XS.aloadN X108.here hx rfl (hb hby d_prog_4_method_13_88) rfl rfl ?_
        show Steps p.tables e below (T108.setTop (mkF m 89 #[.val (.ref a1), .val (.ref a2), .val (.ref aS)] [(.ref aS)])) _
        exact retOut X108 hx (t := (.object "com/example/serialpoint/serialpoint/Algorithm")) (i := .areturn) Bd.returns rfl (Or.inr (Or.inr (Or.inr (Or.inr ⟨rfl, rfl, rfl⟩)))) (hb hby d_prog_4_method_13_89) hr
      · show Q_wi Z a1 a2 aA aS aW aD aL aR h0 n0 _ T108.heap _
        rw [e108]
        exact ⟨(by simp [own_with, eq_false hc103, eq_true hc107]), N0, rfl⟩
    · obtain ⟨T109, X109, e109, st109⟩ := getS2 X105 hx hZ hown (host := "") (Or.inl (hw _ (List.mem_of_getElem? (i := 25) rfl))) Via.refl e105 (SaD.ext O0.2) (g := (mkF m 22 #[.val (.ref a1), .val (.ref a2), .unset] [(.ref a1)])) rfl (hb hby d_prog_4_method_13_22)
      have pre110 : ∀ t, Steps p.tables e below (T109.setTop (mkF m 25 #[.val (.ref a1), .val (.ref a2), .unset] [(.ref aD), (.ref a1)])) t → Steps p.tables e below (s₁.setTop (entryFrame m #[(.ref a1), (.ref a2)] 3)) t := fun t kk => pre106 t (by
          refine Jvm.RoadKit.acmp (g := (mkF m 11 #[.val (.ref a1), .val (.ref a2), .unset] [(.ref aS), (.ref a2)])) X105 hx rfl rfl rfl (pc0 := 11) (pc' := 21) (same := false) rfl (hb hby d_prog_4_method_13_11) rfl (decide_eq_false fun q => hc107 (Value.ref.inj q)) (by decide) (by decide) ?_
          show Steps p.tables e below (T105.setTop (mkF m 21 #[.val (.ref a1), .val (.ref a2), .unset] [])) _
          refine XS.aloadN X105.here hx rfl (hb hby d_prog_4_method_13_21) rfl rfl ?_
          show Steps p.tables e below (T105.setTop (mkF m 22 #[.val (.ref a1), .val (.ref a2), .unset] [(.ref a1)])) _
          refine st109 _ ?_
          show Steps p.tables e below (T109.setTop (mkF m 25 #[.val (.ref a1), .val (.ref a2), .unset] [(.ref aD), (.ref a1)])) _
          exact kk)
      by_cases hc111 : a1 = aD
      · obtain ⟨T112, X112, e112, st112⟩ := getS2 X109 hx hZ hown (host := "") (Or.inl (hw _ (List.mem_of_getElem? (i := 25) rfl))) Via.refl e109 (SaD.ext O0.2) (g := (mkF m 35 #[.val (.ref a1), .val (.ref a2), .unset] [])) rfl (hb hby d_prog_4_method_13_35)
        obtain ⟨fs, hr, hrun, hended, hW, hsame⟩ := X112.leave (v := some (.ref aD)) (fun h => by rw [Bd.returns] at h; cases h)
        refine ⟨_, _, pre110 _ ?_, hrun, hended, _, _, rfl, ?_, ⟨_, rfl⟩, hW, hsame.mono (by decide) (by decide)⟩
        · refine Jvm.RoadKit.acmp (g := (mkF m 25 #[.val (.ref a1), .val (.ref a2), .unset] [(.ref aD), (.ref a1)])) X109 hx rfl rfl rfl (pc0 := 25) (pc' := 35) (same := true) rfl (hb hby d_prog_4_method_13_25) rfl (decide_eq_true (congrArg Value.ref hc111)) (by decide) (by decide) ?_
          show Steps p.tables e below (T109.setTop (mkF m 35 #[.val (.ref a1), .val (.ref a2), .unset] [])) _
          refine st112 _ ?_
          show Steps p.tables e below (T112.setTop (mkF m 38 #[.val (.ref a1), .val (.ref a2), .unset] [(.ref aD)])) _
          refine XS.astoreN X112.here hx rfl (hb hby d_prog_4_method_13_38) rfl rfl (l' := #[.val (.ref a1), .val (.ref a2), .val (.ref aD)]) rfl ?_
          refine XS.goto X112.here hx rfl (pc0 := 39) (pc' := 88) rfl (hb hby d_prog_4_method_13_39) (by decide) (by decide) ?_
          refine XS.aloadN X112.here hx rfl (hb hby d_prog_4_method_13_88) rfl rfl ?_
          show Steps p.tables e below (T112.setTop (mkF m 89 #[.val (.ref a1), .val (.ref a2), .val (.ref aD)] [(.ref aD)])) _
          exact retOut X112 hx (t := (.object "com/example/serialpoint/serialpoint/Algorithm")) (i := .areturn) Bd.returns rfl (Or.inr (Or.inr (Or.inr (Or.inr ⟨rfl, rfl, rfl⟩)))) (hb hby d_prog_4_method_13_89) hr
        · show Q_wi Z a1 a2 aA aS aW aD aL aR h0 n0 _ T112.heap _
          rw [e112]
          exact ⟨(by simp [own_with, eq_false hc103, eq_false hc107, eq_true hc111]), N0, rfl⟩
      · obtain ⟨T113, X113, e113, st113⟩ := getS2 X109 hx hZ hown (host := "") (Or.inl (hw _ (List.mem_of_getElem? (i := 25) rfl))) Via.refl e109 (SaD.ext O0.2) (g := (mkF m 29 #[.val (.ref a1), .val (.ref a2), .unset] [(.ref a2)])) rfl (hb hby d_prog_4_method_13_29)
        have pre114 : ∀ t, Steps p.tables e below (T113.setTop (mkF m 32 #[.val (.ref a1), .val (.ref a2), .unset] [(.ref aD), (.ref a2)])) t → Steps p.tables e below (s₁.setTop (entryFrame m #[(.ref a1), (.ref a2)] 3)) t := fun t kk => pre110 t (by
            refine Jvm.RoadKit.acmp (g := (mkF m 25 #[.val (.ref a1), .val (.ref a2), .unset] [(.ref aD), (.ref a1)])) X109 hx rfl rfl rfl (pc0 := 25) (pc' := 28) (same := false) rfl (hb hby d_prog_4_method_13_25) rfl (decide_eq_false fun q => hc111 (Value.ref.inj q)) (by decide) (by decide) ?_
            show Steps p.tables e below (T109.setTop (mkF m 28 #[.val (.ref a1), .val (.ref a2), .unset] [])) _
            refine XS.aloadN X109.here hx rfl (hb hby d_prog_4_method_13_28) rfl rfl ?_
            show Steps p.tables e below (T109.setTop (mkF m 29 #[.val (.ref a1), .val (.ref a2), .unset] [(.ref a2)])) _
            refine st113 _ ?_
            show Steps p.tables e below (T113.setTop (mkF m 32 #[.val (.ref a1), .val (.ref a2), .unset] [(.ref aD), (.ref a2)])) _
            exact kk)
        by_cases hc115 : a2 = aD
        · obtain ⟨T116, X116, e116, st116⟩ := getS2 X113 hx hZ hown (host := "") (Or.inl (hw _ (List.mem_of_getElem? (i := 25) rfl))) Via.refl e113 (SaD.ext O0.2) (g := (mkF m 35 #[.val (.ref a1), .val (.ref a2), .unset] [])) rfl (hb hby d_prog_4_method_13_35)
          obtain ⟨fs, hr, hrun, hended, hW, hsame⟩ := X116.leave (v := some (.ref aD)) (fun h => by rw [Bd.returns] at h; cases h)
          refine ⟨_, _, pre114 _ ?_, hrun, hended, _, _, rfl, ?_, ⟨_, rfl⟩, hW, hsame.mono (by decide) (by decide)⟩
          · refine Jvm.RoadKit.acmp (g := (mkF m 32 #[.val (.ref a1), .val (.ref a2), .unset] [(.ref aD), (.ref a2)])) X113 hx rfl rfl rfl (pc0 := 32) (pc' := 35) (same := true) rfl (hb hby d_prog_4_method_13_32) rfl (decide_eq_true (congrArg Value.ref hc115)) (by decide) (by decide) ?_
            show Steps p.tables e below (T113.setTop (mkF m 35 #[.val (.ref a1), .val (.ref a2), .unset] [])) _
            refine st116 _ ?_
            show Steps p.tables e below (T116.setTop (mkF m 38 #[.val (.ref a1), .val (.ref a2), .unset] [(.ref aD)])) _
            refine XS.astoreN X116.here hx rfl (hb hby d_prog_4_method_13_38) rfl rfl (l' := #[.val (.ref a1), .val (.ref a2), .val (.ref aD)]) rfl ?_
            refine XS.goto X116.here hx rfl (pc0 := 39) (pc' := 88) rfl (hb hby d_prog_4_method_13_39) (by decide) (by decide) ?_
            refine XS.aloadN X116.here hx rfl (hb hby d_prog_4_method_13_88) rfl rfl ?_
            show Steps p.tables e below (T116.setTop (mkF m 89 #[.val (.ref a1), .val (.ref a2), .val (.ref aD)] [(.ref aD)])) _
            exact retOut X116 hx (t := (.object "com/example/serialpoint/serialpoint/Algorithm")) (i := .areturn) Bd.returns rfl (Or.inr (Or.inr (Or.inr (Or.inr ⟨rfl, rfl, rfl⟩)))) (hb hby d_prog_4_method_13_89) hr
          · show Q_wi Z a1 a2 aA aS aW aD aL aR h0 n0 _ T116.heap _
            rw [e116]
            exact ⟨(by simp [own_with, eq_false hc103, eq_false hc107, eq_false hc111, eq_true hc115]), N0, rfl⟩
        · obtain ⟨T117, X117, e117, st117⟩ := getS2 X113 hx hZ hown (host := "") (Or.inl (hw _ (List.mem_of_getElem? (i := 31) rfl))) Via.refl e113 (SaR.ext O0.2) (g := (mkF m 43 #[.val (.ref a1), .val (.ref a2), .unset] [(.ref a1)])) rfl (hb hby d_prog_4_method_13_43)
          have pre118 : ∀ t, Steps p.tables e below (T117.setTop (mkF m 46 #[.val (.ref a1), .val (.ref a2), .unset] [(.ref aR), (.ref a1)])) t → Steps p.tables e below (s₁.setTop (entryFrame m #[(.ref a1), (.ref a2)] 3)) t := fun t kk => pre114 t (by
              refine Jvm.RoadKit.acmp (g := (mkF m 32 #[.val (.ref a1), .val (.ref a2), .unset] [(.ref aD), (.ref a2)])) X113 hx rfl rfl rfl (pc0 := 32) (pc' := 42) (same := false) rfl (hb hby d_prog_4_method_13_32) rfl (decide_eq_false fun q => hc115 (Value.ref.inj q)) (by decide) (by decide) ?_
              show Steps p.tables e below (T113.setTop (mkF m 42 #[.val (.ref a1), .val (.ref a2), .unset] [])) _
              refine XS.aloadN X113.here hx rfl (hb hby d_prog_4_method_13_42) rfl rfl ?_
              show Steps p.tables e below (T113.setTop (mkF m 43 #[.val (.ref a1), .val (.ref a2), .unset] [(.ref a1)])) _
              refine st117 _ ?_
              show Steps p.tables e below (T117.setTop (mkF m 46 #[.val (.ref a1), .val (.ref a2), .unset] [(.ref aR), (.ref a1)])) _
              exact kk)
          by_cases hc119 : a1 = aR
          · obtain ⟨T120, X120, e120, st120⟩ := getS2 X117 hx hZ hown (host := "") (Or.inl (hw _ (List.mem_of_getElem? (i := 31) rfl))) Via.refl e117 (SaR.ext O0.2) (g := (mkF m 56 #[.val (.ref a1), .val (.ref a2), .unset] [])) rfl (hb hby d_prog_4_method_13_56)
            obtain ⟨fs, hr, hrun, hended, hW, hsame⟩ := X120.leave (v := some (.ref aR)) (fun h => by rw [Bd.returns] at h; cases h)
            refine ⟨_, _, pre118 _ ?_, hrun, hended, _, _, rfl, ?_, ⟨_, rfl⟩, hW, hsame.mono (by decide) (by decide)⟩
            · refine Jvm.RoadKit.acmp (g := (mkF m 46 #[.val (.ref a1), .val (.ref a2), .unset] [(.ref aR), (.ref a1)])) X117 hx rfl rfl rfl (pc0 := 46) (pc' := 56) (same := true) rfl (hb hby d_prog_4_method_13_46) rfl (decide_eq_true (congrArg Value.ref hc119)) (by decide) (by decide) ?_
              show Steps p.tables e below (T117.setTop (mkF m 56 #[.val (.ref a1), .val (.ref a2), .unset] [])) _
              refine st120 _ ?_
              show Steps p.tables e below (T120.setTop (mkF m 59 #[.val (.ref a1), .val (.ref a2), .unset] [(.ref aR)])) _
              refine XS.astoreN X120.here hx rfl (hb hby d_prog_4_method_13_59) rfl rfl (l' := #[.val (.ref a1), .val (.ref a2), .val (.ref aR)]) rfl ?_
              refine XS.goto X120.here hx rfl (pc0 := 60) (pc' := 88) rfl (hb hby d_prog_4_method_13_60) (by decide) (by decide) ?_
              refine XS.aloadN X120.here hx rfl (hb hby d_prog_4_method_13_88) rfl rfl ?_
              show Steps p.tables e below (T120.setTop (mkF m 89 #[.val (.ref a1), .val (.ref a2), .val (.ref aR)] [(.ref aR)])) _
              exact retOut X120 hx (t := (.object "com/example/serialpoint/serialpoint/Algorithm")) (i := .areturn) Bd.returns rfl (Or.inr (Or.inr (Or.inr (Or.inr ⟨rfl, rfl, rfl⟩)))) (hb hby d_prog_4_method_13_89) hr
            · show Q_wi Z a1 a2 aA aS aW aD aL aR h0 n0 _ T120.heap _
              rw [e120]
              exact ⟨(by simp [own_with, eq_false hc103, eq_false hc107, eq_false hc111, eq_false hc115, eq_true hc119]), N0, rfl⟩
          · obtain ⟨T121, X121, e121, st121⟩ := getS2 X117 hx hZ hown (host := "") (Or.inl (hw _ (List.mem_of_getElem? (i := 31) rfl))) Via.refl e117 (SaR.ext O0.2) (g := (mkF m 50 #[.val (.ref a1), .val (.ref a2), .unset] [(.ref a2)])) rfl (hb hby d_prog_4_method_13_50)
            have pre122 : ∀ t, Steps p.tables e below (T121.setTop (mkF m 53 #[.val (.ref a1), .val (.ref a2), .unset] [(.ref aR), (.ref a2)])) t → Steps p.tables e below (s₁.setTop (entryFrame m #[(.ref a1), (.ref a2)] 3)) t := fun t kk => pre118 t (by
                refine Jvm.RoadKit.acmp (g := (mkF m 46 #[.val (.ref a1), .val (.ref a2), .unset] [(.ref aR), (.ref a1)])) X117 hx rfl rfl rfl (pc0 := 46) (pc' := 49) (same := false) rfl (hb hby d_prog_4_method_13_46) rfl (decide_eq_false fun q => hc119 (Value.ref.inj q)) (by decide) (by decide) ?_
                show Steps p.tables e below (T117.setTop (mkF m 49 #[.val (.ref a1), .val (.ref a2), .unset] [])) _
                refine XS.aloadN X117.here hx rfl (hb hby d_prog_4_method_13_49) rfl rfl ?_
                show Steps p.tables e below (T117.setTop (mkF m 50 #[.val (.ref a1), .val (.ref a2), .unset] [(.ref a2)])) _
                refine st121 _ ?_
                show Steps p.tables e below (T121.setTop (mkF m 53 #[.val (.ref a1), .val (.ref a2), .unset] [(.ref aR), (.ref a2)])) _
                exact kk)
            by_cases hc123 : a2 = aR
            · obtain ⟨T124, X124, e124, st124⟩ := getS2 X121 hx hZ hown (host := "") (Or.inl (hw _ (List.mem_of_getElem? (i := 31) rfl))) Via.refl e121 (SaR.ext O0.2) (g := (mkF m 56 #[.val (.ref a1), .val (.ref a2), .unset] [])) rfl (hb hby d_prog_4_method_13_56)
              obtain ⟨fs, hr, hrun, hended, hW, hsame⟩ := X124.leave (v := some (.ref aR)) (fun h => by rw [Bd.returns] at h; cases h)
              refine ⟨_, _, pre122 _ ?_, hrun, hended, _, _, rfl, ?_, ⟨_, rfl⟩, hW, hsame.mono (by decide) (by decide)⟩
              · refine Jvm.RoadKit.acmp (g := (mkF m 53 #[.val (.ref a1), .val (.ref a2), .unset] [(.ref aR), (.ref a2)])) X121 hx rfl rfl rfl (pc0 := 53) (pc' := 56) (same := true) rfl (hb hby d_prog_4_method_13_53) rfl (decide_eq_true (congrArg Value.ref hc123)) (by decide) (by decide) ?_
                show Steps p.tables e below (T121.setTop (mkF m 56 #[.val (.ref a1), .val (.ref a2), .unset] [])) _
                refine st124 _ ?_
                show Steps p.tables e below (T124.setTop (mkF m 59 #[.val (.ref a1), .val (.ref a2), .unset] [(.ref aR)])) _
                refine XS.astoreN X124.here hx rfl (hb hby d_prog_4_method_13_59) rfl rfl (l' := #[.val (.ref a1), .val (.ref a2), .val (.ref aR)]) rfl ?_
                refine XS.goto X124.here hx rfl (pc0 := 60) (pc' := 88) rfl (hb hby d_prog_4_method_13_60) (by decide) (by decide) ?_
                refine XS.aloadN X124.here hx rfl (hb hby d_prog_4_method_13_88) rfl rfl ?_
                show Steps p.tables e below (T124.setTop (mkF m 89 #[.val (.ref a1), .val (.ref a2), .val (.ref aR)] [(.ref aR)])) _
                exact retOut X124 hx (t := (.object "com/example/serialpoint/serialpoint/Algorithm")) (i := .areturn) Bd.returns rfl (Or.inr (Or.inr (Or.inr (Or.inr ⟨rfl, rfl, rfl⟩)))) (hb hby d_prog_4_method_13_89) hr
              · show Q_wi Z a1 a2 aA aS aW aD aL aR h0 n0 _ T124.heap _
                rw [e124]
                exact ⟨(by simp [own_with, eq_false hc103, eq_false hc107, eq_false hc111, eq_false hc115, eq_false hc119, eq_true hc123]), N0, rfl⟩
            · obtain ⟨T125, X125, e125, st125⟩ := getS2 X121 hx hZ hown (host := "") (Or.inl (hw _ (List.mem_of_getElem? (i := 32) rfl))) Via.refl e121 (SaL.ext O0.2) (g := (mkF m 64 #[.val (.ref a1), .val (.ref a2), .unset] [(.ref a1)])) rfl (hb hby d_prog_4_method_13_64)
              have pre126 : ∀ t, Steps p.tables e below (T125.setTop (mkF m 67 #[.val (.ref a1), .val (.ref a2), .unset] [(.ref aL), (.ref a1)])) t → Steps p.tables e below (s₁.setTop (entryFrame m #[(.ref a1), (.ref a2)] 3)) t := fun t kk => pre122 t (by
                  refine Jvm.RoadKit.acmp (g := (mkF m 53 #[.val (.ref a1), .val (.ref a2), .unset] [(.ref aR), (.ref a2)])) X121 hx rfl rfl rfl (pc0 := 53) (pc' := 63) (same := false) rfl (hb hby d_prog_4_method_13_53) rfl (decide_eq_false fun q => hc123 (Value.ref.inj q)) (by decide) (by decide) ?_
                  show Steps p.tables e below (T121.setTop (mkF m 63 #[.val (.ref a1), .val (.ref a2), .unset] [])) _
                  refine XS.aloadN X121.here hx rfl (hb hby d_prog_4_method_13_63) rfl rfl ?_
                  show Steps p.tables e below (T121.setTop (mkF m 64 #[.val (.ref a1), .val (.ref a2), .unset] [(.ref a1)])) _
                  refine st125 _ ?_
                  show Steps p.tables e below (T125.setTop (mkF m 67 #[.val (.ref a1), .val (.ref a2), .unset] [(.ref aL), (.ref a1)])) _
                  exact kk)
              by_cases hc127 : a1 = aL
              · obtain ⟨T128, X128, e128, st128⟩ := getS2 X125 hx hZ hown (host := "") (Or.inl (hw _ (List.mem_of_getElem? (i := 32) rfl))) Via.refl e125 (SaL.ext O0.2) (g := (mkF m 77 #[.val (.ref a1), .val (.ref a2), .unset] [])) rfl (hb hby d_prog_4_method_13_77)
                obtain ⟨fs, hr, hrun, hended, hW, hsame⟩ := X128.leave (v := some (.ref aL)) (fun h => by rw [Bd.returns] at h; cases h)
                refine ⟨_, _, pre126 _ ?_, hrun, hended, _, _, rfl, ?_, ⟨_, rfl⟩, hW, hsame.mono (by decide) (by decide)⟩
                · refine Jvm.RoadKit.acmp (g := (mkF m 67 #[.val (.ref a1), .val (.ref a2), .unset] [(.ref aL), (.ref a1)])) X125 hx rfl rfl rfl (pc0 := 67) (pc' := 77) (same := true) rfl (hb hby d_prog_4_method_13_67) rfl (decide_eq_true (congrArg Value.ref hc127)) (by decide) (by decide) ?_
                  show Steps p.tables e below (T125.setTop (mkF m 77 #[.val (.ref a1), .val (.ref a2), .unset] [])) _
                  refine st128 _ ?_
                  show Steps p.tables e below (T128.setTop (mkF m 80 #[.val (.ref a1), .val (.ref a2), .unset] [(.ref aL)])) _
                  refine XS.astoreN X128.here hx rfl (hb hby d_prog_4_method_13_80) rfl rfl (l' := #[.val (.ref a1), .val (.ref a2), .val (.ref aL)]) rfl ?_
                  refine XS.goto X128.here hx rfl (pc0 := 81) (pc' := 88) rfl (hb hby d_prog_4_method_13_81) (by decide) (by decide) ?_
                  refine XS.aloadN X128.here hx rfl (hb hby d_prog_4_method_13_88) rfl rfl ?_
                  show Steps p.tables e below (T128.setTop (mkF m 89 #[.val (.ref a1), .val (.ref a2), .val (.ref aL)] [(.ref aL)])) _
                  exact retOut X128 hx (t := (.object "com/example/serialpoint/serialpoint/Algorithm")) (i := .areturn) Bd.returns rfl (Or.inr (Or.inr (Or.inr (Or.inr ⟨rfl, rfl, rfl⟩)))) (hb hby d_prog_4_method_13_89) hr
                · show Q_wi Z a1 a2 aA aS aW aD aL aR h0 n0 _ T128.heap _
                  rw [e128]
                  exact ⟨(by simp [own_with, eq_false hc103, eq_false hc107, eq_false hc111, eq_false hc115, eq_false hc119, eq_false hc123, eq_true hc127]), N0, rfl⟩
              · obtain ⟨T129, X129, e129, st129⟩ := getS2 X125 hx hZ hown (host := "") (Or.inl (hw _ (List.mem_of_getElem? (i := 32) rfl))) Via.refl e125 (SaL.ext O0.2) (g := (mkF m 71 #[.val (.ref a1), .val (.ref a2), .unset] [(.ref a2)])) rfl (hb hby d_prog_4_method_13_71)
                have pre130 : ∀ t, Steps p.tables e below (T129.setTop (mkF m 74 #[.val (.ref a1), .val (.ref a2), .unset] [(.ref aL), (.ref a2)])) t → Steps p.tables e below (s₁.setTop (entryFrame m #[(.ref a1), (.ref a2)] 3)) t := fun t kk => pre126 t (by
                    refine Jvm.RoadKit.acmp (g := (mkF m 67 #[.val (.ref a1), .val (.ref a2), .unset] [(.ref aL), (.ref a1)])) X125 hx rfl rfl rfl (pc0 := 67) (pc' := 70) (same := false) rfl (hb hby d_prog_4_method_13_67) rfl (decide_eq_false fun q => hc127 (Value.ref.inj q)) (by decide) (by decide) ?_
                    show Steps p.tables e below (T125.setTop (mkF m 70 #[.val (.ref a1), .val (.ref a2), .unset] [])) _
                    refine XS.aloadN X125.here hx rfl (hb hby d_prog_4_method_13_70) rfl rfl ?_
                    show Steps p.tables e below (T125.setTop (mkF m 71 #[.val (.ref a1), .val (.ref a2), .unset] [(.ref a2)])) _
                    refine st129 _ ?_
                    show Steps p.tables e below (T129.setTop (mkF m 74 #[.val (.ref a1), .val (.ref a2), .unset] [(.ref aL), (.ref a2)])) _
                    exact kk)
                by_cases hc131 : a2 = aL
                · obtain ⟨T132, X132, e132, st132⟩ := getS2 X129 hx hZ hown (host := "") (Or.inl (hw _ (List.mem_of_getElem? (i := 32) rfl))) Via.refl e129 (SaL.ext O0.2) (g := (mkF m 77 #[.val (.ref a1), .val (.ref a2), .unset] [])) rfl (hb hby d_prog_4_method_13_77)
                  obtain ⟨fs, hr, hrun, hended, hW, hsame⟩ := X132.leave (v := some (.ref aL)) (fun h => by rw [Bd.returns] at h; cases h)
                  refine ⟨_, _, pre130 _ ?_, hrun, hended, _, _, rfl, ?_, ⟨_, rfl⟩, hW, hsame.mono (by decide) (by decide)⟩
                  · refine Jvm.RoadKit.acmp (g := (mkF m 74 #[.val (.ref a1), .val (.ref a2), .unset] [(.ref aL), (.ref a2)])) X129 hx rfl rfl rfl (pc0 := 74) (pc' := 77) (same := true) rfl (hb hby d_prog_4_method_13_74) rfl (decide_eq_true (congrArg Value.ref hc131)) (by decide) (by decide) ?_
                    show Steps p.tables e below (T129.setTop (mkF m 77 #[.val (.ref a1), .val (.ref a2), .unset] [])) _
                    refine st132 _ ?_
                    show Steps p.tables e below (T132.setTop (mkF m 80 #[.val (.ref a1), .val (.ref a2), .unset] [(.ref aL)])) _
                    refine XS.astoreN X132.here hx rfl (hb hby d_prog_4_method_13_80) rfl rfl (l' := #[.val (.ref a1), .val (.ref a2), .val (.ref aL)]) rfl ?_
                    refine XS.goto X132.here hx rfl (pc0 := 81) (pc' := 88) rfl (hb hby d_prog_4_method_13_81) (by decide) (by decide) ?_
                    refine XS.aloadN X132.here hx rfl (hb hby d_prog_4_method_13_88) rfl rfl ?_
                    show Steps p.tables e below (T132.setTop (mkF m 89 #[.val (.ref a1), .val (.ref a2), .val (.ref aL)] [(.ref aL)])) _
                    exact retOut X132 hx (t := (.object "com/example/serialpoint/serialpoint/Algorithm")) (i := .areturn) Bd.returns rfl (Or.inr (Or.inr (Or.inr (Or.inr ⟨rfl, rfl, rfl⟩)))) (hb hby d_prog_4_method_13_89) hr
                  · show Q_wi Z a1 a2 aA aS aW aD aL aR h0 n0 _ T132.heap _
                    rw [e132]
                    exact ⟨(by simp [own_with, eq_false hc103, eq_false hc107, eq_false hc111, eq_false hc115, eq_false hc119, eq_false hc123, eq_false hc127, eq_true hc131]), N0, rfl⟩
                · obtain ⟨T133, X133, e133, st133⟩ := getS2 X129 hx hZ hown (host := "") (Or.inl (hw _ (List.mem_of_getElem? (i := 34) rfl))) Via.refl e129 (SaW.ext O0.2) (g := (mkF m 84 #[.val (.ref a1), .val (.ref a2), .unset] [])) rfl (hb hby d_prog_4_method_13_84)
                  obtain ⟨fs, hr, hrun, hended, hW, hsame⟩ := X133.leave (v := some (.ref aW)) (fun h => by rw [Bd.returns] at h; cases h)
                  refine ⟨_, _, pre130 _ ?_, hrun, hended, _, _, rfl, ?_, ⟨_, rfl⟩, hW, hsame.mono (by decide) (by decide)⟩
                  · refine Jvm.RoadKit.acmp (g := (mkF m 74 #[.val (.ref a1), .val (.ref a2), .unset] [(.ref aL), (.ref a2)])) X129 hx rfl rfl rfl (pc0 := 74) (pc' := 84) (same := false) rfl (hb hby d_prog_4_method_13_74) rfl (decide_eq_false fun q => hc131 (Value.ref.inj q)) (by decide) (by decide) ?_
                    show Steps p.tables e below (T129.setTop (mkF m 84 #[.val (.ref a1), .val (.ref a2), .unset] [])) _
                    refine st133 _ ?_
                    show Steps p.tables e below (T133.setTop (mkF m 87 #[.val (.ref a1), .val (.ref a2), .unset] [(.ref aW)])) _
                    refine XS.astoreN X133.here hx rfl (hb hby d_prog_4_method_13_87) rfl rfl (l' := #[.val (.ref a1), .val (.ref a2), .val (.ref aW)]) rfl ?_
                    refine XS.aloadN X133.here hx rfl (hb hby d_prog_4_method_13_88) rfl rfl ?_
                    show Steps p.tables e below (T133.setTop (mkF m 89 #[.val (.ref a1), .val (.ref a2), .val (.ref aW)] [(.ref aW)])) _
                    exact retOut X133 hx (t := (.object "com/example/serialpoint/serialpoint/Algorithm")) (i := .areturn) Bd.returns rfl (Or.inr (Or.inr (Or.inr (Or.inr ⟨rfl, rfl, rfl⟩)))) (hb hby d_prog_4_method_13_89) hr
                  · show Q_wi Z a1 a2 aA aS aW aD aL aR h0 n0 _ T133.heap _
                    rw [e133]
                    exact ⟨(by simp [own_with, eq_false hc103, eq_false hc107, eq_false hc111, eq_false hc115, eq_false hc119, eq_false hc123, eq_false hc127, eq_false hc131]), N0, rfl⟩
theorem ef_law (m : MethodId) (p1 : Int32) (p2 : Int32) : entryFrame m #[(.int p1), (.int p2)] maxLocals = mkF m 0 #[.val (.int p1), .val (.int p2), .unset, .unset, .unset, .unset, .unset, .unset] [] := by first | (simp [entryFrame, mkF, argsToLocals, Value.category, maxLocals]; done) | rfl
def Q_law (Z : State) (p1 : Int32) (p2 : Int32) (aA : Addr) (aS : Addr) (aW : Addr) (aD : Addr) (aL : Addr) (aR : Addr) (h0 : Heap) (n0 : Nat) (v : Option Value) (h : Heap) (L : List Loc) : Prop := v = some (.int 1) ∧ Fr n0 L
set_option maxRecDepth 65536 in
set_option maxHeartbeats 40000000 in
theorem rm_law (l : Launch) (Z : State) (a0 : Array Value) (hw : ∀ d ∈ tables_1, d.before a0 Z = true) (ws : List Jvm.Cond) (p1 : Int32) (p2 : Int32) (aA : Addr) (aS : Addr) (aW : Addr) (aD : Addr) (aL : Addr) (aR : Addr) (h0 : Heap) (n0 : Nat) (O0 : Old Z n0 h0) (SaA : Sta Z Z.heap "com/example/serialpoint/serialpoint/Algorithm" "AUTO" "Lcom/example/serialpoint/serialpoint/Algorithm;" (.ref aA)) (SaS : Sta Z Z.heap "com/example/serialpoint/serialpoint/Algorithm" "SEARCH" "Lcom/example/serialpoint/serialpoint/Algorithm;" (.ref aS)) (SaW : Sta Z Z.heap "com/example/serialpoint/serialpoint/Algorithm" "SINGLE_WRITER" "Lcom/example/serialpoint/serialpoint/Algorithm;" (.ref aW)) (SaD : Sta Z Z.heap "com/example/serialpoint/serialpoint/Algorithm" "DISTINCT_VALUES" "Lcom/example/serialpoint/serialpoint/Algorithm;" (.ref aD)) (SaL : Sta Z Z.heap "com/example/serialpoint/serialpoint/Algorithm" "LIST_APPEND" "Lcom/example/serialpoint/serialpoint/Algorithm;" (.ref aL)) (SaR : Sta Z Z.heap "com/example/serialpoint/serialpoint/Algorithm" "RW_REGISTER" "Lcom/example/serialpoint/serialpoint/Algorithm;" (.ref aR)) (EaA : Exa Z Z.heap aA "com/example/serialpoint/serialpoint/Algorithm") (EaS : Exa Z Z.heap aS "com/example/serialpoint/serialpoint/Algorithm") (EaW : Exa Z Z.heap aW "com/example/serialpoint/serialpoint/Algorithm") (EaD : Exa Z Z.heap aD "com/example/serialpoint/serialpoint/Algorithm") (EaL : Exa Z Z.heap aL "com/example/serialpoint/serialpoint/Algorithm") (EaR : Exa Z Z.heap aR "com/example/serialpoint/serialpoint/Algorithm") (hd0 : aS ≠ aD) (hd1 : aS ≠ aR) (hd2 : aS ≠ aL) (hd3 : aS ≠ aW) (hd4 : aS ≠ aA) (hd5 : aD ≠ aR) (hd6 : aD ≠ aL) (hd7 : aD ≠ aW) (hd8 : aD ≠ aA) (hd9 : aR ≠ aL) (hd10 : aR ≠ aW) (hd11 : aR ≠ aA) (hd12 : aL ≠ aW) (hd13 : aL ≠ aA) :
    MetFree l x (head1 (Jvm.Cond.code x code maxLocals ret :: ws) room_1) (fun a U => a = #[(.int p1), (.int p2)] ∧ Z.Warmed39 U.vm ∧ U.heap = h0) (fun _ _ _ _ _ => True) (fun _ U o U' => ∃ v L, o = .returned v ∧ Q_law Z p1 p2 aA aS aW aD aL aR h0 n0 v U'.heap L ∧ FrameEnd U o U' L room_1.cells room_1.slots) := by
  refine MetFree.of_bodySF (plainFor_of_name pn_0) hisR ?_
  intro p e s m args below meth c s₁ Bd hml0 hP hK
  obtain ⟨rfl, hZ, hh⟩ := hP
  have hx := Bd.exec
  have hby := Bd.bytes
  have hml : c.maxLocals = 8 := hml0
  have hown : s.vm.findClass "com/example/serialpoint/serialpoint/AlgorithmWithPinLaw" = some m.cls := findClass_of_methodNamed Bd.named
  have hnm := (name_of_methodNamed Bd.named Bd.method).1
  have X0 : Stand p l e room_1 s m #[(.int p1), (.int p2)] below meth c s₁ [] 0 0 := Stand.of_body Bd
  have e0 : s₁.heap = h0 := by rw [← hh, Bd.state]; rfl
  have N0 := Fr.nil n0
  have pre0 : ∀ t, Steps p.tables e below (s₁.setTop (mkF m 0 #[.val (.int p1), .val (.int p2), .unset, .unset, .unset, .unset, .unset, .unset] [])) t → Steps p.tables e below (s₁.setTop (entryFrame m #[(.int p1), (.int p2)] maxLocals)) t := fun t k => castTop (ef_law m p1 p2) k
  obtain ⟨n1, hn1, hv1⟩ := own_mod6 p1
  obtain ⟨n2, hn2, hv2⟩ := own_mod6 p2
  have b1 := own_in6 n1 hn1
  have b2 := own_in6 n2 hn2
  obtain ⟨T101, h101, k101, X101, e101, E101, A101, st101⟩ := newP X0 hx hZ (hw _ (List.mem_of_getElem? (i := 1) rfl)) e0 (g := (mkF m 18 #[.val (.int p1), .val (.int p2), .val (.int (Int32.ofNat n1)), .val (.int (Int32.ofNat n2)), .unset, .unset, .unset, .unset] [(.int (6 : Int32))])) rfl (hb hby at_18) rfl (by decide) (cap := 6) (by decide) (by decide) (by decide) (by decide)
  obtain ⟨b101, g101⟩ : ∃ z, z = h0.size := ⟨_, rfl⟩
  rw [← g101] at A101 st101
  have g_b101 : n0 ≤ b101 := Nat.le_trans (own_szO O0) (Nat.le_of_eq g101.symm)
  have O101 := O0.ext E101
  have V101 : Arv Z h101 b101 k101 .int (6 : Int32) [(.int (0 : Int32)), (.int (0 : Int32)), (.int (0 : Int32)), (.int (0 : Int32)), (.int (0 : Int32)), (.int (0 : Int32))] (.int (0 : Int32)) := (Arv.new A101 (by decide)).pad (pad_rep [] (.int (0 : Int32)) 6)
  obtain ⟨cl102, Ar102, q102, S102, Ne102, H102, G102⟩ := id V101
  have hin102 : ¬ ((0 : Int32) < 0 ∨ cl102.slots.size ≤ ((0 : Int32)).toNatClampNeg) := inb_of S102 ⟨by decide, by decide⟩
  obtain ⟨T103, h103, X103, e103, W103, st103⟩ := stI X101 hx hZ e101 Ar102 (j := (0 : Int32)) hin102 (g := (mkF m 23 #[.val (.int p1), .val (.int p2), .val (.int (Int32.ofNat n1)), .val (.int (Int32.ofNat n2)), .unset, .unset, .unset, .unset] [(.int (0 : Int32)), (.int (0 : Int32)), (.ref b101), (.ref b101)])) rfl rfl (hb hby at_23)
  have V103 : Arv Z h103 b101 k101 .int (6 : Int32) [(.int (0 : Int32)), (.int (0 : Int32)), (.int (0 : Int32)), (.int (0 : Int32)), (.int (0 : Int32)), (.int (0 : Int32))] (.int (0 : Int32)) := Arv.set Ar102 q102 S102 Ne102 H102 G102 rfl W103 0 rfl (Nat.le_of_ble_eq_true rfl)
  have N103 := Fr.snoc X103 N0 g_b101
  have O103 := O101.wr W103 g_b101
  obtain ⟨cl104, Ar104, q104, S104, Ne104, H104, G104⟩ := id V103
  have hin104 : ¬ ((1 : Int32) < 0 ∨ cl104.slots.size ≤ ((1 : Int32)).toNatClampNeg) := inb_of S104 ⟨by decide, by decide⟩
  obtain ⟨T105, h105, X105, e105, W105, st105⟩ := stI X103 hx hZ e103 Ar104 (j := (1 : Int32)) hin104 (g := (mkF m 27 #[.val (.int p1), .val (.int p2), .val (.int (Int32.ofNat n1)), .val (.int (Int32.ofNat n2)), .unset, .unset, .unset, .unset] [(.int (4 : Int32)), (.int (1 : Int32)), (.ref b101), (.ref b101)])) rfl rfl (hb hby at_27)
  have V105 : Arv Z h105 b101 k101 .int (6 : Int32) [(.int (0 : Int32)), (.int (4 : Int32)), (.int (0 : Int32)), (.int (0 : Int32)), (.int (0 : Int32)), (.int (0 : Int32))] (.int (0 : Int32)) := Arv.set Ar104 q104 S104 Ne104 H104 G104 rfl W105 1 rfl (Nat.le_of_ble_eq_true rfl)
  have N105 := Fr.snoc X105 N103 g_b101
  have O105 := O103.wr W105 g_b101
  obtain ⟨cl106, Ar106, q106, S106, Ne106, H106, G106⟩ := id V105
  have hin106 : ¬ ((2 : Int32) < 0 ∨ cl106.slots.size ≤ ((2 : Int32)).toNatClampNeg) := inb_of S106 ⟨by decide, by decide⟩
  obtain ⟨T107, h107, X107, e107, W107, st107⟩ := stI X105 hx hZ e105 Ar106 (j := (2 : Int32)) hin106 (g := (mkF m 31 #[.val (.int p1), .val (.int p2), .val (.int (Int32.ofNat n1)), .val (.int (Int32.ofNat n2)), .unset, .unset, .unset, .unset] [(.int (0 : Int32)), (.int (2 : Int32)), (.ref b101), (.ref b101)])) rfl rfl (hb hby at_31)
  have V107 : Arv Z h107 b101 k101 .int (6 : Int32) [(.int (0 : Int32)), (.int (4 : Int32)), (.int (0 : Int32)), (.int (0 : Int32)), (.int (0 : Int32)), (.int (0 : Int32))] (.int (0 : Int32)) := Arv.set Ar106 q106 S106 Ne106 H106 G106 rfl W107 2 rfl (Nat.le_of_ble_eq_true rfl)
  have N107 := Fr.snoc X107 N105 g_b101
  have O107 := O105.wr W107 g_b101
  obtain ⟨cl108, Ar108, q108, S108, Ne108, H108, G108⟩ := id V107
  have hin108 : ¬ ((3 : Int32) < 0 ∨ cl108.slots.size ≤ ((3 : Int32)).toNatClampNeg) := inb_of S108 ⟨by decide, by decide⟩
  obtain ⟨T109, h109, X109, e109, W109, st109⟩ := stI X107 hx hZ e107 Ar108 (j := (3 : Int32)) hin108 (g := (mkF m 35 #[.val (.int p1), .val (.int p2), .val (.int (Int32.ofNat n1)), .val (.int (Int32.ofNat n2)), .unset, .unset, .unset, .unset] [(.int (3 : Int32)), (.int (3 : Int32)), (.ref b101), (.ref b101)])) rfl rfl (hb hby at_35)
  have V109 : Arv Z h109 b101 k101 .int (6 : Int32) [(.int (0 : Int32)), (.int (4 : Int32)), (.int (0 : Int32)), (.int (3 : Int32)), (.int (0 : Int32)), (.int (0 : Int32))] (.int (0 : Int32)) := Arv.set Ar108 q108 S108 Ne108 H108 G108 rfl W109 3 rfl (Nat.le_of_ble_eq_true rfl)
  have N109 := Fr.snoc X109 N107 g_b101
  have O109 := O107.wr W109 g_b101
  obtain ⟨cl110, Ar110, q110, S110, Ne110, H110, G110⟩ := id V109
  have hin110 : ¬ ((4 : Int32) < 0 ∨ cl110.slots.size ≤ ((4 : Int32)).toNatClampNeg) := inb_of S110 ⟨by decide, by decide⟩
  obtain ⟨T111, h111, X111, e111, W111, st111⟩ := stI X109 hx hZ e109 Ar110 (j := (4 : Int32)) hin110 (g := (mkF m 39 #[.val (.int p1), .val (.int p2), .val (.int (Int32.ofNat n1)), .val (.int (Int32.ofNat n2)), .unset, .unset, .unset, .unset] [(.int (1 : Int32)), (.int (4 : Int32)), (.ref b101), (.ref b101)])) rfl rfl (hb hby at_39)
  have V111 : Arv Z h111 b101 k101 .int (6 : Int32) [(.int (0 : Int32)), (.int (4 : Int32)), (.int (0 : Int32)), (.int (3 : Int32)), (.int (1 : Int32)), (.int (0 : Int32))] (.int (0 : Int32)) := Arv.set Ar110 q110 S110 Ne110 H110 G110 rfl W111 4 rfl (Nat.le_of_ble_eq_true rfl)
  have N111 := Fr.snoc X111 N109 g_b101
  have O111 := O109.wr W111 g_b101
  obtain ⟨cl112, Ar112, q112, S112, Ne112, H112, G112⟩ := id V111
  have hin112 : ¬ ((5 : Int32) < 0 ∨ cl112.slots.size ≤ ((5 : Int32)).toNatClampNeg) := inb_of S112 ⟨by decide, by decide⟩
  obtain ⟨T113, h113, X113, e113, W113, st113⟩ := stI X111 hx hZ e111 Ar112 (j := (5 : Int32)) hin112 (g := (mkF m 43 #[.val (.int p1), .val (.int p2), .val (.int (Int32.ofNat n1)), .val (.int (Int32.ofNat n2)), .unset, .unset, .unset, .unset] [(.int (2 : Int32)), (.int (5 : Int32)), (.ref b101), (.ref b101)])) rfl rfl (hb hby at_43)
  have V113 : Arv Z h113 b101 k101 .int (6 : Int32) [(.int (0 : Int32)), (.int (4 : Int32)), (.int (0 : Int32)), (.int (3 : Int32)), (.int (1 : Int32)), (.int (2 : Int32))] (.int (0 : Int32)) := Arv.set Ar112 q112 S112 Ne112 H112 G112 rfl W113 5 rfl (Nat.le_of_ble_eq_true rfl)
  have N113 := Fr.snoc X113 N111 g_b101
  have O113 := O111.wr W113 g_b101
  obtain ⟨_, _, ⟨T114, L114, k114, n114⟩, -, X114, ⟨Lc114, hQ114, l114, y114, z114⟩, st114⟩ := Jvm.LawKit.callS X113 hx (y := (⟨"com/example/serialpoint/serialpoint/AlgorithmWithPinLaw", "pick", "(I)Lcom/example/serialpoint/serialpoint/Algorithm;"⟩ : MethodName)) hown (mvT hZ (hw _ (List.mem_of_getElem? (i := 2) rfl))) (mvT hZ (hw _ (List.mem_of_getElem? (i := 3) rfl))) (mvT hZ (hw _ (List.mem_of_getElem? (i := 4) rfl))) (mvT hZ (hw _ (List.mem_of_getElem? (i := 5) rfl))) (by decide) (backOf (W := 0) (rm_pick l Z a0 hw [] (Int32.ofNat n1) aA aS aW aD aL aR h113 n0 O113 SaA SaS SaW SaD SaL SaR) hZ (hw _ (List.mem_of_getElem? (i := 5) rfl)) (hw _ (List.mem_of_getElem? (i := 4) rfl)) (by decide) (by decide)) (g := (mkF m 47 #[.val (.int p1), .val (.int p2), .val (.int (Int32.ofNat n1)), .val (.int (Int32.ofNat n2)), .val (.ref b101), .unset, .unset, .unset] [(.int (Int32.ofNat n1))])) rfl (by rw [hml]; rfl) (argsL := [(.int (Int32.ofNat n1))]) (rest := []) (lenOf pd_0 rfl) rfl (by show 2 * 0 + _ ≤ _; exact Nat.le_of_eq rfl) (hb hby at_47) (fun _ _ => ⟨rfl, e113, (by decide : 1 + 0 ≤ _), (by decide : 6 + 0 ≤ _)⟩)
  dsimp only [Pt.U, Pt.locs, Pt.cells, Pt.slots] at X114 l114 y114 z114 st114 hQ114
  subst l114 y114 z114
  obtain ⟨rfl, Nq114, e114⟩ := hQ114
  have N114 := Fr.app N113 Nq114
  have Ep114 : Exa Z Z.heap (own_pick (Int32.ofNat n1) aA aS aW aD aL aR) "com/example/serialpoint/serialpoint/Algorithm" := own_pickP (P := fun z => Exa Z Z.heap z "com/example/serialpoint/serialpoint/Algorithm") _ EaA EaS EaW EaD EaL EaR
  obtain ⟨_, _, ⟨T115, L115, k115, n115⟩, -, X115, ⟨Lc115, hQ115, l115, y115, z115⟩, st115⟩ := Jvm.LawKit.callS X114 hx (y := (⟨"com/example/serialpoint/serialpoint/AlgorithmWithPinLaw", "pick", "(I)Lcom/example/serialpoint/serialpoint/Algorithm;"⟩ : MethodName)) hown (mvT hZ (hw _ (List.mem_of_getElem? (i := 2) rfl))) (mvT hZ (hw _ (List.mem_of_getElem? (i := 3) rfl))) (mvT hZ (hw _ (List.mem_of_getElem? (i := 4) rfl))) (mvT hZ (hw _ (List.mem_of_getElem? (i := 5) rfl))) (by decide) (backOf (W := 0) (rm_pick l Z a0 hw [] (Int32.ofNat n2) aA aS aW aD aL aR h113 n0 O113 SaA SaS SaW SaD SaL SaR) hZ (hw _ (List.mem_of_getElem? (i := 5) rfl)) (hw _ (List.mem_of_getElem? (i := 4) rfl)) (by decide) (by decide)) (g := (mkF m 53 #[.val (.int p1), .val (.int p2), .val (.int (Int32.ofNat n1)), .val (.int (Int32.ofNat n2)), .val (.ref b101), .val (.ref (own_pick (Int32.ofNat n1) aA aS aW aD aL aR)), .unset, .unset] [(.int (Int32.ofNat n2))])) rfl (by rw [hml]; rfl) (argsL := [(.int (Int32.ofNat n2))]) (rest := []) (lenOf pd_0 rfl) rfl (by show 2 * 0 + _ ≤ _; exact Nat.le_of_eq rfl) (hb hby at_53) (fun _ _ => ⟨rfl, e114, (by decide : 1 + 0 ≤ _), (by decide : 6 + 0 ≤ _)⟩)
  dsimp only [Pt.U, Pt.locs, Pt.cells, Pt.slots] at X115 l115 y115 z115 st115 hQ115
  subst l115 y115 z115
  obtain ⟨rfl, Nq115, e115⟩ := hQ115
  have N115 := Fr.app N114 Nq115
  have Ep115 : Exa Z Z.heap (own_pick (Int32.ofNat n2) aA aS aW aD aL aR) "com/example/serialpoint/serialpoint/Algorithm" := own_pickP (P := fun z => Exa Z Z.heap z "com/example/serialpoint/serialpoint/Algorithm") _ EaA EaS EaW EaD EaL EaR
  obtain ⟨cl116, Ar116, q116, S116, Ne116, H116, G116⟩ := id V113
  have hin116 : ¬ ((Int32.ofNat n1) < 0 ∨ cl116.slots.size ≤ ((Int32.ofNat n1)).toNatClampNeg) := inb_of S116 b1
  have hat116 : cl116.slots[((Int32.ofNat n1)).toNatClampNeg]? = some (.int (own_rank (Int32.ofNat n1))) := H116.at hin116 (own_getD [0, 4, 0, 3, 1, 2] _)
  obtain ⟨cl117, Ar117, q117, S117, Ne117, H117, G117⟩ := id V113
  have hin117 : ¬ ((Int32.ofNat n2) < 0 ∨ cl117.slots.size ≤ ((Int32.ofNat n2)).toNatClampNeg) := inb_of S117 b2
  have hat117 : cl117.slots[((Int32.ofNat n2)).toNatClampNeg]? = some (.int (own_rank (Int32.ofNat n2))) := H117.at hin117 (own_getD [0, 4, 0, 3, 1, 2] _)
  obtain ⟨_, _, ⟨T118, L118, k118, n118⟩, -, X118, ⟨Lc118, hQ118, l118, y118, z118⟩, st118⟩ := Jvm.LawKit.callS X115 hx (y := (⟨"java/lang/Math", "max", "(II)I"⟩ : MethodName)) hown (mvT hZ (hw _ (List.mem_of_getElem? (i := 11) rfl))) (mvT hZ (hw _ (List.mem_of_getElem? (i := 12) rfl))) (mvT hZ (hw _ (List.mem_of_getElem? (i := 13) rfl))) (mvT hZ (hw _ (List.mem_of_getElem? (i := 14) rfl))) (by decide) (backOf (W := 0) (rm_mx l Z a0 hw [] (own_rank (Int32.ofNat n1)) (own_rank (Int32.ofNat n2)) h113 n0 O113 ) hZ (hw _ (List.mem_of_getElem? (i := 14) rfl)) (hw _ (List.mem_of_getElem? (i := 13) rfl)) (by decide) (by decide)) (g := (mkF m 66 #[.val (.int p1), .val (.int p2), .val (.int (Int32.ofNat n1)), .val (.int (Int32.ofNat n2)), .val (.ref b101), .val (.ref (own_pick (Int32.ofNat n1) aA aS aW aD aL aR)), .val (.ref (own_pick (Int32.ofNat n2) aA aS aW aD aL aR)), .unset] [(.int (own_rank (Int32.ofNat n2))), (.int (own_rank (Int32.ofNat n1)))])) rfl (by rw [hml]; rfl) (argsL := [(.int (own_rank (Int32.ofNat n1))), (.int (own_rank (Int32.ofNat n2)))]) (rest := []) (lenOf pd_1 rfl) rfl (by show 2 * 0 + _ ≤ _; exact Nat.le_of_eq rfl) (hb hby at_66) (fun _ _ => ⟨rfl, e115, (by decide : 1 + 0 ≤ _), (by decide : 6 + 0 ≤ _)⟩)
  dsimp only [Pt.U, Pt.locs, Pt.cells, Pt.slots] at X118 l118 y118 z118 st118 hQ118
  subst l118 y118 z118
  obtain ⟨rfl, Nq118, e118⟩ := hQ118
  have N118 := Fr.app N115 Nq118
  obtain ⟨_, _, ⟨T119, L119, k119, n119⟩, -, X119, ⟨Lc119, hQ119, l119, y119, z119⟩, st119⟩ := Jvm.LawKit.callS X118 hx (y := (⟨"com/example/serialpoint/serialpoint/AlgorithmWithPinLaw", "ofRank", "(I)Lcom/example/serialpoint/serialpoint/Algorithm;"⟩ : MethodName)) hown (mvT hZ (hw _ (List.mem_of_getElem? (i := 15) rfl))) (mvT hZ (hw _ (List.mem_of_getElem? (i := 16) rfl))) (mvT hZ (hw _ (List.mem_of_getElem? (i := 4) rfl))) (mvT hZ (hw _ (List.mem_of_getElem? (i := 17) rfl))) (by decide) (backOf (W := 0) (rm_ofr l Z a0 hw [] (own_max (own_rank (Int32.ofNat n1)) (own_rank (Int32.ofNat n2))) aA aS aW aD aL aR h113 n0 O113 SaA SaS SaW SaD SaL SaR) hZ (hw _ (List.mem_of_getElem? (i := 17) rfl)) (hw _ (List.mem_of_getElem? (i := 4) rfl)) (by decide) (by decide)) (g := (mkF m 69 #[.val (.int p1), .val (.int p2), .val (.int (Int32.ofNat n1)), .val (.int (Int32.ofNat n2)), .val (.ref b101), .val (.ref (own_pick (Int32.ofNat n1) aA aS aW aD aL aR)), .val (.ref (own_pick (Int32.ofNat n2) aA aS aW aD aL aR)), .unset] [(.int (own_max (own_rank (Int32.ofNat n1)) (own_rank (Int32.ofNat n2))))])) rfl (by rw [hml]; rfl) (argsL := [(.int (own_max (own_rank (Int32.ofNat n1)) (own_rank (Int32.ofNat n2))))]) (rest := []) (lenOf pd_0 rfl) rfl (by show 2 * 0 + _ ≤ _; exact Nat.le_of_eq rfl) (hb hby at_69) (fun _ _ => ⟨rfl, e118, (by decide : 1 + 0 ≤ _), (by decide : 6 + 0 ≤ _)⟩)
  dsimp only [Pt.U, Pt.locs, Pt.cells, Pt.slots] at X119 l119 y119 z119 st119 hQ119
  subst l119 y119 z119
  obtain ⟨rfl, Nq119, e119⟩ := hQ119
  have N119 := Fr.app N118 Nq119
  obtain ⟨cq120, kq120, q120a, q120b, q120c⟩ := isOf hZ e119 (Ep114.ext O113.2)
  obtain ⟨_, _, ⟨T120, L120, k120, n120⟩, -, X120, ⟨Lc120, hQ120, l120, y120, z120⟩, st120⟩ := X119.virtualBack hx (y := (⟨"com/example/serialpoint/serialpoint/Algorithm", "with", "(Lcom/example/serialpoint/serialpoint/Algorithm;)Lcom/example/serialpoint/serialpoint/Algorithm;"⟩ : MethodName)) (z := (⟨"com/example/serialpoint/serialpoint/Algorithm", "with", "(Lcom/example/serialpoint/serialpoint/Algorithm;)Lcom/example/serialpoint/serialpoint/Algorithm;"⟩ : MethodName)) hown (mvT hZ (hw _ (List.mem_of_getElem? (i := 18) rfl))) (mvT hZ (hw _ (List.mem_of_getElem? (i := 19) rfl))) (notFace_of_selects (args := #[]) (mvT hZ (hw _ (List.mem_of_getElem? (i := 21) rfl)))) (mvT hZ (hw _ (List.mem_of_getElem? (i := 21) rfl))) (mvT hZ (hw _ (List.mem_of_getElem? (i := 20) rfl))) (by decide) (backOf (W := 0) (rm_wi l Z a0 hw [] (own_pick (Int32.ofNat n1) aA aS aW aD aL aR) (own_pick (Int32.ofNat n2) aA aS aW aD aL aR) aA aS aW aD aL aR h113 n0 O113 SaA SaS SaW SaD SaL SaR) hZ (hw _ (List.mem_of_getElem? (i := 22) rfl)) (hw _ (List.mem_of_getElem? (i := 7) rfl)) (by decide) (by decide)) q120a q120c (g := (mkF m 78 #[.val (.int p1), .val (.int p2), .val (.int (Int32.ofNat n1)), .val (.int (Int32.ofNat n2)), .val (.ref b101), .val (.ref (own_pick (Int32.ofNat n1) aA aS aW aD aL aR)), .val (.ref (own_pick (Int32.ofNat n2) aA aS aW aD aL aR)), .val (.ref (own_of (own_max (own_rank (Int32.ofNat n1)) (own_rank (Int32.ofNat n2))) aA aS aW aD aL aR))] [(.ref (own_pick (Int32.ofNat n2) aA aS aW aD aL aR)), (.ref (own_pick (Int32.ofNat n1) aA aS aW aD aL aR))])) rfl (by rw [hml]; rfl) (Steps.refl _) (argsL := [(.ref (own_pick (Int32.ofNat n2) aA aS aW aD aL aR))]) (rest := []) (lenOf pd_2 rfl) rfl (by show 2 * 0 + _ ≤ _; exact Nat.le_of_eq rfl) (hb hby at_78) (fun _ _ => ⟨rfl, e119, (by decide : 1 + 0 ≤ _), (by decide : 6 + 0 ≤ _)⟩)
  dsimp only [Pt.U, Pt.locs, Pt.cells, Pt.slots] at X120 l120 y120 z120 st120 hQ120
  subst l120 y120 z120
  obtain ⟨rfl, Nq120, e120⟩ := hQ120
  have N120 := Fr.app N119 Nq120
  have hc121 : (own_with (own_pick (Int32.ofNat n1) aA aS aW aD aL aR) (own_pick (Int32.ofNat n2) aA aS aW aD aL aR) aA aS aW aD aL aR) = (own_of (own_max (own_rank (Int32.ofNat n1)) (own_rank (Int32.ofNat n2))) aA aS aW aD aL aR) := (own_final hd0 hd1 hd2 hd3 hd4 hd5 hd6 hd7 hd8 hd9 hd10 hd11 hd12 hd13 n1 n2 hn1 hn2)
  obtain ⟨fs, hr, hrun, hended, hW, hsame⟩ := X120.leave (v := some (.int (1 : Int32))) (fun h => by rw [Bd.returns] at h; cases h)
  refine ⟨_, _, pre0 _ ?_, hrun, hended, _, _, rfl, ?_, ⟨_, rfl⟩, hW, hsame.mono (by decide) (by decide)⟩
  · show Steps p.tables e below (s₁.setTop (mkF m 0 #[.val (.int p1), .val (.int p2), .unset, .unset, .unset, .unset, .unset, .unset] [])) _
    refine XS.iloadN X0.here hx rfl (hb hby at_0) rfl ?_
    show Steps p.tables e below (s₁.setTop (mkF m 1 #[.val (.int p1), .val (.int p2), .unset, .unset, .unset, .unset, .unset, .unset] [(.int p1)])) _
    refine X0.ldcInt hx hown (mvT hZ (hw _ (List.mem_of_getElem? (i := 0) rfl))) (g := (mkF m 1 #[.val (.int p1), .val (.int p2), .unset, .unset, .unset, .unset, .unset, .unset] [(.int p1)])) rfl (hb hby at_1) _ ?_
    show Steps p.tables e below (s₁.setTop (mkF m 3 #[.val (.int p1), .val (.int p2), .unset, .unset, .unset, .unset, .unset, .unset] [(.int (2147483647 : Int32)), (.int p1)])) _
    refine XS.iand X0.here hx rfl (hb hby at_3) rfl ?_
    refine XS.bipush X0.here hx rfl (hb hby at_4) ?_
    refine XS.irem X0.here hx rfl (hb hby at_6) rfl (by decide) ?_
    show Steps p.tables e below (s₁.setTop (mkF m 7 #[.val (.int p1), .val (.int p2), .unset, .unset, .unset, .unset, .unset, .unset] [(.int ((p1 &&& (2147483647 : Int32)) - ((p1 &&& (2147483647 : Int32)) / (6 : Int32)) * (6 : Int32)))])) _
    rw [show ((p1 &&& (2147483647 : Int32)) - ((p1 &&& (2147483647 : Int32)) / (6 : Int32)) * (6 : Int32)) = (Int32.ofNat n1) from hv1]
    show Steps p.tables e below (s₁.setTop (mkF m 7 #[.val (.int p1), .val (.int p2), .unset, .unset, .unset, .unset, .unset, .unset] [(.int (Int32.ofNat n1))])) _
    refine XS.istoreN X0.here hx rfl (hb hby at_7) rfl (l' := #[.val (.int p1), .val (.int p2), .val (.int (Int32.ofNat n1)), .unset, .unset, .unset, .unset, .unset]) rfl ?_
    refine XS.iloadN X0.here hx rfl (hb hby at_8) rfl ?_
    show Steps p.tables e below (s₁.setTop (mkF m 9 #[.val (.int p1), .val (.int p2), .val (.int (Int32.ofNat n1)), .unset, .unset, .unset, .unset, .unset] [(.int p2)])) _
    refine X0.ldcInt hx hown (mvT hZ (hw _ (List.mem_of_getElem? (i := 0) rfl))) (g := (mkF m 9 #[.val (.int p1), .val (.int p2), .val (.int (Int32.ofNat n1)), .unset, .unset, .unset, .unset, .unset] [(.int p2)])) rfl (hb hby at_9) _ ?_
    show Steps p.tables e below (s₁.setTop (mkF m 11 #[.val (.int p1), .val (.int p2), .val (.int (Int32.ofNat n1)), .unset, .unset, .unset, .unset, .unset] [(.int (2147483647 : Int32)), (.int p2)])) _
    refine XS.iand X0.here hx rfl (hb hby at_11) rfl ?_
    refine XS.bipush X0.here hx rfl (hb hby at_12) ?_
    refine XS.irem X0.here hx rfl (hb hby at_14) rfl (by decide) ?_
    show Steps p.tables e below (s₁.setTop (mkF m 15 #[.val (.int p1), .val (.int p2), .val (.int (Int32.ofNat n1)), .unset, .unset, .unset, .unset, .unset] [(.int ((p2 &&& (2147483647 : Int32)) - ((p2 &&& (2147483647 : Int32)) / (6 : Int32)) * (6 : Int32)))])) _
    rw [show ((p2 &&& (2147483647 : Int32)) - ((p2 &&& (2147483647 : Int32)) / (6 : Int32)) * (6 : Int32)) = (Int32.ofNat n2) from hv2]
    show Steps p.tables e below (s₁.setTop (mkF m 15 #[.val (.int p1), .val (.int p2), .val (.int (Int32.ofNat n1)), .unset, .unset, .unset, .unset, .unset] [(.int (Int32.ofNat n2))])) _
    refine XS.istoreN X0.here hx rfl (hb hby at_15) rfl (l' := #[.val (.int p1), .val (.int p2), .val (.int (Int32.ofNat n1)), .val (.int (Int32.ofNat n2)), .unset, .unset, .unset, .unset]) rfl ?_
    refine XS.bipush X0.here hx rfl (hb hby at_16) ?_
    show Steps p.tables e below (s₁.setTop (mkF m 18 #[.val (.int p1), .val (.int p2), .val (.int (Int32.ofNat n1)), .val (.int (Int32.ofNat n2)), .unset, .unset, .unset, .unset] [(.int (6 : Int32))])) _
    refine st101 _ ?_
    show Steps p.tables e below (T101.setTop (mkF m 20 #[.val (.int p1), .val (.int p2), .val (.int (Int32.ofNat n1)), .val (.int (Int32.ofNat n2)), .unset, .unset, .unset, .unset] [(.ref b101)])) _
    refine XS.dup X101.here hx rfl (hb hby at_20) rfl rfl ?_
    refine XS.iconst X101.here hx rfl (hb hby at_21) ?_
    refine XS.iconst X101.here hx rfl (hb hby at_22) ?_
    show Steps p.tables e below (T101.setTop (mkF m 23 #[.val (.int p1), .val (.int p2), .val (.int (Int32.ofNat n1)), .val (.int (Int32.ofNat n2)), .unset, .unset, .unset, .unset] [(.int (0 : Int32)), (.int (0 : Int32)), (.ref b101), (.ref b101)])) _
    refine st103 _ ?_
    show Steps p.tables e below (T103.setTop (mkF m 24 #[.val (.int p1), .val (.int p2), .val (.int (Int32.ofNat n1)), .val (.int (Int32.ofNat n2)), .unset, .unset, .unset, .unset] [(.ref b101)])) _
    refine XS.dup X103.here hx rfl (hb hby at_24) rfl rfl ?_
    refine XS.iconst X103.here hx rfl (hb hby at_25) ?_
    refine XS.iconst X103.here hx rfl (hb hby at_26) ?_
    show Steps p.tables e below (T103.setTop (mkF m 27 #[.val (.int p1), .val (.int p2), .val (.int (Int32.ofNat n1)), .val (.int (Int32.ofNat n2)), .unset, .unset, .unset, .unset] [(.int (4 : Int32)), (.int (1 : Int32)), (.ref b101), (.ref b101)])) _
    refine st105 _ ?_
    show Steps p.tables e below (T105.setTop (mkF m 28 #[.val (.int p1), .val (.int p2), .val (.int (Int32.ofNat n1)), .val (.int (Int32.ofNat n2)), .unset, .unset, .unset, .unset] [(.ref b101)])) _
    refine XS.dup X105.here hx rfl (hb hby at_28) rfl rfl ?_
    refine XS.iconst X105.here hx rfl (hb hby at_29) ?_
    refine XS.iconst X105.here hx rfl (hb hby at_30) ?_
    show Steps p.tables e below (T105.setTop (mkF m 31 #[.val (.int p1), .val (.int p2), .val (.int (Int32.ofNat n1)), .val (.int (Int32.ofNat n2)), .unset, .unset, .unset, .unset] [(.int (0 : Int32)), (.int (2 : Int32)), (.ref b101), (.ref b101)])) _
    refine st107 _ ?_
    show Steps p.tables e below (T107.setTop (mkF m 32 #[.val (.int p1), .val (.int p2), .val (.int (Int32.ofNat n1)), .val (.int (Int32.ofNat n2)), .unset, .unset, .unset, .unset] [(.ref b101)])) _
    refine XS.dup X107.here hx rfl (hb hby at_32) rfl rfl ?_
    refine XS.iconst X107.here hx rfl (hb hby at_33) ?_
    refine XS.iconst X107.here hx rfl (hb hby at_34) ?_
    show Steps p.tables e below (T107.setTop (mkF m 35 #[.val (.int p1), .val (.int p2), .val (.int (Int32.ofNat n1)), .val (.int (Int32.ofNat n2)), .unset, .unset, .unset, .unset] [(.int (3 : Int32)), (.int (3 : Int32)), (.ref b101), (.ref b101)])) _
    refine st109 _ ?_
    show Steps p.tables e below (T109.setTop (mkF m 36 #[.val (.int p1), .val (.int p2), .val (.int (Int32.ofNat n1)), .val (.int (Int32.ofNat n2)), .unset, .unset, .unset, .unset] [(.ref b101)])) _
    refine XS.dup X109.here hx rfl (hb hby at_36) rfl rfl ?_
    refine XS.iconst X109.here hx rfl (hb hby at_37) ?_
    refine XS.iconst X109.here hx rfl (hb hby at_38) ?_
    show Steps p.tables e below (T109.setTop (mkF m 39 #[.val (.int p1), .val (.int p2), .val (.int (Int32.ofNat n1)), .val (.int (Int32.ofNat n2)), .unset, .unset, .unset, .unset] [(.int (1 : Int32)), (.int (4 : Int32)), (.ref b101), (.ref b101)])) _
    refine st111 _ ?_
    show Steps p.tables e below (T111.setTop (mkF m 40 #[.val (.int p1), .val (.int p2), .val (.int (Int32.ofNat n1)), .val (.int (Int32.ofNat n2)), .unset, .unset, .unset, .unset] [(.ref b101)])) _
    refine XS.dup X111.here hx rfl (hb hby at_40) rfl rfl ?_
    refine XS.iconst X111.here hx rfl (hb hby at_41) ?_
    refine XS.iconst X111.here hx rfl (hb hby at_42) ?_
    show Steps p.tables e below (T111.setTop (mkF m 43 #[.val (.int p1), .val (.int p2), .val (.int (Int32.ofNat n1)), .val (.int (Int32.ofNat n2)), .unset, .unset, .unset, .unset] [(.int (2 : Int32)), (.int (5 : Int32)), (.ref b101), (.ref b101)])) _
    refine st113 _ ?_
    show Steps p.tables e below (T113.setTop (mkF m 44 #[.val (.int p1), .val (.int p2), .val (.int (Int32.ofNat n1)), .val (.int (Int32.ofNat n2)), .unset, .unset, .unset, .unset] [(.ref b101)])) _
    refine XS.astore X113.here hx rfl (hb hby at_44) rfl rfl (l' := #[.val (.int p1), .val (.int p2), .val (.int (Int32.ofNat n1)), .val (.int (Int32.ofNat n2)), .val (.ref b101), .unset, .unset, .unset]) rfl ?_
    refine XS.iloadN X113.here hx rfl (hb hby at_46) rfl ?_
    show Steps p.tables e below (T113.setTop (mkF m 47 #[.val (.int p1), .val (.int p2), .val (.int (Int32.ofNat n1)), .val (.int (Int32.ofNat n2)), .val (.ref b101), .unset, .unset, .unset] [(.int (Int32.ofNat n1))])) _
    refine st114 _ ?_
    show Steps p.tables e below (T114.setTop (mkF m 50 #[.val (.int p1), .val (.int p2), .val (.int (Int32.ofNat n1)), .val (.int (Int32.ofNat n2)), .val (.ref b101), .unset, .unset, .unset] [(.ref (own_pick (Int32.ofNat n1) aA aS aW aD aL aR))])) _
    refine XS.astore X114.here hx rfl (hb hby at_50) rfl rfl (l' := #[.val (.int p1), .val (.int p2), .val (.int (Int32.ofNat n1)), .val (.int (Int32.ofNat n2)), .val (.ref b101), .val (.ref (own_pick (Int32.ofNat n1) aA aS aW aD aL aR)), .unset, .unset]) rfl ?_
    refine XS.iloadN X114.here hx rfl (hb hby at_52) rfl ?_
    show Steps p.tables e below (T114.setTop (mkF m 53 #[.val (.int p1), .val (.int p2), .val (.int (Int32.ofNat n1)), .val (.int (Int32.ofNat n2)), .val (.ref b101), .val (.ref (own_pick (Int32.ofNat n1) aA aS aW aD aL aR)), .unset, .unset] [(.int (Int32.ofNat n2))])) _
    refine st115 _ ?_
    show Steps p.tables e below (T115.setTop (mkF m 56 #[.val (.int p1), .val (.int p2), .val (.int (Int32.ofNat n1)), .val (.int (Int32.ofNat n2)), .val (.ref b101), .val (.ref (own_pick (Int32.ofNat n1) aA aS aW aD aL aR)), .unset, .unset] [(.ref (own_pick (Int32.ofNat n2) aA aS aW aD aL aR))])) _
    refine XS.astore X115.here hx rfl (hb hby at_56) rfl rfl (l' := #[.val (.int p1), .val (.int p2), .val (.int (Int32.ofNat n1)), .val (.int (Int32.ofNat n2)), .val (.ref b101), .val (.ref (own_pick (Int32.ofNat n1) aA aS aW aD aL aR)), .val (.ref (own_pick (Int32.ofNat n2) aA aS aW aD aL aR)), .unset]) rfl ?_
    refine XS.aload X115.here hx rfl (hb hby at_58) rfl rfl ?_
    refine XS.iloadN X115.here hx rfl (hb hby at_60) rfl ?_
    show Steps p.tables e below (T115.setTop (mkF m 61 #[.val (.int p1), .val (.int p2), .val (.int (Int32.ofNat n1)), .val (.int (Int32.ofNat n2)), .val (.ref b101), .val (.ref (own_pick (Int32.ofNat n1) aA aS aW aD aL aR)), .val (.ref (own_pick (Int32.ofNat n2) aA aS aW aD aL aR)), .unset] [(.int (Int32.ofNat n1)), (.ref b101)])) _
    refine X115.iaload hx (j := (Int32.ofNat n1)) (v := (.int (own_rank (Int32.ofNat n1)))) (by rw [e115]; exact Ar116.1) (State.isArrayOf_alike hZ.alike Ar116.2.1) Ar116.2.2 hin116 hat116 (g := (mkF m 61 #[.val (.int p1), .val (.int p2), .val (.int (Int32.ofNat n1)), .val (.int (Int32.ofNat n2)), .val (.ref b101), .val (.ref (own_pick (Int32.ofNat n1) aA aS aW aD aL aR)), .val (.ref (own_pick (Int32.ofNat n2) aA aS aW aD aL aR)), .unset] [(.int (Int32.ofNat n1)), (.ref b101)])) rfl rfl (hb hby at_61) _ ?_
    show Steps p.tables e below (T115.setTop (mkF m 62 #[.val (.int p1), .val (.int p2), .val (.int (Int32.ofNat n1)), .val (.int (Int32.ofNat n2)), .val (.ref b101), .val (.ref (own_pick (Int32.ofNat n1) aA aS aW aD aL aR)), .val (.ref (own_pick (Int32.ofNat n2) aA aS aW aD aL aR)), .unset] [(.int (own_rank (Int32.ofNat n1)))])) _
    refine XS.aload X115.here hx rfl (hb hby at_62) rfl rfl ?_
    refine XS.iloadN X115.here hx rfl (hb hby at_64) rfl ?_
    show Steps p.tables e below (T115.setTop (mkF m 65 #[.val (.int p1), .val (.int p2), .val (.int (Int32.ofNat n1)), .val (.int (Int32.ofNat n2)), .val (.ref b101), .val (.ref (own_pick (Int32.ofNat n1) aA aS aW aD aL aR)), .val (.ref (own_pick (Int32.ofNat n2) aA aS aW aD aL aR)), .unset] [(.int (Int32.ofNat n2)), (.ref b101), (.int (own_rank (Int32.ofNat n1)))])) _
    refine X115.iaload hx (j := (Int32.ofNat n2)) (v := (.int (own_rank (Int32.ofNat n2)))) (by rw [e115]; exact Ar117.1) (State.isArrayOf_alike hZ.alike Ar117.2.1) Ar117.2.2 hin117 hat117 (g := (mkF m 65 #[.val (.int p1), .val (.int p2), .val (.int (Int32.ofNat n1)), .val (.int (Int32.ofNat n2)), .val (.ref b101), .val (.ref (own_pick (Int32.ofNat n1) aA aS aW aD aL aR)), .val (.ref (own_pick (Int32.ofNat n2) aA aS aW aD aL aR)), .unset] [(.int (Int32.ofNat n2)), (.ref b101), (.int (own_rank (Int32.ofNat n1)))])) rfl rfl (hb hby at_65) _ ?_
    show Steps p.tables e below (T115.setTop (mkF m 66 #[.val (.int p1), .val (.int p2), .val (.int (Int32.ofNat n1)), .val (.int (Int32.ofNat n2)), .val (.ref b101), .val (.ref (own_pick (Int32.ofNat n1) aA aS aW aD aL aR)), .val (.ref (own_pick (Int32.ofNat n2) aA aS aW aD aL aR)), .unset] [(.int (own_rank (Int32.ofNat n2))), (.int (own_rank (Int32.ofNat n1)))])) _
    refine st118 _ ?_
    show Steps p.tables e below (T118.setTop (mkF m 69 #[.val (.int p1), .val (.int p2), .val (.int (Int32.ofNat n1)), .val (.int (Int32.ofNat n2)), .val (.ref b101), .val (.ref (own_pick (Int32.ofNat n1) aA aS aW aD aL aR)), .val (.ref (own_pick (Int32.ofNat n2) aA aS aW aD aL aR)), .unset] [(.int (own_max (own_rank (Int32.ofNat n1)) (own_rank (Int32.ofNat n2))))])) _
    refine st119 _ ?_
    show Steps p.tables e below (T119.setTop (mkF m 72 #[.val (.int p1), .val (.int p2), .val (.int (Int32.ofNat n1)), .val (.int (Int32.ofNat n2)), .val (.ref b101), .val (.ref (own_pick (Int32.ofNat n1) aA aS aW aD aL aR)), .val (.ref (own_pick (Int32.ofNat n2) aA aS aW aD aL aR)), .unset] [(.ref (own_of (own_max (own_rank (Int32.ofNat n1)) (own_rank (Int32.ofNat n2))) aA aS aW aD aL aR))])) _
    refine XS.astore X119.here hx rfl (hb hby at_72) rfl rfl (l' := #[.val (.int p1), .val (.int p2), .val (.int (Int32.ofNat n1)), .val (.int (Int32.ofNat n2)), .val (.ref b101), .val (.ref (own_pick (Int32.ofNat n1) aA aS aW aD aL aR)), .val (.ref (own_pick (Int32.ofNat n2) aA aS aW aD aL aR)), .val (.ref (own_of (own_max (own_rank (Int32.ofNat n1)) (own_rank (Int32.ofNat n2))) aA aS aW aD aL aR))]) rfl ?_
    refine XS.aload X119.here hx rfl (hb hby at_74) rfl rfl ?_
    refine XS.aload X119.here hx rfl (hb hby at_76) rfl rfl ?_
    show Steps p.tables e below (T119.setTop (mkF m 78 #[.val (.int p1), .val (.int p2), .val (.int (Int32.ofNat n1)), .val (.int (Int32.ofNat n2)), .val (.ref b101), .val (.ref (own_pick (Int32.ofNat n1) aA aS aW aD aL aR)), .val (.ref (own_pick (Int32.ofNat n2) aA aS aW aD aL aR)), .val (.ref (own_of (own_max (own_rank (Int32.ofNat n1)) (own_rank (Int32.ofNat n2))) aA aS aW aD aL aR))] [(.ref (own_pick (Int32.ofNat n2) aA aS aW aD aL aR)), (.ref (own_pick (Int32.ofNat n1) aA aS aW aD aL aR))])) _
    refine st120.trans ?_
    show Steps p.tables e below (T120.setTop (mkF m 81 #[.val (.int p1), .val (.int p2), .val (.int (Int32.ofNat n1)), .val (.int (Int32.ofNat n2)), .val (.ref b101), .val (.ref (own_pick (Int32.ofNat n1) aA aS aW aD aL aR)), .val (.ref (own_pick (Int32.ofNat n2) aA aS aW aD aL aR)), .val (.ref (own_of (own_max (own_rank (Int32.ofNat n1)) (own_rank (Int32.ofNat n2))) aA aS aW aD aL aR))] [(.ref (own_with (own_pick (Int32.ofNat n1) aA aS aW aD aL aR) (own_pick (Int32.ofNat n2) aA aS aW aD aL aR) aA aS aW aD aL aR))])) _
    refine XS.aload X120.here hx rfl (hb hby at_81) rfl rfl ?_
    show Steps p.tables e below (T120.setTop (mkF m 83 #[.val (.int p1), .val (.int p2), .val (.int (Int32.ofNat n1)), .val (.int (Int32.ofNat n2)), .val (.ref b101), .val (.ref (own_pick (Int32.ofNat n1) aA aS aW aD aL aR)), .val (.ref (own_pick (Int32.ofNat n2) aA aS aW aD aL aR)), .val (.ref (own_of (own_max (own_rank (Int32.ofNat n1)) (own_rank (Int32.ofNat n2))) aA aS aW aD aL aR))] [(.ref (own_of (own_max (own_rank (Int32.ofNat n1)) (own_rank (Int32.ofNat n2))) aA aS aW aD aL aR)), (.ref (own_with (own_pick (Int32.ofNat n1) aA aS aW aD aL aR) (own_pick (Int32.ofNat n2) aA aS aW aD aL aR) aA aS aW aD aL aR))])) _
    refine Jvm.RoadKit.acmp (g := (mkF m 83 #[.val (.int p1), .val (.int p2), .val (.int (Int32.ofNat n1)), .val (.int (Int32.ofNat n2)), .val (.ref b101), .val (.ref (own_pick (Int32.ofNat n1) aA aS aW aD aL aR)), .val (.ref (own_pick (Int32.ofNat n2) aA aS aW aD aL aR)), .val (.ref (own_of (own_max (own_rank (Int32.ofNat n1)) (own_rank (Int32.ofNat n2))) aA aS aW aD aL aR))] [(.ref (own_of (own_max (own_rank (Int32.ofNat n1)) (own_rank (Int32.ofNat n2))) aA aS aW aD aL aR)), (.ref (own_with (own_pick (Int32.ofNat n1) aA aS aW aD aL aR) (own_pick (Int32.ofNat n2) aA aS aW aD aL aR) aA aS aW aD aL aR))])) X120 hx rfl rfl rfl (pc0 := 83) (pc' := 86) (same := true) rfl (hb hby at_83) rfl (decide_eq_true (congrArg Value.ref hc121)) (by decide) (by decide) ?_
    show Steps p.tables e below (T120.setTop (mkF m 86 #[.val (.int p1), .val (.int p2), .val (.int (Int32.ofNat n1)), .val (.int (Int32.ofNat n2)), .val (.ref b101), .val (.ref (own_pick (Int32.ofNat n1) aA aS aW aD aL aR)), .val (.ref (own_pick (Int32.ofNat n2) aA aS aW aD aL aR)), .val (.ref (own_of (own_max (own_rank (Int32.ofNat n1)) (own_rank (Int32.ofNat n2))) aA aS aW aD aL aR))] [])) _
    refine XS.iconst X120.here hx rfl (hb hby at_86) ?_
    refine XS.goto X120.here hx rfl (pc0 := 87) (pc' := 91) rfl (hb hby at_87) (by decide) (by decide) ?_
    show Steps p.tables e below (T120.setTop (mkF m 91 #[.val (.int p1), .val (.int p2), .val (.int (Int32.ofNat n1)), .val (.int (Int32.ofNat n2)), .val (.ref b101), .val (.ref (own_pick (Int32.ofNat n1) aA aS aW aD aL aR)), .val (.ref (own_pick (Int32.ofNat n2) aA aS aW aD aL aR)), .val (.ref (own_of (own_max (own_rank (Int32.ofNat n1)) (own_rank (Int32.ofNat n2))) aA aS aW aD aL aR))] [(.int (1 : Int32))])) _
    exact retOut X120 hx (t := .boolean) (i := .ireturn) Bd.returns rfl (Or.inl ⟨rfl, Or.inr (Or.inl rfl), _, rfl⟩) (hb hby at_91) hr
  · show Q_law Z p1 p2 aA aS aW aD aL aR h0 n0 _ T120.heap _
    rw [e120]
    exact ⟨rfl, N120⟩
theorem own_eqI {args : Array Value} {s : State} {t : Term} {k : Int32} (h : (Jvm.Cond.eq t (.int k)).value args s none s [] = some true) : t.eval args s none [] s = some (.int k) := by
  simp only [Cond.value, Term.eval] at h
  cases ht : t.eval args s none [] s with
  | none => simp [ht] at h
  | some x => cases x <;> simp [ht] at h ⊢; exact h
theorem own_eqL {args : Array Value} {s : State} {t : Term} {k : Int64} (h : (Jvm.Cond.eq t (.long k)).value args s none s [] = some true) : t.eval args s none [] s = some (.long k) := by
  simp only [Cond.value, Term.eval] at h
  cases ht : t.eval args s none [] s with
  | none => simp [ht] at h
  | some x => cases x <;> simp [ht] at h ⊢; exact h
set_option maxRecDepth 65536 in
set_option maxHeartbeats 40000000 in
theorem comes_1 {Post : Tables → Env → Array Value → State → Outcome → State → Prop} (hpost : ∀ tb e args s v u, (limb_1_1.after args s (.returned v) u = true ∧ limb_1_2.after args s (.returned v) u = true ∧ True) → FrameEnd s (.returned v) u (Jvm.fieldLocs frame_1_writes args s ++ Jvm.arrayLocs frame_1_arrays args s ++ Jvm.staticLocs frame_1_statics s) 16 128 → Post tb e args s (.returned v) u) :
    ArmFor flags0 classFile x code maxLocals ret World_1 tables_1 room_1 Calls_1 rest_1 Pre_1 Post := by
  intro l hfl _ _ p e ha hc hk s m args below hf hA hF happ hP
  obtain ⟨hcalls, hrest, hpre⟩ := hP
  obtain ⟨-, -, -, hnamed, -, -, -, hat⟩ := (Spec.applies_iff hf).mp happ
  obtain ⟨hg, hn⟩ := and_e (Cond.before_iff.mp (show (Jvm.Cond.and given_1 narrow_1).before args s = true from hpre))
  obtain ⟨nn1, nn2⟩ := and_e hg
  obtain ⟨nn3, nn4⟩ := and_e nn2
  obtain ⟨w0, w1, rfl⟩ : ∃ w0 w1 : Value, args = #[w0, w1] := by
    have hs : args.size = 2 := by simpa [Cond.value, given_1] using nn1
    obtain ⟨L⟩ := args
    match L, hs with
    | [w0, w1], _ => exact ⟨w0, w1, rfl⟩
  have hw := fun d (hd : d ∈ tables_1) => atoms_spec (ws := Jvm.Cond.code x code maxLocals ret :: tables_1) hat d (List.mem_cons_of_mem _ hd)
  have hfit : Fit s := fun {y c} hc i hi => by
    obtain ⟨ha, rfl⟩ := Array.getElem?_eq_some_iff.mp hc
    have q := List.all_eq_true.mp ((Array.all_eq_true_iff_forall_mem.mp hF) _ (Array.getElem_mem ha)) i (List.mem_range.mpr hi)
    simpa [Array.getElem?_eq_getElem hi] using q
  obtain ⟨i0, ei0⟩ := is_v nn3
  obtain rfl : w0 = (.int i0) := Option.some.inj ei0
  obtain ⟨i1, ei1⟩ := is_v nn4
  obtain rfl : w1 = (.int i1) := Option.some.inj ei1
  obtain ⟨nn1, nn2⟩ := and_e hn
  obtain ⟨nn3, nn4⟩ := and_e nn2
  obtain ⟨nn5, nn6⟩ := and_e nn4
  obtain ⟨nn7, nn8⟩ := and_e nn6
  obtain ⟨nn9, nn10⟩ := and_e nn8
  obtain ⟨nn11, nn12⟩ := and_e nn10
  obtain ⟨nn13, nn14⟩ := and_e nn12
  obtain ⟨nn15, nn16⟩ := and_e nn14
  obtain ⟨nn17, nn18⟩ := and_e nn16
  obtain ⟨nn19, nn20⟩ := and_e nn18
  obtain ⟨nn21, nn22⟩ := and_e nn20
  obtain ⟨a_AUTO, ev_AUTO⟩ := exa_v nn1
  have S_AUTO : Sta s s.heap "com/example/serialpoint/serialpoint/Algorithm" "AUTO" "Lcom/example/serialpoint/serialpoint/Algorithm;" (.ref a_AUTO) := Sta.start ev_AUTO (Or.inr ⟨(hw _ (List.mem_of_getElem? (i := 7) rfl)), (hw _ (List.mem_of_getElem? (i := 8) rfl))⟩)
  have E_AUTO : Exa s s.heap a_AUTO "com/example/serialpoint/serialpoint/Algorithm" := Exa.start ev_AUTO nn1
  obtain ⟨a_DISTINCT_VALUES, ev_DISTINCT_VALUES⟩ := exa_v nn3
  have S_DISTINCT_VALUES : Sta s s.heap "com/example/serialpoint/serialpoint/Algorithm" "DISTINCT_VALUES" "Lcom/example/serialpoint/serialpoint/Algorithm;" (.ref a_DISTINCT_VALUES) := Sta.start ev_DISTINCT_VALUES (Or.inr ⟨(hw _ (List.mem_of_getElem? (i := 7) rfl)), (hw _ (List.mem_of_getElem? (i := 10) rfl))⟩)
  have E_DISTINCT_VALUES : Exa s s.heap a_DISTINCT_VALUES "com/example/serialpoint/serialpoint/Algorithm" := Exa.start ev_DISTINCT_VALUES nn3
  obtain ⟨a_SEARCH, ev_SEARCH⟩ := exa_v nn5
  have S_SEARCH : Sta s s.heap "com/example/serialpoint/serialpoint/Algorithm" "SEARCH" "Lcom/example/serialpoint/serialpoint/Algorithm;" (.ref a_SEARCH) := Sta.start ev_SEARCH (Or.inr ⟨(hw _ (List.mem_of_getElem? (i := 7) rfl)), (hw _ (List.mem_of_getElem? (i := 24) rfl))⟩)
  have E_SEARCH : Exa s s.heap a_SEARCH "com/example/serialpoint/serialpoint/Algorithm" := Exa.start ev_SEARCH nn5
  obtain ⟨a_SINGLE_WRITER, ev_SINGLE_WRITER⟩ := exa_v nn13
  have S_SINGLE_WRITER : Sta s s.heap "com/example/serialpoint/serialpoint/Algorithm" "SINGLE_WRITER" "Lcom/example/serialpoint/serialpoint/Algorithm;" (.ref a_SINGLE_WRITER) := Sta.start ev_SINGLE_WRITER (Or.inr ⟨(hw _ (List.mem_of_getElem? (i := 7) rfl)), (hw _ (List.mem_of_getElem? (i := 27) rfl))⟩)
  have E_SINGLE_WRITER : Exa s s.heap a_SINGLE_WRITER "com/example/serialpoint/serialpoint/Algorithm" := Exa.start ev_SINGLE_WRITER nn13
  obtain ⟨a_RW_REGISTER, ev_RW_REGISTER⟩ := exa_v nn17
  have S_RW_REGISTER : Sta s s.heap "com/example/serialpoint/serialpoint/Algorithm" "RW_REGISTER" "Lcom/example/serialpoint/serialpoint/Algorithm;" (.ref a_RW_REGISTER) := Sta.start ev_RW_REGISTER (Or.inr ⟨(hw _ (List.mem_of_getElem? (i := 7) rfl)), (hw _ (List.mem_of_getElem? (i := 30) rfl))⟩)
  have E_RW_REGISTER : Exa s s.heap a_RW_REGISTER "com/example/serialpoint/serialpoint/Algorithm" := Exa.start ev_RW_REGISTER nn17
  obtain ⟨a_LIST_APPEND, ev_LIST_APPEND⟩ := exa_v nn21
  have S_LIST_APPEND : Sta s s.heap "com/example/serialpoint/serialpoint/Algorithm" "LIST_APPEND" "Lcom/example/serialpoint/serialpoint/Algorithm;" (.ref a_LIST_APPEND) := Sta.start ev_LIST_APPEND (Or.inr ⟨(hw _ (List.mem_of_getElem? (i := 7) rfl)), (hw _ (List.mem_of_getElem? (i := 33) rfl))⟩)
  have E_LIST_APPEND : Exa s s.heap a_LIST_APPEND "com/example/serialpoint/serialpoint/Algorithm" := Exa.start ev_LIST_APPEND nn21
  have F_AUTO_ordinal : Fld s s.heap a_AUTO "java/lang/Enum" "ordinal" "I" (.int (0)) := Fld.start ((fld_at ev_AUTO).symm.trans (own_eqI nn7))
  have F_SEARCH_ordinal : Fld s s.heap a_SEARCH "java/lang/Enum" "ordinal" "I" (.int (1)) := Fld.start ((fld_at ev_SEARCH).symm.trans (own_eqI nn9))
  have F_DISTINCT_VALUES_ordinal : Fld s s.heap a_DISTINCT_VALUES "java/lang/Enum" "ordinal" "I" (.int (3)) := Fld.start ((fld_at ev_DISTINCT_VALUES).symm.trans (own_eqI nn11))
  have F_SINGLE_WRITER_ordinal : Fld s s.heap a_SINGLE_WRITER "java/lang/Enum" "ordinal" "I" (.int (2)) := Fld.start ((fld_at ev_SINGLE_WRITER).symm.trans (own_eqI nn15))
  have F_RW_REGISTER_ordinal : Fld s s.heap a_RW_REGISTER "java/lang/Enum" "ordinal" "I" (.int (5)) := Fld.start ((fld_at ev_RW_REGISTER).symm.trans (own_eqI nn19))
  have F_LIST_APPEND_ordinal : Fld s s.heap a_LIST_APPEND "java/lang/Enum" "ordinal" "I" (.int (4)) := Fld.start ((fld_at ev_LIST_APPEND).symm.trans (own_eqI nn22))
  obtain ⟨n, o, h1, h2, h3, _, L, rfl, ⟨rfl, N⟩, hq⟩ := rm_law l s _ hw tables_1 i0 i1 a_AUTO a_SEARCH a_SINGLE_WRITER a_DISTINCT_VALUES a_LIST_APPEND a_RW_REGISTER s.heap s.heap.size (Old.start s) S_AUTO S_SEARCH S_SINGLE_WRITER S_DISTINCT_VALUES S_LIST_APPEND S_RW_REGISTER E_AUTO E_SEARCH E_SINGLE_WRITER E_DISTINCT_VALUES E_LIST_APPEND E_RW_REGISTER (F_SEARCH_ordinal.ne F_DISTINCT_VALUES_ordinal (by simp)) (F_SEARCH_ordinal.ne F_RW_REGISTER_ordinal (by simp)) (F_SEARCH_ordinal.ne F_LIST_APPEND_ordinal (by simp)) (F_SEARCH_ordinal.ne F_SINGLE_WRITER_ordinal (by simp)) (F_SEARCH_ordinal.ne F_AUTO_ordinal (by simp)) (F_DISTINCT_VALUES_ordinal.ne F_RW_REGISTER_ordinal (by simp)) (F_DISTINCT_VALUES_ordinal.ne F_LIST_APPEND_ordinal (by simp)) (F_DISTINCT_VALUES_ordinal.ne F_SINGLE_WRITER_ordinal (by simp)) (F_DISTINCT_VALUES_ordinal.ne F_AUTO_ordinal (by simp)) (F_RW_REGISTER_ordinal.ne F_LIST_APPEND_ordinal (by simp)) (F_RW_REGISTER_ordinal.ne F_SINGLE_WRITER_ordinal (by simp)) (F_RW_REGISTER_ordinal.ne F_AUTO_ordinal (by simp)) (F_LIST_APPEND_ordinal.ne F_SINGLE_WRITER_ordinal (by simp)) (F_LIST_APPEND_ordinal.ne F_AUTO_ordinal (by simp)) p e ha hc hk s m _ below hf ((Spec.applies_iff_loose hf).mp happ).1 ⟨rfl, State.Warmed39.refl s, rfl⟩ trivial
  refine ⟨n, _, h1, h2, h3, hpost _ _ _ _ _ _ ⟨Cond.after_iff.mpr rfl, Cond.after_iff.mpr (eq_i res_at (Term.int_eval (1)) rfl), trivial⟩ ⟨hq.1, hq.2.1, (hq.2.2.sift fun y hy => Or.inr (N y hy)).mono (by decide) (by decide)⟩⟩
theorem main_1_1 : Claimed_1_1 := comes_1 fun _ _ _ _ _ _ h hF => ⟨h.1, hF⟩
theorem main_1_2 : Claimed_1_2 := comes_1 fun _ _ _ _ _ _ h hF => ⟨h.2.1, hF⟩

end Jvm.Pilot.@@N@@
namespace Jvm.Pilot.@@N@@
open Jvm Jvm.ClassFile Sem Op Lib Jvm.Free Jvm.Stand Jvm.Pilot.@@N@@.Jvm.D
/-! MADE BY PROGRAM (witnessworld.py) out of the Statement's table words and the real class files: 13 classes; the members and pool entries that the words name. The judged class is class 1, her method 1. -/
namespace start1
open Jvm.ClassFile
def u (s : String) : CpInfo := .utf8 (stringToUtf16 s)
/-- a pool by its gaps: so many unusable entries, then the entry; so many at the end -/
def gap : Nat → List CpInfo → List CpInfo
  | 0, r => r
  | n + 1, r => .unusable :: gap n r
def poolList (es : List (Nat × CpInfo)) (last : Nat) : List CpInfo := es.foldr (fun e r => gap e.1 (e.2 :: r)) (gap last [])
def pool (es : List (Nat × CpInfo)) (last : Nat) : Array CpInfo := ⟨poolList es last⟩
def fileOf (pool : Array CpInfo) (this : Nat) (attrs : Array Attribute := #[]) (ms : Array MethodInfo := #[]) (fl : Nat := 33) (sup : Nat := 0) (ifs : Array Nat := #[]) (fds : Array FieldInfo := #[]) : ClassFile where
  minorVersion := 0
  majorVersion := 65
  constantPool := pool
  accessFlags := fl
  thisClass := this
  superClass := sup
  interfaces := ifs
  fields := fds
  methods := ms
  attributes := attrs
def plain (name : String) (sup : Option ClassId) : Class where
  name := name
  kind := .ordinary
  loader := none
  accessFlags := 33
  super := sup
  interfaces := #[]
  cf := none
  fields := #[]
  methods := #[]
  instanceTypes := #[]
  staticTypes := #[]
  resolved := #[]
  callSites := []
  init := .initialized
  statics := none
  mirror := none

def pool0 : Array CpInfo := pool [(5, u "<init>"), (0, u "()V"), (1, .class_ 10), (1, u "java/lang/Object")] 113

def k0m0 : Method := { name := "<init>", desc := "()V", sig := { parameters := [], returnType := none }, accessFlags := 1, code := none }
/-- java/lang/Object -/
def k0 : Class := { plain "java/lang/Object" none with
  accessFlags := 33
  interfaces := #[]
  cf := some (fileOf pool0 8 #[] #[{ accessFlags := 1, nameIndex := 5, descriptorIndex := 6, attributes := #[] }] 33 0 #[] #[])
  fields := #[]
  methods := #[k0m0]
  instanceTypes := #[]
  staticTypes := #[]
  resolved := Array.replicate 124 none
  statics := none }

def pool1 : Array CpInfo := pool [(2, .class_ 4), (1, u "java/lang/Object"), (0, u "<init>"), (0, u "()V"), (0, .integer 2147483647), (0, .methodref 9 10), (0, .class_ 11), (0, .nameAndType 12 13), (0, u "com/example/serialpoint/serialpoint/AlgorithmWithPinLaw"), (0, u "pick"), (0, u "(I)Lcom/example/serialpoint/serialpoint/Algorithm;"), (0, .methodref 15 16), (0, .class_ 17), (0, .nameAndType 18 19), (0, u "java/lang/Math"), (0, u "max"), (0, u "(II)I"), (0, .methodref 9 21), (0, .nameAndType 22 13), (0, u "ofRank"), (0, .methodref 24 25), (0, .class_ 26), (0, .nameAndType 27 28), (0, u "com/example/serialpoint/serialpoint/Algorithm"), (0, u "with"), (0, u "(Lcom/example/serialpoint/serialpoint/Algorithm;)Lcom/example/serialpoint/serialpoint/Algorithm;"), (0, .fieldref 24 30), (0, .nameAndType 31 32), (0, u "AUTO"), (0, u "Lcom/example/serialpoint/serialpoint/Algorithm;"), (0, .fieldref 24 34), (0, .nameAndType 35 32), (0, u "SEARCH"), (0, .fieldref 24 37), (0, .nameAndType 38 32), (0, u "SINGLE_WRITER"), (0, .fieldref 24 40), (0, .nameAndType 41 32), (0, u "DISTINCT_VALUES"), (0, .fieldref 24 43), (0, .nameAndType 44 32), (0, u "LIST_APPEND"), (0, .fieldref 24 46), (0, .nameAndType 47 32), (0, u "RW_REGISTER"), (2, u "law"), (0, u "(II)Z")] 5

def k1m0 : Method := { name := "<init>", desc := "()V", sig := { parameters := [], returnType := none }, accessFlags := 1, code := none }
def k1c1 : Code := { maxStack := 4, maxLocals := 8, code := code, exceptionTable := #[], attributes := #[] }
def k1m1 : Method := { name := "law", desc := "(II)Z", sig := { parameters := [.int, .int], returnType := some .boolean }, accessFlags := 9, code := some k1c1 }
def k1c2 : Code := { maxStack := 2, maxLocals := 1, code := method_3_code, exceptionTable := #[], attributes := #[] }
def k1m2 : Method := { name := "pick", desc := "(I)Lcom/example/serialpoint/serialpoint/Algorithm;", sig := { parameters := [.int], returnType := some (.object "com/example/serialpoint/serialpoint/Algorithm") }, accessFlags := 10, code := some k1c2 }
def k1c3 : Code := { maxStack := 2, maxLocals := 1, code := method_4_code, exceptionTable := #[], attributes := #[] }
def k1m3 : Method := { name := "ofRank", desc := "(I)Lcom/example/serialpoint/serialpoint/Algorithm;", sig := { parameters := [.int], returnType := some (.object "com/example/serialpoint/serialpoint/Algorithm") }, accessFlags := 10, code := some k1c3 }
/-- com/example/serialpoint/serialpoint/AlgorithmWithPinLaw -/
def k1 : Class := { plain "com/example/serialpoint/serialpoint/AlgorithmWithPinLaw" (some 0) with
  accessFlags := 49
  interfaces := #[]
  cf := some (fileOf pool1 9 #[] #[{ accessFlags := 1, nameIndex := 5, descriptorIndex := 6, attributes := #[] }, { accessFlags := 9, nameIndex := 50, descriptorIndex := 51, attributes := #[] }, { accessFlags := 10, nameIndex := 12, descriptorIndex := 13, attributes := #[] }, { accessFlags := 10, nameIndex := 22, descriptorIndex := 13, attributes := #[] }] 49 2 #[] #[])
  fields := #[]
  methods := #[k1m0, k1m1, k1m2, k1m3]
  instanceTypes := #[]
  staticTypes := #[]
  resolved := Array.replicate 57 none
  statics := none }

def pool2 : Array CpInfo := pool [(1, .class_ 2), (0, u "java/lang/constant/Constable"), (0, .class_ 4), (0, u "java/lang/Object")] 6

/-- java/lang/constant/Constable -/
def k2 : Class := { plain "java/lang/constant/Constable" (some 0) with
  accessFlags := 1537
  interfaces := #[]
  cf := some (fileOf pool2 1 #[] #[] 1537 3 #[] #[])
  fields := #[]
  methods := #[]
  instanceTypes := #[]
  staticTypes := #[]
  resolved := Array.replicate 11 none
  statics := none }

def pool3 : Array CpInfo := pool [(1, .class_ 2), (0, u "java/lang/Comparable"), (0, .class_ 4), (0, u "java/lang/Object")] 7

/-- java/lang/Comparable -/
def k3 : Class := { plain "java/lang/Comparable" (some 0) with
  accessFlags := 1537
  interfaces := #[]
  cf := some (fileOf pool3 1 #[] #[] 1537 3 #[] #[])
  fields := #[]
  methods := #[]
  instanceTypes := #[]
  staticTypes := #[]
  resolved := Array.replicate 12 none
  statics := none }

def pool4 : Array CpInfo := pool [(1, .class_ 2), (0, u "java/io/Serializable"), (0, .class_ 4), (0, u "java/lang/Object")] 2

/-- java/io/Serializable -/
def k4 : Class := { plain "java/io/Serializable" (some 0) with
  accessFlags := 1537
  interfaces := #[]
  cf := some (fileOf pool4 1 #[] #[] 1537 3 #[] #[])
  fields := #[]
  methods := #[]
  instanceTypes := #[]
  staticTypes := #[]
  resolved := Array.replicate 7 none
  statics := none }

def pool5 : Array CpInfo := pool [(2, .class_ 4), (1, u "java/lang/Enum"), (0, u "name"), (0, u "Ljava/lang/String;"), (2, u "ordinal"), (0, u "I"), (1, .class_ 14), (1, u "java/lang/Object"), (4, u "hash"), (86, .class_ 108), (1, u "java/lang/Enum$EnumDesc"), (2, .class_ 112), (0, u "java/lang/constant/Constable"), (0, .class_ 114), (0, u "java/lang/Comparable"), (0, .class_ 116), (0, u "java/io/Serializable")] 87

/-- java/lang/Enum -/
def k5 : Class := { plain "java/lang/Enum" (some 0) with
  accessFlags := 1057
  interfaces := #[2, 3, 4]
  cf := some (fileOf pool5 2 #[.nestMembers #[106]] #[] 1057 12 #[111, 113, 115] #[{ accessFlags := 18, nameIndex := 5, descriptorIndex := 6, attributes := #[] }, { accessFlags := 18, nameIndex := 9, descriptorIndex := 10, attributes := #[] }, { accessFlags := 2, nameIndex := 19, descriptorIndex := 10, attributes := #[] }])
  fields := #[{ name := "name", type := (.object "java/lang/String"), accessFlags := 18, slot := 0, constantValue := 0 }, { name := "ordinal", type := .int, accessFlags := 18, slot := 1, constantValue := 0 }, { name := "hash", type := .int, accessFlags := 2, slot := 2, constantValue := 0 }]
  methods := #[]
  instanceTypes := #[(.object "java/lang/String"), .int, .int]
  staticTypes := #[]
  resolved := Array.replicate 204 none
  statics := none }

def pool6 : Array CpInfo := pool [(1, .class_ 2), (0, u "com/example/serialpoint/serialpoint/Algorithm"), (2, u "AUTO"), (0, u "Lcom/example/serialpoint/serialpoint/Algorithm;"), (0, .fieldref 1 8), (0, .nameAndType 9 6), (0, u "SEARCH"), (0, .fieldref 1 11), (0, .nameAndType 12 6), (0, u "SINGLE_WRITER"), (0, .fieldref 1 14), (0, .nameAndType 15 6), (0, u "DISTINCT_VALUES"), (0, .fieldref 1 17), (0, .nameAndType 18 6), (0, u "LIST_APPEND"), (0, .fieldref 1 20), (0, .nameAndType 21 6), (0, u "RW_REGISTER"), (2, u "$VALUES"), (0, u "[Lcom/example/serialpoint/serialpoint/Algorithm;"), (6, .class_ 34), (1, u "java/lang/Enum"), (8, u "label"), (0, u "Ljava/lang/String;"), (161, u "NO_PATH"), (19, u "with"), (0, u "(Lcom/example/serialpoint/serialpoint/Algorithm;)Lcom/example/serialpoint/serialpoint/Algorithm;")] 13

def k6c0 : Code := { maxStack := 2, maxLocals := 3, code := prog_4_method_13_code, exceptionTable := #[], attributes := #[] }
def k6m0 : Method := { name := "with", desc := "(Lcom/example/serialpoint/serialpoint/Algorithm;)Lcom/example/serialpoint/serialpoint/Algorithm;", sig := { parameters := [(.object "com/example/serialpoint/serialpoint/Algorithm")], returnType := some (.object "com/example/serialpoint/serialpoint/Algorithm") }, accessFlags := 0, code := some k6c0 }
/-- com/example/serialpoint/serialpoint/Algorithm -/
def k6 : Class := { plain "com/example/serialpoint/serialpoint/Algorithm" (some 5) with
  accessFlags := 16432
  interfaces := #[]
  cf := some (fileOf pool6 1 #[] #[{ accessFlags := 0, nameIndex := 226, descriptorIndex := 227, attributes := #[] }] 16432 32 #[] #[{ accessFlags := 16409, nameIndex := 5, descriptorIndex := 6, attributes := #[] }, { accessFlags := 16409, nameIndex := 9, descriptorIndex := 6, attributes := #[] }, { accessFlags := 16409, nameIndex := 12, descriptorIndex := 6, attributes := #[] }, { accessFlags := 16409, nameIndex := 15, descriptorIndex := 6, attributes := #[] }, { accessFlags := 16409, nameIndex := 18, descriptorIndex := 6, attributes := #[] }, { accessFlags := 16409, nameIndex := 21, descriptorIndex := 6, attributes := #[] }, { accessFlags := 26, nameIndex := 206, descriptorIndex := 44, attributes := #[] }, { accessFlags := 18, nameIndex := 43, descriptorIndex := 44, attributes := #[] }, { accessFlags := 4122, nameIndex := 24, descriptorIndex := 25, attributes := #[] }])
  fields := #[{ name := "AUTO", type := (.object "com/example/serialpoint/serialpoint/Algorithm"), accessFlags := 16409, slot := 0, constantValue := 0 }, { name := "SEARCH", type := (.object "com/example/serialpoint/serialpoint/Algorithm"), accessFlags := 16409, slot := 1, constantValue := 0 }, { name := "SINGLE_WRITER", type := (.object "com/example/serialpoint/serialpoint/Algorithm"), accessFlags := 16409, slot := 2, constantValue := 0 }, { name := "DISTINCT_VALUES", type := (.object "com/example/serialpoint/serialpoint/Algorithm"), accessFlags := 16409, slot := 3, constantValue := 0 }, { name := "LIST_APPEND", type := (.object "com/example/serialpoint/serialpoint/Algorithm"), accessFlags := 16409, slot := 4, constantValue := 0 }, { name := "RW_REGISTER", type := (.object "com/example/serialpoint/serialpoint/Algorithm"), accessFlags := 16409, slot := 5, constantValue := 0 }, { name := "NO_PATH", type := (.object "java/lang/String"), accessFlags := 26, slot := 6, constantValue := 0 }, { name := "label", type := (.object "java/lang/String"), accessFlags := 18, slot := 3, constantValue := 0 }, { name := "$VALUES", type := (.array (.object "com/example/serialpoint/serialpoint/Algorithm")), accessFlags := 4122, slot := 7, constantValue := 0 }]
  methods := #[k6m0]
  instanceTypes := #[(.object "java/lang/String"), .int, .int, (.object "java/lang/String")]
  staticTypes := #[(.object "com/example/serialpoint/serialpoint/Algorithm"), (.object "com/example/serialpoint/serialpoint/Algorithm"), (.object "com/example/serialpoint/serialpoint/Algorithm"), (.object "com/example/serialpoint/serialpoint/Algorithm"), (.object "com/example/serialpoint/serialpoint/Algorithm"), (.object "com/example/serialpoint/serialpoint/Algorithm"), (.object "java/lang/String"), (.array (.object "com/example/serialpoint/serialpoint/Algorithm"))]
  resolved := Array.replicate 241 none
  statics := some 0 }

def pool7 : Array CpInfo := pool [(1, .class_ 2), (0, u "java/lang/Math"), (1, .class_ 6), (1, u "java/lang/Object"), (0, u "<init>"), (0, u "()V"), (89, .class_ 100), (1, u "java/lang/Math$RandomNumberGeneratorHolder"), (71, u "negativeZeroFloatBits"), (0, u "J"), (2, u "negativeZeroDoubleBits"), (21, u "max"), (46, u "$assertionsDisabled"), (0, u "Z"), (88, u "(II)I"), (2, u "twoToTheDoubleScaleDown"), (0, u "D"), (4, u "twoToTheDoubleScaleUp"), (9, u "E"), (3, u "PI"), (2, u "TAU"), (2, u "DEGREES_TO_RADIANS"), (0, u "RADIANS_TO_DEGREES")] 94

def k7m0 : Method := { name := "<init>", desc := "()V", sig := { parameters := [], returnType := none }, accessFlags := 2, code := none }
def k7c1 : Code := { maxStack := 2, maxLocals := 2, code := jdk_29_method_65_code, exceptionTable := #[], attributes := #[] }
def k7m1 : Method := { name := "max", desc := "(II)I", sig := { parameters := [.int, .int], returnType := some .int }, accessFlags := 9, code := some k7c1 }
/-- java/lang/Math -/
def k7 : Class := { plain "java/lang/Math" (some 0) with
  accessFlags := 49
  interfaces := #[]
  cf := some (fileOf pool7 1 #[.nestMembers #[98]] #[{ accessFlags := 2, nameIndex := 7, descriptorIndex := 8, attributes := #[] }, { accessFlags := 9, nameIndex := 198, descriptorIndex := 335, attributes := #[] }] 49 4 #[] #[{ accessFlags := 25, nameIndex := 354, descriptorIndex := 339, attributes := #[] }, { accessFlags := 25, nameIndex := 358, descriptorIndex := 339, attributes := #[] }, { accessFlags := 25, nameIndex := 361, descriptorIndex := 339, attributes := #[] }, { accessFlags := 26, nameIndex := 364, descriptorIndex := 339, attributes := #[] }, { accessFlags := 26, nameIndex := 365, descriptorIndex := 339, attributes := #[] }, { accessFlags := 26, nameIndex := 172, descriptorIndex := 173, attributes := #[] }, { accessFlags := 26, nameIndex := 176, descriptorIndex := 173, attributes := #[] }, { accessFlags := 8, nameIndex := 344, descriptorIndex := 339, attributes := #[] }, { accessFlags := 8, nameIndex := 338, descriptorIndex := 339, attributes := #[] }, { accessFlags := 4120, nameIndex := 245, descriptorIndex := 246, attributes := #[] }])
  fields := #[{ name := "E", type := .double, accessFlags := 25, slot := 0, constantValue := 0 }, { name := "PI", type := .double, accessFlags := 25, slot := 1, constantValue := 0 }, { name := "TAU", type := .double, accessFlags := 25, slot := 2, constantValue := 0 }, { name := "DEGREES_TO_RADIANS", type := .double, accessFlags := 26, slot := 3, constantValue := 0 }, { name := "RADIANS_TO_DEGREES", type := .double, accessFlags := 26, slot := 4, constantValue := 0 }, { name := "negativeZeroFloatBits", type := .long, accessFlags := 26, slot := 5, constantValue := 0 }, { name := "negativeZeroDoubleBits", type := .long, accessFlags := 26, slot := 6, constantValue := 0 }, { name := "twoToTheDoubleScaleUp", type := .double, accessFlags := 8, slot := 7, constantValue := 0 }, { name := "twoToTheDoubleScaleDown", type := .double, accessFlags := 8, slot := 8, constantValue := 0 }, { name := "$assertionsDisabled", type := .boolean, accessFlags := 4120, slot := 9, constantValue := 0 }]
  methods := #[k7m0, k7m1]
  instanceTypes := #[]
  staticTypes := #[.double, .double, .double, .double, .double, .long, .long, .double, .double, .boolean]
  resolved := Array.replicate 460 none
  statics := none }

def pool8 : Array CpInfo := pool [(1, u "java/lang/Cloneable"), (0, .class_ 1), (0, u "java/lang/Object"), (0, .class_ 3)] 3

/-- java/lang/Cloneable -/
def k8 : Class := { plain "java/lang/Cloneable" (some 0) with
  accessFlags := 1537
  interfaces := #[]
  cf := some (fileOf pool8 2 #[] #[] 1537 4 #[] #[])
  fields := #[]
  methods := #[]
  instanceTypes := #[]
  staticTypes := #[]
  resolved := Array.replicate 8 none
  statics := none }

/-- the primitive byte -/
def k9 : Class := { plain "byte" none with kind := .primitive 'B', accessFlags := 0x411 }
/-- [B -/
def k10 : Class := { plain "[B" (some 0) with kind := .array 9 .byte, interfaces := #[8, 4], accessFlags := 1041 }

/-- the primitive int -/
def k11 : Class := { plain "int" none with kind := .primitive 'I', accessFlags := 0x411 }
/-- [I -/
def k12 : Class := { plain "[I" (some 0) with kind := .array 11 .int, interfaces := #[8, 4], accessFlags := 1041 }

def heap : Heap := #[{ cls := 6, slots := #[.ref 1, .ref 2, .ref 3, .ref 4, .ref 5, .ref 6, .null, .null], vm := .statics 6 },
  { cls := 6, slots := #[.null, .int 0, .int 0, .null], vm := .none },
  { cls := 6, slots := #[.null, .int 1, .int 0, .null], vm := .none },
  { cls := 6, slots := #[.null, .int 2, .int 0, .null], vm := .none },
  { cls := 6, slots := #[.null, .int 3, .int 0, .null], vm := .none },
  { cls := 6, slots := #[.null, .int 4, .int 0, .null], vm := .none },
  { cls := 6, slots := #[.null, .int 5, .int 0, .null], vm := .none }]
def classes : Array Class := #[k0, k1, k2, k3, k4, k5, k6, k7, k8, k9, k10, k11, k12]
def interned : List (Array UInt16 × Addr) := []
def slotsUsed : Nat := 32
def theMethod : MethodId := ⟨1, 1⟩
def args0 : Array Value := #[.int 5, .int 2]
def aboutOver (below : List Frame) : State where
  vm := { classes := classes, interned := interned.toArray }
  heap := heap
  slotsUsed := slotsUsed
  threads := #[{ frames := .invoking theMethod args0 :: below }]
def below0 : List Frame := [.native { method := ⟨0, 0⟩, args := #[] }]
def about1 : State := aboutOver below0
def p0 : Program := .bare "" "" ""
def e0 : Env := launch0.env 0 0 0
theorem w_frames : about1.frames = Frame.invoking theMethod args0 :: below0 := rfl
set_option maxRecDepth 65536 in
theorem w_args : argsFit about1.vm theMethod args0 = true := by decide +kernel
set_option maxRecDepth 65536 in
theorem w_heap : heapFits about1 = true := by decide +kernel
set_option maxRecDepth 65536 in
theorem w_runnable : about1.curStatus? = some .runnable := by decide +kernel
set_option maxRecDepth 65536 in
theorem w_alone : about1.alone = true := by decide +kernel
set_option maxRecDepth 65536 in
theorem w_named : about1.methodNamed? x = some theMethod := by decide +kernel
set_option maxRecDepth 65536 in
theorem w_hears : about1.hears theMethod below0 = true := by decide +kernel
set_option maxRecDepth 65536 in
theorem w_ripe : about1.ripe theMethod args0 below0 = true := by decide +kernel
theorem w_running : about1.status = .running := rfl
set_option maxRecDepth 65536 in
theorem w_room : about1.hasRoom e0.platform room_1 = true :=
  launch0.hasRoom_least _ room_1 (by decide +kernel) (by decide +kernel) (by decide +kernel) (by decide +kernel) (by decide +kernel) (by decide +kernel)
theorem allAtoms_all (ts : List Jvm.Cond) (a : Array Jvm.Value) (st : Jvm.State) : (allAtoms ts).before a st = ts.all (fun c => c.before a st) := by
  induction ts with
  | nil => rfl
  | cons c t ih =>
    show (Jvm.Cond.and c (allAtoms t)).before a st = _
    rw [Jvm.Cond.before_and, ih, List.all_cons]
def words1 : List Jvm.Cond := Jvm.Cond.code x code maxLocals ret :: tables_1
/-- a 'code' word, met by the world's own term for the bytes: nothing is compared byte by byte -/
theorem code_word {y : MethodName} {bytes : ByteArray} {mx : Nat} {rt : Option FieldType} {a : Array Value} {s : State} {m : MethodId} {meth : Method} {c : Code} (h1 : s.methodNamed? y = some m) (h2 : s.vm.method? m = some meth) (h3 : meth.code = some c) (h4 : c.code = bytes)
    (h5 : (c.maxLocals == mx && c.exceptionTable.isEmpty && decide (c.maxStack ≤ mostOperands) && decide (meth.sig.returnType = rt) && !meth.locks && decide (parseMethodDescriptor y.desc = some meth.sig)) = true) : (Jvm.Cond.code y bytes mx rt).before a s = true := by
  simp only [Bool.and_eq_true, beq_iff_eq, Bool.not_eq_true', decide_eq_true_eq] at h5
  obtain ⟨⟨⟨⟨⟨g1, g2⟩, g3⟩, g4⟩, g5⟩, g6⟩ := h5
  simp [Cond.before, Cond.holds, Cond.value, h1, h2, h3, h4, g1, g2, g3, g4, g5, g6]
def isCode : Jvm.Cond → Bool
  | .code _ _ _ _ => true
  | _ => false
theorem all_split {L : List Jvm.Cond} {P : Jvm.Cond → Bool} (h1 : L.all (fun c => isCode c || P c) = true) (h2 : ∀ c ∈ L.filter isCode, P c = true) : L.all P = true := by
  refine List.all_eq_true.mpr fun c hc => ?_
  have h := List.all_eq_true.mp h1 c hc
  rcases Bool.eq_false_or_eq_true (isCode c) with hi | hi
  · exact h2 c (List.mem_filter.mpr ⟨hc, hi⟩)
  · simpa [hi] using h
set_option maxRecDepth 65536 in
theorem w_c0 : (Jvm.Cond.code x code maxLocals ret).before args0 about1 = true := code_word (m := ⟨1, 1⟩) (meth := k1m1) (c := k1c1) (by decide +kernel) rfl rfl rfl (by decide +kernel)
set_option maxRecDepth 65536 in
theorem w_c1 : (Jvm.Cond.code ({ cls := "com/example/serialpoint/serialpoint/AlgorithmWithPinLaw", name := "pick", desc := "(I)Lcom/example/serialpoint/serialpoint/Algorithm;" } : Jvm.MethodName) method_3_code (1 : Nat) (Option.some (Jvm.ClassFile.FieldType.object "com/example/serialpoint/serialpoint/Algorithm"))).before args0 about1 = true := code_word (m := ⟨1, 2⟩) (meth := k1m2) (c := k1c2) (by decide +kernel) rfl rfl rfl (by decide +kernel)
set_option maxRecDepth 65536 in
theorem w_c2 : (Jvm.Cond.code ({ cls := "java/lang/Math", name := "max", desc := "(II)I" } : Jvm.MethodName) jdk_29_method_65_code (2 : Nat) (Option.some Jvm.ClassFile.FieldType.int)).before args0 about1 = true := code_word (m := ⟨7, 1⟩) (meth := k7m1) (c := k7c1) (by decide +kernel) rfl rfl rfl (by decide +kernel)
set_option maxRecDepth 65536 in
theorem w_c3 : (Jvm.Cond.code ({ cls := "com/example/serialpoint/serialpoint/AlgorithmWithPinLaw", name := "ofRank", desc := "(I)Lcom/example/serialpoint/serialpoint/Algorithm;" } : Jvm.MethodName) method_4_code (1 : Nat) (Option.some (Jvm.ClassFile.FieldType.object "com/example/serialpoint/serialpoint/Algorithm"))).before args0 about1 = true := code_word (m := ⟨1, 3⟩) (meth := k1m3) (c := k1c3) (by decide +kernel) rfl rfl rfl (by decide +kernel)
set_option maxRecDepth 65536 in
theorem w_c4 : (Jvm.Cond.code ({ cls := "com/example/serialpoint/serialpoint/Algorithm", name := "with", desc := "(Lcom/example/serialpoint/serialpoint/Algorithm;)Lcom/example/serialpoint/serialpoint/Algorithm;" } : Jvm.MethodName) prog_4_method_13_code (3 : Nat) (Option.some (Jvm.ClassFile.FieldType.object "com/example/serialpoint/serialpoint/Algorithm"))).before args0 about1 = true := code_word (m := ⟨6, 0⟩) (meth := k6m0) (c := k6c0) (by decide +kernel) rfl rfl rfl (by decide +kernel)
def codes1 : List Jvm.Cond := [Jvm.Cond.code x code maxLocals ret, Jvm.Cond.code ({ cls := "com/example/serialpoint/serialpoint/AlgorithmWithPinLaw", name := "pick", desc := "(I)Lcom/example/serialpoint/serialpoint/Algorithm;" } : Jvm.MethodName) method_3_code (1 : Nat) (Option.some (Jvm.ClassFile.FieldType.object "com/example/serialpoint/serialpoint/Algorithm")), Jvm.Cond.code ({ cls := "java/lang/Math", name := "max", desc := "(II)I" } : Jvm.MethodName) jdk_29_method_65_code (2 : Nat) (Option.some Jvm.ClassFile.FieldType.int), Jvm.Cond.code ({ cls := "com/example/serialpoint/serialpoint/AlgorithmWithPinLaw", name := "ofRank", desc := "(I)Lcom/example/serialpoint/serialpoint/Algorithm;" } : Jvm.MethodName) method_4_code (1 : Nat) (Option.some (Jvm.ClassFile.FieldType.object "com/example/serialpoint/serialpoint/Algorithm")), Jvm.Cond.code ({ cls := "com/example/serialpoint/serialpoint/Algorithm", name := "with", desc := "(Lcom/example/serialpoint/serialpoint/Algorithm;)Lcom/example/serialpoint/serialpoint/Algorithm;" } : Jvm.MethodName) prog_4_method_13_code (3 : Nat) (Option.some (Jvm.ClassFile.FieldType.object "com/example/serialpoint/serialpoint/Algorithm"))]
set_option maxRecDepth 65536 in
theorem codes_eq : words1.filter isCode = codes1 := rfl
theorem w_codes : ∀ c ∈ words1.filter isCode, c.before args0 about1 = true := by
  rw [codes_eq]
  intro c hc
  simp only [codes1, List.mem_cons, List.not_mem_nil, or_false] at hc
  rcases hc with rfl | rfl | rfl | rfl | rfl
  · exact w_c0
  · exact w_c1
  · exact w_c2
  · exact w_c3
  · exact w_c4
set_option maxRecDepth 65536 in
theorem w_t1 : (words1.take 24).all (fun c => isCode c || c.before args0 about1) = true := by decide +kernel
set_option maxRecDepth 65536 in
theorem w_t2 : (words1.drop 24).all (fun c => isCode c || c.before args0 about1) = true := by decide +kernel
theorem w_tables : (allAtoms (Jvm.Cond.code x code maxLocals ret :: tables_1)).before args0 about1 = true := by
  rw [allAtoms_all]
  show words1.all (fun c => c.before args0 about1) = true
  refine all_split ?_ w_codes
  rw [← List.take_append_drop 24 words1, List.all_append, w_t1, w_t2]
  rfl
set_option maxRecDepth 65536 in
theorem w_case : (Jvm.Cond.and given_1 narrow_1).before args0 about1 = true := by decide +kernel
theorem w_applies : (headSpec (Jvm.Cond.code x code maxLocals ret :: tables_1) room_1).applies x e0.platform about1 = true :=
  (Spec.applies_iff w_frames).mpr ⟨w_running, w_runnable, w_alone, w_named, w_hears, w_ripe, w_room, w_tables⟩
theorem atStart : AtStart classFile x code maxLocals ret World_1 tables_1 room_1 Calls_1 rest_1 Pre_1 launch0 p0 e0 about1 theMethod args0 below0 :=
  ⟨lists_1, trivial, launch0.admits_env _ _ _, launch0.least_env, fairChoices_fair.cas, fairChoices_fair.clock, w_frames, w_args, w_heap, w_applies, trivial, trivial, w_case⟩
end start1
theorem witness_1 : WitnessClaimed_1 := ⟨start1.p0, start1.e0, start1.about1, start1.theMethod, start1.args0, start1.below0, start1.atStart⟩
end Jvm.Pilot.@@N@@
