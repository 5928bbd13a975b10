import JvmDerived
import JvmDerived.Pilot.@@N@@Statement
import JvmDerived.Pilot.@@N@@Code
set_option linter.unusedVariables false
set_option linter.unusedSimpArgs false
@@BLOCK:NumsL.lean.txt@@
namespace Jvm.Pilot.@@N@@
open Jvm Jvm.ClassFile Sem Op Lib Jvm.Free Jvm.Stand Jvm.LawKit Jvm.RoadKit Bundle Jvm.Pilot.@@N@@.Jvm.D
theorem own_mvMN {Z s : State} {a0 args : Array Value} {own host : String} {index : Nat} {y : MethodName} (hZ : Z.Warmed39 s.vm) (w : (Jvm.Cond.methodLinkNest own index y host).before a0 Z = true) : (Jvm.Cond.methodLinkNest own index y host).before args s = true := (Cond.methodLinkNest_wide hZ w :)
theorem own_selP {Z s : State} {a0 args : Array Value} {y : MethodName} {n : Nat} (hZ : Z.Warmed39 s.vm) (wi : (Jvm.Cond.instantiable y.cls n).before a0 Z = true) (wp : (Jvm.Cond.privateMethod y).before a0 Z = true) (wm : (Jvm.Cond.instanceMethod y).before a0 Z = true) (hy : y.cls ≠ "java/lang/invoke/MethodHandle" ∧ y.cls ≠ "java/lang/invoke/VarHandle") : (Jvm.Cond.selects y.cls y y).before args s = true := by
  obtain ⟨c, k, h1, h2, -, h4, -⟩ := Cond.instantiable_spec (mvT (args := args) hZ wi)
  exact selects_self_of_private h1 h2 (by cases hh : k.isInterface <;> simp [hh] at h4 ⊢) (Cond.privateMethod_at (mvP hZ wp (args := #[]))) (mvT hZ wm) hy
theorem own_szO {Z : State} {n0 : Nat} {h : Heap} (O : Old Z n0 h) : n0 ≤ h.size := O.1 ▸ O.2.1
theorem pn_0 : plainName "com/example/decisions_to_verdict/decisionstoverdict/UnlessTakePinLaw" = true := by first | (simp [plainName, overriddenIn]; done) | decide +kernel
theorem pn_1 : plainName "com/example/decisions_to_verdict/decisionstoverdict/Combination" = true := by first | (simp [plainName, overriddenIn]; done) | decide +kernel
theorem pn_2 : plainName "com/example/decisions_to_verdict/decisionstoverdict/Combination$Unless" = true := by first | (simp [plainName, overriddenIn]; done) | decide +kernel
theorem pd_0 : parseMethodDescriptor "(I)V" = some ⟨[.int], none⟩ := by decide +kernel
theorem pd_1 : parseMethodDescriptor "(Lcom/example/decisions_to_verdict/decisionstoverdict/Decision;)V" = some ⟨[(.object "com/example/decisions_to_verdict/decisionstoverdict/Decision")], none⟩ := by decide +kernel
theorem pd_2 : parseMethodDescriptor "()Z" = some ⟨[], some .boolean⟩ := by decide +kernel
theorem pd_3 : parseMethodDescriptor "(I)Lcom/example/decisions_to_verdict/decisionstoverdict/Decision;" = some ⟨[.int], some (.object "com/example/decisions_to_verdict/decisionstoverdict/Decision")⟩ := by decide +kernel
theorem pd_4 : parseMethodDescriptor "(ILcom/example/decisions_to_verdict/decisionstoverdict/Decision;Lcom/example/decisions_to_verdict/decisionstoverdict/Decision;)V" = some ⟨[.int, (.object "com/example/decisions_to_verdict/decisionstoverdict/Decision"), (.object "com/example/decisions_to_verdict/decisionstoverdict/Decision")], none⟩ := by decide +kernel
theorem pd_5 : parseMethodDescriptor "()Lcom/example/decisions_to_verdict/decisionstoverdict/Decision;" = some ⟨[], some (.object "com/example/decisions_to_verdict/decisionstoverdict/Decision")⟩ := by decide +kernel
theorem d_method_2_0 : decode method_2_code 0 = .ok (.iload_n 0, 1) := by decide +kernel
theorem d_method_2_1 : decode method_2_code 1 = .ok (.ldc 7, 2) := by decide +kernel
theorem d_method_2_3 : decode method_2_code 3 = .ok (.iand, 1) := by decide +kernel
theorem d_method_2_4 : decode method_2_code 4 = .ok (.bipush 6, 2) := by decide +kernel
theorem d_method_2_6 : decode method_2_code 6 = .ok (.irem, 1) := by decide +kernel
theorem d_method_2_7 : decode method_2_code 7 = .ok (.istore_n 1, 1) := by decide +kernel
theorem d_method_2_8 : decode method_2_code 8 = .ok (.iload_n 1, 1) := by decide +kernel
theorem d_method_2_9 : decode method_2_code 9 = .ok (.ifCond .ne 7, 3) := by decide +kernel
theorem d_method_2_12 : decode method_2_code 12 = .ok (.getstatic 8, 3) := by decide +kernel
theorem d_method_2_15 : decode method_2_code 15 = .ok (.areturn, 1) := by decide +kernel
theorem d_method_2_16 : decode method_2_code 16 = .ok (.iload_n 1, 1) := by decide +kernel
theorem d_method_2_17 : decode method_2_code 17 = .ok (.iconst 1, 1) := by decide +kernel
theorem d_method_2_18 : decode method_2_code 18 = .ok (.if_icmp .ne 7, 3) := by decide +kernel
theorem d_method_2_21 : decode method_2_code 21 = .ok (.getstatic 14, 3) := by decide +kernel
theorem d_method_2_24 : decode method_2_code 24 = .ok (.areturn, 1) := by decide +kernel
theorem d_method_2_25 : decode method_2_code 25 = .ok (.iload_n 1, 1) := by decide +kernel
theorem d_method_2_26 : decode method_2_code 26 = .ok (.iconst 2, 1) := by decide +kernel
theorem d_method_2_27 : decode method_2_code 27 = .ok (.if_icmp .ne 7, 3) := by decide +kernel
theorem d_method_2_30 : decode method_2_code 30 = .ok (.getstatic 17, 3) := by decide +kernel
theorem d_method_2_33 : decode method_2_code 33 = .ok (.areturn, 1) := by decide +kernel
theorem d_method_2_34 : decode method_2_code 34 = .ok (.iload_n 1, 1) := by decide +kernel
theorem d_method_2_35 : decode method_2_code 35 = .ok (.iconst 3, 1) := by decide +kernel
theorem d_method_2_36 : decode method_2_code 36 = .ok (.if_icmp .ne 7, 3) := by decide +kernel
theorem d_method_2_39 : decode method_2_code 39 = .ok (.getstatic 20, 3) := by decide +kernel
theorem d_method_2_42 : decode method_2_code 42 = .ok (.areturn, 1) := by decide +kernel
theorem d_method_2_43 : decode method_2_code 43 = .ok (.iload_n 1, 1) := by decide +kernel
theorem d_method_2_44 : decode method_2_code 44 = .ok (.iconst 4, 1) := by decide +kernel
theorem d_method_2_45 : decode method_2_code 45 = .ok (.if_icmp .ne 7, 3) := by decide +kernel
theorem d_method_2_48 : decode method_2_code 48 = .ok (.getstatic 23, 3) := by decide +kernel
theorem d_method_2_51 : decode method_2_code 51 = .ok (.areturn, 1) := by decide +kernel
theorem d_method_2_52 : decode method_2_code 52 = .ok (.getstatic 26, 3) := by decide +kernel
theorem d_method_2_55 : decode method_2_code 55 = .ok (.areturn, 1) := by decide +kernel
theorem d_prog_10_method_1_0 : decode prog_10_method_1_code 0 = .ok (.aload_n 0, 1) := by decide +kernel
theorem d_prog_10_method_1_1 : decode prog_10_method_1_code 1 = .ok (.invokespecial 1, 3) := by decide +kernel
theorem d_prog_10_method_1_4 : decode prog_10_method_1_code 4 = .ok (.iload_n 1, 1) := by decide +kernel
theorem d_prog_10_method_1_5 : decode prog_10_method_1_code 5 = .ok (.ifCond .ge 17, 3) := by decide +kernel
theorem d_prog_10_method_1_22 : decode prog_10_method_1_code 22 = .ok (.aload_n 0, 1) := by decide +kernel
theorem d_prog_10_method_1_23 : decode prog_10_method_1_code 23 = .ok (.iload_n 1, 1) := by decide +kernel
theorem d_prog_10_method_1_24 : decode prog_10_method_1_code 24 = .ok (.putfield 16, 3) := by decide +kernel
theorem d_prog_10_method_1_27 : decode prog_10_method_1_code 27 = .ok (.return_, 1) := by decide +kernel
theorem d_prog_10_method_4_0 : decode prog_10_method_4_code 0 = .ok (.aload_n 0, 1) := by decide +kernel
theorem d_prog_10_method_4_1 : decode prog_10_method_4_code 1 = .ok (.getfield 44, 3) := by decide +kernel
theorem d_prog_10_method_4_4 : decode prog_10_method_4_code 4 = .ok (.ifnonnull 14, 3) := by decide +kernel
theorem d_prog_10_method_4_7 : decode prog_10_method_4_code 7 = .ok (.aload_n 0, 1) := by decide +kernel
theorem d_prog_10_method_4_8 : decode prog_10_method_4_code 8 = .ok (.getfield 47, 3) := by decide +kernel
theorem d_prog_10_method_4_11 : decode prog_10_method_4_code 11 = .ok (.aload_n 0, 1) := by decide +kernel
theorem d_prog_10_method_4_12 : decode prog_10_method_4_code 12 = .ok (.getfield 16, 3) := by decide +kernel
theorem d_prog_10_method_4_15 : decode prog_10_method_4_code 15 = .ok (.if_icmp .ne 7, 3) := by decide +kernel
theorem d_prog_10_method_4_18 : decode prog_10_method_4_code 18 = .ok (.iconst 1, 1) := by decide +kernel
theorem d_prog_10_method_4_19 : decode prog_10_method_4_code 19 = .ok (.goto 4, 3) := by decide +kernel
theorem d_prog_10_method_4_22 : decode prog_10_method_4_code 22 = .ok (.iconst 0, 1) := by decide +kernel
theorem d_prog_10_method_4_23 : decode prog_10_method_4_code 23 = .ok (.ireturn, 1) := by decide +kernel
theorem d_prog_10_method_6_0 : decode prog_10_method_6_code 0 = .ok (.aload_n 0, 1) := by decide +kernel
theorem d_prog_10_method_6_1 : decode prog_10_method_6_code 1 = .ok (.invokevirtual 52, 3) := by decide +kernel
theorem d_prog_10_method_6_4 : decode prog_10_method_6_code 4 = .ok (.ifCond .ne 26, 3) := by decide +kernel
theorem d_prog_10_method_6_30 : decode prog_10_method_6_code 30 = .ok (.aload_n 0, 1) := by decide +kernel
theorem d_prog_10_method_6_31 : decode prog_10_method_6_code 31 = .ok (.getfield 44, 3) := by decide +kernel
theorem d_prog_10_method_6_34 : decode prog_10_method_6_code 34 = .ok (.ifnonnull 10, 3) := by decide +kernel
theorem d_prog_10_method_6_44 : decode prog_10_method_6_code 44 = .ok (.aload_n 0, 1) := by decide +kernel
theorem d_prog_10_method_6_45 : decode prog_10_method_6_code 45 = .ok (.getfield 44, 3) := by decide +kernel
theorem d_prog_10_method_6_48 : decode prog_10_method_6_code 48 = .ok (.areturn, 1) := by decide +kernel
theorem d_prog_10_method_7_0 : decode prog_10_method_7_code 0 = .ok (.aload_n 0, 1) := by decide +kernel
theorem d_prog_10_method_7_1 : decode prog_10_method_7_code 1 = .ok (.aload_n 1, 1) := by decide +kernel
theorem d_prog_10_method_7_2 : decode prog_10_method_7_code 2 = .ok (.putfield 44, 3) := by decide +kernel
theorem d_prog_10_method_7_5 : decode prog_10_method_7_code 5 = .ok (.return_, 1) := by decide +kernel
theorem d_prog_17_method_1_0 : decode prog_17_method_1_code 0 = .ok (.aload_n 0, 1) := by decide +kernel
theorem d_prog_17_method_1_1 : decode prog_17_method_1_code 1 = .ok (.iload_n 1, 1) := by decide +kernel
theorem d_prog_17_method_1_2 : decode prog_17_method_1_code 2 = .ok (.invokespecial 1, 3) := by decide +kernel
theorem d_prog_17_method_1_5 : decode prog_17_method_1_code 5 = .ok (.aload_n 0, 1) := by decide +kernel
theorem d_prog_17_method_1_6 : decode prog_17_method_1_code 6 = .ok (.aload_n 2, 1) := by decide +kernel
theorem d_prog_17_method_1_7 : decode prog_17_method_1_code 7 = .ok (.putfield 7, 3) := by decide +kernel
theorem d_prog_17_method_1_10 : decode prog_17_method_1_code 10 = .ok (.aload_n 0, 1) := by decide +kernel
theorem d_prog_17_method_1_11 : decode prog_17_method_1_code 11 = .ok (.aload_n 3, 1) := by decide +kernel
theorem d_prog_17_method_1_12 : decode prog_17_method_1_code 12 = .ok (.putfield 13, 3) := by decide +kernel
theorem d_prog_17_method_1_15 : decode prog_17_method_1_code 15 = .ok (.return_, 1) := by decide +kernel
theorem d_prog_17_method_2_0 : decode prog_17_method_2_code 0 = .ok (.aload_n 1, 1) := by decide +kernel
theorem d_prog_17_method_2_1 : decode prog_17_method_2_code 1 = .ok (.aload_n 0, 1) := by decide +kernel
theorem d_prog_17_method_2_2 : decode prog_17_method_2_code 2 = .ok (.getfield 7, 3) := by decide +kernel
theorem d_prog_17_method_2_5 : decode prog_17_method_2_code 5 = .ok (.if_acmp .ne 11, 3) := by decide +kernel
theorem d_prog_17_method_2_8 : decode prog_17_method_2_code 8 = .ok (.aload_n 0, 1) := by decide +kernel
theorem d_prog_17_method_2_9 : decode prog_17_method_2_code 9 = .ok (.aload_n 0, 1) := by decide +kernel
theorem d_prog_17_method_2_10 : decode prog_17_method_2_code 10 = .ok (.getfield 7, 3) := by decide +kernel
theorem d_prog_17_method_2_13 : decode prog_17_method_2_code 13 = .ok (.invokevirtual 16, 3) := by decide +kernel
theorem d_prog_17_method_2_16 : decode prog_17_method_2_code 16 = .ok (.return_, 1) := by decide +kernel
def own_m6 (p : Int32) : Int32 := (p &&& (2147483647 : Int32)) - ((p &&& (2147483647 : Int32)) / (6 : Int32)) * (6 : Int32)
def own_pk (p : Int32) (z0 z1 z2 z3 z4 z5 : Addr) : Addr := if own_m6 p = 0 then z0 else if own_m6 p = 1 then z1 else if own_m6 p = 2 then z2 else if own_m6 p = 3 then z3 else if own_m6 p = 4 then z4 else z5
theorem own_cnt (p : Int32) : ¬ ((p &&& (255 : Int32)) + (1 : Int32) < 0) ∧ ¬ ((0 : Int32) = (p &&& (255 : Int32)) + (1 : Int32)) := by
  have e : (p &&& 255).toInt = p.toInt % 2 ^ 8 := Jvm.Kit.i32_mask p 255 (k := 8) (by decide) (by decide)
  have h1 : (1 : Int32).toInt = 1 := by decide
  have e2 : ((p &&& 255) + 1).toInt = (p &&& 255).toInt + (1 : Int32).toInt := Jvm.Kit.i32_add (by omega) (by omega)
  have h0 : (0 : Int32).toInt = 0 := by decide
  refine ⟨fun q => ?_, fun q => ?_⟩
  · rw [Int32.lt_iff_toInt_lt] at q; omega
  · rw [← Int32.toInt_inj] at q; omega
theorem ef_pick (m : MethodId) (p1 : Int32) : entryFrame m #[(.int p1)] 2 = mkF m 0 #[.val (.int p1), .unset] [] := by first | (simp [entryFrame, mkF, argsToLocals, Value.category]; done) | rfl
def Q_pick (Z : State) (p1 : Int32) (z0 : Addr) (z1 : Addr) (z2 : Addr) (z3 : Addr) (z4 : Addr) (z5 : Addr) (h0 : Heap) (n0 : Nat) (v : Option Value) (h : Heap) (L : List Loc) : Prop := v = some (.ref (own_pk p1 z0 z1 z2 z3 z4 z5)) ∧ Fr n0 L ∧ h = h0
set_option maxRecDepth 65536 in
set_option maxHeartbeats 40000000 in
theorem rm_pick (l : Launch) (Z : State) (a0 : Array Value) (hw : ∀ d ∈ tables_1, d.before a0 Z = true) (ws : List Jvm.Cond) (p1 : Int32) (z0 : Addr) (z1 : Addr) (z2 : Addr) (z3 : Addr) (z4 : Addr) (z5 : Addr) (h0 : Heap) (n0 : Nat) (O0 : Old Z n0 h0) (Sz0 : Sta Z Z.heap "com/example/decisions_to_verdict/decisionstoverdict/Decision" "DENY" "Lcom/example/decisions_to_verdict/decisionstoverdict/Decision;" (.ref z0)) (Sz1 : Sta Z Z.heap "com/example/decisions_to_verdict/decisionstoverdict/Decision" "PERMIT" "Lcom/example/decisions_to_verdict/decisionstoverdict/Decision;" (.ref z1)) (Sz2 : Sta Z Z.heap "com/example/decisions_to_verdict/decisionstoverdict/Decision" "INDETERMINATE_D" "Lcom/example/decisions_to_verdict/decisionstoverdict/Decision;" (.ref z2)) (Sz3 : Sta Z Z.heap "com/example/decisions_to_verdict/decisionstoverdict/Decision" "INDETERMINATE_P" "Lcom/example/decisions_to_verdict/decisionstoverdict/Decision;" (.ref z3)) (Sz4 : Sta Z Z.heap "com/example/decisions_to_verdict/decisionstoverdict/Decision" "INDETERMINATE_DP" "Lcom/example/decisions_to_verdict/decisionstoverdict/Decision;" (.ref z4)) (Sz5 : Sta Z Z.heap "com/example/decisions_to_verdict/decisionstoverdict/Decision" "NOT_APPLICABLE" "Lcom/example/decisions_to_verdict/decisionstoverdict/Decision;" (.ref z5)) :
    MetFree l (⟨"com/example/decisions_to_verdict/decisionstoverdict/UnlessTakePinLaw", "pick", "(I)Lcom/example/decisions_to_verdict/decisionstoverdict/Decision;"⟩ : MethodName) (head1 (Jvm.Cond.code (⟨"com/example/decisions_to_verdict/decisionstoverdict/UnlessTakePinLaw", "pick", "(I)Lcom/example/decisions_to_verdict/decisionstoverdict/Decision;"⟩ : MethodName) method_2_code 2 (some (.object "com/example/decisions_to_verdict/decisionstoverdict/Decision")) :: ws) ({ frames := 0, cells := 0, slots := 0, locals := 0 } : Room)) (fun a U => a = #[(.int p1)] ∧ Z.Warmed39 U.vm ∧ U.heap = h0) (fun _ _ _ _ _ => True) (fun _ U o U' => ∃ v L, o = .returned v ∧ Q_pick Z p1 z0 z1 z2 z3 z4 z5 h0 n0 v U'.heap L ∧ FrameEnd U o U' L ({ frames := 0, cells := 0, slots := 0, locals := 0 } : Room).cells ({ frames := 0, cells := 0, slots := 0, locals := 0 } : Room).slots) := by
  refine MetFree.of_bodySF (plainFor_of_name pn_0) hisR ?_
  intro p e s m args below meth c s₁ Bd hml0 hP hK
  obtain ⟨rfl, hZ, hh⟩ := hP
  have hx := Bd.exec
  have hby := Bd.bytes
  have hml : c.maxLocals = 2 := hml0
  have hown : s.vm.findClass "com/example/decisions_to_verdict/decisionstoverdict/UnlessTakePinLaw" = some m.cls := findClass_of_methodNamed Bd.named
  have hnm := (name_of_methodNamed Bd.named Bd.method).1
  have X0 : Stand p l e ({ frames := 0, cells := 0, slots := 0, locals := 0 } : Room) s m #[(.int p1)] below meth c s₁ [] 0 0 := Stand.of_body Bd
  have e0 : s₁.heap = h0 := by rw [← hh, Bd.state]; rfl
  have N0 := Fr.nil n0
  have pre0 : ∀ t, Steps p.tables e below (s₁.setTop (mkF m 0 #[.val (.int p1), .unset] [])) t → Steps p.tables e below (s₁.setTop (entryFrame m #[(.int p1)] 2)) t := fun t k => castTop (ef_pick m p1) k
  have pre101 : ∀ t, Steps p.tables e below (s₁.setTop (mkF m 9 #[.val (.int p1), .val (.int (own_m6 p1))] [(.int (own_m6 p1))])) t → Steps p.tables e below (s₁.setTop (entryFrame m #[(.int p1)] 2)) t := fun t kk => pre0 t (by
      show Steps p.tables e below (s₁.setTop (mkF m 0 #[.val (.int p1), .unset] [])) _
      refine XS.iloadN X0.here hx rfl (hb hby d_method_2_0) rfl ?_
      show Steps p.tables e below (s₁.setTop (mkF m 1 #[.val (.int p1), .unset] [(.int p1)])) _
      refine X0.ldcInt hx hown (mvT hZ (hw _ (List.mem_of_getElem? (i := 4) rfl))) (g := (mkF m 1 #[.val (.int p1), .unset] [(.int p1)])) rfl (hb hby d_method_2_1) _ ?_
      show Steps p.tables e below (s₁.setTop (mkF m 3 #[.val (.int p1), .unset] [(.int (2147483647 : Int32)), (.int p1)])) _
      refine XS.iand X0.here hx rfl (hb hby d_method_2_3) rfl ?_
      refine XS.bipush X0.here hx rfl (hb hby d_method_2_4) ?_
      refine XS.irem X0.here hx rfl (hb hby d_method_2_6) rfl (by decide) ?_
      show Steps p.tables e below (s₁.setTop (mkF m 7 #[.val (.int p1), .unset] [(.int ((p1 &&& (2147483647 : Int32)) - ((p1 &&& (2147483647 : Int32)) / (6 : Int32)) * (6 : Int32)))])) _
      rw [show ((p1 &&& (2147483647 : Int32)) - ((p1 &&& (2147483647 : Int32)) / (6 : Int32)) * (6 : Int32)) = (own_m6 p1) from rfl]
      show Steps p.tables e below (s₁.setTop (mkF m 7 #[.val (.int p1), .unset] [(.int (own_m6 p1))])) _
      refine XS.istoreN X0.here hx rfl (hb hby d_method_2_7) rfl (l' := #[.val (.int p1), .val (.int (own_m6 p1))]) rfl ?_
      refine XS.iloadN X0.here hx rfl (hb hby d_method_2_8) rfl ?_
      show Steps p.tables e below (s₁.setTop (mkF m 9 #[.val (.int p1), .val (.int (own_m6 p1))] [(.int (own_m6 p1))])) _
      exact kk)
  by_cases hc102 : (own_m6 p1) = (0 : Int32)
  · obtain ⟨T103, X103, e103, st103⟩ := getS2 X0 hx hZ hown (host := "") (Or.inl (hw _ (List.mem_of_getElem? (i := 5) rfl))) Via.refl e0 (Sz0.ext O0.2) (g := (mkF m 12 #[.val (.int p1), .val (.int (own_m6 p1))] [])) rfl (hb hby d_method_2_12)
    obtain ⟨fs, hr, hrun, hended, hW, hsame⟩ := X103.leave (v := some (.ref z0)) (fun h => by rw [Bd.returns] at h; cases h)
    refine ⟨_, _, pre101 _ ?_, hrun, hended, _, _, rfl, ?_, ⟨_, rfl⟩, hW, hsame.mono (by decide) (by decide)⟩
    · refine XS.ifNo X0.here hx rfl (hb hby d_method_2_9) rfl ((if0 _ _).trans (teq hc102).2) ?_
      show Steps p.tables e below (s₁.setTop (mkF m 12 #[.val (.int p1), .val (.int (own_m6 p1))] [])) _
      refine st103 _ ?_
      show Steps p.tables e below (T103.setTop (mkF m 15 #[.val (.int p1), .val (.int (own_m6 p1))] [(.ref z0)])) _
      exact retOut X103 hx (t := (.object "com/example/decisions_to_verdict/decisionstoverdict/Decision")) (i := .areturn) Bd.returns rfl (Or.inr (Or.inr (Or.inr (Or.inr ⟨rfl, rfl, rfl⟩)))) (hb hby d_method_2_15) hr
    · show Q_pick Z p1 z0 z1 z2 z3 z4 z5 h0 n0 _ T103.heap _
      rw [e103]
      exact ⟨(by simp [own_pk, eq_true hc102]), N0, rfl⟩
  · have pre104 : ∀ t, Steps p.tables e below (s₁.setTop (mkF m 18 #[.val (.int p1), .val (.int (own_m6 p1))] [(.int (1 : Int32)), (.int (own_m6 p1))])) t → Steps p.tables e below (s₁.setTop (entryFrame m #[(.int p1)] 2)) t := fun t kk => pre101 t (by
        refine XS.ifYes X0.here hx rfl (pc0 := 9) (pc' := 16) rfl (hb hby d_method_2_9) rfl ((if0 _ _).trans (feq hc102).2) (by decide) (by decide) ?_
        refine XS.iloadN X0.here hx rfl (hb hby d_method_2_16) rfl ?_
        refine XS.iconst X0.here hx rfl (hb hby d_method_2_17) ?_
        show Steps p.tables e below (s₁.setTop (mkF m 18 #[.val (.int p1), .val (.int (own_m6 p1))] [(.int (1 : Int32)), (.int (own_m6 p1))])) _
        exact kk)
    by_cases hc105 : (own_m6 p1) = (1 : Int32)
    · obtain ⟨T106, X106, e106, st106⟩ := getS2 X0 hx hZ hown (host := "") (Or.inl (hw _ (List.mem_of_getElem? (i := 12) rfl))) Via.refl e0 (Sz1.ext O0.2) (g := (mkF m 21 #[.val (.int p1), .val (.int (own_m6 p1))] [])) rfl (hb hby d_method_2_21)
      obtain ⟨fs, hr, hrun, hended, hW, hsame⟩ := X106.leave (v := some (.ref z1)) (fun h => by rw [Bd.returns] at h; cases h)
      refine ⟨_, _, pre104 _ ?_, hrun, hended, _, _, rfl, ?_, ⟨_, rfl⟩, hW, hsame.mono (by decide) (by decide)⟩
      · refine XS.icmpNo X0.here hx rfl (hb hby d_method_2_18) rfl (teq hc105).2 ?_
        show Steps p.tables e below (s₁.setTop (mkF m 21 #[.val (.int p1), .val (.int (own_m6 p1))] [])) _
        refine st106 _ ?_
        show Steps p.tables e below (T106.setTop (mkF m 24 #[.val (.int p1), .val (.int (own_m6 p1))] [(.ref z1)])) _
        exact retOut X106 hx (t := (.object "com/example/decisions_to_verdict/decisionstoverdict/Decision")) (i := .areturn) Bd.returns rfl (Or.inr (Or.inr (Or.inr (Or.inr ⟨rfl, rfl, rfl⟩)))) (hb hby d_method_2_24) hr
      · show Q_pick Z p1 z0 z1 z2 z3 z4 z5 h0 n0 _ T106.heap _
        rw [e106]
        exact ⟨(by simp [own_pk, eq_false hc102, eq_true hc105]), N0, rfl⟩
    · have pre107 : ∀ t, Steps p.tables e below (s₁.setTop (mkF m 27 #[.val (.int p1), .val (.int (own_m6 p1))] [(.int (2 : Int32)), (.int (own_m6 p1))])) t → Steps p.tables e below (s₁.setTop (entryFrame m #[(.int p1)] 2)) t := fun t kk => pre104 t (by
          refine XS.icmpYes X0.here hx rfl (pc0 := 18) (pc' := 25) rfl (hb hby d_method_2_18) rfl (feq hc105).2 (by decide) (by decide) ?_
          refine XS.iloadN X0.here hx rfl (hb hby d_method_2_25) rfl ?_
          refine XS.iconst X0.here hx rfl (hb hby d_method_2_26) ?_
          show Steps p.tables e below (s₁.setTop (mkF m 27 #[.val (.int p1), .val (.int (own_m6 p1))] [(.int (2 : Int32)), (.int (own_m6 p1))])) _
          exact kk)
      by_cases hc108 : (own_m6 p1) = (2 : Int32)
      · obtain ⟨T109, X109, e109, st109⟩ := getS2 X0 hx hZ hown (host := "") (Or.inl (hw _ (List.mem_of_getElem? (i := 10) rfl))) Via.refl e0 (Sz2.ext O0.2) (g := (mkF m 30 #[.val (.int p1), .val (.int (own_m6 p1))] [])) rfl (hb hby d_method_2_30)
        obtain ⟨fs, hr, hrun, hended, hW, hsame⟩ := X109.leave (v := some (.ref z2)) (fun h => by rw [Bd.returns] at h; cases h)
        refine ⟨_, _, pre107 _ ?_, hrun, hended, _, _, rfl, ?_, ⟨_, rfl⟩, hW, hsame.mono (by decide) (by decide)⟩
        · refine XS.icmpNo X0.here hx rfl (hb hby d_method_2_27) rfl (teq hc108).2 ?_
          show Steps p.tables e below (s₁.setTop (mkF m 30 #[.val (.int p1), .val (.int (own_m6 p1))] [])) _
          refine st109 _ ?_
          show Steps p.tables e below (T109.setTop (mkF m 33 #[.val (.int p1), .val (.int (own_m6 p1))] [(.ref z2)])) _
          exact retOut X109 hx (t := (.object "com/example/decisions_to_verdict/decisionstoverdict/Decision")) (i := .areturn) Bd.returns rfl (Or.inr (Or.inr (Or.inr (Or.inr ⟨rfl, rfl, rfl⟩)))) (hb hby d_method_2_33) hr
        · show Q_pick Z p1 z0 z1 z2 z3 z4 z5 h0 n0 _ T109.heap _
          rw [e109]
          exact ⟨(by simp [own_pk, eq_false hc102, eq_false hc105, eq_true hc108]), N0, rfl⟩
      · have pre110 : ∀ t, Steps p.tables e below (s₁.setTop (mkF m 36 #[.val (.int p1), .val (.int (own_m6 p1))] [(.int (3 : Int32)), (.int (own_m6 p1))])) t → Steps p.tables e below (s₁.setTop (entryFrame m #[(.int p1)] 2)) t := fun t kk => pre107 t (by
            refine XS.icmpYes X0.here hx rfl (pc0 := 27) (pc' := 34) rfl (hb hby d_method_2_27) rfl (feq hc108).2 (by decide) (by decide) ?_
            refine XS.iloadN X0.here hx rfl (hb hby d_method_2_34) rfl ?_
            refine XS.iconst X0.here hx rfl (hb hby d_method_2_35) ?_
            show Steps p.tables e below (s₁.setTop (mkF m 36 #[.val (.int p1), .val (.int (own_m6 p1))] [(.int (3 : Int32)), (.int (own_m6 p1))])) _
            exact kk)
        by_cases hc111 : (own_m6 p1) = (3 : Int32)
        · obtain ⟨T112, X112, e112, st112⟩ := getS2 X0 hx hZ hown (host := "") (Or.inl (hw _ (List.mem_of_getElem? (i := 8) rfl))) Via.refl e0 (Sz3.ext O0.2) (g := (mkF m 39 #[.val (.int p1), .val (.int (own_m6 p1))] [])) rfl (hb hby d_method_2_39)
          obtain ⟨fs, hr, hrun, hended, hW, hsame⟩ := X112.leave (v := some (.ref z3)) (fun h => by rw [Bd.returns] at h; cases h)
          refine ⟨_, _, pre110 _ ?_, hrun, hended, _, _, rfl, ?_, ⟨_, rfl⟩, hW, hsame.mono (by decide) (by decide)⟩
          · refine XS.icmpNo X0.here hx rfl (hb hby d_method_2_36) rfl (teq hc111).2 ?_
            show Steps p.tables e below (s₁.setTop (mkF m 39 #[.val (.int p1), .val (.int (own_m6 p1))] [])) _
            refine st112 _ ?_
            show Steps p.tables e below (T112.setTop (mkF m 42 #[.val (.int p1), .val (.int (own_m6 p1))] [(.ref z3)])) _
            exact retOut X112 hx (t := (.object "com/example/decisions_to_verdict/decisionstoverdict/Decision")) (i := .areturn) Bd.returns rfl (Or.inr (Or.inr (Or.inr (Or.inr ⟨rfl, rfl, rfl⟩)))) (hb hby d_method_2_42) hr
          · show Q_pick Z p1 z0 z1 z2 z3 z4 z5 h0 n0 _ T112.heap _
            rw [e112]
            exact ⟨(by simp [own_pk, eq_false hc102, eq_false hc105, eq_false hc108, eq_true hc111]), N0, rfl⟩
        · have pre113 : ∀ t, Steps p.tables e below (s₁.setTop (mkF m 45 #[.val (.int p1), .val (.int (own_m6 p1))] [(.int (4 : Int32)), (.int (own_m6 p1))])) t → Steps p.tables e below (s₁.setTop (entryFrame m #[(.int p1)] 2)) t := fun t kk => pre110 t (by
              refine XS.icmpYes X0.here hx rfl (pc0 := 36) (pc' := 43) rfl (hb hby d_method_2_36) rfl (feq hc111).2 (by decide) (by decide) ?_
              refine XS.iloadN X0.here hx rfl (hb hby d_method_2_43) rfl ?_
              refine XS.iconst X0.here hx rfl (hb hby d_method_2_44) ?_
              show Steps p.tables e below (s₁.setTop (mkF m 45 #[.val (.int p1), .val (.int (own_m6 p1))] [(.int (4 : Int32)), (.int (own_m6 p1))])) _
              exact kk)
          by_cases hc114 : (own_m6 p1) = (4 : Int32)
          · obtain ⟨T115, X115, e115, st115⟩ := getS2 X0 hx hZ hown (host := "") (Or.inl (hw _ (List.mem_of_getElem? (i := 49) rfl))) Via.refl e0 (Sz4.ext O0.2) (g := (mkF m 48 #[.val (.int p1), .val (.int (own_m6 p1))] [])) rfl (hb hby d_method_2_48)
            obtain ⟨fs, hr, hrun, hended, hW, hsame⟩ := X115.leave (v := some (.ref z4)) (fun h => by rw [Bd.returns] at h; cases h)
            refine ⟨_, _, pre113 _ ?_, hrun, hended, _, _, rfl, ?_, ⟨_, rfl⟩, hW, hsame.mono (by decide) (by decide)⟩
            · refine XS.icmpNo X0.here hx rfl (hb hby d_method_2_45) rfl (teq hc114).2 ?_
              show Steps p.tables e below (s₁.setTop (mkF m 48 #[.val (.int p1), .val (.int (own_m6 p1))] [])) _
              refine st115 _ ?_
              show Steps p.tables e below (T115.setTop (mkF m 51 #[.val (.int p1), .val (.int (own_m6 p1))] [(.ref z4)])) _
              exact retOut X115 hx (t := (.object "com/example/decisions_to_verdict/decisionstoverdict/Decision")) (i := .areturn) Bd.returns rfl (Or.inr (Or.inr (Or.inr (Or.inr ⟨rfl, rfl, rfl⟩)))) (hb hby d_method_2_51) hr
            · show Q_pick Z p1 z0 z1 z2 z3 z4 z5 h0 n0 _ T115.heap _
              rw [e115]
              exact ⟨(by simp [own_pk, eq_false hc102, eq_false hc105, eq_false hc108, eq_false hc111, eq_true hc114]), N0, rfl⟩
          · obtain ⟨T116, X116, e116, st116⟩ := getS2 X0 hx hZ hown (host := "") (Or.inl (hw _ (List.mem_of_getElem? (i := 65) rfl))) Via.refl e0 (Sz5.ext O0.2) (g := (mkF m 52 #[.val (.int p1), .val (.int (own_m6 p1))] [])) rfl (hb hby d_method_2_52)
            obtain ⟨fs, hr, hrun, hended, hW, hsame⟩ := X116.leave (v := some (.ref z5)) (fun h => by rw [Bd.returns] at h; cases h)
            refine ⟨_, _, pre113 _ ?_, hrun, hended, _, _, rfl, ?_, ⟨_, rfl⟩, hW, hsame.mono (by decide) (by decide)⟩
            · refine XS.icmpYes X0.here hx rfl (pc0 := 45) (pc' := 52) rfl (hb hby d_method_2_45) rfl (feq hc114).2 (by decide) (by decide) ?_
              show Steps p.tables e below (s₁.setTop (mkF m 52 #[.val (.int p1), .val (.int (own_m6 p1))] [])) _
              refine st116 _ ?_
              show Steps p.tables e below (T116.setTop (mkF m 55 #[.val (.int p1), .val (.int (own_m6 p1))] [(.ref z5)])) _
              exact retOut X116 hx (t := (.object "com/example/decisions_to_verdict/decisionstoverdict/Decision")) (i := .areturn) Bd.returns rfl (Or.inr (Or.inr (Or.inr (Or.inr ⟨rfl, rfl, rfl⟩)))) (hb hby d_method_2_55) hr
            · show Q_pick Z p1 z0 z1 z2 z3 z4 z5 h0 n0 _ T116.heap _
              rw [e116]
              exact ⟨(by simp [own_pk, eq_false hc102, eq_false hc105, eq_false hc108, eq_false hc111, eq_false hc114]), N0, rfl⟩
theorem ef_cin (m : MethodId) (a1 : Addr) (p2 : Int32) : entryFrame m #[(.ref a1), (.int p2)] 2 = mkF m 0 #[.val (.ref a1), .val (.int p2)] [] := by first | (simp [entryFrame, mkF, argsToLocals, Value.category]; done) | rfl
def Q_cin (Z : State) (a1 : Addr) (p2 : Int32) (u0 : Value) (u1 : Value) (u2 : Value) (u3 : Value) (u4 : Value) (h0 : Heap) (n0 : Nat) (v : Option Value) (h : Heap) (L : List Loc) : Prop := v = none ∧ Fr n0 L ∧ Keep h0 h [a1] ∧ Exa Z h a1 "com/example/decisions_to_verdict/decisionstoverdict/Combination$Unless" ∧ Fld Z h a1 "com/example/decisions_to_verdict/decisionstoverdict/Combination" "count" "I" (.int p2) ∧ Fld Z h a1 "com/example/decisions_to_verdict/decisionstoverdict/Combination" "added" "I" u1 ∧ Fld Z h a1 "com/example/decisions_to_verdict/decisionstoverdict/Combination" "verdict" "Lcom/example/decisions_to_verdict/decisionstoverdict/Decision;" u2 ∧ Fld Z h a1 "com/example/decisions_to_verdict/decisionstoverdict/Combination$Unless" "decisive" "Lcom/example/decisions_to_verdict/decisionstoverdict/Decision;" u3 ∧ Fld Z h a1 "com/example/decisions_to_verdict/decisionstoverdict/Combination$Unless" "otherwise" "Lcom/example/decisions_to_verdict/decisionstoverdict/Decision;" u4
set_option maxRecDepth 65536 in
set_option maxHeartbeats 40000000 in
theorem rm_cin (l : Launch) (Z : State) (a0 : Array Value) (hw : ∀ d ∈ tables_1, d.before a0 Z = true) (ws : List Jvm.Cond) (a1 : Addr) (p2 : Int32) (u0 : Value) (u1 : Value) (u2 : Value) (u3 : Value) (u4 : Value) (h0 : Heap) (n0 : Nat) (O0 : Old Z n0 h0) (E1 : Exa Z h0 a1 "com/example/decisions_to_verdict/decisionstoverdict/Combination$Unless") (F0 : Fld Z h0 a1 "com/example/decisions_to_verdict/decisionstoverdict/Combination" "count" "I" u0) (F1 : Fld Z h0 a1 "com/example/decisions_to_verdict/decisionstoverdict/Combination" "added" "I" u1) (F2 : Fld Z h0 a1 "com/example/decisions_to_verdict/decisionstoverdict/Combination" "verdict" "Lcom/example/decisions_to_verdict/decisionstoverdict/Decision;" u2) (F3 : Fld Z h0 a1 "com/example/decisions_to_verdict/decisionstoverdict/Combination$Unless" "decisive" "Lcom/example/decisions_to_verdict/decisionstoverdict/Decision;" u3) (F4 : Fld Z h0 a1 "com/example/decisions_to_verdict/decisionstoverdict/Combination$Unless" "otherwise" "Lcom/example/decisions_to_verdict/decisionstoverdict/Decision;" u4) (g1 : n0 ≤ a1) (hp : ¬ (p2 < (0 : Int32))) :
    MetFree l (⟨"com/example/decisions_to_verdict/decisionstoverdict/Combination", "<init>", "(I)V"⟩ : MethodName) (head1 (Jvm.Cond.code (⟨"com/example/decisions_to_verdict/decisionstoverdict/Combination", "<init>", "(I)V"⟩ : MethodName) prog_10_method_1_code 2 none :: ws) ({ frames := 1, cells := 0, slots := 0, locals := 12 } : Room)) (fun a U => a = #[(.ref a1), (.int p2)] ∧ Z.Warmed39 U.vm ∧ U.heap = h0) (fun _ _ _ _ _ => True) (fun _ U o U' => ∃ v L, o = .returned v ∧ Q_cin Z a1 p2 u0 u1 u2 u3 u4 h0 n0 v U'.heap L ∧ FrameEnd U o U' L ({ frames := 1, cells := 0, slots := 0, locals := 12 } : Room).cells ({ frames := 1, cells := 0, slots := 0, locals := 12 } : Room).slots) := by
  refine MetFree.of_bodySF (plainFor_of_name pn_1) hisR ?_
  intro p e s m args below meth c s₁ Bd hml0 hP hK
  obtain ⟨rfl, hZ, hh⟩ := hP
  have hx := Bd.exec
  have hby := Bd.bytes
  have hml : c.maxLocals = 2 := hml0
  have hown : s.vm.findClass "com/example/decisions_to_verdict/decisionstoverdict/Combination" = some m.cls := findClass_of_methodNamed Bd.named
  have hnm := (name_of_methodNamed Bd.named Bd.method).1
  have X0 : Stand p l e ({ frames := 1, cells := 0, slots := 0, locals := 12 } : Room) s m #[(.ref a1), (.int p2)] below meth c s₁ [] 0 0 := Stand.of_body Bd
  have e0 : s₁.heap = h0 := by rw [← hh, Bd.state]; rfl
  have N0 := Fr.nil n0
  have K0 : Keep h0 h0 [a1] := Keep.refl _ _
  have pre0 : ∀ t, Steps p.tables e below (s₁.setTop (mkF m 0 #[.val (.ref a1), .val (.int p2)] [])) t → Steps p.tables e below (s₁.setTop (entryFrame m #[(.ref a1), (.int p2)] 2)) t := fun t k => castTop (ef_cin m a1 p2) k
  obtain ⟨T101, X101, e101, st101⟩ := initO X0 hx hZ hown (hw _ (List.mem_of_getElem? (i := 25) rfl)) (hw _ (List.mem_of_getElem? (i := 26) rfl)) (hw _ (List.mem_of_getElem? (i := 27) rfl)) e0 (g := (mkF m 1 #[.val (.ref a1), .val (.int p2)] [(.ref a1)])) rfl (by rw [hml]; rfl) rfl (hb hby d_prog_10_method_1_1) (by decide) (W := 0) (by show 2 * 0 + _ ≤ _; exact Nat.le_of_eq rfl) (by decide)
  have hc102 : ¬ (p2 < (0 : Int32)) := hp
  obtain ⟨T103, h103, X103, e103, W103, st103⟩ := putF X101 hx hZ hown (host := "") (Or.inl (hw _ (List.mem_of_getElem? (i := 28) rfl))) Via.refl e101 F0 E1 (Or.inr ⟨(hw _ (List.mem_of_getElem? (i := 29) rfl)), rfl, hnm⟩) (hw _ (List.mem_of_getElem? (i := 15) rfl)) (ty := .int) (by decide) rfl rfl (g := (mkF m 24 #[.val (.ref a1), .val (.int p2)] [(.int p2), (.ref a1)])) rfl rfl (hb hby d_prog_10_method_1_24)
  have F103 := F0.same W103
  have N103 := Fr.snoc X103 N0 g1
  have O103 := O0.wr W103 g1
  have K103 := K0.wr W103 (Or.inl (List.mem_of_getElem? (i := 0) rfl))
  have f104 := (E1.wr W103)
  have f105 := (F1.other W103 (Or.inr (slot_ne (Or.inl (hw _ (List.mem_of_getElem? (i := 43) rfl))) (Or.inr (hw _ (List.mem_of_getElem? (i := 29) rfl))) (by decide) (t := .int) (t' := .int) (by decide) (by decide))))
  have f106 := (F2.other W103 (Or.inr (slot_ne (Or.inl (hw _ (List.mem_of_getElem? (i := 41) rfl))) (Or.inr (hw _ (List.mem_of_getElem? (i := 29) rfl))) (by decide) (t := (.object "com/example/decisions_to_verdict/decisionstoverdict/Decision")) (t' := .int) (by decide) (by decide))))
  have f107 := (F3.other W103 (Or.inr (slot_ne (Or.inr (hw _ (List.mem_of_getElem? (i := 31) rfl))) (Or.inr (hw _ (List.mem_of_getElem? (i := 29) rfl))) (by decide) (t := (.object "com/example/decisions_to_verdict/decisionstoverdict/Decision")) (t' := .int) (by decide) (by decide))))
  have f108 := (F4.other W103 (Or.inr (slot_ne (Or.inr (hw _ (List.mem_of_getElem? (i := 33) rfl))) (Or.inr (hw _ (List.mem_of_getElem? (i := 29) rfl))) (by decide) (t := (.object "com/example/decisions_to_verdict/decisionstoverdict/Decision")) (t' := .int) (by decide) (by decide))))
  obtain ⟨fs, hr, hrun, hended, hW, hsame⟩ := X103.leave (v := none) (fun _ => rfl)
  refine ⟨_, _, pre0 _ ?_, hrun, hended, _, _, rfl, ?_, ⟨_, rfl⟩, hW, hsame.mono (by decide) (by decide)⟩
  · show Steps p.tables e below (s₁.setTop (mkF m 0 #[.val (.ref a1), .val (.int p2)] [])) _
    refine XS.aloadN X0.here hx rfl (hb hby d_prog_10_method_1_0) rfl rfl ?_
    show Steps p.tables e below (s₁.setTop (mkF m 1 #[.val (.ref a1), .val (.int p2)] [(.ref a1)])) _
    refine st101 _ ?_
    show Steps p.tables e below (T101.setTop (mkF m 4 #[.val (.ref a1), .val (.int p2)] [])) _
    refine XS.iloadN X101.here hx rfl (hb hby d_prog_10_method_1_4) rfl ?_
    refine XS.ifYes X101.here hx rfl (pc0 := 5) (pc' := 22) rfl (hb hby d_prog_10_method_1_5) rfl ((if0 _ _).trans (flt hc102).2.1) (by decide) (by decide) ?_
    refine XS.aloadN X101.here hx rfl (hb hby d_prog_10_method_1_22) rfl rfl ?_
    refine XS.iloadN X101.here hx rfl (hb hby d_prog_10_method_1_23) rfl ?_
    show Steps p.tables e below (T101.setTop (mkF m 24 #[.val (.ref a1), .val (.int p2)] [(.int p2), (.ref a1)])) _
    refine st103 _ ?_
    show Steps p.tables e below (T103.setTop (mkF m 27 #[.val (.ref a1), .val (.int p2)] [])) _
    exact X103.returnOut hx Bd.returns (hb hby d_prog_10_method_1_27) hr
  · show Q_cin Z a1 p2 u0 u1 u2 u3 u4 h0 n0 _ T103.heap _
    rw [e103]
    exact ⟨rfl, N103, K103, f104, F103, f105, f106, f107, f108⟩
theorem ef_uin (m : MethodId) (a1 : Addr) (p2 : Int32) (aD : Addr) (aO : Addr) : entryFrame m #[(.ref a1), (.int p2), (.ref aD), (.ref aO)] 4 = mkF m 0 #[.val (.ref a1), .val (.int p2), .val (.ref aD), .val (.ref aO)] [] := by first | (simp [entryFrame, mkF, argsToLocals, Value.category]; done) | rfl
def Q_uin (Z : State) (a1 : Addr) (p2 : Int32) (aD : Addr) (aO : Addr) (u0 : Value) (u1 : Value) (u2 : Value) (u3 : Value) (u4 : Value) (h0 : Heap) (n0 : Nat) (v : Option Value) (h : Heap) (L : List Loc) : Prop := v = none ∧ Fr n0 L ∧ Keep h0 h [a1] ∧ Exa Z h a1 "com/example/decisions_to_verdict/decisionstoverdict/Combination$Unless" ∧ Fld Z h a1 "com/example/decisions_to_verdict/decisionstoverdict/Combination" "count" "I" (.int p2) ∧ Fld Z h a1 "com/example/decisions_to_verdict/decisionstoverdict/Combination" "added" "I" u1 ∧ Fld Z h a1 "com/example/decisions_to_verdict/decisionstoverdict/Combination" "verdict" "Lcom/example/decisions_to_verdict/decisionstoverdict/Decision;" u2 ∧ Fld Z h a1 "com/example/decisions_to_verdict/decisionstoverdict/Combination$Unless" "decisive" "Lcom/example/decisions_to_verdict/decisionstoverdict/Decision;" (.ref aD) ∧ Fld Z h a1 "com/example/decisions_to_verdict/decisionstoverdict/Combination$Unless" "otherwise" "Lcom/example/decisions_to_verdict/decisionstoverdict/Decision;" (.ref aO)
set_option maxRecDepth 65536 in
set_option maxHeartbeats 40000000 in
theorem rm_uin (l : Launch) (Z : State) (a0 : Array Value) (hw : ∀ d ∈ tables_1, d.before a0 Z = true) (ws : List Jvm.Cond) (a1 : Addr) (p2 : Int32) (aD : Addr) (aO : Addr) (u0 : Value) (u1 : Value) (u2 : Value) (u3 : Value) (u4 : Value) (h0 : Heap) (n0 : Nat) (O0 : Old Z n0 h0) (E1 : Exa Z h0 a1 "com/example/decisions_to_verdict/decisionstoverdict/Combination$Unless") (F0 : Fld Z h0 a1 "com/example/decisions_to_verdict/decisionstoverdict/Combination" "count" "I" u0) (F1 : Fld Z h0 a1 "com/example/decisions_to_verdict/decisionstoverdict/Combination" "added" "I" u1) (F2 : Fld Z h0 a1 "com/example/decisions_to_verdict/decisionstoverdict/Combination" "verdict" "Lcom/example/decisions_to_verdict/decisionstoverdict/Decision;" u2) (F3 : Fld Z h0 a1 "com/example/decisions_to_verdict/decisionstoverdict/Combination$Unless" "decisive" "Lcom/example/decisions_to_verdict/decisionstoverdict/Decision;" u3) (F4 : Fld Z h0 a1 "com/example/decisions_to_verdict/decisionstoverdict/Combination$Unless" "otherwise" "Lcom/example/decisions_to_verdict/decisionstoverdict/Decision;" u4) (g1 : n0 ≤ a1) (hp : ¬ (p2 < (0 : Int32))) :
    MetFree l (⟨"com/example/decisions_to_verdict/decisionstoverdict/Combination$Unless", "<init>", "(ILcom/example/decisions_to_verdict/decisionstoverdict/Decision;Lcom/example/decisions_to_verdict/decisionstoverdict/Decision;)V"⟩ : MethodName) (head1 (Jvm.Cond.code (⟨"com/example/decisions_to_verdict/decisionstoverdict/Combination$Unless", "<init>", "(ILcom/example/decisions_to_verdict/decisionstoverdict/Decision;Lcom/example/decisions_to_verdict/decisionstoverdict/Decision;)V"⟩ : MethodName) prog_17_method_1_code 4 none :: ws) ({ frames := 2, cells := 0, slots := 0, locals := 25 } : Room)) (fun a U => a = #[(.ref a1), (.int p2), (.ref aD), (.ref aO)] ∧ Z.Warmed39 U.vm ∧ U.heap = h0) (fun _ _ _ _ _ => True) (fun _ U o U' => ∃ v L, o = .returned v ∧ Q_uin Z a1 p2 aD aO u0 u1 u2 u3 u4 h0 n0 v U'.heap L ∧ FrameEnd U o U' L ({ frames := 2, cells := 0, slots := 0, locals := 25 } : Room).cells ({ frames := 2, cells := 0, slots := 0, locals := 25 } : Room).slots) := by
  refine MetFree.of_bodySF (plainFor_of_name pn_2) hisR ?_
  intro p e s m args below meth c s₁ Bd hml0 hP hK
  obtain ⟨rfl, hZ, hh⟩ := hP
  have hx := Bd.exec
  have hby := Bd.bytes
  have hml : c.maxLocals = 4 := hml0
  have hown : s.vm.findClass "com/example/decisions_to_verdict/decisionstoverdict/Combination$Unless" = some m.cls := findClass_of_methodNamed Bd.named
  have hnm := (name_of_methodNamed Bd.named Bd.method).1
  have X0 : Stand p l e ({ frames := 2, cells := 0, slots := 0, locals := 25 } : Room) s m #[(.ref a1), (.int p2), (.ref aD), (.ref aO)] below meth c s₁ [] 0 0 := Stand.of_body Bd
  have e0 : s₁.heap = h0 := by rw [← hh, Bd.state]; rfl
  have N0 := Fr.nil n0
  have K0 : Keep h0 h0 [a1] := Keep.refl _ _
  have pre0 : ∀ t, Steps p.tables e below (s₁.setTop (mkF m 0 #[.val (.ref a1), .val (.int p2), .val (.ref aD), .val (.ref aO)] [])) t → Steps p.tables e below (s₁.setTop (entryFrame m #[(.ref a1), (.int p2), (.ref aD), (.ref aO)] 4)) t := fun t k => castTop (ef_uin m a1 p2 aD aO) k
  obtain ⟨_, _, ⟨T101, L101, k101, n101⟩, -, X101, ⟨Lc101, hQ101, l101, y101, z101⟩, st101⟩ := X0.specialBackNest hx (y := (⟨"com/example/decisions_to_verdict/decisionstoverdict/Combination", "<init>", "(I)V"⟩ : MethodName)) rfl hown (own_mvMN hZ (hw _ (List.mem_of_getElem? (i := 20) rfl))) (mvT hZ (hw _ (List.mem_of_getElem? (i := 21) rfl))) (mvT hZ (hw _ (List.mem_of_getElem? (i := 24) rfl))) (by decide) (backOf (W := 0) (rm_cin l Z a0 hw [] a1 p2 (u0) (u1) (u2) (u3) (u4) h0 n0 O0 E1 F0 F1 F2 F3 F4 g1 hp) hZ (hw _ (List.mem_of_getElem? (i := 24) rfl)) (hw _ (List.mem_of_getElem? (i := 23) rfl)) (by decide) (by decide)) (g := (mkF m 2 #[.val (.ref a1), .val (.int p2), .val (.ref aD), .val (.ref aO)] [(.int p2), (.ref a1)])) rfl (by rw [hml]; rfl) (Steps.refl _) (a := a1) (argsL := [(.int p2)]) (rest := []) (lenOf pd_0 rfl) rfl (by show 2 * 0 + _ ≤ _; exact Nat.le_of_eq rfl) (hb hby d_prog_17_method_1_2) (fun _ _ => ⟨rfl, e0, (by decide : 0 + 0 ≤ _), (by decide : 0 + 0 ≤ _)⟩)
  dsimp only [Pt.U, Pt.locs, Pt.cells, Pt.slots] at X101 l101 y101 z101 st101 hQ101
  subst l101 y101 z101
  obtain ⟨rfl, Nq101, Kq101, Ei101, Fi0_101, Fi1_101, Fi2_101, Fi3_101, Fi4_101⟩ := hQ101
  have N101 := Fr.app N0 Nq101
  have O101 := O0.keep Kq101 (allS g1 all0)
  have K101 := K0.trans Kq101 (allS (Or.inl (List.mem_of_getElem? (i := 0) rfl)) all0)
  obtain ⟨T102, h102, X102, e102, W102, st102⟩ := putF X101 hx hZ hown (host := "") (Or.inl (hw _ (List.mem_of_getElem? (i := 30) rfl))) Via.refl rfl Fi3_101 Ei101 (Or.inr ⟨(hw _ (List.mem_of_getElem? (i := 31) rfl)), rfl, hnm⟩) (hw _ (List.mem_of_getElem? (i := 15) rfl)) (ty := (.object "com/example/decisions_to_verdict/decisionstoverdict/Decision")) (by decide) rfl rfl (g := (mkF m 7 #[.val (.ref a1), .val (.int p2), .val (.ref aD), .val (.ref aO)] [(.ref aD), (.ref a1)])) rfl rfl (hb hby d_prog_17_method_1_7)
  have F102 := Fi3_101.same W102
  have N102 := Fr.snoc X102 N101 g1
  have O102 := O101.wr W102 g1
  have K102 := K101.wr W102 (Or.inl (List.mem_of_getElem? (i := 0) rfl))
  have f103 := (Ei101.wr W102)
  have f104 := (Fi4_101.other W102 (Or.inr (slot_ne (Or.inr (hw _ (List.mem_of_getElem? (i := 33) rfl))) (Or.inr (hw _ (List.mem_of_getElem? (i := 31) rfl))) (by decide) (t := (.object "com/example/decisions_to_verdict/decisionstoverdict/Decision")) (t' := (.object "com/example/decisions_to_verdict/decisionstoverdict/Decision")) (by decide) (by decide))))
  obtain ⟨T105, h105, X105, e105, W105, st105⟩ := putF X102 hx hZ hown (host := "") (Or.inl (hw _ (List.mem_of_getElem? (i := 32) rfl))) Via.refl e102 f104 f103 (Or.inr ⟨(hw _ (List.mem_of_getElem? (i := 33) rfl)), rfl, hnm⟩) (hw _ (List.mem_of_getElem? (i := 15) rfl)) (ty := (.object "com/example/decisions_to_verdict/decisionstoverdict/Decision")) (by decide) rfl rfl (g := (mkF m 12 #[.val (.ref a1), .val (.int p2), .val (.ref aD), .val (.ref aO)] [(.ref aO), (.ref a1)])) rfl rfl (hb hby d_prog_17_method_1_12)
  have F105 := f104.same W105
  have N105 := Fr.snoc X105 N102 g1
  have O105 := O102.wr W105 g1
  have K105 := K102.wr W105 (Or.inl (List.mem_of_getElem? (i := 0) rfl))
  have f106 := (f103.wr W105)
  have f107 := ((Fi0_101.other W102 (Or.inr (slot_ne (Or.inr (hw _ (List.mem_of_getElem? (i := 29) rfl))) (Or.inr (hw _ (List.mem_of_getElem? (i := 31) rfl))) (by decide) (t := .int) (t' := (.object "com/example/decisions_to_verdict/decisionstoverdict/Decision")) (by decide) (by decide)))).other W105 (Or.inr (slot_ne (Or.inr (hw _ (List.mem_of_getElem? (i := 29) rfl))) (Or.inr (hw _ (List.mem_of_getElem? (i := 33) rfl))) (by decide) (t := .int) (t' := (.object "com/example/decisions_to_verdict/decisionstoverdict/Decision")) (by decide) (by decide))))
  have f108 := ((Fi1_101.other W102 (Or.inr (slot_ne (Or.inl (hw _ (List.mem_of_getElem? (i := 43) rfl))) (Or.inr (hw _ (List.mem_of_getElem? (i := 31) rfl))) (by decide) (t := .int) (t' := (.object "com/example/decisions_to_verdict/decisionstoverdict/Decision")) (by decide) (by decide)))).other W105 (Or.inr (slot_ne (Or.inl (hw _ (List.mem_of_getElem? (i := 43) rfl))) (Or.inr (hw _ (List.mem_of_getElem? (i := 33) rfl))) (by decide) (t := .int) (t' := (.object "com/example/decisions_to_verdict/decisionstoverdict/Decision")) (by decide) (by decide))))
  have f109 := ((Fi2_101.other W102 (Or.inr (slot_ne (Or.inl (hw _ (List.mem_of_getElem? (i := 41) rfl))) (Or.inr (hw _ (List.mem_of_getElem? (i := 31) rfl))) (by decide) (t := (.object "com/example/decisions_to_verdict/decisionstoverdict/Decision")) (t' := (.object "com/example/decisions_to_verdict/decisionstoverdict/Decision")) (by decide) (by decide)))).other W105 (Or.inr (slot_ne (Or.inl (hw _ (List.mem_of_getElem? (i := 41) rfl))) (Or.inr (hw _ (List.mem_of_getElem? (i := 33) rfl))) (by decide) (t := (.object "com/example/decisions_to_verdict/decisionstoverdict/Decision")) (t' := (.object "com/example/decisions_to_verdict/decisionstoverdict/Decision")) (by decide) (by decide))))
  have f110 := (F102.other W105 (Or.inr (slot_ne (Or.inr (hw _ (List.mem_of_getElem? (i := 31) rfl))) (Or.inr (hw _ (List.mem_of_getElem? (i := 33) rfl))) (by decide) (t := (.object "com/example/decisions_to_verdict/decisionstoverdict/Decision")) (t' := (.object "com/example/decisions_to_verdict/decisionstoverdict/Decision")) (by decide) (by decide))))
  obtain ⟨fs, hr, hrun, hended, hW, hsame⟩ := X105.leave (v := none) (fun _ => rfl)
  refine ⟨_, _, pre0 _ ?_, hrun, hended, _, _, rfl, ?_, ⟨_, rfl⟩, hW, hsame.mono (by decide) (by decide)⟩
  · show Steps p.tables e below (s₁.setTop (mkF m 0 #[.val (.ref a1), .val (.int p2), .val (.ref aD), .val (.ref aO)] [])) _
    refine XS.aloadN X0.here hx rfl (hb hby d_prog_17_method_1_0) rfl rfl ?_
    refine XS.iloadN X0.here hx rfl (hb hby d_prog_17_method_1_1) rfl ?_
    show Steps p.tables e below (s₁.setTop (mkF m 2 #[.val (.ref a1), .val (.int p2), .val (.ref aD), .val (.ref aO)] [(.int p2), (.ref a1)])) _
    refine st101.trans ?_
    show Steps p.tables e below (T101.setTop (mkF m 5 #[.val (.ref a1), .val (.int p2), .val (.ref aD), .val (.ref aO)] [])) _
    refine XS.aloadN X101.here hx rfl (hb hby d_prog_17_method_1_5) rfl rfl ?_
    refine XS.aloadN X101.here hx rfl (hb hby d_prog_17_method_1_6) rfl rfl ?_
    show Steps p.tables e below (T101.setTop (mkF m 7 #[.val (.ref a1), .val (.int p2), .val (.ref aD), .val (.ref aO)] [(.ref aD), (.ref a1)])) _
    refine st102 _ ?_
    show Steps p.tables e below (T102.setTop (mkF m 10 #[.val (.ref a1), .val (.int p2), .val (.ref aD), .val (.ref aO)] [])) _
    refine XS.aloadN X102.here hx rfl (hb hby d_prog_17_method_1_10) rfl rfl ?_
    refine XS.aloadN X102.here hx rfl (hb hby d_prog_17_method_1_11) rfl rfl ?_
    show Steps p.tables e below (T102.setTop (mkF m 12 #[.val (.ref a1), .val (.int p2), .val (.ref aD), .val (.ref aO)] [(.ref aO), (.ref a1)])) _
    refine st105 _ ?_
    show Steps p.tables e below (T105.setTop (mkF m 15 #[.val (.ref a1), .val (.int p2), .val (.ref aD), .val (.ref aO)] [])) _
    exact X105.returnOut hx Bd.returns (hb hby d_prog_17_method_1_15) hr
  · show Q_uin Z a1 p2 aD aO u0 u1 u2 u3 u4 h0 n0 _ T105.heap _
    rw [e105]
    exact ⟨rfl, N105, K105, f106, f107, f108, f109, f110, F105⟩
theorem ef_is0 (m : MethodId) (a1 : Addr) : entryFrame m #[(.ref a1)] 1 = mkF m 0 #[.val (.ref a1)] [] := by first | (simp [entryFrame, mkF, argsToLocals, Value.category]; done) | rfl
def Q_is0 (Z : State) (a1 : Addr) (w : Int32) (h0 : Heap) (n0 : Nat) (v : Option Value) (h : Heap) (L : List Loc) : Prop := v = some (.int (0 : Int32)) ∧ Fr n0 L ∧ h = h0
set_option maxRecDepth 65536 in
set_option maxHeartbeats 40000000 in
theorem rm_is0 (l : Launch) (Z : State) (a0 : Array Value) (hw : ∀ d ∈ tables_1, d.before a0 Z = true) (ws : List Jvm.Cond) (a1 : Addr) (w : Int32) (h0 : Heap) (n0 : Nat) (O0 : Old Z n0 h0) (FV : Fld Z h0 a1 "com/example/decisions_to_verdict/decisionstoverdict/Combination" "verdict" "Lcom/example/decisions_to_verdict/decisionstoverdict/Decision;" .null) (FA : Fld Z h0 a1 "com/example/decisions_to_verdict/decisionstoverdict/Combination" "added" "I" (.int 0)) (FC : Fld Z h0 a1 "com/example/decisions_to_verdict/decisionstoverdict/Combination" "count" "I" (.int w)) (hne : ¬ ((0 : Int32) = w)) :
    MetFree l (⟨"com/example/decisions_to_verdict/decisionstoverdict/Combination", "isSettled", "()Z"⟩ : MethodName) (head1 (Jvm.Cond.code (⟨"com/example/decisions_to_verdict/decisionstoverdict/Combination", "isSettled", "()Z"⟩ : MethodName) prog_10_method_4_code 1 (some .boolean) :: ws) ({ frames := 0, cells := 0, slots := 0, locals := 0 } : Room)) (fun a U => a = #[(.ref a1)] ∧ Z.Warmed39 U.vm ∧ U.heap = h0) (fun _ _ _ _ _ => True) (fun _ U o U' => ∃ v L, o = .returned v ∧ Q_is0 Z a1 w h0 n0 v U'.heap L ∧ FrameEnd U o U' L ({ frames := 0, cells := 0, slots := 0, locals := 0 } : Room).cells ({ frames := 0, cells := 0, slots := 0, locals := 0 } : Room).slots) := by
  refine MetFree.of_bodySF (plainFor_of_name pn_1) hisR ?_
  intro p e s m args below meth c s₁ Bd hml0 hP hK
  obtain ⟨rfl, hZ, hh⟩ := hP
  have hx := Bd.exec
  have hby := Bd.bytes
  have hml : c.maxLocals = 1 := hml0
  have hown : s.vm.findClass "com/example/decisions_to_verdict/decisionstoverdict/Combination" = some m.cls := findClass_of_methodNamed Bd.named
  have hnm := (name_of_methodNamed Bd.named Bd.method).1
  have X0 : Stand p l e ({ frames := 0, cells := 0, slots := 0, locals := 0 } : Room) s m #[(.ref a1)] below meth c s₁ [] 0 0 := Stand.of_body Bd
  have e0 : s₁.heap = h0 := by rw [← hh, Bd.state]; rfl
  have N0 := Fr.nil n0
  have pre0 : ∀ t, Steps p.tables e below (s₁.setTop (mkF m 0 #[.val (.ref a1)] [])) t → Steps p.tables e below (s₁.setTop (entryFrame m #[(.ref a1)] 1)) t := fun t k => castTop (ef_is0 m a1) k
  obtain ⟨T101, X101, e101, st101⟩ := getF X0 hx hZ hown (host := "") (Or.inl (hw _ (List.mem_of_getElem? (i := 40) rfl))) Via.refl e0 FV (g := (mkF m 1 #[.val (.ref a1)] [(.ref a1)])) rfl rfl (hb hby d_prog_10_method_4_1)
  obtain ⟨T102, X102, e102, st102⟩ := getF X101 hx hZ hown (host := "") (Or.inl (hw _ (List.mem_of_getElem? (i := 42) rfl))) Via.refl e101 FA (g := (mkF m 8 #[.val (.ref a1)] [(.ref a1)])) rfl rfl (hb hby d_prog_10_method_4_8)
  obtain ⟨T103, X103, e103, st103⟩ := getF X102 hx hZ hown (host := "") (Or.inl (hw _ (List.mem_of_getElem? (i := 28) rfl))) Via.refl e102 FC (g := (mkF m 12 #[.val (.ref a1)] [(.ref a1), (.int (0 : Int32))])) rfl rfl (hb hby d_prog_10_method_4_12)
  have hc104 : ¬ ((0 : Int32) = w) := hne
  obtain ⟨fs, hr, hrun, hended, hW, hsame⟩ := X103.leave (v := some (.int (0 : Int32))) (fun h => by rw [Bd.returns] at h; cases h)
  refine ⟨_, _, pre0 _ ?_, hrun, hended, _, _, rfl, ?_, ⟨_, rfl⟩, hW, hsame.mono (by decide) (by decide)⟩
  · show Steps p.tables e below (s₁.setTop (mkF m 0 #[.val (.ref a1)] [])) _
    refine XS.aloadN X0.here hx rfl (hb hby d_prog_10_method_4_0) rfl rfl ?_
    show Steps p.tables e below (s₁.setTop (mkF m 1 #[.val (.ref a1)] [(.ref a1)])) _
    refine st101 _ ?_
    show Steps p.tables e below (T101.setTop (mkF m 4 #[.val (.ref a1)] [.null])) _
    refine XS.ifnonnullNo X101.here hx rfl (hb hby d_prog_10_method_4_4) rfl ?_
    refine XS.aloadN X101.here hx rfl (hb hby d_prog_10_method_4_7) rfl rfl ?_
    show Steps p.tables e below (T101.setTop (mkF m 8 #[.val (.ref a1)] [(.ref a1)])) _
    refine st102 _ ?_
    show Steps p.tables e below (T102.setTop (mkF m 11 #[.val (.ref a1)] [(.int (0 : Int32))])) _
    refine XS.aloadN X102.here hx rfl (hb hby d_prog_10_method_4_11) rfl rfl ?_
    show Steps p.tables e below (T102.setTop (mkF m 12 #[.val (.ref a1)] [(.ref a1), (.int (0 : Int32))])) _
    refine st103 _ ?_
    show Steps p.tables e below (T103.setTop (mkF m 15 #[.val (.ref a1)] [(.int w), (.int (0 : Int32))])) _
    refine XS.icmpYes X103.here hx rfl (pc0 := 15) (pc' := 22) rfl (hb hby d_prog_10_method_4_15) rfl (feq hc104).2 (by decide) (by decide) ?_
    refine XS.iconst X103.here hx rfl (hb hby d_prog_10_method_4_22) ?_
    show Steps p.tables e below (T103.setTop (mkF m 23 #[.val (.ref a1)] [(.int (0 : Int32))])) _
    exact retOut X103 hx (t := .boolean) (i := .ireturn) Bd.returns rfl (Or.inl ⟨rfl, Or.inr (Or.inl rfl), _, rfl⟩) (hb hby d_prog_10_method_4_23) hr
  · show Q_is0 Z a1 w h0 n0 _ T103.heap _
    rw [e103]
    exact ⟨rfl, N0, rfl⟩
theorem ef_is1 (m : MethodId) (a1 : Addr) : entryFrame m #[(.ref a1)] 1 = mkF m 0 #[.val (.ref a1)] [] := by first | (simp [entryFrame, mkF, argsToLocals, Value.category]; done) | rfl
def Q_is1 (Z : State) (a1 : Addr) (aV : Addr) (h0 : Heap) (n0 : Nat) (v : Option Value) (h : Heap) (L : List Loc) : Prop := v = some (.int (1 : Int32)) ∧ Fr n0 L ∧ h = h0
set_option maxRecDepth 65536 in
set_option maxHeartbeats 40000000 in
theorem rm_is1 (l : Launch) (Z : State) (a0 : Array Value) (hw : ∀ d ∈ tables_1, d.before a0 Z = true) (ws : List Jvm.Cond) (a1 : Addr) (aV : Addr) (h0 : Heap) (n0 : Nat) (O0 : Old Z n0 h0) (FV : Fld Z h0 a1 "com/example/decisions_to_verdict/decisionstoverdict/Combination" "verdict" "Lcom/example/decisions_to_verdict/decisionstoverdict/Decision;" (.ref aV)) :
    MetFree l (⟨"com/example/decisions_to_verdict/decisionstoverdict/Combination", "isSettled", "()Z"⟩ : MethodName) (head1 (Jvm.Cond.code (⟨"com/example/decisions_to_verdict/decisionstoverdict/Combination", "isSettled", "()Z"⟩ : MethodName) prog_10_method_4_code 1 (some .boolean) :: ws) ({ frames := 0, cells := 0, slots := 0, locals := 0 } : Room)) (fun a U => a = #[(.ref a1)] ∧ Z.Warmed39 U.vm ∧ U.heap = h0) (fun _ _ _ _ _ => True) (fun _ U o U' => ∃ v L, o = .returned v ∧ Q_is1 Z a1 aV h0 n0 v U'.heap L ∧ FrameEnd U o U' L ({ frames := 0, cells := 0, slots := 0, locals := 0 } : Room).cells ({ frames := 0, cells := 0, slots := 0, locals := 0 } : Room).slots) := by
  refine MetFree.of_bodySF (plainFor_of_name pn_1) hisR ?_
  intro p e s m args below meth c s₁ Bd hml0 hP hK
  obtain ⟨rfl, hZ, hh⟩ := hP
  have hx := Bd.exec
  have hby := Bd.bytes
  have hml : c.maxLocals = 1 := hml0
  have hown : s.vm.findClass "com/example/decisions_to_verdict/decisionstoverdict/Combination" = some m.cls := findClass_of_methodNamed Bd.named
  have hnm := (name_of_methodNamed Bd.named Bd.method).1
  have X0 : Stand p l e ({ frames := 0, cells := 0, slots := 0, locals := 0 } : Room) s m #[(.ref a1)] below meth c s₁ [] 0 0 := Stand.of_body Bd
  have e0 : s₁.heap = h0 := by rw [← hh, Bd.state]; rfl
  have N0 := Fr.nil n0
  have pre0 : ∀ t, Steps p.tables e below (s₁.setTop (mkF m 0 #[.val (.ref a1)] [])) t → Steps p.tables e below (s₁.setTop (entryFrame m #[(.ref a1)] 1)) t := fun t k => castTop (ef_is1 m a1) k
  obtain ⟨T101, X101, e101, st101⟩ := getF X0 hx hZ hown (host := "") (Or.inl (hw _ (List.mem_of_getElem? (i := 40) rfl))) Via.refl e0 FV (g := (mkF m 1 #[.val (.ref a1)] [(.ref a1)])) rfl rfl (hb hby d_prog_10_method_4_1)
  obtain ⟨fs, hr, hrun, hended, hW, hsame⟩ := X101.leave (v := some (.int (1 : Int32))) (fun h => by rw [Bd.returns] at h; cases h)
  refine ⟨_, _, pre0 _ ?_, hrun, hended, _, _, rfl, ?_, ⟨_, rfl⟩, hW, hsame.mono (by decide) (by decide)⟩
  · show Steps p.tables e below (s₁.setTop (mkF m 0 #[.val (.ref a1)] [])) _
    refine XS.aloadN X0.here hx rfl (hb hby d_prog_10_method_4_0) rfl rfl ?_
    show Steps p.tables e below (s₁.setTop (mkF m 1 #[.val (.ref a1)] [(.ref a1)])) _
    refine st101 _ ?_
    show Steps p.tables e below (T101.setTop (mkF m 4 #[.val (.ref a1)] [(.ref aV)])) _
    refine XS.ifnonnullYes X101.here hx rfl (pc0 := 4) (pc' := 18) rfl (hb hby d_prog_10_method_4_4) rfl (by decide) (by decide) ?_
    refine XS.iconst X101.here hx rfl (hb hby d_prog_10_method_4_18) ?_
    refine XS.goto X101.here hx rfl (pc0 := 19) (pc' := 23) rfl (hb hby d_prog_10_method_4_19) (by decide) (by decide) ?_
    show Steps p.tables e below (T101.setTop (mkF m 23 #[.val (.ref a1)] [(.int (1 : Int32))])) _
    exact retOut X101 hx (t := .boolean) (i := .ireturn) Bd.returns rfl (Or.inl ⟨rfl, Or.inr (Or.inl rfl), _, rfl⟩) (hb hby d_prog_10_method_4_23) hr
  · show Q_is1 Z a1 aV h0 n0 _ T101.heap _
    rw [e101]
    exact ⟨rfl, N0, rfl⟩
theorem ef_se (m : MethodId) (a1 : Addr) (aV : Addr) : entryFrame m #[(.ref a1), (.ref aV)] 2 = mkF m 0 #[.val (.ref a1), .val (.ref aV)] [] := by first | (simp [entryFrame, mkF, argsToLocals, Value.category]; done) | rfl
def Q_se (Z : State) (a1 : Addr) (aV : Addr) (u2 : Value) (u3 : Value) (h0 : Heap) (n0 : Nat) (v : Option Value) (h : Heap) (L : List Loc) : Prop := v = none ∧ Fr n0 L ∧ Keep h0 h [a1] ∧ Exa Z h a1 "com/example/decisions_to_verdict/decisionstoverdict/Combination$Unless" ∧ Fld Z h a1 "com/example/decisions_to_verdict/decisionstoverdict/Combination" "verdict" "Lcom/example/decisions_to_verdict/decisionstoverdict/Decision;" (.ref aV) ∧ Fld Z h a1 "com/example/decisions_to_verdict/decisionstoverdict/Combination$Unless" "decisive" "Lcom/example/decisions_to_verdict/decisionstoverdict/Decision;" u3
set_option maxRecDepth 65536 in
set_option maxHeartbeats 40000000 in
theorem rm_se (l : Launch) (Z : State) (a0 : Array Value) (hw : ∀ d ∈ tables_1, d.before a0 Z = true) (ws : List Jvm.Cond) (a1 : Addr) (aV : Addr) (u2 : Value) (u3 : Value) (h0 : Heap) (n0 : Nat) (O0 : Old Z n0 h0) (E1 : Exa Z h0 a1 "com/example/decisions_to_verdict/decisionstoverdict/Combination$Unless") (FV : Fld Z h0 a1 "com/example/decisions_to_verdict/decisionstoverdict/Combination" "verdict" "Lcom/example/decisions_to_verdict/decisionstoverdict/Decision;" u2) (FD : Fld Z h0 a1 "com/example/decisions_to_verdict/decisionstoverdict/Combination$Unless" "decisive" "Lcom/example/decisions_to_verdict/decisionstoverdict/Decision;" u3) (g1 : n0 ≤ a1) :
    MetFree l (⟨"com/example/decisions_to_verdict/decisionstoverdict/Combination", "settle", "(Lcom/example/decisions_to_verdict/decisionstoverdict/Decision;)V"⟩ : MethodName) (head1 (Jvm.Cond.code (⟨"com/example/decisions_to_verdict/decisionstoverdict/Combination", "settle", "(Lcom/example/decisions_to_verdict/decisionstoverdict/Decision;)V"⟩ : MethodName) prog_10_method_7_code 2 none :: ws) ({ frames := 0, cells := 0, slots := 0, locals := 0 } : Room)) (fun a U => a = #[(.ref a1), (.ref aV)] ∧ Z.Warmed39 U.vm ∧ U.heap = h0) (fun _ _ _ _ _ => True) (fun _ U o U' => ∃ v L, o = .returned v ∧ Q_se Z a1 aV u2 u3 h0 n0 v U'.heap L ∧ FrameEnd U o U' L ({ frames := 0, cells := 0, slots := 0, locals := 0 } : Room).cells ({ frames := 0, cells := 0, slots := 0, locals := 0 } : Room).slots) := by
  refine MetFree.of_bodySF (plainFor_of_name pn_1) hisR ?_
  intro p e s m args below meth c s₁ Bd hml0 hP hK
  obtain ⟨rfl, hZ, hh⟩ := hP
  have hx := Bd.exec
  have hby := Bd.bytes
  have hml : c.maxLocals = 2 := hml0
  have hown : s.vm.findClass "com/example/decisions_to_verdict/decisionstoverdict/Combination" = some m.cls := findClass_of_methodNamed Bd.named
  have hnm := (name_of_methodNamed Bd.named Bd.method).1
  have X0 : Stand p l e ({ frames := 0, cells := 0, slots := 0, locals := 0 } : Room) s m #[(.ref a1), (.ref aV)] below meth c s₁ [] 0 0 := Stand.of_body Bd
  have e0 : s₁.heap = h0 := by rw [← hh, Bd.state]; rfl
  have N0 := Fr.nil n0
  have K0 : Keep h0 h0 [a1] := Keep.refl _ _
  have pre0 : ∀ t, Steps p.tables e below (s₁.setTop (mkF m 0 #[.val (.ref a1), .val (.ref aV)] [])) t → Steps p.tables e below (s₁.setTop (entryFrame m #[(.ref a1), (.ref aV)] 2)) t := fun t k => castTop (ef_se m a1 aV) k
  obtain ⟨T101, h101, X101, e101, W101, st101⟩ := putF X0 hx hZ hown (host := "") (Or.inl (hw _ (List.mem_of_getElem? (i := 40) rfl))) Via.refl e0 FV E1 (Or.inl (hw _ (List.mem_of_getElem? (i := 41) rfl))) (hw _ (List.mem_of_getElem? (i := 15) rfl)) (ty := (.object "com/example/decisions_to_verdict/decisionstoverdict/Decision")) (by decide) rfl rfl (g := (mkF m 2 #[.val (.ref a1), .val (.ref aV)] [(.ref aV), (.ref a1)])) rfl rfl (hb hby d_prog_10_method_7_2)
  have F101 := FV.same W101
  have N101 := Fr.snoc X101 N0 g1
  have O101 := O0.wr W101 g1
  have K101 := K0.wr W101 (Or.inl (List.mem_of_getElem? (i := 0) rfl))
  have f102 := (E1.wr W101)
  have f103 := (FD.other W101 (Or.inr (slot_ne (Or.inr (hw _ (List.mem_of_getElem? (i := 31) rfl))) (Or.inl (hw _ (List.mem_of_getElem? (i := 41) rfl))) (by decide) (t := (.object "com/example/decisions_to_verdict/decisionstoverdict/Decision")) (t' := (.object "com/example/decisions_to_verdict/decisionstoverdict/Decision")) (by decide) (by decide))))
  obtain ⟨fs, hr, hrun, hended, hW, hsame⟩ := X101.leave (v := none) (fun _ => rfl)
  refine ⟨_, _, pre0 _ ?_, hrun, hended, _, _, rfl, ?_, ⟨_, rfl⟩, hW, hsame.mono (by decide) (by decide)⟩
  · show Steps p.tables e below (s₁.setTop (mkF m 0 #[.val (.ref a1), .val (.ref aV)] [])) _
    refine XS.aloadN X0.here hx rfl (hb hby d_prog_10_method_7_0) rfl rfl ?_
    refine XS.aloadN X0.here hx rfl (hb hby d_prog_10_method_7_1) rfl rfl ?_
    show Steps p.tables e below (s₁.setTop (mkF m 2 #[.val (.ref a1), .val (.ref aV)] [(.ref aV), (.ref a1)])) _
    refine st101 _ ?_
    show Steps p.tables e below (T101.setTop (mkF m 5 #[.val (.ref a1), .val (.ref aV)] [])) _
    exact X101.returnOut hx Bd.returns (hb hby d_prog_10_method_7_5) hr
  · show Q_se Z a1 aV u2 u3 h0 n0 _ T101.heap _
    rw [e101]
    exact ⟨rfl, N101, K101, f102, F101, f103⟩
theorem ef_ty (m : MethodId) (a1 : Addr) (a2 : Addr) : entryFrame m #[(.ref a1), (.ref a2)] 2 = mkF m 0 #[.val (.ref a1), .val (.ref a2)] [] := by first | (simp [entryFrame, mkF, argsToLocals, Value.category]; done) | rfl
def Q_ty (Z : State) (a1 : Addr) (a2 : Addr) (aD : Addr) (u2 : Value) (h0 : Heap) (n0 : Nat) (v : Option Value) (h : Heap) (L : List Loc) : Prop := v = none ∧ Fr n0 L ∧ Keep h0 h [a1] ∧ Exa Z h a1 "com/example/decisions_to_verdict/decisionstoverdict/Combination$Unless" ∧ Fld Z h a1 "com/example/decisions_to_verdict/decisionstoverdict/Combination" "verdict" "Lcom/example/decisions_to_verdict/decisionstoverdict/Decision;" (.ref aD) ∧ Fld Z h a1 "com/example/decisions_to_verdict/decisionstoverdict/Combination$Unless" "decisive" "Lcom/example/decisions_to_verdict/decisionstoverdict/Decision;" (.ref aD)
set_option maxRecDepth 65536 in
set_option maxHeartbeats 40000000 in
theorem rm_ty (l : Launch) (Z : State) (a0 : Array Value) (hw : ∀ d ∈ tables_1, d.before a0 Z = true) (ws : List Jvm.Cond) (a1 : Addr) (a2 : Addr) (aD : Addr) (u2 : Value) (h0 : Heap) (n0 : Nat) (O0 : Old Z n0 h0) (E1 : Exa Z h0 a1 "com/example/decisions_to_verdict/decisionstoverdict/Combination$Unless") (FV : Fld Z h0 a1 "com/example/decisions_to_verdict/decisionstoverdict/Combination" "verdict" "Lcom/example/decisions_to_verdict/decisionstoverdict/Decision;" u2) (FD : Fld Z h0 a1 "com/example/decisions_to_verdict/decisionstoverdict/Combination$Unless" "decisive" "Lcom/example/decisions_to_verdict/decisionstoverdict/Decision;" (.ref aD)) (g1 : n0 ≤ a1) (he : a2 = aD) :
    MetFree l (⟨"com/example/decisions_to_verdict/decisionstoverdict/Combination$Unless", "take", "(Lcom/example/decisions_to_verdict/decisionstoverdict/Decision;)V"⟩ : MethodName) (head1 (Jvm.Cond.code (⟨"com/example/decisions_to_verdict/decisionstoverdict/Combination$Unless", "take", "(Lcom/example/decisions_to_verdict/decisionstoverdict/Decision;)V"⟩ : MethodName) prog_17_method_2_code 2 none :: ws) ({ frames := 1, cells := 0, slots := 0, locals := 13 } : Room)) (fun a U => a = #[(.ref a1), (.ref a2)] ∧ Z.Warmed39 U.vm ∧ U.heap = h0) (fun _ _ _ _ _ => True) (fun _ U o U' => ∃ v L, o = .returned v ∧ Q_ty Z a1 a2 aD u2 h0 n0 v U'.heap L ∧ FrameEnd U o U' L ({ frames := 1, cells := 0, slots := 0, locals := 13 } : Room).cells ({ frames := 1, cells := 0, slots := 0, locals := 13 } : Room).slots) := by
  refine MetFree.of_bodySF (plainFor_of_name pn_2) hisR ?_
  intro p e s m args below meth c s₁ Bd hml0 hP hK
  obtain ⟨rfl, hZ, hh⟩ := hP
  have hx := Bd.exec
  have hby := Bd.bytes
  have hml : c.maxLocals = 2 := hml0
  have hown : s.vm.findClass "com/example/decisions_to_verdict/decisionstoverdict/Combination$Unless" = some m.cls := findClass_of_methodNamed Bd.named
  have hnm := (name_of_methodNamed Bd.named Bd.method).1
  have X0 : Stand p l e ({ frames := 1, cells := 0, slots := 0, locals := 13 } : Room) s m #[(.ref a1), (.ref a2)] below meth c s₁ [] 0 0 := Stand.of_body Bd
  have e0 : s₁.heap = h0 := by rw [← hh, Bd.state]; rfl
  have N0 := Fr.nil n0
  have K0 : Keep h0 h0 [a1] := Keep.refl _ _
  have pre0 : ∀ t, Steps p.tables e below (s₁.setTop (mkF m 0 #[.val (.ref a1), .val (.ref a2)] [])) t → Steps p.tables e below (s₁.setTop (entryFrame m #[(.ref a1), (.ref a2)] 2)) t := fun t k => castTop (ef_ty m a1 a2) k
  obtain ⟨T101, X101, e101, st101⟩ := getF X0 hx hZ hown (host := "") (Or.inl (hw _ (List.mem_of_getElem? (i := 30) rfl))) Via.refl e0 FD (g := (mkF m 2 #[.val (.ref a1), .val (.ref a2)] [(.ref a1), (.ref a2)])) rfl rfl (hb hby d_prog_17_method_2_2)
  have hc102 : a2 = aD := he
  obtain ⟨T103, X103, e103, st103⟩ := getF X101 hx hZ hown (host := "") (Or.inl (hw _ (List.mem_of_getElem? (i := 30) rfl))) Via.refl e101 FD (g := (mkF m 10 #[.val (.ref a1), .val (.ref a2)] [(.ref a1), (.ref a1)])) rfl rfl (hb hby d_prog_17_method_2_10)
  obtain ⟨cq104, kq104, q104a, q104b, q104c⟩ := isOf hZ e103 E1
  obtain ⟨_, _, ⟨T104, L104, k104, n104⟩, -, X104, ⟨Lc104, hQ104, l104, y104, z104⟩, st104⟩ := X103.virtualBackUp hx (x := (⟨"com/example/decisions_to_verdict/decisionstoverdict/Combination$Unless", "settle", "(Lcom/example/decisions_to_verdict/decisionstoverdict/Decision;)V"⟩ : MethodName)) (y := (⟨"com/example/decisions_to_verdict/decisionstoverdict/Combination", "settle", "(Lcom/example/decisions_to_verdict/decisionstoverdict/Decision;)V"⟩ : MethodName)) (owner := "com/example/decisions_to_verdict/decisionstoverdict/Combination") hown (mvT hZ (hw _ (List.mem_of_getElem? (i := 51) rfl))) (mvT hZ (hw _ (List.mem_of_getElem? (i := 52) rfl))) (mvT hZ (hw _ (List.mem_of_getElem? (i := 53) rfl))) (by decide) (mvT hZ (hw _ (List.mem_of_getElem? (i := 55) rfl))) (mvT hZ (hw _ (List.mem_of_getElem? (i := 54) rfl))) (backOf (W := 0) (rm_se l Z a0 hw [] a1 aD u2 (.ref aD) h0 n0 O0 E1 FV FD g1) hZ (hw _ (List.mem_of_getElem? (i := 56) rfl)) (hw _ (List.mem_of_getElem? (i := 23) rfl)) (by decide) (by decide)) q104a q104c (g := (mkF m 13 #[.val (.ref a1), .val (.ref a2)] [(.ref aD), (.ref a1)])) rfl (by rw [hml]; rfl) (Steps.refl _) (argsL := [(.ref aD)]) (rest := []) (lenOf pd_1 rfl) rfl (by show 2 * 0 + _ ≤ _; exact Nat.le_of_eq rfl) (hb hby d_prog_17_method_2_13) (fun _ _ => ⟨rfl, e103, (by decide : 0 + 0 ≤ _), (by decide : 0 + 0 ≤ _)⟩)
  dsimp only [Pt.U, Pt.locs, Pt.cells, Pt.slots] at X104 l104 y104 z104 st104 hQ104
  subst l104 y104 z104
  obtain ⟨rfl, Nq104, Kq104, Es104, Fs104, Ft104⟩ := hQ104
  have N104 := Fr.app N0 Nq104
  have O104 := O0.keep Kq104 (allS g1 all0)
  have K104 := K0.trans Kq104 (allS (Or.inl (List.mem_of_getElem? (i := 0) rfl)) all0)
  obtain ⟨fs, hr, hrun, hended, hW, hsame⟩ := X104.leave (v := none) (fun _ => rfl)
  refine ⟨_, _, pre0 _ ?_, hrun, hended, _, _, rfl, ?_, ⟨_, rfl⟩, hW, hsame.mono (by decide) (by decide)⟩
  · show Steps p.tables e below (s₁.setTop (mkF m 0 #[.val (.ref a1), .val (.ref a2)] [])) _
    refine XS.aloadN X0.here hx rfl (hb hby d_prog_17_method_2_0) rfl rfl ?_
    refine XS.aloadN X0.here hx rfl (hb hby d_prog_17_method_2_1) rfl rfl ?_
    show Steps p.tables e below (s₁.setTop (mkF m 2 #[.val (.ref a1), .val (.ref a2)] [(.ref a1), (.ref a2)])) _
    refine st101 _ ?_
    show Steps p.tables e below (T101.setTop (mkF m 5 #[.val (.ref a1), .val (.ref a2)] [(.ref aD), (.ref a2)])) _
    refine Jvm.RoadKit.acmp (g := (mkF m 5 #[.val (.ref a1), .val (.ref a2)] [(.ref aD), (.ref a2)])) X101 hx rfl rfl rfl (pc0 := 5) (pc' := 8) (same := true) rfl (hb hby d_prog_17_method_2_5) rfl (decide_eq_true (congrArg Value.ref hc102)) (by decide) (by decide) ?_
    show Steps p.tables e below (T101.setTop (mkF m 8 #[.val (.ref a1), .val (.ref a2)] [])) _
    refine XS.aloadN X101.here hx rfl (hb hby d_prog_17_method_2_8) rfl rfl ?_
    refine XS.aloadN X101.here hx rfl (hb hby d_prog_17_method_2_9) rfl rfl ?_
    show Steps p.tables e below (T101.setTop (mkF m 10 #[.val (.ref a1), .val (.ref a2)] [(.ref a1), (.ref a1)])) _
    refine st103 _ ?_
    show Steps p.tables e below (T103.setTop (mkF m 13 #[.val (.ref a1), .val (.ref a2)] [(.ref aD), (.ref a1)])) _
    refine st104.trans ?_
    show Steps p.tables e below (T104.setTop (mkF m 16 #[.val (.ref a1), .val (.ref a2)] [])) _
    exact X104.returnOut hx Bd.returns (hb hby d_prog_17_method_2_16) hr
  · show Q_ty Z a1 a2 aD u2 h0 n0 _ T104.heap _
    exact ⟨rfl, N104, K104, Es104, Fs104, Ft104⟩
theorem ef_tn (m : MethodId) (a1 : Addr) (a2 : Addr) : entryFrame m #[(.ref a1), (.ref a2)] 2 = mkF m 0 #[.val (.ref a1), .val (.ref a2)] [] := by first | (simp [entryFrame, mkF, argsToLocals, Value.category]; done) | rfl
def Q_tn (Z : State) (a1 : Addr) (a2 : Addr) (aD : Addr) (h0 : Heap) (n0 : Nat) (v : Option Value) (h : Heap) (L : List Loc) : Prop := v = none ∧ Fr n0 L ∧ h = h0
set_option maxRecDepth 65536 in
set_option maxHeartbeats 40000000 in
theorem rm_tn (l : Launch) (Z : State) (a0 : Array Value) (hw : ∀ d ∈ tables_1, d.before a0 Z = true) (ws : List Jvm.Cond) (a1 : Addr) (a2 : Addr) (aD : Addr) (h0 : Heap) (n0 : Nat) (O0 : Old Z n0 h0) (FD : Fld Z h0 a1 "com/example/decisions_to_verdict/decisionstoverdict/Combination$Unless" "decisive" "Lcom/example/decisions_to_verdict/decisionstoverdict/Decision;" (.ref aD)) (he : ¬ (a2 = aD)) :
    MetFree l (⟨"com/example/decisions_to_verdict/decisionstoverdict/Combination$Unless", "take", "(Lcom/example/decisions_to_verdict/decisionstoverdict/Decision;)V"⟩ : MethodName) (head1 (Jvm.Cond.code (⟨"com/example/decisions_to_verdict/decisionstoverdict/Combination$Unless", "take", "(Lcom/example/decisions_to_verdict/decisionstoverdict/Decision;)V"⟩ : MethodName) prog_17_method_2_code 2 none :: ws) ({ frames := 0, cells := 0, slots := 0, locals := 0 } : Room)) (fun a U => a = #[(.ref a1), (.ref a2)] ∧ Z.Warmed39 U.vm ∧ U.heap = h0) (fun _ _ _ _ _ => True) (fun _ U o U' => ∃ v L, o = .returned v ∧ Q_tn Z a1 a2 aD h0 n0 v U'.heap L ∧ FrameEnd U o U' L ({ frames := 0, cells := 0, slots := 0, locals := 0 } : Room).cells ({ frames := 0, cells := 0, slots := 0, locals := 0 } : Room).slots) := by
  refine MetFree.of_bodySF (plainFor_of_name pn_2) hisR ?_
  intro p e s m args below meth c s₁ Bd hml0 hP hK
  obtain ⟨rfl, hZ, hh⟩ := hP
  have hx := Bd.exec
  have hby := Bd.bytes
  have hml : c.maxLocals = 2 := hml0
  have hown : s.vm.findClass "com/example/decisions_to_verdict/decisionstoverdict/Combination$Unless" = some m.cls := findClass_of_methodNamed Bd.named
  have hnm := (name_of_methodNamed Bd.named Bd.method).1
  have X0 : Stand p l e ({ frames := 0, cells := 0, slots := 0, locals := 0 } : Room) s m #[(.ref a1), (.ref a2)] below meth c s₁ [] 0 0 := Stand.of_body Bd
  have e0 : s₁.heap = h0 := by rw [← hh, Bd.state]; rfl
  have N0 := Fr.nil n0
  have pre0 : ∀ t, Steps p.tables e below (s₁.setTop (mkF m 0 #[.val (.ref a1), .val (.ref a2)] [])) t → Steps p.tables e below (s₁.setTop (entryFrame m #[(.ref a1), (.ref a2)] 2)) t := fun t k => castTop (ef_tn m a1 a2) k
  obtain ⟨T101, X101, e101, st101⟩ := getF X0 hx hZ hown (host := "") (Or.inl (hw _ (List.mem_of_getElem? (i := 30) rfl))) Via.refl e0 FD (g := (mkF m 2 #[.val (.ref a1), .val (.ref a2)] [(.ref a1), (.ref a2)])) rfl rfl (hb hby d_prog_17_method_2_2)
  have hc102 : ¬ (a2 = aD) := he
  obtain ⟨fs, hr, hrun, hended, hW, hsame⟩ := X101.leave (v := none) (fun _ => rfl)
  refine ⟨_, _, pre0 _ ?_, hrun, hended, _, _, rfl, ?_, ⟨_, rfl⟩, hW, hsame.mono (by decide) (by decide)⟩
  · show Steps p.tables e below (s₁.setTop (mkF m 0 #[.val (.ref a1), .val (.ref a2)] [])) _
    refine XS.aloadN X0.here hx rfl (hb hby d_prog_17_method_2_0) rfl rfl ?_
    refine XS.aloadN X0.here hx rfl (hb hby d_prog_17_method_2_1) rfl rfl ?_
    show Steps p.tables e below (s₁.setTop (mkF m 2 #[.val (.ref a1), .val (.ref a2)] [(.ref a1), (.ref a2)])) _
    refine st101 _ ?_
    show Steps p.tables e below (T101.setTop (mkF m 5 #[.val (.ref a1), .val (.ref a2)] [(.ref aD), (.ref a2)])) _
    refine Jvm.RoadKit.acmp (g := (mkF m 5 #[.val (.ref a1), .val (.ref a2)] [(.ref aD), (.ref a2)])) X101 hx rfl rfl rfl (pc0 := 5) (pc' := 16) (same := false) rfl (hb hby d_prog_17_method_2_5) rfl (decide_eq_false fun q => hc102 (Value.ref.inj q)) (by decide) (by decide) ?_
    show Steps p.tables e below (T101.setTop (mkF m 16 #[.val (.ref a1), .val (.ref a2)] [])) _
    exact X101.returnOut hx Bd.returns (hb hby d_prog_17_method_2_16) hr
  · show Q_tn Z a1 a2 aD h0 n0 _ T101.heap _
    rw [e101]
    exact ⟨rfl, N0, rfl⟩
theorem ef_ve (m : MethodId) (a1 : Addr) : entryFrame m #[(.ref a1)] 1 = mkF m 0 #[.val (.ref a1)] [] := by first | (simp [entryFrame, mkF, argsToLocals, Value.category]; done) | rfl
def Q_ve (Z : State) (a1 : Addr) (aV : Addr) (h0 : Heap) (n0 : Nat) (v : Option Value) (h : Heap) (L : List Loc) : Prop := v = some (.ref aV) ∧ Fr n0 L ∧ h = h0
set_option maxRecDepth 65536 in
set_option maxHeartbeats 40000000 in
theorem rm_ve (l : Launch) (Z : State) (a0 : Array Value) (hw : ∀ d ∈ tables_1, d.before a0 Z = true) (ws : List Jvm.Cond) (a1 : Addr) (aV : Addr) (h0 : Heap) (n0 : Nat) (O0 : Old Z n0 h0) (E1 : Exa Z h0 a1 "com/example/decisions_to_verdict/decisionstoverdict/Combination$Unless") (FV : Fld Z h0 a1 "com/example/decisions_to_verdict/decisionstoverdict/Combination" "verdict" "Lcom/example/decisions_to_verdict/decisionstoverdict/Decision;" (.ref aV)) :
    MetFree l (⟨"com/example/decisions_to_verdict/decisionstoverdict/Combination", "verdict", "()Lcom/example/decisions_to_verdict/decisionstoverdict/Decision;"⟩ : MethodName) (head1 (Jvm.Cond.code (⟨"com/example/decisions_to_verdict/decisionstoverdict/Combination", "verdict", "()Lcom/example/decisions_to_verdict/decisionstoverdict/Decision;"⟩ : MethodName) prog_10_method_6_code 1 (some (.object "com/example/decisions_to_verdict/decisionstoverdict/Decision")) :: ws) ({ frames := 1, cells := 0, slots := 0, locals := 12 } : Room)) (fun a U => a = #[(.ref a1)] ∧ Z.Warmed39 U.vm ∧ U.heap = h0) (fun _ _ _ _ _ => True) (fun _ U o U' => ∃ v L, o = .returned v ∧ Q_ve Z a1 aV h0 n0 v U'.heap L ∧ FrameEnd U o U' L ({ frames := 1, cells := 0, slots := 0, locals := 12 } : Room).cells ({ frames := 1, cells := 0, slots := 0, locals := 12 } : Room).slots) := by
  refine MetFree.of_bodySF (plainFor_of_name pn_1) hisR ?_
  intro p e s m args below meth c s₁ Bd hml0 hP hK
  obtain ⟨rfl, hZ, hh⟩ := hP
  have hx := Bd.exec
  have hby := Bd.bytes
  have hml : c.maxLocals = 1 := hml0
  have hown : s.vm.findClass "com/example/decisions_to_verdict/decisionstoverdict/Combination" = some m.cls := findClass_of_methodNamed Bd.named
  have hnm := (name_of_methodNamed Bd.named Bd.method).1
  have X0 : Stand p l e ({ frames := 1, cells := 0, slots := 0, locals := 12 } : Room) s m #[(.ref a1)] below meth c s₁ [] 0 0 := Stand.of_body Bd
  have e0 : s₁.heap = h0 := by rw [← hh, Bd.state]; rfl
  have N0 := Fr.nil n0
  have pre0 : ∀ t, Steps p.tables e below (s₁.setTop (mkF m 0 #[.val (.ref a1)] [])) t → Steps p.tables e below (s₁.setTop (entryFrame m #[(.ref a1)] 1)) t := fun t k => castTop (ef_ve m a1) k
  obtain ⟨cq101, kq101, q101a, q101b, q101c⟩ := isOf hZ e0 E1
  obtain ⟨_, _, ⟨T101, L101, k101, n101⟩, -, X101, ⟨Lc101, hQ101, l101, y101, z101⟩, st101⟩ := X0.virtualBack hx (y := (⟨"com/example/decisions_to_verdict/decisionstoverdict/Combination", "isSettled", "()Z"⟩ : MethodName)) (z := (⟨"com/example/decisions_to_verdict/decisionstoverdict/Combination", "isSettled", "()Z"⟩ : MethodName)) hown (mvT hZ (hw _ (List.mem_of_getElem? (i := 63) rfl))) (mvT hZ (hw _ (List.mem_of_getElem? (i := 36) rfl))) (notFace_of_selects (args := #[]) (mvT hZ (hw _ (List.mem_of_getElem? (i := 64) rfl)))) (mvT hZ (hw _ (List.mem_of_getElem? (i := 64) rfl))) (mvT hZ (hw _ (List.mem_of_getElem? (i := 37) rfl))) (by decide) (backOf (W := 0) (rm_is1 l Z a0 hw [] a1 aV h0 n0 O0 FV) hZ (hw _ (List.mem_of_getElem? (i := 39) rfl)) (hw _ (List.mem_of_getElem? (i := 23) rfl)) (by decide) (by decide)) q101a q101c (g := (mkF m 1 #[.val (.ref a1)] [(.ref a1)])) rfl (by rw [hml]; rfl) (Steps.refl _) (argsL := []) (rest := []) (lenOf pd_2 rfl) rfl (by show 2 * 0 + _ ≤ _; exact Nat.le_of_eq rfl) (hb hby d_prog_10_method_6_1) (fun _ _ => ⟨rfl, e0, (by decide : 0 + 0 ≤ _), (by decide : 0 + 0 ≤ _)⟩)
  dsimp only [Pt.U, Pt.locs, Pt.cells, Pt.slots] at X101 l101 y101 z101 st101 hQ101
  subst l101 y101 z101
  obtain ⟨rfl, Nq101, e101⟩ := hQ101
  have N101 := Fr.app N0 Nq101
  obtain ⟨T102, X102, e102, st102⟩ := getF X101 hx hZ hown (host := "") (Or.inl (hw _ (List.mem_of_getElem? (i := 40) rfl))) Via.refl e101 FV (g := (mkF m 31 #[.val (.ref a1)] [(.ref a1)])) rfl rfl (hb hby d_prog_10_method_6_31)
  obtain ⟨T103, X103, e103, st103⟩ := getF X102 hx hZ hown (host := "") (Or.inl (hw _ (List.mem_of_getElem? (i := 40) rfl))) Via.refl e102 FV (g := (mkF m 45 #[.val (.ref a1)] [(.ref a1)])) rfl rfl (hb hby d_prog_10_method_6_45)
  obtain ⟨fs, hr, hrun, hended, hW, hsame⟩ := X103.leave (v := some (.ref aV)) (fun h => by rw [Bd.returns] at h; cases h)
  refine ⟨_, _, pre0 _ ?_, hrun, hended, _, _, rfl, ?_, ⟨_, rfl⟩, hW, hsame.mono (by decide) (by decide)⟩
  · show Steps p.tables e below (s₁.setTop (mkF m 0 #[.val (.ref a1)] [])) _
    refine XS.aloadN X0.here hx rfl (hb hby d_prog_10_method_6_0) rfl rfl ?_
    show Steps p.tables e below (s₁.setTop (mkF m 1 #[.val (.ref a1)] [(.ref a1)])) _
    refine st101.trans ?_
    show Steps p.tables e below (T101.setTop (mkF m 4 #[.val (.ref a1)] [(.int (1 : Int32))])) _
    refine XS.ifYes X101.here hx rfl (pc0 := 4) (pc' := 30) rfl (hb hby d_prog_10_method_6_4) rfl ((if0 _ _).trans (feq (by decide : ¬ ((1 : Int32) = (0 : Int32)))).2) (by decide) (by decide) ?_
    refine XS.aloadN X101.here hx rfl (hb hby d_prog_10_method_6_30) rfl rfl ?_
    show Steps p.tables e below (T101.setTop (mkF m 31 #[.val (.ref a1)] [(.ref a1)])) _
    refine st102 _ ?_
    show Steps p.tables e below (T102.setTop (mkF m 34 #[.val (.ref a1)] [(.ref aV)])) _
    refine XS.ifnonnullYes X102.here hx rfl (pc0 := 34) (pc' := 44) rfl (hb hby d_prog_10_method_6_34) rfl (by decide) (by decide) ?_
    refine XS.aloadN X102.here hx rfl (hb hby d_prog_10_method_6_44) rfl rfl ?_
    show Steps p.tables e below (T102.setTop (mkF m 45 #[.val (.ref a1)] [(.ref a1)])) _
    refine st103 _ ?_
    show Steps p.tables e below (T103.setTop (mkF m 48 #[.val (.ref a1)] [(.ref aV)])) _
    exact retOut X103 hx (t := (.object "com/example/decisions_to_verdict/decisionstoverdict/Decision")) (i := .areturn) Bd.returns rfl (Or.inr (Or.inr (Or.inr (Or.inr ⟨rfl, rfl, rfl⟩)))) (hb hby d_prog_10_method_6_48) hr
  · show Q_ve Z a1 aV h0 n0 _ T103.heap _
    rw [e103]
    exact ⟨rfl, N101, rfl⟩
theorem ef_law (m : MethodId) (p1 : Int32) (p2 : Int32) (p3 : Int32) (p4 : Int32) (p5 : Int32) : entryFrame m #[(.int p1), (.int p2), (.int p3), (.int p4), (.int p5)] maxLocals = mkF m 0 #[.val (.int p1), .val (.int p2), .val (.int p3), .val (.int p4), .val (.int p5), .unset, .unset, .unset, .unset, .unset, .unset, .unset, .unset, .unset] [] := by first | (simp [entryFrame, mkF, argsToLocals, Value.category, maxLocals]; done) | rfl
def Q_law (Z : State) (p1 : Int32) (p2 : Int32) (p3 : Int32) (p4 : Int32) (p5 : Int32) (z0 : Addr) (z1 : Addr) (z2 : Addr) (z3 : Addr) (z4 : Addr) (z5 : Addr) (h0 : Heap) (n0 : Nat) (v : Option Value) (h : Heap) (L : List Loc) : Prop := v = some (.int 1) ∧ Fr n0 L
set_option maxRecDepth 65536 in
set_option maxHeartbeats 40000000 in
theorem rm_law (l : Launch) (Z : State) (a0 : Array Value) (hw : ∀ d ∈ tables_1, d.before a0 Z = true) (ws : List Jvm.Cond) (p1 : Int32) (p2 : Int32) (p3 : Int32) (p4 : Int32) (p5 : Int32) (z0 : Addr) (z1 : Addr) (z2 : Addr) (z3 : Addr) (z4 : Addr) (z5 : Addr) (h0 : Heap) (n0 : Nat) (O0 : Old Z n0 h0) (Sz0 : Sta Z Z.heap "com/example/decisions_to_verdict/decisionstoverdict/Decision" "DENY" "Lcom/example/decisions_to_verdict/decisionstoverdict/Decision;" (.ref z0)) (Sz1 : Sta Z Z.heap "com/example/decisions_to_verdict/decisionstoverdict/Decision" "PERMIT" "Lcom/example/decisions_to_verdict/decisionstoverdict/Decision;" (.ref z1)) (Sz2 : Sta Z Z.heap "com/example/decisions_to_verdict/decisionstoverdict/Decision" "INDETERMINATE_D" "Lcom/example/decisions_to_verdict/decisionstoverdict/Decision;" (.ref z2)) (Sz3 : Sta Z Z.heap "com/example/decisions_to_verdict/decisionstoverdict/Decision" "INDETERMINATE_P" "Lcom/example/decisions_to_verdict/decisionstoverdict/Decision;" (.ref z3)) (Sz4 : Sta Z Z.heap "com/example/decisions_to_verdict/decisionstoverdict/Decision" "INDETERMINATE_DP" "Lcom/example/decisions_to_verdict/decisionstoverdict/Decision;" (.ref z4)) (Sz5 : Sta Z Z.heap "com/example/decisions_to_verdict/decisionstoverdict/Decision" "NOT_APPLICABLE" "Lcom/example/decisions_to_verdict/decisionstoverdict/Decision;" (.ref z5)) :
    MetFree l x (head1 (Jvm.Cond.code x code maxLocals ret :: ws) room_1) (fun a U => a = #[(.int p1), (.int p2), (.int p3), (.int p4), (.int p5)] ∧ Z.Warmed39 U.vm ∧ U.heap = h0) (fun _ _ _ _ _ => True) (fun _ U o U' => ∃ v L, o = .returned v ∧ Q_law Z p1 p2 p3 p4 p5 z0 z1 z2 z3 z4 z5 h0 n0 v U'.heap L ∧ FrameEnd U o U' L room_1.cells room_1.slots) := by
  refine MetFree.of_bodySF (plainFor_of_name pn_0) hisR ?_
  intro p e s m args below meth c s₁ Bd hml0 hP hK
  obtain ⟨rfl, hZ, hh⟩ := hP
  have hx := Bd.exec
  have hby := Bd.bytes
  have hml : c.maxLocals = 14 := hml0
  have hown : s.vm.findClass "com/example/decisions_to_verdict/decisionstoverdict/UnlessTakePinLaw" = some m.cls := findClass_of_methodNamed Bd.named
  have hnm := (name_of_methodNamed Bd.named Bd.method).1
  have X0 : Stand p l e room_1 s m #[(.int p1), (.int p2), (.int p3), (.int p4), (.int p5)] below meth c s₁ [] 0 0 := Stand.of_body Bd
  have e0 : s₁.heap = h0 := by rw [← hh, Bd.state]; rfl
  have N0 := Fr.nil n0
  have pre0 : ∀ t, Steps p.tables e below (s₁.setTop (mkF m 0 #[.val (.int p1), .val (.int p2), .val (.int p3), .val (.int p4), .val (.int p5), .unset, .unset, .unset, .unset, .unset, .unset, .unset, .unset, .unset] [])) t → Steps p.tables e below (s₁.setTop (entryFrame m #[(.int p1), (.int p2), (.int p3), (.int p4), (.int p5)] maxLocals)) t := fun t k => castTop (ef_law m p1 p2 p3 p4 p5) k
  have hp := (own_cnt p5).1
  have hcz := (own_cnt p5).2
  obtain ⟨_, _, ⟨T101, L101, k101, n101⟩, -, X101, ⟨Lc101, hQ101, l101, y101, z101⟩, st101⟩ := Jvm.LawKit.callS X0 hx (y := (⟨"com/example/decisions_to_verdict/decisionstoverdict/UnlessTakePinLaw", "pick", "(I)Lcom/example/decisions_to_verdict/decisionstoverdict/Decision;"⟩ : MethodName)) hown (mvT hZ (hw _ (List.mem_of_getElem? (i := 0) rfl))) (mvT hZ (hw _ (List.mem_of_getElem? (i := 1) rfl))) (mvT hZ (hw _ (List.mem_of_getElem? (i := 2) rfl))) (mvT hZ (hw _ (List.mem_of_getElem? (i := 3) rfl))) (by decide) (backOf (W := 0) (rm_pick l Z a0 hw [] p1 z0 z1 z2 z3 z4 z5 h0 n0 O0 Sz0 Sz1 Sz2 Sz3 Sz4 Sz5) hZ (hw _ (List.mem_of_getElem? (i := 3) rfl)) (hw _ (List.mem_of_getElem? (i := 2) rfl)) (by decide) (by decide)) (g := (mkF m 1 #[.val (.int p1), .val (.int p2), .val (.int p3), .val (.int p4), .val (.int p5), .unset, .unset, .unset, .unset, .unset, .unset, .unset, .unset, .unset] [(.int p1)])) rfl (by rw [hml]; rfl) (argsL := [(.int p1)]) (rest := []) (lenOf pd_3 rfl) rfl (by show 2 * 0 + _ ≤ _; exact Nat.le_of_eq rfl) (hb hby at_1) (fun _ _ => ⟨rfl, e0, (by decide : 0 + 0 ≤ _), (by decide : 0 + 0 ≤ _)⟩)
  dsimp only [Pt.U, Pt.locs, Pt.cells, Pt.slots] at X101 l101 y101 z101 st101 hQ101
  subst l101 y101 z101
  obtain ⟨rfl, Nq101, e101⟩ := hQ101
  have N101 := Fr.app N0 Nq101
  obtain ⟨xd, h_xd⟩ : ∃ z : Addr, z = (own_pk p1 z0 z1 z2 z3 z4 z5) := ⟨_, rfl⟩
  obtain ⟨_, _, ⟨T102, L102, k102, n102⟩, -, X102, ⟨Lc102, hQ102, l102, y102, z102⟩, st102⟩ := Jvm.LawKit.callS X101 hx (y := (⟨"com/example/decisions_to_verdict/decisionstoverdict/UnlessTakePinLaw", "pick", "(I)Lcom/example/decisions_to_verdict/decisionstoverdict/Decision;"⟩ : MethodName)) hown (mvT hZ (hw _ (List.mem_of_getElem? (i := 0) rfl))) (mvT hZ (hw _ (List.mem_of_getElem? (i := 1) rfl))) (mvT hZ (hw _ (List.mem_of_getElem? (i := 2) rfl))) (mvT hZ (hw _ (List.mem_of_getElem? (i := 3) rfl))) (by decide) (backOf (W := 0) (rm_pick l Z a0 hw [] p2 z0 z1 z2 z3 z4 z5 h0 n0 O0 Sz0 Sz1 Sz2 Sz3 Sz4 Sz5) hZ (hw _ (List.mem_of_getElem? (i := 3) rfl)) (hw _ (List.mem_of_getElem? (i := 2) rfl)) (by decide) (by decide)) (g := (mkF m 7 #[.val (.int p1), .val (.int p2), .val (.int p3), .val (.int p4), .val (.int p5), .val (.ref xd), .unset, .unset, .unset, .unset, .unset, .unset, .unset, .unset] [(.int p2)])) rfl (by rw [hml]; rfl) (argsL := [(.int p2)]) (rest := []) (lenOf pd_3 rfl) rfl (by show 2 * 0 + _ ≤ _; exact Nat.le_of_eq rfl) (hb hby at_7) (fun _ _ => ⟨rfl, e101, (by decide : 0 + 0 ≤ _), (by decide : 0 + 0 ≤ _)⟩)
  dsimp only [Pt.U, Pt.locs, Pt.cells, Pt.slots] at X102 l102 y102 z102 st102 hQ102
  subst l102 y102 z102
  obtain ⟨rfl, Nq102, e102⟩ := hQ102
  have N102 := Fr.app N101 Nq102
  obtain ⟨xo, h_xo⟩ : ∃ z : Addr, z = (own_pk p2 z0 z1 z2 z3 z4 z5) := ⟨_, rfl⟩
  obtain ⟨_, _, ⟨T103, L103, k103, n103⟩, -, X103, ⟨Lc103, hQ103, l103, y103, z103⟩, st103⟩ := Jvm.LawKit.callS X102 hx (y := (⟨"com/example/decisions_to_verdict/decisionstoverdict/UnlessTakePinLaw", "pick", "(I)Lcom/example/decisions_to_verdict/decisionstoverdict/Decision;"⟩ : MethodName)) hown (mvT hZ (hw _ (List.mem_of_getElem? (i := 0) rfl))) (mvT hZ (hw _ (List.mem_of_getElem? (i := 1) rfl))) (mvT hZ (hw _ (List.mem_of_getElem? (i := 2) rfl))) (mvT hZ (hw _ (List.mem_of_getElem? (i := 3) rfl))) (by decide) (backOf (W := 0) (rm_pick l Z a0 hw [] p3 z0 z1 z2 z3 z4 z5 h0 n0 O0 Sz0 Sz1 Sz2 Sz3 Sz4 Sz5) hZ (hw _ (List.mem_of_getElem? (i := 3) rfl)) (hw _ (List.mem_of_getElem? (i := 2) rfl)) (by decide) (by decide)) (g := (mkF m 13 #[.val (.int p1), .val (.int p2), .val (.int p3), .val (.int p4), .val (.int p5), .val (.ref xd), .val (.ref xo), .unset, .unset, .unset, .unset, .unset, .unset, .unset] [(.int p3)])) rfl (by rw [hml]; rfl) (argsL := [(.int p3)]) (rest := []) (lenOf pd_3 rfl) rfl (by show 2 * 0 + _ ≤ _; exact Nat.le_of_eq rfl) (hb hby at_13) (fun _ _ => ⟨rfl, e102, (by decide : 0 + 0 ≤ _), (by decide : 0 + 0 ≤ _)⟩)
  dsimp only [Pt.U, Pt.locs, Pt.cells, Pt.slots] at X103 l103 y103 z103 st103 hQ103
  subst l103 y103 z103
  obtain ⟨rfl, Nq103, e103⟩ := hQ103
  have N103 := Fr.app N102 Nq103
  obtain ⟨x1, h_x1⟩ : ∃ z : Addr, z = (own_pk p3 z0 z1 z2 z3 z4 z5) := ⟨_, rfl⟩
  obtain ⟨_, _, ⟨T104, L104, k104, n104⟩, -, X104, ⟨Lc104, hQ104, l104, y104, z104⟩, st104⟩ := Jvm.LawKit.callS X103 hx (y := (⟨"com/example/decisions_to_verdict/decisionstoverdict/UnlessTakePinLaw", "pick", "(I)Lcom/example/decisions_to_verdict/decisionstoverdict/Decision;"⟩ : MethodName)) hown (mvT hZ (hw _ (List.mem_of_getElem? (i := 0) rfl))) (mvT hZ (hw _ (List.mem_of_getElem? (i := 1) rfl))) (mvT hZ (hw _ (List.mem_of_getElem? (i := 2) rfl))) (mvT hZ (hw _ (List.mem_of_getElem? (i := 3) rfl))) (by decide) (backOf (W := 0) (rm_pick l Z a0 hw [] p4 z0 z1 z2 z3 z4 z5 h0 n0 O0 Sz0 Sz1 Sz2 Sz3 Sz4 Sz5) hZ (hw _ (List.mem_of_getElem? (i := 3) rfl)) (hw _ (List.mem_of_getElem? (i := 2) rfl)) (by decide) (by decide)) (g := (mkF m 19 #[.val (.int p1), .val (.int p2), .val (.int p3), .val (.int p4), .val (.int p5), .val (.ref xd), .val (.ref xo), .val (.ref x1), .unset, .unset, .unset, .unset, .unset, .unset] [(.int p4)])) rfl (by rw [hml]; rfl) (argsL := [(.int p4)]) (rest := []) (lenOf pd_3 rfl) rfl (by show 2 * 0 + _ ≤ _; exact Nat.le_of_eq rfl) (hb hby at_19) (fun _ _ => ⟨rfl, e103, (by decide : 0 + 0 ≤ _), (by decide : 0 + 0 ≤ _)⟩)
  dsimp only [Pt.U, Pt.locs, Pt.cells, Pt.slots] at X104 l104 y104 z104 st104 hQ104
  subst l104 y104 z104
  obtain ⟨rfl, Nq104, e104⟩ := hQ104
  have N104 := Fr.app N103 Nq104
  obtain ⟨x2, h_x2⟩ : ∃ z : Addr, z = (own_pk p4 z0 z1 z2 z3 z4 z5) := ⟨_, rfl⟩
  obtain ⟨T105, h105, X105, e105, E105, A105, D105, -, st105⟩ := newO X104 hx hZ hown (hw _ (List.mem_of_getElem? (i := 14) rfl)) (hw _ (List.mem_of_getElem? (i := 15) rfl)) (hw _ (List.mem_of_getElem? (i := 16) rfl)) e104 (g := (mkF m 34 #[.val (.int p1), .val (.int p2), .val (.int p3), .val (.int p4), .val (.int p5), .val (.ref xd), .val (.ref xo), .val (.ref x1), .val (.ref x2), .val (.int ((p5 &&& (255 : Int32)) + (1 : Int32))), .unset, .unset, .unset, .unset] [])) rfl (hb hby at_34) (by decide) (by decide)
  obtain ⟨b105, g105⟩ : ∃ z, z = h0.size := ⟨_, rfl⟩
  rw [← g105] at A105 D105 st105
  have g_b105 : n0 ≤ b105 := Nat.le_trans (own_szO O0) (Nat.le_of_eq g105.symm)
  have O105 := O0.ext E105
  have F105_count : Fld Z h105 b105 "com/example/decisions_to_verdict/decisionstoverdict/Combination" "count" "I" (.int (0 : Int32)) := D105 (Or.inr (hw _ (List.mem_of_getElem? (i := 29) rfl))) (ty := .int) (by decide)
  have F105_decisive : Fld Z h105 b105 "com/example/decisions_to_verdict/decisionstoverdict/Combination$Unless" "decisive" "Lcom/example/decisions_to_verdict/decisionstoverdict/Decision;" .null := D105 (Or.inr (hw _ (List.mem_of_getElem? (i := 31) rfl))) (ty := (.object "com/example/decisions_to_verdict/decisionstoverdict/Decision")) (by decide)
  have F105_otherwise : Fld Z h105 b105 "com/example/decisions_to_verdict/decisionstoverdict/Combination$Unless" "otherwise" "Lcom/example/decisions_to_verdict/decisionstoverdict/Decision;" .null := D105 (Or.inr (hw _ (List.mem_of_getElem? (i := 33) rfl))) (ty := (.object "com/example/decisions_to_verdict/decisionstoverdict/Decision")) (by decide)
  have F105_verdict : Fld Z h105 b105 "com/example/decisions_to_verdict/decisionstoverdict/Combination" "verdict" "Lcom/example/decisions_to_verdict/decisionstoverdict/Decision;" .null := D105 (Or.inl (hw _ (List.mem_of_getElem? (i := 41) rfl))) (ty := (.object "com/example/decisions_to_verdict/decisionstoverdict/Decision")) (by decide)
  have F105_added : Fld Z h105 b105 "com/example/decisions_to_verdict/decisionstoverdict/Combination" "added" "I" (.int (0 : Int32)) := D105 (Or.inl (hw _ (List.mem_of_getElem? (i := 43) rfl))) (ty := .int) (by decide)
  obtain ⟨_, _, ⟨T106, L106, k106, n106⟩, -, X106, ⟨Lc106, hQ106, l106, y106, z106⟩, st106⟩ := X105.specialBack hx (y := (⟨"com/example/decisions_to_verdict/decisionstoverdict/Combination$Unless", "<init>", "(ILcom/example/decisions_to_verdict/decisionstoverdict/Decision;Lcom/example/decisions_to_verdict/decisionstoverdict/Decision;)V"⟩ : MethodName)) rfl hown (mvT hZ (hw _ (List.mem_of_getElem? (i := 17) rfl))) (mvT hZ (hw _ (List.mem_of_getElem? (i := 18) rfl))) (mvT hZ (hw _ (List.mem_of_getElem? (i := 19) rfl))) (by decide) (backOf (W := 1) (rm_uin l Z a0 hw [] b105 ((p5 &&& (255 : Int32)) + (1 : Int32)) xd xo ((.int (0 : Int32))) ((.int (0 : Int32))) (.null) (.null) (.null) h105 n0 O105 A105 F105_count F105_added F105_verdict F105_decisive F105_otherwise g_b105 hp) hZ (hw _ (List.mem_of_getElem? (i := 19) rfl)) (hw _ (List.mem_of_getElem? (i := 16) rfl)) (by decide) (by decide)) (g := (mkF m 44 #[.val (.int p1), .val (.int p2), .val (.int p3), .val (.int p4), .val (.int p5), .val (.ref xd), .val (.ref xo), .val (.ref x1), .val (.ref x2), .val (.int ((p5 &&& (255 : Int32)) + (1 : Int32))), .unset, .unset, .unset, .unset] [(.ref xo), (.ref xd), (.int ((p5 &&& (255 : Int32)) + (1 : Int32))), (.ref b105), (.ref b105)])) rfl (by rw [hml]; rfl) (Steps.refl _) (a := b105) (argsL := [(.int ((p5 &&& (255 : Int32)) + (1 : Int32))), (.ref xd), (.ref xo)]) (rest := [(.ref b105)]) (lenOf pd_4 rfl) rfl (by show 2 * 0 + _ ≤ _; exact Nat.le_of_eq rfl) (hb hby at_44) (fun _ _ => ⟨rfl, e105, (by decide : 1 + 0 ≤ _), (by decide : 5 + 0 ≤ _)⟩)
  dsimp only [Pt.U, Pt.locs, Pt.cells, Pt.slots] at X106 l106 y106 z106 st106 hQ106
  subst l106 y106 z106
  obtain ⟨rfl, Nq106, Kq106, Eu106, Fu0_106, Fu1_106, Fu2_106, Fu3_106, Fu4_106⟩ := hQ106
  have N106 := Fr.app N104 Nq106
  have O106 := O105.keep Kq106 (allS g_b105 all0)
  obtain ⟨cq107, kq107, q107a, q107b, q107c⟩ := isOf hZ rfl Eu106
  obtain ⟨_, _, ⟨T107, L107, k107, n107⟩, -, X107, ⟨Lc107, hQ107, l107, y107, z107⟩, st107⟩ := X106.virtualBackUp hx (x := (⟨"com/example/decisions_to_verdict/decisionstoverdict/Combination$Unless", "isSettled", "()Z"⟩ : MethodName)) (y := (⟨"com/example/decisions_to_verdict/decisionstoverdict/Combination", "isSettled", "()Z"⟩ : MethodName)) (owner := "com/example/decisions_to_verdict/decisionstoverdict/Combination") hown (mvT hZ (hw _ (List.mem_of_getElem? (i := 34) rfl))) (mvT hZ (hw _ (List.mem_of_getElem? (i := 35) rfl))) (mvT hZ (hw _ (List.mem_of_getElem? (i := 36) rfl))) (by decide) (mvT hZ (hw _ (List.mem_of_getElem? (i := 38) rfl))) (mvT hZ (hw _ (List.mem_of_getElem? (i := 37) rfl))) (backOf (W := 0) (rm_is0 l Z a0 hw [] b105 ((p5 &&& (255 : Int32)) + (1 : Int32)) T106.heap n0 O106 Fu2_106 Fu1_106 Fu0_106 hcz) hZ (hw _ (List.mem_of_getElem? (i := 39) rfl)) (hw _ (List.mem_of_getElem? (i := 23) rfl)) (by decide) (by decide)) q107a q107c (g := (mkF m 51 #[.val (.int p1), .val (.int p2), .val (.int p3), .val (.int p4), .val (.int p5), .val (.ref xd), .val (.ref xo), .val (.ref x1), .val (.ref x2), .val (.int ((p5 &&& (255 : Int32)) + (1 : Int32))), .val (.ref b105), .unset, .unset, .unset] [(.ref b105)])) rfl (by rw [hml]; rfl) (Steps.refl _) (argsL := []) (rest := []) (lenOf pd_2 rfl) rfl (by show 2 * 0 + _ ≤ _; exact Nat.le_of_eq rfl) (hb hby at_51) (fun _ _ => ⟨rfl, rfl, (by decide : 1 + 0 ≤ _), (by decide : 5 + 0 ≤ _)⟩)
  dsimp only [Pt.U, Pt.locs, Pt.cells, Pt.slots] at X107 l107 y107 z107 st107 hQ107
  subst l107 y107 z107
  obtain ⟨rfl, Nq107, e107⟩ := hQ107
  have N107 := Fr.app N106 Nq107
  have pre108 : ∀ t, Steps p.tables e below (T107.setTop (mkF m 68 #[.val (.int p1), .val (.int p2), .val (.int p3), .val (.int p4), .val (.int p5), .val (.ref xd), .val (.ref xo), .val (.ref x1), .val (.ref x2), .val (.int ((p5 &&& (255 : Int32)) + (1 : Int32))), .val (.ref b105), .val (.int (1 : Int32)), .unset, .unset] [(.ref x1), (.ref b105)])) t → Steps p.tables e below (s₁.setTop (entryFrame m #[(.int p1), (.int p2), (.int p3), (.int p4), (.int p5)] maxLocals)) t := fun t kk => pre0 t (by
      show Steps p.tables e below (s₁.setTop (mkF m 0 #[.val (.int p1), .val (.int p2), .val (.int p3), .val (.int p4), .val (.int p5), .unset, .unset, .unset, .unset, .unset, .unset, .unset, .unset, .unset] [])) _
      refine XS.iloadN X0.here hx rfl (hb hby at_0) rfl ?_
      show Steps p.tables e below (s₁.setTop (mkF m 1 #[.val (.int p1), .val (.int p2), .val (.int p3), .val (.int p4), .val (.int p5), .unset, .unset, .unset, .unset, .unset, .unset, .unset, .unset, .unset] [(.int p1)])) _
      refine st101 _ ?_
      show Steps p.tables e below (T101.setTop (mkF m 4 #[.val (.int p1), .val (.int p2), .val (.int p3), .val (.int p4), .val (.int p5), .unset, .unset, .unset, .unset, .unset, .unset, .unset, .unset, .unset] [(.ref (own_pk p1 z0 z1 z2 z3 z4 z5))])) _
      rw [show (own_pk p1 z0 z1 z2 z3 z4 z5) = xd from h_xd.symm]
      show Steps p.tables e below (T101.setTop (mkF m 4 #[.val (.int p1), .val (.int p2), .val (.int p3), .val (.int p4), .val (.int p5), .unset, .unset, .unset, .unset, .unset, .unset, .unset, .unset, .unset] [(.ref xd)])) _
      refine XS.astore X101.here hx rfl (hb hby at_4) rfl rfl (l' := #[.val (.int p1), .val (.int p2), .val (.int p3), .val (.int p4), .val (.int p5), .val (.ref xd), .unset, .unset, .unset, .unset, .unset, .unset, .unset, .unset]) rfl ?_
      refine XS.iloadN X101.here hx rfl (hb hby at_6) rfl ?_
      show Steps p.tables e below (T101.setTop (mkF m 7 #[.val (.int p1), .val (.int p2), .val (.int p3), .val (.int p4), .val (.int p5), .val (.ref xd), .unset, .unset, .unset, .unset, .unset, .unset, .unset, .unset] [(.int p2)])) _
      refine st102 _ ?_
      show Steps p.tables e below (T102.setTop (mkF m 10 #[.val (.int p1), .val (.int p2), .val (.int p3), .val (.int p4), .val (.int p5), .val (.ref xd), .unset, .unset, .unset, .unset, .unset, .unset, .unset, .unset] [(.ref (own_pk p2 z0 z1 z2 z3 z4 z5))])) _
      rw [show (own_pk p2 z0 z1 z2 z3 z4 z5) = xo from h_xo.symm]
      show Steps p.tables e below (T102.setTop (mkF m 10 #[.val (.int p1), .val (.int p2), .val (.int p3), .val (.int p4), .val (.int p5), .val (.ref xd), .unset, .unset, .unset, .unset, .unset, .unset, .unset, .unset] [(.ref xo)])) _
      refine XS.astore X102.here hx rfl (hb hby at_10) rfl rfl (l' := #[.val (.int p1), .val (.int p2), .val (.int p3), .val (.int p4), .val (.int p5), .val (.ref xd), .val (.ref xo), .unset, .unset, .unset, .unset, .unset, .unset, .unset]) rfl ?_
      refine XS.iloadN X102.here hx rfl (hb hby at_12) rfl ?_
      show Steps p.tables e below (T102.setTop (mkF m 13 #[.val (.int p1), .val (.int p2), .val (.int p3), .val (.int p4), .val (.int p5), .val (.ref xd), .val (.ref xo), .unset, .unset, .unset, .unset, .unset, .unset, .unset] [(.int p3)])) _
      refine st103 _ ?_
      show Steps p.tables e below (T103.setTop (mkF m 16 #[.val (.int p1), .val (.int p2), .val (.int p3), .val (.int p4), .val (.int p5), .val (.ref xd), .val (.ref xo), .unset, .unset, .unset, .unset, .unset, .unset, .unset] [(.ref (own_pk p3 z0 z1 z2 z3 z4 z5))])) _
      rw [show (own_pk p3 z0 z1 z2 z3 z4 z5) = x1 from h_x1.symm]
      show Steps p.tables e below (T103.setTop (mkF m 16 #[.val (.int p1), .val (.int p2), .val (.int p3), .val (.int p4), .val (.int p5), .val (.ref xd), .val (.ref xo), .unset, .unset, .unset, .unset, .unset, .unset, .unset] [(.ref x1)])) _
      refine XS.astore X103.here hx rfl (hb hby at_16) rfl rfl (l' := #[.val (.int p1), .val (.int p2), .val (.int p3), .val (.int p4), .val (.int p5), .val (.ref xd), .val (.ref xo), .val (.ref x1), .unset, .unset, .unset, .unset, .unset, .unset]) rfl ?_
      refine XS.iloadN X103.here hx rfl (hb hby at_18) rfl ?_
      show Steps p.tables e below (T103.setTop (mkF m 19 #[.val (.int p1), .val (.int p2), .val (.int p3), .val (.int p4), .val (.int p5), .val (.ref xd), .val (.ref xo), .val (.ref x1), .unset, .unset, .unset, .unset, .unset, .unset] [(.int p4)])) _
      refine st104 _ ?_
      show Steps p.tables e below (T104.setTop (mkF m 22 #[.val (.int p1), .val (.int p2), .val (.int p3), .val (.int p4), .val (.int p5), .val (.ref xd), .val (.ref xo), .val (.ref x1), .unset, .unset, .unset, .unset, .unset, .unset] [(.ref (own_pk p4 z0 z1 z2 z3 z4 z5))])) _
      rw [show (own_pk p4 z0 z1 z2 z3 z4 z5) = x2 from h_x2.symm]
      show Steps p.tables e below (T104.setTop (mkF m 22 #[.val (.int p1), .val (.int p2), .val (.int p3), .val (.int p4), .val (.int p5), .val (.ref xd), .val (.ref xo), .val (.ref x1), .unset, .unset, .unset, .unset, .unset, .unset] [(.ref x2)])) _
      refine XS.astore X104.here hx rfl (hb hby at_22) rfl rfl (l' := #[.val (.int p1), .val (.int p2), .val (.int p3), .val (.int p4), .val (.int p5), .val (.ref xd), .val (.ref xo), .val (.ref x1), .val (.ref x2), .unset, .unset, .unset, .unset, .unset]) rfl ?_
      refine XS.iload X104.here hx rfl (hb hby at_24) rfl ?_
      refine XS.sipush X104.here hx rfl (hb hby at_26) ?_
      refine XS.iand X104.here hx rfl (hb hby at_29) rfl ?_
      show Steps p.tables e below (T104.setTop (mkF m 30 #[.val (.int p1), .val (.int p2), .val (.int p3), .val (.int p4), .val (.int p5), .val (.ref xd), .val (.ref xo), .val (.ref x1), .val (.ref x2), .unset, .unset, .unset, .unset, .unset] [(.int (p5 &&& (255 : Int32)))])) _
      refine XS.iconst X104.here hx rfl (hb hby at_30) ?_
      refine XS.iadd X104.here hx rfl (hb hby at_31) rfl ?_
      refine XS.istore X104.here hx rfl (hb hby at_32) rfl (l' := #[.val (.int p1), .val (.int p2), .val (.int p3), .val (.int p4), .val (.int p5), .val (.ref xd), .val (.ref xo), .val (.ref x1), .val (.ref x2), .val (.int ((p5 &&& (255 : Int32)) + (1 : Int32))), .unset, .unset, .unset, .unset]) rfl ?_
      show Steps p.tables e below (T104.setTop (mkF m 34 #[.val (.int p1), .val (.int p2), .val (.int p3), .val (.int p4), .val (.int p5), .val (.ref xd), .val (.ref xo), .val (.ref x1), .val (.ref x2), .val (.int ((p5 &&& (255 : Int32)) + (1 : Int32))), .unset, .unset, .unset, .unset] [])) _
      refine st105 _ ?_
      show Steps p.tables e below (T105.setTop (mkF m 37 #[.val (.int p1), .val (.int p2), .val (.int p3), .val (.int p4), .val (.int p5), .val (.ref xd), .val (.ref xo), .val (.ref x1), .val (.ref x2), .val (.int ((p5 &&& (255 : Int32)) + (1 : Int32))), .unset, .unset, .unset, .unset] [(.ref b105)])) _
      refine XS.dup X105.here hx rfl (hb hby at_37) rfl rfl ?_
      refine XS.iload X105.here hx rfl (hb hby at_38) rfl ?_
      refine XS.aload X105.here hx rfl (hb hby at_40) rfl rfl ?_
      refine XS.aload X105.here hx rfl (hb hby at_42) rfl rfl ?_
      show Steps p.tables e below (T105.setTop (mkF m 44 #[.val (.int p1), .val (.int p2), .val (.int p3), .val (.int p4), .val (.int p5), .val (.ref xd), .val (.ref xo), .val (.ref x1), .val (.ref x2), .val (.int ((p5 &&& (255 : Int32)) + (1 : Int32))), .unset, .unset, .unset, .unset] [(.ref xo), (.ref xd), (.int ((p5 &&& (255 : Int32)) + (1 : Int32))), (.ref b105), (.ref b105)])) _
      refine st106.trans ?_
      show Steps p.tables e below (T106.setTop (mkF m 47 #[.val (.int p1), .val (.int p2), .val (.int p3), .val (.int p4), .val (.int p5), .val (.ref xd), .val (.ref xo), .val (.ref x1), .val (.ref x2), .val (.int ((p5 &&& (255 : Int32)) + (1 : Int32))), .unset, .unset, .unset, .unset] [(.ref b105)])) _
      refine XS.astore X106.here hx rfl (hb hby at_47) rfl rfl (l' := #[.val (.int p1), .val (.int p2), .val (.int p3), .val (.int p4), .val (.int p5), .val (.ref xd), .val (.ref xo), .val (.ref x1), .val (.ref x2), .val (.int ((p5 &&& (255 : Int32)) + (1 : Int32))), .val (.ref b105), .unset, .unset, .unset]) rfl ?_
      refine XS.aload X106.here hx rfl (hb hby at_49) rfl rfl ?_
      show Steps p.tables e below (T106.setTop (mkF m 51 #[.val (.int p1), .val (.int p2), .val (.int p3), .val (.int p4), .val (.int p5), .val (.ref xd), .val (.ref xo), .val (.ref x1), .val (.ref x2), .val (.int ((p5 &&& (255 : Int32)) + (1 : Int32))), .val (.ref b105), .unset, .unset, .unset] [(.ref b105)])) _
      refine st107.trans ?_
      show Steps p.tables e below (T107.setTop (mkF m 54 #[.val (.int p1), .val (.int p2), .val (.int p3), .val (.int p4), .val (.int p5), .val (.ref xd), .val (.ref xo), .val (.ref x1), .val (.ref x2), .val (.int ((p5 &&& (255 : Int32)) + (1 : Int32))), .val (.ref b105), .unset, .unset, .unset] [(.int (0 : Int32))])) _
      refine XS.ifNo X107.here hx rfl (hb hby at_54) rfl ((if0 _ _).trans (teq (by decide : (0 : Int32) = (0 : Int32))).2) ?_
      refine XS.iconst X107.here hx rfl (hb hby at_57) ?_
      refine XS.goto X107.here hx rfl (pc0 := 58) (pc' := 62) rfl (hb hby at_58) (by decide) (by decide) ?_
      refine XS.istore X107.here hx rfl (hb hby at_62) rfl (l' := #[.val (.int p1), .val (.int p2), .val (.int p3), .val (.int p4), .val (.int p5), .val (.ref xd), .val (.ref xo), .val (.ref x1), .val (.ref x2), .val (.int ((p5 &&& (255 : Int32)) + (1 : Int32))), .val (.ref b105), .val (.int (1 : Int32)), .unset, .unset]) rfl ?_
      show Steps p.tables e below (T107.setTop (mkF m 64 #[.val (.int p1), .val (.int p2), .val (.int p3), .val (.int p4), .val (.int p5), .val (.ref xd), .val (.ref xo), .val (.ref x1), .val (.ref x2), .val (.int ((p5 &&& (255 : Int32)) + (1 : Int32))), .val (.ref b105), .val (.int (1 : Int32)), .unset, .unset] [])) _
      refine XS.aload X107.here hx rfl (hb hby at_64) rfl rfl ?_
      refine XS.aload X107.here hx rfl (hb hby at_66) rfl rfl ?_
      show Steps p.tables e below (T107.setTop (mkF m 68 #[.val (.int p1), .val (.int p2), .val (.int p3), .val (.int p4), .val (.int p5), .val (.ref xd), .val (.ref xo), .val (.ref x1), .val (.ref x2), .val (.int ((p5 &&& (255 : Int32)) + (1 : Int32))), .val (.ref b105), .val (.int (1 : Int32)), .unset, .unset] [(.ref x1), (.ref b105)])) _
      exact kk)
  by_cases hs_t1 : x1 = xd
  · obtain ⟨cq109, kq109, q109a, q109b, q109c⟩ := isOf hZ e107 Eu106
    obtain ⟨_, _, ⟨T109, L109, k109, n109⟩, -, X109, ⟨Lc109, hQ109, l109, y109, z109⟩, st109⟩ := X107.virtualBack hx (y := (⟨"com/example/decisions_to_verdict/decisionstoverdict/Combination$Unless", "take", "(Lcom/example/decisions_to_verdict/decisionstoverdict/Decision;)V"⟩ : MethodName)) (z := (⟨"com/example/decisions_to_verdict/decisionstoverdict/Combination$Unless", "take", "(Lcom/example/decisions_to_verdict/decisionstoverdict/Decision;)V"⟩ : MethodName)) hown (mvT hZ (hw _ (List.mem_of_getElem? (i := 44) rfl))) (mvT hZ (hw _ (List.mem_of_getElem? (i := 45) rfl))) (notFace_of_selects (args := #[]) (mvT hZ (hw _ (List.mem_of_getElem? (i := 47) rfl)))) (mvT hZ (hw _ (List.mem_of_getElem? (i := 47) rfl))) (mvT hZ (hw _ (List.mem_of_getElem? (i := 46) rfl))) (by decide) (backOf (W := 0) (rm_ty l Z a0 hw [] b105 x1 xd (.null) T106.heap n0 O106 Eu106 Fu2_106 Fu3_106 g_b105 hs_t1) hZ (hw _ (List.mem_of_getElem? (i := 48) rfl)) (hw _ (List.mem_of_getElem? (i := 16) rfl)) (by decide) (by decide)) q109a q109c (g := (mkF m 68 #[.val (.int p1), .val (.int p2), .val (.int p3), .val (.int p4), .val (.int p5), .val (.ref xd), .val (.ref xo), .val (.ref x1), .val (.ref x2), .val (.int ((p5 &&& (255 : Int32)) + (1 : Int32))), .val (.ref b105), .val (.int (1 : Int32)), .unset, .unset] [(.ref x1), (.ref b105)])) rfl (by rw [hml]; rfl) (Steps.refl _) (argsL := [(.ref x1)]) (rest := []) (lenOf pd_1 rfl) rfl (by show 2 * 0 + _ ≤ _; exact Nat.le_of_eq rfl) (hb hby at_68) (fun _ _ => ⟨rfl, e107, (by decide : 1 + 0 ≤ _), (by decide : 5 + 0 ≤ _)⟩)
    dsimp only [Pt.U, Pt.locs, Pt.cells, Pt.slots] at X109 l109 y109 z109 st109 hQ109
    subst l109 y109 z109
    obtain ⟨rfl, Nq109, Kq109, Es109, Fs109, Ft109⟩ := hQ109
    have N109 := Fr.app N107 Nq109
    have O109 := O106.keep Kq109 (allS g_b105 all0)
    have hc110 : x1 = xd := hs_t1
    obtain ⟨cq111, kq111, q111a, q111b, q111c⟩ := isOf hZ rfl Es109
    obtain ⟨_, _, ⟨T111, L111, k111, n111⟩, -, X111, ⟨Lc111, hQ111, l111, y111, z111⟩, st111⟩ := X109.virtualBackUp hx (x := (⟨"com/example/decisions_to_verdict/decisionstoverdict/Combination$Unless", "isSettled", "()Z"⟩ : MethodName)) (y := (⟨"com/example/decisions_to_verdict/decisionstoverdict/Combination", "isSettled", "()Z"⟩ : MethodName)) (owner := "com/example/decisions_to_verdict/decisionstoverdict/Combination") hown (mvT hZ (hw _ (List.mem_of_getElem? (i := 34) rfl))) (mvT hZ (hw _ (List.mem_of_getElem? (i := 35) rfl))) (mvT hZ (hw _ (List.mem_of_getElem? (i := 36) rfl))) (by decide) (mvT hZ (hw _ (List.mem_of_getElem? (i := 38) rfl))) (mvT hZ (hw _ (List.mem_of_getElem? (i := 37) rfl))) (backOf (W := 0) (rm_is1 l Z a0 hw [] b105 xd T109.heap n0 O109 Fs109) hZ (hw _ (List.mem_of_getElem? (i := 39) rfl)) (hw _ (List.mem_of_getElem? (i := 23) rfl)) (by decide) (by decide)) q111a q111c (g := (mkF m 92 #[.val (.int p1), .val (.int p2), .val (.int p3), .val (.int p4), .val (.int p5), .val (.ref xd), .val (.ref xo), .val (.ref x1), .val (.ref x2), .val (.int ((p5 &&& (255 : Int32)) + (1 : Int32))), .val (.ref b105), .val (.int (1 : Int32)), .val (.int (1 : Int32)), .unset] [(.ref b105)])) rfl (by rw [hml]; rfl) (Steps.refl _) (argsL := []) (rest := []) (lenOf pd_2 rfl) rfl (by show 2 * 0 + _ ≤ _; exact Nat.le_of_eq rfl) (hb hby at_92) (fun _ _ => ⟨rfl, rfl, (by decide : 1 + 0 ≤ _), (by decide : 5 + 0 ≤ _)⟩)
    dsimp only [Pt.U, Pt.locs, Pt.cells, Pt.slots] at X111 l111 y111 z111 st111 hQ111
    subst l111 y111 z111
    obtain ⟨rfl, Nq111, e111⟩ := hQ111
    have N111 := Fr.app N109 Nq111
    obtain ⟨cq112, kq112, q112a, q112b, q112c⟩ := isOf hZ e111 Es109
    obtain ⟨_, _, ⟨T112, L112, k112, n112⟩, -, X112, ⟨Lc112, hQ112, l112, y112, z112⟩, st112⟩ := X111.virtualBackUp hx (x := (⟨"com/example/decisions_to_verdict/decisionstoverdict/Combination$Unless", "verdict", "()Lcom/example/decisions_to_verdict/decisionstoverdict/Decision;"⟩ : MethodName)) (y := (⟨"com/example/decisions_to_verdict/decisionstoverdict/Combination", "verdict", "()Lcom/example/decisions_to_verdict/decisionstoverdict/Decision;"⟩ : MethodName)) (owner := "com/example/decisions_to_verdict/decisionstoverdict/Combination") hown (mvT hZ (hw _ (List.mem_of_getElem? (i := 57) rfl))) (mvT hZ (hw _ (List.mem_of_getElem? (i := 58) rfl))) (mvT hZ (hw _ (List.mem_of_getElem? (i := 59) rfl))) (by decide) (mvT hZ (hw _ (List.mem_of_getElem? (i := 61) rfl))) (mvT hZ (hw _ (List.mem_of_getElem? (i := 60) rfl))) (backOf (W := 0) (rm_ve l Z a0 hw [] b105 xd T109.heap n0 O109 Es109 Fs109) hZ (hw _ (List.mem_of_getElem? (i := 62) rfl)) (hw _ (List.mem_of_getElem? (i := 23) rfl)) (by decide) (by decide)) q112a q112c (g := (mkF m 119 #[.val (.int p1), .val (.int p2), .val (.int p3), .val (.int p4), .val (.int p5), .val (.ref xd), .val (.ref xo), .val (.ref x1), .val (.ref x2), .val (.int ((p5 &&& (255 : Int32)) + (1 : Int32))), .val (.ref b105), .val (.int (1 : Int32)), .val (.int (1 : Int32)), .unset] [(.ref b105)])) rfl (by rw [hml]; rfl) (Steps.refl _) (argsL := []) (rest := []) (lenOf pd_5 rfl) rfl (by show 2 * 0 + _ ≤ _; exact Nat.le_of_eq rfl) (hb hby at_119) (fun _ _ => ⟨rfl, e111, (by decide : 1 + 0 ≤ _), (by decide : 5 + 0 ≤ _)⟩)
    dsimp only [Pt.U, Pt.locs, Pt.cells, Pt.slots] at X112 l112 y112 z112 st112 hQ112
    subst l112 y112 z112
    obtain ⟨rfl, Nq112, e112⟩ := hQ112
    have N112 := Fr.app N111 Nq112
    have pre113 : ∀ t, Steps p.tables e below (T112.setTop (mkF m 138 #[.val (.int p1), .val (.int p2), .val (.int p3), .val (.int p4), .val (.int p5), .val (.ref xd), .val (.ref xo), .val (.ref x1), .val (.ref x2), .val (.int ((p5 &&& (255 : Int32)) + (1 : Int32))), .val (.ref b105), .val (.int (1 : Int32)), .val (.int (1 : Int32)), .unset] [(.ref x2), (.ref b105)])) t → Steps p.tables e below (s₁.setTop (entryFrame m #[(.int p1), (.int p2), (.int p3), (.int p4), (.int p5)] maxLocals)) t := fun t kk => pre108 t (by
        refine st109.trans ?_
        show Steps p.tables e below (T109.setTop (mkF m 71 #[.val (.int p1), .val (.int p2), .val (.int p3), .val (.int p4), .val (.int p5), .val (.ref xd), .val (.ref xo), .val (.ref x1), .val (.ref x2), .val (.int ((p5 &&& (255 : Int32)) + (1 : Int32))), .val (.ref b105), .val (.int (1 : Int32)), .unset, .unset] [])) _
        refine XS.aload X109.here hx rfl (hb hby at_71) rfl rfl ?_
        refine XS.aload X109.here hx rfl (hb hby at_73) rfl rfl ?_
        show Steps p.tables e below (T109.setTop (mkF m 75 #[.val (.int p1), .val (.int p2), .val (.int p3), .val (.int p4), .val (.int p5), .val (.ref xd), .val (.ref xo), .val (.ref x1), .val (.ref x2), .val (.int ((p5 &&& (255 : Int32)) + (1 : Int32))), .val (.ref b105), .val (.int (1 : Int32)), .unset, .unset] [(.ref xd), (.ref x1)])) _
        refine Jvm.RoadKit.acmp (g := (mkF m 75 #[.val (.int p1), .val (.int p2), .val (.int p3), .val (.int p4), .val (.int p5), .val (.ref xd), .val (.ref xo), .val (.ref x1), .val (.ref x2), .val (.int ((p5 &&& (255 : Int32)) + (1 : Int32))), .val (.ref b105), .val (.int (1 : Int32)), .unset, .unset] [(.ref xd), (.ref x1)])) X109 hx rfl rfl rfl (pc0 := 75) (pc' := 78) (same := true) rfl (hb hby at_75) rfl (decide_eq_true (congrArg Value.ref hc110)) (by decide) (by decide) ?_
        show Steps p.tables e below (T109.setTop (mkF m 78 #[.val (.int p1), .val (.int p2), .val (.int p3), .val (.int p4), .val (.int p5), .val (.ref xd), .val (.ref xo), .val (.ref x1), .val (.ref x2), .val (.int ((p5 &&& (255 : Int32)) + (1 : Int32))), .val (.ref b105), .val (.int (1 : Int32)), .unset, .unset] [])) _
        refine XS.iconst X109.here hx rfl (hb hby at_78) ?_
        refine XS.goto X109.here hx rfl (pc0 := 79) (pc' := 83) rfl (hb hby at_79) (by decide) (by decide) ?_
        refine XS.istore X109.here hx rfl (hb hby at_83) rfl (l' := #[.val (.int p1), .val (.int p2), .val (.int p3), .val (.int p4), .val (.int p5), .val (.ref xd), .val (.ref xo), .val (.ref x1), .val (.ref x2), .val (.int ((p5 &&& (255 : Int32)) + (1 : Int32))), .val (.ref b105), .val (.int (1 : Int32)), .val (.int (1 : Int32)), .unset]) rfl ?_
        refine XS.iload X109.here hx rfl (hb hby at_85) rfl ?_
        show Steps p.tables e below (T109.setTop (mkF m 87 #[.val (.int p1), .val (.int p2), .val (.int p3), .val (.int p4), .val (.int p5), .val (.ref xd), .val (.ref xo), .val (.ref x1), .val (.ref x2), .val (.int ((p5 &&& (255 : Int32)) + (1 : Int32))), .val (.ref b105), .val (.int (1 : Int32)), .val (.int (1 : Int32)), .unset] [(.int (1 : Int32))])) _
        refine XS.ifNo X109.here hx rfl (hb hby at_87) rfl ((if0 _ _).trans (feq (by decide : ¬ ((1 : Int32) = (0 : Int32)))).1) ?_
        refine XS.aload X109.here hx rfl (hb hby at_90) rfl rfl ?_
        show Steps p.tables e below (T109.setTop (mkF m 92 #[.val (.int p1), .val (.int p2), .val (.int p3), .val (.int p4), .val (.int p5), .val (.ref xd), .val (.ref xo), .val (.ref x1), .val (.ref x2), .val (.int ((p5 &&& (255 : Int32)) + (1 : Int32))), .val (.ref b105), .val (.int (1 : Int32)), .val (.int (1 : Int32)), .unset] [(.ref b105)])) _
        refine st111.trans ?_
        show Steps p.tables e below (T111.setTop (mkF m 95 #[.val (.int p1), .val (.int p2), .val (.int p3), .val (.int p4), .val (.int p5), .val (.ref xd), .val (.ref xo), .val (.ref x1), .val (.ref x2), .val (.int ((p5 &&& (255 : Int32)) + (1 : Int32))), .val (.ref b105), .val (.int (1 : Int32)), .val (.int (1 : Int32)), .unset] [(.int (1 : Int32))])) _
        refine XS.iload X111.here hx rfl (hb hby at_95) rfl ?_
        refine XS.icmpNo X111.here hx rfl (hb hby at_97) rfl (teq (by decide : (1 : Int32) = (1 : Int32))).2 ?_
        refine XS.iconst X111.here hx rfl (hb hby at_100) ?_
        refine XS.goto X111.here hx rfl (pc0 := 101) (pc' := 105) rfl (hb hby at_101) (by decide) (by decide) ?_
        show Steps p.tables e below (T111.setTop (mkF m 105 #[.val (.int p1), .val (.int p2), .val (.int p3), .val (.int p4), .val (.int p5), .val (.ref xd), .val (.ref xo), .val (.ref x1), .val (.ref x2), .val (.int ((p5 &&& (255 : Int32)) + (1 : Int32))), .val (.ref b105), .val (.int (1 : Int32)), .val (.int (1 : Int32)), .unset] [(.int (1 : Int32))])) _
        refine XS.istore X111.here hx rfl (hb hby at_105) rfl (l' := #[.val (.int p1), .val (.int p2), .val (.int p3), .val (.int p4), .val (.int p5), .val (.ref xd), .val (.ref xo), .val (.ref x1), .val (.ref x2), .val (.int ((p5 &&& (255 : Int32)) + (1 : Int32))), .val (.ref b105), .val (.int (1 : Int32)), .val (.int (1 : Int32)), .unset]) rfl ?_
        refine XS.iload X111.here hx rfl (hb hby at_107) rfl ?_
        refine XS.ifNo X111.here hx rfl (hb hby at_109) rfl ((if0 _ _).trans (feq (by decide : ¬ ((1 : Int32) = (0 : Int32)))).1) ?_
        refine XS.iload X111.here hx rfl (hb hby at_112) rfl ?_
        show Steps p.tables e below (T111.setTop (mkF m 114 #[.val (.int p1), .val (.int p2), .val (.int p3), .val (.int p4), .val (.int p5), .val (.ref xd), .val (.ref xo), .val (.ref x1), .val (.ref x2), .val (.int ((p5 &&& (255 : Int32)) + (1 : Int32))), .val (.ref b105), .val (.int (1 : Int32)), .val (.int (1 : Int32)), .unset] [(.int (1 : Int32))])) _
        refine XS.ifNo X111.here hx rfl (hb hby at_114) rfl ((if0 _ _).trans (feq (by decide : ¬ ((1 : Int32) = (0 : Int32)))).1) ?_
        refine XS.aload X111.here hx rfl (hb hby at_117) rfl rfl ?_
        show Steps p.tables e below (T111.setTop (mkF m 119 #[.val (.int p1), .val (.int p2), .val (.int p3), .val (.int p4), .val (.int p5), .val (.ref xd), .val (.ref xo), .val (.ref x1), .val (.ref x2), .val (.int ((p5 &&& (255 : Int32)) + (1 : Int32))), .val (.ref b105), .val (.int (1 : Int32)), .val (.int (1 : Int32)), .unset] [(.ref b105)])) _
        refine st112.trans ?_
        show Steps p.tables e below (T112.setTop (mkF m 122 #[.val (.int p1), .val (.int p2), .val (.int p3), .val (.int p4), .val (.int p5), .val (.ref xd), .val (.ref xo), .val (.ref x1), .val (.ref x2), .val (.int ((p5 &&& (255 : Int32)) + (1 : Int32))), .val (.ref b105), .val (.int (1 : Int32)), .val (.int (1 : Int32)), .unset] [(.ref xd)])) _
        refine XS.aload X112.here hx rfl (hb hby at_122) rfl rfl ?_
        show Steps p.tables e below (T112.setTop (mkF m 124 #[.val (.int p1), .val (.int p2), .val (.int p3), .val (.int p4), .val (.int p5), .val (.ref xd), .val (.ref xo), .val (.ref x1), .val (.ref x2), .val (.int ((p5 &&& (255 : Int32)) + (1 : Int32))), .val (.ref b105), .val (.int (1 : Int32)), .val (.int (1 : Int32)), .unset] [(.ref xd), (.ref xd)])) _
        refine Jvm.RoadKit.acmp (g := (mkF m 124 #[.val (.int p1), .val (.int p2), .val (.int p3), .val (.int p4), .val (.int p5), .val (.ref xd), .val (.ref xo), .val (.ref x1), .val (.ref x2), .val (.int ((p5 &&& (255 : Int32)) + (1 : Int32))), .val (.ref b105), .val (.int (1 : Int32)), .val (.int (1 : Int32)), .unset] [(.ref xd), (.ref xd)])) X112 hx rfl rfl rfl (pc0 := 124) (pc' := 127) (same := true) rfl (hb hby at_124) rfl (decide_eq_true rfl) (by decide) (by decide) ?_
        show Steps p.tables e below (T112.setTop (mkF m 127 #[.val (.int p1), .val (.int p2), .val (.int p3), .val (.int p4), .val (.int p5), .val (.ref xd), .val (.ref xo), .val (.ref x1), .val (.ref x2), .val (.int ((p5 &&& (255 : Int32)) + (1 : Int32))), .val (.ref b105), .val (.int (1 : Int32)), .val (.int (1 : Int32)), .unset] [])) _
        refine XS.iconst X112.here hx rfl (hb hby at_127) ?_
        refine XS.goto X112.here hx rfl (pc0 := 128) (pc' := 132) rfl (hb hby at_128) (by decide) (by decide) ?_
        refine XS.istore X112.here hx rfl (hb hby at_132) rfl (l' := #[.val (.int p1), .val (.int p2), .val (.int p3), .val (.int p4), .val (.int p5), .val (.ref xd), .val (.ref xo), .val (.ref x1), .val (.ref x2), .val (.int ((p5 &&& (255 : Int32)) + (1 : Int32))), .val (.ref b105), .val (.int (1 : Int32)), .val (.int (1 : Int32)), .unset]) rfl ?_
        refine XS.aload X112.here hx rfl (hb hby at_134) rfl rfl ?_
        show Steps p.tables e below (T112.setTop (mkF m 136 #[.val (.int p1), .val (.int p2), .val (.int p3), .val (.int p4), .val (.int p5), .val (.ref xd), .val (.ref xo), .val (.ref x1), .val (.ref x2), .val (.int ((p5 &&& (255 : Int32)) + (1 : Int32))), .val (.ref b105), .val (.int (1 : Int32)), .val (.int (1 : Int32)), .unset] [(.ref b105)])) _
        refine XS.aload X112.here hx rfl (hb hby at_136) rfl rfl ?_
        show Steps p.tables e below (T112.setTop (mkF m 138 #[.val (.int p1), .val (.int p2), .val (.int p3), .val (.int p4), .val (.int p5), .val (.ref xd), .val (.ref xo), .val (.ref x1), .val (.ref x2), .val (.int ((p5 &&& (255 : Int32)) + (1 : Int32))), .val (.ref b105), .val (.int (1 : Int32)), .val (.int (1 : Int32)), .unset] [(.ref x2), (.ref b105)])) _
        exact kk)
    by_cases hs_t2 : x2 = xd
    · obtain ⟨cq114, kq114, q114a, q114b, q114c⟩ := isOf hZ e112 Es109
      obtain ⟨_, _, ⟨T114, L114, k114, n114⟩, -, X114, ⟨Lc114, hQ114, l114, y114, z114⟩, st114⟩ := X112.virtualBack hx (y := (⟨"com/example/decisions_to_verdict/decisionstoverdict/Combination$Unless", "take", "(Lcom/example/decisions_to_verdict/decisionstoverdict/Decision;)V"⟩ : MethodName)) (z := (⟨"com/example/decisions_to_verdict/decisionstoverdict/Combination$Unless", "take", "(Lcom/example/decisions_to_verdict/decisionstoverdict/Decision;)V"⟩ : MethodName)) hown (mvT hZ (hw _ (List.mem_of_getElem? (i := 44) rfl))) (mvT hZ (hw _ (List.mem_of_getElem? (i := 45) rfl))) (notFace_of_selects (args := #[]) (mvT hZ (hw _ (List.mem_of_getElem? (i := 47) rfl)))) (mvT hZ (hw _ (List.mem_of_getElem? (i := 47) rfl))) (mvT hZ (hw _ (List.mem_of_getElem? (i := 46) rfl))) (by decide) (backOf (W := 0) (rm_ty l Z a0 hw [] b105 x2 xd ((.ref xd)) T109.heap n0 O109 Es109 Fs109 Ft109 g_b105 hs_t2) hZ (hw _ (List.mem_of_getElem? (i := 48) rfl)) (hw _ (List.mem_of_getElem? (i := 16) rfl)) (by decide) (by decide)) q114a q114c (g := (mkF m 138 #[.val (.int p1), .val (.int p2), .val (.int p3), .val (.int p4), .val (.int p5), .val (.ref xd), .val (.ref xo), .val (.ref x1), .val (.ref x2), .val (.int ((p5 &&& (255 : Int32)) + (1 : Int32))), .val (.ref b105), .val (.int (1 : Int32)), .val (.int (1 : Int32)), .unset] [(.ref x2), (.ref b105)])) rfl (by rw [hml]; rfl) (Steps.refl _) (argsL := [(.ref x2)]) (rest := []) (lenOf pd_1 rfl) rfl (by show 2 * 0 + _ ≤ _; exact Nat.le_of_eq rfl) (hb hby at_138) (fun _ _ => ⟨rfl, e112, (by decide : 1 + 0 ≤ _), (by decide : 5 + 0 ≤ _)⟩)
      dsimp only [Pt.U, Pt.locs, Pt.cells, Pt.slots] at X114 l114 y114 z114 st114 hQ114
      subst l114 y114 z114
      obtain ⟨rfl, Nq114, Kq114, Es114, Fs114, Ft114⟩ := hQ114
      have N114 := Fr.app N112 Nq114
      have O114 := O109.keep Kq114 (allS g_b105 all0)
      obtain ⟨cq115, kq115, q115a, q115b, q115c⟩ := isOf hZ rfl Es114
      obtain ⟨_, _, ⟨T115, L115, k115, n115⟩, -, X115, ⟨Lc115, hQ115, l115, y115, z115⟩, st115⟩ := X114.virtualBackUp hx (x := (⟨"com/example/decisions_to_verdict/decisionstoverdict/Combination$Unless", "isSettled", "()Z"⟩ : MethodName)) (y := (⟨"com/example/decisions_to_verdict/decisionstoverdict/Combination", "isSettled", "()Z"⟩ : MethodName)) (owner := "com/example/decisions_to_verdict/decisionstoverdict/Combination") hown (mvT hZ (hw _ (List.mem_of_getElem? (i := 34) rfl))) (mvT hZ (hw _ (List.mem_of_getElem? (i := 35) rfl))) (mvT hZ (hw _ (List.mem_of_getElem? (i := 36) rfl))) (by decide) (mvT hZ (hw _ (List.mem_of_getElem? (i := 38) rfl))) (mvT hZ (hw _ (List.mem_of_getElem? (i := 37) rfl))) (backOf (W := 0) (rm_is1 l Z a0 hw [] b105 xd T114.heap n0 O114 Fs114) hZ (hw _ (List.mem_of_getElem? (i := 39) rfl)) (hw _ (List.mem_of_getElem? (i := 23) rfl)) (by decide) (by decide)) q115a q115c (g := (mkF m 167 #[.val (.int p1), .val (.int p2), .val (.int p3), .val (.int p4), .val (.int p5), .val (.ref xd), .val (.ref xo), .val (.ref x1), .val (.ref x2), .val (.int ((p5 &&& (255 : Int32)) + (1 : Int32))), .val (.ref b105), .val (.int (1 : Int32)), .val (.int (1 : Int32)), .val (.int (1 : Int32))] [(.ref b105)])) rfl (by rw [hml]; rfl) (Steps.refl _) (argsL := []) (rest := []) (lenOf pd_2 rfl) rfl (by show 2 * 0 + _ ≤ _; exact Nat.le_of_eq rfl) (hb hby at_167) (fun _ _ => ⟨rfl, rfl, (by decide : 1 + 0 ≤ _), (by decide : 5 + 0 ≤ _)⟩)
      dsimp only [Pt.U, Pt.locs, Pt.cells, Pt.slots] at X115 l115 y115 z115 st115 hQ115
      subst l115 y115 z115
      obtain ⟨rfl, Nq115, e115⟩ := hQ115
      have N115 := Fr.app N114 Nq115
      obtain ⟨cq116, kq116, q116a, q116b, q116c⟩ := isOf hZ e115 Es114
      obtain ⟨_, _, ⟨T116, L116, k116, n116⟩, -, X116, ⟨Lc116, hQ116, l116, y116, z116⟩, st116⟩ := X115.virtualBackUp hx (x := (⟨"com/example/decisions_to_verdict/decisionstoverdict/Combination$Unless", "verdict", "()Lcom/example/decisions_to_verdict/decisionstoverdict/Decision;"⟩ : MethodName)) (y := (⟨"com/example/decisions_to_verdict/decisionstoverdict/Combination", "verdict", "()Lcom/example/decisions_to_verdict/decisionstoverdict/Decision;"⟩ : MethodName)) (owner := "com/example/decisions_to_verdict/decisionstoverdict/Combination") hown (mvT hZ (hw _ (List.mem_of_getElem? (i := 57) rfl))) (mvT hZ (hw _ (List.mem_of_getElem? (i := 58) rfl))) (mvT hZ (hw _ (List.mem_of_getElem? (i := 59) rfl))) (by decide) (mvT hZ (hw _ (List.mem_of_getElem? (i := 61) rfl))) (mvT hZ (hw _ (List.mem_of_getElem? (i := 60) rfl))) (backOf (W := 0) (rm_ve l Z a0 hw [] b105 xd T114.heap n0 O114 Es114 Fs114) hZ (hw _ (List.mem_of_getElem? (i := 62) rfl)) (hw _ (List.mem_of_getElem? (i := 23) rfl)) (by decide) (by decide)) q116a q116c (g := (mkF m 194 #[.val (.int p1), .val (.int p2), .val (.int p3), .val (.int p4), .val (.int p5), .val (.ref xd), .val (.ref xo), .val (.ref x1), .val (.ref x2), .val (.int ((p5 &&& (255 : Int32)) + (1 : Int32))), .val (.ref b105), .val (.int (1 : Int32)), .val (.int (1 : Int32)), .val (.int (1 : Int32))] [(.ref b105)])) rfl (by rw [hml]; rfl) (Steps.refl _) (argsL := []) (rest := []) (lenOf pd_5 rfl) rfl (by show 2 * 0 + _ ≤ _; exact Nat.le_of_eq rfl) (hb hby at_194) (fun _ _ => ⟨rfl, e115, (by decide : 1 + 0 ≤ _), (by decide : 5 + 0 ≤ _)⟩)
      dsimp only [Pt.U, Pt.locs, Pt.cells, Pt.slots] at X116 l116 y116 z116 st116 hQ116
      subst l116 y116 z116
      obtain ⟨rfl, Nq116, e116⟩ := hQ116
      have N116 := Fr.app N115 Nq116
      obtain ⟨fs, hr, hrun, hended, hW, hsame⟩ := X116.leave (v := some (.int (1 : Int32))) (fun h => by rw [Bd.returns] at h; cases h)
      refine ⟨_, _, pre113 _ ?_, hrun, hended, _, _, rfl, ?_, ⟨_, rfl⟩, hW, hsame.mono (by decide) (by decide)⟩
      · refine st114.trans ?_
        show Steps p.tables e below (T114.setTop (mkF m 141 #[.val (.int p1), .val (.int p2), .val (.int p3), .val (.int p4), .val (.int p5), .val (.ref xd), .val (.ref xo), .val (.ref x1), .val (.ref x2), .val (.int ((p5 &&& (255 : Int32)) + (1 : Int32))), .val (.ref b105), .val (.int (1 : Int32)), .val (.int (1 : Int32)), .unset] [])) _
        refine XS.iload X114.here hx rfl (hb hby at_141) rfl ?_
        refine XS.ifYes X114.here hx rfl (pc0 := 143) (pc' := 153) rfl (hb hby at_143) rfl ((if0 _ _).trans (feq (by decide : ¬ ((1 : Int32) = (0 : Int32)))).2) (by decide) (by decide) ?_
        refine XS.iconst X114.here hx rfl (hb hby at_153) ?_
        refine XS.goto X114.here hx rfl (pc0 := 154) (pc' := 158) rfl (hb hby at_154) (by decide) (by decide) ?_
        show Steps p.tables e below (T114.setTop (mkF m 158 #[.val (.int p1), .val (.int p2), .val (.int p3), .val (.int p4), .val (.int p5), .val (.ref xd), .val (.ref xo), .val (.ref x1), .val (.ref x2), .val (.int ((p5 &&& (255 : Int32)) + (1 : Int32))), .val (.ref b105), .val (.int (1 : Int32)), .val (.int (1 : Int32)), .unset] [(.int (1 : Int32))])) _
        refine XS.istore X114.here hx rfl (hb hby at_158) rfl (l' := #[.val (.int p1), .val (.int p2), .val (.int p3), .val (.int p4), .val (.int p5), .val (.ref xd), .val (.ref xo), .val (.ref x1), .val (.ref x2), .val (.int ((p5 &&& (255 : Int32)) + (1 : Int32))), .val (.ref b105), .val (.int (1 : Int32)), .val (.int (1 : Int32)), .val (.int (1 : Int32))]) rfl ?_
        refine XS.iload X114.here hx rfl (hb hby at_160) rfl ?_
        refine XS.ifNo X114.here hx rfl (hb hby at_162) rfl ((if0 _ _).trans (feq (by decide : ¬ ((1 : Int32) = (0 : Int32)))).1) ?_
        refine XS.aload X114.here hx rfl (hb hby at_165) rfl rfl ?_
        show Steps p.tables e below (T114.setTop (mkF m 167 #[.val (.int p1), .val (.int p2), .val (.int p3), .val (.int p4), .val (.int p5), .val (.ref xd), .val (.ref xo), .val (.ref x1), .val (.ref x2), .val (.int ((p5 &&& (255 : Int32)) + (1 : Int32))), .val (.ref b105), .val (.int (1 : Int32)), .val (.int (1 : Int32)), .val (.int (1 : Int32))] [(.ref b105)])) _
        refine st115.trans ?_
        show Steps p.tables e below (T115.setTop (mkF m 170 #[.val (.int p1), .val (.int p2), .val (.int p3), .val (.int p4), .val (.int p5), .val (.ref xd), .val (.ref xo), .val (.ref x1), .val (.ref x2), .val (.int ((p5 &&& (255 : Int32)) + (1 : Int32))), .val (.ref b105), .val (.int (1 : Int32)), .val (.int (1 : Int32)), .val (.int (1 : Int32))] [(.int (1 : Int32))])) _
        refine XS.iload X115.here hx rfl (hb hby at_170) rfl ?_
        refine XS.icmpNo X115.here hx rfl (hb hby at_172) rfl (teq (by decide : (1 : Int32) = (1 : Int32))).2 ?_
        refine XS.iconst X115.here hx rfl (hb hby at_175) ?_
        refine XS.goto X115.here hx rfl (pc0 := 176) (pc' := 180) rfl (hb hby at_176) (by decide) (by decide) ?_
        show Steps p.tables e below (T115.setTop (mkF m 180 #[.val (.int p1), .val (.int p2), .val (.int p3), .val (.int p4), .val (.int p5), .val (.ref xd), .val (.ref xo), .val (.ref x1), .val (.ref x2), .val (.int ((p5 &&& (255 : Int32)) + (1 : Int32))), .val (.ref b105), .val (.int (1 : Int32)), .val (.int (1 : Int32)), .val (.int (1 : Int32))] [(.int (1 : Int32))])) _
        refine XS.istore X115.here hx rfl (hb hby at_180) rfl (l' := #[.val (.int p1), .val (.int p2), .val (.int p3), .val (.int p4), .val (.int p5), .val (.ref xd), .val (.ref xo), .val (.ref x1), .val (.ref x2), .val (.int ((p5 &&& (255 : Int32)) + (1 : Int32))), .val (.ref b105), .val (.int (1 : Int32)), .val (.int (1 : Int32)), .val (.int (1 : Int32))]) rfl ?_
        refine XS.iload X115.here hx rfl (hb hby at_182) rfl ?_
        refine XS.ifNo X115.here hx rfl (hb hby at_184) rfl ((if0 _ _).trans (feq (by decide : ¬ ((1 : Int32) = (0 : Int32)))).1) ?_
        refine XS.iload X115.here hx rfl (hb hby at_187) rfl ?_
        show Steps p.tables e below (T115.setTop (mkF m 189 #[.val (.int p1), .val (.int p2), .val (.int p3), .val (.int p4), .val (.int p5), .val (.ref xd), .val (.ref xo), .val (.ref x1), .val (.ref x2), .val (.int ((p5 &&& (255 : Int32)) + (1 : Int32))), .val (.ref b105), .val (.int (1 : Int32)), .val (.int (1 : Int32)), .val (.int (1 : Int32))] [(.int (1 : Int32))])) _
        refine XS.ifNo X115.here hx rfl (hb hby at_189) rfl ((if0 _ _).trans (feq (by decide : ¬ ((1 : Int32) = (0 : Int32)))).1) ?_
        refine XS.aload X115.here hx rfl (hb hby at_192) rfl rfl ?_
        show Steps p.tables e below (T115.setTop (mkF m 194 #[.val (.int p1), .val (.int p2), .val (.int p3), .val (.int p4), .val (.int p5), .val (.ref xd), .val (.ref xo), .val (.ref x1), .val (.ref x2), .val (.int ((p5 &&& (255 : Int32)) + (1 : Int32))), .val (.ref b105), .val (.int (1 : Int32)), .val (.int (1 : Int32)), .val (.int (1 : Int32))] [(.ref b105)])) _
        refine st116.trans ?_
        show Steps p.tables e below (T116.setTop (mkF m 197 #[.val (.int p1), .val (.int p2), .val (.int p3), .val (.int p4), .val (.int p5), .val (.ref xd), .val (.ref xo), .val (.ref x1), .val (.ref x2), .val (.int ((p5 &&& (255 : Int32)) + (1 : Int32))), .val (.ref b105), .val (.int (1 : Int32)), .val (.int (1 : Int32)), .val (.int (1 : Int32))] [(.ref xd)])) _
        refine XS.aload X116.here hx rfl (hb hby at_197) rfl rfl ?_
        show Steps p.tables e below (T116.setTop (mkF m 199 #[.val (.int p1), .val (.int p2), .val (.int p3), .val (.int p4), .val (.int p5), .val (.ref xd), .val (.ref xo), .val (.ref x1), .val (.ref x2), .val (.int ((p5 &&& (255 : Int32)) + (1 : Int32))), .val (.ref b105), .val (.int (1 : Int32)), .val (.int (1 : Int32)), .val (.int (1 : Int32))] [(.ref xd), (.ref xd)])) _
        refine Jvm.RoadKit.acmp (g := (mkF m 199 #[.val (.int p1), .val (.int p2), .val (.int p3), .val (.int p4), .val (.int p5), .val (.ref xd), .val (.ref xo), .val (.ref x1), .val (.ref x2), .val (.int ((p5 &&& (255 : Int32)) + (1 : Int32))), .val (.ref b105), .val (.int (1 : Int32)), .val (.int (1 : Int32)), .val (.int (1 : Int32))] [(.ref xd), (.ref xd)])) X116 hx rfl rfl rfl (pc0 := 199) (pc' := 202) (same := true) rfl (hb hby at_199) rfl (decide_eq_true rfl) (by decide) (by decide) ?_
        show Steps p.tables e below (T116.setTop (mkF m 202 #[.val (.int p1), .val (.int p2), .val (.int p3), .val (.int p4), .val (.int p5), .val (.ref xd), .val (.ref xo), .val (.ref x1), .val (.ref x2), .val (.int ((p5 &&& (255 : Int32)) + (1 : Int32))), .val (.ref b105), .val (.int (1 : Int32)), .val (.int (1 : Int32)), .val (.int (1 : Int32))] [])) _
        refine XS.iconst X116.here hx rfl (hb hby at_202) ?_
        refine XS.goto X116.here hx rfl (pc0 := 203) (pc' := 207) rfl (hb hby at_203) (by decide) (by decide) ?_
        refine XS.istore X116.here hx rfl (hb hby at_207) rfl (l' := #[.val (.int p1), .val (.int p2), .val (.int p3), .val (.int p4), .val (.int p5), .val (.ref xd), .val (.ref xo), .val (.ref x1), .val (.ref x2), .val (.int ((p5 &&& (255 : Int32)) + (1 : Int32))), .val (.ref b105), .val (.int (1 : Int32)), .val (.int (1 : Int32)), .val (.int (1 : Int32))]) rfl ?_
        refine XS.iload X116.here hx rfl (hb hby at_209) rfl ?_
        show Steps p.tables e below (T116.setTop (mkF m 211 #[.val (.int p1), .val (.int p2), .val (.int p3), .val (.int p4), .val (.int p5), .val (.ref xd), .val (.ref xo), .val (.ref x1), .val (.ref x2), .val (.int ((p5 &&& (255 : Int32)) + (1 : Int32))), .val (.ref b105), .val (.int (1 : Int32)), .val (.int (1 : Int32)), .val (.int (1 : Int32))] [(.int (1 : Int32))])) _
        exact retOut X116 hx (t := .boolean) (i := .ireturn) Bd.returns rfl (Or.inl ⟨rfl, Or.inr (Or.inl rfl), _, rfl⟩) (hb hby at_211) hr
      · show Q_law Z p1 p2 p3 p4 p5 z0 z1 z2 z3 z4 z5 h0 n0 _ T116.heap _
        rw [e116]
        exact ⟨rfl, N116⟩
    · obtain ⟨cq117, kq117, q117a, q117b, q117c⟩ := isOf hZ e112 Es109
      obtain ⟨_, _, ⟨T117, L117, k117, n117⟩, -, X117, ⟨Lc117, hQ117, l117, y117, z117⟩, st117⟩ := X112.virtualBack hx (y := (⟨"com/example/decisions_to_verdict/decisionstoverdict/Combination$Unless", "take", "(Lcom/example/decisions_to_verdict/decisionstoverdict/Decision;)V"⟩ : MethodName)) (z := (⟨"com/example/decisions_to_verdict/decisionstoverdict/Combination$Unless", "take", "(Lcom/example/decisions_to_verdict/decisionstoverdict/Decision;)V"⟩ : MethodName)) hown (mvT hZ (hw _ (List.mem_of_getElem? (i := 44) rfl))) (mvT hZ (hw _ (List.mem_of_getElem? (i := 45) rfl))) (notFace_of_selects (args := #[]) (mvT hZ (hw _ (List.mem_of_getElem? (i := 47) rfl)))) (mvT hZ (hw _ (List.mem_of_getElem? (i := 47) rfl))) (mvT hZ (hw _ (List.mem_of_getElem? (i := 46) rfl))) (by decide) (backOf (W := 0) (rm_tn l Z a0 hw [] b105 x2 xd T109.heap n0 O109 Ft109 hs_t2) hZ (hw _ (List.mem_of_getElem? (i := 48) rfl)) (hw _ (List.mem_of_getElem? (i := 16) rfl)) (by decide) (by decide)) q117a q117c (g := (mkF m 138 #[.val (.int p1), .val (.int p2), .val (.int p3), .val (.int p4), .val (.int p5), .val (.ref xd), .val (.ref xo), .val (.ref x1), .val (.ref x2), .val (.int ((p5 &&& (255 : Int32)) + (1 : Int32))), .val (.ref b105), .val (.int (1 : Int32)), .val (.int (1 : Int32)), .unset] [(.ref x2), (.ref b105)])) rfl (by rw [hml]; rfl) (Steps.refl _) (argsL := [(.ref x2)]) (rest := []) (lenOf pd_1 rfl) rfl (by show 2 * 0 + _ ≤ _; exact Nat.le_of_eq rfl) (hb hby at_138) (fun _ _ => ⟨rfl, e112, (by decide : 1 + 0 ≤ _), (by decide : 5 + 0 ≤ _)⟩)
      dsimp only [Pt.U, Pt.locs, Pt.cells, Pt.slots] at X117 l117 y117 z117 st117 hQ117
      subst l117 y117 z117
      obtain ⟨rfl, Nq117, e117⟩ := hQ117
      have N117 := Fr.app N112 Nq117
      obtain ⟨cq118, kq118, q118a, q118b, q118c⟩ := isOf hZ e117 Es109
      obtain ⟨_, _, ⟨T118, L118, k118, n118⟩, -, X118, ⟨Lc118, hQ118, l118, y118, z118⟩, st118⟩ := X117.virtualBackUp hx (x := (⟨"com/example/decisions_to_verdict/decisionstoverdict/Combination$Unless", "isSettled", "()Z"⟩ : MethodName)) (y := (⟨"com/example/decisions_to_verdict/decisionstoverdict/Combination", "isSettled", "()Z"⟩ : MethodName)) (owner := "com/example/decisions_to_verdict/decisionstoverdict/Combination") hown (mvT hZ (hw _ (List.mem_of_getElem? (i := 34) rfl))) (mvT hZ (hw _ (List.mem_of_getElem? (i := 35) rfl))) (mvT hZ (hw _ (List.mem_of_getElem? (i := 36) rfl))) (by decide) (mvT hZ (hw _ (List.mem_of_getElem? (i := 38) rfl))) (mvT hZ (hw _ (List.mem_of_getElem? (i := 37) rfl))) (backOf (W := 0) (rm_is1 l Z a0 hw [] b105 xd T109.heap n0 O109 Fs109) hZ (hw _ (List.mem_of_getElem? (i := 39) rfl)) (hw _ (List.mem_of_getElem? (i := 23) rfl)) (by decide) (by decide)) q118a q118c (g := (mkF m 167 #[.val (.int p1), .val (.int p2), .val (.int p3), .val (.int p4), .val (.int p5), .val (.ref xd), .val (.ref xo), .val (.ref x1), .val (.ref x2), .val (.int ((p5 &&& (255 : Int32)) + (1 : Int32))), .val (.ref b105), .val (.int (1 : Int32)), .val (.int (1 : Int32)), .val (.int (1 : Int32))] [(.ref b105)])) rfl (by rw [hml]; rfl) (Steps.refl _) (argsL := []) (rest := []) (lenOf pd_2 rfl) rfl (by show 2 * 0 + _ ≤ _; exact Nat.le_of_eq rfl) (hb hby at_167) (fun _ _ => ⟨rfl, e117, (by decide : 1 + 0 ≤ _), (by decide : 5 + 0 ≤ _)⟩)
      dsimp only [Pt.U, Pt.locs, Pt.cells, Pt.slots] at X118 l118 y118 z118 st118 hQ118
      subst l118 y118 z118
      obtain ⟨rfl, Nq118, e118⟩ := hQ118
      have N118 := Fr.app N117 Nq118
      obtain ⟨cq119, kq119, q119a, q119b, q119c⟩ := isOf hZ e118 Es109
      obtain ⟨_, _, ⟨T119, L119, k119, n119⟩, -, X119, ⟨Lc119, hQ119, l119, y119, z119⟩, st119⟩ := X118.virtualBackUp hx (x := (⟨"com/example/decisions_to_verdict/decisionstoverdict/Combination$Unless", "verdict", "()Lcom/example/decisions_to_verdict/decisionstoverdict/Decision;"⟩ : MethodName)) (y := (⟨"com/example/decisions_to_verdict/decisionstoverdict/Combination", "verdict", "()Lcom/example/decisions_to_verdict/decisionstoverdict/Decision;"⟩ : MethodName)) (owner := "com/example/decisions_to_verdict/decisionstoverdict/Combination") hown (mvT hZ (hw _ (List.mem_of_getElem? (i := 57) rfl))) (mvT hZ (hw _ (List.mem_of_getElem? (i := 58) rfl))) (mvT hZ (hw _ (List.mem_of_getElem? (i := 59) rfl))) (by decide) (mvT hZ (hw _ (List.mem_of_getElem? (i := 61) rfl))) (mvT hZ (hw _ (List.mem_of_getElem? (i := 60) rfl))) (backOf (W := 0) (rm_ve l Z a0 hw [] b105 xd T109.heap n0 O109 Es109 Fs109) hZ (hw _ (List.mem_of_getElem? (i := 62) rfl)) (hw _ (List.mem_of_getElem? (i := 23) rfl)) (by decide) (by decide)) q119a q119c (g := (mkF m 194 #[.val (.int p1), .val (.int p2), .val (.int p3), .val (.int p4), .val (.int p5), .val (.ref xd), .val (.ref xo), .val (.ref x1), .val (.ref x2), .val (.int ((p5 &&& (255 : Int32)) + (1 : Int32))), .val (.ref b105), .val (.int (1 : Int32)), .val (.int (1 : Int32)), .val (.int (1 : Int32))] [(.ref b105)])) rfl (by rw [hml]; rfl) (Steps.refl _) (argsL := []) (rest := []) (lenOf pd_5 rfl) rfl (by show 2 * 0 + _ ≤ _; exact Nat.le_of_eq rfl) (hb hby at_194) (fun _ _ => ⟨rfl, e118, (by decide : 1 + 0 ≤ _), (by decide : 5 + 0 ≤ _)⟩)
      dsimp only [Pt.U, Pt.locs, Pt.cells, Pt.slots] at X119 l119 y119 z119 st119 hQ119
      subst l119 y119 z119
      obtain ⟨rfl, Nq119, e119⟩ := hQ119
      have N119 := Fr.app N118 Nq119
      obtain ⟨fs, hr, hrun, hended, hW, hsame⟩ := X119.leave (v := some (.int (1 : Int32))) (fun h => by rw [Bd.returns] at h; cases h)
      refine ⟨_, _, pre113 _ ?_, hrun, hended, _, _, rfl, ?_, ⟨_, rfl⟩, hW, hsame.mono (by decide) (by decide)⟩
      · refine st117.trans ?_
        show Steps p.tables e below (T117.setTop (mkF m 141 #[.val (.int p1), .val (.int p2), .val (.int p3), .val (.int p4), .val (.int p5), .val (.ref xd), .val (.ref xo), .val (.ref x1), .val (.ref x2), .val (.int ((p5 &&& (255 : Int32)) + (1 : Int32))), .val (.ref b105), .val (.int (1 : Int32)), .val (.int (1 : Int32)), .unset] [])) _
        refine XS.iload X117.here hx rfl (hb hby at_141) rfl ?_
        refine XS.ifYes X117.here hx rfl (pc0 := 143) (pc' := 153) rfl (hb hby at_143) rfl ((if0 _ _).trans (feq (by decide : ¬ ((1 : Int32) = (0 : Int32)))).2) (by decide) (by decide) ?_
        refine XS.iconst X117.here hx rfl (hb hby at_153) ?_
        refine XS.goto X117.here hx rfl (pc0 := 154) (pc' := 158) rfl (hb hby at_154) (by decide) (by decide) ?_
        show Steps p.tables e below (T117.setTop (mkF m 158 #[.val (.int p1), .val (.int p2), .val (.int p3), .val (.int p4), .val (.int p5), .val (.ref xd), .val (.ref xo), .val (.ref x1), .val (.ref x2), .val (.int ((p5 &&& (255 : Int32)) + (1 : Int32))), .val (.ref b105), .val (.int (1 : Int32)), .val (.int (1 : Int32)), .unset] [(.int (1 : Int32))])) _
        refine XS.istore X117.here hx rfl (hb hby at_158) rfl (l' := #[.val (.int p1), .val (.int p2), .val (.int p3), .val (.int p4), .val (.int p5), .val (.ref xd), .val (.ref xo), .val (.ref x1), .val (.ref x2), .val (.int ((p5 &&& (255 : Int32)) + (1 : Int32))), .val (.ref b105), .val (.int (1 : Int32)), .val (.int (1 : Int32)), .val (.int (1 : Int32))]) rfl ?_
        refine XS.iload X117.here hx rfl (hb hby at_160) rfl ?_
        refine XS.ifNo X117.here hx rfl (hb hby at_162) rfl ((if0 _ _).trans (feq (by decide : ¬ ((1 : Int32) = (0 : Int32)))).1) ?_
        refine XS.aload X117.here hx rfl (hb hby at_165) rfl rfl ?_
        show Steps p.tables e below (T117.setTop (mkF m 167 #[.val (.int p1), .val (.int p2), .val (.int p3), .val (.int p4), .val (.int p5), .val (.ref xd), .val (.ref xo), .val (.ref x1), .val (.ref x2), .val (.int ((p5 &&& (255 : Int32)) + (1 : Int32))), .val (.ref b105), .val (.int (1 : Int32)), .val (.int (1 : Int32)), .val (.int (1 : Int32))] [(.ref b105)])) _
        refine st118.trans ?_
        show Steps p.tables e below (T118.setTop (mkF m 170 #[.val (.int p1), .val (.int p2), .val (.int p3), .val (.int p4), .val (.int p5), .val (.ref xd), .val (.ref xo), .val (.ref x1), .val (.ref x2), .val (.int ((p5 &&& (255 : Int32)) + (1 : Int32))), .val (.ref b105), .val (.int (1 : Int32)), .val (.int (1 : Int32)), .val (.int (1 : Int32))] [(.int (1 : Int32))])) _
        refine XS.iload X118.here hx rfl (hb hby at_170) rfl ?_
        refine XS.icmpNo X118.here hx rfl (hb hby at_172) rfl (teq (by decide : (1 : Int32) = (1 : Int32))).2 ?_
        refine XS.iconst X118.here hx rfl (hb hby at_175) ?_
        refine XS.goto X118.here hx rfl (pc0 := 176) (pc' := 180) rfl (hb hby at_176) (by decide) (by decide) ?_
        show Steps p.tables e below (T118.setTop (mkF m 180 #[.val (.int p1), .val (.int p2), .val (.int p3), .val (.int p4), .val (.int p5), .val (.ref xd), .val (.ref xo), .val (.ref x1), .val (.ref x2), .val (.int ((p5 &&& (255 : Int32)) + (1 : Int32))), .val (.ref b105), .val (.int (1 : Int32)), .val (.int (1 : Int32)), .val (.int (1 : Int32))] [(.int (1 : Int32))])) _
        refine XS.istore X118.here hx rfl (hb hby at_180) rfl (l' := #[.val (.int p1), .val (.int p2), .val (.int p3), .val (.int p4), .val (.int p5), .val (.ref xd), .val (.ref xo), .val (.ref x1), .val (.ref x2), .val (.int ((p5 &&& (255 : Int32)) + (1 : Int32))), .val (.ref b105), .val (.int (1 : Int32)), .val (.int (1 : Int32)), .val (.int (1 : Int32))]) rfl ?_
        refine XS.iload X118.here hx rfl (hb hby at_182) rfl ?_
        refine XS.ifNo X118.here hx rfl (hb hby at_184) rfl ((if0 _ _).trans (feq (by decide : ¬ ((1 : Int32) = (0 : Int32)))).1) ?_
        refine XS.iload X118.here hx rfl (hb hby at_187) rfl ?_
        show Steps p.tables e below (T118.setTop (mkF m 189 #[.val (.int p1), .val (.int p2), .val (.int p3), .val (.int p4), .val (.int p5), .val (.ref xd), .val (.ref xo), .val (.ref x1), .val (.ref x2), .val (.int ((p5 &&& (255 : Int32)) + (1 : Int32))), .val (.ref b105), .val (.int (1 : Int32)), .val (.int (1 : Int32)), .val (.int (1 : Int32))] [(.int (1 : Int32))])) _
        refine XS.ifNo X118.here hx rfl (hb hby at_189) rfl ((if0 _ _).trans (feq (by decide : ¬ ((1 : Int32) = (0 : Int32)))).1) ?_
        refine XS.aload X118.here hx rfl (hb hby at_192) rfl rfl ?_
        show Steps p.tables e below (T118.setTop (mkF m 194 #[.val (.int p1), .val (.int p2), .val (.int p3), .val (.int p4), .val (.int p5), .val (.ref xd), .val (.ref xo), .val (.ref x1), .val (.ref x2), .val (.int ((p5 &&& (255 : Int32)) + (1 : Int32))), .val (.ref b105), .val (.int (1 : Int32)), .val (.int (1 : Int32)), .val (.int (1 : Int32))] [(.ref b105)])) _
        refine st119.trans ?_
        show Steps p.tables e below (T119.setTop (mkF m 197 #[.val (.int p1), .val (.int p2), .val (.int p3), .val (.int p4), .val (.int p5), .val (.ref xd), .val (.ref xo), .val (.ref x1), .val (.ref x2), .val (.int ((p5 &&& (255 : Int32)) + (1 : Int32))), .val (.ref b105), .val (.int (1 : Int32)), .val (.int (1 : Int32)), .val (.int (1 : Int32))] [(.ref xd)])) _
        refine XS.aload X119.here hx rfl (hb hby at_197) rfl rfl ?_
        show Steps p.tables e below (T119.setTop (mkF m 199 #[.val (.int p1), .val (.int p2), .val (.int p3), .val (.int p4), .val (.int p5), .val (.ref xd), .val (.ref xo), .val (.ref x1), .val (.ref x2), .val (.int ((p5 &&& (255 : Int32)) + (1 : Int32))), .val (.ref b105), .val (.int (1 : Int32)), .val (.int (1 : Int32)), .val (.int (1 : Int32))] [(.ref xd), (.ref xd)])) _
        refine Jvm.RoadKit.acmp (g := (mkF m 199 #[.val (.int p1), .val (.int p2), .val (.int p3), .val (.int p4), .val (.int p5), .val (.ref xd), .val (.ref xo), .val (.ref x1), .val (.ref x2), .val (.int ((p5 &&& (255 : Int32)) + (1 : Int32))), .val (.ref b105), .val (.int (1 : Int32)), .val (.int (1 : Int32)), .val (.int (1 : Int32))] [(.ref xd), (.ref xd)])) X119 hx rfl rfl rfl (pc0 := 199) (pc' := 202) (same := true) rfl (hb hby at_199) rfl (decide_eq_true rfl) (by decide) (by decide) ?_
        show Steps p.tables e below (T119.setTop (mkF m 202 #[.val (.int p1), .val (.int p2), .val (.int p3), .val (.int p4), .val (.int p5), .val (.ref xd), .val (.ref xo), .val (.ref x1), .val (.ref x2), .val (.int ((p5 &&& (255 : Int32)) + (1 : Int32))), .val (.ref b105), .val (.int (1 : Int32)), .val (.int (1 : Int32)), .val (.int (1 : Int32))] [])) _
        refine XS.iconst X119.here hx rfl (hb hby at_202) ?_
        refine XS.goto X119.here hx rfl (pc0 := 203) (pc' := 207) rfl (hb hby at_203) (by decide) (by decide) ?_
        refine XS.istore X119.here hx rfl (hb hby at_207) rfl (l' := #[.val (.int p1), .val (.int p2), .val (.int p3), .val (.int p4), .val (.int p5), .val (.ref xd), .val (.ref xo), .val (.ref x1), .val (.ref x2), .val (.int ((p5 &&& (255 : Int32)) + (1 : Int32))), .val (.ref b105), .val (.int (1 : Int32)), .val (.int (1 : Int32)), .val (.int (1 : Int32))]) rfl ?_
        refine XS.iload X119.here hx rfl (hb hby at_209) rfl ?_
        show Steps p.tables e below (T119.setTop (mkF m 211 #[.val (.int p1), .val (.int p2), .val (.int p3), .val (.int p4), .val (.int p5), .val (.ref xd), .val (.ref xo), .val (.ref x1), .val (.ref x2), .val (.int ((p5 &&& (255 : Int32)) + (1 : Int32))), .val (.ref b105), .val (.int (1 : Int32)), .val (.int (1 : Int32)), .val (.int (1 : Int32))] [(.int (1 : Int32))])) _
        exact retOut X119 hx (t := .boolean) (i := .ireturn) Bd.returns rfl (Or.inl ⟨rfl, Or.inr (Or.inl rfl), _, rfl⟩) (hb hby at_211) hr
      · show Q_law Z p1 p2 p3 p4 p5 z0 z1 z2 z3 z4 z5 h0 n0 _ T119.heap _
        rw [e119]
        exact ⟨rfl, N119⟩
  · obtain ⟨cq120, kq120, q120a, q120b, q120c⟩ := isOf hZ e107 Eu106
    obtain ⟨_, _, ⟨T120, L120, k120, n120⟩, -, X120, ⟨Lc120, hQ120, l120, y120, z120⟩, st120⟩ := X107.virtualBack hx (y := (⟨"com/example/decisions_to_verdict/decisionstoverdict/Combination$Unless", "take", "(Lcom/example/decisions_to_verdict/decisionstoverdict/Decision;)V"⟩ : MethodName)) (z := (⟨"com/example/decisions_to_verdict/decisionstoverdict/Combination$Unless", "take", "(Lcom/example/decisions_to_verdict/decisionstoverdict/Decision;)V"⟩ : MethodName)) hown (mvT hZ (hw _ (List.mem_of_getElem? (i := 44) rfl))) (mvT hZ (hw _ (List.mem_of_getElem? (i := 45) rfl))) (notFace_of_selects (args := #[]) (mvT hZ (hw _ (List.mem_of_getElem? (i := 47) rfl)))) (mvT hZ (hw _ (List.mem_of_getElem? (i := 47) rfl))) (mvT hZ (hw _ (List.mem_of_getElem? (i := 46) rfl))) (by decide) (backOf (W := 0) (rm_tn l Z a0 hw [] b105 x1 xd T106.heap n0 O106 Fu3_106 hs_t1) hZ (hw _ (List.mem_of_getElem? (i := 48) rfl)) (hw _ (List.mem_of_getElem? (i := 16) rfl)) (by decide) (by decide)) q120a q120c (g := (mkF m 68 #[.val (.int p1), .val (.int p2), .val (.int p3), .val (.int p4), .val (.int p5), .val (.ref xd), .val (.ref xo), .val (.ref x1), .val (.ref x2), .val (.int ((p5 &&& (255 : Int32)) + (1 : Int32))), .val (.ref b105), .val (.int (1 : Int32)), .unset, .unset] [(.ref x1), (.ref b105)])) rfl (by rw [hml]; rfl) (Steps.refl _) (argsL := [(.ref x1)]) (rest := []) (lenOf pd_1 rfl) rfl (by show 2 * 0 + _ ≤ _; exact Nat.le_of_eq rfl) (hb hby at_68) (fun _ _ => ⟨rfl, e107, (by decide : 1 + 0 ≤ _), (by decide : 5 + 0 ≤ _)⟩)
    dsimp only [Pt.U, Pt.locs, Pt.cells, Pt.slots] at X120 l120 y120 z120 st120 hQ120
    subst l120 y120 z120
    obtain ⟨rfl, Nq120, e120⟩ := hQ120
    have N120 := Fr.app N107 Nq120
    have hc121 : ¬ (x1 = xd) := hs_t1
    obtain ⟨cq122, kq122, q122a, q122b, q122c⟩ := isOf hZ e120 Eu106
    obtain ⟨_, _, ⟨T122, L122, k122, n122⟩, -, X122, ⟨Lc122, hQ122, l122, y122, z122⟩, st122⟩ := X120.virtualBackUp hx (x := (⟨"com/example/decisions_to_verdict/decisionstoverdict/Combination$Unless", "isSettled", "()Z"⟩ : MethodName)) (y := (⟨"com/example/decisions_to_verdict/decisionstoverdict/Combination", "isSettled", "()Z"⟩ : MethodName)) (owner := "com/example/decisions_to_verdict/decisionstoverdict/Combination") hown (mvT hZ (hw _ (List.mem_of_getElem? (i := 34) rfl))) (mvT hZ (hw _ (List.mem_of_getElem? (i := 35) rfl))) (mvT hZ (hw _ (List.mem_of_getElem? (i := 36) rfl))) (by decide) (mvT hZ (hw _ (List.mem_of_getElem? (i := 38) rfl))) (mvT hZ (hw _ (List.mem_of_getElem? (i := 37) rfl))) (backOf (W := 0) (rm_is0 l Z a0 hw [] b105 ((p5 &&& (255 : Int32)) + (1 : Int32)) T106.heap n0 O106 Fu2_106 Fu1_106 Fu0_106 hcz) hZ (hw _ (List.mem_of_getElem? (i := 39) rfl)) (hw _ (List.mem_of_getElem? (i := 23) rfl)) (by decide) (by decide)) q122a q122c (g := (mkF m 92 #[.val (.int p1), .val (.int p2), .val (.int p3), .val (.int p4), .val (.int p5), .val (.ref xd), .val (.ref xo), .val (.ref x1), .val (.ref x2), .val (.int ((p5 &&& (255 : Int32)) + (1 : Int32))), .val (.ref b105), .val (.int (1 : Int32)), .val (.int (0 : Int32)), .unset] [(.ref b105)])) rfl (by rw [hml]; rfl) (Steps.refl _) (argsL := []) (rest := []) (lenOf pd_2 rfl) rfl (by show 2 * 0 + _ ≤ _; exact Nat.le_of_eq rfl) (hb hby at_92) (fun _ _ => ⟨rfl, e120, (by decide : 1 + 0 ≤ _), (by decide : 5 + 0 ≤ _)⟩)
    dsimp only [Pt.U, Pt.locs, Pt.cells, Pt.slots] at X122 l122 y122 z122 st122 hQ122
    subst l122 y122 z122
    obtain ⟨rfl, Nq122, e122⟩ := hQ122
    have N122 := Fr.app N120 Nq122
    have pre123 : ∀ t, Steps p.tables e below (T122.setTop (mkF m 138 #[.val (.int p1), .val (.int p2), .val (.int p3), .val (.int p4), .val (.int p5), .val (.ref xd), .val (.ref xo), .val (.ref x1), .val (.ref x2), .val (.int ((p5 &&& (255 : Int32)) + (1 : Int32))), .val (.ref b105), .val (.int (1 : Int32)), .val (.int (0 : Int32)), .unset] [(.ref x2), (.ref b105)])) t → Steps p.tables e below (s₁.setTop (entryFrame m #[(.int p1), (.int p2), (.int p3), (.int p4), (.int p5)] maxLocals)) t := fun t kk => pre108 t (by
        refine st120.trans ?_
        show Steps p.tables e below (T120.setTop (mkF m 71 #[.val (.int p1), .val (.int p2), .val (.int p3), .val (.int p4), .val (.int p5), .val (.ref xd), .val (.ref xo), .val (.ref x1), .val (.ref x2), .val (.int ((p5 &&& (255 : Int32)) + (1 : Int32))), .val (.ref b105), .val (.int (1 : Int32)), .unset, .unset] [])) _
        refine XS.aload X120.here hx rfl (hb hby at_71) rfl rfl ?_
        refine XS.aload X120.here hx rfl (hb hby at_73) rfl rfl ?_
        show Steps p.tables e below (T120.setTop (mkF m 75 #[.val (.int p1), .val (.int p2), .val (.int p3), .val (.int p4), .val (.int p5), .val (.ref xd), .val (.ref xo), .val (.ref x1), .val (.ref x2), .val (.int ((p5 &&& (255 : Int32)) + (1 : Int32))), .val (.ref b105), .val (.int (1 : Int32)), .unset, .unset] [(.ref xd), (.ref x1)])) _
        refine Jvm.RoadKit.acmp (g := (mkF m 75 #[.val (.int p1), .val (.int p2), .val (.int p3), .val (.int p4), .val (.int p5), .val (.ref xd), .val (.ref xo), .val (.ref x1), .val (.ref x2), .val (.int ((p5 &&& (255 : Int32)) + (1 : Int32))), .val (.ref b105), .val (.int (1 : Int32)), .unset, .unset] [(.ref xd), (.ref x1)])) X120 hx rfl rfl rfl (pc0 := 75) (pc' := 82) (same := false) rfl (hb hby at_75) rfl (decide_eq_false fun q => hc121 (Value.ref.inj q)) (by decide) (by decide) ?_
        show Steps p.tables e below (T120.setTop (mkF m 82 #[.val (.int p1), .val (.int p2), .val (.int p3), .val (.int p4), .val (.int p5), .val (.ref xd), .val (.ref xo), .val (.ref x1), .val (.ref x2), .val (.int ((p5 &&& (255 : Int32)) + (1 : Int32))), .val (.ref b105), .val (.int (1 : Int32)), .unset, .unset] [])) _
        refine XS.iconst X120.here hx rfl (hb hby at_82) ?_
        refine XS.istore X120.here hx rfl (hb hby at_83) rfl (l' := #[.val (.int p1), .val (.int p2), .val (.int p3), .val (.int p4), .val (.int p5), .val (.ref xd), .val (.ref xo), .val (.ref x1), .val (.ref x2), .val (.int ((p5 &&& (255 : Int32)) + (1 : Int32))), .val (.ref b105), .val (.int (1 : Int32)), .val (.int (0 : Int32)), .unset]) rfl ?_
        refine XS.iload X120.here hx rfl (hb hby at_85) rfl ?_
        refine XS.ifNo X120.here hx rfl (hb hby at_87) rfl ((if0 _ _).trans (feq (by decide : ¬ ((1 : Int32) = (0 : Int32)))).1) ?_
        show Steps p.tables e below (T120.setTop (mkF m 90 #[.val (.int p1), .val (.int p2), .val (.int p3), .val (.int p4), .val (.int p5), .val (.ref xd), .val (.ref xo), .val (.ref x1), .val (.ref x2), .val (.int ((p5 &&& (255 : Int32)) + (1 : Int32))), .val (.ref b105), .val (.int (1 : Int32)), .val (.int (0 : Int32)), .unset] [])) _
        refine XS.aload X120.here hx rfl (hb hby at_90) rfl rfl ?_
        show Steps p.tables e below (T120.setTop (mkF m 92 #[.val (.int p1), .val (.int p2), .val (.int p3), .val (.int p4), .val (.int p5), .val (.ref xd), .val (.ref xo), .val (.ref x1), .val (.ref x2), .val (.int ((p5 &&& (255 : Int32)) + (1 : Int32))), .val (.ref b105), .val (.int (1 : Int32)), .val (.int (0 : Int32)), .unset] [(.ref b105)])) _
        refine st122.trans ?_
        show Steps p.tables e below (T122.setTop (mkF m 95 #[.val (.int p1), .val (.int p2), .val (.int p3), .val (.int p4), .val (.int p5), .val (.ref xd), .val (.ref xo), .val (.ref x1), .val (.ref x2), .val (.int ((p5 &&& (255 : Int32)) + (1 : Int32))), .val (.ref b105), .val (.int (1 : Int32)), .val (.int (0 : Int32)), .unset] [(.int (0 : Int32))])) _
        refine XS.iload X122.here hx rfl (hb hby at_95) rfl ?_
        refine XS.icmpNo X122.here hx rfl (hb hby at_97) rfl (teq (by decide : (0 : Int32) = (0 : Int32))).2 ?_
        refine XS.iconst X122.here hx rfl (hb hby at_100) ?_
        refine XS.goto X122.here hx rfl (pc0 := 101) (pc' := 105) rfl (hb hby at_101) (by decide) (by decide) ?_
        show Steps p.tables e below (T122.setTop (mkF m 105 #[.val (.int p1), .val (.int p2), .val (.int p3), .val (.int p4), .val (.int p5), .val (.ref xd), .val (.ref xo), .val (.ref x1), .val (.ref x2), .val (.int ((p5 &&& (255 : Int32)) + (1 : Int32))), .val (.ref b105), .val (.int (1 : Int32)), .val (.int (0 : Int32)), .unset] [(.int (1 : Int32))])) _
        refine XS.istore X122.here hx rfl (hb hby at_105) rfl (l' := #[.val (.int p1), .val (.int p2), .val (.int p3), .val (.int p4), .val (.int p5), .val (.ref xd), .val (.ref xo), .val (.ref x1), .val (.ref x2), .val (.int ((p5 &&& (255 : Int32)) + (1 : Int32))), .val (.ref b105), .val (.int (1 : Int32)), .val (.int (0 : Int32)), .unset]) rfl ?_
        refine XS.iload X122.here hx rfl (hb hby at_107) rfl ?_
        refine XS.ifNo X122.here hx rfl (hb hby at_109) rfl ((if0 _ _).trans (feq (by decide : ¬ ((1 : Int32) = (0 : Int32)))).1) ?_
        refine XS.iload X122.here hx rfl (hb hby at_112) rfl ?_
        show Steps p.tables e below (T122.setTop (mkF m 114 #[.val (.int p1), .val (.int p2), .val (.int p3), .val (.int p4), .val (.int p5), .val (.ref xd), .val (.ref xo), .val (.ref x1), .val (.ref x2), .val (.int ((p5 &&& (255 : Int32)) + (1 : Int32))), .val (.ref b105), .val (.int (1 : Int32)), .val (.int (0 : Int32)), .unset] [(.int (0 : Int32))])) _
        refine XS.ifYes X122.here hx rfl (pc0 := 114) (pc' := 134) rfl (hb hby at_114) rfl ((if0 _ _).trans (teq (by decide : (0 : Int32) = (0 : Int32))).1) (by decide) (by decide) ?_
        refine XS.aload X122.here hx rfl (hb hby at_134) rfl rfl ?_
        refine XS.aload X122.here hx rfl (hb hby at_136) rfl rfl ?_
        show Steps p.tables e below (T122.setTop (mkF m 138 #[.val (.int p1), .val (.int p2), .val (.int p3), .val (.int p4), .val (.int p5), .val (.ref xd), .val (.ref xo), .val (.ref x1), .val (.ref x2), .val (.int ((p5 &&& (255 : Int32)) + (1 : Int32))), .val (.ref b105), .val (.int (1 : Int32)), .val (.int (0 : Int32)), .unset] [(.ref x2), (.ref b105)])) _
        exact kk)
    by_cases hs_t2 : x2 = xd
    · obtain ⟨cq124, kq124, q124a, q124b, q124c⟩ := isOf hZ e122 Eu106
      obtain ⟨_, _, ⟨T124, L124, k124, n124⟩, -, X124, ⟨Lc124, hQ124, l124, y124, z124⟩, st124⟩ := X122.virtualBack hx (y := (⟨"com/example/decisions_to_verdict/decisionstoverdict/Combination$Unless", "take", "(Lcom/example/decisions_to_verdict/decisionstoverdict/Decision;)V"⟩ : MethodName)) (z := (⟨"com/example/decisions_to_verdict/decisionstoverdict/Combination$Unless", "take", "(Lcom/example/decisions_to_verdict/decisionstoverdict/Decision;)V"⟩ : MethodName)) hown (mvT hZ (hw _ (List.mem_of_getElem? (i := 44) rfl))) (mvT hZ (hw _ (List.mem_of_getElem? (i := 45) rfl))) (notFace_of_selects (args := #[]) (mvT hZ (hw _ (List.mem_of_getElem? (i := 47) rfl)))) (mvT hZ (hw _ (List.mem_of_getElem? (i := 47) rfl))) (mvT hZ (hw _ (List.mem_of_getElem? (i := 46) rfl))) (by decide) (backOf (W := 0) (rm_ty l Z a0 hw [] b105 x2 xd (.null) T106.heap n0 O106 Eu106 Fu2_106 Fu3_106 g_b105 hs_t2) hZ (hw _ (List.mem_of_getElem? (i := 48) rfl)) (hw _ (List.mem_of_getElem? (i := 16) rfl)) (by decide) (by decide)) q124a q124c (g := (mkF m 138 #[.val (.int p1), .val (.int p2), .val (.int p3), .val (.int p4), .val (.int p5), .val (.ref xd), .val (.ref xo), .val (.ref x1), .val (.ref x2), .val (.int ((p5 &&& (255 : Int32)) + (1 : Int32))), .val (.ref b105), .val (.int (1 : Int32)), .val (.int (0 : Int32)), .unset] [(.ref x2), (.ref b105)])) rfl (by rw [hml]; rfl) (Steps.refl _) (argsL := [(.ref x2)]) (rest := []) (lenOf pd_1 rfl) rfl (by show 2 * 0 + _ ≤ _; exact Nat.le_of_eq rfl) (hb hby at_138) (fun _ _ => ⟨rfl, e122, (by decide : 1 + 0 ≤ _), (by decide : 5 + 0 ≤ _)⟩)
      dsimp only [Pt.U, Pt.locs, Pt.cells, Pt.slots] at X124 l124 y124 z124 st124 hQ124
      subst l124 y124 z124
      obtain ⟨rfl, Nq124, Kq124, Es124, Fs124, Ft124⟩ := hQ124
      have N124 := Fr.app N122 Nq124
      have O124 := O106.keep Kq124 (allS g_b105 all0)
      have hc125 : x2 = xd := hs_t2
      obtain ⟨cq126, kq126, q126a, q126b, q126c⟩ := isOf hZ rfl Es124
      obtain ⟨_, _, ⟨T126, L126, k126, n126⟩, -, X126, ⟨Lc126, hQ126, l126, y126, z126⟩, st126⟩ := X124.virtualBackUp hx (x := (⟨"com/example/decisions_to_verdict/decisionstoverdict/Combination$Unless", "isSettled", "()Z"⟩ : MethodName)) (y := (⟨"com/example/decisions_to_verdict/decisionstoverdict/Combination", "isSettled", "()Z"⟩ : MethodName)) (owner := "com/example/decisions_to_verdict/decisionstoverdict/Combination") hown (mvT hZ (hw _ (List.mem_of_getElem? (i := 34) rfl))) (mvT hZ (hw _ (List.mem_of_getElem? (i := 35) rfl))) (mvT hZ (hw _ (List.mem_of_getElem? (i := 36) rfl))) (by decide) (mvT hZ (hw _ (List.mem_of_getElem? (i := 38) rfl))) (mvT hZ (hw _ (List.mem_of_getElem? (i := 37) rfl))) (backOf (W := 0) (rm_is1 l Z a0 hw [] b105 xd T124.heap n0 O124 Fs124) hZ (hw _ (List.mem_of_getElem? (i := 39) rfl)) (hw _ (List.mem_of_getElem? (i := 23) rfl)) (by decide) (by decide)) q126a q126c (g := (mkF m 167 #[.val (.int p1), .val (.int p2), .val (.int p3), .val (.int p4), .val (.int p5), .val (.ref xd), .val (.ref xo), .val (.ref x1), .val (.ref x2), .val (.int ((p5 &&& (255 : Int32)) + (1 : Int32))), .val (.ref b105), .val (.int (1 : Int32)), .val (.int (0 : Int32)), .val (.int (1 : Int32))] [(.ref b105)])) rfl (by rw [hml]; rfl) (Steps.refl _) (argsL := []) (rest := []) (lenOf pd_2 rfl) rfl (by show 2 * 0 + _ ≤ _; exact Nat.le_of_eq rfl) (hb hby at_167) (fun _ _ => ⟨rfl, rfl, (by decide : 1 + 0 ≤ _), (by decide : 5 + 0 ≤ _)⟩)
      dsimp only [Pt.U, Pt.locs, Pt.cells, Pt.slots] at X126 l126 y126 z126 st126 hQ126
      subst l126 y126 z126
      obtain ⟨rfl, Nq126, e126⟩ := hQ126
      have N126 := Fr.app N124 Nq126
      obtain ⟨cq127, kq127, q127a, q127b, q127c⟩ := isOf hZ e126 Es124
      obtain ⟨_, _, ⟨T127, L127, k127, n127⟩, -, X127, ⟨Lc127, hQ127, l127, y127, z127⟩, st127⟩ := X126.virtualBackUp hx (x := (⟨"com/example/decisions_to_verdict/decisionstoverdict/Combination$Unless", "verdict", "()Lcom/example/decisions_to_verdict/decisionstoverdict/Decision;"⟩ : MethodName)) (y := (⟨"com/example/decisions_to_verdict/decisionstoverdict/Combination", "verdict", "()Lcom/example/decisions_to_verdict/decisionstoverdict/Decision;"⟩ : MethodName)) (owner := "com/example/decisions_to_verdict/decisionstoverdict/Combination") hown (mvT hZ (hw _ (List.mem_of_getElem? (i := 57) rfl))) (mvT hZ (hw _ (List.mem_of_getElem? (i := 58) rfl))) (mvT hZ (hw _ (List.mem_of_getElem? (i := 59) rfl))) (by decide) (mvT hZ (hw _ (List.mem_of_getElem? (i := 61) rfl))) (mvT hZ (hw _ (List.mem_of_getElem? (i := 60) rfl))) (backOf (W := 0) (rm_ve l Z a0 hw [] b105 xd T124.heap n0 O124 Es124 Fs124) hZ (hw _ (List.mem_of_getElem? (i := 62) rfl)) (hw _ (List.mem_of_getElem? (i := 23) rfl)) (by decide) (by decide)) q127a q127c (g := (mkF m 194 #[.val (.int p1), .val (.int p2), .val (.int p3), .val (.int p4), .val (.int p5), .val (.ref xd), .val (.ref xo), .val (.ref x1), .val (.ref x2), .val (.int ((p5 &&& (255 : Int32)) + (1 : Int32))), .val (.ref b105), .val (.int (1 : Int32)), .val (.int (0 : Int32)), .val (.int (1 : Int32))] [(.ref b105)])) rfl (by rw [hml]; rfl) (Steps.refl _) (argsL := []) (rest := []) (lenOf pd_5 rfl) rfl (by show 2 * 0 + _ ≤ _; exact Nat.le_of_eq rfl) (hb hby at_194) (fun _ _ => ⟨rfl, e126, (by decide : 1 + 0 ≤ _), (by decide : 5 + 0 ≤ _)⟩)
      dsimp only [Pt.U, Pt.locs, Pt.cells, Pt.slots] at X127 l127 y127 z127 st127 hQ127
      subst l127 y127 z127
      obtain ⟨rfl, Nq127, e127⟩ := hQ127
      have N127 := Fr.app N126 Nq127
      obtain ⟨fs, hr, hrun, hended, hW, hsame⟩ := X127.leave (v := some (.int (1 : Int32))) (fun h => by rw [Bd.returns] at h; cases h)
      refine ⟨_, _, pre123 _ ?_, hrun, hended, _, _, rfl, ?_, ⟨_, rfl⟩, hW, hsame.mono (by decide) (by decide)⟩
      · refine st124.trans ?_
        show Steps p.tables e below (T124.setTop (mkF m 141 #[.val (.int p1), .val (.int p2), .val (.int p3), .val (.int p4), .val (.int p5), .val (.ref xd), .val (.ref xo), .val (.ref x1), .val (.ref x2), .val (.int ((p5 &&& (255 : Int32)) + (1 : Int32))), .val (.ref b105), .val (.int (1 : Int32)), .val (.int (0 : Int32)), .unset] [])) _
        refine XS.iload X124.here hx rfl (hb hby at_141) rfl ?_
        refine XS.ifNo X124.here hx rfl (hb hby at_143) rfl ((if0 _ _).trans (teq (by decide : (0 : Int32) = (0 : Int32))).2) ?_
        refine XS.aload X124.here hx rfl (hb hby at_146) rfl rfl ?_
        refine XS.aload X124.here hx rfl (hb hby at_148) rfl rfl ?_
        show Steps p.tables e below (T124.setTop (mkF m 150 #[.val (.int p1), .val (.int p2), .val (.int p3), .val (.int p4), .val (.int p5), .val (.ref xd), .val (.ref xo), .val (.ref x1), .val (.ref x2), .val (.int ((p5 &&& (255 : Int32)) + (1 : Int32))), .val (.ref b105), .val (.int (1 : Int32)), .val (.int (0 : Int32)), .unset] [(.ref xd), (.ref x2)])) _
        refine Jvm.RoadKit.acmp (g := (mkF m 150 #[.val (.int p1), .val (.int p2), .val (.int p3), .val (.int p4), .val (.int p5), .val (.ref xd), .val (.ref xo), .val (.ref x1), .val (.ref x2), .val (.int ((p5 &&& (255 : Int32)) + (1 : Int32))), .val (.ref b105), .val (.int (1 : Int32)), .val (.int (0 : Int32)), .unset] [(.ref xd), (.ref x2)])) X124 hx rfl rfl rfl (pc0 := 150) (pc' := 153) (same := true) rfl (hb hby at_150) rfl (decide_eq_true (congrArg Value.ref hc125)) (by decide) (by decide) ?_
        show Steps p.tables e below (T124.setTop (mkF m 153 #[.val (.int p1), .val (.int p2), .val (.int p3), .val (.int p4), .val (.int p5), .val (.ref xd), .val (.ref xo), .val (.ref x1), .val (.ref x2), .val (.int ((p5 &&& (255 : Int32)) + (1 : Int32))), .val (.ref b105), .val (.int (1 : Int32)), .val (.int (0 : Int32)), .unset] [])) _
        refine XS.iconst X124.here hx rfl (hb hby at_153) ?_
        refine XS.goto X124.here hx rfl (pc0 := 154) (pc' := 158) rfl (hb hby at_154) (by decide) (by decide) ?_
        refine XS.istore X124.here hx rfl (hb hby at_158) rfl (l' := #[.val (.int p1), .val (.int p2), .val (.int p3), .val (.int p4), .val (.int p5), .val (.ref xd), .val (.ref xo), .val (.ref x1), .val (.ref x2), .val (.int ((p5 &&& (255 : Int32)) + (1 : Int32))), .val (.ref b105), .val (.int (1 : Int32)), .val (.int (0 : Int32)), .val (.int (1 : Int32))]) rfl ?_
        refine XS.iload X124.here hx rfl (hb hby at_160) rfl ?_
        show Steps p.tables e below (T124.setTop (mkF m 162 #[.val (.int p1), .val (.int p2), .val (.int p3), .val (.int p4), .val (.int p5), .val (.ref xd), .val (.ref xo), .val (.ref x1), .val (.ref x2), .val (.int ((p5 &&& (255 : Int32)) + (1 : Int32))), .val (.ref b105), .val (.int (1 : Int32)), .val (.int (0 : Int32)), .val (.int (1 : Int32))] [(.int (1 : Int32))])) _
        refine XS.ifNo X124.here hx rfl (hb hby at_162) rfl ((if0 _ _).trans (feq (by decide : ¬ ((1 : Int32) = (0 : Int32)))).1) ?_
        refine XS.aload X124.here hx rfl (hb hby at_165) rfl rfl ?_
        show Steps p.tables e below (T124.setTop (mkF m 167 #[.val (.int p1), .val (.int p2), .val (.int p3), .val (.int p4), .val (.int p5), .val (.ref xd), .val (.ref xo), .val (.ref x1), .val (.ref x2), .val (.int ((p5 &&& (255 : Int32)) + (1 : Int32))), .val (.ref b105), .val (.int (1 : Int32)), .val (.int (0 : Int32)), .val (.int (1 : Int32))] [(.ref b105)])) _
        refine st126.trans ?_
        show Steps p.tables e below (T126.setTop (mkF m 170 #[.val (.int p1), .val (.int p2), .val (.int p3), .val (.int p4), .val (.int p5), .val (.ref xd), .val (.ref xo), .val (.ref x1), .val (.ref x2), .val (.int ((p5 &&& (255 : Int32)) + (1 : Int32))), .val (.ref b105), .val (.int (1 : Int32)), .val (.int (0 : Int32)), .val (.int (1 : Int32))] [(.int (1 : Int32))])) _
        refine XS.iload X126.here hx rfl (hb hby at_170) rfl ?_
        refine XS.icmpNo X126.here hx rfl (hb hby at_172) rfl (teq (by decide : (1 : Int32) = (1 : Int32))).2 ?_
        refine XS.iconst X126.here hx rfl (hb hby at_175) ?_
        refine XS.goto X126.here hx rfl (pc0 := 176) (pc' := 180) rfl (hb hby at_176) (by decide) (by decide) ?_
        show Steps p.tables e below (T126.setTop (mkF m 180 #[.val (.int p1), .val (.int p2), .val (.int p3), .val (.int p4), .val (.int p5), .val (.ref xd), .val (.ref xo), .val (.ref x1), .val (.ref x2), .val (.int ((p5 &&& (255 : Int32)) + (1 : Int32))), .val (.ref b105), .val (.int (1 : Int32)), .val (.int (0 : Int32)), .val (.int (1 : Int32))] [(.int (1 : Int32))])) _
        refine XS.istore X126.here hx rfl (hb hby at_180) rfl (l' := #[.val (.int p1), .val (.int p2), .val (.int p3), .val (.int p4), .val (.int p5), .val (.ref xd), .val (.ref xo), .val (.ref x1), .val (.ref x2), .val (.int ((p5 &&& (255 : Int32)) + (1 : Int32))), .val (.ref b105), .val (.int (1 : Int32)), .val (.int (0 : Int32)), .val (.int (1 : Int32))]) rfl ?_
        refine XS.iload X126.here hx rfl (hb hby at_182) rfl ?_
        refine XS.ifNo X126.here hx rfl (hb hby at_184) rfl ((if0 _ _).trans (feq (by decide : ¬ ((1 : Int32) = (0 : Int32)))).1) ?_
        refine XS.iload X126.here hx rfl (hb hby at_187) rfl ?_
        show Steps p.tables e below (T126.setTop (mkF m 189 #[.val (.int p1), .val (.int p2), .val (.int p3), .val (.int p4), .val (.int p5), .val (.ref xd), .val (.ref xo), .val (.ref x1), .val (.ref x2), .val (.int ((p5 &&& (255 : Int32)) + (1 : Int32))), .val (.ref b105), .val (.int (1 : Int32)), .val (.int (0 : Int32)), .val (.int (1 : Int32))] [(.int (1 : Int32))])) _
        refine XS.ifNo X126.here hx rfl (hb hby at_189) rfl ((if0 _ _).trans (feq (by decide : ¬ ((1 : Int32) = (0 : Int32)))).1) ?_
        refine XS.aload X126.here hx rfl (hb hby at_192) rfl rfl ?_
        show Steps p.tables e below (T126.setTop (mkF m 194 #[.val (.int p1), .val (.int p2), .val (.int p3), .val (.int p4), .val (.int p5), .val (.ref xd), .val (.ref xo), .val (.ref x1), .val (.ref x2), .val (.int ((p5 &&& (255 : Int32)) + (1 : Int32))), .val (.ref b105), .val (.int (1 : Int32)), .val (.int (0 : Int32)), .val (.int (1 : Int32))] [(.ref b105)])) _
        refine st127.trans ?_
        show Steps p.tables e below (T127.setTop (mkF m 197 #[.val (.int p1), .val (.int p2), .val (.int p3), .val (.int p4), .val (.int p5), .val (.ref xd), .val (.ref xo), .val (.ref x1), .val (.ref x2), .val (.int ((p5 &&& (255 : Int32)) + (1 : Int32))), .val (.ref b105), .val (.int (1 : Int32)), .val (.int (0 : Int32)), .val (.int (1 : Int32))] [(.ref xd)])) _
        refine XS.aload X127.here hx rfl (hb hby at_197) rfl rfl ?_
        show Steps p.tables e below (T127.setTop (mkF m 199 #[.val (.int p1), .val (.int p2), .val (.int p3), .val (.int p4), .val (.int p5), .val (.ref xd), .val (.ref xo), .val (.ref x1), .val (.ref x2), .val (.int ((p5 &&& (255 : Int32)) + (1 : Int32))), .val (.ref b105), .val (.int (1 : Int32)), .val (.int (0 : Int32)), .val (.int (1 : Int32))] [(.ref xd), (.ref xd)])) _
        refine Jvm.RoadKit.acmp (g := (mkF m 199 #[.val (.int p1), .val (.int p2), .val (.int p3), .val (.int p4), .val (.int p5), .val (.ref xd), .val (.ref xo), .val (.ref x1), .val (.ref x2), .val (.int ((p5 &&& (255 : Int32)) + (1 : Int32))), .val (.ref b105), .val (.int (1 : Int32)), .val (.int (0 : Int32)), .val (.int (1 : Int32))] [(.ref xd), (.ref xd)])) X127 hx rfl rfl rfl (pc0 := 199) (pc' := 202) (same := true) rfl (hb hby at_199) rfl (decide_eq_true rfl) (by decide) (by decide) ?_
        show Steps p.tables e below (T127.setTop (mkF m 202 #[.val (.int p1), .val (.int p2), .val (.int p3), .val (.int p4), .val (.int p5), .val (.ref xd), .val (.ref xo), .val (.ref x1), .val (.ref x2), .val (.int ((p5 &&& (255 : Int32)) + (1 : Int32))), .val (.ref b105), .val (.int (1 : Int32)), .val (.int (0 : Int32)), .val (.int (1 : Int32))] [])) _
        refine XS.iconst X127.here hx rfl (hb hby at_202) ?_
        refine XS.goto X127.here hx rfl (pc0 := 203) (pc' := 207) rfl (hb hby at_203) (by decide) (by decide) ?_
        refine XS.istore X127.here hx rfl (hb hby at_207) rfl (l' := #[.val (.int p1), .val (.int p2), .val (.int p3), .val (.int p4), .val (.int p5), .val (.ref xd), .val (.ref xo), .val (.ref x1), .val (.ref x2), .val (.int ((p5 &&& (255 : Int32)) + (1 : Int32))), .val (.ref b105), .val (.int (1 : Int32)), .val (.int (0 : Int32)), .val (.int (1 : Int32))]) rfl ?_
        refine XS.iload X127.here hx rfl (hb hby at_209) rfl ?_
        show Steps p.tables e below (T127.setTop (mkF m 211 #[.val (.int p1), .val (.int p2), .val (.int p3), .val (.int p4), .val (.int p5), .val (.ref xd), .val (.ref xo), .val (.ref x1), .val (.ref x2), .val (.int ((p5 &&& (255 : Int32)) + (1 : Int32))), .val (.ref b105), .val (.int (1 : Int32)), .val (.int (0 : Int32)), .val (.int (1 : Int32))] [(.int (1 : Int32))])) _
        exact retOut X127 hx (t := .boolean) (i := .ireturn) Bd.returns rfl (Or.inl ⟨rfl, Or.inr (Or.inl rfl), _, rfl⟩) (hb hby at_211) hr
      · show Q_law Z p1 p2 p3 p4 p5 z0 z1 z2 z3 z4 z5 h0 n0 _ T127.heap _
        rw [e127]
        exact ⟨rfl, N127⟩
    · obtain ⟨cq128, kq128, q128a, q128b, q128c⟩ := isOf hZ e122 Eu106
      obtain ⟨_, _, ⟨T128, L128, k128, n128⟩, -, X128, ⟨Lc128, hQ128, l128, y128, z128⟩, st128⟩ := X122.virtualBack hx (y := (⟨"com/example/decisions_to_verdict/decisionstoverdict/Combination$Unless", "take", "(Lcom/example/decisions_to_verdict/decisionstoverdict/Decision;)V"⟩ : MethodName)) (z := (⟨"com/example/decisions_to_verdict/decisionstoverdict/Combination$Unless", "take", "(Lcom/example/decisions_to_verdict/decisionstoverdict/Decision;)V"⟩ : MethodName)) hown (mvT hZ (hw _ (List.mem_of_getElem? (i := 44) rfl))) (mvT hZ (hw _ (List.mem_of_getElem? (i := 45) rfl))) (notFace_of_selects (args := #[]) (mvT hZ (hw _ (List.mem_of_getElem? (i := 47) rfl)))) (mvT hZ (hw _ (List.mem_of_getElem? (i := 47) rfl))) (mvT hZ (hw _ (List.mem_of_getElem? (i := 46) rfl))) (by decide) (backOf (W := 0) (rm_tn l Z a0 hw [] b105 x2 xd T106.heap n0 O106 Fu3_106 hs_t2) hZ (hw _ (List.mem_of_getElem? (i := 48) rfl)) (hw _ (List.mem_of_getElem? (i := 16) rfl)) (by decide) (by decide)) q128a q128c (g := (mkF m 138 #[.val (.int p1), .val (.int p2), .val (.int p3), .val (.int p4), .val (.int p5), .val (.ref xd), .val (.ref xo), .val (.ref x1), .val (.ref x2), .val (.int ((p5 &&& (255 : Int32)) + (1 : Int32))), .val (.ref b105), .val (.int (1 : Int32)), .val (.int (0 : Int32)), .unset] [(.ref x2), (.ref b105)])) rfl (by rw [hml]; rfl) (Steps.refl _) (argsL := [(.ref x2)]) (rest := []) (lenOf pd_1 rfl) rfl (by show 2 * 0 + _ ≤ _; exact Nat.le_of_eq rfl) (hb hby at_138) (fun _ _ => ⟨rfl, e122, (by decide : 1 + 0 ≤ _), (by decide : 5 + 0 ≤ _)⟩)
      dsimp only [Pt.U, Pt.locs, Pt.cells, Pt.slots] at X128 l128 y128 z128 st128 hQ128
      subst l128 y128 z128
      obtain ⟨rfl, Nq128, e128⟩ := hQ128
      have N128 := Fr.app N122 Nq128
      have hc129 : ¬ (x2 = xd) := hs_t2
      obtain ⟨cq130, kq130, q130a, q130b, q130c⟩ := isOf hZ e128 Eu106
      obtain ⟨_, _, ⟨T130, L130, k130, n130⟩, -, X130, ⟨Lc130, hQ130, l130, y130, z130⟩, st130⟩ := X128.virtualBackUp hx (x := (⟨"com/example/decisions_to_verdict/decisionstoverdict/Combination$Unless", "isSettled", "()Z"⟩ : MethodName)) (y := (⟨"com/example/decisions_to_verdict/decisionstoverdict/Combination", "isSettled", "()Z"⟩ : MethodName)) (owner := "com/example/decisions_to_verdict/decisionstoverdict/Combination") hown (mvT hZ (hw _ (List.mem_of_getElem? (i := 34) rfl))) (mvT hZ (hw _ (List.mem_of_getElem? (i := 35) rfl))) (mvT hZ (hw _ (List.mem_of_getElem? (i := 36) rfl))) (by decide) (mvT hZ (hw _ (List.mem_of_getElem? (i := 38) rfl))) (mvT hZ (hw _ (List.mem_of_getElem? (i := 37) rfl))) (backOf (W := 0) (rm_is0 l Z a0 hw [] b105 ((p5 &&& (255 : Int32)) + (1 : Int32)) T106.heap n0 O106 Fu2_106 Fu1_106 Fu0_106 hcz) hZ (hw _ (List.mem_of_getElem? (i := 39) rfl)) (hw _ (List.mem_of_getElem? (i := 23) rfl)) (by decide) (by decide)) q130a q130c (g := (mkF m 167 #[.val (.int p1), .val (.int p2), .val (.int p3), .val (.int p4), .val (.int p5), .val (.ref xd), .val (.ref xo), .val (.ref x1), .val (.ref x2), .val (.int ((p5 &&& (255 : Int32)) + (1 : Int32))), .val (.ref b105), .val (.int (1 : Int32)), .val (.int (0 : Int32)), .val (.int (0 : Int32))] [(.ref b105)])) rfl (by rw [hml]; rfl) (Steps.refl _) (argsL := []) (rest := []) (lenOf pd_2 rfl) rfl (by show 2 * 0 + _ ≤ _; exact Nat.le_of_eq rfl) (hb hby at_167) (fun _ _ => ⟨rfl, e128, (by decide : 1 + 0 ≤ _), (by decide : 5 + 0 ≤ _)⟩)
      dsimp only [Pt.U, Pt.locs, Pt.cells, Pt.slots] at X130 l130 y130 z130 st130 hQ130
      subst l130 y130 z130
      obtain ⟨rfl, Nq130, e130⟩ := hQ130
      have N130 := Fr.app N128 Nq130
      obtain ⟨fs, hr, hrun, hended, hW, hsame⟩ := X130.leave (v := some (.int (1 : Int32))) (fun h => by rw [Bd.returns] at h; cases h)
      refine ⟨_, _, pre123 _ ?_, hrun, hended, _, _, rfl, ?_, ⟨_, rfl⟩, hW, hsame.mono (by decide) (by decide)⟩
      · refine st128.trans ?_
        show Steps p.tables e below (T128.setTop (mkF m 141 #[.val (.int p1), .val (.int p2), .val (.int p3), .val (.int p4), .val (.int p5), .val (.ref xd), .val (.ref xo), .val (.ref x1), .val (.ref x2), .val (.int ((p5 &&& (255 : Int32)) + (1 : Int32))), .val (.ref b105), .val (.int (1 : Int32)), .val (.int (0 : Int32)), .unset] [])) _
        refine XS.iload X128.here hx rfl (hb hby at_141) rfl ?_
        refine XS.ifNo X128.here hx rfl (hb hby at_143) rfl ((if0 _ _).trans (teq (by decide : (0 : Int32) = (0 : Int32))).2) ?_
        refine XS.aload X128.here hx rfl (hb hby at_146) rfl rfl ?_
        refine XS.aload X128.here hx rfl (hb hby at_148) rfl rfl ?_
        show Steps p.tables e below (T128.setTop (mkF m 150 #[.val (.int p1), .val (.int p2), .val (.int p3), .val (.int p4), .val (.int p5), .val (.ref xd), .val (.ref xo), .val (.ref x1), .val (.ref x2), .val (.int ((p5 &&& (255 : Int32)) + (1 : Int32))), .val (.ref b105), .val (.int (1 : Int32)), .val (.int (0 : Int32)), .unset] [(.ref xd), (.ref x2)])) _
        refine Jvm.RoadKit.acmp (g := (mkF m 150 #[.val (.int p1), .val (.int p2), .val (.int p3), .val (.int p4), .val (.int p5), .val (.ref xd), .val (.ref xo), .val (.ref x1), .val (.ref x2), .val (.int ((p5 &&& (255 : Int32)) + (1 : Int32))), .val (.ref b105), .val (.int (1 : Int32)), .val (.int (0 : Int32)), .unset] [(.ref xd), (.ref x2)])) X128 hx rfl rfl rfl (pc0 := 150) (pc' := 157) (same := false) rfl (hb hby at_150) rfl (decide_eq_false fun q => hc129 (Value.ref.inj q)) (by decide) (by decide) ?_
        show Steps p.tables e below (T128.setTop (mkF m 157 #[.val (.int p1), .val (.int p2), .val (.int p3), .val (.int p4), .val (.int p5), .val (.ref xd), .val (.ref xo), .val (.ref x1), .val (.ref x2), .val (.int ((p5 &&& (255 : Int32)) + (1 : Int32))), .val (.ref b105), .val (.int (1 : Int32)), .val (.int (0 : Int32)), .unset] [])) _
        refine XS.iconst X128.here hx rfl (hb hby at_157) ?_
        refine XS.istore X128.here hx rfl (hb hby at_158) rfl (l' := #[.val (.int p1), .val (.int p2), .val (.int p3), .val (.int p4), .val (.int p5), .val (.ref xd), .val (.ref xo), .val (.ref x1), .val (.ref x2), .val (.int ((p5 &&& (255 : Int32)) + (1 : Int32))), .val (.ref b105), .val (.int (1 : Int32)), .val (.int (0 : Int32)), .val (.int (0 : Int32))]) rfl ?_
        refine XS.iload X128.here hx rfl (hb hby at_160) rfl ?_
        refine XS.ifNo X128.here hx rfl (hb hby at_162) rfl ((if0 _ _).trans (feq (by decide : ¬ ((1 : Int32) = (0 : Int32)))).1) ?_
        show Steps p.tables e below (T128.setTop (mkF m 165 #[.val (.int p1), .val (.int p2), .val (.int p3), .val (.int p4), .val (.int p5), .val (.ref xd), .val (.ref xo), .val (.ref x1), .val (.ref x2), .val (.int ((p5 &&& (255 : Int32)) + (1 : Int32))), .val (.ref b105), .val (.int (1 : Int32)), .val (.int (0 : Int32)), .val (.int (0 : Int32))] [])) _
        refine XS.aload X128.here hx rfl (hb hby at_165) rfl rfl ?_
        show Steps p.tables e below (T128.setTop (mkF m 167 #[.val (.int p1), .val (.int p2), .val (.int p3), .val (.int p4), .val (.int p5), .val (.ref xd), .val (.ref xo), .val (.ref x1), .val (.ref x2), .val (.int ((p5 &&& (255 : Int32)) + (1 : Int32))), .val (.ref b105), .val (.int (1 : Int32)), .val (.int (0 : Int32)), .val (.int (0 : Int32))] [(.ref b105)])) _
        refine st130.trans ?_
        show Steps p.tables e below (T130.setTop (mkF m 170 #[.val (.int p1), .val (.int p2), .val (.int p3), .val (.int p4), .val (.int p5), .val (.ref xd), .val (.ref xo), .val (.ref x1), .val (.ref x2), .val (.int ((p5 &&& (255 : Int32)) + (1 : Int32))), .val (.ref b105), .val (.int (1 : Int32)), .val (.int (0 : Int32)), .val (.int (0 : Int32))] [(.int (0 : Int32))])) _
        refine XS.iload X130.here hx rfl (hb hby at_170) rfl ?_
        refine XS.icmpNo X130.here hx rfl (hb hby at_172) rfl (teq (by decide : (0 : Int32) = (0 : Int32))).2 ?_
        refine XS.iconst X130.here hx rfl (hb hby at_175) ?_
        refine XS.goto X130.here hx rfl (pc0 := 176) (pc' := 180) rfl (hb hby at_176) (by decide) (by decide) ?_
        show Steps p.tables e below (T130.setTop (mkF m 180 #[.val (.int p1), .val (.int p2), .val (.int p3), .val (.int p4), .val (.int p5), .val (.ref xd), .val (.ref xo), .val (.ref x1), .val (.ref x2), .val (.int ((p5 &&& (255 : Int32)) + (1 : Int32))), .val (.ref b105), .val (.int (1 : Int32)), .val (.int (0 : Int32)), .val (.int (0 : Int32))] [(.int (1 : Int32))])) _
        refine XS.istore X130.here hx rfl (hb hby at_180) rfl (l' := #[.val (.int p1), .val (.int p2), .val (.int p3), .val (.int p4), .val (.int p5), .val (.ref xd), .val (.ref xo), .val (.ref x1), .val (.ref x2), .val (.int ((p5 &&& (255 : Int32)) + (1 : Int32))), .val (.ref b105), .val (.int (1 : Int32)), .val (.int (0 : Int32)), .val (.int (0 : Int32))]) rfl ?_
        refine XS.iload X130.here hx rfl (hb hby at_182) rfl ?_
        refine XS.ifNo X130.here hx rfl (hb hby at_184) rfl ((if0 _ _).trans (feq (by decide : ¬ ((1 : Int32) = (0 : Int32)))).1) ?_
        refine XS.iload X130.here hx rfl (hb hby at_187) rfl ?_
        show Steps p.tables e below (T130.setTop (mkF m 189 #[.val (.int p1), .val (.int p2), .val (.int p3), .val (.int p4), .val (.int p5), .val (.ref xd), .val (.ref xo), .val (.ref x1), .val (.ref x2), .val (.int ((p5 &&& (255 : Int32)) + (1 : Int32))), .val (.ref b105), .val (.int (1 : Int32)), .val (.int (0 : Int32)), .val (.int (0 : Int32))] [(.int (0 : Int32))])) _
        refine XS.ifYes X130.here hx rfl (pc0 := 189) (pc' := 209) rfl (hb hby at_189) rfl ((if0 _ _).trans (teq (by decide : (0 : Int32) = (0 : Int32))).1) (by decide) (by decide) ?_
        refine XS.iload X130.here hx rfl (hb hby at_209) rfl ?_
        show Steps p.tables e below (T130.setTop (mkF m 211 #[.val (.int p1), .val (.int p2), .val (.int p3), .val (.int p4), .val (.int p5), .val (.ref xd), .val (.ref xo), .val (.ref x1), .val (.ref x2), .val (.int ((p5 &&& (255 : Int32)) + (1 : Int32))), .val (.ref b105), .val (.int (1 : Int32)), .val (.int (0 : Int32)), .val (.int (0 : Int32))] [(.int (1 : Int32))])) _
        exact retOut X130 hx (t := .boolean) (i := .ireturn) Bd.returns rfl (Or.inl ⟨rfl, Or.inr (Or.inl rfl), _, rfl⟩) (hb hby at_211) hr
      · show Q_law Z p1 p2 p3 p4 p5 z0 z1 z2 z3 z4 z5 h0 n0 _ T130.heap _
        rw [e130]
        exact ⟨rfl, N130⟩
theorem own_eqI {args : Array Value} {s : State} {t : Term} {k : Int32} (h : (Jvm.Cond.eq t (.int k)).value args s none s [] = some true) : t.eval args s none [] s = some (.int k) := by
  simp only [Cond.value, Term.eval] at h
  cases ht : t.eval args s none [] s with
  | none => simp [ht] at h
  | some x => cases x <;> simp [ht] at h ⊢; exact h
theorem own_eqL {args : Array Value} {s : State} {t : Term} {k : Int64} (h : (Jvm.Cond.eq t (.long k)).value args s none s [] = some true) : t.eval args s none [] s = some (.long k) := by
  simp only [Cond.value, Term.eval] at h
  cases ht : t.eval args s none [] s with
  | none => simp [ht] at h
  | some x => cases x <;> simp [ht] at h ⊢; exact h
set_option maxRecDepth 65536 in
set_option maxHeartbeats 40000000 in
theorem comes_1 {Post : Tables → Env → Array Value → State → Outcome → State → Prop} (hpost : ∀ tb e args s v u, (limb_1_1.after args s (.returned v) u = true ∧ limb_1_2.after args s (.returned v) u = true ∧ True) → FrameEnd s (.returned v) u (Jvm.fieldLocs frame_1_writes args s ++ Jvm.arrayLocs frame_1_arrays args s ++ Jvm.staticLocs frame_1_statics s) 16 128 → Post tb e args s (.returned v) u) :
    ArmFor flags0 classFile x code maxLocals ret World_1 tables_1 room_1 Calls_1 rest_1 Pre_1 Post := by
  intro l hfl _ _ p e ha hc hk s m args below hf hA hF happ hP
  obtain ⟨hcalls, hrest, hpre⟩ := hP
  obtain ⟨-, -, -, hnamed, -, -, -, hat⟩ := (Spec.applies_iff hf).mp happ
  obtain ⟨hg, hn⟩ := and_e (Cond.before_iff.mp (show (Jvm.Cond.and given_1 narrow_1).before args s = true from hpre))
  obtain ⟨nn1, nn2⟩ := and_e hg
  obtain ⟨nn3, nn4⟩ := and_e nn2
  obtain ⟨nn5, nn6⟩ := and_e nn4
  obtain ⟨nn7, nn8⟩ := and_e nn6
  obtain ⟨nn9, nn10⟩ := and_e nn8
  obtain ⟨w0, w1, w2, w3, w4, rfl⟩ : ∃ w0 w1 w2 w3 w4 : Value, args = #[w0, w1, w2, w3, w4] := by
    have hs : args.size = 5 := by simpa [Cond.value, given_1] using nn1
    obtain ⟨L⟩ := args
    match L, hs with
    | [w0, w1, w2, w3, w4], _ => exact ⟨w0, w1, w2, w3, w4, rfl⟩
  have hw := fun d (hd : d ∈ tables_1) => atoms_spec (ws := Jvm.Cond.code x code maxLocals ret :: tables_1) hat d (List.mem_cons_of_mem _ hd)
  have hfit : Fit s := fun {y c} hc i hi => by
    obtain ⟨ha, rfl⟩ := Array.getElem?_eq_some_iff.mp hc
    have q := List.all_eq_true.mp ((Array.all_eq_true_iff_forall_mem.mp hF) _ (Array.getElem_mem ha)) i (List.mem_range.mpr hi)
    simpa [Array.getElem?_eq_getElem hi] using q
  obtain ⟨i0, ei0⟩ := is_v nn3
  obtain rfl : w0 = (.int i0) := Option.some.inj ei0
  obtain ⟨i1, ei1⟩ := is_v nn5
  obtain rfl : w1 = (.int i1) := Option.some.inj ei1
  obtain ⟨i2, ei2⟩ := is_v nn7
  obtain rfl : w2 = (.int i2) := Option.some.inj ei2
  obtain ⟨i3, ei3⟩ := is_v nn9
  obtain rfl : w3 = (.int i3) := Option.some.inj ei3
  obtain ⟨i4, ei4⟩ := is_v nn10
  obtain rfl : w4 = (.int i4) := Option.some.inj ei4
  obtain ⟨nn1, nn2⟩ := and_e hn
  obtain ⟨nn3, nn4⟩ := and_e nn2
  obtain ⟨nn5, nn6⟩ := and_e nn4
  obtain ⟨nn7, nn8⟩ := and_e nn6
  obtain ⟨nn9, nn10⟩ := and_e nn8
  obtain ⟨nn11, nn12⟩ := and_e nn10
  obtain ⟨nn13, nn14⟩ := and_e nn12
  obtain ⟨nn15, nn16⟩ := and_e nn14
  obtain ⟨nn17, nn18⟩ := and_e nn16
  obtain ⟨nn19, nn20⟩ := and_e nn18
  obtain ⟨nn21, nn22⟩ := and_e nn20
  obtain ⟨a_DENY, ev_DENY⟩ := exa_v nn1
  have S_DENY : Sta s s.heap "com/example/decisions_to_verdict/decisionstoverdict/Decision" "DENY" "Lcom/example/decisions_to_verdict/decisionstoverdict/Decision;" (.ref a_DENY) := Sta.start ev_DENY (Or.inr ⟨(hw _ (List.mem_of_getElem? (i := 6) rfl)), (hw _ (List.mem_of_getElem? (i := 7) rfl))⟩)
  have E_DENY : Exa s s.heap a_DENY "com/example/decisions_to_verdict/decisionstoverdict/Decision" := Exa.start ev_DENY nn1
  obtain ⟨a_INDETERMINATE_P, ev_INDETERMINATE_P⟩ := exa_v nn3
  have S_INDETERMINATE_P : Sta s s.heap "com/example/decisions_to_verdict/decisionstoverdict/Decision" "INDETERMINATE_P" "Lcom/example/decisions_to_verdict/decisionstoverdict/Decision;" (.ref a_INDETERMINATE_P) := Sta.start ev_INDETERMINATE_P (Or.inr ⟨(hw _ (List.mem_of_getElem? (i := 6) rfl)), (hw _ (List.mem_of_getElem? (i := 9) rfl))⟩)
  have E_INDETERMINATE_P : Exa s s.heap a_INDETERMINATE_P "com/example/decisions_to_verdict/decisionstoverdict/Decision" := Exa.start ev_INDETERMINATE_P nn3
  obtain ⟨a_INDETERMINATE_D, ev_INDETERMINATE_D⟩ := exa_v nn5
  have S_INDETERMINATE_D : Sta s s.heap "com/example/decisions_to_verdict/decisionstoverdict/Decision" "INDETERMINATE_D" "Lcom/example/decisions_to_verdict/decisionstoverdict/Decision;" (.ref a_INDETERMINATE_D) := Sta.start ev_INDETERMINATE_D (Or.inr ⟨(hw _ (List.mem_of_getElem? (i := 6) rfl)), (hw _ (List.mem_of_getElem? (i := 11) rfl))⟩)
  have E_INDETERMINATE_D : Exa s s.heap a_INDETERMINATE_D "com/example/decisions_to_verdict/decisionstoverdict/Decision" := Exa.start ev_INDETERMINATE_D nn5
  obtain ⟨a_PERMIT, ev_PERMIT⟩ := exa_v nn7
  have S_PERMIT : Sta s s.heap "com/example/decisions_to_verdict/decisionstoverdict/Decision" "PERMIT" "Lcom/example/decisions_to_verdict/decisionstoverdict/Decision;" (.ref a_PERMIT) := Sta.start ev_PERMIT (Or.inr ⟨(hw _ (List.mem_of_getElem? (i := 6) rfl)), (hw _ (List.mem_of_getElem? (i := 13) rfl))⟩)
  have E_PERMIT : Exa s s.heap a_PERMIT "com/example/decisions_to_verdict/decisionstoverdict/Decision" := Exa.start ev_PERMIT nn7
  obtain ⟨a_INDETERMINATE_DP, ev_INDETERMINATE_DP⟩ := exa_v nn15
  have S_INDETERMINATE_DP : Sta s s.heap "com/example/decisions_to_verdict/decisionstoverdict/Decision" "INDETERMINATE_DP" "Lcom/example/decisions_to_verdict/decisionstoverdict/Decision;" (.ref a_INDETERMINATE_DP) := Sta.start ev_INDETERMINATE_DP (Or.inr ⟨(hw _ (List.mem_of_getElem? (i := 6) rfl)), (hw _ (List.mem_of_getElem? (i := 50) rfl))⟩)
  have E_INDETERMINATE_DP : Exa s s.heap a_INDETERMINATE_DP "com/example/decisions_to_verdict/decisionstoverdict/Decision" := Exa.start ev_INDETERMINATE_DP nn15
  obtain ⟨a_NOT_APPLICABLE, ev_NOT_APPLICABLE⟩ := exa_v nn21
  have S_NOT_APPLICABLE : Sta s s.heap "com/example/decisions_to_verdict/decisionstoverdict/Decision" "NOT_APPLICABLE" "Lcom/example/decisions_to_verdict/decisionstoverdict/Decision;" (.ref a_NOT_APPLICABLE) := Sta.start ev_NOT_APPLICABLE (Or.inr ⟨(hw _ (List.mem_of_getElem? (i := 6) rfl)), (hw _ (List.mem_of_getElem? (i := 66) rfl))⟩)
  have E_NOT_APPLICABLE : Exa s s.heap a_NOT_APPLICABLE "com/example/decisions_to_verdict/decisionstoverdict/Decision" := Exa.start ev_NOT_APPLICABLE nn21
  have F_INDETERMINATE_D_ordinal : Fld s s.heap a_INDETERMINATE_D "java/lang/Enum" "ordinal" "I" (.int (2)) := Fld.start ((fld_at ev_INDETERMINATE_D).symm.trans (own_eqI nn9))
  have F_DENY_ordinal : Fld s s.heap a_DENY "java/lang/Enum" "ordinal" "I" (.int (0)) := Fld.start ((fld_at ev_DENY).symm.trans (own_eqI nn11))
  have F_PERMIT_ordinal : Fld s s.heap a_PERMIT "java/lang/Enum" "ordinal" "I" (.int (1)) := Fld.start ((fld_at ev_PERMIT).symm.trans (own_eqI nn13))
  have F_INDETERMINATE_DP_ordinal : Fld s s.heap a_INDETERMINATE_DP "java/lang/Enum" "ordinal" "I" (.int (4)) := Fld.start ((fld_at ev_INDETERMINATE_DP).symm.trans (own_eqI nn17))
  have F_INDETERMINATE_P_ordinal : Fld s s.heap a_INDETERMINATE_P "java/lang/Enum" "ordinal" "I" (.int (3)) := Fld.start ((fld_at ev_INDETERMINATE_P).symm.trans (own_eqI nn19))
  have F_NOT_APPLICABLE_ordinal : Fld s s.heap a_NOT_APPLICABLE "java/lang/Enum" "ordinal" "I" (.int (5)) := Fld.start ((fld_at ev_NOT_APPLICABLE).symm.trans (own_eqI nn22))
  obtain ⟨n, o, h1, h2, h3, _, L, rfl, ⟨rfl, N⟩, hq⟩ := rm_law l s _ hw tables_1 i0 i1 i2 i3 i4 a_DENY a_PERMIT a_INDETERMINATE_D a_INDETERMINATE_P a_INDETERMINATE_DP a_NOT_APPLICABLE s.heap s.heap.size (Old.start s) S_DENY S_PERMIT S_INDETERMINATE_D S_INDETERMINATE_P S_INDETERMINATE_DP S_NOT_APPLICABLE p e ha hc hk s m _ below hf ((Spec.applies_iff_loose hf).mp happ).1 ⟨rfl, State.Warmed39.refl s, rfl⟩ trivial
  refine ⟨n, _, h1, h2, h3, hpost _ _ _ _ _ _ ⟨Cond.after_iff.mpr rfl, Cond.after_iff.mpr (eq_i res_at (Term.int_eval (1)) rfl), trivial⟩ ⟨hq.1, hq.2.1, (hq.2.2.sift fun y hy => Or.inr (N y hy)).mono (by decide) (by decide)⟩⟩
theorem main_1_1 : Claimed_1_1 := comes_1 fun _ _ _ _ _ _ h hF => ⟨h.1, hF⟩
theorem main_1_2 : Claimed_1_2 := comes_1 fun _ _ _ _ _ _ h hF => ⟨h.2.1, hF⟩

end Jvm.Pilot.@@N@@
namespace Jvm.Pilot.@@N@@
open Jvm Jvm.ClassFile Sem Op Lib Jvm.Free Jvm.Stand Jvm.Pilot.@@N@@.Jvm.D
/-! MADE BY PROGRAM (witnessworld.py) out of the Statement's table words and the real class files: 14 classes; the members and pool entries that the words name. The judged class is class 1, her method 2. -/
namespace start1
open Jvm.ClassFile
def u (s : String) : CpInfo := .utf8 (stringToUtf16 s)
/-- a pool by its gaps: so many unusable entries, then the entry; so many at the end -/
def gap : Nat → List CpInfo → List CpInfo
  | 0, r => r
  | n + 1, r => .unusable :: gap n r
def poolList (es : List (Nat × CpInfo)) (last : Nat) : List CpInfo := es.foldr (fun e r => gap e.1 (e.2 :: r)) (gap last [])
def pool (es : List (Nat × CpInfo)) (last : Nat) : Array CpInfo := ⟨poolList es last⟩
def fileOf (pool : Array CpInfo) (this : Nat) (attrs : Array Attribute := #[]) (ms : Array MethodInfo := #[]) (fl : Nat := 33) (sup : Nat := 0) (ifs : Array Nat := #[]) (fds : Array FieldInfo := #[]) : ClassFile where
  minorVersion := 0
  majorVersion := 65
  constantPool := pool
  accessFlags := fl
  thisClass := this
  superClass := sup
  interfaces := ifs
  fields := fds
  methods := ms
  attributes := attrs
def plain (name : String) (sup : Option ClassId) : Class where
  name := name
  kind := .ordinary
  loader := none
  accessFlags := 33
  super := sup
  interfaces := #[]
  cf := none
  fields := #[]
  methods := #[]
  instanceTypes := #[]
  staticTypes := #[]
  resolved := #[]
  callSites := []
  init := .initialized
  statics := none
  mirror := none

def pool0 : Array CpInfo := pool [(5, u "<init>"), (0, u "()V"), (1, .class_ 10), (1, u "java/lang/Object")] 113

def k0c0 : Code := { maxStack := 0, maxLocals := 1, code := object_method_1_code, exceptionTable := #[], attributes := #[] }
def k0m0 : Method := { name := "<init>", desc := "()V", sig := { parameters := [], returnType := none }, accessFlags := 1, code := some k0c0 }
/-- java/lang/Object -/
def k0 : Class := { plain "java/lang/Object" none with
  accessFlags := 33
  interfaces := #[]
  cf := some (fileOf pool0 8 #[] #[{ accessFlags := 1, nameIndex := 5, descriptorIndex := 6, attributes := #[] }] 33 0 #[] #[])
  fields := #[]
  methods := #[k0m0]
  instanceTypes := #[]
  staticTypes := #[]
  resolved := Array.replicate 124 none
  statics := none }

def pool1 : Array CpInfo := pool [(2, .class_ 4), (1, u "java/lang/Object"), (0, u "<init>"), (0, u "()V"), (0, .integer 2147483647), (0, .fieldref 9 10), (0, .class_ 11), (0, .nameAndType 12 13), (0, u "com/example/decisions_to_verdict/decisionstoverdict/Decision"), (0, u "DENY"), (0, u "Lcom/example/decisions_to_verdict/decisionstoverdict/Decision;"), (0, .fieldref 9 15), (0, .nameAndType 16 13), (0, u "PERMIT"), (0, .fieldref 9 18), (0, .nameAndType 19 13), (0, u "INDETERMINATE_D"), (0, .fieldref 9 21), (0, .nameAndType 22 13), (0, u "INDETERMINATE_P"), (0, .fieldref 9 24), (0, .nameAndType 25 13), (0, u "INDETERMINATE_DP"), (0, .fieldref 9 27), (0, .nameAndType 28 13), (0, u "NOT_APPLICABLE"), (0, .methodref 30 31), (0, .class_ 32), (0, .nameAndType 33 34), (0, u "com/example/decisions_to_verdict/decisionstoverdict/UnlessTakePinLaw"), (0, u "pick"), (0, u "(I)Lcom/example/decisions_to_verdict/decisionstoverdict/Decision;"), (0, .class_ 36), (0, u "com/example/decisions_to_verdict/decisionstoverdict/Combination$Unless"), (0, .methodref 35 38), (0, .nameAndType 5 39), (0, u "(ILcom/example/decisions_to_verdict/decisionstoverdict/Decision;Lcom/example/decisions_to_verdict/decisionstoverdict/Decision;)V"), (0, .methodref 35 41), (0, .nameAndType 42 43), (0, u "isSettled"), (0, u "()Z"), (0, .methodref 35 45), (0, .nameAndType 46 47), (0, u "take"), (0, u "(Lcom/example/decisions_to_verdict/decisionstoverdict/Decision;)V"), (0, .methodref 35 49), (0, .nameAndType 50 51), (0, u "verdict"), (0, u "()Lcom/example/decisions_to_verdict/decisionstoverdict/Decision;"), (3, u "law"), (0, u "(IIIII)Z")] 6

def k1m0 : Method := { name := "<init>", desc := "()V", sig := { parameters := [], returnType := none }, accessFlags := 2, code := none }
def k1c1 : Code := { maxStack := 2, maxLocals := 2, code := method_2_code, exceptionTable := #[], attributes := #[] }
def k1m1 : Method := { name := "pick", desc := "(I)Lcom/example/decisions_to_verdict/decisionstoverdict/Decision;", sig := { parameters := [.int], returnType := some (.object "com/example/decisions_to_verdict/decisionstoverdict/Decision") }, accessFlags := 10, code := some k1c1 }
def k1c2 : Code := { maxStack := 5, maxLocals := 14, code := code, exceptionTable := #[], attributes := #[] }
def k1m2 : Method := { name := "law", desc := "(IIIII)Z", sig := { parameters := [.int, .int, .int, .int, .int], returnType := some .boolean }, accessFlags := 9, code := some k1c2 }
/-- com/example/decisions_to_verdict/decisionstoverdict/UnlessTakePinLaw -/
def k1 : Class := { plain "com/example/decisions_to_verdict/decisionstoverdict/UnlessTakePinLaw" (some 0) with
  accessFlags := 49
  interfaces := #[]
  cf := some (fileOf pool1 30 #[] #[{ accessFlags := 2, nameIndex := 5, descriptorIndex := 6, attributes := #[] }, { accessFlags := 10, nameIndex := 33, descriptorIndex := 34, attributes := #[] }, { accessFlags := 9, nameIndex := 55, descriptorIndex := 56, attributes := #[] }] 49 2 #[] #[])
  fields := #[]
  methods := #[k1m0, k1m1, k1m2]
  instanceTypes := #[]
  staticTypes := #[]
  resolved := Array.replicate 63 none
  statics := none }

def pool2 : Array CpInfo := pool [(1, .class_ 2), (0, u "java/lang/constant/Constable"), (0, .class_ 4), (0, u "java/lang/Object")] 6

/-- java/lang/constant/Constable -/
def k2 : Class := { plain "java/lang/constant/Constable" (some 0) with
  accessFlags := 1537
  interfaces := #[]
  cf := some (fileOf pool2 1 #[] #[] 1537 3 #[] #[])
  fields := #[]
  methods := #[]
  instanceTypes := #[]
  staticTypes := #[]
  resolved := Array.replicate 11 none
  statics := none }

def pool3 : Array CpInfo := pool [(1, .class_ 2), (0, u "java/lang/Comparable"), (0, .class_ 4), (0, u "java/lang/Object")] 7

/-- java/lang/Comparable -/
def k3 : Class := { plain "java/lang/Comparable" (some 0) with
  accessFlags := 1537
  interfaces := #[]
  cf := some (fileOf pool3 1 #[] #[] 1537 3 #[] #[])
  fields := #[]
  methods := #[]
  instanceTypes := #[]
  staticTypes := #[]
  resolved := Array.replicate 12 none
  statics := none }

def pool4 : Array CpInfo := pool [(1, .class_ 2), (0, u "java/io/Serializable"), (0, .class_ 4), (0, u "java/lang/Object")] 2

/-- java/io/Serializable -/
def k4 : Class := { plain "java/io/Serializable" (some 0) with
  accessFlags := 1537
  interfaces := #[]
  cf := some (fileOf pool4 1 #[] #[] 1537 3 #[] #[])
  fields := #[]
  methods := #[]
  instanceTypes := #[]
  staticTypes := #[]
  resolved := Array.replicate 7 none
  statics := none }

def pool5 : Array CpInfo := pool [(2, .class_ 4), (1, u "java/lang/Enum"), (0, u "name"), (0, u "Ljava/lang/String;"), (2, u "ordinal"), (0, u "I"), (1, .class_ 14), (1, u "java/lang/Object"), (4, u "hash"), (86, .class_ 108), (1, u "java/lang/Enum$EnumDesc"), (2, .class_ 112), (0, u "java/lang/constant/Constable"), (0, .class_ 114), (0, u "java/lang/Comparable"), (0, .class_ 116), (0, u "java/io/Serializable")] 87

/-- java/lang/Enum -/
def k5 : Class := { plain "java/lang/Enum" (some 0) with
  accessFlags := 1057
  interfaces := #[2, 3, 4]
  cf := some (fileOf pool5 2 #[.nestMembers #[106]] #[] 1057 12 #[111, 113, 115] #[{ accessFlags := 18, nameIndex := 5, descriptorIndex := 6, attributes := #[] }, { accessFlags := 18, nameIndex := 9, descriptorIndex := 10, attributes := #[] }, { accessFlags := 2, nameIndex := 19, descriptorIndex := 10, attributes := #[] }])
  fields := #[{ name := "name", type := (.object "java/lang/String"), accessFlags := 18, slot := 0, constantValue := 0 }, { name := "ordinal", type := .int, accessFlags := 18, slot := 1, constantValue := 0 }, { name := "hash", type := .int, accessFlags := 2, slot := 2, constantValue := 0 }]
  methods := #[]
  instanceTypes := #[(.object "java/lang/String"), .int, .int]
  staticTypes := #[]
  resolved := Array.replicate 204 none
  statics := none }

def pool6 : Array CpInfo := pool [(1, .class_ 2), (0, u "com/example/decisions_to_verdict/decisionstoverdict/Decision"), (2, u "DENY"), (0, u "Lcom/example/decisions_to_verdict/decisionstoverdict/Decision;"), (2, u "PERMIT"), (2, u "INDETERMINATE_D"), (2, u "INDETERMINATE_P"), (2, u "INDETERMINATE_DP"), (2, u "NOT_APPLICABLE"), (2, u "$VALUES"), (0, u "[Lcom/example/decisions_to_verdict/decisionstoverdict/Decision;"), (6, .class_ 34), (1, u "java/lang/Enum"), (8, u "spelling"), (0, u "Ljava/lang/String;"), (2, u "shortForm"), (12, u "responseDecision")] 166

/-- com/example/decisions_to_verdict/decisionstoverdict/Decision -/
def k6 : Class := { plain "com/example/decisions_to_verdict/decisionstoverdict/Decision" (some 5) with
  accessFlags := 16433
  interfaces := #[]
  cf := some (fileOf pool6 1 #[] #[] 16433 32 #[] #[{ accessFlags := 16409, nameIndex := 5, descriptorIndex := 6, attributes := #[] }, { accessFlags := 16409, nameIndex := 9, descriptorIndex := 6, attributes := #[] }, { accessFlags := 16409, nameIndex := 12, descriptorIndex := 6, attributes := #[] }, { accessFlags := 16409, nameIndex := 15, descriptorIndex := 6, attributes := #[] }, { accessFlags := 16409, nameIndex := 18, descriptorIndex := 6, attributes := #[] }, { accessFlags := 16409, nameIndex := 21, descriptorIndex := 6, attributes := #[] }, { accessFlags := 18, nameIndex := 43, descriptorIndex := 44, attributes := #[] }, { accessFlags := 18, nameIndex := 47, descriptorIndex := 44, attributes := #[] }, { accessFlags := 18, nameIndex := 60, descriptorIndex := 44, attributes := #[] }, { accessFlags := 4122, nameIndex := 24, descriptorIndex := 25, attributes := #[] }])
  fields := #[{ name := "DENY", type := (.object "com/example/decisions_to_verdict/decisionstoverdict/Decision"), accessFlags := 16409, slot := 0, constantValue := 0 }, { name := "PERMIT", type := (.object "com/example/decisions_to_verdict/decisionstoverdict/Decision"), accessFlags := 16409, slot := 1, constantValue := 0 }, { name := "INDETERMINATE_D", type := (.object "com/example/decisions_to_verdict/decisionstoverdict/Decision"), accessFlags := 16409, slot := 2, constantValue := 0 }, { name := "INDETERMINATE_P", type := (.object "com/example/decisions_to_verdict/decisionstoverdict/Decision"), accessFlags := 16409, slot := 3, constantValue := 0 }, { name := "INDETERMINATE_DP", type := (.object "com/example/decisions_to_verdict/decisionstoverdict/Decision"), accessFlags := 16409, slot := 4, constantValue := 0 }, { name := "NOT_APPLICABLE", type := (.object "com/example/decisions_to_verdict/decisionstoverdict/Decision"), accessFlags := 16409, slot := 5, constantValue := 0 }, { name := "spelling", type := (.object "java/lang/String"), accessFlags := 18, slot := 3, constantValue := 0 }, { name := "shortForm", type := (.object "java/lang/String"), accessFlags := 18, slot := 4, constantValue := 0 }, { name := "responseDecision", type := (.object "java/lang/String"), accessFlags := 18, slot := 5, constantValue := 0 }, { name := "$VALUES", type := (.array (.object "com/example/decisions_to_verdict/decisionstoverdict/Decision")), accessFlags := 4122, slot := 6, constantValue := 0 }]
  methods := #[]
  instanceTypes := #[(.object "java/lang/String"), .int, .int, (.object "java/lang/String"), (.object "java/lang/String"), (.object "java/lang/String")]
  staticTypes := #[(.object "com/example/decisions_to_verdict/decisionstoverdict/Decision"), (.object "com/example/decisions_to_verdict/decisionstoverdict/Decision"), (.object "com/example/decisions_to_verdict/decisionstoverdict/Decision"), (.object "com/example/decisions_to_verdict/decisionstoverdict/Decision"), (.object "com/example/decisions_to_verdict/decisionstoverdict/Decision"), (.object "com/example/decisions_to_verdict/decisionstoverdict/Decision"), (.array (.object "com/example/decisions_to_verdict/decisionstoverdict/Decision"))]
  resolved := Array.replicate 227 none
  statics := some 0 }

def pool7 : Array CpInfo := pool [(1, .methodref 2 3), (0, .class_ 4), (0, .nameAndType 5 6), (0, u "java/lang/Object"), (0, u "<init>"), (0, u "()V"), (9, .fieldref 17 18), (0, .class_ 19), (0, .nameAndType 20 21), (0, u "com/example/decisions_to_verdict/decisionstoverdict/Combination"), (0, u "count"), (0, u "I"), (10, u "verdict"), (6, .class_ 40), (0, u "com/example/decisions_to_verdict/decisionstoverdict/Combination$1"), (3, .fieldref 17 45), (0, .nameAndType 32 46), (0, u "Lcom/example/decisions_to_verdict/decisionstoverdict/Decision;"), (0, .fieldref 17 48), (0, .nameAndType 49 21), (0, u "added"), (2, .methodref 17 53), (0, .nameAndType 54 55), (0, u "isSettled"), (0, u "()Z"), (8, u "(Lcom/example/decisions_to_verdict/decisionstoverdict/Decision;)V"), (6, u "()Lcom/example/decisions_to_verdict/decisionstoverdict/Decision;"), (0, u "(I)V"), (9, u "settle"), (3, .class_ 87), (0, u "com/example/decisions_to_verdict/decisionstoverdict/Combination$OnPermitApplySecond"), (0, .class_ 89), (0, u "com/example/decisions_to_verdict/decisionstoverdict/Combination$Fold"), (0, .class_ 91), (0, u "com/example/decisions_to_verdict/decisionstoverdict/Combination$OnlyOneApplicable"), (0, .class_ 93), (0, u "com/example/decisions_to_verdict/decisionstoverdict/Combination$FirstApplicable"), (0, .class_ 95), (0, u "com/example/decisions_to_verdict/decisionstoverdict/Combination$Unless"), (0, .class_ 97), (0, u "com/example/decisions_to_verdict/decisionstoverdict/Combination$Overrides")] 23

def k7c0 : Code := { maxStack := 3, maxLocals := 2, code := prog_10_method_1_code, exceptionTable := #[], attributes := #[] }
def k7m0 : Method := { name := "<init>", desc := "(I)V", sig := { parameters := [.int], returnType := none }, accessFlags := 2, code := some k7c0 }
def k7c1 : Code := { maxStack := 2, maxLocals := 1, code := prog_10_method_4_code, exceptionTable := #[], attributes := #[] }
def k7m1 : Method := { name := "isSettled", desc := "()Z", sig := { parameters := [], returnType := some .boolean }, accessFlags := 16, code := some k7c1 }
def k7c2 : Code := { maxStack := 4, maxLocals := 1, code := prog_10_method_6_code, exceptionTable := #[], attributes := #[] }
def k7m2 : Method := { name := "verdict", desc := "()Lcom/example/decisions_to_verdict/decisionstoverdict/Decision;", sig := { parameters := [], returnType := some (.object "com/example/decisions_to_verdict/decisionstoverdict/Decision") }, accessFlags := 16, code := some k7c2 }
def k7c3 : Code := { maxStack := 2, maxLocals := 2, code := prog_10_method_7_code, exceptionTable := #[], attributes := #[] }
def k7m3 : Method := { name := "settle", desc := "(Lcom/example/decisions_to_verdict/decisionstoverdict/Decision;)V", sig := { parameters := [(.object "com/example/decisions_to_verdict/decisionstoverdict/Decision")], returnType := none }, accessFlags := 16, code := some k7c3 }
/-- com/example/decisions_to_verdict/decisionstoverdict/Combination -/
def k7 : Class := { plain "com/example/decisions_to_verdict/decisionstoverdict/Combination" (some 0) with
  accessFlags := 1056
  interfaces := #[]
  cf := some (fileOf pool7 17 #[.nestMembers #[86, 88, 90, 92, 94, 96, 39]] #[{ accessFlags := 2, nameIndex := 5, descriptorIndex := 72, attributes := #[] }, { accessFlags := 16, nameIndex := 54, descriptorIndex := 55, attributes := #[] }, { accessFlags := 16, nameIndex := 32, descriptorIndex := 71, attributes := #[] }, { accessFlags := 16, nameIndex := 82, descriptorIndex := 64, attributes := #[] }] 1056 2 #[] #[{ accessFlags := 18, nameIndex := 20, descriptorIndex := 21, attributes := #[] }, { accessFlags := 2, nameIndex := 49, descriptorIndex := 21, attributes := #[] }, { accessFlags := 2, nameIndex := 32, descriptorIndex := 46, attributes := #[] }])
  fields := #[{ name := "count", type := .int, accessFlags := 18, slot := 0, constantValue := 0 }, { name := "added", type := .int, accessFlags := 2, slot := 1, constantValue := 0 }, { name := "verdict", type := (.object "com/example/decisions_to_verdict/decisionstoverdict/Decision"), accessFlags := 2, slot := 2, constantValue := 0 }]
  methods := #[k7m0, k7m1, k7m2, k7m3]
  instanceTypes := #[.int, .int, (.object "com/example/decisions_to_verdict/decisionstoverdict/Decision")]
  staticTypes := #[]
  resolved := Array.replicate 121 none
  statics := none }

def pool8 : Array CpInfo := pool [(1, .methodref 2 3), (0, .class_ 4), (0, .nameAndType 5 6), (0, u "com/example/decisions_to_verdict/decisionstoverdict/Combination"), (0, u "<init>"), (0, u "(I)V"), (0, .fieldref 8 9), (0, .class_ 10), (0, .nameAndType 11 12), (0, u "com/example/decisions_to_verdict/decisionstoverdict/Combination$Unless"), (0, u "decisive"), (0, u "Lcom/example/decisions_to_verdict/decisionstoverdict/Decision;"), (0, .fieldref 8 14), (0, .nameAndType 15 12), (0, u "otherwise"), (0, .methodref 8 17), (0, .nameAndType 18 19), (0, u "settle"), (0, u "(Lcom/example/decisions_to_verdict/decisionstoverdict/Decision;)V"), (0, u "(ILcom/example/decisions_to_verdict/decisionstoverdict/Decision;Lcom/example/decisions_to_verdict/decisionstoverdict/Decision;)V"), (2, u "take")] 8

def k8c0 : Code := { maxStack := 2, maxLocals := 4, code := prog_17_method_1_code, exceptionTable := #[], attributes := #[] }
def k8m0 : Method := { name := "<init>", desc := "(ILcom/example/decisions_to_verdict/decisionstoverdict/Decision;Lcom/example/decisions_to_verdict/decisionstoverdict/Decision;)V", sig := { parameters := [.int, (.object "com/example/decisions_to_verdict/decisionstoverdict/Decision"), (.object "com/example/decisions_to_verdict/decisionstoverdict/Decision")], returnType := none }, accessFlags := 0, code := some k8c0 }
def k8c1 : Code := { maxStack := 2, maxLocals := 2, code := prog_17_method_2_code, exceptionTable := #[], attributes := #[] }
def k8m1 : Method := { name := "take", desc := "(Lcom/example/decisions_to_verdict/decisionstoverdict/Decision;)V", sig := { parameters := [(.object "com/example/decisions_to_verdict/decisionstoverdict/Decision")], returnType := none }, accessFlags := 0, code := some k8c1 }
/-- com/example/decisions_to_verdict/decisionstoverdict/Combination$Unless -/
def k8 : Class := { plain "com/example/decisions_to_verdict/decisionstoverdict/Combination$Unless" (some 7) with
  accessFlags := 48
  interfaces := #[]
  cf := some (fileOf pool8 8 #[.nestHost 2] #[{ accessFlags := 0, nameIndex := 5, descriptorIndex := 20, attributes := #[] }, { accessFlags := 0, nameIndex := 23, descriptorIndex := 19, attributes := #[] }] 48 2 #[] #[{ accessFlags := 18, nameIndex := 11, descriptorIndex := 12, attributes := #[] }, { accessFlags := 18, nameIndex := 15, descriptorIndex := 12, attributes := #[] }])
  fields := #[{ name := "decisive", type := (.object "com/example/decisions_to_verdict/decisionstoverdict/Decision"), accessFlags := 18, slot := 3, constantValue := 0 }, { name := "otherwise", type := (.object "com/example/decisions_to_verdict/decisionstoverdict/Decision"), accessFlags := 18, slot := 4, constantValue := 0 }]
  methods := #[k8m0, k8m1]
  instanceTypes := #[.int, .int, (.object "com/example/decisions_to_verdict/decisionstoverdict/Decision"), (.object "com/example/decisions_to_verdict/decisionstoverdict/Decision"), (.object "com/example/decisions_to_verdict/decisionstoverdict/Decision")]
  staticTypes := #[]
  resolved := Array.replicate 32 none
  statics := none }

def pool9 : Array CpInfo := pool [(1, u "java/lang/Cloneable"), (0, .class_ 1), (0, u "java/lang/Object"), (0, .class_ 3)] 3

/-- java/lang/Cloneable -/
def k9 : Class := { plain "java/lang/Cloneable" (some 0) with
  accessFlags := 1537
  interfaces := #[]
  cf := some (fileOf pool9 2 #[] #[] 1537 4 #[] #[])
  fields := #[]
  methods := #[]
  instanceTypes := #[]
  staticTypes := #[]
  resolved := Array.replicate 8 none
  statics := none }

/-- the primitive byte -/
def k10 : Class := { plain "byte" none with kind := .primitive 'B', accessFlags := 0x411 }
/-- [B -/
def k11 : Class := { plain "[B" (some 0) with kind := .array 10 .byte, interfaces := #[9, 4], accessFlags := 1041 }

/-- the primitive int -/
def k12 : Class := { plain "int" none with kind := .primitive 'I', accessFlags := 0x411 }
/-- [I -/
def k13 : Class := { plain "[I" (some 0) with kind := .array 12 .int, interfaces := #[9, 4], accessFlags := 1041 }

def heap : Heap := #[{ cls := 6, slots := #[.ref 1, .ref 2, .ref 3, .ref 4, .ref 5, .ref 6, .null], vm := .statics 6 },
  { cls := 6, slots := #[.null, .int 0, .int 0, .null, .null, .null], vm := .none },
  { cls := 6, slots := #[.null, .int 1, .int 0, .null, .null, .null], vm := .none },
  { cls := 6, slots := #[.null, .int 2, .int 0, .null, .null, .null], vm := .none },
  { cls := 6, slots := #[.null, .int 3, .int 0, .null, .null, .null], vm := .none },
  { cls := 6, slots := #[.null, .int 4, .int 0, .null, .null, .null], vm := .none },
  { cls := 6, slots := #[.null, .int 5, .int 0, .null, .null, .null], vm := .none }]
def classes : Array Class := #[k0, k1, k2, k3, k4, k5, k6, k7, k8, k9, k10, k11, k12, k13]
def interned : List (Array UInt16 × Addr) := []
def slotsUsed : Nat := 43
def theMethod : MethodId := ⟨1, 2⟩
def args0 : Array Value := #[.int 0, .int 1, .int 2, .int 3, .int 4]
def aboutOver (below : List Frame) : State where
  vm := { classes := classes, interned := interned.toArray }
  heap := heap
  slotsUsed := slotsUsed
  threads := #[{ frames := .invoking theMethod args0 :: below }]
def below0 : List Frame := [.native { method := ⟨0, 0⟩, args := #[] }]
def about1 : State := aboutOver below0
def p0 : Program := .bare "" "" ""
def e0 : Env := launch0.env 0 0 0
theorem w_frames : about1.frames = Frame.invoking theMethod args0 :: below0 := rfl
set_option maxRecDepth 65536 in
theorem w_args : argsFit about1.vm theMethod args0 = true := by decide +kernel
set_option maxRecDepth 65536 in
theorem w_heap : heapFits about1 = true := by decide +kernel
set_option maxRecDepth 65536 in
theorem w_runnable : about1.curStatus? = some .runnable := by decide +kernel
set_option maxRecDepth 65536 in
theorem w_alone : about1.alone = true := by decide +kernel
set_option maxRecDepth 65536 in
theorem w_named : about1.methodNamed? x = some theMethod := by decide +kernel
set_option maxRecDepth 65536 in
theorem w_hears : about1.hears theMethod below0 = true := by decide +kernel
set_option maxRecDepth 65536 in
theorem w_ripe : about1.ripe theMethod args0 below0 = true := by decide +kernel
theorem w_running : about1.status = .running := rfl
set_option maxRecDepth 65536 in
theorem w_room : about1.hasRoom e0.platform room_1 = true :=
  launch0.hasRoom_least _ room_1 (by decide +kernel) (by decide +kernel) (by decide +kernel) (by decide +kernel) (by decide +kernel) (by decide +kernel)
theorem allAtoms_all (ts : List Jvm.Cond) (a : Array Jvm.Value) (st : Jvm.State) : (allAtoms ts).before a st = ts.all (fun c => c.before a st) := by
  induction ts with
  | nil => rfl
  | cons c t ih =>
    show (Jvm.Cond.and c (allAtoms t)).before a st = _
    rw [Jvm.Cond.before_and, ih, List.all_cons]
def words1 : List Jvm.Cond := Jvm.Cond.code x code maxLocals ret :: tables_1
/-- a 'code' word, met by the world's own term for the bytes: nothing is compared byte by byte -/
theorem code_word {y : MethodName} {bytes : ByteArray} {mx : Nat} {rt : Option FieldType} {a : Array Value} {s : State} {m : MethodId} {meth : Method} {c : Code} (h1 : s.methodNamed? y = some m) (h2 : s.vm.method? m = some meth) (h3 : meth.code = some c) (h4 : c.code = bytes)
    (h5 : (c.maxLocals == mx && c.exceptionTable.isEmpty && decide (c.maxStack ≤ mostOperands) && decide (meth.sig.returnType = rt) && !meth.locks && decide (parseMethodDescriptor y.desc = some meth.sig)) = true) : (Jvm.Cond.code y bytes mx rt).before a s = true := by
  simp only [Bool.and_eq_true, beq_iff_eq, Bool.not_eq_true', decide_eq_true_eq] at h5
  obtain ⟨⟨⟨⟨⟨g1, g2⟩, g3⟩, g4⟩, g5⟩, g6⟩ := h5
  simp [Cond.before, Cond.holds, Cond.value, h1, h2, h3, h4, g1, g2, g3, g4, g5, g6]
def isCode : Jvm.Cond → Bool
  | .code _ _ _ _ => true
  | _ => false
theorem all_split {L : List Jvm.Cond} {P : Jvm.Cond → Bool} (h1 : L.all (fun c => isCode c || P c) = true) (h2 : ∀ c ∈ L.filter isCode, P c = true) : L.all P = true := by
  refine List.all_eq_true.mpr fun c hc => ?_
  have h := List.all_eq_true.mp h1 c hc
  rcases Bool.eq_false_or_eq_true (isCode c) with hi | hi
  · exact h2 c (List.mem_filter.mpr ⟨hc, hi⟩)
  · simpa [hi] using h
set_option maxRecDepth 65536 in
theorem w_c0 : (Jvm.Cond.code x code maxLocals ret).before args0 about1 = true := code_word (m := ⟨1, 2⟩) (meth := k1m2) (c := k1c2) (by decide +kernel) rfl rfl rfl (by decide +kernel)
set_option maxRecDepth 65536 in
theorem w_c1 : (Jvm.Cond.code ({ cls := "com/example/decisions_to_verdict/decisionstoverdict/UnlessTakePinLaw", name := "pick", desc := "(I)Lcom/example/decisions_to_verdict/decisionstoverdict/Decision;" } : Jvm.MethodName) method_2_code (2 : Nat) (Option.some (Jvm.ClassFile.FieldType.object "com/example/decisions_to_verdict/decisionstoverdict/Decision"))).before args0 about1 = true := code_word (m := ⟨1, 1⟩) (meth := k1m1) (c := k1c1) (by decide +kernel) rfl rfl rfl (by decide +kernel)
set_option maxRecDepth 65536 in
theorem w_c2 : (Jvm.Cond.code ({ cls := "com/example/decisions_to_verdict/decisionstoverdict/Combination$Unless", name := "<init>", desc := "(ILcom/example/decisions_to_verdict/decisionstoverdict/Decision;Lcom/example/decisions_to_verdict/decisionstoverdict/Decision;)V" } : Jvm.MethodName) prog_17_method_1_code (4 : Nat) (Option.none : Option Jvm.ClassFile.FieldType)).before args0 about1 = true := code_word (m := ⟨8, 0⟩) (meth := k8m0) (c := k8c0) (by decide +kernel) rfl rfl rfl (by decide +kernel)
set_option maxRecDepth 65536 in
theorem w_c3 : (Jvm.Cond.code ({ cls := "com/example/decisions_to_verdict/decisionstoverdict/Combination", name := "<init>", desc := "(I)V" } : Jvm.MethodName) prog_10_method_1_code (2 : Nat) (Option.none : Option Jvm.ClassFile.FieldType)).before args0 about1 = true := code_word (m := ⟨7, 0⟩) (meth := k7m0) (c := k7c0) (by decide +kernel) rfl rfl rfl (by decide +kernel)
set_option maxRecDepth 65536 in
theorem w_c4 : (Jvm.Cond.code ({ cls := "java/lang/Object", name := "<init>", desc := "()V" } : Jvm.MethodName) object_method_1_code (1 : Nat) (Option.none : Option Jvm.ClassFile.FieldType)).before args0 about1 = true := code_word (m := ⟨0, 0⟩) (meth := k0m0) (c := k0c0) (by decide +kernel) rfl rfl rfl (by decide +kernel)
set_option maxRecDepth 65536 in
theorem w_c5 : (Jvm.Cond.code ({ cls := "com/example/decisions_to_verdict/decisionstoverdict/Combination", name := "isSettled", desc := "()Z" } : Jvm.MethodName) prog_10_method_4_code (1 : Nat) (Option.some Jvm.ClassFile.FieldType.boolean)).before args0 about1 = true := code_word (m := ⟨7, 1⟩) (meth := k7m1) (c := k7c1) (by decide +kernel) rfl rfl rfl (by decide +kernel)
set_option maxRecDepth 65536 in
theorem w_c6 : (Jvm.Cond.code ({ cls := "com/example/decisions_to_verdict/decisionstoverdict/Combination$Unless", name := "take", desc := "(Lcom/example/decisions_to_verdict/decisionstoverdict/Decision;)V" } : Jvm.MethodName) prog_17_method_2_code (2 : Nat) (Option.none : Option Jvm.ClassFile.FieldType)).before args0 about1 = true := code_word (m := ⟨8, 1⟩) (meth := k8m1) (c := k8c1) (by decide +kernel) rfl rfl rfl (by decide +kernel)
set_option maxRecDepth 65536 in
theorem w_c7 : (Jvm.Cond.code ({ cls := "com/example/decisions_to_verdict/decisionstoverdict/Combination", name := "settle", desc := "(Lcom/example/decisions_to_verdict/decisionstoverdict/Decision;)V" } : Jvm.MethodName) prog_10_method_7_code (2 : Nat) (Option.none : Option Jvm.ClassFile.FieldType)).before args0 about1 = true := code_word (m := ⟨7, 3⟩) (meth := k7m3) (c := k7c3) (by decide +kernel) rfl rfl rfl (by decide +kernel)
set_option maxRecDepth 65536 in
theorem w_c8 : (Jvm.Cond.code ({ cls := "com/example/decisions_to_verdict/decisionstoverdict/Combination", name := "verdict", desc := "()Lcom/example/decisions_to_verdict/decisionstoverdict/Decision;" } : Jvm.MethodName) prog_10_method_6_code (1 : Nat) (Option.some (Jvm.ClassFile.FieldType.object "com/example/decisions_to_verdict/decisionstoverdict/Decision"))).before args0 about1 = true := code_word (m := ⟨7, 2⟩) (meth := k7m2) (c := k7c2) (by decide +kernel) rfl rfl rfl (by decide +kernel)
def codes1 : List Jvm.Cond := [Jvm.Cond.code x code maxLocals ret, Jvm.Cond.code ({ cls := "com/example/decisions_to_verdict/decisionstoverdict/UnlessTakePinLaw", name := "pick", desc := "(I)Lcom/example/decisions_to_verdict/decisionstoverdict/Decision;" } : Jvm.MethodName) method_2_code (2 : Nat) (Option.some (Jvm.ClassFile.FieldType.object "com/example/decisions_to_verdict/decisionstoverdict/Decision")), Jvm.Cond.code ({ cls := "com/example/decisions_to_verdict/decisionstoverdict/Combination$Unless", name := "<init>", desc := "(ILcom/example/decisions_to_verdict/decisionstoverdict/Decision;Lcom/example/decisions_to_verdict/decisionstoverdict/Decision;)V" } : Jvm.MethodName) prog_17_method_1_code (4 : Nat) (Option.none : Option Jvm.ClassFile.FieldType), Jvm.Cond.code ({ cls := "com/example/decisions_to_verdict/decisionstoverdict/Combination", name := "<init>", desc := "(I)V" } : Jvm.MethodName) prog_10_method_1_code (2 : Nat) (Option.none : Option Jvm.ClassFile.FieldType), Jvm.Cond.code ({ cls := "java/lang/Object", name := "<init>", desc := "()V" } : Jvm.MethodName) object_method_1_code (1 : Nat) (Option.none : Option Jvm.ClassFile.FieldType), Jvm.Cond.code ({ cls := "com/example/decisions_to_verdict/decisionstoverdict/Combination", name := "isSettled", desc := "()Z" } : Jvm.MethodName) prog_10_method_4_code (1 : Nat) (Option.some Jvm.ClassFile.FieldType.boolean), Jvm.Cond.code ({ cls := "com/example/decisions_to_verdict/decisionstoverdict/Combination$Unless", name := "take", desc := "(Lcom/example/decisions_to_verdict/decisionstoverdict/Decision;)V" } : Jvm.MethodName) prog_17_method_2_code (2 : Nat) (Option.none : Option Jvm.ClassFile.FieldType), Jvm.Cond.code ({ cls := "com/example/decisions_to_verdict/decisionstoverdict/Combination", name := "settle", desc := "(Lcom/example/decisions_to_verdict/decisionstoverdict/Decision;)V" } : Jvm.MethodName) prog_10_method_7_code (2 : Nat) (Option.none : Option Jvm.ClassFile.FieldType), Jvm.Cond.code ({ cls := "com/example/decisions_to_verdict/decisionstoverdict/Combination", name := "verdict", desc := "()Lcom/example/decisions_to_verdict/decisionstoverdict/Decision;" } : Jvm.MethodName) prog_10_method_6_code (1 : Nat) (Option.some (Jvm.ClassFile.FieldType.object "com/example/decisions_to_verdict/decisionstoverdict/Decision"))]
set_option maxRecDepth 65536 in
theorem codes_eq : words1.filter isCode = codes1 := rfl
theorem w_codes : ∀ c ∈ words1.filter isCode, c.before args0 about1 = true := by
  rw [codes_eq]
  intro c hc
  simp only [codes1, List.mem_cons, List.not_mem_nil, or_false] at hc
  rcases hc with rfl | rfl | rfl | rfl | rfl | rfl | rfl | rfl | rfl
  · exact w_c0
  · exact w_c1
  · exact w_c2
  · exact w_c3
  · exact w_c4
  · exact w_c5
  · exact w_c6
  · exact w_c7
  · exact w_c8
set_option maxRecDepth 65536 in
theorem w_t1 : (words1.take 24).all (fun c => isCode c || c.before args0 about1) = true := by decide +kernel
set_option maxRecDepth 65536 in
theorem w_t2 : ((words1.drop 24).take 24).all (fun c => isCode c || c.before args0 about1) = true := by decide +kernel
set_option maxRecDepth 65536 in
theorem w_t3 : ((words1.drop 24).drop 24).all (fun c => isCode c || c.before args0 about1) = true := by decide +kernel
theorem w_tables : (allAtoms (Jvm.Cond.code x code maxLocals ret :: tables_1)).before args0 about1 = true := by
  rw [allAtoms_all]
  show words1.all (fun c => c.before args0 about1) = true
  refine all_split ?_ w_codes
  rw [← List.take_append_drop 24 words1, List.all_append, w_t1, ← List.take_append_drop 24 (words1.drop 24), List.all_append, w_t2, w_t3]
  rfl
set_option maxRecDepth 65536 in
theorem w_case : (Jvm.Cond.and given_1 narrow_1).before args0 about1 = true := by decide +kernel
theorem w_applies : (headSpec (Jvm.Cond.code x code maxLocals ret :: tables_1) room_1).applies x e0.platform about1 = true :=
  (Spec.applies_iff w_frames).mpr ⟨w_running, w_runnable, w_alone, w_named, w_hears, w_ripe, w_room, w_tables⟩
theorem atStart : AtStart classFile x code maxLocals ret World_1 tables_1 room_1 Calls_1 rest_1 Pre_1 launch0 p0 e0 about1 theMethod args0 below0 :=
  ⟨lists_1, trivial, launch0.admits_env _ _ _, launch0.least_env, fairChoices_fair.cas, fairChoices_fair.clock, w_frames, w_args, w_heap, w_applies, trivial, trivial, w_case⟩
end start1
theorem witness_1 : WitnessClaimed_1 := ⟨start1.p0, start1.e0, start1.about1, start1.theMethod, start1.args0, start1.below0, start1.atStart⟩
end Jvm.Pilot.@@N@@
