import JvmDerived
import JvmDerived.Pilot.@@N@@Statement
import JvmDerived.Pilot.@@N@@Code
set_option linter.unusedVariables false
set_option linter.unusedSimpArgs false
@@BLOCK:NumsL.lean.txt@@
namespace Jvm.Pilot.@@N@@
open Jvm Jvm.ClassFile Sem Op Lib Jvm.Free Jvm.Stand Jvm.LawKit Jvm.RoadKit Bundle Jvm.Pilot.@@N@@.Jvm.D
theorem own_mvMN {Z s : State} {a0 args : Array Value} {own host : String} {index : Nat} {y : MethodName} (hZ : Z.Warmed39 s.vm) (w : (Jvm.Cond.methodLinkNest own index y host).before a0 Z = true) : (Jvm.Cond.methodLinkNest own index y host).before args s = true := (Cond.methodLinkNest_wide hZ w :)
theorem own_selP {Z s : State} {a0 args : Array Value} {y : MethodName} {n : Nat} (hZ : Z.Warmed39 s.vm) (wi : (Jvm.Cond.instantiable y.cls n).before a0 Z = true) (wp : (Jvm.Cond.privateMethod y).before a0 Z = true) (wm : (Jvm.Cond.instanceMethod y).before a0 Z = true) (hy : y.cls ≠ "java/lang/invoke/MethodHandle" ∧ y.cls ≠ "java/lang/invoke/VarHandle") : (Jvm.Cond.selects y.cls y y).before args s = true := by
  obtain ⟨c, k, h1, h2, -, h4, -⟩ := Cond.instantiable_spec (mvT (args := args) hZ wi)
  exact selects_self_of_private h1 h2 (by cases hh : k.isInterface <;> simp [hh] at h4 ⊢) (Cond.privateMethod_at (mvP hZ wp (args := #[]))) (mvT hZ wm) hy
theorem own_szO {Z : State} {n0 : Nat} {h : Heap} (O : Old Z n0 h) : n0 ≤ h.size := O.1 ▸ O.2.1
theorem pn_0 : plainName "com/example/framewright/framewright/tamtam/PacketBlockSizePinLaw" = true := by first | (simp [plainName, overriddenIn]; done) | decide +kernel
theorem pn_1 : plainName "com/example/framewright/framewright/tamtam/Packet" = true := by first | (simp [plainName, overriddenIn]; done) | decide +kernel
theorem pd_0 : parseMethodDescriptor "(I)I" = some ⟨[.int], some .int⟩ := by decide +kernel
theorem pd_1 : parseMethodDescriptor "(IZ)I" = some ⟨[.int, .boolean], some .int⟩ := by decide +kernel
theorem d_method_2_0 : decode method_2_code 0 = .ok (.iload_n 0, 1) := by decide +kernel
theorem d_method_2_1 : decode method_2_code 1 = .ok (.ifCond .ne 5, 3) := by decide +kernel
theorem d_method_2_4 : decode method_2_code 4 = .ok (.iconst 0, 1) := by decide +kernel
theorem d_method_2_5 : decode method_2_code 5 = .ok (.ireturn, 1) := by decide +kernel
theorem d_method_2_6 : decode method_2_code 6 = .ok (.iload_n 0, 1) := by decide +kernel
theorem d_method_2_7 : decode method_2_code 7 = .ok (.iconst 1, 1) := by decide +kernel
theorem d_method_2_8 : decode method_2_code 8 = .ok (.if_icmp .ne 6, 3) := by decide +kernel
theorem d_method_2_11 : decode method_2_code 11 = .ok (.bipush 16, 2) := by decide +kernel
theorem d_method_2_13 : decode method_2_code 13 = .ok (.ireturn, 1) := by decide +kernel
theorem d_method_2_14 : decode method_2_code 14 = .ok (.iload_n 0, 1) := by decide +kernel
theorem d_method_2_15 : decode method_2_code 15 = .ok (.iconst 2, 1) := by decide +kernel
theorem d_method_2_16 : decode method_2_code 16 = .ok (.if_icmp .ne 6, 3) := by decide +kernel
theorem d_method_2_19 : decode method_2_code 19 = .ok (.bipush 32, 2) := by decide +kernel
theorem d_method_2_21 : decode method_2_code 21 = .ok (.ireturn, 1) := by decide +kernel
theorem d_method_2_22 : decode method_2_code 22 = .ok (.iload_n 0, 1) := by decide +kernel
theorem d_method_2_23 : decode method_2_code 23 = .ok (.iconst 1, 1) := by decide +kernel
theorem d_method_2_24 : decode method_2_code 24 = .ok (.iand, 1) := by decide +kernel
theorem d_method_2_25 : decode method_2_code 25 = .ok (.ifCond .eq 12, 3) := by decide +kernel
theorem d_method_2_28 : decode method_2_code 28 = .ok (.iconst 1, 1) := by decide +kernel
theorem d_method_2_29 : decode method_2_code 29 = .ok (.iload_n 0, 1) := by decide +kernel
theorem d_method_2_30 : decode method_2_code 30 = .ok (.bipush 9, 2) := by decide +kernel
theorem d_method_2_32 : decode method_2_code 32 = .ok (.iadd, 1) := by decide +kernel
theorem d_method_2_33 : decode method_2_code 33 = .ok (.iconst 2, 1) := by decide +kernel
theorem d_method_2_34 : decode method_2_code 34 = .ok (.idiv, 1) := by decide +kernel
theorem d_method_2_35 : decode method_2_code 35 = .ok (.ishl, 1) := by decide +kernel
theorem d_method_2_36 : decode method_2_code 36 = .ok (.ireturn, 1) := by decide +kernel
theorem d_method_2_37 : decode method_2_code 37 = .ok (.iconst 3, 1) := by decide +kernel
theorem d_method_2_38 : decode method_2_code 38 = .ok (.iload_n 0, 1) := by decide +kernel
theorem d_method_2_39 : decode method_2_code 39 = .ok (.iconst 2, 1) := by decide +kernel
theorem d_method_2_40 : decode method_2_code 40 = .ok (.idiv, 1) := by decide +kernel
theorem d_method_2_41 : decode method_2_code 41 = .ok (.iconst 3, 1) := by decide +kernel
theorem d_method_2_42 : decode method_2_code 42 = .ok (.iadd, 1) := by decide +kernel
theorem d_method_2_43 : decode method_2_code 43 = .ok (.ishl, 1) := by decide +kernel
theorem d_method_2_44 : decode method_2_code 44 = .ok (.ireturn, 1) := by decide +kernel
theorem d_prog_18_method_4_0 : decode prog_18_method_4_code 0 = .ok (.iload_n 1, 1) := by decide +kernel
theorem d_prog_18_method_4_1 : decode prog_18_method_4_code 1 = .ok (.ifCond .eq 13, 3) := by decide +kernel
theorem d_prog_18_method_4_4 : decode prog_18_method_4_code 4 = .ok (.iconst 2, 1) := by decide +kernel
theorem d_prog_18_method_4_5 : decode prog_18_method_4_code 5 = .ok (.getstatic 94, 3) := by decide +kernel
theorem d_prog_18_method_4_8 : decode prog_18_method_4_code 8 = .ok (.iload_n 0, 1) := by decide +kernel
theorem d_prog_18_method_4_9 : decode prog_18_method_4_code 9 = .ok (.iaload, 1) := by decide +kernel
theorem d_prog_18_method_4_10 : decode prog_18_method_4_code 10 = .ok (.imul, 1) := by decide +kernel
theorem d_prog_18_method_4_11 : decode prog_18_method_4_code 11 = .ok (.goto 8, 3) := by decide +kernel
theorem d_prog_18_method_4_14 : decode prog_18_method_4_code 14 = .ok (.getstatic 94, 3) := by decide +kernel
theorem d_prog_18_method_4_17 : decode prog_18_method_4_code 17 = .ok (.iload_n 0, 1) := by decide +kernel
theorem d_prog_18_method_4_18 : decode prog_18_method_4_code 18 = .ok (.iaload, 1) := by decide +kernel
theorem d_prog_18_method_4_19 : decode prog_18_method_4_code 19 = .ok (.ireturn, 1) := by decide +kernel
def own_list : List Int32 := [0, 16, 32, 64, 96, 128, 192, 256, 384, 512, 768, 1024, 1536, 2048, 3072, 4096]
def own_tab (p : Int32) : Int32 := own_list.getD p.toNatClampNeg 0
def own_base (p : Int32) : Int32 := if p = 0 then 0 else if p = 1 then 16 else if p = 2 then 32 else if p &&& 1 = 0 then 3 <<< ((p / 2 + 3) &&& 31) else 1 <<< (((p + 9) / 2) &&& 31)
theorem own_getD (f : List Int32) (i : Nat) : (f.map Value.int).getD i (.int 0) = .int (f.getD i 0) := by
  simp only [List.getD_eq_getElem?_getD, List.getElem?_map]; cases f[i]? <;> rfl
theorem own_and15 (p : Int32) : ∃ n : Nat, n < 16 ∧ p &&& 15 = Int32.ofNat n := by
  have e : (p &&& 15).toInt = p.toInt % 2 ^ 4 := Jvm.Kit.i32_mask p 15 (k := 4) (by decide) (by decide)
  refine ⟨(p &&& 15).toInt.toNat, by omega, Int32.toInt_inj.mp ?_⟩
  rw [Int32.toInt_ofNat_of_lt (by omega)]; omega
theorem own_all : ∀ n : Nat, n < 16 → own_base (Int32.ofNat n) = own_tab (Int32.ofNat n) ∧ ¬ (Int32.ofNat n) < 0 ∧ (Int32.ofNat n) < 16 := by decide +kernel
theorem ef_base (m : MethodId) (p1 : Int32) : entryFrame m #[(.int p1)] 1 = mkF m 0 #[.val (.int p1)] [] := by first | (simp [entryFrame, mkF, argsToLocals, Value.category]; done) | rfl
def Q_base (Z : State) (p1 : Int32) (h0 : Heap) (n0 : Nat) (v : Option Value) (h : Heap) (L : List Loc) : Prop := v = some (.int (own_base p1)) ∧ Fr n0 L ∧ h = h0
set_option maxRecDepth 65536 in
set_option maxHeartbeats 40000000 in
theorem rm_base (l : Launch) (Z : State) (a0 : Array Value) (hw : ∀ d ∈ tables_1, d.before a0 Z = true) (ws : List Jvm.Cond) (p1 : Int32) (h0 : Heap) (n0 : Nat) (O0 : Old Z n0 h0) :
    MetFree l (⟨"com/example/framewright/framewright/tamtam/PacketBlockSizePinLaw", "base", "(I)I"⟩ : MethodName) (head1 (Jvm.Cond.code (⟨"com/example/framewright/framewright/tamtam/PacketBlockSizePinLaw", "base", "(I)I"⟩ : MethodName) method_2_code 1 (some .int) :: ws) ({ frames := 0, cells := 0, slots := 0, locals := 0 } : Room)) (fun a U => a = #[(.int p1)] ∧ Z.Warmed39 U.vm ∧ U.heap = h0) (fun _ _ _ _ _ => True) (fun _ U o U' => ∃ v L, o = .returned v ∧ Q_base Z p1 h0 n0 v U'.heap L ∧ FrameEnd U o U' L ({ frames := 0, cells := 0, slots := 0, locals := 0 } : Room).cells ({ frames := 0, cells := 0, slots := 0, locals := 0 } : Room).slots) := by
  refine MetFree.of_bodySF (plainFor_of_name pn_0) hisR ?_
  intro p e s m args below meth c s₁ Bd hml0 hP hK
  obtain ⟨rfl, hZ, hh⟩ := hP
  have hx := Bd.exec
  have hby := Bd.bytes
  have hml : c.maxLocals = 1 := hml0
  have hown : s.vm.findClass "com/example/framewright/framewright/tamtam/PacketBlockSizePinLaw" = some m.cls := findClass_of_methodNamed Bd.named
  have hnm := (name_of_methodNamed Bd.named Bd.method).1
  have X0 : Stand p l e ({ frames := 0, cells := 0, slots := 0, locals := 0 } : Room) s m #[(.int p1)] below meth c s₁ [] 0 0 := Stand.of_body Bd
  have e0 : s₁.heap = h0 := by rw [← hh, Bd.state]; rfl
  have N0 := Fr.nil n0
  have pre0 : ∀ t, Steps p.tables e below (s₁.setTop (mkF m 0 #[.val (.int p1)] [])) t → Steps p.tables e below (s₁.setTop (entryFrame m #[(.int p1)] 1)) t := fun t k => castTop (ef_base m p1) k
  have pre1 : ∀ t, Steps p.tables e below (s₁.setTop (mkF m 1 #[.val (.int p1)] [(.int p1)])) t → Steps p.tables e below (s₁.setTop (entryFrame m #[(.int p1)] 1)) t := fun t kk => pre0 t (by
      show Steps p.tables e below (s₁.setTop (mkF m 0 #[.val (.int p1)] [])) _
      refine XS.iloadN X0.here hx rfl (hb hby d_method_2_0) rfl ?_
      show Steps p.tables e below (s₁.setTop (mkF m 1 #[.val (.int p1)] [(.int p1)])) _
      exact kk)
  by_cases hc2 : p1 = (0 : Int32)
  · obtain ⟨fs, hr, hrun, hended, hW, hsame⟩ := X0.leave (v := some (.int (0 : Int32))) (fun h => by rw [Bd.returns] at h; cases h)
    refine ⟨_, _, pre1 _ ?_, hrun, hended, _, _, rfl, ?_, ⟨_, rfl⟩, hW, hsame.mono (by decide) (by decide)⟩
    · refine XS.ifNo X0.here hx rfl (hb hby d_method_2_1) rfl ((if0 _ _).trans (teq hc2).2) ?_
      refine XS.iconst X0.here hx rfl (hb hby d_method_2_4) ?_
      show Steps p.tables e below (s₁.setTop (mkF m 5 #[.val (.int p1)] [(.int (0 : Int32))])) _
      exact retOut X0 hx (t := .int) (i := .ireturn) Bd.returns rfl (Or.inl ⟨rfl, Or.inl rfl, _, rfl⟩) (hb hby d_method_2_5) hr
    · show Q_base Z p1 h0 n0 _ s₁.heap _
      rw [e0]
      exact ⟨(by simp [own_base, hc2]), N0, rfl⟩
  · have pre3 : ∀ t, Steps p.tables e below (s₁.setTop (mkF m 8 #[.val (.int p1)] [(.int (1 : Int32)), (.int p1)])) t → Steps p.tables e below (s₁.setTop (entryFrame m #[(.int p1)] 1)) t := fun t kk => pre1 t (by
        refine XS.ifYes X0.here hx rfl (pc0 := 1) (pc' := 6) rfl (hb hby d_method_2_1) rfl ((if0 _ _).trans (feq hc2).2) (by decide) (by decide) ?_
        refine XS.iloadN X0.here hx rfl (hb hby d_method_2_6) rfl ?_
        refine XS.iconst X0.here hx rfl (hb hby d_method_2_7) ?_
        show Steps p.tables e below (s₁.setTop (mkF m 8 #[.val (.int p1)] [(.int (1 : Int32)), (.int p1)])) _
        exact kk)
    by_cases hc4 : p1 = (1 : Int32)
    · obtain ⟨fs, hr, hrun, hended, hW, hsame⟩ := X0.leave (v := some (.int (16 : Int32))) (fun h => by rw [Bd.returns] at h; cases h)
      refine ⟨_, _, pre3 _ ?_, hrun, hended, _, _, rfl, ?_, ⟨_, rfl⟩, hW, hsame.mono (by decide) (by decide)⟩
      · refine XS.icmpNo X0.here hx rfl (hb hby d_method_2_8) rfl (teq hc4).2 ?_
        refine XS.bipush X0.here hx rfl (hb hby d_method_2_11) ?_
        show Steps p.tables e below (s₁.setTop (mkF m 13 #[.val (.int p1)] [(.int (16 : Int32))])) _
        exact retOut X0 hx (t := .int) (i := .ireturn) Bd.returns rfl (Or.inl ⟨rfl, Or.inl rfl, _, rfl⟩) (hb hby d_method_2_13) hr
      · show Q_base Z p1 h0 n0 _ s₁.heap _
        rw [e0]
        exact ⟨(by simp [own_base, hc2, hc4]), N0, rfl⟩
    · have pre5 : ∀ t, Steps p.tables e below (s₁.setTop (mkF m 16 #[.val (.int p1)] [(.int (2 : Int32)), (.int p1)])) t → Steps p.tables e below (s₁.setTop (entryFrame m #[(.int p1)] 1)) t := fun t kk => pre3 t (by
          refine XS.icmpYes X0.here hx rfl (pc0 := 8) (pc' := 14) rfl (hb hby d_method_2_8) rfl (feq hc4).2 (by decide) (by decide) ?_
          refine XS.iloadN X0.here hx rfl (hb hby d_method_2_14) rfl ?_
          refine XS.iconst X0.here hx rfl (hb hby d_method_2_15) ?_
          show Steps p.tables e below (s₁.setTop (mkF m 16 #[.val (.int p1)] [(.int (2 : Int32)), (.int p1)])) _
          exact kk)
      by_cases hc6 : p1 = (2 : Int32)
      · obtain ⟨fs, hr, hrun, hended, hW, hsame⟩ := X0.leave (v := some (.int (32 : Int32))) (fun h => by rw [Bd.returns] at h; cases h)
        refine ⟨_, _, pre5 _ ?_, hrun, hended, _, _, rfl, ?_, ⟨_, rfl⟩, hW, hsame.mono (by decide) (by decide)⟩
        · refine XS.icmpNo X0.here hx rfl (hb hby d_method_2_16) rfl (teq hc6).2 ?_
          refine XS.bipush X0.here hx rfl (hb hby d_method_2_19) ?_
          show Steps p.tables e below (s₁.setTop (mkF m 21 #[.val (.int p1)] [(.int (32 : Int32))])) _
          exact retOut X0 hx (t := .int) (i := .ireturn) Bd.returns rfl (Or.inl ⟨rfl, Or.inl rfl, _, rfl⟩) (hb hby d_method_2_21) hr
        · show Q_base Z p1 h0 n0 _ s₁.heap _
          rw [e0]
          exact ⟨(by simp [own_base, hc2, hc4, hc6]), N0, rfl⟩
      · have pre7 : ∀ t, Steps p.tables e below (s₁.setTop (mkF m 25 #[.val (.int p1)] [(.int (p1 &&& (1 : Int32)))])) t → Steps p.tables e below (s₁.setTop (entryFrame m #[(.int p1)] 1)) t := fun t kk => pre5 t (by
            refine XS.icmpYes X0.here hx rfl (pc0 := 16) (pc' := 22) rfl (hb hby d_method_2_16) rfl (feq hc6).2 (by decide) (by decide) ?_
            refine XS.iloadN X0.here hx rfl (hb hby d_method_2_22) rfl ?_
            refine XS.iconst X0.here hx rfl (hb hby d_method_2_23) ?_
            refine XS.iand X0.here hx rfl (hb hby d_method_2_24) rfl ?_
            show Steps p.tables e below (s₁.setTop (mkF m 25 #[.val (.int p1)] [(.int (p1 &&& (1 : Int32)))])) _
            exact kk)
        by_cases hc8 : (p1 &&& (1 : Int32)) = (0 : Int32)
        · obtain ⟨fs, hr, hrun, hended, hW, hsame⟩ := X0.leave (v := some (.int ((3 : Int32) <<< (((p1 / (2 : Int32)) + (3 : Int32)) &&& 31)))) (fun h => by rw [Bd.returns] at h; cases h)
          refine ⟨_, _, pre7 _ ?_, hrun, hended, _, _, rfl, ?_, ⟨_, rfl⟩, hW, hsame.mono (by decide) (by decide)⟩
          · refine XS.ifYes X0.here hx rfl (pc0 := 25) (pc' := 37) rfl (hb hby d_method_2_25) rfl ((if0 _ _).trans (teq hc8).1) (by decide) (by decide) ?_
            refine XS.iconst X0.here hx rfl (hb hby d_method_2_37) ?_
            refine XS.iloadN X0.here hx rfl (hb hby d_method_2_38) rfl ?_
            refine XS.iconst X0.here hx rfl (hb hby d_method_2_39) ?_
            show Steps p.tables e below (s₁.setTop (mkF m 40 #[.val (.int p1)] [(.int (2 : Int32)), (.int p1), (.int (3 : Int32))])) _
            refine XS.idiv X0.here hx rfl (hb hby d_method_2_40) rfl (by decide) ?_
            refine XS.iconst X0.here hx rfl (hb hby d_method_2_41) ?_
            refine XS.iadd X0.here hx rfl (hb hby d_method_2_42) rfl ?_
            refine XS.ishl X0.here hx rfl (hb hby d_method_2_43) rfl ?_
            show Steps p.tables e below (s₁.setTop (mkF m 44 #[.val (.int p1)] [(.int ((3 : Int32) <<< (((p1 / (2 : Int32)) + (3 : Int32)) &&& 31)))])) _
            exact retOut X0 hx (t := .int) (i := .ireturn) Bd.returns rfl (Or.inl ⟨rfl, Or.inl rfl, _, rfl⟩) (hb hby d_method_2_44) hr
          · show Q_base Z p1 h0 n0 _ s₁.heap _
            rw [e0]
            exact ⟨(by simp [own_base, hc2, hc4, hc6, hc8]), N0, rfl⟩
        · obtain ⟨fs, hr, hrun, hended, hW, hsame⟩ := X0.leave (v := some (.int ((1 : Int32) <<< (((p1 + (9 : Int32)) / (2 : Int32)) &&& 31)))) (fun h => by rw [Bd.returns] at h; cases h)
          refine ⟨_, _, pre7 _ ?_, hrun, hended, _, _, rfl, ?_, ⟨_, rfl⟩, hW, hsame.mono (by decide) (by decide)⟩
          · refine XS.ifNo X0.here hx rfl (hb hby d_method_2_25) rfl ((if0 _ _).trans (feq hc8).1) ?_
            refine XS.iconst X0.here hx rfl (hb hby d_method_2_28) ?_
            refine XS.iloadN X0.here hx rfl (hb hby d_method_2_29) rfl ?_
            refine XS.bipush X0.here hx rfl (hb hby d_method_2_30) ?_
            show Steps p.tables e below (s₁.setTop (mkF m 32 #[.val (.int p1)] [(.int (9 : Int32)), (.int p1), (.int (1 : Int32))])) _
            refine XS.iadd X0.here hx rfl (hb hby d_method_2_32) rfl ?_
            refine XS.iconst X0.here hx rfl (hb hby d_method_2_33) ?_
            refine XS.idiv X0.here hx rfl (hb hby d_method_2_34) rfl (by decide) ?_
            refine XS.ishl X0.here hx rfl (hb hby d_method_2_35) rfl ?_
            show Steps p.tables e below (s₁.setTop (mkF m 36 #[.val (.int p1)] [(.int ((1 : Int32) <<< (((p1 + (9 : Int32)) / (2 : Int32)) &&& 31)))])) _
            exact retOut X0 hx (t := .int) (i := .ireturn) Bd.returns rfl (Or.inl ⟨rfl, Or.inl rfl, _, rfl⟩) (hb hby d_method_2_36) hr
          · show Q_base Z p1 h0 n0 _ s₁.heap _
            rw [e0]
            exact ⟨(by simp [own_base, hc2, hc4, hc6, hc8]), N0, rfl⟩
theorem ef_bs (m : MethodId) (p1 : Int32) (p2 : Int32) : entryFrame m #[(.int p1), (.int p2)] 2 = mkF m 0 #[.val (.int p1), .val (.int p2)] [] := by first | (simp [entryFrame, mkF, argsToLocals, Value.category]; done) | rfl
def Q_bs (Z : State) (p1 : Int32) (p2 : Int32) (aB : Addr) (kB : ClassId) (h0 : Heap) (n0 : Nat) (v : Option Value) (h : Heap) (L : List Loc) : Prop := v = some (.int (if p2 = 0 then own_tab p1 else 2 * own_tab p1)) ∧ Fr n0 L ∧ h = h0
set_option maxRecDepth 65536 in
set_option maxHeartbeats 40000000 in
theorem rm_bs (l : Launch) (Z : State) (a0 : Array Value) (hw : ∀ d ∈ tables_1, d.before a0 Z = true) (ws : List Jvm.Cond) (p1 : Int32) (p2 : Int32) (aB : Addr) (kB : ClassId) (h0 : Heap) (n0 : Nat) (O0 : Old Z n0 h0) (SB : Sta Z Z.heap "com/example/framewright/framewright/tamtam/Packet" "BLOCK_SIZES" "[I" (.ref aB)) (AB : Arv Z Z.heap aB kB .int (16 : Int32) (own_list.map Value.int) (.int 0)) (hp : ¬ p1 < 0 ∧ p1 < 16) :
    MetFree l (⟨"com/example/framewright/framewright/tamtam/Packet", "blockSize", "(IZ)I"⟩ : MethodName) (head1 (Jvm.Cond.code (⟨"com/example/framewright/framewright/tamtam/Packet", "blockSize", "(IZ)I"⟩ : MethodName) prog_18_method_4_code 2 (some .int) :: ws) ({ frames := 0, cells := 0, slots := 0, locals := 0 } : Room)) (fun a U => a = #[(.int p1), (.int p2)] ∧ Z.Warmed39 U.vm ∧ U.heap = h0) (fun _ _ _ _ _ => True) (fun _ U o U' => ∃ v L, o = .returned v ∧ Q_bs Z p1 p2 aB kB h0 n0 v U'.heap L ∧ FrameEnd U o U' L ({ frames := 0, cells := 0, slots := 0, locals := 0 } : Room).cells ({ frames := 0, cells := 0, slots := 0, locals := 0 } : Room).slots) := by
  refine MetFree.of_bodySF (plainFor_of_name pn_1) hisR ?_
  intro p e s m args below meth c s₁ Bd hml0 hP hK
  obtain ⟨rfl, hZ, hh⟩ := hP
  have hx := Bd.exec
  have hby := Bd.bytes
  have hml : c.maxLocals = 2 := hml0
  have hown : s.vm.findClass "com/example/framewright/framewright/tamtam/Packet" = some m.cls := findClass_of_methodNamed Bd.named
  have hnm := (name_of_methodNamed Bd.named Bd.method).1
  have X0 : Stand p l e ({ frames := 0, cells := 0, slots := 0, locals := 0 } : Room) s m #[(.int p1), (.int p2)] below meth c s₁ [] 0 0 := Stand.of_body Bd
  have e0 : s₁.heap = h0 := by rw [← hh, Bd.state]; rfl
  have N0 := Fr.nil n0
  have pre0 : ∀ t, Steps p.tables e below (s₁.setTop (mkF m 0 #[.val (.int p1), .val (.int p2)] [])) t → Steps p.tables e below (s₁.setTop (entryFrame m #[(.int p1), (.int p2)] 2)) t := fun t k => castTop (ef_bs m p1 p2) k
  have pre1 : ∀ t, Steps p.tables e below (s₁.setTop (mkF m 1 #[.val (.int p1), .val (.int p2)] [(.int p2)])) t → Steps p.tables e below (s₁.setTop (entryFrame m #[(.int p1), (.int p2)] 2)) t := fun t kk => pre0 t (by
      show Steps p.tables e below (s₁.setTop (mkF m 0 #[.val (.int p1), .val (.int p2)] [])) _
      refine XS.iloadN X0.here hx rfl (hb hby d_prog_18_method_4_0) rfl ?_
      show Steps p.tables e below (s₁.setTop (mkF m 1 #[.val (.int p1), .val (.int p2)] [(.int p2)])) _
      exact kk)
  by_cases hc2 : p2 = (0 : Int32)
  · obtain ⟨T3, X3, e3, st3⟩ := getS2 X0 hx hZ hown (host := "") (Or.inl (hw _ (List.mem_of_getElem? (i := 8) rfl))) Via.refl e0 (SB.ext O0.2) (g := (mkF m 14 #[.val (.int p1), .val (.int p2)] [])) rfl (hb hby d_prog_18_method_4_14)
    obtain ⟨cl4, Ar4, q4, S4, Ne4, H4, G4⟩ := (AB.ext O0.2)
    have hin4 : ¬ (p1 < 0 ∨ cl4.slots.size ≤ (p1).toNatClampNeg) := inb_of S4 hp
    have hat4 : cl4.slots[(p1).toNatClampNeg]? = some (.int (own_tab p1)) := H4.at hin4 (own_getD _ _)
    obtain ⟨fs, hr, hrun, hended, hW, hsame⟩ := X3.leave (v := some (.int (own_tab p1))) (fun h => by rw [Bd.returns] at h; cases h)
    refine ⟨_, _, pre1 _ ?_, hrun, hended, _, _, rfl, ?_, ⟨_, rfl⟩, hW, hsame.mono (by decide) (by decide)⟩
    · refine XS.ifYes X0.here hx rfl (pc0 := 1) (pc' := 14) rfl (hb hby d_prog_18_method_4_1) rfl ((if0 _ _).trans (teq hc2).1) (by decide) (by decide) ?_
      show Steps p.tables e below (s₁.setTop (mkF m 14 #[.val (.int p1), .val (.int p2)] [])) _
      refine st3 _ ?_
      show Steps p.tables e below (T3.setTop (mkF m 17 #[.val (.int p1), .val (.int p2)] [(.ref aB)])) _
      refine XS.iloadN X3.here hx rfl (hb hby d_prog_18_method_4_17) rfl ?_
      show Steps p.tables e below (T3.setTop (mkF m 18 #[.val (.int p1), .val (.int p2)] [(.int p1), (.ref aB)])) _
      refine X3.iaload hx (j := p1) (v := (.int (own_tab p1))) (by rw [e3]; exact Ar4.1) (State.isArrayOf_alike hZ.alike Ar4.2.1) Ar4.2.2 hin4 hat4 (g := (mkF m 18 #[.val (.int p1), .val (.int p2)] [(.int p1), (.ref aB)])) rfl rfl (hb hby d_prog_18_method_4_18) _ ?_
      show Steps p.tables e below (T3.setTop (mkF m 19 #[.val (.int p1), .val (.int p2)] [(.int (own_tab p1))])) _
      exact retOut X3 hx (t := .int) (i := .ireturn) Bd.returns rfl (Or.inl ⟨rfl, Or.inl rfl, _, rfl⟩) (hb hby d_prog_18_method_4_19) hr
    · show Q_bs Z p1 p2 aB kB h0 n0 _ T3.heap _
      rw [e3]
      exact ⟨(by simp [hc2]), N0, rfl⟩
  · obtain ⟨T5, X5, e5, st5⟩ := getS2 X0 hx hZ hown (host := "") (Or.inl (hw _ (List.mem_of_getElem? (i := 8) rfl))) Via.refl e0 (SB.ext O0.2) (g := (mkF m 5 #[.val (.int p1), .val (.int p2)] [(.int (2 : Int32))])) rfl (hb hby d_prog_18_method_4_5)
    obtain ⟨cl6, Ar6, q6, S6, Ne6, H6, G6⟩ := (AB.ext O0.2)
    have hin6 : ¬ (p1 < 0 ∨ cl6.slots.size ≤ (p1).toNatClampNeg) := inb_of S6 hp
    have hat6 : cl6.slots[(p1).toNatClampNeg]? = some (.int (own_tab p1)) := H6.at hin6 (own_getD _ _)
    obtain ⟨fs, hr, hrun, hended, hW, hsame⟩ := X5.leave (v := some (.int ((2 : Int32) * (own_tab p1)))) (fun h => by rw [Bd.returns] at h; cases h)
    refine ⟨_, _, pre1 _ ?_, hrun, hended, _, _, rfl, ?_, ⟨_, rfl⟩, hW, hsame.mono (by decide) (by decide)⟩
    · refine XS.ifNo X0.here hx rfl (hb hby d_prog_18_method_4_1) rfl ((if0 _ _).trans (feq hc2).1) ?_
      refine XS.iconst X0.here hx rfl (hb hby d_prog_18_method_4_4) ?_
      show Steps p.tables e below (s₁.setTop (mkF m 5 #[.val (.int p1), .val (.int p2)] [(.int (2 : Int32))])) _
      refine st5 _ ?_
      show Steps p.tables e below (T5.setTop (mkF m 8 #[.val (.int p1), .val (.int p2)] [(.ref aB), (.int (2 : Int32))])) _
      refine XS.iloadN X5.here hx rfl (hb hby d_prog_18_method_4_8) rfl ?_
      show Steps p.tables e below (T5.setTop (mkF m 9 #[.val (.int p1), .val (.int p2)] [(.int p1), (.ref aB), (.int (2 : Int32))])) _
      refine X5.iaload hx (j := p1) (v := (.int (own_tab p1))) (by rw [e5]; exact Ar6.1) (State.isArrayOf_alike hZ.alike Ar6.2.1) Ar6.2.2 hin6 hat6 (g := (mkF m 9 #[.val (.int p1), .val (.int p2)] [(.int p1), (.ref aB), (.int (2 : Int32))])) rfl rfl (hb hby d_prog_18_method_4_9) _ ?_
      show Steps p.tables e below (T5.setTop (mkF m 10 #[.val (.int p1), .val (.int p2)] [(.int (own_tab p1)), (.int (2 : Int32))])) _
      refine XS.imul X5.here hx rfl (hb hby d_prog_18_method_4_10) rfl ?_
      refine XS.goto X5.here hx rfl (pc0 := 11) (pc' := 19) rfl (hb hby d_prog_18_method_4_11) (by decide) (by decide) ?_
      show Steps p.tables e below (T5.setTop (mkF m 19 #[.val (.int p1), .val (.int p2)] [(.int ((2 : Int32) * (own_tab p1)))])) _
      exact retOut X5 hx (t := .int) (i := .ireturn) Bd.returns rfl (Or.inl ⟨rfl, Or.inl rfl, _, rfl⟩) (hb hby d_prog_18_method_4_19) hr
    · show Q_bs Z p1 p2 aB kB h0 n0 _ T5.heap _
      rw [e5]
      exact ⟨(by simp [hc2]), N0, rfl⟩
theorem ef_law (m : MethodId) (p1 : Int32) (p2 : Int32) : entryFrame m #[(.int p1), (.int p2)] maxLocals = mkF m 0 #[.val (.int p1), .val (.int p2), .unset, .unset, .unset] [] := by first | (simp [entryFrame, mkF, argsToLocals, Value.category, maxLocals]; done) | rfl
def Q_law (Z : State) (p1 : Int32) (p2 : Int32) (aB : Addr) (kB : ClassId) (h0 : Heap) (n0 : Nat) (v : Option Value) (h : Heap) (L : List Loc) : Prop := v = some (.int 1) ∧ Fr n0 L
set_option maxRecDepth 65536 in
set_option maxHeartbeats 40000000 in
theorem rm_law (l : Launch) (Z : State) (a0 : Array Value) (hw : ∀ d ∈ tables_1, d.before a0 Z = true) (ws : List Jvm.Cond) (p1 : Int32) (p2 : Int32) (aB : Addr) (kB : ClassId) (h0 : Heap) (n0 : Nat) (O0 : Old Z n0 h0) (SB : Sta Z Z.heap "com/example/framewright/framewright/tamtam/Packet" "BLOCK_SIZES" "[I" (.ref aB)) (AB : Arv Z Z.heap aB kB .int (16 : Int32) (own_list.map Value.int) (.int 0)) :
    MetFree l x (head1 (Jvm.Cond.code x code maxLocals ret :: ws) room_1) (fun a U => a = #[(.int p1), (.int p2)] ∧ Z.Warmed39 U.vm ∧ U.heap = h0) (fun _ _ _ _ _ => True) (fun _ U o U' => ∃ v L, o = .returned v ∧ Q_law Z p1 p2 aB kB h0 n0 v U'.heap L ∧ FrameEnd U o U' L room_1.cells room_1.slots) := by
  refine MetFree.of_bodySF (plainFor_of_name pn_0) hisR ?_
  intro p e s m args below meth c s₁ Bd hml0 hP hK
  obtain ⟨rfl, hZ, hh⟩ := hP
  have hx := Bd.exec
  have hby := Bd.bytes
  have hml : c.maxLocals = 5 := hml0
  have hown : s.vm.findClass "com/example/framewright/framewright/tamtam/PacketBlockSizePinLaw" = some m.cls := findClass_of_methodNamed Bd.named
  have hnm := (name_of_methodNamed Bd.named Bd.method).1
  have X0 : Stand p l e room_1 s m #[(.int p1), (.int p2)] below meth c s₁ [] 0 0 := Stand.of_body Bd
  have e0 : s₁.heap = h0 := by rw [← hh, Bd.state]; rfl
  have N0 := Fr.nil n0
  have pre0 : ∀ t, Steps p.tables e below (s₁.setTop (mkF m 0 #[.val (.int p1), .val (.int p2), .unset, .unset, .unset] [])) t → Steps p.tables e below (s₁.setTop (entryFrame m #[(.int p1), (.int p2)] maxLocals)) t := fun t k => castTop (ef_law m p1 p2) k
  obtain ⟨k, hk1, hk2⟩ := own_and15 p1
  have hp := (own_all k hk1).2
  have hbt := (own_all k hk1).1
  rw [← hk2] at hp hbt
  have pre1 : ∀ t, Steps p.tables e below (s₁.setTop (mkF m 8 #[.val (.int p1), .val (.int p2), .val (.int (p1 &&& (15 : Int32))), .unset, .unset] [(.int (p2 &&& (1 : Int32)))])) t → Steps p.tables e below (s₁.setTop (entryFrame m #[(.int p1), (.int p2)] maxLocals)) t := fun t kk => pre0 t (by
      show Steps p.tables e below (s₁.setTop (mkF m 0 #[.val (.int p1), .val (.int p2), .unset, .unset, .unset] [])) _
      refine XS.iloadN X0.here hx rfl (hb hby at_0) rfl ?_
      refine XS.bipush X0.here hx rfl (hb hby at_1) ?_
      refine XS.iand X0.here hx rfl (hb hby at_3) rfl ?_
      refine XS.istoreN X0.here hx rfl (hb hby at_4) rfl (l' := #[.val (.int p1), .val (.int p2), .val (.int (p1 &&& (15 : Int32))), .unset, .unset]) rfl ?_
      show Steps p.tables e below (s₁.setTop (mkF m 5 #[.val (.int p1), .val (.int p2), .val (.int (p1 &&& (15 : Int32))), .unset, .unset] [])) _
      refine XS.iloadN X0.here hx rfl (hb hby at_5) rfl ?_
      refine XS.iconst X0.here hx rfl (hb hby at_6) ?_
      refine XS.iand X0.here hx rfl (hb hby at_7) rfl ?_
      show Steps p.tables e below (s₁.setTop (mkF m 8 #[.val (.int p1), .val (.int p2), .val (.int (p1 &&& (15 : Int32))), .unset, .unset] [(.int (p2 &&& (1 : Int32)))])) _
      exact kk)
  by_cases hc2 : (p2 &&& (1 : Int32)) = (0 : Int32)
  · obtain ⟨_, _, ⟨T3, L3, k3, n3⟩, -, X3, ⟨Lc3, hQ3, l3, y3, z3⟩, st3⟩ := Jvm.LawKit.callS X0 hx (y := (⟨"com/example/framewright/framewright/tamtam/PacketBlockSizePinLaw", "base", "(I)I"⟩ : MethodName)) hown (mvT hZ (hw _ (List.mem_of_getElem? (i := 0) rfl))) (mvT hZ (hw _ (List.mem_of_getElem? (i := 1) rfl))) (mvT hZ (hw _ (List.mem_of_getElem? (i := 2) rfl))) (mvT hZ (hw _ (List.mem_of_getElem? (i := 3) rfl))) (by decide) (backOf (W := 0) (rm_base l Z a0 hw [] (p1 &&& (15 : Int32)) h0 n0 O0 ) hZ (hw _ (List.mem_of_getElem? (i := 3) rfl)) (hw _ (List.mem_of_getElem? (i := 2) rfl)) (by decide) (by decide)) (g := (mkF m 31 #[.val (.int p1), .val (.int p2), .val (.int (p1 &&& (15 : Int32))), .val (.int (0 : Int32)), .unset] [(.int (p1 &&& (15 : Int32)))])) rfl (by rw [hml]; rfl) (argsL := [(.int (p1 &&& (15 : Int32)))]) (rest := []) (lenOf pd_0 rfl) rfl (by show 2 * 0 + _ ≤ _; exact Nat.le_of_eq rfl) (hb hby at_31) (fun _ _ => ⟨rfl, e0, (by decide : 0 + 0 ≤ _), (by decide : 0 + 0 ≤ _)⟩)
    dsimp only [Pt.U, Pt.locs, Pt.cells, Pt.slots] at X3 l3 y3 z3 st3 hQ3
    subst l3 y3 z3
    obtain ⟨rfl, Nq3, e3⟩ := hQ3
    have N3 := Fr.app N0 Nq3
    obtain ⟨_, _, ⟨T4, L4, k4, n4⟩, -, X4, ⟨Lc4, hQ4, l4, y4, z4⟩, st4⟩ := Jvm.LawKit.callS X3 hx (y := (⟨"com/example/framewright/framewright/tamtam/Packet", "blockSize", "(IZ)I"⟩ : MethodName)) hown (mvT hZ (hw _ (List.mem_of_getElem? (i := 4) rfl))) (mvT hZ (hw _ (List.mem_of_getElem? (i := 5) rfl))) (mvT hZ (hw _ (List.mem_of_getElem? (i := 6) rfl))) (mvT hZ (hw _ (List.mem_of_getElem? (i := 7) rfl))) (by decide) (backOf (W := 0) (rm_bs l Z a0 hw [] (p1 &&& (15 : Int32)) (0 : Int32) aB kB h0 n0 O0 SB AB hp) hZ (hw _ (List.mem_of_getElem? (i := 7) rfl)) (hw _ (List.mem_of_getElem? (i := 6) rfl)) (by decide) (by decide)) (g := (mkF m 38 #[.val (.int p1), .val (.int p2), .val (.int (p1 &&& (15 : Int32))), .val (.int (0 : Int32)), .val (.int (own_base (p1 &&& (15 : Int32))))] [(.int (0 : Int32)), (.int (p1 &&& (15 : Int32)))])) rfl (by rw [hml]; rfl) (argsL := [(.int (p1 &&& (15 : Int32))), (.int (0 : Int32))]) (rest := []) (lenOf pd_1 rfl) rfl (by show 2 * 0 + _ ≤ _; exact Nat.le_of_eq rfl) (hb hby at_38) (fun _ _ => ⟨rfl, e3, (by decide : 0 + 0 ≤ _), (by decide : 0 + 0 ≤ _)⟩)
    dsimp only [Pt.U, Pt.locs, Pt.cells, Pt.slots] at X4 l4 y4 z4 st4 hQ4
    subst l4 y4 z4
    obtain ⟨rfl, Nq4, e4⟩ := hQ4
    have N4 := Fr.app N3 Nq4
    have hc5 : (if (0 : Int32) = 0 then own_tab (p1 &&& (15 : Int32)) else 2 * own_tab (p1 &&& (15 : Int32))) = (own_base (p1 &&& (15 : Int32))) := (by rw [hbt]; simp)
    obtain ⟨fs, hr, hrun, hended, hW, hsame⟩ := X4.leave (v := some (.int (1 : Int32))) (fun h => by rw [Bd.returns] at h; cases h)
    refine ⟨_, _, pre1 _ ?_, hrun, hended, _, _, rfl, ?_, ⟨_, rfl⟩, hW, hsame.mono (by decide) (by decide)⟩
    · refine XS.ifYes X0.here hx rfl (pc0 := 8) (pc' := 15) rfl (hb hby at_8) rfl ((if0 _ _).trans (teq hc2).1) (by decide) (by decide) ?_
      refine XS.iconst X0.here hx rfl (hb hby at_15) ?_
      refine XS.istoreN X0.here hx rfl (hb hby at_16) rfl (l' := #[.val (.int p1), .val (.int p2), .val (.int (p1 &&& (15 : Int32))), .val (.int (0 : Int32)), .unset]) rfl ?_
      refine XS.iloadN X0.here hx rfl (hb hby at_17) rfl ?_
      show Steps p.tables e below (s₁.setTop (mkF m 18 #[.val (.int p1), .val (.int p2), .val (.int (p1 &&& (15 : Int32))), .val (.int (0 : Int32)), .unset] [(.int (0 : Int32))])) _
      refine XS.ifYes X0.here hx rfl (pc0 := 18) (pc' := 30) rfl (hb hby at_18) rfl ((if0 _ _).trans (teq (by decide : (0 : Int32) = (0 : Int32))).1) (by decide) (by decide) ?_
      refine XS.iloadN X0.here hx rfl (hb hby at_30) rfl ?_
      show Steps p.tables e below (s₁.setTop (mkF m 31 #[.val (.int p1), .val (.int p2), .val (.int (p1 &&& (15 : Int32))), .val (.int (0 : Int32)), .unset] [(.int (p1 &&& (15 : Int32)))])) _
      refine st3 _ ?_
      show Steps p.tables e below (T3.setTop (mkF m 34 #[.val (.int p1), .val (.int p2), .val (.int (p1 &&& (15 : Int32))), .val (.int (0 : Int32)), .unset] [(.int (own_base (p1 &&& (15 : Int32))))])) _
      refine XS.istore X3.here hx rfl (hb hby at_34) rfl (l' := #[.val (.int p1), .val (.int p2), .val (.int (p1 &&& (15 : Int32))), .val (.int (0 : Int32)), .val (.int (own_base (p1 &&& (15 : Int32))))]) rfl ?_
      refine XS.iloadN X3.here hx rfl (hb hby at_36) rfl ?_
      refine XS.iloadN X3.here hx rfl (hb hby at_37) rfl ?_
      show Steps p.tables e below (T3.setTop (mkF m 38 #[.val (.int p1), .val (.int p2), .val (.int (p1 &&& (15 : Int32))), .val (.int (0 : Int32)), .val (.int (own_base (p1 &&& (15 : Int32))))] [(.int (0 : Int32)), (.int (p1 &&& (15 : Int32)))])) _
      refine st4 _ ?_
      show Steps p.tables e below (T4.setTop (mkF m 41 #[.val (.int p1), .val (.int p2), .val (.int (p1 &&& (15 : Int32))), .val (.int (0 : Int32)), .val (.int (own_base (p1 &&& (15 : Int32))))] [(.int (if (0 : Int32) = 0 then own_tab (p1 &&& (15 : Int32)) else 2 * own_tab (p1 &&& (15 : Int32))))])) _
      refine XS.iload X4.here hx rfl (hb hby at_41) rfl ?_
      refine XS.icmpNo X4.here hx rfl (hb hby at_43) rfl (teq hc5).2 ?_
      refine XS.iconst X4.here hx rfl (hb hby at_46) ?_
      refine XS.goto X4.here hx rfl (pc0 := 47) (pc' := 51) rfl (hb hby at_47) (by decide) (by decide) ?_
      show Steps p.tables e below (T4.setTop (mkF m 51 #[.val (.int p1), .val (.int p2), .val (.int (p1 &&& (15 : Int32))), .val (.int (0 : Int32)), .val (.int (own_base (p1 &&& (15 : Int32))))] [(.int (1 : Int32))])) _
      exact retOut X4 hx (t := .boolean) (i := .ireturn) Bd.returns rfl (Or.inl ⟨rfl, Or.inr (Or.inl rfl), _, rfl⟩) (hb hby at_51) hr
    · show Q_law Z p1 p2 aB kB h0 n0 _ T4.heap _
      rw [e4]
      exact ⟨rfl, N4⟩
  · obtain ⟨_, _, ⟨T6, L6, k6, n6⟩, -, X6, ⟨Lc6, hQ6, l6, y6, z6⟩, st6⟩ := Jvm.LawKit.callS X0 hx (y := (⟨"com/example/framewright/framewright/tamtam/PacketBlockSizePinLaw", "base", "(I)I"⟩ : MethodName)) hown (mvT hZ (hw _ (List.mem_of_getElem? (i := 0) rfl))) (mvT hZ (hw _ (List.mem_of_getElem? (i := 1) rfl))) (mvT hZ (hw _ (List.mem_of_getElem? (i := 2) rfl))) (mvT hZ (hw _ (List.mem_of_getElem? (i := 3) rfl))) (by decide) (backOf (W := 1) (rm_base l Z a0 hw [] (p1 &&& (15 : Int32)) h0 n0 O0 ) hZ (hw _ (List.mem_of_getElem? (i := 3) rfl)) (hw _ (List.mem_of_getElem? (i := 2) rfl)) (by decide) (by decide)) (g := (mkF m 23 #[.val (.int p1), .val (.int p2), .val (.int (p1 &&& (15 : Int32))), .val (.int (1 : Int32)), .unset] [(.int (p1 &&& (15 : Int32))), (.int (2 : Int32))])) rfl (by rw [hml]; rfl) (argsL := [(.int (p1 &&& (15 : Int32)))]) (rest := [(.int (2 : Int32))]) (lenOf pd_0 rfl) rfl (by show 2 * 0 + _ ≤ _; exact Nat.le_of_eq rfl) (hb hby at_23) (fun _ _ => ⟨rfl, e0, (by decide : 0 + 0 ≤ _), (by decide : 0 + 0 ≤ _)⟩)
    dsimp only [Pt.U, Pt.locs, Pt.cells, Pt.slots] at X6 l6 y6 z6 st6 hQ6
    subst l6 y6 z6
    obtain ⟨rfl, Nq6, e6⟩ := hQ6
    have N6 := Fr.app N0 Nq6
    obtain ⟨_, _, ⟨T7, L7, k7, n7⟩, -, X7, ⟨Lc7, hQ7, l7, y7, z7⟩, st7⟩ := Jvm.LawKit.callS X6 hx (y := (⟨"com/example/framewright/framewright/tamtam/Packet", "blockSize", "(IZ)I"⟩ : MethodName)) hown (mvT hZ (hw _ (List.mem_of_getElem? (i := 4) rfl))) (mvT hZ (hw _ (List.mem_of_getElem? (i := 5) rfl))) (mvT hZ (hw _ (List.mem_of_getElem? (i := 6) rfl))) (mvT hZ (hw _ (List.mem_of_getElem? (i := 7) rfl))) (by decide) (backOf (W := 0) (rm_bs l Z a0 hw [] (p1 &&& (15 : Int32)) (1 : Int32) aB kB h0 n0 O0 SB AB hp) hZ (hw _ (List.mem_of_getElem? (i := 7) rfl)) (hw _ (List.mem_of_getElem? (i := 6) rfl)) (by decide) (by decide)) (g := (mkF m 38 #[.val (.int p1), .val (.int p2), .val (.int (p1 &&& (15 : Int32))), .val (.int (1 : Int32)), .val (.int ((2 : Int32) * (own_base (p1 &&& (15 : Int32)))))] [(.int (1 : Int32)), (.int (p1 &&& (15 : Int32)))])) rfl (by rw [hml]; rfl) (argsL := [(.int (p1 &&& (15 : Int32))), (.int (1 : Int32))]) (rest := []) (lenOf pd_1 rfl) rfl (by show 2 * 0 + _ ≤ _; exact Nat.le_of_eq rfl) (hb hby at_38) (fun _ _ => ⟨rfl, e6, (by decide : 0 + 0 ≤ _), (by decide : 0 + 0 ≤ _)⟩)
    dsimp only [Pt.U, Pt.locs, Pt.cells, Pt.slots] at X7 l7 y7 z7 st7 hQ7
    subst l7 y7 z7
    obtain ⟨rfl, Nq7, e7⟩ := hQ7
    have N7 := Fr.app N6 Nq7
    have hc8 : (if (1 : Int32) = 0 then own_tab (p1 &&& (15 : Int32)) else 2 * own_tab (p1 &&& (15 : Int32))) = ((2 : Int32) * (own_base (p1 &&& (15 : Int32)))) := (by rw [hbt]; simp)
    obtain ⟨fs, hr, hrun, hended, hW, hsame⟩ := X7.leave (v := some (.int (1 : Int32))) (fun h => by rw [Bd.returns] at h; cases h)
    refine ⟨_, _, pre1 _ ?_, hrun, hended, _, _, rfl, ?_, ⟨_, rfl⟩, hW, hsame.mono (by decide) (by decide)⟩
    · refine XS.ifNo X0.here hx rfl (hb hby at_8) rfl ((if0 _ _).trans (feq hc2).1) ?_
      refine XS.iconst X0.here hx rfl (hb hby at_11) ?_
      refine XS.goto X0.here hx rfl (pc0 := 12) (pc' := 16) rfl (hb hby at_12) (by decide) (by decide) ?_
      refine XS.istoreN X0.here hx rfl (hb hby at_16) rfl (l' := #[.val (.int p1), .val (.int p2), .val (.int (p1 &&& (15 : Int32))), .val (.int (1 : Int32)), .unset]) rfl ?_
      show Steps p.tables e below (s₁.setTop (mkF m 17 #[.val (.int p1), .val (.int p2), .val (.int (p1 &&& (15 : Int32))), .val (.int (1 : Int32)), .unset] [])) _
      refine XS.iloadN X0.here hx rfl (hb hby at_17) rfl ?_
      refine XS.ifNo X0.here hx rfl (hb hby at_18) rfl ((if0 _ _).trans (feq (by decide : ¬ ((1 : Int32) = (0 : Int32)))).1) ?_
      refine XS.iconst X0.here hx rfl (hb hby at_21) ?_
      refine XS.iloadN X0.here hx rfl (hb hby at_22) rfl ?_
      show Steps p.tables e below (s₁.setTop (mkF m 23 #[.val (.int p1), .val (.int p2), .val (.int (p1 &&& (15 : Int32))), .val (.int (1 : Int32)), .unset] [(.int (p1 &&& (15 : Int32))), (.int (2 : Int32))])) _
      refine st6 _ ?_
      show Steps p.tables e below (T6.setTop (mkF m 26 #[.val (.int p1), .val (.int p2), .val (.int (p1 &&& (15 : Int32))), .val (.int (1 : Int32)), .unset] [(.int (own_base (p1 &&& (15 : Int32)))), (.int (2 : Int32))])) _
      refine XS.imul X6.here hx rfl (hb hby at_26) rfl ?_
      refine XS.goto X6.here hx rfl (pc0 := 27) (pc' := 34) rfl (hb hby at_27) (by decide) (by decide) ?_
      refine XS.istore X6.here hx rfl (hb hby at_34) rfl (l' := #[.val (.int p1), .val (.int p2), .val (.int (p1 &&& (15 : Int32))), .val (.int (1 : Int32)), .val (.int ((2 : Int32) * (own_base (p1 &&& (15 : Int32)))))]) rfl ?_
      refine XS.iloadN X6.here hx rfl (hb hby at_36) rfl ?_
      show Steps p.tables e below (T6.setTop (mkF m 37 #[.val (.int p1), .val (.int p2), .val (.int (p1 &&& (15 : Int32))), .val (.int (1 : Int32)), .val (.int ((2 : Int32) * (own_base (p1 &&& (15 : Int32)))))] [(.int (p1 &&& (15 : Int32)))])) _
      refine XS.iloadN X6.here hx rfl (hb hby at_37) rfl ?_
      show Steps p.tables e below (T6.setTop (mkF m 38 #[.val (.int p1), .val (.int p2), .val (.int (p1 &&& (15 : Int32))), .val (.int (1 : Int32)), .val (.int ((2 : Int32) * (own_base (p1 &&& (15 : Int32)))))] [(.int (1 : Int32)), (.int (p1 &&& (15 : Int32)))])) _
      refine st7 _ ?_
      show Steps p.tables e below (T7.setTop (mkF m 41 #[.val (.int p1), .val (.int p2), .val (.int (p1 &&& (15 : Int32))), .val (.int (1 : Int32)), .val (.int ((2 : Int32) * (own_base (p1 &&& (15 : Int32)))))] [(.int (if (1 : Int32) = 0 then own_tab (p1 &&& (15 : Int32)) else 2 * own_tab (p1 &&& (15 : Int32))))])) _
      refine XS.iload X7.here hx rfl (hb hby at_41) rfl ?_
      refine XS.icmpNo X7.here hx rfl (hb hby at_43) rfl (teq hc8).2 ?_
      refine XS.iconst X7.here hx rfl (hb hby at_46) ?_
      refine XS.goto X7.here hx rfl (pc0 := 47) (pc' := 51) rfl (hb hby at_47) (by decide) (by decide) ?_
      show Steps p.tables e below (T7.setTop (mkF m 51 #[.val (.int p1), .val (.int p2), .val (.int (p1 &&& (15 : Int32))), .val (.int (1 : Int32)), .val (.int ((2 : Int32) * (own_base (p1 &&& (15 : Int32)))))] [(.int (1 : Int32))])) _
      exact retOut X7 hx (t := .boolean) (i := .ireturn) Bd.returns rfl (Or.inl ⟨rfl, Or.inr (Or.inl rfl), _, rfl⟩) (hb hby at_51) hr
    · show Q_law Z p1 p2 aB kB h0 n0 _ T7.heap _
      rw [e7]
      exact ⟨rfl, N7⟩
theorem own_len {args : Array Value} {s : State} {t : Term} {a : Addr} {c : Cell} {ty : FieldType} {z : Int32} (ev : t.eval args s none [] s = some (.ref a)) (A : Arr s s.heap a c ty) (h : (Term.length t).eval args s none [] s = some (.int z)) : c.slots.size < 2 ^ 31 ∧ c.slots.size.toInt32 = z := by
  have ha : s.arrayAt? a = some c := A.fin (Vm.Alike.refl _)
  by_cases hl : c.slots.size < 2 ^ 31
  · rw [len_f ev ha hl] at h; exact ⟨hl, Value.int.inj (Option.some.inj h)⟩
  · simp [Term.eval, ev, ha, hl] at h
theorem own_eqI {args : Array Value} {s : State} {t : Term} {k : Int32} (h : (Jvm.Cond.eq t (.int k)).value args s none s [] = some true) : t.eval args s none [] s = some (.int k) := by
  simp only [Cond.value, Term.eval] at h
  cases ht : t.eval args s none [] s with
  | none => simp [ht] at h
  | some x => cases x <;> simp [ht] at h ⊢; exact h
theorem own_eqL {args : Array Value} {s : State} {t : Term} {k : Int64} (h : (Jvm.Cond.eq t (.long k)).value args s none s [] = some true) : t.eval args s none [] s = some (.long k) := by
  simp only [Cond.value, Term.eval] at h
  cases ht : t.eval args s none [] s with
  | none => simp [ht] at h
  | some x => cases x <;> simp [ht] at h ⊢; exact h
set_option maxRecDepth 65536 in
set_option maxHeartbeats 40000000 in
theorem comes_1 {Post : Tables → Env → Array Value → State → Outcome → State → Prop} (hpost : ∀ tb e args s v u, (limb_1_1.after args s (.returned v) u = true ∧ limb_1_2.after args s (.returned v) u = true ∧ True) → FrameEnd s (.returned v) u (Jvm.fieldLocs frame_1_writes args s ++ Jvm.arrayLocs frame_1_arrays args s ++ Jvm.staticLocs frame_1_statics s) 0 0 → Post tb e args s (.returned v) u) :
    ArmFor flags0 classFile x code maxLocals ret World_1 tables_1 room_1 Calls_1 rest_1 Pre_1 Post := by
  intro l hfl _ _ p e ha hc hk s m args below hf hA hF happ hP
  obtain ⟨hcalls, hrest, hpre⟩ := hP
  obtain ⟨-, -, -, hnamed, -, -, -, hat⟩ := (Spec.applies_iff hf).mp happ
  obtain ⟨hg, hn⟩ := and_e (Cond.before_iff.mp (show (Jvm.Cond.and given_1 narrow_1).before args s = true from hpre))
  obtain ⟨nn1, nn2⟩ := and_e hg
  obtain ⟨nn3, nn4⟩ := and_e nn2
  obtain ⟨w0, w1, rfl⟩ : ∃ w0 w1 : Value, args = #[w0, w1] := by
    have hs : args.size = 2 := by simpa [Cond.value, given_1] using nn1
    obtain ⟨L⟩ := args
    match L, hs with
    | [w0, w1], _ => exact ⟨w0, w1, rfl⟩
  have hw := fun d (hd : d ∈ tables_1) => atoms_spec (ws := Jvm.Cond.code x code maxLocals ret :: tables_1) hat d (List.mem_cons_of_mem _ hd)
  have hfit : Fit s := fun {y c} hc i hi => by
    obtain ⟨ha, rfl⟩ := Array.getElem?_eq_some_iff.mp hc
    have q := List.all_eq_true.mp ((Array.all_eq_true_iff_forall_mem.mp hF) _ (Array.getElem_mem ha)) i (List.mem_range.mpr hi)
    simpa [Array.getElem?_eq_getElem hi] using q
  obtain ⟨i0, ei0⟩ := is_v nn3
  obtain rfl : w0 = (.int i0) := Option.some.inj ei0
  obtain ⟨i1, ei1⟩ := is_v nn4
  obtain rfl : w1 = (.int i1) := Option.some.inj ei1
  obtain ⟨nn1, nn2⟩ := and_e hn
  obtain ⟨nn3, nn4⟩ := and_e nn2
  obtain ⟨nn5, nn6⟩ := and_e nn4
  obtain ⟨nn7, nn8⟩ := and_e nn6
  obtain ⟨nn9, nn10⟩ := and_e nn8
  obtain ⟨nn11, nn12⟩ := and_e nn10
  obtain ⟨nn13, nn14⟩ := and_e nn12
  obtain ⟨nn15, nn16⟩ := and_e nn14
  obtain ⟨nn17, nn18⟩ := and_e nn16
  obtain ⟨nn19, nn20⟩ := and_e nn18
  obtain ⟨nn21, nn22⟩ := and_e nn20
  obtain ⟨nn23, nn24⟩ := and_e nn22
  obtain ⟨nn25, nn26⟩ := and_e nn24
  obtain ⟨nn27, nn28⟩ := and_e nn26
  obtain ⟨nn29, nn30⟩ := and_e nn28
  obtain ⟨nn31, nn32⟩ := and_e nn30
  obtain ⟨nn33, nn34⟩ := and_e nn32
  obtain ⟨aB, evB⟩ := arr_v nn1
  have SB : Sta s s.heap "com/example/framewright/framewright/tamtam/Packet" "BLOCK_SIZES" "[I" (.ref aB) := Sta.start evB (Or.inr ⟨(hw _ (List.mem_of_getElem? (i := 6) rfl)), (hw _ (List.mem_of_getElem? (i := 9) rfl))⟩)
  obtain ⟨cB, ArB⟩ := Arr.start evB nn1
  have hel := own_eqI nn3
  obtain ⟨hszB, hleB⟩ := own_len evB ArB hel
  have q0 := (elem_in (own_eqI nn5) evB (Term.int_eval _) ArB.1).2
  have q1 := (elem_in (own_eqI nn7) evB (Term.int_eval _) ArB.1).2
  have q2 := (elem_in (own_eqI nn9) evB (Term.int_eval _) ArB.1).2
  have q3 := (elem_in (own_eqI nn11) evB (Term.int_eval _) ArB.1).2
  have q4 := (elem_in (own_eqI nn13) evB (Term.int_eval _) ArB.1).2
  have q5 := (elem_in (own_eqI nn15) evB (Term.int_eval _) ArB.1).2
  have q6 := (elem_in (own_eqI nn17) evB (Term.int_eval _) ArB.1).2
  have q7 := (elem_in (own_eqI nn19) evB (Term.int_eval _) ArB.1).2
  have q8 := (elem_in (own_eqI nn21) evB (Term.int_eval _) ArB.1).2
  have q9 := (elem_in (own_eqI nn23) evB (Term.int_eval _) ArB.1).2
  have q10 := (elem_in (own_eqI nn25) evB (Term.int_eval _) ArB.1).2
  have q11 := (elem_in (own_eqI nn27) evB (Term.int_eval _) ArB.1).2
  have q12 := (elem_in (own_eqI nn29) evB (Term.int_eval _) ArB.1).2
  have q13 := (elem_in (own_eqI nn31) evB (Term.int_eval _) ArB.1).2
  have q14 := (elem_in (own_eqI nn33) evB (Term.int_eval _) ArB.1).2
  have q15 := (elem_in (own_eqI nn34) evB (Term.int_eval _) ArB.1).2
  have AB : Arv s s.heap aB cB.cls .int (16 : Int32) (own_list.map Value.int) (.int 0) := Arv.start hfit ArB hszB hleB (by decide) rfl ⟨q0, q1, q2, q3, q4, q5, q6, q7, q8, q9, q10, q11, q12, q13, q14, q15, trivial⟩
  obtain ⟨n, o, h1, h2, h3, _, L, rfl, ⟨rfl, N⟩, hq⟩ := rm_law l s _ hw tables_1 i0 i1 aB cB.cls s.heap s.heap.size (Old.start s) SB AB p e ha hc hk s m _ below hf ((Spec.applies_iff_loose hf).mp happ).1 ⟨rfl, State.Warmed39.refl s, rfl⟩ trivial
  refine ⟨n, _, h1, h2, h3, hpost _ _ _ _ _ _ ⟨Cond.after_iff.mpr rfl, Cond.after_iff.mpr (eq_i res_at (Term.int_eval (1)) rfl), trivial⟩ ⟨hq.1, hq.2.1, (hq.2.2.sift fun y hy => Or.inr (N y hy)).mono (by decide) (by decide)⟩⟩
theorem main_1_1 : Claimed_1_1 := comes_1 fun _ _ _ _ _ _ h hF => ⟨h.1, hF⟩
theorem main_1_2 : Claimed_1_2 := comes_1 fun _ _ _ _ _ _ h hF => ⟨h.2.1, hF⟩

end Jvm.Pilot.@@N@@
namespace Jvm.Pilot.@@N@@
open Jvm Jvm.ClassFile Sem Op Lib Jvm.Free Jvm.Stand Jvm.Pilot.@@N@@.Jvm.D
/-! MADE BY PROGRAM (witnessworld.py) out of the Statement's table words and the real class files: 9 classes; the members and pool entries that the words name. The judged class is class 1, her method 2. -/
namespace start1
open Jvm.ClassFile
def u (s : String) : CpInfo := .utf8 (stringToUtf16 s)
/-- a pool by its gaps: so many unusable entries, then the entry; so many at the end -/
def gap : Nat → List CpInfo → List CpInfo
  | 0, r => r
  | n + 1, r => .unusable :: gap n r
def poolList (es : List (Nat × CpInfo)) (last : Nat) : List CpInfo := es.foldr (fun e r => gap e.1 (e.2 :: r)) (gap last [])
def pool (es : List (Nat × CpInfo)) (last : Nat) : Array CpInfo := ⟨poolList es last⟩
def fileOf (pool : Array CpInfo) (this : Nat) (attrs : Array Attribute := #[]) (ms : Array MethodInfo := #[]) (fl : Nat := 33) (sup : Nat := 0) (ifs : Array Nat := #[]) (fds : Array FieldInfo := #[]) : ClassFile where
  minorVersion := 0
  majorVersion := 65
  constantPool := pool
  accessFlags := fl
  thisClass := this
  superClass := sup
  interfaces := ifs
  fields := fds
  methods := ms
  attributes := attrs
def plain (name : String) (sup : Option ClassId) : Class where
  name := name
  kind := .ordinary
  loader := none
  accessFlags := 33
  super := sup
  interfaces := #[]
  cf := none
  fields := #[]
  methods := #[]
  instanceTypes := #[]
  staticTypes := #[]
  resolved := #[]
  callSites := []
  init := .initialized
  statics := none
  mirror := none

def pool0 : Array CpInfo := pool [(5, u "<init>"), (0, u "()V"), (1, .class_ 10), (1, u "java/lang/Object")] 113

def k0m0 : Method := { name := "<init>", desc := "()V", sig := { parameters := [], returnType := none }, accessFlags := 1, code := none }
/-- java/lang/Object -/
def k0 : Class := { plain "java/lang/Object" none with
  accessFlags := 33
  interfaces := #[]
  cf := some (fileOf pool0 8 #[] #[{ accessFlags := 1, nameIndex := 5, descriptorIndex := 6, attributes := #[] }] 33 0 #[] #[])
  fields := #[]
  methods := #[k0m0]
  instanceTypes := #[]
  staticTypes := #[]
  resolved := Array.replicate 124 none
  statics := none }

def pool1 : Array CpInfo := pool [(2, .class_ 4), (1, u "java/lang/Object"), (0, u "<init>"), (0, u "()V"), (0, .methodref 8 9), (0, .class_ 10), (0, .nameAndType 11 12), (0, u "com/example/framewright/framewright/tamtam/PacketBlockSizePinLaw"), (0, u "base"), (0, u "(I)I"), (0, .methodref 14 15), (0, .class_ 16), (0, .nameAndType 17 18), (0, u "com/example/framewright/framewright/tamtam/Packet"), (0, u "blockSize"), (0, u "(IZ)I"), (3, u "law"), (0, u "(II)Z")] 2

def k1m0 : Method := { name := "<init>", desc := "()V", sig := { parameters := [], returnType := none }, accessFlags := 2, code := none }
def k1c1 : Code := { maxStack := 3, maxLocals := 1, code := method_2_code, exceptionTable := #[], attributes := #[] }
def k1m1 : Method := { name := "base", desc := "(I)I", sig := { parameters := [.int], returnType := some .int }, accessFlags := 10, code := some k1c1 }
def k1c2 : Code := { maxStack := 2, maxLocals := 5, code := code, exceptionTable := #[], attributes := #[] }
def k1m2 : Method := { name := "law", desc := "(II)Z", sig := { parameters := [.int, .int], returnType := some .boolean }, accessFlags := 9, code := some k1c2 }
/-- com/example/framewright/framewright/tamtam/PacketBlockSizePinLaw -/
def k1 : Class := { plain "com/example/framewright/framewright/tamtam/PacketBlockSizePinLaw" (some 0) with
  accessFlags := 49
  interfaces := #[]
  cf := some (fileOf pool1 8 #[] #[{ accessFlags := 2, nameIndex := 5, descriptorIndex := 6, attributes := #[] }, { accessFlags := 10, nameIndex := 11, descriptorIndex := 12, attributes := #[] }, { accessFlags := 9, nameIndex := 22, descriptorIndex := 23, attributes := #[] }] 49 2 #[] #[])
  fields := #[]
  methods := #[k1m0, k1m1, k1m2]
  instanceTypes := #[]
  staticTypes := #[]
  resolved := Array.replicate 26 none
  statics := none }

def pool2 : Array CpInfo := pool [(1, .class_ 2), (0, u "com/example/framewright/framewright/tamtam/Packet"), (1, .class_ 6), (1, u "java/lang/Object"), (34, u "blockSize"), (0, u "(IZ)I"), (6, u "packetClass"), (0, u "I"), (2, u "direction"), (2, u "sizeId"), (2, u "flags"), (2, u "channel"), (2, u "destOrchestrator"), (0, u "Ljava/lang/Integer;"), (3, u "[B"), (4, u "payload"), (18, .fieldref 1 95), (0, .nameAndType 96 97), (0, u "BLOCK_SIZES"), (0, u "[I"), (54, u "BIG_MODE"), (2, u "ACK_REQUESTED"), (1, u "PRIORITY"), (1, u "HAS_EXT"), (1, u "MAX_BLOCK_SIZE"), (1, u "NIBBLE_VALUES"), (1, u "HEADER_LENGTH"), (1, u "DEST_LENGTH"), (0, u "INTEGRITY_LENGTH"), (0, u "MAX_LENGTH")] 31

def k2c0 : Code := { maxStack := 3, maxLocals := 2, code := prog_18_method_4_code, exceptionTable := #[], attributes := #[] }
def k2m0 : Method := { name := "blockSize", desc := "(IZ)I", sig := { parameters := [.int, .boolean], returnType := some .int }, accessFlags := 9, code := some k2c0 }
/-- com/example/framewright/framewright/tamtam/Packet -/
def k2 : Class := { plain "com/example/framewright/framewright/tamtam/Packet" (some 0) with
  accessFlags := 49
  interfaces := #[]
  cf := some (fileOf pool2 1 #[] #[{ accessFlags := 9, nameIndex := 41, descriptorIndex := 42, attributes := #[] }] 49 4 #[] #[{ accessFlags := 25, nameIndex := 152, descriptorIndex := 50, attributes := #[] }, { accessFlags := 25, nameIndex := 155, descriptorIndex := 50, attributes := #[] }, { accessFlags := 25, nameIndex := 157, descriptorIndex := 50, attributes := #[] }, { accessFlags := 25, nameIndex := 159, descriptorIndex := 50, attributes := #[] }, { accessFlags := 25, nameIndex := 161, descriptorIndex := 50, attributes := #[] }, { accessFlags := 24, nameIndex := 163, descriptorIndex := 50, attributes := #[] }, { accessFlags := 24, nameIndex := 165, descriptorIndex := 50, attributes := #[] }, { accessFlags := 24, nameIndex := 167, descriptorIndex := 50, attributes := #[] }, { accessFlags := 24, nameIndex := 168, descriptorIndex := 50, attributes := #[] }, { accessFlags := 24, nameIndex := 169, descriptorIndex := 50, attributes := #[] }, { accessFlags := 26, nameIndex := 96, descriptorIndex := 97, attributes := #[] }, { accessFlags := 18, nameIndex := 49, descriptorIndex := 50, attributes := #[] }, { accessFlags := 18, nameIndex := 53, descriptorIndex := 50, attributes := #[] }, { accessFlags := 18, nameIndex := 56, descriptorIndex := 50, attributes := #[] }, { accessFlags := 18, nameIndex := 59, descriptorIndex := 50, attributes := #[] }, { accessFlags := 18, nameIndex := 62, descriptorIndex := 50, attributes := #[] }, { accessFlags := 18, nameIndex := 65, descriptorIndex := 66, attributes := #[] }, { accessFlags := 18, nameIndex := 75, descriptorIndex := 70, attributes := #[] }])
  fields := #[{ name := "BIG_MODE", type := .int, accessFlags := 25, slot := 0, constantValue := 0 }, { name := "ACK_REQUESTED", type := .int, accessFlags := 25, slot := 1, constantValue := 0 }, { name := "PRIORITY", type := .int, accessFlags := 25, slot := 2, constantValue := 0 }, { name := "HAS_EXT", type := .int, accessFlags := 25, slot := 3, constantValue := 0 }, { name := "MAX_BLOCK_SIZE", type := .int, accessFlags := 25, slot := 4, constantValue := 0 }, { name := "NIBBLE_VALUES", type := .int, accessFlags := 24, slot := 5, constantValue := 0 }, { name := "HEADER_LENGTH", type := .int, accessFlags := 24, slot := 6, constantValue := 0 }, { name := "DEST_LENGTH", type := .int, accessFlags := 24, slot := 7, constantValue := 0 }, { name := "INTEGRITY_LENGTH", type := .int, accessFlags := 24, slot := 8, constantValue := 0 }, { name := "MAX_LENGTH", type := .int, accessFlags := 24, slot := 9, constantValue := 0 }, { name := "BLOCK_SIZES", type := (.array .int), accessFlags := 26, slot := 10, constantValue := 0 }, { name := "packetClass", type := .int, accessFlags := 18, slot := 0, constantValue := 0 }, { name := "direction", type := .int, accessFlags := 18, slot := 1, constantValue := 0 }, { name := "sizeId", type := .int, accessFlags := 18, slot := 2, constantValue := 0 }, { name := "flags", type := .int, accessFlags := 18, slot := 3, constantValue := 0 }, { name := "channel", type := .int, accessFlags := 18, slot := 4, constantValue := 0 }, { name := "destOrchestrator", type := (.object "java/lang/Integer"), accessFlags := 18, slot := 5, constantValue := 0 }, { name := "payload", type := (.array .byte), accessFlags := 18, slot := 6, constantValue := 0 }]
  methods := #[k2m0]
  instanceTypes := #[.int, .int, .int, .int, .int, (.object "java/lang/Integer"), (.array .byte)]
  staticTypes := #[.int, .int, .int, .int, .int, .int, .int, .int, .int, .int, (.array .int)]
  resolved := Array.replicate 201 none
  statics := some 0 }

def pool3 : Array CpInfo := pool [(1, u "java/lang/Cloneable"), (0, .class_ 1), (0, u "java/lang/Object"), (0, .class_ 3)] 3

/-- java/lang/Cloneable -/
def k3 : Class := { plain "java/lang/Cloneable" (some 0) with
  accessFlags := 1537
  interfaces := #[]
  cf := some (fileOf pool3 2 #[] #[] 1537 4 #[] #[])
  fields := #[]
  methods := #[]
  instanceTypes := #[]
  staticTypes := #[]
  resolved := Array.replicate 8 none
  statics := none }

def pool4 : Array CpInfo := pool [(1, u "java/io/Serializable"), (0, .class_ 1), (0, u "java/lang/Object"), (0, .class_ 3)] 3

/-- java/io/Serializable -/
def k4 : Class := { plain "java/io/Serializable" (some 0) with
  accessFlags := 1537
  interfaces := #[]
  cf := some (fileOf pool4 2 #[] #[] 1537 4 #[] #[])
  fields := #[]
  methods := #[]
  instanceTypes := #[]
  staticTypes := #[]
  resolved := Array.replicate 8 none
  statics := none }

/-- the primitive byte -/
def k5 : Class := { plain "byte" none with kind := .primitive 'B', accessFlags := 0x411 }
/-- [B -/
def k6 : Class := { plain "[B" (some 0) with kind := .array 5 .byte, interfaces := #[3, 4], accessFlags := 1041 }

/-- the primitive int -/
def k7 : Class := { plain "int" none with kind := .primitive 'I', accessFlags := 0x411 }
/-- [I -/
def k8 : Class := { plain "[I" (some 0) with kind := .array 7 .int, interfaces := #[3, 4], accessFlags := 1041 }

def heap : Heap := #[{ cls := 2, slots := #[.int 0, .int 0, .int 0, .int 0, .int 0, .int 0, .int 0, .int 0, .int 0, .int 0, .ref 1], vm := .statics 2 },
  { cls := 8, slots := #[.int 0, .int 16, .int 32, .int 64, .int 96, .int 128, .int 192, .int 256, .int 384, .int 512, .int 768, .int 1024, .int 1536, .int 2048, .int 3072, .int 4096], vm := .none }]
def classes : Array Class := #[k0, k1, k2, k3, k4, k5, k6, k7, k8]
def interned : List (Array UInt16 × Addr) := []
def slotsUsed : Nat := 27
def theMethod : MethodId := ⟨1, 2⟩
def args0 : Array Value := #[.int 5, .int 3]
def aboutOver (below : List Frame) : State where
  vm := { classes := classes, interned := interned.toArray }
  heap := heap
  slotsUsed := slotsUsed
  threads := #[{ frames := .invoking theMethod args0 :: below }]
def below0 : List Frame := [.native { method := ⟨0, 0⟩, args := #[] }]
def about1 : State := aboutOver below0
def p0 : Program := .bare "" "" ""
def e0 : Env := launch0.env 0 0 0
theorem w_frames : about1.frames = Frame.invoking theMethod args0 :: below0 := rfl
set_option maxRecDepth 65536 in
theorem w_args : argsFit about1.vm theMethod args0 = true := by decide +kernel
set_option maxRecDepth 65536 in
theorem w_heap : heapFits about1 = true := by decide +kernel
set_option maxRecDepth 65536 in
theorem w_runnable : about1.curStatus? = some .runnable := by decide +kernel
set_option maxRecDepth 65536 in
theorem w_alone : about1.alone = true := by decide +kernel
set_option maxRecDepth 65536 in
theorem w_named : about1.methodNamed? x = some theMethod := by decide +kernel
set_option maxRecDepth 65536 in
theorem w_hears : about1.hears theMethod below0 = true := by decide +kernel
set_option maxRecDepth 65536 in
theorem w_ripe : about1.ripe theMethod args0 below0 = true := by decide +kernel
theorem w_running : about1.status = .running := rfl
set_option maxRecDepth 65536 in
theorem w_room : about1.hasRoom e0.platform room_1 = true :=
  launch0.hasRoom_least _ room_1 (by decide +kernel) (by decide +kernel) (by decide +kernel) (by decide +kernel) (by decide +kernel) (by decide +kernel)
theorem allAtoms_all (ts : List Jvm.Cond) (a : Array Jvm.Value) (st : Jvm.State) : (allAtoms ts).before a st = ts.all (fun c => c.before a st) := by
  induction ts with
  | nil => rfl
  | cons c t ih =>
    show (Jvm.Cond.and c (allAtoms t)).before a st = _
    rw [Jvm.Cond.before_and, ih, List.all_cons]
def words1 : List Jvm.Cond := Jvm.Cond.code x code maxLocals ret :: tables_1
/-- a 'code' word, met by the world's own term for the bytes: nothing is compared byte by byte -/
theorem code_word {y : MethodName} {bytes : ByteArray} {mx : Nat} {rt : Option FieldType} {a : Array Value} {s : State} {m : MethodId} {meth : Method} {c : Code} (h1 : s.methodNamed? y = some m) (h2 : s.vm.method? m = some meth) (h3 : meth.code = some c) (h4 : c.code = bytes)
    (h5 : (c.maxLocals == mx && c.exceptionTable.isEmpty && decide (c.maxStack ≤ mostOperands) && decide (meth.sig.returnType = rt) && !meth.locks && decide (parseMethodDescriptor y.desc = some meth.sig)) = true) : (Jvm.Cond.code y bytes mx rt).before a s = true := by
  simp only [Bool.and_eq_true, beq_iff_eq, Bool.not_eq_true', decide_eq_true_eq] at h5
  obtain ⟨⟨⟨⟨⟨g1, g2⟩, g3⟩, g4⟩, g5⟩, g6⟩ := h5
  simp [Cond.before, Cond.holds, Cond.value, h1, h2, h3, h4, g1, g2, g3, g4, g5, g6]
def isCode : Jvm.Cond → Bool
  | .code _ _ _ _ => true
  | _ => false
theorem all_split {L : List Jvm.Cond} {P : Jvm.Cond → Bool} (h1 : L.all (fun c => isCode c || P c) = true) (h2 : ∀ c ∈ L.filter isCode, P c = true) : L.all P = true := by
  refine List.all_eq_true.mpr fun c hc => ?_
  have h := List.all_eq_true.mp h1 c hc
  rcases Bool.eq_false_or_eq_true (isCode c) with hi | hi
  · exact h2 c (List.mem_filter.mpr ⟨hc, hi⟩)
  · simpa [hi] using h
set_option maxRecDepth 65536 in
theorem w_c0 : (Jvm.Cond.code x code maxLocals ret).before args0 about1 = true := code_word (m := ⟨1, 2⟩) (meth := k1m2) (c := k1c2) (by decide +kernel) rfl rfl rfl (by decide +kernel)
set_option maxRecDepth 65536 in
theorem w_c1 : (Jvm.Cond.code ({ cls := "com/example/framewright/framewright/tamtam/PacketBlockSizePinLaw", name := "base", desc := "(I)I" } : Jvm.MethodName) method_2_code (1 : Nat) (Option.some Jvm.ClassFile.FieldType.int)).before args0 about1 = true := code_word (m := ⟨1, 1⟩) (meth := k1m1) (c := k1c1) (by decide +kernel) rfl rfl rfl (by decide +kernel)
set_option maxRecDepth 65536 in
theorem w_c2 : (Jvm.Cond.code ({ cls := "com/example/framewright/framewright/tamtam/Packet", name := "blockSize", desc := "(IZ)I" } : Jvm.MethodName) prog_18_method_4_code (2 : Nat) (Option.some Jvm.ClassFile.FieldType.int)).before args0 about1 = true := code_word (m := ⟨2, 0⟩) (meth := k2m0) (c := k2c0) (by decide +kernel) rfl rfl rfl (by decide +kernel)
def codes1 : List Jvm.Cond := [Jvm.Cond.code x code maxLocals ret, Jvm.Cond.code ({ cls := "com/example/framewright/framewright/tamtam/PacketBlockSizePinLaw", name := "base", desc := "(I)I" } : Jvm.MethodName) method_2_code (1 : Nat) (Option.some Jvm.ClassFile.FieldType.int), Jvm.Cond.code ({ cls := "com/example/framewright/framewright/tamtam/Packet", name := "blockSize", desc := "(IZ)I" } : Jvm.MethodName) prog_18_method_4_code (2 : Nat) (Option.some Jvm.ClassFile.FieldType.int)]
set_option maxRecDepth 65536 in
theorem codes_eq : words1.filter isCode = codes1 := rfl
theorem w_codes : ∀ c ∈ words1.filter isCode, c.before args0 about1 = true := by
  rw [codes_eq]
  intro c hc
  simp only [codes1, List.mem_cons, List.not_mem_nil, or_false] at hc
  rcases hc with rfl | rfl | rfl
  · exact w_c0
  · exact w_c1
  · exact w_c2
set_option maxRecDepth 65536 in
theorem w_t1 : words1.all (fun c => isCode c || c.before args0 about1) = true := by decide +kernel
theorem w_tables : (allAtoms (Jvm.Cond.code x code maxLocals ret :: tables_1)).before args0 about1 = true := by
  rw [allAtoms_all]
  show words1.all (fun c => c.before args0 about1) = true
  refine all_split ?_ w_codes
  rw [w_t1]
set_option maxRecDepth 65536 in
theorem w_case : (Jvm.Cond.and given_1 narrow_1).before args0 about1 = true := by decide +kernel
theorem w_applies : (headSpec (Jvm.Cond.code x code maxLocals ret :: tables_1) room_1).applies x e0.platform about1 = true :=
  (Spec.applies_iff w_frames).mpr ⟨w_running, w_runnable, w_alone, w_named, w_hears, w_ripe, w_room, w_tables⟩
theorem atStart : AtStart classFile x code maxLocals ret World_1 tables_1 room_1 Calls_1 rest_1 Pre_1 launch0 p0 e0 about1 theMethod args0 below0 :=
  ⟨lists_1, trivial, launch0.admits_env _ _ _, launch0.least_env, fairChoices_fair.cas, fairChoices_fair.clock, w_frames, w_args, w_heap, w_applies, trivial, trivial, w_case⟩
end start1
theorem witness_1 : WitnessClaimed_1 := ⟨start1.p0, start1.e0, start1.about1, start1.theMethod, start1.args0, start1.below0, start1.atStart⟩
end Jvm.Pilot.@@N@@
