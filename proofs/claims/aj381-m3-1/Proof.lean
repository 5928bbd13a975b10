import JvmDerived
import JvmDerived.Pilot.@@N@@Statement
import JvmDerived.Pilot.@@N@@Code
set_option linter.unusedVariables false
set_option linter.unusedSimpArgs false
namespace Jvm.Pilot.@@N@@
open Jvm Jvm.ClassFile Sem Op Lib Jvm.Free Jvm.Stand Jvm.LawKit Jvm.RoadKit Bundle Jvm.Pilot.@@N@@.Jvm.D
theorem own_mvMN {Z s : State} {a0 args : Array Value} {own host : String} {index : Nat} {y : MethodName} (hZ : Z.Warmed39 s.vm) (w : (Jvm.Cond.methodLinkNest own index y host).before a0 Z = true) : (Jvm.Cond.methodLinkNest own index y host).before args s = true := (Cond.methodLinkNest_wide hZ w :)
theorem own_selP {Z s : State} {a0 args : Array Value} {y : MethodName} {n : Nat} (hZ : Z.Warmed39 s.vm) (wi : (Jvm.Cond.instantiable y.cls n).before a0 Z = true) (wp : (Jvm.Cond.privateMethod y).before a0 Z = true) (wm : (Jvm.Cond.instanceMethod y).before a0 Z = true) (hy : y.cls ≠ "java/lang/invoke/MethodHandle" ∧ y.cls ≠ "java/lang/invoke/VarHandle") : (Jvm.Cond.selects y.cls y y).before args s = true := by
  obtain ⟨c, k, h1, h2, -, h4, -⟩ := Cond.instantiable_spec (mvT (args := args) hZ wi)
  exact selects_self_of_private h1 h2 (by cases hh : k.isInterface <;> simp [hh] at h4 ⊢) (Cond.privateMethod_at (mvP hZ wp (args := #[]))) (mvT hZ wm) hy
theorem own_szO {Z : State} {n0 : Nat} {h : Heap} (O : Old Z n0 h) : n0 ≤ h.size := O.1 ▸ O.2.1
theorem pn_0 : plainName "com/example/dido/dido/QueueSettings" = true := by first | (simp [plainName, overriddenIn]; done) | decide +kernel
theorem pn_1 : plainName "com/example/dido/dido/QueueSettingsDelayPinLaw" = true := by first | (simp [plainName, overriddenIn]; done) | decide +kernel
theorem pd_0 : parseMethodDescriptor "(JJJ)V" = some ⟨[.long, .long, .long], none⟩ := by decide +kernel
theorem pd_1 : parseMethodDescriptor "(J)J" = some ⟨[.long], some .long⟩ := by decide +kernel
theorem pd_2 : parseMethodDescriptor "(J)Lcom/example/dido/dido/QueueSettings;" = some ⟨[.long], some (.object "com/example/dido/dido/QueueSettings")⟩ := by decide +kernel
theorem d_prog_21_method_1_0 : decode prog_21_method_1_code 0 = .ok (.aload_n 0, 1) := by decide +kernel
theorem d_prog_21_method_1_1 : decode prog_21_method_1_code 1 = .ok (.invokespecial 1, 3) := by decide +kernel
theorem d_prog_21_method_1_4 : decode prog_21_method_1_code 4 = .ok (.aload_n 0, 1) := by decide +kernel
theorem d_prog_21_method_1_5 : decode prog_21_method_1_code 5 = .ok (.lload_n 1, 1) := by decide +kernel
theorem d_prog_21_method_1_6 : decode prog_21_method_1_code 6 = .ok (.putfield 7, 3) := by decide +kernel
theorem d_prog_21_method_1_9 : decode prog_21_method_1_code 9 = .ok (.aload_n 0, 1) := by decide +kernel
theorem d_prog_21_method_1_10 : decode prog_21_method_1_code 10 = .ok (.lload_n 3, 1) := by decide +kernel
theorem d_prog_21_method_1_11 : decode prog_21_method_1_code 11 = .ok (.putfield 13, 3) := by decide +kernel
theorem d_prog_21_method_1_14 : decode prog_21_method_1_code 14 = .ok (.aload_n 0, 1) := by decide +kernel
theorem d_prog_21_method_1_15 : decode prog_21_method_1_code 15 = .ok (.lload 5, 2) := by decide +kernel
theorem d_prog_21_method_1_17 : decode prog_21_method_1_code 17 = .ok (.putfield 16, 3) := by decide +kernel
theorem d_prog_21_method_1_20 : decode prog_21_method_1_code 20 = .ok (.return_, 1) := by decide +kernel
theorem d_prog_21_method_5_0 : decode prog_21_method_5_code 0 = .ok (.new 8, 3) := by decide +kernel
theorem d_prog_21_method_5_3 : decode prog_21_method_5_code 3 = .ok (.dup, 1) := by decide +kernel
theorem d_prog_21_method_5_4 : decode prog_21_method_5_code 4 = .ok (.lload_n 1, 1) := by decide +kernel
theorem d_prog_21_method_5_5 : decode prog_21_method_5_code 5 = .ok (.aload_n 0, 1) := by decide +kernel
theorem d_prog_21_method_5_6 : decode prog_21_method_5_code 6 = .ok (.getfield 13, 3) := by decide +kernel
theorem d_prog_21_method_5_9 : decode prog_21_method_5_code 9 = .ok (.aload_n 0, 1) := by decide +kernel
theorem d_prog_21_method_5_10 : decode prog_21_method_5_code 10 = .ok (.getfield 16, 3) := by decide +kernel
theorem d_prog_21_method_5_13 : decode prog_21_method_5_code 13 = .ok (.invokespecial 19, 3) := by decide +kernel
theorem d_prog_21_method_5_16 : decode prog_21_method_5_code 16 = .ok (.areturn, 1) := by decide +kernel
theorem d_prog_21_method_8_0 : decode prog_21_method_8_code 0 = .ok (.aload_n 0, 1) := by decide +kernel
theorem d_prog_21_method_8_1 : decode prog_21_method_8_code 1 = .ok (.getfield 7, 3) := by decide +kernel
theorem d_prog_21_method_8_4 : decode prog_21_method_8_code 4 = .ok (.ldc2_w 22, 3) := by decide +kernel
theorem d_prog_21_method_8_7 : decode prog_21_method_8_code 7 = .ok (.lcmp, 1) := by decide +kernel
theorem d_prog_21_method_8_8 : decode prog_21_method_8_code 8 = .ok (.ifCond .ne 7, 3) := by decide +kernel
theorem d_prog_21_method_8_11 : decode prog_21_method_8_code 11 = .ok (.lload_n 1, 1) := by decide +kernel
theorem d_prog_21_method_8_12 : decode prog_21_method_8_code 12 = .ok (.goto 7, 3) := by decide +kernel
theorem d_prog_21_method_8_15 : decode prog_21_method_8_code 15 = .ok (.aload_n 0, 1) := by decide +kernel
theorem d_prog_21_method_8_16 : decode prog_21_method_8_code 16 = .ok (.getfield 7, 3) := by decide +kernel
theorem d_prog_21_method_8_19 : decode prog_21_method_8_code 19 = .ok (.lreturn, 1) := by decide +kernel

theorem ef_init (m : MethodId) (a1 : Addr) (q1 : Int64) (q2 : Int64) (q3 : Int64) : entryFrame m #[(.ref a1), (.long q1), (.long q2), (.long q3)] 7 = mkF m 0 #[.val (.ref a1), .val (.long q1), .second, .val (.long q2), .second, .val (.long q3), .second] [] := by first | (simp [entryFrame, mkF, argsToLocals, Value.category]; done) | rfl
def Q_init (Z : State) (a1 : Addr) (q1 : Int64) (q2 : Int64) (q3 : Int64) (u1 : Value) (u2 : Value) (u3 : Value) (h0 : Heap) (n0 : Nat) (v : Option Value) (h : Heap) (L : List Loc) : Prop := v = none ∧ Fr n0 L ∧ Keep h0 h [a1] ∧ Exa Z h a1 "com/example/dido/dido/QueueSettings" ∧ Fld Z h a1 "com/example/dido/dido/QueueSettings" "delayMillis" "J" (.long q1) ∧ Fld Z h a1 "com/example/dido/dido/QueueSettings" "blockedUntilEpochMillis" "J" (.long q2) ∧ Fld Z h a1 "com/example/dido/dido/QueueSettings" "limit" "J" (.long q3)
set_option maxRecDepth 65536 in
set_option maxHeartbeats 40000000 in
theorem rm_init (l : Launch) (Z : State) (a0 : Array Value) (hw : ∀ d ∈ tables_1, d.before a0 Z = true) (ws : List Jvm.Cond) (a1 : Addr) (q1 : Int64) (q2 : Int64) (q3 : Int64) (u1 : Value) (u2 : Value) (u3 : Value) (h0 : Heap) (n0 : Nat) (O0 : Old Z n0 h0) (E1 : Exa Z h0 a1 "com/example/dido/dido/QueueSettings") (F1 : Fld Z h0 a1 "com/example/dido/dido/QueueSettings" "delayMillis" "J" u1) (F2 : Fld Z h0 a1 "com/example/dido/dido/QueueSettings" "blockedUntilEpochMillis" "J" u2) (F3 : Fld Z h0 a1 "com/example/dido/dido/QueueSettings" "limit" "J" u3) (g1 : n0 ≤ a1) :
    MetFree l (⟨"com/example/dido/dido/QueueSettings", "<init>", "(JJJ)V"⟩ : MethodName) (head1 (Jvm.Cond.code (⟨"com/example/dido/dido/QueueSettings", "<init>", "(JJJ)V"⟩ : MethodName) prog_21_method_1_code 7 none :: ws) ({ frames := 1, cells := 0, slots := 0, locals := 12 } : Room)) (fun a U => a = #[(.ref a1), (.long q1), (.long q2), (.long q3)] ∧ Z.Warmed39 U.vm ∧ U.heap = h0) (fun _ _ _ _ _ => True) (fun _ U o U' => ∃ v L, o = .returned v ∧ Q_init Z a1 q1 q2 q3 u1 u2 u3 h0 n0 v U'.heap L ∧ FrameEnd U o U' L ({ frames := 1, cells := 0, slots := 0, locals := 12 } : Room).cells ({ frames := 1, cells := 0, slots := 0, locals := 12 } : Room).slots) := by
  refine MetFree.of_bodySF (plainFor_of_name pn_0) hisR ?_
  intro p e s m args below meth c s₁ Bd hml0 hP hK
  obtain ⟨rfl, hZ, hh⟩ := hP
  have hx := Bd.exec
  have hby := Bd.bytes
  have hml : c.maxLocals = 7 := hml0
  have hown : s.vm.findClass "com/example/dido/dido/QueueSettings" = some m.cls := findClass_of_methodNamed Bd.named
  have hnm := (name_of_methodNamed Bd.named Bd.method).1
  have X0 : Stand p l e ({ frames := 1, cells := 0, slots := 0, locals := 12 } : Room) s m #[(.ref a1), (.long q1), (.long q2), (.long q3)] below meth c s₁ [] 0 0 := Stand.of_body Bd
  have e0 : s₁.heap = h0 := by rw [← hh, Bd.state]; rfl
  have N0 := Fr.nil n0
  have K0 : Keep h0 h0 [a1] := Keep.refl _ _
  have pre0 : ∀ t, Steps p.tables e below (s₁.setTop (mkF m 0 #[.val (.ref a1), .val (.long q1), .second, .val (.long q2), .second, .val (.long q3), .second] [])) t → Steps p.tables e below (s₁.setTop (entryFrame m #[(.ref a1), (.long q1), (.long q2), (.long q3)] 7)) t := fun t k => castTop (ef_init m a1 q1 q2 q3) k
  obtain ⟨T101, X101, e101, st101⟩ := initO X0 hx hZ hown (hw _ (List.mem_of_getElem? (i := 7) rfl)) (hw _ (List.mem_of_getElem? (i := 8) rfl)) (hw _ (List.mem_of_getElem? (i := 9) rfl)) e0 (g := (mkF m 1 #[.val (.ref a1), .val (.long q1), .second, .val (.long q2), .second, .val (.long q3), .second] [(.ref a1)])) rfl (by rw [hml]; rfl) rfl (hb hby d_prog_21_method_1_1) (by decide) (W := 0) (by show 2 * 0 + _ ≤ _; exact Nat.le_of_eq rfl) (by decide)
  obtain ⟨T102, h102, X102, e102, W102, st102⟩ := putF X101 hx hZ hown (host := "") (Or.inl (hw _ (List.mem_of_getElem? (i := 10) rfl))) Via.refl e101 F1 E1 (Or.inr ⟨(hw _ (List.mem_of_getElem? (i := 11) rfl)), rfl, hnm⟩) (hw _ (List.mem_of_getElem? (i := 2) rfl)) (ty := .long) (by decide) rfl rfl (g := (mkF m 6 #[.val (.ref a1), .val (.long q1), .second, .val (.long q2), .second, .val (.long q3), .second] [(.long q1), (.ref a1)])) rfl rfl (hb hby d_prog_21_method_1_6)
  have F102 := F1.same W102
  have N102 := Fr.snoc X102 N0 g1
  have O102 := O0.wr W102 g1
  have K102 := K0.wr W102 (Or.inl (List.mem_of_getElem? (i := 0) rfl))
  have f103 := (E1.wr W102)
  have f104 := (F2.other W102 (Or.inr (slot_ne (Or.inr (hw _ (List.mem_of_getElem? (i := 13) rfl))) (Or.inr (hw _ (List.mem_of_getElem? (i := 11) rfl))) (by decide) (t := .long) (t' := .long) (by decide) (by decide))))
  obtain ⟨T105, h105, X105, e105, W105, st105⟩ := putF X102 hx hZ hown (host := "") (Or.inl (hw _ (List.mem_of_getElem? (i := 12) rfl))) Via.refl e102 f104 f103 (Or.inr ⟨(hw _ (List.mem_of_getElem? (i := 13) rfl)), rfl, hnm⟩) (hw _ (List.mem_of_getElem? (i := 2) rfl)) (ty := .long) (by decide) rfl rfl (g := (mkF m 11 #[.val (.ref a1), .val (.long q1), .second, .val (.long q2), .second, .val (.long q3), .second] [(.long q2), (.ref a1)])) rfl rfl (hb hby d_prog_21_method_1_11)
  have F105 := f104.same W105
  have N105 := Fr.snoc X105 N102 g1
  have O105 := O102.wr W105 g1
  have K105 := K102.wr W105 (Or.inl (List.mem_of_getElem? (i := 0) rfl))
  have f106 := (f103.wr W105)
  have f107 := ((F3.other W102 (Or.inr (slot_ne (Or.inr (hw _ (List.mem_of_getElem? (i := 15) rfl))) (Or.inr (hw _ (List.mem_of_getElem? (i := 11) rfl))) (by decide) (t := .long) (t' := .long) (by decide) (by decide)))).other W105 (Or.inr (slot_ne (Or.inr (hw _ (List.mem_of_getElem? (i := 15) rfl))) (Or.inr (hw _ (List.mem_of_getElem? (i := 13) rfl))) (by decide) (t := .long) (t' := .long) (by decide) (by decide))))
  obtain ⟨T108, h108, X108, e108, W108, st108⟩ := putF X105 hx hZ hown (host := "") (Or.inl (hw _ (List.mem_of_getElem? (i := 14) rfl))) Via.refl e105 f107 f106 (Or.inr ⟨(hw _ (List.mem_of_getElem? (i := 15) rfl)), rfl, hnm⟩) (hw _ (List.mem_of_getElem? (i := 2) rfl)) (ty := .long) (by decide) rfl rfl (g := (mkF m 17 #[.val (.ref a1), .val (.long q1), .second, .val (.long q2), .second, .val (.long q3), .second] [(.long q3), (.ref a1)])) rfl rfl (hb hby d_prog_21_method_1_17)
  have F108 := f107.same W108
  have N108 := Fr.snoc X108 N105 g1
  have O108 := O105.wr W108 g1
  have K108 := K105.wr W108 (Or.inl (List.mem_of_getElem? (i := 0) rfl))
  have f109 := (f106.wr W108)
  have f110 := ((F102.other W105 (Or.inr (slot_ne (Or.inr (hw _ (List.mem_of_getElem? (i := 11) rfl))) (Or.inr (hw _ (List.mem_of_getElem? (i := 13) rfl))) (by decide) (t := .long) (t' := .long) (by decide) (by decide)))).other W108 (Or.inr (slot_ne (Or.inr (hw _ (List.mem_of_getElem? (i := 11) rfl))) (Or.inr (hw _ (List.mem_of_getElem? (i := 15) rfl))) (by decide) (t := .long) (t' := .long) (by decide) (by decide))))
  have f111 := (F105.other W108 (Or.inr (slot_ne (Or.inr (hw _ (List.mem_of_getElem? (i := 13) rfl))) (Or.inr (hw _ (List.mem_of_getElem? (i := 15) rfl))) (by decide) (t := .long) (t' := .long) (by decide) (by decide))))
  obtain ⟨fs, hr, hrun, hended, hW, hsame⟩ := X108.leave (v := none) (fun _ => rfl)
  refine ⟨_, _, pre0 _ ?_, hrun, hended, _, _, rfl, ?_, ⟨_, rfl⟩, hW, hsame.mono (by decide) (by decide)⟩
  · show Steps p.tables e below (s₁.setTop (mkF m 0 #[.val (.ref a1), .val (.long q1), .second, .val (.long q2), .second, .val (.long q3), .second] [])) _
    refine XS.aloadN X0.here hx rfl (hb hby d_prog_21_method_1_0) rfl rfl ?_
    show Steps p.tables e below (s₁.setTop (mkF m 1 #[.val (.ref a1), .val (.long q1), .second, .val (.long q2), .second, .val (.long q3), .second] [(.ref a1)])) _
    refine st101 _ ?_
    show Steps p.tables e below (T101.setTop (mkF m 4 #[.val (.ref a1), .val (.long q1), .second, .val (.long q2), .second, .val (.long q3), .second] [])) _
    refine XS.aloadN X101.here hx rfl (hb hby d_prog_21_method_1_4) rfl rfl ?_
    refine XS.lloadN X101.here hx rfl (hb hby d_prog_21_method_1_5) rfl ?_
    show Steps p.tables e below (T101.setTop (mkF m 6 #[.val (.ref a1), .val (.long q1), .second, .val (.long q2), .second, .val (.long q3), .second] [(.long q1), (.ref a1)])) _
    refine st102 _ ?_
    show Steps p.tables e below (T102.setTop (mkF m 9 #[.val (.ref a1), .val (.long q1), .second, .val (.long q2), .second, .val (.long q3), .second] [])) _
    refine XS.aloadN X102.here hx rfl (hb hby d_prog_21_method_1_9) rfl rfl ?_
    refine XS.lloadN X102.here hx rfl (hb hby d_prog_21_method_1_10) rfl ?_
    show Steps p.tables e below (T102.setTop (mkF m 11 #[.val (.ref a1), .val (.long q1), .second, .val (.long q2), .second, .val (.long q3), .second] [(.long q2), (.ref a1)])) _
    refine st105 _ ?_
    show Steps p.tables e below (T105.setTop (mkF m 14 #[.val (.ref a1), .val (.long q1), .second, .val (.long q2), .second, .val (.long q3), .second] [])) _
    refine XS.aloadN X105.here hx rfl (hb hby d_prog_21_method_1_14) rfl rfl ?_
    refine XS.lload X105.here hx rfl (hb hby d_prog_21_method_1_15) rfl ?_
    show Steps p.tables e below (T105.setTop (mkF m 17 #[.val (.ref a1), .val (.long q1), .second, .val (.long q2), .second, .val (.long q3), .second] [(.long q3), (.ref a1)])) _
    refine st108 _ ?_
    show Steps p.tables e below (T108.setTop (mkF m 20 #[.val (.ref a1), .val (.long q1), .second, .val (.long q2), .second, .val (.long q3), .second] [])) _
    exact X108.returnOut hx Bd.returns (hb hby d_prog_21_method_1_20) hr
  · show Q_init Z a1 q1 q2 q3 u1 u2 u3 h0 n0 _ T108.heap _
    rw [e108]
    exact ⟨rfl, N108, K108, f109, f110, f111, F108⟩
theorem ef_dl (m : MethodId) (a1 : Addr) (q1 : Int64) : entryFrame m #[(.ref a1), (.long q1)] 3 = mkF m 0 #[.val (.ref a1), .val (.long q1), .second] [] := by first | (simp [entryFrame, mkF, argsToLocals, Value.category]; done) | rfl
def Q_dl (Z : State) (a1 : Addr) (q1 : Int64) (w : Int64) (h0 : Heap) (n0 : Nat) (v : Option Value) (h : Heap) (L : List Loc) : Prop := v = some (.long (if w = (-1 : Int64) then q1 else w)) ∧ Fr n0 L ∧ h = h0
set_option maxRecDepth 65536 in
set_option maxHeartbeats 40000000 in
theorem rm_dl (l : Launch) (Z : State) (a0 : Array Value) (hw : ∀ d ∈ tables_1, d.before a0 Z = true) (ws : List Jvm.Cond) (a1 : Addr) (q1 : Int64) (w : Int64) (h0 : Heap) (n0 : Nat) (O0 : Old Z n0 h0) (F1 : Fld Z h0 a1 "com/example/dido/dido/QueueSettings" "delayMillis" "J" (.long w)) :
    MetFree l (⟨"com/example/dido/dido/QueueSettings", "delay", "(J)J"⟩ : MethodName) (head1 (Jvm.Cond.code (⟨"com/example/dido/dido/QueueSettings", "delay", "(J)J"⟩ : MethodName) prog_21_method_8_code 3 (some .long) :: ws) ({ frames := 0, cells := 0, slots := 0, locals := 0 } : Room)) (fun a U => a = #[(.ref a1), (.long q1)] ∧ Z.Warmed39 U.vm ∧ U.heap = h0) (fun _ _ _ _ _ => True) (fun _ U o U' => ∃ v L, o = .returned v ∧ Q_dl Z a1 q1 w h0 n0 v U'.heap L ∧ FrameEnd U o U' L ({ frames := 0, cells := 0, slots := 0, locals := 0 } : Room).cells ({ frames := 0, cells := 0, slots := 0, locals := 0 } : Room).slots) := by
  refine MetFree.of_bodySF (plainFor_of_name pn_0) hisR ?_
  intro p e s m args below meth c s₁ Bd hml0 hP hK
  obtain ⟨rfl, hZ, hh⟩ := hP
  have hx := Bd.exec
  have hby := Bd.bytes
  have hml : c.maxLocals = 3 := hml0
  have hown : s.vm.findClass "com/example/dido/dido/QueueSettings" = some m.cls := findClass_of_methodNamed Bd.named
  have hnm := (name_of_methodNamed Bd.named Bd.method).1
  have X0 : Stand p l e ({ frames := 0, cells := 0, slots := 0, locals := 0 } : Room) s m #[(.ref a1), (.long q1)] below meth c s₁ [] 0 0 := Stand.of_body Bd
  have e0 : s₁.heap = h0 := by rw [← hh, Bd.state]; rfl
  have N0 := Fr.nil n0
  have pre0 : ∀ t, Steps p.tables e below (s₁.setTop (mkF m 0 #[.val (.ref a1), .val (.long q1), .second] [])) t → Steps p.tables e below (s₁.setTop (entryFrame m #[(.ref a1), (.long q1)] 3)) t := fun t k => castTop (ef_dl m a1 q1) k
  obtain ⟨T101, X101, e101, st101⟩ := getF X0 hx hZ hown (host := "") (Or.inl (hw _ (List.mem_of_getElem? (i := 10) rfl))) Via.refl e0 F1 (g := (mkF m 1 #[.val (.ref a1), .val (.long q1), .second] [(.ref a1)])) rfl rfl (hb hby d_prog_21_method_8_1)
  have pre102 : ∀ t, Steps p.tables e below (T101.setTop (mkF m 8 #[.val (.ref a1), .val (.long q1), .second] [(.int (lcmpW w (-1 : Int64)))])) t → Steps p.tables e below (s₁.setTop (entryFrame m #[(.ref a1), (.long q1)] 3)) t := fun t kk => pre0 t (by
      show Steps p.tables e below (s₁.setTop (mkF m 0 #[.val (.ref a1), .val (.long q1), .second] [])) _
      refine XS.aloadN X0.here hx rfl (hb hby d_prog_21_method_8_0) rfl rfl ?_
      show Steps p.tables e below (s₁.setTop (mkF m 1 #[.val (.ref a1), .val (.long q1), .second] [(.ref a1)])) _
      refine st101 _ ?_
      show Steps p.tables e below (T101.setTop (mkF m 4 #[.val (.ref a1), .val (.long q1), .second] [(.long w)])) _
      refine X101.ldc2Long hx hown (mvT hZ (hw _ (List.mem_of_getElem? (i := 21) rfl))) (g := (mkF m 4 #[.val (.ref a1), .val (.long q1), .second] [(.long w)])) rfl (hb hby d_prog_21_method_8_4) _ ?_
      show Steps p.tables e below (T101.setTop (mkF m 7 #[.val (.ref a1), .val (.long q1), .second] [(.long (-1 : Int64)), (.long w)])) _
      refine XS.lcmp X101.here hx rfl (hb hby d_prog_21_method_8_7) rfl ?_
      show Steps p.tables e below (T101.setTop (mkF m 8 #[.val (.ref a1), .val (.long q1), .second] [(.int (lcmpW w (-1 : Int64)))])) _
      exact kk)
  by_cases hc103 : w = (-1 : Int64)
  · obtain ⟨fs, hr, hrun, hended, hW, hsame⟩ := X101.leave (v := some (.long q1)) (fun h => by rw [Bd.returns] at h; cases h)
    refine ⟨_, _, pre102 _ ?_, hrun, hended, _, _, rfl, ?_, ⟨_, rfl⟩, hW, hsame.mono (by decide) (by decide)⟩
    · refine XS.ifNo X101.here hx rfl (hb hby d_prog_21_method_8_8) rfl ((if0 _ _).trans (teq ((lw_eq _ _).mpr hc103)).2) ?_
      refine XS.lloadN X101.here hx rfl (hb hby d_prog_21_method_8_11) rfl ?_
      refine XS.goto X101.here hx rfl (pc0 := 12) (pc' := 19) rfl (hb hby d_prog_21_method_8_12) (by decide) (by decide) ?_
      show Steps p.tables e below (T101.setTop (mkF m 19 #[.val (.ref a1), .val (.long q1), .second] [(.long q1)])) _
      exact retOut X101 hx (t := .long) (i := .lreturn) Bd.returns rfl (Or.inr (Or.inl ⟨rfl, rfl, _, rfl⟩)) (hb hby d_prog_21_method_8_19) hr
    · show Q_dl Z a1 q1 w h0 n0 _ T101.heap _
      rw [e101]
      exact ⟨(by simp [eq_true hc103]), N0, rfl⟩
  · obtain ⟨T104, X104, e104, st104⟩ := getF X101 hx hZ hown (host := "") (Or.inl (hw _ (List.mem_of_getElem? (i := 10) rfl))) Via.refl e101 F1 (g := (mkF m 16 #[.val (.ref a1), .val (.long q1), .second] [(.ref a1)])) rfl rfl (hb hby d_prog_21_method_8_16)
    obtain ⟨fs, hr, hrun, hended, hW, hsame⟩ := X104.leave (v := some (.long w)) (fun h => by rw [Bd.returns] at h; cases h)
    refine ⟨_, _, pre102 _ ?_, hrun, hended, _, _, rfl, ?_, ⟨_, rfl⟩, hW, hsame.mono (by decide) (by decide)⟩
    · refine XS.ifYes X101.here hx rfl (pc0 := 8) (pc' := 15) rfl (hb hby d_prog_21_method_8_8) rfl ((if0 _ _).trans (feq (fun q => hc103 ((lw_eq _ _).mp q))).2) (by decide) (by decide) ?_
      refine XS.aloadN X101.here hx rfl (hb hby d_prog_21_method_8_15) rfl rfl ?_
      show Steps p.tables e below (T101.setTop (mkF m 16 #[.val (.ref a1), .val (.long q1), .second] [(.ref a1)])) _
      refine st104 _ ?_
      show Steps p.tables e below (T104.setTop (mkF m 19 #[.val (.ref a1), .val (.long q1), .second] [(.long w)])) _
      exact retOut X104 hx (t := .long) (i := .lreturn) Bd.returns rfl (Or.inr (Or.inl ⟨rfl, rfl, _, rfl⟩)) (hb hby d_prog_21_method_8_19) hr
    · show Q_dl Z a1 q1 w h0 n0 _ T104.heap _
      rw [e104]
      exact ⟨(by simp [eq_false hc103]), N0, rfl⟩
theorem ef_wd (m : MethodId) (a1 : Addr) (q1 : Int64) : entryFrame m #[(.ref a1), (.long q1)] 3 = mkF m 0 #[.val (.ref a1), .val (.long q1), .second] [] := by first | (simp [entryFrame, mkF, argsToLocals, Value.category]; done) | rfl
def Q_wd (Z : State) (a1 : Addr) (q1 : Int64) (w2 : Int64) (w3 : Int64) (h0 : Heap) (n0 : Nat) (v : Option Value) (h : Heap) (L : List Loc) : Prop := ∃ b : Addr, v = some (.ref b) ∧ h0.size ≤ b ∧ Fr n0 L ∧ Keep h0 h [] ∧ Exa Z h b "com/example/dido/dido/QueueSettings" ∧ Fld Z h b "com/example/dido/dido/QueueSettings" "delayMillis" "J" (.long q1)
set_option maxRecDepth 65536 in
set_option maxHeartbeats 40000000 in
theorem rm_wd (l : Launch) (Z : State) (a0 : Array Value) (hw : ∀ d ∈ tables_1, d.before a0 Z = true) (ws : List Jvm.Cond) (a1 : Addr) (q1 : Int64) (w2 : Int64) (w3 : Int64) (h0 : Heap) (n0 : Nat) (O0 : Old Z n0 h0) (F2 : Fld Z h0 a1 "com/example/dido/dido/QueueSettings" "blockedUntilEpochMillis" "J" (.long w2)) (F3 : Fld Z h0 a1 "com/example/dido/dido/QueueSettings" "limit" "J" (.long w3)) (g1 : n0 ≤ a1) :
    MetFree l (⟨"com/example/dido/dido/QueueSettings", "withDelay", "(J)Lcom/example/dido/dido/QueueSettings;"⟩ : MethodName) (head1 (Jvm.Cond.code (⟨"com/example/dido/dido/QueueSettings", "withDelay", "(J)Lcom/example/dido/dido/QueueSettings;"⟩ : MethodName) prog_21_method_5_code 3 (some (.object "com/example/dido/dido/QueueSettings")) :: ws) ({ frames := 2, cells := 1, slots := 3, locals := 31 } : Room)) (fun a U => a = #[(.ref a1), (.long q1)] ∧ Z.Warmed39 U.vm ∧ U.heap = h0) (fun _ _ _ _ _ => True) (fun _ U o U' => ∃ v L, o = .returned v ∧ Q_wd Z a1 q1 w2 w3 h0 n0 v U'.heap L ∧ FrameEnd U o U' L ({ frames := 2, cells := 1, slots := 3, locals := 31 } : Room).cells ({ frames := 2, cells := 1, slots := 3, locals := 31 } : Room).slots) := by
  refine MetFree.of_bodySF (plainFor_of_name pn_0) hisR ?_
  intro p e s m args below meth c s₁ Bd hml0 hP hK
  obtain ⟨rfl, hZ, hh⟩ := hP
  have hx := Bd.exec
  have hby := Bd.bytes
  have hml : c.maxLocals = 3 := hml0
  have hown : s.vm.findClass "com/example/dido/dido/QueueSettings" = some m.cls := findClass_of_methodNamed Bd.named
  have hnm := (name_of_methodNamed Bd.named Bd.method).1
  have X0 : Stand p l e ({ frames := 2, cells := 1, slots := 3, locals := 31 } : Room) s m #[(.ref a1), (.long q1)] below meth c s₁ [] 0 0 := Stand.of_body Bd
  have e0 : s₁.heap = h0 := by rw [← hh, Bd.state]; rfl
  have N0 := Fr.nil n0
  have K0 : Keep h0 h0 [] := Keep.refl _ _
  have pre0 : ∀ t, Steps p.tables e below (s₁.setTop (mkF m 0 #[.val (.ref a1), .val (.long q1), .second] [])) t → Steps p.tables e below (s₁.setTop (entryFrame m #[(.ref a1), (.long q1)] 3)) t := fun t k => castTop (ef_wd m a1 q1) k
  obtain ⟨T101, h101, X101, e101, E101, A101, D101, -, st101⟩ := newO X0 hx hZ hown (hw _ (List.mem_of_getElem? (i := 29) rfl)) (hw _ (List.mem_of_getElem? (i := 2) rfl)) (hw _ (List.mem_of_getElem? (i := 3) rfl)) e0 (g := (mkF m 0 #[.val (.ref a1), .val (.long q1), .second] [])) rfl (hb hby d_prog_21_method_5_0) (by decide) (by decide)
  obtain ⟨b101, g101⟩ : ∃ z, z = h0.size := ⟨_, rfl⟩
  rw [← g101] at A101 D101 st101
  have g_b101 : n0 ≤ b101 := Nat.le_trans (own_szO O0) (Nat.le_of_eq g101.symm)
  have sz_b101 : h0.size ≤ b101 := Nat.le_trans K0.1 (Nat.le_of_eq g101.symm)
  have ne_a1_b101 : a1 ≠ b101 := Nat.ne_of_lt (Nat.lt_of_lt_of_le F2.lt (Nat.le_of_eq g101.symm))
  have O101 := O0.ext E101
  have K101 := K0.ext E101
  have F101_delayMillis : Fld Z h101 b101 "com/example/dido/dido/QueueSettings" "delayMillis" "J" (.long (0 : Int64)) := D101 (Or.inr (hw _ (List.mem_of_getElem? (i := 11) rfl))) (ty := .long) (by decide)
  have F101_blockedUntilEpochMillis : Fld Z h101 b101 "com/example/dido/dido/QueueSettings" "blockedUntilEpochMillis" "J" (.long (0 : Int64)) := D101 (Or.inr (hw _ (List.mem_of_getElem? (i := 13) rfl))) (ty := .long) (by decide)
  have F101_limit : Fld Z h101 b101 "com/example/dido/dido/QueueSettings" "limit" "J" (.long (0 : Int64)) := D101 (Or.inr (hw _ (List.mem_of_getElem? (i := 15) rfl))) (ty := .long) (by decide)
  have f102 := (F2.ext E101)
  obtain ⟨T103, X103, e103, st103⟩ := getF X101 hx hZ hown (host := "") (Or.inl (hw _ (List.mem_of_getElem? (i := 12) rfl))) Via.refl e101 f102 (g := (mkF m 6 #[.val (.ref a1), .val (.long q1), .second] [(.ref a1), (.long q1), (.ref b101), (.ref b101)])) rfl rfl (hb hby d_prog_21_method_5_6)
  have f104 := (F3.ext E101)
  obtain ⟨T105, X105, e105, st105⟩ := getF X103 hx hZ hown (host := "") (Or.inl (hw _ (List.mem_of_getElem? (i := 14) rfl))) Via.refl e103 f104 (g := (mkF m 10 #[.val (.ref a1), .val (.long q1), .second] [(.ref a1), (.long w2), (.long q1), (.ref b101), (.ref b101)])) rfl rfl (hb hby d_prog_21_method_5_10)
  obtain ⟨_, _, ⟨T106, L106, k106, n106⟩, -, X106, ⟨Lc106, hQ106, l106, y106, z106⟩, st106⟩ := X105.specialBack hx (y := (⟨"com/example/dido/dido/QueueSettings", "<init>", "(JJJ)V"⟩ : MethodName)) rfl hown (mvT hZ (hw _ (List.mem_of_getElem? (i := 30) rfl))) (mvT hZ (hw _ (List.mem_of_getElem? (i := 5) rfl))) (mvT hZ (hw _ (List.mem_of_getElem? (i := 6) rfl))) (by decide) (backOf (W := 1) (rm_init l Z a0 hw [] b101 q1 w2 w3 ((.long (0 : Int64))) ((.long (0 : Int64))) ((.long (0 : Int64))) h101 n0 O101 A101 F101_delayMillis F101_blockedUntilEpochMillis F101_limit g_b101) hZ (hw _ (List.mem_of_getElem? (i := 6) rfl)) (hw _ (List.mem_of_getElem? (i := 3) rfl)) (by decide) (by decide)) (g := (mkF m 13 #[.val (.ref a1), .val (.long q1), .second] [(.long w3), (.long w2), (.long q1), (.ref b101), (.ref b101)])) rfl (by rw [hml]; rfl) (Steps.refl _) (a := b101) (argsL := [(.long q1), (.long w2), (.long w3)]) (rest := [(.ref b101)]) (lenOf pd_0 rfl) rfl (by show 2 * 0 + _ ≤ _; exact Nat.le_of_eq rfl) (hb hby d_prog_21_method_5_13) (fun _ _ => ⟨rfl, e105, (by decide : 1 + 0 ≤ _), (by decide : 3 + 0 ≤ _)⟩)
  dsimp only [Pt.U, Pt.locs, Pt.cells, Pt.slots] at X106 l106 y106 z106 st106 hQ106
  subst l106 y106 z106
  obtain ⟨rfl, Nq106, Kq106, Ei106, Fa106, Fb106, Fc106⟩ := hQ106
  have N106 := Fr.app N0 Nq106
  have O106 := O101.keep Kq106 (allS g_b101 all0)
  have K106 := K101.trans Kq106 (allS (Or.inr sz_b101) all0)
  obtain ⟨fs, hr, hrun, hended, hW, hsame⟩ := X106.leave (v := some (.ref b101)) (fun h => by rw [Bd.returns] at h; cases h)
  refine ⟨_, _, pre0 _ ?_, hrun, hended, _, _, rfl, ?_, ⟨_, rfl⟩, hW, hsame.mono (by decide) (by decide)⟩
  · show Steps p.tables e below (s₁.setTop (mkF m 0 #[.val (.ref a1), .val (.long q1), .second] [])) _
    refine st101 _ ?_
    show Steps p.tables e below (T101.setTop (mkF m 3 #[.val (.ref a1), .val (.long q1), .second] [(.ref b101)])) _
    refine XS.dup X101.here hx rfl (hb hby d_prog_21_method_5_3) rfl rfl ?_
    refine XS.lloadN X101.here hx rfl (hb hby d_prog_21_method_5_4) rfl ?_
    refine XS.aloadN X101.here hx rfl (hb hby d_prog_21_method_5_5) rfl rfl ?_
    show Steps p.tables e below (T101.setTop (mkF m 6 #[.val (.ref a1), .val (.long q1), .second] [(.ref a1), (.long q1), (.ref b101), (.ref b101)])) _
    refine st103 _ ?_
    show Steps p.tables e below (T103.setTop (mkF m 9 #[.val (.ref a1), .val (.long q1), .second] [(.long w2), (.long q1), (.ref b101), (.ref b101)])) _
    refine XS.aloadN X103.here hx rfl (hb hby d_prog_21_method_5_9) rfl rfl ?_
    show Steps p.tables e below (T103.setTop (mkF m 10 #[.val (.ref a1), .val (.long q1), .second] [(.ref a1), (.long w2), (.long q1), (.ref b101), (.ref b101)])) _
    refine st105 _ ?_
    show Steps p.tables e below (T105.setTop (mkF m 13 #[.val (.ref a1), .val (.long q1), .second] [(.long w3), (.long w2), (.long q1), (.ref b101), (.ref b101)])) _
    refine st106.trans ?_
    show Steps p.tables e below (T106.setTop (mkF m 16 #[.val (.ref a1), .val (.long q1), .second] [(.ref b101)])) _
    exact retOut X106 hx (t := (.object "com/example/dido/dido/QueueSettings")) (i := .areturn) Bd.returns rfl (Or.inr (Or.inr (Or.inr (Or.inr ⟨rfl, rfl, rfl⟩)))) (hb hby d_prog_21_method_5_16) hr
  · show Q_wd Z a1 q1 w2 w3 h0 n0 _ T106.heap _
    exact ⟨b101, rfl, sz_b101, N106, K106, Ei106, Fa106⟩
theorem ef_law (m : MethodId) (q1 : Int64) (q2 : Int64) (q3 : Int64) (q4 : Int64) (p5 : Int32) : entryFrame m #[(.long q1), (.long q2), (.long q3), (.long q4), (.int p5)] maxLocals = mkF m 0 #[.val (.long q1), .second, .val (.long q2), .second, .val (.long q3), .second, .val (.long q4), .second, .val (.int p5), .unset, .unset, .unset, .unset, .unset, .unset, .unset, .unset] [] := by first | (simp [entryFrame, mkF, argsToLocals, Value.category, maxLocals]; done) | rfl
def Q_law (Z : State) (q1 : Int64) (q2 : Int64) (q3 : Int64) (q4 : Int64) (p5 : Int32) (aN : Addr) (h0 : Heap) (n0 : Nat) (v : Option Value) (h : Heap) (L : List Loc) : Prop := v = some (.int 1) ∧ Fr n0 L
set_option maxRecDepth 65536 in
set_option maxHeartbeats 40000000 in
theorem rm_law (l : Launch) (Z : State) (a0 : Array Value) (hw : ∀ d ∈ tables_1, d.before a0 Z = true) (ws : List Jvm.Cond) (q1 : Int64) (q2 : Int64) (q3 : Int64) (q4 : Int64) (p5 : Int32) (aN : Addr) (h0 : Heap) (n0 : Nat) (O0 : Old Z n0 h0) (SN : Sta Z Z.heap "com/example/dido/dido/QueueSettings" "NONE" "Lcom/example/dido/dido/QueueSettings;" (.ref aN)) (EN : Exa Z Z.heap aN "com/example/dido/dido/QueueSettings") (FNn : Fld Z Z.heap aN "com/example/dido/dido/QueueSettings" "delayMillis" "J" (.long (-1))) :
    MetFree l x (head1 (Jvm.Cond.code x code maxLocals ret :: ws) room_1) (fun a U => a = #[(.long q1), (.long q2), (.long q3), (.long q4), (.int p5)] ∧ Z.Warmed39 U.vm ∧ U.heap = h0) (fun _ _ _ _ _ => True) (fun _ U o U' => ∃ v L, o = .returned v ∧ Q_law Z q1 q2 q3 q4 p5 aN h0 n0 v U'.heap L ∧ FrameEnd U o U' L room_1.cells room_1.slots) := by
  refine MetFree.of_bodySF (plainFor_of_name pn_1) hisR ?_
  intro p e s m args below meth c s₁ Bd hml0 hP hK
  obtain ⟨rfl, hZ, hh⟩ := hP
  have hx := Bd.exec
  have hby := Bd.bytes
  have hml : c.maxLocals = 17 := hml0
  have hown : s.vm.findClass "com/example/dido/dido/QueueSettingsDelayPinLaw" = some m.cls := findClass_of_methodNamed Bd.named
  have hnm := (name_of_methodNamed Bd.named Bd.method).1
  have X0 : Stand p l e room_1 s m #[(.long q1), (.long q2), (.long q3), (.long q4), (.int p5)] below meth c s₁ [] 0 0 := Stand.of_body Bd
  have e0 : s₁.heap = h0 := by rw [← hh, Bd.state]; rfl
  have N0 := Fr.nil n0
  have pre0 : ∀ t, Steps p.tables e below (s₁.setTop (mkF m 0 #[.val (.long q1), .second, .val (.long q2), .second, .val (.long q3), .second, .val (.long q4), .second, .val (.int p5), .unset, .unset, .unset, .unset, .unset, .unset, .unset, .unset] [])) t → Steps p.tables e below (s₁.setTop (entryFrame m #[(.long q1), (.long q2), (.long q3), (.long q4), (.int p5)] maxLocals)) t := fun t k => castTop (ef_law m q1 q2 q3 q4 p5) k
  have pre101 : ∀ t, Steps p.tables e below (s₁.setTop (mkF m 4 #[.val (.long q1), .second, .val (.long q2), .second, .val (.long q3), .second, .val (.long q4), .second, .val (.int p5), .unset, .unset, .unset, .unset, .unset, .unset, .unset, .unset] [(.int (p5 &&& (1 : Int32)))])) t → Steps p.tables e below (s₁.setTop (entryFrame m #[(.long q1), (.long q2), (.long q3), (.long q4), (.int p5)] maxLocals)) t := fun t kk => pre0 t (by
      show Steps p.tables e below (s₁.setTop (mkF m 0 #[.val (.long q1), .second, .val (.long q2), .second, .val (.long q3), .second, .val (.long q4), .second, .val (.int p5), .unset, .unset, .unset, .unset, .unset, .unset, .unset, .unset] [])) _
      refine XS.iload X0.here hx rfl (hb hby at_0) rfl ?_
      refine XS.iconst X0.here hx rfl (hb hby at_2) ?_
      refine XS.iand X0.here hx rfl (hb hby at_3) rfl ?_
      show Steps p.tables e below (s₁.setTop (mkF m 4 #[.val (.long q1), .second, .val (.long q2), .second, .val (.long q3), .second, .val (.long q4), .second, .val (.int p5), .unset, .unset, .unset, .unset, .unset, .unset, .unset, .unset] [(.int (p5 &&& (1 : Int32)))])) _
      exact kk)
  by_cases hc102 : (p5 &&& (1 : Int32)) = (0 : Int32)
  · obtain ⟨T103, h103, X103, e103, E103, A103, D103, -, st103⟩ := newO X0 hx hZ hown (hw _ (List.mem_of_getElem? (i := 1) rfl)) (hw _ (List.mem_of_getElem? (i := 2) rfl)) (hw _ (List.mem_of_getElem? (i := 3) rfl)) e0 (g := (mkF m 16 #[.val (.long q1), .second, .val (.long q2), .second, .val (.long q3), .second, .val (.long q4), .second, .val (.int p5), .val (.long q1), .second, .unset, .unset, .unset, .unset, .unset, .unset] [])) rfl (hb hby at_16) (by decide) (by decide)
    obtain ⟨b103, g103⟩ : ∃ z, z = h0.size := ⟨_, rfl⟩
    rw [← g103] at A103 D103 st103
    have g_b103 : n0 ≤ b103 := Nat.le_trans (own_szO O0) (Nat.le_of_eq g103.symm)
    have O103 := O0.ext E103
    have F103_delayMillis : Fld Z h103 b103 "com/example/dido/dido/QueueSettings" "delayMillis" "J" (.long (0 : Int64)) := D103 (Or.inr (hw _ (List.mem_of_getElem? (i := 11) rfl))) (ty := .long) (by decide)
    have F103_blockedUntilEpochMillis : Fld Z h103 b103 "com/example/dido/dido/QueueSettings" "blockedUntilEpochMillis" "J" (.long (0 : Int64)) := D103 (Or.inr (hw _ (List.mem_of_getElem? (i := 13) rfl))) (ty := .long) (by decide)
    have F103_limit : Fld Z h103 b103 "com/example/dido/dido/QueueSettings" "limit" "J" (.long (0 : Int64)) := D103 (Or.inr (hw _ (List.mem_of_getElem? (i := 15) rfl))) (ty := .long) (by decide)
    obtain ⟨_, _, ⟨T104, L104, k104, n104⟩, -, X104, ⟨Lc104, hQ104, l104, y104, z104⟩, st104⟩ := X103.specialBack hx (y := (⟨"com/example/dido/dido/QueueSettings", "<init>", "(JJJ)V"⟩ : MethodName)) rfl hown (mvT hZ (hw _ (List.mem_of_getElem? (i := 4) rfl))) (mvT hZ (hw _ (List.mem_of_getElem? (i := 5) rfl))) (mvT hZ (hw _ (List.mem_of_getElem? (i := 6) rfl))) (by decide) (backOf (W := 1) (rm_init l Z a0 hw [] b103 q1 q3 q4 ((.long (0 : Int64))) ((.long (0 : Int64))) ((.long (0 : Int64))) h103 n0 O103 A103 F103_delayMillis F103_blockedUntilEpochMillis F103_limit g_b103) hZ (hw _ (List.mem_of_getElem? (i := 6) rfl)) (hw _ (List.mem_of_getElem? (i := 3) rfl)) (by decide) (by decide)) (g := (mkF m 26 #[.val (.long q1), .second, .val (.long q2), .second, .val (.long q3), .second, .val (.long q4), .second, .val (.int p5), .val (.long q1), .second, .unset, .unset, .unset, .unset, .unset, .unset] [(.long q4), (.long q3), (.long q1), (.ref b103), (.ref b103)])) rfl (by rw [hml]; rfl) (Steps.refl _) (a := b103) (argsL := [(.long q1), (.long q3), (.long q4)]) (rest := [(.ref b103)]) (lenOf pd_0 rfl) rfl (by show 2 * 0 + _ ≤ _; exact Nat.le_of_eq rfl) (hb hby at_26) (fun _ _ => ⟨rfl, e103, (by decide : 1 + 0 ≤ _), (by decide : 3 + 0 ≤ _)⟩)
    dsimp only [Pt.U, Pt.locs, Pt.cells, Pt.slots] at X104 l104 y104 z104 st104 hQ104
    subst l104 y104 z104
    obtain ⟨rfl, Nq104, Kq104, Ei104, Fa104, Fb104, Fc104⟩ := hQ104
    have N104 := Fr.app N0 Nq104
    have O104 := O103.keep Kq104 (allS g_b103 all0)
    obtain ⟨cq105, kq105, q105a, q105b, q105c⟩ := isOf hZ rfl Ei104
    obtain ⟨_, _, ⟨T105, L105, k105, n105⟩, -, X105, ⟨Lc105, hQ105, l105, y105, z105⟩, st105⟩ := X104.virtualBack hx (y := (⟨"com/example/dido/dido/QueueSettings", "delay", "(J)J"⟩ : MethodName)) (z := (⟨"com/example/dido/dido/QueueSettings", "delay", "(J)J"⟩ : MethodName)) hown (mvT hZ (hw _ (List.mem_of_getElem? (i := 16) rfl))) (mvT hZ (hw _ (List.mem_of_getElem? (i := 17) rfl))) (notFace_of_selects (args := #[]) (mvT hZ (hw _ (List.mem_of_getElem? (i := 19) rfl)))) (mvT hZ (hw _ (List.mem_of_getElem? (i := 19) rfl))) (mvT hZ (hw _ (List.mem_of_getElem? (i := 18) rfl))) (by decide) (backOf (W := 0) (rm_dl l Z a0 hw [] b103 q2 q1 T104.heap n0 O104 Fa104) hZ (hw _ (List.mem_of_getElem? (i := 20) rfl)) (hw _ (List.mem_of_getElem? (i := 3) rfl)) (by decide) (by decide)) q105a q105c (g := (mkF m 34 #[.val (.long q1), .second, .val (.long q2), .second, .val (.long q3), .second, .val (.long q4), .second, .val (.int p5), .val (.long q1), .second, .val (.ref b103), .unset, .unset, .unset, .unset, .unset] [(.long q2), (.ref b103)])) rfl (by rw [hml]; rfl) (Steps.refl _) (argsL := [(.long q2)]) (rest := []) (lenOf pd_1 rfl) rfl (by show 2 * 0 + _ ≤ _; exact Nat.le_of_eq rfl) (hb hby at_34) (fun _ _ => ⟨rfl, rfl, (by decide : 1 + 0 ≤ _), (by decide : 3 + 0 ≤ _)⟩)
    dsimp only [Pt.U, Pt.locs, Pt.cells, Pt.slots] at X105 l105 y105 z105 st105 hQ105
    subst l105 y105 z105
    obtain ⟨rfl, Nq105, e105⟩ := hQ105
    have N105 := Fr.app N104 Nq105
    have pre106 : ∀ t, Steps p.tables e below (T105.setTop (mkF m 45 #[.val (.long q1), .second, .val (.long q2), .second, .val (.long q3), .second, .val (.long q4), .second, .val (.int p5), .val (.long q1), .second, .val (.ref b103), .val (.long (if q1 = (-1 : Int64) then q2 else q1)), .second, .unset, .unset, .unset] [(.int (lcmpW q1 (-1 : Int64)))])) t → Steps p.tables e below (s₁.setTop (entryFrame m #[(.long q1), (.long q2), (.long q3), (.long q4), (.int p5)] maxLocals)) t := fun t kk => pre101 t (by
        refine XS.ifYes X0.here hx rfl (pc0 := 4) (pc' := 13) rfl (hb hby at_4) rfl ((if0 _ _).trans (teq hc102).1) (by decide) (by decide) ?_
        refine XS.lloadN X0.here hx rfl (hb hby at_13) rfl ?_
        refine XS.lstore X0.here hx rfl (hb hby at_14) rfl (l' := #[.val (.long q1), .second, .val (.long q2), .second, .val (.long q3), .second, .val (.long q4), .second, .val (.int p5), .val (.long q1), .second, .unset, .unset, .unset, .unset, .unset, .unset]) rfl ?_
        show Steps p.tables e below (s₁.setTop (mkF m 16 #[.val (.long q1), .second, .val (.long q2), .second, .val (.long q3), .second, .val (.long q4), .second, .val (.int p5), .val (.long q1), .second, .unset, .unset, .unset, .unset, .unset, .unset] [])) _
        refine st103 _ ?_
        show Steps p.tables e below (T103.setTop (mkF m 19 #[.val (.long q1), .second, .val (.long q2), .second, .val (.long q3), .second, .val (.long q4), .second, .val (.int p5), .val (.long q1), .second, .unset, .unset, .unset, .unset, .unset, .unset] [(.ref b103)])) _
        refine XS.dup X103.here hx rfl (hb hby at_19) rfl rfl ?_
        refine XS.lload X103.here hx rfl (hb hby at_20) rfl ?_
        refine XS.lload X103.here hx rfl (hb hby at_22) rfl ?_
        refine XS.lload X103.here hx rfl (hb hby at_24) rfl ?_
        show Steps p.tables e below (T103.setTop (mkF m 26 #[.val (.long q1), .second, .val (.long q2), .second, .val (.long q3), .second, .val (.long q4), .second, .val (.int p5), .val (.long q1), .second, .unset, .unset, .unset, .unset, .unset, .unset] [(.long q4), (.long q3), (.long q1), (.ref b103), (.ref b103)])) _
        refine st104.trans ?_
        show Steps p.tables e below (T104.setTop (mkF m 29 #[.val (.long q1), .second, .val (.long q2), .second, .val (.long q3), .second, .val (.long q4), .second, .val (.int p5), .val (.long q1), .second, .unset, .unset, .unset, .unset, .unset, .unset] [(.ref b103)])) _
        refine XS.astore X104.here hx rfl (hb hby at_29) rfl rfl (l' := #[.val (.long q1), .second, .val (.long q2), .second, .val (.long q3), .second, .val (.long q4), .second, .val (.int p5), .val (.long q1), .second, .val (.ref b103), .unset, .unset, .unset, .unset, .unset]) rfl ?_
        refine XS.aload X104.here hx rfl (hb hby at_31) rfl rfl ?_
        refine XS.lloadN X104.here hx rfl (hb hby at_33) rfl ?_
        show Steps p.tables e below (T104.setTop (mkF m 34 #[.val (.long q1), .second, .val (.long q2), .second, .val (.long q3), .second, .val (.long q4), .second, .val (.int p5), .val (.long q1), .second, .val (.ref b103), .unset, .unset, .unset, .unset, .unset] [(.long q2), (.ref b103)])) _
        refine st105.trans ?_
        show Steps p.tables e below (T105.setTop (mkF m 37 #[.val (.long q1), .second, .val (.long q2), .second, .val (.long q3), .second, .val (.long q4), .second, .val (.int p5), .val (.long q1), .second, .val (.ref b103), .unset, .unset, .unset, .unset, .unset] [(.long (if q1 = (-1 : Int64) then q2 else q1))])) _
        refine XS.lstore X105.here hx rfl (hb hby at_37) rfl (l' := #[.val (.long q1), .second, .val (.long q2), .second, .val (.long q3), .second, .val (.long q4), .second, .val (.int p5), .val (.long q1), .second, .val (.ref b103), .val (.long (if q1 = (-1 : Int64) then q2 else q1)), .second, .unset, .unset, .unset]) rfl ?_
        refine XS.lload X105.here hx rfl (hb hby at_39) rfl ?_
        show Steps p.tables e below (T105.setTop (mkF m 41 #[.val (.long q1), .second, .val (.long q2), .second, .val (.long q3), .second, .val (.long q4), .second, .val (.int p5), .val (.long q1), .second, .val (.ref b103), .val (.long (if q1 = (-1 : Int64) then q2 else q1)), .second, .unset, .unset, .unset] [(.long q1)])) _
        refine X105.ldc2Long hx hown (mvT hZ (hw _ (List.mem_of_getElem? (i := 0) rfl))) (g := (mkF m 41 #[.val (.long q1), .second, .val (.long q2), .second, .val (.long q3), .second, .val (.long q4), .second, .val (.int p5), .val (.long q1), .second, .val (.ref b103), .val (.long (if q1 = (-1 : Int64) then q2 else q1)), .second, .unset, .unset, .unset] [(.long q1)])) rfl (hb hby at_41) _ ?_
        show Steps p.tables e below (T105.setTop (mkF m 44 #[.val (.long q1), .second, .val (.long q2), .second, .val (.long q3), .second, .val (.long q4), .second, .val (.int p5), .val (.long q1), .second, .val (.ref b103), .val (.long (if q1 = (-1 : Int64) then q2 else q1)), .second, .unset, .unset, .unset] [(.long (-1 : Int64)), (.long q1)])) _
        refine XS.lcmp X105.here hx rfl (hb hby at_44) rfl ?_
        show Steps p.tables e below (T105.setTop (mkF m 45 #[.val (.long q1), .second, .val (.long q2), .second, .val (.long q3), .second, .val (.long q4), .second, .val (.int p5), .val (.long q1), .second, .val (.ref b103), .val (.long (if q1 = (-1 : Int64) then q2 else q1)), .second, .unset, .unset, .unset] [(.int (lcmpW q1 (-1 : Int64)))])) _
        exact kk)
    by_cases hc107 : q1 = (-1 : Int64)
    · have hc108 : (if q1 = (-1 : Int64) then q2 else q1) = q2 := (by simp [eq_true hc102, eq_true hc107])
      obtain ⟨T109, X109, e109, st109⟩ := getS2 X105 hx hZ hown (host := "") (Or.inl (hw _ (List.mem_of_getElem? (i := 22) rfl))) Via.refl e105 (SN.ext O104.2) (g := (mkF m 96 #[.val (.long q1), .second, .val (.long q2), .second, .val (.long q3), .second, .val (.long q4), .second, .val (.int p5), .val (.long q1), .second, .val (.ref b103), .val (.long (if q1 = (-1 : Int64) then q2 else q1)), .second, .val (.int (1 : Int32)), .unset, .unset] [])) rfl (hb hby at_96)
      obtain ⟨cq110, kq110, q110a, q110b, q110c⟩ := isOf hZ e109 (EN.ext O104.2)
      obtain ⟨_, _, ⟨T110, L110, k110, n110⟩, -, X110, ⟨Lc110, hQ110, l110, y110, z110⟩, st110⟩ := X109.virtualBack hx (y := (⟨"com/example/dido/dido/QueueSettings", "delay", "(J)J"⟩ : MethodName)) (z := (⟨"com/example/dido/dido/QueueSettings", "delay", "(J)J"⟩ : MethodName)) hown (mvT hZ (hw _ (List.mem_of_getElem? (i := 16) rfl))) (mvT hZ (hw _ (List.mem_of_getElem? (i := 17) rfl))) (notFace_of_selects (args := #[]) (mvT hZ (hw _ (List.mem_of_getElem? (i := 19) rfl)))) (mvT hZ (hw _ (List.mem_of_getElem? (i := 19) rfl))) (mvT hZ (hw _ (List.mem_of_getElem? (i := 18) rfl))) (by decide) (backOf (W := 0) (rm_dl l Z a0 hw [] aN q2 (-1 : Int64) T104.heap n0 O104 (FNn.ext O104.2)) hZ (hw _ (List.mem_of_getElem? (i := 20) rfl)) (hw _ (List.mem_of_getElem? (i := 3) rfl)) (by decide) (by decide)) q110a q110c (g := (mkF m 100 #[.val (.long q1), .second, .val (.long q2), .second, .val (.long q3), .second, .val (.long q4), .second, .val (.int p5), .val (.long q1), .second, .val (.ref b103), .val (.long (if q1 = (-1 : Int64) then q2 else q1)), .second, .val (.int (1 : Int32)), .unset, .unset] [(.long q2), (.ref aN)])) rfl (by rw [hml]; rfl) (Steps.refl _) (argsL := [(.long q2)]) (rest := []) (lenOf pd_1 rfl) rfl (by show 2 * 0 + _ ≤ _; exact Nat.le_of_eq rfl) (hb hby at_100) (fun _ _ => ⟨rfl, e109, (by decide : 1 + 0 ≤ _), (by decide : 3 + 0 ≤ _)⟩)
      dsimp only [Pt.U, Pt.locs, Pt.cells, Pt.slots] at X110 l110 y110 z110 st110 hQ110
      subst l110 y110 z110
      obtain ⟨rfl, Nq110, e110⟩ := hQ110
      have N110 := Fr.app N105 Nq110
      have hc111 : (if (-1 : Int64) = (-1 : Int64) then q2 else (-1 : Int64)) = q2 := (by simp [eq_true hc102, eq_true hc107, eq_true hc108])
      obtain ⟨cq112, kq112, q112a, q112b, q112c⟩ := isOf hZ e110 Ei104
      obtain ⟨_, _, ⟨T112, L112, k112, n112⟩, -, X112, ⟨Lc112, hQ112, l112, y112, z112⟩, st112⟩ := X110.virtualBack hx (y := (⟨"com/example/dido/dido/QueueSettings", "withDelay", "(J)Lcom/example/dido/dido/QueueSettings;"⟩ : MethodName)) (z := (⟨"com/example/dido/dido/QueueSettings", "withDelay", "(J)Lcom/example/dido/dido/QueueSettings;"⟩ : MethodName)) hown (mvT hZ (hw _ (List.mem_of_getElem? (i := 24) rfl))) (mvT hZ (hw _ (List.mem_of_getElem? (i := 25) rfl))) (notFace_of_selects (args := #[]) (mvT hZ (hw _ (List.mem_of_getElem? (i := 27) rfl)))) (mvT hZ (hw _ (List.mem_of_getElem? (i := 27) rfl))) (mvT hZ (hw _ (List.mem_of_getElem? (i := 26) rfl))) (by decide) (backOf (W := 0) (rm_wd l Z a0 hw [] b103 (-1 : Int64) q3 q4 T104.heap n0 O104 Fb104 Fc104 g_b103) hZ (hw _ (List.mem_of_getElem? (i := 28) rfl)) (hw _ (List.mem_of_getElem? (i := 3) rfl)) (by decide) (by decide)) q112a q112c (g := (mkF m 120 #[.val (.long q1), .second, .val (.long q2), .second, .val (.long q3), .second, .val (.long q4), .second, .val (.int p5), .val (.long q1), .second, .val (.ref b103), .val (.long (if q1 = (-1 : Int64) then q2 else q1)), .second, .val (.int (1 : Int32)), .val (.int (1 : Int32)), .unset] [(.long (-1 : Int64)), (.ref b103)])) rfl (by rw [hml]; rfl) (Steps.refl _) (argsL := [(.long (-1 : Int64))]) (rest := []) (lenOf pd_2 rfl) rfl (by show 2 * 0 + _ ≤ _; exact Nat.le_of_eq rfl) (hb hby at_120) (fun _ _ => ⟨rfl, e110, (by decide : 1 + 1 ≤ _), (by decide : 3 + 3 ≤ _)⟩)
      dsimp only [Pt.U, Pt.locs, Pt.cells, Pt.slots] at X112 l112 y112 z112 st112 hQ112
      subst l112 y112 z112
      obtain ⟨b112, rfl, gb112, Nq112, Kq112, Eb112, Fb112⟩ := hQ112
      have N112 := Fr.app N110 Nq112
      have g_b112 : n0 ≤ b112 := Nat.le_trans (own_szO O104) gb112
      have ne_b103_b112 : b103 ≠ b112 := Nat.ne_of_lt (Nat.lt_of_lt_of_le Ei104.lt gb112)
      have O112 := O104.keep Kq112 all0
      obtain ⟨cq113, kq113, q113a, q113b, q113c⟩ := isOf hZ rfl Eb112
      obtain ⟨_, _, ⟨T113, L113, k113, n113⟩, -, X113, ⟨Lc113, hQ113, l113, y113, z113⟩, st113⟩ := X112.virtualBack hx (y := (⟨"com/example/dido/dido/QueueSettings", "delay", "(J)J"⟩ : MethodName)) (z := (⟨"com/example/dido/dido/QueueSettings", "delay", "(J)J"⟩ : MethodName)) hown (mvT hZ (hw _ (List.mem_of_getElem? (i := 16) rfl))) (mvT hZ (hw _ (List.mem_of_getElem? (i := 17) rfl))) (notFace_of_selects (args := #[]) (mvT hZ (hw _ (List.mem_of_getElem? (i := 19) rfl)))) (mvT hZ (hw _ (List.mem_of_getElem? (i := 19) rfl))) (mvT hZ (hw _ (List.mem_of_getElem? (i := 18) rfl))) (by decide) (backOf (W := 0) (rm_dl l Z a0 hw [] b112 q2 (-1 : Int64) T112.heap n0 O112 Fb112) hZ (hw _ (List.mem_of_getElem? (i := 20) rfl)) (hw _ (List.mem_of_getElem? (i := 3) rfl)) (by decide) (by decide)) q113a q113c (g := (mkF m 124 #[.val (.long q1), .second, .val (.long q2), .second, .val (.long q3), .second, .val (.long q4), .second, .val (.int p5), .val (.long q1), .second, .val (.ref b103), .val (.long (if q1 = (-1 : Int64) then q2 else q1)), .second, .val (.int (1 : Int32)), .val (.int (1 : Int32)), .unset] [(.long q2), (.ref b112)])) rfl (by rw [hml]; rfl) (Steps.refl _) (argsL := [(.long q2)]) (rest := []) (lenOf pd_1 rfl) rfl (by show 2 * 0 + _ ≤ _; exact Nat.le_of_eq rfl) (hb hby at_124) (fun _ _ => ⟨rfl, rfl, (by decide : 2 + 0 ≤ _), (by decide : 6 + 0 ≤ _)⟩)
      dsimp only [Pt.U, Pt.locs, Pt.cells, Pt.slots] at X113 l113 y113 z113 st113 hQ113
      subst l113 y113 z113
      obtain ⟨rfl, Nq113, e113⟩ := hQ113
      have N113 := Fr.app N112 Nq113
      have hc114 : (if (-1 : Int64) = (-1 : Int64) then q2 else (-1 : Int64)) = q2 := (by simp [eq_true hc102, eq_true hc107, eq_true hc108, eq_true hc111])
      obtain ⟨fs, hr, hrun, hended, hW, hsame⟩ := X113.leave (v := some (.int (1 : Int32))) (fun h => by rw [Bd.returns] at h; cases h)
      refine ⟨_, _, pre106 _ ?_, hrun, hended, _, _, rfl, ?_, ⟨_, rfl⟩, hW, hsame.mono (by decide) (by decide)⟩
      · refine XS.ifNo X105.here hx rfl (hb hby at_45) rfl ((if0 _ _).trans (teq ((lw_eq _ _).mpr hc107)).2) ?_
        refine XS.lload X105.here hx rfl (hb hby at_48) rfl ?_
        refine XS.lloadN X105.here hx rfl (hb hby at_50) rfl ?_
        refine XS.lcmp X105.here hx rfl (hb hby at_51) rfl ?_
        show Steps p.tables e below (T105.setTop (mkF m 52 #[.val (.long q1), .second, .val (.long q2), .second, .val (.long q3), .second, .val (.long q4), .second, .val (.int p5), .val (.long q1), .second, .val (.ref b103), .val (.long (if q1 = (-1 : Int64) then q2 else q1)), .second, .unset, .unset, .unset] [(.int (lcmpW (if q1 = (-1 : Int64) then q2 else q1) q2))])) _
        refine XS.ifNo X105.here hx rfl (hb hby at_52) rfl ((if0 _ _).trans (teq ((lw_eq _ _).mpr hc108)).2) ?_
        refine XS.iconst X105.here hx rfl (hb hby at_55) ?_
        refine XS.goto X105.here hx rfl (pc0 := 56) (pc' := 60) rfl (hb hby at_56) (by decide) (by decide) ?_
        refine XS.istore X105.here hx rfl (hb hby at_60) rfl (l' := #[.val (.long q1), .second, .val (.long q2), .second, .val (.long q3), .second, .val (.long q4), .second, .val (.int p5), .val (.long q1), .second, .val (.ref b103), .val (.long (if q1 = (-1 : Int64) then q2 else q1)), .second, .val (.int (1 : Int32)), .unset, .unset]) rfl ?_
        show Steps p.tables e below (T105.setTop (mkF m 62 #[.val (.long q1), .second, .val (.long q2), .second, .val (.long q3), .second, .val (.long q4), .second, .val (.int p5), .val (.long q1), .second, .val (.ref b103), .val (.long (if q1 = (-1 : Int64) then q2 else q1)), .second, .val (.int (1 : Int32)), .unset, .unset] [])) _
        refine XS.goto X105.here hx rfl (pc0 := 62) (pc' := 96) rfl (hb hby at_62) (by decide) (by decide) ?_
        show Steps p.tables e below (T105.setTop (mkF m 96 #[.val (.long q1), .second, .val (.long q2), .second, .val (.long q3), .second, .val (.long q4), .second, .val (.int p5), .val (.long q1), .second, .val (.ref b103), .val (.long (if q1 = (-1 : Int64) then q2 else q1)), .second, .val (.int (1 : Int32)), .unset, .unset] [])) _
        refine st109 _ ?_
        show Steps p.tables e below (T109.setTop (mkF m 99 #[.val (.long q1), .second, .val (.long q2), .second, .val (.long q3), .second, .val (.long q4), .second, .val (.int p5), .val (.long q1), .second, .val (.ref b103), .val (.long (if q1 = (-1 : Int64) then q2 else q1)), .second, .val (.int (1 : Int32)), .unset, .unset] [(.ref aN)])) _
        refine XS.lloadN X109.here hx rfl (hb hby at_99) rfl ?_
        show Steps p.tables e below (T109.setTop (mkF m 100 #[.val (.long q1), .second, .val (.long q2), .second, .val (.long q3), .second, .val (.long q4), .second, .val (.int p5), .val (.long q1), .second, .val (.ref b103), .val (.long (if q1 = (-1 : Int64) then q2 else q1)), .second, .val (.int (1 : Int32)), .unset, .unset] [(.long q2), (.ref aN)])) _
        refine st110.trans ?_
        show Steps p.tables e below (T110.setTop (mkF m 103 #[.val (.long q1), .second, .val (.long q2), .second, .val (.long q3), .second, .val (.long q4), .second, .val (.int p5), .val (.long q1), .second, .val (.ref b103), .val (.long (if q1 = (-1 : Int64) then q2 else q1)), .second, .val (.int (1 : Int32)), .unset, .unset] [(.long (if (-1 : Int64) = (-1 : Int64) then q2 else (-1 : Int64)))])) _
        refine XS.lloadN X110.here hx rfl (hb hby at_103) rfl ?_
        refine XS.lcmp X110.here hx rfl (hb hby at_104) rfl ?_
        refine XS.ifNo X110.here hx rfl (hb hby at_105) rfl ((if0 _ _).trans (teq ((lw_eq _ _).mpr hc111)).2) ?_
        refine XS.iconst X110.here hx rfl (hb hby at_108) ?_
        show Steps p.tables e below (T110.setTop (mkF m 109 #[.val (.long q1), .second, .val (.long q2), .second, .val (.long q3), .second, .val (.long q4), .second, .val (.int p5), .val (.long q1), .second, .val (.ref b103), .val (.long (if q1 = (-1 : Int64) then q2 else q1)), .second, .val (.int (1 : Int32)), .unset, .unset] [(.int (1 : Int32))])) _
        refine XS.goto X110.here hx rfl (pc0 := 109) (pc' := 113) rfl (hb hby at_109) (by decide) (by decide) ?_
        refine XS.istore X110.here hx rfl (hb hby at_113) rfl (l' := #[.val (.long q1), .second, .val (.long q2), .second, .val (.long q3), .second, .val (.long q4), .second, .val (.int p5), .val (.long q1), .second, .val (.ref b103), .val (.long (if q1 = (-1 : Int64) then q2 else q1)), .second, .val (.int (1 : Int32)), .val (.int (1 : Int32)), .unset]) rfl ?_
        refine XS.aload X110.here hx rfl (hb hby at_115) rfl rfl ?_
        show Steps p.tables e below (T110.setTop (mkF m 117 #[.val (.long q1), .second, .val (.long q2), .second, .val (.long q3), .second, .val (.long q4), .second, .val (.int p5), .val (.long q1), .second, .val (.ref b103), .val (.long (if q1 = (-1 : Int64) then q2 else q1)), .second, .val (.int (1 : Int32)), .val (.int (1 : Int32)), .unset] [(.ref b103)])) _
        refine X110.ldc2Long hx hown (mvT hZ (hw _ (List.mem_of_getElem? (i := 0) rfl))) (g := (mkF m 117 #[.val (.long q1), .second, .val (.long q2), .second, .val (.long q3), .second, .val (.long q4), .second, .val (.int p5), .val (.long q1), .second, .val (.ref b103), .val (.long (if q1 = (-1 : Int64) then q2 else q1)), .second, .val (.int (1 : Int32)), .val (.int (1 : Int32)), .unset] [(.ref b103)])) rfl (hb hby at_117) _ ?_
        show Steps p.tables e below (T110.setTop (mkF m 120 #[.val (.long q1), .second, .val (.long q2), .second, .val (.long q3), .second, .val (.long q4), .second, .val (.int p5), .val (.long q1), .second, .val (.ref b103), .val (.long (if q1 = (-1 : Int64) then q2 else q1)), .second, .val (.int (1 : Int32)), .val (.int (1 : Int32)), .unset] [(.long (-1 : Int64)), (.ref b103)])) _
        refine st112.trans ?_
        show Steps p.tables e below (T112.setTop (mkF m 123 #[.val (.long q1), .second, .val (.long q2), .second, .val (.long q3), .second, .val (.long q4), .second, .val (.int p5), .val (.long q1), .second, .val (.ref b103), .val (.long (if q1 = (-1 : Int64) then q2 else q1)), .second, .val (.int (1 : Int32)), .val (.int (1 : Int32)), .unset] [(.ref b112)])) _
        refine XS.lloadN X112.here hx rfl (hb hby at_123) rfl ?_
        show Steps p.tables e below (T112.setTop (mkF m 124 #[.val (.long q1), .second, .val (.long q2), .second, .val (.long q3), .second, .val (.long q4), .second, .val (.int p5), .val (.long q1), .second, .val (.ref b103), .val (.long (if q1 = (-1 : Int64) then q2 else q1)), .second, .val (.int (1 : Int32)), .val (.int (1 : Int32)), .unset] [(.long q2), (.ref b112)])) _
        refine st113.trans ?_
        show Steps p.tables e below (T113.setTop (mkF m 127 #[.val (.long q1), .second, .val (.long q2), .second, .val (.long q3), .second, .val (.long q4), .second, .val (.int p5), .val (.long q1), .second, .val (.ref b103), .val (.long (if q1 = (-1 : Int64) then q2 else q1)), .second, .val (.int (1 : Int32)), .val (.int (1 : Int32)), .unset] [(.long (if (-1 : Int64) = (-1 : Int64) then q2 else (-1 : Int64)))])) _
        refine XS.lloadN X113.here hx rfl (hb hby at_127) rfl ?_
        refine XS.lcmp X113.here hx rfl (hb hby at_128) rfl ?_
        refine XS.ifNo X113.here hx rfl (hb hby at_129) rfl ((if0 _ _).trans (teq ((lw_eq _ _).mpr hc114)).2) ?_
        refine XS.iconst X113.here hx rfl (hb hby at_132) ?_
        show Steps p.tables e below (T113.setTop (mkF m 133 #[.val (.long q1), .second, .val (.long q2), .second, .val (.long q3), .second, .val (.long q4), .second, .val (.int p5), .val (.long q1), .second, .val (.ref b103), .val (.long (if q1 = (-1 : Int64) then q2 else q1)), .second, .val (.int (1 : Int32)), .val (.int (1 : Int32)), .unset] [(.int (1 : Int32))])) _
        refine XS.goto X113.here hx rfl (pc0 := 133) (pc' := 137) rfl (hb hby at_133) (by decide) (by decide) ?_
        refine XS.istore X113.here hx rfl (hb hby at_137) rfl (l' := #[.val (.long q1), .second, .val (.long q2), .second, .val (.long q3), .second, .val (.long q4), .second, .val (.int p5), .val (.long q1), .second, .val (.ref b103), .val (.long (if q1 = (-1 : Int64) then q2 else q1)), .second, .val (.int (1 : Int32)), .val (.int (1 : Int32)), .val (.int (1 : Int32))]) rfl ?_
        refine XS.iload X113.here hx rfl (hb hby at_139) rfl ?_
        refine XS.ifNo X113.here hx rfl (hb hby at_141) rfl ((if0 _ _).trans (feq (by decide : ¬ ((1 : Int32) = (0 : Int32)))).1) ?_
        show Steps p.tables e below (T113.setTop (mkF m 144 #[.val (.long q1), .second, .val (.long q2), .second, .val (.long q3), .second, .val (.long q4), .second, .val (.int p5), .val (.long q1), .second, .val (.ref b103), .val (.long (if q1 = (-1 : Int64) then q2 else q1)), .second, .val (.int (1 : Int32)), .val (.int (1 : Int32)), .val (.int (1 : Int32))] [])) _
        refine XS.iload X113.here hx rfl (hb hby at_144) rfl ?_
        refine XS.ifNo X113.here hx rfl (hb hby at_146) rfl ((if0 _ _).trans (feq (by decide : ¬ ((1 : Int32) = (0 : Int32)))).1) ?_
        refine XS.iload X113.here hx rfl (hb hby at_149) rfl ?_
        refine XS.ifNo X113.here hx rfl (hb hby at_151) rfl ((if0 _ _).trans (feq (by decide : ¬ ((1 : Int32) = (0 : Int32)))).1) ?_
        show Steps p.tables e below (T113.setTop (mkF m 154 #[.val (.long q1), .second, .val (.long q2), .second, .val (.long q3), .second, .val (.long q4), .second, .val (.int p5), .val (.long q1), .second, .val (.ref b103), .val (.long (if q1 = (-1 : Int64) then q2 else q1)), .second, .val (.int (1 : Int32)), .val (.int (1 : Int32)), .val (.int (1 : Int32))] [])) _
        refine XS.iconst X113.here hx rfl (hb hby at_154) ?_
        refine XS.goto X113.here hx rfl (pc0 := 155) (pc' := 159) rfl (hb hby at_155) (by decide) (by decide) ?_
        show Steps p.tables e below (T113.setTop (mkF m 159 #[.val (.long q1), .second, .val (.long q2), .second, .val (.long q3), .second, .val (.long q4), .second, .val (.int p5), .val (.long q1), .second, .val (.ref b103), .val (.long (if q1 = (-1 : Int64) then q2 else q1)), .second, .val (.int (1 : Int32)), .val (.int (1 : Int32)), .val (.int (1 : Int32))] [(.int (1 : Int32))])) _
        exact retOut X113 hx (t := .boolean) (i := .ireturn) Bd.returns rfl (Or.inl ⟨rfl, Or.inr (Or.inl rfl), _, rfl⟩) (hb hby at_159) hr
      · show Q_law Z q1 q2 q3 q4 p5 aN h0 n0 _ T113.heap _
        rw [e113]
        exact ⟨rfl, N113⟩
    · have hc115 : (if q1 = (-1 : Int64) then q2 else q1) = q1 := (by simp [eq_true hc102, eq_false hc107])
      obtain ⟨cq116, kq116, q116a, q116b, q116c⟩ := isOf hZ e105 Ei104
      obtain ⟨_, _, ⟨T116, L116, k116, n116⟩, -, X116, ⟨Lc116, hQ116, l116, y116, z116⟩, st116⟩ := X105.virtualBack hx (y := (⟨"com/example/dido/dido/QueueSettings", "delay", "(J)J"⟩ : MethodName)) (z := (⟨"com/example/dido/dido/QueueSettings", "delay", "(J)J"⟩ : MethodName)) hown (mvT hZ (hw _ (List.mem_of_getElem? (i := 16) rfl))) (mvT hZ (hw _ (List.mem_of_getElem? (i := 17) rfl))) (notFace_of_selects (args := #[]) (mvT hZ (hw _ (List.mem_of_getElem? (i := 19) rfl)))) (mvT hZ (hw _ (List.mem_of_getElem? (i := 19) rfl))) (mvT hZ (hw _ (List.mem_of_getElem? (i := 18) rfl))) (by decide) (backOf (W := 0) (rm_dl l Z a0 hw [] b103 (q2 ^^^ (-1 : Int64)) q1 T104.heap n0 O104 Fa104) hZ (hw _ (List.mem_of_getElem? (i := 20) rfl)) (hw _ (List.mem_of_getElem? (i := 3) rfl)) (by decide) (by decide)) q116a q116c (g := (mkF m 80 #[.val (.long q1), .second, .val (.long q2), .second, .val (.long q3), .second, .val (.long q4), .second, .val (.int p5), .val (.long q1), .second, .val (.ref b103), .val (.long (if q1 = (-1 : Int64) then q2 else q1)), .second, .unset, .unset, .unset] [(.long (q2 ^^^ (-1 : Int64))), (.ref b103)])) rfl (by rw [hml]; rfl) (Steps.refl _) (argsL := [(.long (q2 ^^^ (-1 : Int64)))]) (rest := []) (lenOf pd_1 rfl) rfl (by show 2 * 0 + _ ≤ _; exact Nat.le_of_eq rfl) (hb hby at_80) (fun _ _ => ⟨rfl, e105, (by decide : 1 + 0 ≤ _), (by decide : 3 + 0 ≤ _)⟩)
      dsimp only [Pt.U, Pt.locs, Pt.cells, Pt.slots] at X116 l116 y116 z116 st116 hQ116
      subst l116 y116 z116
      obtain ⟨rfl, Nq116, e116⟩ := hQ116
      have N116 := Fr.app N105 Nq116
      have hc117 : (if q1 = (-1 : Int64) then (q2 ^^^ (-1 : Int64)) else q1) = q1 := (by simp [eq_true hc102, eq_false hc107, eq_true hc115])
      obtain ⟨T118, X118, e118, st118⟩ := getS2 X116 hx hZ hown (host := "") (Or.inl (hw _ (List.mem_of_getElem? (i := 22) rfl))) Via.refl e116 (SN.ext O104.2) (g := (mkF m 96 #[.val (.long q1), .second, .val (.long q2), .second, .val (.long q3), .second, .val (.long q4), .second, .val (.int p5), .val (.long q1), .second, .val (.ref b103), .val (.long (if q1 = (-1 : Int64) then q2 else q1)), .second, .val (.int (1 : Int32)), .unset, .unset] [])) rfl (hb hby at_96)
      obtain ⟨cq119, kq119, q119a, q119b, q119c⟩ := isOf hZ e118 (EN.ext O104.2)
      obtain ⟨_, _, ⟨T119, L119, k119, n119⟩, -, X119, ⟨Lc119, hQ119, l119, y119, z119⟩, st119⟩ := X118.virtualBack hx (y := (⟨"com/example/dido/dido/QueueSettings", "delay", "(J)J"⟩ : MethodName)) (z := (⟨"com/example/dido/dido/QueueSettings", "delay", "(J)J"⟩ : MethodName)) hown (mvT hZ (hw _ (List.mem_of_getElem? (i := 16) rfl))) (mvT hZ (hw _ (List.mem_of_getElem? (i := 17) rfl))) (notFace_of_selects (args := #[]) (mvT hZ (hw _ (List.mem_of_getElem? (i := 19) rfl)))) (mvT hZ (hw _ (List.mem_of_getElem? (i := 19) rfl))) (mvT hZ (hw _ (List.mem_of_getElem? (i := 18) rfl))) (by decide) (backOf (W := 0) (rm_dl l Z a0 hw [] aN q2 (-1 : Int64) T104.heap n0 O104 (FNn.ext O104.2)) hZ (hw _ (List.mem_of_getElem? (i := 20) rfl)) (hw _ (List.mem_of_getElem? (i := 3) rfl)) (by decide) (by decide)) q119a q119c (g := (mkF m 100 #[.val (.long q1), .second, .val (.long q2), .second, .val (.long q3), .second, .val (.long q4), .second, .val (.int p5), .val (.long q1), .second, .val (.ref b103), .val (.long (if q1 = (-1 : Int64) then q2 else q1)), .second, .val (.int (1 : Int32)), .unset, .unset] [(.long q2), (.ref aN)])) rfl (by rw [hml]; rfl) (Steps.refl _) (argsL := [(.long q2)]) (rest := []) (lenOf pd_1 rfl) rfl (by show 2 * 0 + _ ≤ _; exact Nat.le_of_eq rfl) (hb hby at_100) (fun _ _ => ⟨rfl, e118, (by decide : 1 + 0 ≤ _), (by decide : 3 + 0 ≤ _)⟩)
      dsimp only [Pt.U, Pt.locs, Pt.cells, Pt.slots] at X119 l119 y119 z119 st119 hQ119
      subst l119 y119 z119
      obtain ⟨rfl, Nq119, e119⟩ := hQ119
      have N119 := Fr.app N116 Nq119
      have hc120 : (if (-1 : Int64) = (-1 : Int64) then q2 else (-1 : Int64)) = q2 := (by simp [eq_true hc102, eq_false hc107, eq_true hc115, eq_true hc117])
      obtain ⟨cq121, kq121, q121a, q121b, q121c⟩ := isOf hZ e119 Ei104
      obtain ⟨_, _, ⟨T121, L121, k121, n121⟩, -, X121, ⟨Lc121, hQ121, l121, y121, z121⟩, st121⟩ := X119.virtualBack hx (y := (⟨"com/example/dido/dido/QueueSettings", "withDelay", "(J)Lcom/example/dido/dido/QueueSettings;"⟩ : MethodName)) (z := (⟨"com/example/dido/dido/QueueSettings", "withDelay", "(J)Lcom/example/dido/dido/QueueSettings;"⟩ : MethodName)) hown (mvT hZ (hw _ (List.mem_of_getElem? (i := 24) rfl))) (mvT hZ (hw _ (List.mem_of_getElem? (i := 25) rfl))) (notFace_of_selects (args := #[]) (mvT hZ (hw _ (List.mem_of_getElem? (i := 27) rfl)))) (mvT hZ (hw _ (List.mem_of_getElem? (i := 27) rfl))) (mvT hZ (hw _ (List.mem_of_getElem? (i := 26) rfl))) (by decide) (backOf (W := 0) (rm_wd l Z a0 hw [] b103 (-1 : Int64) q3 q4 T104.heap n0 O104 Fb104 Fc104 g_b103) hZ (hw _ (List.mem_of_getElem? (i := 28) rfl)) (hw _ (List.mem_of_getElem? (i := 3) rfl)) (by decide) (by decide)) q121a q121c (g := (mkF m 120 #[.val (.long q1), .second, .val (.long q2), .second, .val (.long q3), .second, .val (.long q4), .second, .val (.int p5), .val (.long q1), .second, .val (.ref b103), .val (.long (if q1 = (-1 : Int64) then q2 else q1)), .second, .val (.int (1 : Int32)), .val (.int (1 : Int32)), .unset] [(.long (-1 : Int64)), (.ref b103)])) rfl (by rw [hml]; rfl) (Steps.refl _) (argsL := [(.long (-1 : Int64))]) (rest := []) (lenOf pd_2 rfl) rfl (by show 2 * 0 + _ ≤ _; exact Nat.le_of_eq rfl) (hb hby at_120) (fun _ _ => ⟨rfl, e119, (by decide : 1 + 1 ≤ _), (by decide : 3 + 3 ≤ _)⟩)
      dsimp only [Pt.U, Pt.locs, Pt.cells, Pt.slots] at X121 l121 y121 z121 st121 hQ121
      subst l121 y121 z121
      obtain ⟨b121, rfl, gb121, Nq121, Kq121, Eb121, Fb121⟩ := hQ121
      have N121 := Fr.app N119 Nq121
      have g_b121 : n0 ≤ b121 := Nat.le_trans (own_szO O104) gb121
      have ne_b103_b121 : b103 ≠ b121 := Nat.ne_of_lt (Nat.lt_of_lt_of_le Ei104.lt gb121)
      have O121 := O104.keep Kq121 all0
      obtain ⟨cq122, kq122, q122a, q122b, q122c⟩ := isOf hZ rfl Eb121
      obtain ⟨_, _, ⟨T122, L122, k122, n122⟩, -, X122, ⟨Lc122, hQ122, l122, y122, z122⟩, st122⟩ := X121.virtualBack hx (y := (⟨"com/example/dido/dido/QueueSettings", "delay", "(J)J"⟩ : MethodName)) (z := (⟨"com/example/dido/dido/QueueSettings", "delay", "(J)J"⟩ : MethodName)) hown (mvT hZ (hw _ (List.mem_of_getElem? (i := 16) rfl))) (mvT hZ (hw _ (List.mem_of_getElem? (i := 17) rfl))) (notFace_of_selects (args := #[]) (mvT hZ (hw _ (List.mem_of_getElem? (i := 19) rfl)))) (mvT hZ (hw _ (List.mem_of_getElem? (i := 19) rfl))) (mvT hZ (hw _ (List.mem_of_getElem? (i := 18) rfl))) (by decide) (backOf (W := 0) (rm_dl l Z a0 hw [] b121 q2 (-1 : Int64) T121.heap n0 O121 Fb121) hZ (hw _ (List.mem_of_getElem? (i := 20) rfl)) (hw _ (List.mem_of_getElem? (i := 3) rfl)) (by decide) (by decide)) q122a q122c (g := (mkF m 124 #[.val (.long q1), .second, .val (.long q2), .second, .val (.long q3), .second, .val (.long q4), .second, .val (.int p5), .val (.long q1), .second, .val (.ref b103), .val (.long (if q1 = (-1 : Int64) then q2 else q1)), .second, .val (.int (1 : Int32)), .val (.int (1 : Int32)), .unset] [(.long q2), (.ref b121)])) rfl (by rw [hml]; rfl) (Steps.refl _) (argsL := [(.long q2)]) (rest := []) (lenOf pd_1 rfl) rfl (by show 2 * 0 + _ ≤ _; exact Nat.le_of_eq rfl) (hb hby at_124) (fun _ _ => ⟨rfl, rfl, (by decide : 2 + 0 ≤ _), (by decide : 6 + 0 ≤ _)⟩)
      dsimp only [Pt.U, Pt.locs, Pt.cells, Pt.slots] at X122 l122 y122 z122 st122 hQ122
      subst l122 y122 z122
      obtain ⟨rfl, Nq122, e122⟩ := hQ122
      have N122 := Fr.app N121 Nq122
      have hc123 : (if (-1 : Int64) = (-1 : Int64) then q2 else (-1 : Int64)) = q2 := (by simp [eq_true hc102, eq_false hc107, eq_true hc115, eq_true hc117, eq_true hc120])
      obtain ⟨fs, hr, hrun, hended, hW, hsame⟩ := X122.leave (v := some (.int (1 : Int32))) (fun h => by rw [Bd.returns] at h; cases h)
      refine ⟨_, _, pre106 _ ?_, hrun, hended, _, _, rfl, ?_, ⟨_, rfl⟩, hW, hsame.mono (by decide) (by decide)⟩
      · refine XS.ifYes X105.here hx rfl (pc0 := 45) (pc' := 65) rfl (hb hby at_45) rfl ((if0 _ _).trans (feq (fun q => hc107 ((lw_eq _ _).mp q))).2) (by decide) (by decide) ?_
        refine XS.lload X105.here hx rfl (hb hby at_65) rfl ?_
        refine XS.lload X105.here hx rfl (hb hby at_67) rfl ?_
        refine XS.lcmp X105.here hx rfl (hb hby at_69) rfl ?_
        show Steps p.tables e below (T105.setTop (mkF m 70 #[.val (.long q1), .second, .val (.long q2), .second, .val (.long q3), .second, .val (.long q4), .second, .val (.int p5), .val (.long q1), .second, .val (.ref b103), .val (.long (if q1 = (-1 : Int64) then q2 else q1)), .second, .unset, .unset, .unset] [(.int (lcmpW (if q1 = (-1 : Int64) then q2 else q1) q1))])) _
        refine XS.ifNo X105.here hx rfl (hb hby at_70) rfl ((if0 _ _).trans (teq ((lw_eq _ _).mpr hc115)).2) ?_
        refine XS.aload X105.here hx rfl (hb hby at_73) rfl rfl ?_
        refine XS.lloadN X105.here hx rfl (hb hby at_75) rfl ?_
        show Steps p.tables e below (T105.setTop (mkF m 76 #[.val (.long q1), .second, .val (.long q2), .second, .val (.long q3), .second, .val (.long q4), .second, .val (.int p5), .val (.long q1), .second, .val (.ref b103), .val (.long (if q1 = (-1 : Int64) then q2 else q1)), .second, .unset, .unset, .unset] [(.long q2), (.ref b103)])) _
        refine X105.ldc2Long hx hown (mvT hZ (hw _ (List.mem_of_getElem? (i := 0) rfl))) (g := (mkF m 76 #[.val (.long q1), .second, .val (.long q2), .second, .val (.long q3), .second, .val (.long q4), .second, .val (.int p5), .val (.long q1), .second, .val (.ref b103), .val (.long (if q1 = (-1 : Int64) then q2 else q1)), .second, .unset, .unset, .unset] [(.long q2), (.ref b103)])) rfl (hb hby at_76) _ ?_
        show Steps p.tables e below (T105.setTop (mkF m 79 #[.val (.long q1), .second, .val (.long q2), .second, .val (.long q3), .second, .val (.long q4), .second, .val (.int p5), .val (.long q1), .second, .val (.ref b103), .val (.long (if q1 = (-1 : Int64) then q2 else q1)), .second, .unset, .unset, .unset] [(.long (-1 : Int64)), (.long q2), (.ref b103)])) _
        refine XS.lxor X105.here hx rfl (hb hby at_79) rfl ?_
        show Steps p.tables e below (T105.setTop (mkF m 80 #[.val (.long q1), .second, .val (.long q2), .second, .val (.long q3), .second, .val (.long q4), .second, .val (.int p5), .val (.long q1), .second, .val (.ref b103), .val (.long (if q1 = (-1 : Int64) then q2 else q1)), .second, .unset, .unset, .unset] [(.long (q2 ^^^ (-1 : Int64))), (.ref b103)])) _
        refine st116.trans ?_
        show Steps p.tables e below (T116.setTop (mkF m 83 #[.val (.long q1), .second, .val (.long q2), .second, .val (.long q3), .second, .val (.long q4), .second, .val (.int p5), .val (.long q1), .second, .val (.ref b103), .val (.long (if q1 = (-1 : Int64) then q2 else q1)), .second, .unset, .unset, .unset] [(.long (if q1 = (-1 : Int64) then (q2 ^^^ (-1 : Int64)) else q1))])) _
        refine XS.lload X116.here hx rfl (hb hby at_83) rfl ?_
        refine XS.lcmp X116.here hx rfl (hb hby at_85) rfl ?_
        refine XS.ifNo X116.here hx rfl (hb hby at_86) rfl ((if0 _ _).trans (teq ((lw_eq _ _).mpr hc117)).2) ?_
        refine XS.iconst X116.here hx rfl (hb hby at_89) ?_
        show Steps p.tables e below (T116.setTop (mkF m 90 #[.val (.long q1), .second, .val (.long q2), .second, .val (.long q3), .second, .val (.long q4), .second, .val (.int p5), .val (.long q1), .second, .val (.ref b103), .val (.long (if q1 = (-1 : Int64) then q2 else q1)), .second, .unset, .unset, .unset] [(.int (1 : Int32))])) _
        refine XS.goto X116.here hx rfl (pc0 := 90) (pc' := 94) rfl (hb hby at_90) (by decide) (by decide) ?_
        refine XS.istore X116.here hx rfl (hb hby at_94) rfl (l' := #[.val (.long q1), .second, .val (.long q2), .second, .val (.long q3), .second, .val (.long q4), .second, .val (.int p5), .val (.long q1), .second, .val (.ref b103), .val (.long (if q1 = (-1 : Int64) then q2 else q1)), .second, .val (.int (1 : Int32)), .unset, .unset]) rfl ?_
        show Steps p.tables e below (T116.setTop (mkF m 96 #[.val (.long q1), .second, .val (.long q2), .second, .val (.long q3), .second, .val (.long q4), .second, .val (.int p5), .val (.long q1), .second, .val (.ref b103), .val (.long (if q1 = (-1 : Int64) then q2 else q1)), .second, .val (.int (1 : Int32)), .unset, .unset] [])) _
        refine st118 _ ?_
        show Steps p.tables e below (T118.setTop (mkF m 99 #[.val (.long q1), .second, .val (.long q2), .second, .val (.long q3), .second, .val (.long q4), .second, .val (.int p5), .val (.long q1), .second, .val (.ref b103), .val (.long (if q1 = (-1 : Int64) then q2 else q1)), .second, .val (.int (1 : Int32)), .unset, .unset] [(.ref aN)])) _
        refine XS.lloadN X118.here hx rfl (hb hby at_99) rfl ?_
        show Steps p.tables e below (T118.setTop (mkF m 100 #[.val (.long q1), .second, .val (.long q2), .second, .val (.long q3), .second, .val (.long q4), .second, .val (.int p5), .val (.long q1), .second, .val (.ref b103), .val (.long (if q1 = (-1 : Int64) then q2 else q1)), .second, .val (.int (1 : Int32)), .unset, .unset] [(.long q2), (.ref aN)])) _
        refine st119.trans ?_
        show Steps p.tables e below (T119.setTop (mkF m 103 #[.val (.long q1), .second, .val (.long q2), .second, .val (.long q3), .second, .val (.long q4), .second, .val (.int p5), .val (.long q1), .second, .val (.ref b103), .val (.long (if q1 = (-1 : Int64) then q2 else q1)), .second, .val (.int (1 : Int32)), .unset, .unset] [(.long (if (-1 : Int64) = (-1 : Int64) then q2 else (-1 : Int64)))])) _
        refine XS.lloadN X119.here hx rfl (hb hby at_103) rfl ?_
        refine XS.lcmp X119.here hx rfl (hb hby at_104) rfl ?_
        refine XS.ifNo X119.here hx rfl (hb hby at_105) rfl ((if0 _ _).trans (teq ((lw_eq _ _).mpr hc120)).2) ?_
        refine XS.iconst X119.here hx rfl (hb hby at_108) ?_
        show Steps p.tables e below (T119.setTop (mkF m 109 #[.val (.long q1), .second, .val (.long q2), .second, .val (.long q3), .second, .val (.long q4), .second, .val (.int p5), .val (.long q1), .second, .val (.ref b103), .val (.long (if q1 = (-1 : Int64) then q2 else q1)), .second, .val (.int (1 : Int32)), .unset, .unset] [(.int (1 : Int32))])) _
        refine XS.goto X119.here hx rfl (pc0 := 109) (pc' := 113) rfl (hb hby at_109) (by decide) (by decide) ?_
        refine XS.istore X119.here hx rfl (hb hby at_113) rfl (l' := #[.val (.long q1), .second, .val (.long q2), .second, .val (.long q3), .second, .val (.long q4), .second, .val (.int p5), .val (.long q1), .second, .val (.ref b103), .val (.long (if q1 = (-1 : Int64) then q2 else q1)), .second, .val (.int (1 : Int32)), .val (.int (1 : Int32)), .unset]) rfl ?_
        refine XS.aload X119.here hx rfl (hb hby at_115) rfl rfl ?_
        show Steps p.tables e below (T119.setTop (mkF m 117 #[.val (.long q1), .second, .val (.long q2), .second, .val (.long q3), .second, .val (.long q4), .second, .val (.int p5), .val (.long q1), .second, .val (.ref b103), .val (.long (if q1 = (-1 : Int64) then q2 else q1)), .second, .val (.int (1 : Int32)), .val (.int (1 : Int32)), .unset] [(.ref b103)])) _
        refine X119.ldc2Long hx hown (mvT hZ (hw _ (List.mem_of_getElem? (i := 0) rfl))) (g := (mkF m 117 #[.val (.long q1), .second, .val (.long q2), .second, .val (.long q3), .second, .val (.long q4), .second, .val (.int p5), .val (.long q1), .second, .val (.ref b103), .val (.long (if q1 = (-1 : Int64) then q2 else q1)), .second, .val (.int (1 : Int32)), .val (.int (1 : Int32)), .unset] [(.ref b103)])) rfl (hb hby at_117) _ ?_
        show Steps p.tables e below (T119.setTop (mkF m 120 #[.val (.long q1), .second, .val (.long q2), .second, .val (.long q3), .second, .val (.long q4), .second, .val (.int p5), .val (.long q1), .second, .val (.ref b103), .val (.long (if q1 = (-1 : Int64) then q2 else q1)), .second, .val (.int (1 : Int32)), .val (.int (1 : Int32)), .unset] [(.long (-1 : Int64)), (.ref b103)])) _
        refine st121.trans ?_
        show Steps p.tables e below (T121.setTop (mkF m 123 #[.val (.long q1), .second, .val (.long q2), .second, .val (.long q3), .second, .val (.long q4), .second, .val (.int p5), .val (.long q1), .second, .val (.ref b103), .val (.long (if q1 = (-1 : Int64) then q2 else q1)), .second, .val (.int (1 : Int32)), .val (.int (1 : Int32)), .unset] [(.ref b121)])) _
        refine XS.lloadN X121.here hx rfl (hb hby at_123) rfl ?_
        show Steps p.tables e below (T121.setTop (mkF m 124 #[.val (.long q1), .second, .val (.long q2), .second, .val (.long q3), .second, .val (.long q4), .second, .val (.int p5), .val (.long q1), .second, .val (.ref b103), .val (.long (if q1 = (-1 : Int64) then q2 else q1)), .second, .val (.int (1 : Int32)), .val (.int (1 : Int32)), .unset] [(.long q2), (.ref b121)])) _
        refine st122.trans ?_
        show Steps p.tables e below (T122.setTop (mkF m 127 #[.val (.long q1), .second, .val (.long q2), .second, .val (.long q3), .second, .val (.long q4), .second, .val (.int p5), .val (.long q1), .second, .val (.ref b103), .val (.long (if q1 = (-1 : Int64) then q2 else q1)), .second, .val (.int (1 : Int32)), .val (.int (1 : Int32)), .unset] [(.long (if (-1 : Int64) = (-1 : Int64) then q2 else (-1 : Int64)))])) _
        refine XS.lloadN X122.here hx rfl (hb hby at_127) rfl ?_
        refine XS.lcmp X122.here hx rfl (hb hby at_128) rfl ?_
        refine XS.ifNo X122.here hx rfl (hb hby at_129) rfl ((if0 _ _).trans (teq ((lw_eq _ _).mpr hc123)).2) ?_
        refine XS.iconst X122.here hx rfl (hb hby at_132) ?_
        show Steps p.tables e below (T122.setTop (mkF m 133 #[.val (.long q1), .second, .val (.long q2), .second, .val (.long q3), .second, .val (.long q4), .second, .val (.int p5), .val (.long q1), .second, .val (.ref b103), .val (.long (if q1 = (-1 : Int64) then q2 else q1)), .second, .val (.int (1 : Int32)), .val (.int (1 : Int32)), .unset] [(.int (1 : Int32))])) _
        refine XS.goto X122.here hx rfl (pc0 := 133) (pc' := 137) rfl (hb hby at_133) (by decide) (by decide) ?_
        refine XS.istore X122.here hx rfl (hb hby at_137) rfl (l' := #[.val (.long q1), .second, .val (.long q2), .second, .val (.long q3), .second, .val (.long q4), .second, .val (.int p5), .val (.long q1), .second, .val (.ref b103), .val (.long (if q1 = (-1 : Int64) then q2 else q1)), .second, .val (.int (1 : Int32)), .val (.int (1 : Int32)), .val (.int (1 : Int32))]) rfl ?_
        refine XS.iload X122.here hx rfl (hb hby at_139) rfl ?_
        refine XS.ifNo X122.here hx rfl (hb hby at_141) rfl ((if0 _ _).trans (feq (by decide : ¬ ((1 : Int32) = (0 : Int32)))).1) ?_
        show Steps p.tables e below (T122.setTop (mkF m 144 #[.val (.long q1), .second, .val (.long q2), .second, .val (.long q3), .second, .val (.long q4), .second, .val (.int p5), .val (.long q1), .second, .val (.ref b103), .val (.long (if q1 = (-1 : Int64) then q2 else q1)), .second, .val (.int (1 : Int32)), .val (.int (1 : Int32)), .val (.int (1 : Int32))] [])) _
        refine XS.iload X122.here hx rfl (hb hby at_144) rfl ?_
        refine XS.ifNo X122.here hx rfl (hb hby at_146) rfl ((if0 _ _).trans (feq (by decide : ¬ ((1 : Int32) = (0 : Int32)))).1) ?_
        refine XS.iload X122.here hx rfl (hb hby at_149) rfl ?_
        refine XS.ifNo X122.here hx rfl (hb hby at_151) rfl ((if0 _ _).trans (feq (by decide : ¬ ((1 : Int32) = (0 : Int32)))).1) ?_
        show Steps p.tables e below (T122.setTop (mkF m 154 #[.val (.long q1), .second, .val (.long q2), .second, .val (.long q3), .second, .val (.long q4), .second, .val (.int p5), .val (.long q1), .second, .val (.ref b103), .val (.long (if q1 = (-1 : Int64) then q2 else q1)), .second, .val (.int (1 : Int32)), .val (.int (1 : Int32)), .val (.int (1 : Int32))] [])) _
        refine XS.iconst X122.here hx rfl (hb hby at_154) ?_
        refine XS.goto X122.here hx rfl (pc0 := 155) (pc' := 159) rfl (hb hby at_155) (by decide) (by decide) ?_
        show Steps p.tables e below (T122.setTop (mkF m 159 #[.val (.long q1), .second, .val (.long q2), .second, .val (.long q3), .second, .val (.long q4), .second, .val (.int p5), .val (.long q1), .second, .val (.ref b103), .val (.long (if q1 = (-1 : Int64) then q2 else q1)), .second, .val (.int (1 : Int32)), .val (.int (1 : Int32)), .val (.int (1 : Int32))] [(.int (1 : Int32))])) _
        exact retOut X122 hx (t := .boolean) (i := .ireturn) Bd.returns rfl (Or.inl ⟨rfl, Or.inr (Or.inl rfl), _, rfl⟩) (hb hby at_159) hr
      · show Q_law Z q1 q2 q3 q4 p5 aN h0 n0 _ T122.heap _
        rw [e122]
        exact ⟨rfl, N122⟩
  · obtain ⟨T124, h124, X124, e124, E124, A124, D124, -, st124⟩ := newO X0 hx hZ hown (hw _ (List.mem_of_getElem? (i := 1) rfl)) (hw _ (List.mem_of_getElem? (i := 2) rfl)) (hw _ (List.mem_of_getElem? (i := 3) rfl)) e0 (g := (mkF m 16 #[.val (.long q1), .second, .val (.long q2), .second, .val (.long q3), .second, .val (.long q4), .second, .val (.int p5), .val (.long (-1 : Int64)), .second, .unset, .unset, .unset, .unset, .unset, .unset] [])) rfl (hb hby at_16) (by decide) (by decide)
    obtain ⟨b124, g124⟩ : ∃ z, z = h0.size := ⟨_, rfl⟩
    rw [← g124] at A124 D124 st124
    have g_b124 : n0 ≤ b124 := Nat.le_trans (own_szO O0) (Nat.le_of_eq g124.symm)
    have O124 := O0.ext E124
    have F124_delayMillis : Fld Z h124 b124 "com/example/dido/dido/QueueSettings" "delayMillis" "J" (.long (0 : Int64)) := D124 (Or.inr (hw _ (List.mem_of_getElem? (i := 11) rfl))) (ty := .long) (by decide)
    have F124_blockedUntilEpochMillis : Fld Z h124 b124 "com/example/dido/dido/QueueSettings" "blockedUntilEpochMillis" "J" (.long (0 : Int64)) := D124 (Or.inr (hw _ (List.mem_of_getElem? (i := 13) rfl))) (ty := .long) (by decide)
    have F124_limit : Fld Z h124 b124 "com/example/dido/dido/QueueSettings" "limit" "J" (.long (0 : Int64)) := D124 (Or.inr (hw _ (List.mem_of_getElem? (i := 15) rfl))) (ty := .long) (by decide)
    obtain ⟨_, _, ⟨T125, L125, k125, n125⟩, -, X125, ⟨Lc125, hQ125, l125, y125, z125⟩, st125⟩ := X124.specialBack hx (y := (⟨"com/example/dido/dido/QueueSettings", "<init>", "(JJJ)V"⟩ : MethodName)) rfl hown (mvT hZ (hw _ (List.mem_of_getElem? (i := 4) rfl))) (mvT hZ (hw _ (List.mem_of_getElem? (i := 5) rfl))) (mvT hZ (hw _ (List.mem_of_getElem? (i := 6) rfl))) (by decide) (backOf (W := 1) (rm_init l Z a0 hw [] b124 (-1 : Int64) q3 q4 ((.long (0 : Int64))) ((.long (0 : Int64))) ((.long (0 : Int64))) h124 n0 O124 A124 F124_delayMillis F124_blockedUntilEpochMillis F124_limit g_b124) hZ (hw _ (List.mem_of_getElem? (i := 6) rfl)) (hw _ (List.mem_of_getElem? (i := 3) rfl)) (by decide) (by decide)) (g := (mkF m 26 #[.val (.long q1), .second, .val (.long q2), .second, .val (.long q3), .second, .val (.long q4), .second, .val (.int p5), .val (.long (-1 : Int64)), .second, .unset, .unset, .unset, .unset, .unset, .unset] [(.long q4), (.long q3), (.long (-1 : Int64)), (.ref b124), (.ref b124)])) rfl (by rw [hml]; rfl) (Steps.refl _) (a := b124) (argsL := [(.long (-1 : Int64)), (.long q3), (.long q4)]) (rest := [(.ref b124)]) (lenOf pd_0 rfl) rfl (by show 2 * 0 + _ ≤ _; exact Nat.le_of_eq rfl) (hb hby at_26) (fun _ _ => ⟨rfl, e124, (by decide : 1 + 0 ≤ _), (by decide : 3 + 0 ≤ _)⟩)
    dsimp only [Pt.U, Pt.locs, Pt.cells, Pt.slots] at X125 l125 y125 z125 st125 hQ125
    subst l125 y125 z125
    obtain ⟨rfl, Nq125, Kq125, Ei125, Fa125, Fb125, Fc125⟩ := hQ125
    have N125 := Fr.app N0 Nq125
    have O125 := O124.keep Kq125 (allS g_b124 all0)
    obtain ⟨cq126, kq126, q126a, q126b, q126c⟩ := isOf hZ rfl Ei125
    obtain ⟨_, _, ⟨T126, L126, k126, n126⟩, -, X126, ⟨Lc126, hQ126, l126, y126, z126⟩, st126⟩ := X125.virtualBack hx (y := (⟨"com/example/dido/dido/QueueSettings", "delay", "(J)J"⟩ : MethodName)) (z := (⟨"com/example/dido/dido/QueueSettings", "delay", "(J)J"⟩ : MethodName)) hown (mvT hZ (hw _ (List.mem_of_getElem? (i := 16) rfl))) (mvT hZ (hw _ (List.mem_of_getElem? (i := 17) rfl))) (notFace_of_selects (args := #[]) (mvT hZ (hw _ (List.mem_of_getElem? (i := 19) rfl)))) (mvT hZ (hw _ (List.mem_of_getElem? (i := 19) rfl))) (mvT hZ (hw _ (List.mem_of_getElem? (i := 18) rfl))) (by decide) (backOf (W := 0) (rm_dl l Z a0 hw [] b124 q2 (-1 : Int64) T125.heap n0 O125 Fa125) hZ (hw _ (List.mem_of_getElem? (i := 20) rfl)) (hw _ (List.mem_of_getElem? (i := 3) rfl)) (by decide) (by decide)) q126a q126c (g := (mkF m 34 #[.val (.long q1), .second, .val (.long q2), .second, .val (.long q3), .second, .val (.long q4), .second, .val (.int p5), .val (.long (-1 : Int64)), .second, .val (.ref b124), .unset, .unset, .unset, .unset, .unset] [(.long q2), (.ref b124)])) rfl (by rw [hml]; rfl) (Steps.refl _) (argsL := [(.long q2)]) (rest := []) (lenOf pd_1 rfl) rfl (by show 2 * 0 + _ ≤ _; exact Nat.le_of_eq rfl) (hb hby at_34) (fun _ _ => ⟨rfl, rfl, (by decide : 1 + 0 ≤ _), (by decide : 3 + 0 ≤ _)⟩)
    dsimp only [Pt.U, Pt.locs, Pt.cells, Pt.slots] at X126 l126 y126 z126 st126 hQ126
    subst l126 y126 z126
    obtain ⟨rfl, Nq126, e126⟩ := hQ126
    have N126 := Fr.app N125 Nq126
    have hc127 : (if (-1 : Int64) = (-1 : Int64) then q2 else (-1 : Int64)) = q2 := (by simp [eq_false hc102])
    obtain ⟨T128, X128, e128, st128⟩ := getS2 X126 hx hZ hown (host := "") (Or.inl (hw _ (List.mem_of_getElem? (i := 22) rfl))) Via.refl e126 (SN.ext O125.2) (g := (mkF m 96 #[.val (.long q1), .second, .val (.long q2), .second, .val (.long q3), .second, .val (.long q4), .second, .val (.int p5), .val (.long (-1 : Int64)), .second, .val (.ref b124), .val (.long (if (-1 : Int64) = (-1 : Int64) then q2 else (-1 : Int64))), .second, .val (.int (1 : Int32)), .unset, .unset] [])) rfl (hb hby at_96)
    obtain ⟨cq129, kq129, q129a, q129b, q129c⟩ := isOf hZ e128 (EN.ext O125.2)
    obtain ⟨_, _, ⟨T129, L129, k129, n129⟩, -, X129, ⟨Lc129, hQ129, l129, y129, z129⟩, st129⟩ := X128.virtualBack hx (y := (⟨"com/example/dido/dido/QueueSettings", "delay", "(J)J"⟩ : MethodName)) (z := (⟨"com/example/dido/dido/QueueSettings", "delay", "(J)J"⟩ : MethodName)) hown (mvT hZ (hw _ (List.mem_of_getElem? (i := 16) rfl))) (mvT hZ (hw _ (List.mem_of_getElem? (i := 17) rfl))) (notFace_of_selects (args := #[]) (mvT hZ (hw _ (List.mem_of_getElem? (i := 19) rfl)))) (mvT hZ (hw _ (List.mem_of_getElem? (i := 19) rfl))) (mvT hZ (hw _ (List.mem_of_getElem? (i := 18) rfl))) (by decide) (backOf (W := 0) (rm_dl l Z a0 hw [] aN q2 (-1 : Int64) T125.heap n0 O125 (FNn.ext O125.2)) hZ (hw _ (List.mem_of_getElem? (i := 20) rfl)) (hw _ (List.mem_of_getElem? (i := 3) rfl)) (by decide) (by decide)) q129a q129c (g := (mkF m 100 #[.val (.long q1), .second, .val (.long q2), .second, .val (.long q3), .second, .val (.long q4), .second, .val (.int p5), .val (.long (-1 : Int64)), .second, .val (.ref b124), .val (.long (if (-1 : Int64) = (-1 : Int64) then q2 else (-1 : Int64))), .second, .val (.int (1 : Int32)), .unset, .unset] [(.long q2), (.ref aN)])) rfl (by rw [hml]; rfl) (Steps.refl _) (argsL := [(.long q2)]) (rest := []) (lenOf pd_1 rfl) rfl (by show 2 * 0 + _ ≤ _; exact Nat.le_of_eq rfl) (hb hby at_100) (fun _ _ => ⟨rfl, e128, (by decide : 1 + 0 ≤ _), (by decide : 3 + 0 ≤ _)⟩)
    dsimp only [Pt.U, Pt.locs, Pt.cells, Pt.slots] at X129 l129 y129 z129 st129 hQ129
    subst l129 y129 z129
    obtain ⟨rfl, Nq129, e129⟩ := hQ129
    have N129 := Fr.app N126 Nq129
    have hc130 : (if (-1 : Int64) = (-1 : Int64) then q2 else (-1 : Int64)) = q2 := (by simp [eq_false hc102, eq_true hc127])
    obtain ⟨cq131, kq131, q131a, q131b, q131c⟩ := isOf hZ e129 Ei125
    obtain ⟨_, _, ⟨T131, L131, k131, n131⟩, -, X131, ⟨Lc131, hQ131, l131, y131, z131⟩, st131⟩ := X129.virtualBack hx (y := (⟨"com/example/dido/dido/QueueSettings", "withDelay", "(J)Lcom/example/dido/dido/QueueSettings;"⟩ : MethodName)) (z := (⟨"com/example/dido/dido/QueueSettings", "withDelay", "(J)Lcom/example/dido/dido/QueueSettings;"⟩ : MethodName)) hown (mvT hZ (hw _ (List.mem_of_getElem? (i := 24) rfl))) (mvT hZ (hw _ (List.mem_of_getElem? (i := 25) rfl))) (notFace_of_selects (args := #[]) (mvT hZ (hw _ (List.mem_of_getElem? (i := 27) rfl)))) (mvT hZ (hw _ (List.mem_of_getElem? (i := 27) rfl))) (mvT hZ (hw _ (List.mem_of_getElem? (i := 26) rfl))) (by decide) (backOf (W := 0) (rm_wd l Z a0 hw [] b124 (-1 : Int64) q3 q4 T125.heap n0 O125 Fb125 Fc125 g_b124) hZ (hw _ (List.mem_of_getElem? (i := 28) rfl)) (hw _ (List.mem_of_getElem? (i := 3) rfl)) (by decide) (by decide)) q131a q131c (g := (mkF m 120 #[.val (.long q1), .second, .val (.long q2), .second, .val (.long q3), .second, .val (.long q4), .second, .val (.int p5), .val (.long (-1 : Int64)), .second, .val (.ref b124), .val (.long (if (-1 : Int64) = (-1 : Int64) then q2 else (-1 : Int64))), .second, .val (.int (1 : Int32)), .val (.int (1 : Int32)), .unset] [(.long (-1 : Int64)), (.ref b124)])) rfl (by rw [hml]; rfl) (Steps.refl _) (argsL := [(.long (-1 : Int64))]) (rest := []) (lenOf pd_2 rfl) rfl (by show 2 * 0 + _ ≤ _; exact Nat.le_of_eq rfl) (hb hby at_120) (fun _ _ => ⟨rfl, e129, (by decide : 1 + 1 ≤ _), (by decide : 3 + 3 ≤ _)⟩)
    dsimp only [Pt.U, Pt.locs, Pt.cells, Pt.slots] at X131 l131 y131 z131 st131 hQ131
    subst l131 y131 z131
    obtain ⟨b131, rfl, gb131, Nq131, Kq131, Eb131, Fb131⟩ := hQ131
    have N131 := Fr.app N129 Nq131
    have g_b131 : n0 ≤ b131 := Nat.le_trans (own_szO O125) gb131
    have ne_b124_b131 : b124 ≠ b131 := Nat.ne_of_lt (Nat.lt_of_lt_of_le Ei125.lt gb131)
    have O131 := O125.keep Kq131 all0
    obtain ⟨cq132, kq132, q132a, q132b, q132c⟩ := isOf hZ rfl Eb131
    obtain ⟨_, _, ⟨T132, L132, k132, n132⟩, -, X132, ⟨Lc132, hQ132, l132, y132, z132⟩, st132⟩ := X131.virtualBack hx (y := (⟨"com/example/dido/dido/QueueSettings", "delay", "(J)J"⟩ : MethodName)) (z := (⟨"com/example/dido/dido/QueueSettings", "delay", "(J)J"⟩ : MethodName)) hown (mvT hZ (hw _ (List.mem_of_getElem? (i := 16) rfl))) (mvT hZ (hw _ (List.mem_of_getElem? (i := 17) rfl))) (notFace_of_selects (args := #[]) (mvT hZ (hw _ (List.mem_of_getElem? (i := 19) rfl)))) (mvT hZ (hw _ (List.mem_of_getElem? (i := 19) rfl))) (mvT hZ (hw _ (List.mem_of_getElem? (i := 18) rfl))) (by decide) (backOf (W := 0) (rm_dl l Z a0 hw [] b131 q2 (-1 : Int64) T131.heap n0 O131 Fb131) hZ (hw _ (List.mem_of_getElem? (i := 20) rfl)) (hw _ (List.mem_of_getElem? (i := 3) rfl)) (by decide) (by decide)) q132a q132c (g := (mkF m 124 #[.val (.long q1), .second, .val (.long q2), .second, .val (.long q3), .second, .val (.long q4), .second, .val (.int p5), .val (.long (-1 : Int64)), .second, .val (.ref b124), .val (.long (if (-1 : Int64) = (-1 : Int64) then q2 else (-1 : Int64))), .second, .val (.int (1 : Int32)), .val (.int (1 : Int32)), .unset] [(.long q2), (.ref b131)])) rfl (by rw [hml]; rfl) (Steps.refl _) (argsL := [(.long q2)]) (rest := []) (lenOf pd_1 rfl) rfl (by show 2 * 0 + _ ≤ _; exact Nat.le_of_eq rfl) (hb hby at_124) (fun _ _ => ⟨rfl, rfl, (by decide : 2 + 0 ≤ _), (by decide : 6 + 0 ≤ _)⟩)
    dsimp only [Pt.U, Pt.locs, Pt.cells, Pt.slots] at X132 l132 y132 z132 st132 hQ132
    subst l132 y132 z132
    obtain ⟨rfl, Nq132, e132⟩ := hQ132
    have N132 := Fr.app N131 Nq132
    have hc133 : (if (-1 : Int64) = (-1 : Int64) then q2 else (-1 : Int64)) = q2 := (by simp [eq_false hc102, eq_true hc127, eq_true hc130])
    obtain ⟨fs, hr, hrun, hended, hW, hsame⟩ := X132.leave (v := some (.int (1 : Int32))) (fun h => by rw [Bd.returns] at h; cases h)
    refine ⟨_, _, pre101 _ ?_, hrun, hended, _, _, rfl, ?_, ⟨_, rfl⟩, hW, hsame.mono (by decide) (by decide)⟩
    · refine XS.ifNo X0.here hx rfl (hb hby at_4) rfl ((if0 _ _).trans (feq hc102).1) ?_
      show Steps p.tables e below (s₁.setTop (mkF m 7 #[.val (.long q1), .second, .val (.long q2), .second, .val (.long q3), .second, .val (.long q4), .second, .val (.int p5), .unset, .unset, .unset, .unset, .unset, .unset, .unset, .unset] [])) _
      refine X0.ldc2Long hx hown (mvT hZ (hw _ (List.mem_of_getElem? (i := 0) rfl))) (g := (mkF m 7 #[.val (.long q1), .second, .val (.long q2), .second, .val (.long q3), .second, .val (.long q4), .second, .val (.int p5), .unset, .unset, .unset, .unset, .unset, .unset, .unset, .unset] [])) rfl (hb hby at_7) _ ?_
      show Steps p.tables e below (s₁.setTop (mkF m 10 #[.val (.long q1), .second, .val (.long q2), .second, .val (.long q3), .second, .val (.long q4), .second, .val (.int p5), .unset, .unset, .unset, .unset, .unset, .unset, .unset, .unset] [(.long (-1 : Int64))])) _
      refine XS.goto X0.here hx rfl (pc0 := 10) (pc' := 14) rfl (hb hby at_10) (by decide) (by decide) ?_
      refine XS.lstore X0.here hx rfl (hb hby at_14) rfl (l' := #[.val (.long q1), .second, .val (.long q2), .second, .val (.long q3), .second, .val (.long q4), .second, .val (.int p5), .val (.long (-1 : Int64)), .second, .unset, .unset, .unset, .unset, .unset, .unset]) rfl ?_
      show Steps p.tables e below (s₁.setTop (mkF m 16 #[.val (.long q1), .second, .val (.long q2), .second, .val (.long q3), .second, .val (.long q4), .second, .val (.int p5), .val (.long (-1 : Int64)), .second, .unset, .unset, .unset, .unset, .unset, .unset] [])) _
      refine st124 _ ?_
      show Steps p.tables e below (T124.setTop (mkF m 19 #[.val (.long q1), .second, .val (.long q2), .second, .val (.long q3), .second, .val (.long q4), .second, .val (.int p5), .val (.long (-1 : Int64)), .second, .unset, .unset, .unset, .unset, .unset, .unset] [(.ref b124)])) _
      refine XS.dup X124.here hx rfl (hb hby at_19) rfl rfl ?_
      refine XS.lload X124.here hx rfl (hb hby at_20) rfl ?_
      refine XS.lload X124.here hx rfl (hb hby at_22) rfl ?_
      refine XS.lload X124.here hx rfl (hb hby at_24) rfl ?_
      show Steps p.tables e below (T124.setTop (mkF m 26 #[.val (.long q1), .second, .val (.long q2), .second, .val (.long q3), .second, .val (.long q4), .second, .val (.int p5), .val (.long (-1 : Int64)), .second, .unset, .unset, .unset, .unset, .unset, .unset] [(.long q4), (.long q3), (.long (-1 : Int64)), (.ref b124), (.ref b124)])) _
      refine st125.trans ?_
      show Steps p.tables e below (T125.setTop (mkF m 29 #[.val (.long q1), .second, .val (.long q2), .second, .val (.long q3), .second, .val (.long q4), .second, .val (.int p5), .val (.long (-1 : Int64)), .second, .unset, .unset, .unset, .unset, .unset, .unset] [(.ref b124)])) _
      refine XS.astore X125.here hx rfl (hb hby at_29) rfl rfl (l' := #[.val (.long q1), .second, .val (.long q2), .second, .val (.long q3), .second, .val (.long q4), .second, .val (.int p5), .val (.long (-1 : Int64)), .second, .val (.ref b124), .unset, .unset, .unset, .unset, .unset]) rfl ?_
      refine XS.aload X125.here hx rfl (hb hby at_31) rfl rfl ?_
      refine XS.lloadN X125.here hx rfl (hb hby at_33) rfl ?_
      show Steps p.tables e below (T125.setTop (mkF m 34 #[.val (.long q1), .second, .val (.long q2), .second, .val (.long q3), .second, .val (.long q4), .second, .val (.int p5), .val (.long (-1 : Int64)), .second, .val (.ref b124), .unset, .unset, .unset, .unset, .unset] [(.long q2), (.ref b124)])) _
      refine st126.trans ?_
      show Steps p.tables e below (T126.setTop (mkF m 37 #[.val (.long q1), .second, .val (.long q2), .second, .val (.long q3), .second, .val (.long q4), .second, .val (.int p5), .val (.long (-1 : Int64)), .second, .val (.ref b124), .unset, .unset, .unset, .unset, .unset] [(.long (if (-1 : Int64) = (-1 : Int64) then q2 else (-1 : Int64)))])) _
      refine XS.lstore X126.here hx rfl (hb hby at_37) rfl (l' := #[.val (.long q1), .second, .val (.long q2), .second, .val (.long q3), .second, .val (.long q4), .second, .val (.int p5), .val (.long (-1 : Int64)), .second, .val (.ref b124), .val (.long (if (-1 : Int64) = (-1 : Int64) then q2 else (-1 : Int64))), .second, .unset, .unset, .unset]) rfl ?_
      refine XS.lload X126.here hx rfl (hb hby at_39) rfl ?_
      show Steps p.tables e below (T126.setTop (mkF m 41 #[.val (.long q1), .second, .val (.long q2), .second, .val (.long q3), .second, .val (.long q4), .second, .val (.int p5), .val (.long (-1 : Int64)), .second, .val (.ref b124), .val (.long (if (-1 : Int64) = (-1 : Int64) then q2 else (-1 : Int64))), .second, .unset, .unset, .unset] [(.long (-1 : Int64))])) _
      refine X126.ldc2Long hx hown (mvT hZ (hw _ (List.mem_of_getElem? (i := 0) rfl))) (g := (mkF m 41 #[.val (.long q1), .second, .val (.long q2), .second, .val (.long q3), .second, .val (.long q4), .second, .val (.int p5), .val (.long (-1 : Int64)), .second, .val (.ref b124), .val (.long (if (-1 : Int64) = (-1 : Int64) then q2 else (-1 : Int64))), .second, .unset, .unset, .unset] [(.long (-1 : Int64))])) rfl (hb hby at_41) _ ?_
      show Steps p.tables e below (T126.setTop (mkF m 44 #[.val (.long q1), .second, .val (.long q2), .second, .val (.long q3), .second, .val (.long q4), .second, .val (.int p5), .val (.long (-1 : Int64)), .second, .val (.ref b124), .val (.long (if (-1 : Int64) = (-1 : Int64) then q2 else (-1 : Int64))), .second, .unset, .unset, .unset] [(.long (-1 : Int64)), (.long (-1 : Int64))])) _
      refine XS.lcmp X126.here hx rfl (hb hby at_44) rfl ?_
      refine XS.ifNo X126.here hx rfl (hb hby at_45) rfl ((if0 _ _).trans (teq ((lw_eq _ _).mpr (rfl : (-1 : Int64) = (-1 : Int64)))).2) ?_
      refine XS.lload X126.here hx rfl (hb hby at_48) rfl ?_
      refine XS.lloadN X126.here hx rfl (hb hby at_50) rfl ?_
      show Steps p.tables e below (T126.setTop (mkF m 51 #[.val (.long q1), .second, .val (.long q2), .second, .val (.long q3), .second, .val (.long q4), .second, .val (.int p5), .val (.long (-1 : Int64)), .second, .val (.ref b124), .val (.long (if (-1 : Int64) = (-1 : Int64) then q2 else (-1 : Int64))), .second, .unset, .unset, .unset] [(.long q2), (.long (if (-1 : Int64) = (-1 : Int64) then q2 else (-1 : Int64)))])) _
      refine XS.lcmp X126.here hx rfl (hb hby at_51) rfl ?_
      refine XS.ifNo X126.here hx rfl (hb hby at_52) rfl ((if0 _ _).trans (teq ((lw_eq _ _).mpr hc127)).2) ?_
      refine XS.iconst X126.here hx rfl (hb hby at_55) ?_
      refine XS.goto X126.here hx rfl (pc0 := 56) (pc' := 60) rfl (hb hby at_56) (by decide) (by decide) ?_
      show Steps p.tables e below (T126.setTop (mkF m 60 #[.val (.long q1), .second, .val (.long q2), .second, .val (.long q3), .second, .val (.long q4), .second, .val (.int p5), .val (.long (-1 : Int64)), .second, .val (.ref b124), .val (.long (if (-1 : Int64) = (-1 : Int64) then q2 else (-1 : Int64))), .second, .unset, .unset, .unset] [(.int (1 : Int32))])) _
      refine XS.istore X126.here hx rfl (hb hby at_60) rfl (l' := #[.val (.long q1), .second, .val (.long q2), .second, .val (.long q3), .second, .val (.long q4), .second, .val (.int p5), .val (.long (-1 : Int64)), .second, .val (.ref b124), .val (.long (if (-1 : Int64) = (-1 : Int64) then q2 else (-1 : Int64))), .second, .val (.int (1 : Int32)), .unset, .unset]) rfl ?_
      refine XS.goto X126.here hx rfl (pc0 := 62) (pc' := 96) rfl (hb hby at_62) (by decide) (by decide) ?_
      show Steps p.tables e below (T126.setTop (mkF m 96 #[.val (.long q1), .second, .val (.long q2), .second, .val (.long q3), .second, .val (.long q4), .second, .val (.int p5), .val (.long (-1 : Int64)), .second, .val (.ref b124), .val (.long (if (-1 : Int64) = (-1 : Int64) then q2 else (-1 : Int64))), .second, .val (.int (1 : Int32)), .unset, .unset] [])) _
      refine st128 _ ?_
      show Steps p.tables e below (T128.setTop (mkF m 99 #[.val (.long q1), .second, .val (.long q2), .second, .val (.long q3), .second, .val (.long q4), .second, .val (.int p5), .val (.long (-1 : Int64)), .second, .val (.ref b124), .val (.long (if (-1 : Int64) = (-1 : Int64) then q2 else (-1 : Int64))), .second, .val (.int (1 : Int32)), .unset, .unset] [(.ref aN)])) _
      refine XS.lloadN X128.here hx rfl (hb hby at_99) rfl ?_
      show Steps p.tables e below (T128.setTop (mkF m 100 #[.val (.long q1), .second, .val (.long q2), .second, .val (.long q3), .second, .val (.long q4), .second, .val (.int p5), .val (.long (-1 : Int64)), .second, .val (.ref b124), .val (.long (if (-1 : Int64) = (-1 : Int64) then q2 else (-1 : Int64))), .second, .val (.int (1 : Int32)), .unset, .unset] [(.long q2), (.ref aN)])) _
      refine st129.trans ?_
      show Steps p.tables e below (T129.setTop (mkF m 103 #[.val (.long q1), .second, .val (.long q2), .second, .val (.long q3), .second, .val (.long q4), .second, .val (.int p5), .val (.long (-1 : Int64)), .second, .val (.ref b124), .val (.long (if (-1 : Int64) = (-1 : Int64) then q2 else (-1 : Int64))), .second, .val (.int (1 : Int32)), .unset, .unset] [(.long (if (-1 : Int64) = (-1 : Int64) then q2 else (-1 : Int64)))])) _
      refine XS.lloadN X129.here hx rfl (hb hby at_103) rfl ?_
      refine XS.lcmp X129.here hx rfl (hb hby at_104) rfl ?_
      refine XS.ifNo X129.here hx rfl (hb hby at_105) rfl ((if0 _ _).trans (teq ((lw_eq _ _).mpr hc130)).2) ?_
      refine XS.iconst X129.here hx rfl (hb hby at_108) ?_
      show Steps p.tables e below (T129.setTop (mkF m 109 #[.val (.long q1), .second, .val (.long q2), .second, .val (.long q3), .second, .val (.long q4), .second, .val (.int p5), .val (.long (-1 : Int64)), .second, .val (.ref b124), .val (.long (if (-1 : Int64) = (-1 : Int64) then q2 else (-1 : Int64))), .second, .val (.int (1 : Int32)), .unset, .unset] [(.int (1 : Int32))])) _
      refine XS.goto X129.here hx rfl (pc0 := 109) (pc' := 113) rfl (hb hby at_109) (by decide) (by decide) ?_
      refine XS.istore X129.here hx rfl (hb hby at_113) rfl (l' := #[.val (.long q1), .second, .val (.long q2), .second, .val (.long q3), .second, .val (.long q4), .second, .val (.int p5), .val (.long (-1 : Int64)), .second, .val (.ref b124), .val (.long (if (-1 : Int64) = (-1 : Int64) then q2 else (-1 : Int64))), .second, .val (.int (1 : Int32)), .val (.int (1 : Int32)), .unset]) rfl ?_
      refine XS.aload X129.here hx rfl (hb hby at_115) rfl rfl ?_
      show Steps p.tables e below (T129.setTop (mkF m 117 #[.val (.long q1), .second, .val (.long q2), .second, .val (.long q3), .second, .val (.long q4), .second, .val (.int p5), .val (.long (-1 : Int64)), .second, .val (.ref b124), .val (.long (if (-1 : Int64) = (-1 : Int64) then q2 else (-1 : Int64))), .second, .val (.int (1 : Int32)), .val (.int (1 : Int32)), .unset] [(.ref b124)])) _
      refine X129.ldc2Long hx hown (mvT hZ (hw _ (List.mem_of_getElem? (i := 0) rfl))) (g := (mkF m 117 #[.val (.long q1), .second, .val (.long q2), .second, .val (.long q3), .second, .val (.long q4), .second, .val (.int p5), .val (.long (-1 : Int64)), .second, .val (.ref b124), .val (.long (if (-1 : Int64) = (-1 : Int64) then q2 else (-1 : Int64))), .second, .val (.int (1 : Int32)), .val (.int (1 : Int32)), .unset] [(.ref b124)])) rfl (hb hby at_117) _ ?_
      show Steps p.tables e below (T129.setTop (mkF m 120 #[.val (.long q1), .second, .val (.long q2), .second, .val (.long q3), .second, .val (.long q4), .second, .val (.int p5), .val (.long (-1 : Int64)), .second, .val (.ref b124), .val (.long (if (-1 : Int64) = (-1 : Int64) then q2 else (-1 : Int64))), .second, .val (.int (1 : Int32)), .val (.int (1 : Int32)), .unset] [(.long (-1 : Int64)), (.ref b124)])) _
      refine st131.trans ?_
      show Steps p.tables e below (T131.setTop (mkF m 123 #[.val (.long q1), .second, .val (.long q2), .second, .val (.long q3), .second, .val (.long q4), .second, .val (.int p5), .val (.long (-1 : Int64)), .second, .val (.ref b124), .val (.long (if (-1 : Int64) = (-1 : Int64) then q2 else (-1 : Int64))), .second, .val (.int (1 : Int32)), .val (.int (1 : Int32)), .unset] [(.ref b131)])) _
      refine XS.lloadN X131.here hx rfl (hb hby at_123) rfl ?_
      show Steps p.tables e below (T131.setTop (mkF m 124 #[.val (.long q1), .second, .val (.long q2), .second, .val (.long q3), .second, .val (.long q4), .second, .val (.int p5), .val (.long (-1 : Int64)), .second, .val (.ref b124), .val (.long (if (-1 : Int64) = (-1 : Int64) then q2 else (-1 : Int64))), .second, .val (.int (1 : Int32)), .val (.int (1 : Int32)), .unset] [(.long q2), (.ref b131)])) _
      refine st132.trans ?_
      show Steps p.tables e below (T132.setTop (mkF m 127 #[.val (.long q1), .second, .val (.long q2), .second, .val (.long q3), .second, .val (.long q4), .second, .val (.int p5), .val (.long (-1 : Int64)), .second, .val (.ref b124), .val (.long (if (-1 : Int64) = (-1 : Int64) then q2 else (-1 : Int64))), .second, .val (.int (1 : Int32)), .val (.int (1 : Int32)), .unset] [(.long (if (-1 : Int64) = (-1 : Int64) then q2 else (-1 : Int64)))])) _
      refine XS.lloadN X132.here hx rfl (hb hby at_127) rfl ?_
      refine XS.lcmp X132.here hx rfl (hb hby at_128) rfl ?_
      refine XS.ifNo X132.here hx rfl (hb hby at_129) rfl ((if0 _ _).trans (teq ((lw_eq _ _).mpr hc133)).2) ?_
      refine XS.iconst X132.here hx rfl (hb hby at_132) ?_
      show Steps p.tables e below (T132.setTop (mkF m 133 #[.val (.long q1), .second, .val (.long q2), .second, .val (.long q3), .second, .val (.long q4), .second, .val (.int p5), .val (.long (-1 : Int64)), .second, .val (.ref b124), .val (.long (if (-1 : Int64) = (-1 : Int64) then q2 else (-1 : Int64))), .second, .val (.int (1 : Int32)), .val (.int (1 : Int32)), .unset] [(.int (1 : Int32))])) _
      refine XS.goto X132.here hx rfl (pc0 := 133) (pc' := 137) rfl (hb hby at_133) (by decide) (by decide) ?_
      refine XS.istore X132.here hx rfl (hb hby at_137) rfl (l' := #[.val (.long q1), .second, .val (.long q2), .second, .val (.long q3), .second, .val (.long q4), .second, .val (.int p5), .val (.long (-1 : Int64)), .second, .val (.ref b124), .val (.long (if (-1 : Int64) = (-1 : Int64) then q2 else (-1 : Int64))), .second, .val (.int (1 : Int32)), .val (.int (1 : Int32)), .val (.int (1 : Int32))]) rfl ?_
      refine XS.iload X132.here hx rfl (hb hby at_139) rfl ?_
      refine XS.ifNo X132.here hx rfl (hb hby at_141) rfl ((if0 _ _).trans (feq (by decide : ¬ ((1 : Int32) = (0 : Int32)))).1) ?_
      show Steps p.tables e below (T132.setTop (mkF m 144 #[.val (.long q1), .second, .val (.long q2), .second, .val (.long q3), .second, .val (.long q4), .second, .val (.int p5), .val (.long (-1 : Int64)), .second, .val (.ref b124), .val (.long (if (-1 : Int64) = (-1 : Int64) then q2 else (-1 : Int64))), .second, .val (.int (1 : Int32)), .val (.int (1 : Int32)), .val (.int (1 : Int32))] [])) _
      refine XS.iload X132.here hx rfl (hb hby at_144) rfl ?_
      refine XS.ifNo X132.here hx rfl (hb hby at_146) rfl ((if0 _ _).trans (feq (by decide : ¬ ((1 : Int32) = (0 : Int32)))).1) ?_
      refine XS.iload X132.here hx rfl (hb hby at_149) rfl ?_
      refine XS.ifNo X132.here hx rfl (hb hby at_151) rfl ((if0 _ _).trans (feq (by decide : ¬ ((1 : Int32) = (0 : Int32)))).1) ?_
      show Steps p.tables e below (T132.setTop (mkF m 154 #[.val (.long q1), .second, .val (.long q2), .second, .val (.long q3), .second, .val (.long q4), .second, .val (.int p5), .val (.long (-1 : Int64)), .second, .val (.ref b124), .val (.long (if (-1 : Int64) = (-1 : Int64) then q2 else (-1 : Int64))), .second, .val (.int (1 : Int32)), .val (.int (1 : Int32)), .val (.int (1 : Int32))] [])) _
      refine XS.iconst X132.here hx rfl (hb hby at_154) ?_
      refine XS.goto X132.here hx rfl (pc0 := 155) (pc' := 159) rfl (hb hby at_155) (by decide) (by decide) ?_
      show Steps p.tables e below (T132.setTop (mkF m 159 #[.val (.long q1), .second, .val (.long q2), .second, .val (.long q3), .second, .val (.long q4), .second, .val (.int p5), .val (.long (-1 : Int64)), .second, .val (.ref b124), .val (.long (if (-1 : Int64) = (-1 : Int64) then q2 else (-1 : Int64))), .second, .val (.int (1 : Int32)), .val (.int (1 : Int32)), .val (.int (1 : Int32))] [(.int (1 : Int32))])) _
      exact retOut X132 hx (t := .boolean) (i := .ireturn) Bd.returns rfl (Or.inl ⟨rfl, Or.inr (Or.inl rfl), _, rfl⟩) (hb hby at_159) hr
    · show Q_law Z q1 q2 q3 q4 p5 aN h0 n0 _ T132.heap _
      rw [e132]
      exact ⟨rfl, N132⟩
theorem own_eqI {args : Array Value} {s : State} {t : Term} {k : Int32} (h : (Jvm.Cond.eq t (.int k)).value args s none s [] = some true) : t.eval args s none [] s = some (.int k) := by
  simp only [Cond.value, Term.eval] at h
  cases ht : t.eval args s none [] s with
  | none => simp [ht] at h
  | some x => cases x <;> simp [ht] at h ⊢; exact h
theorem own_eqL {args : Array Value} {s : State} {t : Term} {k : Int64} (h : (Jvm.Cond.eq t (.long k)).value args s none s [] = some true) : t.eval args s none [] s = some (.long k) := by
  simp only [Cond.value, Term.eval] at h
  cases ht : t.eval args s none [] s with
  | none => simp [ht] at h
  | some x => cases x <;> simp [ht] at h ⊢; exact h
set_option maxRecDepth 65536 in
set_option maxHeartbeats 40000000 in
theorem comes_1 {Post : Tables → Env → Array Value → State → Outcome → State → Prop} (hpost : ∀ tb e args s v u, (limb_1_1.after args s (.returned v) u = true ∧ limb_1_2.after args s (.returned v) u = true ∧ True) → FrameEnd s (.returned v) u (Jvm.fieldLocs frame_1_writes args s ++ Jvm.arrayLocs frame_1_arrays args s ++ Jvm.staticLocs frame_1_statics s) 16 128 → Post tb e args s (.returned v) u) :
    ArmFor flags0 classFile x code maxLocals ret World_1 tables_1 room_1 Calls_1 rest_1 Pre_1 Post := by
  intro l hfl _ _ p e ha hc hk s m args below hf hA hF happ hP
  obtain ⟨hcalls, hrest, hpre⟩ := hP
  obtain ⟨-, -, -, hnamed, -, -, -, hat⟩ := (Spec.applies_iff hf).mp happ
  obtain ⟨hg, hn⟩ := and_e (Cond.before_iff.mp (show (Jvm.Cond.and given_1 narrow_1).before args s = true from hpre))
  obtain ⟨nn1, nn2⟩ := and_e hg
  obtain ⟨nn3, nn4⟩ := and_e nn2
  obtain ⟨nn5, nn6⟩ := and_e nn4
  obtain ⟨nn7, nn8⟩ := and_e nn6
  obtain ⟨nn9, nn10⟩ := and_e nn8
  obtain ⟨w0, w1, w2, w3, w4, rfl⟩ : ∃ w0 w1 w2 w3 w4 : Value, args = #[w0, w1, w2, w3, w4] := by
    have hs : args.size = 5 := by simpa [Cond.value, given_1] using nn1
    obtain ⟨L⟩ := args
    match L, hs with
    | [w0, w1, w2, w3, w4], _ => exact ⟨w0, w1, w2, w3, w4, rfl⟩
  have hw := fun d (hd : d ∈ tables_1) => atoms_spec (ws := Jvm.Cond.code x code maxLocals ret :: tables_1) hat d (List.mem_cons_of_mem _ hd)
  have hfit : Fit s := fun {y c} hc i hi => by
    obtain ⟨ha, rfl⟩ := Array.getElem?_eq_some_iff.mp hc
    have q := List.all_eq_true.mp ((Array.all_eq_true_iff_forall_mem.mp hF) _ (Array.getElem_mem ha)) i (List.mem_range.mpr hi)
    simpa [Array.getElem?_eq_getElem hi] using q
  obtain ⟨i0, ei0⟩ := isL_v nn3
  obtain rfl : w0 = (.long i0) := Option.some.inj ei0
  obtain ⟨i1, ei1⟩ := isL_v nn5
  obtain rfl : w1 = (.long i1) := Option.some.inj ei1
  obtain ⟨i2, ei2⟩ := isL_v nn7
  obtain rfl : w2 = (.long i2) := Option.some.inj ei2
  obtain ⟨i3, ei3⟩ := isL_v nn9
  obtain rfl : w3 = (.long i3) := Option.some.inj ei3
  obtain ⟨i4, ei4⟩ := is_v nn10
  obtain rfl : w4 = (.int i4) := Option.some.inj ei4
  obtain ⟨nn1, nn2⟩ := and_e hn
  obtain ⟨a_NONE, ev_NONE⟩ := exa_v nn1
  have S_NONE : Sta s s.heap "com/example/dido/dido/QueueSettings" "NONE" "Lcom/example/dido/dido/QueueSettings;" (.ref a_NONE) := Sta.start ev_NONE (Or.inr ⟨(hw _ (List.mem_of_getElem? (i := 3) rfl)), (hw _ (List.mem_of_getElem? (i := 23) rfl))⟩)
  have E_NONE : Exa s s.heap a_NONE "com/example/dido/dido/QueueSettings" := Exa.start ev_NONE nn1
  have F_NONE_delayMillis : Fld s s.heap a_NONE "com/example/dido/dido/QueueSettings" "delayMillis" "J" (.long (-1)) := Fld.start ((fld_at ev_NONE).symm.trans (own_eqL nn2))
  obtain ⟨n, o, h1, h2, h3, _, L, rfl, ⟨rfl, N⟩, hq⟩ := rm_law l s _ hw tables_1 i0 i1 i2 i3 i4 a_NONE s.heap s.heap.size (Old.start s) S_NONE E_NONE F_NONE_delayMillis p e ha hc hk s m _ below hf ((Spec.applies_iff_loose hf).mp happ).1 ⟨rfl, State.Warmed39.refl s, rfl⟩ trivial
  refine ⟨n, _, h1, h2, h3, hpost _ _ _ _ _ _ ⟨Cond.after_iff.mpr rfl, Cond.after_iff.mpr (eq_i res_at (Term.int_eval (1)) rfl), trivial⟩ ⟨hq.1, hq.2.1, (hq.2.2.sift fun y hy => Or.inr (N y hy)).mono (by decide) (by decide)⟩⟩
theorem main_1_1 : Claimed_1_1 := comes_1 fun _ _ _ _ _ _ h hF => ⟨h.1, hF⟩
theorem main_1_2 : Claimed_1_2 := comes_1 fun _ _ _ _ _ _ h hF => ⟨h.2.1, hF⟩

end Jvm.Pilot.@@N@@
namespace Jvm.Pilot.@@N@@
open Jvm Jvm.ClassFile Sem Op Lib Jvm.Free Jvm.Stand Jvm.Pilot.@@N@@.Jvm.D
/-! MADE BY PROGRAM (witnessworld.py) out of the Statement's table words and the real class files: 9 classes; the members and pool entries that the words name. The judged class is class 1, her method 1. -/
namespace start1
open Jvm.ClassFile
def u (s : String) : CpInfo := .utf8 (stringToUtf16 s)
/-- a pool by its gaps: so many unusable entries, then the entry; so many at the end -/
def gap : Nat → List CpInfo → List CpInfo
  | 0, r => r
  | n + 1, r => .unusable :: gap n r
def poolList (es : List (Nat × CpInfo)) (last : Nat) : List CpInfo := es.foldr (fun e r => gap e.1 (e.2 :: r)) (gap last [])
def pool (es : List (Nat × CpInfo)) (last : Nat) : Array CpInfo := ⟨poolList es last⟩
def fileOf (pool : Array CpInfo) (this : Nat) (attrs : Array Attribute := #[]) (ms : Array MethodInfo := #[]) (fl : Nat := 33) (sup : Nat := 0) (ifs : Array Nat := #[]) (fds : Array FieldInfo := #[]) : ClassFile where
  minorVersion := 0
  majorVersion := 65
  constantPool := pool
  accessFlags := fl
  thisClass := this
  superClass := sup
  interfaces := ifs
  fields := fds
  methods := ms
  attributes := attrs
def plain (name : String) (sup : Option ClassId) : Class where
  name := name
  kind := .ordinary
  loader := none
  accessFlags := 33
  super := sup
  interfaces := #[]
  cf := none
  fields := #[]
  methods := #[]
  instanceTypes := #[]
  staticTypes := #[]
  resolved := #[]
  callSites := []
  init := .initialized
  statics := none
  mirror := none

def pool0 : Array CpInfo := pool [(5, u "<init>"), (0, u "()V"), (1, .class_ 10), (1, u "java/lang/Object")] 113

def k0c0 : Code := { maxStack := 0, maxLocals := 1, code := object_method_1_code, exceptionTable := #[], attributes := #[] }
def k0m0 : Method := { name := "<init>", desc := "()V", sig := { parameters := [], returnType := none }, accessFlags := 1, code := some k0c0 }
/-- java/lang/Object -/
def k0 : Class := { plain "java/lang/Object" none with
  accessFlags := 33
  interfaces := #[]
  cf := some (fileOf pool0 8 #[] #[{ accessFlags := 1, nameIndex := 5, descriptorIndex := 6, attributes := #[] }] 33 0 #[] #[])
  fields := #[]
  methods := #[k0m0]
  instanceTypes := #[]
  staticTypes := #[]
  resolved := Array.replicate 124 none
  statics := none }

def pool1 : Array CpInfo := pool [(2, .class_ 4), (1, u "java/lang/Object"), (0, u "<init>"), (0, u "()V"), (0, .class_ 8), (0, u "com/example/dido/dido/QueueSettings"), (0, .long 18446744073709551615), (1, .methodref 7 12), (0, .nameAndType 5 13), (0, u "(JJJ)V"), (0, .methodref 7 15), (0, .nameAndType 16 17), (0, u "delay"), (0, u "(J)J"), (0, .fieldref 7 19), (0, .nameAndType 20 21), (0, u "NONE"), (0, u "Lcom/example/dido/dido/QueueSettings;"), (0, .methodref 7 23), (0, .nameAndType 24 25), (0, u "withDelay"), (0, u "(J)Lcom/example/dido/dido/QueueSettings;"), (0, .class_ 27), (0, u "com/example/dido/dido/QueueSettingsDelayPinLaw"), (2, u "law"), (0, u "(JJJJI)Z")] 3

def k1m0 : Method := { name := "<init>", desc := "()V", sig := { parameters := [], returnType := none }, accessFlags := 1, code := none }
def k1c1 : Code := { maxStack := 8, maxLocals := 17, code := code, exceptionTable := #[], attributes := #[] }
def k1m1 : Method := { name := "law", desc := "(JJJJI)Z", sig := { parameters := [.long, .long, .long, .long, .int], returnType := some .boolean }, accessFlags := 9, code := some k1c1 }
/-- com/example/dido/dido/QueueSettingsDelayPinLaw -/
def k1 : Class := { plain "com/example/dido/dido/QueueSettingsDelayPinLaw" (some 0) with
  accessFlags := 49
  interfaces := #[]
  cf := some (fileOf pool1 26 #[] #[{ accessFlags := 1, nameIndex := 5, descriptorIndex := 6, attributes := #[] }, { accessFlags := 9, nameIndex := 30, descriptorIndex := 31, attributes := #[] }] 49 2 #[] #[])
  fields := #[]
  methods := #[k1m0, k1m1]
  instanceTypes := #[]
  staticTypes := #[]
  resolved := Array.replicate 35 none
  statics := none }

def pool2 : Array CpInfo := pool [(1, .methodref 2 3), (0, .class_ 4), (0, .nameAndType 5 6), (0, u "java/lang/Object"), (0, u "<init>"), (0, u "()V"), (0, .fieldref 8 9), (0, .class_ 10), (0, .nameAndType 11 12), (0, u "com/example/dido/dido/QueueSettings"), (0, u "delayMillis"), (0, u "J"), (0, .fieldref 8 14), (0, .nameAndType 15 12), (0, u "blockedUntilEpochMillis"), (0, .fieldref 8 17), (0, .nameAndType 18 12), (0, u "limit"), (0, .methodref 8 20), (0, .nameAndType 5 21), (0, u "(JJJ)V"), (0, .long 18446744073709551615), (3, u "NONE"), (0, u "Lcom/example/dido/dido/QueueSettings;"), (0, u "NO_OWN_DELAY"), (4, u "withDelay"), (0, u "(J)Lcom/example/dido/dido/QueueSettings;"), (2, u "delay"), (0, u "(J)J")] 6

def k2c0 : Code := { maxStack := 3, maxLocals := 7, code := prog_21_method_1_code, exceptionTable := #[], attributes := #[] }
def k2m0 : Method := { name := "<init>", desc := "(JJJ)V", sig := { parameters := [.long, .long, .long], returnType := none }, accessFlags := 0, code := some k2c0 }
def k2c1 : Code := { maxStack := 8, maxLocals := 3, code := prog_21_method_5_code, exceptionTable := #[], attributes := #[] }
def k2m1 : Method := { name := "withDelay", desc := "(J)Lcom/example/dido/dido/QueueSettings;", sig := { parameters := [.long], returnType := some (.object "com/example/dido/dido/QueueSettings") }, accessFlags := 0, code := some k2c1 }
def k2c2 : Code := { maxStack := 4, maxLocals := 3, code := prog_21_method_8_code, exceptionTable := #[], attributes := #[] }
def k2m2 : Method := { name := "delay", desc := "(J)J", sig := { parameters := [.long], returnType := some .long }, accessFlags := 0, code := some k2c2 }
/-- com/example/dido/dido/QueueSettings -/
def k2 : Class := { plain "com/example/dido/dido/QueueSettings" (some 0) with
  accessFlags := 48
  interfaces := #[]
  cf := some (fileOf pool2 8 #[] #[{ accessFlags := 0, nameIndex := 5, descriptorIndex := 21, attributes := #[] }, { accessFlags := 0, nameIndex := 33, descriptorIndex := 34, attributes := #[] }, { accessFlags := 0, nameIndex := 37, descriptorIndex := 38, attributes := #[] }] 48 2 #[] #[{ accessFlags := 24, nameIndex := 28, descriptorIndex := 12, attributes := #[] }, { accessFlags := 24, nameIndex := 26, descriptorIndex := 27, attributes := #[] }, { accessFlags := 18, nameIndex := 11, descriptorIndex := 12, attributes := #[] }, { accessFlags := 18, nameIndex := 15, descriptorIndex := 12, attributes := #[] }, { accessFlags := 18, nameIndex := 18, descriptorIndex := 12, attributes := #[] }])
  fields := #[{ name := "NO_OWN_DELAY", type := .long, accessFlags := 24, slot := 0, constantValue := 0 }, { name := "NONE", type := (.object "com/example/dido/dido/QueueSettings"), accessFlags := 24, slot := 1, constantValue := 0 }, { name := "delayMillis", type := .long, accessFlags := 18, slot := 0, constantValue := 0 }, { name := "blockedUntilEpochMillis", type := .long, accessFlags := 18, slot := 1, constantValue := 0 }, { name := "limit", type := .long, accessFlags := 18, slot := 2, constantValue := 0 }]
  methods := #[k2m0, k2m1, k2m2]
  instanceTypes := #[.long, .long, .long]
  staticTypes := #[.long, (.object "com/example/dido/dido/QueueSettings")]
  resolved := Array.replicate 45 none
  statics := some 0 }

def pool3 : Array CpInfo := pool [(1, u "java/lang/Cloneable"), (0, .class_ 1), (0, u "java/lang/Object"), (0, .class_ 3)] 3

/-- java/lang/Cloneable -/
def k3 : Class := { plain "java/lang/Cloneable" (some 0) with
  accessFlags := 1537
  interfaces := #[]
  cf := some (fileOf pool3 2 #[] #[] 1537 4 #[] #[])
  fields := #[]
  methods := #[]
  instanceTypes := #[]
  staticTypes := #[]
  resolved := Array.replicate 8 none
  statics := none }

def pool4 : Array CpInfo := pool [(1, u "java/io/Serializable"), (0, .class_ 1), (0, u "java/lang/Object"), (0, .class_ 3)] 3

/-- java/io/Serializable -/
def k4 : Class := { plain "java/io/Serializable" (some 0) with
  accessFlags := 1537
  interfaces := #[]
  cf := some (fileOf pool4 2 #[] #[] 1537 4 #[] #[])
  fields := #[]
  methods := #[]
  instanceTypes := #[]
  staticTypes := #[]
  resolved := Array.replicate 8 none
  statics := none }

/-- the primitive byte -/
def k5 : Class := { plain "byte" none with kind := .primitive 'B', accessFlags := 0x411 }
/-- [B -/
def k6 : Class := { plain "[B" (some 0) with kind := .array 5 .byte, interfaces := #[3, 4], accessFlags := 1041 }

/-- the primitive int -/
def k7 : Class := { plain "int" none with kind := .primitive 'I', accessFlags := 0x411 }
/-- [I -/
def k8 : Class := { plain "[I" (some 0) with kind := .array 7 .int, interfaces := #[3, 4], accessFlags := 1041 }

def heap : Heap := #[{ cls := 2, slots := #[.long 0, .ref 1], vm := .statics 2 },
  { cls := 2, slots := #[.long (-1), .long 0, .long 0], vm := .none }]
def classes : Array Class := #[k0, k1, k2, k3, k4, k5, k6, k7, k8]
def interned : List (Array UInt16 × Addr) := []
def slotsUsed : Nat := 5
def theMethod : MethodId := ⟨1, 1⟩
def args0 : Array Value := #[.long 0, .long 1, .long 2, .long 3, .int 1]
def aboutOver (below : List Frame) : State where
  vm := { classes := classes, interned := interned.toArray }
  heap := heap
  slotsUsed := slotsUsed
  threads := #[{ frames := .invoking theMethod args0 :: below }]
def below0 : List Frame := [.native { method := ⟨0, 0⟩, args := #[] }]
def about1 : State := aboutOver below0
def p0 : Program := .bare "" "" ""
def e0 : Env := launch0.env 0 0 0
theorem w_frames : about1.frames = Frame.invoking theMethod args0 :: below0 := rfl
set_option maxRecDepth 65536 in
theorem w_args : argsFit about1.vm theMethod args0 = true := by decide +kernel
set_option maxRecDepth 65536 in
theorem w_heap : heapFits about1 = true := by decide +kernel
set_option maxRecDepth 65536 in
theorem w_runnable : about1.curStatus? = some .runnable := by decide +kernel
set_option maxRecDepth 65536 in
theorem w_alone : about1.alone = true := by decide +kernel
set_option maxRecDepth 65536 in
theorem w_named : about1.methodNamed? x = some theMethod := by decide +kernel
set_option maxRecDepth 65536 in
theorem w_hears : about1.hears theMethod below0 = true := by decide +kernel
set_option maxRecDepth 65536 in
theorem w_ripe : about1.ripe theMethod args0 below0 = true := by decide +kernel
theorem w_running : about1.status = .running := rfl
set_option maxRecDepth 65536 in
theorem w_room : about1.hasRoom e0.platform room_1 = true :=
  launch0.hasRoom_least _ room_1 (by decide +kernel) (by decide +kernel) (by decide +kernel) (by decide +kernel) (by decide +kernel) (by decide +kernel)
theorem allAtoms_all (ts : List Jvm.Cond) (a : Array Jvm.Value) (st : Jvm.State) : (allAtoms ts).before a st = ts.all (fun c => c.before a st) := by
  induction ts with
  | nil => rfl
  | cons c t ih =>
    show (Jvm.Cond.and c (allAtoms t)).before a st = _
    rw [Jvm.Cond.before_and, ih, List.all_cons]
def words1 : List Jvm.Cond := Jvm.Cond.code x code maxLocals ret :: tables_1
/-- a 'code' word, met by the world's own term for the bytes: nothing is compared byte by byte -/
theorem code_word {y : MethodName} {bytes : ByteArray} {mx : Nat} {rt : Option FieldType} {a : Array Value} {s : State} {m : MethodId} {meth : Method} {c : Code} (h1 : s.methodNamed? y = some m) (h2 : s.vm.method? m = some meth) (h3 : meth.code = some c) (h4 : c.code = bytes)
    (h5 : (c.maxLocals == mx && c.exceptionTable.isEmpty && decide (c.maxStack ≤ mostOperands) && decide (meth.sig.returnType = rt) && !meth.locks && decide (parseMethodDescriptor y.desc = some meth.sig)) = true) : (Jvm.Cond.code y bytes mx rt).before a s = true := by
  simp only [Bool.and_eq_true, beq_iff_eq, Bool.not_eq_true', decide_eq_true_eq] at h5
  obtain ⟨⟨⟨⟨⟨g1, g2⟩, g3⟩, g4⟩, g5⟩, g6⟩ := h5
  simp [Cond.before, Cond.holds, Cond.value, h1, h2, h3, h4, g1, g2, g3, g4, g5, g6]
def isCode : Jvm.Cond → Bool
  | .code _ _ _ _ => true
  | _ => false
theorem all_split {L : List Jvm.Cond} {P : Jvm.Cond → Bool} (h1 : L.all (fun c => isCode c || P c) = true) (h2 : ∀ c ∈ L.filter isCode, P c = true) : L.all P = true := by
  refine List.all_eq_true.mpr fun c hc => ?_
  have h := List.all_eq_true.mp h1 c hc
  rcases Bool.eq_false_or_eq_true (isCode c) with hi | hi
  · exact h2 c (List.mem_filter.mpr ⟨hc, hi⟩)
  · simpa [hi] using h
set_option maxRecDepth 65536 in
theorem w_c0 : (Jvm.Cond.code x code maxLocals ret).before args0 about1 = true := code_word (m := ⟨1, 1⟩) (meth := k1m1) (c := k1c1) (by decide +kernel) rfl rfl rfl (by decide +kernel)
set_option maxRecDepth 65536 in
theorem w_c1 : (Jvm.Cond.code ({ cls := "com/example/dido/dido/QueueSettings", name := "<init>", desc := "(JJJ)V" } : Jvm.MethodName) prog_21_method_1_code (7 : Nat) (Option.none : Option Jvm.ClassFile.FieldType)).before args0 about1 = true := code_word (m := ⟨2, 0⟩) (meth := k2m0) (c := k2c0) (by decide +kernel) rfl rfl rfl (by decide +kernel)
set_option maxRecDepth 65536 in
theorem w_c2 : (Jvm.Cond.code ({ cls := "java/lang/Object", name := "<init>", desc := "()V" } : Jvm.MethodName) object_method_1_code (1 : Nat) (Option.none : Option Jvm.ClassFile.FieldType)).before args0 about1 = true := code_word (m := ⟨0, 0⟩) (meth := k0m0) (c := k0c0) (by decide +kernel) rfl rfl rfl (by decide +kernel)
set_option maxRecDepth 65536 in
theorem w_c3 : (Jvm.Cond.code ({ cls := "com/example/dido/dido/QueueSettings", name := "delay", desc := "(J)J" } : Jvm.MethodName) prog_21_method_8_code (3 : Nat) (Option.some Jvm.ClassFile.FieldType.long)).before args0 about1 = true := code_word (m := ⟨2, 2⟩) (meth := k2m2) (c := k2c2) (by decide +kernel) rfl rfl rfl (by decide +kernel)
set_option maxRecDepth 65536 in
theorem w_c4 : (Jvm.Cond.code ({ cls := "com/example/dido/dido/QueueSettings", name := "withDelay", desc := "(J)Lcom/example/dido/dido/QueueSettings;" } : Jvm.MethodName) prog_21_method_5_code (3 : Nat) (Option.some (Jvm.ClassFile.FieldType.object "com/example/dido/dido/QueueSettings"))).before args0 about1 = true := code_word (m := ⟨2, 1⟩) (meth := k2m1) (c := k2c1) (by decide +kernel) rfl rfl rfl (by decide +kernel)
def codes1 : List Jvm.Cond := [Jvm.Cond.code x code maxLocals ret, Jvm.Cond.code ({ cls := "com/example/dido/dido/QueueSettings", name := "<init>", desc := "(JJJ)V" } : Jvm.MethodName) prog_21_method_1_code (7 : Nat) (Option.none : Option Jvm.ClassFile.FieldType), Jvm.Cond.code ({ cls := "java/lang/Object", name := "<init>", desc := "()V" } : Jvm.MethodName) object_method_1_code (1 : Nat) (Option.none : Option Jvm.ClassFile.FieldType), Jvm.Cond.code ({ cls := "com/example/dido/dido/QueueSettings", name := "delay", desc := "(J)J" } : Jvm.MethodName) prog_21_method_8_code (3 : Nat) (Option.some Jvm.ClassFile.FieldType.long), Jvm.Cond.code ({ cls := "com/example/dido/dido/QueueSettings", name := "withDelay", desc := "(J)Lcom/example/dido/dido/QueueSettings;" } : Jvm.MethodName) prog_21_method_5_code (3 : Nat) (Option.some (Jvm.ClassFile.FieldType.object "com/example/dido/dido/QueueSettings"))]
set_option maxRecDepth 65536 in
theorem codes_eq : words1.filter isCode = codes1 := rfl
theorem w_codes : ∀ c ∈ words1.filter isCode, c.before args0 about1 = true := by
  rw [codes_eq]
  intro c hc
  simp only [codes1, List.mem_cons, List.not_mem_nil, or_false] at hc
  rcases hc with rfl | rfl | rfl | rfl | rfl
  · exact w_c0
  · exact w_c1
  · exact w_c2
  · exact w_c3
  · exact w_c4
set_option maxRecDepth 65536 in
theorem w_t1 : (words1.take 24).all (fun c => isCode c || c.before args0 about1) = true := by decide +kernel
set_option maxRecDepth 65536 in
theorem w_t2 : (words1.drop 24).all (fun c => isCode c || c.before args0 about1) = true := by decide +kernel
theorem w_tables : (allAtoms (Jvm.Cond.code x code maxLocals ret :: tables_1)).before args0 about1 = true := by
  rw [allAtoms_all]
  show words1.all (fun c => c.before args0 about1) = true
  refine all_split ?_ w_codes
  rw [← List.take_append_drop 24 words1, List.all_append, w_t1, w_t2]
  rfl
set_option maxRecDepth 65536 in
theorem w_case : (Jvm.Cond.and given_1 narrow_1).before args0 about1 = true := by decide +kernel
theorem w_applies : (headSpec (Jvm.Cond.code x code maxLocals ret :: tables_1) room_1).applies x e0.platform about1 = true :=
  (Spec.applies_iff w_frames).mpr ⟨w_running, w_runnable, w_alone, w_named, w_hears, w_ripe, w_room, w_tables⟩
theorem atStart : AtStart classFile x code maxLocals ret World_1 tables_1 room_1 Calls_1 rest_1 Pre_1 launch0 p0 e0 about1 theMethod args0 below0 :=
  ⟨lists_1, trivial, launch0.admits_env _ _ _, launch0.least_env, fairChoices_fair.cas, fairChoices_fair.clock, w_frames, w_args, w_heap, w_applies, trivial, trivial, w_case⟩
end start1
theorem witness_1 : WitnessClaimed_1 := ⟨start1.p0, start1.e0, start1.about1, start1.theMethod, start1.args0, start1.below0, start1.atStart⟩
end Jvm.Pilot.@@N@@
