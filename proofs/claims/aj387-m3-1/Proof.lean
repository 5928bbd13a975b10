import JvmDerived
import JvmDerived.Pilot.@@N@@Statement
import JvmDerived.Pilot.@@N@@Code
set_option linter.unusedVariables false
set_option linter.unusedSimpArgs false
@@BLOCK:NumsL.lean.txt@@
namespace Jvm.Pilot.@@N@@
open Jvm Jvm.ClassFile Sem Op Lib Jvm.Free Jvm.Stand Jvm.LawKit Jvm.RoadKit Bundle Jvm.Pilot.@@N@@.Jvm.D
theorem own_mvMN {Z s : State} {a0 args : Array Value} {own host : String} {index : Nat} {y : MethodName} (hZ : Z.Warmed39 s.vm) (w : (Jvm.Cond.methodLinkNest own index y host).before a0 Z = true) : (Jvm.Cond.methodLinkNest own index y host).before args s = true := (Cond.methodLinkNest_wide hZ w :)
theorem own_selP {Z s : State} {a0 args : Array Value} {y : MethodName} {n : Nat} (hZ : Z.Warmed39 s.vm) (wi : (Jvm.Cond.instantiable y.cls n).before a0 Z = true) (wp : (Jvm.Cond.privateMethod y).before a0 Z = true) (wm : (Jvm.Cond.instanceMethod y).before a0 Z = true) (hy : y.cls ≠ "java/lang/invoke/MethodHandle" ∧ y.cls ≠ "java/lang/invoke/VarHandle") : (Jvm.Cond.selects y.cls y y).before args s = true := by
  obtain ⟨c, k, h1, h2, -, h4, -⟩ := Cond.instantiable_spec (mvT (args := args) hZ wi)
  exact selects_self_of_private h1 h2 (by cases hh : k.isInterface <;> simp [hh] at h4 ⊢) (Cond.privateMethod_at (mvP hZ wp (args := #[]))) (mvT hZ wm) hy
theorem own_szO {Z : State} {n0 : Nat} {h : Heap} (O : Old Z n0 h) : n0 ≤ h.size := O.1 ▸ O.2.1
theorem pn_0 : plainName "java/lang/Record" = true := by first | (simp [plainName, overriddenIn]; done) | decide +kernel
theorem pn_1 : plainName "java/util/AbstractCollection" = true := by first | (simp [plainName, overriddenIn]; done) | decide +kernel
theorem pn_2 : plainName "java/util/ImmutableCollections$AbstractImmutableCollection" = true := by first | (simp [plainName, overriddenIn]; done) | decide +kernel
theorem pn_3 : plainName "java/util/ImmutableCollections$AbstractImmutableList" = true := by first | (simp [plainName, overriddenIn]; done) | decide +kernel
theorem pn_4 : plainName "com/example/jitney/jitney/Instance$Node" = true := by first | (simp [plainName, overriddenIn]; done) | decide +kernel
theorem pn_5 : plainName "java/util/AbstractList" = true := by first | (simp [plainName, overriddenIn]; done) | decide +kernel
theorem pn_6 : plainName "java/util/ArrayList" = true := by first | (simp [plainName, overriddenIn]; done) | decide +kernel
theorem pn_7 : plainName "java/util/Arrays" = true := by first | (simp [plainName, overriddenIn]; done) | decide +kernel
theorem pn_8 : plainName "java/util/Objects" = true := by first | (simp [plainName, overriddenIn]; done) | decide +kernel
theorem pn_9 : plainName "java/util/ImmutableCollections$List12" = true := by first | (simp [plainName, overriddenIn]; done) | decide +kernel
theorem pn_10 : plainName "java/util/ImmutableCollections$ListN" = true := by first | (simp [plainName, overriddenIn]; done) | decide +kernel
theorem pn_11 : plainName "java/util/ImmutableCollections" = true := by first | (simp [plainName, overriddenIn]; done) | decide +kernel
theorem pn_12 : plainName "java/util/List" = true := by first | (simp [plainName, overriddenIn]; done) | decide +kernel
theorem pn_13 : plainName "com/example/jitney/jitney/Instance" = true := by first | (simp [plainName, overriddenIn]; done) | decide +kernel
theorem pn_14 : plainName "com/example/jitney/jitney/InstanceIsPickupPinLaw" = true := by first | (simp [plainName, overriddenIn]; done) | decide +kernel
theorem pd_0 : parseMethodDescriptor "()V" = some ⟨[], none⟩ := by decide +kernel
theorem pd_1 : parseMethodDescriptor "(II)I" = some ⟨[.int, .int], some .int⟩ := by decide +kernel
theorem pd_2 : parseMethodDescriptor "(I)[Ljava/lang/Object;" = some ⟨[.int], some (.array (.object "java/lang/Object"))⟩ := by decide +kernel
theorem pd_3 : parseMethodDescriptor "()[Ljava/lang/Object;" = some ⟨[], some (.array (.object "java/lang/Object"))⟩ := by decide +kernel
theorem pd_4 : parseMethodDescriptor "(Ljava/lang/Object;[Ljava/lang/Object;I)V" = some ⟨[(.object "java/lang/Object"), (.array (.object "java/lang/Object")), .int], none⟩ := by decide +kernel
theorem pd_5 : parseMethodDescriptor "([Ljava/lang/Object;ILjava/lang/Class;)[Ljava/lang/Object;" = some ⟨[(.array (.object "java/lang/Object")), .int, (.object "java/lang/Class")], some (.array (.object "java/lang/Object"))⟩ := by decide +kernel
theorem pd_6 : parseMethodDescriptor "([Ljava/lang/Object;I)[Ljava/lang/Object;" = some ⟨[(.array (.object "java/lang/Object")), .int], some (.array (.object "java/lang/Object"))⟩ := by decide +kernel
theorem pd_7 : parseMethodDescriptor "(Ljava/lang/Object;)Ljava/lang/Object;" = some ⟨[(.object "java/lang/Object")], some (.object "java/lang/Object")⟩ := by decide +kernel
theorem pd_8 : parseMethodDescriptor "([Ljava/lang/Object;Z)V" = some ⟨[(.array (.object "java/lang/Object")), .boolean], none⟩ := by decide +kernel
theorem pd_9 : parseMethodDescriptor "([Ljava/lang/Object;)Ljava/util/List;" = some ⟨[(.array (.object "java/lang/Object"))], some (.object "java/util/List")⟩ := by decide +kernel
theorem pd_10 : parseMethodDescriptor "(Ljava/lang/Object;)V" = some ⟨[(.object "java/lang/Object")], none⟩ := by decide +kernel
theorem pd_11 : parseMethodDescriptor "(Ljava/lang/Object;Ljava/lang/Object;)V" = some ⟨[(.object "java/lang/Object"), (.object "java/lang/Object")], none⟩ := by decide +kernel
theorem pd_12 : parseMethodDescriptor "()Z" = some ⟨[], some .boolean⟩ := by decide +kernel
theorem pd_13 : parseMethodDescriptor "(Ljava/util/Collection;)Ljava/util/List;" = some ⟨[(.object "java/util/Collection")], some (.object "java/util/List")⟩ := by decide +kernel
theorem pd_14 : parseMethodDescriptor "()I" = some ⟨[], some .int⟩ := by decide +kernel
theorem pd_15 : parseMethodDescriptor "(DDDIDD)V" = some ⟨[.double, .double, .double, .int, .double, .double], none⟩ := by decide +kernel
theorem pd_16 : parseMethodDescriptor "(Ljava/lang/Object;)Z" = some ⟨[(.object "java/lang/Object")], some .boolean⟩ := by decide +kernel
theorem pd_17 : parseMethodDescriptor "(Ljava/lang/String;IDIDLjava/util/List;)V" = some ⟨[(.object "java/lang/String"), .int, .double, .int, .double, (.object "java/util/List")], none⟩ := by decide +kernel
theorem pd_18 : parseMethodDescriptor "(I)Z" = some ⟨[.int], some .boolean⟩ := by decide +kernel
theorem d_jdk_22_method_1_0 : decode jdk_22_method_1_code 0 = .ok (.aload_n 0, 1) := by decide +kernel
theorem d_jdk_22_method_1_1 : decode jdk_22_method_1_code 1 = .ok (.invokespecial 1, 3) := by decide +kernel
theorem d_jdk_22_method_1_4 : decode jdk_22_method_1_code 4 = .ok (.return_, 1) := by decide +kernel
theorem d_jdk_29_method_65_0 : decode jdk_29_method_65_code 0 = .ok (.iload_n 0, 1) := by decide +kernel
theorem d_jdk_29_method_65_1 : decode jdk_29_method_65_code 1 = .ok (.iload_n 1, 1) := by decide +kernel
theorem d_jdk_29_method_65_2 : decode jdk_29_method_65_code 2 = .ok (.if_icmp .lt 7, 3) := by decide +kernel
theorem d_jdk_29_method_65_5 : decode jdk_29_method_65_code 5 = .ok (.iload_n 0, 1) := by decide +kernel
theorem d_jdk_29_method_65_6 : decode jdk_29_method_65_code 6 = .ok (.goto 4, 3) := by decide +kernel
theorem d_jdk_29_method_65_9 : decode jdk_29_method_65_code 9 = .ok (.iload_n 1, 1) := by decide +kernel
theorem d_jdk_29_method_65_10 : decode jdk_29_method_65_code 10 = .ok (.ireturn, 1) := by decide +kernel
theorem d_jdk_29_method_69_0 : decode jdk_29_method_69_code 0 = .ok (.iload_n 0, 1) := by decide +kernel
theorem d_jdk_29_method_69_1 : decode jdk_29_method_69_code 1 = .ok (.iload_n 1, 1) := by decide +kernel
theorem d_jdk_29_method_69_2 : decode jdk_29_method_69_code 2 = .ok (.if_icmp .gt 7, 3) := by decide +kernel
theorem d_jdk_29_method_69_5 : decode jdk_29_method_69_code 5 = .ok (.iload_n 0, 1) := by decide +kernel
theorem d_jdk_29_method_69_6 : decode jdk_29_method_69_code 6 = .ok (.goto 4, 3) := by decide +kernel
theorem d_jdk_29_method_69_9 : decode jdk_29_method_69_code 9 = .ok (.iload_n 1, 1) := by decide +kernel
theorem d_jdk_29_method_69_10 : decode jdk_29_method_69_code 10 = .ok (.ireturn, 1) := by decide +kernel
theorem d_jdk_30_method_1_0 : decode jdk_30_method_1_code 0 = .ok (.aload_n 0, 1) := by decide +kernel
theorem d_jdk_30_method_1_1 : decode jdk_30_method_1_code 1 = .ok (.invokespecial 1, 3) := by decide +kernel
theorem d_jdk_30_method_1_4 : decode jdk_30_method_1_code 4 = .ok (.return_, 1) := by decide +kernel
theorem d_jdk_31_method_10_0 : decode jdk_31_method_10_code 0 = .ok (.aload_n 0, 1) := by decide +kernel
theorem d_jdk_31_method_10_1 : decode jdk_31_method_10_code 1 = .ok (.ifnonnull 11, 3) := by decide +kernel
theorem d_jdk_31_method_10_12 : decode jdk_31_method_10_code 12 = .ok (.aload_n 0, 1) := by decide +kernel
theorem d_jdk_31_method_10_13 : decode jdk_31_method_10_code 13 = .ok (.areturn, 1) := by decide +kernel
theorem d_jdk_38_method_16_0 : decode jdk_38_method_16_code 0 = .ok (.aload_n 0, 1) := by decide +kernel
theorem d_jdk_38_method_16_1 : decode jdk_38_method_16_code 1 = .ok (.getfield 9, 3) := by decide +kernel
theorem d_jdk_38_method_16_4 : decode jdk_38_method_16_code 4 = .ok (.aload_n 0, 1) := by decide +kernel
theorem d_jdk_38_method_16_5 : decode jdk_38_method_16_code 5 = .ok (.getfield 48, 3) := by decide +kernel
theorem d_jdk_38_method_16_8 : decode jdk_38_method_16_code 8 = .ok (.invokestatic 66, 3) := by decide +kernel
theorem d_jdk_38_method_16_11 : decode jdk_38_method_16_code 11 = .ok (.areturn, 1) := by decide +kernel
theorem d_jdk_38_method_24_0 : decode jdk_38_method_24_code 0 = .ok (.iload_n 3, 1) := by decide +kernel
theorem d_jdk_38_method_24_1 : decode jdk_38_method_24_code 1 = .ok (.aload_n 2, 1) := by decide +kernel
theorem d_jdk_38_method_24_2 : decode jdk_38_method_24_code 2 = .ok (.arraylength, 1) := by decide +kernel
theorem d_jdk_38_method_24_3 : decode jdk_38_method_24_code 3 = .ok (.if_icmp .ne 8, 3) := by decide +kernel
theorem d_jdk_38_method_24_6 : decode jdk_38_method_24_code 6 = .ok (.aload_n 0, 1) := by decide +kernel
theorem d_jdk_38_method_24_7 : decode jdk_38_method_24_code 7 = .ok (.invokevirtual 129, 3) := by decide +kernel
theorem d_jdk_38_method_24_10 : decode jdk_38_method_24_code 10 = .ok (.astore_n 2, 1) := by decide +kernel
theorem d_jdk_38_method_24_11 : decode jdk_38_method_24_code 11 = .ok (.aload_n 2, 1) := by decide +kernel
theorem d_jdk_38_method_24_12 : decode jdk_38_method_24_code 12 = .ok (.iload_n 3, 1) := by decide +kernel
theorem d_jdk_38_method_24_13 : decode jdk_38_method_24_code 13 = .ok (.aload_n 1, 1) := by decide +kernel
theorem d_jdk_38_method_24_14 : decode jdk_38_method_24_code 14 = .ok (.aastore, 1) := by decide +kernel
theorem d_jdk_38_method_24_15 : decode jdk_38_method_24_code 15 = .ok (.aload_n 0, 1) := by decide +kernel
theorem d_jdk_38_method_24_16 : decode jdk_38_method_24_code 16 = .ok (.iload_n 3, 1) := by decide +kernel
theorem d_jdk_38_method_24_17 : decode jdk_38_method_24_code 17 = .ok (.iconst 1, 1) := by decide +kernel
theorem d_jdk_38_method_24_18 : decode jdk_38_method_24_code 18 = .ok (.iadd, 1) := by decide +kernel
theorem d_jdk_38_method_24_19 : decode jdk_38_method_24_code 19 = .ok (.putfield 48, 3) := by decide +kernel
theorem d_jdk_38_method_24_22 : decode jdk_38_method_24_code 22 = .ok (.return_, 1) := by decide +kernel
theorem d_jdk_38_method_25_0 : decode jdk_38_method_25_code 0 = .ok (.aload_n 0, 1) := by decide +kernel
theorem d_jdk_38_method_25_1 : decode jdk_38_method_25_code 1 = .ok (.dup, 1) := by decide +kernel
theorem d_jdk_38_method_25_2 : decode jdk_38_method_25_code 2 = .ok (.getfield 63, 3) := by decide +kernel
theorem d_jdk_38_method_25_5 : decode jdk_38_method_25_code 5 = .ok (.iconst 1, 1) := by decide +kernel
theorem d_jdk_38_method_25_6 : decode jdk_38_method_25_code 6 = .ok (.iadd, 1) := by decide +kernel
theorem d_jdk_38_method_25_7 : decode jdk_38_method_25_code 7 = .ok (.putfield 63, 3) := by decide +kernel
theorem d_jdk_38_method_25_10 : decode jdk_38_method_25_code 10 = .ok (.aload_n 0, 1) := by decide +kernel
theorem d_jdk_38_method_25_11 : decode jdk_38_method_25_code 11 = .ok (.aload_n 1, 1) := by decide +kernel
theorem d_jdk_38_method_25_12 : decode jdk_38_method_25_code 12 = .ok (.aload_n 0, 1) := by decide +kernel
theorem d_jdk_38_method_25_13 : decode jdk_38_method_25_code 13 = .ok (.getfield 9, 3) := by decide +kernel
theorem d_jdk_38_method_25_16 : decode jdk_38_method_25_code 16 = .ok (.aload_n 0, 1) := by decide +kernel
theorem d_jdk_38_method_25_17 : decode jdk_38_method_25_code 17 = .ok (.getfield 48, 3) := by decide +kernel
theorem d_jdk_38_method_25_20 : decode jdk_38_method_25_code 20 = .ok (.invokevirtual 131, 3) := by decide +kernel
theorem d_jdk_38_method_25_23 : decode jdk_38_method_25_code 23 = .ok (.iconst 1, 1) := by decide +kernel
theorem d_jdk_38_method_25_24 : decode jdk_38_method_25_code 24 = .ok (.ireturn, 1) := by decide +kernel
theorem d_jdk_38_method_2_0 : decode jdk_38_method_2_code 0 = .ok (.aload_n 0, 1) := by decide +kernel
theorem d_jdk_38_method_2_1 : decode jdk_38_method_2_code 1 = .ok (.invokespecial 1, 3) := by decide +kernel
theorem d_jdk_38_method_2_4 : decode jdk_38_method_2_code 4 = .ok (.aload_n 0, 1) := by decide +kernel
theorem d_jdk_38_method_2_5 : decode jdk_38_method_2_code 5 = .ok (.getstatic 39, 3) := by decide +kernel
theorem d_jdk_38_method_2_8 : decode jdk_38_method_2_code 8 = .ok (.putfield 9, 3) := by decide +kernel
theorem d_jdk_38_method_2_11 : decode jdk_38_method_2_code 11 = .ok (.return_, 1) := by decide +kernel
theorem d_jdk_38_method_6_0 : decode jdk_38_method_6_code 0 = .ok (.aload_n 0, 1) := by decide +kernel
theorem d_jdk_38_method_6_1 : decode jdk_38_method_6_code 1 = .ok (.getfield 9, 3) := by decide +kernel
theorem d_jdk_38_method_6_4 : decode jdk_38_method_6_code 4 = .ok (.arraylength, 1) := by decide +kernel
theorem d_jdk_38_method_6_5 : decode jdk_38_method_6_code 5 = .ok (.istore_n 2, 1) := by decide +kernel
theorem d_jdk_38_method_6_6 : decode jdk_38_method_6_code 6 = .ok (.iload_n 2, 1) := by decide +kernel
theorem d_jdk_38_method_6_7 : decode jdk_38_method_6_code 7 = .ok (.ifCond .gt 13, 3) := by decide +kernel
theorem d_jdk_38_method_6_10 : decode jdk_38_method_6_code 10 = .ok (.aload_n 0, 1) := by decide +kernel
theorem d_jdk_38_method_6_11 : decode jdk_38_method_6_code 11 = .ok (.getfield 9, 3) := by decide +kernel
theorem d_jdk_38_method_6_14 : decode jdk_38_method_6_code 14 = .ok (.getstatic 39, 3) := by decide +kernel
theorem d_jdk_38_method_6_17 : decode jdk_38_method_6_code 17 = .ok (.if_acmp .eq 28, 3) := by decide +kernel
theorem d_jdk_38_method_6_45 : decode jdk_38_method_6_code 45 = .ok (.aload_n 0, 1) := by decide +kernel
theorem d_jdk_38_method_6_46 : decode jdk_38_method_6_code 46 = .ok (.bipush 10, 2) := by decide +kernel
theorem d_jdk_38_method_6_48 : decode jdk_38_method_6_code 48 = .ok (.iload_n 1, 1) := by decide +kernel
theorem d_jdk_38_method_6_49 : decode jdk_38_method_6_code 49 = .ok (.invokestatic 79, 3) := by decide +kernel
theorem d_jdk_38_method_6_52 : decode jdk_38_method_6_code 52 = .ok (.anewarray 7, 3) := by decide +kernel
theorem d_jdk_38_method_6_55 : decode jdk_38_method_6_code 55 = .ok (.dup_x1, 1) := by decide +kernel
theorem d_jdk_38_method_6_56 : decode jdk_38_method_6_code 56 = .ok (.putfield 9, 3) := by decide +kernel
theorem d_jdk_38_method_6_59 : decode jdk_38_method_6_code 59 = .ok (.areturn, 1) := by decide +kernel
theorem d_jdk_38_method_7_0 : decode jdk_38_method_7_code 0 = .ok (.aload_n 0, 1) := by decide +kernel
theorem d_jdk_38_method_7_1 : decode jdk_38_method_7_code 1 = .ok (.aload_n 0, 1) := by decide +kernel
theorem d_jdk_38_method_7_2 : decode jdk_38_method_7_code 2 = .ok (.getfield 48, 3) := by decide +kernel
theorem d_jdk_38_method_7_5 : decode jdk_38_method_7_code 5 = .ok (.iconst 1, 1) := by decide +kernel
theorem d_jdk_38_method_7_6 : decode jdk_38_method_7_code 6 = .ok (.iadd, 1) := by decide +kernel
theorem d_jdk_38_method_7_7 : decode jdk_38_method_7_code 7 = .ok (.invokevirtual 69, 3) := by decide +kernel
theorem d_jdk_38_method_7_10 : decode jdk_38_method_7_code 10 = .ok (.areturn, 1) := by decide +kernel
theorem d_jdk_38_method_8_0 : decode jdk_38_method_8_code 0 = .ok (.aload_n 0, 1) := by decide +kernel
theorem d_jdk_38_method_8_1 : decode jdk_38_method_8_code 1 = .ok (.getfield 48, 3) := by decide +kernel
theorem d_jdk_38_method_8_4 : decode jdk_38_method_8_code 4 = .ok (.ireturn, 1) := by decide +kernel
theorem d_jdk_38_method_9_0 : decode jdk_38_method_9_code 0 = .ok (.aload_n 0, 1) := by decide +kernel
theorem d_jdk_38_method_9_1 : decode jdk_38_method_9_code 1 = .ok (.getfield 48, 3) := by decide +kernel
theorem d_jdk_38_method_9_4 : decode jdk_38_method_9_code 4 = .ok (.ifCond .ne 7, 3) := by decide +kernel
theorem d_jdk_38_method_9_11 : decode jdk_38_method_9_code 11 = .ok (.iconst 0, 1) := by decide +kernel
theorem d_jdk_38_method_9_12 : decode jdk_38_method_9_code 12 = .ok (.ireturn, 1) := by decide +kernel
theorem d_jdk_39_method_1_0 : decode jdk_39_method_1_code 0 = .ok (.aload_n 0, 1) := by decide +kernel
theorem d_jdk_39_method_1_1 : decode jdk_39_method_1_code 1 = .ok (.invokespecial 1, 3) := by decide +kernel
theorem d_jdk_39_method_1_4 : decode jdk_39_method_1_code 4 = .ok (.aload_n 0, 1) := by decide +kernel
theorem d_jdk_39_method_1_5 : decode jdk_39_method_1_code 5 = .ok (.iconst 0, 1) := by decide +kernel
theorem d_jdk_39_method_1_6 : decode jdk_39_method_1_code 6 = .ok (.putfield 7, 3) := by decide +kernel
theorem d_jdk_39_method_1_9 : decode jdk_39_method_1_code 9 = .ok (.return_, 1) := by decide +kernel
theorem d_jdk_40_method_47_0 : decode jdk_40_method_47_code 0 = .ok (.aload_n 0, 1) := by decide +kernel
theorem d_jdk_40_method_47_1 : decode jdk_40_method_47_code 1 = .ok (.arraylength, 1) := by decide +kernel
theorem d_jdk_40_method_47_2 : decode jdk_40_method_47_code 2 = .ok (.tableswitch 57 0 2 #[26, 32, 43], 26) := by decide +kernel
theorem d_jdk_40_method_47_34 : decode jdk_40_method_47_code 34 = .ok (.new 96, 3) := by decide +kernel
theorem d_jdk_40_method_47_37 : decode jdk_40_method_47_code 37 = .ok (.dup, 1) := by decide +kernel
theorem d_jdk_40_method_47_38 : decode jdk_40_method_47_code 38 = .ok (.aload_n 0, 1) := by decide +kernel
theorem d_jdk_40_method_47_39 : decode jdk_40_method_47_code 39 = .ok (.iconst 0, 1) := by decide +kernel
theorem d_jdk_40_method_47_40 : decode jdk_40_method_47_code 40 = .ok (.aaload, 1) := by decide +kernel
theorem d_jdk_40_method_47_41 : decode jdk_40_method_47_code 41 = .ok (.invokespecial 98, 3) := by decide +kernel
theorem d_jdk_40_method_47_44 : decode jdk_40_method_47_code 44 = .ok (.areturn, 1) := by decide +kernel
theorem d_jdk_40_method_47_45 : decode jdk_40_method_47_code 45 = .ok (.new 96, 3) := by decide +kernel
theorem d_jdk_40_method_47_48 : decode jdk_40_method_47_code 48 = .ok (.dup, 1) := by decide +kernel
theorem d_jdk_40_method_47_49 : decode jdk_40_method_47_code 49 = .ok (.aload_n 0, 1) := by decide +kernel
theorem d_jdk_40_method_47_50 : decode jdk_40_method_47_code 50 = .ok (.iconst 0, 1) := by decide +kernel
theorem d_jdk_40_method_47_51 : decode jdk_40_method_47_code 51 = .ok (.aaload, 1) := by decide +kernel
theorem d_jdk_40_method_47_52 : decode jdk_40_method_47_code 52 = .ok (.aload_n 0, 1) := by decide +kernel
theorem d_jdk_40_method_47_53 : decode jdk_40_method_47_code 53 = .ok (.iconst 1, 1) := by decide +kernel
theorem d_jdk_40_method_47_54 : decode jdk_40_method_47_code 54 = .ok (.aaload, 1) := by decide +kernel
theorem d_jdk_40_method_47_55 : decode jdk_40_method_47_code 55 = .ok (.invokespecial 100, 3) := by decide +kernel
theorem d_jdk_40_method_47_58 : decode jdk_40_method_47_code 58 = .ok (.areturn, 1) := by decide +kernel
theorem d_jdk_40_method_47_59 : decode jdk_40_method_47_code 59 = .ok (.aload_n 0, 1) := by decide +kernel
theorem d_jdk_40_method_47_60 : decode jdk_40_method_47_code 60 = .ok (.invokestatic 109, 3) := by decide +kernel
theorem d_jdk_40_method_47_63 : decode jdk_40_method_47_code 63 = .ok (.areturn, 1) := by decide +kernel
theorem d_jdk_40_method_48_0 : decode jdk_40_method_48_code 0 = .ok (.aload_n 0, 1) := by decide +kernel
theorem d_jdk_40_method_48_1 : decode jdk_40_method_48_code 1 = .ok (.invokestatic 112, 3) := by decide +kernel
theorem d_jdk_40_method_48_4 : decode jdk_40_method_48_code 4 = .ok (.areturn, 1) := by decide +kernel
theorem d_jdk_44_method_1_0 : decode jdk_44_method_1_code 0 = .ok (.aload_n 0, 1) := by decide +kernel
theorem d_jdk_44_method_1_1 : decode jdk_44_method_1_code 1 = .ok (.invokespecial 1, 3) := by decide +kernel
theorem d_jdk_44_method_1_4 : decode jdk_44_method_1_code 4 = .ok (.aload_n 0, 1) := by decide +kernel
theorem d_jdk_44_method_1_5 : decode jdk_44_method_1_code 5 = .ok (.aload_n 1, 1) := by decide +kernel
theorem d_jdk_44_method_1_6 : decode jdk_44_method_1_code 6 = .ok (.invokestatic 7, 3) := by decide +kernel
theorem d_jdk_44_method_1_9 : decode jdk_44_method_1_code 9 = .ok (.putfield 13, 3) := by decide +kernel
theorem d_jdk_44_method_1_12 : decode jdk_44_method_1_code 12 = .ok (.aload_n 0, 1) := by decide +kernel
theorem d_jdk_44_method_1_13 : decode jdk_44_method_1_code 13 = .ok (.getstatic 19, 3) := by decide +kernel
theorem d_jdk_44_method_1_16 : decode jdk_44_method_1_code 16 = .ok (.putfield 24, 3) := by decide +kernel
theorem d_jdk_44_method_1_19 : decode jdk_44_method_1_code 19 = .ok (.return_, 1) := by decide +kernel
theorem d_jdk_44_method_2_0 : decode jdk_44_method_2_code 0 = .ok (.aload_n 0, 1) := by decide +kernel
theorem d_jdk_44_method_2_1 : decode jdk_44_method_2_code 1 = .ok (.invokespecial 1, 3) := by decide +kernel
theorem d_jdk_44_method_2_4 : decode jdk_44_method_2_code 4 = .ok (.aload_n 0, 1) := by decide +kernel
theorem d_jdk_44_method_2_5 : decode jdk_44_method_2_code 5 = .ok (.aload_n 1, 1) := by decide +kernel
theorem d_jdk_44_method_2_6 : decode jdk_44_method_2_code 6 = .ok (.invokestatic 7, 3) := by decide +kernel
theorem d_jdk_44_method_2_9 : decode jdk_44_method_2_code 9 = .ok (.putfield 13, 3) := by decide +kernel
theorem d_jdk_44_method_2_12 : decode jdk_44_method_2_code 12 = .ok (.aload_n 0, 1) := by decide +kernel
theorem d_jdk_44_method_2_13 : decode jdk_44_method_2_code 13 = .ok (.aload_n 2, 1) := by decide +kernel
theorem d_jdk_44_method_2_14 : decode jdk_44_method_2_code 14 = .ok (.invokestatic 7, 3) := by decide +kernel
theorem d_jdk_44_method_2_17 : decode jdk_44_method_2_code 17 = .ok (.putfield 24, 3) := by decide +kernel
theorem d_jdk_44_method_2_20 : decode jdk_44_method_2_code 20 = .ok (.return_, 1) := by decide +kernel
theorem d_jdk_45_method_1_0 : decode jdk_45_method_1_code 0 = .ok (.aload_n 0, 1) := by decide +kernel
theorem d_jdk_45_method_1_1 : decode jdk_45_method_1_code 1 = .ok (.invokespecial 1, 3) := by decide +kernel
theorem d_jdk_45_method_1_4 : decode jdk_45_method_1_code 4 = .ok (.aload_n 0, 1) := by decide +kernel
theorem d_jdk_45_method_1_5 : decode jdk_45_method_1_code 5 = .ok (.aload_n 1, 1) := by decide +kernel
theorem d_jdk_45_method_1_6 : decode jdk_45_method_1_code 6 = .ok (.putfield 7, 3) := by decide +kernel
theorem d_jdk_45_method_1_9 : decode jdk_45_method_1_code 9 = .ok (.aload_n 0, 1) := by decide +kernel
theorem d_jdk_45_method_1_10 : decode jdk_45_method_1_code 10 = .ok (.iload_n 2, 1) := by decide +kernel
theorem d_jdk_45_method_1_11 : decode jdk_45_method_1_code 11 = .ok (.putfield 13, 3) := by decide +kernel
theorem d_jdk_45_method_1_14 : decode jdk_45_method_1_code 14 = .ok (.return_, 1) := by decide +kernel
theorem d_jdk_46_method_1_0 : decode jdk_46_method_1_code 0 = .ok (.aload_n 0, 1) := by decide +kernel
theorem d_jdk_46_method_1_1 : decode jdk_46_method_1_code 1 = .ok (.invokespecial 1, 3) := by decide +kernel
theorem d_jdk_46_method_1_4 : decode jdk_46_method_1_code 4 = .ok (.return_, 1) := by decide +kernel
theorem d_jdk_47_method_1_0 : decode jdk_47_method_1_code 0 = .ok (.aload_n 0, 1) := by decide +kernel
theorem d_jdk_47_method_1_1 : decode jdk_47_method_1_code 1 = .ok (.invokespecial 1, 3) := by decide +kernel
theorem d_jdk_47_method_1_4 : decode jdk_47_method_1_code 4 = .ok (.return_, 1) := by decide +kernel
theorem d_jdk_56_method_3_0 : decode jdk_56_method_3_code 0 = .ok (.aload_n 0, 1) := by decide +kernel
theorem d_jdk_56_method_3_1 : decode jdk_56_method_3_code 1 = .ok (.instanceof 10, 3) := by decide +kernel
theorem d_jdk_56_method_3_4 : decode jdk_56_method_3_code 4 = .ok (.ifCond .ne 22, 3) := by decide +kernel
theorem d_jdk_56_method_3_7 : decode jdk_56_method_3_code 7 = .ok (.aload_n 0, 1) := by decide +kernel
theorem d_jdk_56_method_3_8 : decode jdk_56_method_3_code 8 = .ok (.instanceof 12, 3) := by decide +kernel
theorem d_jdk_56_method_3_11 : decode jdk_56_method_3_code 11 = .ok (.ifCond .eq 20, 3) := by decide +kernel
theorem d_jdk_56_method_3_31 : decode jdk_56_method_3_code 31 = .ok (.aload_n 0, 1) := by decide +kernel
theorem d_jdk_56_method_3_32 : decode jdk_56_method_3_code 32 = .ok (.invokeinterface 20 1, 5) := by decide +kernel
theorem d_jdk_56_method_3_37 : decode jdk_56_method_3_code 37 = .ok (.ifCond .eq 7, 3) := by decide +kernel
theorem d_jdk_56_method_3_44 : decode jdk_56_method_3_code 44 = .ok (.aload_n 0, 1) := by decide +kernel
theorem d_jdk_56_method_3_45 : decode jdk_56_method_3_code 45 = .ok (.invokeinterface 30 1, 5) := by decide +kernel
theorem d_jdk_56_method_3_50 : decode jdk_56_method_3_code 50 = .ok (.invokestatic 34, 3) := by decide +kernel
theorem d_jdk_56_method_3_53 : decode jdk_56_method_3_code 53 = .ok (.areturn, 1) := by decide +kernel
theorem d_jdk_56_method_4_0 : decode jdk_56_method_4_code 0 = .ok (.aload_n 0, 1) := by decide +kernel
theorem d_jdk_56_method_4_1 : decode jdk_56_method_4_code 1 = .ok (.arraylength, 1) := by decide +kernel
theorem d_jdk_56_method_4_2 : decode jdk_56_method_4_code 2 = .ok (.anewarray 2, 3) := by decide +kernel
theorem d_jdk_56_method_4_5 : decode jdk_56_method_4_code 5 = .ok (.astore_n 1, 1) := by decide +kernel
theorem d_jdk_56_method_4_6 : decode jdk_56_method_4_code 6 = .ok (.iconst 0, 1) := by decide +kernel
theorem d_jdk_56_method_4_7 : decode jdk_56_method_4_code 7 = .ok (.istore_n 2, 1) := by decide +kernel
theorem d_jdk_56_method_4_8 : decode jdk_56_method_4_code 8 = .ok (.iload_n 2, 1) := by decide +kernel
theorem d_jdk_56_method_4_9 : decode jdk_56_method_4_code 9 = .ok (.aload_n 0, 1) := by decide +kernel
theorem d_jdk_56_method_4_10 : decode jdk_56_method_4_code 10 = .ok (.arraylength, 1) := by decide +kernel
theorem d_jdk_56_method_4_11 : decode jdk_56_method_4_code 11 = .ok (.if_icmp .ge 18, 3) := by decide +kernel
theorem d_jdk_56_method_4_14 : decode jdk_56_method_4_code 14 = .ok (.aload_n 1, 1) := by decide +kernel
theorem d_jdk_56_method_4_15 : decode jdk_56_method_4_code 15 = .ok (.iload_n 2, 1) := by decide +kernel
theorem d_jdk_56_method_4_16 : decode jdk_56_method_4_code 16 = .ok (.aload_n 0, 1) := by decide +kernel
theorem d_jdk_56_method_4_17 : decode jdk_56_method_4_code 17 = .ok (.iload_n 2, 1) := by decide +kernel
theorem d_jdk_56_method_4_18 : decode jdk_56_method_4_code 18 = .ok (.aaload, 1) := by decide +kernel
theorem d_jdk_56_method_4_19 : decode jdk_56_method_4_code 19 = .ok (.invokestatic 37, 3) := by decide +kernel
theorem d_jdk_56_method_4_22 : decode jdk_56_method_4_code 22 = .ok (.aastore, 1) := by decide +kernel
theorem d_jdk_56_method_4_23 : decode jdk_56_method_4_code 23 = .ok (.iinc 2 1, 3) := by decide +kernel
theorem d_jdk_56_method_4_26 : decode jdk_56_method_4_code 26 = .ok (.goto (-18), 3) := by decide +kernel
theorem d_jdk_56_method_4_29 : decode jdk_56_method_4_code 29 = .ok (.new 12, 3) := by decide +kernel
theorem d_jdk_56_method_4_32 : decode jdk_56_method_4_code 32 = .ok (.dup, 1) := by decide +kernel
theorem d_jdk_56_method_4_33 : decode jdk_56_method_4_code 33 = .ok (.aload_n 1, 1) := by decide +kernel
theorem d_jdk_56_method_4_34 : decode jdk_56_method_4_code 34 = .ok (.iconst 0, 1) := by decide +kernel
theorem d_jdk_56_method_4_35 : decode jdk_56_method_4_code 35 = .ok (.invokespecial 43, 3) := by decide +kernel
theorem d_jdk_56_method_4_38 : decode jdk_56_method_4_code 38 = .ok (.areturn, 1) := by decide +kernel
theorem d_jdk_65_method_119_0 : decode jdk_65_method_119_code 0 = .ok (.aload_n 0, 1) := by decide +kernel
theorem d_jdk_65_method_119_1 : decode jdk_65_method_119_code 1 = .ok (.iload_n 1, 1) := by decide +kernel
theorem d_jdk_65_method_119_2 : decode jdk_65_method_119_code 2 = .ok (.aload_n 0, 1) := by decide +kernel
theorem d_jdk_65_method_119_3 : decode jdk_65_method_119_code 3 = .ok (.invokevirtual 86, 3) := by decide +kernel
theorem d_jdk_65_method_119_6 : decode jdk_65_method_119_code 6 = .ok (.invokestatic 300, 3) := by decide +kernel
theorem d_jdk_65_method_119_9 : decode jdk_65_method_119_code 9 = .ok (.areturn, 1) := by decide +kernel
theorem d_jdk_65_method_120_0 : decode jdk_65_method_120_code 0 = .ok (.aload_n 2, 1) := by decide +kernel
theorem d_jdk_65_method_120_1 : decode jdk_65_method_120_code 1 = .ok (.ldc 110, 2) := by decide +kernel
theorem d_jdk_65_method_120_3 : decode jdk_65_method_120_code 3 = .ok (.if_acmp .ne 10, 3) := by decide +kernel
theorem d_jdk_65_method_120_6 : decode jdk_65_method_120_code 6 = .ok (.iload_n 1, 1) := by decide +kernel
theorem d_jdk_65_method_120_7 : decode jdk_65_method_120_code 7 = .ok (.anewarray 2, 3) := by decide +kernel
theorem d_jdk_65_method_120_10 : decode jdk_65_method_120_code 10 = .ok (.goto 14, 3) := by decide +kernel
theorem d_jdk_65_method_120_24 : decode jdk_65_method_120_code 24 = .ok (.astore_n 3, 1) := by decide +kernel
theorem d_jdk_65_method_120_25 : decode jdk_65_method_120_code 25 = .ok (.aload_n 0, 1) := by decide +kernel
theorem d_jdk_65_method_120_26 : decode jdk_65_method_120_code 26 = .ok (.iconst 0, 1) := by decide +kernel
theorem d_jdk_65_method_120_27 : decode jdk_65_method_120_code 27 = .ok (.aload_n 3, 1) := by decide +kernel
theorem d_jdk_65_method_120_28 : decode jdk_65_method_120_code 28 = .ok (.iconst 0, 1) := by decide +kernel
theorem d_jdk_65_method_120_29 : decode jdk_65_method_120_code 29 = .ok (.aload_n 0, 1) := by decide +kernel
theorem d_jdk_65_method_120_30 : decode jdk_65_method_120_code 30 = .ok (.arraylength, 1) := by decide +kernel
theorem d_jdk_65_method_120_31 : decode jdk_65_method_120_code 31 = .ok (.iload_n 1, 1) := by decide +kernel
theorem d_jdk_65_method_120_32 : decode jdk_65_method_120_code 32 = .ok (.invokestatic 304, 3) := by decide +kernel
theorem d_jdk_65_method_120_35 : decode jdk_65_method_120_code 35 = .ok (.invokestatic 150, 3) := by decide +kernel
theorem d_jdk_65_method_120_38 : decode jdk_65_method_120_code 38 = .ok (.aload_n 3, 1) := by decide +kernel
theorem d_jdk_65_method_120_39 : decode jdk_65_method_120_code 39 = .ok (.areturn, 1) := by decide +kernel
theorem d_prog_5_method_11_0 : decode prog_5_method_11_code 0 = .ok (.iload_n 1, 1) := by decide +kernel
theorem d_prog_5_method_11_1 : decode prog_5_method_11_code 1 = .ok (.iconst 1, 1) := by decide +kernel
theorem d_prog_5_method_11_2 : decode prog_5_method_11_code 2 = .ok (.if_icmp .lt 15, 3) := by decide +kernel
theorem d_prog_5_method_11_5 : decode prog_5_method_11_code 5 = .ok (.iload_n 1, 1) := by decide +kernel
theorem d_prog_5_method_11_6 : decode prog_5_method_11_code 6 = .ok (.aload_n 0, 1) := by decide +kernel
theorem d_prog_5_method_11_7 : decode prog_5_method_11_code 7 = .ok (.getfield 52, 3) := by decide +kernel
theorem d_prog_5_method_11_10 : decode prog_5_method_11_code 10 = .ok (.if_icmp .gt 7, 3) := by decide +kernel
theorem d_prog_5_method_11_13 : decode prog_5_method_11_code 13 = .ok (.iconst 1, 1) := by decide +kernel
theorem d_prog_5_method_11_14 : decode prog_5_method_11_code 14 = .ok (.goto 4, 3) := by decide +kernel
theorem d_prog_5_method_11_17 : decode prog_5_method_11_code 17 = .ok (.iconst 0, 1) := by decide +kernel
theorem d_prog_5_method_11_18 : decode prog_5_method_11_code 18 = .ok (.ireturn, 1) := by decide +kernel
theorem d_prog_5_method_1_0 : decode prog_5_method_1_code 0 = .ok (.aload_n 0, 1) := by decide +kernel
theorem d_prog_5_method_1_1 : decode prog_5_method_1_code 1 = .ok (.invokespecial 1, 3) := by decide +kernel
theorem d_prog_5_method_1_4 : decode prog_5_method_1_code 4 = .ok (.aload 8, 2) := by decide +kernel
theorem d_prog_5_method_1_6 : decode prog_5_method_1_code 6 = .ok (.invokeinterface 7 1, 5) := by decide +kernel
theorem d_prog_5_method_1_11 : decode prog_5_method_1_code 11 = .ok (.ifCond .eq 13, 3) := by decide +kernel
theorem d_prog_5_method_1_24 : decode prog_5_method_1_code 24 = .ok (.aload_n 0, 1) := by decide +kernel
theorem d_prog_5_method_1_25 : decode prog_5_method_1_code 25 = .ok (.aload_n 1, 1) := by decide +kernel
theorem d_prog_5_method_1_26 : decode prog_5_method_1_code 26 = .ok (.putfield 20, 3) := by decide +kernel
theorem d_prog_5_method_1_29 : decode prog_5_method_1_code 29 = .ok (.aload_n 0, 1) := by decide +kernel
theorem d_prog_5_method_1_30 : decode prog_5_method_1_code 30 = .ok (.iload_n 2, 1) := by decide +kernel
theorem d_prog_5_method_1_31 : decode prog_5_method_1_code 31 = .ok (.putfield 26, 3) := by decide +kernel
theorem d_prog_5_method_1_34 : decode prog_5_method_1_code 34 = .ok (.aload_n 0, 1) := by decide +kernel
theorem d_prog_5_method_1_35 : decode prog_5_method_1_code 35 = .ok (.dload_n 3, 1) := by decide +kernel
theorem d_prog_5_method_1_36 : decode prog_5_method_1_code 36 = .ok (.putfield 30, 3) := by decide +kernel
theorem d_prog_5_method_1_39 : decode prog_5_method_1_code 39 = .ok (.aload_n 0, 1) := by decide +kernel
theorem d_prog_5_method_1_40 : decode prog_5_method_1_code 40 = .ok (.iload 5, 2) := by decide +kernel
theorem d_prog_5_method_1_42 : decode prog_5_method_1_code 42 = .ok (.putfield 34, 3) := by decide +kernel
theorem d_prog_5_method_1_45 : decode prog_5_method_1_code 45 = .ok (.aload_n 0, 1) := by decide +kernel
theorem d_prog_5_method_1_46 : decode prog_5_method_1_code 46 = .ok (.dload 6, 2) := by decide +kernel
theorem d_prog_5_method_1_48 : decode prog_5_method_1_code 48 = .ok (.putfield 37, 3) := by decide +kernel
theorem d_prog_5_method_1_51 : decode prog_5_method_1_code 51 = .ok (.aload_n 0, 1) := by decide +kernel
theorem d_prog_5_method_1_52 : decode prog_5_method_1_code 52 = .ok (.aload 8, 2) := by decide +kernel
theorem d_prog_5_method_1_54 : decode prog_5_method_1_code 54 = .ok (.invokestatic 40, 3) := by decide +kernel
theorem d_prog_5_method_1_57 : decode prog_5_method_1_code 57 = .ok (.putfield 44, 3) := by decide +kernel
theorem d_prog_5_method_1_60 : decode prog_5_method_1_code 60 = .ok (.aload_n 0, 1) := by decide +kernel
theorem d_prog_5_method_1_61 : decode prog_5_method_1_code 61 = .ok (.aload 8, 2) := by decide +kernel
theorem d_prog_5_method_1_63 : decode prog_5_method_1_code 63 = .ok (.invokeinterface 48 1, 5) := by decide +kernel
theorem d_prog_5_method_1_68 : decode prog_5_method_1_code 68 = .ok (.iconst 1, 1) := by decide +kernel
theorem d_prog_5_method_1_69 : decode prog_5_method_1_code 69 = .ok (.isub, 1) := by decide +kernel
theorem d_prog_5_method_1_70 : decode prog_5_method_1_code 70 = .ok (.iconst 2, 1) := by decide +kernel
theorem d_prog_5_method_1_71 : decode prog_5_method_1_code 71 = .ok (.idiv, 1) := by decide +kernel
theorem d_prog_5_method_1_72 : decode prog_5_method_1_code 72 = .ok (.putfield 52, 3) := by decide +kernel
theorem d_prog_5_method_1_75 : decode prog_5_method_1_code 75 = .ok (.return_, 1) := by decide +kernel
theorem d_prog_6_method_1_0 : decode prog_6_method_1_code 0 = .ok (.aload_n 0, 1) := by decide +kernel
theorem d_prog_6_method_1_1 : decode prog_6_method_1_code 1 = .ok (.invokespecial 1, 3) := by decide +kernel
theorem d_prog_6_method_1_4 : decode prog_6_method_1_code 4 = .ok (.aload_n 0, 1) := by decide +kernel
theorem d_prog_6_method_1_5 : decode prog_6_method_1_code 5 = .ok (.dload_n 1, 1) := by decide +kernel
theorem d_prog_6_method_1_6 : decode prog_6_method_1_code 6 = .ok (.putfield 7, 3) := by decide +kernel
theorem d_prog_6_method_1_9 : decode prog_6_method_1_code 9 = .ok (.aload_n 0, 1) := by decide +kernel
theorem d_prog_6_method_1_10 : decode prog_6_method_1_code 10 = .ok (.dload_n 3, 1) := by decide +kernel
theorem d_prog_6_method_1_11 : decode prog_6_method_1_code 11 = .ok (.putfield 13, 3) := by decide +kernel
theorem d_prog_6_method_1_14 : decode prog_6_method_1_code 14 = .ok (.aload_n 0, 1) := by decide +kernel
theorem d_prog_6_method_1_15 : decode prog_6_method_1_code 15 = .ok (.dload 5, 2) := by decide +kernel
theorem d_prog_6_method_1_17 : decode prog_6_method_1_code 17 = .ok (.putfield 16, 3) := by decide +kernel
theorem d_prog_6_method_1_20 : decode prog_6_method_1_code 20 = .ok (.aload_n 0, 1) := by decide +kernel
theorem d_prog_6_method_1_21 : decode prog_6_method_1_code 21 = .ok (.iload 7, 2) := by decide +kernel
theorem d_prog_6_method_1_23 : decode prog_6_method_1_code 23 = .ok (.putfield 19, 3) := by decide +kernel
theorem d_prog_6_method_1_26 : decode prog_6_method_1_code 26 = .ok (.aload_n 0, 1) := by decide +kernel
theorem d_prog_6_method_1_27 : decode prog_6_method_1_code 27 = .ok (.dload 8, 2) := by decide +kernel
theorem d_prog_6_method_1_29 : decode prog_6_method_1_code 29 = .ok (.putfield 23, 3) := by decide +kernel
theorem d_prog_6_method_1_32 : decode prog_6_method_1_code 32 = .ok (.aload_n 0, 1) := by decide +kernel
theorem d_prog_6_method_1_33 : decode prog_6_method_1_code 33 = .ok (.dload 10, 2) := by decide +kernel
theorem d_prog_6_method_1_35 : decode prog_6_method_1_code 35 = .ok (.putfield 26, 3) := by decide +kernel
theorem d_prog_6_method_1_38 : decode prog_6_method_1_code 38 = .ok (.return_, 1) := by decide +kernel
def own_max (p q : Int32) : Int32 := if p < q then q else p
def own_min (p q : Int32) : Int32 := if q < p then q else p
theorem own_nsRoot {Z : State} {a0 : Array Value} {O K : String} {n : Nat} (w : (Jvm.Cond.noSuperclass O).before a0 Z = true) (wi : (Jvm.Cond.instantiable K n).before a0 Z = true) (hn : O ≠ K) : NS Z O K := by
  obtain ⟨c, k, h1, h2, h3, -, -⟩ := Cond.noSuperclass_spec w
  obtain ⟨t, k2, g1, -⟩ := Cond.instantiable_spec wi
  have ne := ids_ne h1 g1 hn
  refine ⟨c, t, h1, g1, fun fuel => ?_⟩
  cases fuel with
  | zero => rfl
  | succ f => simp [Vm.isSubclassAux, ne, h2, h3]
theorem own_nsNo {Z : State} {a0 : Array Value} {C S K : String} {n : Nat} (w : (Jvm.Cond.superclass C S).before a0 Z = true) (wi : (Jvm.Cond.instantiable K n).before a0 Z = true) (ns : NS Z C K) (hn : C ≠ K) : ∃ c t, Z.vm.findClass C = some c ∧ Z.vm.findClass K = some t ∧ Z.vm.assignable c t = false := by
  obtain ⟨c, t, h0, g0, n3⟩ := ns
  obtain ⟨p, k, kp, h1, h2, h3, h4, h5, -, h7⟩ := Cond.superclass_spec h0 w
  obtain ⟨t', k', g1, g2, g3, g4, -⟩ := Cond.instantiable_spec wi
  cases g0.symm.trans g1
  have ne := ids_ne h0 g0 hn
  have g5 : k'.isInterface = false := by cases hh : k'.isInterface <;> simp [hh] at g4 ⊢
  refine ⟨c, t, h0, g0, ?_⟩
  show Z.vm.assignableAux (255 + 1) c t = false
  simp [Vm.assignableAux, ne, h2, g2, h5, g3, g5, Vm.isSubclass, n3]
theorem own_cp (n N : Nat) (x : Value) (src : List Value) (hsrc : ∀ i, i < n → src.getD i .null = x) : ∀ i, (List.replicate n x).getD i .null = ((List.replicate N Value.null).take 0 ++ ((List.range n).map fun i => src.getD (0 + i) .null) ++ (List.replicate N Value.null).drop (0 + n)).getD i .null := by
  intro i
  simp only [List.take_zero, List.nil_append, Nat.zero_add, List.getD_eq_getElem?_getD]
  by_cases hi : i < n
  · rw [List.getElem?_append_left (by simpa using hi)]
    simp [hi, ← hsrc i hi, List.getD_eq_getElem?_getD]
  · rw [List.getElem?_append_right (by simpa using hi)]
    simp [hi, List.getElem?_replicate]
    split <;> rfl
theorem own_mirEv {Z : State} {C : String} {mr : Addr} (M : Mir Z C mr) (args : Array Value) : (Term.mirror C).eval args Z none [] Z = some (.ref mr) := by
  obtain ⟨c, k, h1, h2, h3, -⟩ := M
  simp [Term.eval, h1, h2, h3]
theorem ef_rec (m : MethodId) (a1 : Addr) : entryFrame m #[(.ref a1)] 1 = mkF m 0 #[.val (.ref a1)] [] := by first | (simp [entryFrame, mkF, argsToLocals, Value.category]; done) | rfl
def Q_rec (Z : State) (a1 : Addr) (h0 : Heap) (n0 : Nat) (v : Option Value) (h : Heap) (L : List Loc) : Prop := v = none ∧ Fr n0 L ∧ h = h0
set_option maxRecDepth 65536 in
set_option maxHeartbeats 40000000 in
theorem rm_rec (l : Launch) (Z : State) (a0 : Array Value) (hw : ∀ d ∈ tables_1, d.before a0 Z = true) (ws : List Jvm.Cond) (a1 : Addr) (h0 : Heap) (n0 : Nat) (O0 : Old Z n0 h0) :
    MetFree l (⟨"java/lang/Record", "<init>", "()V"⟩ : MethodName) (head1 (Jvm.Cond.code (⟨"java/lang/Record", "<init>", "()V"⟩ : MethodName) jdk_30_method_1_code 1 none :: ws) ({ frames := 1, cells := 0, slots := 0, locals := 12 } : Room)) (fun a U => a = #[(.ref a1)] ∧ Z.Warmed39 U.vm ∧ U.heap = h0) (fun _ _ _ _ _ => True) (fun _ U o U' => ∃ v L, o = .returned v ∧ Q_rec Z a1 h0 n0 v U'.heap L ∧ FrameEnd U o U' L ({ frames := 1, cells := 0, slots := 0, locals := 12 } : Room).cells ({ frames := 1, cells := 0, slots := 0, locals := 12 } : Room).slots) := by
  refine MetFree.of_bodySF (plainFor_of_name pn_0) hisR ?_
  intro p e s m args below meth c s₁ Bd hml0 hP hK
  obtain ⟨rfl, hZ, hh⟩ := hP
  have hx := Bd.exec
  have hby := Bd.bytes
  have hml : c.maxLocals = 1 := hml0
  have hown : s.vm.findClass "java/lang/Record" = some m.cls := findClass_of_methodNamed Bd.named
  have hnm := (name_of_methodNamed Bd.named Bd.method).1
  have X0 : Stand p l e ({ frames := 1, cells := 0, slots := 0, locals := 12 } : Room) s m #[(.ref a1)] below meth c s₁ [] 0 0 := Stand.of_body Bd
  have e0 : s₁.heap = h0 := by rw [← hh, Bd.state]; rfl
  have N0 := Fr.nil n0
  have pre0 : ∀ t, Steps p.tables e below (s₁.setTop (mkF m 0 #[.val (.ref a1)] [])) t → Steps p.tables e below (s₁.setTop (entryFrame m #[(.ref a1)] 1)) t := fun t k => castTop (ef_rec m a1) k
  obtain ⟨T101, X101, e101, st101⟩ := initO X0 hx hZ hown (hw _ (List.mem_of_getElem? (i := 11) rfl)) (hw _ (List.mem_of_getElem? (i := 12) rfl)) (hw _ (List.mem_of_getElem? (i := 13) rfl)) e0 (g := (mkF m 1 #[.val (.ref a1)] [(.ref a1)])) rfl (by rw [hml]; rfl) rfl (hb hby d_jdk_30_method_1_1) (by decide) (W := 0) (by show 2 * 0 + _ ≤ _; exact Nat.le_of_eq rfl) (by decide)
  obtain ⟨fs, hr, hrun, hended, hW, hsame⟩ := X101.leave (v := none) (fun _ => rfl)
  refine ⟨_, _, pre0 _ ?_, hrun, hended, _, _, rfl, ?_, ⟨_, rfl⟩, hW, hsame.mono (by decide) (by decide)⟩
  · show Steps p.tables e below (s₁.setTop (mkF m 0 #[.val (.ref a1)] [])) _
    refine XS.aloadN X0.here hx rfl (hb hby d_jdk_30_method_1_0) rfl rfl ?_
    show Steps p.tables e below (s₁.setTop (mkF m 1 #[.val (.ref a1)] [(.ref a1)])) _
    refine st101 _ ?_
    show Steps p.tables e below (T101.setTop (mkF m 4 #[.val (.ref a1)] [])) _
    exact X101.returnOut hx Bd.returns (hb hby d_jdk_30_method_1_4) hr
  · show Q_rec Z a1 h0 n0 _ T101.heap _
    rw [e101]
    exact ⟨rfl, N0, rfl⟩
theorem ef_ac (m : MethodId) (a1 : Addr) : entryFrame m #[(.ref a1)] 1 = mkF m 0 #[.val (.ref a1)] [] := by first | (simp [entryFrame, mkF, argsToLocals, Value.category]; done) | rfl
def Q_ac (Z : State) (a1 : Addr) (h0 : Heap) (n0 : Nat) (v : Option Value) (h : Heap) (L : List Loc) : Prop := v = none ∧ Fr n0 L ∧ h = h0
set_option maxRecDepth 65536 in
set_option maxHeartbeats 40000000 in
theorem rm_ac (l : Launch) (Z : State) (a0 : Array Value) (hw : ∀ d ∈ tables_1, d.before a0 Z = true) (ws : List Jvm.Cond) (a1 : Addr) (h0 : Heap) (n0 : Nat) (O0 : Old Z n0 h0) :
    MetFree l (⟨"java/util/AbstractCollection", "<init>", "()V"⟩ : MethodName) (head1 (Jvm.Cond.code (⟨"java/util/AbstractCollection", "<init>", "()V"⟩ : MethodName) jdk_22_method_1_code 1 none :: ws) ({ frames := 1, cells := 0, slots := 0, locals := 12 } : Room)) (fun a U => a = #[(.ref a1)] ∧ Z.Warmed39 U.vm ∧ U.heap = h0) (fun _ _ _ _ _ => True) (fun _ U o U' => ∃ v L, o = .returned v ∧ Q_ac Z a1 h0 n0 v U'.heap L ∧ FrameEnd U o U' L ({ frames := 1, cells := 0, slots := 0, locals := 12 } : Room).cells ({ frames := 1, cells := 0, slots := 0, locals := 12 } : Room).slots) := by
  refine MetFree.of_bodySF (plainFor_of_name pn_1) hisR ?_
  intro p e s m args below meth c s₁ Bd hml0 hP hK
  obtain ⟨rfl, hZ, hh⟩ := hP
  have hx := Bd.exec
  have hby := Bd.bytes
  have hml : c.maxLocals = 1 := hml0
  have hown : s.vm.findClass "java/util/AbstractCollection" = some m.cls := findClass_of_methodNamed Bd.named
  have hnm := (name_of_methodNamed Bd.named Bd.method).1
  have X0 : Stand p l e ({ frames := 1, cells := 0, slots := 0, locals := 12 } : Room) s m #[(.ref a1)] below meth c s₁ [] 0 0 := Stand.of_body Bd
  have e0 : s₁.heap = h0 := by rw [← hh, Bd.state]; rfl
  have N0 := Fr.nil n0
  have pre0 : ∀ t, Steps p.tables e below (s₁.setTop (mkF m 0 #[.val (.ref a1)] [])) t → Steps p.tables e below (s₁.setTop (entryFrame m #[(.ref a1)] 1)) t := fun t k => castTop (ef_ac m a1) k
  obtain ⟨T101, X101, e101, st101⟩ := initO X0 hx hZ hown (hw _ (List.mem_of_getElem? (i := 44) rfl)) (hw _ (List.mem_of_getElem? (i := 12) rfl)) (hw _ (List.mem_of_getElem? (i := 13) rfl)) e0 (g := (mkF m 1 #[.val (.ref a1)] [(.ref a1)])) rfl (by rw [hml]; rfl) rfl (hb hby d_jdk_22_method_1_1) (by decide) (W := 0) (by show 2 * 0 + _ ≤ _; exact Nat.le_of_eq rfl) (by decide)
  obtain ⟨fs, hr, hrun, hended, hW, hsame⟩ := X101.leave (v := none) (fun _ => rfl)
  refine ⟨_, _, pre0 _ ?_, hrun, hended, _, _, rfl, ?_, ⟨_, rfl⟩, hW, hsame.mono (by decide) (by decide)⟩
  · show Steps p.tables e below (s₁.setTop (mkF m 0 #[.val (.ref a1)] [])) _
    refine XS.aloadN X0.here hx rfl (hb hby d_jdk_22_method_1_0) rfl rfl ?_
    show Steps p.tables e below (s₁.setTop (mkF m 1 #[.val (.ref a1)] [(.ref a1)])) _
    refine st101 _ ?_
    show Steps p.tables e below (T101.setTop (mkF m 4 #[.val (.ref a1)] [])) _
    exact X101.returnOut hx Bd.returns (hb hby d_jdk_22_method_1_4) hr
  · show Q_ac Z a1 h0 n0 _ T101.heap _
    rw [e101]
    exact ⟨rfl, N0, rfl⟩
theorem ef_aic (m : MethodId) (a1 : Addr) : entryFrame m #[(.ref a1)] 1 = mkF m 0 #[.val (.ref a1)] [] := by first | (simp [entryFrame, mkF, argsToLocals, Value.category]; done) | rfl
def Q_aic (Z : State) (a1 : Addr) (h0 : Heap) (n0 : Nat) (v : Option Value) (h : Heap) (L : List Loc) : Prop := v = none ∧ Fr n0 L ∧ h = h0
set_option maxRecDepth 65536 in
set_option maxHeartbeats 40000000 in
theorem rm_aic (l : Launch) (Z : State) (a0 : Array Value) (hw : ∀ d ∈ tables_1, d.before a0 Z = true) (ws : List Jvm.Cond) (a1 : Addr) (h0 : Heap) (n0 : Nat) (O0 : Old Z n0 h0) :
    MetFree l (⟨"java/util/ImmutableCollections$AbstractImmutableCollection", "<init>", "()V"⟩ : MethodName) (head1 (Jvm.Cond.code (⟨"java/util/ImmutableCollections$AbstractImmutableCollection", "<init>", "()V"⟩ : MethodName) jdk_47_method_1_code 1 none :: ws) ({ frames := 2, cells := 0, slots := 0, locals := 24 } : Room)) (fun a U => a = #[(.ref a1)] ∧ Z.Warmed39 U.vm ∧ U.heap = h0) (fun _ _ _ _ _ => True) (fun _ U o U' => ∃ v L, o = .returned v ∧ Q_aic Z a1 h0 n0 v U'.heap L ∧ FrameEnd U o U' L ({ frames := 2, cells := 0, slots := 0, locals := 24 } : Room).cells ({ frames := 2, cells := 0, slots := 0, locals := 24 } : Room).slots) := by
  refine MetFree.of_bodySF (plainFor_of_name pn_2) hisR ?_
  intro p e s m args below meth c s₁ Bd hml0 hP hK
  obtain ⟨rfl, hZ, hh⟩ := hP
  have hx := Bd.exec
  have hby := Bd.bytes
  have hml : c.maxLocals = 1 := hml0
  have hown : s.vm.findClass "java/util/ImmutableCollections$AbstractImmutableCollection" = some m.cls := findClass_of_methodNamed Bd.named
  have hnm := (name_of_methodNamed Bd.named Bd.method).1
  have X0 : Stand p l e ({ frames := 2, cells := 0, slots := 0, locals := 24 } : Room) s m #[(.ref a1)] below meth c s₁ [] 0 0 := Stand.of_body Bd
  have e0 : s₁.heap = h0 := by rw [← hh, Bd.state]; rfl
  have N0 := Fr.nil n0
  have pre0 : ∀ t, Steps p.tables e below (s₁.setTop (mkF m 0 #[.val (.ref a1)] [])) t → Steps p.tables e below (s₁.setTop (entryFrame m #[(.ref a1)] 1)) t := fun t k => castTop (ef_aic m a1) k
  obtain ⟨_, _, ⟨T101, L101, k101, n101⟩, -, X101, ⟨Lc101, hQ101, l101, y101, z101⟩, st101⟩ := X0.specialBack hx (y := (⟨"java/util/AbstractCollection", "<init>", "()V"⟩ : MethodName)) rfl hown (mvT hZ (hw _ (List.mem_of_getElem? (i := 188) rfl))) (mvT hZ (hw _ (List.mem_of_getElem? (i := 39) rfl))) (mvT hZ (hw _ (List.mem_of_getElem? (i := 43) rfl))) (by decide) (backOf (W := 0) (rm_ac l Z a0 hw [] a1 h0 n0 O0 ) hZ (hw _ (List.mem_of_getElem? (i := 43) rfl)) (hw _ (List.mem_of_getElem? (i := 42) rfl)) (by decide) (by decide)) (g := (mkF m 1 #[.val (.ref a1)] [(.ref a1)])) rfl (by rw [hml]; rfl) (Steps.refl _) (a := a1) (argsL := []) (rest := []) (lenOf pd_0 rfl) rfl (by show 2 * 0 + _ ≤ _; exact Nat.le_of_eq rfl) (hb hby d_jdk_47_method_1_1) (fun _ _ => ⟨rfl, e0, (by decide : 0 + 0 ≤ _), (by decide : 0 + 0 ≤ _)⟩)
  dsimp only [Pt.U, Pt.locs, Pt.cells, Pt.slots] at X101 l101 y101 z101 st101 hQ101
  subst l101 y101 z101
  obtain ⟨rfl, Nq101, e101⟩ := hQ101
  have N101 := Fr.app N0 Nq101
  obtain ⟨fs, hr, hrun, hended, hW, hsame⟩ := X101.leave (v := none) (fun _ => rfl)
  refine ⟨_, _, pre0 _ ?_, hrun, hended, _, _, rfl, ?_, ⟨_, rfl⟩, hW, hsame.mono (by decide) (by decide)⟩
  · show Steps p.tables e below (s₁.setTop (mkF m 0 #[.val (.ref a1)] [])) _
    refine XS.aloadN X0.here hx rfl (hb hby d_jdk_47_method_1_0) rfl rfl ?_
    show Steps p.tables e below (s₁.setTop (mkF m 1 #[.val (.ref a1)] [(.ref a1)])) _
    refine st101.trans ?_
    show Steps p.tables e below (T101.setTop (mkF m 4 #[.val (.ref a1)] [])) _
    exact X101.returnOut hx Bd.returns (hb hby d_jdk_47_method_1_4) hr
  · show Q_aic Z a1 h0 n0 _ T101.heap _
    rw [e101]
    exact ⟨rfl, N101, rfl⟩
theorem ef_ail (m : MethodId) (a1 : Addr) : entryFrame m #[(.ref a1)] 1 = mkF m 0 #[.val (.ref a1)] [] := by first | (simp [entryFrame, mkF, argsToLocals, Value.category]; done) | rfl
def Q_ail (Z : State) (a1 : Addr) (h0 : Heap) (n0 : Nat) (v : Option Value) (h : Heap) (L : List Loc) : Prop := v = none ∧ Fr n0 L ∧ h = h0
set_option maxRecDepth 65536 in
set_option maxHeartbeats 40000000 in
theorem rm_ail (l : Launch) (Z : State) (a0 : Array Value) (hw : ∀ d ∈ tables_1, d.before a0 Z = true) (ws : List Jvm.Cond) (a1 : Addr) (h0 : Heap) (n0 : Nat) (O0 : Old Z n0 h0) :
    MetFree l (⟨"java/util/ImmutableCollections$AbstractImmutableList", "<init>", "()V"⟩ : MethodName) (head1 (Jvm.Cond.code (⟨"java/util/ImmutableCollections$AbstractImmutableList", "<init>", "()V"⟩ : MethodName) jdk_46_method_1_code 1 none :: ws) ({ frames := 3, cells := 0, slots := 0, locals := 36 } : Room)) (fun a U => a = #[(.ref a1)] ∧ Z.Warmed39 U.vm ∧ U.heap = h0) (fun _ _ _ _ _ => True) (fun _ U o U' => ∃ v L, o = .returned v ∧ Q_ail Z a1 h0 n0 v U'.heap L ∧ FrameEnd U o U' L ({ frames := 3, cells := 0, slots := 0, locals := 36 } : Room).cells ({ frames := 3, cells := 0, slots := 0, locals := 36 } : Room).slots) := by
  refine MetFree.of_bodySF (plainFor_of_name pn_3) hisR ?_
  intro p e s m args below meth c s₁ Bd hml0 hP hK
  obtain ⟨rfl, hZ, hh⟩ := hP
  have hx := Bd.exec
  have hby := Bd.bytes
  have hml : c.maxLocals = 1 := hml0
  have hown : s.vm.findClass "java/util/ImmutableCollections$AbstractImmutableList" = some m.cls := findClass_of_methodNamed Bd.named
  have hnm := (name_of_methodNamed Bd.named Bd.method).1
  have X0 : Stand p l e ({ frames := 3, cells := 0, slots := 0, locals := 36 } : Room) s m #[(.ref a1)] below meth c s₁ [] 0 0 := Stand.of_body Bd
  have e0 : s₁.heap = h0 := by rw [← hh, Bd.state]; rfl
  have N0 := Fr.nil n0
  have pre0 : ∀ t, Steps p.tables e below (s₁.setTop (mkF m 0 #[.val (.ref a1)] [])) t → Steps p.tables e below (s₁.setTop (entryFrame m #[(.ref a1)] 1)) t := fun t k => castTop (ef_ail m a1) k
  obtain ⟨_, _, ⟨T101, L101, k101, n101⟩, -, X101, ⟨Lc101, hQ101, l101, y101, z101⟩, st101⟩ := X0.specialBack hx (y := (⟨"java/util/ImmutableCollections$AbstractImmutableCollection", "<init>", "()V"⟩ : MethodName)) rfl hown (mvT hZ (hw _ (List.mem_of_getElem? (i := 182) rfl))) (mvT hZ (hw _ (List.mem_of_getElem? (i := 183) rfl))) (mvT hZ (hw _ (List.mem_of_getElem? (i := 187) rfl))) (by decide) (backOf (W := 0) (rm_aic l Z a0 hw [] a1 h0 n0 O0 ) hZ (hw _ (List.mem_of_getElem? (i := 187) rfl)) (hw _ (List.mem_of_getElem? (i := 186) rfl)) (by decide) (by decide)) (g := (mkF m 1 #[.val (.ref a1)] [(.ref a1)])) rfl (by rw [hml]; rfl) (Steps.refl _) (a := a1) (argsL := []) (rest := []) (lenOf pd_0 rfl) rfl (by show 2 * 0 + _ ≤ _; exact Nat.le_of_eq rfl) (hb hby d_jdk_46_method_1_1) (fun _ _ => ⟨rfl, e0, (by decide : 0 + 0 ≤ _), (by decide : 0 + 0 ≤ _)⟩)
  dsimp only [Pt.U, Pt.locs, Pt.cells, Pt.slots] at X101 l101 y101 z101 st101 hQ101
  subst l101 y101 z101
  obtain ⟨rfl, Nq101, e101⟩ := hQ101
  have N101 := Fr.app N0 Nq101
  obtain ⟨fs, hr, hrun, hended, hW, hsame⟩ := X101.leave (v := none) (fun _ => rfl)
  refine ⟨_, _, pre0 _ ?_, hrun, hended, _, _, rfl, ?_, ⟨_, rfl⟩, hW, hsame.mono (by decide) (by decide)⟩
  · show Steps p.tables e below (s₁.setTop (mkF m 0 #[.val (.ref a1)] [])) _
    refine XS.aloadN X0.here hx rfl (hb hby d_jdk_46_method_1_0) rfl rfl ?_
    show Steps p.tables e below (s₁.setTop (mkF m 1 #[.val (.ref a1)] [(.ref a1)])) _
    refine st101.trans ?_
    show Steps p.tables e below (T101.setTop (mkF m 4 #[.val (.ref a1)] [])) _
    exact X101.returnOut hx Bd.returns (hb hby d_jdk_46_method_1_4) hr
  · show Q_ail Z a1 h0 n0 _ T101.heap _
    rw [e101]
    exact ⟨rfl, N101, rfl⟩
theorem ef_nd (m : MethodId) (a1 : Addr) (d1 : UInt64) (d2 : UInt64) (d3 : UInt64) (p4 : Int32) (d5 : UInt64) (d6 : UInt64) : entryFrame m #[(.ref a1), (.double d1), (.double d2), (.double d3), (.int p4), (.double d5), (.double d6)] 12 = mkF m 0 #[.val (.ref a1), .val (.double d1), .second, .val (.double d2), .second, .val (.double d3), .second, .val (.int p4), .val (.double d5), .second, .val (.double d6), .second] [] := by first | (simp [entryFrame, mkF, argsToLocals, Value.category]; done) | rfl
def Q_nd (Z : State) (a1 : Addr) (d1 : UInt64) (d2 : UInt64) (d3 : UInt64) (p4 : Int32) (d5 : UInt64) (d6 : UInt64) (u0 : Value) (u1 : Value) (u2 : Value) (u3 : Value) (u4 : Value) (u5 : Value) (h0 : Heap) (n0 : Nat) (v : Option Value) (h : Heap) (L : List Loc) : Prop := v = none ∧ Fr n0 L ∧ Keep h0 h [a1] ∧ Exa Z h a1 "com/example/jitney/jitney/Instance$Node"
set_option maxRecDepth 65536 in
set_option maxHeartbeats 40000000 in
theorem rm_nd (l : Launch) (Z : State) (a0 : Array Value) (hw : ∀ d ∈ tables_1, d.before a0 Z = true) (ws : List Jvm.Cond) (a1 : Addr) (d1 : UInt64) (d2 : UInt64) (d3 : UInt64) (p4 : Int32) (d5 : UInt64) (d6 : UInt64) (u0 : Value) (u1 : Value) (u2 : Value) (u3 : Value) (u4 : Value) (u5 : Value) (h0 : Heap) (n0 : Nat) (O0 : Old Z n0 h0) (E1 : Exa Z h0 a1 "com/example/jitney/jitney/Instance$Node") (F0 : Fld Z h0 a1 "com/example/jitney/jitney/Instance$Node" "x" "D" u0) (F1 : Fld Z h0 a1 "com/example/jitney/jitney/Instance$Node" "y" "D" u1) (F2 : Fld Z h0 a1 "com/example/jitney/jitney/Instance$Node" "service" "D" u2) (F3 : Fld Z h0 a1 "com/example/jitney/jitney/Instance$Node" "load" "I" u3) (F4 : Fld Z h0 a1 "com/example/jitney/jitney/Instance$Node" "earliest" "D" u4) (F5 : Fld Z h0 a1 "com/example/jitney/jitney/Instance$Node" "latest" "D" u5) (g1 : n0 ≤ a1) :
    MetFree l (⟨"com/example/jitney/jitney/Instance$Node", "<init>", "(DDDIDD)V"⟩ : MethodName) (head1 (Jvm.Cond.code (⟨"com/example/jitney/jitney/Instance$Node", "<init>", "(DDDIDD)V"⟩ : MethodName) prog_6_method_1_code 12 none :: ws) ({ frames := 2, cells := 0, slots := 0, locals := 24 } : Room)) (fun a U => a = #[(.ref a1), (.double d1), (.double d2), (.double d3), (.int p4), (.double d5), (.double d6)] ∧ Z.Warmed39 U.vm ∧ U.heap = h0) (fun _ _ _ _ _ => True) (fun _ U o U' => ∃ v L, o = .returned v ∧ Q_nd Z a1 d1 d2 d3 p4 d5 d6 u0 u1 u2 u3 u4 u5 h0 n0 v U'.heap L ∧ FrameEnd U o U' L ({ frames := 2, cells := 0, slots := 0, locals := 24 } : Room).cells ({ frames := 2, cells := 0, slots := 0, locals := 24 } : Room).slots) := by
  refine MetFree.of_bodySF (plainFor_of_name pn_4) hisR ?_
  intro p e s m args below meth c s₁ Bd hml0 hP hK
  obtain ⟨rfl, hZ, hh⟩ := hP
  have hx := Bd.exec
  have hby := Bd.bytes
  have hml : c.maxLocals = 12 := hml0
  have hown : s.vm.findClass "com/example/jitney/jitney/Instance$Node" = some m.cls := findClass_of_methodNamed Bd.named
  have hnm := (name_of_methodNamed Bd.named Bd.method).1
  have X0 : Stand p l e ({ frames := 2, cells := 0, slots := 0, locals := 24 } : Room) s m #[(.ref a1), (.double d1), (.double d2), (.double d3), (.int p4), (.double d5), (.double d6)] below meth c s₁ [] 0 0 := Stand.of_body Bd
  have e0 : s₁.heap = h0 := by rw [← hh, Bd.state]; rfl
  have N0 := Fr.nil n0
  have K0 : Keep h0 h0 [a1] := Keep.refl _ _
  have pre0 : ∀ t, Steps p.tables e below (s₁.setTop (mkF m 0 #[.val (.ref a1), .val (.double d1), .second, .val (.double d2), .second, .val (.double d3), .second, .val (.int p4), .val (.double d5), .second, .val (.double d6), .second] [])) t → Steps p.tables e below (s₁.setTop (entryFrame m #[(.ref a1), (.double d1), (.double d2), (.double d3), (.int p4), (.double d5), (.double d6)] 12)) t := fun t k => castTop (ef_nd m a1 d1 d2 d3 p4 d5 d6) k
  obtain ⟨_, _, ⟨T101, L101, k101, n101⟩, -, X101, ⟨Lc101, hQ101, l101, y101, z101⟩, st101⟩ := X0.specialBack hx (y := (⟨"java/lang/Record", "<init>", "()V"⟩ : MethodName)) rfl hown (mvT hZ (hw _ (List.mem_of_getElem? (i := 6) rfl))) (mvT hZ (hw _ (List.mem_of_getElem? (i := 7) rfl))) (mvT hZ (hw _ (List.mem_of_getElem? (i := 10) rfl))) (by decide) (backOf (W := 0) (rm_rec l Z a0 hw [] a1 h0 n0 O0 ) hZ (hw _ (List.mem_of_getElem? (i := 10) rfl)) (hw _ (List.mem_of_getElem? (i := 9) rfl)) (by decide) (by decide)) (g := (mkF m 1 #[.val (.ref a1), .val (.double d1), .second, .val (.double d2), .second, .val (.double d3), .second, .val (.int p4), .val (.double d5), .second, .val (.double d6), .second] [(.ref a1)])) rfl (by rw [hml]; rfl) (Steps.refl _) (a := a1) (argsL := []) (rest := []) (lenOf pd_0 rfl) rfl (by show 2 * 0 + _ ≤ _; exact Nat.le_of_eq rfl) (hb hby d_prog_6_method_1_1) (fun _ _ => ⟨rfl, e0, (by decide : 0 + 0 ≤ _), (by decide : 0 + 0 ≤ _)⟩)
  dsimp only [Pt.U, Pt.locs, Pt.cells, Pt.slots] at X101 l101 y101 z101 st101 hQ101
  subst l101 y101 z101
  obtain ⟨rfl, Nq101, e101⟩ := hQ101
  have N101 := Fr.app N0 Nq101
  obtain ⟨T102, h102, X102, e102, W102, st102⟩ := putF X101 hx hZ hown (host := "") (Or.inl (hw _ (List.mem_of_getElem? (i := 14) rfl))) Via.refl e101 F0 E1 (Or.inr ⟨(hw _ (List.mem_of_getElem? (i := 15) rfl)), rfl, hnm⟩) (hw _ (List.mem_of_getElem? (i := 1) rfl)) (ty := .double) (by decide) rfl rfl (g := (mkF m 6 #[.val (.ref a1), .val (.double d1), .second, .val (.double d2), .second, .val (.double d3), .second, .val (.int p4), .val (.double d5), .second, .val (.double d6), .second] [(.double d1), (.ref a1)])) rfl rfl (hb hby d_prog_6_method_1_6)
  have F102 := F0.same W102
  have N102 := Fr.snoc X102 N101 g1
  have O102 := O0.wr W102 g1
  have K102 := K0.wr W102 (Or.inl (List.mem_of_getElem? (i := 0) rfl))
  have f103 := (E1.wr W102)
  have f104 := (F1.other W102 (Or.inr (slot_ne (Or.inr (hw _ (List.mem_of_getElem? (i := 17) rfl))) (Or.inr (hw _ (List.mem_of_getElem? (i := 15) rfl))) (by decide) (t := .double) (t' := .double) (by decide) (by decide))))
  obtain ⟨T105, h105, X105, e105, W105, st105⟩ := putF X102 hx hZ hown (host := "") (Or.inl (hw _ (List.mem_of_getElem? (i := 16) rfl))) Via.refl e102 f104 f103 (Or.inr ⟨(hw _ (List.mem_of_getElem? (i := 17) rfl)), rfl, hnm⟩) (hw _ (List.mem_of_getElem? (i := 1) rfl)) (ty := .double) (by decide) rfl rfl (g := (mkF m 11 #[.val (.ref a1), .val (.double d1), .second, .val (.double d2), .second, .val (.double d3), .second, .val (.int p4), .val (.double d5), .second, .val (.double d6), .second] [(.double d2), (.ref a1)])) rfl rfl (hb hby d_prog_6_method_1_11)
  have F105 := f104.same W105
  have N105 := Fr.snoc X105 N102 g1
  have O105 := O102.wr W105 g1
  have K105 := K102.wr W105 (Or.inl (List.mem_of_getElem? (i := 0) rfl))
  have f106 := (f103.wr W105)
  have f107 := ((F2.other W102 (Or.inr (slot_ne (Or.inr (hw _ (List.mem_of_getElem? (i := 19) rfl))) (Or.inr (hw _ (List.mem_of_getElem? (i := 15) rfl))) (by decide) (t := .double) (t' := .double) (by decide) (by decide)))).other W105 (Or.inr (slot_ne (Or.inr (hw _ (List.mem_of_getElem? (i := 19) rfl))) (Or.inr (hw _ (List.mem_of_getElem? (i := 17) rfl))) (by decide) (t := .double) (t' := .double) (by decide) (by decide))))
  obtain ⟨T108, h108, X108, e108, W108, st108⟩ := putF X105 hx hZ hown (host := "") (Or.inl (hw _ (List.mem_of_getElem? (i := 18) rfl))) Via.refl e105 f107 f106 (Or.inr ⟨(hw _ (List.mem_of_getElem? (i := 19) rfl)), rfl, hnm⟩) (hw _ (List.mem_of_getElem? (i := 1) rfl)) (ty := .double) (by decide) rfl rfl (g := (mkF m 17 #[.val (.ref a1), .val (.double d1), .second, .val (.double d2), .second, .val (.double d3), .second, .val (.int p4), .val (.double d5), .second, .val (.double d6), .second] [(.double d3), (.ref a1)])) rfl rfl (hb hby d_prog_6_method_1_17)
  have F108 := f107.same W108
  have N108 := Fr.snoc X108 N105 g1
  have O108 := O105.wr W108 g1
  have K108 := K105.wr W108 (Or.inl (List.mem_of_getElem? (i := 0) rfl))
  have f109 := (f106.wr W108)
  have f110 := (((F3.other W102 (Or.inr (slot_ne (Or.inr (hw _ (List.mem_of_getElem? (i := 21) rfl))) (Or.inr (hw _ (List.mem_of_getElem? (i := 15) rfl))) (by decide) (t := .int) (t' := .double) (by decide) (by decide)))).other W105 (Or.inr (slot_ne (Or.inr (hw _ (List.mem_of_getElem? (i := 21) rfl))) (Or.inr (hw _ (List.mem_of_getElem? (i := 17) rfl))) (by decide) (t := .int) (t' := .double) (by decide) (by decide)))).other W108 (Or.inr (slot_ne (Or.inr (hw _ (List.mem_of_getElem? (i := 21) rfl))) (Or.inr (hw _ (List.mem_of_getElem? (i := 19) rfl))) (by decide) (t := .int) (t' := .double) (by decide) (by decide))))
  obtain ⟨T111, h111, X111, e111, W111, st111⟩ := putF X108 hx hZ hown (host := "") (Or.inl (hw _ (List.mem_of_getElem? (i := 20) rfl))) Via.refl e108 f110 f109 (Or.inr ⟨(hw _ (List.mem_of_getElem? (i := 21) rfl)), rfl, hnm⟩) (hw _ (List.mem_of_getElem? (i := 1) rfl)) (ty := .int) (by decide) rfl rfl (g := (mkF m 23 #[.val (.ref a1), .val (.double d1), .second, .val (.double d2), .second, .val (.double d3), .second, .val (.int p4), .val (.double d5), .second, .val (.double d6), .second] [(.int p4), (.ref a1)])) rfl rfl (hb hby d_prog_6_method_1_23)
  have F111 := f110.same W111
  have N111 := Fr.snoc X111 N108 g1
  have O111 := O108.wr W111 g1
  have K111 := K108.wr W111 (Or.inl (List.mem_of_getElem? (i := 0) rfl))
  have f112 := (f109.wr W111)
  have f113 := ((((F4.other W102 (Or.inr (slot_ne (Or.inr (hw _ (List.mem_of_getElem? (i := 23) rfl))) (Or.inr (hw _ (List.mem_of_getElem? (i := 15) rfl))) (by decide) (t := .double) (t' := .double) (by decide) (by decide)))).other W105 (Or.inr (slot_ne (Or.inr (hw _ (List.mem_of_getElem? (i := 23) rfl))) (Or.inr (hw _ (List.mem_of_getElem? (i := 17) rfl))) (by decide) (t := .double) (t' := .double) (by decide) (by decide)))).other W108 (Or.inr (slot_ne (Or.inr (hw _ (List.mem_of_getElem? (i := 23) rfl))) (Or.inr (hw _ (List.mem_of_getElem? (i := 19) rfl))) (by decide) (t := .double) (t' := .double) (by decide) (by decide)))).other W111 (Or.inr (slot_ne (Or.inr (hw _ (List.mem_of_getElem? (i := 23) rfl))) (Or.inr (hw _ (List.mem_of_getElem? (i := 21) rfl))) (by decide) (t := .double) (t' := .int) (by decide) (by decide))))
  obtain ⟨T114, h114, X114, e114, W114, st114⟩ := putF X111 hx hZ hown (host := "") (Or.inl (hw _ (List.mem_of_getElem? (i := 22) rfl))) Via.refl e111 f113 f112 (Or.inr ⟨(hw _ (List.mem_of_getElem? (i := 23) rfl)), rfl, hnm⟩) (hw _ (List.mem_of_getElem? (i := 1) rfl)) (ty := .double) (by decide) rfl rfl (g := (mkF m 29 #[.val (.ref a1), .val (.double d1), .second, .val (.double d2), .second, .val (.double d3), .second, .val (.int p4), .val (.double d5), .second, .val (.double d6), .second] [(.double d5), (.ref a1)])) rfl rfl (hb hby d_prog_6_method_1_29)
  have F114 := f113.same W114
  have N114 := Fr.snoc X114 N111 g1
  have O114 := O111.wr W114 g1
  have K114 := K111.wr W114 (Or.inl (List.mem_of_getElem? (i := 0) rfl))
  have f115 := (f112.wr W114)
  have f116 := (((((F5.other W102 (Or.inr (slot_ne (Or.inr (hw _ (List.mem_of_getElem? (i := 25) rfl))) (Or.inr (hw _ (List.mem_of_getElem? (i := 15) rfl))) (by decide) (t := .double) (t' := .double) (by decide) (by decide)))).other W105 (Or.inr (slot_ne (Or.inr (hw _ (List.mem_of_getElem? (i := 25) rfl))) (Or.inr (hw _ (List.mem_of_getElem? (i := 17) rfl))) (by decide) (t := .double) (t' := .double) (by decide) (by decide)))).other W108 (Or.inr (slot_ne (Or.inr (hw _ (List.mem_of_getElem? (i := 25) rfl))) (Or.inr (hw _ (List.mem_of_getElem? (i := 19) rfl))) (by decide) (t := .double) (t' := .double) (by decide) (by decide)))).other W111 (Or.inr (slot_ne (Or.inr (hw _ (List.mem_of_getElem? (i := 25) rfl))) (Or.inr (hw _ (List.mem_of_getElem? (i := 21) rfl))) (by decide) (t := .double) (t' := .int) (by decide) (by decide)))).other W114 (Or.inr (slot_ne (Or.inr (hw _ (List.mem_of_getElem? (i := 25) rfl))) (Or.inr (hw _ (List.mem_of_getElem? (i := 23) rfl))) (by decide) (t := .double) (t' := .double) (by decide) (by decide))))
  obtain ⟨T117, h117, X117, e117, W117, st117⟩ := putF X114 hx hZ hown (host := "") (Or.inl (hw _ (List.mem_of_getElem? (i := 24) rfl))) Via.refl e114 f116 f115 (Or.inr ⟨(hw _ (List.mem_of_getElem? (i := 25) rfl)), rfl, hnm⟩) (hw _ (List.mem_of_getElem? (i := 1) rfl)) (ty := .double) (by decide) rfl rfl (g := (mkF m 35 #[.val (.ref a1), .val (.double d1), .second, .val (.double d2), .second, .val (.double d3), .second, .val (.int p4), .val (.double d5), .second, .val (.double d6), .second] [(.double d6), (.ref a1)])) rfl rfl (hb hby d_prog_6_method_1_35)
  have F117 := f116.same W117
  have N117 := Fr.snoc X117 N114 g1
  have O117 := O114.wr W117 g1
  have K117 := K114.wr W117 (Or.inl (List.mem_of_getElem? (i := 0) rfl))
  have f118 := (f115.wr W117)
  obtain ⟨fs, hr, hrun, hended, hW, hsame⟩ := X117.leave (v := none) (fun _ => rfl)
  refine ⟨_, _, pre0 _ ?_, hrun, hended, _, _, rfl, ?_, ⟨_, rfl⟩, hW, hsame.mono (by decide) (by decide)⟩
  · show Steps p.tables e below (s₁.setTop (mkF m 0 #[.val (.ref a1), .val (.double d1), .second, .val (.double d2), .second, .val (.double d3), .second, .val (.int p4), .val (.double d5), .second, .val (.double d6), .second] [])) _
    refine XS.aloadN X0.here hx rfl (hb hby d_prog_6_method_1_0) rfl rfl ?_
    show Steps p.tables e below (s₁.setTop (mkF m 1 #[.val (.ref a1), .val (.double d1), .second, .val (.double d2), .second, .val (.double d3), .second, .val (.int p4), .val (.double d5), .second, .val (.double d6), .second] [(.ref a1)])) _
    refine st101.trans ?_
    show Steps p.tables e below (T101.setTop (mkF m 4 #[.val (.ref a1), .val (.double d1), .second, .val (.double d2), .second, .val (.double d3), .second, .val (.int p4), .val (.double d5), .second, .val (.double d6), .second] [])) _
    refine XS.aloadN X101.here hx rfl (hb hby d_prog_6_method_1_4) rfl rfl ?_
    refine XS.dloadN X101.here hx rfl (hb hby d_prog_6_method_1_5) rfl ?_
    show Steps p.tables e below (T101.setTop (mkF m 6 #[.val (.ref a1), .val (.double d1), .second, .val (.double d2), .second, .val (.double d3), .second, .val (.int p4), .val (.double d5), .second, .val (.double d6), .second] [(.double d1), (.ref a1)])) _
    refine st102 _ ?_
    show Steps p.tables e below (T102.setTop (mkF m 9 #[.val (.ref a1), .val (.double d1), .second, .val (.double d2), .second, .val (.double d3), .second, .val (.int p4), .val (.double d5), .second, .val (.double d6), .second] [])) _
    refine XS.aloadN X102.here hx rfl (hb hby d_prog_6_method_1_9) rfl rfl ?_
    refine XS.dloadN X102.here hx rfl (hb hby d_prog_6_method_1_10) rfl ?_
    show Steps p.tables e below (T102.setTop (mkF m 11 #[.val (.ref a1), .val (.double d1), .second, .val (.double d2), .second, .val (.double d3), .second, .val (.int p4), .val (.double d5), .second, .val (.double d6), .second] [(.double d2), (.ref a1)])) _
    refine st105 _ ?_
    show Steps p.tables e below (T105.setTop (mkF m 14 #[.val (.ref a1), .val (.double d1), .second, .val (.double d2), .second, .val (.double d3), .second, .val (.int p4), .val (.double d5), .second, .val (.double d6), .second] [])) _
    refine XS.aloadN X105.here hx rfl (hb hby d_prog_6_method_1_14) rfl rfl ?_
    refine XS.dload X105.here hx rfl (hb hby d_prog_6_method_1_15) rfl ?_
    show Steps p.tables e below (T105.setTop (mkF m 17 #[.val (.ref a1), .val (.double d1), .second, .val (.double d2), .second, .val (.double d3), .second, .val (.int p4), .val (.double d5), .second, .val (.double d6), .second] [(.double d3), (.ref a1)])) _
    refine st108 _ ?_
    show Steps p.tables e below (T108.setTop (mkF m 20 #[.val (.ref a1), .val (.double d1), .second, .val (.double d2), .second, .val (.double d3), .second, .val (.int p4), .val (.double d5), .second, .val (.double d6), .second] [])) _
    refine XS.aloadN X108.here hx rfl (hb hby d_prog_6_method_1_20) rfl rfl ?_
    refine XS.iload X108.here hx rfl (hb hby d_prog_6_method_1_21) rfl ?_
    show Steps p.tables e below (T108.setTop (mkF m 23 #[.val (.ref a1), .val (.double d1), .second, .val (.double d2), .second, .val (.double d3), .second, .val (.int p4), .val (.double d5), .second, .val (.double d6), .second] [(.int p4), (.ref a1)])) _
    refine st111 _ ?_
    show Steps p.tables e below (T111.setTop (mkF m 26 #[.val (.ref a1), .val (.double d1), .second, .val (.double d2), .second, .val (.double d3), .second, .val (.int p4), .val (.double d5), .second, .val (.double d6), .second] [])) _
    refine XS.aloadN X111.here hx rfl (hb hby d_prog_6_method_1_26) rfl rfl ?_
    refine XS.dload X111.here hx rfl (hb hby d_prog_6_method_1_27) rfl ?_
    show Steps p.tables e below (T111.setTop (mkF m 29 #[.val (.ref a1), .val (.double d1), .second, .val (.double d2), .second, .val (.double d3), .second, .val (.int p4), .val (.double d5), .second, .val (.double d6), .second] [(.double d5), (.ref a1)])) _
    refine st114 _ ?_
    show Steps p.tables e below (T114.setTop (mkF m 32 #[.val (.ref a1), .val (.double d1), .second, .val (.double d2), .second, .val (.double d3), .second, .val (.int p4), .val (.double d5), .second, .val (.double d6), .second] [])) _
    refine XS.aloadN X114.here hx rfl (hb hby d_prog_6_method_1_32) rfl rfl ?_
    refine XS.dload X114.here hx rfl (hb hby d_prog_6_method_1_33) rfl ?_
    show Steps p.tables e below (T114.setTop (mkF m 35 #[.val (.ref a1), .val (.double d1), .second, .val (.double d2), .second, .val (.double d3), .second, .val (.int p4), .val (.double d5), .second, .val (.double d6), .second] [(.double d6), (.ref a1)])) _
    refine st117 _ ?_
    show Steps p.tables e below (T117.setTop (mkF m 38 #[.val (.ref a1), .val (.double d1), .second, .val (.double d2), .second, .val (.double d3), .second, .val (.int p4), .val (.double d5), .second, .val (.double d6), .second] [])) _
    exact X117.returnOut hx Bd.returns (hb hby d_prog_6_method_1_38) hr
  · show Q_nd Z a1 d1 d2 d3 p4 d5 d6 u0 u1 u2 u3 u4 u5 h0 n0 _ T117.heap _
    rw [e117]
    exact ⟨rfl, N117, K117, f118⟩
theorem ef_abl (m : MethodId) (a1 : Addr) : entryFrame m #[(.ref a1)] 1 = mkF m 0 #[.val (.ref a1)] [] := by first | (simp [entryFrame, mkF, argsToLocals, Value.category]; done) | rfl
def Q_abl (Z : State) (a1 : Addr) (u1 : Value) (u2 : Value) (u3 : Value) (h0 : Heap) (n0 : Nat) (v : Option Value) (h : Heap) (L : List Loc) : Prop := v = none ∧ Fr n0 L ∧ Keep h0 h [a1] ∧ Exa Z h a1 "java/util/ArrayList" ∧ Fld Z h a1 "java/util/AbstractList" "modCount" "I" (.int (0 : Int32)) ∧ Fld Z h a1 "java/util/ArrayList" "elementData" "[Ljava/lang/Object;" u2 ∧ Fld Z h a1 "java/util/ArrayList" "size" "I" u3
set_option maxRecDepth 65536 in
set_option maxHeartbeats 40000000 in
theorem rm_abl (l : Launch) (Z : State) (a0 : Array Value) (hw : ∀ d ∈ tables_1, d.before a0 Z = true) (ws : List Jvm.Cond) (a1 : Addr) (u1 : Value) (u2 : Value) (u3 : Value) (h0 : Heap) (n0 : Nat) (O0 : Old Z n0 h0) (E1 : Exa Z h0 a1 "java/util/ArrayList") (F_modCount : Fld Z h0 a1 "java/util/AbstractList" "modCount" "I" u1) (F_elementData : Fld Z h0 a1 "java/util/ArrayList" "elementData" "[Ljava/lang/Object;" u2) (F_size : Fld Z h0 a1 "java/util/ArrayList" "size" "I" u3) (g1 : n0 ≤ a1) :
    MetFree l (⟨"java/util/AbstractList", "<init>", "()V"⟩ : MethodName) (head1 (Jvm.Cond.code (⟨"java/util/AbstractList", "<init>", "()V"⟩ : MethodName) jdk_39_method_1_code 1 none :: ws) ({ frames := 2, cells := 0, slots := 0, locals := 24 } : Room)) (fun a U => a = #[(.ref a1)] ∧ Z.Warmed39 U.vm ∧ U.heap = h0) (fun _ _ _ _ _ => True) (fun _ U o U' => ∃ v L, o = .returned v ∧ Q_abl Z a1 u1 u2 u3 h0 n0 v U'.heap L ∧ FrameEnd U o U' L ({ frames := 2, cells := 0, slots := 0, locals := 24 } : Room).cells ({ frames := 2, cells := 0, slots := 0, locals := 24 } : Room).slots) := by
  refine MetFree.of_bodySF (plainFor_of_name pn_5) hisR ?_
  intro p e s m args below meth c s₁ Bd hml0 hP hK
  obtain ⟨rfl, hZ, hh⟩ := hP
  have hx := Bd.exec
  have hby := Bd.bytes
  have hml : c.maxLocals = 1 := hml0
  have hown : s.vm.findClass "java/util/AbstractList" = some m.cls := findClass_of_methodNamed Bd.named
  have hnm := (name_of_methodNamed Bd.named Bd.method).1
  have X0 : Stand p l e ({ frames := 2, cells := 0, slots := 0, locals := 24 } : Room) s m #[(.ref a1)] below meth c s₁ [] 0 0 := Stand.of_body Bd
  have e0 : s₁.heap = h0 := by rw [← hh, Bd.state]; rfl
  have N0 := Fr.nil n0
  have K0 : Keep h0 h0 [a1] := Keep.refl _ _
  have pre0 : ∀ t, Steps p.tables e below (s₁.setTop (mkF m 0 #[.val (.ref a1)] [])) t → Steps p.tables e below (s₁.setTop (entryFrame m #[(.ref a1)] 1)) t := fun t k => castTop (ef_abl m a1) k
  obtain ⟨_, _, ⟨T101, L101, k101, n101⟩, -, X101, ⟨Lc101, hQ101, l101, y101, z101⟩, st101⟩ := X0.specialBack hx (y := (⟨"java/util/AbstractCollection", "<init>", "()V"⟩ : MethodName)) rfl hown (mvT hZ (hw _ (List.mem_of_getElem? (i := 38) rfl))) (mvT hZ (hw _ (List.mem_of_getElem? (i := 39) rfl))) (mvT hZ (hw _ (List.mem_of_getElem? (i := 43) rfl))) (by decide) (backOf (W := 0) (rm_ac l Z a0 hw [] a1 h0 n0 O0 ) hZ (hw _ (List.mem_of_getElem? (i := 43) rfl)) (hw _ (List.mem_of_getElem? (i := 42) rfl)) (by decide) (by decide)) (g := (mkF m 1 #[.val (.ref a1)] [(.ref a1)])) rfl (by rw [hml]; rfl) (Steps.refl _) (a := a1) (argsL := []) (rest := []) (lenOf pd_0 rfl) rfl (by show 2 * 0 + _ ≤ _; exact Nat.le_of_eq rfl) (hb hby d_jdk_39_method_1_1) (fun _ _ => ⟨rfl, e0, (by decide : 0 + 0 ≤ _), (by decide : 0 + 0 ≤ _)⟩)
  dsimp only [Pt.U, Pt.locs, Pt.cells, Pt.slots] at X101 l101 y101 z101 st101 hQ101
  subst l101 y101 z101
  obtain ⟨rfl, Nq101, e101⟩ := hQ101
  have N101 := Fr.app N0 Nq101
  obtain ⟨T102, h102, X102, e102, W102, st102⟩ := putF X101 hx hZ hown (host := "") (Or.inl (hw _ (List.mem_of_getElem? (i := 45) rfl))) Via.refl e101 F_modCount E1 (Or.inl (hw _ (List.mem_of_getElem? (i := 46) rfl))) (hw _ (List.mem_of_getElem? (i := 27) rfl)) (ty := .int) (by decide) rfl rfl (g := (mkF m 6 #[.val (.ref a1)] [(.int (0 : Int32)), (.ref a1)])) rfl rfl (hb hby d_jdk_39_method_1_6)
  have F102 := F_modCount.same W102
  have N102 := Fr.snoc X102 N101 g1
  have O102 := O0.wr W102 g1
  have K102 := K0.wr W102 (Or.inl (List.mem_of_getElem? (i := 0) rfl))
  have f103 := (E1.wr W102)
  have f104 := (F_elementData.other W102 (Or.inr (slot_ne (Or.inl (hw _ (List.mem_of_getElem? (i := 49) rfl))) (Or.inl (hw _ (List.mem_of_getElem? (i := 46) rfl))) (by decide) (t := (.array (.object "java/lang/Object"))) (t' := .int) (by decide) (by decide))))
  have f105 := (F_size.other W102 (Or.inr (slot_ne (Or.inl (hw _ (List.mem_of_getElem? (i := 58) rfl))) (Or.inl (hw _ (List.mem_of_getElem? (i := 46) rfl))) (by decide) (t := .int) (t' := .int) (by decide) (by decide))))
  obtain ⟨fs, hr, hrun, hended, hW, hsame⟩ := X102.leave (v := none) (fun _ => rfl)
  refine ⟨_, _, pre0 _ ?_, hrun, hended, _, _, rfl, ?_, ⟨_, rfl⟩, hW, hsame.mono (by decide) (by decide)⟩
  · show Steps p.tables e below (s₁.setTop (mkF m 0 #[.val (.ref a1)] [])) _
    refine XS.aloadN X0.here hx rfl (hb hby d_jdk_39_method_1_0) rfl rfl ?_
    show Steps p.tables e below (s₁.setTop (mkF m 1 #[.val (.ref a1)] [(.ref a1)])) _
    refine st101.trans ?_
    show Steps p.tables e below (T101.setTop (mkF m 4 #[.val (.ref a1)] [])) _
    refine XS.aloadN X101.here hx rfl (hb hby d_jdk_39_method_1_4) rfl rfl ?_
    refine XS.iconst X101.here hx rfl (hb hby d_jdk_39_method_1_5) ?_
    show Steps p.tables e below (T101.setTop (mkF m 6 #[.val (.ref a1)] [(.int (0 : Int32)), (.ref a1)])) _
    refine st102 _ ?_
    show Steps p.tables e below (T102.setTop (mkF m 9 #[.val (.ref a1)] [])) _
    exact X102.returnOut hx Bd.returns (hb hby d_jdk_39_method_1_9) hr
  · show Q_abl Z a1 u1 u2 u3 h0 n0 _ T102.heap _
    rw [e102]
    exact ⟨rfl, N102, K102, f103, F102, f104, f105⟩
theorem ef_ali (m : MethodId) (a1 : Addr) : entryFrame m #[(.ref a1)] 1 = mkF m 0 #[.val (.ref a1)] [] := by first | (simp [entryFrame, mkF, argsToLocals, Value.category]; done) | rfl
def Q_ali (Z : State) (a1 : Addr) (u1 : Value) (u2 : Value) (u3 : Value) (aE : Addr) (kE : ClassId) (h0 : Heap) (n0 : Nat) (v : Option Value) (h : Heap) (L : List Loc) : Prop := v = none ∧ Fr n0 L ∧ Keep h0 h [a1] ∧ Exa Z h a1 "java/util/ArrayList" ∧ Fld Z h a1 "java/util/AbstractList" "modCount" "I" (.int (0 : Int32)) ∧ Fld Z h a1 "java/util/ArrayList" "elementData" "[Ljava/lang/Object;" (.ref aE) ∧ Fld Z h a1 "java/util/ArrayList" "size" "I" u3
set_option maxRecDepth 65536 in
set_option maxHeartbeats 40000000 in
theorem rm_ali (l : Launch) (Z : State) (a0 : Array Value) (hw : ∀ d ∈ tables_1, d.before a0 Z = true) (ws : List Jvm.Cond) (a1 : Addr) (u1 : Value) (u2 : Value) (u3 : Value) (aE : Addr) (kE : ClassId) (h0 : Heap) (n0 : Nat) (O0 : Old Z n0 h0) (E1 : Exa Z h0 a1 "java/util/ArrayList") (F_modCount : Fld Z h0 a1 "java/util/AbstractList" "modCount" "I" u1) (F_elementData : Fld Z h0 a1 "java/util/ArrayList" "elementData" "[Ljava/lang/Object;" u2) (F_size : Fld Z h0 a1 "java/util/ArrayList" "size" "I" u3) (g1 : n0 ≤ a1) (SE : Sta Z Z.heap "java/util/ArrayList" "DEFAULTCAPACITY_EMPTY_ELEMENTDATA" "[Ljava/lang/Object;" (.ref aE)) (VE : Arv Z Z.heap aE kE (.object "java/lang/Object") (0 : Int32) [] .null) :
    MetFree l (⟨"java/util/ArrayList", "<init>", "()V"⟩ : MethodName) (head1 (Jvm.Cond.code (⟨"java/util/ArrayList", "<init>", "()V"⟩ : MethodName) jdk_38_method_2_code 1 none :: ws) ({ frames := 3, cells := 0, slots := 0, locals := 36 } : Room)) (fun a U => a = #[(.ref a1)] ∧ Z.Warmed39 U.vm ∧ U.heap = h0) (fun _ _ _ _ _ => True) (fun _ U o U' => ∃ v L, o = .returned v ∧ Q_ali Z a1 u1 u2 u3 aE kE h0 n0 v U'.heap L ∧ FrameEnd U o U' L ({ frames := 3, cells := 0, slots := 0, locals := 36 } : Room).cells ({ frames := 3, cells := 0, slots := 0, locals := 36 } : Room).slots) := by
  refine MetFree.of_bodySF (plainFor_of_name pn_6) hisR ?_
  intro p e s m args below meth c s₁ Bd hml0 hP hK
  obtain ⟨rfl, hZ, hh⟩ := hP
  have hx := Bd.exec
  have hby := Bd.bytes
  have hml : c.maxLocals = 1 := hml0
  have hown : s.vm.findClass "java/util/ArrayList" = some m.cls := findClass_of_methodNamed Bd.named
  have hnm := (name_of_methodNamed Bd.named Bd.method).1
  have X0 : Stand p l e ({ frames := 3, cells := 0, slots := 0, locals := 36 } : Room) s m #[(.ref a1)] below meth c s₁ [] 0 0 := Stand.of_body Bd
  have e0 : s₁.heap = h0 := by rw [← hh, Bd.state]; rfl
  have N0 := Fr.nil n0
  have K0 : Keep h0 h0 [a1] := Keep.refl _ _
  have pre0 : ∀ t, Steps p.tables e below (s₁.setTop (mkF m 0 #[.val (.ref a1)] [])) t → Steps p.tables e below (s₁.setTop (entryFrame m #[(.ref a1)] 1)) t := fun t k => castTop (ef_ali m a1) k
  obtain ⟨_, _, ⟨T101, L101, k101, n101⟩, -, X101, ⟨Lc101, hQ101, l101, y101, z101⟩, st101⟩ := X0.specialBack hx (y := (⟨"java/util/AbstractList", "<init>", "()V"⟩ : MethodName)) rfl hown (mvT hZ (hw _ (List.mem_of_getElem? (i := 32) rfl))) (mvT hZ (hw _ (List.mem_of_getElem? (i := 33) rfl))) (mvT hZ (hw _ (List.mem_of_getElem? (i := 37) rfl))) (by decide) (backOf (W := 0) (rm_abl l Z a0 hw [] a1 u1 u2 u3 h0 n0 O0 E1 F_modCount F_elementData F_size g1) hZ (hw _ (List.mem_of_getElem? (i := 37) rfl)) (hw _ (List.mem_of_getElem? (i := 36) rfl)) (by decide) (by decide)) (g := (mkF m 1 #[.val (.ref a1)] [(.ref a1)])) rfl (by rw [hml]; rfl) (Steps.refl _) (a := a1) (argsL := []) (rest := []) (lenOf pd_0 rfl) rfl (by show 2 * 0 + _ ≤ _; exact Nat.le_of_eq rfl) (hb hby d_jdk_38_method_2_1) (fun _ _ => ⟨rfl, e0, (by decide : 0 + 0 ≤ _), (by decide : 0 + 0 ≤ _)⟩)
  dsimp only [Pt.U, Pt.locs, Pt.cells, Pt.slots] at X101 l101 y101 z101 st101 hQ101
  subst l101 y101 z101
  obtain ⟨rfl, Nq101, Kq101, Ek101, Fk_modCount_101, Fk_elementData_101, Fk_size_101⟩ := hQ101
  have N101 := Fr.app N0 Nq101
  have O101 := O0.keep Kq101 (allS g1 all0)
  have K101 := K0.trans Kq101 (allS (Or.inl (List.mem_of_getElem? (i := 0) rfl)) all0)
  obtain ⟨T102, X102, e102, st102⟩ := getS2 X101 hx hZ hown (host := "") (Or.inl (hw _ (List.mem_of_getElem? (i := 47) rfl))) Via.refl rfl (SE.ext O101.2) (g := (mkF m 5 #[.val (.ref a1)] [(.ref a1)])) rfl (hb hby d_jdk_38_method_2_5)
  obtain ⟨T103, h103, X103, e103, W103, st103⟩ := putF X102 hx hZ hown (host := "") (Or.inl (hw _ (List.mem_of_getElem? (i := 48) rfl))) Via.refl e102 Fk_elementData_101 Ek101 (Or.inl (hw _ (List.mem_of_getElem? (i := 49) rfl))) (hw _ (List.mem_of_getElem? (i := 27) rfl)) (ty := (.array (.object "java/lang/Object"))) (by decide) rfl rfl (g := (mkF m 8 #[.val (.ref a1)] [(.ref aE), (.ref a1)])) rfl rfl (hb hby d_jdk_38_method_2_8)
  have F103 := Fk_elementData_101.same W103
  have N103 := Fr.snoc X103 N101 g1
  have O103 := O101.wr W103 g1
  have K103 := K101.wr W103 (Or.inl (List.mem_of_getElem? (i := 0) rfl))
  have f104 := (Ek101.wr W103)
  have f105 := (Fk_modCount_101.other W103 (Or.inr (slot_ne (Or.inl (hw _ (List.mem_of_getElem? (i := 46) rfl))) (Or.inl (hw _ (List.mem_of_getElem? (i := 49) rfl))) (by decide) (t := .int) (t' := (.array (.object "java/lang/Object"))) (by decide) (by decide))))
  have f106 := (Fk_size_101.other W103 (Or.inr (slot_ne (Or.inl (hw _ (List.mem_of_getElem? (i := 58) rfl))) (Or.inl (hw _ (List.mem_of_getElem? (i := 49) rfl))) (by decide) (t := .int) (t' := (.array (.object "java/lang/Object"))) (by decide) (by decide))))
  obtain ⟨fs, hr, hrun, hended, hW, hsame⟩ := X103.leave (v := none) (fun _ => rfl)
  refine ⟨_, _, pre0 _ ?_, hrun, hended, _, _, rfl, ?_, ⟨_, rfl⟩, hW, hsame.mono (by decide) (by decide)⟩
  · show Steps p.tables e below (s₁.setTop (mkF m 0 #[.val (.ref a1)] [])) _
    refine XS.aloadN X0.here hx rfl (hb hby d_jdk_38_method_2_0) rfl rfl ?_
    show Steps p.tables e below (s₁.setTop (mkF m 1 #[.val (.ref a1)] [(.ref a1)])) _
    refine st101.trans ?_
    show Steps p.tables e below (T101.setTop (mkF m 4 #[.val (.ref a1)] [])) _
    refine XS.aloadN X101.here hx rfl (hb hby d_jdk_38_method_2_4) rfl rfl ?_
    show Steps p.tables e below (T101.setTop (mkF m 5 #[.val (.ref a1)] [(.ref a1)])) _
    refine st102 _ ?_
    show Steps p.tables e below (T102.setTop (mkF m 8 #[.val (.ref a1)] [(.ref aE), (.ref a1)])) _
    refine st103 _ ?_
    show Steps p.tables e below (T103.setTop (mkF m 11 #[.val (.ref a1)] [])) _
    exact X103.returnOut hx Bd.returns (hb hby d_jdk_38_method_2_11) hr
  · show Q_ali Z a1 u1 u2 u3 aE kE h0 n0 _ T103.heap _
    rw [e103]
    exact ⟨rfl, N103, K103, f104, f105, F103, f106⟩
theorem ef_mx (m : MethodId) (p1 : Int32) (p2 : Int32) : entryFrame m #[(.int p1), (.int p2)] 2 = mkF m 0 #[.val (.int p1), .val (.int p2)] [] := by first | (simp [entryFrame, mkF, argsToLocals, Value.category]; done) | rfl
def Q_mx (Z : State) (p1 : Int32) (p2 : Int32) (h0 : Heap) (n0 : Nat) (v : Option Value) (h : Heap) (L : List Loc) : Prop := v = some (.int (own_max p1 p2)) ∧ Fr n0 L ∧ h = h0
set_option maxRecDepth 65536 in
set_option maxHeartbeats 40000000 in
theorem rm_mx (l : Launch) (Z : State) (a0 : Array Value) (hw : ∀ d ∈ tables_1, d.before a0 Z = true) (ws : List Jvm.Cond) (p1 : Int32) (p2 : Int32) (h0 : Heap) (n0 : Nat) (O0 : Old Z n0 h0) :
    MetFree l (⟨"java/lang/Math", "max", "(II)I"⟩ : MethodName) (head1 (Jvm.Cond.code (⟨"java/lang/Math", "max", "(II)I"⟩ : MethodName) jdk_29_method_65_code 2 (some .int) :: ws) ({ frames := 0, cells := 0, slots := 0, locals := 0 } : Room)) (fun a U => a = #[(.int p1), (.int p2)] ∧ Z.Warmed39 U.vm ∧ U.heap = h0) (fun _ _ _ _ _ => True) (fun _ U o U' => ∃ v L, o = .returned v ∧ Q_mx Z p1 p2 h0 n0 v U'.heap L ∧ FrameEnd U o U' L ({ frames := 0, cells := 0, slots := 0, locals := 0 } : Room).cells ({ frames := 0, cells := 0, slots := 0, locals := 0 } : Room).slots) := by
  refine MetFree.of_bodySF (Jvm.Free.JP.mathPlain rfl (by decide +kernel)) hisR ?_
  intro p e s m args below meth c s₁ Bd hml0 hP hK
  obtain ⟨rfl, hZ, hh⟩ := hP
  have hx := Bd.exec
  have hby := Bd.bytes
  have hml : c.maxLocals = 2 := hml0
  have hown : s.vm.findClass "java/lang/Math" = some m.cls := findClass_of_methodNamed Bd.named
  have hnm := (name_of_methodNamed Bd.named Bd.method).1
  have X0 : Stand p l e ({ frames := 0, cells := 0, slots := 0, locals := 0 } : Room) s m #[(.int p1), (.int p2)] below meth c s₁ [] 0 0 := Stand.of_body Bd
  have e0 : s₁.heap = h0 := by rw [← hh, Bd.state]; rfl
  have N0 := Fr.nil n0
  have pre0 : ∀ t, Steps p.tables e below (s₁.setTop (mkF m 0 #[.val (.int p1), .val (.int p2)] [])) t → Steps p.tables e below (s₁.setTop (entryFrame m #[(.int p1), (.int p2)] 2)) t := fun t k => castTop (ef_mx m p1 p2) k
  have pre101 : ∀ t, Steps p.tables e below (s₁.setTop (mkF m 2 #[.val (.int p1), .val (.int p2)] [(.int p2), (.int p1)])) t → Steps p.tables e below (s₁.setTop (entryFrame m #[(.int p1), (.int p2)] 2)) t := fun t kk => pre0 t (by
      show Steps p.tables e below (s₁.setTop (mkF m 0 #[.val (.int p1), .val (.int p2)] [])) _
      refine XS.iloadN X0.here hx rfl (hb hby d_jdk_29_method_65_0) rfl ?_
      refine XS.iloadN X0.here hx rfl (hb hby d_jdk_29_method_65_1) rfl ?_
      show Steps p.tables e below (s₁.setTop (mkF m 2 #[.val (.int p1), .val (.int p2)] [(.int p2), (.int p1)])) _
      exact kk)
  by_cases hc102 : p1 < p2
  · obtain ⟨fs, hr, hrun, hended, hW, hsame⟩ := X0.leave (v := some (.int p2)) (fun h => by rw [Bd.returns] at h; cases h)
    refine ⟨_, _, pre101 _ ?_, hrun, hended, _, _, rfl, ?_, ⟨_, rfl⟩, hW, hsame.mono (by decide) (by decide)⟩
    · refine XS.icmpYes X0.here hx rfl (pc0 := 2) (pc' := 9) rfl (hb hby d_jdk_29_method_65_2) rfl (tlt hc102).1 (by decide) (by decide) ?_
      refine XS.iloadN X0.here hx rfl (hb hby d_jdk_29_method_65_9) rfl ?_
      show Steps p.tables e below (s₁.setTop (mkF m 10 #[.val (.int p1), .val (.int p2)] [(.int p2)])) _
      exact retOut X0 hx (t := .int) (i := .ireturn) Bd.returns rfl (Or.inl ⟨rfl, Or.inl rfl, _, rfl⟩) (hb hby d_jdk_29_method_65_10) hr
    · show Q_mx Z p1 p2 h0 n0 _ s₁.heap _
      rw [e0]
      exact ⟨(by simp [own_max, eq_true hc102]), N0, rfl⟩
  · obtain ⟨fs, hr, hrun, hended, hW, hsame⟩ := X0.leave (v := some (.int p1)) (fun h => by rw [Bd.returns] at h; cases h)
    refine ⟨_, _, pre101 _ ?_, hrun, hended, _, _, rfl, ?_, ⟨_, rfl⟩, hW, hsame.mono (by decide) (by decide)⟩
    · refine XS.icmpNo X0.here hx rfl (hb hby d_jdk_29_method_65_2) rfl (flt hc102).1 ?_
      refine XS.iloadN X0.here hx rfl (hb hby d_jdk_29_method_65_5) rfl ?_
      refine XS.goto X0.here hx rfl (pc0 := 6) (pc' := 10) rfl (hb hby d_jdk_29_method_65_6) (by decide) (by decide) ?_
      show Steps p.tables e below (s₁.setTop (mkF m 10 #[.val (.int p1), .val (.int p2)] [(.int p1)])) _
      exact retOut X0 hx (t := .int) (i := .ireturn) Bd.returns rfl (Or.inl ⟨rfl, Or.inl rfl, _, rfl⟩) (hb hby d_jdk_29_method_65_10) hr
    · show Q_mx Z p1 p2 h0 n0 _ s₁.heap _
      rw [e0]
      exact ⟨(by simp [own_max, eq_false hc102]), N0, rfl⟩
theorem ef_mi (m : MethodId) (p1 : Int32) (p2 : Int32) : entryFrame m #[(.int p1), (.int p2)] 2 = mkF m 0 #[.val (.int p1), .val (.int p2)] [] := by first | (simp [entryFrame, mkF, argsToLocals, Value.category]; done) | rfl
def Q_mi (Z : State) (p1 : Int32) (p2 : Int32) (h0 : Heap) (n0 : Nat) (v : Option Value) (h : Heap) (L : List Loc) : Prop := v = some (.int (own_min p1 p2)) ∧ Fr n0 L ∧ h = h0
set_option maxRecDepth 65536 in
set_option maxHeartbeats 40000000 in
theorem rm_mi (l : Launch) (Z : State) (a0 : Array Value) (hw : ∀ d ∈ tables_1, d.before a0 Z = true) (ws : List Jvm.Cond) (p1 : Int32) (p2 : Int32) (h0 : Heap) (n0 : Nat) (O0 : Old Z n0 h0) :
    MetFree l (⟨"java/lang/Math", "min", "(II)I"⟩ : MethodName) (head1 (Jvm.Cond.code (⟨"java/lang/Math", "min", "(II)I"⟩ : MethodName) jdk_29_method_69_code 2 (some .int) :: ws) ({ frames := 0, cells := 0, slots := 0, locals := 0 } : Room)) (fun a U => a = #[(.int p1), (.int p2)] ∧ Z.Warmed39 U.vm ∧ U.heap = h0) (fun _ _ _ _ _ => True) (fun _ U o U' => ∃ v L, o = .returned v ∧ Q_mi Z p1 p2 h0 n0 v U'.heap L ∧ FrameEnd U o U' L ({ frames := 0, cells := 0, slots := 0, locals := 0 } : Room).cells ({ frames := 0, cells := 0, slots := 0, locals := 0 } : Room).slots) := by
  refine MetFree.of_bodySF (Jvm.Free.JP.mathPlain rfl (by decide +kernel)) hisR ?_
  intro p e s m args below meth c s₁ Bd hml0 hP hK
  obtain ⟨rfl, hZ, hh⟩ := hP
  have hx := Bd.exec
  have hby := Bd.bytes
  have hml : c.maxLocals = 2 := hml0
  have hown : s.vm.findClass "java/lang/Math" = some m.cls := findClass_of_methodNamed Bd.named
  have hnm := (name_of_methodNamed Bd.named Bd.method).1
  have X0 : Stand p l e ({ frames := 0, cells := 0, slots := 0, locals := 0 } : Room) s m #[(.int p1), (.int p2)] below meth c s₁ [] 0 0 := Stand.of_body Bd
  have e0 : s₁.heap = h0 := by rw [← hh, Bd.state]; rfl
  have N0 := Fr.nil n0
  have pre0 : ∀ t, Steps p.tables e below (s₁.setTop (mkF m 0 #[.val (.int p1), .val (.int p2)] [])) t → Steps p.tables e below (s₁.setTop (entryFrame m #[(.int p1), (.int p2)] 2)) t := fun t k => castTop (ef_mi m p1 p2) k
  have pre101 : ∀ t, Steps p.tables e below (s₁.setTop (mkF m 2 #[.val (.int p1), .val (.int p2)] [(.int p2), (.int p1)])) t → Steps p.tables e below (s₁.setTop (entryFrame m #[(.int p1), (.int p2)] 2)) t := fun t kk => pre0 t (by
      show Steps p.tables e below (s₁.setTop (mkF m 0 #[.val (.int p1), .val (.int p2)] [])) _
      refine XS.iloadN X0.here hx rfl (hb hby d_jdk_29_method_69_0) rfl ?_
      refine XS.iloadN X0.here hx rfl (hb hby d_jdk_29_method_69_1) rfl ?_
      show Steps p.tables e below (s₁.setTop (mkF m 2 #[.val (.int p1), .val (.int p2)] [(.int p2), (.int p1)])) _
      exact kk)
  by_cases hc102 : p2 < p1
  · obtain ⟨fs, hr, hrun, hended, hW, hsame⟩ := X0.leave (v := some (.int p2)) (fun h => by rw [Bd.returns] at h; cases h)
    refine ⟨_, _, pre101 _ ?_, hrun, hended, _, _, rfl, ?_, ⟨_, rfl⟩, hW, hsame.mono (by decide) (by decide)⟩
    · refine XS.icmpYes X0.here hx rfl (pc0 := 2) (pc' := 9) rfl (hb hby d_jdk_29_method_69_2) rfl (tlt hc102).2.2.1 (by decide) (by decide) ?_
      refine XS.iloadN X0.here hx rfl (hb hby d_jdk_29_method_69_9) rfl ?_
      show Steps p.tables e below (s₁.setTop (mkF m 10 #[.val (.int p1), .val (.int p2)] [(.int p2)])) _
      exact retOut X0 hx (t := .int) (i := .ireturn) Bd.returns rfl (Or.inl ⟨rfl, Or.inl rfl, _, rfl⟩) (hb hby d_jdk_29_method_69_10) hr
    · show Q_mi Z p1 p2 h0 n0 _ s₁.heap _
      rw [e0]
      exact ⟨(by simp [own_min, eq_true hc102]), N0, rfl⟩
  · obtain ⟨fs, hr, hrun, hended, hW, hsame⟩ := X0.leave (v := some (.int p1)) (fun h => by rw [Bd.returns] at h; cases h)
    refine ⟨_, _, pre101 _ ?_, hrun, hended, _, _, rfl, ?_, ⟨_, rfl⟩, hW, hsame.mono (by decide) (by decide)⟩
    · refine XS.icmpNo X0.here hx rfl (hb hby d_jdk_29_method_69_2) rfl (flt hc102).2.2.1 ?_
      refine XS.iloadN X0.here hx rfl (hb hby d_jdk_29_method_69_5) rfl ?_
      refine XS.goto X0.here hx rfl (pc0 := 6) (pc' := 10) rfl (hb hby d_jdk_29_method_69_6) (by decide) (by decide) ?_
      show Steps p.tables e below (s₁.setTop (mkF m 10 #[.val (.int p1), .val (.int p2)] [(.int p1)])) _
      exact retOut X0 hx (t := .int) (i := .ireturn) Bd.returns rfl (Or.inl ⟨rfl, Or.inl rfl, _, rfl⟩) (hb hby d_jdk_29_method_69_10) hr
    · show Q_mi Z p1 p2 h0 n0 _ s₁.heap _
      rw [e0]
      exact ⟨(by simp [own_min, eq_false hc102]), N0, rfl⟩
theorem ef_gr1 (m : MethodId) (a1 : Addr) : entryFrame m #[(.ref a1), (.int (1 : Int32))] 4 = mkF m 0 #[.val (.ref a1), .val (.int (1 : Int32)), .unset, .unset] [] := by first | (simp [entryFrame, mkF, argsToLocals, Value.category]; done) | rfl
def Q_gr1 (Z : State) (a1 : Addr) (mc : Int32) (aE : Addr) (kE : ClassId) (h0 : Heap) (n0 : Nat) (v : Option Value) (h : Heap) (L : List Loc) : Prop := ∃ (b : Addr) (k : ClassId), v = some (.ref b) ∧ Fr n0 L ∧ Keep h0 h [a1] ∧ Exa Z h a1 "java/util/ArrayList" ∧ Fld Z h a1 "java/util/AbstractList" "modCount" "I" (.int mc) ∧ Fld Z h a1 "java/util/ArrayList" "elementData" "[Ljava/lang/Object;" (.ref b) ∧ Fld Z h a1 "java/util/ArrayList" "size" "I" (.int (0 : Int32)) ∧ Arv Z h b k (.object "java/lang/Object") (10 : Int32) [.null, .null, .null, .null, .null, .null, .null, .null, .null, .null] .null ∧ Ovr Z k "java/lang/Object" ∧ Exa Z h b "[Ljava/lang/Object;" ∧ h0.size ≤ b
set_option maxRecDepth 65536 in
set_option maxHeartbeats 40000000 in
theorem rm_gr1 (l : Launch) (Z : State) (a0 : Array Value) (hw : ∀ d ∈ tables_1, d.before a0 Z = true) (ws : List Jvm.Cond) (a1 : Addr) (mc : Int32) (aE : Addr) (kE : ClassId) (h0 : Heap) (n0 : Nat) (O0 : Old Z n0 h0) (E1 : Exa Z h0 a1 "java/util/ArrayList") (F_modCount : Fld Z h0 a1 "java/util/AbstractList" "modCount" "I" (.int mc)) (F_elementData : Fld Z h0 a1 "java/util/ArrayList" "elementData" "[Ljava/lang/Object;" (.ref aE)) (F_size : Fld Z h0 a1 "java/util/ArrayList" "size" "I" (.int (0 : Int32))) (g1 : n0 ≤ a1) (SE : Sta Z Z.heap "java/util/ArrayList" "DEFAULTCAPACITY_EMPTY_ELEMENTDATA" "[Ljava/lang/Object;" (.ref aE)) (VE : Arv Z Z.heap aE kE (.object "java/lang/Object") (0 : Int32) [] .null) :
    MetFree l (⟨"java/util/ArrayList", "grow", "(I)[Ljava/lang/Object;"⟩ : MethodName) (head1 (Jvm.Cond.code (⟨"java/util/ArrayList", "grow", "(I)[Ljava/lang/Object;"⟩ : MethodName) jdk_38_method_6_code 4 (some (.array (.object "java/lang/Object"))) :: ws) ({ frames := 1, cells := 1, slots := 10, locals := 14 } : Room)) (fun a U => a = #[(.ref a1), (.int (1 : Int32))] ∧ Z.Warmed39 U.vm ∧ U.heap = h0) (fun _ _ _ _ _ => True) (fun _ U o U' => ∃ v L, o = .returned v ∧ Q_gr1 Z a1 mc aE kE h0 n0 v U'.heap L ∧ FrameEnd U o U' L ({ frames := 1, cells := 1, slots := 10, locals := 14 } : Room).cells ({ frames := 1, cells := 1, slots := 10, locals := 14 } : Room).slots) := by
  refine MetFree.of_bodySF (plainFor_of_name pn_6) hisR ?_
  intro p e s m args below meth c s₁ Bd hml0 hP hK
  obtain ⟨rfl, hZ, hh⟩ := hP
  have hx := Bd.exec
  have hby := Bd.bytes
  have hml : c.maxLocals = 4 := hml0
  have hown : s.vm.findClass "java/util/ArrayList" = some m.cls := findClass_of_methodNamed Bd.named
  have hnm := (name_of_methodNamed Bd.named Bd.method).1
  have X0 : Stand p l e ({ frames := 1, cells := 1, slots := 10, locals := 14 } : Room) s m #[(.ref a1), (.int (1 : Int32))] below meth c s₁ [] 0 0 := Stand.of_body Bd
  have e0 : s₁.heap = h0 := by rw [← hh, Bd.state]; rfl
  have N0 := Fr.nil n0
  have K0 : Keep h0 h0 [a1] := Keep.refl _ _
  have pre0 : ∀ t, Steps p.tables e below (s₁.setTop (mkF m 0 #[.val (.ref a1), .val (.int (1 : Int32)), .unset, .unset] [])) t → Steps p.tables e below (s₁.setTop (entryFrame m #[(.ref a1), (.int (1 : Int32))] 4)) t := fun t k => castTop (ef_gr1 m a1) k
  obtain ⟨T101, X101, e101, st101⟩ := getF X0 hx hZ hown (host := "") (Or.inl (hw _ (List.mem_of_getElem? (i := 48) rfl))) Via.refl e0 F_elementData (g := (mkF m 1 #[.val (.ref a1), .val (.int (1 : Int32)), .unset, .unset] [(.ref a1)])) rfl rfl (hb hby d_jdk_38_method_6_1)
  obtain ⟨cl102, Ar102, -, S102, Ne102, -, -⟩ := id (VE.ext O0.2)
  obtain ⟨T103, X103, e103, st103⟩ := getF X101 hx hZ hown (host := "") (Or.inl (hw _ (List.mem_of_getElem? (i := 48) rfl))) Via.refl e101 F_elementData (g := (mkF m 11 #[.val (.ref a1), .val (.int (1 : Int32)), .val (.int (0 : Int32)), .unset] [(.ref a1)])) rfl rfl (hb hby d_jdk_38_method_6_11)
  obtain ⟨T104, X104, e104, st104⟩ := getS2 X103 hx hZ hown (host := "") (Or.inl (hw _ (List.mem_of_getElem? (i := 47) rfl))) Via.refl e103 (SE.ext O0.2) (g := (mkF m 14 #[.val (.ref a1), .val (.int (1 : Int32)), .val (.int (0 : Int32)), .unset] [(.ref aE)])) rfl (hb hby d_jdk_38_method_6_14)
  obtain ⟨_, _, ⟨T105, L105, k105, n105⟩, -, X105, ⟨Lc105, hQ105, l105, y105, z105⟩, st105⟩ := Jvm.LawKit.callS X104 hx (y := (⟨"java/lang/Math", "max", "(II)I"⟩ : MethodName)) hown (mvT hZ (hw _ (List.mem_of_getElem? (i := 74) rfl))) (mvT hZ (hw _ (List.mem_of_getElem? (i := 75) rfl))) (mvT hZ (hw _ (List.mem_of_getElem? (i := 76) rfl))) (mvT hZ (hw _ (List.mem_of_getElem? (i := 77) rfl))) (by decide) (backOf (W := 1) (rm_mx l Z a0 hw [] (10 : Int32) (1 : Int32) h0 n0 O0 ) hZ (hw _ (List.mem_of_getElem? (i := 77) rfl)) (hw _ (List.mem_of_getElem? (i := 76) rfl)) (by decide) (by decide)) (g := (mkF m 49 #[.val (.ref a1), .val (.int (1 : Int32)), .val (.int (0 : Int32)), .unset] [(.int (1 : Int32)), (.int (10 : Int32)), (.ref a1)])) rfl (by rw [hml]; rfl) (argsL := [(.int (10 : Int32)), (.int (1 : Int32))]) (rest := [(.ref a1)]) (lenOf pd_1 rfl) rfl (by show 2 * 0 + _ ≤ _; exact Nat.le_of_eq rfl) (hb hby d_jdk_38_method_6_49) (fun _ _ => ⟨rfl, e104, (by decide : 0 + 0 ≤ _), (by decide : 0 + 0 ≤ _)⟩)
  dsimp only [Pt.U, Pt.locs, Pt.cells, Pt.slots] at X105 l105 y105 z105 st105 hQ105
  subst l105 y105 z105
  obtain ⟨rfl, Nq105, e105⟩ := hQ105
  have N105 := Fr.app N0 Nq105
  obtain ⟨T106, h106, k106, X106, e106, E106, A106, Ex106, Ov106, st106⟩ := newRE X105 hx hZ hown (hw _ (List.mem_of_getElem? (i := 78) rfl)) (hw _ (List.mem_of_getElem? (i := 79) rfl)) e105 (g := (mkF m 52 #[.val (.ref a1), .val (.int (1 : Int32)), .val (.int (0 : Int32)), .unset] [(.int (10 : Int32)), (.ref a1)])) rfl (hb hby d_jdk_38_method_6_52) rfl (by decide) (cap := 10) (by decide) (by decide) (by decide) (by decide) (ad := "[Ljava/lang/Object;") rfl
  obtain ⟨b106, g106⟩ : ∃ z, z = h0.size := ⟨_, rfl⟩
  rw [← g106] at A106 Ex106 st106
  have g_b106 : n0 ≤ b106 := Nat.le_trans (own_szO O0) (Nat.le_of_eq g106.symm)
  have sz_b106 : h0.size ≤ b106 := Nat.le_trans K0.1 (Nat.le_of_eq g106.symm)
  have ne_a1_b106 : a1 ≠ b106 := Nat.ne_of_lt (Nat.lt_of_lt_of_le E1.lt (Nat.le_of_eq g106.symm))
  have O106 := O0.ext E106
  have K106 := K0.ext E106
  have V106 : Arv Z h106 b106 k106 (.object "java/lang/Object") (10 : Int32) [.null, .null, .null, .null, .null, .null, .null, .null, .null, .null] .null := (Arv.new A106 (by decide)).pad (pad_rep [] .null 10)
  have f107 := (E1.ext E106)
  have f108 := (F_elementData.ext E106)
  obtain ⟨T109, h109, X109, e109, W109, st109⟩ := putF X106 hx hZ hown (host := "") (Or.inl (hw _ (List.mem_of_getElem? (i := 48) rfl))) Via.refl e106 f108 f107 (Or.inl (hw _ (List.mem_of_getElem? (i := 49) rfl))) (hw _ (List.mem_of_getElem? (i := 27) rfl)) (ty := (.array (.object "java/lang/Object"))) (by decide) rfl rfl (g := (mkF m 56 #[.val (.ref a1), .val (.int (1 : Int32)), .val (.int (0 : Int32)), .unset] [(.ref b106), (.ref a1), (.ref b106)])) rfl rfl (hb hby d_jdk_38_method_6_56)
  have F109 := f108.same W109
  have N109 := Fr.snoc X109 N105 g1
  have O109 := O106.wr W109 g1
  have K109 := K106.wr W109 (Or.inl (List.mem_of_getElem? (i := 0) rfl))
  have f110 := (f107.wr W109)
  have f111 := ((F_modCount.ext E106).other W109 (Or.inr (slot_ne (Or.inl (hw _ (List.mem_of_getElem? (i := 46) rfl))) (Or.inl (hw _ (List.mem_of_getElem? (i := 49) rfl))) (by decide) (t := .int) (t' := (.array (.object "java/lang/Object"))) (by decide) (by decide))))
  have f112 := ((F_size.ext E106).other W109 (Or.inr (slot_ne (Or.inl (hw _ (List.mem_of_getElem? (i := 58) rfl))) (Or.inl (hw _ (List.mem_of_getElem? (i := 49) rfl))) (by decide) (t := .int) (t' := (.array (.object "java/lang/Object"))) (by decide) (by decide))))
  have f113 := (V106.other W109 (Ne.symm ne_a1_b106))
  have f114 := (Ex106.wr W109)
  obtain ⟨fs, hr, hrun, hended, hW, hsame⟩ := X109.leave (v := some (.ref b106)) (fun h => by rw [Bd.returns] at h; cases h)
  refine ⟨_, _, pre0 _ ?_, hrun, hended, _, _, rfl, ?_, ⟨_, rfl⟩, hW, hsame.mono (by decide) (by decide)⟩
  · show Steps p.tables e below (s₁.setTop (mkF m 0 #[.val (.ref a1), .val (.int (1 : Int32)), .unset, .unset] [])) _
    refine XS.aloadN X0.here hx rfl (hb hby d_jdk_38_method_6_0) rfl rfl ?_
    show Steps p.tables e below (s₁.setTop (mkF m 1 #[.val (.ref a1), .val (.int (1 : Int32)), .unset, .unset] [(.ref a1)])) _
    refine st101 _ ?_
    show Steps p.tables e below (T101.setTop (mkF m 4 #[.val (.ref a1), .val (.int (1 : Int32)), .unset, .unset] [(.ref aE)])) _
    refine X101.arraylength hx (by rw [e101]; exact Ar102.1) (State.isArrayOf_alike hZ.alike Ar102.2.1) (g := (mkF m 4 #[.val (.ref a1), .val (.int (1 : Int32)), .unset, .unset] [(.ref aE)])) rfl rfl (hb hby d_jdk_38_method_6_4) _ ?_
    rw [len_of S102 Ne102]
    show Steps p.tables e below (T101.setTop (mkF m 5 #[.val (.ref a1), .val (.int (1 : Int32)), .unset, .unset] [(.int (0 : Int32))])) _
    refine XS.istoreN X101.here hx rfl (hb hby d_jdk_38_method_6_5) rfl (l' := #[.val (.ref a1), .val (.int (1 : Int32)), .val (.int (0 : Int32)), .unset]) rfl ?_
    refine XS.iloadN X101.here hx rfl (hb hby d_jdk_38_method_6_6) rfl ?_
    refine XS.ifNo X101.here hx rfl (hb hby d_jdk_38_method_6_7) rfl ((if0 _ _).trans (flt (by decide : ¬ ((0 : Int32) < (0 : Int32)))).2.2.1) ?_
    refine XS.aloadN X101.here hx rfl (hb hby d_jdk_38_method_6_10) rfl rfl ?_
    show Steps p.tables e below (T101.setTop (mkF m 11 #[.val (.ref a1), .val (.int (1 : Int32)), .val (.int (0 : Int32)), .unset] [(.ref a1)])) _
    refine st103 _ ?_
    show Steps p.tables e below (T103.setTop (mkF m 14 #[.val (.ref a1), .val (.int (1 : Int32)), .val (.int (0 : Int32)), .unset] [(.ref aE)])) _
    refine st104 _ ?_
    show Steps p.tables e below (T104.setTop (mkF m 17 #[.val (.ref a1), .val (.int (1 : Int32)), .val (.int (0 : Int32)), .unset] [(.ref aE), (.ref aE)])) _
    refine Jvm.RoadKit.acmp (g := (mkF m 17 #[.val (.ref a1), .val (.int (1 : Int32)), .val (.int (0 : Int32)), .unset] [(.ref aE), (.ref aE)])) X104 hx rfl rfl rfl (pc0 := 17) (pc' := 45) (same := true) rfl (hb hby d_jdk_38_method_6_17) rfl (decide_eq_true rfl) (by decide) (by decide) ?_
    show Steps p.tables e below (T104.setTop (mkF m 45 #[.val (.ref a1), .val (.int (1 : Int32)), .val (.int (0 : Int32)), .unset] [])) _
    refine XS.aloadN X104.here hx rfl (hb hby d_jdk_38_method_6_45) rfl rfl ?_
    refine XS.bipush X104.here hx rfl (hb hby d_jdk_38_method_6_46) ?_
    refine XS.iloadN X104.here hx rfl (hb hby d_jdk_38_method_6_48) rfl ?_
    show Steps p.tables e below (T104.setTop (mkF m 49 #[.val (.ref a1), .val (.int (1 : Int32)), .val (.int (0 : Int32)), .unset] [(.int (1 : Int32)), (.int (10 : Int32)), (.ref a1)])) _
    refine st105 _ ?_
    show Steps p.tables e below (T105.setTop (mkF m 52 #[.val (.ref a1), .val (.int (1 : Int32)), .val (.int (0 : Int32)), .unset] [(.int (own_max (10 : Int32) (1 : Int32))), (.ref a1)])) _
    rw [show (own_max (10 : Int32) (1 : Int32)) = (10 : Int32) from (by decide)]
    show Steps p.tables e below (T105.setTop (mkF m 52 #[.val (.ref a1), .val (.int (1 : Int32)), .val (.int (0 : Int32)), .unset] [(.int (10 : Int32)), (.ref a1)])) _
    refine st106 _ ?_
    show Steps p.tables e below (T106.setTop (mkF m 55 #[.val (.ref a1), .val (.int (1 : Int32)), .val (.int (0 : Int32)), .unset] [(.ref b106), (.ref a1)])) _
    refine XS.dupX1 X106.here hx rfl (hb hby d_jdk_38_method_6_55) rfl rfl rfl ?_
    show Steps p.tables e below (T106.setTop (mkF m 56 #[.val (.ref a1), .val (.int (1 : Int32)), .val (.int (0 : Int32)), .unset] [(.ref b106), (.ref a1), (.ref b106)])) _
    refine st109 _ ?_
    show Steps p.tables e below (T109.setTop (mkF m 59 #[.val (.ref a1), .val (.int (1 : Int32)), .val (.int (0 : Int32)), .unset] [(.ref b106)])) _
    exact retOut X109 hx (t := (.array (.object "java/lang/Object"))) (i := .areturn) Bd.returns rfl (Or.inr (Or.inr (Or.inr (Or.inr ⟨rfl, rfl, rfl⟩)))) (hb hby d_jdk_38_method_6_59) hr
  · show Q_gr1 Z a1 mc aE kE h0 n0 _ T109.heap _
    rw [e109]
    exact ⟨b106, k106, rfl, N109, K109, f110, f111, F109, f112, f113, Ov106, f114, sz_b106⟩
theorem ef_gr0 (m : MethodId) (a1 : Addr) : entryFrame m #[(.ref a1)] 1 = mkF m 0 #[.val (.ref a1)] [] := by first | (simp [entryFrame, mkF, argsToLocals, Value.category]; done) | rfl
def Q_gr0 (Z : State) (a1 : Addr) (mc : Int32) (aE : Addr) (kE : ClassId) (h0 : Heap) (n0 : Nat) (v : Option Value) (h : Heap) (L : List Loc) : Prop := ∃ (b : Addr) (k : ClassId), v = some (.ref b) ∧ Fr n0 L ∧ Keep h0 h [a1] ∧ Exa Z h a1 "java/util/ArrayList" ∧ Fld Z h a1 "java/util/AbstractList" "modCount" "I" (.int mc) ∧ Fld Z h a1 "java/util/ArrayList" "elementData" "[Ljava/lang/Object;" (.ref b) ∧ Fld Z h a1 "java/util/ArrayList" "size" "I" (.int (0 : Int32)) ∧ Arv Z h b k (.object "java/lang/Object") (10 : Int32) [.null, .null, .null, .null, .null, .null, .null, .null, .null, .null] .null ∧ Ovr Z k "java/lang/Object" ∧ Exa Z h b "[Ljava/lang/Object;" ∧ h0.size ≤ b
set_option maxRecDepth 65536 in
set_option maxHeartbeats 40000000 in
theorem rm_gr0 (l : Launch) (Z : State) (a0 : Array Value) (hw : ∀ d ∈ tables_1, d.before a0 Z = true) (ws : List Jvm.Cond) (a1 : Addr) (mc : Int32) (aE : Addr) (kE : ClassId) (h0 : Heap) (n0 : Nat) (O0 : Old Z n0 h0) (E1 : Exa Z h0 a1 "java/util/ArrayList") (F_modCount : Fld Z h0 a1 "java/util/AbstractList" "modCount" "I" (.int mc)) (F_elementData : Fld Z h0 a1 "java/util/ArrayList" "elementData" "[Ljava/lang/Object;" (.ref aE)) (F_size : Fld Z h0 a1 "java/util/ArrayList" "size" "I" (.int (0 : Int32))) (g1 : n0 ≤ a1) (SE : Sta Z Z.heap "java/util/ArrayList" "DEFAULTCAPACITY_EMPTY_ELEMENTDATA" "[Ljava/lang/Object;" (.ref aE)) (VE : Arv Z Z.heap aE kE (.object "java/lang/Object") (0 : Int32) [] .null) :
    MetFree l (⟨"java/util/ArrayList", "grow", "()[Ljava/lang/Object;"⟩ : MethodName) (head1 (Jvm.Cond.code (⟨"java/util/ArrayList", "grow", "()[Ljava/lang/Object;"⟩ : MethodName) jdk_38_method_7_code 1 (some (.array (.object "java/lang/Object"))) :: ws) ({ frames := 2, cells := 1, slots := 10, locals := 29 } : Room)) (fun a U => a = #[(.ref a1)] ∧ Z.Warmed39 U.vm ∧ U.heap = h0) (fun _ _ _ _ _ => True) (fun _ U o U' => ∃ v L, o = .returned v ∧ Q_gr0 Z a1 mc aE kE h0 n0 v U'.heap L ∧ FrameEnd U o U' L ({ frames := 2, cells := 1, slots := 10, locals := 29 } : Room).cells ({ frames := 2, cells := 1, slots := 10, locals := 29 } : Room).slots) := by
  refine MetFree.of_bodySF (plainFor_of_name pn_6) hisR ?_
  intro p e s m args below meth c s₁ Bd hml0 hP hK
  obtain ⟨rfl, hZ, hh⟩ := hP
  have hx := Bd.exec
  have hby := Bd.bytes
  have hml : c.maxLocals = 1 := hml0
  have hown : s.vm.findClass "java/util/ArrayList" = some m.cls := findClass_of_methodNamed Bd.named
  have hnm := (name_of_methodNamed Bd.named Bd.method).1
  have X0 : Stand p l e ({ frames := 2, cells := 1, slots := 10, locals := 29 } : Room) s m #[(.ref a1)] below meth c s₁ [] 0 0 := Stand.of_body Bd
  have e0 : s₁.heap = h0 := by rw [← hh, Bd.state]; rfl
  have N0 := Fr.nil n0
  have K0 : Keep h0 h0 [a1] := Keep.refl _ _
  have pre0 : ∀ t, Steps p.tables e below (s₁.setTop (mkF m 0 #[.val (.ref a1)] [])) t → Steps p.tables e below (s₁.setTop (entryFrame m #[(.ref a1)] 1)) t := fun t k => castTop (ef_gr0 m a1) k
  obtain ⟨T101, X101, e101, st101⟩ := getF X0 hx hZ hown (host := "") (Or.inl (hw _ (List.mem_of_getElem? (i := 57) rfl))) Via.refl e0 F_size (g := (mkF m 2 #[.val (.ref a1)] [(.ref a1), (.ref a1)])) rfl rfl (hb hby d_jdk_38_method_7_2)
  obtain ⟨cq102, q102, q102'⟩ := E1.cell
  obtain ⟨_, _, ⟨T102, L102, k102, n102⟩, -, X102, ⟨Lc102, hQ102, l102, y102, z102⟩, st102⟩ := X101.privateBack hx (y := (⟨"java/util/ArrayList", "grow", "(I)[Ljava/lang/Object;"⟩ : MethodName)) hown (mvT hZ (hw _ (List.mem_of_getElem? (i := 69) rfl))) (mvT hZ (hw _ (List.mem_of_getElem? (i := 70) rfl))) (own_selP (y := (⟨"java/util/ArrayList", "grow", "(I)[Ljava/lang/Object;"⟩ : MethodName)) hZ (hw _ (List.mem_of_getElem? (i := 27) rfl)) (hw _ (List.mem_of_getElem? (i := 71) rfl)) (hw _ (List.mem_of_getElem? (i := 70) rfl)) (by decide)) (Cond.privateMethod_at (mvP hZ (hw _ (List.mem_of_getElem? (i := 71) rfl)) (args := #[]))) (mvT hZ (hw _ (List.mem_of_getElem? (i := 73) rfl))) (by decide) (backOf (W := 0) (rm_gr1 l Z a0 hw [] a1 mc aE kE h0 n0 O0 E1 F_modCount F_elementData F_size g1 SE VE) hZ (hw _ (List.mem_of_getElem? (i := 73) rfl)) (hw _ (List.mem_of_getElem? (i := 28) rfl)) (by decide) (by decide)) (g := (mkF m 7 #[.val (.ref a1)] [(.int (1 : Int32)), (.ref a1)])) rfl (by rw [hml]; rfl) (Steps.refl _) (a := a1) (by rw [e101]; exact q102) q102' (argsL := [(.int (1 : Int32))]) (rest := []) (lenOf pd_2 rfl) rfl (by show 2 * 0 + _ ≤ _; exact Nat.le_of_eq rfl) (hb hby d_jdk_38_method_7_7) (fun _ _ => ⟨rfl, e101, (by decide : 0 + 1 ≤ _), (by decide : 0 + 10 ≤ _)⟩)
  dsimp only [Pt.U, Pt.locs, Pt.cells, Pt.slots] at X102 l102 y102 z102 st102 hQ102
  subst l102 y102 z102
  obtain ⟨b_102, k_102, rfl, Nq102, Kq102, Ek102, Fk_modCount_102, Fk_elementData_102, Fk_size_102, Vb102, Ob102, Eb102, lb102⟩ := hQ102
  have N102 := Fr.app N0 Nq102
  have g_b_102 : n0 ≤ b_102 := Nat.le_trans (own_szO O0) lb102
  have sz_b_102 : h0.size ≤ b_102 := Nat.le_trans K0.1 lb102
  have ne_a1_b_102 : a1 ≠ b_102 := Nat.ne_of_lt (Nat.lt_of_lt_of_le E1.lt lb102)
  have O102 := O0.keep Kq102 (allS g1 all0)
  have K102 := K0.trans Kq102 (allS (Or.inl (List.mem_of_getElem? (i := 0) rfl)) all0)
  obtain ⟨fs, hr, hrun, hended, hW, hsame⟩ := X102.leave (v := some (.ref b_102)) (fun h => by rw [Bd.returns] at h; cases h)
  refine ⟨_, _, pre0 _ ?_, hrun, hended, _, _, rfl, ?_, ⟨_, rfl⟩, hW, hsame.mono (by decide) (by decide)⟩
  · show Steps p.tables e below (s₁.setTop (mkF m 0 #[.val (.ref a1)] [])) _
    refine XS.aloadN X0.here hx rfl (hb hby d_jdk_38_method_7_0) rfl rfl ?_
    refine XS.aloadN X0.here hx rfl (hb hby d_jdk_38_method_7_1) rfl rfl ?_
    show Steps p.tables e below (s₁.setTop (mkF m 2 #[.val (.ref a1)] [(.ref a1), (.ref a1)])) _
    refine st101 _ ?_
    show Steps p.tables e below (T101.setTop (mkF m 5 #[.val (.ref a1)] [(.int (0 : Int32)), (.ref a1)])) _
    refine XS.iconst X101.here hx rfl (hb hby d_jdk_38_method_7_5) ?_
    refine XS.iadd X101.here hx rfl (hb hby d_jdk_38_method_7_6) rfl ?_
    show Steps p.tables e below (T101.setTop (mkF m 7 #[.val (.ref a1)] [(.int ((0 : Int32) + (1 : Int32))), (.ref a1)])) _
    rw [show ((0 : Int32) + (1 : Int32)) = (1 : Int32) from (by decide)]
    show Steps p.tables e below (T101.setTop (mkF m 7 #[.val (.ref a1)] [(.int (1 : Int32)), (.ref a1)])) _
    refine st102.trans ?_
    show Steps p.tables e below (T102.setTop (mkF m 10 #[.val (.ref a1)] [(.ref b_102)])) _
    exact retOut X102 hx (t := (.array (.object "java/lang/Object"))) (i := .areturn) Bd.returns rfl (Or.inr (Or.inr (Or.inr (Or.inr ⟨rfl, rfl, rfl⟩)))) (hb hby d_jdk_38_method_7_10) hr
  · show Q_gr0 Z a1 mc aE kE h0 n0 _ T102.heap _
    exact ⟨b_102, k_102, rfl, N102, K102, Ek102, Fk_modCount_102, Fk_elementData_102, Fk_size_102, Vb102, Ob102, Eb102, sz_b_102⟩
theorem ef_ad3 (m : MethodId) (a1 : Addr) (aX : Addr) (aE : Addr) : entryFrame m #[(.ref a1), (.ref aX), (.ref aE), (.int (0 : Int32))] 4 = mkF m 0 #[.val (.ref a1), .val (.ref aX), .val (.ref aE), .val (.int (0 : Int32))] [] := by first | (simp [entryFrame, mkF, argsToLocals, Value.category]; done) | rfl
def Q_ad3 (Z : State) (a1 : Addr) (mc : Int32) (aX : Addr) (aE : Addr) (kE : ClassId) (h0 : Heap) (n0 : Nat) (v : Option Value) (h : Heap) (L : List Loc) : Prop := ∃ (b : Addr) (k : ClassId), v = none ∧ Fr n0 L ∧ Keep h0 h [a1] ∧ Exa Z h a1 "java/util/ArrayList" ∧ Fld Z h a1 "java/util/AbstractList" "modCount" "I" (.int mc) ∧ Fld Z h a1 "java/util/ArrayList" "elementData" "[Ljava/lang/Object;" (.ref b) ∧ Fld Z h a1 "java/util/ArrayList" "size" "I" (.int (1 : Int32)) ∧ Arv Z h b k (.object "java/lang/Object") (10 : Int32) [(.ref aX), .null, .null, .null, .null, .null, .null, .null, .null, .null] .null ∧ Ovr Z k "java/lang/Object" ∧ Exa Z h b "[Ljava/lang/Object;" ∧ h0.size ≤ b
set_option maxRecDepth 65536 in
set_option maxHeartbeats 40000000 in
theorem rm_ad3 (l : Launch) (Z : State) (a0 : Array Value) (hw : ∀ d ∈ tables_1, d.before a0 Z = true) (ws : List Jvm.Cond) (a1 : Addr) (mc : Int32) (aX : Addr) (aE : Addr) (kE : ClassId) (h0 : Heap) (n0 : Nat) (O0 : Old Z n0 h0) (E1 : Exa Z h0 a1 "java/util/ArrayList") (F_modCount : Fld Z h0 a1 "java/util/AbstractList" "modCount" "I" (.int mc)) (F_elementData : Fld Z h0 a1 "java/util/ArrayList" "elementData" "[Ljava/lang/Object;" (.ref aE)) (F_size : Fld Z h0 a1 "java/util/ArrayList" "size" "I" (.int (0 : Int32))) (g1 : n0 ≤ a1) (SE : Sta Z Z.heap "java/util/ArrayList" "DEFAULTCAPACITY_EMPTY_ELEMENTDATA" "[Ljava/lang/Object;" (.ref aE)) (VE : Arv Z Z.heap aE kE (.object "java/lang/Object") (0 : Int32) [] .null) (EX : Exa Z h0 aX "com/example/jitney/jitney/Instance$Node") (nX : aX ≠ a1) :
    MetFree l (⟨"java/util/ArrayList", "add", "(Ljava/lang/Object;[Ljava/lang/Object;I)V"⟩ : MethodName) (head1 (Jvm.Cond.code (⟨"java/util/ArrayList", "add", "(Ljava/lang/Object;[Ljava/lang/Object;I)V"⟩ : MethodName) jdk_38_method_24_code 4 none :: ws) ({ frames := 3, cells := 1, slots := 10, locals := 41 } : Room)) (fun a U => a = #[(.ref a1), (.ref aX), (.ref aE), (.int (0 : Int32))] ∧ Z.Warmed39 U.vm ∧ U.heap = h0) (fun _ _ _ _ _ => True) (fun _ U o U' => ∃ v L, o = .returned v ∧ Q_ad3 Z a1 mc aX aE kE h0 n0 v U'.heap L ∧ FrameEnd U o U' L ({ frames := 3, cells := 1, slots := 10, locals := 41 } : Room).cells ({ frames := 3, cells := 1, slots := 10, locals := 41 } : Room).slots) := by
  refine MetFree.of_bodySF (plainFor_of_name pn_6) hisR ?_
  intro p e s m args below meth c s₁ Bd hml0 hP hK
  obtain ⟨rfl, hZ, hh⟩ := hP
  have hx := Bd.exec
  have hby := Bd.bytes
  have hml : c.maxLocals = 4 := hml0
  have hown : s.vm.findClass "java/util/ArrayList" = some m.cls := findClass_of_methodNamed Bd.named
  have hnm := (name_of_methodNamed Bd.named Bd.method).1
  have X0 : Stand p l e ({ frames := 3, cells := 1, slots := 10, locals := 41 } : Room) s m #[(.ref a1), (.ref aX), (.ref aE), (.int (0 : Int32))] below meth c s₁ [] 0 0 := Stand.of_body Bd
  have e0 : s₁.heap = h0 := by rw [← hh, Bd.state]; rfl
  have N0 := Fr.nil n0
  have K0 : Keep h0 h0 [a1] := Keep.refl _ _
  have pre0 : ∀ t, Steps p.tables e below (s₁.setTop (mkF m 0 #[.val (.ref a1), .val (.ref aX), .val (.ref aE), .val (.int (0 : Int32))] [])) t → Steps p.tables e below (s₁.setTop (entryFrame m #[(.ref a1), (.ref aX), (.ref aE), (.int (0 : Int32))] 4)) t := fun t k => castTop (ef_ad3 m a1 aX aE) k
  obtain ⟨cl101, Ar101, -, S101, Ne101, -, -⟩ := id (VE.ext O0.2)
  obtain ⟨cq102, q102, q102'⟩ := E1.cell
  obtain ⟨_, _, ⟨T102, L102, k102, n102⟩, -, X102, ⟨Lc102, hQ102, l102, y102, z102⟩, st102⟩ := X0.privateBack hx (y := (⟨"java/util/ArrayList", "grow", "()[Ljava/lang/Object;"⟩ : MethodName)) hown (mvT hZ (hw _ (List.mem_of_getElem? (i := 64) rfl))) (mvT hZ (hw _ (List.mem_of_getElem? (i := 65) rfl))) (own_selP (y := (⟨"java/util/ArrayList", "grow", "()[Ljava/lang/Object;"⟩ : MethodName)) hZ (hw _ (List.mem_of_getElem? (i := 27) rfl)) (hw _ (List.mem_of_getElem? (i := 66) rfl)) (hw _ (List.mem_of_getElem? (i := 65) rfl)) (by decide)) (Cond.privateMethod_at (mvP hZ (hw _ (List.mem_of_getElem? (i := 66) rfl)) (args := #[]))) (mvT hZ (hw _ (List.mem_of_getElem? (i := 68) rfl))) (by decide) (backOf (W := 0) (rm_gr0 l Z a0 hw [] a1 mc aE kE h0 n0 O0 E1 F_modCount F_elementData F_size g1 SE VE) hZ (hw _ (List.mem_of_getElem? (i := 68) rfl)) (hw _ (List.mem_of_getElem? (i := 28) rfl)) (by decide) (by decide)) (g := (mkF m 7 #[.val (.ref a1), .val (.ref aX), .val (.ref aE), .val (.int (0 : Int32))] [(.ref a1)])) rfl (by rw [hml]; rfl) (Steps.refl _) (a := a1) (by rw [e0]; exact q102) q102' (argsL := []) (rest := []) (lenOf pd_3 rfl) rfl (by show 2 * 0 + _ ≤ _; exact Nat.le_of_eq rfl) (hb hby d_jdk_38_method_24_7) (fun _ _ => ⟨rfl, e0, (by decide : 0 + 1 ≤ _), (by decide : 0 + 10 ≤ _)⟩)
  dsimp only [Pt.U, Pt.locs, Pt.cells, Pt.slots] at X102 l102 y102 z102 st102 hQ102
  subst l102 y102 z102
  obtain ⟨b_102, k_102, rfl, Nq102, Kq102, Ek102, Fk_modCount_102, Fk_elementData_102, Fk_size_102, Vb102, Ob102, Eb102, lb102⟩ := hQ102
  have N102 := Fr.app N0 Nq102
  have g_b_102 : n0 ≤ b_102 := Nat.le_trans (own_szO O0) lb102
  have sz_b_102 : h0.size ≤ b_102 := Nat.le_trans K0.1 lb102
  have ne_a1_b_102 : a1 ≠ b_102 := Nat.ne_of_lt (Nat.lt_of_lt_of_le E1.lt lb102)
  have O102 := O0.keep Kq102 (allS g1 all0)
  have K102 := K0.trans Kq102 (allS (Or.inl (List.mem_of_getElem? (i := 0) rfl)) all0)
  obtain ⟨cl103, Ar103, q103, S103, Ne103, H103, G103⟩ := id Vb102
  have hin103 : ¬ ((0 : Int32) < 0 ∨ cl103.slots.size ≤ ((0 : Int32)).toNatClampNeg) := inb_of S103 ⟨by decide, by decide⟩
  have f104 := (EX.keep Kq102)
  obtain ⟨T105, h105, X105, e105, W105, st105⟩ := stR X102 hx hZ rfl Ar103 (j := (0 : Int32)) hin103 rfl (Sto.ofV Ar103 q103 Ob102 (Ins.of_exa f104 (hw _ (List.mem_of_getElem? (i := 80) rfl)))) (g := (mkF m 14 #[.val (.ref a1), .val (.ref aX), .val (.ref b_102), .val (.int (0 : Int32))] [(.ref aX), (.int (0 : Int32)), (.ref b_102)])) rfl rfl (hb hby d_jdk_38_method_24_14)
  have V105 : Arv Z h105 b_102 k_102 (.object "java/lang/Object") (10 : Int32) [(.ref aX), .null, .null, .null, .null, .null, .null, .null, .null, .null] .null := Arv.set Ar103 q103 S103 Ne103 H103 G103 rfl W105 0 rfl (Nat.le_of_ble_eq_true rfl)
  have N105 := Fr.snoc X105 N102 g_b_102
  have O105 := O102.wr W105 g_b_102
  have K105 := K102.wr W105 (Or.inr sz_b_102)
  have f106 := (Ek102.wr W105)
  have f107 := (Fk_size_102.other W105 (Or.inl ne_a1_b_102))
  obtain ⟨T108, h108, X108, e108, W108, st108⟩ := putF X105 hx hZ hown (host := "") (Or.inl (hw _ (List.mem_of_getElem? (i := 57) rfl))) Via.refl e105 f107 f106 (Or.inl (hw _ (List.mem_of_getElem? (i := 58) rfl))) (hw _ (List.mem_of_getElem? (i := 27) rfl)) (ty := .int) (by decide) rfl rfl (g := (mkF m 19 #[.val (.ref a1), .val (.ref aX), .val (.ref b_102), .val (.int (0 : Int32))] [(.int (1 : Int32)), (.ref a1)])) rfl rfl (hb hby d_jdk_38_method_24_19)
  have F108 := f107.same W108
  have N108 := Fr.snoc X108 N105 g1
  have O108 := O105.wr W108 g1
  have K108 := K105.wr W108 (Or.inl (List.mem_of_getElem? (i := 0) rfl))
  have f109 := (f106.wr W108)
  have f110 := ((Fk_modCount_102.other W105 (Or.inl ne_a1_b_102)).other W108 (Or.inr (slot_ne (Or.inl (hw _ (List.mem_of_getElem? (i := 46) rfl))) (Or.inl (hw _ (List.mem_of_getElem? (i := 58) rfl))) (by decide) (t := .int) (t' := .int) (by decide) (by decide))))
  have f111 := ((Fk_elementData_102.other W105 (Or.inl ne_a1_b_102)).other W108 (Or.inr (slot_ne (Or.inl (hw _ (List.mem_of_getElem? (i := 49) rfl))) (Or.inl (hw _ (List.mem_of_getElem? (i := 58) rfl))) (by decide) (t := (.array (.object "java/lang/Object"))) (t' := .int) (by decide) (by decide))))
  have f112 := (V105.other W108 (Ne.symm ne_a1_b_102))
  have f113 := ((Eb102.wr W105).wr W108)
  obtain ⟨fs, hr, hrun, hended, hW, hsame⟩ := X108.leave (v := none) (fun _ => rfl)
  refine ⟨_, _, pre0 _ ?_, hrun, hended, _, _, rfl, ?_, ⟨_, rfl⟩, hW, hsame.mono (by decide) (by decide)⟩
  · show Steps p.tables e below (s₁.setTop (mkF m 0 #[.val (.ref a1), .val (.ref aX), .val (.ref aE), .val (.int (0 : Int32))] [])) _
    refine XS.iloadN X0.here hx rfl (hb hby d_jdk_38_method_24_0) rfl ?_
    refine XS.aloadN X0.here hx rfl (hb hby d_jdk_38_method_24_1) rfl rfl ?_
    show Steps p.tables e below (s₁.setTop (mkF m 2 #[.val (.ref a1), .val (.ref aX), .val (.ref aE), .val (.int (0 : Int32))] [(.ref aE), (.int (0 : Int32))])) _
    refine X0.arraylength hx (by rw [e0]; exact Ar101.1) (State.isArrayOf_alike hZ.alike Ar101.2.1) (g := (mkF m 2 #[.val (.ref a1), .val (.ref aX), .val (.ref aE), .val (.int (0 : Int32))] [(.ref aE), (.int (0 : Int32))])) rfl rfl (hb hby d_jdk_38_method_24_2) _ ?_
    rw [len_of S101 Ne101]
    show Steps p.tables e below (s₁.setTop (mkF m 3 #[.val (.ref a1), .val (.ref aX), .val (.ref aE), .val (.int (0 : Int32))] [(.int (0 : Int32)), (.int (0 : Int32))])) _
    refine XS.icmpNo X0.here hx rfl (hb hby d_jdk_38_method_24_3) rfl (teq (by decide : (0 : Int32) = (0 : Int32))).2 ?_
    refine XS.aloadN X0.here hx rfl (hb hby d_jdk_38_method_24_6) rfl rfl ?_
    show Steps p.tables e below (s₁.setTop (mkF m 7 #[.val (.ref a1), .val (.ref aX), .val (.ref aE), .val (.int (0 : Int32))] [(.ref a1)])) _
    refine st102.trans ?_
    show Steps p.tables e below (T102.setTop (mkF m 10 #[.val (.ref a1), .val (.ref aX), .val (.ref aE), .val (.int (0 : Int32))] [(.ref b_102)])) _
    refine XS.astoreN X102.here hx rfl (hb hby d_jdk_38_method_24_10) rfl rfl (l' := #[.val (.ref a1), .val (.ref aX), .val (.ref b_102), .val (.int (0 : Int32))]) rfl ?_
    refine XS.aloadN X102.here hx rfl (hb hby d_jdk_38_method_24_11) rfl rfl ?_
    refine XS.iloadN X102.here hx rfl (hb hby d_jdk_38_method_24_12) rfl ?_
    refine XS.aloadN X102.here hx rfl (hb hby d_jdk_38_method_24_13) rfl rfl ?_
    show Steps p.tables e below (T102.setTop (mkF m 14 #[.val (.ref a1), .val (.ref aX), .val (.ref b_102), .val (.int (0 : Int32))] [(.ref aX), (.int (0 : Int32)), (.ref b_102)])) _
    refine st105 _ ?_
    show Steps p.tables e below (T105.setTop (mkF m 15 #[.val (.ref a1), .val (.ref aX), .val (.ref b_102), .val (.int (0 : Int32))] [])) _
    refine XS.aloadN X105.here hx rfl (hb hby d_jdk_38_method_24_15) rfl rfl ?_
    refine XS.iloadN X105.here hx rfl (hb hby d_jdk_38_method_24_16) rfl ?_
    refine XS.iconst X105.here hx rfl (hb hby d_jdk_38_method_24_17) ?_
    refine XS.iadd X105.here hx rfl (hb hby d_jdk_38_method_24_18) rfl ?_
    show Steps p.tables e below (T105.setTop (mkF m 19 #[.val (.ref a1), .val (.ref aX), .val (.ref b_102), .val (.int (0 : Int32))] [(.int ((0 : Int32) + (1 : Int32))), (.ref a1)])) _
    rw [show ((0 : Int32) + (1 : Int32)) = (1 : Int32) from (by decide)]
    show Steps p.tables e below (T105.setTop (mkF m 19 #[.val (.ref a1), .val (.ref aX), .val (.ref b_102), .val (.int (0 : Int32))] [(.int (1 : Int32)), (.ref a1)])) _
    refine st108 _ ?_
    show Steps p.tables e below (T108.setTop (mkF m 22 #[.val (.ref a1), .val (.ref aX), .val (.ref b_102), .val (.int (0 : Int32))] [])) _
    exact X108.returnOut hx Bd.returns (hb hby d_jdk_38_method_24_22) hr
  · show Q_ad3 Z a1 mc aX aE kE h0 n0 _ T108.heap _
    rw [e108]
    exact ⟨b_102, k_102, rfl, N108, K108, f109, f110, f111, F108, f112, Ob102, f113, sz_b_102⟩
theorem ef_ad1 (m : MethodId) (a1 : Addr) (aX : Addr) : entryFrame m #[(.ref a1), (.ref aX)] 2 = mkF m 0 #[.val (.ref a1), .val (.ref aX)] [] := by first | (simp [entryFrame, mkF, argsToLocals, Value.category]; done) | rfl
def Q_ad1 (Z : State) (a1 : Addr) (mc : Int32) (aX : Addr) (aE : Addr) (kE : ClassId) (h0 : Heap) (n0 : Nat) (v : Option Value) (h : Heap) (L : List Loc) : Prop := ∃ (b : Addr) (k : ClassId), v = some (.int (1 : Int32)) ∧ Fr n0 L ∧ Keep h0 h [a1] ∧ Exa Z h a1 "java/util/ArrayList" ∧ Fld Z h a1 "java/util/AbstractList" "modCount" "I" (.int (mc + (1 : Int32))) ∧ Fld Z h a1 "java/util/ArrayList" "elementData" "[Ljava/lang/Object;" (.ref b) ∧ Fld Z h a1 "java/util/ArrayList" "size" "I" (.int (1 : Int32)) ∧ Arv Z h b k (.object "java/lang/Object") (10 : Int32) [(.ref aX), .null, .null, .null, .null, .null, .null, .null, .null, .null] .null ∧ Ovr Z k "java/lang/Object" ∧ Exa Z h b "[Ljava/lang/Object;" ∧ h0.size ≤ b
set_option maxRecDepth 65536 in
set_option maxHeartbeats 40000000 in
theorem rm_ad1 (l : Launch) (Z : State) (a0 : Array Value) (hw : ∀ d ∈ tables_1, d.before a0 Z = true) (ws : List Jvm.Cond) (a1 : Addr) (mc : Int32) (aX : Addr) (aE : Addr) (kE : ClassId) (h0 : Heap) (n0 : Nat) (O0 : Old Z n0 h0) (E1 : Exa Z h0 a1 "java/util/ArrayList") (F_modCount : Fld Z h0 a1 "java/util/AbstractList" "modCount" "I" (.int mc)) (F_elementData : Fld Z h0 a1 "java/util/ArrayList" "elementData" "[Ljava/lang/Object;" (.ref aE)) (F_size : Fld Z h0 a1 "java/util/ArrayList" "size" "I" (.int (0 : Int32))) (g1 : n0 ≤ a1) (SE : Sta Z Z.heap "java/util/ArrayList" "DEFAULTCAPACITY_EMPTY_ELEMENTDATA" "[Ljava/lang/Object;" (.ref aE)) (VE : Arv Z Z.heap aE kE (.object "java/lang/Object") (0 : Int32) [] .null) (EX : Exa Z h0 aX "com/example/jitney/jitney/Instance$Node") (nX : aX ≠ a1) :
    MetFree l (⟨"java/util/ArrayList", "add", "(Ljava/lang/Object;)Z"⟩ : MethodName) (head1 (Jvm.Cond.code (⟨"java/util/ArrayList", "add", "(Ljava/lang/Object;)Z"⟩ : MethodName) jdk_38_method_25_code 2 (some .boolean) :: ws) ({ frames := 4, cells := 1, slots := 10, locals := 56 } : Room)) (fun a U => a = #[(.ref a1), (.ref aX)] ∧ Z.Warmed39 U.vm ∧ U.heap = h0) (fun _ _ _ _ _ => True) (fun _ U o U' => ∃ v L, o = .returned v ∧ Q_ad1 Z a1 mc aX aE kE h0 n0 v U'.heap L ∧ FrameEnd U o U' L ({ frames := 4, cells := 1, slots := 10, locals := 56 } : Room).cells ({ frames := 4, cells := 1, slots := 10, locals := 56 } : Room).slots) := by
  refine MetFree.of_bodySF (plainFor_of_name pn_6) hisR ?_
  intro p e s m args below meth c s₁ Bd hml0 hP hK
  obtain ⟨rfl, hZ, hh⟩ := hP
  have hx := Bd.exec
  have hby := Bd.bytes
  have hml : c.maxLocals = 2 := hml0
  have hown : s.vm.findClass "java/util/ArrayList" = some m.cls := findClass_of_methodNamed Bd.named
  have hnm := (name_of_methodNamed Bd.named Bd.method).1
  have X0 : Stand p l e ({ frames := 4, cells := 1, slots := 10, locals := 56 } : Room) s m #[(.ref a1), (.ref aX)] below meth c s₁ [] 0 0 := Stand.of_body Bd
  have e0 : s₁.heap = h0 := by rw [← hh, Bd.state]; rfl
  have N0 := Fr.nil n0
  have K0 : Keep h0 h0 [a1] := Keep.refl _ _
  have pre0 : ∀ t, Steps p.tables e below (s₁.setTop (mkF m 0 #[.val (.ref a1), .val (.ref aX)] [])) t → Steps p.tables e below (s₁.setTop (entryFrame m #[(.ref a1), (.ref aX)] 2)) t := fun t k => castTop (ef_ad1 m a1 aX) k
  obtain ⟨T101, X101, e101, st101⟩ := getF X0 hx hZ hown (host := "") (Or.inl (hw _ (List.mem_of_getElem? (i := 55) rfl))) (Via.of (hw _ (List.mem_of_getElem? (i := 56) rfl))) e0 F_modCount (g := (mkF m 2 #[.val (.ref a1), .val (.ref aX)] [(.ref a1), (.ref a1)])) rfl rfl (hb hby d_jdk_38_method_25_2)
  obtain ⟨T102, h102, X102, e102, W102, st102⟩ := putF X101 hx hZ hown (host := "") (Or.inl (hw _ (List.mem_of_getElem? (i := 55) rfl))) (Via.of (hw _ (List.mem_of_getElem? (i := 56) rfl))) e101 F_modCount E1 (Or.inl (hw _ (List.mem_of_getElem? (i := 46) rfl))) (hw _ (List.mem_of_getElem? (i := 27) rfl)) (ty := .int) (by decide) rfl rfl (g := (mkF m 7 #[.val (.ref a1), .val (.ref aX)] [(.int (mc + (1 : Int32))), (.ref a1)])) rfl rfl (hb hby d_jdk_38_method_25_7)
  have F102 := F_modCount.same W102
  have N102 := Fr.snoc X102 N0 g1
  have O102 := O0.wr W102 g1
  have K102 := K0.wr W102 (Or.inl (List.mem_of_getElem? (i := 0) rfl))
  have f103 := (F_elementData.other W102 (Or.inr (slot_ne (Or.inl (hw _ (List.mem_of_getElem? (i := 49) rfl))) (Or.inl (hw _ (List.mem_of_getElem? (i := 46) rfl))) (by decide) (t := (.array (.object "java/lang/Object"))) (t' := .int) (by decide) (by decide))))
  obtain ⟨T104, X104, e104, st104⟩ := getF X102 hx hZ hown (host := "") (Or.inl (hw _ (List.mem_of_getElem? (i := 48) rfl))) Via.refl e102 f103 (g := (mkF m 13 #[.val (.ref a1), .val (.ref aX)] [(.ref a1), (.ref aX), (.ref a1)])) rfl rfl (hb hby d_jdk_38_method_25_13)
  have f105 := (F_size.other W102 (Or.inr (slot_ne (Or.inl (hw _ (List.mem_of_getElem? (i := 58) rfl))) (Or.inl (hw _ (List.mem_of_getElem? (i := 46) rfl))) (by decide) (t := .int) (t' := .int) (by decide) (by decide))))
  obtain ⟨T106, X106, e106, st106⟩ := getF X104 hx hZ hown (host := "") (Or.inl (hw _ (List.mem_of_getElem? (i := 57) rfl))) Via.refl e104 f105 (g := (mkF m 17 #[.val (.ref a1), .val (.ref aX)] [(.ref a1), (.ref aE), (.ref aX), (.ref a1)])) rfl rfl (hb hby d_jdk_38_method_25_17)
  have f107 := (E1.wr W102)
  have f108 := (EX.wr W102)
  obtain ⟨cq109, q109, q109'⟩ := f107.cell
  obtain ⟨_, _, ⟨T109, L109, k109, n109⟩, -, X109, ⟨Lc109, hQ109, l109, y109, z109⟩, st109⟩ := X106.privateBack hx (y := (⟨"java/util/ArrayList", "add", "(Ljava/lang/Object;[Ljava/lang/Object;I)V"⟩ : MethodName)) hown (mvT hZ (hw _ (List.mem_of_getElem? (i := 59) rfl))) (mvT hZ (hw _ (List.mem_of_getElem? (i := 60) rfl))) (own_selP (y := (⟨"java/util/ArrayList", "add", "(Ljava/lang/Object;[Ljava/lang/Object;I)V"⟩ : MethodName)) hZ (hw _ (List.mem_of_getElem? (i := 27) rfl)) (hw _ (List.mem_of_getElem? (i := 61) rfl)) (hw _ (List.mem_of_getElem? (i := 60) rfl)) (by decide)) (Cond.privateMethod_at (mvP hZ (hw _ (List.mem_of_getElem? (i := 61) rfl)) (args := #[]))) (mvT hZ (hw _ (List.mem_of_getElem? (i := 63) rfl))) (by decide) (backOf (W := 0) (rm_ad3 l Z a0 hw [] a1 (mc + (1 : Int32)) aX aE kE h102 n0 O102 f107 F102 f103 f105 g1 SE VE f108 nX) hZ (hw _ (List.mem_of_getElem? (i := 63) rfl)) (hw _ (List.mem_of_getElem? (i := 28) rfl)) (by decide) (by decide)) (g := (mkF m 20 #[.val (.ref a1), .val (.ref aX)] [(.int (0 : Int32)), (.ref aE), (.ref aX), (.ref a1)])) rfl (by rw [hml]; rfl) (Steps.refl _) (a := a1) (by rw [e106]; exact q109) q109' (argsL := [(.ref aX), (.ref aE), (.int (0 : Int32))]) (rest := []) (lenOf pd_4 rfl) rfl (by show 2 * 0 + _ ≤ _; exact Nat.le_of_eq rfl) (hb hby d_jdk_38_method_25_20) (fun _ _ => ⟨rfl, e106, (by decide : 0 + 1 ≤ _), (by decide : 0 + 10 ≤ _)⟩)
  dsimp only [Pt.U, Pt.locs, Pt.cells, Pt.slots] at X109 l109 y109 z109 st109 hQ109
  subst l109 y109 z109
  obtain ⟨b_109, k_109, rfl, Nq109, Kq109, Ek109, Fk_modCount_109, Fk_elementData_109, Fk_size_109, Vb109, Ob109, Eb109, lb109⟩ := hQ109
  have N109 := Fr.app N102 Nq109
  have g_b_109 : n0 ≤ b_109 := Nat.le_trans (own_szO O102) lb109
  have sz_b_109 : h0.size ≤ b_109 := Nat.le_trans K102.1 lb109
  have ne_a1_b_109 : a1 ≠ b_109 := Nat.ne_of_lt (Nat.lt_of_lt_of_le f107.lt lb109)
  have O109 := O102.keep Kq109 (allS g1 all0)
  have K109 := K102.trans Kq109 (allS (Or.inl (List.mem_of_getElem? (i := 0) rfl)) all0)
  obtain ⟨fs, hr, hrun, hended, hW, hsame⟩ := X109.leave (v := some (.int (1 : Int32))) (fun h => by rw [Bd.returns] at h; cases h)
  refine ⟨_, _, pre0 _ ?_, hrun, hended, _, _, rfl, ?_, ⟨_, rfl⟩, hW, hsame.mono (by decide) (by decide)⟩
  · show Steps p.tables e below (s₁.setTop (mkF m 0 #[.val (.ref a1), .val (.ref aX)] [])) _
    refine XS.aloadN X0.here hx rfl (hb hby d_jdk_38_method_25_0) rfl rfl ?_
    refine XS.dup X0.here hx rfl (hb hby d_jdk_38_method_25_1) rfl rfl ?_
    show Steps p.tables e below (s₁.setTop (mkF m 2 #[.val (.ref a1), .val (.ref aX)] [(.ref a1), (.ref a1)])) _
    refine st101 _ ?_
    show Steps p.tables e below (T101.setTop (mkF m 5 #[.val (.ref a1), .val (.ref aX)] [(.int mc), (.ref a1)])) _
    refine XS.iconst X101.here hx rfl (hb hby d_jdk_38_method_25_5) ?_
    refine XS.iadd X101.here hx rfl (hb hby d_jdk_38_method_25_6) rfl ?_
    show Steps p.tables e below (T101.setTop (mkF m 7 #[.val (.ref a1), .val (.ref aX)] [(.int (mc + (1 : Int32))), (.ref a1)])) _
    refine st102 _ ?_
    show Steps p.tables e below (T102.setTop (mkF m 10 #[.val (.ref a1), .val (.ref aX)] [])) _
    refine XS.aloadN X102.here hx rfl (hb hby d_jdk_38_method_25_10) rfl rfl ?_
    refine XS.aloadN X102.here hx rfl (hb hby d_jdk_38_method_25_11) rfl rfl ?_
    refine XS.aloadN X102.here hx rfl (hb hby d_jdk_38_method_25_12) rfl rfl ?_
    show Steps p.tables e below (T102.setTop (mkF m 13 #[.val (.ref a1), .val (.ref aX)] [(.ref a1), (.ref aX), (.ref a1)])) _
    refine st104 _ ?_
    show Steps p.tables e below (T104.setTop (mkF m 16 #[.val (.ref a1), .val (.ref aX)] [(.ref aE), (.ref aX), (.ref a1)])) _
    refine XS.aloadN X104.here hx rfl (hb hby d_jdk_38_method_25_16) rfl rfl ?_
    show Steps p.tables e below (T104.setTop (mkF m 17 #[.val (.ref a1), .val (.ref aX)] [(.ref a1), (.ref aE), (.ref aX), (.ref a1)])) _
    refine st106 _ ?_
    show Steps p.tables e below (T106.setTop (mkF m 20 #[.val (.ref a1), .val (.ref aX)] [(.int (0 : Int32)), (.ref aE), (.ref aX), (.ref a1)])) _
    refine st109.trans ?_
    show Steps p.tables e below (T109.setTop (mkF m 23 #[.val (.ref a1), .val (.ref aX)] [])) _
    refine XS.iconst X109.here hx rfl (hb hby d_jdk_38_method_25_23) ?_
    show Steps p.tables e below (T109.setTop (mkF m 24 #[.val (.ref a1), .val (.ref aX)] [(.int (1 : Int32))])) _
    exact retOut X109 hx (t := .boolean) (i := .ireturn) Bd.returns rfl (Or.inl ⟨rfl, Or.inr (Or.inl rfl), _, rfl⟩) (hb hby d_jdk_38_method_25_24) hr
  · show Q_ad1 Z a1 mc aX aE kE h0 n0 _ T109.heap _
    exact ⟨b_109, k_109, rfl, N109, K109, Ek109, Fk_modCount_109, Fk_elementData_109, Fk_size_109, Vb109, Ob109, Eb109, sz_b_109⟩
theorem ef_an3 (m : MethodId) (a1 : Addr) (aX : Addr) (n : Int32) (b : Addr) : entryFrame m #[(.ref a1), (.ref aX), (.ref b), (.int n)] 4 = mkF m 0 #[.val (.ref a1), .val (.ref aX), .val (.ref b), .val (.int n)] [] := by first | (simp [entryFrame, mkF, argsToLocals, Value.category]; done) | rfl
def Q_an3 (Z : State) (a1 : Addr) (mc : Int32) (aX : Addr) (n : Int32) (b : Addr) (kb : ClassId) (vs : List Value) (h0 : Heap) (n0 : Nat) (v : Option Value) (h : Heap) (L : List Loc) : Prop := v = none ∧ Fr n0 L ∧ Keep h0 h [a1, b] ∧ Exa Z h a1 "java/util/ArrayList" ∧ Fld Z h a1 "java/util/AbstractList" "modCount" "I" (.int mc) ∧ Fld Z h a1 "java/util/ArrayList" "elementData" "[Ljava/lang/Object;" (.ref b) ∧ Fld Z h a1 "java/util/ArrayList" "size" "I" (.int (n + (1 : Int32))) ∧ Arv Z h b kb (.object "java/lang/Object") (10 : Int32) (vs.set n.toNatClampNeg (.ref aX)) .null
set_option maxRecDepth 65536 in
set_option maxHeartbeats 40000000 in
theorem rm_an3 (l : Launch) (Z : State) (a0 : Array Value) (hw : ∀ d ∈ tables_1, d.before a0 Z = true) (ws : List Jvm.Cond) (a1 : Addr) (mc : Int32) (aX : Addr) (n : Int32) (b : Addr) (kb : ClassId) (vs : List Value) (h0 : Heap) (n0 : Nat) (O0 : Old Z n0 h0) (E1 : Exa Z h0 a1 "java/util/ArrayList") (F_modCount : Fld Z h0 a1 "java/util/AbstractList" "modCount" "I" (.int mc)) (F_elementData : Fld Z h0 a1 "java/util/ArrayList" "elementData" "[Ljava/lang/Object;" (.ref b)) (F_size : Fld Z h0 a1 "java/util/ArrayList" "size" "I" (.int n)) (g1 : n0 ≤ a1) (gb : n0 ≤ b) (EX : Exa Z h0 aX "com/example/jitney/jitney/Instance$Node") (VB : Arv Z h0 b kb (.object "java/lang/Object") (10 : Int32) vs .null) (OB : Ovr Z kb "java/lang/Object") (nX : aX ≠ a1) (nXb : aX ≠ b) (nb : a1 ≠ b) (hn : ¬ n < 0 ∧ n < (10 : Int32)) (hvl : n.toNatClampNeg < vs.length) :
    MetFree l (⟨"java/util/ArrayList", "add", "(Ljava/lang/Object;[Ljava/lang/Object;I)V"⟩ : MethodName) (head1 (Jvm.Cond.code (⟨"java/util/ArrayList", "add", "(Ljava/lang/Object;[Ljava/lang/Object;I)V"⟩ : MethodName) jdk_38_method_24_code 4 none :: ws) ({ frames := 0, cells := 0, slots := 0, locals := 0 } : Room)) (fun a U => a = #[(.ref a1), (.ref aX), (.ref b), (.int n)] ∧ Z.Warmed39 U.vm ∧ U.heap = h0) (fun _ _ _ _ _ => True) (fun _ U o U' => ∃ v L, o = .returned v ∧ Q_an3 Z a1 mc aX n b kb vs h0 n0 v U'.heap L ∧ FrameEnd U o U' L ({ frames := 0, cells := 0, slots := 0, locals := 0 } : Room).cells ({ frames := 0, cells := 0, slots := 0, locals := 0 } : Room).slots) := by
  refine MetFree.of_bodySF (plainFor_of_name pn_6) hisR ?_
  intro p e s m args below meth c s₁ Bd hml0 hP hK
  obtain ⟨rfl, hZ, hh⟩ := hP
  have hx := Bd.exec
  have hby := Bd.bytes
  have hml : c.maxLocals = 4 := hml0
  have hown : s.vm.findClass "java/util/ArrayList" = some m.cls := findClass_of_methodNamed Bd.named
  have hnm := (name_of_methodNamed Bd.named Bd.method).1
  have X0 : Stand p l e ({ frames := 0, cells := 0, slots := 0, locals := 0 } : Room) s m #[(.ref a1), (.ref aX), (.ref b), (.int n)] below meth c s₁ [] 0 0 := Stand.of_body Bd
  have e0 : s₁.heap = h0 := by rw [← hh, Bd.state]; rfl
  have N0 := Fr.nil n0
  have K0 : Keep h0 h0 [a1, b] := Keep.refl _ _
  have pre0 : ∀ t, Steps p.tables e below (s₁.setTop (mkF m 0 #[.val (.ref a1), .val (.ref aX), .val (.ref b), .val (.int n)] [])) t → Steps p.tables e below (s₁.setTop (entryFrame m #[(.ref a1), (.ref aX), (.ref b), (.int n)] 4)) t := fun t k => castTop (ef_an3 m a1 aX n b) k
  obtain ⟨cl101, Ar101, -, S101, Ne101, -, -⟩ := id VB
  have hc102 : ¬ (n = (10 : Int32)) := (fun q => absurd hn.2 (by rw [q]; decide))
  obtain ⟨cl103, Ar103, q103, S103, Ne103, H103, G103⟩ := id VB
  have hin103 : ¬ (n < 0 ∨ cl103.slots.size ≤ (n).toNatClampNeg) := inb_of S103 hn
  obtain ⟨T104, h104, X104, e104, W104, st104⟩ := stR X0 hx hZ e0 Ar103 (j := n) hin103 rfl (Sto.ofV Ar103 q103 OB (Ins.of_exa EX (hw _ (List.mem_of_getElem? (i := 80) rfl)))) (g := (mkF m 14 #[.val (.ref a1), .val (.ref aX), .val (.ref b), .val (.int n)] [(.ref aX), (.int n), (.ref b)])) rfl rfl (hb hby d_jdk_38_method_24_14)
  have V104 : Arv Z h104 b kb (.object "java/lang/Object") (10 : Int32) (vs.set n.toNatClampNeg (.ref aX)) .null := Arv.set Ar103 q103 S103 Ne103 H103 G103 rfl W104 n.toNatClampNeg rfl hvl
  have N104 := Fr.snoc X104 N0 gb
  have O104 := O0.wr W104 gb
  have K104 := K0.wr W104 (Or.inl (List.mem_of_getElem? (i := 1) rfl))
  have f105 := (E1.wr W104)
  have f106 := (F_size.other W104 (Or.inl nb))
  obtain ⟨T107, h107, X107, e107, W107, st107⟩ := putF X104 hx hZ hown (host := "") (Or.inl (hw _ (List.mem_of_getElem? (i := 57) rfl))) Via.refl e104 f106 f105 (Or.inl (hw _ (List.mem_of_getElem? (i := 58) rfl))) (hw _ (List.mem_of_getElem? (i := 27) rfl)) (ty := .int) (by decide) rfl rfl (g := (mkF m 19 #[.val (.ref a1), .val (.ref aX), .val (.ref b), .val (.int n)] [(.int (n + (1 : Int32))), (.ref a1)])) rfl rfl (hb hby d_jdk_38_method_24_19)
  have F107 := f106.same W107
  have N107 := Fr.snoc X107 N104 g1
  have O107 := O104.wr W107 g1
  have K107 := K104.wr W107 (Or.inl (List.mem_of_getElem? (i := 0) rfl))
  have f108 := (f105.wr W107)
  have f109 := ((F_modCount.other W104 (Or.inl nb)).other W107 (Or.inr (slot_ne (Or.inl (hw _ (List.mem_of_getElem? (i := 46) rfl))) (Or.inl (hw _ (List.mem_of_getElem? (i := 58) rfl))) (by decide) (t := .int) (t' := .int) (by decide) (by decide))))
  have f110 := ((F_elementData.other W104 (Or.inl nb)).other W107 (Or.inr (slot_ne (Or.inl (hw _ (List.mem_of_getElem? (i := 49) rfl))) (Or.inl (hw _ (List.mem_of_getElem? (i := 58) rfl))) (by decide) (t := (.array (.object "java/lang/Object"))) (t' := .int) (by decide) (by decide))))
  have f111 := (V104.other W107 (Ne.symm nb))
  obtain ⟨fs, hr, hrun, hended, hW, hsame⟩ := X107.leave (v := none) (fun _ => rfl)
  refine ⟨_, _, pre0 _ ?_, hrun, hended, _, _, rfl, ?_, ⟨_, rfl⟩, hW, hsame.mono (by decide) (by decide)⟩
  · show Steps p.tables e below (s₁.setTop (mkF m 0 #[.val (.ref a1), .val (.ref aX), .val (.ref b), .val (.int n)] [])) _
    refine XS.iloadN X0.here hx rfl (hb hby d_jdk_38_method_24_0) rfl ?_
    refine XS.aloadN X0.here hx rfl (hb hby d_jdk_38_method_24_1) rfl rfl ?_
    show Steps p.tables e below (s₁.setTop (mkF m 2 #[.val (.ref a1), .val (.ref aX), .val (.ref b), .val (.int n)] [(.ref b), (.int n)])) _
    refine X0.arraylength hx (by rw [e0]; exact Ar101.1) (State.isArrayOf_alike hZ.alike Ar101.2.1) (g := (mkF m 2 #[.val (.ref a1), .val (.ref aX), .val (.ref b), .val (.int n)] [(.ref b), (.int n)])) rfl rfl (hb hby d_jdk_38_method_24_2) _ ?_
    rw [len_of S101 Ne101]
    show Steps p.tables e below (s₁.setTop (mkF m 3 #[.val (.ref a1), .val (.ref aX), .val (.ref b), .val (.int n)] [(.int (10 : Int32)), (.int n)])) _
    refine XS.icmpYes X0.here hx rfl (pc0 := 3) (pc' := 11) rfl (hb hby d_jdk_38_method_24_3) rfl (feq hc102).2 (by decide) (by decide) ?_
    refine XS.aloadN X0.here hx rfl (hb hby d_jdk_38_method_24_11) rfl rfl ?_
    refine XS.iloadN X0.here hx rfl (hb hby d_jdk_38_method_24_12) rfl ?_
    refine XS.aloadN X0.here hx rfl (hb hby d_jdk_38_method_24_13) rfl rfl ?_
    show Steps p.tables e below (s₁.setTop (mkF m 14 #[.val (.ref a1), .val (.ref aX), .val (.ref b), .val (.int n)] [(.ref aX), (.int n), (.ref b)])) _
    refine st104 _ ?_
    show Steps p.tables e below (T104.setTop (mkF m 15 #[.val (.ref a1), .val (.ref aX), .val (.ref b), .val (.int n)] [])) _
    refine XS.aloadN X104.here hx rfl (hb hby d_jdk_38_method_24_15) rfl rfl ?_
    refine XS.iloadN X104.here hx rfl (hb hby d_jdk_38_method_24_16) rfl ?_
    refine XS.iconst X104.here hx rfl (hb hby d_jdk_38_method_24_17) ?_
    refine XS.iadd X104.here hx rfl (hb hby d_jdk_38_method_24_18) rfl ?_
    show Steps p.tables e below (T104.setTop (mkF m 19 #[.val (.ref a1), .val (.ref aX), .val (.ref b), .val (.int n)] [(.int (n + (1 : Int32))), (.ref a1)])) _
    refine st107 _ ?_
    show Steps p.tables e below (T107.setTop (mkF m 22 #[.val (.ref a1), .val (.ref aX), .val (.ref b), .val (.int n)] [])) _
    exact X107.returnOut hx Bd.returns (hb hby d_jdk_38_method_24_22) hr
  · show Q_an3 Z a1 mc aX n b kb vs h0 n0 _ T107.heap _
    rw [e107]
    exact ⟨rfl, N107, K107, f108, f109, f110, F107, f111⟩
theorem ef_an1 (m : MethodId) (a1 : Addr) (aX : Addr) : entryFrame m #[(.ref a1), (.ref aX)] 2 = mkF m 0 #[.val (.ref a1), .val (.ref aX)] [] := by first | (simp [entryFrame, mkF, argsToLocals, Value.category]; done) | rfl
def Q_an1 (Z : State) (a1 : Addr) (mc : Int32) (aX : Addr) (n : Int32) (b : Addr) (kb : ClassId) (vs : List Value) (h0 : Heap) (n0 : Nat) (v : Option Value) (h : Heap) (L : List Loc) : Prop := v = some (.int (1 : Int32)) ∧ Fr n0 L ∧ Keep h0 h [a1, b] ∧ Exa Z h a1 "java/util/ArrayList" ∧ Fld Z h a1 "java/util/AbstractList" "modCount" "I" (.int (mc + (1 : Int32))) ∧ Fld Z h a1 "java/util/ArrayList" "elementData" "[Ljava/lang/Object;" (.ref b) ∧ Fld Z h a1 "java/util/ArrayList" "size" "I" (.int (n + (1 : Int32))) ∧ Arv Z h b kb (.object "java/lang/Object") (10 : Int32) (vs.set n.toNatClampNeg (.ref aX)) .null
set_option maxRecDepth 65536 in
set_option maxHeartbeats 40000000 in
theorem rm_an1 (l : Launch) (Z : State) (a0 : Array Value) (hw : ∀ d ∈ tables_1, d.before a0 Z = true) (ws : List Jvm.Cond) (a1 : Addr) (mc : Int32) (aX : Addr) (n : Int32) (b : Addr) (kb : ClassId) (vs : List Value) (h0 : Heap) (n0 : Nat) (O0 : Old Z n0 h0) (E1 : Exa Z h0 a1 "java/util/ArrayList") (F_modCount : Fld Z h0 a1 "java/util/AbstractList" "modCount" "I" (.int mc)) (F_elementData : Fld Z h0 a1 "java/util/ArrayList" "elementData" "[Ljava/lang/Object;" (.ref b)) (F_size : Fld Z h0 a1 "java/util/ArrayList" "size" "I" (.int n)) (g1 : n0 ≤ a1) (gb : n0 ≤ b) (EX : Exa Z h0 aX "com/example/jitney/jitney/Instance$Node") (VB : Arv Z h0 b kb (.object "java/lang/Object") (10 : Int32) vs .null) (OB : Ovr Z kb "java/lang/Object") (nX : aX ≠ a1) (nXb : aX ≠ b) (nb : a1 ≠ b) (hn : ¬ n < 0 ∧ n < (10 : Int32)) (hvl : n.toNatClampNeg < vs.length) :
    MetFree l (⟨"java/util/ArrayList", "add", "(Ljava/lang/Object;)Z"⟩ : MethodName) (head1 (Jvm.Cond.code (⟨"java/util/ArrayList", "add", "(Ljava/lang/Object;)Z"⟩ : MethodName) jdk_38_method_25_code 2 (some .boolean) :: ws) ({ frames := 1, cells := 0, slots := 0, locals := 15 } : Room)) (fun a U => a = #[(.ref a1), (.ref aX)] ∧ Z.Warmed39 U.vm ∧ U.heap = h0) (fun _ _ _ _ _ => True) (fun _ U o U' => ∃ v L, o = .returned v ∧ Q_an1 Z a1 mc aX n b kb vs h0 n0 v U'.heap L ∧ FrameEnd U o U' L ({ frames := 1, cells := 0, slots := 0, locals := 15 } : Room).cells ({ frames := 1, cells := 0, slots := 0, locals := 15 } : Room).slots) := by
  refine MetFree.of_bodySF (plainFor_of_name pn_6) hisR ?_
  intro p e s m args below meth c s₁ Bd hml0 hP hK
  obtain ⟨rfl, hZ, hh⟩ := hP
  have hx := Bd.exec
  have hby := Bd.bytes
  have hml : c.maxLocals = 2 := hml0
  have hown : s.vm.findClass "java/util/ArrayList" = some m.cls := findClass_of_methodNamed Bd.named
  have hnm := (name_of_methodNamed Bd.named Bd.method).1
  have X0 : Stand p l e ({ frames := 1, cells := 0, slots := 0, locals := 15 } : Room) s m #[(.ref a1), (.ref aX)] below meth c s₁ [] 0 0 := Stand.of_body Bd
  have e0 : s₁.heap = h0 := by rw [← hh, Bd.state]; rfl
  have N0 := Fr.nil n0
  have K0 : Keep h0 h0 [a1, b] := Keep.refl _ _
  have pre0 : ∀ t, Steps p.tables e below (s₁.setTop (mkF m 0 #[.val (.ref a1), .val (.ref aX)] [])) t → Steps p.tables e below (s₁.setTop (entryFrame m #[(.ref a1), (.ref aX)] 2)) t := fun t k => castTop (ef_an1 m a1 aX) k
  obtain ⟨T101, X101, e101, st101⟩ := getF X0 hx hZ hown (host := "") (Or.inl (hw _ (List.mem_of_getElem? (i := 55) rfl))) (Via.of (hw _ (List.mem_of_getElem? (i := 56) rfl))) e0 F_modCount (g := (mkF m 2 #[.val (.ref a1), .val (.ref aX)] [(.ref a1), (.ref a1)])) rfl rfl (hb hby d_jdk_38_method_25_2)
  obtain ⟨T102, h102, X102, e102, W102, st102⟩ := putF X101 hx hZ hown (host := "") (Or.inl (hw _ (List.mem_of_getElem? (i := 55) rfl))) (Via.of (hw _ (List.mem_of_getElem? (i := 56) rfl))) e101 F_modCount E1 (Or.inl (hw _ (List.mem_of_getElem? (i := 46) rfl))) (hw _ (List.mem_of_getElem? (i := 27) rfl)) (ty := .int) (by decide) rfl rfl (g := (mkF m 7 #[.val (.ref a1), .val (.ref aX)] [(.int (mc + (1 : Int32))), (.ref a1)])) rfl rfl (hb hby d_jdk_38_method_25_7)
  have F102 := F_modCount.same W102
  have N102 := Fr.snoc X102 N0 g1
  have O102 := O0.wr W102 g1
  have K102 := K0.wr W102 (Or.inl (List.mem_of_getElem? (i := 0) rfl))
  have f103 := (F_elementData.other W102 (Or.inr (slot_ne (Or.inl (hw _ (List.mem_of_getElem? (i := 49) rfl))) (Or.inl (hw _ (List.mem_of_getElem? (i := 46) rfl))) (by decide) (t := (.array (.object "java/lang/Object"))) (t' := .int) (by decide) (by decide))))
  obtain ⟨T104, X104, e104, st104⟩ := getF X102 hx hZ hown (host := "") (Or.inl (hw _ (List.mem_of_getElem? (i := 48) rfl))) Via.refl e102 f103 (g := (mkF m 13 #[.val (.ref a1), .val (.ref aX)] [(.ref a1), (.ref aX), (.ref a1)])) rfl rfl (hb hby d_jdk_38_method_25_13)
  have f105 := (F_size.other W102 (Or.inr (slot_ne (Or.inl (hw _ (List.mem_of_getElem? (i := 58) rfl))) (Or.inl (hw _ (List.mem_of_getElem? (i := 46) rfl))) (by decide) (t := .int) (t' := .int) (by decide) (by decide))))
  obtain ⟨T106, X106, e106, st106⟩ := getF X104 hx hZ hown (host := "") (Or.inl (hw _ (List.mem_of_getElem? (i := 57) rfl))) Via.refl e104 f105 (g := (mkF m 17 #[.val (.ref a1), .val (.ref aX)] [(.ref a1), (.ref b), (.ref aX), (.ref a1)])) rfl rfl (hb hby d_jdk_38_method_25_17)
  have f107 := (E1.wr W102)
  have f108 := (EX.wr W102)
  have f109 := (VB.other W102 (Ne.symm nb))
  obtain ⟨cq110, q110, q110'⟩ := f107.cell
  obtain ⟨_, _, ⟨T110, L110, k110, n110⟩, -, X110, ⟨Lc110, hQ110, l110, y110, z110⟩, st110⟩ := X106.privateBack hx (y := (⟨"java/util/ArrayList", "add", "(Ljava/lang/Object;[Ljava/lang/Object;I)V"⟩ : MethodName)) hown (mvT hZ (hw _ (List.mem_of_getElem? (i := 59) rfl))) (mvT hZ (hw _ (List.mem_of_getElem? (i := 60) rfl))) (own_selP (y := (⟨"java/util/ArrayList", "add", "(Ljava/lang/Object;[Ljava/lang/Object;I)V"⟩ : MethodName)) hZ (hw _ (List.mem_of_getElem? (i := 27) rfl)) (hw _ (List.mem_of_getElem? (i := 61) rfl)) (hw _ (List.mem_of_getElem? (i := 60) rfl)) (by decide)) (Cond.privateMethod_at (mvP hZ (hw _ (List.mem_of_getElem? (i := 61) rfl)) (args := #[]))) (mvT hZ (hw _ (List.mem_of_getElem? (i := 63) rfl))) (by decide) (backOf (W := 0) (rm_an3 l Z a0 hw [] a1 (mc + (1 : Int32)) aX n b kb vs h102 n0 O102 f107 F102 f103 f105 g1 gb f108 f109 OB nX nXb nb hn hvl) hZ (hw _ (List.mem_of_getElem? (i := 63) rfl)) (hw _ (List.mem_of_getElem? (i := 28) rfl)) (by decide) (by decide)) (g := (mkF m 20 #[.val (.ref a1), .val (.ref aX)] [(.int n), (.ref b), (.ref aX), (.ref a1)])) rfl (by rw [hml]; rfl) (Steps.refl _) (a := a1) (by rw [e106]; exact q110) q110' (argsL := [(.ref aX), (.ref b), (.int n)]) (rest := []) (lenOf pd_4 rfl) rfl (by show 2 * 0 + _ ≤ _; exact Nat.le_of_eq rfl) (hb hby d_jdk_38_method_25_20) (fun _ _ => ⟨rfl, e106, (by decide : 0 + 0 ≤ _), (by decide : 0 + 0 ≤ _)⟩)
  dsimp only [Pt.U, Pt.locs, Pt.cells, Pt.slots] at X110 l110 y110 z110 st110 hQ110
  subst l110 y110 z110
  obtain ⟨rfl, Nq110, Kq110, Ek110, Fk_modCount_110, Fk_elementData_110, Fk_size_110, Vb110⟩ := hQ110
  have N110 := Fr.app N102 Nq110
  have O110 := O102.keep Kq110 (allS g1 (allS gb all0))
  have K110 := K102.trans Kq110 (allS (Or.inl (List.mem_of_getElem? (i := 0) rfl)) (allS (Or.inl (List.mem_of_getElem? (i := 1) rfl)) all0))
  obtain ⟨fs, hr, hrun, hended, hW, hsame⟩ := X110.leave (v := some (.int (1 : Int32))) (fun h => by rw [Bd.returns] at h; cases h)
  refine ⟨_, _, pre0 _ ?_, hrun, hended, _, _, rfl, ?_, ⟨_, rfl⟩, hW, hsame.mono (by decide) (by decide)⟩
  · show Steps p.tables e below (s₁.setTop (mkF m 0 #[.val (.ref a1), .val (.ref aX)] [])) _
    refine XS.aloadN X0.here hx rfl (hb hby d_jdk_38_method_25_0) rfl rfl ?_
    refine XS.dup X0.here hx rfl (hb hby d_jdk_38_method_25_1) rfl rfl ?_
    show Steps p.tables e below (s₁.setTop (mkF m 2 #[.val (.ref a1), .val (.ref aX)] [(.ref a1), (.ref a1)])) _
    refine st101 _ ?_
    show Steps p.tables e below (T101.setTop (mkF m 5 #[.val (.ref a1), .val (.ref aX)] [(.int mc), (.ref a1)])) _
    refine XS.iconst X101.here hx rfl (hb hby d_jdk_38_method_25_5) ?_
    refine XS.iadd X101.here hx rfl (hb hby d_jdk_38_method_25_6) rfl ?_
    show Steps p.tables e below (T101.setTop (mkF m 7 #[.val (.ref a1), .val (.ref aX)] [(.int (mc + (1 : Int32))), (.ref a1)])) _
    refine st102 _ ?_
    show Steps p.tables e below (T102.setTop (mkF m 10 #[.val (.ref a1), .val (.ref aX)] [])) _
    refine XS.aloadN X102.here hx rfl (hb hby d_jdk_38_method_25_10) rfl rfl ?_
    refine XS.aloadN X102.here hx rfl (hb hby d_jdk_38_method_25_11) rfl rfl ?_
    refine XS.aloadN X102.here hx rfl (hb hby d_jdk_38_method_25_12) rfl rfl ?_
    show Steps p.tables e below (T102.setTop (mkF m 13 #[.val (.ref a1), .val (.ref aX)] [(.ref a1), (.ref aX), (.ref a1)])) _
    refine st104 _ ?_
    show Steps p.tables e below (T104.setTop (mkF m 16 #[.val (.ref a1), .val (.ref aX)] [(.ref b), (.ref aX), (.ref a1)])) _
    refine XS.aloadN X104.here hx rfl (hb hby d_jdk_38_method_25_16) rfl rfl ?_
    show Steps p.tables e below (T104.setTop (mkF m 17 #[.val (.ref a1), .val (.ref aX)] [(.ref a1), (.ref b), (.ref aX), (.ref a1)])) _
    refine st106 _ ?_
    show Steps p.tables e below (T106.setTop (mkF m 20 #[.val (.ref a1), .val (.ref aX)] [(.int n), (.ref b), (.ref aX), (.ref a1)])) _
    refine st110.trans ?_
    show Steps p.tables e below (T110.setTop (mkF m 23 #[.val (.ref a1), .val (.ref aX)] [])) _
    refine XS.iconst X110.here hx rfl (hb hby d_jdk_38_method_25_23) ?_
    show Steps p.tables e below (T110.setTop (mkF m 24 #[.val (.ref a1), .val (.ref aX)] [(.int (1 : Int32))])) _
    exact retOut X110 hx (t := .boolean) (i := .ireturn) Bd.returns rfl (Or.inl ⟨rfl, Or.inr (Or.inl rfl), _, rfl⟩) (hb hby d_jdk_38_method_25_24) hr
  · show Q_an1 Z a1 mc aX n b kb vs h0 n0 _ T110.heap _
    exact ⟨rfl, N110, K110, Ek110, Fk_modCount_110, Fk_elementData_110, Fk_size_110, Vb110⟩
theorem ef_ie (m : MethodId) (a1 : Addr) : entryFrame m #[(.ref a1)] 1 = mkF m 0 #[.val (.ref a1)] [] := by first | (simp [entryFrame, mkF, argsToLocals, Value.category]; done) | rfl
def Q_ie (Z : State) (a1 : Addr) (n : Int32) (h0 : Heap) (n0 : Nat) (v : Option Value) (h : Heap) (L : List Loc) : Prop := v = some (.int (0 : Int32)) ∧ Fr n0 L ∧ h = h0
set_option maxRecDepth 65536 in
set_option maxHeartbeats 40000000 in
theorem rm_ie (l : Launch) (Z : State) (a0 : Array Value) (hw : ∀ d ∈ tables_1, d.before a0 Z = true) (ws : List Jvm.Cond) (a1 : Addr) (n : Int32) (h0 : Heap) (n0 : Nat) (O0 : Old Z n0 h0) (F_size : Fld Z h0 a1 "java/util/ArrayList" "size" "I" (.int n)) (hn0 : ¬ (n = (0 : Int32))) :
    MetFree l (⟨"java/util/ArrayList", "isEmpty", "()Z"⟩ : MethodName) (head1 (Jvm.Cond.code (⟨"java/util/ArrayList", "isEmpty", "()Z"⟩ : MethodName) jdk_38_method_9_code 1 (some .boolean) :: ws) ({ frames := 0, cells := 0, slots := 0, locals := 0 } : Room)) (fun a U => a = #[(.ref a1)] ∧ Z.Warmed39 U.vm ∧ U.heap = h0) (fun _ _ _ _ _ => True) (fun _ U o U' => ∃ v L, o = .returned v ∧ Q_ie Z a1 n h0 n0 v U'.heap L ∧ FrameEnd U o U' L ({ frames := 0, cells := 0, slots := 0, locals := 0 } : Room).cells ({ frames := 0, cells := 0, slots := 0, locals := 0 } : Room).slots) := by
  refine MetFree.of_bodySF (plainFor_of_name pn_6) hisR ?_
  intro p e s m args below meth c s₁ Bd hml0 hP hK
  obtain ⟨rfl, hZ, hh⟩ := hP
  have hx := Bd.exec
  have hby := Bd.bytes
  have hml : c.maxLocals = 1 := hml0
  have hown : s.vm.findClass "java/util/ArrayList" = some m.cls := findClass_of_methodNamed Bd.named
  have hnm := (name_of_methodNamed Bd.named Bd.method).1
  have X0 : Stand p l e ({ frames := 0, cells := 0, slots := 0, locals := 0 } : Room) s m #[(.ref a1)] below meth c s₁ [] 0 0 := Stand.of_body Bd
  have e0 : s₁.heap = h0 := by rw [← hh, Bd.state]; rfl
  have N0 := Fr.nil n0
  have pre0 : ∀ t, Steps p.tables e below (s₁.setTop (mkF m 0 #[.val (.ref a1)] [])) t → Steps p.tables e below (s₁.setTop (entryFrame m #[(.ref a1)] 1)) t := fun t k => castTop (ef_ie m a1) k
  obtain ⟨T101, X101, e101, st101⟩ := getF X0 hx hZ hown (host := "") (Or.inl (hw _ (List.mem_of_getElem? (i := 57) rfl))) Via.refl e0 F_size (g := (mkF m 1 #[.val (.ref a1)] [(.ref a1)])) rfl rfl (hb hby d_jdk_38_method_9_1)
  have hc102 : ¬ (n = (0 : Int32)) := hn0
  obtain ⟨fs, hr, hrun, hended, hW, hsame⟩ := X101.leave (v := some (.int (0 : Int32))) (fun h => by rw [Bd.returns] at h; cases h)
  refine ⟨_, _, pre0 _ ?_, hrun, hended, _, _, rfl, ?_, ⟨_, rfl⟩, hW, hsame.mono (by decide) (by decide)⟩
  · show Steps p.tables e below (s₁.setTop (mkF m 0 #[.val (.ref a1)] [])) _
    refine XS.aloadN X0.here hx rfl (hb hby d_jdk_38_method_9_0) rfl rfl ?_
    show Steps p.tables e below (s₁.setTop (mkF m 1 #[.val (.ref a1)] [(.ref a1)])) _
    refine st101 _ ?_
    show Steps p.tables e below (T101.setTop (mkF m 4 #[.val (.ref a1)] [(.int n)])) _
    refine XS.ifYes X101.here hx rfl (pc0 := 4) (pc' := 11) rfl (hb hby d_jdk_38_method_9_4) rfl ((if0 _ _).trans (feq hc102).2) (by decide) (by decide) ?_
    refine XS.iconst X101.here hx rfl (hb hby d_jdk_38_method_9_11) ?_
    show Steps p.tables e below (T101.setTop (mkF m 12 #[.val (.ref a1)] [(.int (0 : Int32))])) _
    exact retOut X101 hx (t := .boolean) (i := .ireturn) Bd.returns rfl (Or.inl ⟨rfl, Or.inr (Or.inl rfl), _, rfl⟩) (hb hby d_jdk_38_method_9_12) hr
  · show Q_ie Z a1 n h0 n0 _ T101.heap _
    rw [e101]
    exact ⟨rfl, N0, rfl⟩
theorem ef_sz (m : MethodId) (a1 : Addr) : entryFrame m #[(.ref a1)] 1 = mkF m 0 #[.val (.ref a1)] [] := by first | (simp [entryFrame, mkF, argsToLocals, Value.category]; done) | rfl
def Q_sz (Z : State) (a1 : Addr) (n : Int32) (h0 : Heap) (n0 : Nat) (v : Option Value) (h : Heap) (L : List Loc) : Prop := v = some (.int n) ∧ Fr n0 L ∧ h = h0
set_option maxRecDepth 65536 in
set_option maxHeartbeats 40000000 in
theorem rm_sz (l : Launch) (Z : State) (a0 : Array Value) (hw : ∀ d ∈ tables_1, d.before a0 Z = true) (ws : List Jvm.Cond) (a1 : Addr) (n : Int32) (h0 : Heap) (n0 : Nat) (O0 : Old Z n0 h0) (F_size : Fld Z h0 a1 "java/util/ArrayList" "size" "I" (.int n)) :
    MetFree l (⟨"java/util/ArrayList", "size", "()I"⟩ : MethodName) (head1 (Jvm.Cond.code (⟨"java/util/ArrayList", "size", "()I"⟩ : MethodName) jdk_38_method_8_code 1 (some .int) :: ws) ({ frames := 0, cells := 0, slots := 0, locals := 0 } : Room)) (fun a U => a = #[(.ref a1)] ∧ Z.Warmed39 U.vm ∧ U.heap = h0) (fun _ _ _ _ _ => True) (fun _ U o U' => ∃ v L, o = .returned v ∧ Q_sz Z a1 n h0 n0 v U'.heap L ∧ FrameEnd U o U' L ({ frames := 0, cells := 0, slots := 0, locals := 0 } : Room).cells ({ frames := 0, cells := 0, slots := 0, locals := 0 } : Room).slots) := by
  refine MetFree.of_bodySF (plainFor_of_name pn_6) hisR ?_
  intro p e s m args below meth c s₁ Bd hml0 hP hK
  obtain ⟨rfl, hZ, hh⟩ := hP
  have hx := Bd.exec
  have hby := Bd.bytes
  have hml : c.maxLocals = 1 := hml0
  have hown : s.vm.findClass "java/util/ArrayList" = some m.cls := findClass_of_methodNamed Bd.named
  have hnm := (name_of_methodNamed Bd.named Bd.method).1
  have X0 : Stand p l e ({ frames := 0, cells := 0, slots := 0, locals := 0 } : Room) s m #[(.ref a1)] below meth c s₁ [] 0 0 := Stand.of_body Bd
  have e0 : s₁.heap = h0 := by rw [← hh, Bd.state]; rfl
  have N0 := Fr.nil n0
  have pre0 : ∀ t, Steps p.tables e below (s₁.setTop (mkF m 0 #[.val (.ref a1)] [])) t → Steps p.tables e below (s₁.setTop (entryFrame m #[(.ref a1)] 1)) t := fun t k => castTop (ef_sz m a1) k
  obtain ⟨T101, X101, e101, st101⟩ := getF X0 hx hZ hown (host := "") (Or.inl (hw _ (List.mem_of_getElem? (i := 57) rfl))) Via.refl e0 F_size (g := (mkF m 1 #[.val (.ref a1)] [(.ref a1)])) rfl rfl (hb hby d_jdk_38_method_8_1)
  obtain ⟨fs, hr, hrun, hended, hW, hsame⟩ := X101.leave (v := some (.int n)) (fun h => by rw [Bd.returns] at h; cases h)
  refine ⟨_, _, pre0 _ ?_, hrun, hended, _, _, rfl, ?_, ⟨_, rfl⟩, hW, hsame.mono (by decide) (by decide)⟩
  · show Steps p.tables e below (s₁.setTop (mkF m 0 #[.val (.ref a1)] [])) _
    refine XS.aloadN X0.here hx rfl (hb hby d_jdk_38_method_8_0) rfl rfl ?_
    show Steps p.tables e below (s₁.setTop (mkF m 1 #[.val (.ref a1)] [(.ref a1)])) _
    refine st101 _ ?_
    show Steps p.tables e below (T101.setTop (mkF m 4 #[.val (.ref a1)] [(.int n)])) _
    exact retOut X101 hx (t := .int) (i := .ireturn) Bd.returns rfl (Or.inl ⟨rfl, Or.inl rfl, _, rfl⟩) (hb hby d_jdk_38_method_8_4) hr
  · show Q_sz Z a1 n h0 n0 _ T101.heap _
    rw [e101]
    exact ⟨rfl, N0, rfl⟩
theorem own_mirMv {Z s : State} {C : String} {mr : Addr} {args : Array Value} (hZ : Z.Warmed39 s.vm) (M : Mir Z C mr) : (Term.mirror C).eval args s none [] s = some (.ref mr) := by
  obtain ⟨c, k, h1, h2, h3, -⟩ := M
  obtain ⟨k', q1, q2⟩ := hZ.alike.2.2 _ _ h2
  have q3 : k'.mirror = some mr := by rw [q2]; exact h3
  simp [Term.eval, hZ.alike.findClass, h1, q1, q3]
theorem own_stoL {Z : State} {h : Heap} {a : Addr} : ∀ {us : List Value}, (∀ v ∈ us, Sto Z h a v) → StoL Z h a us
  | [], _ => trivial
  | _ :: _, q => ⟨q _ (List.mem_cons_self ..), own_stoL fun v hv => q v (List.mem_cons_of_mem _ hv)⟩
theorem own_le9 {n : Int32} (h : ¬ n < 0 ∧ n < (9 : Int32)) : n.toNatClampNeg ≤ 8 := by
  have := nat_of h.1
  have h9 : (9 : Int32).toInt = 9 := by decide
  have := h.2; rw [Int32.lt_iff_toInt_lt] at this; omega
theorem own_min10 {n : Int32} (h : ¬ n < 0 ∧ n < (9 : Int32)) : own_min (10 : Int32) n = n := by
  have q : n < (10 : Int32) := by
    have h9 : (9 : Int32).toInt = 9 := by decide
    have h10 : (10 : Int32).toInt = 10 := by decide
    have := h.2; rw [Int32.lt_iff_toInt_lt] at this ⊢; omega
  simp [own_min, q]
theorem ef_c3 (m : MethodId) (a1 : Addr) (n : Int32) (mr : Addr) : entryFrame m #[(.ref a1), (.int n), (.ref mr)] 4 = mkF m 0 #[.val (.ref a1), .val (.int n), .val (.ref mr), .unset] [] := by first | (simp [entryFrame, mkF, argsToLocals, Value.category]; done) | rfl
def Q_c3 (Z : State) (a1 : Addr) (k1 : ClassId) (vs : List Value) (n : Int32) (aX : Addr) (mr : Addr) (h0 : Heap) (n0 : Nat) (v : Option Value) (h : Heap) (L : List Loc) : Prop := ∃ (b : Addr) (k : ClassId), v = some (.ref b) ∧ Fr n0 L ∧ Keep h0 h [] ∧ Arv Z h b k (.object "java/lang/Object") n (List.replicate n.toNatClampNeg (.ref aX)) .null ∧ h0.size ≤ b
set_option maxRecDepth 65536 in
set_option maxHeartbeats 40000000 in
theorem rm_c3 (l : Launch) (Z : State) (a0 : Array Value) (hw : ∀ d ∈ tables_1, d.before a0 Z = true) (ws : List Jvm.Cond) (a1 : Addr) (k1 : ClassId) (vs : List Value) (n : Int32) (aX : Addr) (mr : Addr) (h0 : Heap) (n0 : Nat) (O0 : Old Z n0 h0) (VA : Arv Z h0 a1 k1 (.object "java/lang/Object") (10 : Int32) vs .null) (EA : Exa Z h0 a1 "[Ljava/lang/Object;") (EX : Exa Z h0 aX "com/example/jitney/jitney/Instance$Node") (MI : Mir Z "[Ljava/lang/Object;" mr) (hn : ¬ n < 0 ∧ n < (9 : Int32)) (hsrc : ∀ i, i < n.toNatClampNeg → vs.getD i .null = .ref aX) :
    MetFree l (⟨"java/util/Arrays", "copyOf", "([Ljava/lang/Object;ILjava/lang/Class;)[Ljava/lang/Object;"⟩ : MethodName) (head1 (Jvm.Cond.code (⟨"java/util/Arrays", "copyOf", "([Ljava/lang/Object;ILjava/lang/Class;)[Ljava/lang/Object;"⟩ : MethodName) jdk_65_method_120_code 4 (some (.array (.object "java/lang/Object"))) :: ws) ({ frames := 1, cells := 1, slots := 8, locals := 40 } : Room)) (fun a U => a = #[(.ref a1), (.int n), (.ref mr)] ∧ Z.Warmed39 U.vm ∧ U.heap = h0) (fun _ _ _ _ _ => True) (fun _ U o U' => ∃ v L, o = .returned v ∧ Q_c3 Z a1 k1 vs n aX mr h0 n0 v U'.heap L ∧ FrameEnd U o U' L ({ frames := 1, cells := 1, slots := 8, locals := 40 } : Room).cells ({ frames := 1, cells := 1, slots := 8, locals := 40 } : Room).slots) := by
  refine MetFree.of_bodySF (plainFor_of_name pn_7) hisR ?_
  intro p e s m args below meth c s₁ Bd hml0 hP hK
  obtain ⟨rfl, hZ, hh⟩ := hP
  have hx := Bd.exec
  have hby := Bd.bytes
  have hml : c.maxLocals = 4 := hml0
  have hown : s.vm.findClass "java/util/Arrays" = some m.cls := findClass_of_methodNamed Bd.named
  have hnm := (name_of_methodNamed Bd.named Bd.method).1
  have X0 : Stand p l e ({ frames := 1, cells := 1, slots := 8, locals := 40 } : Room) s m #[(.ref a1), (.int n), (.ref mr)] below meth c s₁ [] 0 0 := Stand.of_body Bd
  have e0 : s₁.heap = h0 := by rw [← hh, Bd.state]; rfl
  have N0 := Fr.nil n0
  have K0 : Keep h0 h0 [] := Keep.refl _ _
  have pre0 : ∀ t, Steps p.tables e below (s₁.setTop (mkF m 0 #[.val (.ref a1), .val (.int n), .val (.ref mr), .unset] [])) t → Steps p.tables e below (s₁.setTop (entryFrame m #[(.ref a1), (.int n), (.ref mr)] 4)) t := fun t k => castTop (ef_c3 m a1 n mr) k
  obtain ⟨vm101, X101, st101⟩ := X0.ldcMirror hx hown (mvT hZ (hw _ (List.mem_of_getElem? (i := 157) rfl))) (own_mirMv hZ MI) (g := (mkF m 1 #[.val (.ref a1), .val (.int n), .val (.ref mr), .unset] [(.ref mr)])) rfl (hb hby d_jdk_65_method_120_1)
  have e101 : (s₁.setVm vm101).heap = h0 := e0
  generalize s₁.setVm vm101 = T101 at X101 st101 e101
  obtain ⟨T102, h102, k102, X102, e102, E102, A102, Ex102, Ov102, st102⟩ := newRE X101 hx hZ hown (hw _ (List.mem_of_getElem? (i := 158) rfl)) (hw _ (List.mem_of_getElem? (i := 79) rfl)) e101 (g := (mkF m 7 #[.val (.ref a1), .val (.int n), .val (.ref mr), .unset] [(.int n)])) rfl (hb hby d_jdk_65_method_120_7) rfl hn.1 (cap := 8) (own_le9 hn) (by decide) (by decide) (by decide) (ad := "[Ljava/lang/Object;") rfl
  obtain ⟨b102, g102⟩ : ∃ z, z = h0.size := ⟨_, rfl⟩
  rw [← g102] at A102 Ex102 st102
  have g_b102 : n0 ≤ b102 := Nat.le_trans (own_szO O0) (Nat.le_of_eq g102.symm)
  have sz_b102 : h0.size ≤ b102 := Nat.le_trans K0.1 (Nat.le_of_eq g102.symm)
  have O102 := O0.ext E102
  have K102 := K0.ext E102
  have V102 : Arv Z h102 b102 k102 (.object "java/lang/Object") n [.null, .null, .null, .null, .null, .null, .null, .null] .null := (Arv.new A102 hn.1).pad (pad_rep [] .null 8)
  have f103 := (VA.ext E102)
  obtain ⟨cl104, Ar104, -, S104, Ne104, -, -⟩ := id f103
  obtain ⟨_, _, ⟨T105, L105, k105, n105⟩, -, X105, ⟨Lc105, hQ105, l105, y105, z105⟩, st105⟩ := Jvm.LawKit.callS X102 hx (y := (⟨"java/lang/Math", "min", "(II)I"⟩ : MethodName)) hown (mvT hZ (hw _ (List.mem_of_getElem? (i := 159) rfl))) (mvT hZ (hw _ (List.mem_of_getElem? (i := 160) rfl))) (mvT hZ (hw _ (List.mem_of_getElem? (i := 76) rfl))) (mvT hZ (hw _ (List.mem_of_getElem? (i := 161) rfl))) (by decide) (backOf (W := 4) (rm_mi l Z a0 hw [] (10 : Int32) n h102 n0 O102 ) hZ (hw _ (List.mem_of_getElem? (i := 161) rfl)) (hw _ (List.mem_of_getElem? (i := 76) rfl)) (by decide) (by decide)) (g := (mkF m 32 #[.val (.ref a1), .val (.int n), .val (.ref mr), .val (.ref b102)] [(.int n), (.int (10 : Int32)), (.int (0 : Int32)), (.ref b102), (.int (0 : Int32)), (.ref a1)])) rfl (by rw [hml]; rfl) (argsL := [(.int (10 : Int32)), (.int n)]) (rest := [(.int (0 : Int32)), (.ref b102), (.int (0 : Int32)), (.ref a1)]) (lenOf pd_1 rfl) rfl (by show 2 * 0 + _ ≤ _; exact Nat.le_of_eq rfl) (hb hby d_jdk_65_method_120_32) (fun _ _ => ⟨rfl, e102, (by decide : 1 + 0 ≤ _), (by decide : 8 + 0 ≤ _)⟩)
  dsimp only [Pt.U, Pt.locs, Pt.cells, Pt.slots] at X105 l105 y105 z105 st105 hQ105
  subst l105 y105 z105
  obtain ⟨rfl, Nq105, e105⟩ := hQ105
  have N105 := Fr.app N0 Nq105
  have f106 := (EX.ext E102)
  have hsto107 : StoL Z h102 b102 ((List.range n.toNatClampNeg).map fun i => vs.getD (0 + i) .null) := by
    obtain ⟨cl, Ar, q, -⟩ := V102
    exact own_stoL (fun v hv => by
      obtain ⟨i, hi, rfl⟩ := List.mem_map.mp hv
      rw [Nat.zero_add, hsrc i (List.mem_range.mp hi)]
      exact Sto.ofV Ar q Ov102 (Ins.of_exa f106 (hw _ (List.mem_of_getElem? (i := 80) rfl))))
  obtain ⟨T107, h107, L107, X107, e107, N107, Kq107, Vc107, st107⟩ := cpA X105 hx hZ hown (hw _ (List.mem_of_getElem? (i := 162) rfl)) (hw _ (List.mem_of_getElem? (i := 165) rfl)) (hw _ (List.mem_of_getElem? (i := 163) rfl)) (hw _ (List.mem_of_getElem? (i := 164) rfl)) e105 f103 V102 (Or.inr ⟨rfl, rfl, hsto107⟩) (sp := (0 : Int32)) (dp := (0 : Int32)) (nn := n) (by decide) (by decide) hn.1 (by have := own_le9 hn; show 0 + n.toNatClampNeg ≤ 10; omega) (by show 0 + n.toNatClampNeg ≤ n.toNatClampNeg; omega) rfl (by have := own_le9 hn; simp; omega) N105 g_b102 (g := (mkF m 35 #[.val (.ref a1), .val (.int n), .val (.ref mr), .val (.ref b102)] [(.int n), (.int (0 : Int32)), (.ref b102), (.int (0 : Int32)), (.ref a1)])) rfl (by rw [hml]; rfl) rfl (hb hby d_jdk_65_method_120_35) (by decide) (W := 0) (by show 2 * 0 + _ ≤ _; exact Nat.le_of_eq rfl) (by decide)
  have V107 : Arv Z h107 b102 k102 (.object "java/lang/Object") n (List.replicate n.toNatClampNeg (.ref aX)) .null := Vc107.pad (own_cp _ 8 _ vs hsrc)
  have O107 := O102.keep Kq107 (allS g_b102 all0)
  have K107 := K102.trans Kq107 (allS (Or.inr sz_b102) all0)
  obtain ⟨fs, hr, hrun, hended, hW, hsame⟩ := X107.leave (v := some (.ref b102)) (fun h => by rw [Bd.returns] at h; cases h)
  refine ⟨_, _, pre0 _ ?_, hrun, hended, _, _, rfl, ?_, ⟨_, rfl⟩, hW, hsame.mono (by decide) (by decide)⟩
  · show Steps p.tables e below (s₁.setTop (mkF m 0 #[.val (.ref a1), .val (.int n), .val (.ref mr), .unset] [])) _
    refine XS.aloadN X0.here hx rfl (hb hby d_jdk_65_method_120_0) rfl rfl ?_
    show Steps p.tables e below (s₁.setTop (mkF m 1 #[.val (.ref a1), .val (.int n), .val (.ref mr), .unset] [(.ref mr)])) _
    refine st101 _ ?_
    show Steps p.tables e below (T101.setTop (mkF m 3 #[.val (.ref a1), .val (.int n), .val (.ref mr), .unset] [(.ref mr), (.ref mr)])) _
    refine Jvm.RoadKit.acmp (g := (mkF m 3 #[.val (.ref a1), .val (.int n), .val (.ref mr), .unset] [(.ref mr), (.ref mr)])) X101 hx rfl rfl rfl (pc0 := 3) (pc' := 6) (same := true) rfl (hb hby d_jdk_65_method_120_3) rfl (decide_eq_true rfl) (by decide) (by decide) ?_
    show Steps p.tables e below (T101.setTop (mkF m 6 #[.val (.ref a1), .val (.int n), .val (.ref mr), .unset] [])) _
    refine XS.iloadN X101.here hx rfl (hb hby d_jdk_65_method_120_6) rfl ?_
    show Steps p.tables e below (T101.setTop (mkF m 7 #[.val (.ref a1), .val (.int n), .val (.ref mr), .unset] [(.int n)])) _
    refine st102 _ ?_
    show Steps p.tables e below (T102.setTop (mkF m 10 #[.val (.ref a1), .val (.int n), .val (.ref mr), .unset] [(.ref b102)])) _
    refine XS.goto X102.here hx rfl (pc0 := 10) (pc' := 24) rfl (hb hby d_jdk_65_method_120_10) (by decide) (by decide) ?_
    refine XS.astoreN X102.here hx rfl (hb hby d_jdk_65_method_120_24) rfl rfl (l' := #[.val (.ref a1), .val (.int n), .val (.ref mr), .val (.ref b102)]) rfl ?_
    refine XS.aloadN X102.here hx rfl (hb hby d_jdk_65_method_120_25) rfl rfl ?_
    refine XS.iconst X102.here hx rfl (hb hby d_jdk_65_method_120_26) ?_
    show Steps p.tables e below (T102.setTop (mkF m 27 #[.val (.ref a1), .val (.int n), .val (.ref mr), .val (.ref b102)] [(.int (0 : Int32)), (.ref a1)])) _
    refine XS.aloadN X102.here hx rfl (hb hby d_jdk_65_method_120_27) rfl rfl ?_
    refine XS.iconst X102.here hx rfl (hb hby d_jdk_65_method_120_28) ?_
    refine XS.aloadN X102.here hx rfl (hb hby d_jdk_65_method_120_29) rfl rfl ?_
    show Steps p.tables e below (T102.setTop (mkF m 30 #[.val (.ref a1), .val (.int n), .val (.ref mr), .val (.ref b102)] [(.ref a1), (.int (0 : Int32)), (.ref b102), (.int (0 : Int32)), (.ref a1)])) _
    refine X102.arraylength hx (by rw [e102]; exact Ar104.1) (State.isArrayOf_alike hZ.alike Ar104.2.1) (g := (mkF m 30 #[.val (.ref a1), .val (.int n), .val (.ref mr), .val (.ref b102)] [(.ref a1), (.int (0 : Int32)), (.ref b102), (.int (0 : Int32)), (.ref a1)])) rfl rfl (hb hby d_jdk_65_method_120_30) _ ?_
    rw [len_of S104 Ne104]
    show Steps p.tables e below (T102.setTop (mkF m 31 #[.val (.ref a1), .val (.int n), .val (.ref mr), .val (.ref b102)] [(.int (10 : Int32)), (.int (0 : Int32)), (.ref b102), (.int (0 : Int32)), (.ref a1)])) _
    refine XS.iloadN X102.here hx rfl (hb hby d_jdk_65_method_120_31) rfl ?_
    show Steps p.tables e below (T102.setTop (mkF m 32 #[.val (.ref a1), .val (.int n), .val (.ref mr), .val (.ref b102)] [(.int n), (.int (10 : Int32)), (.int (0 : Int32)), (.ref b102), (.int (0 : Int32)), (.ref a1)])) _
    refine st105 _ ?_
    show Steps p.tables e below (T105.setTop (mkF m 35 #[.val (.ref a1), .val (.int n), .val (.ref mr), .val (.ref b102)] [(.int (own_min (10 : Int32) n)), (.int (0 : Int32)), (.ref b102), (.int (0 : Int32)), (.ref a1)])) _
    rw [show (own_min (10 : Int32) n) = n from (own_min10 hn)]
    show Steps p.tables e below (T105.setTop (mkF m 35 #[.val (.ref a1), .val (.int n), .val (.ref mr), .val (.ref b102)] [(.int n), (.int (0 : Int32)), (.ref b102), (.int (0 : Int32)), (.ref a1)])) _
    refine st107 _ ?_
    show Steps p.tables e below (T107.setTop (mkF m 38 #[.val (.ref a1), .val (.int n), .val (.ref mr), .val (.ref b102)] [])) _
    refine XS.aloadN X107.here hx rfl (hb hby d_jdk_65_method_120_38) rfl rfl ?_
    show Steps p.tables e below (T107.setTop (mkF m 39 #[.val (.ref a1), .val (.int n), .val (.ref mr), .val (.ref b102)] [(.ref b102)])) _
    exact retOut X107 hx (t := (.array (.object "java/lang/Object"))) (i := .areturn) Bd.returns rfl (Or.inr (Or.inr (Or.inr (Or.inr ⟨rfl, rfl, rfl⟩)))) (hb hby d_jdk_65_method_120_39) hr
  · show Q_c3 Z a1 k1 vs n aX mr h0 n0 _ T107.heap _
    rw [e107]
    exact ⟨b102, k102, rfl, N107, K107, V107, sz_b102⟩
theorem ef_c2 (m : MethodId) (a1 : Addr) (n : Int32) : entryFrame m #[(.ref a1), (.int n)] 2 = mkF m 0 #[.val (.ref a1), .val (.int n)] [] := by first | (simp [entryFrame, mkF, argsToLocals, Value.category]; done) | rfl
def Q_c2 (Z : State) (a1 : Addr) (k1 : ClassId) (vs : List Value) (n : Int32) (aX : Addr) (mr : Addr) (h0 : Heap) (n0 : Nat) (v : Option Value) (h : Heap) (L : List Loc) : Prop := ∃ (b : Addr) (k : ClassId), v = some (.ref b) ∧ Fr n0 L ∧ Keep h0 h [] ∧ Arv Z h b k (.object "java/lang/Object") n (List.replicate n.toNatClampNeg (.ref aX)) .null ∧ h0.size ≤ b
set_option maxRecDepth 65536 in
set_option maxHeartbeats 40000000 in
theorem rm_c2 (l : Launch) (Z : State) (a0 : Array Value) (hw : ∀ d ∈ tables_1, d.before a0 Z = true) (ws : List Jvm.Cond) (a1 : Addr) (k1 : ClassId) (vs : List Value) (n : Int32) (aX : Addr) (mr : Addr) (h0 : Heap) (n0 : Nat) (O0 : Old Z n0 h0) (VA : Arv Z h0 a1 k1 (.object "java/lang/Object") (10 : Int32) vs .null) (EA : Exa Z h0 a1 "[Ljava/lang/Object;") (EX : Exa Z h0 aX "com/example/jitney/jitney/Instance$Node") (MI : Mir Z "[Ljava/lang/Object;" mr) (hn : ¬ n < 0 ∧ n < (9 : Int32)) (hsrc : ∀ i, i < n.toNatClampNeg → vs.getD i .null = .ref aX) :
    MetFree l (⟨"java/util/Arrays", "copyOf", "([Ljava/lang/Object;I)[Ljava/lang/Object;"⟩ : MethodName) (head1 (Jvm.Cond.code (⟨"java/util/Arrays", "copyOf", "([Ljava/lang/Object;I)[Ljava/lang/Object;"⟩ : MethodName) jdk_65_method_119_code 2 (some (.array (.object "java/lang/Object"))) :: ws) ({ frames := 2, cells := 1, slots := 8, locals := 55 } : Room)) (fun a U => a = #[(.ref a1), (.int n)] ∧ Z.Warmed39 U.vm ∧ U.heap = h0) (fun _ _ _ _ _ => True) (fun _ U o U' => ∃ v L, o = .returned v ∧ Q_c2 Z a1 k1 vs n aX mr h0 n0 v U'.heap L ∧ FrameEnd U o U' L ({ frames := 2, cells := 1, slots := 8, locals := 55 } : Room).cells ({ frames := 2, cells := 1, slots := 8, locals := 55 } : Room).slots) := by
  refine MetFree.of_bodySF (plainFor_of_name pn_7) hisR ?_
  intro p e s m args below meth c s₁ Bd hml0 hP hK
  obtain ⟨rfl, hZ, hh⟩ := hP
  have hx := Bd.exec
  have hby := Bd.bytes
  have hml : c.maxLocals = 2 := hml0
  have hown : s.vm.findClass "java/util/Arrays" = some m.cls := findClass_of_methodNamed Bd.named
  have hnm := (name_of_methodNamed Bd.named Bd.method).1
  have X0 : Stand p l e ({ frames := 2, cells := 1, slots := 8, locals := 55 } : Room) s m #[(.ref a1), (.int n)] below meth c s₁ [] 0 0 := Stand.of_body Bd
  have e0 : s₁.heap = h0 := by rw [← hh, Bd.state]; rfl
  have N0 := Fr.nil n0
  have K0 : Keep h0 h0 [] := Keep.refl _ _
  have pre0 : ∀ t, Steps p.tables e below (s₁.setTop (mkF m 0 #[.val (.ref a1), .val (.int n)] [])) t → Steps p.tables e below (s₁.setTop (entryFrame m #[(.ref a1), (.int n)] 2)) t := fun t k => castTop (ef_c2 m a1 n) k
  obtain ⟨T101, X101, e101, st101⟩ := gcls X0 hx hZ hown (hw _ (List.mem_of_getElem? (i := 148) rfl)) (hw _ (List.mem_of_getElem? (i := 149) rfl)) (hw _ (List.mem_of_getElem? (i := 129) rfl)) (hw _ (List.mem_of_getElem? (i := 151) rfl)) (hw _ (List.mem_of_getElem? (i := 150) rfl)) (hw _ (List.mem_of_getElem? (i := 152) rfl)) e0 EA MI (g := (mkF m 3 #[.val (.ref a1), .val (.int n)] [(.ref a1), (.int n), (.ref a1)])) rfl (by rw [hml]; rfl) rfl (hb hby d_jdk_65_method_119_3) (by decide) (W := 2) (by show 2 * 0 + _ ≤ _; exact Nat.le_of_eq rfl) (by decide)
  obtain ⟨_, _, ⟨T102, L102, k102, n102⟩, -, X102, ⟨Lc102, hQ102, l102, y102, z102⟩, st102⟩ := Jvm.LawKit.callS X101 hx (y := (⟨"java/util/Arrays", "copyOf", "([Ljava/lang/Object;ILjava/lang/Class;)[Ljava/lang/Object;"⟩ : MethodName)) hown (mvT hZ (hw _ (List.mem_of_getElem? (i := 154) rfl))) (mvT hZ (hw _ (List.mem_of_getElem? (i := 155) rfl))) (mvT hZ (hw _ (List.mem_of_getElem? (i := 146) rfl))) (mvT hZ (hw _ (List.mem_of_getElem? (i := 156) rfl))) (by decide) (backOf (W := 0) (rm_c3 l Z a0 hw [] a1 k1 vs n aX mr h0 n0 O0 VA EA EX MI hn hsrc) hZ (hw _ (List.mem_of_getElem? (i := 156) rfl)) (hw _ (List.mem_of_getElem? (i := 146) rfl)) (by decide) (by decide)) (g := (mkF m 6 #[.val (.ref a1), .val (.int n)] [(.ref mr), (.int n), (.ref a1)])) rfl (by rw [hml]; rfl) (argsL := [(.ref a1), (.int n), (.ref mr)]) (rest := []) (lenOf pd_5 rfl) rfl (by show 2 * 0 + _ ≤ _; exact Nat.le_of_eq rfl) (hb hby d_jdk_65_method_119_6) (fun _ _ => ⟨rfl, e101, (by decide : 0 + 1 ≤ _), (by decide : 0 + 8 ≤ _)⟩)
  dsimp only [Pt.U, Pt.locs, Pt.cells, Pt.slots] at X102 l102 y102 z102 st102 hQ102
  subst l102 y102 z102
  obtain ⟨b_102, k_102, rfl, Nq102, Kq102, Vb102, lb102⟩ := hQ102
  have N102 := Fr.app N0 Nq102
  have g_b_102 : n0 ≤ b_102 := Nat.le_trans (own_szO O0) lb102
  have sz_b_102 : h0.size ≤ b_102 := Nat.le_trans K0.1 lb102
  have O102 := O0.keep Kq102 all0
  have K102 := K0.trans Kq102 all0
  obtain ⟨fs, hr, hrun, hended, hW, hsame⟩ := X102.leave (v := some (.ref b_102)) (fun h => by rw [Bd.returns] at h; cases h)
  refine ⟨_, _, pre0 _ ?_, hrun, hended, _, _, rfl, ?_, ⟨_, rfl⟩, hW, hsame.mono (by decide) (by decide)⟩
  · show Steps p.tables e below (s₁.setTop (mkF m 0 #[.val (.ref a1), .val (.int n)] [])) _
    refine XS.aloadN X0.here hx rfl (hb hby d_jdk_65_method_119_0) rfl rfl ?_
    refine XS.iloadN X0.here hx rfl (hb hby d_jdk_65_method_119_1) rfl ?_
    refine XS.aloadN X0.here hx rfl (hb hby d_jdk_65_method_119_2) rfl rfl ?_
    show Steps p.tables e below (s₁.setTop (mkF m 3 #[.val (.ref a1), .val (.int n)] [(.ref a1), (.int n), (.ref a1)])) _
    refine st101 _ ?_
    show Steps p.tables e below (T101.setTop (mkF m 6 #[.val (.ref a1), .val (.int n)] [(.ref mr), (.int n), (.ref a1)])) _
    refine st102 _ ?_
    show Steps p.tables e below (T102.setTop (mkF m 9 #[.val (.ref a1), .val (.int n)] [(.ref b_102)])) _
    exact retOut X102 hx (t := (.array (.object "java/lang/Object"))) (i := .areturn) Bd.returns rfl (Or.inr (Or.inr (Or.inr (Or.inr ⟨rfl, rfl, rfl⟩)))) (hb hby d_jdk_65_method_119_9) hr
  · show Q_c2 Z a1 k1 vs n aX mr h0 n0 _ T102.heap _
    exact ⟨b_102, k_102, rfl, N102, K102, Vb102, sz_b_102⟩
theorem ef_ta (m : MethodId) (a1 : Addr) : entryFrame m #[(.ref a1)] 1 = mkF m 0 #[.val (.ref a1)] [] := by first | (simp [entryFrame, mkF, argsToLocals, Value.category]; done) | rfl
def Q_ta (Z : State) (a1 : Addr) (b : Addr) (k1 : ClassId) (vs : List Value) (n : Int32) (aX : Addr) (mr : Addr) (h0 : Heap) (n0 : Nat) (v : Option Value) (h : Heap) (L : List Loc) : Prop := ∃ (bb : Addr) (k : ClassId), v = some (.ref bb) ∧ Fr n0 L ∧ Keep h0 h [] ∧ Arv Z h bb k (.object "java/lang/Object") n (List.replicate n.toNatClampNeg (.ref aX)) .null ∧ h0.size ≤ bb
set_option maxRecDepth 65536 in
set_option maxHeartbeats 40000000 in
theorem rm_ta (l : Launch) (Z : State) (a0 : Array Value) (hw : ∀ d ∈ tables_1, d.before a0 Z = true) (ws : List Jvm.Cond) (a1 : Addr) (b : Addr) (k1 : ClassId) (vs : List Value) (n : Int32) (aX : Addr) (mr : Addr) (h0 : Heap) (n0 : Nat) (O0 : Old Z n0 h0) (E1 : Exa Z h0 a1 "java/util/ArrayList") (F_elementData : Fld Z h0 a1 "java/util/ArrayList" "elementData" "[Ljava/lang/Object;" (.ref b)) (F_size : Fld Z h0 a1 "java/util/ArrayList" "size" "I" (.int n)) (VA : Arv Z h0 b k1 (.object "java/lang/Object") (10 : Int32) vs .null) (EA : Exa Z h0 b "[Ljava/lang/Object;") (EX : Exa Z h0 aX "com/example/jitney/jitney/Instance$Node") (MI : Mir Z "[Ljava/lang/Object;" mr) (hn : ¬ n < 0 ∧ n < (9 : Int32)) (hsrc : ∀ i, i < n.toNatClampNeg → vs.getD i .null = .ref aX) :
    MetFree l (⟨"java/util/ArrayList", "toArray", "()[Ljava/lang/Object;"⟩ : MethodName) (head1 (Jvm.Cond.code (⟨"java/util/ArrayList", "toArray", "()[Ljava/lang/Object;"⟩ : MethodName) jdk_38_method_16_code 1 (some (.array (.object "java/lang/Object"))) :: ws) ({ frames := 3, cells := 1, slots := 8, locals := 68 } : Room)) (fun a U => a = #[(.ref a1)] ∧ Z.Warmed39 U.vm ∧ U.heap = h0) (fun _ _ _ _ _ => True) (fun _ U o U' => ∃ v L, o = .returned v ∧ Q_ta Z a1 b k1 vs n aX mr h0 n0 v U'.heap L ∧ FrameEnd U o U' L ({ frames := 3, cells := 1, slots := 8, locals := 68 } : Room).cells ({ frames := 3, cells := 1, slots := 8, locals := 68 } : Room).slots) := by
  refine MetFree.of_bodySF (plainFor_of_name pn_6) hisR ?_
  intro p e s m args below meth c s₁ Bd hml0 hP hK
  obtain ⟨rfl, hZ, hh⟩ := hP
  have hx := Bd.exec
  have hby := Bd.bytes
  have hml : c.maxLocals = 1 := hml0
  have hown : s.vm.findClass "java/util/ArrayList" = some m.cls := findClass_of_methodNamed Bd.named
  have hnm := (name_of_methodNamed Bd.named Bd.method).1
  have X0 : Stand p l e ({ frames := 3, cells := 1, slots := 8, locals := 68 } : Room) s m #[(.ref a1)] below meth c s₁ [] 0 0 := Stand.of_body Bd
  have e0 : s₁.heap = h0 := by rw [← hh, Bd.state]; rfl
  have N0 := Fr.nil n0
  have K0 : Keep h0 h0 [] := Keep.refl _ _
  have pre0 : ∀ t, Steps p.tables e below (s₁.setTop (mkF m 0 #[.val (.ref a1)] [])) t → Steps p.tables e below (s₁.setTop (entryFrame m #[(.ref a1)] 1)) t := fun t k => castTop (ef_ta m a1) k
  obtain ⟨T101, X101, e101, st101⟩ := getF X0 hx hZ hown (host := "") (Or.inl (hw _ (List.mem_of_getElem? (i := 48) rfl))) Via.refl e0 F_elementData (g := (mkF m 1 #[.val (.ref a1)] [(.ref a1)])) rfl rfl (hb hby d_jdk_38_method_16_1)
  obtain ⟨T102, X102, e102, st102⟩ := getF X101 hx hZ hown (host := "") (Or.inl (hw _ (List.mem_of_getElem? (i := 57) rfl))) Via.refl e101 F_size (g := (mkF m 5 #[.val (.ref a1)] [(.ref a1), (.ref b)])) rfl rfl (hb hby d_jdk_38_method_16_5)
  obtain ⟨_, _, ⟨T103, L103, k103, n103⟩, -, X103, ⟨Lc103, hQ103, l103, y103, z103⟩, st103⟩ := Jvm.LawKit.callS X102 hx (y := (⟨"java/util/Arrays", "copyOf", "([Ljava/lang/Object;I)[Ljava/lang/Object;"⟩ : MethodName)) hown (mvT hZ (hw _ (List.mem_of_getElem? (i := 144) rfl))) (mvT hZ (hw _ (List.mem_of_getElem? (i := 145) rfl))) (mvT hZ (hw _ (List.mem_of_getElem? (i := 146) rfl))) (mvT hZ (hw _ (List.mem_of_getElem? (i := 147) rfl))) (by decide) (backOf (W := 0) (rm_c2 l Z a0 hw [] b k1 vs n aX mr h0 n0 O0 VA EA EX MI hn hsrc) hZ (hw _ (List.mem_of_getElem? (i := 147) rfl)) (hw _ (List.mem_of_getElem? (i := 146) rfl)) (by decide) (by decide)) (g := (mkF m 8 #[.val (.ref a1)] [(.int n), (.ref b)])) rfl (by rw [hml]; rfl) (argsL := [(.ref b), (.int n)]) (rest := []) (lenOf pd_6 rfl) rfl (by show 2 * 0 + _ ≤ _; exact Nat.le_of_eq rfl) (hb hby d_jdk_38_method_16_8) (fun _ _ => ⟨rfl, e102, (by decide : 0 + 1 ≤ _), (by decide : 0 + 8 ≤ _)⟩)
  dsimp only [Pt.U, Pt.locs, Pt.cells, Pt.slots] at X103 l103 y103 z103 st103 hQ103
  subst l103 y103 z103
  obtain ⟨b_103, k_103, rfl, Nq103, Kq103, Vb103, lb103⟩ := hQ103
  have N103 := Fr.app N0 Nq103
  have g_b_103 : n0 ≤ b_103 := Nat.le_trans (own_szO O0) lb103
  have sz_b_103 : h0.size ≤ b_103 := Nat.le_trans K0.1 lb103
  have O103 := O0.keep Kq103 all0
  have K103 := K0.trans Kq103 all0
  obtain ⟨fs, hr, hrun, hended, hW, hsame⟩ := X103.leave (v := some (.ref b_103)) (fun h => by rw [Bd.returns] at h; cases h)
  refine ⟨_, _, pre0 _ ?_, hrun, hended, _, _, rfl, ?_, ⟨_, rfl⟩, hW, hsame.mono (by decide) (by decide)⟩
  · show Steps p.tables e below (s₁.setTop (mkF m 0 #[.val (.ref a1)] [])) _
    refine XS.aloadN X0.here hx rfl (hb hby d_jdk_38_method_16_0) rfl rfl ?_
    show Steps p.tables e below (s₁.setTop (mkF m 1 #[.val (.ref a1)] [(.ref a1)])) _
    refine st101 _ ?_
    show Steps p.tables e below (T101.setTop (mkF m 4 #[.val (.ref a1)] [(.ref b)])) _
    refine XS.aloadN X101.here hx rfl (hb hby d_jdk_38_method_16_4) rfl rfl ?_
    show Steps p.tables e below (T101.setTop (mkF m 5 #[.val (.ref a1)] [(.ref a1), (.ref b)])) _
    refine st102 _ ?_
    show Steps p.tables e below (T102.setTop (mkF m 8 #[.val (.ref a1)] [(.int n), (.ref b)])) _
    refine st103 _ ?_
    show Steps p.tables e below (T103.setTop (mkF m 11 #[.val (.ref a1)] [(.ref b_103)])) _
    exact retOut X103 hx (t := (.array (.object "java/lang/Object"))) (i := .areturn) Bd.returns rfl (Or.inr (Or.inr (Or.inr (Or.inr ⟨rfl, rfl, rfl⟩)))) (hb hby d_jdk_38_method_16_11) hr
  · show Q_ta Z a1 b k1 vs n aX mr h0 n0 _ T103.heap _
    exact ⟨b_103, k_103, rfl, N103, K103, Vb103, sz_b_103⟩
theorem ef_rn (m : MethodId) (aX : Addr) : entryFrame m #[(.ref aX)] 1 = mkF m 0 #[.val (.ref aX)] [] := by first | (simp [entryFrame, mkF, argsToLocals, Value.category]; done) | rfl
def Q_rn (Z : State) (aX : Addr) (h0 : Heap) (n0 : Nat) (v : Option Value) (h : Heap) (L : List Loc) : Prop := v = some (.ref aX) ∧ Fr n0 L ∧ h = h0
set_option maxRecDepth 65536 in
set_option maxHeartbeats 40000000 in
theorem rm_rn (l : Launch) (Z : State) (a0 : Array Value) (hw : ∀ d ∈ tables_1, d.before a0 Z = true) (ws : List Jvm.Cond) (aX : Addr) (h0 : Heap) (n0 : Nat) (O0 : Old Z n0 h0) :
    MetFree l (⟨"java/util/Objects", "requireNonNull", "(Ljava/lang/Object;)Ljava/lang/Object;"⟩ : MethodName) (head1 (Jvm.Cond.code (⟨"java/util/Objects", "requireNonNull", "(Ljava/lang/Object;)Ljava/lang/Object;"⟩ : MethodName) jdk_31_method_10_code 1 (some (.object "java/lang/Object")) :: ws) ({ frames := 0, cells := 0, slots := 0, locals := 0 } : Room)) (fun a U => a = #[(.ref aX)] ∧ Z.Warmed39 U.vm ∧ U.heap = h0) (fun _ _ _ _ _ => True) (fun _ U o U' => ∃ v L, o = .returned v ∧ Q_rn Z aX h0 n0 v U'.heap L ∧ FrameEnd U o U' L ({ frames := 0, cells := 0, slots := 0, locals := 0 } : Room).cells ({ frames := 0, cells := 0, slots := 0, locals := 0 } : Room).slots) := by
  refine MetFree.of_bodySF (plainFor_of_name pn_8) hisR ?_
  intro p e s m args below meth c s₁ Bd hml0 hP hK
  obtain ⟨rfl, hZ, hh⟩ := hP
  have hx := Bd.exec
  have hby := Bd.bytes
  have hml : c.maxLocals = 1 := hml0
  have hown : s.vm.findClass "java/util/Objects" = some m.cls := findClass_of_methodNamed Bd.named
  have hnm := (name_of_methodNamed Bd.named Bd.method).1
  have X0 : Stand p l e ({ frames := 0, cells := 0, slots := 0, locals := 0 } : Room) s m #[(.ref aX)] below meth c s₁ [] 0 0 := Stand.of_body Bd
  have e0 : s₁.heap = h0 := by rw [← hh, Bd.state]; rfl
  have N0 := Fr.nil n0
  have pre0 : ∀ t, Steps p.tables e below (s₁.setTop (mkF m 0 #[.val (.ref aX)] [])) t → Steps p.tables e below (s₁.setTop (entryFrame m #[(.ref aX)] 1)) t := fun t k => castTop (ef_rn m aX) k
  obtain ⟨fs, hr, hrun, hended, hW, hsame⟩ := X0.leave (v := some (.ref aX)) (fun h => by rw [Bd.returns] at h; cases h)
  refine ⟨_, _, pre0 _ ?_, hrun, hended, _, _, rfl, ?_, ⟨_, rfl⟩, hW, hsame.mono (by decide) (by decide)⟩
  · show Steps p.tables e below (s₁.setTop (mkF m 0 #[.val (.ref aX)] [])) _
    refine XS.aloadN X0.here hx rfl (hb hby d_jdk_31_method_10_0) rfl rfl ?_
    refine XS.ifnonnullYes X0.here hx rfl (pc0 := 1) (pc' := 12) rfl (hb hby d_jdk_31_method_10_1) rfl (by decide) (by decide) ?_
    refine XS.aloadN X0.here hx rfl (hb hby d_jdk_31_method_10_12) rfl rfl ?_
    show Steps p.tables e below (s₁.setTop (mkF m 13 #[.val (.ref aX)] [(.ref aX)])) _
    exact retOut X0 hx (t := (.object "java/lang/Object")) (i := .areturn) Bd.returns rfl (Or.inr (Or.inr (Or.inr (Or.inr ⟨rfl, rfl, rfl⟩)))) (hb hby d_jdk_31_method_10_13) hr
  · show Q_rn Z aX h0 n0 _ s₁.heap _
    rw [e0]
    exact ⟨rfl, N0, rfl⟩
theorem ef_l1 (m : MethodId) (a1 : Addr) (aX : Addr) : entryFrame m #[(.ref a1), (.ref aX)] 2 = mkF m 0 #[.val (.ref a1), .val (.ref aX)] [] := by first | (simp [entryFrame, mkF, argsToLocals, Value.category]; done) | rfl
def Q_l1 (Z : State) (a1 : Addr) (aX : Addr) (u1 : Value) (u2 : Value) (aY : Addr) (h0 : Heap) (n0 : Nat) (v : Option Value) (h : Heap) (L : List Loc) : Prop := v = none ∧ Fr n0 L ∧ Keep h0 h [a1] ∧ Exa Z h a1 "java/util/ImmutableCollections$List12"
set_option maxRecDepth 65536 in
set_option maxHeartbeats 40000000 in
theorem rm_l1 (l : Launch) (Z : State) (a0 : Array Value) (hw : ∀ d ∈ tables_1, d.before a0 Z = true) (ws : List Jvm.Cond) (a1 : Addr) (aX : Addr) (u1 : Value) (u2 : Value) (aY : Addr) (h0 : Heap) (n0 : Nat) (O0 : Old Z n0 h0) (E1 : Exa Z h0 a1 "java/util/ImmutableCollections$List12") (F_e0 : Fld Z h0 a1 "java/util/ImmutableCollections$List12" "e0" "Ljava/lang/Object;" u1) (F_e1 : Fld Z h0 a1 "java/util/ImmutableCollections$List12" "e1" "Ljava/lang/Object;" u2) (g1 : n0 ≤ a1) (SY : Sta Z Z.heap "java/util/ImmutableCollections" "EMPTY" "Ljava/lang/Object;" (.ref aY)) :
    MetFree l (⟨"java/util/ImmutableCollections$List12", "<init>", "(Ljava/lang/Object;)V"⟩ : MethodName) (head1 (Jvm.Cond.code (⟨"java/util/ImmutableCollections$List12", "<init>", "(Ljava/lang/Object;)V"⟩ : MethodName) jdk_44_method_1_code 2 none :: ws) ({ frames := 4, cells := 0, slots := 0, locals := 48 } : Room)) (fun a U => a = #[(.ref a1), (.ref aX)] ∧ Z.Warmed39 U.vm ∧ U.heap = h0) (fun _ _ _ _ _ => True) (fun _ U o U' => ∃ v L, o = .returned v ∧ Q_l1 Z a1 aX u1 u2 aY h0 n0 v U'.heap L ∧ FrameEnd U o U' L ({ frames := 4, cells := 0, slots := 0, locals := 48 } : Room).cells ({ frames := 4, cells := 0, slots := 0, locals := 48 } : Room).slots) := by
  refine MetFree.of_bodySF (plainFor_of_name pn_9) hisR ?_
  intro p e s m args below meth c s₁ Bd hml0 hP hK
  obtain ⟨rfl, hZ, hh⟩ := hP
  have hx := Bd.exec
  have hby := Bd.bytes
  have hml : c.maxLocals = 2 := hml0
  have hown : s.vm.findClass "java/util/ImmutableCollections$List12" = some m.cls := findClass_of_methodNamed Bd.named
  have hnm := (name_of_methodNamed Bd.named Bd.method).1
  have X0 : Stand p l e ({ frames := 4, cells := 0, slots := 0, locals := 48 } : Room) s m #[(.ref a1), (.ref aX)] below meth c s₁ [] 0 0 := Stand.of_body Bd
  have e0 : s₁.heap = h0 := by rw [← hh, Bd.state]; rfl
  have N0 := Fr.nil n0
  have K0 : Keep h0 h0 [a1] := Keep.refl _ _
  have pre0 : ∀ t, Steps p.tables e below (s₁.setTop (mkF m 0 #[.val (.ref a1), .val (.ref aX)] [])) t → Steps p.tables e below (s₁.setTop (entryFrame m #[(.ref a1), (.ref aX)] 2)) t := fun t k => castTop (ef_l1 m a1 aX) k
  obtain ⟨_, _, ⟨T101, L101, k101, n101⟩, -, X101, ⟨Lc101, hQ101, l101, y101, z101⟩, st101⟩ := X0.specialBack hx (y := (⟨"java/util/ImmutableCollections$AbstractImmutableList", "<init>", "()V"⟩ : MethodName)) rfl hown (mvT hZ (hw _ (List.mem_of_getElem? (i := 176) rfl))) (mvT hZ (hw _ (List.mem_of_getElem? (i := 177) rfl))) (mvT hZ (hw _ (List.mem_of_getElem? (i := 181) rfl))) (by decide) (backOf (W := 0) (rm_ail l Z a0 hw [] a1 h0 n0 O0 ) hZ (hw _ (List.mem_of_getElem? (i := 181) rfl)) (hw _ (List.mem_of_getElem? (i := 180) rfl)) (by decide) (by decide)) (g := (mkF m 1 #[.val (.ref a1), .val (.ref aX)] [(.ref a1)])) rfl (by rw [hml]; rfl) (Steps.refl _) (a := a1) (argsL := []) (rest := []) (lenOf pd_0 rfl) rfl (by show 2 * 0 + _ ≤ _; exact Nat.le_of_eq rfl) (hb hby d_jdk_44_method_1_1) (fun _ _ => ⟨rfl, e0, (by decide : 0 + 0 ≤ _), (by decide : 0 + 0 ≤ _)⟩)
  dsimp only [Pt.U, Pt.locs, Pt.cells, Pt.slots] at X101 l101 y101 z101 st101 hQ101
  subst l101 y101 z101
  obtain ⟨rfl, Nq101, e101⟩ := hQ101
  have N101 := Fr.app N0 Nq101
  obtain ⟨_, _, ⟨T102, L102, k102, n102⟩, -, X102, ⟨Lc102, hQ102, l102, y102, z102⟩, st102⟩ := Jvm.LawKit.callS X101 hx (y := (⟨"java/util/Objects", "requireNonNull", "(Ljava/lang/Object;)Ljava/lang/Object;"⟩ : MethodName)) hown (mvT hZ (hw _ (List.mem_of_getElem? (i := 190) rfl))) (mvT hZ (hw _ (List.mem_of_getElem? (i := 191) rfl))) (mvT hZ (hw _ (List.mem_of_getElem? (i := 192) rfl))) (mvT hZ (hw _ (List.mem_of_getElem? (i := 193) rfl))) (by decide) (backOf (W := 1) (rm_rn l Z a0 hw [] aX h0 n0 O0 ) hZ (hw _ (List.mem_of_getElem? (i := 193) rfl)) (hw _ (List.mem_of_getElem? (i := 192) rfl)) (by decide) (by decide)) (g := (mkF m 6 #[.val (.ref a1), .val (.ref aX)] [(.ref aX), (.ref a1)])) rfl (by rw [hml]; rfl) (argsL := [(.ref aX)]) (rest := [(.ref a1)]) (lenOf pd_7 rfl) rfl (by show 2 * 0 + _ ≤ _; exact Nat.le_of_eq rfl) (hb hby d_jdk_44_method_1_6) (fun _ _ => ⟨rfl, e101, (by decide : 0 + 0 ≤ _), (by decide : 0 + 0 ≤ _)⟩)
  dsimp only [Pt.U, Pt.locs, Pt.cells, Pt.slots] at X102 l102 y102 z102 st102 hQ102
  subst l102 y102 z102
  obtain ⟨rfl, Nq102, e102⟩ := hQ102
  have N102 := Fr.app N101 Nq102
  obtain ⟨T103, h103, X103, e103, W103, st103⟩ := putF X102 hx hZ hown (host := "") (Or.inl (hw _ (List.mem_of_getElem? (i := 194) rfl))) Via.refl e102 F_e0 E1 (Or.inr ⟨(hw _ (List.mem_of_getElem? (i := 195) rfl)), rfl, hnm⟩) (hw _ (List.mem_of_getElem? (i := 170) rfl)) (ty := (.object "java/lang/Object")) (by decide) rfl rfl (g := (mkF m 9 #[.val (.ref a1), .val (.ref aX)] [(.ref aX), (.ref a1)])) rfl rfl (hb hby d_jdk_44_method_1_9)
  have F103 := F_e0.same W103
  have N103 := Fr.snoc X103 N102 g1
  have O103 := O0.wr W103 g1
  have K103 := K0.wr W103 (Or.inl (List.mem_of_getElem? (i := 0) rfl))
  obtain ⟨T104, X104, e104, st104⟩ := getS2 X103 hx hZ hown (Or.inr (hw _ (List.mem_of_getElem? (i := 196) rfl))) Via.refl e103 (SY.ext O103.2) (g := (mkF m 13 #[.val (.ref a1), .val (.ref aX)] [(.ref a1)])) rfl (hb hby d_jdk_44_method_1_13)
  have f105 := (E1.wr W103)
  have f106 := (F_e1.other W103 (Or.inr (slot_ne (Or.inr (hw _ (List.mem_of_getElem? (i := 198) rfl))) (Or.inr (hw _ (List.mem_of_getElem? (i := 195) rfl))) (by decide) (t := (.object "java/lang/Object")) (t' := (.object "java/lang/Object")) (by decide) (by decide))))
  obtain ⟨T107, h107, X107, e107, W107, st107⟩ := putF X104 hx hZ hown (host := "") (Or.inl (hw _ (List.mem_of_getElem? (i := 197) rfl))) Via.refl e104 f106 f105 (Or.inr ⟨(hw _ (List.mem_of_getElem? (i := 198) rfl)), rfl, hnm⟩) (hw _ (List.mem_of_getElem? (i := 170) rfl)) (ty := (.object "java/lang/Object")) (by decide) rfl rfl (g := (mkF m 16 #[.val (.ref a1), .val (.ref aX)] [(.ref aY), (.ref a1)])) rfl rfl (hb hby d_jdk_44_method_1_16)
  have F107 := f106.same W107
  have N107 := Fr.snoc X107 N103 g1
  have O107 := O103.wr W107 g1
  have K107 := K103.wr W107 (Or.inl (List.mem_of_getElem? (i := 0) rfl))
  have f108 := (f105.wr W107)
  obtain ⟨fs, hr, hrun, hended, hW, hsame⟩ := X107.leave (v := none) (fun _ => rfl)
  refine ⟨_, _, pre0 _ ?_, hrun, hended, _, _, rfl, ?_, ⟨_, rfl⟩, hW, hsame.mono (by decide) (by decide)⟩
  · show Steps p.tables e below (s₁.setTop (mkF m 0 #[.val (.ref a1), .val (.ref aX)] [])) _
    refine XS.aloadN X0.here hx rfl (hb hby d_jdk_44_method_1_0) rfl rfl ?_
    show Steps p.tables e below (s₁.setTop (mkF m 1 #[.val (.ref a1), .val (.ref aX)] [(.ref a1)])) _
    refine st101.trans ?_
    show Steps p.tables e below (T101.setTop (mkF m 4 #[.val (.ref a1), .val (.ref aX)] [])) _
    refine XS.aloadN X101.here hx rfl (hb hby d_jdk_44_method_1_4) rfl rfl ?_
    refine XS.aloadN X101.here hx rfl (hb hby d_jdk_44_method_1_5) rfl rfl ?_
    show Steps p.tables e below (T101.setTop (mkF m 6 #[.val (.ref a1), .val (.ref aX)] [(.ref aX), (.ref a1)])) _
    refine st102 _ ?_
    show Steps p.tables e below (T102.setTop (mkF m 9 #[.val (.ref a1), .val (.ref aX)] [(.ref aX), (.ref a1)])) _
    refine st103 _ ?_
    show Steps p.tables e below (T103.setTop (mkF m 12 #[.val (.ref a1), .val (.ref aX)] [])) _
    refine XS.aloadN X103.here hx rfl (hb hby d_jdk_44_method_1_12) rfl rfl ?_
    show Steps p.tables e below (T103.setTop (mkF m 13 #[.val (.ref a1), .val (.ref aX)] [(.ref a1)])) _
    refine st104 _ ?_
    show Steps p.tables e below (T104.setTop (mkF m 16 #[.val (.ref a1), .val (.ref aX)] [(.ref aY), (.ref a1)])) _
    refine st107 _ ?_
    show Steps p.tables e below (T107.setTop (mkF m 19 #[.val (.ref a1), .val (.ref aX)] [])) _
    exact X107.returnOut hx Bd.returns (hb hby d_jdk_44_method_1_19) hr
  · show Q_l1 Z a1 aX u1 u2 aY h0 n0 _ T107.heap _
    rw [e107]
    exact ⟨rfl, N107, K107, f108⟩
theorem ef_l2 (m : MethodId) (a1 : Addr) (aX : Addr) : entryFrame m #[(.ref a1), (.ref aX), (.ref aX)] 3 = mkF m 0 #[.val (.ref a1), .val (.ref aX), .val (.ref aX)] [] := by first | (simp [entryFrame, mkF, argsToLocals, Value.category]; done) | rfl
def Q_l2 (Z : State) (a1 : Addr) (aX : Addr) (u1 : Value) (u2 : Value) (aY : Addr) (h0 : Heap) (n0 : Nat) (v : Option Value) (h : Heap) (L : List Loc) : Prop := v = none ∧ Fr n0 L ∧ Keep h0 h [a1] ∧ Exa Z h a1 "java/util/ImmutableCollections$List12"
set_option maxRecDepth 65536 in
set_option maxHeartbeats 40000000 in
theorem rm_l2 (l : Launch) (Z : State) (a0 : Array Value) (hw : ∀ d ∈ tables_1, d.before a0 Z = true) (ws : List Jvm.Cond) (a1 : Addr) (aX : Addr) (u1 : Value) (u2 : Value) (aY : Addr) (h0 : Heap) (n0 : Nat) (O0 : Old Z n0 h0) (E1 : Exa Z h0 a1 "java/util/ImmutableCollections$List12") (F_e0 : Fld Z h0 a1 "java/util/ImmutableCollections$List12" "e0" "Ljava/lang/Object;" u1) (F_e1 : Fld Z h0 a1 "java/util/ImmutableCollections$List12" "e1" "Ljava/lang/Object;" u2) (g1 : n0 ≤ a1) (SY : Sta Z Z.heap "java/util/ImmutableCollections" "EMPTY" "Ljava/lang/Object;" (.ref aY)) :
    MetFree l (⟨"java/util/ImmutableCollections$List12", "<init>", "(Ljava/lang/Object;Ljava/lang/Object;)V"⟩ : MethodName) (head1 (Jvm.Cond.code (⟨"java/util/ImmutableCollections$List12", "<init>", "(Ljava/lang/Object;Ljava/lang/Object;)V"⟩ : MethodName) jdk_44_method_2_code 3 none :: ws) ({ frames := 4, cells := 0, slots := 0, locals := 48 } : Room)) (fun a U => a = #[(.ref a1), (.ref aX), (.ref aX)] ∧ Z.Warmed39 U.vm ∧ U.heap = h0) (fun _ _ _ _ _ => True) (fun _ U o U' => ∃ v L, o = .returned v ∧ Q_l2 Z a1 aX u1 u2 aY h0 n0 v U'.heap L ∧ FrameEnd U o U' L ({ frames := 4, cells := 0, slots := 0, locals := 48 } : Room).cells ({ frames := 4, cells := 0, slots := 0, locals := 48 } : Room).slots) := by
  refine MetFree.of_bodySF (plainFor_of_name pn_9) hisR ?_
  intro p e s m args below meth c s₁ Bd hml0 hP hK
  obtain ⟨rfl, hZ, hh⟩ := hP
  have hx := Bd.exec
  have hby := Bd.bytes
  have hml : c.maxLocals = 3 := hml0
  have hown : s.vm.findClass "java/util/ImmutableCollections$List12" = some m.cls := findClass_of_methodNamed Bd.named
  have hnm := (name_of_methodNamed Bd.named Bd.method).1
  have X0 : Stand p l e ({ frames := 4, cells := 0, slots := 0, locals := 48 } : Room) s m #[(.ref a1), (.ref aX), (.ref aX)] below meth c s₁ [] 0 0 := Stand.of_body Bd
  have e0 : s₁.heap = h0 := by rw [← hh, Bd.state]; rfl
  have N0 := Fr.nil n0
  have K0 : Keep h0 h0 [a1] := Keep.refl _ _
  have pre0 : ∀ t, Steps p.tables e below (s₁.setTop (mkF m 0 #[.val (.ref a1), .val (.ref aX), .val (.ref aX)] [])) t → Steps p.tables e below (s₁.setTop (entryFrame m #[(.ref a1), (.ref aX), (.ref aX)] 3)) t := fun t k => castTop (ef_l2 m a1 aX) k
  obtain ⟨_, _, ⟨T101, L101, k101, n101⟩, -, X101, ⟨Lc101, hQ101, l101, y101, z101⟩, st101⟩ := X0.specialBack hx (y := (⟨"java/util/ImmutableCollections$AbstractImmutableList", "<init>", "()V"⟩ : MethodName)) rfl hown (mvT hZ (hw _ (List.mem_of_getElem? (i := 176) rfl))) (mvT hZ (hw _ (List.mem_of_getElem? (i := 177) rfl))) (mvT hZ (hw _ (List.mem_of_getElem? (i := 181) rfl))) (by decide) (backOf (W := 0) (rm_ail l Z a0 hw [] a1 h0 n0 O0 ) hZ (hw _ (List.mem_of_getElem? (i := 181) rfl)) (hw _ (List.mem_of_getElem? (i := 180) rfl)) (by decide) (by decide)) (g := (mkF m 1 #[.val (.ref a1), .val (.ref aX), .val (.ref aX)] [(.ref a1)])) rfl (by rw [hml]; rfl) (Steps.refl _) (a := a1) (argsL := []) (rest := []) (lenOf pd_0 rfl) rfl (by show 2 * 0 + _ ≤ _; exact Nat.le_of_eq rfl) (hb hby d_jdk_44_method_2_1) (fun _ _ => ⟨rfl, e0, (by decide : 0 + 0 ≤ _), (by decide : 0 + 0 ≤ _)⟩)
  dsimp only [Pt.U, Pt.locs, Pt.cells, Pt.slots] at X101 l101 y101 z101 st101 hQ101
  subst l101 y101 z101
  obtain ⟨rfl, Nq101, e101⟩ := hQ101
  have N101 := Fr.app N0 Nq101
  obtain ⟨_, _, ⟨T102, L102, k102, n102⟩, -, X102, ⟨Lc102, hQ102, l102, y102, z102⟩, st102⟩ := Jvm.LawKit.callS X101 hx (y := (⟨"java/util/Objects", "requireNonNull", "(Ljava/lang/Object;)Ljava/lang/Object;"⟩ : MethodName)) hown (mvT hZ (hw _ (List.mem_of_getElem? (i := 190) rfl))) (mvT hZ (hw _ (List.mem_of_getElem? (i := 191) rfl))) (mvT hZ (hw _ (List.mem_of_getElem? (i := 192) rfl))) (mvT hZ (hw _ (List.mem_of_getElem? (i := 193) rfl))) (by decide) (backOf (W := 1) (rm_rn l Z a0 hw [] aX h0 n0 O0 ) hZ (hw _ (List.mem_of_getElem? (i := 193) rfl)) (hw _ (List.mem_of_getElem? (i := 192) rfl)) (by decide) (by decide)) (g := (mkF m 6 #[.val (.ref a1), .val (.ref aX), .val (.ref aX)] [(.ref aX), (.ref a1)])) rfl (by rw [hml]; rfl) (argsL := [(.ref aX)]) (rest := [(.ref a1)]) (lenOf pd_7 rfl) rfl (by show 2 * 0 + _ ≤ _; exact Nat.le_of_eq rfl) (hb hby d_jdk_44_method_2_6) (fun _ _ => ⟨rfl, e101, (by decide : 0 + 0 ≤ _), (by decide : 0 + 0 ≤ _)⟩)
  dsimp only [Pt.U, Pt.locs, Pt.cells, Pt.slots] at X102 l102 y102 z102 st102 hQ102
  subst l102 y102 z102
  obtain ⟨rfl, Nq102, e102⟩ := hQ102
  have N102 := Fr.app N101 Nq102
  obtain ⟨T103, h103, X103, e103, W103, st103⟩ := putF X102 hx hZ hown (host := "") (Or.inl (hw _ (List.mem_of_getElem? (i := 194) rfl))) Via.refl e102 F_e0 E1 (Or.inr ⟨(hw _ (List.mem_of_getElem? (i := 195) rfl)), rfl, hnm⟩) (hw _ (List.mem_of_getElem? (i := 170) rfl)) (ty := (.object "java/lang/Object")) (by decide) rfl rfl (g := (mkF m 9 #[.val (.ref a1), .val (.ref aX), .val (.ref aX)] [(.ref aX), (.ref a1)])) rfl rfl (hb hby d_jdk_44_method_2_9)
  have F103 := F_e0.same W103
  have N103 := Fr.snoc X103 N102 g1
  have O103 := O0.wr W103 g1
  have K103 := K0.wr W103 (Or.inl (List.mem_of_getElem? (i := 0) rfl))
  obtain ⟨_, _, ⟨T104, L104, k104, n104⟩, -, X104, ⟨Lc104, hQ104, l104, y104, z104⟩, st104⟩ := Jvm.LawKit.callS X103 hx (y := (⟨"java/util/Objects", "requireNonNull", "(Ljava/lang/Object;)Ljava/lang/Object;"⟩ : MethodName)) hown (mvT hZ (hw _ (List.mem_of_getElem? (i := 190) rfl))) (mvT hZ (hw _ (List.mem_of_getElem? (i := 191) rfl))) (mvT hZ (hw _ (List.mem_of_getElem? (i := 192) rfl))) (mvT hZ (hw _ (List.mem_of_getElem? (i := 193) rfl))) (by decide) (backOf (W := 1) (rm_rn l Z a0 hw [] aX h103 n0 O103 ) hZ (hw _ (List.mem_of_getElem? (i := 193) rfl)) (hw _ (List.mem_of_getElem? (i := 192) rfl)) (by decide) (by decide)) (g := (mkF m 14 #[.val (.ref a1), .val (.ref aX), .val (.ref aX)] [(.ref aX), (.ref a1)])) rfl (by rw [hml]; rfl) (argsL := [(.ref aX)]) (rest := [(.ref a1)]) (lenOf pd_7 rfl) rfl (by show 2 * 0 + _ ≤ _; exact Nat.le_of_eq rfl) (hb hby d_jdk_44_method_2_14) (fun _ _ => ⟨rfl, e103, (by decide : 0 + 0 ≤ _), (by decide : 0 + 0 ≤ _)⟩)
  dsimp only [Pt.U, Pt.locs, Pt.cells, Pt.slots] at X104 l104 y104 z104 st104 hQ104
  subst l104 y104 z104
  obtain ⟨rfl, Nq104, e104⟩ := hQ104
  have N104 := Fr.app N103 Nq104
  have f105 := (E1.wr W103)
  have f106 := (F_e1.other W103 (Or.inr (slot_ne (Or.inr (hw _ (List.mem_of_getElem? (i := 198) rfl))) (Or.inr (hw _ (List.mem_of_getElem? (i := 195) rfl))) (by decide) (t := (.object "java/lang/Object")) (t' := (.object "java/lang/Object")) (by decide) (by decide))))
  obtain ⟨T107, h107, X107, e107, W107, st107⟩ := putF X104 hx hZ hown (host := "") (Or.inl (hw _ (List.mem_of_getElem? (i := 197) rfl))) Via.refl e104 f106 f105 (Or.inr ⟨(hw _ (List.mem_of_getElem? (i := 198) rfl)), rfl, hnm⟩) (hw _ (List.mem_of_getElem? (i := 170) rfl)) (ty := (.object "java/lang/Object")) (by decide) rfl rfl (g := (mkF m 17 #[.val (.ref a1), .val (.ref aX), .val (.ref aX)] [(.ref aX), (.ref a1)])) rfl rfl (hb hby d_jdk_44_method_2_17)
  have F107 := f106.same W107
  have N107 := Fr.snoc X107 N104 g1
  have O107 := O103.wr W107 g1
  have K107 := K103.wr W107 (Or.inl (List.mem_of_getElem? (i := 0) rfl))
  have f108 := (f105.wr W107)
  obtain ⟨fs, hr, hrun, hended, hW, hsame⟩ := X107.leave (v := none) (fun _ => rfl)
  refine ⟨_, _, pre0 _ ?_, hrun, hended, _, _, rfl, ?_, ⟨_, rfl⟩, hW, hsame.mono (by decide) (by decide)⟩
  · show Steps p.tables e below (s₁.setTop (mkF m 0 #[.val (.ref a1), .val (.ref aX), .val (.ref aX)] [])) _
    refine XS.aloadN X0.here hx rfl (hb hby d_jdk_44_method_2_0) rfl rfl ?_
    show Steps p.tables e below (s₁.setTop (mkF m 1 #[.val (.ref a1), .val (.ref aX), .val (.ref aX)] [(.ref a1)])) _
    refine st101.trans ?_
    show Steps p.tables e below (T101.setTop (mkF m 4 #[.val (.ref a1), .val (.ref aX), .val (.ref aX)] [])) _
    refine XS.aloadN X101.here hx rfl (hb hby d_jdk_44_method_2_4) rfl rfl ?_
    refine XS.aloadN X101.here hx rfl (hb hby d_jdk_44_method_2_5) rfl rfl ?_
    show Steps p.tables e below (T101.setTop (mkF m 6 #[.val (.ref a1), .val (.ref aX), .val (.ref aX)] [(.ref aX), (.ref a1)])) _
    refine st102 _ ?_
    show Steps p.tables e below (T102.setTop (mkF m 9 #[.val (.ref a1), .val (.ref aX), .val (.ref aX)] [(.ref aX), (.ref a1)])) _
    refine st103 _ ?_
    show Steps p.tables e below (T103.setTop (mkF m 12 #[.val (.ref a1), .val (.ref aX), .val (.ref aX)] [])) _
    refine XS.aloadN X103.here hx rfl (hb hby d_jdk_44_method_2_12) rfl rfl ?_
    refine XS.aloadN X103.here hx rfl (hb hby d_jdk_44_method_2_13) rfl rfl ?_
    show Steps p.tables e below (T103.setTop (mkF m 14 #[.val (.ref a1), .val (.ref aX), .val (.ref aX)] [(.ref aX), (.ref a1)])) _
    refine st104 _ ?_
    show Steps p.tables e below (T104.setTop (mkF m 17 #[.val (.ref a1), .val (.ref aX), .val (.ref aX)] [(.ref aX), (.ref a1)])) _
    refine st107 _ ?_
    show Steps p.tables e below (T107.setTop (mkF m 20 #[.val (.ref a1), .val (.ref aX), .val (.ref aX)] [])) _
    exact X107.returnOut hx Bd.returns (hb hby d_jdk_44_method_2_20) hr
  · show Q_l2 Z a1 aX u1 u2 aY h0 n0 _ T107.heap _
    rw [e107]
    exact ⟨rfl, N107, K107, f108⟩
theorem ef_ln (m : MethodId) (a1 : Addr) (aT : Addr) : entryFrame m #[(.ref a1), (.ref aT), (.int (0 : Int32))] 3 = mkF m 0 #[.val (.ref a1), .val (.ref aT), .val (.int (0 : Int32))] [] := by first | (simp [entryFrame, mkF, argsToLocals, Value.category]; done) | rfl
def Q_ln (Z : State) (a1 : Addr) (aT : Addr) (u1 : Value) (u2 : Value) (h0 : Heap) (n0 : Nat) (v : Option Value) (h : Heap) (L : List Loc) : Prop := v = none ∧ Fr n0 L ∧ Keep h0 h [a1] ∧ Exa Z h a1 "java/util/ImmutableCollections$ListN"
set_option maxRecDepth 65536 in
set_option maxHeartbeats 40000000 in
theorem rm_ln (l : Launch) (Z : State) (a0 : Array Value) (hw : ∀ d ∈ tables_1, d.before a0 Z = true) (ws : List Jvm.Cond) (a1 : Addr) (aT : Addr) (u1 : Value) (u2 : Value) (h0 : Heap) (n0 : Nat) (O0 : Old Z n0 h0) (E1 : Exa Z h0 a1 "java/util/ImmutableCollections$ListN") (F_elements : Fld Z h0 a1 "java/util/ImmutableCollections$ListN" "elements" "[Ljava/lang/Object;" u1) (F_allowNulls : Fld Z h0 a1 "java/util/ImmutableCollections$ListN" "allowNulls" "Z" u2) (g1 : n0 ≤ a1) :
    MetFree l (⟨"java/util/ImmutableCollections$ListN", "<init>", "([Ljava/lang/Object;Z)V"⟩ : MethodName) (head1 (Jvm.Cond.code (⟨"java/util/ImmutableCollections$ListN", "<init>", "([Ljava/lang/Object;Z)V"⟩ : MethodName) jdk_45_method_1_code 3 none :: ws) ({ frames := 4, cells := 0, slots := 0, locals := 48 } : Room)) (fun a U => a = #[(.ref a1), (.ref aT), (.int (0 : Int32))] ∧ Z.Warmed39 U.vm ∧ U.heap = h0) (fun _ _ _ _ _ => True) (fun _ U o U' => ∃ v L, o = .returned v ∧ Q_ln Z a1 aT u1 u2 h0 n0 v U'.heap L ∧ FrameEnd U o U' L ({ frames := 4, cells := 0, slots := 0, locals := 48 } : Room).cells ({ frames := 4, cells := 0, slots := 0, locals := 48 } : Room).slots) := by
  refine MetFree.of_bodySF (plainFor_of_name pn_10) hisR ?_
  intro p e s m args below meth c s₁ Bd hml0 hP hK
  obtain ⟨rfl, hZ, hh⟩ := hP
  have hx := Bd.exec
  have hby := Bd.bytes
  have hml : c.maxLocals = 3 := hml0
  have hown : s.vm.findClass "java/util/ImmutableCollections$ListN" = some m.cls := findClass_of_methodNamed Bd.named
  have hnm := (name_of_methodNamed Bd.named Bd.method).1
  have X0 : Stand p l e ({ frames := 4, cells := 0, slots := 0, locals := 48 } : Room) s m #[(.ref a1), (.ref aT), (.int (0 : Int32))] below meth c s₁ [] 0 0 := Stand.of_body Bd
  have e0 : s₁.heap = h0 := by rw [← hh, Bd.state]; rfl
  have N0 := Fr.nil n0
  have K0 : Keep h0 h0 [a1] := Keep.refl _ _
  have pre0 : ∀ t, Steps p.tables e below (s₁.setTop (mkF m 0 #[.val (.ref a1), .val (.ref aT), .val (.int (0 : Int32))] [])) t → Steps p.tables e below (s₁.setTop (entryFrame m #[(.ref a1), (.ref aT), (.int (0 : Int32))] 3)) t := fun t k => castTop (ef_ln m a1 aT) k
  obtain ⟨_, _, ⟨T101, L101, k101, n101⟩, -, X101, ⟨Lc101, hQ101, l101, y101, z101⟩, st101⟩ := X0.specialBack hx (y := (⟨"java/util/ImmutableCollections$AbstractImmutableList", "<init>", "()V"⟩ : MethodName)) rfl hown (mvT hZ (hw _ (List.mem_of_getElem? (i := 230) rfl))) (mvT hZ (hw _ (List.mem_of_getElem? (i := 177) rfl))) (mvT hZ (hw _ (List.mem_of_getElem? (i := 181) rfl))) (by decide) (backOf (W := 0) (rm_ail l Z a0 hw [] a1 h0 n0 O0 ) hZ (hw _ (List.mem_of_getElem? (i := 181) rfl)) (hw _ (List.mem_of_getElem? (i := 180) rfl)) (by decide) (by decide)) (g := (mkF m 1 #[.val (.ref a1), .val (.ref aT), .val (.int (0 : Int32))] [(.ref a1)])) rfl (by rw [hml]; rfl) (Steps.refl _) (a := a1) (argsL := []) (rest := []) (lenOf pd_0 rfl) rfl (by show 2 * 0 + _ ≤ _; exact Nat.le_of_eq rfl) (hb hby d_jdk_45_method_1_1) (fun _ _ => ⟨rfl, e0, (by decide : 0 + 0 ≤ _), (by decide : 0 + 0 ≤ _)⟩)
  dsimp only [Pt.U, Pt.locs, Pt.cells, Pt.slots] at X101 l101 y101 z101 st101 hQ101
  subst l101 y101 z101
  obtain ⟨rfl, Nq101, e101⟩ := hQ101
  have N101 := Fr.app N0 Nq101
  obtain ⟨T102, h102, X102, e102, W102, st102⟩ := putF X101 hx hZ hown (host := "") (Or.inl (hw _ (List.mem_of_getElem? (i := 234) rfl))) Via.refl e101 F_elements E1 (Or.inr ⟨(hw _ (List.mem_of_getElem? (i := 235) rfl)), rfl, hnm⟩) (hw _ (List.mem_of_getElem? (i := 224) rfl)) (ty := (.array (.object "java/lang/Object"))) (by decide) rfl rfl (g := (mkF m 6 #[.val (.ref a1), .val (.ref aT), .val (.int (0 : Int32))] [(.ref aT), (.ref a1)])) rfl rfl (hb hby d_jdk_45_method_1_6)
  have F102 := F_elements.same W102
  have N102 := Fr.snoc X102 N101 g1
  have O102 := O0.wr W102 g1
  have K102 := K0.wr W102 (Or.inl (List.mem_of_getElem? (i := 0) rfl))
  have f103 := (E1.wr W102)
  have f104 := (F_allowNulls.other W102 (Or.inr (slot_ne (Or.inr (hw _ (List.mem_of_getElem? (i := 237) rfl))) (Or.inr (hw _ (List.mem_of_getElem? (i := 235) rfl))) (by decide) (t := .boolean) (t' := (.array (.object "java/lang/Object"))) (by decide) (by decide))))
  obtain ⟨T105, h105, X105, e105, W105, st105⟩ := putFN X102 hx hZ hown (hw _ (List.mem_of_getElem? (i := 236) rfl)) Via.refl e102 f104 f103 (Or.inr ⟨(hw _ (List.mem_of_getElem? (i := 237) rfl)), rfl, hnm⟩) (hw _ (List.mem_of_getElem? (i := 224) rfl)) (ty := .boolean) (v' := (.int (0 : Int32))) (by decide) rfl rfl (g := (mkF m 11 #[.val (.ref a1), .val (.ref aT), .val (.int (0 : Int32))] [(.int (0 : Int32)), (.ref a1)])) rfl rfl (hb hby d_jdk_45_method_1_11)
  have F105 := f104.same W105
  have N105 := Fr.snoc X105 N102 g1
  have O105 := O102.wr W105 g1
  have K105 := K102.wr W105 (Or.inl (List.mem_of_getElem? (i := 0) rfl))
  have f106 := (f103.wr W105)
  obtain ⟨fs, hr, hrun, hended, hW, hsame⟩ := X105.leave (v := none) (fun _ => rfl)
  refine ⟨_, _, pre0 _ ?_, hrun, hended, _, _, rfl, ?_, ⟨_, rfl⟩, hW, hsame.mono (by decide) (by decide)⟩
  · show Steps p.tables e below (s₁.setTop (mkF m 0 #[.val (.ref a1), .val (.ref aT), .val (.int (0 : Int32))] [])) _
    refine XS.aloadN X0.here hx rfl (hb hby d_jdk_45_method_1_0) rfl rfl ?_
    show Steps p.tables e below (s₁.setTop (mkF m 1 #[.val (.ref a1), .val (.ref aT), .val (.int (0 : Int32))] [(.ref a1)])) _
    refine st101.trans ?_
    show Steps p.tables e below (T101.setTop (mkF m 4 #[.val (.ref a1), .val (.ref aT), .val (.int (0 : Int32))] [])) _
    refine XS.aloadN X101.here hx rfl (hb hby d_jdk_45_method_1_4) rfl rfl ?_
    refine XS.aloadN X101.here hx rfl (hb hby d_jdk_45_method_1_5) rfl rfl ?_
    show Steps p.tables e below (T101.setTop (mkF m 6 #[.val (.ref a1), .val (.ref aT), .val (.int (0 : Int32))] [(.ref aT), (.ref a1)])) _
    refine st102 _ ?_
    show Steps p.tables e below (T102.setTop (mkF m 9 #[.val (.ref a1), .val (.ref aT), .val (.int (0 : Int32))] [])) _
    refine XS.aloadN X102.here hx rfl (hb hby d_jdk_45_method_1_9) rfl rfl ?_
    refine XS.iloadN X102.here hx rfl (hb hby d_jdk_45_method_1_10) rfl ?_
    show Steps p.tables e below (T102.setTop (mkF m 11 #[.val (.ref a1), .val (.ref aT), .val (.int (0 : Int32))] [(.int (0 : Int32)), (.ref a1)])) _
    refine st105 _ ?_
    show Steps p.tables e below (T105.setTop (mkF m 14 #[.val (.ref a1), .val (.ref aT), .val (.int (0 : Int32))] [])) _
    exact X105.returnOut hx Bd.returns (hb hby d_jdk_45_method_1_14) hr
  · show Q_ln Z a1 aT u1 u2 h0 n0 _ T105.heap _
    rw [e105]
    exact ⟨rfl, N105, K105, f106⟩
theorem ef_lf3 (m : MethodId) (a1 : Addr) : entryFrame m #[(.ref a1)] 3 = mkF m 0 #[.val (.ref a1), .unset, .unset] [] := by first | (simp [entryFrame, mkF, argsToLocals, Value.category]; done) | rfl
def Q_lf3 (Z : State) (a1 : Addr) (k1 : ClassId) (aX : Addr) (h0 : Heap) (n0 : Nat) (v : Option Value) (h : Heap) (L : List Loc) : Prop := ∃ (bb : Addr), v = some (.ref bb) ∧ Fr n0 L ∧ Keep h0 h []
set_option maxRecDepth 65536 in
set_option maxHeartbeats 40000000 in
theorem rm_lf3 (l : Launch) (Z : State) (a0 : Array Value) (hw : ∀ d ∈ tables_1, d.before a0 Z = true) (ws : List Jvm.Cond) (a1 : Addr) (k1 : ClassId) (aX : Addr) (h0 : Heap) (n0 : Nat) (O0 : Old Z n0 h0) (VA : Arv Z h0 a1 k1 (.object "java/lang/Object") (3 : Int32) [(.ref aX), (.ref aX), (.ref aX)] .null) (EX : Exa Z h0 aX "com/example/jitney/jitney/Instance$Node") (gA : n0 ≤ a1) (gX : n0 ≤ aX) :
    MetFree l (⟨"java/util/ImmutableCollections", "listFromArray", "([Ljava/lang/Object;)Ljava/util/List;"⟩ : MethodName) (head1 (Jvm.Cond.code (⟨"java/util/ImmutableCollections", "listFromArray", "([Ljava/lang/Object;)Ljava/util/List;"⟩ : MethodName) jdk_56_method_4_code 3 (some (.object "java/util/List")) :: ws) ({ frames := 5, cells := 2, slots := 10, locals := 63 } : Room)) (fun a U => a = #[(.ref a1)] ∧ Z.Warmed39 U.vm ∧ U.heap = h0) (fun _ _ _ _ _ => True) (fun _ U o U' => ∃ v L, o = .returned v ∧ Q_lf3 Z a1 k1 aX h0 n0 v U'.heap L ∧ FrameEnd U o U' L ({ frames := 5, cells := 2, slots := 10, locals := 63 } : Room).cells ({ frames := 5, cells := 2, slots := 10, locals := 63 } : Room).slots) := by
  refine MetFree.of_bodySF (plainFor_of_name pn_11) hisR ?_
  intro p e s m args below meth c s₁ Bd hml0 hP hK
  obtain ⟨rfl, hZ, hh⟩ := hP
  have hx := Bd.exec
  have hby := Bd.bytes
  have hml : c.maxLocals = 3 := hml0
  have hown : s.vm.findClass "java/util/ImmutableCollections" = some m.cls := findClass_of_methodNamed Bd.named
  have hnm := (name_of_methodNamed Bd.named Bd.method).1
  have X0 : Stand p l e ({ frames := 5, cells := 2, slots := 10, locals := 63 } : Room) s m #[(.ref a1)] below meth c s₁ [] 0 0 := Stand.of_body Bd
  have e0 : s₁.heap = h0 := by rw [← hh, Bd.state]; rfl
  have N0 := Fr.nil n0
  have K0 : Keep h0 h0 [] := Keep.refl _ _
  have pre0 : ∀ t, Steps p.tables e below (s₁.setTop (mkF m 0 #[.val (.ref a1), .unset, .unset] [])) t → Steps p.tables e below (s₁.setTop (entryFrame m #[(.ref a1)] 3)) t := fun t k => castTop (ef_lf3 m a1) k
  obtain ⟨cl101, Ar101, -, S101, Ne101, -, -⟩ := id VA
  obtain ⟨T102, h102, k102, X102, e102, E102, A102, Ex102, Ov102, st102⟩ := newRE X0 hx hZ hown (hw _ (List.mem_of_getElem? (i := 222) rfl)) (hw _ (List.mem_of_getElem? (i := 79) rfl)) e0 (g := (mkF m 2 #[.val (.ref a1), .unset, .unset] [(.int (3 : Int32))])) rfl (hb hby d_jdk_56_method_4_2) rfl (by decide) (cap := 3) (by decide) (by decide) (by decide) (by decide) (ad := "[Ljava/lang/Object;") rfl
  obtain ⟨b102, g102⟩ : ∃ z, z = h0.size := ⟨_, rfl⟩
  rw [← g102] at A102 Ex102 st102
  have g_b102 : n0 ≤ b102 := Nat.le_trans (own_szO O0) (Nat.le_of_eq g102.symm)
  have sz_b102 : h0.size ≤ b102 := Nat.le_trans K0.1 (Nat.le_of_eq g102.symm)
  have ne_a1_b102 : a1 ≠ b102 := Nat.ne_of_lt (Nat.lt_of_lt_of_le VA.lt (Nat.le_of_eq g102.symm))
  have ne_aX_b102 : aX ≠ b102 := Nat.ne_of_lt (Nat.lt_of_lt_of_le EX.lt (Nat.le_of_eq g102.symm))
  have O102 := O0.ext E102
  have K102 := K0.ext E102
  have V102 : Arv Z h102 b102 k102 (.object "java/lang/Object") (3 : Int32) [.null, .null, .null] .null := (Arv.new A102 (by decide)).pad (pad_rep [] .null 3)
  have f103 := (VA.ext E102)
  obtain ⟨cl104, Ar104, -, S104, Ne104, -, -⟩ := id f103
  obtain ⟨cl105, Ar105, q105, S105, Ne105, H105, G105⟩ := id f103
  have hin105 : ¬ ((0 : Int32) < 0 ∨ cl105.slots.size ≤ ((0 : Int32)).toNatClampNeg) := inb_of S105 ⟨by decide, by decide⟩
  have hat105 : cl105.slots[((0 : Int32)).toNatClampNeg]? = some (.ref aX) := H105.at hin105 rfl
  obtain ⟨_, _, ⟨T106, L106, k106, n106⟩, -, X106, ⟨Lc106, hQ106, l106, y106, z106⟩, st106⟩ := Jvm.LawKit.callS X102 hx (y := (⟨"java/util/Objects", "requireNonNull", "(Ljava/lang/Object;)Ljava/lang/Object;"⟩ : MethodName)) hown (mvT hZ (hw _ (List.mem_of_getElem? (i := 223) rfl))) (mvT hZ (hw _ (List.mem_of_getElem? (i := 191) rfl))) (mvT hZ (hw _ (List.mem_of_getElem? (i := 192) rfl))) (mvT hZ (hw _ (List.mem_of_getElem? (i := 193) rfl))) (by decide) (backOf (W := 2) (rm_rn l Z a0 hw [] aX h102 n0 O102 ) hZ (hw _ (List.mem_of_getElem? (i := 193) rfl)) (hw _ (List.mem_of_getElem? (i := 192) rfl)) (by decide) (by decide)) (g := (mkF m 19 #[.val (.ref a1), .val (.ref b102), .val (.int (0 : Int32))] [(.ref aX), (.int (0 : Int32)), (.ref b102)])) rfl (by rw [hml]; rfl) (argsL := [(.ref aX)]) (rest := [(.int (0 : Int32)), (.ref b102)]) (lenOf pd_7 rfl) rfl (by show 2 * 0 + _ ≤ _; exact Nat.le_of_eq rfl) (hb hby d_jdk_56_method_4_19) (fun _ _ => ⟨rfl, e102, (by decide : 1 + 0 ≤ _), (by decide : 3 + 0 ≤ _)⟩)
  dsimp only [Pt.U, Pt.locs, Pt.cells, Pt.slots] at X106 l106 y106 z106 st106 hQ106
  subst l106 y106 z106
  obtain ⟨rfl, Nq106, e106⟩ := hQ106
  have N106 := Fr.app N0 Nq106
  obtain ⟨cl107, Ar107, q107, S107, Ne107, H107, G107⟩ := id V102
  have hin107 : ¬ ((0 : Int32) < 0 ∨ cl107.slots.size ≤ ((0 : Int32)).toNatClampNeg) := inb_of S107 ⟨by decide, by decide⟩
  have f108 := (EX.ext E102)
  obtain ⟨T109, h109, X109, e109, W109, st109⟩ := stR X106 hx hZ e106 Ar107 (j := (0 : Int32)) hin107 rfl (Sto.ofV Ar107 q107 Ov102 (Ins.of_exa f108 (hw _ (List.mem_of_getElem? (i := 80) rfl)))) (g := (mkF m 22 #[.val (.ref a1), .val (.ref b102), .val (.int (0 : Int32))] [(.ref aX), (.int (0 : Int32)), (.ref b102)])) rfl rfl (hb hby d_jdk_56_method_4_22)
  have V109 : Arv Z h109 b102 k102 (.object "java/lang/Object") (3 : Int32) [(.ref aX), .null, .null] .null := Arv.set Ar107 q107 S107 Ne107 H107 G107 rfl W109 0 rfl (Nat.le_of_ble_eq_true rfl)
  have N109 := Fr.snoc X109 N106 g_b102
  have O109 := O102.wr W109 g_b102
  have K109 := K102.wr W109 (Or.inr sz_b102)
  have f110 := (f103.other W109 ne_a1_b102)
  obtain ⟨cl111, Ar111, -, S111, Ne111, -, -⟩ := id f110
  obtain ⟨cl112, Ar112, q112, S112, Ne112, H112, G112⟩ := id f110
  have hin112 : ¬ ((1 : Int32) < 0 ∨ cl112.slots.size ≤ ((1 : Int32)).toNatClampNeg) := inb_of S112 ⟨by decide, by decide⟩
  have hat112 : cl112.slots[((1 : Int32)).toNatClampNeg]? = some (.ref aX) := H112.at hin112 rfl
  obtain ⟨_, _, ⟨T113, L113, k113, n113⟩, -, X113, ⟨Lc113, hQ113, l113, y113, z113⟩, st113⟩ := Jvm.LawKit.callS X109 hx (y := (⟨"java/util/Objects", "requireNonNull", "(Ljava/lang/Object;)Ljava/lang/Object;"⟩ : MethodName)) hown (mvT hZ (hw _ (List.mem_of_getElem? (i := 223) rfl))) (mvT hZ (hw _ (List.mem_of_getElem? (i := 191) rfl))) (mvT hZ (hw _ (List.mem_of_getElem? (i := 192) rfl))) (mvT hZ (hw _ (List.mem_of_getElem? (i := 193) rfl))) (by decide) (backOf (W := 2) (rm_rn l Z a0 hw [] aX h109 n0 O109 ) hZ (hw _ (List.mem_of_getElem? (i := 193) rfl)) (hw _ (List.mem_of_getElem? (i := 192) rfl)) (by decide) (by decide)) (g := (mkF m 19 #[.val (.ref a1), .val (.ref b102), .val (.int (1 : Int32))] [(.ref aX), (.int (1 : Int32)), (.ref b102)])) rfl (by rw [hml]; rfl) (argsL := [(.ref aX)]) (rest := [(.int (1 : Int32)), (.ref b102)]) (lenOf pd_7 rfl) rfl (by show 2 * 0 + _ ≤ _; exact Nat.le_of_eq rfl) (hb hby d_jdk_56_method_4_19) (fun _ _ => ⟨rfl, e109, (by decide : 1 + 0 ≤ _), (by decide : 3 + 0 ≤ _)⟩)
  dsimp only [Pt.U, Pt.locs, Pt.cells, Pt.slots] at X113 l113 y113 z113 st113 hQ113
  subst l113 y113 z113
  obtain ⟨rfl, Nq113, e113⟩ := hQ113
  have N113 := Fr.app N109 Nq113
  obtain ⟨cl114, Ar114, q114, S114, Ne114, H114, G114⟩ := id V109
  have hin114 : ¬ ((1 : Int32) < 0 ∨ cl114.slots.size ≤ ((1 : Int32)).toNatClampNeg) := inb_of S114 ⟨by decide, by decide⟩
  have f115 := (f108.wr W109)
  obtain ⟨T116, h116, X116, e116, W116, st116⟩ := stR X113 hx hZ e113 Ar114 (j := (1 : Int32)) hin114 rfl (Sto.ofV Ar114 q114 Ov102 (Ins.of_exa f115 (hw _ (List.mem_of_getElem? (i := 80) rfl)))) (g := (mkF m 22 #[.val (.ref a1), .val (.ref b102), .val (.int (1 : Int32))] [(.ref aX), (.int (1 : Int32)), (.ref b102)])) rfl rfl (hb hby d_jdk_56_method_4_22)
  have V116 : Arv Z h116 b102 k102 (.object "java/lang/Object") (3 : Int32) [(.ref aX), (.ref aX), .null] .null := Arv.set Ar114 q114 S114 Ne114 H114 G114 rfl W116 1 rfl (Nat.le_of_ble_eq_true rfl)
  have N116 := Fr.snoc X116 N113 g_b102
  have O116 := O109.wr W116 g_b102
  have K116 := K109.wr W116 (Or.inr sz_b102)
  have f117 := (f110.other W116 ne_a1_b102)
  obtain ⟨cl118, Ar118, -, S118, Ne118, -, -⟩ := id f117
  obtain ⟨cl119, Ar119, q119, S119, Ne119, H119, G119⟩ := id f117
  have hin119 : ¬ ((2 : Int32) < 0 ∨ cl119.slots.size ≤ ((2 : Int32)).toNatClampNeg) := inb_of S119 ⟨by decide, by decide⟩
  have hat119 : cl119.slots[((2 : Int32)).toNatClampNeg]? = some (.ref aX) := H119.at hin119 rfl
  obtain ⟨_, _, ⟨T120, L120, k120, n120⟩, -, X120, ⟨Lc120, hQ120, l120, y120, z120⟩, st120⟩ := Jvm.LawKit.callS X116 hx (y := (⟨"java/util/Objects", "requireNonNull", "(Ljava/lang/Object;)Ljava/lang/Object;"⟩ : MethodName)) hown (mvT hZ (hw _ (List.mem_of_getElem? (i := 223) rfl))) (mvT hZ (hw _ (List.mem_of_getElem? (i := 191) rfl))) (mvT hZ (hw _ (List.mem_of_getElem? (i := 192) rfl))) (mvT hZ (hw _ (List.mem_of_getElem? (i := 193) rfl))) (by decide) (backOf (W := 2) (rm_rn l Z a0 hw [] aX h116 n0 O116 ) hZ (hw _ (List.mem_of_getElem? (i := 193) rfl)) (hw _ (List.mem_of_getElem? (i := 192) rfl)) (by decide) (by decide)) (g := (mkF m 19 #[.val (.ref a1), .val (.ref b102), .val (.int (2 : Int32))] [(.ref aX), (.int (2 : Int32)), (.ref b102)])) rfl (by rw [hml]; rfl) (argsL := [(.ref aX)]) (rest := [(.int (2 : Int32)), (.ref b102)]) (lenOf pd_7 rfl) rfl (by show 2 * 0 + _ ≤ _; exact Nat.le_of_eq rfl) (hb hby d_jdk_56_method_4_19) (fun _ _ => ⟨rfl, e116, (by decide : 1 + 0 ≤ _), (by decide : 3 + 0 ≤ _)⟩)
  dsimp only [Pt.U, Pt.locs, Pt.cells, Pt.slots] at X120 l120 y120 z120 st120 hQ120
  subst l120 y120 z120
  obtain ⟨rfl, Nq120, e120⟩ := hQ120
  have N120 := Fr.app N116 Nq120
  obtain ⟨cl121, Ar121, q121, S121, Ne121, H121, G121⟩ := id V116
  have hin121 : ¬ ((2 : Int32) < 0 ∨ cl121.slots.size ≤ ((2 : Int32)).toNatClampNeg) := inb_of S121 ⟨by decide, by decide⟩
  have f122 := (f115.wr W116)
  obtain ⟨T123, h123, X123, e123, W123, st123⟩ := stR X120 hx hZ e120 Ar121 (j := (2 : Int32)) hin121 rfl (Sto.ofV Ar121 q121 Ov102 (Ins.of_exa f122 (hw _ (List.mem_of_getElem? (i := 80) rfl)))) (g := (mkF m 22 #[.val (.ref a1), .val (.ref b102), .val (.int (2 : Int32))] [(.ref aX), (.int (2 : Int32)), (.ref b102)])) rfl rfl (hb hby d_jdk_56_method_4_22)
  have V123 : Arv Z h123 b102 k102 (.object "java/lang/Object") (3 : Int32) [(.ref aX), (.ref aX), (.ref aX)] .null := Arv.set Ar121 q121 S121 Ne121 H121 G121 rfl W123 2 rfl (Nat.le_of_ble_eq_true rfl)
  have N123 := Fr.snoc X123 N120 g_b102
  have O123 := O116.wr W123 g_b102
  have K123 := K116.wr W123 (Or.inr sz_b102)
  have f124 := (f117.other W123 ne_a1_b102)
  obtain ⟨cl125, Ar125, -, S125, Ne125, -, -⟩ := id f124
  obtain ⟨T126, h126, X126, e126, E126, A126, D126, -, st126⟩ := newO X123 hx hZ hown (hw _ (List.mem_of_getElem? (i := 130) rfl)) (hw _ (List.mem_of_getElem? (i := 224) rfl)) (hw _ (List.mem_of_getElem? (i := 225) rfl)) e123 (g := (mkF m 29 #[.val (.ref a1), .val (.ref b102), .val (.int (3 : Int32))] [])) rfl (hb hby d_jdk_56_method_4_29) (by decide) (by decide)
  obtain ⟨b126, g126⟩ : ∃ z, z = h123.size := ⟨_, rfl⟩
  rw [← g126] at A126 D126 st126
  have g_b126 : n0 ≤ b126 := Nat.le_trans (own_szO O123) (Nat.le_of_eq g126.symm)
  have sz_b126 : h0.size ≤ b126 := Nat.le_trans K123.1 (Nat.le_of_eq g126.symm)
  have ne_a1_b126 : a1 ≠ b126 := Nat.ne_of_lt (Nat.lt_of_lt_of_le f124.lt (Nat.le_of_eq g126.symm))
  have f127 := (f122.wr W123)
  have ne_aX_b126 : aX ≠ b126 := Nat.ne_of_lt (Nat.lt_of_lt_of_le f127.lt (Nat.le_of_eq g126.symm))
  have f128 := (((Ex102.wr W109).wr W116).wr W123)
  have ne_b102_b126 : b102 ≠ b126 := Nat.ne_of_lt (Nat.lt_of_lt_of_le f128.lt (Nat.le_of_eq g126.symm))
  have O126 := O123.ext E126
  have K126 := K123.ext E126
  have F126_elements : Fld Z h126 b126 "java/util/ImmutableCollections$ListN" "elements" "[Ljava/lang/Object;" .null := D126 (Or.inr (hw _ (List.mem_of_getElem? (i := 235) rfl))) (ty := (.array (.object "java/lang/Object"))) (by decide)
  have F126_allowNulls : Fld Z h126 b126 "java/util/ImmutableCollections$ListN" "allowNulls" "Z" (.int (0 : Int32)) := D126 (Or.inr (hw _ (List.mem_of_getElem? (i := 237) rfl))) (ty := .boolean) (by decide)
  obtain ⟨_, _, ⟨T129, L129, k129, n129⟩, -, X129, ⟨Lc129, hQ129, l129, y129, z129⟩, st129⟩ := X126.specialBackNest hx (y := (⟨"java/util/ImmutableCollections$ListN", "<init>", "([Ljava/lang/Object;Z)V"⟩ : MethodName)) rfl hown (own_mvMN hZ (hw _ (List.mem_of_getElem? (i := 226) rfl))) (mvT hZ (hw _ (List.mem_of_getElem? (i := 227) rfl))) (mvT hZ (hw _ (List.mem_of_getElem? (i := 229) rfl))) (by decide) (backOf (W := 1) (rm_ln l Z a0 hw [] b126 b102 (.null) ((.int (0 : Int32))) h126 n0 O126 A126 F126_elements F126_allowNulls g_b126) hZ (hw _ (List.mem_of_getElem? (i := 229) rfl)) (hw _ (List.mem_of_getElem? (i := 225) rfl)) (by decide) (by decide)) (g := (mkF m 35 #[.val (.ref a1), .val (.ref b102), .val (.int (3 : Int32))] [(.int (0 : Int32)), (.ref b102), (.ref b126), (.ref b126)])) rfl (by rw [hml]; rfl) (Steps.refl _) (a := b126) (argsL := [(.ref b102), (.int (0 : Int32))]) (rest := [(.ref b126)]) (lenOf pd_8 rfl) rfl (by show 2 * 0 + _ ≤ _; exact Nat.le_of_eq rfl) (hb hby d_jdk_56_method_4_35) (fun _ _ => ⟨rfl, e126, (by decide : 2 + 0 ≤ _), (by decide : 5 + 0 ≤ _)⟩)
  dsimp only [Pt.U, Pt.locs, Pt.cells, Pt.slots] at X129 l129 y129 z129 st129 hQ129
  subst l129 y129 z129
  obtain ⟨rfl, Nq129, Kq129, El129⟩ := hQ129
  have N129 := Fr.app N123 Nq129
  have O129 := O126.keep Kq129 (allS g_b126 all0)
  have K129 := K126.trans Kq129 (allS (Or.inr sz_b126) all0)
  obtain ⟨fs, hr, hrun, hended, hW, hsame⟩ := X129.leave (v := some (.ref b126)) (fun h => by rw [Bd.returns] at h; cases h)
  refine ⟨_, _, pre0 _ ?_, hrun, hended, _, _, rfl, ?_, ⟨_, rfl⟩, hW, hsame.mono (by decide) (by decide)⟩
  · show Steps p.tables e below (s₁.setTop (mkF m 0 #[.val (.ref a1), .unset, .unset] [])) _
    refine XS.aloadN X0.here hx rfl (hb hby d_jdk_56_method_4_0) rfl rfl ?_
    show Steps p.tables e below (s₁.setTop (mkF m 1 #[.val (.ref a1), .unset, .unset] [(.ref a1)])) _
    refine X0.arraylength hx (by rw [e0]; exact Ar101.1) (State.isArrayOf_alike hZ.alike Ar101.2.1) (g := (mkF m 1 #[.val (.ref a1), .unset, .unset] [(.ref a1)])) rfl rfl (hb hby d_jdk_56_method_4_1) _ ?_
    rw [len_of S101 Ne101]
    show Steps p.tables e below (s₁.setTop (mkF m 2 #[.val (.ref a1), .unset, .unset] [(.int (3 : Int32))])) _
    refine st102 _ ?_
    show Steps p.tables e below (T102.setTop (mkF m 5 #[.val (.ref a1), .unset, .unset] [(.ref b102)])) _
    refine XS.astoreN X102.here hx rfl (hb hby d_jdk_56_method_4_5) rfl rfl (l' := #[.val (.ref a1), .val (.ref b102), .unset]) rfl ?_
    refine XS.iconst X102.here hx rfl (hb hby d_jdk_56_method_4_6) ?_
    refine XS.istoreN X102.here hx rfl (hb hby d_jdk_56_method_4_7) rfl (l' := #[.val (.ref a1), .val (.ref b102), .val (.int (0 : Int32))]) rfl ?_
    refine XS.iloadN X102.here hx rfl (hb hby d_jdk_56_method_4_8) rfl ?_
    show Steps p.tables e below (T102.setTop (mkF m 9 #[.val (.ref a1), .val (.ref b102), .val (.int (0 : Int32))] [(.int (0 : Int32))])) _
    refine XS.aloadN X102.here hx rfl (hb hby d_jdk_56_method_4_9) rfl rfl ?_
    show Steps p.tables e below (T102.setTop (mkF m 10 #[.val (.ref a1), .val (.ref b102), .val (.int (0 : Int32))] [(.ref a1), (.int (0 : Int32))])) _
    refine X102.arraylength hx (by rw [e102]; exact Ar104.1) (State.isArrayOf_alike hZ.alike Ar104.2.1) (g := (mkF m 10 #[.val (.ref a1), .val (.ref b102), .val (.int (0 : Int32))] [(.ref a1), (.int (0 : Int32))])) rfl rfl (hb hby d_jdk_56_method_4_10) _ ?_
    rw [len_of S104 Ne104]
    show Steps p.tables e below (T102.setTop (mkF m 11 #[.val (.ref a1), .val (.ref b102), .val (.int (0 : Int32))] [(.int (3 : Int32)), (.int (0 : Int32))])) _
    refine XS.icmpNo X102.here hx rfl (hb hby d_jdk_56_method_4_11) rfl (tlt (by decide : (0 : Int32) < (3 : Int32))).2.1 ?_
    refine XS.aloadN X102.here hx rfl (hb hby d_jdk_56_method_4_14) rfl rfl ?_
    refine XS.iloadN X102.here hx rfl (hb hby d_jdk_56_method_4_15) rfl ?_
    refine XS.aloadN X102.here hx rfl (hb hby d_jdk_56_method_4_16) rfl rfl ?_
    show Steps p.tables e below (T102.setTop (mkF m 17 #[.val (.ref a1), .val (.ref b102), .val (.int (0 : Int32))] [(.ref a1), (.int (0 : Int32)), (.ref b102)])) _
    refine XS.iloadN X102.here hx rfl (hb hby d_jdk_56_method_4_17) rfl ?_
    show Steps p.tables e below (T102.setTop (mkF m 18 #[.val (.ref a1), .val (.ref b102), .val (.int (0 : Int32))] [(.int (0 : Int32)), (.ref a1), (.int (0 : Int32)), (.ref b102)])) _
    refine X102.aaload hx (j := (0 : Int32)) (v := (.ref aX)) (by rw [e102]; exact Ar105.1) (State.isArrayOf_alike hZ.alike Ar105.2.1) rfl Ar105.2.2 hin105 hat105 (g := (mkF m 18 #[.val (.ref a1), .val (.ref b102), .val (.int (0 : Int32))] [(.int (0 : Int32)), (.ref a1), (.int (0 : Int32)), (.ref b102)])) rfl rfl (hb hby d_jdk_56_method_4_18) _ ?_
    show Steps p.tables e below (T102.setTop (mkF m 19 #[.val (.ref a1), .val (.ref b102), .val (.int (0 : Int32))] [(.ref aX), (.int (0 : Int32)), (.ref b102)])) _
    refine st106 _ ?_
    show Steps p.tables e below (T106.setTop (mkF m 22 #[.val (.ref a1), .val (.ref b102), .val (.int (0 : Int32))] [(.ref aX), (.int (0 : Int32)), (.ref b102)])) _
    refine st109 _ ?_
    show Steps p.tables e below (T109.setTop (mkF m 23 #[.val (.ref a1), .val (.ref b102), .val (.int (0 : Int32))] [])) _
    refine XS.iinc X109.here hx rfl (hb hby d_jdk_56_method_4_23) rfl (l' := #[.val (.ref a1), .val (.ref b102), .val (.int ((0 : Int32) + (1 : Int32)))]) rfl ?_
    show Steps p.tables e below (T109.setTop (mkF m 26 #[.val (.ref a1), .val (.ref b102), .val (.int ((0 : Int32) + (1 : Int32)))] [])) _
    rw [show ((0 : Int32) + (1 : Int32)) = (1 : Int32) from (by decide)]
    show Steps p.tables e below (T109.setTop (mkF m 26 #[.val (.ref a1), .val (.ref b102), .val (.int (1 : Int32))] [])) _
    refine XS.goto X109.here hx rfl (pc0 := 26) (pc' := 8) rfl (hb hby d_jdk_56_method_4_26) (by decide) (by decide) ?_
    refine XS.iloadN X109.here hx rfl (hb hby d_jdk_56_method_4_8) rfl ?_
    refine XS.aloadN X109.here hx rfl (hb hby d_jdk_56_method_4_9) rfl rfl ?_
    show Steps p.tables e below (T109.setTop (mkF m 10 #[.val (.ref a1), .val (.ref b102), .val (.int (1 : Int32))] [(.ref a1), (.int (1 : Int32))])) _
    refine X109.arraylength hx (by rw [e109]; exact Ar111.1) (State.isArrayOf_alike hZ.alike Ar111.2.1) (g := (mkF m 10 #[.val (.ref a1), .val (.ref b102), .val (.int (1 : Int32))] [(.ref a1), (.int (1 : Int32))])) rfl rfl (hb hby d_jdk_56_method_4_10) _ ?_
    rw [len_of S111 Ne111]
    show Steps p.tables e below (T109.setTop (mkF m 11 #[.val (.ref a1), .val (.ref b102), .val (.int (1 : Int32))] [(.int (3 : Int32)), (.int (1 : Int32))])) _
    refine XS.icmpNo X109.here hx rfl (hb hby d_jdk_56_method_4_11) rfl (tlt (by decide : (1 : Int32) < (3 : Int32))).2.1 ?_
    refine XS.aloadN X109.here hx rfl (hb hby d_jdk_56_method_4_14) rfl rfl ?_
    refine XS.iloadN X109.here hx rfl (hb hby d_jdk_56_method_4_15) rfl ?_
    refine XS.aloadN X109.here hx rfl (hb hby d_jdk_56_method_4_16) rfl rfl ?_
    show Steps p.tables e below (T109.setTop (mkF m 17 #[.val (.ref a1), .val (.ref b102), .val (.int (1 : Int32))] [(.ref a1), (.int (1 : Int32)), (.ref b102)])) _
    refine XS.iloadN X109.here hx rfl (hb hby d_jdk_56_method_4_17) rfl ?_
    show Steps p.tables e below (T109.setTop (mkF m 18 #[.val (.ref a1), .val (.ref b102), .val (.int (1 : Int32))] [(.int (1 : Int32)), (.ref a1), (.int (1 : Int32)), (.ref b102)])) _
    refine X109.aaload hx (j := (1 : Int32)) (v := (.ref aX)) (by rw [e109]; exact Ar112.1) (State.isArrayOf_alike hZ.alike Ar112.2.1) rfl Ar112.2.2 hin112 hat112 (g := (mkF m 18 #[.val (.ref a1), .val (.ref b102), .val (.int (1 : Int32))] [(.int (1 : Int32)), (.ref a1), (.int (1 : Int32)), (.ref b102)])) rfl rfl (hb hby d_jdk_56_method_4_18) _ ?_
    show Steps p.tables e below (T109.setTop (mkF m 19 #[.val (.ref a1), .val (.ref b102), .val (.int (1 : Int32))] [(.ref aX), (.int (1 : Int32)), (.ref b102)])) _
    refine st113 _ ?_
    show Steps p.tables e below (T113.setTop (mkF m 22 #[.val (.ref a1), .val (.ref b102), .val (.int (1 : Int32))] [(.ref aX), (.int (1 : Int32)), (.ref b102)])) _
    refine st116 _ ?_
    show Steps p.tables e below (T116.setTop (mkF m 23 #[.val (.ref a1), .val (.ref b102), .val (.int (1 : Int32))] [])) _
    refine XS.iinc X116.here hx rfl (hb hby d_jdk_56_method_4_23) rfl (l' := #[.val (.ref a1), .val (.ref b102), .val (.int ((1 : Int32) + (1 : Int32)))]) rfl ?_
    show Steps p.tables e below (T116.setTop (mkF m 26 #[.val (.ref a1), .val (.ref b102), .val (.int ((1 : Int32) + (1 : Int32)))] [])) _
    rw [show ((1 : Int32) + (1 : Int32)) = (2 : Int32) from (by decide)]
    show Steps p.tables e below (T116.setTop (mkF m 26 #[.val (.ref a1), .val (.ref b102), .val (.int (2 : Int32))] [])) _
    refine XS.goto X116.here hx rfl (pc0 := 26) (pc' := 8) rfl (hb hby d_jdk_56_method_4_26) (by decide) (by decide) ?_
    refine XS.iloadN X116.here hx rfl (hb hby d_jdk_56_method_4_8) rfl ?_
    refine XS.aloadN X116.here hx rfl (hb hby d_jdk_56_method_4_9) rfl rfl ?_
    show Steps p.tables e below (T116.setTop (mkF m 10 #[.val (.ref a1), .val (.ref b102), .val (.int (2 : Int32))] [(.ref a1), (.int (2 : Int32))])) _
    refine X116.arraylength hx (by rw [e116]; exact Ar118.1) (State.isArrayOf_alike hZ.alike Ar118.2.1) (g := (mkF m 10 #[.val (.ref a1), .val (.ref b102), .val (.int (2 : Int32))] [(.ref a1), (.int (2 : Int32))])) rfl rfl (hb hby d_jdk_56_method_4_10) _ ?_
    rw [len_of S118 Ne118]
    show Steps p.tables e below (T116.setTop (mkF m 11 #[.val (.ref a1), .val (.ref b102), .val (.int (2 : Int32))] [(.int (3 : Int32)), (.int (2 : Int32))])) _
    refine XS.icmpNo X116.here hx rfl (hb hby d_jdk_56_method_4_11) rfl (tlt (by decide : (2 : Int32) < (3 : Int32))).2.1 ?_
    refine XS.aloadN X116.here hx rfl (hb hby d_jdk_56_method_4_14) rfl rfl ?_
    refine XS.iloadN X116.here hx rfl (hb hby d_jdk_56_method_4_15) rfl ?_
    refine XS.aloadN X116.here hx rfl (hb hby d_jdk_56_method_4_16) rfl rfl ?_
    show Steps p.tables e below (T116.setTop (mkF m 17 #[.val (.ref a1), .val (.ref b102), .val (.int (2 : Int32))] [(.ref a1), (.int (2 : Int32)), (.ref b102)])) _
    refine XS.iloadN X116.here hx rfl (hb hby d_jdk_56_method_4_17) rfl ?_
    show Steps p.tables e below (T116.setTop (mkF m 18 #[.val (.ref a1), .val (.ref b102), .val (.int (2 : Int32))] [(.int (2 : Int32)), (.ref a1), (.int (2 : Int32)), (.ref b102)])) _
    refine X116.aaload hx (j := (2 : Int32)) (v := (.ref aX)) (by rw [e116]; exact Ar119.1) (State.isArrayOf_alike hZ.alike Ar119.2.1) rfl Ar119.2.2 hin119 hat119 (g := (mkF m 18 #[.val (.ref a1), .val (.ref b102), .val (.int (2 : Int32))] [(.int (2 : Int32)), (.ref a1), (.int (2 : Int32)), (.ref b102)])) rfl rfl (hb hby d_jdk_56_method_4_18) _ ?_
    show Steps p.tables e below (T116.setTop (mkF m 19 #[.val (.ref a1), .val (.ref b102), .val (.int (2 : Int32))] [(.ref aX), (.int (2 : Int32)), (.ref b102)])) _
    refine st120 _ ?_
    show Steps p.tables e below (T120.setTop (mkF m 22 #[.val (.ref a1), .val (.ref b102), .val (.int (2 : Int32))] [(.ref aX), (.int (2 : Int32)), (.ref b102)])) _
    refine st123 _ ?_
    show Steps p.tables e below (T123.setTop (mkF m 23 #[.val (.ref a1), .val (.ref b102), .val (.int (2 : Int32))] [])) _
    refine XS.iinc X123.here hx rfl (hb hby d_jdk_56_method_4_23) rfl (l' := #[.val (.ref a1), .val (.ref b102), .val (.int ((2 : Int32) + (1 : Int32)))]) rfl ?_
    show Steps p.tables e below (T123.setTop (mkF m 26 #[.val (.ref a1), .val (.ref b102), .val (.int ((2 : Int32) + (1 : Int32)))] [])) _
    rw [show ((2 : Int32) + (1 : Int32)) = (3 : Int32) from (by decide)]
    show Steps p.tables e below (T123.setTop (mkF m 26 #[.val (.ref a1), .val (.ref b102), .val (.int (3 : Int32))] [])) _
    refine XS.goto X123.here hx rfl (pc0 := 26) (pc' := 8) rfl (hb hby d_jdk_56_method_4_26) (by decide) (by decide) ?_
    refine XS.iloadN X123.here hx rfl (hb hby d_jdk_56_method_4_8) rfl ?_
    refine XS.aloadN X123.here hx rfl (hb hby d_jdk_56_method_4_9) rfl rfl ?_
    show Steps p.tables e below (T123.setTop (mkF m 10 #[.val (.ref a1), .val (.ref b102), .val (.int (3 : Int32))] [(.ref a1), (.int (3 : Int32))])) _
    refine X123.arraylength hx (by rw [e123]; exact Ar125.1) (State.isArrayOf_alike hZ.alike Ar125.2.1) (g := (mkF m 10 #[.val (.ref a1), .val (.ref b102), .val (.int (3 : Int32))] [(.ref a1), (.int (3 : Int32))])) rfl rfl (hb hby d_jdk_56_method_4_10) _ ?_
    rw [len_of S125 Ne125]
    show Steps p.tables e below (T123.setTop (mkF m 11 #[.val (.ref a1), .val (.ref b102), .val (.int (3 : Int32))] [(.int (3 : Int32)), (.int (3 : Int32))])) _
    refine XS.icmpYes X123.here hx rfl (pc0 := 11) (pc' := 29) rfl (hb hby d_jdk_56_method_4_11) rfl (flt (by decide : ¬ ((3 : Int32) < (3 : Int32)))).2.1 (by decide) (by decide) ?_
    show Steps p.tables e below (T123.setTop (mkF m 29 #[.val (.ref a1), .val (.ref b102), .val (.int (3 : Int32))] [])) _
    refine st126 _ ?_
    show Steps p.tables e below (T126.setTop (mkF m 32 #[.val (.ref a1), .val (.ref b102), .val (.int (3 : Int32))] [(.ref b126)])) _
    refine XS.dup X126.here hx rfl (hb hby d_jdk_56_method_4_32) rfl rfl ?_
    refine XS.aloadN X126.here hx rfl (hb hby d_jdk_56_method_4_33) rfl rfl ?_
    refine XS.iconst X126.here hx rfl (hb hby d_jdk_56_method_4_34) ?_
    show Steps p.tables e below (T126.setTop (mkF m 35 #[.val (.ref a1), .val (.ref b102), .val (.int (3 : Int32))] [(.int (0 : Int32)), (.ref b102), (.ref b126), (.ref b126)])) _
    refine st129.trans ?_
    show Steps p.tables e below (T129.setTop (mkF m 38 #[.val (.ref a1), .val (.ref b102), .val (.int (3 : Int32))] [(.ref b126)])) _
    exact retOut X129 hx (t := (.object "java/util/List")) (i := .areturn) Bd.returns rfl (Or.inr (Or.inr (Or.inr (Or.inr ⟨rfl, rfl, rfl⟩)))) (hb hby d_jdk_56_method_4_38) hr
  · show Q_lf3 Z a1 k1 aX h0 n0 _ T129.heap _
    exact ⟨b126, rfl, N129, K129⟩
theorem ef_lf4 (m : MethodId) (a1 : Addr) : entryFrame m #[(.ref a1)] 3 = mkF m 0 #[.val (.ref a1), .unset, .unset] [] := by first | (simp [entryFrame, mkF, argsToLocals, Value.category]; done) | rfl
def Q_lf4 (Z : State) (a1 : Addr) (k1 : ClassId) (aX : Addr) (h0 : Heap) (n0 : Nat) (v : Option Value) (h : Heap) (L : List Loc) : Prop := ∃ (bb : Addr), v = some (.ref bb) ∧ Fr n0 L ∧ Keep h0 h []
set_option maxRecDepth 65536 in
set_option maxHeartbeats 40000000 in
theorem rm_lf4 (l : Launch) (Z : State) (a0 : Array Value) (hw : ∀ d ∈ tables_1, d.before a0 Z = true) (ws : List Jvm.Cond) (a1 : Addr) (k1 : ClassId) (aX : Addr) (h0 : Heap) (n0 : Nat) (O0 : Old Z n0 h0) (VA : Arv Z h0 a1 k1 (.object "java/lang/Object") (4 : Int32) [(.ref aX), (.ref aX), (.ref aX), (.ref aX)] .null) (EX : Exa Z h0 aX "com/example/jitney/jitney/Instance$Node") (gA : n0 ≤ a1) (gX : n0 ≤ aX) :
    MetFree l (⟨"java/util/ImmutableCollections", "listFromArray", "([Ljava/lang/Object;)Ljava/util/List;"⟩ : MethodName) (head1 (Jvm.Cond.code (⟨"java/util/ImmutableCollections", "listFromArray", "([Ljava/lang/Object;)Ljava/util/List;"⟩ : MethodName) jdk_56_method_4_code 3 (some (.object "java/util/List")) :: ws) ({ frames := 5, cells := 2, slots := 10, locals := 63 } : Room)) (fun a U => a = #[(.ref a1)] ∧ Z.Warmed39 U.vm ∧ U.heap = h0) (fun _ _ _ _ _ => True) (fun _ U o U' => ∃ v L, o = .returned v ∧ Q_lf4 Z a1 k1 aX h0 n0 v U'.heap L ∧ FrameEnd U o U' L ({ frames := 5, cells := 2, slots := 10, locals := 63 } : Room).cells ({ frames := 5, cells := 2, slots := 10, locals := 63 } : Room).slots) := by
  refine MetFree.of_bodySF (plainFor_of_name pn_11) hisR ?_
  intro p e s m args below meth c s₁ Bd hml0 hP hK
  obtain ⟨rfl, hZ, hh⟩ := hP
  have hx := Bd.exec
  have hby := Bd.bytes
  have hml : c.maxLocals = 3 := hml0
  have hown : s.vm.findClass "java/util/ImmutableCollections" = some m.cls := findClass_of_methodNamed Bd.named
  have hnm := (name_of_methodNamed Bd.named Bd.method).1
  have X0 : Stand p l e ({ frames := 5, cells := 2, slots := 10, locals := 63 } : Room) s m #[(.ref a1)] below meth c s₁ [] 0 0 := Stand.of_body Bd
  have e0 : s₁.heap = h0 := by rw [← hh, Bd.state]; rfl
  have N0 := Fr.nil n0
  have K0 : Keep h0 h0 [] := Keep.refl _ _
  have pre0 : ∀ t, Steps p.tables e below (s₁.setTop (mkF m 0 #[.val (.ref a1), .unset, .unset] [])) t → Steps p.tables e below (s₁.setTop (entryFrame m #[(.ref a1)] 3)) t := fun t k => castTop (ef_lf4 m a1) k
  obtain ⟨cl101, Ar101, -, S101, Ne101, -, -⟩ := id VA
  obtain ⟨T102, h102, k102, X102, e102, E102, A102, Ex102, Ov102, st102⟩ := newRE X0 hx hZ hown (hw _ (List.mem_of_getElem? (i := 222) rfl)) (hw _ (List.mem_of_getElem? (i := 79) rfl)) e0 (g := (mkF m 2 #[.val (.ref a1), .unset, .unset] [(.int (4 : Int32))])) rfl (hb hby d_jdk_56_method_4_2) rfl (by decide) (cap := 4) (by decide) (by decide) (by decide) (by decide) (ad := "[Ljava/lang/Object;") rfl
  obtain ⟨b102, g102⟩ : ∃ z, z = h0.size := ⟨_, rfl⟩
  rw [← g102] at A102 Ex102 st102
  have g_b102 : n0 ≤ b102 := Nat.le_trans (own_szO O0) (Nat.le_of_eq g102.symm)
  have sz_b102 : h0.size ≤ b102 := Nat.le_trans K0.1 (Nat.le_of_eq g102.symm)
  have ne_a1_b102 : a1 ≠ b102 := Nat.ne_of_lt (Nat.lt_of_lt_of_le VA.lt (Nat.le_of_eq g102.symm))
  have ne_aX_b102 : aX ≠ b102 := Nat.ne_of_lt (Nat.lt_of_lt_of_le EX.lt (Nat.le_of_eq g102.symm))
  have O102 := O0.ext E102
  have K102 := K0.ext E102
  have V102 : Arv Z h102 b102 k102 (.object "java/lang/Object") (4 : Int32) [.null, .null, .null, .null] .null := (Arv.new A102 (by decide)).pad (pad_rep [] .null 4)
  have f103 := (VA.ext E102)
  obtain ⟨cl104, Ar104, -, S104, Ne104, -, -⟩ := id f103
  obtain ⟨cl105, Ar105, q105, S105, Ne105, H105, G105⟩ := id f103
  have hin105 : ¬ ((0 : Int32) < 0 ∨ cl105.slots.size ≤ ((0 : Int32)).toNatClampNeg) := inb_of S105 ⟨by decide, by decide⟩
  have hat105 : cl105.slots[((0 : Int32)).toNatClampNeg]? = some (.ref aX) := H105.at hin105 rfl
  obtain ⟨_, _, ⟨T106, L106, k106, n106⟩, -, X106, ⟨Lc106, hQ106, l106, y106, z106⟩, st106⟩ := Jvm.LawKit.callS X102 hx (y := (⟨"java/util/Objects", "requireNonNull", "(Ljava/lang/Object;)Ljava/lang/Object;"⟩ : MethodName)) hown (mvT hZ (hw _ (List.mem_of_getElem? (i := 223) rfl))) (mvT hZ (hw _ (List.mem_of_getElem? (i := 191) rfl))) (mvT hZ (hw _ (List.mem_of_getElem? (i := 192) rfl))) (mvT hZ (hw _ (List.mem_of_getElem? (i := 193) rfl))) (by decide) (backOf (W := 2) (rm_rn l Z a0 hw [] aX h102 n0 O102 ) hZ (hw _ (List.mem_of_getElem? (i := 193) rfl)) (hw _ (List.mem_of_getElem? (i := 192) rfl)) (by decide) (by decide)) (g := (mkF m 19 #[.val (.ref a1), .val (.ref b102), .val (.int (0 : Int32))] [(.ref aX), (.int (0 : Int32)), (.ref b102)])) rfl (by rw [hml]; rfl) (argsL := [(.ref aX)]) (rest := [(.int (0 : Int32)), (.ref b102)]) (lenOf pd_7 rfl) rfl (by show 2 * 0 + _ ≤ _; exact Nat.le_of_eq rfl) (hb hby d_jdk_56_method_4_19) (fun _ _ => ⟨rfl, e102, (by decide : 1 + 0 ≤ _), (by decide : 4 + 0 ≤ _)⟩)
  dsimp only [Pt.U, Pt.locs, Pt.cells, Pt.slots] at X106 l106 y106 z106 st106 hQ106
  subst l106 y106 z106
  obtain ⟨rfl, Nq106, e106⟩ := hQ106
  have N106 := Fr.app N0 Nq106
  obtain ⟨cl107, Ar107, q107, S107, Ne107, H107, G107⟩ := id V102
  have hin107 : ¬ ((0 : Int32) < 0 ∨ cl107.slots.size ≤ ((0 : Int32)).toNatClampNeg) := inb_of S107 ⟨by decide, by decide⟩
  have f108 := (EX.ext E102)
  obtain ⟨T109, h109, X109, e109, W109, st109⟩ := stR X106 hx hZ e106 Ar107 (j := (0 : Int32)) hin107 rfl (Sto.ofV Ar107 q107 Ov102 (Ins.of_exa f108 (hw _ (List.mem_of_getElem? (i := 80) rfl)))) (g := (mkF m 22 #[.val (.ref a1), .val (.ref b102), .val (.int (0 : Int32))] [(.ref aX), (.int (0 : Int32)), (.ref b102)])) rfl rfl (hb hby d_jdk_56_method_4_22)
  have V109 : Arv Z h109 b102 k102 (.object "java/lang/Object") (4 : Int32) [(.ref aX), .null, .null, .null] .null := Arv.set Ar107 q107 S107 Ne107 H107 G107 rfl W109 0 rfl (Nat.le_of_ble_eq_true rfl)
  have N109 := Fr.snoc X109 N106 g_b102
  have O109 := O102.wr W109 g_b102
  have K109 := K102.wr W109 (Or.inr sz_b102)
  have f110 := (f103.other W109 ne_a1_b102)
  obtain ⟨cl111, Ar111, -, S111, Ne111, -, -⟩ := id f110
  obtain ⟨cl112, Ar112, q112, S112, Ne112, H112, G112⟩ := id f110
  have hin112 : ¬ ((1 : Int32) < 0 ∨ cl112.slots.size ≤ ((1 : Int32)).toNatClampNeg) := inb_of S112 ⟨by decide, by decide⟩
  have hat112 : cl112.slots[((1 : Int32)).toNatClampNeg]? = some (.ref aX) := H112.at hin112 rfl
  obtain ⟨_, _, ⟨T113, L113, k113, n113⟩, -, X113, ⟨Lc113, hQ113, l113, y113, z113⟩, st113⟩ := Jvm.LawKit.callS X109 hx (y := (⟨"java/util/Objects", "requireNonNull", "(Ljava/lang/Object;)Ljava/lang/Object;"⟩ : MethodName)) hown (mvT hZ (hw _ (List.mem_of_getElem? (i := 223) rfl))) (mvT hZ (hw _ (List.mem_of_getElem? (i := 191) rfl))) (mvT hZ (hw _ (List.mem_of_getElem? (i := 192) rfl))) (mvT hZ (hw _ (List.mem_of_getElem? (i := 193) rfl))) (by decide) (backOf (W := 2) (rm_rn l Z a0 hw [] aX h109 n0 O109 ) hZ (hw _ (List.mem_of_getElem? (i := 193) rfl)) (hw _ (List.mem_of_getElem? (i := 192) rfl)) (by decide) (by decide)) (g := (mkF m 19 #[.val (.ref a1), .val (.ref b102), .val (.int (1 : Int32))] [(.ref aX), (.int (1 : Int32)), (.ref b102)])) rfl (by rw [hml]; rfl) (argsL := [(.ref aX)]) (rest := [(.int (1 : Int32)), (.ref b102)]) (lenOf pd_7 rfl) rfl (by show 2 * 0 + _ ≤ _; exact Nat.le_of_eq rfl) (hb hby d_jdk_56_method_4_19) (fun _ _ => ⟨rfl, e109, (by decide : 1 + 0 ≤ _), (by decide : 4 + 0 ≤ _)⟩)
  dsimp only [Pt.U, Pt.locs, Pt.cells, Pt.slots] at X113 l113 y113 z113 st113 hQ113
  subst l113 y113 z113
  obtain ⟨rfl, Nq113, e113⟩ := hQ113
  have N113 := Fr.app N109 Nq113
  obtain ⟨cl114, Ar114, q114, S114, Ne114, H114, G114⟩ := id V109
  have hin114 : ¬ ((1 : Int32) < 0 ∨ cl114.slots.size ≤ ((1 : Int32)).toNatClampNeg) := inb_of S114 ⟨by decide, by decide⟩
  have f115 := (f108.wr W109)
  obtain ⟨T116, h116, X116, e116, W116, st116⟩ := stR X113 hx hZ e113 Ar114 (j := (1 : Int32)) hin114 rfl (Sto.ofV Ar114 q114 Ov102 (Ins.of_exa f115 (hw _ (List.mem_of_getElem? (i := 80) rfl)))) (g := (mkF m 22 #[.val (.ref a1), .val (.ref b102), .val (.int (1 : Int32))] [(.ref aX), (.int (1 : Int32)), (.ref b102)])) rfl rfl (hb hby d_jdk_56_method_4_22)
  have V116 : Arv Z h116 b102 k102 (.object "java/lang/Object") (4 : Int32) [(.ref aX), (.ref aX), .null, .null] .null := Arv.set Ar114 q114 S114 Ne114 H114 G114 rfl W116 1 rfl (Nat.le_of_ble_eq_true rfl)
  have N116 := Fr.snoc X116 N113 g_b102
  have O116 := O109.wr W116 g_b102
  have K116 := K109.wr W116 (Or.inr sz_b102)
  have f117 := (f110.other W116 ne_a1_b102)
  obtain ⟨cl118, Ar118, -, S118, Ne118, -, -⟩ := id f117
  obtain ⟨cl119, Ar119, q119, S119, Ne119, H119, G119⟩ := id f117
  have hin119 : ¬ ((2 : Int32) < 0 ∨ cl119.slots.size ≤ ((2 : Int32)).toNatClampNeg) := inb_of S119 ⟨by decide, by decide⟩
  have hat119 : cl119.slots[((2 : Int32)).toNatClampNeg]? = some (.ref aX) := H119.at hin119 rfl
  obtain ⟨_, _, ⟨T120, L120, k120, n120⟩, -, X120, ⟨Lc120, hQ120, l120, y120, z120⟩, st120⟩ := Jvm.LawKit.callS X116 hx (y := (⟨"java/util/Objects", "requireNonNull", "(Ljava/lang/Object;)Ljava/lang/Object;"⟩ : MethodName)) hown (mvT hZ (hw _ (List.mem_of_getElem? (i := 223) rfl))) (mvT hZ (hw _ (List.mem_of_getElem? (i := 191) rfl))) (mvT hZ (hw _ (List.mem_of_getElem? (i := 192) rfl))) (mvT hZ (hw _ (List.mem_of_getElem? (i := 193) rfl))) (by decide) (backOf (W := 2) (rm_rn l Z a0 hw [] aX h116 n0 O116 ) hZ (hw _ (List.mem_of_getElem? (i := 193) rfl)) (hw _ (List.mem_of_getElem? (i := 192) rfl)) (by decide) (by decide)) (g := (mkF m 19 #[.val (.ref a1), .val (.ref b102), .val (.int (2 : Int32))] [(.ref aX), (.int (2 : Int32)), (.ref b102)])) rfl (by rw [hml]; rfl) (argsL := [(.ref aX)]) (rest := [(.int (2 : Int32)), (.ref b102)]) (lenOf pd_7 rfl) rfl (by show 2 * 0 + _ ≤ _; exact Nat.le_of_eq rfl) (hb hby d_jdk_56_method_4_19) (fun _ _ => ⟨rfl, e116, (by decide : 1 + 0 ≤ _), (by decide : 4 + 0 ≤ _)⟩)
  dsimp only [Pt.U, Pt.locs, Pt.cells, Pt.slots] at X120 l120 y120 z120 st120 hQ120
  subst l120 y120 z120
  obtain ⟨rfl, Nq120, e120⟩ := hQ120
  have N120 := Fr.app N116 Nq120
  obtain ⟨cl121, Ar121, q121, S121, Ne121, H121, G121⟩ := id V116
  have hin121 : ¬ ((2 : Int32) < 0 ∨ cl121.slots.size ≤ ((2 : Int32)).toNatClampNeg) := inb_of S121 ⟨by decide, by decide⟩
  have f122 := (f115.wr W116)
  obtain ⟨T123, h123, X123, e123, W123, st123⟩ := stR X120 hx hZ e120 Ar121 (j := (2 : Int32)) hin121 rfl (Sto.ofV Ar121 q121 Ov102 (Ins.of_exa f122 (hw _ (List.mem_of_getElem? (i := 80) rfl)))) (g := (mkF m 22 #[.val (.ref a1), .val (.ref b102), .val (.int (2 : Int32))] [(.ref aX), (.int (2 : Int32)), (.ref b102)])) rfl rfl (hb hby d_jdk_56_method_4_22)
  have V123 : Arv Z h123 b102 k102 (.object "java/lang/Object") (4 : Int32) [(.ref aX), (.ref aX), (.ref aX), .null] .null := Arv.set Ar121 q121 S121 Ne121 H121 G121 rfl W123 2 rfl (Nat.le_of_ble_eq_true rfl)
  have N123 := Fr.snoc X123 N120 g_b102
  have O123 := O116.wr W123 g_b102
  have K123 := K116.wr W123 (Or.inr sz_b102)
  have f124 := (f117.other W123 ne_a1_b102)
  obtain ⟨cl125, Ar125, -, S125, Ne125, -, -⟩ := id f124
  obtain ⟨cl126, Ar126, q126, S126, Ne126, H126, G126⟩ := id f124
  have hin126 : ¬ ((3 : Int32) < 0 ∨ cl126.slots.size ≤ ((3 : Int32)).toNatClampNeg) := inb_of S126 ⟨by decide, by decide⟩
  have hat126 : cl126.slots[((3 : Int32)).toNatClampNeg]? = some (.ref aX) := H126.at hin126 rfl
  obtain ⟨_, _, ⟨T127, L127, k127, n127⟩, -, X127, ⟨Lc127, hQ127, l127, y127, z127⟩, st127⟩ := Jvm.LawKit.callS X123 hx (y := (⟨"java/util/Objects", "requireNonNull", "(Ljava/lang/Object;)Ljava/lang/Object;"⟩ : MethodName)) hown (mvT hZ (hw _ (List.mem_of_getElem? (i := 223) rfl))) (mvT hZ (hw _ (List.mem_of_getElem? (i := 191) rfl))) (mvT hZ (hw _ (List.mem_of_getElem? (i := 192) rfl))) (mvT hZ (hw _ (List.mem_of_getElem? (i := 193) rfl))) (by decide) (backOf (W := 2) (rm_rn l Z a0 hw [] aX h123 n0 O123 ) hZ (hw _ (List.mem_of_getElem? (i := 193) rfl)) (hw _ (List.mem_of_getElem? (i := 192) rfl)) (by decide) (by decide)) (g := (mkF m 19 #[.val (.ref a1), .val (.ref b102), .val (.int (3 : Int32))] [(.ref aX), (.int (3 : Int32)), (.ref b102)])) rfl (by rw [hml]; rfl) (argsL := [(.ref aX)]) (rest := [(.int (3 : Int32)), (.ref b102)]) (lenOf pd_7 rfl) rfl (by show 2 * 0 + _ ≤ _; exact Nat.le_of_eq rfl) (hb hby d_jdk_56_method_4_19) (fun _ _ => ⟨rfl, e123, (by decide : 1 + 0 ≤ _), (by decide : 4 + 0 ≤ _)⟩)
  dsimp only [Pt.U, Pt.locs, Pt.cells, Pt.slots] at X127 l127 y127 z127 st127 hQ127
  subst l127 y127 z127
  obtain ⟨rfl, Nq127, e127⟩ := hQ127
  have N127 := Fr.app N123 Nq127
  obtain ⟨cl128, Ar128, q128, S128, Ne128, H128, G128⟩ := id V123
  have hin128 : ¬ ((3 : Int32) < 0 ∨ cl128.slots.size ≤ ((3 : Int32)).toNatClampNeg) := inb_of S128 ⟨by decide, by decide⟩
  have f129 := (f122.wr W123)
  obtain ⟨T130, h130, X130, e130, W130, st130⟩ := stR X127 hx hZ e127 Ar128 (j := (3 : Int32)) hin128 rfl (Sto.ofV Ar128 q128 Ov102 (Ins.of_exa f129 (hw _ (List.mem_of_getElem? (i := 80) rfl)))) (g := (mkF m 22 #[.val (.ref a1), .val (.ref b102), .val (.int (3 : Int32))] [(.ref aX), (.int (3 : Int32)), (.ref b102)])) rfl rfl (hb hby d_jdk_56_method_4_22)
  have V130 : Arv Z h130 b102 k102 (.object "java/lang/Object") (4 : Int32) [(.ref aX), (.ref aX), (.ref aX), (.ref aX)] .null := Arv.set Ar128 q128 S128 Ne128 H128 G128 rfl W130 3 rfl (Nat.le_of_ble_eq_true rfl)
  have N130 := Fr.snoc X130 N127 g_b102
  have O130 := O123.wr W130 g_b102
  have K130 := K123.wr W130 (Or.inr sz_b102)
  have f131 := (f124.other W130 ne_a1_b102)
  obtain ⟨cl132, Ar132, -, S132, Ne132, -, -⟩ := id f131
  obtain ⟨T133, h133, X133, e133, E133, A133, D133, -, st133⟩ := newO X130 hx hZ hown (hw _ (List.mem_of_getElem? (i := 130) rfl)) (hw _ (List.mem_of_getElem? (i := 224) rfl)) (hw _ (List.mem_of_getElem? (i := 225) rfl)) e130 (g := (mkF m 29 #[.val (.ref a1), .val (.ref b102), .val (.int (4 : Int32))] [])) rfl (hb hby d_jdk_56_method_4_29) (by decide) (by decide)
  obtain ⟨b133, g133⟩ : ∃ z, z = h130.size := ⟨_, rfl⟩
  rw [← g133] at A133 D133 st133
  have g_b133 : n0 ≤ b133 := Nat.le_trans (own_szO O130) (Nat.le_of_eq g133.symm)
  have sz_b133 : h0.size ≤ b133 := Nat.le_trans K130.1 (Nat.le_of_eq g133.symm)
  have ne_a1_b133 : a1 ≠ b133 := Nat.ne_of_lt (Nat.lt_of_lt_of_le f131.lt (Nat.le_of_eq g133.symm))
  have f134 := (f129.wr W130)
  have ne_aX_b133 : aX ≠ b133 := Nat.ne_of_lt (Nat.lt_of_lt_of_le f134.lt (Nat.le_of_eq g133.symm))
  have f135 := ((((Ex102.wr W109).wr W116).wr W123).wr W130)
  have ne_b102_b133 : b102 ≠ b133 := Nat.ne_of_lt (Nat.lt_of_lt_of_le f135.lt (Nat.le_of_eq g133.symm))
  have O133 := O130.ext E133
  have K133 := K130.ext E133
  have F133_elements : Fld Z h133 b133 "java/util/ImmutableCollections$ListN" "elements" "[Ljava/lang/Object;" .null := D133 (Or.inr (hw _ (List.mem_of_getElem? (i := 235) rfl))) (ty := (.array (.object "java/lang/Object"))) (by decide)
  have F133_allowNulls : Fld Z h133 b133 "java/util/ImmutableCollections$ListN" "allowNulls" "Z" (.int (0 : Int32)) := D133 (Or.inr (hw _ (List.mem_of_getElem? (i := 237) rfl))) (ty := .boolean) (by decide)
  obtain ⟨_, _, ⟨T136, L136, k136, n136⟩, -, X136, ⟨Lc136, hQ136, l136, y136, z136⟩, st136⟩ := X133.specialBackNest hx (y := (⟨"java/util/ImmutableCollections$ListN", "<init>", "([Ljava/lang/Object;Z)V"⟩ : MethodName)) rfl hown (own_mvMN hZ (hw _ (List.mem_of_getElem? (i := 226) rfl))) (mvT hZ (hw _ (List.mem_of_getElem? (i := 227) rfl))) (mvT hZ (hw _ (List.mem_of_getElem? (i := 229) rfl))) (by decide) (backOf (W := 1) (rm_ln l Z a0 hw [] b133 b102 (.null) ((.int (0 : Int32))) h133 n0 O133 A133 F133_elements F133_allowNulls g_b133) hZ (hw _ (List.mem_of_getElem? (i := 229) rfl)) (hw _ (List.mem_of_getElem? (i := 225) rfl)) (by decide) (by decide)) (g := (mkF m 35 #[.val (.ref a1), .val (.ref b102), .val (.int (4 : Int32))] [(.int (0 : Int32)), (.ref b102), (.ref b133), (.ref b133)])) rfl (by rw [hml]; rfl) (Steps.refl _) (a := b133) (argsL := [(.ref b102), (.int (0 : Int32))]) (rest := [(.ref b133)]) (lenOf pd_8 rfl) rfl (by show 2 * 0 + _ ≤ _; exact Nat.le_of_eq rfl) (hb hby d_jdk_56_method_4_35) (fun _ _ => ⟨rfl, e133, (by decide : 2 + 0 ≤ _), (by decide : 6 + 0 ≤ _)⟩)
  dsimp only [Pt.U, Pt.locs, Pt.cells, Pt.slots] at X136 l136 y136 z136 st136 hQ136
  subst l136 y136 z136
  obtain ⟨rfl, Nq136, Kq136, El136⟩ := hQ136
  have N136 := Fr.app N130 Nq136
  have O136 := O133.keep Kq136 (allS g_b133 all0)
  have K136 := K133.trans Kq136 (allS (Or.inr sz_b133) all0)
  obtain ⟨fs, hr, hrun, hended, hW, hsame⟩ := X136.leave (v := some (.ref b133)) (fun h => by rw [Bd.returns] at h; cases h)
  refine ⟨_, _, pre0 _ ?_, hrun, hended, _, _, rfl, ?_, ⟨_, rfl⟩, hW, hsame.mono (by decide) (by decide)⟩
  · show Steps p.tables e below (s₁.setTop (mkF m 0 #[.val (.ref a1), .unset, .unset] [])) _
    refine XS.aloadN X0.here hx rfl (hb hby d_jdk_56_method_4_0) rfl rfl ?_
    show Steps p.tables e below (s₁.setTop (mkF m 1 #[.val (.ref a1), .unset, .unset] [(.ref a1)])) _
    refine X0.arraylength hx (by rw [e0]; exact Ar101.1) (State.isArrayOf_alike hZ.alike Ar101.2.1) (g := (mkF m 1 #[.val (.ref a1), .unset, .unset] [(.ref a1)])) rfl rfl (hb hby d_jdk_56_method_4_1) _ ?_
    rw [len_of S101 Ne101]
    show Steps p.tables e below (s₁.setTop (mkF m 2 #[.val (.ref a1), .unset, .unset] [(.int (4 : Int32))])) _
    refine st102 _ ?_
    show Steps p.tables e below (T102.setTop (mkF m 5 #[.val (.ref a1), .unset, .unset] [(.ref b102)])) _
    refine XS.astoreN X102.here hx rfl (hb hby d_jdk_56_method_4_5) rfl rfl (l' := #[.val (.ref a1), .val (.ref b102), .unset]) rfl ?_
    refine XS.iconst X102.here hx rfl (hb hby d_jdk_56_method_4_6) ?_
    refine XS.istoreN X102.here hx rfl (hb hby d_jdk_56_method_4_7) rfl (l' := #[.val (.ref a1), .val (.ref b102), .val (.int (0 : Int32))]) rfl ?_
    refine XS.iloadN X102.here hx rfl (hb hby d_jdk_56_method_4_8) rfl ?_
    show Steps p.tables e below (T102.setTop (mkF m 9 #[.val (.ref a1), .val (.ref b102), .val (.int (0 : Int32))] [(.int (0 : Int32))])) _
    refine XS.aloadN X102.here hx rfl (hb hby d_jdk_56_method_4_9) rfl rfl ?_
    show Steps p.tables e below (T102.setTop (mkF m 10 #[.val (.ref a1), .val (.ref b102), .val (.int (0 : Int32))] [(.ref a1), (.int (0 : Int32))])) _
    refine X102.arraylength hx (by rw [e102]; exact Ar104.1) (State.isArrayOf_alike hZ.alike Ar104.2.1) (g := (mkF m 10 #[.val (.ref a1), .val (.ref b102), .val (.int (0 : Int32))] [(.ref a1), (.int (0 : Int32))])) rfl rfl (hb hby d_jdk_56_method_4_10) _ ?_
    rw [len_of S104 Ne104]
    show Steps p.tables e below (T102.setTop (mkF m 11 #[.val (.ref a1), .val (.ref b102), .val (.int (0 : Int32))] [(.int (4 : Int32)), (.int (0 : Int32))])) _
    refine XS.icmpNo X102.here hx rfl (hb hby d_jdk_56_method_4_11) rfl (tlt (by decide : (0 : Int32) < (4 : Int32))).2.1 ?_
    refine XS.aloadN X102.here hx rfl (hb hby d_jdk_56_method_4_14) rfl rfl ?_
    refine XS.iloadN X102.here hx rfl (hb hby d_jdk_56_method_4_15) rfl ?_
    refine XS.aloadN X102.here hx rfl (hb hby d_jdk_56_method_4_16) rfl rfl ?_
    show Steps p.tables e below (T102.setTop (mkF m 17 #[.val (.ref a1), .val (.ref b102), .val (.int (0 : Int32))] [(.ref a1), (.int (0 : Int32)), (.ref b102)])) _
    refine XS.iloadN X102.here hx rfl (hb hby d_jdk_56_method_4_17) rfl ?_
    show Steps p.tables e below (T102.setTop (mkF m 18 #[.val (.ref a1), .val (.ref b102), .val (.int (0 : Int32))] [(.int (0 : Int32)), (.ref a1), (.int (0 : Int32)), (.ref b102)])) _
    refine X102.aaload hx (j := (0 : Int32)) (v := (.ref aX)) (by rw [e102]; exact Ar105.1) (State.isArrayOf_alike hZ.alike Ar105.2.1) rfl Ar105.2.2 hin105 hat105 (g := (mkF m 18 #[.val (.ref a1), .val (.ref b102), .val (.int (0 : Int32))] [(.int (0 : Int32)), (.ref a1), (.int (0 : Int32)), (.ref b102)])) rfl rfl (hb hby d_jdk_56_method_4_18) _ ?_
    show Steps p.tables e below (T102.setTop (mkF m 19 #[.val (.ref a1), .val (.ref b102), .val (.int (0 : Int32))] [(.ref aX), (.int (0 : Int32)), (.ref b102)])) _
    refine st106 _ ?_
    show Steps p.tables e below (T106.setTop (mkF m 22 #[.val (.ref a1), .val (.ref b102), .val (.int (0 : Int32))] [(.ref aX), (.int (0 : Int32)), (.ref b102)])) _
    refine st109 _ ?_
    show Steps p.tables e below (T109.setTop (mkF m 23 #[.val (.ref a1), .val (.ref b102), .val (.int (0 : Int32))] [])) _
    refine XS.iinc X109.here hx rfl (hb hby d_jdk_56_method_4_23) rfl (l' := #[.val (.ref a1), .val (.ref b102), .val (.int ((0 : Int32) + (1 : Int32)))]) rfl ?_
    show Steps p.tables e below (T109.setTop (mkF m 26 #[.val (.ref a1), .val (.ref b102), .val (.int ((0 : Int32) + (1 : Int32)))] [])) _
    rw [show ((0 : Int32) + (1 : Int32)) = (1 : Int32) from (by decide)]
    show Steps p.tables e below (T109.setTop (mkF m 26 #[.val (.ref a1), .val (.ref b102), .val (.int (1 : Int32))] [])) _
    refine XS.goto X109.here hx rfl (pc0 := 26) (pc' := 8) rfl (hb hby d_jdk_56_method_4_26) (by decide) (by decide) ?_
    refine XS.iloadN X109.here hx rfl (hb hby d_jdk_56_method_4_8) rfl ?_
    refine XS.aloadN X109.here hx rfl (hb hby d_jdk_56_method_4_9) rfl rfl ?_
    show Steps p.tables e below (T109.setTop (mkF m 10 #[.val (.ref a1), .val (.ref b102), .val (.int (1 : Int32))] [(.ref a1), (.int (1 : Int32))])) _
    refine X109.arraylength hx (by rw [e109]; exact Ar111.1) (State.isArrayOf_alike hZ.alike Ar111.2.1) (g := (mkF m 10 #[.val (.ref a1), .val (.ref b102), .val (.int (1 : Int32))] [(.ref a1), (.int (1 : Int32))])) rfl rfl (hb hby d_jdk_56_method_4_10) _ ?_
    rw [len_of S111 Ne111]
    show Steps p.tables e below (T109.setTop (mkF m 11 #[.val (.ref a1), .val (.ref b102), .val (.int (1 : Int32))] [(.int (4 : Int32)), (.int (1 : Int32))])) _
    refine XS.icmpNo X109.here hx rfl (hb hby d_jdk_56_method_4_11) rfl (tlt (by decide : (1 : Int32) < (4 : Int32))).2.1 ?_
    refine XS.aloadN X109.here hx rfl (hb hby d_jdk_56_method_4_14) rfl rfl ?_
    refine XS.iloadN X109.here hx rfl (hb hby d_jdk_56_method_4_15) rfl ?_
    refine XS.aloadN X109.here hx rfl (hb hby d_jdk_56_method_4_16) rfl rfl ?_
    show Steps p.tables e below (T109.setTop (mkF m 17 #[.val (.ref a1), .val (.ref b102), .val (.int (1 : Int32))] [(.ref a1), (.int (1 : Int32)), (.ref b102)])) _
    refine XS.iloadN X109.here hx rfl (hb hby d_jdk_56_method_4_17) rfl ?_
    show Steps p.tables e below (T109.setTop (mkF m 18 #[.val (.ref a1), .val (.ref b102), .val (.int (1 : Int32))] [(.int (1 : Int32)), (.ref a1), (.int (1 : Int32)), (.ref b102)])) _
    refine X109.aaload hx (j := (1 : Int32)) (v := (.ref aX)) (by rw [e109]; exact Ar112.1) (State.isArrayOf_alike hZ.alike Ar112.2.1) rfl Ar112.2.2 hin112 hat112 (g := (mkF m 18 #[.val (.ref a1), .val (.ref b102), .val (.int (1 : Int32))] [(.int (1 : Int32)), (.ref a1), (.int (1 : Int32)), (.ref b102)])) rfl rfl (hb hby d_jdk_56_method_4_18) _ ?_
    show Steps p.tables e below (T109.setTop (mkF m 19 #[.val (.ref a1), .val (.ref b102), .val (.int (1 : Int32))] [(.ref aX), (.int (1 : Int32)), (.ref b102)])) _
    refine st113 _ ?_
    show Steps p.tables e below (T113.setTop (mkF m 22 #[.val (.ref a1), .val (.ref b102), .val (.int (1 : Int32))] [(.ref aX), (.int (1 : Int32)), (.ref b102)])) _
    refine st116 _ ?_
    show Steps p.tables e below (T116.setTop (mkF m 23 #[.val (.ref a1), .val (.ref b102), .val (.int (1 : Int32))] [])) _
    refine XS.iinc X116.here hx rfl (hb hby d_jdk_56_method_4_23) rfl (l' := #[.val (.ref a1), .val (.ref b102), .val (.int ((1 : Int32) + (1 : Int32)))]) rfl ?_
    show Steps p.tables e below (T116.setTop (mkF m 26 #[.val (.ref a1), .val (.ref b102), .val (.int ((1 : Int32) + (1 : Int32)))] [])) _
    rw [show ((1 : Int32) + (1 : Int32)) = (2 : Int32) from (by decide)]
    show Steps p.tables e below (T116.setTop (mkF m 26 #[.val (.ref a1), .val (.ref b102), .val (.int (2 : Int32))] [])) _
    refine XS.goto X116.here hx rfl (pc0 := 26) (pc' := 8) rfl (hb hby d_jdk_56_method_4_26) (by decide) (by decide) ?_
    refine XS.iloadN X116.here hx rfl (hb hby d_jdk_56_method_4_8) rfl ?_
    refine XS.aloadN X116.here hx rfl (hb hby d_jdk_56_method_4_9) rfl rfl ?_
    show Steps p.tables e below (T116.setTop (mkF m 10 #[.val (.ref a1), .val (.ref b102), .val (.int (2 : Int32))] [(.ref a1), (.int (2 : Int32))])) _
    refine X116.arraylength hx (by rw [e116]; exact Ar118.1) (State.isArrayOf_alike hZ.alike Ar118.2.1) (g := (mkF m 10 #[.val (.ref a1), .val (.ref b102), .val (.int (2 : Int32))] [(.ref a1), (.int (2 : Int32))])) rfl rfl (hb hby d_jdk_56_method_4_10) _ ?_
    rw [len_of S118 Ne118]
    show Steps p.tables e below (T116.setTop (mkF m 11 #[.val (.ref a1), .val (.ref b102), .val (.int (2 : Int32))] [(.int (4 : Int32)), (.int (2 : Int32))])) _
    refine XS.icmpNo X116.here hx rfl (hb hby d_jdk_56_method_4_11) rfl (tlt (by decide : (2 : Int32) < (4 : Int32))).2.1 ?_
    refine XS.aloadN X116.here hx rfl (hb hby d_jdk_56_method_4_14) rfl rfl ?_
    refine XS.iloadN X116.here hx rfl (hb hby d_jdk_56_method_4_15) rfl ?_
    refine XS.aloadN X116.here hx rfl (hb hby d_jdk_56_method_4_16) rfl rfl ?_
    show Steps p.tables e below (T116.setTop (mkF m 17 #[.val (.ref a1), .val (.ref b102), .val (.int (2 : Int32))] [(.ref a1), (.int (2 : Int32)), (.ref b102)])) _
    refine XS.iloadN X116.here hx rfl (hb hby d_jdk_56_method_4_17) rfl ?_
    show Steps p.tables e below (T116.setTop (mkF m 18 #[.val (.ref a1), .val (.ref b102), .val (.int (2 : Int32))] [(.int (2 : Int32)), (.ref a1), (.int (2 : Int32)), (.ref b102)])) _
    refine X116.aaload hx (j := (2 : Int32)) (v := (.ref aX)) (by rw [e116]; exact Ar119.1) (State.isArrayOf_alike hZ.alike Ar119.2.1) rfl Ar119.2.2 hin119 hat119 (g := (mkF m 18 #[.val (.ref a1), .val (.ref b102), .val (.int (2 : Int32))] [(.int (2 : Int32)), (.ref a1), (.int (2 : Int32)), (.ref b102)])) rfl rfl (hb hby d_jdk_56_method_4_18) _ ?_
    show Steps p.tables e below (T116.setTop (mkF m 19 #[.val (.ref a1), .val (.ref b102), .val (.int (2 : Int32))] [(.ref aX), (.int (2 : Int32)), (.ref b102)])) _
    refine st120 _ ?_
    show Steps p.tables e below (T120.setTop (mkF m 22 #[.val (.ref a1), .val (.ref b102), .val (.int (2 : Int32))] [(.ref aX), (.int (2 : Int32)), (.ref b102)])) _
    refine st123 _ ?_
    show Steps p.tables e below (T123.setTop (mkF m 23 #[.val (.ref a1), .val (.ref b102), .val (.int (2 : Int32))] [])) _
    refine XS.iinc X123.here hx rfl (hb hby d_jdk_56_method_4_23) rfl (l' := #[.val (.ref a1), .val (.ref b102), .val (.int ((2 : Int32) + (1 : Int32)))]) rfl ?_
    show Steps p.tables e below (T123.setTop (mkF m 26 #[.val (.ref a1), .val (.ref b102), .val (.int ((2 : Int32) + (1 : Int32)))] [])) _
    rw [show ((2 : Int32) + (1 : Int32)) = (3 : Int32) from (by decide)]
    show Steps p.tables e below (T123.setTop (mkF m 26 #[.val (.ref a1), .val (.ref b102), .val (.int (3 : Int32))] [])) _
    refine XS.goto X123.here hx rfl (pc0 := 26) (pc' := 8) rfl (hb hby d_jdk_56_method_4_26) (by decide) (by decide) ?_
    refine XS.iloadN X123.here hx rfl (hb hby d_jdk_56_method_4_8) rfl ?_
    refine XS.aloadN X123.here hx rfl (hb hby d_jdk_56_method_4_9) rfl rfl ?_
    show Steps p.tables e below (T123.setTop (mkF m 10 #[.val (.ref a1), .val (.ref b102), .val (.int (3 : Int32))] [(.ref a1), (.int (3 : Int32))])) _
    refine X123.arraylength hx (by rw [e123]; exact Ar125.1) (State.isArrayOf_alike hZ.alike Ar125.2.1) (g := (mkF m 10 #[.val (.ref a1), .val (.ref b102), .val (.int (3 : Int32))] [(.ref a1), (.int (3 : Int32))])) rfl rfl (hb hby d_jdk_56_method_4_10) _ ?_
    rw [len_of S125 Ne125]
    show Steps p.tables e below (T123.setTop (mkF m 11 #[.val (.ref a1), .val (.ref b102), .val (.int (3 : Int32))] [(.int (4 : Int32)), (.int (3 : Int32))])) _
    refine XS.icmpNo X123.here hx rfl (hb hby d_jdk_56_method_4_11) rfl (tlt (by decide : (3 : Int32) < (4 : Int32))).2.1 ?_
    refine XS.aloadN X123.here hx rfl (hb hby d_jdk_56_method_4_14) rfl rfl ?_
    refine XS.iloadN X123.here hx rfl (hb hby d_jdk_56_method_4_15) rfl ?_
    refine XS.aloadN X123.here hx rfl (hb hby d_jdk_56_method_4_16) rfl rfl ?_
    show Steps p.tables e below (T123.setTop (mkF m 17 #[.val (.ref a1), .val (.ref b102), .val (.int (3 : Int32))] [(.ref a1), (.int (3 : Int32)), (.ref b102)])) _
    refine XS.iloadN X123.here hx rfl (hb hby d_jdk_56_method_4_17) rfl ?_
    show Steps p.tables e below (T123.setTop (mkF m 18 #[.val (.ref a1), .val (.ref b102), .val (.int (3 : Int32))] [(.int (3 : Int32)), (.ref a1), (.int (3 : Int32)), (.ref b102)])) _
    refine X123.aaload hx (j := (3 : Int32)) (v := (.ref aX)) (by rw [e123]; exact Ar126.1) (State.isArrayOf_alike hZ.alike Ar126.2.1) rfl Ar126.2.2 hin126 hat126 (g := (mkF m 18 #[.val (.ref a1), .val (.ref b102), .val (.int (3 : Int32))] [(.int (3 : Int32)), (.ref a1), (.int (3 : Int32)), (.ref b102)])) rfl rfl (hb hby d_jdk_56_method_4_18) _ ?_
    show Steps p.tables e below (T123.setTop (mkF m 19 #[.val (.ref a1), .val (.ref b102), .val (.int (3 : Int32))] [(.ref aX), (.int (3 : Int32)), (.ref b102)])) _
    refine st127 _ ?_
    show Steps p.tables e below (T127.setTop (mkF m 22 #[.val (.ref a1), .val (.ref b102), .val (.int (3 : Int32))] [(.ref aX), (.int (3 : Int32)), (.ref b102)])) _
    refine st130 _ ?_
    show Steps p.tables e below (T130.setTop (mkF m 23 #[.val (.ref a1), .val (.ref b102), .val (.int (3 : Int32))] [])) _
    refine XS.iinc X130.here hx rfl (hb hby d_jdk_56_method_4_23) rfl (l' := #[.val (.ref a1), .val (.ref b102), .val (.int ((3 : Int32) + (1 : Int32)))]) rfl ?_
    show Steps p.tables e below (T130.setTop (mkF m 26 #[.val (.ref a1), .val (.ref b102), .val (.int ((3 : Int32) + (1 : Int32)))] [])) _
    rw [show ((3 : Int32) + (1 : Int32)) = (4 : Int32) from (by decide)]
    show Steps p.tables e below (T130.setTop (mkF m 26 #[.val (.ref a1), .val (.ref b102), .val (.int (4 : Int32))] [])) _
    refine XS.goto X130.here hx rfl (pc0 := 26) (pc' := 8) rfl (hb hby d_jdk_56_method_4_26) (by decide) (by decide) ?_
    refine XS.iloadN X130.here hx rfl (hb hby d_jdk_56_method_4_8) rfl ?_
    refine XS.aloadN X130.here hx rfl (hb hby d_jdk_56_method_4_9) rfl rfl ?_
    show Steps p.tables e below (T130.setTop (mkF m 10 #[.val (.ref a1), .val (.ref b102), .val (.int (4 : Int32))] [(.ref a1), (.int (4 : Int32))])) _
    refine X130.arraylength hx (by rw [e130]; exact Ar132.1) (State.isArrayOf_alike hZ.alike Ar132.2.1) (g := (mkF m 10 #[.val (.ref a1), .val (.ref b102), .val (.int (4 : Int32))] [(.ref a1), (.int (4 : Int32))])) rfl rfl (hb hby d_jdk_56_method_4_10) _ ?_
    rw [len_of S132 Ne132]
    show Steps p.tables e below (T130.setTop (mkF m 11 #[.val (.ref a1), .val (.ref b102), .val (.int (4 : Int32))] [(.int (4 : Int32)), (.int (4 : Int32))])) _
    refine XS.icmpYes X130.here hx rfl (pc0 := 11) (pc' := 29) rfl (hb hby d_jdk_56_method_4_11) rfl (flt (by decide : ¬ ((4 : Int32) < (4 : Int32)))).2.1 (by decide) (by decide) ?_
    show Steps p.tables e below (T130.setTop (mkF m 29 #[.val (.ref a1), .val (.ref b102), .val (.int (4 : Int32))] [])) _
    refine st133 _ ?_
    show Steps p.tables e below (T133.setTop (mkF m 32 #[.val (.ref a1), .val (.ref b102), .val (.int (4 : Int32))] [(.ref b133)])) _
    refine XS.dup X133.here hx rfl (hb hby d_jdk_56_method_4_32) rfl rfl ?_
    refine XS.aloadN X133.here hx rfl (hb hby d_jdk_56_method_4_33) rfl rfl ?_
    refine XS.iconst X133.here hx rfl (hb hby d_jdk_56_method_4_34) ?_
    show Steps p.tables e below (T133.setTop (mkF m 35 #[.val (.ref a1), .val (.ref b102), .val (.int (4 : Int32))] [(.int (0 : Int32)), (.ref b102), (.ref b133), (.ref b133)])) _
    refine st136.trans ?_
    show Steps p.tables e below (T136.setTop (mkF m 38 #[.val (.ref a1), .val (.ref b102), .val (.int (4 : Int32))] [(.ref b133)])) _
    exact retOut X136 hx (t := (.object "java/util/List")) (i := .areturn) Bd.returns rfl (Or.inr (Or.inr (Or.inr (Or.inr ⟨rfl, rfl, rfl⟩)))) (hb hby d_jdk_56_method_4_38) hr
  · show Q_lf4 Z a1 k1 aX h0 n0 _ T136.heap _
    exact ⟨b133, rfl, N136, K136⟩
theorem ef_lf5 (m : MethodId) (a1 : Addr) : entryFrame m #[(.ref a1)] 3 = mkF m 0 #[.val (.ref a1), .unset, .unset] [] := by first | (simp [entryFrame, mkF, argsToLocals, Value.category]; done) | rfl
def Q_lf5 (Z : State) (a1 : Addr) (k1 : ClassId) (aX : Addr) (h0 : Heap) (n0 : Nat) (v : Option Value) (h : Heap) (L : List Loc) : Prop := ∃ (bb : Addr), v = some (.ref bb) ∧ Fr n0 L ∧ Keep h0 h []
set_option maxRecDepth 65536 in
set_option maxHeartbeats 40000000 in
theorem rm_lf5 (l : Launch) (Z : State) (a0 : Array Value) (hw : ∀ d ∈ tables_1, d.before a0 Z = true) (ws : List Jvm.Cond) (a1 : Addr) (k1 : ClassId) (aX : Addr) (h0 : Heap) (n0 : Nat) (O0 : Old Z n0 h0) (VA : Arv Z h0 a1 k1 (.object "java/lang/Object") (5 : Int32) [(.ref aX), (.ref aX), (.ref aX), (.ref aX), (.ref aX)] .null) (EX : Exa Z h0 aX "com/example/jitney/jitney/Instance$Node") (gA : n0 ≤ a1) (gX : n0 ≤ aX) :
    MetFree l (⟨"java/util/ImmutableCollections", "listFromArray", "([Ljava/lang/Object;)Ljava/util/List;"⟩ : MethodName) (head1 (Jvm.Cond.code (⟨"java/util/ImmutableCollections", "listFromArray", "([Ljava/lang/Object;)Ljava/util/List;"⟩ : MethodName) jdk_56_method_4_code 3 (some (.object "java/util/List")) :: ws) ({ frames := 5, cells := 2, slots := 10, locals := 63 } : Room)) (fun a U => a = #[(.ref a1)] ∧ Z.Warmed39 U.vm ∧ U.heap = h0) (fun _ _ _ _ _ => True) (fun _ U o U' => ∃ v L, o = .returned v ∧ Q_lf5 Z a1 k1 aX h0 n0 v U'.heap L ∧ FrameEnd U o U' L ({ frames := 5, cells := 2, slots := 10, locals := 63 } : Room).cells ({ frames := 5, cells := 2, slots := 10, locals := 63 } : Room).slots) := by
  refine MetFree.of_bodySF (plainFor_of_name pn_11) hisR ?_
  intro p e s m args below meth c s₁ Bd hml0 hP hK
  obtain ⟨rfl, hZ, hh⟩ := hP
  have hx := Bd.exec
  have hby := Bd.bytes
  have hml : c.maxLocals = 3 := hml0
  have hown : s.vm.findClass "java/util/ImmutableCollections" = some m.cls := findClass_of_methodNamed Bd.named
  have hnm := (name_of_methodNamed Bd.named Bd.method).1
  have X0 : Stand p l e ({ frames := 5, cells := 2, slots := 10, locals := 63 } : Room) s m #[(.ref a1)] below meth c s₁ [] 0 0 := Stand.of_body Bd
  have e0 : s₁.heap = h0 := by rw [← hh, Bd.state]; rfl
  have N0 := Fr.nil n0
  have K0 : Keep h0 h0 [] := Keep.refl _ _
  have pre0 : ∀ t, Steps p.tables e below (s₁.setTop (mkF m 0 #[.val (.ref a1), .unset, .unset] [])) t → Steps p.tables e below (s₁.setTop (entryFrame m #[(.ref a1)] 3)) t := fun t k => castTop (ef_lf5 m a1) k
  obtain ⟨cl101, Ar101, -, S101, Ne101, -, -⟩ := id VA
  obtain ⟨T102, h102, k102, X102, e102, E102, A102, Ex102, Ov102, st102⟩ := newRE X0 hx hZ hown (hw _ (List.mem_of_getElem? (i := 222) rfl)) (hw _ (List.mem_of_getElem? (i := 79) rfl)) e0 (g := (mkF m 2 #[.val (.ref a1), .unset, .unset] [(.int (5 : Int32))])) rfl (hb hby d_jdk_56_method_4_2) rfl (by decide) (cap := 5) (by decide) (by decide) (by decide) (by decide) (ad := "[Ljava/lang/Object;") rfl
  obtain ⟨b102, g102⟩ : ∃ z, z = h0.size := ⟨_, rfl⟩
  rw [← g102] at A102 Ex102 st102
  have g_b102 : n0 ≤ b102 := Nat.le_trans (own_szO O0) (Nat.le_of_eq g102.symm)
  have sz_b102 : h0.size ≤ b102 := Nat.le_trans K0.1 (Nat.le_of_eq g102.symm)
  have ne_a1_b102 : a1 ≠ b102 := Nat.ne_of_lt (Nat.lt_of_lt_of_le VA.lt (Nat.le_of_eq g102.symm))
  have ne_aX_b102 : aX ≠ b102 := Nat.ne_of_lt (Nat.lt_of_lt_of_le EX.lt (Nat.le_of_eq g102.symm))
  have O102 := O0.ext E102
  have K102 := K0.ext E102
  have V102 : Arv Z h102 b102 k102 (.object "java/lang/Object") (5 : Int32) [.null, .null, .null, .null, .null] .null := (Arv.new A102 (by decide)).pad (pad_rep [] .null 5)
  have f103 := (VA.ext E102)
  obtain ⟨cl104, Ar104, -, S104, Ne104, -, -⟩ := id f103
  obtain ⟨cl105, Ar105, q105, S105, Ne105, H105, G105⟩ := id f103
  have hin105 : ¬ ((0 : Int32) < 0 ∨ cl105.slots.size ≤ ((0 : Int32)).toNatClampNeg) := inb_of S105 ⟨by decide, by decide⟩
  have hat105 : cl105.slots[((0 : Int32)).toNatClampNeg]? = some (.ref aX) := H105.at hin105 rfl
  obtain ⟨_, _, ⟨T106, L106, k106, n106⟩, -, X106, ⟨Lc106, hQ106, l106, y106, z106⟩, st106⟩ := Jvm.LawKit.callS X102 hx (y := (⟨"java/util/Objects", "requireNonNull", "(Ljava/lang/Object;)Ljava/lang/Object;"⟩ : MethodName)) hown (mvT hZ (hw _ (List.mem_of_getElem? (i := 223) rfl))) (mvT hZ (hw _ (List.mem_of_getElem? (i := 191) rfl))) (mvT hZ (hw _ (List.mem_of_getElem? (i := 192) rfl))) (mvT hZ (hw _ (List.mem_of_getElem? (i := 193) rfl))) (by decide) (backOf (W := 2) (rm_rn l Z a0 hw [] aX h102 n0 O102 ) hZ (hw _ (List.mem_of_getElem? (i := 193) rfl)) (hw _ (List.mem_of_getElem? (i := 192) rfl)) (by decide) (by decide)) (g := (mkF m 19 #[.val (.ref a1), .val (.ref b102), .val (.int (0 : Int32))] [(.ref aX), (.int (0 : Int32)), (.ref b102)])) rfl (by rw [hml]; rfl) (argsL := [(.ref aX)]) (rest := [(.int (0 : Int32)), (.ref b102)]) (lenOf pd_7 rfl) rfl (by show 2 * 0 + _ ≤ _; exact Nat.le_of_eq rfl) (hb hby d_jdk_56_method_4_19) (fun _ _ => ⟨rfl, e102, (by decide : 1 + 0 ≤ _), (by decide : 5 + 0 ≤ _)⟩)
  dsimp only [Pt.U, Pt.locs, Pt.cells, Pt.slots] at X106 l106 y106 z106 st106 hQ106
  subst l106 y106 z106
  obtain ⟨rfl, Nq106, e106⟩ := hQ106
  have N106 := Fr.app N0 Nq106
  obtain ⟨cl107, Ar107, q107, S107, Ne107, H107, G107⟩ := id V102
  have hin107 : ¬ ((0 : Int32) < 0 ∨ cl107.slots.size ≤ ((0 : Int32)).toNatClampNeg) := inb_of S107 ⟨by decide, by decide⟩
  have f108 := (EX.ext E102)
  obtain ⟨T109, h109, X109, e109, W109, st109⟩ := stR X106 hx hZ e106 Ar107 (j := (0 : Int32)) hin107 rfl (Sto.ofV Ar107 q107 Ov102 (Ins.of_exa f108 (hw _ (List.mem_of_getElem? (i := 80) rfl)))) (g := (mkF m 22 #[.val (.ref a1), .val (.ref b102), .val (.int (0 : Int32))] [(.ref aX), (.int (0 : Int32)), (.ref b102)])) rfl rfl (hb hby d_jdk_56_method_4_22)
  have V109 : Arv Z h109 b102 k102 (.object "java/lang/Object") (5 : Int32) [(.ref aX), .null, .null, .null, .null] .null := Arv.set Ar107 q107 S107 Ne107 H107 G107 rfl W109 0 rfl (Nat.le_of_ble_eq_true rfl)
  have N109 := Fr.snoc X109 N106 g_b102
  have O109 := O102.wr W109 g_b102
  have K109 := K102.wr W109 (Or.inr sz_b102)
  have f110 := (f103.other W109 ne_a1_b102)
  obtain ⟨cl111, Ar111, -, S111, Ne111, -, -⟩ := id f110
  obtain ⟨cl112, Ar112, q112, S112, Ne112, H112, G112⟩ := id f110
  have hin112 : ¬ ((1 : Int32) < 0 ∨ cl112.slots.size ≤ ((1 : Int32)).toNatClampNeg) := inb_of S112 ⟨by decide, by decide⟩
  have hat112 : cl112.slots[((1 : Int32)).toNatClampNeg]? = some (.ref aX) := H112.at hin112 rfl
  obtain ⟨_, _, ⟨T113, L113, k113, n113⟩, -, X113, ⟨Lc113, hQ113, l113, y113, z113⟩, st113⟩ := Jvm.LawKit.callS X109 hx (y := (⟨"java/util/Objects", "requireNonNull", "(Ljava/lang/Object;)Ljava/lang/Object;"⟩ : MethodName)) hown (mvT hZ (hw _ (List.mem_of_getElem? (i := 223) rfl))) (mvT hZ (hw _ (List.mem_of_getElem? (i := 191) rfl))) (mvT hZ (hw _ (List.mem_of_getElem? (i := 192) rfl))) (mvT hZ (hw _ (List.mem_of_getElem? (i := 193) rfl))) (by decide) (backOf (W := 2) (rm_rn l Z a0 hw [] aX h109 n0 O109 ) hZ (hw _ (List.mem_of_getElem? (i := 193) rfl)) (hw _ (List.mem_of_getElem? (i := 192) rfl)) (by decide) (by decide)) (g := (mkF m 19 #[.val (.ref a1), .val (.ref b102), .val (.int (1 : Int32))] [(.ref aX), (.int (1 : Int32)), (.ref b102)])) rfl (by rw [hml]; rfl) (argsL := [(.ref aX)]) (rest := [(.int (1 : Int32)), (.ref b102)]) (lenOf pd_7 rfl) rfl (by show 2 * 0 + _ ≤ _; exact Nat.le_of_eq rfl) (hb hby d_jdk_56_method_4_19) (fun _ _ => ⟨rfl, e109, (by decide : 1 + 0 ≤ _), (by decide : 5 + 0 ≤ _)⟩)
  dsimp only [Pt.U, Pt.locs, Pt.cells, Pt.slots] at X113 l113 y113 z113 st113 hQ113
  subst l113 y113 z113
  obtain ⟨rfl, Nq113, e113⟩ := hQ113
  have N113 := Fr.app N109 Nq113
  obtain ⟨cl114, Ar114, q114, S114, Ne114, H114, G114⟩ := id V109
  have hin114 : ¬ ((1 : Int32) < 0 ∨ cl114.slots.size ≤ ((1 : Int32)).toNatClampNeg) := inb_of S114 ⟨by decide, by decide⟩
  have f115 := (f108.wr W109)
  obtain ⟨T116, h116, X116, e116, W116, st116⟩ := stR X113 hx hZ e113 Ar114 (j := (1 : Int32)) hin114 rfl (Sto.ofV Ar114 q114 Ov102 (Ins.of_exa f115 (hw _ (List.mem_of_getElem? (i := 80) rfl)))) (g := (mkF m 22 #[.val (.ref a1), .val (.ref b102), .val (.int (1 : Int32))] [(.ref aX), (.int (1 : Int32)), (.ref b102)])) rfl rfl (hb hby d_jdk_56_method_4_22)
  have V116 : Arv Z h116 b102 k102 (.object "java/lang/Object") (5 : Int32) [(.ref aX), (.ref aX), .null, .null, .null] .null := Arv.set Ar114 q114 S114 Ne114 H114 G114 rfl W116 1 rfl (Nat.le_of_ble_eq_true rfl)
  have N116 := Fr.snoc X116 N113 g_b102
  have O116 := O109.wr W116 g_b102
  have K116 := K109.wr W116 (Or.inr sz_b102)
  have f117 := (f110.other W116 ne_a1_b102)
  obtain ⟨cl118, Ar118, -, S118, Ne118, -, -⟩ := id f117
  obtain ⟨cl119, Ar119, q119, S119, Ne119, H119, G119⟩ := id f117
  have hin119 : ¬ ((2 : Int32) < 0 ∨ cl119.slots.size ≤ ((2 : Int32)).toNatClampNeg) := inb_of S119 ⟨by decide, by decide⟩
  have hat119 : cl119.slots[((2 : Int32)).toNatClampNeg]? = some (.ref aX) := H119.at hin119 rfl
  obtain ⟨_, _, ⟨T120, L120, k120, n120⟩, -, X120, ⟨Lc120, hQ120, l120, y120, z120⟩, st120⟩ := Jvm.LawKit.callS X116 hx (y := (⟨"java/util/Objects", "requireNonNull", "(Ljava/lang/Object;)Ljava/lang/Object;"⟩ : MethodName)) hown (mvT hZ (hw _ (List.mem_of_getElem? (i := 223) rfl))) (mvT hZ (hw _ (List.mem_of_getElem? (i := 191) rfl))) (mvT hZ (hw _ (List.mem_of_getElem? (i := 192) rfl))) (mvT hZ (hw _ (List.mem_of_getElem? (i := 193) rfl))) (by decide) (backOf (W := 2) (rm_rn l Z a0 hw [] aX h116 n0 O116 ) hZ (hw _ (List.mem_of_getElem? (i := 193) rfl)) (hw _ (List.mem_of_getElem? (i := 192) rfl)) (by decide) (by decide)) (g := (mkF m 19 #[.val (.ref a1), .val (.ref b102), .val (.int (2 : Int32))] [(.ref aX), (.int (2 : Int32)), (.ref b102)])) rfl (by rw [hml]; rfl) (argsL := [(.ref aX)]) (rest := [(.int (2 : Int32)), (.ref b102)]) (lenOf pd_7 rfl) rfl (by show 2 * 0 + _ ≤ _; exact Nat.le_of_eq rfl) (hb hby d_jdk_56_method_4_19) (fun _ _ => ⟨rfl, e116, (by decide : 1 + 0 ≤ _), (by decide : 5 + 0 ≤ _)⟩)
  dsimp only [Pt.U, Pt.locs, Pt.cells, Pt.slots] at X120 l120 y120 z120 st120 hQ120
  subst l120 y120 z120
  obtain ⟨rfl, Nq120, e120⟩ := hQ120
  have N120 := Fr.app N116 Nq120
  obtain ⟨cl121, Ar121, q121, S121, Ne121, H121, G121⟩ := id V116
  have hin121 : ¬ ((2 : Int32) < 0 ∨ cl121.slots.size ≤ ((2 : Int32)).toNatClampNeg) := inb_of S121 ⟨by decide, by decide⟩
  have f122 := (f115.wr W116)
  obtain ⟨T123, h123, X123, e123, W123, st123⟩ := stR X120 hx hZ e120 Ar121 (j := (2 : Int32)) hin121 rfl (Sto.ofV Ar121 q121 Ov102 (Ins.of_exa f122 (hw _ (List.mem_of_getElem? (i := 80) rfl)))) (g := (mkF m 22 #[.val (.ref a1), .val (.ref b102), .val (.int (2 : Int32))] [(.ref aX), (.int (2 : Int32)), (.ref b102)])) rfl rfl (hb hby d_jdk_56_method_4_22)
  have V123 : Arv Z h123 b102 k102 (.object "java/lang/Object") (5 : Int32) [(.ref aX), (.ref aX), (.ref aX), .null, .null] .null := Arv.set Ar121 q121 S121 Ne121 H121 G121 rfl W123 2 rfl (Nat.le_of_ble_eq_true rfl)
  have N123 := Fr.snoc X123 N120 g_b102
  have O123 := O116.wr W123 g_b102
  have K123 := K116.wr W123 (Or.inr sz_b102)
  have f124 := (f117.other W123 ne_a1_b102)
  obtain ⟨cl125, Ar125, -, S125, Ne125, -, -⟩ := id f124
  obtain ⟨cl126, Ar126, q126, S126, Ne126, H126, G126⟩ := id f124
  have hin126 : ¬ ((3 : Int32) < 0 ∨ cl126.slots.size ≤ ((3 : Int32)).toNatClampNeg) := inb_of S126 ⟨by decide, by decide⟩
  have hat126 : cl126.slots[((3 : Int32)).toNatClampNeg]? = some (.ref aX) := H126.at hin126 rfl
  obtain ⟨_, _, ⟨T127, L127, k127, n127⟩, -, X127, ⟨Lc127, hQ127, l127, y127, z127⟩, st127⟩ := Jvm.LawKit.callS X123 hx (y := (⟨"java/util/Objects", "requireNonNull", "(Ljava/lang/Object;)Ljava/lang/Object;"⟩ : MethodName)) hown (mvT hZ (hw _ (List.mem_of_getElem? (i := 223) rfl))) (mvT hZ (hw _ (List.mem_of_getElem? (i := 191) rfl))) (mvT hZ (hw _ (List.mem_of_getElem? (i := 192) rfl))) (mvT hZ (hw _ (List.mem_of_getElem? (i := 193) rfl))) (by decide) (backOf (W := 2) (rm_rn l Z a0 hw [] aX h123 n0 O123 ) hZ (hw _ (List.mem_of_getElem? (i := 193) rfl)) (hw _ (List.mem_of_getElem? (i := 192) rfl)) (by decide) (by decide)) (g := (mkF m 19 #[.val (.ref a1), .val (.ref b102), .val (.int (3 : Int32))] [(.ref aX), (.int (3 : Int32)), (.ref b102)])) rfl (by rw [hml]; rfl) (argsL := [(.ref aX)]) (rest := [(.int (3 : Int32)), (.ref b102)]) (lenOf pd_7 rfl) rfl (by show 2 * 0 + _ ≤ _; exact Nat.le_of_eq rfl) (hb hby d_jdk_56_method_4_19) (fun _ _ => ⟨rfl, e123, (by decide : 1 + 0 ≤ _), (by decide : 5 + 0 ≤ _)⟩)
  dsimp only [Pt.U, Pt.locs, Pt.cells, Pt.slots] at X127 l127 y127 z127 st127 hQ127
  subst l127 y127 z127
  obtain ⟨rfl, Nq127, e127⟩ := hQ127
  have N127 := Fr.app N123 Nq127
  obtain ⟨cl128, Ar128, q128, S128, Ne128, H128, G128⟩ := id V123
  have hin128 : ¬ ((3 : Int32) < 0 ∨ cl128.slots.size ≤ ((3 : Int32)).toNatClampNeg) := inb_of S128 ⟨by decide, by decide⟩
  have f129 := (f122.wr W123)
  obtain ⟨T130, h130, X130, e130, W130, st130⟩ := stR X127 hx hZ e127 Ar128 (j := (3 : Int32)) hin128 rfl (Sto.ofV Ar128 q128 Ov102 (Ins.of_exa f129 (hw _ (List.mem_of_getElem? (i := 80) rfl)))) (g := (mkF m 22 #[.val (.ref a1), .val (.ref b102), .val (.int (3 : Int32))] [(.ref aX), (.int (3 : Int32)), (.ref b102)])) rfl rfl (hb hby d_jdk_56_method_4_22)
  have V130 : Arv Z h130 b102 k102 (.object "java/lang/Object") (5 : Int32) [(.ref aX), (.ref aX), (.ref aX), (.ref aX), .null] .null := Arv.set Ar128 q128 S128 Ne128 H128 G128 rfl W130 3 rfl (Nat.le_of_ble_eq_true rfl)
  have N130 := Fr.snoc X130 N127 g_b102
  have O130 := O123.wr W130 g_b102
  have K130 := K123.wr W130 (Or.inr sz_b102)
  have f131 := (f124.other W130 ne_a1_b102)
  obtain ⟨cl132, Ar132, -, S132, Ne132, -, -⟩ := id f131
  obtain ⟨cl133, Ar133, q133, S133, Ne133, H133, G133⟩ := id f131
  have hin133 : ¬ ((4 : Int32) < 0 ∨ cl133.slots.size ≤ ((4 : Int32)).toNatClampNeg) := inb_of S133 ⟨by decide, by decide⟩
  have hat133 : cl133.slots[((4 : Int32)).toNatClampNeg]? = some (.ref aX) := H133.at hin133 rfl
  obtain ⟨_, _, ⟨T134, L134, k134, n134⟩, -, X134, ⟨Lc134, hQ134, l134, y134, z134⟩, st134⟩ := Jvm.LawKit.callS X130 hx (y := (⟨"java/util/Objects", "requireNonNull", "(Ljava/lang/Object;)Ljava/lang/Object;"⟩ : MethodName)) hown (mvT hZ (hw _ (List.mem_of_getElem? (i := 223) rfl))) (mvT hZ (hw _ (List.mem_of_getElem? (i := 191) rfl))) (mvT hZ (hw _ (List.mem_of_getElem? (i := 192) rfl))) (mvT hZ (hw _ (List.mem_of_getElem? (i := 193) rfl))) (by decide) (backOf (W := 2) (rm_rn l Z a0 hw [] aX h130 n0 O130 ) hZ (hw _ (List.mem_of_getElem? (i := 193) rfl)) (hw _ (List.mem_of_getElem? (i := 192) rfl)) (by decide) (by decide)) (g := (mkF m 19 #[.val (.ref a1), .val (.ref b102), .val (.int (4 : Int32))] [(.ref aX), (.int (4 : Int32)), (.ref b102)])) rfl (by rw [hml]; rfl) (argsL := [(.ref aX)]) (rest := [(.int (4 : Int32)), (.ref b102)]) (lenOf pd_7 rfl) rfl (by show 2 * 0 + _ ≤ _; exact Nat.le_of_eq rfl) (hb hby d_jdk_56_method_4_19) (fun _ _ => ⟨rfl, e130, (by decide : 1 + 0 ≤ _), (by decide : 5 + 0 ≤ _)⟩)
  dsimp only [Pt.U, Pt.locs, Pt.cells, Pt.slots] at X134 l134 y134 z134 st134 hQ134
  subst l134 y134 z134
  obtain ⟨rfl, Nq134, e134⟩ := hQ134
  have N134 := Fr.app N130 Nq134
  obtain ⟨cl135, Ar135, q135, S135, Ne135, H135, G135⟩ := id V130
  have hin135 : ¬ ((4 : Int32) < 0 ∨ cl135.slots.size ≤ ((4 : Int32)).toNatClampNeg) := inb_of S135 ⟨by decide, by decide⟩
  have f136 := (f129.wr W130)
  obtain ⟨T137, h137, X137, e137, W137, st137⟩ := stR X134 hx hZ e134 Ar135 (j := (4 : Int32)) hin135 rfl (Sto.ofV Ar135 q135 Ov102 (Ins.of_exa f136 (hw _ (List.mem_of_getElem? (i := 80) rfl)))) (g := (mkF m 22 #[.val (.ref a1), .val (.ref b102), .val (.int (4 : Int32))] [(.ref aX), (.int (4 : Int32)), (.ref b102)])) rfl rfl (hb hby d_jdk_56_method_4_22)
  have V137 : Arv Z h137 b102 k102 (.object "java/lang/Object") (5 : Int32) [(.ref aX), (.ref aX), (.ref aX), (.ref aX), (.ref aX)] .null := Arv.set Ar135 q135 S135 Ne135 H135 G135 rfl W137 4 rfl (Nat.le_of_ble_eq_true rfl)
  have N137 := Fr.snoc X137 N134 g_b102
  have O137 := O130.wr W137 g_b102
  have K137 := K130.wr W137 (Or.inr sz_b102)
  have f138 := (f131.other W137 ne_a1_b102)
  obtain ⟨cl139, Ar139, -, S139, Ne139, -, -⟩ := id f138
  obtain ⟨T140, h140, X140, e140, E140, A140, D140, -, st140⟩ := newO X137 hx hZ hown (hw _ (List.mem_of_getElem? (i := 130) rfl)) (hw _ (List.mem_of_getElem? (i := 224) rfl)) (hw _ (List.mem_of_getElem? (i := 225) rfl)) e137 (g := (mkF m 29 #[.val (.ref a1), .val (.ref b102), .val (.int (5 : Int32))] [])) rfl (hb hby d_jdk_56_method_4_29) (by decide) (by decide)
  obtain ⟨b140, g140⟩ : ∃ z, z = h137.size := ⟨_, rfl⟩
  rw [← g140] at A140 D140 st140
  have g_b140 : n0 ≤ b140 := Nat.le_trans (own_szO O137) (Nat.le_of_eq g140.symm)
  have sz_b140 : h0.size ≤ b140 := Nat.le_trans K137.1 (Nat.le_of_eq g140.symm)
  have ne_a1_b140 : a1 ≠ b140 := Nat.ne_of_lt (Nat.lt_of_lt_of_le f138.lt (Nat.le_of_eq g140.symm))
  have f141 := (f136.wr W137)
  have ne_aX_b140 : aX ≠ b140 := Nat.ne_of_lt (Nat.lt_of_lt_of_le f141.lt (Nat.le_of_eq g140.symm))
  have f142 := (((((Ex102.wr W109).wr W116).wr W123).wr W130).wr W137)
  have ne_b102_b140 : b102 ≠ b140 := Nat.ne_of_lt (Nat.lt_of_lt_of_le f142.lt (Nat.le_of_eq g140.symm))
  have O140 := O137.ext E140
  have K140 := K137.ext E140
  have F140_elements : Fld Z h140 b140 "java/util/ImmutableCollections$ListN" "elements" "[Ljava/lang/Object;" .null := D140 (Or.inr (hw _ (List.mem_of_getElem? (i := 235) rfl))) (ty := (.array (.object "java/lang/Object"))) (by decide)
  have F140_allowNulls : Fld Z h140 b140 "java/util/ImmutableCollections$ListN" "allowNulls" "Z" (.int (0 : Int32)) := D140 (Or.inr (hw _ (List.mem_of_getElem? (i := 237) rfl))) (ty := .boolean) (by decide)
  obtain ⟨_, _, ⟨T143, L143, k143, n143⟩, -, X143, ⟨Lc143, hQ143, l143, y143, z143⟩, st143⟩ := X140.specialBackNest hx (y := (⟨"java/util/ImmutableCollections$ListN", "<init>", "([Ljava/lang/Object;Z)V"⟩ : MethodName)) rfl hown (own_mvMN hZ (hw _ (List.mem_of_getElem? (i := 226) rfl))) (mvT hZ (hw _ (List.mem_of_getElem? (i := 227) rfl))) (mvT hZ (hw _ (List.mem_of_getElem? (i := 229) rfl))) (by decide) (backOf (W := 1) (rm_ln l Z a0 hw [] b140 b102 (.null) ((.int (0 : Int32))) h140 n0 O140 A140 F140_elements F140_allowNulls g_b140) hZ (hw _ (List.mem_of_getElem? (i := 229) rfl)) (hw _ (List.mem_of_getElem? (i := 225) rfl)) (by decide) (by decide)) (g := (mkF m 35 #[.val (.ref a1), .val (.ref b102), .val (.int (5 : Int32))] [(.int (0 : Int32)), (.ref b102), (.ref b140), (.ref b140)])) rfl (by rw [hml]; rfl) (Steps.refl _) (a := b140) (argsL := [(.ref b102), (.int (0 : Int32))]) (rest := [(.ref b140)]) (lenOf pd_8 rfl) rfl (by show 2 * 0 + _ ≤ _; exact Nat.le_of_eq rfl) (hb hby d_jdk_56_method_4_35) (fun _ _ => ⟨rfl, e140, (by decide : 2 + 0 ≤ _), (by decide : 7 + 0 ≤ _)⟩)
  dsimp only [Pt.U, Pt.locs, Pt.cells, Pt.slots] at X143 l143 y143 z143 st143 hQ143
  subst l143 y143 z143
  obtain ⟨rfl, Nq143, Kq143, El143⟩ := hQ143
  have N143 := Fr.app N137 Nq143
  have O143 := O140.keep Kq143 (allS g_b140 all0)
  have K143 := K140.trans Kq143 (allS (Or.inr sz_b140) all0)
  obtain ⟨fs, hr, hrun, hended, hW, hsame⟩ := X143.leave (v := some (.ref b140)) (fun h => by rw [Bd.returns] at h; cases h)
  refine ⟨_, _, pre0 _ ?_, hrun, hended, _, _, rfl, ?_, ⟨_, rfl⟩, hW, hsame.mono (by decide) (by decide)⟩
  · show Steps p.tables e below (s₁.setTop (mkF m 0 #[.val (.ref a1), .unset, .unset] [])) _
    refine XS.aloadN X0.here hx rfl (hb hby d_jdk_56_method_4_0) rfl rfl ?_
    show Steps p.tables e below (s₁.setTop (mkF m 1 #[.val (.ref a1), .unset, .unset] [(.ref a1)])) _
    refine X0.arraylength hx (by rw [e0]; exact Ar101.1) (State.isArrayOf_alike hZ.alike Ar101.2.1) (g := (mkF m 1 #[.val (.ref a1), .unset, .unset] [(.ref a1)])) rfl rfl (hb hby d_jdk_56_method_4_1) _ ?_
    rw [len_of S101 Ne101]
    show Steps p.tables e below (s₁.setTop (mkF m 2 #[.val (.ref a1), .unset, .unset] [(.int (5 : Int32))])) _
    refine st102 _ ?_
    show Steps p.tables e below (T102.setTop (mkF m 5 #[.val (.ref a1), .unset, .unset] [(.ref b102)])) _
    refine XS.astoreN X102.here hx rfl (hb hby d_jdk_56_method_4_5) rfl rfl (l' := #[.val (.ref a1), .val (.ref b102), .unset]) rfl ?_
    refine XS.iconst X102.here hx rfl (hb hby d_jdk_56_method_4_6) ?_
    refine XS.istoreN X102.here hx rfl (hb hby d_jdk_56_method_4_7) rfl (l' := #[.val (.ref a1), .val (.ref b102), .val (.int (0 : Int32))]) rfl ?_
    refine XS.iloadN X102.here hx rfl (hb hby d_jdk_56_method_4_8) rfl ?_
    show Steps p.tables e below (T102.setTop (mkF m 9 #[.val (.ref a1), .val (.ref b102), .val (.int (0 : Int32))] [(.int (0 : Int32))])) _
    refine XS.aloadN X102.here hx rfl (hb hby d_jdk_56_method_4_9) rfl rfl ?_
    show Steps p.tables e below (T102.setTop (mkF m 10 #[.val (.ref a1), .val (.ref b102), .val (.int (0 : Int32))] [(.ref a1), (.int (0 : Int32))])) _
    refine X102.arraylength hx (by rw [e102]; exact Ar104.1) (State.isArrayOf_alike hZ.alike Ar104.2.1) (g := (mkF m 10 #[.val (.ref a1), .val (.ref b102), .val (.int (0 : Int32))] [(.ref a1), (.int (0 : Int32))])) rfl rfl (hb hby d_jdk_56_method_4_10) _ ?_
    rw [len_of S104 Ne104]
    show Steps p.tables e below (T102.setTop (mkF m 11 #[.val (.ref a1), .val (.ref b102), .val (.int (0 : Int32))] [(.int (5 : Int32)), (.int (0 : Int32))])) _
    refine XS.icmpNo X102.here hx rfl (hb hby d_jdk_56_method_4_11) rfl (tlt (by decide : (0 : Int32) < (5 : Int32))).2.1 ?_
    refine XS.aloadN X102.here hx rfl (hb hby d_jdk_56_method_4_14) rfl rfl ?_
    refine XS.iloadN X102.here hx rfl (hb hby d_jdk_56_method_4_15) rfl ?_
    refine XS.aloadN X102.here hx rfl (hb hby d_jdk_56_method_4_16) rfl rfl ?_
    show Steps p.tables e below (T102.setTop (mkF m 17 #[.val (.ref a1), .val (.ref b102), .val (.int (0 : Int32))] [(.ref a1), (.int (0 : Int32)), (.ref b102)])) _
    refine XS.iloadN X102.here hx rfl (hb hby d_jdk_56_method_4_17) rfl ?_
    show Steps p.tables e below (T102.setTop (mkF m 18 #[.val (.ref a1), .val (.ref b102), .val (.int (0 : Int32))] [(.int (0 : Int32)), (.ref a1), (.int (0 : Int32)), (.ref b102)])) _
    refine X102.aaload hx (j := (0 : Int32)) (v := (.ref aX)) (by rw [e102]; exact Ar105.1) (State.isArrayOf_alike hZ.alike Ar105.2.1) rfl Ar105.2.2 hin105 hat105 (g := (mkF m 18 #[.val (.ref a1), .val (.ref b102), .val (.int (0 : Int32))] [(.int (0 : Int32)), (.ref a1), (.int (0 : Int32)), (.ref b102)])) rfl rfl (hb hby d_jdk_56_method_4_18) _ ?_
    show Steps p.tables e below (T102.setTop (mkF m 19 #[.val (.ref a1), .val (.ref b102), .val (.int (0 : Int32))] [(.ref aX), (.int (0 : Int32)), (.ref b102)])) _
    refine st106 _ ?_
    show Steps p.tables e below (T106.setTop (mkF m 22 #[.val (.ref a1), .val (.ref b102), .val (.int (0 : Int32))] [(.ref aX), (.int (0 : Int32)), (.ref b102)])) _
    refine st109 _ ?_
    show Steps p.tables e below (T109.setTop (mkF m 23 #[.val (.ref a1), .val (.ref b102), .val (.int (0 : Int32))] [])) _
    refine XS.iinc X109.here hx rfl (hb hby d_jdk_56_method_4_23) rfl (l' := #[.val (.ref a1), .val (.ref b102), .val (.int ((0 : Int32) + (1 : Int32)))]) rfl ?_
    show Steps p.tables e below (T109.setTop (mkF m 26 #[.val (.ref a1), .val (.ref b102), .val (.int ((0 : Int32) + (1 : Int32)))] [])) _
    rw [show ((0 : Int32) + (1 : Int32)) = (1 : Int32) from (by decide)]
    show Steps p.tables e below (T109.setTop (mkF m 26 #[.val (.ref a1), .val (.ref b102), .val (.int (1 : Int32))] [])) _
    refine XS.goto X109.here hx rfl (pc0 := 26) (pc' := 8) rfl (hb hby d_jdk_56_method_4_26) (by decide) (by decide) ?_
    refine XS.iloadN X109.here hx rfl (hb hby d_jdk_56_method_4_8) rfl ?_
    refine XS.aloadN X109.here hx rfl (hb hby d_jdk_56_method_4_9) rfl rfl ?_
    show Steps p.tables e below (T109.setTop (mkF m 10 #[.val (.ref a1), .val (.ref b102), .val (.int (1 : Int32))] [(.ref a1), (.int (1 : Int32))])) _
    refine X109.arraylength hx (by rw [e109]; exact Ar111.1) (State.isArrayOf_alike hZ.alike Ar111.2.1) (g := (mkF m 10 #[.val (.ref a1), .val (.ref b102), .val (.int (1 : Int32))] [(.ref a1), (.int (1 : Int32))])) rfl rfl (hb hby d_jdk_56_method_4_10) _ ?_
    rw [len_of S111 Ne111]
    show Steps p.tables e below (T109.setTop (mkF m 11 #[.val (.ref a1), .val (.ref b102), .val (.int (1 : Int32))] [(.int (5 : Int32)), (.int (1 : Int32))])) _
    refine XS.icmpNo X109.here hx rfl (hb hby d_jdk_56_method_4_11) rfl (tlt (by decide : (1 : Int32) < (5 : Int32))).2.1 ?_
    refine XS.aloadN X109.here hx rfl (hb hby d_jdk_56_method_4_14) rfl rfl ?_
    refine XS.iloadN X109.here hx rfl (hb hby d_jdk_56_method_4_15) rfl ?_
    refine XS.aloadN X109.here hx rfl (hb hby d_jdk_56_method_4_16) rfl rfl ?_
    show Steps p.tables e below (T109.setTop (mkF m 17 #[.val (.ref a1), .val (.ref b102), .val (.int (1 : Int32))] [(.ref a1), (.int (1 : Int32)), (.ref b102)])) _
    refine XS.iloadN X109.here hx rfl (hb hby d_jdk_56_method_4_17) rfl ?_
    show Steps p.tables e below (T109.setTop (mkF m 18 #[.val (.ref a1), .val (.ref b102), .val (.int (1 : Int32))] [(.int (1 : Int32)), (.ref a1), (.int (1 : Int32)), (.ref b102)])) _
    refine X109.aaload hx (j := (1 : Int32)) (v := (.ref aX)) (by rw [e109]; exact Ar112.1) (State.isArrayOf_alike hZ.alike Ar112.2.1) rfl Ar112.2.2 hin112 hat112 (g := (mkF m 18 #[.val (.ref a1), .val (.ref b102), .val (.int (1 : Int32))] [(.int (1 : Int32)), (.ref a1), (.int (1 : Int32)), (.ref b102)])) rfl rfl (hb hby d_jdk_56_method_4_18) _ ?_
    show Steps p.tables e below (T109.setTop (mkF m 19 #[.val (.ref a1), .val (.ref b102), .val (.int (1 : Int32))] [(.ref aX), (.int (1 : Int32)), (.ref b102)])) _
    refine st113 _ ?_
    show Steps p.tables e below (T113.setTop (mkF m 22 #[.val (.ref a1), .val (.ref b102), .val (.int (1 : Int32))] [(.ref aX), (.int (1 : Int32)), (.ref b102)])) _
    refine st116 _ ?_
    show Steps p.tables e below (T116.setTop (mkF m 23 #[.val (.ref a1), .val (.ref b102), .val (.int (1 : Int32))] [])) _
    refine XS.iinc X116.here hx rfl (hb hby d_jdk_56_method_4_23) rfl (l' := #[.val (.ref a1), .val (.ref b102), .val (.int ((1 : Int32) + (1 : Int32)))]) rfl ?_
    show Steps p.tables e below (T116.setTop (mkF m 26 #[.val (.ref a1), .val (.ref b102), .val (.int ((1 : Int32) + (1 : Int32)))] [])) _
    rw [show ((1 : Int32) + (1 : Int32)) = (2 : Int32) from (by decide)]
    show Steps p.tables e below (T116.setTop (mkF m 26 #[.val (.ref a1), .val (.ref b102), .val (.int (2 : Int32))] [])) _
    refine XS.goto X116.here hx rfl (pc0 := 26) (pc' := 8) rfl (hb hby d_jdk_56_method_4_26) (by decide) (by decide) ?_
    refine XS.iloadN X116.here hx rfl (hb hby d_jdk_56_method_4_8) rfl ?_
    refine XS.aloadN X116.here hx rfl (hb hby d_jdk_56_method_4_9) rfl rfl ?_
    show Steps p.tables e below (T116.setTop (mkF m 10 #[.val (.ref a1), .val (.ref b102), .val (.int (2 : Int32))] [(.ref a1), (.int (2 : Int32))])) _
    refine X116.arraylength hx (by rw [e116]; exact Ar118.1) (State.isArrayOf_alike hZ.alike Ar118.2.1) (g := (mkF m 10 #[.val (.ref a1), .val (.ref b102), .val (.int (2 : Int32))] [(.ref a1), (.int (2 : Int32))])) rfl rfl (hb hby d_jdk_56_method_4_10) _ ?_
    rw [len_of S118 Ne118]
    show Steps p.tables e below (T116.setTop (mkF m 11 #[.val (.ref a1), .val (.ref b102), .val (.int (2 : Int32))] [(.int (5 : Int32)), (.int (2 : Int32))])) _
    refine XS.icmpNo X116.here hx rfl (hb hby d_jdk_56_method_4_11) rfl (tlt (by decide : (2 : Int32) < (5 : Int32))).2.1 ?_
    refine XS.aloadN X116.here hx rfl (hb hby d_jdk_56_method_4_14) rfl rfl ?_
    refine XS.iloadN X116.here hx rfl (hb hby d_jdk_56_method_4_15) rfl ?_
    refine XS.aloadN X116.here hx rfl (hb hby d_jdk_56_method_4_16) rfl rfl ?_
    show Steps p.tables e below (T116.setTop (mkF m 17 #[.val (.ref a1), .val (.ref b102), .val (.int (2 : Int32))] [(.ref a1), (.int (2 : Int32)), (.ref b102)])) _
    refine XS.iloadN X116.here hx rfl (hb hby d_jdk_56_method_4_17) rfl ?_
    show Steps p.tables e below (T116.setTop (mkF m 18 #[.val (.ref a1), .val (.ref b102), .val (.int (2 : Int32))] [(.int (2 : Int32)), (.ref a1), (.int (2 : Int32)), (.ref b102)])) _
    refine X116.aaload hx (j := (2 : Int32)) (v := (.ref aX)) (by rw [e116]; exact Ar119.1) (State.isArrayOf_alike hZ.alike Ar119.2.1) rfl Ar119.2.2 hin119 hat119 (g := (mkF m 18 #[.val (.ref a1), .val (.ref b102), .val (.int (2 : Int32))] [(.int (2 : Int32)), (.ref a1), (.int (2 : Int32)), (.ref b102)])) rfl rfl (hb hby d_jdk_56_method_4_18) _ ?_
    show Steps p.tables e below (T116.setTop (mkF m 19 #[.val (.ref a1), .val (.ref b102), .val (.int (2 : Int32))] [(.ref aX), (.int (2 : Int32)), (.ref b102)])) _
    refine st120 _ ?_
    show Steps p.tables e below (T120.setTop (mkF m 22 #[.val (.ref a1), .val (.ref b102), .val (.int (2 : Int32))] [(.ref aX), (.int (2 : Int32)), (.ref b102)])) _
    refine st123 _ ?_
    show Steps p.tables e below (T123.setTop (mkF m 23 #[.val (.ref a1), .val (.ref b102), .val (.int (2 : Int32))] [])) _
    refine XS.iinc X123.here hx rfl (hb hby d_jdk_56_method_4_23) rfl (l' := #[.val (.ref a1), .val (.ref b102), .val (.int ((2 : Int32) + (1 : Int32)))]) rfl ?_
    show Steps p.tables e below (T123.setTop (mkF m 26 #[.val (.ref a1), .val (.ref b102), .val (.int ((2 : Int32) + (1 : Int32)))] [])) _
    rw [show ((2 : Int32) + (1 : Int32)) = (3 : Int32) from (by decide)]
    show Steps p.tables e below (T123.setTop (mkF m 26 #[.val (.ref a1), .val (.ref b102), .val (.int (3 : Int32))] [])) _
    refine XS.goto X123.here hx rfl (pc0 := 26) (pc' := 8) rfl (hb hby d_jdk_56_method_4_26) (by decide) (by decide) ?_
    refine XS.iloadN X123.here hx rfl (hb hby d_jdk_56_method_4_8) rfl ?_
    refine XS.aloadN X123.here hx rfl (hb hby d_jdk_56_method_4_9) rfl rfl ?_
    show Steps p.tables e below (T123.setTop (mkF m 10 #[.val (.ref a1), .val (.ref b102), .val (.int (3 : Int32))] [(.ref a1), (.int (3 : Int32))])) _
    refine X123.arraylength hx (by rw [e123]; exact Ar125.1) (State.isArrayOf_alike hZ.alike Ar125.2.1) (g := (mkF m 10 #[.val (.ref a1), .val (.ref b102), .val (.int (3 : Int32))] [(.ref a1), (.int (3 : Int32))])) rfl rfl (hb hby d_jdk_56_method_4_10) _ ?_
    rw [len_of S125 Ne125]
    show Steps p.tables e below (T123.setTop (mkF m 11 #[.val (.ref a1), .val (.ref b102), .val (.int (3 : Int32))] [(.int (5 : Int32)), (.int (3 : Int32))])) _
    refine XS.icmpNo X123.here hx rfl (hb hby d_jdk_56_method_4_11) rfl (tlt (by decide : (3 : Int32) < (5 : Int32))).2.1 ?_
    refine XS.aloadN X123.here hx rfl (hb hby d_jdk_56_method_4_14) rfl rfl ?_
    refine XS.iloadN X123.here hx rfl (hb hby d_jdk_56_method_4_15) rfl ?_
    refine XS.aloadN X123.here hx rfl (hb hby d_jdk_56_method_4_16) rfl rfl ?_
    show Steps p.tables e below (T123.setTop (mkF m 17 #[.val (.ref a1), .val (.ref b102), .val (.int (3 : Int32))] [(.ref a1), (.int (3 : Int32)), (.ref b102)])) _
    refine XS.iloadN X123.here hx rfl (hb hby d_jdk_56_method_4_17) rfl ?_
    show Steps p.tables e below (T123.setTop (mkF m 18 #[.val (.ref a1), .val (.ref b102), .val (.int (3 : Int32))] [(.int (3 : Int32)), (.ref a1), (.int (3 : Int32)), (.ref b102)])) _
    refine X123.aaload hx (j := (3 : Int32)) (v := (.ref aX)) (by rw [e123]; exact Ar126.1) (State.isArrayOf_alike hZ.alike Ar126.2.1) rfl Ar126.2.2 hin126 hat126 (g := (mkF m 18 #[.val (.ref a1), .val (.ref b102), .val (.int (3 : Int32))] [(.int (3 : Int32)), (.ref a1), (.int (3 : Int32)), (.ref b102)])) rfl rfl (hb hby d_jdk_56_method_4_18) _ ?_
    show Steps p.tables e below (T123.setTop (mkF m 19 #[.val (.ref a1), .val (.ref b102), .val (.int (3 : Int32))] [(.ref aX), (.int (3 : Int32)), (.ref b102)])) _
    refine st127 _ ?_
    show Steps p.tables e below (T127.setTop (mkF m 22 #[.val (.ref a1), .val (.ref b102), .val (.int (3 : Int32))] [(.ref aX), (.int (3 : Int32)), (.ref b102)])) _
    refine st130 _ ?_
    show Steps p.tables e below (T130.setTop (mkF m 23 #[.val (.ref a1), .val (.ref b102), .val (.int (3 : Int32))] [])) _
    refine XS.iinc X130.here hx rfl (hb hby d_jdk_56_method_4_23) rfl (l' := #[.val (.ref a1), .val (.ref b102), .val (.int ((3 : Int32) + (1 : Int32)))]) rfl ?_
    show Steps p.tables e below (T130.setTop (mkF m 26 #[.val (.ref a1), .val (.ref b102), .val (.int ((3 : Int32) + (1 : Int32)))] [])) _
    rw [show ((3 : Int32) + (1 : Int32)) = (4 : Int32) from (by decide)]
    show Steps p.tables e below (T130.setTop (mkF m 26 #[.val (.ref a1), .val (.ref b102), .val (.int (4 : Int32))] [])) _
    refine XS.goto X130.here hx rfl (pc0 := 26) (pc' := 8) rfl (hb hby d_jdk_56_method_4_26) (by decide) (by decide) ?_
    refine XS.iloadN X130.here hx rfl (hb hby d_jdk_56_method_4_8) rfl ?_
    refine XS.aloadN X130.here hx rfl (hb hby d_jdk_56_method_4_9) rfl rfl ?_
    show Steps p.tables e below (T130.setTop (mkF m 10 #[.val (.ref a1), .val (.ref b102), .val (.int (4 : Int32))] [(.ref a1), (.int (4 : Int32))])) _
    refine X130.arraylength hx (by rw [e130]; exact Ar132.1) (State.isArrayOf_alike hZ.alike Ar132.2.1) (g := (mkF m 10 #[.val (.ref a1), .val (.ref b102), .val (.int (4 : Int32))] [(.ref a1), (.int (4 : Int32))])) rfl rfl (hb hby d_jdk_56_method_4_10) _ ?_
    rw [len_of S132 Ne132]
    show Steps p.tables e below (T130.setTop (mkF m 11 #[.val (.ref a1), .val (.ref b102), .val (.int (4 : Int32))] [(.int (5 : Int32)), (.int (4 : Int32))])) _
    refine XS.icmpNo X130.here hx rfl (hb hby d_jdk_56_method_4_11) rfl (tlt (by decide : (4 : Int32) < (5 : Int32))).2.1 ?_
    refine XS.aloadN X130.here hx rfl (hb hby d_jdk_56_method_4_14) rfl rfl ?_
    refine XS.iloadN X130.here hx rfl (hb hby d_jdk_56_method_4_15) rfl ?_
    refine XS.aloadN X130.here hx rfl (hb hby d_jdk_56_method_4_16) rfl rfl ?_
    show Steps p.tables e below (T130.setTop (mkF m 17 #[.val (.ref a1), .val (.ref b102), .val (.int (4 : Int32))] [(.ref a1), (.int (4 : Int32)), (.ref b102)])) _
    refine XS.iloadN X130.here hx rfl (hb hby d_jdk_56_method_4_17) rfl ?_
    show Steps p.tables e below (T130.setTop (mkF m 18 #[.val (.ref a1), .val (.ref b102), .val (.int (4 : Int32))] [(.int (4 : Int32)), (.ref a1), (.int (4 : Int32)), (.ref b102)])) _
    refine X130.aaload hx (j := (4 : Int32)) (v := (.ref aX)) (by rw [e130]; exact Ar133.1) (State.isArrayOf_alike hZ.alike Ar133.2.1) rfl Ar133.2.2 hin133 hat133 (g := (mkF m 18 #[.val (.ref a1), .val (.ref b102), .val (.int (4 : Int32))] [(.int (4 : Int32)), (.ref a1), (.int (4 : Int32)), (.ref b102)])) rfl rfl (hb hby d_jdk_56_method_4_18) _ ?_
    show Steps p.tables e below (T130.setTop (mkF m 19 #[.val (.ref a1), .val (.ref b102), .val (.int (4 : Int32))] [(.ref aX), (.int (4 : Int32)), (.ref b102)])) _
    refine st134 _ ?_
    show Steps p.tables e below (T134.setTop (mkF m 22 #[.val (.ref a1), .val (.ref b102), .val (.int (4 : Int32))] [(.ref aX), (.int (4 : Int32)), (.ref b102)])) _
    refine st137 _ ?_
    show Steps p.tables e below (T137.setTop (mkF m 23 #[.val (.ref a1), .val (.ref b102), .val (.int (4 : Int32))] [])) _
    refine XS.iinc X137.here hx rfl (hb hby d_jdk_56_method_4_23) rfl (l' := #[.val (.ref a1), .val (.ref b102), .val (.int ((4 : Int32) + (1 : Int32)))]) rfl ?_
    show Steps p.tables e below (T137.setTop (mkF m 26 #[.val (.ref a1), .val (.ref b102), .val (.int ((4 : Int32) + (1 : Int32)))] [])) _
    rw [show ((4 : Int32) + (1 : Int32)) = (5 : Int32) from (by decide)]
    show Steps p.tables e below (T137.setTop (mkF m 26 #[.val (.ref a1), .val (.ref b102), .val (.int (5 : Int32))] [])) _
    refine XS.goto X137.here hx rfl (pc0 := 26) (pc' := 8) rfl (hb hby d_jdk_56_method_4_26) (by decide) (by decide) ?_
    refine XS.iloadN X137.here hx rfl (hb hby d_jdk_56_method_4_8) rfl ?_
    refine XS.aloadN X137.here hx rfl (hb hby d_jdk_56_method_4_9) rfl rfl ?_
    show Steps p.tables e below (T137.setTop (mkF m 10 #[.val (.ref a1), .val (.ref b102), .val (.int (5 : Int32))] [(.ref a1), (.int (5 : Int32))])) _
    refine X137.arraylength hx (by rw [e137]; exact Ar139.1) (State.isArrayOf_alike hZ.alike Ar139.2.1) (g := (mkF m 10 #[.val (.ref a1), .val (.ref b102), .val (.int (5 : Int32))] [(.ref a1), (.int (5 : Int32))])) rfl rfl (hb hby d_jdk_56_method_4_10) _ ?_
    rw [len_of S139 Ne139]
    show Steps p.tables e below (T137.setTop (mkF m 11 #[.val (.ref a1), .val (.ref b102), .val (.int (5 : Int32))] [(.int (5 : Int32)), (.int (5 : Int32))])) _
    refine XS.icmpYes X137.here hx rfl (pc0 := 11) (pc' := 29) rfl (hb hby d_jdk_56_method_4_11) rfl (flt (by decide : ¬ ((5 : Int32) < (5 : Int32)))).2.1 (by decide) (by decide) ?_
    show Steps p.tables e below (T137.setTop (mkF m 29 #[.val (.ref a1), .val (.ref b102), .val (.int (5 : Int32))] [])) _
    refine st140 _ ?_
    show Steps p.tables e below (T140.setTop (mkF m 32 #[.val (.ref a1), .val (.ref b102), .val (.int (5 : Int32))] [(.ref b140)])) _
    refine XS.dup X140.here hx rfl (hb hby d_jdk_56_method_4_32) rfl rfl ?_
    refine XS.aloadN X140.here hx rfl (hb hby d_jdk_56_method_4_33) rfl rfl ?_
    refine XS.iconst X140.here hx rfl (hb hby d_jdk_56_method_4_34) ?_
    show Steps p.tables e below (T140.setTop (mkF m 35 #[.val (.ref a1), .val (.ref b102), .val (.int (5 : Int32))] [(.int (0 : Int32)), (.ref b102), (.ref b140), (.ref b140)])) _
    refine st143.trans ?_
    show Steps p.tables e below (T143.setTop (mkF m 38 #[.val (.ref a1), .val (.ref b102), .val (.int (5 : Int32))] [(.ref b140)])) _
    exact retOut X143 hx (t := (.object "java/util/List")) (i := .areturn) Bd.returns rfl (Or.inr (Or.inr (Or.inr (Or.inr ⟨rfl, rfl, rfl⟩)))) (hb hby d_jdk_56_method_4_38) hr
  · show Q_lf5 Z a1 k1 aX h0 n0 _ T143.heap _
    exact ⟨b140, rfl, N143, K143⟩
theorem ef_lf6 (m : MethodId) (a1 : Addr) : entryFrame m #[(.ref a1)] 3 = mkF m 0 #[.val (.ref a1), .unset, .unset] [] := by first | (simp [entryFrame, mkF, argsToLocals, Value.category]; done) | rfl
def Q_lf6 (Z : State) (a1 : Addr) (k1 : ClassId) (aX : Addr) (h0 : Heap) (n0 : Nat) (v : Option Value) (h : Heap) (L : List Loc) : Prop := ∃ (bb : Addr), v = some (.ref bb) ∧ Fr n0 L ∧ Keep h0 h []
set_option maxRecDepth 65536 in
set_option maxHeartbeats 40000000 in
theorem rm_lf6 (l : Launch) (Z : State) (a0 : Array Value) (hw : ∀ d ∈ tables_1, d.before a0 Z = true) (ws : List Jvm.Cond) (a1 : Addr) (k1 : ClassId) (aX : Addr) (h0 : Heap) (n0 : Nat) (O0 : Old Z n0 h0) (VA : Arv Z h0 a1 k1 (.object "java/lang/Object") (6 : Int32) [(.ref aX), (.ref aX), (.ref aX), (.ref aX), (.ref aX), (.ref aX)] .null) (EX : Exa Z h0 aX "com/example/jitney/jitney/Instance$Node") (gA : n0 ≤ a1) (gX : n0 ≤ aX) :
    MetFree l (⟨"java/util/ImmutableCollections", "listFromArray", "([Ljava/lang/Object;)Ljava/util/List;"⟩ : MethodName) (head1 (Jvm.Cond.code (⟨"java/util/ImmutableCollections", "listFromArray", "([Ljava/lang/Object;)Ljava/util/List;"⟩ : MethodName) jdk_56_method_4_code 3 (some (.object "java/util/List")) :: ws) ({ frames := 5, cells := 2, slots := 10, locals := 63 } : Room)) (fun a U => a = #[(.ref a1)] ∧ Z.Warmed39 U.vm ∧ U.heap = h0) (fun _ _ _ _ _ => True) (fun _ U o U' => ∃ v L, o = .returned v ∧ Q_lf6 Z a1 k1 aX h0 n0 v U'.heap L ∧ FrameEnd U o U' L ({ frames := 5, cells := 2, slots := 10, locals := 63 } : Room).cells ({ frames := 5, cells := 2, slots := 10, locals := 63 } : Room).slots) := by
  refine MetFree.of_bodySF (plainFor_of_name pn_11) hisR ?_
  intro p e s m args below meth c s₁ Bd hml0 hP hK
  obtain ⟨rfl, hZ, hh⟩ := hP
  have hx := Bd.exec
  have hby := Bd.bytes
  have hml : c.maxLocals = 3 := hml0
  have hown : s.vm.findClass "java/util/ImmutableCollections" = some m.cls := findClass_of_methodNamed Bd.named
  have hnm := (name_of_methodNamed Bd.named Bd.method).1
  have X0 : Stand p l e ({ frames := 5, cells := 2, slots := 10, locals := 63 } : Room) s m #[(.ref a1)] below meth c s₁ [] 0 0 := Stand.of_body Bd
  have e0 : s₁.heap = h0 := by rw [← hh, Bd.state]; rfl
  have N0 := Fr.nil n0
  have K0 : Keep h0 h0 [] := Keep.refl _ _
  have pre0 : ∀ t, Steps p.tables e below (s₁.setTop (mkF m 0 #[.val (.ref a1), .unset, .unset] [])) t → Steps p.tables e below (s₁.setTop (entryFrame m #[(.ref a1)] 3)) t := fun t k => castTop (ef_lf6 m a1) k
  obtain ⟨cl101, Ar101, -, S101, Ne101, -, -⟩ := id VA
  obtain ⟨T102, h102, k102, X102, e102, E102, A102, Ex102, Ov102, st102⟩ := newRE X0 hx hZ hown (hw _ (List.mem_of_getElem? (i := 222) rfl)) (hw _ (List.mem_of_getElem? (i := 79) rfl)) e0 (g := (mkF m 2 #[.val (.ref a1), .unset, .unset] [(.int (6 : Int32))])) rfl (hb hby d_jdk_56_method_4_2) rfl (by decide) (cap := 6) (by decide) (by decide) (by decide) (by decide) (ad := "[Ljava/lang/Object;") rfl
  obtain ⟨b102, g102⟩ : ∃ z, z = h0.size := ⟨_, rfl⟩
  rw [← g102] at A102 Ex102 st102
  have g_b102 : n0 ≤ b102 := Nat.le_trans (own_szO O0) (Nat.le_of_eq g102.symm)
  have sz_b102 : h0.size ≤ b102 := Nat.le_trans K0.1 (Nat.le_of_eq g102.symm)
  have ne_a1_b102 : a1 ≠ b102 := Nat.ne_of_lt (Nat.lt_of_lt_of_le VA.lt (Nat.le_of_eq g102.symm))
  have ne_aX_b102 : aX ≠ b102 := Nat.ne_of_lt (Nat.lt_of_lt_of_le EX.lt (Nat.le_of_eq g102.symm))
  have O102 := O0.ext E102
  have K102 := K0.ext E102
  have V102 : Arv Z h102 b102 k102 (.object "java/lang/Object") (6 : Int32) [.null, .null, .null, .null, .null, .null] .null := (Arv.new A102 (by decide)).pad (pad_rep [] .null 6)
  have f103 := (VA.ext E102)
  obtain ⟨cl104, Ar104, -, S104, Ne104, -, -⟩ := id f103
  obtain ⟨cl105, Ar105, q105, S105, Ne105, H105, G105⟩ := id f103
  have hin105 : ¬ ((0 : Int32) < 0 ∨ cl105.slots.size ≤ ((0 : Int32)).toNatClampNeg) := inb_of S105 ⟨by decide, by decide⟩
  have hat105 : cl105.slots[((0 : Int32)).toNatClampNeg]? = some (.ref aX) := H105.at hin105 rfl
  obtain ⟨_, _, ⟨T106, L106, k106, n106⟩, -, X106, ⟨Lc106, hQ106, l106, y106, z106⟩, st106⟩ := Jvm.LawKit.callS X102 hx (y := (⟨"java/util/Objects", "requireNonNull", "(Ljava/lang/Object;)Ljava/lang/Object;"⟩ : MethodName)) hown (mvT hZ (hw _ (List.mem_of_getElem? (i := 223) rfl))) (mvT hZ (hw _ (List.mem_of_getElem? (i := 191) rfl))) (mvT hZ (hw _ (List.mem_of_getElem? (i := 192) rfl))) (mvT hZ (hw _ (List.mem_of_getElem? (i := 193) rfl))) (by decide) (backOf (W := 2) (rm_rn l Z a0 hw [] aX h102 n0 O102 ) hZ (hw _ (List.mem_of_getElem? (i := 193) rfl)) (hw _ (List.mem_of_getElem? (i := 192) rfl)) (by decide) (by decide)) (g := (mkF m 19 #[.val (.ref a1), .val (.ref b102), .val (.int (0 : Int32))] [(.ref aX), (.int (0 : Int32)), (.ref b102)])) rfl (by rw [hml]; rfl) (argsL := [(.ref aX)]) (rest := [(.int (0 : Int32)), (.ref b102)]) (lenOf pd_7 rfl) rfl (by show 2 * 0 + _ ≤ _; exact Nat.le_of_eq rfl) (hb hby d_jdk_56_method_4_19) (fun _ _ => ⟨rfl, e102, (by decide : 1 + 0 ≤ _), (by decide : 6 + 0 ≤ _)⟩)
  dsimp only [Pt.U, Pt.locs, Pt.cells, Pt.slots] at X106 l106 y106 z106 st106 hQ106
  subst l106 y106 z106
  obtain ⟨rfl, Nq106, e106⟩ := hQ106
  have N106 := Fr.app N0 Nq106
  obtain ⟨cl107, Ar107, q107, S107, Ne107, H107, G107⟩ := id V102
  have hin107 : ¬ ((0 : Int32) < 0 ∨ cl107.slots.size ≤ ((0 : Int32)).toNatClampNeg) := inb_of S107 ⟨by decide, by decide⟩
  have f108 := (EX.ext E102)
  obtain ⟨T109, h109, X109, e109, W109, st109⟩ := stR X106 hx hZ e106 Ar107 (j := (0 : Int32)) hin107 rfl (Sto.ofV Ar107 q107 Ov102 (Ins.of_exa f108 (hw _ (List.mem_of_getElem? (i := 80) rfl)))) (g := (mkF m 22 #[.val (.ref a1), .val (.ref b102), .val (.int (0 : Int32))] [(.ref aX), (.int (0 : Int32)), (.ref b102)])) rfl rfl (hb hby d_jdk_56_method_4_22)
  have V109 : Arv Z h109 b102 k102 (.object "java/lang/Object") (6 : Int32) [(.ref aX), .null, .null, .null, .null, .null] .null := Arv.set Ar107 q107 S107 Ne107 H107 G107 rfl W109 0 rfl (Nat.le_of_ble_eq_true rfl)
  have N109 := Fr.snoc X109 N106 g_b102
  have O109 := O102.wr W109 g_b102
  have K109 := K102.wr W109 (Or.inr sz_b102)
  have f110 := (f103.other W109 ne_a1_b102)
  obtain ⟨cl111, Ar111, -, S111, Ne111, -, -⟩ := id f110
  obtain ⟨cl112, Ar112, q112, S112, Ne112, H112, G112⟩ := id f110
  have hin112 : ¬ ((1 : Int32) < 0 ∨ cl112.slots.size ≤ ((1 : Int32)).toNatClampNeg) := inb_of S112 ⟨by decide, by decide⟩
  have hat112 : cl112.slots[((1 : Int32)).toNatClampNeg]? = some (.ref aX) := H112.at hin112 rfl
  obtain ⟨_, _, ⟨T113, L113, k113, n113⟩, -, X113, ⟨Lc113, hQ113, l113, y113, z113⟩, st113⟩ := Jvm.LawKit.callS X109 hx (y := (⟨"java/util/Objects", "requireNonNull", "(Ljava/lang/Object;)Ljava/lang/Object;"⟩ : MethodName)) hown (mvT hZ (hw _ (List.mem_of_getElem? (i := 223) rfl))) (mvT hZ (hw _ (List.mem_of_getElem? (i := 191) rfl))) (mvT hZ (hw _ (List.mem_of_getElem? (i := 192) rfl))) (mvT hZ (hw _ (List.mem_of_getElem? (i := 193) rfl))) (by decide) (backOf (W := 2) (rm_rn l Z a0 hw [] aX h109 n0 O109 ) hZ (hw _ (List.mem_of_getElem? (i := 193) rfl)) (hw _ (List.mem_of_getElem? (i := 192) rfl)) (by decide) (by decide)) (g := (mkF m 19 #[.val (.ref a1), .val (.ref b102), .val (.int (1 : Int32))] [(.ref aX), (.int (1 : Int32)), (.ref b102)])) rfl (by rw [hml]; rfl) (argsL := [(.ref aX)]) (rest := [(.int (1 : Int32)), (.ref b102)]) (lenOf pd_7 rfl) rfl (by show 2 * 0 + _ ≤ _; exact Nat.le_of_eq rfl) (hb hby d_jdk_56_method_4_19) (fun _ _ => ⟨rfl, e109, (by decide : 1 + 0 ≤ _), (by decide : 6 + 0 ≤ _)⟩)
  dsimp only [Pt.U, Pt.locs, Pt.cells, Pt.slots] at X113 l113 y113 z113 st113 hQ113
  subst l113 y113 z113
  obtain ⟨rfl, Nq113, e113⟩ := hQ113
  have N113 := Fr.app N109 Nq113
  obtain ⟨cl114, Ar114, q114, S114, Ne114, H114, G114⟩ := id V109
  have hin114 : ¬ ((1 : Int32) < 0 ∨ cl114.slots.size ≤ ((1 : Int32)).toNatClampNeg) := inb_of S114 ⟨by decide, by decide⟩
  have f115 := (f108.wr W109)
  obtain ⟨T116, h116, X116, e116, W116, st116⟩ := stR X113 hx hZ e113 Ar114 (j := (1 : Int32)) hin114 rfl (Sto.ofV Ar114 q114 Ov102 (Ins.of_exa f115 (hw _ (List.mem_of_getElem? (i := 80) rfl)))) (g := (mkF m 22 #[.val (.ref a1), .val (.ref b102), .val (.int (1 : Int32))] [(.ref aX), (.int (1 : Int32)), (.ref b102)])) rfl rfl (hb hby d_jdk_56_method_4_22)
  have V116 : Arv Z h116 b102 k102 (.object "java/lang/Object") (6 : Int32) [(.ref aX), (.ref aX), .null, .null, .null, .null] .null := Arv.set Ar114 q114 S114 Ne114 H114 G114 rfl W116 1 rfl (Nat.le_of_ble_eq_true rfl)
  have N116 := Fr.snoc X116 N113 g_b102
  have O116 := O109.wr W116 g_b102
  have K116 := K109.wr W116 (Or.inr sz_b102)
  have f117 := (f110.other W116 ne_a1_b102)
  obtain ⟨cl118, Ar118, -, S118, Ne118, -, -⟩ := id f117
  obtain ⟨cl119, Ar119, q119, S119, Ne119, H119, G119⟩ := id f117
  have hin119 : ¬ ((2 : Int32) < 0 ∨ cl119.slots.size ≤ ((2 : Int32)).toNatClampNeg) := inb_of S119 ⟨by decide, by decide⟩
  have hat119 : cl119.slots[((2 : Int32)).toNatClampNeg]? = some (.ref aX) := H119.at hin119 rfl
  obtain ⟨_, _, ⟨T120, L120, k120, n120⟩, -, X120, ⟨Lc120, hQ120, l120, y120, z120⟩, st120⟩ := Jvm.LawKit.callS X116 hx (y := (⟨"java/util/Objects", "requireNonNull", "(Ljava/lang/Object;)Ljava/lang/Object;"⟩ : MethodName)) hown (mvT hZ (hw _ (List.mem_of_getElem? (i := 223) rfl))) (mvT hZ (hw _ (List.mem_of_getElem? (i := 191) rfl))) (mvT hZ (hw _ (List.mem_of_getElem? (i := 192) rfl))) (mvT hZ (hw _ (List.mem_of_getElem? (i := 193) rfl))) (by decide) (backOf (W := 2) (rm_rn l Z a0 hw [] aX h116 n0 O116 ) hZ (hw _ (List.mem_of_getElem? (i := 193) rfl)) (hw _ (List.mem_of_getElem? (i := 192) rfl)) (by decide) (by decide)) (g := (mkF m 19 #[.val (.ref a1), .val (.ref b102), .val (.int (2 : Int32))] [(.ref aX), (.int (2 : Int32)), (.ref b102)])) rfl (by rw [hml]; rfl) (argsL := [(.ref aX)]) (rest := [(.int (2 : Int32)), (.ref b102)]) (lenOf pd_7 rfl) rfl (by show 2 * 0 + _ ≤ _; exact Nat.le_of_eq rfl) (hb hby d_jdk_56_method_4_19) (fun _ _ => ⟨rfl, e116, (by decide : 1 + 0 ≤ _), (by decide : 6 + 0 ≤ _)⟩)
  dsimp only [Pt.U, Pt.locs, Pt.cells, Pt.slots] at X120 l120 y120 z120 st120 hQ120
  subst l120 y120 z120
  obtain ⟨rfl, Nq120, e120⟩ := hQ120
  have N120 := Fr.app N116 Nq120
  obtain ⟨cl121, Ar121, q121, S121, Ne121, H121, G121⟩ := id V116
  have hin121 : ¬ ((2 : Int32) < 0 ∨ cl121.slots.size ≤ ((2 : Int32)).toNatClampNeg) := inb_of S121 ⟨by decide, by decide⟩
  have f122 := (f115.wr W116)
  obtain ⟨T123, h123, X123, e123, W123, st123⟩ := stR X120 hx hZ e120 Ar121 (j := (2 : Int32)) hin121 rfl (Sto.ofV Ar121 q121 Ov102 (Ins.of_exa f122 (hw _ (List.mem_of_getElem? (i := 80) rfl)))) (g := (mkF m 22 #[.val (.ref a1), .val (.ref b102), .val (.int (2 : Int32))] [(.ref aX), (.int (2 : Int32)), (.ref b102)])) rfl rfl (hb hby d_jdk_56_method_4_22)
  have V123 : Arv Z h123 b102 k102 (.object "java/lang/Object") (6 : Int32) [(.ref aX), (.ref aX), (.ref aX), .null, .null, .null] .null := Arv.set Ar121 q121 S121 Ne121 H121 G121 rfl W123 2 rfl (Nat.le_of_ble_eq_true rfl)
  have N123 := Fr.snoc X123 N120 g_b102
  have O123 := O116.wr W123 g_b102
  have K123 := K116.wr W123 (Or.inr sz_b102)
  have f124 := (f117.other W123 ne_a1_b102)
  obtain ⟨cl125, Ar125, -, S125, Ne125, -, -⟩ := id f124
  obtain ⟨cl126, Ar126, q126, S126, Ne126, H126, G126⟩ := id f124
  have hin126 : ¬ ((3 : Int32) < 0 ∨ cl126.slots.size ≤ ((3 : Int32)).toNatClampNeg) := inb_of S126 ⟨by decide, by decide⟩
  have hat126 : cl126.slots[((3 : Int32)).toNatClampNeg]? = some (.ref aX) := H126.at hin126 rfl
  obtain ⟨_, _, ⟨T127, L127, k127, n127⟩, -, X127, ⟨Lc127, hQ127, l127, y127, z127⟩, st127⟩ := Jvm.LawKit.callS X123 hx (y := (⟨"java/util/Objects", "requireNonNull", "(Ljava/lang/Object;)Ljava/lang/Object;"⟩ : MethodName)) hown (mvT hZ (hw _ (List.mem_of_getElem? (i := 223) rfl))) (mvT hZ (hw _ (List.mem_of_getElem? (i := 191) rfl))) (mvT hZ (hw _ (List.mem_of_getElem? (i := 192) rfl))) (mvT hZ (hw _ (List.mem_of_getElem? (i := 193) rfl))) (by decide) (backOf (W := 2) (rm_rn l Z a0 hw [] aX h123 n0 O123 ) hZ (hw _ (List.mem_of_getElem? (i := 193) rfl)) (hw _ (List.mem_of_getElem? (i := 192) rfl)) (by decide) (by decide)) (g := (mkF m 19 #[.val (.ref a1), .val (.ref b102), .val (.int (3 : Int32))] [(.ref aX), (.int (3 : Int32)), (.ref b102)])) rfl (by rw [hml]; rfl) (argsL := [(.ref aX)]) (rest := [(.int (3 : Int32)), (.ref b102)]) (lenOf pd_7 rfl) rfl (by show 2 * 0 + _ ≤ _; exact Nat.le_of_eq rfl) (hb hby d_jdk_56_method_4_19) (fun _ _ => ⟨rfl, e123, (by decide : 1 + 0 ≤ _), (by decide : 6 + 0 ≤ _)⟩)
  dsimp only [Pt.U, Pt.locs, Pt.cells, Pt.slots] at X127 l127 y127 z127 st127 hQ127
  subst l127 y127 z127
  obtain ⟨rfl, Nq127, e127⟩ := hQ127
  have N127 := Fr.app N123 Nq127
  obtain ⟨cl128, Ar128, q128, S128, Ne128, H128, G128⟩ := id V123
  have hin128 : ¬ ((3 : Int32) < 0 ∨ cl128.slots.size ≤ ((3 : Int32)).toNatClampNeg) := inb_of S128 ⟨by decide, by decide⟩
  have f129 := (f122.wr W123)
  obtain ⟨T130, h130, X130, e130, W130, st130⟩ := stR X127 hx hZ e127 Ar128 (j := (3 : Int32)) hin128 rfl (Sto.ofV Ar128 q128 Ov102 (Ins.of_exa f129 (hw _ (List.mem_of_getElem? (i := 80) rfl)))) (g := (mkF m 22 #[.val (.ref a1), .val (.ref b102), .val (.int (3 : Int32))] [(.ref aX), (.int (3 : Int32)), (.ref b102)])) rfl rfl (hb hby d_jdk_56_method_4_22)
  have V130 : Arv Z h130 b102 k102 (.object "java/lang/Object") (6 : Int32) [(.ref aX), (.ref aX), (.ref aX), (.ref aX), .null, .null] .null := Arv.set Ar128 q128 S128 Ne128 H128 G128 rfl W130 3 rfl (Nat.le_of_ble_eq_true rfl)
  have N130 := Fr.snoc X130 N127 g_b102
  have O130 := O123.wr W130 g_b102
  have K130 := K123.wr W130 (Or.inr sz_b102)
  have f131 := (f124.other W130 ne_a1_b102)
  obtain ⟨cl132, Ar132, -, S132, Ne132, -, -⟩ := id f131
  obtain ⟨cl133, Ar133, q133, S133, Ne133, H133, G133⟩ := id f131
  have hin133 : ¬ ((4 : Int32) < 0 ∨ cl133.slots.size ≤ ((4 : Int32)).toNatClampNeg) := inb_of S133 ⟨by decide, by decide⟩
  have hat133 : cl133.slots[((4 : Int32)).toNatClampNeg]? = some (.ref aX) := H133.at hin133 rfl
  obtain ⟨_, _, ⟨T134, L134, k134, n134⟩, -, X134, ⟨Lc134, hQ134, l134, y134, z134⟩, st134⟩ := Jvm.LawKit.callS X130 hx (y := (⟨"java/util/Objects", "requireNonNull", "(Ljava/lang/Object;)Ljava/lang/Object;"⟩ : MethodName)) hown (mvT hZ (hw _ (List.mem_of_getElem? (i := 223) rfl))) (mvT hZ (hw _ (List.mem_of_getElem? (i := 191) rfl))) (mvT hZ (hw _ (List.mem_of_getElem? (i := 192) rfl))) (mvT hZ (hw _ (List.mem_of_getElem? (i := 193) rfl))) (by decide) (backOf (W := 2) (rm_rn l Z a0 hw [] aX h130 n0 O130 ) hZ (hw _ (List.mem_of_getElem? (i := 193) rfl)) (hw _ (List.mem_of_getElem? (i := 192) rfl)) (by decide) (by decide)) (g := (mkF m 19 #[.val (.ref a1), .val (.ref b102), .val (.int (4 : Int32))] [(.ref aX), (.int (4 : Int32)), (.ref b102)])) rfl (by rw [hml]; rfl) (argsL := [(.ref aX)]) (rest := [(.int (4 : Int32)), (.ref b102)]) (lenOf pd_7 rfl) rfl (by show 2 * 0 + _ ≤ _; exact Nat.le_of_eq rfl) (hb hby d_jdk_56_method_4_19) (fun _ _ => ⟨rfl, e130, (by decide : 1 + 0 ≤ _), (by decide : 6 + 0 ≤ _)⟩)
  dsimp only [Pt.U, Pt.locs, Pt.cells, Pt.slots] at X134 l134 y134 z134 st134 hQ134
  subst l134 y134 z134
  obtain ⟨rfl, Nq134, e134⟩ := hQ134
  have N134 := Fr.app N130 Nq134
  obtain ⟨cl135, Ar135, q135, S135, Ne135, H135, G135⟩ := id V130
  have hin135 : ¬ ((4 : Int32) < 0 ∨ cl135.slots.size ≤ ((4 : Int32)).toNatClampNeg) := inb_of S135 ⟨by decide, by decide⟩
  have f136 := (f129.wr W130)
  obtain ⟨T137, h137, X137, e137, W137, st137⟩ := stR X134 hx hZ e134 Ar135 (j := (4 : Int32)) hin135 rfl (Sto.ofV Ar135 q135 Ov102 (Ins.of_exa f136 (hw _ (List.mem_of_getElem? (i := 80) rfl)))) (g := (mkF m 22 #[.val (.ref a1), .val (.ref b102), .val (.int (4 : Int32))] [(.ref aX), (.int (4 : Int32)), (.ref b102)])) rfl rfl (hb hby d_jdk_56_method_4_22)
  have V137 : Arv Z h137 b102 k102 (.object "java/lang/Object") (6 : Int32) [(.ref aX), (.ref aX), (.ref aX), (.ref aX), (.ref aX), .null] .null := Arv.set Ar135 q135 S135 Ne135 H135 G135 rfl W137 4 rfl (Nat.le_of_ble_eq_true rfl)
  have N137 := Fr.snoc X137 N134 g_b102
  have O137 := O130.wr W137 g_b102
  have K137 := K130.wr W137 (Or.inr sz_b102)
  have f138 := (f131.other W137 ne_a1_b102)
  obtain ⟨cl139, Ar139, -, S139, Ne139, -, -⟩ := id f138
  obtain ⟨cl140, Ar140, q140, S140, Ne140, H140, G140⟩ := id f138
  have hin140 : ¬ ((5 : Int32) < 0 ∨ cl140.slots.size ≤ ((5 : Int32)).toNatClampNeg) := inb_of S140 ⟨by decide, by decide⟩
  have hat140 : cl140.slots[((5 : Int32)).toNatClampNeg]? = some (.ref aX) := H140.at hin140 rfl
  obtain ⟨_, _, ⟨T141, L141, k141, n141⟩, -, X141, ⟨Lc141, hQ141, l141, y141, z141⟩, st141⟩ := Jvm.LawKit.callS X137 hx (y := (⟨"java/util/Objects", "requireNonNull", "(Ljava/lang/Object;)Ljava/lang/Object;"⟩ : MethodName)) hown (mvT hZ (hw _ (List.mem_of_getElem? (i := 223) rfl))) (mvT hZ (hw _ (List.mem_of_getElem? (i := 191) rfl))) (mvT hZ (hw _ (List.mem_of_getElem? (i := 192) rfl))) (mvT hZ (hw _ (List.mem_of_getElem? (i := 193) rfl))) (by decide) (backOf (W := 2) (rm_rn l Z a0 hw [] aX h137 n0 O137 ) hZ (hw _ (List.mem_of_getElem? (i := 193) rfl)) (hw _ (List.mem_of_getElem? (i := 192) rfl)) (by decide) (by decide)) (g := (mkF m 19 #[.val (.ref a1), .val (.ref b102), .val (.int (5 : Int32))] [(.ref aX), (.int (5 : Int32)), (.ref b102)])) rfl (by rw [hml]; rfl) (argsL := [(.ref aX)]) (rest := [(.int (5 : Int32)), (.ref b102)]) (lenOf pd_7 rfl) rfl (by show 2 * 0 + _ ≤ _; exact Nat.le_of_eq rfl) (hb hby d_jdk_56_method_4_19) (fun _ _ => ⟨rfl, e137, (by decide : 1 + 0 ≤ _), (by decide : 6 + 0 ≤ _)⟩)
  dsimp only [Pt.U, Pt.locs, Pt.cells, Pt.slots] at X141 l141 y141 z141 st141 hQ141
  subst l141 y141 z141
  obtain ⟨rfl, Nq141, e141⟩ := hQ141
  have N141 := Fr.app N137 Nq141
  obtain ⟨cl142, Ar142, q142, S142, Ne142, H142, G142⟩ := id V137
  have hin142 : ¬ ((5 : Int32) < 0 ∨ cl142.slots.size ≤ ((5 : Int32)).toNatClampNeg) := inb_of S142 ⟨by decide, by decide⟩
  have f143 := (f136.wr W137)
  obtain ⟨T144, h144, X144, e144, W144, st144⟩ := stR X141 hx hZ e141 Ar142 (j := (5 : Int32)) hin142 rfl (Sto.ofV Ar142 q142 Ov102 (Ins.of_exa f143 (hw _ (List.mem_of_getElem? (i := 80) rfl)))) (g := (mkF m 22 #[.val (.ref a1), .val (.ref b102), .val (.int (5 : Int32))] [(.ref aX), (.int (5 : Int32)), (.ref b102)])) rfl rfl (hb hby d_jdk_56_method_4_22)
  have V144 : Arv Z h144 b102 k102 (.object "java/lang/Object") (6 : Int32) [(.ref aX), (.ref aX), (.ref aX), (.ref aX), (.ref aX), (.ref aX)] .null := Arv.set Ar142 q142 S142 Ne142 H142 G142 rfl W144 5 rfl (Nat.le_of_ble_eq_true rfl)
  have N144 := Fr.snoc X144 N141 g_b102
  have O144 := O137.wr W144 g_b102
  have K144 := K137.wr W144 (Or.inr sz_b102)
  have f145 := (f138.other W144 ne_a1_b102)
  obtain ⟨cl146, Ar146, -, S146, Ne146, -, -⟩ := id f145
  obtain ⟨T147, h147, X147, e147, E147, A147, D147, -, st147⟩ := newO X144 hx hZ hown (hw _ (List.mem_of_getElem? (i := 130) rfl)) (hw _ (List.mem_of_getElem? (i := 224) rfl)) (hw _ (List.mem_of_getElem? (i := 225) rfl)) e144 (g := (mkF m 29 #[.val (.ref a1), .val (.ref b102), .val (.int (6 : Int32))] [])) rfl (hb hby d_jdk_56_method_4_29) (by decide) (by decide)
  obtain ⟨b147, g147⟩ : ∃ z, z = h144.size := ⟨_, rfl⟩
  rw [← g147] at A147 D147 st147
  have g_b147 : n0 ≤ b147 := Nat.le_trans (own_szO O144) (Nat.le_of_eq g147.symm)
  have sz_b147 : h0.size ≤ b147 := Nat.le_trans K144.1 (Nat.le_of_eq g147.symm)
  have ne_a1_b147 : a1 ≠ b147 := Nat.ne_of_lt (Nat.lt_of_lt_of_le f145.lt (Nat.le_of_eq g147.symm))
  have f148 := (f143.wr W144)
  have ne_aX_b147 : aX ≠ b147 := Nat.ne_of_lt (Nat.lt_of_lt_of_le f148.lt (Nat.le_of_eq g147.symm))
  have f149 := ((((((Ex102.wr W109).wr W116).wr W123).wr W130).wr W137).wr W144)
  have ne_b102_b147 : b102 ≠ b147 := Nat.ne_of_lt (Nat.lt_of_lt_of_le f149.lt (Nat.le_of_eq g147.symm))
  have O147 := O144.ext E147
  have K147 := K144.ext E147
  have F147_elements : Fld Z h147 b147 "java/util/ImmutableCollections$ListN" "elements" "[Ljava/lang/Object;" .null := D147 (Or.inr (hw _ (List.mem_of_getElem? (i := 235) rfl))) (ty := (.array (.object "java/lang/Object"))) (by decide)
  have F147_allowNulls : Fld Z h147 b147 "java/util/ImmutableCollections$ListN" "allowNulls" "Z" (.int (0 : Int32)) := D147 (Or.inr (hw _ (List.mem_of_getElem? (i := 237) rfl))) (ty := .boolean) (by decide)
  obtain ⟨_, _, ⟨T150, L150, k150, n150⟩, -, X150, ⟨Lc150, hQ150, l150, y150, z150⟩, st150⟩ := X147.specialBackNest hx (y := (⟨"java/util/ImmutableCollections$ListN", "<init>", "([Ljava/lang/Object;Z)V"⟩ : MethodName)) rfl hown (own_mvMN hZ (hw _ (List.mem_of_getElem? (i := 226) rfl))) (mvT hZ (hw _ (List.mem_of_getElem? (i := 227) rfl))) (mvT hZ (hw _ (List.mem_of_getElem? (i := 229) rfl))) (by decide) (backOf (W := 1) (rm_ln l Z a0 hw [] b147 b102 (.null) ((.int (0 : Int32))) h147 n0 O147 A147 F147_elements F147_allowNulls g_b147) hZ (hw _ (List.mem_of_getElem? (i := 229) rfl)) (hw _ (List.mem_of_getElem? (i := 225) rfl)) (by decide) (by decide)) (g := (mkF m 35 #[.val (.ref a1), .val (.ref b102), .val (.int (6 : Int32))] [(.int (0 : Int32)), (.ref b102), (.ref b147), (.ref b147)])) rfl (by rw [hml]; rfl) (Steps.refl _) (a := b147) (argsL := [(.ref b102), (.int (0 : Int32))]) (rest := [(.ref b147)]) (lenOf pd_8 rfl) rfl (by show 2 * 0 + _ ≤ _; exact Nat.le_of_eq rfl) (hb hby d_jdk_56_method_4_35) (fun _ _ => ⟨rfl, e147, (by decide : 2 + 0 ≤ _), (by decide : 8 + 0 ≤ _)⟩)
  dsimp only [Pt.U, Pt.locs, Pt.cells, Pt.slots] at X150 l150 y150 z150 st150 hQ150
  subst l150 y150 z150
  obtain ⟨rfl, Nq150, Kq150, El150⟩ := hQ150
  have N150 := Fr.app N144 Nq150
  have O150 := O147.keep Kq150 (allS g_b147 all0)
  have K150 := K147.trans Kq150 (allS (Or.inr sz_b147) all0)
  obtain ⟨fs, hr, hrun, hended, hW, hsame⟩ := X150.leave (v := some (.ref b147)) (fun h => by rw [Bd.returns] at h; cases h)
  refine ⟨_, _, pre0 _ ?_, hrun, hended, _, _, rfl, ?_, ⟨_, rfl⟩, hW, hsame.mono (by decide) (by decide)⟩
  · show Steps p.tables e below (s₁.setTop (mkF m 0 #[.val (.ref a1), .unset, .unset] [])) _
    refine XS.aloadN X0.here hx rfl (hb hby d_jdk_56_method_4_0) rfl rfl ?_
    show Steps p.tables e below (s₁.setTop (mkF m 1 #[.val (.ref a1), .unset, .unset] [(.ref a1)])) _
    refine X0.arraylength hx (by rw [e0]; exact Ar101.1) (State.isArrayOf_alike hZ.alike Ar101.2.1) (g := (mkF m 1 #[.val (.ref a1), .unset, .unset] [(.ref a1)])) rfl rfl (hb hby d_jdk_56_method_4_1) _ ?_
    rw [len_of S101 Ne101]
    show Steps p.tables e below (s₁.setTop (mkF m 2 #[.val (.ref a1), .unset, .unset] [(.int (6 : Int32))])) _
    refine st102 _ ?_
    show Steps p.tables e below (T102.setTop (mkF m 5 #[.val (.ref a1), .unset, .unset] [(.ref b102)])) _
    refine XS.astoreN X102.here hx rfl (hb hby d_jdk_56_method_4_5) rfl rfl (l' := #[.val (.ref a1), .val (.ref b102), .unset]) rfl ?_
    refine XS.iconst X102.here hx rfl (hb hby d_jdk_56_method_4_6) ?_
    refine XS.istoreN X102.here hx rfl (hb hby d_jdk_56_method_4_7) rfl (l' := #[.val (.ref a1), .val (.ref b102), .val (.int (0 : Int32))]) rfl ?_
    refine XS.iloadN X102.here hx rfl (hb hby d_jdk_56_method_4_8) rfl ?_
    show Steps p.tables e below (T102.setTop (mkF m 9 #[.val (.ref a1), .val (.ref b102), .val (.int (0 : Int32))] [(.int (0 : Int32))])) _
    refine XS.aloadN X102.here hx rfl (hb hby d_jdk_56_method_4_9) rfl rfl ?_
    show Steps p.tables e below (T102.setTop (mkF m 10 #[.val (.ref a1), .val (.ref b102), .val (.int (0 : Int32))] [(.ref a1), (.int (0 : Int32))])) _
    refine X102.arraylength hx (by rw [e102]; exact Ar104.1) (State.isArrayOf_alike hZ.alike Ar104.2.1) (g := (mkF m 10 #[.val (.ref a1), .val (.ref b102), .val (.int (0 : Int32))] [(.ref a1), (.int (0 : Int32))])) rfl rfl (hb hby d_jdk_56_method_4_10) _ ?_
    rw [len_of S104 Ne104]
    show Steps p.tables e below (T102.setTop (mkF m 11 #[.val (.ref a1), .val (.ref b102), .val (.int (0 : Int32))] [(.int (6 : Int32)), (.int (0 : Int32))])) _
    refine XS.icmpNo X102.here hx rfl (hb hby d_jdk_56_method_4_11) rfl (tlt (by decide : (0 : Int32) < (6 : Int32))).2.1 ?_
    refine XS.aloadN X102.here hx rfl (hb hby d_jdk_56_method_4_14) rfl rfl ?_
    refine XS.iloadN X102.here hx rfl (hb hby d_jdk_56_method_4_15) rfl ?_
    refine XS.aloadN X102.here hx rfl (hb hby d_jdk_56_method_4_16) rfl rfl ?_
    show Steps p.tables e below (T102.setTop (mkF m 17 #[.val (.ref a1), .val (.ref b102), .val (.int (0 : Int32))] [(.ref a1), (.int (0 : Int32)), (.ref b102)])) _
    refine XS.iloadN X102.here hx rfl (hb hby d_jdk_56_method_4_17) rfl ?_
    show Steps p.tables e below (T102.setTop (mkF m 18 #[.val (.ref a1), .val (.ref b102), .val (.int (0 : Int32))] [(.int (0 : Int32)), (.ref a1), (.int (0 : Int32)), (.ref b102)])) _
    refine X102.aaload hx (j := (0 : Int32)) (v := (.ref aX)) (by rw [e102]; exact Ar105.1) (State.isArrayOf_alike hZ.alike Ar105.2.1) rfl Ar105.2.2 hin105 hat105 (g := (mkF m 18 #[.val (.ref a1), .val (.ref b102), .val (.int (0 : Int32))] [(.int (0 : Int32)), (.ref a1), (.int (0 : Int32)), (.ref b102)])) rfl rfl (hb hby d_jdk_56_method_4_18) _ ?_
    show Steps p.tables e below (T102.setTop (mkF m 19 #[.val (.ref a1), .val (.ref b102), .val (.int (0 : Int32))] [(.ref aX), (.int (0 : Int32)), (.ref b102)])) _
    refine st106 _ ?_
    show Steps p.tables e below (T106.setTop (mkF m 22 #[.val (.ref a1), .val (.ref b102), .val (.int (0 : Int32))] [(.ref aX), (.int (0 : Int32)), (.ref b102)])) _
    refine st109 _ ?_
    show Steps p.tables e below (T109.setTop (mkF m 23 #[.val (.ref a1), .val (.ref b102), .val (.int (0 : Int32))] [])) _
    refine XS.iinc X109.here hx rfl (hb hby d_jdk_56_method_4_23) rfl (l' := #[.val (.ref a1), .val (.ref b102), .val (.int ((0 : Int32) + (1 : Int32)))]) rfl ?_
    show Steps p.tables e below (T109.setTop (mkF m 26 #[.val (.ref a1), .val (.ref b102), .val (.int ((0 : Int32) + (1 : Int32)))] [])) _
    rw [show ((0 : Int32) + (1 : Int32)) = (1 : Int32) from (by decide)]
    show Steps p.tables e below (T109.setTop (mkF m 26 #[.val (.ref a1), .val (.ref b102), .val (.int (1 : Int32))] [])) _
    refine XS.goto X109.here hx rfl (pc0 := 26) (pc' := 8) rfl (hb hby d_jdk_56_method_4_26) (by decide) (by decide) ?_
    refine XS.iloadN X109.here hx rfl (hb hby d_jdk_56_method_4_8) rfl ?_
    refine XS.aloadN X109.here hx rfl (hb hby d_jdk_56_method_4_9) rfl rfl ?_
    show Steps p.tables e below (T109.setTop (mkF m 10 #[.val (.ref a1), .val (.ref b102), .val (.int (1 : Int32))] [(.ref a1), (.int (1 : Int32))])) _
    refine X109.arraylength hx (by rw [e109]; exact Ar111.1) (State.isArrayOf_alike hZ.alike Ar111.2.1) (g := (mkF m 10 #[.val (.ref a1), .val (.ref b102), .val (.int (1 : Int32))] [(.ref a1), (.int (1 : Int32))])) rfl rfl (hb hby d_jdk_56_method_4_10) _ ?_
    rw [len_of S111 Ne111]
    show Steps p.tables e below (T109.setTop (mkF m 11 #[.val (.ref a1), .val (.ref b102), .val (.int (1 : Int32))] [(.int (6 : Int32)), (.int (1 : Int32))])) _
    refine XS.icmpNo X109.here hx rfl (hb hby d_jdk_56_method_4_11) rfl (tlt (by decide : (1 : Int32) < (6 : Int32))).2.1 ?_
    refine XS.aloadN X109.here hx rfl (hb hby d_jdk_56_method_4_14) rfl rfl ?_
    refine XS.iloadN X109.here hx rfl (hb hby d_jdk_56_method_4_15) rfl ?_
    refine XS.aloadN X109.here hx rfl (hb hby d_jdk_56_method_4_16) rfl rfl ?_
    show Steps p.tables e below (T109.setTop (mkF m 17 #[.val (.ref a1), .val (.ref b102), .val (.int (1 : Int32))] [(.ref a1), (.int (1 : Int32)), (.ref b102)])) _
    refine XS.iloadN X109.here hx rfl (hb hby d_jdk_56_method_4_17) rfl ?_
    show Steps p.tables e below (T109.setTop (mkF m 18 #[.val (.ref a1), .val (.ref b102), .val (.int (1 : Int32))] [(.int (1 : Int32)), (.ref a1), (.int (1 : Int32)), (.ref b102)])) _
    refine X109.aaload hx (j := (1 : Int32)) (v := (.ref aX)) (by rw [e109]; exact Ar112.1) (State.isArrayOf_alike hZ.alike Ar112.2.1) rfl Ar112.2.2 hin112 hat112 (g := (mkF m 18 #[.val (.ref a1), .val (.ref b102), .val (.int (1 : Int32))] [(.int (1 : Int32)), (.ref a1), (.int (1 : Int32)), (.ref b102)])) rfl rfl (hb hby d_jdk_56_method_4_18) _ ?_
    show Steps p.tables e below (T109.setTop (mkF m 19 #[.val (.ref a1), .val (.ref b102), .val (.int (1 : Int32))] [(.ref aX), (.int (1 : Int32)), (.ref b102)])) _
    refine st113 _ ?_
    show Steps p.tables e below (T113.setTop (mkF m 22 #[.val (.ref a1), .val (.ref b102), .val (.int (1 : Int32))] [(.ref aX), (.int (1 : Int32)), (.ref b102)])) _
    refine st116 _ ?_
    show Steps p.tables e below (T116.setTop (mkF m 23 #[.val (.ref a1), .val (.ref b102), .val (.int (1 : Int32))] [])) _
    refine XS.iinc X116.here hx rfl (hb hby d_jdk_56_method_4_23) rfl (l' := #[.val (.ref a1), .val (.ref b102), .val (.int ((1 : Int32) + (1 : Int32)))]) rfl ?_
    show Steps p.tables e below (T116.setTop (mkF m 26 #[.val (.ref a1), .val (.ref b102), .val (.int ((1 : Int32) + (1 : Int32)))] [])) _
    rw [show ((1 : Int32) + (1 : Int32)) = (2 : Int32) from (by decide)]
    show Steps p.tables e below (T116.setTop (mkF m 26 #[.val (.ref a1), .val (.ref b102), .val (.int (2 : Int32))] [])) _
    refine XS.goto X116.here hx rfl (pc0 := 26) (pc' := 8) rfl (hb hby d_jdk_56_method_4_26) (by decide) (by decide) ?_
    refine XS.iloadN X116.here hx rfl (hb hby d_jdk_56_method_4_8) rfl ?_
    refine XS.aloadN X116.here hx rfl (hb hby d_jdk_56_method_4_9) rfl rfl ?_
    show Steps p.tables e below (T116.setTop (mkF m 10 #[.val (.ref a1), .val (.ref b102), .val (.int (2 : Int32))] [(.ref a1), (.int (2 : Int32))])) _
    refine X116.arraylength hx (by rw [e116]; exact Ar118.1) (State.isArrayOf_alike hZ.alike Ar118.2.1) (g := (mkF m 10 #[.val (.ref a1), .val (.ref b102), .val (.int (2 : Int32))] [(.ref a1), (.int (2 : Int32))])) rfl rfl (hb hby d_jdk_56_method_4_10) _ ?_
    rw [len_of S118 Ne118]
    show Steps p.tables e below (T116.setTop (mkF m 11 #[.val (.ref a1), .val (.ref b102), .val (.int (2 : Int32))] [(.int (6 : Int32)), (.int (2 : Int32))])) _
    refine XS.icmpNo X116.here hx rfl (hb hby d_jdk_56_method_4_11) rfl (tlt (by decide : (2 : Int32) < (6 : Int32))).2.1 ?_
    refine XS.aloadN X116.here hx rfl (hb hby d_jdk_56_method_4_14) rfl rfl ?_
    refine XS.iloadN X116.here hx rfl (hb hby d_jdk_56_method_4_15) rfl ?_
    refine XS.aloadN X116.here hx rfl (hb hby d_jdk_56_method_4_16) rfl rfl ?_
    show Steps p.tables e below (T116.setTop (mkF m 17 #[.val (.ref a1), .val (.ref b102), .val (.int (2 : Int32))] [(.ref a1), (.int (2 : Int32)), (.ref b102)])) _
    refine XS.iloadN X116.here hx rfl (hb hby d_jdk_56_method_4_17) rfl ?_
    show Steps p.tables e below (T116.setTop (mkF m 18 #[.val (.ref a1), .val (.ref b102), .val (.int (2 : Int32))] [(.int (2 : Int32)), (.ref a1), (.int (2 : Int32)), (.ref b102)])) _
    refine X116.aaload hx (j := (2 : Int32)) (v := (.ref aX)) (by rw [e116]; exact Ar119.1) (State.isArrayOf_alike hZ.alike Ar119.2.1) rfl Ar119.2.2 hin119 hat119 (g := (mkF m 18 #[.val (.ref a1), .val (.ref b102), .val (.int (2 : Int32))] [(.int (2 : Int32)), (.ref a1), (.int (2 : Int32)), (.ref b102)])) rfl rfl (hb hby d_jdk_56_method_4_18) _ ?_
    show Steps p.tables e below (T116.setTop (mkF m 19 #[.val (.ref a1), .val (.ref b102), .val (.int (2 : Int32))] [(.ref aX), (.int (2 : Int32)), (.ref b102)])) _
    refine st120 _ ?_
    show Steps p.tables e below (T120.setTop (mkF m 22 #[.val (.ref a1), .val (.ref b102), .val (.int (2 : Int32))] [(.ref aX), (.int (2 : Int32)), (.ref b102)])) _
    refine st123 _ ?_
    show Steps p.tables e below (T123.setTop (mkF m 23 #[.val (.ref a1), .val (.ref b102), .val (.int (2 : Int32))] [])) _
    refine XS.iinc X123.here hx rfl (hb hby d_jdk_56_method_4_23) rfl (l' := #[.val (.ref a1), .val (.ref b102), .val (.int ((2 : Int32) + (1 : Int32)))]) rfl ?_
    show Steps p.tables e below (T123.setTop (mkF m 26 #[.val (.ref a1), .val (.ref b102), .val (.int ((2 : Int32) + (1 : Int32)))] [])) _
    rw [show ((2 : Int32) + (1 : Int32)) = (3 : Int32) from (by decide)]
    show Steps p.tables e below (T123.setTop (mkF m 26 #[.val (.ref a1), .val (.ref b102), .val (.int (3 : Int32))] [])) _
    refine XS.goto X123.here hx rfl (pc0 := 26) (pc' := 8) rfl (hb hby d_jdk_56_method_4_26) (by decide) (by decide) ?_
    refine XS.iloadN X123.here hx rfl (hb hby d_jdk_56_method_4_8) rfl ?_
    refine XS.aloadN X123.here hx rfl (hb hby d_jdk_56_method_4_9) rfl rfl ?_
    show Steps p.tables e below (T123.setTop (mkF m 10 #[.val (.ref a1), .val (.ref b102), .val (.int (3 : Int32))] [(.ref a1), (.int (3 : Int32))])) _
    refine X123.arraylength hx (by rw [e123]; exact Ar125.1) (State.isArrayOf_alike hZ.alike Ar125.2.1) (g := (mkF m 10 #[.val (.ref a1), .val (.ref b102), .val (.int (3 : Int32))] [(.ref a1), (.int (3 : Int32))])) rfl rfl (hb hby d_jdk_56_method_4_10) _ ?_
    rw [len_of S125 Ne125]
    show Steps p.tables e below (T123.setTop (mkF m 11 #[.val (.ref a1), .val (.ref b102), .val (.int (3 : Int32))] [(.int (6 : Int32)), (.int (3 : Int32))])) _
    refine XS.icmpNo X123.here hx rfl (hb hby d_jdk_56_method_4_11) rfl (tlt (by decide : (3 : Int32) < (6 : Int32))).2.1 ?_
    refine XS.aloadN X123.here hx rfl (hb hby d_jdk_56_method_4_14) rfl rfl ?_
    refine XS.iloadN X123.here hx rfl (hb hby d_jdk_56_method_4_15) rfl ?_
    refine XS.aloadN X123.here hx rfl (hb hby d_jdk_56_method_4_16) rfl rfl ?_
    show Steps p.tables e below (T123.setTop (mkF m 17 #[.val (.ref a1), .val (.ref b102), .val (.int (3 : Int32))] [(.ref a1), (.int (3 : Int32)), (.ref b102)])) _
    refine XS.iloadN X123.here hx rfl (hb hby d_jdk_56_method_4_17) rfl ?_
    show Steps p.tables e below (T123.setTop (mkF m 18 #[.val (.ref a1), .val (.ref b102), .val (.int (3 : Int32))] [(.int (3 : Int32)), (.ref a1), (.int (3 : Int32)), (.ref b102)])) _
    refine X123.aaload hx (j := (3 : Int32)) (v := (.ref aX)) (by rw [e123]; exact Ar126.1) (State.isArrayOf_alike hZ.alike Ar126.2.1) rfl Ar126.2.2 hin126 hat126 (g := (mkF m 18 #[.val (.ref a1), .val (.ref b102), .val (.int (3 : Int32))] [(.int (3 : Int32)), (.ref a1), (.int (3 : Int32)), (.ref b102)])) rfl rfl (hb hby d_jdk_56_method_4_18) _ ?_
    show Steps p.tables e below (T123.setTop (mkF m 19 #[.val (.ref a1), .val (.ref b102), .val (.int (3 : Int32))] [(.ref aX), (.int (3 : Int32)), (.ref b102)])) _
    refine st127 _ ?_
    show Steps p.tables e below (T127.setTop (mkF m 22 #[.val (.ref a1), .val (.ref b102), .val (.int (3 : Int32))] [(.ref aX), (.int (3 : Int32)), (.ref b102)])) _
    refine st130 _ ?_
    show Steps p.tables e below (T130.setTop (mkF m 23 #[.val (.ref a1), .val (.ref b102), .val (.int (3 : Int32))] [])) _
    refine XS.iinc X130.here hx rfl (hb hby d_jdk_56_method_4_23) rfl (l' := #[.val (.ref a1), .val (.ref b102), .val (.int ((3 : Int32) + (1 : Int32)))]) rfl ?_
    show Steps p.tables e below (T130.setTop (mkF m 26 #[.val (.ref a1), .val (.ref b102), .val (.int ((3 : Int32) + (1 : Int32)))] [])) _
    rw [show ((3 : Int32) + (1 : Int32)) = (4 : Int32) from (by decide)]
    show Steps p.tables e below (T130.setTop (mkF m 26 #[.val (.ref a1), .val (.ref b102), .val (.int (4 : Int32))] [])) _
    refine XS.goto X130.here hx rfl (pc0 := 26) (pc' := 8) rfl (hb hby d_jdk_56_method_4_26) (by decide) (by decide) ?_
    refine XS.iloadN X130.here hx rfl (hb hby d_jdk_56_method_4_8) rfl ?_
    refine XS.aloadN X130.here hx rfl (hb hby d_jdk_56_method_4_9) rfl rfl ?_
    show Steps p.tables e below (T130.setTop (mkF m 10 #[.val (.ref a1), .val (.ref b102), .val (.int (4 : Int32))] [(.ref a1), (.int (4 : Int32))])) _
    refine X130.arraylength hx (by rw [e130]; exact Ar132.1) (State.isArrayOf_alike hZ.alike Ar132.2.1) (g := (mkF m 10 #[.val (.ref a1), .val (.ref b102), .val (.int (4 : Int32))] [(.ref a1), (.int (4 : Int32))])) rfl rfl (hb hby d_jdk_56_method_4_10) _ ?_
    rw [len_of S132 Ne132]
    show Steps p.tables e below (T130.setTop (mkF m 11 #[.val (.ref a1), .val (.ref b102), .val (.int (4 : Int32))] [(.int (6 : Int32)), (.int (4 : Int32))])) _
    refine XS.icmpNo X130.here hx rfl (hb hby d_jdk_56_method_4_11) rfl (tlt (by decide : (4 : Int32) < (6 : Int32))).2.1 ?_
    refine XS.aloadN X130.here hx rfl (hb hby d_jdk_56_method_4_14) rfl rfl ?_
    refine XS.iloadN X130.here hx rfl (hb hby d_jdk_56_method_4_15) rfl ?_
    refine XS.aloadN X130.here hx rfl (hb hby d_jdk_56_method_4_16) rfl rfl ?_
    show Steps p.tables e below (T130.setTop (mkF m 17 #[.val (.ref a1), .val (.ref b102), .val (.int (4 : Int32))] [(.ref a1), (.int (4 : Int32)), (.ref b102)])) _
    refine XS.iloadN X130.here hx rfl (hb hby d_jdk_56_method_4_17) rfl ?_
    show Steps p.tables e below (T130.setTop (mkF m 18 #[.val (.ref a1), .val (.ref b102), .val (.int (4 : Int32))] [(.int (4 : Int32)), (.ref a1), (.int (4 : Int32)), (.ref b102)])) _
    refine X130.aaload hx (j := (4 : Int32)) (v := (.ref aX)) (by rw [e130]; exact Ar133.1) (State.isArrayOf_alike hZ.alike Ar133.2.1) rfl Ar133.2.2 hin133 hat133 (g := (mkF m 18 #[.val (.ref a1), .val (.ref b102), .val (.int (4 : Int32))] [(.int (4 : Int32)), (.ref a1), (.int (4 : Int32)), (.ref b102)])) rfl rfl (hb hby d_jdk_56_method_4_18) _ ?_
    show Steps p.tables e below (T130.setTop (mkF m 19 #[.val (.ref a1), .val (.ref b102), .val (.int (4 : Int32))] [(.ref aX), (.int (4 : Int32)), (.ref b102)])) _
    refine st134 _ ?_
    show Steps p.tables e below (T134.setTop (mkF m 22 #[.val (.ref a1), .val (.ref b102), .val (.int (4 : Int32))] [(.ref aX), (.int (4 : Int32)), (.ref b102)])) _
    refine st137 _ ?_
    show Steps p.tables e below (T137.setTop (mkF m 23 #[.val (.ref a1), .val (.ref b102), .val (.int (4 : Int32))] [])) _
    refine XS.iinc X137.here hx rfl (hb hby d_jdk_56_method_4_23) rfl (l' := #[.val (.ref a1), .val (.ref b102), .val (.int ((4 : Int32) + (1 : Int32)))]) rfl ?_
    show Steps p.tables e below (T137.setTop (mkF m 26 #[.val (.ref a1), .val (.ref b102), .val (.int ((4 : Int32) + (1 : Int32)))] [])) _
    rw [show ((4 : Int32) + (1 : Int32)) = (5 : Int32) from (by decide)]
    show Steps p.tables e below (T137.setTop (mkF m 26 #[.val (.ref a1), .val (.ref b102), .val (.int (5 : Int32))] [])) _
    refine XS.goto X137.here hx rfl (pc0 := 26) (pc' := 8) rfl (hb hby d_jdk_56_method_4_26) (by decide) (by decide) ?_
    refine XS.iloadN X137.here hx rfl (hb hby d_jdk_56_method_4_8) rfl ?_
    refine XS.aloadN X137.here hx rfl (hb hby d_jdk_56_method_4_9) rfl rfl ?_
    show Steps p.tables e below (T137.setTop (mkF m 10 #[.val (.ref a1), .val (.ref b102), .val (.int (5 : Int32))] [(.ref a1), (.int (5 : Int32))])) _
    refine X137.arraylength hx (by rw [e137]; exact Ar139.1) (State.isArrayOf_alike hZ.alike Ar139.2.1) (g := (mkF m 10 #[.val (.ref a1), .val (.ref b102), .val (.int (5 : Int32))] [(.ref a1), (.int (5 : Int32))])) rfl rfl (hb hby d_jdk_56_method_4_10) _ ?_
    rw [len_of S139 Ne139]
    show Steps p.tables e below (T137.setTop (mkF m 11 #[.val (.ref a1), .val (.ref b102), .val (.int (5 : Int32))] [(.int (6 : Int32)), (.int (5 : Int32))])) _
    refine XS.icmpNo X137.here hx rfl (hb hby d_jdk_56_method_4_11) rfl (tlt (by decide : (5 : Int32) < (6 : Int32))).2.1 ?_
    refine XS.aloadN X137.here hx rfl (hb hby d_jdk_56_method_4_14) rfl rfl ?_
    refine XS.iloadN X137.here hx rfl (hb hby d_jdk_56_method_4_15) rfl ?_
    refine XS.aloadN X137.here hx rfl (hb hby d_jdk_56_method_4_16) rfl rfl ?_
    show Steps p.tables e below (T137.setTop (mkF m 17 #[.val (.ref a1), .val (.ref b102), .val (.int (5 : Int32))] [(.ref a1), (.int (5 : Int32)), (.ref b102)])) _
    refine XS.iloadN X137.here hx rfl (hb hby d_jdk_56_method_4_17) rfl ?_
    show Steps p.tables e below (T137.setTop (mkF m 18 #[.val (.ref a1), .val (.ref b102), .val (.int (5 : Int32))] [(.int (5 : Int32)), (.ref a1), (.int (5 : Int32)), (.ref b102)])) _
    refine X137.aaload hx (j := (5 : Int32)) (v := (.ref aX)) (by rw [e137]; exact Ar140.1) (State.isArrayOf_alike hZ.alike Ar140.2.1) rfl Ar140.2.2 hin140 hat140 (g := (mkF m 18 #[.val (.ref a1), .val (.ref b102), .val (.int (5 : Int32))] [(.int (5 : Int32)), (.ref a1), (.int (5 : Int32)), (.ref b102)])) rfl rfl (hb hby d_jdk_56_method_4_18) _ ?_
    show Steps p.tables e below (T137.setTop (mkF m 19 #[.val (.ref a1), .val (.ref b102), .val (.int (5 : Int32))] [(.ref aX), (.int (5 : Int32)), (.ref b102)])) _
    refine st141 _ ?_
    show Steps p.tables e below (T141.setTop (mkF m 22 #[.val (.ref a1), .val (.ref b102), .val (.int (5 : Int32))] [(.ref aX), (.int (5 : Int32)), (.ref b102)])) _
    refine st144 _ ?_
    show Steps p.tables e below (T144.setTop (mkF m 23 #[.val (.ref a1), .val (.ref b102), .val (.int (5 : Int32))] [])) _
    refine XS.iinc X144.here hx rfl (hb hby d_jdk_56_method_4_23) rfl (l' := #[.val (.ref a1), .val (.ref b102), .val (.int ((5 : Int32) + (1 : Int32)))]) rfl ?_
    show Steps p.tables e below (T144.setTop (mkF m 26 #[.val (.ref a1), .val (.ref b102), .val (.int ((5 : Int32) + (1 : Int32)))] [])) _
    rw [show ((5 : Int32) + (1 : Int32)) = (6 : Int32) from (by decide)]
    show Steps p.tables e below (T144.setTop (mkF m 26 #[.val (.ref a1), .val (.ref b102), .val (.int (6 : Int32))] [])) _
    refine XS.goto X144.here hx rfl (pc0 := 26) (pc' := 8) rfl (hb hby d_jdk_56_method_4_26) (by decide) (by decide) ?_
    refine XS.iloadN X144.here hx rfl (hb hby d_jdk_56_method_4_8) rfl ?_
    refine XS.aloadN X144.here hx rfl (hb hby d_jdk_56_method_4_9) rfl rfl ?_
    show Steps p.tables e below (T144.setTop (mkF m 10 #[.val (.ref a1), .val (.ref b102), .val (.int (6 : Int32))] [(.ref a1), (.int (6 : Int32))])) _
    refine X144.arraylength hx (by rw [e144]; exact Ar146.1) (State.isArrayOf_alike hZ.alike Ar146.2.1) (g := (mkF m 10 #[.val (.ref a1), .val (.ref b102), .val (.int (6 : Int32))] [(.ref a1), (.int (6 : Int32))])) rfl rfl (hb hby d_jdk_56_method_4_10) _ ?_
    rw [len_of S146 Ne146]
    show Steps p.tables e below (T144.setTop (mkF m 11 #[.val (.ref a1), .val (.ref b102), .val (.int (6 : Int32))] [(.int (6 : Int32)), (.int (6 : Int32))])) _
    refine XS.icmpYes X144.here hx rfl (pc0 := 11) (pc' := 29) rfl (hb hby d_jdk_56_method_4_11) rfl (flt (by decide : ¬ ((6 : Int32) < (6 : Int32)))).2.1 (by decide) (by decide) ?_
    show Steps p.tables e below (T144.setTop (mkF m 29 #[.val (.ref a1), .val (.ref b102), .val (.int (6 : Int32))] [])) _
    refine st147 _ ?_
    show Steps p.tables e below (T147.setTop (mkF m 32 #[.val (.ref a1), .val (.ref b102), .val (.int (6 : Int32))] [(.ref b147)])) _
    refine XS.dup X147.here hx rfl (hb hby d_jdk_56_method_4_32) rfl rfl ?_
    refine XS.aloadN X147.here hx rfl (hb hby d_jdk_56_method_4_33) rfl rfl ?_
    refine XS.iconst X147.here hx rfl (hb hby d_jdk_56_method_4_34) ?_
    show Steps p.tables e below (T147.setTop (mkF m 35 #[.val (.ref a1), .val (.ref b102), .val (.int (6 : Int32))] [(.int (0 : Int32)), (.ref b102), (.ref b147), (.ref b147)])) _
    refine st150.trans ?_
    show Steps p.tables e below (T150.setTop (mkF m 38 #[.val (.ref a1), .val (.ref b102), .val (.int (6 : Int32))] [(.ref b147)])) _
    exact retOut X150 hx (t := (.object "java/util/List")) (i := .areturn) Bd.returns rfl (Or.inr (Or.inr (Or.inr (Or.inr ⟨rfl, rfl, rfl⟩)))) (hb hby d_jdk_56_method_4_38) hr
  · show Q_lf6 Z a1 k1 aX h0 n0 _ T150.heap _
    exact ⟨b147, rfl, N150, K150⟩
theorem ef_lf7 (m : MethodId) (a1 : Addr) : entryFrame m #[(.ref a1)] 3 = mkF m 0 #[.val (.ref a1), .unset, .unset] [] := by first | (simp [entryFrame, mkF, argsToLocals, Value.category]; done) | rfl
def Q_lf7 (Z : State) (a1 : Addr) (k1 : ClassId) (aX : Addr) (h0 : Heap) (n0 : Nat) (v : Option Value) (h : Heap) (L : List Loc) : Prop := ∃ (bb : Addr), v = some (.ref bb) ∧ Fr n0 L ∧ Keep h0 h []
set_option maxRecDepth 65536 in
set_option maxHeartbeats 40000000 in
theorem rm_lf7 (l : Launch) (Z : State) (a0 : Array Value) (hw : ∀ d ∈ tables_1, d.before a0 Z = true) (ws : List Jvm.Cond) (a1 : Addr) (k1 : ClassId) (aX : Addr) (h0 : Heap) (n0 : Nat) (O0 : Old Z n0 h0) (VA : Arv Z h0 a1 k1 (.object "java/lang/Object") (7 : Int32) [(.ref aX), (.ref aX), (.ref aX), (.ref aX), (.ref aX), (.ref aX), (.ref aX)] .null) (EX : Exa Z h0 aX "com/example/jitney/jitney/Instance$Node") (gA : n0 ≤ a1) (gX : n0 ≤ aX) :
    MetFree l (⟨"java/util/ImmutableCollections", "listFromArray", "([Ljava/lang/Object;)Ljava/util/List;"⟩ : MethodName) (head1 (Jvm.Cond.code (⟨"java/util/ImmutableCollections", "listFromArray", "([Ljava/lang/Object;)Ljava/util/List;"⟩ : MethodName) jdk_56_method_4_code 3 (some (.object "java/util/List")) :: ws) ({ frames := 5, cells := 2, slots := 10, locals := 63 } : Room)) (fun a U => a = #[(.ref a1)] ∧ Z.Warmed39 U.vm ∧ U.heap = h0) (fun _ _ _ _ _ => True) (fun _ U o U' => ∃ v L, o = .returned v ∧ Q_lf7 Z a1 k1 aX h0 n0 v U'.heap L ∧ FrameEnd U o U' L ({ frames := 5, cells := 2, slots := 10, locals := 63 } : Room).cells ({ frames := 5, cells := 2, slots := 10, locals := 63 } : Room).slots) := by
  refine MetFree.of_bodySF (plainFor_of_name pn_11) hisR ?_
  intro p e s m args below meth c s₁ Bd hml0 hP hK
  obtain ⟨rfl, hZ, hh⟩ := hP
  have hx := Bd.exec
  have hby := Bd.bytes
  have hml : c.maxLocals = 3 := hml0
  have hown : s.vm.findClass "java/util/ImmutableCollections" = some m.cls := findClass_of_methodNamed Bd.named
  have hnm := (name_of_methodNamed Bd.named Bd.method).1
  have X0 : Stand p l e ({ frames := 5, cells := 2, slots := 10, locals := 63 } : Room) s m #[(.ref a1)] below meth c s₁ [] 0 0 := Stand.of_body Bd
  have e0 : s₁.heap = h0 := by rw [← hh, Bd.state]; rfl
  have N0 := Fr.nil n0
  have K0 : Keep h0 h0 [] := Keep.refl _ _
  have pre0 : ∀ t, Steps p.tables e below (s₁.setTop (mkF m 0 #[.val (.ref a1), .unset, .unset] [])) t → Steps p.tables e below (s₁.setTop (entryFrame m #[(.ref a1)] 3)) t := fun t k => castTop (ef_lf7 m a1) k
  obtain ⟨cl101, Ar101, -, S101, Ne101, -, -⟩ := id VA
  obtain ⟨T102, h102, k102, X102, e102, E102, A102, Ex102, Ov102, st102⟩ := newRE X0 hx hZ hown (hw _ (List.mem_of_getElem? (i := 222) rfl)) (hw _ (List.mem_of_getElem? (i := 79) rfl)) e0 (g := (mkF m 2 #[.val (.ref a1), .unset, .unset] [(.int (7 : Int32))])) rfl (hb hby d_jdk_56_method_4_2) rfl (by decide) (cap := 7) (by decide) (by decide) (by decide) (by decide) (ad := "[Ljava/lang/Object;") rfl
  obtain ⟨b102, g102⟩ : ∃ z, z = h0.size := ⟨_, rfl⟩
  rw [← g102] at A102 Ex102 st102
  have g_b102 : n0 ≤ b102 := Nat.le_trans (own_szO O0) (Nat.le_of_eq g102.symm)
  have sz_b102 : h0.size ≤ b102 := Nat.le_trans K0.1 (Nat.le_of_eq g102.symm)
  have ne_a1_b102 : a1 ≠ b102 := Nat.ne_of_lt (Nat.lt_of_lt_of_le VA.lt (Nat.le_of_eq g102.symm))
  have ne_aX_b102 : aX ≠ b102 := Nat.ne_of_lt (Nat.lt_of_lt_of_le EX.lt (Nat.le_of_eq g102.symm))
  have O102 := O0.ext E102
  have K102 := K0.ext E102
  have V102 : Arv Z h102 b102 k102 (.object "java/lang/Object") (7 : Int32) [.null, .null, .null, .null, .null, .null, .null] .null := (Arv.new A102 (by decide)).pad (pad_rep [] .null 7)
  have f103 := (VA.ext E102)
  obtain ⟨cl104, Ar104, -, S104, Ne104, -, -⟩ := id f103
  obtain ⟨cl105, Ar105, q105, S105, Ne105, H105, G105⟩ := id f103
  have hin105 : ¬ ((0 : Int32) < 0 ∨ cl105.slots.size ≤ ((0 : Int32)).toNatClampNeg) := inb_of S105 ⟨by decide, by decide⟩
  have hat105 : cl105.slots[((0 : Int32)).toNatClampNeg]? = some (.ref aX) := H105.at hin105 rfl
  obtain ⟨_, _, ⟨T106, L106, k106, n106⟩, -, X106, ⟨Lc106, hQ106, l106, y106, z106⟩, st106⟩ := Jvm.LawKit.callS X102 hx (y := (⟨"java/util/Objects", "requireNonNull", "(Ljava/lang/Object;)Ljava/lang/Object;"⟩ : MethodName)) hown (mvT hZ (hw _ (List.mem_of_getElem? (i := 223) rfl))) (mvT hZ (hw _ (List.mem_of_getElem? (i := 191) rfl))) (mvT hZ (hw _ (List.mem_of_getElem? (i := 192) rfl))) (mvT hZ (hw _ (List.mem_of_getElem? (i := 193) rfl))) (by decide) (backOf (W := 2) (rm_rn l Z a0 hw [] aX h102 n0 O102 ) hZ (hw _ (List.mem_of_getElem? (i := 193) rfl)) (hw _ (List.mem_of_getElem? (i := 192) rfl)) (by decide) (by decide)) (g := (mkF m 19 #[.val (.ref a1), .val (.ref b102), .val (.int (0 : Int32))] [(.ref aX), (.int (0 : Int32)), (.ref b102)])) rfl (by rw [hml]; rfl) (argsL := [(.ref aX)]) (rest := [(.int (0 : Int32)), (.ref b102)]) (lenOf pd_7 rfl) rfl (by show 2 * 0 + _ ≤ _; exact Nat.le_of_eq rfl) (hb hby d_jdk_56_method_4_19) (fun _ _ => ⟨rfl, e102, (by decide : 1 + 0 ≤ _), (by decide : 7 + 0 ≤ _)⟩)
  dsimp only [Pt.U, Pt.locs, Pt.cells, Pt.slots] at X106 l106 y106 z106 st106 hQ106
  subst l106 y106 z106
  obtain ⟨rfl, Nq106, e106⟩ := hQ106
  have N106 := Fr.app N0 Nq106
  obtain ⟨cl107, Ar107, q107, S107, Ne107, H107, G107⟩ := id V102
  have hin107 : ¬ ((0 : Int32) < 0 ∨ cl107.slots.size ≤ ((0 : Int32)).toNatClampNeg) := inb_of S107 ⟨by decide, by decide⟩
  have f108 := (EX.ext E102)
  obtain ⟨T109, h109, X109, e109, W109, st109⟩ := stR X106 hx hZ e106 Ar107 (j := (0 : Int32)) hin107 rfl (Sto.ofV Ar107 q107 Ov102 (Ins.of_exa f108 (hw _ (List.mem_of_getElem? (i := 80) rfl)))) (g := (mkF m 22 #[.val (.ref a1), .val (.ref b102), .val (.int (0 : Int32))] [(.ref aX), (.int (0 : Int32)), (.ref b102)])) rfl rfl (hb hby d_jdk_56_method_4_22)
  have V109 : Arv Z h109 b102 k102 (.object "java/lang/Object") (7 : Int32) [(.ref aX), .null, .null, .null, .null, .null, .null] .null := Arv.set Ar107 q107 S107 Ne107 H107 G107 rfl W109 0 rfl (Nat.le_of_ble_eq_true rfl)
  have N109 := Fr.snoc X109 N106 g_b102
  have O109 := O102.wr W109 g_b102
  have K109 := K102.wr W109 (Or.inr sz_b102)
  have f110 := (f103.other W109 ne_a1_b102)
  obtain ⟨cl111, Ar111, -, S111, Ne111, -, -⟩ := id f110
  obtain ⟨cl112, Ar112, q112, S112, Ne112, H112, G112⟩ := id f110
  have hin112 : ¬ ((1 : Int32) < 0 ∨ cl112.slots.size ≤ ((1 : Int32)).toNatClampNeg) := inb_of S112 ⟨by decide, by decide⟩
  have hat112 : cl112.slots[((1 : Int32)).toNatClampNeg]? = some (.ref aX) := H112.at hin112 rfl
  obtain ⟨_, _, ⟨T113, L113, k113, n113⟩, -, X113, ⟨Lc113, hQ113, l113, y113, z113⟩, st113⟩ := Jvm.LawKit.callS X109 hx (y := (⟨"java/util/Objects", "requireNonNull", "(Ljava/lang/Object;)Ljava/lang/Object;"⟩ : MethodName)) hown (mvT hZ (hw _ (List.mem_of_getElem? (i := 223) rfl))) (mvT hZ (hw _ (List.mem_of_getElem? (i := 191) rfl))) (mvT hZ (hw _ (List.mem_of_getElem? (i := 192) rfl))) (mvT hZ (hw _ (List.mem_of_getElem? (i := 193) rfl))) (by decide) (backOf (W := 2) (rm_rn l Z a0 hw [] aX h109 n0 O109 ) hZ (hw _ (List.mem_of_getElem? (i := 193) rfl)) (hw _ (List.mem_of_getElem? (i := 192) rfl)) (by decide) (by decide)) (g := (mkF m 19 #[.val (.ref a1), .val (.ref b102), .val (.int (1 : Int32))] [(.ref aX), (.int (1 : Int32)), (.ref b102)])) rfl (by rw [hml]; rfl) (argsL := [(.ref aX)]) (rest := [(.int (1 : Int32)), (.ref b102)]) (lenOf pd_7 rfl) rfl (by show 2 * 0 + _ ≤ _; exact Nat.le_of_eq rfl) (hb hby d_jdk_56_method_4_19) (fun _ _ => ⟨rfl, e109, (by decide : 1 + 0 ≤ _), (by decide : 7 + 0 ≤ _)⟩)
  dsimp only [Pt.U, Pt.locs, Pt.cells, Pt.slots] at X113 l113 y113 z113 st113 hQ113
  subst l113 y113 z113
  obtain ⟨rfl, Nq113, e113⟩ := hQ113
  have N113 := Fr.app N109 Nq113
  obtain ⟨cl114, Ar114, q114, S114, Ne114, H114, G114⟩ := id V109
  have hin114 : ¬ ((1 : Int32) < 0 ∨ cl114.slots.size ≤ ((1 : Int32)).toNatClampNeg) := inb_of S114 ⟨by decide, by decide⟩
  have f115 := (f108.wr W109)
  obtain ⟨T116, h116, X116, e116, W116, st116⟩ := stR X113 hx hZ e113 Ar114 (j := (1 : Int32)) hin114 rfl (Sto.ofV Ar114 q114 Ov102 (Ins.of_exa f115 (hw _ (List.mem_of_getElem? (i := 80) rfl)))) (g := (mkF m 22 #[.val (.ref a1), .val (.ref b102), .val (.int (1 : Int32))] [(.ref aX), (.int (1 : Int32)), (.ref b102)])) rfl rfl (hb hby d_jdk_56_method_4_22)
  have V116 : Arv Z h116 b102 k102 (.object "java/lang/Object") (7 : Int32) [(.ref aX), (.ref aX), .null, .null, .null, .null, .null] .null := Arv.set Ar114 q114 S114 Ne114 H114 G114 rfl W116 1 rfl (Nat.le_of_ble_eq_true rfl)
  have N116 := Fr.snoc X116 N113 g_b102
  have O116 := O109.wr W116 g_b102
  have K116 := K109.wr W116 (Or.inr sz_b102)
  have f117 := (f110.other W116 ne_a1_b102)
  obtain ⟨cl118, Ar118, -, S118, Ne118, -, -⟩ := id f117
  obtain ⟨cl119, Ar119, q119, S119, Ne119, H119, G119⟩ := id f117
  have hin119 : ¬ ((2 : Int32) < 0 ∨ cl119.slots.size ≤ ((2 : Int32)).toNatClampNeg) := inb_of S119 ⟨by decide, by decide⟩
  have hat119 : cl119.slots[((2 : Int32)).toNatClampNeg]? = some (.ref aX) := H119.at hin119 rfl
  obtain ⟨_, _, ⟨T120, L120, k120, n120⟩, -, X120, ⟨Lc120, hQ120, l120, y120, z120⟩, st120⟩ := Jvm.LawKit.callS X116 hx (y := (⟨"java/util/Objects", "requireNonNull", "(Ljava/lang/Object;)Ljava/lang/Object;"⟩ : MethodName)) hown (mvT hZ (hw _ (List.mem_of_getElem? (i := 223) rfl))) (mvT hZ (hw _ (List.mem_of_getElem? (i := 191) rfl))) (mvT hZ (hw _ (List.mem_of_getElem? (i := 192) rfl))) (mvT hZ (hw _ (List.mem_of_getElem? (i := 193) rfl))) (by decide) (backOf (W := 2) (rm_rn l Z a0 hw [] aX h116 n0 O116 ) hZ (hw _ (List.mem_of_getElem? (i := 193) rfl)) (hw _ (List.mem_of_getElem? (i := 192) rfl)) (by decide) (by decide)) (g := (mkF m 19 #[.val (.ref a1), .val (.ref b102), .val (.int (2 : Int32))] [(.ref aX), (.int (2 : Int32)), (.ref b102)])) rfl (by rw [hml]; rfl) (argsL := [(.ref aX)]) (rest := [(.int (2 : Int32)), (.ref b102)]) (lenOf pd_7 rfl) rfl (by show 2 * 0 + _ ≤ _; exact Nat.le_of_eq rfl) (hb hby d_jdk_56_method_4_19) (fun _ _ => ⟨rfl, e116, (by decide : 1 + 0 ≤ _), (by decide : 7 + 0 ≤ _)⟩)
  dsimp only [Pt.U, Pt.locs, Pt.cells, Pt.slots] at X120 l120 y120 z120 st120 hQ120
  subst l120 y120 z120
  obtain ⟨rfl, Nq120, e120⟩ := hQ120
  have N120 := Fr.app N116 Nq120
  obtain ⟨cl121, Ar121, q121, S121, Ne121, H121, G121⟩ := id V116
  have hin121 : ¬ ((2 : Int32) < 0 ∨ cl121.slots.size ≤ ((2 : Int32)).toNatClampNeg) := inb_of S121 ⟨by decide, by decide⟩
  have f122 := (f115.wr W116)
  obtain ⟨T123, h123, X123, e123, W123, st123⟩ := stR X120 hx hZ e120 Ar121 (j := (2 : Int32)) hin121 rfl (Sto.ofV Ar121 q121 Ov102 (Ins.of_exa f122 (hw _ (List.mem_of_getElem? (i := 80) rfl)))) (g := (mkF m 22 #[.val (.ref a1), .val (.ref b102), .val (.int (2 : Int32))] [(.ref aX), (.int (2 : Int32)), (.ref b102)])) rfl rfl (hb hby d_jdk_56_method_4_22)
  have V123 : Arv Z h123 b102 k102 (.object "java/lang/Object") (7 : Int32) [(.ref aX), (.ref aX), (.ref aX), .null, .null, .null, .null] .null := Arv.set Ar121 q121 S121 Ne121 H121 G121 rfl W123 2 rfl (Nat.le_of_ble_eq_true rfl)
  have N123 := Fr.snoc X123 N120 g_b102
  have O123 := O116.wr W123 g_b102
  have K123 := K116.wr W123 (Or.inr sz_b102)
  have f124 := (f117.other W123 ne_a1_b102)
  obtain ⟨cl125, Ar125, -, S125, Ne125, -, -⟩ := id f124
  obtain ⟨cl126, Ar126, q126, S126, Ne126, H126, G126⟩ := id f124
  have hin126 : ¬ ((3 : Int32) < 0 ∨ cl126.slots.size ≤ ((3 : Int32)).toNatClampNeg) := inb_of S126 ⟨by decide, by decide⟩
  have hat126 : cl126.slots[((3 : Int32)).toNatClampNeg]? = some (.ref aX) := H126.at hin126 rfl
  obtain ⟨_, _, ⟨T127, L127, k127, n127⟩, -, X127, ⟨Lc127, hQ127, l127, y127, z127⟩, st127⟩ := Jvm.LawKit.callS X123 hx (y := (⟨"java/util/Objects", "requireNonNull", "(Ljava/lang/Object;)Ljava/lang/Object;"⟩ : MethodName)) hown (mvT hZ (hw _ (List.mem_of_getElem? (i := 223) rfl))) (mvT hZ (hw _ (List.mem_of_getElem? (i := 191) rfl))) (mvT hZ (hw _ (List.mem_of_getElem? (i := 192) rfl))) (mvT hZ (hw _ (List.mem_of_getElem? (i := 193) rfl))) (by decide) (backOf (W := 2) (rm_rn l Z a0 hw [] aX h123 n0 O123 ) hZ (hw _ (List.mem_of_getElem? (i := 193) rfl)) (hw _ (List.mem_of_getElem? (i := 192) rfl)) (by decide) (by decide)) (g := (mkF m 19 #[.val (.ref a1), .val (.ref b102), .val (.int (3 : Int32))] [(.ref aX), (.int (3 : Int32)), (.ref b102)])) rfl (by rw [hml]; rfl) (argsL := [(.ref aX)]) (rest := [(.int (3 : Int32)), (.ref b102)]) (lenOf pd_7 rfl) rfl (by show 2 * 0 + _ ≤ _; exact Nat.le_of_eq rfl) (hb hby d_jdk_56_method_4_19) (fun _ _ => ⟨rfl, e123, (by decide : 1 + 0 ≤ _), (by decide : 7 + 0 ≤ _)⟩)
  dsimp only [Pt.U, Pt.locs, Pt.cells, Pt.slots] at X127 l127 y127 z127 st127 hQ127
  subst l127 y127 z127
  obtain ⟨rfl, Nq127, e127⟩ := hQ127
  have N127 := Fr.app N123 Nq127
  obtain ⟨cl128, Ar128, q128, S128, Ne128, H128, G128⟩ := id V123
  have hin128 : ¬ ((3 : Int32) < 0 ∨ cl128.slots.size ≤ ((3 : Int32)).toNatClampNeg) := inb_of S128 ⟨by decide, by decide⟩
  have f129 := (f122.wr W123)
  obtain ⟨T130, h130, X130, e130, W130, st130⟩ := stR X127 hx hZ e127 Ar128 (j := (3 : Int32)) hin128 rfl (Sto.ofV Ar128 q128 Ov102 (Ins.of_exa f129 (hw _ (List.mem_of_getElem? (i := 80) rfl)))) (g := (mkF m 22 #[.val (.ref a1), .val (.ref b102), .val (.int (3 : Int32))] [(.ref aX), (.int (3 : Int32)), (.ref b102)])) rfl rfl (hb hby d_jdk_56_method_4_22)
  have V130 : Arv Z h130 b102 k102 (.object "java/lang/Object") (7 : Int32) [(.ref aX), (.ref aX), (.ref aX), (.ref aX), .null, .null, .null] .null := Arv.set Ar128 q128 S128 Ne128 H128 G128 rfl W130 3 rfl (Nat.le_of_ble_eq_true rfl)
  have N130 := Fr.snoc X130 N127 g_b102
  have O130 := O123.wr W130 g_b102
  have K130 := K123.wr W130 (Or.inr sz_b102)
  have f131 := (f124.other W130 ne_a1_b102)
  obtain ⟨cl132, Ar132, -, S132, Ne132, -, -⟩ := id f131
  obtain ⟨cl133, Ar133, q133, S133, Ne133, H133, G133⟩ := id f131
  have hin133 : ¬ ((4 : Int32) < 0 ∨ cl133.slots.size ≤ ((4 : Int32)).toNatClampNeg) := inb_of S133 ⟨by decide, by decide⟩
  have hat133 : cl133.slots[((4 : Int32)).toNatClampNeg]? = some (.ref aX) := H133.at hin133 rfl
  obtain ⟨_, _, ⟨T134, L134, k134, n134⟩, -, X134, ⟨Lc134, hQ134, l134, y134, z134⟩, st134⟩ := Jvm.LawKit.callS X130 hx (y := (⟨"java/util/Objects", "requireNonNull", "(Ljava/lang/Object;)Ljava/lang/Object;"⟩ : MethodName)) hown (mvT hZ (hw _ (List.mem_of_getElem? (i := 223) rfl))) (mvT hZ (hw _ (List.mem_of_getElem? (i := 191) rfl))) (mvT hZ (hw _ (List.mem_of_getElem? (i := 192) rfl))) (mvT hZ (hw _ (List.mem_of_getElem? (i := 193) rfl))) (by decide) (backOf (W := 2) (rm_rn l Z a0 hw [] aX h130 n0 O130 ) hZ (hw _ (List.mem_of_getElem? (i := 193) rfl)) (hw _ (List.mem_of_getElem? (i := 192) rfl)) (by decide) (by decide)) (g := (mkF m 19 #[.val (.ref a1), .val (.ref b102), .val (.int (4 : Int32))] [(.ref aX), (.int (4 : Int32)), (.ref b102)])) rfl (by rw [hml]; rfl) (argsL := [(.ref aX)]) (rest := [(.int (4 : Int32)), (.ref b102)]) (lenOf pd_7 rfl) rfl (by show 2 * 0 + _ ≤ _; exact Nat.le_of_eq rfl) (hb hby d_jdk_56_method_4_19) (fun _ _ => ⟨rfl, e130, (by decide : 1 + 0 ≤ _), (by decide : 7 + 0 ≤ _)⟩)
  dsimp only [Pt.U, Pt.locs, Pt.cells, Pt.slots] at X134 l134 y134 z134 st134 hQ134
  subst l134 y134 z134
  obtain ⟨rfl, Nq134, e134⟩ := hQ134
  have N134 := Fr.app N130 Nq134
  obtain ⟨cl135, Ar135, q135, S135, Ne135, H135, G135⟩ := id V130
  have hin135 : ¬ ((4 : Int32) < 0 ∨ cl135.slots.size ≤ ((4 : Int32)).toNatClampNeg) := inb_of S135 ⟨by decide, by decide⟩
  have f136 := (f129.wr W130)
  obtain ⟨T137, h137, X137, e137, W137, st137⟩ := stR X134 hx hZ e134 Ar135 (j := (4 : Int32)) hin135 rfl (Sto.ofV Ar135 q135 Ov102 (Ins.of_exa f136 (hw _ (List.mem_of_getElem? (i := 80) rfl)))) (g := (mkF m 22 #[.val (.ref a1), .val (.ref b102), .val (.int (4 : Int32))] [(.ref aX), (.int (4 : Int32)), (.ref b102)])) rfl rfl (hb hby d_jdk_56_method_4_22)
  have V137 : Arv Z h137 b102 k102 (.object "java/lang/Object") (7 : Int32) [(.ref aX), (.ref aX), (.ref aX), (.ref aX), (.ref aX), .null, .null] .null := Arv.set Ar135 q135 S135 Ne135 H135 G135 rfl W137 4 rfl (Nat.le_of_ble_eq_true rfl)
  have N137 := Fr.snoc X137 N134 g_b102
  have O137 := O130.wr W137 g_b102
  have K137 := K130.wr W137 (Or.inr sz_b102)
  have f138 := (f131.other W137 ne_a1_b102)
  obtain ⟨cl139, Ar139, -, S139, Ne139, -, -⟩ := id f138
  obtain ⟨cl140, Ar140, q140, S140, Ne140, H140, G140⟩ := id f138
  have hin140 : ¬ ((5 : Int32) < 0 ∨ cl140.slots.size ≤ ((5 : Int32)).toNatClampNeg) := inb_of S140 ⟨by decide, by decide⟩
  have hat140 : cl140.slots[((5 : Int32)).toNatClampNeg]? = some (.ref aX) := H140.at hin140 rfl
  obtain ⟨_, _, ⟨T141, L141, k141, n141⟩, -, X141, ⟨Lc141, hQ141, l141, y141, z141⟩, st141⟩ := Jvm.LawKit.callS X137 hx (y := (⟨"java/util/Objects", "requireNonNull", "(Ljava/lang/Object;)Ljava/lang/Object;"⟩ : MethodName)) hown (mvT hZ (hw _ (List.mem_of_getElem? (i := 223) rfl))) (mvT hZ (hw _ (List.mem_of_getElem? (i := 191) rfl))) (mvT hZ (hw _ (List.mem_of_getElem? (i := 192) rfl))) (mvT hZ (hw _ (List.mem_of_getElem? (i := 193) rfl))) (by decide) (backOf (W := 2) (rm_rn l Z a0 hw [] aX h137 n0 O137 ) hZ (hw _ (List.mem_of_getElem? (i := 193) rfl)) (hw _ (List.mem_of_getElem? (i := 192) rfl)) (by decide) (by decide)) (g := (mkF m 19 #[.val (.ref a1), .val (.ref b102), .val (.int (5 : Int32))] [(.ref aX), (.int (5 : Int32)), (.ref b102)])) rfl (by rw [hml]; rfl) (argsL := [(.ref aX)]) (rest := [(.int (5 : Int32)), (.ref b102)]) (lenOf pd_7 rfl) rfl (by show 2 * 0 + _ ≤ _; exact Nat.le_of_eq rfl) (hb hby d_jdk_56_method_4_19) (fun _ _ => ⟨rfl, e137, (by decide : 1 + 0 ≤ _), (by decide : 7 + 0 ≤ _)⟩)
  dsimp only [Pt.U, Pt.locs, Pt.cells, Pt.slots] at X141 l141 y141 z141 st141 hQ141
  subst l141 y141 z141
  obtain ⟨rfl, Nq141, e141⟩ := hQ141
  have N141 := Fr.app N137 Nq141
  obtain ⟨cl142, Ar142, q142, S142, Ne142, H142, G142⟩ := id V137
  have hin142 : ¬ ((5 : Int32) < 0 ∨ cl142.slots.size ≤ ((5 : Int32)).toNatClampNeg) := inb_of S142 ⟨by decide, by decide⟩
  have f143 := (f136.wr W137)
  obtain ⟨T144, h144, X144, e144, W144, st144⟩ := stR X141 hx hZ e141 Ar142 (j := (5 : Int32)) hin142 rfl (Sto.ofV Ar142 q142 Ov102 (Ins.of_exa f143 (hw _ (List.mem_of_getElem? (i := 80) rfl)))) (g := (mkF m 22 #[.val (.ref a1), .val (.ref b102), .val (.int (5 : Int32))] [(.ref aX), (.int (5 : Int32)), (.ref b102)])) rfl rfl (hb hby d_jdk_56_method_4_22)
  have V144 : Arv Z h144 b102 k102 (.object "java/lang/Object") (7 : Int32) [(.ref aX), (.ref aX), (.ref aX), (.ref aX), (.ref aX), (.ref aX), .null] .null := Arv.set Ar142 q142 S142 Ne142 H142 G142 rfl W144 5 rfl (Nat.le_of_ble_eq_true rfl)
  have N144 := Fr.snoc X144 N141 g_b102
  have O144 := O137.wr W144 g_b102
  have K144 := K137.wr W144 (Or.inr sz_b102)
  have f145 := (f138.other W144 ne_a1_b102)
  obtain ⟨cl146, Ar146, -, S146, Ne146, -, -⟩ := id f145
  obtain ⟨cl147, Ar147, q147, S147, Ne147, H147, G147⟩ := id f145
  have hin147 : ¬ ((6 : Int32) < 0 ∨ cl147.slots.size ≤ ((6 : Int32)).toNatClampNeg) := inb_of S147 ⟨by decide, by decide⟩
  have hat147 : cl147.slots[((6 : Int32)).toNatClampNeg]? = some (.ref aX) := H147.at hin147 rfl
  obtain ⟨_, _, ⟨T148, L148, k148, n148⟩, -, X148, ⟨Lc148, hQ148, l148, y148, z148⟩, st148⟩ := Jvm.LawKit.callS X144 hx (y := (⟨"java/util/Objects", "requireNonNull", "(Ljava/lang/Object;)Ljava/lang/Object;"⟩ : MethodName)) hown (mvT hZ (hw _ (List.mem_of_getElem? (i := 223) rfl))) (mvT hZ (hw _ (List.mem_of_getElem? (i := 191) rfl))) (mvT hZ (hw _ (List.mem_of_getElem? (i := 192) rfl))) (mvT hZ (hw _ (List.mem_of_getElem? (i := 193) rfl))) (by decide) (backOf (W := 2) (rm_rn l Z a0 hw [] aX h144 n0 O144 ) hZ (hw _ (List.mem_of_getElem? (i := 193) rfl)) (hw _ (List.mem_of_getElem? (i := 192) rfl)) (by decide) (by decide)) (g := (mkF m 19 #[.val (.ref a1), .val (.ref b102), .val (.int (6 : Int32))] [(.ref aX), (.int (6 : Int32)), (.ref b102)])) rfl (by rw [hml]; rfl) (argsL := [(.ref aX)]) (rest := [(.int (6 : Int32)), (.ref b102)]) (lenOf pd_7 rfl) rfl (by show 2 * 0 + _ ≤ _; exact Nat.le_of_eq rfl) (hb hby d_jdk_56_method_4_19) (fun _ _ => ⟨rfl, e144, (by decide : 1 + 0 ≤ _), (by decide : 7 + 0 ≤ _)⟩)
  dsimp only [Pt.U, Pt.locs, Pt.cells, Pt.slots] at X148 l148 y148 z148 st148 hQ148
  subst l148 y148 z148
  obtain ⟨rfl, Nq148, e148⟩ := hQ148
  have N148 := Fr.app N144 Nq148
  obtain ⟨cl149, Ar149, q149, S149, Ne149, H149, G149⟩ := id V144
  have hin149 : ¬ ((6 : Int32) < 0 ∨ cl149.slots.size ≤ ((6 : Int32)).toNatClampNeg) := inb_of S149 ⟨by decide, by decide⟩
  have f150 := (f143.wr W144)
  obtain ⟨T151, h151, X151, e151, W151, st151⟩ := stR X148 hx hZ e148 Ar149 (j := (6 : Int32)) hin149 rfl (Sto.ofV Ar149 q149 Ov102 (Ins.of_exa f150 (hw _ (List.mem_of_getElem? (i := 80) rfl)))) (g := (mkF m 22 #[.val (.ref a1), .val (.ref b102), .val (.int (6 : Int32))] [(.ref aX), (.int (6 : Int32)), (.ref b102)])) rfl rfl (hb hby d_jdk_56_method_4_22)
  have V151 : Arv Z h151 b102 k102 (.object "java/lang/Object") (7 : Int32) [(.ref aX), (.ref aX), (.ref aX), (.ref aX), (.ref aX), (.ref aX), (.ref aX)] .null := Arv.set Ar149 q149 S149 Ne149 H149 G149 rfl W151 6 rfl (Nat.le_of_ble_eq_true rfl)
  have N151 := Fr.snoc X151 N148 g_b102
  have O151 := O144.wr W151 g_b102
  have K151 := K144.wr W151 (Or.inr sz_b102)
  have f152 := (f145.other W151 ne_a1_b102)
  obtain ⟨cl153, Ar153, -, S153, Ne153, -, -⟩ := id f152
  obtain ⟨T154, h154, X154, e154, E154, A154, D154, -, st154⟩ := newO X151 hx hZ hown (hw _ (List.mem_of_getElem? (i := 130) rfl)) (hw _ (List.mem_of_getElem? (i := 224) rfl)) (hw _ (List.mem_of_getElem? (i := 225) rfl)) e151 (g := (mkF m 29 #[.val (.ref a1), .val (.ref b102), .val (.int (7 : Int32))] [])) rfl (hb hby d_jdk_56_method_4_29) (by decide) (by decide)
  obtain ⟨b154, g154⟩ : ∃ z, z = h151.size := ⟨_, rfl⟩
  rw [← g154] at A154 D154 st154
  have g_b154 : n0 ≤ b154 := Nat.le_trans (own_szO O151) (Nat.le_of_eq g154.symm)
  have sz_b154 : h0.size ≤ b154 := Nat.le_trans K151.1 (Nat.le_of_eq g154.symm)
  have ne_a1_b154 : a1 ≠ b154 := Nat.ne_of_lt (Nat.lt_of_lt_of_le f152.lt (Nat.le_of_eq g154.symm))
  have f155 := (f150.wr W151)
  have ne_aX_b154 : aX ≠ b154 := Nat.ne_of_lt (Nat.lt_of_lt_of_le f155.lt (Nat.le_of_eq g154.symm))
  have f156 := (((((((Ex102.wr W109).wr W116).wr W123).wr W130).wr W137).wr W144).wr W151)
  have ne_b102_b154 : b102 ≠ b154 := Nat.ne_of_lt (Nat.lt_of_lt_of_le f156.lt (Nat.le_of_eq g154.symm))
  have O154 := O151.ext E154
  have K154 := K151.ext E154
  have F154_elements : Fld Z h154 b154 "java/util/ImmutableCollections$ListN" "elements" "[Ljava/lang/Object;" .null := D154 (Or.inr (hw _ (List.mem_of_getElem? (i := 235) rfl))) (ty := (.array (.object "java/lang/Object"))) (by decide)
  have F154_allowNulls : Fld Z h154 b154 "java/util/ImmutableCollections$ListN" "allowNulls" "Z" (.int (0 : Int32)) := D154 (Or.inr (hw _ (List.mem_of_getElem? (i := 237) rfl))) (ty := .boolean) (by decide)
  obtain ⟨_, _, ⟨T157, L157, k157, n157⟩, -, X157, ⟨Lc157, hQ157, l157, y157, z157⟩, st157⟩ := X154.specialBackNest hx (y := (⟨"java/util/ImmutableCollections$ListN", "<init>", "([Ljava/lang/Object;Z)V"⟩ : MethodName)) rfl hown (own_mvMN hZ (hw _ (List.mem_of_getElem? (i := 226) rfl))) (mvT hZ (hw _ (List.mem_of_getElem? (i := 227) rfl))) (mvT hZ (hw _ (List.mem_of_getElem? (i := 229) rfl))) (by decide) (backOf (W := 1) (rm_ln l Z a0 hw [] b154 b102 (.null) ((.int (0 : Int32))) h154 n0 O154 A154 F154_elements F154_allowNulls g_b154) hZ (hw _ (List.mem_of_getElem? (i := 229) rfl)) (hw _ (List.mem_of_getElem? (i := 225) rfl)) (by decide) (by decide)) (g := (mkF m 35 #[.val (.ref a1), .val (.ref b102), .val (.int (7 : Int32))] [(.int (0 : Int32)), (.ref b102), (.ref b154), (.ref b154)])) rfl (by rw [hml]; rfl) (Steps.refl _) (a := b154) (argsL := [(.ref b102), (.int (0 : Int32))]) (rest := [(.ref b154)]) (lenOf pd_8 rfl) rfl (by show 2 * 0 + _ ≤ _; exact Nat.le_of_eq rfl) (hb hby d_jdk_56_method_4_35) (fun _ _ => ⟨rfl, e154, (by decide : 2 + 0 ≤ _), (by decide : 9 + 0 ≤ _)⟩)
  dsimp only [Pt.U, Pt.locs, Pt.cells, Pt.slots] at X157 l157 y157 z157 st157 hQ157
  subst l157 y157 z157
  obtain ⟨rfl, Nq157, Kq157, El157⟩ := hQ157
  have N157 := Fr.app N151 Nq157
  have O157 := O154.keep Kq157 (allS g_b154 all0)
  have K157 := K154.trans Kq157 (allS (Or.inr sz_b154) all0)
  obtain ⟨fs, hr, hrun, hended, hW, hsame⟩ := X157.leave (v := some (.ref b154)) (fun h => by rw [Bd.returns] at h; cases h)
  refine ⟨_, _, pre0 _ ?_, hrun, hended, _, _, rfl, ?_, ⟨_, rfl⟩, hW, hsame.mono (by decide) (by decide)⟩
  · show Steps p.tables e below (s₁.setTop (mkF m 0 #[.val (.ref a1), .unset, .unset] [])) _
    refine XS.aloadN X0.here hx rfl (hb hby d_jdk_56_method_4_0) rfl rfl ?_
    show Steps p.tables e below (s₁.setTop (mkF m 1 #[.val (.ref a1), .unset, .unset] [(.ref a1)])) _
    refine X0.arraylength hx (by rw [e0]; exact Ar101.1) (State.isArrayOf_alike hZ.alike Ar101.2.1) (g := (mkF m 1 #[.val (.ref a1), .unset, .unset] [(.ref a1)])) rfl rfl (hb hby d_jdk_56_method_4_1) _ ?_
    rw [len_of S101 Ne101]
    show Steps p.tables e below (s₁.setTop (mkF m 2 #[.val (.ref a1), .unset, .unset] [(.int (7 : Int32))])) _
    refine st102 _ ?_
    show Steps p.tables e below (T102.setTop (mkF m 5 #[.val (.ref a1), .unset, .unset] [(.ref b102)])) _
    refine XS.astoreN X102.here hx rfl (hb hby d_jdk_56_method_4_5) rfl rfl (l' := #[.val (.ref a1), .val (.ref b102), .unset]) rfl ?_
    refine XS.iconst X102.here hx rfl (hb hby d_jdk_56_method_4_6) ?_
    refine XS.istoreN X102.here hx rfl (hb hby d_jdk_56_method_4_7) rfl (l' := #[.val (.ref a1), .val (.ref b102), .val (.int (0 : Int32))]) rfl ?_
    refine XS.iloadN X102.here hx rfl (hb hby d_jdk_56_method_4_8) rfl ?_
    show Steps p.tables e below (T102.setTop (mkF m 9 #[.val (.ref a1), .val (.ref b102), .val (.int (0 : Int32))] [(.int (0 : Int32))])) _
    refine XS.aloadN X102.here hx rfl (hb hby d_jdk_56_method_4_9) rfl rfl ?_
    show Steps p.tables e below (T102.setTop (mkF m 10 #[.val (.ref a1), .val (.ref b102), .val (.int (0 : Int32))] [(.ref a1), (.int (0 : Int32))])) _
    refine X102.arraylength hx (by rw [e102]; exact Ar104.1) (State.isArrayOf_alike hZ.alike Ar104.2.1) (g := (mkF m 10 #[.val (.ref a1), .val (.ref b102), .val (.int (0 : Int32))] [(.ref a1), (.int (0 : Int32))])) rfl rfl (hb hby d_jdk_56_method_4_10) _ ?_
    rw [len_of S104 Ne104]
    show Steps p.tables e below (T102.setTop (mkF m 11 #[.val (.ref a1), .val (.ref b102), .val (.int (0 : Int32))] [(.int (7 : Int32)), (.int (0 : Int32))])) _
    refine XS.icmpNo X102.here hx rfl (hb hby d_jdk_56_method_4_11) rfl (tlt (by decide : (0 : Int32) < (7 : Int32))).2.1 ?_
    refine XS.aloadN X102.here hx rfl (hb hby d_jdk_56_method_4_14) rfl rfl ?_
    refine XS.iloadN X102.here hx rfl (hb hby d_jdk_56_method_4_15) rfl ?_
    refine XS.aloadN X102.here hx rfl (hb hby d_jdk_56_method_4_16) rfl rfl ?_
    show Steps p.tables e below (T102.setTop (mkF m 17 #[.val (.ref a1), .val (.ref b102), .val (.int (0 : Int32))] [(.ref a1), (.int (0 : Int32)), (.ref b102)])) _
    refine XS.iloadN X102.here hx rfl (hb hby d_jdk_56_method_4_17) rfl ?_
    show Steps p.tables e below (T102.setTop (mkF m 18 #[.val (.ref a1), .val (.ref b102), .val (.int (0 : Int32))] [(.int (0 : Int32)), (.ref a1), (.int (0 : Int32)), (.ref b102)])) _
    refine X102.aaload hx (j := (0 : Int32)) (v := (.ref aX)) (by rw [e102]; exact Ar105.1) (State.isArrayOf_alike hZ.alike Ar105.2.1) rfl Ar105.2.2 hin105 hat105 (g := (mkF m 18 #[.val (.ref a1), .val (.ref b102), .val (.int (0 : Int32))] [(.int (0 : Int32)), (.ref a1), (.int (0 : Int32)), (.ref b102)])) rfl rfl (hb hby d_jdk_56_method_4_18) _ ?_
    show Steps p.tables e below (T102.setTop (mkF m 19 #[.val (.ref a1), .val (.ref b102), .val (.int (0 : Int32))] [(.ref aX), (.int (0 : Int32)), (.ref b102)])) _
    refine st106 _ ?_
    show Steps p.tables e below (T106.setTop (mkF m 22 #[.val (.ref a1), .val (.ref b102), .val (.int (0 : Int32))] [(.ref aX), (.int (0 : Int32)), (.ref b102)])) _
    refine st109 _ ?_
    show Steps p.tables e below (T109.setTop (mkF m 23 #[.val (.ref a1), .val (.ref b102), .val (.int (0 : Int32))] [])) _
    refine XS.iinc X109.here hx rfl (hb hby d_jdk_56_method_4_23) rfl (l' := #[.val (.ref a1), .val (.ref b102), .val (.int ((0 : Int32) + (1 : Int32)))]) rfl ?_
    show Steps p.tables e below (T109.setTop (mkF m 26 #[.val (.ref a1), .val (.ref b102), .val (.int ((0 : Int32) + (1 : Int32)))] [])) _
    rw [show ((0 : Int32) + (1 : Int32)) = (1 : Int32) from (by decide)]
    show Steps p.tables e below (T109.setTop (mkF m 26 #[.val (.ref a1), .val (.ref b102), .val (.int (1 : Int32))] [])) _
    refine XS.goto X109.here hx rfl (pc0 := 26) (pc' := 8) rfl (hb hby d_jdk_56_method_4_26) (by decide) (by decide) ?_
    refine XS.iloadN X109.here hx rfl (hb hby d_jdk_56_method_4_8) rfl ?_
    refine XS.aloadN X109.here hx rfl (hb hby d_jdk_56_method_4_9) rfl rfl ?_
    show Steps p.tables e below (T109.setTop (mkF m 10 #[.val (.ref a1), .val (.ref b102), .val (.int (1 : Int32))] [(.ref a1), (.int (1 : Int32))])) _
    refine X109.arraylength hx (by rw [e109]; exact Ar111.1) (State.isArrayOf_alike hZ.alike Ar111.2.1) (g := (mkF m 10 #[.val (.ref a1), .val (.ref b102), .val (.int (1 : Int32))] [(.ref a1), (.int (1 : Int32))])) rfl rfl (hb hby d_jdk_56_method_4_10) _ ?_
    rw [len_of S111 Ne111]
    show Steps p.tables e below (T109.setTop (mkF m 11 #[.val (.ref a1), .val (.ref b102), .val (.int (1 : Int32))] [(.int (7 : Int32)), (.int (1 : Int32))])) _
    refine XS.icmpNo X109.here hx rfl (hb hby d_jdk_56_method_4_11) rfl (tlt (by decide : (1 : Int32) < (7 : Int32))).2.1 ?_
    refine XS.aloadN X109.here hx rfl (hb hby d_jdk_56_method_4_14) rfl rfl ?_
    refine XS.iloadN X109.here hx rfl (hb hby d_jdk_56_method_4_15) rfl ?_
    refine XS.aloadN X109.here hx rfl (hb hby d_jdk_56_method_4_16) rfl rfl ?_
    show Steps p.tables e below (T109.setTop (mkF m 17 #[.val (.ref a1), .val (.ref b102), .val (.int (1 : Int32))] [(.ref a1), (.int (1 : Int32)), (.ref b102)])) _
    refine XS.iloadN X109.here hx rfl (hb hby d_jdk_56_method_4_17) rfl ?_
    show Steps p.tables e below (T109.setTop (mkF m 18 #[.val (.ref a1), .val (.ref b102), .val (.int (1 : Int32))] [(.int (1 : Int32)), (.ref a1), (.int (1 : Int32)), (.ref b102)])) _
    refine X109.aaload hx (j := (1 : Int32)) (v := (.ref aX)) (by rw [e109]; exact Ar112.1) (State.isArrayOf_alike hZ.alike Ar112.2.1) rfl Ar112.2.2 hin112 hat112 (g := (mkF m 18 #[.val (.ref a1), .val (.ref b102), .val (.int (1 : Int32))] [(.int (1 : Int32)), (.ref a1), (.int (1 : Int32)), (.ref b102)])) rfl rfl (hb hby d_jdk_56_method_4_18) _ ?_
    show Steps p.tables e below (T109.setTop (mkF m 19 #[.val (.ref a1), .val (.ref b102), .val (.int (1 : Int32))] [(.ref aX), (.int (1 : Int32)), (.ref b102)])) _
    refine st113 _ ?_
    show Steps p.tables e below (T113.setTop (mkF m 22 #[.val (.ref a1), .val (.ref b102), .val (.int (1 : Int32))] [(.ref aX), (.int (1 : Int32)), (.ref b102)])) _
    refine st116 _ ?_
    show Steps p.tables e below (T116.setTop (mkF m 23 #[.val (.ref a1), .val (.ref b102), .val (.int (1 : Int32))] [])) _
    refine XS.iinc X116.here hx rfl (hb hby d_jdk_56_method_4_23) rfl (l' := #[.val (.ref a1), .val (.ref b102), .val (.int ((1 : Int32) + (1 : Int32)))]) rfl ?_
    show Steps p.tables e below (T116.setTop (mkF m 26 #[.val (.ref a1), .val (.ref b102), .val (.int ((1 : Int32) + (1 : Int32)))] [])) _
    rw [show ((1 : Int32) + (1 : Int32)) = (2 : Int32) from (by decide)]
    show Steps p.tables e below (T116.setTop (mkF m 26 #[.val (.ref a1), .val (.ref b102), .val (.int (2 : Int32))] [])) _
    refine XS.goto X116.here hx rfl (pc0 := 26) (pc' := 8) rfl (hb hby d_jdk_56_method_4_26) (by decide) (by decide) ?_
    refine XS.iloadN X116.here hx rfl (hb hby d_jdk_56_method_4_8) rfl ?_
    refine XS.aloadN X116.here hx rfl (hb hby d_jdk_56_method_4_9) rfl rfl ?_
    show Steps p.tables e below (T116.setTop (mkF m 10 #[.val (.ref a1), .val (.ref b102), .val (.int (2 : Int32))] [(.ref a1), (.int (2 : Int32))])) _
    refine X116.arraylength hx (by rw [e116]; exact Ar118.1) (State.isArrayOf_alike hZ.alike Ar118.2.1) (g := (mkF m 10 #[.val (.ref a1), .val (.ref b102), .val (.int (2 : Int32))] [(.ref a1), (.int (2 : Int32))])) rfl rfl (hb hby d_jdk_56_method_4_10) _ ?_
    rw [len_of S118 Ne118]
    show Steps p.tables e below (T116.setTop (mkF m 11 #[.val (.ref a1), .val (.ref b102), .val (.int (2 : Int32))] [(.int (7 : Int32)), (.int (2 : Int32))])) _
    refine XS.icmpNo X116.here hx rfl (hb hby d_jdk_56_method_4_11) rfl (tlt (by decide : (2 : Int32) < (7 : Int32))).2.1 ?_
    refine XS.aloadN X116.here hx rfl (hb hby d_jdk_56_method_4_14) rfl rfl ?_
    refine XS.iloadN X116.here hx rfl (hb hby d_jdk_56_method_4_15) rfl ?_
    refine XS.aloadN X116.here hx rfl (hb hby d_jdk_56_method_4_16) rfl rfl ?_
    show Steps p.tables e below (T116.setTop (mkF m 17 #[.val (.ref a1), .val (.ref b102), .val (.int (2 : Int32))] [(.ref a1), (.int (2 : Int32)), (.ref b102)])) _
    refine XS.iloadN X116.here hx rfl (hb hby d_jdk_56_method_4_17) rfl ?_
    show Steps p.tables e below (T116.setTop (mkF m 18 #[.val (.ref a1), .val (.ref b102), .val (.int (2 : Int32))] [(.int (2 : Int32)), (.ref a1), (.int (2 : Int32)), (.ref b102)])) _
    refine X116.aaload hx (j := (2 : Int32)) (v := (.ref aX)) (by rw [e116]; exact Ar119.1) (State.isArrayOf_alike hZ.alike Ar119.2.1) rfl Ar119.2.2 hin119 hat119 (g := (mkF m 18 #[.val (.ref a1), .val (.ref b102), .val (.int (2 : Int32))] [(.int (2 : Int32)), (.ref a1), (.int (2 : Int32)), (.ref b102)])) rfl rfl (hb hby d_jdk_56_method_4_18) _ ?_
    show Steps p.tables e below (T116.setTop (mkF m 19 #[.val (.ref a1), .val (.ref b102), .val (.int (2 : Int32))] [(.ref aX), (.int (2 : Int32)), (.ref b102)])) _
    refine st120 _ ?_
    show Steps p.tables e below (T120.setTop (mkF m 22 #[.val (.ref a1), .val (.ref b102), .val (.int (2 : Int32))] [(.ref aX), (.int (2 : Int32)), (.ref b102)])) _
    refine st123 _ ?_
    show Steps p.tables e below (T123.setTop (mkF m 23 #[.val (.ref a1), .val (.ref b102), .val (.int (2 : Int32))] [])) _
    refine XS.iinc X123.here hx rfl (hb hby d_jdk_56_method_4_23) rfl (l' := #[.val (.ref a1), .val (.ref b102), .val (.int ((2 : Int32) + (1 : Int32)))]) rfl ?_
    show Steps p.tables e below (T123.setTop (mkF m 26 #[.val (.ref a1), .val (.ref b102), .val (.int ((2 : Int32) + (1 : Int32)))] [])) _
    rw [show ((2 : Int32) + (1 : Int32)) = (3 : Int32) from (by decide)]
    show Steps p.tables e below (T123.setTop (mkF m 26 #[.val (.ref a1), .val (.ref b102), .val (.int (3 : Int32))] [])) _
    refine XS.goto X123.here hx rfl (pc0 := 26) (pc' := 8) rfl (hb hby d_jdk_56_method_4_26) (by decide) (by decide) ?_
    refine XS.iloadN X123.here hx rfl (hb hby d_jdk_56_method_4_8) rfl ?_
    refine XS.aloadN X123.here hx rfl (hb hby d_jdk_56_method_4_9) rfl rfl ?_
    show Steps p.tables e below (T123.setTop (mkF m 10 #[.val (.ref a1), .val (.ref b102), .val (.int (3 : Int32))] [(.ref a1), (.int (3 : Int32))])) _
    refine X123.arraylength hx (by rw [e123]; exact Ar125.1) (State.isArrayOf_alike hZ.alike Ar125.2.1) (g := (mkF m 10 #[.val (.ref a1), .val (.ref b102), .val (.int (3 : Int32))] [(.ref a1), (.int (3 : Int32))])) rfl rfl (hb hby d_jdk_56_method_4_10) _ ?_
    rw [len_of S125 Ne125]
    show Steps p.tables e below (T123.setTop (mkF m 11 #[.val (.ref a1), .val (.ref b102), .val (.int (3 : Int32))] [(.int (7 : Int32)), (.int (3 : Int32))])) _
    refine XS.icmpNo X123.here hx rfl (hb hby d_jdk_56_method_4_11) rfl (tlt (by decide : (3 : Int32) < (7 : Int32))).2.1 ?_
    refine XS.aloadN X123.here hx rfl (hb hby d_jdk_56_method_4_14) rfl rfl ?_
    refine XS.iloadN X123.here hx rfl (hb hby d_jdk_56_method_4_15) rfl ?_
    refine XS.aloadN X123.here hx rfl (hb hby d_jdk_56_method_4_16) rfl rfl ?_
    show Steps p.tables e below (T123.setTop (mkF m 17 #[.val (.ref a1), .val (.ref b102), .val (.int (3 : Int32))] [(.ref a1), (.int (3 : Int32)), (.ref b102)])) _
    refine XS.iloadN X123.here hx rfl (hb hby d_jdk_56_method_4_17) rfl ?_
    show Steps p.tables e below (T123.setTop (mkF m 18 #[.val (.ref a1), .val (.ref b102), .val (.int (3 : Int32))] [(.int (3 : Int32)), (.ref a1), (.int (3 : Int32)), (.ref b102)])) _
    refine X123.aaload hx (j := (3 : Int32)) (v := (.ref aX)) (by rw [e123]; exact Ar126.1) (State.isArrayOf_alike hZ.alike Ar126.2.1) rfl Ar126.2.2 hin126 hat126 (g := (mkF m 18 #[.val (.ref a1), .val (.ref b102), .val (.int (3 : Int32))] [(.int (3 : Int32)), (.ref a1), (.int (3 : Int32)), (.ref b102)])) rfl rfl (hb hby d_jdk_56_method_4_18) _ ?_
    show Steps p.tables e below (T123.setTop (mkF m 19 #[.val (.ref a1), .val (.ref b102), .val (.int (3 : Int32))] [(.ref aX), (.int (3 : Int32)), (.ref b102)])) _
    refine st127 _ ?_
    show Steps p.tables e below (T127.setTop (mkF m 22 #[.val (.ref a1), .val (.ref b102), .val (.int (3 : Int32))] [(.ref aX), (.int (3 : Int32)), (.ref b102)])) _
    refine st130 _ ?_
    show Steps p.tables e below (T130.setTop (mkF m 23 #[.val (.ref a1), .val (.ref b102), .val (.int (3 : Int32))] [])) _
    refine XS.iinc X130.here hx rfl (hb hby d_jdk_56_method_4_23) rfl (l' := #[.val (.ref a1), .val (.ref b102), .val (.int ((3 : Int32) + (1 : Int32)))]) rfl ?_
    show Steps p.tables e below (T130.setTop (mkF m 26 #[.val (.ref a1), .val (.ref b102), .val (.int ((3 : Int32) + (1 : Int32)))] [])) _
    rw [show ((3 : Int32) + (1 : Int32)) = (4 : Int32) from (by decide)]
    show Steps p.tables e below (T130.setTop (mkF m 26 #[.val (.ref a1), .val (.ref b102), .val (.int (4 : Int32))] [])) _
    refine XS.goto X130.here hx rfl (pc0 := 26) (pc' := 8) rfl (hb hby d_jdk_56_method_4_26) (by decide) (by decide) ?_
    refine XS.iloadN X130.here hx rfl (hb hby d_jdk_56_method_4_8) rfl ?_
    refine XS.aloadN X130.here hx rfl (hb hby d_jdk_56_method_4_9) rfl rfl ?_
    show Steps p.tables e below (T130.setTop (mkF m 10 #[.val (.ref a1), .val (.ref b102), .val (.int (4 : Int32))] [(.ref a1), (.int (4 : Int32))])) _
    refine X130.arraylength hx (by rw [e130]; exact Ar132.1) (State.isArrayOf_alike hZ.alike Ar132.2.1) (g := (mkF m 10 #[.val (.ref a1), .val (.ref b102), .val (.int (4 : Int32))] [(.ref a1), (.int (4 : Int32))])) rfl rfl (hb hby d_jdk_56_method_4_10) _ ?_
    rw [len_of S132 Ne132]
    show Steps p.tables e below (T130.setTop (mkF m 11 #[.val (.ref a1), .val (.ref b102), .val (.int (4 : Int32))] [(.int (7 : Int32)), (.int (4 : Int32))])) _
    refine XS.icmpNo X130.here hx rfl (hb hby d_jdk_56_method_4_11) rfl (tlt (by decide : (4 : Int32) < (7 : Int32))).2.1 ?_
    refine XS.aloadN X130.here hx rfl (hb hby d_jdk_56_method_4_14) rfl rfl ?_
    refine XS.iloadN X130.here hx rfl (hb hby d_jdk_56_method_4_15) rfl ?_
    refine XS.aloadN X130.here hx rfl (hb hby d_jdk_56_method_4_16) rfl rfl ?_
    show Steps p.tables e below (T130.setTop (mkF m 17 #[.val (.ref a1), .val (.ref b102), .val (.int (4 : Int32))] [(.ref a1), (.int (4 : Int32)), (.ref b102)])) _
    refine XS.iloadN X130.here hx rfl (hb hby d_jdk_56_method_4_17) rfl ?_
    show Steps p.tables e below (T130.setTop (mkF m 18 #[.val (.ref a1), .val (.ref b102), .val (.int (4 : Int32))] [(.int (4 : Int32)), (.ref a1), (.int (4 : Int32)), (.ref b102)])) _
    refine X130.aaload hx (j := (4 : Int32)) (v := (.ref aX)) (by rw [e130]; exact Ar133.1) (State.isArrayOf_alike hZ.alike Ar133.2.1) rfl Ar133.2.2 hin133 hat133 (g := (mkF m 18 #[.val (.ref a1), .val (.ref b102), .val (.int (4 : Int32))] [(.int (4 : Int32)), (.ref a1), (.int (4 : Int32)), (.ref b102)])) rfl rfl (hb hby d_jdk_56_method_4_18) _ ?_
    show Steps p.tables e below (T130.setTop (mkF m 19 #[.val (.ref a1), .val (.ref b102), .val (.int (4 : Int32))] [(.ref aX), (.int (4 : Int32)), (.ref b102)])) _
    refine st134 _ ?_
    show Steps p.tables e below (T134.setTop (mkF m 22 #[.val (.ref a1), .val (.ref b102), .val (.int (4 : Int32))] [(.ref aX), (.int (4 : Int32)), (.ref b102)])) _
    refine st137 _ ?_
    show Steps p.tables e below (T137.setTop (mkF m 23 #[.val (.ref a1), .val (.ref b102), .val (.int (4 : Int32))] [])) _
    refine XS.iinc X137.here hx rfl (hb hby d_jdk_56_method_4_23) rfl (l' := #[.val (.ref a1), .val (.ref b102), .val (.int ((4 : Int32) + (1 : Int32)))]) rfl ?_
    show Steps p.tables e below (T137.setTop (mkF m 26 #[.val (.ref a1), .val (.ref b102), .val (.int ((4 : Int32) + (1 : Int32)))] [])) _
    rw [show ((4 : Int32) + (1 : Int32)) = (5 : Int32) from (by decide)]
    show Steps p.tables e below (T137.setTop (mkF m 26 #[.val (.ref a1), .val (.ref b102), .val (.int (5 : Int32))] [])) _
    refine XS.goto X137.here hx rfl (pc0 := 26) (pc' := 8) rfl (hb hby d_jdk_56_method_4_26) (by decide) (by decide) ?_
    refine XS.iloadN X137.here hx rfl (hb hby d_jdk_56_method_4_8) rfl ?_
    refine XS.aloadN X137.here hx rfl (hb hby d_jdk_56_method_4_9) rfl rfl ?_
    show Steps p.tables e below (T137.setTop (mkF m 10 #[.val (.ref a1), .val (.ref b102), .val (.int (5 : Int32))] [(.ref a1), (.int (5 : Int32))])) _
    refine X137.arraylength hx (by rw [e137]; exact Ar139.1) (State.isArrayOf_alike hZ.alike Ar139.2.1) (g := (mkF m 10 #[.val (.ref a1), .val (.ref b102), .val (.int (5 : Int32))] [(.ref a1), (.int (5 : Int32))])) rfl rfl (hb hby d_jdk_56_method_4_10) _ ?_
    rw [len_of S139 Ne139]
    show Steps p.tables e below (T137.setTop (mkF m 11 #[.val (.ref a1), .val (.ref b102), .val (.int (5 : Int32))] [(.int (7 : Int32)), (.int (5 : Int32))])) _
    refine XS.icmpNo X137.here hx rfl (hb hby d_jdk_56_method_4_11) rfl (tlt (by decide : (5 : Int32) < (7 : Int32))).2.1 ?_
    refine XS.aloadN X137.here hx rfl (hb hby d_jdk_56_method_4_14) rfl rfl ?_
    refine XS.iloadN X137.here hx rfl (hb hby d_jdk_56_method_4_15) rfl ?_
    refine XS.aloadN X137.here hx rfl (hb hby d_jdk_56_method_4_16) rfl rfl ?_
    show Steps p.tables e below (T137.setTop (mkF m 17 #[.val (.ref a1), .val (.ref b102), .val (.int (5 : Int32))] [(.ref a1), (.int (5 : Int32)), (.ref b102)])) _
    refine XS.iloadN X137.here hx rfl (hb hby d_jdk_56_method_4_17) rfl ?_
    show Steps p.tables e below (T137.setTop (mkF m 18 #[.val (.ref a1), .val (.ref b102), .val (.int (5 : Int32))] [(.int (5 : Int32)), (.ref a1), (.int (5 : Int32)), (.ref b102)])) _
    refine X137.aaload hx (j := (5 : Int32)) (v := (.ref aX)) (by rw [e137]; exact Ar140.1) (State.isArrayOf_alike hZ.alike Ar140.2.1) rfl Ar140.2.2 hin140 hat140 (g := (mkF m 18 #[.val (.ref a1), .val (.ref b102), .val (.int (5 : Int32))] [(.int (5 : Int32)), (.ref a1), (.int (5 : Int32)), (.ref b102)])) rfl rfl (hb hby d_jdk_56_method_4_18) _ ?_
    show Steps p.tables e below (T137.setTop (mkF m 19 #[.val (.ref a1), .val (.ref b102), .val (.int (5 : Int32))] [(.ref aX), (.int (5 : Int32)), (.ref b102)])) _
    refine st141 _ ?_
    show Steps p.tables e below (T141.setTop (mkF m 22 #[.val (.ref a1), .val (.ref b102), .val (.int (5 : Int32))] [(.ref aX), (.int (5 : Int32)), (.ref b102)])) _
    refine st144 _ ?_
    show Steps p.tables e below (T144.setTop (mkF m 23 #[.val (.ref a1), .val (.ref b102), .val (.int (5 : Int32))] [])) _
    refine XS.iinc X144.here hx rfl (hb hby d_jdk_56_method_4_23) rfl (l' := #[.val (.ref a1), .val (.ref b102), .val (.int ((5 : Int32) + (1 : Int32)))]) rfl ?_
    show Steps p.tables e below (T144.setTop (mkF m 26 #[.val (.ref a1), .val (.ref b102), .val (.int ((5 : Int32) + (1 : Int32)))] [])) _
    rw [show ((5 : Int32) + (1 : Int32)) = (6 : Int32) from (by decide)]
    show Steps p.tables e below (T144.setTop (mkF m 26 #[.val (.ref a1), .val (.ref b102), .val (.int (6 : Int32))] [])) _
    refine XS.goto X144.here hx rfl (pc0 := 26) (pc' := 8) rfl (hb hby d_jdk_56_method_4_26) (by decide) (by decide) ?_
    refine XS.iloadN X144.here hx rfl (hb hby d_jdk_56_method_4_8) rfl ?_
    refine XS.aloadN X144.here hx rfl (hb hby d_jdk_56_method_4_9) rfl rfl ?_
    show Steps p.tables e below (T144.setTop (mkF m 10 #[.val (.ref a1), .val (.ref b102), .val (.int (6 : Int32))] [(.ref a1), (.int (6 : Int32))])) _
    refine X144.arraylength hx (by rw [e144]; exact Ar146.1) (State.isArrayOf_alike hZ.alike Ar146.2.1) (g := (mkF m 10 #[.val (.ref a1), .val (.ref b102), .val (.int (6 : Int32))] [(.ref a1), (.int (6 : Int32))])) rfl rfl (hb hby d_jdk_56_method_4_10) _ ?_
    rw [len_of S146 Ne146]
    show Steps p.tables e below (T144.setTop (mkF m 11 #[.val (.ref a1), .val (.ref b102), .val (.int (6 : Int32))] [(.int (7 : Int32)), (.int (6 : Int32))])) _
    refine XS.icmpNo X144.here hx rfl (hb hby d_jdk_56_method_4_11) rfl (tlt (by decide : (6 : Int32) < (7 : Int32))).2.1 ?_
    refine XS.aloadN X144.here hx rfl (hb hby d_jdk_56_method_4_14) rfl rfl ?_
    refine XS.iloadN X144.here hx rfl (hb hby d_jdk_56_method_4_15) rfl ?_
    refine XS.aloadN X144.here hx rfl (hb hby d_jdk_56_method_4_16) rfl rfl ?_
    show Steps p.tables e below (T144.setTop (mkF m 17 #[.val (.ref a1), .val (.ref b102), .val (.int (6 : Int32))] [(.ref a1), (.int (6 : Int32)), (.ref b102)])) _
    refine XS.iloadN X144.here hx rfl (hb hby d_jdk_56_method_4_17) rfl ?_
    show Steps p.tables e below (T144.setTop (mkF m 18 #[.val (.ref a1), .val (.ref b102), .val (.int (6 : Int32))] [(.int (6 : Int32)), (.ref a1), (.int (6 : Int32)), (.ref b102)])) _
    refine X144.aaload hx (j := (6 : Int32)) (v := (.ref aX)) (by rw [e144]; exact Ar147.1) (State.isArrayOf_alike hZ.alike Ar147.2.1) rfl Ar147.2.2 hin147 hat147 (g := (mkF m 18 #[.val (.ref a1), .val (.ref b102), .val (.int (6 : Int32))] [(.int (6 : Int32)), (.ref a1), (.int (6 : Int32)), (.ref b102)])) rfl rfl (hb hby d_jdk_56_method_4_18) _ ?_
    show Steps p.tables e below (T144.setTop (mkF m 19 #[.val (.ref a1), .val (.ref b102), .val (.int (6 : Int32))] [(.ref aX), (.int (6 : Int32)), (.ref b102)])) _
    refine st148 _ ?_
    show Steps p.tables e below (T148.setTop (mkF m 22 #[.val (.ref a1), .val (.ref b102), .val (.int (6 : Int32))] [(.ref aX), (.int (6 : Int32)), (.ref b102)])) _
    refine st151 _ ?_
    show Steps p.tables e below (T151.setTop (mkF m 23 #[.val (.ref a1), .val (.ref b102), .val (.int (6 : Int32))] [])) _
    refine XS.iinc X151.here hx rfl (hb hby d_jdk_56_method_4_23) rfl (l' := #[.val (.ref a1), .val (.ref b102), .val (.int ((6 : Int32) + (1 : Int32)))]) rfl ?_
    show Steps p.tables e below (T151.setTop (mkF m 26 #[.val (.ref a1), .val (.ref b102), .val (.int ((6 : Int32) + (1 : Int32)))] [])) _
    rw [show ((6 : Int32) + (1 : Int32)) = (7 : Int32) from (by decide)]
    show Steps p.tables e below (T151.setTop (mkF m 26 #[.val (.ref a1), .val (.ref b102), .val (.int (7 : Int32))] [])) _
    refine XS.goto X151.here hx rfl (pc0 := 26) (pc' := 8) rfl (hb hby d_jdk_56_method_4_26) (by decide) (by decide) ?_
    refine XS.iloadN X151.here hx rfl (hb hby d_jdk_56_method_4_8) rfl ?_
    refine XS.aloadN X151.here hx rfl (hb hby d_jdk_56_method_4_9) rfl rfl ?_
    show Steps p.tables e below (T151.setTop (mkF m 10 #[.val (.ref a1), .val (.ref b102), .val (.int (7 : Int32))] [(.ref a1), (.int (7 : Int32))])) _
    refine X151.arraylength hx (by rw [e151]; exact Ar153.1) (State.isArrayOf_alike hZ.alike Ar153.2.1) (g := (mkF m 10 #[.val (.ref a1), .val (.ref b102), .val (.int (7 : Int32))] [(.ref a1), (.int (7 : Int32))])) rfl rfl (hb hby d_jdk_56_method_4_10) _ ?_
    rw [len_of S153 Ne153]
    show Steps p.tables e below (T151.setTop (mkF m 11 #[.val (.ref a1), .val (.ref b102), .val (.int (7 : Int32))] [(.int (7 : Int32)), (.int (7 : Int32))])) _
    refine XS.icmpYes X151.here hx rfl (pc0 := 11) (pc' := 29) rfl (hb hby d_jdk_56_method_4_11) rfl (flt (by decide : ¬ ((7 : Int32) < (7 : Int32)))).2.1 (by decide) (by decide) ?_
    show Steps p.tables e below (T151.setTop (mkF m 29 #[.val (.ref a1), .val (.ref b102), .val (.int (7 : Int32))] [])) _
    refine st154 _ ?_
    show Steps p.tables e below (T154.setTop (mkF m 32 #[.val (.ref a1), .val (.ref b102), .val (.int (7 : Int32))] [(.ref b154)])) _
    refine XS.dup X154.here hx rfl (hb hby d_jdk_56_method_4_32) rfl rfl ?_
    refine XS.aloadN X154.here hx rfl (hb hby d_jdk_56_method_4_33) rfl rfl ?_
    refine XS.iconst X154.here hx rfl (hb hby d_jdk_56_method_4_34) ?_
    show Steps p.tables e below (T154.setTop (mkF m 35 #[.val (.ref a1), .val (.ref b102), .val (.int (7 : Int32))] [(.int (0 : Int32)), (.ref b102), (.ref b154), (.ref b154)])) _
    refine st157.trans ?_
    show Steps p.tables e below (T157.setTop (mkF m 38 #[.val (.ref a1), .val (.ref b102), .val (.int (7 : Int32))] [(.ref b154)])) _
    exact retOut X157 hx (t := (.object "java/util/List")) (i := .areturn) Bd.returns rfl (Or.inr (Or.inr (Or.inr (Or.inr ⟨rfl, rfl, rfl⟩)))) (hb hby d_jdk_56_method_4_38) hr
  · show Q_lf7 Z a1 k1 aX h0 n0 _ T157.heap _
    exact ⟨b154, rfl, N157, K157⟩
theorem ef_lf8 (m : MethodId) (a1 : Addr) : entryFrame m #[(.ref a1)] 3 = mkF m 0 #[.val (.ref a1), .unset, .unset] [] := by first | (simp [entryFrame, mkF, argsToLocals, Value.category]; done) | rfl
def Q_lf8 (Z : State) (a1 : Addr) (k1 : ClassId) (aX : Addr) (h0 : Heap) (n0 : Nat) (v : Option Value) (h : Heap) (L : List Loc) : Prop := ∃ (bb : Addr), v = some (.ref bb) ∧ Fr n0 L ∧ Keep h0 h []
set_option maxRecDepth 65536 in
set_option maxHeartbeats 40000000 in
theorem rm_lf8 (l : Launch) (Z : State) (a0 : Array Value) (hw : ∀ d ∈ tables_1, d.before a0 Z = true) (ws : List Jvm.Cond) (a1 : Addr) (k1 : ClassId) (aX : Addr) (h0 : Heap) (n0 : Nat) (O0 : Old Z n0 h0) (VA : Arv Z h0 a1 k1 (.object "java/lang/Object") (8 : Int32) [(.ref aX), (.ref aX), (.ref aX), (.ref aX), (.ref aX), (.ref aX), (.ref aX), (.ref aX)] .null) (EX : Exa Z h0 aX "com/example/jitney/jitney/Instance$Node") (gA : n0 ≤ a1) (gX : n0 ≤ aX) :
    MetFree l (⟨"java/util/ImmutableCollections", "listFromArray", "([Ljava/lang/Object;)Ljava/util/List;"⟩ : MethodName) (head1 (Jvm.Cond.code (⟨"java/util/ImmutableCollections", "listFromArray", "([Ljava/lang/Object;)Ljava/util/List;"⟩ : MethodName) jdk_56_method_4_code 3 (some (.object "java/util/List")) :: ws) ({ frames := 5, cells := 2, slots := 10, locals := 63 } : Room)) (fun a U => a = #[(.ref a1)] ∧ Z.Warmed39 U.vm ∧ U.heap = h0) (fun _ _ _ _ _ => True) (fun _ U o U' => ∃ v L, o = .returned v ∧ Q_lf8 Z a1 k1 aX h0 n0 v U'.heap L ∧ FrameEnd U o U' L ({ frames := 5, cells := 2, slots := 10, locals := 63 } : Room).cells ({ frames := 5, cells := 2, slots := 10, locals := 63 } : Room).slots) := by
  refine MetFree.of_bodySF (plainFor_of_name pn_11) hisR ?_
  intro p e s m args below meth c s₁ Bd hml0 hP hK
  obtain ⟨rfl, hZ, hh⟩ := hP
  have hx := Bd.exec
  have hby := Bd.bytes
  have hml : c.maxLocals = 3 := hml0
  have hown : s.vm.findClass "java/util/ImmutableCollections" = some m.cls := findClass_of_methodNamed Bd.named
  have hnm := (name_of_methodNamed Bd.named Bd.method).1
  have X0 : Stand p l e ({ frames := 5, cells := 2, slots := 10, locals := 63 } : Room) s m #[(.ref a1)] below meth c s₁ [] 0 0 := Stand.of_body Bd
  have e0 : s₁.heap = h0 := by rw [← hh, Bd.state]; rfl
  have N0 := Fr.nil n0
  have K0 : Keep h0 h0 [] := Keep.refl _ _
  have pre0 : ∀ t, Steps p.tables e below (s₁.setTop (mkF m 0 #[.val (.ref a1), .unset, .unset] [])) t → Steps p.tables e below (s₁.setTop (entryFrame m #[(.ref a1)] 3)) t := fun t k => castTop (ef_lf8 m a1) k
  obtain ⟨cl101, Ar101, -, S101, Ne101, -, -⟩ := id VA
  obtain ⟨T102, h102, k102, X102, e102, E102, A102, Ex102, Ov102, st102⟩ := newRE X0 hx hZ hown (hw _ (List.mem_of_getElem? (i := 222) rfl)) (hw _ (List.mem_of_getElem? (i := 79) rfl)) e0 (g := (mkF m 2 #[.val (.ref a1), .unset, .unset] [(.int (8 : Int32))])) rfl (hb hby d_jdk_56_method_4_2) rfl (by decide) (cap := 8) (by decide) (by decide) (by decide) (by decide) (ad := "[Ljava/lang/Object;") rfl
  obtain ⟨b102, g102⟩ : ∃ z, z = h0.size := ⟨_, rfl⟩
  rw [← g102] at A102 Ex102 st102
  have g_b102 : n0 ≤ b102 := Nat.le_trans (own_szO O0) (Nat.le_of_eq g102.symm)
  have sz_b102 : h0.size ≤ b102 := Nat.le_trans K0.1 (Nat.le_of_eq g102.symm)
  have ne_a1_b102 : a1 ≠ b102 := Nat.ne_of_lt (Nat.lt_of_lt_of_le VA.lt (Nat.le_of_eq g102.symm))
  have ne_aX_b102 : aX ≠ b102 := Nat.ne_of_lt (Nat.lt_of_lt_of_le EX.lt (Nat.le_of_eq g102.symm))
  have O102 := O0.ext E102
  have K102 := K0.ext E102
  have V102 : Arv Z h102 b102 k102 (.object "java/lang/Object") (8 : Int32) [.null, .null, .null, .null, .null, .null, .null, .null] .null := (Arv.new A102 (by decide)).pad (pad_rep [] .null 8)
  have f103 := (VA.ext E102)
  obtain ⟨cl104, Ar104, -, S104, Ne104, -, -⟩ := id f103
  obtain ⟨cl105, Ar105, q105, S105, Ne105, H105, G105⟩ := id f103
  have hin105 : ¬ ((0 : Int32) < 0 ∨ cl105.slots.size ≤ ((0 : Int32)).toNatClampNeg) := inb_of S105 ⟨by decide, by decide⟩
  have hat105 : cl105.slots[((0 : Int32)).toNatClampNeg]? = some (.ref aX) := H105.at hin105 rfl
  obtain ⟨_, _, ⟨T106, L106, k106, n106⟩, -, X106, ⟨Lc106, hQ106, l106, y106, z106⟩, st106⟩ := Jvm.LawKit.callS X102 hx (y := (⟨"java/util/Objects", "requireNonNull", "(Ljava/lang/Object;)Ljava/lang/Object;"⟩ : MethodName)) hown (mvT hZ (hw _ (List.mem_of_getElem? (i := 223) rfl))) (mvT hZ (hw _ (List.mem_of_getElem? (i := 191) rfl))) (mvT hZ (hw _ (List.mem_of_getElem? (i := 192) rfl))) (mvT hZ (hw _ (List.mem_of_getElem? (i := 193) rfl))) (by decide) (backOf (W := 2) (rm_rn l Z a0 hw [] aX h102 n0 O102 ) hZ (hw _ (List.mem_of_getElem? (i := 193) rfl)) (hw _ (List.mem_of_getElem? (i := 192) rfl)) (by decide) (by decide)) (g := (mkF m 19 #[.val (.ref a1), .val (.ref b102), .val (.int (0 : Int32))] [(.ref aX), (.int (0 : Int32)), (.ref b102)])) rfl (by rw [hml]; rfl) (argsL := [(.ref aX)]) (rest := [(.int (0 : Int32)), (.ref b102)]) (lenOf pd_7 rfl) rfl (by show 2 * 0 + _ ≤ _; exact Nat.le_of_eq rfl) (hb hby d_jdk_56_method_4_19) (fun _ _ => ⟨rfl, e102, (by decide : 1 + 0 ≤ _), (by decide : 8 + 0 ≤ _)⟩)
  dsimp only [Pt.U, Pt.locs, Pt.cells, Pt.slots] at X106 l106 y106 z106 st106 hQ106
  subst l106 y106 z106
  obtain ⟨rfl, Nq106, e106⟩ := hQ106
  have N106 := Fr.app N0 Nq106
  obtain ⟨cl107, Ar107, q107, S107, Ne107, H107, G107⟩ := id V102
  have hin107 : ¬ ((0 : Int32) < 0 ∨ cl107.slots.size ≤ ((0 : Int32)).toNatClampNeg) := inb_of S107 ⟨by decide, by decide⟩
  have f108 := (EX.ext E102)
  obtain ⟨T109, h109, X109, e109, W109, st109⟩ := stR X106 hx hZ e106 Ar107 (j := (0 : Int32)) hin107 rfl (Sto.ofV Ar107 q107 Ov102 (Ins.of_exa f108 (hw _ (List.mem_of_getElem? (i := 80) rfl)))) (g := (mkF m 22 #[.val (.ref a1), .val (.ref b102), .val (.int (0 : Int32))] [(.ref aX), (.int (0 : Int32)), (.ref b102)])) rfl rfl (hb hby d_jdk_56_method_4_22)
  have V109 : Arv Z h109 b102 k102 (.object "java/lang/Object") (8 : Int32) [(.ref aX), .null, .null, .null, .null, .null, .null, .null] .null := Arv.set Ar107 q107 S107 Ne107 H107 G107 rfl W109 0 rfl (Nat.le_of_ble_eq_true rfl)
  have N109 := Fr.snoc X109 N106 g_b102
  have O109 := O102.wr W109 g_b102
  have K109 := K102.wr W109 (Or.inr sz_b102)
  have f110 := (f103.other W109 ne_a1_b102)
  obtain ⟨cl111, Ar111, -, S111, Ne111, -, -⟩ := id f110
  obtain ⟨cl112, Ar112, q112, S112, Ne112, H112, G112⟩ := id f110
  have hin112 : ¬ ((1 : Int32) < 0 ∨ cl112.slots.size ≤ ((1 : Int32)).toNatClampNeg) := inb_of S112 ⟨by decide, by decide⟩
  have hat112 : cl112.slots[((1 : Int32)).toNatClampNeg]? = some (.ref aX) := H112.at hin112 rfl
  obtain ⟨_, _, ⟨T113, L113, k113, n113⟩, -, X113, ⟨Lc113, hQ113, l113, y113, z113⟩, st113⟩ := Jvm.LawKit.callS X109 hx (y := (⟨"java/util/Objects", "requireNonNull", "(Ljava/lang/Object;)Ljava/lang/Object;"⟩ : MethodName)) hown (mvT hZ (hw _ (List.mem_of_getElem? (i := 223) rfl))) (mvT hZ (hw _ (List.mem_of_getElem? (i := 191) rfl))) (mvT hZ (hw _ (List.mem_of_getElem? (i := 192) rfl))) (mvT hZ (hw _ (List.mem_of_getElem? (i := 193) rfl))) (by decide) (backOf (W := 2) (rm_rn l Z a0 hw [] aX h109 n0 O109 ) hZ (hw _ (List.mem_of_getElem? (i := 193) rfl)) (hw _ (List.mem_of_getElem? (i := 192) rfl)) (by decide) (by decide)) (g := (mkF m 19 #[.val (.ref a1), .val (.ref b102), .val (.int (1 : Int32))] [(.ref aX), (.int (1 : Int32)), (.ref b102)])) rfl (by rw [hml]; rfl) (argsL := [(.ref aX)]) (rest := [(.int (1 : Int32)), (.ref b102)]) (lenOf pd_7 rfl) rfl (by show 2 * 0 + _ ≤ _; exact Nat.le_of_eq rfl) (hb hby d_jdk_56_method_4_19) (fun _ _ => ⟨rfl, e109, (by decide : 1 + 0 ≤ _), (by decide : 8 + 0 ≤ _)⟩)
  dsimp only [Pt.U, Pt.locs, Pt.cells, Pt.slots] at X113 l113 y113 z113 st113 hQ113
  subst l113 y113 z113
  obtain ⟨rfl, Nq113, e113⟩ := hQ113
  have N113 := Fr.app N109 Nq113
  obtain ⟨cl114, Ar114, q114, S114, Ne114, H114, G114⟩ := id V109
  have hin114 : ¬ ((1 : Int32) < 0 ∨ cl114.slots.size ≤ ((1 : Int32)).toNatClampNeg) := inb_of S114 ⟨by decide, by decide⟩
  have f115 := (f108.wr W109)
  obtain ⟨T116, h116, X116, e116, W116, st116⟩ := stR X113 hx hZ e113 Ar114 (j := (1 : Int32)) hin114 rfl (Sto.ofV Ar114 q114 Ov102 (Ins.of_exa f115 (hw _ (List.mem_of_getElem? (i := 80) rfl)))) (g := (mkF m 22 #[.val (.ref a1), .val (.ref b102), .val (.int (1 : Int32))] [(.ref aX), (.int (1 : Int32)), (.ref b102)])) rfl rfl (hb hby d_jdk_56_method_4_22)
  have V116 : Arv Z h116 b102 k102 (.object "java/lang/Object") (8 : Int32) [(.ref aX), (.ref aX), .null, .null, .null, .null, .null, .null] .null := Arv.set Ar114 q114 S114 Ne114 H114 G114 rfl W116 1 rfl (Nat.le_of_ble_eq_true rfl)
  have N116 := Fr.snoc X116 N113 g_b102
  have O116 := O109.wr W116 g_b102
  have K116 := K109.wr W116 (Or.inr sz_b102)
  have f117 := (f110.other W116 ne_a1_b102)
  obtain ⟨cl118, Ar118, -, S118, Ne118, -, -⟩ := id f117
  obtain ⟨cl119, Ar119, q119, S119, Ne119, H119, G119⟩ := id f117
  have hin119 : ¬ ((2 : Int32) < 0 ∨ cl119.slots.size ≤ ((2 : Int32)).toNatClampNeg) := inb_of S119 ⟨by decide, by decide⟩
  have hat119 : cl119.slots[((2 : Int32)).toNatClampNeg]? = some (.ref aX) := H119.at hin119 rfl
  obtain ⟨_, _, ⟨T120, L120, k120, n120⟩, -, X120, ⟨Lc120, hQ120, l120, y120, z120⟩, st120⟩ := Jvm.LawKit.callS X116 hx (y := (⟨"java/util/Objects", "requireNonNull", "(Ljava/lang/Object;)Ljava/lang/Object;"⟩ : MethodName)) hown (mvT hZ (hw _ (List.mem_of_getElem? (i := 223) rfl))) (mvT hZ (hw _ (List.mem_of_getElem? (i := 191) rfl))) (mvT hZ (hw _ (List.mem_of_getElem? (i := 192) rfl))) (mvT hZ (hw _ (List.mem_of_getElem? (i := 193) rfl))) (by decide) (backOf (W := 2) (rm_rn l Z a0 hw [] aX h116 n0 O116 ) hZ (hw _ (List.mem_of_getElem? (i := 193) rfl)) (hw _ (List.mem_of_getElem? (i := 192) rfl)) (by decide) (by decide)) (g := (mkF m 19 #[.val (.ref a1), .val (.ref b102), .val (.int (2 : Int32))] [(.ref aX), (.int (2 : Int32)), (.ref b102)])) rfl (by rw [hml]; rfl) (argsL := [(.ref aX)]) (rest := [(.int (2 : Int32)), (.ref b102)]) (lenOf pd_7 rfl) rfl (by show 2 * 0 + _ ≤ _; exact Nat.le_of_eq rfl) (hb hby d_jdk_56_method_4_19) (fun _ _ => ⟨rfl, e116, (by decide : 1 + 0 ≤ _), (by decide : 8 + 0 ≤ _)⟩)
  dsimp only [Pt.U, Pt.locs, Pt.cells, Pt.slots] at X120 l120 y120 z120 st120 hQ120
  subst l120 y120 z120
  obtain ⟨rfl, Nq120, e120⟩ := hQ120
  have N120 := Fr.app N116 Nq120
  obtain ⟨cl121, Ar121, q121, S121, Ne121, H121, G121⟩ := id V116
  have hin121 : ¬ ((2 : Int32) < 0 ∨ cl121.slots.size ≤ ((2 : Int32)).toNatClampNeg) := inb_of S121 ⟨by decide, by decide⟩
  have f122 := (f115.wr W116)
  obtain ⟨T123, h123, X123, e123, W123, st123⟩ := stR X120 hx hZ e120 Ar121 (j := (2 : Int32)) hin121 rfl (Sto.ofV Ar121 q121 Ov102 (Ins.of_exa f122 (hw _ (List.mem_of_getElem? (i := 80) rfl)))) (g := (mkF m 22 #[.val (.ref a1), .val (.ref b102), .val (.int (2 : Int32))] [(.ref aX), (.int (2 : Int32)), (.ref b102)])) rfl rfl (hb hby d_jdk_56_method_4_22)
  have V123 : Arv Z h123 b102 k102 (.object "java/lang/Object") (8 : Int32) [(.ref aX), (.ref aX), (.ref aX), .null, .null, .null, .null, .null] .null := Arv.set Ar121 q121 S121 Ne121 H121 G121 rfl W123 2 rfl (Nat.le_of_ble_eq_true rfl)
  have N123 := Fr.snoc X123 N120 g_b102
  have O123 := O116.wr W123 g_b102
  have K123 := K116.wr W123 (Or.inr sz_b102)
  have f124 := (f117.other W123 ne_a1_b102)
  obtain ⟨cl125, Ar125, -, S125, Ne125, -, -⟩ := id f124
  obtain ⟨cl126, Ar126, q126, S126, Ne126, H126, G126⟩ := id f124
  have hin126 : ¬ ((3 : Int32) < 0 ∨ cl126.slots.size ≤ ((3 : Int32)).toNatClampNeg) := inb_of S126 ⟨by decide, by decide⟩
  have hat126 : cl126.slots[((3 : Int32)).toNatClampNeg]? = some (.ref aX) := H126.at hin126 rfl
  obtain ⟨_, _, ⟨T127, L127, k127, n127⟩, -, X127, ⟨Lc127, hQ127, l127, y127, z127⟩, st127⟩ := Jvm.LawKit.callS X123 hx (y := (⟨"java/util/Objects", "requireNonNull", "(Ljava/lang/Object;)Ljava/lang/Object;"⟩ : MethodName)) hown (mvT hZ (hw _ (List.mem_of_getElem? (i := 223) rfl))) (mvT hZ (hw _ (List.mem_of_getElem? (i := 191) rfl))) (mvT hZ (hw _ (List.mem_of_getElem? (i := 192) rfl))) (mvT hZ (hw _ (List.mem_of_getElem? (i := 193) rfl))) (by decide) (backOf (W := 2) (rm_rn l Z a0 hw [] aX h123 n0 O123 ) hZ (hw _ (List.mem_of_getElem? (i := 193) rfl)) (hw _ (List.mem_of_getElem? (i := 192) rfl)) (by decide) (by decide)) (g := (mkF m 19 #[.val (.ref a1), .val (.ref b102), .val (.int (3 : Int32))] [(.ref aX), (.int (3 : Int32)), (.ref b102)])) rfl (by rw [hml]; rfl) (argsL := [(.ref aX)]) (rest := [(.int (3 : Int32)), (.ref b102)]) (lenOf pd_7 rfl) rfl (by show 2 * 0 + _ ≤ _; exact Nat.le_of_eq rfl) (hb hby d_jdk_56_method_4_19) (fun _ _ => ⟨rfl, e123, (by decide : 1 + 0 ≤ _), (by decide : 8 + 0 ≤ _)⟩)
  dsimp only [Pt.U, Pt.locs, Pt.cells, Pt.slots] at X127 l127 y127 z127 st127 hQ127
  subst l127 y127 z127
  obtain ⟨rfl, Nq127, e127⟩ := hQ127
  have N127 := Fr.app N123 Nq127
  obtain ⟨cl128, Ar128, q128, S128, Ne128, H128, G128⟩ := id V123
  have hin128 : ¬ ((3 : Int32) < 0 ∨ cl128.slots.size ≤ ((3 : Int32)).toNatClampNeg) := inb_of S128 ⟨by decide, by decide⟩
  have f129 := (f122.wr W123)
  obtain ⟨T130, h130, X130, e130, W130, st130⟩ := stR X127 hx hZ e127 Ar128 (j := (3 : Int32)) hin128 rfl (Sto.ofV Ar128 q128 Ov102 (Ins.of_exa f129 (hw _ (List.mem_of_getElem? (i := 80) rfl)))) (g := (mkF m 22 #[.val (.ref a1), .val (.ref b102), .val (.int (3 : Int32))] [(.ref aX), (.int (3 : Int32)), (.ref b102)])) rfl rfl (hb hby d_jdk_56_method_4_22)
  have V130 : Arv Z h130 b102 k102 (.object "java/lang/Object") (8 : Int32) [(.ref aX), (.ref aX), (.ref aX), (.ref aX), .null, .null, .null, .null] .null := Arv.set Ar128 q128 S128 Ne128 H128 G128 rfl W130 3 rfl (Nat.le_of_ble_eq_true rfl)
  have N130 := Fr.snoc X130 N127 g_b102
  have O130 := O123.wr W130 g_b102
  have K130 := K123.wr W130 (Or.inr sz_b102)
  have f131 := (f124.other W130 ne_a1_b102)
  obtain ⟨cl132, Ar132, -, S132, Ne132, -, -⟩ := id f131
  obtain ⟨cl133, Ar133, q133, S133, Ne133, H133, G133⟩ := id f131
  have hin133 : ¬ ((4 : Int32) < 0 ∨ cl133.slots.size ≤ ((4 : Int32)).toNatClampNeg) := inb_of S133 ⟨by decide, by decide⟩
  have hat133 : cl133.slots[((4 : Int32)).toNatClampNeg]? = some (.ref aX) := H133.at hin133 rfl
  obtain ⟨_, _, ⟨T134, L134, k134, n134⟩, -, X134, ⟨Lc134, hQ134, l134, y134, z134⟩, st134⟩ := Jvm.LawKit.callS X130 hx (y := (⟨"java/util/Objects", "requireNonNull", "(Ljava/lang/Object;)Ljava/lang/Object;"⟩ : MethodName)) hown (mvT hZ (hw _ (List.mem_of_getElem? (i := 223) rfl))) (mvT hZ (hw _ (List.mem_of_getElem? (i := 191) rfl))) (mvT hZ (hw _ (List.mem_of_getElem? (i := 192) rfl))) (mvT hZ (hw _ (List.mem_of_getElem? (i := 193) rfl))) (by decide) (backOf (W := 2) (rm_rn l Z a0 hw [] aX h130 n0 O130 ) hZ (hw _ (List.mem_of_getElem? (i := 193) rfl)) (hw _ (List.mem_of_getElem? (i := 192) rfl)) (by decide) (by decide)) (g := (mkF m 19 #[.val (.ref a1), .val (.ref b102), .val (.int (4 : Int32))] [(.ref aX), (.int (4 : Int32)), (.ref b102)])) rfl (by rw [hml]; rfl) (argsL := [(.ref aX)]) (rest := [(.int (4 : Int32)), (.ref b102)]) (lenOf pd_7 rfl) rfl (by show 2 * 0 + _ ≤ _; exact Nat.le_of_eq rfl) (hb hby d_jdk_56_method_4_19) (fun _ _ => ⟨rfl, e130, (by decide : 1 + 0 ≤ _), (by decide : 8 + 0 ≤ _)⟩)
  dsimp only [Pt.U, Pt.locs, Pt.cells, Pt.slots] at X134 l134 y134 z134 st134 hQ134
  subst l134 y134 z134
  obtain ⟨rfl, Nq134, e134⟩ := hQ134
  have N134 := Fr.app N130 Nq134
  obtain ⟨cl135, Ar135, q135, S135, Ne135, H135, G135⟩ := id V130
  have hin135 : ¬ ((4 : Int32) < 0 ∨ cl135.slots.size ≤ ((4 : Int32)).toNatClampNeg) := inb_of S135 ⟨by decide, by decide⟩
  have f136 := (f129.wr W130)
  obtain ⟨T137, h137, X137, e137, W137, st137⟩ := stR X134 hx hZ e134 Ar135 (j := (4 : Int32)) hin135 rfl (Sto.ofV Ar135 q135 Ov102 (Ins.of_exa f136 (hw _ (List.mem_of_getElem? (i := 80) rfl)))) (g := (mkF m 22 #[.val (.ref a1), .val (.ref b102), .val (.int (4 : Int32))] [(.ref aX), (.int (4 : Int32)), (.ref b102)])) rfl rfl (hb hby d_jdk_56_method_4_22)
  have V137 : Arv Z h137 b102 k102 (.object "java/lang/Object") (8 : Int32) [(.ref aX), (.ref aX), (.ref aX), (.ref aX), (.ref aX), .null, .null, .null] .null := Arv.set Ar135 q135 S135 Ne135 H135 G135 rfl W137 4 rfl (Nat.le_of_ble_eq_true rfl)
  have N137 := Fr.snoc X137 N134 g_b102
  have O137 := O130.wr W137 g_b102
  have K137 := K130.wr W137 (Or.inr sz_b102)
  have f138 := (f131.other W137 ne_a1_b102)
  obtain ⟨cl139, Ar139, -, S139, Ne139, -, -⟩ := id f138
  obtain ⟨cl140, Ar140, q140, S140, Ne140, H140, G140⟩ := id f138
  have hin140 : ¬ ((5 : Int32) < 0 ∨ cl140.slots.size ≤ ((5 : Int32)).toNatClampNeg) := inb_of S140 ⟨by decide, by decide⟩
  have hat140 : cl140.slots[((5 : Int32)).toNatClampNeg]? = some (.ref aX) := H140.at hin140 rfl
  obtain ⟨_, _, ⟨T141, L141, k141, n141⟩, -, X141, ⟨Lc141, hQ141, l141, y141, z141⟩, st141⟩ := Jvm.LawKit.callS X137 hx (y := (⟨"java/util/Objects", "requireNonNull", "(Ljava/lang/Object;)Ljava/lang/Object;"⟩ : MethodName)) hown (mvT hZ (hw _ (List.mem_of_getElem? (i := 223) rfl))) (mvT hZ (hw _ (List.mem_of_getElem? (i := 191) rfl))) (mvT hZ (hw _ (List.mem_of_getElem? (i := 192) rfl))) (mvT hZ (hw _ (List.mem_of_getElem? (i := 193) rfl))) (by decide) (backOf (W := 2) (rm_rn l Z a0 hw [] aX h137 n0 O137 ) hZ (hw _ (List.mem_of_getElem? (i := 193) rfl)) (hw _ (List.mem_of_getElem? (i := 192) rfl)) (by decide) (by decide)) (g := (mkF m 19 #[.val (.ref a1), .val (.ref b102), .val (.int (5 : Int32))] [(.ref aX), (.int (5 : Int32)), (.ref b102)])) rfl (by rw [hml]; rfl) (argsL := [(.ref aX)]) (rest := [(.int (5 : Int32)), (.ref b102)]) (lenOf pd_7 rfl) rfl (by show 2 * 0 + _ ≤ _; exact Nat.le_of_eq rfl) (hb hby d_jdk_56_method_4_19) (fun _ _ => ⟨rfl, e137, (by decide : 1 + 0 ≤ _), (by decide : 8 + 0 ≤ _)⟩)
  dsimp only [Pt.U, Pt.locs, Pt.cells, Pt.slots] at X141 l141 y141 z141 st141 hQ141
  subst l141 y141 z141
  obtain ⟨rfl, Nq141, e141⟩ := hQ141
  have N141 := Fr.app N137 Nq141
  obtain ⟨cl142, Ar142, q142, S142, Ne142, H142, G142⟩ := id V137
  have hin142 : ¬ ((5 : Int32) < 0 ∨ cl142.slots.size ≤ ((5 : Int32)).toNatClampNeg) := inb_of S142 ⟨by decide, by decide⟩
  have f143 := (f136.wr W137)
  obtain ⟨T144, h144, X144, e144, W144, st144⟩ := stR X141 hx hZ e141 Ar142 (j := (5 : Int32)) hin142 rfl (Sto.ofV Ar142 q142 Ov102 (Ins.of_exa f143 (hw _ (List.mem_of_getElem? (i := 80) rfl)))) (g := (mkF m 22 #[.val (.ref a1), .val (.ref b102), .val (.int (5 : Int32))] [(.ref aX), (.int (5 : Int32)), (.ref b102)])) rfl rfl (hb hby d_jdk_56_method_4_22)
  have V144 : Arv Z h144 b102 k102 (.object "java/lang/Object") (8 : Int32) [(.ref aX), (.ref aX), (.ref aX), (.ref aX), (.ref aX), (.ref aX), .null, .null] .null := Arv.set Ar142 q142 S142 Ne142 H142 G142 rfl W144 5 rfl (Nat.le_of_ble_eq_true rfl)
  have N144 := Fr.snoc X144 N141 g_b102
  have O144 := O137.wr W144 g_b102
  have K144 := K137.wr W144 (Or.inr sz_b102)
  have f145 := (f138.other W144 ne_a1_b102)
  obtain ⟨cl146, Ar146, -, S146, Ne146, -, -⟩ := id f145
  obtain ⟨cl147, Ar147, q147, S147, Ne147, H147, G147⟩ := id f145
  have hin147 : ¬ ((6 : Int32) < 0 ∨ cl147.slots.size ≤ ((6 : Int32)).toNatClampNeg) := inb_of S147 ⟨by decide, by decide⟩
  have hat147 : cl147.slots[((6 : Int32)).toNatClampNeg]? = some (.ref aX) := H147.at hin147 rfl
  obtain ⟨_, _, ⟨T148, L148, k148, n148⟩, -, X148, ⟨Lc148, hQ148, l148, y148, z148⟩, st148⟩ := Jvm.LawKit.callS X144 hx (y := (⟨"java/util/Objects", "requireNonNull", "(Ljava/lang/Object;)Ljava/lang/Object;"⟩ : MethodName)) hown (mvT hZ (hw _ (List.mem_of_getElem? (i := 223) rfl))) (mvT hZ (hw _ (List.mem_of_getElem? (i := 191) rfl))) (mvT hZ (hw _ (List.mem_of_getElem? (i := 192) rfl))) (mvT hZ (hw _ (List.mem_of_getElem? (i := 193) rfl))) (by decide) (backOf (W := 2) (rm_rn l Z a0 hw [] aX h144 n0 O144 ) hZ (hw _ (List.mem_of_getElem? (i := 193) rfl)) (hw _ (List.mem_of_getElem? (i := 192) rfl)) (by decide) (by decide)) (g := (mkF m 19 #[.val (.ref a1), .val (.ref b102), .val (.int (6 : Int32))] [(.ref aX), (.int (6 : Int32)), (.ref b102)])) rfl (by rw [hml]; rfl) (argsL := [(.ref aX)]) (rest := [(.int (6 : Int32)), (.ref b102)]) (lenOf pd_7 rfl) rfl (by show 2 * 0 + _ ≤ _; exact Nat.le_of_eq rfl) (hb hby d_jdk_56_method_4_19) (fun _ _ => ⟨rfl, e144, (by decide : 1 + 0 ≤ _), (by decide : 8 + 0 ≤ _)⟩)
  dsimp only [Pt.U, Pt.locs, Pt.cells, Pt.slots] at X148 l148 y148 z148 st148 hQ148
  subst l148 y148 z148
  obtain ⟨rfl, Nq148, e148⟩ := hQ148
  have N148 := Fr.app N144 Nq148
  obtain ⟨cl149, Ar149, q149, S149, Ne149, H149, G149⟩ := id V144
  have hin149 : ¬ ((6 : Int32) < 0 ∨ cl149.slots.size ≤ ((6 : Int32)).toNatClampNeg) := inb_of S149 ⟨by decide, by decide⟩
  have f150 := (f143.wr W144)
  obtain ⟨T151, h151, X151, e151, W151, st151⟩ := stR X148 hx hZ e148 Ar149 (j := (6 : Int32)) hin149 rfl (Sto.ofV Ar149 q149 Ov102 (Ins.of_exa f150 (hw _ (List.mem_of_getElem? (i := 80) rfl)))) (g := (mkF m 22 #[.val (.ref a1), .val (.ref b102), .val (.int (6 : Int32))] [(.ref aX), (.int (6 : Int32)), (.ref b102)])) rfl rfl (hb hby d_jdk_56_method_4_22)
  have V151 : Arv Z h151 b102 k102 (.object "java/lang/Object") (8 : Int32) [(.ref aX), (.ref aX), (.ref aX), (.ref aX), (.ref aX), (.ref aX), (.ref aX), .null] .null := Arv.set Ar149 q149 S149 Ne149 H149 G149 rfl W151 6 rfl (Nat.le_of_ble_eq_true rfl)
  have N151 := Fr.snoc X151 N148 g_b102
  have O151 := O144.wr W151 g_b102
  have K151 := K144.wr W151 (Or.inr sz_b102)
  have f152 := (f145.other W151 ne_a1_b102)
  obtain ⟨cl153, Ar153, -, S153, Ne153, -, -⟩ := id f152
  obtain ⟨cl154, Ar154, q154, S154, Ne154, H154, G154⟩ := id f152
  have hin154 : ¬ ((7 : Int32) < 0 ∨ cl154.slots.size ≤ ((7 : Int32)).toNatClampNeg) := inb_of S154 ⟨by decide, by decide⟩
  have hat154 : cl154.slots[((7 : Int32)).toNatClampNeg]? = some (.ref aX) := H154.at hin154 rfl
  obtain ⟨_, _, ⟨T155, L155, k155, n155⟩, -, X155, ⟨Lc155, hQ155, l155, y155, z155⟩, st155⟩ := Jvm.LawKit.callS X151 hx (y := (⟨"java/util/Objects", "requireNonNull", "(Ljava/lang/Object;)Ljava/lang/Object;"⟩ : MethodName)) hown (mvT hZ (hw _ (List.mem_of_getElem? (i := 223) rfl))) (mvT hZ (hw _ (List.mem_of_getElem? (i := 191) rfl))) (mvT hZ (hw _ (List.mem_of_getElem? (i := 192) rfl))) (mvT hZ (hw _ (List.mem_of_getElem? (i := 193) rfl))) (by decide) (backOf (W := 2) (rm_rn l Z a0 hw [] aX h151 n0 O151 ) hZ (hw _ (List.mem_of_getElem? (i := 193) rfl)) (hw _ (List.mem_of_getElem? (i := 192) rfl)) (by decide) (by decide)) (g := (mkF m 19 #[.val (.ref a1), .val (.ref b102), .val (.int (7 : Int32))] [(.ref aX), (.int (7 : Int32)), (.ref b102)])) rfl (by rw [hml]; rfl) (argsL := [(.ref aX)]) (rest := [(.int (7 : Int32)), (.ref b102)]) (lenOf pd_7 rfl) rfl (by show 2 * 0 + _ ≤ _; exact Nat.le_of_eq rfl) (hb hby d_jdk_56_method_4_19) (fun _ _ => ⟨rfl, e151, (by decide : 1 + 0 ≤ _), (by decide : 8 + 0 ≤ _)⟩)
  dsimp only [Pt.U, Pt.locs, Pt.cells, Pt.slots] at X155 l155 y155 z155 st155 hQ155
  subst l155 y155 z155
  obtain ⟨rfl, Nq155, e155⟩ := hQ155
  have N155 := Fr.app N151 Nq155
  obtain ⟨cl156, Ar156, q156, S156, Ne156, H156, G156⟩ := id V151
  have hin156 : ¬ ((7 : Int32) < 0 ∨ cl156.slots.size ≤ ((7 : Int32)).toNatClampNeg) := inb_of S156 ⟨by decide, by decide⟩
  have f157 := (f150.wr W151)
  obtain ⟨T158, h158, X158, e158, W158, st158⟩ := stR X155 hx hZ e155 Ar156 (j := (7 : Int32)) hin156 rfl (Sto.ofV Ar156 q156 Ov102 (Ins.of_exa f157 (hw _ (List.mem_of_getElem? (i := 80) rfl)))) (g := (mkF m 22 #[.val (.ref a1), .val (.ref b102), .val (.int (7 : Int32))] [(.ref aX), (.int (7 : Int32)), (.ref b102)])) rfl rfl (hb hby d_jdk_56_method_4_22)
  have V158 : Arv Z h158 b102 k102 (.object "java/lang/Object") (8 : Int32) [(.ref aX), (.ref aX), (.ref aX), (.ref aX), (.ref aX), (.ref aX), (.ref aX), (.ref aX)] .null := Arv.set Ar156 q156 S156 Ne156 H156 G156 rfl W158 7 rfl (Nat.le_of_ble_eq_true rfl)
  have N158 := Fr.snoc X158 N155 g_b102
  have O158 := O151.wr W158 g_b102
  have K158 := K151.wr W158 (Or.inr sz_b102)
  have f159 := (f152.other W158 ne_a1_b102)
  obtain ⟨cl160, Ar160, -, S160, Ne160, -, -⟩ := id f159
  obtain ⟨T161, h161, X161, e161, E161, A161, D161, -, st161⟩ := newO X158 hx hZ hown (hw _ (List.mem_of_getElem? (i := 130) rfl)) (hw _ (List.mem_of_getElem? (i := 224) rfl)) (hw _ (List.mem_of_getElem? (i := 225) rfl)) e158 (g := (mkF m 29 #[.val (.ref a1), .val (.ref b102), .val (.int (8 : Int32))] [])) rfl (hb hby d_jdk_56_method_4_29) (by decide) (by decide)
  obtain ⟨b161, g161⟩ : ∃ z, z = h158.size := ⟨_, rfl⟩
  rw [← g161] at A161 D161 st161
  have g_b161 : n0 ≤ b161 := Nat.le_trans (own_szO O158) (Nat.le_of_eq g161.symm)
  have sz_b161 : h0.size ≤ b161 := Nat.le_trans K158.1 (Nat.le_of_eq g161.symm)
  have ne_a1_b161 : a1 ≠ b161 := Nat.ne_of_lt (Nat.lt_of_lt_of_le f159.lt (Nat.le_of_eq g161.symm))
  have f162 := (f157.wr W158)
  have ne_aX_b161 : aX ≠ b161 := Nat.ne_of_lt (Nat.lt_of_lt_of_le f162.lt (Nat.le_of_eq g161.symm))
  have f163 := ((((((((Ex102.wr W109).wr W116).wr W123).wr W130).wr W137).wr W144).wr W151).wr W158)
  have ne_b102_b161 : b102 ≠ b161 := Nat.ne_of_lt (Nat.lt_of_lt_of_le f163.lt (Nat.le_of_eq g161.symm))
  have O161 := O158.ext E161
  have K161 := K158.ext E161
  have F161_elements : Fld Z h161 b161 "java/util/ImmutableCollections$ListN" "elements" "[Ljava/lang/Object;" .null := D161 (Or.inr (hw _ (List.mem_of_getElem? (i := 235) rfl))) (ty := (.array (.object "java/lang/Object"))) (by decide)
  have F161_allowNulls : Fld Z h161 b161 "java/util/ImmutableCollections$ListN" "allowNulls" "Z" (.int (0 : Int32)) := D161 (Or.inr (hw _ (List.mem_of_getElem? (i := 237) rfl))) (ty := .boolean) (by decide)
  obtain ⟨_, _, ⟨T164, L164, k164, n164⟩, -, X164, ⟨Lc164, hQ164, l164, y164, z164⟩, st164⟩ := X161.specialBackNest hx (y := (⟨"java/util/ImmutableCollections$ListN", "<init>", "([Ljava/lang/Object;Z)V"⟩ : MethodName)) rfl hown (own_mvMN hZ (hw _ (List.mem_of_getElem? (i := 226) rfl))) (mvT hZ (hw _ (List.mem_of_getElem? (i := 227) rfl))) (mvT hZ (hw _ (List.mem_of_getElem? (i := 229) rfl))) (by decide) (backOf (W := 1) (rm_ln l Z a0 hw [] b161 b102 (.null) ((.int (0 : Int32))) h161 n0 O161 A161 F161_elements F161_allowNulls g_b161) hZ (hw _ (List.mem_of_getElem? (i := 229) rfl)) (hw _ (List.mem_of_getElem? (i := 225) rfl)) (by decide) (by decide)) (g := (mkF m 35 #[.val (.ref a1), .val (.ref b102), .val (.int (8 : Int32))] [(.int (0 : Int32)), (.ref b102), (.ref b161), (.ref b161)])) rfl (by rw [hml]; rfl) (Steps.refl _) (a := b161) (argsL := [(.ref b102), (.int (0 : Int32))]) (rest := [(.ref b161)]) (lenOf pd_8 rfl) rfl (by show 2 * 0 + _ ≤ _; exact Nat.le_of_eq rfl) (hb hby d_jdk_56_method_4_35) (fun _ _ => ⟨rfl, e161, (by decide : 2 + 0 ≤ _), (by decide : 10 + 0 ≤ _)⟩)
  dsimp only [Pt.U, Pt.locs, Pt.cells, Pt.slots] at X164 l164 y164 z164 st164 hQ164
  subst l164 y164 z164
  obtain ⟨rfl, Nq164, Kq164, El164⟩ := hQ164
  have N164 := Fr.app N158 Nq164
  have O164 := O161.keep Kq164 (allS g_b161 all0)
  have K164 := K161.trans Kq164 (allS (Or.inr sz_b161) all0)
  obtain ⟨fs, hr, hrun, hended, hW, hsame⟩ := X164.leave (v := some (.ref b161)) (fun h => by rw [Bd.returns] at h; cases h)
  refine ⟨_, _, pre0 _ ?_, hrun, hended, _, _, rfl, ?_, ⟨_, rfl⟩, hW, hsame.mono (by decide) (by decide)⟩
  · show Steps p.tables e below (s₁.setTop (mkF m 0 #[.val (.ref a1), .unset, .unset] [])) _
    refine XS.aloadN X0.here hx rfl (hb hby d_jdk_56_method_4_0) rfl rfl ?_
    show Steps p.tables e below (s₁.setTop (mkF m 1 #[.val (.ref a1), .unset, .unset] [(.ref a1)])) _
    refine X0.arraylength hx (by rw [e0]; exact Ar101.1) (State.isArrayOf_alike hZ.alike Ar101.2.1) (g := (mkF m 1 #[.val (.ref a1), .unset, .unset] [(.ref a1)])) rfl rfl (hb hby d_jdk_56_method_4_1) _ ?_
    rw [len_of S101 Ne101]
    show Steps p.tables e below (s₁.setTop (mkF m 2 #[.val (.ref a1), .unset, .unset] [(.int (8 : Int32))])) _
    refine st102 _ ?_
    show Steps p.tables e below (T102.setTop (mkF m 5 #[.val (.ref a1), .unset, .unset] [(.ref b102)])) _
    refine XS.astoreN X102.here hx rfl (hb hby d_jdk_56_method_4_5) rfl rfl (l' := #[.val (.ref a1), .val (.ref b102), .unset]) rfl ?_
    refine XS.iconst X102.here hx rfl (hb hby d_jdk_56_method_4_6) ?_
    refine XS.istoreN X102.here hx rfl (hb hby d_jdk_56_method_4_7) rfl (l' := #[.val (.ref a1), .val (.ref b102), .val (.int (0 : Int32))]) rfl ?_
    refine XS.iloadN X102.here hx rfl (hb hby d_jdk_56_method_4_8) rfl ?_
    show Steps p.tables e below (T102.setTop (mkF m 9 #[.val (.ref a1), .val (.ref b102), .val (.int (0 : Int32))] [(.int (0 : Int32))])) _
    refine XS.aloadN X102.here hx rfl (hb hby d_jdk_56_method_4_9) rfl rfl ?_
    show Steps p.tables e below (T102.setTop (mkF m 10 #[.val (.ref a1), .val (.ref b102), .val (.int (0 : Int32))] [(.ref a1), (.int (0 : Int32))])) _
    refine X102.arraylength hx (by rw [e102]; exact Ar104.1) (State.isArrayOf_alike hZ.alike Ar104.2.1) (g := (mkF m 10 #[.val (.ref a1), .val (.ref b102), .val (.int (0 : Int32))] [(.ref a1), (.int (0 : Int32))])) rfl rfl (hb hby d_jdk_56_method_4_10) _ ?_
    rw [len_of S104 Ne104]
    show Steps p.tables e below (T102.setTop (mkF m 11 #[.val (.ref a1), .val (.ref b102), .val (.int (0 : Int32))] [(.int (8 : Int32)), (.int (0 : Int32))])) _
    refine XS.icmpNo X102.here hx rfl (hb hby d_jdk_56_method_4_11) rfl (tlt (by decide : (0 : Int32) < (8 : Int32))).2.1 ?_
    refine XS.aloadN X102.here hx rfl (hb hby d_jdk_56_method_4_14) rfl rfl ?_
    refine XS.iloadN X102.here hx rfl (hb hby d_jdk_56_method_4_15) rfl ?_
    refine XS.aloadN X102.here hx rfl (hb hby d_jdk_56_method_4_16) rfl rfl ?_
    show Steps p.tables e below (T102.setTop (mkF m 17 #[.val (.ref a1), .val (.ref b102), .val (.int (0 : Int32))] [(.ref a1), (.int (0 : Int32)), (.ref b102)])) _
    refine XS.iloadN X102.here hx rfl (hb hby d_jdk_56_method_4_17) rfl ?_
    show Steps p.tables e below (T102.setTop (mkF m 18 #[.val (.ref a1), .val (.ref b102), .val (.int (0 : Int32))] [(.int (0 : Int32)), (.ref a1), (.int (0 : Int32)), (.ref b102)])) _
    refine X102.aaload hx (j := (0 : Int32)) (v := (.ref aX)) (by rw [e102]; exact Ar105.1) (State.isArrayOf_alike hZ.alike Ar105.2.1) rfl Ar105.2.2 hin105 hat105 (g := (mkF m 18 #[.val (.ref a1), .val (.ref b102), .val (.int (0 : Int32))] [(.int (0 : Int32)), (.ref a1), (.int (0 : Int32)), (.ref b102)])) rfl rfl (hb hby d_jdk_56_method_4_18) _ ?_
    show Steps p.tables e below (T102.setTop (mkF m 19 #[.val (.ref a1), .val (.ref b102), .val (.int (0 : Int32))] [(.ref aX), (.int (0 : Int32)), (.ref b102)])) _
    refine st106 _ ?_
    show Steps p.tables e below (T106.setTop (mkF m 22 #[.val (.ref a1), .val (.ref b102), .val (.int (0 : Int32))] [(.ref aX), (.int (0 : Int32)), (.ref b102)])) _
    refine st109 _ ?_
    show Steps p.tables e below (T109.setTop (mkF m 23 #[.val (.ref a1), .val (.ref b102), .val (.int (0 : Int32))] [])) _
    refine XS.iinc X109.here hx rfl (hb hby d_jdk_56_method_4_23) rfl (l' := #[.val (.ref a1), .val (.ref b102), .val (.int ((0 : Int32) + (1 : Int32)))]) rfl ?_
    show Steps p.tables e below (T109.setTop (mkF m 26 #[.val (.ref a1), .val (.ref b102), .val (.int ((0 : Int32) + (1 : Int32)))] [])) _
    rw [show ((0 : Int32) + (1 : Int32)) = (1 : Int32) from (by decide)]
    show Steps p.tables e below (T109.setTop (mkF m 26 #[.val (.ref a1), .val (.ref b102), .val (.int (1 : Int32))] [])) _
    refine XS.goto X109.here hx rfl (pc0 := 26) (pc' := 8) rfl (hb hby d_jdk_56_method_4_26) (by decide) (by decide) ?_
    refine XS.iloadN X109.here hx rfl (hb hby d_jdk_56_method_4_8) rfl ?_
    refine XS.aloadN X109.here hx rfl (hb hby d_jdk_56_method_4_9) rfl rfl ?_
    show Steps p.tables e below (T109.setTop (mkF m 10 #[.val (.ref a1), .val (.ref b102), .val (.int (1 : Int32))] [(.ref a1), (.int (1 : Int32))])) _
    refine X109.arraylength hx (by rw [e109]; exact Ar111.1) (State.isArrayOf_alike hZ.alike Ar111.2.1) (g := (mkF m 10 #[.val (.ref a1), .val (.ref b102), .val (.int (1 : Int32))] [(.ref a1), (.int (1 : Int32))])) rfl rfl (hb hby d_jdk_56_method_4_10) _ ?_
    rw [len_of S111 Ne111]
    show Steps p.tables e below (T109.setTop (mkF m 11 #[.val (.ref a1), .val (.ref b102), .val (.int (1 : Int32))] [(.int (8 : Int32)), (.int (1 : Int32))])) _
    refine XS.icmpNo X109.here hx rfl (hb hby d_jdk_56_method_4_11) rfl (tlt (by decide : (1 : Int32) < (8 : Int32))).2.1 ?_
    refine XS.aloadN X109.here hx rfl (hb hby d_jdk_56_method_4_14) rfl rfl ?_
    refine XS.iloadN X109.here hx rfl (hb hby d_jdk_56_method_4_15) rfl ?_
    refine XS.aloadN X109.here hx rfl (hb hby d_jdk_56_method_4_16) rfl rfl ?_
    show Steps p.tables e below (T109.setTop (mkF m 17 #[.val (.ref a1), .val (.ref b102), .val (.int (1 : Int32))] [(.ref a1), (.int (1 : Int32)), (.ref b102)])) _
    refine XS.iloadN X109.here hx rfl (hb hby d_jdk_56_method_4_17) rfl ?_
    show Steps p.tables e below (T109.setTop (mkF m 18 #[.val (.ref a1), .val (.ref b102), .val (.int (1 : Int32))] [(.int (1 : Int32)), (.ref a1), (.int (1 : Int32)), (.ref b102)])) _
    refine X109.aaload hx (j := (1 : Int32)) (v := (.ref aX)) (by rw [e109]; exact Ar112.1) (State.isArrayOf_alike hZ.alike Ar112.2.1) rfl Ar112.2.2 hin112 hat112 (g := (mkF m 18 #[.val (.ref a1), .val (.ref b102), .val (.int (1 : Int32))] [(.int (1 : Int32)), (.ref a1), (.int (1 : Int32)), (.ref b102)])) rfl rfl (hb hby d_jdk_56_method_4_18) _ ?_
    show Steps p.tables e below (T109.setTop (mkF m 19 #[.val (.ref a1), .val (.ref b102), .val (.int (1 : Int32))] [(.ref aX), (.int (1 : Int32)), (.ref b102)])) _
    refine st113 _ ?_
    show Steps p.tables e below (T113.setTop (mkF m 22 #[.val (.ref a1), .val (.ref b102), .val (.int (1 : Int32))] [(.ref aX), (.int (1 : Int32)), (.ref b102)])) _
    refine st116 _ ?_
    show Steps p.tables e below (T116.setTop (mkF m 23 #[.val (.ref a1), .val (.ref b102), .val (.int (1 : Int32))] [])) _
    refine XS.iinc X116.here hx rfl (hb hby d_jdk_56_method_4_23) rfl (l' := #[.val (.ref a1), .val (.ref b102), .val (.int ((1 : Int32) + (1 : Int32)))]) rfl ?_
    show Steps p.tables e below (T116.setTop (mkF m 26 #[.val (.ref a1), .val (.ref b102), .val (.int ((1 : Int32) + (1 : Int32)))] [])) _
    rw [show ((1 : Int32) + (1 : Int32)) = (2 : Int32) from (by decide)]
    show Steps p.tables e below (T116.setTop (mkF m 26 #[.val (.ref a1), .val (.ref b102), .val (.int (2 : Int32))] [])) _
    refine XS.goto X116.here hx rfl (pc0 := 26) (pc' := 8) rfl (hb hby d_jdk_56_method_4_26) (by decide) (by decide) ?_
    refine XS.iloadN X116.here hx rfl (hb hby d_jdk_56_method_4_8) rfl ?_
    refine XS.aloadN X116.here hx rfl (hb hby d_jdk_56_method_4_9) rfl rfl ?_
    show Steps p.tables e below (T116.setTop (mkF m 10 #[.val (.ref a1), .val (.ref b102), .val (.int (2 : Int32))] [(.ref a1), (.int (2 : Int32))])) _
    refine X116.arraylength hx (by rw [e116]; exact Ar118.1) (State.isArrayOf_alike hZ.alike Ar118.2.1) (g := (mkF m 10 #[.val (.ref a1), .val (.ref b102), .val (.int (2 : Int32))] [(.ref a1), (.int (2 : Int32))])) rfl rfl (hb hby d_jdk_56_method_4_10) _ ?_
    rw [len_of S118 Ne118]
    show Steps p.tables e below (T116.setTop (mkF m 11 #[.val (.ref a1), .val (.ref b102), .val (.int (2 : Int32))] [(.int (8 : Int32)), (.int (2 : Int32))])) _
    refine XS.icmpNo X116.here hx rfl (hb hby d_jdk_56_method_4_11) rfl (tlt (by decide : (2 : Int32) < (8 : Int32))).2.1 ?_
    refine XS.aloadN X116.here hx rfl (hb hby d_jdk_56_method_4_14) rfl rfl ?_
    refine XS.iloadN X116.here hx rfl (hb hby d_jdk_56_method_4_15) rfl ?_
    refine XS.aloadN X116.here hx rfl (hb hby d_jdk_56_method_4_16) rfl rfl ?_
    show Steps p.tables e below (T116.setTop (mkF m 17 #[.val (.ref a1), .val (.ref b102), .val (.int (2 : Int32))] [(.ref a1), (.int (2 : Int32)), (.ref b102)])) _
    refine XS.iloadN X116.here hx rfl (hb hby d_jdk_56_method_4_17) rfl ?_
    show Steps p.tables e below (T116.setTop (mkF m 18 #[.val (.ref a1), .val (.ref b102), .val (.int (2 : Int32))] [(.int (2 : Int32)), (.ref a1), (.int (2 : Int32)), (.ref b102)])) _
    refine X116.aaload hx (j := (2 : Int32)) (v := (.ref aX)) (by rw [e116]; exact Ar119.1) (State.isArrayOf_alike hZ.alike Ar119.2.1) rfl Ar119.2.2 hin119 hat119 (g := (mkF m 18 #[.val (.ref a1), .val (.ref b102), .val (.int (2 : Int32))] [(.int (2 : Int32)), (.ref a1), (.int (2 : Int32)), (.ref b102)])) rfl rfl (hb hby d_jdk_56_method_4_18) _ ?_
    show Steps p.tables e below (T116.setTop (mkF m 19 #[.val (.ref a1), .val (.ref b102), .val (.int (2 : Int32))] [(.ref aX), (.int (2 : Int32)), (.ref b102)])) _
    refine st120 _ ?_
    show Steps p.tables e below (T120.setTop (mkF m 22 #[.val (.ref a1), .val (.ref b102), .val (.int (2 : Int32))] [(.ref aX), (.int (2 : Int32)), (.ref b102)])) _
    refine st123 _ ?_
    show Steps p.tables e below (T123.setTop (mkF m 23 #[.val (.ref a1), .val (.ref b102), .val (.int (2 : Int32))] [])) _
    refine XS.iinc X123.here hx rfl (hb hby d_jdk_56_method_4_23) rfl (l' := #[.val (.ref a1), .val (.ref b102), .val (.int ((2 : Int32) + (1 : Int32)))]) rfl ?_
    show Steps p.tables e below (T123.setTop (mkF m 26 #[.val (.ref a1), .val (.ref b102), .val (.int ((2 : Int32) + (1 : Int32)))] [])) _
    rw [show ((2 : Int32) + (1 : Int32)) = (3 : Int32) from (by decide)]
    show Steps p.tables e below (T123.setTop (mkF m 26 #[.val (.ref a1), .val (.ref b102), .val (.int (3 : Int32))] [])) _
    refine XS.goto X123.here hx rfl (pc0 := 26) (pc' := 8) rfl (hb hby d_jdk_56_method_4_26) (by decide) (by decide) ?_
    refine XS.iloadN X123.here hx rfl (hb hby d_jdk_56_method_4_8) rfl ?_
    refine XS.aloadN X123.here hx rfl (hb hby d_jdk_56_method_4_9) rfl rfl ?_
    show Steps p.tables e below (T123.setTop (mkF m 10 #[.val (.ref a1), .val (.ref b102), .val (.int (3 : Int32))] [(.ref a1), (.int (3 : Int32))])) _
    refine X123.arraylength hx (by rw [e123]; exact Ar125.1) (State.isArrayOf_alike hZ.alike Ar125.2.1) (g := (mkF m 10 #[.val (.ref a1), .val (.ref b102), .val (.int (3 : Int32))] [(.ref a1), (.int (3 : Int32))])) rfl rfl (hb hby d_jdk_56_method_4_10) _ ?_
    rw [len_of S125 Ne125]
    show Steps p.tables e below (T123.setTop (mkF m 11 #[.val (.ref a1), .val (.ref b102), .val (.int (3 : Int32))] [(.int (8 : Int32)), (.int (3 : Int32))])) _
    refine XS.icmpNo X123.here hx rfl (hb hby d_jdk_56_method_4_11) rfl (tlt (by decide : (3 : Int32) < (8 : Int32))).2.1 ?_
    refine XS.aloadN X123.here hx rfl (hb hby d_jdk_56_method_4_14) rfl rfl ?_
    refine XS.iloadN X123.here hx rfl (hb hby d_jdk_56_method_4_15) rfl ?_
    refine XS.aloadN X123.here hx rfl (hb hby d_jdk_56_method_4_16) rfl rfl ?_
    show Steps p.tables e below (T123.setTop (mkF m 17 #[.val (.ref a1), .val (.ref b102), .val (.int (3 : Int32))] [(.ref a1), (.int (3 : Int32)), (.ref b102)])) _
    refine XS.iloadN X123.here hx rfl (hb hby d_jdk_56_method_4_17) rfl ?_
    show Steps p.tables e below (T123.setTop (mkF m 18 #[.val (.ref a1), .val (.ref b102), .val (.int (3 : Int32))] [(.int (3 : Int32)), (.ref a1), (.int (3 : Int32)), (.ref b102)])) _
    refine X123.aaload hx (j := (3 : Int32)) (v := (.ref aX)) (by rw [e123]; exact Ar126.1) (State.isArrayOf_alike hZ.alike Ar126.2.1) rfl Ar126.2.2 hin126 hat126 (g := (mkF m 18 #[.val (.ref a1), .val (.ref b102), .val (.int (3 : Int32))] [(.int (3 : Int32)), (.ref a1), (.int (3 : Int32)), (.ref b102)])) rfl rfl (hb hby d_jdk_56_method_4_18) _ ?_
    show Steps p.tables e below (T123.setTop (mkF m 19 #[.val (.ref a1), .val (.ref b102), .val (.int (3 : Int32))] [(.ref aX), (.int (3 : Int32)), (.ref b102)])) _
    refine st127 _ ?_
    show Steps p.tables e below (T127.setTop (mkF m 22 #[.val (.ref a1), .val (.ref b102), .val (.int (3 : Int32))] [(.ref aX), (.int (3 : Int32)), (.ref b102)])) _
    refine st130 _ ?_
    show Steps p.tables e below (T130.setTop (mkF m 23 #[.val (.ref a1), .val (.ref b102), .val (.int (3 : Int32))] [])) _
    refine XS.iinc X130.here hx rfl (hb hby d_jdk_56_method_4_23) rfl (l' := #[.val (.ref a1), .val (.ref b102), .val (.int ((3 : Int32) + (1 : Int32)))]) rfl ?_
    show Steps p.tables e below (T130.setTop (mkF m 26 #[.val (.ref a1), .val (.ref b102), .val (.int ((3 : Int32) + (1 : Int32)))] [])) _
    rw [show ((3 : Int32) + (1 : Int32)) = (4 : Int32) from (by decide)]
    show Steps p.tables e below (T130.setTop (mkF m 26 #[.val (.ref a1), .val (.ref b102), .val (.int (4 : Int32))] [])) _
    refine XS.goto X130.here hx rfl (pc0 := 26) (pc' := 8) rfl (hb hby d_jdk_56_method_4_26) (by decide) (by decide) ?_
    refine XS.iloadN X130.here hx rfl (hb hby d_jdk_56_method_4_8) rfl ?_
    refine XS.aloadN X130.here hx rfl (hb hby d_jdk_56_method_4_9) rfl rfl ?_
    show Steps p.tables e below (T130.setTop (mkF m 10 #[.val (.ref a1), .val (.ref b102), .val (.int (4 : Int32))] [(.ref a1), (.int (4 : Int32))])) _
    refine X130.arraylength hx (by rw [e130]; exact Ar132.1) (State.isArrayOf_alike hZ.alike Ar132.2.1) (g := (mkF m 10 #[.val (.ref a1), .val (.ref b102), .val (.int (4 : Int32))] [(.ref a1), (.int (4 : Int32))])) rfl rfl (hb hby d_jdk_56_method_4_10) _ ?_
    rw [len_of S132 Ne132]
    show Steps p.tables e below (T130.setTop (mkF m 11 #[.val (.ref a1), .val (.ref b102), .val (.int (4 : Int32))] [(.int (8 : Int32)), (.int (4 : Int32))])) _
    refine XS.icmpNo X130.here hx rfl (hb hby d_jdk_56_method_4_11) rfl (tlt (by decide : (4 : Int32) < (8 : Int32))).2.1 ?_
    refine XS.aloadN X130.here hx rfl (hb hby d_jdk_56_method_4_14) rfl rfl ?_
    refine XS.iloadN X130.here hx rfl (hb hby d_jdk_56_method_4_15) rfl ?_
    refine XS.aloadN X130.here hx rfl (hb hby d_jdk_56_method_4_16) rfl rfl ?_
    show Steps p.tables e below (T130.setTop (mkF m 17 #[.val (.ref a1), .val (.ref b102), .val (.int (4 : Int32))] [(.ref a1), (.int (4 : Int32)), (.ref b102)])) _
    refine XS.iloadN X130.here hx rfl (hb hby d_jdk_56_method_4_17) rfl ?_
    show Steps p.tables e below (T130.setTop (mkF m 18 #[.val (.ref a1), .val (.ref b102), .val (.int (4 : Int32))] [(.int (4 : Int32)), (.ref a1), (.int (4 : Int32)), (.ref b102)])) _
    refine X130.aaload hx (j := (4 : Int32)) (v := (.ref aX)) (by rw [e130]; exact Ar133.1) (State.isArrayOf_alike hZ.alike Ar133.2.1) rfl Ar133.2.2 hin133 hat133 (g := (mkF m 18 #[.val (.ref a1), .val (.ref b102), .val (.int (4 : Int32))] [(.int (4 : Int32)), (.ref a1), (.int (4 : Int32)), (.ref b102)])) rfl rfl (hb hby d_jdk_56_method_4_18) _ ?_
    show Steps p.tables e below (T130.setTop (mkF m 19 #[.val (.ref a1), .val (.ref b102), .val (.int (4 : Int32))] [(.ref aX), (.int (4 : Int32)), (.ref b102)])) _
    refine st134 _ ?_
    show Steps p.tables e below (T134.setTop (mkF m 22 #[.val (.ref a1), .val (.ref b102), .val (.int (4 : Int32))] [(.ref aX), (.int (4 : Int32)), (.ref b102)])) _
    refine st137 _ ?_
    show Steps p.tables e below (T137.setTop (mkF m 23 #[.val (.ref a1), .val (.ref b102), .val (.int (4 : Int32))] [])) _
    refine XS.iinc X137.here hx rfl (hb hby d_jdk_56_method_4_23) rfl (l' := #[.val (.ref a1), .val (.ref b102), .val (.int ((4 : Int32) + (1 : Int32)))]) rfl ?_
    show Steps p.tables e below (T137.setTop (mkF m 26 #[.val (.ref a1), .val (.ref b102), .val (.int ((4 : Int32) + (1 : Int32)))] [])) _
    rw [show ((4 : Int32) + (1 : Int32)) = (5 : Int32) from (by decide)]
    show Steps p.tables e below (T137.setTop (mkF m 26 #[.val (.ref a1), .val (.ref b102), .val (.int (5 : Int32))] [])) _
    refine XS.goto X137.here hx rfl (pc0 := 26) (pc' := 8) rfl (hb hby d_jdk_56_method_4_26) (by decide) (by decide) ?_
    refine XS.iloadN X137.here hx rfl (hb hby d_jdk_56_method_4_8) rfl ?_
    refine XS.aloadN X137.here hx rfl (hb hby d_jdk_56_method_4_9) rfl rfl ?_
    show Steps p.tables e below (T137.setTop (mkF m 10 #[.val (.ref a1), .val (.ref b102), .val (.int (5 : Int32))] [(.ref a1), (.int (5 : Int32))])) _
    refine X137.arraylength hx (by rw [e137]; exact Ar139.1) (State.isArrayOf_alike hZ.alike Ar139.2.1) (g := (mkF m 10 #[.val (.ref a1), .val (.ref b102), .val (.int (5 : Int32))] [(.ref a1), (.int (5 : Int32))])) rfl rfl (hb hby d_jdk_56_method_4_10) _ ?_
    rw [len_of S139 Ne139]
    show Steps p.tables e below (T137.setTop (mkF m 11 #[.val (.ref a1), .val (.ref b102), .val (.int (5 : Int32))] [(.int (8 : Int32)), (.int (5 : Int32))])) _
    refine XS.icmpNo X137.here hx rfl (hb hby d_jdk_56_method_4_11) rfl (tlt (by decide : (5 : Int32) < (8 : Int32))).2.1 ?_
    refine XS.aloadN X137.here hx rfl (hb hby d_jdk_56_method_4_14) rfl rfl ?_
    refine XS.iloadN X137.here hx rfl (hb hby d_jdk_56_method_4_15) rfl ?_
    refine XS.aloadN X137.here hx rfl (hb hby d_jdk_56_method_4_16) rfl rfl ?_
    show Steps p.tables e below (T137.setTop (mkF m 17 #[.val (.ref a1), .val (.ref b102), .val (.int (5 : Int32))] [(.ref a1), (.int (5 : Int32)), (.ref b102)])) _
    refine XS.iloadN X137.here hx rfl (hb hby d_jdk_56_method_4_17) rfl ?_
    show Steps p.tables e below (T137.setTop (mkF m 18 #[.val (.ref a1), .val (.ref b102), .val (.int (5 : Int32))] [(.int (5 : Int32)), (.ref a1), (.int (5 : Int32)), (.ref b102)])) _
    refine X137.aaload hx (j := (5 : Int32)) (v := (.ref aX)) (by rw [e137]; exact Ar140.1) (State.isArrayOf_alike hZ.alike Ar140.2.1) rfl Ar140.2.2 hin140 hat140 (g := (mkF m 18 #[.val (.ref a1), .val (.ref b102), .val (.int (5 : Int32))] [(.int (5 : Int32)), (.ref a1), (.int (5 : Int32)), (.ref b102)])) rfl rfl (hb hby d_jdk_56_method_4_18) _ ?_
    show Steps p.tables e below (T137.setTop (mkF m 19 #[.val (.ref a1), .val (.ref b102), .val (.int (5 : Int32))] [(.ref aX), (.int (5 : Int32)), (.ref b102)])) _
    refine st141 _ ?_
    show Steps p.tables e below (T141.setTop (mkF m 22 #[.val (.ref a1), .val (.ref b102), .val (.int (5 : Int32))] [(.ref aX), (.int (5 : Int32)), (.ref b102)])) _
    refine st144 _ ?_
    show Steps p.tables e below (T144.setTop (mkF m 23 #[.val (.ref a1), .val (.ref b102), .val (.int (5 : Int32))] [])) _
    refine XS.iinc X144.here hx rfl (hb hby d_jdk_56_method_4_23) rfl (l' := #[.val (.ref a1), .val (.ref b102), .val (.int ((5 : Int32) + (1 : Int32)))]) rfl ?_
    show Steps p.tables e below (T144.setTop (mkF m 26 #[.val (.ref a1), .val (.ref b102), .val (.int ((5 : Int32) + (1 : Int32)))] [])) _
    rw [show ((5 : Int32) + (1 : Int32)) = (6 : Int32) from (by decide)]
    show Steps p.tables e below (T144.setTop (mkF m 26 #[.val (.ref a1), .val (.ref b102), .val (.int (6 : Int32))] [])) _
    refine XS.goto X144.here hx rfl (pc0 := 26) (pc' := 8) rfl (hb hby d_jdk_56_method_4_26) (by decide) (by decide) ?_
    refine XS.iloadN X144.here hx rfl (hb hby d_jdk_56_method_4_8) rfl ?_
    refine XS.aloadN X144.here hx rfl (hb hby d_jdk_56_method_4_9) rfl rfl ?_
    show Steps p.tables e below (T144.setTop (mkF m 10 #[.val (.ref a1), .val (.ref b102), .val (.int (6 : Int32))] [(.ref a1), (.int (6 : Int32))])) _
    refine X144.arraylength hx (by rw [e144]; exact Ar146.1) (State.isArrayOf_alike hZ.alike Ar146.2.1) (g := (mkF m 10 #[.val (.ref a1), .val (.ref b102), .val (.int (6 : Int32))] [(.ref a1), (.int (6 : Int32))])) rfl rfl (hb hby d_jdk_56_method_4_10) _ ?_
    rw [len_of S146 Ne146]
    show Steps p.tables e below (T144.setTop (mkF m 11 #[.val (.ref a1), .val (.ref b102), .val (.int (6 : Int32))] [(.int (8 : Int32)), (.int (6 : Int32))])) _
    refine XS.icmpNo X144.here hx rfl (hb hby d_jdk_56_method_4_11) rfl (tlt (by decide : (6 : Int32) < (8 : Int32))).2.1 ?_
    refine XS.aloadN X144.here hx rfl (hb hby d_jdk_56_method_4_14) rfl rfl ?_
    refine XS.iloadN X144.here hx rfl (hb hby d_jdk_56_method_4_15) rfl ?_
    refine XS.aloadN X144.here hx rfl (hb hby d_jdk_56_method_4_16) rfl rfl ?_
    show Steps p.tables e below (T144.setTop (mkF m 17 #[.val (.ref a1), .val (.ref b102), .val (.int (6 : Int32))] [(.ref a1), (.int (6 : Int32)), (.ref b102)])) _
    refine XS.iloadN X144.here hx rfl (hb hby d_jdk_56_method_4_17) rfl ?_
    show Steps p.tables e below (T144.setTop (mkF m 18 #[.val (.ref a1), .val (.ref b102), .val (.int (6 : Int32))] [(.int (6 : Int32)), (.ref a1), (.int (6 : Int32)), (.ref b102)])) _
    refine X144.aaload hx (j := (6 : Int32)) (v := (.ref aX)) (by rw [e144]; exact Ar147.1) (State.isArrayOf_alike hZ.alike Ar147.2.1) rfl Ar147.2.2 hin147 hat147 (g := (mkF m 18 #[.val (.ref a1), .val (.ref b102), .val (.int (6 : Int32))] [(.int (6 : Int32)), (.ref a1), (.int (6 : Int32)), (.ref b102)])) rfl rfl (hb hby d_jdk_56_method_4_18) _ ?_
    show Steps p.tables e below (T144.setTop (mkF m 19 #[.val (.ref a1), .val (.ref b102), .val (.int (6 : Int32))] [(.ref aX), (.int (6 : Int32)), (.ref b102)])) _
    refine st148 _ ?_
    show Steps p.tables e below (T148.setTop (mkF m 22 #[.val (.ref a1), .val (.ref b102), .val (.int (6 : Int32))] [(.ref aX), (.int (6 : Int32)), (.ref b102)])) _
    refine st151 _ ?_
    show Steps p.tables e below (T151.setTop (mkF m 23 #[.val (.ref a1), .val (.ref b102), .val (.int (6 : Int32))] [])) _
    refine XS.iinc X151.here hx rfl (hb hby d_jdk_56_method_4_23) rfl (l' := #[.val (.ref a1), .val (.ref b102), .val (.int ((6 : Int32) + (1 : Int32)))]) rfl ?_
    show Steps p.tables e below (T151.setTop (mkF m 26 #[.val (.ref a1), .val (.ref b102), .val (.int ((6 : Int32) + (1 : Int32)))] [])) _
    rw [show ((6 : Int32) + (1 : Int32)) = (7 : Int32) from (by decide)]
    show Steps p.tables e below (T151.setTop (mkF m 26 #[.val (.ref a1), .val (.ref b102), .val (.int (7 : Int32))] [])) _
    refine XS.goto X151.here hx rfl (pc0 := 26) (pc' := 8) rfl (hb hby d_jdk_56_method_4_26) (by decide) (by decide) ?_
    refine XS.iloadN X151.here hx rfl (hb hby d_jdk_56_method_4_8) rfl ?_
    refine XS.aloadN X151.here hx rfl (hb hby d_jdk_56_method_4_9) rfl rfl ?_
    show Steps p.tables e below (T151.setTop (mkF m 10 #[.val (.ref a1), .val (.ref b102), .val (.int (7 : Int32))] [(.ref a1), (.int (7 : Int32))])) _
    refine X151.arraylength hx (by rw [e151]; exact Ar153.1) (State.isArrayOf_alike hZ.alike Ar153.2.1) (g := (mkF m 10 #[.val (.ref a1), .val (.ref b102), .val (.int (7 : Int32))] [(.ref a1), (.int (7 : Int32))])) rfl rfl (hb hby d_jdk_56_method_4_10) _ ?_
    rw [len_of S153 Ne153]
    show Steps p.tables e below (T151.setTop (mkF m 11 #[.val (.ref a1), .val (.ref b102), .val (.int (7 : Int32))] [(.int (8 : Int32)), (.int (7 : Int32))])) _
    refine XS.icmpNo X151.here hx rfl (hb hby d_jdk_56_method_4_11) rfl (tlt (by decide : (7 : Int32) < (8 : Int32))).2.1 ?_
    refine XS.aloadN X151.here hx rfl (hb hby d_jdk_56_method_4_14) rfl rfl ?_
    refine XS.iloadN X151.here hx rfl (hb hby d_jdk_56_method_4_15) rfl ?_
    refine XS.aloadN X151.here hx rfl (hb hby d_jdk_56_method_4_16) rfl rfl ?_
    show Steps p.tables e below (T151.setTop (mkF m 17 #[.val (.ref a1), .val (.ref b102), .val (.int (7 : Int32))] [(.ref a1), (.int (7 : Int32)), (.ref b102)])) _
    refine XS.iloadN X151.here hx rfl (hb hby d_jdk_56_method_4_17) rfl ?_
    show Steps p.tables e below (T151.setTop (mkF m 18 #[.val (.ref a1), .val (.ref b102), .val (.int (7 : Int32))] [(.int (7 : Int32)), (.ref a1), (.int (7 : Int32)), (.ref b102)])) _
    refine X151.aaload hx (j := (7 : Int32)) (v := (.ref aX)) (by rw [e151]; exact Ar154.1) (State.isArrayOf_alike hZ.alike Ar154.2.1) rfl Ar154.2.2 hin154 hat154 (g := (mkF m 18 #[.val (.ref a1), .val (.ref b102), .val (.int (7 : Int32))] [(.int (7 : Int32)), (.ref a1), (.int (7 : Int32)), (.ref b102)])) rfl rfl (hb hby d_jdk_56_method_4_18) _ ?_
    show Steps p.tables e below (T151.setTop (mkF m 19 #[.val (.ref a1), .val (.ref b102), .val (.int (7 : Int32))] [(.ref aX), (.int (7 : Int32)), (.ref b102)])) _
    refine st155 _ ?_
    show Steps p.tables e below (T155.setTop (mkF m 22 #[.val (.ref a1), .val (.ref b102), .val (.int (7 : Int32))] [(.ref aX), (.int (7 : Int32)), (.ref b102)])) _
    refine st158 _ ?_
    show Steps p.tables e below (T158.setTop (mkF m 23 #[.val (.ref a1), .val (.ref b102), .val (.int (7 : Int32))] [])) _
    refine XS.iinc X158.here hx rfl (hb hby d_jdk_56_method_4_23) rfl (l' := #[.val (.ref a1), .val (.ref b102), .val (.int ((7 : Int32) + (1 : Int32)))]) rfl ?_
    show Steps p.tables e below (T158.setTop (mkF m 26 #[.val (.ref a1), .val (.ref b102), .val (.int ((7 : Int32) + (1 : Int32)))] [])) _
    rw [show ((7 : Int32) + (1 : Int32)) = (8 : Int32) from (by decide)]
    show Steps p.tables e below (T158.setTop (mkF m 26 #[.val (.ref a1), .val (.ref b102), .val (.int (8 : Int32))] [])) _
    refine XS.goto X158.here hx rfl (pc0 := 26) (pc' := 8) rfl (hb hby d_jdk_56_method_4_26) (by decide) (by decide) ?_
    refine XS.iloadN X158.here hx rfl (hb hby d_jdk_56_method_4_8) rfl ?_
    refine XS.aloadN X158.here hx rfl (hb hby d_jdk_56_method_4_9) rfl rfl ?_
    show Steps p.tables e below (T158.setTop (mkF m 10 #[.val (.ref a1), .val (.ref b102), .val (.int (8 : Int32))] [(.ref a1), (.int (8 : Int32))])) _
    refine X158.arraylength hx (by rw [e158]; exact Ar160.1) (State.isArrayOf_alike hZ.alike Ar160.2.1) (g := (mkF m 10 #[.val (.ref a1), .val (.ref b102), .val (.int (8 : Int32))] [(.ref a1), (.int (8 : Int32))])) rfl rfl (hb hby d_jdk_56_method_4_10) _ ?_
    rw [len_of S160 Ne160]
    show Steps p.tables e below (T158.setTop (mkF m 11 #[.val (.ref a1), .val (.ref b102), .val (.int (8 : Int32))] [(.int (8 : Int32)), (.int (8 : Int32))])) _
    refine XS.icmpYes X158.here hx rfl (pc0 := 11) (pc' := 29) rfl (hb hby d_jdk_56_method_4_11) rfl (flt (by decide : ¬ ((8 : Int32) < (8 : Int32)))).2.1 (by decide) (by decide) ?_
    show Steps p.tables e below (T158.setTop (mkF m 29 #[.val (.ref a1), .val (.ref b102), .val (.int (8 : Int32))] [])) _
    refine st161 _ ?_
    show Steps p.tables e below (T161.setTop (mkF m 32 #[.val (.ref a1), .val (.ref b102), .val (.int (8 : Int32))] [(.ref b161)])) _
    refine XS.dup X161.here hx rfl (hb hby d_jdk_56_method_4_32) rfl rfl ?_
    refine XS.aloadN X161.here hx rfl (hb hby d_jdk_56_method_4_33) rfl rfl ?_
    refine XS.iconst X161.here hx rfl (hb hby d_jdk_56_method_4_34) ?_
    show Steps p.tables e below (T161.setTop (mkF m 35 #[.val (.ref a1), .val (.ref b102), .val (.int (8 : Int32))] [(.int (0 : Int32)), (.ref b102), (.ref b161), (.ref b161)])) _
    refine st164.trans ?_
    show Steps p.tables e below (T164.setTop (mkF m 38 #[.val (.ref a1), .val (.ref b102), .val (.int (8 : Int32))] [(.ref b161)])) _
    exact retOut X164 hx (t := (.object "java/util/List")) (i := .areturn) Bd.returns rfl (Or.inr (Or.inr (Or.inr (Or.inr ⟨rfl, rfl, rfl⟩)))) (hb hby d_jdk_56_method_4_38) hr
  · show Q_lf8 Z a1 k1 aX h0 n0 _ T164.heap _
    exact ⟨b161, rfl, N164, K164⟩
theorem ef_lo3 (m : MethodId) (a1 : Addr) : entryFrame m #[(.ref a1)] 2 = mkF m 0 #[.val (.ref a1), .unset] [] := by first | (simp [entryFrame, mkF, argsToLocals, Value.category]; done) | rfl
def Q_lo3 (Z : State) (a1 : Addr) (k1 : ClassId) (aX : Addr) (aY : Addr) (h0 : Heap) (n0 : Nat) (v : Option Value) (h : Heap) (L : List Loc) : Prop := ∃ (bb : Addr), v = some (.ref bb) ∧ Fr n0 L ∧ Keep h0 h []
set_option maxRecDepth 65536 in
set_option maxHeartbeats 40000000 in
theorem rm_lo3 (l : Launch) (Z : State) (a0 : Array Value) (hw : ∀ d ∈ tables_1, d.before a0 Z = true) (ws : List Jvm.Cond) (a1 : Addr) (k1 : ClassId) (aX : Addr) (aY : Addr) (h0 : Heap) (n0 : Nat) (O0 : Old Z n0 h0) (VA : Arv Z h0 a1 k1 (.object "java/lang/Object") (3 : Int32) [(.ref aX), (.ref aX), (.ref aX)] .null) (EX : Exa Z h0 aX "com/example/jitney/jitney/Instance$Node") (gA : n0 ≤ a1) (gX : n0 ≤ aX) (SY : Sta Z Z.heap "java/util/ImmutableCollections" "EMPTY" "Ljava/lang/Object;" (.ref aY)) :
    MetFree l (⟨"java/util/List", "of", "([Ljava/lang/Object;)Ljava/util/List;"⟩ : MethodName) (head1 (Jvm.Cond.code (⟨"java/util/List", "of", "([Ljava/lang/Object;)Ljava/util/List;"⟩ : MethodName) jdk_40_method_47_code 2 (some (.object "java/util/List")) :: ws) ({ frames := 6, cells := 2, slots := 10, locals := 77 } : Room)) (fun a U => a = #[(.ref a1)] ∧ Z.Warmed39 U.vm ∧ U.heap = h0) (fun _ _ _ _ _ => True) (fun _ U o U' => ∃ v L, o = .returned v ∧ Q_lo3 Z a1 k1 aX aY h0 n0 v U'.heap L ∧ FrameEnd U o U' L ({ frames := 6, cells := 2, slots := 10, locals := 77 } : Room).cells ({ frames := 6, cells := 2, slots := 10, locals := 77 } : Room).slots) := by
  refine MetFree.of_bodySF (plainFor_of_name pn_12) hisR ?_
  intro p e s m args below meth c s₁ Bd hml0 hP hK
  obtain ⟨rfl, hZ, hh⟩ := hP
  have hx := Bd.exec
  have hby := Bd.bytes
  have hml : c.maxLocals = 2 := hml0
  have hown : s.vm.findClass "java/util/List" = some m.cls := findClass_of_methodNamed Bd.named
  have hnm := (name_of_methodNamed Bd.named Bd.method).1
  have X0 : Stand p l e ({ frames := 6, cells := 2, slots := 10, locals := 77 } : Room) s m #[(.ref a1)] below meth c s₁ [] 0 0 := Stand.of_body Bd
  have e0 : s₁.heap = h0 := by rw [← hh, Bd.state]; rfl
  have N0 := Fr.nil n0
  have K0 : Keep h0 h0 [] := Keep.refl _ _
  have pre0 : ∀ t, Steps p.tables e below (s₁.setTop (mkF m 0 #[.val (.ref a1), .unset] [])) t → Steps p.tables e below (s₁.setTop (entryFrame m #[(.ref a1)] 2)) t := fun t k => castTop (ef_lo3 m a1) k
  obtain ⟨cl101, Ar101, -, S101, Ne101, -, -⟩ := id VA
  obtain ⟨_, _, ⟨T102, L102, k102, n102⟩, -, X102, ⟨Lc102, hQ102, l102, y102, z102⟩, st102⟩ := Jvm.LawKit.callS X0 hx (y := (⟨"java/util/ImmutableCollections", "listFromArray", "([Ljava/lang/Object;)Ljava/util/List;"⟩ : MethodName)) hown (mvT hZ (hw _ (List.mem_of_getElem? (i := 219) rfl))) (mvT hZ (hw _ (List.mem_of_getElem? (i := 220) rfl))) (mvT hZ (hw _ (List.mem_of_getElem? (i := 123) rfl))) (mvT hZ (hw _ (List.mem_of_getElem? (i := 221) rfl))) (by decide) (backOf (W := 0) (rm_lf3 l Z a0 hw [] a1 k1 aX h0 n0 O0 VA EX gA gX) hZ (hw _ (List.mem_of_getElem? (i := 221) rfl)) (hw _ (List.mem_of_getElem? (i := 123) rfl)) (by decide) (by decide)) (g := (mkF m 60 #[.val (.ref a1), .unset] [(.ref a1)])) rfl (by rw [hml]; rfl) (argsL := [(.ref a1)]) (rest := []) (lenOf pd_9 rfl) rfl (by show 2 * 0 + _ ≤ _; exact Nat.le_of_eq rfl) (hb hby d_jdk_40_method_47_60) (fun _ _ => ⟨rfl, e0, (by decide : 0 + 2 ≤ _), (by decide : 0 + 10 ≤ _)⟩)
  dsimp only [Pt.U, Pt.locs, Pt.cells, Pt.slots] at X102 l102 y102 z102 st102 hQ102
  subst l102 y102 z102
  obtain ⟨bb_102, rfl, Nq102, Kq102⟩ := hQ102
  have N102 := Fr.app N0 Nq102
  have O102 := O0.keep Kq102 all0
  have K102 := K0.trans Kq102 all0
  obtain ⟨fs, hr, hrun, hended, hW, hsame⟩ := X102.leave (v := some (.ref bb_102)) (fun h => by rw [Bd.returns] at h; cases h)
  refine ⟨_, _, pre0 _ ?_, hrun, hended, _, _, rfl, ?_, ⟨_, rfl⟩, hW, hsame.mono (by decide) (by decide)⟩
  · show Steps p.tables e below (s₁.setTop (mkF m 0 #[.val (.ref a1), .unset] [])) _
    refine XS.aloadN X0.here hx rfl (hb hby d_jdk_40_method_47_0) rfl rfl ?_
    show Steps p.tables e below (s₁.setTop (mkF m 1 #[.val (.ref a1), .unset] [(.ref a1)])) _
    refine X0.arraylength hx (by rw [e0]; exact Ar101.1) (State.isArrayOf_alike hZ.alike Ar101.2.1) (g := (mkF m 1 #[.val (.ref a1), .unset] [(.ref a1)])) rfl rfl (hb hby d_jdk_40_method_47_1) _ ?_
    rw [len_of S101 Ne101]
    show Steps p.tables e below (s₁.setTop (mkF m 2 #[.val (.ref a1), .unset] [(.int (3 : Int32))])) _
    refine XS.tswOut X0.here hx rfl (pc0 := 2) (pc' := 59) rfl (hb hby d_jdk_40_method_47_2) rfl (by decide) (by decide) (by decide) ?_
    refine XS.aloadN X0.here hx rfl (hb hby d_jdk_40_method_47_59) rfl rfl ?_
    show Steps p.tables e below (s₁.setTop (mkF m 60 #[.val (.ref a1), .unset] [(.ref a1)])) _
    refine st102 _ ?_
    show Steps p.tables e below (T102.setTop (mkF m 63 #[.val (.ref a1), .unset] [(.ref bb_102)])) _
    exact retOut X102 hx (t := (.object "java/util/List")) (i := .areturn) Bd.returns rfl (Or.inr (Or.inr (Or.inr (Or.inr ⟨rfl, rfl, rfl⟩)))) (hb hby d_jdk_40_method_47_63) hr
  · show Q_lo3 Z a1 k1 aX aY h0 n0 _ T102.heap _
    exact ⟨bb_102, rfl, N102, K102⟩
theorem ef_lo4 (m : MethodId) (a1 : Addr) : entryFrame m #[(.ref a1)] 2 = mkF m 0 #[.val (.ref a1), .unset] [] := by first | (simp [entryFrame, mkF, argsToLocals, Value.category]; done) | rfl
def Q_lo4 (Z : State) (a1 : Addr) (k1 : ClassId) (aX : Addr) (aY : Addr) (h0 : Heap) (n0 : Nat) (v : Option Value) (h : Heap) (L : List Loc) : Prop := ∃ (bb : Addr), v = some (.ref bb) ∧ Fr n0 L ∧ Keep h0 h []
set_option maxRecDepth 65536 in
set_option maxHeartbeats 40000000 in
theorem rm_lo4 (l : Launch) (Z : State) (a0 : Array Value) (hw : ∀ d ∈ tables_1, d.before a0 Z = true) (ws : List Jvm.Cond) (a1 : Addr) (k1 : ClassId) (aX : Addr) (aY : Addr) (h0 : Heap) (n0 : Nat) (O0 : Old Z n0 h0) (VA : Arv Z h0 a1 k1 (.object "java/lang/Object") (4 : Int32) [(.ref aX), (.ref aX), (.ref aX), (.ref aX)] .null) (EX : Exa Z h0 aX "com/example/jitney/jitney/Instance$Node") (gA : n0 ≤ a1) (gX : n0 ≤ aX) (SY : Sta Z Z.heap "java/util/ImmutableCollections" "EMPTY" "Ljava/lang/Object;" (.ref aY)) :
    MetFree l (⟨"java/util/List", "of", "([Ljava/lang/Object;)Ljava/util/List;"⟩ : MethodName) (head1 (Jvm.Cond.code (⟨"java/util/List", "of", "([Ljava/lang/Object;)Ljava/util/List;"⟩ : MethodName) jdk_40_method_47_code 2 (some (.object "java/util/List")) :: ws) ({ frames := 6, cells := 2, slots := 10, locals := 77 } : Room)) (fun a U => a = #[(.ref a1)] ∧ Z.Warmed39 U.vm ∧ U.heap = h0) (fun _ _ _ _ _ => True) (fun _ U o U' => ∃ v L, o = .returned v ∧ Q_lo4 Z a1 k1 aX aY h0 n0 v U'.heap L ∧ FrameEnd U o U' L ({ frames := 6, cells := 2, slots := 10, locals := 77 } : Room).cells ({ frames := 6, cells := 2, slots := 10, locals := 77 } : Room).slots) := by
  refine MetFree.of_bodySF (plainFor_of_name pn_12) hisR ?_
  intro p e s m args below meth c s₁ Bd hml0 hP hK
  obtain ⟨rfl, hZ, hh⟩ := hP
  have hx := Bd.exec
  have hby := Bd.bytes
  have hml : c.maxLocals = 2 := hml0
  have hown : s.vm.findClass "java/util/List" = some m.cls := findClass_of_methodNamed Bd.named
  have hnm := (name_of_methodNamed Bd.named Bd.method).1
  have X0 : Stand p l e ({ frames := 6, cells := 2, slots := 10, locals := 77 } : Room) s m #[(.ref a1)] below meth c s₁ [] 0 0 := Stand.of_body Bd
  have e0 : s₁.heap = h0 := by rw [← hh, Bd.state]; rfl
  have N0 := Fr.nil n0
  have K0 : Keep h0 h0 [] := Keep.refl _ _
  have pre0 : ∀ t, Steps p.tables e below (s₁.setTop (mkF m 0 #[.val (.ref a1), .unset] [])) t → Steps p.tables e below (s₁.setTop (entryFrame m #[(.ref a1)] 2)) t := fun t k => castTop (ef_lo4 m a1) k
  obtain ⟨cl101, Ar101, -, S101, Ne101, -, -⟩ := id VA
  obtain ⟨_, _, ⟨T102, L102, k102, n102⟩, -, X102, ⟨Lc102, hQ102, l102, y102, z102⟩, st102⟩ := Jvm.LawKit.callS X0 hx (y := (⟨"java/util/ImmutableCollections", "listFromArray", "([Ljava/lang/Object;)Ljava/util/List;"⟩ : MethodName)) hown (mvT hZ (hw _ (List.mem_of_getElem? (i := 219) rfl))) (mvT hZ (hw _ (List.mem_of_getElem? (i := 220) rfl))) (mvT hZ (hw _ (List.mem_of_getElem? (i := 123) rfl))) (mvT hZ (hw _ (List.mem_of_getElem? (i := 221) rfl))) (by decide) (backOf (W := 0) (rm_lf4 l Z a0 hw [] a1 k1 aX h0 n0 O0 VA EX gA gX) hZ (hw _ (List.mem_of_getElem? (i := 221) rfl)) (hw _ (List.mem_of_getElem? (i := 123) rfl)) (by decide) (by decide)) (g := (mkF m 60 #[.val (.ref a1), .unset] [(.ref a1)])) rfl (by rw [hml]; rfl) (argsL := [(.ref a1)]) (rest := []) (lenOf pd_9 rfl) rfl (by show 2 * 0 + _ ≤ _; exact Nat.le_of_eq rfl) (hb hby d_jdk_40_method_47_60) (fun _ _ => ⟨rfl, e0, (by decide : 0 + 2 ≤ _), (by decide : 0 + 10 ≤ _)⟩)
  dsimp only [Pt.U, Pt.locs, Pt.cells, Pt.slots] at X102 l102 y102 z102 st102 hQ102
  subst l102 y102 z102
  obtain ⟨bb_102, rfl, Nq102, Kq102⟩ := hQ102
  have N102 := Fr.app N0 Nq102
  have O102 := O0.keep Kq102 all0
  have K102 := K0.trans Kq102 all0
  obtain ⟨fs, hr, hrun, hended, hW, hsame⟩ := X102.leave (v := some (.ref bb_102)) (fun h => by rw [Bd.returns] at h; cases h)
  refine ⟨_, _, pre0 _ ?_, hrun, hended, _, _, rfl, ?_, ⟨_, rfl⟩, hW, hsame.mono (by decide) (by decide)⟩
  · show Steps p.tables e below (s₁.setTop (mkF m 0 #[.val (.ref a1), .unset] [])) _
    refine XS.aloadN X0.here hx rfl (hb hby d_jdk_40_method_47_0) rfl rfl ?_
    show Steps p.tables e below (s₁.setTop (mkF m 1 #[.val (.ref a1), .unset] [(.ref a1)])) _
    refine X0.arraylength hx (by rw [e0]; exact Ar101.1) (State.isArrayOf_alike hZ.alike Ar101.2.1) (g := (mkF m 1 #[.val (.ref a1), .unset] [(.ref a1)])) rfl rfl (hb hby d_jdk_40_method_47_1) _ ?_
    rw [len_of S101 Ne101]
    show Steps p.tables e below (s₁.setTop (mkF m 2 #[.val (.ref a1), .unset] [(.int (4 : Int32))])) _
    refine XS.tswOut X0.here hx rfl (pc0 := 2) (pc' := 59) rfl (hb hby d_jdk_40_method_47_2) rfl (by decide) (by decide) (by decide) ?_
    refine XS.aloadN X0.here hx rfl (hb hby d_jdk_40_method_47_59) rfl rfl ?_
    show Steps p.tables e below (s₁.setTop (mkF m 60 #[.val (.ref a1), .unset] [(.ref a1)])) _
    refine st102 _ ?_
    show Steps p.tables e below (T102.setTop (mkF m 63 #[.val (.ref a1), .unset] [(.ref bb_102)])) _
    exact retOut X102 hx (t := (.object "java/util/List")) (i := .areturn) Bd.returns rfl (Or.inr (Or.inr (Or.inr (Or.inr ⟨rfl, rfl, rfl⟩)))) (hb hby d_jdk_40_method_47_63) hr
  · show Q_lo4 Z a1 k1 aX aY h0 n0 _ T102.heap _
    exact ⟨bb_102, rfl, N102, K102⟩
theorem ef_lo5 (m : MethodId) (a1 : Addr) : entryFrame m #[(.ref a1)] 2 = mkF m 0 #[.val (.ref a1), .unset] [] := by first | (simp [entryFrame, mkF, argsToLocals, Value.category]; done) | rfl
def Q_lo5 (Z : State) (a1 : Addr) (k1 : ClassId) (aX : Addr) (aY : Addr) (h0 : Heap) (n0 : Nat) (v : Option Value) (h : Heap) (L : List Loc) : Prop := ∃ (bb : Addr), v = some (.ref bb) ∧ Fr n0 L ∧ Keep h0 h []
set_option maxRecDepth 65536 in
set_option maxHeartbeats 40000000 in
theorem rm_lo5 (l : Launch) (Z : State) (a0 : Array Value) (hw : ∀ d ∈ tables_1, d.before a0 Z = true) (ws : List Jvm.Cond) (a1 : Addr) (k1 : ClassId) (aX : Addr) (aY : Addr) (h0 : Heap) (n0 : Nat) (O0 : Old Z n0 h0) (VA : Arv Z h0 a1 k1 (.object "java/lang/Object") (5 : Int32) [(.ref aX), (.ref aX), (.ref aX), (.ref aX), (.ref aX)] .null) (EX : Exa Z h0 aX "com/example/jitney/jitney/Instance$Node") (gA : n0 ≤ a1) (gX : n0 ≤ aX) (SY : Sta Z Z.heap "java/util/ImmutableCollections" "EMPTY" "Ljava/lang/Object;" (.ref aY)) :
    MetFree l (⟨"java/util/List", "of", "([Ljava/lang/Object;)Ljava/util/List;"⟩ : MethodName) (head1 (Jvm.Cond.code (⟨"java/util/List", "of", "([Ljava/lang/Object;)Ljava/util/List;"⟩ : MethodName) jdk_40_method_47_code 2 (some (.object "java/util/List")) :: ws) ({ frames := 6, cells := 2, slots := 10, locals := 77 } : Room)) (fun a U => a = #[(.ref a1)] ∧ Z.Warmed39 U.vm ∧ U.heap = h0) (fun _ _ _ _ _ => True) (fun _ U o U' => ∃ v L, o = .returned v ∧ Q_lo5 Z a1 k1 aX aY h0 n0 v U'.heap L ∧ FrameEnd U o U' L ({ frames := 6, cells := 2, slots := 10, locals := 77 } : Room).cells ({ frames := 6, cells := 2, slots := 10, locals := 77 } : Room).slots) := by
  refine MetFree.of_bodySF (plainFor_of_name pn_12) hisR ?_
  intro p e s m args below meth c s₁ Bd hml0 hP hK
  obtain ⟨rfl, hZ, hh⟩ := hP
  have hx := Bd.exec
  have hby := Bd.bytes
  have hml : c.maxLocals = 2 := hml0
  have hown : s.vm.findClass "java/util/List" = some m.cls := findClass_of_methodNamed Bd.named
  have hnm := (name_of_methodNamed Bd.named Bd.method).1
  have X0 : Stand p l e ({ frames := 6, cells := 2, slots := 10, locals := 77 } : Room) s m #[(.ref a1)] below meth c s₁ [] 0 0 := Stand.of_body Bd
  have e0 : s₁.heap = h0 := by rw [← hh, Bd.state]; rfl
  have N0 := Fr.nil n0
  have K0 : Keep h0 h0 [] := Keep.refl _ _
  have pre0 : ∀ t, Steps p.tables e below (s₁.setTop (mkF m 0 #[.val (.ref a1), .unset] [])) t → Steps p.tables e below (s₁.setTop (entryFrame m #[(.ref a1)] 2)) t := fun t k => castTop (ef_lo5 m a1) k
  obtain ⟨cl101, Ar101, -, S101, Ne101, -, -⟩ := id VA
  obtain ⟨_, _, ⟨T102, L102, k102, n102⟩, -, X102, ⟨Lc102, hQ102, l102, y102, z102⟩, st102⟩ := Jvm.LawKit.callS X0 hx (y := (⟨"java/util/ImmutableCollections", "listFromArray", "([Ljava/lang/Object;)Ljava/util/List;"⟩ : MethodName)) hown (mvT hZ (hw _ (List.mem_of_getElem? (i := 219) rfl))) (mvT hZ (hw _ (List.mem_of_getElem? (i := 220) rfl))) (mvT hZ (hw _ (List.mem_of_getElem? (i := 123) rfl))) (mvT hZ (hw _ (List.mem_of_getElem? (i := 221) rfl))) (by decide) (backOf (W := 0) (rm_lf5 l Z a0 hw [] a1 k1 aX h0 n0 O0 VA EX gA gX) hZ (hw _ (List.mem_of_getElem? (i := 221) rfl)) (hw _ (List.mem_of_getElem? (i := 123) rfl)) (by decide) (by decide)) (g := (mkF m 60 #[.val (.ref a1), .unset] [(.ref a1)])) rfl (by rw [hml]; rfl) (argsL := [(.ref a1)]) (rest := []) (lenOf pd_9 rfl) rfl (by show 2 * 0 + _ ≤ _; exact Nat.le_of_eq rfl) (hb hby d_jdk_40_method_47_60) (fun _ _ => ⟨rfl, e0, (by decide : 0 + 2 ≤ _), (by decide : 0 + 10 ≤ _)⟩)
  dsimp only [Pt.U, Pt.locs, Pt.cells, Pt.slots] at X102 l102 y102 z102 st102 hQ102
  subst l102 y102 z102
  obtain ⟨bb_102, rfl, Nq102, Kq102⟩ := hQ102
  have N102 := Fr.app N0 Nq102
  have O102 := O0.keep Kq102 all0
  have K102 := K0.trans Kq102 all0
  obtain ⟨fs, hr, hrun, hended, hW, hsame⟩ := X102.leave (v := some (.ref bb_102)) (fun h => by rw [Bd.returns] at h; cases h)
  refine ⟨_, _, pre0 _ ?_, hrun, hended, _, _, rfl, ?_, ⟨_, rfl⟩, hW, hsame.mono (by decide) (by decide)⟩
  · show Steps p.tables e below (s₁.setTop (mkF m 0 #[.val (.ref a1), .unset] [])) _
    refine XS.aloadN X0.here hx rfl (hb hby d_jdk_40_method_47_0) rfl rfl ?_
    show Steps p.tables e below (s₁.setTop (mkF m 1 #[.val (.ref a1), .unset] [(.ref a1)])) _
    refine X0.arraylength hx (by rw [e0]; exact Ar101.1) (State.isArrayOf_alike hZ.alike Ar101.2.1) (g := (mkF m 1 #[.val (.ref a1), .unset] [(.ref a1)])) rfl rfl (hb hby d_jdk_40_method_47_1) _ ?_
    rw [len_of S101 Ne101]
    show Steps p.tables e below (s₁.setTop (mkF m 2 #[.val (.ref a1), .unset] [(.int (5 : Int32))])) _
    refine XS.tswOut X0.here hx rfl (pc0 := 2) (pc' := 59) rfl (hb hby d_jdk_40_method_47_2) rfl (by decide) (by decide) (by decide) ?_
    refine XS.aloadN X0.here hx rfl (hb hby d_jdk_40_method_47_59) rfl rfl ?_
    show Steps p.tables e below (s₁.setTop (mkF m 60 #[.val (.ref a1), .unset] [(.ref a1)])) _
    refine st102 _ ?_
    show Steps p.tables e below (T102.setTop (mkF m 63 #[.val (.ref a1), .unset] [(.ref bb_102)])) _
    exact retOut X102 hx (t := (.object "java/util/List")) (i := .areturn) Bd.returns rfl (Or.inr (Or.inr (Or.inr (Or.inr ⟨rfl, rfl, rfl⟩)))) (hb hby d_jdk_40_method_47_63) hr
  · show Q_lo5 Z a1 k1 aX aY h0 n0 _ T102.heap _
    exact ⟨bb_102, rfl, N102, K102⟩
theorem ef_lo6 (m : MethodId) (a1 : Addr) : entryFrame m #[(.ref a1)] 2 = mkF m 0 #[.val (.ref a1), .unset] [] := by first | (simp [entryFrame, mkF, argsToLocals, Value.category]; done) | rfl
def Q_lo6 (Z : State) (a1 : Addr) (k1 : ClassId) (aX : Addr) (aY : Addr) (h0 : Heap) (n0 : Nat) (v : Option Value) (h : Heap) (L : List Loc) : Prop := ∃ (bb : Addr), v = some (.ref bb) ∧ Fr n0 L ∧ Keep h0 h []
set_option maxRecDepth 65536 in
set_option maxHeartbeats 40000000 in
theorem rm_lo6 (l : Launch) (Z : State) (a0 : Array Value) (hw : ∀ d ∈ tables_1, d.before a0 Z = true) (ws : List Jvm.Cond) (a1 : Addr) (k1 : ClassId) (aX : Addr) (aY : Addr) (h0 : Heap) (n0 : Nat) (O0 : Old Z n0 h0) (VA : Arv Z h0 a1 k1 (.object "java/lang/Object") (6 : Int32) [(.ref aX), (.ref aX), (.ref aX), (.ref aX), (.ref aX), (.ref aX)] .null) (EX : Exa Z h0 aX "com/example/jitney/jitney/Instance$Node") (gA : n0 ≤ a1) (gX : n0 ≤ aX) (SY : Sta Z Z.heap "java/util/ImmutableCollections" "EMPTY" "Ljava/lang/Object;" (.ref aY)) :
    MetFree l (⟨"java/util/List", "of", "([Ljava/lang/Object;)Ljava/util/List;"⟩ : MethodName) (head1 (Jvm.Cond.code (⟨"java/util/List", "of", "([Ljava/lang/Object;)Ljava/util/List;"⟩ : MethodName) jdk_40_method_47_code 2 (some (.object "java/util/List")) :: ws) ({ frames := 6, cells := 2, slots := 10, locals := 77 } : Room)) (fun a U => a = #[(.ref a1)] ∧ Z.Warmed39 U.vm ∧ U.heap = h0) (fun _ _ _ _ _ => True) (fun _ U o U' => ∃ v L, o = .returned v ∧ Q_lo6 Z a1 k1 aX aY h0 n0 v U'.heap L ∧ FrameEnd U o U' L ({ frames := 6, cells := 2, slots := 10, locals := 77 } : Room).cells ({ frames := 6, cells := 2, slots := 10, locals := 77 } : Room).slots) := by
  refine MetFree.of_bodySF (plainFor_of_name pn_12) hisR ?_
  intro p e s m args below meth c s₁ Bd hml0 hP hK
  obtain ⟨rfl, hZ, hh⟩ := hP
  have hx := Bd.exec
  have hby := Bd.bytes
  have hml : c.maxLocals = 2 := hml0
  have hown : s.vm.findClass "java/util/List" = some m.cls := findClass_of_methodNamed Bd.named
  have hnm := (name_of_methodNamed Bd.named Bd.method).1
  have X0 : Stand p l e ({ frames := 6, cells := 2, slots := 10, locals := 77 } : Room) s m #[(.ref a1)] below meth c s₁ [] 0 0 := Stand.of_body Bd
  have e0 : s₁.heap = h0 := by rw [← hh, Bd.state]; rfl
  have N0 := Fr.nil n0
  have K0 : Keep h0 h0 [] := Keep.refl _ _
  have pre0 : ∀ t, Steps p.tables e below (s₁.setTop (mkF m 0 #[.val (.ref a1), .unset] [])) t → Steps p.tables e below (s₁.setTop (entryFrame m #[(.ref a1)] 2)) t := fun t k => castTop (ef_lo6 m a1) k
  obtain ⟨cl101, Ar101, -, S101, Ne101, -, -⟩ := id VA
  obtain ⟨_, _, ⟨T102, L102, k102, n102⟩, -, X102, ⟨Lc102, hQ102, l102, y102, z102⟩, st102⟩ := Jvm.LawKit.callS X0 hx (y := (⟨"java/util/ImmutableCollections", "listFromArray", "([Ljava/lang/Object;)Ljava/util/List;"⟩ : MethodName)) hown (mvT hZ (hw _ (List.mem_of_getElem? (i := 219) rfl))) (mvT hZ (hw _ (List.mem_of_getElem? (i := 220) rfl))) (mvT hZ (hw _ (List.mem_of_getElem? (i := 123) rfl))) (mvT hZ (hw _ (List.mem_of_getElem? (i := 221) rfl))) (by decide) (backOf (W := 0) (rm_lf6 l Z a0 hw [] a1 k1 aX h0 n0 O0 VA EX gA gX) hZ (hw _ (List.mem_of_getElem? (i := 221) rfl)) (hw _ (List.mem_of_getElem? (i := 123) rfl)) (by decide) (by decide)) (g := (mkF m 60 #[.val (.ref a1), .unset] [(.ref a1)])) rfl (by rw [hml]; rfl) (argsL := [(.ref a1)]) (rest := []) (lenOf pd_9 rfl) rfl (by show 2 * 0 + _ ≤ _; exact Nat.le_of_eq rfl) (hb hby d_jdk_40_method_47_60) (fun _ _ => ⟨rfl, e0, (by decide : 0 + 2 ≤ _), (by decide : 0 + 10 ≤ _)⟩)
  dsimp only [Pt.U, Pt.locs, Pt.cells, Pt.slots] at X102 l102 y102 z102 st102 hQ102
  subst l102 y102 z102
  obtain ⟨bb_102, rfl, Nq102, Kq102⟩ := hQ102
  have N102 := Fr.app N0 Nq102
  have O102 := O0.keep Kq102 all0
  have K102 := K0.trans Kq102 all0
  obtain ⟨fs, hr, hrun, hended, hW, hsame⟩ := X102.leave (v := some (.ref bb_102)) (fun h => by rw [Bd.returns] at h; cases h)
  refine ⟨_, _, pre0 _ ?_, hrun, hended, _, _, rfl, ?_, ⟨_, rfl⟩, hW, hsame.mono (by decide) (by decide)⟩
  · show Steps p.tables e below (s₁.setTop (mkF m 0 #[.val (.ref a1), .unset] [])) _
    refine XS.aloadN X0.here hx rfl (hb hby d_jdk_40_method_47_0) rfl rfl ?_
    show Steps p.tables e below (s₁.setTop (mkF m 1 #[.val (.ref a1), .unset] [(.ref a1)])) _
    refine X0.arraylength hx (by rw [e0]; exact Ar101.1) (State.isArrayOf_alike hZ.alike Ar101.2.1) (g := (mkF m 1 #[.val (.ref a1), .unset] [(.ref a1)])) rfl rfl (hb hby d_jdk_40_method_47_1) _ ?_
    rw [len_of S101 Ne101]
    show Steps p.tables e below (s₁.setTop (mkF m 2 #[.val (.ref a1), .unset] [(.int (6 : Int32))])) _
    refine XS.tswOut X0.here hx rfl (pc0 := 2) (pc' := 59) rfl (hb hby d_jdk_40_method_47_2) rfl (by decide) (by decide) (by decide) ?_
    refine XS.aloadN X0.here hx rfl (hb hby d_jdk_40_method_47_59) rfl rfl ?_
    show Steps p.tables e below (s₁.setTop (mkF m 60 #[.val (.ref a1), .unset] [(.ref a1)])) _
    refine st102 _ ?_
    show Steps p.tables e below (T102.setTop (mkF m 63 #[.val (.ref a1), .unset] [(.ref bb_102)])) _
    exact retOut X102 hx (t := (.object "java/util/List")) (i := .areturn) Bd.returns rfl (Or.inr (Or.inr (Or.inr (Or.inr ⟨rfl, rfl, rfl⟩)))) (hb hby d_jdk_40_method_47_63) hr
  · show Q_lo6 Z a1 k1 aX aY h0 n0 _ T102.heap _
    exact ⟨bb_102, rfl, N102, K102⟩
theorem ef_lo7 (m : MethodId) (a1 : Addr) : entryFrame m #[(.ref a1)] 2 = mkF m 0 #[.val (.ref a1), .unset] [] := by first | (simp [entryFrame, mkF, argsToLocals, Value.category]; done) | rfl
def Q_lo7 (Z : State) (a1 : Addr) (k1 : ClassId) (aX : Addr) (aY : Addr) (h0 : Heap) (n0 : Nat) (v : Option Value) (h : Heap) (L : List Loc) : Prop := ∃ (bb : Addr), v = some (.ref bb) ∧ Fr n0 L ∧ Keep h0 h []
set_option maxRecDepth 65536 in
set_option maxHeartbeats 40000000 in
theorem rm_lo7 (l : Launch) (Z : State) (a0 : Array Value) (hw : ∀ d ∈ tables_1, d.before a0 Z = true) (ws : List Jvm.Cond) (a1 : Addr) (k1 : ClassId) (aX : Addr) (aY : Addr) (h0 : Heap) (n0 : Nat) (O0 : Old Z n0 h0) (VA : Arv Z h0 a1 k1 (.object "java/lang/Object") (7 : Int32) [(.ref aX), (.ref aX), (.ref aX), (.ref aX), (.ref aX), (.ref aX), (.ref aX)] .null) (EX : Exa Z h0 aX "com/example/jitney/jitney/Instance$Node") (gA : n0 ≤ a1) (gX : n0 ≤ aX) (SY : Sta Z Z.heap "java/util/ImmutableCollections" "EMPTY" "Ljava/lang/Object;" (.ref aY)) :
    MetFree l (⟨"java/util/List", "of", "([Ljava/lang/Object;)Ljava/util/List;"⟩ : MethodName) (head1 (Jvm.Cond.code (⟨"java/util/List", "of", "([Ljava/lang/Object;)Ljava/util/List;"⟩ : MethodName) jdk_40_method_47_code 2 (some (.object "java/util/List")) :: ws) ({ frames := 6, cells := 2, slots := 10, locals := 77 } : Room)) (fun a U => a = #[(.ref a1)] ∧ Z.Warmed39 U.vm ∧ U.heap = h0) (fun _ _ _ _ _ => True) (fun _ U o U' => ∃ v L, o = .returned v ∧ Q_lo7 Z a1 k1 aX aY h0 n0 v U'.heap L ∧ FrameEnd U o U' L ({ frames := 6, cells := 2, slots := 10, locals := 77 } : Room).cells ({ frames := 6, cells := 2, slots := 10, locals := 77 } : Room).slots) := by
  refine MetFree.of_bodySF (plainFor_of_name pn_12) hisR ?_
  intro p e s m args below meth c s₁ Bd hml0 hP hK
  obtain ⟨rfl, hZ, hh⟩ := hP
  have hx := Bd.exec
  have hby := Bd.bytes
  have hml : c.maxLocals = 2 := hml0
  have hown : s.vm.findClass "java/util/List" = some m.cls := findClass_of_methodNamed Bd.named
  have hnm := (name_of_methodNamed Bd.named Bd.method).1
  have X0 : Stand p l e ({ frames := 6, cells := 2, slots := 10, locals := 77 } : Room) s m #[(.ref a1)] below meth c s₁ [] 0 0 := Stand.of_body Bd
  have e0 : s₁.heap = h0 := by rw [← hh, Bd.state]; rfl
  have N0 := Fr.nil n0
  have K0 : Keep h0 h0 [] := Keep.refl _ _
  have pre0 : ∀ t, Steps p.tables e below (s₁.setTop (mkF m 0 #[.val (.ref a1), .unset] [])) t → Steps p.tables e below (s₁.setTop (entryFrame m #[(.ref a1)] 2)) t := fun t k => castTop (ef_lo7 m a1) k
  obtain ⟨cl101, Ar101, -, S101, Ne101, -, -⟩ := id VA
  obtain ⟨_, _, ⟨T102, L102, k102, n102⟩, -, X102, ⟨Lc102, hQ102, l102, y102, z102⟩, st102⟩ := Jvm.LawKit.callS X0 hx (y := (⟨"java/util/ImmutableCollections", "listFromArray", "([Ljava/lang/Object;)Ljava/util/List;"⟩ : MethodName)) hown (mvT hZ (hw _ (List.mem_of_getElem? (i := 219) rfl))) (mvT hZ (hw _ (List.mem_of_getElem? (i := 220) rfl))) (mvT hZ (hw _ (List.mem_of_getElem? (i := 123) rfl))) (mvT hZ (hw _ (List.mem_of_getElem? (i := 221) rfl))) (by decide) (backOf (W := 0) (rm_lf7 l Z a0 hw [] a1 k1 aX h0 n0 O0 VA EX gA gX) hZ (hw _ (List.mem_of_getElem? (i := 221) rfl)) (hw _ (List.mem_of_getElem? (i := 123) rfl)) (by decide) (by decide)) (g := (mkF m 60 #[.val (.ref a1), .unset] [(.ref a1)])) rfl (by rw [hml]; rfl) (argsL := [(.ref a1)]) (rest := []) (lenOf pd_9 rfl) rfl (by show 2 * 0 + _ ≤ _; exact Nat.le_of_eq rfl) (hb hby d_jdk_40_method_47_60) (fun _ _ => ⟨rfl, e0, (by decide : 0 + 2 ≤ _), (by decide : 0 + 10 ≤ _)⟩)
  dsimp only [Pt.U, Pt.locs, Pt.cells, Pt.slots] at X102 l102 y102 z102 st102 hQ102
  subst l102 y102 z102
  obtain ⟨bb_102, rfl, Nq102, Kq102⟩ := hQ102
  have N102 := Fr.app N0 Nq102
  have O102 := O0.keep Kq102 all0
  have K102 := K0.trans Kq102 all0
  obtain ⟨fs, hr, hrun, hended, hW, hsame⟩ := X102.leave (v := some (.ref bb_102)) (fun h => by rw [Bd.returns] at h; cases h)
  refine ⟨_, _, pre0 _ ?_, hrun, hended, _, _, rfl, ?_, ⟨_, rfl⟩, hW, hsame.mono (by decide) (by decide)⟩
  · show Steps p.tables e below (s₁.setTop (mkF m 0 #[.val (.ref a1), .unset] [])) _
    refine XS.aloadN X0.here hx rfl (hb hby d_jdk_40_method_47_0) rfl rfl ?_
    show Steps p.tables e below (s₁.setTop (mkF m 1 #[.val (.ref a1), .unset] [(.ref a1)])) _
    refine X0.arraylength hx (by rw [e0]; exact Ar101.1) (State.isArrayOf_alike hZ.alike Ar101.2.1) (g := (mkF m 1 #[.val (.ref a1), .unset] [(.ref a1)])) rfl rfl (hb hby d_jdk_40_method_47_1) _ ?_
    rw [len_of S101 Ne101]
    show Steps p.tables e below (s₁.setTop (mkF m 2 #[.val (.ref a1), .unset] [(.int (7 : Int32))])) _
    refine XS.tswOut X0.here hx rfl (pc0 := 2) (pc' := 59) rfl (hb hby d_jdk_40_method_47_2) rfl (by decide) (by decide) (by decide) ?_
    refine XS.aloadN X0.here hx rfl (hb hby d_jdk_40_method_47_59) rfl rfl ?_
    show Steps p.tables e below (s₁.setTop (mkF m 60 #[.val (.ref a1), .unset] [(.ref a1)])) _
    refine st102 _ ?_
    show Steps p.tables e below (T102.setTop (mkF m 63 #[.val (.ref a1), .unset] [(.ref bb_102)])) _
    exact retOut X102 hx (t := (.object "java/util/List")) (i := .areturn) Bd.returns rfl (Or.inr (Or.inr (Or.inr (Or.inr ⟨rfl, rfl, rfl⟩)))) (hb hby d_jdk_40_method_47_63) hr
  · show Q_lo7 Z a1 k1 aX aY h0 n0 _ T102.heap _
    exact ⟨bb_102, rfl, N102, K102⟩
theorem ef_lo8 (m : MethodId) (a1 : Addr) : entryFrame m #[(.ref a1)] 2 = mkF m 0 #[.val (.ref a1), .unset] [] := by first | (simp [entryFrame, mkF, argsToLocals, Value.category]; done) | rfl
def Q_lo8 (Z : State) (a1 : Addr) (k1 : ClassId) (aX : Addr) (aY : Addr) (h0 : Heap) (n0 : Nat) (v : Option Value) (h : Heap) (L : List Loc) : Prop := ∃ (bb : Addr), v = some (.ref bb) ∧ Fr n0 L ∧ Keep h0 h []
set_option maxRecDepth 65536 in
set_option maxHeartbeats 40000000 in
theorem rm_lo8 (l : Launch) (Z : State) (a0 : Array Value) (hw : ∀ d ∈ tables_1, d.before a0 Z = true) (ws : List Jvm.Cond) (a1 : Addr) (k1 : ClassId) (aX : Addr) (aY : Addr) (h0 : Heap) (n0 : Nat) (O0 : Old Z n0 h0) (VA : Arv Z h0 a1 k1 (.object "java/lang/Object") (8 : Int32) [(.ref aX), (.ref aX), (.ref aX), (.ref aX), (.ref aX), (.ref aX), (.ref aX), (.ref aX)] .null) (EX : Exa Z h0 aX "com/example/jitney/jitney/Instance$Node") (gA : n0 ≤ a1) (gX : n0 ≤ aX) (SY : Sta Z Z.heap "java/util/ImmutableCollections" "EMPTY" "Ljava/lang/Object;" (.ref aY)) :
    MetFree l (⟨"java/util/List", "of", "([Ljava/lang/Object;)Ljava/util/List;"⟩ : MethodName) (head1 (Jvm.Cond.code (⟨"java/util/List", "of", "([Ljava/lang/Object;)Ljava/util/List;"⟩ : MethodName) jdk_40_method_47_code 2 (some (.object "java/util/List")) :: ws) ({ frames := 6, cells := 2, slots := 10, locals := 77 } : Room)) (fun a U => a = #[(.ref a1)] ∧ Z.Warmed39 U.vm ∧ U.heap = h0) (fun _ _ _ _ _ => True) (fun _ U o U' => ∃ v L, o = .returned v ∧ Q_lo8 Z a1 k1 aX aY h0 n0 v U'.heap L ∧ FrameEnd U o U' L ({ frames := 6, cells := 2, slots := 10, locals := 77 } : Room).cells ({ frames := 6, cells := 2, slots := 10, locals := 77 } : Room).slots) := by
  refine MetFree.of_bodySF (plainFor_of_name pn_12) hisR ?_
  intro p e s m args below meth c s₁ Bd hml0 hP hK
  obtain ⟨rfl, hZ, hh⟩ := hP
  have hx := Bd.exec
  have hby := Bd.bytes
  have hml : c.maxLocals = 2 := hml0
  have hown : s.vm.findClass "java/util/List" = some m.cls := findClass_of_methodNamed Bd.named
  have hnm := (name_of_methodNamed Bd.named Bd.method).1
  have X0 : Stand p l e ({ frames := 6, cells := 2, slots := 10, locals := 77 } : Room) s m #[(.ref a1)] below meth c s₁ [] 0 0 := Stand.of_body Bd
  have e0 : s₁.heap = h0 := by rw [← hh, Bd.state]; rfl
  have N0 := Fr.nil n0
  have K0 : Keep h0 h0 [] := Keep.refl _ _
  have pre0 : ∀ t, Steps p.tables e below (s₁.setTop (mkF m 0 #[.val (.ref a1), .unset] [])) t → Steps p.tables e below (s₁.setTop (entryFrame m #[(.ref a1)] 2)) t := fun t k => castTop (ef_lo8 m a1) k
  obtain ⟨cl101, Ar101, -, S101, Ne101, -, -⟩ := id VA
  obtain ⟨_, _, ⟨T102, L102, k102, n102⟩, -, X102, ⟨Lc102, hQ102, l102, y102, z102⟩, st102⟩ := Jvm.LawKit.callS X0 hx (y := (⟨"java/util/ImmutableCollections", "listFromArray", "([Ljava/lang/Object;)Ljava/util/List;"⟩ : MethodName)) hown (mvT hZ (hw _ (List.mem_of_getElem? (i := 219) rfl))) (mvT hZ (hw _ (List.mem_of_getElem? (i := 220) rfl))) (mvT hZ (hw _ (List.mem_of_getElem? (i := 123) rfl))) (mvT hZ (hw _ (List.mem_of_getElem? (i := 221) rfl))) (by decide) (backOf (W := 0) (rm_lf8 l Z a0 hw [] a1 k1 aX h0 n0 O0 VA EX gA gX) hZ (hw _ (List.mem_of_getElem? (i := 221) rfl)) (hw _ (List.mem_of_getElem? (i := 123) rfl)) (by decide) (by decide)) (g := (mkF m 60 #[.val (.ref a1), .unset] [(.ref a1)])) rfl (by rw [hml]; rfl) (argsL := [(.ref a1)]) (rest := []) (lenOf pd_9 rfl) rfl (by show 2 * 0 + _ ≤ _; exact Nat.le_of_eq rfl) (hb hby d_jdk_40_method_47_60) (fun _ _ => ⟨rfl, e0, (by decide : 0 + 2 ≤ _), (by decide : 0 + 10 ≤ _)⟩)
  dsimp only [Pt.U, Pt.locs, Pt.cells, Pt.slots] at X102 l102 y102 z102 st102 hQ102
  subst l102 y102 z102
  obtain ⟨bb_102, rfl, Nq102, Kq102⟩ := hQ102
  have N102 := Fr.app N0 Nq102
  have O102 := O0.keep Kq102 all0
  have K102 := K0.trans Kq102 all0
  obtain ⟨fs, hr, hrun, hended, hW, hsame⟩ := X102.leave (v := some (.ref bb_102)) (fun h => by rw [Bd.returns] at h; cases h)
  refine ⟨_, _, pre0 _ ?_, hrun, hended, _, _, rfl, ?_, ⟨_, rfl⟩, hW, hsame.mono (by decide) (by decide)⟩
  · show Steps p.tables e below (s₁.setTop (mkF m 0 #[.val (.ref a1), .unset] [])) _
    refine XS.aloadN X0.here hx rfl (hb hby d_jdk_40_method_47_0) rfl rfl ?_
    show Steps p.tables e below (s₁.setTop (mkF m 1 #[.val (.ref a1), .unset] [(.ref a1)])) _
    refine X0.arraylength hx (by rw [e0]; exact Ar101.1) (State.isArrayOf_alike hZ.alike Ar101.2.1) (g := (mkF m 1 #[.val (.ref a1), .unset] [(.ref a1)])) rfl rfl (hb hby d_jdk_40_method_47_1) _ ?_
    rw [len_of S101 Ne101]
    show Steps p.tables e below (s₁.setTop (mkF m 2 #[.val (.ref a1), .unset] [(.int (8 : Int32))])) _
    refine XS.tswOut X0.here hx rfl (pc0 := 2) (pc' := 59) rfl (hb hby d_jdk_40_method_47_2) rfl (by decide) (by decide) (by decide) ?_
    refine XS.aloadN X0.here hx rfl (hb hby d_jdk_40_method_47_59) rfl rfl ?_
    show Steps p.tables e below (s₁.setTop (mkF m 60 #[.val (.ref a1), .unset] [(.ref a1)])) _
    refine st102 _ ?_
    show Steps p.tables e below (T102.setTop (mkF m 63 #[.val (.ref a1), .unset] [(.ref bb_102)])) _
    exact retOut X102 hx (t := (.object "java/util/List")) (i := .areturn) Bd.returns rfl (Or.inr (Or.inr (Or.inr (Or.inr ⟨rfl, rfl, rfl⟩)))) (hb hby d_jdk_40_method_47_63) hr
  · show Q_lo8 Z a1 k1 aX aY h0 n0 _ T102.heap _
    exact ⟨bb_102, rfl, N102, K102⟩
theorem ef_lo1 (m : MethodId) (a1 : Addr) : entryFrame m #[(.ref a1)] 2 = mkF m 0 #[.val (.ref a1), .unset] [] := by first | (simp [entryFrame, mkF, argsToLocals, Value.category]; done) | rfl
def Q_lo1 (Z : State) (a1 : Addr) (k1 : ClassId) (aX : Addr) (aY : Addr) (h0 : Heap) (n0 : Nat) (v : Option Value) (h : Heap) (L : List Loc) : Prop := ∃ (bb : Addr), v = some (.ref bb) ∧ Fr n0 L ∧ Keep h0 h []
set_option maxRecDepth 65536 in
set_option maxHeartbeats 40000000 in
theorem rm_lo1 (l : Launch) (Z : State) (a0 : Array Value) (hw : ∀ d ∈ tables_1, d.before a0 Z = true) (ws : List Jvm.Cond) (a1 : Addr) (k1 : ClassId) (aX : Addr) (aY : Addr) (h0 : Heap) (n0 : Nat) (O0 : Old Z n0 h0) (VA : Arv Z h0 a1 k1 (.object "java/lang/Object") (1 : Int32) [(.ref aX)] .null) (EX : Exa Z h0 aX "com/example/jitney/jitney/Instance$Node") (gA : n0 ≤ a1) (gX : n0 ≤ aX) (SY : Sta Z Z.heap "java/util/ImmutableCollections" "EMPTY" "Ljava/lang/Object;" (.ref aY)) :
    MetFree l (⟨"java/util/List", "of", "([Ljava/lang/Object;)Ljava/util/List;"⟩ : MethodName) (head1 (Jvm.Cond.code (⟨"java/util/List", "of", "([Ljava/lang/Object;)Ljava/util/List;"⟩ : MethodName) jdk_40_method_47_code 2 (some (.object "java/util/List")) :: ws) ({ frames := 6, cells := 2, slots := 10, locals := 77 } : Room)) (fun a U => a = #[(.ref a1)] ∧ Z.Warmed39 U.vm ∧ U.heap = h0) (fun _ _ _ _ _ => True) (fun _ U o U' => ∃ v L, o = .returned v ∧ Q_lo1 Z a1 k1 aX aY h0 n0 v U'.heap L ∧ FrameEnd U o U' L ({ frames := 6, cells := 2, slots := 10, locals := 77 } : Room).cells ({ frames := 6, cells := 2, slots := 10, locals := 77 } : Room).slots) := by
  refine MetFree.of_bodySF (plainFor_of_name pn_12) hisR ?_
  intro p e s m args below meth c s₁ Bd hml0 hP hK
  obtain ⟨rfl, hZ, hh⟩ := hP
  have hx := Bd.exec
  have hby := Bd.bytes
  have hml : c.maxLocals = 2 := hml0
  have hown : s.vm.findClass "java/util/List" = some m.cls := findClass_of_methodNamed Bd.named
  have hnm := (name_of_methodNamed Bd.named Bd.method).1
  have X0 : Stand p l e ({ frames := 6, cells := 2, slots := 10, locals := 77 } : Room) s m #[(.ref a1)] below meth c s₁ [] 0 0 := Stand.of_body Bd
  have e0 : s₁.heap = h0 := by rw [← hh, Bd.state]; rfl
  have N0 := Fr.nil n0
  have K0 : Keep h0 h0 [] := Keep.refl _ _
  have pre0 : ∀ t, Steps p.tables e below (s₁.setTop (mkF m 0 #[.val (.ref a1), .unset] [])) t → Steps p.tables e below (s₁.setTop (entryFrame m #[(.ref a1)] 2)) t := fun t k => castTop (ef_lo1 m a1) k
  obtain ⟨cl101, Ar101, -, S101, Ne101, -, -⟩ := id VA
  obtain ⟨T102, h102, X102, e102, E102, A102, D102, -, st102⟩ := newO X0 hx hZ hown (hw _ (List.mem_of_getElem? (i := 169) rfl)) (hw _ (List.mem_of_getElem? (i := 170) rfl)) (hw _ (List.mem_of_getElem? (i := 171) rfl)) e0 (g := (mkF m 34 #[.val (.ref a1), .unset] [])) rfl (hb hby d_jdk_40_method_47_34) (by decide) (by decide)
  obtain ⟨b102, g102⟩ : ∃ z, z = h0.size := ⟨_, rfl⟩
  rw [← g102] at A102 D102 st102
  have g_b102 : n0 ≤ b102 := Nat.le_trans (own_szO O0) (Nat.le_of_eq g102.symm)
  have sz_b102 : h0.size ≤ b102 := Nat.le_trans K0.1 (Nat.le_of_eq g102.symm)
  have ne_a1_b102 : a1 ≠ b102 := Nat.ne_of_lt (Nat.lt_of_lt_of_le VA.lt (Nat.le_of_eq g102.symm))
  have ne_aX_b102 : aX ≠ b102 := Nat.ne_of_lt (Nat.lt_of_lt_of_le EX.lt (Nat.le_of_eq g102.symm))
  have O102 := O0.ext E102
  have K102 := K0.ext E102
  have F102_e0 : Fld Z h102 b102 "java/util/ImmutableCollections$List12" "e0" "Ljava/lang/Object;" .null := D102 (Or.inr (hw _ (List.mem_of_getElem? (i := 195) rfl))) (ty := (.object "java/lang/Object")) (by decide)
  have F102_e1 : Fld Z h102 b102 "java/util/ImmutableCollections$List12" "e1" "Ljava/lang/Object;" .null := D102 (Or.inr (hw _ (List.mem_of_getElem? (i := 198) rfl))) (ty := (.object "java/lang/Object")) (by decide)
  have f103 := (VA.ext E102)
  obtain ⟨cl104, Ar104, q104, S104, Ne104, H104, G104⟩ := id f103
  have hin104 : ¬ ((0 : Int32) < 0 ∨ cl104.slots.size ≤ ((0 : Int32)).toNatClampNeg) := inb_of S104 ⟨by decide, by decide⟩
  have hat104 : cl104.slots[((0 : Int32)).toNatClampNeg]? = some (.ref aX) := H104.at hin104 rfl
  obtain ⟨_, _, ⟨T105, L105, k105, n105⟩, -, X105, ⟨Lc105, hQ105, l105, y105, z105⟩, st105⟩ := X102.specialBack hx (y := (⟨"java/util/ImmutableCollections$List12", "<init>", "(Ljava/lang/Object;)V"⟩ : MethodName)) rfl hown (mvT hZ (hw _ (List.mem_of_getElem? (i := 172) rfl))) (mvT hZ (hw _ (List.mem_of_getElem? (i := 173) rfl))) (mvT hZ (hw _ (List.mem_of_getElem? (i := 175) rfl))) (by decide) (backOf (W := 1) (rm_l1 l Z a0 hw [] b102 aX (.null) (.null) aY h102 n0 O102 A102 F102_e0 F102_e1 g_b102 SY) hZ (hw _ (List.mem_of_getElem? (i := 175) rfl)) (hw _ (List.mem_of_getElem? (i := 171) rfl)) (by decide) (by decide)) (g := (mkF m 41 #[.val (.ref a1), .unset] [(.ref aX), (.ref b102), (.ref b102)])) rfl (by rw [hml]; rfl) (Steps.refl _) (a := b102) (argsL := [(.ref aX)]) (rest := [(.ref b102)]) (lenOf pd_10 rfl) rfl (by show 2 * 0 + _ ≤ _; exact Nat.le_of_eq rfl) (hb hby d_jdk_40_method_47_41) (fun _ _ => ⟨rfl, e102, (by decide : 1 + 0 ≤ _), (by decide : 2 + 0 ≤ _)⟩)
  dsimp only [Pt.U, Pt.locs, Pt.cells, Pt.slots] at X105 l105 y105 z105 st105 hQ105
  subst l105 y105 z105
  obtain ⟨rfl, Nq105, Kq105, El105⟩ := hQ105
  have N105 := Fr.app N0 Nq105
  have O105 := O102.keep Kq105 (allS g_b102 all0)
  have K105 := K102.trans Kq105 (allS (Or.inr sz_b102) all0)
  obtain ⟨fs, hr, hrun, hended, hW, hsame⟩ := X105.leave (v := some (.ref b102)) (fun h => by rw [Bd.returns] at h; cases h)
  refine ⟨_, _, pre0 _ ?_, hrun, hended, _, _, rfl, ?_, ⟨_, rfl⟩, hW, hsame.mono (by decide) (by decide)⟩
  · show Steps p.tables e below (s₁.setTop (mkF m 0 #[.val (.ref a1), .unset] [])) _
    refine XS.aloadN X0.here hx rfl (hb hby d_jdk_40_method_47_0) rfl rfl ?_
    show Steps p.tables e below (s₁.setTop (mkF m 1 #[.val (.ref a1), .unset] [(.ref a1)])) _
    refine X0.arraylength hx (by rw [e0]; exact Ar101.1) (State.isArrayOf_alike hZ.alike Ar101.2.1) (g := (mkF m 1 #[.val (.ref a1), .unset] [(.ref a1)])) rfl rfl (hb hby d_jdk_40_method_47_1) _ ?_
    rw [len_of S101 Ne101]
    show Steps p.tables e below (s₁.setTop (mkF m 2 #[.val (.ref a1), .unset] [(.int (1 : Int32))])) _
    refine XS.tswIn X0.here hx rfl (pc0 := 2) (pc' := 34) rfl (hb hby d_jdk_40_method_47_2) rfl (by decide) rfl (by decide) (by decide) ?_
    show Steps p.tables e below (s₁.setTop (mkF m 34 #[.val (.ref a1), .unset] [])) _
    refine st102 _ ?_
    show Steps p.tables e below (T102.setTop (mkF m 37 #[.val (.ref a1), .unset] [(.ref b102)])) _
    refine XS.dup X102.here hx rfl (hb hby d_jdk_40_method_47_37) rfl rfl ?_
    refine XS.aloadN X102.here hx rfl (hb hby d_jdk_40_method_47_38) rfl rfl ?_
    refine XS.iconst X102.here hx rfl (hb hby d_jdk_40_method_47_39) ?_
    show Steps p.tables e below (T102.setTop (mkF m 40 #[.val (.ref a1), .unset] [(.int (0 : Int32)), (.ref a1), (.ref b102), (.ref b102)])) _
    refine X102.aaload hx (j := (0 : Int32)) (v := (.ref aX)) (by rw [e102]; exact Ar104.1) (State.isArrayOf_alike hZ.alike Ar104.2.1) rfl Ar104.2.2 hin104 hat104 (g := (mkF m 40 #[.val (.ref a1), .unset] [(.int (0 : Int32)), (.ref a1), (.ref b102), (.ref b102)])) rfl rfl (hb hby d_jdk_40_method_47_40) _ ?_
    show Steps p.tables e below (T102.setTop (mkF m 41 #[.val (.ref a1), .unset] [(.ref aX), (.ref b102), (.ref b102)])) _
    refine st105.trans ?_
    show Steps p.tables e below (T105.setTop (mkF m 44 #[.val (.ref a1), .unset] [(.ref b102)])) _
    exact retOut X105 hx (t := (.object "java/util/List")) (i := .areturn) Bd.returns rfl (Or.inr (Or.inr (Or.inr (Or.inr ⟨rfl, rfl, rfl⟩)))) (hb hby d_jdk_40_method_47_44) hr
  · show Q_lo1 Z a1 k1 aX aY h0 n0 _ T105.heap _
    exact ⟨b102, rfl, N105, K105⟩
theorem ef_lo2 (m : MethodId) (a1 : Addr) : entryFrame m #[(.ref a1)] 2 = mkF m 0 #[.val (.ref a1), .unset] [] := by first | (simp [entryFrame, mkF, argsToLocals, Value.category]; done) | rfl
def Q_lo2 (Z : State) (a1 : Addr) (k1 : ClassId) (aX : Addr) (aY : Addr) (h0 : Heap) (n0 : Nat) (v : Option Value) (h : Heap) (L : List Loc) : Prop := ∃ (bb : Addr), v = some (.ref bb) ∧ Fr n0 L ∧ Keep h0 h []
set_option maxRecDepth 65536 in
set_option maxHeartbeats 40000000 in
theorem rm_lo2 (l : Launch) (Z : State) (a0 : Array Value) (hw : ∀ d ∈ tables_1, d.before a0 Z = true) (ws : List Jvm.Cond) (a1 : Addr) (k1 : ClassId) (aX : Addr) (aY : Addr) (h0 : Heap) (n0 : Nat) (O0 : Old Z n0 h0) (VA : Arv Z h0 a1 k1 (.object "java/lang/Object") (2 : Int32) [(.ref aX), (.ref aX)] .null) (EX : Exa Z h0 aX "com/example/jitney/jitney/Instance$Node") (gA : n0 ≤ a1) (gX : n0 ≤ aX) (SY : Sta Z Z.heap "java/util/ImmutableCollections" "EMPTY" "Ljava/lang/Object;" (.ref aY)) :
    MetFree l (⟨"java/util/List", "of", "([Ljava/lang/Object;)Ljava/util/List;"⟩ : MethodName) (head1 (Jvm.Cond.code (⟨"java/util/List", "of", "([Ljava/lang/Object;)Ljava/util/List;"⟩ : MethodName) jdk_40_method_47_code 2 (some (.object "java/util/List")) :: ws) ({ frames := 6, cells := 2, slots := 10, locals := 77 } : Room)) (fun a U => a = #[(.ref a1)] ∧ Z.Warmed39 U.vm ∧ U.heap = h0) (fun _ _ _ _ _ => True) (fun _ U o U' => ∃ v L, o = .returned v ∧ Q_lo2 Z a1 k1 aX aY h0 n0 v U'.heap L ∧ FrameEnd U o U' L ({ frames := 6, cells := 2, slots := 10, locals := 77 } : Room).cells ({ frames := 6, cells := 2, slots := 10, locals := 77 } : Room).slots) := by
  refine MetFree.of_bodySF (plainFor_of_name pn_12) hisR ?_
  intro p e s m args below meth c s₁ Bd hml0 hP hK
  obtain ⟨rfl, hZ, hh⟩ := hP
  have hx := Bd.exec
  have hby := Bd.bytes
  have hml : c.maxLocals = 2 := hml0
  have hown : s.vm.findClass "java/util/List" = some m.cls := findClass_of_methodNamed Bd.named
  have hnm := (name_of_methodNamed Bd.named Bd.method).1
  have X0 : Stand p l e ({ frames := 6, cells := 2, slots := 10, locals := 77 } : Room) s m #[(.ref a1)] below meth c s₁ [] 0 0 := Stand.of_body Bd
  have e0 : s₁.heap = h0 := by rw [← hh, Bd.state]; rfl
  have N0 := Fr.nil n0
  have K0 : Keep h0 h0 [] := Keep.refl _ _
  have pre0 : ∀ t, Steps p.tables e below (s₁.setTop (mkF m 0 #[.val (.ref a1), .unset] [])) t → Steps p.tables e below (s₁.setTop (entryFrame m #[(.ref a1)] 2)) t := fun t k => castTop (ef_lo2 m a1) k
  obtain ⟨cl101, Ar101, -, S101, Ne101, -, -⟩ := id VA
  obtain ⟨T102, h102, X102, e102, E102, A102, D102, -, st102⟩ := newO X0 hx hZ hown (hw _ (List.mem_of_getElem? (i := 169) rfl)) (hw _ (List.mem_of_getElem? (i := 170) rfl)) (hw _ (List.mem_of_getElem? (i := 171) rfl)) e0 (g := (mkF m 45 #[.val (.ref a1), .unset] [])) rfl (hb hby d_jdk_40_method_47_45) (by decide) (by decide)
  obtain ⟨b102, g102⟩ : ∃ z, z = h0.size := ⟨_, rfl⟩
  rw [← g102] at A102 D102 st102
  have g_b102 : n0 ≤ b102 := Nat.le_trans (own_szO O0) (Nat.le_of_eq g102.symm)
  have sz_b102 : h0.size ≤ b102 := Nat.le_trans K0.1 (Nat.le_of_eq g102.symm)
  have ne_a1_b102 : a1 ≠ b102 := Nat.ne_of_lt (Nat.lt_of_lt_of_le VA.lt (Nat.le_of_eq g102.symm))
  have ne_aX_b102 : aX ≠ b102 := Nat.ne_of_lt (Nat.lt_of_lt_of_le EX.lt (Nat.le_of_eq g102.symm))
  have O102 := O0.ext E102
  have K102 := K0.ext E102
  have F102_e0 : Fld Z h102 b102 "java/util/ImmutableCollections$List12" "e0" "Ljava/lang/Object;" .null := D102 (Or.inr (hw _ (List.mem_of_getElem? (i := 195) rfl))) (ty := (.object "java/lang/Object")) (by decide)
  have F102_e1 : Fld Z h102 b102 "java/util/ImmutableCollections$List12" "e1" "Ljava/lang/Object;" .null := D102 (Or.inr (hw _ (List.mem_of_getElem? (i := 198) rfl))) (ty := (.object "java/lang/Object")) (by decide)
  have f103 := (VA.ext E102)
  obtain ⟨cl104, Ar104, q104, S104, Ne104, H104, G104⟩ := id f103
  have hin104 : ¬ ((0 : Int32) < 0 ∨ cl104.slots.size ≤ ((0 : Int32)).toNatClampNeg) := inb_of S104 ⟨by decide, by decide⟩
  have hat104 : cl104.slots[((0 : Int32)).toNatClampNeg]? = some (.ref aX) := H104.at hin104 rfl
  obtain ⟨cl105, Ar105, q105, S105, Ne105, H105, G105⟩ := id f103
  have hin105 : ¬ ((1 : Int32) < 0 ∨ cl105.slots.size ≤ ((1 : Int32)).toNatClampNeg) := inb_of S105 ⟨by decide, by decide⟩
  have hat105 : cl105.slots[((1 : Int32)).toNatClampNeg]? = some (.ref aX) := H105.at hin105 rfl
  obtain ⟨_, _, ⟨T106, L106, k106, n106⟩, -, X106, ⟨Lc106, hQ106, l106, y106, z106⟩, st106⟩ := X102.specialBack hx (y := (⟨"java/util/ImmutableCollections$List12", "<init>", "(Ljava/lang/Object;Ljava/lang/Object;)V"⟩ : MethodName)) rfl hown (mvT hZ (hw _ (List.mem_of_getElem? (i := 216) rfl))) (mvT hZ (hw _ (List.mem_of_getElem? (i := 217) rfl))) (mvT hZ (hw _ (List.mem_of_getElem? (i := 218) rfl))) (by decide) (backOf (W := 1) (rm_l2 l Z a0 hw [] b102 aX (.null) (.null) aY h102 n0 O102 A102 F102_e0 F102_e1 g_b102 SY) hZ (hw _ (List.mem_of_getElem? (i := 218) rfl)) (hw _ (List.mem_of_getElem? (i := 171) rfl)) (by decide) (by decide)) (g := (mkF m 55 #[.val (.ref a1), .unset] [(.ref aX), (.ref aX), (.ref b102), (.ref b102)])) rfl (by rw [hml]; rfl) (Steps.refl _) (a := b102) (argsL := [(.ref aX), (.ref aX)]) (rest := [(.ref b102)]) (lenOf pd_11 rfl) rfl (by show 2 * 0 + _ ≤ _; exact Nat.le_of_eq rfl) (hb hby d_jdk_40_method_47_55) (fun _ _ => ⟨rfl, e102, (by decide : 1 + 0 ≤ _), (by decide : 2 + 0 ≤ _)⟩)
  dsimp only [Pt.U, Pt.locs, Pt.cells, Pt.slots] at X106 l106 y106 z106 st106 hQ106
  subst l106 y106 z106
  obtain ⟨rfl, Nq106, Kq106, El106⟩ := hQ106
  have N106 := Fr.app N0 Nq106
  have O106 := O102.keep Kq106 (allS g_b102 all0)
  have K106 := K102.trans Kq106 (allS (Or.inr sz_b102) all0)
  obtain ⟨fs, hr, hrun, hended, hW, hsame⟩ := X106.leave (v := some (.ref b102)) (fun h => by rw [Bd.returns] at h; cases h)
  refine ⟨_, _, pre0 _ ?_, hrun, hended, _, _, rfl, ?_, ⟨_, rfl⟩, hW, hsame.mono (by decide) (by decide)⟩
  · show Steps p.tables e below (s₁.setTop (mkF m 0 #[.val (.ref a1), .unset] [])) _
    refine XS.aloadN X0.here hx rfl (hb hby d_jdk_40_method_47_0) rfl rfl ?_
    show Steps p.tables e below (s₁.setTop (mkF m 1 #[.val (.ref a1), .unset] [(.ref a1)])) _
    refine X0.arraylength hx (by rw [e0]; exact Ar101.1) (State.isArrayOf_alike hZ.alike Ar101.2.1) (g := (mkF m 1 #[.val (.ref a1), .unset] [(.ref a1)])) rfl rfl (hb hby d_jdk_40_method_47_1) _ ?_
    rw [len_of S101 Ne101]
    show Steps p.tables e below (s₁.setTop (mkF m 2 #[.val (.ref a1), .unset] [(.int (2 : Int32))])) _
    refine XS.tswIn X0.here hx rfl (pc0 := 2) (pc' := 45) rfl (hb hby d_jdk_40_method_47_2) rfl (by decide) rfl (by decide) (by decide) ?_
    show Steps p.tables e below (s₁.setTop (mkF m 45 #[.val (.ref a1), .unset] [])) _
    refine st102 _ ?_
    show Steps p.tables e below (T102.setTop (mkF m 48 #[.val (.ref a1), .unset] [(.ref b102)])) _
    refine XS.dup X102.here hx rfl (hb hby d_jdk_40_method_47_48) rfl rfl ?_
    refine XS.aloadN X102.here hx rfl (hb hby d_jdk_40_method_47_49) rfl rfl ?_
    refine XS.iconst X102.here hx rfl (hb hby d_jdk_40_method_47_50) ?_
    show Steps p.tables e below (T102.setTop (mkF m 51 #[.val (.ref a1), .unset] [(.int (0 : Int32)), (.ref a1), (.ref b102), (.ref b102)])) _
    refine X102.aaload hx (j := (0 : Int32)) (v := (.ref aX)) (by rw [e102]; exact Ar104.1) (State.isArrayOf_alike hZ.alike Ar104.2.1) rfl Ar104.2.2 hin104 hat104 (g := (mkF m 51 #[.val (.ref a1), .unset] [(.int (0 : Int32)), (.ref a1), (.ref b102), (.ref b102)])) rfl rfl (hb hby d_jdk_40_method_47_51) _ ?_
    show Steps p.tables e below (T102.setTop (mkF m 52 #[.val (.ref a1), .unset] [(.ref aX), (.ref b102), (.ref b102)])) _
    refine XS.aloadN X102.here hx rfl (hb hby d_jdk_40_method_47_52) rfl rfl ?_
    refine XS.iconst X102.here hx rfl (hb hby d_jdk_40_method_47_53) ?_
    show Steps p.tables e below (T102.setTop (mkF m 54 #[.val (.ref a1), .unset] [(.int (1 : Int32)), (.ref a1), (.ref aX), (.ref b102), (.ref b102)])) _
    refine X102.aaload hx (j := (1 : Int32)) (v := (.ref aX)) (by rw [e102]; exact Ar105.1) (State.isArrayOf_alike hZ.alike Ar105.2.1) rfl Ar105.2.2 hin105 hat105 (g := (mkF m 54 #[.val (.ref a1), .unset] [(.int (1 : Int32)), (.ref a1), (.ref aX), (.ref b102), (.ref b102)])) rfl rfl (hb hby d_jdk_40_method_47_54) _ ?_
    show Steps p.tables e below (T102.setTop (mkF m 55 #[.val (.ref a1), .unset] [(.ref aX), (.ref aX), (.ref b102), (.ref b102)])) _
    refine st106.trans ?_
    show Steps p.tables e below (T106.setTop (mkF m 58 #[.val (.ref a1), .unset] [(.ref b102)])) _
    exact retOut X106 hx (t := (.object "java/util/List")) (i := .areturn) Bd.returns rfl (Or.inr (Or.inr (Or.inr (Or.inr ⟨rfl, rfl, rfl⟩)))) (hb hby d_jdk_40_method_47_58) hr
  · show Q_lo2 Z a1 k1 aX aY h0 n0 _ T106.heap _
    exact ⟨b102, rfl, N106, K106⟩
def Q_lo (Z : State) (a1 : Addr) (k1 : ClassId) (aX : Addr) (aY : Addr) (n : Int32) (h0 : Heap) (n0 : Nat) (v : Option Value) (h : Heap) (L : List Loc) : Prop := ∃ (bb : Addr), v = some (.ref bb) ∧ Fr n0 L ∧ Keep h0 h []
theorem rm_lo (l : Launch) (Z : State) (a0 : Array Value) (hw : ∀ d ∈ tables_1, d.before a0 Z = true) (ws : List Jvm.Cond) (a1 : Addr) (k1 : ClassId) (aX : Addr) (aY : Addr) (n : Int32) (h0 : Heap) (n0 : Nat) (O0 : Old Z n0 h0) (VA : Arv Z h0 a1 k1 (.object "java/lang/Object") n (List.replicate n.toNatClampNeg (.ref aX)) .null) (EX : Exa Z h0 aX "com/example/jitney/jitney/Instance$Node") (gA : n0 ≤ a1) (gX : n0 ≤ aX) (SY : Sta Z Z.heap "java/util/ImmutableCollections" "EMPTY" "Ljava/lang/Object;" (.ref aY)) (hk : n = (1 : Int32) ∨ n = (2 : Int32) ∨ n = (3 : Int32) ∨ n = (4 : Int32) ∨ n = (5 : Int32) ∨ n = (6 : Int32) ∨ n = (7 : Int32) ∨ n = (8 : Int32)) :
    MetFree l (⟨"java/util/List", "of", "([Ljava/lang/Object;)Ljava/util/List;"⟩ : MethodName) (head1 (Jvm.Cond.code (⟨"java/util/List", "of", "([Ljava/lang/Object;)Ljava/util/List;"⟩ : MethodName) jdk_40_method_47_code 2 (some (.object "java/util/List")) :: ws) ({ frames := 6, cells := 2, slots := 10, locals := 77 } : Room)) (fun a U => a = #[(.ref a1)] ∧ Z.Warmed39 U.vm ∧ U.heap = h0) (fun _ _ _ _ _ => True) (fun _ U o U' => ∃ v L, o = .returned v ∧ Q_lo Z a1 k1 aX aY n h0 n0 v U'.heap L ∧ FrameEnd U o U' L ({ frames := 6, cells := 2, slots := 10, locals := 77 } : Room).cells ({ frames := 6, cells := 2, slots := 10, locals := 77 } : Room).slots) := by
  rcases hk with rfl | rfl | rfl | rfl | rfl | rfl | rfl | rfl
  · exact rm_lo1 l Z a0 hw ws a1 k1 aX aY h0 n0 O0 VA EX gA gX SY
  · exact rm_lo2 l Z a0 hw ws a1 k1 aX aY h0 n0 O0 VA EX gA gX SY
  · exact rm_lo3 l Z a0 hw ws a1 k1 aX aY h0 n0 O0 VA EX gA gX SY
  · exact rm_lo4 l Z a0 hw ws a1 k1 aX aY h0 n0 O0 VA EX gA gX SY
  · exact rm_lo5 l Z a0 hw ws a1 k1 aX aY h0 n0 O0 VA EX gA gX SY
  · exact rm_lo6 l Z a0 hw ws a1 k1 aX aY h0 n0 O0 VA EX gA gX SY
  · exact rm_lo7 l Z a0 hw ws a1 k1 aX aY h0 n0 O0 VA EX gA gX SY
  · exact rm_lo8 l Z a0 hw ws a1 k1 aX aY h0 n0 O0 VA EX gA gX SY
theorem own_n0 {n : Int32} (hk : n = (1 : Int32) ∨ n = (2 : Int32) ∨ n = (3 : Int32) ∨ n = (4 : Int32) ∨ n = (5 : Int32) ∨ n = (6 : Int32) ∨ n = (7 : Int32) ∨ n = (8 : Int32)) : ¬ (n = (0 : Int32)) := by rcases hk with rfl | rfl | rfl | rfl | rfl | rfl | rfl | rfl <;> decide
theorem ef_lcp (m : MethodId) (a1 : Addr) : entryFrame m #[(.ref a1)] 2 = mkF m 0 #[.val (.ref a1), .unset] [] := by first | (simp [entryFrame, mkF, argsToLocals, Value.category]; done) | rfl
def Q_lcp (Z : State) (a1 : Addr) (b : Addr) (k1 : ClassId) (vs : List Value) (n : Int32) (aX : Addr) (mr : Addr) (aY : Addr) (h0 : Heap) (n0 : Nat) (v : Option Value) (h : Heap) (L : List Loc) : Prop := ∃ (bb : Addr), v = some (.ref bb) ∧ Fr n0 L ∧ Keep h0 h []
set_option maxRecDepth 65536 in
set_option maxHeartbeats 40000000 in
theorem rm_lcp (l : Launch) (Z : State) (a0 : Array Value) (hw : ∀ d ∈ tables_1, d.before a0 Z = true) (ws : List Jvm.Cond) (a1 : Addr) (b : Addr) (k1 : ClassId) (vs : List Value) (n : Int32) (aX : Addr) (mr : Addr) (aY : Addr) (h0 : Heap) (n0 : Nat) (O0 : Old Z n0 h0) (E1 : Exa Z h0 a1 "java/util/ArrayList") (F_elementData : Fld Z h0 a1 "java/util/ArrayList" "elementData" "[Ljava/lang/Object;" (.ref b)) (F_size : Fld Z h0 a1 "java/util/ArrayList" "size" "I" (.int n)) (VA : Arv Z h0 b k1 (.object "java/lang/Object") (10 : Int32) vs .null) (EA : Exa Z h0 b "[Ljava/lang/Object;") (EX : Exa Z h0 aX "com/example/jitney/jitney/Instance$Node") (MI : Mir Z "[Ljava/lang/Object;" mr) (hn : ¬ n < 0 ∧ n < (9 : Int32)) (hsrc : ∀ i, i < n.toNatClampNeg → vs.getD i .null = .ref aX) (gX : n0 ≤ aX) (SY : Sta Z Z.heap "java/util/ImmutableCollections" "EMPTY" "Ljava/lang/Object;" (.ref aY)) (hk : n = (1 : Int32) ∨ n = (2 : Int32) ∨ n = (3 : Int32) ∨ n = (4 : Int32) ∨ n = (5 : Int32) ∨ n = (6 : Int32) ∨ n = (7 : Int32) ∨ n = (8 : Int32)) :
    MetFree l (⟨"java/util/ImmutableCollections", "listCopy", "(Ljava/util/Collection;)Ljava/util/List;"⟩ : MethodName) (head1 (Jvm.Cond.code (⟨"java/util/ImmutableCollections", "listCopy", "(Ljava/util/Collection;)Ljava/util/List;"⟩ : MethodName) jdk_56_method_3_code 2 (some (.object "java/util/List")) :: ws) ({ frames := 7, cells := 3, slots := 18, locals := 90 } : Room)) (fun a U => a = #[(.ref a1)] ∧ Z.Warmed39 U.vm ∧ U.heap = h0) (fun _ _ _ _ _ => True) (fun _ U o U' => ∃ v L, o = .returned v ∧ Q_lcp Z a1 b k1 vs n aX mr aY h0 n0 v U'.heap L ∧ FrameEnd U o U' L ({ frames := 7, cells := 3, slots := 18, locals := 90 } : Room).cells ({ frames := 7, cells := 3, slots := 18, locals := 90 } : Room).slots) := by
  refine MetFree.of_bodySF (plainFor_of_name pn_11) hisR ?_
  intro p e s m args below meth c s₁ Bd hml0 hP hK
  obtain ⟨rfl, hZ, hh⟩ := hP
  have hx := Bd.exec
  have hby := Bd.bytes
  have hml : c.maxLocals = 2 := hml0
  have hown : s.vm.findClass "java/util/ImmutableCollections" = some m.cls := findClass_of_methodNamed Bd.named
  have hnm := (name_of_methodNamed Bd.named Bd.method).1
  have X0 : Stand p l e ({ frames := 7, cells := 3, slots := 18, locals := 90 } : Room) s m #[(.ref a1)] below meth c s₁ [] 0 0 := Stand.of_body Bd
  have e0 : s₁.heap = h0 := by rw [← hh, Bd.state]; rfl
  have N0 := Fr.nil n0
  have K0 : Keep h0 h0 [] := Keep.refl _ _
  have pre0 : ∀ t, Steps p.tables e below (s₁.setTop (mkF m 0 #[.val (.ref a1), .unset] [])) t → Steps p.tables e below (s₁.setTop (entryFrame m #[(.ref a1)] 2)) t := fun t k => castTop (ef_lcp m a1) k
  obtain ⟨T101, X101, e101, st101⟩ := instNo X0 hx hZ hown (hw _ (List.mem_of_getElem? (i := 125) rfl)) e0 E1 (own_nsNo (hw _ (List.mem_of_getElem? (i := 126) rfl)) (hw _ (List.mem_of_getElem? (i := 170) rfl)) (NS.step (hw _ (List.mem_of_getElem? (i := 126) rfl)) (NS.step (hw _ (List.mem_of_getElem? (i := 127) rfl)) (NS.step (hw _ (List.mem_of_getElem? (i := 128) rfl)) (own_nsRoot (hw _ (List.mem_of_getElem? (i := 129) rfl)) (hw _ (List.mem_of_getElem? (i := 170) rfl)) (by decide)) (by decide)) (by decide)) (by decide)) (by decide)) (g := (mkF m 1 #[.val (.ref a1), .unset] [(.ref a1)])) rfl rfl (hb hby d_jdk_56_method_3_1)
  obtain ⟨T102, X102, e102, st102⟩ := instNo X101 hx hZ hown (hw _ (List.mem_of_getElem? (i := 130) rfl)) e101 E1 (own_nsNo (hw _ (List.mem_of_getElem? (i := 126) rfl)) (hw _ (List.mem_of_getElem? (i := 224) rfl)) (NS.step (hw _ (List.mem_of_getElem? (i := 126) rfl)) (NS.step (hw _ (List.mem_of_getElem? (i := 127) rfl)) (NS.step (hw _ (List.mem_of_getElem? (i := 128) rfl)) (own_nsRoot (hw _ (List.mem_of_getElem? (i := 129) rfl)) (hw _ (List.mem_of_getElem? (i := 224) rfl)) (by decide)) (by decide)) (by decide)) (by decide)) (by decide)) (g := (mkF m 8 #[.val (.ref a1), .unset] [(.ref a1)])) rfl rfl (hb hby d_jdk_56_method_3_8)
  obtain ⟨cq103, kq103, q103a, q103b, q103c⟩ := isOf hZ e102 E1
  obtain ⟨_, _, ⟨T103, L103, k103, n103⟩, -, X103, ⟨Lc103, hQ103, l103, y103, z103⟩, st103⟩ := X102.interfaceBack hx (xi := (⟨"java/util/Collection", "isEmpty", "()Z"⟩ : MethodName)) (y := (⟨"java/util/ArrayList", "isEmpty", "()Z"⟩ : MethodName)) hown (mvT hZ (hw _ (List.mem_of_getElem? (i := 131) rfl))) (mvT hZ (hw _ (List.mem_of_getElem? (i := 132) rfl))) (mvT hZ (hw _ (List.mem_of_getElem? (i := 133) rfl))) (mvT hZ (hw _ (List.mem_of_getElem? (i := 134) rfl))) (mvT hZ (hw _ (List.mem_of_getElem? (i := 102) rfl))) (mvT hZ (hw _ (List.mem_of_getElem? (i := 103) rfl))) (mvT hZ (hw _ (List.mem_of_getElem? (i := 104) rfl))) (mvT hZ (hw _ (List.mem_of_getElem? (i := 135) rfl))) (by decide) (backOf (W := 0) (rm_ie l Z a0 hw [] a1 n h0 n0 O0 F_size (own_n0 hk)) hZ (hw _ (List.mem_of_getElem? (i := 106) rfl)) (hw _ (List.mem_of_getElem? (i := 28) rfl)) (by decide) (by decide)) q103a q103b q103c (g := (mkF m 32 #[.val (.ref a1), .unset] [(.ref a1)])) rfl (by rw [hml]; rfl) (Steps.refl _) (argsL := []) (rest := []) (lenOf pd_12 rfl) rfl (by show 2 * 0 + _ ≤ _; exact Nat.le_of_eq rfl) (hb hby d_jdk_56_method_3_32) (fun _ _ => ⟨rfl, e102, (by decide : 0 + 0 ≤ _), (by decide : 0 + 0 ≤ _)⟩)
  dsimp only [Pt.U, Pt.locs, Pt.cells, Pt.slots] at X103 l103 y103 z103 st103 hQ103
  subst l103 y103 z103
  obtain ⟨rfl, Nq103, e103⟩ := hQ103
  have N103 := Fr.app N0 Nq103
  obtain ⟨cq104, kq104, q104a, q104b, q104c⟩ := isOf hZ e103 E1
  obtain ⟨_, _, ⟨T104, L104, k104, n104⟩, -, X104, ⟨Lc104, hQ104, l104, y104, z104⟩, st104⟩ := X103.interfaceBack hx (xi := (⟨"java/util/Collection", "toArray", "()[Ljava/lang/Object;"⟩ : MethodName)) (y := (⟨"java/util/ArrayList", "toArray", "()[Ljava/lang/Object;"⟩ : MethodName)) hown (mvT hZ (hw _ (List.mem_of_getElem? (i := 136) rfl))) (mvT hZ (hw _ (List.mem_of_getElem? (i := 137) rfl))) (mvT hZ (hw _ (List.mem_of_getElem? (i := 138) rfl))) (mvT hZ (hw _ (List.mem_of_getElem? (i := 139) rfl))) (mvT hZ (hw _ (List.mem_of_getElem? (i := 140) rfl))) (mvT hZ (hw _ (List.mem_of_getElem? (i := 141) rfl))) (mvT hZ (hw _ (List.mem_of_getElem? (i := 142) rfl))) (mvT hZ (hw _ (List.mem_of_getElem? (i := 135) rfl))) (by decide) (backOf (W := 0) (rm_ta l Z a0 hw [] a1 b k1 vs n aX mr h0 n0 O0 E1 F_elementData F_size VA EA EX MI hn hsrc) hZ (hw _ (List.mem_of_getElem? (i := 143) rfl)) (hw _ (List.mem_of_getElem? (i := 28) rfl)) (by decide) (by decide)) q104a q104b q104c (g := (mkF m 45 #[.val (.ref a1), .unset] [(.ref a1)])) rfl (by rw [hml]; rfl) (Steps.refl _) (argsL := []) (rest := []) (lenOf pd_3 rfl) rfl (by show 2 * 0 + _ ≤ _; exact Nat.le_of_eq rfl) (hb hby d_jdk_56_method_3_45) (fun _ _ => ⟨rfl, e103, (by decide : 0 + 1 ≤ _), (by decide : 0 + 8 ≤ _)⟩)
  dsimp only [Pt.U, Pt.locs, Pt.cells, Pt.slots] at X104 l104 y104 z104 st104 hQ104
  subst l104 y104 z104
  obtain ⟨b_104, k_104, rfl, Nq104, Kq104, Vb104, lb104⟩ := hQ104
  have N104 := Fr.app N103 Nq104
  have g_b_104 : n0 ≤ b_104 := Nat.le_trans (own_szO O0) lb104
  have sz_b_104 : h0.size ≤ b_104 := Nat.le_trans K0.1 lb104
  have O104 := O0.keep Kq104 all0
  have K104 := K0.trans Kq104 all0
  have f105 := (EX.keep Kq104)
  obtain ⟨_, _, ⟨T106, L106, k106, n106⟩, -, X106, ⟨Lc106, hQ106, l106, y106, z106⟩, st106⟩ := Jvm.LawKit.callS X104 hx (y := (⟨"java/util/List", "of", "([Ljava/lang/Object;)Ljava/util/List;"⟩ : MethodName)) hown (mvT hZ (hw _ (List.mem_of_getElem? (i := 166) rfl))) (mvT hZ (hw _ (List.mem_of_getElem? (i := 167) rfl))) (mvT hZ (hw _ (List.mem_of_getElem? (i := 119) rfl))) (mvT hZ (hw _ (List.mem_of_getElem? (i := 168) rfl))) (by decide) (backOf (W := 0) (rm_lo l Z a0 hw [] b_104 k_104 aX aY n T104.heap n0 O104 Vb104 f105 g_b_104 gX SY hk) hZ (hw _ (List.mem_of_getElem? (i := 168) rfl)) (hw _ (List.mem_of_getElem? (i := 119) rfl)) (by decide) (by decide)) (g := (mkF m 50 #[.val (.ref a1), .unset] [(.ref b_104)])) rfl (by rw [hml]; rfl) (argsL := [(.ref b_104)]) (rest := []) (lenOf pd_9 rfl) rfl (by show 2 * 0 + _ ≤ _; exact Nat.le_of_eq rfl) (hb hby d_jdk_56_method_3_50) (fun _ _ => ⟨rfl, rfl, (by decide : 1 + 2 ≤ _), (by decide : 8 + 10 ≤ _)⟩)
  dsimp only [Pt.U, Pt.locs, Pt.cells, Pt.slots] at X106 l106 y106 z106 st106 hQ106
  subst l106 y106 z106
  obtain ⟨bb_106, rfl, Nq106, Kq106⟩ := hQ106
  have N106 := Fr.app N104 Nq106
  have O106 := O104.keep Kq106 all0
  have K106 := K104.trans Kq106 all0
  obtain ⟨fs, hr, hrun, hended, hW, hsame⟩ := X106.leave (v := some (.ref bb_106)) (fun h => by rw [Bd.returns] at h; cases h)
  refine ⟨_, _, pre0 _ ?_, hrun, hended, _, _, rfl, ?_, ⟨_, rfl⟩, hW, hsame.mono (by decide) (by decide)⟩
  · show Steps p.tables e below (s₁.setTop (mkF m 0 #[.val (.ref a1), .unset] [])) _
    refine XS.aloadN X0.here hx rfl (hb hby d_jdk_56_method_3_0) rfl rfl ?_
    show Steps p.tables e below (s₁.setTop (mkF m 1 #[.val (.ref a1), .unset] [(.ref a1)])) _
    refine st101 _ ?_
    show Steps p.tables e below (T101.setTop (mkF m 4 #[.val (.ref a1), .unset] [(.int (0 : Int32))])) _
    refine XS.ifNo X101.here hx rfl (hb hby d_jdk_56_method_3_4) rfl ((if0 _ _).trans (teq (by decide : (0 : Int32) = (0 : Int32))).2) ?_
    refine XS.aloadN X101.here hx rfl (hb hby d_jdk_56_method_3_7) rfl rfl ?_
    show Steps p.tables e below (T101.setTop (mkF m 8 #[.val (.ref a1), .unset] [(.ref a1)])) _
    refine st102 _ ?_
    show Steps p.tables e below (T102.setTop (mkF m 11 #[.val (.ref a1), .unset] [(.int (0 : Int32))])) _
    refine XS.ifYes X102.here hx rfl (pc0 := 11) (pc' := 31) rfl (hb hby d_jdk_56_method_3_11) rfl ((if0 _ _).trans (teq (by decide : (0 : Int32) = (0 : Int32))).1) (by decide) (by decide) ?_
    refine XS.aloadN X102.here hx rfl (hb hby d_jdk_56_method_3_31) rfl rfl ?_
    show Steps p.tables e below (T102.setTop (mkF m 32 #[.val (.ref a1), .unset] [(.ref a1)])) _
    refine st103.trans ?_
    show Steps p.tables e below (T103.setTop (mkF m 37 #[.val (.ref a1), .unset] [(.int (0 : Int32))])) _
    refine XS.ifYes X103.here hx rfl (pc0 := 37) (pc' := 44) rfl (hb hby d_jdk_56_method_3_37) rfl ((if0 _ _).trans (teq (by decide : (0 : Int32) = (0 : Int32))).1) (by decide) (by decide) ?_
    refine XS.aloadN X103.here hx rfl (hb hby d_jdk_56_method_3_44) rfl rfl ?_
    show Steps p.tables e below (T103.setTop (mkF m 45 #[.val (.ref a1), .unset] [(.ref a1)])) _
    refine st104.trans ?_
    show Steps p.tables e below (T104.setTop (mkF m 50 #[.val (.ref a1), .unset] [(.ref b_104)])) _
    refine st106 _ ?_
    show Steps p.tables e below (T106.setTop (mkF m 53 #[.val (.ref a1), .unset] [(.ref bb_106)])) _
    exact retOut X106 hx (t := (.object "java/util/List")) (i := .areturn) Bd.returns rfl (Or.inr (Or.inr (Or.inr (Or.inr ⟨rfl, rfl, rfl⟩)))) (hb hby d_jdk_56_method_3_53) hr
  · show Q_lcp Z a1 b k1 vs n aX mr aY h0 n0 _ T106.heap _
    exact ⟨bb_106, rfl, N106, K106⟩
theorem ef_cop (m : MethodId) (a1 : Addr) : entryFrame m #[(.ref a1)] 1 = mkF m 0 #[.val (.ref a1)] [] := by first | (simp [entryFrame, mkF, argsToLocals, Value.category]; done) | rfl
def Q_cop (Z : State) (a1 : Addr) (b : Addr) (k1 : ClassId) (vs : List Value) (n : Int32) (aX : Addr) (mr : Addr) (aY : Addr) (h0 : Heap) (n0 : Nat) (v : Option Value) (h : Heap) (L : List Loc) : Prop := ∃ (bb : Addr), v = some (.ref bb) ∧ Fr n0 L ∧ Keep h0 h []
set_option maxRecDepth 65536 in
set_option maxHeartbeats 40000000 in
theorem rm_cop (l : Launch) (Z : State) (a0 : Array Value) (hw : ∀ d ∈ tables_1, d.before a0 Z = true) (ws : List Jvm.Cond) (a1 : Addr) (b : Addr) (k1 : ClassId) (vs : List Value) (n : Int32) (aX : Addr) (mr : Addr) (aY : Addr) (h0 : Heap) (n0 : Nat) (O0 : Old Z n0 h0) (E1 : Exa Z h0 a1 "java/util/ArrayList") (F_elementData : Fld Z h0 a1 "java/util/ArrayList" "elementData" "[Ljava/lang/Object;" (.ref b)) (F_size : Fld Z h0 a1 "java/util/ArrayList" "size" "I" (.int n)) (VA : Arv Z h0 b k1 (.object "java/lang/Object") (10 : Int32) vs .null) (EA : Exa Z h0 b "[Ljava/lang/Object;") (EX : Exa Z h0 aX "com/example/jitney/jitney/Instance$Node") (MI : Mir Z "[Ljava/lang/Object;" mr) (hn : ¬ n < 0 ∧ n < (9 : Int32)) (hsrc : ∀ i, i < n.toNatClampNeg → vs.getD i .null = .ref aX) (gX : n0 ≤ aX) (SY : Sta Z Z.heap "java/util/ImmutableCollections" "EMPTY" "Ljava/lang/Object;" (.ref aY)) (hk : n = (1 : Int32) ∨ n = (2 : Int32) ∨ n = (3 : Int32) ∨ n = (4 : Int32) ∨ n = (5 : Int32) ∨ n = (6 : Int32) ∨ n = (7 : Int32) ∨ n = (8 : Int32)) :
    MetFree l (⟨"java/util/List", "copyOf", "(Ljava/util/Collection;)Ljava/util/List;"⟩ : MethodName) (head1 (Jvm.Cond.code (⟨"java/util/List", "copyOf", "(Ljava/util/Collection;)Ljava/util/List;"⟩ : MethodName) jdk_40_method_48_code 1 (some (.object "java/util/List")) :: ws) ({ frames := 8, cells := 3, slots := 18, locals := 103 } : Room)) (fun a U => a = #[(.ref a1)] ∧ Z.Warmed39 U.vm ∧ U.heap = h0) (fun _ _ _ _ _ => True) (fun _ U o U' => ∃ v L, o = .returned v ∧ Q_cop Z a1 b k1 vs n aX mr aY h0 n0 v U'.heap L ∧ FrameEnd U o U' L ({ frames := 8, cells := 3, slots := 18, locals := 103 } : Room).cells ({ frames := 8, cells := 3, slots := 18, locals := 103 } : Room).slots) := by
  refine MetFree.of_bodySF (plainFor_of_name pn_12) hisR ?_
  intro p e s m args below meth c s₁ Bd hml0 hP hK
  obtain ⟨rfl, hZ, hh⟩ := hP
  have hx := Bd.exec
  have hby := Bd.bytes
  have hml : c.maxLocals = 1 := hml0
  have hown : s.vm.findClass "java/util/List" = some m.cls := findClass_of_methodNamed Bd.named
  have hnm := (name_of_methodNamed Bd.named Bd.method).1
  have X0 : Stand p l e ({ frames := 8, cells := 3, slots := 18, locals := 103 } : Room) s m #[(.ref a1)] below meth c s₁ [] 0 0 := Stand.of_body Bd
  have e0 : s₁.heap = h0 := by rw [← hh, Bd.state]; rfl
  have N0 := Fr.nil n0
  have K0 : Keep h0 h0 [] := Keep.refl _ _
  have pre0 : ∀ t, Steps p.tables e below (s₁.setTop (mkF m 0 #[.val (.ref a1)] [])) t → Steps p.tables e below (s₁.setTop (entryFrame m #[(.ref a1)] 1)) t := fun t k => castTop (ef_cop m a1) k
  obtain ⟨_, _, ⟨T101, L101, k101, n101⟩, -, X101, ⟨Lc101, hQ101, l101, y101, z101⟩, st101⟩ := Jvm.LawKit.callS X0 hx (y := (⟨"java/util/ImmutableCollections", "listCopy", "(Ljava/util/Collection;)Ljava/util/List;"⟩ : MethodName)) hown (mvT hZ (hw _ (List.mem_of_getElem? (i := 121) rfl))) (mvT hZ (hw _ (List.mem_of_getElem? (i := 122) rfl))) (mvT hZ (hw _ (List.mem_of_getElem? (i := 123) rfl))) (mvT hZ (hw _ (List.mem_of_getElem? (i := 124) rfl))) (by decide) (backOf (W := 0) (rm_lcp l Z a0 hw [] a1 b k1 vs n aX mr aY h0 n0 O0 E1 F_elementData F_size VA EA EX MI hn hsrc gX SY hk) hZ (hw _ (List.mem_of_getElem? (i := 124) rfl)) (hw _ (List.mem_of_getElem? (i := 123) rfl)) (by decide) (by decide)) (g := (mkF m 1 #[.val (.ref a1)] [(.ref a1)])) rfl (by rw [hml]; rfl) (argsL := [(.ref a1)]) (rest := []) (lenOf pd_13 rfl) rfl (by show 2 * 0 + _ ≤ _; exact Nat.le_of_eq rfl) (hb hby d_jdk_40_method_48_1) (fun _ _ => ⟨rfl, e0, (by decide : 0 + 3 ≤ _), (by decide : 0 + 18 ≤ _)⟩)
  dsimp only [Pt.U, Pt.locs, Pt.cells, Pt.slots] at X101 l101 y101 z101 st101 hQ101
  subst l101 y101 z101
  obtain ⟨bb_101, rfl, Nq101, Kq101⟩ := hQ101
  have N101 := Fr.app N0 Nq101
  have O101 := O0.keep Kq101 all0
  have K101 := K0.trans Kq101 all0
  obtain ⟨fs, hr, hrun, hended, hW, hsame⟩ := X101.leave (v := some (.ref bb_101)) (fun h => by rw [Bd.returns] at h; cases h)
  refine ⟨_, _, pre0 _ ?_, hrun, hended, _, _, rfl, ?_, ⟨_, rfl⟩, hW, hsame.mono (by decide) (by decide)⟩
  · show Steps p.tables e below (s₁.setTop (mkF m 0 #[.val (.ref a1)] [])) _
    refine XS.aloadN X0.here hx rfl (hb hby d_jdk_40_method_48_0) rfl rfl ?_
    show Steps p.tables e below (s₁.setTop (mkF m 1 #[.val (.ref a1)] [(.ref a1)])) _
    refine st101 _ ?_
    show Steps p.tables e below (T101.setTop (mkF m 4 #[.val (.ref a1)] [(.ref bb_101)])) _
    exact retOut X101 hx (t := (.object "java/util/List")) (i := .areturn) Bd.returns rfl (Or.inr (Or.inr (Or.inr (Or.inr ⟨rfl, rfl, rfl⟩)))) (hb hby d_jdk_40_method_48_4) hr
  · show Q_cop Z a1 b k1 vs n aX mr aY h0 n0 _ T101.heap _
    exact ⟨bb_101, rfl, N101, K101⟩
theorem ef_ini (m : MethodId) (a1 : Addr) (aS : Addr) (p1 : Int32) (d1 : UInt64) (p2 : Int32) (d2 : UInt64) (aL : Addr) : entryFrame m #[(.ref a1), (.ref aS), (.int p1), (.double d1), (.int p2), (.double d2), (.ref aL)] 9 = mkF m 0 #[.val (.ref a1), .val (.ref aS), .val (.int p1), .val (.double d1), .second, .val (.int p2), .val (.double d2), .second, .val (.ref aL)] [] := by first | (simp [entryFrame, mkF, argsToLocals, Value.category]; done) | rfl
def Q_ini (Z : State) (a1 : Addr) (aS : Addr) (p1 : Int32) (d1 : UInt64) (p2 : Int32) (d2 : UInt64) (aL : Addr) (b : Addr) (k1 : ClassId) (vs : List Value) (n : Int32) (aX : Addr) (mr : Addr) (aY : Addr) (u0 : Value) (u1 : Value) (u2 : Value) (u3 : Value) (u4 : Value) (u5 : Value) (u6 : Value) (h0 : Heap) (n0 : Nat) (v : Option Value) (h : Heap) (L : List Loc) : Prop := v = none ∧ Fr n0 L ∧ Keep h0 h [a1] ∧ Exa Z h a1 "com/example/jitney/jitney/Instance" ∧ Fld Z h a1 "com/example/jitney/jitney/Instance" "requests" "I" (.int ((n - (1 : Int32)) / (2 : Int32)))
set_option maxRecDepth 65536 in
set_option maxHeartbeats 40000000 in
theorem rm_ini (l : Launch) (Z : State) (a0 : Array Value) (hw : ∀ d ∈ tables_1, d.before a0 Z = true) (ws : List Jvm.Cond) (a1 : Addr) (aS : Addr) (p1 : Int32) (d1 : UInt64) (p2 : Int32) (d2 : UInt64) (aL : Addr) (b : Addr) (k1 : ClassId) (vs : List Value) (n : Int32) (aX : Addr) (mr : Addr) (aY : Addr) (u0 : Value) (u1 : Value) (u2 : Value) (u3 : Value) (u4 : Value) (u5 : Value) (u6 : Value) (h0 : Heap) (n0 : Nat) (O0 : Old Z n0 h0) (E1 : Exa Z h0 a1 "com/example/jitney/jitney/Instance") (F0 : Fld Z h0 a1 "com/example/jitney/jitney/Instance" "name" "Ljava/lang/String;" u0) (F1 : Fld Z h0 a1 "com/example/jitney/jitney/Instance" "vehicles" "I" u1) (F2 : Fld Z h0 a1 "com/example/jitney/jitney/Instance" "maxRouteDuration" "D" u2) (F3 : Fld Z h0 a1 "com/example/jitney/jitney/Instance" "capacity" "I" u3) (F4 : Fld Z h0 a1 "com/example/jitney/jitney/Instance" "maxRideTime" "D" u4) (F5 : Fld Z h0 a1 "com/example/jitney/jitney/Instance" "nodes" "Ljava/util/List;" u5) (F6 : Fld Z h0 a1 "com/example/jitney/jitney/Instance" "requests" "I" u6) (g1 : n0 ≤ a1) (EL : Exa Z h0 aL "java/util/ArrayList") (FLe : Fld Z h0 aL "java/util/ArrayList" "elementData" "[Ljava/lang/Object;" (.ref b)) (FLs : Fld Z h0 aL "java/util/ArrayList" "size" "I" (.int n)) (VA : Arv Z h0 b k1 (.object "java/lang/Object") (10 : Int32) vs .null) (EA : Exa Z h0 b "[Ljava/lang/Object;") (EX : Exa Z h0 aX "com/example/jitney/jitney/Instance$Node") (MI : Mir Z "[Ljava/lang/Object;" mr) (hn : ¬ n < 0 ∧ n < (9 : Int32)) (hsrc : ∀ i, i < n.toNatClampNeg → vs.getD i .null = .ref aX) (gX : n0 ≤ aX) (SY : Sta Z Z.heap "java/util/ImmutableCollections" "EMPTY" "Ljava/lang/Object;" (.ref aY)) (hk : n = (1 : Int32) ∨ n = (2 : Int32) ∨ n = (3 : Int32) ∨ n = (4 : Int32) ∨ n = (5 : Int32) ∨ n = (6 : Int32) ∨ n = (7 : Int32) ∨ n = (8 : Int32)) (n1L : a1 ≠ aL) (n1b : a1 ≠ b) (n1X : a1 ≠ aX) :
    MetFree l (⟨"com/example/jitney/jitney/Instance", "<init>", "(Ljava/lang/String;IDIDLjava/util/List;)V"⟩ : MethodName) (head1 (Jvm.Cond.code (⟨"com/example/jitney/jitney/Instance", "<init>", "(Ljava/lang/String;IDIDLjava/util/List;)V"⟩ : MethodName) prog_5_method_1_code 9 none :: ws) ({ frames := 9, cells := 3, slots := 18, locals := 116 } : Room)) (fun a U => a = #[(.ref a1), (.ref aS), (.int p1), (.double d1), (.int p2), (.double d2), (.ref aL)] ∧ Z.Warmed39 U.vm ∧ U.heap = h0) (fun _ _ _ _ _ => True) (fun _ U o U' => ∃ v L, o = .returned v ∧ Q_ini Z a1 aS p1 d1 p2 d2 aL b k1 vs n aX mr aY u0 u1 u2 u3 u4 u5 u6 h0 n0 v U'.heap L ∧ FrameEnd U o U' L ({ frames := 9, cells := 3, slots := 18, locals := 116 } : Room).cells ({ frames := 9, cells := 3, slots := 18, locals := 116 } : Room).slots) := by
  refine MetFree.of_bodySF (plainFor_of_name pn_13) hisR ?_
  intro p e s m args below meth c s₁ Bd hml0 hP hK
  obtain ⟨rfl, hZ, hh⟩ := hP
  have hx := Bd.exec
  have hby := Bd.bytes
  have hml : c.maxLocals = 9 := hml0
  have hown : s.vm.findClass "com/example/jitney/jitney/Instance" = some m.cls := findClass_of_methodNamed Bd.named
  have hnm := (name_of_methodNamed Bd.named Bd.method).1
  have X0 : Stand p l e ({ frames := 9, cells := 3, slots := 18, locals := 116 } : Room) s m #[(.ref a1), (.ref aS), (.int p1), (.double d1), (.int p2), (.double d2), (.ref aL)] below meth c s₁ [] 0 0 := Stand.of_body Bd
  have e0 : s₁.heap = h0 := by rw [← hh, Bd.state]; rfl
  have N0 := Fr.nil n0
  have K0 : Keep h0 h0 [a1] := Keep.refl _ _
  have pre0 : ∀ t, Steps p.tables e below (s₁.setTop (mkF m 0 #[.val (.ref a1), .val (.ref aS), .val (.int p1), .val (.double d1), .second, .val (.int p2), .val (.double d2), .second, .val (.ref aL)] [])) t → Steps p.tables e below (s₁.setTop (entryFrame m #[(.ref a1), (.ref aS), (.int p1), (.double d1), (.int p2), (.double d2), (.ref aL)] 9)) t := fun t k => castTop (ef_ini m a1 aS p1 d1 p2 d2 aL) k
  obtain ⟨T101, X101, e101, st101⟩ := initO X0 hx hZ hown (hw _ (List.mem_of_getElem? (i := 97) rfl)) (hw _ (List.mem_of_getElem? (i := 12) rfl)) (hw _ (List.mem_of_getElem? (i := 13) rfl)) e0 (g := (mkF m 1 #[.val (.ref a1), .val (.ref aS), .val (.int p1), .val (.double d1), .second, .val (.int p2), .val (.double d2), .second, .val (.ref aL)] [(.ref a1)])) rfl (by rw [hml]; rfl) rfl (hb hby d_prog_5_method_1_1) (by decide) (W := 0) (by show 2 * 0 + _ ≤ _; exact Nat.le_of_eq rfl) (by decide)
  obtain ⟨cq102, kq102, q102a, q102b, q102c⟩ := isOf hZ e101 EL
  obtain ⟨_, _, ⟨T102, L102, k102, n102⟩, -, X102, ⟨Lc102, hQ102, l102, y102, z102⟩, st102⟩ := X101.interfaceBack hx (xi := (⟨"java/util/List", "isEmpty", "()Z"⟩ : MethodName)) (y := (⟨"java/util/ArrayList", "isEmpty", "()Z"⟩ : MethodName)) hown (mvT hZ (hw _ (List.mem_of_getElem? (i := 98) rfl))) (mvT hZ (hw _ (List.mem_of_getElem? (i := 99) rfl))) (mvT hZ (hw _ (List.mem_of_getElem? (i := 100) rfl))) (mvT hZ (hw _ (List.mem_of_getElem? (i := 101) rfl))) (mvT hZ (hw _ (List.mem_of_getElem? (i := 102) rfl))) (mvT hZ (hw _ (List.mem_of_getElem? (i := 103) rfl))) (mvT hZ (hw _ (List.mem_of_getElem? (i := 104) rfl))) (mvT hZ (hw _ (List.mem_of_getElem? (i := 105) rfl))) (by decide) (backOf (W := 0) (rm_ie l Z a0 hw [] aL n h0 n0 O0 FLs (own_n0 hk)) hZ (hw _ (List.mem_of_getElem? (i := 106) rfl)) (hw _ (List.mem_of_getElem? (i := 28) rfl)) (by decide) (by decide)) q102a q102b q102c (g := (mkF m 6 #[.val (.ref a1), .val (.ref aS), .val (.int p1), .val (.double d1), .second, .val (.int p2), .val (.double d2), .second, .val (.ref aL)] [(.ref aL)])) rfl (by rw [hml]; rfl) (Steps.refl _) (argsL := []) (rest := []) (lenOf pd_12 rfl) rfl (by show 2 * 0 + _ ≤ _; exact Nat.le_of_eq rfl) (hb hby d_prog_5_method_1_6) (fun _ _ => ⟨rfl, e101, (by decide : 0 + 0 ≤ _), (by decide : 0 + 0 ≤ _)⟩)
  dsimp only [Pt.U, Pt.locs, Pt.cells, Pt.slots] at X102 l102 y102 z102 st102 hQ102
  subst l102 y102 z102
  obtain ⟨rfl, Nq102, e102⟩ := hQ102
  have N102 := Fr.app N0 Nq102
  obtain ⟨T103, h103, X103, e103, W103, st103⟩ := putF X102 hx hZ hown (host := "") (Or.inl (hw _ (List.mem_of_getElem? (i := 107) rfl))) Via.refl e102 F0 E1 (Or.inr ⟨(hw _ (List.mem_of_getElem? (i := 108) rfl)), rfl, hnm⟩) (hw _ (List.mem_of_getElem? (i := 82) rfl)) (ty := (.object "java/lang/String")) (by decide) rfl rfl (g := (mkF m 26 #[.val (.ref a1), .val (.ref aS), .val (.int p1), .val (.double d1), .second, .val (.int p2), .val (.double d2), .second, .val (.ref aL)] [(.ref aS), (.ref a1)])) rfl rfl (hb hby d_prog_5_method_1_26)
  have F103 := F0.same W103
  have N103 := Fr.snoc X103 N102 g1
  have O103 := O0.wr W103 g1
  have K103 := K0.wr W103 (Or.inl (List.mem_of_getElem? (i := 0) rfl))
  have f104 := (E1.wr W103)
  have f105 := (F1.other W103 (Or.inr (slot_ne (Or.inr (hw _ (List.mem_of_getElem? (i := 110) rfl))) (Or.inr (hw _ (List.mem_of_getElem? (i := 108) rfl))) (by decide) (t := .int) (t' := (.object "java/lang/String")) (by decide) (by decide))))
  obtain ⟨T106, h106, X106, e106, W106, st106⟩ := putF X103 hx hZ hown (host := "") (Or.inl (hw _ (List.mem_of_getElem? (i := 109) rfl))) Via.refl e103 f105 f104 (Or.inr ⟨(hw _ (List.mem_of_getElem? (i := 110) rfl)), rfl, hnm⟩) (hw _ (List.mem_of_getElem? (i := 82) rfl)) (ty := .int) (by decide) rfl rfl (g := (mkF m 31 #[.val (.ref a1), .val (.ref aS), .val (.int p1), .val (.double d1), .second, .val (.int p2), .val (.double d2), .second, .val (.ref aL)] [(.int p1), (.ref a1)])) rfl rfl (hb hby d_prog_5_method_1_31)
  have F106 := f105.same W106
  have N106 := Fr.snoc X106 N103 g1
  have O106 := O103.wr W106 g1
  have K106 := K103.wr W106 (Or.inl (List.mem_of_getElem? (i := 0) rfl))
  have f107 := (f104.wr W106)
  have f108 := ((F2.other W103 (Or.inr (slot_ne (Or.inr (hw _ (List.mem_of_getElem? (i := 112) rfl))) (Or.inr (hw _ (List.mem_of_getElem? (i := 108) rfl))) (by decide) (t := .double) (t' := (.object "java/lang/String")) (by decide) (by decide)))).other W106 (Or.inr (slot_ne (Or.inr (hw _ (List.mem_of_getElem? (i := 112) rfl))) (Or.inr (hw _ (List.mem_of_getElem? (i := 110) rfl))) (by decide) (t := .double) (t' := .int) (by decide) (by decide))))
  obtain ⟨T109, h109, X109, e109, W109, st109⟩ := putF X106 hx hZ hown (host := "") (Or.inl (hw _ (List.mem_of_getElem? (i := 111) rfl))) Via.refl e106 f108 f107 (Or.inr ⟨(hw _ (List.mem_of_getElem? (i := 112) rfl)), rfl, hnm⟩) (hw _ (List.mem_of_getElem? (i := 82) rfl)) (ty := .double) (by decide) rfl rfl (g := (mkF m 36 #[.val (.ref a1), .val (.ref aS), .val (.int p1), .val (.double d1), .second, .val (.int p2), .val (.double d2), .second, .val (.ref aL)] [(.double d1), (.ref a1)])) rfl rfl (hb hby d_prog_5_method_1_36)
  have F109 := f108.same W109
  have N109 := Fr.snoc X109 N106 g1
  have O109 := O106.wr W109 g1
  have K109 := K106.wr W109 (Or.inl (List.mem_of_getElem? (i := 0) rfl))
  have f110 := (f107.wr W109)
  have f111 := (((F3.other W103 (Or.inr (slot_ne (Or.inr (hw _ (List.mem_of_getElem? (i := 114) rfl))) (Or.inr (hw _ (List.mem_of_getElem? (i := 108) rfl))) (by decide) (t := .int) (t' := (.object "java/lang/String")) (by decide) (by decide)))).other W106 (Or.inr (slot_ne (Or.inr (hw _ (List.mem_of_getElem? (i := 114) rfl))) (Or.inr (hw _ (List.mem_of_getElem? (i := 110) rfl))) (by decide) (t := .int) (t' := .int) (by decide) (by decide)))).other W109 (Or.inr (slot_ne (Or.inr (hw _ (List.mem_of_getElem? (i := 114) rfl))) (Or.inr (hw _ (List.mem_of_getElem? (i := 112) rfl))) (by decide) (t := .int) (t' := .double) (by decide) (by decide))))
  obtain ⟨T112, h112, X112, e112, W112, st112⟩ := putF X109 hx hZ hown (host := "") (Or.inl (hw _ (List.mem_of_getElem? (i := 113) rfl))) Via.refl e109 f111 f110 (Or.inr ⟨(hw _ (List.mem_of_getElem? (i := 114) rfl)), rfl, hnm⟩) (hw _ (List.mem_of_getElem? (i := 82) rfl)) (ty := .int) (by decide) rfl rfl (g := (mkF m 42 #[.val (.ref a1), .val (.ref aS), .val (.int p1), .val (.double d1), .second, .val (.int p2), .val (.double d2), .second, .val (.ref aL)] [(.int p2), (.ref a1)])) rfl rfl (hb hby d_prog_5_method_1_42)
  have F112 := f111.same W112
  have N112 := Fr.snoc X112 N109 g1
  have O112 := O109.wr W112 g1
  have K112 := K109.wr W112 (Or.inl (List.mem_of_getElem? (i := 0) rfl))
  have f113 := (f110.wr W112)
  have f114 := ((((F4.other W103 (Or.inr (slot_ne (Or.inr (hw _ (List.mem_of_getElem? (i := 116) rfl))) (Or.inr (hw _ (List.mem_of_getElem? (i := 108) rfl))) (by decide) (t := .double) (t' := (.object "java/lang/String")) (by decide) (by decide)))).other W106 (Or.inr (slot_ne (Or.inr (hw _ (List.mem_of_getElem? (i := 116) rfl))) (Or.inr (hw _ (List.mem_of_getElem? (i := 110) rfl))) (by decide) (t := .double) (t' := .int) (by decide) (by decide)))).other W109 (Or.inr (slot_ne (Or.inr (hw _ (List.mem_of_getElem? (i := 116) rfl))) (Or.inr (hw _ (List.mem_of_getElem? (i := 112) rfl))) (by decide) (t := .double) (t' := .double) (by decide) (by decide)))).other W112 (Or.inr (slot_ne (Or.inr (hw _ (List.mem_of_getElem? (i := 116) rfl))) (Or.inr (hw _ (List.mem_of_getElem? (i := 114) rfl))) (by decide) (t := .double) (t' := .int) (by decide) (by decide))))
  obtain ⟨T115, h115, X115, e115, W115, st115⟩ := putF X112 hx hZ hown (host := "") (Or.inl (hw _ (List.mem_of_getElem? (i := 115) rfl))) Via.refl e112 f114 f113 (Or.inr ⟨(hw _ (List.mem_of_getElem? (i := 116) rfl)), rfl, hnm⟩) (hw _ (List.mem_of_getElem? (i := 82) rfl)) (ty := .double) (by decide) rfl rfl (g := (mkF m 48 #[.val (.ref a1), .val (.ref aS), .val (.int p1), .val (.double d1), .second, .val (.int p2), .val (.double d2), .second, .val (.ref aL)] [(.double d2), (.ref a1)])) rfl rfl (hb hby d_prog_5_method_1_48)
  have F115 := f114.same W115
  have N115 := Fr.snoc X115 N112 g1
  have O115 := O112.wr W115 g1
  have K115 := K112.wr W115 (Or.inl (List.mem_of_getElem? (i := 0) rfl))
  have f116 := (((((EL.wr W103).wr W106).wr W109).wr W112).wr W115)
  have f117 := (((((FLe.other W103 (Or.inl (Ne.symm n1L))).other W106 (Or.inl (Ne.symm n1L))).other W109 (Or.inl (Ne.symm n1L))).other W112 (Or.inl (Ne.symm n1L))).other W115 (Or.inl (Ne.symm n1L)))
  have f118 := (((((FLs.other W103 (Or.inl (Ne.symm n1L))).other W106 (Or.inl (Ne.symm n1L))).other W109 (Or.inl (Ne.symm n1L))).other W112 (Or.inl (Ne.symm n1L))).other W115 (Or.inl (Ne.symm n1L)))
  have f119 := (((((VA.other W103 (Ne.symm n1b)).other W106 (Ne.symm n1b)).other W109 (Ne.symm n1b)).other W112 (Ne.symm n1b)).other W115 (Ne.symm n1b))
  have f120 := (((((EA.wr W103).wr W106).wr W109).wr W112).wr W115)
  have f121 := (((((EX.wr W103).wr W106).wr W109).wr W112).wr W115)
  obtain ⟨_, _, ⟨T122, L122, k122, n122⟩, -, X122, ⟨Lc122, hQ122, l122, y122, z122⟩, st122⟩ := Jvm.LawKit.callS X115 hx (y := (⟨"java/util/List", "copyOf", "(Ljava/util/Collection;)Ljava/util/List;"⟩ : MethodName)) hown (mvT hZ (hw _ (List.mem_of_getElem? (i := 117) rfl))) (mvT hZ (hw _ (List.mem_of_getElem? (i := 118) rfl))) (mvT hZ (hw _ (List.mem_of_getElem? (i := 119) rfl))) (mvT hZ (hw _ (List.mem_of_getElem? (i := 120) rfl))) (by decide) (backOf (W := 1) (rm_cop l Z a0 hw [] aL b k1 vs n aX mr aY h115 n0 O115 f116 f117 f118 f119 f120 f121 MI hn hsrc gX SY hk) hZ (hw _ (List.mem_of_getElem? (i := 120) rfl)) (hw _ (List.mem_of_getElem? (i := 119) rfl)) (by decide) (by decide)) (g := (mkF m 54 #[.val (.ref a1), .val (.ref aS), .val (.int p1), .val (.double d1), .second, .val (.int p2), .val (.double d2), .second, .val (.ref aL)] [(.ref aL), (.ref a1)])) rfl (by rw [hml]; rfl) (argsL := [(.ref aL)]) (rest := [(.ref a1)]) (lenOf pd_13 rfl) rfl (by show 2 * 0 + _ ≤ _; exact Nat.le_of_eq rfl) (hb hby d_prog_5_method_1_54) (fun _ _ => ⟨rfl, e115, (by decide : 0 + 3 ≤ _), (by decide : 0 + 18 ≤ _)⟩)
  dsimp only [Pt.U, Pt.locs, Pt.cells, Pt.slots] at X122 l122 y122 z122 st122 hQ122
  subst l122 y122 z122
  obtain ⟨bb_122, rfl, Nq122, Kq122⟩ := hQ122
  have N122 := Fr.app N115 Nq122
  have O122 := O115.keep Kq122 all0
  have K122 := K115.trans Kq122 all0
  have f123 := ((f113.wr W115).keep Kq122)
  have f124 := ((((((F5.other W103 (Or.inr (slot_ne (Or.inr (hw _ (List.mem_of_getElem? (i := 200) rfl))) (Or.inr (hw _ (List.mem_of_getElem? (i := 108) rfl))) (by decide) (t := (.object "java/util/List")) (t' := (.object "java/lang/String")) (by decide) (by decide)))).other W106 (Or.inr (slot_ne (Or.inr (hw _ (List.mem_of_getElem? (i := 200) rfl))) (Or.inr (hw _ (List.mem_of_getElem? (i := 110) rfl))) (by decide) (t := (.object "java/util/List")) (t' := .int) (by decide) (by decide)))).other W109 (Or.inr (slot_ne (Or.inr (hw _ (List.mem_of_getElem? (i := 200) rfl))) (Or.inr (hw _ (List.mem_of_getElem? (i := 112) rfl))) (by decide) (t := (.object "java/util/List")) (t' := .double) (by decide) (by decide)))).other W112 (Or.inr (slot_ne (Or.inr (hw _ (List.mem_of_getElem? (i := 200) rfl))) (Or.inr (hw _ (List.mem_of_getElem? (i := 114) rfl))) (by decide) (t := (.object "java/util/List")) (t' := .int) (by decide) (by decide)))).other W115 (Or.inr (slot_ne (Or.inr (hw _ (List.mem_of_getElem? (i := 200) rfl))) (Or.inr (hw _ (List.mem_of_getElem? (i := 116) rfl))) (by decide) (t := (.object "java/util/List")) (t' := .double) (by decide) (by decide)))).keep Kq122 nin0)
  obtain ⟨T125, h125, X125, e125, W125, st125⟩ := putF X122 hx hZ hown (host := "") (Or.inl (hw _ (List.mem_of_getElem? (i := 199) rfl))) Via.refl rfl f124 f123 (Or.inr ⟨(hw _ (List.mem_of_getElem? (i := 200) rfl)), rfl, hnm⟩) (hw _ (List.mem_of_getElem? (i := 82) rfl)) (ty := (.object "java/util/List")) (by decide) rfl rfl (g := (mkF m 57 #[.val (.ref a1), .val (.ref aS), .val (.int p1), .val (.double d1), .second, .val (.int p2), .val (.double d2), .second, .val (.ref aL)] [(.ref bb_122), (.ref a1)])) rfl rfl (hb hby d_prog_5_method_1_57)
  have F125 := f124.same W125
  have N125 := Fr.snoc X125 N122 g1
  have O125 := O122.wr W125 g1
  have K125 := K122.wr W125 (Or.inl (List.mem_of_getElem? (i := 0) rfl))
  have f126 := ((f118.keep Kq122 nin0).other W125 (Or.inl (Ne.symm n1L)))
  have f128 := ((f116.keep Kq122).wr W125)
  obtain ⟨cq127, kq127, q127a, q127b, q127c⟩ := isOf hZ e125 f128
  obtain ⟨_, _, ⟨T127, L127, k127, n127⟩, -, X127, ⟨Lc127, hQ127, l127, y127, z127⟩, st127⟩ := X125.interfaceBack hx (xi := (⟨"java/util/List", "size", "()I"⟩ : MethodName)) (y := (⟨"java/util/ArrayList", "size", "()I"⟩ : MethodName)) hown (mvT hZ (hw _ (List.mem_of_getElem? (i := 201) rfl))) (mvT hZ (hw _ (List.mem_of_getElem? (i := 202) rfl))) (mvT hZ (hw _ (List.mem_of_getElem? (i := 203) rfl))) (mvT hZ (hw _ (List.mem_of_getElem? (i := 204) rfl))) (mvT hZ (hw _ (List.mem_of_getElem? (i := 205) rfl))) (mvT hZ (hw _ (List.mem_of_getElem? (i := 206) rfl))) (mvT hZ (hw _ (List.mem_of_getElem? (i := 207) rfl))) (mvT hZ (hw _ (List.mem_of_getElem? (i := 105) rfl))) (by decide) (backOf (W := 1) (rm_sz l Z a0 hw [] aL n h125 n0 O125 f126) hZ (hw _ (List.mem_of_getElem? (i := 208) rfl)) (hw _ (List.mem_of_getElem? (i := 28) rfl)) (by decide) (by decide)) q127a q127b q127c (g := (mkF m 63 #[.val (.ref a1), .val (.ref aS), .val (.int p1), .val (.double d1), .second, .val (.int p2), .val (.double d2), .second, .val (.ref aL)] [(.ref aL), (.ref a1)])) rfl (by rw [hml]; rfl) (Steps.refl _) (argsL := []) (rest := [(.ref a1)]) (lenOf pd_14 rfl) rfl (by show 2 * 0 + _ ≤ _; exact Nat.le_of_eq rfl) (hb hby d_prog_5_method_1_63) (fun _ _ => ⟨rfl, e125, (by decide : 3 + 0 ≤ _), (by decide : 18 + 0 ≤ _)⟩)
  dsimp only [Pt.U, Pt.locs, Pt.cells, Pt.slots] at X127 l127 y127 z127 st127 hQ127
  subst l127 y127 z127
  obtain ⟨rfl, Nq127, e127⟩ := hQ127
  have N127 := Fr.app N125 Nq127
  have f129 := (f123.wr W125)
  have f130 := (((((((F6.other W103 (Or.inr (slot_ne (Or.inr (hw _ (List.mem_of_getElem? (i := 210) rfl))) (Or.inr (hw _ (List.mem_of_getElem? (i := 108) rfl))) (by decide) (t := .int) (t' := (.object "java/lang/String")) (by decide) (by decide)))).other W106 (Or.inr (slot_ne (Or.inr (hw _ (List.mem_of_getElem? (i := 210) rfl))) (Or.inr (hw _ (List.mem_of_getElem? (i := 110) rfl))) (by decide) (t := .int) (t' := .int) (by decide) (by decide)))).other W109 (Or.inr (slot_ne (Or.inr (hw _ (List.mem_of_getElem? (i := 210) rfl))) (Or.inr (hw _ (List.mem_of_getElem? (i := 112) rfl))) (by decide) (t := .int) (t' := .double) (by decide) (by decide)))).other W112 (Or.inr (slot_ne (Or.inr (hw _ (List.mem_of_getElem? (i := 210) rfl))) (Or.inr (hw _ (List.mem_of_getElem? (i := 114) rfl))) (by decide) (t := .int) (t' := .int) (by decide) (by decide)))).other W115 (Or.inr (slot_ne (Or.inr (hw _ (List.mem_of_getElem? (i := 210) rfl))) (Or.inr (hw _ (List.mem_of_getElem? (i := 116) rfl))) (by decide) (t := .int) (t' := .double) (by decide) (by decide)))).keep Kq122 nin0).other W125 (Or.inr (slot_ne (Or.inr (hw _ (List.mem_of_getElem? (i := 210) rfl))) (Or.inr (hw _ (List.mem_of_getElem? (i := 200) rfl))) (by decide) (t := .int) (t' := (.object "java/util/List")) (by decide) (by decide))))
  obtain ⟨T131, h131, X131, e131, W131, st131⟩ := putF X127 hx hZ hown (host := "") (Or.inl (hw _ (List.mem_of_getElem? (i := 209) rfl))) Via.refl e127 f130 f129 (Or.inr ⟨(hw _ (List.mem_of_getElem? (i := 210) rfl)), rfl, hnm⟩) (hw _ (List.mem_of_getElem? (i := 82) rfl)) (ty := .int) (by decide) rfl rfl (g := (mkF m 72 #[.val (.ref a1), .val (.ref aS), .val (.int p1), .val (.double d1), .second, .val (.int p2), .val (.double d2), .second, .val (.ref aL)] [(.int ((n - (1 : Int32)) / (2 : Int32))), (.ref a1)])) rfl rfl (hb hby d_prog_5_method_1_72)
  have F131 := f130.same W131
  have N131 := Fr.snoc X131 N127 g1
  have O131 := O125.wr W131 g1
  have K131 := K125.wr W131 (Or.inl (List.mem_of_getElem? (i := 0) rfl))
  have f132 := (f129.wr W131)
  obtain ⟨fs, hr, hrun, hended, hW, hsame⟩ := X131.leave (v := none) (fun _ => rfl)
  refine ⟨_, _, pre0 _ ?_, hrun, hended, _, _, rfl, ?_, ⟨_, rfl⟩, hW, hsame.mono (by decide) (by decide)⟩
  · show Steps p.tables e below (s₁.setTop (mkF m 0 #[.val (.ref a1), .val (.ref aS), .val (.int p1), .val (.double d1), .second, .val (.int p2), .val (.double d2), .second, .val (.ref aL)] [])) _
    refine XS.aloadN X0.here hx rfl (hb hby d_prog_5_method_1_0) rfl rfl ?_
    show Steps p.tables e below (s₁.setTop (mkF m 1 #[.val (.ref a1), .val (.ref aS), .val (.int p1), .val (.double d1), .second, .val (.int p2), .val (.double d2), .second, .val (.ref aL)] [(.ref a1)])) _
    refine st101 _ ?_
    show Steps p.tables e below (T101.setTop (mkF m 4 #[.val (.ref a1), .val (.ref aS), .val (.int p1), .val (.double d1), .second, .val (.int p2), .val (.double d2), .second, .val (.ref aL)] [])) _
    refine XS.aload X101.here hx rfl (hb hby d_prog_5_method_1_4) rfl rfl ?_
    show Steps p.tables e below (T101.setTop (mkF m 6 #[.val (.ref a1), .val (.ref aS), .val (.int p1), .val (.double d1), .second, .val (.int p2), .val (.double d2), .second, .val (.ref aL)] [(.ref aL)])) _
    refine st102.trans ?_
    show Steps p.tables e below (T102.setTop (mkF m 11 #[.val (.ref a1), .val (.ref aS), .val (.int p1), .val (.double d1), .second, .val (.int p2), .val (.double d2), .second, .val (.ref aL)] [(.int (0 : Int32))])) _
    refine XS.ifYes X102.here hx rfl (pc0 := 11) (pc' := 24) rfl (hb hby d_prog_5_method_1_11) rfl ((if0 _ _).trans (teq (by decide : (0 : Int32) = (0 : Int32))).1) (by decide) (by decide) ?_
    refine XS.aloadN X102.here hx rfl (hb hby d_prog_5_method_1_24) rfl rfl ?_
    refine XS.aloadN X102.here hx rfl (hb hby d_prog_5_method_1_25) rfl rfl ?_
    show Steps p.tables e below (T102.setTop (mkF m 26 #[.val (.ref a1), .val (.ref aS), .val (.int p1), .val (.double d1), .second, .val (.int p2), .val (.double d2), .second, .val (.ref aL)] [(.ref aS), (.ref a1)])) _
    refine st103 _ ?_
    show Steps p.tables e below (T103.setTop (mkF m 29 #[.val (.ref a1), .val (.ref aS), .val (.int p1), .val (.double d1), .second, .val (.int p2), .val (.double d2), .second, .val (.ref aL)] [])) _
    refine XS.aloadN X103.here hx rfl (hb hby d_prog_5_method_1_29) rfl rfl ?_
    refine XS.iloadN X103.here hx rfl (hb hby d_prog_5_method_1_30) rfl ?_
    show Steps p.tables e below (T103.setTop (mkF m 31 #[.val (.ref a1), .val (.ref aS), .val (.int p1), .val (.double d1), .second, .val (.int p2), .val (.double d2), .second, .val (.ref aL)] [(.int p1), (.ref a1)])) _
    refine st106 _ ?_
    show Steps p.tables e below (T106.setTop (mkF m 34 #[.val (.ref a1), .val (.ref aS), .val (.int p1), .val (.double d1), .second, .val (.int p2), .val (.double d2), .second, .val (.ref aL)] [])) _
    refine XS.aloadN X106.here hx rfl (hb hby d_prog_5_method_1_34) rfl rfl ?_
    refine XS.dloadN X106.here hx rfl (hb hby d_prog_5_method_1_35) rfl ?_
    show Steps p.tables e below (T106.setTop (mkF m 36 #[.val (.ref a1), .val (.ref aS), .val (.int p1), .val (.double d1), .second, .val (.int p2), .val (.double d2), .second, .val (.ref aL)] [(.double d1), (.ref a1)])) _
    refine st109 _ ?_
    show Steps p.tables e below (T109.setTop (mkF m 39 #[.val (.ref a1), .val (.ref aS), .val (.int p1), .val (.double d1), .second, .val (.int p2), .val (.double d2), .second, .val (.ref aL)] [])) _
    refine XS.aloadN X109.here hx rfl (hb hby d_prog_5_method_1_39) rfl rfl ?_
    refine XS.iload X109.here hx rfl (hb hby d_prog_5_method_1_40) rfl ?_
    show Steps p.tables e below (T109.setTop (mkF m 42 #[.val (.ref a1), .val (.ref aS), .val (.int p1), .val (.double d1), .second, .val (.int p2), .val (.double d2), .second, .val (.ref aL)] [(.int p2), (.ref a1)])) _
    refine st112 _ ?_
    show Steps p.tables e below (T112.setTop (mkF m 45 #[.val (.ref a1), .val (.ref aS), .val (.int p1), .val (.double d1), .second, .val (.int p2), .val (.double d2), .second, .val (.ref aL)] [])) _
    refine XS.aloadN X112.here hx rfl (hb hby d_prog_5_method_1_45) rfl rfl ?_
    refine XS.dload X112.here hx rfl (hb hby d_prog_5_method_1_46) rfl ?_
    show Steps p.tables e below (T112.setTop (mkF m 48 #[.val (.ref a1), .val (.ref aS), .val (.int p1), .val (.double d1), .second, .val (.int p2), .val (.double d2), .second, .val (.ref aL)] [(.double d2), (.ref a1)])) _
    refine st115 _ ?_
    show Steps p.tables e below (T115.setTop (mkF m 51 #[.val (.ref a1), .val (.ref aS), .val (.int p1), .val (.double d1), .second, .val (.int p2), .val (.double d2), .second, .val (.ref aL)] [])) _
    refine XS.aloadN X115.here hx rfl (hb hby d_prog_5_method_1_51) rfl rfl ?_
    refine XS.aload X115.here hx rfl (hb hby d_prog_5_method_1_52) rfl rfl ?_
    show Steps p.tables e below (T115.setTop (mkF m 54 #[.val (.ref a1), .val (.ref aS), .val (.int p1), .val (.double d1), .second, .val (.int p2), .val (.double d2), .second, .val (.ref aL)] [(.ref aL), (.ref a1)])) _
    refine st122 _ ?_
    show Steps p.tables e below (T122.setTop (mkF m 57 #[.val (.ref a1), .val (.ref aS), .val (.int p1), .val (.double d1), .second, .val (.int p2), .val (.double d2), .second, .val (.ref aL)] [(.ref bb_122), (.ref a1)])) _
    refine st125 _ ?_
    show Steps p.tables e below (T125.setTop (mkF m 60 #[.val (.ref a1), .val (.ref aS), .val (.int p1), .val (.double d1), .second, .val (.int p2), .val (.double d2), .second, .val (.ref aL)] [])) _
    refine XS.aloadN X125.here hx rfl (hb hby d_prog_5_method_1_60) rfl rfl ?_
    refine XS.aload X125.here hx rfl (hb hby d_prog_5_method_1_61) rfl rfl ?_
    show Steps p.tables e below (T125.setTop (mkF m 63 #[.val (.ref a1), .val (.ref aS), .val (.int p1), .val (.double d1), .second, .val (.int p2), .val (.double d2), .second, .val (.ref aL)] [(.ref aL), (.ref a1)])) _
    refine st127.trans ?_
    show Steps p.tables e below (T127.setTop (mkF m 68 #[.val (.ref a1), .val (.ref aS), .val (.int p1), .val (.double d1), .second, .val (.int p2), .val (.double d2), .second, .val (.ref aL)] [(.int n), (.ref a1)])) _
    refine XS.iconst X127.here hx rfl (hb hby d_prog_5_method_1_68) ?_
    refine XS.isub X127.here hx rfl (hb hby d_prog_5_method_1_69) rfl ?_
    refine XS.iconst X127.here hx rfl (hb hby d_prog_5_method_1_70) ?_
    refine XS.idiv X127.here hx rfl (hb hby d_prog_5_method_1_71) rfl (by decide) ?_
    show Steps p.tables e below (T127.setTop (mkF m 72 #[.val (.ref a1), .val (.ref aS), .val (.int p1), .val (.double d1), .second, .val (.int p2), .val (.double d2), .second, .val (.ref aL)] [(.int ((n - (1 : Int32)) / (2 : Int32))), (.ref a1)])) _
    refine st131 _ ?_
    show Steps p.tables e below (T131.setTop (mkF m 75 #[.val (.ref a1), .val (.ref aS), .val (.int p1), .val (.double d1), .second, .val (.int p2), .val (.double d2), .second, .val (.ref aL)] [])) _
    exact X131.returnOut hx Bd.returns (hb hby d_prog_5_method_1_75) hr
  · show Q_ini Z a1 aS p1 d1 p2 d2 aL b k1 vs n aX mr aY u0 u1 u2 u3 u4 u5 u6 h0 n0 _ T131.heap _
    rw [e131]
    exact ⟨rfl, N131, K131, f132, F131⟩
theorem ef_ip (m : MethodId) (a1 : Addr) (pn : Int32) : entryFrame m #[(.ref a1), (.int pn)] 2 = mkF m 0 #[.val (.ref a1), .val (.int pn)] [] := by first | (simp [entryFrame, mkF, argsToLocals, Value.category]; done) | rfl
def Q_ip (Z : State) (a1 : Addr) (pn : Int32) (w : Int32) (h0 : Heap) (n0 : Nat) (v : Option Value) (h : Heap) (L : List Loc) : Prop := v = some (.int (if pn < (1 : Int32) then (0 : Int32) else (if w < pn then (0 : Int32) else (1 : Int32)))) ∧ Fr n0 L ∧ h = h0
set_option maxRecDepth 65536 in
set_option maxHeartbeats 40000000 in
theorem rm_ip (l : Launch) (Z : State) (a0 : Array Value) (hw : ∀ d ∈ tables_1, d.before a0 Z = true) (ws : List Jvm.Cond) (a1 : Addr) (pn : Int32) (w : Int32) (h0 : Heap) (n0 : Nat) (O0 : Old Z n0 h0) (FR : Fld Z h0 a1 "com/example/jitney/jitney/Instance" "requests" "I" (.int w)) :
    MetFree l (⟨"com/example/jitney/jitney/Instance", "isPickup", "(I)Z"⟩ : MethodName) (head1 (Jvm.Cond.code (⟨"com/example/jitney/jitney/Instance", "isPickup", "(I)Z"⟩ : MethodName) prog_5_method_11_code 2 (some .boolean) :: ws) ({ frames := 0, cells := 0, slots := 0, locals := 0 } : Room)) (fun a U => a = #[(.ref a1), (.int pn)] ∧ Z.Warmed39 U.vm ∧ U.heap = h0) (fun _ _ _ _ _ => True) (fun _ U o U' => ∃ v L, o = .returned v ∧ Q_ip Z a1 pn w h0 n0 v U'.heap L ∧ FrameEnd U o U' L ({ frames := 0, cells := 0, slots := 0, locals := 0 } : Room).cells ({ frames := 0, cells := 0, slots := 0, locals := 0 } : Room).slots) := by
  refine MetFree.of_bodySF (plainFor_of_name pn_13) hisR ?_
  intro p e s m args below meth c s₁ Bd hml0 hP hK
  obtain ⟨rfl, hZ, hh⟩ := hP
  have hx := Bd.exec
  have hby := Bd.bytes
  have hml : c.maxLocals = 2 := hml0
  have hown : s.vm.findClass "com/example/jitney/jitney/Instance" = some m.cls := findClass_of_methodNamed Bd.named
  have hnm := (name_of_methodNamed Bd.named Bd.method).1
  have X0 : Stand p l e ({ frames := 0, cells := 0, slots := 0, locals := 0 } : Room) s m #[(.ref a1), (.int pn)] below meth c s₁ [] 0 0 := Stand.of_body Bd
  have e0 : s₁.heap = h0 := by rw [← hh, Bd.state]; rfl
  have N0 := Fr.nil n0
  have pre0 : ∀ t, Steps p.tables e below (s₁.setTop (mkF m 0 #[.val (.ref a1), .val (.int pn)] [])) t → Steps p.tables e below (s₁.setTop (entryFrame m #[(.ref a1), (.int pn)] 2)) t := fun t k => castTop (ef_ip m a1 pn) k
  have pre101 : ∀ t, Steps p.tables e below (s₁.setTop (mkF m 2 #[.val (.ref a1), .val (.int pn)] [(.int (1 : Int32)), (.int pn)])) t → Steps p.tables e below (s₁.setTop (entryFrame m #[(.ref a1), (.int pn)] 2)) t := fun t kk => pre0 t (by
      show Steps p.tables e below (s₁.setTop (mkF m 0 #[.val (.ref a1), .val (.int pn)] [])) _
      refine XS.iloadN X0.here hx rfl (hb hby d_prog_5_method_11_0) rfl ?_
      refine XS.iconst X0.here hx rfl (hb hby d_prog_5_method_11_1) ?_
      show Steps p.tables e below (s₁.setTop (mkF m 2 #[.val (.ref a1), .val (.int pn)] [(.int (1 : Int32)), (.int pn)])) _
      exact kk)
  by_cases hc102 : pn < (1 : Int32)
  · obtain ⟨fs, hr, hrun, hended, hW, hsame⟩ := X0.leave (v := some (.int (0 : Int32))) (fun h => by rw [Bd.returns] at h; cases h)
    refine ⟨_, _, pre101 _ ?_, hrun, hended, _, _, rfl, ?_, ⟨_, rfl⟩, hW, hsame.mono (by decide) (by decide)⟩
    · refine XS.icmpYes X0.here hx rfl (pc0 := 2) (pc' := 17) rfl (hb hby d_prog_5_method_11_2) rfl (tlt hc102).1 (by decide) (by decide) ?_
      refine XS.iconst X0.here hx rfl (hb hby d_prog_5_method_11_17) ?_
      show Steps p.tables e below (s₁.setTop (mkF m 18 #[.val (.ref a1), .val (.int pn)] [(.int (0 : Int32))])) _
      exact retOut X0 hx (t := .boolean) (i := .ireturn) Bd.returns rfl (Or.inl ⟨rfl, Or.inr (Or.inl rfl), _, rfl⟩) (hb hby d_prog_5_method_11_18) hr
    · show Q_ip Z a1 pn w h0 n0 _ s₁.heap _
      rw [e0]
      exact ⟨(by simp [eq_true hc102]), N0, rfl⟩
  · obtain ⟨T103, X103, e103, st103⟩ := getF X0 hx hZ hown (host := "") (Or.inl (hw _ (List.mem_of_getElem? (i := 209) rfl))) Via.refl e0 FR (g := (mkF m 7 #[.val (.ref a1), .val (.int pn)] [(.ref a1), (.int pn)])) rfl rfl (hb hby d_prog_5_method_11_7)
    have pre104 : ∀ t, Steps p.tables e below (T103.setTop (mkF m 10 #[.val (.ref a1), .val (.int pn)] [(.int w), (.int pn)])) t → Steps p.tables e below (s₁.setTop (entryFrame m #[(.ref a1), (.int pn)] 2)) t := fun t kk => pre101 t (by
        refine XS.icmpNo X0.here hx rfl (hb hby d_prog_5_method_11_2) rfl (flt hc102).1 ?_
        refine XS.iloadN X0.here hx rfl (hb hby d_prog_5_method_11_5) rfl ?_
        refine XS.aloadN X0.here hx rfl (hb hby d_prog_5_method_11_6) rfl rfl ?_
        show Steps p.tables e below (s₁.setTop (mkF m 7 #[.val (.ref a1), .val (.int pn)] [(.ref a1), (.int pn)])) _
        refine st103 _ ?_
        show Steps p.tables e below (T103.setTop (mkF m 10 #[.val (.ref a1), .val (.int pn)] [(.int w), (.int pn)])) _
        exact kk)
    by_cases hc105 : w < pn
    · obtain ⟨fs, hr, hrun, hended, hW, hsame⟩ := X103.leave (v := some (.int (0 : Int32))) (fun h => by rw [Bd.returns] at h; cases h)
      refine ⟨_, _, pre104 _ ?_, hrun, hended, _, _, rfl, ?_, ⟨_, rfl⟩, hW, hsame.mono (by decide) (by decide)⟩
      · refine XS.icmpYes X103.here hx rfl (pc0 := 10) (pc' := 17) rfl (hb hby d_prog_5_method_11_10) rfl (tlt hc105).2.2.1 (by decide) (by decide) ?_
        refine XS.iconst X103.here hx rfl (hb hby d_prog_5_method_11_17) ?_
        show Steps p.tables e below (T103.setTop (mkF m 18 #[.val (.ref a1), .val (.int pn)] [(.int (0 : Int32))])) _
        exact retOut X103 hx (t := .boolean) (i := .ireturn) Bd.returns rfl (Or.inl ⟨rfl, Or.inr (Or.inl rfl), _, rfl⟩) (hb hby d_prog_5_method_11_18) hr
      · show Q_ip Z a1 pn w h0 n0 _ T103.heap _
        rw [e103]
        exact ⟨(by simp [eq_false hc102, eq_true hc105]), N0, rfl⟩
    · obtain ⟨fs, hr, hrun, hended, hW, hsame⟩ := X103.leave (v := some (.int (1 : Int32))) (fun h => by rw [Bd.returns] at h; cases h)
      refine ⟨_, _, pre104 _ ?_, hrun, hended, _, _, rfl, ?_, ⟨_, rfl⟩, hW, hsame.mono (by decide) (by decide)⟩
      · refine XS.icmpNo X103.here hx rfl (hb hby d_prog_5_method_11_10) rfl (flt hc105).2.2.1 ?_
        refine XS.iconst X103.here hx rfl (hb hby d_prog_5_method_11_13) ?_
        refine XS.goto X103.here hx rfl (pc0 := 14) (pc' := 18) rfl (hb hby d_prog_5_method_11_14) (by decide) (by decide) ?_
        show Steps p.tables e below (T103.setTop (mkF m 18 #[.val (.ref a1), .val (.int pn)] [(.int (1 : Int32))])) _
        exact retOut X103 hx (t := .boolean) (i := .ireturn) Bd.returns rfl (Or.inl ⟨rfl, Or.inr (Or.inl rfl), _, rfl⟩) (hb hby d_prog_5_method_11_18) hr
      · show Q_ip Z a1 pn w h0 n0 _ T103.heap _
        rw [e103]
        exact ⟨(by simp [eq_false hc102, eq_false hc105]), N0, rfl⟩
theorem own_k7 {p k : Int32} (h : k = (p &&& (7 : Int32))) : k = 0 ∨ k = 1 ∨ k = 2 ∨ k = 3 ∨ k = 4 ∨ k = 5 ∨ k = 6 ∨ k = 7 := by
  have e : (p &&& 7).toInt = p.toInt % 2 ^ 3 := Jvm.Kit.i32_mask p 7 (k := 3) (by decide) (by decide)
  have h0 : (0 : Int32).toInt = 0 := by decide
  have h1 : (1 : Int32).toInt = 1 := by decide
  have h2 : (2 : Int32).toInt = 2 := by decide
  have h3 : (3 : Int32).toInt = 3 := by decide
  have h4 : (4 : Int32).toInt = 4 := by decide
  have h5 : (5 : Int32).toInt = 5 := by decide
  have h6 : (6 : Int32).toInt = 6 := by decide
  have h7 : (7 : Int32).toInt = 7 := by decide
  rw [h]; simp only [← Int32.toInt_inj]; omega
theorem own_nk {k n : Int32} (hk : k = 0 ∨ k = 1 ∨ k = 2 ∨ k = 3 ∨ k = 4 ∨ k = 5 ∨ k = 6 ∨ k = 7) (hn : n = k + (1 : Int32)) : (n = (1 : Int32) ∨ n = (2 : Int32) ∨ n = (3 : Int32) ∨ n = (4 : Int32) ∨ n = (5 : Int32) ∨ n = (6 : Int32) ∨ n = (7 : Int32) ∨ n = (8 : Int32)) ∧ (¬ n < 0 ∧ n < (9 : Int32)) ∧ k / (2 : Int32) = (n - (1 : Int32)) / (2 : Int32) ∧ 0 ≤ ((n - (1 : Int32)) / (2 : Int32)).toInt := by
  subst hn
  rcases hk with rfl | rfl | rfl | rfl | rfl | rfl | rfl | rfl <;> decide +kernel
theorem own_exp {node w : Int32} {d : Int64} {ex r : Int32} (hd : d = (node.toInt64 - (1 : Int64))) (hw : 0 ≤ w.toInt) (hex : ex = (if d < (0 : Int64) then (0 : Int32) else (if d < (w.toInt64) then (1 : Int32) else (0 : Int32)))) (hr : r = (if node < (1 : Int32) then (0 : Int32) else (if w < node then (0 : Int32) else (1 : Int32)))) : r = ex := by
  have e1 : node.toInt64.toInt = node.toInt := Jvm.Kit.i64_of_i32 _
  have e2 : w.toInt64.toInt = w.toInt := Jvm.Kit.i64_of_i32 _
  have b := rng32 node
  have k1 : (1 : Int64).toInt = 1 := by decide
  have k0 : (0 : Int64).toInt = 0 := by decide
  have k2 : (1 : Int32).toInt = 1 := by decide
  have e3 : d.toInt = node.toInt - 1 := by rw [hd, Jvm.Kit.i64_sub (by omega) (by omega)]; omega
  rw [hex, hr]
  simp only [Int64.lt_iff_toInt_lt, Int32.lt_iff_toInt_lt, e2, e3, k0, k2]
  by_cases c1 : node.toInt < 1
  · have d1 : node.toInt - 1 < 0 := by omega
    rw [if_pos c1, if_pos d1]
  · have d1 : ¬ (node.toInt - 1 < 0) := by omega
    rw [if_neg c1, if_neg d1]
    by_cases c2 : w.toInt < node.toInt
    · have d2 : ¬ (node.toInt - 1 < w.toInt) := by omega
      rw [if_pos c2, if_neg d2]
    · have d2 : node.toInt - 1 < w.toInt := by omega
      rw [if_neg c2, if_pos d2]
theorem own_strW {Z : State} {a0 : Array Value} (hw : ∀ d ∈ tables_1, d.before a0 Z = true) : ∀ a ∈ Bundle.stringAtoms, a.before a0 Z = true := by
  intro d hd
  simp only [Bundle.stringAtoms, Bundle.sN, List.mem_cons, List.not_mem_nil, or_false] at hd
  rcases hd with rfl | rfl | rfl | rfl | rfl | rfl | rfl
  · exact (hw _ (List.mem_of_getElem? (i := 85) rfl))
  · exact (hw _ (List.mem_of_getElem? (i := 86) rfl))
  · exact (hw _ (List.mem_of_getElem? (i := 87) rfl))
  · exact (hw _ (List.mem_of_getElem? (i := 88) rfl))
  · exact (hw _ (List.mem_of_getElem? (i := 89) rfl))
  · exact (hw _ (List.mem_of_getElem? (i := 90) rfl))
  · exact (hw _ (List.mem_of_getElem? (i := 91) rfl))
theorem ef_law (m : MethodId) (p1 : Int32) (p2 : Int32) (p3 : Int32) : entryFrame m #[(.int p1), (.int p2), (.int p3)] maxLocals = mkF m 0 #[.val (.int p1), .val (.int p2), .val (.int p3), .unset, .unset, .unset, .unset, .unset, .unset, .unset, .unset, .unset] [] := by first | (simp [entryFrame, mkF, argsToLocals, Value.category, maxLocals]; done) | rfl
def Q_law (Z : State) (p1 : Int32) (p2 : Int32) (p3 : Int32) (aE : Addr) (kE : ClassId) (aY : Addr) (mr : Addr) (h0 : Heap) (n0 : Nat) (v : Option Value) (h : Heap) (L : List Loc) : Prop := v = some (.int 1) ∧ Fr n0 L
set_option maxRecDepth 65536 in
set_option maxHeartbeats 40000000 in
theorem rm_law (l : Launch) (Z : State) (a0 : Array Value) (hw : ∀ d ∈ tables_1, d.before a0 Z = true) (ws : List Jvm.Cond) (p1 : Int32) (p2 : Int32) (p3 : Int32) (aE : Addr) (kE : ClassId) (aY : Addr) (mr : Addr) (h0 : Heap) (n0 : Nat) (O0 : Old Z n0 h0) (SE : Sta Z Z.heap "java/util/ArrayList" "DEFAULTCAPACITY_EMPTY_ELEMENTDATA" "[Ljava/lang/Object;" (.ref aE)) (VE : Arv Z Z.heap aE kE (.object "java/lang/Object") (0 : Int32) [] .null) (SY : Sta Z Z.heap "java/util/ImmutableCollections" "EMPTY" "Ljava/lang/Object;" (.ref aY)) (MI : Mir Z "[Ljava/lang/Object;" mr) :
    MetFree l x (head1 (Jvm.Cond.code x code maxLocals ret :: ws) room_1) (fun a U => a = #[(.int p1), (.int p2), (.int p3)] ∧ Z.Warmed39 U.vm ∧ U.heap = h0) (fun _ _ _ _ _ => True) (fun _ U o U' => ∃ v L, o = .returned v ∧ Q_law Z p1 p2 p3 aE kE aY mr h0 n0 v U'.heap L ∧ ReturnedEndW U o U' L room_1.cells room_1.slots) := by
  refine MetFree.of_bodySF (plainFor_of_name pn_14) hisR ?_
  intro p e s m args below meth c s₁ Bd hml0 hP hK
  obtain ⟨rfl, hZ, hh⟩ := hP
  have hx := Bd.exec
  have hby := Bd.bytes
  have hml : c.maxLocals = 12 := hml0
  have hown : s.vm.findClass "com/example/jitney/jitney/InstanceIsPickupPinLaw" = some m.cls := findClass_of_methodNamed Bd.named
  have hnm := (name_of_methodNamed Bd.named Bd.method).1
  have X0 : Stand p l e room_1 s m #[(.int p1), (.int p2), (.int p3)] below meth c s₁ [] 0 0 := Stand.of_body Bd
  have e0 : s₁.heap = h0 := by rw [← hh, Bd.state]; rfl
  have N0 := Fr.nil n0
  have pre0 : ∀ t, Steps p.tables e below (s₁.setTop (mkF m 0 #[.val (.int p1), .val (.int p2), .val (.int p3), .unset, .unset, .unset, .unset, .unset, .unset, .unset, .unset, .unset] [])) t → Steps p.tables e below (s₁.setTop (entryFrame m #[(.int p1), (.int p2), (.int p3)] maxLocals)) t := fun t k => castTop (ef_law m p1 p2 p3) k
  obtain ⟨kv0, h_kv0⟩ : ∃ z : Int32, z = (p1 &&& (7 : Int32)) := ⟨_, rfl⟩
  have hk7 := own_k7 h_kv0
  obtain ⟨T101, h101, X101, e101, E101, A101, D101, -, st101⟩ := newO X0 hx hZ hown (hw _ (List.mem_of_getElem? (i := 0) rfl)) (hw _ (List.mem_of_getElem? (i := 1) rfl)) (hw _ (List.mem_of_getElem? (i := 2) rfl)) e0 (g := (mkF m 5 #[.val (.int p1), .val (.int p2), .val (.int p3), .val (.int kv0), .unset, .unset, .unset, .unset, .unset, .unset, .unset, .unset] [])) rfl (hb hby at_5) (by decide) (by decide)
  obtain ⟨b101, g101⟩ : ∃ z, z = h0.size := ⟨_, rfl⟩
  rw [← g101] at A101 D101 st101
  have g_b101 : n0 ≤ b101 := Nat.le_trans (own_szO O0) (Nat.le_of_eq g101.symm)
  have O101 := O0.ext E101
  have F101_x : Fld Z h101 b101 "com/example/jitney/jitney/Instance$Node" "x" "D" (.double (0 : UInt64)) := D101 (Or.inr (hw _ (List.mem_of_getElem? (i := 15) rfl))) (ty := .double) (by decide)
  have F101_y : Fld Z h101 b101 "com/example/jitney/jitney/Instance$Node" "y" "D" (.double (0 : UInt64)) := D101 (Or.inr (hw _ (List.mem_of_getElem? (i := 17) rfl))) (ty := .double) (by decide)
  have F101_service : Fld Z h101 b101 "com/example/jitney/jitney/Instance$Node" "service" "D" (.double (0 : UInt64)) := D101 (Or.inr (hw _ (List.mem_of_getElem? (i := 19) rfl))) (ty := .double) (by decide)
  have F101_load : Fld Z h101 b101 "com/example/jitney/jitney/Instance$Node" "load" "I" (.int (0 : Int32)) := D101 (Or.inr (hw _ (List.mem_of_getElem? (i := 21) rfl))) (ty := .int) (by decide)
  have F101_earliest : Fld Z h101 b101 "com/example/jitney/jitney/Instance$Node" "earliest" "D" (.double (0 : UInt64)) := D101 (Or.inr (hw _ (List.mem_of_getElem? (i := 23) rfl))) (ty := .double) (by decide)
  have F101_latest : Fld Z h101 b101 "com/example/jitney/jitney/Instance$Node" "latest" "D" (.double (0 : UInt64)) := D101 (Or.inr (hw _ (List.mem_of_getElem? (i := 25) rfl))) (ty := .double) (by decide)
  obtain ⟨_, _, ⟨T102, L102, k102, n102⟩, -, X102, ⟨Lc102, hQ102, l102, y102, z102⟩, st102⟩ := X101.specialBack hx (y := (⟨"com/example/jitney/jitney/Instance$Node", "<init>", "(DDDIDD)V"⟩ : MethodName)) rfl hown (mvT hZ (hw _ (List.mem_of_getElem? (i := 3) rfl))) (mvT hZ (hw _ (List.mem_of_getElem? (i := 4) rfl))) (mvT hZ (hw _ (List.mem_of_getElem? (i := 5) rfl))) (by decide) (backOf (W := 1) (rm_nd l Z a0 hw [] b101 (0 : UInt64) (0 : UInt64) (0 : UInt64) (0 : Int32) (0 : UInt64) (0 : UInt64) ((.double (0 : UInt64))) ((.double (0 : UInt64))) ((.double (0 : UInt64))) ((.int (0 : Int32))) ((.double (0 : UInt64))) ((.double (0 : UInt64))) h101 n0 O101 A101 F101_x F101_y F101_service F101_load F101_earliest F101_latest g_b101) hZ (hw _ (List.mem_of_getElem? (i := 5) rfl)) (hw _ (List.mem_of_getElem? (i := 2) rfl)) (by decide) (by decide)) (g := (mkF m 15 #[.val (.int p1), .val (.int p2), .val (.int p3), .val (.int kv0), .unset, .unset, .unset, .unset, .unset, .unset, .unset, .unset] [(.double (0 : UInt64)), (.double (0 : UInt64)), (.int (0 : Int32)), (.double (0 : UInt64)), (.double (0 : UInt64)), (.double (0 : UInt64)), (.ref b101), (.ref b101)])) rfl (by rw [hml]; rfl) (Steps.refl _) (a := b101) (argsL := [(.double (0 : UInt64)), (.double (0 : UInt64)), (.double (0 : UInt64)), (.int (0 : Int32)), (.double (0 : UInt64)), (.double (0 : UInt64))]) (rest := [(.ref b101)]) (lenOf pd_15 rfl) rfl (by show 2 * 0 + _ ≤ _; exact Nat.le_of_eq rfl) (hb hby at_15) (fun _ _ => ⟨rfl, e101, (by decide : 1 + 0 ≤ _), (by decide : 6 + 0 ≤ _)⟩)
  dsimp only [Pt.U, Pt.locs, Pt.cells, Pt.slots] at X102 l102 y102 z102 st102 hQ102
  subst l102 y102 z102
  obtain ⟨rfl, Nq102, Kq102, En102⟩ := hQ102
  have N102 := Fr.app N0 Nq102
  have O102 := O101.keep Kq102 (allS g_b101 all0)
  obtain ⟨T103, h103, X103, e103, E103, A103, D103, -, st103⟩ := newO X102 hx hZ hown (hw _ (List.mem_of_getElem? (i := 26) rfl)) (hw _ (List.mem_of_getElem? (i := 27) rfl)) (hw _ (List.mem_of_getElem? (i := 28) rfl)) rfl (g := (mkF m 20 #[.val (.int p1), .val (.int p2), .val (.int p3), .val (.int kv0), .val (.ref b101), .unset, .unset, .unset, .unset, .unset, .unset, .unset] [])) rfl (hb hby at_20) (by decide) (by decide)
  obtain ⟨b103, g103⟩ : ∃ z, z = T102.heap.size := ⟨_, rfl⟩
  rw [← g103] at A103 D103 st103
  have g_b103 : n0 ≤ b103 := Nat.le_trans (own_szO O102) (Nat.le_of_eq g103.symm)
  have ne_b101_b103 : b101 ≠ b103 := Nat.ne_of_lt (Nat.lt_of_lt_of_le En102.lt (Nat.le_of_eq g103.symm))
  have O103 := O102.ext E103
  have F103_modCount : Fld Z h103 b103 "java/util/AbstractList" "modCount" "I" (.int (0 : Int32)) := D103 (Or.inl (hw _ (List.mem_of_getElem? (i := 46) rfl))) (ty := .int) (by decide)
  have F103_elementData : Fld Z h103 b103 "java/util/ArrayList" "elementData" "[Ljava/lang/Object;" .null := D103 (Or.inl (hw _ (List.mem_of_getElem? (i := 49) rfl))) (ty := (.array (.object "java/lang/Object"))) (by decide)
  have F103_size : Fld Z h103 b103 "java/util/ArrayList" "size" "I" (.int (0 : Int32)) := D103 (Or.inl (hw _ (List.mem_of_getElem? (i := 58) rfl))) (ty := .int) (by decide)
  obtain ⟨_, _, ⟨T104, L104, k104, n104⟩, -, X104, ⟨Lc104, hQ104, l104, y104, z104⟩, st104⟩ := X103.specialBack hx (y := (⟨"java/util/ArrayList", "<init>", "()V"⟩ : MethodName)) rfl hown (mvT hZ (hw _ (List.mem_of_getElem? (i := 29) rfl))) (mvT hZ (hw _ (List.mem_of_getElem? (i := 30) rfl))) (mvT hZ (hw _ (List.mem_of_getElem? (i := 31) rfl))) (by decide) (backOf (W := 1) (rm_ali l Z a0 hw [] b103 ((.int (0 : Int32))) (.null) ((.int (0 : Int32))) aE kE h103 n0 O103 A103 F103_modCount F103_elementData F103_size g_b103 SE VE) hZ (hw _ (List.mem_of_getElem? (i := 31) rfl)) (hw _ (List.mem_of_getElem? (i := 28) rfl)) (by decide) (by decide)) (g := (mkF m 24 #[.val (.int p1), .val (.int p2), .val (.int p3), .val (.int kv0), .val (.ref b101), .unset, .unset, .unset, .unset, .unset, .unset, .unset] [(.ref b103), (.ref b103)])) rfl (by rw [hml]; rfl) (Steps.refl _) (a := b103) (argsL := []) (rest := [(.ref b103)]) (lenOf pd_0 rfl) rfl (by show 2 * 0 + _ ≤ _; exact Nat.le_of_eq rfl) (hb hby at_24) (fun _ _ => ⟨rfl, e103, (by decide : 2 + 0 ≤ _), (by decide : 9 + 0 ≤ _)⟩)
  dsimp only [Pt.U, Pt.locs, Pt.cells, Pt.slots] at X104 l104 y104 z104 st104 hQ104
  subst l104 y104 z104
  obtain ⟨rfl, Nq104, Kq104, Ek104, Fk_modCount_104, Fk_elementData_104, Fk_size_104⟩ := hQ104
  have N104 := Fr.app N102 Nq104
  have O104 := O103.keep Kq104 (allS g_b103 all0)
  have f105 := ((En102.ext E103).keep Kq104)
  obtain ⟨cq106, kq106, q106a, q106b, q106c⟩ := isOf hZ rfl Ek104
  obtain ⟨_, _, ⟨T106, L106, k106, n106⟩, -, X106, ⟨Lc106, hQ106, l106, y106, z106⟩, st106⟩ := X104.virtualBack hx (y := (⟨"java/util/ArrayList", "add", "(Ljava/lang/Object;)Z"⟩ : MethodName)) (z := (⟨"java/util/ArrayList", "add", "(Ljava/lang/Object;)Z"⟩ : MethodName)) hown (mvT hZ (hw _ (List.mem_of_getElem? (i := 50) rfl))) (mvT hZ (hw _ (List.mem_of_getElem? (i := 51) rfl))) (notFace_of_selects (args := #[]) (mvT hZ (hw _ (List.mem_of_getElem? (i := 53) rfl)))) (mvT hZ (hw _ (List.mem_of_getElem? (i := 53) rfl))) (mvT hZ (hw _ (List.mem_of_getElem? (i := 52) rfl))) (by decide) (backOf (W := 0) (rm_ad1 l Z a0 hw [] b103 (0 : Int32) b101 aE kE T104.heap n0 O104 Ek104 Fk_modCount_104 Fk_elementData_104 Fk_size_104 g_b103 SE VE f105 ne_b101_b103) hZ (hw _ (List.mem_of_getElem? (i := 54) rfl)) (hw _ (List.mem_of_getElem? (i := 28) rfl)) (by decide) (by decide)) q106a q106c (g := (mkF m 33 #[.val (.int p1), .val (.int p2), .val (.int p3), .val (.int kv0), .val (.ref b101), .val (.ref b103), .unset, .unset, .unset, .unset, .unset, .unset] [(.ref b101), (.ref b103)])) rfl (by rw [hml]; rfl) (Steps.refl _) (argsL := [(.ref b101)]) (rest := []) (lenOf pd_16 rfl) rfl (by show 2 * 0 + _ ≤ _; exact Nat.le_of_eq rfl) (hb hby at_33) (fun _ _ => ⟨rfl, rfl, (by decide : 2 + 1 ≤ _), (by decide : 9 + 10 ≤ _)⟩)
  dsimp only [Pt.U, Pt.locs, Pt.cells, Pt.slots] at X106 l106 y106 z106 st106 hQ106
  subst l106 y106 z106
  obtain ⟨b_106, k_106, rfl, Nq106, Kq106, Ek106, Fk_modCount_106, Fk_elementData_106, Fk_size_106, Vb106, Ob106, Eb106, lb106⟩ := hQ106
  have N106 := Fr.app N104 Nq106
  have g_b_106 : n0 ≤ b_106 := Nat.le_trans (own_szO O104) lb106
  have ne_b101_b_106 : b101 ≠ b_106 := Nat.ne_of_lt (Nat.lt_of_lt_of_le f105.lt lb106)
  have ne_b103_b_106 : b103 ≠ b_106 := Nat.ne_of_lt (Nat.lt_of_lt_of_le Ek104.lt lb106)
  have O106 := O104.keep Kq106 (allS g_b103 all0)
  rw [show ((0 : Int32) + (1 : Int32)) = (1 : Int32) from by decide] at Fk_modCount_106
  have pre107 : ∀ t, Steps p.tables e below (T106.setTop (mkF m 37 #[.val (.int p1), .val (.int p2), .val (.int p3), .val (.int kv0), .val (.ref b101), .val (.ref b103), .unset, .unset, .unset, .unset, .unset, .unset] [])) t → Steps p.tables e below (s₁.setTop (entryFrame m #[(.int p1), (.int p2), (.int p3)] maxLocals)) t := fun t kk => pre0 t (by
      show Steps p.tables e below (s₁.setTop (mkF m 0 #[.val (.int p1), .val (.int p2), .val (.int p3), .unset, .unset, .unset, .unset, .unset, .unset, .unset, .unset, .unset] [])) _
      refine XS.iloadN X0.here hx rfl (hb hby at_0) rfl ?_
      refine XS.bipush X0.here hx rfl (hb hby at_1) ?_
      refine XS.iand X0.here hx rfl (hb hby at_3) rfl ?_
      show Steps p.tables e below (s₁.setTop (mkF m 4 #[.val (.int p1), .val (.int p2), .val (.int p3), .unset, .unset, .unset, .unset, .unset, .unset, .unset, .unset, .unset] [(.int (p1 &&& (7 : Int32)))])) _
      rw [show (p1 &&& (7 : Int32)) = kv0 from h_kv0.symm]
      show Steps p.tables e below (s₁.setTop (mkF m 4 #[.val (.int p1), .val (.int p2), .val (.int p3), .unset, .unset, .unset, .unset, .unset, .unset, .unset, .unset, .unset] [(.int kv0)])) _
      refine XS.istoreN X0.here hx rfl (hb hby at_4) rfl (l' := #[.val (.int p1), .val (.int p2), .val (.int p3), .val (.int kv0), .unset, .unset, .unset, .unset, .unset, .unset, .unset, .unset]) rfl ?_
      show Steps p.tables e below (s₁.setTop (mkF m 5 #[.val (.int p1), .val (.int p2), .val (.int p3), .val (.int kv0), .unset, .unset, .unset, .unset, .unset, .unset, .unset, .unset] [])) _
      refine st101 _ ?_
      show Steps p.tables e below (T101.setTop (mkF m 8 #[.val (.int p1), .val (.int p2), .val (.int p3), .val (.int kv0), .unset, .unset, .unset, .unset, .unset, .unset, .unset, .unset] [(.ref b101)])) _
      refine XS.dup X101.here hx rfl (hb hby at_8) rfl rfl ?_
      refine XS.dconst0 X101.here hx rfl (v := 0) (hb hby at_9) (by decide +kernel) ?_
      refine XS.dconst0 X101.here hx rfl (v := 0) (hb hby at_10) (by decide +kernel) ?_
      refine XS.dconst0 X101.here hx rfl (v := 0) (hb hby at_11) (by decide +kernel) ?_
      show Steps p.tables e below (T101.setTop (mkF m 12 #[.val (.int p1), .val (.int p2), .val (.int p3), .val (.int kv0), .unset, .unset, .unset, .unset, .unset, .unset, .unset, .unset] [(.double (0 : UInt64)), (.double (0 : UInt64)), (.double (0 : UInt64)), (.ref b101), (.ref b101)])) _
      refine XS.iconst X101.here hx rfl (hb hby at_12) ?_
      refine XS.dconst0 X101.here hx rfl (v := 0) (hb hby at_13) (by decide +kernel) ?_
      refine XS.dconst0 X101.here hx rfl (v := 0) (hb hby at_14) (by decide +kernel) ?_
      show Steps p.tables e below (T101.setTop (mkF m 15 #[.val (.int p1), .val (.int p2), .val (.int p3), .val (.int kv0), .unset, .unset, .unset, .unset, .unset, .unset, .unset, .unset] [(.double (0 : UInt64)), (.double (0 : UInt64)), (.int (0 : Int32)), (.double (0 : UInt64)), (.double (0 : UInt64)), (.double (0 : UInt64)), (.ref b101), (.ref b101)])) _
      refine st102.trans ?_
      show Steps p.tables e below (T102.setTop (mkF m 18 #[.val (.int p1), .val (.int p2), .val (.int p3), .val (.int kv0), .unset, .unset, .unset, .unset, .unset, .unset, .unset, .unset] [(.ref b101)])) _
      refine XS.astore X102.here hx rfl (hb hby at_18) rfl rfl (l' := #[.val (.int p1), .val (.int p2), .val (.int p3), .val (.int kv0), .val (.ref b101), .unset, .unset, .unset, .unset, .unset, .unset, .unset]) rfl ?_
      show Steps p.tables e below (T102.setTop (mkF m 20 #[.val (.int p1), .val (.int p2), .val (.int p3), .val (.int kv0), .val (.ref b101), .unset, .unset, .unset, .unset, .unset, .unset, .unset] [])) _
      refine st103 _ ?_
      show Steps p.tables e below (T103.setTop (mkF m 23 #[.val (.int p1), .val (.int p2), .val (.int p3), .val (.int kv0), .val (.ref b101), .unset, .unset, .unset, .unset, .unset, .unset, .unset] [(.ref b103)])) _
      refine XS.dup X103.here hx rfl (hb hby at_23) rfl rfl ?_
      show Steps p.tables e below (T103.setTop (mkF m 24 #[.val (.int p1), .val (.int p2), .val (.int p3), .val (.int kv0), .val (.ref b101), .unset, .unset, .unset, .unset, .unset, .unset, .unset] [(.ref b103), (.ref b103)])) _
      refine st104.trans ?_
      show Steps p.tables e below (T104.setTop (mkF m 27 #[.val (.int p1), .val (.int p2), .val (.int p3), .val (.int kv0), .val (.ref b101), .unset, .unset, .unset, .unset, .unset, .unset, .unset] [(.ref b103)])) _
      refine XS.astore X104.here hx rfl (hb hby at_27) rfl rfl (l' := #[.val (.int p1), .val (.int p2), .val (.int p3), .val (.int kv0), .val (.ref b101), .val (.ref b103), .unset, .unset, .unset, .unset, .unset, .unset]) rfl ?_
      refine XS.aload X104.here hx rfl (hb hby at_29) rfl rfl ?_
      refine XS.aload X104.here hx rfl (hb hby at_31) rfl rfl ?_
      show Steps p.tables e below (T104.setTop (mkF m 33 #[.val (.int p1), .val (.int p2), .val (.int p3), .val (.int kv0), .val (.ref b101), .val (.ref b103), .unset, .unset, .unset, .unset, .unset, .unset] [(.ref b101), (.ref b103)])) _
      refine st106.trans ?_
      show Steps p.tables e below (T106.setTop (mkF m 36 #[.val (.int p1), .val (.int p2), .val (.int p3), .val (.int kv0), .val (.ref b101), .val (.ref b103), .unset, .unset, .unset, .unset, .unset, .unset] [(.int (1 : Int32))])) _
      refine XS.pop X106.here hx rfl (hb hby at_36) rfl rfl ?_
      show Steps p.tables e below (T106.setTop (mkF m 37 #[.val (.int p1), .val (.int p2), .val (.int p3), .val (.int kv0), .val (.ref b101), .val (.ref b103), .unset, .unset, .unset, .unset, .unset, .unset] [])) _
      exact kk)
  have f108 := (f105.keep Kq106)
  obtain ⟨TJ, hJ, LJ, nJ, vsJ, XJ, eJ, NJ, OJ, ExJ, EaJ, FeJ, FsJ, VbJ, EbJ, srcJ, hnJ, preJ⟩ : ∃ (T : State) (h : Heap) (L : List Loc) (n : Int32) (vs : List Value), Stand p l e room_1 s m #[(.int p1), (.int p2), (.int p3)] below meth c T L 3 19 ∧ T.heap = h ∧ Fr n0 L ∧ Old Z n0 h ∧ Exa Z h b101 "com/example/jitney/jitney/Instance$Node" ∧ Exa Z h b103 "java/util/ArrayList" ∧ Fld Z h b103 "java/util/ArrayList" "elementData" "[Ljava/lang/Object;" (.ref b_106) ∧ Fld Z h b103 "java/util/ArrayList" "size" "I" (.int n) ∧ Arv Z h b_106 k_106 (.object "java/lang/Object") (10 : Int32) vs .null ∧ Exa Z h b_106 "[Ljava/lang/Object;" ∧ (∀ i, i < n.toNatClampNeg → vs.getD i .null = .ref b101) ∧ n = kv0 + (1 : Int32) ∧ ∀ t, Steps p.tables e below (T.setTop (mkF m 130 #[.val (.int p1), .val (.int p2), .val (.int p3), .val (.int kv0), .val (.ref b101), .val (.ref b103), .unset, .unset, .unset, .unset, .unset, .unset] [])) t → Steps p.tables e below (s₁.setTop (entryFrame m #[(.int p1), (.int p2), (.int p3)] maxLocals)) t := by
    rcases hk7 with hkv | hkv | hkv | hkv | hkv | hkv | hkv | hkv
    · have hc109 : kv0 < (1 : Int32) := (by rw [hkv]; decide)
      have hc110 : kv0 < (2 : Int32) := (by rw [hkv]; decide)
      have hc111 : kv0 < (3 : Int32) := (by rw [hkv]; decide)
      have hc112 : kv0 < (4 : Int32) := (by rw [hkv]; decide)
      have hc113 : kv0 < (5 : Int32) := (by rw [hkv]; decide)
      have hc114 : kv0 < (6 : Int32) := (by rw [hkv]; decide)
      have hc115 : kv0 < (7 : Int32) := (by rw [hkv]; decide)
      have pre116 : ∀ t, Steps p.tables e below (T106.setTop (mkF m 130 #[.val (.int p1), .val (.int p2), .val (.int p3), .val (.int kv0), .val (.ref b101), .val (.ref b103), .unset, .unset, .unset, .unset, .unset, .unset] [])) t → Steps p.tables e below (s₁.setTop (entryFrame m #[(.int p1), (.int p2), (.int p3)] maxLocals)) t := fun t kk => pre107 t (by
          refine XS.iloadN X106.here hx rfl (hb hby at_37) rfl ?_
          refine XS.iconst X106.here hx rfl (hb hby at_38) ?_
          refine XS.icmpYes X106.here hx rfl (pc0 := 39) (pc' := 50) rfl (hb hby at_39) rfl (tlt hc109).1 (by decide) (by decide) ?_
          refine XS.iloadN X106.here hx rfl (hb hby at_50) rfl ?_
          show Steps p.tables e below (T106.setTop (mkF m 51 #[.val (.int p1), .val (.int p2), .val (.int p3), .val (.int kv0), .val (.ref b101), .val (.ref b103), .unset, .unset, .unset, .unset, .unset, .unset] [(.int kv0)])) _
          refine XS.iconst X106.here hx rfl (hb hby at_51) ?_
          refine XS.icmpYes X106.here hx rfl (pc0 := 52) (pc' := 63) rfl (hb hby at_52) rfl (tlt hc110).1 (by decide) (by decide) ?_
          refine XS.iloadN X106.here hx rfl (hb hby at_63) rfl ?_
          refine XS.iconst X106.here hx rfl (hb hby at_64) ?_
          show Steps p.tables e below (T106.setTop (mkF m 65 #[.val (.int p1), .val (.int p2), .val (.int p3), .val (.int kv0), .val (.ref b101), .val (.ref b103), .unset, .unset, .unset, .unset, .unset, .unset] [(.int (3 : Int32)), (.int kv0)])) _
          refine XS.icmpYes X106.here hx rfl (pc0 := 65) (pc' := 76) rfl (hb hby at_65) rfl (tlt hc111).1 (by decide) (by decide) ?_
          refine XS.iloadN X106.here hx rfl (hb hby at_76) rfl ?_
          refine XS.iconst X106.here hx rfl (hb hby at_77) ?_
          refine XS.icmpYes X106.here hx rfl (pc0 := 78) (pc' := 89) rfl (hb hby at_78) rfl (tlt hc112).1 (by decide) (by decide) ?_
          show Steps p.tables e below (T106.setTop (mkF m 89 #[.val (.int p1), .val (.int p2), .val (.int p3), .val (.int kv0), .val (.ref b101), .val (.ref b103), .unset, .unset, .unset, .unset, .unset, .unset] [])) _
          refine XS.iloadN X106.here hx rfl (hb hby at_89) rfl ?_
          refine XS.iconst X106.here hx rfl (hb hby at_90) ?_
          refine XS.icmpYes X106.here hx rfl (pc0 := 91) (pc' := 102) rfl (hb hby at_91) rfl (tlt hc113).1 (by decide) (by decide) ?_
          refine XS.iloadN X106.here hx rfl (hb hby at_102) rfl ?_
          show Steps p.tables e below (T106.setTop (mkF m 103 #[.val (.int p1), .val (.int p2), .val (.int p3), .val (.int kv0), .val (.ref b101), .val (.ref b103), .unset, .unset, .unset, .unset, .unset, .unset] [(.int kv0)])) _
          refine XS.bipush X106.here hx rfl (hb hby at_103) ?_
          refine XS.icmpYes X106.here hx rfl (pc0 := 105) (pc' := 116) rfl (hb hby at_105) rfl (tlt hc114).1 (by decide) (by decide) ?_
          refine XS.iloadN X106.here hx rfl (hb hby at_116) rfl ?_
          refine XS.bipush X106.here hx rfl (hb hby at_117) ?_
          show Steps p.tables e below (T106.setTop (mkF m 119 #[.val (.int p1), .val (.int p2), .val (.int p3), .val (.int kv0), .val (.ref b101), .val (.ref b103), .unset, .unset, .unset, .unset, .unset, .unset] [(.int (7 : Int32)), (.int kv0)])) _
          refine XS.icmpYes X106.here hx rfl (pc0 := 119) (pc' := 130) rfl (hb hby at_119) rfl (tlt hc115).1 (by decide) (by decide) ?_
          show Steps p.tables e below (T106.setTop (mkF m 130 #[.val (.int p1), .val (.int p2), .val (.int p3), .val (.int kv0), .val (.ref b101), .val (.ref b103), .unset, .unset, .unset, .unset, .unset, .unset] [])) _
          exact kk)
      exact ⟨_, _, _, _, _, X106, rfl, N106, O106, f108, Ek106, Fk_elementData_106, Fk_size_106, Vb106, Eb106, (fun i hi => by
      have hi' : i < 1 := hi
      match i, hi' with
      | 0, _ => rfl), (by rw [hkv]; decide), pre116⟩
    · have hc117 : ¬ (kv0 < (1 : Int32)) := (by rw [hkv]; decide)
      obtain ⟨cq118, kq118, q118a, q118b, q118c⟩ := isOf hZ rfl Ek106
      obtain ⟨_, _, ⟨T118, L118, k118, n118⟩, -, X118, ⟨Lc118, hQ118, l118, y118, z118⟩, st118⟩ := X106.virtualBack hx (y := (⟨"java/util/ArrayList", "add", "(Ljava/lang/Object;)Z"⟩ : MethodName)) (z := (⟨"java/util/ArrayList", "add", "(Ljava/lang/Object;)Z"⟩ : MethodName)) hown (mvT hZ (hw _ (List.mem_of_getElem? (i := 50) rfl))) (mvT hZ (hw _ (List.mem_of_getElem? (i := 51) rfl))) (notFace_of_selects (args := #[]) (mvT hZ (hw _ (List.mem_of_getElem? (i := 53) rfl)))) (mvT hZ (hw _ (List.mem_of_getElem? (i := 53) rfl))) (mvT hZ (hw _ (List.mem_of_getElem? (i := 52) rfl))) (by decide) (backOf (W := 0) (rm_an1 l Z a0 hw [] b103 (1 : Int32) b101 (1 : Int32) b_106 k_106 [(.ref b101), .null, .null, .null, .null, .null, .null, .null, .null, .null] T106.heap n0 O106 Ek106 Fk_modCount_106 Fk_elementData_106 Fk_size_106 g_b103 g_b_106 f108 Vb106 Ob106 ne_b101_b103 ne_b101_b_106 ne_b103_b_106 (by decide) (Nat.le_of_ble_eq_true rfl)) hZ (hw _ (List.mem_of_getElem? (i := 54) rfl)) (hw _ (List.mem_of_getElem? (i := 28) rfl)) (by decide) (by decide)) q118a q118c (g := (mkF m 46 #[.val (.int p1), .val (.int p2), .val (.int p3), .val (.int kv0), .val (.ref b101), .val (.ref b103), .unset, .unset, .unset, .unset, .unset, .unset] [(.ref b101), (.ref b103)])) rfl (by rw [hml]; rfl) (Steps.refl _) (argsL := [(.ref b101)]) (rest := []) (lenOf pd_16 rfl) rfl (by show 2 * 0 + _ ≤ _; exact Nat.le_of_eq rfl) (hb hby at_46) (fun _ _ => ⟨rfl, rfl, (by decide : 3 + 0 ≤ _), (by decide : 19 + 0 ≤ _)⟩)
      dsimp only [Pt.U, Pt.locs, Pt.cells, Pt.slots] at X118 l118 y118 z118 st118 hQ118
      subst l118 y118 z118
      obtain ⟨rfl, Nq118, Kq118, Ek118, Fk_modCount_118, Fk_elementData_118, Fk_size_118, Vb118⟩ := hQ118
      have N118 := Fr.app N106 Nq118
      have O118 := O106.keep Kq118 (allS g_b103 (allS g_b_106 all0))
      rw [show ((1 : Int32) + (1 : Int32)) = (2 : Int32) from by decide] at Fk_modCount_118
      rw [show ((1 : Int32) + (1 : Int32)) = (2 : Int32) from by decide] at Fk_size_118
      have Vl118 : Arv Z T118.heap b_106 k_106 (.object "java/lang/Object") (10 : Int32) [(.ref b101), (.ref b101), .null, .null, .null, .null, .null, .null, .null, .null] .null := Vb118
      have hc119 : kv0 < (2 : Int32) := (by rw [hkv]; decide)
      have hc120 : kv0 < (3 : Int32) := (by rw [hkv]; decide)
      have hc121 : kv0 < (4 : Int32) := (by rw [hkv]; decide)
      have hc122 : kv0 < (5 : Int32) := (by rw [hkv]; decide)
      have hc123 : kv0 < (6 : Int32) := (by rw [hkv]; decide)
      have hc124 : kv0 < (7 : Int32) := (by rw [hkv]; decide)
      have pre125 : ∀ t, Steps p.tables e below (T118.setTop (mkF m 130 #[.val (.int p1), .val (.int p2), .val (.int p3), .val (.int kv0), .val (.ref b101), .val (.ref b103), .unset, .unset, .unset, .unset, .unset, .unset] [])) t → Steps p.tables e below (s₁.setTop (entryFrame m #[(.int p1), (.int p2), (.int p3)] maxLocals)) t := fun t kk => pre107 t (by
          refine XS.iloadN X106.here hx rfl (hb hby at_37) rfl ?_
          refine XS.iconst X106.here hx rfl (hb hby at_38) ?_
          refine XS.icmpNo X106.here hx rfl (hb hby at_39) rfl (flt hc117).1 ?_
          refine XS.aload X106.here hx rfl (hb hby at_42) rfl rfl ?_
          show Steps p.tables e below (T106.setTop (mkF m 44 #[.val (.int p1), .val (.int p2), .val (.int p3), .val (.int kv0), .val (.ref b101), .val (.ref b103), .unset, .unset, .unset, .unset, .unset, .unset] [(.ref b103)])) _
          refine XS.aload X106.here hx rfl (hb hby at_44) rfl rfl ?_
          show Steps p.tables e below (T106.setTop (mkF m 46 #[.val (.int p1), .val (.int p2), .val (.int p3), .val (.int kv0), .val (.ref b101), .val (.ref b103), .unset, .unset, .unset, .unset, .unset, .unset] [(.ref b101), (.ref b103)])) _
          refine st118.trans ?_
          show Steps p.tables e below (T118.setTop (mkF m 49 #[.val (.int p1), .val (.int p2), .val (.int p3), .val (.int kv0), .val (.ref b101), .val (.ref b103), .unset, .unset, .unset, .unset, .unset, .unset] [(.int (1 : Int32))])) _
          refine XS.pop X118.here hx rfl (hb hby at_49) rfl rfl ?_
          refine XS.iloadN X118.here hx rfl (hb hby at_50) rfl ?_
          refine XS.iconst X118.here hx rfl (hb hby at_51) ?_
          refine XS.icmpYes X118.here hx rfl (pc0 := 52) (pc' := 63) rfl (hb hby at_52) rfl (tlt hc119).1 (by decide) (by decide) ?_
          show Steps p.tables e below (T118.setTop (mkF m 63 #[.val (.int p1), .val (.int p2), .val (.int p3), .val (.int kv0), .val (.ref b101), .val (.ref b103), .unset, .unset, .unset, .unset, .unset, .unset] [])) _
          refine XS.iloadN X118.here hx rfl (hb hby at_63) rfl ?_
          refine XS.iconst X118.here hx rfl (hb hby at_64) ?_
          refine XS.icmpYes X118.here hx rfl (pc0 := 65) (pc' := 76) rfl (hb hby at_65) rfl (tlt hc120).1 (by decide) (by decide) ?_
          refine XS.iloadN X118.here hx rfl (hb hby at_76) rfl ?_
          show Steps p.tables e below (T118.setTop (mkF m 77 #[.val (.int p1), .val (.int p2), .val (.int p3), .val (.int kv0), .val (.ref b101), .val (.ref b103), .unset, .unset, .unset, .unset, .unset, .unset] [(.int kv0)])) _
          refine XS.iconst X118.here hx rfl (hb hby at_77) ?_
          refine XS.icmpYes X118.here hx rfl (pc0 := 78) (pc' := 89) rfl (hb hby at_78) rfl (tlt hc121).1 (by decide) (by decide) ?_
          refine XS.iloadN X118.here hx rfl (hb hby at_89) rfl ?_
          refine XS.iconst X118.here hx rfl (hb hby at_90) ?_
          show Steps p.tables e below (T118.setTop (mkF m 91 #[.val (.int p1), .val (.int p2), .val (.int p3), .val (.int kv0), .val (.ref b101), .val (.ref b103), .unset, .unset, .unset, .unset, .unset, .unset] [(.int (5 : Int32)), (.int kv0)])) _
          refine XS.icmpYes X118.here hx rfl (pc0 := 91) (pc' := 102) rfl (hb hby at_91) rfl (tlt hc122).1 (by decide) (by decide) ?_
          refine XS.iloadN X118.here hx rfl (hb hby at_102) rfl ?_
          refine XS.bipush X118.here hx rfl (hb hby at_103) ?_
          refine XS.icmpYes X118.here hx rfl (pc0 := 105) (pc' := 116) rfl (hb hby at_105) rfl (tlt hc123).1 (by decide) (by decide) ?_
          show Steps p.tables e below (T118.setTop (mkF m 116 #[.val (.int p1), .val (.int p2), .val (.int p3), .val (.int kv0), .val (.ref b101), .val (.ref b103), .unset, .unset, .unset, .unset, .unset, .unset] [])) _
          refine XS.iloadN X118.here hx rfl (hb hby at_116) rfl ?_
          refine XS.bipush X118.here hx rfl (hb hby at_117) ?_
          refine XS.icmpYes X118.here hx rfl (pc0 := 119) (pc' := 130) rfl (hb hby at_119) rfl (tlt hc124).1 (by decide) (by decide) ?_
          show Steps p.tables e below (T118.setTop (mkF m 130 #[.val (.int p1), .val (.int p2), .val (.int p3), .val (.int kv0), .val (.ref b101), .val (.ref b103), .unset, .unset, .unset, .unset, .unset, .unset] [])) _
          exact kk)
      have f126 := (f108.keep Kq118)
      have f127 := (Eb106.keep Kq118)
      exact ⟨_, _, _, _, _, X118, rfl, N118, O118, f126, Ek118, Fk_elementData_118, Fk_size_118, Vl118, f127, (fun i hi => by
      have hi' : i < 2 := hi
      match i, hi' with
      | 0, _ => rfl
      | 1, _ => rfl), (by rw [hkv]; decide), pre125⟩
    · have hc128 : ¬ (kv0 < (1 : Int32)) := (by rw [hkv]; decide)
      obtain ⟨cq129, kq129, q129a, q129b, q129c⟩ := isOf hZ rfl Ek106
      obtain ⟨_, _, ⟨T129, L129, k129, n129⟩, -, X129, ⟨Lc129, hQ129, l129, y129, z129⟩, st129⟩ := X106.virtualBack hx (y := (⟨"java/util/ArrayList", "add", "(Ljava/lang/Object;)Z"⟩ : MethodName)) (z := (⟨"java/util/ArrayList", "add", "(Ljava/lang/Object;)Z"⟩ : MethodName)) hown (mvT hZ (hw _ (List.mem_of_getElem? (i := 50) rfl))) (mvT hZ (hw _ (List.mem_of_getElem? (i := 51) rfl))) (notFace_of_selects (args := #[]) (mvT hZ (hw _ (List.mem_of_getElem? (i := 53) rfl)))) (mvT hZ (hw _ (List.mem_of_getElem? (i := 53) rfl))) (mvT hZ (hw _ (List.mem_of_getElem? (i := 52) rfl))) (by decide) (backOf (W := 0) (rm_an1 l Z a0 hw [] b103 (1 : Int32) b101 (1 : Int32) b_106 k_106 [(.ref b101), .null, .null, .null, .null, .null, .null, .null, .null, .null] T106.heap n0 O106 Ek106 Fk_modCount_106 Fk_elementData_106 Fk_size_106 g_b103 g_b_106 f108 Vb106 Ob106 ne_b101_b103 ne_b101_b_106 ne_b103_b_106 (by decide) (Nat.le_of_ble_eq_true rfl)) hZ (hw _ (List.mem_of_getElem? (i := 54) rfl)) (hw _ (List.mem_of_getElem? (i := 28) rfl)) (by decide) (by decide)) q129a q129c (g := (mkF m 46 #[.val (.int p1), .val (.int p2), .val (.int p3), .val (.int kv0), .val (.ref b101), .val (.ref b103), .unset, .unset, .unset, .unset, .unset, .unset] [(.ref b101), (.ref b103)])) rfl (by rw [hml]; rfl) (Steps.refl _) (argsL := [(.ref b101)]) (rest := []) (lenOf pd_16 rfl) rfl (by show 2 * 0 + _ ≤ _; exact Nat.le_of_eq rfl) (hb hby at_46) (fun _ _ => ⟨rfl, rfl, (by decide : 3 + 0 ≤ _), (by decide : 19 + 0 ≤ _)⟩)
      dsimp only [Pt.U, Pt.locs, Pt.cells, Pt.slots] at X129 l129 y129 z129 st129 hQ129
      subst l129 y129 z129
      obtain ⟨rfl, Nq129, Kq129, Ek129, Fk_modCount_129, Fk_elementData_129, Fk_size_129, Vb129⟩ := hQ129
      have N129 := Fr.app N106 Nq129
      have O129 := O106.keep Kq129 (allS g_b103 (allS g_b_106 all0))
      rw [show ((1 : Int32) + (1 : Int32)) = (2 : Int32) from by decide] at Fk_modCount_129
      rw [show ((1 : Int32) + (1 : Int32)) = (2 : Int32) from by decide] at Fk_size_129
      have Vl129 : Arv Z T129.heap b_106 k_106 (.object "java/lang/Object") (10 : Int32) [(.ref b101), (.ref b101), .null, .null, .null, .null, .null, .null, .null, .null] .null := Vb129
      have hc130 : ¬ (kv0 < (2 : Int32)) := (by rw [hkv]; decide)
      have f131 := (Eb106.keep Kq129)
      have f132 := (f108.keep Kq129)
      obtain ⟨cq133, kq133, q133a, q133b, q133c⟩ := isOf hZ rfl Ek129
      obtain ⟨_, _, ⟨T133, L133, k133, n133⟩, -, X133, ⟨Lc133, hQ133, l133, y133, z133⟩, st133⟩ := X129.virtualBack hx (y := (⟨"java/util/ArrayList", "add", "(Ljava/lang/Object;)Z"⟩ : MethodName)) (z := (⟨"java/util/ArrayList", "add", "(Ljava/lang/Object;)Z"⟩ : MethodName)) hown (mvT hZ (hw _ (List.mem_of_getElem? (i := 50) rfl))) (mvT hZ (hw _ (List.mem_of_getElem? (i := 51) rfl))) (notFace_of_selects (args := #[]) (mvT hZ (hw _ (List.mem_of_getElem? (i := 53) rfl)))) (mvT hZ (hw _ (List.mem_of_getElem? (i := 53) rfl))) (mvT hZ (hw _ (List.mem_of_getElem? (i := 52) rfl))) (by decide) (backOf (W := 0) (rm_an1 l Z a0 hw [] b103 (2 : Int32) b101 (2 : Int32) b_106 k_106 [(.ref b101), (.ref b101), .null, .null, .null, .null, .null, .null, .null, .null] T129.heap n0 O129 Ek129 Fk_modCount_129 Fk_elementData_129 Fk_size_129 g_b103 g_b_106 f132 Vl129 Ob106 ne_b101_b103 ne_b101_b_106 ne_b103_b_106 (by decide) (Nat.le_of_ble_eq_true rfl)) hZ (hw _ (List.mem_of_getElem? (i := 54) rfl)) (hw _ (List.mem_of_getElem? (i := 28) rfl)) (by decide) (by decide)) q133a q133c (g := (mkF m 59 #[.val (.int p1), .val (.int p2), .val (.int p3), .val (.int kv0), .val (.ref b101), .val (.ref b103), .unset, .unset, .unset, .unset, .unset, .unset] [(.ref b101), (.ref b103)])) rfl (by rw [hml]; rfl) (Steps.refl _) (argsL := [(.ref b101)]) (rest := []) (lenOf pd_16 rfl) rfl (by show 2 * 0 + _ ≤ _; exact Nat.le_of_eq rfl) (hb hby at_59) (fun _ _ => ⟨rfl, rfl, (by decide : 3 + 0 ≤ _), (by decide : 19 + 0 ≤ _)⟩)
      dsimp only [Pt.U, Pt.locs, Pt.cells, Pt.slots] at X133 l133 y133 z133 st133 hQ133
      subst l133 y133 z133
      obtain ⟨rfl, Nq133, Kq133, Ek133, Fk_modCount_133, Fk_elementData_133, Fk_size_133, Vb133⟩ := hQ133
      have N133 := Fr.app N129 Nq133
      have O133 := O129.keep Kq133 (allS g_b103 (allS g_b_106 all0))
      rw [show ((2 : Int32) + (1 : Int32)) = (3 : Int32) from by decide] at Fk_modCount_133
      rw [show ((2 : Int32) + (1 : Int32)) = (3 : Int32) from by decide] at Fk_size_133
      have Vl133 : Arv Z T133.heap b_106 k_106 (.object "java/lang/Object") (10 : Int32) [(.ref b101), (.ref b101), (.ref b101), .null, .null, .null, .null, .null, .null, .null] .null := Vb133
      have hc134 : kv0 < (3 : Int32) := (by rw [hkv]; decide)
      have hc135 : kv0 < (4 : Int32) := (by rw [hkv]; decide)
      have hc136 : kv0 < (5 : Int32) := (by rw [hkv]; decide)
      have hc137 : kv0 < (6 : Int32) := (by rw [hkv]; decide)
      have hc138 : kv0 < (7 : Int32) := (by rw [hkv]; decide)
      have pre139 : ∀ t, Steps p.tables e below (T133.setTop (mkF m 130 #[.val (.int p1), .val (.int p2), .val (.int p3), .val (.int kv0), .val (.ref b101), .val (.ref b103), .unset, .unset, .unset, .unset, .unset, .unset] [])) t → Steps p.tables e below (s₁.setTop (entryFrame m #[(.int p1), (.int p2), (.int p3)] maxLocals)) t := fun t kk => pre107 t (by
          refine XS.iloadN X106.here hx rfl (hb hby at_37) rfl ?_
          refine XS.iconst X106.here hx rfl (hb hby at_38) ?_
          refine XS.icmpNo X106.here hx rfl (hb hby at_39) rfl (flt hc128).1 ?_
          refine XS.aload X106.here hx rfl (hb hby at_42) rfl rfl ?_
          show Steps p.tables e below (T106.setTop (mkF m 44 #[.val (.int p1), .val (.int p2), .val (.int p3), .val (.int kv0), .val (.ref b101), .val (.ref b103), .unset, .unset, .unset, .unset, .unset, .unset] [(.ref b103)])) _
          refine XS.aload X106.here hx rfl (hb hby at_44) rfl rfl ?_
          show Steps p.tables e below (T106.setTop (mkF m 46 #[.val (.int p1), .val (.int p2), .val (.int p3), .val (.int kv0), .val (.ref b101), .val (.ref b103), .unset, .unset, .unset, .unset, .unset, .unset] [(.ref b101), (.ref b103)])) _
          refine st129.trans ?_
          show Steps p.tables e below (T129.setTop (mkF m 49 #[.val (.int p1), .val (.int p2), .val (.int p3), .val (.int kv0), .val (.ref b101), .val (.ref b103), .unset, .unset, .unset, .unset, .unset, .unset] [(.int (1 : Int32))])) _
          refine XS.pop X129.here hx rfl (hb hby at_49) rfl rfl ?_
          refine XS.iloadN X129.here hx rfl (hb hby at_50) rfl ?_
          refine XS.iconst X129.here hx rfl (hb hby at_51) ?_
          refine XS.icmpNo X129.here hx rfl (hb hby at_52) rfl (flt hc130).1 ?_
          show Steps p.tables e below (T129.setTop (mkF m 55 #[.val (.int p1), .val (.int p2), .val (.int p3), .val (.int kv0), .val (.ref b101), .val (.ref b103), .unset, .unset, .unset, .unset, .unset, .unset] [])) _
          refine XS.aload X129.here hx rfl (hb hby at_55) rfl rfl ?_
          refine XS.aload X129.here hx rfl (hb hby at_57) rfl rfl ?_
          show Steps p.tables e below (T129.setTop (mkF m 59 #[.val (.int p1), .val (.int p2), .val (.int p3), .val (.int kv0), .val (.ref b101), .val (.ref b103), .unset, .unset, .unset, .unset, .unset, .unset] [(.ref b101), (.ref b103)])) _
          refine st133.trans ?_
          show Steps p.tables e below (T133.setTop (mkF m 62 #[.val (.int p1), .val (.int p2), .val (.int p3), .val (.int kv0), .val (.ref b101), .val (.ref b103), .unset, .unset, .unset, .unset, .unset, .unset] [(.int (1 : Int32))])) _
          refine XS.pop X133.here hx rfl (hb hby at_62) rfl rfl ?_
          refine XS.iloadN X133.here hx rfl (hb hby at_63) rfl ?_
          refine XS.iconst X133.here hx rfl (hb hby at_64) ?_
          refine XS.icmpYes X133.here hx rfl (pc0 := 65) (pc' := 76) rfl (hb hby at_65) rfl (tlt hc134).1 (by decide) (by decide) ?_
          show Steps p.tables e below (T133.setTop (mkF m 76 #[.val (.int p1), .val (.int p2), .val (.int p3), .val (.int kv0), .val (.ref b101), .val (.ref b103), .unset, .unset, .unset, .unset, .unset, .unset] [])) _
          refine XS.iloadN X133.here hx rfl (hb hby at_76) rfl ?_
          refine XS.iconst X133.here hx rfl (hb hby at_77) ?_
          refine XS.icmpYes X133.here hx rfl (pc0 := 78) (pc' := 89) rfl (hb hby at_78) rfl (tlt hc135).1 (by decide) (by decide) ?_
          refine XS.iloadN X133.here hx rfl (hb hby at_89) rfl ?_
          show Steps p.tables e below (T133.setTop (mkF m 90 #[.val (.int p1), .val (.int p2), .val (.int p3), .val (.int kv0), .val (.ref b101), .val (.ref b103), .unset, .unset, .unset, .unset, .unset, .unset] [(.int kv0)])) _
          refine XS.iconst X133.here hx rfl (hb hby at_90) ?_
          refine XS.icmpYes X133.here hx rfl (pc0 := 91) (pc' := 102) rfl (hb hby at_91) rfl (tlt hc136).1 (by decide) (by decide) ?_
          refine XS.iloadN X133.here hx rfl (hb hby at_102) rfl ?_
          refine XS.bipush X133.here hx rfl (hb hby at_103) ?_
          show Steps p.tables e below (T133.setTop (mkF m 105 #[.val (.int p1), .val (.int p2), .val (.int p3), .val (.int kv0), .val (.ref b101), .val (.ref b103), .unset, .unset, .unset, .unset, .unset, .unset] [(.int (6 : Int32)), (.int kv0)])) _
          refine XS.icmpYes X133.here hx rfl (pc0 := 105) (pc' := 116) rfl (hb hby at_105) rfl (tlt hc137).1 (by decide) (by decide) ?_
          refine XS.iloadN X133.here hx rfl (hb hby at_116) rfl ?_
          refine XS.bipush X133.here hx rfl (hb hby at_117) ?_
          refine XS.icmpYes X133.here hx rfl (pc0 := 119) (pc' := 130) rfl (hb hby at_119) rfl (tlt hc138).1 (by decide) (by decide) ?_
          show Steps p.tables e below (T133.setTop (mkF m 130 #[.val (.int p1), .val (.int p2), .val (.int p3), .val (.int kv0), .val (.ref b101), .val (.ref b103), .unset, .unset, .unset, .unset, .unset, .unset] [])) _
          exact kk)
      have f140 := (f132.keep Kq133)
      have f141 := (f131.keep Kq133)
      exact ⟨_, _, _, _, _, X133, rfl, N133, O133, f140, Ek133, Fk_elementData_133, Fk_size_133, Vl133, f141, (fun i hi => by
      have hi' : i < 3 := hi
      match i, hi' with
      | 0, _ => rfl
      | 1, _ => rfl
      | 2, _ => rfl), (by rw [hkv]; decide), pre139⟩
    · have hc142 : ¬ (kv0 < (1 : Int32)) := (by rw [hkv]; decide)
      obtain ⟨cq143, kq143, q143a, q143b, q143c⟩ := isOf hZ rfl Ek106
      obtain ⟨_, _, ⟨T143, L143, k143, n143⟩, -, X143, ⟨Lc143, hQ143, l143, y143, z143⟩, st143⟩ := X106.virtualBack hx (y := (⟨"java/util/ArrayList", "add", "(Ljava/lang/Object;)Z"⟩ : MethodName)) (z := (⟨"java/util/ArrayList", "add", "(Ljava/lang/Object;)Z"⟩ : MethodName)) hown (mvT hZ (hw _ (List.mem_of_getElem? (i := 50) rfl))) (mvT hZ (hw _ (List.mem_of_getElem? (i := 51) rfl))) (notFace_of_selects (args := #[]) (mvT hZ (hw _ (List.mem_of_getElem? (i := 53) rfl)))) (mvT hZ (hw _ (List.mem_of_getElem? (i := 53) rfl))) (mvT hZ (hw _ (List.mem_of_getElem? (i := 52) rfl))) (by decide) (backOf (W := 0) (rm_an1 l Z a0 hw [] b103 (1 : Int32) b101 (1 : Int32) b_106 k_106 [(.ref b101), .null, .null, .null, .null, .null, .null, .null, .null, .null] T106.heap n0 O106 Ek106 Fk_modCount_106 Fk_elementData_106 Fk_size_106 g_b103 g_b_106 f108 Vb106 Ob106 ne_b101_b103 ne_b101_b_106 ne_b103_b_106 (by decide) (Nat.le_of_ble_eq_true rfl)) hZ (hw _ (List.mem_of_getElem? (i := 54) rfl)) (hw _ (List.mem_of_getElem? (i := 28) rfl)) (by decide) (by decide)) q143a q143c (g := (mkF m 46 #[.val (.int p1), .val (.int p2), .val (.int p3), .val (.int kv0), .val (.ref b101), .val (.ref b103), .unset, .unset, .unset, .unset, .unset, .unset] [(.ref b101), (.ref b103)])) rfl (by rw [hml]; rfl) (Steps.refl _) (argsL := [(.ref b101)]) (rest := []) (lenOf pd_16 rfl) rfl (by show 2 * 0 + _ ≤ _; exact Nat.le_of_eq rfl) (hb hby at_46) (fun _ _ => ⟨rfl, rfl, (by decide : 3 + 0 ≤ _), (by decide : 19 + 0 ≤ _)⟩)
      dsimp only [Pt.U, Pt.locs, Pt.cells, Pt.slots] at X143 l143 y143 z143 st143 hQ143
      subst l143 y143 z143
      obtain ⟨rfl, Nq143, Kq143, Ek143, Fk_modCount_143, Fk_elementData_143, Fk_size_143, Vb143⟩ := hQ143
      have N143 := Fr.app N106 Nq143
      have O143 := O106.keep Kq143 (allS g_b103 (allS g_b_106 all0))
      rw [show ((1 : Int32) + (1 : Int32)) = (2 : Int32) from by decide] at Fk_modCount_143
      rw [show ((1 : Int32) + (1 : Int32)) = (2 : Int32) from by decide] at Fk_size_143
      have Vl143 : Arv Z T143.heap b_106 k_106 (.object "java/lang/Object") (10 : Int32) [(.ref b101), (.ref b101), .null, .null, .null, .null, .null, .null, .null, .null] .null := Vb143
      have hc144 : ¬ (kv0 < (2 : Int32)) := (by rw [hkv]; decide)
      have f145 := (Eb106.keep Kq143)
      have f146 := (f108.keep Kq143)
      obtain ⟨cq147, kq147, q147a, q147b, q147c⟩ := isOf hZ rfl Ek143
      obtain ⟨_, _, ⟨T147, L147, k147, n147⟩, -, X147, ⟨Lc147, hQ147, l147, y147, z147⟩, st147⟩ := X143.virtualBack hx (y := (⟨"java/util/ArrayList", "add", "(Ljava/lang/Object;)Z"⟩ : MethodName)) (z := (⟨"java/util/ArrayList", "add", "(Ljava/lang/Object;)Z"⟩ : MethodName)) hown (mvT hZ (hw _ (List.mem_of_getElem? (i := 50) rfl))) (mvT hZ (hw _ (List.mem_of_getElem? (i := 51) rfl))) (notFace_of_selects (args := #[]) (mvT hZ (hw _ (List.mem_of_getElem? (i := 53) rfl)))) (mvT hZ (hw _ (List.mem_of_getElem? (i := 53) rfl))) (mvT hZ (hw _ (List.mem_of_getElem? (i := 52) rfl))) (by decide) (backOf (W := 0) (rm_an1 l Z a0 hw [] b103 (2 : Int32) b101 (2 : Int32) b_106 k_106 [(.ref b101), (.ref b101), .null, .null, .null, .null, .null, .null, .null, .null] T143.heap n0 O143 Ek143 Fk_modCount_143 Fk_elementData_143 Fk_size_143 g_b103 g_b_106 f146 Vl143 Ob106 ne_b101_b103 ne_b101_b_106 ne_b103_b_106 (by decide) (Nat.le_of_ble_eq_true rfl)) hZ (hw _ (List.mem_of_getElem? (i := 54) rfl)) (hw _ (List.mem_of_getElem? (i := 28) rfl)) (by decide) (by decide)) q147a q147c (g := (mkF m 59 #[.val (.int p1), .val (.int p2), .val (.int p3), .val (.int kv0), .val (.ref b101), .val (.ref b103), .unset, .unset, .unset, .unset, .unset, .unset] [(.ref b101), (.ref b103)])) rfl (by rw [hml]; rfl) (Steps.refl _) (argsL := [(.ref b101)]) (rest := []) (lenOf pd_16 rfl) rfl (by show 2 * 0 + _ ≤ _; exact Nat.le_of_eq rfl) (hb hby at_59) (fun _ _ => ⟨rfl, rfl, (by decide : 3 + 0 ≤ _), (by decide : 19 + 0 ≤ _)⟩)
      dsimp only [Pt.U, Pt.locs, Pt.cells, Pt.slots] at X147 l147 y147 z147 st147 hQ147
      subst l147 y147 z147
      obtain ⟨rfl, Nq147, Kq147, Ek147, Fk_modCount_147, Fk_elementData_147, Fk_size_147, Vb147⟩ := hQ147
      have N147 := Fr.app N143 Nq147
      have O147 := O143.keep Kq147 (allS g_b103 (allS g_b_106 all0))
      rw [show ((2 : Int32) + (1 : Int32)) = (3 : Int32) from by decide] at Fk_modCount_147
      rw [show ((2 : Int32) + (1 : Int32)) = (3 : Int32) from by decide] at Fk_size_147
      have Vl147 : Arv Z T147.heap b_106 k_106 (.object "java/lang/Object") (10 : Int32) [(.ref b101), (.ref b101), (.ref b101), .null, .null, .null, .null, .null, .null, .null] .null := Vb147
      have hc148 : ¬ (kv0 < (3 : Int32)) := (by rw [hkv]; decide)
      have f149 := (f145.keep Kq147)
      have f150 := (f146.keep Kq147)
      obtain ⟨cq151, kq151, q151a, q151b, q151c⟩ := isOf hZ rfl Ek147
      obtain ⟨_, _, ⟨T151, L151, k151, n151⟩, -, X151, ⟨Lc151, hQ151, l151, y151, z151⟩, st151⟩ := X147.virtualBack hx (y := (⟨"java/util/ArrayList", "add", "(Ljava/lang/Object;)Z"⟩ : MethodName)) (z := (⟨"java/util/ArrayList", "add", "(Ljava/lang/Object;)Z"⟩ : MethodName)) hown (mvT hZ (hw _ (List.mem_of_getElem? (i := 50) rfl))) (mvT hZ (hw _ (List.mem_of_getElem? (i := 51) rfl))) (notFace_of_selects (args := #[]) (mvT hZ (hw _ (List.mem_of_getElem? (i := 53) rfl)))) (mvT hZ (hw _ (List.mem_of_getElem? (i := 53) rfl))) (mvT hZ (hw _ (List.mem_of_getElem? (i := 52) rfl))) (by decide) (backOf (W := 0) (rm_an1 l Z a0 hw [] b103 (3 : Int32) b101 (3 : Int32) b_106 k_106 [(.ref b101), (.ref b101), (.ref b101), .null, .null, .null, .null, .null, .null, .null] T147.heap n0 O147 Ek147 Fk_modCount_147 Fk_elementData_147 Fk_size_147 g_b103 g_b_106 f150 Vl147 Ob106 ne_b101_b103 ne_b101_b_106 ne_b103_b_106 (by decide) (Nat.le_of_ble_eq_true rfl)) hZ (hw _ (List.mem_of_getElem? (i := 54) rfl)) (hw _ (List.mem_of_getElem? (i := 28) rfl)) (by decide) (by decide)) q151a q151c (g := (mkF m 72 #[.val (.int p1), .val (.int p2), .val (.int p3), .val (.int kv0), .val (.ref b101), .val (.ref b103), .unset, .unset, .unset, .unset, .unset, .unset] [(.ref b101), (.ref b103)])) rfl (by rw [hml]; rfl) (Steps.refl _) (argsL := [(.ref b101)]) (rest := []) (lenOf pd_16 rfl) rfl (by show 2 * 0 + _ ≤ _; exact Nat.le_of_eq rfl) (hb hby at_72) (fun _ _ => ⟨rfl, rfl, (by decide : 3 + 0 ≤ _), (by decide : 19 + 0 ≤ _)⟩)
      dsimp only [Pt.U, Pt.locs, Pt.cells, Pt.slots] at X151 l151 y151 z151 st151 hQ151
      subst l151 y151 z151
      obtain ⟨rfl, Nq151, Kq151, Ek151, Fk_modCount_151, Fk_elementData_151, Fk_size_151, Vb151⟩ := hQ151
      have N151 := Fr.app N147 Nq151
      have O151 := O147.keep Kq151 (allS g_b103 (allS g_b_106 all0))
      rw [show ((3 : Int32) + (1 : Int32)) = (4 : Int32) from by decide] at Fk_modCount_151
      rw [show ((3 : Int32) + (1 : Int32)) = (4 : Int32) from by decide] at Fk_size_151
      have Vl151 : Arv Z T151.heap b_106 k_106 (.object "java/lang/Object") (10 : Int32) [(.ref b101), (.ref b101), (.ref b101), (.ref b101), .null, .null, .null, .null, .null, .null] .null := Vb151
      have hc152 : kv0 < (4 : Int32) := (by rw [hkv]; decide)
      have hc153 : kv0 < (5 : Int32) := (by rw [hkv]; decide)
      have hc154 : kv0 < (6 : Int32) := (by rw [hkv]; decide)
      have hc155 : kv0 < (7 : Int32) := (by rw [hkv]; decide)
      have pre156 : ∀ t, Steps p.tables e below (T151.setTop (mkF m 130 #[.val (.int p1), .val (.int p2), .val (.int p3), .val (.int kv0), .val (.ref b101), .val (.ref b103), .unset, .unset, .unset, .unset, .unset, .unset] [])) t → Steps p.tables e below (s₁.setTop (entryFrame m #[(.int p1), (.int p2), (.int p3)] maxLocals)) t := fun t kk => pre107 t (by
          refine XS.iloadN X106.here hx rfl (hb hby at_37) rfl ?_
          refine XS.iconst X106.here hx rfl (hb hby at_38) ?_
          refine XS.icmpNo X106.here hx rfl (hb hby at_39) rfl (flt hc142).1 ?_
          refine XS.aload X106.here hx rfl (hb hby at_42) rfl rfl ?_
          show Steps p.tables e below (T106.setTop (mkF m 44 #[.val (.int p1), .val (.int p2), .val (.int p3), .val (.int kv0), .val (.ref b101), .val (.ref b103), .unset, .unset, .unset, .unset, .unset, .unset] [(.ref b103)])) _
          refine XS.aload X106.here hx rfl (hb hby at_44) rfl rfl ?_
          show Steps p.tables e below (T106.setTop (mkF m 46 #[.val (.int p1), .val (.int p2), .val (.int p3), .val (.int kv0), .val (.ref b101), .val (.ref b103), .unset, .unset, .unset, .unset, .unset, .unset] [(.ref b101), (.ref b103)])) _
          refine st143.trans ?_
          show Steps p.tables e below (T143.setTop (mkF m 49 #[.val (.int p1), .val (.int p2), .val (.int p3), .val (.int kv0), .val (.ref b101), .val (.ref b103), .unset, .unset, .unset, .unset, .unset, .unset] [(.int (1 : Int32))])) _
          refine XS.pop X143.here hx rfl (hb hby at_49) rfl rfl ?_
          refine XS.iloadN X143.here hx rfl (hb hby at_50) rfl ?_
          refine XS.iconst X143.here hx rfl (hb hby at_51) ?_
          refine XS.icmpNo X143.here hx rfl (hb hby at_52) rfl (flt hc144).1 ?_
          show Steps p.tables e below (T143.setTop (mkF m 55 #[.val (.int p1), .val (.int p2), .val (.int p3), .val (.int kv0), .val (.ref b101), .val (.ref b103), .unset, .unset, .unset, .unset, .unset, .unset] [])) _
          refine XS.aload X143.here hx rfl (hb hby at_55) rfl rfl ?_
          refine XS.aload X143.here hx rfl (hb hby at_57) rfl rfl ?_
          show Steps p.tables e below (T143.setTop (mkF m 59 #[.val (.int p1), .val (.int p2), .val (.int p3), .val (.int kv0), .val (.ref b101), .val (.ref b103), .unset, .unset, .unset, .unset, .unset, .unset] [(.ref b101), (.ref b103)])) _
          refine st147.trans ?_
          show Steps p.tables e below (T147.setTop (mkF m 62 #[.val (.int p1), .val (.int p2), .val (.int p3), .val (.int kv0), .val (.ref b101), .val (.ref b103), .unset, .unset, .unset, .unset, .unset, .unset] [(.int (1 : Int32))])) _
          refine XS.pop X147.here hx rfl (hb hby at_62) rfl rfl ?_
          refine XS.iloadN X147.here hx rfl (hb hby at_63) rfl ?_
          refine XS.iconst X147.here hx rfl (hb hby at_64) ?_
          refine XS.icmpNo X147.here hx rfl (hb hby at_65) rfl (flt hc148).1 ?_
          show Steps p.tables e below (T147.setTop (mkF m 68 #[.val (.int p1), .val (.int p2), .val (.int p3), .val (.int kv0), .val (.ref b101), .val (.ref b103), .unset, .unset, .unset, .unset, .unset, .unset] [])) _
          refine XS.aload X147.here hx rfl (hb hby at_68) rfl rfl ?_
          refine XS.aload X147.here hx rfl (hb hby at_70) rfl rfl ?_
          show Steps p.tables e below (T147.setTop (mkF m 72 #[.val (.int p1), .val (.int p2), .val (.int p3), .val (.int kv0), .val (.ref b101), .val (.ref b103), .unset, .unset, .unset, .unset, .unset, .unset] [(.ref b101), (.ref b103)])) _
          refine st151.trans ?_
          show Steps p.tables e below (T151.setTop (mkF m 75 #[.val (.int p1), .val (.int p2), .val (.int p3), .val (.int kv0), .val (.ref b101), .val (.ref b103), .unset, .unset, .unset, .unset, .unset, .unset] [(.int (1 : Int32))])) _
          refine XS.pop X151.here hx rfl (hb hby at_75) rfl rfl ?_
          refine XS.iloadN X151.here hx rfl (hb hby at_76) rfl ?_
          refine XS.iconst X151.here hx rfl (hb hby at_77) ?_
          refine XS.icmpYes X151.here hx rfl (pc0 := 78) (pc' := 89) rfl (hb hby at_78) rfl (tlt hc152).1 (by decide) (by decide) ?_
          show Steps p.tables e below (T151.setTop (mkF m 89 #[.val (.int p1), .val (.int p2), .val (.int p3), .val (.int kv0), .val (.ref b101), .val (.ref b103), .unset, .unset, .unset, .unset, .unset, .unset] [])) _
          refine XS.iloadN X151.here hx rfl (hb hby at_89) rfl ?_
          refine XS.iconst X151.here hx rfl (hb hby at_90) ?_
          refine XS.icmpYes X151.here hx rfl (pc0 := 91) (pc' := 102) rfl (hb hby at_91) rfl (tlt hc153).1 (by decide) (by decide) ?_
          refine XS.iloadN X151.here hx rfl (hb hby at_102) rfl ?_
          show Steps p.tables e below (T151.setTop (mkF m 103 #[.val (.int p1), .val (.int p2), .val (.int p3), .val (.int kv0), .val (.ref b101), .val (.ref b103), .unset, .unset, .unset, .unset, .unset, .unset] [(.int kv0)])) _
          refine XS.bipush X151.here hx rfl (hb hby at_103) ?_
          refine XS.icmpYes X151.here hx rfl (pc0 := 105) (pc' := 116) rfl (hb hby at_105) rfl (tlt hc154).1 (by decide) (by decide) ?_
          refine XS.iloadN X151.here hx rfl (hb hby at_116) rfl ?_
          refine XS.bipush X151.here hx rfl (hb hby at_117) ?_
          show Steps p.tables e below (T151.setTop (mkF m 119 #[.val (.int p1), .val (.int p2), .val (.int p3), .val (.int kv0), .val (.ref b101), .val (.ref b103), .unset, .unset, .unset, .unset, .unset, .unset] [(.int (7 : Int32)), (.int kv0)])) _
          refine XS.icmpYes X151.here hx rfl (pc0 := 119) (pc' := 130) rfl (hb hby at_119) rfl (tlt hc155).1 (by decide) (by decide) ?_
          show Steps p.tables e below (T151.setTop (mkF m 130 #[.val (.int p1), .val (.int p2), .val (.int p3), .val (.int kv0), .val (.ref b101), .val (.ref b103), .unset, .unset, .unset, .unset, .unset, .unset] [])) _
          exact kk)
      have f157 := (f150.keep Kq151)
      have f158 := (f149.keep Kq151)
      exact ⟨_, _, _, _, _, X151, rfl, N151, O151, f157, Ek151, Fk_elementData_151, Fk_size_151, Vl151, f158, (fun i hi => by
      have hi' : i < 4 := hi
      match i, hi' with
      | 0, _ => rfl
      | 1, _ => rfl
      | 2, _ => rfl
      | 3, _ => rfl), (by rw [hkv]; decide), pre156⟩
    · have hc159 : ¬ (kv0 < (1 : Int32)) := (by rw [hkv]; decide)
      obtain ⟨cq160, kq160, q160a, q160b, q160c⟩ := isOf hZ rfl Ek106
      obtain ⟨_, _, ⟨T160, L160, k160, n160⟩, -, X160, ⟨Lc160, hQ160, l160, y160, z160⟩, st160⟩ := X106.virtualBack hx (y := (⟨"java/util/ArrayList", "add", "(Ljava/lang/Object;)Z"⟩ : MethodName)) (z := (⟨"java/util/ArrayList", "add", "(Ljava/lang/Object;)Z"⟩ : MethodName)) hown (mvT hZ (hw _ (List.mem_of_getElem? (i := 50) rfl))) (mvT hZ (hw _ (List.mem_of_getElem? (i := 51) rfl))) (notFace_of_selects (args := #[]) (mvT hZ (hw _ (List.mem_of_getElem? (i := 53) rfl)))) (mvT hZ (hw _ (List.mem_of_getElem? (i := 53) rfl))) (mvT hZ (hw _ (List.mem_of_getElem? (i := 52) rfl))) (by decide) (backOf (W := 0) (rm_an1 l Z a0 hw [] b103 (1 : Int32) b101 (1 : Int32) b_106 k_106 [(.ref b101), .null, .null, .null, .null, .null, .null, .null, .null, .null] T106.heap n0 O106 Ek106 Fk_modCount_106 Fk_elementData_106 Fk_size_106 g_b103 g_b_106 f108 Vb106 Ob106 ne_b101_b103 ne_b101_b_106 ne_b103_b_106 (by decide) (Nat.le_of_ble_eq_true rfl)) hZ (hw _ (List.mem_of_getElem? (i := 54) rfl)) (hw _ (List.mem_of_getElem? (i := 28) rfl)) (by decide) (by decide)) q160a q160c (g := (mkF m 46 #[.val (.int p1), .val (.int p2), .val (.int p3), .val (.int kv0), .val (.ref b101), .val (.ref b103), .unset, .unset, .unset, .unset, .unset, .unset] [(.ref b101), (.ref b103)])) rfl (by rw [hml]; rfl) (Steps.refl _) (argsL := [(.ref b101)]) (rest := []) (lenOf pd_16 rfl) rfl (by show 2 * 0 + _ ≤ _; exact Nat.le_of_eq rfl) (hb hby at_46) (fun _ _ => ⟨rfl, rfl, (by decide : 3 + 0 ≤ _), (by decide : 19 + 0 ≤ _)⟩)
      dsimp only [Pt.U, Pt.locs, Pt.cells, Pt.slots] at X160 l160 y160 z160 st160 hQ160
      subst l160 y160 z160
      obtain ⟨rfl, Nq160, Kq160, Ek160, Fk_modCount_160, Fk_elementData_160, Fk_size_160, Vb160⟩ := hQ160
      have N160 := Fr.app N106 Nq160
      have O160 := O106.keep Kq160 (allS g_b103 (allS g_b_106 all0))
      rw [show ((1 : Int32) + (1 : Int32)) = (2 : Int32) from by decide] at Fk_modCount_160
      rw [show ((1 : Int32) + (1 : Int32)) = (2 : Int32) from by decide] at Fk_size_160
      have Vl160 : Arv Z T160.heap b_106 k_106 (.object "java/lang/Object") (10 : Int32) [(.ref b101), (.ref b101), .null, .null, .null, .null, .null, .null, .null, .null] .null := Vb160
      have hc161 : ¬ (kv0 < (2 : Int32)) := (by rw [hkv]; decide)
      have f162 := (Eb106.keep Kq160)
      have f163 := (f108.keep Kq160)
      obtain ⟨cq164, kq164, q164a, q164b, q164c⟩ := isOf hZ rfl Ek160
      obtain ⟨_, _, ⟨T164, L164, k164, n164⟩, -, X164, ⟨Lc164, hQ164, l164, y164, z164⟩, st164⟩ := X160.virtualBack hx (y := (⟨"java/util/ArrayList", "add", "(Ljava/lang/Object;)Z"⟩ : MethodName)) (z := (⟨"java/util/ArrayList", "add", "(Ljava/lang/Object;)Z"⟩ : MethodName)) hown (mvT hZ (hw _ (List.mem_of_getElem? (i := 50) rfl))) (mvT hZ (hw _ (List.mem_of_getElem? (i := 51) rfl))) (notFace_of_selects (args := #[]) (mvT hZ (hw _ (List.mem_of_getElem? (i := 53) rfl)))) (mvT hZ (hw _ (List.mem_of_getElem? (i := 53) rfl))) (mvT hZ (hw _ (List.mem_of_getElem? (i := 52) rfl))) (by decide) (backOf (W := 0) (rm_an1 l Z a0 hw [] b103 (2 : Int32) b101 (2 : Int32) b_106 k_106 [(.ref b101), (.ref b101), .null, .null, .null, .null, .null, .null, .null, .null] T160.heap n0 O160 Ek160 Fk_modCount_160 Fk_elementData_160 Fk_size_160 g_b103 g_b_106 f163 Vl160 Ob106 ne_b101_b103 ne_b101_b_106 ne_b103_b_106 (by decide) (Nat.le_of_ble_eq_true rfl)) hZ (hw _ (List.mem_of_getElem? (i := 54) rfl)) (hw _ (List.mem_of_getElem? (i := 28) rfl)) (by decide) (by decide)) q164a q164c (g := (mkF m 59 #[.val (.int p1), .val (.int p2), .val (.int p3), .val (.int kv0), .val (.ref b101), .val (.ref b103), .unset, .unset, .unset, .unset, .unset, .unset] [(.ref b101), (.ref b103)])) rfl (by rw [hml]; rfl) (Steps.refl _) (argsL := [(.ref b101)]) (rest := []) (lenOf pd_16 rfl) rfl (by show 2 * 0 + _ ≤ _; exact Nat.le_of_eq rfl) (hb hby at_59) (fun _ _ => ⟨rfl, rfl, (by decide : 3 + 0 ≤ _), (by decide : 19 + 0 ≤ _)⟩)
      dsimp only [Pt.U, Pt.locs, Pt.cells, Pt.slots] at X164 l164 y164 z164 st164 hQ164
      subst l164 y164 z164
      obtain ⟨rfl, Nq164, Kq164, Ek164, Fk_modCount_164, Fk_elementData_164, Fk_size_164, Vb164⟩ := hQ164
      have N164 := Fr.app N160 Nq164
      have O164 := O160.keep Kq164 (allS g_b103 (allS g_b_106 all0))
      rw [show ((2 : Int32) + (1 : Int32)) = (3 : Int32) from by decide] at Fk_modCount_164
      rw [show ((2 : Int32) + (1 : Int32)) = (3 : Int32) from by decide] at Fk_size_164
      have Vl164 : Arv Z T164.heap b_106 k_106 (.object "java/lang/Object") (10 : Int32) [(.ref b101), (.ref b101), (.ref b101), .null, .null, .null, .null, .null, .null, .null] .null := Vb164
      have hc165 : ¬ (kv0 < (3 : Int32)) := (by rw [hkv]; decide)
      have f166 := (f162.keep Kq164)
      have f167 := (f163.keep Kq164)
      obtain ⟨cq168, kq168, q168a, q168b, q168c⟩ := isOf hZ rfl Ek164
      obtain ⟨_, _, ⟨T168, L168, k168, n168⟩, -, X168, ⟨Lc168, hQ168, l168, y168, z168⟩, st168⟩ := X164.virtualBack hx (y := (⟨"java/util/ArrayList", "add", "(Ljava/lang/Object;)Z"⟩ : MethodName)) (z := (⟨"java/util/ArrayList", "add", "(Ljava/lang/Object;)Z"⟩ : MethodName)) hown (mvT hZ (hw _ (List.mem_of_getElem? (i := 50) rfl))) (mvT hZ (hw _ (List.mem_of_getElem? (i := 51) rfl))) (notFace_of_selects (args := #[]) (mvT hZ (hw _ (List.mem_of_getElem? (i := 53) rfl)))) (mvT hZ (hw _ (List.mem_of_getElem? (i := 53) rfl))) (mvT hZ (hw _ (List.mem_of_getElem? (i := 52) rfl))) (by decide) (backOf (W := 0) (rm_an1 l Z a0 hw [] b103 (3 : Int32) b101 (3 : Int32) b_106 k_106 [(.ref b101), (.ref b101), (.ref b101), .null, .null, .null, .null, .null, .null, .null] T164.heap n0 O164 Ek164 Fk_modCount_164 Fk_elementData_164 Fk_size_164 g_b103 g_b_106 f167 Vl164 Ob106 ne_b101_b103 ne_b101_b_106 ne_b103_b_106 (by decide) (Nat.le_of_ble_eq_true rfl)) hZ (hw _ (List.mem_of_getElem? (i := 54) rfl)) (hw _ (List.mem_of_getElem? (i := 28) rfl)) (by decide) (by decide)) q168a q168c (g := (mkF m 72 #[.val (.int p1), .val (.int p2), .val (.int p3), .val (.int kv0), .val (.ref b101), .val (.ref b103), .unset, .unset, .unset, .unset, .unset, .unset] [(.ref b101), (.ref b103)])) rfl (by rw [hml]; rfl) (Steps.refl _) (argsL := [(.ref b101)]) (rest := []) (lenOf pd_16 rfl) rfl (by show 2 * 0 + _ ≤ _; exact Nat.le_of_eq rfl) (hb hby at_72) (fun _ _ => ⟨rfl, rfl, (by decide : 3 + 0 ≤ _), (by decide : 19 + 0 ≤ _)⟩)
      dsimp only [Pt.U, Pt.locs, Pt.cells, Pt.slots] at X168 l168 y168 z168 st168 hQ168
      subst l168 y168 z168
      obtain ⟨rfl, Nq168, Kq168, Ek168, Fk_modCount_168, Fk_elementData_168, Fk_size_168, Vb168⟩ := hQ168
      have N168 := Fr.app N164 Nq168
      have O168 := O164.keep Kq168 (allS g_b103 (allS g_b_106 all0))
      rw [show ((3 : Int32) + (1 : Int32)) = (4 : Int32) from by decide] at Fk_modCount_168
      rw [show ((3 : Int32) + (1 : Int32)) = (4 : Int32) from by decide] at Fk_size_168
      have Vl168 : Arv Z T168.heap b_106 k_106 (.object "java/lang/Object") (10 : Int32) [(.ref b101), (.ref b101), (.ref b101), (.ref b101), .null, .null, .null, .null, .null, .null] .null := Vb168
      have hc169 : ¬ (kv0 < (4 : Int32)) := (by rw [hkv]; decide)
      have f170 := (f166.keep Kq168)
      have f171 := (f167.keep Kq168)
      obtain ⟨cq172, kq172, q172a, q172b, q172c⟩ := isOf hZ rfl Ek168
      obtain ⟨_, _, ⟨T172, L172, k172, n172⟩, -, X172, ⟨Lc172, hQ172, l172, y172, z172⟩, st172⟩ := X168.virtualBack hx (y := (⟨"java/util/ArrayList", "add", "(Ljava/lang/Object;)Z"⟩ : MethodName)) (z := (⟨"java/util/ArrayList", "add", "(Ljava/lang/Object;)Z"⟩ : MethodName)) hown (mvT hZ (hw _ (List.mem_of_getElem? (i := 50) rfl))) (mvT hZ (hw _ (List.mem_of_getElem? (i := 51) rfl))) (notFace_of_selects (args := #[]) (mvT hZ (hw _ (List.mem_of_getElem? (i := 53) rfl)))) (mvT hZ (hw _ (List.mem_of_getElem? (i := 53) rfl))) (mvT hZ (hw _ (List.mem_of_getElem? (i := 52) rfl))) (by decide) (backOf (W := 0) (rm_an1 l Z a0 hw [] b103 (4 : Int32) b101 (4 : Int32) b_106 k_106 [(.ref b101), (.ref b101), (.ref b101), (.ref b101), .null, .null, .null, .null, .null, .null] T168.heap n0 O168 Ek168 Fk_modCount_168 Fk_elementData_168 Fk_size_168 g_b103 g_b_106 f171 Vl168 Ob106 ne_b101_b103 ne_b101_b_106 ne_b103_b_106 (by decide) (Nat.le_of_ble_eq_true rfl)) hZ (hw _ (List.mem_of_getElem? (i := 54) rfl)) (hw _ (List.mem_of_getElem? (i := 28) rfl)) (by decide) (by decide)) q172a q172c (g := (mkF m 85 #[.val (.int p1), .val (.int p2), .val (.int p3), .val (.int kv0), .val (.ref b101), .val (.ref b103), .unset, .unset, .unset, .unset, .unset, .unset] [(.ref b101), (.ref b103)])) rfl (by rw [hml]; rfl) (Steps.refl _) (argsL := [(.ref b101)]) (rest := []) (lenOf pd_16 rfl) rfl (by show 2 * 0 + _ ≤ _; exact Nat.le_of_eq rfl) (hb hby at_85) (fun _ _ => ⟨rfl, rfl, (by decide : 3 + 0 ≤ _), (by decide : 19 + 0 ≤ _)⟩)
      dsimp only [Pt.U, Pt.locs, Pt.cells, Pt.slots] at X172 l172 y172 z172 st172 hQ172
      subst l172 y172 z172
      obtain ⟨rfl, Nq172, Kq172, Ek172, Fk_modCount_172, Fk_elementData_172, Fk_size_172, Vb172⟩ := hQ172
      have N172 := Fr.app N168 Nq172
      have O172 := O168.keep Kq172 (allS g_b103 (allS g_b_106 all0))
      rw [show ((4 : Int32) + (1 : Int32)) = (5 : Int32) from by decide] at Fk_modCount_172
      rw [show ((4 : Int32) + (1 : Int32)) = (5 : Int32) from by decide] at Fk_size_172
      have Vl172 : Arv Z T172.heap b_106 k_106 (.object "java/lang/Object") (10 : Int32) [(.ref b101), (.ref b101), (.ref b101), (.ref b101), (.ref b101), .null, .null, .null, .null, .null] .null := Vb172
      have hc173 : kv0 < (5 : Int32) := (by rw [hkv]; decide)
      have hc174 : kv0 < (6 : Int32) := (by rw [hkv]; decide)
      have hc175 : kv0 < (7 : Int32) := (by rw [hkv]; decide)
      have pre176 : ∀ t, Steps p.tables e below (T172.setTop (mkF m 130 #[.val (.int p1), .val (.int p2), .val (.int p3), .val (.int kv0), .val (.ref b101), .val (.ref b103), .unset, .unset, .unset, .unset, .unset, .unset] [])) t → Steps p.tables e below (s₁.setTop (entryFrame m #[(.int p1), (.int p2), (.int p3)] maxLocals)) t := fun t kk => pre107 t (by
          refine XS.iloadN X106.here hx rfl (hb hby at_37) rfl ?_
          refine XS.iconst X106.here hx rfl (hb hby at_38) ?_
          refine XS.icmpNo X106.here hx rfl (hb hby at_39) rfl (flt hc159).1 ?_
          refine XS.aload X106.here hx rfl (hb hby at_42) rfl rfl ?_
          show Steps p.tables e below (T106.setTop (mkF m 44 #[.val (.int p1), .val (.int p2), .val (.int p3), .val (.int kv0), .val (.ref b101), .val (.ref b103), .unset, .unset, .unset, .unset, .unset, .unset] [(.ref b103)])) _
          refine XS.aload X106.here hx rfl (hb hby at_44) rfl rfl ?_
          show Steps p.tables e below (T106.setTop (mkF m 46 #[.val (.int p1), .val (.int p2), .val (.int p3), .val (.int kv0), .val (.ref b101), .val (.ref b103), .unset, .unset, .unset, .unset, .unset, .unset] [(.ref b101), (.ref b103)])) _
          refine st160.trans ?_
          show Steps p.tables e below (T160.setTop (mkF m 49 #[.val (.int p1), .val (.int p2), .val (.int p3), .val (.int kv0), .val (.ref b101), .val (.ref b103), .unset, .unset, .unset, .unset, .unset, .unset] [(.int (1 : Int32))])) _
          refine XS.pop X160.here hx rfl (hb hby at_49) rfl rfl ?_
          refine XS.iloadN X160.here hx rfl (hb hby at_50) rfl ?_
          refine XS.iconst X160.here hx rfl (hb hby at_51) ?_
          refine XS.icmpNo X160.here hx rfl (hb hby at_52) rfl (flt hc161).1 ?_
          show Steps p.tables e below (T160.setTop (mkF m 55 #[.val (.int p1), .val (.int p2), .val (.int p3), .val (.int kv0), .val (.ref b101), .val (.ref b103), .unset, .unset, .unset, .unset, .unset, .unset] [])) _
          refine XS.aload X160.here hx rfl (hb hby at_55) rfl rfl ?_
          refine XS.aload X160.here hx rfl (hb hby at_57) rfl rfl ?_
          show Steps p.tables e below (T160.setTop (mkF m 59 #[.val (.int p1), .val (.int p2), .val (.int p3), .val (.int kv0), .val (.ref b101), .val (.ref b103), .unset, .unset, .unset, .unset, .unset, .unset] [(.ref b101), (.ref b103)])) _
          refine st164.trans ?_
          show Steps p.tables e below (T164.setTop (mkF m 62 #[.val (.int p1), .val (.int p2), .val (.int p3), .val (.int kv0), .val (.ref b101), .val (.ref b103), .unset, .unset, .unset, .unset, .unset, .unset] [(.int (1 : Int32))])) _
          refine XS.pop X164.here hx rfl (hb hby at_62) rfl rfl ?_
          refine XS.iloadN X164.here hx rfl (hb hby at_63) rfl ?_
          refine XS.iconst X164.here hx rfl (hb hby at_64) ?_
          refine XS.icmpNo X164.here hx rfl (hb hby at_65) rfl (flt hc165).1 ?_
          show Steps p.tables e below (T164.setTop (mkF m 68 #[.val (.int p1), .val (.int p2), .val (.int p3), .val (.int kv0), .val (.ref b101), .val (.ref b103), .unset, .unset, .unset, .unset, .unset, .unset] [])) _
          refine XS.aload X164.here hx rfl (hb hby at_68) rfl rfl ?_
          refine XS.aload X164.here hx rfl (hb hby at_70) rfl rfl ?_
          show Steps p.tables e below (T164.setTop (mkF m 72 #[.val (.int p1), .val (.int p2), .val (.int p3), .val (.int kv0), .val (.ref b101), .val (.ref b103), .unset, .unset, .unset, .unset, .unset, .unset] [(.ref b101), (.ref b103)])) _
          refine st168.trans ?_
          show Steps p.tables e below (T168.setTop (mkF m 75 #[.val (.int p1), .val (.int p2), .val (.int p3), .val (.int kv0), .val (.ref b101), .val (.ref b103), .unset, .unset, .unset, .unset, .unset, .unset] [(.int (1 : Int32))])) _
          refine XS.pop X168.here hx rfl (hb hby at_75) rfl rfl ?_
          refine XS.iloadN X168.here hx rfl (hb hby at_76) rfl ?_
          refine XS.iconst X168.here hx rfl (hb hby at_77) ?_
          refine XS.icmpNo X168.here hx rfl (hb hby at_78) rfl (flt hc169).1 ?_
          show Steps p.tables e below (T168.setTop (mkF m 81 #[.val (.int p1), .val (.int p2), .val (.int p3), .val (.int kv0), .val (.ref b101), .val (.ref b103), .unset, .unset, .unset, .unset, .unset, .unset] [])) _
          refine XS.aload X168.here hx rfl (hb hby at_81) rfl rfl ?_
          refine XS.aload X168.here hx rfl (hb hby at_83) rfl rfl ?_
          show Steps p.tables e below (T168.setTop (mkF m 85 #[.val (.int p1), .val (.int p2), .val (.int p3), .val (.int kv0), .val (.ref b101), .val (.ref b103), .unset, .unset, .unset, .unset, .unset, .unset] [(.ref b101), (.ref b103)])) _
          refine st172.trans ?_
          show Steps p.tables e below (T172.setTop (mkF m 88 #[.val (.int p1), .val (.int p2), .val (.int p3), .val (.int kv0), .val (.ref b101), .val (.ref b103), .unset, .unset, .unset, .unset, .unset, .unset] [(.int (1 : Int32))])) _
          refine XS.pop X172.here hx rfl (hb hby at_88) rfl rfl ?_
          refine XS.iloadN X172.here hx rfl (hb hby at_89) rfl ?_
          refine XS.iconst X172.here hx rfl (hb hby at_90) ?_
          refine XS.icmpYes X172.here hx rfl (pc0 := 91) (pc' := 102) rfl (hb hby at_91) rfl (tlt hc173).1 (by decide) (by decide) ?_
          show Steps p.tables e below (T172.setTop (mkF m 102 #[.val (.int p1), .val (.int p2), .val (.int p3), .val (.int kv0), .val (.ref b101), .val (.ref b103), .unset, .unset, .unset, .unset, .unset, .unset] [])) _
          refine XS.iloadN X172.here hx rfl (hb hby at_102) rfl ?_
          refine XS.bipush X172.here hx rfl (hb hby at_103) ?_
          refine XS.icmpYes X172.here hx rfl (pc0 := 105) (pc' := 116) rfl (hb hby at_105) rfl (tlt hc174).1 (by decide) (by decide) ?_
          refine XS.iloadN X172.here hx rfl (hb hby at_116) rfl ?_
          show Steps p.tables e below (T172.setTop (mkF m 117 #[.val (.int p1), .val (.int p2), .val (.int p3), .val (.int kv0), .val (.ref b101), .val (.ref b103), .unset, .unset, .unset, .unset, .unset, .unset] [(.int kv0)])) _
          refine XS.bipush X172.here hx rfl (hb hby at_117) ?_
          refine XS.icmpYes X172.here hx rfl (pc0 := 119) (pc' := 130) rfl (hb hby at_119) rfl (tlt hc175).1 (by decide) (by decide) ?_
          show Steps p.tables e below (T172.setTop (mkF m 130 #[.val (.int p1), .val (.int p2), .val (.int p3), .val (.int kv0), .val (.ref b101), .val (.ref b103), .unset, .unset, .unset, .unset, .unset, .unset] [])) _
          exact kk)
      have f177 := (f171.keep Kq172)
      have f178 := (f170.keep Kq172)
      exact ⟨_, _, _, _, _, X172, rfl, N172, O172, f177, Ek172, Fk_elementData_172, Fk_size_172, Vl172, f178, (fun i hi => by
      have hi' : i < 5 := hi
      match i, hi' with
      | 0, _ => rfl
      | 1, _ => rfl
      | 2, _ => rfl
      | 3, _ => rfl
      | 4, _ => rfl), (by rw [hkv]; decide), pre176⟩
    · have hc179 : ¬ (kv0 < (1 : Int32)) := (by rw [hkv]; decide)
      obtain ⟨cq180, kq180, q180a, q180b, q180c⟩ := isOf hZ rfl Ek106
      obtain ⟨_, _, ⟨T180, L180, k180, n180⟩, -, X180, ⟨Lc180, hQ180, l180, y180, z180⟩, st180⟩ := X106.virtualBack hx (y := (⟨"java/util/ArrayList", "add", "(Ljava/lang/Object;)Z"⟩ : MethodName)) (z := (⟨"java/util/ArrayList", "add", "(Ljava/lang/Object;)Z"⟩ : MethodName)) hown (mvT hZ (hw _ (List.mem_of_getElem? (i := 50) rfl))) (mvT hZ (hw _ (List.mem_of_getElem? (i := 51) rfl))) (notFace_of_selects (args := #[]) (mvT hZ (hw _ (List.mem_of_getElem? (i := 53) rfl)))) (mvT hZ (hw _ (List.mem_of_getElem? (i := 53) rfl))) (mvT hZ (hw _ (List.mem_of_getElem? (i := 52) rfl))) (by decide) (backOf (W := 0) (rm_an1 l Z a0 hw [] b103 (1 : Int32) b101 (1 : Int32) b_106 k_106 [(.ref b101), .null, .null, .null, .null, .null, .null, .null, .null, .null] T106.heap n0 O106 Ek106 Fk_modCount_106 Fk_elementData_106 Fk_size_106 g_b103 g_b_106 f108 Vb106 Ob106 ne_b101_b103 ne_b101_b_106 ne_b103_b_106 (by decide) (Nat.le_of_ble_eq_true rfl)) hZ (hw _ (List.mem_of_getElem? (i := 54) rfl)) (hw _ (List.mem_of_getElem? (i := 28) rfl)) (by decide) (by decide)) q180a q180c (g := (mkF m 46 #[.val (.int p1), .val (.int p2), .val (.int p3), .val (.int kv0), .val (.ref b101), .val (.ref b103), .unset, .unset, .unset, .unset, .unset, .unset] [(.ref b101), (.ref b103)])) rfl (by rw [hml]; rfl) (Steps.refl _) (argsL := [(.ref b101)]) (rest := []) (lenOf pd_16 rfl) rfl (by show 2 * 0 + _ ≤ _; exact Nat.le_of_eq rfl) (hb hby at_46) (fun _ _ => ⟨rfl, rfl, (by decide : 3 + 0 ≤ _), (by decide : 19 + 0 ≤ _)⟩)
      dsimp only [Pt.U, Pt.locs, Pt.cells, Pt.slots] at X180 l180 y180 z180 st180 hQ180
      subst l180 y180 z180
      obtain ⟨rfl, Nq180, Kq180, Ek180, Fk_modCount_180, Fk_elementData_180, Fk_size_180, Vb180⟩ := hQ180
      have N180 := Fr.app N106 Nq180
      have O180 := O106.keep Kq180 (allS g_b103 (allS g_b_106 all0))
      rw [show ((1 : Int32) + (1 : Int32)) = (2 : Int32) from by decide] at Fk_modCount_180
      rw [show ((1 : Int32) + (1 : Int32)) = (2 : Int32) from by decide] at Fk_size_180
      have Vl180 : Arv Z T180.heap b_106 k_106 (.object "java/lang/Object") (10 : Int32) [(.ref b101), (.ref b101), .null, .null, .null, .null, .null, .null, .null, .null] .null := Vb180
      have hc181 : ¬ (kv0 < (2 : Int32)) := (by rw [hkv]; decide)
      have f182 := (Eb106.keep Kq180)
      have f183 := (f108.keep Kq180)
      obtain ⟨cq184, kq184, q184a, q184b, q184c⟩ := isOf hZ rfl Ek180
      obtain ⟨_, _, ⟨T184, L184, k184, n184⟩, -, X184, ⟨Lc184, hQ184, l184, y184, z184⟩, st184⟩ := X180.virtualBack hx (y := (⟨"java/util/ArrayList", "add", "(Ljava/lang/Object;)Z"⟩ : MethodName)) (z := (⟨"java/util/ArrayList", "add", "(Ljava/lang/Object;)Z"⟩ : MethodName)) hown (mvT hZ (hw _ (List.mem_of_getElem? (i := 50) rfl))) (mvT hZ (hw _ (List.mem_of_getElem? (i := 51) rfl))) (notFace_of_selects (args := #[]) (mvT hZ (hw _ (List.mem_of_getElem? (i := 53) rfl)))) (mvT hZ (hw _ (List.mem_of_getElem? (i := 53) rfl))) (mvT hZ (hw _ (List.mem_of_getElem? (i := 52) rfl))) (by decide) (backOf (W := 0) (rm_an1 l Z a0 hw [] b103 (2 : Int32) b101 (2 : Int32) b_106 k_106 [(.ref b101), (.ref b101), .null, .null, .null, .null, .null, .null, .null, .null] T180.heap n0 O180 Ek180 Fk_modCount_180 Fk_elementData_180 Fk_size_180 g_b103 g_b_106 f183 Vl180 Ob106 ne_b101_b103 ne_b101_b_106 ne_b103_b_106 (by decide) (Nat.le_of_ble_eq_true rfl)) hZ (hw _ (List.mem_of_getElem? (i := 54) rfl)) (hw _ (List.mem_of_getElem? (i := 28) rfl)) (by decide) (by decide)) q184a q184c (g := (mkF m 59 #[.val (.int p1), .val (.int p2), .val (.int p3), .val (.int kv0), .val (.ref b101), .val (.ref b103), .unset, .unset, .unset, .unset, .unset, .unset] [(.ref b101), (.ref b103)])) rfl (by rw [hml]; rfl) (Steps.refl _) (argsL := [(.ref b101)]) (rest := []) (lenOf pd_16 rfl) rfl (by show 2 * 0 + _ ≤ _; exact Nat.le_of_eq rfl) (hb hby at_59) (fun _ _ => ⟨rfl, rfl, (by decide : 3 + 0 ≤ _), (by decide : 19 + 0 ≤ _)⟩)
      dsimp only [Pt.U, Pt.locs, Pt.cells, Pt.slots] at X184 l184 y184 z184 st184 hQ184
      subst l184 y184 z184
      obtain ⟨rfl, Nq184, Kq184, Ek184, Fk_modCount_184, Fk_elementData_184, Fk_size_184, Vb184⟩ := hQ184
      have N184 := Fr.app N180 Nq184
      have O184 := O180.keep Kq184 (allS g_b103 (allS g_b_106 all0))
      rw [show ((2 : Int32) + (1 : Int32)) = (3 : Int32) from by decide] at Fk_modCount_184
      rw [show ((2 : Int32) + (1 : Int32)) = (3 : Int32) from by decide] at Fk_size_184
      have Vl184 : Arv Z T184.heap b_106 k_106 (.object "java/lang/Object") (10 : Int32) [(.ref b101), (.ref b101), (.ref b101), .null, .null, .null, .null, .null, .null, .null] .null := Vb184
      have hc185 : ¬ (kv0 < (3 : Int32)) := (by rw [hkv]; decide)
      have f186 := (f182.keep Kq184)
      have f187 := (f183.keep Kq184)
      obtain ⟨cq188, kq188, q188a, q188b, q188c⟩ := isOf hZ rfl Ek184
      obtain ⟨_, _, ⟨T188, L188, k188, n188⟩, -, X188, ⟨Lc188, hQ188, l188, y188, z188⟩, st188⟩ := X184.virtualBack hx (y := (⟨"java/util/ArrayList", "add", "(Ljava/lang/Object;)Z"⟩ : MethodName)) (z := (⟨"java/util/ArrayList", "add", "(Ljava/lang/Object;)Z"⟩ : MethodName)) hown (mvT hZ (hw _ (List.mem_of_getElem? (i := 50) rfl))) (mvT hZ (hw _ (List.mem_of_getElem? (i := 51) rfl))) (notFace_of_selects (args := #[]) (mvT hZ (hw _ (List.mem_of_getElem? (i := 53) rfl)))) (mvT hZ (hw _ (List.mem_of_getElem? (i := 53) rfl))) (mvT hZ (hw _ (List.mem_of_getElem? (i := 52) rfl))) (by decide) (backOf (W := 0) (rm_an1 l Z a0 hw [] b103 (3 : Int32) b101 (3 : Int32) b_106 k_106 [(.ref b101), (.ref b101), (.ref b101), .null, .null, .null, .null, .null, .null, .null] T184.heap n0 O184 Ek184 Fk_modCount_184 Fk_elementData_184 Fk_size_184 g_b103 g_b_106 f187 Vl184 Ob106 ne_b101_b103 ne_b101_b_106 ne_b103_b_106 (by decide) (Nat.le_of_ble_eq_true rfl)) hZ (hw _ (List.mem_of_getElem? (i := 54) rfl)) (hw _ (List.mem_of_getElem? (i := 28) rfl)) (by decide) (by decide)) q188a q188c (g := (mkF m 72 #[.val (.int p1), .val (.int p2), .val (.int p3), .val (.int kv0), .val (.ref b101), .val (.ref b103), .unset, .unset, .unset, .unset, .unset, .unset] [(.ref b101), (.ref b103)])) rfl (by rw [hml]; rfl) (Steps.refl _) (argsL := [(.ref b101)]) (rest := []) (lenOf pd_16 rfl) rfl (by show 2 * 0 + _ ≤ _; exact Nat.le_of_eq rfl) (hb hby at_72) (fun _ _ => ⟨rfl, rfl, (by decide : 3 + 0 ≤ _), (by decide : 19 + 0 ≤ _)⟩)
      dsimp only [Pt.U, Pt.locs, Pt.cells, Pt.slots] at X188 l188 y188 z188 st188 hQ188
      subst l188 y188 z188
      obtain ⟨rfl, Nq188, Kq188, Ek188, Fk_modCount_188, Fk_elementData_188, Fk_size_188, Vb188⟩ := hQ188
      have N188 := Fr.app N184 Nq188
      have O188 := O184.keep Kq188 (allS g_b103 (allS g_b_106 all0))
      rw [show ((3 : Int32) + (1 : Int32)) = (4 : Int32) from by decide] at Fk_modCount_188
      rw [show ((3 : Int32) + (1 : Int32)) = (4 : Int32) from by decide] at Fk_size_188
      have Vl188 : Arv Z T188.heap b_106 k_106 (.object "java/lang/Object") (10 : Int32) [(.ref b101), (.ref b101), (.ref b101), (.ref b101), .null, .null, .null, .null, .null, .null] .null := Vb188
      have hc189 : ¬ (kv0 < (4 : Int32)) := (by rw [hkv]; decide)
      have f190 := (f186.keep Kq188)
      have f191 := (f187.keep Kq188)
      obtain ⟨cq192, kq192, q192a, q192b, q192c⟩ := isOf hZ rfl Ek188
      obtain ⟨_, _, ⟨T192, L192, k192, n192⟩, -, X192, ⟨Lc192, hQ192, l192, y192, z192⟩, st192⟩ := X188.virtualBack hx (y := (⟨"java/util/ArrayList", "add", "(Ljava/lang/Object;)Z"⟩ : MethodName)) (z := (⟨"java/util/ArrayList", "add", "(Ljava/lang/Object;)Z"⟩ : MethodName)) hown (mvT hZ (hw _ (List.mem_of_getElem? (i := 50) rfl))) (mvT hZ (hw _ (List.mem_of_getElem? (i := 51) rfl))) (notFace_of_selects (args := #[]) (mvT hZ (hw _ (List.mem_of_getElem? (i := 53) rfl)))) (mvT hZ (hw _ (List.mem_of_getElem? (i := 53) rfl))) (mvT hZ (hw _ (List.mem_of_getElem? (i := 52) rfl))) (by decide) (backOf (W := 0) (rm_an1 l Z a0 hw [] b103 (4 : Int32) b101 (4 : Int32) b_106 k_106 [(.ref b101), (.ref b101), (.ref b101), (.ref b101), .null, .null, .null, .null, .null, .null] T188.heap n0 O188 Ek188 Fk_modCount_188 Fk_elementData_188 Fk_size_188 g_b103 g_b_106 f191 Vl188 Ob106 ne_b101_b103 ne_b101_b_106 ne_b103_b_106 (by decide) (Nat.le_of_ble_eq_true rfl)) hZ (hw _ (List.mem_of_getElem? (i := 54) rfl)) (hw _ (List.mem_of_getElem? (i := 28) rfl)) (by decide) (by decide)) q192a q192c (g := (mkF m 85 #[.val (.int p1), .val (.int p2), .val (.int p3), .val (.int kv0), .val (.ref b101), .val (.ref b103), .unset, .unset, .unset, .unset, .unset, .unset] [(.ref b101), (.ref b103)])) rfl (by rw [hml]; rfl) (Steps.refl _) (argsL := [(.ref b101)]) (rest := []) (lenOf pd_16 rfl) rfl (by show 2 * 0 + _ ≤ _; exact Nat.le_of_eq rfl) (hb hby at_85) (fun _ _ => ⟨rfl, rfl, (by decide : 3 + 0 ≤ _), (by decide : 19 + 0 ≤ _)⟩)
      dsimp only [Pt.U, Pt.locs, Pt.cells, Pt.slots] at X192 l192 y192 z192 st192 hQ192
      subst l192 y192 z192
      obtain ⟨rfl, Nq192, Kq192, Ek192, Fk_modCount_192, Fk_elementData_192, Fk_size_192, Vb192⟩ := hQ192
      have N192 := Fr.app N188 Nq192
      have O192 := O188.keep Kq192 (allS g_b103 (allS g_b_106 all0))
      rw [show ((4 : Int32) + (1 : Int32)) = (5 : Int32) from by decide] at Fk_modCount_192
      rw [show ((4 : Int32) + (1 : Int32)) = (5 : Int32) from by decide] at Fk_size_192
      have Vl192 : Arv Z T192.heap b_106 k_106 (.object "java/lang/Object") (10 : Int32) [(.ref b101), (.ref b101), (.ref b101), (.ref b101), (.ref b101), .null, .null, .null, .null, .null] .null := Vb192
      have hc193 : ¬ (kv0 < (5 : Int32)) := (by rw [hkv]; decide)
      have f194 := (f190.keep Kq192)
      have f195 := (f191.keep Kq192)
      obtain ⟨cq196, kq196, q196a, q196b, q196c⟩ := isOf hZ rfl Ek192
      obtain ⟨_, _, ⟨T196, L196, k196, n196⟩, -, X196, ⟨Lc196, hQ196, l196, y196, z196⟩, st196⟩ := X192.virtualBack hx (y := (⟨"java/util/ArrayList", "add", "(Ljava/lang/Object;)Z"⟩ : MethodName)) (z := (⟨"java/util/ArrayList", "add", "(Ljava/lang/Object;)Z"⟩ : MethodName)) hown (mvT hZ (hw _ (List.mem_of_getElem? (i := 50) rfl))) (mvT hZ (hw _ (List.mem_of_getElem? (i := 51) rfl))) (notFace_of_selects (args := #[]) (mvT hZ (hw _ (List.mem_of_getElem? (i := 53) rfl)))) (mvT hZ (hw _ (List.mem_of_getElem? (i := 53) rfl))) (mvT hZ (hw _ (List.mem_of_getElem? (i := 52) rfl))) (by decide) (backOf (W := 0) (rm_an1 l Z a0 hw [] b103 (5 : Int32) b101 (5 : Int32) b_106 k_106 [(.ref b101), (.ref b101), (.ref b101), (.ref b101), (.ref b101), .null, .null, .null, .null, .null] T192.heap n0 O192 Ek192 Fk_modCount_192 Fk_elementData_192 Fk_size_192 g_b103 g_b_106 f195 Vl192 Ob106 ne_b101_b103 ne_b101_b_106 ne_b103_b_106 (by decide) (Nat.le_of_ble_eq_true rfl)) hZ (hw _ (List.mem_of_getElem? (i := 54) rfl)) (hw _ (List.mem_of_getElem? (i := 28) rfl)) (by decide) (by decide)) q196a q196c (g := (mkF m 98 #[.val (.int p1), .val (.int p2), .val (.int p3), .val (.int kv0), .val (.ref b101), .val (.ref b103), .unset, .unset, .unset, .unset, .unset, .unset] [(.ref b101), (.ref b103)])) rfl (by rw [hml]; rfl) (Steps.refl _) (argsL := [(.ref b101)]) (rest := []) (lenOf pd_16 rfl) rfl (by show 2 * 0 + _ ≤ _; exact Nat.le_of_eq rfl) (hb hby at_98) (fun _ _ => ⟨rfl, rfl, (by decide : 3 + 0 ≤ _), (by decide : 19 + 0 ≤ _)⟩)
      dsimp only [Pt.U, Pt.locs, Pt.cells, Pt.slots] at X196 l196 y196 z196 st196 hQ196
      subst l196 y196 z196
      obtain ⟨rfl, Nq196, Kq196, Ek196, Fk_modCount_196, Fk_elementData_196, Fk_size_196, Vb196⟩ := hQ196
      have N196 := Fr.app N192 Nq196
      have O196 := O192.keep Kq196 (allS g_b103 (allS g_b_106 all0))
      rw [show ((5 : Int32) + (1 : Int32)) = (6 : Int32) from by decide] at Fk_modCount_196
      rw [show ((5 : Int32) + (1 : Int32)) = (6 : Int32) from by decide] at Fk_size_196
      have Vl196 : Arv Z T196.heap b_106 k_106 (.object "java/lang/Object") (10 : Int32) [(.ref b101), (.ref b101), (.ref b101), (.ref b101), (.ref b101), (.ref b101), .null, .null, .null, .null] .null := Vb196
      have hc197 : kv0 < (6 : Int32) := (by rw [hkv]; decide)
      have hc198 : kv0 < (7 : Int32) := (by rw [hkv]; decide)
      have pre199 : ∀ t, Steps p.tables e below (T196.setTop (mkF m 130 #[.val (.int p1), .val (.int p2), .val (.int p3), .val (.int kv0), .val (.ref b101), .val (.ref b103), .unset, .unset, .unset, .unset, .unset, .unset] [])) t → Steps p.tables e below (s₁.setTop (entryFrame m #[(.int p1), (.int p2), (.int p3)] maxLocals)) t := fun t kk => pre107 t (by
          refine XS.iloadN X106.here hx rfl (hb hby at_37) rfl ?_
          refine XS.iconst X106.here hx rfl (hb hby at_38) ?_
          refine XS.icmpNo X106.here hx rfl (hb hby at_39) rfl (flt hc179).1 ?_
          refine XS.aload X106.here hx rfl (hb hby at_42) rfl rfl ?_
          show Steps p.tables e below (T106.setTop (mkF m 44 #[.val (.int p1), .val (.int p2), .val (.int p3), .val (.int kv0), .val (.ref b101), .val (.ref b103), .unset, .unset, .unset, .unset, .unset, .unset] [(.ref b103)])) _
          refine XS.aload X106.here hx rfl (hb hby at_44) rfl rfl ?_
          show Steps p.tables e below (T106.setTop (mkF m 46 #[.val (.int p1), .val (.int p2), .val (.int p3), .val (.int kv0), .val (.ref b101), .val (.ref b103), .unset, .unset, .unset, .unset, .unset, .unset] [(.ref b101), (.ref b103)])) _
          refine st180.trans ?_
          show Steps p.tables e below (T180.setTop (mkF m 49 #[.val (.int p1), .val (.int p2), .val (.int p3), .val (.int kv0), .val (.ref b101), .val (.ref b103), .unset, .unset, .unset, .unset, .unset, .unset] [(.int (1 : Int32))])) _
          refine XS.pop X180.here hx rfl (hb hby at_49) rfl rfl ?_
          refine XS.iloadN X180.here hx rfl (hb hby at_50) rfl ?_
          refine XS.iconst X180.here hx rfl (hb hby at_51) ?_
          refine XS.icmpNo X180.here hx rfl (hb hby at_52) rfl (flt hc181).1 ?_
          show Steps p.tables e below (T180.setTop (mkF m 55 #[.val (.int p1), .val (.int p2), .val (.int p3), .val (.int kv0), .val (.ref b101), .val (.ref b103), .unset, .unset, .unset, .unset, .unset, .unset] [])) _
          refine XS.aload X180.here hx rfl (hb hby at_55) rfl rfl ?_
          refine XS.aload X180.here hx rfl (hb hby at_57) rfl rfl ?_
          show Steps p.tables e below (T180.setTop (mkF m 59 #[.val (.int p1), .val (.int p2), .val (.int p3), .val (.int kv0), .val (.ref b101), .val (.ref b103), .unset, .unset, .unset, .unset, .unset, .unset] [(.ref b101), (.ref b103)])) _
          refine st184.trans ?_
          show Steps p.tables e below (T184.setTop (mkF m 62 #[.val (.int p1), .val (.int p2), .val (.int p3), .val (.int kv0), .val (.ref b101), .val (.ref b103), .unset, .unset, .unset, .unset, .unset, .unset] [(.int (1 : Int32))])) _
          refine XS.pop X184.here hx rfl (hb hby at_62) rfl rfl ?_
          refine XS.iloadN X184.here hx rfl (hb hby at_63) rfl ?_
          refine XS.iconst X184.here hx rfl (hb hby at_64) ?_
          refine XS.icmpNo X184.here hx rfl (hb hby at_65) rfl (flt hc185).1 ?_
          show Steps p.tables e below (T184.setTop (mkF m 68 #[.val (.int p1), .val (.int p2), .val (.int p3), .val (.int kv0), .val (.ref b101), .val (.ref b103), .unset, .unset, .unset, .unset, .unset, .unset] [])) _
          refine XS.aload X184.here hx rfl (hb hby at_68) rfl rfl ?_
          refine XS.aload X184.here hx rfl (hb hby at_70) rfl rfl ?_
          show Steps p.tables e below (T184.setTop (mkF m 72 #[.val (.int p1), .val (.int p2), .val (.int p3), .val (.int kv0), .val (.ref b101), .val (.ref b103), .unset, .unset, .unset, .unset, .unset, .unset] [(.ref b101), (.ref b103)])) _
          refine st188.trans ?_
          show Steps p.tables e below (T188.setTop (mkF m 75 #[.val (.int p1), .val (.int p2), .val (.int p3), .val (.int kv0), .val (.ref b101), .val (.ref b103), .unset, .unset, .unset, .unset, .unset, .unset] [(.int (1 : Int32))])) _
          refine XS.pop X188.here hx rfl (hb hby at_75) rfl rfl ?_
          refine XS.iloadN X188.here hx rfl (hb hby at_76) rfl ?_
          refine XS.iconst X188.here hx rfl (hb hby at_77) ?_
          refine XS.icmpNo X188.here hx rfl (hb hby at_78) rfl (flt hc189).1 ?_
          show Steps p.tables e below (T188.setTop (mkF m 81 #[.val (.int p1), .val (.int p2), .val (.int p3), .val (.int kv0), .val (.ref b101), .val (.ref b103), .unset, .unset, .unset, .unset, .unset, .unset] [])) _
          refine XS.aload X188.here hx rfl (hb hby at_81) rfl rfl ?_
          refine XS.aload X188.here hx rfl (hb hby at_83) rfl rfl ?_
          show Steps p.tables e below (T188.setTop (mkF m 85 #[.val (.int p1), .val (.int p2), .val (.int p3), .val (.int kv0), .val (.ref b101), .val (.ref b103), .unset, .unset, .unset, .unset, .unset, .unset] [(.ref b101), (.ref b103)])) _
          refine st192.trans ?_
          show Steps p.tables e below (T192.setTop (mkF m 88 #[.val (.int p1), .val (.int p2), .val (.int p3), .val (.int kv0), .val (.ref b101), .val (.ref b103), .unset, .unset, .unset, .unset, .unset, .unset] [(.int (1 : Int32))])) _
          refine XS.pop X192.here hx rfl (hb hby at_88) rfl rfl ?_
          refine XS.iloadN X192.here hx rfl (hb hby at_89) rfl ?_
          refine XS.iconst X192.here hx rfl (hb hby at_90) ?_
          refine XS.icmpNo X192.here hx rfl (hb hby at_91) rfl (flt hc193).1 ?_
          show Steps p.tables e below (T192.setTop (mkF m 94 #[.val (.int p1), .val (.int p2), .val (.int p3), .val (.int kv0), .val (.ref b101), .val (.ref b103), .unset, .unset, .unset, .unset, .unset, .unset] [])) _
          refine XS.aload X192.here hx rfl (hb hby at_94) rfl rfl ?_
          refine XS.aload X192.here hx rfl (hb hby at_96) rfl rfl ?_
          show Steps p.tables e below (T192.setTop (mkF m 98 #[.val (.int p1), .val (.int p2), .val (.int p3), .val (.int kv0), .val (.ref b101), .val (.ref b103), .unset, .unset, .unset, .unset, .unset, .unset] [(.ref b101), (.ref b103)])) _
          refine st196.trans ?_
          show Steps p.tables e below (T196.setTop (mkF m 101 #[.val (.int p1), .val (.int p2), .val (.int p3), .val (.int kv0), .val (.ref b101), .val (.ref b103), .unset, .unset, .unset, .unset, .unset, .unset] [(.int (1 : Int32))])) _
          refine XS.pop X196.here hx rfl (hb hby at_101) rfl rfl ?_
          refine XS.iloadN X196.here hx rfl (hb hby at_102) rfl ?_
          refine XS.bipush X196.here hx rfl (hb hby at_103) ?_
          refine XS.icmpYes X196.here hx rfl (pc0 := 105) (pc' := 116) rfl (hb hby at_105) rfl (tlt hc197).1 (by decide) (by decide) ?_
          show Steps p.tables e below (T196.setTop (mkF m 116 #[.val (.int p1), .val (.int p2), .val (.int p3), .val (.int kv0), .val (.ref b101), .val (.ref b103), .unset, .unset, .unset, .unset, .unset, .unset] [])) _
          refine XS.iloadN X196.here hx rfl (hb hby at_116) rfl ?_
          refine XS.bipush X196.here hx rfl (hb hby at_117) ?_
          refine XS.icmpYes X196.here hx rfl (pc0 := 119) (pc' := 130) rfl (hb hby at_119) rfl (tlt hc198).1 (by decide) (by decide) ?_
          show Steps p.tables e below (T196.setTop (mkF m 130 #[.val (.int p1), .val (.int p2), .val (.int p3), .val (.int kv0), .val (.ref b101), .val (.ref b103), .unset, .unset, .unset, .unset, .unset, .unset] [])) _
          exact kk)
      have f200 := (f195.keep Kq196)
      have f201 := (f194.keep Kq196)
      exact ⟨_, _, _, _, _, X196, rfl, N196, O196, f200, Ek196, Fk_elementData_196, Fk_size_196, Vl196, f201, (fun i hi => by
      have hi' : i < 6 := hi
      match i, hi' with
      | 0, _ => rfl
      | 1, _ => rfl
      | 2, _ => rfl
      | 3, _ => rfl
      | 4, _ => rfl
      | 5, _ => rfl), (by rw [hkv]; decide), pre199⟩
    · have hc202 : ¬ (kv0 < (1 : Int32)) := (by rw [hkv]; decide)
      obtain ⟨cq203, kq203, q203a, q203b, q203c⟩ := isOf hZ rfl Ek106
      obtain ⟨_, _, ⟨T203, L203, k203, n203⟩, -, X203, ⟨Lc203, hQ203, l203, y203, z203⟩, st203⟩ := X106.virtualBack hx (y := (⟨"java/util/ArrayList", "add", "(Ljava/lang/Object;)Z"⟩ : MethodName)) (z := (⟨"java/util/ArrayList", "add", "(Ljava/lang/Object;)Z"⟩ : MethodName)) hown (mvT hZ (hw _ (List.mem_of_getElem? (i := 50) rfl))) (mvT hZ (hw _ (List.mem_of_getElem? (i := 51) rfl))) (notFace_of_selects (args := #[]) (mvT hZ (hw _ (List.mem_of_getElem? (i := 53) rfl)))) (mvT hZ (hw _ (List.mem_of_getElem? (i := 53) rfl))) (mvT hZ (hw _ (List.mem_of_getElem? (i := 52) rfl))) (by decide) (backOf (W := 0) (rm_an1 l Z a0 hw [] b103 (1 : Int32) b101 (1 : Int32) b_106 k_106 [(.ref b101), .null, .null, .null, .null, .null, .null, .null, .null, .null] T106.heap n0 O106 Ek106 Fk_modCount_106 Fk_elementData_106 Fk_size_106 g_b103 g_b_106 f108 Vb106 Ob106 ne_b101_b103 ne_b101_b_106 ne_b103_b_106 (by decide) (Nat.le_of_ble_eq_true rfl)) hZ (hw _ (List.mem_of_getElem? (i := 54) rfl)) (hw _ (List.mem_of_getElem? (i := 28) rfl)) (by decide) (by decide)) q203a q203c (g := (mkF m 46 #[.val (.int p1), .val (.int p2), .val (.int p3), .val (.int kv0), .val (.ref b101), .val (.ref b103), .unset, .unset, .unset, .unset, .unset, .unset] [(.ref b101), (.ref b103)])) rfl (by rw [hml]; rfl) (Steps.refl _) (argsL := [(.ref b101)]) (rest := []) (lenOf pd_16 rfl) rfl (by show 2 * 0 + _ ≤ _; exact Nat.le_of_eq rfl) (hb hby at_46) (fun _ _ => ⟨rfl, rfl, (by decide : 3 + 0 ≤ _), (by decide : 19 + 0 ≤ _)⟩)
      dsimp only [Pt.U, Pt.locs, Pt.cells, Pt.slots] at X203 l203 y203 z203 st203 hQ203
      subst l203 y203 z203
      obtain ⟨rfl, Nq203, Kq203, Ek203, Fk_modCount_203, Fk_elementData_203, Fk_size_203, Vb203⟩ := hQ203
      have N203 := Fr.app N106 Nq203
      have O203 := O106.keep Kq203 (allS g_b103 (allS g_b_106 all0))
      rw [show ((1 : Int32) + (1 : Int32)) = (2 : Int32) from by decide] at Fk_modCount_203
      rw [show ((1 : Int32) + (1 : Int32)) = (2 : Int32) from by decide] at Fk_size_203
      have Vl203 : Arv Z T203.heap b_106 k_106 (.object "java/lang/Object") (10 : Int32) [(.ref b101), (.ref b101), .null, .null, .null, .null, .null, .null, .null, .null] .null := Vb203
      have hc204 : ¬ (kv0 < (2 : Int32)) := (by rw [hkv]; decide)
      have f205 := (Eb106.keep Kq203)
      have f206 := (f108.keep Kq203)
      obtain ⟨cq207, kq207, q207a, q207b, q207c⟩ := isOf hZ rfl Ek203
      obtain ⟨_, _, ⟨T207, L207, k207, n207⟩, -, X207, ⟨Lc207, hQ207, l207, y207, z207⟩, st207⟩ := X203.virtualBack hx (y := (⟨"java/util/ArrayList", "add", "(Ljava/lang/Object;)Z"⟩ : MethodName)) (z := (⟨"java/util/ArrayList", "add", "(Ljava/lang/Object;)Z"⟩ : MethodName)) hown (mvT hZ (hw _ (List.mem_of_getElem? (i := 50) rfl))) (mvT hZ (hw _ (List.mem_of_getElem? (i := 51) rfl))) (notFace_of_selects (args := #[]) (mvT hZ (hw _ (List.mem_of_getElem? (i := 53) rfl)))) (mvT hZ (hw _ (List.mem_of_getElem? (i := 53) rfl))) (mvT hZ (hw _ (List.mem_of_getElem? (i := 52) rfl))) (by decide) (backOf (W := 0) (rm_an1 l Z a0 hw [] b103 (2 : Int32) b101 (2 : Int32) b_106 k_106 [(.ref b101), (.ref b101), .null, .null, .null, .null, .null, .null, .null, .null] T203.heap n0 O203 Ek203 Fk_modCount_203 Fk_elementData_203 Fk_size_203 g_b103 g_b_106 f206 Vl203 Ob106 ne_b101_b103 ne_b101_b_106 ne_b103_b_106 (by decide) (Nat.le_of_ble_eq_true rfl)) hZ (hw _ (List.mem_of_getElem? (i := 54) rfl)) (hw _ (List.mem_of_getElem? (i := 28) rfl)) (by decide) (by decide)) q207a q207c (g := (mkF m 59 #[.val (.int p1), .val (.int p2), .val (.int p3), .val (.int kv0), .val (.ref b101), .val (.ref b103), .unset, .unset, .unset, .unset, .unset, .unset] [(.ref b101), (.ref b103)])) rfl (by rw [hml]; rfl) (Steps.refl _) (argsL := [(.ref b101)]) (rest := []) (lenOf pd_16 rfl) rfl (by show 2 * 0 + _ ≤ _; exact Nat.le_of_eq rfl) (hb hby at_59) (fun _ _ => ⟨rfl, rfl, (by decide : 3 + 0 ≤ _), (by decide : 19 + 0 ≤ _)⟩)
      dsimp only [Pt.U, Pt.locs, Pt.cells, Pt.slots] at X207 l207 y207 z207 st207 hQ207
      subst l207 y207 z207
      obtain ⟨rfl, Nq207, Kq207, Ek207, Fk_modCount_207, Fk_elementData_207, Fk_size_207, Vb207⟩ := hQ207
      have N207 := Fr.app N203 Nq207
      have O207 := O203.keep Kq207 (allS g_b103 (allS g_b_106 all0))
      rw [show ((2 : Int32) + (1 : Int32)) = (3 : Int32) from by decide] at Fk_modCount_207
      rw [show ((2 : Int32) + (1 : Int32)) = (3 : Int32) from by decide] at Fk_size_207
      have Vl207 : Arv Z T207.heap b_106 k_106 (.object "java/lang/Object") (10 : Int32) [(.ref b101), (.ref b101), (.ref b101), .null, .null, .null, .null, .null, .null, .null] .null := Vb207
      have hc208 : ¬ (kv0 < (3 : Int32)) := (by rw [hkv]; decide)
      have f209 := (f205.keep Kq207)
      have f210 := (f206.keep Kq207)
      obtain ⟨cq211, kq211, q211a, q211b, q211c⟩ := isOf hZ rfl Ek207
      obtain ⟨_, _, ⟨T211, L211, k211, n211⟩, -, X211, ⟨Lc211, hQ211, l211, y211, z211⟩, st211⟩ := X207.virtualBack hx (y := (⟨"java/util/ArrayList", "add", "(Ljava/lang/Object;)Z"⟩ : MethodName)) (z := (⟨"java/util/ArrayList", "add", "(Ljava/lang/Object;)Z"⟩ : MethodName)) hown (mvT hZ (hw _ (List.mem_of_getElem? (i := 50) rfl))) (mvT hZ (hw _ (List.mem_of_getElem? (i := 51) rfl))) (notFace_of_selects (args := #[]) (mvT hZ (hw _ (List.mem_of_getElem? (i := 53) rfl)))) (mvT hZ (hw _ (List.mem_of_getElem? (i := 53) rfl))) (mvT hZ (hw _ (List.mem_of_getElem? (i := 52) rfl))) (by decide) (backOf (W := 0) (rm_an1 l Z a0 hw [] b103 (3 : Int32) b101 (3 : Int32) b_106 k_106 [(.ref b101), (.ref b101), (.ref b101), .null, .null, .null, .null, .null, .null, .null] T207.heap n0 O207 Ek207 Fk_modCount_207 Fk_elementData_207 Fk_size_207 g_b103 g_b_106 f210 Vl207 Ob106 ne_b101_b103 ne_b101_b_106 ne_b103_b_106 (by decide) (Nat.le_of_ble_eq_true rfl)) hZ (hw _ (List.mem_of_getElem? (i := 54) rfl)) (hw _ (List.mem_of_getElem? (i := 28) rfl)) (by decide) (by decide)) q211a q211c (g := (mkF m 72 #[.val (.int p1), .val (.int p2), .val (.int p3), .val (.int kv0), .val (.ref b101), .val (.ref b103), .unset, .unset, .unset, .unset, .unset, .unset] [(.ref b101), (.ref b103)])) rfl (by rw [hml]; rfl) (Steps.refl _) (argsL := [(.ref b101)]) (rest := []) (lenOf pd_16 rfl) rfl (by show 2 * 0 + _ ≤ _; exact Nat.le_of_eq rfl) (hb hby at_72) (fun _ _ => ⟨rfl, rfl, (by decide : 3 + 0 ≤ _), (by decide : 19 + 0 ≤ _)⟩)
      dsimp only [Pt.U, Pt.locs, Pt.cells, Pt.slots] at X211 l211 y211 z211 st211 hQ211
      subst l211 y211 z211
      obtain ⟨rfl, Nq211, Kq211, Ek211, Fk_modCount_211, Fk_elementData_211, Fk_size_211, Vb211⟩ := hQ211
      have N211 := Fr.app N207 Nq211
      have O211 := O207.keep Kq211 (allS g_b103 (allS g_b_106 all0))
      rw [show ((3 : Int32) + (1 : Int32)) = (4 : Int32) from by decide] at Fk_modCount_211
      rw [show ((3 : Int32) + (1 : Int32)) = (4 : Int32) from by decide] at Fk_size_211
      have Vl211 : Arv Z T211.heap b_106 k_106 (.object "java/lang/Object") (10 : Int32) [(.ref b101), (.ref b101), (.ref b101), (.ref b101), .null, .null, .null, .null, .null, .null] .null := Vb211
      have hc212 : ¬ (kv0 < (4 : Int32)) := (by rw [hkv]; decide)
      have f213 := (f209.keep Kq211)
      have f214 := (f210.keep Kq211)
      obtain ⟨cq215, kq215, q215a, q215b, q215c⟩ := isOf hZ rfl Ek211
      obtain ⟨_, _, ⟨T215, L215, k215, n215⟩, -, X215, ⟨Lc215, hQ215, l215, y215, z215⟩, st215⟩ := X211.virtualBack hx (y := (⟨"java/util/ArrayList", "add", "(Ljava/lang/Object;)Z"⟩ : MethodName)) (z := (⟨"java/util/ArrayList", "add", "(Ljava/lang/Object;)Z"⟩ : MethodName)) hown (mvT hZ (hw _ (List.mem_of_getElem? (i := 50) rfl))) (mvT hZ (hw _ (List.mem_of_getElem? (i := 51) rfl))) (notFace_of_selects (args := #[]) (mvT hZ (hw _ (List.mem_of_getElem? (i := 53) rfl)))) (mvT hZ (hw _ (List.mem_of_getElem? (i := 53) rfl))) (mvT hZ (hw _ (List.mem_of_getElem? (i := 52) rfl))) (by decide) (backOf (W := 0) (rm_an1 l Z a0 hw [] b103 (4 : Int32) b101 (4 : Int32) b_106 k_106 [(.ref b101), (.ref b101), (.ref b101), (.ref b101), .null, .null, .null, .null, .null, .null] T211.heap n0 O211 Ek211 Fk_modCount_211 Fk_elementData_211 Fk_size_211 g_b103 g_b_106 f214 Vl211 Ob106 ne_b101_b103 ne_b101_b_106 ne_b103_b_106 (by decide) (Nat.le_of_ble_eq_true rfl)) hZ (hw _ (List.mem_of_getElem? (i := 54) rfl)) (hw _ (List.mem_of_getElem? (i := 28) rfl)) (by decide) (by decide)) q215a q215c (g := (mkF m 85 #[.val (.int p1), .val (.int p2), .val (.int p3), .val (.int kv0), .val (.ref b101), .val (.ref b103), .unset, .unset, .unset, .unset, .unset, .unset] [(.ref b101), (.ref b103)])) rfl (by rw [hml]; rfl) (Steps.refl _) (argsL := [(.ref b101)]) (rest := []) (lenOf pd_16 rfl) rfl (by show 2 * 0 + _ ≤ _; exact Nat.le_of_eq rfl) (hb hby at_85) (fun _ _ => ⟨rfl, rfl, (by decide : 3 + 0 ≤ _), (by decide : 19 + 0 ≤ _)⟩)
      dsimp only [Pt.U, Pt.locs, Pt.cells, Pt.slots] at X215 l215 y215 z215 st215 hQ215
      subst l215 y215 z215
      obtain ⟨rfl, Nq215, Kq215, Ek215, Fk_modCount_215, Fk_elementData_215, Fk_size_215, Vb215⟩ := hQ215
      have N215 := Fr.app N211 Nq215
      have O215 := O211.keep Kq215 (allS g_b103 (allS g_b_106 all0))
      rw [show ((4 : Int32) + (1 : Int32)) = (5 : Int32) from by decide] at Fk_modCount_215
      rw [show ((4 : Int32) + (1 : Int32)) = (5 : Int32) from by decide] at Fk_size_215
      have Vl215 : Arv Z T215.heap b_106 k_106 (.object "java/lang/Object") (10 : Int32) [(.ref b101), (.ref b101), (.ref b101), (.ref b101), (.ref b101), .null, .null, .null, .null, .null] .null := Vb215
      have hc216 : ¬ (kv0 < (5 : Int32)) := (by rw [hkv]; decide)
      have f217 := (f213.keep Kq215)
      have f218 := (f214.keep Kq215)
      obtain ⟨cq219, kq219, q219a, q219b, q219c⟩ := isOf hZ rfl Ek215
      obtain ⟨_, _, ⟨T219, L219, k219, n219⟩, -, X219, ⟨Lc219, hQ219, l219, y219, z219⟩, st219⟩ := X215.virtualBack hx (y := (⟨"java/util/ArrayList", "add", "(Ljava/lang/Object;)Z"⟩ : MethodName)) (z := (⟨"java/util/ArrayList", "add", "(Ljava/lang/Object;)Z"⟩ : MethodName)) hown (mvT hZ (hw _ (List.mem_of_getElem? (i := 50) rfl))) (mvT hZ (hw _ (List.mem_of_getElem? (i := 51) rfl))) (notFace_of_selects (args := #[]) (mvT hZ (hw _ (List.mem_of_getElem? (i := 53) rfl)))) (mvT hZ (hw _ (List.mem_of_getElem? (i := 53) rfl))) (mvT hZ (hw _ (List.mem_of_getElem? (i := 52) rfl))) (by decide) (backOf (W := 0) (rm_an1 l Z a0 hw [] b103 (5 : Int32) b101 (5 : Int32) b_106 k_106 [(.ref b101), (.ref b101), (.ref b101), (.ref b101), (.ref b101), .null, .null, .null, .null, .null] T215.heap n0 O215 Ek215 Fk_modCount_215 Fk_elementData_215 Fk_size_215 g_b103 g_b_106 f218 Vl215 Ob106 ne_b101_b103 ne_b101_b_106 ne_b103_b_106 (by decide) (Nat.le_of_ble_eq_true rfl)) hZ (hw _ (List.mem_of_getElem? (i := 54) rfl)) (hw _ (List.mem_of_getElem? (i := 28) rfl)) (by decide) (by decide)) q219a q219c (g := (mkF m 98 #[.val (.int p1), .val (.int p2), .val (.int p3), .val (.int kv0), .val (.ref b101), .val (.ref b103), .unset, .unset, .unset, .unset, .unset, .unset] [(.ref b101), (.ref b103)])) rfl (by rw [hml]; rfl) (Steps.refl _) (argsL := [(.ref b101)]) (rest := []) (lenOf pd_16 rfl) rfl (by show 2 * 0 + _ ≤ _; exact Nat.le_of_eq rfl) (hb hby at_98) (fun _ _ => ⟨rfl, rfl, (by decide : 3 + 0 ≤ _), (by decide : 19 + 0 ≤ _)⟩)
      dsimp only [Pt.U, Pt.locs, Pt.cells, Pt.slots] at X219 l219 y219 z219 st219 hQ219
      subst l219 y219 z219
      obtain ⟨rfl, Nq219, Kq219, Ek219, Fk_modCount_219, Fk_elementData_219, Fk_size_219, Vb219⟩ := hQ219
      have N219 := Fr.app N215 Nq219
      have O219 := O215.keep Kq219 (allS g_b103 (allS g_b_106 all0))
      rw [show ((5 : Int32) + (1 : Int32)) = (6 : Int32) from by decide] at Fk_modCount_219
      rw [show ((5 : Int32) + (1 : Int32)) = (6 : Int32) from by decide] at Fk_size_219
      have Vl219 : Arv Z T219.heap b_106 k_106 (.object "java/lang/Object") (10 : Int32) [(.ref b101), (.ref b101), (.ref b101), (.ref b101), (.ref b101), (.ref b101), .null, .null, .null, .null] .null := Vb219
      have hc220 : ¬ (kv0 < (6 : Int32)) := (by rw [hkv]; decide)
      have f221 := (f217.keep Kq219)
      have f222 := (f218.keep Kq219)
      obtain ⟨cq223, kq223, q223a, q223b, q223c⟩ := isOf hZ rfl Ek219
      obtain ⟨_, _, ⟨T223, L223, k223, n223⟩, -, X223, ⟨Lc223, hQ223, l223, y223, z223⟩, st223⟩ := X219.virtualBack hx (y := (⟨"java/util/ArrayList", "add", "(Ljava/lang/Object;)Z"⟩ : MethodName)) (z := (⟨"java/util/ArrayList", "add", "(Ljava/lang/Object;)Z"⟩ : MethodName)) hown (mvT hZ (hw _ (List.mem_of_getElem? (i := 50) rfl))) (mvT hZ (hw _ (List.mem_of_getElem? (i := 51) rfl))) (notFace_of_selects (args := #[]) (mvT hZ (hw _ (List.mem_of_getElem? (i := 53) rfl)))) (mvT hZ (hw _ (List.mem_of_getElem? (i := 53) rfl))) (mvT hZ (hw _ (List.mem_of_getElem? (i := 52) rfl))) (by decide) (backOf (W := 0) (rm_an1 l Z a0 hw [] b103 (6 : Int32) b101 (6 : Int32) b_106 k_106 [(.ref b101), (.ref b101), (.ref b101), (.ref b101), (.ref b101), (.ref b101), .null, .null, .null, .null] T219.heap n0 O219 Ek219 Fk_modCount_219 Fk_elementData_219 Fk_size_219 g_b103 g_b_106 f222 Vl219 Ob106 ne_b101_b103 ne_b101_b_106 ne_b103_b_106 (by decide) (Nat.le_of_ble_eq_true rfl)) hZ (hw _ (List.mem_of_getElem? (i := 54) rfl)) (hw _ (List.mem_of_getElem? (i := 28) rfl)) (by decide) (by decide)) q223a q223c (g := (mkF m 112 #[.val (.int p1), .val (.int p2), .val (.int p3), .val (.int kv0), .val (.ref b101), .val (.ref b103), .unset, .unset, .unset, .unset, .unset, .unset] [(.ref b101), (.ref b103)])) rfl (by rw [hml]; rfl) (Steps.refl _) (argsL := [(.ref b101)]) (rest := []) (lenOf pd_16 rfl) rfl (by show 2 * 0 + _ ≤ _; exact Nat.le_of_eq rfl) (hb hby at_112) (fun _ _ => ⟨rfl, rfl, (by decide : 3 + 0 ≤ _), (by decide : 19 + 0 ≤ _)⟩)
      dsimp only [Pt.U, Pt.locs, Pt.cells, Pt.slots] at X223 l223 y223 z223 st223 hQ223
      subst l223 y223 z223
      obtain ⟨rfl, Nq223, Kq223, Ek223, Fk_modCount_223, Fk_elementData_223, Fk_size_223, Vb223⟩ := hQ223
      have N223 := Fr.app N219 Nq223
      have O223 := O219.keep Kq223 (allS g_b103 (allS g_b_106 all0))
      rw [show ((6 : Int32) + (1 : Int32)) = (7 : Int32) from by decide] at Fk_modCount_223
      rw [show ((6 : Int32) + (1 : Int32)) = (7 : Int32) from by decide] at Fk_size_223
      have Vl223 : Arv Z T223.heap b_106 k_106 (.object "java/lang/Object") (10 : Int32) [(.ref b101), (.ref b101), (.ref b101), (.ref b101), (.ref b101), (.ref b101), (.ref b101), .null, .null, .null] .null := Vb223
      have hc224 : kv0 < (7 : Int32) := (by rw [hkv]; decide)
      have pre225 : ∀ t, Steps p.tables e below (T223.setTop (mkF m 130 #[.val (.int p1), .val (.int p2), .val (.int p3), .val (.int kv0), .val (.ref b101), .val (.ref b103), .unset, .unset, .unset, .unset, .unset, .unset] [])) t → Steps p.tables e below (s₁.setTop (entryFrame m #[(.int p1), (.int p2), (.int p3)] maxLocals)) t := fun t kk => pre107 t (by
          refine XS.iloadN X106.here hx rfl (hb hby at_37) rfl ?_
          refine XS.iconst X106.here hx rfl (hb hby at_38) ?_
          refine XS.icmpNo X106.here hx rfl (hb hby at_39) rfl (flt hc202).1 ?_
          refine XS.aload X106.here hx rfl (hb hby at_42) rfl rfl ?_
          show Steps p.tables e below (T106.setTop (mkF m 44 #[.val (.int p1), .val (.int p2), .val (.int p3), .val (.int kv0), .val (.ref b101), .val (.ref b103), .unset, .unset, .unset, .unset, .unset, .unset] [(.ref b103)])) _
          refine XS.aload X106.here hx rfl (hb hby at_44) rfl rfl ?_
          show Steps p.tables e below (T106.setTop (mkF m 46 #[.val (.int p1), .val (.int p2), .val (.int p3), .val (.int kv0), .val (.ref b101), .val (.ref b103), .unset, .unset, .unset, .unset, .unset, .unset] [(.ref b101), (.ref b103)])) _
          refine st203.trans ?_
          show Steps p.tables e below (T203.setTop (mkF m 49 #[.val (.int p1), .val (.int p2), .val (.int p3), .val (.int kv0), .val (.ref b101), .val (.ref b103), .unset, .unset, .unset, .unset, .unset, .unset] [(.int (1 : Int32))])) _
          refine XS.pop X203.here hx rfl (hb hby at_49) rfl rfl ?_
          refine XS.iloadN X203.here hx rfl (hb hby at_50) rfl ?_
          refine XS.iconst X203.here hx rfl (hb hby at_51) ?_
          refine XS.icmpNo X203.here hx rfl (hb hby at_52) rfl (flt hc204).1 ?_
          show Steps p.tables e below (T203.setTop (mkF m 55 #[.val (.int p1), .val (.int p2), .val (.int p3), .val (.int kv0), .val (.ref b101), .val (.ref b103), .unset, .unset, .unset, .unset, .unset, .unset] [])) _
          refine XS.aload X203.here hx rfl (hb hby at_55) rfl rfl ?_
          refine XS.aload X203.here hx rfl (hb hby at_57) rfl rfl ?_
          show Steps p.tables e below (T203.setTop (mkF m 59 #[.val (.int p1), .val (.int p2), .val (.int p3), .val (.int kv0), .val (.ref b101), .val (.ref b103), .unset, .unset, .unset, .unset, .unset, .unset] [(.ref b101), (.ref b103)])) _
          refine st207.trans ?_
          show Steps p.tables e below (T207.setTop (mkF m 62 #[.val (.int p1), .val (.int p2), .val (.int p3), .val (.int kv0), .val (.ref b101), .val (.ref b103), .unset, .unset, .unset, .unset, .unset, .unset] [(.int (1 : Int32))])) _
          refine XS.pop X207.here hx rfl (hb hby at_62) rfl rfl ?_
          refine XS.iloadN X207.here hx rfl (hb hby at_63) rfl ?_
          refine XS.iconst X207.here hx rfl (hb hby at_64) ?_
          refine XS.icmpNo X207.here hx rfl (hb hby at_65) rfl (flt hc208).1 ?_
          show Steps p.tables e below (T207.setTop (mkF m 68 #[.val (.int p1), .val (.int p2), .val (.int p3), .val (.int kv0), .val (.ref b101), .val (.ref b103), .unset, .unset, .unset, .unset, .unset, .unset] [])) _
          refine XS.aload X207.here hx rfl (hb hby at_68) rfl rfl ?_
          refine XS.aload X207.here hx rfl (hb hby at_70) rfl rfl ?_
          show Steps p.tables e below (T207.setTop (mkF m 72 #[.val (.int p1), .val (.int p2), .val (.int p3), .val (.int kv0), .val (.ref b101), .val (.ref b103), .unset, .unset, .unset, .unset, .unset, .unset] [(.ref b101), (.ref b103)])) _
          refine st211.trans ?_
          show Steps p.tables e below (T211.setTop (mkF m 75 #[.val (.int p1), .val (.int p2), .val (.int p3), .val (.int kv0), .val (.ref b101), .val (.ref b103), .unset, .unset, .unset, .unset, .unset, .unset] [(.int (1 : Int32))])) _
          refine XS.pop X211.here hx rfl (hb hby at_75) rfl rfl ?_
          refine XS.iloadN X211.here hx rfl (hb hby at_76) rfl ?_
          refine XS.iconst X211.here hx rfl (hb hby at_77) ?_
          refine XS.icmpNo X211.here hx rfl (hb hby at_78) rfl (flt hc212).1 ?_
          show Steps p.tables e below (T211.setTop (mkF m 81 #[.val (.int p1), .val (.int p2), .val (.int p3), .val (.int kv0), .val (.ref b101), .val (.ref b103), .unset, .unset, .unset, .unset, .unset, .unset] [])) _
          refine XS.aload X211.here hx rfl (hb hby at_81) rfl rfl ?_
          refine XS.aload X211.here hx rfl (hb hby at_83) rfl rfl ?_
          show Steps p.tables e below (T211.setTop (mkF m 85 #[.val (.int p1), .val (.int p2), .val (.int p3), .val (.int kv0), .val (.ref b101), .val (.ref b103), .unset, .unset, .unset, .unset, .unset, .unset] [(.ref b101), (.ref b103)])) _
          refine st215.trans ?_
          show Steps p.tables e below (T215.setTop (mkF m 88 #[.val (.int p1), .val (.int p2), .val (.int p3), .val (.int kv0), .val (.ref b101), .val (.ref b103), .unset, .unset, .unset, .unset, .unset, .unset] [(.int (1 : Int32))])) _
          refine XS.pop X215.here hx rfl (hb hby at_88) rfl rfl ?_
          refine XS.iloadN X215.here hx rfl (hb hby at_89) rfl ?_
          refine XS.iconst X215.here hx rfl (hb hby at_90) ?_
          refine XS.icmpNo X215.here hx rfl (hb hby at_91) rfl (flt hc216).1 ?_
          show Steps p.tables e below (T215.setTop (mkF m 94 #[.val (.int p1), .val (.int p2), .val (.int p3), .val (.int kv0), .val (.ref b101), .val (.ref b103), .unset, .unset, .unset, .unset, .unset, .unset] [])) _
          refine XS.aload X215.here hx rfl (hb hby at_94) rfl rfl ?_
          refine XS.aload X215.here hx rfl (hb hby at_96) rfl rfl ?_
          show Steps p.tables e below (T215.setTop (mkF m 98 #[.val (.int p1), .val (.int p2), .val (.int p3), .val (.int kv0), .val (.ref b101), .val (.ref b103), .unset, .unset, .unset, .unset, .unset, .unset] [(.ref b101), (.ref b103)])) _
          refine st219.trans ?_
          show Steps p.tables e below (T219.setTop (mkF m 101 #[.val (.int p1), .val (.int p2), .val (.int p3), .val (.int kv0), .val (.ref b101), .val (.ref b103), .unset, .unset, .unset, .unset, .unset, .unset] [(.int (1 : Int32))])) _
          refine XS.pop X219.here hx rfl (hb hby at_101) rfl rfl ?_
          refine XS.iloadN X219.here hx rfl (hb hby at_102) rfl ?_
          refine XS.bipush X219.here hx rfl (hb hby at_103) ?_
          refine XS.icmpNo X219.here hx rfl (hb hby at_105) rfl (flt hc220).1 ?_
          show Steps p.tables e below (T219.setTop (mkF m 108 #[.val (.int p1), .val (.int p2), .val (.int p3), .val (.int kv0), .val (.ref b101), .val (.ref b103), .unset, .unset, .unset, .unset, .unset, .unset] [])) _
          refine XS.aload X219.here hx rfl (hb hby at_108) rfl rfl ?_
          refine XS.aload X219.here hx rfl (hb hby at_110) rfl rfl ?_
          show Steps p.tables e below (T219.setTop (mkF m 112 #[.val (.int p1), .val (.int p2), .val (.int p3), .val (.int kv0), .val (.ref b101), .val (.ref b103), .unset, .unset, .unset, .unset, .unset, .unset] [(.ref b101), (.ref b103)])) _
          refine st223.trans ?_
          show Steps p.tables e below (T223.setTop (mkF m 115 #[.val (.int p1), .val (.int p2), .val (.int p3), .val (.int kv0), .val (.ref b101), .val (.ref b103), .unset, .unset, .unset, .unset, .unset, .unset] [(.int (1 : Int32))])) _
          refine XS.pop X223.here hx rfl (hb hby at_115) rfl rfl ?_
          refine XS.iloadN X223.here hx rfl (hb hby at_116) rfl ?_
          refine XS.bipush X223.here hx rfl (hb hby at_117) ?_
          refine XS.icmpYes X223.here hx rfl (pc0 := 119) (pc' := 130) rfl (hb hby at_119) rfl (tlt hc224).1 (by decide) (by decide) ?_
          show Steps p.tables e below (T223.setTop (mkF m 130 #[.val (.int p1), .val (.int p2), .val (.int p3), .val (.int kv0), .val (.ref b101), .val (.ref b103), .unset, .unset, .unset, .unset, .unset, .unset] [])) _
          exact kk)
      have f226 := (f222.keep Kq223)
      have f227 := (f221.keep Kq223)
      exact ⟨_, _, _, _, _, X223, rfl, N223, O223, f226, Ek223, Fk_elementData_223, Fk_size_223, Vl223, f227, (fun i hi => by
      have hi' : i < 7 := hi
      match i, hi' with
      | 0, _ => rfl
      | 1, _ => rfl
      | 2, _ => rfl
      | 3, _ => rfl
      | 4, _ => rfl
      | 5, _ => rfl
      | 6, _ => rfl), (by rw [hkv]; decide), pre225⟩
    · have hc228 : ¬ (kv0 < (1 : Int32)) := (by rw [hkv]; decide)
      obtain ⟨cq229, kq229, q229a, q229b, q229c⟩ := isOf hZ rfl Ek106
      obtain ⟨_, _, ⟨T229, L229, k229, n229⟩, -, X229, ⟨Lc229, hQ229, l229, y229, z229⟩, st229⟩ := X106.virtualBack hx (y := (⟨"java/util/ArrayList", "add", "(Ljava/lang/Object;)Z"⟩ : MethodName)) (z := (⟨"java/util/ArrayList", "add", "(Ljava/lang/Object;)Z"⟩ : MethodName)) hown (mvT hZ (hw _ (List.mem_of_getElem? (i := 50) rfl))) (mvT hZ (hw _ (List.mem_of_getElem? (i := 51) rfl))) (notFace_of_selects (args := #[]) (mvT hZ (hw _ (List.mem_of_getElem? (i := 53) rfl)))) (mvT hZ (hw _ (List.mem_of_getElem? (i := 53) rfl))) (mvT hZ (hw _ (List.mem_of_getElem? (i := 52) rfl))) (by decide) (backOf (W := 0) (rm_an1 l Z a0 hw [] b103 (1 : Int32) b101 (1 : Int32) b_106 k_106 [(.ref b101), .null, .null, .null, .null, .null, .null, .null, .null, .null] T106.heap n0 O106 Ek106 Fk_modCount_106 Fk_elementData_106 Fk_size_106 g_b103 g_b_106 f108 Vb106 Ob106 ne_b101_b103 ne_b101_b_106 ne_b103_b_106 (by decide) (Nat.le_of_ble_eq_true rfl)) hZ (hw _ (List.mem_of_getElem? (i := 54) rfl)) (hw _ (List.mem_of_getElem? (i := 28) rfl)) (by decide) (by decide)) q229a q229c (g := (mkF m 46 #[.val (.int p1), .val (.int p2), .val (.int p3), .val (.int kv0), .val (.ref b101), .val (.ref b103), .unset, .unset, .unset, .unset, .unset, .unset] [(.ref b101), (.ref b103)])) rfl (by rw [hml]; rfl) (Steps.refl _) (argsL := [(.ref b101)]) (rest := []) (lenOf pd_16 rfl) rfl (by show 2 * 0 + _ ≤ _; exact Nat.le_of_eq rfl) (hb hby at_46) (fun _ _ => ⟨rfl, rfl, (by decide : 3 + 0 ≤ _), (by decide : 19 + 0 ≤ _)⟩)
      dsimp only [Pt.U, Pt.locs, Pt.cells, Pt.slots] at X229 l229 y229 z229 st229 hQ229
      subst l229 y229 z229
      obtain ⟨rfl, Nq229, Kq229, Ek229, Fk_modCount_229, Fk_elementData_229, Fk_size_229, Vb229⟩ := hQ229
      have N229 := Fr.app N106 Nq229
      have O229 := O106.keep Kq229 (allS g_b103 (allS g_b_106 all0))
      rw [show ((1 : Int32) + (1 : Int32)) = (2 : Int32) from by decide] at Fk_modCount_229
      rw [show ((1 : Int32) + (1 : Int32)) = (2 : Int32) from by decide] at Fk_size_229
      have Vl229 : Arv Z T229.heap b_106 k_106 (.object "java/lang/Object") (10 : Int32) [(.ref b101), (.ref b101), .null, .null, .null, .null, .null, .null, .null, .null] .null := Vb229
      have hc230 : ¬ (kv0 < (2 : Int32)) := (by rw [hkv]; decide)
      have f231 := (Eb106.keep Kq229)
      have f232 := (f108.keep Kq229)
      obtain ⟨cq233, kq233, q233a, q233b, q233c⟩ := isOf hZ rfl Ek229
      obtain ⟨_, _, ⟨T233, L233, k233, n233⟩, -, X233, ⟨Lc233, hQ233, l233, y233, z233⟩, st233⟩ := X229.virtualBack hx (y := (⟨"java/util/ArrayList", "add", "(Ljava/lang/Object;)Z"⟩ : MethodName)) (z := (⟨"java/util/ArrayList", "add", "(Ljava/lang/Object;)Z"⟩ : MethodName)) hown (mvT hZ (hw _ (List.mem_of_getElem? (i := 50) rfl))) (mvT hZ (hw _ (List.mem_of_getElem? (i := 51) rfl))) (notFace_of_selects (args := #[]) (mvT hZ (hw _ (List.mem_of_getElem? (i := 53) rfl)))) (mvT hZ (hw _ (List.mem_of_getElem? (i := 53) rfl))) (mvT hZ (hw _ (List.mem_of_getElem? (i := 52) rfl))) (by decide) (backOf (W := 0) (rm_an1 l Z a0 hw [] b103 (2 : Int32) b101 (2 : Int32) b_106 k_106 [(.ref b101), (.ref b101), .null, .null, .null, .null, .null, .null, .null, .null] T229.heap n0 O229 Ek229 Fk_modCount_229 Fk_elementData_229 Fk_size_229 g_b103 g_b_106 f232 Vl229 Ob106 ne_b101_b103 ne_b101_b_106 ne_b103_b_106 (by decide) (Nat.le_of_ble_eq_true rfl)) hZ (hw _ (List.mem_of_getElem? (i := 54) rfl)) (hw _ (List.mem_of_getElem? (i := 28) rfl)) (by decide) (by decide)) q233a q233c (g := (mkF m 59 #[.val (.int p1), .val (.int p2), .val (.int p3), .val (.int kv0), .val (.ref b101), .val (.ref b103), .unset, .unset, .unset, .unset, .unset, .unset] [(.ref b101), (.ref b103)])) rfl (by rw [hml]; rfl) (Steps.refl _) (argsL := [(.ref b101)]) (rest := []) (lenOf pd_16 rfl) rfl (by show 2 * 0 + _ ≤ _; exact Nat.le_of_eq rfl) (hb hby at_59) (fun _ _ => ⟨rfl, rfl, (by decide : 3 + 0 ≤ _), (by decide : 19 + 0 ≤ _)⟩)
      dsimp only [Pt.U, Pt.locs, Pt.cells, Pt.slots] at X233 l233 y233 z233 st233 hQ233
      subst l233 y233 z233
      obtain ⟨rfl, Nq233, Kq233, Ek233, Fk_modCount_233, Fk_elementData_233, Fk_size_233, Vb233⟩ := hQ233
      have N233 := Fr.app N229 Nq233
      have O233 := O229.keep Kq233 (allS g_b103 (allS g_b_106 all0))
      rw [show ((2 : Int32) + (1 : Int32)) = (3 : Int32) from by decide] at Fk_modCount_233
      rw [show ((2 : Int32) + (1 : Int32)) = (3 : Int32) from by decide] at Fk_size_233
      have Vl233 : Arv Z T233.heap b_106 k_106 (.object "java/lang/Object") (10 : Int32) [(.ref b101), (.ref b101), (.ref b101), .null, .null, .null, .null, .null, .null, .null] .null := Vb233
      have hc234 : ¬ (kv0 < (3 : Int32)) := (by rw [hkv]; decide)
      have f235 := (f231.keep Kq233)
      have f236 := (f232.keep Kq233)
      obtain ⟨cq237, kq237, q237a, q237b, q237c⟩ := isOf hZ rfl Ek233
      obtain ⟨_, _, ⟨T237, L237, k237, n237⟩, -, X237, ⟨Lc237, hQ237, l237, y237, z237⟩, st237⟩ := X233.virtualBack hx (y := (⟨"java/util/ArrayList", "add", "(Ljava/lang/Object;)Z"⟩ : MethodName)) (z := (⟨"java/util/ArrayList", "add", "(Ljava/lang/Object;)Z"⟩ : MethodName)) hown (mvT hZ (hw _ (List.mem_of_getElem? (i := 50) rfl))) (mvT hZ (hw _ (List.mem_of_getElem? (i := 51) rfl))) (notFace_of_selects (args := #[]) (mvT hZ (hw _ (List.mem_of_getElem? (i := 53) rfl)))) (mvT hZ (hw _ (List.mem_of_getElem? (i := 53) rfl))) (mvT hZ (hw _ (List.mem_of_getElem? (i := 52) rfl))) (by decide) (backOf (W := 0) (rm_an1 l Z a0 hw [] b103 (3 : Int32) b101 (3 : Int32) b_106 k_106 [(.ref b101), (.ref b101), (.ref b101), .null, .null, .null, .null, .null, .null, .null] T233.heap n0 O233 Ek233 Fk_modCount_233 Fk_elementData_233 Fk_size_233 g_b103 g_b_106 f236 Vl233 Ob106 ne_b101_b103 ne_b101_b_106 ne_b103_b_106 (by decide) (Nat.le_of_ble_eq_true rfl)) hZ (hw _ (List.mem_of_getElem? (i := 54) rfl)) (hw _ (List.mem_of_getElem? (i := 28) rfl)) (by decide) (by decide)) q237a q237c (g := (mkF m 72 #[.val (.int p1), .val (.int p2), .val (.int p3), .val (.int kv0), .val (.ref b101), .val (.ref b103), .unset, .unset, .unset, .unset, .unset, .unset] [(.ref b101), (.ref b103)])) rfl (by rw [hml]; rfl) (Steps.refl _) (argsL := [(.ref b101)]) (rest := []) (lenOf pd_16 rfl) rfl (by show 2 * 0 + _ ≤ _; exact Nat.le_of_eq rfl) (hb hby at_72) (fun _ _ => ⟨rfl, rfl, (by decide : 3 + 0 ≤ _), (by decide : 19 + 0 ≤ _)⟩)
      dsimp only [Pt.U, Pt.locs, Pt.cells, Pt.slots] at X237 l237 y237 z237 st237 hQ237
      subst l237 y237 z237
      obtain ⟨rfl, Nq237, Kq237, Ek237, Fk_modCount_237, Fk_elementData_237, Fk_size_237, Vb237⟩ := hQ237
      have N237 := Fr.app N233 Nq237
      have O237 := O233.keep Kq237 (allS g_b103 (allS g_b_106 all0))
      rw [show ((3 : Int32) + (1 : Int32)) = (4 : Int32) from by decide] at Fk_modCount_237
      rw [show ((3 : Int32) + (1 : Int32)) = (4 : Int32) from by decide] at Fk_size_237
      have Vl237 : Arv Z T237.heap b_106 k_106 (.object "java/lang/Object") (10 : Int32) [(.ref b101), (.ref b101), (.ref b101), (.ref b101), .null, .null, .null, .null, .null, .null] .null := Vb237
      have hc238 : ¬ (kv0 < (4 : Int32)) := (by rw [hkv]; decide)
      have f239 := (f235.keep Kq237)
      have f240 := (f236.keep Kq237)
      obtain ⟨cq241, kq241, q241a, q241b, q241c⟩ := isOf hZ rfl Ek237
      obtain ⟨_, _, ⟨T241, L241, k241, n241⟩, -, X241, ⟨Lc241, hQ241, l241, y241, z241⟩, st241⟩ := X237.virtualBack hx (y := (⟨"java/util/ArrayList", "add", "(Ljava/lang/Object;)Z"⟩ : MethodName)) (z := (⟨"java/util/ArrayList", "add", "(Ljava/lang/Object;)Z"⟩ : MethodName)) hown (mvT hZ (hw _ (List.mem_of_getElem? (i := 50) rfl))) (mvT hZ (hw _ (List.mem_of_getElem? (i := 51) rfl))) (notFace_of_selects (args := #[]) (mvT hZ (hw _ (List.mem_of_getElem? (i := 53) rfl)))) (mvT hZ (hw _ (List.mem_of_getElem? (i := 53) rfl))) (mvT hZ (hw _ (List.mem_of_getElem? (i := 52) rfl))) (by decide) (backOf (W := 0) (rm_an1 l Z a0 hw [] b103 (4 : Int32) b101 (4 : Int32) b_106 k_106 [(.ref b101), (.ref b101), (.ref b101), (.ref b101), .null, .null, .null, .null, .null, .null] T237.heap n0 O237 Ek237 Fk_modCount_237 Fk_elementData_237 Fk_size_237 g_b103 g_b_106 f240 Vl237 Ob106 ne_b101_b103 ne_b101_b_106 ne_b103_b_106 (by decide) (Nat.le_of_ble_eq_true rfl)) hZ (hw _ (List.mem_of_getElem? (i := 54) rfl)) (hw _ (List.mem_of_getElem? (i := 28) rfl)) (by decide) (by decide)) q241a q241c (g := (mkF m 85 #[.val (.int p1), .val (.int p2), .val (.int p3), .val (.int kv0), .val (.ref b101), .val (.ref b103), .unset, .unset, .unset, .unset, .unset, .unset] [(.ref b101), (.ref b103)])) rfl (by rw [hml]; rfl) (Steps.refl _) (argsL := [(.ref b101)]) (rest := []) (lenOf pd_16 rfl) rfl (by show 2 * 0 + _ ≤ _; exact Nat.le_of_eq rfl) (hb hby at_85) (fun _ _ => ⟨rfl, rfl, (by decide : 3 + 0 ≤ _), (by decide : 19 + 0 ≤ _)⟩)
      dsimp only [Pt.U, Pt.locs, Pt.cells, Pt.slots] at X241 l241 y241 z241 st241 hQ241
      subst l241 y241 z241
      obtain ⟨rfl, Nq241, Kq241, Ek241, Fk_modCount_241, Fk_elementData_241, Fk_size_241, Vb241⟩ := hQ241
      have N241 := Fr.app N237 Nq241
      have O241 := O237.keep Kq241 (allS g_b103 (allS g_b_106 all0))
      rw [show ((4 : Int32) + (1 : Int32)) = (5 : Int32) from by decide] at Fk_modCount_241
      rw [show ((4 : Int32) + (1 : Int32)) = (5 : Int32) from by decide] at Fk_size_241
      have Vl241 : Arv Z T241.heap b_106 k_106 (.object "java/lang/Object") (10 : Int32) [(.ref b101), (.ref b101), (.ref b101), (.ref b101), (.ref b101), .null, .null, .null, .null, .null] .null := Vb241
      have hc242 : ¬ (kv0 < (5 : Int32)) := (by rw [hkv]; decide)
      have f243 := (f239.keep Kq241)
      have f244 := (f240.keep Kq241)
      obtain ⟨cq245, kq245, q245a, q245b, q245c⟩ := isOf hZ rfl Ek241
      obtain ⟨_, _, ⟨T245, L245, k245, n245⟩, -, X245, ⟨Lc245, hQ245, l245, y245, z245⟩, st245⟩ := X241.virtualBack hx (y := (⟨"java/util/ArrayList", "add", "(Ljava/lang/Object;)Z"⟩ : MethodName)) (z := (⟨"java/util/ArrayList", "add", "(Ljava/lang/Object;)Z"⟩ : MethodName)) hown (mvT hZ (hw _ (List.mem_of_getElem? (i := 50) rfl))) (mvT hZ (hw _ (List.mem_of_getElem? (i := 51) rfl))) (notFace_of_selects (args := #[]) (mvT hZ (hw _ (List.mem_of_getElem? (i := 53) rfl)))) (mvT hZ (hw _ (List.mem_of_getElem? (i := 53) rfl))) (mvT hZ (hw _ (List.mem_of_getElem? (i := 52) rfl))) (by decide) (backOf (W := 0) (rm_an1 l Z a0 hw [] b103 (5 : Int32) b101 (5 : Int32) b_106 k_106 [(.ref b101), (.ref b101), (.ref b101), (.ref b101), (.ref b101), .null, .null, .null, .null, .null] T241.heap n0 O241 Ek241 Fk_modCount_241 Fk_elementData_241 Fk_size_241 g_b103 g_b_106 f244 Vl241 Ob106 ne_b101_b103 ne_b101_b_106 ne_b103_b_106 (by decide) (Nat.le_of_ble_eq_true rfl)) hZ (hw _ (List.mem_of_getElem? (i := 54) rfl)) (hw _ (List.mem_of_getElem? (i := 28) rfl)) (by decide) (by decide)) q245a q245c (g := (mkF m 98 #[.val (.int p1), .val (.int p2), .val (.int p3), .val (.int kv0), .val (.ref b101), .val (.ref b103), .unset, .unset, .unset, .unset, .unset, .unset] [(.ref b101), (.ref b103)])) rfl (by rw [hml]; rfl) (Steps.refl _) (argsL := [(.ref b101)]) (rest := []) (lenOf pd_16 rfl) rfl (by show 2 * 0 + _ ≤ _; exact Nat.le_of_eq rfl) (hb hby at_98) (fun _ _ => ⟨rfl, rfl, (by decide : 3 + 0 ≤ _), (by decide : 19 + 0 ≤ _)⟩)
      dsimp only [Pt.U, Pt.locs, Pt.cells, Pt.slots] at X245 l245 y245 z245 st245 hQ245
      subst l245 y245 z245
      obtain ⟨rfl, Nq245, Kq245, Ek245, Fk_modCount_245, Fk_elementData_245, Fk_size_245, Vb245⟩ := hQ245
      have N245 := Fr.app N241 Nq245
      have O245 := O241.keep Kq245 (allS g_b103 (allS g_b_106 all0))
      rw [show ((5 : Int32) + (1 : Int32)) = (6 : Int32) from by decide] at Fk_modCount_245
      rw [show ((5 : Int32) + (1 : Int32)) = (6 : Int32) from by decide] at Fk_size_245
      have Vl245 : Arv Z T245.heap b_106 k_106 (.object "java/lang/Object") (10 : Int32) [(.ref b101), (.ref b101), (.ref b101), (.ref b101), (.ref b101), (.ref b101), .null, .null, .null, .null] .null := Vb245
      have hc246 : ¬ (kv0 < (6 : Int32)) := (by rw [hkv]; decide)
      have f247 := (f243.keep Kq245)
      have f248 := (f244.keep Kq245)
      obtain ⟨cq249, kq249, q249a, q249b, q249c⟩ := isOf hZ rfl Ek245
      obtain ⟨_, _, ⟨T249, L249, k249, n249⟩, -, X249, ⟨Lc249, hQ249, l249, y249, z249⟩, st249⟩ := X245.virtualBack hx (y := (⟨"java/util/ArrayList", "add", "(Ljava/lang/Object;)Z"⟩ : MethodName)) (z := (⟨"java/util/ArrayList", "add", "(Ljava/lang/Object;)Z"⟩ : MethodName)) hown (mvT hZ (hw _ (List.mem_of_getElem? (i := 50) rfl))) (mvT hZ (hw _ (List.mem_of_getElem? (i := 51) rfl))) (notFace_of_selects (args := #[]) (mvT hZ (hw _ (List.mem_of_getElem? (i := 53) rfl)))) (mvT hZ (hw _ (List.mem_of_getElem? (i := 53) rfl))) (mvT hZ (hw _ (List.mem_of_getElem? (i := 52) rfl))) (by decide) (backOf (W := 0) (rm_an1 l Z a0 hw [] b103 (6 : Int32) b101 (6 : Int32) b_106 k_106 [(.ref b101), (.ref b101), (.ref b101), (.ref b101), (.ref b101), (.ref b101), .null, .null, .null, .null] T245.heap n0 O245 Ek245 Fk_modCount_245 Fk_elementData_245 Fk_size_245 g_b103 g_b_106 f248 Vl245 Ob106 ne_b101_b103 ne_b101_b_106 ne_b103_b_106 (by decide) (Nat.le_of_ble_eq_true rfl)) hZ (hw _ (List.mem_of_getElem? (i := 54) rfl)) (hw _ (List.mem_of_getElem? (i := 28) rfl)) (by decide) (by decide)) q249a q249c (g := (mkF m 112 #[.val (.int p1), .val (.int p2), .val (.int p3), .val (.int kv0), .val (.ref b101), .val (.ref b103), .unset, .unset, .unset, .unset, .unset, .unset] [(.ref b101), (.ref b103)])) rfl (by rw [hml]; rfl) (Steps.refl _) (argsL := [(.ref b101)]) (rest := []) (lenOf pd_16 rfl) rfl (by show 2 * 0 + _ ≤ _; exact Nat.le_of_eq rfl) (hb hby at_112) (fun _ _ => ⟨rfl, rfl, (by decide : 3 + 0 ≤ _), (by decide : 19 + 0 ≤ _)⟩)
      dsimp only [Pt.U, Pt.locs, Pt.cells, Pt.slots] at X249 l249 y249 z249 st249 hQ249
      subst l249 y249 z249
      obtain ⟨rfl, Nq249, Kq249, Ek249, Fk_modCount_249, Fk_elementData_249, Fk_size_249, Vb249⟩ := hQ249
      have N249 := Fr.app N245 Nq249
      have O249 := O245.keep Kq249 (allS g_b103 (allS g_b_106 all0))
      rw [show ((6 : Int32) + (1 : Int32)) = (7 : Int32) from by decide] at Fk_modCount_249
      rw [show ((6 : Int32) + (1 : Int32)) = (7 : Int32) from by decide] at Fk_size_249
      have Vl249 : Arv Z T249.heap b_106 k_106 (.object "java/lang/Object") (10 : Int32) [(.ref b101), (.ref b101), (.ref b101), (.ref b101), (.ref b101), (.ref b101), (.ref b101), .null, .null, .null] .null := Vb249
      have hc250 : ¬ (kv0 < (7 : Int32)) := (by rw [hkv]; decide)
      have f251 := (f247.keep Kq249)
      have f252 := (f248.keep Kq249)
      obtain ⟨cq253, kq253, q253a, q253b, q253c⟩ := isOf hZ rfl Ek249
      obtain ⟨_, _, ⟨T253, L253, k253, n253⟩, -, X253, ⟨Lc253, hQ253, l253, y253, z253⟩, st253⟩ := X249.virtualBack hx (y := (⟨"java/util/ArrayList", "add", "(Ljava/lang/Object;)Z"⟩ : MethodName)) (z := (⟨"java/util/ArrayList", "add", "(Ljava/lang/Object;)Z"⟩ : MethodName)) hown (mvT hZ (hw _ (List.mem_of_getElem? (i := 50) rfl))) (mvT hZ (hw _ (List.mem_of_getElem? (i := 51) rfl))) (notFace_of_selects (args := #[]) (mvT hZ (hw _ (List.mem_of_getElem? (i := 53) rfl)))) (mvT hZ (hw _ (List.mem_of_getElem? (i := 53) rfl))) (mvT hZ (hw _ (List.mem_of_getElem? (i := 52) rfl))) (by decide) (backOf (W := 0) (rm_an1 l Z a0 hw [] b103 (7 : Int32) b101 (7 : Int32) b_106 k_106 [(.ref b101), (.ref b101), (.ref b101), (.ref b101), (.ref b101), (.ref b101), (.ref b101), .null, .null, .null] T249.heap n0 O249 Ek249 Fk_modCount_249 Fk_elementData_249 Fk_size_249 g_b103 g_b_106 f252 Vl249 Ob106 ne_b101_b103 ne_b101_b_106 ne_b103_b_106 (by decide) (Nat.le_of_ble_eq_true rfl)) hZ (hw _ (List.mem_of_getElem? (i := 54) rfl)) (hw _ (List.mem_of_getElem? (i := 28) rfl)) (by decide) (by decide)) q253a q253c (g := (mkF m 126 #[.val (.int p1), .val (.int p2), .val (.int p3), .val (.int kv0), .val (.ref b101), .val (.ref b103), .unset, .unset, .unset, .unset, .unset, .unset] [(.ref b101), (.ref b103)])) rfl (by rw [hml]; rfl) (Steps.refl _) (argsL := [(.ref b101)]) (rest := []) (lenOf pd_16 rfl) rfl (by show 2 * 0 + _ ≤ _; exact Nat.le_of_eq rfl) (hb hby at_126) (fun _ _ => ⟨rfl, rfl, (by decide : 3 + 0 ≤ _), (by decide : 19 + 0 ≤ _)⟩)
      dsimp only [Pt.U, Pt.locs, Pt.cells, Pt.slots] at X253 l253 y253 z253 st253 hQ253
      subst l253 y253 z253
      obtain ⟨rfl, Nq253, Kq253, Ek253, Fk_modCount_253, Fk_elementData_253, Fk_size_253, Vb253⟩ := hQ253
      have N253 := Fr.app N249 Nq253
      have O253 := O249.keep Kq253 (allS g_b103 (allS g_b_106 all0))
      rw [show ((7 : Int32) + (1 : Int32)) = (8 : Int32) from by decide] at Fk_modCount_253
      rw [show ((7 : Int32) + (1 : Int32)) = (8 : Int32) from by decide] at Fk_size_253
      have Vl253 : Arv Z T253.heap b_106 k_106 (.object "java/lang/Object") (10 : Int32) [(.ref b101), (.ref b101), (.ref b101), (.ref b101), (.ref b101), (.ref b101), (.ref b101), (.ref b101), .null, .null] .null := Vb253
      have pre254 : ∀ t, Steps p.tables e below (T253.setTop (mkF m 130 #[.val (.int p1), .val (.int p2), .val (.int p3), .val (.int kv0), .val (.ref b101), .val (.ref b103), .unset, .unset, .unset, .unset, .unset, .unset] [])) t → Steps p.tables e below (s₁.setTop (entryFrame m #[(.int p1), (.int p2), (.int p3)] maxLocals)) t := fun t kk => pre107 t (by
          refine XS.iloadN X106.here hx rfl (hb hby at_37) rfl ?_
          refine XS.iconst X106.here hx rfl (hb hby at_38) ?_
          refine XS.icmpNo X106.here hx rfl (hb hby at_39) rfl (flt hc228).1 ?_
          refine XS.aload X106.here hx rfl (hb hby at_42) rfl rfl ?_
          show Steps p.tables e below (T106.setTop (mkF m 44 #[.val (.int p1), .val (.int p2), .val (.int p3), .val (.int kv0), .val (.ref b101), .val (.ref b103), .unset, .unset, .unset, .unset, .unset, .unset] [(.ref b103)])) _
          refine XS.aload X106.here hx rfl (hb hby at_44) rfl rfl ?_
          show Steps p.tables e below (T106.setTop (mkF m 46 #[.val (.int p1), .val (.int p2), .val (.int p3), .val (.int kv0), .val (.ref b101), .val (.ref b103), .unset, .unset, .unset, .unset, .unset, .unset] [(.ref b101), (.ref b103)])) _
          refine st229.trans ?_
          show Steps p.tables e below (T229.setTop (mkF m 49 #[.val (.int p1), .val (.int p2), .val (.int p3), .val (.int kv0), .val (.ref b101), .val (.ref b103), .unset, .unset, .unset, .unset, .unset, .unset] [(.int (1 : Int32))])) _
          refine XS.pop X229.here hx rfl (hb hby at_49) rfl rfl ?_
          refine XS.iloadN X229.here hx rfl (hb hby at_50) rfl ?_
          refine XS.iconst X229.here hx rfl (hb hby at_51) ?_
          refine XS.icmpNo X229.here hx rfl (hb hby at_52) rfl (flt hc230).1 ?_
          show Steps p.tables e below (T229.setTop (mkF m 55 #[.val (.int p1), .val (.int p2), .val (.int p3), .val (.int kv0), .val (.ref b101), .val (.ref b103), .unset, .unset, .unset, .unset, .unset, .unset] [])) _
          refine XS.aload X229.here hx rfl (hb hby at_55) rfl rfl ?_
          refine XS.aload X229.here hx rfl (hb hby at_57) rfl rfl ?_
          show Steps p.tables e below (T229.setTop (mkF m 59 #[.val (.int p1), .val (.int p2), .val (.int p3), .val (.int kv0), .val (.ref b101), .val (.ref b103), .unset, .unset, .unset, .unset, .unset, .unset] [(.ref b101), (.ref b103)])) _
          refine st233.trans ?_
          show Steps p.tables e below (T233.setTop (mkF m 62 #[.val (.int p1), .val (.int p2), .val (.int p3), .val (.int kv0), .val (.ref b101), .val (.ref b103), .unset, .unset, .unset, .unset, .unset, .unset] [(.int (1 : Int32))])) _
          refine XS.pop X233.here hx rfl (hb hby at_62) rfl rfl ?_
          refine XS.iloadN X233.here hx rfl (hb hby at_63) rfl ?_
          refine XS.iconst X233.here hx rfl (hb hby at_64) ?_
          refine XS.icmpNo X233.here hx rfl (hb hby at_65) rfl (flt hc234).1 ?_
          show Steps p.tables e below (T233.setTop (mkF m 68 #[.val (.int p1), .val (.int p2), .val (.int p3), .val (.int kv0), .val (.ref b101), .val (.ref b103), .unset, .unset, .unset, .unset, .unset, .unset] [])) _
          refine XS.aload X233.here hx rfl (hb hby at_68) rfl rfl ?_
          refine XS.aload X233.here hx rfl (hb hby at_70) rfl rfl ?_
          show Steps p.tables e below (T233.setTop (mkF m 72 #[.val (.int p1), .val (.int p2), .val (.int p3), .val (.int kv0), .val (.ref b101), .val (.ref b103), .unset, .unset, .unset, .unset, .unset, .unset] [(.ref b101), (.ref b103)])) _
          refine st237.trans ?_
          show Steps p.tables e below (T237.setTop (mkF m 75 #[.val (.int p1), .val (.int p2), .val (.int p3), .val (.int kv0), .val (.ref b101), .val (.ref b103), .unset, .unset, .unset, .unset, .unset, .unset] [(.int (1 : Int32))])) _
          refine XS.pop X237.here hx rfl (hb hby at_75) rfl rfl ?_
          refine XS.iloadN X237.here hx rfl (hb hby at_76) rfl ?_
          refine XS.iconst X237.here hx rfl (hb hby at_77) ?_
          refine XS.icmpNo X237.here hx rfl (hb hby at_78) rfl (flt hc238).1 ?_
          show Steps p.tables e below (T237.setTop (mkF m 81 #[.val (.int p1), .val (.int p2), .val (.int p3), .val (.int kv0), .val (.ref b101), .val (.ref b103), .unset, .unset, .unset, .unset, .unset, .unset] [])) _
          refine XS.aload X237.here hx rfl (hb hby at_81) rfl rfl ?_
          refine XS.aload X237.here hx rfl (hb hby at_83) rfl rfl ?_
          show Steps p.tables e below (T237.setTop (mkF m 85 #[.val (.int p1), .val (.int p2), .val (.int p3), .val (.int kv0), .val (.ref b101), .val (.ref b103), .unset, .unset, .unset, .unset, .unset, .unset] [(.ref b101), (.ref b103)])) _
          refine st241.trans ?_
          show Steps p.tables e below (T241.setTop (mkF m 88 #[.val (.int p1), .val (.int p2), .val (.int p3), .val (.int kv0), .val (.ref b101), .val (.ref b103), .unset, .unset, .unset, .unset, .unset, .unset] [(.int (1 : Int32))])) _
          refine XS.pop X241.here hx rfl (hb hby at_88) rfl rfl ?_
          refine XS.iloadN X241.here hx rfl (hb hby at_89) rfl ?_
          refine XS.iconst X241.here hx rfl (hb hby at_90) ?_
          refine XS.icmpNo X241.here hx rfl (hb hby at_91) rfl (flt hc242).1 ?_
          show Steps p.tables e below (T241.setTop (mkF m 94 #[.val (.int p1), .val (.int p2), .val (.int p3), .val (.int kv0), .val (.ref b101), .val (.ref b103), .unset, .unset, .unset, .unset, .unset, .unset] [])) _
          refine XS.aload X241.here hx rfl (hb hby at_94) rfl rfl ?_
          refine XS.aload X241.here hx rfl (hb hby at_96) rfl rfl ?_
          show Steps p.tables e below (T241.setTop (mkF m 98 #[.val (.int p1), .val (.int p2), .val (.int p3), .val (.int kv0), .val (.ref b101), .val (.ref b103), .unset, .unset, .unset, .unset, .unset, .unset] [(.ref b101), (.ref b103)])) _
          refine st245.trans ?_
          show Steps p.tables e below (T245.setTop (mkF m 101 #[.val (.int p1), .val (.int p2), .val (.int p3), .val (.int kv0), .val (.ref b101), .val (.ref b103), .unset, .unset, .unset, .unset, .unset, .unset] [(.int (1 : Int32))])) _
          refine XS.pop X245.here hx rfl (hb hby at_101) rfl rfl ?_
          refine XS.iloadN X245.here hx rfl (hb hby at_102) rfl ?_
          refine XS.bipush X245.here hx rfl (hb hby at_103) ?_
          refine XS.icmpNo X245.here hx rfl (hb hby at_105) rfl (flt hc246).1 ?_
          show Steps p.tables e below (T245.setTop (mkF m 108 #[.val (.int p1), .val (.int p2), .val (.int p3), .val (.int kv0), .val (.ref b101), .val (.ref b103), .unset, .unset, .unset, .unset, .unset, .unset] [])) _
          refine XS.aload X245.here hx rfl (hb hby at_108) rfl rfl ?_
          refine XS.aload X245.here hx rfl (hb hby at_110) rfl rfl ?_
          show Steps p.tables e below (T245.setTop (mkF m 112 #[.val (.int p1), .val (.int p2), .val (.int p3), .val (.int kv0), .val (.ref b101), .val (.ref b103), .unset, .unset, .unset, .unset, .unset, .unset] [(.ref b101), (.ref b103)])) _
          refine st249.trans ?_
          show Steps p.tables e below (T249.setTop (mkF m 115 #[.val (.int p1), .val (.int p2), .val (.int p3), .val (.int kv0), .val (.ref b101), .val (.ref b103), .unset, .unset, .unset, .unset, .unset, .unset] [(.int (1 : Int32))])) _
          refine XS.pop X249.here hx rfl (hb hby at_115) rfl rfl ?_
          refine XS.iloadN X249.here hx rfl (hb hby at_116) rfl ?_
          refine XS.bipush X249.here hx rfl (hb hby at_117) ?_
          refine XS.icmpNo X249.here hx rfl (hb hby at_119) rfl (flt hc250).1 ?_
          show Steps p.tables e below (T249.setTop (mkF m 122 #[.val (.int p1), .val (.int p2), .val (.int p3), .val (.int kv0), .val (.ref b101), .val (.ref b103), .unset, .unset, .unset, .unset, .unset, .unset] [])) _
          refine XS.aload X249.here hx rfl (hb hby at_122) rfl rfl ?_
          refine XS.aload X249.here hx rfl (hb hby at_124) rfl rfl ?_
          show Steps p.tables e below (T249.setTop (mkF m 126 #[.val (.int p1), .val (.int p2), .val (.int p3), .val (.int kv0), .val (.ref b101), .val (.ref b103), .unset, .unset, .unset, .unset, .unset, .unset] [(.ref b101), (.ref b103)])) _
          refine st253.trans ?_
          show Steps p.tables e below (T253.setTop (mkF m 129 #[.val (.int p1), .val (.int p2), .val (.int p3), .val (.int kv0), .val (.ref b101), .val (.ref b103), .unset, .unset, .unset, .unset, .unset, .unset] [(.int (1 : Int32))])) _
          refine XS.pop X253.here hx rfl (hb hby at_129) rfl rfl ?_
          show Steps p.tables e below (T253.setTop (mkF m 130 #[.val (.int p1), .val (.int p2), .val (.int p3), .val (.int kv0), .val (.ref b101), .val (.ref b103), .unset, .unset, .unset, .unset, .unset, .unset] [])) _
          exact kk)
      have f255 := (f252.keep Kq253)
      have f256 := (f251.keep Kq253)
      exact ⟨_, _, _, _, _, X253, rfl, N253, O253, f255, Ek253, Fk_elementData_253, Fk_size_253, Vl253, f256, (fun i hi => by
      have hi' : i < 8 := hi
      match i, hi' with
      | 0, _ => rfl
      | 1, _ => rfl
      | 2, _ => rfl
      | 3, _ => rfl
      | 4, _ => rfl
      | 5, _ => rfl
      | 6, _ => rfl
      | 7, _ => rfl), (by rw [hkv]; decide), pre254⟩
  have hJ8 := own_nk hk7 hnJ
  obtain ⟨T257, h257, X257, e257, E257, A257, D257, -, st257⟩ := newO XJ hx hZ hown (hw _ (List.mem_of_getElem? (i := 81) rfl)) (hw _ (List.mem_of_getElem? (i := 82) rfl)) (hw _ (List.mem_of_getElem? (i := 83) rfl)) eJ (g := (mkF m 130 #[.val (.int p1), .val (.int p2), .val (.int p3), .val (.int kv0), .val (.ref b101), .val (.ref b103), .unset, .unset, .unset, .unset, .unset, .unset] [])) rfl (hb hby at_130) (by decide) (by decide)
  obtain ⟨b257, g257⟩ : ∃ z, z = hJ.size := ⟨_, rfl⟩
  rw [← g257] at A257 D257 st257
  have g_b257 : n0 ≤ b257 := Nat.le_trans (own_szO OJ) (Nat.le_of_eq g257.symm)
  have ne_b101_b257 : b101 ≠ b257 := Nat.ne_of_lt (Nat.lt_of_lt_of_le ExJ.lt (Nat.le_of_eq g257.symm))
  have ne_b103_b257 : b103 ≠ b257 := Nat.ne_of_lt (Nat.lt_of_lt_of_le EaJ.lt (Nat.le_of_eq g257.symm))
  have ne_b_106_b257 : b_106 ≠ b257 := Nat.ne_of_lt (Nat.lt_of_lt_of_le VbJ.lt (Nat.le_of_eq g257.symm))
  have O257 := OJ.ext E257
  have F257_name : Fld Z h257 b257 "com/example/jitney/jitney/Instance" "name" "Ljava/lang/String;" .null := D257 (Or.inr (hw _ (List.mem_of_getElem? (i := 108) rfl))) (ty := (.object "java/lang/String")) (by decide)
  have F257_vehicles : Fld Z h257 b257 "com/example/jitney/jitney/Instance" "vehicles" "I" (.int (0 : Int32)) := D257 (Or.inr (hw _ (List.mem_of_getElem? (i := 110) rfl))) (ty := .int) (by decide)
  have F257_maxRouteDuration : Fld Z h257 b257 "com/example/jitney/jitney/Instance" "maxRouteDuration" "D" (.double (0 : UInt64)) := D257 (Or.inr (hw _ (List.mem_of_getElem? (i := 112) rfl))) (ty := .double) (by decide)
  have F257_capacity : Fld Z h257 b257 "com/example/jitney/jitney/Instance" "capacity" "I" (.int (0 : Int32)) := D257 (Or.inr (hw _ (List.mem_of_getElem? (i := 114) rfl))) (ty := .int) (by decide)
  have F257_maxRideTime : Fld Z h257 b257 "com/example/jitney/jitney/Instance" "maxRideTime" "D" (.double (0 : UInt64)) := D257 (Or.inr (hw _ (List.mem_of_getElem? (i := 116) rfl))) (ty := .double) (by decide)
  have F257_nodes : Fld Z h257 b257 "com/example/jitney/jitney/Instance" "nodes" "Ljava/util/List;" .null := D257 (Or.inr (hw _ (List.mem_of_getElem? (i := 200) rfl))) (ty := (.object "java/util/List")) (by decide)
  have F257_requests : Fld Z h257 b257 "com/example/jitney/jitney/Instance" "requests" "I" (.int (0 : Int32)) := D257 (Or.inr (hw _ (List.mem_of_getElem? (i := 210) rfl))) (ty := .int) (by decide)
  obtain ⟨aS, T258, h258, kS, X258, e258, E258, hSS, hkS, hZ, hown, st258⟩ := ldcS (s := s) (vm0 := s.vm) X257 hx hZ hown (hw _ (List.mem_of_getElem? (i := 84) rfl)) (own_strW hw) e257 ((State.WarmedH.refl s).since 0) (Nat.zero_le _) (g := (mkF m 134 #[.val (.int p1), .val (.int p2), .val (.int p3), .val (.int kv0), .val (.ref b101), .val (.ref b103), .unset, .unset, .unset, .unset, .unset, .unset] [(.ref b257), (.ref b257)])) rfl (hb hby at_134) (n := 20) (by decide) (by decide) (by decide) (by decide)
  have O258 := O257.ext E258
  have f259 := (A257.ext E258)
  have f260 := (F257_name.ext E258)
  have f261 := (F257_vehicles.ext E258)
  have f262 := (F257_maxRouteDuration.ext E258)
  have f263 := (F257_capacity.ext E258)
  have f264 := (F257_maxRideTime.ext E258)
  have f265 := (F257_nodes.ext E258)
  have f266 := (F257_requests.ext E258)
  have f267 := ((EaJ.ext E257).ext E258)
  have f268 := ((FeJ.ext E257).ext E258)
  have f269 := ((FsJ.ext E257).ext E258)
  have f270 := ((VbJ.ext E257).ext E258)
  have f271 := ((EbJ.ext E257).ext E258)
  have f272 := ((ExJ.ext E257).ext E258)
  obtain ⟨_, _, ⟨T273, L273, k273, n273⟩, -, X273, ⟨Lc273, hQ273, l273, y273, z273⟩, st273⟩ := X258.specialBack hx (y := (⟨"com/example/jitney/jitney/Instance", "<init>", "(Ljava/lang/String;IDIDLjava/util/List;)V"⟩ : MethodName)) rfl hown (mvT hZ (hw _ (List.mem_of_getElem? (i := 94) rfl))) (mvT hZ (hw _ (List.mem_of_getElem? (i := 95) rfl))) (mvT hZ (hw _ (List.mem_of_getElem? (i := 96) rfl))) (by decide) (backOf (W := 1) (rm_ini l Z a0 hw [] b257 aS (1 : Int32) (4621819117588971520 : UInt64) (3 : Int32) (4617315517961601024 : UInt64) b103 b_106 k_106 vsJ nJ b101 mr aY (.null) ((.int (0 : Int32))) ((.double (0 : UInt64))) ((.int (0 : Int32))) ((.double (0 : UInt64))) (.null) ((.int (0 : Int32))) h258 n0 O258 f259 f260 f261 f262 f263 f264 f265 f266 g_b257 f267 f268 f269 f270 f271 f272 MI hJ8.2.1 srcJ g_b101 SY hJ8.1 (Ne.symm ne_b103_b257) (Ne.symm ne_b_106_b257) (Ne.symm ne_b101_b257)) hZ (hw _ (List.mem_of_getElem? (i := 96) rfl)) (hw _ (List.mem_of_getElem? (i := 83) rfl)) (by decide) (by decide)) (g := (mkF m 146 #[.val (.int p1), .val (.int p2), .val (.int p3), .val (.int kv0), .val (.ref b101), .val (.ref b103), .unset, .unset, .unset, .unset, .unset, .unset] [(.ref b103), (.double (4617315517961601024 : UInt64)), (.int (3 : Int32)), (.double (4621819117588971520 : UInt64)), (.int (1 : Int32)), (.ref aS), (.ref b257), (.ref b257)])) rfl (by rw [hml]; rfl) (Steps.refl _) (a := b257) (argsL := [(.ref aS), (.int (1 : Int32)), (.double (4621819117588971520 : UInt64)), (.int (3 : Int32)), (.double (4617315517961601024 : UInt64)), (.ref b103)]) (rest := [(.ref b257)]) (lenOf pd_17 rfl) rfl (by show 2 * 0 + _ ≤ _; exact Nat.le_of_eq rfl) (hb hby at_146) (fun _ _ => ⟨rfl, e258, (by decide : 6 + 3 ≤ _), (by decide : 50 + 18 ≤ _)⟩)
  dsimp only [Pt.U, Pt.locs, Pt.cells, Pt.slots] at X273 l273 y273 z273 st273 hQ273
  subst l273 y273 z273
  obtain ⟨rfl, Nq273, Kq273, Ei273, Fr_273⟩ := hQ273
  have N273 := Fr.app NJ Nq273
  have O273 := O258.keep Kq273 (allS g_b257 all0)
  have hgr := Nat.le_trans hkS Kq273.1
  have pre274 : ∀ t, Steps p.tables e below (T273.setTop (mkF m 154 #[.val (.int p1), .val (.int p2), .val (.int p3), .val (.int kv0), .val (.ref b101), .val (.ref b103), .val (.ref b257), .unset, .unset, .unset, .unset, .unset] [(.int (p3 &&& (1 : Int32)))])) t → Steps p.tables e below (s₁.setTop (entryFrame m #[(.int p1), (.int p2), (.int p3)] maxLocals)) t := fun t kk => preJ t (by
      show Steps p.tables e below (TJ.setTop (mkF m 130 #[.val (.int p1), .val (.int p2), .val (.int p3), .val (.int kv0), .val (.ref b101), .val (.ref b103), .unset, .unset, .unset, .unset, .unset, .unset] [])) _
      refine st257 _ ?_
      show Steps p.tables e below (T257.setTop (mkF m 133 #[.val (.int p1), .val (.int p2), .val (.int p3), .val (.int kv0), .val (.ref b101), .val (.ref b103), .unset, .unset, .unset, .unset, .unset, .unset] [(.ref b257)])) _
      refine XS.dup X257.here hx rfl (hb hby at_133) rfl rfl ?_
      show Steps p.tables e below (T257.setTop (mkF m 134 #[.val (.int p1), .val (.int p2), .val (.int p3), .val (.int kv0), .val (.ref b101), .val (.ref b103), .unset, .unset, .unset, .unset, .unset, .unset] [(.ref b257), (.ref b257)])) _
      refine st258 _ ?_
      show Steps p.tables e below (T258.setTop (mkF m 136 #[.val (.int p1), .val (.int p2), .val (.int p3), .val (.int kv0), .val (.ref b101), .val (.ref b103), .unset, .unset, .unset, .unset, .unset, .unset] [(.ref aS), (.ref b257), (.ref b257)])) _
      refine XS.iconst X258.here hx rfl (hb hby at_136) ?_
      show Steps p.tables e below (T258.setTop (mkF m 137 #[.val (.int p1), .val (.int p2), .val (.int p3), .val (.int kv0), .val (.ref b101), .val (.ref b103), .unset, .unset, .unset, .unset, .unset, .unset] [(.int (1 : Int32)), (.ref aS), (.ref b257), (.ref b257)])) _
      refine X258.ldc2DoubleC hx hown (mvT hZ (hw _ (List.mem_of_getElem? (i := 92) rfl))) (g := (mkF m 137 #[.val (.int p1), .val (.int p2), .val (.int p3), .val (.int kv0), .val (.ref b101), .val (.ref b103), .unset, .unset, .unset, .unset, .unset, .unset] [(.int (1 : Int32)), (.ref aS), (.ref b257), (.ref b257)])) rfl (hb hby at_137) _ ?_
      show Steps p.tables e below (T258.setTop (mkF m 140 #[.val (.int p1), .val (.int p2), .val (.int p3), .val (.int kv0), .val (.ref b101), .val (.ref b103), .unset, .unset, .unset, .unset, .unset, .unset] [(.double (4621819117588971520 : UInt64)), (.int (1 : Int32)), (.ref aS), (.ref b257), (.ref b257)])) _
      refine XS.iconst X258.here hx rfl (hb hby at_140) ?_
      show Steps p.tables e below (T258.setTop (mkF m 141 #[.val (.int p1), .val (.int p2), .val (.int p3), .val (.int kv0), .val (.ref b101), .val (.ref b103), .unset, .unset, .unset, .unset, .unset, .unset] [(.int (3 : Int32)), (.double (4621819117588971520 : UInt64)), (.int (1 : Int32)), (.ref aS), (.ref b257), (.ref b257)])) _
      refine X258.ldc2DoubleC hx hown (mvT hZ (hw _ (List.mem_of_getElem? (i := 93) rfl))) (g := (mkF m 141 #[.val (.int p1), .val (.int p2), .val (.int p3), .val (.int kv0), .val (.ref b101), .val (.ref b103), .unset, .unset, .unset, .unset, .unset, .unset] [(.int (3 : Int32)), (.double (4621819117588971520 : UInt64)), (.int (1 : Int32)), (.ref aS), (.ref b257), (.ref b257)])) rfl (hb hby at_141) _ ?_
      show Steps p.tables e below (T258.setTop (mkF m 144 #[.val (.int p1), .val (.int p2), .val (.int p3), .val (.int kv0), .val (.ref b101), .val (.ref b103), .unset, .unset, .unset, .unset, .unset, .unset] [(.double (4617315517961601024 : UInt64)), (.int (3 : Int32)), (.double (4621819117588971520 : UInt64)), (.int (1 : Int32)), (.ref aS), (.ref b257), (.ref b257)])) _
      refine XS.aload X258.here hx rfl (hb hby at_144) rfl rfl ?_
      show Steps p.tables e below (T258.setTop (mkF m 146 #[.val (.int p1), .val (.int p2), .val (.int p3), .val (.int kv0), .val (.ref b101), .val (.ref b103), .unset, .unset, .unset, .unset, .unset, .unset] [(.ref b103), (.double (4617315517961601024 : UInt64)), (.int (3 : Int32)), (.double (4621819117588971520 : UInt64)), (.int (1 : Int32)), (.ref aS), (.ref b257), (.ref b257)])) _
      refine st273.trans ?_
      show Steps p.tables e below (T273.setTop (mkF m 149 #[.val (.int p1), .val (.int p2), .val (.int p3), .val (.int kv0), .val (.ref b101), .val (.ref b103), .unset, .unset, .unset, .unset, .unset, .unset] [(.ref b257)])) _
      refine XS.astore X273.here hx rfl (hb hby at_149) rfl rfl (l' := #[.val (.int p1), .val (.int p2), .val (.int p3), .val (.int kv0), .val (.ref b101), .val (.ref b103), .val (.ref b257), .unset, .unset, .unset, .unset, .unset]) rfl ?_
      refine XS.iloadN X273.here hx rfl (hb hby at_151) rfl ?_
      refine XS.iconst X273.here hx rfl (hb hby at_152) ?_
      refine XS.iand X273.here hx rfl (hb hby at_153) rfl ?_
      show Steps p.tables e below (T273.setTop (mkF m 154 #[.val (.int p1), .val (.int p2), .val (.int p3), .val (.int kv0), .val (.ref b101), .val (.ref b103), .val (.ref b257), .unset, .unset, .unset, .unset, .unset] [(.int (p3 &&& (1 : Int32)))])) _
      exact kk)
  obtain ⟨node, h_node⟩ : ∃ z : Int32, z = (if (p3 &&& (1 : Int32)) = (0 : Int32) then ((p2 &&& (7 : Int32)) - (1 : Int32)) else p2) := ⟨_, rfl⟩
  have pre276 : ∀ t, Steps p.tables e below (T273.setTop (mkF m 167 #[.val (.int p1), .val (.int p2), .val (.int p3), .val (.int kv0), .val (.ref b101), .val (.ref b103), .val (.ref b257), .unset, .unset, .unset, .unset, .unset] [(.int node)])) t → Steps p.tables e below (s₁.setTop (entryFrame m #[(.int p1), (.int p2), (.int p3)] maxLocals)) t := fun t kk => pre274 t (by
      by_cases hc275 : (p3 &&& (1 : Int32)) = (0 : Int32)
      · refine XS.ifYes X273.here hx rfl (pc0 := 154) (pc' := 161) rfl (hb hby at_154) rfl ((if0 _ _).trans (teq hc275).1) (by decide) (by decide) ?_
        show Steps p.tables e below (T273.setTop (mkF m 161 #[.val (.int p1), .val (.int p2), .val (.int p3), .val (.int kv0), .val (.ref b101), .val (.ref b103), .val (.ref b257), .unset, .unset, .unset, .unset, .unset] [])) _
        refine XS.iloadN X273.here hx rfl (hb hby at_161) rfl ?_
        show Steps p.tables e below (T273.setTop (mkF m 162 #[.val (.int p1), .val (.int p2), .val (.int p3), .val (.int kv0), .val (.ref b101), .val (.ref b103), .val (.ref b257), .unset, .unset, .unset, .unset, .unset] [(.int p2)])) _
        refine XS.bipush X273.here hx rfl (hb hby at_162) ?_
        show Steps p.tables e below (T273.setTop (mkF m 164 #[.val (.int p1), .val (.int p2), .val (.int p3), .val (.int kv0), .val (.ref b101), .val (.ref b103), .val (.ref b257), .unset, .unset, .unset, .unset, .unset] [(.int (7 : Int32)), (.int p2)])) _
        refine XS.iand X273.here hx rfl (hb hby at_164) rfl ?_
        show Steps p.tables e below (T273.setTop (mkF m 165 #[.val (.int p1), .val (.int p2), .val (.int p3), .val (.int kv0), .val (.ref b101), .val (.ref b103), .val (.ref b257), .unset, .unset, .unset, .unset, .unset] [(.int (p2 &&& (7 : Int32)))])) _
        refine XS.iconst X273.here hx rfl (hb hby at_165) ?_
        show Steps p.tables e below (T273.setTop (mkF m 166 #[.val (.int p1), .val (.int p2), .val (.int p3), .val (.int kv0), .val (.ref b101), .val (.ref b103), .val (.ref b257), .unset, .unset, .unset, .unset, .unset] [(.int (1 : Int32)), (.int (p2 &&& (7 : Int32)))])) _
        refine XS.isub X273.here hx rfl (hb hby at_166) rfl ?_
        show Steps p.tables e below (T273.setTop (mkF m 167 #[.val (.int p1), .val (.int p2), .val (.int p3), .val (.int kv0), .val (.ref b101), .val (.ref b103), .val (.ref b257), .unset, .unset, .unset, .unset, .unset] [(.int ((p2 &&& (7 : Int32)) - (1 : Int32)))])) _
        rw [show node = ((p2 &&& (7 : Int32)) - (1 : Int32)) from by rw [h_node, if_pos hc275]] at kk
        exact kk
      · refine XS.ifNo X273.here hx rfl (hb hby at_154) rfl ((if0 _ _).trans (feq hc275).1) ?_
        show Steps p.tables e below (T273.setTop (mkF m 157 #[.val (.int p1), .val (.int p2), .val (.int p3), .val (.int kv0), .val (.ref b101), .val (.ref b103), .val (.ref b257), .unset, .unset, .unset, .unset, .unset] [])) _
        refine XS.iloadN X273.here hx rfl (hb hby at_157) rfl ?_
        show Steps p.tables e below (T273.setTop (mkF m 158 #[.val (.int p1), .val (.int p2), .val (.int p3), .val (.int kv0), .val (.ref b101), .val (.ref b103), .val (.ref b257), .unset, .unset, .unset, .unset, .unset] [(.int p2)])) _
        refine XS.goto X273.here hx rfl (pc0 := 158) (pc' := 167) rfl (hb hby at_158) (by decide) (by decide) ?_
        show Steps p.tables e below (T273.setTop (mkF m 167 #[.val (.int p1), .val (.int p2), .val (.int p3), .val (.int kv0), .val (.ref b101), .val (.ref b103), .val (.ref b257), .unset, .unset, .unset, .unset, .unset] [(.int p2)])) _
        rw [show node = p2 from by rw [h_node, if_neg hc275]] at kk
        exact kk)
  obtain ⟨dd, h_dd⟩ : ∃ z : Int64, z = ((node.toInt64) - (1 : Int64)) := ⟨_, rfl⟩
  have pre277 : ∀ t, Steps p.tables e below (T273.setTop (mkF m 185 #[.val (.int p1), .val (.int p2), .val (.int p3), .val (.int kv0), .val (.ref b101), .val (.ref b103), .val (.ref b257), .val (.int node), .val (.int ((nJ - (1 : Int32)) / (2 : Int32))), .val (.long dd), .second, .unset] [(.int (lcmpW dd (0 : Int64)))])) t → Steps p.tables e below (s₁.setTop (entryFrame m #[(.int p1), (.int p2), (.int p3)] maxLocals)) t := fun t kk => pre276 t (by
      show Steps p.tables e below (T273.setTop (mkF m 167 #[.val (.int p1), .val (.int p2), .val (.int p3), .val (.int kv0), .val (.ref b101), .val (.ref b103), .val (.ref b257), .unset, .unset, .unset, .unset, .unset] [(.int node)])) _
      refine XS.istore X273.here hx rfl (hb hby at_167) rfl (l' := #[.val (.int p1), .val (.int p2), .val (.int p3), .val (.int kv0), .val (.ref b101), .val (.ref b103), .val (.ref b257), .val (.int node), .unset, .unset, .unset, .unset]) rfl ?_
      refine XS.iloadN X273.here hx rfl (hb hby at_169) rfl ?_
      refine XS.iconst X273.here hx rfl (hb hby at_170) ?_
      refine XS.idiv X273.here hx rfl (hb hby at_171) rfl (by decide) ?_
      show Steps p.tables e below (T273.setTop (mkF m 172 #[.val (.int p1), .val (.int p2), .val (.int p3), .val (.int kv0), .val (.ref b101), .val (.ref b103), .val (.ref b257), .val (.int node), .unset, .unset, .unset, .unset] [(.int (kv0 / (2 : Int32)))])) _
      rw [show (kv0 / (2 : Int32)) = ((nJ - (1 : Int32)) / (2 : Int32)) from hJ8.2.2.1]
      show Steps p.tables e below (T273.setTop (mkF m 172 #[.val (.int p1), .val (.int p2), .val (.int p3), .val (.int kv0), .val (.ref b101), .val (.ref b103), .val (.ref b257), .val (.int node), .unset, .unset, .unset, .unset] [(.int ((nJ - (1 : Int32)) / (2 : Int32)))])) _
      refine XS.istore X273.here hx rfl (hb hby at_172) rfl (l' := #[.val (.int p1), .val (.int p2), .val (.int p3), .val (.int kv0), .val (.ref b101), .val (.ref b103), .val (.ref b257), .val (.int node), .val (.int ((nJ - (1 : Int32)) / (2 : Int32))), .unset, .unset, .unset]) rfl ?_
      refine XS.iload X273.here hx rfl (hb hby at_174) rfl ?_
      refine XS.i2l X273.here hx rfl (hb hby at_176) rfl ?_
      refine XS.lconst X273.here hx rfl (hb hby at_177) ?_
      show Steps p.tables e below (T273.setTop (mkF m 178 #[.val (.int p1), .val (.int p2), .val (.int p3), .val (.int kv0), .val (.ref b101), .val (.ref b103), .val (.ref b257), .val (.int node), .val (.int ((nJ - (1 : Int32)) / (2 : Int32))), .unset, .unset, .unset] [(.long (1 : Int64)), (.long (node.toInt64))])) _
      refine XS.lsub X273.here hx rfl (hb hby at_178) rfl ?_
      show Steps p.tables e below (T273.setTop (mkF m 179 #[.val (.int p1), .val (.int p2), .val (.int p3), .val (.int kv0), .val (.ref b101), .val (.ref b103), .val (.ref b257), .val (.int node), .val (.int ((nJ - (1 : Int32)) / (2 : Int32))), .unset, .unset, .unset] [(.long ((node.toInt64) - (1 : Int64)))])) _
      rw [show ((node.toInt64) - (1 : Int64)) = dd from h_dd.symm]
      show Steps p.tables e below (T273.setTop (mkF m 179 #[.val (.int p1), .val (.int p2), .val (.int p3), .val (.int kv0), .val (.ref b101), .val (.ref b103), .val (.ref b257), .val (.int node), .val (.int ((nJ - (1 : Int32)) / (2 : Int32))), .unset, .unset, .unset] [(.long dd)])) _
      refine XS.lstore X273.here hx rfl (hb hby at_179) rfl (l' := #[.val (.int p1), .val (.int p2), .val (.int p3), .val (.int kv0), .val (.ref b101), .val (.ref b103), .val (.ref b257), .val (.int node), .val (.int ((nJ - (1 : Int32)) / (2 : Int32))), .val (.long dd), .second, .unset]) rfl ?_
      refine XS.lload X273.here hx rfl (hb hby at_181) rfl ?_
      refine XS.lconst X273.here hx rfl (hb hby at_183) ?_
      refine XS.lcmp X273.here hx rfl (hb hby at_184) rfl ?_
      show Steps p.tables e below (T273.setTop (mkF m 185 #[.val (.int p1), .val (.int p2), .val (.int p3), .val (.int kv0), .val (.ref b101), .val (.ref b103), .val (.ref b257), .val (.int node), .val (.int ((nJ - (1 : Int32)) / (2 : Int32))), .val (.long dd), .second, .unset] [(.int (lcmpW dd (0 : Int64)))])) _
      exact kk)
  obtain ⟨ex, h_ex⟩ : ∃ z : Int32, z = (if dd < (0 : Int64) then (0 : Int32) else (if dd < (((nJ - (1 : Int32)) / (2 : Int32)).toInt64) then (1 : Int32) else (0 : Int32))) := ⟨_, rfl⟩
  have pre280 : ∀ t, Steps p.tables e below (T273.setTop (mkF m 202 #[.val (.int p1), .val (.int p2), .val (.int p3), .val (.int kv0), .val (.ref b101), .val (.ref b103), .val (.ref b257), .val (.int node), .val (.int ((nJ - (1 : Int32)) / (2 : Int32))), .val (.long dd), .second, .unset] [(.int ex)])) t → Steps p.tables e below (s₁.setTop (entryFrame m #[(.int p1), (.int p2), (.int p3)] maxLocals)) t := fun t kk => pre277 t (by
      by_cases hc278 : dd < (0 : Int64)
      · refine XS.ifYes X273.here hx rfl (pc0 := 185) (pc' := 201) rfl (hb hby at_185) rfl ((if0 _ _).trans (tlt ((lw_lt _ _).mpr hc278)).1) (by decide) (by decide) ?_
        show Steps p.tables e below (T273.setTop (mkF m 201 #[.val (.int p1), .val (.int p2), .val (.int p3), .val (.int kv0), .val (.ref b101), .val (.ref b103), .val (.ref b257), .val (.int node), .val (.int ((nJ - (1 : Int32)) / (2 : Int32))), .val (.long dd), .second, .unset] [])) _
        refine XS.iconst X273.here hx rfl (hb hby at_201) ?_
        show Steps p.tables e below (T273.setTop (mkF m 202 #[.val (.int p1), .val (.int p2), .val (.int p3), .val (.int kv0), .val (.ref b101), .val (.ref b103), .val (.ref b257), .val (.int node), .val (.int ((nJ - (1 : Int32)) / (2 : Int32))), .val (.long dd), .second, .unset] [(.int (0 : Int32))])) _
        rw [show ex = (0 : Int32) from by rw [h_ex, if_pos hc278]] at kk
        exact kk
      · refine XS.ifNo X273.here hx rfl (hb hby at_185) rfl ((if0 _ _).trans (flt (fun q => hc278 ((lw_lt _ _).mp q))).1) ?_
        show Steps p.tables e below (T273.setTop (mkF m 188 #[.val (.int p1), .val (.int p2), .val (.int p3), .val (.int kv0), .val (.ref b101), .val (.ref b103), .val (.ref b257), .val (.int node), .val (.int ((nJ - (1 : Int32)) / (2 : Int32))), .val (.long dd), .second, .unset] [])) _
        refine XS.lload X273.here hx rfl (hb hby at_188) rfl ?_
        show Steps p.tables e below (T273.setTop (mkF m 190 #[.val (.int p1), .val (.int p2), .val (.int p3), .val (.int kv0), .val (.ref b101), .val (.ref b103), .val (.ref b257), .val (.int node), .val (.int ((nJ - (1 : Int32)) / (2 : Int32))), .val (.long dd), .second, .unset] [(.long dd)])) _
        refine XS.iload X273.here hx rfl (hb hby at_190) rfl ?_
        show Steps p.tables e below (T273.setTop (mkF m 192 #[.val (.int p1), .val (.int p2), .val (.int p3), .val (.int kv0), .val (.ref b101), .val (.ref b103), .val (.ref b257), .val (.int node), .val (.int ((nJ - (1 : Int32)) / (2 : Int32))), .val (.long dd), .second, .unset] [(.int ((nJ - (1 : Int32)) / (2 : Int32))), (.long dd)])) _
        refine XS.i2l X273.here hx rfl (hb hby at_192) rfl ?_
        show Steps p.tables e below (T273.setTop (mkF m 193 #[.val (.int p1), .val (.int p2), .val (.int p3), .val (.int kv0), .val (.ref b101), .val (.ref b103), .val (.ref b257), .val (.int node), .val (.int ((nJ - (1 : Int32)) / (2 : Int32))), .val (.long dd), .second, .unset] [(.long (((nJ - (1 : Int32)) / (2 : Int32)).toInt64)), (.long dd)])) _
        refine XS.lcmp X273.here hx rfl (hb hby at_193) rfl ?_
        show Steps p.tables e below (T273.setTop (mkF m 194 #[.val (.int p1), .val (.int p2), .val (.int p3), .val (.int kv0), .val (.ref b101), .val (.ref b103), .val (.ref b257), .val (.int node), .val (.int ((nJ - (1 : Int32)) / (2 : Int32))), .val (.long dd), .second, .unset] [(.int (lcmpW dd (((nJ - (1 : Int32)) / (2 : Int32)).toInt64)))])) _
        by_cases hc279 : dd < (((nJ - (1 : Int32)) / (2 : Int32)).toInt64)
        · refine XS.ifNo X273.here hx rfl (hb hby at_194) rfl ((if0 _ _).trans (tlt ((lw_lt _ _).mpr hc279)).2.1) ?_
          show Steps p.tables e below (T273.setTop (mkF m 197 #[.val (.int p1), .val (.int p2), .val (.int p3), .val (.int kv0), .val (.ref b101), .val (.ref b103), .val (.ref b257), .val (.int node), .val (.int ((nJ - (1 : Int32)) / (2 : Int32))), .val (.long dd), .second, .unset] [])) _
          refine XS.iconst X273.here hx rfl (hb hby at_197) ?_
          show Steps p.tables e below (T273.setTop (mkF m 198 #[.val (.int p1), .val (.int p2), .val (.int p3), .val (.int kv0), .val (.ref b101), .val (.ref b103), .val (.ref b257), .val (.int node), .val (.int ((nJ - (1 : Int32)) / (2 : Int32))), .val (.long dd), .second, .unset] [(.int (1 : Int32))])) _
          refine XS.goto X273.here hx rfl (pc0 := 198) (pc' := 202) rfl (hb hby at_198) (by decide) (by decide) ?_
          show Steps p.tables e below (T273.setTop (mkF m 202 #[.val (.int p1), .val (.int p2), .val (.int p3), .val (.int kv0), .val (.ref b101), .val (.ref b103), .val (.ref b257), .val (.int node), .val (.int ((nJ - (1 : Int32)) / (2 : Int32))), .val (.long dd), .second, .unset] [(.int (1 : Int32))])) _
          rw [show ex = (1 : Int32) from by rw [h_ex, if_neg hc278, if_pos hc279]] at kk
          exact kk
        · refine XS.ifYes X273.here hx rfl (pc0 := 194) (pc' := 201) rfl (hb hby at_194) rfl ((if0 _ _).trans (flt (fun q => hc279 ((lw_lt _ _).mp q))).2.1) (by decide) (by decide) ?_
          show Steps p.tables e below (T273.setTop (mkF m 201 #[.val (.int p1), .val (.int p2), .val (.int p3), .val (.int kv0), .val (.ref b101), .val (.ref b103), .val (.ref b257), .val (.int node), .val (.int ((nJ - (1 : Int32)) / (2 : Int32))), .val (.long dd), .second, .unset] [])) _
          refine XS.iconst X273.here hx rfl (hb hby at_201) ?_
          show Steps p.tables e below (T273.setTop (mkF m 202 #[.val (.int p1), .val (.int p2), .val (.int p3), .val (.int kv0), .val (.ref b101), .val (.ref b103), .val (.ref b257), .val (.int node), .val (.int ((nJ - (1 : Int32)) / (2 : Int32))), .val (.long dd), .second, .unset] [(.int (0 : Int32))])) _
          rw [show ex = (0 : Int32) from by rw [h_ex, if_neg hc278, if_neg hc279]] at kk
          exact kk)
  obtain ⟨cq281, kq281, q281a, q281b, q281c⟩ := isOf hZ rfl Ei273
  obtain ⟨_, _, ⟨T281, L281, k281, n281⟩, -, X281, ⟨Lc281, hQ281, l281, y281, z281⟩, st281⟩ := X273.virtualBack hx (y := (⟨"com/example/jitney/jitney/Instance", "isPickup", "(I)Z"⟩ : MethodName)) (z := (⟨"com/example/jitney/jitney/Instance", "isPickup", "(I)Z"⟩ : MethodName)) hown (mvT hZ (hw _ (List.mem_of_getElem? (i := 211) rfl))) (mvT hZ (hw _ (List.mem_of_getElem? (i := 212) rfl))) (notFace_of_selects (args := #[]) (mvT hZ (hw _ (List.mem_of_getElem? (i := 214) rfl)))) (mvT hZ (hw _ (List.mem_of_getElem? (i := 214) rfl))) (mvT hZ (hw _ (List.mem_of_getElem? (i := 213) rfl))) (by decide) (backOf (W := 0) (rm_ip l Z a0 hw [] b257 node ((nJ - (1 : Int32)) / (2 : Int32)) T273.heap n0 O273 Fr_273) hZ (hw _ (List.mem_of_getElem? (i := 215) rfl)) (hw _ (List.mem_of_getElem? (i := 83) rfl)) (by decide) (by decide)) q281a q281c (g := (mkF m 208 #[.val (.int p1), .val (.int p2), .val (.int p3), .val (.int kv0), .val (.ref b101), .val (.ref b103), .val (.ref b257), .val (.int node), .val (.int ((nJ - (1 : Int32)) / (2 : Int32))), .val (.long dd), .second, .val (.int ex)] [(.int node), (.ref b257)])) rfl (by rw [hml]; rfl) (Steps.refl _) (argsL := [(.int node)]) (rest := []) (lenOf pd_18 rfl) rfl (by show 2 * 0 + _ ≤ _; exact Nat.le_of_eq rfl) (hb hby at_208) (fun _ _ => ⟨rfl, rfl, (by decide : 9 + 0 ≤ _), (by decide : 68 + 0 ≤ _)⟩)
  dsimp only [Pt.U, Pt.locs, Pt.cells, Pt.slots] at X281 l281 y281 z281 st281 hQ281
  subst l281 y281 z281
  obtain ⟨rfl, Nq281, e281⟩ := hQ281
  have N281 := Fr.app N273 Nq281
  have hc282 : (if node < (1 : Int32) then (0 : Int32) else (if ((nJ - (1 : Int32)) / (2 : Int32)) < node then (0 : Int32) else (1 : Int32))) = ex := (own_exp (w := ((nJ - (1 : Int32)) / (2 : Int32))) h_dd hJ8.2.2.2 (by rw [h_ex]) rfl)
  obtain ⟨fs, hr, hrun, hended, hEnd⟩ := X281.leaveW hSS (by rw [e281]; exact hgr) (v := some (.int (1 : Int32))) (fun h => by rw [Bd.returns] at h; cases h)
  refine ⟨_, _, pre280 _ ?_, hrun, hended, _, _, rfl, ?_, hEnd.1, hEnd.2.1, hEnd.2.2.1, hEnd.2.2.2.mono (by decide) (by decide)⟩
  · show Steps p.tables e below (T273.setTop (mkF m 202 #[.val (.int p1), .val (.int p2), .val (.int p3), .val (.int kv0), .val (.ref b101), .val (.ref b103), .val (.ref b257), .val (.int node), .val (.int ((nJ - (1 : Int32)) / (2 : Int32))), .val (.long dd), .second, .unset] [(.int ex)])) _
    refine XS.istore X273.here hx rfl (hb hby at_202) rfl (l' := #[.val (.int p1), .val (.int p2), .val (.int p3), .val (.int kv0), .val (.ref b101), .val (.ref b103), .val (.ref b257), .val (.int node), .val (.int ((nJ - (1 : Int32)) / (2 : Int32))), .val (.long dd), .second, .val (.int ex)]) rfl ?_
    refine XS.aload X273.here hx rfl (hb hby at_204) rfl rfl ?_
    refine XS.iload X273.here hx rfl (hb hby at_206) rfl ?_
    show Steps p.tables e below (T273.setTop (mkF m 208 #[.val (.int p1), .val (.int p2), .val (.int p3), .val (.int kv0), .val (.ref b101), .val (.ref b103), .val (.ref b257), .val (.int node), .val (.int ((nJ - (1 : Int32)) / (2 : Int32))), .val (.long dd), .second, .val (.int ex)] [(.int node), (.ref b257)])) _
    refine st281.trans ?_
    show Steps p.tables e below (T281.setTop (mkF m 211 #[.val (.int p1), .val (.int p2), .val (.int p3), .val (.int kv0), .val (.ref b101), .val (.ref b103), .val (.ref b257), .val (.int node), .val (.int ((nJ - (1 : Int32)) / (2 : Int32))), .val (.long dd), .second, .val (.int ex)] [(.int (if node < (1 : Int32) then (0 : Int32) else (if ((nJ - (1 : Int32)) / (2 : Int32)) < node then (0 : Int32) else (1 : Int32))))])) _
    refine XS.iload X281.here hx rfl (hb hby at_211) rfl ?_
    refine XS.icmpNo X281.here hx rfl (hb hby at_213) rfl (teq hc282).2 ?_
    refine XS.iconst X281.here hx rfl (hb hby at_216) ?_
    refine XS.goto X281.here hx rfl (pc0 := 217) (pc' := 221) rfl (hb hby at_217) (by decide) (by decide) ?_
    show Steps p.tables e below (T281.setTop (mkF m 221 #[.val (.int p1), .val (.int p2), .val (.int p3), .val (.int kv0), .val (.ref b101), .val (.ref b103), .val (.ref b257), .val (.int node), .val (.int ((nJ - (1 : Int32)) / (2 : Int32))), .val (.long dd), .second, .val (.int ex)] [(.int (1 : Int32))])) _
    exact retOut X281 hx (t := .boolean) (i := .ireturn) Bd.returns rfl (Or.inl ⟨rfl, Or.inr (Or.inl rfl), _, rfl⟩) (hb hby at_221) hr
  · show Q_law Z p1 p2 p3 aE kE aY mr h0 n0 _ T281.heap _
    rw [e281]
    exact ⟨rfl, N281⟩
theorem own_len {args : Array Value} {s : State} {t : Term} {a : Addr} {c : Cell} {ty : FieldType} {z : Int32} (ev : t.eval args s none [] s = some (.ref a)) (A : Arr s s.heap a c ty) (h : (Term.length t).eval args s none [] s = some (.int z)) : c.slots.size < 2 ^ 31 ∧ c.slots.size.toInt32 = z := by
  have ha : s.arrayAt? a = some c := A.fin (Vm.Alike.refl _)
  by_cases hl : c.slots.size < 2 ^ 31
  · rw [len_f ev ha hl] at h; exact ⟨hl, Value.int.inj (Option.some.inj h)⟩
  · simp [Term.eval, ev, ha, hl] at h
theorem own_eqI {args : Array Value} {s : State} {t : Term} {k : Int32} (h : (Jvm.Cond.eq t (.int k)).value args s none s [] = some true) : t.eval args s none [] s = some (.int k) := by
  simp only [Cond.value, Term.eval] at h
  cases ht : t.eval args s none [] s with
  | none => simp [ht] at h
  | some x => cases x <;> simp [ht] at h ⊢; exact h
theorem own_eqL {args : Array Value} {s : State} {t : Term} {k : Int64} (h : (Jvm.Cond.eq t (.long k)).value args s none s [] = some true) : t.eval args s none [] s = some (.long k) := by
  simp only [Cond.value, Term.eval] at h
  cases ht : t.eval args s none [] s with
  | none => simp [ht] at h
  | some x => cases x <;> simp [ht] at h ⊢; exact h
set_option maxRecDepth 65536 in
set_option maxHeartbeats 40000000 in
theorem comes_1 {Post : Tables → Env → Array Value → State → Outcome → State → Prop} (hpost : ∀ tb e args s v u, (limb_1_1.after args s (.returned v) u = true ∧ limb_1_2.after args s (.returned v) u = true ∧ True) → Jvm.D.FramedW s (.returned v) u (Jvm.fieldLocs frame_1_writes args s ++ Jvm.arrayLocs frame_1_arrays args s ++ Jvm.staticLocs frame_1_statics s) 24 1216 → Post tb e args s (.returned v) u) :
    ArmFor flags0 classFile x code maxLocals ret World_1 tables_1 room_1 Calls_1 rest_1 Pre_1 Post := by
  intro l hfl _ _ p e ha hc hk s m args below hf hA hF happ hP
  obtain ⟨hcalls, hrest, hpre⟩ := hP
  obtain ⟨-, -, -, hnamed, -, -, -, hat⟩ := (Spec.applies_iff hf).mp happ
  obtain ⟨hg, hn⟩ := and_e (Cond.before_iff.mp (show (Jvm.Cond.and given_1 narrow_1).before args s = true from hpre))
  obtain ⟨nn1, nn2⟩ := and_e hg
  obtain ⟨nn3, nn4⟩ := and_e nn2
  obtain ⟨nn5, nn6⟩ := and_e nn4
  obtain ⟨w0, w1, w2, rfl⟩ : ∃ w0 w1 w2 : Value, args = #[w0, w1, w2] := by
    have hs : args.size = 3 := by simpa [Cond.value, given_1] using nn1
    obtain ⟨L⟩ := args
    match L, hs with
    | [w0, w1, w2], _ => exact ⟨w0, w1, w2, rfl⟩
  have hw := fun d (hd : d ∈ tables_1) => atoms_spec (ws := Jvm.Cond.code x code maxLocals ret :: tables_1) hat d (List.mem_cons_of_mem _ hd)
  have hfit : Fit s := fun {y c} hc i hi => by
    obtain ⟨ha, rfl⟩ := Array.getElem?_eq_some_iff.mp hc
    have q := List.all_eq_true.mp ((Array.all_eq_true_iff_forall_mem.mp hF) _ (Array.getElem_mem ha)) i (List.mem_range.mpr hi)
    simpa [Array.getElem?_eq_getElem hi] using q
  obtain ⟨hsets, hown0⟩ := atoms_of _ (rest_1_c_eq ▸ (show rest_1_c.before _ s = true from hrest))
  obtain ⟨i0, ei0⟩ := is_v nn3
  obtain rfl : w0 = (.int i0) := Option.some.inj ei0
  obtain ⟨i1, ei1⟩ := is_v nn5
  obtain rfl : w1 = (.int i1) := Option.some.inj ei1
  obtain ⟨i2, ei2⟩ := is_v nn6
  obtain rfl : w2 = (.int i2) := Option.some.inj ei2
  obtain ⟨aE, evE⟩ := arr_v (Cond.before_iff.mp (hsets _ (List.mem_of_getElem? (i := 6) rfl)))
  have SE : Sta s s.heap "java/util/ArrayList" "DEFAULTCAPACITY_EMPTY_ELEMENTDATA" "[Ljava/lang/Object;" (.ref aE) := Sta.start evE (Or.inr ⟨(hw _ (List.mem_of_getElem? (i := 28) rfl)), (hsets _ (List.mem_of_getElem? (i := 2) rfl))⟩)
  obtain ⟨cE, ArE⟩ := Arr.start evE (Cond.before_iff.mp (hsets _ (List.mem_of_getElem? (i := 6) rfl)))
  obtain ⟨hszE, hleE⟩ := own_len evE ArE (own_eqI (Cond.before_iff.mp (hsets _ (List.mem_of_getElem? (i := 8) rfl))))
  have VE : Arv s s.heap aE cE.cls (.object "java/lang/Object") (0 : Int32) [] .null := Arv.start hfit ArE hszE hleE (by decide) rfl trivial
  obtain ⟨aY, evY⟩ := exa_v (Cond.before_iff.mp (hsets _ (List.mem_of_getElem? (i := 11) rfl)))
  have SY : Sta s s.heap "java/util/ImmutableCollections" "EMPTY" "Ljava/lang/Object;" (.ref aY) := Sta.start evY (Or.inl (hsets _ (List.mem_of_getElem? (i := 10) rfl)))
  obtain ⟨⟨cM, kM, mr, m1, m2, m3, m4⟩, -⟩ := hcalls
  have MI : Mir s "[Ljava/lang/Object;" mr := ⟨cM, kM, m1, m2, m3, m4⟩
  obtain ⟨n, o, h1, h2, h3, _, L, rfl, ⟨rfl, N⟩, hq⟩ := rm_law l s _ hw tables_1 i0 i1 i2 aE cE.cls aY mr s.heap s.heap.size (Old.start s) SE VE SY MI p e ha hc hk s m _ below hf ((Spec.applies_iff_loose hf).mp happ).1 ⟨rfl, State.Warmed39.refl s, rfl⟩ trivial
  refine ⟨n, _, h1, h2, h3, hpost _ _ _ _ _ _ ⟨Cond.after_iff.mpr rfl, Cond.after_iff.mpr (eq_i res_at (Term.int_eval (1)) rfl), trivial⟩ ⟨hq.1, hq.2.1, hq.2.2.1, (hq.2.2.2.sift fun y hy => Or.inr (N y hy)).mono (by decide) (by decide)⟩⟩
theorem main_1_1 : Claimed_1_1 := comes_1 fun _ _ _ _ _ _ h hF => ⟨h.1, hF⟩
theorem main_1_2 : Claimed_1_2 := comes_1 fun _ _ _ _ _ _ h hF => ⟨h.2.1, hF⟩

end Jvm.Pilot.@@N@@
namespace Jvm.Pilot.@@N@@
open Jvm Jvm.ClassFile Sem Op Lib Jvm.Free Jvm.Stand Jvm.Pilot.@@N@@.Jvm.D
/-! MADE BY PROGRAM (witnessworld.py) out of the Statement's table words and the real class files: 35 classes; the members and pool entries that the words name. The judged class is class 1, her method 1. -/
namespace start1
open Jvm.ClassFile
def u (s : String) : CpInfo := .utf8 (stringToUtf16 s)
/-- a pool by its gaps: so many unusable entries, then the entry; so many at the end -/
def gap : Nat → List CpInfo → List CpInfo
  | 0, r => r
  | n + 1, r => .unusable :: gap n r
def poolList (es : List (Nat × CpInfo)) (last : Nat) : List CpInfo := es.foldr (fun e r => gap e.1 (e.2 :: r)) (gap last [])
def pool (es : List (Nat × CpInfo)) (last : Nat) : Array CpInfo := ⟨poolList es last⟩
def fileOf (pool : Array CpInfo) (this : Nat) (attrs : Array Attribute := #[]) (ms : Array MethodInfo := #[]) (fl : Nat := 33) (sup : Nat := 0) (ifs : Array Nat := #[]) (fds : Array FieldInfo := #[]) : ClassFile where
  minorVersion := 0
  majorVersion := 65
  constantPool := pool
  accessFlags := fl
  thisClass := this
  superClass := sup
  interfaces := ifs
  fields := fds
  methods := ms
  attributes := attrs
def plain (name : String) (sup : Option ClassId) : Class where
  name := name
  kind := .ordinary
  loader := none
  accessFlags := 33
  super := sup
  interfaces := #[]
  cf := none
  fields := #[]
  methods := #[]
  instanceTypes := #[]
  staticTypes := #[]
  resolved := #[]
  callSites := []
  init := .initialized
  statics := none
  mirror := none

def pool0 : Array CpInfo := pool [(5, u "<init>"), (0, u "()V"), (1, .class_ 10), (1, u "java/lang/Object"), (0, u "getClass"), (0, u "()Ljava/lang/Class;")] 111

def k0c0 : Code := { maxStack := 0, maxLocals := 1, code := object_method_1_code, exceptionTable := #[], attributes := #[] }
def k0m0 : Method := { name := "<init>", desc := "()V", sig := { parameters := [], returnType := none }, accessFlags := 1, code := some k0c0 }
def k0m1 : Method := { name := "getClass", desc := "()Ljava/lang/Class;", sig := { parameters := [], returnType := some (.object "java/lang/Class") }, accessFlags := 273, code := none }
/-- java/lang/Object -/
def k0 : Class := { plain "java/lang/Object" none with
  accessFlags := 33
  interfaces := #[]
  cf := some (fileOf pool0 8 #[] #[{ accessFlags := 1, nameIndex := 5, descriptorIndex := 6, attributes := #[] }, { accessFlags := 273, nameIndex := 11, descriptorIndex := 12, attributes := #[] }] 33 0 #[] #[])
  fields := #[]
  methods := #[k0m0, k0m1]
  instanceTypes := #[]
  staticTypes := #[]
  resolved := Array.replicate 124 none
  statics := none }

def pool1 : Array CpInfo := pool [(2, .class_ 4), (0, .nameAndType 5 6), (0, u "java/lang/Object"), (0, u "<init>"), (0, u "()V"), (0, .class_ 8), (0, u "com/example/jitney/jitney/Instance$Node"), (0, .methodref 7 10), (0, .nameAndType 5 11), (0, u "(DDDIDD)V"), (0, .class_ 13), (0, u "java/util/ArrayList"), (0, .methodref 12 3), (0, .methodref 12 16), (0, .nameAndType 17 18), (0, u "add"), (0, u "(Ljava/lang/Object;)Z"), (0, .class_ 20), (0, u "com/example/jitney/jitney/Instance"), (0, .string 22), (0, u "a2-16"), (0, .double 4621819117588971520), (1, .double 4617315517961601024), (1, .methodref 19 28), (0, .nameAndType 5 29), (0, u "(Ljava/lang/String;IDIDLjava/util/List;)V"), (0, .methodref 19 31), (0, .nameAndType 32 33), (0, u "isPickup"), (0, u "(I)Z"), (0, .class_ 35), (0, u "com/example/jitney/jitney/InstanceIsPickupPinLaw"), (2, u "law"), (0, u "(III)Z")] 5

def k1m0 : Method := { name := "<init>", desc := "()V", sig := { parameters := [], returnType := none }, accessFlags := 1, code := none }
def k1c1 : Code := { maxStack := 13, maxLocals := 12, code := code, exceptionTable := #[], attributes := #[] }
def k1m1 : Method := { name := "law", desc := "(III)Z", sig := { parameters := [.int, .int, .int], returnType := some .boolean }, accessFlags := 9, code := some k1c1 }
/-- com/example/jitney/jitney/InstanceIsPickupPinLaw -/
def k1 : Class := { plain "com/example/jitney/jitney/InstanceIsPickupPinLaw" (some 0) with
  accessFlags := 49
  interfaces := #[]
  cf := some (fileOf pool1 34 #[] #[{ accessFlags := 1, nameIndex := 5, descriptorIndex := 6, attributes := #[] }, { accessFlags := 9, nameIndex := 38, descriptorIndex := 39, attributes := #[] }] 49 2 #[] #[])
  fields := #[]
  methods := #[k1m0, k1m1]
  instanceTypes := #[]
  staticTypes := #[]
  resolved := Array.replicate 45 none
  statics := none }

def pool2 : Array CpInfo := pool [(1, .methodref 2 3), (0, .class_ 4), (0, .nameAndType 5 6), (0, u "java/lang/Object"), (0, u "<init>"), (0, u "()V"), (0, .class_ 8), (0, u "java/lang/Record")] 13

def k2c0 : Code := { maxStack := 1, maxLocals := 1, code := jdk_30_method_1_code, exceptionTable := #[], attributes := #[] }
def k2m0 : Method := { name := "<init>", desc := "()V", sig := { parameters := [], returnType := none }, accessFlags := 4, code := some k2c0 }
/-- java/lang/Record -/
def k2 : Class := { plain "java/lang/Record" (some 0) with
  accessFlags := 1057
  interfaces := #[]
  cf := some (fileOf pool2 7 #[] #[{ accessFlags := 4, nameIndex := 5, descriptorIndex := 6, attributes := #[] }] 1057 2 #[] #[])
  fields := #[]
  methods := #[k2m0]
  instanceTypes := #[]
  staticTypes := #[]
  resolved := Array.replicate 22 none
  statics := none }

def pool3 : Array CpInfo := pool [(1, .methodref 2 3), (0, .class_ 4), (0, .nameAndType 5 6), (0, u "java/lang/Record"), (0, u "<init>"), (0, u "()V"), (0, .fieldref 8 9), (0, .class_ 10), (0, .nameAndType 11 12), (0, u "com/example/jitney/jitney/Instance$Node"), (0, u "x"), (0, u "D"), (0, .fieldref 8 14), (0, .nameAndType 15 12), (0, u "y"), (0, .fieldref 8 17), (0, .nameAndType 18 12), (0, u "service"), (0, .fieldref 8 20), (0, .nameAndType 21 22), (0, u "load"), (0, u "I"), (0, .fieldref 8 24), (0, .nameAndType 25 12), (0, u "earliest"), (0, .fieldref 8 27), (0, .nameAndType 28 12), (0, u "latest"), (12, u "(DDDIDD)V"), (10, .class_ 53), (0, u "com/example/jitney/jitney/Instance")] 24

def k3c0 : Code := { maxStack := 3, maxLocals := 12, code := prog_6_method_1_code, exceptionTable := #[], attributes := #[] }
def k3m0 : Method := { name := "<init>", desc := "(DDDIDD)V", sig := { parameters := [.double, .double, .double, .int, .double, .double], returnType := none }, accessFlags := 1, code := some k3c0 }
/-- com/example/jitney/jitney/Instance$Node -/
def k3 : Class := { plain "com/example/jitney/jitney/Instance$Node" (some 2) with
  accessFlags := 49
  interfaces := #[]
  cf := some (fileOf pool3 8 #[.nestHost 52] #[{ accessFlags := 1, nameIndex := 5, descriptorIndex := 41, attributes := #[] }] 49 2 #[] #[{ accessFlags := 18, nameIndex := 11, descriptorIndex := 12, attributes := #[] }, { accessFlags := 18, nameIndex := 15, descriptorIndex := 12, attributes := #[] }, { accessFlags := 18, nameIndex := 18, descriptorIndex := 12, attributes := #[] }, { accessFlags := 18, nameIndex := 21, descriptorIndex := 22, attributes := #[] }, { accessFlags := 18, nameIndex := 25, descriptorIndex := 12, attributes := #[] }, { accessFlags := 18, nameIndex := 28, descriptorIndex := 12, attributes := #[] }])
  fields := #[{ name := "x", type := .double, accessFlags := 18, slot := 0, constantValue := 0 }, { name := "y", type := .double, accessFlags := 18, slot := 1, constantValue := 0 }, { name := "service", type := .double, accessFlags := 18, slot := 2, constantValue := 0 }, { name := "load", type := .int, accessFlags := 18, slot := 3, constantValue := 0 }, { name := "earliest", type := .double, accessFlags := 18, slot := 4, constantValue := 0 }, { name := "latest", type := .double, accessFlags := 18, slot := 5, constantValue := 0 }]
  methods := #[k3m0]
  instanceTypes := #[.double, .double, .double, .int, .double, .double]
  staticTypes := #[]
  resolved := Array.replicate 78 none
  statics := none }

def pool4 : Array CpInfo := pool [(8, .class_ 10), (1, u "java/lang/Iterable"), (24, .class_ 36), (0, u "java/lang/Object")] 25

/-- java/lang/Iterable -/
def k4 : Class := { plain "java/lang/Iterable" (some 0) with
  accessFlags := 1537
  interfaces := #[]
  cf := some (fileOf pool4 8 #[] #[] 1537 35 #[] #[])
  fields := #[]
  methods := #[]
  instanceTypes := #[]
  staticTypes := #[]
  resolved := Array.replicate 62 none
  statics := none }

def pool5 : Array CpInfo := pool [(10, .class_ 12), (1, u "java/util/Collection"), (0, u "toArray"), (16, u "()Z"), (29, .class_ 61), (0, u "java/lang/Object"), (0, .class_ 63), (0, u "java/lang/Iterable"), (2, u "isEmpty"), (3, u "()[Ljava/lang/Object;")] 44

def k5m0 : Method := { name := "isEmpty", desc := "()Z", sig := { parameters := [], returnType := some .boolean }, accessFlags := 1025, code := none }
def k5m1 : Method := { name := "toArray", desc := "()[Ljava/lang/Object;", sig := { parameters := [], returnType := some (.array (.object "java/lang/Object")) }, accessFlags := 1025, code := none }
/-- java/util/Collection -/
def k5 : Class := { plain "java/util/Collection" (some 0) with
  accessFlags := 1537
  interfaces := #[4]
  cf := some (fileOf pool5 10 #[] #[{ accessFlags := 1025, nameIndex := 66, descriptorIndex := 30, attributes := #[] }, { accessFlags := 1025, nameIndex := 13, descriptorIndex := 70, attributes := #[] }] 1537 60 #[62] #[])
  fields := #[]
  methods := #[k5m0, k5m1]
  instanceTypes := #[]
  staticTypes := #[]
  resolved := Array.replicate 115 none
  statics := none }

def pool6 : Array CpInfo := pool [(1, .methodref 2 3), (0, .class_ 4), (0, .nameAndType 5 6), (0, u "java/lang/Object"), (0, u "<init>"), (0, u "()V"), (1, .class_ 10), (1, u "java/util/AbstractCollection"), (66, .class_ 78), (0, u "java/util/Collection")] 81

def k6c0 : Code := { maxStack := 1, maxLocals := 1, code := jdk_22_method_1_code, exceptionTable := #[], attributes := #[] }
def k6m0 : Method := { name := "<init>", desc := "()V", sig := { parameters := [], returnType := none }, accessFlags := 4, code := some k6c0 }
/-- java/util/AbstractCollection -/
def k6 : Class := { plain "java/util/AbstractCollection" (some 0) with
  accessFlags := 1057
  interfaces := #[5]
  cf := some (fileOf pool6 8 #[] #[{ accessFlags := 4, nameIndex := 5, descriptorIndex := 6, attributes := #[] }] 1057 2 #[77] #[])
  fields := #[]
  methods := #[k6m0]
  instanceTypes := #[]
  staticTypes := #[]
  resolved := Array.replicate 160 none
  statics := none }

def pool7 : Array CpInfo := pool [(8, .class_ 10), (1, u "java/util/SequencedCollection"), (15, .class_ 27), (0, u "java/lang/Object"), (0, .class_ 29), (0, u "java/util/Collection")] 27

/-- java/util/SequencedCollection -/
def k7 : Class := { plain "java/util/SequencedCollection" (some 0) with
  accessFlags := 1537
  interfaces := #[5]
  cf := some (fileOf pool7 8 #[] #[] 1537 26 #[28] #[])
  fields := #[]
  methods := #[]
  instanceTypes := #[]
  staticTypes := #[]
  resolved := Array.replicate 57 none
  statics := none }

def pool8 : Array CpInfo := pool [(8, .class_ 10), (1, u "java/util/List"), (7, u "()Z"), (12, u "(Ljava/lang/Object;)V"), (16, u "<init>"), (18, u "isEmpty"), (11, u "size"), (0, u "()I"), (7, u "of"), (2, .class_ 93), (1, u "java/util/ImmutableCollections"), (2, .class_ 97), (0, u "java/util/ImmutableCollections$List12"), (0, .methodref 96 99), (0, .nameAndType 48 31), (0, .methodref 96 101), (0, .nameAndType 48 102), (0, u "(Ljava/lang/Object;Ljava/lang/Object;)V"), (0, .class_ 104), (0, u "java/lang/Object"), (3, u "([Ljava/lang/Object;)Ljava/util/List;"), (0, .methodref 91 110), (0, .nameAndType 111 108), (0, u "listFromArray"), (0, .methodref 91 113), (0, .nameAndType 114 115), (0, u "listCopy"), (0, u "(Ljava/util/Collection;)Ljava/util/List;"), (4, .class_ 121), (0, u "java/util/SequencedCollection"), (112, u "copyOf")] 16

def k8m0 : Method := { name := "size", desc := "()I", sig := { parameters := [], returnType := some .int }, accessFlags := 1025, code := none }
def k8m1 : Method := { name := "isEmpty", desc := "()Z", sig := { parameters := [], returnType := some .boolean }, accessFlags := 1025, code := none }
def k8c2 : Code := { maxStack := 5, maxLocals := 2, code := jdk_40_method_47_code, exceptionTable := #[], attributes := #[] }
def k8m2 : Method := { name := "of", desc := "([Ljava/lang/Object;)Ljava/util/List;", sig := { parameters := [(.array (.object "java/lang/Object"))], returnType := some (.object "java/util/List") }, accessFlags := 137, code := some k8c2 }
def k8c3 : Code := { maxStack := 1, maxLocals := 1, code := jdk_40_method_48_code, exceptionTable := #[], attributes := #[] }
def k8m3 : Method := { name := "copyOf", desc := "(Ljava/util/Collection;)Ljava/util/List;", sig := { parameters := [(.object "java/util/Collection")], returnType := some (.object "java/util/List") }, accessFlags := 9, code := some k8c3 }
/-- java/util/List -/
def k8 : Class := { plain "java/util/List" (some 0) with
  accessFlags := 1537
  interfaces := #[7]
  cf := some (fileOf pool8 8 #[] #[{ accessFlags := 1025, nameIndex := 79, descriptorIndex := 80, attributes := #[] }, { accessFlags := 1025, nameIndex := 67, descriptorIndex := 18, attributes := #[] }, { accessFlags := 137, nameIndex := 88, descriptorIndex := 108, attributes := #[] }, { accessFlags := 9, nameIndex := 234, descriptorIndex := 115, attributes := #[] }] 1537 103 #[120] #[])
  fields := #[]
  methods := #[k8m0, k8m1, k8m2, k8m3]
  instanceTypes := #[]
  staticTypes := #[]
  resolved := Array.replicate 251 none
  statics := none }

def pool9 : Array CpInfo := pool [(1, .methodref 2 3), (0, .class_ 4), (0, .nameAndType 5 6), (0, u "java/util/AbstractCollection"), (0, u "<init>"), (0, u "()V"), (0, .fieldref 8 9), (0, .class_ 10), (0, .nameAndType 11 12), (0, u "java/util/AbstractList"), (0, u "modCount"), (0, u "I"), (64, .class_ 78), (0, u "java/util/AbstractList$Itr"), (3, .class_ 83), (0, u "java/util/AbstractList$ListItr"), (9, .class_ 94), (0, u "java/util/AbstractList$RandomAccessSubList"), (3, .class_ 99), (0, u "java/util/AbstractList$SubList"), (33, .class_ 134), (0, u "java/util/List"), (73, .class_ 209), (0, u "java/util/AbstractList$SubList$1"), (0, .class_ 211), (0, u "java/util/AbstractList$RandomAccessSpliterator")] 6

def k9c0 : Code := { maxStack := 2, maxLocals := 1, code := jdk_39_method_1_code, exceptionTable := #[], attributes := #[] }
def k9m0 : Method := { name := "<init>", desc := "()V", sig := { parameters := [], returnType := none }, accessFlags := 4, code := some k9c0 }
/-- java/util/AbstractList -/
def k9 : Class := { plain "java/util/AbstractList" (some 6) with
  accessFlags := 1057
  interfaces := #[8]
  cf := some (fileOf pool9 8 #[.nestMembers #[93, 98, 208, 210, 82, 77]] #[{ accessFlags := 4, nameIndex := 5, descriptorIndex := 6, attributes := #[] }] 1057 2 #[133] #[{ accessFlags := 132, nameIndex := 11, descriptorIndex := 12, attributes := #[] }])
  fields := #[{ name := "modCount", type := .int, accessFlags := 132, slot := 0, constantValue := 0 }]
  methods := #[k9m0]
  instanceTypes := #[.int]
  staticTypes := #[]
  resolved := Array.replicate 218 none
  statics := none }

def pool10 : Array CpInfo := pool [(1, .class_ 2), (0, u "java/util/RandomAccess"), (0, .class_ 4), (0, u "java/lang/Object")] 2

/-- java/util/RandomAccess -/
def k10 : Class := { plain "java/util/RandomAccess" (some 0) with
  accessFlags := 1537
  interfaces := #[]
  cf := some (fileOf pool10 1 #[] #[] 1537 3 #[] #[])
  fields := #[]
  methods := #[]
  instanceTypes := #[]
  staticTypes := #[]
  resolved := Array.replicate 7 none
  statics := none }

def pool11 : Array CpInfo := pool [(1, .class_ 2), (0, u "java/lang/Cloneable"), (0, .class_ 4), (0, u "java/lang/Object")] 2

/-- java/lang/Cloneable -/
def k11 : Class := { plain "java/lang/Cloneable" (some 0) with
  accessFlags := 1537
  interfaces := #[]
  cf := some (fileOf pool11 1 #[] #[] 1537 3 #[] #[])
  fields := #[]
  methods := #[]
  instanceTypes := #[]
  staticTypes := #[]
  resolved := Array.replicate 7 none
  statics := none }

def pool12 : Array CpInfo := pool [(1, .class_ 2), (0, u "java/io/Serializable"), (0, .class_ 4), (0, u "java/lang/Object")] 2

/-- java/io/Serializable -/
def k12 : Class := { plain "java/io/Serializable" (some 0) with
  accessFlags := 1537
  interfaces := #[]
  cf := some (fileOf pool12 1 #[] #[] 1537 3 #[] #[])
  fields := #[]
  methods := #[]
  instanceTypes := #[]
  staticTypes := #[]
  resolved := Array.replicate 7 none
  statics := none }

def pool13 : Array CpInfo := pool [(1, .methodref 2 3), (0, .class_ 4), (0, .nameAndType 5 6), (0, u "java/util/AbstractList"), (0, u "<init>"), (0, u "()V"), (0, .class_ 8), (0, u "java/lang/Object"), (0, .fieldref 10 11), (0, .class_ 12), (0, .nameAndType 13 14), (0, u "java/util/ArrayList"), (0, u "elementData"), (0, u "[Ljava/lang/Object;"), (2, u "EMPTY_ELEMENTDATA"), (21, .fieldref 10 40), (0, .nameAndType 41 14), (0, u "DEFAULTCAPACITY_EMPTY_ELEMENTDATA"), (4, u "toArray"), (0, u "()[Ljava/lang/Object;"), (0, .fieldref 10 49), (0, .nameAndType 50 51), (0, u "size"), (0, u "I"), (6, .class_ 60), (1, u "java/util/Arrays"), (0, u "copyOf"), (1, .fieldref 10 64), (0, .nameAndType 65 51), (0, u "modCount"), (0, .methodref 58 67), (0, .nameAndType 61 68), (0, u "([Ljava/lang/Object;I)[Ljava/lang/Object;"), (0, .methodref 10 70), (0, .nameAndType 71 72), (0, u "grow"), (0, u "(I)[Ljava/lang/Object;"), (6, .methodref 80 81), (0, .class_ 82), (0, .nameAndType 83 84), (0, u "java/lang/Math"), (0, u "max"), (0, u "(II)I"), (11, u "(Ljava/lang/Object;)Z"), (32, .methodref 10 130), (0, .nameAndType 71 47), (0, .methodref 10 132), (0, .nameAndType 133 134), (0, u "add"), (0, u "(Ljava/lang/Object;[Ljava/lang/Object;I)V"), (13, .class_ 149), (0, u "java/util/List"), (23, u "()Z"), (12, u "()I"), (75, .class_ 263), (0, u "java/util/ArrayList$ListItr"), (3, .class_ 268), (0, u "java/util/ArrayList$Itr"), (7, .class_ 277), (0, u "java/util/ArrayList$SubList"), (12, .class_ 291), (0, u "java/util/ArrayList$ArrayListSpliterator"), (37, .class_ 330), (0, u "java/util/RandomAccess"), (0, .class_ 332), (0, u "java/lang/Cloneable"), (0, .class_ 334), (0, u "java/io/Serializable"), (0, u "serialVersionUID"), (0, u "J"), (3, u "DEFAULT_CAPACITY"), (22, u "isEmpty"), (136, .class_ 501), (0, u "java/util/ArrayList$SubList$2"), (0, .class_ 503), (0, u "java/util/ArrayList$SubList$1")] 5

def k13c0 : Code := { maxStack := 2, maxLocals := 1, code := jdk_38_method_2_code, exceptionTable := #[], attributes := #[] }
def k13m0 : Method := { name := "<init>", desc := "()V", sig := { parameters := [], returnType := none }, accessFlags := 1, code := some k13c0 }
def k13c1 : Code := { maxStack := 4, maxLocals := 4, code := jdk_38_method_6_code, exceptionTable := #[], attributes := #[] }
def k13m1 : Method := { name := "grow", desc := "(I)[Ljava/lang/Object;", sig := { parameters := [.int], returnType := some (.array (.object "java/lang/Object")) }, accessFlags := 2, code := some k13c1 }
def k13c2 : Code := { maxStack := 3, maxLocals := 1, code := jdk_38_method_7_code, exceptionTable := #[], attributes := #[] }
def k13m2 : Method := { name := "grow", desc := "()[Ljava/lang/Object;", sig := { parameters := [], returnType := some (.array (.object "java/lang/Object")) }, accessFlags := 2, code := some k13c2 }
def k13c3 : Code := { maxStack := 1, maxLocals := 1, code := jdk_38_method_8_code, exceptionTable := #[], attributes := #[] }
def k13m3 : Method := { name := "size", desc := "()I", sig := { parameters := [], returnType := some .int }, accessFlags := 1, code := some k13c3 }
def k13c4 : Code := { maxStack := 1, maxLocals := 1, code := jdk_38_method_9_code, exceptionTable := #[], attributes := #[] }
def k13m4 : Method := { name := "isEmpty", desc := "()Z", sig := { parameters := [], returnType := some .boolean }, accessFlags := 1, code := some k13c4 }
def k13c5 : Code := { maxStack := 2, maxLocals := 1, code := jdk_38_method_16_code, exceptionTable := #[], attributes := #[] }
def k13m5 : Method := { name := "toArray", desc := "()[Ljava/lang/Object;", sig := { parameters := [], returnType := some (.array (.object "java/lang/Object")) }, accessFlags := 1, code := some k13c5 }
def k13c6 : Code := { maxStack := 3, maxLocals := 4, code := jdk_38_method_24_code, exceptionTable := #[], attributes := #[] }
def k13m6 : Method := { name := "add", desc := "(Ljava/lang/Object;[Ljava/lang/Object;I)V", sig := { parameters := [(.object "java/lang/Object"), (.array (.object "java/lang/Object")), .int], returnType := none }, accessFlags := 2, code := some k13c6 }
def k13c7 : Code := { maxStack := 4, maxLocals := 2, code := jdk_38_method_25_code, exceptionTable := #[], attributes := #[] }
def k13m7 : Method := { name := "add", desc := "(Ljava/lang/Object;)Z", sig := { parameters := [(.object "java/lang/Object")], returnType := some .boolean }, accessFlags := 1, code := some k13c7 }
/-- java/util/ArrayList -/
def k13 : Class := { plain "java/util/ArrayList" (some 9) with
  accessFlags := 33
  interfaces := #[8, 10, 11, 12]
  cf := some (fileOf pool13 10 #[.nestMembers #[290, 276, 500, 502, 262, 267]] #[{ accessFlags := 1, nameIndex := 5, descriptorIndex := 6, attributes := #[] }, { accessFlags := 2, nameIndex := 71, descriptorIndex := 72, attributes := #[] }, { accessFlags := 2, nameIndex := 71, descriptorIndex := 47, attributes := #[] }, { accessFlags := 1, nameIndex := 50, descriptorIndex := 186, attributes := #[] }, { accessFlags := 1, nameIndex := 363, descriptorIndex := 173, attributes := #[] }, { accessFlags := 1, nameIndex := 46, descriptorIndex := 47, attributes := #[] }, { accessFlags := 2, nameIndex := 133, descriptorIndex := 134, attributes := #[] }, { accessFlags := 1, nameIndex := 133, descriptorIndex := 96, attributes := #[] }] 33 2 #[148, 329, 331, 333] #[{ accessFlags := 26, nameIndex := 335, descriptorIndex := 336, attributes := #[] }, { accessFlags := 26, nameIndex := 340, descriptorIndex := 51, attributes := #[] }, { accessFlags := 26, nameIndex := 17, descriptorIndex := 14, attributes := #[] }, { accessFlags := 26, nameIndex := 41, descriptorIndex := 14, attributes := #[] }, { accessFlags := 128, nameIndex := 13, descriptorIndex := 14, attributes := #[] }, { accessFlags := 2, nameIndex := 50, descriptorIndex := 51, attributes := #[] }])
  fields := #[{ name := "serialVersionUID", type := .long, accessFlags := 26, slot := 0, constantValue := 0 }, { name := "DEFAULT_CAPACITY", type := .int, accessFlags := 26, slot := 1, constantValue := 0 }, { name := "EMPTY_ELEMENTDATA", type := (.array (.object "java/lang/Object")), accessFlags := 26, slot := 2, constantValue := 0 }, { name := "DEFAULTCAPACITY_EMPTY_ELEMENTDATA", type := (.array (.object "java/lang/Object")), accessFlags := 26, slot := 3, constantValue := 0 }, { name := "elementData", type := (.array (.object "java/lang/Object")), accessFlags := 128, slot := 1, constantValue := 0 }, { name := "size", type := .int, accessFlags := 2, slot := 2, constantValue := 0 }]
  methods := #[k13m0, k13m1, k13m2, k13m3, k13m4, k13m5, k13m6, k13m7]
  instanceTypes := #[.int, (.array (.object "java/lang/Object")), .int]
  staticTypes := #[.long, .int, (.array (.object "java/lang/Object")), (.array (.object "java/lang/Object"))]
  resolved := Array.replicate 509 none
  statics := some 0 }

def pool14 : Array CpInfo := pool [(1, .class_ 2), (0, u "java/lang/Math"), (1, .class_ 6), (1, u "java/lang/Object"), (0, u "<init>"), (0, u "()V"), (89, .class_ 100), (1, u "java/lang/Math$RandomNumberGeneratorHolder"), (71, u "negativeZeroFloatBits"), (0, u "J"), (2, u "negativeZeroDoubleBits"), (21, u "max"), (2, u "min"), (43, u "$assertionsDisabled"), (0, u "Z"), (88, u "(II)I"), (2, u "twoToTheDoubleScaleDown"), (0, u "D"), (4, u "twoToTheDoubleScaleUp"), (9, u "E"), (3, u "PI"), (2, u "TAU"), (2, u "DEGREES_TO_RADIANS"), (0, u "RADIANS_TO_DEGREES")] 94

def k14m0 : Method := { name := "<init>", desc := "()V", sig := { parameters := [], returnType := none }, accessFlags := 2, code := none }
def k14c1 : Code := { maxStack := 2, maxLocals := 2, code := jdk_29_method_65_code, exceptionTable := #[], attributes := #[] }
def k14m1 : Method := { name := "max", desc := "(II)I", sig := { parameters := [.int, .int], returnType := some .int }, accessFlags := 9, code := some k14c1 }
def k14c2 : Code := { maxStack := 2, maxLocals := 2, code := jdk_29_method_69_code, exceptionTable := #[], attributes := #[] }
def k14m2 : Method := { name := "min", desc := "(II)I", sig := { parameters := [.int, .int], returnType := some .int }, accessFlags := 9, code := some k14c2 }
/-- java/lang/Math -/
def k14 : Class := { plain "java/lang/Math" (some 0) with
  accessFlags := 49
  interfaces := #[]
  cf := some (fileOf pool14 1 #[.nestMembers #[98]] #[{ accessFlags := 2, nameIndex := 7, descriptorIndex := 8, attributes := #[] }, { accessFlags := 9, nameIndex := 198, descriptorIndex := 335, attributes := #[] }, { accessFlags := 9, nameIndex := 201, descriptorIndex := 335, attributes := #[] }] 49 4 #[] #[{ accessFlags := 25, nameIndex := 354, descriptorIndex := 339, attributes := #[] }, { accessFlags := 25, nameIndex := 358, descriptorIndex := 339, attributes := #[] }, { accessFlags := 25, nameIndex := 361, descriptorIndex := 339, attributes := #[] }, { accessFlags := 26, nameIndex := 364, descriptorIndex := 339, attributes := #[] }, { accessFlags := 26, nameIndex := 365, descriptorIndex := 339, attributes := #[] }, { accessFlags := 26, nameIndex := 172, descriptorIndex := 173, attributes := #[] }, { accessFlags := 26, nameIndex := 176, descriptorIndex := 173, attributes := #[] }, { accessFlags := 8, nameIndex := 344, descriptorIndex := 339, attributes := #[] }, { accessFlags := 8, nameIndex := 338, descriptorIndex := 339, attributes := #[] }, { accessFlags := 4120, nameIndex := 245, descriptorIndex := 246, attributes := #[] }])
  fields := #[{ name := "E", type := .double, accessFlags := 25, slot := 0, constantValue := 0 }, { name := "PI", type := .double, accessFlags := 25, slot := 1, constantValue := 0 }, { name := "TAU", type := .double, accessFlags := 25, slot := 2, constantValue := 0 }, { name := "DEGREES_TO_RADIANS", type := .double, accessFlags := 26, slot := 3, constantValue := 0 }, { name := "RADIANS_TO_DEGREES", type := .double, accessFlags := 26, slot := 4, constantValue := 0 }, { name := "negativeZeroFloatBits", type := .long, accessFlags := 26, slot := 5, constantValue := 0 }, { name := "negativeZeroDoubleBits", type := .long, accessFlags := 26, slot := 6, constantValue := 0 }, { name := "twoToTheDoubleScaleUp", type := .double, accessFlags := 8, slot := 7, constantValue := 0 }, { name := "twoToTheDoubleScaleDown", type := .double, accessFlags := 8, slot := 8, constantValue := 0 }, { name := "$assertionsDisabled", type := .boolean, accessFlags := 4120, slot := 9, constantValue := 0 }]
  methods := #[k14m0, k14m1, k14m2]
  instanceTypes := #[]
  staticTypes := #[.double, .double, .double, .double, .double, .long, .long, .double, .double, .boolean]
  resolved := Array.replicate 460 none
  statics := none }

def pool15 : Array CpInfo := pool [(1, .methodref 2 3), (0, .class_ 4), (0, .nameAndType 5 6), (0, u "java/lang/Object"), (0, u "<init>"), (0, u "()V"), (0, .interfaceMethodref 8 9), (0, .class_ 10), (0, .nameAndType 11 12), (0, u "java/util/List"), (0, u "isEmpty"), (0, u "()Z"), (7, .fieldref 21 22), (0, .class_ 23), (0, .nameAndType 24 25), (0, u "com/example/jitney/jitney/Instance"), (0, u "name"), (0, u "Ljava/lang/String;"), (0, .fieldref 21 27), (0, .nameAndType 28 29), (0, u "vehicles"), (0, u "I"), (0, .fieldref 21 31), (0, .nameAndType 32 33), (0, u "maxRouteDuration"), (0, u "D"), (0, .fieldref 21 35), (0, .nameAndType 36 29), (0, u "capacity"), (0, .fieldref 21 38), (0, .nameAndType 39 33), (0, u "maxRideTime"), (0, .interfaceMethodref 8 41), (0, .nameAndType 42 43), (0, u "copyOf"), (0, u "(Ljava/util/Collection;)Ljava/util/List;"), (0, .fieldref 21 45), (0, .nameAndType 46 47), (0, u "nodes"), (0, u "Ljava/util/List;"), (0, .interfaceMethodref 8 49), (0, .nameAndType 50 51), (0, u "size"), (0, u "()I"), (0, .fieldref 21 53), (0, .nameAndType 54 29), (0, u "requests"), (4, .class_ 60), (0, u "com/example/jitney/jitney/Instance$Node"), (2, u "isPickup"), (0, u "(I)Z"), (22, u "(Ljava/lang/String;IDIDLjava/util/List;)V")] 21

def k15c0 : Code := { maxStack := 3, maxLocals := 9, code := prog_5_method_1_code, exceptionTable := #[], attributes := #[] }
def k15m0 : Method := { name := "<init>", desc := "(Ljava/lang/String;IDIDLjava/util/List;)V", sig := { parameters := [(.object "java/lang/String"), .int, .double, .int, .double, (.object "java/util/List")], returnType := none }, accessFlags := 1, code := some k15c0 }
def k15c1 : Code := { maxStack := 2, maxLocals := 2, code := prog_5_method_11_code, exceptionTable := #[], attributes := #[] }
def k15m1 : Method := { name := "isPickup", desc := "(I)Z", sig := { parameters := [.int], returnType := some .boolean }, accessFlags := 1, code := some k15c1 }
/-- com/example/jitney/jitney/Instance -/
def k15 : Class := { plain "com/example/jitney/jitney/Instance" (some 0) with
  accessFlags := 49
  interfaces := #[]
  cf := some (fileOf pool15 21 #[.nestMembers #[59]] #[{ accessFlags := 1, nameIndex := 5, descriptorIndex := 87, attributes := #[] }, { accessFlags := 1, nameIndex := 63, descriptorIndex := 64, attributes := #[] }] 49 2 #[] #[{ accessFlags := 18, nameIndex := 24, descriptorIndex := 25, attributes := #[] }, { accessFlags := 18, nameIndex := 28, descriptorIndex := 29, attributes := #[] }, { accessFlags := 18, nameIndex := 32, descriptorIndex := 33, attributes := #[] }, { accessFlags := 18, nameIndex := 36, descriptorIndex := 29, attributes := #[] }, { accessFlags := 18, nameIndex := 39, descriptorIndex := 33, attributes := #[] }, { accessFlags := 18, nameIndex := 46, descriptorIndex := 47, attributes := #[] }, { accessFlags := 18, nameIndex := 54, descriptorIndex := 29, attributes := #[] }])
  fields := #[{ name := "name", type := (.object "java/lang/String"), accessFlags := 18, slot := 0, constantValue := 0 }, { name := "vehicles", type := .int, accessFlags := 18, slot := 1, constantValue := 0 }, { name := "maxRouteDuration", type := .double, accessFlags := 18, slot := 2, constantValue := 0 }, { name := "capacity", type := .int, accessFlags := 18, slot := 3, constantValue := 0 }, { name := "maxRideTime", type := .double, accessFlags := 18, slot := 4, constantValue := 0 }, { name := "nodes", type := (.object "java/util/List"), accessFlags := 18, slot := 5, constantValue := 0 }, { name := "requests", type := .int, accessFlags := 18, slot := 6, constantValue := 0 }]
  methods := #[k15m0, k15m1]
  instanceTypes := #[(.object "java/lang/String"), .int, .double, .int, .double, (.object "java/util/List"), .int]
  staticTypes := #[]
  resolved := Array.replicate 109 none
  statics := none }

def pool16 : Array CpInfo := pool [(1, .class_ 2), (0, u "java/lang/Comparable"), (0, .class_ 4), (0, u "java/lang/Object")] 7

/-- java/lang/Comparable -/
def k16 : Class := { plain "java/lang/Comparable" (some 0) with
  accessFlags := 1537
  interfaces := #[]
  cf := some (fileOf pool16 1 #[] #[] 1537 3 #[] #[])
  fields := #[]
  methods := #[]
  instanceTypes := #[]
  staticTypes := #[]
  resolved := Array.replicate 12 none
  statics := none }

def pool17 : Array CpInfo := pool [(2, .class_ 4), (1, u "java/lang/CharSequence"), (42, .class_ 48), (0, u "java/lang/CharSequence$1CodePointIterator"), (10, .class_ 60), (0, u "java/lang/CharSequence$1CharIterator"), (5, .class_ 67), (0, u "java/lang/Object")] 63

/-- java/lang/CharSequence -/
def k17 : Class := { plain "java/lang/CharSequence" (some 0) with
  accessFlags := 1537
  interfaces := #[]
  cf := some (fileOf pool17 2 #[.nestMembers #[47, 59]] #[] 1537 66 #[] #[])
  fields := #[]
  methods := #[]
  instanceTypes := #[]
  staticTypes := #[]
  resolved := Array.replicate 131 none
  statics := none }

def pool18 : Array CpInfo := pool [(1, .class_ 2), (0, u "java/lang/constant/Constable"), (0, .class_ 4), (0, u "java/lang/Object")] 6

/-- java/lang/constant/Constable -/
def k18 : Class := { plain "java/lang/constant/Constable" (some 0) with
  accessFlags := 1537
  interfaces := #[]
  cf := some (fileOf pool18 1 #[] #[] 1537 3 #[] #[])
  fields := #[]
  methods := #[]
  instanceTypes := #[]
  staticTypes := #[]
  resolved := Array.replicate 11 none
  statics := none }

def pool19 : Array CpInfo := pool [(1, .class_ 2), (0, u "java/lang/constant/ConstantDesc"), (0, .class_ 4), (0, u "java/lang/Object")] 32

/-- java/lang/constant/ConstantDesc -/
def k19 : Class := { plain "java/lang/constant/ConstantDesc" (some 0) with
  accessFlags := 1537
  interfaces := #[]
  cf := some (fileOf pool19 1 #[] #[] 1537 3 #[] #[])
  fields := #[]
  methods := #[]
  instanceTypes := #[]
  staticTypes := #[]
  resolved := Array.replicate 37 none
  statics := none }

def pool20 : Array CpInfo := pool [(2, .class_ 4), (1, u "java/lang/Object"), (0, u "<init>"), (0, u "()V"), (3, .class_ 12), (1, u "java/lang/String"), (0, u "value"), (0, u "[B"), (2, u "coder"), (0, u "B"), (2, u "hash"), (0, u "I"), (2, u "hashIsZero"), (0, u "Z"), (13, u "COMPACT_STRINGS"), (534, .class_ 576), (0, u "java/lang/CharSequence"), (22, u "CASE_INSENSITIVE_ORDER"), (0, u "Ljava/util/Comparator;"), (500, u "serialPersistentFields"), (0, u "[Ljava/io/ObjectStreamField;"), (0, .class_ 1104), (0, u "java/lang/String$CaseInsensitiveComparator"), (1, .class_ 1107), (0, u "java/io/Serializable"), (0, .class_ 1109), (0, u "java/lang/Comparable"), (0, .class_ 1111), (0, u "java/lang/constant/Constable"), (0, .class_ 1113), (0, u "java/lang/constant/ConstantDesc"), (2, u "serialVersionUID"), (0, u "J"), (3, u "REPL"), (0, u "C"), (2, u "LATIN1"), (1, u "UTF16")] 323

def k20m0 : Method := { name := "<init>", desc := "()V", sig := { parameters := [], returnType := none }, accessFlags := 1, code := none }
/-- java/lang/String -/
def k20 : Class := { plain "java/lang/String" (some 0) with
  accessFlags := 49
  interfaces := #[12, 16, 17, 18, 19]
  cf := some (fileOf pool20 10 #[.nestMembers #[1103]] #[{ accessFlags := 1, nameIndex := 5, descriptorIndex := 6, attributes := #[] }] 49 2 #[1106, 1108, 575, 1110, 1112] #[{ accessFlags := 18, nameIndex := 13, descriptorIndex := 14, attributes := #[] }, { accessFlags := 18, nameIndex := 17, descriptorIndex := 18, attributes := #[] }, { accessFlags := 2, nameIndex := 21, descriptorIndex := 22, attributes := #[] }, { accessFlags := 2, nameIndex := 25, descriptorIndex := 26, attributes := #[] }, { accessFlags := 26, nameIndex := 1116, descriptorIndex := 1117, attributes := #[] }, { accessFlags := 24, nameIndex := 40, descriptorIndex := 26, attributes := #[] }, { accessFlags := 26, nameIndex := 1101, descriptorIndex := 1102, attributes := #[] }, { accessFlags := 26, nameIndex := 1121, descriptorIndex := 1122, attributes := #[] }, { accessFlags := 25, nameIndex := 599, descriptorIndex := 600, attributes := #[] }, { accessFlags := 24, nameIndex := 1125, descriptorIndex := 18, attributes := #[] }, { accessFlags := 24, nameIndex := 1127, descriptorIndex := 18, attributes := #[] }])
  fields := #[{ name := "value", type := (.array .byte), accessFlags := 18, slot := 0, constantValue := 0 }, { name := "coder", type := .byte, accessFlags := 18, slot := 1, constantValue := 0 }, { name := "hash", type := .int, accessFlags := 2, slot := 2, constantValue := 0 }, { name := "hashIsZero", type := .boolean, accessFlags := 2, slot := 3, constantValue := 0 }, { name := "serialVersionUID", type := .long, accessFlags := 26, slot := 0, constantValue := 0 }, { name := "COMPACT_STRINGS", type := .boolean, accessFlags := 24, slot := 1, constantValue := 0 }, { name := "serialPersistentFields", type := (.array (.object "java/io/ObjectStreamField")), accessFlags := 26, slot := 2, constantValue := 0 }, { name := "REPL", type := .char, accessFlags := 26, slot := 3, constantValue := 0 }, { name := "CASE_INSENSITIVE_ORDER", type := (.object "java/util/Comparator"), accessFlags := 25, slot := 4, constantValue := 0 }, { name := "LATIN1", type := .byte, accessFlags := 24, slot := 5, constantValue := 0 }, { name := "UTF16", type := .byte, accessFlags := 24, slot := 6, constantValue := 0 }]
  methods := #[k20m0]
  instanceTypes := #[(.array .byte), .byte, .int, .boolean]
  staticTypes := #[.long, .boolean, (.array (.object "java/io/ObjectStreamField")), .char, (.object "java/util/Comparator"), .byte, .byte]
  resolved := Array.replicate 1451 none
  statics := none }

def pool21 : Array CpInfo := pool [(2, .class_ 4), (1, u "java/lang/Object"), (0, u "<init>"), (0, u "()V"), (3, .class_ 11), (0, u "java/util/ImmutableCollections$List12"), (0, .class_ 13), (0, u "java/util/ImmutableCollections$ListN"), (3, u "Z"), (0, .class_ 19), (0, u "java/util/List"), (0, .interfaceMethodref 21 22), (0, .class_ 23), (0, .nameAndType 24 25), (0, u "java/util/Collection"), (0, u "isEmpty"), (0, u "()Z"), (2, u "of"), (1, .interfaceMethodref 21 31), (0, .nameAndType 32 33), (0, u "toArray"), (0, u "()[Ljava/lang/Object;"), (0, .interfaceMethodref 18 35), (0, .nameAndType 28 36), (0, u "([Ljava/lang/Object;)Ljava/util/List;"), (0, .methodref 38 39), (0, .class_ 40), (0, .nameAndType 41 42), (0, u "java/util/Objects"), (0, u "requireNonNull"), (0, u "(Ljava/lang/Object;)Ljava/lang/Object;"), (0, .methodref 12 44), (0, .nameAndType 5 45), (0, u "([Ljava/lang/Object;Z)V"), (1, .class_ 49), (1, u "java/util/ImmutableCollections"), (0, u "$assertionsDisabled"), (5, u "[Ljava/lang/Object;"), (5, u "EMPTY_LIST"), (0, u "Ljava/util/ImmutableCollections$ListN;"), (8, u "EMPTY_LIST_NULLS"), (22, u "SALT32L"), (0, u "J"), (2, u "REVERSE"), (6, u "archivedObjects"), (2, u "EMPTY"), (0, u "Ljava/lang/Object;"), (0, .class_ 112), (0, u "java/util/ImmutableCollections$SetN"), (5, u "EMPTY_SET"), (0, u "Ljava/util/ImmutableCollections$SetN;"), (0, .class_ 121), (0, u "java/util/ImmutableCollections$MapN"), (3, u "EMPTY_MAP"), (0, u "Ljava/util/ImmutableCollections$MapN;"), (4, u "EXPAND_FACTOR"), (0, u "I"), (9, u "listCopy"), (0, u "(Ljava/util/Collection;)Ljava/util/List;"), (7, u "listFromArray"), (17, .class_ 170), (0, u "java/util/ImmutableCollections$MapN$MapNIterator"), (0, .class_ 172), (0, u "java/util/ImmutableCollections$MapN$1"), (0, .class_ 174), (0, u "java/util/ImmutableCollections$Map1"), (0, .class_ 176), (0, u "java/util/ImmutableCollections$AbstractImmutableMap"), (0, .class_ 178), (0, u "java/util/ImmutableCollections$SetN$SetNIterator"), (0, .class_ 180), (0, u "java/util/ImmutableCollections$Set12"), (0, .class_ 182), (0, u "java/util/ImmutableCollections$Set12$1"), (0, .class_ 184), (0, u "java/util/ImmutableCollections$AbstractImmutableSet"), (0, .class_ 186), (0, u "java/util/ImmutableCollections$SubList"), (0, .class_ 188), (0, u "java/util/ImmutableCollections$ListItr"), (0, .class_ 190), (0, u "java/util/ImmutableCollections$AbstractImmutableList"), (0, .class_ 192), (0, u "java/util/ImmutableCollections$AbstractImmutableCollection"), (0, .class_ 194), (0, u "java/util/ImmutableCollections$Access"), (0, .class_ 196), (0, u "java/util/ImmutableCollections$Access$1")] 16

def k21m0 : Method := { name := "<init>", desc := "()V", sig := { parameters := [], returnType := none }, accessFlags := 2, code := none }
def k21c1 : Code := { maxStack := 1, maxLocals := 2, code := jdk_56_method_3_code, exceptionTable := #[], attributes := #[] }
def k21m1 : Method := { name := "listCopy", desc := "(Ljava/util/Collection;)Ljava/util/List;", sig := { parameters := [(.object "java/util/Collection")], returnType := some (.object "java/util/List") }, accessFlags := 8, code := some k21c1 }
def k21c2 : Code := { maxStack := 4, maxLocals := 3, code := jdk_56_method_4_code, exceptionTable := #[], attributes := #[] }
def k21m2 : Method := { name := "listFromArray", desc := "([Ljava/lang/Object;)Ljava/util/List;", sig := { parameters := [(.array (.object "java/lang/Object"))], returnType := some (.object "java/util/List") }, accessFlags := 136, code := some k21c2 }
/-- java/util/ImmutableCollections -/
def k21 : Class := { plain "java/util/ImmutableCollections" (some 0) with
  accessFlags := 32
  interfaces := #[]
  cf := some (fileOf pool21 47 #[.nestMembers #[120, 169, 171, 173, 175, 111, 177, 179, 181, 183, 12, 10, 185, 187, 189, 191, 193, 195]] #[{ accessFlags := 2, nameIndex := 5, descriptorIndex := 6, attributes := #[] }, { accessFlags := 8, nameIndex := 142, descriptorIndex := 143, attributes := #[] }, { accessFlags := 136, nameIndex := 151, descriptorIndex := 36, attributes := #[] }] 32 2 #[] #[{ accessFlags := 26, nameIndex := 95, descriptorIndex := 96, attributes := #[] }, { accessFlags := 26, nameIndex := 99, descriptorIndex := 17, attributes := #[] }, { accessFlags := 10, nameIndex := 106, descriptorIndex := 56, attributes := #[] }, { accessFlags := 26, nameIndex := 109, descriptorIndex := 110, attributes := #[] }, { accessFlags := 24, nameIndex := 62, descriptorIndex := 63, attributes := #[] }, { accessFlags := 24, nameIndex := 72, descriptorIndex := 63, attributes := #[] }, { accessFlags := 24, nameIndex := 118, descriptorIndex := 119, attributes := #[] }, { accessFlags := 24, nameIndex := 125, descriptorIndex := 126, attributes := #[] }, { accessFlags := 24, nameIndex := 131, descriptorIndex := 132, attributes := #[] }, { accessFlags := 4120, nameIndex := 50, descriptorIndex := 17, attributes := #[] }])
  fields := #[{ name := "SALT32L", type := .long, accessFlags := 26, slot := 0, constantValue := 0 }, { name := "REVERSE", type := .boolean, accessFlags := 26, slot := 1, constantValue := 0 }, { name := "archivedObjects", type := (.array (.object "java/lang/Object")), accessFlags := 10, slot := 2, constantValue := 0 }, { name := "EMPTY", type := (.object "java/lang/Object"), accessFlags := 26, slot := 3, constantValue := 0 }, { name := "EMPTY_LIST", type := (.object "java/util/ImmutableCollections$ListN"), accessFlags := 24, slot := 4, constantValue := 0 }, { name := "EMPTY_LIST_NULLS", type := (.object "java/util/ImmutableCollections$ListN"), accessFlags := 24, slot := 5, constantValue := 0 }, { name := "EMPTY_SET", type := (.object "java/util/ImmutableCollections$SetN"), accessFlags := 24, slot := 6, constantValue := 0 }, { name := "EMPTY_MAP", type := (.object "java/util/ImmutableCollections$MapN"), accessFlags := 24, slot := 7, constantValue := 0 }, { name := "EXPAND_FACTOR", type := .int, accessFlags := 24, slot := 8, constantValue := 0 }, { name := "$assertionsDisabled", type := .boolean, accessFlags := 4120, slot := 9, constantValue := 0 }]
  methods := #[k21m0, k21m1, k21m2]
  instanceTypes := #[]
  staticTypes := #[.long, .boolean, (.array (.object "java/lang/Object")), (.object "java/lang/Object"), (.object "java/util/ImmutableCollections$ListN"), (.object "java/util/ImmutableCollections$ListN"), (.object "java/util/ImmutableCollections$SetN"), (.object "java/util/ImmutableCollections$MapN"), .int, .boolean]
  resolved := Array.replicate 213 none
  statics := some 1 }

def pool22 : Array CpInfo := pool [(1, .methodref 2 3), (0, .class_ 4), (0, .nameAndType 5 6), (0, u "java/util/AbstractCollection"), (0, u "<init>"), (0, u "()V"), (1, .class_ 10), (1, u "java/util/ImmutableCollections"), (2, .class_ 14), (0, u "java/util/ImmutableCollections$AbstractImmutableCollection")] 41

def k22c0 : Code := { maxStack := 1, maxLocals := 1, code := jdk_47_method_1_code, exceptionTable := #[], attributes := #[] }
def k22m0 : Method := { name := "<init>", desc := "()V", sig := { parameters := [], returnType := none }, accessFlags := 0, code := some k22c0 }
/-- java/util/ImmutableCollections$AbstractImmutableCollection -/
def k22 : Class := { plain "java/util/ImmutableCollections$AbstractImmutableCollection" (some 6) with
  accessFlags := 1056
  interfaces := #[]
  cf := some (fileOf pool22 13 #[.nestHost 8] #[{ accessFlags := 0, nameIndex := 5, descriptorIndex := 6, attributes := #[] }] 1056 2 #[] #[])
  fields := #[]
  methods := #[k22m0]
  instanceTypes := #[]
  staticTypes := #[]
  resolved := Array.replicate 56 none
  statics := none }

def pool23 : Array CpInfo := pool [(1, .methodref 2 3), (0, .class_ 4), (0, .nameAndType 5 6), (0, u "java/util/ImmutableCollections$AbstractImmutableCollection"), (0, u "<init>"), (0, u "()V"), (1, .class_ 10), (1, u "java/util/ImmutableCollections"), (3, .class_ 16), (1, u "java/util/ImmutableCollections$AbstractImmutableList"), (60, .class_ 78), (0, u "java/util/List"), (45, .class_ 125), (0, u "java/util/RandomAccess")] 70

def k23c0 : Code := { maxStack := 1, maxLocals := 1, code := jdk_46_method_1_code, exceptionTable := #[], attributes := #[] }
def k23m0 : Method := { name := "<init>", desc := "()V", sig := { parameters := [], returnType := none }, accessFlags := 0, code := some k23c0 }
/-- java/util/ImmutableCollections$AbstractImmutableList -/
def k23 : Class := { plain "java/util/ImmutableCollections$AbstractImmutableList" (some 22) with
  accessFlags := 1056
  interfaces := #[8, 10]
  cf := some (fileOf pool23 14 #[.nestHost 8] #[{ accessFlags := 0, nameIndex := 5, descriptorIndex := 6, attributes := #[] }] 1056 2 #[77, 124] #[])
  fields := #[]
  methods := #[k23m0]
  instanceTypes := #[]
  staticTypes := #[]
  resolved := Array.replicate 196 none
  statics := none }

def pool24 : Array CpInfo := pool [(1, .methodref 2 3), (0, .class_ 4), (0, .nameAndType 5 6), (0, u "java/util/ImmutableCollections$AbstractImmutableList"), (0, u "<init>"), (0, u "()V"), (0, .methodref 8 9), (0, .class_ 10), (0, .nameAndType 11 12), (0, u "java/util/Objects"), (0, u "requireNonNull"), (0, u "(Ljava/lang/Object;)Ljava/lang/Object;"), (0, .fieldref 14 15), (0, .class_ 16), (0, .nameAndType 17 18), (0, u "java/util/ImmutableCollections$List12"), (0, u "e0"), (0, u "Ljava/lang/Object;"), (0, .fieldref 20 21), (0, .class_ 22), (0, .nameAndType 23 18), (0, u "java/util/ImmutableCollections"), (0, u "EMPTY"), (0, .fieldref 14 25), (0, .nameAndType 26 18), (0, u "e1"), (43, .class_ 71), (0, u "java/io/Serializable"), (4, u "(Ljava/lang/Object;)V"), (8, u "(Ljava/lang/Object;Ljava/lang/Object;)V")] 39

def k24c0 : Code := { maxStack := 2, maxLocals := 2, code := jdk_44_method_1_code, exceptionTable := #[], attributes := #[] }
def k24m0 : Method := { name := "<init>", desc := "(Ljava/lang/Object;)V", sig := { parameters := [(.object "java/lang/Object")], returnType := none }, accessFlags := 0, code := some k24c0 }
def k24c1 : Code := { maxStack := 2, maxLocals := 3, code := jdk_44_method_2_code, exceptionTable := #[], attributes := #[] }
def k24m1 : Method := { name := "<init>", desc := "(Ljava/lang/Object;Ljava/lang/Object;)V", sig := { parameters := [(.object "java/lang/Object"), (.object "java/lang/Object")], returnType := none }, accessFlags := 0, code := some k24c1 }
/-- java/util/ImmutableCollections$List12 -/
def k24 : Class := { plain "java/util/ImmutableCollections$List12" (some 23) with
  accessFlags := 48
  interfaces := #[12]
  cf := some (fileOf pool24 14 #[.nestHost 20] #[{ accessFlags := 0, nameIndex := 5, descriptorIndex := 76, attributes := #[] }, { accessFlags := 0, nameIndex := 5, descriptorIndex := 85, attributes := #[] }] 48 2 #[70] #[{ accessFlags := 18, nameIndex := 17, descriptorIndex := 18, attributes := #[] }, { accessFlags := 18, nameIndex := 26, descriptorIndex := 18, attributes := #[] }])
  fields := #[{ name := "e0", type := (.object "java/lang/Object"), accessFlags := 18, slot := 0, constantValue := 0 }, { name := "e1", type := (.object "java/lang/Object"), accessFlags := 18, slot := 1, constantValue := 0 }]
  methods := #[k24m0, k24m1]
  instanceTypes := #[(.object "java/lang/Object"), (.object "java/lang/Object")]
  staticTypes := #[]
  resolved := Array.replicate 125 none
  statics := none }

def pool25 : Array CpInfo := pool [(1, .methodref 2 3), (0, .class_ 4), (0, .nameAndType 5 6), (0, u "java/util/ImmutableCollections$AbstractImmutableList"), (0, u "<init>"), (0, u "()V"), (0, .fieldref 8 9), (0, .class_ 10), (0, .nameAndType 11 12), (0, u "java/util/ImmutableCollections$ListN"), (0, u "elements"), (0, u "[Ljava/lang/Object;"), (0, .fieldref 8 14), (0, .nameAndType 15 16), (0, u "allowNulls"), (0, u "Z"), (42, .class_ 60), (0, u "java/io/Serializable"), (4, u "([Ljava/lang/Object;Z)V"), (48, .class_ 115), (0, u "java/util/ImmutableCollections")] 3

def k25c0 : Code := { maxStack := 2, maxLocals := 3, code := jdk_45_method_1_code, exceptionTable := #[], attributes := #[] }
def k25m0 : Method := { name := "<init>", desc := "([Ljava/lang/Object;Z)V", sig := { parameters := [(.array (.object "java/lang/Object")), .boolean], returnType := none }, accessFlags := 2, code := some k25c0 }
/-- java/util/ImmutableCollections$ListN -/
def k25 : Class := { plain "java/util/ImmutableCollections$ListN" (some 23) with
  accessFlags := 48
  interfaces := #[12]
  cf := some (fileOf pool25 8 #[.nestHost 114] #[{ accessFlags := 2, nameIndex := 5, descriptorIndex := 65, attributes := #[] }] 48 2 #[59] #[{ accessFlags := 18, nameIndex := 11, descriptorIndex := 12, attributes := #[] }, { accessFlags := 18, nameIndex := 15, descriptorIndex := 16, attributes := #[] }])
  fields := #[{ name := "elements", type := (.array (.object "java/lang/Object")), accessFlags := 18, slot := 0, constantValue := 0 }, { name := "allowNulls", type := .boolean, accessFlags := 18, slot := 1, constantValue := 0 }]
  methods := #[k25m0]
  instanceTypes := #[(.array (.object "java/lang/Object")), .boolean]
  staticTypes := #[]
  resolved := Array.replicate 119 none
  statics := none }

def pool26 : Array CpInfo := pool [(2, .class_ 4), (1, u "java/lang/Object"), (0, u "<init>"), (0, u "()V"), (7, .class_ 16), (1, u "java/util/Arrays"), (57, .class_ 76), (1, u "java/util/Arrays$NaturalOrder"), (9, .methodref 2 87), (0, .nameAndType 88 89), (0, u "getClass"), (0, u "()Ljava/lang/Class;"), (20, .class_ 111), (0, u "[Ljava/lang/Object;"), (1, .class_ 115), (1, u "java/util/Arrays$LegacyMergeSort"), (1, u "Z"), (32, .methodref 151 152), (0, .class_ 153), (0, .nameAndType 154 155), (0, u "java/lang/System"), (0, u "arraycopy"), (0, u "(Ljava/lang/Object;ILjava/lang/Object;II)V"), (144, .methodref 14 301), (0, .nameAndType 302 303), (0, u "copyOf"), (0, u "([Ljava/lang/Object;ILjava/lang/Class;)[Ljava/lang/Object;"), (0, .methodref 305 306), (0, .class_ 307), (0, .nameAndType 308 309), (0, u "java/lang/Math"), (0, u "min"), (0, u "(II)I"), (65, .class_ 376), (0, u "java/util/Arrays$ArrayList"), (68, u "$assertionsDisabled"), (269, u "MIN_ARRAY_SORT_GRAN"), (0, u "I"), (2, u "INSERTIONSORT_THRESHOLD"), (140, u "([Ljava/lang/Object;I)[Ljava/lang/Object;"), (114, .class_ 976), (0, u "java/util/Arrays$ArrayItr")] 52

def k26m0 : Method := { name := "<init>", desc := "()V", sig := { parameters := [], returnType := none }, accessFlags := 2, code := none }
def k26c1 : Code := { maxStack := 3, maxLocals := 2, code := jdk_65_method_119_code, exceptionTable := #[], attributes := #[] }
def k26m1 : Method := { name := "copyOf", desc := "([Ljava/lang/Object;I)[Ljava/lang/Object;", sig := { parameters := [(.array (.object "java/lang/Object")), .int], returnType := some (.array (.object "java/lang/Object")) }, accessFlags := 9, code := some k26c1 }
def k26c2 : Code := { maxStack := 6, maxLocals := 4, code := jdk_65_method_120_code, exceptionTable := #[], attributes := #[] }
def k26m2 : Method := { name := "copyOf", desc := "([Ljava/lang/Object;ILjava/lang/Class;)[Ljava/lang/Object;", sig := { parameters := [(.array (.object "java/lang/Object")), .int, (.object "java/lang/Class")], returnType := some (.array (.object "java/lang/Object")) }, accessFlags := 9, code := some k26c2 }
/-- java/util/Arrays -/
def k26 : Class := { plain "java/util/Arrays" (some 0) with
  accessFlags := 49
  interfaces := #[]
  cf := some (fileOf pool26 14 #[.nestMembers #[975, 375, 113, 74]] #[{ accessFlags := 2, nameIndex := 5, descriptorIndex := 6, attributes := #[] }, { accessFlags := 9, nameIndex := 302, descriptorIndex := 860, attributes := #[] }, { accessFlags := 9, nameIndex := 302, descriptorIndex := 303, attributes := #[] }] 49 2 #[] #[{ accessFlags := 26, nameIndex := 715, descriptorIndex := 716, attributes := #[] }, { accessFlags := 26, nameIndex := 719, descriptorIndex := 716, attributes := #[] }, { accessFlags := 4120, nameIndex := 445, descriptorIndex := 117, attributes := #[] }])
  fields := #[{ name := "MIN_ARRAY_SORT_GRAN", type := .int, accessFlags := 26, slot := 0, constantValue := 0 }, { name := "INSERTIONSORT_THRESHOLD", type := .int, accessFlags := 26, slot := 1, constantValue := 0 }, { name := "$assertionsDisabled", type := .boolean, accessFlags := 4120, slot := 2, constantValue := 0 }]
  methods := #[k26m0, k26m1, k26m2]
  instanceTypes := #[]
  staticTypes := #[.int, .int, .boolean]
  resolved := Array.replicate 1029 none
  statics := none }

def pool27 : Array CpInfo := pool [(2, .class_ 4), (1, u "java/lang/Object"), (0, u "<init>"), (0, u "()V"), (1, .class_ 10), (1, u "java/lang/System"), (0, u "allowSecurityManager"), (0, u "I"), (16, u "cons"), (0, u "Ljava/io/Console;"), (77, .class_ 110), (1, u "java/lang/System$CallersHolder"), (43, u "initialErrStream"), (0, u "Ljava/io/PrintStream;"), (19, u "security"), (0, u "Ljava/lang/SecurityManager;"), (31, .class_ 209), (0, u "java/lang/System$1"), (7, u "props"), (0, u "Ljava/util/Properties;"), (2, u "lineSeparator"), (0, u "Ljava/lang/String;"), (96, .class_ 321), (1, u "java/lang/System$LoggerFinder"), (5, .class_ 328), (0, u "java/lang/System$Logger"), (67, u "err"), (2, u "out"), (91, u "notSupportedJnuEncoding"), (15, u "in"), (17, u "initialIn"), (0, u "Ljava/io/InputStream;"), (35, u "bootLayer"), (0, u "Ljava/lang/ModuleLayer;"), (99, .class_ 664), (0, u "java/lang/System$2"), (9, u "NEVER"), (2, u "MAYBE"), (49, u "arraycopy"), (0, u "(Ljava/lang/Object;ILjava/lang/Object;II)V"), (72, .class_ 802), (0, u "java/lang/System$Logger$Level")] 31

def k27m0 : Method := { name := "<init>", desc := "()V", sig := { parameters := [], returnType := none }, accessFlags := 2, code := none }
def k27m1 : Method := { name := "arraycopy", desc := "(Ljava/lang/Object;ILjava/lang/Object;II)V", sig := { parameters := [(.object "java/lang/Object"), .int, (.object "java/lang/Object"), .int, .int], returnType := none }, accessFlags := 265, code := none }
/-- java/lang/System -/
def k27 : Class := { plain "java/lang/System" (some 0) with
  accessFlags := 49
  interfaces := #[]
  cf := some (fileOf pool27 8 #[.nestMembers #[319, 327, 801, 108, 663, 208]] #[{ accessFlags := 2, nameIndex := 5, descriptorIndex := 6, attributes := #[] }, { accessFlags := 265, nameIndex := 727, descriptorIndex := 728, attributes := #[] }] 49 2 #[] #[{ accessFlags := 25, nameIndex := 507, descriptorIndex := 526, attributes := #[] }, { accessFlags := 25, nameIndex := 399, descriptorIndex := 155, attributes := #[] }, { accessFlags := 25, nameIndex := 396, descriptorIndex := 155, attributes := #[] }, { accessFlags := 10, nameIndex := 525, descriptorIndex := 526, attributes := #[] }, { accessFlags := 26, nameIndex := 674, descriptorIndex := 12, attributes := #[] }, { accessFlags := 26, nameIndex := 677, descriptorIndex := 12, attributes := #[] }, { accessFlags := 10, nameIndex := 11, descriptorIndex := 12, attributes := #[] }, { accessFlags := 74, nameIndex := 175, descriptorIndex := 176, attributes := #[] }, { accessFlags := 10, nameIndex := 491, descriptorIndex := 222, attributes := #[] }, { accessFlags := 74, nameIndex := 29, descriptorIndex := 30, attributes := #[] }, { accessFlags := 74, nameIndex := 154, descriptorIndex := 155, attributes := #[] }, { accessFlags := 10, nameIndex := 217, descriptorIndex := 218, attributes := #[] }, { accessFlags := 10, nameIndex := 221, descriptorIndex := 222, attributes := #[] }, { accessFlags := 8, nameIndex := 562, descriptorIndex := 563, attributes := #[] }])
  fields := #[{ name := "in", type := (.object "java/io/InputStream"), accessFlags := 25, slot := 0, constantValue := 0 }, { name := "out", type := (.object "java/io/PrintStream"), accessFlags := 25, slot := 1, constantValue := 0 }, { name := "err", type := (.object "java/io/PrintStream"), accessFlags := 25, slot := 2, constantValue := 0 }, { name := "initialIn", type := (.object "java/io/InputStream"), accessFlags := 10, slot := 3, constantValue := 0 }, { name := "NEVER", type := .int, accessFlags := 26, slot := 4, constantValue := 0 }, { name := "MAYBE", type := .int, accessFlags := 26, slot := 5, constantValue := 0 }, { name := "allowSecurityManager", type := .int, accessFlags := 10, slot := 6, constantValue := 0 }, { name := "security", type := (.object "java/lang/SecurityManager"), accessFlags := 74, slot := 7, constantValue := 0 }, { name := "notSupportedJnuEncoding", type := (.object "java/lang/String"), accessFlags := 10, slot := 8, constantValue := 0 }, { name := "cons", type := (.object "java/io/Console"), accessFlags := 74, slot := 9, constantValue := 0 }, { name := "initialErrStream", type := (.object "java/io/PrintStream"), accessFlags := 74, slot := 10, constantValue := 0 }, { name := "props", type := (.object "java/util/Properties"), accessFlags := 10, slot := 11, constantValue := 0 }, { name := "lineSeparator", type := (.object "java/lang/String"), accessFlags := 10, slot := 12, constantValue := 0 }, { name := "bootLayer", type := (.object "java/lang/ModuleLayer"), accessFlags := 8, slot := 13, constantValue := 0 }]
  methods := #[k27m0, k27m1]
  instanceTypes := #[]
  staticTypes := #[(.object "java/io/InputStream"), (.object "java/io/PrintStream"), (.object "java/io/PrintStream"), (.object "java/io/InputStream"), .int, .int, .int, (.object "java/lang/SecurityManager"), (.object "java/lang/String"), (.object "java/io/Console"), (.object "java/io/PrintStream"), (.object "java/util/Properties"), (.object "java/lang/String"), (.object "java/lang/ModuleLayer")]
  resolved := Array.replicate 834 none
  statics := none }

def pool28 : Array CpInfo := pool [(2, .class_ 4), (1, u "java/lang/Object"), (0, u "<init>"), (0, u "()V"), (35, .class_ 44), (1, u "java/util/Objects"), (0, u "requireNonNull"), (0, u "(Ljava/lang/Object;)Ljava/lang/Object;")] 137

def k28m0 : Method := { name := "<init>", desc := "()V", sig := { parameters := [], returnType := none }, accessFlags := 2, code := none }
def k28c1 : Code := { maxStack := 2, maxLocals := 1, code := jdk_31_method_10_code, exceptionTable := #[], attributes := #[] }
def k28m1 : Method := { name := "requireNonNull", desc := "(Ljava/lang/Object;)Ljava/lang/Object;", sig := { parameters := [(.object "java/lang/Object")], returnType := some (.object "java/lang/Object") }, accessFlags := 9, code := some k28c1 }
/-- java/util/Objects -/
def k28 : Class := { plain "java/util/Objects" (some 0) with
  accessFlags := 49
  interfaces := #[]
  cf := some (fileOf pool28 42 #[] #[{ accessFlags := 2, nameIndex := 5, descriptorIndex := 6, attributes := #[] }, { accessFlags := 9, nameIndex := 45, descriptorIndex := 46, attributes := #[] }] 49 2 #[] #[])
  fields := #[]
  methods := #[k28m0, k28m1]
  instanceTypes := #[]
  staticTypes := #[]
  resolved := Array.replicate 184 none
  statics := none }

def pool29 : Array CpInfo := pool [(1, u "java/lang/Class"), (0, .class_ 1), (0, u "java/lang/Object"), (0, .class_ 3)] 0

/-- java/lang/Class -/
def k29 : Class := { plain "java/lang/Class" (some 0) with
  accessFlags := 49
  interfaces := #[]
  cf := some (fileOf pool29 2 #[] #[] 49 4 #[] #[])
  fields := #[]
  methods := #[]
  instanceTypes := #[]
  staticTypes := #[]
  resolved := Array.replicate 5 none
  statics := none }

/-- the primitive byte -/
def k30 : Class := { plain "byte" none with kind := .primitive 'B', accessFlags := 0x411 }
/-- [B -/
def k31 : Class := { plain "[B" (some 0) with kind := .array 30 .byte, interfaces := #[11, 12], accessFlags := 1041 }

/-- the primitive int -/
def k32 : Class := { plain "int" none with kind := .primitive 'I', accessFlags := 0x411 }
/-- [I -/
def k33 : Class := { plain "[I" (some 0) with kind := .array 32 .int, interfaces := #[11, 12], accessFlags := 1041 }

/-- [Ljava/lang/Object; -/
def k34 : Class := { plain "[Ljava/lang/Object;" (some 0) with kind := .array 0 (.object "java/lang/Object"), interfaces := #[11, 12], accessFlags := 1041, mirror := some 2 }

def heap : Heap := #[{ cls := 13, slots := #[.long 0, .int 0, .ref 3, .ref 4], vm := .statics 13 },
  { cls := 21, slots := #[.long 0, .int 0, .null, .ref 5, .ref 6, .null, .null, .null, .int 0, .int 1], vm := .statics 21 },
  { cls := 29, slots := #[], vm := .mirror 34 },
  { cls := 34, slots := #[], vm := .none },
  { cls := 34, slots := #[], vm := .none },
  { cls := 0, slots := #[], vm := .none },
  { cls := 25, slots := #[.null, .int 0], vm := .none }]
def classes : Array Class := #[k0, k1, k2, k3, k4, k5, k6, k7, k8, k9, k10, k11, k12, k13, k14, k15, k16, k17, k18, k19, k20, k21, k22, k23, k24, k25, k26, k27, k28, k29, k30, k31, k32, k33, k34]
def interned : List (Array UInt16 × Addr) := []
def slotsUsed : Nat := 16
def theMethod : MethodId := ⟨1, 1⟩
def args0 : Array Value := #[.int 3, .int 1, .int 2]
def aboutOver (below : List Frame) : State where
  vm := { classes := classes, interned := interned.toArray }
  heap := heap
  slotsUsed := slotsUsed
  threads := #[{ frames := .invoking theMethod args0 :: below }]
def below0 : List Frame := [.native { method := ⟨0, 0⟩, args := #[] }]
def about1 : State := aboutOver below0
def p0 : Program := .bare "" "" ""
def e0 : Env := launch0.env 0 0 0
theorem w_frames : about1.frames = Frame.invoking theMethod args0 :: below0 := rfl
set_option maxRecDepth 65536 in
theorem w_args : argsFit about1.vm theMethod args0 = true := by decide +kernel
set_option maxRecDepth 65536 in
theorem w_heap : heapFits about1 = true := by decide +kernel
set_option maxRecDepth 65536 in
theorem w_runnable : about1.curStatus? = some .runnable := by decide +kernel
set_option maxRecDepth 65536 in
theorem w_alone : about1.alone = true := by decide +kernel
set_option maxRecDepth 65536 in
theorem w_named : about1.methodNamed? x = some theMethod := by decide +kernel
set_option maxRecDepth 65536 in
theorem w_hears : about1.hears theMethod below0 = true := by decide +kernel
set_option maxRecDepth 65536 in
theorem w_ripe : about1.ripe theMethod args0 below0 = true := by decide +kernel
theorem w_running : about1.status = .running := rfl
set_option maxRecDepth 65536 in
theorem w_room : about1.hasRoom e0.platform room_1 = true :=
  launch0.hasRoom_least _ room_1 (by decide +kernel) (by decide +kernel) (by decide +kernel) (by decide +kernel) (by decide +kernel) (by decide +kernel)
theorem allAtoms_all (ts : List Jvm.Cond) (a : Array Jvm.Value) (st : Jvm.State) : (allAtoms ts).before a st = ts.all (fun c => c.before a st) := by
  induction ts with
  | nil => rfl
  | cons c t ih =>
    show (Jvm.Cond.and c (allAtoms t)).before a st = _
    rw [Jvm.Cond.before_and, ih, List.all_cons]
def words1 : List Jvm.Cond := Jvm.Cond.code x code maxLocals ret :: tables_1
/-- a 'code' word, met by the world's own term for the bytes: nothing is compared byte by byte -/
theorem code_word {y : MethodName} {bytes : ByteArray} {mx : Nat} {rt : Option FieldType} {a : Array Value} {s : State} {m : MethodId} {meth : Method} {c : Code} (h1 : s.methodNamed? y = some m) (h2 : s.vm.method? m = some meth) (h3 : meth.code = some c) (h4 : c.code = bytes)
    (h5 : (c.maxLocals == mx && c.exceptionTable.isEmpty && decide (c.maxStack ≤ mostOperands) && decide (meth.sig.returnType = rt) && !meth.locks && decide (parseMethodDescriptor y.desc = some meth.sig)) = true) : (Jvm.Cond.code y bytes mx rt).before a s = true := by
  simp only [Bool.and_eq_true, beq_iff_eq, Bool.not_eq_true', decide_eq_true_eq] at h5
  obtain ⟨⟨⟨⟨⟨g1, g2⟩, g3⟩, g4⟩, g5⟩, g6⟩ := h5
  simp [Cond.before, Cond.holds, Cond.value, h1, h2, h3, h4, g1, g2, g3, g4, g5, g6]
def isCode : Jvm.Cond → Bool
  | .code _ _ _ _ => true
  | _ => false
theorem all_split {L : List Jvm.Cond} {P : Jvm.Cond → Bool} (h1 : L.all (fun c => isCode c || P c) = true) (h2 : ∀ c ∈ L.filter isCode, P c = true) : L.all P = true := by
  refine List.all_eq_true.mpr fun c hc => ?_
  have h := List.all_eq_true.mp h1 c hc
  rcases Bool.eq_false_or_eq_true (isCode c) with hi | hi
  · exact h2 c (List.mem_filter.mpr ⟨hc, hi⟩)
  · simpa [hi] using h
set_option maxRecDepth 65536 in
theorem w_c0 : (Jvm.Cond.code x code maxLocals ret).before args0 about1 = true := code_word (m := ⟨1, 1⟩) (meth := k1m1) (c := k1c1) (by decide +kernel) rfl rfl rfl (by decide +kernel)
set_option maxRecDepth 65536 in
theorem w_c1 : (Jvm.Cond.code ({ cls := "com/example/jitney/jitney/Instance$Node", name := "<init>", desc := "(DDDIDD)V" } : Jvm.MethodName) prog_6_method_1_code (12 : Nat) (Option.none : Option Jvm.ClassFile.FieldType)).before args0 about1 = true := code_word (m := ⟨3, 0⟩) (meth := k3m0) (c := k3c0) (by decide +kernel) rfl rfl rfl (by decide +kernel)
set_option maxRecDepth 65536 in
theorem w_c2 : (Jvm.Cond.code ({ cls := "java/lang/Record", name := "<init>", desc := "()V" } : Jvm.MethodName) jdk_30_method_1_code (1 : Nat) (Option.none : Option Jvm.ClassFile.FieldType)).before args0 about1 = true := code_word (m := ⟨2, 0⟩) (meth := k2m0) (c := k2c0) (by decide +kernel) rfl rfl rfl (by decide +kernel)
set_option maxRecDepth 65536 in
theorem w_c3 : (Jvm.Cond.code ({ cls := "java/lang/Object", name := "<init>", desc := "()V" } : Jvm.MethodName) object_method_1_code (1 : Nat) (Option.none : Option Jvm.ClassFile.FieldType)).before args0 about1 = true := code_word (m := ⟨0, 0⟩) (meth := k0m0) (c := k0c0) (by decide +kernel) rfl rfl rfl (by decide +kernel)
set_option maxRecDepth 65536 in
theorem w_c4 : (Jvm.Cond.code ({ cls := "java/util/ArrayList", name := "<init>", desc := "()V" } : Jvm.MethodName) jdk_38_method_2_code (1 : Nat) (Option.none : Option Jvm.ClassFile.FieldType)).before args0 about1 = true := code_word (m := ⟨13, 0⟩) (meth := k13m0) (c := k13c0) (by decide +kernel) rfl rfl rfl (by decide +kernel)
set_option maxRecDepth 65536 in
theorem w_c5 : (Jvm.Cond.code ({ cls := "java/util/AbstractList", name := "<init>", desc := "()V" } : Jvm.MethodName) jdk_39_method_1_code (1 : Nat) (Option.none : Option Jvm.ClassFile.FieldType)).before args0 about1 = true := code_word (m := ⟨9, 0⟩) (meth := k9m0) (c := k9c0) (by decide +kernel) rfl rfl rfl (by decide +kernel)
set_option maxRecDepth 65536 in
theorem w_c6 : (Jvm.Cond.code ({ cls := "java/util/AbstractCollection", name := "<init>", desc := "()V" } : Jvm.MethodName) jdk_22_method_1_code (1 : Nat) (Option.none : Option Jvm.ClassFile.FieldType)).before args0 about1 = true := code_word (m := ⟨6, 0⟩) (meth := k6m0) (c := k6c0) (by decide +kernel) rfl rfl rfl (by decide +kernel)
set_option maxRecDepth 65536 in
theorem w_c7 : (Jvm.Cond.code ({ cls := "java/util/ArrayList", name := "add", desc := "(Ljava/lang/Object;)Z" } : Jvm.MethodName) jdk_38_method_25_code (2 : Nat) (Option.some Jvm.ClassFile.FieldType.boolean)).before args0 about1 = true := code_word (m := ⟨13, 7⟩) (meth := k13m7) (c := k13c7) (by decide +kernel) rfl rfl rfl (by decide +kernel)
set_option maxRecDepth 65536 in
theorem w_c8 : (Jvm.Cond.code ({ cls := "java/util/ArrayList", name := "add", desc := "(Ljava/lang/Object;[Ljava/lang/Object;I)V" } : Jvm.MethodName) jdk_38_method_24_code (4 : Nat) (Option.none : Option Jvm.ClassFile.FieldType)).before args0 about1 = true := code_word (m := ⟨13, 6⟩) (meth := k13m6) (c := k13c6) (by decide +kernel) rfl rfl rfl (by decide +kernel)
set_option maxRecDepth 65536 in
theorem w_c9 : (Jvm.Cond.code ({ cls := "java/util/ArrayList", name := "grow", desc := "()[Ljava/lang/Object;" } : Jvm.MethodName) jdk_38_method_7_code (1 : Nat) (Option.some (Jvm.ClassFile.FieldType.array (Jvm.ClassFile.FieldType.object "java/lang/Object")))).before args0 about1 = true := code_word (m := ⟨13, 2⟩) (meth := k13m2) (c := k13c2) (by decide +kernel) rfl rfl rfl (by decide +kernel)
set_option maxRecDepth 65536 in
theorem w_c10 : (Jvm.Cond.code ({ cls := "java/util/ArrayList", name := "grow", desc := "(I)[Ljava/lang/Object;" } : Jvm.MethodName) jdk_38_method_6_code (4 : Nat) (Option.some (Jvm.ClassFile.FieldType.array (Jvm.ClassFile.FieldType.object "java/lang/Object")))).before args0 about1 = true := code_word (m := ⟨13, 1⟩) (meth := k13m1) (c := k13c1) (by decide +kernel) rfl rfl rfl (by decide +kernel)
set_option maxRecDepth 65536 in
theorem w_c11 : (Jvm.Cond.code ({ cls := "java/lang/Math", name := "max", desc := "(II)I" } : Jvm.MethodName) jdk_29_method_65_code (2 : Nat) (Option.some Jvm.ClassFile.FieldType.int)).before args0 about1 = true := code_word (m := ⟨14, 1⟩) (meth := k14m1) (c := k14c1) (by decide +kernel) rfl rfl rfl (by decide +kernel)
set_option maxRecDepth 65536 in
theorem w_c12 : (Jvm.Cond.code ({ cls := "com/example/jitney/jitney/Instance", name := "<init>", desc := "(Ljava/lang/String;IDIDLjava/util/List;)V" } : Jvm.MethodName) prog_5_method_1_code (9 : Nat) (Option.none : Option Jvm.ClassFile.FieldType)).before args0 about1 = true := code_word (m := ⟨15, 0⟩) (meth := k15m0) (c := k15c0) (by decide +kernel) rfl rfl rfl (by decide +kernel)
set_option maxRecDepth 65536 in
theorem w_c13 : (Jvm.Cond.code ({ cls := "java/util/ArrayList", name := "isEmpty", desc := "()Z" } : Jvm.MethodName) jdk_38_method_9_code (1 : Nat) (Option.some Jvm.ClassFile.FieldType.boolean)).before args0 about1 = true := code_word (m := ⟨13, 4⟩) (meth := k13m4) (c := k13c4) (by decide +kernel) rfl rfl rfl (by decide +kernel)
set_option maxRecDepth 65536 in
theorem w_c14 : (Jvm.Cond.code ({ cls := "java/util/List", name := "copyOf", desc := "(Ljava/util/Collection;)Ljava/util/List;" } : Jvm.MethodName) jdk_40_method_48_code (1 : Nat) (Option.some (Jvm.ClassFile.FieldType.object "java/util/List"))).before args0 about1 = true := code_word (m := ⟨8, 3⟩) (meth := k8m3) (c := k8c3) (by decide +kernel) rfl rfl rfl (by decide +kernel)
set_option maxRecDepth 65536 in
theorem w_c15 : (Jvm.Cond.code ({ cls := "java/util/ImmutableCollections", name := "listCopy", desc := "(Ljava/util/Collection;)Ljava/util/List;" } : Jvm.MethodName) jdk_56_method_3_code (2 : Nat) (Option.some (Jvm.ClassFile.FieldType.object "java/util/List"))).before args0 about1 = true := code_word (m := ⟨21, 1⟩) (meth := k21m1) (c := k21c1) (by decide +kernel) rfl rfl rfl (by decide +kernel)
set_option maxRecDepth 65536 in
theorem w_c16 : (Jvm.Cond.code ({ cls := "java/util/ArrayList", name := "toArray", desc := "()[Ljava/lang/Object;" } : Jvm.MethodName) jdk_38_method_16_code (1 : Nat) (Option.some (Jvm.ClassFile.FieldType.array (Jvm.ClassFile.FieldType.object "java/lang/Object")))).before args0 about1 = true := code_word (m := ⟨13, 5⟩) (meth := k13m5) (c := k13c5) (by decide +kernel) rfl rfl rfl (by decide +kernel)
set_option maxRecDepth 65536 in
theorem w_c17 : (Jvm.Cond.code ({ cls := "java/util/Arrays", name := "copyOf", desc := "([Ljava/lang/Object;I)[Ljava/lang/Object;" } : Jvm.MethodName) jdk_65_method_119_code (2 : Nat) (Option.some (Jvm.ClassFile.FieldType.array (Jvm.ClassFile.FieldType.object "java/lang/Object")))).before args0 about1 = true := code_word (m := ⟨26, 1⟩) (meth := k26m1) (c := k26c1) (by decide +kernel) rfl rfl rfl (by decide +kernel)
set_option maxRecDepth 65536 in
theorem w_c18 : (Jvm.Cond.code ({ cls := "java/util/Arrays", name := "copyOf", desc := "([Ljava/lang/Object;ILjava/lang/Class;)[Ljava/lang/Object;" } : Jvm.MethodName) jdk_65_method_120_code (4 : Nat) (Option.some (Jvm.ClassFile.FieldType.array (Jvm.ClassFile.FieldType.object "java/lang/Object")))).before args0 about1 = true := code_word (m := ⟨26, 2⟩) (meth := k26m2) (c := k26c2) (by decide +kernel) rfl rfl rfl (by decide +kernel)
set_option maxRecDepth 65536 in
theorem w_c19 : (Jvm.Cond.code ({ cls := "java/lang/Math", name := "min", desc := "(II)I" } : Jvm.MethodName) jdk_29_method_69_code (2 : Nat) (Option.some Jvm.ClassFile.FieldType.int)).before args0 about1 = true := code_word (m := ⟨14, 2⟩) (meth := k14m2) (c := k14c2) (by decide +kernel) rfl rfl rfl (by decide +kernel)
set_option maxRecDepth 65536 in
theorem w_c20 : (Jvm.Cond.code ({ cls := "java/util/List", name := "of", desc := "([Ljava/lang/Object;)Ljava/util/List;" } : Jvm.MethodName) jdk_40_method_47_code (2 : Nat) (Option.some (Jvm.ClassFile.FieldType.object "java/util/List"))).before args0 about1 = true := code_word (m := ⟨8, 2⟩) (meth := k8m2) (c := k8c2) (by decide +kernel) rfl rfl rfl (by decide +kernel)
set_option maxRecDepth 65536 in
theorem w_c21 : (Jvm.Cond.code ({ cls := "java/util/ImmutableCollections$List12", name := "<init>", desc := "(Ljava/lang/Object;)V" } : Jvm.MethodName) jdk_44_method_1_code (2 : Nat) (Option.none : Option Jvm.ClassFile.FieldType)).before args0 about1 = true := code_word (m := ⟨24, 0⟩) (meth := k24m0) (c := k24c0) (by decide +kernel) rfl rfl rfl (by decide +kernel)
set_option maxRecDepth 65536 in
theorem w_c22 : (Jvm.Cond.code ({ cls := "java/util/ImmutableCollections$AbstractImmutableList", name := "<init>", desc := "()V" } : Jvm.MethodName) jdk_46_method_1_code (1 : Nat) (Option.none : Option Jvm.ClassFile.FieldType)).before args0 about1 = true := code_word (m := ⟨23, 0⟩) (meth := k23m0) (c := k23c0) (by decide +kernel) rfl rfl rfl (by decide +kernel)
set_option maxRecDepth 65536 in
theorem w_c23 : (Jvm.Cond.code ({ cls := "java/util/ImmutableCollections$AbstractImmutableCollection", name := "<init>", desc := "()V" } : Jvm.MethodName) jdk_47_method_1_code (1 : Nat) (Option.none : Option Jvm.ClassFile.FieldType)).before args0 about1 = true := code_word (m := ⟨22, 0⟩) (meth := k22m0) (c := k22c0) (by decide +kernel) rfl rfl rfl (by decide +kernel)
set_option maxRecDepth 65536 in
theorem w_c24 : (Jvm.Cond.code ({ cls := "java/util/Objects", name := "requireNonNull", desc := "(Ljava/lang/Object;)Ljava/lang/Object;" } : Jvm.MethodName) jdk_31_method_10_code (1 : Nat) (Option.some (Jvm.ClassFile.FieldType.object "java/lang/Object"))).before args0 about1 = true := code_word (m := ⟨28, 1⟩) (meth := k28m1) (c := k28c1) (by decide +kernel) rfl rfl rfl (by decide +kernel)
set_option maxRecDepth 65536 in
theorem w_c25 : (Jvm.Cond.code ({ cls := "java/util/ArrayList", name := "size", desc := "()I" } : Jvm.MethodName) jdk_38_method_8_code (1 : Nat) (Option.some Jvm.ClassFile.FieldType.int)).before args0 about1 = true := code_word (m := ⟨13, 3⟩) (meth := k13m3) (c := k13c3) (by decide +kernel) rfl rfl rfl (by decide +kernel)
set_option maxRecDepth 65536 in
theorem w_c26 : (Jvm.Cond.code ({ cls := "com/example/jitney/jitney/Instance", name := "isPickup", desc := "(I)Z" } : Jvm.MethodName) prog_5_method_11_code (2 : Nat) (Option.some Jvm.ClassFile.FieldType.boolean)).before args0 about1 = true := code_word (m := ⟨15, 1⟩) (meth := k15m1) (c := k15c1) (by decide +kernel) rfl rfl rfl (by decide +kernel)
set_option maxRecDepth 65536 in
theorem w_c27 : (Jvm.Cond.code ({ cls := "java/util/ImmutableCollections$List12", name := "<init>", desc := "(Ljava/lang/Object;Ljava/lang/Object;)V" } : Jvm.MethodName) jdk_44_method_2_code (3 : Nat) (Option.none : Option Jvm.ClassFile.FieldType)).before args0 about1 = true := code_word (m := ⟨24, 1⟩) (meth := k24m1) (c := k24c1) (by decide +kernel) rfl rfl rfl (by decide +kernel)
set_option maxRecDepth 65536 in
theorem w_c28 : (Jvm.Cond.code ({ cls := "java/util/ImmutableCollections", name := "listFromArray", desc := "([Ljava/lang/Object;)Ljava/util/List;" } : Jvm.MethodName) jdk_56_method_4_code (3 : Nat) (Option.some (Jvm.ClassFile.FieldType.object "java/util/List"))).before args0 about1 = true := code_word (m := ⟨21, 2⟩) (meth := k21m2) (c := k21c2) (by decide +kernel) rfl rfl rfl (by decide +kernel)
set_option maxRecDepth 65536 in
theorem w_c29 : (Jvm.Cond.code ({ cls := "java/util/ImmutableCollections$ListN", name := "<init>", desc := "([Ljava/lang/Object;Z)V" } : Jvm.MethodName) jdk_45_method_1_code (3 : Nat) (Option.none : Option Jvm.ClassFile.FieldType)).before args0 about1 = true := code_word (m := ⟨25, 0⟩) (meth := k25m0) (c := k25c0) (by decide +kernel) rfl rfl rfl (by decide +kernel)
def codes1 : List Jvm.Cond := [Jvm.Cond.code x code maxLocals ret, Jvm.Cond.code ({ cls := "com/example/jitney/jitney/Instance$Node", name := "<init>", desc := "(DDDIDD)V" } : Jvm.MethodName) prog_6_method_1_code (12 : Nat) (Option.none : Option Jvm.ClassFile.FieldType), Jvm.Cond.code ({ cls := "java/lang/Record", name := "<init>", desc := "()V" } : Jvm.MethodName) jdk_30_method_1_code (1 : Nat) (Option.none : Option Jvm.ClassFile.FieldType), Jvm.Cond.code ({ cls := "java/lang/Object", name := "<init>", desc := "()V" } : Jvm.MethodName) object_method_1_code (1 : Nat) (Option.none : Option Jvm.ClassFile.FieldType), Jvm.Cond.code ({ cls := "java/util/ArrayList", name := "<init>", desc := "()V" } : Jvm.MethodName) jdk_38_method_2_code (1 : Nat) (Option.none : Option Jvm.ClassFile.FieldType), Jvm.Cond.code ({ cls := "java/util/AbstractList", name := "<init>", desc := "()V" } : Jvm.MethodName) jdk_39_method_1_code (1 : Nat) (Option.none : Option Jvm.ClassFile.FieldType), Jvm.Cond.code ({ cls := "java/util/AbstractCollection", name := "<init>", desc := "()V" } : Jvm.MethodName) jdk_22_method_1_code (1 : Nat) (Option.none : Option Jvm.ClassFile.FieldType), Jvm.Cond.code ({ cls := "java/util/ArrayList", name := "add", desc := "(Ljava/lang/Object;)Z" } : Jvm.MethodName) jdk_38_method_25_code (2 : Nat) (Option.some Jvm.ClassFile.FieldType.boolean), Jvm.Cond.code ({ cls := "java/util/ArrayList", name := "add", desc := "(Ljava/lang/Object;[Ljava/lang/Object;I)V" } : Jvm.MethodName) jdk_38_method_24_code (4 : Nat) (Option.none : Option Jvm.ClassFile.FieldType), Jvm.Cond.code ({ cls := "java/util/ArrayList", name := "grow", desc := "()[Ljava/lang/Object;" } : Jvm.MethodName) jdk_38_method_7_code (1 : Nat) (Option.some (Jvm.ClassFile.FieldType.array (Jvm.ClassFile.FieldType.object "java/lang/Object"))), Jvm.Cond.code ({ cls := "java/util/ArrayList", name := "grow", desc := "(I)[Ljava/lang/Object;" } : Jvm.MethodName) jdk_38_method_6_code (4 : Nat) (Option.some (Jvm.ClassFile.FieldType.array (Jvm.ClassFile.FieldType.object "java/lang/Object"))), Jvm.Cond.code ({ cls := "java/lang/Math", name := "max", desc := "(II)I" } : Jvm.MethodName) jdk_29_method_65_code (2 : Nat) (Option.some Jvm.ClassFile.FieldType.int), Jvm.Cond.code ({ cls := "com/example/jitney/jitney/Instance", name := "<init>", desc := "(Ljava/lang/String;IDIDLjava/util/List;)V" } : Jvm.MethodName) prog_5_method_1_code (9 : Nat) (Option.none : Option Jvm.ClassFile.FieldType), Jvm.Cond.code ({ cls := "java/util/ArrayList", name := "isEmpty", desc := "()Z" } : Jvm.MethodName) jdk_38_method_9_code (1 : Nat) (Option.some Jvm.ClassFile.FieldType.boolean), Jvm.Cond.code ({ cls := "java/util/List", name := "copyOf", desc := "(Ljava/util/Collection;)Ljava/util/List;" } : Jvm.MethodName) jdk_40_method_48_code (1 : Nat) (Option.some (Jvm.ClassFile.FieldType.object "java/util/List")), Jvm.Cond.code ({ cls := "java/util/ImmutableCollections", name := "listCopy", desc := "(Ljava/util/Collection;)Ljava/util/List;" } : Jvm.MethodName) jdk_56_method_3_code (2 : Nat) (Option.some (Jvm.ClassFile.FieldType.object "java/util/List")), Jvm.Cond.code ({ cls := "java/util/ArrayList", name := "toArray", desc := "()[Ljava/lang/Object;" } : Jvm.MethodName) jdk_38_method_16_code (1 : Nat) (Option.some (Jvm.ClassFile.FieldType.array (Jvm.ClassFile.FieldType.object "java/lang/Object"))), Jvm.Cond.code ({ cls := "java/util/Arrays", name := "copyOf", desc := "([Ljava/lang/Object;I)[Ljava/lang/Object;" } : Jvm.MethodName) jdk_65_method_119_code (2 : Nat) (Option.some (Jvm.ClassFile.FieldType.array (Jvm.ClassFile.FieldType.object "java/lang/Object"))), Jvm.Cond.code ({ cls := "java/util/Arrays", name := "copyOf", desc := "([Ljava/lang/Object;ILjava/lang/Class;)[Ljava/lang/Object;" } : Jvm.MethodName) jdk_65_method_120_code (4 : Nat) (Option.some (Jvm.ClassFile.FieldType.array (Jvm.ClassFile.FieldType.object "java/lang/Object"))), Jvm.Cond.code ({ cls := "java/lang/Math", name := "min", desc := "(II)I" } : Jvm.MethodName) jdk_29_method_69_code (2 : Nat) (Option.some Jvm.ClassFile.FieldType.int), Jvm.Cond.code ({ cls := "java/util/List", name := "of", desc := "([Ljava/lang/Object;)Ljava/util/List;" } : Jvm.MethodName) jdk_40_method_47_code (2 : Nat) (Option.some (Jvm.ClassFile.FieldType.object "java/util/List")), Jvm.Cond.code ({ cls := "java/util/ImmutableCollections$List12", name := "<init>", desc := "(Ljava/lang/Object;)V" } : Jvm.MethodName) jdk_44_method_1_code (2 : Nat) (Option.none : Option Jvm.ClassFile.FieldType), Jvm.Cond.code ({ cls := "java/util/ImmutableCollections$AbstractImmutableList", name := "<init>", desc := "()V" } : Jvm.MethodName) jdk_46_method_1_code (1 : Nat) (Option.none : Option Jvm.ClassFile.FieldType), Jvm.Cond.code ({ cls := "java/util/ImmutableCollections$AbstractImmutableCollection", name := "<init>", desc := "()V" } : Jvm.MethodName) jdk_47_method_1_code (1 : Nat) (Option.none : Option Jvm.ClassFile.FieldType), Jvm.Cond.code ({ cls := "java/util/Objects", name := "requireNonNull", desc := "(Ljava/lang/Object;)Ljava/lang/Object;" } : Jvm.MethodName) jdk_31_method_10_code (1 : Nat) (Option.some (Jvm.ClassFile.FieldType.object "java/lang/Object")), Jvm.Cond.code ({ cls := "java/util/ArrayList", name := "size", desc := "()I" } : Jvm.MethodName) jdk_38_method_8_code (1 : Nat) (Option.some Jvm.ClassFile.FieldType.int), Jvm.Cond.code ({ cls := "com/example/jitney/jitney/Instance", name := "isPickup", desc := "(I)Z" } : Jvm.MethodName) prog_5_method_11_code (2 : Nat) (Option.some Jvm.ClassFile.FieldType.boolean), Jvm.Cond.code ({ cls := "java/util/ImmutableCollections$List12", name := "<init>", desc := "(Ljava/lang/Object;Ljava/lang/Object;)V" } : Jvm.MethodName) jdk_44_method_2_code (3 : Nat) (Option.none : Option Jvm.ClassFile.FieldType), Jvm.Cond.code ({ cls := "java/util/ImmutableCollections", name := "listFromArray", desc := "([Ljava/lang/Object;)Ljava/util/List;" } : Jvm.MethodName) jdk_56_method_4_code (3 : Nat) (Option.some (Jvm.ClassFile.FieldType.object "java/util/List")), Jvm.Cond.code ({ cls := "java/util/ImmutableCollections$ListN", name := "<init>", desc := "([Ljava/lang/Object;Z)V" } : Jvm.MethodName) jdk_45_method_1_code (3 : Nat) (Option.none : Option Jvm.ClassFile.FieldType)]
set_option maxRecDepth 65536 in
theorem codes_eq : words1.filter isCode = codes1 := rfl
theorem w_codes : ∀ c ∈ words1.filter isCode, c.before args0 about1 = true := by
  rw [codes_eq]
  intro c hc
  simp only [codes1, List.mem_cons, List.not_mem_nil, or_false] at hc
  rcases hc with rfl | rfl | rfl | rfl | rfl | rfl | rfl | rfl | rfl | rfl | rfl | rfl | rfl | rfl | rfl | rfl | rfl | rfl | rfl | rfl | rfl | rfl | rfl | rfl | rfl | rfl | rfl | rfl | rfl | rfl
  · exact w_c0
  · exact w_c1
  · exact w_c2
  · exact w_c3
  · exact w_c4
  · exact w_c5
  · exact w_c6
  · exact w_c7
  · exact w_c8
  · exact w_c9
  · exact w_c10
  · exact w_c11
  · exact w_c12
  · exact w_c13
  · exact w_c14
  · exact w_c15
  · exact w_c16
  · exact w_c17
  · exact w_c18
  · exact w_c19
  · exact w_c20
  · exact w_c21
  · exact w_c22
  · exact w_c23
  · exact w_c24
  · exact w_c25
  · exact w_c26
  · exact w_c27
  · exact w_c28
  · exact w_c29
set_option maxRecDepth 65536 in
theorem w_t1 : (words1.take 24).all (fun c => isCode c || c.before args0 about1) = true := by decide +kernel
set_option maxRecDepth 65536 in
theorem w_t2 : ((words1.drop 24).take 24).all (fun c => isCode c || c.before args0 about1) = true := by decide +kernel
set_option maxRecDepth 65536 in
theorem w_t3 : (((words1.drop 24).drop 24).take 24).all (fun c => isCode c || c.before args0 about1) = true := by decide +kernel
set_option maxRecDepth 65536 in
theorem w_t4 : ((((words1.drop 24).drop 24).drop 24).take 24).all (fun c => isCode c || c.before args0 about1) = true := by decide +kernel
set_option maxRecDepth 65536 in
theorem w_t5 : (((((words1.drop 24).drop 24).drop 24).drop 24).take 24).all (fun c => isCode c || c.before args0 about1) = true := by decide +kernel
set_option maxRecDepth 65536 in
theorem w_t6 : ((((((words1.drop 24).drop 24).drop 24).drop 24).drop 24).take 24).all (fun c => isCode c || c.before args0 about1) = true := by decide +kernel
set_option maxRecDepth 65536 in
theorem w_t7 : (((((((words1.drop 24).drop 24).drop 24).drop 24).drop 24).drop 24).take 24).all (fun c => isCode c || c.before args0 about1) = true := by decide +kernel
set_option maxRecDepth 65536 in
theorem w_t8 : ((((((((words1.drop 24).drop 24).drop 24).drop 24).drop 24).drop 24).drop 24).take 24).all (fun c => isCode c || c.before args0 about1) = true := by decide +kernel
set_option maxRecDepth 65536 in
theorem w_t9 : (((((((((words1.drop 24).drop 24).drop 24).drop 24).drop 24).drop 24).drop 24).drop 24).take 24).all (fun c => isCode c || c.before args0 about1) = true := by decide +kernel
set_option maxRecDepth 65536 in
theorem w_t10 : (((((((((words1.drop 24).drop 24).drop 24).drop 24).drop 24).drop 24).drop 24).drop 24).drop 24).all (fun c => isCode c || c.before args0 about1) = true := by decide +kernel
theorem w_tables : (allAtoms (Jvm.Cond.code x code maxLocals ret :: tables_1)).before args0 about1 = true := by
  rw [allAtoms_all]
  show words1.all (fun c => c.before args0 about1) = true
  refine all_split ?_ w_codes
  rw [← List.take_append_drop 24 words1, List.all_append, w_t1, ← List.take_append_drop 24 (words1.drop 24), List.all_append, w_t2, ← List.take_append_drop 24 ((words1.drop 24).drop 24), List.all_append, w_t3, ← List.take_append_drop 24 (((words1.drop 24).drop 24).drop 24), List.all_append, w_t4, ← List.take_append_drop 24 ((((words1.drop 24).drop 24).drop 24).drop 24), List.all_append, w_t5, ← List.take_append_drop 24 (((((words1.drop 24).drop 24).drop 24).drop 24).drop 24), List.all_append, w_t6, ← List.take_append_drop 24 ((((((words1.drop 24).drop 24).drop 24).drop 24).drop 24).drop 24), List.all_append, w_t7, ← List.take_append_drop 24 (((((((words1.drop 24).drop 24).drop 24).drop 24).drop 24).drop 24).drop 24), List.all_append, w_t8, ← List.take_append_drop 24 ((((((((words1.drop 24).drop 24).drop 24).drop 24).drop 24).drop 24).drop 24).drop 24), List.all_append, w_t9, w_t10]
  rfl
set_option maxRecDepth 65536 in
theorem w_rest : rest_1_c.before args0 about1 = true := by decide +kernel
set_option maxRecDepth 65536 in
theorem w_case : (Jvm.Cond.and given_1 narrow_1).before args0 about1 = true := by decide +kernel
theorem w_applies : (headSpec (Jvm.Cond.code x code maxLocals ret :: tables_1) room_1).applies x e0.platform about1 = true :=
  (Spec.applies_iff w_frames).mpr ⟨w_running, w_runnable, w_alone, w_named, w_hears, w_ripe, w_room, w_tables⟩
theorem atStart : AtStart classFile x code maxLocals ret World_1 tables_1 room_1 Calls_1 rest_1 Pre_1 launch0 p0 e0 about1 theMethod args0 below0 :=
  ⟨lists_1, trivial, launch0.admits_env _ _ _, launch0.least_env, fairChoices_fair.cas, fairChoices_fair.clock, w_frames, w_args, w_heap, w_applies, ⟨⟨34, k34, 2, by decide +kernel, rfl, rfl, _, rfl, rfl⟩, trivial⟩, w_rest, w_case⟩
end start1
theorem witness_1 : WitnessClaimed_1 := ⟨start1.p0, start1.e0, start1.about1, start1.theMethod, start1.args0, start1.below0, start1.atStart⟩
end Jvm.Pilot.@@N@@
