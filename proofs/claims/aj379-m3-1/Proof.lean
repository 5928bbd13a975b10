import JvmDerived
import JvmDerived.Pilot.@@N@@Statement
import JvmDerived.Pilot.@@N@@Code
set_option linter.unusedVariables false
set_option linter.unusedSimpArgs false
@@BLOCK:NumsL.lean.txt@@
namespace Jvm.Pilot.@@N@@
open Jvm Jvm.ClassFile Sem Op Lib Jvm.Free Jvm.Stand Jvm.LawKit Jvm.RoadKit Bundle Jvm.Pilot.@@N@@.Jvm.D
theorem own_mvMN {Z s : State} {a0 args : Array Value} {own host : String} {index : Nat} {y : MethodName} (hZ : Z.Warmed39 s.vm) (w : (Jvm.Cond.methodLinkNest own index y host).before a0 Z = true) : (Jvm.Cond.methodLinkNest own index y host).before args s = true := (Cond.methodLinkNest_wide hZ w :)
theorem own_selP {Z s : State} {a0 args : Array Value} {y : MethodName} {n : Nat} (hZ : Z.Warmed39 s.vm) (wi : (Jvm.Cond.instantiable y.cls n).before a0 Z = true) (wp : (Jvm.Cond.privateMethod y).before a0 Z = true) (wm : (Jvm.Cond.instanceMethod y).before a0 Z = true) (hy : y.cls ≠ "java/lang/invoke/MethodHandle" ∧ y.cls ≠ "java/lang/invoke/VarHandle") : (Jvm.Cond.selects y.cls y y).before args s = true := by
  obtain ⟨c, k, h1, h2, -, h4, -⟩ := Cond.instantiable_spec (mvT (args := args) hZ wi)
  exact selects_self_of_private h1 h2 (by cases hh : k.isInterface <;> simp [hh] at h4 ⊢) (Cond.privateMethod_at (mvP hZ wp (args := #[]))) (mvT hZ wm) hy
theorem own_szO {Z : State} {n0 : Nat} {h : Heap} (O : Old Z n0 h) : n0 ≤ h.size := O.1 ▸ O.2.1
theorem pn_0 : plainName "com/example/dewey/dewey/EncodingCheck" = true := by first | (simp [plainName, overriddenIn]; done) | decide +kernel
theorem pn_1 : plainName "com/example/dewey/dewey/EncodingCheckSkipPinLaw" = true := by first | (simp [plainName, overriddenIn]; done) | decide +kernel
theorem pd_0 : parseMethodDescriptor "([BII)V" = some ⟨[(.array .byte), .int, .int], none⟩ := by decide +kernel
theorem pd_1 : parseMethodDescriptor "([BI)Lcom/example/dewey/dewey/EncodingCheck$Rule;" = some ⟨[(.array .byte), .int], some (.object "com/example/dewey/dewey/EncodingCheck$Rule")⟩ := by decide +kernel
theorem pd_2 : parseMethodDescriptor "()V" = some ⟨[], none⟩ := by decide +kernel
theorem pd_3 : parseMethodDescriptor "(J)V" = some ⟨[.long], none⟩ := by decide +kernel
theorem d_prog_23_method_10_0 : decode prog_23_method_10_code 0 = .ok (.iload_n 2, 1) := by decide +kernel
theorem d_prog_23_method_10_1 : decode prog_23_method_10_code 1 = .ok (.istore 4, 2) := by decide +kernel
theorem d_prog_23_method_10_3 : decode prog_23_method_10_code 3 = .ok (.iload 4, 2) := by decide +kernel
theorem d_prog_23_method_10_5 : decode prog_23_method_10_code 5 = .ok (.iload_n 3, 1) := by decide +kernel
theorem d_prog_23_method_10_6 : decode prog_23_method_10_code 6 = .ok (.if_icmp .ge 318, 3) := by decide +kernel
theorem d_prog_23_method_10_9 : decode prog_23_method_10_code 9 = .ok (.aload_n 1, 1) := by decide +kernel
theorem d_prog_23_method_10_10 : decode prog_23_method_10_code 10 = .ok (.iload 4, 2) := by decide +kernel
theorem d_prog_23_method_10_12 : decode prog_23_method_10_code 12 = .ok (.baload, 1) := by decide +kernel
theorem d_prog_23_method_10_13 : decode prog_23_method_10_code 13 = .ok (.sipush 255, 3) := by decide +kernel
theorem d_prog_23_method_10_16 : decode prog_23_method_10_code 16 = .ok (.iand, 1) := by decide +kernel
theorem d_prog_23_method_10_17 : decode prog_23_method_10_code 17 = .ok (.istore 5, 2) := by decide +kernel
theorem d_prog_23_method_10_19 : decode prog_23_method_10_code 19 = .ok (.aload_n 0, 1) := by decide +kernel
theorem d_prog_23_method_10_20 : decode prog_23_method_10_code 20 = .ok (.getfield 46, 3) := by decide +kernel
theorem d_prog_23_method_10_23 : decode prog_23_method_10_code 23 = .ok (.ifCond .le 92, 3) := by decide +kernel
theorem d_prog_23_method_10_26 : decode prog_23_method_10_code 26 = .ok (.iload 5, 2) := by decide +kernel
theorem d_prog_23_method_10_28 : decode prog_23_method_10_code 28 = .ok (.aload_n 0, 1) := by decide +kernel
theorem d_prog_23_method_10_29 : decode prog_23_method_10_code 29 = .ok (.getfield 22, 3) := by decide +kernel
theorem d_prog_23_method_10_32 : decode prog_23_method_10_code 32 = .ok (.if_icmp .lt 12, 3) := by decide +kernel
theorem d_prog_23_method_10_35 : decode prog_23_method_10_code 35 = .ok (.iload 5, 2) := by decide +kernel
theorem d_prog_23_method_10_37 : decode prog_23_method_10_code 37 = .ok (.aload_n 0, 1) := by decide +kernel
theorem d_prog_23_method_10_38 : decode prog_23_method_10_code 38 = .ok (.getfield 26, 3) := by decide +kernel
theorem d_prog_23_method_10_41 : decode prog_23_method_10_code 41 = .ok (.if_icmp .le 27, 3) := by decide +kernel
theorem d_prog_23_method_10_68 : decode prog_23_method_10_code 68 = .ok (.aload_n 0, 1) := by decide +kernel
theorem d_prog_23_method_10_69 : decode prog_23_method_10_code 69 = .ok (.getfield 29, 3) := by decide +kernel
theorem d_prog_23_method_10_72 : decode prog_23_method_10_code 72 = .ok (.aload_n 0, 1) := by decide +kernel
theorem d_prog_23_method_10_73 : decode prog_23_method_10_code 73 = .ok (.dup, 1) := by decide +kernel
theorem d_prog_23_method_10_74 : decode prog_23_method_10_code 74 = .ok (.getfield 49, 3) := by decide +kernel
theorem d_prog_23_method_10_77 : decode prog_23_method_10_code 77 = .ok (.dup_x1, 1) := by decide +kernel
theorem d_prog_23_method_10_78 : decode prog_23_method_10_code 78 = .ok (.iconst 1, 1) := by decide +kernel
theorem d_prog_23_method_10_79 : decode prog_23_method_10_code 79 = .ok (.iadd, 1) := by decide +kernel
theorem d_prog_23_method_10_80 : decode prog_23_method_10_code 80 = .ok (.putfield 49, 3) := by decide +kernel
theorem d_prog_23_method_10_83 : decode prog_23_method_10_code 83 = .ok (.aload_n 1, 1) := by decide +kernel
theorem d_prog_23_method_10_84 : decode prog_23_method_10_code 84 = .ok (.iload 4, 2) := by decide +kernel
theorem d_prog_23_method_10_86 : decode prog_23_method_10_code 86 = .ok (.baload, 1) := by decide +kernel
theorem d_prog_23_method_10_87 : decode prog_23_method_10_code 87 = .ok (.bastore, 1) := by decide +kernel
theorem d_prog_23_method_10_88 : decode prog_23_method_10_code 88 = .ok (.aload_n 0, 1) := by decide +kernel
theorem d_prog_23_method_10_89 : decode prog_23_method_10_code 89 = .ok (.dup, 1) := by decide +kernel
theorem d_prog_23_method_10_90 : decode prog_23_method_10_code 90 = .ok (.getfield 46, 3) := by decide +kernel
theorem d_prog_23_method_10_93 : decode prog_23_method_10_code 93 = .ok (.iconst 1, 1) := by decide +kernel
theorem d_prog_23_method_10_94 : decode prog_23_method_10_code 94 = .ok (.isub, 1) := by decide +kernel
theorem d_prog_23_method_10_95 : decode prog_23_method_10_code 95 = .ok (.putfield 46, 3) := by decide +kernel
theorem d_prog_23_method_10_98 : decode prog_23_method_10_code 98 = .ok (.aload_n 0, 1) := by decide +kernel
theorem d_prog_23_method_10_99 : decode prog_23_method_10_code 99 = .ok (.sipush 128, 3) := by decide +kernel
theorem d_prog_23_method_10_102 : decode prog_23_method_10_code 102 = .ok (.putfield 22, 3) := by decide +kernel
theorem d_prog_23_method_10_105 : decode prog_23_method_10_code 105 = .ok (.aload_n 0, 1) := by decide +kernel
theorem d_prog_23_method_10_106 : decode prog_23_method_10_code 106 = .ok (.sipush 191, 3) := by decide +kernel
theorem d_prog_23_method_10_109 : decode prog_23_method_10_code 109 = .ok (.putfield 26, 3) := by decide +kernel
theorem d_prog_23_method_10_112 : decode prog_23_method_10_code 112 = .ok (.goto 206, 3) := by decide +kernel
theorem d_prog_23_method_10_115 : decode prog_23_method_10_code 115 = .ok (.iload 5, 2) := by decide +kernel
theorem d_prog_23_method_10_117 : decode prog_23_method_10_code 117 = .ok (.sipush 128, 3) := by decide +kernel
theorem d_prog_23_method_10_120 : decode prog_23_method_10_code 120 = .ok (.if_icmp .ge 6, 3) := by decide +kernel
theorem d_prog_23_method_10_123 : decode prog_23_method_10_code 123 = .ok (.goto 195, 3) := by decide +kernel
theorem d_prog_23_method_10_126 : decode prog_23_method_10_code 126 = .ok (.aload_n 0, 1) := by decide +kernel
theorem d_prog_23_method_10_127 : decode prog_23_method_10_code 127 = .ok (.aload_n 0, 1) := by decide +kernel
theorem d_prog_23_method_10_128 : decode prog_23_method_10_code 128 = .ok (.getfield 42, 3) := by decide +kernel
theorem d_prog_23_method_10_131 : decode prog_23_method_10_code 131 = .ok (.iload 4, 2) := by decide +kernel
theorem d_prog_23_method_10_133 : decode prog_23_method_10_code 133 = .ok (.i2l, 1) := by decide +kernel
theorem d_prog_23_method_10_134 : decode prog_23_method_10_code 134 = .ok (.ladd, 1) := by decide +kernel
theorem d_prog_23_method_10_135 : decode prog_23_method_10_code 135 = .ok (.iload_n 2, 1) := by decide +kernel
theorem d_prog_23_method_10_136 : decode prog_23_method_10_code 136 = .ok (.i2l, 1) := by decide +kernel
theorem d_prog_23_method_10_137 : decode prog_23_method_10_code 137 = .ok (.lsub, 1) := by decide +kernel
theorem d_prog_23_method_10_138 : decode prog_23_method_10_code 138 = .ok (.putfield 57, 3) := by decide +kernel
theorem d_prog_23_method_10_141 : decode prog_23_method_10_code 141 = .ok (.aload_n 0, 1) := by decide +kernel
theorem d_prog_23_method_10_142 : decode prog_23_method_10_code 142 = .ok (.getfield 29, 3) := by decide +kernel
theorem d_prog_23_method_10_145 : decode prog_23_method_10_code 145 = .ok (.iconst 0, 1) := by decide +kernel
theorem d_prog_23_method_10_146 : decode prog_23_method_10_code 146 = .ok (.aload_n 1, 1) := by decide +kernel
theorem d_prog_23_method_10_147 : decode prog_23_method_10_code 147 = .ok (.iload 4, 2) := by decide +kernel
theorem d_prog_23_method_10_149 : decode prog_23_method_10_code 149 = .ok (.baload, 1) := by decide +kernel
theorem d_prog_23_method_10_150 : decode prog_23_method_10_code 150 = .ok (.bastore, 1) := by decide +kernel
theorem d_prog_23_method_10_151 : decode prog_23_method_10_code 151 = .ok (.aload_n 0, 1) := by decide +kernel
theorem d_prog_23_method_10_152 : decode prog_23_method_10_code 152 = .ok (.iconst 1, 1) := by decide +kernel
theorem d_prog_23_method_10_153 : decode prog_23_method_10_code 153 = .ok (.putfield 49, 3) := by decide +kernel
theorem d_prog_23_method_10_156 : decode prog_23_method_10_code 156 = .ok (.iload 5, 2) := by decide +kernel
theorem d_prog_23_method_10_158 : decode prog_23_method_10_code 158 = .ok (.sipush 194, 3) := by decide +kernel
theorem d_prog_23_method_10_161 : decode prog_23_method_10_code 161 = .ok (.if_icmp .lt 19, 3) := by decide +kernel
theorem d_prog_23_method_10_164 : decode prog_23_method_10_code 164 = .ok (.iload 5, 2) := by decide +kernel
theorem d_prog_23_method_10_166 : decode prog_23_method_10_code 166 = .ok (.sipush 223, 3) := by decide +kernel
theorem d_prog_23_method_10_169 : decode prog_23_method_10_code 169 = .ok (.if_icmp .gt 11, 3) := by decide +kernel
theorem d_prog_23_method_10_172 : decode prog_23_method_10_code 172 = .ok (.aload_n 0, 1) := by decide +kernel
theorem d_prog_23_method_10_173 : decode prog_23_method_10_code 173 = .ok (.iconst 1, 1) := by decide +kernel
theorem d_prog_23_method_10_174 : decode prog_23_method_10_code 174 = .ok (.putfield 46, 3) := by decide +kernel
theorem d_prog_23_method_10_177 : decode prog_23_method_10_code 177 = .ok (.goto 141, 3) := by decide +kernel
theorem d_prog_23_method_10_180 : decode prog_23_method_10_code 180 = .ok (.iload 5, 2) := by decide +kernel
theorem d_prog_23_method_10_182 : decode prog_23_method_10_code 182 = .ok (.sipush 224, 3) := by decide +kernel
theorem d_prog_23_method_10_185 : decode prog_23_method_10_code 185 = .ok (.if_icmp .lt 61, 3) := by decide +kernel
theorem d_prog_23_method_10_188 : decode prog_23_method_10_code 188 = .ok (.iload 5, 2) := by decide +kernel
theorem d_prog_23_method_10_190 : decode prog_23_method_10_code 190 = .ok (.sipush 239, 3) := by decide +kernel
theorem d_prog_23_method_10_193 : decode prog_23_method_10_code 193 = .ok (.if_icmp .gt 53, 3) := by decide +kernel
theorem d_prog_23_method_10_196 : decode prog_23_method_10_code 196 = .ok (.aload_n 0, 1) := by decide +kernel
theorem d_prog_23_method_10_197 : decode prog_23_method_10_code 197 = .ok (.iconst 2, 1) := by decide +kernel
theorem d_prog_23_method_10_198 : decode prog_23_method_10_code 198 = .ok (.putfield 46, 3) := by decide +kernel
theorem d_prog_23_method_10_201 : decode prog_23_method_10_code 201 = .ok (.aload_n 0, 1) := by decide +kernel
theorem d_prog_23_method_10_202 : decode prog_23_method_10_code 202 = .ok (.iload 5, 2) := by decide +kernel
theorem d_prog_23_method_10_204 : decode prog_23_method_10_code 204 = .ok (.sipush 224, 3) := by decide +kernel
theorem d_prog_23_method_10_207 : decode prog_23_method_10_code 207 = .ok (.if_icmp .ne 9, 3) := by decide +kernel
theorem d_prog_23_method_10_210 : decode prog_23_method_10_code 210 = .ok (.sipush 160, 3) := by decide +kernel
theorem d_prog_23_method_10_213 : decode prog_23_method_10_code 213 = .ok (.goto 6, 3) := by decide +kernel
theorem d_prog_23_method_10_216 : decode prog_23_method_10_code 216 = .ok (.sipush 128, 3) := by decide +kernel
theorem d_prog_23_method_10_219 : decode prog_23_method_10_code 219 = .ok (.putfield 22, 3) := by decide +kernel
theorem d_prog_23_method_10_222 : decode prog_23_method_10_code 222 = .ok (.aload_n 0, 1) := by decide +kernel
theorem d_prog_23_method_10_223 : decode prog_23_method_10_code 223 = .ok (.iload 5, 2) := by decide +kernel
theorem d_prog_23_method_10_225 : decode prog_23_method_10_code 225 = .ok (.sipush 237, 3) := by decide +kernel
theorem d_prog_23_method_10_228 : decode prog_23_method_10_code 228 = .ok (.if_icmp .ne 9, 3) := by decide +kernel
theorem d_prog_23_method_10_231 : decode prog_23_method_10_code 231 = .ok (.sipush 159, 3) := by decide +kernel
theorem d_prog_23_method_10_234 : decode prog_23_method_10_code 234 = .ok (.goto 6, 3) := by decide +kernel
theorem d_prog_23_method_10_237 : decode prog_23_method_10_code 237 = .ok (.sipush 191, 3) := by decide +kernel
theorem d_prog_23_method_10_240 : decode prog_23_method_10_code 240 = .ok (.putfield 26, 3) := by decide +kernel
theorem d_prog_23_method_10_243 : decode prog_23_method_10_code 243 = .ok (.goto 75, 3) := by decide +kernel
theorem d_prog_23_method_10_246 : decode prog_23_method_10_code 246 = .ok (.iload 5, 2) := by decide +kernel
theorem d_prog_23_method_10_248 : decode prog_23_method_10_code 248 = .ok (.sipush 240, 3) := by decide +kernel
theorem d_prog_23_method_10_251 : decode prog_23_method_10_code 251 = .ok (.if_icmp .lt 61, 3) := by decide +kernel
theorem d_prog_23_method_10_254 : decode prog_23_method_10_code 254 = .ok (.iload 5, 2) := by decide +kernel
theorem d_prog_23_method_10_256 : decode prog_23_method_10_code 256 = .ok (.sipush 244, 3) := by decide +kernel
theorem d_prog_23_method_10_259 : decode prog_23_method_10_code 259 = .ok (.if_icmp .gt 53, 3) := by decide +kernel
theorem d_prog_23_method_10_262 : decode prog_23_method_10_code 262 = .ok (.aload_n 0, 1) := by decide +kernel
theorem d_prog_23_method_10_263 : decode prog_23_method_10_code 263 = .ok (.iconst 3, 1) := by decide +kernel
theorem d_prog_23_method_10_264 : decode prog_23_method_10_code 264 = .ok (.putfield 46, 3) := by decide +kernel
theorem d_prog_23_method_10_267 : decode prog_23_method_10_code 267 = .ok (.aload_n 0, 1) := by decide +kernel
theorem d_prog_23_method_10_268 : decode prog_23_method_10_code 268 = .ok (.iload 5, 2) := by decide +kernel
theorem d_prog_23_method_10_270 : decode prog_23_method_10_code 270 = .ok (.sipush 240, 3) := by decide +kernel
theorem d_prog_23_method_10_273 : decode prog_23_method_10_code 273 = .ok (.if_icmp .ne 9, 3) := by decide +kernel
theorem d_prog_23_method_10_276 : decode prog_23_method_10_code 276 = .ok (.sipush 144, 3) := by decide +kernel
theorem d_prog_23_method_10_279 : decode prog_23_method_10_code 279 = .ok (.goto 6, 3) := by decide +kernel
theorem d_prog_23_method_10_282 : decode prog_23_method_10_code 282 = .ok (.sipush 128, 3) := by decide +kernel
theorem d_prog_23_method_10_285 : decode prog_23_method_10_code 285 = .ok (.putfield 22, 3) := by decide +kernel
theorem d_prog_23_method_10_288 : decode prog_23_method_10_code 288 = .ok (.aload_n 0, 1) := by decide +kernel
theorem d_prog_23_method_10_289 : decode prog_23_method_10_code 289 = .ok (.iload 5, 2) := by decide +kernel
theorem d_prog_23_method_10_291 : decode prog_23_method_10_code 291 = .ok (.sipush 244, 3) := by decide +kernel
theorem d_prog_23_method_10_294 : decode prog_23_method_10_code 294 = .ok (.if_icmp .ne 9, 3) := by decide +kernel
theorem d_prog_23_method_10_297 : decode prog_23_method_10_code 297 = .ok (.sipush 143, 3) := by decide +kernel
theorem d_prog_23_method_10_300 : decode prog_23_method_10_code 300 = .ok (.goto 6, 3) := by decide +kernel
theorem d_prog_23_method_10_303 : decode prog_23_method_10_code 303 = .ok (.sipush 191, 3) := by decide +kernel
theorem d_prog_23_method_10_306 : decode prog_23_method_10_code 306 = .ok (.putfield 26, 3) := by decide +kernel
theorem d_prog_23_method_10_309 : decode prog_23_method_10_code 309 = .ok (.goto 9, 3) := by decide +kernel
theorem d_prog_23_method_10_318 : decode prog_23_method_10_code 318 = .ok (.iinc 4 1, 3) := by decide +kernel
theorem d_prog_23_method_10_321 : decode prog_23_method_10_code 321 = .ok (.goto (-318), 3) := by decide +kernel
theorem d_prog_23_method_10_324 : decode prog_23_method_10_code 324 = .ok (.return_, 1) := by decide +kernel
theorem d_prog_23_method_1_0 : decode prog_23_method_1_code 0 = .ok (.aload_n 0, 1) := by decide +kernel
theorem d_prog_23_method_1_1 : decode prog_23_method_1_code 1 = .ok (.invokespecial 1, 3) := by decide +kernel
theorem d_prog_23_method_1_4 : decode prog_23_method_1_code 4 = .ok (.aload_n 0, 1) := by decide +kernel
theorem d_prog_23_method_1_5 : decode prog_23_method_1_code 5 = .ok (.iconst 4, 1) := by decide +kernel
theorem d_prog_23_method_1_6 : decode prog_23_method_1_code 6 = .ok (.newarray .byte, 2) := by decide +kernel
theorem d_prog_23_method_1_8 : decode prog_23_method_1_code 8 = .ok (.putfield 9, 3) := by decide +kernel
theorem d_prog_23_method_1_11 : decode prog_23_method_1_code 11 = .ok (.aload_n 0, 1) := by decide +kernel
theorem d_prog_23_method_1_12 : decode prog_23_method_1_code 12 = .ok (.getstatic 13, 3) := by decide +kernel
theorem d_prog_23_method_1_15 : decode prog_23_method_1_code 15 = .ok (.putfield 19, 3) := by decide +kernel
theorem d_prog_23_method_1_18 : decode prog_23_method_1_code 18 = .ok (.aload_n 0, 1) := by decide +kernel
theorem d_prog_23_method_1_19 : decode prog_23_method_1_code 19 = .ok (.sipush 128, 3) := by decide +kernel
theorem d_prog_23_method_1_22 : decode prog_23_method_1_code 22 = .ok (.putfield 22, 3) := by decide +kernel
theorem d_prog_23_method_1_25 : decode prog_23_method_1_code 25 = .ok (.aload_n 0, 1) := by decide +kernel
theorem d_prog_23_method_1_26 : decode prog_23_method_1_code 26 = .ok (.sipush 191, 3) := by decide +kernel
theorem d_prog_23_method_1_29 : decode prog_23_method_1_code 29 = .ok (.putfield 26, 3) := by decide +kernel
theorem d_prog_23_method_1_32 : decode prog_23_method_1_code 32 = .ok (.aload_n 0, 1) := by decide +kernel
theorem d_prog_23_method_1_33 : decode prog_23_method_1_code 33 = .ok (.iconst 4, 1) := by decide +kernel
theorem d_prog_23_method_1_34 : decode prog_23_method_1_code 34 = .ok (.newarray .byte, 2) := by decide +kernel
theorem d_prog_23_method_1_36 : decode prog_23_method_1_code 36 = .ok (.putfield 29, 3) := by decide +kernel
theorem d_prog_23_method_1_39 : decode prog_23_method_1_code 39 = .ok (.return_, 1) := by decide +kernel
theorem d_prog_23_method_2_0 : decode prog_23_method_2_code 0 = .ok (.aload_n 0, 1) := by decide +kernel
theorem d_prog_23_method_2_1 : decode prog_23_method_2_code 1 = .ok (.getfield 19, 3) := by decide +kernel
theorem d_prog_23_method_2_4 : decode prog_23_method_2_code 4 = .ok (.getstatic 13, 3) := by decide +kernel
theorem d_prog_23_method_2_7 : decode prog_23_method_2_code 7 = .ok (.if_acmp .ne 54, 3) := by decide +kernel
theorem d_prog_23_method_2_10 : decode prog_23_method_2_code 10 = .ok (.iload_n 2, 1) := by decide +kernel
theorem d_prog_23_method_2_11 : decode prog_23_method_2_code 11 = .ok (.iload_n 3, 1) := by decide +kernel
theorem d_prog_23_method_2_12 : decode prog_23_method_2_code 12 = .ok (.if_icmp .ge 36, 3) := by decide +kernel
theorem d_prog_23_method_2_15 : decode prog_23_method_2_code 15 = .ok (.aload_n 0, 1) := by decide +kernel
theorem d_prog_23_method_2_16 : decode prog_23_method_2_code 16 = .ok (.getfield 32, 3) := by decide +kernel
theorem d_prog_23_method_2_19 : decode prog_23_method_2_code 19 = .ok (.iconst 4, 1) := by decide +kernel
theorem d_prog_23_method_2_20 : decode prog_23_method_2_code 20 = .ok (.if_icmp .ge 28, 3) := by decide +kernel
theorem d_prog_23_method_2_23 : decode prog_23_method_2_code 23 = .ok (.aload_n 0, 1) := by decide +kernel
theorem d_prog_23_method_2_24 : decode prog_23_method_2_code 24 = .ok (.getfield 9, 3) := by decide +kernel
theorem d_prog_23_method_2_27 : decode prog_23_method_2_code 27 = .ok (.aload_n 0, 1) := by decide +kernel
theorem d_prog_23_method_2_28 : decode prog_23_method_2_code 28 = .ok (.dup, 1) := by decide +kernel
theorem d_prog_23_method_2_29 : decode prog_23_method_2_code 29 = .ok (.getfield 32, 3) := by decide +kernel
theorem d_prog_23_method_2_32 : decode prog_23_method_2_code 32 = .ok (.dup_x1, 1) := by decide +kernel
theorem d_prog_23_method_2_33 : decode prog_23_method_2_code 33 = .ok (.iconst 1, 1) := by decide +kernel
theorem d_prog_23_method_2_34 : decode prog_23_method_2_code 34 = .ok (.iadd, 1) := by decide +kernel
theorem d_prog_23_method_2_35 : decode prog_23_method_2_code 35 = .ok (.putfield 32, 3) := by decide +kernel
theorem d_prog_23_method_2_38 : decode prog_23_method_2_code 38 = .ok (.aload_n 1, 1) := by decide +kernel
theorem d_prog_23_method_2_39 : decode prog_23_method_2_code 39 = .ok (.iload_n 2, 1) := by decide +kernel
theorem d_prog_23_method_2_40 : decode prog_23_method_2_code 40 = .ok (.iinc 2 1, 3) := by decide +kernel
theorem d_prog_23_method_2_43 : decode prog_23_method_2_code 43 = .ok (.baload, 1) := by decide +kernel
theorem d_prog_23_method_2_44 : decode prog_23_method_2_code 44 = .ok (.bastore, 1) := by decide +kernel
theorem d_prog_23_method_2_45 : decode prog_23_method_2_code 45 = .ok (.goto (-35), 3) := by decide +kernel
theorem d_prog_23_method_2_48 : decode prog_23_method_2_code 48 = .ok (.aload_n 0, 1) := by decide +kernel
theorem d_prog_23_method_2_49 : decode prog_23_method_2_code 49 = .ok (.getfield 32, 3) := by decide +kernel
theorem d_prog_23_method_2_52 : decode prog_23_method_2_code 52 = .ok (.iconst 4, 1) := by decide +kernel
theorem d_prog_23_method_2_53 : decode prog_23_method_2_code 53 = .ok (.if_icmp .ge 4, 3) := by decide +kernel
theorem d_prog_23_method_2_57 : decode prog_23_method_2_code 57 = .ok (.aload_n 0, 1) := by decide +kernel
theorem d_prog_23_method_2_58 : decode prog_23_method_2_code 58 = .ok (.invokevirtual 35, 3) := by decide +kernel
theorem d_prog_23_method_2_61 : decode prog_23_method_2_code 61 = .ok (.aload_n 0, 1) := by decide +kernel
theorem d_prog_23_method_2_62 : decode prog_23_method_2_code 62 = .ok (.aload_n 1, 1) := by decide +kernel
theorem d_prog_23_method_2_63 : decode prog_23_method_2_code 63 = .ok (.iload_n 2, 1) := by decide +kernel
theorem d_prog_23_method_2_64 : decode prog_23_method_2_code 64 = .ok (.iload_n 3, 1) := by decide +kernel
theorem d_prog_23_method_2_65 : decode prog_23_method_2_code 65 = .ok (.invokevirtual 38, 3) := by decide +kernel
theorem d_prog_23_method_2_68 : decode prog_23_method_2_code 68 = .ok (.return_, 1) := by decide +kernel
theorem d_prog_23_method_3_0 : decode prog_23_method_3_code 0 = .ok (.aload_n 0, 1) := by decide +kernel
theorem d_prog_23_method_3_1 : decode prog_23_method_3_code 1 = .ok (.dup, 1) := by decide +kernel
theorem d_prog_23_method_3_2 : decode prog_23_method_3_code 2 = .ok (.getfield 42, 3) := by decide +kernel
theorem d_prog_23_method_3_5 : decode prog_23_method_3_code 5 = .ok (.lload_n 1, 1) := by decide +kernel
theorem d_prog_23_method_3_6 : decode prog_23_method_3_code 6 = .ok (.ladd, 1) := by decide +kernel
theorem d_prog_23_method_3_7 : decode prog_23_method_3_code 7 = .ok (.putfield 42, 3) := by decide +kernel
theorem d_prog_23_method_3_10 : decode prog_23_method_3_code 10 = .ok (.aload_n 0, 1) := by decide +kernel
theorem d_prog_23_method_3_11 : decode prog_23_method_3_code 11 = .ok (.iconst 0, 1) := by decide +kernel
theorem d_prog_23_method_3_12 : decode prog_23_method_3_code 12 = .ok (.putfield 46, 3) := by decide +kernel
theorem d_prog_23_method_3_15 : decode prog_23_method_3_code 15 = .ok (.aload_n 0, 1) := by decide +kernel
theorem d_prog_23_method_3_16 : decode prog_23_method_3_code 16 = .ok (.iconst 0, 1) := by decide +kernel
theorem d_prog_23_method_3_17 : decode prog_23_method_3_code 17 = .ok (.putfield 49, 3) := by decide +kernel
theorem d_prog_23_method_3_20 : decode prog_23_method_3_code 20 = .ok (.return_, 1) := by decide +kernel
theorem d_prog_23_method_4_0 : decode prog_23_method_4_code 0 = .ok (.aload_n 0, 1) := by decide +kernel
theorem d_prog_23_method_4_1 : decode prog_23_method_4_code 1 = .ok (.getfield 19, 3) := by decide +kernel
theorem d_prog_23_method_4_4 : decode prog_23_method_4_code 4 = .ok (.getstatic 13, 3) := by decide +kernel
theorem d_prog_23_method_4_7 : decode prog_23_method_4_code 7 = .ok (.if_acmp .ne 7, 3) := by decide +kernel
theorem d_prog_23_method_4_14 : decode prog_23_method_4_code 14 = .ok (.aload_n 0, 1) := by decide +kernel
theorem d_prog_23_method_4_15 : decode prog_23_method_4_code 15 = .ok (.getfield 19, 3) := by decide +kernel
theorem d_prog_23_method_4_18 : decode prog_23_method_4_code 18 = .ok (.getstatic 52, 3) := by decide +kernel
theorem d_prog_23_method_4_21 : decode prog_23_method_4_code 21 = .ok (.if_acmp .ne 38, 3) := by decide +kernel
theorem d_prog_23_method_4_24 : decode prog_23_method_4_code 24 = .ok (.aload_n 0, 1) := by decide +kernel
theorem d_prog_23_method_4_25 : decode prog_23_method_4_code 25 = .ok (.getfield 46, 3) := by decide +kernel
theorem d_prog_23_method_4_28 : decode prog_23_method_4_code 28 = .ok (.ifCond .le 31, 3) := by decide +kernel
theorem d_prog_23_method_4_59 : decode prog_23_method_4_code 59 = .ok (.aload_n 0, 1) := by decide +kernel
theorem d_prog_23_method_4_60 : decode prog_23_method_4_code 60 = .ok (.getfield 19, 3) := by decide +kernel
theorem d_prog_23_method_4_63 : decode prog_23_method_4_code 63 = .ok (.getstatic 71, 3) := by decide +kernel
theorem d_prog_23_method_4_66 : decode prog_23_method_4_code 66 = .ok (.if_acmp .ne 32, 3) := by decide +kernel
theorem d_prog_23_method_4_69 : decode prog_23_method_4_code 69 = .ok (.aload_n 0, 1) := by decide +kernel
theorem d_prog_23_method_4_70 : decode prog_23_method_4_code 70 = .ok (.getfield 42, 3) := by decide +kernel
theorem d_prog_23_method_4_73 : decode prog_23_method_4_code 73 = .ok (.ldc2_w 74, 3) := by decide +kernel
theorem d_prog_23_method_4_76 : decode prog_23_method_4_code 76 = .ok (.lrem, 1) := by decide +kernel
theorem d_prog_23_method_4_77 : decode prog_23_method_4_code 77 = .ok (.lconst 0, 1) := by decide +kernel
theorem d_prog_23_method_4_78 : decode prog_23_method_4_code 78 = .ok (.lcmp, 1) := by decide +kernel
theorem d_prog_23_method_4_79 : decode prog_23_method_4_code 79 = .ok (.ifCond .eq 19, 3) := by decide +kernel
theorem d_prog_23_method_4_98 : decode prog_23_method_4_code 98 = .ok (.return_, 1) := by decide +kernel
theorem d_prog_23_method_7_0 : decode prog_23_method_7_code 0 = .ok (.aload_n 0, 1) := by decide +kernel
theorem d_prog_23_method_7_1 : decode prog_23_method_7_code 1 = .ok (.aload_n 0, 1) := by decide +kernel
theorem d_prog_23_method_7_2 : decode prog_23_method_7_code 2 = .ok (.getfield 9, 3) := by decide +kernel
theorem d_prog_23_method_7_5 : decode prog_23_method_7_code 5 = .ok (.aload_n 0, 1) := by decide +kernel
theorem d_prog_23_method_7_6 : decode prog_23_method_7_code 6 = .ok (.getfield 32, 3) := by decide +kernel
theorem d_prog_23_method_7_9 : decode prog_23_method_7_code 9 = .ok (.invokestatic 114, 3) := by decide +kernel
theorem d_prog_23_method_7_12 : decode prog_23_method_7_code 12 = .ok (.putfield 19, 3) := by decide +kernel
theorem d_prog_23_method_7_15 : decode prog_23_method_7_code 15 = .ok (.aload_n 0, 1) := by decide +kernel
theorem d_prog_23_method_7_16 : decode prog_23_method_7_code 16 = .ok (.aload_n 0, 1) := by decide +kernel
theorem d_prog_23_method_7_17 : decode prog_23_method_7_code 17 = .ok (.getfield 9, 3) := by decide +kernel
theorem d_prog_23_method_7_20 : decode prog_23_method_7_code 20 = .ok (.iconst 0, 1) := by decide +kernel
theorem d_prog_23_method_7_21 : decode prog_23_method_7_code 21 = .ok (.aload_n 0, 1) := by decide +kernel
theorem d_prog_23_method_7_22 : decode prog_23_method_7_code 22 = .ok (.getfield 32, 3) := by decide +kernel
theorem d_prog_23_method_7_25 : decode prog_23_method_7_code 25 = .ok (.invokevirtual 38, 3) := by decide +kernel
theorem d_prog_23_method_7_28 : decode prog_23_method_7_code 28 = .ok (.return_, 1) := by decide +kernel
theorem d_prog_23_method_8_0 : decode prog_23_method_8_code 0 = .ok (.iload_n 1, 1) := by decide +kernel
theorem d_prog_23_method_8_1 : decode prog_23_method_8_code 1 = .ok (.ifCond .le 13, 3) := by decide +kernel
theorem d_prog_23_method_8_4 : decode prog_23_method_8_code 4 = .ok (.aload_n 0, 1) := by decide +kernel
theorem d_prog_23_method_8_5 : decode prog_23_method_8_code 5 = .ok (.iconst 0, 1) := by decide +kernel
theorem d_prog_23_method_8_6 : decode prog_23_method_8_code 6 = .ok (.baload, 1) := by decide +kernel
theorem d_prog_23_method_8_7 : decode prog_23_method_8_code 7 = .ok (.sipush 255, 3) := by decide +kernel
theorem d_prog_23_method_8_10 : decode prog_23_method_8_code 10 = .ok (.iand, 1) := by decide +kernel
theorem d_prog_23_method_8_11 : decode prog_23_method_8_code 11 = .ok (.goto 4, 3) := by decide +kernel
theorem d_prog_23_method_8_15 : decode prog_23_method_8_code 15 = .ok (.istore_n 2, 1) := by decide +kernel
theorem d_prog_23_method_8_16 : decode prog_23_method_8_code 16 = .ok (.iload_n 1, 1) := by decide +kernel
theorem d_prog_23_method_8_17 : decode prog_23_method_8_code 17 = .ok (.iconst 1, 1) := by decide +kernel
theorem d_prog_23_method_8_18 : decode prog_23_method_8_code 18 = .ok (.if_icmp .le 13, 3) := by decide +kernel
theorem d_prog_23_method_8_21 : decode prog_23_method_8_code 21 = .ok (.aload_n 0, 1) := by decide +kernel
theorem d_prog_23_method_8_22 : decode prog_23_method_8_code 22 = .ok (.iconst 1, 1) := by decide +kernel
theorem d_prog_23_method_8_23 : decode prog_23_method_8_code 23 = .ok (.baload, 1) := by decide +kernel
theorem d_prog_23_method_8_24 : decode prog_23_method_8_code 24 = .ok (.sipush 255, 3) := by decide +kernel
theorem d_prog_23_method_8_27 : decode prog_23_method_8_code 27 = .ok (.iand, 1) := by decide +kernel
theorem d_prog_23_method_8_28 : decode prog_23_method_8_code 28 = .ok (.goto 4, 3) := by decide +kernel
theorem d_prog_23_method_8_32 : decode prog_23_method_8_code 32 = .ok (.istore_n 3, 1) := by decide +kernel
theorem d_prog_23_method_8_33 : decode prog_23_method_8_code 33 = .ok (.iload_n 2, 1) := by decide +kernel
theorem d_prog_23_method_8_34 : decode prog_23_method_8_code 34 = .ok (.sipush 254, 3) := by decide +kernel
theorem d_prog_23_method_8_37 : decode prog_23_method_8_code 37 = .ok (.if_icmp .ne 10, 3) := by decide +kernel
theorem d_prog_23_method_8_40 : decode prog_23_method_8_code 40 = .ok (.iload_n 3, 1) := by decide +kernel
theorem d_prog_23_method_8_41 : decode prog_23_method_8_code 41 = .ok (.sipush 255, 3) := by decide +kernel
theorem d_prog_23_method_8_44 : decode prog_23_method_8_code 44 = .ok (.if_icmp .eq 17, 3) := by decide +kernel
theorem d_prog_23_method_8_47 : decode prog_23_method_8_code 47 = .ok (.iload_n 2, 1) := by decide +kernel
theorem d_prog_23_method_8_48 : decode prog_23_method_8_code 48 = .ok (.sipush 255, 3) := by decide +kernel
theorem d_prog_23_method_8_51 : decode prog_23_method_8_code 51 = .ok (.if_icmp .ne 14, 3) := by decide +kernel
theorem d_prog_23_method_8_54 : decode prog_23_method_8_code 54 = .ok (.iload_n 3, 1) := by decide +kernel
theorem d_prog_23_method_8_55 : decode prog_23_method_8_code 55 = .ok (.sipush 254, 3) := by decide +kernel
theorem d_prog_23_method_8_58 : decode prog_23_method_8_code 58 = .ok (.if_icmp .ne 7, 3) := by decide +kernel
theorem d_prog_23_method_8_61 : decode prog_23_method_8_code 61 = .ok (.getstatic 71, 3) := by decide +kernel
theorem d_prog_23_method_8_64 : decode prog_23_method_8_code 64 = .ok (.areturn, 1) := by decide +kernel
theorem d_prog_23_method_8_65 : decode prog_23_method_8_code 65 = .ok (.iload_n 1, 1) := by decide +kernel
theorem d_prog_23_method_8_66 : decode prog_23_method_8_code 66 = .ok (.iconst 4, 1) := by decide +kernel
theorem d_prog_23_method_8_67 : decode prog_23_method_8_code 67 = .ok (.if_icmp .ge 7, 3) := by decide +kernel
theorem d_prog_23_method_8_74 : decode prog_23_method_8_code 74 = .ok (.iload_n 2, 1) := by decide +kernel
theorem d_prog_23_method_8_75 : decode prog_23_method_8_code 75 = .ok (.bipush 24, 2) := by decide +kernel
theorem d_prog_23_method_8_77 : decode prog_23_method_8_code 77 = .ok (.ishl, 1) := by decide +kernel
theorem d_prog_23_method_8_78 : decode prog_23_method_8_code 78 = .ok (.iload_n 3, 1) := by decide +kernel
theorem d_prog_23_method_8_79 : decode prog_23_method_8_code 79 = .ok (.bipush 16, 2) := by decide +kernel
theorem d_prog_23_method_8_81 : decode prog_23_method_8_code 81 = .ok (.ishl, 1) := by decide +kernel
theorem d_prog_23_method_8_82 : decode prog_23_method_8_code 82 = .ok (.ior, 1) := by decide +kernel
theorem d_prog_23_method_8_83 : decode prog_23_method_8_code 83 = .ok (.aload_n 0, 1) := by decide +kernel
theorem d_prog_23_method_8_84 : decode prog_23_method_8_code 84 = .ok (.iconst 2, 1) := by decide +kernel
theorem d_prog_23_method_8_85 : decode prog_23_method_8_code 85 = .ok (.baload, 1) := by decide +kernel
theorem d_prog_23_method_8_86 : decode prog_23_method_8_code 86 = .ok (.sipush 255, 3) := by decide +kernel
theorem d_prog_23_method_8_89 : decode prog_23_method_8_code 89 = .ok (.iand, 1) := by decide +kernel
theorem d_prog_23_method_8_90 : decode prog_23_method_8_code 90 = .ok (.bipush 8, 2) := by decide +kernel
theorem d_prog_23_method_8_92 : decode prog_23_method_8_code 92 = .ok (.ishl, 1) := by decide +kernel
theorem d_prog_23_method_8_93 : decode prog_23_method_8_code 93 = .ok (.ior, 1) := by decide +kernel
theorem d_prog_23_method_8_94 : decode prog_23_method_8_code 94 = .ok (.aload_n 0, 1) := by decide +kernel
theorem d_prog_23_method_8_95 : decode prog_23_method_8_code 95 = .ok (.iconst 3, 1) := by decide +kernel
theorem d_prog_23_method_8_96 : decode prog_23_method_8_code 96 = .ok (.baload, 1) := by decide +kernel
theorem d_prog_23_method_8_97 : decode prog_23_method_8_code 97 = .ok (.sipush 255, 3) := by decide +kernel
theorem d_prog_23_method_8_100 : decode prog_23_method_8_code 100 = .ok (.iand, 1) := by decide +kernel
theorem d_prog_23_method_8_101 : decode prog_23_method_8_code 101 = .ok (.ior, 1) := by decide +kernel
theorem d_prog_23_method_8_102 : decode prog_23_method_8_code 102 = .ok (.istore 4, 2) := by decide +kernel
theorem d_prog_23_method_8_104 : decode prog_23_method_8_code 104 = .ok (.iload 4, 2) := by decide +kernel
theorem d_prog_23_method_8_106 : decode prog_23_method_8_code 106 = .ok (.lookupswitch 74 #[(60, 66), (15360, 66), (3932160, 66), (3932223, 70), (1006632960, 66), (1006649088, 70), (1282385812, 66)], 66) := by decide +kernel
theorem d_prog_23_method_8_180 : decode prog_23_method_8_code 180 = .ok (.getstatic 52, 3) := by decide +kernel
theorem d_prog_23_method_8_183 : decode prog_23_method_8_code 183 = .ok (.areturn, 1) := by decide +kernel
theorem d_prog_23_method_9_0 : decode prog_23_method_9_code 0 = .ok (.aload_n 0, 1) := by decide +kernel
theorem d_prog_23_method_9_1 : decode prog_23_method_9_code 1 = .ok (.getfield 19, 3) := by decide +kernel
theorem d_prog_23_method_9_4 : decode prog_23_method_9_code 4 = .ok (.getstatic 52, 3) := by decide +kernel
theorem d_prog_23_method_9_7 : decode prog_23_method_9_code 7 = .ok (.if_acmp .ne 13, 3) := by decide +kernel
theorem d_prog_23_method_9_10 : decode prog_23_method_9_code 10 = .ok (.aload_n 0, 1) := by decide +kernel
theorem d_prog_23_method_9_11 : decode prog_23_method_9_code 11 = .ok (.aload_n 1, 1) := by decide +kernel
theorem d_prog_23_method_9_12 : decode prog_23_method_9_code 12 = .ok (.iload_n 2, 1) := by decide +kernel
theorem d_prog_23_method_9_13 : decode prog_23_method_9_code 13 = .ok (.iload_n 3, 1) := by decide +kernel
theorem d_prog_23_method_9_14 : decode prog_23_method_9_code 14 = .ok (.invokevirtual 118, 3) := by decide +kernel
theorem d_prog_23_method_9_17 : decode prog_23_method_9_code 17 = .ok (.goto 66, 3) := by decide +kernel
theorem d_prog_23_method_9_20 : decode prog_23_method_9_code 20 = .ok (.aload_n 0, 1) := by decide +kernel
theorem d_prog_23_method_9_21 : decode prog_23_method_9_code 21 = .ok (.getfield 19, 3) := by decide +kernel
theorem d_prog_23_method_9_24 : decode prog_23_method_9_code 24 = .ok (.getstatic 99, 3) := by decide +kernel
theorem d_prog_23_method_9_27 : decode prog_23_method_9_code 27 = .ok (.if_acmp .ne 56, 3) := by decide +kernel
theorem d_prog_23_method_9_83 : decode prog_23_method_9_code 83 = .ok (.aload_n 0, 1) := by decide +kernel
theorem d_prog_23_method_9_84 : decode prog_23_method_9_code 84 = .ok (.dup, 1) := by decide +kernel
theorem d_prog_23_method_9_85 : decode prog_23_method_9_code 85 = .ok (.getfield 42, 3) := by decide +kernel
theorem d_prog_23_method_9_88 : decode prog_23_method_9_code 88 = .ok (.iload_n 3, 1) := by decide +kernel
theorem d_prog_23_method_9_89 : decode prog_23_method_9_code 89 = .ok (.iload_n 2, 1) := by decide +kernel
theorem d_prog_23_method_9_90 : decode prog_23_method_9_code 90 = .ok (.isub, 1) := by decide +kernel
theorem d_prog_23_method_9_91 : decode prog_23_method_9_code 91 = .ok (.i2l, 1) := by decide +kernel
theorem d_prog_23_method_9_92 : decode prog_23_method_9_code 92 = .ok (.ladd, 1) := by decide +kernel
theorem d_prog_23_method_9_93 : decode prog_23_method_9_code 93 = .ok (.putfield 42, 3) := by decide +kernel
theorem d_prog_23_method_9_96 : decode prog_23_method_9_code 96 = .ok (.return_, 1) := by decide +kernel
theorem own_i8 (x : Int32) : (x.toInt8.toInt32).toInt = x.toInt.bmod 256 := by rw [Int8.toInt_toInt32, Int32.toInt_toInt8]
theorem own_mask8 (x : Int32) : (x &&& 255).toInt = x.toInt % 2 ^ 8 := Jvm.Kit.i32_mask x 255 (k := 8) (by decide) (by decide)
theorem own_nb (x : Int32) : (nar .byte x) &&& 255 = x &&& 255 := by
  apply Int32.toInt_inj.mp
  rw [own_mask8, own_mask8]
  have e : (nar .byte x).toInt = x.toInt.bmod 256 := own_i8 x
  have := Int.bmod_emod (x := x.toInt) (m := 256)
  rw [e]; omega
theorem own_b255 {x : Int32} (h : 0 ≤ x.toInt ∧ x.toInt < 256) : (nar .byte (x.toInt8.toInt32)) &&& 255 = x := by
  rw [own_nb]
  have e2 := own_nb x
  rw [show nar .byte x = x.toInt8.toInt32 from rfl] at e2
  rw [e2]
  apply Int32.toInt_inj.mp
  rw [own_mask8]; omega
theorem own_lead {p x : Int32} (h : x = ((194 : Int32) + ((p &&& (2147483647 : Int32)) - ((p &&& (2147483647 : Int32)) / (51 : Int32)) * (51 : Int32)))) : ¬ x < 194 ∧ ¬ (244 : Int32) < x := by
  have e : (p &&& 2147483647).toInt = p.toInt % 2 ^ 31 := Jvm.Kit.i32_mask p 2147483647 (k := 31) (by decide) (by decide)
  have r := rem_toInt (p &&& 2147483647) 51
  have h51 : (51 : Int32).toInt = 51 := by decide
  have h194 : (194 : Int32).toInt = 194 := by decide
  have h244 : (244 : Int32).toInt = 244 := by decide
  rw [h51] at r
  generalize (p &&& (2147483647 : Int32)) - ((p &&& (2147483647 : Int32)) / (51 : Int32)) * (51 : Int32) = q at *
  have r2 : q.toInt = (p &&& 2147483647).toInt % 51 := by rw [r]; exact Int.tmod_eq_emod_of_nonneg (by omega)
  have r3 : ((194 : Int32) + q).toInt = (194 : Int32).toInt + q.toInt := Jvm.Kit.i32_add (by omega) (by omega)
  rw [Int32.lt_iff_toInt_lt, Int32.lt_iff_toInt_lt, h, r3]; omega
theorem own_ldb {x : Int32} (h : ¬ x < 194 ∧ ¬ (244 : Int32) < x) : 0 ≤ x.toInt ∧ x.toInt < 256 := by
  rw [Int32.lt_iff_toInt_lt, Int32.lt_iff_toInt_lt] at h
  have h194 : (194 : Int32).toInt = 194 := by decide
  have h244 : (244 : Int32).toInt = 244 := by decide
  omega
theorem own_ge {x : Int32} {k n : Int32} (h : ¬ x < k) (hk : n.toInt ≤ k.toInt) : ¬ x < n := by
  rw [Int32.lt_iff_toInt_lt] at *; omega
theorem own_gt {x : Int32} {k n : Int32} (h : ¬ x < k) (hk : n.toInt < k.toInt) : n < x := by
  rw [Int32.lt_iff_toInt_lt] at *; omega
theorem own_gt' {x : Int32} {k n : Int32} (h : k < x) (hk : n.toInt ≤ k.toInt + 1) : ¬ x < n := by
  rw [Int32.lt_iff_toInt_lt] at *; omega
theorem own_and3 (p : Int32) : (p &&& 3) = 0 ∨ (p &&& 3) = 1 ∨ (p &&& 3) = 2 ∨ (p &&& 3) = 3 := by
  have e : (p &&& 3).toInt = p.toInt % 2 ^ 2 := Jvm.Kit.i32_mask p 3 (k := 2) (by decide) (by decide)
  have h0 : (0 : Int32).toInt = 0 := by decide
  have h1 : (1 : Int32).toInt = 1 := by decide
  have h2 : (2 : Int32).toInt = 2 := by decide
  have h3 : (3 : Int32).toInt = 3 := by decide
  rw [← Int32.toInt_inj, ← Int32.toInt_inj, ← Int32.toInt_inj, ← Int32.toInt_inj]; omega
theorem own_p3 {p ld nn jj p3 : Int32} (hn : nn = (if ld < (224 : Int32) then (1 : Int32) else (if ld < (240 : Int32) then (2 : Int32) else (3 : Int32)))) (hj : jj = ((p &&& (3 : Int32)) - ((p &&& (3 : Int32)) / nn) * nn)) (h : p3 = ((5 : Int32) + jj)) : p3 = 5 ∨ (p3 = 6 ∧ ¬ ld < 224) ∨ (p3 = 7 ∧ ¬ ld < 240) := by
  subst h hj
  by_cases c1 : ld < 224
  · rw [if_pos c1] at hn; subst hn
    rcases own_and3 p with h | h | h | h <;> rw [h] <;> exact Or.inl (by decide)
  · rw [if_neg c1] at hn
    by_cases c2 : ld < 240
    · rw [if_pos c2] at hn; subst hn
      rcases own_and3 p with h | h | h | h <;> rw [h]
      · exact Or.inl (by decide)
      · exact Or.inr (Or.inl ⟨by decide, c1⟩)
      · exact Or.inl (by decide)
      · exact Or.inr (Or.inl ⟨by decide, c1⟩)
    · rw [if_neg c2] at hn; subst hn
      rcases own_and3 p with h | h | h | h <;> rw [h]
      · exact Or.inl (by decide)
      · exact Or.inr (Or.inl ⟨by decide, c1⟩)
      · exact Or.inr (Or.inr ⟨by decide, c2⟩)
      · exact Or.inl (by decide)
theorem own_nn {ld nn : Int32} (hn : nn = (if ld < (224 : Int32) then (1 : Int32) else (if ld < (240 : Int32) then (2 : Int32) else (3 : Int32)))) : nn ≠ 0 := by
  rw [hn]; split
  · decide
  · split <;> decide
theorem own_c1b {ld c1 : Int32} (h : c1 = (if ld = (224 : Int32) then (160 : Int32) else (if ld = (240 : Int32) then (144 : Int32) else (128 : Int32)))) : 0 ≤ c1.toInt ∧ c1.toInt < 256 := by
  rw [h]; split
  · decide
  · split <;> decide
theorem own_asc (p : Int32) : ((nar .byte ((p &&& (127 : Int32)).toInt8.toInt32)) &&& (255 : Int32)) < (128 : Int32) := by
  have e : (p &&& 127).toInt = p.toInt % 2 ^ 7 := Jvm.Kit.i32_mask p 127 (k := 7) (by decide) (by decide)
  have h128 : (128 : Int32).toInt = 128 := by decide
  rw [own_b255 (by omega), Int32.lt_iff_toInt_lt]; omega
theorem own_even (q : Int64) : (((((0 : Int64) + ((4 : Int32) - (0 : Int32)).toInt64) + ((4 : Int32) - (4 : Int32)).toInt64) + q) + ((q &&& (1 : Int64)).toInt32 - (0 : Int32)).toInt64) - ((((((0 : Int64) + ((4 : Int32) - (0 : Int32)).toInt64) + ((4 : Int32) - (4 : Int32)).toInt64) + q) + ((q &&& (1 : Int64)).toInt32 - (0 : Int32)).toInt64) / (2 : Int64)) * (2 : Int64) = (0 : Int64) := by
  have e1 : (q &&& 1).toInt = q.toInt % 2 ^ 1 := Jvm.Kit.i64_mask q 1 (k := 1) (by decide) (by decide)
  have e2 : (q &&& 1).toInt32.toInt = (q &&& 1).toInt := Jvm.Kit.i32_of_i64 (by omega) (by omega)
  have h0 : (0 : Int32).toInt = 0 := by decide
  have e3 : ((q &&& 1).toInt32 - (0 : Int32)).toInt = (q &&& 1).toInt32.toInt - (0 : Int32).toInt := Jvm.Kit.i32_sub (by omega) (by omega)
  have e4 : ((q &&& 1).toInt32 - (0 : Int32)).toInt64.toInt = ((q &&& 1).toInt32 - (0 : Int32)).toInt := Jvm.Kit.i64_of_i32 _
  have k : (((0 : Int64) + ((4 : Int32) - (0 : Int32)).toInt64) + ((4 : Int32) - (4 : Int32)).toInt64) = 4 := by decide
  rw [k]
  have h4 : (4 : Int64).toInt = 4 := by decide
  have a1 := c_ladd (4 : Int64) q
  have a2 := c_ladd ((4 : Int64) + q) ((q &&& 1).toInt32 - (0 : Int32)).toInt64
  have r := Jvm.Kit.i64_rem (x := (((4 : Int64) + q) + ((q &&& 1).toInt32 - (0 : Int32)).toInt64)) (y := 2)
  generalize hT : (((4 : Int64) + q) + ((q &&& 1).toInt32 - (0 : Int32)).toInt64) = T at *
  have h2 : (2 : Int64).toInt = 2 := by decide
  have hz : (0 : Int64).toInt = 0 := by decide
  have ev : T.toInt % 2 = 0 := by omega
  apply Int64.toInt_inj.mp
  rw [r, h2, hz]
  exact Int.tmod_eq_zero_of_dvd (Int.dvd_of_emod_eq_zero ev)
theorem ef_sh16 (m : MethodId) (a1 : Addr) : entryFrame m #[(.ref a1), (.int (4 : Int32))] 5 = mkF m 0 #[.val (.ref a1), .val (.int (4 : Int32)), .unset, .unset, .unset] [] := by first | (simp [entryFrame, mkF, argsToLocals, Value.category]; done) | rfl
def Q_sh16 (Z : State) (a1 : Addr) (k1 : ClassId) (x0 : Int32) (x1 : Int32) (x2 : Int32) (x3 : Int32) (rU : Addr) (r16 : Addr) (r8 : Addr) (rA : Addr) (h0 : Heap) (n0 : Nat) (v : Option Value) (h : Heap) (L : List Loc) : Prop := v = some (.ref r16) ∧ Fr n0 L ∧ h = h0
set_option maxRecDepth 65536 in
set_option maxHeartbeats 40000000 in
theorem rm_sh16 (l : Launch) (Z : State) (a0 : Array Value) (hw : ∀ d ∈ tables_1, d.before a0 Z = true) (ws : List Jvm.Cond) (a1 : Addr) (k1 : ClassId) (x0 : Int32) (x1 : Int32) (x2 : Int32) (x3 : Int32) (rU : Addr) (r16 : Addr) (r8 : Addr) (rA : Addr) (h0 : Heap) (n0 : Nat) (O0 : Old Z n0 h0) (SrU : Sta Z Z.heap "com/example/dewey/dewey/EncodingCheck$Rule" "UNKNOWN" "Lcom/example/dewey/dewey/EncodingCheck$Rule;" (.ref rU)) (Sr16 : Sta Z Z.heap "com/example/dewey/dewey/EncodingCheck$Rule" "UTF_16" "Lcom/example/dewey/dewey/EncodingCheck$Rule;" (.ref r16)) (Sr8 : Sta Z Z.heap "com/example/dewey/dewey/EncodingCheck$Rule" "UTF_8" "Lcom/example/dewey/dewey/EncodingCheck$Rule;" (.ref r8)) (SrA : Sta Z Z.heap "com/example/dewey/dewey/EncodingCheck$Rule" "US_ASCII" "Lcom/example/dewey/dewey/EncodingCheck$Rule;" (.ref rA)) (n_rU_r16 : rU ≠ r16) (n_rU_r8 : rU ≠ r8) (n_rU_rA : rU ≠ rA) (n_r16_r8 : r16 ≠ r8) (n_r16_rA : r16 ≠ rA) (n_r8_rA : r8 ≠ rA) (VA : Arv Z h0 a1 k1 .byte (4 : Int32) [(.int x0), (.int x1), (.int x2), (.int x3)] (.int (0 : Int32))) (hxb : (x0 &&& (255 : Int32) = 254 ∧ x1 &&& (255 : Int32) = 255) ∨ (x0 &&& (255 : Int32) = 255 ∧ x1 &&& (255 : Int32) = 254)) :
    MetFree l (⟨"com/example/dewey/dewey/EncodingCheck", "shown", "([BI)Lcom/example/dewey/dewey/EncodingCheck$Rule;"⟩ : MethodName) (head1 (Jvm.Cond.code (⟨"com/example/dewey/dewey/EncodingCheck", "shown", "([BI)Lcom/example/dewey/dewey/EncodingCheck$Rule;"⟩ : MethodName) prog_23_method_8_code 5 (some (.object "com/example/dewey/dewey/EncodingCheck$Rule")) :: ws) ({ frames := 0, cells := 0, slots := 0, locals := 0 } : Room)) (fun a U => a = #[(.ref a1), (.int (4 : Int32))] ∧ Z.Warmed39 U.vm ∧ U.heap = h0) (fun _ _ _ _ _ => True) (fun _ U o U' => ∃ v L, o = .returned v ∧ Q_sh16 Z a1 k1 x0 x1 x2 x3 rU r16 r8 rA h0 n0 v U'.heap L ∧ FrameEnd U o U' L ({ frames := 0, cells := 0, slots := 0, locals := 0 } : Room).cells ({ frames := 0, cells := 0, slots := 0, locals := 0 } : Room).slots) := by
  refine MetFree.of_bodySF (plainFor_of_name pn_0) hisR ?_
  intro p e s m args below meth c s₁ Bd hml0 hP hK
  obtain ⟨rfl, hZ, hh⟩ := hP
  have hx := Bd.exec
  have hby := Bd.bytes
  have hml : c.maxLocals = 5 := hml0
  have hown : s.vm.findClass "com/example/dewey/dewey/EncodingCheck" = some m.cls := findClass_of_methodNamed Bd.named
  have hnm := (name_of_methodNamed Bd.named Bd.method).1
  have X0 : Stand p l e ({ frames := 0, cells := 0, slots := 0, locals := 0 } : Room) s m #[(.ref a1), (.int (4 : Int32))] below meth c s₁ [] 0 0 := Stand.of_body Bd
  have e0 : s₁.heap = h0 := by rw [← hh, Bd.state]; rfl
  have N0 := Fr.nil n0
  have pre0 : ∀ t, Steps p.tables e below (s₁.setTop (mkF m 0 #[.val (.ref a1), .val (.int (4 : Int32)), .unset, .unset, .unset] [])) t → Steps p.tables e below (s₁.setTop (entryFrame m #[(.ref a1), (.int (4 : Int32))] 5)) t := fun t k => castTop (ef_sh16 m a1) k
  obtain ⟨cl101, Ar101, q101, S101, Ne101, H101, G101⟩ := id VA
  have hin101 : ¬ ((0 : Int32) < 0 ∨ cl101.slots.size ≤ ((0 : Int32)).toNatClampNeg) := inb_of S101 ⟨by decide, by decide⟩
  have hat101 : cl101.slots[((0 : Int32)).toNatClampNeg]? = some (.int x0) := H101.at hin101 rfl
  obtain ⟨cl102, Ar102, q102, S102, Ne102, H102, G102⟩ := id VA
  have hin102 : ¬ ((1 : Int32) < 0 ∨ cl102.slots.size ≤ ((1 : Int32)).toNatClampNeg) := inb_of S102 ⟨by decide, by decide⟩
  have hat102 : cl102.slots[((1 : Int32)).toNatClampNeg]? = some (.int x1) := H102.at hin102 rfl
  have pre103 : ∀ t, Steps p.tables e below (s₁.setTop (mkF m 37 #[.val (.ref a1), .val (.int (4 : Int32)), .val (.int (x0 &&& (255 : Int32))), .val (.int (x1 &&& (255 : Int32))), .unset] [(.int (254 : Int32)), (.int (x0 &&& (255 : Int32)))])) t → Steps p.tables e below (s₁.setTop (entryFrame m #[(.ref a1), (.int (4 : Int32))] 5)) t := fun t kk => pre0 t (by
      show Steps p.tables e below (s₁.setTop (mkF m 0 #[.val (.ref a1), .val (.int (4 : Int32)), .unset, .unset, .unset] [])) _
      refine XS.iloadN X0.here hx rfl (hb hby d_prog_23_method_8_0) rfl ?_
      refine XS.ifNo X0.here hx rfl (hb hby d_prog_23_method_8_1) rfl ((if0 _ _).trans (tlt (by decide : (0 : Int32) < (4 : Int32))).2.2.2) ?_
      refine XS.aloadN X0.here hx rfl (hb hby d_prog_23_method_8_4) rfl rfl ?_
      refine XS.iconst X0.here hx rfl (hb hby d_prog_23_method_8_5) ?_
      show Steps p.tables e below (s₁.setTop (mkF m 6 #[.val (.ref a1), .val (.int (4 : Int32)), .unset, .unset, .unset] [(.int (0 : Int32)), (.ref a1)])) _
      refine X0.baloadBytes hx (j := (0 : Int32)) (v := (.int x0)) (by rw [e0]; exact Ar101.1) (State.isArrayOf_alike hZ.alike Ar101.2.1) Ar101.2.2 hin101 hat101 (g := (mkF m 6 #[.val (.ref a1), .val (.int (4 : Int32)), .unset, .unset, .unset] [(.int (0 : Int32)), (.ref a1)])) rfl rfl (hb hby d_prog_23_method_8_6) _ ?_
      show Steps p.tables e below (s₁.setTop (mkF m 7 #[.val (.ref a1), .val (.int (4 : Int32)), .unset, .unset, .unset] [(.int x0)])) _
      refine XS.sipush X0.here hx rfl (hb hby d_prog_23_method_8_7) ?_
      refine XS.iand X0.here hx rfl (hb hby d_prog_23_method_8_10) rfl ?_
      refine XS.goto X0.here hx rfl (pc0 := 11) (pc' := 15) rfl (hb hby d_prog_23_method_8_11) (by decide) (by decide) ?_
      refine XS.istoreN X0.here hx rfl (hb hby d_prog_23_method_8_15) rfl (l' := #[.val (.ref a1), .val (.int (4 : Int32)), .val (.int (x0 &&& (255 : Int32))), .unset, .unset]) rfl ?_
      show Steps p.tables e below (s₁.setTop (mkF m 16 #[.val (.ref a1), .val (.int (4 : Int32)), .val (.int (x0 &&& (255 : Int32))), .unset, .unset] [])) _
      refine XS.iloadN X0.here hx rfl (hb hby d_prog_23_method_8_16) rfl ?_
      refine XS.iconst X0.here hx rfl (hb hby d_prog_23_method_8_17) ?_
      refine XS.icmpNo X0.here hx rfl (hb hby d_prog_23_method_8_18) rfl (tlt (by decide : (1 : Int32) < (4 : Int32))).2.2.2 ?_
      refine XS.aloadN X0.here hx rfl (hb hby d_prog_23_method_8_21) rfl rfl ?_
      show Steps p.tables e below (s₁.setTop (mkF m 22 #[.val (.ref a1), .val (.int (4 : Int32)), .val (.int (x0 &&& (255 : Int32))), .unset, .unset] [(.ref a1)])) _
      refine XS.iconst X0.here hx rfl (hb hby d_prog_23_method_8_22) ?_
      show Steps p.tables e below (s₁.setTop (mkF m 23 #[.val (.ref a1), .val (.int (4 : Int32)), .val (.int (x0 &&& (255 : Int32))), .unset, .unset] [(.int (1 : Int32)), (.ref a1)])) _
      refine X0.baloadBytes hx (j := (1 : Int32)) (v := (.int x1)) (by rw [e0]; exact Ar102.1) (State.isArrayOf_alike hZ.alike Ar102.2.1) Ar102.2.2 hin102 hat102 (g := (mkF m 23 #[.val (.ref a1), .val (.int (4 : Int32)), .val (.int (x0 &&& (255 : Int32))), .unset, .unset] [(.int (1 : Int32)), (.ref a1)])) rfl rfl (hb hby d_prog_23_method_8_23) _ ?_
      show Steps p.tables e below (s₁.setTop (mkF m 24 #[.val (.ref a1), .val (.int (4 : Int32)), .val (.int (x0 &&& (255 : Int32))), .unset, .unset] [(.int x1)])) _
      refine XS.sipush X0.here hx rfl (hb hby d_prog_23_method_8_24) ?_
      refine XS.iand X0.here hx rfl (hb hby d_prog_23_method_8_27) rfl ?_
      refine XS.goto X0.here hx rfl (pc0 := 28) (pc' := 32) rfl (hb hby d_prog_23_method_8_28) (by decide) (by decide) ?_
      refine XS.istoreN X0.here hx rfl (hb hby d_prog_23_method_8_32) rfl (l' := #[.val (.ref a1), .val (.int (4 : Int32)), .val (.int (x0 &&& (255 : Int32))), .val (.int (x1 &&& (255 : Int32))), .unset]) rfl ?_
      show Steps p.tables e below (s₁.setTop (mkF m 33 #[.val (.ref a1), .val (.int (4 : Int32)), .val (.int (x0 &&& (255 : Int32))), .val (.int (x1 &&& (255 : Int32))), .unset] [])) _
      refine XS.iloadN X0.here hx rfl (hb hby d_prog_23_method_8_33) rfl ?_
      refine XS.sipush X0.here hx rfl (hb hby d_prog_23_method_8_34) ?_
      show Steps p.tables e below (s₁.setTop (mkF m 37 #[.val (.ref a1), .val (.int (4 : Int32)), .val (.int (x0 &&& (255 : Int32))), .val (.int (x1 &&& (255 : Int32))), .unset] [(.int (254 : Int32)), (.int (x0 &&& (255 : Int32)))])) _
      exact kk)
  by_cases hc104 : (x0 &&& (255 : Int32)) = (254 : Int32)
  · have hc105 : (x1 &&& (255 : Int32)) = (255 : Int32) := (by rcases hxb with h | h; exact h.2; exact absurd (hc104.symm.trans h.1) (by decide))
    obtain ⟨T106, X106, e106, st106⟩ := getS2 X0 hx hZ hown (host := "") (Or.inl (hw _ (List.mem_of_getElem? (i := 37) rfl))) Via.refl e0 (Sr16.ext O0.2) (g := (mkF m 61 #[.val (.ref a1), .val (.int (4 : Int32)), .val (.int (x0 &&& (255 : Int32))), .val (.int (x1 &&& (255 : Int32))), .unset] [])) rfl (hb hby d_prog_23_method_8_61)
    obtain ⟨fs, hr, hrun, hended, hW, hsame⟩ := X106.leave (v := some (.ref r16)) (fun h => by rw [Bd.returns] at h; cases h)
    refine ⟨_, _, pre103 _ ?_, hrun, hended, _, _, rfl, ?_, ⟨_, rfl⟩, hW, hsame.mono (by decide) (by decide)⟩
    · refine XS.icmpNo X0.here hx rfl (hb hby d_prog_23_method_8_37) rfl (teq hc104).2 ?_
      refine XS.iloadN X0.here hx rfl (hb hby d_prog_23_method_8_40) rfl ?_
      refine XS.sipush X0.here hx rfl (hb hby d_prog_23_method_8_41) ?_
      refine XS.icmpYes X0.here hx rfl (pc0 := 44) (pc' := 61) rfl (hb hby d_prog_23_method_8_44) rfl (teq hc105).1 (by decide) (by decide) ?_
      show Steps p.tables e below (s₁.setTop (mkF m 61 #[.val (.ref a1), .val (.int (4 : Int32)), .val (.int (x0 &&& (255 : Int32))), .val (.int (x1 &&& (255 : Int32))), .unset] [])) _
      refine st106 _ ?_
      show Steps p.tables e below (T106.setTop (mkF m 64 #[.val (.ref a1), .val (.int (4 : Int32)), .val (.int (x0 &&& (255 : Int32))), .val (.int (x1 &&& (255 : Int32))), .unset] [(.ref r16)])) _
      exact retOut X106 hx (t := (.object "com/example/dewey/dewey/EncodingCheck$Rule")) (i := .areturn) Bd.returns rfl (Or.inr (Or.inr (Or.inr (Or.inr ⟨rfl, rfl, rfl⟩)))) (hb hby d_prog_23_method_8_64) hr
    · show Q_sh16 Z a1 k1 x0 x1 x2 x3 rU r16 r8 rA h0 n0 _ T106.heap _
      rw [e106]
      exact ⟨rfl, N0, rfl⟩
  · have hc107 : (x0 &&& (255 : Int32)) = (255 : Int32) := (by rcases hxb with h | h; exact absurd h.1 hc104; exact h.1)
    have hc108 : (x1 &&& (255 : Int32)) = (254 : Int32) := (by rcases hxb with h | h; exact absurd h.1 hc104; exact h.2)
    obtain ⟨T109, X109, e109, st109⟩ := getS2 X0 hx hZ hown (host := "") (Or.inl (hw _ (List.mem_of_getElem? (i := 37) rfl))) Via.refl e0 (Sr16.ext O0.2) (g := (mkF m 61 #[.val (.ref a1), .val (.int (4 : Int32)), .val (.int (x0 &&& (255 : Int32))), .val (.int (x1 &&& (255 : Int32))), .unset] [])) rfl (hb hby d_prog_23_method_8_61)
    obtain ⟨fs, hr, hrun, hended, hW, hsame⟩ := X109.leave (v := some (.ref r16)) (fun h => by rw [Bd.returns] at h; cases h)
    refine ⟨_, _, pre103 _ ?_, hrun, hended, _, _, rfl, ?_, ⟨_, rfl⟩, hW, hsame.mono (by decide) (by decide)⟩
    · refine XS.icmpYes X0.here hx rfl (pc0 := 37) (pc' := 47) rfl (hb hby d_prog_23_method_8_37) rfl (feq hc104).2 (by decide) (by decide) ?_
      refine XS.iloadN X0.here hx rfl (hb hby d_prog_23_method_8_47) rfl ?_
      refine XS.sipush X0.here hx rfl (hb hby d_prog_23_method_8_48) ?_
      refine XS.icmpNo X0.here hx rfl (hb hby d_prog_23_method_8_51) rfl (teq hc107).2 ?_
      show Steps p.tables e below (s₁.setTop (mkF m 54 #[.val (.ref a1), .val (.int (4 : Int32)), .val (.int (x0 &&& (255 : Int32))), .val (.int (x1 &&& (255 : Int32))), .unset] [])) _
      refine XS.iloadN X0.here hx rfl (hb hby d_prog_23_method_8_54) rfl ?_
      refine XS.sipush X0.here hx rfl (hb hby d_prog_23_method_8_55) ?_
      refine XS.icmpNo X0.here hx rfl (hb hby d_prog_23_method_8_58) rfl (teq hc108).2 ?_
      show Steps p.tables e below (s₁.setTop (mkF m 61 #[.val (.ref a1), .val (.int (4 : Int32)), .val (.int (x0 &&& (255 : Int32))), .val (.int (x1 &&& (255 : Int32))), .unset] [])) _
      refine st109 _ ?_
      show Steps p.tables e below (T109.setTop (mkF m 64 #[.val (.ref a1), .val (.int (4 : Int32)), .val (.int (x0 &&& (255 : Int32))), .val (.int (x1 &&& (255 : Int32))), .unset] [(.ref r16)])) _
      exact retOut X109 hx (t := (.object "com/example/dewey/dewey/EncodingCheck$Rule")) (i := .areturn) Bd.returns rfl (Or.inr (Or.inr (Or.inr (Or.inr ⟨rfl, rfl, rfl⟩)))) (hb hby d_prog_23_method_8_64) hr
    · show Q_sh16 Z a1 k1 x0 x1 x2 x3 rU r16 r8 rA h0 n0 _ T109.heap _
      rw [e109]
      exact ⟨rfl, N0, rfl⟩
theorem ef_sh8 (m : MethodId) (a1 : Addr) : entryFrame m #[(.ref a1), (.int (4 : Int32))] 5 = mkF m 0 #[.val (.ref a1), .val (.int (4 : Int32)), .unset, .unset, .unset] [] := by first | (simp [entryFrame, mkF, argsToLocals, Value.category]; done) | rfl
def Q_sh8 (Z : State) (a1 : Addr) (k1 : ClassId) (rU : Addr) (r16 : Addr) (r8 : Addr) (rA : Addr) (h0 : Heap) (n0 : Nat) (v : Option Value) (h : Heap) (L : List Loc) : Prop := v = some (.ref r8) ∧ Fr n0 L ∧ h = h0
set_option maxRecDepth 65536 in
set_option maxHeartbeats 40000000 in
theorem rm_sh8 (l : Launch) (Z : State) (a0 : Array Value) (hw : ∀ d ∈ tables_1, d.before a0 Z = true) (ws : List Jvm.Cond) (a1 : Addr) (k1 : ClassId) (rU : Addr) (r16 : Addr) (r8 : Addr) (rA : Addr) (h0 : Heap) (n0 : Nat) (O0 : Old Z n0 h0) (SrU : Sta Z Z.heap "com/example/dewey/dewey/EncodingCheck$Rule" "UNKNOWN" "Lcom/example/dewey/dewey/EncodingCheck$Rule;" (.ref rU)) (Sr16 : Sta Z Z.heap "com/example/dewey/dewey/EncodingCheck$Rule" "UTF_16" "Lcom/example/dewey/dewey/EncodingCheck$Rule;" (.ref r16)) (Sr8 : Sta Z Z.heap "com/example/dewey/dewey/EncodingCheck$Rule" "UTF_8" "Lcom/example/dewey/dewey/EncodingCheck$Rule;" (.ref r8)) (SrA : Sta Z Z.heap "com/example/dewey/dewey/EncodingCheck$Rule" "US_ASCII" "Lcom/example/dewey/dewey/EncodingCheck$Rule;" (.ref rA)) (n_rU_r16 : rU ≠ r16) (n_rU_r8 : rU ≠ r8) (n_rU_rA : rU ≠ rA) (n_r16_r8 : r16 ≠ r8) (n_r16_rA : r16 ≠ rA) (n_r8_rA : r8 ≠ rA) (VA : Arv Z h0 a1 k1 .byte (4 : Int32) [(.int (60 : Int32)), (.int (63 : Int32)), (.int (120 : Int32)), (.int (109 : Int32))] (.int (0 : Int32))) :
    MetFree l (⟨"com/example/dewey/dewey/EncodingCheck", "shown", "([BI)Lcom/example/dewey/dewey/EncodingCheck$Rule;"⟩ : MethodName) (head1 (Jvm.Cond.code (⟨"com/example/dewey/dewey/EncodingCheck", "shown", "([BI)Lcom/example/dewey/dewey/EncodingCheck$Rule;"⟩ : MethodName) prog_23_method_8_code 5 (some (.object "com/example/dewey/dewey/EncodingCheck$Rule")) :: ws) ({ frames := 0, cells := 0, slots := 0, locals := 0 } : Room)) (fun a U => a = #[(.ref a1), (.int (4 : Int32))] ∧ Z.Warmed39 U.vm ∧ U.heap = h0) (fun _ _ _ _ _ => True) (fun _ U o U' => ∃ v L, o = .returned v ∧ Q_sh8 Z a1 k1 rU r16 r8 rA h0 n0 v U'.heap L ∧ FrameEnd U o U' L ({ frames := 0, cells := 0, slots := 0, locals := 0 } : Room).cells ({ frames := 0, cells := 0, slots := 0, locals := 0 } : Room).slots) := by
  refine MetFree.of_bodySF (plainFor_of_name pn_0) hisR ?_
  intro p e s m args below meth c s₁ Bd hml0 hP hK
  obtain ⟨rfl, hZ, hh⟩ := hP
  have hx := Bd.exec
  have hby := Bd.bytes
  have hml : c.maxLocals = 5 := hml0
  have hown : s.vm.findClass "com/example/dewey/dewey/EncodingCheck" = some m.cls := findClass_of_methodNamed Bd.named
  have hnm := (name_of_methodNamed Bd.named Bd.method).1
  have X0 : Stand p l e ({ frames := 0, cells := 0, slots := 0, locals := 0 } : Room) s m #[(.ref a1), (.int (4 : Int32))] below meth c s₁ [] 0 0 := Stand.of_body Bd
  have e0 : s₁.heap = h0 := by rw [← hh, Bd.state]; rfl
  have N0 := Fr.nil n0
  have pre0 : ∀ t, Steps p.tables e below (s₁.setTop (mkF m 0 #[.val (.ref a1), .val (.int (4 : Int32)), .unset, .unset, .unset] [])) t → Steps p.tables e below (s₁.setTop (entryFrame m #[(.ref a1), (.int (4 : Int32))] 5)) t := fun t k => castTop (ef_sh8 m a1) k
  obtain ⟨cl101, Ar101, q101, S101, Ne101, H101, G101⟩ := id VA
  have hin101 : ¬ ((0 : Int32) < 0 ∨ cl101.slots.size ≤ ((0 : Int32)).toNatClampNeg) := inb_of S101 ⟨by decide, by decide⟩
  have hat101 : cl101.slots[((0 : Int32)).toNatClampNeg]? = some (.int (60 : Int32)) := H101.at hin101 rfl
  obtain ⟨cl102, Ar102, q102, S102, Ne102, H102, G102⟩ := id VA
  have hin102 : ¬ ((1 : Int32) < 0 ∨ cl102.slots.size ≤ ((1 : Int32)).toNatClampNeg) := inb_of S102 ⟨by decide, by decide⟩
  have hat102 : cl102.slots[((1 : Int32)).toNatClampNeg]? = some (.int (63 : Int32)) := H102.at hin102 rfl
  obtain ⟨cl103, Ar103, q103, S103, Ne103, H103, G103⟩ := id VA
  have hin103 : ¬ ((2 : Int32) < 0 ∨ cl103.slots.size ≤ ((2 : Int32)).toNatClampNeg) := inb_of S103 ⟨by decide, by decide⟩
  have hat103 : cl103.slots[((2 : Int32)).toNatClampNeg]? = some (.int (120 : Int32)) := H103.at hin103 rfl
  obtain ⟨cl104, Ar104, q104, S104, Ne104, H104, G104⟩ := id VA
  have hin104 : ¬ ((3 : Int32) < 0 ∨ cl104.slots.size ≤ ((3 : Int32)).toNatClampNeg) := inb_of S104 ⟨by decide, by decide⟩
  have hat104 : cl104.slots[((3 : Int32)).toNatClampNeg]? = some (.int (109 : Int32)) := H104.at hin104 rfl
  obtain ⟨T105, X105, e105, st105⟩ := getS2 X0 hx hZ hown (host := "") (Or.inl (hw _ (List.mem_of_getElem? (i := 43) rfl))) Via.refl e0 (Sr8.ext O0.2) (g := (mkF m 180 #[.val (.ref a1), .val (.int (4 : Int32)), .val (.int (60 : Int32)), .val (.int (63 : Int32)), .val (.int (1010792557 : Int32))] [])) rfl (hb hby d_prog_23_method_8_180)
  obtain ⟨fs, hr, hrun, hended, hW, hsame⟩ := X105.leave (v := some (.ref r8)) (fun h => by rw [Bd.returns] at h; cases h)
  refine ⟨_, _, pre0 _ ?_, hrun, hended, _, _, rfl, ?_, ⟨_, rfl⟩, hW, hsame.mono (by decide) (by decide)⟩
  · show Steps p.tables e below (s₁.setTop (mkF m 0 #[.val (.ref a1), .val (.int (4 : Int32)), .unset, .unset, .unset] [])) _
    refine XS.iloadN X0.here hx rfl (hb hby d_prog_23_method_8_0) rfl ?_
    refine XS.ifNo X0.here hx rfl (hb hby d_prog_23_method_8_1) rfl ((if0 _ _).trans (tlt (by decide : (0 : Int32) < (4 : Int32))).2.2.2) ?_
    refine XS.aloadN X0.here hx rfl (hb hby d_prog_23_method_8_4) rfl rfl ?_
    refine XS.iconst X0.here hx rfl (hb hby d_prog_23_method_8_5) ?_
    show Steps p.tables e below (s₁.setTop (mkF m 6 #[.val (.ref a1), .val (.int (4 : Int32)), .unset, .unset, .unset] [(.int (0 : Int32)), (.ref a1)])) _
    refine X0.baloadBytes hx (j := (0 : Int32)) (v := (.int (60 : Int32))) (by rw [e0]; exact Ar101.1) (State.isArrayOf_alike hZ.alike Ar101.2.1) Ar101.2.2 hin101 hat101 (g := (mkF m 6 #[.val (.ref a1), .val (.int (4 : Int32)), .unset, .unset, .unset] [(.int (0 : Int32)), (.ref a1)])) rfl rfl (hb hby d_prog_23_method_8_6) _ ?_
    show Steps p.tables e below (s₁.setTop (mkF m 7 #[.val (.ref a1), .val (.int (4 : Int32)), .unset, .unset, .unset] [(.int (60 : Int32))])) _
    refine XS.sipush X0.here hx rfl (hb hby d_prog_23_method_8_7) ?_
    refine XS.iand X0.here hx rfl (hb hby d_prog_23_method_8_10) rfl ?_
    show Steps p.tables e below (s₁.setTop (mkF m 11 #[.val (.ref a1), .val (.int (4 : Int32)), .unset, .unset, .unset] [(.int ((60 : Int32) &&& (255 : Int32)))])) _
    rw [show ((60 : Int32) &&& (255 : Int32)) = (60 : Int32) from (by decide)]
    show Steps p.tables e below (s₁.setTop (mkF m 11 #[.val (.ref a1), .val (.int (4 : Int32)), .unset, .unset, .unset] [(.int (60 : Int32))])) _
    refine XS.goto X0.here hx rfl (pc0 := 11) (pc' := 15) rfl (hb hby d_prog_23_method_8_11) (by decide) (by decide) ?_
    refine XS.istoreN X0.here hx rfl (hb hby d_prog_23_method_8_15) rfl (l' := #[.val (.ref a1), .val (.int (4 : Int32)), .val (.int (60 : Int32)), .unset, .unset]) rfl ?_
    refine XS.iloadN X0.here hx rfl (hb hby d_prog_23_method_8_16) rfl ?_
    refine XS.iconst X0.here hx rfl (hb hby d_prog_23_method_8_17) ?_
    show Steps p.tables e below (s₁.setTop (mkF m 18 #[.val (.ref a1), .val (.int (4 : Int32)), .val (.int (60 : Int32)), .unset, .unset] [(.int (1 : Int32)), (.int (4 : Int32))])) _
    refine XS.icmpNo X0.here hx rfl (hb hby d_prog_23_method_8_18) rfl (tlt (by decide : (1 : Int32) < (4 : Int32))).2.2.2 ?_
    refine XS.aloadN X0.here hx rfl (hb hby d_prog_23_method_8_21) rfl rfl ?_
    refine XS.iconst X0.here hx rfl (hb hby d_prog_23_method_8_22) ?_
    show Steps p.tables e below (s₁.setTop (mkF m 23 #[.val (.ref a1), .val (.int (4 : Int32)), .val (.int (60 : Int32)), .unset, .unset] [(.int (1 : Int32)), (.ref a1)])) _
    refine X0.baloadBytes hx (j := (1 : Int32)) (v := (.int (63 : Int32))) (by rw [e0]; exact Ar102.1) (State.isArrayOf_alike hZ.alike Ar102.2.1) Ar102.2.2 hin102 hat102 (g := (mkF m 23 #[.val (.ref a1), .val (.int (4 : Int32)), .val (.int (60 : Int32)), .unset, .unset] [(.int (1 : Int32)), (.ref a1)])) rfl rfl (hb hby d_prog_23_method_8_23) _ ?_
    show Steps p.tables e below (s₁.setTop (mkF m 24 #[.val (.ref a1), .val (.int (4 : Int32)), .val (.int (60 : Int32)), .unset, .unset] [(.int (63 : Int32))])) _
    refine XS.sipush X0.here hx rfl (hb hby d_prog_23_method_8_24) ?_
    refine XS.iand X0.here hx rfl (hb hby d_prog_23_method_8_27) rfl ?_
    show Steps p.tables e below (s₁.setTop (mkF m 28 #[.val (.ref a1), .val (.int (4 : Int32)), .val (.int (60 : Int32)), .unset, .unset] [(.int ((63 : Int32) &&& (255 : Int32)))])) _
    rw [show ((63 : Int32) &&& (255 : Int32)) = (63 : Int32) from (by decide)]
    show Steps p.tables e below (s₁.setTop (mkF m 28 #[.val (.ref a1), .val (.int (4 : Int32)), .val (.int (60 : Int32)), .unset, .unset] [(.int (63 : Int32))])) _
    refine XS.goto X0.here hx rfl (pc0 := 28) (pc' := 32) rfl (hb hby d_prog_23_method_8_28) (by decide) (by decide) ?_
    refine XS.istoreN X0.here hx rfl (hb hby d_prog_23_method_8_32) rfl (l' := #[.val (.ref a1), .val (.int (4 : Int32)), .val (.int (60 : Int32)), .val (.int (63 : Int32)), .unset]) rfl ?_
    refine XS.iloadN X0.here hx rfl (hb hby d_prog_23_method_8_33) rfl ?_
    refine XS.sipush X0.here hx rfl (hb hby d_prog_23_method_8_34) ?_
    show Steps p.tables e below (s₁.setTop (mkF m 37 #[.val (.ref a1), .val (.int (4 : Int32)), .val (.int (60 : Int32)), .val (.int (63 : Int32)), .unset] [(.int (254 : Int32)), (.int (60 : Int32))])) _
    refine XS.icmpYes X0.here hx rfl (pc0 := 37) (pc' := 47) rfl (hb hby d_prog_23_method_8_37) rfl (feq (by decide : ¬ ((60 : Int32) = (254 : Int32)))).2 (by decide) (by decide) ?_
    refine XS.iloadN X0.here hx rfl (hb hby d_prog_23_method_8_47) rfl ?_
    refine XS.sipush X0.here hx rfl (hb hby d_prog_23_method_8_48) ?_
    refine XS.icmpYes X0.here hx rfl (pc0 := 51) (pc' := 65) rfl (hb hby d_prog_23_method_8_51) rfl (feq (by decide : ¬ ((60 : Int32) = (255 : Int32)))).2 (by decide) (by decide) ?_
    show Steps p.tables e below (s₁.setTop (mkF m 65 #[.val (.ref a1), .val (.int (4 : Int32)), .val (.int (60 : Int32)), .val (.int (63 : Int32)), .unset] [])) _
    refine XS.iloadN X0.here hx rfl (hb hby d_prog_23_method_8_65) rfl ?_
    refine XS.iconst X0.here hx rfl (hb hby d_prog_23_method_8_66) ?_
    refine XS.icmpYes X0.here hx rfl (pc0 := 67) (pc' := 74) rfl (hb hby d_prog_23_method_8_67) rfl (flt (by decide : ¬ ((4 : Int32) < (4 : Int32)))).2.1 (by decide) (by decide) ?_
    refine XS.iloadN X0.here hx rfl (hb hby d_prog_23_method_8_74) rfl ?_
    show Steps p.tables e below (s₁.setTop (mkF m 75 #[.val (.ref a1), .val (.int (4 : Int32)), .val (.int (60 : Int32)), .val (.int (63 : Int32)), .unset] [(.int (60 : Int32))])) _
    refine XS.bipush X0.here hx rfl (hb hby d_prog_23_method_8_75) ?_
    refine XS.ishl X0.here hx rfl (hb hby d_prog_23_method_8_77) rfl ?_
    show Steps p.tables e below (s₁.setTop (mkF m 78 #[.val (.ref a1), .val (.int (4 : Int32)), .val (.int (60 : Int32)), .val (.int (63 : Int32)), .unset] [(.int ((60 : Int32) <<< ((24 : Int32) &&& 31)))])) _
    rw [show ((60 : Int32) <<< ((24 : Int32) &&& 31)) = (1006632960 : Int32) from (by decide)]
    show Steps p.tables e below (s₁.setTop (mkF m 78 #[.val (.ref a1), .val (.int (4 : Int32)), .val (.int (60 : Int32)), .val (.int (63 : Int32)), .unset] [(.int (1006632960 : Int32))])) _
    refine XS.iloadN X0.here hx rfl (hb hby d_prog_23_method_8_78) rfl ?_
    refine XS.bipush X0.here hx rfl (hb hby d_prog_23_method_8_79) ?_
    refine XS.ishl X0.here hx rfl (hb hby d_prog_23_method_8_81) rfl ?_
    show Steps p.tables e below (s₁.setTop (mkF m 82 #[.val (.ref a1), .val (.int (4 : Int32)), .val (.int (60 : Int32)), .val (.int (63 : Int32)), .unset] [(.int ((63 : Int32) <<< ((16 : Int32) &&& 31))), (.int (1006632960 : Int32))])) _
    rw [show ((63 : Int32) <<< ((16 : Int32) &&& 31)) = (4128768 : Int32) from (by decide)]
    show Steps p.tables e below (s₁.setTop (mkF m 82 #[.val (.ref a1), .val (.int (4 : Int32)), .val (.int (60 : Int32)), .val (.int (63 : Int32)), .unset] [(.int (4128768 : Int32)), (.int (1006632960 : Int32))])) _
    refine XS.ior X0.here hx rfl (hb hby d_prog_23_method_8_82) rfl ?_
    show Steps p.tables e below (s₁.setTop (mkF m 83 #[.val (.ref a1), .val (.int (4 : Int32)), .val (.int (60 : Int32)), .val (.int (63 : Int32)), .unset] [(.int ((1006632960 : Int32) ||| (4128768 : Int32)))])) _
    rw [show ((1006632960 : Int32) ||| (4128768 : Int32)) = (1010761728 : Int32) from (by decide)]
    show Steps p.tables e below (s₁.setTop (mkF m 83 #[.val (.ref a1), .val (.int (4 : Int32)), .val (.int (60 : Int32)), .val (.int (63 : Int32)), .unset] [(.int (1010761728 : Int32))])) _
    refine XS.aloadN X0.here hx rfl (hb hby d_prog_23_method_8_83) rfl rfl ?_
    refine XS.iconst X0.here hx rfl (hb hby d_prog_23_method_8_84) ?_
    show Steps p.tables e below (s₁.setTop (mkF m 85 #[.val (.ref a1), .val (.int (4 : Int32)), .val (.int (60 : Int32)), .val (.int (63 : Int32)), .unset] [(.int (2 : Int32)), (.ref a1), (.int (1010761728 : Int32))])) _
    refine X0.baloadBytes hx (j := (2 : Int32)) (v := (.int (120 : Int32))) (by rw [e0]; exact Ar103.1) (State.isArrayOf_alike hZ.alike Ar103.2.1) Ar103.2.2 hin103 hat103 (g := (mkF m 85 #[.val (.ref a1), .val (.int (4 : Int32)), .val (.int (60 : Int32)), .val (.int (63 : Int32)), .unset] [(.int (2 : Int32)), (.ref a1), (.int (1010761728 : Int32))])) rfl rfl (hb hby d_prog_23_method_8_85) _ ?_
    show Steps p.tables e below (s₁.setTop (mkF m 86 #[.val (.ref a1), .val (.int (4 : Int32)), .val (.int (60 : Int32)), .val (.int (63 : Int32)), .unset] [(.int (120 : Int32)), (.int (1010761728 : Int32))])) _
    refine XS.sipush X0.here hx rfl (hb hby d_prog_23_method_8_86) ?_
    refine XS.iand X0.here hx rfl (hb hby d_prog_23_method_8_89) rfl ?_
    show Steps p.tables e below (s₁.setTop (mkF m 90 #[.val (.ref a1), .val (.int (4 : Int32)), .val (.int (60 : Int32)), .val (.int (63 : Int32)), .unset] [(.int ((120 : Int32) &&& (255 : Int32))), (.int (1010761728 : Int32))])) _
    rw [show ((120 : Int32) &&& (255 : Int32)) = (120 : Int32) from (by decide)]
    show Steps p.tables e below (s₁.setTop (mkF m 90 #[.val (.ref a1), .val (.int (4 : Int32)), .val (.int (60 : Int32)), .val (.int (63 : Int32)), .unset] [(.int (120 : Int32)), (.int (1010761728 : Int32))])) _
    refine XS.bipush X0.here hx rfl (hb hby d_prog_23_method_8_90) ?_
    refine XS.ishl X0.here hx rfl (hb hby d_prog_23_method_8_92) rfl ?_
    show Steps p.tables e below (s₁.setTop (mkF m 93 #[.val (.ref a1), .val (.int (4 : Int32)), .val (.int (60 : Int32)), .val (.int (63 : Int32)), .unset] [(.int ((120 : Int32) <<< ((8 : Int32) &&& 31))), (.int (1010761728 : Int32))])) _
    rw [show ((120 : Int32) <<< ((8 : Int32) &&& 31)) = (30720 : Int32) from (by decide)]
    show Steps p.tables e below (s₁.setTop (mkF m 93 #[.val (.ref a1), .val (.int (4 : Int32)), .val (.int (60 : Int32)), .val (.int (63 : Int32)), .unset] [(.int (30720 : Int32)), (.int (1010761728 : Int32))])) _
    refine XS.ior X0.here hx rfl (hb hby d_prog_23_method_8_93) rfl ?_
    show Steps p.tables e below (s₁.setTop (mkF m 94 #[.val (.ref a1), .val (.int (4 : Int32)), .val (.int (60 : Int32)), .val (.int (63 : Int32)), .unset] [(.int ((1010761728 : Int32) ||| (30720 : Int32)))])) _
    rw [show ((1010761728 : Int32) ||| (30720 : Int32)) = (1010792448 : Int32) from (by decide)]
    show Steps p.tables e below (s₁.setTop (mkF m 94 #[.val (.ref a1), .val (.int (4 : Int32)), .val (.int (60 : Int32)), .val (.int (63 : Int32)), .unset] [(.int (1010792448 : Int32))])) _
    refine XS.aloadN X0.here hx rfl (hb hby d_prog_23_method_8_94) rfl rfl ?_
    refine XS.iconst X0.here hx rfl (hb hby d_prog_23_method_8_95) ?_
    show Steps p.tables e below (s₁.setTop (mkF m 96 #[.val (.ref a1), .val (.int (4 : Int32)), .val (.int (60 : Int32)), .val (.int (63 : Int32)), .unset] [(.int (3 : Int32)), (.ref a1), (.int (1010792448 : Int32))])) _
    refine X0.baloadBytes hx (j := (3 : Int32)) (v := (.int (109 : Int32))) (by rw [e0]; exact Ar104.1) (State.isArrayOf_alike hZ.alike Ar104.2.1) Ar104.2.2 hin104 hat104 (g := (mkF m 96 #[.val (.ref a1), .val (.int (4 : Int32)), .val (.int (60 : Int32)), .val (.int (63 : Int32)), .unset] [(.int (3 : Int32)), (.ref a1), (.int (1010792448 : Int32))])) rfl rfl (hb hby d_prog_23_method_8_96) _ ?_
    show Steps p.tables e below (s₁.setTop (mkF m 97 #[.val (.ref a1), .val (.int (4 : Int32)), .val (.int (60 : Int32)), .val (.int (63 : Int32)), .unset] [(.int (109 : Int32)), (.int (1010792448 : Int32))])) _
    refine XS.sipush X0.here hx rfl (hb hby d_prog_23_method_8_97) ?_
    refine XS.iand X0.here hx rfl (hb hby d_prog_23_method_8_100) rfl ?_
    show Steps p.tables e below (s₁.setTop (mkF m 101 #[.val (.ref a1), .val (.int (4 : Int32)), .val (.int (60 : Int32)), .val (.int (63 : Int32)), .unset] [(.int ((109 : Int32) &&& (255 : Int32))), (.int (1010792448 : Int32))])) _
    rw [show ((109 : Int32) &&& (255 : Int32)) = (109 : Int32) from (by decide)]
    show Steps p.tables e below (s₁.setTop (mkF m 101 #[.val (.ref a1), .val (.int (4 : Int32)), .val (.int (60 : Int32)), .val (.int (63 : Int32)), .unset] [(.int (109 : Int32)), (.int (1010792448 : Int32))])) _
    refine XS.ior X0.here hx rfl (hb hby d_prog_23_method_8_101) rfl ?_
    show Steps p.tables e below (s₁.setTop (mkF m 102 #[.val (.ref a1), .val (.int (4 : Int32)), .val (.int (60 : Int32)), .val (.int (63 : Int32)), .unset] [(.int ((1010792448 : Int32) ||| (109 : Int32)))])) _
    rw [show ((1010792448 : Int32) ||| (109 : Int32)) = (1010792557 : Int32) from (by decide)]
    show Steps p.tables e below (s₁.setTop (mkF m 102 #[.val (.ref a1), .val (.int (4 : Int32)), .val (.int (60 : Int32)), .val (.int (63 : Int32)), .unset] [(.int (1010792557 : Int32))])) _
    refine XS.istore X0.here hx rfl (hb hby d_prog_23_method_8_102) rfl (l' := #[.val (.ref a1), .val (.int (4 : Int32)), .val (.int (60 : Int32)), .val (.int (63 : Int32)), .val (.int (1010792557 : Int32))]) rfl ?_
    refine XS.iload X0.here hx rfl (hb hby d_prog_23_method_8_104) rfl ?_
    show Steps p.tables e below (s₁.setTop (mkF m 106 #[.val (.ref a1), .val (.int (4 : Int32)), .val (.int (60 : Int32)), .val (.int (63 : Int32)), .val (.int (1010792557 : Int32))] [(.int (1010792557 : Int32))])) _
    refine X0.lookupswitchMiss hx (g := (mkF m 106 #[.val (.ref a1), .val (.int (4 : Int32)), .val (.int (60 : Int32)), .val (.int (63 : Int32)), .val (.int (1010792557 : Int32))] [(.int (1010792557 : Int32))])) rfl rfl (hb hby d_prog_23_method_8_106) (by decide) (by decide) (by show (0 : Int) ≤ ((106 : Nat) : Int) + 74; decide) _ ?_
    show Steps p.tables e below (s₁.setTop (mkF m 180 #[.val (.ref a1), .val (.int (4 : Int32)), .val (.int (60 : Int32)), .val (.int (63 : Int32)), .val (.int (1010792557 : Int32))] [])) _
    refine st105 _ ?_
    show Steps p.tables e below (T105.setTop (mkF m 183 #[.val (.ref a1), .val (.int (4 : Int32)), .val (.int (60 : Int32)), .val (.int (63 : Int32)), .val (.int (1010792557 : Int32))] [(.ref r8)])) _
    exact retOut X105 hx (t := (.object "com/example/dewey/dewey/EncodingCheck$Rule")) (i := .areturn) Bd.returns rfl (Or.inr (Or.inr (Or.inr (Or.inr ⟨rfl, rfl, rfl⟩)))) (hb hby d_prog_23_method_8_183) hr
  · show Q_sh8 Z a1 k1 rU r16 r8 rA h0 n0 _ T105.heap _
    rw [e105]
    exact ⟨rfl, N0, rfl⟩
theorem ef_cuf (m : MethodId) (a1 : Addr) (aA : Addr) : entryFrame m #[(.ref a1), (.ref aA), (.int (0 : Int32)), (.int (4 : Int32))] 6 = mkF m 0 #[.val (.ref a1), .val (.ref aA), .val (.int (0 : Int32)), .val (.int (4 : Int32)), .unset, .unset] [] := by first | (simp [entryFrame, mkF, argsToLocals, Value.category]; done) | rfl
def Q_cuf (Z : State) (a1 : Addr) (aA : Addr) (kA : ClassId) (rU : Addr) (r16 : Addr) (r8 : Addr) (rA : Addr) (h0 : Heap) (n0 : Nat) (v : Option Value) (h : Heap) (L : List Loc) : Prop := v = none ∧ Fr n0 L ∧ h = h0
set_option maxRecDepth 65536 in
set_option maxHeartbeats 40000000 in
theorem rm_cuf (l : Launch) (Z : State) (a0 : Array Value) (hw : ∀ d ∈ tables_1, d.before a0 Z = true) (ws : List Jvm.Cond) (a1 : Addr) (aA : Addr) (kA : ClassId) (rU : Addr) (r16 : Addr) (r8 : Addr) (rA : Addr) (h0 : Heap) (n0 : Nat) (O0 : Old Z n0 h0) (SrU : Sta Z Z.heap "com/example/dewey/dewey/EncodingCheck$Rule" "UNKNOWN" "Lcom/example/dewey/dewey/EncodingCheck$Rule;" (.ref rU)) (Sr16 : Sta Z Z.heap "com/example/dewey/dewey/EncodingCheck$Rule" "UTF_16" "Lcom/example/dewey/dewey/EncodingCheck$Rule;" (.ref r16)) (Sr8 : Sta Z Z.heap "com/example/dewey/dewey/EncodingCheck$Rule" "UTF_8" "Lcom/example/dewey/dewey/EncodingCheck$Rule;" (.ref r8)) (SrA : Sta Z Z.heap "com/example/dewey/dewey/EncodingCheck$Rule" "US_ASCII" "Lcom/example/dewey/dewey/EncodingCheck$Rule;" (.ref rA)) (n_rU_r16 : rU ≠ r16) (n_rU_r8 : rU ≠ r8) (n_rU_rA : rU ≠ rA) (n_r16_r8 : r16 ≠ r8) (n_r16_rA : r16 ≠ rA) (n_r8_rA : r8 ≠ rA) (E1 : Exa Z h0 a1 "com/example/dewey/dewey/EncodingCheck") (F_needed : Fld Z h0 a1 "com/example/dewey/dewey/EncodingCheck" "needed" "I" (.int (0 : Int32))) (VA : Arv Z h0 aA kA .byte (4 : Int32) [(.int (60 : Int32)), (.int (63 : Int32)), (.int (120 : Int32)), (.int (109 : Int32))] (.int (0 : Int32))) :
    MetFree l (⟨"com/example/dewey/dewey/EncodingCheck", "checkUtf8", "([BII)V"⟩ : MethodName) (head1 (Jvm.Cond.code (⟨"com/example/dewey/dewey/EncodingCheck", "checkUtf8", "([BII)V"⟩ : MethodName) prog_23_method_10_code 6 none :: ws) ({ frames := 0, cells := 0, slots := 0, locals := 0 } : Room)) (fun a U => a = #[(.ref a1), (.ref aA), (.int (0 : Int32)), (.int (4 : Int32))] ∧ Z.Warmed39 U.vm ∧ U.heap = h0) (fun _ _ _ _ _ => True) (fun _ U o U' => ∃ v L, o = .returned v ∧ Q_cuf Z a1 aA kA rU r16 r8 rA h0 n0 v U'.heap L ∧ FrameEnd U o U' L ({ frames := 0, cells := 0, slots := 0, locals := 0 } : Room).cells ({ frames := 0, cells := 0, slots := 0, locals := 0 } : Room).slots) := by
  refine MetFree.of_bodySF (plainFor_of_name pn_0) hisR ?_
  intro p e s m args below meth c s₁ Bd hml0 hP hK
  obtain ⟨rfl, hZ, hh⟩ := hP
  have hx := Bd.exec
  have hby := Bd.bytes
  have hml : c.maxLocals = 6 := hml0
  have hown : s.vm.findClass "com/example/dewey/dewey/EncodingCheck" = some m.cls := findClass_of_methodNamed Bd.named
  have hnm := (name_of_methodNamed Bd.named Bd.method).1
  have X0 : Stand p l e ({ frames := 0, cells := 0, slots := 0, locals := 0 } : Room) s m #[(.ref a1), (.ref aA), (.int (0 : Int32)), (.int (4 : Int32))] below meth c s₁ [] 0 0 := Stand.of_body Bd
  have e0 : s₁.heap = h0 := by rw [← hh, Bd.state]; rfl
  have N0 := Fr.nil n0
  have pre0 : ∀ t, Steps p.tables e below (s₁.setTop (mkF m 0 #[.val (.ref a1), .val (.ref aA), .val (.int (0 : Int32)), .val (.int (4 : Int32)), .unset, .unset] [])) t → Steps p.tables e below (s₁.setTop (entryFrame m #[(.ref a1), (.ref aA), (.int (0 : Int32)), (.int (4 : Int32))] 6)) t := fun t k => castTop (ef_cuf m a1 aA) k
  obtain ⟨cl101, Ar101, q101, S101, Ne101, H101, G101⟩ := id VA
  have hin101 : ¬ ((0 : Int32) < 0 ∨ cl101.slots.size ≤ ((0 : Int32)).toNatClampNeg) := inb_of S101 ⟨by decide, by decide⟩
  have hat101 : cl101.slots[((0 : Int32)).toNatClampNeg]? = some (.int (60 : Int32)) := H101.at hin101 rfl
  obtain ⟨T102, X102, e102, st102⟩ := getF X0 hx hZ hown (host := "") (Or.inl (hw _ (List.mem_of_getElem? (i := 54) rfl))) Via.refl e0 F_needed (g := (mkF m 20 #[.val (.ref a1), .val (.ref aA), .val (.int (0 : Int32)), .val (.int (4 : Int32)), .val (.int (0 : Int32)), .val (.int (60 : Int32))] [(.ref a1)])) rfl rfl (hb hby d_prog_23_method_10_20)
  obtain ⟨cl103, Ar103, q103, S103, Ne103, H103, G103⟩ := id VA
  have hin103 : ¬ ((1 : Int32) < 0 ∨ cl103.slots.size ≤ ((1 : Int32)).toNatClampNeg) := inb_of S103 ⟨by decide, by decide⟩
  have hat103 : cl103.slots[((1 : Int32)).toNatClampNeg]? = some (.int (63 : Int32)) := H103.at hin103 rfl
  obtain ⟨T104, X104, e104, st104⟩ := getF X102 hx hZ hown (host := "") (Or.inl (hw _ (List.mem_of_getElem? (i := 54) rfl))) Via.refl e102 F_needed (g := (mkF m 20 #[.val (.ref a1), .val (.ref aA), .val (.int (0 : Int32)), .val (.int (4 : Int32)), .val (.int (1 : Int32)), .val (.int (63 : Int32))] [(.ref a1)])) rfl rfl (hb hby d_prog_23_method_10_20)
  obtain ⟨cl105, Ar105, q105, S105, Ne105, H105, G105⟩ := id VA
  have hin105 : ¬ ((2 : Int32) < 0 ∨ cl105.slots.size ≤ ((2 : Int32)).toNatClampNeg) := inb_of S105 ⟨by decide, by decide⟩
  have hat105 : cl105.slots[((2 : Int32)).toNatClampNeg]? = some (.int (120 : Int32)) := H105.at hin105 rfl
  obtain ⟨T106, X106, e106, st106⟩ := getF X104 hx hZ hown (host := "") (Or.inl (hw _ (List.mem_of_getElem? (i := 54) rfl))) Via.refl e104 F_needed (g := (mkF m 20 #[.val (.ref a1), .val (.ref aA), .val (.int (0 : Int32)), .val (.int (4 : Int32)), .val (.int (2 : Int32)), .val (.int (120 : Int32))] [(.ref a1)])) rfl rfl (hb hby d_prog_23_method_10_20)
  obtain ⟨cl107, Ar107, q107, S107, Ne107, H107, G107⟩ := id VA
  have hin107 : ¬ ((3 : Int32) < 0 ∨ cl107.slots.size ≤ ((3 : Int32)).toNatClampNeg) := inb_of S107 ⟨by decide, by decide⟩
  have hat107 : cl107.slots[((3 : Int32)).toNatClampNeg]? = some (.int (109 : Int32)) := H107.at hin107 rfl
  obtain ⟨T108, X108, e108, st108⟩ := getF X106 hx hZ hown (host := "") (Or.inl (hw _ (List.mem_of_getElem? (i := 54) rfl))) Via.refl e106 F_needed (g := (mkF m 20 #[.val (.ref a1), .val (.ref aA), .val (.int (0 : Int32)), .val (.int (4 : Int32)), .val (.int (3 : Int32)), .val (.int (109 : Int32))] [(.ref a1)])) rfl rfl (hb hby d_prog_23_method_10_20)
  obtain ⟨fs, hr, hrun, hended, hW, hsame⟩ := X108.leave (v := none) (fun _ => rfl)
  refine ⟨_, _, pre0 _ ?_, hrun, hended, _, _, rfl, ?_, ⟨_, rfl⟩, hW, hsame.mono (by decide) (by decide)⟩
  · show Steps p.tables e below (s₁.setTop (mkF m 0 #[.val (.ref a1), .val (.ref aA), .val (.int (0 : Int32)), .val (.int (4 : Int32)), .unset, .unset] [])) _
    refine XS.iloadN X0.here hx rfl (hb hby d_prog_23_method_10_0) rfl ?_
    refine XS.istore X0.here hx rfl (hb hby d_prog_23_method_10_1) rfl (l' := #[.val (.ref a1), .val (.ref aA), .val (.int (0 : Int32)), .val (.int (4 : Int32)), .val (.int (0 : Int32)), .unset]) rfl ?_
    refine XS.iload X0.here hx rfl (hb hby d_prog_23_method_10_3) rfl ?_
    refine XS.iloadN X0.here hx rfl (hb hby d_prog_23_method_10_5) rfl ?_
    show Steps p.tables e below (s₁.setTop (mkF m 6 #[.val (.ref a1), .val (.ref aA), .val (.int (0 : Int32)), .val (.int (4 : Int32)), .val (.int (0 : Int32)), .unset] [(.int (4 : Int32)), (.int (0 : Int32))])) _
    refine XS.icmpNo X0.here hx rfl (hb hby d_prog_23_method_10_6) rfl (tlt (by decide : (0 : Int32) < (4 : Int32))).2.1 ?_
    refine XS.aloadN X0.here hx rfl (hb hby d_prog_23_method_10_9) rfl rfl ?_
    refine XS.iload X0.here hx rfl (hb hby d_prog_23_method_10_10) rfl ?_
    show Steps p.tables e below (s₁.setTop (mkF m 12 #[.val (.ref a1), .val (.ref aA), .val (.int (0 : Int32)), .val (.int (4 : Int32)), .val (.int (0 : Int32)), .unset] [(.int (0 : Int32)), (.ref aA)])) _
    refine X0.baloadBytes hx (j := (0 : Int32)) (v := (.int (60 : Int32))) (by rw [e0]; exact Ar101.1) (State.isArrayOf_alike hZ.alike Ar101.2.1) Ar101.2.2 hin101 hat101 (g := (mkF m 12 #[.val (.ref a1), .val (.ref aA), .val (.int (0 : Int32)), .val (.int (4 : Int32)), .val (.int (0 : Int32)), .unset] [(.int (0 : Int32)), (.ref aA)])) rfl rfl (hb hby d_prog_23_method_10_12) _ ?_
    show Steps p.tables e below (s₁.setTop (mkF m 13 #[.val (.ref a1), .val (.ref aA), .val (.int (0 : Int32)), .val (.int (4 : Int32)), .val (.int (0 : Int32)), .unset] [(.int (60 : Int32))])) _
    refine XS.sipush X0.here hx rfl (hb hby d_prog_23_method_10_13) ?_
    refine XS.iand X0.here hx rfl (hb hby d_prog_23_method_10_16) rfl ?_
    show Steps p.tables e below (s₁.setTop (mkF m 17 #[.val (.ref a1), .val (.ref aA), .val (.int (0 : Int32)), .val (.int (4 : Int32)), .val (.int (0 : Int32)), .unset] [(.int ((60 : Int32) &&& (255 : Int32)))])) _
    rw [show ((60 : Int32) &&& (255 : Int32)) = (60 : Int32) from (by decide)]
    show Steps p.tables e below (s₁.setTop (mkF m 17 #[.val (.ref a1), .val (.ref aA), .val (.int (0 : Int32)), .val (.int (4 : Int32)), .val (.int (0 : Int32)), .unset] [(.int (60 : Int32))])) _
    refine XS.istore X0.here hx rfl (hb hby d_prog_23_method_10_17) rfl (l' := #[.val (.ref a1), .val (.ref aA), .val (.int (0 : Int32)), .val (.int (4 : Int32)), .val (.int (0 : Int32)), .val (.int (60 : Int32))]) rfl ?_
    refine XS.aloadN X0.here hx rfl (hb hby d_prog_23_method_10_19) rfl rfl ?_
    show Steps p.tables e below (s₁.setTop (mkF m 20 #[.val (.ref a1), .val (.ref aA), .val (.int (0 : Int32)), .val (.int (4 : Int32)), .val (.int (0 : Int32)), .val (.int (60 : Int32))] [(.ref a1)])) _
    refine st102 _ ?_
    show Steps p.tables e below (T102.setTop (mkF m 23 #[.val (.ref a1), .val (.ref aA), .val (.int (0 : Int32)), .val (.int (4 : Int32)), .val (.int (0 : Int32)), .val (.int (60 : Int32))] [(.int (0 : Int32))])) _
    refine XS.ifYes X102.here hx rfl (pc0 := 23) (pc' := 115) rfl (hb hby d_prog_23_method_10_23) rfl ((if0 _ _).trans (flt (by decide : ¬ ((0 : Int32) < (0 : Int32)))).2.2.2) (by decide) (by decide) ?_
    refine XS.iload X102.here hx rfl (hb hby d_prog_23_method_10_115) rfl ?_
    refine XS.sipush X102.here hx rfl (hb hby d_prog_23_method_10_117) ?_
    refine XS.icmpNo X102.here hx rfl (hb hby d_prog_23_method_10_120) rfl (tlt (by decide : (60 : Int32) < (128 : Int32))).2.1 ?_
    show Steps p.tables e below (T102.setTop (mkF m 123 #[.val (.ref a1), .val (.ref aA), .val (.int (0 : Int32)), .val (.int (4 : Int32)), .val (.int (0 : Int32)), .val (.int (60 : Int32))] [])) _
    refine XS.goto X102.here hx rfl (pc0 := 123) (pc' := 318) rfl (hb hby d_prog_23_method_10_123) (by decide) (by decide) ?_
    refine XS.iinc X102.here hx rfl (hb hby d_prog_23_method_10_318) rfl (l' := #[.val (.ref a1), .val (.ref aA), .val (.int (0 : Int32)), .val (.int (4 : Int32)), .val (.int ((0 : Int32) + (1 : Int32))), .val (.int (60 : Int32))]) rfl ?_
    show Steps p.tables e below (T102.setTop (mkF m 321 #[.val (.ref a1), .val (.ref aA), .val (.int (0 : Int32)), .val (.int (4 : Int32)), .val (.int ((0 : Int32) + (1 : Int32))), .val (.int (60 : Int32))] [])) _
    rw [show ((0 : Int32) + (1 : Int32)) = (1 : Int32) from (by decide)]
    show Steps p.tables e below (T102.setTop (mkF m 321 #[.val (.ref a1), .val (.ref aA), .val (.int (0 : Int32)), .val (.int (4 : Int32)), .val (.int (1 : Int32)), .val (.int (60 : Int32))] [])) _
    refine XS.goto X102.here hx rfl (pc0 := 321) (pc' := 3) rfl (hb hby d_prog_23_method_10_321) (by decide) (by decide) ?_
    refine XS.iload X102.here hx rfl (hb hby d_prog_23_method_10_3) rfl ?_
    refine XS.iloadN X102.here hx rfl (hb hby d_prog_23_method_10_5) rfl ?_
    refine XS.icmpNo X102.here hx rfl (hb hby d_prog_23_method_10_6) rfl (tlt (by decide : (1 : Int32) < (4 : Int32))).2.1 ?_
    show Steps p.tables e below (T102.setTop (mkF m 9 #[.val (.ref a1), .val (.ref aA), .val (.int (0 : Int32)), .val (.int (4 : Int32)), .val (.int (1 : Int32)), .val (.int (60 : Int32))] [])) _
    refine XS.aloadN X102.here hx rfl (hb hby d_prog_23_method_10_9) rfl rfl ?_
    refine XS.iload X102.here hx rfl (hb hby d_prog_23_method_10_10) rfl ?_
    show Steps p.tables e below (T102.setTop (mkF m 12 #[.val (.ref a1), .val (.ref aA), .val (.int (0 : Int32)), .val (.int (4 : Int32)), .val (.int (1 : Int32)), .val (.int (60 : Int32))] [(.int (1 : Int32)), (.ref aA)])) _
    refine X102.baloadBytes hx (j := (1 : Int32)) (v := (.int (63 : Int32))) (by rw [e102]; exact Ar103.1) (State.isArrayOf_alike hZ.alike Ar103.2.1) Ar103.2.2 hin103 hat103 (g := (mkF m 12 #[.val (.ref a1), .val (.ref aA), .val (.int (0 : Int32)), .val (.int (4 : Int32)), .val (.int (1 : Int32)), .val (.int (60 : Int32))] [(.int (1 : Int32)), (.ref aA)])) rfl rfl (hb hby d_prog_23_method_10_12) _ ?_
    show Steps p.tables e below (T102.setTop (mkF m 13 #[.val (.ref a1), .val (.ref aA), .val (.int (0 : Int32)), .val (.int (4 : Int32)), .val (.int (1 : Int32)), .val (.int (60 : Int32))] [(.int (63 : Int32))])) _
    refine XS.sipush X102.here hx rfl (hb hby d_prog_23_method_10_13) ?_
    refine XS.iand X102.here hx rfl (hb hby d_prog_23_method_10_16) rfl ?_
    show Steps p.tables e below (T102.setTop (mkF m 17 #[.val (.ref a1), .val (.ref aA), .val (.int (0 : Int32)), .val (.int (4 : Int32)), .val (.int (1 : Int32)), .val (.int (60 : Int32))] [(.int ((63 : Int32) &&& (255 : Int32)))])) _
    rw [show ((63 : Int32) &&& (255 : Int32)) = (63 : Int32) from (by decide)]
    show Steps p.tables e below (T102.setTop (mkF m 17 #[.val (.ref a1), .val (.ref aA), .val (.int (0 : Int32)), .val (.int (4 : Int32)), .val (.int (1 : Int32)), .val (.int (60 : Int32))] [(.int (63 : Int32))])) _
    refine XS.istore X102.here hx rfl (hb hby d_prog_23_method_10_17) rfl (l' := #[.val (.ref a1), .val (.ref aA), .val (.int (0 : Int32)), .val (.int (4 : Int32)), .val (.int (1 : Int32)), .val (.int (63 : Int32))]) rfl ?_
    refine XS.aloadN X102.here hx rfl (hb hby d_prog_23_method_10_19) rfl rfl ?_
    show Steps p.tables e below (T102.setTop (mkF m 20 #[.val (.ref a1), .val (.ref aA), .val (.int (0 : Int32)), .val (.int (4 : Int32)), .val (.int (1 : Int32)), .val (.int (63 : Int32))] [(.ref a1)])) _
    refine st104 _ ?_
    show Steps p.tables e below (T104.setTop (mkF m 23 #[.val (.ref a1), .val (.ref aA), .val (.int (0 : Int32)), .val (.int (4 : Int32)), .val (.int (1 : Int32)), .val (.int (63 : Int32))] [(.int (0 : Int32))])) _
    refine XS.ifYes X104.here hx rfl (pc0 := 23) (pc' := 115) rfl (hb hby d_prog_23_method_10_23) rfl ((if0 _ _).trans (flt (by decide : ¬ ((0 : Int32) < (0 : Int32)))).2.2.2) (by decide) (by decide) ?_
    refine XS.iload X104.here hx rfl (hb hby d_prog_23_method_10_115) rfl ?_
    refine XS.sipush X104.here hx rfl (hb hby d_prog_23_method_10_117) ?_
    refine XS.icmpNo X104.here hx rfl (hb hby d_prog_23_method_10_120) rfl (tlt (by decide : (63 : Int32) < (128 : Int32))).2.1 ?_
    show Steps p.tables e below (T104.setTop (mkF m 123 #[.val (.ref a1), .val (.ref aA), .val (.int (0 : Int32)), .val (.int (4 : Int32)), .val (.int (1 : Int32)), .val (.int (63 : Int32))] [])) _
    refine XS.goto X104.here hx rfl (pc0 := 123) (pc' := 318) rfl (hb hby d_prog_23_method_10_123) (by decide) (by decide) ?_
    refine XS.iinc X104.here hx rfl (hb hby d_prog_23_method_10_318) rfl (l' := #[.val (.ref a1), .val (.ref aA), .val (.int (0 : Int32)), .val (.int (4 : Int32)), .val (.int ((1 : Int32) + (1 : Int32))), .val (.int (63 : Int32))]) rfl ?_
    show Steps p.tables e below (T104.setTop (mkF m 321 #[.val (.ref a1), .val (.ref aA), .val (.int (0 : Int32)), .val (.int (4 : Int32)), .val (.int ((1 : Int32) + (1 : Int32))), .val (.int (63 : Int32))] [])) _
    rw [show ((1 : Int32) + (1 : Int32)) = (2 : Int32) from (by decide)]
    show Steps p.tables e below (T104.setTop (mkF m 321 #[.val (.ref a1), .val (.ref aA), .val (.int (0 : Int32)), .val (.int (4 : Int32)), .val (.int (2 : Int32)), .val (.int (63 : Int32))] [])) _
    refine XS.goto X104.here hx rfl (pc0 := 321) (pc' := 3) rfl (hb hby d_prog_23_method_10_321) (by decide) (by decide) ?_
    refine XS.iload X104.here hx rfl (hb hby d_prog_23_method_10_3) rfl ?_
    refine XS.iloadN X104.here hx rfl (hb hby d_prog_23_method_10_5) rfl ?_
    refine XS.icmpNo X104.here hx rfl (hb hby d_prog_23_method_10_6) rfl (tlt (by decide : (2 : Int32) < (4 : Int32))).2.1 ?_
    show Steps p.tables e below (T104.setTop (mkF m 9 #[.val (.ref a1), .val (.ref aA), .val (.int (0 : Int32)), .val (.int (4 : Int32)), .val (.int (2 : Int32)), .val (.int (63 : Int32))] [])) _
    refine XS.aloadN X104.here hx rfl (hb hby d_prog_23_method_10_9) rfl rfl ?_
    refine XS.iload X104.here hx rfl (hb hby d_prog_23_method_10_10) rfl ?_
    show Steps p.tables e below (T104.setTop (mkF m 12 #[.val (.ref a1), .val (.ref aA), .val (.int (0 : Int32)), .val (.int (4 : Int32)), .val (.int (2 : Int32)), .val (.int (63 : Int32))] [(.int (2 : Int32)), (.ref aA)])) _
    refine X104.baloadBytes hx (j := (2 : Int32)) (v := (.int (120 : Int32))) (by rw [e104]; exact Ar105.1) (State.isArrayOf_alike hZ.alike Ar105.2.1) Ar105.2.2 hin105 hat105 (g := (mkF m 12 #[.val (.ref a1), .val (.ref aA), .val (.int (0 : Int32)), .val (.int (4 : Int32)), .val (.int (2 : Int32)), .val (.int (63 : Int32))] [(.int (2 : Int32)), (.ref aA)])) rfl rfl (hb hby d_prog_23_method_10_12) _ ?_
    show Steps p.tables e below (T104.setTop (mkF m 13 #[.val (.ref a1), .val (.ref aA), .val (.int (0 : Int32)), .val (.int (4 : Int32)), .val (.int (2 : Int32)), .val (.int (63 : Int32))] [(.int (120 : Int32))])) _
    refine XS.sipush X104.here hx rfl (hb hby d_prog_23_method_10_13) ?_
    refine XS.iand X104.here hx rfl (hb hby d_prog_23_method_10_16) rfl ?_
    show Steps p.tables e below (T104.setTop (mkF m 17 #[.val (.ref a1), .val (.ref aA), .val (.int (0 : Int32)), .val (.int (4 : Int32)), .val (.int (2 : Int32)), .val (.int (63 : Int32))] [(.int ((120 : Int32) &&& (255 : Int32)))])) _
    rw [show ((120 : Int32) &&& (255 : Int32)) = (120 : Int32) from (by decide)]
    show Steps p.tables e below (T104.setTop (mkF m 17 #[.val (.ref a1), .val (.ref aA), .val (.int (0 : Int32)), .val (.int (4 : Int32)), .val (.int (2 : Int32)), .val (.int (63 : Int32))] [(.int (120 : Int32))])) _
    refine XS.istore X104.here hx rfl (hb hby d_prog_23_method_10_17) rfl (l' := #[.val (.ref a1), .val (.ref aA), .val (.int (0 : Int32)), .val (.int (4 : Int32)), .val (.int (2 : Int32)), .val (.int (120 : Int32))]) rfl ?_
    refine XS.aloadN X104.here hx rfl (hb hby d_prog_23_method_10_19) rfl rfl ?_
    show Steps p.tables e below (T104.setTop (mkF m 20 #[.val (.ref a1), .val (.ref aA), .val (.int (0 : Int32)), .val (.int (4 : Int32)), .val (.int (2 : Int32)), .val (.int (120 : Int32))] [(.ref a1)])) _
    refine st106 _ ?_
    show Steps p.tables e below (T106.setTop (mkF m 23 #[.val (.ref a1), .val (.ref aA), .val (.int (0 : Int32)), .val (.int (4 : Int32)), .val (.int (2 : Int32)), .val (.int (120 : Int32))] [(.int (0 : Int32))])) _
    refine XS.ifYes X106.here hx rfl (pc0 := 23) (pc' := 115) rfl (hb hby d_prog_23_method_10_23) rfl ((if0 _ _).trans (flt (by decide : ¬ ((0 : Int32) < (0 : Int32)))).2.2.2) (by decide) (by decide) ?_
    refine XS.iload X106.here hx rfl (hb hby d_prog_23_method_10_115) rfl ?_
    refine XS.sipush X106.here hx rfl (hb hby d_prog_23_method_10_117) ?_
    refine XS.icmpNo X106.here hx rfl (hb hby d_prog_23_method_10_120) rfl (tlt (by decide : (120 : Int32) < (128 : Int32))).2.1 ?_
    show Steps p.tables e below (T106.setTop (mkF m 123 #[.val (.ref a1), .val (.ref aA), .val (.int (0 : Int32)), .val (.int (4 : Int32)), .val (.int (2 : Int32)), .val (.int (120 : Int32))] [])) _
    refine XS.goto X106.here hx rfl (pc0 := 123) (pc' := 318) rfl (hb hby d_prog_23_method_10_123) (by decide) (by decide) ?_
    refine XS.iinc X106.here hx rfl (hb hby d_prog_23_method_10_318) rfl (l' := #[.val (.ref a1), .val (.ref aA), .val (.int (0 : Int32)), .val (.int (4 : Int32)), .val (.int ((2 : Int32) + (1 : Int32))), .val (.int (120 : Int32))]) rfl ?_
    show Steps p.tables e below (T106.setTop (mkF m 321 #[.val (.ref a1), .val (.ref aA), .val (.int (0 : Int32)), .val (.int (4 : Int32)), .val (.int ((2 : Int32) + (1 : Int32))), .val (.int (120 : Int32))] [])) _
    rw [show ((2 : Int32) + (1 : Int32)) = (3 : Int32) from (by decide)]
    show Steps p.tables e below (T106.setTop (mkF m 321 #[.val (.ref a1), .val (.ref aA), .val (.int (0 : Int32)), .val (.int (4 : Int32)), .val (.int (3 : Int32)), .val (.int (120 : Int32))] [])) _
    refine XS.goto X106.here hx rfl (pc0 := 321) (pc' := 3) rfl (hb hby d_prog_23_method_10_321) (by decide) (by decide) ?_
    refine XS.iload X106.here hx rfl (hb hby d_prog_23_method_10_3) rfl ?_
    refine XS.iloadN X106.here hx rfl (hb hby d_prog_23_method_10_5) rfl ?_
    refine XS.icmpNo X106.here hx rfl (hb hby d_prog_23_method_10_6) rfl (tlt (by decide : (3 : Int32) < (4 : Int32))).2.1 ?_
    show Steps p.tables e below (T106.setTop (mkF m 9 #[.val (.ref a1), .val (.ref aA), .val (.int (0 : Int32)), .val (.int (4 : Int32)), .val (.int (3 : Int32)), .val (.int (120 : Int32))] [])) _
    refine XS.aloadN X106.here hx rfl (hb hby d_prog_23_method_10_9) rfl rfl ?_
    refine XS.iload X106.here hx rfl (hb hby d_prog_23_method_10_10) rfl ?_
    show Steps p.tables e below (T106.setTop (mkF m 12 #[.val (.ref a1), .val (.ref aA), .val (.int (0 : Int32)), .val (.int (4 : Int32)), .val (.int (3 : Int32)), .val (.int (120 : Int32))] [(.int (3 : Int32)), (.ref aA)])) _
    refine X106.baloadBytes hx (j := (3 : Int32)) (v := (.int (109 : Int32))) (by rw [e106]; exact Ar107.1) (State.isArrayOf_alike hZ.alike Ar107.2.1) Ar107.2.2 hin107 hat107 (g := (mkF m 12 #[.val (.ref a1), .val (.ref aA), .val (.int (0 : Int32)), .val (.int (4 : Int32)), .val (.int (3 : Int32)), .val (.int (120 : Int32))] [(.int (3 : Int32)), (.ref aA)])) rfl rfl (hb hby d_prog_23_method_10_12) _ ?_
    show Steps p.tables e below (T106.setTop (mkF m 13 #[.val (.ref a1), .val (.ref aA), .val (.int (0 : Int32)), .val (.int (4 : Int32)), .val (.int (3 : Int32)), .val (.int (120 : Int32))] [(.int (109 : Int32))])) _
    refine XS.sipush X106.here hx rfl (hb hby d_prog_23_method_10_13) ?_
    refine XS.iand X106.here hx rfl (hb hby d_prog_23_method_10_16) rfl ?_
    show Steps p.tables e below (T106.setTop (mkF m 17 #[.val (.ref a1), .val (.ref aA), .val (.int (0 : Int32)), .val (.int (4 : Int32)), .val (.int (3 : Int32)), .val (.int (120 : Int32))] [(.int ((109 : Int32) &&& (255 : Int32)))])) _
    rw [show ((109 : Int32) &&& (255 : Int32)) = (109 : Int32) from (by decide)]
    show Steps p.tables e below (T106.setTop (mkF m 17 #[.val (.ref a1), .val (.ref aA), .val (.int (0 : Int32)), .val (.int (4 : Int32)), .val (.int (3 : Int32)), .val (.int (120 : Int32))] [(.int (109 : Int32))])) _
    refine XS.istore X106.here hx rfl (hb hby d_prog_23_method_10_17) rfl (l' := #[.val (.ref a1), .val (.ref aA), .val (.int (0 : Int32)), .val (.int (4 : Int32)), .val (.int (3 : Int32)), .val (.int (109 : Int32))]) rfl ?_
    refine XS.aloadN X106.here hx rfl (hb hby d_prog_23_method_10_19) rfl rfl ?_
    show Steps p.tables e below (T106.setTop (mkF m 20 #[.val (.ref a1), .val (.ref aA), .val (.int (0 : Int32)), .val (.int (4 : Int32)), .val (.int (3 : Int32)), .val (.int (109 : Int32))] [(.ref a1)])) _
    refine st108 _ ?_
    show Steps p.tables e below (T108.setTop (mkF m 23 #[.val (.ref a1), .val (.ref aA), .val (.int (0 : Int32)), .val (.int (4 : Int32)), .val (.int (3 : Int32)), .val (.int (109 : Int32))] [(.int (0 : Int32))])) _
    refine XS.ifYes X108.here hx rfl (pc0 := 23) (pc' := 115) rfl (hb hby d_prog_23_method_10_23) rfl ((if0 _ _).trans (flt (by decide : ¬ ((0 : Int32) < (0 : Int32)))).2.2.2) (by decide) (by decide) ?_
    refine XS.iload X108.here hx rfl (hb hby d_prog_23_method_10_115) rfl ?_
    refine XS.sipush X108.here hx rfl (hb hby d_prog_23_method_10_117) ?_
    refine XS.icmpNo X108.here hx rfl (hb hby d_prog_23_method_10_120) rfl (tlt (by decide : (109 : Int32) < (128 : Int32))).2.1 ?_
    show Steps p.tables e below (T108.setTop (mkF m 123 #[.val (.ref a1), .val (.ref aA), .val (.int (0 : Int32)), .val (.int (4 : Int32)), .val (.int (3 : Int32)), .val (.int (109 : Int32))] [])) _
    refine XS.goto X108.here hx rfl (pc0 := 123) (pc' := 318) rfl (hb hby d_prog_23_method_10_123) (by decide) (by decide) ?_
    refine XS.iinc X108.here hx rfl (hb hby d_prog_23_method_10_318) rfl (l' := #[.val (.ref a1), .val (.ref aA), .val (.int (0 : Int32)), .val (.int (4 : Int32)), .val (.int ((3 : Int32) + (1 : Int32))), .val (.int (109 : Int32))]) rfl ?_
    show Steps p.tables e below (T108.setTop (mkF m 321 #[.val (.ref a1), .val (.ref aA), .val (.int (0 : Int32)), .val (.int (4 : Int32)), .val (.int ((3 : Int32) + (1 : Int32))), .val (.int (109 : Int32))] [])) _
    rw [show ((3 : Int32) + (1 : Int32)) = (4 : Int32) from (by decide)]
    show Steps p.tables e below (T108.setTop (mkF m 321 #[.val (.ref a1), .val (.ref aA), .val (.int (0 : Int32)), .val (.int (4 : Int32)), .val (.int (4 : Int32)), .val (.int (109 : Int32))] [])) _
    refine XS.goto X108.here hx rfl (pc0 := 321) (pc' := 3) rfl (hb hby d_prog_23_method_10_321) (by decide) (by decide) ?_
    refine XS.iload X108.here hx rfl (hb hby d_prog_23_method_10_3) rfl ?_
    refine XS.iloadN X108.here hx rfl (hb hby d_prog_23_method_10_5) rfl ?_
    refine XS.icmpYes X108.here hx rfl (pc0 := 6) (pc' := 324) rfl (hb hby d_prog_23_method_10_6) rfl (flt (by decide : ¬ ((4 : Int32) < (4 : Int32)))).2.1 (by decide) (by decide) ?_
    show Steps p.tables e below (T108.setTop (mkF m 324 #[.val (.ref a1), .val (.ref aA), .val (.int (0 : Int32)), .val (.int (4 : Int32)), .val (.int (4 : Int32)), .val (.int (109 : Int32))] [])) _
    exact X108.returnOut hx Bd.returns (hb hby d_prog_23_method_10_324) hr
  · show Q_cuf Z a1 aA kA rU r16 r8 rA h0 n0 _ T108.heap _
    rw [e108]
    exact ⟨rfl, N0, rfl⟩
theorem ef_cut (m : MethodId) (a1 : Addr) (aA : Addr) : entryFrame m #[(.ref a1), (.ref aA), (.int (0 : Int32)), (.int (1 : Int32))] 6 = mkF m 0 #[.val (.ref a1), .val (.ref aA), .val (.int (0 : Int32)), .val (.int (1 : Int32)), .unset, .unset] [] := by first | (simp [entryFrame, mkF, argsToLocals, Value.category]; done) | rfl
def Q_cut (Z : State) (a1 : Addr) (aA : Addr) (kA : ClassId) (x0 : Int32) (rU : Addr) (r16 : Addr) (r8 : Addr) (rA : Addr) (h0 : Heap) (n0 : Nat) (v : Option Value) (h : Heap) (L : List Loc) : Prop := v = none ∧ Fr n0 L ∧ h = h0
set_option maxRecDepth 65536 in
set_option maxHeartbeats 40000000 in
theorem rm_cut (l : Launch) (Z : State) (a0 : Array Value) (hw : ∀ d ∈ tables_1, d.before a0 Z = true) (ws : List Jvm.Cond) (a1 : Addr) (aA : Addr) (kA : ClassId) (x0 : Int32) (rU : Addr) (r16 : Addr) (r8 : Addr) (rA : Addr) (h0 : Heap) (n0 : Nat) (O0 : Old Z n0 h0) (SrU : Sta Z Z.heap "com/example/dewey/dewey/EncodingCheck$Rule" "UNKNOWN" "Lcom/example/dewey/dewey/EncodingCheck$Rule;" (.ref rU)) (Sr16 : Sta Z Z.heap "com/example/dewey/dewey/EncodingCheck$Rule" "UTF_16" "Lcom/example/dewey/dewey/EncodingCheck$Rule;" (.ref r16)) (Sr8 : Sta Z Z.heap "com/example/dewey/dewey/EncodingCheck$Rule" "UTF_8" "Lcom/example/dewey/dewey/EncodingCheck$Rule;" (.ref r8)) (SrA : Sta Z Z.heap "com/example/dewey/dewey/EncodingCheck$Rule" "US_ASCII" "Lcom/example/dewey/dewey/EncodingCheck$Rule;" (.ref rA)) (n_rU_r16 : rU ≠ r16) (n_rU_r8 : rU ≠ r8) (n_rU_rA : rU ≠ rA) (n_r16_r8 : r16 ≠ r8) (n_r16_rA : r16 ≠ rA) (n_r8_rA : r8 ≠ rA) (E1 : Exa Z h0 a1 "com/example/dewey/dewey/EncodingCheck") (F_needed : Fld Z h0 a1 "com/example/dewey/dewey/EncodingCheck" "needed" "I" (.int (0 : Int32))) (VA : Arv Z h0 aA kA .byte (1 : Int32) [(.int x0)] (.int (0 : Int32))) (hxb : (x0 &&& (255 : Int32)) < (128 : Int32)) :
    MetFree l (⟨"com/example/dewey/dewey/EncodingCheck", "checkUtf8", "([BII)V"⟩ : MethodName) (head1 (Jvm.Cond.code (⟨"com/example/dewey/dewey/EncodingCheck", "checkUtf8", "([BII)V"⟩ : MethodName) prog_23_method_10_code 6 none :: ws) ({ frames := 0, cells := 0, slots := 0, locals := 0 } : Room)) (fun a U => a = #[(.ref a1), (.ref aA), (.int (0 : Int32)), (.int (1 : Int32))] ∧ Z.Warmed39 U.vm ∧ U.heap = h0) (fun _ _ _ _ _ => True) (fun _ U o U' => ∃ v L, o = .returned v ∧ Q_cut Z a1 aA kA x0 rU r16 r8 rA h0 n0 v U'.heap L ∧ FrameEnd U o U' L ({ frames := 0, cells := 0, slots := 0, locals := 0 } : Room).cells ({ frames := 0, cells := 0, slots := 0, locals := 0 } : Room).slots) := by
  refine MetFree.of_bodySF (plainFor_of_name pn_0) hisR ?_
  intro p e s m args below meth c s₁ Bd hml0 hP hK
  obtain ⟨rfl, hZ, hh⟩ := hP
  have hx := Bd.exec
  have hby := Bd.bytes
  have hml : c.maxLocals = 6 := hml0
  have hown : s.vm.findClass "com/example/dewey/dewey/EncodingCheck" = some m.cls := findClass_of_methodNamed Bd.named
  have hnm := (name_of_methodNamed Bd.named Bd.method).1
  have X0 : Stand p l e ({ frames := 0, cells := 0, slots := 0, locals := 0 } : Room) s m #[(.ref a1), (.ref aA), (.int (0 : Int32)), (.int (1 : Int32))] below meth c s₁ [] 0 0 := Stand.of_body Bd
  have e0 : s₁.heap = h0 := by rw [← hh, Bd.state]; rfl
  have N0 := Fr.nil n0
  have pre0 : ∀ t, Steps p.tables e below (s₁.setTop (mkF m 0 #[.val (.ref a1), .val (.ref aA), .val (.int (0 : Int32)), .val (.int (1 : Int32)), .unset, .unset] [])) t → Steps p.tables e below (s₁.setTop (entryFrame m #[(.ref a1), (.ref aA), (.int (0 : Int32)), (.int (1 : Int32))] 6)) t := fun t k => castTop (ef_cut m a1 aA) k
  obtain ⟨cl101, Ar101, q101, S101, Ne101, H101, G101⟩ := id VA
  have hin101 : ¬ ((0 : Int32) < 0 ∨ cl101.slots.size ≤ ((0 : Int32)).toNatClampNeg) := inb_of S101 ⟨by decide, by decide⟩
  have hat101 : cl101.slots[((0 : Int32)).toNatClampNeg]? = some (.int x0) := H101.at hin101 rfl
  obtain ⟨T102, X102, e102, st102⟩ := getF X0 hx hZ hown (host := "") (Or.inl (hw _ (List.mem_of_getElem? (i := 54) rfl))) Via.refl e0 F_needed (g := (mkF m 20 #[.val (.ref a1), .val (.ref aA), .val (.int (0 : Int32)), .val (.int (1 : Int32)), .val (.int (0 : Int32)), .val (.int (x0 &&& (255 : Int32)))] [(.ref a1)])) rfl rfl (hb hby d_prog_23_method_10_20)
  have hc103 : (x0 &&& (255 : Int32)) < (128 : Int32) := hxb
  obtain ⟨fs, hr, hrun, hended, hW, hsame⟩ := X102.leave (v := none) (fun _ => rfl)
  refine ⟨_, _, pre0 _ ?_, hrun, hended, _, _, rfl, ?_, ⟨_, rfl⟩, hW, hsame.mono (by decide) (by decide)⟩
  · show Steps p.tables e below (s₁.setTop (mkF m 0 #[.val (.ref a1), .val (.ref aA), .val (.int (0 : Int32)), .val (.int (1 : Int32)), .unset, .unset] [])) _
    refine XS.iloadN X0.here hx rfl (hb hby d_prog_23_method_10_0) rfl ?_
    refine XS.istore X0.here hx rfl (hb hby d_prog_23_method_10_1) rfl (l' := #[.val (.ref a1), .val (.ref aA), .val (.int (0 : Int32)), .val (.int (1 : Int32)), .val (.int (0 : Int32)), .unset]) rfl ?_
    refine XS.iload X0.here hx rfl (hb hby d_prog_23_method_10_3) rfl ?_
    refine XS.iloadN X0.here hx rfl (hb hby d_prog_23_method_10_5) rfl ?_
    show Steps p.tables e below (s₁.setTop (mkF m 6 #[.val (.ref a1), .val (.ref aA), .val (.int (0 : Int32)), .val (.int (1 : Int32)), .val (.int (0 : Int32)), .unset] [(.int (1 : Int32)), (.int (0 : Int32))])) _
    refine XS.icmpNo X0.here hx rfl (hb hby d_prog_23_method_10_6) rfl (tlt (by decide : (0 : Int32) < (1 : Int32))).2.1 ?_
    refine XS.aloadN X0.here hx rfl (hb hby d_prog_23_method_10_9) rfl rfl ?_
    refine XS.iload X0.here hx rfl (hb hby d_prog_23_method_10_10) rfl ?_
    show Steps p.tables e below (s₁.setTop (mkF m 12 #[.val (.ref a1), .val (.ref aA), .val (.int (0 : Int32)), .val (.int (1 : Int32)), .val (.int (0 : Int32)), .unset] [(.int (0 : Int32)), (.ref aA)])) _
    refine X0.baloadBytes hx (j := (0 : Int32)) (v := (.int x0)) (by rw [e0]; exact Ar101.1) (State.isArrayOf_alike hZ.alike Ar101.2.1) Ar101.2.2 hin101 hat101 (g := (mkF m 12 #[.val (.ref a1), .val (.ref aA), .val (.int (0 : Int32)), .val (.int (1 : Int32)), .val (.int (0 : Int32)), .unset] [(.int (0 : Int32)), (.ref aA)])) rfl rfl (hb hby d_prog_23_method_10_12) _ ?_
    show Steps p.tables e below (s₁.setTop (mkF m 13 #[.val (.ref a1), .val (.ref aA), .val (.int (0 : Int32)), .val (.int (1 : Int32)), .val (.int (0 : Int32)), .unset] [(.int x0)])) _
    refine XS.sipush X0.here hx rfl (hb hby d_prog_23_method_10_13) ?_
    refine XS.iand X0.here hx rfl (hb hby d_prog_23_method_10_16) rfl ?_
    refine XS.istore X0.here hx rfl (hb hby d_prog_23_method_10_17) rfl (l' := #[.val (.ref a1), .val (.ref aA), .val (.int (0 : Int32)), .val (.int (1 : Int32)), .val (.int (0 : Int32)), .val (.int (x0 &&& (255 : Int32)))]) rfl ?_
    refine XS.aloadN X0.here hx rfl (hb hby d_prog_23_method_10_19) rfl rfl ?_
    show Steps p.tables e below (s₁.setTop (mkF m 20 #[.val (.ref a1), .val (.ref aA), .val (.int (0 : Int32)), .val (.int (1 : Int32)), .val (.int (0 : Int32)), .val (.int (x0 &&& (255 : Int32)))] [(.ref a1)])) _
    refine st102 _ ?_
    show Steps p.tables e below (T102.setTop (mkF m 23 #[.val (.ref a1), .val (.ref aA), .val (.int (0 : Int32)), .val (.int (1 : Int32)), .val (.int (0 : Int32)), .val (.int (x0 &&& (255 : Int32)))] [(.int (0 : Int32))])) _
    refine XS.ifYes X102.here hx rfl (pc0 := 23) (pc' := 115) rfl (hb hby d_prog_23_method_10_23) rfl ((if0 _ _).trans (flt (by decide : ¬ ((0 : Int32) < (0 : Int32)))).2.2.2) (by decide) (by decide) ?_
    refine XS.iload X102.here hx rfl (hb hby d_prog_23_method_10_115) rfl ?_
    refine XS.sipush X102.here hx rfl (hb hby d_prog_23_method_10_117) ?_
    refine XS.icmpNo X102.here hx rfl (hb hby d_prog_23_method_10_120) rfl (tlt hc103).2.1 ?_
    show Steps p.tables e below (T102.setTop (mkF m 123 #[.val (.ref a1), .val (.ref aA), .val (.int (0 : Int32)), .val (.int (1 : Int32)), .val (.int (0 : Int32)), .val (.int (x0 &&& (255 : Int32)))] [])) _
    refine XS.goto X102.here hx rfl (pc0 := 123) (pc' := 318) rfl (hb hby d_prog_23_method_10_123) (by decide) (by decide) ?_
    refine XS.iinc X102.here hx rfl (hb hby d_prog_23_method_10_318) rfl (l' := #[.val (.ref a1), .val (.ref aA), .val (.int (0 : Int32)), .val (.int (1 : Int32)), .val (.int ((0 : Int32) + (1 : Int32))), .val (.int (x0 &&& (255 : Int32)))]) rfl ?_
    show Steps p.tables e below (T102.setTop (mkF m 321 #[.val (.ref a1), .val (.ref aA), .val (.int (0 : Int32)), .val (.int (1 : Int32)), .val (.int ((0 : Int32) + (1 : Int32))), .val (.int (x0 &&& (255 : Int32)))] [])) _
    rw [show ((0 : Int32) + (1 : Int32)) = (1 : Int32) from (by decide)]
    show Steps p.tables e below (T102.setTop (mkF m 321 #[.val (.ref a1), .val (.ref aA), .val (.int (0 : Int32)), .val (.int (1 : Int32)), .val (.int (1 : Int32)), .val (.int (x0 &&& (255 : Int32)))] [])) _
    refine XS.goto X102.here hx rfl (pc0 := 321) (pc' := 3) rfl (hb hby d_prog_23_method_10_321) (by decide) (by decide) ?_
    refine XS.iload X102.here hx rfl (hb hby d_prog_23_method_10_3) rfl ?_
    refine XS.iloadN X102.here hx rfl (hb hby d_prog_23_method_10_5) rfl ?_
    refine XS.icmpYes X102.here hx rfl (pc0 := 6) (pc' := 324) rfl (hb hby d_prog_23_method_10_6) rfl (flt (by decide : ¬ ((1 : Int32) < (1 : Int32)))).2.1 (by decide) (by decide) ?_
    show Steps p.tables e below (T102.setTop (mkF m 324 #[.val (.ref a1), .val (.ref aA), .val (.int (0 : Int32)), .val (.int (1 : Int32)), .val (.int (1 : Int32)), .val (.int (x0 &&& (255 : Int32)))] [])) _
    exact X102.returnOut hx Bd.returns (hb hby d_prog_23_method_10_324) hr
  · show Q_cut Z a1 aA kA x0 rU r16 r8 rA h0 n0 _ T102.heap _
    rw [e102]
    exact ⟨rfl, N0, rfl⟩
theorem ef_cu0 (m : MethodId) (a1 : Addr) (aA : Addr) : entryFrame m #[(.ref a1), (.ref aA), (.int (4 : Int32)), (.int (5 : Int32))] 6 = mkF m 0 #[.val (.ref a1), .val (.ref aA), .val (.int (4 : Int32)), .val (.int (5 : Int32)), .unset, .unset] [] := by first | (simp [entryFrame, mkF, argsToLocals, Value.category]; done) | rfl
def Q_cu0 (Z : State) (a1 : Addr) (aA : Addr) (kA : ClassId) (aO : Addr) (kO : ClassId) (x4 : Int32) (x5 : Int32) (ld : Int32) (c1 : Int32) (tk : Int64) (uL : Value) (uH : Value) (uC : Value) (uS : Value) (rU : Addr) (r16 : Addr) (r8 : Addr) (rA : Addr) (h0 : Heap) (n0 : Nat) (v : Option Value) (h : Heap) (L : List Loc) : Prop := ∃ (u1 u2 : Value), v = none ∧ Fr n0 L ∧ Keep h0 h [a1, aO] ∧ Exa Z h a1 "com/example/dewey/dewey/EncodingCheck" ∧ Fld Z h a1 "com/example/dewey/dewey/EncodingCheck" "needed" "I" u1 ∧ Fld Z h a1 "com/example/dewey/dewey/EncodingCheck" "openCount" "I" u2 ∧ Fld Z h a1 "com/example/dewey/dewey/EncodingCheck" "taken" "J" (.long tk) ∧ Fld Z h a1 "com/example/dewey/dewey/EncodingCheck" "rule" "Lcom/example/dewey/dewey/EncodingCheck$Rule;" (.ref r8)
set_option maxRecDepth 65536 in
set_option maxHeartbeats 40000000 in
theorem rm_cu0 (l : Launch) (Z : State) (a0 : Array Value) (hw : ∀ d ∈ tables_1, d.before a0 Z = true) (ws : List Jvm.Cond) (a1 : Addr) (aA : Addr) (kA : ClassId) (aO : Addr) (kO : ClassId) (x4 : Int32) (x5 : Int32) (ld : Int32) (c1 : Int32) (tk : Int64) (uL : Value) (uH : Value) (uC : Value) (uS : Value) (rU : Addr) (r16 : Addr) (r8 : Addr) (rA : Addr) (h0 : Heap) (n0 : Nat) (O0 : Old Z n0 h0) (SrU : Sta Z Z.heap "com/example/dewey/dewey/EncodingCheck$Rule" "UNKNOWN" "Lcom/example/dewey/dewey/EncodingCheck$Rule;" (.ref rU)) (Sr16 : Sta Z Z.heap "com/example/dewey/dewey/EncodingCheck$Rule" "UTF_16" "Lcom/example/dewey/dewey/EncodingCheck$Rule;" (.ref r16)) (Sr8 : Sta Z Z.heap "com/example/dewey/dewey/EncodingCheck$Rule" "UTF_8" "Lcom/example/dewey/dewey/EncodingCheck$Rule;" (.ref r8)) (SrA : Sta Z Z.heap "com/example/dewey/dewey/EncodingCheck$Rule" "US_ASCII" "Lcom/example/dewey/dewey/EncodingCheck$Rule;" (.ref rA)) (n_rU_r16 : rU ≠ r16) (n_rU_r8 : rU ≠ r8) (n_rU_rA : rU ≠ rA) (n_r16_r8 : r16 ≠ r8) (n_r16_rA : r16 ≠ rA) (n_r8_rA : r8 ≠ rA) (E1 : Exa Z h0 a1 "com/example/dewey/dewey/EncodingCheck") (F_needed : Fld Z h0 a1 "com/example/dewey/dewey/EncodingCheck" "needed" "I" (.int (0 : Int32))) (F_low : Fld Z h0 a1 "com/example/dewey/dewey/EncodingCheck" "low" "I" uL) (F_high : Fld Z h0 a1 "com/example/dewey/dewey/EncodingCheck" "high" "I" uH) (F_open : Fld Z h0 a1 "com/example/dewey/dewey/EncodingCheck" "open" "[B" (.ref aO)) (F_openCount : Fld Z h0 a1 "com/example/dewey/dewey/EncodingCheck" "openCount" "I" uC) (F_start : Fld Z h0 a1 "com/example/dewey/dewey/EncodingCheck" "start" "J" uS) (F_taken : Fld Z h0 a1 "com/example/dewey/dewey/EncodingCheck" "taken" "J" (.long tk)) (F_rule : Fld Z h0 a1 "com/example/dewey/dewey/EncodingCheck" "rule" "Lcom/example/dewey/dewey/EncodingCheck$Rule;" (.ref r8)) (VA : Arv Z h0 aA kA .byte (7 : Int32) [(.int (60 : Int32)), (.int (63 : Int32)), (.int (120 : Int32)), (.int (109 : Int32)), (.int x4), (.int x5), (.int (-128 : Int32))] (.int (0 : Int32))) (VO : Arv Z h0 aO kO .byte (4 : Int32) [(.int (0 : Int32)), (.int (0 : Int32)), (.int (0 : Int32)), (.int (0 : Int32))] (.int (0 : Int32))) (g_a1 : n0 ≤ a1) (g_aO : n0 ≤ aO) (n_a1_aA : a1 ≠ aA) (n_a1_aO : a1 ≠ aO) (n_aA_aO : aA ≠ aO) (h4 : (x4 &&& (255 : Int32)) = ld) (h5 : (x5 &&& (255 : Int32)) = c1) (hc1 : c1 = (if ld = (224 : Int32) then (160 : Int32) else (if ld = (240 : Int32) then (144 : Int32) else (128 : Int32)))) (hl : ¬ ld < (194 : Int32) ∧ ¬ (244 : Int32) < ld) :
    MetFree l (⟨"com/example/dewey/dewey/EncodingCheck", "checkUtf8", "([BII)V"⟩ : MethodName) (head1 (Jvm.Cond.code (⟨"com/example/dewey/dewey/EncodingCheck", "checkUtf8", "([BII)V"⟩ : MethodName) prog_23_method_10_code 6 none :: ws) ({ frames := 0, cells := 0, slots := 0, locals := 0 } : Room)) (fun a U => a = #[(.ref a1), (.ref aA), (.int (4 : Int32)), (.int (5 : Int32))] ∧ Z.Warmed39 U.vm ∧ U.heap = h0) (fun _ _ _ _ _ => True) (fun _ U o U' => ∃ v L, o = .returned v ∧ Q_cu0 Z a1 aA kA aO kO x4 x5 ld c1 tk uL uH uC uS rU r16 r8 rA h0 n0 v U'.heap L ∧ FrameEnd U o U' L ({ frames := 0, cells := 0, slots := 0, locals := 0 } : Room).cells ({ frames := 0, cells := 0, slots := 0, locals := 0 } : Room).slots) := by
  refine MetFree.of_bodySF (plainFor_of_name pn_0) hisR ?_
  intro p e s m args below meth c s₁ Bd hml0 hP hK
  obtain ⟨rfl, hZ, hh⟩ := hP
  have hx := Bd.exec
  have hby := Bd.bytes
  have hml : c.maxLocals = 6 := hml0
  have hown : s.vm.findClass "com/example/dewey/dewey/EncodingCheck" = some m.cls := findClass_of_methodNamed Bd.named
  have hnm := (name_of_methodNamed Bd.named Bd.method).1
  have X0 : Stand p l e ({ frames := 0, cells := 0, slots := 0, locals := 0 } : Room) s m #[(.ref a1), (.ref aA), (.int (4 : Int32)), (.int (5 : Int32))] below meth c s₁ [] 0 0 := Stand.of_body Bd
  have e0 : s₁.heap = h0 := by rw [← hh, Bd.state]; rfl
  have N0 := Fr.nil n0
  have K0 : Keep h0 h0 [a1, aO] := Keep.refl _ _
  have pre0 : ∀ t, Steps p.tables e below (s₁.setTop (mkF m 0 #[.val (.ref a1), .val (.ref aA), .val (.int (4 : Int32)), .val (.int (5 : Int32)), .unset, .unset] [])) t → Steps p.tables e below (s₁.setTop (entryFrame m #[(.ref a1), (.ref aA), (.int (4 : Int32)), (.int (5 : Int32))] 6)) t := fun t k => castTop (ef_cu0 m a1 aA) k
  obtain ⟨cl101, Ar101, q101, S101, Ne101, H101, G101⟩ := id VA
  have hin101 : ¬ ((4 : Int32) < 0 ∨ cl101.slots.size ≤ ((4 : Int32)).toNatClampNeg) := inb_of S101 ⟨by decide, by decide⟩
  have hat101 : cl101.slots[((4 : Int32)).toNatClampNeg]? = some (.int x4) := H101.at hin101 rfl
  obtain ⟨T102, X102, e102, st102⟩ := getF X0 hx hZ hown (host := "") (Or.inl (hw _ (List.mem_of_getElem? (i := 54) rfl))) Via.refl e0 F_needed (g := (mkF m 20 #[.val (.ref a1), .val (.ref aA), .val (.int (4 : Int32)), .val (.int (5 : Int32)), .val (.int (4 : Int32)), .val (.int ld)] [(.ref a1)])) rfl rfl (hb hby d_prog_23_method_10_20)
  have hc103 : ¬ (ld < (128 : Int32)) := (own_ge hl.1 (by decide))
  obtain ⟨T104, X104, e104, st104⟩ := getF X102 hx hZ hown (host := "") (Or.inl (hw _ (List.mem_of_getElem? (i := 47) rfl))) Via.refl e102 F_taken (g := (mkF m 128 #[.val (.ref a1), .val (.ref aA), .val (.int (4 : Int32)), .val (.int (5 : Int32)), .val (.int (4 : Int32)), .val (.int ld)] [(.ref a1), (.ref a1)])) rfl rfl (hb hby d_prog_23_method_10_128)
  obtain ⟨T105, h105, X105, e105, W105, st105⟩ := putF X104 hx hZ hown (host := "") (Or.inl (hw _ (List.mem_of_getElem? (i := 69) rfl))) Via.refl e104 F_start E1 (Or.inl (hw _ (List.mem_of_getElem? (i := 70) rfl))) (hw _ (List.mem_of_getElem? (i := 1) rfl)) (ty := .long) (by decide) rfl rfl (g := (mkF m 138 #[.val (.ref a1), .val (.ref aA), .val (.int (4 : Int32)), .val (.int (5 : Int32)), .val (.int (4 : Int32)), .val (.int ld)] [(.long ((tk + (4 : Int64)) - (4 : Int64))), (.ref a1)])) rfl rfl (hb hby d_prog_23_method_10_138)
  have F105 := F_start.same W105
  have N105 := Fr.snoc X105 N0 g_a1
  have O105 := O0.wr W105 g_a1
  have K105 := K0.wr W105 (Or.inl (List.mem_of_getElem? (i := 0) rfl))
  have f106 := (F_open.other W105 (Or.inr (slot_ne (Or.inr (hw _ (List.mem_of_getElem? (i := 22) rfl))) (Or.inl (hw _ (List.mem_of_getElem? (i := 70) rfl))) (by decide) (t := (.array .byte)) (t' := .long) (by decide) (by decide))))
  obtain ⟨T107, X107, e107, st107⟩ := getF X105 hx hZ hown (host := "") (Or.inl (hw _ (List.mem_of_getElem? (i := 21) rfl))) Via.refl e105 f106 (g := (mkF m 142 #[.val (.ref a1), .val (.ref aA), .val (.int (4 : Int32)), .val (.int (5 : Int32)), .val (.int (4 : Int32)), .val (.int ld)] [(.ref a1)])) rfl rfl (hb hby d_prog_23_method_10_142)
  have f108 := (VA.other W105 (Ne.symm n_a1_aA))
  obtain ⟨cl109, Ar109, q109, S109, Ne109, H109, G109⟩ := id f108
  have hin109 : ¬ ((4 : Int32) < 0 ∨ cl109.slots.size ≤ ((4 : Int32)).toNatClampNeg) := inb_of S109 ⟨by decide, by decide⟩
  have hat109 : cl109.slots[((4 : Int32)).toNatClampNeg]? = some (.int x4) := H109.at hin109 rfl
  have f110 := (VO.other W105 (Ne.symm n_a1_aO))
  obtain ⟨cl111, Ar111, q111, S111, Ne111, H111, G111⟩ := id f110
  have hin111 : ¬ ((0 : Int32) < 0 ∨ cl111.slots.size ≤ ((0 : Int32)).toNatClampNeg) := inb_of S111 ⟨by decide, by decide⟩
  obtain ⟨T112, h112, X112, e112, W112, st112⟩ := stB X107 hx hZ e107 Ar111 (j := (0 : Int32)) hin111 (g := (mkF m 150 #[.val (.ref a1), .val (.ref aA), .val (.int (4 : Int32)), .val (.int (5 : Int32)), .val (.int (4 : Int32)), .val (.int ld)] [(.int x4), (.int (0 : Int32)), (.ref aO)])) rfl rfl (hb hby d_prog_23_method_10_150)
  have V112 : Arv Z h112 aO kO .byte (4 : Int32) [(.int (nar .byte x4)), (.int (0 : Int32)), (.int (0 : Int32)), (.int (0 : Int32))] (.int (0 : Int32)) := Arv.set Ar111 q111 S111 Ne111 H111 G111 (fits_nar_byte _) W112 0 rfl (Nat.le_of_ble_eq_true rfl)
  have N112 := Fr.snoc X112 N105 g_aO
  have O112 := O105.wr W112 g_aO
  have K112 := K105.wr W112 (Or.inl (List.mem_of_getElem? (i := 1) rfl))
  have f113 := ((E1.wr W105).wr W112)
  have f114 := ((F_openCount.other W105 (Or.inr (slot_ne (Or.inl (hw _ (List.mem_of_getElem? (i := 57) rfl))) (Or.inl (hw _ (List.mem_of_getElem? (i := 70) rfl))) (by decide) (t := .int) (t' := .long) (by decide) (by decide)))).other W112 (Or.inl n_a1_aO))
  obtain ⟨T115, h115, X115, e115, W115, st115⟩ := putF X112 hx hZ hown (host := "") (Or.inl (hw _ (List.mem_of_getElem? (i := 56) rfl))) Via.refl e112 f114 f113 (Or.inl (hw _ (List.mem_of_getElem? (i := 57) rfl))) (hw _ (List.mem_of_getElem? (i := 1) rfl)) (ty := .int) (by decide) rfl rfl (g := (mkF m 153 #[.val (.ref a1), .val (.ref aA), .val (.int (4 : Int32)), .val (.int (5 : Int32)), .val (.int (4 : Int32)), .val (.int ld)] [(.int (1 : Int32)), (.ref a1)])) rfl rfl (hb hby d_prog_23_method_10_153)
  have F115 := f114.same W115
  have N115 := Fr.snoc X115 N112 g_a1
  have O115 := O112.wr W115 g_a1
  have K115 := K112.wr W115 (Or.inl (List.mem_of_getElem? (i := 0) rfl))
  have hc116 : ¬ (ld < (194 : Int32)) := hl.1
  have pre117 : ∀ t, Steps p.tables e below (T115.setTop (mkF m 169 #[.val (.ref a1), .val (.ref aA), .val (.int (4 : Int32)), .val (.int (5 : Int32)), .val (.int (4 : Int32)), .val (.int ld)] [(.int (223 : Int32)), (.int ld)])) t → Steps p.tables e below (s₁.setTop (entryFrame m #[(.ref a1), (.ref aA), (.int (4 : Int32)), (.int (5 : Int32))] 6)) t := fun t kk => pre0 t (by
      show Steps p.tables e below (s₁.setTop (mkF m 0 #[.val (.ref a1), .val (.ref aA), .val (.int (4 : Int32)), .val (.int (5 : Int32)), .unset, .unset] [])) _
      refine XS.iloadN X0.here hx rfl (hb hby d_prog_23_method_10_0) rfl ?_
      refine XS.istore X0.here hx rfl (hb hby d_prog_23_method_10_1) rfl (l' := #[.val (.ref a1), .val (.ref aA), .val (.int (4 : Int32)), .val (.int (5 : Int32)), .val (.int (4 : Int32)), .unset]) rfl ?_
      refine XS.iload X0.here hx rfl (hb hby d_prog_23_method_10_3) rfl ?_
      refine XS.iloadN X0.here hx rfl (hb hby d_prog_23_method_10_5) rfl ?_
      show Steps p.tables e below (s₁.setTop (mkF m 6 #[.val (.ref a1), .val (.ref aA), .val (.int (4 : Int32)), .val (.int (5 : Int32)), .val (.int (4 : Int32)), .unset] [(.int (5 : Int32)), (.int (4 : Int32))])) _
      refine XS.icmpNo X0.here hx rfl (hb hby d_prog_23_method_10_6) rfl (tlt (by decide : (4 : Int32) < (5 : Int32))).2.1 ?_
      refine XS.aloadN X0.here hx rfl (hb hby d_prog_23_method_10_9) rfl rfl ?_
      refine XS.iload X0.here hx rfl (hb hby d_prog_23_method_10_10) rfl ?_
      show Steps p.tables e below (s₁.setTop (mkF m 12 #[.val (.ref a1), .val (.ref aA), .val (.int (4 : Int32)), .val (.int (5 : Int32)), .val (.int (4 : Int32)), .unset] [(.int (4 : Int32)), (.ref aA)])) _
      refine X0.baloadBytes hx (j := (4 : Int32)) (v := (.int x4)) (by rw [e0]; exact Ar101.1) (State.isArrayOf_alike hZ.alike Ar101.2.1) Ar101.2.2 hin101 hat101 (g := (mkF m 12 #[.val (.ref a1), .val (.ref aA), .val (.int (4 : Int32)), .val (.int (5 : Int32)), .val (.int (4 : Int32)), .unset] [(.int (4 : Int32)), (.ref aA)])) rfl rfl (hb hby d_prog_23_method_10_12) _ ?_
      show Steps p.tables e below (s₁.setTop (mkF m 13 #[.val (.ref a1), .val (.ref aA), .val (.int (4 : Int32)), .val (.int (5 : Int32)), .val (.int (4 : Int32)), .unset] [(.int x4)])) _
      refine XS.sipush X0.here hx rfl (hb hby d_prog_23_method_10_13) ?_
      refine XS.iand X0.here hx rfl (hb hby d_prog_23_method_10_16) rfl ?_
      show Steps p.tables e below (s₁.setTop (mkF m 17 #[.val (.ref a1), .val (.ref aA), .val (.int (4 : Int32)), .val (.int (5 : Int32)), .val (.int (4 : Int32)), .unset] [(.int (x4 &&& (255 : Int32)))])) _
      rw [show (x4 &&& (255 : Int32)) = ld from h4]
      show Steps p.tables e below (s₁.setTop (mkF m 17 #[.val (.ref a1), .val (.ref aA), .val (.int (4 : Int32)), .val (.int (5 : Int32)), .val (.int (4 : Int32)), .unset] [(.int ld)])) _
      refine XS.istore X0.here hx rfl (hb hby d_prog_23_method_10_17) rfl (l' := #[.val (.ref a1), .val (.ref aA), .val (.int (4 : Int32)), .val (.int (5 : Int32)), .val (.int (4 : Int32)), .val (.int ld)]) rfl ?_
      refine XS.aloadN X0.here hx rfl (hb hby d_prog_23_method_10_19) rfl rfl ?_
      show Steps p.tables e below (s₁.setTop (mkF m 20 #[.val (.ref a1), .val (.ref aA), .val (.int (4 : Int32)), .val (.int (5 : Int32)), .val (.int (4 : Int32)), .val (.int ld)] [(.ref a1)])) _
      refine st102 _ ?_
      show Steps p.tables e below (T102.setTop (mkF m 23 #[.val (.ref a1), .val (.ref aA), .val (.int (4 : Int32)), .val (.int (5 : Int32)), .val (.int (4 : Int32)), .val (.int ld)] [(.int (0 : Int32))])) _
      refine XS.ifYes X102.here hx rfl (pc0 := 23) (pc' := 115) rfl (hb hby d_prog_23_method_10_23) rfl ((if0 _ _).trans (flt (by decide : ¬ ((0 : Int32) < (0 : Int32)))).2.2.2) (by decide) (by decide) ?_
      refine XS.iload X102.here hx rfl (hb hby d_prog_23_method_10_115) rfl ?_
      refine XS.sipush X102.here hx rfl (hb hby d_prog_23_method_10_117) ?_
      refine XS.icmpYes X102.here hx rfl (pc0 := 120) (pc' := 126) rfl (hb hby d_prog_23_method_10_120) rfl (flt hc103).2.1 (by decide) (by decide) ?_
      show Steps p.tables e below (T102.setTop (mkF m 126 #[.val (.ref a1), .val (.ref aA), .val (.int (4 : Int32)), .val (.int (5 : Int32)), .val (.int (4 : Int32)), .val (.int ld)] [])) _
      refine XS.aloadN X102.here hx rfl (hb hby d_prog_23_method_10_126) rfl rfl ?_
      refine XS.aloadN X102.here hx rfl (hb hby d_prog_23_method_10_127) rfl rfl ?_
      show Steps p.tables e below (T102.setTop (mkF m 128 #[.val (.ref a1), .val (.ref aA), .val (.int (4 : Int32)), .val (.int (5 : Int32)), .val (.int (4 : Int32)), .val (.int ld)] [(.ref a1), (.ref a1)])) _
      refine st104 _ ?_
      show Steps p.tables e below (T104.setTop (mkF m 131 #[.val (.ref a1), .val (.ref aA), .val (.int (4 : Int32)), .val (.int (5 : Int32)), .val (.int (4 : Int32)), .val (.int ld)] [(.long tk), (.ref a1)])) _
      refine XS.iload X104.here hx rfl (hb hby d_prog_23_method_10_131) rfl ?_
      refine XS.i2l X104.here hx rfl (hb hby d_prog_23_method_10_133) rfl ?_
      show Steps p.tables e below (T104.setTop (mkF m 134 #[.val (.ref a1), .val (.ref aA), .val (.int (4 : Int32)), .val (.int (5 : Int32)), .val (.int (4 : Int32)), .val (.int ld)] [(.long ((4 : Int32).toInt64)), (.long tk), (.ref a1)])) _
      rw [show ((4 : Int32).toInt64) = (4 : Int64) from (by decide)]
      show Steps p.tables e below (T104.setTop (mkF m 134 #[.val (.ref a1), .val (.ref aA), .val (.int (4 : Int32)), .val (.int (5 : Int32)), .val (.int (4 : Int32)), .val (.int ld)] [(.long (4 : Int64)), (.long tk), (.ref a1)])) _
      refine XS.ladd X104.here hx rfl (hb hby d_prog_23_method_10_134) rfl ?_
      refine XS.iloadN X104.here hx rfl (hb hby d_prog_23_method_10_135) rfl ?_
      refine XS.i2l X104.here hx rfl (hb hby d_prog_23_method_10_136) rfl ?_
      show Steps p.tables e below (T104.setTop (mkF m 137 #[.val (.ref a1), .val (.ref aA), .val (.int (4 : Int32)), .val (.int (5 : Int32)), .val (.int (4 : Int32)), .val (.int ld)] [(.long ((4 : Int32).toInt64)), (.long (tk + (4 : Int64))), (.ref a1)])) _
      rw [show ((4 : Int32).toInt64) = (4 : Int64) from (by decide)]
      show Steps p.tables e below (T104.setTop (mkF m 137 #[.val (.ref a1), .val (.ref aA), .val (.int (4 : Int32)), .val (.int (5 : Int32)), .val (.int (4 : Int32)), .val (.int ld)] [(.long (4 : Int64)), (.long (tk + (4 : Int64))), (.ref a1)])) _
      refine XS.lsub X104.here hx rfl (hb hby d_prog_23_method_10_137) rfl ?_
      show Steps p.tables e below (T104.setTop (mkF m 138 #[.val (.ref a1), .val (.ref aA), .val (.int (4 : Int32)), .val (.int (5 : Int32)), .val (.int (4 : Int32)), .val (.int ld)] [(.long ((tk + (4 : Int64)) - (4 : Int64))), (.ref a1)])) _
      refine st105 _ ?_
      show Steps p.tables e below (T105.setTop (mkF m 141 #[.val (.ref a1), .val (.ref aA), .val (.int (4 : Int32)), .val (.int (5 : Int32)), .val (.int (4 : Int32)), .val (.int ld)] [])) _
      refine XS.aloadN X105.here hx rfl (hb hby d_prog_23_method_10_141) rfl rfl ?_
      show Steps p.tables e below (T105.setTop (mkF m 142 #[.val (.ref a1), .val (.ref aA), .val (.int (4 : Int32)), .val (.int (5 : Int32)), .val (.int (4 : Int32)), .val (.int ld)] [(.ref a1)])) _
      refine st107 _ ?_
      show Steps p.tables e below (T107.setTop (mkF m 145 #[.val (.ref a1), .val (.ref aA), .val (.int (4 : Int32)), .val (.int (5 : Int32)), .val (.int (4 : Int32)), .val (.int ld)] [(.ref aO)])) _
      refine XS.iconst X107.here hx rfl (hb hby d_prog_23_method_10_145) ?_
      refine XS.aloadN X107.here hx rfl (hb hby d_prog_23_method_10_146) rfl rfl ?_
      refine XS.iload X107.here hx rfl (hb hby d_prog_23_method_10_147) rfl ?_
      show Steps p.tables e below (T107.setTop (mkF m 149 #[.val (.ref a1), .val (.ref aA), .val (.int (4 : Int32)), .val (.int (5 : Int32)), .val (.int (4 : Int32)), .val (.int ld)] [(.int (4 : Int32)), (.ref aA), (.int (0 : Int32)), (.ref aO)])) _
      refine X107.baloadBytes hx (j := (4 : Int32)) (v := (.int x4)) (by rw [e107]; exact Ar109.1) (State.isArrayOf_alike hZ.alike Ar109.2.1) Ar109.2.2 hin109 hat109 (g := (mkF m 149 #[.val (.ref a1), .val (.ref aA), .val (.int (4 : Int32)), .val (.int (5 : Int32)), .val (.int (4 : Int32)), .val (.int ld)] [(.int (4 : Int32)), (.ref aA), (.int (0 : Int32)), (.ref aO)])) rfl rfl (hb hby d_prog_23_method_10_149) _ ?_
      show Steps p.tables e below (T107.setTop (mkF m 150 #[.val (.ref a1), .val (.ref aA), .val (.int (4 : Int32)), .val (.int (5 : Int32)), .val (.int (4 : Int32)), .val (.int ld)] [(.int x4), (.int (0 : Int32)), (.ref aO)])) _
      refine st112 _ ?_
      show Steps p.tables e below (T112.setTop (mkF m 151 #[.val (.ref a1), .val (.ref aA), .val (.int (4 : Int32)), .val (.int (5 : Int32)), .val (.int (4 : Int32)), .val (.int ld)] [])) _
      refine XS.aloadN X112.here hx rfl (hb hby d_prog_23_method_10_151) rfl rfl ?_
      refine XS.iconst X112.here hx rfl (hb hby d_prog_23_method_10_152) ?_
      show Steps p.tables e below (T112.setTop (mkF m 153 #[.val (.ref a1), .val (.ref aA), .val (.int (4 : Int32)), .val (.int (5 : Int32)), .val (.int (4 : Int32)), .val (.int ld)] [(.int (1 : Int32)), (.ref a1)])) _
      refine st115 _ ?_
      show Steps p.tables e below (T115.setTop (mkF m 156 #[.val (.ref a1), .val (.ref aA), .val (.int (4 : Int32)), .val (.int (5 : Int32)), .val (.int (4 : Int32)), .val (.int ld)] [])) _
      refine XS.iload X115.here hx rfl (hb hby d_prog_23_method_10_156) rfl ?_
      refine XS.sipush X115.here hx rfl (hb hby d_prog_23_method_10_158) ?_
      refine XS.icmpNo X115.here hx rfl (hb hby d_prog_23_method_10_161) rfl (flt hc116).1 ?_
      refine XS.iload X115.here hx rfl (hb hby d_prog_23_method_10_164) rfl ?_
      show Steps p.tables e below (T115.setTop (mkF m 166 #[.val (.ref a1), .val (.ref aA), .val (.int (4 : Int32)), .val (.int (5 : Int32)), .val (.int (4 : Int32)), .val (.int ld)] [(.int ld)])) _
      refine XS.sipush X115.here hx rfl (hb hby d_prog_23_method_10_166) ?_
      show Steps p.tables e below (T115.setTop (mkF m 169 #[.val (.ref a1), .val (.ref aA), .val (.int (4 : Int32)), .val (.int (5 : Int32)), .val (.int (4 : Int32)), .val (.int ld)] [(.int (223 : Int32)), (.int ld)])) _
      exact kk)
  by_cases hc118 : (223 : Int32) < ld
  · have hc119 : ¬ (ld < (224 : Int32)) := (own_gt' hc118 (by decide))
    have pre120 : ∀ t, Steps p.tables e below (T115.setTop (mkF m 193 #[.val (.ref a1), .val (.ref aA), .val (.int (4 : Int32)), .val (.int (5 : Int32)), .val (.int (4 : Int32)), .val (.int ld)] [(.int (239 : Int32)), (.int ld)])) t → Steps p.tables e below (s₁.setTop (entryFrame m #[(.ref a1), (.ref aA), (.int (4 : Int32)), (.int (5 : Int32))] 6)) t := fun t kk => pre117 t (by
        refine XS.icmpYes X115.here hx rfl (pc0 := 169) (pc' := 180) rfl (hb hby d_prog_23_method_10_169) rfl (tlt hc118).2.2.1 (by decide) (by decide) ?_
        refine XS.iload X115.here hx rfl (hb hby d_prog_23_method_10_180) rfl ?_
        refine XS.sipush X115.here hx rfl (hb hby d_prog_23_method_10_182) ?_
        refine XS.icmpNo X115.here hx rfl (hb hby d_prog_23_method_10_185) rfl (flt hc119).1 ?_
        show Steps p.tables e below (T115.setTop (mkF m 188 #[.val (.ref a1), .val (.ref aA), .val (.int (4 : Int32)), .val (.int (5 : Int32)), .val (.int (4 : Int32)), .val (.int ld)] [])) _
        refine XS.iload X115.here hx rfl (hb hby d_prog_23_method_10_188) rfl ?_
        refine XS.sipush X115.here hx rfl (hb hby d_prog_23_method_10_190) ?_
        show Steps p.tables e below (T115.setTop (mkF m 193 #[.val (.ref a1), .val (.ref aA), .val (.int (4 : Int32)), .val (.int (5 : Int32)), .val (.int (4 : Int32)), .val (.int ld)] [(.int (239 : Int32)), (.int ld)])) _
        exact kk)
    by_cases hc121 : (239 : Int32) < ld
    · have hc122 : ¬ (ld < (240 : Int32)) := (own_gt' hc121 (by decide))
      have hc123 : ¬ ((244 : Int32) < ld) := hl.2
      have f124 := (f113.wr W115)
      have f125 := (((F_needed.other W105 (Or.inr (slot_ne (Or.inl (hw _ (List.mem_of_getElem? (i := 55) rfl))) (Or.inl (hw _ (List.mem_of_getElem? (i := 70) rfl))) (by decide) (t := .int) (t' := .long) (by decide) (by decide)))).other W112 (Or.inl n_a1_aO)).other W115 (Or.inr (slot_ne (Or.inl (hw _ (List.mem_of_getElem? (i := 55) rfl))) (Or.inl (hw _ (List.mem_of_getElem? (i := 57) rfl))) (by decide) (t := .int) (t' := .int) (by decide) (by decide))))
      obtain ⟨T126, h126, X126, e126, W126, st126⟩ := putF X115 hx hZ hown (host := "") (Or.inl (hw _ (List.mem_of_getElem? (i := 54) rfl))) Via.refl e115 f125 f124 (Or.inl (hw _ (List.mem_of_getElem? (i := 55) rfl))) (hw _ (List.mem_of_getElem? (i := 1) rfl)) (ty := .int) (by decide) rfl rfl (g := (mkF m 264 #[.val (.ref a1), .val (.ref aA), .val (.int (4 : Int32)), .val (.int (5 : Int32)), .val (.int (4 : Int32)), .val (.int ld)] [(.int (3 : Int32)), (.ref a1)])) rfl rfl (hb hby d_prog_23_method_10_264)
      have F126 := f125.same W126
      have N126 := Fr.snoc X126 N115 g_a1
      have O126 := O115.wr W126 g_a1
      have K126 := K115.wr W126 (Or.inl (List.mem_of_getElem? (i := 0) rfl))
      have pre127 : ∀ t, Steps p.tables e below (T126.setTop (mkF m 273 #[.val (.ref a1), .val (.ref aA), .val (.int (4 : Int32)), .val (.int (5 : Int32)), .val (.int (4 : Int32)), .val (.int ld)] [(.int (240 : Int32)), (.int ld), (.ref a1)])) t → Steps p.tables e below (s₁.setTop (entryFrame m #[(.ref a1), (.ref aA), (.int (4 : Int32)), (.int (5 : Int32))] 6)) t := fun t kk => pre120 t (by
          refine XS.icmpYes X115.here hx rfl (pc0 := 193) (pc' := 246) rfl (hb hby d_prog_23_method_10_193) rfl (tlt hc121).2.2.1 (by decide) (by decide) ?_
          refine XS.iload X115.here hx rfl (hb hby d_prog_23_method_10_246) rfl ?_
          refine XS.sipush X115.here hx rfl (hb hby d_prog_23_method_10_248) ?_
          refine XS.icmpNo X115.here hx rfl (hb hby d_prog_23_method_10_251) rfl (flt hc122).1 ?_
          show Steps p.tables e below (T115.setTop (mkF m 254 #[.val (.ref a1), .val (.ref aA), .val (.int (4 : Int32)), .val (.int (5 : Int32)), .val (.int (4 : Int32)), .val (.int ld)] [])) _
          refine XS.iload X115.here hx rfl (hb hby d_prog_23_method_10_254) rfl ?_
          refine XS.sipush X115.here hx rfl (hb hby d_prog_23_method_10_256) ?_
          refine XS.icmpNo X115.here hx rfl (hb hby d_prog_23_method_10_259) rfl (flt hc123).2.2.1 ?_
          refine XS.aloadN X115.here hx rfl (hb hby d_prog_23_method_10_262) rfl rfl ?_
          show Steps p.tables e below (T115.setTop (mkF m 263 #[.val (.ref a1), .val (.ref aA), .val (.int (4 : Int32)), .val (.int (5 : Int32)), .val (.int (4 : Int32)), .val (.int ld)] [(.ref a1)])) _
          refine XS.iconst X115.here hx rfl (hb hby d_prog_23_method_10_263) ?_
          show Steps p.tables e below (T115.setTop (mkF m 264 #[.val (.ref a1), .val (.ref aA), .val (.int (4 : Int32)), .val (.int (5 : Int32)), .val (.int (4 : Int32)), .val (.int ld)] [(.int (3 : Int32)), (.ref a1)])) _
          refine st126 _ ?_
          show Steps p.tables e below (T126.setTop (mkF m 267 #[.val (.ref a1), .val (.ref aA), .val (.int (4 : Int32)), .val (.int (5 : Int32)), .val (.int (4 : Int32)), .val (.int ld)] [])) _
          refine XS.aloadN X126.here hx rfl (hb hby d_prog_23_method_10_267) rfl rfl ?_
          refine XS.iload X126.here hx rfl (hb hby d_prog_23_method_10_268) rfl ?_
          refine XS.sipush X126.here hx rfl (hb hby d_prog_23_method_10_270) ?_
          show Steps p.tables e below (T126.setTop (mkF m 273 #[.val (.ref a1), .val (.ref aA), .val (.int (4 : Int32)), .val (.int (5 : Int32)), .val (.int (4 : Int32)), .val (.int ld)] [(.int (240 : Int32)), (.int ld), (.ref a1)])) _
          exact kk)
      obtain ⟨lo, h_lo⟩ : ∃ z : Int32, z = (if ld = (240 : Int32) then (144 : Int32) else (128 : Int32)) := ⟨_, rfl⟩
      have pre129 : ∀ t, Steps p.tables e below (T126.setTop (mkF m 285 #[.val (.ref a1), .val (.ref aA), .val (.int (4 : Int32)), .val (.int (5 : Int32)), .val (.int (4 : Int32)), .val (.int ld)] [(.int lo), (.ref a1)])) t → Steps p.tables e below (s₁.setTop (entryFrame m #[(.ref a1), (.ref aA), (.int (4 : Int32)), (.int (5 : Int32))] 6)) t := fun t kk => pre127 t (by
          by_cases hc128 : ld = (240 : Int32)
          · refine XS.icmpNo X126.here hx rfl (hb hby d_prog_23_method_10_273) rfl (teq hc128).2 ?_
            show Steps p.tables e below (T126.setTop (mkF m 276 #[.val (.ref a1), .val (.ref aA), .val (.int (4 : Int32)), .val (.int (5 : Int32)), .val (.int (4 : Int32)), .val (.int ld)] [(.ref a1)])) _
            refine XS.sipush X126.here hx rfl (hb hby d_prog_23_method_10_276) ?_
            show Steps p.tables e below (T126.setTop (mkF m 279 #[.val (.ref a1), .val (.ref aA), .val (.int (4 : Int32)), .val (.int (5 : Int32)), .val (.int (4 : Int32)), .val (.int ld)] [(.int (144 : Int32)), (.ref a1)])) _
            refine XS.goto X126.here hx rfl (pc0 := 279) (pc' := 285) rfl (hb hby d_prog_23_method_10_279) (by decide) (by decide) ?_
            show Steps p.tables e below (T126.setTop (mkF m 285 #[.val (.ref a1), .val (.ref aA), .val (.int (4 : Int32)), .val (.int (5 : Int32)), .val (.int (4 : Int32)), .val (.int ld)] [(.int (144 : Int32)), (.ref a1)])) _
            rw [show lo = (144 : Int32) from by rw [h_lo, if_pos hc128]] at kk
            exact kk
          · refine XS.icmpYes X126.here hx rfl (pc0 := 273) (pc' := 282) rfl (hb hby d_prog_23_method_10_273) rfl (feq hc128).2 (by decide) (by decide) ?_
            show Steps p.tables e below (T126.setTop (mkF m 282 #[.val (.ref a1), .val (.ref aA), .val (.int (4 : Int32)), .val (.int (5 : Int32)), .val (.int (4 : Int32)), .val (.int ld)] [(.ref a1)])) _
            refine XS.sipush X126.here hx rfl (hb hby d_prog_23_method_10_282) ?_
            show Steps p.tables e below (T126.setTop (mkF m 285 #[.val (.ref a1), .val (.ref aA), .val (.int (4 : Int32)), .val (.int (5 : Int32)), .val (.int (4 : Int32)), .val (.int ld)] [(.int (128 : Int32)), (.ref a1)])) _
            rw [show lo = (128 : Int32) from by rw [h_lo, if_neg hc128]] at kk
            exact kk)
      have f130 := (f124.wr W126)
      have f131 := ((((F_low.other W105 (Or.inr (slot_ne (Or.inl (hw _ (List.mem_of_getElem? (i := 18) rfl))) (Or.inl (hw _ (List.mem_of_getElem? (i := 70) rfl))) (by decide) (t := .int) (t' := .long) (by decide) (by decide)))).other W112 (Or.inl n_a1_aO)).other W115 (Or.inr (slot_ne (Or.inl (hw _ (List.mem_of_getElem? (i := 18) rfl))) (Or.inl (hw _ (List.mem_of_getElem? (i := 57) rfl))) (by decide) (t := .int) (t' := .int) (by decide) (by decide)))).other W126 (Or.inr (slot_ne (Or.inl (hw _ (List.mem_of_getElem? (i := 18) rfl))) (Or.inl (hw _ (List.mem_of_getElem? (i := 55) rfl))) (by decide) (t := .int) (t' := .int) (by decide) (by decide))))
      obtain ⟨T132, h132, X132, e132, W132, st132⟩ := putF X126 hx hZ hown (host := "") (Or.inl (hw _ (List.mem_of_getElem? (i := 17) rfl))) Via.refl e126 f131 f130 (Or.inl (hw _ (List.mem_of_getElem? (i := 18) rfl))) (hw _ (List.mem_of_getElem? (i := 1) rfl)) (ty := .int) (by decide) rfl rfl (g := (mkF m 285 #[.val (.ref a1), .val (.ref aA), .val (.int (4 : Int32)), .val (.int (5 : Int32)), .val (.int (4 : Int32)), .val (.int ld)] [(.int lo), (.ref a1)])) rfl rfl (hb hby d_prog_23_method_10_285)
      have F132 := f131.same W132
      have N132 := Fr.snoc X132 N126 g_a1
      have O132 := O126.wr W132 g_a1
      have K132 := K126.wr W132 (Or.inl (List.mem_of_getElem? (i := 0) rfl))
      have pre133 : ∀ t, Steps p.tables e below (T132.setTop (mkF m 294 #[.val (.ref a1), .val (.ref aA), .val (.int (4 : Int32)), .val (.int (5 : Int32)), .val (.int (4 : Int32)), .val (.int ld)] [(.int (244 : Int32)), (.int ld), (.ref a1)])) t → Steps p.tables e below (s₁.setTop (entryFrame m #[(.ref a1), (.ref aA), (.int (4 : Int32)), (.int (5 : Int32))] 6)) t := fun t kk => pre129 t (by
          show Steps p.tables e below (T126.setTop (mkF m 285 #[.val (.ref a1), .val (.ref aA), .val (.int (4 : Int32)), .val (.int (5 : Int32)), .val (.int (4 : Int32)), .val (.int ld)] [(.int lo), (.ref a1)])) _
          refine st132 _ ?_
          show Steps p.tables e below (T132.setTop (mkF m 288 #[.val (.ref a1), .val (.ref aA), .val (.int (4 : Int32)), .val (.int (5 : Int32)), .val (.int (4 : Int32)), .val (.int ld)] [])) _
          refine XS.aloadN X132.here hx rfl (hb hby d_prog_23_method_10_288) rfl rfl ?_
          refine XS.iload X132.here hx rfl (hb hby d_prog_23_method_10_289) rfl ?_
          refine XS.sipush X132.here hx rfl (hb hby d_prog_23_method_10_291) ?_
          show Steps p.tables e below (T132.setTop (mkF m 294 #[.val (.ref a1), .val (.ref aA), .val (.int (4 : Int32)), .val (.int (5 : Int32)), .val (.int (4 : Int32)), .val (.int ld)] [(.int (244 : Int32)), (.int ld), (.ref a1)])) _
          exact kk)
      obtain ⟨hi, h_hi⟩ : ∃ z : Int32, z = (if ld = (244 : Int32) then (143 : Int32) else (191 : Int32)) := ⟨_, rfl⟩
      have pre135 : ∀ t, Steps p.tables e below (T132.setTop (mkF m 306 #[.val (.ref a1), .val (.ref aA), .val (.int (4 : Int32)), .val (.int (5 : Int32)), .val (.int (4 : Int32)), .val (.int ld)] [(.int hi), (.ref a1)])) t → Steps p.tables e below (s₁.setTop (entryFrame m #[(.ref a1), (.ref aA), (.int (4 : Int32)), (.int (5 : Int32))] 6)) t := fun t kk => pre133 t (by
          by_cases hc134 : ld = (244 : Int32)
          · refine XS.icmpNo X132.here hx rfl (hb hby d_prog_23_method_10_294) rfl (teq hc134).2 ?_
            show Steps p.tables e below (T132.setTop (mkF m 297 #[.val (.ref a1), .val (.ref aA), .val (.int (4 : Int32)), .val (.int (5 : Int32)), .val (.int (4 : Int32)), .val (.int ld)] [(.ref a1)])) _
            refine XS.sipush X132.here hx rfl (hb hby d_prog_23_method_10_297) ?_
            show Steps p.tables e below (T132.setTop (mkF m 300 #[.val (.ref a1), .val (.ref aA), .val (.int (4 : Int32)), .val (.int (5 : Int32)), .val (.int (4 : Int32)), .val (.int ld)] [(.int (143 : Int32)), (.ref a1)])) _
            refine XS.goto X132.here hx rfl (pc0 := 300) (pc' := 306) rfl (hb hby d_prog_23_method_10_300) (by decide) (by decide) ?_
            show Steps p.tables e below (T132.setTop (mkF m 306 #[.val (.ref a1), .val (.ref aA), .val (.int (4 : Int32)), .val (.int (5 : Int32)), .val (.int (4 : Int32)), .val (.int ld)] [(.int (143 : Int32)), (.ref a1)])) _
            rw [show hi = (143 : Int32) from by rw [h_hi, if_pos hc134]] at kk
            exact kk
          · refine XS.icmpYes X132.here hx rfl (pc0 := 294) (pc' := 303) rfl (hb hby d_prog_23_method_10_294) rfl (feq hc134).2 (by decide) (by decide) ?_
            show Steps p.tables e below (T132.setTop (mkF m 303 #[.val (.ref a1), .val (.ref aA), .val (.int (4 : Int32)), .val (.int (5 : Int32)), .val (.int (4 : Int32)), .val (.int ld)] [(.ref a1)])) _
            refine XS.sipush X132.here hx rfl (hb hby d_prog_23_method_10_303) ?_
            show Steps p.tables e below (T132.setTop (mkF m 306 #[.val (.ref a1), .val (.ref aA), .val (.int (4 : Int32)), .val (.int (5 : Int32)), .val (.int (4 : Int32)), .val (.int ld)] [(.int (191 : Int32)), (.ref a1)])) _
            rw [show hi = (191 : Int32) from by rw [h_hi, if_neg hc134]] at kk
            exact kk)
      have f136 := (f130.wr W132)
      have f137 := (((((F_high.other W105 (Or.inr (slot_ne (Or.inl (hw _ (List.mem_of_getElem? (i := 20) rfl))) (Or.inl (hw _ (List.mem_of_getElem? (i := 70) rfl))) (by decide) (t := .int) (t' := .long) (by decide) (by decide)))).other W112 (Or.inl n_a1_aO)).other W115 (Or.inr (slot_ne (Or.inl (hw _ (List.mem_of_getElem? (i := 20) rfl))) (Or.inl (hw _ (List.mem_of_getElem? (i := 57) rfl))) (by decide) (t := .int) (t' := .int) (by decide) (by decide)))).other W126 (Or.inr (slot_ne (Or.inl (hw _ (List.mem_of_getElem? (i := 20) rfl))) (Or.inl (hw _ (List.mem_of_getElem? (i := 55) rfl))) (by decide) (t := .int) (t' := .int) (by decide) (by decide)))).other W132 (Or.inr (slot_ne (Or.inl (hw _ (List.mem_of_getElem? (i := 20) rfl))) (Or.inl (hw _ (List.mem_of_getElem? (i := 18) rfl))) (by decide) (t := .int) (t' := .int) (by decide) (by decide))))
      obtain ⟨T138, h138, X138, e138, W138, st138⟩ := putF X132 hx hZ hown (host := "") (Or.inl (hw _ (List.mem_of_getElem? (i := 19) rfl))) Via.refl e132 f137 f136 (Or.inl (hw _ (List.mem_of_getElem? (i := 20) rfl))) (hw _ (List.mem_of_getElem? (i := 1) rfl)) (ty := .int) (by decide) rfl rfl (g := (mkF m 306 #[.val (.ref a1), .val (.ref aA), .val (.int (4 : Int32)), .val (.int (5 : Int32)), .val (.int (4 : Int32)), .val (.int ld)] [(.int hi), (.ref a1)])) rfl rfl (hb hby d_prog_23_method_10_306)
      have F138 := f137.same W138
      have N138 := Fr.snoc X138 N132 g_a1
      have O138 := O132.wr W138 g_a1
      have K138 := K132.wr W138 (Or.inl (List.mem_of_getElem? (i := 0) rfl))
      have f139 := (f136.wr W138)
      have f140 := ((F126.other W132 (Or.inr (slot_ne (Or.inl (hw _ (List.mem_of_getElem? (i := 55) rfl))) (Or.inl (hw _ (List.mem_of_getElem? (i := 18) rfl))) (by decide) (t := .int) (t' := .int) (by decide) (by decide)))).other W138 (Or.inr (slot_ne (Or.inl (hw _ (List.mem_of_getElem? (i := 55) rfl))) (Or.inl (hw _ (List.mem_of_getElem? (i := 20) rfl))) (by decide) (t := .int) (t' := .int) (by decide) (by decide))))
      have f141 := (((F115.other W126 (Or.inr (slot_ne (Or.inl (hw _ (List.mem_of_getElem? (i := 57) rfl))) (Or.inl (hw _ (List.mem_of_getElem? (i := 55) rfl))) (by decide) (t := .int) (t' := .int) (by decide) (by decide)))).other W132 (Or.inr (slot_ne (Or.inl (hw _ (List.mem_of_getElem? (i := 57) rfl))) (Or.inl (hw _ (List.mem_of_getElem? (i := 18) rfl))) (by decide) (t := .int) (t' := .int) (by decide) (by decide)))).other W138 (Or.inr (slot_ne (Or.inl (hw _ (List.mem_of_getElem? (i := 57) rfl))) (Or.inl (hw _ (List.mem_of_getElem? (i := 20) rfl))) (by decide) (t := .int) (t' := .int) (by decide) (by decide))))
      have f142 := ((((((F_taken.other W105 (Or.inr (slot_ne (Or.inl (hw _ (List.mem_of_getElem? (i := 48) rfl))) (Or.inl (hw _ (List.mem_of_getElem? (i := 70) rfl))) (by decide) (t := .long) (t' := .long) (by decide) (by decide)))).other W112 (Or.inl n_a1_aO)).other W115 (Or.inr (slot_ne (Or.inl (hw _ (List.mem_of_getElem? (i := 48) rfl))) (Or.inl (hw _ (List.mem_of_getElem? (i := 57) rfl))) (by decide) (t := .long) (t' := .int) (by decide) (by decide)))).other W126 (Or.inr (slot_ne (Or.inl (hw _ (List.mem_of_getElem? (i := 48) rfl))) (Or.inl (hw _ (List.mem_of_getElem? (i := 55) rfl))) (by decide) (t := .long) (t' := .int) (by decide) (by decide)))).other W132 (Or.inr (slot_ne (Or.inl (hw _ (List.mem_of_getElem? (i := 48) rfl))) (Or.inl (hw _ (List.mem_of_getElem? (i := 18) rfl))) (by decide) (t := .long) (t' := .int) (by decide) (by decide)))).other W138 (Or.inr (slot_ne (Or.inl (hw _ (List.mem_of_getElem? (i := 48) rfl))) (Or.inl (hw _ (List.mem_of_getElem? (i := 20) rfl))) (by decide) (t := .long) (t' := .int) (by decide) (by decide))))
      have f143 := ((((((F_rule.other W105 (Or.inr (slot_ne (Or.inl (hw _ (List.mem_of_getElem? (i := 16) rfl))) (Or.inl (hw _ (List.mem_of_getElem? (i := 70) rfl))) (by decide) (t := (.object "com/example/dewey/dewey/EncodingCheck$Rule")) (t' := .long) (by decide) (by decide)))).other W112 (Or.inl n_a1_aO)).other W115 (Or.inr (slot_ne (Or.inl (hw _ (List.mem_of_getElem? (i := 16) rfl))) (Or.inl (hw _ (List.mem_of_getElem? (i := 57) rfl))) (by decide) (t := (.object "com/example/dewey/dewey/EncodingCheck$Rule")) (t' := .int) (by decide) (by decide)))).other W126 (Or.inr (slot_ne (Or.inl (hw _ (List.mem_of_getElem? (i := 16) rfl))) (Or.inl (hw _ (List.mem_of_getElem? (i := 55) rfl))) (by decide) (t := (.object "com/example/dewey/dewey/EncodingCheck$Rule")) (t' := .int) (by decide) (by decide)))).other W132 (Or.inr (slot_ne (Or.inl (hw _ (List.mem_of_getElem? (i := 16) rfl))) (Or.inl (hw _ (List.mem_of_getElem? (i := 18) rfl))) (by decide) (t := (.object "com/example/dewey/dewey/EncodingCheck$Rule")) (t' := .int) (by decide) (by decide)))).other W138 (Or.inr (slot_ne (Or.inl (hw _ (List.mem_of_getElem? (i := 16) rfl))) (Or.inl (hw _ (List.mem_of_getElem? (i := 20) rfl))) (by decide) (t := (.object "com/example/dewey/dewey/EncodingCheck$Rule")) (t' := .int) (by decide) (by decide))))
      obtain ⟨fs, hr, hrun, hended, hW, hsame⟩ := X138.leave (v := none) (fun _ => rfl)
      refine ⟨_, _, pre135 _ ?_, hrun, hended, _, _, rfl, ?_, ⟨_, rfl⟩, hW, hsame.mono (by decide) (by decide)⟩
      · show Steps p.tables e below (T132.setTop (mkF m 306 #[.val (.ref a1), .val (.ref aA), .val (.int (4 : Int32)), .val (.int (5 : Int32)), .val (.int (4 : Int32)), .val (.int ld)] [(.int hi), (.ref a1)])) _
        refine st138 _ ?_
        show Steps p.tables e below (T138.setTop (mkF m 309 #[.val (.ref a1), .val (.ref aA), .val (.int (4 : Int32)), .val (.int (5 : Int32)), .val (.int (4 : Int32)), .val (.int ld)] [])) _
        refine XS.goto X138.here hx rfl (pc0 := 309) (pc' := 318) rfl (hb hby d_prog_23_method_10_309) (by decide) (by decide) ?_
        refine XS.iinc X138.here hx rfl (hb hby d_prog_23_method_10_318) rfl (l' := #[.val (.ref a1), .val (.ref aA), .val (.int (4 : Int32)), .val (.int (5 : Int32)), .val (.int ((4 : Int32) + (1 : Int32))), .val (.int ld)]) rfl ?_
        show Steps p.tables e below (T138.setTop (mkF m 321 #[.val (.ref a1), .val (.ref aA), .val (.int (4 : Int32)), .val (.int (5 : Int32)), .val (.int ((4 : Int32) + (1 : Int32))), .val (.int ld)] [])) _
        rw [show ((4 : Int32) + (1 : Int32)) = (5 : Int32) from (by decide)]
        show Steps p.tables e below (T138.setTop (mkF m 321 #[.val (.ref a1), .val (.ref aA), .val (.int (4 : Int32)), .val (.int (5 : Int32)), .val (.int (5 : Int32)), .val (.int ld)] [])) _
        refine XS.goto X138.here hx rfl (pc0 := 321) (pc' := 3) rfl (hb hby d_prog_23_method_10_321) (by decide) (by decide) ?_
        refine XS.iload X138.here hx rfl (hb hby d_prog_23_method_10_3) rfl ?_
        refine XS.iloadN X138.here hx rfl (hb hby d_prog_23_method_10_5) rfl ?_
        refine XS.icmpYes X138.here hx rfl (pc0 := 6) (pc' := 324) rfl (hb hby d_prog_23_method_10_6) rfl (flt (by decide : ¬ ((5 : Int32) < (5 : Int32)))).2.1 (by decide) (by decide) ?_
        show Steps p.tables e below (T138.setTop (mkF m 324 #[.val (.ref a1), .val (.ref aA), .val (.int (4 : Int32)), .val (.int (5 : Int32)), .val (.int (5 : Int32)), .val (.int ld)] [])) _
        exact X138.returnOut hx Bd.returns (hb hby d_prog_23_method_10_324) hr
      · show Q_cu0 Z a1 aA kA aO kO x4 x5 ld c1 tk uL uH uC uS rU r16 r8 rA h0 n0 _ T138.heap _
        rw [e138]
        exact ⟨_, _, rfl, N138, K138, f139, f140, f141, f142, f143⟩
    · have f144 := (f113.wr W115)
      have f145 := (((F_needed.other W105 (Or.inr (slot_ne (Or.inl (hw _ (List.mem_of_getElem? (i := 55) rfl))) (Or.inl (hw _ (List.mem_of_getElem? (i := 70) rfl))) (by decide) (t := .int) (t' := .long) (by decide) (by decide)))).other W112 (Or.inl n_a1_aO)).other W115 (Or.inr (slot_ne (Or.inl (hw _ (List.mem_of_getElem? (i := 55) rfl))) (Or.inl (hw _ (List.mem_of_getElem? (i := 57) rfl))) (by decide) (t := .int) (t' := .int) (by decide) (by decide))))
      obtain ⟨T146, h146, X146, e146, W146, st146⟩ := putF X115 hx hZ hown (host := "") (Or.inl (hw _ (List.mem_of_getElem? (i := 54) rfl))) Via.refl e115 f145 f144 (Or.inl (hw _ (List.mem_of_getElem? (i := 55) rfl))) (hw _ (List.mem_of_getElem? (i := 1) rfl)) (ty := .int) (by decide) rfl rfl (g := (mkF m 198 #[.val (.ref a1), .val (.ref aA), .val (.int (4 : Int32)), .val (.int (5 : Int32)), .val (.int (4 : Int32)), .val (.int ld)] [(.int (2 : Int32)), (.ref a1)])) rfl rfl (hb hby d_prog_23_method_10_198)
      have F146 := f145.same W146
      have N146 := Fr.snoc X146 N115 g_a1
      have O146 := O115.wr W146 g_a1
      have K146 := K115.wr W146 (Or.inl (List.mem_of_getElem? (i := 0) rfl))
      have pre147 : ∀ t, Steps p.tables e below (T146.setTop (mkF m 207 #[.val (.ref a1), .val (.ref aA), .val (.int (4 : Int32)), .val (.int (5 : Int32)), .val (.int (4 : Int32)), .val (.int ld)] [(.int (224 : Int32)), (.int ld), (.ref a1)])) t → Steps p.tables e below (s₁.setTop (entryFrame m #[(.ref a1), (.ref aA), (.int (4 : Int32)), (.int (5 : Int32))] 6)) t := fun t kk => pre120 t (by
          refine XS.icmpNo X115.here hx rfl (hb hby d_prog_23_method_10_193) rfl (flt hc121).2.2.1 ?_
          refine XS.aloadN X115.here hx rfl (hb hby d_prog_23_method_10_196) rfl rfl ?_
          refine XS.iconst X115.here hx rfl (hb hby d_prog_23_method_10_197) ?_
          show Steps p.tables e below (T115.setTop (mkF m 198 #[.val (.ref a1), .val (.ref aA), .val (.int (4 : Int32)), .val (.int (5 : Int32)), .val (.int (4 : Int32)), .val (.int ld)] [(.int (2 : Int32)), (.ref a1)])) _
          refine st146 _ ?_
          show Steps p.tables e below (T146.setTop (mkF m 201 #[.val (.ref a1), .val (.ref aA), .val (.int (4 : Int32)), .val (.int (5 : Int32)), .val (.int (4 : Int32)), .val (.int ld)] [])) _
          refine XS.aloadN X146.here hx rfl (hb hby d_prog_23_method_10_201) rfl rfl ?_
          refine XS.iload X146.here hx rfl (hb hby d_prog_23_method_10_202) rfl ?_
          refine XS.sipush X146.here hx rfl (hb hby d_prog_23_method_10_204) ?_
          show Steps p.tables e below (T146.setTop (mkF m 207 #[.val (.ref a1), .val (.ref aA), .val (.int (4 : Int32)), .val (.int (5 : Int32)), .val (.int (4 : Int32)), .val (.int ld)] [(.int (224 : Int32)), (.int ld), (.ref a1)])) _
          exact kk)
      obtain ⟨lo, h_lo⟩ : ∃ z : Int32, z = (if ld = (224 : Int32) then (160 : Int32) else (128 : Int32)) := ⟨_, rfl⟩
      have pre149 : ∀ t, Steps p.tables e below (T146.setTop (mkF m 219 #[.val (.ref a1), .val (.ref aA), .val (.int (4 : Int32)), .val (.int (5 : Int32)), .val (.int (4 : Int32)), .val (.int ld)] [(.int lo), (.ref a1)])) t → Steps p.tables e below (s₁.setTop (entryFrame m #[(.ref a1), (.ref aA), (.int (4 : Int32)), (.int (5 : Int32))] 6)) t := fun t kk => pre147 t (by
          by_cases hc148 : ld = (224 : Int32)
          · refine XS.icmpNo X146.here hx rfl (hb hby d_prog_23_method_10_207) rfl (teq hc148).2 ?_
            show Steps p.tables e below (T146.setTop (mkF m 210 #[.val (.ref a1), .val (.ref aA), .val (.int (4 : Int32)), .val (.int (5 : Int32)), .val (.int (4 : Int32)), .val (.int ld)] [(.ref a1)])) _
            refine XS.sipush X146.here hx rfl (hb hby d_prog_23_method_10_210) ?_
            show Steps p.tables e below (T146.setTop (mkF m 213 #[.val (.ref a1), .val (.ref aA), .val (.int (4 : Int32)), .val (.int (5 : Int32)), .val (.int (4 : Int32)), .val (.int ld)] [(.int (160 : Int32)), (.ref a1)])) _
            refine XS.goto X146.here hx rfl (pc0 := 213) (pc' := 219) rfl (hb hby d_prog_23_method_10_213) (by decide) (by decide) ?_
            show Steps p.tables e below (T146.setTop (mkF m 219 #[.val (.ref a1), .val (.ref aA), .val (.int (4 : Int32)), .val (.int (5 : Int32)), .val (.int (4 : Int32)), .val (.int ld)] [(.int (160 : Int32)), (.ref a1)])) _
            rw [show lo = (160 : Int32) from by rw [h_lo, if_pos hc148]] at kk
            exact kk
          · refine XS.icmpYes X146.here hx rfl (pc0 := 207) (pc' := 216) rfl (hb hby d_prog_23_method_10_207) rfl (feq hc148).2 (by decide) (by decide) ?_
            show Steps p.tables e below (T146.setTop (mkF m 216 #[.val (.ref a1), .val (.ref aA), .val (.int (4 : Int32)), .val (.int (5 : Int32)), .val (.int (4 : Int32)), .val (.int ld)] [(.ref a1)])) _
            refine XS.sipush X146.here hx rfl (hb hby d_prog_23_method_10_216) ?_
            show Steps p.tables e below (T146.setTop (mkF m 219 #[.val (.ref a1), .val (.ref aA), .val (.int (4 : Int32)), .val (.int (5 : Int32)), .val (.int (4 : Int32)), .val (.int ld)] [(.int (128 : Int32)), (.ref a1)])) _
            rw [show lo = (128 : Int32) from by rw [h_lo, if_neg hc148]] at kk
            exact kk)
      have f150 := (f144.wr W146)
      have f151 := ((((F_low.other W105 (Or.inr (slot_ne (Or.inl (hw _ (List.mem_of_getElem? (i := 18) rfl))) (Or.inl (hw _ (List.mem_of_getElem? (i := 70) rfl))) (by decide) (t := .int) (t' := .long) (by decide) (by decide)))).other W112 (Or.inl n_a1_aO)).other W115 (Or.inr (slot_ne (Or.inl (hw _ (List.mem_of_getElem? (i := 18) rfl))) (Or.inl (hw _ (List.mem_of_getElem? (i := 57) rfl))) (by decide) (t := .int) (t' := .int) (by decide) (by decide)))).other W146 (Or.inr (slot_ne (Or.inl (hw _ (List.mem_of_getElem? (i := 18) rfl))) (Or.inl (hw _ (List.mem_of_getElem? (i := 55) rfl))) (by decide) (t := .int) (t' := .int) (by decide) (by decide))))
      obtain ⟨T152, h152, X152, e152, W152, st152⟩ := putF X146 hx hZ hown (host := "") (Or.inl (hw _ (List.mem_of_getElem? (i := 17) rfl))) Via.refl e146 f151 f150 (Or.inl (hw _ (List.mem_of_getElem? (i := 18) rfl))) (hw _ (List.mem_of_getElem? (i := 1) rfl)) (ty := .int) (by decide) rfl rfl (g := (mkF m 219 #[.val (.ref a1), .val (.ref aA), .val (.int (4 : Int32)), .val (.int (5 : Int32)), .val (.int (4 : Int32)), .val (.int ld)] [(.int lo), (.ref a1)])) rfl rfl (hb hby d_prog_23_method_10_219)
      have F152 := f151.same W152
      have N152 := Fr.snoc X152 N146 g_a1
      have O152 := O146.wr W152 g_a1
      have K152 := K146.wr W152 (Or.inl (List.mem_of_getElem? (i := 0) rfl))
      have pre153 : ∀ t, Steps p.tables e below (T152.setTop (mkF m 228 #[.val (.ref a1), .val (.ref aA), .val (.int (4 : Int32)), .val (.int (5 : Int32)), .val (.int (4 : Int32)), .val (.int ld)] [(.int (237 : Int32)), (.int ld), (.ref a1)])) t → Steps p.tables e below (s₁.setTop (entryFrame m #[(.ref a1), (.ref aA), (.int (4 : Int32)), (.int (5 : Int32))] 6)) t := fun t kk => pre149 t (by
          show Steps p.tables e below (T146.setTop (mkF m 219 #[.val (.ref a1), .val (.ref aA), .val (.int (4 : Int32)), .val (.int (5 : Int32)), .val (.int (4 : Int32)), .val (.int ld)] [(.int lo), (.ref a1)])) _
          refine st152 _ ?_
          show Steps p.tables e below (T152.setTop (mkF m 222 #[.val (.ref a1), .val (.ref aA), .val (.int (4 : Int32)), .val (.int (5 : Int32)), .val (.int (4 : Int32)), .val (.int ld)] [])) _
          refine XS.aloadN X152.here hx rfl (hb hby d_prog_23_method_10_222) rfl rfl ?_
          refine XS.iload X152.here hx rfl (hb hby d_prog_23_method_10_223) rfl ?_
          refine XS.sipush X152.here hx rfl (hb hby d_prog_23_method_10_225) ?_
          show Steps p.tables e below (T152.setTop (mkF m 228 #[.val (.ref a1), .val (.ref aA), .val (.int (4 : Int32)), .val (.int (5 : Int32)), .val (.int (4 : Int32)), .val (.int ld)] [(.int (237 : Int32)), (.int ld), (.ref a1)])) _
          exact kk)
      obtain ⟨hi, h_hi⟩ : ∃ z : Int32, z = (if ld = (237 : Int32) then (159 : Int32) else (191 : Int32)) := ⟨_, rfl⟩
      have pre155 : ∀ t, Steps p.tables e below (T152.setTop (mkF m 240 #[.val (.ref a1), .val (.ref aA), .val (.int (4 : Int32)), .val (.int (5 : Int32)), .val (.int (4 : Int32)), .val (.int ld)] [(.int hi), (.ref a1)])) t → Steps p.tables e below (s₁.setTop (entryFrame m #[(.ref a1), (.ref aA), (.int (4 : Int32)), (.int (5 : Int32))] 6)) t := fun t kk => pre153 t (by
          by_cases hc154 : ld = (237 : Int32)
          · refine XS.icmpNo X152.here hx rfl (hb hby d_prog_23_method_10_228) rfl (teq hc154).2 ?_
            show Steps p.tables e below (T152.setTop (mkF m 231 #[.val (.ref a1), .val (.ref aA), .val (.int (4 : Int32)), .val (.int (5 : Int32)), .val (.int (4 : Int32)), .val (.int ld)] [(.ref a1)])) _
            refine XS.sipush X152.here hx rfl (hb hby d_prog_23_method_10_231) ?_
            show Steps p.tables e below (T152.setTop (mkF m 234 #[.val (.ref a1), .val (.ref aA), .val (.int (4 : Int32)), .val (.int (5 : Int32)), .val (.int (4 : Int32)), .val (.int ld)] [(.int (159 : Int32)), (.ref a1)])) _
            refine XS.goto X152.here hx rfl (pc0 := 234) (pc' := 240) rfl (hb hby d_prog_23_method_10_234) (by decide) (by decide) ?_
            show Steps p.tables e below (T152.setTop (mkF m 240 #[.val (.ref a1), .val (.ref aA), .val (.int (4 : Int32)), .val (.int (5 : Int32)), .val (.int (4 : Int32)), .val (.int ld)] [(.int (159 : Int32)), (.ref a1)])) _
            rw [show hi = (159 : Int32) from by rw [h_hi, if_pos hc154]] at kk
            exact kk
          · refine XS.icmpYes X152.here hx rfl (pc0 := 228) (pc' := 237) rfl (hb hby d_prog_23_method_10_228) rfl (feq hc154).2 (by decide) (by decide) ?_
            show Steps p.tables e below (T152.setTop (mkF m 237 #[.val (.ref a1), .val (.ref aA), .val (.int (4 : Int32)), .val (.int (5 : Int32)), .val (.int (4 : Int32)), .val (.int ld)] [(.ref a1)])) _
            refine XS.sipush X152.here hx rfl (hb hby d_prog_23_method_10_237) ?_
            show Steps p.tables e below (T152.setTop (mkF m 240 #[.val (.ref a1), .val (.ref aA), .val (.int (4 : Int32)), .val (.int (5 : Int32)), .val (.int (4 : Int32)), .val (.int ld)] [(.int (191 : Int32)), (.ref a1)])) _
            rw [show hi = (191 : Int32) from by rw [h_hi, if_neg hc154]] at kk
            exact kk)
      have f156 := (f150.wr W152)
      have f157 := (((((F_high.other W105 (Or.inr (slot_ne (Or.inl (hw _ (List.mem_of_getElem? (i := 20) rfl))) (Or.inl (hw _ (List.mem_of_getElem? (i := 70) rfl))) (by decide) (t := .int) (t' := .long) (by decide) (by decide)))).other W112 (Or.inl n_a1_aO)).other W115 (Or.inr (slot_ne (Or.inl (hw _ (List.mem_of_getElem? (i := 20) rfl))) (Or.inl (hw _ (List.mem_of_getElem? (i := 57) rfl))) (by decide) (t := .int) (t' := .int) (by decide) (by decide)))).other W146 (Or.inr (slot_ne (Or.inl (hw _ (List.mem_of_getElem? (i := 20) rfl))) (Or.inl (hw _ (List.mem_of_getElem? (i := 55) rfl))) (by decide) (t := .int) (t' := .int) (by decide) (by decide)))).other W152 (Or.inr (slot_ne (Or.inl (hw _ (List.mem_of_getElem? (i := 20) rfl))) (Or.inl (hw _ (List.mem_of_getElem? (i := 18) rfl))) (by decide) (t := .int) (t' := .int) (by decide) (by decide))))
      obtain ⟨T158, h158, X158, e158, W158, st158⟩ := putF X152 hx hZ hown (host := "") (Or.inl (hw _ (List.mem_of_getElem? (i := 19) rfl))) Via.refl e152 f157 f156 (Or.inl (hw _ (List.mem_of_getElem? (i := 20) rfl))) (hw _ (List.mem_of_getElem? (i := 1) rfl)) (ty := .int) (by decide) rfl rfl (g := (mkF m 240 #[.val (.ref a1), .val (.ref aA), .val (.int (4 : Int32)), .val (.int (5 : Int32)), .val (.int (4 : Int32)), .val (.int ld)] [(.int hi), (.ref a1)])) rfl rfl (hb hby d_prog_23_method_10_240)
      have F158 := f157.same W158
      have N158 := Fr.snoc X158 N152 g_a1
      have O158 := O152.wr W158 g_a1
      have K158 := K152.wr W158 (Or.inl (List.mem_of_getElem? (i := 0) rfl))
      have f159 := (f156.wr W158)
      have f160 := ((F146.other W152 (Or.inr (slot_ne (Or.inl (hw _ (List.mem_of_getElem? (i := 55) rfl))) (Or.inl (hw _ (List.mem_of_getElem? (i := 18) rfl))) (by decide) (t := .int) (t' := .int) (by decide) (by decide)))).other W158 (Or.inr (slot_ne (Or.inl (hw _ (List.mem_of_getElem? (i := 55) rfl))) (Or.inl (hw _ (List.mem_of_getElem? (i := 20) rfl))) (by decide) (t := .int) (t' := .int) (by decide) (by decide))))
      have f161 := (((F115.other W146 (Or.inr (slot_ne (Or.inl (hw _ (List.mem_of_getElem? (i := 57) rfl))) (Or.inl (hw _ (List.mem_of_getElem? (i := 55) rfl))) (by decide) (t := .int) (t' := .int) (by decide) (by decide)))).other W152 (Or.inr (slot_ne (Or.inl (hw _ (List.mem_of_getElem? (i := 57) rfl))) (Or.inl (hw _ (List.mem_of_getElem? (i := 18) rfl))) (by decide) (t := .int) (t' := .int) (by decide) (by decide)))).other W158 (Or.inr (slot_ne (Or.inl (hw _ (List.mem_of_getElem? (i := 57) rfl))) (Or.inl (hw _ (List.mem_of_getElem? (i := 20) rfl))) (by decide) (t := .int) (t' := .int) (by decide) (by decide))))
      have f162 := ((((((F_taken.other W105 (Or.inr (slot_ne (Or.inl (hw _ (List.mem_of_getElem? (i := 48) rfl))) (Or.inl (hw _ (List.mem_of_getElem? (i := 70) rfl))) (by decide) (t := .long) (t' := .long) (by decide) (by decide)))).other W112 (Or.inl n_a1_aO)).other W115 (Or.inr (slot_ne (Or.inl (hw _ (List.mem_of_getElem? (i := 48) rfl))) (Or.inl (hw _ (List.mem_of_getElem? (i := 57) rfl))) (by decide) (t := .long) (t' := .int) (by decide) (by decide)))).other W146 (Or.inr (slot_ne (Or.inl (hw _ (List.mem_of_getElem? (i := 48) rfl))) (Or.inl (hw _ (List.mem_of_getElem? (i := 55) rfl))) (by decide) (t := .long) (t' := .int) (by decide) (by decide)))).other W152 (Or.inr (slot_ne (Or.inl (hw _ (List.mem_of_getElem? (i := 48) rfl))) (Or.inl (hw _ (List.mem_of_getElem? (i := 18) rfl))) (by decide) (t := .long) (t' := .int) (by decide) (by decide)))).other W158 (Or.inr (slot_ne (Or.inl (hw _ (List.mem_of_getElem? (i := 48) rfl))) (Or.inl (hw _ (List.mem_of_getElem? (i := 20) rfl))) (by decide) (t := .long) (t' := .int) (by decide) (by decide))))
      have f163 := ((((((F_rule.other W105 (Or.inr (slot_ne (Or.inl (hw _ (List.mem_of_getElem? (i := 16) rfl))) (Or.inl (hw _ (List.mem_of_getElem? (i := 70) rfl))) (by decide) (t := (.object "com/example/dewey/dewey/EncodingCheck$Rule")) (t' := .long) (by decide) (by decide)))).other W112 (Or.inl n_a1_aO)).other W115 (Or.inr (slot_ne (Or.inl (hw _ (List.mem_of_getElem? (i := 16) rfl))) (Or.inl (hw _ (List.mem_of_getElem? (i := 57) rfl))) (by decide) (t := (.object "com/example/dewey/dewey/EncodingCheck$Rule")) (t' := .int) (by decide) (by decide)))).other W146 (Or.inr (slot_ne (Or.inl (hw _ (List.mem_of_getElem? (i := 16) rfl))) (Or.inl (hw _ (List.mem_of_getElem? (i := 55) rfl))) (by decide) (t := (.object "com/example/dewey/dewey/EncodingCheck$Rule")) (t' := .int) (by decide) (by decide)))).other W152 (Or.inr (slot_ne (Or.inl (hw _ (List.mem_of_getElem? (i := 16) rfl))) (Or.inl (hw _ (List.mem_of_getElem? (i := 18) rfl))) (by decide) (t := (.object "com/example/dewey/dewey/EncodingCheck$Rule")) (t' := .int) (by decide) (by decide)))).other W158 (Or.inr (slot_ne (Or.inl (hw _ (List.mem_of_getElem? (i := 16) rfl))) (Or.inl (hw _ (List.mem_of_getElem? (i := 20) rfl))) (by decide) (t := (.object "com/example/dewey/dewey/EncodingCheck$Rule")) (t' := .int) (by decide) (by decide))))
      obtain ⟨fs, hr, hrun, hended, hW, hsame⟩ := X158.leave (v := none) (fun _ => rfl)
      refine ⟨_, _, pre155 _ ?_, hrun, hended, _, _, rfl, ?_, ⟨_, rfl⟩, hW, hsame.mono (by decide) (by decide)⟩
      · show Steps p.tables e below (T152.setTop (mkF m 240 #[.val (.ref a1), .val (.ref aA), .val (.int (4 : Int32)), .val (.int (5 : Int32)), .val (.int (4 : Int32)), .val (.int ld)] [(.int hi), (.ref a1)])) _
        refine st158 _ ?_
        show Steps p.tables e below (T158.setTop (mkF m 243 #[.val (.ref a1), .val (.ref aA), .val (.int (4 : Int32)), .val (.int (5 : Int32)), .val (.int (4 : Int32)), .val (.int ld)] [])) _
        refine XS.goto X158.here hx rfl (pc0 := 243) (pc' := 318) rfl (hb hby d_prog_23_method_10_243) (by decide) (by decide) ?_
        refine XS.iinc X158.here hx rfl (hb hby d_prog_23_method_10_318) rfl (l' := #[.val (.ref a1), .val (.ref aA), .val (.int (4 : Int32)), .val (.int (5 : Int32)), .val (.int ((4 : Int32) + (1 : Int32))), .val (.int ld)]) rfl ?_
        show Steps p.tables e below (T158.setTop (mkF m 321 #[.val (.ref a1), .val (.ref aA), .val (.int (4 : Int32)), .val (.int (5 : Int32)), .val (.int ((4 : Int32) + (1 : Int32))), .val (.int ld)] [])) _
        rw [show ((4 : Int32) + (1 : Int32)) = (5 : Int32) from (by decide)]
        show Steps p.tables e below (T158.setTop (mkF m 321 #[.val (.ref a1), .val (.ref aA), .val (.int (4 : Int32)), .val (.int (5 : Int32)), .val (.int (5 : Int32)), .val (.int ld)] [])) _
        refine XS.goto X158.here hx rfl (pc0 := 321) (pc' := 3) rfl (hb hby d_prog_23_method_10_321) (by decide) (by decide) ?_
        refine XS.iload X158.here hx rfl (hb hby d_prog_23_method_10_3) rfl ?_
        refine XS.iloadN X158.here hx rfl (hb hby d_prog_23_method_10_5) rfl ?_
        refine XS.icmpYes X158.here hx rfl (pc0 := 6) (pc' := 324) rfl (hb hby d_prog_23_method_10_6) rfl (flt (by decide : ¬ ((5 : Int32) < (5 : Int32)))).2.1 (by decide) (by decide) ?_
        show Steps p.tables e below (T158.setTop (mkF m 324 #[.val (.ref a1), .val (.ref aA), .val (.int (4 : Int32)), .val (.int (5 : Int32)), .val (.int (5 : Int32)), .val (.int ld)] [])) _
        exact X158.returnOut hx Bd.returns (hb hby d_prog_23_method_10_324) hr
      · show Q_cu0 Z a1 aA kA aO kO x4 x5 ld c1 tk uL uH uC uS rU r16 r8 rA h0 n0 _ T158.heap _
        rw [e158]
        exact ⟨_, _, rfl, N158, K158, f159, f160, f161, f162, f163⟩
  · have f164 := (f113.wr W115)
    have f165 := (((F_needed.other W105 (Or.inr (slot_ne (Or.inl (hw _ (List.mem_of_getElem? (i := 55) rfl))) (Or.inl (hw _ (List.mem_of_getElem? (i := 70) rfl))) (by decide) (t := .int) (t' := .long) (by decide) (by decide)))).other W112 (Or.inl n_a1_aO)).other W115 (Or.inr (slot_ne (Or.inl (hw _ (List.mem_of_getElem? (i := 55) rfl))) (Or.inl (hw _ (List.mem_of_getElem? (i := 57) rfl))) (by decide) (t := .int) (t' := .int) (by decide) (by decide))))
    obtain ⟨T166, h166, X166, e166, W166, st166⟩ := putF X115 hx hZ hown (host := "") (Or.inl (hw _ (List.mem_of_getElem? (i := 54) rfl))) Via.refl e115 f165 f164 (Or.inl (hw _ (List.mem_of_getElem? (i := 55) rfl))) (hw _ (List.mem_of_getElem? (i := 1) rfl)) (ty := .int) (by decide) rfl rfl (g := (mkF m 174 #[.val (.ref a1), .val (.ref aA), .val (.int (4 : Int32)), .val (.int (5 : Int32)), .val (.int (4 : Int32)), .val (.int ld)] [(.int (1 : Int32)), (.ref a1)])) rfl rfl (hb hby d_prog_23_method_10_174)
    have F166 := f165.same W166
    have N166 := Fr.snoc X166 N115 g_a1
    have O166 := O115.wr W166 g_a1
    have K166 := K115.wr W166 (Or.inl (List.mem_of_getElem? (i := 0) rfl))
    have f167 := (f164.wr W166)
    have f168 := (F115.other W166 (Or.inr (slot_ne (Or.inl (hw _ (List.mem_of_getElem? (i := 57) rfl))) (Or.inl (hw _ (List.mem_of_getElem? (i := 55) rfl))) (by decide) (t := .int) (t' := .int) (by decide) (by decide))))
    have f169 := ((((F_taken.other W105 (Or.inr (slot_ne (Or.inl (hw _ (List.mem_of_getElem? (i := 48) rfl))) (Or.inl (hw _ (List.mem_of_getElem? (i := 70) rfl))) (by decide) (t := .long) (t' := .long) (by decide) (by decide)))).other W112 (Or.inl n_a1_aO)).other W115 (Or.inr (slot_ne (Or.inl (hw _ (List.mem_of_getElem? (i := 48) rfl))) (Or.inl (hw _ (List.mem_of_getElem? (i := 57) rfl))) (by decide) (t := .long) (t' := .int) (by decide) (by decide)))).other W166 (Or.inr (slot_ne (Or.inl (hw _ (List.mem_of_getElem? (i := 48) rfl))) (Or.inl (hw _ (List.mem_of_getElem? (i := 55) rfl))) (by decide) (t := .long) (t' := .int) (by decide) (by decide))))
    have f170 := ((((F_rule.other W105 (Or.inr (slot_ne (Or.inl (hw _ (List.mem_of_getElem? (i := 16) rfl))) (Or.inl (hw _ (List.mem_of_getElem? (i := 70) rfl))) (by decide) (t := (.object "com/example/dewey/dewey/EncodingCheck$Rule")) (t' := .long) (by decide) (by decide)))).other W112 (Or.inl n_a1_aO)).other W115 (Or.inr (slot_ne (Or.inl (hw _ (List.mem_of_getElem? (i := 16) rfl))) (Or.inl (hw _ (List.mem_of_getElem? (i := 57) rfl))) (by decide) (t := (.object "com/example/dewey/dewey/EncodingCheck$Rule")) (t' := .int) (by decide) (by decide)))).other W166 (Or.inr (slot_ne (Or.inl (hw _ (List.mem_of_getElem? (i := 16) rfl))) (Or.inl (hw _ (List.mem_of_getElem? (i := 55) rfl))) (by decide) (t := (.object "com/example/dewey/dewey/EncodingCheck$Rule")) (t' := .int) (by decide) (by decide))))
    obtain ⟨fs, hr, hrun, hended, hW, hsame⟩ := X166.leave (v := none) (fun _ => rfl)
    refine ⟨_, _, pre117 _ ?_, hrun, hended, _, _, rfl, ?_, ⟨_, rfl⟩, hW, hsame.mono (by decide) (by decide)⟩
    · refine XS.icmpNo X115.here hx rfl (hb hby d_prog_23_method_10_169) rfl (flt hc118).2.2.1 ?_
      refine XS.aloadN X115.here hx rfl (hb hby d_prog_23_method_10_172) rfl rfl ?_
      refine XS.iconst X115.here hx rfl (hb hby d_prog_23_method_10_173) ?_
      show Steps p.tables e below (T115.setTop (mkF m 174 #[.val (.ref a1), .val (.ref aA), .val (.int (4 : Int32)), .val (.int (5 : Int32)), .val (.int (4 : Int32)), .val (.int ld)] [(.int (1 : Int32)), (.ref a1)])) _
      refine st166 _ ?_
      show Steps p.tables e below (T166.setTop (mkF m 177 #[.val (.ref a1), .val (.ref aA), .val (.int (4 : Int32)), .val (.int (5 : Int32)), .val (.int (4 : Int32)), .val (.int ld)] [])) _
      refine XS.goto X166.here hx rfl (pc0 := 177) (pc' := 318) rfl (hb hby d_prog_23_method_10_177) (by decide) (by decide) ?_
      refine XS.iinc X166.here hx rfl (hb hby d_prog_23_method_10_318) rfl (l' := #[.val (.ref a1), .val (.ref aA), .val (.int (4 : Int32)), .val (.int (5 : Int32)), .val (.int ((4 : Int32) + (1 : Int32))), .val (.int ld)]) rfl ?_
      show Steps p.tables e below (T166.setTop (mkF m 321 #[.val (.ref a1), .val (.ref aA), .val (.int (4 : Int32)), .val (.int (5 : Int32)), .val (.int ((4 : Int32) + (1 : Int32))), .val (.int ld)] [])) _
      rw [show ((4 : Int32) + (1 : Int32)) = (5 : Int32) from (by decide)]
      show Steps p.tables e below (T166.setTop (mkF m 321 #[.val (.ref a1), .val (.ref aA), .val (.int (4 : Int32)), .val (.int (5 : Int32)), .val (.int (5 : Int32)), .val (.int ld)] [])) _
      refine XS.goto X166.here hx rfl (pc0 := 321) (pc' := 3) rfl (hb hby d_prog_23_method_10_321) (by decide) (by decide) ?_
      refine XS.iload X166.here hx rfl (hb hby d_prog_23_method_10_3) rfl ?_
      refine XS.iloadN X166.here hx rfl (hb hby d_prog_23_method_10_5) rfl ?_
      refine XS.icmpYes X166.here hx rfl (pc0 := 6) (pc' := 324) rfl (hb hby d_prog_23_method_10_6) rfl (flt (by decide : ¬ ((5 : Int32) < (5 : Int32)))).2.1 (by decide) (by decide) ?_
      show Steps p.tables e below (T166.setTop (mkF m 324 #[.val (.ref a1), .val (.ref aA), .val (.int (4 : Int32)), .val (.int (5 : Int32)), .val (.int (5 : Int32)), .val (.int ld)] [])) _
      exact X166.returnOut hx Bd.returns (hb hby d_prog_23_method_10_324) hr
    · show Q_cu0 Z a1 aA kA aO kO x4 x5 ld c1 tk uL uH uC uS rU r16 r8 rA h0 n0 _ T166.heap _
      rw [e166]
      exact ⟨_, _, rfl, N166, K166, f167, F166, f168, f169, f170⟩
theorem ef_cu1 (m : MethodId) (a1 : Addr) (aA : Addr) : entryFrame m #[(.ref a1), (.ref aA), (.int (4 : Int32)), (.int (6 : Int32))] 6 = mkF m 0 #[.val (.ref a1), .val (.ref aA), .val (.int (4 : Int32)), .val (.int (6 : Int32)), .unset, .unset] [] := by first | (simp [entryFrame, mkF, argsToLocals, Value.category]; done) | rfl
def Q_cu1 (Z : State) (a1 : Addr) (aA : Addr) (kA : ClassId) (aO : Addr) (kO : ClassId) (x4 : Int32) (x5 : Int32) (ld : Int32) (c1 : Int32) (tk : Int64) (uL : Value) (uH : Value) (uC : Value) (uS : Value) (rU : Addr) (r16 : Addr) (r8 : Addr) (rA : Addr) (h0 : Heap) (n0 : Nat) (v : Option Value) (h : Heap) (L : List Loc) : Prop := ∃ (u1 u2 : Value), v = none ∧ Fr n0 L ∧ Keep h0 h [a1, aO] ∧ Exa Z h a1 "com/example/dewey/dewey/EncodingCheck" ∧ Fld Z h a1 "com/example/dewey/dewey/EncodingCheck" "needed" "I" u1 ∧ Fld Z h a1 "com/example/dewey/dewey/EncodingCheck" "openCount" "I" u2 ∧ Fld Z h a1 "com/example/dewey/dewey/EncodingCheck" "taken" "J" (.long tk) ∧ Fld Z h a1 "com/example/dewey/dewey/EncodingCheck" "rule" "Lcom/example/dewey/dewey/EncodingCheck$Rule;" (.ref r8)
set_option maxRecDepth 65536 in
set_option maxHeartbeats 40000000 in
theorem rm_cu1 (l : Launch) (Z : State) (a0 : Array Value) (hw : ∀ d ∈ tables_1, d.before a0 Z = true) (ws : List Jvm.Cond) (a1 : Addr) (aA : Addr) (kA : ClassId) (aO : Addr) (kO : ClassId) (x4 : Int32) (x5 : Int32) (ld : Int32) (c1 : Int32) (tk : Int64) (uL : Value) (uH : Value) (uC : Value) (uS : Value) (rU : Addr) (r16 : Addr) (r8 : Addr) (rA : Addr) (h0 : Heap) (n0 : Nat) (O0 : Old Z n0 h0) (SrU : Sta Z Z.heap "com/example/dewey/dewey/EncodingCheck$Rule" "UNKNOWN" "Lcom/example/dewey/dewey/EncodingCheck$Rule;" (.ref rU)) (Sr16 : Sta Z Z.heap "com/example/dewey/dewey/EncodingCheck$Rule" "UTF_16" "Lcom/example/dewey/dewey/EncodingCheck$Rule;" (.ref r16)) (Sr8 : Sta Z Z.heap "com/example/dewey/dewey/EncodingCheck$Rule" "UTF_8" "Lcom/example/dewey/dewey/EncodingCheck$Rule;" (.ref r8)) (SrA : Sta Z Z.heap "com/example/dewey/dewey/EncodingCheck$Rule" "US_ASCII" "Lcom/example/dewey/dewey/EncodingCheck$Rule;" (.ref rA)) (n_rU_r16 : rU ≠ r16) (n_rU_r8 : rU ≠ r8) (n_rU_rA : rU ≠ rA) (n_r16_r8 : r16 ≠ r8) (n_r16_rA : r16 ≠ rA) (n_r8_rA : r8 ≠ rA) (E1 : Exa Z h0 a1 "com/example/dewey/dewey/EncodingCheck") (F_needed : Fld Z h0 a1 "com/example/dewey/dewey/EncodingCheck" "needed" "I" (.int (0 : Int32))) (F_low : Fld Z h0 a1 "com/example/dewey/dewey/EncodingCheck" "low" "I" uL) (F_high : Fld Z h0 a1 "com/example/dewey/dewey/EncodingCheck" "high" "I" uH) (F_open : Fld Z h0 a1 "com/example/dewey/dewey/EncodingCheck" "open" "[B" (.ref aO)) (F_openCount : Fld Z h0 a1 "com/example/dewey/dewey/EncodingCheck" "openCount" "I" uC) (F_start : Fld Z h0 a1 "com/example/dewey/dewey/EncodingCheck" "start" "J" uS) (F_taken : Fld Z h0 a1 "com/example/dewey/dewey/EncodingCheck" "taken" "J" (.long tk)) (F_rule : Fld Z h0 a1 "com/example/dewey/dewey/EncodingCheck" "rule" "Lcom/example/dewey/dewey/EncodingCheck$Rule;" (.ref r8)) (VA : Arv Z h0 aA kA .byte (7 : Int32) [(.int (60 : Int32)), (.int (63 : Int32)), (.int (120 : Int32)), (.int (109 : Int32)), (.int x4), (.int x5), (.int (-128 : Int32))] (.int (0 : Int32))) (VO : Arv Z h0 aO kO .byte (4 : Int32) [(.int (0 : Int32)), (.int (0 : Int32)), (.int (0 : Int32)), (.int (0 : Int32))] (.int (0 : Int32))) (g_a1 : n0 ≤ a1) (g_aO : n0 ≤ aO) (n_a1_aA : a1 ≠ aA) (n_a1_aO : a1 ≠ aO) (n_aA_aO : aA ≠ aO) (h4 : (x4 &&& (255 : Int32)) = ld) (h5 : (x5 &&& (255 : Int32)) = c1) (hc1 : c1 = (if ld = (224 : Int32) then (160 : Int32) else (if ld = (240 : Int32) then (144 : Int32) else (128 : Int32)))) (hl : ¬ ld < (194 : Int32) ∧ ¬ (244 : Int32) < ld) (hk : ¬ ld < (224 : Int32)) :
    MetFree l (⟨"com/example/dewey/dewey/EncodingCheck", "checkUtf8", "([BII)V"⟩ : MethodName) (head1 (Jvm.Cond.code (⟨"com/example/dewey/dewey/EncodingCheck", "checkUtf8", "([BII)V"⟩ : MethodName) prog_23_method_10_code 6 none :: ws) ({ frames := 0, cells := 0, slots := 0, locals := 0 } : Room)) (fun a U => a = #[(.ref a1), (.ref aA), (.int (4 : Int32)), (.int (6 : Int32))] ∧ Z.Warmed39 U.vm ∧ U.heap = h0) (fun _ _ _ _ _ => True) (fun _ U o U' => ∃ v L, o = .returned v ∧ Q_cu1 Z a1 aA kA aO kO x4 x5 ld c1 tk uL uH uC uS rU r16 r8 rA h0 n0 v U'.heap L ∧ FrameEnd U o U' L ({ frames := 0, cells := 0, slots := 0, locals := 0 } : Room).cells ({ frames := 0, cells := 0, slots := 0, locals := 0 } : Room).slots) := by
  refine MetFree.of_bodySF (plainFor_of_name pn_0) hisR ?_
  intro p e s m args below meth c s₁ Bd hml0 hP hK
  obtain ⟨rfl, hZ, hh⟩ := hP
  have hx := Bd.exec
  have hby := Bd.bytes
  have hml : c.maxLocals = 6 := hml0
  have hown : s.vm.findClass "com/example/dewey/dewey/EncodingCheck" = some m.cls := findClass_of_methodNamed Bd.named
  have hnm := (name_of_methodNamed Bd.named Bd.method).1
  have X0 : Stand p l e ({ frames := 0, cells := 0, slots := 0, locals := 0 } : Room) s m #[(.ref a1), (.ref aA), (.int (4 : Int32)), (.int (6 : Int32))] below meth c s₁ [] 0 0 := Stand.of_body Bd
  have e0 : s₁.heap = h0 := by rw [← hh, Bd.state]; rfl
  have N0 := Fr.nil n0
  have K0 : Keep h0 h0 [a1, aO] := Keep.refl _ _
  have pre0 : ∀ t, Steps p.tables e below (s₁.setTop (mkF m 0 #[.val (.ref a1), .val (.ref aA), .val (.int (4 : Int32)), .val (.int (6 : Int32)), .unset, .unset] [])) t → Steps p.tables e below (s₁.setTop (entryFrame m #[(.ref a1), (.ref aA), (.int (4 : Int32)), (.int (6 : Int32))] 6)) t := fun t k => castTop (ef_cu1 m a1 aA) k
  obtain ⟨cl101, Ar101, q101, S101, Ne101, H101, G101⟩ := id VA
  have hin101 : ¬ ((4 : Int32) < 0 ∨ cl101.slots.size ≤ ((4 : Int32)).toNatClampNeg) := inb_of S101 ⟨by decide, by decide⟩
  have hat101 : cl101.slots[((4 : Int32)).toNatClampNeg]? = some (.int x4) := H101.at hin101 rfl
  obtain ⟨T102, X102, e102, st102⟩ := getF X0 hx hZ hown (host := "") (Or.inl (hw _ (List.mem_of_getElem? (i := 54) rfl))) Via.refl e0 F_needed (g := (mkF m 20 #[.val (.ref a1), .val (.ref aA), .val (.int (4 : Int32)), .val (.int (6 : Int32)), .val (.int (4 : Int32)), .val (.int ld)] [(.ref a1)])) rfl rfl (hb hby d_prog_23_method_10_20)
  have hc103 : ¬ (ld < (128 : Int32)) := (own_ge hl.1 (by decide))
  obtain ⟨T104, X104, e104, st104⟩ := getF X102 hx hZ hown (host := "") (Or.inl (hw _ (List.mem_of_getElem? (i := 47) rfl))) Via.refl e102 F_taken (g := (mkF m 128 #[.val (.ref a1), .val (.ref aA), .val (.int (4 : Int32)), .val (.int (6 : Int32)), .val (.int (4 : Int32)), .val (.int ld)] [(.ref a1), (.ref a1)])) rfl rfl (hb hby d_prog_23_method_10_128)
  obtain ⟨T105, h105, X105, e105, W105, st105⟩ := putF X104 hx hZ hown (host := "") (Or.inl (hw _ (List.mem_of_getElem? (i := 69) rfl))) Via.refl e104 F_start E1 (Or.inl (hw _ (List.mem_of_getElem? (i := 70) rfl))) (hw _ (List.mem_of_getElem? (i := 1) rfl)) (ty := .long) (by decide) rfl rfl (g := (mkF m 138 #[.val (.ref a1), .val (.ref aA), .val (.int (4 : Int32)), .val (.int (6 : Int32)), .val (.int (4 : Int32)), .val (.int ld)] [(.long ((tk + (4 : Int64)) - (4 : Int64))), (.ref a1)])) rfl rfl (hb hby d_prog_23_method_10_138)
  have F105 := F_start.same W105
  have N105 := Fr.snoc X105 N0 g_a1
  have O105 := O0.wr W105 g_a1
  have K105 := K0.wr W105 (Or.inl (List.mem_of_getElem? (i := 0) rfl))
  have f106 := (F_open.other W105 (Or.inr (slot_ne (Or.inr (hw _ (List.mem_of_getElem? (i := 22) rfl))) (Or.inl (hw _ (List.mem_of_getElem? (i := 70) rfl))) (by decide) (t := (.array .byte)) (t' := .long) (by decide) (by decide))))
  obtain ⟨T107, X107, e107, st107⟩ := getF X105 hx hZ hown (host := "") (Or.inl (hw _ (List.mem_of_getElem? (i := 21) rfl))) Via.refl e105 f106 (g := (mkF m 142 #[.val (.ref a1), .val (.ref aA), .val (.int (4 : Int32)), .val (.int (6 : Int32)), .val (.int (4 : Int32)), .val (.int ld)] [(.ref a1)])) rfl rfl (hb hby d_prog_23_method_10_142)
  have f108 := (VA.other W105 (Ne.symm n_a1_aA))
  obtain ⟨cl109, Ar109, q109, S109, Ne109, H109, G109⟩ := id f108
  have hin109 : ¬ ((4 : Int32) < 0 ∨ cl109.slots.size ≤ ((4 : Int32)).toNatClampNeg) := inb_of S109 ⟨by decide, by decide⟩
  have hat109 : cl109.slots[((4 : Int32)).toNatClampNeg]? = some (.int x4) := H109.at hin109 rfl
  have f110 := (VO.other W105 (Ne.symm n_a1_aO))
  obtain ⟨cl111, Ar111, q111, S111, Ne111, H111, G111⟩ := id f110
  have hin111 : ¬ ((0 : Int32) < 0 ∨ cl111.slots.size ≤ ((0 : Int32)).toNatClampNeg) := inb_of S111 ⟨by decide, by decide⟩
  obtain ⟨T112, h112, X112, e112, W112, st112⟩ := stB X107 hx hZ e107 Ar111 (j := (0 : Int32)) hin111 (g := (mkF m 150 #[.val (.ref a1), .val (.ref aA), .val (.int (4 : Int32)), .val (.int (6 : Int32)), .val (.int (4 : Int32)), .val (.int ld)] [(.int x4), (.int (0 : Int32)), (.ref aO)])) rfl rfl (hb hby d_prog_23_method_10_150)
  have V112 : Arv Z h112 aO kO .byte (4 : Int32) [(.int (nar .byte x4)), (.int (0 : Int32)), (.int (0 : Int32)), (.int (0 : Int32))] (.int (0 : Int32)) := Arv.set Ar111 q111 S111 Ne111 H111 G111 (fits_nar_byte _) W112 0 rfl (Nat.le_of_ble_eq_true rfl)
  have N112 := Fr.snoc X112 N105 g_aO
  have O112 := O105.wr W112 g_aO
  have K112 := K105.wr W112 (Or.inl (List.mem_of_getElem? (i := 1) rfl))
  have f113 := ((E1.wr W105).wr W112)
  have f114 := ((F_openCount.other W105 (Or.inr (slot_ne (Or.inl (hw _ (List.mem_of_getElem? (i := 57) rfl))) (Or.inl (hw _ (List.mem_of_getElem? (i := 70) rfl))) (by decide) (t := .int) (t' := .long) (by decide) (by decide)))).other W112 (Or.inl n_a1_aO))
  obtain ⟨T115, h115, X115, e115, W115, st115⟩ := putF X112 hx hZ hown (host := "") (Or.inl (hw _ (List.mem_of_getElem? (i := 56) rfl))) Via.refl e112 f114 f113 (Or.inl (hw _ (List.mem_of_getElem? (i := 57) rfl))) (hw _ (List.mem_of_getElem? (i := 1) rfl)) (ty := .int) (by decide) rfl rfl (g := (mkF m 153 #[.val (.ref a1), .val (.ref aA), .val (.int (4 : Int32)), .val (.int (6 : Int32)), .val (.int (4 : Int32)), .val (.int ld)] [(.int (1 : Int32)), (.ref a1)])) rfl rfl (hb hby d_prog_23_method_10_153)
  have F115 := f114.same W115
  have N115 := Fr.snoc X115 N112 g_a1
  have O115 := O112.wr W115 g_a1
  have K115 := K112.wr W115 (Or.inl (List.mem_of_getElem? (i := 0) rfl))
  have hc116 : ¬ (ld < (194 : Int32)) := hl.1
  have hc117 : (223 : Int32) < ld := (own_gt hk (by decide))
  have hc118 : ¬ (ld < (224 : Int32)) := (own_gt' hc117 (by decide))
  have pre119 : ∀ t, Steps p.tables e below (T115.setTop (mkF m 193 #[.val (.ref a1), .val (.ref aA), .val (.int (4 : Int32)), .val (.int (6 : Int32)), .val (.int (4 : Int32)), .val (.int ld)] [(.int (239 : Int32)), (.int ld)])) t → Steps p.tables e below (s₁.setTop (entryFrame m #[(.ref a1), (.ref aA), (.int (4 : Int32)), (.int (6 : Int32))] 6)) t := fun t kk => pre0 t (by
      show Steps p.tables e below (s₁.setTop (mkF m 0 #[.val (.ref a1), .val (.ref aA), .val (.int (4 : Int32)), .val (.int (6 : Int32)), .unset, .unset] [])) _
      refine XS.iloadN X0.here hx rfl (hb hby d_prog_23_method_10_0) rfl ?_
      refine XS.istore X0.here hx rfl (hb hby d_prog_23_method_10_1) rfl (l' := #[.val (.ref a1), .val (.ref aA), .val (.int (4 : Int32)), .val (.int (6 : Int32)), .val (.int (4 : Int32)), .unset]) rfl ?_
      refine XS.iload X0.here hx rfl (hb hby d_prog_23_method_10_3) rfl ?_
      refine XS.iloadN X0.here hx rfl (hb hby d_prog_23_method_10_5) rfl ?_
      show Steps p.tables e below (s₁.setTop (mkF m 6 #[.val (.ref a1), .val (.ref aA), .val (.int (4 : Int32)), .val (.int (6 : Int32)), .val (.int (4 : Int32)), .unset] [(.int (6 : Int32)), (.int (4 : Int32))])) _
      refine XS.icmpNo X0.here hx rfl (hb hby d_prog_23_method_10_6) rfl (tlt (by decide : (4 : Int32) < (6 : Int32))).2.1 ?_
      refine XS.aloadN X0.here hx rfl (hb hby d_prog_23_method_10_9) rfl rfl ?_
      refine XS.iload X0.here hx rfl (hb hby d_prog_23_method_10_10) rfl ?_
      show Steps p.tables e below (s₁.setTop (mkF m 12 #[.val (.ref a1), .val (.ref aA), .val (.int (4 : Int32)), .val (.int (6 : Int32)), .val (.int (4 : Int32)), .unset] [(.int (4 : Int32)), (.ref aA)])) _
      refine X0.baloadBytes hx (j := (4 : Int32)) (v := (.int x4)) (by rw [e0]; exact Ar101.1) (State.isArrayOf_alike hZ.alike Ar101.2.1) Ar101.2.2 hin101 hat101 (g := (mkF m 12 #[.val (.ref a1), .val (.ref aA), .val (.int (4 : Int32)), .val (.int (6 : Int32)), .val (.int (4 : Int32)), .unset] [(.int (4 : Int32)), (.ref aA)])) rfl rfl (hb hby d_prog_23_method_10_12) _ ?_
      show Steps p.tables e below (s₁.setTop (mkF m 13 #[.val (.ref a1), .val (.ref aA), .val (.int (4 : Int32)), .val (.int (6 : Int32)), .val (.int (4 : Int32)), .unset] [(.int x4)])) _
      refine XS.sipush X0.here hx rfl (hb hby d_prog_23_method_10_13) ?_
      refine XS.iand X0.here hx rfl (hb hby d_prog_23_method_10_16) rfl ?_
      show Steps p.tables e below (s₁.setTop (mkF m 17 #[.val (.ref a1), .val (.ref aA), .val (.int (4 : Int32)), .val (.int (6 : Int32)), .val (.int (4 : Int32)), .unset] [(.int (x4 &&& (255 : Int32)))])) _
      rw [show (x4 &&& (255 : Int32)) = ld from h4]
      show Steps p.tables e below (s₁.setTop (mkF m 17 #[.val (.ref a1), .val (.ref aA), .val (.int (4 : Int32)), .val (.int (6 : Int32)), .val (.int (4 : Int32)), .unset] [(.int ld)])) _
      refine XS.istore X0.here hx rfl (hb hby d_prog_23_method_10_17) rfl (l' := #[.val (.ref a1), .val (.ref aA), .val (.int (4 : Int32)), .val (.int (6 : Int32)), .val (.int (4 : Int32)), .val (.int ld)]) rfl ?_
      refine XS.aloadN X0.here hx rfl (hb hby d_prog_23_method_10_19) rfl rfl ?_
      show Steps p.tables e below (s₁.setTop (mkF m 20 #[.val (.ref a1), .val (.ref aA), .val (.int (4 : Int32)), .val (.int (6 : Int32)), .val (.int (4 : Int32)), .val (.int ld)] [(.ref a1)])) _
      refine st102 _ ?_
      show Steps p.tables e below (T102.setTop (mkF m 23 #[.val (.ref a1), .val (.ref aA), .val (.int (4 : Int32)), .val (.int (6 : Int32)), .val (.int (4 : Int32)), .val (.int ld)] [(.int (0 : Int32))])) _
      refine XS.ifYes X102.here hx rfl (pc0 := 23) (pc' := 115) rfl (hb hby d_prog_23_method_10_23) rfl ((if0 _ _).trans (flt (by decide : ¬ ((0 : Int32) < (0 : Int32)))).2.2.2) (by decide) (by decide) ?_
      refine XS.iload X102.here hx rfl (hb hby d_prog_23_method_10_115) rfl ?_
      refine XS.sipush X102.here hx rfl (hb hby d_prog_23_method_10_117) ?_
      refine XS.icmpYes X102.here hx rfl (pc0 := 120) (pc' := 126) rfl (hb hby d_prog_23_method_10_120) rfl (flt hc103).2.1 (by decide) (by decide) ?_
      show Steps p.tables e below (T102.setTop (mkF m 126 #[.val (.ref a1), .val (.ref aA), .val (.int (4 : Int32)), .val (.int (6 : Int32)), .val (.int (4 : Int32)), .val (.int ld)] [])) _
      refine XS.aloadN X102.here hx rfl (hb hby d_prog_23_method_10_126) rfl rfl ?_
      refine XS.aloadN X102.here hx rfl (hb hby d_prog_23_method_10_127) rfl rfl ?_
      show Steps p.tables e below (T102.setTop (mkF m 128 #[.val (.ref a1), .val (.ref aA), .val (.int (4 : Int32)), .val (.int (6 : Int32)), .val (.int (4 : Int32)), .val (.int ld)] [(.ref a1), (.ref a1)])) _
      refine st104 _ ?_
      show Steps p.tables e below (T104.setTop (mkF m 131 #[.val (.ref a1), .val (.ref aA), .val (.int (4 : Int32)), .val (.int (6 : Int32)), .val (.int (4 : Int32)), .val (.int ld)] [(.long tk), (.ref a1)])) _
      refine XS.iload X104.here hx rfl (hb hby d_prog_23_method_10_131) rfl ?_
      refine XS.i2l X104.here hx rfl (hb hby d_prog_23_method_10_133) rfl ?_
      show Steps p.tables e below (T104.setTop (mkF m 134 #[.val (.ref a1), .val (.ref aA), .val (.int (4 : Int32)), .val (.int (6 : Int32)), .val (.int (4 : Int32)), .val (.int ld)] [(.long ((4 : Int32).toInt64)), (.long tk), (.ref a1)])) _
      rw [show ((4 : Int32).toInt64) = (4 : Int64) from (by decide)]
      show Steps p.tables e below (T104.setTop (mkF m 134 #[.val (.ref a1), .val (.ref aA), .val (.int (4 : Int32)), .val (.int (6 : Int32)), .val (.int (4 : Int32)), .val (.int ld)] [(.long (4 : Int64)), (.long tk), (.ref a1)])) _
      refine XS.ladd X104.here hx rfl (hb hby d_prog_23_method_10_134) rfl ?_
      refine XS.iloadN X104.here hx rfl (hb hby d_prog_23_method_10_135) rfl ?_
      refine XS.i2l X104.here hx rfl (hb hby d_prog_23_method_10_136) rfl ?_
      show Steps p.tables e below (T104.setTop (mkF m 137 #[.val (.ref a1), .val (.ref aA), .val (.int (4 : Int32)), .val (.int (6 : Int32)), .val (.int (4 : Int32)), .val (.int ld)] [(.long ((4 : Int32).toInt64)), (.long (tk + (4 : Int64))), (.ref a1)])) _
      rw [show ((4 : Int32).toInt64) = (4 : Int64) from (by decide)]
      show Steps p.tables e below (T104.setTop (mkF m 137 #[.val (.ref a1), .val (.ref aA), .val (.int (4 : Int32)), .val (.int (6 : Int32)), .val (.int (4 : Int32)), .val (.int ld)] [(.long (4 : Int64)), (.long (tk + (4 : Int64))), (.ref a1)])) _
      refine XS.lsub X104.here hx rfl (hb hby d_prog_23_method_10_137) rfl ?_
      show Steps p.tables e below (T104.setTop (mkF m 138 #[.val (.ref a1), .val (.ref aA), .val (.int (4 : Int32)), .val (.int (6 : Int32)), .val (.int (4 : Int32)), .val (.int ld)] [(.long ((tk + (4 : Int64)) - (4 : Int64))), (.ref a1)])) _
      refine st105 _ ?_
      show Steps p.tables e below (T105.setTop (mkF m 141 #[.val (.ref a1), .val (.ref aA), .val (.int (4 : Int32)), .val (.int (6 : Int32)), .val (.int (4 : Int32)), .val (.int ld)] [])) _
      refine XS.aloadN X105.here hx rfl (hb hby d_prog_23_method_10_141) rfl rfl ?_
      show Steps p.tables e below (T105.setTop (mkF m 142 #[.val (.ref a1), .val (.ref aA), .val (.int (4 : Int32)), .val (.int (6 : Int32)), .val (.int (4 : Int32)), .val (.int ld)] [(.ref a1)])) _
      refine st107 _ ?_
      show Steps p.tables e below (T107.setTop (mkF m 145 #[.val (.ref a1), .val (.ref aA), .val (.int (4 : Int32)), .val (.int (6 : Int32)), .val (.int (4 : Int32)), .val (.int ld)] [(.ref aO)])) _
      refine XS.iconst X107.here hx rfl (hb hby d_prog_23_method_10_145) ?_
      refine XS.aloadN X107.here hx rfl (hb hby d_prog_23_method_10_146) rfl rfl ?_
      refine XS.iload X107.here hx rfl (hb hby d_prog_23_method_10_147) rfl ?_
      show Steps p.tables e below (T107.setTop (mkF m 149 #[.val (.ref a1), .val (.ref aA), .val (.int (4 : Int32)), .val (.int (6 : Int32)), .val (.int (4 : Int32)), .val (.int ld)] [(.int (4 : Int32)), (.ref aA), (.int (0 : Int32)), (.ref aO)])) _
      refine X107.baloadBytes hx (j := (4 : Int32)) (v := (.int x4)) (by rw [e107]; exact Ar109.1) (State.isArrayOf_alike hZ.alike Ar109.2.1) Ar109.2.2 hin109 hat109 (g := (mkF m 149 #[.val (.ref a1), .val (.ref aA), .val (.int (4 : Int32)), .val (.int (6 : Int32)), .val (.int (4 : Int32)), .val (.int ld)] [(.int (4 : Int32)), (.ref aA), (.int (0 : Int32)), (.ref aO)])) rfl rfl (hb hby d_prog_23_method_10_149) _ ?_
      show Steps p.tables e below (T107.setTop (mkF m 150 #[.val (.ref a1), .val (.ref aA), .val (.int (4 : Int32)), .val (.int (6 : Int32)), .val (.int (4 : Int32)), .val (.int ld)] [(.int x4), (.int (0 : Int32)), (.ref aO)])) _
      refine st112 _ ?_
      show Steps p.tables e below (T112.setTop (mkF m 151 #[.val (.ref a1), .val (.ref aA), .val (.int (4 : Int32)), .val (.int (6 : Int32)), .val (.int (4 : Int32)), .val (.int ld)] [])) _
      refine XS.aloadN X112.here hx rfl (hb hby d_prog_23_method_10_151) rfl rfl ?_
      refine XS.iconst X112.here hx rfl (hb hby d_prog_23_method_10_152) ?_
      show Steps p.tables e below (T112.setTop (mkF m 153 #[.val (.ref a1), .val (.ref aA), .val (.int (4 : Int32)), .val (.int (6 : Int32)), .val (.int (4 : Int32)), .val (.int ld)] [(.int (1 : Int32)), (.ref a1)])) _
      refine st115 _ ?_
      show Steps p.tables e below (T115.setTop (mkF m 156 #[.val (.ref a1), .val (.ref aA), .val (.int (4 : Int32)), .val (.int (6 : Int32)), .val (.int (4 : Int32)), .val (.int ld)] [])) _
      refine XS.iload X115.here hx rfl (hb hby d_prog_23_method_10_156) rfl ?_
      refine XS.sipush X115.here hx rfl (hb hby d_prog_23_method_10_158) ?_
      refine XS.icmpNo X115.here hx rfl (hb hby d_prog_23_method_10_161) rfl (flt hc116).1 ?_
      refine XS.iload X115.here hx rfl (hb hby d_prog_23_method_10_164) rfl ?_
      show Steps p.tables e below (T115.setTop (mkF m 166 #[.val (.ref a1), .val (.ref aA), .val (.int (4 : Int32)), .val (.int (6 : Int32)), .val (.int (4 : Int32)), .val (.int ld)] [(.int ld)])) _
      refine XS.sipush X115.here hx rfl (hb hby d_prog_23_method_10_166) ?_
      refine XS.icmpYes X115.here hx rfl (pc0 := 169) (pc' := 180) rfl (hb hby d_prog_23_method_10_169) rfl (tlt hc117).2.2.1 (by decide) (by decide) ?_
      refine XS.iload X115.here hx rfl (hb hby d_prog_23_method_10_180) rfl ?_
      refine XS.sipush X115.here hx rfl (hb hby d_prog_23_method_10_182) ?_
      show Steps p.tables e below (T115.setTop (mkF m 185 #[.val (.ref a1), .val (.ref aA), .val (.int (4 : Int32)), .val (.int (6 : Int32)), .val (.int (4 : Int32)), .val (.int ld)] [(.int (224 : Int32)), (.int ld)])) _
      refine XS.icmpNo X115.here hx rfl (hb hby d_prog_23_method_10_185) rfl (flt hc118).1 ?_
      refine XS.iload X115.here hx rfl (hb hby d_prog_23_method_10_188) rfl ?_
      refine XS.sipush X115.here hx rfl (hb hby d_prog_23_method_10_190) ?_
      show Steps p.tables e below (T115.setTop (mkF m 193 #[.val (.ref a1), .val (.ref aA), .val (.int (4 : Int32)), .val (.int (6 : Int32)), .val (.int (4 : Int32)), .val (.int ld)] [(.int (239 : Int32)), (.int ld)])) _
      exact kk)
  by_cases hc120 : (239 : Int32) < ld
  · have hc121 : ¬ (ld < (240 : Int32)) := (own_gt' hc120 (by decide))
    have hc122 : ¬ ((244 : Int32) < ld) := hl.2
    have f123 := (f113.wr W115)
    have f124 := (((F_needed.other W105 (Or.inr (slot_ne (Or.inl (hw _ (List.mem_of_getElem? (i := 55) rfl))) (Or.inl (hw _ (List.mem_of_getElem? (i := 70) rfl))) (by decide) (t := .int) (t' := .long) (by decide) (by decide)))).other W112 (Or.inl n_a1_aO)).other W115 (Or.inr (slot_ne (Or.inl (hw _ (List.mem_of_getElem? (i := 55) rfl))) (Or.inl (hw _ (List.mem_of_getElem? (i := 57) rfl))) (by decide) (t := .int) (t' := .int) (by decide) (by decide))))
    obtain ⟨T125, h125, X125, e125, W125, st125⟩ := putF X115 hx hZ hown (host := "") (Or.inl (hw _ (List.mem_of_getElem? (i := 54) rfl))) Via.refl e115 f124 f123 (Or.inl (hw _ (List.mem_of_getElem? (i := 55) rfl))) (hw _ (List.mem_of_getElem? (i := 1) rfl)) (ty := .int) (by decide) rfl rfl (g := (mkF m 264 #[.val (.ref a1), .val (.ref aA), .val (.int (4 : Int32)), .val (.int (6 : Int32)), .val (.int (4 : Int32)), .val (.int ld)] [(.int (3 : Int32)), (.ref a1)])) rfl rfl (hb hby d_prog_23_method_10_264)
    have F125 := f124.same W125
    have N125 := Fr.snoc X125 N115 g_a1
    have O125 := O115.wr W125 g_a1
    have K125 := K115.wr W125 (Or.inl (List.mem_of_getElem? (i := 0) rfl))
    have pre126 : ∀ t, Steps p.tables e below (T125.setTop (mkF m 273 #[.val (.ref a1), .val (.ref aA), .val (.int (4 : Int32)), .val (.int (6 : Int32)), .val (.int (4 : Int32)), .val (.int ld)] [(.int (240 : Int32)), (.int ld), (.ref a1)])) t → Steps p.tables e below (s₁.setTop (entryFrame m #[(.ref a1), (.ref aA), (.int (4 : Int32)), (.int (6 : Int32))] 6)) t := fun t kk => pre119 t (by
        refine XS.icmpYes X115.here hx rfl (pc0 := 193) (pc' := 246) rfl (hb hby d_prog_23_method_10_193) rfl (tlt hc120).2.2.1 (by decide) (by decide) ?_
        refine XS.iload X115.here hx rfl (hb hby d_prog_23_method_10_246) rfl ?_
        refine XS.sipush X115.here hx rfl (hb hby d_prog_23_method_10_248) ?_
        refine XS.icmpNo X115.here hx rfl (hb hby d_prog_23_method_10_251) rfl (flt hc121).1 ?_
        show Steps p.tables e below (T115.setTop (mkF m 254 #[.val (.ref a1), .val (.ref aA), .val (.int (4 : Int32)), .val (.int (6 : Int32)), .val (.int (4 : Int32)), .val (.int ld)] [])) _
        refine XS.iload X115.here hx rfl (hb hby d_prog_23_method_10_254) rfl ?_
        refine XS.sipush X115.here hx rfl (hb hby d_prog_23_method_10_256) ?_
        refine XS.icmpNo X115.here hx rfl (hb hby d_prog_23_method_10_259) rfl (flt hc122).2.2.1 ?_
        refine XS.aloadN X115.here hx rfl (hb hby d_prog_23_method_10_262) rfl rfl ?_
        show Steps p.tables e below (T115.setTop (mkF m 263 #[.val (.ref a1), .val (.ref aA), .val (.int (4 : Int32)), .val (.int (6 : Int32)), .val (.int (4 : Int32)), .val (.int ld)] [(.ref a1)])) _
        refine XS.iconst X115.here hx rfl (hb hby d_prog_23_method_10_263) ?_
        show Steps p.tables e below (T115.setTop (mkF m 264 #[.val (.ref a1), .val (.ref aA), .val (.int (4 : Int32)), .val (.int (6 : Int32)), .val (.int (4 : Int32)), .val (.int ld)] [(.int (3 : Int32)), (.ref a1)])) _
        refine st125 _ ?_
        show Steps p.tables e below (T125.setTop (mkF m 267 #[.val (.ref a1), .val (.ref aA), .val (.int (4 : Int32)), .val (.int (6 : Int32)), .val (.int (4 : Int32)), .val (.int ld)] [])) _
        refine XS.aloadN X125.here hx rfl (hb hby d_prog_23_method_10_267) rfl rfl ?_
        refine XS.iload X125.here hx rfl (hb hby d_prog_23_method_10_268) rfl ?_
        refine XS.sipush X125.here hx rfl (hb hby d_prog_23_method_10_270) ?_
        show Steps p.tables e below (T125.setTop (mkF m 273 #[.val (.ref a1), .val (.ref aA), .val (.int (4 : Int32)), .val (.int (6 : Int32)), .val (.int (4 : Int32)), .val (.int ld)] [(.int (240 : Int32)), (.int ld), (.ref a1)])) _
        exact kk)
    obtain ⟨lo, h_lo⟩ : ∃ z : Int32, z = (if ld = (240 : Int32) then (144 : Int32) else (128 : Int32)) := ⟨_, rfl⟩
    have pre128 : ∀ t, Steps p.tables e below (T125.setTop (mkF m 285 #[.val (.ref a1), .val (.ref aA), .val (.int (4 : Int32)), .val (.int (6 : Int32)), .val (.int (4 : Int32)), .val (.int ld)] [(.int lo), (.ref a1)])) t → Steps p.tables e below (s₁.setTop (entryFrame m #[(.ref a1), (.ref aA), (.int (4 : Int32)), (.int (6 : Int32))] 6)) t := fun t kk => pre126 t (by
        by_cases hc127 : ld = (240 : Int32)
        · refine XS.icmpNo X125.here hx rfl (hb hby d_prog_23_method_10_273) rfl (teq hc127).2 ?_
          show Steps p.tables e below (T125.setTop (mkF m 276 #[.val (.ref a1), .val (.ref aA), .val (.int (4 : Int32)), .val (.int (6 : Int32)), .val (.int (4 : Int32)), .val (.int ld)] [(.ref a1)])) _
          refine XS.sipush X125.here hx rfl (hb hby d_prog_23_method_10_276) ?_
          show Steps p.tables e below (T125.setTop (mkF m 279 #[.val (.ref a1), .val (.ref aA), .val (.int (4 : Int32)), .val (.int (6 : Int32)), .val (.int (4 : Int32)), .val (.int ld)] [(.int (144 : Int32)), (.ref a1)])) _
          refine XS.goto X125.here hx rfl (pc0 := 279) (pc' := 285) rfl (hb hby d_prog_23_method_10_279) (by decide) (by decide) ?_
          show Steps p.tables e below (T125.setTop (mkF m 285 #[.val (.ref a1), .val (.ref aA), .val (.int (4 : Int32)), .val (.int (6 : Int32)), .val (.int (4 : Int32)), .val (.int ld)] [(.int (144 : Int32)), (.ref a1)])) _
          rw [show lo = (144 : Int32) from by rw [h_lo, if_pos hc127]] at kk
          exact kk
        · refine XS.icmpYes X125.here hx rfl (pc0 := 273) (pc' := 282) rfl (hb hby d_prog_23_method_10_273) rfl (feq hc127).2 (by decide) (by decide) ?_
          show Steps p.tables e below (T125.setTop (mkF m 282 #[.val (.ref a1), .val (.ref aA), .val (.int (4 : Int32)), .val (.int (6 : Int32)), .val (.int (4 : Int32)), .val (.int ld)] [(.ref a1)])) _
          refine XS.sipush X125.here hx rfl (hb hby d_prog_23_method_10_282) ?_
          show Steps p.tables e below (T125.setTop (mkF m 285 #[.val (.ref a1), .val (.ref aA), .val (.int (4 : Int32)), .val (.int (6 : Int32)), .val (.int (4 : Int32)), .val (.int ld)] [(.int (128 : Int32)), (.ref a1)])) _
          rw [show lo = (128 : Int32) from by rw [h_lo, if_neg hc127]] at kk
          exact kk)
    have f129 := (f123.wr W125)
    have f130 := ((((F_low.other W105 (Or.inr (slot_ne (Or.inl (hw _ (List.mem_of_getElem? (i := 18) rfl))) (Or.inl (hw _ (List.mem_of_getElem? (i := 70) rfl))) (by decide) (t := .int) (t' := .long) (by decide) (by decide)))).other W112 (Or.inl n_a1_aO)).other W115 (Or.inr (slot_ne (Or.inl (hw _ (List.mem_of_getElem? (i := 18) rfl))) (Or.inl (hw _ (List.mem_of_getElem? (i := 57) rfl))) (by decide) (t := .int) (t' := .int) (by decide) (by decide)))).other W125 (Or.inr (slot_ne (Or.inl (hw _ (List.mem_of_getElem? (i := 18) rfl))) (Or.inl (hw _ (List.mem_of_getElem? (i := 55) rfl))) (by decide) (t := .int) (t' := .int) (by decide) (by decide))))
    obtain ⟨T131, h131, X131, e131, W131, st131⟩ := putF X125 hx hZ hown (host := "") (Or.inl (hw _ (List.mem_of_getElem? (i := 17) rfl))) Via.refl e125 f130 f129 (Or.inl (hw _ (List.mem_of_getElem? (i := 18) rfl))) (hw _ (List.mem_of_getElem? (i := 1) rfl)) (ty := .int) (by decide) rfl rfl (g := (mkF m 285 #[.val (.ref a1), .val (.ref aA), .val (.int (4 : Int32)), .val (.int (6 : Int32)), .val (.int (4 : Int32)), .val (.int ld)] [(.int lo), (.ref a1)])) rfl rfl (hb hby d_prog_23_method_10_285)
    have F131 := f130.same W131
    have N131 := Fr.snoc X131 N125 g_a1
    have O131 := O125.wr W131 g_a1
    have K131 := K125.wr W131 (Or.inl (List.mem_of_getElem? (i := 0) rfl))
    have pre132 : ∀ t, Steps p.tables e below (T131.setTop (mkF m 294 #[.val (.ref a1), .val (.ref aA), .val (.int (4 : Int32)), .val (.int (6 : Int32)), .val (.int (4 : Int32)), .val (.int ld)] [(.int (244 : Int32)), (.int ld), (.ref a1)])) t → Steps p.tables e below (s₁.setTop (entryFrame m #[(.ref a1), (.ref aA), (.int (4 : Int32)), (.int (6 : Int32))] 6)) t := fun t kk => pre128 t (by
        show Steps p.tables e below (T125.setTop (mkF m 285 #[.val (.ref a1), .val (.ref aA), .val (.int (4 : Int32)), .val (.int (6 : Int32)), .val (.int (4 : Int32)), .val (.int ld)] [(.int lo), (.ref a1)])) _
        refine st131 _ ?_
        show Steps p.tables e below (T131.setTop (mkF m 288 #[.val (.ref a1), .val (.ref aA), .val (.int (4 : Int32)), .val (.int (6 : Int32)), .val (.int (4 : Int32)), .val (.int ld)] [])) _
        refine XS.aloadN X131.here hx rfl (hb hby d_prog_23_method_10_288) rfl rfl ?_
        refine XS.iload X131.here hx rfl (hb hby d_prog_23_method_10_289) rfl ?_
        refine XS.sipush X131.here hx rfl (hb hby d_prog_23_method_10_291) ?_
        show Steps p.tables e below (T131.setTop (mkF m 294 #[.val (.ref a1), .val (.ref aA), .val (.int (4 : Int32)), .val (.int (6 : Int32)), .val (.int (4 : Int32)), .val (.int ld)] [(.int (244 : Int32)), (.int ld), (.ref a1)])) _
        exact kk)
    obtain ⟨hi, h_hi⟩ : ∃ z : Int32, z = (if ld = (244 : Int32) then (143 : Int32) else (191 : Int32)) := ⟨_, rfl⟩
    have pre134 : ∀ t, Steps p.tables e below (T131.setTop (mkF m 306 #[.val (.ref a1), .val (.ref aA), .val (.int (4 : Int32)), .val (.int (6 : Int32)), .val (.int (4 : Int32)), .val (.int ld)] [(.int hi), (.ref a1)])) t → Steps p.tables e below (s₁.setTop (entryFrame m #[(.ref a1), (.ref aA), (.int (4 : Int32)), (.int (6 : Int32))] 6)) t := fun t kk => pre132 t (by
        by_cases hc133 : ld = (244 : Int32)
        · refine XS.icmpNo X131.here hx rfl (hb hby d_prog_23_method_10_294) rfl (teq hc133).2 ?_
          show Steps p.tables e below (T131.setTop (mkF m 297 #[.val (.ref a1), .val (.ref aA), .val (.int (4 : Int32)), .val (.int (6 : Int32)), .val (.int (4 : Int32)), .val (.int ld)] [(.ref a1)])) _
          refine XS.sipush X131.here hx rfl (hb hby d_prog_23_method_10_297) ?_
          show Steps p.tables e below (T131.setTop (mkF m 300 #[.val (.ref a1), .val (.ref aA), .val (.int (4 : Int32)), .val (.int (6 : Int32)), .val (.int (4 : Int32)), .val (.int ld)] [(.int (143 : Int32)), (.ref a1)])) _
          refine XS.goto X131.here hx rfl (pc0 := 300) (pc' := 306) rfl (hb hby d_prog_23_method_10_300) (by decide) (by decide) ?_
          show Steps p.tables e below (T131.setTop (mkF m 306 #[.val (.ref a1), .val (.ref aA), .val (.int (4 : Int32)), .val (.int (6 : Int32)), .val (.int (4 : Int32)), .val (.int ld)] [(.int (143 : Int32)), (.ref a1)])) _
          rw [show hi = (143 : Int32) from by rw [h_hi, if_pos hc133]] at kk
          exact kk
        · refine XS.icmpYes X131.here hx rfl (pc0 := 294) (pc' := 303) rfl (hb hby d_prog_23_method_10_294) rfl (feq hc133).2 (by decide) (by decide) ?_
          show Steps p.tables e below (T131.setTop (mkF m 303 #[.val (.ref a1), .val (.ref aA), .val (.int (4 : Int32)), .val (.int (6 : Int32)), .val (.int (4 : Int32)), .val (.int ld)] [(.ref a1)])) _
          refine XS.sipush X131.here hx rfl (hb hby d_prog_23_method_10_303) ?_
          show Steps p.tables e below (T131.setTop (mkF m 306 #[.val (.ref a1), .val (.ref aA), .val (.int (4 : Int32)), .val (.int (6 : Int32)), .val (.int (4 : Int32)), .val (.int ld)] [(.int (191 : Int32)), (.ref a1)])) _
          rw [show hi = (191 : Int32) from by rw [h_hi, if_neg hc133]] at kk
          exact kk)
    have f135 := (f129.wr W131)
    have f136 := (((((F_high.other W105 (Or.inr (slot_ne (Or.inl (hw _ (List.mem_of_getElem? (i := 20) rfl))) (Or.inl (hw _ (List.mem_of_getElem? (i := 70) rfl))) (by decide) (t := .int) (t' := .long) (by decide) (by decide)))).other W112 (Or.inl n_a1_aO)).other W115 (Or.inr (slot_ne (Or.inl (hw _ (List.mem_of_getElem? (i := 20) rfl))) (Or.inl (hw _ (List.mem_of_getElem? (i := 57) rfl))) (by decide) (t := .int) (t' := .int) (by decide) (by decide)))).other W125 (Or.inr (slot_ne (Or.inl (hw _ (List.mem_of_getElem? (i := 20) rfl))) (Or.inl (hw _ (List.mem_of_getElem? (i := 55) rfl))) (by decide) (t := .int) (t' := .int) (by decide) (by decide)))).other W131 (Or.inr (slot_ne (Or.inl (hw _ (List.mem_of_getElem? (i := 20) rfl))) (Or.inl (hw _ (List.mem_of_getElem? (i := 18) rfl))) (by decide) (t := .int) (t' := .int) (by decide) (by decide))))
    obtain ⟨T137, h137, X137, e137, W137, st137⟩ := putF X131 hx hZ hown (host := "") (Or.inl (hw _ (List.mem_of_getElem? (i := 19) rfl))) Via.refl e131 f136 f135 (Or.inl (hw _ (List.mem_of_getElem? (i := 20) rfl))) (hw _ (List.mem_of_getElem? (i := 1) rfl)) (ty := .int) (by decide) rfl rfl (g := (mkF m 306 #[.val (.ref a1), .val (.ref aA), .val (.int (4 : Int32)), .val (.int (6 : Int32)), .val (.int (4 : Int32)), .val (.int ld)] [(.int hi), (.ref a1)])) rfl rfl (hb hby d_prog_23_method_10_306)
    have F137 := f136.same W137
    have N137 := Fr.snoc X137 N131 g_a1
    have O137 := O131.wr W137 g_a1
    have K137 := K131.wr W137 (Or.inl (List.mem_of_getElem? (i := 0) rfl))
    have f138 := (((((f108.other W112 n_aA_aO).other W115 (Ne.symm n_a1_aA)).other W125 (Ne.symm n_a1_aA)).other W131 (Ne.symm n_a1_aA)).other W137 (Ne.symm n_a1_aA))
    obtain ⟨cl139, Ar139, q139, S139, Ne139, H139, G139⟩ := id f138
    have hin139 : ¬ ((5 : Int32) < 0 ∨ cl139.slots.size ≤ ((5 : Int32)).toNatClampNeg) := inb_of S139 ⟨by decide, by decide⟩
    have hat139 : cl139.slots[((5 : Int32)).toNatClampNeg]? = some (.int x5) := H139.at hin139 rfl
    have f140 := ((F125.other W131 (Or.inr (slot_ne (Or.inl (hw _ (List.mem_of_getElem? (i := 55) rfl))) (Or.inl (hw _ (List.mem_of_getElem? (i := 18) rfl))) (by decide) (t := .int) (t' := .int) (by decide) (by decide)))).other W137 (Or.inr (slot_ne (Or.inl (hw _ (List.mem_of_getElem? (i := 55) rfl))) (Or.inl (hw _ (List.mem_of_getElem? (i := 20) rfl))) (by decide) (t := .int) (t' := .int) (by decide) (by decide))))
    obtain ⟨T141, X141, e141, st141⟩ := getF X137 hx hZ hown (host := "") (Or.inl (hw _ (List.mem_of_getElem? (i := 54) rfl))) Via.refl e137 f140 (g := (mkF m 20 #[.val (.ref a1), .val (.ref aA), .val (.int (4 : Int32)), .val (.int (6 : Int32)), .val (.int (5 : Int32)), .val (.int c1)] [(.ref a1)])) rfl rfl (hb hby d_prog_23_method_10_20)
    have f142 := (F131.other W137 (Or.inr (slot_ne (Or.inl (hw _ (List.mem_of_getElem? (i := 18) rfl))) (Or.inl (hw _ (List.mem_of_getElem? (i := 20) rfl))) (by decide) (t := .int) (t' := .int) (by decide) (by decide))))
    obtain ⟨T143, X143, e143, st143⟩ := getF X141 hx hZ hown (host := "") (Or.inl (hw _ (List.mem_of_getElem? (i := 17) rfl))) Via.refl e141 f142 (g := (mkF m 29 #[.val (.ref a1), .val (.ref aA), .val (.int (4 : Int32)), .val (.int (6 : Int32)), .val (.int (5 : Int32)), .val (.int c1)] [(.ref a1), (.int c1)])) rfl rfl (hb hby d_prog_23_method_10_29)
    have hc144 : ¬ (c1 < lo) := (by rw [hc1, h_lo]; by_cases e1 : ld = (224 : Int32) <;> by_cases e2 : ld = (240 : Int32) <;> simp +decide [e1, e2])
    obtain ⟨T145, X145, e145, st145⟩ := getF X143 hx hZ hown (host := "") (Or.inl (hw _ (List.mem_of_getElem? (i := 19) rfl))) Via.refl e143 F137 (g := (mkF m 38 #[.val (.ref a1), .val (.ref aA), .val (.int (4 : Int32)), .val (.int (6 : Int32)), .val (.int (5 : Int32)), .val (.int c1)] [(.ref a1), (.int c1)])) rfl rfl (hb hby d_prog_23_method_10_38)
    have hc146 : ¬ (hi < c1) := (by rw [hc1, h_hi]; by_cases e1 : ld = (224 : Int32) <;> by_cases e2 : ld = (240 : Int32) <;> by_cases e3 : ld = (237 : Int32) <;> by_cases e4 : ld = (244 : Int32) <;> simp +decide [e1, e2, e3, e4])
    have f147 := (((((f106.other W112 (Or.inl n_a1_aO)).other W115 (Or.inr (slot_ne (Or.inr (hw _ (List.mem_of_getElem? (i := 22) rfl))) (Or.inl (hw _ (List.mem_of_getElem? (i := 57) rfl))) (by decide) (t := (.array .byte)) (t' := .int) (by decide) (by decide)))).other W125 (Or.inr (slot_ne (Or.inr (hw _ (List.mem_of_getElem? (i := 22) rfl))) (Or.inl (hw _ (List.mem_of_getElem? (i := 55) rfl))) (by decide) (t := (.array .byte)) (t' := .int) (by decide) (by decide)))).other W131 (Or.inr (slot_ne (Or.inr (hw _ (List.mem_of_getElem? (i := 22) rfl))) (Or.inl (hw _ (List.mem_of_getElem? (i := 18) rfl))) (by decide) (t := (.array .byte)) (t' := .int) (by decide) (by decide)))).other W137 (Or.inr (slot_ne (Or.inr (hw _ (List.mem_of_getElem? (i := 22) rfl))) (Or.inl (hw _ (List.mem_of_getElem? (i := 20) rfl))) (by decide) (t := (.array .byte)) (t' := .int) (by decide) (by decide))))
    obtain ⟨T148, X148, e148, st148⟩ := getF X145 hx hZ hown (host := "") (Or.inl (hw _ (List.mem_of_getElem? (i := 21) rfl))) Via.refl e145 f147 (g := (mkF m 69 #[.val (.ref a1), .val (.ref aA), .val (.int (4 : Int32)), .val (.int (6 : Int32)), .val (.int (5 : Int32)), .val (.int c1)] [(.ref a1)])) rfl rfl (hb hby d_prog_23_method_10_69)
    have f149 := (((F115.other W125 (Or.inr (slot_ne (Or.inl (hw _ (List.mem_of_getElem? (i := 57) rfl))) (Or.inl (hw _ (List.mem_of_getElem? (i := 55) rfl))) (by decide) (t := .int) (t' := .int) (by decide) (by decide)))).other W131 (Or.inr (slot_ne (Or.inl (hw _ (List.mem_of_getElem? (i := 57) rfl))) (Or.inl (hw _ (List.mem_of_getElem? (i := 18) rfl))) (by decide) (t := .int) (t' := .int) (by decide) (by decide)))).other W137 (Or.inr (slot_ne (Or.inl (hw _ (List.mem_of_getElem? (i := 57) rfl))) (Or.inl (hw _ (List.mem_of_getElem? (i := 20) rfl))) (by decide) (t := .int) (t' := .int) (by decide) (by decide))))
    obtain ⟨T150, X150, e150, st150⟩ := getF X148 hx hZ hown (host := "") (Or.inl (hw _ (List.mem_of_getElem? (i := 56) rfl))) Via.refl e148 f149 (g := (mkF m 74 #[.val (.ref a1), .val (.ref aA), .val (.int (4 : Int32)), .val (.int (6 : Int32)), .val (.int (5 : Int32)), .val (.int c1)] [(.ref a1), (.ref a1), (.ref aO)])) rfl rfl (hb hby d_prog_23_method_10_74)
    have f151 := (f135.wr W137)
    obtain ⟨T152, h152, X152, e152, W152, st152⟩ := putF X150 hx hZ hown (host := "") (Or.inl (hw _ (List.mem_of_getElem? (i := 56) rfl))) Via.refl e150 f149 f151 (Or.inl (hw _ (List.mem_of_getElem? (i := 57) rfl))) (hw _ (List.mem_of_getElem? (i := 1) rfl)) (ty := .int) (by decide) rfl rfl (g := (mkF m 80 #[.val (.ref a1), .val (.ref aA), .val (.int (4 : Int32)), .val (.int (6 : Int32)), .val (.int (5 : Int32)), .val (.int c1)] [(.int (2 : Int32)), (.ref a1), (.int (1 : Int32)), (.ref aO)])) rfl rfl (hb hby d_prog_23_method_10_80)
    have F152 := f149.same W152
    have N152 := Fr.snoc X152 N137 g_a1
    have O152 := O137.wr W152 g_a1
    have K152 := K137.wr W152 (Or.inl (List.mem_of_getElem? (i := 0) rfl))
    have f153 := (f138.other W152 (Ne.symm n_a1_aA))
    obtain ⟨cl154, Ar154, q154, S154, Ne154, H154, G154⟩ := id f153
    have hin154 : ¬ ((5 : Int32) < 0 ∨ cl154.slots.size ≤ ((5 : Int32)).toNatClampNeg) := inb_of S154 ⟨by decide, by decide⟩
    have hat154 : cl154.slots[((5 : Int32)).toNatClampNeg]? = some (.int x5) := H154.at hin154 rfl
    have f155 := (((((V112.other W115 (Ne.symm n_a1_aO)).other W125 (Ne.symm n_a1_aO)).other W131 (Ne.symm n_a1_aO)).other W137 (Ne.symm n_a1_aO)).other W152 (Ne.symm n_a1_aO))
    obtain ⟨cl156, Ar156, q156, S156, Ne156, H156, G156⟩ := id f155
    have hin156 : ¬ ((1 : Int32) < 0 ∨ cl156.slots.size ≤ ((1 : Int32)).toNatClampNeg) := inb_of S156 ⟨by decide, by decide⟩
    obtain ⟨T157, h157, X157, e157, W157, st157⟩ := stB X152 hx hZ e152 Ar156 (j := (1 : Int32)) hin156 (g := (mkF m 87 #[.val (.ref a1), .val (.ref aA), .val (.int (4 : Int32)), .val (.int (6 : Int32)), .val (.int (5 : Int32)), .val (.int c1)] [(.int x5), (.int (1 : Int32)), (.ref aO)])) rfl rfl (hb hby d_prog_23_method_10_87)
    have V157 : Arv Z h157 aO kO .byte (4 : Int32) [(.int (nar .byte x4)), (.int (nar .byte x5)), (.int (0 : Int32)), (.int (0 : Int32))] (.int (0 : Int32)) := Arv.set Ar156 q156 S156 Ne156 H156 G156 (fits_nar_byte _) W157 1 rfl (Nat.le_of_ble_eq_true rfl)
    have N157 := Fr.snoc X157 N152 g_aO
    have O157 := O152.wr W157 g_aO
    have K157 := K152.wr W157 (Or.inl (List.mem_of_getElem? (i := 1) rfl))
    have f158 := ((f140.other W152 (Or.inr (slot_ne (Or.inl (hw _ (List.mem_of_getElem? (i := 55) rfl))) (Or.inl (hw _ (List.mem_of_getElem? (i := 57) rfl))) (by decide) (t := .int) (t' := .int) (by decide) (by decide)))).other W157 (Or.inl n_a1_aO))
    obtain ⟨T159, X159, e159, st159⟩ := getF X157 hx hZ hown (host := "") (Or.inl (hw _ (List.mem_of_getElem? (i := 54) rfl))) Via.refl e157 f158 (g := (mkF m 90 #[.val (.ref a1), .val (.ref aA), .val (.int (4 : Int32)), .val (.int (6 : Int32)), .val (.int (5 : Int32)), .val (.int c1)] [(.ref a1), (.ref a1)])) rfl rfl (hb hby d_prog_23_method_10_90)
    have f160 := ((f151.wr W152).wr W157)
    obtain ⟨T161, h161, X161, e161, W161, st161⟩ := putF X159 hx hZ hown (host := "") (Or.inl (hw _ (List.mem_of_getElem? (i := 54) rfl))) Via.refl e159 f158 f160 (Or.inl (hw _ (List.mem_of_getElem? (i := 55) rfl))) (hw _ (List.mem_of_getElem? (i := 1) rfl)) (ty := .int) (by decide) rfl rfl (g := (mkF m 95 #[.val (.ref a1), .val (.ref aA), .val (.int (4 : Int32)), .val (.int (6 : Int32)), .val (.int (5 : Int32)), .val (.int c1)] [(.int (2 : Int32)), (.ref a1)])) rfl rfl (hb hby d_prog_23_method_10_95)
    have F161 := f158.same W161
    have N161 := Fr.snoc X161 N157 g_a1
    have O161 := O157.wr W161 g_a1
    have K161 := K157.wr W161 (Or.inl (List.mem_of_getElem? (i := 0) rfl))
    have f162 := (f160.wr W161)
    have f163 := (((f142.other W152 (Or.inr (slot_ne (Or.inl (hw _ (List.mem_of_getElem? (i := 18) rfl))) (Or.inl (hw _ (List.mem_of_getElem? (i := 57) rfl))) (by decide) (t := .int) (t' := .int) (by decide) (by decide)))).other W157 (Or.inl n_a1_aO)).other W161 (Or.inr (slot_ne (Or.inl (hw _ (List.mem_of_getElem? (i := 18) rfl))) (Or.inl (hw _ (List.mem_of_getElem? (i := 55) rfl))) (by decide) (t := .int) (t' := .int) (by decide) (by decide))))
    obtain ⟨T164, h164, X164, e164, W164, st164⟩ := putF X161 hx hZ hown (host := "") (Or.inl (hw _ (List.mem_of_getElem? (i := 17) rfl))) Via.refl e161 f163 f162 (Or.inl (hw _ (List.mem_of_getElem? (i := 18) rfl))) (hw _ (List.mem_of_getElem? (i := 1) rfl)) (ty := .int) (by decide) rfl rfl (g := (mkF m 102 #[.val (.ref a1), .val (.ref aA), .val (.int (4 : Int32)), .val (.int (6 : Int32)), .val (.int (5 : Int32)), .val (.int c1)] [(.int (128 : Int32)), (.ref a1)])) rfl rfl (hb hby d_prog_23_method_10_102)
    have F164 := f163.same W164
    have N164 := Fr.snoc X164 N161 g_a1
    have O164 := O161.wr W164 g_a1
    have K164 := K161.wr W164 (Or.inl (List.mem_of_getElem? (i := 0) rfl))
    have f165 := (f162.wr W164)
    have f166 := ((((F137.other W152 (Or.inr (slot_ne (Or.inl (hw _ (List.mem_of_getElem? (i := 20) rfl))) (Or.inl (hw _ (List.mem_of_getElem? (i := 57) rfl))) (by decide) (t := .int) (t' := .int) (by decide) (by decide)))).other W157 (Or.inl n_a1_aO)).other W161 (Or.inr (slot_ne (Or.inl (hw _ (List.mem_of_getElem? (i := 20) rfl))) (Or.inl (hw _ (List.mem_of_getElem? (i := 55) rfl))) (by decide) (t := .int) (t' := .int) (by decide) (by decide)))).other W164 (Or.inr (slot_ne (Or.inl (hw _ (List.mem_of_getElem? (i := 20) rfl))) (Or.inl (hw _ (List.mem_of_getElem? (i := 18) rfl))) (by decide) (t := .int) (t' := .int) (by decide) (by decide))))
    obtain ⟨T167, h167, X167, e167, W167, st167⟩ := putF X164 hx hZ hown (host := "") (Or.inl (hw _ (List.mem_of_getElem? (i := 19) rfl))) Via.refl e164 f166 f165 (Or.inl (hw _ (List.mem_of_getElem? (i := 20) rfl))) (hw _ (List.mem_of_getElem? (i := 1) rfl)) (ty := .int) (by decide) rfl rfl (g := (mkF m 109 #[.val (.ref a1), .val (.ref aA), .val (.int (4 : Int32)), .val (.int (6 : Int32)), .val (.int (5 : Int32)), .val (.int c1)] [(.int (191 : Int32)), (.ref a1)])) rfl rfl (hb hby d_prog_23_method_10_109)
    have F167 := f166.same W167
    have N167 := Fr.snoc X167 N164 g_a1
    have O167 := O164.wr W167 g_a1
    have K167 := K164.wr W167 (Or.inl (List.mem_of_getElem? (i := 0) rfl))
    have f168 := (f165.wr W167)
    have f169 := ((F161.other W164 (Or.inr (slot_ne (Or.inl (hw _ (List.mem_of_getElem? (i := 55) rfl))) (Or.inl (hw _ (List.mem_of_getElem? (i := 18) rfl))) (by decide) (t := .int) (t' := .int) (by decide) (by decide)))).other W167 (Or.inr (slot_ne (Or.inl (hw _ (List.mem_of_getElem? (i := 55) rfl))) (Or.inl (hw _ (List.mem_of_getElem? (i := 20) rfl))) (by decide) (t := .int) (t' := .int) (by decide) (by decide))))
    have f170 := ((((F152.other W157 (Or.inl n_a1_aO)).other W161 (Or.inr (slot_ne (Or.inl (hw _ (List.mem_of_getElem? (i := 57) rfl))) (Or.inl (hw _ (List.mem_of_getElem? (i := 55) rfl))) (by decide) (t := .int) (t' := .int) (by decide) (by decide)))).other W164 (Or.inr (slot_ne (Or.inl (hw _ (List.mem_of_getElem? (i := 57) rfl))) (Or.inl (hw _ (List.mem_of_getElem? (i := 18) rfl))) (by decide) (t := .int) (t' := .int) (by decide) (by decide)))).other W167 (Or.inr (slot_ne (Or.inl (hw _ (List.mem_of_getElem? (i := 57) rfl))) (Or.inl (hw _ (List.mem_of_getElem? (i := 20) rfl))) (by decide) (t := .int) (t' := .int) (by decide) (by decide))))
    have f171 := (((((((((((F_taken.other W105 (Or.inr (slot_ne (Or.inl (hw _ (List.mem_of_getElem? (i := 48) rfl))) (Or.inl (hw _ (List.mem_of_getElem? (i := 70) rfl))) (by decide) (t := .long) (t' := .long) (by decide) (by decide)))).other W112 (Or.inl n_a1_aO)).other W115 (Or.inr (slot_ne (Or.inl (hw _ (List.mem_of_getElem? (i := 48) rfl))) (Or.inl (hw _ (List.mem_of_getElem? (i := 57) rfl))) (by decide) (t := .long) (t' := .int) (by decide) (by decide)))).other W125 (Or.inr (slot_ne (Or.inl (hw _ (List.mem_of_getElem? (i := 48) rfl))) (Or.inl (hw _ (List.mem_of_getElem? (i := 55) rfl))) (by decide) (t := .long) (t' := .int) (by decide) (by decide)))).other W131 (Or.inr (slot_ne (Or.inl (hw _ (List.mem_of_getElem? (i := 48) rfl))) (Or.inl (hw _ (List.mem_of_getElem? (i := 18) rfl))) (by decide) (t := .long) (t' := .int) (by decide) (by decide)))).other W137 (Or.inr (slot_ne (Or.inl (hw _ (List.mem_of_getElem? (i := 48) rfl))) (Or.inl (hw _ (List.mem_of_getElem? (i := 20) rfl))) (by decide) (t := .long) (t' := .int) (by decide) (by decide)))).other W152 (Or.inr (slot_ne (Or.inl (hw _ (List.mem_of_getElem? (i := 48) rfl))) (Or.inl (hw _ (List.mem_of_getElem? (i := 57) rfl))) (by decide) (t := .long) (t' := .int) (by decide) (by decide)))).other W157 (Or.inl n_a1_aO)).other W161 (Or.inr (slot_ne (Or.inl (hw _ (List.mem_of_getElem? (i := 48) rfl))) (Or.inl (hw _ (List.mem_of_getElem? (i := 55) rfl))) (by decide) (t := .long) (t' := .int) (by decide) (by decide)))).other W164 (Or.inr (slot_ne (Or.inl (hw _ (List.mem_of_getElem? (i := 48) rfl))) (Or.inl (hw _ (List.mem_of_getElem? (i := 18) rfl))) (by decide) (t := .long) (t' := .int) (by decide) (by decide)))).other W167 (Or.inr (slot_ne (Or.inl (hw _ (List.mem_of_getElem? (i := 48) rfl))) (Or.inl (hw _ (List.mem_of_getElem? (i := 20) rfl))) (by decide) (t := .long) (t' := .int) (by decide) (by decide))))
    have f172 := (((((((((((F_rule.other W105 (Or.inr (slot_ne (Or.inl (hw _ (List.mem_of_getElem? (i := 16) rfl))) (Or.inl (hw _ (List.mem_of_getElem? (i := 70) rfl))) (by decide) (t := (.object "com/example/dewey/dewey/EncodingCheck$Rule")) (t' := .long) (by decide) (by decide)))).other W112 (Or.inl n_a1_aO)).other W115 (Or.inr (slot_ne (Or.inl (hw _ (List.mem_of_getElem? (i := 16) rfl))) (Or.inl (hw _ (List.mem_of_getElem? (i := 57) rfl))) (by decide) (t := (.object "com/example/dewey/dewey/EncodingCheck$Rule")) (t' := .int) (by decide) (by decide)))).other W125 (Or.inr (slot_ne (Or.inl (hw _ (List.mem_of_getElem? (i := 16) rfl))) (Or.inl (hw _ (List.mem_of_getElem? (i := 55) rfl))) (by decide) (t := (.object "com/example/dewey/dewey/EncodingCheck$Rule")) (t' := .int) (by decide) (by decide)))).other W131 (Or.inr (slot_ne (Or.inl (hw _ (List.mem_of_getElem? (i := 16) rfl))) (Or.inl (hw _ (List.mem_of_getElem? (i := 18) rfl))) (by decide) (t := (.object "com/example/dewey/dewey/EncodingCheck$Rule")) (t' := .int) (by decide) (by decide)))).other W137 (Or.inr (slot_ne (Or.inl (hw _ (List.mem_of_getElem? (i := 16) rfl))) (Or.inl (hw _ (List.mem_of_getElem? (i := 20) rfl))) (by decide) (t := (.object "com/example/dewey/dewey/EncodingCheck$Rule")) (t' := .int) (by decide) (by decide)))).other W152 (Or.inr (slot_ne (Or.inl (hw _ (List.mem_of_getElem? (i := 16) rfl))) (Or.inl (hw _ (List.mem_of_getElem? (i := 57) rfl))) (by decide) (t := (.object "com/example/dewey/dewey/EncodingCheck$Rule")) (t' := .int) (by decide) (by decide)))).other W157 (Or.inl n_a1_aO)).other W161 (Or.inr (slot_ne (Or.inl (hw _ (List.mem_of_getElem? (i := 16) rfl))) (Or.inl (hw _ (List.mem_of_getElem? (i := 55) rfl))) (by decide) (t := (.object "com/example/dewey/dewey/EncodingCheck$Rule")) (t' := .int) (by decide) (by decide)))).other W164 (Or.inr (slot_ne (Or.inl (hw _ (List.mem_of_getElem? (i := 16) rfl))) (Or.inl (hw _ (List.mem_of_getElem? (i := 18) rfl))) (by decide) (t := (.object "com/example/dewey/dewey/EncodingCheck$Rule")) (t' := .int) (by decide) (by decide)))).other W167 (Or.inr (slot_ne (Or.inl (hw _ (List.mem_of_getElem? (i := 16) rfl))) (Or.inl (hw _ (List.mem_of_getElem? (i := 20) rfl))) (by decide) (t := (.object "com/example/dewey/dewey/EncodingCheck$Rule")) (t' := .int) (by decide) (by decide))))
    obtain ⟨fs, hr, hrun, hended, hW, hsame⟩ := X167.leave (v := none) (fun _ => rfl)
    refine ⟨_, _, pre134 _ ?_, hrun, hended, _, _, rfl, ?_, ⟨_, rfl⟩, hW, hsame.mono (by decide) (by decide)⟩
    · show Steps p.tables e below (T131.setTop (mkF m 306 #[.val (.ref a1), .val (.ref aA), .val (.int (4 : Int32)), .val (.int (6 : Int32)), .val (.int (4 : Int32)), .val (.int ld)] [(.int hi), (.ref a1)])) _
      refine st137 _ ?_
      show Steps p.tables e below (T137.setTop (mkF m 309 #[.val (.ref a1), .val (.ref aA), .val (.int (4 : Int32)), .val (.int (6 : Int32)), .val (.int (4 : Int32)), .val (.int ld)] [])) _
      refine XS.goto X137.here hx rfl (pc0 := 309) (pc' := 318) rfl (hb hby d_prog_23_method_10_309) (by decide) (by decide) ?_
      refine XS.iinc X137.here hx rfl (hb hby d_prog_23_method_10_318) rfl (l' := #[.val (.ref a1), .val (.ref aA), .val (.int (4 : Int32)), .val (.int (6 : Int32)), .val (.int ((4 : Int32) + (1 : Int32))), .val (.int ld)]) rfl ?_
      show Steps p.tables e below (T137.setTop (mkF m 321 #[.val (.ref a1), .val (.ref aA), .val (.int (4 : Int32)), .val (.int (6 : Int32)), .val (.int ((4 : Int32) + (1 : Int32))), .val (.int ld)] [])) _
      rw [show ((4 : Int32) + (1 : Int32)) = (5 : Int32) from (by decide)]
      show Steps p.tables e below (T137.setTop (mkF m 321 #[.val (.ref a1), .val (.ref aA), .val (.int (4 : Int32)), .val (.int (6 : Int32)), .val (.int (5 : Int32)), .val (.int ld)] [])) _
      refine XS.goto X137.here hx rfl (pc0 := 321) (pc' := 3) rfl (hb hby d_prog_23_method_10_321) (by decide) (by decide) ?_
      refine XS.iload X137.here hx rfl (hb hby d_prog_23_method_10_3) rfl ?_
      refine XS.iloadN X137.here hx rfl (hb hby d_prog_23_method_10_5) rfl ?_
      refine XS.icmpNo X137.here hx rfl (hb hby d_prog_23_method_10_6) rfl (tlt (by decide : (5 : Int32) < (6 : Int32))).2.1 ?_
      show Steps p.tables e below (T137.setTop (mkF m 9 #[.val (.ref a1), .val (.ref aA), .val (.int (4 : Int32)), .val (.int (6 : Int32)), .val (.int (5 : Int32)), .val (.int ld)] [])) _
      refine XS.aloadN X137.here hx rfl (hb hby d_prog_23_method_10_9) rfl rfl ?_
      refine XS.iload X137.here hx rfl (hb hby d_prog_23_method_10_10) rfl ?_
      show Steps p.tables e below (T137.setTop (mkF m 12 #[.val (.ref a1), .val (.ref aA), .val (.int (4 : Int32)), .val (.int (6 : Int32)), .val (.int (5 : Int32)), .val (.int ld)] [(.int (5 : Int32)), (.ref aA)])) _
      refine X137.baloadBytes hx (j := (5 : Int32)) (v := (.int x5)) (by rw [e137]; exact Ar139.1) (State.isArrayOf_alike hZ.alike Ar139.2.1) Ar139.2.2 hin139 hat139 (g := (mkF m 12 #[.val (.ref a1), .val (.ref aA), .val (.int (4 : Int32)), .val (.int (6 : Int32)), .val (.int (5 : Int32)), .val (.int ld)] [(.int (5 : Int32)), (.ref aA)])) rfl rfl (hb hby d_prog_23_method_10_12) _ ?_
      show Steps p.tables e below (T137.setTop (mkF m 13 #[.val (.ref a1), .val (.ref aA), .val (.int (4 : Int32)), .val (.int (6 : Int32)), .val (.int (5 : Int32)), .val (.int ld)] [(.int x5)])) _
      refine XS.sipush X137.here hx rfl (hb hby d_prog_23_method_10_13) ?_
      refine XS.iand X137.here hx rfl (hb hby d_prog_23_method_10_16) rfl ?_
      show Steps p.tables e below (T137.setTop (mkF m 17 #[.val (.ref a1), .val (.ref aA), .val (.int (4 : Int32)), .val (.int (6 : Int32)), .val (.int (5 : Int32)), .val (.int ld)] [(.int (x5 &&& (255 : Int32)))])) _
      rw [show (x5 &&& (255 : Int32)) = c1 from h5]
      show Steps p.tables e below (T137.setTop (mkF m 17 #[.val (.ref a1), .val (.ref aA), .val (.int (4 : Int32)), .val (.int (6 : Int32)), .val (.int (5 : Int32)), .val (.int ld)] [(.int c1)])) _
      refine XS.istore X137.here hx rfl (hb hby d_prog_23_method_10_17) rfl (l' := #[.val (.ref a1), .val (.ref aA), .val (.int (4 : Int32)), .val (.int (6 : Int32)), .val (.int (5 : Int32)), .val (.int c1)]) rfl ?_
      refine XS.aloadN X137.here hx rfl (hb hby d_prog_23_method_10_19) rfl rfl ?_
      show Steps p.tables e below (T137.setTop (mkF m 20 #[.val (.ref a1), .val (.ref aA), .val (.int (4 : Int32)), .val (.int (6 : Int32)), .val (.int (5 : Int32)), .val (.int c1)] [(.ref a1)])) _
      refine st141 _ ?_
      show Steps p.tables e below (T141.setTop (mkF m 23 #[.val (.ref a1), .val (.ref aA), .val (.int (4 : Int32)), .val (.int (6 : Int32)), .val (.int (5 : Int32)), .val (.int c1)] [(.int (3 : Int32))])) _
      refine XS.ifNo X141.here hx rfl (hb hby d_prog_23_method_10_23) rfl ((if0 _ _).trans (tlt (by decide : (0 : Int32) < (3 : Int32))).2.2.2) ?_
      refine XS.iload X141.here hx rfl (hb hby d_prog_23_method_10_26) rfl ?_
      refine XS.aloadN X141.here hx rfl (hb hby d_prog_23_method_10_28) rfl rfl ?_
      show Steps p.tables e below (T141.setTop (mkF m 29 #[.val (.ref a1), .val (.ref aA), .val (.int (4 : Int32)), .val (.int (6 : Int32)), .val (.int (5 : Int32)), .val (.int c1)] [(.ref a1), (.int c1)])) _
      refine st143 _ ?_
      show Steps p.tables e below (T143.setTop (mkF m 32 #[.val (.ref a1), .val (.ref aA), .val (.int (4 : Int32)), .val (.int (6 : Int32)), .val (.int (5 : Int32)), .val (.int c1)] [(.int lo), (.int c1)])) _
      refine XS.icmpNo X143.here hx rfl (hb hby d_prog_23_method_10_32) rfl (flt hc144).1 ?_
      refine XS.iload X143.here hx rfl (hb hby d_prog_23_method_10_35) rfl ?_
      refine XS.aloadN X143.here hx rfl (hb hby d_prog_23_method_10_37) rfl rfl ?_
      show Steps p.tables e below (T143.setTop (mkF m 38 #[.val (.ref a1), .val (.ref aA), .val (.int (4 : Int32)), .val (.int (6 : Int32)), .val (.int (5 : Int32)), .val (.int c1)] [(.ref a1), (.int c1)])) _
      refine st145 _ ?_
      show Steps p.tables e below (T145.setTop (mkF m 41 #[.val (.ref a1), .val (.ref aA), .val (.int (4 : Int32)), .val (.int (6 : Int32)), .val (.int (5 : Int32)), .val (.int c1)] [(.int hi), (.int c1)])) _
      refine XS.icmpYes X145.here hx rfl (pc0 := 41) (pc' := 68) rfl (hb hby d_prog_23_method_10_41) rfl (flt hc146).2.2.2 (by decide) (by decide) ?_
      refine XS.aloadN X145.here hx rfl (hb hby d_prog_23_method_10_68) rfl rfl ?_
      show Steps p.tables e below (T145.setTop (mkF m 69 #[.val (.ref a1), .val (.ref aA), .val (.int (4 : Int32)), .val (.int (6 : Int32)), .val (.int (5 : Int32)), .val (.int c1)] [(.ref a1)])) _
      refine st148 _ ?_
      show Steps p.tables e below (T148.setTop (mkF m 72 #[.val (.ref a1), .val (.ref aA), .val (.int (4 : Int32)), .val (.int (6 : Int32)), .val (.int (5 : Int32)), .val (.int c1)] [(.ref aO)])) _
      refine XS.aloadN X148.here hx rfl (hb hby d_prog_23_method_10_72) rfl rfl ?_
      refine XS.dup X148.here hx rfl (hb hby d_prog_23_method_10_73) rfl rfl ?_
      show Steps p.tables e below (T148.setTop (mkF m 74 #[.val (.ref a1), .val (.ref aA), .val (.int (4 : Int32)), .val (.int (6 : Int32)), .val (.int (5 : Int32)), .val (.int c1)] [(.ref a1), (.ref a1), (.ref aO)])) _
      refine st150 _ ?_
      show Steps p.tables e below (T150.setTop (mkF m 77 #[.val (.ref a1), .val (.ref aA), .val (.int (4 : Int32)), .val (.int (6 : Int32)), .val (.int (5 : Int32)), .val (.int c1)] [(.int (1 : Int32)), (.ref a1), (.ref aO)])) _
      refine XS.dupX1 X150.here hx rfl (hb hby d_prog_23_method_10_77) rfl rfl rfl ?_
      refine XS.iconst X150.here hx rfl (hb hby d_prog_23_method_10_78) ?_
      refine XS.iadd X150.here hx rfl (hb hby d_prog_23_method_10_79) rfl ?_
      show Steps p.tables e below (T150.setTop (mkF m 80 #[.val (.ref a1), .val (.ref aA), .val (.int (4 : Int32)), .val (.int (6 : Int32)), .val (.int (5 : Int32)), .val (.int c1)] [(.int ((1 : Int32) + (1 : Int32))), (.ref a1), (.int (1 : Int32)), (.ref aO)])) _
      rw [show ((1 : Int32) + (1 : Int32)) = (2 : Int32) from (by decide)]
      show Steps p.tables e below (T150.setTop (mkF m 80 #[.val (.ref a1), .val (.ref aA), .val (.int (4 : Int32)), .val (.int (6 : Int32)), .val (.int (5 : Int32)), .val (.int c1)] [(.int (2 : Int32)), (.ref a1), (.int (1 : Int32)), (.ref aO)])) _
      refine st152 _ ?_
      show Steps p.tables e below (T152.setTop (mkF m 83 #[.val (.ref a1), .val (.ref aA), .val (.int (4 : Int32)), .val (.int (6 : Int32)), .val (.int (5 : Int32)), .val (.int c1)] [(.int (1 : Int32)), (.ref aO)])) _
      refine XS.aloadN X152.here hx rfl (hb hby d_prog_23_method_10_83) rfl rfl ?_
      refine XS.iload X152.here hx rfl (hb hby d_prog_23_method_10_84) rfl ?_
      show Steps p.tables e below (T152.setTop (mkF m 86 #[.val (.ref a1), .val (.ref aA), .val (.int (4 : Int32)), .val (.int (6 : Int32)), .val (.int (5 : Int32)), .val (.int c1)] [(.int (5 : Int32)), (.ref aA), (.int (1 : Int32)), (.ref aO)])) _
      refine X152.baloadBytes hx (j := (5 : Int32)) (v := (.int x5)) (by rw [e152]; exact Ar154.1) (State.isArrayOf_alike hZ.alike Ar154.2.1) Ar154.2.2 hin154 hat154 (g := (mkF m 86 #[.val (.ref a1), .val (.ref aA), .val (.int (4 : Int32)), .val (.int (6 : Int32)), .val (.int (5 : Int32)), .val (.int c1)] [(.int (5 : Int32)), (.ref aA), (.int (1 : Int32)), (.ref aO)])) rfl rfl (hb hby d_prog_23_method_10_86) _ ?_
      show Steps p.tables e below (T152.setTop (mkF m 87 #[.val (.ref a1), .val (.ref aA), .val (.int (4 : Int32)), .val (.int (6 : Int32)), .val (.int (5 : Int32)), .val (.int c1)] [(.int x5), (.int (1 : Int32)), (.ref aO)])) _
      refine st157 _ ?_
      show Steps p.tables e below (T157.setTop (mkF m 88 #[.val (.ref a1), .val (.ref aA), .val (.int (4 : Int32)), .val (.int (6 : Int32)), .val (.int (5 : Int32)), .val (.int c1)] [])) _
      refine XS.aloadN X157.here hx rfl (hb hby d_prog_23_method_10_88) rfl rfl ?_
      refine XS.dup X157.here hx rfl (hb hby d_prog_23_method_10_89) rfl rfl ?_
      show Steps p.tables e below (T157.setTop (mkF m 90 #[.val (.ref a1), .val (.ref aA), .val (.int (4 : Int32)), .val (.int (6 : Int32)), .val (.int (5 : Int32)), .val (.int c1)] [(.ref a1), (.ref a1)])) _
      refine st159 _ ?_
      show Steps p.tables e below (T159.setTop (mkF m 93 #[.val (.ref a1), .val (.ref aA), .val (.int (4 : Int32)), .val (.int (6 : Int32)), .val (.int (5 : Int32)), .val (.int c1)] [(.int (3 : Int32)), (.ref a1)])) _
      refine XS.iconst X159.here hx rfl (hb hby d_prog_23_method_10_93) ?_
      refine XS.isub X159.here hx rfl (hb hby d_prog_23_method_10_94) rfl ?_
      show Steps p.tables e below (T159.setTop (mkF m 95 #[.val (.ref a1), .val (.ref aA), .val (.int (4 : Int32)), .val (.int (6 : Int32)), .val (.int (5 : Int32)), .val (.int c1)] [(.int ((3 : Int32) - (1 : Int32))), (.ref a1)])) _
      rw [show ((3 : Int32) - (1 : Int32)) = (2 : Int32) from (by decide)]
      show Steps p.tables e below (T159.setTop (mkF m 95 #[.val (.ref a1), .val (.ref aA), .val (.int (4 : Int32)), .val (.int (6 : Int32)), .val (.int (5 : Int32)), .val (.int c1)] [(.int (2 : Int32)), (.ref a1)])) _
      refine st161 _ ?_
      show Steps p.tables e below (T161.setTop (mkF m 98 #[.val (.ref a1), .val (.ref aA), .val (.int (4 : Int32)), .val (.int (6 : Int32)), .val (.int (5 : Int32)), .val (.int c1)] [])) _
      refine XS.aloadN X161.here hx rfl (hb hby d_prog_23_method_10_98) rfl rfl ?_
      refine XS.sipush X161.here hx rfl (hb hby d_prog_23_method_10_99) ?_
      show Steps p.tables e below (T161.setTop (mkF m 102 #[.val (.ref a1), .val (.ref aA), .val (.int (4 : Int32)), .val (.int (6 : Int32)), .val (.int (5 : Int32)), .val (.int c1)] [(.int (128 : Int32)), (.ref a1)])) _
      refine st164 _ ?_
      show Steps p.tables e below (T164.setTop (mkF m 105 #[.val (.ref a1), .val (.ref aA), .val (.int (4 : Int32)), .val (.int (6 : Int32)), .val (.int (5 : Int32)), .val (.int c1)] [])) _
      refine XS.aloadN X164.here hx rfl (hb hby d_prog_23_method_10_105) rfl rfl ?_
      refine XS.sipush X164.here hx rfl (hb hby d_prog_23_method_10_106) ?_
      show Steps p.tables e below (T164.setTop (mkF m 109 #[.val (.ref a1), .val (.ref aA), .val (.int (4 : Int32)), .val (.int (6 : Int32)), .val (.int (5 : Int32)), .val (.int c1)] [(.int (191 : Int32)), (.ref a1)])) _
      refine st167 _ ?_
      show Steps p.tables e below (T167.setTop (mkF m 112 #[.val (.ref a1), .val (.ref aA), .val (.int (4 : Int32)), .val (.int (6 : Int32)), .val (.int (5 : Int32)), .val (.int c1)] [])) _
      refine XS.goto X167.here hx rfl (pc0 := 112) (pc' := 318) rfl (hb hby d_prog_23_method_10_112) (by decide) (by decide) ?_
      refine XS.iinc X167.here hx rfl (hb hby d_prog_23_method_10_318) rfl (l' := #[.val (.ref a1), .val (.ref aA), .val (.int (4 : Int32)), .val (.int (6 : Int32)), .val (.int ((5 : Int32) + (1 : Int32))), .val (.int c1)]) rfl ?_
      show Steps p.tables e below (T167.setTop (mkF m 321 #[.val (.ref a1), .val (.ref aA), .val (.int (4 : Int32)), .val (.int (6 : Int32)), .val (.int ((5 : Int32) + (1 : Int32))), .val (.int c1)] [])) _
      rw [show ((5 : Int32) + (1 : Int32)) = (6 : Int32) from (by decide)]
      show Steps p.tables e below (T167.setTop (mkF m 321 #[.val (.ref a1), .val (.ref aA), .val (.int (4 : Int32)), .val (.int (6 : Int32)), .val (.int (6 : Int32)), .val (.int c1)] [])) _
      refine XS.goto X167.here hx rfl (pc0 := 321) (pc' := 3) rfl (hb hby d_prog_23_method_10_321) (by decide) (by decide) ?_
      refine XS.iload X167.here hx rfl (hb hby d_prog_23_method_10_3) rfl ?_
      refine XS.iloadN X167.here hx rfl (hb hby d_prog_23_method_10_5) rfl ?_
      refine XS.icmpYes X167.here hx rfl (pc0 := 6) (pc' := 324) rfl (hb hby d_prog_23_method_10_6) rfl (flt (by decide : ¬ ((6 : Int32) < (6 : Int32)))).2.1 (by decide) (by decide) ?_
      show Steps p.tables e below (T167.setTop (mkF m 324 #[.val (.ref a1), .val (.ref aA), .val (.int (4 : Int32)), .val (.int (6 : Int32)), .val (.int (6 : Int32)), .val (.int c1)] [])) _
      exact X167.returnOut hx Bd.returns (hb hby d_prog_23_method_10_324) hr
    · show Q_cu1 Z a1 aA kA aO kO x4 x5 ld c1 tk uL uH uC uS rU r16 r8 rA h0 n0 _ T167.heap _
      rw [e167]
      exact ⟨_, _, rfl, N167, K167, f168, f169, f170, f171, f172⟩
  · have f173 := (f113.wr W115)
    have f174 := (((F_needed.other W105 (Or.inr (slot_ne (Or.inl (hw _ (List.mem_of_getElem? (i := 55) rfl))) (Or.inl (hw _ (List.mem_of_getElem? (i := 70) rfl))) (by decide) (t := .int) (t' := .long) (by decide) (by decide)))).other W112 (Or.inl n_a1_aO)).other W115 (Or.inr (slot_ne (Or.inl (hw _ (List.mem_of_getElem? (i := 55) rfl))) (Or.inl (hw _ (List.mem_of_getElem? (i := 57) rfl))) (by decide) (t := .int) (t' := .int) (by decide) (by decide))))
    obtain ⟨T175, h175, X175, e175, W175, st175⟩ := putF X115 hx hZ hown (host := "") (Or.inl (hw _ (List.mem_of_getElem? (i := 54) rfl))) Via.refl e115 f174 f173 (Or.inl (hw _ (List.mem_of_getElem? (i := 55) rfl))) (hw _ (List.mem_of_getElem? (i := 1) rfl)) (ty := .int) (by decide) rfl rfl (g := (mkF m 198 #[.val (.ref a1), .val (.ref aA), .val (.int (4 : Int32)), .val (.int (6 : Int32)), .val (.int (4 : Int32)), .val (.int ld)] [(.int (2 : Int32)), (.ref a1)])) rfl rfl (hb hby d_prog_23_method_10_198)
    have F175 := f174.same W175
    have N175 := Fr.snoc X175 N115 g_a1
    have O175 := O115.wr W175 g_a1
    have K175 := K115.wr W175 (Or.inl (List.mem_of_getElem? (i := 0) rfl))
    have pre176 : ∀ t, Steps p.tables e below (T175.setTop (mkF m 207 #[.val (.ref a1), .val (.ref aA), .val (.int (4 : Int32)), .val (.int (6 : Int32)), .val (.int (4 : Int32)), .val (.int ld)] [(.int (224 : Int32)), (.int ld), (.ref a1)])) t → Steps p.tables e below (s₁.setTop (entryFrame m #[(.ref a1), (.ref aA), (.int (4 : Int32)), (.int (6 : Int32))] 6)) t := fun t kk => pre119 t (by
        refine XS.icmpNo X115.here hx rfl (hb hby d_prog_23_method_10_193) rfl (flt hc120).2.2.1 ?_
        refine XS.aloadN X115.here hx rfl (hb hby d_prog_23_method_10_196) rfl rfl ?_
        refine XS.iconst X115.here hx rfl (hb hby d_prog_23_method_10_197) ?_
        show Steps p.tables e below (T115.setTop (mkF m 198 #[.val (.ref a1), .val (.ref aA), .val (.int (4 : Int32)), .val (.int (6 : Int32)), .val (.int (4 : Int32)), .val (.int ld)] [(.int (2 : Int32)), (.ref a1)])) _
        refine st175 _ ?_
        show Steps p.tables e below (T175.setTop (mkF m 201 #[.val (.ref a1), .val (.ref aA), .val (.int (4 : Int32)), .val (.int (6 : Int32)), .val (.int (4 : Int32)), .val (.int ld)] [])) _
        refine XS.aloadN X175.here hx rfl (hb hby d_prog_23_method_10_201) rfl rfl ?_
        refine XS.iload X175.here hx rfl (hb hby d_prog_23_method_10_202) rfl ?_
        refine XS.sipush X175.here hx rfl (hb hby d_prog_23_method_10_204) ?_
        show Steps p.tables e below (T175.setTop (mkF m 207 #[.val (.ref a1), .val (.ref aA), .val (.int (4 : Int32)), .val (.int (6 : Int32)), .val (.int (4 : Int32)), .val (.int ld)] [(.int (224 : Int32)), (.int ld), (.ref a1)])) _
        exact kk)
    obtain ⟨lo, h_lo⟩ : ∃ z : Int32, z = (if ld = (224 : Int32) then (160 : Int32) else (128 : Int32)) := ⟨_, rfl⟩
    have pre178 : ∀ t, Steps p.tables e below (T175.setTop (mkF m 219 #[.val (.ref a1), .val (.ref aA), .val (.int (4 : Int32)), .val (.int (6 : Int32)), .val (.int (4 : Int32)), .val (.int ld)] [(.int lo), (.ref a1)])) t → Steps p.tables e below (s₁.setTop (entryFrame m #[(.ref a1), (.ref aA), (.int (4 : Int32)), (.int (6 : Int32))] 6)) t := fun t kk => pre176 t (by
        by_cases hc177 : ld = (224 : Int32)
        · refine XS.icmpNo X175.here hx rfl (hb hby d_prog_23_method_10_207) rfl (teq hc177).2 ?_
          show Steps p.tables e below (T175.setTop (mkF m 210 #[.val (.ref a1), .val (.ref aA), .val (.int (4 : Int32)), .val (.int (6 : Int32)), .val (.int (4 : Int32)), .val (.int ld)] [(.ref a1)])) _
          refine XS.sipush X175.here hx rfl (hb hby d_prog_23_method_10_210) ?_
          show Steps p.tables e below (T175.setTop (mkF m 213 #[.val (.ref a1), .val (.ref aA), .val (.int (4 : Int32)), .val (.int (6 : Int32)), .val (.int (4 : Int32)), .val (.int ld)] [(.int (160 : Int32)), (.ref a1)])) _
          refine XS.goto X175.here hx rfl (pc0 := 213) (pc' := 219) rfl (hb hby d_prog_23_method_10_213) (by decide) (by decide) ?_
          show Steps p.tables e below (T175.setTop (mkF m 219 #[.val (.ref a1), .val (.ref aA), .val (.int (4 : Int32)), .val (.int (6 : Int32)), .val (.int (4 : Int32)), .val (.int ld)] [(.int (160 : Int32)), (.ref a1)])) _
          rw [show lo = (160 : Int32) from by rw [h_lo, if_pos hc177]] at kk
          exact kk
        · refine XS.icmpYes X175.here hx rfl (pc0 := 207) (pc' := 216) rfl (hb hby d_prog_23_method_10_207) rfl (feq hc177).2 (by decide) (by decide) ?_
          show Steps p.tables e below (T175.setTop (mkF m 216 #[.val (.ref a1), .val (.ref aA), .val (.int (4 : Int32)), .val (.int (6 : Int32)), .val (.int (4 : Int32)), .val (.int ld)] [(.ref a1)])) _
          refine XS.sipush X175.here hx rfl (hb hby d_prog_23_method_10_216) ?_
          show Steps p.tables e below (T175.setTop (mkF m 219 #[.val (.ref a1), .val (.ref aA), .val (.int (4 : Int32)), .val (.int (6 : Int32)), .val (.int (4 : Int32)), .val (.int ld)] [(.int (128 : Int32)), (.ref a1)])) _
          rw [show lo = (128 : Int32) from by rw [h_lo, if_neg hc177]] at kk
          exact kk)
    have f179 := (f173.wr W175)
    have f180 := ((((F_low.other W105 (Or.inr (slot_ne (Or.inl (hw _ (List.mem_of_getElem? (i := 18) rfl))) (Or.inl (hw _ (List.mem_of_getElem? (i := 70) rfl))) (by decide) (t := .int) (t' := .long) (by decide) (by decide)))).other W112 (Or.inl n_a1_aO)).other W115 (Or.inr (slot_ne (Or.inl (hw _ (List.mem_of_getElem? (i := 18) rfl))) (Or.inl (hw _ (List.mem_of_getElem? (i := 57) rfl))) (by decide) (t := .int) (t' := .int) (by decide) (by decide)))).other W175 (Or.inr (slot_ne (Or.inl (hw _ (List.mem_of_getElem? (i := 18) rfl))) (Or.inl (hw _ (List.mem_of_getElem? (i := 55) rfl))) (by decide) (t := .int) (t' := .int) (by decide) (by decide))))
    obtain ⟨T181, h181, X181, e181, W181, st181⟩ := putF X175 hx hZ hown (host := "") (Or.inl (hw _ (List.mem_of_getElem? (i := 17) rfl))) Via.refl e175 f180 f179 (Or.inl (hw _ (List.mem_of_getElem? (i := 18) rfl))) (hw _ (List.mem_of_getElem? (i := 1) rfl)) (ty := .int) (by decide) rfl rfl (g := (mkF m 219 #[.val (.ref a1), .val (.ref aA), .val (.int (4 : Int32)), .val (.int (6 : Int32)), .val (.int (4 : Int32)), .val (.int ld)] [(.int lo), (.ref a1)])) rfl rfl (hb hby d_prog_23_method_10_219)
    have F181 := f180.same W181
    have N181 := Fr.snoc X181 N175 g_a1
    have O181 := O175.wr W181 g_a1
    have K181 := K175.wr W181 (Or.inl (List.mem_of_getElem? (i := 0) rfl))
    have pre182 : ∀ t, Steps p.tables e below (T181.setTop (mkF m 228 #[.val (.ref a1), .val (.ref aA), .val (.int (4 : Int32)), .val (.int (6 : Int32)), .val (.int (4 : Int32)), .val (.int ld)] [(.int (237 : Int32)), (.int ld), (.ref a1)])) t → Steps p.tables e below (s₁.setTop (entryFrame m #[(.ref a1), (.ref aA), (.int (4 : Int32)), (.int (6 : Int32))] 6)) t := fun t kk => pre178 t (by
        show Steps p.tables e below (T175.setTop (mkF m 219 #[.val (.ref a1), .val (.ref aA), .val (.int (4 : Int32)), .val (.int (6 : Int32)), .val (.int (4 : Int32)), .val (.int ld)] [(.int lo), (.ref a1)])) _
        refine st181 _ ?_
        show Steps p.tables e below (T181.setTop (mkF m 222 #[.val (.ref a1), .val (.ref aA), .val (.int (4 : Int32)), .val (.int (6 : Int32)), .val (.int (4 : Int32)), .val (.int ld)] [])) _
        refine XS.aloadN X181.here hx rfl (hb hby d_prog_23_method_10_222) rfl rfl ?_
        refine XS.iload X181.here hx rfl (hb hby d_prog_23_method_10_223) rfl ?_
        refine XS.sipush X181.here hx rfl (hb hby d_prog_23_method_10_225) ?_
        show Steps p.tables e below (T181.setTop (mkF m 228 #[.val (.ref a1), .val (.ref aA), .val (.int (4 : Int32)), .val (.int (6 : Int32)), .val (.int (4 : Int32)), .val (.int ld)] [(.int (237 : Int32)), (.int ld), (.ref a1)])) _
        exact kk)
    obtain ⟨hi, h_hi⟩ : ∃ z : Int32, z = (if ld = (237 : Int32) then (159 : Int32) else (191 : Int32)) := ⟨_, rfl⟩
    have pre184 : ∀ t, Steps p.tables e below (T181.setTop (mkF m 240 #[.val (.ref a1), .val (.ref aA), .val (.int (4 : Int32)), .val (.int (6 : Int32)), .val (.int (4 : Int32)), .val (.int ld)] [(.int hi), (.ref a1)])) t → Steps p.tables e below (s₁.setTop (entryFrame m #[(.ref a1), (.ref aA), (.int (4 : Int32)), (.int (6 : Int32))] 6)) t := fun t kk => pre182 t (by
        by_cases hc183 : ld = (237 : Int32)
        · refine XS.icmpNo X181.here hx rfl (hb hby d_prog_23_method_10_228) rfl (teq hc183).2 ?_
          show Steps p.tables e below (T181.setTop (mkF m 231 #[.val (.ref a1), .val (.ref aA), .val (.int (4 : Int32)), .val (.int (6 : Int32)), .val (.int (4 : Int32)), .val (.int ld)] [(.ref a1)])) _
          refine XS.sipush X181.here hx rfl (hb hby d_prog_23_method_10_231) ?_
          show Steps p.tables e below (T181.setTop (mkF m 234 #[.val (.ref a1), .val (.ref aA), .val (.int (4 : Int32)), .val (.int (6 : Int32)), .val (.int (4 : Int32)), .val (.int ld)] [(.int (159 : Int32)), (.ref a1)])) _
          refine XS.goto X181.here hx rfl (pc0 := 234) (pc' := 240) rfl (hb hby d_prog_23_method_10_234) (by decide) (by decide) ?_
          show Steps p.tables e below (T181.setTop (mkF m 240 #[.val (.ref a1), .val (.ref aA), .val (.int (4 : Int32)), .val (.int (6 : Int32)), .val (.int (4 : Int32)), .val (.int ld)] [(.int (159 : Int32)), (.ref a1)])) _
          rw [show hi = (159 : Int32) from by rw [h_hi, if_pos hc183]] at kk
          exact kk
        · refine XS.icmpYes X181.here hx rfl (pc0 := 228) (pc' := 237) rfl (hb hby d_prog_23_method_10_228) rfl (feq hc183).2 (by decide) (by decide) ?_
          show Steps p.tables e below (T181.setTop (mkF m 237 #[.val (.ref a1), .val (.ref aA), .val (.int (4 : Int32)), .val (.int (6 : Int32)), .val (.int (4 : Int32)), .val (.int ld)] [(.ref a1)])) _
          refine XS.sipush X181.here hx rfl (hb hby d_prog_23_method_10_237) ?_
          show Steps p.tables e below (T181.setTop (mkF m 240 #[.val (.ref a1), .val (.ref aA), .val (.int (4 : Int32)), .val (.int (6 : Int32)), .val (.int (4 : Int32)), .val (.int ld)] [(.int (191 : Int32)), (.ref a1)])) _
          rw [show hi = (191 : Int32) from by rw [h_hi, if_neg hc183]] at kk
          exact kk)
    have f185 := (f179.wr W181)
    have f186 := (((((F_high.other W105 (Or.inr (slot_ne (Or.inl (hw _ (List.mem_of_getElem? (i := 20) rfl))) (Or.inl (hw _ (List.mem_of_getElem? (i := 70) rfl))) (by decide) (t := .int) (t' := .long) (by decide) (by decide)))).other W112 (Or.inl n_a1_aO)).other W115 (Or.inr (slot_ne (Or.inl (hw _ (List.mem_of_getElem? (i := 20) rfl))) (Or.inl (hw _ (List.mem_of_getElem? (i := 57) rfl))) (by decide) (t := .int) (t' := .int) (by decide) (by decide)))).other W175 (Or.inr (slot_ne (Or.inl (hw _ (List.mem_of_getElem? (i := 20) rfl))) (Or.inl (hw _ (List.mem_of_getElem? (i := 55) rfl))) (by decide) (t := .int) (t' := .int) (by decide) (by decide)))).other W181 (Or.inr (slot_ne (Or.inl (hw _ (List.mem_of_getElem? (i := 20) rfl))) (Or.inl (hw _ (List.mem_of_getElem? (i := 18) rfl))) (by decide) (t := .int) (t' := .int) (by decide) (by decide))))
    obtain ⟨T187, h187, X187, e187, W187, st187⟩ := putF X181 hx hZ hown (host := "") (Or.inl (hw _ (List.mem_of_getElem? (i := 19) rfl))) Via.refl e181 f186 f185 (Or.inl (hw _ (List.mem_of_getElem? (i := 20) rfl))) (hw _ (List.mem_of_getElem? (i := 1) rfl)) (ty := .int) (by decide) rfl rfl (g := (mkF m 240 #[.val (.ref a1), .val (.ref aA), .val (.int (4 : Int32)), .val (.int (6 : Int32)), .val (.int (4 : Int32)), .val (.int ld)] [(.int hi), (.ref a1)])) rfl rfl (hb hby d_prog_23_method_10_240)
    have F187 := f186.same W187
    have N187 := Fr.snoc X187 N181 g_a1
    have O187 := O181.wr W187 g_a1
    have K187 := K181.wr W187 (Or.inl (List.mem_of_getElem? (i := 0) rfl))
    have f188 := (((((f108.other W112 n_aA_aO).other W115 (Ne.symm n_a1_aA)).other W175 (Ne.symm n_a1_aA)).other W181 (Ne.symm n_a1_aA)).other W187 (Ne.symm n_a1_aA))
    obtain ⟨cl189, Ar189, q189, S189, Ne189, H189, G189⟩ := id f188
    have hin189 : ¬ ((5 : Int32) < 0 ∨ cl189.slots.size ≤ ((5 : Int32)).toNatClampNeg) := inb_of S189 ⟨by decide, by decide⟩
    have hat189 : cl189.slots[((5 : Int32)).toNatClampNeg]? = some (.int x5) := H189.at hin189 rfl
    have f190 := ((F175.other W181 (Or.inr (slot_ne (Or.inl (hw _ (List.mem_of_getElem? (i := 55) rfl))) (Or.inl (hw _ (List.mem_of_getElem? (i := 18) rfl))) (by decide) (t := .int) (t' := .int) (by decide) (by decide)))).other W187 (Or.inr (slot_ne (Or.inl (hw _ (List.mem_of_getElem? (i := 55) rfl))) (Or.inl (hw _ (List.mem_of_getElem? (i := 20) rfl))) (by decide) (t := .int) (t' := .int) (by decide) (by decide))))
    obtain ⟨T191, X191, e191, st191⟩ := getF X187 hx hZ hown (host := "") (Or.inl (hw _ (List.mem_of_getElem? (i := 54) rfl))) Via.refl e187 f190 (g := (mkF m 20 #[.val (.ref a1), .val (.ref aA), .val (.int (4 : Int32)), .val (.int (6 : Int32)), .val (.int (5 : Int32)), .val (.int c1)] [(.ref a1)])) rfl rfl (hb hby d_prog_23_method_10_20)
    have f192 := (F181.other W187 (Or.inr (slot_ne (Or.inl (hw _ (List.mem_of_getElem? (i := 18) rfl))) (Or.inl (hw _ (List.mem_of_getElem? (i := 20) rfl))) (by decide) (t := .int) (t' := .int) (by decide) (by decide))))
    obtain ⟨T193, X193, e193, st193⟩ := getF X191 hx hZ hown (host := "") (Or.inl (hw _ (List.mem_of_getElem? (i := 17) rfl))) Via.refl e191 f192 (g := (mkF m 29 #[.val (.ref a1), .val (.ref aA), .val (.int (4 : Int32)), .val (.int (6 : Int32)), .val (.int (5 : Int32)), .val (.int c1)] [(.ref a1), (.int c1)])) rfl rfl (hb hby d_prog_23_method_10_29)
    have hc194 : ¬ (c1 < lo) := (by rw [hc1, h_lo]; by_cases e1 : ld = (224 : Int32) <;> by_cases e2 : ld = (240 : Int32) <;> simp +decide [e1, e2])
    obtain ⟨T195, X195, e195, st195⟩ := getF X193 hx hZ hown (host := "") (Or.inl (hw _ (List.mem_of_getElem? (i := 19) rfl))) Via.refl e193 F187 (g := (mkF m 38 #[.val (.ref a1), .val (.ref aA), .val (.int (4 : Int32)), .val (.int (6 : Int32)), .val (.int (5 : Int32)), .val (.int c1)] [(.ref a1), (.int c1)])) rfl rfl (hb hby d_prog_23_method_10_38)
    have hc196 : ¬ (hi < c1) := (by rw [hc1, h_hi]; by_cases e1 : ld = (224 : Int32) <;> by_cases e2 : ld = (240 : Int32) <;> by_cases e3 : ld = (237 : Int32) <;> by_cases e4 : ld = (244 : Int32) <;> simp +decide [e1, e2, e3, e4])
    have f197 := (((((f106.other W112 (Or.inl n_a1_aO)).other W115 (Or.inr (slot_ne (Or.inr (hw _ (List.mem_of_getElem? (i := 22) rfl))) (Or.inl (hw _ (List.mem_of_getElem? (i := 57) rfl))) (by decide) (t := (.array .byte)) (t' := .int) (by decide) (by decide)))).other W175 (Or.inr (slot_ne (Or.inr (hw _ (List.mem_of_getElem? (i := 22) rfl))) (Or.inl (hw _ (List.mem_of_getElem? (i := 55) rfl))) (by decide) (t := (.array .byte)) (t' := .int) (by decide) (by decide)))).other W181 (Or.inr (slot_ne (Or.inr (hw _ (List.mem_of_getElem? (i := 22) rfl))) (Or.inl (hw _ (List.mem_of_getElem? (i := 18) rfl))) (by decide) (t := (.array .byte)) (t' := .int) (by decide) (by decide)))).other W187 (Or.inr (slot_ne (Or.inr (hw _ (List.mem_of_getElem? (i := 22) rfl))) (Or.inl (hw _ (List.mem_of_getElem? (i := 20) rfl))) (by decide) (t := (.array .byte)) (t' := .int) (by decide) (by decide))))
    obtain ⟨T198, X198, e198, st198⟩ := getF X195 hx hZ hown (host := "") (Or.inl (hw _ (List.mem_of_getElem? (i := 21) rfl))) Via.refl e195 f197 (g := (mkF m 69 #[.val (.ref a1), .val (.ref aA), .val (.int (4 : Int32)), .val (.int (6 : Int32)), .val (.int (5 : Int32)), .val (.int c1)] [(.ref a1)])) rfl rfl (hb hby d_prog_23_method_10_69)
    have f199 := (((F115.other W175 (Or.inr (slot_ne (Or.inl (hw _ (List.mem_of_getElem? (i := 57) rfl))) (Or.inl (hw _ (List.mem_of_getElem? (i := 55) rfl))) (by decide) (t := .int) (t' := .int) (by decide) (by decide)))).other W181 (Or.inr (slot_ne (Or.inl (hw _ (List.mem_of_getElem? (i := 57) rfl))) (Or.inl (hw _ (List.mem_of_getElem? (i := 18) rfl))) (by decide) (t := .int) (t' := .int) (by decide) (by decide)))).other W187 (Or.inr (slot_ne (Or.inl (hw _ (List.mem_of_getElem? (i := 57) rfl))) (Or.inl (hw _ (List.mem_of_getElem? (i := 20) rfl))) (by decide) (t := .int) (t' := .int) (by decide) (by decide))))
    obtain ⟨T200, X200, e200, st200⟩ := getF X198 hx hZ hown (host := "") (Or.inl (hw _ (List.mem_of_getElem? (i := 56) rfl))) Via.refl e198 f199 (g := (mkF m 74 #[.val (.ref a1), .val (.ref aA), .val (.int (4 : Int32)), .val (.int (6 : Int32)), .val (.int (5 : Int32)), .val (.int c1)] [(.ref a1), (.ref a1), (.ref aO)])) rfl rfl (hb hby d_prog_23_method_10_74)
    have f201 := (f185.wr W187)
    obtain ⟨T202, h202, X202, e202, W202, st202⟩ := putF X200 hx hZ hown (host := "") (Or.inl (hw _ (List.mem_of_getElem? (i := 56) rfl))) Via.refl e200 f199 f201 (Or.inl (hw _ (List.mem_of_getElem? (i := 57) rfl))) (hw _ (List.mem_of_getElem? (i := 1) rfl)) (ty := .int) (by decide) rfl rfl (g := (mkF m 80 #[.val (.ref a1), .val (.ref aA), .val (.int (4 : Int32)), .val (.int (6 : Int32)), .val (.int (5 : Int32)), .val (.int c1)] [(.int (2 : Int32)), (.ref a1), (.int (1 : Int32)), (.ref aO)])) rfl rfl (hb hby d_prog_23_method_10_80)
    have F202 := f199.same W202
    have N202 := Fr.snoc X202 N187 g_a1
    have O202 := O187.wr W202 g_a1
    have K202 := K187.wr W202 (Or.inl (List.mem_of_getElem? (i := 0) rfl))
    have f203 := (f188.other W202 (Ne.symm n_a1_aA))
    obtain ⟨cl204, Ar204, q204, S204, Ne204, H204, G204⟩ := id f203
    have hin204 : ¬ ((5 : Int32) < 0 ∨ cl204.slots.size ≤ ((5 : Int32)).toNatClampNeg) := inb_of S204 ⟨by decide, by decide⟩
    have hat204 : cl204.slots[((5 : Int32)).toNatClampNeg]? = some (.int x5) := H204.at hin204 rfl
    have f205 := (((((V112.other W115 (Ne.symm n_a1_aO)).other W175 (Ne.symm n_a1_aO)).other W181 (Ne.symm n_a1_aO)).other W187 (Ne.symm n_a1_aO)).other W202 (Ne.symm n_a1_aO))
    obtain ⟨cl206, Ar206, q206, S206, Ne206, H206, G206⟩ := id f205
    have hin206 : ¬ ((1 : Int32) < 0 ∨ cl206.slots.size ≤ ((1 : Int32)).toNatClampNeg) := inb_of S206 ⟨by decide, by decide⟩
    obtain ⟨T207, h207, X207, e207, W207, st207⟩ := stB X202 hx hZ e202 Ar206 (j := (1 : Int32)) hin206 (g := (mkF m 87 #[.val (.ref a1), .val (.ref aA), .val (.int (4 : Int32)), .val (.int (6 : Int32)), .val (.int (5 : Int32)), .val (.int c1)] [(.int x5), (.int (1 : Int32)), (.ref aO)])) rfl rfl (hb hby d_prog_23_method_10_87)
    have V207 : Arv Z h207 aO kO .byte (4 : Int32) [(.int (nar .byte x4)), (.int (nar .byte x5)), (.int (0 : Int32)), (.int (0 : Int32))] (.int (0 : Int32)) := Arv.set Ar206 q206 S206 Ne206 H206 G206 (fits_nar_byte _) W207 1 rfl (Nat.le_of_ble_eq_true rfl)
    have N207 := Fr.snoc X207 N202 g_aO
    have O207 := O202.wr W207 g_aO
    have K207 := K202.wr W207 (Or.inl (List.mem_of_getElem? (i := 1) rfl))
    have f208 := ((f190.other W202 (Or.inr (slot_ne (Or.inl (hw _ (List.mem_of_getElem? (i := 55) rfl))) (Or.inl (hw _ (List.mem_of_getElem? (i := 57) rfl))) (by decide) (t := .int) (t' := .int) (by decide) (by decide)))).other W207 (Or.inl n_a1_aO))
    obtain ⟨T209, X209, e209, st209⟩ := getF X207 hx hZ hown (host := "") (Or.inl (hw _ (List.mem_of_getElem? (i := 54) rfl))) Via.refl e207 f208 (g := (mkF m 90 #[.val (.ref a1), .val (.ref aA), .val (.int (4 : Int32)), .val (.int (6 : Int32)), .val (.int (5 : Int32)), .val (.int c1)] [(.ref a1), (.ref a1)])) rfl rfl (hb hby d_prog_23_method_10_90)
    have f210 := ((f201.wr W202).wr W207)
    obtain ⟨T211, h211, X211, e211, W211, st211⟩ := putF X209 hx hZ hown (host := "") (Or.inl (hw _ (List.mem_of_getElem? (i := 54) rfl))) Via.refl e209 f208 f210 (Or.inl (hw _ (List.mem_of_getElem? (i := 55) rfl))) (hw _ (List.mem_of_getElem? (i := 1) rfl)) (ty := .int) (by decide) rfl rfl (g := (mkF m 95 #[.val (.ref a1), .val (.ref aA), .val (.int (4 : Int32)), .val (.int (6 : Int32)), .val (.int (5 : Int32)), .val (.int c1)] [(.int (1 : Int32)), (.ref a1)])) rfl rfl (hb hby d_prog_23_method_10_95)
    have F211 := f208.same W211
    have N211 := Fr.snoc X211 N207 g_a1
    have O211 := O207.wr W211 g_a1
    have K211 := K207.wr W211 (Or.inl (List.mem_of_getElem? (i := 0) rfl))
    have f212 := (f210.wr W211)
    have f213 := (((f192.other W202 (Or.inr (slot_ne (Or.inl (hw _ (List.mem_of_getElem? (i := 18) rfl))) (Or.inl (hw _ (List.mem_of_getElem? (i := 57) rfl))) (by decide) (t := .int) (t' := .int) (by decide) (by decide)))).other W207 (Or.inl n_a1_aO)).other W211 (Or.inr (slot_ne (Or.inl (hw _ (List.mem_of_getElem? (i := 18) rfl))) (Or.inl (hw _ (List.mem_of_getElem? (i := 55) rfl))) (by decide) (t := .int) (t' := .int) (by decide) (by decide))))
    obtain ⟨T214, h214, X214, e214, W214, st214⟩ := putF X211 hx hZ hown (host := "") (Or.inl (hw _ (List.mem_of_getElem? (i := 17) rfl))) Via.refl e211 f213 f212 (Or.inl (hw _ (List.mem_of_getElem? (i := 18) rfl))) (hw _ (List.mem_of_getElem? (i := 1) rfl)) (ty := .int) (by decide) rfl rfl (g := (mkF m 102 #[.val (.ref a1), .val (.ref aA), .val (.int (4 : Int32)), .val (.int (6 : Int32)), .val (.int (5 : Int32)), .val (.int c1)] [(.int (128 : Int32)), (.ref a1)])) rfl rfl (hb hby d_prog_23_method_10_102)
    have F214 := f213.same W214
    have N214 := Fr.snoc X214 N211 g_a1
    have O214 := O211.wr W214 g_a1
    have K214 := K211.wr W214 (Or.inl (List.mem_of_getElem? (i := 0) rfl))
    have f215 := (f212.wr W214)
    have f216 := ((((F187.other W202 (Or.inr (slot_ne (Or.inl (hw _ (List.mem_of_getElem? (i := 20) rfl))) (Or.inl (hw _ (List.mem_of_getElem? (i := 57) rfl))) (by decide) (t := .int) (t' := .int) (by decide) (by decide)))).other W207 (Or.inl n_a1_aO)).other W211 (Or.inr (slot_ne (Or.inl (hw _ (List.mem_of_getElem? (i := 20) rfl))) (Or.inl (hw _ (List.mem_of_getElem? (i := 55) rfl))) (by decide) (t := .int) (t' := .int) (by decide) (by decide)))).other W214 (Or.inr (slot_ne (Or.inl (hw _ (List.mem_of_getElem? (i := 20) rfl))) (Or.inl (hw _ (List.mem_of_getElem? (i := 18) rfl))) (by decide) (t := .int) (t' := .int) (by decide) (by decide))))
    obtain ⟨T217, h217, X217, e217, W217, st217⟩ := putF X214 hx hZ hown (host := "") (Or.inl (hw _ (List.mem_of_getElem? (i := 19) rfl))) Via.refl e214 f216 f215 (Or.inl (hw _ (List.mem_of_getElem? (i := 20) rfl))) (hw _ (List.mem_of_getElem? (i := 1) rfl)) (ty := .int) (by decide) rfl rfl (g := (mkF m 109 #[.val (.ref a1), .val (.ref aA), .val (.int (4 : Int32)), .val (.int (6 : Int32)), .val (.int (5 : Int32)), .val (.int c1)] [(.int (191 : Int32)), (.ref a1)])) rfl rfl (hb hby d_prog_23_method_10_109)
    have F217 := f216.same W217
    have N217 := Fr.snoc X217 N214 g_a1
    have O217 := O214.wr W217 g_a1
    have K217 := K214.wr W217 (Or.inl (List.mem_of_getElem? (i := 0) rfl))
    have f218 := (f215.wr W217)
    have f219 := ((F211.other W214 (Or.inr (slot_ne (Or.inl (hw _ (List.mem_of_getElem? (i := 55) rfl))) (Or.inl (hw _ (List.mem_of_getElem? (i := 18) rfl))) (by decide) (t := .int) (t' := .int) (by decide) (by decide)))).other W217 (Or.inr (slot_ne (Or.inl (hw _ (List.mem_of_getElem? (i := 55) rfl))) (Or.inl (hw _ (List.mem_of_getElem? (i := 20) rfl))) (by decide) (t := .int) (t' := .int) (by decide) (by decide))))
    have f220 := ((((F202.other W207 (Or.inl n_a1_aO)).other W211 (Or.inr (slot_ne (Or.inl (hw _ (List.mem_of_getElem? (i := 57) rfl))) (Or.inl (hw _ (List.mem_of_getElem? (i := 55) rfl))) (by decide) (t := .int) (t' := .int) (by decide) (by decide)))).other W214 (Or.inr (slot_ne (Or.inl (hw _ (List.mem_of_getElem? (i := 57) rfl))) (Or.inl (hw _ (List.mem_of_getElem? (i := 18) rfl))) (by decide) (t := .int) (t' := .int) (by decide) (by decide)))).other W217 (Or.inr (slot_ne (Or.inl (hw _ (List.mem_of_getElem? (i := 57) rfl))) (Or.inl (hw _ (List.mem_of_getElem? (i := 20) rfl))) (by decide) (t := .int) (t' := .int) (by decide) (by decide))))
    have f221 := (((((((((((F_taken.other W105 (Or.inr (slot_ne (Or.inl (hw _ (List.mem_of_getElem? (i := 48) rfl))) (Or.inl (hw _ (List.mem_of_getElem? (i := 70) rfl))) (by decide) (t := .long) (t' := .long) (by decide) (by decide)))).other W112 (Or.inl n_a1_aO)).other W115 (Or.inr (slot_ne (Or.inl (hw _ (List.mem_of_getElem? (i := 48) rfl))) (Or.inl (hw _ (List.mem_of_getElem? (i := 57) rfl))) (by decide) (t := .long) (t' := .int) (by decide) (by decide)))).other W175 (Or.inr (slot_ne (Or.inl (hw _ (List.mem_of_getElem? (i := 48) rfl))) (Or.inl (hw _ (List.mem_of_getElem? (i := 55) rfl))) (by decide) (t := .long) (t' := .int) (by decide) (by decide)))).other W181 (Or.inr (slot_ne (Or.inl (hw _ (List.mem_of_getElem? (i := 48) rfl))) (Or.inl (hw _ (List.mem_of_getElem? (i := 18) rfl))) (by decide) (t := .long) (t' := .int) (by decide) (by decide)))).other W187 (Or.inr (slot_ne (Or.inl (hw _ (List.mem_of_getElem? (i := 48) rfl))) (Or.inl (hw _ (List.mem_of_getElem? (i := 20) rfl))) (by decide) (t := .long) (t' := .int) (by decide) (by decide)))).other W202 (Or.inr (slot_ne (Or.inl (hw _ (List.mem_of_getElem? (i := 48) rfl))) (Or.inl (hw _ (List.mem_of_getElem? (i := 57) rfl))) (by decide) (t := .long) (t' := .int) (by decide) (by decide)))).other W207 (Or.inl n_a1_aO)).other W211 (Or.inr (slot_ne (Or.inl (hw _ (List.mem_of_getElem? (i := 48) rfl))) (Or.inl (hw _ (List.mem_of_getElem? (i := 55) rfl))) (by decide) (t := .long) (t' := .int) (by decide) (by decide)))).other W214 (Or.inr (slot_ne (Or.inl (hw _ (List.mem_of_getElem? (i := 48) rfl))) (Or.inl (hw _ (List.mem_of_getElem? (i := 18) rfl))) (by decide) (t := .long) (t' := .int) (by decide) (by decide)))).other W217 (Or.inr (slot_ne (Or.inl (hw _ (List.mem_of_getElem? (i := 48) rfl))) (Or.inl (hw _ (List.mem_of_getElem? (i := 20) rfl))) (by decide) (t := .long) (t' := .int) (by decide) (by decide))))
    have f222 := (((((((((((F_rule.other W105 (Or.inr (slot_ne (Or.inl (hw _ (List.mem_of_getElem? (i := 16) rfl))) (Or.inl (hw _ (List.mem_of_getElem? (i := 70) rfl))) (by decide) (t := (.object "com/example/dewey/dewey/EncodingCheck$Rule")) (t' := .long) (by decide) (by decide)))).other W112 (Or.inl n_a1_aO)).other W115 (Or.inr (slot_ne (Or.inl (hw _ (List.mem_of_getElem? (i := 16) rfl))) (Or.inl (hw _ (List.mem_of_getElem? (i := 57) rfl))) (by decide) (t := (.object "com/example/dewey/dewey/EncodingCheck$Rule")) (t' := .int) (by decide) (by decide)))).other W175 (Or.inr (slot_ne (Or.inl (hw _ (List.mem_of_getElem? (i := 16) rfl))) (Or.inl (hw _ (List.mem_of_getElem? (i := 55) rfl))) (by decide) (t := (.object "com/example/dewey/dewey/EncodingCheck$Rule")) (t' := .int) (by decide) (by decide)))).other W181 (Or.inr (slot_ne (Or.inl (hw _ (List.mem_of_getElem? (i := 16) rfl))) (Or.inl (hw _ (List.mem_of_getElem? (i := 18) rfl))) (by decide) (t := (.object "com/example/dewey/dewey/EncodingCheck$Rule")) (t' := .int) (by decide) (by decide)))).other W187 (Or.inr (slot_ne (Or.inl (hw _ (List.mem_of_getElem? (i := 16) rfl))) (Or.inl (hw _ (List.mem_of_getElem? (i := 20) rfl))) (by decide) (t := (.object "com/example/dewey/dewey/EncodingCheck$Rule")) (t' := .int) (by decide) (by decide)))).other W202 (Or.inr (slot_ne (Or.inl (hw _ (List.mem_of_getElem? (i := 16) rfl))) (Or.inl (hw _ (List.mem_of_getElem? (i := 57) rfl))) (by decide) (t := (.object "com/example/dewey/dewey/EncodingCheck$Rule")) (t' := .int) (by decide) (by decide)))).other W207 (Or.inl n_a1_aO)).other W211 (Or.inr (slot_ne (Or.inl (hw _ (List.mem_of_getElem? (i := 16) rfl))) (Or.inl (hw _ (List.mem_of_getElem? (i := 55) rfl))) (by decide) (t := (.object "com/example/dewey/dewey/EncodingCheck$Rule")) (t' := .int) (by decide) (by decide)))).other W214 (Or.inr (slot_ne (Or.inl (hw _ (List.mem_of_getElem? (i := 16) rfl))) (Or.inl (hw _ (List.mem_of_getElem? (i := 18) rfl))) (by decide) (t := (.object "com/example/dewey/dewey/EncodingCheck$Rule")) (t' := .int) (by decide) (by decide)))).other W217 (Or.inr (slot_ne (Or.inl (hw _ (List.mem_of_getElem? (i := 16) rfl))) (Or.inl (hw _ (List.mem_of_getElem? (i := 20) rfl))) (by decide) (t := (.object "com/example/dewey/dewey/EncodingCheck$Rule")) (t' := .int) (by decide) (by decide))))
    obtain ⟨fs, hr, hrun, hended, hW, hsame⟩ := X217.leave (v := none) (fun _ => rfl)
    refine ⟨_, _, pre184 _ ?_, hrun, hended, _, _, rfl, ?_, ⟨_, rfl⟩, hW, hsame.mono (by decide) (by decide)⟩
    · show Steps p.tables e below (T181.setTop (mkF m 240 #[.val (.ref a1), .val (.ref aA), .val (.int (4 : Int32)), .val (.int (6 : Int32)), .val (.int (4 : Int32)), .val (.int ld)] [(.int hi), (.ref a1)])) _
      refine st187 _ ?_
      show Steps p.tables e below (T187.setTop (mkF m 243 #[.val (.ref a1), .val (.ref aA), .val (.int (4 : Int32)), .val (.int (6 : Int32)), .val (.int (4 : Int32)), .val (.int ld)] [])) _
      refine XS.goto X187.here hx rfl (pc0 := 243) (pc' := 318) rfl (hb hby d_prog_23_method_10_243) (by decide) (by decide) ?_
      refine XS.iinc X187.here hx rfl (hb hby d_prog_23_method_10_318) rfl (l' := #[.val (.ref a1), .val (.ref aA), .val (.int (4 : Int32)), .val (.int (6 : Int32)), .val (.int ((4 : Int32) + (1 : Int32))), .val (.int ld)]) rfl ?_
      show Steps p.tables e below (T187.setTop (mkF m 321 #[.val (.ref a1), .val (.ref aA), .val (.int (4 : Int32)), .val (.int (6 : Int32)), .val (.int ((4 : Int32) + (1 : Int32))), .val (.int ld)] [])) _
      rw [show ((4 : Int32) + (1 : Int32)) = (5 : Int32) from (by decide)]
      show Steps p.tables e below (T187.setTop (mkF m 321 #[.val (.ref a1), .val (.ref aA), .val (.int (4 : Int32)), .val (.int (6 : Int32)), .val (.int (5 : Int32)), .val (.int ld)] [])) _
      refine XS.goto X187.here hx rfl (pc0 := 321) (pc' := 3) rfl (hb hby d_prog_23_method_10_321) (by decide) (by decide) ?_
      refine XS.iload X187.here hx rfl (hb hby d_prog_23_method_10_3) rfl ?_
      refine XS.iloadN X187.here hx rfl (hb hby d_prog_23_method_10_5) rfl ?_
      refine XS.icmpNo X187.here hx rfl (hb hby d_prog_23_method_10_6) rfl (tlt (by decide : (5 : Int32) < (6 : Int32))).2.1 ?_
      show Steps p.tables e below (T187.setTop (mkF m 9 #[.val (.ref a1), .val (.ref aA), .val (.int (4 : Int32)), .val (.int (6 : Int32)), .val (.int (5 : Int32)), .val (.int ld)] [])) _
      refine XS.aloadN X187.here hx rfl (hb hby d_prog_23_method_10_9) rfl rfl ?_
      refine XS.iload X187.here hx rfl (hb hby d_prog_23_method_10_10) rfl ?_
      show Steps p.tables e below (T187.setTop (mkF m 12 #[.val (.ref a1), .val (.ref aA), .val (.int (4 : Int32)), .val (.int (6 : Int32)), .val (.int (5 : Int32)), .val (.int ld)] [(.int (5 : Int32)), (.ref aA)])) _
      refine X187.baloadBytes hx (j := (5 : Int32)) (v := (.int x5)) (by rw [e187]; exact Ar189.1) (State.isArrayOf_alike hZ.alike Ar189.2.1) Ar189.2.2 hin189 hat189 (g := (mkF m 12 #[.val (.ref a1), .val (.ref aA), .val (.int (4 : Int32)), .val (.int (6 : Int32)), .val (.int (5 : Int32)), .val (.int ld)] [(.int (5 : Int32)), (.ref aA)])) rfl rfl (hb hby d_prog_23_method_10_12) _ ?_
      show Steps p.tables e below (T187.setTop (mkF m 13 #[.val (.ref a1), .val (.ref aA), .val (.int (4 : Int32)), .val (.int (6 : Int32)), .val (.int (5 : Int32)), .val (.int ld)] [(.int x5)])) _
      refine XS.sipush X187.here hx rfl (hb hby d_prog_23_method_10_13) ?_
      refine XS.iand X187.here hx rfl (hb hby d_prog_23_method_10_16) rfl ?_
      show Steps p.tables e below (T187.setTop (mkF m 17 #[.val (.ref a1), .val (.ref aA), .val (.int (4 : Int32)), .val (.int (6 : Int32)), .val (.int (5 : Int32)), .val (.int ld)] [(.int (x5 &&& (255 : Int32)))])) _
      rw [show (x5 &&& (255 : Int32)) = c1 from h5]
      show Steps p.tables e below (T187.setTop (mkF m 17 #[.val (.ref a1), .val (.ref aA), .val (.int (4 : Int32)), .val (.int (6 : Int32)), .val (.int (5 : Int32)), .val (.int ld)] [(.int c1)])) _
      refine XS.istore X187.here hx rfl (hb hby d_prog_23_method_10_17) rfl (l' := #[.val (.ref a1), .val (.ref aA), .val (.int (4 : Int32)), .val (.int (6 : Int32)), .val (.int (5 : Int32)), .val (.int c1)]) rfl ?_
      refine XS.aloadN X187.here hx rfl (hb hby d_prog_23_method_10_19) rfl rfl ?_
      show Steps p.tables e below (T187.setTop (mkF m 20 #[.val (.ref a1), .val (.ref aA), .val (.int (4 : Int32)), .val (.int (6 : Int32)), .val (.int (5 : Int32)), .val (.int c1)] [(.ref a1)])) _
      refine st191 _ ?_
      show Steps p.tables e below (T191.setTop (mkF m 23 #[.val (.ref a1), .val (.ref aA), .val (.int (4 : Int32)), .val (.int (6 : Int32)), .val (.int (5 : Int32)), .val (.int c1)] [(.int (2 : Int32))])) _
      refine XS.ifNo X191.here hx rfl (hb hby d_prog_23_method_10_23) rfl ((if0 _ _).trans (tlt (by decide : (0 : Int32) < (2 : Int32))).2.2.2) ?_
      refine XS.iload X191.here hx rfl (hb hby d_prog_23_method_10_26) rfl ?_
      refine XS.aloadN X191.here hx rfl (hb hby d_prog_23_method_10_28) rfl rfl ?_
      show Steps p.tables e below (T191.setTop (mkF m 29 #[.val (.ref a1), .val (.ref aA), .val (.int (4 : Int32)), .val (.int (6 : Int32)), .val (.int (5 : Int32)), .val (.int c1)] [(.ref a1), (.int c1)])) _
      refine st193 _ ?_
      show Steps p.tables e below (T193.setTop (mkF m 32 #[.val (.ref a1), .val (.ref aA), .val (.int (4 : Int32)), .val (.int (6 : Int32)), .val (.int (5 : Int32)), .val (.int c1)] [(.int lo), (.int c1)])) _
      refine XS.icmpNo X193.here hx rfl (hb hby d_prog_23_method_10_32) rfl (flt hc194).1 ?_
      refine XS.iload X193.here hx rfl (hb hby d_prog_23_method_10_35) rfl ?_
      refine XS.aloadN X193.here hx rfl (hb hby d_prog_23_method_10_37) rfl rfl ?_
      show Steps p.tables e below (T193.setTop (mkF m 38 #[.val (.ref a1), .val (.ref aA), .val (.int (4 : Int32)), .val (.int (6 : Int32)), .val (.int (5 : Int32)), .val (.int c1)] [(.ref a1), (.int c1)])) _
      refine st195 _ ?_
      show Steps p.tables e below (T195.setTop (mkF m 41 #[.val (.ref a1), .val (.ref aA), .val (.int (4 : Int32)), .val (.int (6 : Int32)), .val (.int (5 : Int32)), .val (.int c1)] [(.int hi), (.int c1)])) _
      refine XS.icmpYes X195.here hx rfl (pc0 := 41) (pc' := 68) rfl (hb hby d_prog_23_method_10_41) rfl (flt hc196).2.2.2 (by decide) (by decide) ?_
      refine XS.aloadN X195.here hx rfl (hb hby d_prog_23_method_10_68) rfl rfl ?_
      show Steps p.tables e below (T195.setTop (mkF m 69 #[.val (.ref a1), .val (.ref aA), .val (.int (4 : Int32)), .val (.int (6 : Int32)), .val (.int (5 : Int32)), .val (.int c1)] [(.ref a1)])) _
      refine st198 _ ?_
      show Steps p.tables e below (T198.setTop (mkF m 72 #[.val (.ref a1), .val (.ref aA), .val (.int (4 : Int32)), .val (.int (6 : Int32)), .val (.int (5 : Int32)), .val (.int c1)] [(.ref aO)])) _
      refine XS.aloadN X198.here hx rfl (hb hby d_prog_23_method_10_72) rfl rfl ?_
      refine XS.dup X198.here hx rfl (hb hby d_prog_23_method_10_73) rfl rfl ?_
      show Steps p.tables e below (T198.setTop (mkF m 74 #[.val (.ref a1), .val (.ref aA), .val (.int (4 : Int32)), .val (.int (6 : Int32)), .val (.int (5 : Int32)), .val (.int c1)] [(.ref a1), (.ref a1), (.ref aO)])) _
      refine st200 _ ?_
      show Steps p.tables e below (T200.setTop (mkF m 77 #[.val (.ref a1), .val (.ref aA), .val (.int (4 : Int32)), .val (.int (6 : Int32)), .val (.int (5 : Int32)), .val (.int c1)] [(.int (1 : Int32)), (.ref a1), (.ref aO)])) _
      refine XS.dupX1 X200.here hx rfl (hb hby d_prog_23_method_10_77) rfl rfl rfl ?_
      refine XS.iconst X200.here hx rfl (hb hby d_prog_23_method_10_78) ?_
      refine XS.iadd X200.here hx rfl (hb hby d_prog_23_method_10_79) rfl ?_
      show Steps p.tables e below (T200.setTop (mkF m 80 #[.val (.ref a1), .val (.ref aA), .val (.int (4 : Int32)), .val (.int (6 : Int32)), .val (.int (5 : Int32)), .val (.int c1)] [(.int ((1 : Int32) + (1 : Int32))), (.ref a1), (.int (1 : Int32)), (.ref aO)])) _
      rw [show ((1 : Int32) + (1 : Int32)) = (2 : Int32) from (by decide)]
      show Steps p.tables e below (T200.setTop (mkF m 80 #[.val (.ref a1), .val (.ref aA), .val (.int (4 : Int32)), .val (.int (6 : Int32)), .val (.int (5 : Int32)), .val (.int c1)] [(.int (2 : Int32)), (.ref a1), (.int (1 : Int32)), (.ref aO)])) _
      refine st202 _ ?_
      show Steps p.tables e below (T202.setTop (mkF m 83 #[.val (.ref a1), .val (.ref aA), .val (.int (4 : Int32)), .val (.int (6 : Int32)), .val (.int (5 : Int32)), .val (.int c1)] [(.int (1 : Int32)), (.ref aO)])) _
      refine XS.aloadN X202.here hx rfl (hb hby d_prog_23_method_10_83) rfl rfl ?_
      refine XS.iload X202.here hx rfl (hb hby d_prog_23_method_10_84) rfl ?_
      show Steps p.tables e below (T202.setTop (mkF m 86 #[.val (.ref a1), .val (.ref aA), .val (.int (4 : Int32)), .val (.int (6 : Int32)), .val (.int (5 : Int32)), .val (.int c1)] [(.int (5 : Int32)), (.ref aA), (.int (1 : Int32)), (.ref aO)])) _
      refine X202.baloadBytes hx (j := (5 : Int32)) (v := (.int x5)) (by rw [e202]; exact Ar204.1) (State.isArrayOf_alike hZ.alike Ar204.2.1) Ar204.2.2 hin204 hat204 (g := (mkF m 86 #[.val (.ref a1), .val (.ref aA), .val (.int (4 : Int32)), .val (.int (6 : Int32)), .val (.int (5 : Int32)), .val (.int c1)] [(.int (5 : Int32)), (.ref aA), (.int (1 : Int32)), (.ref aO)])) rfl rfl (hb hby d_prog_23_method_10_86) _ ?_
      show Steps p.tables e below (T202.setTop (mkF m 87 #[.val (.ref a1), .val (.ref aA), .val (.int (4 : Int32)), .val (.int (6 : Int32)), .val (.int (5 : Int32)), .val (.int c1)] [(.int x5), (.int (1 : Int32)), (.ref aO)])) _
      refine st207 _ ?_
      show Steps p.tables e below (T207.setTop (mkF m 88 #[.val (.ref a1), .val (.ref aA), .val (.int (4 : Int32)), .val (.int (6 : Int32)), .val (.int (5 : Int32)), .val (.int c1)] [])) _
      refine XS.aloadN X207.here hx rfl (hb hby d_prog_23_method_10_88) rfl rfl ?_
      refine XS.dup X207.here hx rfl (hb hby d_prog_23_method_10_89) rfl rfl ?_
      show Steps p.tables e below (T207.setTop (mkF m 90 #[.val (.ref a1), .val (.ref aA), .val (.int (4 : Int32)), .val (.int (6 : Int32)), .val (.int (5 : Int32)), .val (.int c1)] [(.ref a1), (.ref a1)])) _
      refine st209 _ ?_
      show Steps p.tables e below (T209.setTop (mkF m 93 #[.val (.ref a1), .val (.ref aA), .val (.int (4 : Int32)), .val (.int (6 : Int32)), .val (.int (5 : Int32)), .val (.int c1)] [(.int (2 : Int32)), (.ref a1)])) _
      refine XS.iconst X209.here hx rfl (hb hby d_prog_23_method_10_93) ?_
      refine XS.isub X209.here hx rfl (hb hby d_prog_23_method_10_94) rfl ?_
      show Steps p.tables e below (T209.setTop (mkF m 95 #[.val (.ref a1), .val (.ref aA), .val (.int (4 : Int32)), .val (.int (6 : Int32)), .val (.int (5 : Int32)), .val (.int c1)] [(.int ((2 : Int32) - (1 : Int32))), (.ref a1)])) _
      rw [show ((2 : Int32) - (1 : Int32)) = (1 : Int32) from (by decide)]
      show Steps p.tables e below (T209.setTop (mkF m 95 #[.val (.ref a1), .val (.ref aA), .val (.int (4 : Int32)), .val (.int (6 : Int32)), .val (.int (5 : Int32)), .val (.int c1)] [(.int (1 : Int32)), (.ref a1)])) _
      refine st211 _ ?_
      show Steps p.tables e below (T211.setTop (mkF m 98 #[.val (.ref a1), .val (.ref aA), .val (.int (4 : Int32)), .val (.int (6 : Int32)), .val (.int (5 : Int32)), .val (.int c1)] [])) _
      refine XS.aloadN X211.here hx rfl (hb hby d_prog_23_method_10_98) rfl rfl ?_
      refine XS.sipush X211.here hx rfl (hb hby d_prog_23_method_10_99) ?_
      show Steps p.tables e below (T211.setTop (mkF m 102 #[.val (.ref a1), .val (.ref aA), .val (.int (4 : Int32)), .val (.int (6 : Int32)), .val (.int (5 : Int32)), .val (.int c1)] [(.int (128 : Int32)), (.ref a1)])) _
      refine st214 _ ?_
      show Steps p.tables e below (T214.setTop (mkF m 105 #[.val (.ref a1), .val (.ref aA), .val (.int (4 : Int32)), .val (.int (6 : Int32)), .val (.int (5 : Int32)), .val (.int c1)] [])) _
      refine XS.aloadN X214.here hx rfl (hb hby d_prog_23_method_10_105) rfl rfl ?_
      refine XS.sipush X214.here hx rfl (hb hby d_prog_23_method_10_106) ?_
      show Steps p.tables e below (T214.setTop (mkF m 109 #[.val (.ref a1), .val (.ref aA), .val (.int (4 : Int32)), .val (.int (6 : Int32)), .val (.int (5 : Int32)), .val (.int c1)] [(.int (191 : Int32)), (.ref a1)])) _
      refine st217 _ ?_
      show Steps p.tables e below (T217.setTop (mkF m 112 #[.val (.ref a1), .val (.ref aA), .val (.int (4 : Int32)), .val (.int (6 : Int32)), .val (.int (5 : Int32)), .val (.int c1)] [])) _
      refine XS.goto X217.here hx rfl (pc0 := 112) (pc' := 318) rfl (hb hby d_prog_23_method_10_112) (by decide) (by decide) ?_
      refine XS.iinc X217.here hx rfl (hb hby d_prog_23_method_10_318) rfl (l' := #[.val (.ref a1), .val (.ref aA), .val (.int (4 : Int32)), .val (.int (6 : Int32)), .val (.int ((5 : Int32) + (1 : Int32))), .val (.int c1)]) rfl ?_
      show Steps p.tables e below (T217.setTop (mkF m 321 #[.val (.ref a1), .val (.ref aA), .val (.int (4 : Int32)), .val (.int (6 : Int32)), .val (.int ((5 : Int32) + (1 : Int32))), .val (.int c1)] [])) _
      rw [show ((5 : Int32) + (1 : Int32)) = (6 : Int32) from (by decide)]
      show Steps p.tables e below (T217.setTop (mkF m 321 #[.val (.ref a1), .val (.ref aA), .val (.int (4 : Int32)), .val (.int (6 : Int32)), .val (.int (6 : Int32)), .val (.int c1)] [])) _
      refine XS.goto X217.here hx rfl (pc0 := 321) (pc' := 3) rfl (hb hby d_prog_23_method_10_321) (by decide) (by decide) ?_
      refine XS.iload X217.here hx rfl (hb hby d_prog_23_method_10_3) rfl ?_
      refine XS.iloadN X217.here hx rfl (hb hby d_prog_23_method_10_5) rfl ?_
      refine XS.icmpYes X217.here hx rfl (pc0 := 6) (pc' := 324) rfl (hb hby d_prog_23_method_10_6) rfl (flt (by decide : ¬ ((6 : Int32) < (6 : Int32)))).2.1 (by decide) (by decide) ?_
      show Steps p.tables e below (T217.setTop (mkF m 324 #[.val (.ref a1), .val (.ref aA), .val (.int (4 : Int32)), .val (.int (6 : Int32)), .val (.int (6 : Int32)), .val (.int c1)] [])) _
      exact X217.returnOut hx Bd.returns (hb hby d_prog_23_method_10_324) hr
    · show Q_cu1 Z a1 aA kA aO kO x4 x5 ld c1 tk uL uH uC uS rU r16 r8 rA h0 n0 _ T217.heap _
      rw [e217]
      exact ⟨_, _, rfl, N217, K217, f218, f219, f220, f221, f222⟩
theorem ef_cu2 (m : MethodId) (a1 : Addr) (aA : Addr) : entryFrame m #[(.ref a1), (.ref aA), (.int (4 : Int32)), (.int (7 : Int32))] 6 = mkF m 0 #[.val (.ref a1), .val (.ref aA), .val (.int (4 : Int32)), .val (.int (7 : Int32)), .unset, .unset] [] := by first | (simp [entryFrame, mkF, argsToLocals, Value.category]; done) | rfl
def Q_cu2 (Z : State) (a1 : Addr) (aA : Addr) (kA : ClassId) (aO : Addr) (kO : ClassId) (x4 : Int32) (x5 : Int32) (ld : Int32) (c1 : Int32) (tk : Int64) (uL : Value) (uH : Value) (uC : Value) (uS : Value) (rU : Addr) (r16 : Addr) (r8 : Addr) (rA : Addr) (h0 : Heap) (n0 : Nat) (v : Option Value) (h : Heap) (L : List Loc) : Prop := ∃ (u1 u2 : Value), v = none ∧ Fr n0 L ∧ Keep h0 h [a1, aO] ∧ Exa Z h a1 "com/example/dewey/dewey/EncodingCheck" ∧ Fld Z h a1 "com/example/dewey/dewey/EncodingCheck" "needed" "I" u1 ∧ Fld Z h a1 "com/example/dewey/dewey/EncodingCheck" "openCount" "I" u2 ∧ Fld Z h a1 "com/example/dewey/dewey/EncodingCheck" "taken" "J" (.long tk) ∧ Fld Z h a1 "com/example/dewey/dewey/EncodingCheck" "rule" "Lcom/example/dewey/dewey/EncodingCheck$Rule;" (.ref r8)
set_option maxRecDepth 65536 in
set_option maxHeartbeats 40000000 in
theorem rm_cu2 (l : Launch) (Z : State) (a0 : Array Value) (hw : ∀ d ∈ tables_1, d.before a0 Z = true) (ws : List Jvm.Cond) (a1 : Addr) (aA : Addr) (kA : ClassId) (aO : Addr) (kO : ClassId) (x4 : Int32) (x5 : Int32) (ld : Int32) (c1 : Int32) (tk : Int64) (uL : Value) (uH : Value) (uC : Value) (uS : Value) (rU : Addr) (r16 : Addr) (r8 : Addr) (rA : Addr) (h0 : Heap) (n0 : Nat) (O0 : Old Z n0 h0) (SrU : Sta Z Z.heap "com/example/dewey/dewey/EncodingCheck$Rule" "UNKNOWN" "Lcom/example/dewey/dewey/EncodingCheck$Rule;" (.ref rU)) (Sr16 : Sta Z Z.heap "com/example/dewey/dewey/EncodingCheck$Rule" "UTF_16" "Lcom/example/dewey/dewey/EncodingCheck$Rule;" (.ref r16)) (Sr8 : Sta Z Z.heap "com/example/dewey/dewey/EncodingCheck$Rule" "UTF_8" "Lcom/example/dewey/dewey/EncodingCheck$Rule;" (.ref r8)) (SrA : Sta Z Z.heap "com/example/dewey/dewey/EncodingCheck$Rule" "US_ASCII" "Lcom/example/dewey/dewey/EncodingCheck$Rule;" (.ref rA)) (n_rU_r16 : rU ≠ r16) (n_rU_r8 : rU ≠ r8) (n_rU_rA : rU ≠ rA) (n_r16_r8 : r16 ≠ r8) (n_r16_rA : r16 ≠ rA) (n_r8_rA : r8 ≠ rA) (E1 : Exa Z h0 a1 "com/example/dewey/dewey/EncodingCheck") (F_needed : Fld Z h0 a1 "com/example/dewey/dewey/EncodingCheck" "needed" "I" (.int (0 : Int32))) (F_low : Fld Z h0 a1 "com/example/dewey/dewey/EncodingCheck" "low" "I" uL) (F_high : Fld Z h0 a1 "com/example/dewey/dewey/EncodingCheck" "high" "I" uH) (F_open : Fld Z h0 a1 "com/example/dewey/dewey/EncodingCheck" "open" "[B" (.ref aO)) (F_openCount : Fld Z h0 a1 "com/example/dewey/dewey/EncodingCheck" "openCount" "I" uC) (F_start : Fld Z h0 a1 "com/example/dewey/dewey/EncodingCheck" "start" "J" uS) (F_taken : Fld Z h0 a1 "com/example/dewey/dewey/EncodingCheck" "taken" "J" (.long tk)) (F_rule : Fld Z h0 a1 "com/example/dewey/dewey/EncodingCheck" "rule" "Lcom/example/dewey/dewey/EncodingCheck$Rule;" (.ref r8)) (VA : Arv Z h0 aA kA .byte (7 : Int32) [(.int (60 : Int32)), (.int (63 : Int32)), (.int (120 : Int32)), (.int (109 : Int32)), (.int x4), (.int x5), (.int (-128 : Int32))] (.int (0 : Int32))) (VO : Arv Z h0 aO kO .byte (4 : Int32) [(.int (0 : Int32)), (.int (0 : Int32)), (.int (0 : Int32)), (.int (0 : Int32))] (.int (0 : Int32))) (g_a1 : n0 ≤ a1) (g_aO : n0 ≤ aO) (n_a1_aA : a1 ≠ aA) (n_a1_aO : a1 ≠ aO) (n_aA_aO : aA ≠ aO) (h4 : (x4 &&& (255 : Int32)) = ld) (h5 : (x5 &&& (255 : Int32)) = c1) (hc1 : c1 = (if ld = (224 : Int32) then (160 : Int32) else (if ld = (240 : Int32) then (144 : Int32) else (128 : Int32)))) (hl : ¬ ld < (194 : Int32) ∧ ¬ (244 : Int32) < ld) (hk : ¬ ld < (240 : Int32)) :
    MetFree l (⟨"com/example/dewey/dewey/EncodingCheck", "checkUtf8", "([BII)V"⟩ : MethodName) (head1 (Jvm.Cond.code (⟨"com/example/dewey/dewey/EncodingCheck", "checkUtf8", "([BII)V"⟩ : MethodName) prog_23_method_10_code 6 none :: ws) ({ frames := 0, cells := 0, slots := 0, locals := 0 } : Room)) (fun a U => a = #[(.ref a1), (.ref aA), (.int (4 : Int32)), (.int (7 : Int32))] ∧ Z.Warmed39 U.vm ∧ U.heap = h0) (fun _ _ _ _ _ => True) (fun _ U o U' => ∃ v L, o = .returned v ∧ Q_cu2 Z a1 aA kA aO kO x4 x5 ld c1 tk uL uH uC uS rU r16 r8 rA h0 n0 v U'.heap L ∧ FrameEnd U o U' L ({ frames := 0, cells := 0, slots := 0, locals := 0 } : Room).cells ({ frames := 0, cells := 0, slots := 0, locals := 0 } : Room).slots) := by
  refine MetFree.of_bodySF (plainFor_of_name pn_0) hisR ?_
  intro p e s m args below meth c s₁ Bd hml0 hP hK
  obtain ⟨rfl, hZ, hh⟩ := hP
  have hx := Bd.exec
  have hby := Bd.bytes
  have hml : c.maxLocals = 6 := hml0
  have hown : s.vm.findClass "com/example/dewey/dewey/EncodingCheck" = some m.cls := findClass_of_methodNamed Bd.named
  have hnm := (name_of_methodNamed Bd.named Bd.method).1
  have X0 : Stand p l e ({ frames := 0, cells := 0, slots := 0, locals := 0 } : Room) s m #[(.ref a1), (.ref aA), (.int (4 : Int32)), (.int (7 : Int32))] below meth c s₁ [] 0 0 := Stand.of_body Bd
  have e0 : s₁.heap = h0 := by rw [← hh, Bd.state]; rfl
  have N0 := Fr.nil n0
  have K0 : Keep h0 h0 [a1, aO] := Keep.refl _ _
  have pre0 : ∀ t, Steps p.tables e below (s₁.setTop (mkF m 0 #[.val (.ref a1), .val (.ref aA), .val (.int (4 : Int32)), .val (.int (7 : Int32)), .unset, .unset] [])) t → Steps p.tables e below (s₁.setTop (entryFrame m #[(.ref a1), (.ref aA), (.int (4 : Int32)), (.int (7 : Int32))] 6)) t := fun t k => castTop (ef_cu2 m a1 aA) k
  obtain ⟨cl101, Ar101, q101, S101, Ne101, H101, G101⟩ := id VA
  have hin101 : ¬ ((4 : Int32) < 0 ∨ cl101.slots.size ≤ ((4 : Int32)).toNatClampNeg) := inb_of S101 ⟨by decide, by decide⟩
  have hat101 : cl101.slots[((4 : Int32)).toNatClampNeg]? = some (.int x4) := H101.at hin101 rfl
  obtain ⟨T102, X102, e102, st102⟩ := getF X0 hx hZ hown (host := "") (Or.inl (hw _ (List.mem_of_getElem? (i := 54) rfl))) Via.refl e0 F_needed (g := (mkF m 20 #[.val (.ref a1), .val (.ref aA), .val (.int (4 : Int32)), .val (.int (7 : Int32)), .val (.int (4 : Int32)), .val (.int ld)] [(.ref a1)])) rfl rfl (hb hby d_prog_23_method_10_20)
  have hc103 : ¬ (ld < (128 : Int32)) := (own_ge hl.1 (by decide))
  obtain ⟨T104, X104, e104, st104⟩ := getF X102 hx hZ hown (host := "") (Or.inl (hw _ (List.mem_of_getElem? (i := 47) rfl))) Via.refl e102 F_taken (g := (mkF m 128 #[.val (.ref a1), .val (.ref aA), .val (.int (4 : Int32)), .val (.int (7 : Int32)), .val (.int (4 : Int32)), .val (.int ld)] [(.ref a1), (.ref a1)])) rfl rfl (hb hby d_prog_23_method_10_128)
  obtain ⟨T105, h105, X105, e105, W105, st105⟩ := putF X104 hx hZ hown (host := "") (Or.inl (hw _ (List.mem_of_getElem? (i := 69) rfl))) Via.refl e104 F_start E1 (Or.inl (hw _ (List.mem_of_getElem? (i := 70) rfl))) (hw _ (List.mem_of_getElem? (i := 1) rfl)) (ty := .long) (by decide) rfl rfl (g := (mkF m 138 #[.val (.ref a1), .val (.ref aA), .val (.int (4 : Int32)), .val (.int (7 : Int32)), .val (.int (4 : Int32)), .val (.int ld)] [(.long ((tk + (4 : Int64)) - (4 : Int64))), (.ref a1)])) rfl rfl (hb hby d_prog_23_method_10_138)
  have F105 := F_start.same W105
  have N105 := Fr.snoc X105 N0 g_a1
  have O105 := O0.wr W105 g_a1
  have K105 := K0.wr W105 (Or.inl (List.mem_of_getElem? (i := 0) rfl))
  have f106 := (F_open.other W105 (Or.inr (slot_ne (Or.inr (hw _ (List.mem_of_getElem? (i := 22) rfl))) (Or.inl (hw _ (List.mem_of_getElem? (i := 70) rfl))) (by decide) (t := (.array .byte)) (t' := .long) (by decide) (by decide))))
  obtain ⟨T107, X107, e107, st107⟩ := getF X105 hx hZ hown (host := "") (Or.inl (hw _ (List.mem_of_getElem? (i := 21) rfl))) Via.refl e105 f106 (g := (mkF m 142 #[.val (.ref a1), .val (.ref aA), .val (.int (4 : Int32)), .val (.int (7 : Int32)), .val (.int (4 : Int32)), .val (.int ld)] [(.ref a1)])) rfl rfl (hb hby d_prog_23_method_10_142)
  have f108 := (VA.other W105 (Ne.symm n_a1_aA))
  obtain ⟨cl109, Ar109, q109, S109, Ne109, H109, G109⟩ := id f108
  have hin109 : ¬ ((4 : Int32) < 0 ∨ cl109.slots.size ≤ ((4 : Int32)).toNatClampNeg) := inb_of S109 ⟨by decide, by decide⟩
  have hat109 : cl109.slots[((4 : Int32)).toNatClampNeg]? = some (.int x4) := H109.at hin109 rfl
  have f110 := (VO.other W105 (Ne.symm n_a1_aO))
  obtain ⟨cl111, Ar111, q111, S111, Ne111, H111, G111⟩ := id f110
  have hin111 : ¬ ((0 : Int32) < 0 ∨ cl111.slots.size ≤ ((0 : Int32)).toNatClampNeg) := inb_of S111 ⟨by decide, by decide⟩
  obtain ⟨T112, h112, X112, e112, W112, st112⟩ := stB X107 hx hZ e107 Ar111 (j := (0 : Int32)) hin111 (g := (mkF m 150 #[.val (.ref a1), .val (.ref aA), .val (.int (4 : Int32)), .val (.int (7 : Int32)), .val (.int (4 : Int32)), .val (.int ld)] [(.int x4), (.int (0 : Int32)), (.ref aO)])) rfl rfl (hb hby d_prog_23_method_10_150)
  have V112 : Arv Z h112 aO kO .byte (4 : Int32) [(.int (nar .byte x4)), (.int (0 : Int32)), (.int (0 : Int32)), (.int (0 : Int32))] (.int (0 : Int32)) := Arv.set Ar111 q111 S111 Ne111 H111 G111 (fits_nar_byte _) W112 0 rfl (Nat.le_of_ble_eq_true rfl)
  have N112 := Fr.snoc X112 N105 g_aO
  have O112 := O105.wr W112 g_aO
  have K112 := K105.wr W112 (Or.inl (List.mem_of_getElem? (i := 1) rfl))
  have f113 := ((E1.wr W105).wr W112)
  have f114 := ((F_openCount.other W105 (Or.inr (slot_ne (Or.inl (hw _ (List.mem_of_getElem? (i := 57) rfl))) (Or.inl (hw _ (List.mem_of_getElem? (i := 70) rfl))) (by decide) (t := .int) (t' := .long) (by decide) (by decide)))).other W112 (Or.inl n_a1_aO))
  obtain ⟨T115, h115, X115, e115, W115, st115⟩ := putF X112 hx hZ hown (host := "") (Or.inl (hw _ (List.mem_of_getElem? (i := 56) rfl))) Via.refl e112 f114 f113 (Or.inl (hw _ (List.mem_of_getElem? (i := 57) rfl))) (hw _ (List.mem_of_getElem? (i := 1) rfl)) (ty := .int) (by decide) rfl rfl (g := (mkF m 153 #[.val (.ref a1), .val (.ref aA), .val (.int (4 : Int32)), .val (.int (7 : Int32)), .val (.int (4 : Int32)), .val (.int ld)] [(.int (1 : Int32)), (.ref a1)])) rfl rfl (hb hby d_prog_23_method_10_153)
  have F115 := f114.same W115
  have N115 := Fr.snoc X115 N112 g_a1
  have O115 := O112.wr W115 g_a1
  have K115 := K112.wr W115 (Or.inl (List.mem_of_getElem? (i := 0) rfl))
  have hc116 : ¬ (ld < (194 : Int32)) := hl.1
  have hc117 : (223 : Int32) < ld := (own_gt hk (by decide))
  have hc118 : ¬ (ld < (224 : Int32)) := (own_gt' hc117 (by decide))
  have hc119 : (239 : Int32) < ld := (own_gt hk (by decide))
  have hc120 : ¬ (ld < (240 : Int32)) := (own_gt' hc119 (by decide))
  have hc121 : ¬ ((244 : Int32) < ld) := hl.2
  have f122 := (f113.wr W115)
  have f123 := (((F_needed.other W105 (Or.inr (slot_ne (Or.inl (hw _ (List.mem_of_getElem? (i := 55) rfl))) (Or.inl (hw _ (List.mem_of_getElem? (i := 70) rfl))) (by decide) (t := .int) (t' := .long) (by decide) (by decide)))).other W112 (Or.inl n_a1_aO)).other W115 (Or.inr (slot_ne (Or.inl (hw _ (List.mem_of_getElem? (i := 55) rfl))) (Or.inl (hw _ (List.mem_of_getElem? (i := 57) rfl))) (by decide) (t := .int) (t' := .int) (by decide) (by decide))))
  obtain ⟨T124, h124, X124, e124, W124, st124⟩ := putF X115 hx hZ hown (host := "") (Or.inl (hw _ (List.mem_of_getElem? (i := 54) rfl))) Via.refl e115 f123 f122 (Or.inl (hw _ (List.mem_of_getElem? (i := 55) rfl))) (hw _ (List.mem_of_getElem? (i := 1) rfl)) (ty := .int) (by decide) rfl rfl (g := (mkF m 264 #[.val (.ref a1), .val (.ref aA), .val (.int (4 : Int32)), .val (.int (7 : Int32)), .val (.int (4 : Int32)), .val (.int ld)] [(.int (3 : Int32)), (.ref a1)])) rfl rfl (hb hby d_prog_23_method_10_264)
  have F124 := f123.same W124
  have N124 := Fr.snoc X124 N115 g_a1
  have O124 := O115.wr W124 g_a1
  have K124 := K115.wr W124 (Or.inl (List.mem_of_getElem? (i := 0) rfl))
  have pre125 : ∀ t, Steps p.tables e below (T124.setTop (mkF m 273 #[.val (.ref a1), .val (.ref aA), .val (.int (4 : Int32)), .val (.int (7 : Int32)), .val (.int (4 : Int32)), .val (.int ld)] [(.int (240 : Int32)), (.int ld), (.ref a1)])) t → Steps p.tables e below (s₁.setTop (entryFrame m #[(.ref a1), (.ref aA), (.int (4 : Int32)), (.int (7 : Int32))] 6)) t := fun t kk => pre0 t (by
      show Steps p.tables e below (s₁.setTop (mkF m 0 #[.val (.ref a1), .val (.ref aA), .val (.int (4 : Int32)), .val (.int (7 : Int32)), .unset, .unset] [])) _
      refine XS.iloadN X0.here hx rfl (hb hby d_prog_23_method_10_0) rfl ?_
      refine XS.istore X0.here hx rfl (hb hby d_prog_23_method_10_1) rfl (l' := #[.val (.ref a1), .val (.ref aA), .val (.int (4 : Int32)), .val (.int (7 : Int32)), .val (.int (4 : Int32)), .unset]) rfl ?_
      refine XS.iload X0.here hx rfl (hb hby d_prog_23_method_10_3) rfl ?_
      refine XS.iloadN X0.here hx rfl (hb hby d_prog_23_method_10_5) rfl ?_
      show Steps p.tables e below (s₁.setTop (mkF m 6 #[.val (.ref a1), .val (.ref aA), .val (.int (4 : Int32)), .val (.int (7 : Int32)), .val (.int (4 : Int32)), .unset] [(.int (7 : Int32)), (.int (4 : Int32))])) _
      refine XS.icmpNo X0.here hx rfl (hb hby d_prog_23_method_10_6) rfl (tlt (by decide : (4 : Int32) < (7 : Int32))).2.1 ?_
      refine XS.aloadN X0.here hx rfl (hb hby d_prog_23_method_10_9) rfl rfl ?_
      refine XS.iload X0.here hx rfl (hb hby d_prog_23_method_10_10) rfl ?_
      show Steps p.tables e below (s₁.setTop (mkF m 12 #[.val (.ref a1), .val (.ref aA), .val (.int (4 : Int32)), .val (.int (7 : Int32)), .val (.int (4 : Int32)), .unset] [(.int (4 : Int32)), (.ref aA)])) _
      refine X0.baloadBytes hx (j := (4 : Int32)) (v := (.int x4)) (by rw [e0]; exact Ar101.1) (State.isArrayOf_alike hZ.alike Ar101.2.1) Ar101.2.2 hin101 hat101 (g := (mkF m 12 #[.val (.ref a1), .val (.ref aA), .val (.int (4 : Int32)), .val (.int (7 : Int32)), .val (.int (4 : Int32)), .unset] [(.int (4 : Int32)), (.ref aA)])) rfl rfl (hb hby d_prog_23_method_10_12) _ ?_
      show Steps p.tables e below (s₁.setTop (mkF m 13 #[.val (.ref a1), .val (.ref aA), .val (.int (4 : Int32)), .val (.int (7 : Int32)), .val (.int (4 : Int32)), .unset] [(.int x4)])) _
      refine XS.sipush X0.here hx rfl (hb hby d_prog_23_method_10_13) ?_
      refine XS.iand X0.here hx rfl (hb hby d_prog_23_method_10_16) rfl ?_
      show Steps p.tables e below (s₁.setTop (mkF m 17 #[.val (.ref a1), .val (.ref aA), .val (.int (4 : Int32)), .val (.int (7 : Int32)), .val (.int (4 : Int32)), .unset] [(.int (x4 &&& (255 : Int32)))])) _
      rw [show (x4 &&& (255 : Int32)) = ld from h4]
      show Steps p.tables e below (s₁.setTop (mkF m 17 #[.val (.ref a1), .val (.ref aA), .val (.int (4 : Int32)), .val (.int (7 : Int32)), .val (.int (4 : Int32)), .unset] [(.int ld)])) _
      refine XS.istore X0.here hx rfl (hb hby d_prog_23_method_10_17) rfl (l' := #[.val (.ref a1), .val (.ref aA), .val (.int (4 : Int32)), .val (.int (7 : Int32)), .val (.int (4 : Int32)), .val (.int ld)]) rfl ?_
      refine XS.aloadN X0.here hx rfl (hb hby d_prog_23_method_10_19) rfl rfl ?_
      show Steps p.tables e below (s₁.setTop (mkF m 20 #[.val (.ref a1), .val (.ref aA), .val (.int (4 : Int32)), .val (.int (7 : Int32)), .val (.int (4 : Int32)), .val (.int ld)] [(.ref a1)])) _
      refine st102 _ ?_
      show Steps p.tables e below (T102.setTop (mkF m 23 #[.val (.ref a1), .val (.ref aA), .val (.int (4 : Int32)), .val (.int (7 : Int32)), .val (.int (4 : Int32)), .val (.int ld)] [(.int (0 : Int32))])) _
      refine XS.ifYes X102.here hx rfl (pc0 := 23) (pc' := 115) rfl (hb hby d_prog_23_method_10_23) rfl ((if0 _ _).trans (flt (by decide : ¬ ((0 : Int32) < (0 : Int32)))).2.2.2) (by decide) (by decide) ?_
      refine XS.iload X102.here hx rfl (hb hby d_prog_23_method_10_115) rfl ?_
      refine XS.sipush X102.here hx rfl (hb hby d_prog_23_method_10_117) ?_
      refine XS.icmpYes X102.here hx rfl (pc0 := 120) (pc' := 126) rfl (hb hby d_prog_23_method_10_120) rfl (flt hc103).2.1 (by decide) (by decide) ?_
      show Steps p.tables e below (T102.setTop (mkF m 126 #[.val (.ref a1), .val (.ref aA), .val (.int (4 : Int32)), .val (.int (7 : Int32)), .val (.int (4 : Int32)), .val (.int ld)] [])) _
      refine XS.aloadN X102.here hx rfl (hb hby d_prog_23_method_10_126) rfl rfl ?_
      refine XS.aloadN X102.here hx rfl (hb hby d_prog_23_method_10_127) rfl rfl ?_
      show Steps p.tables e below (T102.setTop (mkF m 128 #[.val (.ref a1), .val (.ref aA), .val (.int (4 : Int32)), .val (.int (7 : Int32)), .val (.int (4 : Int32)), .val (.int ld)] [(.ref a1), (.ref a1)])) _
      refine st104 _ ?_
      show Steps p.tables e below (T104.setTop (mkF m 131 #[.val (.ref a1), .val (.ref aA), .val (.int (4 : Int32)), .val (.int (7 : Int32)), .val (.int (4 : Int32)), .val (.int ld)] [(.long tk), (.ref a1)])) _
      refine XS.iload X104.here hx rfl (hb hby d_prog_23_method_10_131) rfl ?_
      refine XS.i2l X104.here hx rfl (hb hby d_prog_23_method_10_133) rfl ?_
      show Steps p.tables e below (T104.setTop (mkF m 134 #[.val (.ref a1), .val (.ref aA), .val (.int (4 : Int32)), .val (.int (7 : Int32)), .val (.int (4 : Int32)), .val (.int ld)] [(.long ((4 : Int32).toInt64)), (.long tk), (.ref a1)])) _
      rw [show ((4 : Int32).toInt64) = (4 : Int64) from (by decide)]
      show Steps p.tables e below (T104.setTop (mkF m 134 #[.val (.ref a1), .val (.ref aA), .val (.int (4 : Int32)), .val (.int (7 : Int32)), .val (.int (4 : Int32)), .val (.int ld)] [(.long (4 : Int64)), (.long tk), (.ref a1)])) _
      refine XS.ladd X104.here hx rfl (hb hby d_prog_23_method_10_134) rfl ?_
      refine XS.iloadN X104.here hx rfl (hb hby d_prog_23_method_10_135) rfl ?_
      refine XS.i2l X104.here hx rfl (hb hby d_prog_23_method_10_136) rfl ?_
      show Steps p.tables e below (T104.setTop (mkF m 137 #[.val (.ref a1), .val (.ref aA), .val (.int (4 : Int32)), .val (.int (7 : Int32)), .val (.int (4 : Int32)), .val (.int ld)] [(.long ((4 : Int32).toInt64)), (.long (tk + (4 : Int64))), (.ref a1)])) _
      rw [show ((4 : Int32).toInt64) = (4 : Int64) from (by decide)]
      show Steps p.tables e below (T104.setTop (mkF m 137 #[.val (.ref a1), .val (.ref aA), .val (.int (4 : Int32)), .val (.int (7 : Int32)), .val (.int (4 : Int32)), .val (.int ld)] [(.long (4 : Int64)), (.long (tk + (4 : Int64))), (.ref a1)])) _
      refine XS.lsub X104.here hx rfl (hb hby d_prog_23_method_10_137) rfl ?_
      show Steps p.tables e below (T104.setTop (mkF m 138 #[.val (.ref a1), .val (.ref aA), .val (.int (4 : Int32)), .val (.int (7 : Int32)), .val (.int (4 : Int32)), .val (.int ld)] [(.long ((tk + (4 : Int64)) - (4 : Int64))), (.ref a1)])) _
      refine st105 _ ?_
      show Steps p.tables e below (T105.setTop (mkF m 141 #[.val (.ref a1), .val (.ref aA), .val (.int (4 : Int32)), .val (.int (7 : Int32)), .val (.int (4 : Int32)), .val (.int ld)] [])) _
      refine XS.aloadN X105.here hx rfl (hb hby d_prog_23_method_10_141) rfl rfl ?_
      show Steps p.tables e below (T105.setTop (mkF m 142 #[.val (.ref a1), .val (.ref aA), .val (.int (4 : Int32)), .val (.int (7 : Int32)), .val (.int (4 : Int32)), .val (.int ld)] [(.ref a1)])) _
      refine st107 _ ?_
      show Steps p.tables e below (T107.setTop (mkF m 145 #[.val (.ref a1), .val (.ref aA), .val (.int (4 : Int32)), .val (.int (7 : Int32)), .val (.int (4 : Int32)), .val (.int ld)] [(.ref aO)])) _
      refine XS.iconst X107.here hx rfl (hb hby d_prog_23_method_10_145) ?_
      refine XS.aloadN X107.here hx rfl (hb hby d_prog_23_method_10_146) rfl rfl ?_
      refine XS.iload X107.here hx rfl (hb hby d_prog_23_method_10_147) rfl ?_
      show Steps p.tables e below (T107.setTop (mkF m 149 #[.val (.ref a1), .val (.ref aA), .val (.int (4 : Int32)), .val (.int (7 : Int32)), .val (.int (4 : Int32)), .val (.int ld)] [(.int (4 : Int32)), (.ref aA), (.int (0 : Int32)), (.ref aO)])) _
      refine X107.baloadBytes hx (j := (4 : Int32)) (v := (.int x4)) (by rw [e107]; exact Ar109.1) (State.isArrayOf_alike hZ.alike Ar109.2.1) Ar109.2.2 hin109 hat109 (g := (mkF m 149 #[.val (.ref a1), .val (.ref aA), .val (.int (4 : Int32)), .val (.int (7 : Int32)), .val (.int (4 : Int32)), .val (.int ld)] [(.int (4 : Int32)), (.ref aA), (.int (0 : Int32)), (.ref aO)])) rfl rfl (hb hby d_prog_23_method_10_149) _ ?_
      show Steps p.tables e below (T107.setTop (mkF m 150 #[.val (.ref a1), .val (.ref aA), .val (.int (4 : Int32)), .val (.int (7 : Int32)), .val (.int (4 : Int32)), .val (.int ld)] [(.int x4), (.int (0 : Int32)), (.ref aO)])) _
      refine st112 _ ?_
      show Steps p.tables e below (T112.setTop (mkF m 151 #[.val (.ref a1), .val (.ref aA), .val (.int (4 : Int32)), .val (.int (7 : Int32)), .val (.int (4 : Int32)), .val (.int ld)] [])) _
      refine XS.aloadN X112.here hx rfl (hb hby d_prog_23_method_10_151) rfl rfl ?_
      refine XS.iconst X112.here hx rfl (hb hby d_prog_23_method_10_152) ?_
      show Steps p.tables e below (T112.setTop (mkF m 153 #[.val (.ref a1), .val (.ref aA), .val (.int (4 : Int32)), .val (.int (7 : Int32)), .val (.int (4 : Int32)), .val (.int ld)] [(.int (1 : Int32)), (.ref a1)])) _
      refine st115 _ ?_
      show Steps p.tables e below (T115.setTop (mkF m 156 #[.val (.ref a1), .val (.ref aA), .val (.int (4 : Int32)), .val (.int (7 : Int32)), .val (.int (4 : Int32)), .val (.int ld)] [])) _
      refine XS.iload X115.here hx rfl (hb hby d_prog_23_method_10_156) rfl ?_
      refine XS.sipush X115.here hx rfl (hb hby d_prog_23_method_10_158) ?_
      refine XS.icmpNo X115.here hx rfl (hb hby d_prog_23_method_10_161) rfl (flt hc116).1 ?_
      refine XS.iload X115.here hx rfl (hb hby d_prog_23_method_10_164) rfl ?_
      show Steps p.tables e below (T115.setTop (mkF m 166 #[.val (.ref a1), .val (.ref aA), .val (.int (4 : Int32)), .val (.int (7 : Int32)), .val (.int (4 : Int32)), .val (.int ld)] [(.int ld)])) _
      refine XS.sipush X115.here hx rfl (hb hby d_prog_23_method_10_166) ?_
      refine XS.icmpYes X115.here hx rfl (pc0 := 169) (pc' := 180) rfl (hb hby d_prog_23_method_10_169) rfl (tlt hc117).2.2.1 (by decide) (by decide) ?_
      refine XS.iload X115.here hx rfl (hb hby d_prog_23_method_10_180) rfl ?_
      refine XS.sipush X115.here hx rfl (hb hby d_prog_23_method_10_182) ?_
      show Steps p.tables e below (T115.setTop (mkF m 185 #[.val (.ref a1), .val (.ref aA), .val (.int (4 : Int32)), .val (.int (7 : Int32)), .val (.int (4 : Int32)), .val (.int ld)] [(.int (224 : Int32)), (.int ld)])) _
      refine XS.icmpNo X115.here hx rfl (hb hby d_prog_23_method_10_185) rfl (flt hc118).1 ?_
      refine XS.iload X115.here hx rfl (hb hby d_prog_23_method_10_188) rfl ?_
      refine XS.sipush X115.here hx rfl (hb hby d_prog_23_method_10_190) ?_
      refine XS.icmpYes X115.here hx rfl (pc0 := 193) (pc' := 246) rfl (hb hby d_prog_23_method_10_193) rfl (tlt hc119).2.2.1 (by decide) (by decide) ?_
      show Steps p.tables e below (T115.setTop (mkF m 246 #[.val (.ref a1), .val (.ref aA), .val (.int (4 : Int32)), .val (.int (7 : Int32)), .val (.int (4 : Int32)), .val (.int ld)] [])) _
      refine XS.iload X115.here hx rfl (hb hby d_prog_23_method_10_246) rfl ?_
      refine XS.sipush X115.here hx rfl (hb hby d_prog_23_method_10_248) ?_
      refine XS.icmpNo X115.here hx rfl (hb hby d_prog_23_method_10_251) rfl (flt hc120).1 ?_
      refine XS.iload X115.here hx rfl (hb hby d_prog_23_method_10_254) rfl ?_
      show Steps p.tables e below (T115.setTop (mkF m 256 #[.val (.ref a1), .val (.ref aA), .val (.int (4 : Int32)), .val (.int (7 : Int32)), .val (.int (4 : Int32)), .val (.int ld)] [(.int ld)])) _
      refine XS.sipush X115.here hx rfl (hb hby d_prog_23_method_10_256) ?_
      refine XS.icmpNo X115.here hx rfl (hb hby d_prog_23_method_10_259) rfl (flt hc121).2.2.1 ?_
      refine XS.aloadN X115.here hx rfl (hb hby d_prog_23_method_10_262) rfl rfl ?_
      refine XS.iconst X115.here hx rfl (hb hby d_prog_23_method_10_263) ?_
      show Steps p.tables e below (T115.setTop (mkF m 264 #[.val (.ref a1), .val (.ref aA), .val (.int (4 : Int32)), .val (.int (7 : Int32)), .val (.int (4 : Int32)), .val (.int ld)] [(.int (3 : Int32)), (.ref a1)])) _
      refine st124 _ ?_
      show Steps p.tables e below (T124.setTop (mkF m 267 #[.val (.ref a1), .val (.ref aA), .val (.int (4 : Int32)), .val (.int (7 : Int32)), .val (.int (4 : Int32)), .val (.int ld)] [])) _
      refine XS.aloadN X124.here hx rfl (hb hby d_prog_23_method_10_267) rfl rfl ?_
      refine XS.iload X124.here hx rfl (hb hby d_prog_23_method_10_268) rfl ?_
      refine XS.sipush X124.here hx rfl (hb hby d_prog_23_method_10_270) ?_
      show Steps p.tables e below (T124.setTop (mkF m 273 #[.val (.ref a1), .val (.ref aA), .val (.int (4 : Int32)), .val (.int (7 : Int32)), .val (.int (4 : Int32)), .val (.int ld)] [(.int (240 : Int32)), (.int ld), (.ref a1)])) _
      exact kk)
  obtain ⟨lo, h_lo⟩ : ∃ z : Int32, z = (if ld = (240 : Int32) then (144 : Int32) else (128 : Int32)) := ⟨_, rfl⟩
  have pre127 : ∀ t, Steps p.tables e below (T124.setTop (mkF m 285 #[.val (.ref a1), .val (.ref aA), .val (.int (4 : Int32)), .val (.int (7 : Int32)), .val (.int (4 : Int32)), .val (.int ld)] [(.int lo), (.ref a1)])) t → Steps p.tables e below (s₁.setTop (entryFrame m #[(.ref a1), (.ref aA), (.int (4 : Int32)), (.int (7 : Int32))] 6)) t := fun t kk => pre125 t (by
      by_cases hc126 : ld = (240 : Int32)
      · refine XS.icmpNo X124.here hx rfl (hb hby d_prog_23_method_10_273) rfl (teq hc126).2 ?_
        show Steps p.tables e below (T124.setTop (mkF m 276 #[.val (.ref a1), .val (.ref aA), .val (.int (4 : Int32)), .val (.int (7 : Int32)), .val (.int (4 : Int32)), .val (.int ld)] [(.ref a1)])) _
        refine XS.sipush X124.here hx rfl (hb hby d_prog_23_method_10_276) ?_
        show Steps p.tables e below (T124.setTop (mkF m 279 #[.val (.ref a1), .val (.ref aA), .val (.int (4 : Int32)), .val (.int (7 : Int32)), .val (.int (4 : Int32)), .val (.int ld)] [(.int (144 : Int32)), (.ref a1)])) _
        refine XS.goto X124.here hx rfl (pc0 := 279) (pc' := 285) rfl (hb hby d_prog_23_method_10_279) (by decide) (by decide) ?_
        show Steps p.tables e below (T124.setTop (mkF m 285 #[.val (.ref a1), .val (.ref aA), .val (.int (4 : Int32)), .val (.int (7 : Int32)), .val (.int (4 : Int32)), .val (.int ld)] [(.int (144 : Int32)), (.ref a1)])) _
        rw [show lo = (144 : Int32) from by rw [h_lo, if_pos hc126]] at kk
        exact kk
      · refine XS.icmpYes X124.here hx rfl (pc0 := 273) (pc' := 282) rfl (hb hby d_prog_23_method_10_273) rfl (feq hc126).2 (by decide) (by decide) ?_
        show Steps p.tables e below (T124.setTop (mkF m 282 #[.val (.ref a1), .val (.ref aA), .val (.int (4 : Int32)), .val (.int (7 : Int32)), .val (.int (4 : Int32)), .val (.int ld)] [(.ref a1)])) _
        refine XS.sipush X124.here hx rfl (hb hby d_prog_23_method_10_282) ?_
        show Steps p.tables e below (T124.setTop (mkF m 285 #[.val (.ref a1), .val (.ref aA), .val (.int (4 : Int32)), .val (.int (7 : Int32)), .val (.int (4 : Int32)), .val (.int ld)] [(.int (128 : Int32)), (.ref a1)])) _
        rw [show lo = (128 : Int32) from by rw [h_lo, if_neg hc126]] at kk
        exact kk)
  have f128 := (f122.wr W124)
  have f129 := ((((F_low.other W105 (Or.inr (slot_ne (Or.inl (hw _ (List.mem_of_getElem? (i := 18) rfl))) (Or.inl (hw _ (List.mem_of_getElem? (i := 70) rfl))) (by decide) (t := .int) (t' := .long) (by decide) (by decide)))).other W112 (Or.inl n_a1_aO)).other W115 (Or.inr (slot_ne (Or.inl (hw _ (List.mem_of_getElem? (i := 18) rfl))) (Or.inl (hw _ (List.mem_of_getElem? (i := 57) rfl))) (by decide) (t := .int) (t' := .int) (by decide) (by decide)))).other W124 (Or.inr (slot_ne (Or.inl (hw _ (List.mem_of_getElem? (i := 18) rfl))) (Or.inl (hw _ (List.mem_of_getElem? (i := 55) rfl))) (by decide) (t := .int) (t' := .int) (by decide) (by decide))))
  obtain ⟨T130, h130, X130, e130, W130, st130⟩ := putF X124 hx hZ hown (host := "") (Or.inl (hw _ (List.mem_of_getElem? (i := 17) rfl))) Via.refl e124 f129 f128 (Or.inl (hw _ (List.mem_of_getElem? (i := 18) rfl))) (hw _ (List.mem_of_getElem? (i := 1) rfl)) (ty := .int) (by decide) rfl rfl (g := (mkF m 285 #[.val (.ref a1), .val (.ref aA), .val (.int (4 : Int32)), .val (.int (7 : Int32)), .val (.int (4 : Int32)), .val (.int ld)] [(.int lo), (.ref a1)])) rfl rfl (hb hby d_prog_23_method_10_285)
  have F130 := f129.same W130
  have N130 := Fr.snoc X130 N124 g_a1
  have O130 := O124.wr W130 g_a1
  have K130 := K124.wr W130 (Or.inl (List.mem_of_getElem? (i := 0) rfl))
  have pre131 : ∀ t, Steps p.tables e below (T130.setTop (mkF m 294 #[.val (.ref a1), .val (.ref aA), .val (.int (4 : Int32)), .val (.int (7 : Int32)), .val (.int (4 : Int32)), .val (.int ld)] [(.int (244 : Int32)), (.int ld), (.ref a1)])) t → Steps p.tables e below (s₁.setTop (entryFrame m #[(.ref a1), (.ref aA), (.int (4 : Int32)), (.int (7 : Int32))] 6)) t := fun t kk => pre127 t (by
      show Steps p.tables e below (T124.setTop (mkF m 285 #[.val (.ref a1), .val (.ref aA), .val (.int (4 : Int32)), .val (.int (7 : Int32)), .val (.int (4 : Int32)), .val (.int ld)] [(.int lo), (.ref a1)])) _
      refine st130 _ ?_
      show Steps p.tables e below (T130.setTop (mkF m 288 #[.val (.ref a1), .val (.ref aA), .val (.int (4 : Int32)), .val (.int (7 : Int32)), .val (.int (4 : Int32)), .val (.int ld)] [])) _
      refine XS.aloadN X130.here hx rfl (hb hby d_prog_23_method_10_288) rfl rfl ?_
      refine XS.iload X130.here hx rfl (hb hby d_prog_23_method_10_289) rfl ?_
      refine XS.sipush X130.here hx rfl (hb hby d_prog_23_method_10_291) ?_
      show Steps p.tables e below (T130.setTop (mkF m 294 #[.val (.ref a1), .val (.ref aA), .val (.int (4 : Int32)), .val (.int (7 : Int32)), .val (.int (4 : Int32)), .val (.int ld)] [(.int (244 : Int32)), (.int ld), (.ref a1)])) _
      exact kk)
  obtain ⟨hi, h_hi⟩ : ∃ z : Int32, z = (if ld = (244 : Int32) then (143 : Int32) else (191 : Int32)) := ⟨_, rfl⟩
  have pre133 : ∀ t, Steps p.tables e below (T130.setTop (mkF m 306 #[.val (.ref a1), .val (.ref aA), .val (.int (4 : Int32)), .val (.int (7 : Int32)), .val (.int (4 : Int32)), .val (.int ld)] [(.int hi), (.ref a1)])) t → Steps p.tables e below (s₁.setTop (entryFrame m #[(.ref a1), (.ref aA), (.int (4 : Int32)), (.int (7 : Int32))] 6)) t := fun t kk => pre131 t (by
      by_cases hc132 : ld = (244 : Int32)
      · refine XS.icmpNo X130.here hx rfl (hb hby d_prog_23_method_10_294) rfl (teq hc132).2 ?_
        show Steps p.tables e below (T130.setTop (mkF m 297 #[.val (.ref a1), .val (.ref aA), .val (.int (4 : Int32)), .val (.int (7 : Int32)), .val (.int (4 : Int32)), .val (.int ld)] [(.ref a1)])) _
        refine XS.sipush X130.here hx rfl (hb hby d_prog_23_method_10_297) ?_
        show Steps p.tables e below (T130.setTop (mkF m 300 #[.val (.ref a1), .val (.ref aA), .val (.int (4 : Int32)), .val (.int (7 : Int32)), .val (.int (4 : Int32)), .val (.int ld)] [(.int (143 : Int32)), (.ref a1)])) _
        refine XS.goto X130.here hx rfl (pc0 := 300) (pc' := 306) rfl (hb hby d_prog_23_method_10_300) (by decide) (by decide) ?_
        show Steps p.tables e below (T130.setTop (mkF m 306 #[.val (.ref a1), .val (.ref aA), .val (.int (4 : Int32)), .val (.int (7 : Int32)), .val (.int (4 : Int32)), .val (.int ld)] [(.int (143 : Int32)), (.ref a1)])) _
        rw [show hi = (143 : Int32) from by rw [h_hi, if_pos hc132]] at kk
        exact kk
      · refine XS.icmpYes X130.here hx rfl (pc0 := 294) (pc' := 303) rfl (hb hby d_prog_23_method_10_294) rfl (feq hc132).2 (by decide) (by decide) ?_
        show Steps p.tables e below (T130.setTop (mkF m 303 #[.val (.ref a1), .val (.ref aA), .val (.int (4 : Int32)), .val (.int (7 : Int32)), .val (.int (4 : Int32)), .val (.int ld)] [(.ref a1)])) _
        refine XS.sipush X130.here hx rfl (hb hby d_prog_23_method_10_303) ?_
        show Steps p.tables e below (T130.setTop (mkF m 306 #[.val (.ref a1), .val (.ref aA), .val (.int (4 : Int32)), .val (.int (7 : Int32)), .val (.int (4 : Int32)), .val (.int ld)] [(.int (191 : Int32)), (.ref a1)])) _
        rw [show hi = (191 : Int32) from by rw [h_hi, if_neg hc132]] at kk
        exact kk)
  have f134 := (f128.wr W130)
  have f135 := (((((F_high.other W105 (Or.inr (slot_ne (Or.inl (hw _ (List.mem_of_getElem? (i := 20) rfl))) (Or.inl (hw _ (List.mem_of_getElem? (i := 70) rfl))) (by decide) (t := .int) (t' := .long) (by decide) (by decide)))).other W112 (Or.inl n_a1_aO)).other W115 (Or.inr (slot_ne (Or.inl (hw _ (List.mem_of_getElem? (i := 20) rfl))) (Or.inl (hw _ (List.mem_of_getElem? (i := 57) rfl))) (by decide) (t := .int) (t' := .int) (by decide) (by decide)))).other W124 (Or.inr (slot_ne (Or.inl (hw _ (List.mem_of_getElem? (i := 20) rfl))) (Or.inl (hw _ (List.mem_of_getElem? (i := 55) rfl))) (by decide) (t := .int) (t' := .int) (by decide) (by decide)))).other W130 (Or.inr (slot_ne (Or.inl (hw _ (List.mem_of_getElem? (i := 20) rfl))) (Or.inl (hw _ (List.mem_of_getElem? (i := 18) rfl))) (by decide) (t := .int) (t' := .int) (by decide) (by decide))))
  obtain ⟨T136, h136, X136, e136, W136, st136⟩ := putF X130 hx hZ hown (host := "") (Or.inl (hw _ (List.mem_of_getElem? (i := 19) rfl))) Via.refl e130 f135 f134 (Or.inl (hw _ (List.mem_of_getElem? (i := 20) rfl))) (hw _ (List.mem_of_getElem? (i := 1) rfl)) (ty := .int) (by decide) rfl rfl (g := (mkF m 306 #[.val (.ref a1), .val (.ref aA), .val (.int (4 : Int32)), .val (.int (7 : Int32)), .val (.int (4 : Int32)), .val (.int ld)] [(.int hi), (.ref a1)])) rfl rfl (hb hby d_prog_23_method_10_306)
  have F136 := f135.same W136
  have N136 := Fr.snoc X136 N130 g_a1
  have O136 := O130.wr W136 g_a1
  have K136 := K130.wr W136 (Or.inl (List.mem_of_getElem? (i := 0) rfl))
  have f137 := (((((f108.other W112 n_aA_aO).other W115 (Ne.symm n_a1_aA)).other W124 (Ne.symm n_a1_aA)).other W130 (Ne.symm n_a1_aA)).other W136 (Ne.symm n_a1_aA))
  obtain ⟨cl138, Ar138, q138, S138, Ne138, H138, G138⟩ := id f137
  have hin138 : ¬ ((5 : Int32) < 0 ∨ cl138.slots.size ≤ ((5 : Int32)).toNatClampNeg) := inb_of S138 ⟨by decide, by decide⟩
  have hat138 : cl138.slots[((5 : Int32)).toNatClampNeg]? = some (.int x5) := H138.at hin138 rfl
  have f139 := ((F124.other W130 (Or.inr (slot_ne (Or.inl (hw _ (List.mem_of_getElem? (i := 55) rfl))) (Or.inl (hw _ (List.mem_of_getElem? (i := 18) rfl))) (by decide) (t := .int) (t' := .int) (by decide) (by decide)))).other W136 (Or.inr (slot_ne (Or.inl (hw _ (List.mem_of_getElem? (i := 55) rfl))) (Or.inl (hw _ (List.mem_of_getElem? (i := 20) rfl))) (by decide) (t := .int) (t' := .int) (by decide) (by decide))))
  obtain ⟨T140, X140, e140, st140⟩ := getF X136 hx hZ hown (host := "") (Or.inl (hw _ (List.mem_of_getElem? (i := 54) rfl))) Via.refl e136 f139 (g := (mkF m 20 #[.val (.ref a1), .val (.ref aA), .val (.int (4 : Int32)), .val (.int (7 : Int32)), .val (.int (5 : Int32)), .val (.int c1)] [(.ref a1)])) rfl rfl (hb hby d_prog_23_method_10_20)
  have f141 := (F130.other W136 (Or.inr (slot_ne (Or.inl (hw _ (List.mem_of_getElem? (i := 18) rfl))) (Or.inl (hw _ (List.mem_of_getElem? (i := 20) rfl))) (by decide) (t := .int) (t' := .int) (by decide) (by decide))))
  obtain ⟨T142, X142, e142, st142⟩ := getF X140 hx hZ hown (host := "") (Or.inl (hw _ (List.mem_of_getElem? (i := 17) rfl))) Via.refl e140 f141 (g := (mkF m 29 #[.val (.ref a1), .val (.ref aA), .val (.int (4 : Int32)), .val (.int (7 : Int32)), .val (.int (5 : Int32)), .val (.int c1)] [(.ref a1), (.int c1)])) rfl rfl (hb hby d_prog_23_method_10_29)
  have hc143 : ¬ (c1 < lo) := (by rw [hc1, h_lo]; by_cases e1 : ld = (224 : Int32) <;> by_cases e2 : ld = (240 : Int32) <;> simp +decide [e1, e2])
  obtain ⟨T144, X144, e144, st144⟩ := getF X142 hx hZ hown (host := "") (Or.inl (hw _ (List.mem_of_getElem? (i := 19) rfl))) Via.refl e142 F136 (g := (mkF m 38 #[.val (.ref a1), .val (.ref aA), .val (.int (4 : Int32)), .val (.int (7 : Int32)), .val (.int (5 : Int32)), .val (.int c1)] [(.ref a1), (.int c1)])) rfl rfl (hb hby d_prog_23_method_10_38)
  have hc145 : ¬ (hi < c1) := (by rw [hc1, h_hi]; by_cases e1 : ld = (224 : Int32) <;> by_cases e2 : ld = (240 : Int32) <;> by_cases e3 : ld = (237 : Int32) <;> by_cases e4 : ld = (244 : Int32) <;> simp +decide [e1, e2, e3, e4])
  have f146 := (((((f106.other W112 (Or.inl n_a1_aO)).other W115 (Or.inr (slot_ne (Or.inr (hw _ (List.mem_of_getElem? (i := 22) rfl))) (Or.inl (hw _ (List.mem_of_getElem? (i := 57) rfl))) (by decide) (t := (.array .byte)) (t' := .int) (by decide) (by decide)))).other W124 (Or.inr (slot_ne (Or.inr (hw _ (List.mem_of_getElem? (i := 22) rfl))) (Or.inl (hw _ (List.mem_of_getElem? (i := 55) rfl))) (by decide) (t := (.array .byte)) (t' := .int) (by decide) (by decide)))).other W130 (Or.inr (slot_ne (Or.inr (hw _ (List.mem_of_getElem? (i := 22) rfl))) (Or.inl (hw _ (List.mem_of_getElem? (i := 18) rfl))) (by decide) (t := (.array .byte)) (t' := .int) (by decide) (by decide)))).other W136 (Or.inr (slot_ne (Or.inr (hw _ (List.mem_of_getElem? (i := 22) rfl))) (Or.inl (hw _ (List.mem_of_getElem? (i := 20) rfl))) (by decide) (t := (.array .byte)) (t' := .int) (by decide) (by decide))))
  obtain ⟨T147, X147, e147, st147⟩ := getF X144 hx hZ hown (host := "") (Or.inl (hw _ (List.mem_of_getElem? (i := 21) rfl))) Via.refl e144 f146 (g := (mkF m 69 #[.val (.ref a1), .val (.ref aA), .val (.int (4 : Int32)), .val (.int (7 : Int32)), .val (.int (5 : Int32)), .val (.int c1)] [(.ref a1)])) rfl rfl (hb hby d_prog_23_method_10_69)
  have f148 := (((F115.other W124 (Or.inr (slot_ne (Or.inl (hw _ (List.mem_of_getElem? (i := 57) rfl))) (Or.inl (hw _ (List.mem_of_getElem? (i := 55) rfl))) (by decide) (t := .int) (t' := .int) (by decide) (by decide)))).other W130 (Or.inr (slot_ne (Or.inl (hw _ (List.mem_of_getElem? (i := 57) rfl))) (Or.inl (hw _ (List.mem_of_getElem? (i := 18) rfl))) (by decide) (t := .int) (t' := .int) (by decide) (by decide)))).other W136 (Or.inr (slot_ne (Or.inl (hw _ (List.mem_of_getElem? (i := 57) rfl))) (Or.inl (hw _ (List.mem_of_getElem? (i := 20) rfl))) (by decide) (t := .int) (t' := .int) (by decide) (by decide))))
  obtain ⟨T149, X149, e149, st149⟩ := getF X147 hx hZ hown (host := "") (Or.inl (hw _ (List.mem_of_getElem? (i := 56) rfl))) Via.refl e147 f148 (g := (mkF m 74 #[.val (.ref a1), .val (.ref aA), .val (.int (4 : Int32)), .val (.int (7 : Int32)), .val (.int (5 : Int32)), .val (.int c1)] [(.ref a1), (.ref a1), (.ref aO)])) rfl rfl (hb hby d_prog_23_method_10_74)
  have f150 := (f134.wr W136)
  obtain ⟨T151, h151, X151, e151, W151, st151⟩ := putF X149 hx hZ hown (host := "") (Or.inl (hw _ (List.mem_of_getElem? (i := 56) rfl))) Via.refl e149 f148 f150 (Or.inl (hw _ (List.mem_of_getElem? (i := 57) rfl))) (hw _ (List.mem_of_getElem? (i := 1) rfl)) (ty := .int) (by decide) rfl rfl (g := (mkF m 80 #[.val (.ref a1), .val (.ref aA), .val (.int (4 : Int32)), .val (.int (7 : Int32)), .val (.int (5 : Int32)), .val (.int c1)] [(.int (2 : Int32)), (.ref a1), (.int (1 : Int32)), (.ref aO)])) rfl rfl (hb hby d_prog_23_method_10_80)
  have F151 := f148.same W151
  have N151 := Fr.snoc X151 N136 g_a1
  have O151 := O136.wr W151 g_a1
  have K151 := K136.wr W151 (Or.inl (List.mem_of_getElem? (i := 0) rfl))
  have f152 := (f137.other W151 (Ne.symm n_a1_aA))
  obtain ⟨cl153, Ar153, q153, S153, Ne153, H153, G153⟩ := id f152
  have hin153 : ¬ ((5 : Int32) < 0 ∨ cl153.slots.size ≤ ((5 : Int32)).toNatClampNeg) := inb_of S153 ⟨by decide, by decide⟩
  have hat153 : cl153.slots[((5 : Int32)).toNatClampNeg]? = some (.int x5) := H153.at hin153 rfl
  have f154 := (((((V112.other W115 (Ne.symm n_a1_aO)).other W124 (Ne.symm n_a1_aO)).other W130 (Ne.symm n_a1_aO)).other W136 (Ne.symm n_a1_aO)).other W151 (Ne.symm n_a1_aO))
  obtain ⟨cl155, Ar155, q155, S155, Ne155, H155, G155⟩ := id f154
  have hin155 : ¬ ((1 : Int32) < 0 ∨ cl155.slots.size ≤ ((1 : Int32)).toNatClampNeg) := inb_of S155 ⟨by decide, by decide⟩
  obtain ⟨T156, h156, X156, e156, W156, st156⟩ := stB X151 hx hZ e151 Ar155 (j := (1 : Int32)) hin155 (g := (mkF m 87 #[.val (.ref a1), .val (.ref aA), .val (.int (4 : Int32)), .val (.int (7 : Int32)), .val (.int (5 : Int32)), .val (.int c1)] [(.int x5), (.int (1 : Int32)), (.ref aO)])) rfl rfl (hb hby d_prog_23_method_10_87)
  have V156 : Arv Z h156 aO kO .byte (4 : Int32) [(.int (nar .byte x4)), (.int (nar .byte x5)), (.int (0 : Int32)), (.int (0 : Int32))] (.int (0 : Int32)) := Arv.set Ar155 q155 S155 Ne155 H155 G155 (fits_nar_byte _) W156 1 rfl (Nat.le_of_ble_eq_true rfl)
  have N156 := Fr.snoc X156 N151 g_aO
  have O156 := O151.wr W156 g_aO
  have K156 := K151.wr W156 (Or.inl (List.mem_of_getElem? (i := 1) rfl))
  have f157 := ((f139.other W151 (Or.inr (slot_ne (Or.inl (hw _ (List.mem_of_getElem? (i := 55) rfl))) (Or.inl (hw _ (List.mem_of_getElem? (i := 57) rfl))) (by decide) (t := .int) (t' := .int) (by decide) (by decide)))).other W156 (Or.inl n_a1_aO))
  obtain ⟨T158, X158, e158, st158⟩ := getF X156 hx hZ hown (host := "") (Or.inl (hw _ (List.mem_of_getElem? (i := 54) rfl))) Via.refl e156 f157 (g := (mkF m 90 #[.val (.ref a1), .val (.ref aA), .val (.int (4 : Int32)), .val (.int (7 : Int32)), .val (.int (5 : Int32)), .val (.int c1)] [(.ref a1), (.ref a1)])) rfl rfl (hb hby d_prog_23_method_10_90)
  have f159 := ((f150.wr W151).wr W156)
  obtain ⟨T160, h160, X160, e160, W160, st160⟩ := putF X158 hx hZ hown (host := "") (Or.inl (hw _ (List.mem_of_getElem? (i := 54) rfl))) Via.refl e158 f157 f159 (Or.inl (hw _ (List.mem_of_getElem? (i := 55) rfl))) (hw _ (List.mem_of_getElem? (i := 1) rfl)) (ty := .int) (by decide) rfl rfl (g := (mkF m 95 #[.val (.ref a1), .val (.ref aA), .val (.int (4 : Int32)), .val (.int (7 : Int32)), .val (.int (5 : Int32)), .val (.int c1)] [(.int (2 : Int32)), (.ref a1)])) rfl rfl (hb hby d_prog_23_method_10_95)
  have F160 := f157.same W160
  have N160 := Fr.snoc X160 N156 g_a1
  have O160 := O156.wr W160 g_a1
  have K160 := K156.wr W160 (Or.inl (List.mem_of_getElem? (i := 0) rfl))
  have f161 := (f159.wr W160)
  have f162 := (((f141.other W151 (Or.inr (slot_ne (Or.inl (hw _ (List.mem_of_getElem? (i := 18) rfl))) (Or.inl (hw _ (List.mem_of_getElem? (i := 57) rfl))) (by decide) (t := .int) (t' := .int) (by decide) (by decide)))).other W156 (Or.inl n_a1_aO)).other W160 (Or.inr (slot_ne (Or.inl (hw _ (List.mem_of_getElem? (i := 18) rfl))) (Or.inl (hw _ (List.mem_of_getElem? (i := 55) rfl))) (by decide) (t := .int) (t' := .int) (by decide) (by decide))))
  obtain ⟨T163, h163, X163, e163, W163, st163⟩ := putF X160 hx hZ hown (host := "") (Or.inl (hw _ (List.mem_of_getElem? (i := 17) rfl))) Via.refl e160 f162 f161 (Or.inl (hw _ (List.mem_of_getElem? (i := 18) rfl))) (hw _ (List.mem_of_getElem? (i := 1) rfl)) (ty := .int) (by decide) rfl rfl (g := (mkF m 102 #[.val (.ref a1), .val (.ref aA), .val (.int (4 : Int32)), .val (.int (7 : Int32)), .val (.int (5 : Int32)), .val (.int c1)] [(.int (128 : Int32)), (.ref a1)])) rfl rfl (hb hby d_prog_23_method_10_102)
  have F163 := f162.same W163
  have N163 := Fr.snoc X163 N160 g_a1
  have O163 := O160.wr W163 g_a1
  have K163 := K160.wr W163 (Or.inl (List.mem_of_getElem? (i := 0) rfl))
  have f164 := (f161.wr W163)
  have f165 := ((((F136.other W151 (Or.inr (slot_ne (Or.inl (hw _ (List.mem_of_getElem? (i := 20) rfl))) (Or.inl (hw _ (List.mem_of_getElem? (i := 57) rfl))) (by decide) (t := .int) (t' := .int) (by decide) (by decide)))).other W156 (Or.inl n_a1_aO)).other W160 (Or.inr (slot_ne (Or.inl (hw _ (List.mem_of_getElem? (i := 20) rfl))) (Or.inl (hw _ (List.mem_of_getElem? (i := 55) rfl))) (by decide) (t := .int) (t' := .int) (by decide) (by decide)))).other W163 (Or.inr (slot_ne (Or.inl (hw _ (List.mem_of_getElem? (i := 20) rfl))) (Or.inl (hw _ (List.mem_of_getElem? (i := 18) rfl))) (by decide) (t := .int) (t' := .int) (by decide) (by decide))))
  obtain ⟨T166, h166, X166, e166, W166, st166⟩ := putF X163 hx hZ hown (host := "") (Or.inl (hw _ (List.mem_of_getElem? (i := 19) rfl))) Via.refl e163 f165 f164 (Or.inl (hw _ (List.mem_of_getElem? (i := 20) rfl))) (hw _ (List.mem_of_getElem? (i := 1) rfl)) (ty := .int) (by decide) rfl rfl (g := (mkF m 109 #[.val (.ref a1), .val (.ref aA), .val (.int (4 : Int32)), .val (.int (7 : Int32)), .val (.int (5 : Int32)), .val (.int c1)] [(.int (191 : Int32)), (.ref a1)])) rfl rfl (hb hby d_prog_23_method_10_109)
  have F166 := f165.same W166
  have N166 := Fr.snoc X166 N163 g_a1
  have O166 := O163.wr W166 g_a1
  have K166 := K163.wr W166 (Or.inl (List.mem_of_getElem? (i := 0) rfl))
  have f167 := ((((f152.other W156 n_aA_aO).other W160 (Ne.symm n_a1_aA)).other W163 (Ne.symm n_a1_aA)).other W166 (Ne.symm n_a1_aA))
  obtain ⟨cl168, Ar168, q168, S168, Ne168, H168, G168⟩ := id f167
  have hin168 : ¬ ((6 : Int32) < 0 ∨ cl168.slots.size ≤ ((6 : Int32)).toNatClampNeg) := inb_of S168 ⟨by decide, by decide⟩
  have hat168 : cl168.slots[((6 : Int32)).toNatClampNeg]? = some (.int (-128 : Int32)) := H168.at hin168 rfl
  have f169 := ((F160.other W163 (Or.inr (slot_ne (Or.inl (hw _ (List.mem_of_getElem? (i := 55) rfl))) (Or.inl (hw _ (List.mem_of_getElem? (i := 18) rfl))) (by decide) (t := .int) (t' := .int) (by decide) (by decide)))).other W166 (Or.inr (slot_ne (Or.inl (hw _ (List.mem_of_getElem? (i := 55) rfl))) (Or.inl (hw _ (List.mem_of_getElem? (i := 20) rfl))) (by decide) (t := .int) (t' := .int) (by decide) (by decide))))
  obtain ⟨T170, X170, e170, st170⟩ := getF X166 hx hZ hown (host := "") (Or.inl (hw _ (List.mem_of_getElem? (i := 54) rfl))) Via.refl e166 f169 (g := (mkF m 20 #[.val (.ref a1), .val (.ref aA), .val (.int (4 : Int32)), .val (.int (7 : Int32)), .val (.int (6 : Int32)), .val (.int (128 : Int32))] [(.ref a1)])) rfl rfl (hb hby d_prog_23_method_10_20)
  have f171 := (F163.other W166 (Or.inr (slot_ne (Or.inl (hw _ (List.mem_of_getElem? (i := 18) rfl))) (Or.inl (hw _ (List.mem_of_getElem? (i := 20) rfl))) (by decide) (t := .int) (t' := .int) (by decide) (by decide))))
  obtain ⟨T172, X172, e172, st172⟩ := getF X170 hx hZ hown (host := "") (Or.inl (hw _ (List.mem_of_getElem? (i := 17) rfl))) Via.refl e170 f171 (g := (mkF m 29 #[.val (.ref a1), .val (.ref aA), .val (.int (4 : Int32)), .val (.int (7 : Int32)), .val (.int (6 : Int32)), .val (.int (128 : Int32))] [(.ref a1), (.int (128 : Int32))])) rfl rfl (hb hby d_prog_23_method_10_29)
  have hc173 : ¬ ((128 : Int32) < (128 : Int32)) := (by decide)
  obtain ⟨T174, X174, e174, st174⟩ := getF X172 hx hZ hown (host := "") (Or.inl (hw _ (List.mem_of_getElem? (i := 19) rfl))) Via.refl e172 F166 (g := (mkF m 38 #[.val (.ref a1), .val (.ref aA), .val (.int (4 : Int32)), .val (.int (7 : Int32)), .val (.int (6 : Int32)), .val (.int (128 : Int32))] [(.ref a1), (.int (128 : Int32))])) rfl rfl (hb hby d_prog_23_method_10_38)
  have hc175 : ¬ ((191 : Int32) < (128 : Int32)) := (by decide)
  have f176 := (((((f146.other W151 (Or.inr (slot_ne (Or.inr (hw _ (List.mem_of_getElem? (i := 22) rfl))) (Or.inl (hw _ (List.mem_of_getElem? (i := 57) rfl))) (by decide) (t := (.array .byte)) (t' := .int) (by decide) (by decide)))).other W156 (Or.inl n_a1_aO)).other W160 (Or.inr (slot_ne (Or.inr (hw _ (List.mem_of_getElem? (i := 22) rfl))) (Or.inl (hw _ (List.mem_of_getElem? (i := 55) rfl))) (by decide) (t := (.array .byte)) (t' := .int) (by decide) (by decide)))).other W163 (Or.inr (slot_ne (Or.inr (hw _ (List.mem_of_getElem? (i := 22) rfl))) (Or.inl (hw _ (List.mem_of_getElem? (i := 18) rfl))) (by decide) (t := (.array .byte)) (t' := .int) (by decide) (by decide)))).other W166 (Or.inr (slot_ne (Or.inr (hw _ (List.mem_of_getElem? (i := 22) rfl))) (Or.inl (hw _ (List.mem_of_getElem? (i := 20) rfl))) (by decide) (t := (.array .byte)) (t' := .int) (by decide) (by decide))))
  obtain ⟨T177, X177, e177, st177⟩ := getF X174 hx hZ hown (host := "") (Or.inl (hw _ (List.mem_of_getElem? (i := 21) rfl))) Via.refl e174 f176 (g := (mkF m 69 #[.val (.ref a1), .val (.ref aA), .val (.int (4 : Int32)), .val (.int (7 : Int32)), .val (.int (6 : Int32)), .val (.int (128 : Int32))] [(.ref a1)])) rfl rfl (hb hby d_prog_23_method_10_69)
  have f178 := ((((F151.other W156 (Or.inl n_a1_aO)).other W160 (Or.inr (slot_ne (Or.inl (hw _ (List.mem_of_getElem? (i := 57) rfl))) (Or.inl (hw _ (List.mem_of_getElem? (i := 55) rfl))) (by decide) (t := .int) (t' := .int) (by decide) (by decide)))).other W163 (Or.inr (slot_ne (Or.inl (hw _ (List.mem_of_getElem? (i := 57) rfl))) (Or.inl (hw _ (List.mem_of_getElem? (i := 18) rfl))) (by decide) (t := .int) (t' := .int) (by decide) (by decide)))).other W166 (Or.inr (slot_ne (Or.inl (hw _ (List.mem_of_getElem? (i := 57) rfl))) (Or.inl (hw _ (List.mem_of_getElem? (i := 20) rfl))) (by decide) (t := .int) (t' := .int) (by decide) (by decide))))
  obtain ⟨T179, X179, e179, st179⟩ := getF X177 hx hZ hown (host := "") (Or.inl (hw _ (List.mem_of_getElem? (i := 56) rfl))) Via.refl e177 f178 (g := (mkF m 74 #[.val (.ref a1), .val (.ref aA), .val (.int (4 : Int32)), .val (.int (7 : Int32)), .val (.int (6 : Int32)), .val (.int (128 : Int32))] [(.ref a1), (.ref a1), (.ref aO)])) rfl rfl (hb hby d_prog_23_method_10_74)
  have f180 := (f164.wr W166)
  obtain ⟨T181, h181, X181, e181, W181, st181⟩ := putF X179 hx hZ hown (host := "") (Or.inl (hw _ (List.mem_of_getElem? (i := 56) rfl))) Via.refl e179 f178 f180 (Or.inl (hw _ (List.mem_of_getElem? (i := 57) rfl))) (hw _ (List.mem_of_getElem? (i := 1) rfl)) (ty := .int) (by decide) rfl rfl (g := (mkF m 80 #[.val (.ref a1), .val (.ref aA), .val (.int (4 : Int32)), .val (.int (7 : Int32)), .val (.int (6 : Int32)), .val (.int (128 : Int32))] [(.int (3 : Int32)), (.ref a1), (.int (2 : Int32)), (.ref aO)])) rfl rfl (hb hby d_prog_23_method_10_80)
  have F181 := f178.same W181
  have N181 := Fr.snoc X181 N166 g_a1
  have O181 := O166.wr W181 g_a1
  have K181 := K166.wr W181 (Or.inl (List.mem_of_getElem? (i := 0) rfl))
  have f182 := (f167.other W181 (Ne.symm n_a1_aA))
  obtain ⟨cl183, Ar183, q183, S183, Ne183, H183, G183⟩ := id f182
  have hin183 : ¬ ((6 : Int32) < 0 ∨ cl183.slots.size ≤ ((6 : Int32)).toNatClampNeg) := inb_of S183 ⟨by decide, by decide⟩
  have hat183 : cl183.slots[((6 : Int32)).toNatClampNeg]? = some (.int (-128 : Int32)) := H183.at hin183 rfl
  have f184 := ((((V156.other W160 (Ne.symm n_a1_aO)).other W163 (Ne.symm n_a1_aO)).other W166 (Ne.symm n_a1_aO)).other W181 (Ne.symm n_a1_aO))
  obtain ⟨cl185, Ar185, q185, S185, Ne185, H185, G185⟩ := id f184
  have hin185 : ¬ ((2 : Int32) < 0 ∨ cl185.slots.size ≤ ((2 : Int32)).toNatClampNeg) := inb_of S185 ⟨by decide, by decide⟩
  obtain ⟨T186, h186, X186, e186, W186, st186⟩ := stB X181 hx hZ e181 Ar185 (j := (2 : Int32)) hin185 (g := (mkF m 87 #[.val (.ref a1), .val (.ref aA), .val (.int (4 : Int32)), .val (.int (7 : Int32)), .val (.int (6 : Int32)), .val (.int (128 : Int32))] [(.int (-128 : Int32)), (.int (2 : Int32)), (.ref aO)])) rfl rfl (hb hby d_prog_23_method_10_87)
  have V186 : Arv Z h186 aO kO .byte (4 : Int32) [(.int (nar .byte x4)), (.int (nar .byte x5)), (.int (nar .byte (-128 : Int32))), (.int (0 : Int32))] (.int (0 : Int32)) := Arv.set Ar185 q185 S185 Ne185 H185 G185 (fits_nar_byte _) W186 2 rfl (Nat.le_of_ble_eq_true rfl)
  rw [show (nar .byte (-128 : Int32)) = (-128 : Int32) from by decide] at V186
  have N186 := Fr.snoc X186 N181 g_aO
  have O186 := O181.wr W186 g_aO
  have K186 := K181.wr W186 (Or.inl (List.mem_of_getElem? (i := 1) rfl))
  have f187 := ((f169.other W181 (Or.inr (slot_ne (Or.inl (hw _ (List.mem_of_getElem? (i := 55) rfl))) (Or.inl (hw _ (List.mem_of_getElem? (i := 57) rfl))) (by decide) (t := .int) (t' := .int) (by decide) (by decide)))).other W186 (Or.inl n_a1_aO))
  obtain ⟨T188, X188, e188, st188⟩ := getF X186 hx hZ hown (host := "") (Or.inl (hw _ (List.mem_of_getElem? (i := 54) rfl))) Via.refl e186 f187 (g := (mkF m 90 #[.val (.ref a1), .val (.ref aA), .val (.int (4 : Int32)), .val (.int (7 : Int32)), .val (.int (6 : Int32)), .val (.int (128 : Int32))] [(.ref a1), (.ref a1)])) rfl rfl (hb hby d_prog_23_method_10_90)
  have f189 := ((f180.wr W181).wr W186)
  obtain ⟨T190, h190, X190, e190, W190, st190⟩ := putF X188 hx hZ hown (host := "") (Or.inl (hw _ (List.mem_of_getElem? (i := 54) rfl))) Via.refl e188 f187 f189 (Or.inl (hw _ (List.mem_of_getElem? (i := 55) rfl))) (hw _ (List.mem_of_getElem? (i := 1) rfl)) (ty := .int) (by decide) rfl rfl (g := (mkF m 95 #[.val (.ref a1), .val (.ref aA), .val (.int (4 : Int32)), .val (.int (7 : Int32)), .val (.int (6 : Int32)), .val (.int (128 : Int32))] [(.int (1 : Int32)), (.ref a1)])) rfl rfl (hb hby d_prog_23_method_10_95)
  have F190 := f187.same W190
  have N190 := Fr.snoc X190 N186 g_a1
  have O190 := O186.wr W190 g_a1
  have K190 := K186.wr W190 (Or.inl (List.mem_of_getElem? (i := 0) rfl))
  have f191 := (f189.wr W190)
  have f192 := (((f171.other W181 (Or.inr (slot_ne (Or.inl (hw _ (List.mem_of_getElem? (i := 18) rfl))) (Or.inl (hw _ (List.mem_of_getElem? (i := 57) rfl))) (by decide) (t := .int) (t' := .int) (by decide) (by decide)))).other W186 (Or.inl n_a1_aO)).other W190 (Or.inr (slot_ne (Or.inl (hw _ (List.mem_of_getElem? (i := 18) rfl))) (Or.inl (hw _ (List.mem_of_getElem? (i := 55) rfl))) (by decide) (t := .int) (t' := .int) (by decide) (by decide))))
  obtain ⟨T193, h193, X193, e193, W193, st193⟩ := putF X190 hx hZ hown (host := "") (Or.inl (hw _ (List.mem_of_getElem? (i := 17) rfl))) Via.refl e190 f192 f191 (Or.inl (hw _ (List.mem_of_getElem? (i := 18) rfl))) (hw _ (List.mem_of_getElem? (i := 1) rfl)) (ty := .int) (by decide) rfl rfl (g := (mkF m 102 #[.val (.ref a1), .val (.ref aA), .val (.int (4 : Int32)), .val (.int (7 : Int32)), .val (.int (6 : Int32)), .val (.int (128 : Int32))] [(.int (128 : Int32)), (.ref a1)])) rfl rfl (hb hby d_prog_23_method_10_102)
  have F193 := f192.same W193
  have N193 := Fr.snoc X193 N190 g_a1
  have O193 := O190.wr W193 g_a1
  have K193 := K190.wr W193 (Or.inl (List.mem_of_getElem? (i := 0) rfl))
  have f194 := (f191.wr W193)
  have f195 := ((((F166.other W181 (Or.inr (slot_ne (Or.inl (hw _ (List.mem_of_getElem? (i := 20) rfl))) (Or.inl (hw _ (List.mem_of_getElem? (i := 57) rfl))) (by decide) (t := .int) (t' := .int) (by decide) (by decide)))).other W186 (Or.inl n_a1_aO)).other W190 (Or.inr (slot_ne (Or.inl (hw _ (List.mem_of_getElem? (i := 20) rfl))) (Or.inl (hw _ (List.mem_of_getElem? (i := 55) rfl))) (by decide) (t := .int) (t' := .int) (by decide) (by decide)))).other W193 (Or.inr (slot_ne (Or.inl (hw _ (List.mem_of_getElem? (i := 20) rfl))) (Or.inl (hw _ (List.mem_of_getElem? (i := 18) rfl))) (by decide) (t := .int) (t' := .int) (by decide) (by decide))))
  obtain ⟨T196, h196, X196, e196, W196, st196⟩ := putF X193 hx hZ hown (host := "") (Or.inl (hw _ (List.mem_of_getElem? (i := 19) rfl))) Via.refl e193 f195 f194 (Or.inl (hw _ (List.mem_of_getElem? (i := 20) rfl))) (hw _ (List.mem_of_getElem? (i := 1) rfl)) (ty := .int) (by decide) rfl rfl (g := (mkF m 109 #[.val (.ref a1), .val (.ref aA), .val (.int (4 : Int32)), .val (.int (7 : Int32)), .val (.int (6 : Int32)), .val (.int (128 : Int32))] [(.int (191 : Int32)), (.ref a1)])) rfl rfl (hb hby d_prog_23_method_10_109)
  have F196 := f195.same W196
  have N196 := Fr.snoc X196 N193 g_a1
  have O196 := O193.wr W196 g_a1
  have K196 := K193.wr W196 (Or.inl (List.mem_of_getElem? (i := 0) rfl))
  have f197 := (f194.wr W196)
  have f198 := ((F190.other W193 (Or.inr (slot_ne (Or.inl (hw _ (List.mem_of_getElem? (i := 55) rfl))) (Or.inl (hw _ (List.mem_of_getElem? (i := 18) rfl))) (by decide) (t := .int) (t' := .int) (by decide) (by decide)))).other W196 (Or.inr (slot_ne (Or.inl (hw _ (List.mem_of_getElem? (i := 55) rfl))) (Or.inl (hw _ (List.mem_of_getElem? (i := 20) rfl))) (by decide) (t := .int) (t' := .int) (by decide) (by decide))))
  have f199 := ((((F181.other W186 (Or.inl n_a1_aO)).other W190 (Or.inr (slot_ne (Or.inl (hw _ (List.mem_of_getElem? (i := 57) rfl))) (Or.inl (hw _ (List.mem_of_getElem? (i := 55) rfl))) (by decide) (t := .int) (t' := .int) (by decide) (by decide)))).other W193 (Or.inr (slot_ne (Or.inl (hw _ (List.mem_of_getElem? (i := 57) rfl))) (Or.inl (hw _ (List.mem_of_getElem? (i := 18) rfl))) (by decide) (t := .int) (t' := .int) (by decide) (by decide)))).other W196 (Or.inr (slot_ne (Or.inl (hw _ (List.mem_of_getElem? (i := 57) rfl))) (Or.inl (hw _ (List.mem_of_getElem? (i := 20) rfl))) (by decide) (t := .int) (t' := .int) (by decide) (by decide))))
  have f200 := ((((((((((((((((F_taken.other W105 (Or.inr (slot_ne (Or.inl (hw _ (List.mem_of_getElem? (i := 48) rfl))) (Or.inl (hw _ (List.mem_of_getElem? (i := 70) rfl))) (by decide) (t := .long) (t' := .long) (by decide) (by decide)))).other W112 (Or.inl n_a1_aO)).other W115 (Or.inr (slot_ne (Or.inl (hw _ (List.mem_of_getElem? (i := 48) rfl))) (Or.inl (hw _ (List.mem_of_getElem? (i := 57) rfl))) (by decide) (t := .long) (t' := .int) (by decide) (by decide)))).other W124 (Or.inr (slot_ne (Or.inl (hw _ (List.mem_of_getElem? (i := 48) rfl))) (Or.inl (hw _ (List.mem_of_getElem? (i := 55) rfl))) (by decide) (t := .long) (t' := .int) (by decide) (by decide)))).other W130 (Or.inr (slot_ne (Or.inl (hw _ (List.mem_of_getElem? (i := 48) rfl))) (Or.inl (hw _ (List.mem_of_getElem? (i := 18) rfl))) (by decide) (t := .long) (t' := .int) (by decide) (by decide)))).other W136 (Or.inr (slot_ne (Or.inl (hw _ (List.mem_of_getElem? (i := 48) rfl))) (Or.inl (hw _ (List.mem_of_getElem? (i := 20) rfl))) (by decide) (t := .long) (t' := .int) (by decide) (by decide)))).other W151 (Or.inr (slot_ne (Or.inl (hw _ (List.mem_of_getElem? (i := 48) rfl))) (Or.inl (hw _ (List.mem_of_getElem? (i := 57) rfl))) (by decide) (t := .long) (t' := .int) (by decide) (by decide)))).other W156 (Or.inl n_a1_aO)).other W160 (Or.inr (slot_ne (Or.inl (hw _ (List.mem_of_getElem? (i := 48) rfl))) (Or.inl (hw _ (List.mem_of_getElem? (i := 55) rfl))) (by decide) (t := .long) (t' := .int) (by decide) (by decide)))).other W163 (Or.inr (slot_ne (Or.inl (hw _ (List.mem_of_getElem? (i := 48) rfl))) (Or.inl (hw _ (List.mem_of_getElem? (i := 18) rfl))) (by decide) (t := .long) (t' := .int) (by decide) (by decide)))).other W166 (Or.inr (slot_ne (Or.inl (hw _ (List.mem_of_getElem? (i := 48) rfl))) (Or.inl (hw _ (List.mem_of_getElem? (i := 20) rfl))) (by decide) (t := .long) (t' := .int) (by decide) (by decide)))).other W181 (Or.inr (slot_ne (Or.inl (hw _ (List.mem_of_getElem? (i := 48) rfl))) (Or.inl (hw _ (List.mem_of_getElem? (i := 57) rfl))) (by decide) (t := .long) (t' := .int) (by decide) (by decide)))).other W186 (Or.inl n_a1_aO)).other W190 (Or.inr (slot_ne (Or.inl (hw _ (List.mem_of_getElem? (i := 48) rfl))) (Or.inl (hw _ (List.mem_of_getElem? (i := 55) rfl))) (by decide) (t := .long) (t' := .int) (by decide) (by decide)))).other W193 (Or.inr (slot_ne (Or.inl (hw _ (List.mem_of_getElem? (i := 48) rfl))) (Or.inl (hw _ (List.mem_of_getElem? (i := 18) rfl))) (by decide) (t := .long) (t' := .int) (by decide) (by decide)))).other W196 (Or.inr (slot_ne (Or.inl (hw _ (List.mem_of_getElem? (i := 48) rfl))) (Or.inl (hw _ (List.mem_of_getElem? (i := 20) rfl))) (by decide) (t := .long) (t' := .int) (by decide) (by decide))))
  have f201 := ((((((((((((((((F_rule.other W105 (Or.inr (slot_ne (Or.inl (hw _ (List.mem_of_getElem? (i := 16) rfl))) (Or.inl (hw _ (List.mem_of_getElem? (i := 70) rfl))) (by decide) (t := (.object "com/example/dewey/dewey/EncodingCheck$Rule")) (t' := .long) (by decide) (by decide)))).other W112 (Or.inl n_a1_aO)).other W115 (Or.inr (slot_ne (Or.inl (hw _ (List.mem_of_getElem? (i := 16) rfl))) (Or.inl (hw _ (List.mem_of_getElem? (i := 57) rfl))) (by decide) (t := (.object "com/example/dewey/dewey/EncodingCheck$Rule")) (t' := .int) (by decide) (by decide)))).other W124 (Or.inr (slot_ne (Or.inl (hw _ (List.mem_of_getElem? (i := 16) rfl))) (Or.inl (hw _ (List.mem_of_getElem? (i := 55) rfl))) (by decide) (t := (.object "com/example/dewey/dewey/EncodingCheck$Rule")) (t' := .int) (by decide) (by decide)))).other W130 (Or.inr (slot_ne (Or.inl (hw _ (List.mem_of_getElem? (i := 16) rfl))) (Or.inl (hw _ (List.mem_of_getElem? (i := 18) rfl))) (by decide) (t := (.object "com/example/dewey/dewey/EncodingCheck$Rule")) (t' := .int) (by decide) (by decide)))).other W136 (Or.inr (slot_ne (Or.inl (hw _ (List.mem_of_getElem? (i := 16) rfl))) (Or.inl (hw _ (List.mem_of_getElem? (i := 20) rfl))) (by decide) (t := (.object "com/example/dewey/dewey/EncodingCheck$Rule")) (t' := .int) (by decide) (by decide)))).other W151 (Or.inr (slot_ne (Or.inl (hw _ (List.mem_of_getElem? (i := 16) rfl))) (Or.inl (hw _ (List.mem_of_getElem? (i := 57) rfl))) (by decide) (t := (.object "com/example/dewey/dewey/EncodingCheck$Rule")) (t' := .int) (by decide) (by decide)))).other W156 (Or.inl n_a1_aO)).other W160 (Or.inr (slot_ne (Or.inl (hw _ (List.mem_of_getElem? (i := 16) rfl))) (Or.inl (hw _ (List.mem_of_getElem? (i := 55) rfl))) (by decide) (t := (.object "com/example/dewey/dewey/EncodingCheck$Rule")) (t' := .int) (by decide) (by decide)))).other W163 (Or.inr (slot_ne (Or.inl (hw _ (List.mem_of_getElem? (i := 16) rfl))) (Or.inl (hw _ (List.mem_of_getElem? (i := 18) rfl))) (by decide) (t := (.object "com/example/dewey/dewey/EncodingCheck$Rule")) (t' := .int) (by decide) (by decide)))).other W166 (Or.inr (slot_ne (Or.inl (hw _ (List.mem_of_getElem? (i := 16) rfl))) (Or.inl (hw _ (List.mem_of_getElem? (i := 20) rfl))) (by decide) (t := (.object "com/example/dewey/dewey/EncodingCheck$Rule")) (t' := .int) (by decide) (by decide)))).other W181 (Or.inr (slot_ne (Or.inl (hw _ (List.mem_of_getElem? (i := 16) rfl))) (Or.inl (hw _ (List.mem_of_getElem? (i := 57) rfl))) (by decide) (t := (.object "com/example/dewey/dewey/EncodingCheck$Rule")) (t' := .int) (by decide) (by decide)))).other W186 (Or.inl n_a1_aO)).other W190 (Or.inr (slot_ne (Or.inl (hw _ (List.mem_of_getElem? (i := 16) rfl))) (Or.inl (hw _ (List.mem_of_getElem? (i := 55) rfl))) (by decide) (t := (.object "com/example/dewey/dewey/EncodingCheck$Rule")) (t' := .int) (by decide) (by decide)))).other W193 (Or.inr (slot_ne (Or.inl (hw _ (List.mem_of_getElem? (i := 16) rfl))) (Or.inl (hw _ (List.mem_of_getElem? (i := 18) rfl))) (by decide) (t := (.object "com/example/dewey/dewey/EncodingCheck$Rule")) (t' := .int) (by decide) (by decide)))).other W196 (Or.inr (slot_ne (Or.inl (hw _ (List.mem_of_getElem? (i := 16) rfl))) (Or.inl (hw _ (List.mem_of_getElem? (i := 20) rfl))) (by decide) (t := (.object "com/example/dewey/dewey/EncodingCheck$Rule")) (t' := .int) (by decide) (by decide))))
  obtain ⟨fs, hr, hrun, hended, hW, hsame⟩ := X196.leave (v := none) (fun _ => rfl)
  refine ⟨_, _, pre133 _ ?_, hrun, hended, _, _, rfl, ?_, ⟨_, rfl⟩, hW, hsame.mono (by decide) (by decide)⟩
  · show Steps p.tables e below (T130.setTop (mkF m 306 #[.val (.ref a1), .val (.ref aA), .val (.int (4 : Int32)), .val (.int (7 : Int32)), .val (.int (4 : Int32)), .val (.int ld)] [(.int hi), (.ref a1)])) _
    refine st136 _ ?_
    show Steps p.tables e below (T136.setTop (mkF m 309 #[.val (.ref a1), .val (.ref aA), .val (.int (4 : Int32)), .val (.int (7 : Int32)), .val (.int (4 : Int32)), .val (.int ld)] [])) _
    refine XS.goto X136.here hx rfl (pc0 := 309) (pc' := 318) rfl (hb hby d_prog_23_method_10_309) (by decide) (by decide) ?_
    refine XS.iinc X136.here hx rfl (hb hby d_prog_23_method_10_318) rfl (l' := #[.val (.ref a1), .val (.ref aA), .val (.int (4 : Int32)), .val (.int (7 : Int32)), .val (.int ((4 : Int32) + (1 : Int32))), .val (.int ld)]) rfl ?_
    show Steps p.tables e below (T136.setTop (mkF m 321 #[.val (.ref a1), .val (.ref aA), .val (.int (4 : Int32)), .val (.int (7 : Int32)), .val (.int ((4 : Int32) + (1 : Int32))), .val (.int ld)] [])) _
    rw [show ((4 : Int32) + (1 : Int32)) = (5 : Int32) from (by decide)]
    show Steps p.tables e below (T136.setTop (mkF m 321 #[.val (.ref a1), .val (.ref aA), .val (.int (4 : Int32)), .val (.int (7 : Int32)), .val (.int (5 : Int32)), .val (.int ld)] [])) _
    refine XS.goto X136.here hx rfl (pc0 := 321) (pc' := 3) rfl (hb hby d_prog_23_method_10_321) (by decide) (by decide) ?_
    refine XS.iload X136.here hx rfl (hb hby d_prog_23_method_10_3) rfl ?_
    refine XS.iloadN X136.here hx rfl (hb hby d_prog_23_method_10_5) rfl ?_
    refine XS.icmpNo X136.here hx rfl (hb hby d_prog_23_method_10_6) rfl (tlt (by decide : (5 : Int32) < (7 : Int32))).2.1 ?_
    show Steps p.tables e below (T136.setTop (mkF m 9 #[.val (.ref a1), .val (.ref aA), .val (.int (4 : Int32)), .val (.int (7 : Int32)), .val (.int (5 : Int32)), .val (.int ld)] [])) _
    refine XS.aloadN X136.here hx rfl (hb hby d_prog_23_method_10_9) rfl rfl ?_
    refine XS.iload X136.here hx rfl (hb hby d_prog_23_method_10_10) rfl ?_
    show Steps p.tables e below (T136.setTop (mkF m 12 #[.val (.ref a1), .val (.ref aA), .val (.int (4 : Int32)), .val (.int (7 : Int32)), .val (.int (5 : Int32)), .val (.int ld)] [(.int (5 : Int32)), (.ref aA)])) _
    refine X136.baloadBytes hx (j := (5 : Int32)) (v := (.int x5)) (by rw [e136]; exact Ar138.1) (State.isArrayOf_alike hZ.alike Ar138.2.1) Ar138.2.2 hin138 hat138 (g := (mkF m 12 #[.val (.ref a1), .val (.ref aA), .val (.int (4 : Int32)), .val (.int (7 : Int32)), .val (.int (5 : Int32)), .val (.int ld)] [(.int (5 : Int32)), (.ref aA)])) rfl rfl (hb hby d_prog_23_method_10_12) _ ?_
    show Steps p.tables e below (T136.setTop (mkF m 13 #[.val (.ref a1), .val (.ref aA), .val (.int (4 : Int32)), .val (.int (7 : Int32)), .val (.int (5 : Int32)), .val (.int ld)] [(.int x5)])) _
    refine XS.sipush X136.here hx rfl (hb hby d_prog_23_method_10_13) ?_
    refine XS.iand X136.here hx rfl (hb hby d_prog_23_method_10_16) rfl ?_
    show Steps p.tables e below (T136.setTop (mkF m 17 #[.val (.ref a1), .val (.ref aA), .val (.int (4 : Int32)), .val (.int (7 : Int32)), .val (.int (5 : Int32)), .val (.int ld)] [(.int (x5 &&& (255 : Int32)))])) _
    rw [show (x5 &&& (255 : Int32)) = c1 from h5]
    show Steps p.tables e below (T136.setTop (mkF m 17 #[.val (.ref a1), .val (.ref aA), .val (.int (4 : Int32)), .val (.int (7 : Int32)), .val (.int (5 : Int32)), .val (.int ld)] [(.int c1)])) _
    refine XS.istore X136.here hx rfl (hb hby d_prog_23_method_10_17) rfl (l' := #[.val (.ref a1), .val (.ref aA), .val (.int (4 : Int32)), .val (.int (7 : Int32)), .val (.int (5 : Int32)), .val (.int c1)]) rfl ?_
    refine XS.aloadN X136.here hx rfl (hb hby d_prog_23_method_10_19) rfl rfl ?_
    show Steps p.tables e below (T136.setTop (mkF m 20 #[.val (.ref a1), .val (.ref aA), .val (.int (4 : Int32)), .val (.int (7 : Int32)), .val (.int (5 : Int32)), .val (.int c1)] [(.ref a1)])) _
    refine st140 _ ?_
    show Steps p.tables e below (T140.setTop (mkF m 23 #[.val (.ref a1), .val (.ref aA), .val (.int (4 : Int32)), .val (.int (7 : Int32)), .val (.int (5 : Int32)), .val (.int c1)] [(.int (3 : Int32))])) _
    refine XS.ifNo X140.here hx rfl (hb hby d_prog_23_method_10_23) rfl ((if0 _ _).trans (tlt (by decide : (0 : Int32) < (3 : Int32))).2.2.2) ?_
    refine XS.iload X140.here hx rfl (hb hby d_prog_23_method_10_26) rfl ?_
    refine XS.aloadN X140.here hx rfl (hb hby d_prog_23_method_10_28) rfl rfl ?_
    show Steps p.tables e below (T140.setTop (mkF m 29 #[.val (.ref a1), .val (.ref aA), .val (.int (4 : Int32)), .val (.int (7 : Int32)), .val (.int (5 : Int32)), .val (.int c1)] [(.ref a1), (.int c1)])) _
    refine st142 _ ?_
    show Steps p.tables e below (T142.setTop (mkF m 32 #[.val (.ref a1), .val (.ref aA), .val (.int (4 : Int32)), .val (.int (7 : Int32)), .val (.int (5 : Int32)), .val (.int c1)] [(.int lo), (.int c1)])) _
    refine XS.icmpNo X142.here hx rfl (hb hby d_prog_23_method_10_32) rfl (flt hc143).1 ?_
    refine XS.iload X142.here hx rfl (hb hby d_prog_23_method_10_35) rfl ?_
    refine XS.aloadN X142.here hx rfl (hb hby d_prog_23_method_10_37) rfl rfl ?_
    show Steps p.tables e below (T142.setTop (mkF m 38 #[.val (.ref a1), .val (.ref aA), .val (.int (4 : Int32)), .val (.int (7 : Int32)), .val (.int (5 : Int32)), .val (.int c1)] [(.ref a1), (.int c1)])) _
    refine st144 _ ?_
    show Steps p.tables e below (T144.setTop (mkF m 41 #[.val (.ref a1), .val (.ref aA), .val (.int (4 : Int32)), .val (.int (7 : Int32)), .val (.int (5 : Int32)), .val (.int c1)] [(.int hi), (.int c1)])) _
    refine XS.icmpYes X144.here hx rfl (pc0 := 41) (pc' := 68) rfl (hb hby d_prog_23_method_10_41) rfl (flt hc145).2.2.2 (by decide) (by decide) ?_
    refine XS.aloadN X144.here hx rfl (hb hby d_prog_23_method_10_68) rfl rfl ?_
    show Steps p.tables e below (T144.setTop (mkF m 69 #[.val (.ref a1), .val (.ref aA), .val (.int (4 : Int32)), .val (.int (7 : Int32)), .val (.int (5 : Int32)), .val (.int c1)] [(.ref a1)])) _
    refine st147 _ ?_
    show Steps p.tables e below (T147.setTop (mkF m 72 #[.val (.ref a1), .val (.ref aA), .val (.int (4 : Int32)), .val (.int (7 : Int32)), .val (.int (5 : Int32)), .val (.int c1)] [(.ref aO)])) _
    refine XS.aloadN X147.here hx rfl (hb hby d_prog_23_method_10_72) rfl rfl ?_
    refine XS.dup X147.here hx rfl (hb hby d_prog_23_method_10_73) rfl rfl ?_
    show Steps p.tables e below (T147.setTop (mkF m 74 #[.val (.ref a1), .val (.ref aA), .val (.int (4 : Int32)), .val (.int (7 : Int32)), .val (.int (5 : Int32)), .val (.int c1)] [(.ref a1), (.ref a1), (.ref aO)])) _
    refine st149 _ ?_
    show Steps p.tables e below (T149.setTop (mkF m 77 #[.val (.ref a1), .val (.ref aA), .val (.int (4 : Int32)), .val (.int (7 : Int32)), .val (.int (5 : Int32)), .val (.int c1)] [(.int (1 : Int32)), (.ref a1), (.ref aO)])) _
    refine XS.dupX1 X149.here hx rfl (hb hby d_prog_23_method_10_77) rfl rfl rfl ?_
    refine XS.iconst X149.here hx rfl (hb hby d_prog_23_method_10_78) ?_
    refine XS.iadd X149.here hx rfl (hb hby d_prog_23_method_10_79) rfl ?_
    show Steps p.tables e below (T149.setTop (mkF m 80 #[.val (.ref a1), .val (.ref aA), .val (.int (4 : Int32)), .val (.int (7 : Int32)), .val (.int (5 : Int32)), .val (.int c1)] [(.int ((1 : Int32) + (1 : Int32))), (.ref a1), (.int (1 : Int32)), (.ref aO)])) _
    rw [show ((1 : Int32) + (1 : Int32)) = (2 : Int32) from (by decide)]
    show Steps p.tables e below (T149.setTop (mkF m 80 #[.val (.ref a1), .val (.ref aA), .val (.int (4 : Int32)), .val (.int (7 : Int32)), .val (.int (5 : Int32)), .val (.int c1)] [(.int (2 : Int32)), (.ref a1), (.int (1 : Int32)), (.ref aO)])) _
    refine st151 _ ?_
    show Steps p.tables e below (T151.setTop (mkF m 83 #[.val (.ref a1), .val (.ref aA), .val (.int (4 : Int32)), .val (.int (7 : Int32)), .val (.int (5 : Int32)), .val (.int c1)] [(.int (1 : Int32)), (.ref aO)])) _
    refine XS.aloadN X151.here hx rfl (hb hby d_prog_23_method_10_83) rfl rfl ?_
    refine XS.iload X151.here hx rfl (hb hby d_prog_23_method_10_84) rfl ?_
    show Steps p.tables e below (T151.setTop (mkF m 86 #[.val (.ref a1), .val (.ref aA), .val (.int (4 : Int32)), .val (.int (7 : Int32)), .val (.int (5 : Int32)), .val (.int c1)] [(.int (5 : Int32)), (.ref aA), (.int (1 : Int32)), (.ref aO)])) _
    refine X151.baloadBytes hx (j := (5 : Int32)) (v := (.int x5)) (by rw [e151]; exact Ar153.1) (State.isArrayOf_alike hZ.alike Ar153.2.1) Ar153.2.2 hin153 hat153 (g := (mkF m 86 #[.val (.ref a1), .val (.ref aA), .val (.int (4 : Int32)), .val (.int (7 : Int32)), .val (.int (5 : Int32)), .val (.int c1)] [(.int (5 : Int32)), (.ref aA), (.int (1 : Int32)), (.ref aO)])) rfl rfl (hb hby d_prog_23_method_10_86) _ ?_
    show Steps p.tables e below (T151.setTop (mkF m 87 #[.val (.ref a1), .val (.ref aA), .val (.int (4 : Int32)), .val (.int (7 : Int32)), .val (.int (5 : Int32)), .val (.int c1)] [(.int x5), (.int (1 : Int32)), (.ref aO)])) _
    refine st156 _ ?_
    show Steps p.tables e below (T156.setTop (mkF m 88 #[.val (.ref a1), .val (.ref aA), .val (.int (4 : Int32)), .val (.int (7 : Int32)), .val (.int (5 : Int32)), .val (.int c1)] [])) _
    refine XS.aloadN X156.here hx rfl (hb hby d_prog_23_method_10_88) rfl rfl ?_
    refine XS.dup X156.here hx rfl (hb hby d_prog_23_method_10_89) rfl rfl ?_
    show Steps p.tables e below (T156.setTop (mkF m 90 #[.val (.ref a1), .val (.ref aA), .val (.int (4 : Int32)), .val (.int (7 : Int32)), .val (.int (5 : Int32)), .val (.int c1)] [(.ref a1), (.ref a1)])) _
    refine st158 _ ?_
    show Steps p.tables e below (T158.setTop (mkF m 93 #[.val (.ref a1), .val (.ref aA), .val (.int (4 : Int32)), .val (.int (7 : Int32)), .val (.int (5 : Int32)), .val (.int c1)] [(.int (3 : Int32)), (.ref a1)])) _
    refine XS.iconst X158.here hx rfl (hb hby d_prog_23_method_10_93) ?_
    refine XS.isub X158.here hx rfl (hb hby d_prog_23_method_10_94) rfl ?_
    show Steps p.tables e below (T158.setTop (mkF m 95 #[.val (.ref a1), .val (.ref aA), .val (.int (4 : Int32)), .val (.int (7 : Int32)), .val (.int (5 : Int32)), .val (.int c1)] [(.int ((3 : Int32) - (1 : Int32))), (.ref a1)])) _
    rw [show ((3 : Int32) - (1 : Int32)) = (2 : Int32) from (by decide)]
    show Steps p.tables e below (T158.setTop (mkF m 95 #[.val (.ref a1), .val (.ref aA), .val (.int (4 : Int32)), .val (.int (7 : Int32)), .val (.int (5 : Int32)), .val (.int c1)] [(.int (2 : Int32)), (.ref a1)])) _
    refine st160 _ ?_
    show Steps p.tables e below (T160.setTop (mkF m 98 #[.val (.ref a1), .val (.ref aA), .val (.int (4 : Int32)), .val (.int (7 : Int32)), .val (.int (5 : Int32)), .val (.int c1)] [])) _
    refine XS.aloadN X160.here hx rfl (hb hby d_prog_23_method_10_98) rfl rfl ?_
    refine XS.sipush X160.here hx rfl (hb hby d_prog_23_method_10_99) ?_
    show Steps p.tables e below (T160.setTop (mkF m 102 #[.val (.ref a1), .val (.ref aA), .val (.int (4 : Int32)), .val (.int (7 : Int32)), .val (.int (5 : Int32)), .val (.int c1)] [(.int (128 : Int32)), (.ref a1)])) _
    refine st163 _ ?_
    show Steps p.tables e below (T163.setTop (mkF m 105 #[.val (.ref a1), .val (.ref aA), .val (.int (4 : Int32)), .val (.int (7 : Int32)), .val (.int (5 : Int32)), .val (.int c1)] [])) _
    refine XS.aloadN X163.here hx rfl (hb hby d_prog_23_method_10_105) rfl rfl ?_
    refine XS.sipush X163.here hx rfl (hb hby d_prog_23_method_10_106) ?_
    show Steps p.tables e below (T163.setTop (mkF m 109 #[.val (.ref a1), .val (.ref aA), .val (.int (4 : Int32)), .val (.int (7 : Int32)), .val (.int (5 : Int32)), .val (.int c1)] [(.int (191 : Int32)), (.ref a1)])) _
    refine st166 _ ?_
    show Steps p.tables e below (T166.setTop (mkF m 112 #[.val (.ref a1), .val (.ref aA), .val (.int (4 : Int32)), .val (.int (7 : Int32)), .val (.int (5 : Int32)), .val (.int c1)] [])) _
    refine XS.goto X166.here hx rfl (pc0 := 112) (pc' := 318) rfl (hb hby d_prog_23_method_10_112) (by decide) (by decide) ?_
    refine XS.iinc X166.here hx rfl (hb hby d_prog_23_method_10_318) rfl (l' := #[.val (.ref a1), .val (.ref aA), .val (.int (4 : Int32)), .val (.int (7 : Int32)), .val (.int ((5 : Int32) + (1 : Int32))), .val (.int c1)]) rfl ?_
    show Steps p.tables e below (T166.setTop (mkF m 321 #[.val (.ref a1), .val (.ref aA), .val (.int (4 : Int32)), .val (.int (7 : Int32)), .val (.int ((5 : Int32) + (1 : Int32))), .val (.int c1)] [])) _
    rw [show ((5 : Int32) + (1 : Int32)) = (6 : Int32) from (by decide)]
    show Steps p.tables e below (T166.setTop (mkF m 321 #[.val (.ref a1), .val (.ref aA), .val (.int (4 : Int32)), .val (.int (7 : Int32)), .val (.int (6 : Int32)), .val (.int c1)] [])) _
    refine XS.goto X166.here hx rfl (pc0 := 321) (pc' := 3) rfl (hb hby d_prog_23_method_10_321) (by decide) (by decide) ?_
    refine XS.iload X166.here hx rfl (hb hby d_prog_23_method_10_3) rfl ?_
    refine XS.iloadN X166.here hx rfl (hb hby d_prog_23_method_10_5) rfl ?_
    refine XS.icmpNo X166.here hx rfl (hb hby d_prog_23_method_10_6) rfl (tlt (by decide : (6 : Int32) < (7 : Int32))).2.1 ?_
    show Steps p.tables e below (T166.setTop (mkF m 9 #[.val (.ref a1), .val (.ref aA), .val (.int (4 : Int32)), .val (.int (7 : Int32)), .val (.int (6 : Int32)), .val (.int c1)] [])) _
    refine XS.aloadN X166.here hx rfl (hb hby d_prog_23_method_10_9) rfl rfl ?_
    refine XS.iload X166.here hx rfl (hb hby d_prog_23_method_10_10) rfl ?_
    show Steps p.tables e below (T166.setTop (mkF m 12 #[.val (.ref a1), .val (.ref aA), .val (.int (4 : Int32)), .val (.int (7 : Int32)), .val (.int (6 : Int32)), .val (.int c1)] [(.int (6 : Int32)), (.ref aA)])) _
    refine X166.baloadBytes hx (j := (6 : Int32)) (v := (.int (-128 : Int32))) (by rw [e166]; exact Ar168.1) (State.isArrayOf_alike hZ.alike Ar168.2.1) Ar168.2.2 hin168 hat168 (g := (mkF m 12 #[.val (.ref a1), .val (.ref aA), .val (.int (4 : Int32)), .val (.int (7 : Int32)), .val (.int (6 : Int32)), .val (.int c1)] [(.int (6 : Int32)), (.ref aA)])) rfl rfl (hb hby d_prog_23_method_10_12) _ ?_
    show Steps p.tables e below (T166.setTop (mkF m 13 #[.val (.ref a1), .val (.ref aA), .val (.int (4 : Int32)), .val (.int (7 : Int32)), .val (.int (6 : Int32)), .val (.int c1)] [(.int (-128 : Int32))])) _
    refine XS.sipush X166.here hx rfl (hb hby d_prog_23_method_10_13) ?_
    refine XS.iand X166.here hx rfl (hb hby d_prog_23_method_10_16) rfl ?_
    show Steps p.tables e below (T166.setTop (mkF m 17 #[.val (.ref a1), .val (.ref aA), .val (.int (4 : Int32)), .val (.int (7 : Int32)), .val (.int (6 : Int32)), .val (.int c1)] [(.int ((-128 : Int32) &&& (255 : Int32)))])) _
    rw [show ((-128 : Int32) &&& (255 : Int32)) = (128 : Int32) from (by decide)]
    show Steps p.tables e below (T166.setTop (mkF m 17 #[.val (.ref a1), .val (.ref aA), .val (.int (4 : Int32)), .val (.int (7 : Int32)), .val (.int (6 : Int32)), .val (.int c1)] [(.int (128 : Int32))])) _
    refine XS.istore X166.here hx rfl (hb hby d_prog_23_method_10_17) rfl (l' := #[.val (.ref a1), .val (.ref aA), .val (.int (4 : Int32)), .val (.int (7 : Int32)), .val (.int (6 : Int32)), .val (.int (128 : Int32))]) rfl ?_
    refine XS.aloadN X166.here hx rfl (hb hby d_prog_23_method_10_19) rfl rfl ?_
    show Steps p.tables e below (T166.setTop (mkF m 20 #[.val (.ref a1), .val (.ref aA), .val (.int (4 : Int32)), .val (.int (7 : Int32)), .val (.int (6 : Int32)), .val (.int (128 : Int32))] [(.ref a1)])) _
    refine st170 _ ?_
    show Steps p.tables e below (T170.setTop (mkF m 23 #[.val (.ref a1), .val (.ref aA), .val (.int (4 : Int32)), .val (.int (7 : Int32)), .val (.int (6 : Int32)), .val (.int (128 : Int32))] [(.int (2 : Int32))])) _
    refine XS.ifNo X170.here hx rfl (hb hby d_prog_23_method_10_23) rfl ((if0 _ _).trans (tlt (by decide : (0 : Int32) < (2 : Int32))).2.2.2) ?_
    refine XS.iload X170.here hx rfl (hb hby d_prog_23_method_10_26) rfl ?_
    refine XS.aloadN X170.here hx rfl (hb hby d_prog_23_method_10_28) rfl rfl ?_
    show Steps p.tables e below (T170.setTop (mkF m 29 #[.val (.ref a1), .val (.ref aA), .val (.int (4 : Int32)), .val (.int (7 : Int32)), .val (.int (6 : Int32)), .val (.int (128 : Int32))] [(.ref a1), (.int (128 : Int32))])) _
    refine st172 _ ?_
    show Steps p.tables e below (T172.setTop (mkF m 32 #[.val (.ref a1), .val (.ref aA), .val (.int (4 : Int32)), .val (.int (7 : Int32)), .val (.int (6 : Int32)), .val (.int (128 : Int32))] [(.int (128 : Int32)), (.int (128 : Int32))])) _
    refine XS.icmpNo X172.here hx rfl (hb hby d_prog_23_method_10_32) rfl (flt hc173).1 ?_
    refine XS.iload X172.here hx rfl (hb hby d_prog_23_method_10_35) rfl ?_
    refine XS.aloadN X172.here hx rfl (hb hby d_prog_23_method_10_37) rfl rfl ?_
    show Steps p.tables e below (T172.setTop (mkF m 38 #[.val (.ref a1), .val (.ref aA), .val (.int (4 : Int32)), .val (.int (7 : Int32)), .val (.int (6 : Int32)), .val (.int (128 : Int32))] [(.ref a1), (.int (128 : Int32))])) _
    refine st174 _ ?_
    show Steps p.tables e below (T174.setTop (mkF m 41 #[.val (.ref a1), .val (.ref aA), .val (.int (4 : Int32)), .val (.int (7 : Int32)), .val (.int (6 : Int32)), .val (.int (128 : Int32))] [(.int (191 : Int32)), (.int (128 : Int32))])) _
    refine XS.icmpYes X174.here hx rfl (pc0 := 41) (pc' := 68) rfl (hb hby d_prog_23_method_10_41) rfl (flt hc175).2.2.2 (by decide) (by decide) ?_
    refine XS.aloadN X174.here hx rfl (hb hby d_prog_23_method_10_68) rfl rfl ?_
    show Steps p.tables e below (T174.setTop (mkF m 69 #[.val (.ref a1), .val (.ref aA), .val (.int (4 : Int32)), .val (.int (7 : Int32)), .val (.int (6 : Int32)), .val (.int (128 : Int32))] [(.ref a1)])) _
    refine st177 _ ?_
    show Steps p.tables e below (T177.setTop (mkF m 72 #[.val (.ref a1), .val (.ref aA), .val (.int (4 : Int32)), .val (.int (7 : Int32)), .val (.int (6 : Int32)), .val (.int (128 : Int32))] [(.ref aO)])) _
    refine XS.aloadN X177.here hx rfl (hb hby d_prog_23_method_10_72) rfl rfl ?_
    refine XS.dup X177.here hx rfl (hb hby d_prog_23_method_10_73) rfl rfl ?_
    show Steps p.tables e below (T177.setTop (mkF m 74 #[.val (.ref a1), .val (.ref aA), .val (.int (4 : Int32)), .val (.int (7 : Int32)), .val (.int (6 : Int32)), .val (.int (128 : Int32))] [(.ref a1), (.ref a1), (.ref aO)])) _
    refine st179 _ ?_
    show Steps p.tables e below (T179.setTop (mkF m 77 #[.val (.ref a1), .val (.ref aA), .val (.int (4 : Int32)), .val (.int (7 : Int32)), .val (.int (6 : Int32)), .val (.int (128 : Int32))] [(.int (2 : Int32)), (.ref a1), (.ref aO)])) _
    refine XS.dupX1 X179.here hx rfl (hb hby d_prog_23_method_10_77) rfl rfl rfl ?_
    refine XS.iconst X179.here hx rfl (hb hby d_prog_23_method_10_78) ?_
    refine XS.iadd X179.here hx rfl (hb hby d_prog_23_method_10_79) rfl ?_
    show Steps p.tables e below (T179.setTop (mkF m 80 #[.val (.ref a1), .val (.ref aA), .val (.int (4 : Int32)), .val (.int (7 : Int32)), .val (.int (6 : Int32)), .val (.int (128 : Int32))] [(.int ((2 : Int32) + (1 : Int32))), (.ref a1), (.int (2 : Int32)), (.ref aO)])) _
    rw [show ((2 : Int32) + (1 : Int32)) = (3 : Int32) from (by decide)]
    show Steps p.tables e below (T179.setTop (mkF m 80 #[.val (.ref a1), .val (.ref aA), .val (.int (4 : Int32)), .val (.int (7 : Int32)), .val (.int (6 : Int32)), .val (.int (128 : Int32))] [(.int (3 : Int32)), (.ref a1), (.int (2 : Int32)), (.ref aO)])) _
    refine st181 _ ?_
    show Steps p.tables e below (T181.setTop (mkF m 83 #[.val (.ref a1), .val (.ref aA), .val (.int (4 : Int32)), .val (.int (7 : Int32)), .val (.int (6 : Int32)), .val (.int (128 : Int32))] [(.int (2 : Int32)), (.ref aO)])) _
    refine XS.aloadN X181.here hx rfl (hb hby d_prog_23_method_10_83) rfl rfl ?_
    refine XS.iload X181.here hx rfl (hb hby d_prog_23_method_10_84) rfl ?_
    show Steps p.tables e below (T181.setTop (mkF m 86 #[.val (.ref a1), .val (.ref aA), .val (.int (4 : Int32)), .val (.int (7 : Int32)), .val (.int (6 : Int32)), .val (.int (128 : Int32))] [(.int (6 : Int32)), (.ref aA), (.int (2 : Int32)), (.ref aO)])) _
    refine X181.baloadBytes hx (j := (6 : Int32)) (v := (.int (-128 : Int32))) (by rw [e181]; exact Ar183.1) (State.isArrayOf_alike hZ.alike Ar183.2.1) Ar183.2.2 hin183 hat183 (g := (mkF m 86 #[.val (.ref a1), .val (.ref aA), .val (.int (4 : Int32)), .val (.int (7 : Int32)), .val (.int (6 : Int32)), .val (.int (128 : Int32))] [(.int (6 : Int32)), (.ref aA), (.int (2 : Int32)), (.ref aO)])) rfl rfl (hb hby d_prog_23_method_10_86) _ ?_
    show Steps p.tables e below (T181.setTop (mkF m 87 #[.val (.ref a1), .val (.ref aA), .val (.int (4 : Int32)), .val (.int (7 : Int32)), .val (.int (6 : Int32)), .val (.int (128 : Int32))] [(.int (-128 : Int32)), (.int (2 : Int32)), (.ref aO)])) _
    refine st186 _ ?_
    show Steps p.tables e below (T186.setTop (mkF m 88 #[.val (.ref a1), .val (.ref aA), .val (.int (4 : Int32)), .val (.int (7 : Int32)), .val (.int (6 : Int32)), .val (.int (128 : Int32))] [])) _
    refine XS.aloadN X186.here hx rfl (hb hby d_prog_23_method_10_88) rfl rfl ?_
    refine XS.dup X186.here hx rfl (hb hby d_prog_23_method_10_89) rfl rfl ?_
    show Steps p.tables e below (T186.setTop (mkF m 90 #[.val (.ref a1), .val (.ref aA), .val (.int (4 : Int32)), .val (.int (7 : Int32)), .val (.int (6 : Int32)), .val (.int (128 : Int32))] [(.ref a1), (.ref a1)])) _
    refine st188 _ ?_
    show Steps p.tables e below (T188.setTop (mkF m 93 #[.val (.ref a1), .val (.ref aA), .val (.int (4 : Int32)), .val (.int (7 : Int32)), .val (.int (6 : Int32)), .val (.int (128 : Int32))] [(.int (2 : Int32)), (.ref a1)])) _
    refine XS.iconst X188.here hx rfl (hb hby d_prog_23_method_10_93) ?_
    refine XS.isub X188.here hx rfl (hb hby d_prog_23_method_10_94) rfl ?_
    show Steps p.tables e below (T188.setTop (mkF m 95 #[.val (.ref a1), .val (.ref aA), .val (.int (4 : Int32)), .val (.int (7 : Int32)), .val (.int (6 : Int32)), .val (.int (128 : Int32))] [(.int ((2 : Int32) - (1 : Int32))), (.ref a1)])) _
    rw [show ((2 : Int32) - (1 : Int32)) = (1 : Int32) from (by decide)]
    show Steps p.tables e below (T188.setTop (mkF m 95 #[.val (.ref a1), .val (.ref aA), .val (.int (4 : Int32)), .val (.int (7 : Int32)), .val (.int (6 : Int32)), .val (.int (128 : Int32))] [(.int (1 : Int32)), (.ref a1)])) _
    refine st190 _ ?_
    show Steps p.tables e below (T190.setTop (mkF m 98 #[.val (.ref a1), .val (.ref aA), .val (.int (4 : Int32)), .val (.int (7 : Int32)), .val (.int (6 : Int32)), .val (.int (128 : Int32))] [])) _
    refine XS.aloadN X190.here hx rfl (hb hby d_prog_23_method_10_98) rfl rfl ?_
    refine XS.sipush X190.here hx rfl (hb hby d_prog_23_method_10_99) ?_
    show Steps p.tables e below (T190.setTop (mkF m 102 #[.val (.ref a1), .val (.ref aA), .val (.int (4 : Int32)), .val (.int (7 : Int32)), .val (.int (6 : Int32)), .val (.int (128 : Int32))] [(.int (128 : Int32)), (.ref a1)])) _
    refine st193 _ ?_
    show Steps p.tables e below (T193.setTop (mkF m 105 #[.val (.ref a1), .val (.ref aA), .val (.int (4 : Int32)), .val (.int (7 : Int32)), .val (.int (6 : Int32)), .val (.int (128 : Int32))] [])) _
    refine XS.aloadN X193.here hx rfl (hb hby d_prog_23_method_10_105) rfl rfl ?_
    refine XS.sipush X193.here hx rfl (hb hby d_prog_23_method_10_106) ?_
    show Steps p.tables e below (T193.setTop (mkF m 109 #[.val (.ref a1), .val (.ref aA), .val (.int (4 : Int32)), .val (.int (7 : Int32)), .val (.int (6 : Int32)), .val (.int (128 : Int32))] [(.int (191 : Int32)), (.ref a1)])) _
    refine st196 _ ?_
    show Steps p.tables e below (T196.setTop (mkF m 112 #[.val (.ref a1), .val (.ref aA), .val (.int (4 : Int32)), .val (.int (7 : Int32)), .val (.int (6 : Int32)), .val (.int (128 : Int32))] [])) _
    refine XS.goto X196.here hx rfl (pc0 := 112) (pc' := 318) rfl (hb hby d_prog_23_method_10_112) (by decide) (by decide) ?_
    refine XS.iinc X196.here hx rfl (hb hby d_prog_23_method_10_318) rfl (l' := #[.val (.ref a1), .val (.ref aA), .val (.int (4 : Int32)), .val (.int (7 : Int32)), .val (.int ((6 : Int32) + (1 : Int32))), .val (.int (128 : Int32))]) rfl ?_
    show Steps p.tables e below (T196.setTop (mkF m 321 #[.val (.ref a1), .val (.ref aA), .val (.int (4 : Int32)), .val (.int (7 : Int32)), .val (.int ((6 : Int32) + (1 : Int32))), .val (.int (128 : Int32))] [])) _
    rw [show ((6 : Int32) + (1 : Int32)) = (7 : Int32) from (by decide)]
    show Steps p.tables e below (T196.setTop (mkF m 321 #[.val (.ref a1), .val (.ref aA), .val (.int (4 : Int32)), .val (.int (7 : Int32)), .val (.int (7 : Int32)), .val (.int (128 : Int32))] [])) _
    refine XS.goto X196.here hx rfl (pc0 := 321) (pc' := 3) rfl (hb hby d_prog_23_method_10_321) (by decide) (by decide) ?_
    refine XS.iload X196.here hx rfl (hb hby d_prog_23_method_10_3) rfl ?_
    refine XS.iloadN X196.here hx rfl (hb hby d_prog_23_method_10_5) rfl ?_
    refine XS.icmpYes X196.here hx rfl (pc0 := 6) (pc' := 324) rfl (hb hby d_prog_23_method_10_6) rfl (flt (by decide : ¬ ((7 : Int32) < (7 : Int32)))).2.1 (by decide) (by decide) ?_
    show Steps p.tables e below (T196.setTop (mkF m 324 #[.val (.ref a1), .val (.ref aA), .val (.int (4 : Int32)), .val (.int (7 : Int32)), .val (.int (7 : Int32)), .val (.int (128 : Int32))] [])) _
    exact X196.returnOut hx Bd.returns (hb hby d_prog_23_method_10_324) hr
  · show Q_cu2 Z a1 aA kA aO kO x4 x5 ld c1 tk uL uH uC uS rU r16 r8 rA h0 n0 _ T196.heap _
    rw [e196]
    exact ⟨_, _, rfl, N196, K196, f197, f198, f199, f200, f201⟩
def Q_cu (Z : State) (a1 : Addr) (aA : Addr) (kA : ClassId) (aO : Addr) (kO : ClassId) (x4 : Int32) (x5 : Int32) (ld : Int32) (c1 : Int32) (tk : Int64) (uL : Value) (uH : Value) (uC : Value) (uS : Value) (p3 : Int32) (rU : Addr) (r16 : Addr) (r8 : Addr) (rA : Addr) (h0 : Heap) (n0 : Nat) (v : Option Value) (h : Heap) (L : List Loc) : Prop := ∃ (u1 u2 : Value), v = none ∧ Fr n0 L ∧ Keep h0 h [a1, aO] ∧ Exa Z h a1 "com/example/dewey/dewey/EncodingCheck" ∧ Fld Z h a1 "com/example/dewey/dewey/EncodingCheck" "needed" "I" u1 ∧ Fld Z h a1 "com/example/dewey/dewey/EncodingCheck" "openCount" "I" u2 ∧ Fld Z h a1 "com/example/dewey/dewey/EncodingCheck" "taken" "J" (.long tk) ∧ Fld Z h a1 "com/example/dewey/dewey/EncodingCheck" "rule" "Lcom/example/dewey/dewey/EncodingCheck$Rule;" (.ref r8)
theorem rm_cu (l : Launch) (Z : State) (a0 : Array Value) (hw : ∀ d ∈ tables_1, d.before a0 Z = true) (ws : List Jvm.Cond) (a1 : Addr) (aA : Addr) (kA : ClassId) (aO : Addr) (kO : ClassId) (x4 : Int32) (x5 : Int32) (ld : Int32) (c1 : Int32) (tk : Int64) (uL : Value) (uH : Value) (uC : Value) (uS : Value) (p3 : Int32) (rU : Addr) (r16 : Addr) (r8 : Addr) (rA : Addr) (h0 : Heap) (n0 : Nat) (O0 : Old Z n0 h0) (SrU : Sta Z Z.heap "com/example/dewey/dewey/EncodingCheck$Rule" "UNKNOWN" "Lcom/example/dewey/dewey/EncodingCheck$Rule;" (.ref rU)) (Sr16 : Sta Z Z.heap "com/example/dewey/dewey/EncodingCheck$Rule" "UTF_16" "Lcom/example/dewey/dewey/EncodingCheck$Rule;" (.ref r16)) (Sr8 : Sta Z Z.heap "com/example/dewey/dewey/EncodingCheck$Rule" "UTF_8" "Lcom/example/dewey/dewey/EncodingCheck$Rule;" (.ref r8)) (SrA : Sta Z Z.heap "com/example/dewey/dewey/EncodingCheck$Rule" "US_ASCII" "Lcom/example/dewey/dewey/EncodingCheck$Rule;" (.ref rA)) (n_rU_r16 : rU ≠ r16) (n_rU_r8 : rU ≠ r8) (n_rU_rA : rU ≠ rA) (n_r16_r8 : r16 ≠ r8) (n_r16_rA : r16 ≠ rA) (n_r8_rA : r8 ≠ rA) (E1 : Exa Z h0 a1 "com/example/dewey/dewey/EncodingCheck") (F_needed : Fld Z h0 a1 "com/example/dewey/dewey/EncodingCheck" "needed" "I" (.int (0 : Int32))) (F_low : Fld Z h0 a1 "com/example/dewey/dewey/EncodingCheck" "low" "I" uL) (F_high : Fld Z h0 a1 "com/example/dewey/dewey/EncodingCheck" "high" "I" uH) (F_open : Fld Z h0 a1 "com/example/dewey/dewey/EncodingCheck" "open" "[B" (.ref aO)) (F_openCount : Fld Z h0 a1 "com/example/dewey/dewey/EncodingCheck" "openCount" "I" uC) (F_start : Fld Z h0 a1 "com/example/dewey/dewey/EncodingCheck" "start" "J" uS) (F_taken : Fld Z h0 a1 "com/example/dewey/dewey/EncodingCheck" "taken" "J" (.long tk)) (F_rule : Fld Z h0 a1 "com/example/dewey/dewey/EncodingCheck" "rule" "Lcom/example/dewey/dewey/EncodingCheck$Rule;" (.ref r8)) (VA : Arv Z h0 aA kA .byte (7 : Int32) [(.int (60 : Int32)), (.int (63 : Int32)), (.int (120 : Int32)), (.int (109 : Int32)), (.int x4), (.int x5), (.int (-128 : Int32))] (.int (0 : Int32))) (VO : Arv Z h0 aO kO .byte (4 : Int32) [(.int (0 : Int32)), (.int (0 : Int32)), (.int (0 : Int32)), (.int (0 : Int32))] (.int (0 : Int32))) (g_a1 : n0 ≤ a1) (g_aO : n0 ≤ aO) (n_a1_aA : a1 ≠ aA) (n_a1_aO : a1 ≠ aO) (n_aA_aO : aA ≠ aO) (h4 : (x4 &&& (255 : Int32)) = ld) (h5 : (x5 &&& (255 : Int32)) = c1) (hc1 : c1 = (if ld = (224 : Int32) then (160 : Int32) else (if ld = (240 : Int32) then (144 : Int32) else (128 : Int32)))) (hl : ¬ ld < (194 : Int32) ∧ ¬ (244 : Int32) < ld) (hp3 : p3 = 5 ∨ (p3 = 6 ∧ ¬ ld < (224 : Int32)) ∨ (p3 = 7 ∧ ¬ ld < (240 : Int32))) :
    MetFree l (⟨"com/example/dewey/dewey/EncodingCheck", "checkUtf8", "([BII)V"⟩ : MethodName) (head1 (Jvm.Cond.code (⟨"com/example/dewey/dewey/EncodingCheck", "checkUtf8", "([BII)V"⟩ : MethodName) prog_23_method_10_code 6 none :: ws) ({ frames := 0, cells := 0, slots := 0, locals := 0 } : Room)) (fun a U => a = #[(.ref a1), (.ref aA), (.int (4 : Int32)), (.int p3)] ∧ Z.Warmed39 U.vm ∧ U.heap = h0) (fun _ _ _ _ _ => True) (fun _ U o U' => ∃ v L, o = .returned v ∧ Q_cu Z a1 aA kA aO kO x4 x5 ld c1 tk uL uH uC uS p3 rU r16 r8 rA h0 n0 v U'.heap L ∧ FrameEnd U o U' L ({ frames := 0, cells := 0, slots := 0, locals := 0 } : Room).cells ({ frames := 0, cells := 0, slots := 0, locals := 0 } : Room).slots) := by
  rcases hp3 with rfl | ⟨rfl, hk⟩ | ⟨rfl, hk⟩
  · exact rm_cu0 l Z a0 hw ws a1 aA kA aO kO x4 x5 ld c1 tk uL uH uC uS rU r16 r8 rA h0 n0 O0 SrU Sr16 Sr8 SrA n_rU_r16 n_rU_r8 n_rU_rA n_r16_r8 n_r16_rA n_r8_rA E1 F_needed F_low F_high F_open F_openCount F_start F_taken F_rule VA VO g_a1 g_aO n_a1_aA n_a1_aO n_aA_aO h4 h5 hc1 hl
  · exact rm_cu1 l Z a0 hw ws a1 aA kA aO kO x4 x5 ld c1 tk uL uH uC uS rU r16 r8 rA h0 n0 O0 SrU Sr16 Sr8 SrA n_rU_r16 n_rU_r8 n_rU_rA n_r16_r8 n_r16_rA n_r8_rA E1 F_needed F_low F_high F_open F_openCount F_start F_taken F_rule VA VO g_a1 g_aO n_a1_aA n_a1_aO n_aA_aO h4 h5 hc1 hl hk
  · exact rm_cu2 l Z a0 hw ws a1 aA kA aO kO x4 x5 ld c1 tk uL uH uC uS rU r16 r8 rA h0 n0 O0 SrU Sr16 Sr8 SrA n_rU_r16 n_rU_r8 n_rU_rA n_r16_r8 n_r16_rA n_r8_rA E1 F_needed F_low F_high F_open F_openCount F_start F_taken F_rule VA VO g_a1 g_aO n_a1_aA n_a1_aO n_aA_aO h4 h5 hc1 hl hk
theorem ef_ck16 (m : MethodId) (a1 : Addr) (aA : Addr) (p2 : Int32) (p3 : Int32) : entryFrame m #[(.ref a1), (.ref aA), (.int p2), (.int p3)] 5 = mkF m 0 #[.val (.ref a1), .val (.ref aA), .val (.int p2), .val (.int p3), .unset] [] := by first | (simp [entryFrame, mkF, argsToLocals, Value.category]; done) | rfl
def Q_ck16 (Z : State) (a1 : Addr) (aA : Addr) (p2 : Int32) (p3 : Int32) (tk : Int64) (u1 : Value) (u2 : Value) (rU : Addr) (r16 : Addr) (r8 : Addr) (rA : Addr) (h0 : Heap) (n0 : Nat) (v : Option Value) (h : Heap) (L : List Loc) : Prop := v = none ∧ Fr n0 L ∧ Keep h0 h [a1] ∧ Exa Z h a1 "com/example/dewey/dewey/EncodingCheck" ∧ Fld Z h a1 "com/example/dewey/dewey/EncodingCheck" "rule" "Lcom/example/dewey/dewey/EncodingCheck$Rule;" (.ref r16) ∧ Fld Z h a1 "com/example/dewey/dewey/EncodingCheck" "taken" "J" (.long (tk + (p3 - p2).toInt64)) ∧ Fld Z h a1 "com/example/dewey/dewey/EncodingCheck" "needed" "I" u1 ∧ Fld Z h a1 "com/example/dewey/dewey/EncodingCheck" "openCount" "I" u2
set_option maxRecDepth 65536 in
set_option maxHeartbeats 40000000 in
theorem rm_ck16 (l : Launch) (Z : State) (a0 : Array Value) (hw : ∀ d ∈ tables_1, d.before a0 Z = true) (ws : List Jvm.Cond) (a1 : Addr) (aA : Addr) (p2 : Int32) (p3 : Int32) (tk : Int64) (u1 : Value) (u2 : Value) (rU : Addr) (r16 : Addr) (r8 : Addr) (rA : Addr) (h0 : Heap) (n0 : Nat) (O0 : Old Z n0 h0) (SrU : Sta Z Z.heap "com/example/dewey/dewey/EncodingCheck$Rule" "UNKNOWN" "Lcom/example/dewey/dewey/EncodingCheck$Rule;" (.ref rU)) (Sr16 : Sta Z Z.heap "com/example/dewey/dewey/EncodingCheck$Rule" "UTF_16" "Lcom/example/dewey/dewey/EncodingCheck$Rule;" (.ref r16)) (Sr8 : Sta Z Z.heap "com/example/dewey/dewey/EncodingCheck$Rule" "UTF_8" "Lcom/example/dewey/dewey/EncodingCheck$Rule;" (.ref r8)) (SrA : Sta Z Z.heap "com/example/dewey/dewey/EncodingCheck$Rule" "US_ASCII" "Lcom/example/dewey/dewey/EncodingCheck$Rule;" (.ref rA)) (n_rU_r16 : rU ≠ r16) (n_rU_r8 : rU ≠ r8) (n_rU_rA : rU ≠ rA) (n_r16_r8 : r16 ≠ r8) (n_r16_rA : r16 ≠ rA) (n_r8_rA : r8 ≠ rA) (E1 : Exa Z h0 a1 "com/example/dewey/dewey/EncodingCheck") (F_rule : Fld Z h0 a1 "com/example/dewey/dewey/EncodingCheck" "rule" "Lcom/example/dewey/dewey/EncodingCheck$Rule;" (.ref r16)) (F_taken : Fld Z h0 a1 "com/example/dewey/dewey/EncodingCheck" "taken" "J" (.long tk)) (F_needed : Fld Z h0 a1 "com/example/dewey/dewey/EncodingCheck" "needed" "I" u1) (F_openCount : Fld Z h0 a1 "com/example/dewey/dewey/EncodingCheck" "openCount" "I" u2) (g_a1 : n0 ≤ a1) :
    MetFree l (⟨"com/example/dewey/dewey/EncodingCheck", "check", "([BII)V"⟩ : MethodName) (head1 (Jvm.Cond.code (⟨"com/example/dewey/dewey/EncodingCheck", "check", "([BII)V"⟩ : MethodName) prog_23_method_9_code 5 none :: ws) ({ frames := 0, cells := 0, slots := 0, locals := 0 } : Room)) (fun a U => a = #[(.ref a1), (.ref aA), (.int p2), (.int p3)] ∧ Z.Warmed39 U.vm ∧ U.heap = h0) (fun _ _ _ _ _ => True) (fun _ U o U' => ∃ v L, o = .returned v ∧ Q_ck16 Z a1 aA p2 p3 tk u1 u2 rU r16 r8 rA h0 n0 v U'.heap L ∧ FrameEnd U o U' L ({ frames := 0, cells := 0, slots := 0, locals := 0 } : Room).cells ({ frames := 0, cells := 0, slots := 0, locals := 0 } : Room).slots) := by
  refine MetFree.of_bodySF (plainFor_of_name pn_0) hisR ?_
  intro p e s m args below meth c s₁ Bd hml0 hP hK
  obtain ⟨rfl, hZ, hh⟩ := hP
  have hx := Bd.exec
  have hby := Bd.bytes
  have hml : c.maxLocals = 5 := hml0
  have hown : s.vm.findClass "com/example/dewey/dewey/EncodingCheck" = some m.cls := findClass_of_methodNamed Bd.named
  have hnm := (name_of_methodNamed Bd.named Bd.method).1
  have X0 : Stand p l e ({ frames := 0, cells := 0, slots := 0, locals := 0 } : Room) s m #[(.ref a1), (.ref aA), (.int p2), (.int p3)] below meth c s₁ [] 0 0 := Stand.of_body Bd
  have e0 : s₁.heap = h0 := by rw [← hh, Bd.state]; rfl
  have N0 := Fr.nil n0
  have K0 : Keep h0 h0 [a1] := Keep.refl _ _
  have pre0 : ∀ t, Steps p.tables e below (s₁.setTop (mkF m 0 #[.val (.ref a1), .val (.ref aA), .val (.int p2), .val (.int p3), .unset] [])) t → Steps p.tables e below (s₁.setTop (entryFrame m #[(.ref a1), (.ref aA), (.int p2), (.int p3)] 5)) t := fun t k => castTop (ef_ck16 m a1 aA p2 p3) k
  obtain ⟨T101, X101, e101, st101⟩ := getF X0 hx hZ hown (host := "") (Or.inl (hw _ (List.mem_of_getElem? (i := 15) rfl))) Via.refl e0 F_rule (g := (mkF m 1 #[.val (.ref a1), .val (.ref aA), .val (.int p2), .val (.int p3), .unset] [(.ref a1)])) rfl rfl (hb hby d_prog_23_method_9_1)
  obtain ⟨T102, X102, e102, st102⟩ := getS2 X101 hx hZ hown (host := "") (Or.inl (hw _ (List.mem_of_getElem? (i := 43) rfl))) Via.refl e101 (Sr8.ext O0.2) (g := (mkF m 4 #[.val (.ref a1), .val (.ref aA), .val (.int p2), .val (.int p3), .unset] [(.ref r16)])) rfl (hb hby d_prog_23_method_9_4)
  obtain ⟨T103, X103, e103, st103⟩ := getF X102 hx hZ hown (host := "") (Or.inl (hw _ (List.mem_of_getElem? (i := 15) rfl))) Via.refl e102 F_rule (g := (mkF m 21 #[.val (.ref a1), .val (.ref aA), .val (.int p2), .val (.int p3), .unset] [(.ref a1)])) rfl rfl (hb hby d_prog_23_method_9_21)
  obtain ⟨T104, X104, e104, st104⟩ := getS2 X103 hx hZ hown (host := "") (Or.inl (hw _ (List.mem_of_getElem? (i := 45) rfl))) Via.refl e103 (SrA.ext O0.2) (g := (mkF m 24 #[.val (.ref a1), .val (.ref aA), .val (.int p2), .val (.int p3), .unset] [(.ref r16)])) rfl (hb hby d_prog_23_method_9_24)
  obtain ⟨T105, X105, e105, st105⟩ := getF X104 hx hZ hown (host := "") (Or.inl (hw _ (List.mem_of_getElem? (i := 47) rfl))) Via.refl e104 F_taken (g := (mkF m 85 #[.val (.ref a1), .val (.ref aA), .val (.int p2), .val (.int p3), .unset] [(.ref a1), (.ref a1)])) rfl rfl (hb hby d_prog_23_method_9_85)
  obtain ⟨T106, h106, X106, e106, W106, st106⟩ := putF X105 hx hZ hown (host := "") (Or.inl (hw _ (List.mem_of_getElem? (i := 47) rfl))) Via.refl e105 F_taken E1 (Or.inl (hw _ (List.mem_of_getElem? (i := 48) rfl))) (hw _ (List.mem_of_getElem? (i := 1) rfl)) (ty := .long) (by decide) rfl rfl (g := (mkF m 93 #[.val (.ref a1), .val (.ref aA), .val (.int p2), .val (.int p3), .unset] [(.long (tk + ((p3 - p2).toInt64))), (.ref a1)])) rfl rfl (hb hby d_prog_23_method_9_93)
  have F106 := F_taken.same W106
  have N106 := Fr.snoc X106 N0 g_a1
  have O106 := O0.wr W106 g_a1
  have K106 := K0.wr W106 (Or.inl (List.mem_of_getElem? (i := 0) rfl))
  have f107 := (E1.wr W106)
  have f108 := (F_rule.other W106 (Or.inr (slot_ne (Or.inl (hw _ (List.mem_of_getElem? (i := 16) rfl))) (Or.inl (hw _ (List.mem_of_getElem? (i := 48) rfl))) (by decide) (t := (.object "com/example/dewey/dewey/EncodingCheck$Rule")) (t' := .long) (by decide) (by decide))))
  have f109 := (F_needed.other W106 (Or.inr (slot_ne (Or.inl (hw _ (List.mem_of_getElem? (i := 55) rfl))) (Or.inl (hw _ (List.mem_of_getElem? (i := 48) rfl))) (by decide) (t := .int) (t' := .long) (by decide) (by decide))))
  have f110 := (F_openCount.other W106 (Or.inr (slot_ne (Or.inl (hw _ (List.mem_of_getElem? (i := 57) rfl))) (Or.inl (hw _ (List.mem_of_getElem? (i := 48) rfl))) (by decide) (t := .int) (t' := .long) (by decide) (by decide))))
  obtain ⟨fs, hr, hrun, hended, hW, hsame⟩ := X106.leave (v := none) (fun _ => rfl)
  refine ⟨_, _, pre0 _ ?_, hrun, hended, _, _, rfl, ?_, ⟨_, rfl⟩, hW, hsame.mono (by decide) (by decide)⟩
  · show Steps p.tables e below (s₁.setTop (mkF m 0 #[.val (.ref a1), .val (.ref aA), .val (.int p2), .val (.int p3), .unset] [])) _
    refine XS.aloadN X0.here hx rfl (hb hby d_prog_23_method_9_0) rfl rfl ?_
    show Steps p.tables e below (s₁.setTop (mkF m 1 #[.val (.ref a1), .val (.ref aA), .val (.int p2), .val (.int p3), .unset] [(.ref a1)])) _
    refine st101 _ ?_
    show Steps p.tables e below (T101.setTop (mkF m 4 #[.val (.ref a1), .val (.ref aA), .val (.int p2), .val (.int p3), .unset] [(.ref r16)])) _
    refine st102 _ ?_
    show Steps p.tables e below (T102.setTop (mkF m 7 #[.val (.ref a1), .val (.ref aA), .val (.int p2), .val (.int p3), .unset] [(.ref r8), (.ref r16)])) _
    refine Jvm.RoadKit.acmp (g := (mkF m 7 #[.val (.ref a1), .val (.ref aA), .val (.int p2), .val (.int p3), .unset] [(.ref r8), (.ref r16)])) X102 hx rfl rfl rfl (pc0 := 7) (pc' := 20) (same := false) rfl (hb hby d_prog_23_method_9_7) rfl (decide_eq_false fun q => n_r16_r8 (Value.ref.inj q)) (by decide) (by decide) ?_
    show Steps p.tables e below (T102.setTop (mkF m 20 #[.val (.ref a1), .val (.ref aA), .val (.int p2), .val (.int p3), .unset] [])) _
    refine XS.aloadN X102.here hx rfl (hb hby d_prog_23_method_9_20) rfl rfl ?_
    show Steps p.tables e below (T102.setTop (mkF m 21 #[.val (.ref a1), .val (.ref aA), .val (.int p2), .val (.int p3), .unset] [(.ref a1)])) _
    refine st103 _ ?_
    show Steps p.tables e below (T103.setTop (mkF m 24 #[.val (.ref a1), .val (.ref aA), .val (.int p2), .val (.int p3), .unset] [(.ref r16)])) _
    refine st104 _ ?_
    show Steps p.tables e below (T104.setTop (mkF m 27 #[.val (.ref a1), .val (.ref aA), .val (.int p2), .val (.int p3), .unset] [(.ref rA), (.ref r16)])) _
    refine Jvm.RoadKit.acmp (g := (mkF m 27 #[.val (.ref a1), .val (.ref aA), .val (.int p2), .val (.int p3), .unset] [(.ref rA), (.ref r16)])) X104 hx rfl rfl rfl (pc0 := 27) (pc' := 83) (same := false) rfl (hb hby d_prog_23_method_9_27) rfl (decide_eq_false fun q => n_r16_rA (Value.ref.inj q)) (by decide) (by decide) ?_
    show Steps p.tables e below (T104.setTop (mkF m 83 #[.val (.ref a1), .val (.ref aA), .val (.int p2), .val (.int p3), .unset] [])) _
    refine XS.aloadN X104.here hx rfl (hb hby d_prog_23_method_9_83) rfl rfl ?_
    refine XS.dup X104.here hx rfl (hb hby d_prog_23_method_9_84) rfl rfl ?_
    show Steps p.tables e below (T104.setTop (mkF m 85 #[.val (.ref a1), .val (.ref aA), .val (.int p2), .val (.int p3), .unset] [(.ref a1), (.ref a1)])) _
    refine st105 _ ?_
    show Steps p.tables e below (T105.setTop (mkF m 88 #[.val (.ref a1), .val (.ref aA), .val (.int p2), .val (.int p3), .unset] [(.long tk), (.ref a1)])) _
    refine XS.iloadN X105.here hx rfl (hb hby d_prog_23_method_9_88) rfl ?_
    refine XS.iloadN X105.here hx rfl (hb hby d_prog_23_method_9_89) rfl ?_
    refine XS.isub X105.here hx rfl (hb hby d_prog_23_method_9_90) rfl ?_
    refine XS.i2l X105.here hx rfl (hb hby d_prog_23_method_9_91) rfl ?_
    show Steps p.tables e below (T105.setTop (mkF m 92 #[.val (.ref a1), .val (.ref aA), .val (.int p2), .val (.int p3), .unset] [(.long ((p3 - p2).toInt64)), (.long tk), (.ref a1)])) _
    refine XS.ladd X105.here hx rfl (hb hby d_prog_23_method_9_92) rfl ?_
    show Steps p.tables e below (T105.setTop (mkF m 93 #[.val (.ref a1), .val (.ref aA), .val (.int p2), .val (.int p3), .unset] [(.long (tk + ((p3 - p2).toInt64))), (.ref a1)])) _
    refine st106 _ ?_
    show Steps p.tables e below (T106.setTop (mkF m 96 #[.val (.ref a1), .val (.ref aA), .val (.int p2), .val (.int p3), .unset] [])) _
    exact X106.returnOut hx Bd.returns (hb hby d_prog_23_method_9_96) hr
  · show Q_ck16 Z a1 aA p2 p3 tk u1 u2 rU r16 r8 rA h0 n0 _ T106.heap _
    rw [e106]
    exact ⟨rfl, N106, K106, f107, f108, F106, f109, f110⟩
theorem ef_ck8f (m : MethodId) (a1 : Addr) (aA : Addr) : entryFrame m #[(.ref a1), (.ref aA), (.int (0 : Int32)), (.int (4 : Int32))] 5 = mkF m 0 #[.val (.ref a1), .val (.ref aA), .val (.int (0 : Int32)), .val (.int (4 : Int32)), .unset] [] := by first | (simp [entryFrame, mkF, argsToLocals, Value.category]; done) | rfl
def Q_ck8f (Z : State) (a1 : Addr) (aA : Addr) (kA : ClassId) (aO : Addr) (tk : Int64) (uL : Value) (uH : Value) (uC : Value) (uS : Value) (rU : Addr) (r16 : Addr) (r8 : Addr) (rA : Addr) (h0 : Heap) (n0 : Nat) (v : Option Value) (h : Heap) (L : List Loc) : Prop := v = none ∧ Fr n0 L ∧ Keep h0 h [a1] ∧ Exa Z h a1 "com/example/dewey/dewey/EncodingCheck" ∧ Fld Z h a1 "com/example/dewey/dewey/EncodingCheck" "needed" "I" (.int (0 : Int32)) ∧ Fld Z h a1 "com/example/dewey/dewey/EncodingCheck" "low" "I" uL ∧ Fld Z h a1 "com/example/dewey/dewey/EncodingCheck" "high" "I" uH ∧ Fld Z h a1 "com/example/dewey/dewey/EncodingCheck" "open" "[B" (.ref aO) ∧ Fld Z h a1 "com/example/dewey/dewey/EncodingCheck" "openCount" "I" uC ∧ Fld Z h a1 "com/example/dewey/dewey/EncodingCheck" "start" "J" uS ∧ Fld Z h a1 "com/example/dewey/dewey/EncodingCheck" "taken" "J" (.long (tk + (4 : Int64))) ∧ Fld Z h a1 "com/example/dewey/dewey/EncodingCheck" "rule" "Lcom/example/dewey/dewey/EncodingCheck$Rule;" (.ref r8)
set_option maxRecDepth 65536 in
set_option maxHeartbeats 40000000 in
theorem rm_ck8f (l : Launch) (Z : State) (a0 : Array Value) (hw : ∀ d ∈ tables_1, d.before a0 Z = true) (ws : List Jvm.Cond) (a1 : Addr) (aA : Addr) (kA : ClassId) (aO : Addr) (tk : Int64) (uL : Value) (uH : Value) (uC : Value) (uS : Value) (rU : Addr) (r16 : Addr) (r8 : Addr) (rA : Addr) (h0 : Heap) (n0 : Nat) (O0 : Old Z n0 h0) (SrU : Sta Z Z.heap "com/example/dewey/dewey/EncodingCheck$Rule" "UNKNOWN" "Lcom/example/dewey/dewey/EncodingCheck$Rule;" (.ref rU)) (Sr16 : Sta Z Z.heap "com/example/dewey/dewey/EncodingCheck$Rule" "UTF_16" "Lcom/example/dewey/dewey/EncodingCheck$Rule;" (.ref r16)) (Sr8 : Sta Z Z.heap "com/example/dewey/dewey/EncodingCheck$Rule" "UTF_8" "Lcom/example/dewey/dewey/EncodingCheck$Rule;" (.ref r8)) (SrA : Sta Z Z.heap "com/example/dewey/dewey/EncodingCheck$Rule" "US_ASCII" "Lcom/example/dewey/dewey/EncodingCheck$Rule;" (.ref rA)) (n_rU_r16 : rU ≠ r16) (n_rU_r8 : rU ≠ r8) (n_rU_rA : rU ≠ rA) (n_r16_r8 : r16 ≠ r8) (n_r16_rA : r16 ≠ rA) (n_r8_rA : r8 ≠ rA) (E1 : Exa Z h0 a1 "com/example/dewey/dewey/EncodingCheck") (F_needed : Fld Z h0 a1 "com/example/dewey/dewey/EncodingCheck" "needed" "I" (.int (0 : Int32))) (F_low : Fld Z h0 a1 "com/example/dewey/dewey/EncodingCheck" "low" "I" uL) (F_high : Fld Z h0 a1 "com/example/dewey/dewey/EncodingCheck" "high" "I" uH) (F_open : Fld Z h0 a1 "com/example/dewey/dewey/EncodingCheck" "open" "[B" (.ref aO)) (F_openCount : Fld Z h0 a1 "com/example/dewey/dewey/EncodingCheck" "openCount" "I" uC) (F_start : Fld Z h0 a1 "com/example/dewey/dewey/EncodingCheck" "start" "J" uS) (F_taken : Fld Z h0 a1 "com/example/dewey/dewey/EncodingCheck" "taken" "J" (.long tk)) (F_rule : Fld Z h0 a1 "com/example/dewey/dewey/EncodingCheck" "rule" "Lcom/example/dewey/dewey/EncodingCheck$Rule;" (.ref r8)) (VA : Arv Z h0 aA kA .byte (4 : Int32) [(.int (60 : Int32)), (.int (63 : Int32)), (.int (120 : Int32)), (.int (109 : Int32))] (.int (0 : Int32))) (g_a1 : n0 ≤ a1) :
    MetFree l (⟨"com/example/dewey/dewey/EncodingCheck", "check", "([BII)V"⟩ : MethodName) (head1 (Jvm.Cond.code (⟨"com/example/dewey/dewey/EncodingCheck", "check", "([BII)V"⟩ : MethodName) prog_23_method_9_code 5 none :: ws) ({ frames := 1, cells := 0, slots := 0, locals := 17 } : Room)) (fun a U => a = #[(.ref a1), (.ref aA), (.int (0 : Int32)), (.int (4 : Int32))] ∧ Z.Warmed39 U.vm ∧ U.heap = h0) (fun _ _ _ _ _ => True) (fun _ U o U' => ∃ v L, o = .returned v ∧ Q_ck8f Z a1 aA kA aO tk uL uH uC uS rU r16 r8 rA h0 n0 v U'.heap L ∧ FrameEnd U o U' L ({ frames := 1, cells := 0, slots := 0, locals := 17 } : Room).cells ({ frames := 1, cells := 0, slots := 0, locals := 17 } : Room).slots) := by
  refine MetFree.of_bodySF (plainFor_of_name pn_0) hisR ?_
  intro p e s m args below meth c s₁ Bd hml0 hP hK
  obtain ⟨rfl, hZ, hh⟩ := hP
  have hx := Bd.exec
  have hby := Bd.bytes
  have hml : c.maxLocals = 5 := hml0
  have hown : s.vm.findClass "com/example/dewey/dewey/EncodingCheck" = some m.cls := findClass_of_methodNamed Bd.named
  have hnm := (name_of_methodNamed Bd.named Bd.method).1
  have X0 : Stand p l e ({ frames := 1, cells := 0, slots := 0, locals := 17 } : Room) s m #[(.ref a1), (.ref aA), (.int (0 : Int32)), (.int (4 : Int32))] below meth c s₁ [] 0 0 := Stand.of_body Bd
  have e0 : s₁.heap = h0 := by rw [← hh, Bd.state]; rfl
  have N0 := Fr.nil n0
  have K0 : Keep h0 h0 [a1] := Keep.refl _ _
  have pre0 : ∀ t, Steps p.tables e below (s₁.setTop (mkF m 0 #[.val (.ref a1), .val (.ref aA), .val (.int (0 : Int32)), .val (.int (4 : Int32)), .unset] [])) t → Steps p.tables e below (s₁.setTop (entryFrame m #[(.ref a1), (.ref aA), (.int (0 : Int32)), (.int (4 : Int32))] 5)) t := fun t k => castTop (ef_ck8f m a1 aA) k
  obtain ⟨T101, X101, e101, st101⟩ := getF X0 hx hZ hown (host := "") (Or.inl (hw _ (List.mem_of_getElem? (i := 15) rfl))) Via.refl e0 F_rule (g := (mkF m 1 #[.val (.ref a1), .val (.ref aA), .val (.int (0 : Int32)), .val (.int (4 : Int32)), .unset] [(.ref a1)])) rfl rfl (hb hby d_prog_23_method_9_1)
  obtain ⟨T102, X102, e102, st102⟩ := getS2 X101 hx hZ hown (host := "") (Or.inl (hw _ (List.mem_of_getElem? (i := 43) rfl))) Via.refl e101 (Sr8.ext O0.2) (g := (mkF m 4 #[.val (.ref a1), .val (.ref aA), .val (.int (0 : Int32)), .val (.int (4 : Int32)), .unset] [(.ref r8)])) rfl (hb hby d_prog_23_method_9_4)
  obtain ⟨cq103, q103, q103'⟩ := E1.cell
  obtain ⟨_, _, ⟨T103, L103, k103, n103⟩, -, X103, ⟨Lc103, hQ103, l103, y103, z103⟩, st103⟩ := X102.privateBack hx (y := (⟨"com/example/dewey/dewey/EncodingCheck", "checkUtf8", "([BII)V"⟩ : MethodName)) hown (mvT hZ (hw _ (List.mem_of_getElem? (i := 65) rfl))) (mvT hZ (hw _ (List.mem_of_getElem? (i := 66) rfl))) (own_selP (y := (⟨"com/example/dewey/dewey/EncodingCheck", "checkUtf8", "([BII)V"⟩ : MethodName)) hZ (hw _ (List.mem_of_getElem? (i := 1) rfl)) (hw _ (List.mem_of_getElem? (i := 67) rfl)) (hw _ (List.mem_of_getElem? (i := 66) rfl)) (by decide)) (Cond.privateMethod_at (mvP hZ (hw _ (List.mem_of_getElem? (i := 67) rfl)) (args := #[]))) (mvT hZ (hw _ (List.mem_of_getElem? (i := 68) rfl))) (by decide) (backOf (W := 0) (rm_cuf l Z a0 hw [] a1 aA kA rU r16 r8 rA h0 n0 O0 SrU Sr16 Sr8 SrA n_rU_r16 n_rU_r8 n_rU_rA n_r16_r8 n_r16_rA n_r8_rA E1 F_needed VA) hZ (hw _ (List.mem_of_getElem? (i := 68) rfl)) (hw _ (List.mem_of_getElem? (i := 2) rfl)) (by decide) (by decide)) (g := (mkF m 14 #[.val (.ref a1), .val (.ref aA), .val (.int (0 : Int32)), .val (.int (4 : Int32)), .unset] [(.int (4 : Int32)), (.int (0 : Int32)), (.ref aA), (.ref a1)])) rfl (by rw [hml]; rfl) (Steps.refl _) (a := a1) (by rw [e102]; exact q103) q103' (argsL := [(.ref aA), (.int (0 : Int32)), (.int (4 : Int32))]) (rest := []) (lenOf pd_0 rfl) rfl (by show 2 * 0 + _ ≤ _; exact Nat.le_of_eq rfl) (hb hby d_prog_23_method_9_14) (fun _ _ => ⟨rfl, e102, (by decide : 0 + 0 ≤ _), (by decide : 0 + 0 ≤ _)⟩)
  dsimp only [Pt.U, Pt.locs, Pt.cells, Pt.slots] at X103 l103 y103 z103 st103 hQ103
  subst l103 y103 z103
  obtain ⟨rfl, Nq103, e103⟩ := hQ103
  have N103 := Fr.app N0 Nq103
  obtain ⟨T104, X104, e104, st104⟩ := getF X103 hx hZ hown (host := "") (Or.inl (hw _ (List.mem_of_getElem? (i := 47) rfl))) Via.refl e103 F_taken (g := (mkF m 85 #[.val (.ref a1), .val (.ref aA), .val (.int (0 : Int32)), .val (.int (4 : Int32)), .unset] [(.ref a1), (.ref a1)])) rfl rfl (hb hby d_prog_23_method_9_85)
  obtain ⟨T105, h105, X105, e105, W105, st105⟩ := putF X104 hx hZ hown (host := "") (Or.inl (hw _ (List.mem_of_getElem? (i := 47) rfl))) Via.refl e104 F_taken E1 (Or.inl (hw _ (List.mem_of_getElem? (i := 48) rfl))) (hw _ (List.mem_of_getElem? (i := 1) rfl)) (ty := .long) (by decide) rfl rfl (g := (mkF m 93 #[.val (.ref a1), .val (.ref aA), .val (.int (0 : Int32)), .val (.int (4 : Int32)), .unset] [(.long (tk + (4 : Int64))), (.ref a1)])) rfl rfl (hb hby d_prog_23_method_9_93)
  have F105 := F_taken.same W105
  have N105 := Fr.snoc X105 N103 g_a1
  have O105 := O0.wr W105 g_a1
  have K105 := K0.wr W105 (Or.inl (List.mem_of_getElem? (i := 0) rfl))
  have f106 := (E1.wr W105)
  have f107 := (F_needed.other W105 (Or.inr (slot_ne (Or.inl (hw _ (List.mem_of_getElem? (i := 55) rfl))) (Or.inl (hw _ (List.mem_of_getElem? (i := 48) rfl))) (by decide) (t := .int) (t' := .long) (by decide) (by decide))))
  have f108 := (F_low.other W105 (Or.inr (slot_ne (Or.inl (hw _ (List.mem_of_getElem? (i := 18) rfl))) (Or.inl (hw _ (List.mem_of_getElem? (i := 48) rfl))) (by decide) (t := .int) (t' := .long) (by decide) (by decide))))
  have f109 := (F_high.other W105 (Or.inr (slot_ne (Or.inl (hw _ (List.mem_of_getElem? (i := 20) rfl))) (Or.inl (hw _ (List.mem_of_getElem? (i := 48) rfl))) (by decide) (t := .int) (t' := .long) (by decide) (by decide))))
  have f110 := (F_open.other W105 (Or.inr (slot_ne (Or.inr (hw _ (List.mem_of_getElem? (i := 22) rfl))) (Or.inl (hw _ (List.mem_of_getElem? (i := 48) rfl))) (by decide) (t := (.array .byte)) (t' := .long) (by decide) (by decide))))
  have f111 := (F_openCount.other W105 (Or.inr (slot_ne (Or.inl (hw _ (List.mem_of_getElem? (i := 57) rfl))) (Or.inl (hw _ (List.mem_of_getElem? (i := 48) rfl))) (by decide) (t := .int) (t' := .long) (by decide) (by decide))))
  have f112 := (F_start.other W105 (Or.inr (slot_ne (Or.inl (hw _ (List.mem_of_getElem? (i := 70) rfl))) (Or.inl (hw _ (List.mem_of_getElem? (i := 48) rfl))) (by decide) (t := .long) (t' := .long) (by decide) (by decide))))
  have f113 := (F_rule.other W105 (Or.inr (slot_ne (Or.inl (hw _ (List.mem_of_getElem? (i := 16) rfl))) (Or.inl (hw _ (List.mem_of_getElem? (i := 48) rfl))) (by decide) (t := (.object "com/example/dewey/dewey/EncodingCheck$Rule")) (t' := .long) (by decide) (by decide))))
  obtain ⟨fs, hr, hrun, hended, hW, hsame⟩ := X105.leave (v := none) (fun _ => rfl)
  refine ⟨_, _, pre0 _ ?_, hrun, hended, _, _, rfl, ?_, ⟨_, rfl⟩, hW, hsame.mono (by decide) (by decide)⟩
  · show Steps p.tables e below (s₁.setTop (mkF m 0 #[.val (.ref a1), .val (.ref aA), .val (.int (0 : Int32)), .val (.int (4 : Int32)), .unset] [])) _
    refine XS.aloadN X0.here hx rfl (hb hby d_prog_23_method_9_0) rfl rfl ?_
    show Steps p.tables e below (s₁.setTop (mkF m 1 #[.val (.ref a1), .val (.ref aA), .val (.int (0 : Int32)), .val (.int (4 : Int32)), .unset] [(.ref a1)])) _
    refine st101 _ ?_
    show Steps p.tables e below (T101.setTop (mkF m 4 #[.val (.ref a1), .val (.ref aA), .val (.int (0 : Int32)), .val (.int (4 : Int32)), .unset] [(.ref r8)])) _
    refine st102 _ ?_
    show Steps p.tables e below (T102.setTop (mkF m 7 #[.val (.ref a1), .val (.ref aA), .val (.int (0 : Int32)), .val (.int (4 : Int32)), .unset] [(.ref r8), (.ref r8)])) _
    refine Jvm.RoadKit.acmp (g := (mkF m 7 #[.val (.ref a1), .val (.ref aA), .val (.int (0 : Int32)), .val (.int (4 : Int32)), .unset] [(.ref r8), (.ref r8)])) X102 hx rfl rfl rfl (pc0 := 7) (pc' := 10) (same := true) rfl (hb hby d_prog_23_method_9_7) rfl (decide_eq_true rfl) (by decide) (by decide) ?_
    show Steps p.tables e below (T102.setTop (mkF m 10 #[.val (.ref a1), .val (.ref aA), .val (.int (0 : Int32)), .val (.int (4 : Int32)), .unset] [])) _
    refine XS.aloadN X102.here hx rfl (hb hby d_prog_23_method_9_10) rfl rfl ?_
    refine XS.aloadN X102.here hx rfl (hb hby d_prog_23_method_9_11) rfl rfl ?_
    refine XS.iloadN X102.here hx rfl (hb hby d_prog_23_method_9_12) rfl ?_
    refine XS.iloadN X102.here hx rfl (hb hby d_prog_23_method_9_13) rfl ?_
    show Steps p.tables e below (T102.setTop (mkF m 14 #[.val (.ref a1), .val (.ref aA), .val (.int (0 : Int32)), .val (.int (4 : Int32)), .unset] [(.int (4 : Int32)), (.int (0 : Int32)), (.ref aA), (.ref a1)])) _
    refine st103.trans ?_
    show Steps p.tables e below (T103.setTop (mkF m 17 #[.val (.ref a1), .val (.ref aA), .val (.int (0 : Int32)), .val (.int (4 : Int32)), .unset] [])) _
    refine XS.goto X103.here hx rfl (pc0 := 17) (pc' := 83) rfl (hb hby d_prog_23_method_9_17) (by decide) (by decide) ?_
    refine XS.aloadN X103.here hx rfl (hb hby d_prog_23_method_9_83) rfl rfl ?_
    refine XS.dup X103.here hx rfl (hb hby d_prog_23_method_9_84) rfl rfl ?_
    show Steps p.tables e below (T103.setTop (mkF m 85 #[.val (.ref a1), .val (.ref aA), .val (.int (0 : Int32)), .val (.int (4 : Int32)), .unset] [(.ref a1), (.ref a1)])) _
    refine st104 _ ?_
    show Steps p.tables e below (T104.setTop (mkF m 88 #[.val (.ref a1), .val (.ref aA), .val (.int (0 : Int32)), .val (.int (4 : Int32)), .unset] [(.long tk), (.ref a1)])) _
    refine XS.iloadN X104.here hx rfl (hb hby d_prog_23_method_9_88) rfl ?_
    refine XS.iloadN X104.here hx rfl (hb hby d_prog_23_method_9_89) rfl ?_
    refine XS.isub X104.here hx rfl (hb hby d_prog_23_method_9_90) rfl ?_
    show Steps p.tables e below (T104.setTop (mkF m 91 #[.val (.ref a1), .val (.ref aA), .val (.int (0 : Int32)), .val (.int (4 : Int32)), .unset] [(.int ((4 : Int32) - (0 : Int32))), (.long tk), (.ref a1)])) _
    rw [show ((4 : Int32) - (0 : Int32)) = (4 : Int32) from (by decide)]
    show Steps p.tables e below (T104.setTop (mkF m 91 #[.val (.ref a1), .val (.ref aA), .val (.int (0 : Int32)), .val (.int (4 : Int32)), .unset] [(.int (4 : Int32)), (.long tk), (.ref a1)])) _
    refine XS.i2l X104.here hx rfl (hb hby d_prog_23_method_9_91) rfl ?_
    show Steps p.tables e below (T104.setTop (mkF m 92 #[.val (.ref a1), .val (.ref aA), .val (.int (0 : Int32)), .val (.int (4 : Int32)), .unset] [(.long ((4 : Int32).toInt64)), (.long tk), (.ref a1)])) _
    rw [show ((4 : Int32).toInt64) = (4 : Int64) from (by decide)]
    show Steps p.tables e below (T104.setTop (mkF m 92 #[.val (.ref a1), .val (.ref aA), .val (.int (0 : Int32)), .val (.int (4 : Int32)), .unset] [(.long (4 : Int64)), (.long tk), (.ref a1)])) _
    refine XS.ladd X104.here hx rfl (hb hby d_prog_23_method_9_92) rfl ?_
    show Steps p.tables e below (T104.setTop (mkF m 93 #[.val (.ref a1), .val (.ref aA), .val (.int (0 : Int32)), .val (.int (4 : Int32)), .unset] [(.long (tk + (4 : Int64))), (.ref a1)])) _
    refine st105 _ ?_
    show Steps p.tables e below (T105.setTop (mkF m 96 #[.val (.ref a1), .val (.ref aA), .val (.int (0 : Int32)), .val (.int (4 : Int32)), .unset] [])) _
    exact X105.returnOut hx Bd.returns (hb hby d_prog_23_method_9_96) hr
  · show Q_ck8f Z a1 aA kA aO tk uL uH uC uS rU r16 r8 rA h0 n0 _ T105.heap _
    rw [e105]
    exact ⟨rfl, N105, K105, f106, f107, f108, f109, f110, f111, f112, F105, f113⟩
theorem ef_ck8t (m : MethodId) (a1 : Addr) (aA : Addr) : entryFrame m #[(.ref a1), (.ref aA), (.int (0 : Int32)), (.int (1 : Int32))] 5 = mkF m 0 #[.val (.ref a1), .val (.ref aA), .val (.int (0 : Int32)), .val (.int (1 : Int32)), .unset] [] := by first | (simp [entryFrame, mkF, argsToLocals, Value.category]; done) | rfl
def Q_ck8t (Z : State) (a1 : Addr) (aA : Addr) (kA : ClassId) (x0 : Int32) (tk : Int64) (rU : Addr) (r16 : Addr) (r8 : Addr) (rA : Addr) (h0 : Heap) (n0 : Nat) (v : Option Value) (h : Heap) (L : List Loc) : Prop := v = none ∧ Fr n0 L ∧ Keep h0 h [a1] ∧ Exa Z h a1 "com/example/dewey/dewey/EncodingCheck" ∧ Fld Z h a1 "com/example/dewey/dewey/EncodingCheck" "needed" "I" (.int (0 : Int32)) ∧ Fld Z h a1 "com/example/dewey/dewey/EncodingCheck" "rule" "Lcom/example/dewey/dewey/EncodingCheck$Rule;" (.ref r8)
set_option maxRecDepth 65536 in
set_option maxHeartbeats 40000000 in
theorem rm_ck8t (l : Launch) (Z : State) (a0 : Array Value) (hw : ∀ d ∈ tables_1, d.before a0 Z = true) (ws : List Jvm.Cond) (a1 : Addr) (aA : Addr) (kA : ClassId) (x0 : Int32) (tk : Int64) (rU : Addr) (r16 : Addr) (r8 : Addr) (rA : Addr) (h0 : Heap) (n0 : Nat) (O0 : Old Z n0 h0) (SrU : Sta Z Z.heap "com/example/dewey/dewey/EncodingCheck$Rule" "UNKNOWN" "Lcom/example/dewey/dewey/EncodingCheck$Rule;" (.ref rU)) (Sr16 : Sta Z Z.heap "com/example/dewey/dewey/EncodingCheck$Rule" "UTF_16" "Lcom/example/dewey/dewey/EncodingCheck$Rule;" (.ref r16)) (Sr8 : Sta Z Z.heap "com/example/dewey/dewey/EncodingCheck$Rule" "UTF_8" "Lcom/example/dewey/dewey/EncodingCheck$Rule;" (.ref r8)) (SrA : Sta Z Z.heap "com/example/dewey/dewey/EncodingCheck$Rule" "US_ASCII" "Lcom/example/dewey/dewey/EncodingCheck$Rule;" (.ref rA)) (n_rU_r16 : rU ≠ r16) (n_rU_r8 : rU ≠ r8) (n_rU_rA : rU ≠ rA) (n_r16_r8 : r16 ≠ r8) (n_r16_rA : r16 ≠ rA) (n_r8_rA : r8 ≠ rA) (E1 : Exa Z h0 a1 "com/example/dewey/dewey/EncodingCheck") (F_needed : Fld Z h0 a1 "com/example/dewey/dewey/EncodingCheck" "needed" "I" (.int (0 : Int32))) (F_taken : Fld Z h0 a1 "com/example/dewey/dewey/EncodingCheck" "taken" "J" (.long tk)) (F_rule : Fld Z h0 a1 "com/example/dewey/dewey/EncodingCheck" "rule" "Lcom/example/dewey/dewey/EncodingCheck$Rule;" (.ref r8)) (VA : Arv Z h0 aA kA .byte (1 : Int32) [(.int x0)] (.int (0 : Int32))) (g_a1 : n0 ≤ a1) (hxb : (x0 &&& (255 : Int32)) < (128 : Int32)) :
    MetFree l (⟨"com/example/dewey/dewey/EncodingCheck", "check", "([BII)V"⟩ : MethodName) (head1 (Jvm.Cond.code (⟨"com/example/dewey/dewey/EncodingCheck", "check", "([BII)V"⟩ : MethodName) prog_23_method_9_code 5 none :: ws) ({ frames := 1, cells := 0, slots := 0, locals := 17 } : Room)) (fun a U => a = #[(.ref a1), (.ref aA), (.int (0 : Int32)), (.int (1 : Int32))] ∧ Z.Warmed39 U.vm ∧ U.heap = h0) (fun _ _ _ _ _ => True) (fun _ U o U' => ∃ v L, o = .returned v ∧ Q_ck8t Z a1 aA kA x0 tk rU r16 r8 rA h0 n0 v U'.heap L ∧ FrameEnd U o U' L ({ frames := 1, cells := 0, slots := 0, locals := 17 } : Room).cells ({ frames := 1, cells := 0, slots := 0, locals := 17 } : Room).slots) := by
  refine MetFree.of_bodySF (plainFor_of_name pn_0) hisR ?_
  intro p e s m args below meth c s₁ Bd hml0 hP hK
  obtain ⟨rfl, hZ, hh⟩ := hP
  have hx := Bd.exec
  have hby := Bd.bytes
  have hml : c.maxLocals = 5 := hml0
  have hown : s.vm.findClass "com/example/dewey/dewey/EncodingCheck" = some m.cls := findClass_of_methodNamed Bd.named
  have hnm := (name_of_methodNamed Bd.named Bd.method).1
  have X0 : Stand p l e ({ frames := 1, cells := 0, slots := 0, locals := 17 } : Room) s m #[(.ref a1), (.ref aA), (.int (0 : Int32)), (.int (1 : Int32))] below meth c s₁ [] 0 0 := Stand.of_body Bd
  have e0 : s₁.heap = h0 := by rw [← hh, Bd.state]; rfl
  have N0 := Fr.nil n0
  have K0 : Keep h0 h0 [a1] := Keep.refl _ _
  have pre0 : ∀ t, Steps p.tables e below (s₁.setTop (mkF m 0 #[.val (.ref a1), .val (.ref aA), .val (.int (0 : Int32)), .val (.int (1 : Int32)), .unset] [])) t → Steps p.tables e below (s₁.setTop (entryFrame m #[(.ref a1), (.ref aA), (.int (0 : Int32)), (.int (1 : Int32))] 5)) t := fun t k => castTop (ef_ck8t m a1 aA) k
  obtain ⟨T101, X101, e101, st101⟩ := getF X0 hx hZ hown (host := "") (Or.inl (hw _ (List.mem_of_getElem? (i := 15) rfl))) Via.refl e0 F_rule (g := (mkF m 1 #[.val (.ref a1), .val (.ref aA), .val (.int (0 : Int32)), .val (.int (1 : Int32)), .unset] [(.ref a1)])) rfl rfl (hb hby d_prog_23_method_9_1)
  obtain ⟨T102, X102, e102, st102⟩ := getS2 X101 hx hZ hown (host := "") (Or.inl (hw _ (List.mem_of_getElem? (i := 43) rfl))) Via.refl e101 (Sr8.ext O0.2) (g := (mkF m 4 #[.val (.ref a1), .val (.ref aA), .val (.int (0 : Int32)), .val (.int (1 : Int32)), .unset] [(.ref r8)])) rfl (hb hby d_prog_23_method_9_4)
  obtain ⟨cq103, q103, q103'⟩ := E1.cell
  obtain ⟨_, _, ⟨T103, L103, k103, n103⟩, -, X103, ⟨Lc103, hQ103, l103, y103, z103⟩, st103⟩ := X102.privateBack hx (y := (⟨"com/example/dewey/dewey/EncodingCheck", "checkUtf8", "([BII)V"⟩ : MethodName)) hown (mvT hZ (hw _ (List.mem_of_getElem? (i := 65) rfl))) (mvT hZ (hw _ (List.mem_of_getElem? (i := 66) rfl))) (own_selP (y := (⟨"com/example/dewey/dewey/EncodingCheck", "checkUtf8", "([BII)V"⟩ : MethodName)) hZ (hw _ (List.mem_of_getElem? (i := 1) rfl)) (hw _ (List.mem_of_getElem? (i := 67) rfl)) (hw _ (List.mem_of_getElem? (i := 66) rfl)) (by decide)) (Cond.privateMethod_at (mvP hZ (hw _ (List.mem_of_getElem? (i := 67) rfl)) (args := #[]))) (mvT hZ (hw _ (List.mem_of_getElem? (i := 68) rfl))) (by decide) (backOf (W := 0) (rm_cut l Z a0 hw [] a1 aA kA x0 rU r16 r8 rA h0 n0 O0 SrU Sr16 Sr8 SrA n_rU_r16 n_rU_r8 n_rU_rA n_r16_r8 n_r16_rA n_r8_rA E1 F_needed VA hxb) hZ (hw _ (List.mem_of_getElem? (i := 68) rfl)) (hw _ (List.mem_of_getElem? (i := 2) rfl)) (by decide) (by decide)) (g := (mkF m 14 #[.val (.ref a1), .val (.ref aA), .val (.int (0 : Int32)), .val (.int (1 : Int32)), .unset] [(.int (1 : Int32)), (.int (0 : Int32)), (.ref aA), (.ref a1)])) rfl (by rw [hml]; rfl) (Steps.refl _) (a := a1) (by rw [e102]; exact q103) q103' (argsL := [(.ref aA), (.int (0 : Int32)), (.int (1 : Int32))]) (rest := []) (lenOf pd_0 rfl) rfl (by show 2 * 0 + _ ≤ _; exact Nat.le_of_eq rfl) (hb hby d_prog_23_method_9_14) (fun _ _ => ⟨rfl, e102, (by decide : 0 + 0 ≤ _), (by decide : 0 + 0 ≤ _)⟩)
  dsimp only [Pt.U, Pt.locs, Pt.cells, Pt.slots] at X103 l103 y103 z103 st103 hQ103
  subst l103 y103 z103
  obtain ⟨rfl, Nq103, e103⟩ := hQ103
  have N103 := Fr.app N0 Nq103
  obtain ⟨T104, X104, e104, st104⟩ := getF X103 hx hZ hown (host := "") (Or.inl (hw _ (List.mem_of_getElem? (i := 47) rfl))) Via.refl e103 F_taken (g := (mkF m 85 #[.val (.ref a1), .val (.ref aA), .val (.int (0 : Int32)), .val (.int (1 : Int32)), .unset] [(.ref a1), (.ref a1)])) rfl rfl (hb hby d_prog_23_method_9_85)
  obtain ⟨T105, h105, X105, e105, W105, st105⟩ := putF X104 hx hZ hown (host := "") (Or.inl (hw _ (List.mem_of_getElem? (i := 47) rfl))) Via.refl e104 F_taken E1 (Or.inl (hw _ (List.mem_of_getElem? (i := 48) rfl))) (hw _ (List.mem_of_getElem? (i := 1) rfl)) (ty := .long) (by decide) rfl rfl (g := (mkF m 93 #[.val (.ref a1), .val (.ref aA), .val (.int (0 : Int32)), .val (.int (1 : Int32)), .unset] [(.long (tk + (1 : Int64))), (.ref a1)])) rfl rfl (hb hby d_prog_23_method_9_93)
  have F105 := F_taken.same W105
  have N105 := Fr.snoc X105 N103 g_a1
  have O105 := O0.wr W105 g_a1
  have K105 := K0.wr W105 (Or.inl (List.mem_of_getElem? (i := 0) rfl))
  have f106 := (E1.wr W105)
  have f107 := (F_needed.other W105 (Or.inr (slot_ne (Or.inl (hw _ (List.mem_of_getElem? (i := 55) rfl))) (Or.inl (hw _ (List.mem_of_getElem? (i := 48) rfl))) (by decide) (t := .int) (t' := .long) (by decide) (by decide))))
  have f108 := (F_rule.other W105 (Or.inr (slot_ne (Or.inl (hw _ (List.mem_of_getElem? (i := 16) rfl))) (Or.inl (hw _ (List.mem_of_getElem? (i := 48) rfl))) (by decide) (t := (.object "com/example/dewey/dewey/EncodingCheck$Rule")) (t' := .long) (by decide) (by decide))))
  obtain ⟨fs, hr, hrun, hended, hW, hsame⟩ := X105.leave (v := none) (fun _ => rfl)
  refine ⟨_, _, pre0 _ ?_, hrun, hended, _, _, rfl, ?_, ⟨_, rfl⟩, hW, hsame.mono (by decide) (by decide)⟩
  · show Steps p.tables e below (s₁.setTop (mkF m 0 #[.val (.ref a1), .val (.ref aA), .val (.int (0 : Int32)), .val (.int (1 : Int32)), .unset] [])) _
    refine XS.aloadN X0.here hx rfl (hb hby d_prog_23_method_9_0) rfl rfl ?_
    show Steps p.tables e below (s₁.setTop (mkF m 1 #[.val (.ref a1), .val (.ref aA), .val (.int (0 : Int32)), .val (.int (1 : Int32)), .unset] [(.ref a1)])) _
    refine st101 _ ?_
    show Steps p.tables e below (T101.setTop (mkF m 4 #[.val (.ref a1), .val (.ref aA), .val (.int (0 : Int32)), .val (.int (1 : Int32)), .unset] [(.ref r8)])) _
    refine st102 _ ?_
    show Steps p.tables e below (T102.setTop (mkF m 7 #[.val (.ref a1), .val (.ref aA), .val (.int (0 : Int32)), .val (.int (1 : Int32)), .unset] [(.ref r8), (.ref r8)])) _
    refine Jvm.RoadKit.acmp (g := (mkF m 7 #[.val (.ref a1), .val (.ref aA), .val (.int (0 : Int32)), .val (.int (1 : Int32)), .unset] [(.ref r8), (.ref r8)])) X102 hx rfl rfl rfl (pc0 := 7) (pc' := 10) (same := true) rfl (hb hby d_prog_23_method_9_7) rfl (decide_eq_true rfl) (by decide) (by decide) ?_
    show Steps p.tables e below (T102.setTop (mkF m 10 #[.val (.ref a1), .val (.ref aA), .val (.int (0 : Int32)), .val (.int (1 : Int32)), .unset] [])) _
    refine XS.aloadN X102.here hx rfl (hb hby d_prog_23_method_9_10) rfl rfl ?_
    refine XS.aloadN X102.here hx rfl (hb hby d_prog_23_method_9_11) rfl rfl ?_
    refine XS.iloadN X102.here hx rfl (hb hby d_prog_23_method_9_12) rfl ?_
    refine XS.iloadN X102.here hx rfl (hb hby d_prog_23_method_9_13) rfl ?_
    show Steps p.tables e below (T102.setTop (mkF m 14 #[.val (.ref a1), .val (.ref aA), .val (.int (0 : Int32)), .val (.int (1 : Int32)), .unset] [(.int (1 : Int32)), (.int (0 : Int32)), (.ref aA), (.ref a1)])) _
    refine st103.trans ?_
    show Steps p.tables e below (T103.setTop (mkF m 17 #[.val (.ref a1), .val (.ref aA), .val (.int (0 : Int32)), .val (.int (1 : Int32)), .unset] [])) _
    refine XS.goto X103.here hx rfl (pc0 := 17) (pc' := 83) rfl (hb hby d_prog_23_method_9_17) (by decide) (by decide) ?_
    refine XS.aloadN X103.here hx rfl (hb hby d_prog_23_method_9_83) rfl rfl ?_
    refine XS.dup X103.here hx rfl (hb hby d_prog_23_method_9_84) rfl rfl ?_
    show Steps p.tables e below (T103.setTop (mkF m 85 #[.val (.ref a1), .val (.ref aA), .val (.int (0 : Int32)), .val (.int (1 : Int32)), .unset] [(.ref a1), (.ref a1)])) _
    refine st104 _ ?_
    show Steps p.tables e below (T104.setTop (mkF m 88 #[.val (.ref a1), .val (.ref aA), .val (.int (0 : Int32)), .val (.int (1 : Int32)), .unset] [(.long tk), (.ref a1)])) _
    refine XS.iloadN X104.here hx rfl (hb hby d_prog_23_method_9_88) rfl ?_
    refine XS.iloadN X104.here hx rfl (hb hby d_prog_23_method_9_89) rfl ?_
    refine XS.isub X104.here hx rfl (hb hby d_prog_23_method_9_90) rfl ?_
    show Steps p.tables e below (T104.setTop (mkF m 91 #[.val (.ref a1), .val (.ref aA), .val (.int (0 : Int32)), .val (.int (1 : Int32)), .unset] [(.int ((1 : Int32) - (0 : Int32))), (.long tk), (.ref a1)])) _
    rw [show ((1 : Int32) - (0 : Int32)) = (1 : Int32) from (by decide)]
    show Steps p.tables e below (T104.setTop (mkF m 91 #[.val (.ref a1), .val (.ref aA), .val (.int (0 : Int32)), .val (.int (1 : Int32)), .unset] [(.int (1 : Int32)), (.long tk), (.ref a1)])) _
    refine XS.i2l X104.here hx rfl (hb hby d_prog_23_method_9_91) rfl ?_
    show Steps p.tables e below (T104.setTop (mkF m 92 #[.val (.ref a1), .val (.ref aA), .val (.int (0 : Int32)), .val (.int (1 : Int32)), .unset] [(.long ((1 : Int32).toInt64)), (.long tk), (.ref a1)])) _
    rw [show ((1 : Int32).toInt64) = (1 : Int64) from (by decide)]
    show Steps p.tables e below (T104.setTop (mkF m 92 #[.val (.ref a1), .val (.ref aA), .val (.int (0 : Int32)), .val (.int (1 : Int32)), .unset] [(.long (1 : Int64)), (.long tk), (.ref a1)])) _
    refine XS.ladd X104.here hx rfl (hb hby d_prog_23_method_9_92) rfl ?_
    show Steps p.tables e below (T104.setTop (mkF m 93 #[.val (.ref a1), .val (.ref aA), .val (.int (0 : Int32)), .val (.int (1 : Int32)), .unset] [(.long (tk + (1 : Int64))), (.ref a1)])) _
    refine st105 _ ?_
    show Steps p.tables e below (T105.setTop (mkF m 96 #[.val (.ref a1), .val (.ref aA), .val (.int (0 : Int32)), .val (.int (1 : Int32)), .unset] [])) _
    exact X105.returnOut hx Bd.returns (hb hby d_prog_23_method_9_96) hr
  · show Q_ck8t Z a1 aA kA x0 tk rU r16 r8 rA h0 n0 _ T105.heap _
    rw [e105]
    exact ⟨rfl, N105, K105, f106, f107, f108⟩
theorem ef_ck8c (m : MethodId) (a1 : Addr) (aA : Addr) (p3 : Int32) : entryFrame m #[(.ref a1), (.ref aA), (.int (4 : Int32)), (.int p3)] 5 = mkF m 0 #[.val (.ref a1), .val (.ref aA), .val (.int (4 : Int32)), .val (.int p3), .unset] [] := by first | (simp [entryFrame, mkF, argsToLocals, Value.category]; done) | rfl
def Q_ck8c (Z : State) (a1 : Addr) (aA : Addr) (kA : ClassId) (aO : Addr) (kO : ClassId) (x4 : Int32) (x5 : Int32) (ld : Int32) (c1 : Int32) (tk : Int64) (uL : Value) (uH : Value) (uC : Value) (uS : Value) (p3 : Int32) (rU : Addr) (r16 : Addr) (r8 : Addr) (rA : Addr) (h0 : Heap) (n0 : Nat) (v : Option Value) (h : Heap) (L : List Loc) : Prop := ∃ (u1 u2 : Value) (t : Int64), v = none ∧ Fr n0 L ∧ Keep h0 h [a1, aO] ∧ Exa Z h a1 "com/example/dewey/dewey/EncodingCheck" ∧ Fld Z h a1 "com/example/dewey/dewey/EncodingCheck" "needed" "I" u1 ∧ Fld Z h a1 "com/example/dewey/dewey/EncodingCheck" "openCount" "I" u2 ∧ Fld Z h a1 "com/example/dewey/dewey/EncodingCheck" "taken" "J" (.long t) ∧ Fld Z h a1 "com/example/dewey/dewey/EncodingCheck" "rule" "Lcom/example/dewey/dewey/EncodingCheck$Rule;" (.ref r8)
set_option maxRecDepth 65536 in
set_option maxHeartbeats 40000000 in
theorem rm_ck8c (l : Launch) (Z : State) (a0 : Array Value) (hw : ∀ d ∈ tables_1, d.before a0 Z = true) (ws : List Jvm.Cond) (a1 : Addr) (aA : Addr) (kA : ClassId) (aO : Addr) (kO : ClassId) (x4 : Int32) (x5 : Int32) (ld : Int32) (c1 : Int32) (tk : Int64) (uL : Value) (uH : Value) (uC : Value) (uS : Value) (p3 : Int32) (rU : Addr) (r16 : Addr) (r8 : Addr) (rA : Addr) (h0 : Heap) (n0 : Nat) (O0 : Old Z n0 h0) (SrU : Sta Z Z.heap "com/example/dewey/dewey/EncodingCheck$Rule" "UNKNOWN" "Lcom/example/dewey/dewey/EncodingCheck$Rule;" (.ref rU)) (Sr16 : Sta Z Z.heap "com/example/dewey/dewey/EncodingCheck$Rule" "UTF_16" "Lcom/example/dewey/dewey/EncodingCheck$Rule;" (.ref r16)) (Sr8 : Sta Z Z.heap "com/example/dewey/dewey/EncodingCheck$Rule" "UTF_8" "Lcom/example/dewey/dewey/EncodingCheck$Rule;" (.ref r8)) (SrA : Sta Z Z.heap "com/example/dewey/dewey/EncodingCheck$Rule" "US_ASCII" "Lcom/example/dewey/dewey/EncodingCheck$Rule;" (.ref rA)) (n_rU_r16 : rU ≠ r16) (n_rU_r8 : rU ≠ r8) (n_rU_rA : rU ≠ rA) (n_r16_r8 : r16 ≠ r8) (n_r16_rA : r16 ≠ rA) (n_r8_rA : r8 ≠ rA) (E1 : Exa Z h0 a1 "com/example/dewey/dewey/EncodingCheck") (F_needed : Fld Z h0 a1 "com/example/dewey/dewey/EncodingCheck" "needed" "I" (.int (0 : Int32))) (F_low : Fld Z h0 a1 "com/example/dewey/dewey/EncodingCheck" "low" "I" uL) (F_high : Fld Z h0 a1 "com/example/dewey/dewey/EncodingCheck" "high" "I" uH) (F_open : Fld Z h0 a1 "com/example/dewey/dewey/EncodingCheck" "open" "[B" (.ref aO)) (F_openCount : Fld Z h0 a1 "com/example/dewey/dewey/EncodingCheck" "openCount" "I" uC) (F_start : Fld Z h0 a1 "com/example/dewey/dewey/EncodingCheck" "start" "J" uS) (F_taken : Fld Z h0 a1 "com/example/dewey/dewey/EncodingCheck" "taken" "J" (.long tk)) (F_rule : Fld Z h0 a1 "com/example/dewey/dewey/EncodingCheck" "rule" "Lcom/example/dewey/dewey/EncodingCheck$Rule;" (.ref r8)) (VA : Arv Z h0 aA kA .byte (7 : Int32) [(.int (60 : Int32)), (.int (63 : Int32)), (.int (120 : Int32)), (.int (109 : Int32)), (.int x4), (.int x5), (.int (-128 : Int32))] (.int (0 : Int32))) (VO : Arv Z h0 aO kO .byte (4 : Int32) [(.int (0 : Int32)), (.int (0 : Int32)), (.int (0 : Int32)), (.int (0 : Int32))] (.int (0 : Int32))) (g_a1 : n0 ≤ a1) (g_aO : n0 ≤ aO) (n_a1_aA : a1 ≠ aA) (n_a1_aO : a1 ≠ aO) (n_aA_aO : aA ≠ aO) (h4 : (x4 &&& (255 : Int32)) = ld) (h5 : (x5 &&& (255 : Int32)) = c1) (hc1 : c1 = (if ld = (224 : Int32) then (160 : Int32) else (if ld = (240 : Int32) then (144 : Int32) else (128 : Int32)))) (hl : ¬ ld < (194 : Int32) ∧ ¬ (244 : Int32) < ld) (hp3 : p3 = 5 ∨ (p3 = 6 ∧ ¬ ld < (224 : Int32)) ∨ (p3 = 7 ∧ ¬ ld < (240 : Int32))) :
    MetFree l (⟨"com/example/dewey/dewey/EncodingCheck", "check", "([BII)V"⟩ : MethodName) (head1 (Jvm.Cond.code (⟨"com/example/dewey/dewey/EncodingCheck", "check", "([BII)V"⟩ : MethodName) prog_23_method_9_code 5 none :: ws) ({ frames := 1, cells := 0, slots := 0, locals := 17 } : Room)) (fun a U => a = #[(.ref a1), (.ref aA), (.int (4 : Int32)), (.int p3)] ∧ Z.Warmed39 U.vm ∧ U.heap = h0) (fun _ _ _ _ _ => True) (fun _ U o U' => ∃ v L, o = .returned v ∧ Q_ck8c Z a1 aA kA aO kO x4 x5 ld c1 tk uL uH uC uS p3 rU r16 r8 rA h0 n0 v U'.heap L ∧ FrameEnd U o U' L ({ frames := 1, cells := 0, slots := 0, locals := 17 } : Room).cells ({ frames := 1, cells := 0, slots := 0, locals := 17 } : Room).slots) := by
  refine MetFree.of_bodySF (plainFor_of_name pn_0) hisR ?_
  intro p e s m args below meth c s₁ Bd hml0 hP hK
  obtain ⟨rfl, hZ, hh⟩ := hP
  have hx := Bd.exec
  have hby := Bd.bytes
  have hml : c.maxLocals = 5 := hml0
  have hown : s.vm.findClass "com/example/dewey/dewey/EncodingCheck" = some m.cls := findClass_of_methodNamed Bd.named
  have hnm := (name_of_methodNamed Bd.named Bd.method).1
  have X0 : Stand p l e ({ frames := 1, cells := 0, slots := 0, locals := 17 } : Room) s m #[(.ref a1), (.ref aA), (.int (4 : Int32)), (.int p3)] below meth c s₁ [] 0 0 := Stand.of_body Bd
  have e0 : s₁.heap = h0 := by rw [← hh, Bd.state]; rfl
  have N0 := Fr.nil n0
  have K0 : Keep h0 h0 [a1, aO] := Keep.refl _ _
  have pre0 : ∀ t, Steps p.tables e below (s₁.setTop (mkF m 0 #[.val (.ref a1), .val (.ref aA), .val (.int (4 : Int32)), .val (.int p3), .unset] [])) t → Steps p.tables e below (s₁.setTop (entryFrame m #[(.ref a1), (.ref aA), (.int (4 : Int32)), (.int p3)] 5)) t := fun t k => castTop (ef_ck8c m a1 aA p3) k
  obtain ⟨T101, X101, e101, st101⟩ := getF X0 hx hZ hown (host := "") (Or.inl (hw _ (List.mem_of_getElem? (i := 15) rfl))) Via.refl e0 F_rule (g := (mkF m 1 #[.val (.ref a1), .val (.ref aA), .val (.int (4 : Int32)), .val (.int p3), .unset] [(.ref a1)])) rfl rfl (hb hby d_prog_23_method_9_1)
  obtain ⟨T102, X102, e102, st102⟩ := getS2 X101 hx hZ hown (host := "") (Or.inl (hw _ (List.mem_of_getElem? (i := 43) rfl))) Via.refl e101 (Sr8.ext O0.2) (g := (mkF m 4 #[.val (.ref a1), .val (.ref aA), .val (.int (4 : Int32)), .val (.int p3), .unset] [(.ref r8)])) rfl (hb hby d_prog_23_method_9_4)
  obtain ⟨cq103, q103, q103'⟩ := E1.cell
  obtain ⟨_, _, ⟨T103, L103, k103, n103⟩, -, X103, ⟨Lc103, hQ103, l103, y103, z103⟩, st103⟩ := X102.privateBack hx (y := (⟨"com/example/dewey/dewey/EncodingCheck", "checkUtf8", "([BII)V"⟩ : MethodName)) hown (mvT hZ (hw _ (List.mem_of_getElem? (i := 65) rfl))) (mvT hZ (hw _ (List.mem_of_getElem? (i := 66) rfl))) (own_selP (y := (⟨"com/example/dewey/dewey/EncodingCheck", "checkUtf8", "([BII)V"⟩ : MethodName)) hZ (hw _ (List.mem_of_getElem? (i := 1) rfl)) (hw _ (List.mem_of_getElem? (i := 67) rfl)) (hw _ (List.mem_of_getElem? (i := 66) rfl)) (by decide)) (Cond.privateMethod_at (mvP hZ (hw _ (List.mem_of_getElem? (i := 67) rfl)) (args := #[]))) (mvT hZ (hw _ (List.mem_of_getElem? (i := 68) rfl))) (by decide) (backOf (W := 0) (rm_cu l Z a0 hw [] a1 aA kA aO kO x4 x5 ld c1 tk uL uH uC uS p3 rU r16 r8 rA h0 n0 O0 SrU Sr16 Sr8 SrA n_rU_r16 n_rU_r8 n_rU_rA n_r16_r8 n_r16_rA n_r8_rA E1 F_needed F_low F_high F_open F_openCount F_start F_taken F_rule VA VO g_a1 g_aO n_a1_aA n_a1_aO n_aA_aO h4 h5 hc1 hl hp3) hZ (hw _ (List.mem_of_getElem? (i := 68) rfl)) (hw _ (List.mem_of_getElem? (i := 2) rfl)) (by decide) (by decide)) (g := (mkF m 14 #[.val (.ref a1), .val (.ref aA), .val (.int (4 : Int32)), .val (.int p3), .unset] [(.int p3), (.int (4 : Int32)), (.ref aA), (.ref a1)])) rfl (by rw [hml]; rfl) (Steps.refl _) (a := a1) (by rw [e102]; exact q103) q103' (argsL := [(.ref aA), (.int (4 : Int32)), (.int p3)]) (rest := []) (lenOf pd_0 rfl) rfl (by show 2 * 0 + _ ≤ _; exact Nat.le_of_eq rfl) (hb hby d_prog_23_method_9_14) (fun _ _ => ⟨rfl, e102, (by decide : 0 + 0 ≤ _), (by decide : 0 + 0 ≤ _)⟩)
  dsimp only [Pt.U, Pt.locs, Pt.cells, Pt.slots] at X103 l103 y103 z103 st103 hQ103
  subst l103 y103 z103
  obtain ⟨u1_103, u2_103, rfl, Nq103, Kq103, Ek103, Fk_needed_103, Fk_openCount_103, Fk_taken_103, Fk_rule_103⟩ := hQ103
  have N103 := Fr.app N0 Nq103
  have O103 := O0.keep Kq103 (allS g_a1 (allS g_aO all0))
  have K103 := K0.trans Kq103 (allS (Or.inl (List.mem_of_getElem? (i := 0) rfl)) (allS (Or.inl (List.mem_of_getElem? (i := 1) rfl)) all0))
  obtain ⟨T104, X104, e104, st104⟩ := getF X103 hx hZ hown (host := "") (Or.inl (hw _ (List.mem_of_getElem? (i := 47) rfl))) Via.refl rfl Fk_taken_103 (g := (mkF m 85 #[.val (.ref a1), .val (.ref aA), .val (.int (4 : Int32)), .val (.int p3), .unset] [(.ref a1), (.ref a1)])) rfl rfl (hb hby d_prog_23_method_9_85)
  obtain ⟨T105, h105, X105, e105, W105, st105⟩ := putF X104 hx hZ hown (host := "") (Or.inl (hw _ (List.mem_of_getElem? (i := 47) rfl))) Via.refl e104 Fk_taken_103 Ek103 (Or.inl (hw _ (List.mem_of_getElem? (i := 48) rfl))) (hw _ (List.mem_of_getElem? (i := 1) rfl)) (ty := .long) (by decide) rfl rfl (g := (mkF m 93 #[.val (.ref a1), .val (.ref aA), .val (.int (4 : Int32)), .val (.int p3), .unset] [(.long (tk + ((p3 - (4 : Int32)).toInt64))), (.ref a1)])) rfl rfl (hb hby d_prog_23_method_9_93)
  have F105 := Fk_taken_103.same W105
  have N105 := Fr.snoc X105 N103 g_a1
  have O105 := O103.wr W105 g_a1
  have K105 := K103.wr W105 (Or.inl (List.mem_of_getElem? (i := 0) rfl))
  have f106 := (Ek103.wr W105)
  have f107 := (Fk_needed_103.other W105 (Or.inr (slot_ne (Or.inl (hw _ (List.mem_of_getElem? (i := 55) rfl))) (Or.inl (hw _ (List.mem_of_getElem? (i := 48) rfl))) (by decide) (t := .int) (t' := .long) (by decide) (by decide))))
  have f108 := (Fk_openCount_103.other W105 (Or.inr (slot_ne (Or.inl (hw _ (List.mem_of_getElem? (i := 57) rfl))) (Or.inl (hw _ (List.mem_of_getElem? (i := 48) rfl))) (by decide) (t := .int) (t' := .long) (by decide) (by decide))))
  have f109 := (Fk_rule_103.other W105 (Or.inr (slot_ne (Or.inl (hw _ (List.mem_of_getElem? (i := 16) rfl))) (Or.inl (hw _ (List.mem_of_getElem? (i := 48) rfl))) (by decide) (t := (.object "com/example/dewey/dewey/EncodingCheck$Rule")) (t' := .long) (by decide) (by decide))))
  obtain ⟨fs, hr, hrun, hended, hW, hsame⟩ := X105.leave (v := none) (fun _ => rfl)
  refine ⟨_, _, pre0 _ ?_, hrun, hended, _, _, rfl, ?_, ⟨_, rfl⟩, hW, hsame.mono (by decide) (by decide)⟩
  · show Steps p.tables e below (s₁.setTop (mkF m 0 #[.val (.ref a1), .val (.ref aA), .val (.int (4 : Int32)), .val (.int p3), .unset] [])) _
    refine XS.aloadN X0.here hx rfl (hb hby d_prog_23_method_9_0) rfl rfl ?_
    show Steps p.tables e below (s₁.setTop (mkF m 1 #[.val (.ref a1), .val (.ref aA), .val (.int (4 : Int32)), .val (.int p3), .unset] [(.ref a1)])) _
    refine st101 _ ?_
    show Steps p.tables e below (T101.setTop (mkF m 4 #[.val (.ref a1), .val (.ref aA), .val (.int (4 : Int32)), .val (.int p3), .unset] [(.ref r8)])) _
    refine st102 _ ?_
    show Steps p.tables e below (T102.setTop (mkF m 7 #[.val (.ref a1), .val (.ref aA), .val (.int (4 : Int32)), .val (.int p3), .unset] [(.ref r8), (.ref r8)])) _
    refine Jvm.RoadKit.acmp (g := (mkF m 7 #[.val (.ref a1), .val (.ref aA), .val (.int (4 : Int32)), .val (.int p3), .unset] [(.ref r8), (.ref r8)])) X102 hx rfl rfl rfl (pc0 := 7) (pc' := 10) (same := true) rfl (hb hby d_prog_23_method_9_7) rfl (decide_eq_true rfl) (by decide) (by decide) ?_
    show Steps p.tables e below (T102.setTop (mkF m 10 #[.val (.ref a1), .val (.ref aA), .val (.int (4 : Int32)), .val (.int p3), .unset] [])) _
    refine XS.aloadN X102.here hx rfl (hb hby d_prog_23_method_9_10) rfl rfl ?_
    refine XS.aloadN X102.here hx rfl (hb hby d_prog_23_method_9_11) rfl rfl ?_
    refine XS.iloadN X102.here hx rfl (hb hby d_prog_23_method_9_12) rfl ?_
    refine XS.iloadN X102.here hx rfl (hb hby d_prog_23_method_9_13) rfl ?_
    show Steps p.tables e below (T102.setTop (mkF m 14 #[.val (.ref a1), .val (.ref aA), .val (.int (4 : Int32)), .val (.int p3), .unset] [(.int p3), (.int (4 : Int32)), (.ref aA), (.ref a1)])) _
    refine st103.trans ?_
    show Steps p.tables e below (T103.setTop (mkF m 17 #[.val (.ref a1), .val (.ref aA), .val (.int (4 : Int32)), .val (.int p3), .unset] [])) _
    refine XS.goto X103.here hx rfl (pc0 := 17) (pc' := 83) rfl (hb hby d_prog_23_method_9_17) (by decide) (by decide) ?_
    refine XS.aloadN X103.here hx rfl (hb hby d_prog_23_method_9_83) rfl rfl ?_
    refine XS.dup X103.here hx rfl (hb hby d_prog_23_method_9_84) rfl rfl ?_
    show Steps p.tables e below (T103.setTop (mkF m 85 #[.val (.ref a1), .val (.ref aA), .val (.int (4 : Int32)), .val (.int p3), .unset] [(.ref a1), (.ref a1)])) _
    refine st104 _ ?_
    show Steps p.tables e below (T104.setTop (mkF m 88 #[.val (.ref a1), .val (.ref aA), .val (.int (4 : Int32)), .val (.int p3), .unset] [(.long tk), (.ref a1)])) _
    refine XS.iloadN X104.here hx rfl (hb hby d_prog_23_method_9_88) rfl ?_
    refine XS.iloadN X104.here hx rfl (hb hby d_prog_23_method_9_89) rfl ?_
    refine XS.isub X104.here hx rfl (hb hby d_prog_23_method_9_90) rfl ?_
    refine XS.i2l X104.here hx rfl (hb hby d_prog_23_method_9_91) rfl ?_
    show Steps p.tables e below (T104.setTop (mkF m 92 #[.val (.ref a1), .val (.ref aA), .val (.int (4 : Int32)), .val (.int p3), .unset] [(.long ((p3 - (4 : Int32)).toInt64)), (.long tk), (.ref a1)])) _
    refine XS.ladd X104.here hx rfl (hb hby d_prog_23_method_9_92) rfl ?_
    show Steps p.tables e below (T104.setTop (mkF m 93 #[.val (.ref a1), .val (.ref aA), .val (.int (4 : Int32)), .val (.int p3), .unset] [(.long (tk + ((p3 - (4 : Int32)).toInt64))), (.ref a1)])) _
    refine st105 _ ?_
    show Steps p.tables e below (T105.setTop (mkF m 96 #[.val (.ref a1), .val (.ref aA), .val (.int (4 : Int32)), .val (.int p3), .unset] [])) _
    exact X105.returnOut hx Bd.returns (hb hby d_prog_23_method_9_96) hr
  · show Q_ck8c Z a1 aA kA aO kO x4 x5 ld c1 tk uL uH uC uS p3 rU r16 r8 rA h0 n0 _ T105.heap _
    rw [e105]
    exact ⟨_, _, _, rfl, N105, K105, f106, f107, f108, F105, f109⟩
theorem ef_se16 (m : MethodId) (a1 : Addr) : entryFrame m #[(.ref a1)] 1 = mkF m 0 #[.val (.ref a1)] [] := by first | (simp [entryFrame, mkF, argsToLocals, Value.category]; done) | rfl
def Q_se16 (Z : State) (a1 : Addr) (b1 : Addr) (k1 : ClassId) (x0 : Int32) (x1 : Int32) (x2 : Int32) (x3 : Int32) (tk : Int64) (uR : Value) (u1 : Value) (u2 : Value) (rU : Addr) (r16 : Addr) (r8 : Addr) (rA : Addr) (h0 : Heap) (n0 : Nat) (v : Option Value) (h : Heap) (L : List Loc) : Prop := v = none ∧ Fr n0 L ∧ Keep h0 h [a1] ∧ Exa Z h a1 "com/example/dewey/dewey/EncodingCheck" ∧ Fld Z h a1 "com/example/dewey/dewey/EncodingCheck" "rule" "Lcom/example/dewey/dewey/EncodingCheck$Rule;" (.ref r16) ∧ Fld Z h a1 "com/example/dewey/dewey/EncodingCheck" "taken" "J" (.long (tk + ((4 : Int32) - (0 : Int32)).toInt64)) ∧ Fld Z h a1 "com/example/dewey/dewey/EncodingCheck" "needed" "I" u1 ∧ Fld Z h a1 "com/example/dewey/dewey/EncodingCheck" "openCount" "I" u2
set_option maxRecDepth 65536 in
set_option maxHeartbeats 40000000 in
theorem rm_se16 (l : Launch) (Z : State) (a0 : Array Value) (hw : ∀ d ∈ tables_1, d.before a0 Z = true) (ws : List Jvm.Cond) (a1 : Addr) (b1 : Addr) (k1 : ClassId) (x0 : Int32) (x1 : Int32) (x2 : Int32) (x3 : Int32) (tk : Int64) (uR : Value) (u1 : Value) (u2 : Value) (rU : Addr) (r16 : Addr) (r8 : Addr) (rA : Addr) (h0 : Heap) (n0 : Nat) (O0 : Old Z n0 h0) (SrU : Sta Z Z.heap "com/example/dewey/dewey/EncodingCheck$Rule" "UNKNOWN" "Lcom/example/dewey/dewey/EncodingCheck$Rule;" (.ref rU)) (Sr16 : Sta Z Z.heap "com/example/dewey/dewey/EncodingCheck$Rule" "UTF_16" "Lcom/example/dewey/dewey/EncodingCheck$Rule;" (.ref r16)) (Sr8 : Sta Z Z.heap "com/example/dewey/dewey/EncodingCheck$Rule" "UTF_8" "Lcom/example/dewey/dewey/EncodingCheck$Rule;" (.ref r8)) (SrA : Sta Z Z.heap "com/example/dewey/dewey/EncodingCheck$Rule" "US_ASCII" "Lcom/example/dewey/dewey/EncodingCheck$Rule;" (.ref rA)) (n_rU_r16 : rU ≠ r16) (n_rU_r8 : rU ≠ r8) (n_rU_rA : rU ≠ rA) (n_r16_r8 : r16 ≠ r8) (n_r16_rA : r16 ≠ rA) (n_r8_rA : r8 ≠ rA) (E1 : Exa Z h0 a1 "com/example/dewey/dewey/EncodingCheck") (F_first : Fld Z h0 a1 "com/example/dewey/dewey/EncodingCheck" "first" "[B" (.ref b1)) (F_firstCount : Fld Z h0 a1 "com/example/dewey/dewey/EncodingCheck" "firstCount" "I" (.int (4 : Int32))) (F_rule : Fld Z h0 a1 "com/example/dewey/dewey/EncodingCheck" "rule" "Lcom/example/dewey/dewey/EncodingCheck$Rule;" uR) (F_taken : Fld Z h0 a1 "com/example/dewey/dewey/EncodingCheck" "taken" "J" (.long tk)) (F_needed : Fld Z h0 a1 "com/example/dewey/dewey/EncodingCheck" "needed" "I" u1) (F_openCount : Fld Z h0 a1 "com/example/dewey/dewey/EncodingCheck" "openCount" "I" u2) (VB : Arv Z h0 b1 k1 .byte (4 : Int32) [(.int x0), (.int x1), (.int x2), (.int x3)] (.int (0 : Int32))) (g_a1 : n0 ≤ a1) (n_a1_b1 : a1 ≠ b1) (hxb : (x0 &&& (255 : Int32) = 254 ∧ x1 &&& (255 : Int32) = 255) ∨ (x0 &&& (255 : Int32) = 255 ∧ x1 &&& (255 : Int32) = 254)) :
    MetFree l (⟨"com/example/dewey/dewey/EncodingCheck", "showEncoding", "()V"⟩ : MethodName) (head1 (Jvm.Cond.code (⟨"com/example/dewey/dewey/EncodingCheck", "showEncoding", "()V"⟩ : MethodName) prog_23_method_7_code 1 none :: ws) ({ frames := 1, cells := 0, slots := 0, locals := 17 } : Room)) (fun a U => a = #[(.ref a1)] ∧ Z.Warmed39 U.vm ∧ U.heap = h0) (fun _ _ _ _ _ => True) (fun _ U o U' => ∃ v L, o = .returned v ∧ Q_se16 Z a1 b1 k1 x0 x1 x2 x3 tk uR u1 u2 rU r16 r8 rA h0 n0 v U'.heap L ∧ FrameEnd U o U' L ({ frames := 1, cells := 0, slots := 0, locals := 17 } : Room).cells ({ frames := 1, cells := 0, slots := 0, locals := 17 } : Room).slots) := by
  refine MetFree.of_bodySF (plainFor_of_name pn_0) hisR ?_
  intro p e s m args below meth c s₁ Bd hml0 hP hK
  obtain ⟨rfl, hZ, hh⟩ := hP
  have hx := Bd.exec
  have hby := Bd.bytes
  have hml : c.maxLocals = 1 := hml0
  have hown : s.vm.findClass "com/example/dewey/dewey/EncodingCheck" = some m.cls := findClass_of_methodNamed Bd.named
  have hnm := (name_of_methodNamed Bd.named Bd.method).1
  have X0 : Stand p l e ({ frames := 1, cells := 0, slots := 0, locals := 17 } : Room) s m #[(.ref a1)] below meth c s₁ [] 0 0 := Stand.of_body Bd
  have e0 : s₁.heap = h0 := by rw [← hh, Bd.state]; rfl
  have N0 := Fr.nil n0
  have K0 : Keep h0 h0 [a1] := Keep.refl _ _
  have pre0 : ∀ t, Steps p.tables e below (s₁.setTop (mkF m 0 #[.val (.ref a1)] [])) t → Steps p.tables e below (s₁.setTop (entryFrame m #[(.ref a1)] 1)) t := fun t k => castTop (ef_se16 m a1) k
  obtain ⟨T101, X101, e101, st101⟩ := getF X0 hx hZ hown (host := "") (Or.inl (hw _ (List.mem_of_getElem? (i := 10) rfl))) Via.refl e0 F_first (g := (mkF m 2 #[.val (.ref a1)] [(.ref a1), (.ref a1)])) rfl rfl (hb hby d_prog_23_method_7_2)
  obtain ⟨T102, X102, e102, st102⟩ := getF X101 hx hZ hown (host := "") (Or.inl (hw _ (List.mem_of_getElem? (i := 28) rfl))) Via.refl e101 F_firstCount (g := (mkF m 6 #[.val (.ref a1)] [(.ref a1), (.ref b1), (.ref a1)])) rfl rfl (hb hby d_prog_23_method_7_6)
  obtain ⟨_, _, ⟨T103, L103, k103, n103⟩, -, X103, ⟨Lc103, hQ103, l103, y103, z103⟩, st103⟩ := Jvm.LawKit.callS X102 hx (y := (⟨"com/example/dewey/dewey/EncodingCheck", "shown", "([BI)Lcom/example/dewey/dewey/EncodingCheck$Rule;"⟩ : MethodName)) hown (mvT hZ (hw _ (List.mem_of_getElem? (i := 34) rfl))) (mvT hZ (hw _ (List.mem_of_getElem? (i := 35) rfl))) (mvT hZ (hw _ (List.mem_of_getElem? (i := 2) rfl))) (mvT hZ (hw _ (List.mem_of_getElem? (i := 36) rfl))) (by decide) (backOf (W := 1) (rm_sh16 l Z a0 hw [] b1 k1 x0 x1 x2 x3 rU r16 r8 rA h0 n0 O0 SrU Sr16 Sr8 SrA n_rU_r16 n_rU_r8 n_rU_rA n_r16_r8 n_r16_rA n_r8_rA VB hxb) hZ (hw _ (List.mem_of_getElem? (i := 36) rfl)) (hw _ (List.mem_of_getElem? (i := 2) rfl)) (by decide) (by decide)) (g := (mkF m 9 #[.val (.ref a1)] [(.int (4 : Int32)), (.ref b1), (.ref a1)])) rfl (by rw [hml]; rfl) (argsL := [(.ref b1), (.int (4 : Int32))]) (rest := [(.ref a1)]) (lenOf pd_1 rfl) rfl (by show 2 * 0 + _ ≤ _; exact Nat.le_of_eq rfl) (hb hby d_prog_23_method_7_9) (fun _ _ => ⟨rfl, e102, (by decide : 0 + 0 ≤ _), (by decide : 0 + 0 ≤ _)⟩)
  dsimp only [Pt.U, Pt.locs, Pt.cells, Pt.slots] at X103 l103 y103 z103 st103 hQ103
  subst l103 y103 z103
  obtain ⟨rfl, Nq103, e103⟩ := hQ103
  have N103 := Fr.app N0 Nq103
  obtain ⟨T104, h104, X104, e104, W104, st104⟩ := putF X103 hx hZ hown (host := "") (Or.inl (hw _ (List.mem_of_getElem? (i := 15) rfl))) Via.refl e103 F_rule E1 (Or.inl (hw _ (List.mem_of_getElem? (i := 16) rfl))) (hw _ (List.mem_of_getElem? (i := 1) rfl)) (ty := (.object "com/example/dewey/dewey/EncodingCheck$Rule")) (by decide) rfl rfl (g := (mkF m 12 #[.val (.ref a1)] [(.ref r16), (.ref a1)])) rfl rfl (hb hby d_prog_23_method_7_12)
  have F104 := F_rule.same W104
  have N104 := Fr.snoc X104 N103 g_a1
  have O104 := O0.wr W104 g_a1
  have K104 := K0.wr W104 (Or.inl (List.mem_of_getElem? (i := 0) rfl))
  have f105 := (F_first.other W104 (Or.inr (slot_ne (Or.inr (hw _ (List.mem_of_getElem? (i := 11) rfl))) (Or.inl (hw _ (List.mem_of_getElem? (i := 16) rfl))) (by decide) (t := (.array .byte)) (t' := (.object "com/example/dewey/dewey/EncodingCheck$Rule")) (by decide) (by decide))))
  obtain ⟨T106, X106, e106, st106⟩ := getF X104 hx hZ hown (host := "") (Or.inl (hw _ (List.mem_of_getElem? (i := 10) rfl))) Via.refl e104 f105 (g := (mkF m 17 #[.val (.ref a1)] [(.ref a1), (.ref a1)])) rfl rfl (hb hby d_prog_23_method_7_17)
  have f107 := (F_firstCount.other W104 (Or.inr (slot_ne (Or.inl (hw _ (List.mem_of_getElem? (i := 29) rfl))) (Or.inl (hw _ (List.mem_of_getElem? (i := 16) rfl))) (by decide) (t := .int) (t' := (.object "com/example/dewey/dewey/EncodingCheck$Rule")) (by decide) (by decide))))
  obtain ⟨T108, X108, e108, st108⟩ := getF X106 hx hZ hown (host := "") (Or.inl (hw _ (List.mem_of_getElem? (i := 28) rfl))) Via.refl e106 f107 (g := (mkF m 22 #[.val (.ref a1)] [(.ref a1), (.int (0 : Int32)), (.ref b1), (.ref a1)])) rfl rfl (hb hby d_prog_23_method_7_22)
  have f109 := (E1.wr W104)
  have f110 := (F_taken.other W104 (Or.inr (slot_ne (Or.inl (hw _ (List.mem_of_getElem? (i := 48) rfl))) (Or.inl (hw _ (List.mem_of_getElem? (i := 16) rfl))) (by decide) (t := .long) (t' := (.object "com/example/dewey/dewey/EncodingCheck$Rule")) (by decide) (by decide))))
  have f111 := (F_needed.other W104 (Or.inr (slot_ne (Or.inl (hw _ (List.mem_of_getElem? (i := 55) rfl))) (Or.inl (hw _ (List.mem_of_getElem? (i := 16) rfl))) (by decide) (t := .int) (t' := (.object "com/example/dewey/dewey/EncodingCheck$Rule")) (by decide) (by decide))))
  have f112 := (F_openCount.other W104 (Or.inr (slot_ne (Or.inl (hw _ (List.mem_of_getElem? (i := 57) rfl))) (Or.inl (hw _ (List.mem_of_getElem? (i := 16) rfl))) (by decide) (t := .int) (t' := (.object "com/example/dewey/dewey/EncodingCheck$Rule")) (by decide) (by decide))))
  obtain ⟨cq113, q113, q113'⟩ := f109.cell
  obtain ⟨_, _, ⟨T113, L113, k113, n113⟩, -, X113, ⟨Lc113, hQ113, l113, y113, z113⟩, st113⟩ := X108.privateBack hx (y := (⟨"com/example/dewey/dewey/EncodingCheck", "check", "([BII)V"⟩ : MethodName)) hown (mvT hZ (hw _ (List.mem_of_getElem? (i := 39) rfl))) (mvT hZ (hw _ (List.mem_of_getElem? (i := 40) rfl))) (own_selP (y := (⟨"com/example/dewey/dewey/EncodingCheck", "check", "([BII)V"⟩ : MethodName)) hZ (hw _ (List.mem_of_getElem? (i := 1) rfl)) (hw _ (List.mem_of_getElem? (i := 41) rfl)) (hw _ (List.mem_of_getElem? (i := 40) rfl)) (by decide)) (Cond.privateMethod_at (mvP hZ (hw _ (List.mem_of_getElem? (i := 41) rfl)) (args := #[]))) (mvT hZ (hw _ (List.mem_of_getElem? (i := 42) rfl))) (by decide) (backOf (W := 0) (rm_ck16 l Z a0 hw [] a1 b1 (0 : Int32) (4 : Int32) tk u1 u2 rU r16 r8 rA h104 n0 O104 SrU Sr16 Sr8 SrA n_rU_r16 n_rU_r8 n_rU_rA n_r16_r8 n_r16_rA n_r8_rA f109 F104 f110 f111 f112 g_a1) hZ (hw _ (List.mem_of_getElem? (i := 42) rfl)) (hw _ (List.mem_of_getElem? (i := 2) rfl)) (by decide) (by decide)) (g := (mkF m 25 #[.val (.ref a1)] [(.int (4 : Int32)), (.int (0 : Int32)), (.ref b1), (.ref a1)])) rfl (by rw [hml]; rfl) (Steps.refl _) (a := a1) (by rw [e108]; exact q113) q113' (argsL := [(.ref b1), (.int (0 : Int32)), (.int (4 : Int32))]) (rest := []) (lenOf pd_0 rfl) rfl (by show 2 * 0 + _ ≤ _; exact Nat.le_of_eq rfl) (hb hby d_prog_23_method_7_25) (fun _ _ => ⟨rfl, e108, (by decide : 0 + 0 ≤ _), (by decide : 0 + 0 ≤ _)⟩)
  dsimp only [Pt.U, Pt.locs, Pt.cells, Pt.slots] at X113 l113 y113 z113 st113 hQ113
  subst l113 y113 z113
  obtain ⟨rfl, Nq113, Kq113, Ek113, Fk_rule_113, Fk_taken_113, Fk_needed_113, Fk_openCount_113⟩ := hQ113
  have N113 := Fr.app N104 Nq113
  have O113 := O104.keep Kq113 (allS g_a1 all0)
  have K113 := K104.trans Kq113 (allS (Or.inl (List.mem_of_getElem? (i := 0) rfl)) all0)
  obtain ⟨fs, hr, hrun, hended, hW, hsame⟩ := X113.leave (v := none) (fun _ => rfl)
  refine ⟨_, _, pre0 _ ?_, hrun, hended, _, _, rfl, ?_, ⟨_, rfl⟩, hW, hsame.mono (by decide) (by decide)⟩
  · show Steps p.tables e below (s₁.setTop (mkF m 0 #[.val (.ref a1)] [])) _
    refine XS.aloadN X0.here hx rfl (hb hby d_prog_23_method_7_0) rfl rfl ?_
    refine XS.aloadN X0.here hx rfl (hb hby d_prog_23_method_7_1) rfl rfl ?_
    show Steps p.tables e below (s₁.setTop (mkF m 2 #[.val (.ref a1)] [(.ref a1), (.ref a1)])) _
    refine st101 _ ?_
    show Steps p.tables e below (T101.setTop (mkF m 5 #[.val (.ref a1)] [(.ref b1), (.ref a1)])) _
    refine XS.aloadN X101.here hx rfl (hb hby d_prog_23_method_7_5) rfl rfl ?_
    show Steps p.tables e below (T101.setTop (mkF m 6 #[.val (.ref a1)] [(.ref a1), (.ref b1), (.ref a1)])) _
    refine st102 _ ?_
    show Steps p.tables e below (T102.setTop (mkF m 9 #[.val (.ref a1)] [(.int (4 : Int32)), (.ref b1), (.ref a1)])) _
    refine st103 _ ?_
    show Steps p.tables e below (T103.setTop (mkF m 12 #[.val (.ref a1)] [(.ref r16), (.ref a1)])) _
    refine st104 _ ?_
    show Steps p.tables e below (T104.setTop (mkF m 15 #[.val (.ref a1)] [])) _
    refine XS.aloadN X104.here hx rfl (hb hby d_prog_23_method_7_15) rfl rfl ?_
    refine XS.aloadN X104.here hx rfl (hb hby d_prog_23_method_7_16) rfl rfl ?_
    show Steps p.tables e below (T104.setTop (mkF m 17 #[.val (.ref a1)] [(.ref a1), (.ref a1)])) _
    refine st106 _ ?_
    show Steps p.tables e below (T106.setTop (mkF m 20 #[.val (.ref a1)] [(.ref b1), (.ref a1)])) _
    refine XS.iconst X106.here hx rfl (hb hby d_prog_23_method_7_20) ?_
    refine XS.aloadN X106.here hx rfl (hb hby d_prog_23_method_7_21) rfl rfl ?_
    show Steps p.tables e below (T106.setTop (mkF m 22 #[.val (.ref a1)] [(.ref a1), (.int (0 : Int32)), (.ref b1), (.ref a1)])) _
    refine st108 _ ?_
    show Steps p.tables e below (T108.setTop (mkF m 25 #[.val (.ref a1)] [(.int (4 : Int32)), (.int (0 : Int32)), (.ref b1), (.ref a1)])) _
    refine st113.trans ?_
    show Steps p.tables e below (T113.setTop (mkF m 28 #[.val (.ref a1)] [])) _
    exact X113.returnOut hx Bd.returns (hb hby d_prog_23_method_7_28) hr
  · show Q_se16 Z a1 b1 k1 x0 x1 x2 x3 tk uR u1 u2 rU r16 r8 rA h0 n0 _ T113.heap _
    exact ⟨rfl, N113, K113, Ek113, Fk_rule_113, Fk_taken_113, Fk_needed_113, Fk_openCount_113⟩
theorem ef_se8 (m : MethodId) (a1 : Addr) : entryFrame m #[(.ref a1)] 1 = mkF m 0 #[.val (.ref a1)] [] := by first | (simp [entryFrame, mkF, argsToLocals, Value.category]; done) | rfl
def Q_se8 (Z : State) (a1 : Addr) (b1 : Addr) (k1 : ClassId) (aO : Addr) (tk : Int64) (uR : Value) (uL : Value) (uH : Value) (uC : Value) (uS : Value) (rU : Addr) (r16 : Addr) (r8 : Addr) (rA : Addr) (h0 : Heap) (n0 : Nat) (v : Option Value) (h : Heap) (L : List Loc) : Prop := v = none ∧ Fr n0 L ∧ Keep h0 h [a1] ∧ Exa Z h a1 "com/example/dewey/dewey/EncodingCheck" ∧ Fld Z h a1 "com/example/dewey/dewey/EncodingCheck" "needed" "I" (.int (0 : Int32)) ∧ Fld Z h a1 "com/example/dewey/dewey/EncodingCheck" "low" "I" uL ∧ Fld Z h a1 "com/example/dewey/dewey/EncodingCheck" "high" "I" uH ∧ Fld Z h a1 "com/example/dewey/dewey/EncodingCheck" "open" "[B" (.ref aO) ∧ Fld Z h a1 "com/example/dewey/dewey/EncodingCheck" "openCount" "I" uC ∧ Fld Z h a1 "com/example/dewey/dewey/EncodingCheck" "start" "J" uS ∧ Fld Z h a1 "com/example/dewey/dewey/EncodingCheck" "taken" "J" (.long (tk + (4 : Int64))) ∧ Fld Z h a1 "com/example/dewey/dewey/EncodingCheck" "rule" "Lcom/example/dewey/dewey/EncodingCheck$Rule;" (.ref r8)
set_option maxRecDepth 65536 in
set_option maxHeartbeats 40000000 in
theorem rm_se8 (l : Launch) (Z : State) (a0 : Array Value) (hw : ∀ d ∈ tables_1, d.before a0 Z = true) (ws : List Jvm.Cond) (a1 : Addr) (b1 : Addr) (k1 : ClassId) (aO : Addr) (tk : Int64) (uR : Value) (uL : Value) (uH : Value) (uC : Value) (uS : Value) (rU : Addr) (r16 : Addr) (r8 : Addr) (rA : Addr) (h0 : Heap) (n0 : Nat) (O0 : Old Z n0 h0) (SrU : Sta Z Z.heap "com/example/dewey/dewey/EncodingCheck$Rule" "UNKNOWN" "Lcom/example/dewey/dewey/EncodingCheck$Rule;" (.ref rU)) (Sr16 : Sta Z Z.heap "com/example/dewey/dewey/EncodingCheck$Rule" "UTF_16" "Lcom/example/dewey/dewey/EncodingCheck$Rule;" (.ref r16)) (Sr8 : Sta Z Z.heap "com/example/dewey/dewey/EncodingCheck$Rule" "UTF_8" "Lcom/example/dewey/dewey/EncodingCheck$Rule;" (.ref r8)) (SrA : Sta Z Z.heap "com/example/dewey/dewey/EncodingCheck$Rule" "US_ASCII" "Lcom/example/dewey/dewey/EncodingCheck$Rule;" (.ref rA)) (n_rU_r16 : rU ≠ r16) (n_rU_r8 : rU ≠ r8) (n_rU_rA : rU ≠ rA) (n_r16_r8 : r16 ≠ r8) (n_r16_rA : r16 ≠ rA) (n_r8_rA : r8 ≠ rA) (E1 : Exa Z h0 a1 "com/example/dewey/dewey/EncodingCheck") (F_needed : Fld Z h0 a1 "com/example/dewey/dewey/EncodingCheck" "needed" "I" (.int (0 : Int32))) (F_low : Fld Z h0 a1 "com/example/dewey/dewey/EncodingCheck" "low" "I" uL) (F_high : Fld Z h0 a1 "com/example/dewey/dewey/EncodingCheck" "high" "I" uH) (F_open : Fld Z h0 a1 "com/example/dewey/dewey/EncodingCheck" "open" "[B" (.ref aO)) (F_openCount : Fld Z h0 a1 "com/example/dewey/dewey/EncodingCheck" "openCount" "I" uC) (F_start : Fld Z h0 a1 "com/example/dewey/dewey/EncodingCheck" "start" "J" uS) (F_first : Fld Z h0 a1 "com/example/dewey/dewey/EncodingCheck" "first" "[B" (.ref b1)) (F_firstCount : Fld Z h0 a1 "com/example/dewey/dewey/EncodingCheck" "firstCount" "I" (.int (4 : Int32))) (F_rule : Fld Z h0 a1 "com/example/dewey/dewey/EncodingCheck" "rule" "Lcom/example/dewey/dewey/EncodingCheck$Rule;" uR) (F_taken : Fld Z h0 a1 "com/example/dewey/dewey/EncodingCheck" "taken" "J" (.long tk)) (VB : Arv Z h0 b1 k1 .byte (4 : Int32) [(.int (60 : Int32)), (.int (63 : Int32)), (.int (120 : Int32)), (.int (109 : Int32))] (.int (0 : Int32))) (g_a1 : n0 ≤ a1) (n_a1_b1 : a1 ≠ b1) :
    MetFree l (⟨"com/example/dewey/dewey/EncodingCheck", "showEncoding", "()V"⟩ : MethodName) (head1 (Jvm.Cond.code (⟨"com/example/dewey/dewey/EncodingCheck", "showEncoding", "()V"⟩ : MethodName) prog_23_method_7_code 1 none :: ws) ({ frames := 2, cells := 0, slots := 0, locals := 33 } : Room)) (fun a U => a = #[(.ref a1)] ∧ Z.Warmed39 U.vm ∧ U.heap = h0) (fun _ _ _ _ _ => True) (fun _ U o U' => ∃ v L, o = .returned v ∧ Q_se8 Z a1 b1 k1 aO tk uR uL uH uC uS rU r16 r8 rA h0 n0 v U'.heap L ∧ FrameEnd U o U' L ({ frames := 2, cells := 0, slots := 0, locals := 33 } : Room).cells ({ frames := 2, cells := 0, slots := 0, locals := 33 } : Room).slots) := by
  refine MetFree.of_bodySF (plainFor_of_name pn_0) hisR ?_
  intro p e s m args below meth c s₁ Bd hml0 hP hK
  obtain ⟨rfl, hZ, hh⟩ := hP
  have hx := Bd.exec
  have hby := Bd.bytes
  have hml : c.maxLocals = 1 := hml0
  have hown : s.vm.findClass "com/example/dewey/dewey/EncodingCheck" = some m.cls := findClass_of_methodNamed Bd.named
  have hnm := (name_of_methodNamed Bd.named Bd.method).1
  have X0 : Stand p l e ({ frames := 2, cells := 0, slots := 0, locals := 33 } : Room) s m #[(.ref a1)] below meth c s₁ [] 0 0 := Stand.of_body Bd
  have e0 : s₁.heap = h0 := by rw [← hh, Bd.state]; rfl
  have N0 := Fr.nil n0
  have K0 : Keep h0 h0 [a1] := Keep.refl _ _
  have pre0 : ∀ t, Steps p.tables e below (s₁.setTop (mkF m 0 #[.val (.ref a1)] [])) t → Steps p.tables e below (s₁.setTop (entryFrame m #[(.ref a1)] 1)) t := fun t k => castTop (ef_se8 m a1) k
  obtain ⟨T101, X101, e101, st101⟩ := getF X0 hx hZ hown (host := "") (Or.inl (hw _ (List.mem_of_getElem? (i := 10) rfl))) Via.refl e0 F_first (g := (mkF m 2 #[.val (.ref a1)] [(.ref a1), (.ref a1)])) rfl rfl (hb hby d_prog_23_method_7_2)
  obtain ⟨T102, X102, e102, st102⟩ := getF X101 hx hZ hown (host := "") (Or.inl (hw _ (List.mem_of_getElem? (i := 28) rfl))) Via.refl e101 F_firstCount (g := (mkF m 6 #[.val (.ref a1)] [(.ref a1), (.ref b1), (.ref a1)])) rfl rfl (hb hby d_prog_23_method_7_6)
  obtain ⟨_, _, ⟨T103, L103, k103, n103⟩, -, X103, ⟨Lc103, hQ103, l103, y103, z103⟩, st103⟩ := Jvm.LawKit.callS X102 hx (y := (⟨"com/example/dewey/dewey/EncodingCheck", "shown", "([BI)Lcom/example/dewey/dewey/EncodingCheck$Rule;"⟩ : MethodName)) hown (mvT hZ (hw _ (List.mem_of_getElem? (i := 34) rfl))) (mvT hZ (hw _ (List.mem_of_getElem? (i := 35) rfl))) (mvT hZ (hw _ (List.mem_of_getElem? (i := 2) rfl))) (mvT hZ (hw _ (List.mem_of_getElem? (i := 36) rfl))) (by decide) (backOf (W := 1) (rm_sh8 l Z a0 hw [] b1 k1 rU r16 r8 rA h0 n0 O0 SrU Sr16 Sr8 SrA n_rU_r16 n_rU_r8 n_rU_rA n_r16_r8 n_r16_rA n_r8_rA VB) hZ (hw _ (List.mem_of_getElem? (i := 36) rfl)) (hw _ (List.mem_of_getElem? (i := 2) rfl)) (by decide) (by decide)) (g := (mkF m 9 #[.val (.ref a1)] [(.int (4 : Int32)), (.ref b1), (.ref a1)])) rfl (by rw [hml]; rfl) (argsL := [(.ref b1), (.int (4 : Int32))]) (rest := [(.ref a1)]) (lenOf pd_1 rfl) rfl (by show 2 * 0 + _ ≤ _; exact Nat.le_of_eq rfl) (hb hby d_prog_23_method_7_9) (fun _ _ => ⟨rfl, e102, (by decide : 0 + 0 ≤ _), (by decide : 0 + 0 ≤ _)⟩)
  dsimp only [Pt.U, Pt.locs, Pt.cells, Pt.slots] at X103 l103 y103 z103 st103 hQ103
  subst l103 y103 z103
  obtain ⟨rfl, Nq103, e103⟩ := hQ103
  have N103 := Fr.app N0 Nq103
  obtain ⟨T104, h104, X104, e104, W104, st104⟩ := putF X103 hx hZ hown (host := "") (Or.inl (hw _ (List.mem_of_getElem? (i := 15) rfl))) Via.refl e103 F_rule E1 (Or.inl (hw _ (List.mem_of_getElem? (i := 16) rfl))) (hw _ (List.mem_of_getElem? (i := 1) rfl)) (ty := (.object "com/example/dewey/dewey/EncodingCheck$Rule")) (by decide) rfl rfl (g := (mkF m 12 #[.val (.ref a1)] [(.ref r8), (.ref a1)])) rfl rfl (hb hby d_prog_23_method_7_12)
  have F104 := F_rule.same W104
  have N104 := Fr.snoc X104 N103 g_a1
  have O104 := O0.wr W104 g_a1
  have K104 := K0.wr W104 (Or.inl (List.mem_of_getElem? (i := 0) rfl))
  have f105 := (F_first.other W104 (Or.inr (slot_ne (Or.inr (hw _ (List.mem_of_getElem? (i := 11) rfl))) (Or.inl (hw _ (List.mem_of_getElem? (i := 16) rfl))) (by decide) (t := (.array .byte)) (t' := (.object "com/example/dewey/dewey/EncodingCheck$Rule")) (by decide) (by decide))))
  obtain ⟨T106, X106, e106, st106⟩ := getF X104 hx hZ hown (host := "") (Or.inl (hw _ (List.mem_of_getElem? (i := 10) rfl))) Via.refl e104 f105 (g := (mkF m 17 #[.val (.ref a1)] [(.ref a1), (.ref a1)])) rfl rfl (hb hby d_prog_23_method_7_17)
  have f107 := (F_firstCount.other W104 (Or.inr (slot_ne (Or.inl (hw _ (List.mem_of_getElem? (i := 29) rfl))) (Or.inl (hw _ (List.mem_of_getElem? (i := 16) rfl))) (by decide) (t := .int) (t' := (.object "com/example/dewey/dewey/EncodingCheck$Rule")) (by decide) (by decide))))
  obtain ⟨T108, X108, e108, st108⟩ := getF X106 hx hZ hown (host := "") (Or.inl (hw _ (List.mem_of_getElem? (i := 28) rfl))) Via.refl e106 f107 (g := (mkF m 22 #[.val (.ref a1)] [(.ref a1), (.int (0 : Int32)), (.ref b1), (.ref a1)])) rfl rfl (hb hby d_prog_23_method_7_22)
  have f109 := (E1.wr W104)
  have f110 := (F_needed.other W104 (Or.inr (slot_ne (Or.inl (hw _ (List.mem_of_getElem? (i := 55) rfl))) (Or.inl (hw _ (List.mem_of_getElem? (i := 16) rfl))) (by decide) (t := .int) (t' := (.object "com/example/dewey/dewey/EncodingCheck$Rule")) (by decide) (by decide))))
  have f111 := (F_low.other W104 (Or.inr (slot_ne (Or.inl (hw _ (List.mem_of_getElem? (i := 18) rfl))) (Or.inl (hw _ (List.mem_of_getElem? (i := 16) rfl))) (by decide) (t := .int) (t' := (.object "com/example/dewey/dewey/EncodingCheck$Rule")) (by decide) (by decide))))
  have f112 := (F_high.other W104 (Or.inr (slot_ne (Or.inl (hw _ (List.mem_of_getElem? (i := 20) rfl))) (Or.inl (hw _ (List.mem_of_getElem? (i := 16) rfl))) (by decide) (t := .int) (t' := (.object "com/example/dewey/dewey/EncodingCheck$Rule")) (by decide) (by decide))))
  have f113 := (F_open.other W104 (Or.inr (slot_ne (Or.inr (hw _ (List.mem_of_getElem? (i := 22) rfl))) (Or.inl (hw _ (List.mem_of_getElem? (i := 16) rfl))) (by decide) (t := (.array .byte)) (t' := (.object "com/example/dewey/dewey/EncodingCheck$Rule")) (by decide) (by decide))))
  have f114 := (F_openCount.other W104 (Or.inr (slot_ne (Or.inl (hw _ (List.mem_of_getElem? (i := 57) rfl))) (Or.inl (hw _ (List.mem_of_getElem? (i := 16) rfl))) (by decide) (t := .int) (t' := (.object "com/example/dewey/dewey/EncodingCheck$Rule")) (by decide) (by decide))))
  have f115 := (F_start.other W104 (Or.inr (slot_ne (Or.inl (hw _ (List.mem_of_getElem? (i := 70) rfl))) (Or.inl (hw _ (List.mem_of_getElem? (i := 16) rfl))) (by decide) (t := .long) (t' := (.object "com/example/dewey/dewey/EncodingCheck$Rule")) (by decide) (by decide))))
  have f116 := (F_taken.other W104 (Or.inr (slot_ne (Or.inl (hw _ (List.mem_of_getElem? (i := 48) rfl))) (Or.inl (hw _ (List.mem_of_getElem? (i := 16) rfl))) (by decide) (t := .long) (t' := (.object "com/example/dewey/dewey/EncodingCheck$Rule")) (by decide) (by decide))))
  have f117 := (VB.other W104 (Ne.symm n_a1_b1))
  obtain ⟨cq118, q118, q118'⟩ := f109.cell
  obtain ⟨_, _, ⟨T118, L118, k118, n118⟩, -, X118, ⟨Lc118, hQ118, l118, y118, z118⟩, st118⟩ := X108.privateBack hx (y := (⟨"com/example/dewey/dewey/EncodingCheck", "check", "([BII)V"⟩ : MethodName)) hown (mvT hZ (hw _ (List.mem_of_getElem? (i := 39) rfl))) (mvT hZ (hw _ (List.mem_of_getElem? (i := 40) rfl))) (own_selP (y := (⟨"com/example/dewey/dewey/EncodingCheck", "check", "([BII)V"⟩ : MethodName)) hZ (hw _ (List.mem_of_getElem? (i := 1) rfl)) (hw _ (List.mem_of_getElem? (i := 41) rfl)) (hw _ (List.mem_of_getElem? (i := 40) rfl)) (by decide)) (Cond.privateMethod_at (mvP hZ (hw _ (List.mem_of_getElem? (i := 41) rfl)) (args := #[]))) (mvT hZ (hw _ (List.mem_of_getElem? (i := 42) rfl))) (by decide) (backOf (W := 0) (rm_ck8f l Z a0 hw [] a1 b1 k1 aO tk uL uH uC uS rU r16 r8 rA h104 n0 O104 SrU Sr16 Sr8 SrA n_rU_r16 n_rU_r8 n_rU_rA n_r16_r8 n_r16_rA n_r8_rA f109 f110 f111 f112 f113 f114 f115 f116 F104 f117 g_a1) hZ (hw _ (List.mem_of_getElem? (i := 42) rfl)) (hw _ (List.mem_of_getElem? (i := 2) rfl)) (by decide) (by decide)) (g := (mkF m 25 #[.val (.ref a1)] [(.int (4 : Int32)), (.int (0 : Int32)), (.ref b1), (.ref a1)])) rfl (by rw [hml]; rfl) (Steps.refl _) (a := a1) (by rw [e108]; exact q118) q118' (argsL := [(.ref b1), (.int (0 : Int32)), (.int (4 : Int32))]) (rest := []) (lenOf pd_0 rfl) rfl (by show 2 * 0 + _ ≤ _; exact Nat.le_of_eq rfl) (hb hby d_prog_23_method_7_25) (fun _ _ => ⟨rfl, e108, (by decide : 0 + 0 ≤ _), (by decide : 0 + 0 ≤ _)⟩)
  dsimp only [Pt.U, Pt.locs, Pt.cells, Pt.slots] at X118 l118 y118 z118 st118 hQ118
  subst l118 y118 z118
  obtain ⟨rfl, Nq118, Kq118, Ek118, Fk_needed_118, Fk_low_118, Fk_high_118, Fk_open_118, Fk_openCount_118, Fk_start_118, Fk_taken_118, Fk_rule_118⟩ := hQ118
  have N118 := Fr.app N104 Nq118
  have O118 := O104.keep Kq118 (allS g_a1 all0)
  have K118 := K104.trans Kq118 (allS (Or.inl (List.mem_of_getElem? (i := 0) rfl)) all0)
  obtain ⟨fs, hr, hrun, hended, hW, hsame⟩ := X118.leave (v := none) (fun _ => rfl)
  refine ⟨_, _, pre0 _ ?_, hrun, hended, _, _, rfl, ?_, ⟨_, rfl⟩, hW, hsame.mono (by decide) (by decide)⟩
  · show Steps p.tables e below (s₁.setTop (mkF m 0 #[.val (.ref a1)] [])) _
    refine XS.aloadN X0.here hx rfl (hb hby d_prog_23_method_7_0) rfl rfl ?_
    refine XS.aloadN X0.here hx rfl (hb hby d_prog_23_method_7_1) rfl rfl ?_
    show Steps p.tables e below (s₁.setTop (mkF m 2 #[.val (.ref a1)] [(.ref a1), (.ref a1)])) _
    refine st101 _ ?_
    show Steps p.tables e below (T101.setTop (mkF m 5 #[.val (.ref a1)] [(.ref b1), (.ref a1)])) _
    refine XS.aloadN X101.here hx rfl (hb hby d_prog_23_method_7_5) rfl rfl ?_
    show Steps p.tables e below (T101.setTop (mkF m 6 #[.val (.ref a1)] [(.ref a1), (.ref b1), (.ref a1)])) _
    refine st102 _ ?_
    show Steps p.tables e below (T102.setTop (mkF m 9 #[.val (.ref a1)] [(.int (4 : Int32)), (.ref b1), (.ref a1)])) _
    refine st103 _ ?_
    show Steps p.tables e below (T103.setTop (mkF m 12 #[.val (.ref a1)] [(.ref r8), (.ref a1)])) _
    refine st104 _ ?_
    show Steps p.tables e below (T104.setTop (mkF m 15 #[.val (.ref a1)] [])) _
    refine XS.aloadN X104.here hx rfl (hb hby d_prog_23_method_7_15) rfl rfl ?_
    refine XS.aloadN X104.here hx rfl (hb hby d_prog_23_method_7_16) rfl rfl ?_
    show Steps p.tables e below (T104.setTop (mkF m 17 #[.val (.ref a1)] [(.ref a1), (.ref a1)])) _
    refine st106 _ ?_
    show Steps p.tables e below (T106.setTop (mkF m 20 #[.val (.ref a1)] [(.ref b1), (.ref a1)])) _
    refine XS.iconst X106.here hx rfl (hb hby d_prog_23_method_7_20) ?_
    refine XS.aloadN X106.here hx rfl (hb hby d_prog_23_method_7_21) rfl rfl ?_
    show Steps p.tables e below (T106.setTop (mkF m 22 #[.val (.ref a1)] [(.ref a1), (.int (0 : Int32)), (.ref b1), (.ref a1)])) _
    refine st108 _ ?_
    show Steps p.tables e below (T108.setTop (mkF m 25 #[.val (.ref a1)] [(.int (4 : Int32)), (.int (0 : Int32)), (.ref b1), (.ref a1)])) _
    refine st118.trans ?_
    show Steps p.tables e below (T118.setTop (mkF m 28 #[.val (.ref a1)] [])) _
    exact X118.returnOut hx Bd.returns (hb hby d_prog_23_method_7_28) hr
  · show Q_se8 Z a1 b1 k1 aO tk uR uL uH uC uS rU r16 r8 rA h0 n0 _ T118.heap _
    exact ⟨rfl, N118, K118, Ek118, Fk_needed_118, Fk_low_118, Fk_high_118, Fk_open_118, Fk_openCount_118, Fk_start_118, Fk_taken_118, Fk_rule_118⟩
theorem ef_tA (m : MethodId) (a1 : Addr) (aH : Addr) : entryFrame m #[(.ref a1), (.ref aH), (.int (0 : Int32)), (.int (4 : Int32))] 4 = mkF m 0 #[.val (.ref a1), .val (.ref aH), .val (.int (0 : Int32)), .val (.int (4 : Int32))] [] := by first | (simp [entryFrame, mkF, argsToLocals, Value.category]; done) | rfl
def Q_tA (Z : State) (a1 : Addr) (aH : Addr) (kH : ClassId) (b1 : Addr) (k1 : ClassId) (x0 : Int32) (x1 : Int32) (x2 : Int32) (x3 : Int32) (tk : Int64) (u1 : Value) (u2 : Value) (rU : Addr) (r16 : Addr) (r8 : Addr) (rA : Addr) (h0 : Heap) (n0 : Nat) (v : Option Value) (h : Heap) (L : List Loc) : Prop := v = none ∧ Fr n0 L ∧ Keep h0 h [a1, b1] ∧ Exa Z h a1 "com/example/dewey/dewey/EncodingCheck" ∧ Fld Z h a1 "com/example/dewey/dewey/EncodingCheck" "rule" "Lcom/example/dewey/dewey/EncodingCheck$Rule;" (.ref r16) ∧ Fld Z h a1 "com/example/dewey/dewey/EncodingCheck" "taken" "J" (.long ((tk + ((4 : Int32) - (0 : Int32)).toInt64) + ((4 : Int32) - (4 : Int32)).toInt64)) ∧ Fld Z h a1 "com/example/dewey/dewey/EncodingCheck" "needed" "I" u1 ∧ Fld Z h a1 "com/example/dewey/dewey/EncodingCheck" "openCount" "I" u2
set_option maxRecDepth 65536 in
set_option maxHeartbeats 40000000 in
theorem rm_tA (l : Launch) (Z : State) (a0 : Array Value) (hw : ∀ d ∈ tables_1, d.before a0 Z = true) (ws : List Jvm.Cond) (a1 : Addr) (aH : Addr) (kH : ClassId) (b1 : Addr) (k1 : ClassId) (x0 : Int32) (x1 : Int32) (x2 : Int32) (x3 : Int32) (tk : Int64) (u1 : Value) (u2 : Value) (rU : Addr) (r16 : Addr) (r8 : Addr) (rA : Addr) (h0 : Heap) (n0 : Nat) (O0 : Old Z n0 h0) (SrU : Sta Z Z.heap "com/example/dewey/dewey/EncodingCheck$Rule" "UNKNOWN" "Lcom/example/dewey/dewey/EncodingCheck$Rule;" (.ref rU)) (Sr16 : Sta Z Z.heap "com/example/dewey/dewey/EncodingCheck$Rule" "UTF_16" "Lcom/example/dewey/dewey/EncodingCheck$Rule;" (.ref r16)) (Sr8 : Sta Z Z.heap "com/example/dewey/dewey/EncodingCheck$Rule" "UTF_8" "Lcom/example/dewey/dewey/EncodingCheck$Rule;" (.ref r8)) (SrA : Sta Z Z.heap "com/example/dewey/dewey/EncodingCheck$Rule" "US_ASCII" "Lcom/example/dewey/dewey/EncodingCheck$Rule;" (.ref rA)) (n_rU_r16 : rU ≠ r16) (n_rU_r8 : rU ≠ r8) (n_rU_rA : rU ≠ rA) (n_r16_r8 : r16 ≠ r8) (n_r16_rA : r16 ≠ rA) (n_r8_rA : r8 ≠ rA) (E1 : Exa Z h0 a1 "com/example/dewey/dewey/EncodingCheck") (F_rule : Fld Z h0 a1 "com/example/dewey/dewey/EncodingCheck" "rule" "Lcom/example/dewey/dewey/EncodingCheck$Rule;" (.ref rU)) (F_firstCount : Fld Z h0 a1 "com/example/dewey/dewey/EncodingCheck" "firstCount" "I" (.int (0 : Int32))) (F_first : Fld Z h0 a1 "com/example/dewey/dewey/EncodingCheck" "first" "[B" (.ref b1)) (F_taken : Fld Z h0 a1 "com/example/dewey/dewey/EncodingCheck" "taken" "J" (.long tk)) (F_needed : Fld Z h0 a1 "com/example/dewey/dewey/EncodingCheck" "needed" "I" u1) (F_openCount : Fld Z h0 a1 "com/example/dewey/dewey/EncodingCheck" "openCount" "I" u2) (VH : Arv Z h0 aH kH .byte (4 : Int32) [(.int x0), (.int x1), (.int x2), (.int x3)] (.int (0 : Int32))) (VB : Arv Z h0 b1 k1 .byte (4 : Int32) [(.int (0 : Int32)), (.int (0 : Int32)), (.int (0 : Int32)), (.int (0 : Int32))] (.int (0 : Int32))) (g_a1 : n0 ≤ a1) (g_b1 : n0 ≤ b1) (n_a1_b1 : a1 ≠ b1) (n_a1_aH : a1 ≠ aH) (n_b1_aH : b1 ≠ aH) (hxb : (x0 &&& (255 : Int32) = 254 ∧ x1 &&& (255 : Int32) = 255) ∨ (x0 &&& (255 : Int32) = 255 ∧ x1 &&& (255 : Int32) = 254)) :
    MetFree l (⟨"com/example/dewey/dewey/EncodingCheck", "take", "([BII)V"⟩ : MethodName) (head1 (Jvm.Cond.code (⟨"com/example/dewey/dewey/EncodingCheck", "take", "([BII)V"⟩ : MethodName) prog_23_method_2_code 4 none :: ws) ({ frames := 2, cells := 0, slots := 0, locals := 29 } : Room)) (fun a U => a = #[(.ref a1), (.ref aH), (.int (0 : Int32)), (.int (4 : Int32))] ∧ Z.Warmed39 U.vm ∧ U.heap = h0) (fun _ _ _ _ _ => True) (fun _ U o U' => ∃ v L, o = .returned v ∧ Q_tA Z a1 aH kH b1 k1 x0 x1 x2 x3 tk u1 u2 rU r16 r8 rA h0 n0 v U'.heap L ∧ FrameEnd U o U' L ({ frames := 2, cells := 0, slots := 0, locals := 29 } : Room).cells ({ frames := 2, cells := 0, slots := 0, locals := 29 } : Room).slots) := by
  refine MetFree.of_bodySF (plainFor_of_name pn_0) hisR ?_
  intro p e s m args below meth c s₁ Bd hml0 hP hK
  obtain ⟨rfl, hZ, hh⟩ := hP
  have hx := Bd.exec
  have hby := Bd.bytes
  have hml : c.maxLocals = 4 := hml0
  have hown : s.vm.findClass "com/example/dewey/dewey/EncodingCheck" = some m.cls := findClass_of_methodNamed Bd.named
  have hnm := (name_of_methodNamed Bd.named Bd.method).1
  have X0 : Stand p l e ({ frames := 2, cells := 0, slots := 0, locals := 29 } : Room) s m #[(.ref a1), (.ref aH), (.int (0 : Int32)), (.int (4 : Int32))] below meth c s₁ [] 0 0 := Stand.of_body Bd
  have e0 : s₁.heap = h0 := by rw [← hh, Bd.state]; rfl
  have N0 := Fr.nil n0
  have K0 : Keep h0 h0 [a1, b1] := Keep.refl _ _
  have pre0 : ∀ t, Steps p.tables e below (s₁.setTop (mkF m 0 #[.val (.ref a1), .val (.ref aH), .val (.int (0 : Int32)), .val (.int (4 : Int32))] [])) t → Steps p.tables e below (s₁.setTop (entryFrame m #[(.ref a1), (.ref aH), (.int (0 : Int32)), (.int (4 : Int32))] 4)) t := fun t k => castTop (ef_tA m a1 aH) k
  obtain ⟨T101, X101, e101, st101⟩ := getF X0 hx hZ hown (host := "") (Or.inl (hw _ (List.mem_of_getElem? (i := 15) rfl))) Via.refl e0 F_rule (g := (mkF m 1 #[.val (.ref a1), .val (.ref aH), .val (.int (0 : Int32)), .val (.int (4 : Int32))] [(.ref a1)])) rfl rfl (hb hby d_prog_23_method_2_1)
  obtain ⟨T102, X102, e102, st102⟩ := getS2 X101 hx hZ hown (host := "") (Or.inl (hw _ (List.mem_of_getElem? (i := 12) rfl))) Via.refl e101 (SrU.ext O0.2) (g := (mkF m 4 #[.val (.ref a1), .val (.ref aH), .val (.int (0 : Int32)), .val (.int (4 : Int32))] [(.ref rU)])) rfl (hb hby d_prog_23_method_2_4)
  obtain ⟨T103, X103, e103, st103⟩ := getF X102 hx hZ hown (host := "") (Or.inl (hw _ (List.mem_of_getElem? (i := 28) rfl))) Via.refl e102 F_firstCount (g := (mkF m 16 #[.val (.ref a1), .val (.ref aH), .val (.int (0 : Int32)), .val (.int (4 : Int32))] [(.ref a1)])) rfl rfl (hb hby d_prog_23_method_2_16)
  obtain ⟨T104, X104, e104, st104⟩ := getF X103 hx hZ hown (host := "") (Or.inl (hw _ (List.mem_of_getElem? (i := 10) rfl))) Via.refl e103 F_first (g := (mkF m 24 #[.val (.ref a1), .val (.ref aH), .val (.int (0 : Int32)), .val (.int (4 : Int32))] [(.ref a1)])) rfl rfl (hb hby d_prog_23_method_2_24)
  obtain ⟨T105, X105, e105, st105⟩ := getF X104 hx hZ hown (host := "") (Or.inl (hw _ (List.mem_of_getElem? (i := 28) rfl))) Via.refl e104 F_firstCount (g := (mkF m 29 #[.val (.ref a1), .val (.ref aH), .val (.int (0 : Int32)), .val (.int (4 : Int32))] [(.ref a1), (.ref a1), (.ref b1)])) rfl rfl (hb hby d_prog_23_method_2_29)
  obtain ⟨T106, h106, X106, e106, W106, st106⟩ := putF X105 hx hZ hown (host := "") (Or.inl (hw _ (List.mem_of_getElem? (i := 28) rfl))) Via.refl e105 F_firstCount E1 (Or.inl (hw _ (List.mem_of_getElem? (i := 29) rfl))) (hw _ (List.mem_of_getElem? (i := 1) rfl)) (ty := .int) (by decide) rfl rfl (g := (mkF m 35 #[.val (.ref a1), .val (.ref aH), .val (.int (0 : Int32)), .val (.int (4 : Int32))] [(.int (1 : Int32)), (.ref a1), (.int (0 : Int32)), (.ref b1)])) rfl rfl (hb hby d_prog_23_method_2_35)
  have F106 := F_firstCount.same W106
  have N106 := Fr.snoc X106 N0 g_a1
  have O106 := O0.wr W106 g_a1
  have K106 := K0.wr W106 (Or.inl (List.mem_of_getElem? (i := 0) rfl))
  have f107 := (VH.other W106 (Ne.symm n_a1_aH))
  obtain ⟨cl108, Ar108, q108, S108, Ne108, H108, G108⟩ := id f107
  have hin108 : ¬ ((0 : Int32) < 0 ∨ cl108.slots.size ≤ ((0 : Int32)).toNatClampNeg) := inb_of S108 ⟨by decide, by decide⟩
  have hat108 : cl108.slots[((0 : Int32)).toNatClampNeg]? = some (.int x0) := H108.at hin108 rfl
  have f109 := (VB.other W106 (Ne.symm n_a1_b1))
  obtain ⟨cl110, Ar110, q110, S110, Ne110, H110, G110⟩ := id f109
  have hin110 : ¬ ((0 : Int32) < 0 ∨ cl110.slots.size ≤ ((0 : Int32)).toNatClampNeg) := inb_of S110 ⟨by decide, by decide⟩
  obtain ⟨T111, h111, X111, e111, W111, st111⟩ := stB X106 hx hZ e106 Ar110 (j := (0 : Int32)) hin110 (g := (mkF m 44 #[.val (.ref a1), .val (.ref aH), .val (.int (1 : Int32)), .val (.int (4 : Int32))] [(.int x0), (.int (0 : Int32)), (.ref b1)])) rfl rfl (hb hby d_prog_23_method_2_44)
  have V111 : Arv Z h111 b1 k1 .byte (4 : Int32) [(.int (nar .byte x0)), (.int (0 : Int32)), (.int (0 : Int32)), (.int (0 : Int32))] (.int (0 : Int32)) := Arv.set Ar110 q110 S110 Ne110 H110 G110 (fits_nar_byte _) W111 0 rfl (Nat.le_of_ble_eq_true rfl)
  have N111 := Fr.snoc X111 N106 g_b1
  have O111 := O106.wr W111 g_b1
  have K111 := K106.wr W111 (Or.inl (List.mem_of_getElem? (i := 1) rfl))
  have f112 := (F106.other W111 (Or.inl n_a1_b1))
  obtain ⟨T113, X113, e113, st113⟩ := getF X111 hx hZ hown (host := "") (Or.inl (hw _ (List.mem_of_getElem? (i := 28) rfl))) Via.refl e111 f112 (g := (mkF m 16 #[.val (.ref a1), .val (.ref aH), .val (.int (1 : Int32)), .val (.int (4 : Int32))] [(.ref a1)])) rfl rfl (hb hby d_prog_23_method_2_16)
  have f114 := ((F_first.other W106 (Or.inr (slot_ne (Or.inr (hw _ (List.mem_of_getElem? (i := 11) rfl))) (Or.inl (hw _ (List.mem_of_getElem? (i := 29) rfl))) (by decide) (t := (.array .byte)) (t' := .int) (by decide) (by decide)))).other W111 (Or.inl n_a1_b1))
  obtain ⟨T115, X115, e115, st115⟩ := getF X113 hx hZ hown (host := "") (Or.inl (hw _ (List.mem_of_getElem? (i := 10) rfl))) Via.refl e113 f114 (g := (mkF m 24 #[.val (.ref a1), .val (.ref aH), .val (.int (1 : Int32)), .val (.int (4 : Int32))] [(.ref a1)])) rfl rfl (hb hby d_prog_23_method_2_24)
  obtain ⟨T116, X116, e116, st116⟩ := getF X115 hx hZ hown (host := "") (Or.inl (hw _ (List.mem_of_getElem? (i := 28) rfl))) Via.refl e115 f112 (g := (mkF m 29 #[.val (.ref a1), .val (.ref aH), .val (.int (1 : Int32)), .val (.int (4 : Int32))] [(.ref a1), (.ref a1), (.ref b1)])) rfl rfl (hb hby d_prog_23_method_2_29)
  have f117 := ((E1.wr W106).wr W111)
  obtain ⟨T118, h118, X118, e118, W118, st118⟩ := putF X116 hx hZ hown (host := "") (Or.inl (hw _ (List.mem_of_getElem? (i := 28) rfl))) Via.refl e116 f112 f117 (Or.inl (hw _ (List.mem_of_getElem? (i := 29) rfl))) (hw _ (List.mem_of_getElem? (i := 1) rfl)) (ty := .int) (by decide) rfl rfl (g := (mkF m 35 #[.val (.ref a1), .val (.ref aH), .val (.int (1 : Int32)), .val (.int (4 : Int32))] [(.int (2 : Int32)), (.ref a1), (.int (1 : Int32)), (.ref b1)])) rfl rfl (hb hby d_prog_23_method_2_35)
  have F118 := f112.same W118
  have N118 := Fr.snoc X118 N111 g_a1
  have O118 := O111.wr W118 g_a1
  have K118 := K111.wr W118 (Or.inl (List.mem_of_getElem? (i := 0) rfl))
  have f119 := ((f107.other W111 (Ne.symm n_b1_aH)).other W118 (Ne.symm n_a1_aH))
  obtain ⟨cl120, Ar120, q120, S120, Ne120, H120, G120⟩ := id f119
  have hin120 : ¬ ((1 : Int32) < 0 ∨ cl120.slots.size ≤ ((1 : Int32)).toNatClampNeg) := inb_of S120 ⟨by decide, by decide⟩
  have hat120 : cl120.slots[((1 : Int32)).toNatClampNeg]? = some (.int x1) := H120.at hin120 rfl
  have f121 := (V111.other W118 (Ne.symm n_a1_b1))
  obtain ⟨cl122, Ar122, q122, S122, Ne122, H122, G122⟩ := id f121
  have hin122 : ¬ ((1 : Int32) < 0 ∨ cl122.slots.size ≤ ((1 : Int32)).toNatClampNeg) := inb_of S122 ⟨by decide, by decide⟩
  obtain ⟨T123, h123, X123, e123, W123, st123⟩ := stB X118 hx hZ e118 Ar122 (j := (1 : Int32)) hin122 (g := (mkF m 44 #[.val (.ref a1), .val (.ref aH), .val (.int (2 : Int32)), .val (.int (4 : Int32))] [(.int x1), (.int (1 : Int32)), (.ref b1)])) rfl rfl (hb hby d_prog_23_method_2_44)
  have V123 : Arv Z h123 b1 k1 .byte (4 : Int32) [(.int (nar .byte x0)), (.int (nar .byte x1)), (.int (0 : Int32)), (.int (0 : Int32))] (.int (0 : Int32)) := Arv.set Ar122 q122 S122 Ne122 H122 G122 (fits_nar_byte _) W123 1 rfl (Nat.le_of_ble_eq_true rfl)
  have N123 := Fr.snoc X123 N118 g_b1
  have O123 := O118.wr W123 g_b1
  have K123 := K118.wr W123 (Or.inl (List.mem_of_getElem? (i := 1) rfl))
  have f124 := (F118.other W123 (Or.inl n_a1_b1))
  obtain ⟨T125, X125, e125, st125⟩ := getF X123 hx hZ hown (host := "") (Or.inl (hw _ (List.mem_of_getElem? (i := 28) rfl))) Via.refl e123 f124 (g := (mkF m 16 #[.val (.ref a1), .val (.ref aH), .val (.int (2 : Int32)), .val (.int (4 : Int32))] [(.ref a1)])) rfl rfl (hb hby d_prog_23_method_2_16)
  have f126 := ((f114.other W118 (Or.inr (slot_ne (Or.inr (hw _ (List.mem_of_getElem? (i := 11) rfl))) (Or.inl (hw _ (List.mem_of_getElem? (i := 29) rfl))) (by decide) (t := (.array .byte)) (t' := .int) (by decide) (by decide)))).other W123 (Or.inl n_a1_b1))
  obtain ⟨T127, X127, e127, st127⟩ := getF X125 hx hZ hown (host := "") (Or.inl (hw _ (List.mem_of_getElem? (i := 10) rfl))) Via.refl e125 f126 (g := (mkF m 24 #[.val (.ref a1), .val (.ref aH), .val (.int (2 : Int32)), .val (.int (4 : Int32))] [(.ref a1)])) rfl rfl (hb hby d_prog_23_method_2_24)
  obtain ⟨T128, X128, e128, st128⟩ := getF X127 hx hZ hown (host := "") (Or.inl (hw _ (List.mem_of_getElem? (i := 28) rfl))) Via.refl e127 f124 (g := (mkF m 29 #[.val (.ref a1), .val (.ref aH), .val (.int (2 : Int32)), .val (.int (4 : Int32))] [(.ref a1), (.ref a1), (.ref b1)])) rfl rfl (hb hby d_prog_23_method_2_29)
  have f129 := ((f117.wr W118).wr W123)
  obtain ⟨T130, h130, X130, e130, W130, st130⟩ := putF X128 hx hZ hown (host := "") (Or.inl (hw _ (List.mem_of_getElem? (i := 28) rfl))) Via.refl e128 f124 f129 (Or.inl (hw _ (List.mem_of_getElem? (i := 29) rfl))) (hw _ (List.mem_of_getElem? (i := 1) rfl)) (ty := .int) (by decide) rfl rfl (g := (mkF m 35 #[.val (.ref a1), .val (.ref aH), .val (.int (2 : Int32)), .val (.int (4 : Int32))] [(.int (3 : Int32)), (.ref a1), (.int (2 : Int32)), (.ref b1)])) rfl rfl (hb hby d_prog_23_method_2_35)
  have F130 := f124.same W130
  have N130 := Fr.snoc X130 N123 g_a1
  have O130 := O123.wr W130 g_a1
  have K130 := K123.wr W130 (Or.inl (List.mem_of_getElem? (i := 0) rfl))
  have f131 := ((f119.other W123 (Ne.symm n_b1_aH)).other W130 (Ne.symm n_a1_aH))
  obtain ⟨cl132, Ar132, q132, S132, Ne132, H132, G132⟩ := id f131
  have hin132 : ¬ ((2 : Int32) < 0 ∨ cl132.slots.size ≤ ((2 : Int32)).toNatClampNeg) := inb_of S132 ⟨by decide, by decide⟩
  have hat132 : cl132.slots[((2 : Int32)).toNatClampNeg]? = some (.int x2) := H132.at hin132 rfl
  have f133 := (V123.other W130 (Ne.symm n_a1_b1))
  obtain ⟨cl134, Ar134, q134, S134, Ne134, H134, G134⟩ := id f133
  have hin134 : ¬ ((2 : Int32) < 0 ∨ cl134.slots.size ≤ ((2 : Int32)).toNatClampNeg) := inb_of S134 ⟨by decide, by decide⟩
  obtain ⟨T135, h135, X135, e135, W135, st135⟩ := stB X130 hx hZ e130 Ar134 (j := (2 : Int32)) hin134 (g := (mkF m 44 #[.val (.ref a1), .val (.ref aH), .val (.int (3 : Int32)), .val (.int (4 : Int32))] [(.int x2), (.int (2 : Int32)), (.ref b1)])) rfl rfl (hb hby d_prog_23_method_2_44)
  have V135 : Arv Z h135 b1 k1 .byte (4 : Int32) [(.int (nar .byte x0)), (.int (nar .byte x1)), (.int (nar .byte x2)), (.int (0 : Int32))] (.int (0 : Int32)) := Arv.set Ar134 q134 S134 Ne134 H134 G134 (fits_nar_byte _) W135 2 rfl (Nat.le_of_ble_eq_true rfl)
  have N135 := Fr.snoc X135 N130 g_b1
  have O135 := O130.wr W135 g_b1
  have K135 := K130.wr W135 (Or.inl (List.mem_of_getElem? (i := 1) rfl))
  have f136 := (F130.other W135 (Or.inl n_a1_b1))
  obtain ⟨T137, X137, e137, st137⟩ := getF X135 hx hZ hown (host := "") (Or.inl (hw _ (List.mem_of_getElem? (i := 28) rfl))) Via.refl e135 f136 (g := (mkF m 16 #[.val (.ref a1), .val (.ref aH), .val (.int (3 : Int32)), .val (.int (4 : Int32))] [(.ref a1)])) rfl rfl (hb hby d_prog_23_method_2_16)
  have f138 := ((f126.other W130 (Or.inr (slot_ne (Or.inr (hw _ (List.mem_of_getElem? (i := 11) rfl))) (Or.inl (hw _ (List.mem_of_getElem? (i := 29) rfl))) (by decide) (t := (.array .byte)) (t' := .int) (by decide) (by decide)))).other W135 (Or.inl n_a1_b1))
  obtain ⟨T139, X139, e139, st139⟩ := getF X137 hx hZ hown (host := "") (Or.inl (hw _ (List.mem_of_getElem? (i := 10) rfl))) Via.refl e137 f138 (g := (mkF m 24 #[.val (.ref a1), .val (.ref aH), .val (.int (3 : Int32)), .val (.int (4 : Int32))] [(.ref a1)])) rfl rfl (hb hby d_prog_23_method_2_24)
  obtain ⟨T140, X140, e140, st140⟩ := getF X139 hx hZ hown (host := "") (Or.inl (hw _ (List.mem_of_getElem? (i := 28) rfl))) Via.refl e139 f136 (g := (mkF m 29 #[.val (.ref a1), .val (.ref aH), .val (.int (3 : Int32)), .val (.int (4 : Int32))] [(.ref a1), (.ref a1), (.ref b1)])) rfl rfl (hb hby d_prog_23_method_2_29)
  have f141 := ((f129.wr W130).wr W135)
  obtain ⟨T142, h142, X142, e142, W142, st142⟩ := putF X140 hx hZ hown (host := "") (Or.inl (hw _ (List.mem_of_getElem? (i := 28) rfl))) Via.refl e140 f136 f141 (Or.inl (hw _ (List.mem_of_getElem? (i := 29) rfl))) (hw _ (List.mem_of_getElem? (i := 1) rfl)) (ty := .int) (by decide) rfl rfl (g := (mkF m 35 #[.val (.ref a1), .val (.ref aH), .val (.int (3 : Int32)), .val (.int (4 : Int32))] [(.int (4 : Int32)), (.ref a1), (.int (3 : Int32)), (.ref b1)])) rfl rfl (hb hby d_prog_23_method_2_35)
  have F142 := f136.same W142
  have N142 := Fr.snoc X142 N135 g_a1
  have O142 := O135.wr W142 g_a1
  have K142 := K135.wr W142 (Or.inl (List.mem_of_getElem? (i := 0) rfl))
  have f143 := ((f131.other W135 (Ne.symm n_b1_aH)).other W142 (Ne.symm n_a1_aH))
  obtain ⟨cl144, Ar144, q144, S144, Ne144, H144, G144⟩ := id f143
  have hin144 : ¬ ((3 : Int32) < 0 ∨ cl144.slots.size ≤ ((3 : Int32)).toNatClampNeg) := inb_of S144 ⟨by decide, by decide⟩
  have hat144 : cl144.slots[((3 : Int32)).toNatClampNeg]? = some (.int x3) := H144.at hin144 rfl
  have f145 := (V135.other W142 (Ne.symm n_a1_b1))
  obtain ⟨cl146, Ar146, q146, S146, Ne146, H146, G146⟩ := id f145
  have hin146 : ¬ ((3 : Int32) < 0 ∨ cl146.slots.size ≤ ((3 : Int32)).toNatClampNeg) := inb_of S146 ⟨by decide, by decide⟩
  obtain ⟨T147, h147, X147, e147, W147, st147⟩ := stB X142 hx hZ e142 Ar146 (j := (3 : Int32)) hin146 (g := (mkF m 44 #[.val (.ref a1), .val (.ref aH), .val (.int (4 : Int32)), .val (.int (4 : Int32))] [(.int x3), (.int (3 : Int32)), (.ref b1)])) rfl rfl (hb hby d_prog_23_method_2_44)
  have V147 : Arv Z h147 b1 k1 .byte (4 : Int32) [(.int (nar .byte x0)), (.int (nar .byte x1)), (.int (nar .byte x2)), (.int (nar .byte x3))] (.int (0 : Int32)) := Arv.set Ar146 q146 S146 Ne146 H146 G146 (fits_nar_byte _) W147 3 rfl (Nat.le_of_ble_eq_true rfl)
  have N147 := Fr.snoc X147 N142 g_b1
  have O147 := O142.wr W147 g_b1
  have K147 := K142.wr W147 (Or.inl (List.mem_of_getElem? (i := 1) rfl))
  have f148 := (F142.other W147 (Or.inl n_a1_b1))
  obtain ⟨T149, X149, e149, st149⟩ := getF X147 hx hZ hown (host := "") (Or.inl (hw _ (List.mem_of_getElem? (i := 28) rfl))) Via.refl e147 f148 (g := (mkF m 49 #[.val (.ref a1), .val (.ref aH), .val (.int (4 : Int32)), .val (.int (4 : Int32))] [(.ref a1)])) rfl rfl (hb hby d_prog_23_method_2_49)
  have f150 := ((f141.wr W142).wr W147)
  have f151 := ((f138.other W142 (Or.inr (slot_ne (Or.inr (hw _ (List.mem_of_getElem? (i := 11) rfl))) (Or.inl (hw _ (List.mem_of_getElem? (i := 29) rfl))) (by decide) (t := (.array .byte)) (t' := .int) (by decide) (by decide)))).other W147 (Or.inl n_a1_b1))
  have f152 := ((((((((F_rule.other W106 (Or.inr (slot_ne (Or.inl (hw _ (List.mem_of_getElem? (i := 16) rfl))) (Or.inl (hw _ (List.mem_of_getElem? (i := 29) rfl))) (by decide) (t := (.object "com/example/dewey/dewey/EncodingCheck$Rule")) (t' := .int) (by decide) (by decide)))).other W111 (Or.inl n_a1_b1)).other W118 (Or.inr (slot_ne (Or.inl (hw _ (List.mem_of_getElem? (i := 16) rfl))) (Or.inl (hw _ (List.mem_of_getElem? (i := 29) rfl))) (by decide) (t := (.object "com/example/dewey/dewey/EncodingCheck$Rule")) (t' := .int) (by decide) (by decide)))).other W123 (Or.inl n_a1_b1)).other W130 (Or.inr (slot_ne (Or.inl (hw _ (List.mem_of_getElem? (i := 16) rfl))) (Or.inl (hw _ (List.mem_of_getElem? (i := 29) rfl))) (by decide) (t := (.object "com/example/dewey/dewey/EncodingCheck$Rule")) (t' := .int) (by decide) (by decide)))).other W135 (Or.inl n_a1_b1)).other W142 (Or.inr (slot_ne (Or.inl (hw _ (List.mem_of_getElem? (i := 16) rfl))) (Or.inl (hw _ (List.mem_of_getElem? (i := 29) rfl))) (by decide) (t := (.object "com/example/dewey/dewey/EncodingCheck$Rule")) (t' := .int) (by decide) (by decide)))).other W147 (Or.inl n_a1_b1))
  have f153 := ((((((((F_taken.other W106 (Or.inr (slot_ne (Or.inl (hw _ (List.mem_of_getElem? (i := 48) rfl))) (Or.inl (hw _ (List.mem_of_getElem? (i := 29) rfl))) (by decide) (t := .long) (t' := .int) (by decide) (by decide)))).other W111 (Or.inl n_a1_b1)).other W118 (Or.inr (slot_ne (Or.inl (hw _ (List.mem_of_getElem? (i := 48) rfl))) (Or.inl (hw _ (List.mem_of_getElem? (i := 29) rfl))) (by decide) (t := .long) (t' := .int) (by decide) (by decide)))).other W123 (Or.inl n_a1_b1)).other W130 (Or.inr (slot_ne (Or.inl (hw _ (List.mem_of_getElem? (i := 48) rfl))) (Or.inl (hw _ (List.mem_of_getElem? (i := 29) rfl))) (by decide) (t := .long) (t' := .int) (by decide) (by decide)))).other W135 (Or.inl n_a1_b1)).other W142 (Or.inr (slot_ne (Or.inl (hw _ (List.mem_of_getElem? (i := 48) rfl))) (Or.inl (hw _ (List.mem_of_getElem? (i := 29) rfl))) (by decide) (t := .long) (t' := .int) (by decide) (by decide)))).other W147 (Or.inl n_a1_b1))
  have f154 := ((((((((F_needed.other W106 (Or.inr (slot_ne (Or.inl (hw _ (List.mem_of_getElem? (i := 55) rfl))) (Or.inl (hw _ (List.mem_of_getElem? (i := 29) rfl))) (by decide) (t := .int) (t' := .int) (by decide) (by decide)))).other W111 (Or.inl n_a1_b1)).other W118 (Or.inr (slot_ne (Or.inl (hw _ (List.mem_of_getElem? (i := 55) rfl))) (Or.inl (hw _ (List.mem_of_getElem? (i := 29) rfl))) (by decide) (t := .int) (t' := .int) (by decide) (by decide)))).other W123 (Or.inl n_a1_b1)).other W130 (Or.inr (slot_ne (Or.inl (hw _ (List.mem_of_getElem? (i := 55) rfl))) (Or.inl (hw _ (List.mem_of_getElem? (i := 29) rfl))) (by decide) (t := .int) (t' := .int) (by decide) (by decide)))).other W135 (Or.inl n_a1_b1)).other W142 (Or.inr (slot_ne (Or.inl (hw _ (List.mem_of_getElem? (i := 55) rfl))) (Or.inl (hw _ (List.mem_of_getElem? (i := 29) rfl))) (by decide) (t := .int) (t' := .int) (by decide) (by decide)))).other W147 (Or.inl n_a1_b1))
  have f155 := ((((((((F_openCount.other W106 (Or.inr (slot_ne (Or.inl (hw _ (List.mem_of_getElem? (i := 57) rfl))) (Or.inl (hw _ (List.mem_of_getElem? (i := 29) rfl))) (by decide) (t := .int) (t' := .int) (by decide) (by decide)))).other W111 (Or.inl n_a1_b1)).other W118 (Or.inr (slot_ne (Or.inl (hw _ (List.mem_of_getElem? (i := 57) rfl))) (Or.inl (hw _ (List.mem_of_getElem? (i := 29) rfl))) (by decide) (t := .int) (t' := .int) (by decide) (by decide)))).other W123 (Or.inl n_a1_b1)).other W130 (Or.inr (slot_ne (Or.inl (hw _ (List.mem_of_getElem? (i := 57) rfl))) (Or.inl (hw _ (List.mem_of_getElem? (i := 29) rfl))) (by decide) (t := .int) (t' := .int) (by decide) (by decide)))).other W135 (Or.inl n_a1_b1)).other W142 (Or.inr (slot_ne (Or.inl (hw _ (List.mem_of_getElem? (i := 57) rfl))) (Or.inl (hw _ (List.mem_of_getElem? (i := 29) rfl))) (by decide) (t := .int) (t' := .int) (by decide) (by decide)))).other W147 (Or.inl n_a1_b1))
  obtain ⟨cq156, q156, q156'⟩ := f150.cell
  obtain ⟨_, _, ⟨T156, L156, k156, n156⟩, -, X156, ⟨Lc156, hQ156, l156, y156, z156⟩, st156⟩ := X149.privateBack hx (y := (⟨"com/example/dewey/dewey/EncodingCheck", "showEncoding", "()V"⟩ : MethodName)) hown (mvT hZ (hw _ (List.mem_of_getElem? (i := 30) rfl))) (mvT hZ (hw _ (List.mem_of_getElem? (i := 31) rfl))) (own_selP (y := (⟨"com/example/dewey/dewey/EncodingCheck", "showEncoding", "()V"⟩ : MethodName)) hZ (hw _ (List.mem_of_getElem? (i := 1) rfl)) (hw _ (List.mem_of_getElem? (i := 32) rfl)) (hw _ (List.mem_of_getElem? (i := 31) rfl)) (by decide)) (Cond.privateMethod_at (mvP hZ (hw _ (List.mem_of_getElem? (i := 32) rfl)) (args := #[]))) (mvT hZ (hw _ (List.mem_of_getElem? (i := 33) rfl))) (by decide) (backOf (W := 0) (rm_se16 l Z a0 hw [] a1 b1 k1 (nar .byte x0) (nar .byte x1) (nar .byte x2) (nar .byte x3) tk ((.ref rU)) u1 u2 rU r16 r8 rA h147 n0 O147 SrU Sr16 Sr8 SrA n_rU_r16 n_rU_r8 n_rU_rA n_r16_r8 n_r16_rA n_r8_rA f150 f151 f148 f152 f153 f154 f155 V147 g_a1 n_a1_b1 (by rw [own_nb, own_nb]; exact hxb)) hZ (hw _ (List.mem_of_getElem? (i := 33) rfl)) (hw _ (List.mem_of_getElem? (i := 2) rfl)) (by decide) (by decide)) (g := (mkF m 58 #[.val (.ref a1), .val (.ref aH), .val (.int (4 : Int32)), .val (.int (4 : Int32))] [(.ref a1)])) rfl (by rw [hml]; rfl) (Steps.refl _) (a := a1) (by rw [e149]; exact q156) q156' (argsL := []) (rest := []) (lenOf pd_2 rfl) rfl (by show 2 * 0 + _ ≤ _; exact Nat.le_of_eq rfl) (hb hby d_prog_23_method_2_58) (fun _ _ => ⟨rfl, e149, (by decide : 0 + 0 ≤ _), (by decide : 0 + 0 ≤ _)⟩)
  dsimp only [Pt.U, Pt.locs, Pt.cells, Pt.slots] at X156 l156 y156 z156 st156 hQ156
  subst l156 y156 z156
  obtain ⟨rfl, Nq156, Kq156, Ek156, Fk_rule_156, Fk_taken_156, Fk_needed_156, Fk_openCount_156⟩ := hQ156
  have N156 := Fr.app N147 Nq156
  have O156 := O147.keep Kq156 (allS g_a1 all0)
  have K156 := K147.trans Kq156 (allS (Or.inl (List.mem_of_getElem? (i := 0) rfl)) all0)
  obtain ⟨cq157, q157, q157'⟩ := Ek156.cell
  obtain ⟨_, _, ⟨T157, L157, k157, n157⟩, -, X157, ⟨Lc157, hQ157, l157, y157, z157⟩, st157⟩ := X156.privateBack hx (y := (⟨"com/example/dewey/dewey/EncodingCheck", "check", "([BII)V"⟩ : MethodName)) hown (mvT hZ (hw _ (List.mem_of_getElem? (i := 39) rfl))) (mvT hZ (hw _ (List.mem_of_getElem? (i := 40) rfl))) (own_selP (y := (⟨"com/example/dewey/dewey/EncodingCheck", "check", "([BII)V"⟩ : MethodName)) hZ (hw _ (List.mem_of_getElem? (i := 1) rfl)) (hw _ (List.mem_of_getElem? (i := 41) rfl)) (hw _ (List.mem_of_getElem? (i := 40) rfl)) (by decide)) (Cond.privateMethod_at (mvP hZ (hw _ (List.mem_of_getElem? (i := 41) rfl)) (args := #[]))) (mvT hZ (hw _ (List.mem_of_getElem? (i := 42) rfl))) (by decide) (backOf (W := 0) (rm_ck16 l Z a0 hw [] a1 aH (4 : Int32) (4 : Int32) (tk + ((4 : Int32) - (0 : Int32)).toInt64) u1 u2 rU r16 r8 rA T156.heap n0 O156 SrU Sr16 Sr8 SrA n_rU_r16 n_rU_r8 n_rU_rA n_r16_r8 n_r16_rA n_r8_rA Ek156 Fk_rule_156 Fk_taken_156 Fk_needed_156 Fk_openCount_156 g_a1) hZ (hw _ (List.mem_of_getElem? (i := 42) rfl)) (hw _ (List.mem_of_getElem? (i := 2) rfl)) (by decide) (by decide)) (g := (mkF m 65 #[.val (.ref a1), .val (.ref aH), .val (.int (4 : Int32)), .val (.int (4 : Int32))] [(.int (4 : Int32)), (.int (4 : Int32)), (.ref aH), (.ref a1)])) rfl (by rw [hml]; rfl) (Steps.refl _) (a := a1) q157 q157' (argsL := [(.ref aH), (.int (4 : Int32)), (.int (4 : Int32))]) (rest := []) (lenOf pd_0 rfl) rfl (by show 2 * 0 + _ ≤ _; exact Nat.le_of_eq rfl) (hb hby d_prog_23_method_2_65) (fun _ _ => ⟨rfl, rfl, (by decide : 0 + 0 ≤ _), (by decide : 0 + 0 ≤ _)⟩)
  dsimp only [Pt.U, Pt.locs, Pt.cells, Pt.slots] at X157 l157 y157 z157 st157 hQ157
  subst l157 y157 z157
  obtain ⟨rfl, Nq157, Kq157, Ek157, Fk_rule_157, Fk_taken_157, Fk_needed_157, Fk_openCount_157⟩ := hQ157
  have N157 := Fr.app N156 Nq157
  have O157 := O156.keep Kq157 (allS g_a1 all0)
  have K157 := K156.trans Kq157 (allS (Or.inl (List.mem_of_getElem? (i := 0) rfl)) all0)
  obtain ⟨fs, hr, hrun, hended, hW, hsame⟩ := X157.leave (v := none) (fun _ => rfl)
  refine ⟨_, _, pre0 _ ?_, hrun, hended, _, _, rfl, ?_, ⟨_, rfl⟩, hW, hsame.mono (by decide) (by decide)⟩
  · show Steps p.tables e below (s₁.setTop (mkF m 0 #[.val (.ref a1), .val (.ref aH), .val (.int (0 : Int32)), .val (.int (4 : Int32))] [])) _
    refine XS.aloadN X0.here hx rfl (hb hby d_prog_23_method_2_0) rfl rfl ?_
    show Steps p.tables e below (s₁.setTop (mkF m 1 #[.val (.ref a1), .val (.ref aH), .val (.int (0 : Int32)), .val (.int (4 : Int32))] [(.ref a1)])) _
    refine st101 _ ?_
    show Steps p.tables e below (T101.setTop (mkF m 4 #[.val (.ref a1), .val (.ref aH), .val (.int (0 : Int32)), .val (.int (4 : Int32))] [(.ref rU)])) _
    refine st102 _ ?_
    show Steps p.tables e below (T102.setTop (mkF m 7 #[.val (.ref a1), .val (.ref aH), .val (.int (0 : Int32)), .val (.int (4 : Int32))] [(.ref rU), (.ref rU)])) _
    refine Jvm.RoadKit.acmp (g := (mkF m 7 #[.val (.ref a1), .val (.ref aH), .val (.int (0 : Int32)), .val (.int (4 : Int32))] [(.ref rU), (.ref rU)])) X102 hx rfl rfl rfl (pc0 := 7) (pc' := 10) (same := true) rfl (hb hby d_prog_23_method_2_7) rfl (decide_eq_true rfl) (by decide) (by decide) ?_
    show Steps p.tables e below (T102.setTop (mkF m 10 #[.val (.ref a1), .val (.ref aH), .val (.int (0 : Int32)), .val (.int (4 : Int32))] [])) _
    refine XS.iloadN X102.here hx rfl (hb hby d_prog_23_method_2_10) rfl ?_
    refine XS.iloadN X102.here hx rfl (hb hby d_prog_23_method_2_11) rfl ?_
    refine XS.icmpNo X102.here hx rfl (hb hby d_prog_23_method_2_12) rfl (tlt (by decide : (0 : Int32) < (4 : Int32))).2.1 ?_
    refine XS.aloadN X102.here hx rfl (hb hby d_prog_23_method_2_15) rfl rfl ?_
    show Steps p.tables e below (T102.setTop (mkF m 16 #[.val (.ref a1), .val (.ref aH), .val (.int (0 : Int32)), .val (.int (4 : Int32))] [(.ref a1)])) _
    refine st103 _ ?_
    show Steps p.tables e below (T103.setTop (mkF m 19 #[.val (.ref a1), .val (.ref aH), .val (.int (0 : Int32)), .val (.int (4 : Int32))] [(.int (0 : Int32))])) _
    refine XS.iconst X103.here hx rfl (hb hby d_prog_23_method_2_19) ?_
    refine XS.icmpNo X103.here hx rfl (hb hby d_prog_23_method_2_20) rfl (tlt (by decide : (0 : Int32) < (4 : Int32))).2.1 ?_
    refine XS.aloadN X103.here hx rfl (hb hby d_prog_23_method_2_23) rfl rfl ?_
    show Steps p.tables e below (T103.setTop (mkF m 24 #[.val (.ref a1), .val (.ref aH), .val (.int (0 : Int32)), .val (.int (4 : Int32))] [(.ref a1)])) _
    refine st104 _ ?_
    show Steps p.tables e below (T104.setTop (mkF m 27 #[.val (.ref a1), .val (.ref aH), .val (.int (0 : Int32)), .val (.int (4 : Int32))] [(.ref b1)])) _
    refine XS.aloadN X104.here hx rfl (hb hby d_prog_23_method_2_27) rfl rfl ?_
    refine XS.dup X104.here hx rfl (hb hby d_prog_23_method_2_28) rfl rfl ?_
    show Steps p.tables e below (T104.setTop (mkF m 29 #[.val (.ref a1), .val (.ref aH), .val (.int (0 : Int32)), .val (.int (4 : Int32))] [(.ref a1), (.ref a1), (.ref b1)])) _
    refine st105 _ ?_
    show Steps p.tables e below (T105.setTop (mkF m 32 #[.val (.ref a1), .val (.ref aH), .val (.int (0 : Int32)), .val (.int (4 : Int32))] [(.int (0 : Int32)), (.ref a1), (.ref b1)])) _
    refine XS.dupX1 X105.here hx rfl (hb hby d_prog_23_method_2_32) rfl rfl rfl ?_
    refine XS.iconst X105.here hx rfl (hb hby d_prog_23_method_2_33) ?_
    refine XS.iadd X105.here hx rfl (hb hby d_prog_23_method_2_34) rfl ?_
    show Steps p.tables e below (T105.setTop (mkF m 35 #[.val (.ref a1), .val (.ref aH), .val (.int (0 : Int32)), .val (.int (4 : Int32))] [(.int ((0 : Int32) + (1 : Int32))), (.ref a1), (.int (0 : Int32)), (.ref b1)])) _
    rw [show ((0 : Int32) + (1 : Int32)) = (1 : Int32) from (by decide)]
    show Steps p.tables e below (T105.setTop (mkF m 35 #[.val (.ref a1), .val (.ref aH), .val (.int (0 : Int32)), .val (.int (4 : Int32))] [(.int (1 : Int32)), (.ref a1), (.int (0 : Int32)), (.ref b1)])) _
    refine st106 _ ?_
    show Steps p.tables e below (T106.setTop (mkF m 38 #[.val (.ref a1), .val (.ref aH), .val (.int (0 : Int32)), .val (.int (4 : Int32))] [(.int (0 : Int32)), (.ref b1)])) _
    refine XS.aloadN X106.here hx rfl (hb hby d_prog_23_method_2_38) rfl rfl ?_
    refine XS.iloadN X106.here hx rfl (hb hby d_prog_23_method_2_39) rfl ?_
    refine XS.iinc X106.here hx rfl (hb hby d_prog_23_method_2_40) rfl (l' := #[.val (.ref a1), .val (.ref aH), .val (.int ((0 : Int32) + (1 : Int32))), .val (.int (4 : Int32))]) rfl ?_
    show Steps p.tables e below (T106.setTop (mkF m 43 #[.val (.ref a1), .val (.ref aH), .val (.int ((0 : Int32) + (1 : Int32))), .val (.int (4 : Int32))] [(.int (0 : Int32)), (.ref aH), (.int (0 : Int32)), (.ref b1)])) _
    rw [show ((0 : Int32) + (1 : Int32)) = (1 : Int32) from (by decide)]
    show Steps p.tables e below (T106.setTop (mkF m 43 #[.val (.ref a1), .val (.ref aH), .val (.int (1 : Int32)), .val (.int (4 : Int32))] [(.int (0 : Int32)), (.ref aH), (.int (0 : Int32)), (.ref b1)])) _
    refine X106.baloadBytes hx (j := (0 : Int32)) (v := (.int x0)) (by rw [e106]; exact Ar108.1) (State.isArrayOf_alike hZ.alike Ar108.2.1) Ar108.2.2 hin108 hat108 (g := (mkF m 43 #[.val (.ref a1), .val (.ref aH), .val (.int (1 : Int32)), .val (.int (4 : Int32))] [(.int (0 : Int32)), (.ref aH), (.int (0 : Int32)), (.ref b1)])) rfl rfl (hb hby d_prog_23_method_2_43) _ ?_
    show Steps p.tables e below (T106.setTop (mkF m 44 #[.val (.ref a1), .val (.ref aH), .val (.int (1 : Int32)), .val (.int (4 : Int32))] [(.int x0), (.int (0 : Int32)), (.ref b1)])) _
    refine st111 _ ?_
    show Steps p.tables e below (T111.setTop (mkF m 45 #[.val (.ref a1), .val (.ref aH), .val (.int (1 : Int32)), .val (.int (4 : Int32))] [])) _
    refine XS.goto X111.here hx rfl (pc0 := 45) (pc' := 10) rfl (hb hby d_prog_23_method_2_45) (by decide) (by decide) ?_
    refine XS.iloadN X111.here hx rfl (hb hby d_prog_23_method_2_10) rfl ?_
    refine XS.iloadN X111.here hx rfl (hb hby d_prog_23_method_2_11) rfl ?_
    refine XS.icmpNo X111.here hx rfl (hb hby d_prog_23_method_2_12) rfl (tlt (by decide : (1 : Int32) < (4 : Int32))).2.1 ?_
    show Steps p.tables e below (T111.setTop (mkF m 15 #[.val (.ref a1), .val (.ref aH), .val (.int (1 : Int32)), .val (.int (4 : Int32))] [])) _
    refine XS.aloadN X111.here hx rfl (hb hby d_prog_23_method_2_15) rfl rfl ?_
    show Steps p.tables e below (T111.setTop (mkF m 16 #[.val (.ref a1), .val (.ref aH), .val (.int (1 : Int32)), .val (.int (4 : Int32))] [(.ref a1)])) _
    refine st113 _ ?_
    show Steps p.tables e below (T113.setTop (mkF m 19 #[.val (.ref a1), .val (.ref aH), .val (.int (1 : Int32)), .val (.int (4 : Int32))] [(.int (1 : Int32))])) _
    refine XS.iconst X113.here hx rfl (hb hby d_prog_23_method_2_19) ?_
    refine XS.icmpNo X113.here hx rfl (hb hby d_prog_23_method_2_20) rfl (tlt (by decide : (1 : Int32) < (4 : Int32))).2.1 ?_
    refine XS.aloadN X113.here hx rfl (hb hby d_prog_23_method_2_23) rfl rfl ?_
    show Steps p.tables e below (T113.setTop (mkF m 24 #[.val (.ref a1), .val (.ref aH), .val (.int (1 : Int32)), .val (.int (4 : Int32))] [(.ref a1)])) _
    refine st115 _ ?_
    show Steps p.tables e below (T115.setTop (mkF m 27 #[.val (.ref a1), .val (.ref aH), .val (.int (1 : Int32)), .val (.int (4 : Int32))] [(.ref b1)])) _
    refine XS.aloadN X115.here hx rfl (hb hby d_prog_23_method_2_27) rfl rfl ?_
    refine XS.dup X115.here hx rfl (hb hby d_prog_23_method_2_28) rfl rfl ?_
    show Steps p.tables e below (T115.setTop (mkF m 29 #[.val (.ref a1), .val (.ref aH), .val (.int (1 : Int32)), .val (.int (4 : Int32))] [(.ref a1), (.ref a1), (.ref b1)])) _
    refine st116 _ ?_
    show Steps p.tables e below (T116.setTop (mkF m 32 #[.val (.ref a1), .val (.ref aH), .val (.int (1 : Int32)), .val (.int (4 : Int32))] [(.int (1 : Int32)), (.ref a1), (.ref b1)])) _
    refine XS.dupX1 X116.here hx rfl (hb hby d_prog_23_method_2_32) rfl rfl rfl ?_
    refine XS.iconst X116.here hx rfl (hb hby d_prog_23_method_2_33) ?_
    refine XS.iadd X116.here hx rfl (hb hby d_prog_23_method_2_34) rfl ?_
    show Steps p.tables e below (T116.setTop (mkF m 35 #[.val (.ref a1), .val (.ref aH), .val (.int (1 : Int32)), .val (.int (4 : Int32))] [(.int ((1 : Int32) + (1 : Int32))), (.ref a1), (.int (1 : Int32)), (.ref b1)])) _
    rw [show ((1 : Int32) + (1 : Int32)) = (2 : Int32) from (by decide)]
    show Steps p.tables e below (T116.setTop (mkF m 35 #[.val (.ref a1), .val (.ref aH), .val (.int (1 : Int32)), .val (.int (4 : Int32))] [(.int (2 : Int32)), (.ref a1), (.int (1 : Int32)), (.ref b1)])) _
    refine st118 _ ?_
    show Steps p.tables e below (T118.setTop (mkF m 38 #[.val (.ref a1), .val (.ref aH), .val (.int (1 : Int32)), .val (.int (4 : Int32))] [(.int (1 : Int32)), (.ref b1)])) _
    refine XS.aloadN X118.here hx rfl (hb hby d_prog_23_method_2_38) rfl rfl ?_
    refine XS.iloadN X118.here hx rfl (hb hby d_prog_23_method_2_39) rfl ?_
    refine XS.iinc X118.here hx rfl (hb hby d_prog_23_method_2_40) rfl (l' := #[.val (.ref a1), .val (.ref aH), .val (.int ((1 : Int32) + (1 : Int32))), .val (.int (4 : Int32))]) rfl ?_
    show Steps p.tables e below (T118.setTop (mkF m 43 #[.val (.ref a1), .val (.ref aH), .val (.int ((1 : Int32) + (1 : Int32))), .val (.int (4 : Int32))] [(.int (1 : Int32)), (.ref aH), (.int (1 : Int32)), (.ref b1)])) _
    rw [show ((1 : Int32) + (1 : Int32)) = (2 : Int32) from (by decide)]
    show Steps p.tables e below (T118.setTop (mkF m 43 #[.val (.ref a1), .val (.ref aH), .val (.int (2 : Int32)), .val (.int (4 : Int32))] [(.int (1 : Int32)), (.ref aH), (.int (1 : Int32)), (.ref b1)])) _
    refine X118.baloadBytes hx (j := (1 : Int32)) (v := (.int x1)) (by rw [e118]; exact Ar120.1) (State.isArrayOf_alike hZ.alike Ar120.2.1) Ar120.2.2 hin120 hat120 (g := (mkF m 43 #[.val (.ref a1), .val (.ref aH), .val (.int (2 : Int32)), .val (.int (4 : Int32))] [(.int (1 : Int32)), (.ref aH), (.int (1 : Int32)), (.ref b1)])) rfl rfl (hb hby d_prog_23_method_2_43) _ ?_
    show Steps p.tables e below (T118.setTop (mkF m 44 #[.val (.ref a1), .val (.ref aH), .val (.int (2 : Int32)), .val (.int (4 : Int32))] [(.int x1), (.int (1 : Int32)), (.ref b1)])) _
    refine st123 _ ?_
    show Steps p.tables e below (T123.setTop (mkF m 45 #[.val (.ref a1), .val (.ref aH), .val (.int (2 : Int32)), .val (.int (4 : Int32))] [])) _
    refine XS.goto X123.here hx rfl (pc0 := 45) (pc' := 10) rfl (hb hby d_prog_23_method_2_45) (by decide) (by decide) ?_
    refine XS.iloadN X123.here hx rfl (hb hby d_prog_23_method_2_10) rfl ?_
    refine XS.iloadN X123.here hx rfl (hb hby d_prog_23_method_2_11) rfl ?_
    refine XS.icmpNo X123.here hx rfl (hb hby d_prog_23_method_2_12) rfl (tlt (by decide : (2 : Int32) < (4 : Int32))).2.1 ?_
    show Steps p.tables e below (T123.setTop (mkF m 15 #[.val (.ref a1), .val (.ref aH), .val (.int (2 : Int32)), .val (.int (4 : Int32))] [])) _
    refine XS.aloadN X123.here hx rfl (hb hby d_prog_23_method_2_15) rfl rfl ?_
    show Steps p.tables e below (T123.setTop (mkF m 16 #[.val (.ref a1), .val (.ref aH), .val (.int (2 : Int32)), .val (.int (4 : Int32))] [(.ref a1)])) _
    refine st125 _ ?_
    show Steps p.tables e below (T125.setTop (mkF m 19 #[.val (.ref a1), .val (.ref aH), .val (.int (2 : Int32)), .val (.int (4 : Int32))] [(.int (2 : Int32))])) _
    refine XS.iconst X125.here hx rfl (hb hby d_prog_23_method_2_19) ?_
    refine XS.icmpNo X125.here hx rfl (hb hby d_prog_23_method_2_20) rfl (tlt (by decide : (2 : Int32) < (4 : Int32))).2.1 ?_
    refine XS.aloadN X125.here hx rfl (hb hby d_prog_23_method_2_23) rfl rfl ?_
    show Steps p.tables e below (T125.setTop (mkF m 24 #[.val (.ref a1), .val (.ref aH), .val (.int (2 : Int32)), .val (.int (4 : Int32))] [(.ref a1)])) _
    refine st127 _ ?_
    show Steps p.tables e below (T127.setTop (mkF m 27 #[.val (.ref a1), .val (.ref aH), .val (.int (2 : Int32)), .val (.int (4 : Int32))] [(.ref b1)])) _
    refine XS.aloadN X127.here hx rfl (hb hby d_prog_23_method_2_27) rfl rfl ?_
    refine XS.dup X127.here hx rfl (hb hby d_prog_23_method_2_28) rfl rfl ?_
    show Steps p.tables e below (T127.setTop (mkF m 29 #[.val (.ref a1), .val (.ref aH), .val (.int (2 : Int32)), .val (.int (4 : Int32))] [(.ref a1), (.ref a1), (.ref b1)])) _
    refine st128 _ ?_
    show Steps p.tables e below (T128.setTop (mkF m 32 #[.val (.ref a1), .val (.ref aH), .val (.int (2 : Int32)), .val (.int (4 : Int32))] [(.int (2 : Int32)), (.ref a1), (.ref b1)])) _
    refine XS.dupX1 X128.here hx rfl (hb hby d_prog_23_method_2_32) rfl rfl rfl ?_
    refine XS.iconst X128.here hx rfl (hb hby d_prog_23_method_2_33) ?_
    refine XS.iadd X128.here hx rfl (hb hby d_prog_23_method_2_34) rfl ?_
    show Steps p.tables e below (T128.setTop (mkF m 35 #[.val (.ref a1), .val (.ref aH), .val (.int (2 : Int32)), .val (.int (4 : Int32))] [(.int ((2 : Int32) + (1 : Int32))), (.ref a1), (.int (2 : Int32)), (.ref b1)])) _
    rw [show ((2 : Int32) + (1 : Int32)) = (3 : Int32) from (by decide)]
    show Steps p.tables e below (T128.setTop (mkF m 35 #[.val (.ref a1), .val (.ref aH), .val (.int (2 : Int32)), .val (.int (4 : Int32))] [(.int (3 : Int32)), (.ref a1), (.int (2 : Int32)), (.ref b1)])) _
    refine st130 _ ?_
    show Steps p.tables e below (T130.setTop (mkF m 38 #[.val (.ref a1), .val (.ref aH), .val (.int (2 : Int32)), .val (.int (4 : Int32))] [(.int (2 : Int32)), (.ref b1)])) _
    refine XS.aloadN X130.here hx rfl (hb hby d_prog_23_method_2_38) rfl rfl ?_
    refine XS.iloadN X130.here hx rfl (hb hby d_prog_23_method_2_39) rfl ?_
    refine XS.iinc X130.here hx rfl (hb hby d_prog_23_method_2_40) rfl (l' := #[.val (.ref a1), .val (.ref aH), .val (.int ((2 : Int32) + (1 : Int32))), .val (.int (4 : Int32))]) rfl ?_
    show Steps p.tables e below (T130.setTop (mkF m 43 #[.val (.ref a1), .val (.ref aH), .val (.int ((2 : Int32) + (1 : Int32))), .val (.int (4 : Int32))] [(.int (2 : Int32)), (.ref aH), (.int (2 : Int32)), (.ref b1)])) _
    rw [show ((2 : Int32) + (1 : Int32)) = (3 : Int32) from (by decide)]
    show Steps p.tables e below (T130.setTop (mkF m 43 #[.val (.ref a1), .val (.ref aH), .val (.int (3 : Int32)), .val (.int (4 : Int32))] [(.int (2 : Int32)), (.ref aH), (.int (2 : Int32)), (.ref b1)])) _
    refine X130.baloadBytes hx (j := (2 : Int32)) (v := (.int x2)) (by rw [e130]; exact Ar132.1) (State.isArrayOf_alike hZ.alike Ar132.2.1) Ar132.2.2 hin132 hat132 (g := (mkF m 43 #[.val (.ref a1), .val (.ref aH), .val (.int (3 : Int32)), .val (.int (4 : Int32))] [(.int (2 : Int32)), (.ref aH), (.int (2 : Int32)), (.ref b1)])) rfl rfl (hb hby d_prog_23_method_2_43) _ ?_
    show Steps p.tables e below (T130.setTop (mkF m 44 #[.val (.ref a1), .val (.ref aH), .val (.int (3 : Int32)), .val (.int (4 : Int32))] [(.int x2), (.int (2 : Int32)), (.ref b1)])) _
    refine st135 _ ?_
    show Steps p.tables e below (T135.setTop (mkF m 45 #[.val (.ref a1), .val (.ref aH), .val (.int (3 : Int32)), .val (.int (4 : Int32))] [])) _
    refine XS.goto X135.here hx rfl (pc0 := 45) (pc' := 10) rfl (hb hby d_prog_23_method_2_45) (by decide) (by decide) ?_
    refine XS.iloadN X135.here hx rfl (hb hby d_prog_23_method_2_10) rfl ?_
    refine XS.iloadN X135.here hx rfl (hb hby d_prog_23_method_2_11) rfl ?_
    refine XS.icmpNo X135.here hx rfl (hb hby d_prog_23_method_2_12) rfl (tlt (by decide : (3 : Int32) < (4 : Int32))).2.1 ?_
    show Steps p.tables e below (T135.setTop (mkF m 15 #[.val (.ref a1), .val (.ref aH), .val (.int (3 : Int32)), .val (.int (4 : Int32))] [])) _
    refine XS.aloadN X135.here hx rfl (hb hby d_prog_23_method_2_15) rfl rfl ?_
    show Steps p.tables e below (T135.setTop (mkF m 16 #[.val (.ref a1), .val (.ref aH), .val (.int (3 : Int32)), .val (.int (4 : Int32))] [(.ref a1)])) _
    refine st137 _ ?_
    show Steps p.tables e below (T137.setTop (mkF m 19 #[.val (.ref a1), .val (.ref aH), .val (.int (3 : Int32)), .val (.int (4 : Int32))] [(.int (3 : Int32))])) _
    refine XS.iconst X137.here hx rfl (hb hby d_prog_23_method_2_19) ?_
    refine XS.icmpNo X137.here hx rfl (hb hby d_prog_23_method_2_20) rfl (tlt (by decide : (3 : Int32) < (4 : Int32))).2.1 ?_
    refine XS.aloadN X137.here hx rfl (hb hby d_prog_23_method_2_23) rfl rfl ?_
    show Steps p.tables e below (T137.setTop (mkF m 24 #[.val (.ref a1), .val (.ref aH), .val (.int (3 : Int32)), .val (.int (4 : Int32))] [(.ref a1)])) _
    refine st139 _ ?_
    show Steps p.tables e below (T139.setTop (mkF m 27 #[.val (.ref a1), .val (.ref aH), .val (.int (3 : Int32)), .val (.int (4 : Int32))] [(.ref b1)])) _
    refine XS.aloadN X139.here hx rfl (hb hby d_prog_23_method_2_27) rfl rfl ?_
    refine XS.dup X139.here hx rfl (hb hby d_prog_23_method_2_28) rfl rfl ?_
    show Steps p.tables e below (T139.setTop (mkF m 29 #[.val (.ref a1), .val (.ref aH), .val (.int (3 : Int32)), .val (.int (4 : Int32))] [(.ref a1), (.ref a1), (.ref b1)])) _
    refine st140 _ ?_
    show Steps p.tables e below (T140.setTop (mkF m 32 #[.val (.ref a1), .val (.ref aH), .val (.int (3 : Int32)), .val (.int (4 : Int32))] [(.int (3 : Int32)), (.ref a1), (.ref b1)])) _
    refine XS.dupX1 X140.here hx rfl (hb hby d_prog_23_method_2_32) rfl rfl rfl ?_
    refine XS.iconst X140.here hx rfl (hb hby d_prog_23_method_2_33) ?_
    refine XS.iadd X140.here hx rfl (hb hby d_prog_23_method_2_34) rfl ?_
    show Steps p.tables e below (T140.setTop (mkF m 35 #[.val (.ref a1), .val (.ref aH), .val (.int (3 : Int32)), .val (.int (4 : Int32))] [(.int ((3 : Int32) + (1 : Int32))), (.ref a1), (.int (3 : Int32)), (.ref b1)])) _
    rw [show ((3 : Int32) + (1 : Int32)) = (4 : Int32) from (by decide)]
    show Steps p.tables e below (T140.setTop (mkF m 35 #[.val (.ref a1), .val (.ref aH), .val (.int (3 : Int32)), .val (.int (4 : Int32))] [(.int (4 : Int32)), (.ref a1), (.int (3 : Int32)), (.ref b1)])) _
    refine st142 _ ?_
    show Steps p.tables e below (T142.setTop (mkF m 38 #[.val (.ref a1), .val (.ref aH), .val (.int (3 : Int32)), .val (.int (4 : Int32))] [(.int (3 : Int32)), (.ref b1)])) _
    refine XS.aloadN X142.here hx rfl (hb hby d_prog_23_method_2_38) rfl rfl ?_
    refine XS.iloadN X142.here hx rfl (hb hby d_prog_23_method_2_39) rfl ?_
    refine XS.iinc X142.here hx rfl (hb hby d_prog_23_method_2_40) rfl (l' := #[.val (.ref a1), .val (.ref aH), .val (.int ((3 : Int32) + (1 : Int32))), .val (.int (4 : Int32))]) rfl ?_
    show Steps p.tables e below (T142.setTop (mkF m 43 #[.val (.ref a1), .val (.ref aH), .val (.int ((3 : Int32) + (1 : Int32))), .val (.int (4 : Int32))] [(.int (3 : Int32)), (.ref aH), (.int (3 : Int32)), (.ref b1)])) _
    rw [show ((3 : Int32) + (1 : Int32)) = (4 : Int32) from (by decide)]
    show Steps p.tables e below (T142.setTop (mkF m 43 #[.val (.ref a1), .val (.ref aH), .val (.int (4 : Int32)), .val (.int (4 : Int32))] [(.int (3 : Int32)), (.ref aH), (.int (3 : Int32)), (.ref b1)])) _
    refine X142.baloadBytes hx (j := (3 : Int32)) (v := (.int x3)) (by rw [e142]; exact Ar144.1) (State.isArrayOf_alike hZ.alike Ar144.2.1) Ar144.2.2 hin144 hat144 (g := (mkF m 43 #[.val (.ref a1), .val (.ref aH), .val (.int (4 : Int32)), .val (.int (4 : Int32))] [(.int (3 : Int32)), (.ref aH), (.int (3 : Int32)), (.ref b1)])) rfl rfl (hb hby d_prog_23_method_2_43) _ ?_
    show Steps p.tables e below (T142.setTop (mkF m 44 #[.val (.ref a1), .val (.ref aH), .val (.int (4 : Int32)), .val (.int (4 : Int32))] [(.int x3), (.int (3 : Int32)), (.ref b1)])) _
    refine st147 _ ?_
    show Steps p.tables e below (T147.setTop (mkF m 45 #[.val (.ref a1), .val (.ref aH), .val (.int (4 : Int32)), .val (.int (4 : Int32))] [])) _
    refine XS.goto X147.here hx rfl (pc0 := 45) (pc' := 10) rfl (hb hby d_prog_23_method_2_45) (by decide) (by decide) ?_
    refine XS.iloadN X147.here hx rfl (hb hby d_prog_23_method_2_10) rfl ?_
    refine XS.iloadN X147.here hx rfl (hb hby d_prog_23_method_2_11) rfl ?_
    refine XS.icmpYes X147.here hx rfl (pc0 := 12) (pc' := 48) rfl (hb hby d_prog_23_method_2_12) rfl (flt (by decide : ¬ ((4 : Int32) < (4 : Int32)))).2.1 (by decide) (by decide) ?_
    show Steps p.tables e below (T147.setTop (mkF m 48 #[.val (.ref a1), .val (.ref aH), .val (.int (4 : Int32)), .val (.int (4 : Int32))] [])) _
    refine XS.aloadN X147.here hx rfl (hb hby d_prog_23_method_2_48) rfl rfl ?_
    show Steps p.tables e below (T147.setTop (mkF m 49 #[.val (.ref a1), .val (.ref aH), .val (.int (4 : Int32)), .val (.int (4 : Int32))] [(.ref a1)])) _
    refine st149 _ ?_
    show Steps p.tables e below (T149.setTop (mkF m 52 #[.val (.ref a1), .val (.ref aH), .val (.int (4 : Int32)), .val (.int (4 : Int32))] [(.int (4 : Int32))])) _
    refine XS.iconst X149.here hx rfl (hb hby d_prog_23_method_2_52) ?_
    refine XS.icmpYes X149.here hx rfl (pc0 := 53) (pc' := 57) rfl (hb hby d_prog_23_method_2_53) rfl (flt (by decide : ¬ ((4 : Int32) < (4 : Int32)))).2.1 (by decide) (by decide) ?_
    refine XS.aloadN X149.here hx rfl (hb hby d_prog_23_method_2_57) rfl rfl ?_
    show Steps p.tables e below (T149.setTop (mkF m 58 #[.val (.ref a1), .val (.ref aH), .val (.int (4 : Int32)), .val (.int (4 : Int32))] [(.ref a1)])) _
    refine st156.trans ?_
    show Steps p.tables e below (T156.setTop (mkF m 61 #[.val (.ref a1), .val (.ref aH), .val (.int (4 : Int32)), .val (.int (4 : Int32))] [])) _
    refine XS.aloadN X156.here hx rfl (hb hby d_prog_23_method_2_61) rfl rfl ?_
    refine XS.aloadN X156.here hx rfl (hb hby d_prog_23_method_2_62) rfl rfl ?_
    refine XS.iloadN X156.here hx rfl (hb hby d_prog_23_method_2_63) rfl ?_
    refine XS.iloadN X156.here hx rfl (hb hby d_prog_23_method_2_64) rfl ?_
    show Steps p.tables e below (T156.setTop (mkF m 65 #[.val (.ref a1), .val (.ref aH), .val (.int (4 : Int32)), .val (.int (4 : Int32))] [(.int (4 : Int32)), (.int (4 : Int32)), (.ref aH), (.ref a1)])) _
    refine st157.trans ?_
    show Steps p.tables e below (T157.setTop (mkF m 68 #[.val (.ref a1), .val (.ref aH), .val (.int (4 : Int32)), .val (.int (4 : Int32))] [])) _
    exact X157.returnOut hx Bd.returns (hb hby d_prog_23_method_2_68) hr
  · show Q_tA Z a1 aH kH b1 k1 x0 x1 x2 x3 tk u1 u2 rU r16 r8 rA h0 n0 _ T157.heap _
    exact ⟨rfl, N157, K157, Ek157, Fk_rule_157, Fk_taken_157, Fk_needed_157, Fk_openCount_157⟩
theorem ef_tB (m : MethodId) (a1 : Addr) (aA : Addr) (p3 : Int32) : entryFrame m #[(.ref a1), (.ref aA), (.int (0 : Int32)), (.int p3)] 4 = mkF m 0 #[.val (.ref a1), .val (.ref aA), .val (.int (0 : Int32)), .val (.int p3)] [] := by first | (simp [entryFrame, mkF, argsToLocals, Value.category]; done) | rfl
def Q_tB (Z : State) (a1 : Addr) (aA : Addr) (p3 : Int32) (tk : Int64) (u1 : Value) (u2 : Value) (rU : Addr) (r16 : Addr) (r8 : Addr) (rA : Addr) (h0 : Heap) (n0 : Nat) (v : Option Value) (h : Heap) (L : List Loc) : Prop := v = none ∧ Fr n0 L ∧ Keep h0 h [a1] ∧ Exa Z h a1 "com/example/dewey/dewey/EncodingCheck" ∧ Fld Z h a1 "com/example/dewey/dewey/EncodingCheck" "rule" "Lcom/example/dewey/dewey/EncodingCheck$Rule;" (.ref r16) ∧ Fld Z h a1 "com/example/dewey/dewey/EncodingCheck" "taken" "J" (.long (tk + (p3 - (0 : Int32)).toInt64)) ∧ Fld Z h a1 "com/example/dewey/dewey/EncodingCheck" "needed" "I" u1 ∧ Fld Z h a1 "com/example/dewey/dewey/EncodingCheck" "openCount" "I" u2
set_option maxRecDepth 65536 in
set_option maxHeartbeats 40000000 in
theorem rm_tB (l : Launch) (Z : State) (a0 : Array Value) (hw : ∀ d ∈ tables_1, d.before a0 Z = true) (ws : List Jvm.Cond) (a1 : Addr) (aA : Addr) (p3 : Int32) (tk : Int64) (u1 : Value) (u2 : Value) (rU : Addr) (r16 : Addr) (r8 : Addr) (rA : Addr) (h0 : Heap) (n0 : Nat) (O0 : Old Z n0 h0) (SrU : Sta Z Z.heap "com/example/dewey/dewey/EncodingCheck$Rule" "UNKNOWN" "Lcom/example/dewey/dewey/EncodingCheck$Rule;" (.ref rU)) (Sr16 : Sta Z Z.heap "com/example/dewey/dewey/EncodingCheck$Rule" "UTF_16" "Lcom/example/dewey/dewey/EncodingCheck$Rule;" (.ref r16)) (Sr8 : Sta Z Z.heap "com/example/dewey/dewey/EncodingCheck$Rule" "UTF_8" "Lcom/example/dewey/dewey/EncodingCheck$Rule;" (.ref r8)) (SrA : Sta Z Z.heap "com/example/dewey/dewey/EncodingCheck$Rule" "US_ASCII" "Lcom/example/dewey/dewey/EncodingCheck$Rule;" (.ref rA)) (n_rU_r16 : rU ≠ r16) (n_rU_r8 : rU ≠ r8) (n_rU_rA : rU ≠ rA) (n_r16_r8 : r16 ≠ r8) (n_r16_rA : r16 ≠ rA) (n_r8_rA : r8 ≠ rA) (E1 : Exa Z h0 a1 "com/example/dewey/dewey/EncodingCheck") (F_rule : Fld Z h0 a1 "com/example/dewey/dewey/EncodingCheck" "rule" "Lcom/example/dewey/dewey/EncodingCheck$Rule;" (.ref r16)) (F_taken : Fld Z h0 a1 "com/example/dewey/dewey/EncodingCheck" "taken" "J" (.long tk)) (F_needed : Fld Z h0 a1 "com/example/dewey/dewey/EncodingCheck" "needed" "I" u1) (F_openCount : Fld Z h0 a1 "com/example/dewey/dewey/EncodingCheck" "openCount" "I" u2) (g_a1 : n0 ≤ a1) :
    MetFree l (⟨"com/example/dewey/dewey/EncodingCheck", "take", "([BII)V"⟩ : MethodName) (head1 (Jvm.Cond.code (⟨"com/example/dewey/dewey/EncodingCheck", "take", "([BII)V"⟩ : MethodName) prog_23_method_2_code 4 none :: ws) ({ frames := 1, cells := 0, slots := 0, locals := 16 } : Room)) (fun a U => a = #[(.ref a1), (.ref aA), (.int (0 : Int32)), (.int p3)] ∧ Z.Warmed39 U.vm ∧ U.heap = h0) (fun _ _ _ _ _ => True) (fun _ U o U' => ∃ v L, o = .returned v ∧ Q_tB Z a1 aA p3 tk u1 u2 rU r16 r8 rA h0 n0 v U'.heap L ∧ FrameEnd U o U' L ({ frames := 1, cells := 0, slots := 0, locals := 16 } : Room).cells ({ frames := 1, cells := 0, slots := 0, locals := 16 } : Room).slots) := by
  refine MetFree.of_bodySF (plainFor_of_name pn_0) hisR ?_
  intro p e s m args below meth c s₁ Bd hml0 hP hK
  obtain ⟨rfl, hZ, hh⟩ := hP
  have hx := Bd.exec
  have hby := Bd.bytes
  have hml : c.maxLocals = 4 := hml0
  have hown : s.vm.findClass "com/example/dewey/dewey/EncodingCheck" = some m.cls := findClass_of_methodNamed Bd.named
  have hnm := (name_of_methodNamed Bd.named Bd.method).1
  have X0 : Stand p l e ({ frames := 1, cells := 0, slots := 0, locals := 16 } : Room) s m #[(.ref a1), (.ref aA), (.int (0 : Int32)), (.int p3)] below meth c s₁ [] 0 0 := Stand.of_body Bd
  have e0 : s₁.heap = h0 := by rw [← hh, Bd.state]; rfl
  have N0 := Fr.nil n0
  have K0 : Keep h0 h0 [a1] := Keep.refl _ _
  have pre0 : ∀ t, Steps p.tables e below (s₁.setTop (mkF m 0 #[.val (.ref a1), .val (.ref aA), .val (.int (0 : Int32)), .val (.int p3)] [])) t → Steps p.tables e below (s₁.setTop (entryFrame m #[(.ref a1), (.ref aA), (.int (0 : Int32)), (.int p3)] 4)) t := fun t k => castTop (ef_tB m a1 aA p3) k
  obtain ⟨T101, X101, e101, st101⟩ := getF X0 hx hZ hown (host := "") (Or.inl (hw _ (List.mem_of_getElem? (i := 15) rfl))) Via.refl e0 F_rule (g := (mkF m 1 #[.val (.ref a1), .val (.ref aA), .val (.int (0 : Int32)), .val (.int p3)] [(.ref a1)])) rfl rfl (hb hby d_prog_23_method_2_1)
  obtain ⟨T102, X102, e102, st102⟩ := getS2 X101 hx hZ hown (host := "") (Or.inl (hw _ (List.mem_of_getElem? (i := 12) rfl))) Via.refl e101 (SrU.ext O0.2) (g := (mkF m 4 #[.val (.ref a1), .val (.ref aA), .val (.int (0 : Int32)), .val (.int p3)] [(.ref r16)])) rfl (hb hby d_prog_23_method_2_4)
  obtain ⟨cq103, q103, q103'⟩ := E1.cell
  obtain ⟨_, _, ⟨T103, L103, k103, n103⟩, -, X103, ⟨Lc103, hQ103, l103, y103, z103⟩, st103⟩ := X102.privateBack hx (y := (⟨"com/example/dewey/dewey/EncodingCheck", "check", "([BII)V"⟩ : MethodName)) hown (mvT hZ (hw _ (List.mem_of_getElem? (i := 39) rfl))) (mvT hZ (hw _ (List.mem_of_getElem? (i := 40) rfl))) (own_selP (y := (⟨"com/example/dewey/dewey/EncodingCheck", "check", "([BII)V"⟩ : MethodName)) hZ (hw _ (List.mem_of_getElem? (i := 1) rfl)) (hw _ (List.mem_of_getElem? (i := 41) rfl)) (hw _ (List.mem_of_getElem? (i := 40) rfl)) (by decide)) (Cond.privateMethod_at (mvP hZ (hw _ (List.mem_of_getElem? (i := 41) rfl)) (args := #[]))) (mvT hZ (hw _ (List.mem_of_getElem? (i := 42) rfl))) (by decide) (backOf (W := 0) (rm_ck16 l Z a0 hw [] a1 aA (0 : Int32) p3 tk u1 u2 rU r16 r8 rA h0 n0 O0 SrU Sr16 Sr8 SrA n_rU_r16 n_rU_r8 n_rU_rA n_r16_r8 n_r16_rA n_r8_rA E1 F_rule F_taken F_needed F_openCount g_a1) hZ (hw _ (List.mem_of_getElem? (i := 42) rfl)) (hw _ (List.mem_of_getElem? (i := 2) rfl)) (by decide) (by decide)) (g := (mkF m 65 #[.val (.ref a1), .val (.ref aA), .val (.int (0 : Int32)), .val (.int p3)] [(.int p3), (.int (0 : Int32)), (.ref aA), (.ref a1)])) rfl (by rw [hml]; rfl) (Steps.refl _) (a := a1) (by rw [e102]; exact q103) q103' (argsL := [(.ref aA), (.int (0 : Int32)), (.int p3)]) (rest := []) (lenOf pd_0 rfl) rfl (by show 2 * 0 + _ ≤ _; exact Nat.le_of_eq rfl) (hb hby d_prog_23_method_2_65) (fun _ _ => ⟨rfl, e102, (by decide : 0 + 0 ≤ _), (by decide : 0 + 0 ≤ _)⟩)
  dsimp only [Pt.U, Pt.locs, Pt.cells, Pt.slots] at X103 l103 y103 z103 st103 hQ103
  subst l103 y103 z103
  obtain ⟨rfl, Nq103, Kq103, Ek103, Fk_rule_103, Fk_taken_103, Fk_needed_103, Fk_openCount_103⟩ := hQ103
  have N103 := Fr.app N0 Nq103
  have O103 := O0.keep Kq103 (allS g_a1 all0)
  have K103 := K0.trans Kq103 (allS (Or.inl (List.mem_of_getElem? (i := 0) rfl)) all0)
  obtain ⟨fs, hr, hrun, hended, hW, hsame⟩ := X103.leave (v := none) (fun _ => rfl)
  refine ⟨_, _, pre0 _ ?_, hrun, hended, _, _, rfl, ?_, ⟨_, rfl⟩, hW, hsame.mono (by decide) (by decide)⟩
  · show Steps p.tables e below (s₁.setTop (mkF m 0 #[.val (.ref a1), .val (.ref aA), .val (.int (0 : Int32)), .val (.int p3)] [])) _
    refine XS.aloadN X0.here hx rfl (hb hby d_prog_23_method_2_0) rfl rfl ?_
    show Steps p.tables e below (s₁.setTop (mkF m 1 #[.val (.ref a1), .val (.ref aA), .val (.int (0 : Int32)), .val (.int p3)] [(.ref a1)])) _
    refine st101 _ ?_
    show Steps p.tables e below (T101.setTop (mkF m 4 #[.val (.ref a1), .val (.ref aA), .val (.int (0 : Int32)), .val (.int p3)] [(.ref r16)])) _
    refine st102 _ ?_
    show Steps p.tables e below (T102.setTop (mkF m 7 #[.val (.ref a1), .val (.ref aA), .val (.int (0 : Int32)), .val (.int p3)] [(.ref rU), (.ref r16)])) _
    refine Jvm.RoadKit.acmp (g := (mkF m 7 #[.val (.ref a1), .val (.ref aA), .val (.int (0 : Int32)), .val (.int p3)] [(.ref rU), (.ref r16)])) X102 hx rfl rfl rfl (pc0 := 7) (pc' := 61) (same := false) rfl (hb hby d_prog_23_method_2_7) rfl (decide_eq_false fun q => (Ne.symm n_rU_r16) (Value.ref.inj q)) (by decide) (by decide) ?_
    show Steps p.tables e below (T102.setTop (mkF m 61 #[.val (.ref a1), .val (.ref aA), .val (.int (0 : Int32)), .val (.int p3)] [])) _
    refine XS.aloadN X102.here hx rfl (hb hby d_prog_23_method_2_61) rfl rfl ?_
    refine XS.aloadN X102.here hx rfl (hb hby d_prog_23_method_2_62) rfl rfl ?_
    refine XS.iloadN X102.here hx rfl (hb hby d_prog_23_method_2_63) rfl ?_
    refine XS.iloadN X102.here hx rfl (hb hby d_prog_23_method_2_64) rfl ?_
    show Steps p.tables e below (T102.setTop (mkF m 65 #[.val (.ref a1), .val (.ref aA), .val (.int (0 : Int32)), .val (.int p3)] [(.int p3), (.int (0 : Int32)), (.ref aA), (.ref a1)])) _
    refine st103.trans ?_
    show Steps p.tables e below (T103.setTop (mkF m 68 #[.val (.ref a1), .val (.ref aA), .val (.int (0 : Int32)), .val (.int p3)] [])) _
    exact X103.returnOut hx Bd.returns (hb hby d_prog_23_method_2_68) hr
  · show Q_tB Z a1 aA p3 tk u1 u2 rU r16 r8 rA h0 n0 _ T103.heap _
    exact ⟨rfl, N103, K103, Ek103, Fk_rule_103, Fk_taken_103, Fk_needed_103, Fk_openCount_103⟩
theorem ef_tC (m : MethodId) (a1 : Addr) (aA : Addr) (p3 : Int32) : entryFrame m #[(.ref a1), (.ref aA), (.int (0 : Int32)), (.int p3)] 4 = mkF m 0 #[.val (.ref a1), .val (.ref aA), .val (.int (0 : Int32)), .val (.int p3)] [] := by first | (simp [entryFrame, mkF, argsToLocals, Value.category]; done) | rfl
def Q_tC (Z : State) (a1 : Addr) (aA : Addr) (kA : ClassId) (aO : Addr) (kO : ClassId) (x4 : Int32) (x5 : Int32) (ld : Int32) (c1 : Int32) (tk : Int64) (uL : Value) (uH : Value) (uC : Value) (uS : Value) (p3 : Int32) (b1 : Addr) (k1 : ClassId) (rU : Addr) (r16 : Addr) (r8 : Addr) (rA : Addr) (h0 : Heap) (n0 : Nat) (v : Option Value) (h : Heap) (L : List Loc) : Prop := ∃ (u1 u2 : Value) (t : Int64), v = none ∧ Fr n0 L ∧ Keep h0 h [a1, b1, aO] ∧ Exa Z h a1 "com/example/dewey/dewey/EncodingCheck" ∧ Fld Z h a1 "com/example/dewey/dewey/EncodingCheck" "needed" "I" u1 ∧ Fld Z h a1 "com/example/dewey/dewey/EncodingCheck" "openCount" "I" u2 ∧ Fld Z h a1 "com/example/dewey/dewey/EncodingCheck" "taken" "J" (.long t) ∧ Fld Z h a1 "com/example/dewey/dewey/EncodingCheck" "rule" "Lcom/example/dewey/dewey/EncodingCheck$Rule;" (.ref r8)
set_option maxRecDepth 65536 in
set_option maxHeartbeats 40000000 in
theorem rm_tC (l : Launch) (Z : State) (a0 : Array Value) (hw : ∀ d ∈ tables_1, d.before a0 Z = true) (ws : List Jvm.Cond) (a1 : Addr) (aA : Addr) (kA : ClassId) (aO : Addr) (kO : ClassId) (x4 : Int32) (x5 : Int32) (ld : Int32) (c1 : Int32) (tk : Int64) (uL : Value) (uH : Value) (uC : Value) (uS : Value) (p3 : Int32) (b1 : Addr) (k1 : ClassId) (rU : Addr) (r16 : Addr) (r8 : Addr) (rA : Addr) (h0 : Heap) (n0 : Nat) (O0 : Old Z n0 h0) (SrU : Sta Z Z.heap "com/example/dewey/dewey/EncodingCheck$Rule" "UNKNOWN" "Lcom/example/dewey/dewey/EncodingCheck$Rule;" (.ref rU)) (Sr16 : Sta Z Z.heap "com/example/dewey/dewey/EncodingCheck$Rule" "UTF_16" "Lcom/example/dewey/dewey/EncodingCheck$Rule;" (.ref r16)) (Sr8 : Sta Z Z.heap "com/example/dewey/dewey/EncodingCheck$Rule" "UTF_8" "Lcom/example/dewey/dewey/EncodingCheck$Rule;" (.ref r8)) (SrA : Sta Z Z.heap "com/example/dewey/dewey/EncodingCheck$Rule" "US_ASCII" "Lcom/example/dewey/dewey/EncodingCheck$Rule;" (.ref rA)) (n_rU_r16 : rU ≠ r16) (n_rU_r8 : rU ≠ r8) (n_rU_rA : rU ≠ rA) (n_r16_r8 : r16 ≠ r8) (n_r16_rA : r16 ≠ rA) (n_r8_rA : r8 ≠ rA) (E1 : Exa Z h0 a1 "com/example/dewey/dewey/EncodingCheck") (F_needed : Fld Z h0 a1 "com/example/dewey/dewey/EncodingCheck" "needed" "I" (.int (0 : Int32))) (F_low : Fld Z h0 a1 "com/example/dewey/dewey/EncodingCheck" "low" "I" uL) (F_high : Fld Z h0 a1 "com/example/dewey/dewey/EncodingCheck" "high" "I" uH) (F_open : Fld Z h0 a1 "com/example/dewey/dewey/EncodingCheck" "open" "[B" (.ref aO)) (F_openCount : Fld Z h0 a1 "com/example/dewey/dewey/EncodingCheck" "openCount" "I" uC) (F_start : Fld Z h0 a1 "com/example/dewey/dewey/EncodingCheck" "start" "J" uS) (F_taken : Fld Z h0 a1 "com/example/dewey/dewey/EncodingCheck" "taken" "J" (.long tk)) (F_rule : Fld Z h0 a1 "com/example/dewey/dewey/EncodingCheck" "rule" "Lcom/example/dewey/dewey/EncodingCheck$Rule;" (.ref rU)) (F_firstCount : Fld Z h0 a1 "com/example/dewey/dewey/EncodingCheck" "firstCount" "I" (.int (0 : Int32))) (F_first : Fld Z h0 a1 "com/example/dewey/dewey/EncodingCheck" "first" "[B" (.ref b1)) (VA : Arv Z h0 aA kA .byte (7 : Int32) [(.int (60 : Int32)), (.int (63 : Int32)), (.int (120 : Int32)), (.int (109 : Int32)), (.int x4), (.int x5), (.int (-128 : Int32))] (.int (0 : Int32))) (VO : Arv Z h0 aO kO .byte (4 : Int32) [(.int (0 : Int32)), (.int (0 : Int32)), (.int (0 : Int32)), (.int (0 : Int32))] (.int (0 : Int32))) (VB : Arv Z h0 b1 k1 .byte (4 : Int32) [(.int (0 : Int32)), (.int (0 : Int32)), (.int (0 : Int32)), (.int (0 : Int32))] (.int (0 : Int32))) (g_a1 : n0 ≤ a1) (g_b1 : n0 ≤ b1) (g_aO : n0 ≤ aO) (n_a1_aA : a1 ≠ aA) (n_a1_aO : a1 ≠ aO) (n_aA_aO : aA ≠ aO) (h4 : (x4 &&& (255 : Int32)) = ld) (h5 : (x5 &&& (255 : Int32)) = c1) (hc1 : c1 = (if ld = (224 : Int32) then (160 : Int32) else (if ld = (240 : Int32) then (144 : Int32) else (128 : Int32)))) (hl : ¬ ld < (194 : Int32) ∧ ¬ (244 : Int32) < ld) (hp3 : p3 = 5 ∨ (p3 = 6 ∧ ¬ ld < (224 : Int32)) ∨ (p3 = 7 ∧ ¬ ld < (240 : Int32))) (n_a1_b1 : a1 ≠ b1) (n_b1_aA : b1 ≠ aA) (n_b1_aO : b1 ≠ aO) :
    MetFree l (⟨"com/example/dewey/dewey/EncodingCheck", "take", "([BII)V"⟩ : MethodName) (head1 (Jvm.Cond.code (⟨"com/example/dewey/dewey/EncodingCheck", "take", "([BII)V"⟩ : MethodName) prog_23_method_2_code 4 none :: ws) ({ frames := 3, cells := 0, slots := 0, locals := 45 } : Room)) (fun a U => a = #[(.ref a1), (.ref aA), (.int (0 : Int32)), (.int p3)] ∧ Z.Warmed39 U.vm ∧ U.heap = h0) (fun _ _ _ _ _ => True) (fun _ U o U' => ∃ v L, o = .returned v ∧ Q_tC Z a1 aA kA aO kO x4 x5 ld c1 tk uL uH uC uS p3 b1 k1 rU r16 r8 rA h0 n0 v U'.heap L ∧ FrameEnd U o U' L ({ frames := 3, cells := 0, slots := 0, locals := 45 } : Room).cells ({ frames := 3, cells := 0, slots := 0, locals := 45 } : Room).slots) := by
  refine MetFree.of_bodySF (plainFor_of_name pn_0) hisR ?_
  intro p e s m args below meth c s₁ Bd hml0 hP hK
  obtain ⟨rfl, hZ, hh⟩ := hP
  have hx := Bd.exec
  have hby := Bd.bytes
  have hml : c.maxLocals = 4 := hml0
  have hown : s.vm.findClass "com/example/dewey/dewey/EncodingCheck" = some m.cls := findClass_of_methodNamed Bd.named
  have hnm := (name_of_methodNamed Bd.named Bd.method).1
  have X0 : Stand p l e ({ frames := 3, cells := 0, slots := 0, locals := 45 } : Room) s m #[(.ref a1), (.ref aA), (.int (0 : Int32)), (.int p3)] below meth c s₁ [] 0 0 := Stand.of_body Bd
  have e0 : s₁.heap = h0 := by rw [← hh, Bd.state]; rfl
  have N0 := Fr.nil n0
  have K0 : Keep h0 h0 [a1, b1, aO] := Keep.refl _ _
  have pre0 : ∀ t, Steps p.tables e below (s₁.setTop (mkF m 0 #[.val (.ref a1), .val (.ref aA), .val (.int (0 : Int32)), .val (.int p3)] [])) t → Steps p.tables e below (s₁.setTop (entryFrame m #[(.ref a1), (.ref aA), (.int (0 : Int32)), (.int p3)] 4)) t := fun t k => castTop (ef_tC m a1 aA p3) k
  obtain ⟨T101, X101, e101, st101⟩ := getF X0 hx hZ hown (host := "") (Or.inl (hw _ (List.mem_of_getElem? (i := 15) rfl))) Via.refl e0 F_rule (g := (mkF m 1 #[.val (.ref a1), .val (.ref aA), .val (.int (0 : Int32)), .val (.int p3)] [(.ref a1)])) rfl rfl (hb hby d_prog_23_method_2_1)
  obtain ⟨T102, X102, e102, st102⟩ := getS2 X101 hx hZ hown (host := "") (Or.inl (hw _ (List.mem_of_getElem? (i := 12) rfl))) Via.refl e101 (SrU.ext O0.2) (g := (mkF m 4 #[.val (.ref a1), .val (.ref aA), .val (.int (0 : Int32)), .val (.int p3)] [(.ref rU)])) rfl (hb hby d_prog_23_method_2_4)
  have hc103 : (0 : Int32) < p3 := (by rcases hp3 with h | ⟨h, -⟩ | ⟨h, -⟩ <;> rw [h] <;> decide)
  obtain ⟨T104, X104, e104, st104⟩ := getF X102 hx hZ hown (host := "") (Or.inl (hw _ (List.mem_of_getElem? (i := 28) rfl))) Via.refl e102 F_firstCount (g := (mkF m 16 #[.val (.ref a1), .val (.ref aA), .val (.int (0 : Int32)), .val (.int p3)] [(.ref a1)])) rfl rfl (hb hby d_prog_23_method_2_16)
  obtain ⟨T105, X105, e105, st105⟩ := getF X104 hx hZ hown (host := "") (Or.inl (hw _ (List.mem_of_getElem? (i := 10) rfl))) Via.refl e104 F_first (g := (mkF m 24 #[.val (.ref a1), .val (.ref aA), .val (.int (0 : Int32)), .val (.int p3)] [(.ref a1)])) rfl rfl (hb hby d_prog_23_method_2_24)
  obtain ⟨T106, X106, e106, st106⟩ := getF X105 hx hZ hown (host := "") (Or.inl (hw _ (List.mem_of_getElem? (i := 28) rfl))) Via.refl e105 F_firstCount (g := (mkF m 29 #[.val (.ref a1), .val (.ref aA), .val (.int (0 : Int32)), .val (.int p3)] [(.ref a1), (.ref a1), (.ref b1)])) rfl rfl (hb hby d_prog_23_method_2_29)
  obtain ⟨T107, h107, X107, e107, W107, st107⟩ := putF X106 hx hZ hown (host := "") (Or.inl (hw _ (List.mem_of_getElem? (i := 28) rfl))) Via.refl e106 F_firstCount E1 (Or.inl (hw _ (List.mem_of_getElem? (i := 29) rfl))) (hw _ (List.mem_of_getElem? (i := 1) rfl)) (ty := .int) (by decide) rfl rfl (g := (mkF m 35 #[.val (.ref a1), .val (.ref aA), .val (.int (0 : Int32)), .val (.int p3)] [(.int (1 : Int32)), (.ref a1), (.int (0 : Int32)), (.ref b1)])) rfl rfl (hb hby d_prog_23_method_2_35)
  have F107 := F_firstCount.same W107
  have N107 := Fr.snoc X107 N0 g_a1
  have O107 := O0.wr W107 g_a1
  have K107 := K0.wr W107 (Or.inl (List.mem_of_getElem? (i := 0) rfl))
  have f108 := (VA.other W107 (Ne.symm n_a1_aA))
  obtain ⟨cl109, Ar109, q109, S109, Ne109, H109, G109⟩ := id f108
  have hin109 : ¬ ((0 : Int32) < 0 ∨ cl109.slots.size ≤ ((0 : Int32)).toNatClampNeg) := inb_of S109 ⟨by decide, by decide⟩
  have hat109 : cl109.slots[((0 : Int32)).toNatClampNeg]? = some (.int (60 : Int32)) := H109.at hin109 rfl
  have f110 := (VB.other W107 (Ne.symm n_a1_b1))
  obtain ⟨cl111, Ar111, q111, S111, Ne111, H111, G111⟩ := id f110
  have hin111 : ¬ ((0 : Int32) < 0 ∨ cl111.slots.size ≤ ((0 : Int32)).toNatClampNeg) := inb_of S111 ⟨by decide, by decide⟩
  obtain ⟨T112, h112, X112, e112, W112, st112⟩ := stB X107 hx hZ e107 Ar111 (j := (0 : Int32)) hin111 (g := (mkF m 44 #[.val (.ref a1), .val (.ref aA), .val (.int (1 : Int32)), .val (.int p3)] [(.int (60 : Int32)), (.int (0 : Int32)), (.ref b1)])) rfl rfl (hb hby d_prog_23_method_2_44)
  have V112 : Arv Z h112 b1 k1 .byte (4 : Int32) [(.int (nar .byte (60 : Int32))), (.int (0 : Int32)), (.int (0 : Int32)), (.int (0 : Int32))] (.int (0 : Int32)) := Arv.set Ar111 q111 S111 Ne111 H111 G111 (fits_nar_byte _) W112 0 rfl (Nat.le_of_ble_eq_true rfl)
  rw [show (nar .byte (60 : Int32)) = (60 : Int32) from by decide] at V112
  have N112 := Fr.snoc X112 N107 g_b1
  have O112 := O107.wr W112 g_b1
  have K112 := K107.wr W112 (Or.inl (List.mem_of_getElem? (i := 1) rfl))
  have hc113 : (1 : Int32) < p3 := (by rcases hp3 with h | ⟨h, -⟩ | ⟨h, -⟩ <;> rw [h] <;> decide)
  have f114 := (F107.other W112 (Or.inl n_a1_b1))
  obtain ⟨T115, X115, e115, st115⟩ := getF X112 hx hZ hown (host := "") (Or.inl (hw _ (List.mem_of_getElem? (i := 28) rfl))) Via.refl e112 f114 (g := (mkF m 16 #[.val (.ref a1), .val (.ref aA), .val (.int (1 : Int32)), .val (.int p3)] [(.ref a1)])) rfl rfl (hb hby d_prog_23_method_2_16)
  have f116 := ((F_first.other W107 (Or.inr (slot_ne (Or.inr (hw _ (List.mem_of_getElem? (i := 11) rfl))) (Or.inl (hw _ (List.mem_of_getElem? (i := 29) rfl))) (by decide) (t := (.array .byte)) (t' := .int) (by decide) (by decide)))).other W112 (Or.inl n_a1_b1))
  obtain ⟨T117, X117, e117, st117⟩ := getF X115 hx hZ hown (host := "") (Or.inl (hw _ (List.mem_of_getElem? (i := 10) rfl))) Via.refl e115 f116 (g := (mkF m 24 #[.val (.ref a1), .val (.ref aA), .val (.int (1 : Int32)), .val (.int p3)] [(.ref a1)])) rfl rfl (hb hby d_prog_23_method_2_24)
  obtain ⟨T118, X118, e118, st118⟩ := getF X117 hx hZ hown (host := "") (Or.inl (hw _ (List.mem_of_getElem? (i := 28) rfl))) Via.refl e117 f114 (g := (mkF m 29 #[.val (.ref a1), .val (.ref aA), .val (.int (1 : Int32)), .val (.int p3)] [(.ref a1), (.ref a1), (.ref b1)])) rfl rfl (hb hby d_prog_23_method_2_29)
  have f119 := ((E1.wr W107).wr W112)
  obtain ⟨T120, h120, X120, e120, W120, st120⟩ := putF X118 hx hZ hown (host := "") (Or.inl (hw _ (List.mem_of_getElem? (i := 28) rfl))) Via.refl e118 f114 f119 (Or.inl (hw _ (List.mem_of_getElem? (i := 29) rfl))) (hw _ (List.mem_of_getElem? (i := 1) rfl)) (ty := .int) (by decide) rfl rfl (g := (mkF m 35 #[.val (.ref a1), .val (.ref aA), .val (.int (1 : Int32)), .val (.int p3)] [(.int (2 : Int32)), (.ref a1), (.int (1 : Int32)), (.ref b1)])) rfl rfl (hb hby d_prog_23_method_2_35)
  have F120 := f114.same W120
  have N120 := Fr.snoc X120 N112 g_a1
  have O120 := O112.wr W120 g_a1
  have K120 := K112.wr W120 (Or.inl (List.mem_of_getElem? (i := 0) rfl))
  have f121 := ((f108.other W112 (Ne.symm n_b1_aA)).other W120 (Ne.symm n_a1_aA))
  obtain ⟨cl122, Ar122, q122, S122, Ne122, H122, G122⟩ := id f121
  have hin122 : ¬ ((1 : Int32) < 0 ∨ cl122.slots.size ≤ ((1 : Int32)).toNatClampNeg) := inb_of S122 ⟨by decide, by decide⟩
  have hat122 : cl122.slots[((1 : Int32)).toNatClampNeg]? = some (.int (63 : Int32)) := H122.at hin122 rfl
  have f123 := (V112.other W120 (Ne.symm n_a1_b1))
  obtain ⟨cl124, Ar124, q124, S124, Ne124, H124, G124⟩ := id f123
  have hin124 : ¬ ((1 : Int32) < 0 ∨ cl124.slots.size ≤ ((1 : Int32)).toNatClampNeg) := inb_of S124 ⟨by decide, by decide⟩
  obtain ⟨T125, h125, X125, e125, W125, st125⟩ := stB X120 hx hZ e120 Ar124 (j := (1 : Int32)) hin124 (g := (mkF m 44 #[.val (.ref a1), .val (.ref aA), .val (.int (2 : Int32)), .val (.int p3)] [(.int (63 : Int32)), (.int (1 : Int32)), (.ref b1)])) rfl rfl (hb hby d_prog_23_method_2_44)
  have V125 : Arv Z h125 b1 k1 .byte (4 : Int32) [(.int (60 : Int32)), (.int (nar .byte (63 : Int32))), (.int (0 : Int32)), (.int (0 : Int32))] (.int (0 : Int32)) := Arv.set Ar124 q124 S124 Ne124 H124 G124 (fits_nar_byte _) W125 1 rfl (Nat.le_of_ble_eq_true rfl)
  rw [show (nar .byte (63 : Int32)) = (63 : Int32) from by decide] at V125
  have N125 := Fr.snoc X125 N120 g_b1
  have O125 := O120.wr W125 g_b1
  have K125 := K120.wr W125 (Or.inl (List.mem_of_getElem? (i := 1) rfl))
  have hc126 : (2 : Int32) < p3 := (by rcases hp3 with h | ⟨h, -⟩ | ⟨h, -⟩ <;> rw [h] <;> decide)
  have f127 := (F120.other W125 (Or.inl n_a1_b1))
  obtain ⟨T128, X128, e128, st128⟩ := getF X125 hx hZ hown (host := "") (Or.inl (hw _ (List.mem_of_getElem? (i := 28) rfl))) Via.refl e125 f127 (g := (mkF m 16 #[.val (.ref a1), .val (.ref aA), .val (.int (2 : Int32)), .val (.int p3)] [(.ref a1)])) rfl rfl (hb hby d_prog_23_method_2_16)
  have f129 := ((f116.other W120 (Or.inr (slot_ne (Or.inr (hw _ (List.mem_of_getElem? (i := 11) rfl))) (Or.inl (hw _ (List.mem_of_getElem? (i := 29) rfl))) (by decide) (t := (.array .byte)) (t' := .int) (by decide) (by decide)))).other W125 (Or.inl n_a1_b1))
  obtain ⟨T130, X130, e130, st130⟩ := getF X128 hx hZ hown (host := "") (Or.inl (hw _ (List.mem_of_getElem? (i := 10) rfl))) Via.refl e128 f129 (g := (mkF m 24 #[.val (.ref a1), .val (.ref aA), .val (.int (2 : Int32)), .val (.int p3)] [(.ref a1)])) rfl rfl (hb hby d_prog_23_method_2_24)
  obtain ⟨T131, X131, e131, st131⟩ := getF X130 hx hZ hown (host := "") (Or.inl (hw _ (List.mem_of_getElem? (i := 28) rfl))) Via.refl e130 f127 (g := (mkF m 29 #[.val (.ref a1), .val (.ref aA), .val (.int (2 : Int32)), .val (.int p3)] [(.ref a1), (.ref a1), (.ref b1)])) rfl rfl (hb hby d_prog_23_method_2_29)
  have f132 := ((f119.wr W120).wr W125)
  obtain ⟨T133, h133, X133, e133, W133, st133⟩ := putF X131 hx hZ hown (host := "") (Or.inl (hw _ (List.mem_of_getElem? (i := 28) rfl))) Via.refl e131 f127 f132 (Or.inl (hw _ (List.mem_of_getElem? (i := 29) rfl))) (hw _ (List.mem_of_getElem? (i := 1) rfl)) (ty := .int) (by decide) rfl rfl (g := (mkF m 35 #[.val (.ref a1), .val (.ref aA), .val (.int (2 : Int32)), .val (.int p3)] [(.int (3 : Int32)), (.ref a1), (.int (2 : Int32)), (.ref b1)])) rfl rfl (hb hby d_prog_23_method_2_35)
  have F133 := f127.same W133
  have N133 := Fr.snoc X133 N125 g_a1
  have O133 := O125.wr W133 g_a1
  have K133 := K125.wr W133 (Or.inl (List.mem_of_getElem? (i := 0) rfl))
  have f134 := ((f121.other W125 (Ne.symm n_b1_aA)).other W133 (Ne.symm n_a1_aA))
  obtain ⟨cl135, Ar135, q135, S135, Ne135, H135, G135⟩ := id f134
  have hin135 : ¬ ((2 : Int32) < 0 ∨ cl135.slots.size ≤ ((2 : Int32)).toNatClampNeg) := inb_of S135 ⟨by decide, by decide⟩
  have hat135 : cl135.slots[((2 : Int32)).toNatClampNeg]? = some (.int (120 : Int32)) := H135.at hin135 rfl
  have f136 := (V125.other W133 (Ne.symm n_a1_b1))
  obtain ⟨cl137, Ar137, q137, S137, Ne137, H137, G137⟩ := id f136
  have hin137 : ¬ ((2 : Int32) < 0 ∨ cl137.slots.size ≤ ((2 : Int32)).toNatClampNeg) := inb_of S137 ⟨by decide, by decide⟩
  obtain ⟨T138, h138, X138, e138, W138, st138⟩ := stB X133 hx hZ e133 Ar137 (j := (2 : Int32)) hin137 (g := (mkF m 44 #[.val (.ref a1), .val (.ref aA), .val (.int (3 : Int32)), .val (.int p3)] [(.int (120 : Int32)), (.int (2 : Int32)), (.ref b1)])) rfl rfl (hb hby d_prog_23_method_2_44)
  have V138 : Arv Z h138 b1 k1 .byte (4 : Int32) [(.int (60 : Int32)), (.int (63 : Int32)), (.int (nar .byte (120 : Int32))), (.int (0 : Int32))] (.int (0 : Int32)) := Arv.set Ar137 q137 S137 Ne137 H137 G137 (fits_nar_byte _) W138 2 rfl (Nat.le_of_ble_eq_true rfl)
  rw [show (nar .byte (120 : Int32)) = (120 : Int32) from by decide] at V138
  have N138 := Fr.snoc X138 N133 g_b1
  have O138 := O133.wr W138 g_b1
  have K138 := K133.wr W138 (Or.inl (List.mem_of_getElem? (i := 1) rfl))
  have hc139 : (3 : Int32) < p3 := (by rcases hp3 with h | ⟨h, -⟩ | ⟨h, -⟩ <;> rw [h] <;> decide)
  have f140 := (F133.other W138 (Or.inl n_a1_b1))
  obtain ⟨T141, X141, e141, st141⟩ := getF X138 hx hZ hown (host := "") (Or.inl (hw _ (List.mem_of_getElem? (i := 28) rfl))) Via.refl e138 f140 (g := (mkF m 16 #[.val (.ref a1), .val (.ref aA), .val (.int (3 : Int32)), .val (.int p3)] [(.ref a1)])) rfl rfl (hb hby d_prog_23_method_2_16)
  have f142 := ((f129.other W133 (Or.inr (slot_ne (Or.inr (hw _ (List.mem_of_getElem? (i := 11) rfl))) (Or.inl (hw _ (List.mem_of_getElem? (i := 29) rfl))) (by decide) (t := (.array .byte)) (t' := .int) (by decide) (by decide)))).other W138 (Or.inl n_a1_b1))
  obtain ⟨T143, X143, e143, st143⟩ := getF X141 hx hZ hown (host := "") (Or.inl (hw _ (List.mem_of_getElem? (i := 10) rfl))) Via.refl e141 f142 (g := (mkF m 24 #[.val (.ref a1), .val (.ref aA), .val (.int (3 : Int32)), .val (.int p3)] [(.ref a1)])) rfl rfl (hb hby d_prog_23_method_2_24)
  obtain ⟨T144, X144, e144, st144⟩ := getF X143 hx hZ hown (host := "") (Or.inl (hw _ (List.mem_of_getElem? (i := 28) rfl))) Via.refl e143 f140 (g := (mkF m 29 #[.val (.ref a1), .val (.ref aA), .val (.int (3 : Int32)), .val (.int p3)] [(.ref a1), (.ref a1), (.ref b1)])) rfl rfl (hb hby d_prog_23_method_2_29)
  have f145 := ((f132.wr W133).wr W138)
  obtain ⟨T146, h146, X146, e146, W146, st146⟩ := putF X144 hx hZ hown (host := "") (Or.inl (hw _ (List.mem_of_getElem? (i := 28) rfl))) Via.refl e144 f140 f145 (Or.inl (hw _ (List.mem_of_getElem? (i := 29) rfl))) (hw _ (List.mem_of_getElem? (i := 1) rfl)) (ty := .int) (by decide) rfl rfl (g := (mkF m 35 #[.val (.ref a1), .val (.ref aA), .val (.int (3 : Int32)), .val (.int p3)] [(.int (4 : Int32)), (.ref a1), (.int (3 : Int32)), (.ref b1)])) rfl rfl (hb hby d_prog_23_method_2_35)
  have F146 := f140.same W146
  have N146 := Fr.snoc X146 N138 g_a1
  have O146 := O138.wr W146 g_a1
  have K146 := K138.wr W146 (Or.inl (List.mem_of_getElem? (i := 0) rfl))
  have f147 := ((f134.other W138 (Ne.symm n_b1_aA)).other W146 (Ne.symm n_a1_aA))
  obtain ⟨cl148, Ar148, q148, S148, Ne148, H148, G148⟩ := id f147
  have hin148 : ¬ ((3 : Int32) < 0 ∨ cl148.slots.size ≤ ((3 : Int32)).toNatClampNeg) := inb_of S148 ⟨by decide, by decide⟩
  have hat148 : cl148.slots[((3 : Int32)).toNatClampNeg]? = some (.int (109 : Int32)) := H148.at hin148 rfl
  have f149 := (V138.other W146 (Ne.symm n_a1_b1))
  obtain ⟨cl150, Ar150, q150, S150, Ne150, H150, G150⟩ := id f149
  have hin150 : ¬ ((3 : Int32) < 0 ∨ cl150.slots.size ≤ ((3 : Int32)).toNatClampNeg) := inb_of S150 ⟨by decide, by decide⟩
  obtain ⟨T151, h151, X151, e151, W151, st151⟩ := stB X146 hx hZ e146 Ar150 (j := (3 : Int32)) hin150 (g := (mkF m 44 #[.val (.ref a1), .val (.ref aA), .val (.int (4 : Int32)), .val (.int p3)] [(.int (109 : Int32)), (.int (3 : Int32)), (.ref b1)])) rfl rfl (hb hby d_prog_23_method_2_44)
  have V151 : Arv Z h151 b1 k1 .byte (4 : Int32) [(.int (60 : Int32)), (.int (63 : Int32)), (.int (120 : Int32)), (.int (nar .byte (109 : Int32)))] (.int (0 : Int32)) := Arv.set Ar150 q150 S150 Ne150 H150 G150 (fits_nar_byte _) W151 3 rfl (Nat.le_of_ble_eq_true rfl)
  rw [show (nar .byte (109 : Int32)) = (109 : Int32) from by decide] at V151
  have N151 := Fr.snoc X151 N146 g_b1
  have O151 := O146.wr W151 g_b1
  have K151 := K146.wr W151 (Or.inl (List.mem_of_getElem? (i := 1) rfl))
  have hc152 : (4 : Int32) < p3 := (by rcases hp3 with h | ⟨h, -⟩ | ⟨h, -⟩ <;> rw [h] <;> decide)
  have f153 := (F146.other W151 (Or.inl n_a1_b1))
  obtain ⟨T154, X154, e154, st154⟩ := getF X151 hx hZ hown (host := "") (Or.inl (hw _ (List.mem_of_getElem? (i := 28) rfl))) Via.refl e151 f153 (g := (mkF m 16 #[.val (.ref a1), .val (.ref aA), .val (.int (4 : Int32)), .val (.int p3)] [(.ref a1)])) rfl rfl (hb hby d_prog_23_method_2_16)
  obtain ⟨T155, X155, e155, st155⟩ := getF X154 hx hZ hown (host := "") (Or.inl (hw _ (List.mem_of_getElem? (i := 28) rfl))) Via.refl e154 f153 (g := (mkF m 49 #[.val (.ref a1), .val (.ref aA), .val (.int (4 : Int32)), .val (.int p3)] [(.ref a1)])) rfl rfl (hb hby d_prog_23_method_2_49)
  have f156 := ((f145.wr W146).wr W151)
  have f157 := ((((((((F_needed.other W107 (Or.inr (slot_ne (Or.inl (hw _ (List.mem_of_getElem? (i := 55) rfl))) (Or.inl (hw _ (List.mem_of_getElem? (i := 29) rfl))) (by decide) (t := .int) (t' := .int) (by decide) (by decide)))).other W112 (Or.inl n_a1_b1)).other W120 (Or.inr (slot_ne (Or.inl (hw _ (List.mem_of_getElem? (i := 55) rfl))) (Or.inl (hw _ (List.mem_of_getElem? (i := 29) rfl))) (by decide) (t := .int) (t' := .int) (by decide) (by decide)))).other W125 (Or.inl n_a1_b1)).other W133 (Or.inr (slot_ne (Or.inl (hw _ (List.mem_of_getElem? (i := 55) rfl))) (Or.inl (hw _ (List.mem_of_getElem? (i := 29) rfl))) (by decide) (t := .int) (t' := .int) (by decide) (by decide)))).other W138 (Or.inl n_a1_b1)).other W146 (Or.inr (slot_ne (Or.inl (hw _ (List.mem_of_getElem? (i := 55) rfl))) (Or.inl (hw _ (List.mem_of_getElem? (i := 29) rfl))) (by decide) (t := .int) (t' := .int) (by decide) (by decide)))).other W151 (Or.inl n_a1_b1))
  have f158 := ((((((((F_low.other W107 (Or.inr (slot_ne (Or.inl (hw _ (List.mem_of_getElem? (i := 18) rfl))) (Or.inl (hw _ (List.mem_of_getElem? (i := 29) rfl))) (by decide) (t := .int) (t' := .int) (by decide) (by decide)))).other W112 (Or.inl n_a1_b1)).other W120 (Or.inr (slot_ne (Or.inl (hw _ (List.mem_of_getElem? (i := 18) rfl))) (Or.inl (hw _ (List.mem_of_getElem? (i := 29) rfl))) (by decide) (t := .int) (t' := .int) (by decide) (by decide)))).other W125 (Or.inl n_a1_b1)).other W133 (Or.inr (slot_ne (Or.inl (hw _ (List.mem_of_getElem? (i := 18) rfl))) (Or.inl (hw _ (List.mem_of_getElem? (i := 29) rfl))) (by decide) (t := .int) (t' := .int) (by decide) (by decide)))).other W138 (Or.inl n_a1_b1)).other W146 (Or.inr (slot_ne (Or.inl (hw _ (List.mem_of_getElem? (i := 18) rfl))) (Or.inl (hw _ (List.mem_of_getElem? (i := 29) rfl))) (by decide) (t := .int) (t' := .int) (by decide) (by decide)))).other W151 (Or.inl n_a1_b1))
  have f159 := ((((((((F_high.other W107 (Or.inr (slot_ne (Or.inl (hw _ (List.mem_of_getElem? (i := 20) rfl))) (Or.inl (hw _ (List.mem_of_getElem? (i := 29) rfl))) (by decide) (t := .int) (t' := .int) (by decide) (by decide)))).other W112 (Or.inl n_a1_b1)).other W120 (Or.inr (slot_ne (Or.inl (hw _ (List.mem_of_getElem? (i := 20) rfl))) (Or.inl (hw _ (List.mem_of_getElem? (i := 29) rfl))) (by decide) (t := .int) (t' := .int) (by decide) (by decide)))).other W125 (Or.inl n_a1_b1)).other W133 (Or.inr (slot_ne (Or.inl (hw _ (List.mem_of_getElem? (i := 20) rfl))) (Or.inl (hw _ (List.mem_of_getElem? (i := 29) rfl))) (by decide) (t := .int) (t' := .int) (by decide) (by decide)))).other W138 (Or.inl n_a1_b1)).other W146 (Or.inr (slot_ne (Or.inl (hw _ (List.mem_of_getElem? (i := 20) rfl))) (Or.inl (hw _ (List.mem_of_getElem? (i := 29) rfl))) (by decide) (t := .int) (t' := .int) (by decide) (by decide)))).other W151 (Or.inl n_a1_b1))
  have f160 := ((((((((F_open.other W107 (Or.inr (slot_ne (Or.inr (hw _ (List.mem_of_getElem? (i := 22) rfl))) (Or.inl (hw _ (List.mem_of_getElem? (i := 29) rfl))) (by decide) (t := (.array .byte)) (t' := .int) (by decide) (by decide)))).other W112 (Or.inl n_a1_b1)).other W120 (Or.inr (slot_ne (Or.inr (hw _ (List.mem_of_getElem? (i := 22) rfl))) (Or.inl (hw _ (List.mem_of_getElem? (i := 29) rfl))) (by decide) (t := (.array .byte)) (t' := .int) (by decide) (by decide)))).other W125 (Or.inl n_a1_b1)).other W133 (Or.inr (slot_ne (Or.inr (hw _ (List.mem_of_getElem? (i := 22) rfl))) (Or.inl (hw _ (List.mem_of_getElem? (i := 29) rfl))) (by decide) (t := (.array .byte)) (t' := .int) (by decide) (by decide)))).other W138 (Or.inl n_a1_b1)).other W146 (Or.inr (slot_ne (Or.inr (hw _ (List.mem_of_getElem? (i := 22) rfl))) (Or.inl (hw _ (List.mem_of_getElem? (i := 29) rfl))) (by decide) (t := (.array .byte)) (t' := .int) (by decide) (by decide)))).other W151 (Or.inl n_a1_b1))
  have f161 := ((((((((F_openCount.other W107 (Or.inr (slot_ne (Or.inl (hw _ (List.mem_of_getElem? (i := 57) rfl))) (Or.inl (hw _ (List.mem_of_getElem? (i := 29) rfl))) (by decide) (t := .int) (t' := .int) (by decide) (by decide)))).other W112 (Or.inl n_a1_b1)).other W120 (Or.inr (slot_ne (Or.inl (hw _ (List.mem_of_getElem? (i := 57) rfl))) (Or.inl (hw _ (List.mem_of_getElem? (i := 29) rfl))) (by decide) (t := .int) (t' := .int) (by decide) (by decide)))).other W125 (Or.inl n_a1_b1)).other W133 (Or.inr (slot_ne (Or.inl (hw _ (List.mem_of_getElem? (i := 57) rfl))) (Or.inl (hw _ (List.mem_of_getElem? (i := 29) rfl))) (by decide) (t := .int) (t' := .int) (by decide) (by decide)))).other W138 (Or.inl n_a1_b1)).other W146 (Or.inr (slot_ne (Or.inl (hw _ (List.mem_of_getElem? (i := 57) rfl))) (Or.inl (hw _ (List.mem_of_getElem? (i := 29) rfl))) (by decide) (t := .int) (t' := .int) (by decide) (by decide)))).other W151 (Or.inl n_a1_b1))
  have f162 := ((((((((F_start.other W107 (Or.inr (slot_ne (Or.inl (hw _ (List.mem_of_getElem? (i := 70) rfl))) (Or.inl (hw _ (List.mem_of_getElem? (i := 29) rfl))) (by decide) (t := .long) (t' := .int) (by decide) (by decide)))).other W112 (Or.inl n_a1_b1)).other W120 (Or.inr (slot_ne (Or.inl (hw _ (List.mem_of_getElem? (i := 70) rfl))) (Or.inl (hw _ (List.mem_of_getElem? (i := 29) rfl))) (by decide) (t := .long) (t' := .int) (by decide) (by decide)))).other W125 (Or.inl n_a1_b1)).other W133 (Or.inr (slot_ne (Or.inl (hw _ (List.mem_of_getElem? (i := 70) rfl))) (Or.inl (hw _ (List.mem_of_getElem? (i := 29) rfl))) (by decide) (t := .long) (t' := .int) (by decide) (by decide)))).other W138 (Or.inl n_a1_b1)).other W146 (Or.inr (slot_ne (Or.inl (hw _ (List.mem_of_getElem? (i := 70) rfl))) (Or.inl (hw _ (List.mem_of_getElem? (i := 29) rfl))) (by decide) (t := .long) (t' := .int) (by decide) (by decide)))).other W151 (Or.inl n_a1_b1))
  have f163 := ((f142.other W146 (Or.inr (slot_ne (Or.inr (hw _ (List.mem_of_getElem? (i := 11) rfl))) (Or.inl (hw _ (List.mem_of_getElem? (i := 29) rfl))) (by decide) (t := (.array .byte)) (t' := .int) (by decide) (by decide)))).other W151 (Or.inl n_a1_b1))
  have f164 := ((((((((F_rule.other W107 (Or.inr (slot_ne (Or.inl (hw _ (List.mem_of_getElem? (i := 16) rfl))) (Or.inl (hw _ (List.mem_of_getElem? (i := 29) rfl))) (by decide) (t := (.object "com/example/dewey/dewey/EncodingCheck$Rule")) (t' := .int) (by decide) (by decide)))).other W112 (Or.inl n_a1_b1)).other W120 (Or.inr (slot_ne (Or.inl (hw _ (List.mem_of_getElem? (i := 16) rfl))) (Or.inl (hw _ (List.mem_of_getElem? (i := 29) rfl))) (by decide) (t := (.object "com/example/dewey/dewey/EncodingCheck$Rule")) (t' := .int) (by decide) (by decide)))).other W125 (Or.inl n_a1_b1)).other W133 (Or.inr (slot_ne (Or.inl (hw _ (List.mem_of_getElem? (i := 16) rfl))) (Or.inl (hw _ (List.mem_of_getElem? (i := 29) rfl))) (by decide) (t := (.object "com/example/dewey/dewey/EncodingCheck$Rule")) (t' := .int) (by decide) (by decide)))).other W138 (Or.inl n_a1_b1)).other W146 (Or.inr (slot_ne (Or.inl (hw _ (List.mem_of_getElem? (i := 16) rfl))) (Or.inl (hw _ (List.mem_of_getElem? (i := 29) rfl))) (by decide) (t := (.object "com/example/dewey/dewey/EncodingCheck$Rule")) (t' := .int) (by decide) (by decide)))).other W151 (Or.inl n_a1_b1))
  have f165 := ((((((((F_taken.other W107 (Or.inr (slot_ne (Or.inl (hw _ (List.mem_of_getElem? (i := 48) rfl))) (Or.inl (hw _ (List.mem_of_getElem? (i := 29) rfl))) (by decide) (t := .long) (t' := .int) (by decide) (by decide)))).other W112 (Or.inl n_a1_b1)).other W120 (Or.inr (slot_ne (Or.inl (hw _ (List.mem_of_getElem? (i := 48) rfl))) (Or.inl (hw _ (List.mem_of_getElem? (i := 29) rfl))) (by decide) (t := .long) (t' := .int) (by decide) (by decide)))).other W125 (Or.inl n_a1_b1)).other W133 (Or.inr (slot_ne (Or.inl (hw _ (List.mem_of_getElem? (i := 48) rfl))) (Or.inl (hw _ (List.mem_of_getElem? (i := 29) rfl))) (by decide) (t := .long) (t' := .int) (by decide) (by decide)))).other W138 (Or.inl n_a1_b1)).other W146 (Or.inr (slot_ne (Or.inl (hw _ (List.mem_of_getElem? (i := 48) rfl))) (Or.inl (hw _ (List.mem_of_getElem? (i := 29) rfl))) (by decide) (t := .long) (t' := .int) (by decide) (by decide)))).other W151 (Or.inl n_a1_b1))
  obtain ⟨cq166, q166, q166'⟩ := f156.cell
  obtain ⟨_, _, ⟨T166, L166, k166, n166⟩, -, X166, ⟨Lc166, hQ166, l166, y166, z166⟩, st166⟩ := X155.privateBack hx (y := (⟨"com/example/dewey/dewey/EncodingCheck", "showEncoding", "()V"⟩ : MethodName)) hown (mvT hZ (hw _ (List.mem_of_getElem? (i := 30) rfl))) (mvT hZ (hw _ (List.mem_of_getElem? (i := 31) rfl))) (own_selP (y := (⟨"com/example/dewey/dewey/EncodingCheck", "showEncoding", "()V"⟩ : MethodName)) hZ (hw _ (List.mem_of_getElem? (i := 1) rfl)) (hw _ (List.mem_of_getElem? (i := 32) rfl)) (hw _ (List.mem_of_getElem? (i := 31) rfl)) (by decide)) (Cond.privateMethod_at (mvP hZ (hw _ (List.mem_of_getElem? (i := 32) rfl)) (args := #[]))) (mvT hZ (hw _ (List.mem_of_getElem? (i := 33) rfl))) (by decide) (backOf (W := 0) (rm_se8 l Z a0 hw [] a1 b1 k1 aO tk ((.ref rU)) uL uH uC uS rU r16 r8 rA h151 n0 O151 SrU Sr16 Sr8 SrA n_rU_r16 n_rU_r8 n_rU_rA n_r16_r8 n_r16_rA n_r8_rA f156 f157 f158 f159 f160 f161 f162 f163 f153 f164 f165 V151 g_a1 n_a1_b1) hZ (hw _ (List.mem_of_getElem? (i := 33) rfl)) (hw _ (List.mem_of_getElem? (i := 2) rfl)) (by decide) (by decide)) (g := (mkF m 58 #[.val (.ref a1), .val (.ref aA), .val (.int (4 : Int32)), .val (.int p3)] [(.ref a1)])) rfl (by rw [hml]; rfl) (Steps.refl _) (a := a1) (by rw [e155]; exact q166) q166' (argsL := []) (rest := []) (lenOf pd_2 rfl) rfl (by show 2 * 0 + _ ≤ _; exact Nat.le_of_eq rfl) (hb hby d_prog_23_method_2_58) (fun _ _ => ⟨rfl, e155, (by decide : 0 + 0 ≤ _), (by decide : 0 + 0 ≤ _)⟩)
  dsimp only [Pt.U, Pt.locs, Pt.cells, Pt.slots] at X166 l166 y166 z166 st166 hQ166
  subst l166 y166 z166
  obtain ⟨rfl, Nq166, Kq166, Ek166, Fk_needed_166, Fk_low_166, Fk_high_166, Fk_open_166, Fk_openCount_166, Fk_start_166, Fk_taken_166, Fk_rule_166⟩ := hQ166
  have N166 := Fr.app N151 Nq166
  have O166 := O151.keep Kq166 (allS g_a1 all0)
  have K166 := K151.trans Kq166 (allS (Or.inl (List.mem_of_getElem? (i := 0) rfl)) all0)
  have f167 := ((f147.other W151 (Ne.symm n_b1_aA)).keep Kq166 (ninS (Ne.symm n_a1_aA) nin0))
  have f168 := (((((((((VO.other W107 (Ne.symm n_a1_aO)).other W112 (Ne.symm n_b1_aO)).other W120 (Ne.symm n_a1_aO)).other W125 (Ne.symm n_b1_aO)).other W133 (Ne.symm n_a1_aO)).other W138 (Ne.symm n_b1_aO)).other W146 (Ne.symm n_a1_aO)).other W151 (Ne.symm n_b1_aO)).keep Kq166 (ninS (Ne.symm n_a1_aO) nin0))
  obtain ⟨cq169, q169, q169'⟩ := Ek166.cell
  obtain ⟨_, _, ⟨T169, L169, k169, n169⟩, -, X169, ⟨Lc169, hQ169, l169, y169, z169⟩, st169⟩ := X166.privateBack hx (y := (⟨"com/example/dewey/dewey/EncodingCheck", "check", "([BII)V"⟩ : MethodName)) hown (mvT hZ (hw _ (List.mem_of_getElem? (i := 39) rfl))) (mvT hZ (hw _ (List.mem_of_getElem? (i := 40) rfl))) (own_selP (y := (⟨"com/example/dewey/dewey/EncodingCheck", "check", "([BII)V"⟩ : MethodName)) hZ (hw _ (List.mem_of_getElem? (i := 1) rfl)) (hw _ (List.mem_of_getElem? (i := 41) rfl)) (hw _ (List.mem_of_getElem? (i := 40) rfl)) (by decide)) (Cond.privateMethod_at (mvP hZ (hw _ (List.mem_of_getElem? (i := 41) rfl)) (args := #[]))) (mvT hZ (hw _ (List.mem_of_getElem? (i := 42) rfl))) (by decide) (backOf (W := 0) (rm_ck8c l Z a0 hw [] a1 aA kA aO kO x4 x5 ld c1 (tk + (4 : Int64)) uL uH uC uS p3 rU r16 r8 rA T166.heap n0 O166 SrU Sr16 Sr8 SrA n_rU_r16 n_rU_r8 n_rU_rA n_r16_r8 n_r16_rA n_r8_rA Ek166 Fk_needed_166 Fk_low_166 Fk_high_166 Fk_open_166 Fk_openCount_166 Fk_start_166 Fk_taken_166 Fk_rule_166 f167 f168 g_a1 g_aO n_a1_aA n_a1_aO n_aA_aO h4 h5 hc1 hl hp3) hZ (hw _ (List.mem_of_getElem? (i := 42) rfl)) (hw _ (List.mem_of_getElem? (i := 2) rfl)) (by decide) (by decide)) (g := (mkF m 65 #[.val (.ref a1), .val (.ref aA), .val (.int (4 : Int32)), .val (.int p3)] [(.int p3), (.int (4 : Int32)), (.ref aA), (.ref a1)])) rfl (by rw [hml]; rfl) (Steps.refl _) (a := a1) q169 q169' (argsL := [(.ref aA), (.int (4 : Int32)), (.int p3)]) (rest := []) (lenOf pd_0 rfl) rfl (by show 2 * 0 + _ ≤ _; exact Nat.le_of_eq rfl) (hb hby d_prog_23_method_2_65) (fun _ _ => ⟨rfl, rfl, (by decide : 0 + 0 ≤ _), (by decide : 0 + 0 ≤ _)⟩)
  dsimp only [Pt.U, Pt.locs, Pt.cells, Pt.slots] at X169 l169 y169 z169 st169 hQ169
  subst l169 y169 z169
  obtain ⟨u1_169, u2_169, t_169, rfl, Nq169, Kq169, Ek169, Fk_needed_169, Fk_openCount_169, Fk_taken_169, Fk_rule_169⟩ := hQ169
  have N169 := Fr.app N166 Nq169
  have O169 := O166.keep Kq169 (allS g_a1 (allS g_aO all0))
  have K169 := K166.trans Kq169 (allS (Or.inl (List.mem_of_getElem? (i := 0) rfl)) (allS (Or.inl (List.mem_of_getElem? (i := 2) rfl)) all0))
  obtain ⟨fs, hr, hrun, hended, hW, hsame⟩ := X169.leave (v := none) (fun _ => rfl)
  refine ⟨_, _, pre0 _ ?_, hrun, hended, _, _, rfl, ?_, ⟨_, rfl⟩, hW, hsame.mono (by decide) (by decide)⟩
  · show Steps p.tables e below (s₁.setTop (mkF m 0 #[.val (.ref a1), .val (.ref aA), .val (.int (0 : Int32)), .val (.int p3)] [])) _
    refine XS.aloadN X0.here hx rfl (hb hby d_prog_23_method_2_0) rfl rfl ?_
    show Steps p.tables e below (s₁.setTop (mkF m 1 #[.val (.ref a1), .val (.ref aA), .val (.int (0 : Int32)), .val (.int p3)] [(.ref a1)])) _
    refine st101 _ ?_
    show Steps p.tables e below (T101.setTop (mkF m 4 #[.val (.ref a1), .val (.ref aA), .val (.int (0 : Int32)), .val (.int p3)] [(.ref rU)])) _
    refine st102 _ ?_
    show Steps p.tables e below (T102.setTop (mkF m 7 #[.val (.ref a1), .val (.ref aA), .val (.int (0 : Int32)), .val (.int p3)] [(.ref rU), (.ref rU)])) _
    refine Jvm.RoadKit.acmp (g := (mkF m 7 #[.val (.ref a1), .val (.ref aA), .val (.int (0 : Int32)), .val (.int p3)] [(.ref rU), (.ref rU)])) X102 hx rfl rfl rfl (pc0 := 7) (pc' := 10) (same := true) rfl (hb hby d_prog_23_method_2_7) rfl (decide_eq_true rfl) (by decide) (by decide) ?_
    show Steps p.tables e below (T102.setTop (mkF m 10 #[.val (.ref a1), .val (.ref aA), .val (.int (0 : Int32)), .val (.int p3)] [])) _
    refine XS.iloadN X102.here hx rfl (hb hby d_prog_23_method_2_10) rfl ?_
    refine XS.iloadN X102.here hx rfl (hb hby d_prog_23_method_2_11) rfl ?_
    refine XS.icmpNo X102.here hx rfl (hb hby d_prog_23_method_2_12) rfl (tlt hc103).2.1 ?_
    refine XS.aloadN X102.here hx rfl (hb hby d_prog_23_method_2_15) rfl rfl ?_
    show Steps p.tables e below (T102.setTop (mkF m 16 #[.val (.ref a1), .val (.ref aA), .val (.int (0 : Int32)), .val (.int p3)] [(.ref a1)])) _
    refine st104 _ ?_
    show Steps p.tables e below (T104.setTop (mkF m 19 #[.val (.ref a1), .val (.ref aA), .val (.int (0 : Int32)), .val (.int p3)] [(.int (0 : Int32))])) _
    refine XS.iconst X104.here hx rfl (hb hby d_prog_23_method_2_19) ?_
    refine XS.icmpNo X104.here hx rfl (hb hby d_prog_23_method_2_20) rfl (tlt (by decide : (0 : Int32) < (4 : Int32))).2.1 ?_
    refine XS.aloadN X104.here hx rfl (hb hby d_prog_23_method_2_23) rfl rfl ?_
    show Steps p.tables e below (T104.setTop (mkF m 24 #[.val (.ref a1), .val (.ref aA), .val (.int (0 : Int32)), .val (.int p3)] [(.ref a1)])) _
    refine st105 _ ?_
    show Steps p.tables e below (T105.setTop (mkF m 27 #[.val (.ref a1), .val (.ref aA), .val (.int (0 : Int32)), .val (.int p3)] [(.ref b1)])) _
    refine XS.aloadN X105.here hx rfl (hb hby d_prog_23_method_2_27) rfl rfl ?_
    refine XS.dup X105.here hx rfl (hb hby d_prog_23_method_2_28) rfl rfl ?_
    show Steps p.tables e below (T105.setTop (mkF m 29 #[.val (.ref a1), .val (.ref aA), .val (.int (0 : Int32)), .val (.int p3)] [(.ref a1), (.ref a1), (.ref b1)])) _
    refine st106 _ ?_
    show Steps p.tables e below (T106.setTop (mkF m 32 #[.val (.ref a1), .val (.ref aA), .val (.int (0 : Int32)), .val (.int p3)] [(.int (0 : Int32)), (.ref a1), (.ref b1)])) _
    refine XS.dupX1 X106.here hx rfl (hb hby d_prog_23_method_2_32) rfl rfl rfl ?_
    refine XS.iconst X106.here hx rfl (hb hby d_prog_23_method_2_33) ?_
    refine XS.iadd X106.here hx rfl (hb hby d_prog_23_method_2_34) rfl ?_
    show Steps p.tables e below (T106.setTop (mkF m 35 #[.val (.ref a1), .val (.ref aA), .val (.int (0 : Int32)), .val (.int p3)] [(.int ((0 : Int32) + (1 : Int32))), (.ref a1), (.int (0 : Int32)), (.ref b1)])) _
    rw [show ((0 : Int32) + (1 : Int32)) = (1 : Int32) from (by decide)]
    show Steps p.tables e below (T106.setTop (mkF m 35 #[.val (.ref a1), .val (.ref aA), .val (.int (0 : Int32)), .val (.int p3)] [(.int (1 : Int32)), (.ref a1), (.int (0 : Int32)), (.ref b1)])) _
    refine st107 _ ?_
    show Steps p.tables e below (T107.setTop (mkF m 38 #[.val (.ref a1), .val (.ref aA), .val (.int (0 : Int32)), .val (.int p3)] [(.int (0 : Int32)), (.ref b1)])) _
    refine XS.aloadN X107.here hx rfl (hb hby d_prog_23_method_2_38) rfl rfl ?_
    refine XS.iloadN X107.here hx rfl (hb hby d_prog_23_method_2_39) rfl ?_
    refine XS.iinc X107.here hx rfl (hb hby d_prog_23_method_2_40) rfl (l' := #[.val (.ref a1), .val (.ref aA), .val (.int ((0 : Int32) + (1 : Int32))), .val (.int p3)]) rfl ?_
    show Steps p.tables e below (T107.setTop (mkF m 43 #[.val (.ref a1), .val (.ref aA), .val (.int ((0 : Int32) + (1 : Int32))), .val (.int p3)] [(.int (0 : Int32)), (.ref aA), (.int (0 : Int32)), (.ref b1)])) _
    rw [show ((0 : Int32) + (1 : Int32)) = (1 : Int32) from (by decide)]
    show Steps p.tables e below (T107.setTop (mkF m 43 #[.val (.ref a1), .val (.ref aA), .val (.int (1 : Int32)), .val (.int p3)] [(.int (0 : Int32)), (.ref aA), (.int (0 : Int32)), (.ref b1)])) _
    refine X107.baloadBytes hx (j := (0 : Int32)) (v := (.int (60 : Int32))) (by rw [e107]; exact Ar109.1) (State.isArrayOf_alike hZ.alike Ar109.2.1) Ar109.2.2 hin109 hat109 (g := (mkF m 43 #[.val (.ref a1), .val (.ref aA), .val (.int (1 : Int32)), .val (.int p3)] [(.int (0 : Int32)), (.ref aA), (.int (0 : Int32)), (.ref b1)])) rfl rfl (hb hby d_prog_23_method_2_43) _ ?_
    show Steps p.tables e below (T107.setTop (mkF m 44 #[.val (.ref a1), .val (.ref aA), .val (.int (1 : Int32)), .val (.int p3)] [(.int (60 : Int32)), (.int (0 : Int32)), (.ref b1)])) _
    refine st112 _ ?_
    show Steps p.tables e below (T112.setTop (mkF m 45 #[.val (.ref a1), .val (.ref aA), .val (.int (1 : Int32)), .val (.int p3)] [])) _
    refine XS.goto X112.here hx rfl (pc0 := 45) (pc' := 10) rfl (hb hby d_prog_23_method_2_45) (by decide) (by decide) ?_
    refine XS.iloadN X112.here hx rfl (hb hby d_prog_23_method_2_10) rfl ?_
    refine XS.iloadN X112.here hx rfl (hb hby d_prog_23_method_2_11) rfl ?_
    refine XS.icmpNo X112.here hx rfl (hb hby d_prog_23_method_2_12) rfl (tlt hc113).2.1 ?_
    show Steps p.tables e below (T112.setTop (mkF m 15 #[.val (.ref a1), .val (.ref aA), .val (.int (1 : Int32)), .val (.int p3)] [])) _
    refine XS.aloadN X112.here hx rfl (hb hby d_prog_23_method_2_15) rfl rfl ?_
    show Steps p.tables e below (T112.setTop (mkF m 16 #[.val (.ref a1), .val (.ref aA), .val (.int (1 : Int32)), .val (.int p3)] [(.ref a1)])) _
    refine st115 _ ?_
    show Steps p.tables e below (T115.setTop (mkF m 19 #[.val (.ref a1), .val (.ref aA), .val (.int (1 : Int32)), .val (.int p3)] [(.int (1 : Int32))])) _
    refine XS.iconst X115.here hx rfl (hb hby d_prog_23_method_2_19) ?_
    refine XS.icmpNo X115.here hx rfl (hb hby d_prog_23_method_2_20) rfl (tlt (by decide : (1 : Int32) < (4 : Int32))).2.1 ?_
    refine XS.aloadN X115.here hx rfl (hb hby d_prog_23_method_2_23) rfl rfl ?_
    show Steps p.tables e below (T115.setTop (mkF m 24 #[.val (.ref a1), .val (.ref aA), .val (.int (1 : Int32)), .val (.int p3)] [(.ref a1)])) _
    refine st117 _ ?_
    show Steps p.tables e below (T117.setTop (mkF m 27 #[.val (.ref a1), .val (.ref aA), .val (.int (1 : Int32)), .val (.int p3)] [(.ref b1)])) _
    refine XS.aloadN X117.here hx rfl (hb hby d_prog_23_method_2_27) rfl rfl ?_
    refine XS.dup X117.here hx rfl (hb hby d_prog_23_method_2_28) rfl rfl ?_
    show Steps p.tables e below (T117.setTop (mkF m 29 #[.val (.ref a1), .val (.ref aA), .val (.int (1 : Int32)), .val (.int p3)] [(.ref a1), (.ref a1), (.ref b1)])) _
    refine st118 _ ?_
    show Steps p.tables e below (T118.setTop (mkF m 32 #[.val (.ref a1), .val (.ref aA), .val (.int (1 : Int32)), .val (.int p3)] [(.int (1 : Int32)), (.ref a1), (.ref b1)])) _
    refine XS.dupX1 X118.here hx rfl (hb hby d_prog_23_method_2_32) rfl rfl rfl ?_
    refine XS.iconst X118.here hx rfl (hb hby d_prog_23_method_2_33) ?_
    refine XS.iadd X118.here hx rfl (hb hby d_prog_23_method_2_34) rfl ?_
    show Steps p.tables e below (T118.setTop (mkF m 35 #[.val (.ref a1), .val (.ref aA), .val (.int (1 : Int32)), .val (.int p3)] [(.int ((1 : Int32) + (1 : Int32))), (.ref a1), (.int (1 : Int32)), (.ref b1)])) _
    rw [show ((1 : Int32) + (1 : Int32)) = (2 : Int32) from (by decide)]
    show Steps p.tables e below (T118.setTop (mkF m 35 #[.val (.ref a1), .val (.ref aA), .val (.int (1 : Int32)), .val (.int p3)] [(.int (2 : Int32)), (.ref a1), (.int (1 : Int32)), (.ref b1)])) _
    refine st120 _ ?_
    show Steps p.tables e below (T120.setTop (mkF m 38 #[.val (.ref a1), .val (.ref aA), .val (.int (1 : Int32)), .val (.int p3)] [(.int (1 : Int32)), (.ref b1)])) _
    refine XS.aloadN X120.here hx rfl (hb hby d_prog_23_method_2_38) rfl rfl ?_
    refine XS.iloadN X120.here hx rfl (hb hby d_prog_23_method_2_39) rfl ?_
    refine XS.iinc X120.here hx rfl (hb hby d_prog_23_method_2_40) rfl (l' := #[.val (.ref a1), .val (.ref aA), .val (.int ((1 : Int32) + (1 : Int32))), .val (.int p3)]) rfl ?_
    show Steps p.tables e below (T120.setTop (mkF m 43 #[.val (.ref a1), .val (.ref aA), .val (.int ((1 : Int32) + (1 : Int32))), .val (.int p3)] [(.int (1 : Int32)), (.ref aA), (.int (1 : Int32)), (.ref b1)])) _
    rw [show ((1 : Int32) + (1 : Int32)) = (2 : Int32) from (by decide)]
    show Steps p.tables e below (T120.setTop (mkF m 43 #[.val (.ref a1), .val (.ref aA), .val (.int (2 : Int32)), .val (.int p3)] [(.int (1 : Int32)), (.ref aA), (.int (1 : Int32)), (.ref b1)])) _
    refine X120.baloadBytes hx (j := (1 : Int32)) (v := (.int (63 : Int32))) (by rw [e120]; exact Ar122.1) (State.isArrayOf_alike hZ.alike Ar122.2.1) Ar122.2.2 hin122 hat122 (g := (mkF m 43 #[.val (.ref a1), .val (.ref aA), .val (.int (2 : Int32)), .val (.int p3)] [(.int (1 : Int32)), (.ref aA), (.int (1 : Int32)), (.ref b1)])) rfl rfl (hb hby d_prog_23_method_2_43) _ ?_
    show Steps p.tables e below (T120.setTop (mkF m 44 #[.val (.ref a1), .val (.ref aA), .val (.int (2 : Int32)), .val (.int p3)] [(.int (63 : Int32)), (.int (1 : Int32)), (.ref b1)])) _
    refine st125 _ ?_
    show Steps p.tables e below (T125.setTop (mkF m 45 #[.val (.ref a1), .val (.ref aA), .val (.int (2 : Int32)), .val (.int p3)] [])) _
    refine XS.goto X125.here hx rfl (pc0 := 45) (pc' := 10) rfl (hb hby d_prog_23_method_2_45) (by decide) (by decide) ?_
    refine XS.iloadN X125.here hx rfl (hb hby d_prog_23_method_2_10) rfl ?_
    refine XS.iloadN X125.here hx rfl (hb hby d_prog_23_method_2_11) rfl ?_
    refine XS.icmpNo X125.here hx rfl (hb hby d_prog_23_method_2_12) rfl (tlt hc126).2.1 ?_
    show Steps p.tables e below (T125.setTop (mkF m 15 #[.val (.ref a1), .val (.ref aA), .val (.int (2 : Int32)), .val (.int p3)] [])) _
    refine XS.aloadN X125.here hx rfl (hb hby d_prog_23_method_2_15) rfl rfl ?_
    show Steps p.tables e below (T125.setTop (mkF m 16 #[.val (.ref a1), .val (.ref aA), .val (.int (2 : Int32)), .val (.int p3)] [(.ref a1)])) _
    refine st128 _ ?_
    show Steps p.tables e below (T128.setTop (mkF m 19 #[.val (.ref a1), .val (.ref aA), .val (.int (2 : Int32)), .val (.int p3)] [(.int (2 : Int32))])) _
    refine XS.iconst X128.here hx rfl (hb hby d_prog_23_method_2_19) ?_
    refine XS.icmpNo X128.here hx rfl (hb hby d_prog_23_method_2_20) rfl (tlt (by decide : (2 : Int32) < (4 : Int32))).2.1 ?_
    refine XS.aloadN X128.here hx rfl (hb hby d_prog_23_method_2_23) rfl rfl ?_
    show Steps p.tables e below (T128.setTop (mkF m 24 #[.val (.ref a1), .val (.ref aA), .val (.int (2 : Int32)), .val (.int p3)] [(.ref a1)])) _
    refine st130 _ ?_
    show Steps p.tables e below (T130.setTop (mkF m 27 #[.val (.ref a1), .val (.ref aA), .val (.int (2 : Int32)), .val (.int p3)] [(.ref b1)])) _
    refine XS.aloadN X130.here hx rfl (hb hby d_prog_23_method_2_27) rfl rfl ?_
    refine XS.dup X130.here hx rfl (hb hby d_prog_23_method_2_28) rfl rfl ?_
    show Steps p.tables e below (T130.setTop (mkF m 29 #[.val (.ref a1), .val (.ref aA), .val (.int (2 : Int32)), .val (.int p3)] [(.ref a1), (.ref a1), (.ref b1)])) _
    refine st131 _ ?_
    show Steps p.tables e below (T131.setTop (mkF m 32 #[.val (.ref a1), .val (.ref aA), .val (.int (2 : Int32)), .val (.int p3)] [(.int (2 : Int32)), (.ref a1), (.ref b1)])) _
    refine XS.dupX1 X131.here hx rfl (hb hby d_prog_23_method_2_32) rfl rfl rfl ?_
    refine XS.iconst X131.here hx rfl (hb hby d_prog_23_method_2_33) ?_
    refine XS.iadd X131.here hx rfl (hb hby d_prog_23_method_2_34) rfl ?_
    show Steps p.tables e below (T131.setTop (mkF m 35 #[.val (.ref a1), .val (.ref aA), .val (.int (2 : Int32)), .val (.int p3)] [(.int ((2 : Int32) + (1 : Int32))), (.ref a1), (.int (2 : Int32)), (.ref b1)])) _
    rw [show ((2 : Int32) + (1 : Int32)) = (3 : Int32) from (by decide)]
    show Steps p.tables e below (T131.setTop (mkF m 35 #[.val (.ref a1), .val (.ref aA), .val (.int (2 : Int32)), .val (.int p3)] [(.int (3 : Int32)), (.ref a1), (.int (2 : Int32)), (.ref b1)])) _
    refine st133 _ ?_
    show Steps p.tables e below (T133.setTop (mkF m 38 #[.val (.ref a1), .val (.ref aA), .val (.int (2 : Int32)), .val (.int p3)] [(.int (2 : Int32)), (.ref b1)])) _
    refine XS.aloadN X133.here hx rfl (hb hby d_prog_23_method_2_38) rfl rfl ?_
    refine XS.iloadN X133.here hx rfl (hb hby d_prog_23_method_2_39) rfl ?_
    refine XS.iinc X133.here hx rfl (hb hby d_prog_23_method_2_40) rfl (l' := #[.val (.ref a1), .val (.ref aA), .val (.int ((2 : Int32) + (1 : Int32))), .val (.int p3)]) rfl ?_
    show Steps p.tables e below (T133.setTop (mkF m 43 #[.val (.ref a1), .val (.ref aA), .val (.int ((2 : Int32) + (1 : Int32))), .val (.int p3)] [(.int (2 : Int32)), (.ref aA), (.int (2 : Int32)), (.ref b1)])) _
    rw [show ((2 : Int32) + (1 : Int32)) = (3 : Int32) from (by decide)]
    show Steps p.tables e below (T133.setTop (mkF m 43 #[.val (.ref a1), .val (.ref aA), .val (.int (3 : Int32)), .val (.int p3)] [(.int (2 : Int32)), (.ref aA), (.int (2 : Int32)), (.ref b1)])) _
    refine X133.baloadBytes hx (j := (2 : Int32)) (v := (.int (120 : Int32))) (by rw [e133]; exact Ar135.1) (State.isArrayOf_alike hZ.alike Ar135.2.1) Ar135.2.2 hin135 hat135 (g := (mkF m 43 #[.val (.ref a1), .val (.ref aA), .val (.int (3 : Int32)), .val (.int p3)] [(.int (2 : Int32)), (.ref aA), (.int (2 : Int32)), (.ref b1)])) rfl rfl (hb hby d_prog_23_method_2_43) _ ?_
    show Steps p.tables e below (T133.setTop (mkF m 44 #[.val (.ref a1), .val (.ref aA), .val (.int (3 : Int32)), .val (.int p3)] [(.int (120 : Int32)), (.int (2 : Int32)), (.ref b1)])) _
    refine st138 _ ?_
    show Steps p.tables e below (T138.setTop (mkF m 45 #[.val (.ref a1), .val (.ref aA), .val (.int (3 : Int32)), .val (.int p3)] [])) _
    refine XS.goto X138.here hx rfl (pc0 := 45) (pc' := 10) rfl (hb hby d_prog_23_method_2_45) (by decide) (by decide) ?_
    refine XS.iloadN X138.here hx rfl (hb hby d_prog_23_method_2_10) rfl ?_
    refine XS.iloadN X138.here hx rfl (hb hby d_prog_23_method_2_11) rfl ?_
    refine XS.icmpNo X138.here hx rfl (hb hby d_prog_23_method_2_12) rfl (tlt hc139).2.1 ?_
    show Steps p.tables e below (T138.setTop (mkF m 15 #[.val (.ref a1), .val (.ref aA), .val (.int (3 : Int32)), .val (.int p3)] [])) _
    refine XS.aloadN X138.here hx rfl (hb hby d_prog_23_method_2_15) rfl rfl ?_
    show Steps p.tables e below (T138.setTop (mkF m 16 #[.val (.ref a1), .val (.ref aA), .val (.int (3 : Int32)), .val (.int p3)] [(.ref a1)])) _
    refine st141 _ ?_
    show Steps p.tables e below (T141.setTop (mkF m 19 #[.val (.ref a1), .val (.ref aA), .val (.int (3 : Int32)), .val (.int p3)] [(.int (3 : Int32))])) _
    refine XS.iconst X141.here hx rfl (hb hby d_prog_23_method_2_19) ?_
    refine XS.icmpNo X141.here hx rfl (hb hby d_prog_23_method_2_20) rfl (tlt (by decide : (3 : Int32) < (4 : Int32))).2.1 ?_
    refine XS.aloadN X141.here hx rfl (hb hby d_prog_23_method_2_23) rfl rfl ?_
    show Steps p.tables e below (T141.setTop (mkF m 24 #[.val (.ref a1), .val (.ref aA), .val (.int (3 : Int32)), .val (.int p3)] [(.ref a1)])) _
    refine st143 _ ?_
    show Steps p.tables e below (T143.setTop (mkF m 27 #[.val (.ref a1), .val (.ref aA), .val (.int (3 : Int32)), .val (.int p3)] [(.ref b1)])) _
    refine XS.aloadN X143.here hx rfl (hb hby d_prog_23_method_2_27) rfl rfl ?_
    refine XS.dup X143.here hx rfl (hb hby d_prog_23_method_2_28) rfl rfl ?_
    show Steps p.tables e below (T143.setTop (mkF m 29 #[.val (.ref a1), .val (.ref aA), .val (.int (3 : Int32)), .val (.int p3)] [(.ref a1), (.ref a1), (.ref b1)])) _
    refine st144 _ ?_
    show Steps p.tables e below (T144.setTop (mkF m 32 #[.val (.ref a1), .val (.ref aA), .val (.int (3 : Int32)), .val (.int p3)] [(.int (3 : Int32)), (.ref a1), (.ref b1)])) _
    refine XS.dupX1 X144.here hx rfl (hb hby d_prog_23_method_2_32) rfl rfl rfl ?_
    refine XS.iconst X144.here hx rfl (hb hby d_prog_23_method_2_33) ?_
    refine XS.iadd X144.here hx rfl (hb hby d_prog_23_method_2_34) rfl ?_
    show Steps p.tables e below (T144.setTop (mkF m 35 #[.val (.ref a1), .val (.ref aA), .val (.int (3 : Int32)), .val (.int p3)] [(.int ((3 : Int32) + (1 : Int32))), (.ref a1), (.int (3 : Int32)), (.ref b1)])) _
    rw [show ((3 : Int32) + (1 : Int32)) = (4 : Int32) from (by decide)]
    show Steps p.tables e below (T144.setTop (mkF m 35 #[.val (.ref a1), .val (.ref aA), .val (.int (3 : Int32)), .val (.int p3)] [(.int (4 : Int32)), (.ref a1), (.int (3 : Int32)), (.ref b1)])) _
    refine st146 _ ?_
    show Steps p.tables e below (T146.setTop (mkF m 38 #[.val (.ref a1), .val (.ref aA), .val (.int (3 : Int32)), .val (.int p3)] [(.int (3 : Int32)), (.ref b1)])) _
    refine XS.aloadN X146.here hx rfl (hb hby d_prog_23_method_2_38) rfl rfl ?_
    refine XS.iloadN X146.here hx rfl (hb hby d_prog_23_method_2_39) rfl ?_
    refine XS.iinc X146.here hx rfl (hb hby d_prog_23_method_2_40) rfl (l' := #[.val (.ref a1), .val (.ref aA), .val (.int ((3 : Int32) + (1 : Int32))), .val (.int p3)]) rfl ?_
    show Steps p.tables e below (T146.setTop (mkF m 43 #[.val (.ref a1), .val (.ref aA), .val (.int ((3 : Int32) + (1 : Int32))), .val (.int p3)] [(.int (3 : Int32)), (.ref aA), (.int (3 : Int32)), (.ref b1)])) _
    rw [show ((3 : Int32) + (1 : Int32)) = (4 : Int32) from (by decide)]
    show Steps p.tables e below (T146.setTop (mkF m 43 #[.val (.ref a1), .val (.ref aA), .val (.int (4 : Int32)), .val (.int p3)] [(.int (3 : Int32)), (.ref aA), (.int (3 : Int32)), (.ref b1)])) _
    refine X146.baloadBytes hx (j := (3 : Int32)) (v := (.int (109 : Int32))) (by rw [e146]; exact Ar148.1) (State.isArrayOf_alike hZ.alike Ar148.2.1) Ar148.2.2 hin148 hat148 (g := (mkF m 43 #[.val (.ref a1), .val (.ref aA), .val (.int (4 : Int32)), .val (.int p3)] [(.int (3 : Int32)), (.ref aA), (.int (3 : Int32)), (.ref b1)])) rfl rfl (hb hby d_prog_23_method_2_43) _ ?_
    show Steps p.tables e below (T146.setTop (mkF m 44 #[.val (.ref a1), .val (.ref aA), .val (.int (4 : Int32)), .val (.int p3)] [(.int (109 : Int32)), (.int (3 : Int32)), (.ref b1)])) _
    refine st151 _ ?_
    show Steps p.tables e below (T151.setTop (mkF m 45 #[.val (.ref a1), .val (.ref aA), .val (.int (4 : Int32)), .val (.int p3)] [])) _
    refine XS.goto X151.here hx rfl (pc0 := 45) (pc' := 10) rfl (hb hby d_prog_23_method_2_45) (by decide) (by decide) ?_
    refine XS.iloadN X151.here hx rfl (hb hby d_prog_23_method_2_10) rfl ?_
    refine XS.iloadN X151.here hx rfl (hb hby d_prog_23_method_2_11) rfl ?_
    refine XS.icmpNo X151.here hx rfl (hb hby d_prog_23_method_2_12) rfl (tlt hc152).2.1 ?_
    show Steps p.tables e below (T151.setTop (mkF m 15 #[.val (.ref a1), .val (.ref aA), .val (.int (4 : Int32)), .val (.int p3)] [])) _
    refine XS.aloadN X151.here hx rfl (hb hby d_prog_23_method_2_15) rfl rfl ?_
    show Steps p.tables e below (T151.setTop (mkF m 16 #[.val (.ref a1), .val (.ref aA), .val (.int (4 : Int32)), .val (.int p3)] [(.ref a1)])) _
    refine st154 _ ?_
    show Steps p.tables e below (T154.setTop (mkF m 19 #[.val (.ref a1), .val (.ref aA), .val (.int (4 : Int32)), .val (.int p3)] [(.int (4 : Int32))])) _
    refine XS.iconst X154.here hx rfl (hb hby d_prog_23_method_2_19) ?_
    refine XS.icmpYes X154.here hx rfl (pc0 := 20) (pc' := 48) rfl (hb hby d_prog_23_method_2_20) rfl (flt (by decide : ¬ ((4 : Int32) < (4 : Int32)))).2.1 (by decide) (by decide) ?_
    refine XS.aloadN X154.here hx rfl (hb hby d_prog_23_method_2_48) rfl rfl ?_
    show Steps p.tables e below (T154.setTop (mkF m 49 #[.val (.ref a1), .val (.ref aA), .val (.int (4 : Int32)), .val (.int p3)] [(.ref a1)])) _
    refine st155 _ ?_
    show Steps p.tables e below (T155.setTop (mkF m 52 #[.val (.ref a1), .val (.ref aA), .val (.int (4 : Int32)), .val (.int p3)] [(.int (4 : Int32))])) _
    refine XS.iconst X155.here hx rfl (hb hby d_prog_23_method_2_52) ?_
    refine XS.icmpYes X155.here hx rfl (pc0 := 53) (pc' := 57) rfl (hb hby d_prog_23_method_2_53) rfl (flt (by decide : ¬ ((4 : Int32) < (4 : Int32)))).2.1 (by decide) (by decide) ?_
    refine XS.aloadN X155.here hx rfl (hb hby d_prog_23_method_2_57) rfl rfl ?_
    show Steps p.tables e below (T155.setTop (mkF m 58 #[.val (.ref a1), .val (.ref aA), .val (.int (4 : Int32)), .val (.int p3)] [(.ref a1)])) _
    refine st166.trans ?_
    show Steps p.tables e below (T166.setTop (mkF m 61 #[.val (.ref a1), .val (.ref aA), .val (.int (4 : Int32)), .val (.int p3)] [])) _
    refine XS.aloadN X166.here hx rfl (hb hby d_prog_23_method_2_61) rfl rfl ?_
    refine XS.aloadN X166.here hx rfl (hb hby d_prog_23_method_2_62) rfl rfl ?_
    refine XS.iloadN X166.here hx rfl (hb hby d_prog_23_method_2_63) rfl ?_
    refine XS.iloadN X166.here hx rfl (hb hby d_prog_23_method_2_64) rfl ?_
    show Steps p.tables e below (T166.setTop (mkF m 65 #[.val (.ref a1), .val (.ref aA), .val (.int (4 : Int32)), .val (.int p3)] [(.int p3), (.int (4 : Int32)), (.ref aA), (.ref a1)])) _
    refine st169.trans ?_
    show Steps p.tables e below (T169.setTop (mkF m 68 #[.val (.ref a1), .val (.ref aA), .val (.int (4 : Int32)), .val (.int p3)] [])) _
    exact X169.returnOut hx Bd.returns (hb hby d_prog_23_method_2_68) hr
  · show Q_tC Z a1 aA kA aO kO x4 x5 ld c1 tk uL uH uC uS p3 b1 k1 rU r16 r8 rA h0 n0 _ T169.heap _
    exact ⟨_, _, _, rfl, N169, K169, Ek169, Fk_needed_169, Fk_openCount_169, Fk_taken_169, Fk_rule_169⟩
theorem ef_tD (m : MethodId) (a1 : Addr) (aA : Addr) : entryFrame m #[(.ref a1), (.ref aA), (.int (0 : Int32)), (.int (1 : Int32))] 4 = mkF m 0 #[.val (.ref a1), .val (.ref aA), .val (.int (0 : Int32)), .val (.int (1 : Int32))] [] := by first | (simp [entryFrame, mkF, argsToLocals, Value.category]; done) | rfl
def Q_tD (Z : State) (a1 : Addr) (aA : Addr) (kA : ClassId) (x0 : Int32) (tk : Int64) (rU : Addr) (r16 : Addr) (r8 : Addr) (rA : Addr) (h0 : Heap) (n0 : Nat) (v : Option Value) (h : Heap) (L : List Loc) : Prop := v = none ∧ Fr n0 L ∧ Keep h0 h [a1] ∧ Exa Z h a1 "com/example/dewey/dewey/EncodingCheck" ∧ Fld Z h a1 "com/example/dewey/dewey/EncodingCheck" "needed" "I" (.int (0 : Int32)) ∧ Fld Z h a1 "com/example/dewey/dewey/EncodingCheck" "rule" "Lcom/example/dewey/dewey/EncodingCheck$Rule;" (.ref r8)
set_option maxRecDepth 65536 in
set_option maxHeartbeats 40000000 in
theorem rm_tD (l : Launch) (Z : State) (a0 : Array Value) (hw : ∀ d ∈ tables_1, d.before a0 Z = true) (ws : List Jvm.Cond) (a1 : Addr) (aA : Addr) (kA : ClassId) (x0 : Int32) (tk : Int64) (rU : Addr) (r16 : Addr) (r8 : Addr) (rA : Addr) (h0 : Heap) (n0 : Nat) (O0 : Old Z n0 h0) (SrU : Sta Z Z.heap "com/example/dewey/dewey/EncodingCheck$Rule" "UNKNOWN" "Lcom/example/dewey/dewey/EncodingCheck$Rule;" (.ref rU)) (Sr16 : Sta Z Z.heap "com/example/dewey/dewey/EncodingCheck$Rule" "UTF_16" "Lcom/example/dewey/dewey/EncodingCheck$Rule;" (.ref r16)) (Sr8 : Sta Z Z.heap "com/example/dewey/dewey/EncodingCheck$Rule" "UTF_8" "Lcom/example/dewey/dewey/EncodingCheck$Rule;" (.ref r8)) (SrA : Sta Z Z.heap "com/example/dewey/dewey/EncodingCheck$Rule" "US_ASCII" "Lcom/example/dewey/dewey/EncodingCheck$Rule;" (.ref rA)) (n_rU_r16 : rU ≠ r16) (n_rU_r8 : rU ≠ r8) (n_rU_rA : rU ≠ rA) (n_r16_r8 : r16 ≠ r8) (n_r16_rA : r16 ≠ rA) (n_r8_rA : r8 ≠ rA) (E1 : Exa Z h0 a1 "com/example/dewey/dewey/EncodingCheck") (F_needed : Fld Z h0 a1 "com/example/dewey/dewey/EncodingCheck" "needed" "I" (.int (0 : Int32))) (F_taken : Fld Z h0 a1 "com/example/dewey/dewey/EncodingCheck" "taken" "J" (.long tk)) (F_rule : Fld Z h0 a1 "com/example/dewey/dewey/EncodingCheck" "rule" "Lcom/example/dewey/dewey/EncodingCheck$Rule;" (.ref r8)) (VA : Arv Z h0 aA kA .byte (1 : Int32) [(.int x0)] (.int (0 : Int32))) (g_a1 : n0 ≤ a1) (hxb : (x0 &&& (255 : Int32)) < (128 : Int32)) :
    MetFree l (⟨"com/example/dewey/dewey/EncodingCheck", "take", "([BII)V"⟩ : MethodName) (head1 (Jvm.Cond.code (⟨"com/example/dewey/dewey/EncodingCheck", "take", "([BII)V"⟩ : MethodName) prog_23_method_2_code 4 none :: ws) ({ frames := 2, cells := 0, slots := 0, locals := 33 } : Room)) (fun a U => a = #[(.ref a1), (.ref aA), (.int (0 : Int32)), (.int (1 : Int32))] ∧ Z.Warmed39 U.vm ∧ U.heap = h0) (fun _ _ _ _ _ => True) (fun _ U o U' => ∃ v L, o = .returned v ∧ Q_tD Z a1 aA kA x0 tk rU r16 r8 rA h0 n0 v U'.heap L ∧ FrameEnd U o U' L ({ frames := 2, cells := 0, slots := 0, locals := 33 } : Room).cells ({ frames := 2, cells := 0, slots := 0, locals := 33 } : Room).slots) := by
  refine MetFree.of_bodySF (plainFor_of_name pn_0) hisR ?_
  intro p e s m args below meth c s₁ Bd hml0 hP hK
  obtain ⟨rfl, hZ, hh⟩ := hP
  have hx := Bd.exec
  have hby := Bd.bytes
  have hml : c.maxLocals = 4 := hml0
  have hown : s.vm.findClass "com/example/dewey/dewey/EncodingCheck" = some m.cls := findClass_of_methodNamed Bd.named
  have hnm := (name_of_methodNamed Bd.named Bd.method).1
  have X0 : Stand p l e ({ frames := 2, cells := 0, slots := 0, locals := 33 } : Room) s m #[(.ref a1), (.ref aA), (.int (0 : Int32)), (.int (1 : Int32))] below meth c s₁ [] 0 0 := Stand.of_body Bd
  have e0 : s₁.heap = h0 := by rw [← hh, Bd.state]; rfl
  have N0 := Fr.nil n0
  have K0 : Keep h0 h0 [a1] := Keep.refl _ _
  have pre0 : ∀ t, Steps p.tables e below (s₁.setTop (mkF m 0 #[.val (.ref a1), .val (.ref aA), .val (.int (0 : Int32)), .val (.int (1 : Int32))] [])) t → Steps p.tables e below (s₁.setTop (entryFrame m #[(.ref a1), (.ref aA), (.int (0 : Int32)), (.int (1 : Int32))] 4)) t := fun t k => castTop (ef_tD m a1 aA) k
  obtain ⟨T101, X101, e101, st101⟩ := getF X0 hx hZ hown (host := "") (Or.inl (hw _ (List.mem_of_getElem? (i := 15) rfl))) Via.refl e0 F_rule (g := (mkF m 1 #[.val (.ref a1), .val (.ref aA), .val (.int (0 : Int32)), .val (.int (1 : Int32))] [(.ref a1)])) rfl rfl (hb hby d_prog_23_method_2_1)
  obtain ⟨T102, X102, e102, st102⟩ := getS2 X101 hx hZ hown (host := "") (Or.inl (hw _ (List.mem_of_getElem? (i := 12) rfl))) Via.refl e101 (SrU.ext O0.2) (g := (mkF m 4 #[.val (.ref a1), .val (.ref aA), .val (.int (0 : Int32)), .val (.int (1 : Int32))] [(.ref r8)])) rfl (hb hby d_prog_23_method_2_4)
  obtain ⟨cq103, q103, q103'⟩ := E1.cell
  obtain ⟨_, _, ⟨T103, L103, k103, n103⟩, -, X103, ⟨Lc103, hQ103, l103, y103, z103⟩, st103⟩ := X102.privateBack hx (y := (⟨"com/example/dewey/dewey/EncodingCheck", "check", "([BII)V"⟩ : MethodName)) hown (mvT hZ (hw _ (List.mem_of_getElem? (i := 39) rfl))) (mvT hZ (hw _ (List.mem_of_getElem? (i := 40) rfl))) (own_selP (y := (⟨"com/example/dewey/dewey/EncodingCheck", "check", "([BII)V"⟩ : MethodName)) hZ (hw _ (List.mem_of_getElem? (i := 1) rfl)) (hw _ (List.mem_of_getElem? (i := 41) rfl)) (hw _ (List.mem_of_getElem? (i := 40) rfl)) (by decide)) (Cond.privateMethod_at (mvP hZ (hw _ (List.mem_of_getElem? (i := 41) rfl)) (args := #[]))) (mvT hZ (hw _ (List.mem_of_getElem? (i := 42) rfl))) (by decide) (backOf (W := 0) (rm_ck8t l Z a0 hw [] a1 aA kA x0 tk rU r16 r8 rA h0 n0 O0 SrU Sr16 Sr8 SrA n_rU_r16 n_rU_r8 n_rU_rA n_r16_r8 n_r16_rA n_r8_rA E1 F_needed F_taken F_rule VA g_a1 hxb) hZ (hw _ (List.mem_of_getElem? (i := 42) rfl)) (hw _ (List.mem_of_getElem? (i := 2) rfl)) (by decide) (by decide)) (g := (mkF m 65 #[.val (.ref a1), .val (.ref aA), .val (.int (0 : Int32)), .val (.int (1 : Int32))] [(.int (1 : Int32)), (.int (0 : Int32)), (.ref aA), (.ref a1)])) rfl (by rw [hml]; rfl) (Steps.refl _) (a := a1) (by rw [e102]; exact q103) q103' (argsL := [(.ref aA), (.int (0 : Int32)), (.int (1 : Int32))]) (rest := []) (lenOf pd_0 rfl) rfl (by show 2 * 0 + _ ≤ _; exact Nat.le_of_eq rfl) (hb hby d_prog_23_method_2_65) (fun _ _ => ⟨rfl, e102, (by decide : 0 + 0 ≤ _), (by decide : 0 + 0 ≤ _)⟩)
  dsimp only [Pt.U, Pt.locs, Pt.cells, Pt.slots] at X103 l103 y103 z103 st103 hQ103
  subst l103 y103 z103
  obtain ⟨rfl, Nq103, Kq103, Ek103, Fk_needed_103, Fk_rule_103⟩ := hQ103
  have N103 := Fr.app N0 Nq103
  have O103 := O0.keep Kq103 (allS g_a1 all0)
  have K103 := K0.trans Kq103 (allS (Or.inl (List.mem_of_getElem? (i := 0) rfl)) all0)
  obtain ⟨fs, hr, hrun, hended, hW, hsame⟩ := X103.leave (v := none) (fun _ => rfl)
  refine ⟨_, _, pre0 _ ?_, hrun, hended, _, _, rfl, ?_, ⟨_, rfl⟩, hW, hsame.mono (by decide) (by decide)⟩
  · show Steps p.tables e below (s₁.setTop (mkF m 0 #[.val (.ref a1), .val (.ref aA), .val (.int (0 : Int32)), .val (.int (1 : Int32))] [])) _
    refine XS.aloadN X0.here hx rfl (hb hby d_prog_23_method_2_0) rfl rfl ?_
    show Steps p.tables e below (s₁.setTop (mkF m 1 #[.val (.ref a1), .val (.ref aA), .val (.int (0 : Int32)), .val (.int (1 : Int32))] [(.ref a1)])) _
    refine st101 _ ?_
    show Steps p.tables e below (T101.setTop (mkF m 4 #[.val (.ref a1), .val (.ref aA), .val (.int (0 : Int32)), .val (.int (1 : Int32))] [(.ref r8)])) _
    refine st102 _ ?_
    show Steps p.tables e below (T102.setTop (mkF m 7 #[.val (.ref a1), .val (.ref aA), .val (.int (0 : Int32)), .val (.int (1 : Int32))] [(.ref rU), (.ref r8)])) _
    refine Jvm.RoadKit.acmp (g := (mkF m 7 #[.val (.ref a1), .val (.ref aA), .val (.int (0 : Int32)), .val (.int (1 : Int32))] [(.ref rU), (.ref r8)])) X102 hx rfl rfl rfl (pc0 := 7) (pc' := 61) (same := false) rfl (hb hby d_prog_23_method_2_7) rfl (decide_eq_false fun q => (Ne.symm n_rU_r8) (Value.ref.inj q)) (by decide) (by decide) ?_
    show Steps p.tables e below (T102.setTop (mkF m 61 #[.val (.ref a1), .val (.ref aA), .val (.int (0 : Int32)), .val (.int (1 : Int32))] [])) _
    refine XS.aloadN X102.here hx rfl (hb hby d_prog_23_method_2_61) rfl rfl ?_
    refine XS.aloadN X102.here hx rfl (hb hby d_prog_23_method_2_62) rfl rfl ?_
    refine XS.iloadN X102.here hx rfl (hb hby d_prog_23_method_2_63) rfl ?_
    refine XS.iloadN X102.here hx rfl (hb hby d_prog_23_method_2_64) rfl ?_
    show Steps p.tables e below (T102.setTop (mkF m 65 #[.val (.ref a1), .val (.ref aA), .val (.int (0 : Int32)), .val (.int (1 : Int32))] [(.int (1 : Int32)), (.int (0 : Int32)), (.ref aA), (.ref a1)])) _
    refine st103.trans ?_
    show Steps p.tables e below (T103.setTop (mkF m 68 #[.val (.ref a1), .val (.ref aA), .val (.int (0 : Int32)), .val (.int (1 : Int32))] [])) _
    exact X103.returnOut hx Bd.returns (hb hby d_prog_23_method_2_68) hr
  · show Q_tD Z a1 aA kA x0 tk rU r16 r8 rA h0 n0 _ T103.heap _
    exact ⟨rfl, N103, K103, Ek103, Fk_needed_103, Fk_rule_103⟩
theorem ef_sk (m : MethodId) (a1 : Addr) (q : Int64) : entryFrame m #[(.ref a1), (.long q)] 3 = mkF m 0 #[.val (.ref a1), .val (.long q), .second] [] := by first | (simp [entryFrame, mkF, argsToLocals, Value.category]; done) | rfl
def Q_sk (Z : State) (a1 : Addr) (q : Int64) (tk : Int64) (u1 : Value) (u2 : Value) (r : Addr) (rU : Addr) (r16 : Addr) (r8 : Addr) (rA : Addr) (h0 : Heap) (n0 : Nat) (v : Option Value) (h : Heap) (L : List Loc) : Prop := v = none ∧ Fr n0 L ∧ Keep h0 h [a1] ∧ Exa Z h a1 "com/example/dewey/dewey/EncodingCheck" ∧ Fld Z h a1 "com/example/dewey/dewey/EncodingCheck" "taken" "J" (.long (tk + q)) ∧ Fld Z h a1 "com/example/dewey/dewey/EncodingCheck" "needed" "I" (.int (0 : Int32)) ∧ Fld Z h a1 "com/example/dewey/dewey/EncodingCheck" "openCount" "I" (.int (0 : Int32)) ∧ Fld Z h a1 "com/example/dewey/dewey/EncodingCheck" "rule" "Lcom/example/dewey/dewey/EncodingCheck$Rule;" (.ref r)
set_option maxRecDepth 65536 in
set_option maxHeartbeats 40000000 in
theorem rm_sk (l : Launch) (Z : State) (a0 : Array Value) (hw : ∀ d ∈ tables_1, d.before a0 Z = true) (ws : List Jvm.Cond) (a1 : Addr) (q : Int64) (tk : Int64) (u1 : Value) (u2 : Value) (r : Addr) (rU : Addr) (r16 : Addr) (r8 : Addr) (rA : Addr) (h0 : Heap) (n0 : Nat) (O0 : Old Z n0 h0) (SrU : Sta Z Z.heap "com/example/dewey/dewey/EncodingCheck$Rule" "UNKNOWN" "Lcom/example/dewey/dewey/EncodingCheck$Rule;" (.ref rU)) (Sr16 : Sta Z Z.heap "com/example/dewey/dewey/EncodingCheck$Rule" "UTF_16" "Lcom/example/dewey/dewey/EncodingCheck$Rule;" (.ref r16)) (Sr8 : Sta Z Z.heap "com/example/dewey/dewey/EncodingCheck$Rule" "UTF_8" "Lcom/example/dewey/dewey/EncodingCheck$Rule;" (.ref r8)) (SrA : Sta Z Z.heap "com/example/dewey/dewey/EncodingCheck$Rule" "US_ASCII" "Lcom/example/dewey/dewey/EncodingCheck$Rule;" (.ref rA)) (n_rU_r16 : rU ≠ r16) (n_rU_r8 : rU ≠ r8) (n_rU_rA : rU ≠ rA) (n_r16_r8 : r16 ≠ r8) (n_r16_rA : r16 ≠ rA) (n_r8_rA : r8 ≠ rA) (E1 : Exa Z h0 a1 "com/example/dewey/dewey/EncodingCheck") (F_taken : Fld Z h0 a1 "com/example/dewey/dewey/EncodingCheck" "taken" "J" (.long tk)) (F_rule : Fld Z h0 a1 "com/example/dewey/dewey/EncodingCheck" "rule" "Lcom/example/dewey/dewey/EncodingCheck$Rule;" (.ref r)) (F_needed : Fld Z h0 a1 "com/example/dewey/dewey/EncodingCheck" "needed" "I" u1) (F_openCount : Fld Z h0 a1 "com/example/dewey/dewey/EncodingCheck" "openCount" "I" u2) (g_a1 : n0 ≤ a1) :
    MetFree l (⟨"com/example/dewey/dewey/EncodingCheck", "skip", "(J)V"⟩ : MethodName) (head1 (Jvm.Cond.code (⟨"com/example/dewey/dewey/EncodingCheck", "skip", "(J)V"⟩ : MethodName) prog_23_method_3_code 3 none :: ws) ({ frames := 0, cells := 0, slots := 0, locals := 0 } : Room)) (fun a U => a = #[(.ref a1), (.long q)] ∧ Z.Warmed39 U.vm ∧ U.heap = h0) (fun _ _ _ _ _ => True) (fun _ U o U' => ∃ v L, o = .returned v ∧ Q_sk Z a1 q tk u1 u2 r rU r16 r8 rA h0 n0 v U'.heap L ∧ FrameEnd U o U' L ({ frames := 0, cells := 0, slots := 0, locals := 0 } : Room).cells ({ frames := 0, cells := 0, slots := 0, locals := 0 } : Room).slots) := by
  refine MetFree.of_bodySF (plainFor_of_name pn_0) hisR ?_
  intro p e s m args below meth c s₁ Bd hml0 hP hK
  obtain ⟨rfl, hZ, hh⟩ := hP
  have hx := Bd.exec
  have hby := Bd.bytes
  have hml : c.maxLocals = 3 := hml0
  have hown : s.vm.findClass "com/example/dewey/dewey/EncodingCheck" = some m.cls := findClass_of_methodNamed Bd.named
  have hnm := (name_of_methodNamed Bd.named Bd.method).1
  have X0 : Stand p l e ({ frames := 0, cells := 0, slots := 0, locals := 0 } : Room) s m #[(.ref a1), (.long q)] below meth c s₁ [] 0 0 := Stand.of_body Bd
  have e0 : s₁.heap = h0 := by rw [← hh, Bd.state]; rfl
  have N0 := Fr.nil n0
  have K0 : Keep h0 h0 [a1] := Keep.refl _ _
  have pre0 : ∀ t, Steps p.tables e below (s₁.setTop (mkF m 0 #[.val (.ref a1), .val (.long q), .second] [])) t → Steps p.tables e below (s₁.setTop (entryFrame m #[(.ref a1), (.long q)] 3)) t := fun t k => castTop (ef_sk m a1 q) k
  obtain ⟨T101, X101, e101, st101⟩ := getF X0 hx hZ hown (host := "") (Or.inl (hw _ (List.mem_of_getElem? (i := 47) rfl))) Via.refl e0 F_taken (g := (mkF m 2 #[.val (.ref a1), .val (.long q), .second] [(.ref a1), (.ref a1)])) rfl rfl (hb hby d_prog_23_method_3_2)
  obtain ⟨T102, h102, X102, e102, W102, st102⟩ := putF X101 hx hZ hown (host := "") (Or.inl (hw _ (List.mem_of_getElem? (i := 47) rfl))) Via.refl e101 F_taken E1 (Or.inl (hw _ (List.mem_of_getElem? (i := 48) rfl))) (hw _ (List.mem_of_getElem? (i := 1) rfl)) (ty := .long) (by decide) rfl rfl (g := (mkF m 7 #[.val (.ref a1), .val (.long q), .second] [(.long (tk + q)), (.ref a1)])) rfl rfl (hb hby d_prog_23_method_3_7)
  have F102 := F_taken.same W102
  have N102 := Fr.snoc X102 N0 g_a1
  have O102 := O0.wr W102 g_a1
  have K102 := K0.wr W102 (Or.inl (List.mem_of_getElem? (i := 0) rfl))
  have f103 := (E1.wr W102)
  have f104 := (F_needed.other W102 (Or.inr (slot_ne (Or.inl (hw _ (List.mem_of_getElem? (i := 55) rfl))) (Or.inl (hw _ (List.mem_of_getElem? (i := 48) rfl))) (by decide) (t := .int) (t' := .long) (by decide) (by decide))))
  obtain ⟨T105, h105, X105, e105, W105, st105⟩ := putF X102 hx hZ hown (host := "") (Or.inl (hw _ (List.mem_of_getElem? (i := 54) rfl))) Via.refl e102 f104 f103 (Or.inl (hw _ (List.mem_of_getElem? (i := 55) rfl))) (hw _ (List.mem_of_getElem? (i := 1) rfl)) (ty := .int) (by decide) rfl rfl (g := (mkF m 12 #[.val (.ref a1), .val (.long q), .second] [(.int (0 : Int32)), (.ref a1)])) rfl rfl (hb hby d_prog_23_method_3_12)
  have F105 := f104.same W105
  have N105 := Fr.snoc X105 N102 g_a1
  have O105 := O102.wr W105 g_a1
  have K105 := K102.wr W105 (Or.inl (List.mem_of_getElem? (i := 0) rfl))
  have f106 := (f103.wr W105)
  have f107 := ((F_openCount.other W102 (Or.inr (slot_ne (Or.inl (hw _ (List.mem_of_getElem? (i := 57) rfl))) (Or.inl (hw _ (List.mem_of_getElem? (i := 48) rfl))) (by decide) (t := .int) (t' := .long) (by decide) (by decide)))).other W105 (Or.inr (slot_ne (Or.inl (hw _ (List.mem_of_getElem? (i := 57) rfl))) (Or.inl (hw _ (List.mem_of_getElem? (i := 55) rfl))) (by decide) (t := .int) (t' := .int) (by decide) (by decide))))
  obtain ⟨T108, h108, X108, e108, W108, st108⟩ := putF X105 hx hZ hown (host := "") (Or.inl (hw _ (List.mem_of_getElem? (i := 56) rfl))) Via.refl e105 f107 f106 (Or.inl (hw _ (List.mem_of_getElem? (i := 57) rfl))) (hw _ (List.mem_of_getElem? (i := 1) rfl)) (ty := .int) (by decide) rfl rfl (g := (mkF m 17 #[.val (.ref a1), .val (.long q), .second] [(.int (0 : Int32)), (.ref a1)])) rfl rfl (hb hby d_prog_23_method_3_17)
  have F108 := f107.same W108
  have N108 := Fr.snoc X108 N105 g_a1
  have O108 := O105.wr W108 g_a1
  have K108 := K105.wr W108 (Or.inl (List.mem_of_getElem? (i := 0) rfl))
  have f109 := (f106.wr W108)
  have f110 := ((F102.other W105 (Or.inr (slot_ne (Or.inl (hw _ (List.mem_of_getElem? (i := 48) rfl))) (Or.inl (hw _ (List.mem_of_getElem? (i := 55) rfl))) (by decide) (t := .long) (t' := .int) (by decide) (by decide)))).other W108 (Or.inr (slot_ne (Or.inl (hw _ (List.mem_of_getElem? (i := 48) rfl))) (Or.inl (hw _ (List.mem_of_getElem? (i := 57) rfl))) (by decide) (t := .long) (t' := .int) (by decide) (by decide))))
  have f111 := (F105.other W108 (Or.inr (slot_ne (Or.inl (hw _ (List.mem_of_getElem? (i := 55) rfl))) (Or.inl (hw _ (List.mem_of_getElem? (i := 57) rfl))) (by decide) (t := .int) (t' := .int) (by decide) (by decide))))
  have f112 := (((F_rule.other W102 (Or.inr (slot_ne (Or.inl (hw _ (List.mem_of_getElem? (i := 16) rfl))) (Or.inl (hw _ (List.mem_of_getElem? (i := 48) rfl))) (by decide) (t := (.object "com/example/dewey/dewey/EncodingCheck$Rule")) (t' := .long) (by decide) (by decide)))).other W105 (Or.inr (slot_ne (Or.inl (hw _ (List.mem_of_getElem? (i := 16) rfl))) (Or.inl (hw _ (List.mem_of_getElem? (i := 55) rfl))) (by decide) (t := (.object "com/example/dewey/dewey/EncodingCheck$Rule")) (t' := .int) (by decide) (by decide)))).other W108 (Or.inr (slot_ne (Or.inl (hw _ (List.mem_of_getElem? (i := 16) rfl))) (Or.inl (hw _ (List.mem_of_getElem? (i := 57) rfl))) (by decide) (t := (.object "com/example/dewey/dewey/EncodingCheck$Rule")) (t' := .int) (by decide) (by decide))))
  obtain ⟨fs, hr, hrun, hended, hW, hsame⟩ := X108.leave (v := none) (fun _ => rfl)
  refine ⟨_, _, pre0 _ ?_, hrun, hended, _, _, rfl, ?_, ⟨_, rfl⟩, hW, hsame.mono (by decide) (by decide)⟩
  · show Steps p.tables e below (s₁.setTop (mkF m 0 #[.val (.ref a1), .val (.long q), .second] [])) _
    refine XS.aloadN X0.here hx rfl (hb hby d_prog_23_method_3_0) rfl rfl ?_
    refine XS.dup X0.here hx rfl (hb hby d_prog_23_method_3_1) rfl rfl ?_
    show Steps p.tables e below (s₁.setTop (mkF m 2 #[.val (.ref a1), .val (.long q), .second] [(.ref a1), (.ref a1)])) _
    refine st101 _ ?_
    show Steps p.tables e below (T101.setTop (mkF m 5 #[.val (.ref a1), .val (.long q), .second] [(.long tk), (.ref a1)])) _
    refine XS.lloadN X101.here hx rfl (hb hby d_prog_23_method_3_5) rfl ?_
    refine XS.ladd X101.here hx rfl (hb hby d_prog_23_method_3_6) rfl ?_
    show Steps p.tables e below (T101.setTop (mkF m 7 #[.val (.ref a1), .val (.long q), .second] [(.long (tk + q)), (.ref a1)])) _
    refine st102 _ ?_
    show Steps p.tables e below (T102.setTop (mkF m 10 #[.val (.ref a1), .val (.long q), .second] [])) _
    refine XS.aloadN X102.here hx rfl (hb hby d_prog_23_method_3_10) rfl rfl ?_
    refine XS.iconst X102.here hx rfl (hb hby d_prog_23_method_3_11) ?_
    show Steps p.tables e below (T102.setTop (mkF m 12 #[.val (.ref a1), .val (.long q), .second] [(.int (0 : Int32)), (.ref a1)])) _
    refine st105 _ ?_
    show Steps p.tables e below (T105.setTop (mkF m 15 #[.val (.ref a1), .val (.long q), .second] [])) _
    refine XS.aloadN X105.here hx rfl (hb hby d_prog_23_method_3_15) rfl rfl ?_
    refine XS.iconst X105.here hx rfl (hb hby d_prog_23_method_3_16) ?_
    show Steps p.tables e below (T105.setTop (mkF m 17 #[.val (.ref a1), .val (.long q), .second] [(.int (0 : Int32)), (.ref a1)])) _
    refine st108 _ ?_
    show Steps p.tables e below (T108.setTop (mkF m 20 #[.val (.ref a1), .val (.long q), .second] [])) _
    exact X108.returnOut hx Bd.returns (hb hby d_prog_23_method_3_20) hr
  · show Q_sk Z a1 q tk u1 u2 r rU r16 r8 rA h0 n0 _ T108.heap _
    rw [e108]
    exact ⟨rfl, N108, K108, f109, f110, f111, F108, f112⟩
theorem ef_e16 (m : MethodId) (a1 : Addr) : entryFrame m #[(.ref a1)] 1 = mkF m 0 #[.val (.ref a1)] [] := by first | (simp [entryFrame, mkF, argsToLocals, Value.category]; done) | rfl
def Q_e16 (Z : State) (a1 : Addr) (tk : Int64) (rU : Addr) (r16 : Addr) (r8 : Addr) (rA : Addr) (h0 : Heap) (n0 : Nat) (v : Option Value) (h : Heap) (L : List Loc) : Prop := v = none ∧ Fr n0 L ∧ h = h0
set_option maxRecDepth 65536 in
set_option maxHeartbeats 40000000 in
theorem rm_e16 (l : Launch) (Z : State) (a0 : Array Value) (hw : ∀ d ∈ tables_1, d.before a0 Z = true) (ws : List Jvm.Cond) (a1 : Addr) (tk : Int64) (rU : Addr) (r16 : Addr) (r8 : Addr) (rA : Addr) (h0 : Heap) (n0 : Nat) (O0 : Old Z n0 h0) (SrU : Sta Z Z.heap "com/example/dewey/dewey/EncodingCheck$Rule" "UNKNOWN" "Lcom/example/dewey/dewey/EncodingCheck$Rule;" (.ref rU)) (Sr16 : Sta Z Z.heap "com/example/dewey/dewey/EncodingCheck$Rule" "UTF_16" "Lcom/example/dewey/dewey/EncodingCheck$Rule;" (.ref r16)) (Sr8 : Sta Z Z.heap "com/example/dewey/dewey/EncodingCheck$Rule" "UTF_8" "Lcom/example/dewey/dewey/EncodingCheck$Rule;" (.ref r8)) (SrA : Sta Z Z.heap "com/example/dewey/dewey/EncodingCheck$Rule" "US_ASCII" "Lcom/example/dewey/dewey/EncodingCheck$Rule;" (.ref rA)) (n_rU_r16 : rU ≠ r16) (n_rU_r8 : rU ≠ r8) (n_rU_rA : rU ≠ rA) (n_r16_r8 : r16 ≠ r8) (n_r16_rA : r16 ≠ rA) (n_r8_rA : r8 ≠ rA) (E1 : Exa Z h0 a1 "com/example/dewey/dewey/EncodingCheck") (F_rule : Fld Z h0 a1 "com/example/dewey/dewey/EncodingCheck" "rule" "Lcom/example/dewey/dewey/EncodingCheck$Rule;" (.ref r16)) (F_taken : Fld Z h0 a1 "com/example/dewey/dewey/EncodingCheck" "taken" "J" (.long tk)) (ht : (tk - (tk / (2 : Int64)) * (2 : Int64)) = (0 : Int64)) :
    MetFree l (⟨"com/example/dewey/dewey/EncodingCheck", "end", "()V"⟩ : MethodName) (head1 (Jvm.Cond.code (⟨"com/example/dewey/dewey/EncodingCheck", "end", "()V"⟩ : MethodName) prog_23_method_4_code 1 none :: ws) ({ frames := 0, cells := 0, slots := 0, locals := 0 } : Room)) (fun a U => a = #[(.ref a1)] ∧ Z.Warmed39 U.vm ∧ U.heap = h0) (fun _ _ _ _ _ => True) (fun _ U o U' => ∃ v L, o = .returned v ∧ Q_e16 Z a1 tk rU r16 r8 rA h0 n0 v U'.heap L ∧ FrameEnd U o U' L ({ frames := 0, cells := 0, slots := 0, locals := 0 } : Room).cells ({ frames := 0, cells := 0, slots := 0, locals := 0 } : Room).slots) := by
  refine MetFree.of_bodySF (plainFor_of_name pn_0) hisR ?_
  intro p e s m args below meth c s₁ Bd hml0 hP hK
  obtain ⟨rfl, hZ, hh⟩ := hP
  have hx := Bd.exec
  have hby := Bd.bytes
  have hml : c.maxLocals = 1 := hml0
  have hown : s.vm.findClass "com/example/dewey/dewey/EncodingCheck" = some m.cls := findClass_of_methodNamed Bd.named
  have hnm := (name_of_methodNamed Bd.named Bd.method).1
  have X0 : Stand p l e ({ frames := 0, cells := 0, slots := 0, locals := 0 } : Room) s m #[(.ref a1)] below meth c s₁ [] 0 0 := Stand.of_body Bd
  have e0 : s₁.heap = h0 := by rw [← hh, Bd.state]; rfl
  have N0 := Fr.nil n0
  have pre0 : ∀ t, Steps p.tables e below (s₁.setTop (mkF m 0 #[.val (.ref a1)] [])) t → Steps p.tables e below (s₁.setTop (entryFrame m #[(.ref a1)] 1)) t := fun t k => castTop (ef_e16 m a1) k
  obtain ⟨T101, X101, e101, st101⟩ := getF X0 hx hZ hown (host := "") (Or.inl (hw _ (List.mem_of_getElem? (i := 15) rfl))) Via.refl e0 F_rule (g := (mkF m 1 #[.val (.ref a1)] [(.ref a1)])) rfl rfl (hb hby d_prog_23_method_4_1)
  obtain ⟨T102, X102, e102, st102⟩ := getS2 X101 hx hZ hown (host := "") (Or.inl (hw _ (List.mem_of_getElem? (i := 12) rfl))) Via.refl e101 (SrU.ext O0.2) (g := (mkF m 4 #[.val (.ref a1)] [(.ref r16)])) rfl (hb hby d_prog_23_method_4_4)
  obtain ⟨T103, X103, e103, st103⟩ := getF X102 hx hZ hown (host := "") (Or.inl (hw _ (List.mem_of_getElem? (i := 15) rfl))) Via.refl e102 F_rule (g := (mkF m 15 #[.val (.ref a1)] [(.ref a1)])) rfl rfl (hb hby d_prog_23_method_4_15)
  obtain ⟨T104, X104, e104, st104⟩ := getS2 X103 hx hZ hown (host := "") (Or.inl (hw _ (List.mem_of_getElem? (i := 43) rfl))) Via.refl e103 (Sr8.ext O0.2) (g := (mkF m 18 #[.val (.ref a1)] [(.ref r16)])) rfl (hb hby d_prog_23_method_4_18)
  obtain ⟨T105, X105, e105, st105⟩ := getF X104 hx hZ hown (host := "") (Or.inl (hw _ (List.mem_of_getElem? (i := 15) rfl))) Via.refl e104 F_rule (g := (mkF m 60 #[.val (.ref a1)] [(.ref a1)])) rfl rfl (hb hby d_prog_23_method_4_60)
  obtain ⟨T106, X106, e106, st106⟩ := getS2 X105 hx hZ hown (host := "") (Or.inl (hw _ (List.mem_of_getElem? (i := 37) rfl))) Via.refl e105 (Sr16.ext O0.2) (g := (mkF m 63 #[.val (.ref a1)] [(.ref r16)])) rfl (hb hby d_prog_23_method_4_63)
  obtain ⟨T107, X107, e107, st107⟩ := getF X106 hx hZ hown (host := "") (Or.inl (hw _ (List.mem_of_getElem? (i := 47) rfl))) Via.refl e106 F_taken (g := (mkF m 70 #[.val (.ref a1)] [(.ref a1)])) rfl rfl (hb hby d_prog_23_method_4_70)
  have hc108 : (tk - (tk / (2 : Int64)) * (2 : Int64)) = (0 : Int64) := ht
  obtain ⟨fs, hr, hrun, hended, hW, hsame⟩ := X107.leave (v := none) (fun _ => rfl)
  refine ⟨_, _, pre0 _ ?_, hrun, hended, _, _, rfl, ?_, ⟨_, rfl⟩, hW, hsame.mono (by decide) (by decide)⟩
  · show Steps p.tables e below (s₁.setTop (mkF m 0 #[.val (.ref a1)] [])) _
    refine XS.aloadN X0.here hx rfl (hb hby d_prog_23_method_4_0) rfl rfl ?_
    show Steps p.tables e below (s₁.setTop (mkF m 1 #[.val (.ref a1)] [(.ref a1)])) _
    refine st101 _ ?_
    show Steps p.tables e below (T101.setTop (mkF m 4 #[.val (.ref a1)] [(.ref r16)])) _
    refine st102 _ ?_
    show Steps p.tables e below (T102.setTop (mkF m 7 #[.val (.ref a1)] [(.ref rU), (.ref r16)])) _
    refine Jvm.RoadKit.acmp (g := (mkF m 7 #[.val (.ref a1)] [(.ref rU), (.ref r16)])) X102 hx rfl rfl rfl (pc0 := 7) (pc' := 14) (same := false) rfl (hb hby d_prog_23_method_4_7) rfl (decide_eq_false fun q => (Ne.symm n_rU_r16) (Value.ref.inj q)) (by decide) (by decide) ?_
    show Steps p.tables e below (T102.setTop (mkF m 14 #[.val (.ref a1)] [])) _
    refine XS.aloadN X102.here hx rfl (hb hby d_prog_23_method_4_14) rfl rfl ?_
    show Steps p.tables e below (T102.setTop (mkF m 15 #[.val (.ref a1)] [(.ref a1)])) _
    refine st103 _ ?_
    show Steps p.tables e below (T103.setTop (mkF m 18 #[.val (.ref a1)] [(.ref r16)])) _
    refine st104 _ ?_
    show Steps p.tables e below (T104.setTop (mkF m 21 #[.val (.ref a1)] [(.ref r8), (.ref r16)])) _
    refine Jvm.RoadKit.acmp (g := (mkF m 21 #[.val (.ref a1)] [(.ref r8), (.ref r16)])) X104 hx rfl rfl rfl (pc0 := 21) (pc' := 59) (same := false) rfl (hb hby d_prog_23_method_4_21) rfl (decide_eq_false fun q => n_r16_r8 (Value.ref.inj q)) (by decide) (by decide) ?_
    show Steps p.tables e below (T104.setTop (mkF m 59 #[.val (.ref a1)] [])) _
    refine XS.aloadN X104.here hx rfl (hb hby d_prog_23_method_4_59) rfl rfl ?_
    show Steps p.tables e below (T104.setTop (mkF m 60 #[.val (.ref a1)] [(.ref a1)])) _
    refine st105 _ ?_
    show Steps p.tables e below (T105.setTop (mkF m 63 #[.val (.ref a1)] [(.ref r16)])) _
    refine st106 _ ?_
    show Steps p.tables e below (T106.setTop (mkF m 66 #[.val (.ref a1)] [(.ref r16), (.ref r16)])) _
    refine Jvm.RoadKit.acmp (g := (mkF m 66 #[.val (.ref a1)] [(.ref r16), (.ref r16)])) X106 hx rfl rfl rfl (pc0 := 66) (pc' := 69) (same := true) rfl (hb hby d_prog_23_method_4_66) rfl (decide_eq_true rfl) (by decide) (by decide) ?_
    show Steps p.tables e below (T106.setTop (mkF m 69 #[.val (.ref a1)] [])) _
    refine XS.aloadN X106.here hx rfl (hb hby d_prog_23_method_4_69) rfl rfl ?_
    show Steps p.tables e below (T106.setTop (mkF m 70 #[.val (.ref a1)] [(.ref a1)])) _
    refine st107 _ ?_
    show Steps p.tables e below (T107.setTop (mkF m 73 #[.val (.ref a1)] [(.long tk)])) _
    refine X107.ldc2Long hx hown (mvT hZ (hw _ (List.mem_of_getElem? (i := 63) rfl))) (g := (mkF m 73 #[.val (.ref a1)] [(.long tk)])) rfl (hb hby d_prog_23_method_4_73) _ ?_
    show Steps p.tables e below (T107.setTop (mkF m 76 #[.val (.ref a1)] [(.long (2 : Int64)), (.long tk)])) _
    refine XS.lrem X107.here hx rfl (hb hby d_prog_23_method_4_76) rfl (by decide) ?_
    refine XS.lconst X107.here hx rfl (hb hby d_prog_23_method_4_77) ?_
    refine XS.lcmp X107.here hx rfl (hb hby d_prog_23_method_4_78) rfl ?_
    refine XS.ifYes X107.here hx rfl (pc0 := 79) (pc' := 98) rfl (hb hby d_prog_23_method_4_79) rfl ((if0 _ _).trans (teq ((lw_eq _ _).mpr hc108)).1) (by decide) (by decide) ?_
    show Steps p.tables e below (T107.setTop (mkF m 98 #[.val (.ref a1)] [])) _
    exact X107.returnOut hx Bd.returns (hb hby d_prog_23_method_4_98) hr
  · show Q_e16 Z a1 tk rU r16 r8 rA h0 n0 _ T107.heap _
    rw [e107]
    exact ⟨rfl, N0, rfl⟩
theorem ef_e8 (m : MethodId) (a1 : Addr) : entryFrame m #[(.ref a1)] 1 = mkF m 0 #[.val (.ref a1)] [] := by first | (simp [entryFrame, mkF, argsToLocals, Value.category]; done) | rfl
def Q_e8 (Z : State) (a1 : Addr) (rU : Addr) (r16 : Addr) (r8 : Addr) (rA : Addr) (h0 : Heap) (n0 : Nat) (v : Option Value) (h : Heap) (L : List Loc) : Prop := v = none ∧ Fr n0 L ∧ h = h0
set_option maxRecDepth 65536 in
set_option maxHeartbeats 40000000 in
theorem rm_e8 (l : Launch) (Z : State) (a0 : Array Value) (hw : ∀ d ∈ tables_1, d.before a0 Z = true) (ws : List Jvm.Cond) (a1 : Addr) (rU : Addr) (r16 : Addr) (r8 : Addr) (rA : Addr) (h0 : Heap) (n0 : Nat) (O0 : Old Z n0 h0) (SrU : Sta Z Z.heap "com/example/dewey/dewey/EncodingCheck$Rule" "UNKNOWN" "Lcom/example/dewey/dewey/EncodingCheck$Rule;" (.ref rU)) (Sr16 : Sta Z Z.heap "com/example/dewey/dewey/EncodingCheck$Rule" "UTF_16" "Lcom/example/dewey/dewey/EncodingCheck$Rule;" (.ref r16)) (Sr8 : Sta Z Z.heap "com/example/dewey/dewey/EncodingCheck$Rule" "UTF_8" "Lcom/example/dewey/dewey/EncodingCheck$Rule;" (.ref r8)) (SrA : Sta Z Z.heap "com/example/dewey/dewey/EncodingCheck$Rule" "US_ASCII" "Lcom/example/dewey/dewey/EncodingCheck$Rule;" (.ref rA)) (n_rU_r16 : rU ≠ r16) (n_rU_r8 : rU ≠ r8) (n_rU_rA : rU ≠ rA) (n_r16_r8 : r16 ≠ r8) (n_r16_rA : r16 ≠ rA) (n_r8_rA : r8 ≠ rA) (E1 : Exa Z h0 a1 "com/example/dewey/dewey/EncodingCheck") (F_rule : Fld Z h0 a1 "com/example/dewey/dewey/EncodingCheck" "rule" "Lcom/example/dewey/dewey/EncodingCheck$Rule;" (.ref r8)) (F_needed : Fld Z h0 a1 "com/example/dewey/dewey/EncodingCheck" "needed" "I" (.int (0 : Int32))) :
    MetFree l (⟨"com/example/dewey/dewey/EncodingCheck", "end", "()V"⟩ : MethodName) (head1 (Jvm.Cond.code (⟨"com/example/dewey/dewey/EncodingCheck", "end", "()V"⟩ : MethodName) prog_23_method_4_code 1 none :: ws) ({ frames := 0, cells := 0, slots := 0, locals := 0 } : Room)) (fun a U => a = #[(.ref a1)] ∧ Z.Warmed39 U.vm ∧ U.heap = h0) (fun _ _ _ _ _ => True) (fun _ U o U' => ∃ v L, o = .returned v ∧ Q_e8 Z a1 rU r16 r8 rA h0 n0 v U'.heap L ∧ FrameEnd U o U' L ({ frames := 0, cells := 0, slots := 0, locals := 0 } : Room).cells ({ frames := 0, cells := 0, slots := 0, locals := 0 } : Room).slots) := by
  refine MetFree.of_bodySF (plainFor_of_name pn_0) hisR ?_
  intro p e s m args below meth c s₁ Bd hml0 hP hK
  obtain ⟨rfl, hZ, hh⟩ := hP
  have hx := Bd.exec
  have hby := Bd.bytes
  have hml : c.maxLocals = 1 := hml0
  have hown : s.vm.findClass "com/example/dewey/dewey/EncodingCheck" = some m.cls := findClass_of_methodNamed Bd.named
  have hnm := (name_of_methodNamed Bd.named Bd.method).1
  have X0 : Stand p l e ({ frames := 0, cells := 0, slots := 0, locals := 0 } : Room) s m #[(.ref a1)] below meth c s₁ [] 0 0 := Stand.of_body Bd
  have e0 : s₁.heap = h0 := by rw [← hh, Bd.state]; rfl
  have N0 := Fr.nil n0
  have pre0 : ∀ t, Steps p.tables e below (s₁.setTop (mkF m 0 #[.val (.ref a1)] [])) t → Steps p.tables e below (s₁.setTop (entryFrame m #[(.ref a1)] 1)) t := fun t k => castTop (ef_e8 m a1) k
  obtain ⟨T101, X101, e101, st101⟩ := getF X0 hx hZ hown (host := "") (Or.inl (hw _ (List.mem_of_getElem? (i := 15) rfl))) Via.refl e0 F_rule (g := (mkF m 1 #[.val (.ref a1)] [(.ref a1)])) rfl rfl (hb hby d_prog_23_method_4_1)
  obtain ⟨T102, X102, e102, st102⟩ := getS2 X101 hx hZ hown (host := "") (Or.inl (hw _ (List.mem_of_getElem? (i := 12) rfl))) Via.refl e101 (SrU.ext O0.2) (g := (mkF m 4 #[.val (.ref a1)] [(.ref r8)])) rfl (hb hby d_prog_23_method_4_4)
  obtain ⟨T103, X103, e103, st103⟩ := getF X102 hx hZ hown (host := "") (Or.inl (hw _ (List.mem_of_getElem? (i := 15) rfl))) Via.refl e102 F_rule (g := (mkF m 15 #[.val (.ref a1)] [(.ref a1)])) rfl rfl (hb hby d_prog_23_method_4_15)
  obtain ⟨T104, X104, e104, st104⟩ := getS2 X103 hx hZ hown (host := "") (Or.inl (hw _ (List.mem_of_getElem? (i := 43) rfl))) Via.refl e103 (Sr8.ext O0.2) (g := (mkF m 18 #[.val (.ref a1)] [(.ref r8)])) rfl (hb hby d_prog_23_method_4_18)
  obtain ⟨T105, X105, e105, st105⟩ := getF X104 hx hZ hown (host := "") (Or.inl (hw _ (List.mem_of_getElem? (i := 54) rfl))) Via.refl e104 F_needed (g := (mkF m 25 #[.val (.ref a1)] [(.ref a1)])) rfl rfl (hb hby d_prog_23_method_4_25)
  obtain ⟨T106, X106, e106, st106⟩ := getF X105 hx hZ hown (host := "") (Or.inl (hw _ (List.mem_of_getElem? (i := 15) rfl))) Via.refl e105 F_rule (g := (mkF m 60 #[.val (.ref a1)] [(.ref a1)])) rfl rfl (hb hby d_prog_23_method_4_60)
  obtain ⟨T107, X107, e107, st107⟩ := getS2 X106 hx hZ hown (host := "") (Or.inl (hw _ (List.mem_of_getElem? (i := 37) rfl))) Via.refl e106 (Sr16.ext O0.2) (g := (mkF m 63 #[.val (.ref a1)] [(.ref r8)])) rfl (hb hby d_prog_23_method_4_63)
  obtain ⟨fs, hr, hrun, hended, hW, hsame⟩ := X107.leave (v := none) (fun _ => rfl)
  refine ⟨_, _, pre0 _ ?_, hrun, hended, _, _, rfl, ?_, ⟨_, rfl⟩, hW, hsame.mono (by decide) (by decide)⟩
  · show Steps p.tables e below (s₁.setTop (mkF m 0 #[.val (.ref a1)] [])) _
    refine XS.aloadN X0.here hx rfl (hb hby d_prog_23_method_4_0) rfl rfl ?_
    show Steps p.tables e below (s₁.setTop (mkF m 1 #[.val (.ref a1)] [(.ref a1)])) _
    refine st101 _ ?_
    show Steps p.tables e below (T101.setTop (mkF m 4 #[.val (.ref a1)] [(.ref r8)])) _
    refine st102 _ ?_
    show Steps p.tables e below (T102.setTop (mkF m 7 #[.val (.ref a1)] [(.ref rU), (.ref r8)])) _
    refine Jvm.RoadKit.acmp (g := (mkF m 7 #[.val (.ref a1)] [(.ref rU), (.ref r8)])) X102 hx rfl rfl rfl (pc0 := 7) (pc' := 14) (same := false) rfl (hb hby d_prog_23_method_4_7) rfl (decide_eq_false fun q => (Ne.symm n_rU_r8) (Value.ref.inj q)) (by decide) (by decide) ?_
    show Steps p.tables e below (T102.setTop (mkF m 14 #[.val (.ref a1)] [])) _
    refine XS.aloadN X102.here hx rfl (hb hby d_prog_23_method_4_14) rfl rfl ?_
    show Steps p.tables e below (T102.setTop (mkF m 15 #[.val (.ref a1)] [(.ref a1)])) _
    refine st103 _ ?_
    show Steps p.tables e below (T103.setTop (mkF m 18 #[.val (.ref a1)] [(.ref r8)])) _
    refine st104 _ ?_
    show Steps p.tables e below (T104.setTop (mkF m 21 #[.val (.ref a1)] [(.ref r8), (.ref r8)])) _
    refine Jvm.RoadKit.acmp (g := (mkF m 21 #[.val (.ref a1)] [(.ref r8), (.ref r8)])) X104 hx rfl rfl rfl (pc0 := 21) (pc' := 24) (same := true) rfl (hb hby d_prog_23_method_4_21) rfl (decide_eq_true rfl) (by decide) (by decide) ?_
    show Steps p.tables e below (T104.setTop (mkF m 24 #[.val (.ref a1)] [])) _
    refine XS.aloadN X104.here hx rfl (hb hby d_prog_23_method_4_24) rfl rfl ?_
    show Steps p.tables e below (T104.setTop (mkF m 25 #[.val (.ref a1)] [(.ref a1)])) _
    refine st105 _ ?_
    show Steps p.tables e below (T105.setTop (mkF m 28 #[.val (.ref a1)] [(.int (0 : Int32))])) _
    refine XS.ifYes X105.here hx rfl (pc0 := 28) (pc' := 59) rfl (hb hby d_prog_23_method_4_28) rfl ((if0 _ _).trans (flt (by decide : ¬ ((0 : Int32) < (0 : Int32)))).2.2.2) (by decide) (by decide) ?_
    refine XS.aloadN X105.here hx rfl (hb hby d_prog_23_method_4_59) rfl rfl ?_
    show Steps p.tables e below (T105.setTop (mkF m 60 #[.val (.ref a1)] [(.ref a1)])) _
    refine st106 _ ?_
    show Steps p.tables e below (T106.setTop (mkF m 63 #[.val (.ref a1)] [(.ref r8)])) _
    refine st107 _ ?_
    show Steps p.tables e below (T107.setTop (mkF m 66 #[.val (.ref a1)] [(.ref r16), (.ref r8)])) _
    refine Jvm.RoadKit.acmp (g := (mkF m 66 #[.val (.ref a1)] [(.ref r16), (.ref r8)])) X107 hx rfl rfl rfl (pc0 := 66) (pc' := 98) (same := false) rfl (hb hby d_prog_23_method_4_66) rfl (decide_eq_false fun q => (Ne.symm n_r16_r8) (Value.ref.inj q)) (by decide) (by decide) ?_
    show Steps p.tables e below (T107.setTop (mkF m 98 #[.val (.ref a1)] [])) _
    exact X107.returnOut hx Bd.returns (hb hby d_prog_23_method_4_98) hr
  · show Q_e8 Z a1 rU r16 r8 rA h0 n0 _ T107.heap _
    rw [e107]
    exact ⟨rfl, N0, rfl⟩
theorem ef_ini (m : MethodId) (a1 : Addr) : entryFrame m #[(.ref a1)] 1 = mkF m 0 #[.val (.ref a1)] [] := by first | (simp [entryFrame, mkF, argsToLocals, Value.category]; done) | rfl
def Q_ini (Z : State) (a1 : Addr) (rU : Addr) (r16 : Addr) (r8 : Addr) (rA : Addr) (h0 : Heap) (n0 : Nat) (v : Option Value) (h : Heap) (L : List Loc) : Prop := ∃ (b1 b2 : Addr) (k1 k2 : ClassId), v = none ∧ Fr n0 L ∧ Keep h0 h [a1] ∧ Exa Z h a1 "com/example/dewey/dewey/EncodingCheck" ∧ Fld Z h a1 "com/example/dewey/dewey/EncodingCheck" "first" "[B" (.ref b1) ∧ Fld Z h a1 "com/example/dewey/dewey/EncodingCheck" "rule" "Lcom/example/dewey/dewey/EncodingCheck$Rule;" (.ref rU) ∧ Fld Z h a1 "com/example/dewey/dewey/EncodingCheck" "low" "I" (.int (128 : Int32)) ∧ Fld Z h a1 "com/example/dewey/dewey/EncodingCheck" "high" "I" (.int (191 : Int32)) ∧ Fld Z h a1 "com/example/dewey/dewey/EncodingCheck" "open" "[B" (.ref b2) ∧ Fld Z h a1 "com/example/dewey/dewey/EncodingCheck" "firstCount" "I" (.int (0 : Int32)) ∧ Fld Z h a1 "com/example/dewey/dewey/EncodingCheck" "taken" "J" (.long (0 : Int64)) ∧ Fld Z h a1 "com/example/dewey/dewey/EncodingCheck" "needed" "I" (.int (0 : Int32)) ∧ Fld Z h a1 "com/example/dewey/dewey/EncodingCheck" "openCount" "I" (.int (0 : Int32)) ∧ Fld Z h a1 "com/example/dewey/dewey/EncodingCheck" "start" "J" (.long (0 : Int64)) ∧ Arv Z h b1 k1 .byte (4 : Int32) [(.int (0 : Int32)), (.int (0 : Int32)), (.int (0 : Int32)), (.int (0 : Int32))] (.int (0 : Int32)) ∧ Arv Z h b2 k2 .byte (4 : Int32) [(.int (0 : Int32)), (.int (0 : Int32)), (.int (0 : Int32)), (.int (0 : Int32))] (.int (0 : Int32)) ∧ h0.size ≤ b1 ∧ h0.size ≤ b2 ∧ b1 ≠ b2
set_option maxRecDepth 65536 in
set_option maxHeartbeats 40000000 in
theorem rm_ini (l : Launch) (Z : State) (a0 : Array Value) (hw : ∀ d ∈ tables_1, d.before a0 Z = true) (ws : List Jvm.Cond) (a1 : Addr) (rU : Addr) (r16 : Addr) (r8 : Addr) (rA : Addr) (h0 : Heap) (n0 : Nat) (O0 : Old Z n0 h0) (SrU : Sta Z Z.heap "com/example/dewey/dewey/EncodingCheck$Rule" "UNKNOWN" "Lcom/example/dewey/dewey/EncodingCheck$Rule;" (.ref rU)) (Sr16 : Sta Z Z.heap "com/example/dewey/dewey/EncodingCheck$Rule" "UTF_16" "Lcom/example/dewey/dewey/EncodingCheck$Rule;" (.ref r16)) (Sr8 : Sta Z Z.heap "com/example/dewey/dewey/EncodingCheck$Rule" "UTF_8" "Lcom/example/dewey/dewey/EncodingCheck$Rule;" (.ref r8)) (SrA : Sta Z Z.heap "com/example/dewey/dewey/EncodingCheck$Rule" "US_ASCII" "Lcom/example/dewey/dewey/EncodingCheck$Rule;" (.ref rA)) (n_rU_r16 : rU ≠ r16) (n_rU_r8 : rU ≠ r8) (n_rU_rA : rU ≠ rA) (n_r16_r8 : r16 ≠ r8) (n_r16_rA : r16 ≠ rA) (n_r8_rA : r8 ≠ rA) (E1 : Exa Z h0 a1 "com/example/dewey/dewey/EncodingCheck") (F_first : Fld Z h0 a1 "com/example/dewey/dewey/EncodingCheck" "first" "[B" .null) (F_rule : Fld Z h0 a1 "com/example/dewey/dewey/EncodingCheck" "rule" "Lcom/example/dewey/dewey/EncodingCheck$Rule;" .null) (F_low : Fld Z h0 a1 "com/example/dewey/dewey/EncodingCheck" "low" "I" (.int (0 : Int32))) (F_high : Fld Z h0 a1 "com/example/dewey/dewey/EncodingCheck" "high" "I" (.int (0 : Int32))) (F_open : Fld Z h0 a1 "com/example/dewey/dewey/EncodingCheck" "open" "[B" .null) (F_firstCount : Fld Z h0 a1 "com/example/dewey/dewey/EncodingCheck" "firstCount" "I" (.int (0 : Int32))) (F_taken : Fld Z h0 a1 "com/example/dewey/dewey/EncodingCheck" "taken" "J" (.long (0 : Int64))) (F_needed : Fld Z h0 a1 "com/example/dewey/dewey/EncodingCheck" "needed" "I" (.int (0 : Int32))) (F_openCount : Fld Z h0 a1 "com/example/dewey/dewey/EncodingCheck" "openCount" "I" (.int (0 : Int32))) (F_start : Fld Z h0 a1 "com/example/dewey/dewey/EncodingCheck" "start" "J" (.long (0 : Int64))) (g_a1 : n0 ≤ a1) :
    MetFree l (⟨"com/example/dewey/dewey/EncodingCheck", "<init>", "()V"⟩ : MethodName) (head1 (Jvm.Cond.code (⟨"com/example/dewey/dewey/EncodingCheck", "<init>", "()V"⟩ : MethodName) prog_23_method_1_code 1 none :: ws) ({ frames := 1, cells := 2, slots := 8, locals := 12 } : Room)) (fun a U => a = #[(.ref a1)] ∧ Z.Warmed39 U.vm ∧ U.heap = h0) (fun _ _ _ _ _ => True) (fun _ U o U' => ∃ v L, o = .returned v ∧ Q_ini Z a1 rU r16 r8 rA h0 n0 v U'.heap L ∧ FrameEnd U o U' L ({ frames := 1, cells := 2, slots := 8, locals := 12 } : Room).cells ({ frames := 1, cells := 2, slots := 8, locals := 12 } : Room).slots) := by
  refine MetFree.of_bodySF (plainFor_of_name pn_0) hisR ?_
  intro p e s m args below meth c s₁ Bd hml0 hP hK
  obtain ⟨rfl, hZ, hh⟩ := hP
  have hx := Bd.exec
  have hby := Bd.bytes
  have hml : c.maxLocals = 1 := hml0
  have hown : s.vm.findClass "com/example/dewey/dewey/EncodingCheck" = some m.cls := findClass_of_methodNamed Bd.named
  have hnm := (name_of_methodNamed Bd.named Bd.method).1
  have X0 : Stand p l e ({ frames := 1, cells := 2, slots := 8, locals := 12 } : Room) s m #[(.ref a1)] below meth c s₁ [] 0 0 := Stand.of_body Bd
  have e0 : s₁.heap = h0 := by rw [← hh, Bd.state]; rfl
  have N0 := Fr.nil n0
  have K0 : Keep h0 h0 [a1] := Keep.refl _ _
  have pre0 : ∀ t, Steps p.tables e below (s₁.setTop (mkF m 0 #[.val (.ref a1)] [])) t → Steps p.tables e below (s₁.setTop (entryFrame m #[(.ref a1)] 1)) t := fun t k => castTop (ef_ini m a1) k
  obtain ⟨T101, X101, e101, st101⟩ := initO X0 hx hZ hown (hw _ (List.mem_of_getElem? (i := 6) rfl)) (hw _ (List.mem_of_getElem? (i := 7) rfl)) (hw _ (List.mem_of_getElem? (i := 8) rfl)) e0 (g := (mkF m 1 #[.val (.ref a1)] [(.ref a1)])) rfl (by rw [hml]; rfl) rfl (hb hby d_prog_23_method_1_1) (by decide) (W := 0) (by show 2 * 0 + _ ≤ _; exact Nat.le_of_eq rfl) (by decide)
  obtain ⟨T102, h102, k102, X102, e102, E102, A102, st102⟩ := newP X101 hx hZ (hw _ (List.mem_of_getElem? (i := 9) rfl)) e101 (g := (mkF m 6 #[.val (.ref a1)] [(.int (4 : Int32)), (.ref a1)])) rfl (hb hby d_prog_23_method_1_6) rfl (by decide) (cap := 4) (by decide) (by decide) (by decide) (by decide)
  obtain ⟨b102, g102⟩ : ∃ z, z = h0.size := ⟨_, rfl⟩
  rw [← g102] at A102 st102
  have g_b102 : n0 ≤ b102 := Nat.le_trans (own_szO O0) (Nat.le_of_eq g102.symm)
  have sz_b102 : h0.size ≤ b102 := Nat.le_trans K0.1 (Nat.le_of_eq g102.symm)
  have ne_a1_b102 : a1 ≠ b102 := Nat.ne_of_lt (Nat.lt_of_lt_of_le E1.lt (Nat.le_of_eq g102.symm))
  have O102 := O0.ext E102
  have K102 := K0.ext E102
  have V102 : Arv Z h102 b102 k102 .byte (4 : Int32) [(.int (0 : Int32)), (.int (0 : Int32)), (.int (0 : Int32)), (.int (0 : Int32))] (.int (0 : Int32)) := (Arv.new A102 (by decide)).pad (pad_rep [] (.int (0 : Int32)) 4)
  have f103 := (E1.ext E102)
  have f104 := (F_first.ext E102)
  obtain ⟨T105, h105, X105, e105, W105, st105⟩ := putF X102 hx hZ hown (host := "") (Or.inl (hw _ (List.mem_of_getElem? (i := 10) rfl))) Via.refl e102 f104 f103 (Or.inr ⟨(hw _ (List.mem_of_getElem? (i := 11) rfl)), rfl, hnm⟩) (hw _ (List.mem_of_getElem? (i := 1) rfl)) (ty := (.array .byte)) (by decide) rfl rfl (g := (mkF m 8 #[.val (.ref a1)] [(.ref b102), (.ref a1)])) rfl rfl (hb hby d_prog_23_method_1_8)
  have F105 := f104.same W105
  have N105 := Fr.snoc X105 N0 g_a1
  have O105 := O102.wr W105 g_a1
  have K105 := K102.wr W105 (Or.inl (List.mem_of_getElem? (i := 0) rfl))
  obtain ⟨T106, X106, e106, st106⟩ := getS2 X105 hx hZ hown (host := "") (Or.inl (hw _ (List.mem_of_getElem? (i := 12) rfl))) Via.refl e105 (SrU.ext O105.2) (g := (mkF m 12 #[.val (.ref a1)] [(.ref a1)])) rfl (hb hby d_prog_23_method_1_12)
  have f107 := (f103.wr W105)
  have f108 := ((F_rule.ext E102).other W105 (Or.inr (slot_ne (Or.inl (hw _ (List.mem_of_getElem? (i := 16) rfl))) (Or.inr (hw _ (List.mem_of_getElem? (i := 11) rfl))) (by decide) (t := (.object "com/example/dewey/dewey/EncodingCheck$Rule")) (t' := (.array .byte)) (by decide) (by decide))))
  obtain ⟨T109, h109, X109, e109, W109, st109⟩ := putF X106 hx hZ hown (host := "") (Or.inl (hw _ (List.mem_of_getElem? (i := 15) rfl))) Via.refl e106 f108 f107 (Or.inl (hw _ (List.mem_of_getElem? (i := 16) rfl))) (hw _ (List.mem_of_getElem? (i := 1) rfl)) (ty := (.object "com/example/dewey/dewey/EncodingCheck$Rule")) (by decide) rfl rfl (g := (mkF m 15 #[.val (.ref a1)] [(.ref rU), (.ref a1)])) rfl rfl (hb hby d_prog_23_method_1_15)
  have F109 := f108.same W109
  have N109 := Fr.snoc X109 N105 g_a1
  have O109 := O105.wr W109 g_a1
  have K109 := K105.wr W109 (Or.inl (List.mem_of_getElem? (i := 0) rfl))
  have f110 := (f107.wr W109)
  have f111 := (((F_low.ext E102).other W105 (Or.inr (slot_ne (Or.inl (hw _ (List.mem_of_getElem? (i := 18) rfl))) (Or.inr (hw _ (List.mem_of_getElem? (i := 11) rfl))) (by decide) (t := .int) (t' := (.array .byte)) (by decide) (by decide)))).other W109 (Or.inr (slot_ne (Or.inl (hw _ (List.mem_of_getElem? (i := 18) rfl))) (Or.inl (hw _ (List.mem_of_getElem? (i := 16) rfl))) (by decide) (t := .int) (t' := (.object "com/example/dewey/dewey/EncodingCheck$Rule")) (by decide) (by decide))))
  obtain ⟨T112, h112, X112, e112, W112, st112⟩ := putF X109 hx hZ hown (host := "") (Or.inl (hw _ (List.mem_of_getElem? (i := 17) rfl))) Via.refl e109 f111 f110 (Or.inl (hw _ (List.mem_of_getElem? (i := 18) rfl))) (hw _ (List.mem_of_getElem? (i := 1) rfl)) (ty := .int) (by decide) rfl rfl (g := (mkF m 22 #[.val (.ref a1)] [(.int (128 : Int32)), (.ref a1)])) rfl rfl (hb hby d_prog_23_method_1_22)
  have F112 := f111.same W112
  have N112 := Fr.snoc X112 N109 g_a1
  have O112 := O109.wr W112 g_a1
  have K112 := K109.wr W112 (Or.inl (List.mem_of_getElem? (i := 0) rfl))
  have f113 := (f110.wr W112)
  have f114 := ((((F_high.ext E102).other W105 (Or.inr (slot_ne (Or.inl (hw _ (List.mem_of_getElem? (i := 20) rfl))) (Or.inr (hw _ (List.mem_of_getElem? (i := 11) rfl))) (by decide) (t := .int) (t' := (.array .byte)) (by decide) (by decide)))).other W109 (Or.inr (slot_ne (Or.inl (hw _ (List.mem_of_getElem? (i := 20) rfl))) (Or.inl (hw _ (List.mem_of_getElem? (i := 16) rfl))) (by decide) (t := .int) (t' := (.object "com/example/dewey/dewey/EncodingCheck$Rule")) (by decide) (by decide)))).other W112 (Or.inr (slot_ne (Or.inl (hw _ (List.mem_of_getElem? (i := 20) rfl))) (Or.inl (hw _ (List.mem_of_getElem? (i := 18) rfl))) (by decide) (t := .int) (t' := .int) (by decide) (by decide))))
  obtain ⟨T115, h115, X115, e115, W115, st115⟩ := putF X112 hx hZ hown (host := "") (Or.inl (hw _ (List.mem_of_getElem? (i := 19) rfl))) Via.refl e112 f114 f113 (Or.inl (hw _ (List.mem_of_getElem? (i := 20) rfl))) (hw _ (List.mem_of_getElem? (i := 1) rfl)) (ty := .int) (by decide) rfl rfl (g := (mkF m 29 #[.val (.ref a1)] [(.int (191 : Int32)), (.ref a1)])) rfl rfl (hb hby d_prog_23_method_1_29)
  have F115 := f114.same W115
  have N115 := Fr.snoc X115 N112 g_a1
  have O115 := O112.wr W115 g_a1
  have K115 := K112.wr W115 (Or.inl (List.mem_of_getElem? (i := 0) rfl))
  obtain ⟨T116, h116, k116, X116, e116, E116, A116, st116⟩ := newP X115 hx hZ (hw _ (List.mem_of_getElem? (i := 9) rfl)) e115 (g := (mkF m 34 #[.val (.ref a1)] [(.int (4 : Int32)), (.ref a1)])) rfl (hb hby d_prog_23_method_1_34) rfl (by decide) (cap := 4) (by decide) (by decide) (by decide) (by decide)
  obtain ⟨b116, g116⟩ : ∃ z, z = h115.size := ⟨_, rfl⟩
  rw [← g116] at A116 st116
  have g_b116 : n0 ≤ b116 := Nat.le_trans (own_szO O115) (Nat.le_of_eq g116.symm)
  have sz_b116 : h0.size ≤ b116 := Nat.le_trans K115.1 (Nat.le_of_eq g116.symm)
  have f117 := (f113.wr W115)
  have ne_a1_b116 : a1 ≠ b116 := Nat.ne_of_lt (Nat.lt_of_lt_of_le f117.lt (Nat.le_of_eq g116.symm))
  have f118 := ((((V102.other W105 (Ne.symm ne_a1_b102)).other W109 (Ne.symm ne_a1_b102)).other W112 (Ne.symm ne_a1_b102)).other W115 (Ne.symm ne_a1_b102))
  have ne_b102_b116 : b102 ≠ b116 := Nat.ne_of_lt (Nat.lt_of_lt_of_le f118.lt (Nat.le_of_eq g116.symm))
  have O116 := O115.ext E116
  have K116 := K115.ext E116
  have V116 : Arv Z h116 b116 k116 .byte (4 : Int32) [(.int (0 : Int32)), (.int (0 : Int32)), (.int (0 : Int32)), (.int (0 : Int32))] (.int (0 : Int32)) := (Arv.new A116 (by decide)).pad (pad_rep [] (.int (0 : Int32)) 4)
  have f119 := (f117.ext E116)
  have f120 := ((((((F_open.ext E102).other W105 (Or.inr (slot_ne (Or.inr (hw _ (List.mem_of_getElem? (i := 22) rfl))) (Or.inr (hw _ (List.mem_of_getElem? (i := 11) rfl))) (by decide) (t := (.array .byte)) (t' := (.array .byte)) (by decide) (by decide)))).other W109 (Or.inr (slot_ne (Or.inr (hw _ (List.mem_of_getElem? (i := 22) rfl))) (Or.inl (hw _ (List.mem_of_getElem? (i := 16) rfl))) (by decide) (t := (.array .byte)) (t' := (.object "com/example/dewey/dewey/EncodingCheck$Rule")) (by decide) (by decide)))).other W112 (Or.inr (slot_ne (Or.inr (hw _ (List.mem_of_getElem? (i := 22) rfl))) (Or.inl (hw _ (List.mem_of_getElem? (i := 18) rfl))) (by decide) (t := (.array .byte)) (t' := .int) (by decide) (by decide)))).other W115 (Or.inr (slot_ne (Or.inr (hw _ (List.mem_of_getElem? (i := 22) rfl))) (Or.inl (hw _ (List.mem_of_getElem? (i := 20) rfl))) (by decide) (t := (.array .byte)) (t' := .int) (by decide) (by decide)))).ext E116)
  obtain ⟨T121, h121, X121, e121, W121, st121⟩ := putF X116 hx hZ hown (host := "") (Or.inl (hw _ (List.mem_of_getElem? (i := 21) rfl))) Via.refl e116 f120 f119 (Or.inr ⟨(hw _ (List.mem_of_getElem? (i := 22) rfl)), rfl, hnm⟩) (hw _ (List.mem_of_getElem? (i := 1) rfl)) (ty := (.array .byte)) (by decide) rfl rfl (g := (mkF m 36 #[.val (.ref a1)] [(.ref b116), (.ref a1)])) rfl rfl (hb hby d_prog_23_method_1_36)
  have F121 := f120.same W121
  have N121 := Fr.snoc X121 N115 g_a1
  have O121 := O116.wr W121 g_a1
  have K121 := K116.wr W121 (Or.inl (List.mem_of_getElem? (i := 0) rfl))
  have f122 := ((f118.ext E116).other W121 (Ne.symm ne_a1_b102))
  have f123 := (V116.other W121 (Ne.symm ne_a1_b116))
  have f124 := (f119.wr W121)
  have f125 := (((((F105.other W109 (Or.inr (slot_ne (Or.inr (hw _ (List.mem_of_getElem? (i := 11) rfl))) (Or.inl (hw _ (List.mem_of_getElem? (i := 16) rfl))) (by decide) (t := (.array .byte)) (t' := (.object "com/example/dewey/dewey/EncodingCheck$Rule")) (by decide) (by decide)))).other W112 (Or.inr (slot_ne (Or.inr (hw _ (List.mem_of_getElem? (i := 11) rfl))) (Or.inl (hw _ (List.mem_of_getElem? (i := 18) rfl))) (by decide) (t := (.array .byte)) (t' := .int) (by decide) (by decide)))).other W115 (Or.inr (slot_ne (Or.inr (hw _ (List.mem_of_getElem? (i := 11) rfl))) (Or.inl (hw _ (List.mem_of_getElem? (i := 20) rfl))) (by decide) (t := (.array .byte)) (t' := .int) (by decide) (by decide)))).ext E116).other W121 (Or.inr (slot_ne (Or.inr (hw _ (List.mem_of_getElem? (i := 11) rfl))) (Or.inr (hw _ (List.mem_of_getElem? (i := 22) rfl))) (by decide) (t := (.array .byte)) (t' := (.array .byte)) (by decide) (by decide))))
  have f126 := ((((F109.other W112 (Or.inr (slot_ne (Or.inl (hw _ (List.mem_of_getElem? (i := 16) rfl))) (Or.inl (hw _ (List.mem_of_getElem? (i := 18) rfl))) (by decide) (t := (.object "com/example/dewey/dewey/EncodingCheck$Rule")) (t' := .int) (by decide) (by decide)))).other W115 (Or.inr (slot_ne (Or.inl (hw _ (List.mem_of_getElem? (i := 16) rfl))) (Or.inl (hw _ (List.mem_of_getElem? (i := 20) rfl))) (by decide) (t := (.object "com/example/dewey/dewey/EncodingCheck$Rule")) (t' := .int) (by decide) (by decide)))).ext E116).other W121 (Or.inr (slot_ne (Or.inl (hw _ (List.mem_of_getElem? (i := 16) rfl))) (Or.inr (hw _ (List.mem_of_getElem? (i := 22) rfl))) (by decide) (t := (.object "com/example/dewey/dewey/EncodingCheck$Rule")) (t' := (.array .byte)) (by decide) (by decide))))
  have f127 := (((F112.other W115 (Or.inr (slot_ne (Or.inl (hw _ (List.mem_of_getElem? (i := 18) rfl))) (Or.inl (hw _ (List.mem_of_getElem? (i := 20) rfl))) (by decide) (t := .int) (t' := .int) (by decide) (by decide)))).ext E116).other W121 (Or.inr (slot_ne (Or.inl (hw _ (List.mem_of_getElem? (i := 18) rfl))) (Or.inr (hw _ (List.mem_of_getElem? (i := 22) rfl))) (by decide) (t := .int) (t' := (.array .byte)) (by decide) (by decide))))
  have f128 := ((F115.ext E116).other W121 (Or.inr (slot_ne (Or.inl (hw _ (List.mem_of_getElem? (i := 20) rfl))) (Or.inr (hw _ (List.mem_of_getElem? (i := 22) rfl))) (by decide) (t := .int) (t' := (.array .byte)) (by decide) (by decide))))
  have f129 := (((((((F_firstCount.ext E102).other W105 (Or.inr (slot_ne (Or.inl (hw _ (List.mem_of_getElem? (i := 29) rfl))) (Or.inr (hw _ (List.mem_of_getElem? (i := 11) rfl))) (by decide) (t := .int) (t' := (.array .byte)) (by decide) (by decide)))).other W109 (Or.inr (slot_ne (Or.inl (hw _ (List.mem_of_getElem? (i := 29) rfl))) (Or.inl (hw _ (List.mem_of_getElem? (i := 16) rfl))) (by decide) (t := .int) (t' := (.object "com/example/dewey/dewey/EncodingCheck$Rule")) (by decide) (by decide)))).other W112 (Or.inr (slot_ne (Or.inl (hw _ (List.mem_of_getElem? (i := 29) rfl))) (Or.inl (hw _ (List.mem_of_getElem? (i := 18) rfl))) (by decide) (t := .int) (t' := .int) (by decide) (by decide)))).other W115 (Or.inr (slot_ne (Or.inl (hw _ (List.mem_of_getElem? (i := 29) rfl))) (Or.inl (hw _ (List.mem_of_getElem? (i := 20) rfl))) (by decide) (t := .int) (t' := .int) (by decide) (by decide)))).ext E116).other W121 (Or.inr (slot_ne (Or.inl (hw _ (List.mem_of_getElem? (i := 29) rfl))) (Or.inr (hw _ (List.mem_of_getElem? (i := 22) rfl))) (by decide) (t := .int) (t' := (.array .byte)) (by decide) (by decide))))
  have f130 := (((((((F_taken.ext E102).other W105 (Or.inr (slot_ne (Or.inl (hw _ (List.mem_of_getElem? (i := 48) rfl))) (Or.inr (hw _ (List.mem_of_getElem? (i := 11) rfl))) (by decide) (t := .long) (t' := (.array .byte)) (by decide) (by decide)))).other W109 (Or.inr (slot_ne (Or.inl (hw _ (List.mem_of_getElem? (i := 48) rfl))) (Or.inl (hw _ (List.mem_of_getElem? (i := 16) rfl))) (by decide) (t := .long) (t' := (.object "com/example/dewey/dewey/EncodingCheck$Rule")) (by decide) (by decide)))).other W112 (Or.inr (slot_ne (Or.inl (hw _ (List.mem_of_getElem? (i := 48) rfl))) (Or.inl (hw _ (List.mem_of_getElem? (i := 18) rfl))) (by decide) (t := .long) (t' := .int) (by decide) (by decide)))).other W115 (Or.inr (slot_ne (Or.inl (hw _ (List.mem_of_getElem? (i := 48) rfl))) (Or.inl (hw _ (List.mem_of_getElem? (i := 20) rfl))) (by decide) (t := .long) (t' := .int) (by decide) (by decide)))).ext E116).other W121 (Or.inr (slot_ne (Or.inl (hw _ (List.mem_of_getElem? (i := 48) rfl))) (Or.inr (hw _ (List.mem_of_getElem? (i := 22) rfl))) (by decide) (t := .long) (t' := (.array .byte)) (by decide) (by decide))))
  have f131 := (((((((F_needed.ext E102).other W105 (Or.inr (slot_ne (Or.inl (hw _ (List.mem_of_getElem? (i := 55) rfl))) (Or.inr (hw _ (List.mem_of_getElem? (i := 11) rfl))) (by decide) (t := .int) (t' := (.array .byte)) (by decide) (by decide)))).other W109 (Or.inr (slot_ne (Or.inl (hw _ (List.mem_of_getElem? (i := 55) rfl))) (Or.inl (hw _ (List.mem_of_getElem? (i := 16) rfl))) (by decide) (t := .int) (t' := (.object "com/example/dewey/dewey/EncodingCheck$Rule")) (by decide) (by decide)))).other W112 (Or.inr (slot_ne (Or.inl (hw _ (List.mem_of_getElem? (i := 55) rfl))) (Or.inl (hw _ (List.mem_of_getElem? (i := 18) rfl))) (by decide) (t := .int) (t' := .int) (by decide) (by decide)))).other W115 (Or.inr (slot_ne (Or.inl (hw _ (List.mem_of_getElem? (i := 55) rfl))) (Or.inl (hw _ (List.mem_of_getElem? (i := 20) rfl))) (by decide) (t := .int) (t' := .int) (by decide) (by decide)))).ext E116).other W121 (Or.inr (slot_ne (Or.inl (hw _ (List.mem_of_getElem? (i := 55) rfl))) (Or.inr (hw _ (List.mem_of_getElem? (i := 22) rfl))) (by decide) (t := .int) (t' := (.array .byte)) (by decide) (by decide))))
  have f132 := (((((((F_openCount.ext E102).other W105 (Or.inr (slot_ne (Or.inl (hw _ (List.mem_of_getElem? (i := 57) rfl))) (Or.inr (hw _ (List.mem_of_getElem? (i := 11) rfl))) (by decide) (t := .int) (t' := (.array .byte)) (by decide) (by decide)))).other W109 (Or.inr (slot_ne (Or.inl (hw _ (List.mem_of_getElem? (i := 57) rfl))) (Or.inl (hw _ (List.mem_of_getElem? (i := 16) rfl))) (by decide) (t := .int) (t' := (.object "com/example/dewey/dewey/EncodingCheck$Rule")) (by decide) (by decide)))).other W112 (Or.inr (slot_ne (Or.inl (hw _ (List.mem_of_getElem? (i := 57) rfl))) (Or.inl (hw _ (List.mem_of_getElem? (i := 18) rfl))) (by decide) (t := .int) (t' := .int) (by decide) (by decide)))).other W115 (Or.inr (slot_ne (Or.inl (hw _ (List.mem_of_getElem? (i := 57) rfl))) (Or.inl (hw _ (List.mem_of_getElem? (i := 20) rfl))) (by decide) (t := .int) (t' := .int) (by decide) (by decide)))).ext E116).other W121 (Or.inr (slot_ne (Or.inl (hw _ (List.mem_of_getElem? (i := 57) rfl))) (Or.inr (hw _ (List.mem_of_getElem? (i := 22) rfl))) (by decide) (t := .int) (t' := (.array .byte)) (by decide) (by decide))))
  have f133 := (((((((F_start.ext E102).other W105 (Or.inr (slot_ne (Or.inl (hw _ (List.mem_of_getElem? (i := 70) rfl))) (Or.inr (hw _ (List.mem_of_getElem? (i := 11) rfl))) (by decide) (t := .long) (t' := (.array .byte)) (by decide) (by decide)))).other W109 (Or.inr (slot_ne (Or.inl (hw _ (List.mem_of_getElem? (i := 70) rfl))) (Or.inl (hw _ (List.mem_of_getElem? (i := 16) rfl))) (by decide) (t := .long) (t' := (.object "com/example/dewey/dewey/EncodingCheck$Rule")) (by decide) (by decide)))).other W112 (Or.inr (slot_ne (Or.inl (hw _ (List.mem_of_getElem? (i := 70) rfl))) (Or.inl (hw _ (List.mem_of_getElem? (i := 18) rfl))) (by decide) (t := .long) (t' := .int) (by decide) (by decide)))).other W115 (Or.inr (slot_ne (Or.inl (hw _ (List.mem_of_getElem? (i := 70) rfl))) (Or.inl (hw _ (List.mem_of_getElem? (i := 20) rfl))) (by decide) (t := .long) (t' := .int) (by decide) (by decide)))).ext E116).other W121 (Or.inr (slot_ne (Or.inl (hw _ (List.mem_of_getElem? (i := 70) rfl))) (Or.inr (hw _ (List.mem_of_getElem? (i := 22) rfl))) (by decide) (t := .long) (t' := (.array .byte)) (by decide) (by decide))))
  obtain ⟨fs, hr, hrun, hended, hW, hsame⟩ := X121.leave (v := none) (fun _ => rfl)
  refine ⟨_, _, pre0 _ ?_, hrun, hended, _, _, rfl, ?_, ⟨_, rfl⟩, hW, hsame.mono (by decide) (by decide)⟩
  · show Steps p.tables e below (s₁.setTop (mkF m 0 #[.val (.ref a1)] [])) _
    refine XS.aloadN X0.here hx rfl (hb hby d_prog_23_method_1_0) rfl rfl ?_
    show Steps p.tables e below (s₁.setTop (mkF m 1 #[.val (.ref a1)] [(.ref a1)])) _
    refine st101 _ ?_
    show Steps p.tables e below (T101.setTop (mkF m 4 #[.val (.ref a1)] [])) _
    refine XS.aloadN X101.here hx rfl (hb hby d_prog_23_method_1_4) rfl rfl ?_
    refine XS.iconst X101.here hx rfl (hb hby d_prog_23_method_1_5) ?_
    show Steps p.tables e below (T101.setTop (mkF m 6 #[.val (.ref a1)] [(.int (4 : Int32)), (.ref a1)])) _
    refine st102 _ ?_
    show Steps p.tables e below (T102.setTop (mkF m 8 #[.val (.ref a1)] [(.ref b102), (.ref a1)])) _
    refine st105 _ ?_
    show Steps p.tables e below (T105.setTop (mkF m 11 #[.val (.ref a1)] [])) _
    refine XS.aloadN X105.here hx rfl (hb hby d_prog_23_method_1_11) rfl rfl ?_
    show Steps p.tables e below (T105.setTop (mkF m 12 #[.val (.ref a1)] [(.ref a1)])) _
    refine st106 _ ?_
    show Steps p.tables e below (T106.setTop (mkF m 15 #[.val (.ref a1)] [(.ref rU), (.ref a1)])) _
    refine st109 _ ?_
    show Steps p.tables e below (T109.setTop (mkF m 18 #[.val (.ref a1)] [])) _
    refine XS.aloadN X109.here hx rfl (hb hby d_prog_23_method_1_18) rfl rfl ?_
    refine XS.sipush X109.here hx rfl (hb hby d_prog_23_method_1_19) ?_
    show Steps p.tables e below (T109.setTop (mkF m 22 #[.val (.ref a1)] [(.int (128 : Int32)), (.ref a1)])) _
    refine st112 _ ?_
    show Steps p.tables e below (T112.setTop (mkF m 25 #[.val (.ref a1)] [])) _
    refine XS.aloadN X112.here hx rfl (hb hby d_prog_23_method_1_25) rfl rfl ?_
    refine XS.sipush X112.here hx rfl (hb hby d_prog_23_method_1_26) ?_
    show Steps p.tables e below (T112.setTop (mkF m 29 #[.val (.ref a1)] [(.int (191 : Int32)), (.ref a1)])) _
    refine st115 _ ?_
    show Steps p.tables e below (T115.setTop (mkF m 32 #[.val (.ref a1)] [])) _
    refine XS.aloadN X115.here hx rfl (hb hby d_prog_23_method_1_32) rfl rfl ?_
    refine XS.iconst X115.here hx rfl (hb hby d_prog_23_method_1_33) ?_
    show Steps p.tables e below (T115.setTop (mkF m 34 #[.val (.ref a1)] [(.int (4 : Int32)), (.ref a1)])) _
    refine st116 _ ?_
    show Steps p.tables e below (T116.setTop (mkF m 36 #[.val (.ref a1)] [(.ref b116), (.ref a1)])) _
    refine st121 _ ?_
    show Steps p.tables e below (T121.setTop (mkF m 39 #[.val (.ref a1)] [])) _
    exact X121.returnOut hx Bd.returns (hb hby d_prog_23_method_1_39) hr
  · show Q_ini Z a1 rU r16 r8 rA h0 n0 _ T121.heap _
    rw [e121]
    exact ⟨b102, b116, k102, k116, rfl, N121, K121, f124, f125, f126, f127, f128, F121, f129, f130, f131, f132, f133, f122, f123, sz_b102, sz_b116, ne_b102_b116⟩
theorem ef_law (m : MethodId) (q1 : Int64) (p2 : Int32) (p3s : Int32) (p4 : Int32) (p5 : Int32) : entryFrame m #[(.long q1), (.int p2), (.int p3s), (.int p4), (.int p5)] maxLocals = mkF m 0 #[.val (.long q1), .second, .val (.int p2), .val (.int p3s), .val (.int p4), .val (.int p5), .unset, .unset, .unset, .unset, .unset, .unset, .unset, .unset, .unset, .unset, .unset] [] := by first | (simp [entryFrame, mkF, argsToLocals, Value.category, maxLocals]; done) | rfl
def Q_law (Z : State) (q1 : Int64) (p2 : Int32) (p3s : Int32) (p4 : Int32) (p5 : Int32) (rU : Addr) (r16 : Addr) (r8 : Addr) (rA : Addr) (h0 : Heap) (n0 : Nat) (v : Option Value) (h : Heap) (L : List Loc) : Prop := v = some (.int 1) ∧ Fr n0 L
set_option maxRecDepth 65536 in
set_option maxHeartbeats 40000000 in
theorem rm_law (l : Launch) (Z : State) (a0 : Array Value) (hw : ∀ d ∈ tables_1, d.before a0 Z = true) (ws : List Jvm.Cond) (q1 : Int64) (p2 : Int32) (p3s : Int32) (p4 : Int32) (p5 : Int32) (rU : Addr) (r16 : Addr) (r8 : Addr) (rA : Addr) (h0 : Heap) (n0 : Nat) (O0 : Old Z n0 h0) (SrU : Sta Z Z.heap "com/example/dewey/dewey/EncodingCheck$Rule" "UNKNOWN" "Lcom/example/dewey/dewey/EncodingCheck$Rule;" (.ref rU)) (Sr16 : Sta Z Z.heap "com/example/dewey/dewey/EncodingCheck$Rule" "UTF_16" "Lcom/example/dewey/dewey/EncodingCheck$Rule;" (.ref r16)) (Sr8 : Sta Z Z.heap "com/example/dewey/dewey/EncodingCheck$Rule" "UTF_8" "Lcom/example/dewey/dewey/EncodingCheck$Rule;" (.ref r8)) (SrA : Sta Z Z.heap "com/example/dewey/dewey/EncodingCheck$Rule" "US_ASCII" "Lcom/example/dewey/dewey/EncodingCheck$Rule;" (.ref rA)) (n_rU_r16 : rU ≠ r16) (n_rU_r8 : rU ≠ r8) (n_rU_rA : rU ≠ rA) (n_r16_r8 : r16 ≠ r8) (n_r16_rA : r16 ≠ rA) (n_r8_rA : r8 ≠ rA) :
    MetFree l x (head1 (Jvm.Cond.code x code maxLocals ret :: ws) room_1) (fun a U => a = #[(.long q1), (.int p2), (.int p3s), (.int p4), (.int p5)] ∧ Z.Warmed39 U.vm ∧ U.heap = h0) (fun _ _ _ _ _ => True) (fun _ U o U' => ∃ v L, o = .returned v ∧ Q_law Z q1 p2 p3s p4 p5 rU r16 r8 rA h0 n0 v U'.heap L ∧ FrameEnd U o U' L room_1.cells room_1.slots) := by
  refine MetFree.of_bodySF (plainFor_of_name pn_1) hisR ?_
  intro p e s m args below meth c s₁ Bd hml0 hP hK
  obtain ⟨rfl, hZ, hh⟩ := hP
  have hx := Bd.exec
  have hby := Bd.bytes
  have hml : c.maxLocals = 17 := hml0
  have hown : s.vm.findClass "com/example/dewey/dewey/EncodingCheckSkipPinLaw" = some m.cls := findClass_of_methodNamed Bd.named
  have hnm := (name_of_methodNamed Bd.named Bd.method).1
  have X0 : Stand p l e room_1 s m #[(.long q1), (.int p2), (.int p3s), (.int p4), (.int p5)] below meth c s₁ [] 0 0 := Stand.of_body Bd
  have e0 : s₁.heap = h0 := by rw [← hh, Bd.state]; rfl
  have N0 := Fr.nil n0
  have pre0 : ∀ t, Steps p.tables e below (s₁.setTop (mkF m 0 #[.val (.long q1), .second, .val (.int p2), .val (.int p3s), .val (.int p4), .val (.int p5), .unset, .unset, .unset, .unset, .unset, .unset, .unset, .unset, .unset, .unset, .unset] [])) t → Steps p.tables e below (s₁.setTop (entryFrame m #[(.long q1), (.int p2), (.int p3s), (.int p4), (.int p5)] maxLocals)) t := fun t k => castTop (ef_law m q1 p2 p3s p4 p5) k
  obtain ⟨T101, h101, X101, e101, E101, A101, D101, -, st101⟩ := newO X0 hx hZ hown (hw _ (List.mem_of_getElem? (i := 0) rfl)) (hw _ (List.mem_of_getElem? (i := 1) rfl)) (hw _ (List.mem_of_getElem? (i := 2) rfl)) e0 (g := (mkF m 0 #[.val (.long q1), .second, .val (.int p2), .val (.int p3s), .val (.int p4), .val (.int p5), .unset, .unset, .unset, .unset, .unset, .unset, .unset, .unset, .unset, .unset, .unset] [])) rfl (hb hby at_0) (by decide) (by decide)
  obtain ⟨b101, g101⟩ : ∃ z, z = h0.size := ⟨_, rfl⟩
  rw [← g101] at A101 D101 st101
  have g_b101 : n0 ≤ b101 := Nat.le_trans (own_szO O0) (Nat.le_of_eq g101.symm)
  have O101 := O0.ext E101
  have F101_first : Fld Z h101 b101 "com/example/dewey/dewey/EncodingCheck" "first" "[B" .null := D101 (Or.inr (hw _ (List.mem_of_getElem? (i := 11) rfl))) (ty := (.array .byte)) (by decide)
  have F101_rule : Fld Z h101 b101 "com/example/dewey/dewey/EncodingCheck" "rule" "Lcom/example/dewey/dewey/EncodingCheck$Rule;" .null := D101 (Or.inl (hw _ (List.mem_of_getElem? (i := 16) rfl))) (ty := (.object "com/example/dewey/dewey/EncodingCheck$Rule")) (by decide)
  have F101_low : Fld Z h101 b101 "com/example/dewey/dewey/EncodingCheck" "low" "I" (.int (0 : Int32)) := D101 (Or.inl (hw _ (List.mem_of_getElem? (i := 18) rfl))) (ty := .int) (by decide)
  have F101_high : Fld Z h101 b101 "com/example/dewey/dewey/EncodingCheck" "high" "I" (.int (0 : Int32)) := D101 (Or.inl (hw _ (List.mem_of_getElem? (i := 20) rfl))) (ty := .int) (by decide)
  have F101_open : Fld Z h101 b101 "com/example/dewey/dewey/EncodingCheck" "open" "[B" .null := D101 (Or.inr (hw _ (List.mem_of_getElem? (i := 22) rfl))) (ty := (.array .byte)) (by decide)
  have F101_firstCount : Fld Z h101 b101 "com/example/dewey/dewey/EncodingCheck" "firstCount" "I" (.int (0 : Int32)) := D101 (Or.inl (hw _ (List.mem_of_getElem? (i := 29) rfl))) (ty := .int) (by decide)
  have F101_taken : Fld Z h101 b101 "com/example/dewey/dewey/EncodingCheck" "taken" "J" (.long (0 : Int64)) := D101 (Or.inl (hw _ (List.mem_of_getElem? (i := 48) rfl))) (ty := .long) (by decide)
  have F101_needed : Fld Z h101 b101 "com/example/dewey/dewey/EncodingCheck" "needed" "I" (.int (0 : Int32)) := D101 (Or.inl (hw _ (List.mem_of_getElem? (i := 55) rfl))) (ty := .int) (by decide)
  have F101_openCount : Fld Z h101 b101 "com/example/dewey/dewey/EncodingCheck" "openCount" "I" (.int (0 : Int32)) := D101 (Or.inl (hw _ (List.mem_of_getElem? (i := 57) rfl))) (ty := .int) (by decide)
  have F101_start : Fld Z h101 b101 "com/example/dewey/dewey/EncodingCheck" "start" "J" (.long (0 : Int64)) := D101 (Or.inl (hw _ (List.mem_of_getElem? (i := 70) rfl))) (ty := .long) (by decide)
  obtain ⟨_, _, ⟨T102, L102, k102, n102⟩, -, X102, ⟨Lc102, hQ102, l102, y102, z102⟩, st102⟩ := X101.specialBack hx (y := (⟨"com/example/dewey/dewey/EncodingCheck", "<init>", "()V"⟩ : MethodName)) rfl hown (mvT hZ (hw _ (List.mem_of_getElem? (i := 3) rfl))) (mvT hZ (hw _ (List.mem_of_getElem? (i := 4) rfl))) (mvT hZ (hw _ (List.mem_of_getElem? (i := 5) rfl))) (by decide) (backOf (W := 1) (rm_ini l Z a0 hw [] b101 rU r16 r8 rA h101 n0 O101 SrU Sr16 Sr8 SrA n_rU_r16 n_rU_r8 n_rU_rA n_r16_r8 n_r16_rA n_r8_rA A101 F101_first F101_rule F101_low F101_high F101_open F101_firstCount F101_taken F101_needed F101_openCount F101_start g_b101) hZ (hw _ (List.mem_of_getElem? (i := 5) rfl)) (hw _ (List.mem_of_getElem? (i := 2) rfl)) (by decide) (by decide)) (g := (mkF m 4 #[.val (.long q1), .second, .val (.int p2), .val (.int p3s), .val (.int p4), .val (.int p5), .unset, .unset, .unset, .unset, .unset, .unset, .unset, .unset, .unset, .unset, .unset] [(.ref b101), (.ref b101)])) rfl (by rw [hml]; rfl) (Steps.refl _) (a := b101) (argsL := []) (rest := [(.ref b101)]) (lenOf pd_2 rfl) rfl (by show 2 * 0 + _ ≤ _; exact Nat.le_of_eq rfl) (hb hby at_4) (fun _ _ => ⟨rfl, e101, (by decide : 1 + 2 ≤ _), (by decide : 10 + 8 ≤ _)⟩)
  dsimp only [Pt.U, Pt.locs, Pt.cells, Pt.slots] at X102 l102 y102 z102 st102 hQ102
  subst l102 y102 z102
  obtain ⟨b1_102, b2_102, k1_102, k2_102, rfl, Nq102, Kq102, Ek102, Fk_first_102, Fk_rule_102, Fk_low_102, Fk_high_102, Fk_open_102, Fk_firstCount_102, Fk_taken_102, Fk_needed_102, Fk_openCount_102, Fk_start_102, Va102, Vb102, la102, lb102, nb102⟩ := hQ102
  have N102 := Fr.app N0 Nq102
  have g_b1_102 : n0 ≤ b1_102 := Nat.le_trans (own_szO O101) la102
  have ne_b101_b1_102 : b101 ≠ b1_102 := Nat.ne_of_lt (Nat.lt_of_lt_of_le A101.lt la102)
  have g_b2_102 : n0 ≤ b2_102 := Nat.le_trans (own_szO O101) lb102
  have ne_b101_b2_102 : b101 ≠ b2_102 := Nat.ne_of_lt (Nat.lt_of_lt_of_le A101.lt lb102)
  have O102 := O101.keep Kq102 (allS g_b101 all0)
  have pre103 : ∀ t, Steps p.tables e below (T102.setTop (mkF m 12 #[.val (.long q1), .second, .val (.int p2), .val (.int p3s), .val (.int p4), .val (.int p5), .val (.ref b101), .unset, .unset, .unset, .unset, .unset, .unset, .unset, .unset, .unset, .unset] [(.int (p2 &&& (1 : Int32)))])) t → Steps p.tables e below (s₁.setTop (entryFrame m #[(.long q1), (.int p2), (.int p3s), (.int p4), (.int p5)] maxLocals)) t := fun t kk => pre0 t (by
      show Steps p.tables e below (s₁.setTop (mkF m 0 #[.val (.long q1), .second, .val (.int p2), .val (.int p3s), .val (.int p4), .val (.int p5), .unset, .unset, .unset, .unset, .unset, .unset, .unset, .unset, .unset, .unset, .unset] [])) _
      refine st101 _ ?_
      show Steps p.tables e below (T101.setTop (mkF m 3 #[.val (.long q1), .second, .val (.int p2), .val (.int p3s), .val (.int p4), .val (.int p5), .unset, .unset, .unset, .unset, .unset, .unset, .unset, .unset, .unset, .unset, .unset] [(.ref b101)])) _
      refine XS.dup X101.here hx rfl (hb hby at_3) rfl rfl ?_
      show Steps p.tables e below (T101.setTop (mkF m 4 #[.val (.long q1), .second, .val (.int p2), .val (.int p3s), .val (.int p4), .val (.int p5), .unset, .unset, .unset, .unset, .unset, .unset, .unset, .unset, .unset, .unset, .unset] [(.ref b101), (.ref b101)])) _
      refine st102.trans ?_
      show Steps p.tables e below (T102.setTop (mkF m 7 #[.val (.long q1), .second, .val (.int p2), .val (.int p3s), .val (.int p4), .val (.int p5), .unset, .unset, .unset, .unset, .unset, .unset, .unset, .unset, .unset, .unset, .unset] [(.ref b101)])) _
      refine XS.astore X102.here hx rfl (hb hby at_7) rfl rfl (l' := #[.val (.long q1), .second, .val (.int p2), .val (.int p3s), .val (.int p4), .val (.int p5), .val (.ref b101), .unset, .unset, .unset, .unset, .unset, .unset, .unset, .unset, .unset, .unset]) rfl ?_
      refine XS.iloadN X102.here hx rfl (hb hby at_9) rfl ?_
      refine XS.iconst X102.here hx rfl (hb hby at_10) ?_
      refine XS.iand X102.here hx rfl (hb hby at_11) rfl ?_
      show Steps p.tables e below (T102.setTop (mkF m 12 #[.val (.long q1), .second, .val (.int p2), .val (.int p3s), .val (.int p4), .val (.int p5), .val (.ref b101), .unset, .unset, .unset, .unset, .unset, .unset, .unset, .unset, .unset, .unset] [(.int (p2 &&& (1 : Int32)))])) _
      exact kk)
  obtain ⟨be, h_be⟩ : ∃ z : Int32, z = (if (p2 &&& (1 : Int32)) = (0 : Int32) then (0 : Int32) else (1 : Int32)) := ⟨_, rfl⟩
  have pre105 : ∀ t, Steps p.tables e below (T102.setTop (mkF m 20 #[.val (.long q1), .second, .val (.int p2), .val (.int p3s), .val (.int p4), .val (.int p5), .val (.ref b101), .unset, .unset, .unset, .unset, .unset, .unset, .unset, .unset, .unset, .unset] [(.int be)])) t → Steps p.tables e below (s₁.setTop (entryFrame m #[(.long q1), (.int p2), (.int p3s), (.int p4), (.int p5)] maxLocals)) t := fun t kk => pre103 t (by
      by_cases hc104 : (p2 &&& (1 : Int32)) = (0 : Int32)
      · refine XS.ifYes X102.here hx rfl (pc0 := 12) (pc' := 19) rfl (hb hby at_12) rfl ((if0 _ _).trans (teq hc104).1) (by decide) (by decide) ?_
        show Steps p.tables e below (T102.setTop (mkF m 19 #[.val (.long q1), .second, .val (.int p2), .val (.int p3s), .val (.int p4), .val (.int p5), .val (.ref b101), .unset, .unset, .unset, .unset, .unset, .unset, .unset, .unset, .unset, .unset] [])) _
        refine XS.iconst X102.here hx rfl (hb hby at_19) ?_
        show Steps p.tables e below (T102.setTop (mkF m 20 #[.val (.long q1), .second, .val (.int p2), .val (.int p3s), .val (.int p4), .val (.int p5), .val (.ref b101), .unset, .unset, .unset, .unset, .unset, .unset, .unset, .unset, .unset, .unset] [(.int (0 : Int32))])) _
        rw [show be = (0 : Int32) from by rw [h_be, if_pos hc104]] at kk
        exact kk
      · refine XS.ifNo X102.here hx rfl (hb hby at_12) rfl ((if0 _ _).trans (feq hc104).1) ?_
        show Steps p.tables e below (T102.setTop (mkF m 15 #[.val (.long q1), .second, .val (.int p2), .val (.int p3s), .val (.int p4), .val (.int p5), .val (.ref b101), .unset, .unset, .unset, .unset, .unset, .unset, .unset, .unset, .unset, .unset] [])) _
        refine XS.iconst X102.here hx rfl (hb hby at_15) ?_
        show Steps p.tables e below (T102.setTop (mkF m 16 #[.val (.long q1), .second, .val (.int p2), .val (.int p3s), .val (.int p4), .val (.int p5), .val (.ref b101), .unset, .unset, .unset, .unset, .unset, .unset, .unset, .unset, .unset, .unset] [(.int (1 : Int32))])) _
        refine XS.goto X102.here hx rfl (pc0 := 16) (pc' := 20) rfl (hb hby at_16) (by decide) (by decide) ?_
        show Steps p.tables e below (T102.setTop (mkF m 20 #[.val (.long q1), .second, .val (.int p2), .val (.int p3s), .val (.int p4), .val (.int p5), .val (.ref b101), .unset, .unset, .unset, .unset, .unset, .unset, .unset, .unset, .unset, .unset] [(.int (1 : Int32))])) _
        rw [show be = (1 : Int32) from by rw [h_be, if_neg hc104]] at kk
        exact kk)
  obtain ⟨T106, h106, k106, X106, e106, E106, A106, st106⟩ := newP X102 hx hZ (hw _ (List.mem_of_getElem? (i := 9) rfl)) rfl (g := (mkF m 23 #[.val (.long q1), .second, .val (.int p2), .val (.int p3s), .val (.int p4), .val (.int p5), .val (.ref b101), .val (.int be), .unset, .unset, .unset, .unset, .unset, .unset, .unset, .unset, .unset] [(.int (4 : Int32))])) rfl (hb hby at_23) rfl (by decide) (cap := 4) (by decide) (by decide) (by decide) (by decide)
  obtain ⟨b106, g106⟩ : ∃ z, z = T102.heap.size := ⟨_, rfl⟩
  rw [← g106] at A106 st106
  have g_b106 : n0 ≤ b106 := Nat.le_trans (own_szO O102) (Nat.le_of_eq g106.symm)
  have ne_b101_b106 : b101 ≠ b106 := Nat.ne_of_lt (Nat.lt_of_lt_of_le Ek102.lt (Nat.le_of_eq g106.symm))
  have ne_b1_102_b106 : b1_102 ≠ b106 := Nat.ne_of_lt (Nat.lt_of_lt_of_le Va102.lt (Nat.le_of_eq g106.symm))
  have ne_b2_102_b106 : b2_102 ≠ b106 := Nat.ne_of_lt (Nat.lt_of_lt_of_le Vb102.lt (Nat.le_of_eq g106.symm))
  have O106 := O102.ext E106
  have V106 : Arv Z h106 b106 k106 .byte (4 : Int32) [(.int (0 : Int32)), (.int (0 : Int32)), (.int (0 : Int32)), (.int (0 : Int32))] (.int (0 : Int32)) := (Arv.new A106 (by decide)).pad (pad_rep [] (.int (0 : Int32)) 4)
  have pre107 : ∀ t, Steps p.tables e below (T106.setTop (mkF m 29 #[.val (.long q1), .second, .val (.int p2), .val (.int p3s), .val (.int p4), .val (.int p5), .val (.ref b101), .val (.int be), .unset, .unset, .unset, .unset, .unset, .unset, .unset, .unset, .unset] [(.int be), (.int (0 : Int32)), (.ref b106), (.ref b106)])) t → Steps p.tables e below (s₁.setTop (entryFrame m #[(.long q1), (.int p2), (.int p3s), (.int p4), (.int p5)] maxLocals)) t := fun t kk => pre105 t (by
      show Steps p.tables e below (T102.setTop (mkF m 20 #[.val (.long q1), .second, .val (.int p2), .val (.int p3s), .val (.int p4), .val (.int p5), .val (.ref b101), .unset, .unset, .unset, .unset, .unset, .unset, .unset, .unset, .unset, .unset] [(.int be)])) _
      refine XS.istore X102.here hx rfl (hb hby at_20) rfl (l' := #[.val (.long q1), .second, .val (.int p2), .val (.int p3s), .val (.int p4), .val (.int p5), .val (.ref b101), .val (.int be), .unset, .unset, .unset, .unset, .unset, .unset, .unset, .unset, .unset]) rfl ?_
      refine XS.iconst X102.here hx rfl (hb hby at_22) ?_
      show Steps p.tables e below (T102.setTop (mkF m 23 #[.val (.long q1), .second, .val (.int p2), .val (.int p3s), .val (.int p4), .val (.int p5), .val (.ref b101), .val (.int be), .unset, .unset, .unset, .unset, .unset, .unset, .unset, .unset, .unset] [(.int (4 : Int32))])) _
      refine st106 _ ?_
      show Steps p.tables e below (T106.setTop (mkF m 25 #[.val (.long q1), .second, .val (.int p2), .val (.int p3s), .val (.int p4), .val (.int p5), .val (.ref b101), .val (.int be), .unset, .unset, .unset, .unset, .unset, .unset, .unset, .unset, .unset] [(.ref b106)])) _
      refine XS.dup X106.here hx rfl (hb hby at_25) rfl rfl ?_
      refine XS.iconst X106.here hx rfl (hb hby at_26) ?_
      refine XS.iload X106.here hx rfl (hb hby at_27) rfl ?_
      show Steps p.tables e below (T106.setTop (mkF m 29 #[.val (.long q1), .second, .val (.int p2), .val (.int p3s), .val (.int p4), .val (.int p5), .val (.ref b101), .val (.int be), .unset, .unset, .unset, .unset, .unset, .unset, .unset, .unset, .unset] [(.int be), (.int (0 : Int32)), (.ref b106), (.ref b106)])) _
      exact kk)
  obtain ⟨hb0, h_hb0⟩ : ∃ z : Int32, z = (if be = (0 : Int32) then (255 : Int32) else (254 : Int32)) := ⟨_, rfl⟩
  have pre109 : ∀ t, Steps p.tables e below (T106.setTop (mkF m 41 #[.val (.long q1), .second, .val (.int p2), .val (.int p3s), .val (.int p4), .val (.int p5), .val (.ref b101), .val (.int be), .unset, .unset, .unset, .unset, .unset, .unset, .unset, .unset, .unset] [(.int hb0), (.int (0 : Int32)), (.ref b106), (.ref b106)])) t → Steps p.tables e below (s₁.setTop (entryFrame m #[(.long q1), (.int p2), (.int p3s), (.int p4), (.int p5)] maxLocals)) t := fun t kk => pre107 t (by
      by_cases hc108 : be = (0 : Int32)
      · refine XS.ifYes X106.here hx rfl (pc0 := 29) (pc' := 38) rfl (hb hby at_29) rfl ((if0 _ _).trans (teq hc108).1) (by decide) (by decide) ?_
        show Steps p.tables e below (T106.setTop (mkF m 38 #[.val (.long q1), .second, .val (.int p2), .val (.int p3s), .val (.int p4), .val (.int p5), .val (.ref b101), .val (.int be), .unset, .unset, .unset, .unset, .unset, .unset, .unset, .unset, .unset] [(.int (0 : Int32)), (.ref b106), (.ref b106)])) _
        refine XS.sipush X106.here hx rfl (hb hby at_38) ?_
        show Steps p.tables e below (T106.setTop (mkF m 41 #[.val (.long q1), .second, .val (.int p2), .val (.int p3s), .val (.int p4), .val (.int p5), .val (.ref b101), .val (.int be), .unset, .unset, .unset, .unset, .unset, .unset, .unset, .unset, .unset] [(.int (255 : Int32)), (.int (0 : Int32)), (.ref b106), (.ref b106)])) _
        rw [show hb0 = (255 : Int32) from by rw [h_hb0, if_pos hc108]] at kk
        exact kk
      · refine XS.ifNo X106.here hx rfl (hb hby at_29) rfl ((if0 _ _).trans (feq hc108).1) ?_
        show Steps p.tables e below (T106.setTop (mkF m 32 #[.val (.long q1), .second, .val (.int p2), .val (.int p3s), .val (.int p4), .val (.int p5), .val (.ref b101), .val (.int be), .unset, .unset, .unset, .unset, .unset, .unset, .unset, .unset, .unset] [(.int (0 : Int32)), (.ref b106), (.ref b106)])) _
        refine XS.sipush X106.here hx rfl (hb hby at_32) ?_
        show Steps p.tables e below (T106.setTop (mkF m 35 #[.val (.long q1), .second, .val (.int p2), .val (.int p3s), .val (.int p4), .val (.int p5), .val (.ref b101), .val (.int be), .unset, .unset, .unset, .unset, .unset, .unset, .unset, .unset, .unset] [(.int (254 : Int32)), (.int (0 : Int32)), (.ref b106), (.ref b106)])) _
        refine XS.goto X106.here hx rfl (pc0 := 35) (pc' := 41) rfl (hb hby at_35) (by decide) (by decide) ?_
        show Steps p.tables e below (T106.setTop (mkF m 41 #[.val (.long q1), .second, .val (.int p2), .val (.int p3s), .val (.int p4), .val (.int p5), .val (.ref b101), .val (.int be), .unset, .unset, .unset, .unset, .unset, .unset, .unset, .unset, .unset] [(.int (254 : Int32)), (.int (0 : Int32)), (.ref b106), (.ref b106)])) _
        rw [show hb0 = (254 : Int32) from by rw [h_hb0, if_neg hc108]] at kk
        exact kk)
  obtain ⟨cl110, Ar110, q110, S110, Ne110, H110, G110⟩ := id V106
  have hin110 : ¬ ((0 : Int32) < 0 ∨ cl110.slots.size ≤ ((0 : Int32)).toNatClampNeg) := inb_of S110 ⟨by decide, by decide⟩
  obtain ⟨T111, h111, X111, e111, W111, st111⟩ := stB X106 hx hZ e106 Ar110 (j := (0 : Int32)) hin110 (g := (mkF m 42 #[.val (.long q1), .second, .val (.int p2), .val (.int p3s), .val (.int p4), .val (.int p5), .val (.ref b101), .val (.int be), .unset, .unset, .unset, .unset, .unset, .unset, .unset, .unset, .unset] [(.int (hb0.toInt8.toInt32)), (.int (0 : Int32)), (.ref b106), (.ref b106)])) rfl rfl (hb hby at_42)
  have V111 : Arv Z h111 b106 k106 .byte (4 : Int32) [(.int (nar .byte (hb0.toInt8.toInt32))), (.int (0 : Int32)), (.int (0 : Int32)), (.int (0 : Int32))] (.int (0 : Int32)) := Arv.set Ar110 q110 S110 Ne110 H110 G110 (fits_nar_byte _) W111 0 rfl (Nat.le_of_ble_eq_true rfl)
  have N111 := Fr.snoc X111 N102 g_b106
  have O111 := O106.wr W111 g_b106
  have pre112 : ∀ t, Steps p.tables e below (T111.setTop (mkF m 47 #[.val (.long q1), .second, .val (.int p2), .val (.int p3s), .val (.int p4), .val (.int p5), .val (.ref b101), .val (.int be), .unset, .unset, .unset, .unset, .unset, .unset, .unset, .unset, .unset] [(.int be), (.int (1 : Int32)), (.ref b106), (.ref b106)])) t → Steps p.tables e below (s₁.setTop (entryFrame m #[(.long q1), (.int p2), (.int p3s), (.int p4), (.int p5)] maxLocals)) t := fun t kk => pre109 t (by
      show Steps p.tables e below (T106.setTop (mkF m 41 #[.val (.long q1), .second, .val (.int p2), .val (.int p3s), .val (.int p4), .val (.int p5), .val (.ref b101), .val (.int be), .unset, .unset, .unset, .unset, .unset, .unset, .unset, .unset, .unset] [(.int hb0), (.int (0 : Int32)), (.ref b106), (.ref b106)])) _
      refine XS.i2b X106.here hx rfl (hb hby at_41) rfl ?_
      show Steps p.tables e below (T106.setTop (mkF m 42 #[.val (.long q1), .second, .val (.int p2), .val (.int p3s), .val (.int p4), .val (.int p5), .val (.ref b101), .val (.int be), .unset, .unset, .unset, .unset, .unset, .unset, .unset, .unset, .unset] [(.int (hb0.toInt8.toInt32)), (.int (0 : Int32)), (.ref b106), (.ref b106)])) _
      refine st111 _ ?_
      show Steps p.tables e below (T111.setTop (mkF m 43 #[.val (.long q1), .second, .val (.int p2), .val (.int p3s), .val (.int p4), .val (.int p5), .val (.ref b101), .val (.int be), .unset, .unset, .unset, .unset, .unset, .unset, .unset, .unset, .unset] [(.ref b106)])) _
      refine XS.dup X111.here hx rfl (hb hby at_43) rfl rfl ?_
      refine XS.iconst X111.here hx rfl (hb hby at_44) ?_
      refine XS.iload X111.here hx rfl (hb hby at_45) rfl ?_
      show Steps p.tables e below (T111.setTop (mkF m 47 #[.val (.long q1), .second, .val (.int p2), .val (.int p3s), .val (.int p4), .val (.int p5), .val (.ref b101), .val (.int be), .unset, .unset, .unset, .unset, .unset, .unset, .unset, .unset, .unset] [(.int be), (.int (1 : Int32)), (.ref b106), (.ref b106)])) _
      exact kk)
  obtain ⟨hb1, h_hb1⟩ : ∃ z : Int32, z = (if be = (0 : Int32) then (254 : Int32) else (255 : Int32)) := ⟨_, rfl⟩
  have pre114 : ∀ t, Steps p.tables e below (T111.setTop (mkF m 59 #[.val (.long q1), .second, .val (.int p2), .val (.int p3s), .val (.int p4), .val (.int p5), .val (.ref b101), .val (.int be), .unset, .unset, .unset, .unset, .unset, .unset, .unset, .unset, .unset] [(.int hb1), (.int (1 : Int32)), (.ref b106), (.ref b106)])) t → Steps p.tables e below (s₁.setTop (entryFrame m #[(.long q1), (.int p2), (.int p3s), (.int p4), (.int p5)] maxLocals)) t := fun t kk => pre112 t (by
      by_cases hc113 : be = (0 : Int32)
      · refine XS.ifYes X111.here hx rfl (pc0 := 47) (pc' := 56) rfl (hb hby at_47) rfl ((if0 _ _).trans (teq hc113).1) (by decide) (by decide) ?_
        show Steps p.tables e below (T111.setTop (mkF m 56 #[.val (.long q1), .second, .val (.int p2), .val (.int p3s), .val (.int p4), .val (.int p5), .val (.ref b101), .val (.int be), .unset, .unset, .unset, .unset, .unset, .unset, .unset, .unset, .unset] [(.int (1 : Int32)), (.ref b106), (.ref b106)])) _
        refine XS.sipush X111.here hx rfl (hb hby at_56) ?_
        show Steps p.tables e below (T111.setTop (mkF m 59 #[.val (.long q1), .second, .val (.int p2), .val (.int p3s), .val (.int p4), .val (.int p5), .val (.ref b101), .val (.int be), .unset, .unset, .unset, .unset, .unset, .unset, .unset, .unset, .unset] [(.int (254 : Int32)), (.int (1 : Int32)), (.ref b106), (.ref b106)])) _
        rw [show hb1 = (254 : Int32) from by rw [h_hb1, if_pos hc113]] at kk
        exact kk
      · refine XS.ifNo X111.here hx rfl (hb hby at_47) rfl ((if0 _ _).trans (feq hc113).1) ?_
        show Steps p.tables e below (T111.setTop (mkF m 50 #[.val (.long q1), .second, .val (.int p2), .val (.int p3s), .val (.int p4), .val (.int p5), .val (.ref b101), .val (.int be), .unset, .unset, .unset, .unset, .unset, .unset, .unset, .unset, .unset] [(.int (1 : Int32)), (.ref b106), (.ref b106)])) _
        refine XS.sipush X111.here hx rfl (hb hby at_50) ?_
        show Steps p.tables e below (T111.setTop (mkF m 53 #[.val (.long q1), .second, .val (.int p2), .val (.int p3s), .val (.int p4), .val (.int p5), .val (.ref b101), .val (.int be), .unset, .unset, .unset, .unset, .unset, .unset, .unset, .unset, .unset] [(.int (255 : Int32)), (.int (1 : Int32)), (.ref b106), (.ref b106)])) _
        refine XS.goto X111.here hx rfl (pc0 := 53) (pc' := 59) rfl (hb hby at_53) (by decide) (by decide) ?_
        show Steps p.tables e below (T111.setTop (mkF m 59 #[.val (.long q1), .second, .val (.int p2), .val (.int p3s), .val (.int p4), .val (.int p5), .val (.ref b101), .val (.int be), .unset, .unset, .unset, .unset, .unset, .unset, .unset, .unset, .unset] [(.int (255 : Int32)), (.int (1 : Int32)), (.ref b106), (.ref b106)])) _
        rw [show hb1 = (255 : Int32) from by rw [h_hb1, if_neg hc113]] at kk
        exact kk)
  obtain ⟨cl115, Ar115, q115, S115, Ne115, H115, G115⟩ := id V111
  have hin115 : ¬ ((1 : Int32) < 0 ∨ cl115.slots.size ≤ ((1 : Int32)).toNatClampNeg) := inb_of S115 ⟨by decide, by decide⟩
  obtain ⟨T116, h116, X116, e116, W116, st116⟩ := stB X111 hx hZ e111 Ar115 (j := (1 : Int32)) hin115 (g := (mkF m 60 #[.val (.long q1), .second, .val (.int p2), .val (.int p3s), .val (.int p4), .val (.int p5), .val (.ref b101), .val (.int be), .unset, .unset, .unset, .unset, .unset, .unset, .unset, .unset, .unset] [(.int (hb1.toInt8.toInt32)), (.int (1 : Int32)), (.ref b106), (.ref b106)])) rfl rfl (hb hby at_60)
  have V116 : Arv Z h116 b106 k106 .byte (4 : Int32) [(.int (nar .byte (hb0.toInt8.toInt32))), (.int (nar .byte (hb1.toInt8.toInt32))), (.int (0 : Int32)), (.int (0 : Int32))] (.int (0 : Int32)) := Arv.set Ar115 q115 S115 Ne115 H115 G115 (fits_nar_byte _) W116 1 rfl (Nat.le_of_ble_eq_true rfl)
  have N116 := Fr.snoc X116 N111 g_b106
  have O116 := O111.wr W116 g_b106
  obtain ⟨cl117, Ar117, q117, S117, Ne117, H117, G117⟩ := id V116
  have hin117 : ¬ ((2 : Int32) < 0 ∨ cl117.slots.size ≤ ((2 : Int32)).toNatClampNeg) := inb_of S117 ⟨by decide, by decide⟩
  obtain ⟨T118, h118, X118, e118, W118, st118⟩ := stB X116 hx hZ e116 Ar117 (j := (2 : Int32)) hin117 (g := (mkF m 64 #[.val (.long q1), .second, .val (.int p2), .val (.int p3s), .val (.int p4), .val (.int p5), .val (.ref b101), .val (.int be), .unset, .unset, .unset, .unset, .unset, .unset, .unset, .unset, .unset] [(.int (0 : Int32)), (.int (2 : Int32)), (.ref b106), (.ref b106)])) rfl rfl (hb hby at_64)
  have V118 : Arv Z h118 b106 k106 .byte (4 : Int32) [(.int (nar .byte (hb0.toInt8.toInt32))), (.int (nar .byte (hb1.toInt8.toInt32))), (.int (nar .byte (0 : Int32))), (.int (0 : Int32))] (.int (0 : Int32)) := Arv.set Ar117 q117 S117 Ne117 H117 G117 (fits_nar_byte _) W118 2 rfl (Nat.le_of_ble_eq_true rfl)
  rw [show (nar .byte (0 : Int32)) = (0 : Int32) from by decide] at V118
  have N118 := Fr.snoc X118 N116 g_b106
  have O118 := O116.wr W118 g_b106
  obtain ⟨cl119, Ar119, q119, S119, Ne119, H119, G119⟩ := id V118
  have hin119 : ¬ ((3 : Int32) < 0 ∨ cl119.slots.size ≤ ((3 : Int32)).toNatClampNeg) := inb_of S119 ⟨by decide, by decide⟩
  obtain ⟨T120, h120, X120, e120, W120, st120⟩ := stB X118 hx hZ e118 Ar119 (j := (3 : Int32)) hin119 (g := (mkF m 69 #[.val (.long q1), .second, .val (.int p2), .val (.int p3s), .val (.int p4), .val (.int p5), .val (.ref b101), .val (.int be), .unset, .unset, .unset, .unset, .unset, .unset, .unset, .unset, .unset] [(.int (60 : Int32)), (.int (3 : Int32)), (.ref b106), (.ref b106)])) rfl rfl (hb hby at_69)
  have V120 : Arv Z h120 b106 k106 .byte (4 : Int32) [(.int (nar .byte (hb0.toInt8.toInt32))), (.int (nar .byte (hb1.toInt8.toInt32))), (.int (0 : Int32)), (.int (nar .byte (60 : Int32)))] (.int (0 : Int32)) := Arv.set Ar119 q119 S119 Ne119 H119 G119 (fits_nar_byte _) W120 3 rfl (Nat.le_of_ble_eq_true rfl)
  rw [show (nar .byte (60 : Int32)) = (60 : Int32) from by decide] at V120
  have N120 := Fr.snoc X120 N118 g_b106
  have O120 := O118.wr W120 g_b106
  have f121 := (((((Ek102.ext E106).wr W111).wr W116).wr W118).wr W120)
  have f122 := (((((Fk_rule_102.ext E106).other W111 (Or.inl ne_b101_b106)).other W116 (Or.inl ne_b101_b106)).other W118 (Or.inl ne_b101_b106)).other W120 (Or.inl ne_b101_b106))
  have f123 := (((((Fk_firstCount_102.ext E106).other W111 (Or.inl ne_b101_b106)).other W116 (Or.inl ne_b101_b106)).other W118 (Or.inl ne_b101_b106)).other W120 (Or.inl ne_b101_b106))
  have f124 := (((((Fk_first_102.ext E106).other W111 (Or.inl ne_b101_b106)).other W116 (Or.inl ne_b101_b106)).other W118 (Or.inl ne_b101_b106)).other W120 (Or.inl ne_b101_b106))
  have f125 := (((((Fk_taken_102.ext E106).other W111 (Or.inl ne_b101_b106)).other W116 (Or.inl ne_b101_b106)).other W118 (Or.inl ne_b101_b106)).other W120 (Or.inl ne_b101_b106))
  have f126 := (((((Fk_needed_102.ext E106).other W111 (Or.inl ne_b101_b106)).other W116 (Or.inl ne_b101_b106)).other W118 (Or.inl ne_b101_b106)).other W120 (Or.inl ne_b101_b106))
  have f127 := (((((Fk_openCount_102.ext E106).other W111 (Or.inl ne_b101_b106)).other W116 (Or.inl ne_b101_b106)).other W118 (Or.inl ne_b101_b106)).other W120 (Or.inl ne_b101_b106))
  have f128 := (((((Va102.ext E106).other W111 ne_b1_102_b106).other W116 ne_b1_102_b106).other W118 ne_b1_102_b106).other W120 ne_b1_102_b106)
  obtain ⟨cq129, kq129, q129a, q129b, q129c⟩ := isOf hZ e120 f121
  obtain ⟨_, _, ⟨T129, L129, k129, n129⟩, -, X129, ⟨Lc129, hQ129, l129, y129, z129⟩, st129⟩ := X120.virtualBack hx (y := (⟨"com/example/dewey/dewey/EncodingCheck", "take", "([BII)V"⟩ : MethodName)) (z := (⟨"com/example/dewey/dewey/EncodingCheck", "take", "([BII)V"⟩ : MethodName)) hown (mvT hZ (hw _ (List.mem_of_getElem? (i := 23) rfl))) (mvT hZ (hw _ (List.mem_of_getElem? (i := 24) rfl))) (notFace_of_selects (args := #[]) (mvT hZ (hw _ (List.mem_of_getElem? (i := 26) rfl)))) (mvT hZ (hw _ (List.mem_of_getElem? (i := 26) rfl))) (mvT hZ (hw _ (List.mem_of_getElem? (i := 25) rfl))) (by decide) (backOf (W := 0) (rm_tA l Z a0 hw [] b101 b106 k106 b1_102 k1_102 (nar .byte (hb0.toInt8.toInt32)) (nar .byte (hb1.toInt8.toInt32)) (0 : Int32) (60 : Int32) (0 : Int64) ((.int (0 : Int32))) ((.int (0 : Int32))) rU r16 r8 rA h120 n0 O120 SrU Sr16 Sr8 SrA n_rU_r16 n_rU_r8 n_rU_rA n_r16_r8 n_r16_rA n_r8_rA f121 f122 f123 f124 f125 f126 f127 V120 f128 g_b101 g_b1_102 ne_b101_b1_102 ne_b101_b106 ne_b1_102_b106 (by rw [h_hb0, h_hb1]; by_cases e : be = (0 : Int32); (right; rw [if_pos e, if_pos e]; decide); (left; rw [if_neg e, if_neg e]; decide))) hZ (hw _ (List.mem_of_getElem? (i := 27) rfl)) (hw _ (List.mem_of_getElem? (i := 2) rfl)) (by decide) (by decide)) q129a q129c (g := (mkF m 78 #[.val (.long q1), .second, .val (.int p2), .val (.int p3s), .val (.int p4), .val (.int p5), .val (.ref b101), .val (.int be), .val (.ref b106), .unset, .unset, .unset, .unset, .unset, .unset, .unset, .unset] [(.int (4 : Int32)), (.int (0 : Int32)), (.ref b106), (.ref b101)])) rfl (by rw [hml]; rfl) (Steps.refl _) (argsL := [(.ref b106), (.int (0 : Int32)), (.int (4 : Int32))]) (rest := []) (lenOf pd_0 rfl) rfl (by show 2 * 0 + _ ≤ _; exact Nat.le_of_eq rfl) (hb hby at_78) (fun _ _ => ⟨rfl, e120, (by decide : 4 + 0 ≤ _), (by decide : 22 + 0 ≤ _)⟩)
  dsimp only [Pt.U, Pt.locs, Pt.cells, Pt.slots] at X129 l129 y129 z129 st129 hQ129
  subst l129 y129 z129
  obtain ⟨rfl, Nq129, Kq129, Ek129, Fk_rule_129, Fk_taken_129, Fk_needed_129, Fk_openCount_129⟩ := hQ129
  have N129 := Fr.app N120 Nq129
  have O129 := O120.keep Kq129 (allS g_b101 (allS g_b1_102 all0))
  obtain ⟨cq130, kq130, q130a, q130b, q130c⟩ := isOf hZ rfl Ek129
  obtain ⟨_, _, ⟨T130, L130, k130, n130⟩, -, X130, ⟨Lc130, hQ130, l130, y130, z130⟩, st130⟩ := X129.virtualBack hx (y := (⟨"com/example/dewey/dewey/EncodingCheck", "skip", "(J)V"⟩ : MethodName)) (z := (⟨"com/example/dewey/dewey/EncodingCheck", "skip", "(J)V"⟩ : MethodName)) hown (mvT hZ (hw _ (List.mem_of_getElem? (i := 49) rfl))) (mvT hZ (hw _ (List.mem_of_getElem? (i := 50) rfl))) (notFace_of_selects (args := #[]) (mvT hZ (hw _ (List.mem_of_getElem? (i := 52) rfl)))) (mvT hZ (hw _ (List.mem_of_getElem? (i := 52) rfl))) (mvT hZ (hw _ (List.mem_of_getElem? (i := 51) rfl))) (by decide) (backOf (W := 0) (rm_sk l Z a0 hw [] b101 q1 (((0 : Int64) + ((4 : Int32) - (0 : Int32)).toInt64) + ((4 : Int32) - (4 : Int32)).toInt64) (((.int (0 : Int32)))) (((.int (0 : Int32)))) r16 rU r16 r8 rA T129.heap n0 O129 SrU Sr16 Sr8 SrA n_rU_r16 n_rU_r8 n_rU_rA n_r16_r8 n_r16_rA n_r8_rA Ek129 Fk_taken_129 Fk_rule_129 Fk_needed_129 Fk_openCount_129 g_b101) hZ (hw _ (List.mem_of_getElem? (i := 53) rfl)) (hw _ (List.mem_of_getElem? (i := 2) rfl)) (by decide) (by decide)) q130a q130c (g := (mkF m 84 #[.val (.long q1), .second, .val (.int p2), .val (.int p3s), .val (.int p4), .val (.int p5), .val (.ref b101), .val (.int be), .val (.ref b106), .unset, .unset, .unset, .unset, .unset, .unset, .unset, .unset] [(.long q1), (.ref b101)])) rfl (by rw [hml]; rfl) (Steps.refl _) (argsL := [(.long q1)]) (rest := []) (lenOf pd_3 rfl) rfl (by show 2 * 0 + _ ≤ _; exact Nat.le_of_eq rfl) (hb hby at_84) (fun _ _ => ⟨rfl, rfl, (by decide : 4 + 0 ≤ _), (by decide : 22 + 0 ≤ _)⟩)
  dsimp only [Pt.U, Pt.locs, Pt.cells, Pt.slots] at X130 l130 y130 z130 st130 hQ130
  subst l130 y130 z130
  obtain ⟨rfl, Nq130, Kq130, Ek130, Fk_taken_130, Fk_needed_130, Fk_openCount_130, Fk_rule_130⟩ := hQ130
  have N130 := Fr.app N129 Nq130
  have O130 := O129.keep Kq130 (allS g_b101 all0)
  obtain ⟨T131, h131, k131, X131, e131, E131, A131, st131⟩ := newP X130 hx hZ (hw _ (List.mem_of_getElem? (i := 9) rfl)) rfl (g := (mkF m 88 #[.val (.long q1), .second, .val (.int p2), .val (.int p3s), .val (.int p4), .val (.int p5), .val (.ref b101), .val (.int be), .val (.ref b106), .unset, .unset, .unset, .unset, .unset, .unset, .unset, .unset] [(.int (1 : Int32))])) rfl (hb hby at_88) rfl (by decide) (cap := 1) (by decide) (by decide) (by decide) (by decide)
  obtain ⟨b131, g131⟩ : ∃ z, z = T130.heap.size := ⟨_, rfl⟩
  rw [← g131] at A131 st131
  have g_b131 : n0 ≤ b131 := Nat.le_trans (own_szO O130) (Nat.le_of_eq g131.symm)
  have ne_b101_b131 : b101 ≠ b131 := Nat.ne_of_lt (Nat.lt_of_lt_of_le Ek130.lt (Nat.le_of_eq g131.symm))
  have f132 := (((((((Vb102.ext E106).other W111 ne_b2_102_b106).other W116 ne_b2_102_b106).other W118 ne_b2_102_b106).other W120 ne_b2_102_b106).keep Kq129 (ninS (Ne.symm ne_b101_b2_102) (ninS (Ne.symm nb102) nin0))).keep Kq130 (ninS (Ne.symm ne_b101_b2_102) nin0))
  have ne_b2_102_b131 : b2_102 ≠ b131 := Nat.ne_of_lt (Nat.lt_of_lt_of_le f132.lt (Nat.le_of_eq g131.symm))
  have f133 := ((V120.keep Kq129 (ninS (Ne.symm ne_b101_b106) (ninS (Ne.symm ne_b1_102_b106) nin0))).keep Kq130 (ninS (Ne.symm ne_b101_b106) nin0))
  have ne_b106_b131 : b106 ≠ b131 := Nat.ne_of_lt (Nat.lt_of_lt_of_le f133.lt (Nat.le_of_eq g131.symm))
  have O131 := O130.ext E131
  have V131 : Arv Z h131 b131 k131 .byte (1 : Int32) [(.int (0 : Int32))] (.int (0 : Int32)) := (Arv.new A131 (by decide)).pad (pad_rep [] (.int (0 : Int32)) 1)
  have f134 := (Ek130.ext E131)
  have f135 := (Fk_rule_130.ext E131)
  have f136 := (Fk_taken_130.ext E131)
  have f137 := (Fk_needed_130.ext E131)
  have f138 := (Fk_openCount_130.ext E131)
  obtain ⟨cq139, kq139, q139a, q139b, q139c⟩ := isOf hZ e131 f134
  obtain ⟨_, _, ⟨T139, L139, k139, n139⟩, -, X139, ⟨Lc139, hQ139, l139, y139, z139⟩, st139⟩ := X131.virtualBack hx (y := (⟨"com/example/dewey/dewey/EncodingCheck", "take", "([BII)V"⟩ : MethodName)) (z := (⟨"com/example/dewey/dewey/EncodingCheck", "take", "([BII)V"⟩ : MethodName)) hown (mvT hZ (hw _ (List.mem_of_getElem? (i := 23) rfl))) (mvT hZ (hw _ (List.mem_of_getElem? (i := 24) rfl))) (notFace_of_selects (args := #[]) (mvT hZ (hw _ (List.mem_of_getElem? (i := 26) rfl)))) (mvT hZ (hw _ (List.mem_of_getElem? (i := 26) rfl))) (mvT hZ (hw _ (List.mem_of_getElem? (i := 25) rfl))) (by decide) (backOf (W := 0) (rm_tB l Z a0 hw [] b101 b131 ((q1 &&& (1 : Int64)).toInt32) ((((0 : Int64) + ((4 : Int32) - (0 : Int32)).toInt64) + ((4 : Int32) - (4 : Int32)).toInt64) + q1) ((.int (0 : Int32))) ((.int (0 : Int32))) rU r16 r8 rA h131 n0 O131 SrU Sr16 Sr8 SrA n_rU_r16 n_rU_r8 n_rU_rA n_r16_r8 n_r16_rA n_r8_rA f134 f135 f136 f137 f138 g_b101) hZ (hw _ (List.mem_of_getElem? (i := 27) rfl)) (hw _ (List.mem_of_getElem? (i := 2) rfl)) (by decide) (by decide)) q139a q139c (g := (mkF m 101 #[.val (.long q1), .second, .val (.int p2), .val (.int p3s), .val (.int p4), .val (.int p5), .val (.ref b101), .val (.int be), .val (.ref b106), .val (.ref b131), .unset, .unset, .unset, .unset, .unset, .unset, .unset] [(.int ((q1 &&& (1 : Int64)).toInt32)), (.int (0 : Int32)), (.ref b131), (.ref b101)])) rfl (by rw [hml]; rfl) (Steps.refl _) (argsL := [(.ref b131), (.int (0 : Int32)), (.int ((q1 &&& (1 : Int64)).toInt32))]) (rest := []) (lenOf pd_0 rfl) rfl (by show 2 * 0 + _ ≤ _; exact Nat.le_of_eq rfl) (hb hby at_101) (fun _ _ => ⟨rfl, e131, (by decide : 5 + 0 ≤ _), (by decide : 23 + 0 ≤ _)⟩)
  dsimp only [Pt.U, Pt.locs, Pt.cells, Pt.slots] at X139 l139 y139 z139 st139 hQ139
  subst l139 y139 z139
  obtain ⟨rfl, Nq139, Kq139, Ek139, Fk_rule_139, Fk_taken_139, Fk_needed_139, Fk_openCount_139⟩ := hQ139
  have N139 := Fr.app N130 Nq139
  have O139 := O131.keep Kq139 (allS g_b101 all0)
  obtain ⟨cq140, kq140, q140a, q140b, q140c⟩ := isOf hZ rfl Ek139
  obtain ⟨_, _, ⟨T140, L140, k140, n140⟩, -, X140, ⟨Lc140, hQ140, l140, y140, z140⟩, st140⟩ := X139.virtualBack hx (y := (⟨"com/example/dewey/dewey/EncodingCheck", "end", "()V"⟩ : MethodName)) (z := (⟨"com/example/dewey/dewey/EncodingCheck", "end", "()V"⟩ : MethodName)) hown (mvT hZ (hw _ (List.mem_of_getElem? (i := 58) rfl))) (mvT hZ (hw _ (List.mem_of_getElem? (i := 59) rfl))) (notFace_of_selects (args := #[]) (mvT hZ (hw _ (List.mem_of_getElem? (i := 61) rfl)))) (mvT hZ (hw _ (List.mem_of_getElem? (i := 61) rfl))) (mvT hZ (hw _ (List.mem_of_getElem? (i := 60) rfl))) (by decide) (backOf (W := 0) (rm_e16 l Z a0 hw [] b101 (((((0 : Int64) + ((4 : Int32) - (0 : Int32)).toInt64) + ((4 : Int32) - (4 : Int32)).toInt64) + q1) + (((q1 &&& (1 : Int64)).toInt32) - (0 : Int32)).toInt64) rU r16 r8 rA T139.heap n0 O139 SrU Sr16 Sr8 SrA n_rU_r16 n_rU_r8 n_rU_rA n_r16_r8 n_r16_rA n_r8_rA Ek139 Fk_rule_139 Fk_taken_139 (own_even q1)) hZ (hw _ (List.mem_of_getElem? (i := 62) rfl)) (hw _ (List.mem_of_getElem? (i := 2) rfl)) (by decide) (by decide)) q140a q140c (g := (mkF m 106 #[.val (.long q1), .second, .val (.int p2), .val (.int p3s), .val (.int p4), .val (.int p5), .val (.ref b101), .val (.int be), .val (.ref b106), .val (.ref b131), .unset, .unset, .unset, .unset, .unset, .unset, .unset] [(.ref b101)])) rfl (by rw [hml]; rfl) (Steps.refl _) (argsL := []) (rest := []) (lenOf pd_2 rfl) rfl (by show 2 * 0 + _ ≤ _; exact Nat.le_of_eq rfl) (hb hby at_106) (fun _ _ => ⟨rfl, rfl, (by decide : 5 + 0 ≤ _), (by decide : 23 + 0 ≤ _)⟩)
  dsimp only [Pt.U, Pt.locs, Pt.cells, Pt.slots] at X140 l140 y140 z140 st140 hQ140
  subst l140 y140 z140
  obtain ⟨rfl, Nq140, e140⟩ := hQ140
  have N140 := Fr.app N139 Nq140
  obtain ⟨ld, h_ld⟩ : ∃ z : Int32, z = ((194 : Int32) + ((p3s &&& (2147483647 : Int32)) - ((p3s &&& (2147483647 : Int32)) / (51 : Int32)) * (51 : Int32))) := ⟨_, rfl⟩
  have hld := own_lead h_ld
  have pre141 : ∀ t, Steps p.tables e below (T140.setTop (mkF m 127 #[.val (.long q1), .second, .val (.int p2), .val (.int p3s), .val (.int p4), .val (.int p5), .val (.ref b101), .val (.int be), .val (.ref b106), .val (.ref b131), .val (.int ld), .unset, .unset, .unset, .unset, .unset, .unset] [(.int (224 : Int32)), (.int ld)])) t → Steps p.tables e below (s₁.setTop (entryFrame m #[(.long q1), (.int p2), (.int p3s), (.int p4), (.int p5)] maxLocals)) t := fun t kk => pre114 t (by
      show Steps p.tables e below (T111.setTop (mkF m 59 #[.val (.long q1), .second, .val (.int p2), .val (.int p3s), .val (.int p4), .val (.int p5), .val (.ref b101), .val (.int be), .unset, .unset, .unset, .unset, .unset, .unset, .unset, .unset, .unset] [(.int hb1), (.int (1 : Int32)), (.ref b106), (.ref b106)])) _
      refine XS.i2b X111.here hx rfl (hb hby at_59) rfl ?_
      show Steps p.tables e below (T111.setTop (mkF m 60 #[.val (.long q1), .second, .val (.int p2), .val (.int p3s), .val (.int p4), .val (.int p5), .val (.ref b101), .val (.int be), .unset, .unset, .unset, .unset, .unset, .unset, .unset, .unset, .unset] [(.int (hb1.toInt8.toInt32)), (.int (1 : Int32)), (.ref b106), (.ref b106)])) _
      refine st116 _ ?_
      show Steps p.tables e below (T116.setTop (mkF m 61 #[.val (.long q1), .second, .val (.int p2), .val (.int p3s), .val (.int p4), .val (.int p5), .val (.ref b101), .val (.int be), .unset, .unset, .unset, .unset, .unset, .unset, .unset, .unset, .unset] [(.ref b106)])) _
      refine XS.dup X116.here hx rfl (hb hby at_61) rfl rfl ?_
      refine XS.iconst X116.here hx rfl (hb hby at_62) ?_
      refine XS.iconst X116.here hx rfl (hb hby at_63) ?_
      show Steps p.tables e below (T116.setTop (mkF m 64 #[.val (.long q1), .second, .val (.int p2), .val (.int p3s), .val (.int p4), .val (.int p5), .val (.ref b101), .val (.int be), .unset, .unset, .unset, .unset, .unset, .unset, .unset, .unset, .unset] [(.int (0 : Int32)), (.int (2 : Int32)), (.ref b106), (.ref b106)])) _
      refine st118 _ ?_
      show Steps p.tables e below (T118.setTop (mkF m 65 #[.val (.long q1), .second, .val (.int p2), .val (.int p3s), .val (.int p4), .val (.int p5), .val (.ref b101), .val (.int be), .unset, .unset, .unset, .unset, .unset, .unset, .unset, .unset, .unset] [(.ref b106)])) _
      refine XS.dup X118.here hx rfl (hb hby at_65) rfl rfl ?_
      refine XS.iconst X118.here hx rfl (hb hby at_66) ?_
      refine XS.bipush X118.here hx rfl (hb hby at_67) ?_
      show Steps p.tables e below (T118.setTop (mkF m 69 #[.val (.long q1), .second, .val (.int p2), .val (.int p3s), .val (.int p4), .val (.int p5), .val (.ref b101), .val (.int be), .unset, .unset, .unset, .unset, .unset, .unset, .unset, .unset, .unset] [(.int (60 : Int32)), (.int (3 : Int32)), (.ref b106), (.ref b106)])) _
      refine st120 _ ?_
      show Steps p.tables e below (T120.setTop (mkF m 70 #[.val (.long q1), .second, .val (.int p2), .val (.int p3s), .val (.int p4), .val (.int p5), .val (.ref b101), .val (.int be), .unset, .unset, .unset, .unset, .unset, .unset, .unset, .unset, .unset] [(.ref b106)])) _
      refine XS.astore X120.here hx rfl (hb hby at_70) rfl rfl (l' := #[.val (.long q1), .second, .val (.int p2), .val (.int p3s), .val (.int p4), .val (.int p5), .val (.ref b101), .val (.int be), .val (.ref b106), .unset, .unset, .unset, .unset, .unset, .unset, .unset, .unset]) rfl ?_
      refine XS.aload X120.here hx rfl (hb hby at_72) rfl rfl ?_
      refine XS.aload X120.here hx rfl (hb hby at_74) rfl rfl ?_
      refine XS.iconst X120.here hx rfl (hb hby at_76) ?_
      show Steps p.tables e below (T120.setTop (mkF m 77 #[.val (.long q1), .second, .val (.int p2), .val (.int p3s), .val (.int p4), .val (.int p5), .val (.ref b101), .val (.int be), .val (.ref b106), .unset, .unset, .unset, .unset, .unset, .unset, .unset, .unset] [(.int (0 : Int32)), (.ref b106), (.ref b101)])) _
      refine XS.iconst X120.here hx rfl (hb hby at_77) ?_
      show Steps p.tables e below (T120.setTop (mkF m 78 #[.val (.long q1), .second, .val (.int p2), .val (.int p3s), .val (.int p4), .val (.int p5), .val (.ref b101), .val (.int be), .val (.ref b106), .unset, .unset, .unset, .unset, .unset, .unset, .unset, .unset] [(.int (4 : Int32)), (.int (0 : Int32)), (.ref b106), (.ref b101)])) _
      refine st129.trans ?_
      show Steps p.tables e below (T129.setTop (mkF m 81 #[.val (.long q1), .second, .val (.int p2), .val (.int p3s), .val (.int p4), .val (.int p5), .val (.ref b101), .val (.int be), .val (.ref b106), .unset, .unset, .unset, .unset, .unset, .unset, .unset, .unset] [])) _
      refine XS.aload X129.here hx rfl (hb hby at_81) rfl rfl ?_
      refine XS.lloadN X129.here hx rfl (hb hby at_83) rfl ?_
      show Steps p.tables e below (T129.setTop (mkF m 84 #[.val (.long q1), .second, .val (.int p2), .val (.int p3s), .val (.int p4), .val (.int p5), .val (.ref b101), .val (.int be), .val (.ref b106), .unset, .unset, .unset, .unset, .unset, .unset, .unset, .unset] [(.long q1), (.ref b101)])) _
      refine st130.trans ?_
      show Steps p.tables e below (T130.setTop (mkF m 87 #[.val (.long q1), .second, .val (.int p2), .val (.int p3s), .val (.int p4), .val (.int p5), .val (.ref b101), .val (.int be), .val (.ref b106), .unset, .unset, .unset, .unset, .unset, .unset, .unset, .unset] [])) _
      refine XS.iconst X130.here hx rfl (hb hby at_87) ?_
      show Steps p.tables e below (T130.setTop (mkF m 88 #[.val (.long q1), .second, .val (.int p2), .val (.int p3s), .val (.int p4), .val (.int p5), .val (.ref b101), .val (.int be), .val (.ref b106), .unset, .unset, .unset, .unset, .unset, .unset, .unset, .unset] [(.int (1 : Int32))])) _
      refine st131 _ ?_
      show Steps p.tables e below (T131.setTop (mkF m 90 #[.val (.long q1), .second, .val (.int p2), .val (.int p3s), .val (.int p4), .val (.int p5), .val (.ref b101), .val (.int be), .val (.ref b106), .unset, .unset, .unset, .unset, .unset, .unset, .unset, .unset] [(.ref b131)])) _
      refine XS.astore X131.here hx rfl (hb hby at_90) rfl rfl (l' := #[.val (.long q1), .second, .val (.int p2), .val (.int p3s), .val (.int p4), .val (.int p5), .val (.ref b101), .val (.int be), .val (.ref b106), .val (.ref b131), .unset, .unset, .unset, .unset, .unset, .unset, .unset]) rfl ?_
      refine XS.aload X131.here hx rfl (hb hby at_92) rfl rfl ?_
      refine XS.aload X131.here hx rfl (hb hby at_94) rfl rfl ?_
      refine XS.iconst X131.here hx rfl (hb hby at_96) ?_
      show Steps p.tables e below (T131.setTop (mkF m 97 #[.val (.long q1), .second, .val (.int p2), .val (.int p3s), .val (.int p4), .val (.int p5), .val (.ref b101), .val (.int be), .val (.ref b106), .val (.ref b131), .unset, .unset, .unset, .unset, .unset, .unset, .unset] [(.int (0 : Int32)), (.ref b131), (.ref b101)])) _
      refine XS.lloadN X131.here hx rfl (hb hby at_97) rfl ?_
      refine XS.lconst X131.here hx rfl (hb hby at_98) ?_
      refine XS.land X131.here hx rfl (hb hby at_99) rfl ?_
      refine XS.l2i X131.here hx rfl (hb hby at_100) rfl ?_
      show Steps p.tables e below (T131.setTop (mkF m 101 #[.val (.long q1), .second, .val (.int p2), .val (.int p3s), .val (.int p4), .val (.int p5), .val (.ref b101), .val (.int be), .val (.ref b106), .val (.ref b131), .unset, .unset, .unset, .unset, .unset, .unset, .unset] [(.int ((q1 &&& (1 : Int64)).toInt32)), (.int (0 : Int32)), (.ref b131), (.ref b101)])) _
      refine st139.trans ?_
      show Steps p.tables e below (T139.setTop (mkF m 104 #[.val (.long q1), .second, .val (.int p2), .val (.int p3s), .val (.int p4), .val (.int p5), .val (.ref b101), .val (.int be), .val (.ref b106), .val (.ref b131), .unset, .unset, .unset, .unset, .unset, .unset, .unset] [])) _
      refine XS.aload X139.here hx rfl (hb hby at_104) rfl rfl ?_
      show Steps p.tables e below (T139.setTop (mkF m 106 #[.val (.long q1), .second, .val (.int p2), .val (.int p3s), .val (.int p4), .val (.int p5), .val (.ref b101), .val (.int be), .val (.ref b106), .val (.ref b131), .unset, .unset, .unset, .unset, .unset, .unset, .unset] [(.ref b101)])) _
      refine st140.trans ?_
      show Steps p.tables e below (T140.setTop (mkF m 109 #[.val (.long q1), .second, .val (.int p2), .val (.int p3s), .val (.int p4), .val (.int p5), .val (.ref b101), .val (.int be), .val (.ref b106), .val (.ref b131), .unset, .unset, .unset, .unset, .unset, .unset, .unset] [])) _
      refine XS.sipush X140.here hx rfl (hb hby at_109) ?_
      refine XS.iloadN X140.here hx rfl (hb hby at_112) rfl ?_
      show Steps p.tables e below (T140.setTop (mkF m 113 #[.val (.long q1), .second, .val (.int p2), .val (.int p3s), .val (.int p4), .val (.int p5), .val (.ref b101), .val (.int be), .val (.ref b106), .val (.ref b131), .unset, .unset, .unset, .unset, .unset, .unset, .unset] [(.int p3s), (.int (194 : Int32))])) _
      refine X140.ldcInt hx hown (mvT hZ (hw _ (List.mem_of_getElem? (i := 64) rfl))) (g := (mkF m 113 #[.val (.long q1), .second, .val (.int p2), .val (.int p3s), .val (.int p4), .val (.int p5), .val (.ref b101), .val (.int be), .val (.ref b106), .val (.ref b131), .unset, .unset, .unset, .unset, .unset, .unset, .unset] [(.int p3s), (.int (194 : Int32))])) rfl (hb hby at_113) _ ?_
      show Steps p.tables e below (T140.setTop (mkF m 115 #[.val (.long q1), .second, .val (.int p2), .val (.int p3s), .val (.int p4), .val (.int p5), .val (.ref b101), .val (.int be), .val (.ref b106), .val (.ref b131), .unset, .unset, .unset, .unset, .unset, .unset, .unset] [(.int (2147483647 : Int32)), (.int p3s), (.int (194 : Int32))])) _
      refine XS.iand X140.here hx rfl (hb hby at_115) rfl ?_
      refine XS.bipush X140.here hx rfl (hb hby at_116) ?_
      refine XS.irem X140.here hx rfl (hb hby at_118) rfl (by decide) ?_
      refine XS.iadd X140.here hx rfl (hb hby at_119) rfl ?_
      show Steps p.tables e below (T140.setTop (mkF m 120 #[.val (.long q1), .second, .val (.int p2), .val (.int p3s), .val (.int p4), .val (.int p5), .val (.ref b101), .val (.int be), .val (.ref b106), .val (.ref b131), .unset, .unset, .unset, .unset, .unset, .unset, .unset] [(.int ((194 : Int32) + ((p3s &&& (2147483647 : Int32)) - ((p3s &&& (2147483647 : Int32)) / (51 : Int32)) * (51 : Int32))))])) _
      rw [show ((194 : Int32) + ((p3s &&& (2147483647 : Int32)) - ((p3s &&& (2147483647 : Int32)) / (51 : Int32)) * (51 : Int32))) = ld from h_ld.symm]
      show Steps p.tables e below (T140.setTop (mkF m 120 #[.val (.long q1), .second, .val (.int p2), .val (.int p3s), .val (.int p4), .val (.int p5), .val (.ref b101), .val (.int be), .val (.ref b106), .val (.ref b131), .unset, .unset, .unset, .unset, .unset, .unset, .unset] [(.int ld)])) _
      refine XS.istore X140.here hx rfl (hb hby at_120) rfl (l' := #[.val (.long q1), .second, .val (.int p2), .val (.int p3s), .val (.int p4), .val (.int p5), .val (.ref b101), .val (.int be), .val (.ref b106), .val (.ref b131), .val (.int ld), .unset, .unset, .unset, .unset, .unset, .unset]) rfl ?_
      refine XS.iload X140.here hx rfl (hb hby at_122) rfl ?_
      refine XS.sipush X140.here hx rfl (hb hby at_124) ?_
      show Steps p.tables e below (T140.setTop (mkF m 127 #[.val (.long q1), .second, .val (.int p2), .val (.int p3s), .val (.int p4), .val (.int p5), .val (.ref b101), .val (.int be), .val (.ref b106), .val (.ref b131), .val (.int ld), .unset, .unset, .unset, .unset, .unset, .unset] [(.int (224 : Int32)), (.int ld)])) _
      exact kk)
  obtain ⟨nn, h_nn⟩ : ∃ z : Int32, z = (if ld < (224 : Int32) then (1 : Int32) else (if ld < (240 : Int32) then (2 : Int32) else (3 : Int32))) := ⟨_, rfl⟩
  have pre144 : ∀ t, Steps p.tables e below (T140.setTop (mkF m 147 #[.val (.long q1), .second, .val (.int p2), .val (.int p3s), .val (.int p4), .val (.int p5), .val (.ref b101), .val (.int be), .val (.ref b106), .val (.ref b131), .val (.int ld), .unset, .unset, .unset, .unset, .unset, .unset] [(.int nn)])) t → Steps p.tables e below (s₁.setTop (entryFrame m #[(.long q1), (.int p2), (.int p3s), (.int p4), (.int p5)] maxLocals)) t := fun t kk => pre141 t (by
      by_cases hc142 : ld < (224 : Int32)
      · refine XS.icmpNo X140.here hx rfl (hb hby at_127) rfl (tlt hc142).2.1 ?_
        show Steps p.tables e below (T140.setTop (mkF m 130 #[.val (.long q1), .second, .val (.int p2), .val (.int p3s), .val (.int p4), .val (.int p5), .val (.ref b101), .val (.int be), .val (.ref b106), .val (.ref b131), .val (.int ld), .unset, .unset, .unset, .unset, .unset, .unset] [])) _
        refine XS.iconst X140.here hx rfl (hb hby at_130) ?_
        show Steps p.tables e below (T140.setTop (mkF m 131 #[.val (.long q1), .second, .val (.int p2), .val (.int p3s), .val (.int p4), .val (.int p5), .val (.ref b101), .val (.int be), .val (.ref b106), .val (.ref b131), .val (.int ld), .unset, .unset, .unset, .unset, .unset, .unset] [(.int (1 : Int32))])) _
        refine XS.goto X140.here hx rfl (pc0 := 131) (pc' := 147) rfl (hb hby at_131) (by decide) (by decide) ?_
        show Steps p.tables e below (T140.setTop (mkF m 147 #[.val (.long q1), .second, .val (.int p2), .val (.int p3s), .val (.int p4), .val (.int p5), .val (.ref b101), .val (.int be), .val (.ref b106), .val (.ref b131), .val (.int ld), .unset, .unset, .unset, .unset, .unset, .unset] [(.int (1 : Int32))])) _
        rw [show nn = (1 : Int32) from by rw [h_nn, if_pos hc142]] at kk
        exact kk
      · refine XS.icmpYes X140.here hx rfl (pc0 := 127) (pc' := 134) rfl (hb hby at_127) rfl (flt hc142).2.1 (by decide) (by decide) ?_
        show Steps p.tables e below (T140.setTop (mkF m 134 #[.val (.long q1), .second, .val (.int p2), .val (.int p3s), .val (.int p4), .val (.int p5), .val (.ref b101), .val (.int be), .val (.ref b106), .val (.ref b131), .val (.int ld), .unset, .unset, .unset, .unset, .unset, .unset] [])) _
        refine XS.iload X140.here hx rfl (hb hby at_134) rfl ?_
        show Steps p.tables e below (T140.setTop (mkF m 136 #[.val (.long q1), .second, .val (.int p2), .val (.int p3s), .val (.int p4), .val (.int p5), .val (.ref b101), .val (.int be), .val (.ref b106), .val (.ref b131), .val (.int ld), .unset, .unset, .unset, .unset, .unset, .unset] [(.int ld)])) _
        refine XS.sipush X140.here hx rfl (hb hby at_136) ?_
        show Steps p.tables e below (T140.setTop (mkF m 139 #[.val (.long q1), .second, .val (.int p2), .val (.int p3s), .val (.int p4), .val (.int p5), .val (.ref b101), .val (.int be), .val (.ref b106), .val (.ref b131), .val (.int ld), .unset, .unset, .unset, .unset, .unset, .unset] [(.int (240 : Int32)), (.int ld)])) _
        by_cases hc143 : ld < (240 : Int32)
        · refine XS.icmpNo X140.here hx rfl (hb hby at_139) rfl (tlt hc143).2.1 ?_
          show Steps p.tables e below (T140.setTop (mkF m 142 #[.val (.long q1), .second, .val (.int p2), .val (.int p3s), .val (.int p4), .val (.int p5), .val (.ref b101), .val (.int be), .val (.ref b106), .val (.ref b131), .val (.int ld), .unset, .unset, .unset, .unset, .unset, .unset] [])) _
          refine XS.iconst X140.here hx rfl (hb hby at_142) ?_
          show Steps p.tables e below (T140.setTop (mkF m 143 #[.val (.long q1), .second, .val (.int p2), .val (.int p3s), .val (.int p4), .val (.int p5), .val (.ref b101), .val (.int be), .val (.ref b106), .val (.ref b131), .val (.int ld), .unset, .unset, .unset, .unset, .unset, .unset] [(.int (2 : Int32))])) _
          refine XS.goto X140.here hx rfl (pc0 := 143) (pc' := 147) rfl (hb hby at_143) (by decide) (by decide) ?_
          show Steps p.tables e below (T140.setTop (mkF m 147 #[.val (.long q1), .second, .val (.int p2), .val (.int p3s), .val (.int p4), .val (.int p5), .val (.ref b101), .val (.int be), .val (.ref b106), .val (.ref b131), .val (.int ld), .unset, .unset, .unset, .unset, .unset, .unset] [(.int (2 : Int32))])) _
          rw [show nn = (2 : Int32) from by rw [h_nn, if_neg hc142, if_pos hc143]] at kk
          exact kk
        · refine XS.icmpYes X140.here hx rfl (pc0 := 139) (pc' := 146) rfl (hb hby at_139) rfl (flt hc143).2.1 (by decide) (by decide) ?_
          show Steps p.tables e below (T140.setTop (mkF m 146 #[.val (.long q1), .second, .val (.int p2), .val (.int p3s), .val (.int p4), .val (.int p5), .val (.ref b101), .val (.int be), .val (.ref b106), .val (.ref b131), .val (.int ld), .unset, .unset, .unset, .unset, .unset, .unset] [])) _
          refine XS.iconst X140.here hx rfl (hb hby at_146) ?_
          show Steps p.tables e below (T140.setTop (mkF m 147 #[.val (.long q1), .second, .val (.int p2), .val (.int p3s), .val (.int p4), .val (.int p5), .val (.ref b101), .val (.int be), .val (.ref b106), .val (.ref b131), .val (.int ld), .unset, .unset, .unset, .unset, .unset, .unset] [(.int (3 : Int32))])) _
          rw [show nn = (3 : Int32) from by rw [h_nn, if_neg hc142, if_neg hc143]] at kk
          exact kk)
  obtain ⟨jj, h_jj⟩ : ∃ z : Int32, z = ((p4 &&& (3 : Int32)) - ((p4 &&& (3 : Int32)) / nn) * nn) := ⟨_, rfl⟩
  have pre145 : ∀ t, Steps p.tables e below (T140.setTop (mkF m 163 #[.val (.long q1), .second, .val (.int p2), .val (.int p3s), .val (.int p4), .val (.int p5), .val (.ref b101), .val (.int be), .val (.ref b106), .val (.ref b131), .val (.int ld), .val (.int nn), .val (.int jj), .unset, .unset, .unset, .unset] [(.int (224 : Int32)), (.int ld)])) t → Steps p.tables e below (s₁.setTop (entryFrame m #[(.long q1), (.int p2), (.int p3s), (.int p4), (.int p5)] maxLocals)) t := fun t kk => pre144 t (by
      show Steps p.tables e below (T140.setTop (mkF m 147 #[.val (.long q1), .second, .val (.int p2), .val (.int p3s), .val (.int p4), .val (.int p5), .val (.ref b101), .val (.int be), .val (.ref b106), .val (.ref b131), .val (.int ld), .unset, .unset, .unset, .unset, .unset, .unset] [(.int nn)])) _
      refine XS.istore X140.here hx rfl (hb hby at_147) rfl (l' := #[.val (.long q1), .second, .val (.int p2), .val (.int p3s), .val (.int p4), .val (.int p5), .val (.ref b101), .val (.int be), .val (.ref b106), .val (.ref b131), .val (.int ld), .val (.int nn), .unset, .unset, .unset, .unset, .unset]) rfl ?_
      refine XS.iload X140.here hx rfl (hb hby at_149) rfl ?_
      refine XS.iconst X140.here hx rfl (hb hby at_151) ?_
      refine XS.iand X140.here hx rfl (hb hby at_152) rfl ?_
      show Steps p.tables e below (T140.setTop (mkF m 153 #[.val (.long q1), .second, .val (.int p2), .val (.int p3s), .val (.int p4), .val (.int p5), .val (.ref b101), .val (.int be), .val (.ref b106), .val (.ref b131), .val (.int ld), .val (.int nn), .unset, .unset, .unset, .unset, .unset] [(.int (p4 &&& (3 : Int32)))])) _
      refine XS.iload X140.here hx rfl (hb hby at_153) rfl ?_
      refine XS.irem X140.here hx rfl (hb hby at_155) rfl (own_nn h_nn) ?_
      show Steps p.tables e below (T140.setTop (mkF m 156 #[.val (.long q1), .second, .val (.int p2), .val (.int p3s), .val (.int p4), .val (.int p5), .val (.ref b101), .val (.int be), .val (.ref b106), .val (.ref b131), .val (.int ld), .val (.int nn), .unset, .unset, .unset, .unset, .unset] [(.int ((p4 &&& (3 : Int32)) - ((p4 &&& (3 : Int32)) / nn) * nn))])) _
      rw [show ((p4 &&& (3 : Int32)) - ((p4 &&& (3 : Int32)) / nn) * nn) = jj from h_jj.symm]
      show Steps p.tables e below (T140.setTop (mkF m 156 #[.val (.long q1), .second, .val (.int p2), .val (.int p3s), .val (.int p4), .val (.int p5), .val (.ref b101), .val (.int be), .val (.ref b106), .val (.ref b131), .val (.int ld), .val (.int nn), .unset, .unset, .unset, .unset, .unset] [(.int jj)])) _
      refine XS.istore X140.here hx rfl (hb hby at_156) rfl (l' := #[.val (.long q1), .second, .val (.int p2), .val (.int p3s), .val (.int p4), .val (.int p5), .val (.ref b101), .val (.int be), .val (.ref b106), .val (.ref b131), .val (.int ld), .val (.int nn), .val (.int jj), .unset, .unset, .unset, .unset]) rfl ?_
      refine XS.iload X140.here hx rfl (hb hby at_158) rfl ?_
      refine XS.sipush X140.here hx rfl (hb hby at_160) ?_
      show Steps p.tables e below (T140.setTop (mkF m 163 #[.val (.long q1), .second, .val (.int p2), .val (.int p3s), .val (.int p4), .val (.int p5), .val (.ref b101), .val (.int be), .val (.ref b106), .val (.ref b131), .val (.int ld), .val (.int nn), .val (.int jj), .unset, .unset, .unset, .unset] [(.int (224 : Int32)), (.int ld)])) _
      exact kk)
  obtain ⟨c1, h_c1⟩ : ∃ z : Int32, z = (if ld = (224 : Int32) then (160 : Int32) else (if ld = (240 : Int32) then (144 : Int32) else (128 : Int32))) := ⟨_, rfl⟩
  have pre148 : ∀ t, Steps p.tables e below (T140.setTop (mkF m 189 #[.val (.long q1), .second, .val (.int p2), .val (.int p3s), .val (.int p4), .val (.int p5), .val (.ref b101), .val (.int be), .val (.ref b106), .val (.ref b131), .val (.int ld), .val (.int nn), .val (.int jj), .unset, .unset, .unset, .unset] [(.int c1)])) t → Steps p.tables e below (s₁.setTop (entryFrame m #[(.long q1), (.int p2), (.int p3s), (.int p4), (.int p5)] maxLocals)) t := fun t kk => pre145 t (by
      by_cases hc146 : ld = (224 : Int32)
      · refine XS.icmpNo X140.here hx rfl (hb hby at_163) rfl (teq hc146).2 ?_
        show Steps p.tables e below (T140.setTop (mkF m 166 #[.val (.long q1), .second, .val (.int p2), .val (.int p3s), .val (.int p4), .val (.int p5), .val (.ref b101), .val (.int be), .val (.ref b106), .val (.ref b131), .val (.int ld), .val (.int nn), .val (.int jj), .unset, .unset, .unset, .unset] [])) _
        refine XS.sipush X140.here hx rfl (hb hby at_166) ?_
        show Steps p.tables e below (T140.setTop (mkF m 169 #[.val (.long q1), .second, .val (.int p2), .val (.int p3s), .val (.int p4), .val (.int p5), .val (.ref b101), .val (.int be), .val (.ref b106), .val (.ref b131), .val (.int ld), .val (.int nn), .val (.int jj), .unset, .unset, .unset, .unset] [(.int (160 : Int32))])) _
        refine XS.goto X140.here hx rfl (pc0 := 169) (pc' := 189) rfl (hb hby at_169) (by decide) (by decide) ?_
        show Steps p.tables e below (T140.setTop (mkF m 189 #[.val (.long q1), .second, .val (.int p2), .val (.int p3s), .val (.int p4), .val (.int p5), .val (.ref b101), .val (.int be), .val (.ref b106), .val (.ref b131), .val (.int ld), .val (.int nn), .val (.int jj), .unset, .unset, .unset, .unset] [(.int (160 : Int32))])) _
        rw [show c1 = (160 : Int32) from by rw [h_c1, if_pos hc146]] at kk
        exact kk
      · refine XS.icmpYes X140.here hx rfl (pc0 := 163) (pc' := 172) rfl (hb hby at_163) rfl (feq hc146).2 (by decide) (by decide) ?_
        show Steps p.tables e below (T140.setTop (mkF m 172 #[.val (.long q1), .second, .val (.int p2), .val (.int p3s), .val (.int p4), .val (.int p5), .val (.ref b101), .val (.int be), .val (.ref b106), .val (.ref b131), .val (.int ld), .val (.int nn), .val (.int jj), .unset, .unset, .unset, .unset] [])) _
        refine XS.iload X140.here hx rfl (hb hby at_172) rfl ?_
        show Steps p.tables e below (T140.setTop (mkF m 174 #[.val (.long q1), .second, .val (.int p2), .val (.int p3s), .val (.int p4), .val (.int p5), .val (.ref b101), .val (.int be), .val (.ref b106), .val (.ref b131), .val (.int ld), .val (.int nn), .val (.int jj), .unset, .unset, .unset, .unset] [(.int ld)])) _
        refine XS.sipush X140.here hx rfl (hb hby at_174) ?_
        show Steps p.tables e below (T140.setTop (mkF m 177 #[.val (.long q1), .second, .val (.int p2), .val (.int p3s), .val (.int p4), .val (.int p5), .val (.ref b101), .val (.int be), .val (.ref b106), .val (.ref b131), .val (.int ld), .val (.int nn), .val (.int jj), .unset, .unset, .unset, .unset] [(.int (240 : Int32)), (.int ld)])) _
        by_cases hc147 : ld = (240 : Int32)
        · refine XS.icmpNo X140.here hx rfl (hb hby at_177) rfl (teq hc147).2 ?_
          show Steps p.tables e below (T140.setTop (mkF m 180 #[.val (.long q1), .second, .val (.int p2), .val (.int p3s), .val (.int p4), .val (.int p5), .val (.ref b101), .val (.int be), .val (.ref b106), .val (.ref b131), .val (.int ld), .val (.int nn), .val (.int jj), .unset, .unset, .unset, .unset] [])) _
          refine XS.sipush X140.here hx rfl (hb hby at_180) ?_
          show Steps p.tables e below (T140.setTop (mkF m 183 #[.val (.long q1), .second, .val (.int p2), .val (.int p3s), .val (.int p4), .val (.int p5), .val (.ref b101), .val (.int be), .val (.ref b106), .val (.ref b131), .val (.int ld), .val (.int nn), .val (.int jj), .unset, .unset, .unset, .unset] [(.int (144 : Int32))])) _
          refine XS.goto X140.here hx rfl (pc0 := 183) (pc' := 189) rfl (hb hby at_183) (by decide) (by decide) ?_
          show Steps p.tables e below (T140.setTop (mkF m 189 #[.val (.long q1), .second, .val (.int p2), .val (.int p3s), .val (.int p4), .val (.int p5), .val (.ref b101), .val (.int be), .val (.ref b106), .val (.ref b131), .val (.int ld), .val (.int nn), .val (.int jj), .unset, .unset, .unset, .unset] [(.int (144 : Int32))])) _
          rw [show c1 = (144 : Int32) from by rw [h_c1, if_neg hc146, if_pos hc147]] at kk
          exact kk
        · refine XS.icmpYes X140.here hx rfl (pc0 := 177) (pc' := 186) rfl (hb hby at_177) rfl (feq hc147).2 (by decide) (by decide) ?_
          show Steps p.tables e below (T140.setTop (mkF m 186 #[.val (.long q1), .second, .val (.int p2), .val (.int p3s), .val (.int p4), .val (.int p5), .val (.ref b101), .val (.int be), .val (.ref b106), .val (.ref b131), .val (.int ld), .val (.int nn), .val (.int jj), .unset, .unset, .unset, .unset] [])) _
          refine XS.sipush X140.here hx rfl (hb hby at_186) ?_
          show Steps p.tables e below (T140.setTop (mkF m 189 #[.val (.long q1), .second, .val (.int p2), .val (.int p3s), .val (.int p4), .val (.int p5), .val (.ref b101), .val (.int be), .val (.ref b106), .val (.ref b131), .val (.int ld), .val (.int nn), .val (.int jj), .unset, .unset, .unset, .unset] [(.int (128 : Int32))])) _
          rw [show c1 = (128 : Int32) from by rw [h_c1, if_neg hc146, if_neg hc147]] at kk
          exact kk)
  obtain ⟨T149, h149, k149, X149, e149, E149, A149, st149⟩ := newP X140 hx hZ (hw _ (List.mem_of_getElem? (i := 9) rfl)) e140 (g := (mkF m 193 #[.val (.long q1), .second, .val (.int p2), .val (.int p3s), .val (.int p4), .val (.int p5), .val (.ref b101), .val (.int be), .val (.ref b106), .val (.ref b131), .val (.int ld), .val (.int nn), .val (.int jj), .val (.int c1), .unset, .unset, .unset] [(.int (7 : Int32))])) rfl (hb hby at_193) rfl (by decide) (cap := 7) (by decide) (by decide) (by decide) (by decide)
  obtain ⟨b149, g149⟩ : ∃ z, z = T139.heap.size := ⟨_, rfl⟩
  rw [← g149] at A149 st149
  have g_b149 : n0 ≤ b149 := Nat.le_trans (own_szO O139) (Nat.le_of_eq g149.symm)
  have ne_b101_b149 : b101 ≠ b149 := Nat.ne_of_lt (Nat.lt_of_lt_of_le Ek139.lt (Nat.le_of_eq g149.symm))
  have f150 := ((f132.ext E131).keep Kq139 (ninS (Ne.symm ne_b101_b2_102) nin0))
  have ne_b2_102_b149 : b2_102 ≠ b149 := Nat.ne_of_lt (Nat.lt_of_lt_of_le f150.lt (Nat.le_of_eq g149.symm))
  have f151 := ((f133.ext E131).keep Kq139 (ninS (Ne.symm ne_b101_b106) nin0))
  have ne_b106_b149 : b106 ≠ b149 := Nat.ne_of_lt (Nat.lt_of_lt_of_le f151.lt (Nat.le_of_eq g149.symm))
  have f152 := (V131.keep Kq139 (ninS (Ne.symm ne_b101_b131) nin0))
  have ne_b131_b149 : b131 ≠ b149 := Nat.ne_of_lt (Nat.lt_of_lt_of_le f152.lt (Nat.le_of_eq g149.symm))
  have O149 := O139.ext E149
  have V149 : Arv Z h149 b149 k149 .byte (7 : Int32) [(.int (0 : Int32)), (.int (0 : Int32)), (.int (0 : Int32)), (.int (0 : Int32)), (.int (0 : Int32)), (.int (0 : Int32)), (.int (0 : Int32))] (.int (0 : Int32)) := (Arv.new A149 (by decide)).pad (pad_rep [] (.int (0 : Int32)) 7)
  obtain ⟨cl153, Ar153, q153, S153, Ne153, H153, G153⟩ := id V149
  have hin153 : ¬ ((0 : Int32) < 0 ∨ cl153.slots.size ≤ ((0 : Int32)).toNatClampNeg) := inb_of S153 ⟨by decide, by decide⟩
  obtain ⟨T154, h154, X154, e154, W154, st154⟩ := stB X149 hx hZ e149 Ar153 (j := (0 : Int32)) hin153 (g := (mkF m 199 #[.val (.long q1), .second, .val (.int p2), .val (.int p3s), .val (.int p4), .val (.int p5), .val (.ref b101), .val (.int be), .val (.ref b106), .val (.ref b131), .val (.int ld), .val (.int nn), .val (.int jj), .val (.int c1), .unset, .unset, .unset] [(.int (60 : Int32)), (.int (0 : Int32)), (.ref b149), (.ref b149)])) rfl rfl (hb hby at_199)
  have V154 : Arv Z h154 b149 k149 .byte (7 : Int32) [(.int (nar .byte (60 : Int32))), (.int (0 : Int32)), (.int (0 : Int32)), (.int (0 : Int32)), (.int (0 : Int32)), (.int (0 : Int32)), (.int (0 : Int32))] (.int (0 : Int32)) := Arv.set Ar153 q153 S153 Ne153 H153 G153 (fits_nar_byte _) W154 0 rfl (Nat.le_of_ble_eq_true rfl)
  rw [show (nar .byte (60 : Int32)) = (60 : Int32) from by decide] at V154
  have N154 := Fr.snoc X154 N140 g_b149
  have O154 := O149.wr W154 g_b149
  obtain ⟨cl155, Ar155, q155, S155, Ne155, H155, G155⟩ := id V154
  have hin155 : ¬ ((1 : Int32) < 0 ∨ cl155.slots.size ≤ ((1 : Int32)).toNatClampNeg) := inb_of S155 ⟨by decide, by decide⟩
  obtain ⟨T156, h156, X156, e156, W156, st156⟩ := stB X154 hx hZ e154 Ar155 (j := (1 : Int32)) hin155 (g := (mkF m 204 #[.val (.long q1), .second, .val (.int p2), .val (.int p3s), .val (.int p4), .val (.int p5), .val (.ref b101), .val (.int be), .val (.ref b106), .val (.ref b131), .val (.int ld), .val (.int nn), .val (.int jj), .val (.int c1), .unset, .unset, .unset] [(.int (63 : Int32)), (.int (1 : Int32)), (.ref b149), (.ref b149)])) rfl rfl (hb hby at_204)
  have V156 : Arv Z h156 b149 k149 .byte (7 : Int32) [(.int (60 : Int32)), (.int (nar .byte (63 : Int32))), (.int (0 : Int32)), (.int (0 : Int32)), (.int (0 : Int32)), (.int (0 : Int32)), (.int (0 : Int32))] (.int (0 : Int32)) := Arv.set Ar155 q155 S155 Ne155 H155 G155 (fits_nar_byte _) W156 1 rfl (Nat.le_of_ble_eq_true rfl)
  rw [show (nar .byte (63 : Int32)) = (63 : Int32) from by decide] at V156
  have N156 := Fr.snoc X156 N154 g_b149
  have O156 := O154.wr W156 g_b149
  obtain ⟨cl157, Ar157, q157, S157, Ne157, H157, G157⟩ := id V156
  have hin157 : ¬ ((2 : Int32) < 0 ∨ cl157.slots.size ≤ ((2 : Int32)).toNatClampNeg) := inb_of S157 ⟨by decide, by decide⟩
  obtain ⟨T158, h158, X158, e158, W158, st158⟩ := stB X156 hx hZ e156 Ar157 (j := (2 : Int32)) hin157 (g := (mkF m 209 #[.val (.long q1), .second, .val (.int p2), .val (.int p3s), .val (.int p4), .val (.int p5), .val (.ref b101), .val (.int be), .val (.ref b106), .val (.ref b131), .val (.int ld), .val (.int nn), .val (.int jj), .val (.int c1), .unset, .unset, .unset] [(.int (120 : Int32)), (.int (2 : Int32)), (.ref b149), (.ref b149)])) rfl rfl (hb hby at_209)
  have V158 : Arv Z h158 b149 k149 .byte (7 : Int32) [(.int (60 : Int32)), (.int (63 : Int32)), (.int (nar .byte (120 : Int32))), (.int (0 : Int32)), (.int (0 : Int32)), (.int (0 : Int32)), (.int (0 : Int32))] (.int (0 : Int32)) := Arv.set Ar157 q157 S157 Ne157 H157 G157 (fits_nar_byte _) W158 2 rfl (Nat.le_of_ble_eq_true rfl)
  rw [show (nar .byte (120 : Int32)) = (120 : Int32) from by decide] at V158
  have N158 := Fr.snoc X158 N156 g_b149
  have O158 := O156.wr W158 g_b149
  obtain ⟨cl159, Ar159, q159, S159, Ne159, H159, G159⟩ := id V158
  have hin159 : ¬ ((3 : Int32) < 0 ∨ cl159.slots.size ≤ ((3 : Int32)).toNatClampNeg) := inb_of S159 ⟨by decide, by decide⟩
  obtain ⟨T160, h160, X160, e160, W160, st160⟩ := stB X158 hx hZ e158 Ar159 (j := (3 : Int32)) hin159 (g := (mkF m 214 #[.val (.long q1), .second, .val (.int p2), .val (.int p3s), .val (.int p4), .val (.int p5), .val (.ref b101), .val (.int be), .val (.ref b106), .val (.ref b131), .val (.int ld), .val (.int nn), .val (.int jj), .val (.int c1), .unset, .unset, .unset] [(.int (109 : Int32)), (.int (3 : Int32)), (.ref b149), (.ref b149)])) rfl rfl (hb hby at_214)
  have V160 : Arv Z h160 b149 k149 .byte (7 : Int32) [(.int (60 : Int32)), (.int (63 : Int32)), (.int (120 : Int32)), (.int (nar .byte (109 : Int32))), (.int (0 : Int32)), (.int (0 : Int32)), (.int (0 : Int32))] (.int (0 : Int32)) := Arv.set Ar159 q159 S159 Ne159 H159 G159 (fits_nar_byte _) W160 3 rfl (Nat.le_of_ble_eq_true rfl)
  rw [show (nar .byte (109 : Int32)) = (109 : Int32) from by decide] at V160
  have N160 := Fr.snoc X160 N158 g_b149
  have O160 := O158.wr W160 g_b149
  obtain ⟨cl161, Ar161, q161, S161, Ne161, H161, G161⟩ := id V160
  have hin161 : ¬ ((4 : Int32) < 0 ∨ cl161.slots.size ≤ ((4 : Int32)).toNatClampNeg) := inb_of S161 ⟨by decide, by decide⟩
  obtain ⟨T162, h162, X162, e162, W162, st162⟩ := stB X160 hx hZ e160 Ar161 (j := (4 : Int32)) hin161 (g := (mkF m 220 #[.val (.long q1), .second, .val (.int p2), .val (.int p3s), .val (.int p4), .val (.int p5), .val (.ref b101), .val (.int be), .val (.ref b106), .val (.ref b131), .val (.int ld), .val (.int nn), .val (.int jj), .val (.int c1), .unset, .unset, .unset] [(.int (ld.toInt8.toInt32)), (.int (4 : Int32)), (.ref b149), (.ref b149)])) rfl rfl (hb hby at_220)
  have V162 : Arv Z h162 b149 k149 .byte (7 : Int32) [(.int (60 : Int32)), (.int (63 : Int32)), (.int (120 : Int32)), (.int (109 : Int32)), (.int (nar .byte (ld.toInt8.toInt32))), (.int (0 : Int32)), (.int (0 : Int32))] (.int (0 : Int32)) := Arv.set Ar161 q161 S161 Ne161 H161 G161 (fits_nar_byte _) W162 4 rfl (Nat.le_of_ble_eq_true rfl)
  have N162 := Fr.snoc X162 N160 g_b149
  have O162 := O160.wr W162 g_b149
  obtain ⟨cl163, Ar163, q163, S163, Ne163, H163, G163⟩ := id V162
  have hin163 : ¬ ((5 : Int32) < 0 ∨ cl163.slots.size ≤ ((5 : Int32)).toNatClampNeg) := inb_of S163 ⟨by decide, by decide⟩
  obtain ⟨T164, h164, X164, e164, W164, st164⟩ := stB X162 hx hZ e162 Ar163 (j := (5 : Int32)) hin163 (g := (mkF m 226 #[.val (.long q1), .second, .val (.int p2), .val (.int p3s), .val (.int p4), .val (.int p5), .val (.ref b101), .val (.int be), .val (.ref b106), .val (.ref b131), .val (.int ld), .val (.int nn), .val (.int jj), .val (.int c1), .unset, .unset, .unset] [(.int (c1.toInt8.toInt32)), (.int (5 : Int32)), (.ref b149), (.ref b149)])) rfl rfl (hb hby at_226)
  have V164 : Arv Z h164 b149 k149 .byte (7 : Int32) [(.int (60 : Int32)), (.int (63 : Int32)), (.int (120 : Int32)), (.int (109 : Int32)), (.int (nar .byte (ld.toInt8.toInt32))), (.int (nar .byte (c1.toInt8.toInt32))), (.int (0 : Int32))] (.int (0 : Int32)) := Arv.set Ar163 q163 S163 Ne163 H163 G163 (fits_nar_byte _) W164 5 rfl (Nat.le_of_ble_eq_true rfl)
  have N164 := Fr.snoc X164 N162 g_b149
  have O164 := O162.wr W164 g_b149
  obtain ⟨cl165, Ar165, q165, S165, Ne165, H165, G165⟩ := id V164
  have hin165 : ¬ ((6 : Int32) < 0 ∨ cl165.slots.size ≤ ((6 : Int32)).toNatClampNeg) := inb_of S165 ⟨by decide, by decide⟩
  obtain ⟨T166, h166, X166, e166, W166, st166⟩ := stB X164 hx hZ e164 Ar165 (j := (6 : Int32)) hin165 (g := (mkF m 232 #[.val (.long q1), .second, .val (.int p2), .val (.int p3s), .val (.int p4), .val (.int p5), .val (.ref b101), .val (.int be), .val (.ref b106), .val (.ref b131), .val (.int ld), .val (.int nn), .val (.int jj), .val (.int c1), .unset, .unset, .unset] [(.int (-128 : Int32)), (.int (6 : Int32)), (.ref b149), (.ref b149)])) rfl rfl (hb hby at_232)
  have V166 : Arv Z h166 b149 k149 .byte (7 : Int32) [(.int (60 : Int32)), (.int (63 : Int32)), (.int (120 : Int32)), (.int (109 : Int32)), (.int (nar .byte (ld.toInt8.toInt32))), (.int (nar .byte (c1.toInt8.toInt32))), (.int (nar .byte (-128 : Int32)))] (.int (0 : Int32)) := Arv.set Ar165 q165 S165 Ne165 H165 G165 (fits_nar_byte _) W166 6 rfl (Nat.le_of_ble_eq_true rfl)
  rw [show (nar .byte (-128 : Int32)) = (-128 : Int32) from by decide] at V166
  have N166 := Fr.snoc X166 N164 g_b149
  have O166 := O164.wr W166 g_b149
  obtain ⟨T167, h167, X167, e167, E167, A167, D167, -, st167⟩ := newO X166 hx hZ hown (hw _ (List.mem_of_getElem? (i := 0) rfl)) (hw _ (List.mem_of_getElem? (i := 1) rfl)) (hw _ (List.mem_of_getElem? (i := 2) rfl)) e166 (g := (mkF m 235 #[.val (.long q1), .second, .val (.int p2), .val (.int p3s), .val (.int p4), .val (.int p5), .val (.ref b101), .val (.int be), .val (.ref b106), .val (.ref b131), .val (.int ld), .val (.int nn), .val (.int jj), .val (.int c1), .val (.ref b149), .unset, .unset] [])) rfl (hb hby at_235) (by decide) (by decide)
  obtain ⟨b167, g167⟩ : ∃ z, z = h166.size := ⟨_, rfl⟩
  rw [← g167] at A167 D167 st167
  have g_b167 : n0 ≤ b167 := Nat.le_trans (own_szO O166) (Nat.le_of_eq g167.symm)
  have f168 := ((((((((Ek139.ext E149).wr W154).wr W156).wr W158).wr W160).wr W162).wr W164).wr W166)
  have ne_b101_b167 : b101 ≠ b167 := Nat.ne_of_lt (Nat.lt_of_lt_of_le f168.lt (Nat.le_of_eq g167.symm))
  have f169 := ((((((((f150.ext E149).other W154 ne_b2_102_b149).other W156 ne_b2_102_b149).other W158 ne_b2_102_b149).other W160 ne_b2_102_b149).other W162 ne_b2_102_b149).other W164 ne_b2_102_b149).other W166 ne_b2_102_b149)
  have ne_b2_102_b167 : b2_102 ≠ b167 := Nat.ne_of_lt (Nat.lt_of_lt_of_le f169.lt (Nat.le_of_eq g167.symm))
  have f170 := ((((((((f151.ext E149).other W154 ne_b106_b149).other W156 ne_b106_b149).other W158 ne_b106_b149).other W160 ne_b106_b149).other W162 ne_b106_b149).other W164 ne_b106_b149).other W166 ne_b106_b149)
  have ne_b106_b167 : b106 ≠ b167 := Nat.ne_of_lt (Nat.lt_of_lt_of_le f170.lt (Nat.le_of_eq g167.symm))
  have f171 := ((((((((f152.ext E149).other W154 ne_b131_b149).other W156 ne_b131_b149).other W158 ne_b131_b149).other W160 ne_b131_b149).other W162 ne_b131_b149).other W164 ne_b131_b149).other W166 ne_b131_b149)
  have ne_b131_b167 : b131 ≠ b167 := Nat.ne_of_lt (Nat.lt_of_lt_of_le f171.lt (Nat.le_of_eq g167.symm))
  have ne_b149_b167 : b149 ≠ b167 := Nat.ne_of_lt (Nat.lt_of_lt_of_le V166.lt (Nat.le_of_eq g167.symm))
  have O167 := O166.ext E167
  have F167_first : Fld Z h167 b167 "com/example/dewey/dewey/EncodingCheck" "first" "[B" .null := D167 (Or.inr (hw _ (List.mem_of_getElem? (i := 11) rfl))) (ty := (.array .byte)) (by decide)
  have F167_rule : Fld Z h167 b167 "com/example/dewey/dewey/EncodingCheck" "rule" "Lcom/example/dewey/dewey/EncodingCheck$Rule;" .null := D167 (Or.inl (hw _ (List.mem_of_getElem? (i := 16) rfl))) (ty := (.object "com/example/dewey/dewey/EncodingCheck$Rule")) (by decide)
  have F167_low : Fld Z h167 b167 "com/example/dewey/dewey/EncodingCheck" "low" "I" (.int (0 : Int32)) := D167 (Or.inl (hw _ (List.mem_of_getElem? (i := 18) rfl))) (ty := .int) (by decide)
  have F167_high : Fld Z h167 b167 "com/example/dewey/dewey/EncodingCheck" "high" "I" (.int (0 : Int32)) := D167 (Or.inl (hw _ (List.mem_of_getElem? (i := 20) rfl))) (ty := .int) (by decide)
  have F167_open : Fld Z h167 b167 "com/example/dewey/dewey/EncodingCheck" "open" "[B" .null := D167 (Or.inr (hw _ (List.mem_of_getElem? (i := 22) rfl))) (ty := (.array .byte)) (by decide)
  have F167_firstCount : Fld Z h167 b167 "com/example/dewey/dewey/EncodingCheck" "firstCount" "I" (.int (0 : Int32)) := D167 (Or.inl (hw _ (List.mem_of_getElem? (i := 29) rfl))) (ty := .int) (by decide)
  have F167_taken : Fld Z h167 b167 "com/example/dewey/dewey/EncodingCheck" "taken" "J" (.long (0 : Int64)) := D167 (Or.inl (hw _ (List.mem_of_getElem? (i := 48) rfl))) (ty := .long) (by decide)
  have F167_needed : Fld Z h167 b167 "com/example/dewey/dewey/EncodingCheck" "needed" "I" (.int (0 : Int32)) := D167 (Or.inl (hw _ (List.mem_of_getElem? (i := 55) rfl))) (ty := .int) (by decide)
  have F167_openCount : Fld Z h167 b167 "com/example/dewey/dewey/EncodingCheck" "openCount" "I" (.int (0 : Int32)) := D167 (Or.inl (hw _ (List.mem_of_getElem? (i := 57) rfl))) (ty := .int) (by decide)
  have F167_start : Fld Z h167 b167 "com/example/dewey/dewey/EncodingCheck" "start" "J" (.long (0 : Int64)) := D167 (Or.inl (hw _ (List.mem_of_getElem? (i := 70) rfl))) (ty := .long) (by decide)
  obtain ⟨_, _, ⟨T172, L172, k172, n172⟩, -, X172, ⟨Lc172, hQ172, l172, y172, z172⟩, st172⟩ := X167.specialBack hx (y := (⟨"com/example/dewey/dewey/EncodingCheck", "<init>", "()V"⟩ : MethodName)) rfl hown (mvT hZ (hw _ (List.mem_of_getElem? (i := 3) rfl))) (mvT hZ (hw _ (List.mem_of_getElem? (i := 4) rfl))) (mvT hZ (hw _ (List.mem_of_getElem? (i := 5) rfl))) (by decide) (backOf (W := 1) (rm_ini l Z a0 hw [] b167 rU r16 r8 rA h167 n0 O167 SrU Sr16 Sr8 SrA n_rU_r16 n_rU_r8 n_rU_rA n_r16_r8 n_r16_rA n_r8_rA A167 F167_first F167_rule F167_low F167_high F167_open F167_firstCount F167_taken F167_needed F167_openCount F167_start g_b167) hZ (hw _ (List.mem_of_getElem? (i := 5) rfl)) (hw _ (List.mem_of_getElem? (i := 2) rfl)) (by decide) (by decide)) (g := (mkF m 239 #[.val (.long q1), .second, .val (.int p2), .val (.int p3s), .val (.int p4), .val (.int p5), .val (.ref b101), .val (.int be), .val (.ref b106), .val (.ref b131), .val (.int ld), .val (.int nn), .val (.int jj), .val (.int c1), .val (.ref b149), .unset, .unset] [(.ref b167), (.ref b167)])) rfl (by rw [hml]; rfl) (Steps.refl _) (a := b167) (argsL := []) (rest := [(.ref b167)]) (lenOf pd_2 rfl) rfl (by show 2 * 0 + _ ≤ _; exact Nat.le_of_eq rfl) (hb hby at_239) (fun _ _ => ⟨rfl, e167, (by decide : 7 + 2 ≤ _), (by decide : 40 + 8 ≤ _)⟩)
  dsimp only [Pt.U, Pt.locs, Pt.cells, Pt.slots] at X172 l172 y172 z172 st172 hQ172
  subst l172 y172 z172
  obtain ⟨b1_172, b2_172, k1_172, k2_172, rfl, Nq172, Kq172, Ek172, Fk_first_172, Fk_rule_172, Fk_low_172, Fk_high_172, Fk_open_172, Fk_firstCount_172, Fk_taken_172, Fk_needed_172, Fk_openCount_172, Fk_start_172, Va172, Vb172, la172, lb172, nb172⟩ := hQ172
  have N172 := Fr.app N166 Nq172
  have g_b1_172 : n0 ≤ b1_172 := Nat.le_trans (own_szO O167) la172
  have f173 := (f168.ext E167)
  have ne_b101_b1_172 : b101 ≠ b1_172 := Nat.ne_of_lt (Nat.lt_of_lt_of_le f173.lt la172)
  have f174 := (f169.ext E167)
  have ne_b2_102_b1_172 : b2_102 ≠ b1_172 := Nat.ne_of_lt (Nat.lt_of_lt_of_le f174.lt la172)
  have f175 := (f170.ext E167)
  have ne_b106_b1_172 : b106 ≠ b1_172 := Nat.ne_of_lt (Nat.lt_of_lt_of_le f175.lt la172)
  have f176 := (f171.ext E167)
  have ne_b131_b1_172 : b131 ≠ b1_172 := Nat.ne_of_lt (Nat.lt_of_lt_of_le f176.lt la172)
  have f177 := (V166.ext E167)
  have ne_b149_b1_172 : b149 ≠ b1_172 := Nat.ne_of_lt (Nat.lt_of_lt_of_le f177.lt la172)
  have ne_b167_b1_172 : b167 ≠ b1_172 := Nat.ne_of_lt (Nat.lt_of_lt_of_le A167.lt la172)
  have g_b2_172 : n0 ≤ b2_172 := Nat.le_trans (own_szO O167) lb172
  have ne_b101_b2_172 : b101 ≠ b2_172 := Nat.ne_of_lt (Nat.lt_of_lt_of_le f173.lt lb172)
  have ne_b2_102_b2_172 : b2_102 ≠ b2_172 := Nat.ne_of_lt (Nat.lt_of_lt_of_le f174.lt lb172)
  have ne_b106_b2_172 : b106 ≠ b2_172 := Nat.ne_of_lt (Nat.lt_of_lt_of_le f175.lt lb172)
  have ne_b131_b2_172 : b131 ≠ b2_172 := Nat.ne_of_lt (Nat.lt_of_lt_of_le f176.lt lb172)
  have ne_b149_b2_172 : b149 ≠ b2_172 := Nat.ne_of_lt (Nat.lt_of_lt_of_le f177.lt lb172)
  have ne_b167_b2_172 : b167 ≠ b2_172 := Nat.ne_of_lt (Nat.lt_of_lt_of_le A167.lt lb172)
  have O172 := O167.keep Kq172 (allS g_b167 all0)
  obtain ⟨p3, h_p3⟩ : ∃ z : Int32, z = ((5 : Int32) + jj) := ⟨_, rfl⟩
  have hp3 := own_p3 h_nn h_jj h_p3
  have f178 := (f177.keep Kq172 (ninS ne_b149_b167 nin0))
  obtain ⟨cq179, kq179, q179a, q179b, q179c⟩ := isOf hZ rfl Ek172
  obtain ⟨_, _, ⟨T179, L179, k179, n179⟩, -, X179, ⟨Lc179, hQ179, l179, y179, z179⟩, st179⟩ := X172.virtualBack hx (y := (⟨"com/example/dewey/dewey/EncodingCheck", "take", "([BII)V"⟩ : MethodName)) (z := (⟨"com/example/dewey/dewey/EncodingCheck", "take", "([BII)V"⟩ : MethodName)) hown (mvT hZ (hw _ (List.mem_of_getElem? (i := 23) rfl))) (mvT hZ (hw _ (List.mem_of_getElem? (i := 24) rfl))) (notFace_of_selects (args := #[]) (mvT hZ (hw _ (List.mem_of_getElem? (i := 26) rfl)))) (mvT hZ (hw _ (List.mem_of_getElem? (i := 26) rfl))) (mvT hZ (hw _ (List.mem_of_getElem? (i := 25) rfl))) (by decide) (backOf (W := 0) (rm_tC l Z a0 hw [] b167 b149 k149 b2_172 k2_172 (nar .byte (ld.toInt8.toInt32)) (nar .byte (c1.toInt8.toInt32)) ld c1 (0 : Int64) ((.int (128 : Int32))) ((.int (191 : Int32))) ((.int (0 : Int32))) ((.long (0 : Int64))) p3 b1_172 k1_172 rU r16 r8 rA T172.heap n0 O172 SrU Sr16 Sr8 SrA n_rU_r16 n_rU_r8 n_rU_rA n_r16_r8 n_r16_rA n_r8_rA Ek172 Fk_needed_172 Fk_low_172 Fk_high_172 Fk_open_172 Fk_openCount_172 Fk_start_172 Fk_taken_172 Fk_rule_172 Fk_firstCount_172 Fk_first_172 f178 Vb172 Va172 g_b167 g_b1_172 g_b2_172 (Ne.symm ne_b149_b167) ne_b167_b2_172 ne_b149_b2_172 (own_b255 (own_ldb hld)) (own_b255 (own_c1b h_c1)) h_c1 hld hp3 ne_b167_b1_172 (Ne.symm ne_b149_b1_172) nb172) hZ (hw _ (List.mem_of_getElem? (i := 27) rfl)) (hw _ (List.mem_of_getElem? (i := 2) rfl)) (by decide) (by decide)) q179a q179c (g := (mkF m 253 #[.val (.long q1), .second, .val (.int p2), .val (.int p3s), .val (.int p4), .val (.int p5), .val (.ref b101), .val (.int be), .val (.ref b106), .val (.ref b131), .val (.int ld), .val (.int nn), .val (.int jj), .val (.int c1), .val (.ref b149), .val (.ref b167), .unset] [(.int p3), (.int (0 : Int32)), (.ref b149), (.ref b167)])) rfl (by rw [hml]; rfl) (Steps.refl _) (argsL := [(.ref b149), (.int (0 : Int32)), (.int p3)]) (rest := []) (lenOf pd_0 rfl) rfl (by show 2 * 0 + _ ≤ _; exact Nat.le_of_eq rfl) (hb hby at_253) (fun _ _ => ⟨rfl, rfl, (by decide : 9 + 0 ≤ _), (by decide : 48 + 0 ≤ _)⟩)
  dsimp only [Pt.U, Pt.locs, Pt.cells, Pt.slots] at X179 l179 y179 z179 st179 hQ179
  subst l179 y179 z179
  obtain ⟨u1_179, u2_179, t_179, rfl, Nq179, Kq179, Ek179, Fk_needed_179, Fk_openCount_179, Fk_taken_179, Fk_rule_179⟩ := hQ179
  have N179 := Fr.app N172 Nq179
  have O179 := O172.keep Kq179 (allS g_b167 (allS g_b1_172 (allS g_b2_172 all0)))
  obtain ⟨cq180, kq180, q180a, q180b, q180c⟩ := isOf hZ rfl Ek179
  obtain ⟨_, _, ⟨T180, L180, k180, n180⟩, -, X180, ⟨Lc180, hQ180, l180, y180, z180⟩, st180⟩ := X179.virtualBack hx (y := (⟨"com/example/dewey/dewey/EncodingCheck", "skip", "(J)V"⟩ : MethodName)) (z := (⟨"com/example/dewey/dewey/EncodingCheck", "skip", "(J)V"⟩ : MethodName)) hown (mvT hZ (hw _ (List.mem_of_getElem? (i := 49) rfl))) (mvT hZ (hw _ (List.mem_of_getElem? (i := 50) rfl))) (notFace_of_selects (args := #[]) (mvT hZ (hw _ (List.mem_of_getElem? (i := 52) rfl)))) (mvT hZ (hw _ (List.mem_of_getElem? (i := 52) rfl))) (mvT hZ (hw _ (List.mem_of_getElem? (i := 51) rfl))) (by decide) (backOf (W := 0) (rm_sk l Z a0 hw [] b167 q1 t_179 (u1_179) (u2_179) r8 rU r16 r8 rA T179.heap n0 O179 SrU Sr16 Sr8 SrA n_rU_r16 n_rU_r8 n_rU_rA n_r16_r8 n_r16_rA n_r8_rA Ek179 Fk_taken_179 Fk_rule_179 Fk_needed_179 Fk_openCount_179 g_b167) hZ (hw _ (List.mem_of_getElem? (i := 53) rfl)) (hw _ (List.mem_of_getElem? (i := 2) rfl)) (by decide) (by decide)) q180a q180c (g := (mkF m 259 #[.val (.long q1), .second, .val (.int p2), .val (.int p3s), .val (.int p4), .val (.int p5), .val (.ref b101), .val (.int be), .val (.ref b106), .val (.ref b131), .val (.int ld), .val (.int nn), .val (.int jj), .val (.int c1), .val (.ref b149), .val (.ref b167), .unset] [(.long q1), (.ref b167)])) rfl (by rw [hml]; rfl) (Steps.refl _) (argsL := [(.long q1)]) (rest := []) (lenOf pd_3 rfl) rfl (by show 2 * 0 + _ ≤ _; exact Nat.le_of_eq rfl) (hb hby at_259) (fun _ _ => ⟨rfl, rfl, (by decide : 9 + 0 ≤ _), (by decide : 48 + 0 ≤ _)⟩)
  dsimp only [Pt.U, Pt.locs, Pt.cells, Pt.slots] at X180 l180 y180 z180 st180 hQ180
  subst l180 y180 z180
  obtain ⟨rfl, Nq180, Kq180, Ek180, Fk_taken_180, Fk_needed_180, Fk_openCount_180, Fk_rule_180⟩ := hQ180
  have N180 := Fr.app N179 Nq180
  have O180 := O179.keep Kq180 (allS g_b167 all0)
  obtain ⟨T181, h181, k181, X181, e181, E181, A181, st181⟩ := newP X180 hx hZ (hw _ (List.mem_of_getElem? (i := 9) rfl)) rfl (g := (mkF m 263 #[.val (.long q1), .second, .val (.int p2), .val (.int p3s), .val (.int p4), .val (.int p5), .val (.ref b101), .val (.int be), .val (.ref b106), .val (.ref b131), .val (.int ld), .val (.int nn), .val (.int jj), .val (.int c1), .val (.ref b149), .val (.ref b167), .unset] [(.int (1 : Int32))])) rfl (hb hby at_263) rfl (by decide) (cap := 1) (by decide) (by decide) (by decide) (by decide)
  obtain ⟨b181, g181⟩ : ∃ z, z = T180.heap.size := ⟨_, rfl⟩
  rw [← g181] at A181 st181
  have g_b181 : n0 ≤ b181 := Nat.le_trans (own_szO O180) (Nat.le_of_eq g181.symm)
  have f182 := (((f173.keep Kq172).keep Kq179).keep Kq180)
  have ne_b101_b181 : b101 ≠ b181 := Nat.ne_of_lt (Nat.lt_of_lt_of_le f182.lt (Nat.le_of_eq g181.symm))
  have f183 := (((f174.keep Kq172 (ninS ne_b2_102_b167 nin0)).keep Kq179 (ninS ne_b2_102_b167 (ninS ne_b2_102_b1_172 (ninS ne_b2_102_b2_172 nin0)))).keep Kq180 (ninS ne_b2_102_b167 nin0))
  have ne_b2_102_b181 : b2_102 ≠ b181 := Nat.ne_of_lt (Nat.lt_of_lt_of_le f183.lt (Nat.le_of_eq g181.symm))
  have f184 := (((f175.keep Kq172 (ninS ne_b106_b167 nin0)).keep Kq179 (ninS ne_b106_b167 (ninS ne_b106_b1_172 (ninS ne_b106_b2_172 nin0)))).keep Kq180 (ninS ne_b106_b167 nin0))
  have ne_b106_b181 : b106 ≠ b181 := Nat.ne_of_lt (Nat.lt_of_lt_of_le f184.lt (Nat.le_of_eq g181.symm))
  have f185 := (((f176.keep Kq172 (ninS ne_b131_b167 nin0)).keep Kq179 (ninS ne_b131_b167 (ninS ne_b131_b1_172 (ninS ne_b131_b2_172 nin0)))).keep Kq180 (ninS ne_b131_b167 nin0))
  have ne_b131_b181 : b131 ≠ b181 := Nat.ne_of_lt (Nat.lt_of_lt_of_le f185.lt (Nat.le_of_eq g181.symm))
  have f186 := ((f178.keep Kq179 (ninS ne_b149_b167 (ninS ne_b149_b1_172 (ninS ne_b149_b2_172 nin0)))).keep Kq180 (ninS ne_b149_b167 nin0))
  have ne_b149_b181 : b149 ≠ b181 := Nat.ne_of_lt (Nat.lt_of_lt_of_le f186.lt (Nat.le_of_eq g181.symm))
  have ne_b167_b181 : b167 ≠ b181 := Nat.ne_of_lt (Nat.lt_of_lt_of_le Ek180.lt (Nat.le_of_eq g181.symm))
  have O181 := O180.ext E181
  have V181 : Arv Z h181 b181 k181 .byte (1 : Int32) [(.int (0 : Int32))] (.int (0 : Int32)) := (Arv.new A181 (by decide)).pad (pad_rep [] (.int (0 : Int32)) 1)
  obtain ⟨cl187, Ar187, q187, S187, Ne187, H187, G187⟩ := id V181
  have hin187 : ¬ ((0 : Int32) < 0 ∨ cl187.slots.size ≤ ((0 : Int32)).toNatClampNeg) := inb_of S187 ⟨by decide, by decide⟩
  obtain ⟨T188, h188, X188, e188, W188, st188⟩ := stB X181 hx hZ e181 Ar187 (j := (0 : Int32)) hin187 (g := (mkF m 273 #[.val (.long q1), .second, .val (.int p2), .val (.int p3s), .val (.int p4), .val (.int p5), .val (.ref b101), .val (.int be), .val (.ref b106), .val (.ref b131), .val (.int ld), .val (.int nn), .val (.int jj), .val (.int c1), .val (.ref b149), .val (.ref b167), .unset] [(.int ((p5 &&& (127 : Int32)).toInt8.toInt32)), (.int (0 : Int32)), (.ref b181), (.ref b181)])) rfl rfl (hb hby at_273)
  have V188 : Arv Z h188 b181 k181 .byte (1 : Int32) [(.int (nar .byte ((p5 &&& (127 : Int32)).toInt8.toInt32)))] (.int (0 : Int32)) := Arv.set Ar187 q187 S187 Ne187 H187 G187 (fits_nar_byte _) W188 0 rfl (Nat.le_of_ble_eq_true rfl)
  have N188 := Fr.snoc X188 N180 g_b181
  have O188 := O181.wr W188 g_b181
  have f189 := ((Ek180.ext E181).wr W188)
  have f190 := ((Fk_needed_180.ext E181).other W188 (Or.inl ne_b167_b181))
  have f191 := ((Fk_taken_180.ext E181).other W188 (Or.inl ne_b167_b181))
  have f192 := ((Fk_rule_180.ext E181).other W188 (Or.inl ne_b167_b181))
  obtain ⟨cq193, kq193, q193a, q193b, q193c⟩ := isOf hZ e188 f189
  obtain ⟨_, _, ⟨T193, L193, k193, n193⟩, -, X193, ⟨Lc193, hQ193, l193, y193, z193⟩, st193⟩ := X188.virtualBack hx (y := (⟨"com/example/dewey/dewey/EncodingCheck", "take", "([BII)V"⟩ : MethodName)) (z := (⟨"com/example/dewey/dewey/EncodingCheck", "take", "([BII)V"⟩ : MethodName)) hown (mvT hZ (hw _ (List.mem_of_getElem? (i := 23) rfl))) (mvT hZ (hw _ (List.mem_of_getElem? (i := 24) rfl))) (notFace_of_selects (args := #[]) (mvT hZ (hw _ (List.mem_of_getElem? (i := 26) rfl)))) (mvT hZ (hw _ (List.mem_of_getElem? (i := 26) rfl))) (mvT hZ (hw _ (List.mem_of_getElem? (i := 25) rfl))) (by decide) (backOf (W := 0) (rm_tD l Z a0 hw [] b167 b181 k181 (nar .byte ((p5 &&& (127 : Int32)).toInt8.toInt32)) (t_179 + q1) rU r16 r8 rA h188 n0 O188 SrU Sr16 Sr8 SrA n_rU_r16 n_rU_r8 n_rU_rA n_r16_r8 n_r16_rA n_r8_rA f189 f190 f191 f192 V188 g_b167 (own_asc p5)) hZ (hw _ (List.mem_of_getElem? (i := 27) rfl)) (hw _ (List.mem_of_getElem? (i := 2) rfl)) (by decide) (by decide)) q193a q193c (g := (mkF m 282 #[.val (.long q1), .second, .val (.int p2), .val (.int p3s), .val (.int p4), .val (.int p5), .val (.ref b101), .val (.int be), .val (.ref b106), .val (.ref b131), .val (.int ld), .val (.int nn), .val (.int jj), .val (.int c1), .val (.ref b149), .val (.ref b167), .val (.ref b181)] [(.int (1 : Int32)), (.int (0 : Int32)), (.ref b181), (.ref b167)])) rfl (by rw [hml]; rfl) (Steps.refl _) (argsL := [(.ref b181), (.int (0 : Int32)), (.int (1 : Int32))]) (rest := []) (lenOf pd_0 rfl) rfl (by show 2 * 0 + _ ≤ _; exact Nat.le_of_eq rfl) (hb hby at_282) (fun _ _ => ⟨rfl, e188, (by decide : 10 + 0 ≤ _), (by decide : 49 + 0 ≤ _)⟩)
  dsimp only [Pt.U, Pt.locs, Pt.cells, Pt.slots] at X193 l193 y193 z193 st193 hQ193
  subst l193 y193 z193
  obtain ⟨rfl, Nq193, Kq193, Ek193, Fk_needed_193, Fk_rule_193⟩ := hQ193
  have N193 := Fr.app N188 Nq193
  have O193 := O188.keep Kq193 (allS g_b167 all0)
  obtain ⟨cq194, kq194, q194a, q194b, q194c⟩ := isOf hZ rfl Ek193
  obtain ⟨_, _, ⟨T194, L194, k194, n194⟩, -, X194, ⟨Lc194, hQ194, l194, y194, z194⟩, st194⟩ := X193.virtualBack hx (y := (⟨"com/example/dewey/dewey/EncodingCheck", "end", "()V"⟩ : MethodName)) (z := (⟨"com/example/dewey/dewey/EncodingCheck", "end", "()V"⟩ : MethodName)) hown (mvT hZ (hw _ (List.mem_of_getElem? (i := 58) rfl))) (mvT hZ (hw _ (List.mem_of_getElem? (i := 59) rfl))) (notFace_of_selects (args := #[]) (mvT hZ (hw _ (List.mem_of_getElem? (i := 61) rfl)))) (mvT hZ (hw _ (List.mem_of_getElem? (i := 61) rfl))) (mvT hZ (hw _ (List.mem_of_getElem? (i := 60) rfl))) (by decide) (backOf (W := 0) (rm_e8 l Z a0 hw [] b167 rU r16 r8 rA T193.heap n0 O193 SrU Sr16 Sr8 SrA n_rU_r16 n_rU_r8 n_rU_rA n_r16_r8 n_r16_rA n_r8_rA Ek193 Fk_rule_193 Fk_needed_193) hZ (hw _ (List.mem_of_getElem? (i := 62) rfl)) (hw _ (List.mem_of_getElem? (i := 2) rfl)) (by decide) (by decide)) q194a q194c (g := (mkF m 287 #[.val (.long q1), .second, .val (.int p2), .val (.int p3s), .val (.int p4), .val (.int p5), .val (.ref b101), .val (.int be), .val (.ref b106), .val (.ref b131), .val (.int ld), .val (.int nn), .val (.int jj), .val (.int c1), .val (.ref b149), .val (.ref b167), .val (.ref b181)] [(.ref b167)])) rfl (by rw [hml]; rfl) (Steps.refl _) (argsL := []) (rest := []) (lenOf pd_2 rfl) rfl (by show 2 * 0 + _ ≤ _; exact Nat.le_of_eq rfl) (hb hby at_287) (fun _ _ => ⟨rfl, rfl, (by decide : 10 + 0 ≤ _), (by decide : 49 + 0 ≤ _)⟩)
  dsimp only [Pt.U, Pt.locs, Pt.cells, Pt.slots] at X194 l194 y194 z194 st194 hQ194
  subst l194 y194 z194
  obtain ⟨rfl, Nq194, e194⟩ := hQ194
  have N194 := Fr.app N193 Nq194
  obtain ⟨fs, hr, hrun, hended, hW, hsame⟩ := X194.leave (v := some (.int (1 : Int32))) (fun h => by rw [Bd.returns] at h; cases h)
  refine ⟨_, _, pre148 _ ?_, hrun, hended, _, _, rfl, ?_, ⟨_, rfl⟩, hW, hsame.mono (by decide) (by decide)⟩
  · show Steps p.tables e below (T140.setTop (mkF m 189 #[.val (.long q1), .second, .val (.int p2), .val (.int p3s), .val (.int p4), .val (.int p5), .val (.ref b101), .val (.int be), .val (.ref b106), .val (.ref b131), .val (.int ld), .val (.int nn), .val (.int jj), .unset, .unset, .unset, .unset] [(.int c1)])) _
    refine XS.istore X140.here hx rfl (hb hby at_189) rfl (l' := #[.val (.long q1), .second, .val (.int p2), .val (.int p3s), .val (.int p4), .val (.int p5), .val (.ref b101), .val (.int be), .val (.ref b106), .val (.ref b131), .val (.int ld), .val (.int nn), .val (.int jj), .val (.int c1), .unset, .unset, .unset]) rfl ?_
    refine XS.bipush X140.here hx rfl (hb hby at_191) ?_
    show Steps p.tables e below (T140.setTop (mkF m 193 #[.val (.long q1), .second, .val (.int p2), .val (.int p3s), .val (.int p4), .val (.int p5), .val (.ref b101), .val (.int be), .val (.ref b106), .val (.ref b131), .val (.int ld), .val (.int nn), .val (.int jj), .val (.int c1), .unset, .unset, .unset] [(.int (7 : Int32))])) _
    refine st149 _ ?_
    show Steps p.tables e below (T149.setTop (mkF m 195 #[.val (.long q1), .second, .val (.int p2), .val (.int p3s), .val (.int p4), .val (.int p5), .val (.ref b101), .val (.int be), .val (.ref b106), .val (.ref b131), .val (.int ld), .val (.int nn), .val (.int jj), .val (.int c1), .unset, .unset, .unset] [(.ref b149)])) _
    refine XS.dup X149.here hx rfl (hb hby at_195) rfl rfl ?_
    refine XS.iconst X149.here hx rfl (hb hby at_196) ?_
    refine XS.bipush X149.here hx rfl (hb hby at_197) ?_
    show Steps p.tables e below (T149.setTop (mkF m 199 #[.val (.long q1), .second, .val (.int p2), .val (.int p3s), .val (.int p4), .val (.int p5), .val (.ref b101), .val (.int be), .val (.ref b106), .val (.ref b131), .val (.int ld), .val (.int nn), .val (.int jj), .val (.int c1), .unset, .unset, .unset] [(.int (60 : Int32)), (.int (0 : Int32)), (.ref b149), (.ref b149)])) _
    refine st154 _ ?_
    show Steps p.tables e below (T154.setTop (mkF m 200 #[.val (.long q1), .second, .val (.int p2), .val (.int p3s), .val (.int p4), .val (.int p5), .val (.ref b101), .val (.int be), .val (.ref b106), .val (.ref b131), .val (.int ld), .val (.int nn), .val (.int jj), .val (.int c1), .unset, .unset, .unset] [(.ref b149)])) _
    refine XS.dup X154.here hx rfl (hb hby at_200) rfl rfl ?_
    refine XS.iconst X154.here hx rfl (hb hby at_201) ?_
    refine XS.bipush X154.here hx rfl (hb hby at_202) ?_
    show Steps p.tables e below (T154.setTop (mkF m 204 #[.val (.long q1), .second, .val (.int p2), .val (.int p3s), .val (.int p4), .val (.int p5), .val (.ref b101), .val (.int be), .val (.ref b106), .val (.ref b131), .val (.int ld), .val (.int nn), .val (.int jj), .val (.int c1), .unset, .unset, .unset] [(.int (63 : Int32)), (.int (1 : Int32)), (.ref b149), (.ref b149)])) _
    refine st156 _ ?_
    show Steps p.tables e below (T156.setTop (mkF m 205 #[.val (.long q1), .second, .val (.int p2), .val (.int p3s), .val (.int p4), .val (.int p5), .val (.ref b101), .val (.int be), .val (.ref b106), .val (.ref b131), .val (.int ld), .val (.int nn), .val (.int jj), .val (.int c1), .unset, .unset, .unset] [(.ref b149)])) _
    refine XS.dup X156.here hx rfl (hb hby at_205) rfl rfl ?_
    refine XS.iconst X156.here hx rfl (hb hby at_206) ?_
    refine XS.bipush X156.here hx rfl (hb hby at_207) ?_
    show Steps p.tables e below (T156.setTop (mkF m 209 #[.val (.long q1), .second, .val (.int p2), .val (.int p3s), .val (.int p4), .val (.int p5), .val (.ref b101), .val (.int be), .val (.ref b106), .val (.ref b131), .val (.int ld), .val (.int nn), .val (.int jj), .val (.int c1), .unset, .unset, .unset] [(.int (120 : Int32)), (.int (2 : Int32)), (.ref b149), (.ref b149)])) _
    refine st158 _ ?_
    show Steps p.tables e below (T158.setTop (mkF m 210 #[.val (.long q1), .second, .val (.int p2), .val (.int p3s), .val (.int p4), .val (.int p5), .val (.ref b101), .val (.int be), .val (.ref b106), .val (.ref b131), .val (.int ld), .val (.int nn), .val (.int jj), .val (.int c1), .unset, .unset, .unset] [(.ref b149)])) _
    refine XS.dup X158.here hx rfl (hb hby at_210) rfl rfl ?_
    refine XS.iconst X158.here hx rfl (hb hby at_211) ?_
    refine XS.bipush X158.here hx rfl (hb hby at_212) ?_
    show Steps p.tables e below (T158.setTop (mkF m 214 #[.val (.long q1), .second, .val (.int p2), .val (.int p3s), .val (.int p4), .val (.int p5), .val (.ref b101), .val (.int be), .val (.ref b106), .val (.ref b131), .val (.int ld), .val (.int nn), .val (.int jj), .val (.int c1), .unset, .unset, .unset] [(.int (109 : Int32)), (.int (3 : Int32)), (.ref b149), (.ref b149)])) _
    refine st160 _ ?_
    show Steps p.tables e below (T160.setTop (mkF m 215 #[.val (.long q1), .second, .val (.int p2), .val (.int p3s), .val (.int p4), .val (.int p5), .val (.ref b101), .val (.int be), .val (.ref b106), .val (.ref b131), .val (.int ld), .val (.int nn), .val (.int jj), .val (.int c1), .unset, .unset, .unset] [(.ref b149)])) _
    refine XS.dup X160.here hx rfl (hb hby at_215) rfl rfl ?_
    refine XS.iconst X160.here hx rfl (hb hby at_216) ?_
    refine XS.iload X160.here hx rfl (hb hby at_217) rfl ?_
    refine XS.i2b X160.here hx rfl (hb hby at_219) rfl ?_
    show Steps p.tables e below (T160.setTop (mkF m 220 #[.val (.long q1), .second, .val (.int p2), .val (.int p3s), .val (.int p4), .val (.int p5), .val (.ref b101), .val (.int be), .val (.ref b106), .val (.ref b131), .val (.int ld), .val (.int nn), .val (.int jj), .val (.int c1), .unset, .unset, .unset] [(.int (ld.toInt8.toInt32)), (.int (4 : Int32)), (.ref b149), (.ref b149)])) _
    refine st162 _ ?_
    show Steps p.tables e below (T162.setTop (mkF m 221 #[.val (.long q1), .second, .val (.int p2), .val (.int p3s), .val (.int p4), .val (.int p5), .val (.ref b101), .val (.int be), .val (.ref b106), .val (.ref b131), .val (.int ld), .val (.int nn), .val (.int jj), .val (.int c1), .unset, .unset, .unset] [(.ref b149)])) _
    refine XS.dup X162.here hx rfl (hb hby at_221) rfl rfl ?_
    refine XS.iconst X162.here hx rfl (hb hby at_222) ?_
    refine XS.iload X162.here hx rfl (hb hby at_223) rfl ?_
    refine XS.i2b X162.here hx rfl (hb hby at_225) rfl ?_
    show Steps p.tables e below (T162.setTop (mkF m 226 #[.val (.long q1), .second, .val (.int p2), .val (.int p3s), .val (.int p4), .val (.int p5), .val (.ref b101), .val (.int be), .val (.ref b106), .val (.ref b131), .val (.int ld), .val (.int nn), .val (.int jj), .val (.int c1), .unset, .unset, .unset] [(.int (c1.toInt8.toInt32)), (.int (5 : Int32)), (.ref b149), (.ref b149)])) _
    refine st164 _ ?_
    show Steps p.tables e below (T164.setTop (mkF m 227 #[.val (.long q1), .second, .val (.int p2), .val (.int p3s), .val (.int p4), .val (.int p5), .val (.ref b101), .val (.int be), .val (.ref b106), .val (.ref b131), .val (.int ld), .val (.int nn), .val (.int jj), .val (.int c1), .unset, .unset, .unset] [(.ref b149)])) _
    refine XS.dup X164.here hx rfl (hb hby at_227) rfl rfl ?_
    refine XS.bipush X164.here hx rfl (hb hby at_228) ?_
    refine XS.bipush X164.here hx rfl (hb hby at_230) ?_
    show Steps p.tables e below (T164.setTop (mkF m 232 #[.val (.long q1), .second, .val (.int p2), .val (.int p3s), .val (.int p4), .val (.int p5), .val (.ref b101), .val (.int be), .val (.ref b106), .val (.ref b131), .val (.int ld), .val (.int nn), .val (.int jj), .val (.int c1), .unset, .unset, .unset] [(.int (-128 : Int32)), (.int (6 : Int32)), (.ref b149), (.ref b149)])) _
    refine st166 _ ?_
    show Steps p.tables e below (T166.setTop (mkF m 233 #[.val (.long q1), .second, .val (.int p2), .val (.int p3s), .val (.int p4), .val (.int p5), .val (.ref b101), .val (.int be), .val (.ref b106), .val (.ref b131), .val (.int ld), .val (.int nn), .val (.int jj), .val (.int c1), .unset, .unset, .unset] [(.ref b149)])) _
    refine XS.astore X166.here hx rfl (hb hby at_233) rfl rfl (l' := #[.val (.long q1), .second, .val (.int p2), .val (.int p3s), .val (.int p4), .val (.int p5), .val (.ref b101), .val (.int be), .val (.ref b106), .val (.ref b131), .val (.int ld), .val (.int nn), .val (.int jj), .val (.int c1), .val (.ref b149), .unset, .unset]) rfl ?_
    show Steps p.tables e below (T166.setTop (mkF m 235 #[.val (.long q1), .second, .val (.int p2), .val (.int p3s), .val (.int p4), .val (.int p5), .val (.ref b101), .val (.int be), .val (.ref b106), .val (.ref b131), .val (.int ld), .val (.int nn), .val (.int jj), .val (.int c1), .val (.ref b149), .unset, .unset] [])) _
    refine st167 _ ?_
    show Steps p.tables e below (T167.setTop (mkF m 238 #[.val (.long q1), .second, .val (.int p2), .val (.int p3s), .val (.int p4), .val (.int p5), .val (.ref b101), .val (.int be), .val (.ref b106), .val (.ref b131), .val (.int ld), .val (.int nn), .val (.int jj), .val (.int c1), .val (.ref b149), .unset, .unset] [(.ref b167)])) _
    refine XS.dup X167.here hx rfl (hb hby at_238) rfl rfl ?_
    show Steps p.tables e below (T167.setTop (mkF m 239 #[.val (.long q1), .second, .val (.int p2), .val (.int p3s), .val (.int p4), .val (.int p5), .val (.ref b101), .val (.int be), .val (.ref b106), .val (.ref b131), .val (.int ld), .val (.int nn), .val (.int jj), .val (.int c1), .val (.ref b149), .unset, .unset] [(.ref b167), (.ref b167)])) _
    refine st172.trans ?_
    show Steps p.tables e below (T172.setTop (mkF m 242 #[.val (.long q1), .second, .val (.int p2), .val (.int p3s), .val (.int p4), .val (.int p5), .val (.ref b101), .val (.int be), .val (.ref b106), .val (.ref b131), .val (.int ld), .val (.int nn), .val (.int jj), .val (.int c1), .val (.ref b149), .unset, .unset] [(.ref b167)])) _
    refine XS.astore X172.here hx rfl (hb hby at_242) rfl rfl (l' := #[.val (.long q1), .second, .val (.int p2), .val (.int p3s), .val (.int p4), .val (.int p5), .val (.ref b101), .val (.int be), .val (.ref b106), .val (.ref b131), .val (.int ld), .val (.int nn), .val (.int jj), .val (.int c1), .val (.ref b149), .val (.ref b167), .unset]) rfl ?_
    refine XS.aload X172.here hx rfl (hb hby at_244) rfl rfl ?_
    refine XS.aload X172.here hx rfl (hb hby at_246) rfl rfl ?_
    refine XS.iconst X172.here hx rfl (hb hby at_248) ?_
    show Steps p.tables e below (T172.setTop (mkF m 249 #[.val (.long q1), .second, .val (.int p2), .val (.int p3s), .val (.int p4), .val (.int p5), .val (.ref b101), .val (.int be), .val (.ref b106), .val (.ref b131), .val (.int ld), .val (.int nn), .val (.int jj), .val (.int c1), .val (.ref b149), .val (.ref b167), .unset] [(.int (0 : Int32)), (.ref b149), (.ref b167)])) _
    refine XS.iconst X172.here hx rfl (hb hby at_249) ?_
    refine XS.iload X172.here hx rfl (hb hby at_250) rfl ?_
    refine XS.iadd X172.here hx rfl (hb hby at_252) rfl ?_
    show Steps p.tables e below (T172.setTop (mkF m 253 #[.val (.long q1), .second, .val (.int p2), .val (.int p3s), .val (.int p4), .val (.int p5), .val (.ref b101), .val (.int be), .val (.ref b106), .val (.ref b131), .val (.int ld), .val (.int nn), .val (.int jj), .val (.int c1), .val (.ref b149), .val (.ref b167), .unset] [(.int ((5 : Int32) + jj)), (.int (0 : Int32)), (.ref b149), (.ref b167)])) _
    rw [show ((5 : Int32) + jj) = p3 from h_p3.symm]
    show Steps p.tables e below (T172.setTop (mkF m 253 #[.val (.long q1), .second, .val (.int p2), .val (.int p3s), .val (.int p4), .val (.int p5), .val (.ref b101), .val (.int be), .val (.ref b106), .val (.ref b131), .val (.int ld), .val (.int nn), .val (.int jj), .val (.int c1), .val (.ref b149), .val (.ref b167), .unset] [(.int p3), (.int (0 : Int32)), (.ref b149), (.ref b167)])) _
    refine st179.trans ?_
    show Steps p.tables e below (T179.setTop (mkF m 256 #[.val (.long q1), .second, .val (.int p2), .val (.int p3s), .val (.int p4), .val (.int p5), .val (.ref b101), .val (.int be), .val (.ref b106), .val (.ref b131), .val (.int ld), .val (.int nn), .val (.int jj), .val (.int c1), .val (.ref b149), .val (.ref b167), .unset] [])) _
    refine XS.aload X179.here hx rfl (hb hby at_256) rfl rfl ?_
    refine XS.lloadN X179.here hx rfl (hb hby at_258) rfl ?_
    show Steps p.tables e below (T179.setTop (mkF m 259 #[.val (.long q1), .second, .val (.int p2), .val (.int p3s), .val (.int p4), .val (.int p5), .val (.ref b101), .val (.int be), .val (.ref b106), .val (.ref b131), .val (.int ld), .val (.int nn), .val (.int jj), .val (.int c1), .val (.ref b149), .val (.ref b167), .unset] [(.long q1), (.ref b167)])) _
    refine st180.trans ?_
    show Steps p.tables e below (T180.setTop (mkF m 262 #[.val (.long q1), .second, .val (.int p2), .val (.int p3s), .val (.int p4), .val (.int p5), .val (.ref b101), .val (.int be), .val (.ref b106), .val (.ref b131), .val (.int ld), .val (.int nn), .val (.int jj), .val (.int c1), .val (.ref b149), .val (.ref b167), .unset] [])) _
    refine XS.iconst X180.here hx rfl (hb hby at_262) ?_
    show Steps p.tables e below (T180.setTop (mkF m 263 #[.val (.long q1), .second, .val (.int p2), .val (.int p3s), .val (.int p4), .val (.int p5), .val (.ref b101), .val (.int be), .val (.ref b106), .val (.ref b131), .val (.int ld), .val (.int nn), .val (.int jj), .val (.int c1), .val (.ref b149), .val (.ref b167), .unset] [(.int (1 : Int32))])) _
    refine st181 _ ?_
    show Steps p.tables e below (T181.setTop (mkF m 265 #[.val (.long q1), .second, .val (.int p2), .val (.int p3s), .val (.int p4), .val (.int p5), .val (.ref b101), .val (.int be), .val (.ref b106), .val (.ref b131), .val (.int ld), .val (.int nn), .val (.int jj), .val (.int c1), .val (.ref b149), .val (.ref b167), .unset] [(.ref b181)])) _
    refine XS.dup X181.here hx rfl (hb hby at_265) rfl rfl ?_
    refine XS.iconst X181.here hx rfl (hb hby at_266) ?_
    refine XS.iload X181.here hx rfl (hb hby at_267) rfl ?_
    refine XS.bipush X181.here hx rfl (hb hby at_269) ?_
    show Steps p.tables e below (T181.setTop (mkF m 271 #[.val (.long q1), .second, .val (.int p2), .val (.int p3s), .val (.int p4), .val (.int p5), .val (.ref b101), .val (.int be), .val (.ref b106), .val (.ref b131), .val (.int ld), .val (.int nn), .val (.int jj), .val (.int c1), .val (.ref b149), .val (.ref b167), .unset] [(.int (127 : Int32)), (.int p5), (.int (0 : Int32)), (.ref b181), (.ref b181)])) _
    refine XS.iand X181.here hx rfl (hb hby at_271) rfl ?_
    refine XS.i2b X181.here hx rfl (hb hby at_272) rfl ?_
    show Steps p.tables e below (T181.setTop (mkF m 273 #[.val (.long q1), .second, .val (.int p2), .val (.int p3s), .val (.int p4), .val (.int p5), .val (.ref b101), .val (.int be), .val (.ref b106), .val (.ref b131), .val (.int ld), .val (.int nn), .val (.int jj), .val (.int c1), .val (.ref b149), .val (.ref b167), .unset] [(.int ((p5 &&& (127 : Int32)).toInt8.toInt32)), (.int (0 : Int32)), (.ref b181), (.ref b181)])) _
    refine st188 _ ?_
    show Steps p.tables e below (T188.setTop (mkF m 274 #[.val (.long q1), .second, .val (.int p2), .val (.int p3s), .val (.int p4), .val (.int p5), .val (.ref b101), .val (.int be), .val (.ref b106), .val (.ref b131), .val (.int ld), .val (.int nn), .val (.int jj), .val (.int c1), .val (.ref b149), .val (.ref b167), .unset] [(.ref b181)])) _
    refine XS.astore X188.here hx rfl (hb hby at_274) rfl rfl (l' := #[.val (.long q1), .second, .val (.int p2), .val (.int p3s), .val (.int p4), .val (.int p5), .val (.ref b101), .val (.int be), .val (.ref b106), .val (.ref b131), .val (.int ld), .val (.int nn), .val (.int jj), .val (.int c1), .val (.ref b149), .val (.ref b167), .val (.ref b181)]) rfl ?_
    refine XS.aload X188.here hx rfl (hb hby at_276) rfl rfl ?_
    refine XS.aload X188.here hx rfl (hb hby at_278) rfl rfl ?_
    refine XS.iconst X188.here hx rfl (hb hby at_280) ?_
    show Steps p.tables e below (T188.setTop (mkF m 281 #[.val (.long q1), .second, .val (.int p2), .val (.int p3s), .val (.int p4), .val (.int p5), .val (.ref b101), .val (.int be), .val (.ref b106), .val (.ref b131), .val (.int ld), .val (.int nn), .val (.int jj), .val (.int c1), .val (.ref b149), .val (.ref b167), .val (.ref b181)] [(.int (0 : Int32)), (.ref b181), (.ref b167)])) _
    refine XS.iconst X188.here hx rfl (hb hby at_281) ?_
    show Steps p.tables e below (T188.setTop (mkF m 282 #[.val (.long q1), .second, .val (.int p2), .val (.int p3s), .val (.int p4), .val (.int p5), .val (.ref b101), .val (.int be), .val (.ref b106), .val (.ref b131), .val (.int ld), .val (.int nn), .val (.int jj), .val (.int c1), .val (.ref b149), .val (.ref b167), .val (.ref b181)] [(.int (1 : Int32)), (.int (0 : Int32)), (.ref b181), (.ref b167)])) _
    refine st193.trans ?_
    show Steps p.tables e below (T193.setTop (mkF m 285 #[.val (.long q1), .second, .val (.int p2), .val (.int p3s), .val (.int p4), .val (.int p5), .val (.ref b101), .val (.int be), .val (.ref b106), .val (.ref b131), .val (.int ld), .val (.int nn), .val (.int jj), .val (.int c1), .val (.ref b149), .val (.ref b167), .val (.ref b181)] [])) _
    refine XS.aload X193.here hx rfl (hb hby at_285) rfl rfl ?_
    show Steps p.tables e below (T193.setTop (mkF m 287 #[.val (.long q1), .second, .val (.int p2), .val (.int p3s), .val (.int p4), .val (.int p5), .val (.ref b101), .val (.int be), .val (.ref b106), .val (.ref b131), .val (.int ld), .val (.int nn), .val (.int jj), .val (.int c1), .val (.ref b149), .val (.ref b167), .val (.ref b181)] [(.ref b167)])) _
    refine st194.trans ?_
    show Steps p.tables e below (T194.setTop (mkF m 290 #[.val (.long q1), .second, .val (.int p2), .val (.int p3s), .val (.int p4), .val (.int p5), .val (.ref b101), .val (.int be), .val (.ref b106), .val (.ref b131), .val (.int ld), .val (.int nn), .val (.int jj), .val (.int c1), .val (.ref b149), .val (.ref b167), .val (.ref b181)] [])) _
    refine XS.iconst X194.here hx rfl (hb hby at_290) ?_
    show Steps p.tables e below (T194.setTop (mkF m 291 #[.val (.long q1), .second, .val (.int p2), .val (.int p3s), .val (.int p4), .val (.int p5), .val (.ref b101), .val (.int be), .val (.ref b106), .val (.ref b131), .val (.int ld), .val (.int nn), .val (.int jj), .val (.int c1), .val (.ref b149), .val (.ref b167), .val (.ref b181)] [(.int (1 : Int32))])) _
    exact retOut X194 hx (t := .boolean) (i := .ireturn) Bd.returns rfl (Or.inl ⟨rfl, Or.inr (Or.inl rfl), _, rfl⟩) (hb hby at_291) hr
  · show Q_law Z q1 p2 p3s p4 p5 rU r16 r8 rA h0 n0 _ T194.heap _
    rw [e194]
    exact ⟨rfl, N194⟩
theorem own_eqI {args : Array Value} {s : State} {t : Term} {k : Int32} (h : (Jvm.Cond.eq t (.int k)).value args s none s [] = some true) : t.eval args s none [] s = some (.int k) := by
  simp only [Cond.value, Term.eval] at h
  cases ht : t.eval args s none [] s with
  | none => simp [ht] at h
  | some x => cases x <;> simp [ht] at h ⊢; exact h
theorem own_eqL {args : Array Value} {s : State} {t : Term} {k : Int64} (h : (Jvm.Cond.eq t (.long k)).value args s none s [] = some true) : t.eval args s none [] s = some (.long k) := by
  simp only [Cond.value, Term.eval] at h
  cases ht : t.eval args s none [] s with
  | none => simp [ht] at h
  | some x => cases x <;> simp [ht] at h ⊢; exact h
set_option maxRecDepth 65536 in
set_option maxHeartbeats 40000000 in
theorem comes_1 {Post : Tables → Env → Array Value → State → Outcome → State → Prop} (hpost : ∀ tb e args s v u, (limb_1_1.after args s (.returned v) u = true ∧ limb_1_2.after args s (.returned v) u = true ∧ True) → FrameEnd s (.returned v) u (Jvm.fieldLocs frame_1_writes args s ++ Jvm.arrayLocs frame_1_arrays args s ++ Jvm.staticLocs frame_1_statics s) 32 192 → Post tb e args s (.returned v) u) :
    ArmFor flags0 classFile x code maxLocals ret World_1 tables_1 room_1 Calls_1 rest_1 Pre_1 Post := by
  intro l hfl _ _ p e ha hc hk s m args below hf hA hF happ hP
  obtain ⟨hcalls, hrest, hpre⟩ := hP
  obtain ⟨-, -, -, hnamed, -, -, -, hat⟩ := (Spec.applies_iff hf).mp happ
  obtain ⟨hg, hn⟩ := and_e (Cond.before_iff.mp (show (Jvm.Cond.and given_1 narrow_1).before args s = true from hpre))
  obtain ⟨nn1, nn2⟩ := and_e hg
  obtain ⟨nn3, nn4⟩ := and_e nn2
  obtain ⟨nn5, nn6⟩ := and_e nn4
  obtain ⟨nn7, nn8⟩ := and_e nn6
  obtain ⟨nn9, nn10⟩ := and_e nn8
  obtain ⟨w0, w1, w2, w3, w4, rfl⟩ : ∃ w0 w1 w2 w3 w4 : Value, args = #[w0, w1, w2, w3, w4] := by
    have hs : args.size = 5 := by simpa [Cond.value, given_1] using nn1
    obtain ⟨L⟩ := args
    match L, hs with
    | [w0, w1, w2, w3, w4], _ => exact ⟨w0, w1, w2, w3, w4, rfl⟩
  have hw := fun d (hd : d ∈ tables_1) => atoms_spec (ws := Jvm.Cond.code x code maxLocals ret :: tables_1) hat d (List.mem_cons_of_mem _ hd)
  have hfit : Fit s := fun {y c} hc i hi => by
    obtain ⟨ha, rfl⟩ := Array.getElem?_eq_some_iff.mp hc
    have q := List.all_eq_true.mp ((Array.all_eq_true_iff_forall_mem.mp hF) _ (Array.getElem_mem ha)) i (List.mem_range.mpr hi)
    simpa [Array.getElem?_eq_getElem hi] using q
  obtain ⟨i0, ei0⟩ := isL_v nn3
  obtain rfl : w0 = (.long i0) := Option.some.inj ei0
  obtain ⟨i1, ei1⟩ := is_v nn5
  obtain rfl : w1 = (.int i1) := Option.some.inj ei1
  obtain ⟨i2, ei2⟩ := is_v nn7
  obtain rfl : w2 = (.int i2) := Option.some.inj ei2
  obtain ⟨i3, ei3⟩ := is_v nn9
  obtain rfl : w3 = (.int i3) := Option.some.inj ei3
  obtain ⟨i4, ei4⟩ := is_v nn10
  obtain rfl : w4 = (.int i4) := Option.some.inj ei4
  obtain ⟨nn1, nn2⟩ := and_e hn
  obtain ⟨nn3, nn4⟩ := and_e nn2
  obtain ⟨nn5, nn6⟩ := and_e nn4
  obtain ⟨nn7, nn8⟩ := and_e nn6
  obtain ⟨nn9, nn10⟩ := and_e nn8
  obtain ⟨nn11, nn12⟩ := and_e nn10
  obtain ⟨nn13, nn14⟩ := and_e nn12
  obtain ⟨a_UNKNOWN, ev_UNKNOWN⟩ := exa_v nn1
  have S_UNKNOWN : Sta s s.heap "com/example/dewey/dewey/EncodingCheck$Rule" "UNKNOWN" "Lcom/example/dewey/dewey/EncodingCheck$Rule;" (.ref a_UNKNOWN) := Sta.start ev_UNKNOWN (Or.inr ⟨(hw _ (List.mem_of_getElem? (i := 13) rfl)), (hw _ (List.mem_of_getElem? (i := 14) rfl))⟩)
  have E_UNKNOWN : Exa s s.heap a_UNKNOWN "com/example/dewey/dewey/EncodingCheck$Rule" := Exa.start ev_UNKNOWN nn1
  obtain ⟨a_UTF_16, ev_UTF_16⟩ := exa_v nn3
  have S_UTF_16 : Sta s s.heap "com/example/dewey/dewey/EncodingCheck$Rule" "UTF_16" "Lcom/example/dewey/dewey/EncodingCheck$Rule;" (.ref a_UTF_16) := Sta.start ev_UTF_16 (Or.inr ⟨(hw _ (List.mem_of_getElem? (i := 13) rfl)), (hw _ (List.mem_of_getElem? (i := 38) rfl))⟩)
  have E_UTF_16 : Exa s s.heap a_UTF_16 "com/example/dewey/dewey/EncodingCheck$Rule" := Exa.start ev_UTF_16 nn3
  obtain ⟨a_UTF_8, ev_UTF_8⟩ := exa_v nn5
  have S_UTF_8 : Sta s s.heap "com/example/dewey/dewey/EncodingCheck$Rule" "UTF_8" "Lcom/example/dewey/dewey/EncodingCheck$Rule;" (.ref a_UTF_8) := Sta.start ev_UTF_8 (Or.inr ⟨(hw _ (List.mem_of_getElem? (i := 13) rfl)), (hw _ (List.mem_of_getElem? (i := 44) rfl))⟩)
  have E_UTF_8 : Exa s s.heap a_UTF_8 "com/example/dewey/dewey/EncodingCheck$Rule" := Exa.start ev_UTF_8 nn5
  obtain ⟨a_US_ASCII, ev_US_ASCII⟩ := exa_v nn11
  have S_US_ASCII : Sta s s.heap "com/example/dewey/dewey/EncodingCheck$Rule" "US_ASCII" "Lcom/example/dewey/dewey/EncodingCheck$Rule;" (.ref a_US_ASCII) := Sta.start ev_US_ASCII (Or.inr ⟨(hw _ (List.mem_of_getElem? (i := 13) rfl)), (hw _ (List.mem_of_getElem? (i := 46) rfl))⟩)
  have E_US_ASCII : Exa s s.heap a_US_ASCII "com/example/dewey/dewey/EncodingCheck$Rule" := Exa.start ev_US_ASCII nn11
  have F_UTF_16_ordinal : Fld s s.heap a_UTF_16 "java/lang/Enum" "ordinal" "I" (.int (3)) := Fld.start ((fld_at ev_UTF_16).symm.trans (own_eqI nn7))
  have F_UTF_8_ordinal : Fld s s.heap a_UTF_8 "java/lang/Enum" "ordinal" "I" (.int (1)) := Fld.start ((fld_at ev_UTF_8).symm.trans (own_eqI nn9))
  have F_US_ASCII_ordinal : Fld s s.heap a_US_ASCII "java/lang/Enum" "ordinal" "I" (.int (2)) := Fld.start ((fld_at ev_US_ASCII).symm.trans (own_eqI nn13))
  have F_UNKNOWN_ordinal : Fld s s.heap a_UNKNOWN "java/lang/Enum" "ordinal" "I" (.int (0)) := Fld.start ((fld_at ev_UNKNOWN).symm.trans (own_eqI nn14))
  obtain ⟨n, o, h1, h2, h3, _, L, rfl, ⟨rfl, N⟩, hq⟩ := rm_law l s _ hw tables_1 i0 i1 i2 i3 i4 a_UNKNOWN a_UTF_16 a_UTF_8 a_US_ASCII s.heap s.heap.size (Old.start s) S_UNKNOWN S_UTF_16 S_UTF_8 S_US_ASCII (F_UNKNOWN_ordinal.ne F_UTF_16_ordinal (by simp)) (F_UNKNOWN_ordinal.ne F_UTF_8_ordinal (by simp)) (F_UNKNOWN_ordinal.ne F_US_ASCII_ordinal (by simp)) (F_UTF_16_ordinal.ne F_UTF_8_ordinal (by simp)) (F_UTF_16_ordinal.ne F_US_ASCII_ordinal (by simp)) (F_UTF_8_ordinal.ne F_US_ASCII_ordinal (by simp)) p e ha hc hk s m _ below hf ((Spec.applies_iff_loose hf).mp happ).1 ⟨rfl, State.Warmed39.refl s, rfl⟩ trivial
  refine ⟨n, _, h1, h2, h3, hpost _ _ _ _ _ _ ⟨Cond.after_iff.mpr rfl, Cond.after_iff.mpr (eq_i res_at (Term.int_eval (1)) rfl), trivial⟩ ⟨hq.1, hq.2.1, (hq.2.2.sift fun y hy => Or.inr (N y hy)).mono (by decide) (by decide)⟩⟩
theorem main_1_1 : Claimed_1_1 := comes_1 fun _ _ _ _ _ _ h hF => ⟨h.1, hF⟩
theorem main_1_2 : Claimed_1_2 := comes_1 fun _ _ _ _ _ _ h hF => ⟨h.2.1, hF⟩

end Jvm.Pilot.@@N@@
namespace Jvm.Pilot.@@N@@
open Jvm Jvm.ClassFile Sem Op Lib Jvm.Free Jvm.Stand Jvm.Pilot.@@N@@.Jvm.D
/-! MADE BY PROGRAM (witnessworld.py) out of the Statement's table words and the real class files: 13 classes; the members and pool entries that the words name. The judged class is class 1, her method 1. -/
namespace start1
open Jvm.ClassFile
def u (s : String) : CpInfo := .utf8 (stringToUtf16 s)
/-- a pool by its gaps: so many unusable entries, then the entry; so many at the end -/
def gap : Nat → List CpInfo → List CpInfo
  | 0, r => r
  | n + 1, r => .unusable :: gap n r
def poolList (es : List (Nat × CpInfo)) (last : Nat) : List CpInfo := es.foldr (fun e r => gap e.1 (e.2 :: r)) (gap last [])
def pool (es : List (Nat × CpInfo)) (last : Nat) : Array CpInfo := ⟨poolList es last⟩
def fileOf (pool : Array CpInfo) (this : Nat) (attrs : Array Attribute := #[]) (ms : Array MethodInfo := #[]) (fl : Nat := 33) (sup : Nat := 0) (ifs : Array Nat := #[]) (fds : Array FieldInfo := #[]) : ClassFile where
  minorVersion := 0
  majorVersion := 65
  constantPool := pool
  accessFlags := fl
  thisClass := this
  superClass := sup
  interfaces := ifs
  fields := fds
  methods := ms
  attributes := attrs
def plain (name : String) (sup : Option ClassId) : Class where
  name := name
  kind := .ordinary
  loader := none
  accessFlags := 33
  super := sup
  interfaces := #[]
  cf := none
  fields := #[]
  methods := #[]
  instanceTypes := #[]
  staticTypes := #[]
  resolved := #[]
  callSites := []
  init := .initialized
  statics := none
  mirror := none

def pool0 : Array CpInfo := pool [(5, u "<init>"), (0, u "()V"), (1, .class_ 10), (1, u "java/lang/Object")] 113

def k0c0 : Code := { maxStack := 0, maxLocals := 1, code := object_method_1_code, exceptionTable := #[], attributes := #[] }
def k0m0 : Method := { name := "<init>", desc := "()V", sig := { parameters := [], returnType := none }, accessFlags := 1, code := some k0c0 }
/-- java/lang/Object -/
def k0 : Class := { plain "java/lang/Object" none with
  accessFlags := 33
  interfaces := #[]
  cf := some (fileOf pool0 8 #[] #[{ accessFlags := 1, nameIndex := 5, descriptorIndex := 6, attributes := #[] }] 33 0 #[] #[])
  fields := #[]
  methods := #[k0m0]
  instanceTypes := #[]
  staticTypes := #[]
  resolved := Array.replicate 124 none
  statics := none }

def pool1 : Array CpInfo := pool [(2, .class_ 4), (0, .nameAndType 5 6), (0, u "java/lang/Object"), (0, u "<init>"), (0, u "()V"), (0, .class_ 8), (0, u "com/example/dewey/dewey/EncodingCheck"), (0, .methodref 7 3), (0, .methodref 7 11), (0, .nameAndType 12 13), (0, u "take"), (0, u "([BII)V"), (0, .methodref 7 15), (0, .nameAndType 16 17), (0, u "skip"), (0, u "(J)V"), (0, .methodref 7 19), (0, .nameAndType 20 6), (0, u "end"), (0, .integer 2147483647), (0, .class_ 23), (0, u "com/example/dewey/dewey/EncodingCheckSkipPinLaw"), (2, u "law"), (0, u "(JIIII)Z")] 8

def k1m0 : Method := { name := "<init>", desc := "()V", sig := { parameters := [], returnType := none }, accessFlags := 2, code := none }
def k1c1 : Code := { maxStack := 7, maxLocals := 17, code := code, exceptionTable := #[], attributes := #[] }
def k1m1 : Method := { name := "law", desc := "(JIIII)Z", sig := { parameters := [.long, .int, .int, .int, .int], returnType := some .boolean }, accessFlags := 9, code := some k1c1 }
/-- com/example/dewey/dewey/EncodingCheckSkipPinLaw -/
def k1 : Class := { plain "com/example/dewey/dewey/EncodingCheckSkipPinLaw" (some 0) with
  accessFlags := 49
  interfaces := #[]
  cf := some (fileOf pool1 22 #[] #[{ accessFlags := 2, nameIndex := 5, descriptorIndex := 6, attributes := #[] }, { accessFlags := 9, nameIndex := 26, descriptorIndex := 27, attributes := #[] }] 49 2 #[] #[])
  fields := #[]
  methods := #[k1m0, k1m1]
  instanceTypes := #[]
  staticTypes := #[]
  resolved := Array.replicate 36 none
  statics := none }

def pool2 : Array CpInfo := pool [(1, .methodref 2 3), (0, .class_ 4), (0, .nameAndType 5 6), (0, u "java/lang/Object"), (0, u "<init>"), (0, u "()V"), (0, .class_ 8), (0, u "com/example/dewey/dewey/EncodingCheck"), (0, .fieldref 7 10), (0, .nameAndType 11 12), (0, u "first"), (0, u "[B"), (0, .fieldref 14 15), (0, .class_ 16), (0, .nameAndType 17 18), (0, u "com/example/dewey/dewey/EncodingCheck$Rule"), (0, u "UNKNOWN"), (0, u "Lcom/example/dewey/dewey/EncodingCheck$Rule;"), (0, .fieldref 7 20), (0, .nameAndType 21 18), (0, u "rule"), (0, .fieldref 7 23), (0, .nameAndType 24 25), (0, u "low"), (0, u "I"), (0, .fieldref 7 27), (0, .nameAndType 28 25), (0, u "high"), (0, .fieldref 7 30), (0, .nameAndType 31 12), (0, u "open"), (0, .fieldref 7 33), (0, .nameAndType 34 25), (0, u "firstCount"), (0, .methodref 7 36), (0, .nameAndType 37 6), (0, u "showEncoding"), (0, .methodref 7 39), (0, .nameAndType 40 41), (0, u "check"), (0, u "([BII)V"), (0, .fieldref 7 43), (0, .nameAndType 44 45), (0, u "taken"), (0, u "J"), (0, .fieldref 7 47), (0, .nameAndType 48 25), (0, u "needed"), (0, .fieldref 7 50), (0, .nameAndType 51 25), (0, u "openCount"), (0, .fieldref 14 53), (0, .nameAndType 54 18), (0, u "UTF_8"), (0, .class_ 56), (0, u "com/example/dewey/dewey/EncodingCheck$Undecodable"), (0, .fieldref 7 58), (0, .nameAndType 59 45), (0, u "start"), (11, .fieldref 14 72), (0, .nameAndType 73 18), (0, u "UTF_16"), (0, .long 2), (23, u "US_ASCII"), (0, .fieldref 14 100), (0, .nameAndType 98 18), (13, .methodref 7 115), (0, .nameAndType 116 117), (0, u "shown"), (0, u "([BI)Lcom/example/dewey/dewey/EncodingCheck$Rule;"), (0, .methodref 7 119), (0, .nameAndType 120 41), (0, u "checkUtf8"), (42, u "SHOWING"), (4, u "take"), (2, u "skip"), (0, u "(J)V"), (0, u "end")] 27

def k2c0 : Code := { maxStack := 2, maxLocals := 1, code := prog_23_method_1_code, exceptionTable := #[], attributes := #[] }
def k2m0 : Method := { name := "<init>", desc := "()V", sig := { parameters := [], returnType := none }, accessFlags := 0, code := some k2c0 }
def k2c1 : Code := { maxStack := 5, maxLocals := 4, code := prog_23_method_2_code, exceptionTable := #[], attributes := #[] }
def k2m1 : Method := { name := "take", desc := "([BII)V", sig := { parameters := [(.array .byte), .int, .int], returnType := none }, accessFlags := 0, code := some k2c1 }
def k2c2 : Code := { maxStack := 5, maxLocals := 3, code := prog_23_method_3_code, exceptionTable := #[], attributes := #[] }
def k2m2 : Method := { name := "skip", desc := "(J)V", sig := { parameters := [.long], returnType := none }, accessFlags := 0, code := some k2c2 }
def k2c3 : Code := { maxStack := 6, maxLocals := 1, code := prog_23_method_4_code, exceptionTable := #[], attributes := #[] }
def k2m3 : Method := { name := "end", desc := "()V", sig := { parameters := [], returnType := none }, accessFlags := 0, code := some k2c3 }
def k2c4 : Code := { maxStack := 4, maxLocals := 1, code := prog_23_method_7_code, exceptionTable := #[], attributes := #[] }
def k2m4 : Method := { name := "showEncoding", desc := "()V", sig := { parameters := [], returnType := none }, accessFlags := 2, code := some k2c4 }
def k2c5 : Code := { maxStack := 3, maxLocals := 5, code := prog_23_method_8_code, exceptionTable := #[], attributes := #[] }
def k2m5 : Method := { name := "shown", desc := "([BI)Lcom/example/dewey/dewey/EncodingCheck$Rule;", sig := { parameters := [(.array .byte), .int], returnType := some (.object "com/example/dewey/dewey/EncodingCheck$Rule") }, accessFlags := 10, code := some k2c5 }
def k2c6 : Code := { maxStack := 7, maxLocals := 5, code := prog_23_method_9_code, exceptionTable := #[], attributes := #[] }
def k2m6 : Method := { name := "check", desc := "([BII)V", sig := { parameters := [(.array .byte), .int, .int], returnType := none }, accessFlags := 2, code := some k2c6 }
def k2c7 : Code := { maxStack := 5, maxLocals := 6, code := prog_23_method_10_code, exceptionTable := #[], attributes := #[] }
def k2m7 : Method := { name := "checkUtf8", desc := "([BII)V", sig := { parameters := [(.array .byte), .int, .int], returnType := none }, accessFlags := 2, code := some k2c7 }
/-- com/example/dewey/dewey/EncodingCheck -/
def k2 : Class := { plain "com/example/dewey/dewey/EncodingCheck" (some 0) with
  accessFlags := 48
  interfaces := #[]
  cf := some (fileOf pool2 7 #[.nestMembers #[55, 14]] #[{ accessFlags := 0, nameIndex := 5, descriptorIndex := 6, attributes := #[] }, { accessFlags := 0, nameIndex := 168, descriptorIndex := 41, attributes := #[] }, { accessFlags := 0, nameIndex := 171, descriptorIndex := 172, attributes := #[] }, { accessFlags := 0, nameIndex := 173, descriptorIndex := 6, attributes := #[] }, { accessFlags := 2, nameIndex := 37, descriptorIndex := 6, attributes := #[] }, { accessFlags := 10, nameIndex := 116, descriptorIndex := 117, attributes := #[] }, { accessFlags := 2, nameIndex := 40, descriptorIndex := 41, attributes := #[] }, { accessFlags := 2, nameIndex := 120, descriptorIndex := 41, attributes := #[] }] 48 2 #[] #[{ accessFlags := 26, nameIndex := 163, descriptorIndex := 25, attributes := #[] }, { accessFlags := 18, nameIndex := 11, descriptorIndex := 12, attributes := #[] }, { accessFlags := 2, nameIndex := 34, descriptorIndex := 25, attributes := #[] }, { accessFlags := 2, nameIndex := 21, descriptorIndex := 18, attributes := #[] }, { accessFlags := 2, nameIndex := 44, descriptorIndex := 45, attributes := #[] }, { accessFlags := 2, nameIndex := 48, descriptorIndex := 25, attributes := #[] }, { accessFlags := 2, nameIndex := 24, descriptorIndex := 25, attributes := #[] }, { accessFlags := 2, nameIndex := 28, descriptorIndex := 25, attributes := #[] }, { accessFlags := 2, nameIndex := 59, descriptorIndex := 45, attributes := #[] }, { accessFlags := 18, nameIndex := 31, descriptorIndex := 12, attributes := #[] }, { accessFlags := 2, nameIndex := 51, descriptorIndex := 25, attributes := #[] }])
  fields := #[{ name := "SHOWING", type := .int, accessFlags := 26, slot := 0, constantValue := 0 }, { name := "first", type := (.array .byte), accessFlags := 18, slot := 0, constantValue := 0 }, { name := "firstCount", type := .int, accessFlags := 2, slot := 1, constantValue := 0 }, { name := "rule", type := (.object "com/example/dewey/dewey/EncodingCheck$Rule"), accessFlags := 2, slot := 2, constantValue := 0 }, { name := "taken", type := .long, accessFlags := 2, slot := 3, constantValue := 0 }, { name := "needed", type := .int, accessFlags := 2, slot := 4, constantValue := 0 }, { name := "low", type := .int, accessFlags := 2, slot := 5, constantValue := 0 }, { name := "high", type := .int, accessFlags := 2, slot := 6, constantValue := 0 }, { name := "start", type := .long, accessFlags := 2, slot := 7, constantValue := 0 }, { name := "open", type := (.array .byte), accessFlags := 18, slot := 8, constantValue := 0 }, { name := "openCount", type := .int, accessFlags := 2, slot := 9, constantValue := 0 }]
  methods := #[k2m0, k2m1, k2m2, k2m3, k2m4, k2m5, k2m6, k2m7]
  instanceTypes := #[(.array .byte), .int, (.object "com/example/dewey/dewey/EncodingCheck$Rule"), .long, .int, .int, .int, .long, (.array .byte), .int]
  staticTypes := #[.int]
  resolved := Array.replicate 201 none
  statics := none }

def pool3 : Array CpInfo := pool [(1, .class_ 2), (0, u "java/lang/constant/Constable"), (0, .class_ 4), (0, u "java/lang/Object")] 6

/-- java/lang/constant/Constable -/
def k3 : Class := { plain "java/lang/constant/Constable" (some 0) with
  accessFlags := 1537
  interfaces := #[]
  cf := some (fileOf pool3 1 #[] #[] 1537 3 #[] #[])
  fields := #[]
  methods := #[]
  instanceTypes := #[]
  staticTypes := #[]
  resolved := Array.replicate 11 none
  statics := none }

def pool4 : Array CpInfo := pool [(1, .class_ 2), (0, u "java/lang/Comparable"), (0, .class_ 4), (0, u "java/lang/Object")] 7

/-- java/lang/Comparable -/
def k4 : Class := { plain "java/lang/Comparable" (some 0) with
  accessFlags := 1537
  interfaces := #[]
  cf := some (fileOf pool4 1 #[] #[] 1537 3 #[] #[])
  fields := #[]
  methods := #[]
  instanceTypes := #[]
  staticTypes := #[]
  resolved := Array.replicate 12 none
  statics := none }

def pool5 : Array CpInfo := pool [(1, .class_ 2), (0, u "java/io/Serializable"), (0, .class_ 4), (0, u "java/lang/Object")] 2

/-- java/io/Serializable -/
def k5 : Class := { plain "java/io/Serializable" (some 0) with
  accessFlags := 1537
  interfaces := #[]
  cf := some (fileOf pool5 1 #[] #[] 1537 3 #[] #[])
  fields := #[]
  methods := #[]
  instanceTypes := #[]
  staticTypes := #[]
  resolved := Array.replicate 7 none
  statics := none }

def pool6 : Array CpInfo := pool [(2, .class_ 4), (1, u "java/lang/Enum"), (0, u "name"), (0, u "Ljava/lang/String;"), (2, u "ordinal"), (0, u "I"), (1, .class_ 14), (1, u "java/lang/Object"), (4, u "hash"), (86, .class_ 108), (1, u "java/lang/Enum$EnumDesc"), (2, .class_ 112), (0, u "java/lang/constant/Constable"), (0, .class_ 114), (0, u "java/lang/Comparable"), (0, .class_ 116), (0, u "java/io/Serializable")] 87

/-- java/lang/Enum -/
def k6 : Class := { plain "java/lang/Enum" (some 0) with
  accessFlags := 1057
  interfaces := #[3, 4, 5]
  cf := some (fileOf pool6 2 #[.nestMembers #[106]] #[] 1057 12 #[111, 113, 115] #[{ accessFlags := 18, nameIndex := 5, descriptorIndex := 6, attributes := #[] }, { accessFlags := 18, nameIndex := 9, descriptorIndex := 10, attributes := #[] }, { accessFlags := 2, nameIndex := 19, descriptorIndex := 10, attributes := #[] }])
  fields := #[{ name := "name", type := (.object "java/lang/String"), accessFlags := 18, slot := 0, constantValue := 0 }, { name := "ordinal", type := .int, accessFlags := 18, slot := 1, constantValue := 0 }, { name := "hash", type := .int, accessFlags := 2, slot := 2, constantValue := 0 }]
  methods := #[]
  instanceTypes := #[(.object "java/lang/String"), .int, .int]
  staticTypes := #[]
  resolved := Array.replicate 204 none
  statics := none }

def pool7 : Array CpInfo := pool [(1, .class_ 2), (0, u "com/example/dewey/dewey/EncodingCheck$Rule"), (2, u "UNKNOWN"), (0, u "Lcom/example/dewey/dewey/EncodingCheck$Rule;"), (2, u "UTF_8"), (2, u "US_ASCII"), (2, u "UTF_16"), (2, u "NONE"), (2, u "$VALUES"), (0, u "[Lcom/example/dewey/dewey/EncodingCheck$Rule;"), (6, .class_ 31), (1, u "java/lang/Enum"), (28, .class_ 61), (0, u "com/example/dewey/dewey/EncodingCheck")] 2

/-- com/example/dewey/dewey/EncodingCheck$Rule -/
def k7 : Class := { plain "com/example/dewey/dewey/EncodingCheck$Rule" (some 6) with
  accessFlags := 16432
  interfaces := #[]
  cf := some (fileOf pool7 1 #[.nestHost 60] #[] 16432 29 #[] #[{ accessFlags := 16409, nameIndex := 5, descriptorIndex := 6, attributes := #[] }, { accessFlags := 16409, nameIndex := 9, descriptorIndex := 6, attributes := #[] }, { accessFlags := 16409, nameIndex := 12, descriptorIndex := 6, attributes := #[] }, { accessFlags := 16409, nameIndex := 15, descriptorIndex := 6, attributes := #[] }, { accessFlags := 16409, nameIndex := 18, descriptorIndex := 6, attributes := #[] }, { accessFlags := 4122, nameIndex := 21, descriptorIndex := 22, attributes := #[] }])
  fields := #[{ name := "UNKNOWN", type := (.object "com/example/dewey/dewey/EncodingCheck$Rule"), accessFlags := 16409, slot := 0, constantValue := 0 }, { name := "UTF_8", type := (.object "com/example/dewey/dewey/EncodingCheck$Rule"), accessFlags := 16409, slot := 1, constantValue := 0 }, { name := "US_ASCII", type := (.object "com/example/dewey/dewey/EncodingCheck$Rule"), accessFlags := 16409, slot := 2, constantValue := 0 }, { name := "UTF_16", type := (.object "com/example/dewey/dewey/EncodingCheck$Rule"), accessFlags := 16409, slot := 3, constantValue := 0 }, { name := "NONE", type := (.object "com/example/dewey/dewey/EncodingCheck$Rule"), accessFlags := 16409, slot := 4, constantValue := 0 }, { name := "$VALUES", type := (.array (.object "com/example/dewey/dewey/EncodingCheck$Rule")), accessFlags := 4122, slot := 5, constantValue := 0 }]
  methods := #[]
  instanceTypes := #[(.object "java/lang/String"), .int, .int]
  staticTypes := #[(.object "com/example/dewey/dewey/EncodingCheck$Rule"), (.object "com/example/dewey/dewey/EncodingCheck$Rule"), (.object "com/example/dewey/dewey/EncodingCheck$Rule"), (.object "com/example/dewey/dewey/EncodingCheck$Rule"), (.object "com/example/dewey/dewey/EncodingCheck$Rule"), (.array (.object "com/example/dewey/dewey/EncodingCheck$Rule"))]
  resolved := Array.replicate 64 none
  statics := some 0 }

def pool8 : Array CpInfo := pool [(1, u "java/lang/Cloneable"), (0, .class_ 1), (0, u "java/lang/Object"), (0, .class_ 3)] 3

/-- java/lang/Cloneable -/
def k8 : Class := { plain "java/lang/Cloneable" (some 0) with
  accessFlags := 1537
  interfaces := #[]
  cf := some (fileOf pool8 2 #[] #[] 1537 4 #[] #[])
  fields := #[]
  methods := #[]
  instanceTypes := #[]
  staticTypes := #[]
  resolved := Array.replicate 8 none
  statics := none }

/-- the primitive byte -/
def k9 : Class := { plain "byte" none with kind := .primitive 'B', accessFlags := 0x411 }
/-- [B -/
def k10 : Class := { plain "[B" (some 0) with kind := .array 9 .byte, interfaces := #[8, 5], accessFlags := 1041 }

/-- the primitive int -/
def k11 : Class := { plain "int" none with kind := .primitive 'I', accessFlags := 0x411 }
/-- [I -/
def k12 : Class := { plain "[I" (some 0) with kind := .array 11 .int, interfaces := #[8, 5], accessFlags := 1041 }

def heap : Heap := #[{ cls := 7, slots := #[.ref 1, .ref 2, .ref 3, .ref 4, .null, .null], vm := .statics 7 },
  { cls := 7, slots := #[.null, .int 0, .int 0], vm := .none },
  { cls := 7, slots := #[.null, .int 1, .int 0], vm := .none },
  { cls := 7, slots := #[.null, .int 2, .int 0], vm := .none },
  { cls := 7, slots := #[.null, .int 3, .int 0], vm := .none }]
def classes : Array Class := #[k0, k1, k2, k3, k4, k5, k6, k7, k8, k9, k10, k11, k12]
def interned : List (Array UInt16 × Addr) := []
def slotsUsed : Nat := 18
def theMethod : MethodId := ⟨1, 1⟩
def args0 : Array Value := #[.long 5, .int 0, .int 1, .int 2, .int 3]
def aboutOver (below : List Frame) : State where
  vm := { classes := classes, interned := interned.toArray }
  heap := heap
  slotsUsed := slotsUsed
  threads := #[{ frames := .invoking theMethod args0 :: below }]
def below0 : List Frame := [.native { method := ⟨0, 0⟩, args := #[] }]
def about1 : State := aboutOver below0
def p0 : Program := .bare "" "" ""
def e0 : Env := launch0.env 0 0 0
theorem w_frames : about1.frames = Frame.invoking theMethod args0 :: below0 := rfl
set_option maxRecDepth 65536 in
theorem w_args : argsFit about1.vm theMethod args0 = true := by decide +kernel
set_option maxRecDepth 65536 in
theorem w_heap : heapFits about1 = true := by decide +kernel
set_option maxRecDepth 65536 in
theorem w_runnable : about1.curStatus? = some .runnable := by decide +kernel
set_option maxRecDepth 65536 in
theorem w_alone : about1.alone = true := by decide +kernel
set_option maxRecDepth 65536 in
theorem w_named : about1.methodNamed? x = some theMethod := by decide +kernel
set_option maxRecDepth 65536 in
theorem w_hears : about1.hears theMethod below0 = true := by decide +kernel
set_option maxRecDepth 65536 in
theorem w_ripe : about1.ripe theMethod args0 below0 = true := by decide +kernel
theorem w_running : about1.status = .running := rfl
set_option maxRecDepth 65536 in
theorem w_room : about1.hasRoom e0.platform room_1 = true :=
  launch0.hasRoom_least _ room_1 (by decide +kernel) (by decide +kernel) (by decide +kernel) (by decide +kernel) (by decide +kernel) (by decide +kernel)
theorem allAtoms_all (ts : List Jvm.Cond) (a : Array Jvm.Value) (st : Jvm.State) : (allAtoms ts).before a st = ts.all (fun c => c.before a st) := by
  induction ts with
  | nil => rfl
  | cons c t ih =>
    show (Jvm.Cond.and c (allAtoms t)).before a st = _
    rw [Jvm.Cond.before_and, ih, List.all_cons]
def words1 : List Jvm.Cond := Jvm.Cond.code x code maxLocals ret :: tables_1
/-- a 'code' word, met by the world's own term for the bytes: nothing is compared byte by byte -/
theorem code_word {y : MethodName} {bytes : ByteArray} {mx : Nat} {rt : Option FieldType} {a : Array Value} {s : State} {m : MethodId} {meth : Method} {c : Code} (h1 : s.methodNamed? y = some m) (h2 : s.vm.method? m = some meth) (h3 : meth.code = some c) (h4 : c.code = bytes)
    (h5 : (c.maxLocals == mx && c.exceptionTable.isEmpty && decide (c.maxStack ≤ mostOperands) && decide (meth.sig.returnType = rt) && !meth.locks && decide (parseMethodDescriptor y.desc = some meth.sig)) = true) : (Jvm.Cond.code y bytes mx rt).before a s = true := by
  simp only [Bool.and_eq_true, beq_iff_eq, Bool.not_eq_true', decide_eq_true_eq] at h5
  obtain ⟨⟨⟨⟨⟨g1, g2⟩, g3⟩, g4⟩, g5⟩, g6⟩ := h5
  simp [Cond.before, Cond.holds, Cond.value, h1, h2, h3, h4, g1, g2, g3, g4, g5, g6]
def isCode : Jvm.Cond → Bool
  | .code _ _ _ _ => true
  | _ => false
theorem all_split {L : List Jvm.Cond} {P : Jvm.Cond → Bool} (h1 : L.all (fun c => isCode c || P c) = true) (h2 : ∀ c ∈ L.filter isCode, P c = true) : L.all P = true := by
  refine List.all_eq_true.mpr fun c hc => ?_
  have h := List.all_eq_true.mp h1 c hc
  rcases Bool.eq_false_or_eq_true (isCode c) with hi | hi
  · exact h2 c (List.mem_filter.mpr ⟨hc, hi⟩)
  · simpa [hi] using h
set_option maxRecDepth 65536 in
theorem w_c0 : (Jvm.Cond.code x code maxLocals ret).before args0 about1 = true := code_word (m := ⟨1, 1⟩) (meth := k1m1) (c := k1c1) (by decide +kernel) rfl rfl rfl (by decide +kernel)
set_option maxRecDepth 65536 in
theorem w_c1 : (Jvm.Cond.code ({ cls := "com/example/dewey/dewey/EncodingCheck", name := "<init>", desc := "()V" } : Jvm.MethodName) prog_23_method_1_code (1 : Nat) (Option.none : Option Jvm.ClassFile.FieldType)).before args0 about1 = true := code_word (m := ⟨2, 0⟩) (meth := k2m0) (c := k2c0) (by decide +kernel) rfl rfl rfl (by decide +kernel)
set_option maxRecDepth 65536 in
theorem w_c2 : (Jvm.Cond.code ({ cls := "java/lang/Object", name := "<init>", desc := "()V" } : Jvm.MethodName) object_method_1_code (1 : Nat) (Option.none : Option Jvm.ClassFile.FieldType)).before args0 about1 = true := code_word (m := ⟨0, 0⟩) (meth := k0m0) (c := k0c0) (by decide +kernel) rfl rfl rfl (by decide +kernel)
set_option maxRecDepth 65536 in
theorem w_c3 : (Jvm.Cond.code ({ cls := "com/example/dewey/dewey/EncodingCheck", name := "take", desc := "([BII)V" } : Jvm.MethodName) prog_23_method_2_code (4 : Nat) (Option.none : Option Jvm.ClassFile.FieldType)).before args0 about1 = true := code_word (m := ⟨2, 1⟩) (meth := k2m1) (c := k2c1) (by decide +kernel) rfl rfl rfl (by decide +kernel)
set_option maxRecDepth 65536 in
theorem w_c4 : (Jvm.Cond.code ({ cls := "com/example/dewey/dewey/EncodingCheck", name := "showEncoding", desc := "()V" } : Jvm.MethodName) prog_23_method_7_code (1 : Nat) (Option.none : Option Jvm.ClassFile.FieldType)).before args0 about1 = true := code_word (m := ⟨2, 4⟩) (meth := k2m4) (c := k2c4) (by decide +kernel) rfl rfl rfl (by decide +kernel)
set_option maxRecDepth 65536 in
theorem w_c5 : (Jvm.Cond.code ({ cls := "com/example/dewey/dewey/EncodingCheck", name := "shown", desc := "([BI)Lcom/example/dewey/dewey/EncodingCheck$Rule;" } : Jvm.MethodName) prog_23_method_8_code (5 : Nat) (Option.some (Jvm.ClassFile.FieldType.object "com/example/dewey/dewey/EncodingCheck$Rule"))).before args0 about1 = true := code_word (m := ⟨2, 5⟩) (meth := k2m5) (c := k2c5) (by decide +kernel) rfl rfl rfl (by decide +kernel)
set_option maxRecDepth 65536 in
theorem w_c6 : (Jvm.Cond.code ({ cls := "com/example/dewey/dewey/EncodingCheck", name := "check", desc := "([BII)V" } : Jvm.MethodName) prog_23_method_9_code (5 : Nat) (Option.none : Option Jvm.ClassFile.FieldType)).before args0 about1 = true := code_word (m := ⟨2, 6⟩) (meth := k2m6) (c := k2c6) (by decide +kernel) rfl rfl rfl (by decide +kernel)
set_option maxRecDepth 65536 in
theorem w_c7 : (Jvm.Cond.code ({ cls := "com/example/dewey/dewey/EncodingCheck", name := "skip", desc := "(J)V" } : Jvm.MethodName) prog_23_method_3_code (3 : Nat) (Option.none : Option Jvm.ClassFile.FieldType)).before args0 about1 = true := code_word (m := ⟨2, 2⟩) (meth := k2m2) (c := k2c2) (by decide +kernel) rfl rfl rfl (by decide +kernel)
set_option maxRecDepth 65536 in
theorem w_c8 : (Jvm.Cond.code ({ cls := "com/example/dewey/dewey/EncodingCheck", name := "end", desc := "()V" } : Jvm.MethodName) prog_23_method_4_code (1 : Nat) (Option.none : Option Jvm.ClassFile.FieldType)).before args0 about1 = true := code_word (m := ⟨2, 3⟩) (meth := k2m3) (c := k2c3) (by decide +kernel) rfl rfl rfl (by decide +kernel)
set_option maxRecDepth 65536 in
theorem w_c9 : (Jvm.Cond.code ({ cls := "com/example/dewey/dewey/EncodingCheck", name := "checkUtf8", desc := "([BII)V" } : Jvm.MethodName) prog_23_method_10_code (6 : Nat) (Option.none : Option Jvm.ClassFile.FieldType)).before args0 about1 = true := code_word (m := ⟨2, 7⟩) (meth := k2m7) (c := k2c7) (by decide +kernel) rfl rfl rfl (by decide +kernel)
def codes1 : List Jvm.Cond := [Jvm.Cond.code x code maxLocals ret, Jvm.Cond.code ({ cls := "com/example/dewey/dewey/EncodingCheck", name := "<init>", desc := "()V" } : Jvm.MethodName) prog_23_method_1_code (1 : Nat) (Option.none : Option Jvm.ClassFile.FieldType), Jvm.Cond.code ({ cls := "java/lang/Object", name := "<init>", desc := "()V" } : Jvm.MethodName) object_method_1_code (1 : Nat) (Option.none : Option Jvm.ClassFile.FieldType), Jvm.Cond.code ({ cls := "com/example/dewey/dewey/EncodingCheck", name := "take", desc := "([BII)V" } : Jvm.MethodName) prog_23_method_2_code (4 : Nat) (Option.none : Option Jvm.ClassFile.FieldType), Jvm.Cond.code ({ cls := "com/example/dewey/dewey/EncodingCheck", name := "showEncoding", desc := "()V" } : Jvm.MethodName) prog_23_method_7_code (1 : Nat) (Option.none : Option Jvm.ClassFile.FieldType), Jvm.Cond.code ({ cls := "com/example/dewey/dewey/EncodingCheck", name := "shown", desc := "([BI)Lcom/example/dewey/dewey/EncodingCheck$Rule;" } : Jvm.MethodName) prog_23_method_8_code (5 : Nat) (Option.some (Jvm.ClassFile.FieldType.object "com/example/dewey/dewey/EncodingCheck$Rule")), Jvm.Cond.code ({ cls := "com/example/dewey/dewey/EncodingCheck", name := "check", desc := "([BII)V" } : Jvm.MethodName) prog_23_method_9_code (5 : Nat) (Option.none : Option Jvm.ClassFile.FieldType), Jvm.Cond.code ({ cls := "com/example/dewey/dewey/EncodingCheck", name := "skip", desc := "(J)V" } : Jvm.MethodName) prog_23_method_3_code (3 : Nat) (Option.none : Option Jvm.ClassFile.FieldType), Jvm.Cond.code ({ cls := "com/example/dewey/dewey/EncodingCheck", name := "end", desc := "()V" } : Jvm.MethodName) prog_23_method_4_code (1 : Nat) (Option.none : Option Jvm.ClassFile.FieldType), Jvm.Cond.code ({ cls := "com/example/dewey/dewey/EncodingCheck", name := "checkUtf8", desc := "([BII)V" } : Jvm.MethodName) prog_23_method_10_code (6 : Nat) (Option.none : Option Jvm.ClassFile.FieldType)]
set_option maxRecDepth 65536 in
theorem codes_eq : words1.filter isCode = codes1 := rfl
theorem w_codes : ∀ c ∈ words1.filter isCode, c.before args0 about1 = true := by
  rw [codes_eq]
  intro c hc
  simp only [codes1, List.mem_cons, List.not_mem_nil, or_false] at hc
  rcases hc with rfl | rfl | rfl | rfl | rfl | rfl | rfl | rfl | rfl | rfl
  · exact w_c0
  · exact w_c1
  · exact w_c2
  · exact w_c3
  · exact w_c4
  · exact w_c5
  · exact w_c6
  · exact w_c7
  · exact w_c8
  · exact w_c9
set_option maxRecDepth 65536 in
theorem w_t1 : (words1.take 24).all (fun c => isCode c || c.before args0 about1) = true := by decide +kernel
set_option maxRecDepth 65536 in
theorem w_t2 : ((words1.drop 24).take 24).all (fun c => isCode c || c.before args0 about1) = true := by decide +kernel
set_option maxRecDepth 65536 in
theorem w_t3 : ((words1.drop 24).drop 24).all (fun c => isCode c || c.before args0 about1) = true := by decide +kernel
theorem w_tables : (allAtoms (Jvm.Cond.code x code maxLocals ret :: tables_1)).before args0 about1 = true := by
  rw [allAtoms_all]
  show words1.all (fun c => c.before args0 about1) = true
  refine all_split ?_ w_codes
  rw [← List.take_append_drop 24 words1, List.all_append, w_t1, ← List.take_append_drop 24 (words1.drop 24), List.all_append, w_t2, w_t3]
  rfl
set_option maxRecDepth 65536 in
theorem w_case : (Jvm.Cond.and given_1 narrow_1).before args0 about1 = true := by decide +kernel
theorem w_applies : (headSpec (Jvm.Cond.code x code maxLocals ret :: tables_1) room_1).applies x e0.platform about1 = true :=
  (Spec.applies_iff w_frames).mpr ⟨w_running, w_runnable, w_alone, w_named, w_hears, w_ripe, w_room, w_tables⟩
theorem atStart : AtStart classFile x code maxLocals ret World_1 tables_1 room_1 Calls_1 rest_1 Pre_1 launch0 p0 e0 about1 theMethod args0 below0 :=
  ⟨lists_1, trivial, launch0.admits_env _ _ _, launch0.least_env, fairChoices_fair.cas, fairChoices_fair.clock, w_frames, w_args, w_heap, w_applies, trivial, trivial, w_case⟩
end start1
theorem witness_1 : WitnessClaimed_1 := ⟨start1.p0, start1.e0, start1.about1, start1.theMethod, start1.args0, start1.below0, start1.atStart⟩
end Jvm.Pilot.@@N@@
