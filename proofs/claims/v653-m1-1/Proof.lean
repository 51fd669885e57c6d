import JvmDerived
import JvmDerived.Pilot.@@N@@Statement
import JvmDerived.Pilot.@@N@@Code
set_option linter.unusedVariables false
set_option linter.unusedSimpArgs false
namespace Jvm.RoadKit
open Sem ClassFile Op Lib Jvm.Stand Jvm.Free Jvm.LawKit
section New
variable {p : Program} {l : Launch} {e : Env} {R : Room} {s : State} {m : MethodId} {args : Array Value} {below : List Frame} {meth : Method} {c : Code} {T : State} {locs : List Loc} {cells slots : Nat}
theorem retI (X : Stand p l e R s m args below meth c T locs cells slots) (hx : p.tables.exec = Jvm.exec) {pc : Nat} {Ls : Array Slot} {z : Int32} {rest : List Value} (hret : meth.sig.returnType = some .int) (hd : decode c.code pc = .ok (.ireturn, 1)) {fs : List Frame}
    (hl : ∀ (f : JFrame) (acts : List Action), f.method = m → f.locked = none → f.entered = [] → (doReturn e (T.setTop f) acts (some (.int z))).1 = T.setFrames fs) : Steps p.tables e below (T.setTop (mkF m pc Ls (.int z :: rest))) (T.setFrames fs) := by
  have hm' : T.vm.method? m = some meth := X.method'
  have hn : narrow .int (.int z) = .int z := rfl
  show Steps p.tables e below (T.setTop { method := m, pc := pc, locals := Ls, stack := _ :: rest, locked := none }) _
  jvm_step X.here [X.here.top, hx, hd, hm', hret, hn]
  first | (intro acts; rw [hl _ acts rfl rfl rfl]) | rw [hl _ _ rfl rfl rfl]
  exact Steps.refl _
end New
end Jvm.RoadKit
namespace Jvm.Pilot.@@N@@
open Jvm Jvm.ClassFile Sem Op Lib Jvm.Free Jvm.Stand Jvm.LawKit Jvm.RoadKit Bundle Jvm.Pilot.@@N@@.Jvm.D
theorem d3_0 : decode method_3_code 0 = .ok (.iload_n 0, 1) := by decide +kernel
theorem d3_1 : decode method_3_code 1 = .ok (.sipush 192, 3) := by decide +kernel
theorem d3_4 : decode method_3_code 4 = .ok (.iand, 1) := by decide +kernel
theorem d3_5 : decode method_3_code 5 = .ok (.sipush 128, 3) := by decide +kernel
theorem d3_8 : decode method_3_code 8 = .ok (.if_icmp .ne 7, 3) := by decide +kernel
theorem d3_11 : decode method_3_code 11 = .ok (.iconst 1, 1) := by decide +kernel
theorem d3_12 : decode method_3_code 12 = .ok (.goto 4, 3) := by decide +kernel
theorem d3_15 : decode method_3_code 15 = .ok (.iconst 0, 1) := by decide +kernel
theorem d3_16 : decode method_3_code 16 = .ok (.ireturn, 1) := by decide +kernel
theorem pn_3 : plainName "com/example/hemawire/hemawire/serve/TextFilesCharacterEndPinLaw" = true := by first | (simp [plainName, overriddenIn]; done) | decide +kernel
theorem ef_3 (m : MethodId) (x0 : Int32) : entryFrame m #[(.int x0)] 1 = mkF m 0 #[.val (.int x0)] [] := by first | (simp [entryFrame, mkF, argsToLocals, Value.category]; done) | rfl
theorem d1_0 : decode method_4_code 0 = .ok (.iload_n 0, 1) := by decide +kernel
theorem d1_1 : decode method_4_code 1 = .ok (.sipush 224, 3) := by decide +kernel
theorem d1_4 : decode method_4_code 4 = .ok (.iand, 1) := by decide +kernel
theorem d1_5 : decode method_4_code 5 = .ok (.sipush 192, 3) := by decide +kernel
theorem d1_8 : decode method_4_code 8 = .ok (.if_icmp .ne 28, 3) := by decide +kernel
theorem d1_11 : decode method_4_code 11 = .ok (.iconst 2, 1) := by decide +kernel
theorem d1_12 : decode method_4_code 12 = .ok (.istore 6, 2) := by decide +kernel
theorem d1_14 : decode method_4_code 14 = .ok (.iload_n 0, 1) := by decide +kernel
theorem d1_15 : decode method_4_code 15 = .ok (.bipush 31, 2) := by decide +kernel
theorem d1_17 : decode method_4_code 17 = .ok (.iand, 1) := by decide +kernel
theorem d1_18 : decode method_4_code 18 = .ok (.bipush 6, 2) := by decide +kernel
theorem d1_20 : decode method_4_code 20 = .ok (.ishl, 1) := by decide +kernel
theorem d1_21 : decode method_4_code 21 = .ok (.iload_n 1, 1) := by decide +kernel
theorem d1_22 : decode method_4_code 22 = .ok (.bipush 63, 2) := by decide +kernel
theorem d1_24 : decode method_4_code 24 = .ok (.iand, 1) := by decide +kernel
theorem d1_25 : decode method_4_code 25 = .ok (.ior, 1) := by decide +kernel
theorem d1_26 : decode method_4_code 26 = .ok (.istore 7, 2) := by decide +kernel
theorem d1_28 : decode method_4_code 28 = .ok (.sipush 128, 3) := by decide +kernel
theorem d1_31 : decode method_4_code 31 = .ok (.istore 8, 2) := by decide +kernel
theorem d1_33 : decode method_4_code 33 = .ok (.goto 100, 3) := by decide +kernel
theorem d1_36 : decode method_4_code 36 = .ok (.iload_n 0, 1) := by decide +kernel
theorem d1_37 : decode method_4_code 37 = .ok (.sipush 240, 3) := by decide +kernel
theorem d1_40 : decode method_4_code 40 = .ok (.iand, 1) := by decide +kernel
theorem d1_41 : decode method_4_code 41 = .ok (.sipush 224, 3) := by decide +kernel
theorem d1_44 : decode method_4_code 44 = .ok (.if_icmp .ne 36, 3) := by decide +kernel
theorem d1_47 : decode method_4_code 47 = .ok (.iconst 3, 1) := by decide +kernel
theorem d1_48 : decode method_4_code 48 = .ok (.istore 6, 2) := by decide +kernel
theorem d1_50 : decode method_4_code 50 = .ok (.iload_n 0, 1) := by decide +kernel
theorem d1_51 : decode method_4_code 51 = .ok (.bipush 15, 2) := by decide +kernel
theorem d1_53 : decode method_4_code 53 = .ok (.iand, 1) := by decide +kernel
theorem d1_54 : decode method_4_code 54 = .ok (.bipush 12, 2) := by decide +kernel
theorem d1_56 : decode method_4_code 56 = .ok (.ishl, 1) := by decide +kernel
theorem d1_57 : decode method_4_code 57 = .ok (.iload_n 1, 1) := by decide +kernel
theorem d1_58 : decode method_4_code 58 = .ok (.bipush 63, 2) := by decide +kernel
theorem d1_60 : decode method_4_code 60 = .ok (.iand, 1) := by decide +kernel
theorem d1_61 : decode method_4_code 61 = .ok (.bipush 6, 2) := by decide +kernel
theorem d1_63 : decode method_4_code 63 = .ok (.ishl, 1) := by decide +kernel
theorem d1_64 : decode method_4_code 64 = .ok (.ior, 1) := by decide +kernel
theorem d1_65 : decode method_4_code 65 = .ok (.iload_n 2, 1) := by decide +kernel
theorem d1_66 : decode method_4_code 66 = .ok (.bipush 63, 2) := by decide +kernel
theorem d1_68 : decode method_4_code 68 = .ok (.iand, 1) := by decide +kernel
theorem d1_69 : decode method_4_code 69 = .ok (.ior, 1) := by decide +kernel
theorem d1_70 : decode method_4_code 70 = .ok (.istore 7, 2) := by decide +kernel
theorem d1_72 : decode method_4_code 72 = .ok (.sipush 2048, 3) := by decide +kernel
theorem d1_75 : decode method_4_code 75 = .ok (.istore 8, 2) := by decide +kernel
theorem d1_77 : decode method_4_code 77 = .ok (.goto 56, 3) := by decide +kernel
theorem d1_80 : decode method_4_code 80 = .ok (.iload_n 0, 1) := by decide +kernel
theorem d1_81 : decode method_4_code 81 = .ok (.sipush 248, 3) := by decide +kernel
theorem d1_84 : decode method_4_code 84 = .ok (.iand, 1) := by decide +kernel
theorem d1_85 : decode method_4_code 85 = .ok (.sipush 240, 3) := by decide +kernel
theorem d1_88 : decode method_4_code 88 = .ok (.if_icmp .ne 43, 3) := by decide +kernel
theorem d1_91 : decode method_4_code 91 = .ok (.iconst 4, 1) := by decide +kernel
theorem d1_92 : decode method_4_code 92 = .ok (.istore 6, 2) := by decide +kernel
theorem d1_94 : decode method_4_code 94 = .ok (.iload_n 0, 1) := by decide +kernel
theorem d1_95 : decode method_4_code 95 = .ok (.bipush 7, 2) := by decide +kernel
theorem d1_97 : decode method_4_code 97 = .ok (.iand, 1) := by decide +kernel
theorem d1_98 : decode method_4_code 98 = .ok (.bipush 18, 2) := by decide +kernel
theorem d1_100 : decode method_4_code 100 = .ok (.ishl, 1) := by decide +kernel
theorem d1_101 : decode method_4_code 101 = .ok (.iload_n 1, 1) := by decide +kernel
theorem d1_102 : decode method_4_code 102 = .ok (.bipush 63, 2) := by decide +kernel
theorem d1_104 : decode method_4_code 104 = .ok (.iand, 1) := by decide +kernel
theorem d1_105 : decode method_4_code 105 = .ok (.bipush 12, 2) := by decide +kernel
theorem d1_107 : decode method_4_code 107 = .ok (.ishl, 1) := by decide +kernel
theorem d1_108 : decode method_4_code 108 = .ok (.ior, 1) := by decide +kernel
theorem d1_109 : decode method_4_code 109 = .ok (.iload_n 2, 1) := by decide +kernel
theorem d1_110 : decode method_4_code 110 = .ok (.bipush 63, 2) := by decide +kernel
theorem d1_112 : decode method_4_code 112 = .ok (.iand, 1) := by decide +kernel
theorem d1_113 : decode method_4_code 113 = .ok (.bipush 6, 2) := by decide +kernel
theorem d1_115 : decode method_4_code 115 = .ok (.ishl, 1) := by decide +kernel
theorem d1_116 : decode method_4_code 116 = .ok (.ior, 1) := by decide +kernel
theorem d1_117 : decode method_4_code 117 = .ok (.iload_n 3, 1) := by decide +kernel
theorem d1_118 : decode method_4_code 118 = .ok (.bipush 63, 2) := by decide +kernel
theorem d1_120 : decode method_4_code 120 = .ok (.iand, 1) := by decide +kernel
theorem d1_121 : decode method_4_code 121 = .ok (.ior, 1) := by decide +kernel
theorem d1_122 : decode method_4_code 122 = .ok (.istore 7, 2) := by decide +kernel
theorem d1_124 : decode method_4_code 124 = .ok (.ldc 20, 2) := by decide +kernel
theorem d1_126 : decode method_4_code 126 = .ok (.istore 8, 2) := by decide +kernel
theorem d1_128 : decode method_4_code 128 = .ok (.goto 5, 3) := by decide +kernel
theorem d1_131 : decode method_4_code 131 = .ok (.iconst (-1), 1) := by decide +kernel
theorem d1_132 : decode method_4_code 132 = .ok (.ireturn, 1) := by decide +kernel
theorem d1_133 : decode method_4_code 133 = .ok (.iload 4, 2) := by decide +kernel
theorem d1_135 : decode method_4_code 135 = .ok (.iload 6, 2) := by decide +kernel
theorem d1_137 : decode method_4_code 137 = .ok (.if_icmp .ge 5, 3) := by decide +kernel
theorem d1_140 : decode method_4_code 140 = .ok (.iconst (-1), 1) := by decide +kernel
theorem d1_141 : decode method_4_code 141 = .ok (.ireturn, 1) := by decide +kernel
theorem d1_142 : decode method_4_code 142 = .ok (.iload_n 1, 1) := by decide +kernel
theorem d1_143 : decode method_4_code 143 = .ok (.invokestatic 21, 3) := by decide +kernel
theorem d1_146 : decode method_4_code 146 = .ok (.ifCond .ne 5, 3) := by decide +kernel
theorem d1_149 : decode method_4_code 149 = .ok (.iconst (-1), 1) := by decide +kernel
theorem d1_150 : decode method_4_code 150 = .ok (.ireturn, 1) := by decide +kernel
theorem d1_151 : decode method_4_code 151 = .ok (.iload 6, 2) := by decide +kernel
theorem d1_153 : decode method_4_code 153 = .ok (.iconst 3, 1) := by decide +kernel
theorem d1_154 : decode method_4_code 154 = .ok (.if_icmp .lt 12, 3) := by decide +kernel
theorem d1_157 : decode method_4_code 157 = .ok (.iload_n 2, 1) := by decide +kernel
theorem d1_158 : decode method_4_code 158 = .ok (.invokestatic 21, 3) := by decide +kernel
theorem d1_161 : decode method_4_code 161 = .ok (.ifCond .ne 5, 3) := by decide +kernel
theorem d1_164 : decode method_4_code 164 = .ok (.iconst (-1), 1) := by decide +kernel
theorem d1_165 : decode method_4_code 165 = .ok (.ireturn, 1) := by decide +kernel
theorem d1_166 : decode method_4_code 166 = .ok (.iload 6, 2) := by decide +kernel
theorem d1_168 : decode method_4_code 168 = .ok (.iconst 4, 1) := by decide +kernel
theorem d1_169 : decode method_4_code 169 = .ok (.if_icmp .ne 12, 3) := by decide +kernel
theorem d1_172 : decode method_4_code 172 = .ok (.iload_n 3, 1) := by decide +kernel
theorem d1_173 : decode method_4_code 173 = .ok (.invokestatic 21, 3) := by decide +kernel
theorem d1_176 : decode method_4_code 176 = .ok (.ifCond .ne 5, 3) := by decide +kernel
theorem d1_179 : decode method_4_code 179 = .ok (.iconst (-1), 1) := by decide +kernel
theorem d1_180 : decode method_4_code 180 = .ok (.ireturn, 1) := by decide +kernel
theorem d1_181 : decode method_4_code 181 = .ok (.iload 7, 2) := by decide +kernel
theorem d1_183 : decode method_4_code 183 = .ok (.iload 8, 2) := by decide +kernel
theorem d1_185 : decode method_4_code 185 = .ok (.if_icmp .lt 10, 3) := by decide +kernel
theorem d1_188 : decode method_4_code 188 = .ok (.iload 7, 2) := by decide +kernel
theorem d1_190 : decode method_4_code 190 = .ok (.ldc 25, 2) := by decide +kernel
theorem d1_192 : decode method_4_code 192 = .ok (.if_icmp .le 5, 3) := by decide +kernel
theorem d1_195 : decode method_4_code 195 = .ok (.iconst (-1), 1) := by decide +kernel
theorem d1_196 : decode method_4_code 196 = .ok (.ireturn, 1) := by decide +kernel
theorem d1_197 : decode method_4_code 197 = .ok (.iload 7, 2) := by decide +kernel
theorem d1_199 : decode method_4_code 199 = .ok (.ldc 26, 2) := by decide +kernel
theorem d1_201 : decode method_4_code 201 = .ok (.if_icmp .lt 12, 3) := by decide +kernel
theorem d1_204 : decode method_4_code 204 = .ok (.iload 7, 2) := by decide +kernel
theorem d1_206 : decode method_4_code 206 = .ok (.ldc 27, 2) := by decide +kernel
theorem d1_208 : decode method_4_code 208 = .ok (.if_icmp .gt 5, 3) := by decide +kernel
theorem d1_211 : decode method_4_code 211 = .ok (.iconst (-1), 1) := by decide +kernel
theorem d1_212 : decode method_4_code 212 = .ok (.ireturn, 1) := by decide +kernel
theorem d1_213 : decode method_4_code 213 = .ok (.iload 5, 2) := by decide +kernel
theorem d1_215 : decode method_4_code 215 = .ok (.iload 6, 2) := by decide +kernel
theorem d1_217 : decode method_4_code 217 = .ok (.iadd, 1) := by decide +kernel
theorem d1_218 : decode method_4_code 218 = .ok (.ireturn, 1) := by decide +kernel
theorem pn_1 : plainName "com/example/hemawire/hemawire/serve/TextFilesCharacterEndPinLaw" = true := by first | (simp [plainName, overriddenIn]; done) | decide +kernel
theorem pd1_0 : parseMethodDescriptor "(I)Z" = some ⟨[.int], some .boolean⟩ := by decide +kernel
theorem ef_1 (m : MethodId) (x0 : Int32) (x1 : Int32) (x2 : Int32) (x3 : Int32) (x4 : Int32) (x5 : Int32) : entryFrame m #[(.int x0), (.int x1), (.int x2), (.int x3), (.int x4), (.int x5)] 9 = mkF m 0 #[.val (.int x0), .val (.int x1), .val (.int x2), .val (.int x3), .val (.int x4), .val (.int x5), .unset, .unset, .unset] [] := by first | (simp [entryFrame, mkF, argsToLocals, Value.category]; done) | rfl
theorem d2_0 : decode prog_171_method_4_code 0 = .ok (.aload_n 0, 1) := by decide +kernel
theorem d2_1 : decode prog_171_method_4_code 1 = .ok (.iload_n 1, 1) := by decide +kernel
theorem d2_2 : decode prog_171_method_4_code 2 = .ok (.baload, 1) := by decide +kernel
theorem d2_3 : decode prog_171_method_4_code 3 = .ok (.sipush 255, 3) := by decide +kernel
theorem d2_6 : decode prog_171_method_4_code 6 = .ok (.iand, 1) := by decide +kernel
theorem d2_7 : decode prog_171_method_4_code 7 = .ok (.istore_n 2, 1) := by decide +kernel
theorem d2_8 : decode prog_171_method_4_code 8 = .ok (.iconst 0, 1) := by decide +kernel
theorem d2_9 : decode prog_171_method_4_code 9 = .ok (.istore_n 3, 1) := by decide +kernel
theorem d2_10 : decode prog_171_method_4_code 10 = .ok (.sipush 128, 3) := by decide +kernel
theorem d2_13 : decode prog_171_method_4_code 13 = .ok (.istore 4, 2) := by decide +kernel
theorem d2_15 : decode prog_171_method_4_code 15 = .ok (.sipush 191, 3) := by decide +kernel
theorem d2_18 : decode prog_171_method_4_code 18 = .ok (.istore 5, 2) := by decide +kernel
theorem d2_20 : decode prog_171_method_4_code 20 = .ok (.iload_n 2, 1) := by decide +kernel
theorem d2_21 : decode prog_171_method_4_code 21 = .ok (.sipush 194, 3) := by decide +kernel
theorem d2_24 : decode prog_171_method_4_code 24 = .ok (.if_icmp .lt 15, 3) := by decide +kernel
theorem d2_27 : decode prog_171_method_4_code 27 = .ok (.iload_n 2, 1) := by decide +kernel
theorem d2_28 : decode prog_171_method_4_code 28 = .ok (.sipush 223, 3) := by decide +kernel
theorem d2_31 : decode prog_171_method_4_code 31 = .ok (.if_icmp .gt 8, 3) := by decide +kernel
theorem d2_34 : decode prog_171_method_4_code 34 = .ok (.iconst 2, 1) := by decide +kernel
theorem d2_35 : decode prog_171_method_4_code 35 = .ok (.istore_n 3, 1) := by decide +kernel
theorem d2_36 : decode prog_171_method_4_code 36 = .ok (.goto 106, 3) := by decide +kernel
theorem d2_39 : decode prog_171_method_4_code 39 = .ok (.iload_n 2, 1) := by decide +kernel
theorem d2_40 : decode prog_171_method_4_code 40 = .ok (.sipush 224, 3) := by decide +kernel
theorem d2_43 : decode prog_171_method_4_code 43 = .ok (.if_icmp .lt 49, 3) := by decide +kernel
theorem d2_46 : decode prog_171_method_4_code 46 = .ok (.iload_n 2, 1) := by decide +kernel
theorem d2_47 : decode prog_171_method_4_code 47 = .ok (.sipush 239, 3) := by decide +kernel
theorem d2_50 : decode prog_171_method_4_code 50 = .ok (.if_icmp .gt 42, 3) := by decide +kernel
theorem d2_53 : decode prog_171_method_4_code 53 = .ok (.iconst 3, 1) := by decide +kernel
theorem d2_54 : decode prog_171_method_4_code 54 = .ok (.istore_n 3, 1) := by decide +kernel
theorem d2_55 : decode prog_171_method_4_code 55 = .ok (.iload_n 2, 1) := by decide +kernel
theorem d2_56 : decode prog_171_method_4_code 56 = .ok (.sipush 224, 3) := by decide +kernel
theorem d2_59 : decode prog_171_method_4_code 59 = .ok (.if_icmp .ne 9, 3) := by decide +kernel
theorem d2_62 : decode prog_171_method_4_code 62 = .ok (.sipush 160, 3) := by decide +kernel
theorem d2_65 : decode prog_171_method_4_code 65 = .ok (.goto 5, 3) := by decide +kernel
theorem d2_68 : decode prog_171_method_4_code 68 = .ok (.iload 4, 2) := by decide +kernel
theorem d2_70 : decode prog_171_method_4_code 70 = .ok (.istore 4, 2) := by decide +kernel
theorem d2_72 : decode prog_171_method_4_code 72 = .ok (.iload_n 2, 1) := by decide +kernel
theorem d2_73 : decode prog_171_method_4_code 73 = .ok (.sipush 237, 3) := by decide +kernel
theorem d2_76 : decode prog_171_method_4_code 76 = .ok (.if_icmp .ne 9, 3) := by decide +kernel
theorem d2_79 : decode prog_171_method_4_code 79 = .ok (.sipush 159, 3) := by decide +kernel
theorem d2_82 : decode prog_171_method_4_code 82 = .ok (.goto 5, 3) := by decide +kernel
theorem d2_85 : decode prog_171_method_4_code 85 = .ok (.iload 5, 2) := by decide +kernel
theorem d2_87 : decode prog_171_method_4_code 87 = .ok (.istore 5, 2) := by decide +kernel
theorem d2_89 : decode prog_171_method_4_code 89 = .ok (.goto 53, 3) := by decide +kernel
theorem d2_92 : decode prog_171_method_4_code 92 = .ok (.iload_n 2, 1) := by decide +kernel
theorem d2_93 : decode prog_171_method_4_code 93 = .ok (.sipush 240, 3) := by decide +kernel
theorem d2_96 : decode prog_171_method_4_code 96 = .ok (.if_icmp .lt 46, 3) := by decide +kernel
theorem d2_99 : decode prog_171_method_4_code 99 = .ok (.iload_n 2, 1) := by decide +kernel
theorem d2_100 : decode prog_171_method_4_code 100 = .ok (.sipush 244, 3) := by decide +kernel
theorem d2_103 : decode prog_171_method_4_code 103 = .ok (.if_icmp .gt 39, 3) := by decide +kernel
theorem d2_106 : decode prog_171_method_4_code 106 = .ok (.iconst 4, 1) := by decide +kernel
theorem d2_107 : decode prog_171_method_4_code 107 = .ok (.istore_n 3, 1) := by decide +kernel
theorem d2_108 : decode prog_171_method_4_code 108 = .ok (.iload_n 2, 1) := by decide +kernel
theorem d2_109 : decode prog_171_method_4_code 109 = .ok (.sipush 240, 3) := by decide +kernel
theorem d2_112 : decode prog_171_method_4_code 112 = .ok (.if_icmp .ne 9, 3) := by decide +kernel
theorem d2_115 : decode prog_171_method_4_code 115 = .ok (.sipush 144, 3) := by decide +kernel
theorem d2_118 : decode prog_171_method_4_code 118 = .ok (.goto 5, 3) := by decide +kernel
theorem d2_121 : decode prog_171_method_4_code 121 = .ok (.iload 4, 2) := by decide +kernel
theorem d2_123 : decode prog_171_method_4_code 123 = .ok (.istore 4, 2) := by decide +kernel
theorem d2_125 : decode prog_171_method_4_code 125 = .ok (.iload_n 2, 1) := by decide +kernel
theorem d2_126 : decode prog_171_method_4_code 126 = .ok (.sipush 244, 3) := by decide +kernel
theorem d2_129 : decode prog_171_method_4_code 129 = .ok (.if_icmp .ne 9, 3) := by decide +kernel
theorem d2_132 : decode prog_171_method_4_code 132 = .ok (.sipush 143, 3) := by decide +kernel
theorem d2_135 : decode prog_171_method_4_code 135 = .ok (.goto 5, 3) := by decide +kernel
theorem d2_138 : decode prog_171_method_4_code 138 = .ok (.iload 5, 2) := by decide +kernel
theorem d2_140 : decode prog_171_method_4_code 140 = .ok (.istore 5, 2) := by decide +kernel
theorem d2_142 : decode prog_171_method_4_code 142 = .ok (.iload_n 3, 1) := by decide +kernel
theorem d2_143 : decode prog_171_method_4_code 143 = .ok (.ifCond .le 15, 3) := by decide +kernel
theorem d2_146 : decode prog_171_method_4_code 146 = .ok (.iload_n 1, 1) := by decide +kernel
theorem d2_147 : decode prog_171_method_4_code 147 = .ok (.iload_n 3, 1) := by decide +kernel
theorem d2_148 : decode prog_171_method_4_code 148 = .ok (.iadd, 1) := by decide +kernel
theorem d2_149 : decode prog_171_method_4_code 149 = .ok (.aload_n 0, 1) := by decide +kernel
theorem d2_150 : decode prog_171_method_4_code 150 = .ok (.arraylength, 1) := by decide +kernel
theorem d2_151 : decode prog_171_method_4_code 151 = .ok (.if_icmp .gt 7, 3) := by decide +kernel
theorem d2_154 : decode prog_171_method_4_code 154 = .ok (.iconst 1, 1) := by decide +kernel
theorem d2_155 : decode prog_171_method_4_code 155 = .ok (.goto 4, 3) := by decide +kernel
theorem d2_158 : decode prog_171_method_4_code 158 = .ok (.iconst 0, 1) := by decide +kernel
theorem d2_159 : decode prog_171_method_4_code 159 = .ok (.istore 6, 2) := by decide +kernel
theorem d2_161 : decode prog_171_method_4_code 161 = .ok (.iconst 1, 1) := by decide +kernel
theorem d2_162 : decode prog_171_method_4_code 162 = .ok (.istore 7, 2) := by decide +kernel
theorem d2_164 : decode prog_171_method_4_code 164 = .ok (.iload 6, 2) := by decide +kernel
theorem d2_166 : decode prog_171_method_4_code 166 = .ok (.ifCond .eq 78, 3) := by decide +kernel
theorem d2_169 : decode prog_171_method_4_code 169 = .ok (.iload 7, 2) := by decide +kernel
theorem d2_171 : decode prog_171_method_4_code 171 = .ok (.iload_n 3, 1) := by decide +kernel
theorem d2_172 : decode prog_171_method_4_code 172 = .ok (.if_icmp .ge 72, 3) := by decide +kernel
theorem d2_175 : decode prog_171_method_4_code 175 = .ok (.aload_n 0, 1) := by decide +kernel
theorem d2_176 : decode prog_171_method_4_code 176 = .ok (.iload_n 1, 1) := by decide +kernel
theorem d2_177 : decode prog_171_method_4_code 177 = .ok (.iload 7, 2) := by decide +kernel
theorem d2_179 : decode prog_171_method_4_code 179 = .ok (.iadd, 1) := by decide +kernel
theorem d2_180 : decode prog_171_method_4_code 180 = .ok (.baload, 1) := by decide +kernel
theorem d2_181 : decode prog_171_method_4_code 181 = .ok (.sipush 255, 3) := by decide +kernel
theorem d2_184 : decode prog_171_method_4_code 184 = .ok (.iand, 1) := by decide +kernel
theorem d2_185 : decode prog_171_method_4_code 185 = .ok (.istore 8, 2) := by decide +kernel
theorem d2_187 : decode prog_171_method_4_code 187 = .ok (.iload 7, 2) := by decide +kernel
theorem d2_189 : decode prog_171_method_4_code 189 = .ok (.iconst 1, 1) := by decide +kernel
theorem d2_190 : decode prog_171_method_4_code 190 = .ok (.if_icmp .ne 25, 3) := by decide +kernel
theorem d2_193 : decode prog_171_method_4_code 193 = .ok (.iload 8, 2) := by decide +kernel
theorem d2_195 : decode prog_171_method_4_code 195 = .ok (.iload 4, 2) := by decide +kernel
theorem d2_197 : decode prog_171_method_4_code 197 = .ok (.if_icmp .lt 14, 3) := by decide +kernel
theorem d2_200 : decode prog_171_method_4_code 200 = .ok (.iload 8, 2) := by decide +kernel
theorem d2_202 : decode prog_171_method_4_code 202 = .ok (.iload 5, 2) := by decide +kernel
theorem d2_204 : decode prog_171_method_4_code 204 = .ok (.if_icmp .gt 7, 3) := by decide +kernel
theorem d2_207 : decode prog_171_method_4_code 207 = .ok (.iconst 1, 1) := by decide +kernel
theorem d2_208 : decode prog_171_method_4_code 208 = .ok (.goto 28, 3) := by decide +kernel
theorem d2_211 : decode prog_171_method_4_code 211 = .ok (.iconst 0, 1) := by decide +kernel
theorem d2_212 : decode prog_171_method_4_code 212 = .ok (.goto 24, 3) := by decide +kernel
theorem d2_215 : decode prog_171_method_4_code 215 = .ok (.iload 8, 2) := by decide +kernel
theorem d2_217 : decode prog_171_method_4_code 217 = .ok (.sipush 128, 3) := by decide +kernel
theorem d2_220 : decode prog_171_method_4_code 220 = .ok (.if_icmp .lt 15, 3) := by decide +kernel
theorem d2_223 : decode prog_171_method_4_code 223 = .ok (.iload 8, 2) := by decide +kernel
theorem d2_225 : decode prog_171_method_4_code 225 = .ok (.sipush 191, 3) := by decide +kernel
theorem d2_228 : decode prog_171_method_4_code 228 = .ok (.if_icmp .gt 7, 3) := by decide +kernel
theorem d2_231 : decode prog_171_method_4_code 231 = .ok (.iconst 1, 1) := by decide +kernel
theorem d2_232 : decode prog_171_method_4_code 232 = .ok (.goto 4, 3) := by decide +kernel
theorem d2_235 : decode prog_171_method_4_code 235 = .ok (.iconst 0, 1) := by decide +kernel
theorem d2_236 : decode prog_171_method_4_code 236 = .ok (.istore 6, 2) := by decide +kernel
theorem d2_238 : decode prog_171_method_4_code 238 = .ok (.iinc 7 1, 3) := by decide +kernel
theorem d2_241 : decode prog_171_method_4_code 241 = .ok (.goto (-77), 3) := by decide +kernel
theorem d2_244 : decode prog_171_method_4_code 244 = .ok (.iload 6, 2) := by decide +kernel
theorem d2_246 : decode prog_171_method_4_code 246 = .ok (.ifCond .eq 9, 3) := by decide +kernel
theorem d2_249 : decode prog_171_method_4_code 249 = .ok (.iload_n 1, 1) := by decide +kernel
theorem d2_250 : decode prog_171_method_4_code 250 = .ok (.iload_n 3, 1) := by decide +kernel
theorem d2_251 : decode prog_171_method_4_code 251 = .ok (.iadd, 1) := by decide +kernel
theorem d2_252 : decode prog_171_method_4_code 252 = .ok (.goto 4, 3) := by decide +kernel
theorem d2_255 : decode prog_171_method_4_code 255 = .ok (.iconst (-1), 1) := by decide +kernel
theorem d2_256 : decode prog_171_method_4_code 256 = .ok (.ireturn, 1) := by decide +kernel
theorem pn_2 : plainName "com/example/hemawire/hemawire/serve/TextFiles" = true := by first | (simp [plainName, overriddenIn]; done) | decide +kernel
theorem ef_2 (m : MethodId) (x0 : Addr) (x1 : Int32) : entryFrame m #[(.ref x0), (.int x1)] 9 = mkF m 0 #[.val (.ref x0), .val (.int x1), .unset, .unset, .unset, .unset, .unset, .unset, .unset] [] := by first | (simp [entryFrame, mkF, argsToLocals, Value.category]; done) | rfl
theorem pn_0 : plainName "com/example/hemawire/hemawire/serve/TextFilesCharacterEndPinLaw" = true := by first | (simp [plainName, overriddenIn]; done) | decide +kernel
theorem pd0_0 : parseMethodDescriptor "(IIIIII)I" = some ⟨[.int, .int, .int, .int, .int, .int], some .int⟩ := by decide +kernel
theorem pd0_1 : parseMethodDescriptor "([BI)I" = some ⟨[(.array .byte), .int], some .int⟩ := by decide +kernel
theorem ef_0 (m : MethodId) (x0 : Int32) (x1 : Int32) (x2 : Int32) (x3 : Int32) (x4 : Int32) (x5 : Int32) : entryFrame m #[(.int x0), (.int x1), (.int x2), (.int x3), (.int x4), (.int x5)] maxLocals = mkF m 0 #[.val (.int x0), .val (.int x1), .val (.int x2), .val (.int x3), .val (.int x4), .val (.int x5), .unset, .unset, .unset, .unset, .unset, .unset, .unset, .unset] [] := by first | (simp [entryFrame, mkF, argsToLocals, Value.category, maxLocals]; done) | rfl
def own_at (b0 b1 b2 b3 b4 j : Int32) : Int32 := if j = 0 then b0 else if j = 1 then b1 else if j = 2 then b2 else if j = 3 then b3 else b4
def sp3 (p1 : Int32) : Int32 := (if (p1 &&& (192 : Int32)) = (128 : Int32) then (1 : Int32) else (0 : Int32))
def sp1 (p1 : Int32) (p2 : Int32) (p3 : Int32) (p4 : Int32) (p5 : Int32) (p6 : Int32) : Int32 := (if (p1 &&& (224 : Int32)) = (192 : Int32) then (if p5 < (2 : Int32) then (-1 : Int32) else (if (sp3 p2) = (0 : Int32) then (-1 : Int32) else (if (((p1 &&& (31 : Int32)) <<< ((6 : Int32) &&& 31)) ||| (p2 &&& (63 : Int32))) < (128 : Int32) then (-1 : Int32) else (if (1114111 : Int32) < (((p1 &&& (31 : Int32)) <<< ((6 : Int32) &&& 31)) ||| (p2 &&& (63 : Int32))) then (-1 : Int32) else (if (((p1 &&& (31 : Int32)) <<< ((6 : Int32) &&& 31)) ||| (p2 &&& (63 : Int32))) < (55296 : Int32) then (p6 + (2 : Int32)) else (if (57343 : Int32) < (((p1 &&& (31 : Int32)) <<< ((6 : Int32) &&& 31)) ||| (p2 &&& (63 : Int32))) then (p6 + (2 : Int32)) else (-1 : Int32))))))) else (if (p1 &&& (240 : Int32)) = (224 : Int32) then (if p5 < (3 : Int32) then (-1 : Int32) else (if (sp3 p2) = (0 : Int32) then (-1 : Int32) else (if (sp3 p3) = (0 : Int32) then (-1 : Int32) else (if ((((p1 &&& (15 : Int32)) <<< ((12 : Int32) &&& 31)) ||| ((p2 &&& (63 : Int32)) <<< ((6 : Int32) &&& 31))) ||| (p3 &&& (63 : Int32))) < (2048 : Int32) then (-1 : Int32) else (if (1114111 : Int32) < ((((p1 &&& (15 : Int32)) <<< ((12 : Int32) &&& 31)) ||| ((p2 &&& (63 : Int32)) <<< ((6 : Int32) &&& 31))) ||| (p3 &&& (63 : Int32))) then (-1 : Int32) else (if ((((p1 &&& (15 : Int32)) <<< ((12 : Int32) &&& 31)) ||| ((p2 &&& (63 : Int32)) <<< ((6 : Int32) &&& 31))) ||| (p3 &&& (63 : Int32))) < (55296 : Int32) then (p6 + (3 : Int32)) else (if (57343 : Int32) < ((((p1 &&& (15 : Int32)) <<< ((12 : Int32) &&& 31)) ||| ((p2 &&& (63 : Int32)) <<< ((6 : Int32) &&& 31))) ||| (p3 &&& (63 : Int32))) then (p6 + (3 : Int32)) else (-1 : Int32)))))))) else (if (p1 &&& (248 : Int32)) = (240 : Int32) then (if p5 < (4 : Int32) then (-1 : Int32) else (if (sp3 p2) = (0 : Int32) then (-1 : Int32) else (if (sp3 p3) = (0 : Int32) then (-1 : Int32) else (if (sp3 p4) = (0 : Int32) then (-1 : Int32) else (if (((((p1 &&& (7 : Int32)) <<< ((18 : Int32) &&& 31)) ||| ((p2 &&& (63 : Int32)) <<< ((12 : Int32) &&& 31))) ||| ((p3 &&& (63 : Int32)) <<< ((6 : Int32) &&& 31))) ||| (p4 &&& (63 : Int32))) < (65536 : Int32) then (-1 : Int32) else (if (1114111 : Int32) < (((((p1 &&& (7 : Int32)) <<< ((18 : Int32) &&& 31)) ||| ((p2 &&& (63 : Int32)) <<< ((12 : Int32) &&& 31))) ||| ((p3 &&& (63 : Int32)) <<< ((6 : Int32) &&& 31))) ||| (p4 &&& (63 : Int32))) then (-1 : Int32) else (if (((((p1 &&& (7 : Int32)) <<< ((18 : Int32) &&& 31)) ||| ((p2 &&& (63 : Int32)) <<< ((12 : Int32) &&& 31))) ||| ((p3 &&& (63 : Int32)) <<< ((6 : Int32) &&& 31))) ||| (p4 &&& (63 : Int32))) < (55296 : Int32) then (p6 + (4 : Int32)) else (if (57343 : Int32) < (((((p1 &&& (7 : Int32)) <<< ((18 : Int32) &&& 31)) ||| ((p2 &&& (63 : Int32)) <<< ((12 : Int32) &&& 31))) ||| ((p3 &&& (63 : Int32)) <<< ((6 : Int32) &&& 31))) ||| (p4 &&& (63 : Int32))) then (p6 + (4 : Int32)) else (-1 : Int32))))))))) else (-1 : Int32))))
def v2_7 (p2 : Int32) (b0 : Int32) (b1 : Int32) (b2 : Int32) (b3 : Int32) (b4 : Int32) : Int32 := ((own_at b0 b1 b2 b3 b4 p2) &&& (255 : Int32))
def j2_1_L3 (p2 : Int32) (b0 : Int32) (b1 : Int32) (b2 : Int32) (b3 : Int32) (b4 : Int32) : Int32 := (if (v2_7 p2 b0 b1 b2 b3 b4) < (194 : Int32) then (0 : Int32) else (if (223 : Int32) < (v2_7 p2 b0 b1 b2 b3 b4) then (if (239 : Int32) < (v2_7 p2 b0 b1 b2 b3 b4) then (if (244 : Int32) < (v2_7 p2 b0 b1 b2 b3 b4) then (0 : Int32) else (if (v2_7 p2 b0 b1 b2 b3 b4) = (240 : Int32) then (4 : Int32) else (if (v2_7 p2 b0 b1 b2 b3 b4) = (244 : Int32) then (4 : Int32) else (4 : Int32)))) else (if (v2_7 p2 b0 b1 b2 b3 b4) = (224 : Int32) then (3 : Int32) else (if (v2_7 p2 b0 b1 b2 b3 b4) = (237 : Int32) then (3 : Int32) else (3 : Int32)))) else (2 : Int32)))
def j2_1_L4 (p2 : Int32) (b0 : Int32) (b1 : Int32) (b2 : Int32) (b3 : Int32) (b4 : Int32) : Int32 := (if (v2_7 p2 b0 b1 b2 b3 b4) < (194 : Int32) then (128 : Int32) else (if (223 : Int32) < (v2_7 p2 b0 b1 b2 b3 b4) then (if (239 : Int32) < (v2_7 p2 b0 b1 b2 b3 b4) then (if (244 : Int32) < (v2_7 p2 b0 b1 b2 b3 b4) then (128 : Int32) else (if (v2_7 p2 b0 b1 b2 b3 b4) = (240 : Int32) then (144 : Int32) else (if (v2_7 p2 b0 b1 b2 b3 b4) = (244 : Int32) then (128 : Int32) else (128 : Int32)))) else (if (v2_7 p2 b0 b1 b2 b3 b4) = (224 : Int32) then (160 : Int32) else (if (v2_7 p2 b0 b1 b2 b3 b4) = (237 : Int32) then (128 : Int32) else (128 : Int32)))) else (128 : Int32)))
def j2_1_L5 (p2 : Int32) (b0 : Int32) (b1 : Int32) (b2 : Int32) (b3 : Int32) (b4 : Int32) : Int32 := (if (v2_7 p2 b0 b1 b2 b3 b4) < (194 : Int32) then (191 : Int32) else (if (223 : Int32) < (v2_7 p2 b0 b1 b2 b3 b4) then (if (239 : Int32) < (v2_7 p2 b0 b1 b2 b3 b4) then (if (244 : Int32) < (v2_7 p2 b0 b1 b2 b3 b4) then (191 : Int32) else (if (v2_7 p2 b0 b1 b2 b3 b4) = (240 : Int32) then (191 : Int32) else (if (v2_7 p2 b0 b1 b2 b3 b4) = (244 : Int32) then (143 : Int32) else (191 : Int32)))) else (if (v2_7 p2 b0 b1 b2 b3 b4) = (224 : Int32) then (191 : Int32) else (if (v2_7 p2 b0 b1 b2 b3 b4) = (237 : Int32) then (159 : Int32) else (191 : Int32)))) else (191 : Int32)))
def j2_2_S0 (p2 : Int32) (b0 : Int32) (b1 : Int32) (b2 : Int32) (b3 : Int32) (b4 : Int32) : Int32 := (if (0 : Int32) < (j2_1_L3 p2 b0 b1 b2 b3 b4) then (if (5 : Int32) < (p2 + (j2_1_L3 p2 b0 b1 b2 b3 b4)) then (0 : Int32) else (1 : Int32)) else (0 : Int32))
def j2_3_S0 (p2 : Int32) (b0 : Int32) (b1 : Int32) (b2 : Int32) (b3 : Int32) (b4 : Int32) : Int32 := (if ((own_at b0 b1 b2 b3 b4 (p2 + (1 : Int32))) &&& (255 : Int32)) < (j2_1_L4 p2 b0 b1 b2 b3 b4) then (0 : Int32) else (if (j2_1_L5 p2 b0 b1 b2 b3 b4) < ((own_at b0 b1 b2 b3 b4 (p2 + (1 : Int32))) &&& (255 : Int32)) then (0 : Int32) else (1 : Int32)))
def j2_4_S0 (p2 : Int32) (b0 : Int32) (b1 : Int32) (b2 : Int32) (b3 : Int32) (b4 : Int32) : Int32 := (if ((own_at b0 b1 b2 b3 b4 (p2 + (2 : Int32))) &&& (255 : Int32)) < (128 : Int32) then (0 : Int32) else (if (191 : Int32) < ((own_at b0 b1 b2 b3 b4 (p2 + (2 : Int32))) &&& (255 : Int32)) then (0 : Int32) else (1 : Int32)))
def j2_5_S0 (p2 : Int32) (b0 : Int32) (b1 : Int32) (b2 : Int32) (b3 : Int32) (b4 : Int32) : Int32 := (if ((own_at b0 b1 b2 b3 b4 (p2 + (3 : Int32))) &&& (255 : Int32)) < (128 : Int32) then (0 : Int32) else (if (191 : Int32) < ((own_at b0 b1 b2 b3 b4 (p2 + (3 : Int32))) &&& (255 : Int32)) then (0 : Int32) else (1 : Int32)))
def sp2 (p2 : Int32) (b0 : Int32) (b1 : Int32) (b2 : Int32) (b3 : Int32) (b4 : Int32) : Int32 := (if (j2_2_S0 p2 b0 b1 b2 b3 b4) = (0 : Int32) then (if (j2_2_S0 p2 b0 b1 b2 b3 b4) = (0 : Int32) then (-1 : Int32) else (p2 + (j2_1_L3 p2 b0 b1 b2 b3 b4))) else (if (1 : Int32) < (j2_1_L3 p2 b0 b1 b2 b3 b4) then (if (j2_3_S0 p2 b0 b1 b2 b3 b4) = (0 : Int32) then (if (j2_3_S0 p2 b0 b1 b2 b3 b4) = (0 : Int32) then (-1 : Int32) else (p2 + (j2_1_L3 p2 b0 b1 b2 b3 b4))) else (if (2 : Int32) < (j2_1_L3 p2 b0 b1 b2 b3 b4) then (if (j2_4_S0 p2 b0 b1 b2 b3 b4) = (0 : Int32) then (if (j2_4_S0 p2 b0 b1 b2 b3 b4) = (0 : Int32) then (-1 : Int32) else (p2 + (j2_1_L3 p2 b0 b1 b2 b3 b4))) else (if (3 : Int32) < (j2_1_L3 p2 b0 b1 b2 b3 b4) then (if (j2_5_S0 p2 b0 b1 b2 b3 b4) = (0 : Int32) then (if (j2_5_S0 p2 b0 b1 b2 b3 b4) = (0 : Int32) then (-1 : Int32) else (p2 + (j2_1_L3 p2 b0 b1 b2 b3 b4))) else (if (j2_5_S0 p2 b0 b1 b2 b3 b4) = (0 : Int32) then (-1 : Int32) else (p2 + (j2_1_L3 p2 b0 b1 b2 b3 b4)))) else (if (j2_4_S0 p2 b0 b1 b2 b3 b4) = (0 : Int32) then (-1 : Int32) else (p2 + (j2_1_L3 p2 b0 b1 b2 b3 b4))))) else (if (j2_3_S0 p2 b0 b1 b2 b3 b4) = (0 : Int32) then (-1 : Int32) else (p2 + (j2_1_L3 p2 b0 b1 b2 b3 b4))))) else (if (j2_2_S0 p2 b0 b1 b2 b3 b4) = (0 : Int32) then (-1 : Int32) else (p2 + (j2_1_L3 p2 b0 b1 b2 b3 b4)))))
def sp0 (p1 : Int32) (p2 : Int32) (p3 : Int32) (p4 : Int32) (p5 : Int32) (p6 : Int32) : Int32 := (if ((p6 &&& (2147483647 : Int32)) % (5 : Int32)) = (0 : Int32) then (if (sp2 (0 : Int32) (nar .byte (p1.toInt8.toInt32)) (nar .byte (p2.toInt8.toInt32)) (nar .byte (p3.toInt8.toInt32)) (nar .byte (p4.toInt8.toInt32)) (nar .byte (p5.toInt8.toInt32))) = (sp1 ((nar .byte (p1.toInt8.toInt32)) &&& (255 : Int32)) ((nar .byte (p2.toInt8.toInt32)) &&& (255 : Int32)) ((nar .byte (p3.toInt8.toInt32)) &&& (255 : Int32)) ((nar .byte (p4.toInt8.toInt32)) &&& (255 : Int32)) (5 : Int32) (0 : Int32)) then (1 : Int32) else (0 : Int32)) else (if ((p6 &&& (2147483647 : Int32)) % (5 : Int32)) = (1 : Int32) then (if (sp2 (1 : Int32) (nar .byte (p1.toInt8.toInt32)) (nar .byte (p2.toInt8.toInt32)) (nar .byte (p3.toInt8.toInt32)) (nar .byte (p4.toInt8.toInt32)) (nar .byte (p5.toInt8.toInt32))) = (sp1 ((nar .byte (p2.toInt8.toInt32)) &&& (255 : Int32)) ((nar .byte (p3.toInt8.toInt32)) &&& (255 : Int32)) ((nar .byte (p4.toInt8.toInt32)) &&& (255 : Int32)) ((nar .byte (p5.toInt8.toInt32)) &&& (255 : Int32)) (4 : Int32) (1 : Int32)) then (1 : Int32) else (0 : Int32)) else (if ((p6 &&& (2147483647 : Int32)) % (5 : Int32)) = (2 : Int32) then (if (sp2 (2 : Int32) (nar .byte (p1.toInt8.toInt32)) (nar .byte (p2.toInt8.toInt32)) (nar .byte (p3.toInt8.toInt32)) (nar .byte (p4.toInt8.toInt32)) (nar .byte (p5.toInt8.toInt32))) = (sp1 ((nar .byte (p3.toInt8.toInt32)) &&& (255 : Int32)) ((nar .byte (p4.toInt8.toInt32)) &&& (255 : Int32)) ((nar .byte (p5.toInt8.toInt32)) &&& (255 : Int32)) (0 : Int32) (3 : Int32) (2 : Int32)) then (1 : Int32) else (0 : Int32)) else (if ((p6 &&& (2147483647 : Int32)) % (5 : Int32)) = (3 : Int32) then (if (sp2 (3 : Int32) (nar .byte (p1.toInt8.toInt32)) (nar .byte (p2.toInt8.toInt32)) (nar .byte (p3.toInt8.toInt32)) (nar .byte (p4.toInt8.toInt32)) (nar .byte (p5.toInt8.toInt32))) = (sp1 ((nar .byte (p4.toInt8.toInt32)) &&& (255 : Int32)) ((nar .byte (p5.toInt8.toInt32)) &&& (255 : Int32)) (0 : Int32) (0 : Int32) (2 : Int32) (3 : Int32)) then (1 : Int32) else (0 : Int32)) else (if (sp2 (4 : Int32) (nar .byte (p1.toInt8.toInt32)) (nar .byte (p2.toInt8.toInt32)) (nar .byte (p3.toInt8.toInt32)) (nar .byte (p4.toInt8.toInt32)) (nar .byte (p5.toInt8.toInt32))) = (sp1 ((nar .byte (p5.toInt8.toInt32)) &&& (255 : Int32)) (0 : Int32) (0 : Int32) (0 : Int32) (1 : Int32) (4 : Int32)) then (1 : Int32) else (0 : Int32))))))
theorem own_fin (p : Int32) (n : Nat) (h0 : 0 ≤ p.toInt) (h1 : p.toInt < (n : Int)) : ∃ k : Fin n, p = Int32.ofNat k.val := by
  refine ⟨⟨p.toInt.toNat, by omega⟩, ?_⟩
  apply Int32.toInt_inj.mp
  have h2 := p.toInt_lt
  show p.toInt = (Int32.ofNat p.toInt.toNat).toInt
  rw [Int32.toInt_ofNat_of_lt (by omega)]
  omega
theorem own_ltw {x a b : Int32} (h : x < a) (hab : a.toInt ≤ b.toInt) : x < b := Int32.lt_iff_toInt_lt.mpr (Int.lt_of_lt_of_le (Int32.lt_iff_toInt_lt.mp h) hab)
theorem own_gtw {x a b : Int32} (h : a < x) (hab : b.toInt ≤ a.toInt + 1) : ¬ x < b := fun q => by
  have h1 := Int32.lt_iff_toInt_lt.mp h
  have h2 := Int32.lt_iff_toInt_lt.mp q
  omega
theorem own_eqw {x a b : Int32} (h : x = a) (hab : a ≠ b) : ¬ x = b := fun q => hab (h.symm.trans q)
theorem own_at_at (b0 b1 b2 b3 b4 j : Int32) (h : ¬ j < 0 ∧ j < (5 : Int32)) : ([(.int b0), (.int b1), (.int b2), (.int b3), (.int b4)] : List Value).getD (j).toNatClampNeg (.int (0 : Int32)) = .int (own_at b0 b1 b2 b3 b4 j) := by
  have e0 : (0 : Int32).toInt = 0 := by decide
  have e5 : (5 : Int32).toInt = 5 := by decide
  have h1 : ¬ j.toInt < (0 : Int32).toInt := fun q => h.1 (Int32.lt_iff_toInt_lt.mpr q)
  have h2 := Int32.lt_iff_toInt_lt.mp h.2
  obtain ⟨k, rfl⟩ := own_fin j 5 (by omega) (by omega)
  clear h h1 h2
  match k with
  | ⟨0, _⟩ => rfl
  | ⟨1, _⟩ => rfl
  | ⟨2, _⟩ => rfl
  | ⟨3, _⟩ => rfl
  | ⟨4, _⟩ => rfl
theorem own_m5 (p : Int32) (h0 : ¬ ((p &&& (2147483647 : Int32)) % (5 : Int32)) = (0 : Int32)) (h1 : ¬ ((p &&& (2147483647 : Int32)) % (5 : Int32)) = (1 : Int32)) (h2 : ¬ ((p &&& (2147483647 : Int32)) % (5 : Int32)) = (2 : Int32)) (h3 : ¬ ((p &&& (2147483647 : Int32)) % (5 : Int32)) = (3 : Int32)) : ((p &&& (2147483647 : Int32)) % (5 : Int32)) = (4 : Int32) := by
  have a1 := c_mask p 2147483647 31 (by decide) (by decide)
  have a2 := (c_irem (p &&& 2147483647) 5 5 (by decide)).1 (by omega)
  obtain ⟨k, hk⟩ := own_fin ((p &&& 2147483647) % 5) 5 (by omega) (by omega)
  rw [hk] at h0 h1 h2 h3 ⊢
  clear hk a1 a2
  revert k
  decide
theorem own_255 (b : Int32) : ∃ k : Fin 256, (b &&& (255 : Int32)) = Int32.ofNat k.val :=
  own_fin (b &&& 255) 256 (by rw [c_mask b 255 8 (by decide) (by decide)]; omega) (by rw [c_mask b 255 8 (by decide) (by decide)]; omega)
def own_N (f : Int32) : Int32 := (if f < (194 : Int32) then (0 : Int32) else (if (223 : Int32) < f then (if (239 : Int32) < f then (if (244 : Int32) < f then (0 : Int32) else (if f = (240 : Int32) then (4 : Int32) else (if f = (244 : Int32) then (4 : Int32) else (4 : Int32)))) else (if f = (224 : Int32) then (3 : Int32) else (if f = (237 : Int32) then (3 : Int32) else (3 : Int32)))) else (2 : Int32)))
def own_LO (f : Int32) : Int32 := (if f < (194 : Int32) then (128 : Int32) else (if (223 : Int32) < f then (if (239 : Int32) < f then (if (244 : Int32) < f then (128 : Int32) else (if f = (240 : Int32) then (144 : Int32) else (if f = (244 : Int32) then (128 : Int32) else (128 : Int32)))) else (if f = (224 : Int32) then (160 : Int32) else (if f = (237 : Int32) then (128 : Int32) else (128 : Int32)))) else (128 : Int32)))
def own_HI (f : Int32) : Int32 := (if f < (194 : Int32) then (191 : Int32) else (if (223 : Int32) < f then (if (239 : Int32) < f then (if (244 : Int32) < f then (191 : Int32) else (if f = (240 : Int32) then (191 : Int32) else (if f = (244 : Int32) then (143 : Int32) else (191 : Int32)))) else (if f = (224 : Int32) then (191 : Int32) else (if f = (237 : Int32) then (159 : Int32) else (191 : Int32)))) else (191 : Int32)))
def own_v0 (p2 f : Int32) : Int32 := (if (0 : Int32) < (own_N f) then (if (5 : Int32) < (p2 + (own_N f)) then (0 : Int32) else (1 : Int32)) else (0 : Int32))
def own_v1 (f x1 : Int32) : Int32 := (if x1 < (own_LO f) then (0 : Int32) else (if (own_HI f) < x1 then (0 : Int32) else (1 : Int32)))
def own_v2 (x2 : Int32) : Int32 := (if x2 < (128 : Int32) then (0 : Int32) else (if (191 : Int32) < x2 then (0 : Int32) else (1 : Int32)))
def own_G (p2 f x1 x2 x3 : Int32) : Int32 := (if (own_v0 p2 f) = (0 : Int32) then (if (own_v0 p2 f) = (0 : Int32) then (-1 : Int32) else (p2 + (own_N f))) else (if (1 : Int32) < (own_N f) then (if (own_v1 f x1) = (0 : Int32) then (if (own_v1 f x1) = (0 : Int32) then (-1 : Int32) else (p2 + (own_N f))) else (if (2 : Int32) < (own_N f) then (if (own_v2 x2) = (0 : Int32) then (if (own_v2 x2) = (0 : Int32) then (-1 : Int32) else (p2 + (own_N f))) else (if (3 : Int32) < (own_N f) then (if (own_v2 x3) = (0 : Int32) then (if (own_v2 x3) = (0 : Int32) then (-1 : Int32) else (p2 + (own_N f))) else (if (own_v2 x3) = (0 : Int32) then (-1 : Int32) else (p2 + (own_N f)))) else (if (own_v2 x2) = (0 : Int32) then (-1 : Int32) else (p2 + (own_N f))))) else (if (own_v1 f x1) = (0 : Int32) then (-1 : Int32) else (p2 + (own_N f))))) else (if (own_v0 p2 f) = (0 : Int32) then (-1 : Int32) else (p2 + (own_N f)))))
theorem own_sp2 (p2 b0 b1 b2 b3 b4 : Int32) : sp2 p2 b0 b1 b2 b3 b4 = own_G p2 ((own_at b0 b1 b2 b3 b4 p2) &&& (255 : Int32)) ((own_at b0 b1 b2 b3 b4 (p2 + (1 : Int32))) &&& (255 : Int32)) ((own_at b0 b1 b2 b3 b4 (p2 + (2 : Int32))) &&& (255 : Int32)) ((own_at b0 b1 b2 b3 b4 (p2 + (3 : Int32))) &&& (255 : Int32)) := rfl
theorem own_Nt : ∀ k : Fin 256, own_N (Int32.ofNat k.val) = (if 194 ≤ k.val ∧ k.val ≤ 223 then (2 : Int32) else if 224 ≤ k.val ∧ k.val ≤ 239 then (3 : Int32) else if 240 ≤ k.val ∧ k.val ≤ 244 then (4 : Int32) else (0 : Int32)) := by decide +kernel
theorem own_Lt : ∀ k : Fin 256, own_LO (Int32.ofNat k.val) = (if k.val = 224 then (160 : Int32) else if k.val = 240 then (144 : Int32) else (128 : Int32)) := by decide +kernel
theorem own_Ht : ∀ k : Fin 256, own_HI (Int32.ofNat k.val) = (if k.val = 237 then (159 : Int32) else if k.val = 244 then (143 : Int32) else (191 : Int32)) := by decide +kernel
theorem own_n4 (p2 b0 b1 b2 b3 b4 : Int32) : ¬ ((4 : Int32) < (j2_1_L3 p2 b0 b1 b2 b3 b4)) := by
  show ¬ ((4 : Int32) < own_N ((own_at b0 b1 b2 b3 b4 p2) &&& (255 : Int32)))
  obtain ⟨k, hk⟩ := own_255 (own_at b0 b1 b2 b3 b4 p2)
  rw [hk, own_Nt]
  split
  · decide
  · split
    · decide
    · split <;> decide
theorem own_N4 (f : Int32) (k : Fin 256) (hk : f = Int32.ofNat k.val) : (own_N f).toInt ≤ 4 ∧ 0 ≤ (own_N f).toInt := by
  rw [hk, own_Nt]
  split
  · decide
  · split
    · decide
    · split <;> decide
theorem own_bd (b0 b1 b2 b3 b4 p2 j : Int32) (hat : ¬ p2 < 0 ∧ p2 < (5 : Int32)) (hj : 0 ≤ j.toInt) (hj' : j.toInt ≤ 3) (hv : ¬ (j2_2_S0 p2 b0 b1 b2 b3 b4) = (0 : Int32)) (hn : j < (j2_1_L3 p2 b0 b1 b2 b3 b4)) : ¬ (p2 + j) < 0 ∧ (p2 + j) < (5 : Int32) := by
  have e0 : (0 : Int32).toInt = 0 := by decide
  have e5 : (5 : Int32).toInt = 5 := by decide
  have h1 : ¬ p2.toInt < (0 : Int32).toInt := fun q => hat.1 (Int32.lt_iff_toInt_lt.mpr q)
  have h2 := Int32.lt_iff_toInt_lt.mp hat.2
  have h3 := Int32.lt_iff_toInt_lt.mp hn
  obtain ⟨k, hk⟩ := own_255 (own_at b0 b1 b2 b3 b4 p2)
  have h4 : (j2_1_L3 p2 b0 b1 b2 b3 b4).toInt ≤ 4 ∧ 0 ≤ (j2_1_L3 p2 b0 b1 b2 b3 b4).toInt := own_N4 ((own_at b0 b1 b2 b3 b4 p2) &&& (255 : Int32)) k hk
  unfold j2_2_S0 at hv
  generalize (j2_1_L3 p2 b0 b1 b2 b3 b4) = n at *
  have s1 := c_iadd p2 n
  have s2 := c_iadd p2 j
  have r1 := rng32 (p2 + n)
  have r2 := rng32 (p2 + j)
  by_cases q1 : (0 : Int32) < n
  · rw [if_pos q1] at hv
    by_cases q2 : (5 : Int32) < (p2 + n)
    · rw [if_pos q2] at hv; exact absurd rfl hv
    · have q3 : ¬ (5 : Int32).toInt < (p2 + n).toInt := fun z => q2 (Int32.lt_iff_toInt_lt.mpr z)
      refine ⟨fun z => ?_, Int32.lt_iff_toInt_lt.mpr (by omega)⟩
      have := Int32.lt_iff_toInt_lt.mp z
      omega
  · rw [if_neg q1] at hv; exact absurd rfl hv
theorem own_G0 (p2 f x1 x2 x3 : Int32) (h : own_N f = 0) : own_G p2 f x1 x2 x3 = -1 := by
  have h0 : own_v0 p2 f = 0 := by unfold own_v0; rw [h]; rfl
  unfold own_G
  rw [if_pos h0, if_pos h0]
theorem own_v0p (p2 f : Int32) (h : (0 : Int32) < own_N f) : own_v0 p2 f = if (5 : Int32) < p2 + own_N f then (0 : Int32) else (1 : Int32) := by
  unfold own_v0; rw [if_pos h]
theorem own_10 : ¬ ((1 : Int32) = (0 : Int32)) := by decide
theorem own_c12 : ((1 : Int32) < 2) = True := eq_true (by decide)
theorem own_c13 : ((1 : Int32) < 3) = True := eq_true (by decide)
theorem own_c14 : ((1 : Int32) < 4) = True := eq_true (by decide)
theorem own_c22 : ((2 : Int32) < 2) = False := eq_false (by decide)
theorem own_c23 : ((2 : Int32) < 3) = True := eq_true (by decide)
theorem own_c24 : ((2 : Int32) < 4) = True := eq_true (by decide)
theorem own_c33 : ((3 : Int32) < 3) = False := eq_false (by decide)
theorem own_c34 : ((3 : Int32) < 4) = True := eq_true (by decide)
theorem own_G2 (p2 f x1 x2 x3 : Int32) (h : own_N f = 2) : own_G p2 f x1 x2 x3 = if (5 : Int32) < p2 + 2 then -1 else if own_v1 f x1 = 0 then -1 else p2 + 2 := by
  have h0 := own_v0p p2 f (by rw [h]; decide)
  unfold own_G
  rw [h0, h]
  by_cases q : (5 : Int32) < p2 + 2 <;> by_cases r : own_v1 f x1 = 0 <;> simp only [q, r, own_10, own_c12, own_c13, own_c14, own_c22, own_c23, own_c24, own_c33, own_c34, if_true, if_false]
theorem own_G3 (p2 f x1 x2 x3 : Int32) (h : own_N f = 3) : own_G p2 f x1 x2 x3 = if (5 : Int32) < p2 + 3 then -1 else if own_v1 f x1 = 0 then -1 else if own_v2 x2 = 0 then -1 else p2 + 3 := by
  have h0 := own_v0p p2 f (by rw [h]; decide)
  unfold own_G
  rw [h0, h]
  by_cases q : (5 : Int32) < p2 + 3 <;> by_cases r : own_v1 f x1 = 0 <;> by_cases t : own_v2 x2 = 0 <;> simp only [q, r, t, own_10, own_c12, own_c13, own_c14, own_c22, own_c23, own_c24, own_c33, own_c34, if_true, if_false]
theorem own_G4 (p2 f x1 x2 x3 : Int32) (h : own_N f = 4) : own_G p2 f x1 x2 x3 = if (5 : Int32) < p2 + 4 then -1 else if own_v1 f x1 = 0 then -1 else if own_v2 x2 = 0 then -1 else if own_v2 x3 = 0 then -1 else p2 + 4 := by
  have h0 := own_v0p p2 f (by rw [h]; decide)
  unfold own_G
  rw [h0, h]
  by_cases q : (5 : Int32) < p2 + 4 <;> by_cases r : own_v1 f x1 = 0 <;> by_cases t : own_v2 x2 = 0 <;> by_cases u : own_v2 x3 = 0 <;> simp only [q, r, t, u, own_10, own_c12, own_c13, own_c14, own_c22, own_c23, own_c24, own_c33, own_c34, if_true, if_false]
theorem own_cat (a b : Int32) (q : Int32) (k : Nat) (hq : q.toBitVec.toNat % 32 = k) (hk : k ≤ 18) (ha : 0 ≤ a.toInt) (ha' : a.toInt < 4096) (hb : 0 ≤ b.toInt) (hb' : b.toInt < ((2 ^ k : Nat) : Int)) : ((a <<< (q &&& 31)) ||| b).toInt = a.toInt * ((2 ^ k : Nat) : Int) + b.toInt := by
  have h1 := c_ishl a q k hq
  have r1 := rng32 (a <<< (q &&& 31))
  have r2 := rng32 ((a <<< (q &&& 31)) ||| b)
  have hp : (2 ^ k : Nat) ≤ 2 ^ 18 := Nat.pow_le_pow_right (by decide) hk
  have hp0 : 0 < (2 ^ k : Nat) := Nat.pow_pos (by decide)
  have hm : a.toInt * ((2 ^ k : Nat) : Int) < 4096 * 262144 := by
    calc a.toInt * ((2 ^ k : Nat) : Int) ≤ a.toInt * 262144 := Int.mul_le_mul_of_nonneg_left (by omega) ha
      _ < 4096 * 262144 := by omega
  have hm0 : 0 ≤ a.toInt * ((2 ^ k : Nat) : Int) := Int.mul_nonneg ha (by omega)
  have e1 : (a <<< (q &&& 31)).toInt = a.toInt * ((2 ^ k : Nat) : Int) := by omega
  have h2 := c_or (a <<< (q &&& 31)) b k (by omega) ((2 ^ k : Nat) : Int) rfl (by rw [e1]; exact Int.mul_emod_left _ _) hb hb'
  omega
theorem own_shl (a q : Int32) (k : Nat) (hq : q.toBitVec.toNat % 32 = k) (P : Int) (hP : P = ((2 ^ k : Nat) : Int)) (hk : P ≤ 262144) (hk0 : 0 ≤ P) (ha : 0 ≤ a.toInt) (ha' : a.toInt < 4096) : (a <<< (q &&& 31)).toInt = a.toInt * P := by
  have h1 := c_ishl a q k hq
  rw [← hP] at h1
  have r1 := rng32 (a <<< (q &&& 31))
  have hm : a.toInt * P ≤ a.toInt * 262144 := Int.mul_le_mul_of_nonneg_left hk ha
  have hm0 : 0 ≤ a.toInt * P := Int.mul_nonneg ha hk0
  generalize a.toInt * P = w at *
  omega
theorem own_or (a b : Int32) (k : Nat) (hk : k ≤ 31) (P : Int) (hP : P = ((2 ^ k : Nat) : Int)) (h1 : a.toInt % P = 0) (h2 : 0 ≤ a.toInt) (h3 : a.toInt < 1073741824) (hP' : P ≤ 262144) (hb : 0 ≤ b.toInt) (hb' : b.toInt < P) : (a ||| b).toInt = a.toInt + b.toInt := by
  have h := c_or a b k hk P hP h1 hb hb'
  have r := rng32 (a ||| b)
  omega
theorem own_on (k : Fin 256) : (Int32.ofNat k.val).toInt = (k.val : Int) := Int32.toInt_ofNat_of_lt (by omega)
theorem own_m (k : Fin 256) (m : Int32) (e : Nat) (he : e ≤ 31) (hm : m.toBitVec.toNat = 2 ^ e - 1) : (Int32.ofNat k.val &&& m).toInt = (k.val : Int) % ((2 ^ e : Nat) : Int) := by
  rw [c_mask _ m e he hm, own_on]
theorem own_cp2 (k j : Fin 256) : (((Int32.ofNat k.val &&& (31 : Int32)) <<< ((6 : Int32) &&& 31)) ||| (Int32.ofNat j.val &&& (63 : Int32))).toInt = ((k.val : Int) % 32) * 64 + (j.val : Int) % 64 := by
  have a1 := own_m k 31 5 (by decide) (by decide)
  have a2 := own_m j 63 6 (by decide) (by decide)
  simp only [Nat.reducePow] at a1 a2
  have b1 := own_shl (Int32.ofNat k.val &&& (31 : Int32)) 6 6 (by decide) 64 (by decide) (by decide) (by decide) (by omega) (by omega)
  rw [own_or _ _ 6 (by decide) 64 (by decide) (by omega) (by omega) (by omega) (by decide) (by omega) (by omega)]
  omega
theorem own_cp3 (k j i : Fin 256) : ((((Int32.ofNat k.val &&& (15 : Int32)) <<< ((12 : Int32) &&& 31)) ||| ((Int32.ofNat j.val &&& (63 : Int32)) <<< ((6 : Int32) &&& 31))) ||| (Int32.ofNat i.val &&& (63 : Int32))).toInt = ((k.val : Int) % 16) * 4096 + ((j.val : Int) % 64) * 64 + (i.val : Int) % 64 := by
  have a1 := own_m k 15 4 (by decide) (by decide)
  have a2 := own_m j 63 6 (by decide) (by decide)
  have a3 := own_m i 63 6 (by decide) (by decide)
  simp only [Nat.reducePow] at a1 a2 a3
  have b1 := own_shl (Int32.ofNat k.val &&& (15 : Int32)) 12 12 (by decide) 4096 (by decide) (by decide) (by decide) (by omega) (by omega)
  have b2 := own_shl (Int32.ofNat j.val &&& (63 : Int32)) 6 6 (by decide) 64 (by decide) (by decide) (by decide) (by omega) (by omega)
  have b3 := own_or ((Int32.ofNat k.val &&& (15 : Int32)) <<< ((12 : Int32) &&& 31)) ((Int32.ofNat j.val &&& (63 : Int32)) <<< ((6 : Int32) &&& 31)) 12 (by decide) 4096 (by decide) (by omega) (by omega) (by omega) (by decide) (by omega) (by omega)
  rw [own_or _ _ 6 (by decide) 64 (by decide) (by omega) (by omega) (by omega) (by decide) (by omega) (by omega)]
  omega
theorem own_cp4 (k j i h : Fin 256) : (((((Int32.ofNat k.val &&& (7 : Int32)) <<< ((18 : Int32) &&& 31)) ||| ((Int32.ofNat j.val &&& (63 : Int32)) <<< ((12 : Int32) &&& 31))) ||| ((Int32.ofNat i.val &&& (63 : Int32)) <<< ((6 : Int32) &&& 31))) ||| (Int32.ofNat h.val &&& (63 : Int32))).toInt = ((k.val : Int) % 8) * 262144 + ((j.val : Int) % 64) * 4096 + ((i.val : Int) % 64) * 64 + (h.val : Int) % 64 := by
  have a1 := own_m k 7 3 (by decide) (by decide)
  have a2 := own_m j 63 6 (by decide) (by decide)
  have a3 := own_m i 63 6 (by decide) (by decide)
  have a4 := own_m h 63 6 (by decide) (by decide)
  simp only [Nat.reducePow] at a1 a2 a3 a4
  have b1 := own_shl (Int32.ofNat k.val &&& (7 : Int32)) 18 18 (by decide) 262144 (by decide) (by decide) (by decide) (by omega) (by omega)
  have b2 := own_shl (Int32.ofNat j.val &&& (63 : Int32)) 12 12 (by decide) 4096 (by decide) (by decide) (by decide) (by omega) (by omega)
  have b3 := own_shl (Int32.ofNat i.val &&& (63 : Int32)) 6 6 (by decide) 64 (by decide) (by decide) (by decide) (by omega) (by omega)
  have b4 := own_or ((Int32.ofNat k.val &&& (7 : Int32)) <<< ((18 : Int32) &&& 31)) ((Int32.ofNat j.val &&& (63 : Int32)) <<< ((12 : Int32) &&& 31)) 18 (by decide) 262144 (by decide) (by omega) (by omega) (by omega) (by decide) (by omega) (by omega)
  have b5 := own_or (((Int32.ofNat k.val &&& (7 : Int32)) <<< ((18 : Int32) &&& 31)) ||| ((Int32.ofNat j.val &&& (63 : Int32)) <<< ((12 : Int32) &&& 31))) ((Int32.ofNat i.val &&& (63 : Int32)) <<< ((6 : Int32) &&& 31)) 12 (by decide) 4096 (by decide) (by omega) (by omega) (by omega) (by decide) (by omega) (by omega)
  rw [own_or _ _ 6 (by decide) 64 (by decide) (by omega) (by omega) (by omega) (by decide) (by omega) (by omega)]
  omega
theorem own_f1 : ∀ k : Fin 256, ((Int32.ofNat k.val &&& (224 : Int32)) = (192 : Int32) ↔ 192 ≤ k.val ∧ k.val ≤ 223) := by decide +kernel
theorem own_f2 : ∀ k : Fin 256, ((Int32.ofNat k.val &&& (240 : Int32)) = (224 : Int32) ↔ 224 ≤ k.val ∧ k.val ≤ 239) := by decide +kernel
theorem own_f3 : ∀ k : Fin 256, ((Int32.ofNat k.val &&& (248 : Int32)) = (240 : Int32) ↔ 240 ≤ k.val ∧ k.val ≤ 247) := by decide +kernel
theorem own_ct : ∀ k : Fin 256, (sp3 (Int32.ofNat k.val) = (0 : Int32) ↔ ¬ (128 ≤ k.val ∧ k.val ≤ 191)) := by decide +kernel
theorem own_v2t : ∀ k : Fin 256, (own_v2 (Int32.ofNat k.val) = (0 : Int32) ↔ ¬ (128 ≤ k.val ∧ k.val ≤ 191)) := by decide +kernel
theorem own_lo (x : Int32) (n : Int) (hn : x.toInt = n) (y : Int32) (m : Int) (hm : y.toInt = m) : x < y ↔ n < m := by rw [Int32.lt_iff_toInt_lt, hn, hm]
theorem own_v1t (k j : Fin 256) (lo hi : Nat) (hl : own_LO (Int32.ofNat k.val) = Int32.ofNat lo) (hh : own_HI (Int32.ofNat k.val) = Int32.ofNat hi) (hl' : lo < 256) (hh' : hi < 256) : own_v1 (Int32.ofNat k.val) (Int32.ofNat j.val) = (0 : Int32) ↔ ¬ (lo ≤ j.val ∧ j.val ≤ hi) := by
  unfold own_v1
  rw [hl, hh]
  have e1 := own_lo _ _ (own_on j) _ _ (own_on ⟨lo, hl'⟩)
  have e2 := own_lo _ _ (own_on ⟨hi, hh'⟩) _ _ (own_on j)
  simp only at e1 e2
  by_cases q1 : Int32.ofNat j.val < Int32.ofNat lo
  · rw [if_pos q1]
    have := e1.mp q1
    simp; omega
  · rw [if_neg q1]
    have q1' : ¬ ((j.val : Int) < (lo : Int)) := fun z => q1 (e1.mpr z)
    by_cases q2 : Int32.ofNat hi < Int32.ofNat j.val
    · rw [if_pos q2]
      have := e2.mp q2
      simp; omega
    · rw [if_neg q2]
      have q2' : ¬ ((hi : Int) < (j.val : Int)) := fun z => q2 (e2.mpr z)
      constructor
      · intro h; exact absurd h (by decide)
      · intro h; exfalso; omega
theorem own_gt5 (a K n : Int32) (N : Int) (hn : n.toInt = N) (h0 : 0 ≤ N) (h1 : N ≤ 4) (ha : 0 ≤ a.toInt) (ha' : a.toInt ≤ 4) (hK : K.toInt = 5 - a.toInt) : (5 : Int32) < a + n ↔ K < n := by
  rw [Int32.lt_iff_toInt_lt, Int32.lt_iff_toInt_lt]
  have s := c_iadd a n
  have r := rng32 (a + n)
  have e5 : (5 : Int32).toInt = 5 := by decide
  omega
set_option maxHeartbeats 4000000 in
theorem own_eq (k j1 j2 j3 : Fin 256) (a K x1 x2 x3 : Int32) (ha : 0 ≤ a.toInt) (ha' : a.toInt ≤ 4) (hK : K.toInt = 5 - a.toInt)
    (h1 : ¬ K < 2 → x1 = Int32.ofNat j1.val) (h2 : ¬ K < 3 → x2 = Int32.ofNat j2.val) (h3 : ¬ K < 4 → x3 = Int32.ofNat j3.val) :
    own_G a (Int32.ofNat k.val) x1 x2 x3 = sp1 (Int32.ofNat k.val) (Int32.ofNat j1.val) (Int32.ofNat j2.val) (Int32.ofNat j3.val) K a := by
  have l2 : ¬ K < 3 → ¬ K < 2 := fun h q => h (own_ltw q (by decide))
  have l3 : ¬ K < 4 → ¬ K < 3 := fun h q => h (own_ltw q (by decide))
  have hkN := own_Nt k
  have hkL := own_Lt k
  have hkH := own_Ht k
  unfold sp1
  by_cases hA : 192 ≤ k.val ∧ k.val ≤ 223
  · rw [if_pos ((own_f1 k).mpr hA)]
    have g5 := own_gt5 a K 2 2 (by decide) (by decide) (by decide) ha ha' hK
    by_cases hA2 : 194 ≤ k.val
    · rw [if_pos ⟨hA2, hA.2⟩] at hkN
      rw [if_neg (by omega), if_neg (by omega)] at hkL hkH
      rw [own_G2 _ _ _ _ _ hkN]
      by_cases hk2 : K < 2
      · rw [if_pos hk2, if_pos (g5.mpr hk2)]
      · rw [if_neg hk2, if_neg (fun z => hk2 (g5.mp z)), h1 hk2]
        have v1 := own_v1t k j1 128 191 hkL hkH (by decide) (by decide)
        by_cases hc : sp3 (Int32.ofNat j1.val) = (0 : Int32)
        · rw [if_pos hc, if_pos (v1.mpr ((own_ct j1).mp hc))]
        · have hc' : 128 ≤ j1.val ∧ j1.val ≤ 191 := Classical.byContradiction fun z => hc ((own_ct j1).mpr z)
          rw [if_neg hc, if_neg (fun z => v1.mp z hc')]
          have cp := own_cp2 k j1
          rw [if_neg (fun z => by have := (own_lo _ _ cp _ 128 (by decide)).mp z; omega), if_neg (fun z => by have := (own_lo _ 1114111 (by decide) _ _ cp).mp z; omega), if_pos ((own_lo _ _ cp _ 55296 (by decide)).mpr (by omega))]
    · rw [if_neg (by omega), if_neg (by omega), if_neg (by omega)] at hkN
      rw [own_G0 _ _ _ _ _ hkN]
      by_cases hk2 : K < 2
      · rw [if_pos hk2]
      · rw [if_neg hk2]
        by_cases hc : sp3 (Int32.ofNat j1.val) = (0 : Int32)
        · rw [if_pos hc]
        · have hc' : 128 ≤ j1.val ∧ j1.val ≤ 191 := Classical.byContradiction fun z => hc ((own_ct j1).mpr z)
          rw [if_neg hc]
          have cp := own_cp2 k j1
          rw [if_pos ((own_lo _ _ cp _ 128 (by decide)).mpr (by omega))]
  · rw [if_neg (fun z => hA ((own_f1 k).mp z))]
    by_cases hB : 224 ≤ k.val ∧ k.val ≤ 239
    · rw [if_pos ((own_f2 k).mpr hB)]
      have g5 := own_gt5 a K 3 3 (by decide) (by decide) (by decide) ha ha' hK
      rw [if_neg (by omega), if_pos hB] at hkN
      rw [own_G3 _ _ _ _ _ hkN]
      by_cases hk2 : K < 3
      · rw [if_pos hk2, if_pos (g5.mpr hk2)]
      · rw [if_neg hk2, if_neg (fun z => hk2 (g5.mp z)), h1 (l2 hk2), h2 hk2]
        have cp := own_cp3 k j1 j2
        have v1 : own_v1 (Int32.ofNat k.val) (Int32.ofNat j1.val) = (0 : Int32) ↔ ¬ ((if k.val = 224 then 160 else 128) ≤ j1.val ∧ j1.val ≤ (if k.val = 237 then 159 else 191)) := by
          refine own_v1t k j1 _ _ ?_ ?_ ?_ ?_
          · rw [hkL]
            by_cases q : k.val = 224
            · rw [if_pos q, if_pos q]; rfl
            · rw [if_neg q, if_neg q, if_neg (by omega)]; rfl
          · rw [hkH]
            by_cases q : k.val = 237
            · rw [if_pos q, if_pos q]; rfl
            · rw [if_neg q, if_neg q, if_neg (by omega)]; rfl
          · split <;> decide
          · split <;> decide
        by_cases hc : sp3 (Int32.ofNat j1.val) = (0 : Int32)
        · have hc' := (own_ct j1).mp hc
          rw [if_pos hc, if_pos (v1.mpr (by split <;> split <;> omega))]
        · have hc' : 128 ≤ j1.val ∧ j1.val ≤ 191 := Classical.byContradiction fun z => hc ((own_ct j1).mpr z)
          rw [if_neg hc]
          by_cases hd : sp3 (Int32.ofNat j2.val) = (0 : Int32)
          · rw [if_pos hd]
            by_cases w : own_v1 (Int32.ofNat k.val) (Int32.ofNat j1.val) = (0 : Int32)
            · rw [if_pos w]
            · rw [if_neg w, if_pos ((own_v2t j2).mpr ((own_ct j2).mp hd))]
          · have hd' : 128 ≤ j2.val ∧ j2.val ≤ 191 := Classical.byContradiction fun z => hd ((own_ct j2).mpr z)
            rw [if_neg hd, if_neg (fun z => (own_v2t j2).mp z hd')]
            by_cases w : own_v1 (Int32.ofNat k.val) (Int32.ofNat j1.val) = (0 : Int32)
            · rw [if_pos w]
              have w' := v1.mp w
              by_cases e1 : k.val = 224
              · rw [if_pos e1, if_neg (by omega)] at w'
                rw [if_pos ((own_lo _ _ cp _ 2048 (by decide)).mpr (by omega))]
              · rw [if_neg e1] at w'
                by_cases e2 : k.val = 237
                · rw [if_pos e2] at w'
                  rw [if_neg (fun z => by have := (own_lo _ _ cp _ 2048 (by decide)).mp z; omega), if_neg (fun z => by have := (own_lo _ 1114111 (by decide) _ _ cp).mp z; omega), if_neg (fun z => by have := (own_lo _ _ cp _ 55296 (by decide)).mp z; omega), if_neg (fun z => by have := (own_lo _ 57343 (by decide) _ _ cp).mp z; omega)]
                · rw [if_neg e2] at w'
                  exfalso; omega
            · rw [if_neg w]
              have w' : ((if k.val = 224 then 160 else 128) ≤ j1.val ∧ j1.val ≤ (if k.val = 237 then 159 else 191)) := Classical.byContradiction fun z => w (v1.mpr z)
              rw [if_neg (fun z => by have := (own_lo _ _ cp _ 2048 (by decide)).mp z; split at w' <;> omega), if_neg (fun z => by have := (own_lo _ 1114111 (by decide) _ _ cp).mp z; omega)]
              by_cases e3 : k.val ≤ 237
              · rw [if_pos ((own_lo _ _ cp _ 55296 (by decide)).mpr (by split at w' <;> split at w' <;> omega))]
              · rw [if_neg (fun z => by have := (own_lo _ _ cp _ 55296 (by decide)).mp z; omega), if_pos ((own_lo _ 57343 (by decide) _ _ cp).mpr (by omega))]
    · rw [if_neg (fun z => hB ((own_f2 k).mp z))]
      by_cases hC : 240 ≤ k.val ∧ k.val ≤ 247
      · rw [if_pos ((own_f3 k).mpr hC)]
        have g5 := own_gt5 a K 4 4 (by decide) (by decide) (by decide) ha ha' hK
        have cp := own_cp4 k j1 j2 j3
        by_cases hC2 : k.val ≤ 244
        · rw [if_neg (by omega), if_neg (by omega), if_pos ⟨hC.1, hC2⟩] at hkN
          rw [own_G4 _ _ _ _ _ hkN]
          by_cases hk2 : K < 4
          · rw [if_pos hk2, if_pos (g5.mpr hk2)]
          · rw [if_neg hk2, if_neg (fun z => hk2 (g5.mp z)), h1 (l2 (l3 hk2)), h2 (l3 hk2), h3 hk2]
            have v1 : own_v1 (Int32.ofNat k.val) (Int32.ofNat j1.val) = (0 : Int32) ↔ ¬ ((if k.val = 240 then 144 else 128) ≤ j1.val ∧ j1.val ≤ (if k.val = 244 then 143 else 191)) := by
              refine own_v1t k j1 _ _ ?_ ?_ ?_ ?_
              · rw [hkL, if_neg (by omega)]
                by_cases q : k.val = 240
                · rw [if_pos q, if_pos q]; rfl
                · rw [if_neg q, if_neg q]; rfl
              · rw [hkH, if_neg (by omega)]
                by_cases q : k.val = 244
                · rw [if_pos q, if_pos q]; rfl
                · rw [if_neg q, if_neg q]; rfl
              · split <;> decide
              · split <;> decide
            by_cases hc : sp3 (Int32.ofNat j1.val) = (0 : Int32)
            · have hc' := (own_ct j1).mp hc
              rw [if_pos hc, if_pos (v1.mpr (by split <;> split <;> omega))]
            · have hc' : 128 ≤ j1.val ∧ j1.val ≤ 191 := Classical.byContradiction fun z => hc ((own_ct j1).mpr z)
              rw [if_neg hc]
              by_cases w : own_v1 (Int32.ofNat k.val) (Int32.ofNat j1.val) = (0 : Int32)
              · rw [if_pos w]
                have w' := v1.mp w
                by_cases hd : sp3 (Int32.ofNat j2.val) = (0 : Int32)
                · rw [if_pos hd]
                · rw [if_neg hd]
                  by_cases hg : sp3 (Int32.ofNat j3.val) = (0 : Int32)
                  · rw [if_pos hg]
                  · rw [if_neg hg]
                    by_cases e1 : k.val = 240
                    · rw [if_pos e1, if_neg (by omega)] at w'
                      rw [if_pos ((own_lo _ _ cp _ 65536 (by decide)).mpr (by omega))]
                    · rw [if_neg e1] at w'
                      by_cases e2 : k.val = 244
                      · rw [if_pos e2] at w'
                        rw [if_neg (fun z => by have := (own_lo _ _ cp _ 65536 (by decide)).mp z; omega), if_pos ((own_lo _ 1114111 (by decide) _ _ cp).mpr (by omega))]
                      · rw [if_neg e2] at w'
                        exfalso; omega
              · rw [if_neg w]
                have w' : ((if k.val = 240 then 144 else 128) ≤ j1.val ∧ j1.val ≤ (if k.val = 244 then 143 else 191)) := Classical.byContradiction fun z => w (v1.mpr z)
                by_cases hd : sp3 (Int32.ofNat j2.val) = (0 : Int32)
                · rw [if_pos hd, if_pos ((own_v2t j2).mpr ((own_ct j2).mp hd))]
                · have hd' : 128 ≤ j2.val ∧ j2.val ≤ 191 := Classical.byContradiction fun z => hd ((own_ct j2).mpr z)
                  rw [if_neg hd, if_neg (fun z => (own_v2t j2).mp z hd')]
                  by_cases hg : sp3 (Int32.ofNat j3.val) = (0 : Int32)
                  · rw [if_pos hg, if_pos ((own_v2t j3).mpr ((own_ct j3).mp hg))]
                  · have hg' : 128 ≤ j3.val ∧ j3.val ≤ 191 := Classical.byContradiction fun z => hg ((own_ct j3).mpr z)
                    rw [if_neg hg, if_neg (fun z => (own_v2t j3).mp z hg')]
                    rw [if_neg (fun z => by have := (own_lo _ _ cp _ 65536 (by decide)).mp z; split at w' <;> omega), if_neg (fun z => by have := (own_lo _ 1114111 (by decide) _ _ cp).mp z; split at w' <;> split at w' <;> omega), if_neg (fun z => by have := (own_lo _ _ cp _ 55296 (by decide)).mp z; split at w' <;> omega), if_pos ((own_lo _ 57343 (by decide) _ _ cp).mpr (by split at w' <;> omega))]
        · rw [if_neg (by omega), if_neg (by omega), if_neg (by omega)] at hkN
          rw [own_G0 _ _ _ _ _ hkN]
          by_cases hk2 : K < 4
          · rw [if_pos hk2]
          · rw [if_neg hk2]
            by_cases hc : sp3 (Int32.ofNat j1.val) = (0 : Int32)
            · rw [if_pos hc]
            · rw [if_neg hc]
              by_cases hd : sp3 (Int32.ofNat j2.val) = (0 : Int32)
              · rw [if_pos hd]
              · rw [if_neg hd]
                by_cases hg : sp3 (Int32.ofNat j3.val) = (0 : Int32)
                · rw [if_pos hg]
                · rw [if_neg hg, if_neg (fun z => by have := (own_lo _ _ cp _ 65536 (by decide)).mp z; omega), if_pos ((own_lo _ 1114111 (by decide) _ _ cp).mpr (by omega))]
      · rw [if_neg (fun z => hC ((own_f3 k).mp z))]
        rw [if_neg (by omega), if_neg (by omega), if_neg (by omega)] at hkN
        rw [own_G0 _ _ _ _ _ hkN]
theorem own_z : (0 : Int32) = Int32.ofNat (0 : Fin 256).val := rfl
theorem own_case0 (b0 b1 b2 b3 b4 : Int32) : sp2 (0 : Int32) b0 b1 b2 b3 b4 = sp1 (b0 &&& (255 : Int32)) (b1 &&& (255 : Int32)) (b2 &&& (255 : Int32)) (b3 &&& (255 : Int32)) (5 : Int32) (0 : Int32) := by
  rw [own_sp2]
  obtain ⟨k0, hk0⟩ := own_255 b0
  obtain ⟨k1, hk1⟩ := own_255 b1
  obtain ⟨k2, hk2⟩ := own_255 b2
  obtain ⟨k3, hk3⟩ := own_255 b3
  have e0 : ((own_at b0 b1 b2 b3 b4 (0 : Int32)) &&& (255 : Int32)) = Int32.ofNat k0.val := hk0
  rw [e0, show sp1 (b0 &&& (255 : Int32)) (b1 &&& (255 : Int32)) (b2 &&& (255 : Int32)) (b3 &&& (255 : Int32)) (5 : Int32) (0 : Int32) = sp1 (Int32.ofNat k0.val) (Int32.ofNat k1.val) (Int32.ofNat k2.val) (Int32.ofNat k3.val) (5 : Int32) (0 : Int32) by rw [← hk0, ← hk1, ← hk2, ← hk3]]
  exact own_eq k0 k1 k2 k3 _ _ _ _ _ (by decide) (by decide) (by decide) (fun _ => hk1) (fun _ => hk2) (fun _ => hk3)
theorem own_case1 (b0 b1 b2 b3 b4 : Int32) : sp2 (1 : Int32) b0 b1 b2 b3 b4 = sp1 (b1 &&& (255 : Int32)) (b2 &&& (255 : Int32)) (b3 &&& (255 : Int32)) (b4 &&& (255 : Int32)) (4 : Int32) (1 : Int32) := by
  rw [own_sp2]
  obtain ⟨k0, hk0⟩ := own_255 b1
  obtain ⟨k1, hk1⟩ := own_255 b2
  obtain ⟨k2, hk2⟩ := own_255 b3
  obtain ⟨k3, hk3⟩ := own_255 b4
  have e0 : ((own_at b0 b1 b2 b3 b4 (1 : Int32)) &&& (255 : Int32)) = Int32.ofNat k0.val := hk0
  rw [e0, show sp1 (b1 &&& (255 : Int32)) (b2 &&& (255 : Int32)) (b3 &&& (255 : Int32)) (b4 &&& (255 : Int32)) (4 : Int32) (1 : Int32) = sp1 (Int32.ofNat k0.val) (Int32.ofNat k1.val) (Int32.ofNat k2.val) (Int32.ofNat k3.val) (4 : Int32) (1 : Int32) by rw [← hk0, ← hk1, ← hk2, ← hk3]]
  exact own_eq k0 k1 k2 k3 _ _ _ _ _ (by decide) (by decide) (by decide) (fun _ => hk1) (fun _ => hk2) (fun _ => hk3)
theorem own_case2 (b0 b1 b2 b3 b4 : Int32) : sp2 (2 : Int32) b0 b1 b2 b3 b4 = sp1 (b2 &&& (255 : Int32)) (b3 &&& (255 : Int32)) (b4 &&& (255 : Int32)) (0 : Int32) (3 : Int32) (2 : Int32) := by
  rw [own_sp2]
  obtain ⟨k0, hk0⟩ := own_255 b2
  obtain ⟨k1, hk1⟩ := own_255 b3
  obtain ⟨k2, hk2⟩ := own_255 b4
  obtain ⟨k3, hk3⟩ : ∃ k : Fin 256, (0 : Int32) = Int32.ofNat k.val := ⟨0, rfl⟩
  have e0 : ((own_at b0 b1 b2 b3 b4 (2 : Int32)) &&& (255 : Int32)) = Int32.ofNat k0.val := hk0
  rw [e0, show sp1 (b2 &&& (255 : Int32)) (b3 &&& (255 : Int32)) (b4 &&& (255 : Int32)) (0 : Int32) (3 : Int32) (2 : Int32) = sp1 (Int32.ofNat k0.val) (Int32.ofNat k1.val) (Int32.ofNat k2.val) (Int32.ofNat k3.val) (3 : Int32) (2 : Int32) by rw [← hk0, ← hk1, ← hk2, ← hk3]]
  exact own_eq k0 k1 k2 k3 _ _ _ _ _ (by decide) (by decide) (by decide) (fun _ => hk1) (fun _ => hk2) (fun z => absurd (by decide) z)
theorem own_case3 (b0 b1 b2 b3 b4 : Int32) : sp2 (3 : Int32) b0 b1 b2 b3 b4 = sp1 (b3 &&& (255 : Int32)) (b4 &&& (255 : Int32)) (0 : Int32) (0 : Int32) (2 : Int32) (3 : Int32) := by
  rw [own_sp2]
  obtain ⟨k0, hk0⟩ := own_255 b3
  obtain ⟨k1, hk1⟩ := own_255 b4
  obtain ⟨k2, hk2⟩ : ∃ k : Fin 256, (0 : Int32) = Int32.ofNat k.val := ⟨0, rfl⟩
  obtain ⟨k3, hk3⟩ : ∃ k : Fin 256, (0 : Int32) = Int32.ofNat k.val := ⟨0, rfl⟩
  have e0 : ((own_at b0 b1 b2 b3 b4 (3 : Int32)) &&& (255 : Int32)) = Int32.ofNat k0.val := hk0
  rw [e0, show sp1 (b3 &&& (255 : Int32)) (b4 &&& (255 : Int32)) (0 : Int32) (0 : Int32) (2 : Int32) (3 : Int32) = sp1 (Int32.ofNat k0.val) (Int32.ofNat k1.val) (Int32.ofNat k2.val) (Int32.ofNat k3.val) (2 : Int32) (3 : Int32) by rw [← hk0, ← hk1, ← hk2, ← hk3]]
  exact own_eq k0 k1 k2 k3 _ _ _ _ _ (by decide) (by decide) (by decide) (fun _ => hk1) (fun z => absurd (by decide) z) (fun z => absurd (by decide) z)
theorem own_case4 (b0 b1 b2 b3 b4 : Int32) : sp2 (4 : Int32) b0 b1 b2 b3 b4 = sp1 (b4 &&& (255 : Int32)) (0 : Int32) (0 : Int32) (0 : Int32) (1 : Int32) (4 : Int32) := by
  rw [own_sp2]
  obtain ⟨k0, hk0⟩ := own_255 b4
  obtain ⟨k1, hk1⟩ : ∃ k : Fin 256, (0 : Int32) = Int32.ofNat k.val := ⟨0, rfl⟩
  obtain ⟨k2, hk2⟩ : ∃ k : Fin 256, (0 : Int32) = Int32.ofNat k.val := ⟨0, rfl⟩
  obtain ⟨k3, hk3⟩ : ∃ k : Fin 256, (0 : Int32) = Int32.ofNat k.val := ⟨0, rfl⟩
  have e0 : ((own_at b0 b1 b2 b3 b4 (4 : Int32)) &&& (255 : Int32)) = Int32.ofNat k0.val := hk0
  rw [e0, show sp1 (b4 &&& (255 : Int32)) (0 : Int32) (0 : Int32) (0 : Int32) (1 : Int32) (4 : Int32) = sp1 (Int32.ofNat k0.val) (Int32.ofNat k1.val) (Int32.ofNat k2.val) (Int32.ofNat k3.val) (1 : Int32) (4 : Int32) by rw [← hk0, ← hk1, ← hk2, ← hk3]]
  exact own_eq k0 k1 k2 k3 _ _ _ _ _ (by decide) (by decide) (by decide) (fun z => absurd (by decide) z) (fun z => absurd (by decide) z) (fun z => absurd (by decide) z)
theorem own_law (p1 p2 p3 p4 p5 p6 : Int32) : sp0 p1 p2 p3 p4 p5 p6 = 1 := by
  unfold sp0
  split
  · exact if_pos (own_case0 _ _ _ _ _)
  · split
    · exact if_pos (own_case1 _ _ _ _ _)
    · split
      · exact if_pos (own_case2 _ _ _ _ _)
      · split
        · exact if_pos (own_case3 _ _ _ _ _)
        · exact if_pos (own_case4 _ _ _ _ _)
def Q3 (Z : State) (p1 : Int32) (h0 : Heap) (n0 : Nat) (v : Option Value) (h : Heap) (L : List Loc) : Prop := v = some (.int (sp3 p1)) ∧ Fr n0 L ∧ h = h0
set_option maxRecDepth 65536 in
set_option maxHeartbeats 40000000 in
theorem rm3 (l : Launch) (Z : State) (a0 : Array Value) (hw : ∀ d ∈ tables_1, d.before a0 Z = true) (ws : List Jvm.Cond) (p1 : Int32) (h0 : Heap) (n0 : Nat) (Z0 : n0 ≤ h0.size) :
    MetFree l (⟨"com/example/hemawire/hemawire/serve/TextFilesCharacterEndPinLaw", "cont", "(I)Z"⟩ : MethodName) (head1 (Jvm.Cond.code (⟨"com/example/hemawire/hemawire/serve/TextFilesCharacterEndPinLaw", "cont", "(I)Z"⟩ : MethodName) method_3_code 1 (some .boolean) :: ws) ({ frames := 0, cells := 0, slots := 0, locals := 0 } : Room)) (fun a U => a = #[(.int p1)] ∧ Z.Warmed39 U.vm ∧ U.heap = h0) (fun _ _ _ _ _ => True) (fun _ U o U' => ∃ v L, o = .returned v ∧ Q3 Z p1 h0 n0 v U'.heap L ∧ FrameEnd U o U' L ({ frames := 0, cells := 0, slots := 0, locals := 0 } : Room).cells ({ frames := 0, cells := 0, slots := 0, locals := 0 } : Room).slots) := by
  refine MetFree.of_bodySF (plainFor_of_name pn_3) hisR ?_
  intro p e s m args below meth c s₁ Bd hml0 hP hK
  obtain ⟨rfl, hZ, hh⟩ := hP
  have hx := Bd.exec
  have hby := Bd.bytes
  have hml : c.maxLocals = 1 := hml0
  have hown : s.vm.findClass "com/example/hemawire/hemawire/serve/TextFilesCharacterEndPinLaw" = some m.cls := findClass_of_methodNamed Bd.named
  have hnm := (name_of_methodNamed Bd.named Bd.method).1
  have X0 : Stand p l e ({ frames := 0, cells := 0, slots := 0, locals := 0 } : Room) s m #[(.int p1)] below meth c s₁ [] 0 0 := Stand.of_body Bd
  have e0 : s₁.heap = h0 := by rw [← hh, Bd.state]; rfl
  have N0 := Fr.nil n0
  have pre0 : ∀ t, Steps p.tables e below (s₁.setTop (mkF m 0 #[.val (.int p1)] [])) t → Steps p.tables e below (s₁.setTop (entryFrame m #[(.int p1)] 1)) t := fun t k => castTop (ef_3 m p1) k
  have pre1 : ∀ t, Steps p.tables e below (s₁.setTop (mkF m 0 #[.val (.int p1)] [])) t → Steps p.tables e below (s₁.setTop (mkF m 0 #[.val (.int p1)] [])) t := fun t k => k
  have k2 : ∀ t, Steps p.tables e below (s₁.setTop (mkF m 8 #[.val (.int p1)] [(.int (128 : Int32)), (.int (p1 &&& (192 : Int32)))])) t → Steps p.tables e below (s₁.setTop (mkF m 0 #[.val (.int p1)] [])) t := fun t kt => pre1 t (by
    show Steps p.tables e below (s₁.setTop (mkF m 0 #[.val (.int p1)] [])) _
    refine XS.iloadN X0.here hx rfl (hb hby d3_0) rfl ?_
    show Steps p.tables e below (s₁.setTop (mkF m 1 #[.val (.int p1)] [(.int p1)])) _
    refine XS.sipush X0.here hx rfl (hb hby d3_1) ?_
    show Steps p.tables e below (s₁.setTop (mkF m 4 #[.val (.int p1)] [(.int (192 : Int32)), (.int p1)])) _
    refine XS.iand X0.here hx rfl (hb hby d3_4) rfl ?_
    show Steps p.tables e below (s₁.setTop (mkF m 5 #[.val (.int p1)] [(.int (p1 &&& (192 : Int32)))])) _
    refine XS.sipush X0.here hx rfl (hb hby d3_5) ?_
    exact kt)
  by_cases c8_1 : (p1 &&& (192 : Int32)) = (128 : Int32)
  · obtain ⟨fs, hr, hrun, hended, hW, hsame⟩ := X0.leave (v := some (.int (1 : Int32))) (fun h => by rw [Bd.returns] at h; cases h)
    refine ⟨_, _, pre0 _ (k2 _ ?_), hrun, hended, _, _, rfl, ?_, ⟨_, rfl⟩, hW, hsame.mono (by decide) (by decide)⟩
    · show Steps p.tables e below (s₁.setTop (mkF m 8 #[.val (.int p1)] [(.int (128 : Int32)), (.int (p1 &&& (192 : Int32)))])) _
      refine XS.icmpNo X0.here hx rfl (hb hby d3_8) rfl (teq c8_1).2 ?_
      show Steps p.tables e below (s₁.setTop (mkF m 11 #[.val (.int p1)] [])) _
      refine XS.iconst X0.here hx rfl (hb hby d3_11) ?_
      show Steps p.tables e below (s₁.setTop (mkF m 12 #[.val (.int p1)] [(.int (1 : Int32))])) _
      refine XS.goto X0.here hx rfl (pc0 := 12) (pc' := 16) rfl (hb hby d3_12) (by decide) (by decide) ?_
      show Steps p.tables e below (s₁.setTop (mkF m 16 #[.val (.int p1)] [(.int (1 : Int32))])) _
      exact retN X0 hx (t := .boolean) Bd.returns (by simp) (hb hby d3_16) hr
    · show Q3 Z p1 h0 n0 _ s₁.heap _
      rw [e0]
      have hv : sp3 p1 = (1 : Int32) := by unfold sp3; rw [if_pos c8_1]
      exact ⟨by rw [hv], N0, rfl⟩
  · obtain ⟨fs, hr, hrun, hended, hW, hsame⟩ := X0.leave (v := some (.int (0 : Int32))) (fun h => by rw [Bd.returns] at h; cases h)
    refine ⟨_, _, pre0 _ (k2 _ ?_), hrun, hended, _, _, rfl, ?_, ⟨_, rfl⟩, hW, hsame.mono (by decide) (by decide)⟩
    · show Steps p.tables e below (s₁.setTop (mkF m 8 #[.val (.int p1)] [(.int (128 : Int32)), (.int (p1 &&& (192 : Int32)))])) _
      refine XS.icmpYes X0.here hx rfl (pc0 := 8) (pc' := 15) rfl (hb hby d3_8) rfl (feq c8_1).2 (by decide) (by decide) ?_
      show Steps p.tables e below (s₁.setTop (mkF m 15 #[.val (.int p1)] [])) _
      refine XS.iconst X0.here hx rfl (hb hby d3_15) ?_
      show Steps p.tables e below (s₁.setTop (mkF m 16 #[.val (.int p1)] [(.int (0 : Int32))])) _
      exact retN X0 hx (t := .boolean) Bd.returns (by simp) (hb hby d3_16) hr
    · show Q3 Z p1 h0 n0 _ s₁.heap _
      rw [e0]
      have hv : sp3 p1 = (0 : Int32) := by unfold sp3; rw [if_neg c8_1]
      exact ⟨by rw [hv], N0, rfl⟩
def Q1 (Z : State) (p1 : Int32) (p2 : Int32) (p3 : Int32) (p4 : Int32) (p5 : Int32) (p6 : Int32) (h0 : Heap) (n0 : Nat) (v : Option Value) (h : Heap) (L : List Loc) : Prop := v = some (.int (sp1 p1 p2 p3 p4 p5 p6)) ∧ Fr n0 L ∧ h = h0
set_option maxRecDepth 65536 in
set_option maxHeartbeats 40000000 in
theorem rm1 (l : Launch) (Z : State) (a0 : Array Value) (hw : ∀ d ∈ tables_1, d.before a0 Z = true) (ws : List Jvm.Cond) (p1 : Int32) (p2 : Int32) (p3 : Int32) (p4 : Int32) (p5 : Int32) (p6 : Int32) (h0 : Heap) (n0 : Nat) (Z0 : n0 ≤ h0.size) :
    MetFree l (⟨"com/example/hemawire/hemawire/serve/TextFilesCharacterEndPinLaw", "expectedEnd", "(IIIIII)I"⟩ : MethodName) (head1 (Jvm.Cond.code (⟨"com/example/hemawire/hemawire/serve/TextFilesCharacterEndPinLaw", "expectedEnd", "(IIIIII)I"⟩ : MethodName) method_4_code 9 (some .int) :: ws) ({ frames := 1, cells := 0, slots := 0, locals := 12 } : Room)) (fun a U => a = #[(.int p1), (.int p2), (.int p3), (.int p4), (.int p5), (.int p6)] ∧ Z.Warmed39 U.vm ∧ U.heap = h0) (fun _ _ _ _ _ => True) (fun _ U o U' => ∃ v L, o = .returned v ∧ Q1 Z p1 p2 p3 p4 p5 p6 h0 n0 v U'.heap L ∧ FrameEnd U o U' L ({ frames := 1, cells := 0, slots := 0, locals := 12 } : Room).cells ({ frames := 1, cells := 0, slots := 0, locals := 12 } : Room).slots) := by
  refine MetFree.of_bodySF (plainFor_of_name pn_1) hisR ?_
  intro p e s m args below meth c s₁ Bd hml0 hP hK
  obtain ⟨rfl, hZ, hh⟩ := hP
  have hx := Bd.exec
  have hby := Bd.bytes
  have hml : c.maxLocals = 9 := hml0
  have hown : s.vm.findClass "com/example/hemawire/hemawire/serve/TextFilesCharacterEndPinLaw" = some m.cls := findClass_of_methodNamed Bd.named
  have hnm := (name_of_methodNamed Bd.named Bd.method).1
  have X0 : Stand p l e ({ frames := 1, cells := 0, slots := 0, locals := 12 } : Room) s m #[(.int p1), (.int p2), (.int p3), (.int p4), (.int p5), (.int p6)] below meth c s₁ [] 0 0 := Stand.of_body Bd
  have e0 : s₁.heap = h0 := by rw [← hh, Bd.state]; rfl
  have N0 := Fr.nil n0
  have pre0 : ∀ t, Steps p.tables e below (s₁.setTop (mkF m 0 #[.val (.int p1), .val (.int p2), .val (.int p3), .val (.int p4), .val (.int p5), .val (.int p6), .unset, .unset, .unset] [])) t → Steps p.tables e below (s₁.setTop (entryFrame m #[(.int p1), (.int p2), (.int p3), (.int p4), (.int p5), (.int p6)] 9)) t := fun t k => castTop (ef_1 m p1 p2 p3 p4 p5 p6) k
  have pre1 : ∀ t, Steps p.tables e below (s₁.setTop (mkF m 0 #[.val (.int p1), .val (.int p2), .val (.int p3), .val (.int p4), .val (.int p5), .val (.int p6), .unset, .unset, .unset] [])) t → Steps p.tables e below (s₁.setTop (mkF m 0 #[.val (.int p1), .val (.int p2), .val (.int p3), .val (.int p4), .val (.int p5), .val (.int p6), .unset, .unset, .unset] [])) t := fun t k => k
  have k2 : ∀ t, Steps p.tables e below (s₁.setTop (mkF m 8 #[.val (.int p1), .val (.int p2), .val (.int p3), .val (.int p4), .val (.int p5), .val (.int p6), .unset, .unset, .unset] [(.int (192 : Int32)), (.int (p1 &&& (224 : Int32)))])) t → Steps p.tables e below (s₁.setTop (mkF m 0 #[.val (.int p1), .val (.int p2), .val (.int p3), .val (.int p4), .val (.int p5), .val (.int p6), .unset, .unset, .unset] [])) t := fun t kt => pre1 t (by
    show Steps p.tables e below (s₁.setTop (mkF m 0 #[.val (.int p1), .val (.int p2), .val (.int p3), .val (.int p4), .val (.int p5), .val (.int p6), .unset, .unset, .unset] [])) _
    refine XS.iloadN X0.here hx rfl (hb hby d1_0) rfl ?_
    show Steps p.tables e below (s₁.setTop (mkF m 1 #[.val (.int p1), .val (.int p2), .val (.int p3), .val (.int p4), .val (.int p5), .val (.int p6), .unset, .unset, .unset] [(.int p1)])) _
    refine XS.sipush X0.here hx rfl (hb hby d1_1) ?_
    show Steps p.tables e below (s₁.setTop (mkF m 4 #[.val (.int p1), .val (.int p2), .val (.int p3), .val (.int p4), .val (.int p5), .val (.int p6), .unset, .unset, .unset] [(.int (224 : Int32)), (.int p1)])) _
    refine XS.iand X0.here hx rfl (hb hby d1_4) rfl ?_
    show Steps p.tables e below (s₁.setTop (mkF m 5 #[.val (.int p1), .val (.int p2), .val (.int p3), .val (.int p4), .val (.int p5), .val (.int p6), .unset, .unset, .unset] [(.int (p1 &&& (224 : Int32)))])) _
    refine XS.sipush X0.here hx rfl (hb hby d1_5) ?_
    exact kt)
  by_cases c8_1 : (p1 &&& (224 : Int32)) = (192 : Int32)
  · have k4 : ∀ t, Steps p.tables e below (s₁.setTop (mkF m 137 #[.val (.int p1), .val (.int p2), .val (.int p3), .val (.int p4), .val (.int p5), .val (.int p6), .val (.int (2 : Int32)), .val (.int (((p1 &&& (31 : Int32)) <<< ((6 : Int32) &&& 31)) ||| (p2 &&& (63 : Int32)))), .val (.int (128 : Int32))] [(.int (2 : Int32)), (.int p5)])) t → Steps p.tables e below (s₁.setTop (mkF m 0 #[.val (.int p1), .val (.int p2), .val (.int p3), .val (.int p4), .val (.int p5), .val (.int p6), .unset, .unset, .unset] [])) t := fun t kt => k2 t (by
      show Steps p.tables e below (s₁.setTop (mkF m 8 #[.val (.int p1), .val (.int p2), .val (.int p3), .val (.int p4), .val (.int p5), .val (.int p6), .unset, .unset, .unset] [(.int (192 : Int32)), (.int (p1 &&& (224 : Int32)))])) _
      refine XS.icmpNo X0.here hx rfl (hb hby d1_8) rfl (teq c8_1).2 ?_
      show Steps p.tables e below (s₁.setTop (mkF m 11 #[.val (.int p1), .val (.int p2), .val (.int p3), .val (.int p4), .val (.int p5), .val (.int p6), .unset, .unset, .unset] [])) _
      refine XS.iconst X0.here hx rfl (hb hby d1_11) ?_
      show Steps p.tables e below (s₁.setTop (mkF m 12 #[.val (.int p1), .val (.int p2), .val (.int p3), .val (.int p4), .val (.int p5), .val (.int p6), .unset, .unset, .unset] [(.int (2 : Int32))])) _
      refine XS.istore X0.here hx rfl (hb hby d1_12) rfl (l' := #[.val (.int p1), .val (.int p2), .val (.int p3), .val (.int p4), .val (.int p5), .val (.int p6), .val (.int (2 : Int32)), .unset, .unset]) rfl ?_
      show Steps p.tables e below (s₁.setTop (mkF m 14 #[.val (.int p1), .val (.int p2), .val (.int p3), .val (.int p4), .val (.int p5), .val (.int p6), .val (.int (2 : Int32)), .unset, .unset] [])) _
      refine XS.iloadN X0.here hx rfl (hb hby d1_14) rfl ?_
      show Steps p.tables e below (s₁.setTop (mkF m 15 #[.val (.int p1), .val (.int p2), .val (.int p3), .val (.int p4), .val (.int p5), .val (.int p6), .val (.int (2 : Int32)), .unset, .unset] [(.int p1)])) _
      refine XS.bipush X0.here hx rfl (hb hby d1_15) ?_
      show Steps p.tables e below (s₁.setTop (mkF m 17 #[.val (.int p1), .val (.int p2), .val (.int p3), .val (.int p4), .val (.int p5), .val (.int p6), .val (.int (2 : Int32)), .unset, .unset] [(.int (31 : Int32)), (.int p1)])) _
      refine XS.iand X0.here hx rfl (hb hby d1_17) rfl ?_
      show Steps p.tables e below (s₁.setTop (mkF m 18 #[.val (.int p1), .val (.int p2), .val (.int p3), .val (.int p4), .val (.int p5), .val (.int p6), .val (.int (2 : Int32)), .unset, .unset] [(.int (p1 &&& (31 : Int32)))])) _
      refine XS.bipush X0.here hx rfl (hb hby d1_18) ?_
      show Steps p.tables e below (s₁.setTop (mkF m 20 #[.val (.int p1), .val (.int p2), .val (.int p3), .val (.int p4), .val (.int p5), .val (.int p6), .val (.int (2 : Int32)), .unset, .unset] [(.int (6 : Int32)), (.int (p1 &&& (31 : Int32)))])) _
      refine XS.ishl X0.here hx rfl (hb hby d1_20) rfl ?_
      show Steps p.tables e below (s₁.setTop (mkF m 21 #[.val (.int p1), .val (.int p2), .val (.int p3), .val (.int p4), .val (.int p5), .val (.int p6), .val (.int (2 : Int32)), .unset, .unset] [(.int ((p1 &&& (31 : Int32)) <<< ((6 : Int32) &&& 31)))])) _
      refine XS.iloadN X0.here hx rfl (hb hby d1_21) rfl ?_
      show Steps p.tables e below (s₁.setTop (mkF m 22 #[.val (.int p1), .val (.int p2), .val (.int p3), .val (.int p4), .val (.int p5), .val (.int p6), .val (.int (2 : Int32)), .unset, .unset] [(.int p2), (.int ((p1 &&& (31 : Int32)) <<< ((6 : Int32) &&& 31)))])) _
      refine XS.bipush X0.here hx rfl (hb hby d1_22) ?_
      show Steps p.tables e below (s₁.setTop (mkF m 24 #[.val (.int p1), .val (.int p2), .val (.int p3), .val (.int p4), .val (.int p5), .val (.int p6), .val (.int (2 : Int32)), .unset, .unset] [(.int (63 : Int32)), (.int p2), (.int ((p1 &&& (31 : Int32)) <<< ((6 : Int32) &&& 31)))])) _
      refine XS.iand X0.here hx rfl (hb hby d1_24) rfl ?_
      show Steps p.tables e below (s₁.setTop (mkF m 25 #[.val (.int p1), .val (.int p2), .val (.int p3), .val (.int p4), .val (.int p5), .val (.int p6), .val (.int (2 : Int32)), .unset, .unset] [(.int (p2 &&& (63 : Int32))), (.int ((p1 &&& (31 : Int32)) <<< ((6 : Int32) &&& 31)))])) _
      refine XS.ior X0.here hx rfl (hb hby d1_25) rfl ?_
      show Steps p.tables e below (s₁.setTop (mkF m 26 #[.val (.int p1), .val (.int p2), .val (.int p3), .val (.int p4), .val (.int p5), .val (.int p6), .val (.int (2 : Int32)), .unset, .unset] [(.int (((p1 &&& (31 : Int32)) <<< ((6 : Int32) &&& 31)) ||| (p2 &&& (63 : Int32))))])) _
      refine XS.istore X0.here hx rfl (hb hby d1_26) rfl (l' := #[.val (.int p1), .val (.int p2), .val (.int p3), .val (.int p4), .val (.int p5), .val (.int p6), .val (.int (2 : Int32)), .val (.int (((p1 &&& (31 : Int32)) <<< ((6 : Int32) &&& 31)) ||| (p2 &&& (63 : Int32)))), .unset]) rfl ?_
      show Steps p.tables e below (s₁.setTop (mkF m 28 #[.val (.int p1), .val (.int p2), .val (.int p3), .val (.int p4), .val (.int p5), .val (.int p6), .val (.int (2 : Int32)), .val (.int (((p1 &&& (31 : Int32)) <<< ((6 : Int32) &&& 31)) ||| (p2 &&& (63 : Int32)))), .unset] [])) _
      refine XS.sipush X0.here hx rfl (hb hby d1_28) ?_
      show Steps p.tables e below (s₁.setTop (mkF m 31 #[.val (.int p1), .val (.int p2), .val (.int p3), .val (.int p4), .val (.int p5), .val (.int p6), .val (.int (2 : Int32)), .val (.int (((p1 &&& (31 : Int32)) <<< ((6 : Int32) &&& 31)) ||| (p2 &&& (63 : Int32)))), .unset] [(.int (128 : Int32))])) _
      refine XS.istore X0.here hx rfl (hb hby d1_31) rfl (l' := #[.val (.int p1), .val (.int p2), .val (.int p3), .val (.int p4), .val (.int p5), .val (.int p6), .val (.int (2 : Int32)), .val (.int (((p1 &&& (31 : Int32)) <<< ((6 : Int32) &&& 31)) ||| (p2 &&& (63 : Int32)))), .val (.int (128 : Int32))]) rfl ?_
      show Steps p.tables e below (s₁.setTop (mkF m 33 #[.val (.int p1), .val (.int p2), .val (.int p3), .val (.int p4), .val (.int p5), .val (.int p6), .val (.int (2 : Int32)), .val (.int (((p1 &&& (31 : Int32)) <<< ((6 : Int32) &&& 31)) ||| (p2 &&& (63 : Int32)))), .val (.int (128 : Int32))] [])) _
      refine XS.goto X0.here hx rfl (pc0 := 33) (pc' := 133) rfl (hb hby d1_33) (by decide) (by decide) ?_
      show Steps p.tables e below (s₁.setTop (mkF m 133 #[.val (.int p1), .val (.int p2), .val (.int p3), .val (.int p4), .val (.int p5), .val (.int p6), .val (.int (2 : Int32)), .val (.int (((p1 &&& (31 : Int32)) <<< ((6 : Int32) &&& 31)) ||| (p2 &&& (63 : Int32)))), .val (.int (128 : Int32))] [])) _
      refine XS.iload X0.here hx rfl (hb hby d1_133) rfl ?_
      show Steps p.tables e below (s₁.setTop (mkF m 135 #[.val (.int p1), .val (.int p2), .val (.int p3), .val (.int p4), .val (.int p5), .val (.int p6), .val (.int (2 : Int32)), .val (.int (((p1 &&& (31 : Int32)) <<< ((6 : Int32) &&& 31)) ||| (p2 &&& (63 : Int32)))), .val (.int (128 : Int32))] [(.int p5)])) _
      refine XS.iload X0.here hx rfl (hb hby d1_135) rfl ?_
      exact kt)
    by_cases c137_3 : p5 < (2 : Int32)
    · obtain ⟨fs, hr, hrun, hended, hW, hsame⟩ := X0.leave (v := some (.int (-1 : Int32))) (fun h => by rw [Bd.returns] at h; cases h)
      refine ⟨_, _, pre0 _ (k4 _ ?_), hrun, hended, _, _, rfl, ?_, ⟨_, rfl⟩, hW, hsame.mono (by decide) (by decide)⟩
      · show Steps p.tables e below (s₁.setTop (mkF m 137 #[.val (.int p1), .val (.int p2), .val (.int p3), .val (.int p4), .val (.int p5), .val (.int p6), .val (.int (2 : Int32)), .val (.int (((p1 &&& (31 : Int32)) <<< ((6 : Int32) &&& 31)) ||| (p2 &&& (63 : Int32)))), .val (.int (128 : Int32))] [(.int (2 : Int32)), (.int p5)])) _
        refine XS.icmpNo X0.here hx rfl (hb hby d1_137) rfl (tlt c137_3).2.1 ?_
        show Steps p.tables e below (s₁.setTop (mkF m 140 #[.val (.int p1), .val (.int p2), .val (.int p3), .val (.int p4), .val (.int p5), .val (.int p6), .val (.int (2 : Int32)), .val (.int (((p1 &&& (31 : Int32)) <<< ((6 : Int32) &&& 31)) ||| (p2 &&& (63 : Int32)))), .val (.int (128 : Int32))] [])) _
        refine XS.iconst X0.here hx rfl (hb hby d1_140) ?_
        show Steps p.tables e below (s₁.setTop (mkF m 141 #[.val (.int p1), .val (.int p2), .val (.int p3), .val (.int p4), .val (.int p5), .val (.int p6), .val (.int (2 : Int32)), .val (.int (((p1 &&& (31 : Int32)) <<< ((6 : Int32) &&& 31)) ||| (p2 &&& (63 : Int32)))), .val (.int (128 : Int32))] [(.int (-1 : Int32))])) _
        exact retI X0 hx Bd.returns (hb hby d1_141) hr
      · show Q1 Z p1 p2 p3 p4 p5 p6 h0 n0 _ s₁.heap _
        rw [e0]
        have hv : sp1 p1 p2 p3 p4 p5 p6 = (-1 : Int32) := by unfold sp1; rw [if_pos c8_1, if_pos c137_3]
        exact ⟨by rw [hv], N0, rfl⟩
    · have k5 : ∀ t, Steps p.tables e below (s₁.setTop (mkF m 143 #[.val (.int p1), .val (.int p2), .val (.int p3), .val (.int p4), .val (.int p5), .val (.int p6), .val (.int (2 : Int32)), .val (.int (((p1 &&& (31 : Int32)) <<< ((6 : Int32) &&& 31)) ||| (p2 &&& (63 : Int32)))), .val (.int (128 : Int32))] [(.int p2)])) t → Steps p.tables e below (s₁.setTop (mkF m 0 #[.val (.int p1), .val (.int p2), .val (.int p3), .val (.int p4), .val (.int p5), .val (.int p6), .unset, .unset, .unset] [])) t := fun t kt => k4 t (by
        show Steps p.tables e below (s₁.setTop (mkF m 137 #[.val (.int p1), .val (.int p2), .val (.int p3), .val (.int p4), .val (.int p5), .val (.int p6), .val (.int (2 : Int32)), .val (.int (((p1 &&& (31 : Int32)) <<< ((6 : Int32) &&& 31)) ||| (p2 &&& (63 : Int32)))), .val (.int (128 : Int32))] [(.int (2 : Int32)), (.int p5)])) _
        refine XS.icmpYes X0.here hx rfl (pc0 := 137) (pc' := 142) rfl (hb hby d1_137) rfl (flt c137_3).2.1 (by decide) (by decide) ?_
        show Steps p.tables e below (s₁.setTop (mkF m 142 #[.val (.int p1), .val (.int p2), .val (.int p3), .val (.int p4), .val (.int p5), .val (.int p6), .val (.int (2 : Int32)), .val (.int (((p1 &&& (31 : Int32)) <<< ((6 : Int32) &&& 31)) ||| (p2 &&& (63 : Int32)))), .val (.int (128 : Int32))] [])) _
        refine XS.iloadN X0.here hx rfl (hb hby d1_142) rfl ?_
        exact kt)
      obtain ⟨_, _, ⟨T6, L6, k6', n6⟩, -, X6, ⟨Lc6, hQ6, l6, y6, z6⟩, st6⟩ := Jvm.LawKit.callS X0 hx (y := (⟨"com/example/hemawire/hemawire/serve/TextFilesCharacterEndPinLaw", "cont", "(I)Z"⟩ : MethodName)) hown (mvT hZ (hw _ (List.mem_of_getElem? (i := 10) rfl))) (mvT hZ (hw _ (List.mem_of_getElem? (i := 11) rfl))) (mvT hZ (hw _ (List.mem_of_getElem? (i := 4) rfl))) (mvT hZ (hw _ (List.mem_of_getElem? (i := 12) rfl))) (by decide) (backOf (W := 0) (rm3 l Z a0 hw [] p2 h0 n0 Z0) hZ (hw _ (List.mem_of_getElem? (i := 12) rfl)) (hw _ (List.mem_of_getElem? (i := 4) rfl)) (by decide) (by decide)) (g := (mkF m 143 #[.val (.int p1), .val (.int p2), .val (.int p3), .val (.int p4), .val (.int p5), .val (.int p6), .val (.int (2 : Int32)), .val (.int (((p1 &&& (31 : Int32)) <<< ((6 : Int32) &&& 31)) ||| (p2 &&& (63 : Int32)))), .val (.int (128 : Int32))] [(.int p2)])) rfl (by rw [hml]; rfl) (argsL := [(.int p2)]) (rest := []) (lenOf pd1_0 rfl) rfl (by show 2 * 0 + _ ≤ _; exact Nat.le_of_eq rfl) (hb hby d1_143) (fun _ _ => ⟨rfl, e0, (by decide : 0 + 0 ≤ _), (by decide : 0 + 0 ≤ _)⟩)
      dsimp only [Pt.U, Pt.locs, Pt.cells, Pt.slots] at X6 l6 y6 z6 st6 hQ6
      subst l6 y6 z6
      obtain ⟨rfl, N6q, hh6⟩ := hQ6
      have N6 := Fr.app N0 N6q
      have k8 : ∀ t, Steps p.tables e below (T6.setTop (mkF m 146 #[.val (.int p1), .val (.int p2), .val (.int p3), .val (.int p4), .val (.int p5), .val (.int p6), .val (.int (2 : Int32)), .val (.int (((p1 &&& (31 : Int32)) <<< ((6 : Int32) &&& 31)) ||| (p2 &&& (63 : Int32)))), .val (.int (128 : Int32))] [(.int (sp3 p2))])) t → Steps p.tables e below (s₁.setTop (mkF m 0 #[.val (.int p1), .val (.int p2), .val (.int p3), .val (.int p4), .val (.int p5), .val (.int p6), .unset, .unset, .unset] [])) t := fun t kt => k5 t (by
        show Steps p.tables e below (s₁.setTop (mkF m 143 #[.val (.int p1), .val (.int p2), .val (.int p3), .val (.int p4), .val (.int p5), .val (.int p6), .val (.int (2 : Int32)), .val (.int (((p1 &&& (31 : Int32)) <<< ((6 : Int32) &&& 31)) ||| (p2 &&& (63 : Int32)))), .val (.int (128 : Int32))] [(.int p2)])) _
        refine st6 _ ?_
        exact kt)
      by_cases c146_7 : (sp3 p2) = (0 : Int32)
      · obtain ⟨fs, hr, hrun, hended, hW, hsame⟩ := X6.leave (v := some (.int (-1 : Int32))) (fun h => by rw [Bd.returns] at h; cases h)
        refine ⟨_, _, pre0 _ (k8 _ ?_), hrun, hended, _, _, rfl, ?_, ⟨_, rfl⟩, hW, hsame.mono (by decide) (by decide)⟩
        · show Steps p.tables e below (T6.setTop (mkF m 146 #[.val (.int p1), .val (.int p2), .val (.int p3), .val (.int p4), .val (.int p5), .val (.int p6), .val (.int (2 : Int32)), .val (.int (((p1 &&& (31 : Int32)) <<< ((6 : Int32) &&& 31)) ||| (p2 &&& (63 : Int32)))), .val (.int (128 : Int32))] [(.int (sp3 p2))])) _
          refine XS.ifNo X6.here hx rfl (hb hby d1_146) rfl ((if0 _ _).trans (teq c146_7).2) ?_
          show Steps p.tables e below (T6.setTop (mkF m 149 #[.val (.int p1), .val (.int p2), .val (.int p3), .val (.int p4), .val (.int p5), .val (.int p6), .val (.int (2 : Int32)), .val (.int (((p1 &&& (31 : Int32)) <<< ((6 : Int32) &&& 31)) ||| (p2 &&& (63 : Int32)))), .val (.int (128 : Int32))] [])) _
          refine XS.iconst X6.here hx rfl (hb hby d1_149) ?_
          show Steps p.tables e below (T6.setTop (mkF m 150 #[.val (.int p1), .val (.int p2), .val (.int p3), .val (.int p4), .val (.int p5), .val (.int p6), .val (.int (2 : Int32)), .val (.int (((p1 &&& (31 : Int32)) <<< ((6 : Int32) &&& 31)) ||| (p2 &&& (63 : Int32)))), .val (.int (128 : Int32))] [(.int (-1 : Int32))])) _
          exact retI X6 hx Bd.returns (hb hby d1_150) hr
        · show Q1 Z p1 p2 p3 p4 p5 p6 h0 n0 _ T6.heap _
          rw [hh6]
          have hv : sp1 p1 p2 p3 p4 p5 p6 = (-1 : Int32) := by unfold sp1; rw [if_pos c8_1, if_neg c137_3, if_pos c146_7]
          exact ⟨by rw [hv], N6, rfl⟩
      · have k10 : ∀ t, Steps p.tables e below (T6.setTop (mkF m 154 #[.val (.int p1), .val (.int p2), .val (.int p3), .val (.int p4), .val (.int p5), .val (.int p6), .val (.int (2 : Int32)), .val (.int (((p1 &&& (31 : Int32)) <<< ((6 : Int32) &&& 31)) ||| (p2 &&& (63 : Int32)))), .val (.int (128 : Int32))] [(.int (3 : Int32)), (.int (2 : Int32))])) t → Steps p.tables e below (s₁.setTop (mkF m 0 #[.val (.int p1), .val (.int p2), .val (.int p3), .val (.int p4), .val (.int p5), .val (.int p6), .unset, .unset, .unset] [])) t := fun t kt => k8 t (by
          show Steps p.tables e below (T6.setTop (mkF m 146 #[.val (.int p1), .val (.int p2), .val (.int p3), .val (.int p4), .val (.int p5), .val (.int p6), .val (.int (2 : Int32)), .val (.int (((p1 &&& (31 : Int32)) <<< ((6 : Int32) &&& 31)) ||| (p2 &&& (63 : Int32)))), .val (.int (128 : Int32))] [(.int (sp3 p2))])) _
          refine XS.ifYes X6.here hx rfl (pc0 := 146) (pc' := 151) rfl (hb hby d1_146) rfl ((if0 _ _).trans (feq c146_7).2) (by decide) (by decide) ?_
          show Steps p.tables e below (T6.setTop (mkF m 151 #[.val (.int p1), .val (.int p2), .val (.int p3), .val (.int p4), .val (.int p5), .val (.int p6), .val (.int (2 : Int32)), .val (.int (((p1 &&& (31 : Int32)) <<< ((6 : Int32) &&& 31)) ||| (p2 &&& (63 : Int32)))), .val (.int (128 : Int32))] [])) _
          refine XS.iload X6.here hx rfl (hb hby d1_151) rfl ?_
          show Steps p.tables e below (T6.setTop (mkF m 153 #[.val (.int p1), .val (.int p2), .val (.int p3), .val (.int p4), .val (.int p5), .val (.int p6), .val (.int (2 : Int32)), .val (.int (((p1 &&& (31 : Int32)) <<< ((6 : Int32) &&& 31)) ||| (p2 &&& (63 : Int32)))), .val (.int (128 : Int32))] [(.int (2 : Int32))])) _
          refine XS.iconst X6.here hx rfl (hb hby d1_153) ?_
          exact kt)
        have c154_9 : (2 : Int32) < (3 : Int32) := by decide
        have k12 : ∀ t, Steps p.tables e below (T6.setTop (mkF m 169 #[.val (.int p1), .val (.int p2), .val (.int p3), .val (.int p4), .val (.int p5), .val (.int p6), .val (.int (2 : Int32)), .val (.int (((p1 &&& (31 : Int32)) <<< ((6 : Int32) &&& 31)) ||| (p2 &&& (63 : Int32)))), .val (.int (128 : Int32))] [(.int (4 : Int32)), (.int (2 : Int32))])) t → Steps p.tables e below (s₁.setTop (mkF m 0 #[.val (.int p1), .val (.int p2), .val (.int p3), .val (.int p4), .val (.int p5), .val (.int p6), .unset, .unset, .unset] [])) t := fun t kt => k10 t (by
          show Steps p.tables e below (T6.setTop (mkF m 154 #[.val (.int p1), .val (.int p2), .val (.int p3), .val (.int p4), .val (.int p5), .val (.int p6), .val (.int (2 : Int32)), .val (.int (((p1 &&& (31 : Int32)) <<< ((6 : Int32) &&& 31)) ||| (p2 &&& (63 : Int32)))), .val (.int (128 : Int32))] [(.int (3 : Int32)), (.int (2 : Int32))])) _
          refine XS.icmpYes X6.here hx rfl (pc0 := 154) (pc' := 166) rfl (hb hby d1_154) rfl (tlt c154_9).1 (by decide) (by decide) ?_
          show Steps p.tables e below (T6.setTop (mkF m 166 #[.val (.int p1), .val (.int p2), .val (.int p3), .val (.int p4), .val (.int p5), .val (.int p6), .val (.int (2 : Int32)), .val (.int (((p1 &&& (31 : Int32)) <<< ((6 : Int32) &&& 31)) ||| (p2 &&& (63 : Int32)))), .val (.int (128 : Int32))] [])) _
          refine XS.iload X6.here hx rfl (hb hby d1_166) rfl ?_
          show Steps p.tables e below (T6.setTop (mkF m 168 #[.val (.int p1), .val (.int p2), .val (.int p3), .val (.int p4), .val (.int p5), .val (.int p6), .val (.int (2 : Int32)), .val (.int (((p1 &&& (31 : Int32)) <<< ((6 : Int32) &&& 31)) ||| (p2 &&& (63 : Int32)))), .val (.int (128 : Int32))] [(.int (2 : Int32))])) _
          refine XS.iconst X6.here hx rfl (hb hby d1_168) ?_
          exact kt)
        have c169_11 : ¬ ((2 : Int32) = (4 : Int32)) := by decide
        have k14 : ∀ t, Steps p.tables e below (T6.setTop (mkF m 185 #[.val (.int p1), .val (.int p2), .val (.int p3), .val (.int p4), .val (.int p5), .val (.int p6), .val (.int (2 : Int32)), .val (.int (((p1 &&& (31 : Int32)) <<< ((6 : Int32) &&& 31)) ||| (p2 &&& (63 : Int32)))), .val (.int (128 : Int32))] [(.int (128 : Int32)), (.int (((p1 &&& (31 : Int32)) <<< ((6 : Int32) &&& 31)) ||| (p2 &&& (63 : Int32))))])) t → Steps p.tables e below (s₁.setTop (mkF m 0 #[.val (.int p1), .val (.int p2), .val (.int p3), .val (.int p4), .val (.int p5), .val (.int p6), .unset, .unset, .unset] [])) t := fun t kt => k12 t (by
          show Steps p.tables e below (T6.setTop (mkF m 169 #[.val (.int p1), .val (.int p2), .val (.int p3), .val (.int p4), .val (.int p5), .val (.int p6), .val (.int (2 : Int32)), .val (.int (((p1 &&& (31 : Int32)) <<< ((6 : Int32) &&& 31)) ||| (p2 &&& (63 : Int32)))), .val (.int (128 : Int32))] [(.int (4 : Int32)), (.int (2 : Int32))])) _
          refine XS.icmpYes X6.here hx rfl (pc0 := 169) (pc' := 181) rfl (hb hby d1_169) rfl (feq c169_11).2 (by decide) (by decide) ?_
          show Steps p.tables e below (T6.setTop (mkF m 181 #[.val (.int p1), .val (.int p2), .val (.int p3), .val (.int p4), .val (.int p5), .val (.int p6), .val (.int (2 : Int32)), .val (.int (((p1 &&& (31 : Int32)) <<< ((6 : Int32) &&& 31)) ||| (p2 &&& (63 : Int32)))), .val (.int (128 : Int32))] [])) _
          refine XS.iload X6.here hx rfl (hb hby d1_181) rfl ?_
          show Steps p.tables e below (T6.setTop (mkF m 183 #[.val (.int p1), .val (.int p2), .val (.int p3), .val (.int p4), .val (.int p5), .val (.int p6), .val (.int (2 : Int32)), .val (.int (((p1 &&& (31 : Int32)) <<< ((6 : Int32) &&& 31)) ||| (p2 &&& (63 : Int32)))), .val (.int (128 : Int32))] [(.int (((p1 &&& (31 : Int32)) <<< ((6 : Int32) &&& 31)) ||| (p2 &&& (63 : Int32))))])) _
          refine XS.iload X6.here hx rfl (hb hby d1_183) rfl ?_
          exact kt)
        by_cases c185_13 : (((p1 &&& (31 : Int32)) <<< ((6 : Int32) &&& 31)) ||| (p2 &&& (63 : Int32))) < (128 : Int32)
        · obtain ⟨fs, hr, hrun, hended, hW, hsame⟩ := X6.leave (v := some (.int (-1 : Int32))) (fun h => by rw [Bd.returns] at h; cases h)
          refine ⟨_, _, pre0 _ (k14 _ ?_), hrun, hended, _, _, rfl, ?_, ⟨_, rfl⟩, hW, hsame.mono (by decide) (by decide)⟩
          · show Steps p.tables e below (T6.setTop (mkF m 185 #[.val (.int p1), .val (.int p2), .val (.int p3), .val (.int p4), .val (.int p5), .val (.int p6), .val (.int (2 : Int32)), .val (.int (((p1 &&& (31 : Int32)) <<< ((6 : Int32) &&& 31)) ||| (p2 &&& (63 : Int32)))), .val (.int (128 : Int32))] [(.int (128 : Int32)), (.int (((p1 &&& (31 : Int32)) <<< ((6 : Int32) &&& 31)) ||| (p2 &&& (63 : Int32))))])) _
            refine XS.icmpYes X6.here hx rfl (pc0 := 185) (pc' := 195) rfl (hb hby d1_185) rfl (tlt c185_13).1 (by decide) (by decide) ?_
            show Steps p.tables e below (T6.setTop (mkF m 195 #[.val (.int p1), .val (.int p2), .val (.int p3), .val (.int p4), .val (.int p5), .val (.int p6), .val (.int (2 : Int32)), .val (.int (((p1 &&& (31 : Int32)) <<< ((6 : Int32) &&& 31)) ||| (p2 &&& (63 : Int32)))), .val (.int (128 : Int32))] [])) _
            refine XS.iconst X6.here hx rfl (hb hby d1_195) ?_
            show Steps p.tables e below (T6.setTop (mkF m 196 #[.val (.int p1), .val (.int p2), .val (.int p3), .val (.int p4), .val (.int p5), .val (.int p6), .val (.int (2 : Int32)), .val (.int (((p1 &&& (31 : Int32)) <<< ((6 : Int32) &&& 31)) ||| (p2 &&& (63 : Int32)))), .val (.int (128 : Int32))] [(.int (-1 : Int32))])) _
            exact retI X6 hx Bd.returns (hb hby d1_196) hr
          · show Q1 Z p1 p2 p3 p4 p5 p6 h0 n0 _ T6.heap _
            rw [hh6]
            have hv : sp1 p1 p2 p3 p4 p5 p6 = (-1 : Int32) := by unfold sp1; rw [if_pos c8_1, if_neg c137_3, if_neg c146_7, if_pos c185_13]
            exact ⟨by rw [hv], N6, rfl⟩
        · have k16 : ∀ t, Steps p.tables e below (T6.setTop (mkF m 192 #[.val (.int p1), .val (.int p2), .val (.int p3), .val (.int p4), .val (.int p5), .val (.int p6), .val (.int (2 : Int32)), .val (.int (((p1 &&& (31 : Int32)) <<< ((6 : Int32) &&& 31)) ||| (p2 &&& (63 : Int32)))), .val (.int (128 : Int32))] [(.int (1114111 : Int32)), (.int (((p1 &&& (31 : Int32)) <<< ((6 : Int32) &&& 31)) ||| (p2 &&& (63 : Int32))))])) t → Steps p.tables e below (s₁.setTop (mkF m 0 #[.val (.int p1), .val (.int p2), .val (.int p3), .val (.int p4), .val (.int p5), .val (.int p6), .unset, .unset, .unset] [])) t := fun t kt => k14 t (by
            show Steps p.tables e below (T6.setTop (mkF m 185 #[.val (.int p1), .val (.int p2), .val (.int p3), .val (.int p4), .val (.int p5), .val (.int p6), .val (.int (2 : Int32)), .val (.int (((p1 &&& (31 : Int32)) <<< ((6 : Int32) &&& 31)) ||| (p2 &&& (63 : Int32)))), .val (.int (128 : Int32))] [(.int (128 : Int32)), (.int (((p1 &&& (31 : Int32)) <<< ((6 : Int32) &&& 31)) ||| (p2 &&& (63 : Int32))))])) _
            refine XS.icmpNo X6.here hx rfl (hb hby d1_185) rfl (flt c185_13).1 ?_
            show Steps p.tables e below (T6.setTop (mkF m 188 #[.val (.int p1), .val (.int p2), .val (.int p3), .val (.int p4), .val (.int p5), .val (.int p6), .val (.int (2 : Int32)), .val (.int (((p1 &&& (31 : Int32)) <<< ((6 : Int32) &&& 31)) ||| (p2 &&& (63 : Int32)))), .val (.int (128 : Int32))] [])) _
            refine XS.iload X6.here hx rfl (hb hby d1_188) rfl ?_
            show Steps p.tables e below (T6.setTop (mkF m 190 #[.val (.int p1), .val (.int p2), .val (.int p3), .val (.int p4), .val (.int p5), .val (.int p6), .val (.int (2 : Int32)), .val (.int (((p1 &&& (31 : Int32)) <<< ((6 : Int32) &&& 31)) ||| (p2 &&& (63 : Int32)))), .val (.int (128 : Int32))] [(.int (((p1 &&& (31 : Int32)) <<< ((6 : Int32) &&& 31)) ||| (p2 &&& (63 : Int32))))])) _
            refine X6.ldcInt hx hown (mvT hZ (hw _ (List.mem_of_getElem? (i := 14) rfl))) (g := (mkF m 190 #[.val (.int p1), .val (.int p2), .val (.int p3), .val (.int p4), .val (.int p5), .val (.int p6), .val (.int (2 : Int32)), .val (.int (((p1 &&& (31 : Int32)) <<< ((6 : Int32) &&& 31)) ||| (p2 &&& (63 : Int32)))), .val (.int (128 : Int32))] [(.int (((p1 &&& (31 : Int32)) <<< ((6 : Int32) &&& 31)) ||| (p2 &&& (63 : Int32))))])) rfl (hb hby d1_190) _ ?_
            exact kt)
          by_cases c192_15 : (1114111 : Int32) < (((p1 &&& (31 : Int32)) <<< ((6 : Int32) &&& 31)) ||| (p2 &&& (63 : Int32)))
          · obtain ⟨fs, hr, hrun, hended, hW, hsame⟩ := X6.leave (v := some (.int (-1 : Int32))) (fun h => by rw [Bd.returns] at h; cases h)
            refine ⟨_, _, pre0 _ (k16 _ ?_), hrun, hended, _, _, rfl, ?_, ⟨_, rfl⟩, hW, hsame.mono (by decide) (by decide)⟩
            · show Steps p.tables e below (T6.setTop (mkF m 192 #[.val (.int p1), .val (.int p2), .val (.int p3), .val (.int p4), .val (.int p5), .val (.int p6), .val (.int (2 : Int32)), .val (.int (((p1 &&& (31 : Int32)) <<< ((6 : Int32) &&& 31)) ||| (p2 &&& (63 : Int32)))), .val (.int (128 : Int32))] [(.int (1114111 : Int32)), (.int (((p1 &&& (31 : Int32)) <<< ((6 : Int32) &&& 31)) ||| (p2 &&& (63 : Int32))))])) _
              refine XS.icmpNo X6.here hx rfl (hb hby d1_192) rfl (tlt c192_15).2.2.2 ?_
              show Steps p.tables e below (T6.setTop (mkF m 195 #[.val (.int p1), .val (.int p2), .val (.int p3), .val (.int p4), .val (.int p5), .val (.int p6), .val (.int (2 : Int32)), .val (.int (((p1 &&& (31 : Int32)) <<< ((6 : Int32) &&& 31)) ||| (p2 &&& (63 : Int32)))), .val (.int (128 : Int32))] [])) _
              refine XS.iconst X6.here hx rfl (hb hby d1_195) ?_
              show Steps p.tables e below (T6.setTop (mkF m 196 #[.val (.int p1), .val (.int p2), .val (.int p3), .val (.int p4), .val (.int p5), .val (.int p6), .val (.int (2 : Int32)), .val (.int (((p1 &&& (31 : Int32)) <<< ((6 : Int32) &&& 31)) ||| (p2 &&& (63 : Int32)))), .val (.int (128 : Int32))] [(.int (-1 : Int32))])) _
              exact retI X6 hx Bd.returns (hb hby d1_196) hr
            · show Q1 Z p1 p2 p3 p4 p5 p6 h0 n0 _ T6.heap _
              rw [hh6]
              have hv : sp1 p1 p2 p3 p4 p5 p6 = (-1 : Int32) := by unfold sp1; rw [if_pos c8_1, if_neg c137_3, if_neg c146_7, if_neg c185_13, if_pos c192_15]
              exact ⟨by rw [hv], N6, rfl⟩
          · have k18 : ∀ t, Steps p.tables e below (T6.setTop (mkF m 201 #[.val (.int p1), .val (.int p2), .val (.int p3), .val (.int p4), .val (.int p5), .val (.int p6), .val (.int (2 : Int32)), .val (.int (((p1 &&& (31 : Int32)) <<< ((6 : Int32) &&& 31)) ||| (p2 &&& (63 : Int32)))), .val (.int (128 : Int32))] [(.int (55296 : Int32)), (.int (((p1 &&& (31 : Int32)) <<< ((6 : Int32) &&& 31)) ||| (p2 &&& (63 : Int32))))])) t → Steps p.tables e below (s₁.setTop (mkF m 0 #[.val (.int p1), .val (.int p2), .val (.int p3), .val (.int p4), .val (.int p5), .val (.int p6), .unset, .unset, .unset] [])) t := fun t kt => k16 t (by
              show Steps p.tables e below (T6.setTop (mkF m 192 #[.val (.int p1), .val (.int p2), .val (.int p3), .val (.int p4), .val (.int p5), .val (.int p6), .val (.int (2 : Int32)), .val (.int (((p1 &&& (31 : Int32)) <<< ((6 : Int32) &&& 31)) ||| (p2 &&& (63 : Int32)))), .val (.int (128 : Int32))] [(.int (1114111 : Int32)), (.int (((p1 &&& (31 : Int32)) <<< ((6 : Int32) &&& 31)) ||| (p2 &&& (63 : Int32))))])) _
              refine XS.icmpYes X6.here hx rfl (pc0 := 192) (pc' := 197) rfl (hb hby d1_192) rfl (flt c192_15).2.2.2 (by decide) (by decide) ?_
              show Steps p.tables e below (T6.setTop (mkF m 197 #[.val (.int p1), .val (.int p2), .val (.int p3), .val (.int p4), .val (.int p5), .val (.int p6), .val (.int (2 : Int32)), .val (.int (((p1 &&& (31 : Int32)) <<< ((6 : Int32) &&& 31)) ||| (p2 &&& (63 : Int32)))), .val (.int (128 : Int32))] [])) _
              refine XS.iload X6.here hx rfl (hb hby d1_197) rfl ?_
              show Steps p.tables e below (T6.setTop (mkF m 199 #[.val (.int p1), .val (.int p2), .val (.int p3), .val (.int p4), .val (.int p5), .val (.int p6), .val (.int (2 : Int32)), .val (.int (((p1 &&& (31 : Int32)) <<< ((6 : Int32) &&& 31)) ||| (p2 &&& (63 : Int32)))), .val (.int (128 : Int32))] [(.int (((p1 &&& (31 : Int32)) <<< ((6 : Int32) &&& 31)) ||| (p2 &&& (63 : Int32))))])) _
              refine X6.ldcInt hx hown (mvT hZ (hw _ (List.mem_of_getElem? (i := 15) rfl))) (g := (mkF m 199 #[.val (.int p1), .val (.int p2), .val (.int p3), .val (.int p4), .val (.int p5), .val (.int p6), .val (.int (2 : Int32)), .val (.int (((p1 &&& (31 : Int32)) <<< ((6 : Int32) &&& 31)) ||| (p2 &&& (63 : Int32)))), .val (.int (128 : Int32))] [(.int (((p1 &&& (31 : Int32)) <<< ((6 : Int32) &&& 31)) ||| (p2 &&& (63 : Int32))))])) rfl (hb hby d1_199) _ ?_
              exact kt)
            by_cases c201_17 : (((p1 &&& (31 : Int32)) <<< ((6 : Int32) &&& 31)) ||| (p2 &&& (63 : Int32))) < (55296 : Int32)
            · obtain ⟨fs, hr, hrun, hended, hW, hsame⟩ := X6.leave (v := some (.int (p6 + (2 : Int32)))) (fun h => by rw [Bd.returns] at h; cases h)
              refine ⟨_, _, pre0 _ (k18 _ ?_), hrun, hended, _, _, rfl, ?_, ⟨_, rfl⟩, hW, hsame.mono (by decide) (by decide)⟩
              · show Steps p.tables e below (T6.setTop (mkF m 201 #[.val (.int p1), .val (.int p2), .val (.int p3), .val (.int p4), .val (.int p5), .val (.int p6), .val (.int (2 : Int32)), .val (.int (((p1 &&& (31 : Int32)) <<< ((6 : Int32) &&& 31)) ||| (p2 &&& (63 : Int32)))), .val (.int (128 : Int32))] [(.int (55296 : Int32)), (.int (((p1 &&& (31 : Int32)) <<< ((6 : Int32) &&& 31)) ||| (p2 &&& (63 : Int32))))])) _
                refine XS.icmpYes X6.here hx rfl (pc0 := 201) (pc' := 213) rfl (hb hby d1_201) rfl (tlt c201_17).1 (by decide) (by decide) ?_
                show Steps p.tables e below (T6.setTop (mkF m 213 #[.val (.int p1), .val (.int p2), .val (.int p3), .val (.int p4), .val (.int p5), .val (.int p6), .val (.int (2 : Int32)), .val (.int (((p1 &&& (31 : Int32)) <<< ((6 : Int32) &&& 31)) ||| (p2 &&& (63 : Int32)))), .val (.int (128 : Int32))] [])) _
                refine XS.iload X6.here hx rfl (hb hby d1_213) rfl ?_
                show Steps p.tables e below (T6.setTop (mkF m 215 #[.val (.int p1), .val (.int p2), .val (.int p3), .val (.int p4), .val (.int p5), .val (.int p6), .val (.int (2 : Int32)), .val (.int (((p1 &&& (31 : Int32)) <<< ((6 : Int32) &&& 31)) ||| (p2 &&& (63 : Int32)))), .val (.int (128 : Int32))] [(.int p6)])) _
                refine XS.iload X6.here hx rfl (hb hby d1_215) rfl ?_
                show Steps p.tables e below (T6.setTop (mkF m 217 #[.val (.int p1), .val (.int p2), .val (.int p3), .val (.int p4), .val (.int p5), .val (.int p6), .val (.int (2 : Int32)), .val (.int (((p1 &&& (31 : Int32)) <<< ((6 : Int32) &&& 31)) ||| (p2 &&& (63 : Int32)))), .val (.int (128 : Int32))] [(.int (2 : Int32)), (.int p6)])) _
                refine XS.iadd X6.here hx rfl (hb hby d1_217) rfl ?_
                show Steps p.tables e below (T6.setTop (mkF m 218 #[.val (.int p1), .val (.int p2), .val (.int p3), .val (.int p4), .val (.int p5), .val (.int p6), .val (.int (2 : Int32)), .val (.int (((p1 &&& (31 : Int32)) <<< ((6 : Int32) &&& 31)) ||| (p2 &&& (63 : Int32)))), .val (.int (128 : Int32))] [(.int (p6 + (2 : Int32)))])) _
                exact retI X6 hx Bd.returns (hb hby d1_218) hr
              · show Q1 Z p1 p2 p3 p4 p5 p6 h0 n0 _ T6.heap _
                rw [hh6]
                have hv : sp1 p1 p2 p3 p4 p5 p6 = (p6 + (2 : Int32)) := by unfold sp1; rw [if_pos c8_1, if_neg c137_3, if_neg c146_7, if_neg c185_13, if_neg c192_15, if_pos c201_17]
                exact ⟨by rw [hv], N6, rfl⟩
            · have k20 : ∀ t, Steps p.tables e below (T6.setTop (mkF m 208 #[.val (.int p1), .val (.int p2), .val (.int p3), .val (.int p4), .val (.int p5), .val (.int p6), .val (.int (2 : Int32)), .val (.int (((p1 &&& (31 : Int32)) <<< ((6 : Int32) &&& 31)) ||| (p2 &&& (63 : Int32)))), .val (.int (128 : Int32))] [(.int (57343 : Int32)), (.int (((p1 &&& (31 : Int32)) <<< ((6 : Int32) &&& 31)) ||| (p2 &&& (63 : Int32))))])) t → Steps p.tables e below (s₁.setTop (mkF m 0 #[.val (.int p1), .val (.int p2), .val (.int p3), .val (.int p4), .val (.int p5), .val (.int p6), .unset, .unset, .unset] [])) t := fun t kt => k18 t (by
                show Steps p.tables e below (T6.setTop (mkF m 201 #[.val (.int p1), .val (.int p2), .val (.int p3), .val (.int p4), .val (.int p5), .val (.int p6), .val (.int (2 : Int32)), .val (.int (((p1 &&& (31 : Int32)) <<< ((6 : Int32) &&& 31)) ||| (p2 &&& (63 : Int32)))), .val (.int (128 : Int32))] [(.int (55296 : Int32)), (.int (((p1 &&& (31 : Int32)) <<< ((6 : Int32) &&& 31)) ||| (p2 &&& (63 : Int32))))])) _
                refine XS.icmpNo X6.here hx rfl (hb hby d1_201) rfl (flt c201_17).1 ?_
                show Steps p.tables e below (T6.setTop (mkF m 204 #[.val (.int p1), .val (.int p2), .val (.int p3), .val (.int p4), .val (.int p5), .val (.int p6), .val (.int (2 : Int32)), .val (.int (((p1 &&& (31 : Int32)) <<< ((6 : Int32) &&& 31)) ||| (p2 &&& (63 : Int32)))), .val (.int (128 : Int32))] [])) _
                refine XS.iload X6.here hx rfl (hb hby d1_204) rfl ?_
                show Steps p.tables e below (T6.setTop (mkF m 206 #[.val (.int p1), .val (.int p2), .val (.int p3), .val (.int p4), .val (.int p5), .val (.int p6), .val (.int (2 : Int32)), .val (.int (((p1 &&& (31 : Int32)) <<< ((6 : Int32) &&& 31)) ||| (p2 &&& (63 : Int32)))), .val (.int (128 : Int32))] [(.int (((p1 &&& (31 : Int32)) <<< ((6 : Int32) &&& 31)) ||| (p2 &&& (63 : Int32))))])) _
                refine X6.ldcInt hx hown (mvT hZ (hw _ (List.mem_of_getElem? (i := 16) rfl))) (g := (mkF m 206 #[.val (.int p1), .val (.int p2), .val (.int p3), .val (.int p4), .val (.int p5), .val (.int p6), .val (.int (2 : Int32)), .val (.int (((p1 &&& (31 : Int32)) <<< ((6 : Int32) &&& 31)) ||| (p2 &&& (63 : Int32)))), .val (.int (128 : Int32))] [(.int (((p1 &&& (31 : Int32)) <<< ((6 : Int32) &&& 31)) ||| (p2 &&& (63 : Int32))))])) rfl (hb hby d1_206) _ ?_
                exact kt)
              by_cases c208_19 : (57343 : Int32) < (((p1 &&& (31 : Int32)) <<< ((6 : Int32) &&& 31)) ||| (p2 &&& (63 : Int32)))
              · obtain ⟨fs, hr, hrun, hended, hW, hsame⟩ := X6.leave (v := some (.int (p6 + (2 : Int32)))) (fun h => by rw [Bd.returns] at h; cases h)
                refine ⟨_, _, pre0 _ (k20 _ ?_), hrun, hended, _, _, rfl, ?_, ⟨_, rfl⟩, hW, hsame.mono (by decide) (by decide)⟩
                · show Steps p.tables e below (T6.setTop (mkF m 208 #[.val (.int p1), .val (.int p2), .val (.int p3), .val (.int p4), .val (.int p5), .val (.int p6), .val (.int (2 : Int32)), .val (.int (((p1 &&& (31 : Int32)) <<< ((6 : Int32) &&& 31)) ||| (p2 &&& (63 : Int32)))), .val (.int (128 : Int32))] [(.int (57343 : Int32)), (.int (((p1 &&& (31 : Int32)) <<< ((6 : Int32) &&& 31)) ||| (p2 &&& (63 : Int32))))])) _
                  refine XS.icmpYes X6.here hx rfl (pc0 := 208) (pc' := 213) rfl (hb hby d1_208) rfl (tlt c208_19).2.2.1 (by decide) (by decide) ?_
                  show Steps p.tables e below (T6.setTop (mkF m 213 #[.val (.int p1), .val (.int p2), .val (.int p3), .val (.int p4), .val (.int p5), .val (.int p6), .val (.int (2 : Int32)), .val (.int (((p1 &&& (31 : Int32)) <<< ((6 : Int32) &&& 31)) ||| (p2 &&& (63 : Int32)))), .val (.int (128 : Int32))] [])) _
                  refine XS.iload X6.here hx rfl (hb hby d1_213) rfl ?_
                  show Steps p.tables e below (T6.setTop (mkF m 215 #[.val (.int p1), .val (.int p2), .val (.int p3), .val (.int p4), .val (.int p5), .val (.int p6), .val (.int (2 : Int32)), .val (.int (((p1 &&& (31 : Int32)) <<< ((6 : Int32) &&& 31)) ||| (p2 &&& (63 : Int32)))), .val (.int (128 : Int32))] [(.int p6)])) _
                  refine XS.iload X6.here hx rfl (hb hby d1_215) rfl ?_
                  show Steps p.tables e below (T6.setTop (mkF m 217 #[.val (.int p1), .val (.int p2), .val (.int p3), .val (.int p4), .val (.int p5), .val (.int p6), .val (.int (2 : Int32)), .val (.int (((p1 &&& (31 : Int32)) <<< ((6 : Int32) &&& 31)) ||| (p2 &&& (63 : Int32)))), .val (.int (128 : Int32))] [(.int (2 : Int32)), (.int p6)])) _
                  refine XS.iadd X6.here hx rfl (hb hby d1_217) rfl ?_
                  show Steps p.tables e below (T6.setTop (mkF m 218 #[.val (.int p1), .val (.int p2), .val (.int p3), .val (.int p4), .val (.int p5), .val (.int p6), .val (.int (2 : Int32)), .val (.int (((p1 &&& (31 : Int32)) <<< ((6 : Int32) &&& 31)) ||| (p2 &&& (63 : Int32)))), .val (.int (128 : Int32))] [(.int (p6 + (2 : Int32)))])) _
                  exact retI X6 hx Bd.returns (hb hby d1_218) hr
                · show Q1 Z p1 p2 p3 p4 p5 p6 h0 n0 _ T6.heap _
                  rw [hh6]
                  have hv : sp1 p1 p2 p3 p4 p5 p6 = (p6 + (2 : Int32)) := by unfold sp1; rw [if_pos c8_1, if_neg c137_3, if_neg c146_7, if_neg c185_13, if_neg c192_15, if_neg c201_17, if_pos c208_19]
                  exact ⟨by rw [hv], N6, rfl⟩
              · obtain ⟨fs, hr, hrun, hended, hW, hsame⟩ := X6.leave (v := some (.int (-1 : Int32))) (fun h => by rw [Bd.returns] at h; cases h)
                refine ⟨_, _, pre0 _ (k20 _ ?_), hrun, hended, _, _, rfl, ?_, ⟨_, rfl⟩, hW, hsame.mono (by decide) (by decide)⟩
                · show Steps p.tables e below (T6.setTop (mkF m 208 #[.val (.int p1), .val (.int p2), .val (.int p3), .val (.int p4), .val (.int p5), .val (.int p6), .val (.int (2 : Int32)), .val (.int (((p1 &&& (31 : Int32)) <<< ((6 : Int32) &&& 31)) ||| (p2 &&& (63 : Int32)))), .val (.int (128 : Int32))] [(.int (57343 : Int32)), (.int (((p1 &&& (31 : Int32)) <<< ((6 : Int32) &&& 31)) ||| (p2 &&& (63 : Int32))))])) _
                  refine XS.icmpNo X6.here hx rfl (hb hby d1_208) rfl (flt c208_19).2.2.1 ?_
                  show Steps p.tables e below (T6.setTop (mkF m 211 #[.val (.int p1), .val (.int p2), .val (.int p3), .val (.int p4), .val (.int p5), .val (.int p6), .val (.int (2 : Int32)), .val (.int (((p1 &&& (31 : Int32)) <<< ((6 : Int32) &&& 31)) ||| (p2 &&& (63 : Int32)))), .val (.int (128 : Int32))] [])) _
                  refine XS.iconst X6.here hx rfl (hb hby d1_211) ?_
                  show Steps p.tables e below (T6.setTop (mkF m 212 #[.val (.int p1), .val (.int p2), .val (.int p3), .val (.int p4), .val (.int p5), .val (.int p6), .val (.int (2 : Int32)), .val (.int (((p1 &&& (31 : Int32)) <<< ((6 : Int32) &&& 31)) ||| (p2 &&& (63 : Int32)))), .val (.int (128 : Int32))] [(.int (-1 : Int32))])) _
                  exact retI X6 hx Bd.returns (hb hby d1_212) hr
                · show Q1 Z p1 p2 p3 p4 p5 p6 h0 n0 _ T6.heap _
                  rw [hh6]
                  have hv : sp1 p1 p2 p3 p4 p5 p6 = (-1 : Int32) := by unfold sp1; rw [if_pos c8_1, if_neg c137_3, if_neg c146_7, if_neg c185_13, if_neg c192_15, if_neg c201_17, if_neg c208_19]
                  exact ⟨by rw [hv], N6, rfl⟩
  · have k22 : ∀ t, Steps p.tables e below (s₁.setTop (mkF m 44 #[.val (.int p1), .val (.int p2), .val (.int p3), .val (.int p4), .val (.int p5), .val (.int p6), .unset, .unset, .unset] [(.int (224 : Int32)), (.int (p1 &&& (240 : Int32)))])) t → Steps p.tables e below (s₁.setTop (mkF m 0 #[.val (.int p1), .val (.int p2), .val (.int p3), .val (.int p4), .val (.int p5), .val (.int p6), .unset, .unset, .unset] [])) t := fun t kt => k2 t (by
      show Steps p.tables e below (s₁.setTop (mkF m 8 #[.val (.int p1), .val (.int p2), .val (.int p3), .val (.int p4), .val (.int p5), .val (.int p6), .unset, .unset, .unset] [(.int (192 : Int32)), (.int (p1 &&& (224 : Int32)))])) _
      refine XS.icmpYes X0.here hx rfl (pc0 := 8) (pc' := 36) rfl (hb hby d1_8) rfl (feq c8_1).2 (by decide) (by decide) ?_
      show Steps p.tables e below (s₁.setTop (mkF m 36 #[.val (.int p1), .val (.int p2), .val (.int p3), .val (.int p4), .val (.int p5), .val (.int p6), .unset, .unset, .unset] [])) _
      refine XS.iloadN X0.here hx rfl (hb hby d1_36) rfl ?_
      show Steps p.tables e below (s₁.setTop (mkF m 37 #[.val (.int p1), .val (.int p2), .val (.int p3), .val (.int p4), .val (.int p5), .val (.int p6), .unset, .unset, .unset] [(.int p1)])) _
      refine XS.sipush X0.here hx rfl (hb hby d1_37) ?_
      show Steps p.tables e below (s₁.setTop (mkF m 40 #[.val (.int p1), .val (.int p2), .val (.int p3), .val (.int p4), .val (.int p5), .val (.int p6), .unset, .unset, .unset] [(.int (240 : Int32)), (.int p1)])) _
      refine XS.iand X0.here hx rfl (hb hby d1_40) rfl ?_
      show Steps p.tables e below (s₁.setTop (mkF m 41 #[.val (.int p1), .val (.int p2), .val (.int p3), .val (.int p4), .val (.int p5), .val (.int p6), .unset, .unset, .unset] [(.int (p1 &&& (240 : Int32)))])) _
      refine XS.sipush X0.here hx rfl (hb hby d1_41) ?_
      exact kt)
    by_cases c44_21 : (p1 &&& (240 : Int32)) = (224 : Int32)
    · have k24 : ∀ t, Steps p.tables e below (s₁.setTop (mkF m 137 #[.val (.int p1), .val (.int p2), .val (.int p3), .val (.int p4), .val (.int p5), .val (.int p6), .val (.int (3 : Int32)), .val (.int ((((p1 &&& (15 : Int32)) <<< ((12 : Int32) &&& 31)) ||| ((p2 &&& (63 : Int32)) <<< ((6 : Int32) &&& 31))) ||| (p3 &&& (63 : Int32)))), .val (.int (2048 : Int32))] [(.int (3 : Int32)), (.int p5)])) t → Steps p.tables e below (s₁.setTop (mkF m 0 #[.val (.int p1), .val (.int p2), .val (.int p3), .val (.int p4), .val (.int p5), .val (.int p6), .unset, .unset, .unset] [])) t := fun t kt => k22 t (by
        show Steps p.tables e below (s₁.setTop (mkF m 44 #[.val (.int p1), .val (.int p2), .val (.int p3), .val (.int p4), .val (.int p5), .val (.int p6), .unset, .unset, .unset] [(.int (224 : Int32)), (.int (p1 &&& (240 : Int32)))])) _
        refine XS.icmpNo X0.here hx rfl (hb hby d1_44) rfl (teq c44_21).2 ?_
        show Steps p.tables e below (s₁.setTop (mkF m 47 #[.val (.int p1), .val (.int p2), .val (.int p3), .val (.int p4), .val (.int p5), .val (.int p6), .unset, .unset, .unset] [])) _
        refine XS.iconst X0.here hx rfl (hb hby d1_47) ?_
        show Steps p.tables e below (s₁.setTop (mkF m 48 #[.val (.int p1), .val (.int p2), .val (.int p3), .val (.int p4), .val (.int p5), .val (.int p6), .unset, .unset, .unset] [(.int (3 : Int32))])) _
        refine XS.istore X0.here hx rfl (hb hby d1_48) rfl (l' := #[.val (.int p1), .val (.int p2), .val (.int p3), .val (.int p4), .val (.int p5), .val (.int p6), .val (.int (3 : Int32)), .unset, .unset]) rfl ?_
        show Steps p.tables e below (s₁.setTop (mkF m 50 #[.val (.int p1), .val (.int p2), .val (.int p3), .val (.int p4), .val (.int p5), .val (.int p6), .val (.int (3 : Int32)), .unset, .unset] [])) _
        refine XS.iloadN X0.here hx rfl (hb hby d1_50) rfl ?_
        show Steps p.tables e below (s₁.setTop (mkF m 51 #[.val (.int p1), .val (.int p2), .val (.int p3), .val (.int p4), .val (.int p5), .val (.int p6), .val (.int (3 : Int32)), .unset, .unset] [(.int p1)])) _
        refine XS.bipush X0.here hx rfl (hb hby d1_51) ?_
        show Steps p.tables e below (s₁.setTop (mkF m 53 #[.val (.int p1), .val (.int p2), .val (.int p3), .val (.int p4), .val (.int p5), .val (.int p6), .val (.int (3 : Int32)), .unset, .unset] [(.int (15 : Int32)), (.int p1)])) _
        refine XS.iand X0.here hx rfl (hb hby d1_53) rfl ?_
        show Steps p.tables e below (s₁.setTop (mkF m 54 #[.val (.int p1), .val (.int p2), .val (.int p3), .val (.int p4), .val (.int p5), .val (.int p6), .val (.int (3 : Int32)), .unset, .unset] [(.int (p1 &&& (15 : Int32)))])) _
        refine XS.bipush X0.here hx rfl (hb hby d1_54) ?_
        show Steps p.tables e below (s₁.setTop (mkF m 56 #[.val (.int p1), .val (.int p2), .val (.int p3), .val (.int p4), .val (.int p5), .val (.int p6), .val (.int (3 : Int32)), .unset, .unset] [(.int (12 : Int32)), (.int (p1 &&& (15 : Int32)))])) _
        refine XS.ishl X0.here hx rfl (hb hby d1_56) rfl ?_
        show Steps p.tables e below (s₁.setTop (mkF m 57 #[.val (.int p1), .val (.int p2), .val (.int p3), .val (.int p4), .val (.int p5), .val (.int p6), .val (.int (3 : Int32)), .unset, .unset] [(.int ((p1 &&& (15 : Int32)) <<< ((12 : Int32) &&& 31)))])) _
        refine XS.iloadN X0.here hx rfl (hb hby d1_57) rfl ?_
        show Steps p.tables e below (s₁.setTop (mkF m 58 #[.val (.int p1), .val (.int p2), .val (.int p3), .val (.int p4), .val (.int p5), .val (.int p6), .val (.int (3 : Int32)), .unset, .unset] [(.int p2), (.int ((p1 &&& (15 : Int32)) <<< ((12 : Int32) &&& 31)))])) _
        refine XS.bipush X0.here hx rfl (hb hby d1_58) ?_
        show Steps p.tables e below (s₁.setTop (mkF m 60 #[.val (.int p1), .val (.int p2), .val (.int p3), .val (.int p4), .val (.int p5), .val (.int p6), .val (.int (3 : Int32)), .unset, .unset] [(.int (63 : Int32)), (.int p2), (.int ((p1 &&& (15 : Int32)) <<< ((12 : Int32) &&& 31)))])) _
        refine XS.iand X0.here hx rfl (hb hby d1_60) rfl ?_
        show Steps p.tables e below (s₁.setTop (mkF m 61 #[.val (.int p1), .val (.int p2), .val (.int p3), .val (.int p4), .val (.int p5), .val (.int p6), .val (.int (3 : Int32)), .unset, .unset] [(.int (p2 &&& (63 : Int32))), (.int ((p1 &&& (15 : Int32)) <<< ((12 : Int32) &&& 31)))])) _
        refine XS.bipush X0.here hx rfl (hb hby d1_61) ?_
        show Steps p.tables e below (s₁.setTop (mkF m 63 #[.val (.int p1), .val (.int p2), .val (.int p3), .val (.int p4), .val (.int p5), .val (.int p6), .val (.int (3 : Int32)), .unset, .unset] [(.int (6 : Int32)), (.int (p2 &&& (63 : Int32))), (.int ((p1 &&& (15 : Int32)) <<< ((12 : Int32) &&& 31)))])) _
        refine XS.ishl X0.here hx rfl (hb hby d1_63) rfl ?_
        show Steps p.tables e below (s₁.setTop (mkF m 64 #[.val (.int p1), .val (.int p2), .val (.int p3), .val (.int p4), .val (.int p5), .val (.int p6), .val (.int (3 : Int32)), .unset, .unset] [(.int ((p2 &&& (63 : Int32)) <<< ((6 : Int32) &&& 31))), (.int ((p1 &&& (15 : Int32)) <<< ((12 : Int32) &&& 31)))])) _
        refine XS.ior X0.here hx rfl (hb hby d1_64) rfl ?_
        show Steps p.tables e below (s₁.setTop (mkF m 65 #[.val (.int p1), .val (.int p2), .val (.int p3), .val (.int p4), .val (.int p5), .val (.int p6), .val (.int (3 : Int32)), .unset, .unset] [(.int (((p1 &&& (15 : Int32)) <<< ((12 : Int32) &&& 31)) ||| ((p2 &&& (63 : Int32)) <<< ((6 : Int32) &&& 31))))])) _
        refine XS.iloadN X0.here hx rfl (hb hby d1_65) rfl ?_
        show Steps p.tables e below (s₁.setTop (mkF m 66 #[.val (.int p1), .val (.int p2), .val (.int p3), .val (.int p4), .val (.int p5), .val (.int p6), .val (.int (3 : Int32)), .unset, .unset] [(.int p3), (.int (((p1 &&& (15 : Int32)) <<< ((12 : Int32) &&& 31)) ||| ((p2 &&& (63 : Int32)) <<< ((6 : Int32) &&& 31))))])) _
        refine XS.bipush X0.here hx rfl (hb hby d1_66) ?_
        show Steps p.tables e below (s₁.setTop (mkF m 68 #[.val (.int p1), .val (.int p2), .val (.int p3), .val (.int p4), .val (.int p5), .val (.int p6), .val (.int (3 : Int32)), .unset, .unset] [(.int (63 : Int32)), (.int p3), (.int (((p1 &&& (15 : Int32)) <<< ((12 : Int32) &&& 31)) ||| ((p2 &&& (63 : Int32)) <<< ((6 : Int32) &&& 31))))])) _
        refine XS.iand X0.here hx rfl (hb hby d1_68) rfl ?_
        show Steps p.tables e below (s₁.setTop (mkF m 69 #[.val (.int p1), .val (.int p2), .val (.int p3), .val (.int p4), .val (.int p5), .val (.int p6), .val (.int (3 : Int32)), .unset, .unset] [(.int (p3 &&& (63 : Int32))), (.int (((p1 &&& (15 : Int32)) <<< ((12 : Int32) &&& 31)) ||| ((p2 &&& (63 : Int32)) <<< ((6 : Int32) &&& 31))))])) _
        refine XS.ior X0.here hx rfl (hb hby d1_69) rfl ?_
        show Steps p.tables e below (s₁.setTop (mkF m 70 #[.val (.int p1), .val (.int p2), .val (.int p3), .val (.int p4), .val (.int p5), .val (.int p6), .val (.int (3 : Int32)), .unset, .unset] [(.int ((((p1 &&& (15 : Int32)) <<< ((12 : Int32) &&& 31)) ||| ((p2 &&& (63 : Int32)) <<< ((6 : Int32) &&& 31))) ||| (p3 &&& (63 : Int32))))])) _
        refine XS.istore X0.here hx rfl (hb hby d1_70) rfl (l' := #[.val (.int p1), .val (.int p2), .val (.int p3), .val (.int p4), .val (.int p5), .val (.int p6), .val (.int (3 : Int32)), .val (.int ((((p1 &&& (15 : Int32)) <<< ((12 : Int32) &&& 31)) ||| ((p2 &&& (63 : Int32)) <<< ((6 : Int32) &&& 31))) ||| (p3 &&& (63 : Int32)))), .unset]) rfl ?_
        show Steps p.tables e below (s₁.setTop (mkF m 72 #[.val (.int p1), .val (.int p2), .val (.int p3), .val (.int p4), .val (.int p5), .val (.int p6), .val (.int (3 : Int32)), .val (.int ((((p1 &&& (15 : Int32)) <<< ((12 : Int32) &&& 31)) ||| ((p2 &&& (63 : Int32)) <<< ((6 : Int32) &&& 31))) ||| (p3 &&& (63 : Int32)))), .unset] [])) _
        refine XS.sipush X0.here hx rfl (hb hby d1_72) ?_
        show Steps p.tables e below (s₁.setTop (mkF m 75 #[.val (.int p1), .val (.int p2), .val (.int p3), .val (.int p4), .val (.int p5), .val (.int p6), .val (.int (3 : Int32)), .val (.int ((((p1 &&& (15 : Int32)) <<< ((12 : Int32) &&& 31)) ||| ((p2 &&& (63 : Int32)) <<< ((6 : Int32) &&& 31))) ||| (p3 &&& (63 : Int32)))), .unset] [(.int (2048 : Int32))])) _
        refine XS.istore X0.here hx rfl (hb hby d1_75) rfl (l' := #[.val (.int p1), .val (.int p2), .val (.int p3), .val (.int p4), .val (.int p5), .val (.int p6), .val (.int (3 : Int32)), .val (.int ((((p1 &&& (15 : Int32)) <<< ((12 : Int32) &&& 31)) ||| ((p2 &&& (63 : Int32)) <<< ((6 : Int32) &&& 31))) ||| (p3 &&& (63 : Int32)))), .val (.int (2048 : Int32))]) rfl ?_
        show Steps p.tables e below (s₁.setTop (mkF m 77 #[.val (.int p1), .val (.int p2), .val (.int p3), .val (.int p4), .val (.int p5), .val (.int p6), .val (.int (3 : Int32)), .val (.int ((((p1 &&& (15 : Int32)) <<< ((12 : Int32) &&& 31)) ||| ((p2 &&& (63 : Int32)) <<< ((6 : Int32) &&& 31))) ||| (p3 &&& (63 : Int32)))), .val (.int (2048 : Int32))] [])) _
        refine XS.goto X0.here hx rfl (pc0 := 77) (pc' := 133) rfl (hb hby d1_77) (by decide) (by decide) ?_
        show Steps p.tables e below (s₁.setTop (mkF m 133 #[.val (.int p1), .val (.int p2), .val (.int p3), .val (.int p4), .val (.int p5), .val (.int p6), .val (.int (3 : Int32)), .val (.int ((((p1 &&& (15 : Int32)) <<< ((12 : Int32) &&& 31)) ||| ((p2 &&& (63 : Int32)) <<< ((6 : Int32) &&& 31))) ||| (p3 &&& (63 : Int32)))), .val (.int (2048 : Int32))] [])) _
        refine XS.iload X0.here hx rfl (hb hby d1_133) rfl ?_
        show Steps p.tables e below (s₁.setTop (mkF m 135 #[.val (.int p1), .val (.int p2), .val (.int p3), .val (.int p4), .val (.int p5), .val (.int p6), .val (.int (3 : Int32)), .val (.int ((((p1 &&& (15 : Int32)) <<< ((12 : Int32) &&& 31)) ||| ((p2 &&& (63 : Int32)) <<< ((6 : Int32) &&& 31))) ||| (p3 &&& (63 : Int32)))), .val (.int (2048 : Int32))] [(.int p5)])) _
        refine XS.iload X0.here hx rfl (hb hby d1_135) rfl ?_
        exact kt)
      by_cases c137_23 : p5 < (3 : Int32)
      · obtain ⟨fs, hr, hrun, hended, hW, hsame⟩ := X0.leave (v := some (.int (-1 : Int32))) (fun h => by rw [Bd.returns] at h; cases h)
        refine ⟨_, _, pre0 _ (k24 _ ?_), hrun, hended, _, _, rfl, ?_, ⟨_, rfl⟩, hW, hsame.mono (by decide) (by decide)⟩
        · show Steps p.tables e below (s₁.setTop (mkF m 137 #[.val (.int p1), .val (.int p2), .val (.int p3), .val (.int p4), .val (.int p5), .val (.int p6), .val (.int (3 : Int32)), .val (.int ((((p1 &&& (15 : Int32)) <<< ((12 : Int32) &&& 31)) ||| ((p2 &&& (63 : Int32)) <<< ((6 : Int32) &&& 31))) ||| (p3 &&& (63 : Int32)))), .val (.int (2048 : Int32))] [(.int (3 : Int32)), (.int p5)])) _
          refine XS.icmpNo X0.here hx rfl (hb hby d1_137) rfl (tlt c137_23).2.1 ?_
          show Steps p.tables e below (s₁.setTop (mkF m 140 #[.val (.int p1), .val (.int p2), .val (.int p3), .val (.int p4), .val (.int p5), .val (.int p6), .val (.int (3 : Int32)), .val (.int ((((p1 &&& (15 : Int32)) <<< ((12 : Int32) &&& 31)) ||| ((p2 &&& (63 : Int32)) <<< ((6 : Int32) &&& 31))) ||| (p3 &&& (63 : Int32)))), .val (.int (2048 : Int32))] [])) _
          refine XS.iconst X0.here hx rfl (hb hby d1_140) ?_
          show Steps p.tables e below (s₁.setTop (mkF m 141 #[.val (.int p1), .val (.int p2), .val (.int p3), .val (.int p4), .val (.int p5), .val (.int p6), .val (.int (3 : Int32)), .val (.int ((((p1 &&& (15 : Int32)) <<< ((12 : Int32) &&& 31)) ||| ((p2 &&& (63 : Int32)) <<< ((6 : Int32) &&& 31))) ||| (p3 &&& (63 : Int32)))), .val (.int (2048 : Int32))] [(.int (-1 : Int32))])) _
          exact retI X0 hx Bd.returns (hb hby d1_141) hr
        · show Q1 Z p1 p2 p3 p4 p5 p6 h0 n0 _ s₁.heap _
          rw [e0]
          have hv : sp1 p1 p2 p3 p4 p5 p6 = (-1 : Int32) := by unfold sp1; rw [if_neg c8_1, if_pos c44_21, if_pos c137_23]
          exact ⟨by rw [hv], N0, rfl⟩
      · have k25 : ∀ t, Steps p.tables e below (s₁.setTop (mkF m 143 #[.val (.int p1), .val (.int p2), .val (.int p3), .val (.int p4), .val (.int p5), .val (.int p6), .val (.int (3 : Int32)), .val (.int ((((p1 &&& (15 : Int32)) <<< ((12 : Int32) &&& 31)) ||| ((p2 &&& (63 : Int32)) <<< ((6 : Int32) &&& 31))) ||| (p3 &&& (63 : Int32)))), .val (.int (2048 : Int32))] [(.int p2)])) t → Steps p.tables e below (s₁.setTop (mkF m 0 #[.val (.int p1), .val (.int p2), .val (.int p3), .val (.int p4), .val (.int p5), .val (.int p6), .unset, .unset, .unset] [])) t := fun t kt => k24 t (by
          show Steps p.tables e below (s₁.setTop (mkF m 137 #[.val (.int p1), .val (.int p2), .val (.int p3), .val (.int p4), .val (.int p5), .val (.int p6), .val (.int (3 : Int32)), .val (.int ((((p1 &&& (15 : Int32)) <<< ((12 : Int32) &&& 31)) ||| ((p2 &&& (63 : Int32)) <<< ((6 : Int32) &&& 31))) ||| (p3 &&& (63 : Int32)))), .val (.int (2048 : Int32))] [(.int (3 : Int32)), (.int p5)])) _
          refine XS.icmpYes X0.here hx rfl (pc0 := 137) (pc' := 142) rfl (hb hby d1_137) rfl (flt c137_23).2.1 (by decide) (by decide) ?_
          show Steps p.tables e below (s₁.setTop (mkF m 142 #[.val (.int p1), .val (.int p2), .val (.int p3), .val (.int p4), .val (.int p5), .val (.int p6), .val (.int (3 : Int32)), .val (.int ((((p1 &&& (15 : Int32)) <<< ((12 : Int32) &&& 31)) ||| ((p2 &&& (63 : Int32)) <<< ((6 : Int32) &&& 31))) ||| (p3 &&& (63 : Int32)))), .val (.int (2048 : Int32))] [])) _
          refine XS.iloadN X0.here hx rfl (hb hby d1_142) rfl ?_
          exact kt)
        obtain ⟨_, _, ⟨T26, L26, k26', n26⟩, -, X26, ⟨Lc26, hQ26, l26, y26, z26⟩, st26⟩ := Jvm.LawKit.callS X0 hx (y := (⟨"com/example/hemawire/hemawire/serve/TextFilesCharacterEndPinLaw", "cont", "(I)Z"⟩ : MethodName)) hown (mvT hZ (hw _ (List.mem_of_getElem? (i := 10) rfl))) (mvT hZ (hw _ (List.mem_of_getElem? (i := 11) rfl))) (mvT hZ (hw _ (List.mem_of_getElem? (i := 4) rfl))) (mvT hZ (hw _ (List.mem_of_getElem? (i := 12) rfl))) (by decide) (backOf (W := 0) (rm3 l Z a0 hw [] p2 h0 n0 Z0) hZ (hw _ (List.mem_of_getElem? (i := 12) rfl)) (hw _ (List.mem_of_getElem? (i := 4) rfl)) (by decide) (by decide)) (g := (mkF m 143 #[.val (.int p1), .val (.int p2), .val (.int p3), .val (.int p4), .val (.int p5), .val (.int p6), .val (.int (3 : Int32)), .val (.int ((((p1 &&& (15 : Int32)) <<< ((12 : Int32) &&& 31)) ||| ((p2 &&& (63 : Int32)) <<< ((6 : Int32) &&& 31))) ||| (p3 &&& (63 : Int32)))), .val (.int (2048 : Int32))] [(.int p2)])) rfl (by rw [hml]; rfl) (argsL := [(.int p2)]) (rest := []) (lenOf pd1_0 rfl) rfl (by show 2 * 0 + _ ≤ _; exact Nat.le_of_eq rfl) (hb hby d1_143) (fun _ _ => ⟨rfl, e0, (by decide : 0 + 0 ≤ _), (by decide : 0 + 0 ≤ _)⟩)
        dsimp only [Pt.U, Pt.locs, Pt.cells, Pt.slots] at X26 l26 y26 z26 st26 hQ26
        subst l26 y26 z26
        obtain ⟨rfl, N26q, hh26⟩ := hQ26
        have N26 := Fr.app N0 N26q
        have k28 : ∀ t, Steps p.tables e below (T26.setTop (mkF m 146 #[.val (.int p1), .val (.int p2), .val (.int p3), .val (.int p4), .val (.int p5), .val (.int p6), .val (.int (3 : Int32)), .val (.int ((((p1 &&& (15 : Int32)) <<< ((12 : Int32) &&& 31)) ||| ((p2 &&& (63 : Int32)) <<< ((6 : Int32) &&& 31))) ||| (p3 &&& (63 : Int32)))), .val (.int (2048 : Int32))] [(.int (sp3 p2))])) t → Steps p.tables e below (s₁.setTop (mkF m 0 #[.val (.int p1), .val (.int p2), .val (.int p3), .val (.int p4), .val (.int p5), .val (.int p6), .unset, .unset, .unset] [])) t := fun t kt => k25 t (by
          show Steps p.tables e below (s₁.setTop (mkF m 143 #[.val (.int p1), .val (.int p2), .val (.int p3), .val (.int p4), .val (.int p5), .val (.int p6), .val (.int (3 : Int32)), .val (.int ((((p1 &&& (15 : Int32)) <<< ((12 : Int32) &&& 31)) ||| ((p2 &&& (63 : Int32)) <<< ((6 : Int32) &&& 31))) ||| (p3 &&& (63 : Int32)))), .val (.int (2048 : Int32))] [(.int p2)])) _
          refine st26 _ ?_
          exact kt)
        by_cases c146_27 : (sp3 p2) = (0 : Int32)
        · obtain ⟨fs, hr, hrun, hended, hW, hsame⟩ := X26.leave (v := some (.int (-1 : Int32))) (fun h => by rw [Bd.returns] at h; cases h)
          refine ⟨_, _, pre0 _ (k28 _ ?_), hrun, hended, _, _, rfl, ?_, ⟨_, rfl⟩, hW, hsame.mono (by decide) (by decide)⟩
          · show Steps p.tables e below (T26.setTop (mkF m 146 #[.val (.int p1), .val (.int p2), .val (.int p3), .val (.int p4), .val (.int p5), .val (.int p6), .val (.int (3 : Int32)), .val (.int ((((p1 &&& (15 : Int32)) <<< ((12 : Int32) &&& 31)) ||| ((p2 &&& (63 : Int32)) <<< ((6 : Int32) &&& 31))) ||| (p3 &&& (63 : Int32)))), .val (.int (2048 : Int32))] [(.int (sp3 p2))])) _
            refine XS.ifNo X26.here hx rfl (hb hby d1_146) rfl ((if0 _ _).trans (teq c146_27).2) ?_
            show Steps p.tables e below (T26.setTop (mkF m 149 #[.val (.int p1), .val (.int p2), .val (.int p3), .val (.int p4), .val (.int p5), .val (.int p6), .val (.int (3 : Int32)), .val (.int ((((p1 &&& (15 : Int32)) <<< ((12 : Int32) &&& 31)) ||| ((p2 &&& (63 : Int32)) <<< ((6 : Int32) &&& 31))) ||| (p3 &&& (63 : Int32)))), .val (.int (2048 : Int32))] [])) _
            refine XS.iconst X26.here hx rfl (hb hby d1_149) ?_
            show Steps p.tables e below (T26.setTop (mkF m 150 #[.val (.int p1), .val (.int p2), .val (.int p3), .val (.int p4), .val (.int p5), .val (.int p6), .val (.int (3 : Int32)), .val (.int ((((p1 &&& (15 : Int32)) <<< ((12 : Int32) &&& 31)) ||| ((p2 &&& (63 : Int32)) <<< ((6 : Int32) &&& 31))) ||| (p3 &&& (63 : Int32)))), .val (.int (2048 : Int32))] [(.int (-1 : Int32))])) _
            exact retI X26 hx Bd.returns (hb hby d1_150) hr
          · show Q1 Z p1 p2 p3 p4 p5 p6 h0 n0 _ T26.heap _
            rw [hh26]
            have hv : sp1 p1 p2 p3 p4 p5 p6 = (-1 : Int32) := by unfold sp1; rw [if_neg c8_1, if_pos c44_21, if_neg c137_23, if_pos c146_27]
            exact ⟨by rw [hv], N26, rfl⟩
        · have k30 : ∀ t, Steps p.tables e below (T26.setTop (mkF m 154 #[.val (.int p1), .val (.int p2), .val (.int p3), .val (.int p4), .val (.int p5), .val (.int p6), .val (.int (3 : Int32)), .val (.int ((((p1 &&& (15 : Int32)) <<< ((12 : Int32) &&& 31)) ||| ((p2 &&& (63 : Int32)) <<< ((6 : Int32) &&& 31))) ||| (p3 &&& (63 : Int32)))), .val (.int (2048 : Int32))] [(.int (3 : Int32)), (.int (3 : Int32))])) t → Steps p.tables e below (s₁.setTop (mkF m 0 #[.val (.int p1), .val (.int p2), .val (.int p3), .val (.int p4), .val (.int p5), .val (.int p6), .unset, .unset, .unset] [])) t := fun t kt => k28 t (by
            show Steps p.tables e below (T26.setTop (mkF m 146 #[.val (.int p1), .val (.int p2), .val (.int p3), .val (.int p4), .val (.int p5), .val (.int p6), .val (.int (3 : Int32)), .val (.int ((((p1 &&& (15 : Int32)) <<< ((12 : Int32) &&& 31)) ||| ((p2 &&& (63 : Int32)) <<< ((6 : Int32) &&& 31))) ||| (p3 &&& (63 : Int32)))), .val (.int (2048 : Int32))] [(.int (sp3 p2))])) _
            refine XS.ifYes X26.here hx rfl (pc0 := 146) (pc' := 151) rfl (hb hby d1_146) rfl ((if0 _ _).trans (feq c146_27).2) (by decide) (by decide) ?_
            show Steps p.tables e below (T26.setTop (mkF m 151 #[.val (.int p1), .val (.int p2), .val (.int p3), .val (.int p4), .val (.int p5), .val (.int p6), .val (.int (3 : Int32)), .val (.int ((((p1 &&& (15 : Int32)) <<< ((12 : Int32) &&& 31)) ||| ((p2 &&& (63 : Int32)) <<< ((6 : Int32) &&& 31))) ||| (p3 &&& (63 : Int32)))), .val (.int (2048 : Int32))] [])) _
            refine XS.iload X26.here hx rfl (hb hby d1_151) rfl ?_
            show Steps p.tables e below (T26.setTop (mkF m 153 #[.val (.int p1), .val (.int p2), .val (.int p3), .val (.int p4), .val (.int p5), .val (.int p6), .val (.int (3 : Int32)), .val (.int ((((p1 &&& (15 : Int32)) <<< ((12 : Int32) &&& 31)) ||| ((p2 &&& (63 : Int32)) <<< ((6 : Int32) &&& 31))) ||| (p3 &&& (63 : Int32)))), .val (.int (2048 : Int32))] [(.int (3 : Int32))])) _
            refine XS.iconst X26.here hx rfl (hb hby d1_153) ?_
            exact kt)
          have c154_29 : ¬ ((3 : Int32) < (3 : Int32)) := by decide
          have k31 : ∀ t, Steps p.tables e below (T26.setTop (mkF m 158 #[.val (.int p1), .val (.int p2), .val (.int p3), .val (.int p4), .val (.int p5), .val (.int p6), .val (.int (3 : Int32)), .val (.int ((((p1 &&& (15 : Int32)) <<< ((12 : Int32) &&& 31)) ||| ((p2 &&& (63 : Int32)) <<< ((6 : Int32) &&& 31))) ||| (p3 &&& (63 : Int32)))), .val (.int (2048 : Int32))] [(.int p3)])) t → Steps p.tables e below (s₁.setTop (mkF m 0 #[.val (.int p1), .val (.int p2), .val (.int p3), .val (.int p4), .val (.int p5), .val (.int p6), .unset, .unset, .unset] [])) t := fun t kt => k30 t (by
            show Steps p.tables e below (T26.setTop (mkF m 154 #[.val (.int p1), .val (.int p2), .val (.int p3), .val (.int p4), .val (.int p5), .val (.int p6), .val (.int (3 : Int32)), .val (.int ((((p1 &&& (15 : Int32)) <<< ((12 : Int32) &&& 31)) ||| ((p2 &&& (63 : Int32)) <<< ((6 : Int32) &&& 31))) ||| (p3 &&& (63 : Int32)))), .val (.int (2048 : Int32))] [(.int (3 : Int32)), (.int (3 : Int32))])) _
            refine XS.icmpNo X26.here hx rfl (hb hby d1_154) rfl (flt c154_29).1 ?_
            show Steps p.tables e below (T26.setTop (mkF m 157 #[.val (.int p1), .val (.int p2), .val (.int p3), .val (.int p4), .val (.int p5), .val (.int p6), .val (.int (3 : Int32)), .val (.int ((((p1 &&& (15 : Int32)) <<< ((12 : Int32) &&& 31)) ||| ((p2 &&& (63 : Int32)) <<< ((6 : Int32) &&& 31))) ||| (p3 &&& (63 : Int32)))), .val (.int (2048 : Int32))] [])) _
            refine XS.iloadN X26.here hx rfl (hb hby d1_157) rfl ?_
            exact kt)
          obtain ⟨_, _, ⟨T32, L32, k32', n32⟩, -, X32, ⟨Lc32, hQ32, l32, y32, z32⟩, st32⟩ := Jvm.LawKit.callS X26 hx (y := (⟨"com/example/hemawire/hemawire/serve/TextFilesCharacterEndPinLaw", "cont", "(I)Z"⟩ : MethodName)) hown (mvT hZ (hw _ (List.mem_of_getElem? (i := 10) rfl))) (mvT hZ (hw _ (List.mem_of_getElem? (i := 11) rfl))) (mvT hZ (hw _ (List.mem_of_getElem? (i := 4) rfl))) (mvT hZ (hw _ (List.mem_of_getElem? (i := 12) rfl))) (by decide) (backOf (W := 0) (rm3 l Z a0 hw [] p3 h0 n0 Z0) hZ (hw _ (List.mem_of_getElem? (i := 12) rfl)) (hw _ (List.mem_of_getElem? (i := 4) rfl)) (by decide) (by decide)) (g := (mkF m 158 #[.val (.int p1), .val (.int p2), .val (.int p3), .val (.int p4), .val (.int p5), .val (.int p6), .val (.int (3 : Int32)), .val (.int ((((p1 &&& (15 : Int32)) <<< ((12 : Int32) &&& 31)) ||| ((p2 &&& (63 : Int32)) <<< ((6 : Int32) &&& 31))) ||| (p3 &&& (63 : Int32)))), .val (.int (2048 : Int32))] [(.int p3)])) rfl (by rw [hml]; rfl) (argsL := [(.int p3)]) (rest := []) (lenOf pd1_0 rfl) rfl (by show 2 * 0 + _ ≤ _; exact Nat.le_of_eq rfl) (hb hby d1_158) (fun _ _ => ⟨rfl, hh26, (by decide : 0 + 0 ≤ _), (by decide : 0 + 0 ≤ _)⟩)
          dsimp only [Pt.U, Pt.locs, Pt.cells, Pt.slots] at X32 l32 y32 z32 st32 hQ32
          subst l32 y32 z32
          obtain ⟨rfl, N32q, hh32⟩ := hQ32
          have N32 := Fr.app N26 N32q
          have k34 : ∀ t, Steps p.tables e below (T32.setTop (mkF m 161 #[.val (.int p1), .val (.int p2), .val (.int p3), .val (.int p4), .val (.int p5), .val (.int p6), .val (.int (3 : Int32)), .val (.int ((((p1 &&& (15 : Int32)) <<< ((12 : Int32) &&& 31)) ||| ((p2 &&& (63 : Int32)) <<< ((6 : Int32) &&& 31))) ||| (p3 &&& (63 : Int32)))), .val (.int (2048 : Int32))] [(.int (sp3 p3))])) t → Steps p.tables e below (s₁.setTop (mkF m 0 #[.val (.int p1), .val (.int p2), .val (.int p3), .val (.int p4), .val (.int p5), .val (.int p6), .unset, .unset, .unset] [])) t := fun t kt => k31 t (by
            show Steps p.tables e below (T26.setTop (mkF m 158 #[.val (.int p1), .val (.int p2), .val (.int p3), .val (.int p4), .val (.int p5), .val (.int p6), .val (.int (3 : Int32)), .val (.int ((((p1 &&& (15 : Int32)) <<< ((12 : Int32) &&& 31)) ||| ((p2 &&& (63 : Int32)) <<< ((6 : Int32) &&& 31))) ||| (p3 &&& (63 : Int32)))), .val (.int (2048 : Int32))] [(.int p3)])) _
            refine st32 _ ?_
            exact kt)
          by_cases c161_33 : (sp3 p3) = (0 : Int32)
          · obtain ⟨fs, hr, hrun, hended, hW, hsame⟩ := X32.leave (v := some (.int (-1 : Int32))) (fun h => by rw [Bd.returns] at h; cases h)
            refine ⟨_, _, pre0 _ (k34 _ ?_), hrun, hended, _, _, rfl, ?_, ⟨_, rfl⟩, hW, hsame.mono (by decide) (by decide)⟩
            · show Steps p.tables e below (T32.setTop (mkF m 161 #[.val (.int p1), .val (.int p2), .val (.int p3), .val (.int p4), .val (.int p5), .val (.int p6), .val (.int (3 : Int32)), .val (.int ((((p1 &&& (15 : Int32)) <<< ((12 : Int32) &&& 31)) ||| ((p2 &&& (63 : Int32)) <<< ((6 : Int32) &&& 31))) ||| (p3 &&& (63 : Int32)))), .val (.int (2048 : Int32))] [(.int (sp3 p3))])) _
              refine XS.ifNo X32.here hx rfl (hb hby d1_161) rfl ((if0 _ _).trans (teq c161_33).2) ?_
              show Steps p.tables e below (T32.setTop (mkF m 164 #[.val (.int p1), .val (.int p2), .val (.int p3), .val (.int p4), .val (.int p5), .val (.int p6), .val (.int (3 : Int32)), .val (.int ((((p1 &&& (15 : Int32)) <<< ((12 : Int32) &&& 31)) ||| ((p2 &&& (63 : Int32)) <<< ((6 : Int32) &&& 31))) ||| (p3 &&& (63 : Int32)))), .val (.int (2048 : Int32))] [])) _
              refine XS.iconst X32.here hx rfl (hb hby d1_164) ?_
              show Steps p.tables e below (T32.setTop (mkF m 165 #[.val (.int p1), .val (.int p2), .val (.int p3), .val (.int p4), .val (.int p5), .val (.int p6), .val (.int (3 : Int32)), .val (.int ((((p1 &&& (15 : Int32)) <<< ((12 : Int32) &&& 31)) ||| ((p2 &&& (63 : Int32)) <<< ((6 : Int32) &&& 31))) ||| (p3 &&& (63 : Int32)))), .val (.int (2048 : Int32))] [(.int (-1 : Int32))])) _
              exact retI X32 hx Bd.returns (hb hby d1_165) hr
            · show Q1 Z p1 p2 p3 p4 p5 p6 h0 n0 _ T32.heap _
              rw [hh32]
              have hv : sp1 p1 p2 p3 p4 p5 p6 = (-1 : Int32) := by unfold sp1; rw [if_neg c8_1, if_pos c44_21, if_neg c137_23, if_neg c146_27, if_pos c161_33]
              exact ⟨by rw [hv], N32, rfl⟩
          · have k36 : ∀ t, Steps p.tables e below (T32.setTop (mkF m 169 #[.val (.int p1), .val (.int p2), .val (.int p3), .val (.int p4), .val (.int p5), .val (.int p6), .val (.int (3 : Int32)), .val (.int ((((p1 &&& (15 : Int32)) <<< ((12 : Int32) &&& 31)) ||| ((p2 &&& (63 : Int32)) <<< ((6 : Int32) &&& 31))) ||| (p3 &&& (63 : Int32)))), .val (.int (2048 : Int32))] [(.int (4 : Int32)), (.int (3 : Int32))])) t → Steps p.tables e below (s₁.setTop (mkF m 0 #[.val (.int p1), .val (.int p2), .val (.int p3), .val (.int p4), .val (.int p5), .val (.int p6), .unset, .unset, .unset] [])) t := fun t kt => k34 t (by
              show Steps p.tables e below (T32.setTop (mkF m 161 #[.val (.int p1), .val (.int p2), .val (.int p3), .val (.int p4), .val (.int p5), .val (.int p6), .val (.int (3 : Int32)), .val (.int ((((p1 &&& (15 : Int32)) <<< ((12 : Int32) &&& 31)) ||| ((p2 &&& (63 : Int32)) <<< ((6 : Int32) &&& 31))) ||| (p3 &&& (63 : Int32)))), .val (.int (2048 : Int32))] [(.int (sp3 p3))])) _
              refine XS.ifYes X32.here hx rfl (pc0 := 161) (pc' := 166) rfl (hb hby d1_161) rfl ((if0 _ _).trans (feq c161_33).2) (by decide) (by decide) ?_
              show Steps p.tables e below (T32.setTop (mkF m 166 #[.val (.int p1), .val (.int p2), .val (.int p3), .val (.int p4), .val (.int p5), .val (.int p6), .val (.int (3 : Int32)), .val (.int ((((p1 &&& (15 : Int32)) <<< ((12 : Int32) &&& 31)) ||| ((p2 &&& (63 : Int32)) <<< ((6 : Int32) &&& 31))) ||| (p3 &&& (63 : Int32)))), .val (.int (2048 : Int32))] [])) _
              refine XS.iload X32.here hx rfl (hb hby d1_166) rfl ?_
              show Steps p.tables e below (T32.setTop (mkF m 168 #[.val (.int p1), .val (.int p2), .val (.int p3), .val (.int p4), .val (.int p5), .val (.int p6), .val (.int (3 : Int32)), .val (.int ((((p1 &&& (15 : Int32)) <<< ((12 : Int32) &&& 31)) ||| ((p2 &&& (63 : Int32)) <<< ((6 : Int32) &&& 31))) ||| (p3 &&& (63 : Int32)))), .val (.int (2048 : Int32))] [(.int (3 : Int32))])) _
              refine XS.iconst X32.here hx rfl (hb hby d1_168) ?_
              exact kt)
            have c169_35 : ¬ ((3 : Int32) = (4 : Int32)) := by decide
            have k38 : ∀ t, Steps p.tables e below (T32.setTop (mkF m 185 #[.val (.int p1), .val (.int p2), .val (.int p3), .val (.int p4), .val (.int p5), .val (.int p6), .val (.int (3 : Int32)), .val (.int ((((p1 &&& (15 : Int32)) <<< ((12 : Int32) &&& 31)) ||| ((p2 &&& (63 : Int32)) <<< ((6 : Int32) &&& 31))) ||| (p3 &&& (63 : Int32)))), .val (.int (2048 : Int32))] [(.int (2048 : Int32)), (.int ((((p1 &&& (15 : Int32)) <<< ((12 : Int32) &&& 31)) ||| ((p2 &&& (63 : Int32)) <<< ((6 : Int32) &&& 31))) ||| (p3 &&& (63 : Int32))))])) t → Steps p.tables e below (s₁.setTop (mkF m 0 #[.val (.int p1), .val (.int p2), .val (.int p3), .val (.int p4), .val (.int p5), .val (.int p6), .unset, .unset, .unset] [])) t := fun t kt => k36 t (by
              show Steps p.tables e below (T32.setTop (mkF m 169 #[.val (.int p1), .val (.int p2), .val (.int p3), .val (.int p4), .val (.int p5), .val (.int p6), .val (.int (3 : Int32)), .val (.int ((((p1 &&& (15 : Int32)) <<< ((12 : Int32) &&& 31)) ||| ((p2 &&& (63 : Int32)) <<< ((6 : Int32) &&& 31))) ||| (p3 &&& (63 : Int32)))), .val (.int (2048 : Int32))] [(.int (4 : Int32)), (.int (3 : Int32))])) _
              refine XS.icmpYes X32.here hx rfl (pc0 := 169) (pc' := 181) rfl (hb hby d1_169) rfl (feq c169_35).2 (by decide) (by decide) ?_
              show Steps p.tables e below (T32.setTop (mkF m 181 #[.val (.int p1), .val (.int p2), .val (.int p3), .val (.int p4), .val (.int p5), .val (.int p6), .val (.int (3 : Int32)), .val (.int ((((p1 &&& (15 : Int32)) <<< ((12 : Int32) &&& 31)) ||| ((p2 &&& (63 : Int32)) <<< ((6 : Int32) &&& 31))) ||| (p3 &&& (63 : Int32)))), .val (.int (2048 : Int32))] [])) _
              refine XS.iload X32.here hx rfl (hb hby d1_181) rfl ?_
              show Steps p.tables e below (T32.setTop (mkF m 183 #[.val (.int p1), .val (.int p2), .val (.int p3), .val (.int p4), .val (.int p5), .val (.int p6), .val (.int (3 : Int32)), .val (.int ((((p1 &&& (15 : Int32)) <<< ((12 : Int32) &&& 31)) ||| ((p2 &&& (63 : Int32)) <<< ((6 : Int32) &&& 31))) ||| (p3 &&& (63 : Int32)))), .val (.int (2048 : Int32))] [(.int ((((p1 &&& (15 : Int32)) <<< ((12 : Int32) &&& 31)) ||| ((p2 &&& (63 : Int32)) <<< ((6 : Int32) &&& 31))) ||| (p3 &&& (63 : Int32))))])) _
              refine XS.iload X32.here hx rfl (hb hby d1_183) rfl ?_
              exact kt)
            by_cases c185_37 : ((((p1 &&& (15 : Int32)) <<< ((12 : Int32) &&& 31)) ||| ((p2 &&& (63 : Int32)) <<< ((6 : Int32) &&& 31))) ||| (p3 &&& (63 : Int32))) < (2048 : Int32)
            · obtain ⟨fs, hr, hrun, hended, hW, hsame⟩ := X32.leave (v := some (.int (-1 : Int32))) (fun h => by rw [Bd.returns] at h; cases h)
              refine ⟨_, _, pre0 _ (k38 _ ?_), hrun, hended, _, _, rfl, ?_, ⟨_, rfl⟩, hW, hsame.mono (by decide) (by decide)⟩
              · show Steps p.tables e below (T32.setTop (mkF m 185 #[.val (.int p1), .val (.int p2), .val (.int p3), .val (.int p4), .val (.int p5), .val (.int p6), .val (.int (3 : Int32)), .val (.int ((((p1 &&& (15 : Int32)) <<< ((12 : Int32) &&& 31)) ||| ((p2 &&& (63 : Int32)) <<< ((6 : Int32) &&& 31))) ||| (p3 &&& (63 : Int32)))), .val (.int (2048 : Int32))] [(.int (2048 : Int32)), (.int ((((p1 &&& (15 : Int32)) <<< ((12 : Int32) &&& 31)) ||| ((p2 &&& (63 : Int32)) <<< ((6 : Int32) &&& 31))) ||| (p3 &&& (63 : Int32))))])) _
                refine XS.icmpYes X32.here hx rfl (pc0 := 185) (pc' := 195) rfl (hb hby d1_185) rfl (tlt c185_37).1 (by decide) (by decide) ?_
                show Steps p.tables e below (T32.setTop (mkF m 195 #[.val (.int p1), .val (.int p2), .val (.int p3), .val (.int p4), .val (.int p5), .val (.int p6), .val (.int (3 : Int32)), .val (.int ((((p1 &&& (15 : Int32)) <<< ((12 : Int32) &&& 31)) ||| ((p2 &&& (63 : Int32)) <<< ((6 : Int32) &&& 31))) ||| (p3 &&& (63 : Int32)))), .val (.int (2048 : Int32))] [])) _
                refine XS.iconst X32.here hx rfl (hb hby d1_195) ?_
                show Steps p.tables e below (T32.setTop (mkF m 196 #[.val (.int p1), .val (.int p2), .val (.int p3), .val (.int p4), .val (.int p5), .val (.int p6), .val (.int (3 : Int32)), .val (.int ((((p1 &&& (15 : Int32)) <<< ((12 : Int32) &&& 31)) ||| ((p2 &&& (63 : Int32)) <<< ((6 : Int32) &&& 31))) ||| (p3 &&& (63 : Int32)))), .val (.int (2048 : Int32))] [(.int (-1 : Int32))])) _
                exact retI X32 hx Bd.returns (hb hby d1_196) hr
              · show Q1 Z p1 p2 p3 p4 p5 p6 h0 n0 _ T32.heap _
                rw [hh32]
                have hv : sp1 p1 p2 p3 p4 p5 p6 = (-1 : Int32) := by unfold sp1; rw [if_neg c8_1, if_pos c44_21, if_neg c137_23, if_neg c146_27, if_neg c161_33, if_pos c185_37]
                exact ⟨by rw [hv], N32, rfl⟩
            · have k40 : ∀ t, Steps p.tables e below (T32.setTop (mkF m 192 #[.val (.int p1), .val (.int p2), .val (.int p3), .val (.int p4), .val (.int p5), .val (.int p6), .val (.int (3 : Int32)), .val (.int ((((p1 &&& (15 : Int32)) <<< ((12 : Int32) &&& 31)) ||| ((p2 &&& (63 : Int32)) <<< ((6 : Int32) &&& 31))) ||| (p3 &&& (63 : Int32)))), .val (.int (2048 : Int32))] [(.int (1114111 : Int32)), (.int ((((p1 &&& (15 : Int32)) <<< ((12 : Int32) &&& 31)) ||| ((p2 &&& (63 : Int32)) <<< ((6 : Int32) &&& 31))) ||| (p3 &&& (63 : Int32))))])) t → Steps p.tables e below (s₁.setTop (mkF m 0 #[.val (.int p1), .val (.int p2), .val (.int p3), .val (.int p4), .val (.int p5), .val (.int p6), .unset, .unset, .unset] [])) t := fun t kt => k38 t (by
                show Steps p.tables e below (T32.setTop (mkF m 185 #[.val (.int p1), .val (.int p2), .val (.int p3), .val (.int p4), .val (.int p5), .val (.int p6), .val (.int (3 : Int32)), .val (.int ((((p1 &&& (15 : Int32)) <<< ((12 : Int32) &&& 31)) ||| ((p2 &&& (63 : Int32)) <<< ((6 : Int32) &&& 31))) ||| (p3 &&& (63 : Int32)))), .val (.int (2048 : Int32))] [(.int (2048 : Int32)), (.int ((((p1 &&& (15 : Int32)) <<< ((12 : Int32) &&& 31)) ||| ((p2 &&& (63 : Int32)) <<< ((6 : Int32) &&& 31))) ||| (p3 &&& (63 : Int32))))])) _
                refine XS.icmpNo X32.here hx rfl (hb hby d1_185) rfl (flt c185_37).1 ?_
                show Steps p.tables e below (T32.setTop (mkF m 188 #[.val (.int p1), .val (.int p2), .val (.int p3), .val (.int p4), .val (.int p5), .val (.int p6), .val (.int (3 : Int32)), .val (.int ((((p1 &&& (15 : Int32)) <<< ((12 : Int32) &&& 31)) ||| ((p2 &&& (63 : Int32)) <<< ((6 : Int32) &&& 31))) ||| (p3 &&& (63 : Int32)))), .val (.int (2048 : Int32))] [])) _
                refine XS.iload X32.here hx rfl (hb hby d1_188) rfl ?_
                show Steps p.tables e below (T32.setTop (mkF m 190 #[.val (.int p1), .val (.int p2), .val (.int p3), .val (.int p4), .val (.int p5), .val (.int p6), .val (.int (3 : Int32)), .val (.int ((((p1 &&& (15 : Int32)) <<< ((12 : Int32) &&& 31)) ||| ((p2 &&& (63 : Int32)) <<< ((6 : Int32) &&& 31))) ||| (p3 &&& (63 : Int32)))), .val (.int (2048 : Int32))] [(.int ((((p1 &&& (15 : Int32)) <<< ((12 : Int32) &&& 31)) ||| ((p2 &&& (63 : Int32)) <<< ((6 : Int32) &&& 31))) ||| (p3 &&& (63 : Int32))))])) _
                refine X32.ldcInt hx hown (mvT hZ (hw _ (List.mem_of_getElem? (i := 14) rfl))) (g := (mkF m 190 #[.val (.int p1), .val (.int p2), .val (.int p3), .val (.int p4), .val (.int p5), .val (.int p6), .val (.int (3 : Int32)), .val (.int ((((p1 &&& (15 : Int32)) <<< ((12 : Int32) &&& 31)) ||| ((p2 &&& (63 : Int32)) <<< ((6 : Int32) &&& 31))) ||| (p3 &&& (63 : Int32)))), .val (.int (2048 : Int32))] [(.int ((((p1 &&& (15 : Int32)) <<< ((12 : Int32) &&& 31)) ||| ((p2 &&& (63 : Int32)) <<< ((6 : Int32) &&& 31))) ||| (p3 &&& (63 : Int32))))])) rfl (hb hby d1_190) _ ?_
                exact kt)
              by_cases c192_39 : (1114111 : Int32) < ((((p1 &&& (15 : Int32)) <<< ((12 : Int32) &&& 31)) ||| ((p2 &&& (63 : Int32)) <<< ((6 : Int32) &&& 31))) ||| (p3 &&& (63 : Int32)))
              · obtain ⟨fs, hr, hrun, hended, hW, hsame⟩ := X32.leave (v := some (.int (-1 : Int32))) (fun h => by rw [Bd.returns] at h; cases h)
                refine ⟨_, _, pre0 _ (k40 _ ?_), hrun, hended, _, _, rfl, ?_, ⟨_, rfl⟩, hW, hsame.mono (by decide) (by decide)⟩
                · show Steps p.tables e below (T32.setTop (mkF m 192 #[.val (.int p1), .val (.int p2), .val (.int p3), .val (.int p4), .val (.int p5), .val (.int p6), .val (.int (3 : Int32)), .val (.int ((((p1 &&& (15 : Int32)) <<< ((12 : Int32) &&& 31)) ||| ((p2 &&& (63 : Int32)) <<< ((6 : Int32) &&& 31))) ||| (p3 &&& (63 : Int32)))), .val (.int (2048 : Int32))] [(.int (1114111 : Int32)), (.int ((((p1 &&& (15 : Int32)) <<< ((12 : Int32) &&& 31)) ||| ((p2 &&& (63 : Int32)) <<< ((6 : Int32) &&& 31))) ||| (p3 &&& (63 : Int32))))])) _
                  refine XS.icmpNo X32.here hx rfl (hb hby d1_192) rfl (tlt c192_39).2.2.2 ?_
                  show Steps p.tables e below (T32.setTop (mkF m 195 #[.val (.int p1), .val (.int p2), .val (.int p3), .val (.int p4), .val (.int p5), .val (.int p6), .val (.int (3 : Int32)), .val (.int ((((p1 &&& (15 : Int32)) <<< ((12 : Int32) &&& 31)) ||| ((p2 &&& (63 : Int32)) <<< ((6 : Int32) &&& 31))) ||| (p3 &&& (63 : Int32)))), .val (.int (2048 : Int32))] [])) _
                  refine XS.iconst X32.here hx rfl (hb hby d1_195) ?_
                  show Steps p.tables e below (T32.setTop (mkF m 196 #[.val (.int p1), .val (.int p2), .val (.int p3), .val (.int p4), .val (.int p5), .val (.int p6), .val (.int (3 : Int32)), .val (.int ((((p1 &&& (15 : Int32)) <<< ((12 : Int32) &&& 31)) ||| ((p2 &&& (63 : Int32)) <<< ((6 : Int32) &&& 31))) ||| (p3 &&& (63 : Int32)))), .val (.int (2048 : Int32))] [(.int (-1 : Int32))])) _
                  exact retI X32 hx Bd.returns (hb hby d1_196) hr
                · show Q1 Z p1 p2 p3 p4 p5 p6 h0 n0 _ T32.heap _
                  rw [hh32]
                  have hv : sp1 p1 p2 p3 p4 p5 p6 = (-1 : Int32) := by unfold sp1; rw [if_neg c8_1, if_pos c44_21, if_neg c137_23, if_neg c146_27, if_neg c161_33, if_neg c185_37, if_pos c192_39]
                  exact ⟨by rw [hv], N32, rfl⟩
              · have k42 : ∀ t, Steps p.tables e below (T32.setTop (mkF m 201 #[.val (.int p1), .val (.int p2), .val (.int p3), .val (.int p4), .val (.int p5), .val (.int p6), .val (.int (3 : Int32)), .val (.int ((((p1 &&& (15 : Int32)) <<< ((12 : Int32) &&& 31)) ||| ((p2 &&& (63 : Int32)) <<< ((6 : Int32) &&& 31))) ||| (p3 &&& (63 : Int32)))), .val (.int (2048 : Int32))] [(.int (55296 : Int32)), (.int ((((p1 &&& (15 : Int32)) <<< ((12 : Int32) &&& 31)) ||| ((p2 &&& (63 : Int32)) <<< ((6 : Int32) &&& 31))) ||| (p3 &&& (63 : Int32))))])) t → Steps p.tables e below (s₁.setTop (mkF m 0 #[.val (.int p1), .val (.int p2), .val (.int p3), .val (.int p4), .val (.int p5), .val (.int p6), .unset, .unset, .unset] [])) t := fun t kt => k40 t (by
                  show Steps p.tables e below (T32.setTop (mkF m 192 #[.val (.int p1), .val (.int p2), .val (.int p3), .val (.int p4), .val (.int p5), .val (.int p6), .val (.int (3 : Int32)), .val (.int ((((p1 &&& (15 : Int32)) <<< ((12 : Int32) &&& 31)) ||| ((p2 &&& (63 : Int32)) <<< ((6 : Int32) &&& 31))) ||| (p3 &&& (63 : Int32)))), .val (.int (2048 : Int32))] [(.int (1114111 : Int32)), (.int ((((p1 &&& (15 : Int32)) <<< ((12 : Int32) &&& 31)) ||| ((p2 &&& (63 : Int32)) <<< ((6 : Int32) &&& 31))) ||| (p3 &&& (63 : Int32))))])) _
                  refine XS.icmpYes X32.here hx rfl (pc0 := 192) (pc' := 197) rfl (hb hby d1_192) rfl (flt c192_39).2.2.2 (by decide) (by decide) ?_
                  show Steps p.tables e below (T32.setTop (mkF m 197 #[.val (.int p1), .val (.int p2), .val (.int p3), .val (.int p4), .val (.int p5), .val (.int p6), .val (.int (3 : Int32)), .val (.int ((((p1 &&& (15 : Int32)) <<< ((12 : Int32) &&& 31)) ||| ((p2 &&& (63 : Int32)) <<< ((6 : Int32) &&& 31))) ||| (p3 &&& (63 : Int32)))), .val (.int (2048 : Int32))] [])) _
                  refine XS.iload X32.here hx rfl (hb hby d1_197) rfl ?_
                  show Steps p.tables e below (T32.setTop (mkF m 199 #[.val (.int p1), .val (.int p2), .val (.int p3), .val (.int p4), .val (.int p5), .val (.int p6), .val (.int (3 : Int32)), .val (.int ((((p1 &&& (15 : Int32)) <<< ((12 : Int32) &&& 31)) ||| ((p2 &&& (63 : Int32)) <<< ((6 : Int32) &&& 31))) ||| (p3 &&& (63 : Int32)))), .val (.int (2048 : Int32))] [(.int ((((p1 &&& (15 : Int32)) <<< ((12 : Int32) &&& 31)) ||| ((p2 &&& (63 : Int32)) <<< ((6 : Int32) &&& 31))) ||| (p3 &&& (63 : Int32))))])) _
                  refine X32.ldcInt hx hown (mvT hZ (hw _ (List.mem_of_getElem? (i := 15) rfl))) (g := (mkF m 199 #[.val (.int p1), .val (.int p2), .val (.int p3), .val (.int p4), .val (.int p5), .val (.int p6), .val (.int (3 : Int32)), .val (.int ((((p1 &&& (15 : Int32)) <<< ((12 : Int32) &&& 31)) ||| ((p2 &&& (63 : Int32)) <<< ((6 : Int32) &&& 31))) ||| (p3 &&& (63 : Int32)))), .val (.int (2048 : Int32))] [(.int ((((p1 &&& (15 : Int32)) <<< ((12 : Int32) &&& 31)) ||| ((p2 &&& (63 : Int32)) <<< ((6 : Int32) &&& 31))) ||| (p3 &&& (63 : Int32))))])) rfl (hb hby d1_199) _ ?_
                  exact kt)
                by_cases c201_41 : ((((p1 &&& (15 : Int32)) <<< ((12 : Int32) &&& 31)) ||| ((p2 &&& (63 : Int32)) <<< ((6 : Int32) &&& 31))) ||| (p3 &&& (63 : Int32))) < (55296 : Int32)
                · obtain ⟨fs, hr, hrun, hended, hW, hsame⟩ := X32.leave (v := some (.int (p6 + (3 : Int32)))) (fun h => by rw [Bd.returns] at h; cases h)
                  refine ⟨_, _, pre0 _ (k42 _ ?_), hrun, hended, _, _, rfl, ?_, ⟨_, rfl⟩, hW, hsame.mono (by decide) (by decide)⟩
                  · show Steps p.tables e below (T32.setTop (mkF m 201 #[.val (.int p1), .val (.int p2), .val (.int p3), .val (.int p4), .val (.int p5), .val (.int p6), .val (.int (3 : Int32)), .val (.int ((((p1 &&& (15 : Int32)) <<< ((12 : Int32) &&& 31)) ||| ((p2 &&& (63 : Int32)) <<< ((6 : Int32) &&& 31))) ||| (p3 &&& (63 : Int32)))), .val (.int (2048 : Int32))] [(.int (55296 : Int32)), (.int ((((p1 &&& (15 : Int32)) <<< ((12 : Int32) &&& 31)) ||| ((p2 &&& (63 : Int32)) <<< ((6 : Int32) &&& 31))) ||| (p3 &&& (63 : Int32))))])) _
                    refine XS.icmpYes X32.here hx rfl (pc0 := 201) (pc' := 213) rfl (hb hby d1_201) rfl (tlt c201_41).1 (by decide) (by decide) ?_
                    show Steps p.tables e below (T32.setTop (mkF m 213 #[.val (.int p1), .val (.int p2), .val (.int p3), .val (.int p4), .val (.int p5), .val (.int p6), .val (.int (3 : Int32)), .val (.int ((((p1 &&& (15 : Int32)) <<< ((12 : Int32) &&& 31)) ||| ((p2 &&& (63 : Int32)) <<< ((6 : Int32) &&& 31))) ||| (p3 &&& (63 : Int32)))), .val (.int (2048 : Int32))] [])) _
                    refine XS.iload X32.here hx rfl (hb hby d1_213) rfl ?_
                    show Steps p.tables e below (T32.setTop (mkF m 215 #[.val (.int p1), .val (.int p2), .val (.int p3), .val (.int p4), .val (.int p5), .val (.int p6), .val (.int (3 : Int32)), .val (.int ((((p1 &&& (15 : Int32)) <<< ((12 : Int32) &&& 31)) ||| ((p2 &&& (63 : Int32)) <<< ((6 : Int32) &&& 31))) ||| (p3 &&& (63 : Int32)))), .val (.int (2048 : Int32))] [(.int p6)])) _
                    refine XS.iload X32.here hx rfl (hb hby d1_215) rfl ?_
                    show Steps p.tables e below (T32.setTop (mkF m 217 #[.val (.int p1), .val (.int p2), .val (.int p3), .val (.int p4), .val (.int p5), .val (.int p6), .val (.int (3 : Int32)), .val (.int ((((p1 &&& (15 : Int32)) <<< ((12 : Int32) &&& 31)) ||| ((p2 &&& (63 : Int32)) <<< ((6 : Int32) &&& 31))) ||| (p3 &&& (63 : Int32)))), .val (.int (2048 : Int32))] [(.int (3 : Int32)), (.int p6)])) _
                    refine XS.iadd X32.here hx rfl (hb hby d1_217) rfl ?_
                    show Steps p.tables e below (T32.setTop (mkF m 218 #[.val (.int p1), .val (.int p2), .val (.int p3), .val (.int p4), .val (.int p5), .val (.int p6), .val (.int (3 : Int32)), .val (.int ((((p1 &&& (15 : Int32)) <<< ((12 : Int32) &&& 31)) ||| ((p2 &&& (63 : Int32)) <<< ((6 : Int32) &&& 31))) ||| (p3 &&& (63 : Int32)))), .val (.int (2048 : Int32))] [(.int (p6 + (3 : Int32)))])) _
                    exact retI X32 hx Bd.returns (hb hby d1_218) hr
                  · show Q1 Z p1 p2 p3 p4 p5 p6 h0 n0 _ T32.heap _
                    rw [hh32]
                    have hv : sp1 p1 p2 p3 p4 p5 p6 = (p6 + (3 : Int32)) := by unfold sp1; rw [if_neg c8_1, if_pos c44_21, if_neg c137_23, if_neg c146_27, if_neg c161_33, if_neg c185_37, if_neg c192_39, if_pos c201_41]
                    exact ⟨by rw [hv], N32, rfl⟩
                · have k44 : ∀ t, Steps p.tables e below (T32.setTop (mkF m 208 #[.val (.int p1), .val (.int p2), .val (.int p3), .val (.int p4), .val (.int p5), .val (.int p6), .val (.int (3 : Int32)), .val (.int ((((p1 &&& (15 : Int32)) <<< ((12 : Int32) &&& 31)) ||| ((p2 &&& (63 : Int32)) <<< ((6 : Int32) &&& 31))) ||| (p3 &&& (63 : Int32)))), .val (.int (2048 : Int32))] [(.int (57343 : Int32)), (.int ((((p1 &&& (15 : Int32)) <<< ((12 : Int32) &&& 31)) ||| ((p2 &&& (63 : Int32)) <<< ((6 : Int32) &&& 31))) ||| (p3 &&& (63 : Int32))))])) t → Steps p.tables e below (s₁.setTop (mkF m 0 #[.val (.int p1), .val (.int p2), .val (.int p3), .val (.int p4), .val (.int p5), .val (.int p6), .unset, .unset, .unset] [])) t := fun t kt => k42 t (by
                    show Steps p.tables e below (T32.setTop (mkF m 201 #[.val (.int p1), .val (.int p2), .val (.int p3), .val (.int p4), .val (.int p5), .val (.int p6), .val (.int (3 : Int32)), .val (.int ((((p1 &&& (15 : Int32)) <<< ((12 : Int32) &&& 31)) ||| ((p2 &&& (63 : Int32)) <<< ((6 : Int32) &&& 31))) ||| (p3 &&& (63 : Int32)))), .val (.int (2048 : Int32))] [(.int (55296 : Int32)), (.int ((((p1 &&& (15 : Int32)) <<< ((12 : Int32) &&& 31)) ||| ((p2 &&& (63 : Int32)) <<< ((6 : Int32) &&& 31))) ||| (p3 &&& (63 : Int32))))])) _
                    refine XS.icmpNo X32.here hx rfl (hb hby d1_201) rfl (flt c201_41).1 ?_
                    show Steps p.tables e below (T32.setTop (mkF m 204 #[.val (.int p1), .val (.int p2), .val (.int p3), .val (.int p4), .val (.int p5), .val (.int p6), .val (.int (3 : Int32)), .val (.int ((((p1 &&& (15 : Int32)) <<< ((12 : Int32) &&& 31)) ||| ((p2 &&& (63 : Int32)) <<< ((6 : Int32) &&& 31))) ||| (p3 &&& (63 : Int32)))), .val (.int (2048 : Int32))] [])) _
                    refine XS.iload X32.here hx rfl (hb hby d1_204) rfl ?_
                    show Steps p.tables e below (T32.setTop (mkF m 206 #[.val (.int p1), .val (.int p2), .val (.int p3), .val (.int p4), .val (.int p5), .val (.int p6), .val (.int (3 : Int32)), .val (.int ((((p1 &&& (15 : Int32)) <<< ((12 : Int32) &&& 31)) ||| ((p2 &&& (63 : Int32)) <<< ((6 : Int32) &&& 31))) ||| (p3 &&& (63 : Int32)))), .val (.int (2048 : Int32))] [(.int ((((p1 &&& (15 : Int32)) <<< ((12 : Int32) &&& 31)) ||| ((p2 &&& (63 : Int32)) <<< ((6 : Int32) &&& 31))) ||| (p3 &&& (63 : Int32))))])) _
                    refine X32.ldcInt hx hown (mvT hZ (hw _ (List.mem_of_getElem? (i := 16) rfl))) (g := (mkF m 206 #[.val (.int p1), .val (.int p2), .val (.int p3), .val (.int p4), .val (.int p5), .val (.int p6), .val (.int (3 : Int32)), .val (.int ((((p1 &&& (15 : Int32)) <<< ((12 : Int32) &&& 31)) ||| ((p2 &&& (63 : Int32)) <<< ((6 : Int32) &&& 31))) ||| (p3 &&& (63 : Int32)))), .val (.int (2048 : Int32))] [(.int ((((p1 &&& (15 : Int32)) <<< ((12 : Int32) &&& 31)) ||| ((p2 &&& (63 : Int32)) <<< ((6 : Int32) &&& 31))) ||| (p3 &&& (63 : Int32))))])) rfl (hb hby d1_206) _ ?_
                    exact kt)
                  by_cases c208_43 : (57343 : Int32) < ((((p1 &&& (15 : Int32)) <<< ((12 : Int32) &&& 31)) ||| ((p2 &&& (63 : Int32)) <<< ((6 : Int32) &&& 31))) ||| (p3 &&& (63 : Int32)))
                  · obtain ⟨fs, hr, hrun, hended, hW, hsame⟩ := X32.leave (v := some (.int (p6 + (3 : Int32)))) (fun h => by rw [Bd.returns] at h; cases h)
                    refine ⟨_, _, pre0 _ (k44 _ ?_), hrun, hended, _, _, rfl, ?_, ⟨_, rfl⟩, hW, hsame.mono (by decide) (by decide)⟩
                    · show Steps p.tables e below (T32.setTop (mkF m 208 #[.val (.int p1), .val (.int p2), .val (.int p3), .val (.int p4), .val (.int p5), .val (.int p6), .val (.int (3 : Int32)), .val (.int ((((p1 &&& (15 : Int32)) <<< ((12 : Int32) &&& 31)) ||| ((p2 &&& (63 : Int32)) <<< ((6 : Int32) &&& 31))) ||| (p3 &&& (63 : Int32)))), .val (.int (2048 : Int32))] [(.int (57343 : Int32)), (.int ((((p1 &&& (15 : Int32)) <<< ((12 : Int32) &&& 31)) ||| ((p2 &&& (63 : Int32)) <<< ((6 : Int32) &&& 31))) ||| (p3 &&& (63 : Int32))))])) _
                      refine XS.icmpYes X32.here hx rfl (pc0 := 208) (pc' := 213) rfl (hb hby d1_208) rfl (tlt c208_43).2.2.1 (by decide) (by decide) ?_
                      show Steps p.tables e below (T32.setTop (mkF m 213 #[.val (.int p1), .val (.int p2), .val (.int p3), .val (.int p4), .val (.int p5), .val (.int p6), .val (.int (3 : Int32)), .val (.int ((((p1 &&& (15 : Int32)) <<< ((12 : Int32) &&& 31)) ||| ((p2 &&& (63 : Int32)) <<< ((6 : Int32) &&& 31))) ||| (p3 &&& (63 : Int32)))), .val (.int (2048 : Int32))] [])) _
                      refine XS.iload X32.here hx rfl (hb hby d1_213) rfl ?_
                      show Steps p.tables e below (T32.setTop (mkF m 215 #[.val (.int p1), .val (.int p2), .val (.int p3), .val (.int p4), .val (.int p5), .val (.int p6), .val (.int (3 : Int32)), .val (.int ((((p1 &&& (15 : Int32)) <<< ((12 : Int32) &&& 31)) ||| ((p2 &&& (63 : Int32)) <<< ((6 : Int32) &&& 31))) ||| (p3 &&& (63 : Int32)))), .val (.int (2048 : Int32))] [(.int p6)])) _
                      refine XS.iload X32.here hx rfl (hb hby d1_215) rfl ?_
                      show Steps p.tables e below (T32.setTop (mkF m 217 #[.val (.int p1), .val (.int p2), .val (.int p3), .val (.int p4), .val (.int p5), .val (.int p6), .val (.int (3 : Int32)), .val (.int ((((p1 &&& (15 : Int32)) <<< ((12 : Int32) &&& 31)) ||| ((p2 &&& (63 : Int32)) <<< ((6 : Int32) &&& 31))) ||| (p3 &&& (63 : Int32)))), .val (.int (2048 : Int32))] [(.int (3 : Int32)), (.int p6)])) _
                      refine XS.iadd X32.here hx rfl (hb hby d1_217) rfl ?_
                      show Steps p.tables e below (T32.setTop (mkF m 218 #[.val (.int p1), .val (.int p2), .val (.int p3), .val (.int p4), .val (.int p5), .val (.int p6), .val (.int (3 : Int32)), .val (.int ((((p1 &&& (15 : Int32)) <<< ((12 : Int32) &&& 31)) ||| ((p2 &&& (63 : Int32)) <<< ((6 : Int32) &&& 31))) ||| (p3 &&& (63 : Int32)))), .val (.int (2048 : Int32))] [(.int (p6 + (3 : Int32)))])) _
                      exact retI X32 hx Bd.returns (hb hby d1_218) hr
                    · show Q1 Z p1 p2 p3 p4 p5 p6 h0 n0 _ T32.heap _
                      rw [hh32]
                      have hv : sp1 p1 p2 p3 p4 p5 p6 = (p6 + (3 : Int32)) := by unfold sp1; rw [if_neg c8_1, if_pos c44_21, if_neg c137_23, if_neg c146_27, if_neg c161_33, if_neg c185_37, if_neg c192_39, if_neg c201_41, if_pos c208_43]
                      exact ⟨by rw [hv], N32, rfl⟩
                  · obtain ⟨fs, hr, hrun, hended, hW, hsame⟩ := X32.leave (v := some (.int (-1 : Int32))) (fun h => by rw [Bd.returns] at h; cases h)
                    refine ⟨_, _, pre0 _ (k44 _ ?_), hrun, hended, _, _, rfl, ?_, ⟨_, rfl⟩, hW, hsame.mono (by decide) (by decide)⟩
                    · show Steps p.tables e below (T32.setTop (mkF m 208 #[.val (.int p1), .val (.int p2), .val (.int p3), .val (.int p4), .val (.int p5), .val (.int p6), .val (.int (3 : Int32)), .val (.int ((((p1 &&& (15 : Int32)) <<< ((12 : Int32) &&& 31)) ||| ((p2 &&& (63 : Int32)) <<< ((6 : Int32) &&& 31))) ||| (p3 &&& (63 : Int32)))), .val (.int (2048 : Int32))] [(.int (57343 : Int32)), (.int ((((p1 &&& (15 : Int32)) <<< ((12 : Int32) &&& 31)) ||| ((p2 &&& (63 : Int32)) <<< ((6 : Int32) &&& 31))) ||| (p3 &&& (63 : Int32))))])) _
                      refine XS.icmpNo X32.here hx rfl (hb hby d1_208) rfl (flt c208_43).2.2.1 ?_
                      show Steps p.tables e below (T32.setTop (mkF m 211 #[.val (.int p1), .val (.int p2), .val (.int p3), .val (.int p4), .val (.int p5), .val (.int p6), .val (.int (3 : Int32)), .val (.int ((((p1 &&& (15 : Int32)) <<< ((12 : Int32) &&& 31)) ||| ((p2 &&& (63 : Int32)) <<< ((6 : Int32) &&& 31))) ||| (p3 &&& (63 : Int32)))), .val (.int (2048 : Int32))] [])) _
                      refine XS.iconst X32.here hx rfl (hb hby d1_211) ?_
                      show Steps p.tables e below (T32.setTop (mkF m 212 #[.val (.int p1), .val (.int p2), .val (.int p3), .val (.int p4), .val (.int p5), .val (.int p6), .val (.int (3 : Int32)), .val (.int ((((p1 &&& (15 : Int32)) <<< ((12 : Int32) &&& 31)) ||| ((p2 &&& (63 : Int32)) <<< ((6 : Int32) &&& 31))) ||| (p3 &&& (63 : Int32)))), .val (.int (2048 : Int32))] [(.int (-1 : Int32))])) _
                      exact retI X32 hx Bd.returns (hb hby d1_212) hr
                    · show Q1 Z p1 p2 p3 p4 p5 p6 h0 n0 _ T32.heap _
                      rw [hh32]
                      have hv : sp1 p1 p2 p3 p4 p5 p6 = (-1 : Int32) := by unfold sp1; rw [if_neg c8_1, if_pos c44_21, if_neg c137_23, if_neg c146_27, if_neg c161_33, if_neg c185_37, if_neg c192_39, if_neg c201_41, if_neg c208_43]
                      exact ⟨by rw [hv], N32, rfl⟩
    · have k46 : ∀ t, Steps p.tables e below (s₁.setTop (mkF m 88 #[.val (.int p1), .val (.int p2), .val (.int p3), .val (.int p4), .val (.int p5), .val (.int p6), .unset, .unset, .unset] [(.int (240 : Int32)), (.int (p1 &&& (248 : Int32)))])) t → Steps p.tables e below (s₁.setTop (mkF m 0 #[.val (.int p1), .val (.int p2), .val (.int p3), .val (.int p4), .val (.int p5), .val (.int p6), .unset, .unset, .unset] [])) t := fun t kt => k22 t (by
        show Steps p.tables e below (s₁.setTop (mkF m 44 #[.val (.int p1), .val (.int p2), .val (.int p3), .val (.int p4), .val (.int p5), .val (.int p6), .unset, .unset, .unset] [(.int (224 : Int32)), (.int (p1 &&& (240 : Int32)))])) _
        refine XS.icmpYes X0.here hx rfl (pc0 := 44) (pc' := 80) rfl (hb hby d1_44) rfl (feq c44_21).2 (by decide) (by decide) ?_
        show Steps p.tables e below (s₁.setTop (mkF m 80 #[.val (.int p1), .val (.int p2), .val (.int p3), .val (.int p4), .val (.int p5), .val (.int p6), .unset, .unset, .unset] [])) _
        refine XS.iloadN X0.here hx rfl (hb hby d1_80) rfl ?_
        show Steps p.tables e below (s₁.setTop (mkF m 81 #[.val (.int p1), .val (.int p2), .val (.int p3), .val (.int p4), .val (.int p5), .val (.int p6), .unset, .unset, .unset] [(.int p1)])) _
        refine XS.sipush X0.here hx rfl (hb hby d1_81) ?_
        show Steps p.tables e below (s₁.setTop (mkF m 84 #[.val (.int p1), .val (.int p2), .val (.int p3), .val (.int p4), .val (.int p5), .val (.int p6), .unset, .unset, .unset] [(.int (248 : Int32)), (.int p1)])) _
        refine XS.iand X0.here hx rfl (hb hby d1_84) rfl ?_
        show Steps p.tables e below (s₁.setTop (mkF m 85 #[.val (.int p1), .val (.int p2), .val (.int p3), .val (.int p4), .val (.int p5), .val (.int p6), .unset, .unset, .unset] [(.int (p1 &&& (248 : Int32)))])) _
        refine XS.sipush X0.here hx rfl (hb hby d1_85) ?_
        exact kt)
      by_cases c88_45 : (p1 &&& (248 : Int32)) = (240 : Int32)
      · have k48 : ∀ t, Steps p.tables e below (s₁.setTop (mkF m 137 #[.val (.int p1), .val (.int p2), .val (.int p3), .val (.int p4), .val (.int p5), .val (.int p6), .val (.int (4 : Int32)), .val (.int (((((p1 &&& (7 : Int32)) <<< ((18 : Int32) &&& 31)) ||| ((p2 &&& (63 : Int32)) <<< ((12 : Int32) &&& 31))) ||| ((p3 &&& (63 : Int32)) <<< ((6 : Int32) &&& 31))) ||| (p4 &&& (63 : Int32)))), .val (.int (65536 : Int32))] [(.int (4 : Int32)), (.int p5)])) t → Steps p.tables e below (s₁.setTop (mkF m 0 #[.val (.int p1), .val (.int p2), .val (.int p3), .val (.int p4), .val (.int p5), .val (.int p6), .unset, .unset, .unset] [])) t := fun t kt => k46 t (by
          show Steps p.tables e below (s₁.setTop (mkF m 88 #[.val (.int p1), .val (.int p2), .val (.int p3), .val (.int p4), .val (.int p5), .val (.int p6), .unset, .unset, .unset] [(.int (240 : Int32)), (.int (p1 &&& (248 : Int32)))])) _
          refine XS.icmpNo X0.here hx rfl (hb hby d1_88) rfl (teq c88_45).2 ?_
          show Steps p.tables e below (s₁.setTop (mkF m 91 #[.val (.int p1), .val (.int p2), .val (.int p3), .val (.int p4), .val (.int p5), .val (.int p6), .unset, .unset, .unset] [])) _
          refine XS.iconst X0.here hx rfl (hb hby d1_91) ?_
          show Steps p.tables e below (s₁.setTop (mkF m 92 #[.val (.int p1), .val (.int p2), .val (.int p3), .val (.int p4), .val (.int p5), .val (.int p6), .unset, .unset, .unset] [(.int (4 : Int32))])) _
          refine XS.istore X0.here hx rfl (hb hby d1_92) rfl (l' := #[.val (.int p1), .val (.int p2), .val (.int p3), .val (.int p4), .val (.int p5), .val (.int p6), .val (.int (4 : Int32)), .unset, .unset]) rfl ?_
          show Steps p.tables e below (s₁.setTop (mkF m 94 #[.val (.int p1), .val (.int p2), .val (.int p3), .val (.int p4), .val (.int p5), .val (.int p6), .val (.int (4 : Int32)), .unset, .unset] [])) _
          refine XS.iloadN X0.here hx rfl (hb hby d1_94) rfl ?_
          show Steps p.tables e below (s₁.setTop (mkF m 95 #[.val (.int p1), .val (.int p2), .val (.int p3), .val (.int p4), .val (.int p5), .val (.int p6), .val (.int (4 : Int32)), .unset, .unset] [(.int p1)])) _
          refine XS.bipush X0.here hx rfl (hb hby d1_95) ?_
          show Steps p.tables e below (s₁.setTop (mkF m 97 #[.val (.int p1), .val (.int p2), .val (.int p3), .val (.int p4), .val (.int p5), .val (.int p6), .val (.int (4 : Int32)), .unset, .unset] [(.int (7 : Int32)), (.int p1)])) _
          refine XS.iand X0.here hx rfl (hb hby d1_97) rfl ?_
          show Steps p.tables e below (s₁.setTop (mkF m 98 #[.val (.int p1), .val (.int p2), .val (.int p3), .val (.int p4), .val (.int p5), .val (.int p6), .val (.int (4 : Int32)), .unset, .unset] [(.int (p1 &&& (7 : Int32)))])) _
          refine XS.bipush X0.here hx rfl (hb hby d1_98) ?_
          show Steps p.tables e below (s₁.setTop (mkF m 100 #[.val (.int p1), .val (.int p2), .val (.int p3), .val (.int p4), .val (.int p5), .val (.int p6), .val (.int (4 : Int32)), .unset, .unset] [(.int (18 : Int32)), (.int (p1 &&& (7 : Int32)))])) _
          refine XS.ishl X0.here hx rfl (hb hby d1_100) rfl ?_
          show Steps p.tables e below (s₁.setTop (mkF m 101 #[.val (.int p1), .val (.int p2), .val (.int p3), .val (.int p4), .val (.int p5), .val (.int p6), .val (.int (4 : Int32)), .unset, .unset] [(.int ((p1 &&& (7 : Int32)) <<< ((18 : Int32) &&& 31)))])) _
          refine XS.iloadN X0.here hx rfl (hb hby d1_101) rfl ?_
          show Steps p.tables e below (s₁.setTop (mkF m 102 #[.val (.int p1), .val (.int p2), .val (.int p3), .val (.int p4), .val (.int p5), .val (.int p6), .val (.int (4 : Int32)), .unset, .unset] [(.int p2), (.int ((p1 &&& (7 : Int32)) <<< ((18 : Int32) &&& 31)))])) _
          refine XS.bipush X0.here hx rfl (hb hby d1_102) ?_
          show Steps p.tables e below (s₁.setTop (mkF m 104 #[.val (.int p1), .val (.int p2), .val (.int p3), .val (.int p4), .val (.int p5), .val (.int p6), .val (.int (4 : Int32)), .unset, .unset] [(.int (63 : Int32)), (.int p2), (.int ((p1 &&& (7 : Int32)) <<< ((18 : Int32) &&& 31)))])) _
          refine XS.iand X0.here hx rfl (hb hby d1_104) rfl ?_
          show Steps p.tables e below (s₁.setTop (mkF m 105 #[.val (.int p1), .val (.int p2), .val (.int p3), .val (.int p4), .val (.int p5), .val (.int p6), .val (.int (4 : Int32)), .unset, .unset] [(.int (p2 &&& (63 : Int32))), (.int ((p1 &&& (7 : Int32)) <<< ((18 : Int32) &&& 31)))])) _
          refine XS.bipush X0.here hx rfl (hb hby d1_105) ?_
          show Steps p.tables e below (s₁.setTop (mkF m 107 #[.val (.int p1), .val (.int p2), .val (.int p3), .val (.int p4), .val (.int p5), .val (.int p6), .val (.int (4 : Int32)), .unset, .unset] [(.int (12 : Int32)), (.int (p2 &&& (63 : Int32))), (.int ((p1 &&& (7 : Int32)) <<< ((18 : Int32) &&& 31)))])) _
          refine XS.ishl X0.here hx rfl (hb hby d1_107) rfl ?_
          show Steps p.tables e below (s₁.setTop (mkF m 108 #[.val (.int p1), .val (.int p2), .val (.int p3), .val (.int p4), .val (.int p5), .val (.int p6), .val (.int (4 : Int32)), .unset, .unset] [(.int ((p2 &&& (63 : Int32)) <<< ((12 : Int32) &&& 31))), (.int ((p1 &&& (7 : Int32)) <<< ((18 : Int32) &&& 31)))])) _
          refine XS.ior X0.here hx rfl (hb hby d1_108) rfl ?_
          show Steps p.tables e below (s₁.setTop (mkF m 109 #[.val (.int p1), .val (.int p2), .val (.int p3), .val (.int p4), .val (.int p5), .val (.int p6), .val (.int (4 : Int32)), .unset, .unset] [(.int (((p1 &&& (7 : Int32)) <<< ((18 : Int32) &&& 31)) ||| ((p2 &&& (63 : Int32)) <<< ((12 : Int32) &&& 31))))])) _
          refine XS.iloadN X0.here hx rfl (hb hby d1_109) rfl ?_
          show Steps p.tables e below (s₁.setTop (mkF m 110 #[.val (.int p1), .val (.int p2), .val (.int p3), .val (.int p4), .val (.int p5), .val (.int p6), .val (.int (4 : Int32)), .unset, .unset] [(.int p3), (.int (((p1 &&& (7 : Int32)) <<< ((18 : Int32) &&& 31)) ||| ((p2 &&& (63 : Int32)) <<< ((12 : Int32) &&& 31))))])) _
          refine XS.bipush X0.here hx rfl (hb hby d1_110) ?_
          show Steps p.tables e below (s₁.setTop (mkF m 112 #[.val (.int p1), .val (.int p2), .val (.int p3), .val (.int p4), .val (.int p5), .val (.int p6), .val (.int (4 : Int32)), .unset, .unset] [(.int (63 : Int32)), (.int p3), (.int (((p1 &&& (7 : Int32)) <<< ((18 : Int32) &&& 31)) ||| ((p2 &&& (63 : Int32)) <<< ((12 : Int32) &&& 31))))])) _
          refine XS.iand X0.here hx rfl (hb hby d1_112) rfl ?_
          show Steps p.tables e below (s₁.setTop (mkF m 113 #[.val (.int p1), .val (.int p2), .val (.int p3), .val (.int p4), .val (.int p5), .val (.int p6), .val (.int (4 : Int32)), .unset, .unset] [(.int (p3 &&& (63 : Int32))), (.int (((p1 &&& (7 : Int32)) <<< ((18 : Int32) &&& 31)) ||| ((p2 &&& (63 : Int32)) <<< ((12 : Int32) &&& 31))))])) _
          refine XS.bipush X0.here hx rfl (hb hby d1_113) ?_
          show Steps p.tables e below (s₁.setTop (mkF m 115 #[.val (.int p1), .val (.int p2), .val (.int p3), .val (.int p4), .val (.int p5), .val (.int p6), .val (.int (4 : Int32)), .unset, .unset] [(.int (6 : Int32)), (.int (p3 &&& (63 : Int32))), (.int (((p1 &&& (7 : Int32)) <<< ((18 : Int32) &&& 31)) ||| ((p2 &&& (63 : Int32)) <<< ((12 : Int32) &&& 31))))])) _
          refine XS.ishl X0.here hx rfl (hb hby d1_115) rfl ?_
          show Steps p.tables e below (s₁.setTop (mkF m 116 #[.val (.int p1), .val (.int p2), .val (.int p3), .val (.int p4), .val (.int p5), .val (.int p6), .val (.int (4 : Int32)), .unset, .unset] [(.int ((p3 &&& (63 : Int32)) <<< ((6 : Int32) &&& 31))), (.int (((p1 &&& (7 : Int32)) <<< ((18 : Int32) &&& 31)) ||| ((p2 &&& (63 : Int32)) <<< ((12 : Int32) &&& 31))))])) _
          refine XS.ior X0.here hx rfl (hb hby d1_116) rfl ?_
          show Steps p.tables e below (s₁.setTop (mkF m 117 #[.val (.int p1), .val (.int p2), .val (.int p3), .val (.int p4), .val (.int p5), .val (.int p6), .val (.int (4 : Int32)), .unset, .unset] [(.int ((((p1 &&& (7 : Int32)) <<< ((18 : Int32) &&& 31)) ||| ((p2 &&& (63 : Int32)) <<< ((12 : Int32) &&& 31))) ||| ((p3 &&& (63 : Int32)) <<< ((6 : Int32) &&& 31))))])) _
          refine XS.iloadN X0.here hx rfl (hb hby d1_117) rfl ?_
          show Steps p.tables e below (s₁.setTop (mkF m 118 #[.val (.int p1), .val (.int p2), .val (.int p3), .val (.int p4), .val (.int p5), .val (.int p6), .val (.int (4 : Int32)), .unset, .unset] [(.int p4), (.int ((((p1 &&& (7 : Int32)) <<< ((18 : Int32) &&& 31)) ||| ((p2 &&& (63 : Int32)) <<< ((12 : Int32) &&& 31))) ||| ((p3 &&& (63 : Int32)) <<< ((6 : Int32) &&& 31))))])) _
          refine XS.bipush X0.here hx rfl (hb hby d1_118) ?_
          show Steps p.tables e below (s₁.setTop (mkF m 120 #[.val (.int p1), .val (.int p2), .val (.int p3), .val (.int p4), .val (.int p5), .val (.int p6), .val (.int (4 : Int32)), .unset, .unset] [(.int (63 : Int32)), (.int p4), (.int ((((p1 &&& (7 : Int32)) <<< ((18 : Int32) &&& 31)) ||| ((p2 &&& (63 : Int32)) <<< ((12 : Int32) &&& 31))) ||| ((p3 &&& (63 : Int32)) <<< ((6 : Int32) &&& 31))))])) _
          refine XS.iand X0.here hx rfl (hb hby d1_120) rfl ?_
          show Steps p.tables e below (s₁.setTop (mkF m 121 #[.val (.int p1), .val (.int p2), .val (.int p3), .val (.int p4), .val (.int p5), .val (.int p6), .val (.int (4 : Int32)), .unset, .unset] [(.int (p4 &&& (63 : Int32))), (.int ((((p1 &&& (7 : Int32)) <<< ((18 : Int32) &&& 31)) ||| ((p2 &&& (63 : Int32)) <<< ((12 : Int32) &&& 31))) ||| ((p3 &&& (63 : Int32)) <<< ((6 : Int32) &&& 31))))])) _
          refine XS.ior X0.here hx rfl (hb hby d1_121) rfl ?_
          show Steps p.tables e below (s₁.setTop (mkF m 122 #[.val (.int p1), .val (.int p2), .val (.int p3), .val (.int p4), .val (.int p5), .val (.int p6), .val (.int (4 : Int32)), .unset, .unset] [(.int (((((p1 &&& (7 : Int32)) <<< ((18 : Int32) &&& 31)) ||| ((p2 &&& (63 : Int32)) <<< ((12 : Int32) &&& 31))) ||| ((p3 &&& (63 : Int32)) <<< ((6 : Int32) &&& 31))) ||| (p4 &&& (63 : Int32))))])) _
          refine XS.istore X0.here hx rfl (hb hby d1_122) rfl (l' := #[.val (.int p1), .val (.int p2), .val (.int p3), .val (.int p4), .val (.int p5), .val (.int p6), .val (.int (4 : Int32)), .val (.int (((((p1 &&& (7 : Int32)) <<< ((18 : Int32) &&& 31)) ||| ((p2 &&& (63 : Int32)) <<< ((12 : Int32) &&& 31))) ||| ((p3 &&& (63 : Int32)) <<< ((6 : Int32) &&& 31))) ||| (p4 &&& (63 : Int32)))), .unset]) rfl ?_
          show Steps p.tables e below (s₁.setTop (mkF m 124 #[.val (.int p1), .val (.int p2), .val (.int p3), .val (.int p4), .val (.int p5), .val (.int p6), .val (.int (4 : Int32)), .val (.int (((((p1 &&& (7 : Int32)) <<< ((18 : Int32) &&& 31)) ||| ((p2 &&& (63 : Int32)) <<< ((12 : Int32) &&& 31))) ||| ((p3 &&& (63 : Int32)) <<< ((6 : Int32) &&& 31))) ||| (p4 &&& (63 : Int32)))), .unset] [])) _
          refine X0.ldcInt hx hown (mvT hZ (hw _ (List.mem_of_getElem? (i := 13) rfl))) (g := (mkF m 124 #[.val (.int p1), .val (.int p2), .val (.int p3), .val (.int p4), .val (.int p5), .val (.int p6), .val (.int (4 : Int32)), .val (.int (((((p1 &&& (7 : Int32)) <<< ((18 : Int32) &&& 31)) ||| ((p2 &&& (63 : Int32)) <<< ((12 : Int32) &&& 31))) ||| ((p3 &&& (63 : Int32)) <<< ((6 : Int32) &&& 31))) ||| (p4 &&& (63 : Int32)))), .unset] [])) rfl (hb hby d1_124) _ ?_
          show Steps p.tables e below (s₁.setTop (mkF m 126 #[.val (.int p1), .val (.int p2), .val (.int p3), .val (.int p4), .val (.int p5), .val (.int p6), .val (.int (4 : Int32)), .val (.int (((((p1 &&& (7 : Int32)) <<< ((18 : Int32) &&& 31)) ||| ((p2 &&& (63 : Int32)) <<< ((12 : Int32) &&& 31))) ||| ((p3 &&& (63 : Int32)) <<< ((6 : Int32) &&& 31))) ||| (p4 &&& (63 : Int32)))), .unset] [(.int (65536 : Int32))])) _
          refine XS.istore X0.here hx rfl (hb hby d1_126) rfl (l' := #[.val (.int p1), .val (.int p2), .val (.int p3), .val (.int p4), .val (.int p5), .val (.int p6), .val (.int (4 : Int32)), .val (.int (((((p1 &&& (7 : Int32)) <<< ((18 : Int32) &&& 31)) ||| ((p2 &&& (63 : Int32)) <<< ((12 : Int32) &&& 31))) ||| ((p3 &&& (63 : Int32)) <<< ((6 : Int32) &&& 31))) ||| (p4 &&& (63 : Int32)))), .val (.int (65536 : Int32))]) rfl ?_
          show Steps p.tables e below (s₁.setTop (mkF m 128 #[.val (.int p1), .val (.int p2), .val (.int p3), .val (.int p4), .val (.int p5), .val (.int p6), .val (.int (4 : Int32)), .val (.int (((((p1 &&& (7 : Int32)) <<< ((18 : Int32) &&& 31)) ||| ((p2 &&& (63 : Int32)) <<< ((12 : Int32) &&& 31))) ||| ((p3 &&& (63 : Int32)) <<< ((6 : Int32) &&& 31))) ||| (p4 &&& (63 : Int32)))), .val (.int (65536 : Int32))] [])) _
          refine XS.goto X0.here hx rfl (pc0 := 128) (pc' := 133) rfl (hb hby d1_128) (by decide) (by decide) ?_
          show Steps p.tables e below (s₁.setTop (mkF m 133 #[.val (.int p1), .val (.int p2), .val (.int p3), .val (.int p4), .val (.int p5), .val (.int p6), .val (.int (4 : Int32)), .val (.int (((((p1 &&& (7 : Int32)) <<< ((18 : Int32) &&& 31)) ||| ((p2 &&& (63 : Int32)) <<< ((12 : Int32) &&& 31))) ||| ((p3 &&& (63 : Int32)) <<< ((6 : Int32) &&& 31))) ||| (p4 &&& (63 : Int32)))), .val (.int (65536 : Int32))] [])) _
          refine XS.iload X0.here hx rfl (hb hby d1_133) rfl ?_
          show Steps p.tables e below (s₁.setTop (mkF m 135 #[.val (.int p1), .val (.int p2), .val (.int p3), .val (.int p4), .val (.int p5), .val (.int p6), .val (.int (4 : Int32)), .val (.int (((((p1 &&& (7 : Int32)) <<< ((18 : Int32) &&& 31)) ||| ((p2 &&& (63 : Int32)) <<< ((12 : Int32) &&& 31))) ||| ((p3 &&& (63 : Int32)) <<< ((6 : Int32) &&& 31))) ||| (p4 &&& (63 : Int32)))), .val (.int (65536 : Int32))] [(.int p5)])) _
          refine XS.iload X0.here hx rfl (hb hby d1_135) rfl ?_
          exact kt)
        by_cases c137_47 : p5 < (4 : Int32)
        · obtain ⟨fs, hr, hrun, hended, hW, hsame⟩ := X0.leave (v := some (.int (-1 : Int32))) (fun h => by rw [Bd.returns] at h; cases h)
          refine ⟨_, _, pre0 _ (k48 _ ?_), hrun, hended, _, _, rfl, ?_, ⟨_, rfl⟩, hW, hsame.mono (by decide) (by decide)⟩
          · show Steps p.tables e below (s₁.setTop (mkF m 137 #[.val (.int p1), .val (.int p2), .val (.int p3), .val (.int p4), .val (.int p5), .val (.int p6), .val (.int (4 : Int32)), .val (.int (((((p1 &&& (7 : Int32)) <<< ((18 : Int32) &&& 31)) ||| ((p2 &&& (63 : Int32)) <<< ((12 : Int32) &&& 31))) ||| ((p3 &&& (63 : Int32)) <<< ((6 : Int32) &&& 31))) ||| (p4 &&& (63 : Int32)))), .val (.int (65536 : Int32))] [(.int (4 : Int32)), (.int p5)])) _
            refine XS.icmpNo X0.here hx rfl (hb hby d1_137) rfl (tlt c137_47).2.1 ?_
            show Steps p.tables e below (s₁.setTop (mkF m 140 #[.val (.int p1), .val (.int p2), .val (.int p3), .val (.int p4), .val (.int p5), .val (.int p6), .val (.int (4 : Int32)), .val (.int (((((p1 &&& (7 : Int32)) <<< ((18 : Int32) &&& 31)) ||| ((p2 &&& (63 : Int32)) <<< ((12 : Int32) &&& 31))) ||| ((p3 &&& (63 : Int32)) <<< ((6 : Int32) &&& 31))) ||| (p4 &&& (63 : Int32)))), .val (.int (65536 : Int32))] [])) _
            refine XS.iconst X0.here hx rfl (hb hby d1_140) ?_
            show Steps p.tables e below (s₁.setTop (mkF m 141 #[.val (.int p1), .val (.int p2), .val (.int p3), .val (.int p4), .val (.int p5), .val (.int p6), .val (.int (4 : Int32)), .val (.int (((((p1 &&& (7 : Int32)) <<< ((18 : Int32) &&& 31)) ||| ((p2 &&& (63 : Int32)) <<< ((12 : Int32) &&& 31))) ||| ((p3 &&& (63 : Int32)) <<< ((6 : Int32) &&& 31))) ||| (p4 &&& (63 : Int32)))), .val (.int (65536 : Int32))] [(.int (-1 : Int32))])) _
            exact retI X0 hx Bd.returns (hb hby d1_141) hr
          · show Q1 Z p1 p2 p3 p4 p5 p6 h0 n0 _ s₁.heap _
            rw [e0]
            have hv : sp1 p1 p2 p3 p4 p5 p6 = (-1 : Int32) := by unfold sp1; rw [if_neg c8_1, if_neg c44_21, if_pos c88_45, if_pos c137_47]
            exact ⟨by rw [hv], N0, rfl⟩
        · have k49 : ∀ t, Steps p.tables e below (s₁.setTop (mkF m 143 #[.val (.int p1), .val (.int p2), .val (.int p3), .val (.int p4), .val (.int p5), .val (.int p6), .val (.int (4 : Int32)), .val (.int (((((p1 &&& (7 : Int32)) <<< ((18 : Int32) &&& 31)) ||| ((p2 &&& (63 : Int32)) <<< ((12 : Int32) &&& 31))) ||| ((p3 &&& (63 : Int32)) <<< ((6 : Int32) &&& 31))) ||| (p4 &&& (63 : Int32)))), .val (.int (65536 : Int32))] [(.int p2)])) t → Steps p.tables e below (s₁.setTop (mkF m 0 #[.val (.int p1), .val (.int p2), .val (.int p3), .val (.int p4), .val (.int p5), .val (.int p6), .unset, .unset, .unset] [])) t := fun t kt => k48 t (by
            show Steps p.tables e below (s₁.setTop (mkF m 137 #[.val (.int p1), .val (.int p2), .val (.int p3), .val (.int p4), .val (.int p5), .val (.int p6), .val (.int (4 : Int32)), .val (.int (((((p1 &&& (7 : Int32)) <<< ((18 : Int32) &&& 31)) ||| ((p2 &&& (63 : Int32)) <<< ((12 : Int32) &&& 31))) ||| ((p3 &&& (63 : Int32)) <<< ((6 : Int32) &&& 31))) ||| (p4 &&& (63 : Int32)))), .val (.int (65536 : Int32))] [(.int (4 : Int32)), (.int p5)])) _
            refine XS.icmpYes X0.here hx rfl (pc0 := 137) (pc' := 142) rfl (hb hby d1_137) rfl (flt c137_47).2.1 (by decide) (by decide) ?_
            show Steps p.tables e below (s₁.setTop (mkF m 142 #[.val (.int p1), .val (.int p2), .val (.int p3), .val (.int p4), .val (.int p5), .val (.int p6), .val (.int (4 : Int32)), .val (.int (((((p1 &&& (7 : Int32)) <<< ((18 : Int32) &&& 31)) ||| ((p2 &&& (63 : Int32)) <<< ((12 : Int32) &&& 31))) ||| ((p3 &&& (63 : Int32)) <<< ((6 : Int32) &&& 31))) ||| (p4 &&& (63 : Int32)))), .val (.int (65536 : Int32))] [])) _
            refine XS.iloadN X0.here hx rfl (hb hby d1_142) rfl ?_
            exact kt)
          obtain ⟨_, _, ⟨T50, L50, k50', n50⟩, -, X50, ⟨Lc50, hQ50, l50, y50, z50⟩, st50⟩ := Jvm.LawKit.callS X0 hx (y := (⟨"com/example/hemawire/hemawire/serve/TextFilesCharacterEndPinLaw", "cont", "(I)Z"⟩ : MethodName)) hown (mvT hZ (hw _ (List.mem_of_getElem? (i := 10) rfl))) (mvT hZ (hw _ (List.mem_of_getElem? (i := 11) rfl))) (mvT hZ (hw _ (List.mem_of_getElem? (i := 4) rfl))) (mvT hZ (hw _ (List.mem_of_getElem? (i := 12) rfl))) (by decide) (backOf (W := 0) (rm3 l Z a0 hw [] p2 h0 n0 Z0) hZ (hw _ (List.mem_of_getElem? (i := 12) rfl)) (hw _ (List.mem_of_getElem? (i := 4) rfl)) (by decide) (by decide)) (g := (mkF m 143 #[.val (.int p1), .val (.int p2), .val (.int p3), .val (.int p4), .val (.int p5), .val (.int p6), .val (.int (4 : Int32)), .val (.int (((((p1 &&& (7 : Int32)) <<< ((18 : Int32) &&& 31)) ||| ((p2 &&& (63 : Int32)) <<< ((12 : Int32) &&& 31))) ||| ((p3 &&& (63 : Int32)) <<< ((6 : Int32) &&& 31))) ||| (p4 &&& (63 : Int32)))), .val (.int (65536 : Int32))] [(.int p2)])) rfl (by rw [hml]; rfl) (argsL := [(.int p2)]) (rest := []) (lenOf pd1_0 rfl) rfl (by show 2 * 0 + _ ≤ _; exact Nat.le_of_eq rfl) (hb hby d1_143) (fun _ _ => ⟨rfl, e0, (by decide : 0 + 0 ≤ _), (by decide : 0 + 0 ≤ _)⟩)
          dsimp only [Pt.U, Pt.locs, Pt.cells, Pt.slots] at X50 l50 y50 z50 st50 hQ50
          subst l50 y50 z50
          obtain ⟨rfl, N50q, hh50⟩ := hQ50
          have N50 := Fr.app N0 N50q
          have k52 : ∀ t, Steps p.tables e below (T50.setTop (mkF m 146 #[.val (.int p1), .val (.int p2), .val (.int p3), .val (.int p4), .val (.int p5), .val (.int p6), .val (.int (4 : Int32)), .val (.int (((((p1 &&& (7 : Int32)) <<< ((18 : Int32) &&& 31)) ||| ((p2 &&& (63 : Int32)) <<< ((12 : Int32) &&& 31))) ||| ((p3 &&& (63 : Int32)) <<< ((6 : Int32) &&& 31))) ||| (p4 &&& (63 : Int32)))), .val (.int (65536 : Int32))] [(.int (sp3 p2))])) t → Steps p.tables e below (s₁.setTop (mkF m 0 #[.val (.int p1), .val (.int p2), .val (.int p3), .val (.int p4), .val (.int p5), .val (.int p6), .unset, .unset, .unset] [])) t := fun t kt => k49 t (by
            show Steps p.tables e below (s₁.setTop (mkF m 143 #[.val (.int p1), .val (.int p2), .val (.int p3), .val (.int p4), .val (.int p5), .val (.int p6), .val (.int (4 : Int32)), .val (.int (((((p1 &&& (7 : Int32)) <<< ((18 : Int32) &&& 31)) ||| ((p2 &&& (63 : Int32)) <<< ((12 : Int32) &&& 31))) ||| ((p3 &&& (63 : Int32)) <<< ((6 : Int32) &&& 31))) ||| (p4 &&& (63 : Int32)))), .val (.int (65536 : Int32))] [(.int p2)])) _
            refine st50 _ ?_
            exact kt)
          by_cases c146_51 : (sp3 p2) = (0 : Int32)
          · obtain ⟨fs, hr, hrun, hended, hW, hsame⟩ := X50.leave (v := some (.int (-1 : Int32))) (fun h => by rw [Bd.returns] at h; cases h)
            refine ⟨_, _, pre0 _ (k52 _ ?_), hrun, hended, _, _, rfl, ?_, ⟨_, rfl⟩, hW, hsame.mono (by decide) (by decide)⟩
            · show Steps p.tables e below (T50.setTop (mkF m 146 #[.val (.int p1), .val (.int p2), .val (.int p3), .val (.int p4), .val (.int p5), .val (.int p6), .val (.int (4 : Int32)), .val (.int (((((p1 &&& (7 : Int32)) <<< ((18 : Int32) &&& 31)) ||| ((p2 &&& (63 : Int32)) <<< ((12 : Int32) &&& 31))) ||| ((p3 &&& (63 : Int32)) <<< ((6 : Int32) &&& 31))) ||| (p4 &&& (63 : Int32)))), .val (.int (65536 : Int32))] [(.int (sp3 p2))])) _
              refine XS.ifNo X50.here hx rfl (hb hby d1_146) rfl ((if0 _ _).trans (teq c146_51).2) ?_
              show Steps p.tables e below (T50.setTop (mkF m 149 #[.val (.int p1), .val (.int p2), .val (.int p3), .val (.int p4), .val (.int p5), .val (.int p6), .val (.int (4 : Int32)), .val (.int (((((p1 &&& (7 : Int32)) <<< ((18 : Int32) &&& 31)) ||| ((p2 &&& (63 : Int32)) <<< ((12 : Int32) &&& 31))) ||| ((p3 &&& (63 : Int32)) <<< ((6 : Int32) &&& 31))) ||| (p4 &&& (63 : Int32)))), .val (.int (65536 : Int32))] [])) _
              refine XS.iconst X50.here hx rfl (hb hby d1_149) ?_
              show Steps p.tables e below (T50.setTop (mkF m 150 #[.val (.int p1), .val (.int p2), .val (.int p3), .val (.int p4), .val (.int p5), .val (.int p6), .val (.int (4 : Int32)), .val (.int (((((p1 &&& (7 : Int32)) <<< ((18 : Int32) &&& 31)) ||| ((p2 &&& (63 : Int32)) <<< ((12 : Int32) &&& 31))) ||| ((p3 &&& (63 : Int32)) <<< ((6 : Int32) &&& 31))) ||| (p4 &&& (63 : Int32)))), .val (.int (65536 : Int32))] [(.int (-1 : Int32))])) _
              exact retI X50 hx Bd.returns (hb hby d1_150) hr
            · show Q1 Z p1 p2 p3 p4 p5 p6 h0 n0 _ T50.heap _
              rw [hh50]
              have hv : sp1 p1 p2 p3 p4 p5 p6 = (-1 : Int32) := by unfold sp1; rw [if_neg c8_1, if_neg c44_21, if_pos c88_45, if_neg c137_47, if_pos c146_51]
              exact ⟨by rw [hv], N50, rfl⟩
          · have k54 : ∀ t, Steps p.tables e below (T50.setTop (mkF m 154 #[.val (.int p1), .val (.int p2), .val (.int p3), .val (.int p4), .val (.int p5), .val (.int p6), .val (.int (4 : Int32)), .val (.int (((((p1 &&& (7 : Int32)) <<< ((18 : Int32) &&& 31)) ||| ((p2 &&& (63 : Int32)) <<< ((12 : Int32) &&& 31))) ||| ((p3 &&& (63 : Int32)) <<< ((6 : Int32) &&& 31))) ||| (p4 &&& (63 : Int32)))), .val (.int (65536 : Int32))] [(.int (3 : Int32)), (.int (4 : Int32))])) t → Steps p.tables e below (s₁.setTop (mkF m 0 #[.val (.int p1), .val (.int p2), .val (.int p3), .val (.int p4), .val (.int p5), .val (.int p6), .unset, .unset, .unset] [])) t := fun t kt => k52 t (by
              show Steps p.tables e below (T50.setTop (mkF m 146 #[.val (.int p1), .val (.int p2), .val (.int p3), .val (.int p4), .val (.int p5), .val (.int p6), .val (.int (4 : Int32)), .val (.int (((((p1 &&& (7 : Int32)) <<< ((18 : Int32) &&& 31)) ||| ((p2 &&& (63 : Int32)) <<< ((12 : Int32) &&& 31))) ||| ((p3 &&& (63 : Int32)) <<< ((6 : Int32) &&& 31))) ||| (p4 &&& (63 : Int32)))), .val (.int (65536 : Int32))] [(.int (sp3 p2))])) _
              refine XS.ifYes X50.here hx rfl (pc0 := 146) (pc' := 151) rfl (hb hby d1_146) rfl ((if0 _ _).trans (feq c146_51).2) (by decide) (by decide) ?_
              show Steps p.tables e below (T50.setTop (mkF m 151 #[.val (.int p1), .val (.int p2), .val (.int p3), .val (.int p4), .val (.int p5), .val (.int p6), .val (.int (4 : Int32)), .val (.int (((((p1 &&& (7 : Int32)) <<< ((18 : Int32) &&& 31)) ||| ((p2 &&& (63 : Int32)) <<< ((12 : Int32) &&& 31))) ||| ((p3 &&& (63 : Int32)) <<< ((6 : Int32) &&& 31))) ||| (p4 &&& (63 : Int32)))), .val (.int (65536 : Int32))] [])) _
              refine XS.iload X50.here hx rfl (hb hby d1_151) rfl ?_
              show Steps p.tables e below (T50.setTop (mkF m 153 #[.val (.int p1), .val (.int p2), .val (.int p3), .val (.int p4), .val (.int p5), .val (.int p6), .val (.int (4 : Int32)), .val (.int (((((p1 &&& (7 : Int32)) <<< ((18 : Int32) &&& 31)) ||| ((p2 &&& (63 : Int32)) <<< ((12 : Int32) &&& 31))) ||| ((p3 &&& (63 : Int32)) <<< ((6 : Int32) &&& 31))) ||| (p4 &&& (63 : Int32)))), .val (.int (65536 : Int32))] [(.int (4 : Int32))])) _
              refine XS.iconst X50.here hx rfl (hb hby d1_153) ?_
              exact kt)
            have c154_53 : ¬ ((4 : Int32) < (3 : Int32)) := by decide
            have k55 : ∀ t, Steps p.tables e below (T50.setTop (mkF m 158 #[.val (.int p1), .val (.int p2), .val (.int p3), .val (.int p4), .val (.int p5), .val (.int p6), .val (.int (4 : Int32)), .val (.int (((((p1 &&& (7 : Int32)) <<< ((18 : Int32) &&& 31)) ||| ((p2 &&& (63 : Int32)) <<< ((12 : Int32) &&& 31))) ||| ((p3 &&& (63 : Int32)) <<< ((6 : Int32) &&& 31))) ||| (p4 &&& (63 : Int32)))), .val (.int (65536 : Int32))] [(.int p3)])) t → Steps p.tables e below (s₁.setTop (mkF m 0 #[.val (.int p1), .val (.int p2), .val (.int p3), .val (.int p4), .val (.int p5), .val (.int p6), .unset, .unset, .unset] [])) t := fun t kt => k54 t (by
              show Steps p.tables e below (T50.setTop (mkF m 154 #[.val (.int p1), .val (.int p2), .val (.int p3), .val (.int p4), .val (.int p5), .val (.int p6), .val (.int (4 : Int32)), .val (.int (((((p1 &&& (7 : Int32)) <<< ((18 : Int32) &&& 31)) ||| ((p2 &&& (63 : Int32)) <<< ((12 : Int32) &&& 31))) ||| ((p3 &&& (63 : Int32)) <<< ((6 : Int32) &&& 31))) ||| (p4 &&& (63 : Int32)))), .val (.int (65536 : Int32))] [(.int (3 : Int32)), (.int (4 : Int32))])) _
              refine XS.icmpNo X50.here hx rfl (hb hby d1_154) rfl (flt c154_53).1 ?_
              show Steps p.tables e below (T50.setTop (mkF m 157 #[.val (.int p1), .val (.int p2), .val (.int p3), .val (.int p4), .val (.int p5), .val (.int p6), .val (.int (4 : Int32)), .val (.int (((((p1 &&& (7 : Int32)) <<< ((18 : Int32) &&& 31)) ||| ((p2 &&& (63 : Int32)) <<< ((12 : Int32) &&& 31))) ||| ((p3 &&& (63 : Int32)) <<< ((6 : Int32) &&& 31))) ||| (p4 &&& (63 : Int32)))), .val (.int (65536 : Int32))] [])) _
              refine XS.iloadN X50.here hx rfl (hb hby d1_157) rfl ?_
              exact kt)
            obtain ⟨_, _, ⟨T56, L56, k56', n56⟩, -, X56, ⟨Lc56, hQ56, l56, y56, z56⟩, st56⟩ := Jvm.LawKit.callS X50 hx (y := (⟨"com/example/hemawire/hemawire/serve/TextFilesCharacterEndPinLaw", "cont", "(I)Z"⟩ : MethodName)) hown (mvT hZ (hw _ (List.mem_of_getElem? (i := 10) rfl))) (mvT hZ (hw _ (List.mem_of_getElem? (i := 11) rfl))) (mvT hZ (hw _ (List.mem_of_getElem? (i := 4) rfl))) (mvT hZ (hw _ (List.mem_of_getElem? (i := 12) rfl))) (by decide) (backOf (W := 0) (rm3 l Z a0 hw [] p3 h0 n0 Z0) hZ (hw _ (List.mem_of_getElem? (i := 12) rfl)) (hw _ (List.mem_of_getElem? (i := 4) rfl)) (by decide) (by decide)) (g := (mkF m 158 #[.val (.int p1), .val (.int p2), .val (.int p3), .val (.int p4), .val (.int p5), .val (.int p6), .val (.int (4 : Int32)), .val (.int (((((p1 &&& (7 : Int32)) <<< ((18 : Int32) &&& 31)) ||| ((p2 &&& (63 : Int32)) <<< ((12 : Int32) &&& 31))) ||| ((p3 &&& (63 : Int32)) <<< ((6 : Int32) &&& 31))) ||| (p4 &&& (63 : Int32)))), .val (.int (65536 : Int32))] [(.int p3)])) rfl (by rw [hml]; rfl) (argsL := [(.int p3)]) (rest := []) (lenOf pd1_0 rfl) rfl (by show 2 * 0 + _ ≤ _; exact Nat.le_of_eq rfl) (hb hby d1_158) (fun _ _ => ⟨rfl, hh50, (by decide : 0 + 0 ≤ _), (by decide : 0 + 0 ≤ _)⟩)
            dsimp only [Pt.U, Pt.locs, Pt.cells, Pt.slots] at X56 l56 y56 z56 st56 hQ56
            subst l56 y56 z56
            obtain ⟨rfl, N56q, hh56⟩ := hQ56
            have N56 := Fr.app N50 N56q
            have k58 : ∀ t, Steps p.tables e below (T56.setTop (mkF m 161 #[.val (.int p1), .val (.int p2), .val (.int p3), .val (.int p4), .val (.int p5), .val (.int p6), .val (.int (4 : Int32)), .val (.int (((((p1 &&& (7 : Int32)) <<< ((18 : Int32) &&& 31)) ||| ((p2 &&& (63 : Int32)) <<< ((12 : Int32) &&& 31))) ||| ((p3 &&& (63 : Int32)) <<< ((6 : Int32) &&& 31))) ||| (p4 &&& (63 : Int32)))), .val (.int (65536 : Int32))] [(.int (sp3 p3))])) t → Steps p.tables e below (s₁.setTop (mkF m 0 #[.val (.int p1), .val (.int p2), .val (.int p3), .val (.int p4), .val (.int p5), .val (.int p6), .unset, .unset, .unset] [])) t := fun t kt => k55 t (by
              show Steps p.tables e below (T50.setTop (mkF m 158 #[.val (.int p1), .val (.int p2), .val (.int p3), .val (.int p4), .val (.int p5), .val (.int p6), .val (.int (4 : Int32)), .val (.int (((((p1 &&& (7 : Int32)) <<< ((18 : Int32) &&& 31)) ||| ((p2 &&& (63 : Int32)) <<< ((12 : Int32) &&& 31))) ||| ((p3 &&& (63 : Int32)) <<< ((6 : Int32) &&& 31))) ||| (p4 &&& (63 : Int32)))), .val (.int (65536 : Int32))] [(.int p3)])) _
              refine st56 _ ?_
              exact kt)
            by_cases c161_57 : (sp3 p3) = (0 : Int32)
            · obtain ⟨fs, hr, hrun, hended, hW, hsame⟩ := X56.leave (v := some (.int (-1 : Int32))) (fun h => by rw [Bd.returns] at h; cases h)
              refine ⟨_, _, pre0 _ (k58 _ ?_), hrun, hended, _, _, rfl, ?_, ⟨_, rfl⟩, hW, hsame.mono (by decide) (by decide)⟩
              · show Steps p.tables e below (T56.setTop (mkF m 161 #[.val (.int p1), .val (.int p2), .val (.int p3), .val (.int p4), .val (.int p5), .val (.int p6), .val (.int (4 : Int32)), .val (.int (((((p1 &&& (7 : Int32)) <<< ((18 : Int32) &&& 31)) ||| ((p2 &&& (63 : Int32)) <<< ((12 : Int32) &&& 31))) ||| ((p3 &&& (63 : Int32)) <<< ((6 : Int32) &&& 31))) ||| (p4 &&& (63 : Int32)))), .val (.int (65536 : Int32))] [(.int (sp3 p3))])) _
                refine XS.ifNo X56.here hx rfl (hb hby d1_161) rfl ((if0 _ _).trans (teq c161_57).2) ?_
                show Steps p.tables e below (T56.setTop (mkF m 164 #[.val (.int p1), .val (.int p2), .val (.int p3), .val (.int p4), .val (.int p5), .val (.int p6), .val (.int (4 : Int32)), .val (.int (((((p1 &&& (7 : Int32)) <<< ((18 : Int32) &&& 31)) ||| ((p2 &&& (63 : Int32)) <<< ((12 : Int32) &&& 31))) ||| ((p3 &&& (63 : Int32)) <<< ((6 : Int32) &&& 31))) ||| (p4 &&& (63 : Int32)))), .val (.int (65536 : Int32))] [])) _
                refine XS.iconst X56.here hx rfl (hb hby d1_164) ?_
                show Steps p.tables e below (T56.setTop (mkF m 165 #[.val (.int p1), .val (.int p2), .val (.int p3), .val (.int p4), .val (.int p5), .val (.int p6), .val (.int (4 : Int32)), .val (.int (((((p1 &&& (7 : Int32)) <<< ((18 : Int32) &&& 31)) ||| ((p2 &&& (63 : Int32)) <<< ((12 : Int32) &&& 31))) ||| ((p3 &&& (63 : Int32)) <<< ((6 : Int32) &&& 31))) ||| (p4 &&& (63 : Int32)))), .val (.int (65536 : Int32))] [(.int (-1 : Int32))])) _
                exact retI X56 hx Bd.returns (hb hby d1_165) hr
              · show Q1 Z p1 p2 p3 p4 p5 p6 h0 n0 _ T56.heap _
                rw [hh56]
                have hv : sp1 p1 p2 p3 p4 p5 p6 = (-1 : Int32) := by unfold sp1; rw [if_neg c8_1, if_neg c44_21, if_pos c88_45, if_neg c137_47, if_neg c146_51, if_pos c161_57]
                exact ⟨by rw [hv], N56, rfl⟩
            · have k60 : ∀ t, Steps p.tables e below (T56.setTop (mkF m 169 #[.val (.int p1), .val (.int p2), .val (.int p3), .val (.int p4), .val (.int p5), .val (.int p6), .val (.int (4 : Int32)), .val (.int (((((p1 &&& (7 : Int32)) <<< ((18 : Int32) &&& 31)) ||| ((p2 &&& (63 : Int32)) <<< ((12 : Int32) &&& 31))) ||| ((p3 &&& (63 : Int32)) <<< ((6 : Int32) &&& 31))) ||| (p4 &&& (63 : Int32)))), .val (.int (65536 : Int32))] [(.int (4 : Int32)), (.int (4 : Int32))])) t → Steps p.tables e below (s₁.setTop (mkF m 0 #[.val (.int p1), .val (.int p2), .val (.int p3), .val (.int p4), .val (.int p5), .val (.int p6), .unset, .unset, .unset] [])) t := fun t kt => k58 t (by
                show Steps p.tables e below (T56.setTop (mkF m 161 #[.val (.int p1), .val (.int p2), .val (.int p3), .val (.int p4), .val (.int p5), .val (.int p6), .val (.int (4 : Int32)), .val (.int (((((p1 &&& (7 : Int32)) <<< ((18 : Int32) &&& 31)) ||| ((p2 &&& (63 : Int32)) <<< ((12 : Int32) &&& 31))) ||| ((p3 &&& (63 : Int32)) <<< ((6 : Int32) &&& 31))) ||| (p4 &&& (63 : Int32)))), .val (.int (65536 : Int32))] [(.int (sp3 p3))])) _
                refine XS.ifYes X56.here hx rfl (pc0 := 161) (pc' := 166) rfl (hb hby d1_161) rfl ((if0 _ _).trans (feq c161_57).2) (by decide) (by decide) ?_
                show Steps p.tables e below (T56.setTop (mkF m 166 #[.val (.int p1), .val (.int p2), .val (.int p3), .val (.int p4), .val (.int p5), .val (.int p6), .val (.int (4 : Int32)), .val (.int (((((p1 &&& (7 : Int32)) <<< ((18 : Int32) &&& 31)) ||| ((p2 &&& (63 : Int32)) <<< ((12 : Int32) &&& 31))) ||| ((p3 &&& (63 : Int32)) <<< ((6 : Int32) &&& 31))) ||| (p4 &&& (63 : Int32)))), .val (.int (65536 : Int32))] [])) _
                refine XS.iload X56.here hx rfl (hb hby d1_166) rfl ?_
                show Steps p.tables e below (T56.setTop (mkF m 168 #[.val (.int p1), .val (.int p2), .val (.int p3), .val (.int p4), .val (.int p5), .val (.int p6), .val (.int (4 : Int32)), .val (.int (((((p1 &&& (7 : Int32)) <<< ((18 : Int32) &&& 31)) ||| ((p2 &&& (63 : Int32)) <<< ((12 : Int32) &&& 31))) ||| ((p3 &&& (63 : Int32)) <<< ((6 : Int32) &&& 31))) ||| (p4 &&& (63 : Int32)))), .val (.int (65536 : Int32))] [(.int (4 : Int32))])) _
                refine XS.iconst X56.here hx rfl (hb hby d1_168) ?_
                exact kt)
              have c169_59 : (4 : Int32) = (4 : Int32) := by decide
              have k61 : ∀ t, Steps p.tables e below (T56.setTop (mkF m 173 #[.val (.int p1), .val (.int p2), .val (.int p3), .val (.int p4), .val (.int p5), .val (.int p6), .val (.int (4 : Int32)), .val (.int (((((p1 &&& (7 : Int32)) <<< ((18 : Int32) &&& 31)) ||| ((p2 &&& (63 : Int32)) <<< ((12 : Int32) &&& 31))) ||| ((p3 &&& (63 : Int32)) <<< ((6 : Int32) &&& 31))) ||| (p4 &&& (63 : Int32)))), .val (.int (65536 : Int32))] [(.int p4)])) t → Steps p.tables e below (s₁.setTop (mkF m 0 #[.val (.int p1), .val (.int p2), .val (.int p3), .val (.int p4), .val (.int p5), .val (.int p6), .unset, .unset, .unset] [])) t := fun t kt => k60 t (by
                show Steps p.tables e below (T56.setTop (mkF m 169 #[.val (.int p1), .val (.int p2), .val (.int p3), .val (.int p4), .val (.int p5), .val (.int p6), .val (.int (4 : Int32)), .val (.int (((((p1 &&& (7 : Int32)) <<< ((18 : Int32) &&& 31)) ||| ((p2 &&& (63 : Int32)) <<< ((12 : Int32) &&& 31))) ||| ((p3 &&& (63 : Int32)) <<< ((6 : Int32) &&& 31))) ||| (p4 &&& (63 : Int32)))), .val (.int (65536 : Int32))] [(.int (4 : Int32)), (.int (4 : Int32))])) _
                refine XS.icmpNo X56.here hx rfl (hb hby d1_169) rfl (teq c169_59).2 ?_
                show Steps p.tables e below (T56.setTop (mkF m 172 #[.val (.int p1), .val (.int p2), .val (.int p3), .val (.int p4), .val (.int p5), .val (.int p6), .val (.int (4 : Int32)), .val (.int (((((p1 &&& (7 : Int32)) <<< ((18 : Int32) &&& 31)) ||| ((p2 &&& (63 : Int32)) <<< ((12 : Int32) &&& 31))) ||| ((p3 &&& (63 : Int32)) <<< ((6 : Int32) &&& 31))) ||| (p4 &&& (63 : Int32)))), .val (.int (65536 : Int32))] [])) _
                refine XS.iloadN X56.here hx rfl (hb hby d1_172) rfl ?_
                exact kt)
              obtain ⟨_, _, ⟨T62, L62, k62', n62⟩, -, X62, ⟨Lc62, hQ62, l62, y62, z62⟩, st62⟩ := Jvm.LawKit.callS X56 hx (y := (⟨"com/example/hemawire/hemawire/serve/TextFilesCharacterEndPinLaw", "cont", "(I)Z"⟩ : MethodName)) hown (mvT hZ (hw _ (List.mem_of_getElem? (i := 10) rfl))) (mvT hZ (hw _ (List.mem_of_getElem? (i := 11) rfl))) (mvT hZ (hw _ (List.mem_of_getElem? (i := 4) rfl))) (mvT hZ (hw _ (List.mem_of_getElem? (i := 12) rfl))) (by decide) (backOf (W := 0) (rm3 l Z a0 hw [] p4 h0 n0 Z0) hZ (hw _ (List.mem_of_getElem? (i := 12) rfl)) (hw _ (List.mem_of_getElem? (i := 4) rfl)) (by decide) (by decide)) (g := (mkF m 173 #[.val (.int p1), .val (.int p2), .val (.int p3), .val (.int p4), .val (.int p5), .val (.int p6), .val (.int (4 : Int32)), .val (.int (((((p1 &&& (7 : Int32)) <<< ((18 : Int32) &&& 31)) ||| ((p2 &&& (63 : Int32)) <<< ((12 : Int32) &&& 31))) ||| ((p3 &&& (63 : Int32)) <<< ((6 : Int32) &&& 31))) ||| (p4 &&& (63 : Int32)))), .val (.int (65536 : Int32))] [(.int p4)])) rfl (by rw [hml]; rfl) (argsL := [(.int p4)]) (rest := []) (lenOf pd1_0 rfl) rfl (by show 2 * 0 + _ ≤ _; exact Nat.le_of_eq rfl) (hb hby d1_173) (fun _ _ => ⟨rfl, hh56, (by decide : 0 + 0 ≤ _), (by decide : 0 + 0 ≤ _)⟩)
              dsimp only [Pt.U, Pt.locs, Pt.cells, Pt.slots] at X62 l62 y62 z62 st62 hQ62
              subst l62 y62 z62
              obtain ⟨rfl, N62q, hh62⟩ := hQ62
              have N62 := Fr.app N56 N62q
              have k64 : ∀ t, Steps p.tables e below (T62.setTop (mkF m 176 #[.val (.int p1), .val (.int p2), .val (.int p3), .val (.int p4), .val (.int p5), .val (.int p6), .val (.int (4 : Int32)), .val (.int (((((p1 &&& (7 : Int32)) <<< ((18 : Int32) &&& 31)) ||| ((p2 &&& (63 : Int32)) <<< ((12 : Int32) &&& 31))) ||| ((p3 &&& (63 : Int32)) <<< ((6 : Int32) &&& 31))) ||| (p4 &&& (63 : Int32)))), .val (.int (65536 : Int32))] [(.int (sp3 p4))])) t → Steps p.tables e below (s₁.setTop (mkF m 0 #[.val (.int p1), .val (.int p2), .val (.int p3), .val (.int p4), .val (.int p5), .val (.int p6), .unset, .unset, .unset] [])) t := fun t kt => k61 t (by
                show Steps p.tables e below (T56.setTop (mkF m 173 #[.val (.int p1), .val (.int p2), .val (.int p3), .val (.int p4), .val (.int p5), .val (.int p6), .val (.int (4 : Int32)), .val (.int (((((p1 &&& (7 : Int32)) <<< ((18 : Int32) &&& 31)) ||| ((p2 &&& (63 : Int32)) <<< ((12 : Int32) &&& 31))) ||| ((p3 &&& (63 : Int32)) <<< ((6 : Int32) &&& 31))) ||| (p4 &&& (63 : Int32)))), .val (.int (65536 : Int32))] [(.int p4)])) _
                refine st62 _ ?_
                exact kt)
              by_cases c176_63 : (sp3 p4) = (0 : Int32)
              · obtain ⟨fs, hr, hrun, hended, hW, hsame⟩ := X62.leave (v := some (.int (-1 : Int32))) (fun h => by rw [Bd.returns] at h; cases h)
                refine ⟨_, _, pre0 _ (k64 _ ?_), hrun, hended, _, _, rfl, ?_, ⟨_, rfl⟩, hW, hsame.mono (by decide) (by decide)⟩
                · show Steps p.tables e below (T62.setTop (mkF m 176 #[.val (.int p1), .val (.int p2), .val (.int p3), .val (.int p4), .val (.int p5), .val (.int p6), .val (.int (4 : Int32)), .val (.int (((((p1 &&& (7 : Int32)) <<< ((18 : Int32) &&& 31)) ||| ((p2 &&& (63 : Int32)) <<< ((12 : Int32) &&& 31))) ||| ((p3 &&& (63 : Int32)) <<< ((6 : Int32) &&& 31))) ||| (p4 &&& (63 : Int32)))), .val (.int (65536 : Int32))] [(.int (sp3 p4))])) _
                  refine XS.ifNo X62.here hx rfl (hb hby d1_176) rfl ((if0 _ _).trans (teq c176_63).2) ?_
                  show Steps p.tables e below (T62.setTop (mkF m 179 #[.val (.int p1), .val (.int p2), .val (.int p3), .val (.int p4), .val (.int p5), .val (.int p6), .val (.int (4 : Int32)), .val (.int (((((p1 &&& (7 : Int32)) <<< ((18 : Int32) &&& 31)) ||| ((p2 &&& (63 : Int32)) <<< ((12 : Int32) &&& 31))) ||| ((p3 &&& (63 : Int32)) <<< ((6 : Int32) &&& 31))) ||| (p4 &&& (63 : Int32)))), .val (.int (65536 : Int32))] [])) _
                  refine XS.iconst X62.here hx rfl (hb hby d1_179) ?_
                  show Steps p.tables e below (T62.setTop (mkF m 180 #[.val (.int p1), .val (.int p2), .val (.int p3), .val (.int p4), .val (.int p5), .val (.int p6), .val (.int (4 : Int32)), .val (.int (((((p1 &&& (7 : Int32)) <<< ((18 : Int32) &&& 31)) ||| ((p2 &&& (63 : Int32)) <<< ((12 : Int32) &&& 31))) ||| ((p3 &&& (63 : Int32)) <<< ((6 : Int32) &&& 31))) ||| (p4 &&& (63 : Int32)))), .val (.int (65536 : Int32))] [(.int (-1 : Int32))])) _
                  exact retI X62 hx Bd.returns (hb hby d1_180) hr
                · show Q1 Z p1 p2 p3 p4 p5 p6 h0 n0 _ T62.heap _
                  rw [hh62]
                  have hv : sp1 p1 p2 p3 p4 p5 p6 = (-1 : Int32) := by unfold sp1; rw [if_neg c8_1, if_neg c44_21, if_pos c88_45, if_neg c137_47, if_neg c146_51, if_neg c161_57, if_pos c176_63]
                  exact ⟨by rw [hv], N62, rfl⟩
              · have k66 : ∀ t, Steps p.tables e below (T62.setTop (mkF m 185 #[.val (.int p1), .val (.int p2), .val (.int p3), .val (.int p4), .val (.int p5), .val (.int p6), .val (.int (4 : Int32)), .val (.int (((((p1 &&& (7 : Int32)) <<< ((18 : Int32) &&& 31)) ||| ((p2 &&& (63 : Int32)) <<< ((12 : Int32) &&& 31))) ||| ((p3 &&& (63 : Int32)) <<< ((6 : Int32) &&& 31))) ||| (p4 &&& (63 : Int32)))), .val (.int (65536 : Int32))] [(.int (65536 : Int32)), (.int (((((p1 &&& (7 : Int32)) <<< ((18 : Int32) &&& 31)) ||| ((p2 &&& (63 : Int32)) <<< ((12 : Int32) &&& 31))) ||| ((p3 &&& (63 : Int32)) <<< ((6 : Int32) &&& 31))) ||| (p4 &&& (63 : Int32))))])) t → Steps p.tables e below (s₁.setTop (mkF m 0 #[.val (.int p1), .val (.int p2), .val (.int p3), .val (.int p4), .val (.int p5), .val (.int p6), .unset, .unset, .unset] [])) t := fun t kt => k64 t (by
                  show Steps p.tables e below (T62.setTop (mkF m 176 #[.val (.int p1), .val (.int p2), .val (.int p3), .val (.int p4), .val (.int p5), .val (.int p6), .val (.int (4 : Int32)), .val (.int (((((p1 &&& (7 : Int32)) <<< ((18 : Int32) &&& 31)) ||| ((p2 &&& (63 : Int32)) <<< ((12 : Int32) &&& 31))) ||| ((p3 &&& (63 : Int32)) <<< ((6 : Int32) &&& 31))) ||| (p4 &&& (63 : Int32)))), .val (.int (65536 : Int32))] [(.int (sp3 p4))])) _
                  refine XS.ifYes X62.here hx rfl (pc0 := 176) (pc' := 181) rfl (hb hby d1_176) rfl ((if0 _ _).trans (feq c176_63).2) (by decide) (by decide) ?_
                  show Steps p.tables e below (T62.setTop (mkF m 181 #[.val (.int p1), .val (.int p2), .val (.int p3), .val (.int p4), .val (.int p5), .val (.int p6), .val (.int (4 : Int32)), .val (.int (((((p1 &&& (7 : Int32)) <<< ((18 : Int32) &&& 31)) ||| ((p2 &&& (63 : Int32)) <<< ((12 : Int32) &&& 31))) ||| ((p3 &&& (63 : Int32)) <<< ((6 : Int32) &&& 31))) ||| (p4 &&& (63 : Int32)))), .val (.int (65536 : Int32))] [])) _
                  refine XS.iload X62.here hx rfl (hb hby d1_181) rfl ?_
                  show Steps p.tables e below (T62.setTop (mkF m 183 #[.val (.int p1), .val (.int p2), .val (.int p3), .val (.int p4), .val (.int p5), .val (.int p6), .val (.int (4 : Int32)), .val (.int (((((p1 &&& (7 : Int32)) <<< ((18 : Int32) &&& 31)) ||| ((p2 &&& (63 : Int32)) <<< ((12 : Int32) &&& 31))) ||| ((p3 &&& (63 : Int32)) <<< ((6 : Int32) &&& 31))) ||| (p4 &&& (63 : Int32)))), .val (.int (65536 : Int32))] [(.int (((((p1 &&& (7 : Int32)) <<< ((18 : Int32) &&& 31)) ||| ((p2 &&& (63 : Int32)) <<< ((12 : Int32) &&& 31))) ||| ((p3 &&& (63 : Int32)) <<< ((6 : Int32) &&& 31))) ||| (p4 &&& (63 : Int32))))])) _
                  refine XS.iload X62.here hx rfl (hb hby d1_183) rfl ?_
                  exact kt)
                by_cases c185_65 : (((((p1 &&& (7 : Int32)) <<< ((18 : Int32) &&& 31)) ||| ((p2 &&& (63 : Int32)) <<< ((12 : Int32) &&& 31))) ||| ((p3 &&& (63 : Int32)) <<< ((6 : Int32) &&& 31))) ||| (p4 &&& (63 : Int32))) < (65536 : Int32)
                · obtain ⟨fs, hr, hrun, hended, hW, hsame⟩ := X62.leave (v := some (.int (-1 : Int32))) (fun h => by rw [Bd.returns] at h; cases h)
                  refine ⟨_, _, pre0 _ (k66 _ ?_), hrun, hended, _, _, rfl, ?_, ⟨_, rfl⟩, hW, hsame.mono (by decide) (by decide)⟩
                  · show Steps p.tables e below (T62.setTop (mkF m 185 #[.val (.int p1), .val (.int p2), .val (.int p3), .val (.int p4), .val (.int p5), .val (.int p6), .val (.int (4 : Int32)), .val (.int (((((p1 &&& (7 : Int32)) <<< ((18 : Int32) &&& 31)) ||| ((p2 &&& (63 : Int32)) <<< ((12 : Int32) &&& 31))) ||| ((p3 &&& (63 : Int32)) <<< ((6 : Int32) &&& 31))) ||| (p4 &&& (63 : Int32)))), .val (.int (65536 : Int32))] [(.int (65536 : Int32)), (.int (((((p1 &&& (7 : Int32)) <<< ((18 : Int32) &&& 31)) ||| ((p2 &&& (63 : Int32)) <<< ((12 : Int32) &&& 31))) ||| ((p3 &&& (63 : Int32)) <<< ((6 : Int32) &&& 31))) ||| (p4 &&& (63 : Int32))))])) _
                    refine XS.icmpYes X62.here hx rfl (pc0 := 185) (pc' := 195) rfl (hb hby d1_185) rfl (tlt c185_65).1 (by decide) (by decide) ?_
                    show Steps p.tables e below (T62.setTop (mkF m 195 #[.val (.int p1), .val (.int p2), .val (.int p3), .val (.int p4), .val (.int p5), .val (.int p6), .val (.int (4 : Int32)), .val (.int (((((p1 &&& (7 : Int32)) <<< ((18 : Int32) &&& 31)) ||| ((p2 &&& (63 : Int32)) <<< ((12 : Int32) &&& 31))) ||| ((p3 &&& (63 : Int32)) <<< ((6 : Int32) &&& 31))) ||| (p4 &&& (63 : Int32)))), .val (.int (65536 : Int32))] [])) _
                    refine XS.iconst X62.here hx rfl (hb hby d1_195) ?_
                    show Steps p.tables e below (T62.setTop (mkF m 196 #[.val (.int p1), .val (.int p2), .val (.int p3), .val (.int p4), .val (.int p5), .val (.int p6), .val (.int (4 : Int32)), .val (.int (((((p1 &&& (7 : Int32)) <<< ((18 : Int32) &&& 31)) ||| ((p2 &&& (63 : Int32)) <<< ((12 : Int32) &&& 31))) ||| ((p3 &&& (63 : Int32)) <<< ((6 : Int32) &&& 31))) ||| (p4 &&& (63 : Int32)))), .val (.int (65536 : Int32))] [(.int (-1 : Int32))])) _
                    exact retI X62 hx Bd.returns (hb hby d1_196) hr
                  · show Q1 Z p1 p2 p3 p4 p5 p6 h0 n0 _ T62.heap _
                    rw [hh62]
                    have hv : sp1 p1 p2 p3 p4 p5 p6 = (-1 : Int32) := by unfold sp1; rw [if_neg c8_1, if_neg c44_21, if_pos c88_45, if_neg c137_47, if_neg c146_51, if_neg c161_57, if_neg c176_63, if_pos c185_65]
                    exact ⟨by rw [hv], N62, rfl⟩
                · have k68 : ∀ t, Steps p.tables e below (T62.setTop (mkF m 192 #[.val (.int p1), .val (.int p2), .val (.int p3), .val (.int p4), .val (.int p5), .val (.int p6), .val (.int (4 : Int32)), .val (.int (((((p1 &&& (7 : Int32)) <<< ((18 : Int32) &&& 31)) ||| ((p2 &&& (63 : Int32)) <<< ((12 : Int32) &&& 31))) ||| ((p3 &&& (63 : Int32)) <<< ((6 : Int32) &&& 31))) ||| (p4 &&& (63 : Int32)))), .val (.int (65536 : Int32))] [(.int (1114111 : Int32)), (.int (((((p1 &&& (7 : Int32)) <<< ((18 : Int32) &&& 31)) ||| ((p2 &&& (63 : Int32)) <<< ((12 : Int32) &&& 31))) ||| ((p3 &&& (63 : Int32)) <<< ((6 : Int32) &&& 31))) ||| (p4 &&& (63 : Int32))))])) t → Steps p.tables e below (s₁.setTop (mkF m 0 #[.val (.int p1), .val (.int p2), .val (.int p3), .val (.int p4), .val (.int p5), .val (.int p6), .unset, .unset, .unset] [])) t := fun t kt => k66 t (by
                    show Steps p.tables e below (T62.setTop (mkF m 185 #[.val (.int p1), .val (.int p2), .val (.int p3), .val (.int p4), .val (.int p5), .val (.int p6), .val (.int (4 : Int32)), .val (.int (((((p1 &&& (7 : Int32)) <<< ((18 : Int32) &&& 31)) ||| ((p2 &&& (63 : Int32)) <<< ((12 : Int32) &&& 31))) ||| ((p3 &&& (63 : Int32)) <<< ((6 : Int32) &&& 31))) ||| (p4 &&& (63 : Int32)))), .val (.int (65536 : Int32))] [(.int (65536 : Int32)), (.int (((((p1 &&& (7 : Int32)) <<< ((18 : Int32) &&& 31)) ||| ((p2 &&& (63 : Int32)) <<< ((12 : Int32) &&& 31))) ||| ((p3 &&& (63 : Int32)) <<< ((6 : Int32) &&& 31))) ||| (p4 &&& (63 : Int32))))])) _
                    refine XS.icmpNo X62.here hx rfl (hb hby d1_185) rfl (flt c185_65).1 ?_
                    show Steps p.tables e below (T62.setTop (mkF m 188 #[.val (.int p1), .val (.int p2), .val (.int p3), .val (.int p4), .val (.int p5), .val (.int p6), .val (.int (4 : Int32)), .val (.int (((((p1 &&& (7 : Int32)) <<< ((18 : Int32) &&& 31)) ||| ((p2 &&& (63 : Int32)) <<< ((12 : Int32) &&& 31))) ||| ((p3 &&& (63 : Int32)) <<< ((6 : Int32) &&& 31))) ||| (p4 &&& (63 : Int32)))), .val (.int (65536 : Int32))] [])) _
                    refine XS.iload X62.here hx rfl (hb hby d1_188) rfl ?_
                    show Steps p.tables e below (T62.setTop (mkF m 190 #[.val (.int p1), .val (.int p2), .val (.int p3), .val (.int p4), .val (.int p5), .val (.int p6), .val (.int (4 : Int32)), .val (.int (((((p1 &&& (7 : Int32)) <<< ((18 : Int32) &&& 31)) ||| ((p2 &&& (63 : Int32)) <<< ((12 : Int32) &&& 31))) ||| ((p3 &&& (63 : Int32)) <<< ((6 : Int32) &&& 31))) ||| (p4 &&& (63 : Int32)))), .val (.int (65536 : Int32))] [(.int (((((p1 &&& (7 : Int32)) <<< ((18 : Int32) &&& 31)) ||| ((p2 &&& (63 : Int32)) <<< ((12 : Int32) &&& 31))) ||| ((p3 &&& (63 : Int32)) <<< ((6 : Int32) &&& 31))) ||| (p4 &&& (63 : Int32))))])) _
                    refine X62.ldcInt hx hown (mvT hZ (hw _ (List.mem_of_getElem? (i := 14) rfl))) (g := (mkF m 190 #[.val (.int p1), .val (.int p2), .val (.int p3), .val (.int p4), .val (.int p5), .val (.int p6), .val (.int (4 : Int32)), .val (.int (((((p1 &&& (7 : Int32)) <<< ((18 : Int32) &&& 31)) ||| ((p2 &&& (63 : Int32)) <<< ((12 : Int32) &&& 31))) ||| ((p3 &&& (63 : Int32)) <<< ((6 : Int32) &&& 31))) ||| (p4 &&& (63 : Int32)))), .val (.int (65536 : Int32))] [(.int (((((p1 &&& (7 : Int32)) <<< ((18 : Int32) &&& 31)) ||| ((p2 &&& (63 : Int32)) <<< ((12 : Int32) &&& 31))) ||| ((p3 &&& (63 : Int32)) <<< ((6 : Int32) &&& 31))) ||| (p4 &&& (63 : Int32))))])) rfl (hb hby d1_190) _ ?_
                    exact kt)
                  by_cases c192_67 : (1114111 : Int32) < (((((p1 &&& (7 : Int32)) <<< ((18 : Int32) &&& 31)) ||| ((p2 &&& (63 : Int32)) <<< ((12 : Int32) &&& 31))) ||| ((p3 &&& (63 : Int32)) <<< ((6 : Int32) &&& 31))) ||| (p4 &&& (63 : Int32)))
                  · obtain ⟨fs, hr, hrun, hended, hW, hsame⟩ := X62.leave (v := some (.int (-1 : Int32))) (fun h => by rw [Bd.returns] at h; cases h)
                    refine ⟨_, _, pre0 _ (k68 _ ?_), hrun, hended, _, _, rfl, ?_, ⟨_, rfl⟩, hW, hsame.mono (by decide) (by decide)⟩
                    · show Steps p.tables e below (T62.setTop (mkF m 192 #[.val (.int p1), .val (.int p2), .val (.int p3), .val (.int p4), .val (.int p5), .val (.int p6), .val (.int (4 : Int32)), .val (.int (((((p1 &&& (7 : Int32)) <<< ((18 : Int32) &&& 31)) ||| ((p2 &&& (63 : Int32)) <<< ((12 : Int32) &&& 31))) ||| ((p3 &&& (63 : Int32)) <<< ((6 : Int32) &&& 31))) ||| (p4 &&& (63 : Int32)))), .val (.int (65536 : Int32))] [(.int (1114111 : Int32)), (.int (((((p1 &&& (7 : Int32)) <<< ((18 : Int32) &&& 31)) ||| ((p2 &&& (63 : Int32)) <<< ((12 : Int32) &&& 31))) ||| ((p3 &&& (63 : Int32)) <<< ((6 : Int32) &&& 31))) ||| (p4 &&& (63 : Int32))))])) _
                      refine XS.icmpNo X62.here hx rfl (hb hby d1_192) rfl (tlt c192_67).2.2.2 ?_
                      show Steps p.tables e below (T62.setTop (mkF m 195 #[.val (.int p1), .val (.int p2), .val (.int p3), .val (.int p4), .val (.int p5), .val (.int p6), .val (.int (4 : Int32)), .val (.int (((((p1 &&& (7 : Int32)) <<< ((18 : Int32) &&& 31)) ||| ((p2 &&& (63 : Int32)) <<< ((12 : Int32) &&& 31))) ||| ((p3 &&& (63 : Int32)) <<< ((6 : Int32) &&& 31))) ||| (p4 &&& (63 : Int32)))), .val (.int (65536 : Int32))] [])) _
                      refine XS.iconst X62.here hx rfl (hb hby d1_195) ?_
                      show Steps p.tables e below (T62.setTop (mkF m 196 #[.val (.int p1), .val (.int p2), .val (.int p3), .val (.int p4), .val (.int p5), .val (.int p6), .val (.int (4 : Int32)), .val (.int (((((p1 &&& (7 : Int32)) <<< ((18 : Int32) &&& 31)) ||| ((p2 &&& (63 : Int32)) <<< ((12 : Int32) &&& 31))) ||| ((p3 &&& (63 : Int32)) <<< ((6 : Int32) &&& 31))) ||| (p4 &&& (63 : Int32)))), .val (.int (65536 : Int32))] [(.int (-1 : Int32))])) _
                      exact retI X62 hx Bd.returns (hb hby d1_196) hr
                    · show Q1 Z p1 p2 p3 p4 p5 p6 h0 n0 _ T62.heap _
                      rw [hh62]
                      have hv : sp1 p1 p2 p3 p4 p5 p6 = (-1 : Int32) := by unfold sp1; rw [if_neg c8_1, if_neg c44_21, if_pos c88_45, if_neg c137_47, if_neg c146_51, if_neg c161_57, if_neg c176_63, if_neg c185_65, if_pos c192_67]
                      exact ⟨by rw [hv], N62, rfl⟩
                  · have k70 : ∀ t, Steps p.tables e below (T62.setTop (mkF m 201 #[.val (.int p1), .val (.int p2), .val (.int p3), .val (.int p4), .val (.int p5), .val (.int p6), .val (.int (4 : Int32)), .val (.int (((((p1 &&& (7 : Int32)) <<< ((18 : Int32) &&& 31)) ||| ((p2 &&& (63 : Int32)) <<< ((12 : Int32) &&& 31))) ||| ((p3 &&& (63 : Int32)) <<< ((6 : Int32) &&& 31))) ||| (p4 &&& (63 : Int32)))), .val (.int (65536 : Int32))] [(.int (55296 : Int32)), (.int (((((p1 &&& (7 : Int32)) <<< ((18 : Int32) &&& 31)) ||| ((p2 &&& (63 : Int32)) <<< ((12 : Int32) &&& 31))) ||| ((p3 &&& (63 : Int32)) <<< ((6 : Int32) &&& 31))) ||| (p4 &&& (63 : Int32))))])) t → Steps p.tables e below (s₁.setTop (mkF m 0 #[.val (.int p1), .val (.int p2), .val (.int p3), .val (.int p4), .val (.int p5), .val (.int p6), .unset, .unset, .unset] [])) t := fun t kt => k68 t (by
                      show Steps p.tables e below (T62.setTop (mkF m 192 #[.val (.int p1), .val (.int p2), .val (.int p3), .val (.int p4), .val (.int p5), .val (.int p6), .val (.int (4 : Int32)), .val (.int (((((p1 &&& (7 : Int32)) <<< ((18 : Int32) &&& 31)) ||| ((p2 &&& (63 : Int32)) <<< ((12 : Int32) &&& 31))) ||| ((p3 &&& (63 : Int32)) <<< ((6 : Int32) &&& 31))) ||| (p4 &&& (63 : Int32)))), .val (.int (65536 : Int32))] [(.int (1114111 : Int32)), (.int (((((p1 &&& (7 : Int32)) <<< ((18 : Int32) &&& 31)) ||| ((p2 &&& (63 : Int32)) <<< ((12 : Int32) &&& 31))) ||| ((p3 &&& (63 : Int32)) <<< ((6 : Int32) &&& 31))) ||| (p4 &&& (63 : Int32))))])) _
                      refine XS.icmpYes X62.here hx rfl (pc0 := 192) (pc' := 197) rfl (hb hby d1_192) rfl (flt c192_67).2.2.2 (by decide) (by decide) ?_
                      show Steps p.tables e below (T62.setTop (mkF m 197 #[.val (.int p1), .val (.int p2), .val (.int p3), .val (.int p4), .val (.int p5), .val (.int p6), .val (.int (4 : Int32)), .val (.int (((((p1 &&& (7 : Int32)) <<< ((18 : Int32) &&& 31)) ||| ((p2 &&& (63 : Int32)) <<< ((12 : Int32) &&& 31))) ||| ((p3 &&& (63 : Int32)) <<< ((6 : Int32) &&& 31))) ||| (p4 &&& (63 : Int32)))), .val (.int (65536 : Int32))] [])) _
                      refine XS.iload X62.here hx rfl (hb hby d1_197) rfl ?_
                      show Steps p.tables e below (T62.setTop (mkF m 199 #[.val (.int p1), .val (.int p2), .val (.int p3), .val (.int p4), .val (.int p5), .val (.int p6), .val (.int (4 : Int32)), .val (.int (((((p1 &&& (7 : Int32)) <<< ((18 : Int32) &&& 31)) ||| ((p2 &&& (63 : Int32)) <<< ((12 : Int32) &&& 31))) ||| ((p3 &&& (63 : Int32)) <<< ((6 : Int32) &&& 31))) ||| (p4 &&& (63 : Int32)))), .val (.int (65536 : Int32))] [(.int (((((p1 &&& (7 : Int32)) <<< ((18 : Int32) &&& 31)) ||| ((p2 &&& (63 : Int32)) <<< ((12 : Int32) &&& 31))) ||| ((p3 &&& (63 : Int32)) <<< ((6 : Int32) &&& 31))) ||| (p4 &&& (63 : Int32))))])) _
                      refine X62.ldcInt hx hown (mvT hZ (hw _ (List.mem_of_getElem? (i := 15) rfl))) (g := (mkF m 199 #[.val (.int p1), .val (.int p2), .val (.int p3), .val (.int p4), .val (.int p5), .val (.int p6), .val (.int (4 : Int32)), .val (.int (((((p1 &&& (7 : Int32)) <<< ((18 : Int32) &&& 31)) ||| ((p2 &&& (63 : Int32)) <<< ((12 : Int32) &&& 31))) ||| ((p3 &&& (63 : Int32)) <<< ((6 : Int32) &&& 31))) ||| (p4 &&& (63 : Int32)))), .val (.int (65536 : Int32))] [(.int (((((p1 &&& (7 : Int32)) <<< ((18 : Int32) &&& 31)) ||| ((p2 &&& (63 : Int32)) <<< ((12 : Int32) &&& 31))) ||| ((p3 &&& (63 : Int32)) <<< ((6 : Int32) &&& 31))) ||| (p4 &&& (63 : Int32))))])) rfl (hb hby d1_199) _ ?_
                      exact kt)
                    by_cases c201_69 : (((((p1 &&& (7 : Int32)) <<< ((18 : Int32) &&& 31)) ||| ((p2 &&& (63 : Int32)) <<< ((12 : Int32) &&& 31))) ||| ((p3 &&& (63 : Int32)) <<< ((6 : Int32) &&& 31))) ||| (p4 &&& (63 : Int32))) < (55296 : Int32)
                    · obtain ⟨fs, hr, hrun, hended, hW, hsame⟩ := X62.leave (v := some (.int (p6 + (4 : Int32)))) (fun h => by rw [Bd.returns] at h; cases h)
                      refine ⟨_, _, pre0 _ (k70 _ ?_), hrun, hended, _, _, rfl, ?_, ⟨_, rfl⟩, hW, hsame.mono (by decide) (by decide)⟩
                      · show Steps p.tables e below (T62.setTop (mkF m 201 #[.val (.int p1), .val (.int p2), .val (.int p3), .val (.int p4), .val (.int p5), .val (.int p6), .val (.int (4 : Int32)), .val (.int (((((p1 &&& (7 : Int32)) <<< ((18 : Int32) &&& 31)) ||| ((p2 &&& (63 : Int32)) <<< ((12 : Int32) &&& 31))) ||| ((p3 &&& (63 : Int32)) <<< ((6 : Int32) &&& 31))) ||| (p4 &&& (63 : Int32)))), .val (.int (65536 : Int32))] [(.int (55296 : Int32)), (.int (((((p1 &&& (7 : Int32)) <<< ((18 : Int32) &&& 31)) ||| ((p2 &&& (63 : Int32)) <<< ((12 : Int32) &&& 31))) ||| ((p3 &&& (63 : Int32)) <<< ((6 : Int32) &&& 31))) ||| (p4 &&& (63 : Int32))))])) _
                        refine XS.icmpYes X62.here hx rfl (pc0 := 201) (pc' := 213) rfl (hb hby d1_201) rfl (tlt c201_69).1 (by decide) (by decide) ?_
                        show Steps p.tables e below (T62.setTop (mkF m 213 #[.val (.int p1), .val (.int p2), .val (.int p3), .val (.int p4), .val (.int p5), .val (.int p6), .val (.int (4 : Int32)), .val (.int (((((p1 &&& (7 : Int32)) <<< ((18 : Int32) &&& 31)) ||| ((p2 &&& (63 : Int32)) <<< ((12 : Int32) &&& 31))) ||| ((p3 &&& (63 : Int32)) <<< ((6 : Int32) &&& 31))) ||| (p4 &&& (63 : Int32)))), .val (.int (65536 : Int32))] [])) _
                        refine XS.iload X62.here hx rfl (hb hby d1_213) rfl ?_
                        show Steps p.tables e below (T62.setTop (mkF m 215 #[.val (.int p1), .val (.int p2), .val (.int p3), .val (.int p4), .val (.int p5), .val (.int p6), .val (.int (4 : Int32)), .val (.int (((((p1 &&& (7 : Int32)) <<< ((18 : Int32) &&& 31)) ||| ((p2 &&& (63 : Int32)) <<< ((12 : Int32) &&& 31))) ||| ((p3 &&& (63 : Int32)) <<< ((6 : Int32) &&& 31))) ||| (p4 &&& (63 : Int32)))), .val (.int (65536 : Int32))] [(.int p6)])) _
                        refine XS.iload X62.here hx rfl (hb hby d1_215) rfl ?_
                        show Steps p.tables e below (T62.setTop (mkF m 217 #[.val (.int p1), .val (.int p2), .val (.int p3), .val (.int p4), .val (.int p5), .val (.int p6), .val (.int (4 : Int32)), .val (.int (((((p1 &&& (7 : Int32)) <<< ((18 : Int32) &&& 31)) ||| ((p2 &&& (63 : Int32)) <<< ((12 : Int32) &&& 31))) ||| ((p3 &&& (63 : Int32)) <<< ((6 : Int32) &&& 31))) ||| (p4 &&& (63 : Int32)))), .val (.int (65536 : Int32))] [(.int (4 : Int32)), (.int p6)])) _
                        refine XS.iadd X62.here hx rfl (hb hby d1_217) rfl ?_
                        show Steps p.tables e below (T62.setTop (mkF m 218 #[.val (.int p1), .val (.int p2), .val (.int p3), .val (.int p4), .val (.int p5), .val (.int p6), .val (.int (4 : Int32)), .val (.int (((((p1 &&& (7 : Int32)) <<< ((18 : Int32) &&& 31)) ||| ((p2 &&& (63 : Int32)) <<< ((12 : Int32) &&& 31))) ||| ((p3 &&& (63 : Int32)) <<< ((6 : Int32) &&& 31))) ||| (p4 &&& (63 : Int32)))), .val (.int (65536 : Int32))] [(.int (p6 + (4 : Int32)))])) _
                        exact retI X62 hx Bd.returns (hb hby d1_218) hr
                      · show Q1 Z p1 p2 p3 p4 p5 p6 h0 n0 _ T62.heap _
                        rw [hh62]
                        have hv : sp1 p1 p2 p3 p4 p5 p6 = (p6 + (4 : Int32)) := by unfold sp1; rw [if_neg c8_1, if_neg c44_21, if_pos c88_45, if_neg c137_47, if_neg c146_51, if_neg c161_57, if_neg c176_63, if_neg c185_65, if_neg c192_67, if_pos c201_69]
                        exact ⟨by rw [hv], N62, rfl⟩
                    · have k72 : ∀ t, Steps p.tables e below (T62.setTop (mkF m 208 #[.val (.int p1), .val (.int p2), .val (.int p3), .val (.int p4), .val (.int p5), .val (.int p6), .val (.int (4 : Int32)), .val (.int (((((p1 &&& (7 : Int32)) <<< ((18 : Int32) &&& 31)) ||| ((p2 &&& (63 : Int32)) <<< ((12 : Int32) &&& 31))) ||| ((p3 &&& (63 : Int32)) <<< ((6 : Int32) &&& 31))) ||| (p4 &&& (63 : Int32)))), .val (.int (65536 : Int32))] [(.int (57343 : Int32)), (.int (((((p1 &&& (7 : Int32)) <<< ((18 : Int32) &&& 31)) ||| ((p2 &&& (63 : Int32)) <<< ((12 : Int32) &&& 31))) ||| ((p3 &&& (63 : Int32)) <<< ((6 : Int32) &&& 31))) ||| (p4 &&& (63 : Int32))))])) t → Steps p.tables e below (s₁.setTop (mkF m 0 #[.val (.int p1), .val (.int p2), .val (.int p3), .val (.int p4), .val (.int p5), .val (.int p6), .unset, .unset, .unset] [])) t := fun t kt => k70 t (by
                        show Steps p.tables e below (T62.setTop (mkF m 201 #[.val (.int p1), .val (.int p2), .val (.int p3), .val (.int p4), .val (.int p5), .val (.int p6), .val (.int (4 : Int32)), .val (.int (((((p1 &&& (7 : Int32)) <<< ((18 : Int32) &&& 31)) ||| ((p2 &&& (63 : Int32)) <<< ((12 : Int32) &&& 31))) ||| ((p3 &&& (63 : Int32)) <<< ((6 : Int32) &&& 31))) ||| (p4 &&& (63 : Int32)))), .val (.int (65536 : Int32))] [(.int (55296 : Int32)), (.int (((((p1 &&& (7 : Int32)) <<< ((18 : Int32) &&& 31)) ||| ((p2 &&& (63 : Int32)) <<< ((12 : Int32) &&& 31))) ||| ((p3 &&& (63 : Int32)) <<< ((6 : Int32) &&& 31))) ||| (p4 &&& (63 : Int32))))])) _
                        refine XS.icmpNo X62.here hx rfl (hb hby d1_201) rfl (flt c201_69).1 ?_
                        show Steps p.tables e below (T62.setTop (mkF m 204 #[.val (.int p1), .val (.int p2), .val (.int p3), .val (.int p4), .val (.int p5), .val (.int p6), .val (.int (4 : Int32)), .val (.int (((((p1 &&& (7 : Int32)) <<< ((18 : Int32) &&& 31)) ||| ((p2 &&& (63 : Int32)) <<< ((12 : Int32) &&& 31))) ||| ((p3 &&& (63 : Int32)) <<< ((6 : Int32) &&& 31))) ||| (p4 &&& (63 : Int32)))), .val (.int (65536 : Int32))] [])) _
                        refine XS.iload X62.here hx rfl (hb hby d1_204) rfl ?_
                        show Steps p.tables e below (T62.setTop (mkF m 206 #[.val (.int p1), .val (.int p2), .val (.int p3), .val (.int p4), .val (.int p5), .val (.int p6), .val (.int (4 : Int32)), .val (.int (((((p1 &&& (7 : Int32)) <<< ((18 : Int32) &&& 31)) ||| ((p2 &&& (63 : Int32)) <<< ((12 : Int32) &&& 31))) ||| ((p3 &&& (63 : Int32)) <<< ((6 : Int32) &&& 31))) ||| (p4 &&& (63 : Int32)))), .val (.int (65536 : Int32))] [(.int (((((p1 &&& (7 : Int32)) <<< ((18 : Int32) &&& 31)) ||| ((p2 &&& (63 : Int32)) <<< ((12 : Int32) &&& 31))) ||| ((p3 &&& (63 : Int32)) <<< ((6 : Int32) &&& 31))) ||| (p4 &&& (63 : Int32))))])) _
                        refine X62.ldcInt hx hown (mvT hZ (hw _ (List.mem_of_getElem? (i := 16) rfl))) (g := (mkF m 206 #[.val (.int p1), .val (.int p2), .val (.int p3), .val (.int p4), .val (.int p5), .val (.int p6), .val (.int (4 : Int32)), .val (.int (((((p1 &&& (7 : Int32)) <<< ((18 : Int32) &&& 31)) ||| ((p2 &&& (63 : Int32)) <<< ((12 : Int32) &&& 31))) ||| ((p3 &&& (63 : Int32)) <<< ((6 : Int32) &&& 31))) ||| (p4 &&& (63 : Int32)))), .val (.int (65536 : Int32))] [(.int (((((p1 &&& (7 : Int32)) <<< ((18 : Int32) &&& 31)) ||| ((p2 &&& (63 : Int32)) <<< ((12 : Int32) &&& 31))) ||| ((p3 &&& (63 : Int32)) <<< ((6 : Int32) &&& 31))) ||| (p4 &&& (63 : Int32))))])) rfl (hb hby d1_206) _ ?_
                        exact kt)
                      by_cases c208_71 : (57343 : Int32) < (((((p1 &&& (7 : Int32)) <<< ((18 : Int32) &&& 31)) ||| ((p2 &&& (63 : Int32)) <<< ((12 : Int32) &&& 31))) ||| ((p3 &&& (63 : Int32)) <<< ((6 : Int32) &&& 31))) ||| (p4 &&& (63 : Int32)))
                      · obtain ⟨fs, hr, hrun, hended, hW, hsame⟩ := X62.leave (v := some (.int (p6 + (4 : Int32)))) (fun h => by rw [Bd.returns] at h; cases h)
                        refine ⟨_, _, pre0 _ (k72 _ ?_), hrun, hended, _, _, rfl, ?_, ⟨_, rfl⟩, hW, hsame.mono (by decide) (by decide)⟩
                        · show Steps p.tables e below (T62.setTop (mkF m 208 #[.val (.int p1), .val (.int p2), .val (.int p3), .val (.int p4), .val (.int p5), .val (.int p6), .val (.int (4 : Int32)), .val (.int (((((p1 &&& (7 : Int32)) <<< ((18 : Int32) &&& 31)) ||| ((p2 &&& (63 : Int32)) <<< ((12 : Int32) &&& 31))) ||| ((p3 &&& (63 : Int32)) <<< ((6 : Int32) &&& 31))) ||| (p4 &&& (63 : Int32)))), .val (.int (65536 : Int32))] [(.int (57343 : Int32)), (.int (((((p1 &&& (7 : Int32)) <<< ((18 : Int32) &&& 31)) ||| ((p2 &&& (63 : Int32)) <<< ((12 : Int32) &&& 31))) ||| ((p3 &&& (63 : Int32)) <<< ((6 : Int32) &&& 31))) ||| (p4 &&& (63 : Int32))))])) _
                          refine XS.icmpYes X62.here hx rfl (pc0 := 208) (pc' := 213) rfl (hb hby d1_208) rfl (tlt c208_71).2.2.1 (by decide) (by decide) ?_
                          show Steps p.tables e below (T62.setTop (mkF m 213 #[.val (.int p1), .val (.int p2), .val (.int p3), .val (.int p4), .val (.int p5), .val (.int p6), .val (.int (4 : Int32)), .val (.int (((((p1 &&& (7 : Int32)) <<< ((18 : Int32) &&& 31)) ||| ((p2 &&& (63 : Int32)) <<< ((12 : Int32) &&& 31))) ||| ((p3 &&& (63 : Int32)) <<< ((6 : Int32) &&& 31))) ||| (p4 &&& (63 : Int32)))), .val (.int (65536 : Int32))] [])) _
                          refine XS.iload X62.here hx rfl (hb hby d1_213) rfl ?_
                          show Steps p.tables e below (T62.setTop (mkF m 215 #[.val (.int p1), .val (.int p2), .val (.int p3), .val (.int p4), .val (.int p5), .val (.int p6), .val (.int (4 : Int32)), .val (.int (((((p1 &&& (7 : Int32)) <<< ((18 : Int32) &&& 31)) ||| ((p2 &&& (63 : Int32)) <<< ((12 : Int32) &&& 31))) ||| ((p3 &&& (63 : Int32)) <<< ((6 : Int32) &&& 31))) ||| (p4 &&& (63 : Int32)))), .val (.int (65536 : Int32))] [(.int p6)])) _
                          refine XS.iload X62.here hx rfl (hb hby d1_215) rfl ?_
                          show Steps p.tables e below (T62.setTop (mkF m 217 #[.val (.int p1), .val (.int p2), .val (.int p3), .val (.int p4), .val (.int p5), .val (.int p6), .val (.int (4 : Int32)), .val (.int (((((p1 &&& (7 : Int32)) <<< ((18 : Int32) &&& 31)) ||| ((p2 &&& (63 : Int32)) <<< ((12 : Int32) &&& 31))) ||| ((p3 &&& (63 : Int32)) <<< ((6 : Int32) &&& 31))) ||| (p4 &&& (63 : Int32)))), .val (.int (65536 : Int32))] [(.int (4 : Int32)), (.int p6)])) _
                          refine XS.iadd X62.here hx rfl (hb hby d1_217) rfl ?_
                          show Steps p.tables e below (T62.setTop (mkF m 218 #[.val (.int p1), .val (.int p2), .val (.int p3), .val (.int p4), .val (.int p5), .val (.int p6), .val (.int (4 : Int32)), .val (.int (((((p1 &&& (7 : Int32)) <<< ((18 : Int32) &&& 31)) ||| ((p2 &&& (63 : Int32)) <<< ((12 : Int32) &&& 31))) ||| ((p3 &&& (63 : Int32)) <<< ((6 : Int32) &&& 31))) ||| (p4 &&& (63 : Int32)))), .val (.int (65536 : Int32))] [(.int (p6 + (4 : Int32)))])) _
                          exact retI X62 hx Bd.returns (hb hby d1_218) hr
                        · show Q1 Z p1 p2 p3 p4 p5 p6 h0 n0 _ T62.heap _
                          rw [hh62]
                          have hv : sp1 p1 p2 p3 p4 p5 p6 = (p6 + (4 : Int32)) := by unfold sp1; rw [if_neg c8_1, if_neg c44_21, if_pos c88_45, if_neg c137_47, if_neg c146_51, if_neg c161_57, if_neg c176_63, if_neg c185_65, if_neg c192_67, if_neg c201_69, if_pos c208_71]
                          exact ⟨by rw [hv], N62, rfl⟩
                      · obtain ⟨fs, hr, hrun, hended, hW, hsame⟩ := X62.leave (v := some (.int (-1 : Int32))) (fun h => by rw [Bd.returns] at h; cases h)
                        refine ⟨_, _, pre0 _ (k72 _ ?_), hrun, hended, _, _, rfl, ?_, ⟨_, rfl⟩, hW, hsame.mono (by decide) (by decide)⟩
                        · show Steps p.tables e below (T62.setTop (mkF m 208 #[.val (.int p1), .val (.int p2), .val (.int p3), .val (.int p4), .val (.int p5), .val (.int p6), .val (.int (4 : Int32)), .val (.int (((((p1 &&& (7 : Int32)) <<< ((18 : Int32) &&& 31)) ||| ((p2 &&& (63 : Int32)) <<< ((12 : Int32) &&& 31))) ||| ((p3 &&& (63 : Int32)) <<< ((6 : Int32) &&& 31))) ||| (p4 &&& (63 : Int32)))), .val (.int (65536 : Int32))] [(.int (57343 : Int32)), (.int (((((p1 &&& (7 : Int32)) <<< ((18 : Int32) &&& 31)) ||| ((p2 &&& (63 : Int32)) <<< ((12 : Int32) &&& 31))) ||| ((p3 &&& (63 : Int32)) <<< ((6 : Int32) &&& 31))) ||| (p4 &&& (63 : Int32))))])) _
                          refine XS.icmpNo X62.here hx rfl (hb hby d1_208) rfl (flt c208_71).2.2.1 ?_
                          show Steps p.tables e below (T62.setTop (mkF m 211 #[.val (.int p1), .val (.int p2), .val (.int p3), .val (.int p4), .val (.int p5), .val (.int p6), .val (.int (4 : Int32)), .val (.int (((((p1 &&& (7 : Int32)) <<< ((18 : Int32) &&& 31)) ||| ((p2 &&& (63 : Int32)) <<< ((12 : Int32) &&& 31))) ||| ((p3 &&& (63 : Int32)) <<< ((6 : Int32) &&& 31))) ||| (p4 &&& (63 : Int32)))), .val (.int (65536 : Int32))] [])) _
                          refine XS.iconst X62.here hx rfl (hb hby d1_211) ?_
                          show Steps p.tables e below (T62.setTop (mkF m 212 #[.val (.int p1), .val (.int p2), .val (.int p3), .val (.int p4), .val (.int p5), .val (.int p6), .val (.int (4 : Int32)), .val (.int (((((p1 &&& (7 : Int32)) <<< ((18 : Int32) &&& 31)) ||| ((p2 &&& (63 : Int32)) <<< ((12 : Int32) &&& 31))) ||| ((p3 &&& (63 : Int32)) <<< ((6 : Int32) &&& 31))) ||| (p4 &&& (63 : Int32)))), .val (.int (65536 : Int32))] [(.int (-1 : Int32))])) _
                          exact retI X62 hx Bd.returns (hb hby d1_212) hr
                        · show Q1 Z p1 p2 p3 p4 p5 p6 h0 n0 _ T62.heap _
                          rw [hh62]
                          have hv : sp1 p1 p2 p3 p4 p5 p6 = (-1 : Int32) := by unfold sp1; rw [if_neg c8_1, if_neg c44_21, if_pos c88_45, if_neg c137_47, if_neg c146_51, if_neg c161_57, if_neg c176_63, if_neg c185_65, if_neg c192_67, if_neg c201_69, if_neg c208_71]
                          exact ⟨by rw [hv], N62, rfl⟩
      · obtain ⟨fs, hr, hrun, hended, hW, hsame⟩ := X0.leave (v := some (.int (-1 : Int32))) (fun h => by rw [Bd.returns] at h; cases h)
        refine ⟨_, _, pre0 _ (k46 _ ?_), hrun, hended, _, _, rfl, ?_, ⟨_, rfl⟩, hW, hsame.mono (by decide) (by decide)⟩
        · show Steps p.tables e below (s₁.setTop (mkF m 88 #[.val (.int p1), .val (.int p2), .val (.int p3), .val (.int p4), .val (.int p5), .val (.int p6), .unset, .unset, .unset] [(.int (240 : Int32)), (.int (p1 &&& (248 : Int32)))])) _
          refine XS.icmpYes X0.here hx rfl (pc0 := 88) (pc' := 131) rfl (hb hby d1_88) rfl (feq c88_45).2 (by decide) (by decide) ?_
          show Steps p.tables e below (s₁.setTop (mkF m 131 #[.val (.int p1), .val (.int p2), .val (.int p3), .val (.int p4), .val (.int p5), .val (.int p6), .unset, .unset, .unset] [])) _
          refine XS.iconst X0.here hx rfl (hb hby d1_131) ?_
          show Steps p.tables e below (s₁.setTop (mkF m 132 #[.val (.int p1), .val (.int p2), .val (.int p3), .val (.int p4), .val (.int p5), .val (.int p6), .unset, .unset, .unset] [(.int (-1 : Int32))])) _
          exact retI X0 hx Bd.returns (hb hby d1_132) hr
        · show Q1 Z p1 p2 p3 p4 p5 p6 h0 n0 _ s₁.heap _
          rw [e0]
          have hv : sp1 p1 p2 p3 p4 p5 p6 = (-1 : Int32) := by unfold sp1; rw [if_neg c8_1, if_neg c44_21, if_neg c88_45]
          exact ⟨by rw [hv], N0, rfl⟩
def Q2 (Z : State) (a1 : Addr) (p2 : Int32) (b0 : Int32) (b1 : Int32) (b2 : Int32) (b3 : Int32) (b4 : Int32) (kk : ClassId) (h0 : Heap) (n0 : Nat) (v : Option Value) (h : Heap) (L : List Loc) : Prop := v = some (.int (sp2 p2 b0 b1 b2 b3 b4)) ∧ Fr n0 L ∧ h = h0
set_option maxRecDepth 65536 in
set_option maxHeartbeats 40000000 in
theorem rm2 (l : Launch) (Z : State) (a0 : Array Value) (hw : ∀ d ∈ tables_1, d.before a0 Z = true) (ws : List Jvm.Cond) (a1 : Addr) (p2 : Int32) (b0 : Int32) (b1 : Int32) (b2 : Int32) (b3 : Int32) (b4 : Int32) (kk : ClassId) (h0 : Heap) (n0 : Nat) (Z0 : n0 ≤ h0.size) (V0 : Arv Z h0 a1 kk .byte (5 : Int32) [(.int b0), (.int b1), (.int b2), (.int b3), (.int b4)] (.int (0 : Int32))) (hat : ¬ p2 < 0 ∧ p2 < (5 : Int32)) :
    MetFree l (⟨"com/example/hemawire/hemawire/serve/TextFiles", "characterEnd", "([BI)I"⟩ : MethodName) (head1 (Jvm.Cond.code (⟨"com/example/hemawire/hemawire/serve/TextFiles", "characterEnd", "([BI)I"⟩ : MethodName) prog_171_method_4_code 9 (some .int) :: ws) ({ frames := 0, cells := 0, slots := 0, locals := 0 } : Room)) (fun a U => a = #[(.ref a1), (.int p2)] ∧ Z.Warmed39 U.vm ∧ U.heap = h0) (fun _ _ _ _ _ => True) (fun _ U o U' => ∃ v L, o = .returned v ∧ Q2 Z a1 p2 b0 b1 b2 b3 b4 kk h0 n0 v U'.heap L ∧ FrameEnd U o U' L ({ frames := 0, cells := 0, slots := 0, locals := 0 } : Room).cells ({ frames := 0, cells := 0, slots := 0, locals := 0 } : Room).slots) := by
  refine MetFree.of_bodySF (plainFor_of_name pn_2) hisR ?_
  intro p e s m args below meth c s₁ Bd hml0 hP hK
  obtain ⟨rfl, hZ, hh⟩ := hP
  have hx := Bd.exec
  have hby := Bd.bytes
  have hml : c.maxLocals = 9 := hml0
  have hown : s.vm.findClass "com/example/hemawire/hemawire/serve/TextFiles" = some m.cls := findClass_of_methodNamed Bd.named
  have hnm := (name_of_methodNamed Bd.named Bd.method).1
  have X0 : Stand p l e ({ frames := 0, cells := 0, slots := 0, locals := 0 } : Room) s m #[(.ref a1), (.int p2)] below meth c s₁ [] 0 0 := Stand.of_body Bd
  have e0 : s₁.heap = h0 := by rw [← hh, Bd.state]; rfl
  have N0 := Fr.nil n0
  have pre0 : ∀ t, Steps p.tables e below (s₁.setTop (mkF m 0 #[.val (.ref a1), .val (.int p2), .unset, .unset, .unset, .unset, .unset, .unset, .unset] [])) t → Steps p.tables e below (s₁.setTop (entryFrame m #[(.ref a1), (.int p2)] 9)) t := fun t k => castTop (ef_2 m a1 p2) k
  have pre1 : ∀ t, Steps p.tables e below (s₁.setTop (mkF m 0 #[.val (.ref a1), .val (.int p2), .unset, .unset, .unset, .unset, .unset, .unset, .unset] [])) t → Steps p.tables e below (s₁.setTop (mkF m 0 #[.val (.ref a1), .val (.int p2), .unset, .unset, .unset, .unset, .unset, .unset, .unset] [])) t := fun t k => k
  have k1 : ∀ t, Steps p.tables e below (s₁.setTop (mkF m 2 #[.val (.ref a1), .val (.int p2), .unset, .unset, .unset, .unset, .unset, .unset, .unset] [(.int p2), (.ref a1)])) t → Steps p.tables e below (s₁.setTop (mkF m 0 #[.val (.ref a1), .val (.int p2), .unset, .unset, .unset, .unset, .unset, .unset, .unset] [])) t := fun t kt => pre1 t (by
    show Steps p.tables e below (s₁.setTop (mkF m 0 #[.val (.ref a1), .val (.int p2), .unset, .unset, .unset, .unset, .unset, .unset, .unset] [])) _
    refine XS.aloadN X0.here hx rfl (hb hby d2_0) rfl rfl ?_
    show Steps p.tables e below (s₁.setTop (mkF m 1 #[.val (.ref a1), .val (.int p2), .unset, .unset, .unset, .unset, .unset, .unset, .unset] [(.ref a1)])) _
    refine XS.iloadN X0.here hx rfl (hb hby d2_1) rfl ?_
    exact kt)
  obtain ⟨cl2, Ar2, q2, S2, N2', H2, G2⟩ := V0
  have hin2 : ¬ (p2 < 0 ∨ cl2.slots.size ≤ (p2).toNatClampNeg) := inb_of S2 hat
  have hat2 : cl2.slots[(p2).toNatClampNeg]? = some (.int (own_at b0 b1 b2 b3 b4 p2)) := H2.at hin2 (own_at_at b0 b1 b2 b3 b4 p2 hat)
  have V2 : Arv Z h0 a1 kk .byte (5 : Int32) [(.int b0), (.int b1), (.int b2), (.int b3), (.int b4)] (.int (0 : Int32)) := ⟨cl2, Ar2, q2, S2, N2', H2, G2⟩
  have k3 : ∀ t, Steps p.tables e below (s₁.setTop (mkF m 3 #[.val (.ref a1), .val (.int p2), .unset, .unset, .unset, .unset, .unset, .unset, .unset] [(.int (own_at b0 b1 b2 b3 b4 p2))])) t → Steps p.tables e below (s₁.setTop (mkF m 0 #[.val (.ref a1), .val (.int p2), .unset, .unset, .unset, .unset, .unset, .unset, .unset] [])) t := fun t kt => k1 t (by
    show Steps p.tables e below (s₁.setTop (mkF m 2 #[.val (.ref a1), .val (.int p2), .unset, .unset, .unset, .unset, .unset, .unset, .unset] [(.int p2), (.ref a1)])) _
    refine X0.baloadBytes hx (j := p2) (v := (.int (own_at b0 b1 b2 b3 b4 p2))) (by rw [e0]; exact Ar2.1) (State.isArrayOf_alike hZ.alike Ar2.2.1) Ar2.2.2 hin2 hat2 (g := (mkF m 2 #[.val (.ref a1), .val (.int p2), .unset, .unset, .unset, .unset, .unset, .unset, .unset] [(.int p2), (.ref a1)])) rfl rfl (hb hby d2_2) _ ?_
    exact kt)
  have k4 : ∀ t, Steps p.tables e below (s₁.setTop (mkF m 10 #[.val (.ref a1), .val (.int p2), .val (.int (v2_7 p2 b0 b1 b2 b3 b4)), .val (.int (0 : Int32)), .unset, .unset, .unset, .unset, .unset] [])) t → Steps p.tables e below (s₁.setTop (mkF m 0 #[.val (.ref a1), .val (.int p2), .unset, .unset, .unset, .unset, .unset, .unset, .unset] [])) t := fun t kt => k3 t (by
    show Steps p.tables e below (s₁.setTop (mkF m 3 #[.val (.ref a1), .val (.int p2), .unset, .unset, .unset, .unset, .unset, .unset, .unset] [(.int (own_at b0 b1 b2 b3 b4 p2))])) _
    refine XS.sipush X0.here hx rfl (hb hby d2_3) ?_
    show Steps p.tables e below (s₁.setTop (mkF m 6 #[.val (.ref a1), .val (.int p2), .unset, .unset, .unset, .unset, .unset, .unset, .unset] [(.int (255 : Int32)), (.int (own_at b0 b1 b2 b3 b4 p2))])) _
    refine XS.iand X0.here hx rfl (hb hby d2_6) rfl ?_
    show Steps p.tables e below (s₁.setTop (mkF m 7 #[.val (.ref a1), .val (.int p2), .unset, .unset, .unset, .unset, .unset, .unset, .unset] [(.int ((own_at b0 b1 b2 b3 b4 p2) &&& (255 : Int32)))])) _
    refine XS.istoreN X0.here hx rfl (hb hby d2_7) rfl (l' := #[.val (.ref a1), .val (.int p2), .val (.int (v2_7 p2 b0 b1 b2 b3 b4)), .unset, .unset, .unset, .unset, .unset, .unset]) rfl ?_
    show Steps p.tables e below (s₁.setTop (mkF m 8 #[.val (.ref a1), .val (.int p2), .val (.int (v2_7 p2 b0 b1 b2 b3 b4)), .unset, .unset, .unset, .unset, .unset, .unset] [])) _
    refine XS.iconst X0.here hx rfl (hb hby d2_8) ?_
    show Steps p.tables e below (s₁.setTop (mkF m 9 #[.val (.ref a1), .val (.int p2), .val (.int (v2_7 p2 b0 b1 b2 b3 b4)), .unset, .unset, .unset, .unset, .unset, .unset] [(.int (0 : Int32))])) _
    refine XS.istoreN X0.here hx rfl (hb hby d2_9) rfl (l' := #[.val (.ref a1), .val (.int p2), .val (.int (v2_7 p2 b0 b1 b2 b3 b4)), .val (.int (0 : Int32)), .unset, .unset, .unset, .unset, .unset]) rfl ?_
    exact kt)
  obtain ⟨cl5, Ar5, q5, S5, N5', H5, G5⟩ := V2
  have V5 : Arv Z h0 a1 kk .byte (5 : Int32) [(.int b0), (.int b1), (.int b2), (.int b3), (.int b4)] (.int (0 : Int32)) := ⟨cl5, Ar5, q5, S5, N5', H5, G5⟩
  have k6 : ∀ t, Steps p.tables e below (s₁.setTop (mkF m 20 #[.val (.ref a1), .val (.int p2), .val (.int (v2_7 p2 b0 b1 b2 b3 b4)), .val (.int (0 : Int32)), .val (.int (128 : Int32)), .val (.int (191 : Int32)), .unset, .unset, .unset] [])) t → Steps p.tables e below (s₁.setTop (mkF m 0 #[.val (.ref a1), .val (.int p2), .unset, .unset, .unset, .unset, .unset, .unset, .unset] [])) t := fun t kt => k4 t (by
    show Steps p.tables e below (s₁.setTop (mkF m 10 #[.val (.ref a1), .val (.int p2), .val (.int (v2_7 p2 b0 b1 b2 b3 b4)), .val (.int (0 : Int32)), .unset, .unset, .unset, .unset, .unset] [])) _
    refine XS.sipush X0.here hx rfl (hb hby d2_10) ?_
    show Steps p.tables e below (s₁.setTop (mkF m 13 #[.val (.ref a1), .val (.int p2), .val (.int (v2_7 p2 b0 b1 b2 b3 b4)), .val (.int (0 : Int32)), .unset, .unset, .unset, .unset, .unset] [(.int (128 : Int32))])) _
    refine XS.istore X0.here hx rfl (hb hby d2_13) rfl (l' := #[.val (.ref a1), .val (.int p2), .val (.int (v2_7 p2 b0 b1 b2 b3 b4)), .val (.int (0 : Int32)), .val (.int (128 : Int32)), .unset, .unset, .unset, .unset]) rfl ?_
    show Steps p.tables e below (s₁.setTop (mkF m 15 #[.val (.ref a1), .val (.int p2), .val (.int (v2_7 p2 b0 b1 b2 b3 b4)), .val (.int (0 : Int32)), .val (.int (128 : Int32)), .unset, .unset, .unset, .unset] [])) _
    refine XS.sipush X0.here hx rfl (hb hby d2_15) ?_
    show Steps p.tables e below (s₁.setTop (mkF m 18 #[.val (.ref a1), .val (.int p2), .val (.int (v2_7 p2 b0 b1 b2 b3 b4)), .val (.int (0 : Int32)), .val (.int (128 : Int32)), .unset, .unset, .unset, .unset] [(.int (191 : Int32))])) _
    refine XS.istore X0.here hx rfl (hb hby d2_18) rfl (l' := #[.val (.ref a1), .val (.int p2), .val (.int (v2_7 p2 b0 b1 b2 b3 b4)), .val (.int (0 : Int32)), .val (.int (128 : Int32)), .val (.int (191 : Int32)), .unset, .unset, .unset]) rfl ?_
    exact kt)
  have k21 : ∀ t, Steps p.tables e below (s₁.setTop (mkF m 142 #[.val (.ref a1), .val (.int p2), .val (.int (v2_7 p2 b0 b1 b2 b3 b4)), .val (.int (j2_1_L3 p2 b0 b1 b2 b3 b4)), .val (.int (j2_1_L4 p2 b0 b1 b2 b3 b4)), .val (.int (j2_1_L5 p2 b0 b1 b2 b3 b4)), .unset, .unset, .unset] [])) t → Steps p.tables e below (s₁.setTop (mkF m 0 #[.val (.ref a1), .val (.int p2), .unset, .unset, .unset, .unset, .unset, .unset, .unset] [])) t := by
    intro t kt
    refine k6 t ?_
    by_cases c24_22 : (v2_7 p2 b0 b1 b2 b3 b4) < (194 : Int32)
    · have c43_23 : (v2_7 p2 b0 b1 b2 b3 b4) < (224 : Int32) := own_ltw c24_22 (by decide)
      have c96_24 : (v2_7 p2 b0 b1 b2 b3 b4) < (240 : Int32) := own_ltw c24_22 (by decide)
      rw [show j2_1_L3 p2 b0 b1 b2 b3 b4 = (0 : Int32) from by unfold j2_1_L3; rw [if_pos c24_22]] at kt
      rw [show j2_1_L4 p2 b0 b1 b2 b3 b4 = (128 : Int32) from by unfold j2_1_L4; rw [if_pos c24_22]] at kt
      rw [show j2_1_L5 p2 b0 b1 b2 b3 b4 = (191 : Int32) from by unfold j2_1_L5; rw [if_pos c24_22]] at kt
      show Steps p.tables e below (s₁.setTop (mkF m 20 #[.val (.ref a1), .val (.int p2), .val (.int (v2_7 p2 b0 b1 b2 b3 b4)), .val (.int (0 : Int32)), .val (.int (128 : Int32)), .val (.int (191 : Int32)), .unset, .unset, .unset] [])) _
      refine XS.iloadN X0.here hx rfl (hb hby d2_20) rfl ?_
      show Steps p.tables e below (s₁.setTop (mkF m 21 #[.val (.ref a1), .val (.int p2), .val (.int (v2_7 p2 b0 b1 b2 b3 b4)), .val (.int (0 : Int32)), .val (.int (128 : Int32)), .val (.int (191 : Int32)), .unset, .unset, .unset] [(.int (v2_7 p2 b0 b1 b2 b3 b4))])) _
      refine XS.sipush X0.here hx rfl (hb hby d2_21) ?_
      show Steps p.tables e below (s₁.setTop (mkF m 24 #[.val (.ref a1), .val (.int p2), .val (.int (v2_7 p2 b0 b1 b2 b3 b4)), .val (.int (0 : Int32)), .val (.int (128 : Int32)), .val (.int (191 : Int32)), .unset, .unset, .unset] [(.int (194 : Int32)), (.int (v2_7 p2 b0 b1 b2 b3 b4))])) _
      refine XS.icmpYes X0.here hx rfl (pc0 := 24) (pc' := 39) rfl (hb hby d2_24) rfl (tlt c24_22).1 (by decide) (by decide) ?_
      show Steps p.tables e below (s₁.setTop (mkF m 39 #[.val (.ref a1), .val (.int p2), .val (.int (v2_7 p2 b0 b1 b2 b3 b4)), .val (.int (0 : Int32)), .val (.int (128 : Int32)), .val (.int (191 : Int32)), .unset, .unset, .unset] [])) _
      refine XS.iloadN X0.here hx rfl (hb hby d2_39) rfl ?_
      show Steps p.tables e below (s₁.setTop (mkF m 40 #[.val (.ref a1), .val (.int p2), .val (.int (v2_7 p2 b0 b1 b2 b3 b4)), .val (.int (0 : Int32)), .val (.int (128 : Int32)), .val (.int (191 : Int32)), .unset, .unset, .unset] [(.int (v2_7 p2 b0 b1 b2 b3 b4))])) _
      refine XS.sipush X0.here hx rfl (hb hby d2_40) ?_
      show Steps p.tables e below (s₁.setTop (mkF m 43 #[.val (.ref a1), .val (.int p2), .val (.int (v2_7 p2 b0 b1 b2 b3 b4)), .val (.int (0 : Int32)), .val (.int (128 : Int32)), .val (.int (191 : Int32)), .unset, .unset, .unset] [(.int (224 : Int32)), (.int (v2_7 p2 b0 b1 b2 b3 b4))])) _
      refine XS.icmpYes X0.here hx rfl (pc0 := 43) (pc' := 92) rfl (hb hby d2_43) rfl (tlt c43_23).1 (by decide) (by decide) ?_
      show Steps p.tables e below (s₁.setTop (mkF m 92 #[.val (.ref a1), .val (.int p2), .val (.int (v2_7 p2 b0 b1 b2 b3 b4)), .val (.int (0 : Int32)), .val (.int (128 : Int32)), .val (.int (191 : Int32)), .unset, .unset, .unset] [])) _
      refine XS.iloadN X0.here hx rfl (hb hby d2_92) rfl ?_
      show Steps p.tables e below (s₁.setTop (mkF m 93 #[.val (.ref a1), .val (.int p2), .val (.int (v2_7 p2 b0 b1 b2 b3 b4)), .val (.int (0 : Int32)), .val (.int (128 : Int32)), .val (.int (191 : Int32)), .unset, .unset, .unset] [(.int (v2_7 p2 b0 b1 b2 b3 b4))])) _
      refine XS.sipush X0.here hx rfl (hb hby d2_93) ?_
      show Steps p.tables e below (s₁.setTop (mkF m 96 #[.val (.ref a1), .val (.int p2), .val (.int (v2_7 p2 b0 b1 b2 b3 b4)), .val (.int (0 : Int32)), .val (.int (128 : Int32)), .val (.int (191 : Int32)), .unset, .unset, .unset] [(.int (240 : Int32)), (.int (v2_7 p2 b0 b1 b2 b3 b4))])) _
      refine XS.icmpYes X0.here hx rfl (pc0 := 96) (pc' := 142) rfl (hb hby d2_96) rfl (tlt c96_24).1 (by decide) (by decide) ?_
      exact kt
    · by_cases c31_25 : (223 : Int32) < (v2_7 p2 b0 b1 b2 b3 b4)
      · have c43_26 : ¬ ((v2_7 p2 b0 b1 b2 b3 b4) < (224 : Int32)) := own_gtw c31_25 (by decide)
        by_cases c50_27 : (239 : Int32) < (v2_7 p2 b0 b1 b2 b3 b4)
        · have c96_28 : ¬ ((v2_7 p2 b0 b1 b2 b3 b4) < (240 : Int32)) := own_gtw c50_27 (by decide)
          by_cases c103_29 : (244 : Int32) < (v2_7 p2 b0 b1 b2 b3 b4)
          · rw [show j2_1_L3 p2 b0 b1 b2 b3 b4 = (0 : Int32) from by unfold j2_1_L3; rw [if_neg c24_22, if_pos c31_25, if_pos c50_27, if_pos c103_29]] at kt
            rw [show j2_1_L4 p2 b0 b1 b2 b3 b4 = (128 : Int32) from by unfold j2_1_L4; rw [if_neg c24_22, if_pos c31_25, if_pos c50_27, if_pos c103_29]] at kt
            rw [show j2_1_L5 p2 b0 b1 b2 b3 b4 = (191 : Int32) from by unfold j2_1_L5; rw [if_neg c24_22, if_pos c31_25, if_pos c50_27, if_pos c103_29]] at kt
            show Steps p.tables e below (s₁.setTop (mkF m 20 #[.val (.ref a1), .val (.int p2), .val (.int (v2_7 p2 b0 b1 b2 b3 b4)), .val (.int (0 : Int32)), .val (.int (128 : Int32)), .val (.int (191 : Int32)), .unset, .unset, .unset] [])) _
            refine XS.iloadN X0.here hx rfl (hb hby d2_20) rfl ?_
            show Steps p.tables e below (s₁.setTop (mkF m 21 #[.val (.ref a1), .val (.int p2), .val (.int (v2_7 p2 b0 b1 b2 b3 b4)), .val (.int (0 : Int32)), .val (.int (128 : Int32)), .val (.int (191 : Int32)), .unset, .unset, .unset] [(.int (v2_7 p2 b0 b1 b2 b3 b4))])) _
            refine XS.sipush X0.here hx rfl (hb hby d2_21) ?_
            show Steps p.tables e below (s₁.setTop (mkF m 24 #[.val (.ref a1), .val (.int p2), .val (.int (v2_7 p2 b0 b1 b2 b3 b4)), .val (.int (0 : Int32)), .val (.int (128 : Int32)), .val (.int (191 : Int32)), .unset, .unset, .unset] [(.int (194 : Int32)), (.int (v2_7 p2 b0 b1 b2 b3 b4))])) _
            refine XS.icmpNo X0.here hx rfl (hb hby d2_24) rfl (flt c24_22).1 ?_
            show Steps p.tables e below (s₁.setTop (mkF m 27 #[.val (.ref a1), .val (.int p2), .val (.int (v2_7 p2 b0 b1 b2 b3 b4)), .val (.int (0 : Int32)), .val (.int (128 : Int32)), .val (.int (191 : Int32)), .unset, .unset, .unset] [])) _
            refine XS.iloadN X0.here hx rfl (hb hby d2_27) rfl ?_
            show Steps p.tables e below (s₁.setTop (mkF m 28 #[.val (.ref a1), .val (.int p2), .val (.int (v2_7 p2 b0 b1 b2 b3 b4)), .val (.int (0 : Int32)), .val (.int (128 : Int32)), .val (.int (191 : Int32)), .unset, .unset, .unset] [(.int (v2_7 p2 b0 b1 b2 b3 b4))])) _
            refine XS.sipush X0.here hx rfl (hb hby d2_28) ?_
            show Steps p.tables e below (s₁.setTop (mkF m 31 #[.val (.ref a1), .val (.int p2), .val (.int (v2_7 p2 b0 b1 b2 b3 b4)), .val (.int (0 : Int32)), .val (.int (128 : Int32)), .val (.int (191 : Int32)), .unset, .unset, .unset] [(.int (223 : Int32)), (.int (v2_7 p2 b0 b1 b2 b3 b4))])) _
            refine XS.icmpYes X0.here hx rfl (pc0 := 31) (pc' := 39) rfl (hb hby d2_31) rfl (tlt c31_25).2.2.1 (by decide) (by decide) ?_
            show Steps p.tables e below (s₁.setTop (mkF m 39 #[.val (.ref a1), .val (.int p2), .val (.int (v2_7 p2 b0 b1 b2 b3 b4)), .val (.int (0 : Int32)), .val (.int (128 : Int32)), .val (.int (191 : Int32)), .unset, .unset, .unset] [])) _
            refine XS.iloadN X0.here hx rfl (hb hby d2_39) rfl ?_
            show Steps p.tables e below (s₁.setTop (mkF m 40 #[.val (.ref a1), .val (.int p2), .val (.int (v2_7 p2 b0 b1 b2 b3 b4)), .val (.int (0 : Int32)), .val (.int (128 : Int32)), .val (.int (191 : Int32)), .unset, .unset, .unset] [(.int (v2_7 p2 b0 b1 b2 b3 b4))])) _
            refine XS.sipush X0.here hx rfl (hb hby d2_40) ?_
            show Steps p.tables e below (s₁.setTop (mkF m 43 #[.val (.ref a1), .val (.int p2), .val (.int (v2_7 p2 b0 b1 b2 b3 b4)), .val (.int (0 : Int32)), .val (.int (128 : Int32)), .val (.int (191 : Int32)), .unset, .unset, .unset] [(.int (224 : Int32)), (.int (v2_7 p2 b0 b1 b2 b3 b4))])) _
            refine XS.icmpNo X0.here hx rfl (hb hby d2_43) rfl (flt c43_26).1 ?_
            show Steps p.tables e below (s₁.setTop (mkF m 46 #[.val (.ref a1), .val (.int p2), .val (.int (v2_7 p2 b0 b1 b2 b3 b4)), .val (.int (0 : Int32)), .val (.int (128 : Int32)), .val (.int (191 : Int32)), .unset, .unset, .unset] [])) _
            refine XS.iloadN X0.here hx rfl (hb hby d2_46) rfl ?_
            show Steps p.tables e below (s₁.setTop (mkF m 47 #[.val (.ref a1), .val (.int p2), .val (.int (v2_7 p2 b0 b1 b2 b3 b4)), .val (.int (0 : Int32)), .val (.int (128 : Int32)), .val (.int (191 : Int32)), .unset, .unset, .unset] [(.int (v2_7 p2 b0 b1 b2 b3 b4))])) _
            refine XS.sipush X0.here hx rfl (hb hby d2_47) ?_
            show Steps p.tables e below (s₁.setTop (mkF m 50 #[.val (.ref a1), .val (.int p2), .val (.int (v2_7 p2 b0 b1 b2 b3 b4)), .val (.int (0 : Int32)), .val (.int (128 : Int32)), .val (.int (191 : Int32)), .unset, .unset, .unset] [(.int (239 : Int32)), (.int (v2_7 p2 b0 b1 b2 b3 b4))])) _
            refine XS.icmpYes X0.here hx rfl (pc0 := 50) (pc' := 92) rfl (hb hby d2_50) rfl (tlt c50_27).2.2.1 (by decide) (by decide) ?_
            show Steps p.tables e below (s₁.setTop (mkF m 92 #[.val (.ref a1), .val (.int p2), .val (.int (v2_7 p2 b0 b1 b2 b3 b4)), .val (.int (0 : Int32)), .val (.int (128 : Int32)), .val (.int (191 : Int32)), .unset, .unset, .unset] [])) _
            refine XS.iloadN X0.here hx rfl (hb hby d2_92) rfl ?_
            show Steps p.tables e below (s₁.setTop (mkF m 93 #[.val (.ref a1), .val (.int p2), .val (.int (v2_7 p2 b0 b1 b2 b3 b4)), .val (.int (0 : Int32)), .val (.int (128 : Int32)), .val (.int (191 : Int32)), .unset, .unset, .unset] [(.int (v2_7 p2 b0 b1 b2 b3 b4))])) _
            refine XS.sipush X0.here hx rfl (hb hby d2_93) ?_
            show Steps p.tables e below (s₁.setTop (mkF m 96 #[.val (.ref a1), .val (.int p2), .val (.int (v2_7 p2 b0 b1 b2 b3 b4)), .val (.int (0 : Int32)), .val (.int (128 : Int32)), .val (.int (191 : Int32)), .unset, .unset, .unset] [(.int (240 : Int32)), (.int (v2_7 p2 b0 b1 b2 b3 b4))])) _
            refine XS.icmpNo X0.here hx rfl (hb hby d2_96) rfl (flt c96_28).1 ?_
            show Steps p.tables e below (s₁.setTop (mkF m 99 #[.val (.ref a1), .val (.int p2), .val (.int (v2_7 p2 b0 b1 b2 b3 b4)), .val (.int (0 : Int32)), .val (.int (128 : Int32)), .val (.int (191 : Int32)), .unset, .unset, .unset] [])) _
            refine XS.iloadN X0.here hx rfl (hb hby d2_99) rfl ?_
            show Steps p.tables e below (s₁.setTop (mkF m 100 #[.val (.ref a1), .val (.int p2), .val (.int (v2_7 p2 b0 b1 b2 b3 b4)), .val (.int (0 : Int32)), .val (.int (128 : Int32)), .val (.int (191 : Int32)), .unset, .unset, .unset] [(.int (v2_7 p2 b0 b1 b2 b3 b4))])) _
            refine XS.sipush X0.here hx rfl (hb hby d2_100) ?_
            show Steps p.tables e below (s₁.setTop (mkF m 103 #[.val (.ref a1), .val (.int p2), .val (.int (v2_7 p2 b0 b1 b2 b3 b4)), .val (.int (0 : Int32)), .val (.int (128 : Int32)), .val (.int (191 : Int32)), .unset, .unset, .unset] [(.int (244 : Int32)), (.int (v2_7 p2 b0 b1 b2 b3 b4))])) _
            refine XS.icmpYes X0.here hx rfl (pc0 := 103) (pc' := 142) rfl (hb hby d2_103) rfl (tlt c103_29).2.2.1 (by decide) (by decide) ?_
            exact kt
          · by_cases c112_30 : (v2_7 p2 b0 b1 b2 b3 b4) = (240 : Int32)
            · have c129_31 : ¬ ((v2_7 p2 b0 b1 b2 b3 b4) = (244 : Int32)) := own_eqw c112_30 (by decide)
              rw [show j2_1_L3 p2 b0 b1 b2 b3 b4 = (4 : Int32) from by unfold j2_1_L3; rw [if_neg c24_22, if_pos c31_25, if_pos c50_27, if_neg c103_29, if_pos c112_30]] at kt
              rw [show j2_1_L4 p2 b0 b1 b2 b3 b4 = (144 : Int32) from by unfold j2_1_L4; rw [if_neg c24_22, if_pos c31_25, if_pos c50_27, if_neg c103_29, if_pos c112_30]] at kt
              rw [show j2_1_L5 p2 b0 b1 b2 b3 b4 = (191 : Int32) from by unfold j2_1_L5; rw [if_neg c24_22, if_pos c31_25, if_pos c50_27, if_neg c103_29, if_pos c112_30]] at kt
              show Steps p.tables e below (s₁.setTop (mkF m 20 #[.val (.ref a1), .val (.int p2), .val (.int (v2_7 p2 b0 b1 b2 b3 b4)), .val (.int (0 : Int32)), .val (.int (128 : Int32)), .val (.int (191 : Int32)), .unset, .unset, .unset] [])) _
              refine XS.iloadN X0.here hx rfl (hb hby d2_20) rfl ?_
              show Steps p.tables e below (s₁.setTop (mkF m 21 #[.val (.ref a1), .val (.int p2), .val (.int (v2_7 p2 b0 b1 b2 b3 b4)), .val (.int (0 : Int32)), .val (.int (128 : Int32)), .val (.int (191 : Int32)), .unset, .unset, .unset] [(.int (v2_7 p2 b0 b1 b2 b3 b4))])) _
              refine XS.sipush X0.here hx rfl (hb hby d2_21) ?_
              show Steps p.tables e below (s₁.setTop (mkF m 24 #[.val (.ref a1), .val (.int p2), .val (.int (v2_7 p2 b0 b1 b2 b3 b4)), .val (.int (0 : Int32)), .val (.int (128 : Int32)), .val (.int (191 : Int32)), .unset, .unset, .unset] [(.int (194 : Int32)), (.int (v2_7 p2 b0 b1 b2 b3 b4))])) _
              refine XS.icmpNo X0.here hx rfl (hb hby d2_24) rfl (flt c24_22).1 ?_
              show Steps p.tables e below (s₁.setTop (mkF m 27 #[.val (.ref a1), .val (.int p2), .val (.int (v2_7 p2 b0 b1 b2 b3 b4)), .val (.int (0 : Int32)), .val (.int (128 : Int32)), .val (.int (191 : Int32)), .unset, .unset, .unset] [])) _
              refine XS.iloadN X0.here hx rfl (hb hby d2_27) rfl ?_
              show Steps p.tables e below (s₁.setTop (mkF m 28 #[.val (.ref a1), .val (.int p2), .val (.int (v2_7 p2 b0 b1 b2 b3 b4)), .val (.int (0 : Int32)), .val (.int (128 : Int32)), .val (.int (191 : Int32)), .unset, .unset, .unset] [(.int (v2_7 p2 b0 b1 b2 b3 b4))])) _
              refine XS.sipush X0.here hx rfl (hb hby d2_28) ?_
              show Steps p.tables e below (s₁.setTop (mkF m 31 #[.val (.ref a1), .val (.int p2), .val (.int (v2_7 p2 b0 b1 b2 b3 b4)), .val (.int (0 : Int32)), .val (.int (128 : Int32)), .val (.int (191 : Int32)), .unset, .unset, .unset] [(.int (223 : Int32)), (.int (v2_7 p2 b0 b1 b2 b3 b4))])) _
              refine XS.icmpYes X0.here hx rfl (pc0 := 31) (pc' := 39) rfl (hb hby d2_31) rfl (tlt c31_25).2.2.1 (by decide) (by decide) ?_
              show Steps p.tables e below (s₁.setTop (mkF m 39 #[.val (.ref a1), .val (.int p2), .val (.int (v2_7 p2 b0 b1 b2 b3 b4)), .val (.int (0 : Int32)), .val (.int (128 : Int32)), .val (.int (191 : Int32)), .unset, .unset, .unset] [])) _
              refine XS.iloadN X0.here hx rfl (hb hby d2_39) rfl ?_
              show Steps p.tables e below (s₁.setTop (mkF m 40 #[.val (.ref a1), .val (.int p2), .val (.int (v2_7 p2 b0 b1 b2 b3 b4)), .val (.int (0 : Int32)), .val (.int (128 : Int32)), .val (.int (191 : Int32)), .unset, .unset, .unset] [(.int (v2_7 p2 b0 b1 b2 b3 b4))])) _
              refine XS.sipush X0.here hx rfl (hb hby d2_40) ?_
              show Steps p.tables e below (s₁.setTop (mkF m 43 #[.val (.ref a1), .val (.int p2), .val (.int (v2_7 p2 b0 b1 b2 b3 b4)), .val (.int (0 : Int32)), .val (.int (128 : Int32)), .val (.int (191 : Int32)), .unset, .unset, .unset] [(.int (224 : Int32)), (.int (v2_7 p2 b0 b1 b2 b3 b4))])) _
              refine XS.icmpNo X0.here hx rfl (hb hby d2_43) rfl (flt c43_26).1 ?_
              show Steps p.tables e below (s₁.setTop (mkF m 46 #[.val (.ref a1), .val (.int p2), .val (.int (v2_7 p2 b0 b1 b2 b3 b4)), .val (.int (0 : Int32)), .val (.int (128 : Int32)), .val (.int (191 : Int32)), .unset, .unset, .unset] [])) _
              refine XS.iloadN X0.here hx rfl (hb hby d2_46) rfl ?_
              show Steps p.tables e below (s₁.setTop (mkF m 47 #[.val (.ref a1), .val (.int p2), .val (.int (v2_7 p2 b0 b1 b2 b3 b4)), .val (.int (0 : Int32)), .val (.int (128 : Int32)), .val (.int (191 : Int32)), .unset, .unset, .unset] [(.int (v2_7 p2 b0 b1 b2 b3 b4))])) _
              refine XS.sipush X0.here hx rfl (hb hby d2_47) ?_
              show Steps p.tables e below (s₁.setTop (mkF m 50 #[.val (.ref a1), .val (.int p2), .val (.int (v2_7 p2 b0 b1 b2 b3 b4)), .val (.int (0 : Int32)), .val (.int (128 : Int32)), .val (.int (191 : Int32)), .unset, .unset, .unset] [(.int (239 : Int32)), (.int (v2_7 p2 b0 b1 b2 b3 b4))])) _
              refine XS.icmpYes X0.here hx rfl (pc0 := 50) (pc' := 92) rfl (hb hby d2_50) rfl (tlt c50_27).2.2.1 (by decide) (by decide) ?_
              show Steps p.tables e below (s₁.setTop (mkF m 92 #[.val (.ref a1), .val (.int p2), .val (.int (v2_7 p2 b0 b1 b2 b3 b4)), .val (.int (0 : Int32)), .val (.int (128 : Int32)), .val (.int (191 : Int32)), .unset, .unset, .unset] [])) _
              refine XS.iloadN X0.here hx rfl (hb hby d2_92) rfl ?_
              show Steps p.tables e below (s₁.setTop (mkF m 93 #[.val (.ref a1), .val (.int p2), .val (.int (v2_7 p2 b0 b1 b2 b3 b4)), .val (.int (0 : Int32)), .val (.int (128 : Int32)), .val (.int (191 : Int32)), .unset, .unset, .unset] [(.int (v2_7 p2 b0 b1 b2 b3 b4))])) _
              refine XS.sipush X0.here hx rfl (hb hby d2_93) ?_
              show Steps p.tables e below (s₁.setTop (mkF m 96 #[.val (.ref a1), .val (.int p2), .val (.int (v2_7 p2 b0 b1 b2 b3 b4)), .val (.int (0 : Int32)), .val (.int (128 : Int32)), .val (.int (191 : Int32)), .unset, .unset, .unset] [(.int (240 : Int32)), (.int (v2_7 p2 b0 b1 b2 b3 b4))])) _
              refine XS.icmpNo X0.here hx rfl (hb hby d2_96) rfl (flt c96_28).1 ?_
              show Steps p.tables e below (s₁.setTop (mkF m 99 #[.val (.ref a1), .val (.int p2), .val (.int (v2_7 p2 b0 b1 b2 b3 b4)), .val (.int (0 : Int32)), .val (.int (128 : Int32)), .val (.int (191 : Int32)), .unset, .unset, .unset] [])) _
              refine XS.iloadN X0.here hx rfl (hb hby d2_99) rfl ?_
              show Steps p.tables e below (s₁.setTop (mkF m 100 #[.val (.ref a1), .val (.int p2), .val (.int (v2_7 p2 b0 b1 b2 b3 b4)), .val (.int (0 : Int32)), .val (.int (128 : Int32)), .val (.int (191 : Int32)), .unset, .unset, .unset] [(.int (v2_7 p2 b0 b1 b2 b3 b4))])) _
              refine XS.sipush X0.here hx rfl (hb hby d2_100) ?_
              show Steps p.tables e below (s₁.setTop (mkF m 103 #[.val (.ref a1), .val (.int p2), .val (.int (v2_7 p2 b0 b1 b2 b3 b4)), .val (.int (0 : Int32)), .val (.int (128 : Int32)), .val (.int (191 : Int32)), .unset, .unset, .unset] [(.int (244 : Int32)), (.int (v2_7 p2 b0 b1 b2 b3 b4))])) _
              refine XS.icmpNo X0.here hx rfl (hb hby d2_103) rfl (flt c103_29).2.2.1 ?_
              show Steps p.tables e below (s₁.setTop (mkF m 106 #[.val (.ref a1), .val (.int p2), .val (.int (v2_7 p2 b0 b1 b2 b3 b4)), .val (.int (0 : Int32)), .val (.int (128 : Int32)), .val (.int (191 : Int32)), .unset, .unset, .unset] [])) _
              refine XS.iconst X0.here hx rfl (hb hby d2_106) ?_
              show Steps p.tables e below (s₁.setTop (mkF m 107 #[.val (.ref a1), .val (.int p2), .val (.int (v2_7 p2 b0 b1 b2 b3 b4)), .val (.int (0 : Int32)), .val (.int (128 : Int32)), .val (.int (191 : Int32)), .unset, .unset, .unset] [(.int (4 : Int32))])) _
              refine XS.istoreN X0.here hx rfl (hb hby d2_107) rfl (l' := #[.val (.ref a1), .val (.int p2), .val (.int (v2_7 p2 b0 b1 b2 b3 b4)), .val (.int (4 : Int32)), .val (.int (128 : Int32)), .val (.int (191 : Int32)), .unset, .unset, .unset]) rfl ?_
              show Steps p.tables e below (s₁.setTop (mkF m 108 #[.val (.ref a1), .val (.int p2), .val (.int (v2_7 p2 b0 b1 b2 b3 b4)), .val (.int (4 : Int32)), .val (.int (128 : Int32)), .val (.int (191 : Int32)), .unset, .unset, .unset] [])) _
              refine XS.iloadN X0.here hx rfl (hb hby d2_108) rfl ?_
              show Steps p.tables e below (s₁.setTop (mkF m 109 #[.val (.ref a1), .val (.int p2), .val (.int (v2_7 p2 b0 b1 b2 b3 b4)), .val (.int (4 : Int32)), .val (.int (128 : Int32)), .val (.int (191 : Int32)), .unset, .unset, .unset] [(.int (v2_7 p2 b0 b1 b2 b3 b4))])) _
              refine XS.sipush X0.here hx rfl (hb hby d2_109) ?_
              show Steps p.tables e below (s₁.setTop (mkF m 112 #[.val (.ref a1), .val (.int p2), .val (.int (v2_7 p2 b0 b1 b2 b3 b4)), .val (.int (4 : Int32)), .val (.int (128 : Int32)), .val (.int (191 : Int32)), .unset, .unset, .unset] [(.int (240 : Int32)), (.int (v2_7 p2 b0 b1 b2 b3 b4))])) _
              refine XS.icmpNo X0.here hx rfl (hb hby d2_112) rfl (teq c112_30).2 ?_
              show Steps p.tables e below (s₁.setTop (mkF m 115 #[.val (.ref a1), .val (.int p2), .val (.int (v2_7 p2 b0 b1 b2 b3 b4)), .val (.int (4 : Int32)), .val (.int (128 : Int32)), .val (.int (191 : Int32)), .unset, .unset, .unset] [])) _
              refine XS.sipush X0.here hx rfl (hb hby d2_115) ?_
              show Steps p.tables e below (s₁.setTop (mkF m 118 #[.val (.ref a1), .val (.int p2), .val (.int (v2_7 p2 b0 b1 b2 b3 b4)), .val (.int (4 : Int32)), .val (.int (128 : Int32)), .val (.int (191 : Int32)), .unset, .unset, .unset] [(.int (144 : Int32))])) _
              refine XS.goto X0.here hx rfl (pc0 := 118) (pc' := 123) rfl (hb hby d2_118) (by decide) (by decide) ?_
              show Steps p.tables e below (s₁.setTop (mkF m 123 #[.val (.ref a1), .val (.int p2), .val (.int (v2_7 p2 b0 b1 b2 b3 b4)), .val (.int (4 : Int32)), .val (.int (128 : Int32)), .val (.int (191 : Int32)), .unset, .unset, .unset] [(.int (144 : Int32))])) _
              refine XS.istore X0.here hx rfl (hb hby d2_123) rfl (l' := #[.val (.ref a1), .val (.int p2), .val (.int (v2_7 p2 b0 b1 b2 b3 b4)), .val (.int (4 : Int32)), .val (.int (144 : Int32)), .val (.int (191 : Int32)), .unset, .unset, .unset]) rfl ?_
              show Steps p.tables e below (s₁.setTop (mkF m 125 #[.val (.ref a1), .val (.int p2), .val (.int (v2_7 p2 b0 b1 b2 b3 b4)), .val (.int (4 : Int32)), .val (.int (144 : Int32)), .val (.int (191 : Int32)), .unset, .unset, .unset] [])) _
              refine XS.iloadN X0.here hx rfl (hb hby d2_125) rfl ?_
              show Steps p.tables e below (s₁.setTop (mkF m 126 #[.val (.ref a1), .val (.int p2), .val (.int (v2_7 p2 b0 b1 b2 b3 b4)), .val (.int (4 : Int32)), .val (.int (144 : Int32)), .val (.int (191 : Int32)), .unset, .unset, .unset] [(.int (v2_7 p2 b0 b1 b2 b3 b4))])) _
              refine XS.sipush X0.here hx rfl (hb hby d2_126) ?_
              show Steps p.tables e below (s₁.setTop (mkF m 129 #[.val (.ref a1), .val (.int p2), .val (.int (v2_7 p2 b0 b1 b2 b3 b4)), .val (.int (4 : Int32)), .val (.int (144 : Int32)), .val (.int (191 : Int32)), .unset, .unset, .unset] [(.int (244 : Int32)), (.int (v2_7 p2 b0 b1 b2 b3 b4))])) _
              refine XS.icmpYes X0.here hx rfl (pc0 := 129) (pc' := 138) rfl (hb hby d2_129) rfl (feq c129_31).2 (by decide) (by decide) ?_
              show Steps p.tables e below (s₁.setTop (mkF m 138 #[.val (.ref a1), .val (.int p2), .val (.int (v2_7 p2 b0 b1 b2 b3 b4)), .val (.int (4 : Int32)), .val (.int (144 : Int32)), .val (.int (191 : Int32)), .unset, .unset, .unset] [])) _
              refine XS.iload X0.here hx rfl (hb hby d2_138) rfl ?_
              show Steps p.tables e below (s₁.setTop (mkF m 140 #[.val (.ref a1), .val (.int p2), .val (.int (v2_7 p2 b0 b1 b2 b3 b4)), .val (.int (4 : Int32)), .val (.int (144 : Int32)), .val (.int (191 : Int32)), .unset, .unset, .unset] [(.int (191 : Int32))])) _
              refine XS.istore X0.here hx rfl (hb hby d2_140) rfl (l' := #[.val (.ref a1), .val (.int p2), .val (.int (v2_7 p2 b0 b1 b2 b3 b4)), .val (.int (4 : Int32)), .val (.int (144 : Int32)), .val (.int (191 : Int32)), .unset, .unset, .unset]) rfl ?_
              exact kt
            · by_cases c129_32 : (v2_7 p2 b0 b1 b2 b3 b4) = (244 : Int32)
              · rw [show j2_1_L3 p2 b0 b1 b2 b3 b4 = (4 : Int32) from by unfold j2_1_L3; rw [if_neg c24_22, if_pos c31_25, if_pos c50_27, if_neg c103_29, if_neg c112_30, if_pos c129_32]] at kt
                rw [show j2_1_L4 p2 b0 b1 b2 b3 b4 = (128 : Int32) from by unfold j2_1_L4; rw [if_neg c24_22, if_pos c31_25, if_pos c50_27, if_neg c103_29, if_neg c112_30, if_pos c129_32]] at kt
                rw [show j2_1_L5 p2 b0 b1 b2 b3 b4 = (143 : Int32) from by unfold j2_1_L5; rw [if_neg c24_22, if_pos c31_25, if_pos c50_27, if_neg c103_29, if_neg c112_30, if_pos c129_32]] at kt
                show Steps p.tables e below (s₁.setTop (mkF m 20 #[.val (.ref a1), .val (.int p2), .val (.int (v2_7 p2 b0 b1 b2 b3 b4)), .val (.int (0 : Int32)), .val (.int (128 : Int32)), .val (.int (191 : Int32)), .unset, .unset, .unset] [])) _
                refine XS.iloadN X0.here hx rfl (hb hby d2_20) rfl ?_
                show Steps p.tables e below (s₁.setTop (mkF m 21 #[.val (.ref a1), .val (.int p2), .val (.int (v2_7 p2 b0 b1 b2 b3 b4)), .val (.int (0 : Int32)), .val (.int (128 : Int32)), .val (.int (191 : Int32)), .unset, .unset, .unset] [(.int (v2_7 p2 b0 b1 b2 b3 b4))])) _
                refine XS.sipush X0.here hx rfl (hb hby d2_21) ?_
                show Steps p.tables e below (s₁.setTop (mkF m 24 #[.val (.ref a1), .val (.int p2), .val (.int (v2_7 p2 b0 b1 b2 b3 b4)), .val (.int (0 : Int32)), .val (.int (128 : Int32)), .val (.int (191 : Int32)), .unset, .unset, .unset] [(.int (194 : Int32)), (.int (v2_7 p2 b0 b1 b2 b3 b4))])) _
                refine XS.icmpNo X0.here hx rfl (hb hby d2_24) rfl (flt c24_22).1 ?_
                show Steps p.tables e below (s₁.setTop (mkF m 27 #[.val (.ref a1), .val (.int p2), .val (.int (v2_7 p2 b0 b1 b2 b3 b4)), .val (.int (0 : Int32)), .val (.int (128 : Int32)), .val (.int (191 : Int32)), .unset, .unset, .unset] [])) _
                refine XS.iloadN X0.here hx rfl (hb hby d2_27) rfl ?_
                show Steps p.tables e below (s₁.setTop (mkF m 28 #[.val (.ref a1), .val (.int p2), .val (.int (v2_7 p2 b0 b1 b2 b3 b4)), .val (.int (0 : Int32)), .val (.int (128 : Int32)), .val (.int (191 : Int32)), .unset, .unset, .unset] [(.int (v2_7 p2 b0 b1 b2 b3 b4))])) _
                refine XS.sipush X0.here hx rfl (hb hby d2_28) ?_
                show Steps p.tables e below (s₁.setTop (mkF m 31 #[.val (.ref a1), .val (.int p2), .val (.int (v2_7 p2 b0 b1 b2 b3 b4)), .val (.int (0 : Int32)), .val (.int (128 : Int32)), .val (.int (191 : Int32)), .unset, .unset, .unset] [(.int (223 : Int32)), (.int (v2_7 p2 b0 b1 b2 b3 b4))])) _
                refine XS.icmpYes X0.here hx rfl (pc0 := 31) (pc' := 39) rfl (hb hby d2_31) rfl (tlt c31_25).2.2.1 (by decide) (by decide) ?_
                show Steps p.tables e below (s₁.setTop (mkF m 39 #[.val (.ref a1), .val (.int p2), .val (.int (v2_7 p2 b0 b1 b2 b3 b4)), .val (.int (0 : Int32)), .val (.int (128 : Int32)), .val (.int (191 : Int32)), .unset, .unset, .unset] [])) _
                refine XS.iloadN X0.here hx rfl (hb hby d2_39) rfl ?_
                show Steps p.tables e below (s₁.setTop (mkF m 40 #[.val (.ref a1), .val (.int p2), .val (.int (v2_7 p2 b0 b1 b2 b3 b4)), .val (.int (0 : Int32)), .val (.int (128 : Int32)), .val (.int (191 : Int32)), .unset, .unset, .unset] [(.int (v2_7 p2 b0 b1 b2 b3 b4))])) _
                refine XS.sipush X0.here hx rfl (hb hby d2_40) ?_
                show Steps p.tables e below (s₁.setTop (mkF m 43 #[.val (.ref a1), .val (.int p2), .val (.int (v2_7 p2 b0 b1 b2 b3 b4)), .val (.int (0 : Int32)), .val (.int (128 : Int32)), .val (.int (191 : Int32)), .unset, .unset, .unset] [(.int (224 : Int32)), (.int (v2_7 p2 b0 b1 b2 b3 b4))])) _
                refine XS.icmpNo X0.here hx rfl (hb hby d2_43) rfl (flt c43_26).1 ?_
                show Steps p.tables e below (s₁.setTop (mkF m 46 #[.val (.ref a1), .val (.int p2), .val (.int (v2_7 p2 b0 b1 b2 b3 b4)), .val (.int (0 : Int32)), .val (.int (128 : Int32)), .val (.int (191 : Int32)), .unset, .unset, .unset] [])) _
                refine XS.iloadN X0.here hx rfl (hb hby d2_46) rfl ?_
                show Steps p.tables e below (s₁.setTop (mkF m 47 #[.val (.ref a1), .val (.int p2), .val (.int (v2_7 p2 b0 b1 b2 b3 b4)), .val (.int (0 : Int32)), .val (.int (128 : Int32)), .val (.int (191 : Int32)), .unset, .unset, .unset] [(.int (v2_7 p2 b0 b1 b2 b3 b4))])) _
                refine XS.sipush X0.here hx rfl (hb hby d2_47) ?_
                show Steps p.tables e below (s₁.setTop (mkF m 50 #[.val (.ref a1), .val (.int p2), .val (.int (v2_7 p2 b0 b1 b2 b3 b4)), .val (.int (0 : Int32)), .val (.int (128 : Int32)), .val (.int (191 : Int32)), .unset, .unset, .unset] [(.int (239 : Int32)), (.int (v2_7 p2 b0 b1 b2 b3 b4))])) _
                refine XS.icmpYes X0.here hx rfl (pc0 := 50) (pc' := 92) rfl (hb hby d2_50) rfl (tlt c50_27).2.2.1 (by decide) (by decide) ?_
                show Steps p.tables e below (s₁.setTop (mkF m 92 #[.val (.ref a1), .val (.int p2), .val (.int (v2_7 p2 b0 b1 b2 b3 b4)), .val (.int (0 : Int32)), .val (.int (128 : Int32)), .val (.int (191 : Int32)), .unset, .unset, .unset] [])) _
                refine XS.iloadN X0.here hx rfl (hb hby d2_92) rfl ?_
                show Steps p.tables e below (s₁.setTop (mkF m 93 #[.val (.ref a1), .val (.int p2), .val (.int (v2_7 p2 b0 b1 b2 b3 b4)), .val (.int (0 : Int32)), .val (.int (128 : Int32)), .val (.int (191 : Int32)), .unset, .unset, .unset] [(.int (v2_7 p2 b0 b1 b2 b3 b4))])) _
                refine XS.sipush X0.here hx rfl (hb hby d2_93) ?_
                show Steps p.tables e below (s₁.setTop (mkF m 96 #[.val (.ref a1), .val (.int p2), .val (.int (v2_7 p2 b0 b1 b2 b3 b4)), .val (.int (0 : Int32)), .val (.int (128 : Int32)), .val (.int (191 : Int32)), .unset, .unset, .unset] [(.int (240 : Int32)), (.int (v2_7 p2 b0 b1 b2 b3 b4))])) _
                refine XS.icmpNo X0.here hx rfl (hb hby d2_96) rfl (flt c96_28).1 ?_
                show Steps p.tables e below (s₁.setTop (mkF m 99 #[.val (.ref a1), .val (.int p2), .val (.int (v2_7 p2 b0 b1 b2 b3 b4)), .val (.int (0 : Int32)), .val (.int (128 : Int32)), .val (.int (191 : Int32)), .unset, .unset, .unset] [])) _
                refine XS.iloadN X0.here hx rfl (hb hby d2_99) rfl ?_
                show Steps p.tables e below (s₁.setTop (mkF m 100 #[.val (.ref a1), .val (.int p2), .val (.int (v2_7 p2 b0 b1 b2 b3 b4)), .val (.int (0 : Int32)), .val (.int (128 : Int32)), .val (.int (191 : Int32)), .unset, .unset, .unset] [(.int (v2_7 p2 b0 b1 b2 b3 b4))])) _
                refine XS.sipush X0.here hx rfl (hb hby d2_100) ?_
                show Steps p.tables e below (s₁.setTop (mkF m 103 #[.val (.ref a1), .val (.int p2), .val (.int (v2_7 p2 b0 b1 b2 b3 b4)), .val (.int (0 : Int32)), .val (.int (128 : Int32)), .val (.int (191 : Int32)), .unset, .unset, .unset] [(.int (244 : Int32)), (.int (v2_7 p2 b0 b1 b2 b3 b4))])) _
                refine XS.icmpNo X0.here hx rfl (hb hby d2_103) rfl (flt c103_29).2.2.1 ?_
                show Steps p.tables e below (s₁.setTop (mkF m 106 #[.val (.ref a1), .val (.int p2), .val (.int (v2_7 p2 b0 b1 b2 b3 b4)), .val (.int (0 : Int32)), .val (.int (128 : Int32)), .val (.int (191 : Int32)), .unset, .unset, .unset] [])) _
                refine XS.iconst X0.here hx rfl (hb hby d2_106) ?_
                show Steps p.tables e below (s₁.setTop (mkF m 107 #[.val (.ref a1), .val (.int p2), .val (.int (v2_7 p2 b0 b1 b2 b3 b4)), .val (.int (0 : Int32)), .val (.int (128 : Int32)), .val (.int (191 : Int32)), .unset, .unset, .unset] [(.int (4 : Int32))])) _
                refine XS.istoreN X0.here hx rfl (hb hby d2_107) rfl (l' := #[.val (.ref a1), .val (.int p2), .val (.int (v2_7 p2 b0 b1 b2 b3 b4)), .val (.int (4 : Int32)), .val (.int (128 : Int32)), .val (.int (191 : Int32)), .unset, .unset, .unset]) rfl ?_
                show Steps p.tables e below (s₁.setTop (mkF m 108 #[.val (.ref a1), .val (.int p2), .val (.int (v2_7 p2 b0 b1 b2 b3 b4)), .val (.int (4 : Int32)), .val (.int (128 : Int32)), .val (.int (191 : Int32)), .unset, .unset, .unset] [])) _
                refine XS.iloadN X0.here hx rfl (hb hby d2_108) rfl ?_
                show Steps p.tables e below (s₁.setTop (mkF m 109 #[.val (.ref a1), .val (.int p2), .val (.int (v2_7 p2 b0 b1 b2 b3 b4)), .val (.int (4 : Int32)), .val (.int (128 : Int32)), .val (.int (191 : Int32)), .unset, .unset, .unset] [(.int (v2_7 p2 b0 b1 b2 b3 b4))])) _
                refine XS.sipush X0.here hx rfl (hb hby d2_109) ?_
                show Steps p.tables e below (s₁.setTop (mkF m 112 #[.val (.ref a1), .val (.int p2), .val (.int (v2_7 p2 b0 b1 b2 b3 b4)), .val (.int (4 : Int32)), .val (.int (128 : Int32)), .val (.int (191 : Int32)), .unset, .unset, .unset] [(.int (240 : Int32)), (.int (v2_7 p2 b0 b1 b2 b3 b4))])) _
                refine XS.icmpYes X0.here hx rfl (pc0 := 112) (pc' := 121) rfl (hb hby d2_112) rfl (feq c112_30).2 (by decide) (by decide) ?_
                show Steps p.tables e below (s₁.setTop (mkF m 121 #[.val (.ref a1), .val (.int p2), .val (.int (v2_7 p2 b0 b1 b2 b3 b4)), .val (.int (4 : Int32)), .val (.int (128 : Int32)), .val (.int (191 : Int32)), .unset, .unset, .unset] [])) _
                refine XS.iload X0.here hx rfl (hb hby d2_121) rfl ?_
                show Steps p.tables e below (s₁.setTop (mkF m 123 #[.val (.ref a1), .val (.int p2), .val (.int (v2_7 p2 b0 b1 b2 b3 b4)), .val (.int (4 : Int32)), .val (.int (128 : Int32)), .val (.int (191 : Int32)), .unset, .unset, .unset] [(.int (128 : Int32))])) _
                refine XS.istore X0.here hx rfl (hb hby d2_123) rfl (l' := #[.val (.ref a1), .val (.int p2), .val (.int (v2_7 p2 b0 b1 b2 b3 b4)), .val (.int (4 : Int32)), .val (.int (128 : Int32)), .val (.int (191 : Int32)), .unset, .unset, .unset]) rfl ?_
                show Steps p.tables e below (s₁.setTop (mkF m 125 #[.val (.ref a1), .val (.int p2), .val (.int (v2_7 p2 b0 b1 b2 b3 b4)), .val (.int (4 : Int32)), .val (.int (128 : Int32)), .val (.int (191 : Int32)), .unset, .unset, .unset] [])) _
                refine XS.iloadN X0.here hx rfl (hb hby d2_125) rfl ?_
                show Steps p.tables e below (s₁.setTop (mkF m 126 #[.val (.ref a1), .val (.int p2), .val (.int (v2_7 p2 b0 b1 b2 b3 b4)), .val (.int (4 : Int32)), .val (.int (128 : Int32)), .val (.int (191 : Int32)), .unset, .unset, .unset] [(.int (v2_7 p2 b0 b1 b2 b3 b4))])) _
                refine XS.sipush X0.here hx rfl (hb hby d2_126) ?_
                show Steps p.tables e below (s₁.setTop (mkF m 129 #[.val (.ref a1), .val (.int p2), .val (.int (v2_7 p2 b0 b1 b2 b3 b4)), .val (.int (4 : Int32)), .val (.int (128 : Int32)), .val (.int (191 : Int32)), .unset, .unset, .unset] [(.int (244 : Int32)), (.int (v2_7 p2 b0 b1 b2 b3 b4))])) _
                refine XS.icmpNo X0.here hx rfl (hb hby d2_129) rfl (teq c129_32).2 ?_
                show Steps p.tables e below (s₁.setTop (mkF m 132 #[.val (.ref a1), .val (.int p2), .val (.int (v2_7 p2 b0 b1 b2 b3 b4)), .val (.int (4 : Int32)), .val (.int (128 : Int32)), .val (.int (191 : Int32)), .unset, .unset, .unset] [])) _
                refine XS.sipush X0.here hx rfl (hb hby d2_132) ?_
                show Steps p.tables e below (s₁.setTop (mkF m 135 #[.val (.ref a1), .val (.int p2), .val (.int (v2_7 p2 b0 b1 b2 b3 b4)), .val (.int (4 : Int32)), .val (.int (128 : Int32)), .val (.int (191 : Int32)), .unset, .unset, .unset] [(.int (143 : Int32))])) _
                refine XS.goto X0.here hx rfl (pc0 := 135) (pc' := 140) rfl (hb hby d2_135) (by decide) (by decide) ?_
                show Steps p.tables e below (s₁.setTop (mkF m 140 #[.val (.ref a1), .val (.int p2), .val (.int (v2_7 p2 b0 b1 b2 b3 b4)), .val (.int (4 : Int32)), .val (.int (128 : Int32)), .val (.int (191 : Int32)), .unset, .unset, .unset] [(.int (143 : Int32))])) _
                refine XS.istore X0.here hx rfl (hb hby d2_140) rfl (l' := #[.val (.ref a1), .val (.int p2), .val (.int (v2_7 p2 b0 b1 b2 b3 b4)), .val (.int (4 : Int32)), .val (.int (128 : Int32)), .val (.int (143 : Int32)), .unset, .unset, .unset]) rfl ?_
                exact kt
              · rw [show j2_1_L3 p2 b0 b1 b2 b3 b4 = (4 : Int32) from by unfold j2_1_L3; rw [if_neg c24_22, if_pos c31_25, if_pos c50_27, if_neg c103_29, if_neg c112_30, if_neg c129_32]] at kt
                rw [show j2_1_L4 p2 b0 b1 b2 b3 b4 = (128 : Int32) from by unfold j2_1_L4; rw [if_neg c24_22, if_pos c31_25, if_pos c50_27, if_neg c103_29, if_neg c112_30, if_neg c129_32]] at kt
                rw [show j2_1_L5 p2 b0 b1 b2 b3 b4 = (191 : Int32) from by unfold j2_1_L5; rw [if_neg c24_22, if_pos c31_25, if_pos c50_27, if_neg c103_29, if_neg c112_30, if_neg c129_32]] at kt
                show Steps p.tables e below (s₁.setTop (mkF m 20 #[.val (.ref a1), .val (.int p2), .val (.int (v2_7 p2 b0 b1 b2 b3 b4)), .val (.int (0 : Int32)), .val (.int (128 : Int32)), .val (.int (191 : Int32)), .unset, .unset, .unset] [])) _
                refine XS.iloadN X0.here hx rfl (hb hby d2_20) rfl ?_
                show Steps p.tables e below (s₁.setTop (mkF m 21 #[.val (.ref a1), .val (.int p2), .val (.int (v2_7 p2 b0 b1 b2 b3 b4)), .val (.int (0 : Int32)), .val (.int (128 : Int32)), .val (.int (191 : Int32)), .unset, .unset, .unset] [(.int (v2_7 p2 b0 b1 b2 b3 b4))])) _
                refine XS.sipush X0.here hx rfl (hb hby d2_21) ?_
                show Steps p.tables e below (s₁.setTop (mkF m 24 #[.val (.ref a1), .val (.int p2), .val (.int (v2_7 p2 b0 b1 b2 b3 b4)), .val (.int (0 : Int32)), .val (.int (128 : Int32)), .val (.int (191 : Int32)), .unset, .unset, .unset] [(.int (194 : Int32)), (.int (v2_7 p2 b0 b1 b2 b3 b4))])) _
                refine XS.icmpNo X0.here hx rfl (hb hby d2_24) rfl (flt c24_22).1 ?_
                show Steps p.tables e below (s₁.setTop (mkF m 27 #[.val (.ref a1), .val (.int p2), .val (.int (v2_7 p2 b0 b1 b2 b3 b4)), .val (.int (0 : Int32)), .val (.int (128 : Int32)), .val (.int (191 : Int32)), .unset, .unset, .unset] [])) _
                refine XS.iloadN X0.here hx rfl (hb hby d2_27) rfl ?_
                show Steps p.tables e below (s₁.setTop (mkF m 28 #[.val (.ref a1), .val (.int p2), .val (.int (v2_7 p2 b0 b1 b2 b3 b4)), .val (.int (0 : Int32)), .val (.int (128 : Int32)), .val (.int (191 : Int32)), .unset, .unset, .unset] [(.int (v2_7 p2 b0 b1 b2 b3 b4))])) _
                refine XS.sipush X0.here hx rfl (hb hby d2_28) ?_
                show Steps p.tables e below (s₁.setTop (mkF m 31 #[.val (.ref a1), .val (.int p2), .val (.int (v2_7 p2 b0 b1 b2 b3 b4)), .val (.int (0 : Int32)), .val (.int (128 : Int32)), .val (.int (191 : Int32)), .unset, .unset, .unset] [(.int (223 : Int32)), (.int (v2_7 p2 b0 b1 b2 b3 b4))])) _
                refine XS.icmpYes X0.here hx rfl (pc0 := 31) (pc' := 39) rfl (hb hby d2_31) rfl (tlt c31_25).2.2.1 (by decide) (by decide) ?_
                show Steps p.tables e below (s₁.setTop (mkF m 39 #[.val (.ref a1), .val (.int p2), .val (.int (v2_7 p2 b0 b1 b2 b3 b4)), .val (.int (0 : Int32)), .val (.int (128 : Int32)), .val (.int (191 : Int32)), .unset, .unset, .unset] [])) _
                refine XS.iloadN X0.here hx rfl (hb hby d2_39) rfl ?_
                show Steps p.tables e below (s₁.setTop (mkF m 40 #[.val (.ref a1), .val (.int p2), .val (.int (v2_7 p2 b0 b1 b2 b3 b4)), .val (.int (0 : Int32)), .val (.int (128 : Int32)), .val (.int (191 : Int32)), .unset, .unset, .unset] [(.int (v2_7 p2 b0 b1 b2 b3 b4))])) _
                refine XS.sipush X0.here hx rfl (hb hby d2_40) ?_
                show Steps p.tables e below (s₁.setTop (mkF m 43 #[.val (.ref a1), .val (.int p2), .val (.int (v2_7 p2 b0 b1 b2 b3 b4)), .val (.int (0 : Int32)), .val (.int (128 : Int32)), .val (.int (191 : Int32)), .unset, .unset, .unset] [(.int (224 : Int32)), (.int (v2_7 p2 b0 b1 b2 b3 b4))])) _
                refine XS.icmpNo X0.here hx rfl (hb hby d2_43) rfl (flt c43_26).1 ?_
                show Steps p.tables e below (s₁.setTop (mkF m 46 #[.val (.ref a1), .val (.int p2), .val (.int (v2_7 p2 b0 b1 b2 b3 b4)), .val (.int (0 : Int32)), .val (.int (128 : Int32)), .val (.int (191 : Int32)), .unset, .unset, .unset] [])) _
                refine XS.iloadN X0.here hx rfl (hb hby d2_46) rfl ?_
                show Steps p.tables e below (s₁.setTop (mkF m 47 #[.val (.ref a1), .val (.int p2), .val (.int (v2_7 p2 b0 b1 b2 b3 b4)), .val (.int (0 : Int32)), .val (.int (128 : Int32)), .val (.int (191 : Int32)), .unset, .unset, .unset] [(.int (v2_7 p2 b0 b1 b2 b3 b4))])) _
                refine XS.sipush X0.here hx rfl (hb hby d2_47) ?_
                show Steps p.tables e below (s₁.setTop (mkF m 50 #[.val (.ref a1), .val (.int p2), .val (.int (v2_7 p2 b0 b1 b2 b3 b4)), .val (.int (0 : Int32)), .val (.int (128 : Int32)), .val (.int (191 : Int32)), .unset, .unset, .unset] [(.int (239 : Int32)), (.int (v2_7 p2 b0 b1 b2 b3 b4))])) _
                refine XS.icmpYes X0.here hx rfl (pc0 := 50) (pc' := 92) rfl (hb hby d2_50) rfl (tlt c50_27).2.2.1 (by decide) (by decide) ?_
                show Steps p.tables e below (s₁.setTop (mkF m 92 #[.val (.ref a1), .val (.int p2), .val (.int (v2_7 p2 b0 b1 b2 b3 b4)), .val (.int (0 : Int32)), .val (.int (128 : Int32)), .val (.int (191 : Int32)), .unset, .unset, .unset] [])) _
                refine XS.iloadN X0.here hx rfl (hb hby d2_92) rfl ?_
                show Steps p.tables e below (s₁.setTop (mkF m 93 #[.val (.ref a1), .val (.int p2), .val (.int (v2_7 p2 b0 b1 b2 b3 b4)), .val (.int (0 : Int32)), .val (.int (128 : Int32)), .val (.int (191 : Int32)), .unset, .unset, .unset] [(.int (v2_7 p2 b0 b1 b2 b3 b4))])) _
                refine XS.sipush X0.here hx rfl (hb hby d2_93) ?_
                show Steps p.tables e below (s₁.setTop (mkF m 96 #[.val (.ref a1), .val (.int p2), .val (.int (v2_7 p2 b0 b1 b2 b3 b4)), .val (.int (0 : Int32)), .val (.int (128 : Int32)), .val (.int (191 : Int32)), .unset, .unset, .unset] [(.int (240 : Int32)), (.int (v2_7 p2 b0 b1 b2 b3 b4))])) _
                refine XS.icmpNo X0.here hx rfl (hb hby d2_96) rfl (flt c96_28).1 ?_
                show Steps p.tables e below (s₁.setTop (mkF m 99 #[.val (.ref a1), .val (.int p2), .val (.int (v2_7 p2 b0 b1 b2 b3 b4)), .val (.int (0 : Int32)), .val (.int (128 : Int32)), .val (.int (191 : Int32)), .unset, .unset, .unset] [])) _
                refine XS.iloadN X0.here hx rfl (hb hby d2_99) rfl ?_
                show Steps p.tables e below (s₁.setTop (mkF m 100 #[.val (.ref a1), .val (.int p2), .val (.int (v2_7 p2 b0 b1 b2 b3 b4)), .val (.int (0 : Int32)), .val (.int (128 : Int32)), .val (.int (191 : Int32)), .unset, .unset, .unset] [(.int (v2_7 p2 b0 b1 b2 b3 b4))])) _
                refine XS.sipush X0.here hx rfl (hb hby d2_100) ?_
                show Steps p.tables e below (s₁.setTop (mkF m 103 #[.val (.ref a1), .val (.int p2), .val (.int (v2_7 p2 b0 b1 b2 b3 b4)), .val (.int (0 : Int32)), .val (.int (128 : Int32)), .val (.int (191 : Int32)), .unset, .unset, .unset] [(.int (244 : Int32)), (.int (v2_7 p2 b0 b1 b2 b3 b4))])) _
                refine XS.icmpNo X0.here hx rfl (hb hby d2_103) rfl (flt c103_29).2.2.1 ?_
                show Steps p.tables e below (s₁.setTop (mkF m 106 #[.val (.ref a1), .val (.int p2), .val (.int (v2_7 p2 b0 b1 b2 b3 b4)), .val (.int (0 : Int32)), .val (.int (128 : Int32)), .val (.int (191 : Int32)), .unset, .unset, .unset] [])) _
                refine XS.iconst X0.here hx rfl (hb hby d2_106) ?_
                show Steps p.tables e below (s₁.setTop (mkF m 107 #[.val (.ref a1), .val (.int p2), .val (.int (v2_7 p2 b0 b1 b2 b3 b4)), .val (.int (0 : Int32)), .val (.int (128 : Int32)), .val (.int (191 : Int32)), .unset, .unset, .unset] [(.int (4 : Int32))])) _
                refine XS.istoreN X0.here hx rfl (hb hby d2_107) rfl (l' := #[.val (.ref a1), .val (.int p2), .val (.int (v2_7 p2 b0 b1 b2 b3 b4)), .val (.int (4 : Int32)), .val (.int (128 : Int32)), .val (.int (191 : Int32)), .unset, .unset, .unset]) rfl ?_
                show Steps p.tables e below (s₁.setTop (mkF m 108 #[.val (.ref a1), .val (.int p2), .val (.int (v2_7 p2 b0 b1 b2 b3 b4)), .val (.int (4 : Int32)), .val (.int (128 : Int32)), .val (.int (191 : Int32)), .unset, .unset, .unset] [])) _
                refine XS.iloadN X0.here hx rfl (hb hby d2_108) rfl ?_
                show Steps p.tables e below (s₁.setTop (mkF m 109 #[.val (.ref a1), .val (.int p2), .val (.int (v2_7 p2 b0 b1 b2 b3 b4)), .val (.int (4 : Int32)), .val (.int (128 : Int32)), .val (.int (191 : Int32)), .unset, .unset, .unset] [(.int (v2_7 p2 b0 b1 b2 b3 b4))])) _
                refine XS.sipush X0.here hx rfl (hb hby d2_109) ?_
                show Steps p.tables e below (s₁.setTop (mkF m 112 #[.val (.ref a1), .val (.int p2), .val (.int (v2_7 p2 b0 b1 b2 b3 b4)), .val (.int (4 : Int32)), .val (.int (128 : Int32)), .val (.int (191 : Int32)), .unset, .unset, .unset] [(.int (240 : Int32)), (.int (v2_7 p2 b0 b1 b2 b3 b4))])) _
                refine XS.icmpYes X0.here hx rfl (pc0 := 112) (pc' := 121) rfl (hb hby d2_112) rfl (feq c112_30).2 (by decide) (by decide) ?_
                show Steps p.tables e below (s₁.setTop (mkF m 121 #[.val (.ref a1), .val (.int p2), .val (.int (v2_7 p2 b0 b1 b2 b3 b4)), .val (.int (4 : Int32)), .val (.int (128 : Int32)), .val (.int (191 : Int32)), .unset, .unset, .unset] [])) _
                refine XS.iload X0.here hx rfl (hb hby d2_121) rfl ?_
                show Steps p.tables e below (s₁.setTop (mkF m 123 #[.val (.ref a1), .val (.int p2), .val (.int (v2_7 p2 b0 b1 b2 b3 b4)), .val (.int (4 : Int32)), .val (.int (128 : Int32)), .val (.int (191 : Int32)), .unset, .unset, .unset] [(.int (128 : Int32))])) _
                refine XS.istore X0.here hx rfl (hb hby d2_123) rfl (l' := #[.val (.ref a1), .val (.int p2), .val (.int (v2_7 p2 b0 b1 b2 b3 b4)), .val (.int (4 : Int32)), .val (.int (128 : Int32)), .val (.int (191 : Int32)), .unset, .unset, .unset]) rfl ?_
                show Steps p.tables e below (s₁.setTop (mkF m 125 #[.val (.ref a1), .val (.int p2), .val (.int (v2_7 p2 b0 b1 b2 b3 b4)), .val (.int (4 : Int32)), .val (.int (128 : Int32)), .val (.int (191 : Int32)), .unset, .unset, .unset] [])) _
                refine XS.iloadN X0.here hx rfl (hb hby d2_125) rfl ?_
                show Steps p.tables e below (s₁.setTop (mkF m 126 #[.val (.ref a1), .val (.int p2), .val (.int (v2_7 p2 b0 b1 b2 b3 b4)), .val (.int (4 : Int32)), .val (.int (128 : Int32)), .val (.int (191 : Int32)), .unset, .unset, .unset] [(.int (v2_7 p2 b0 b1 b2 b3 b4))])) _
                refine XS.sipush X0.here hx rfl (hb hby d2_126) ?_
                show Steps p.tables e below (s₁.setTop (mkF m 129 #[.val (.ref a1), .val (.int p2), .val (.int (v2_7 p2 b0 b1 b2 b3 b4)), .val (.int (4 : Int32)), .val (.int (128 : Int32)), .val (.int (191 : Int32)), .unset, .unset, .unset] [(.int (244 : Int32)), (.int (v2_7 p2 b0 b1 b2 b3 b4))])) _
                refine XS.icmpYes X0.here hx rfl (pc0 := 129) (pc' := 138) rfl (hb hby d2_129) rfl (feq c129_32).2 (by decide) (by decide) ?_
                show Steps p.tables e below (s₁.setTop (mkF m 138 #[.val (.ref a1), .val (.int p2), .val (.int (v2_7 p2 b0 b1 b2 b3 b4)), .val (.int (4 : Int32)), .val (.int (128 : Int32)), .val (.int (191 : Int32)), .unset, .unset, .unset] [])) _
                refine XS.iload X0.here hx rfl (hb hby d2_138) rfl ?_
                show Steps p.tables e below (s₁.setTop (mkF m 140 #[.val (.ref a1), .val (.int p2), .val (.int (v2_7 p2 b0 b1 b2 b3 b4)), .val (.int (4 : Int32)), .val (.int (128 : Int32)), .val (.int (191 : Int32)), .unset, .unset, .unset] [(.int (191 : Int32))])) _
                refine XS.istore X0.here hx rfl (hb hby d2_140) rfl (l' := #[.val (.ref a1), .val (.int p2), .val (.int (v2_7 p2 b0 b1 b2 b3 b4)), .val (.int (4 : Int32)), .val (.int (128 : Int32)), .val (.int (191 : Int32)), .unset, .unset, .unset]) rfl ?_
                exact kt
        · by_cases c59_33 : (v2_7 p2 b0 b1 b2 b3 b4) = (224 : Int32)
          · have c76_34 : ¬ ((v2_7 p2 b0 b1 b2 b3 b4) = (237 : Int32)) := own_eqw c59_33 (by decide)
            rw [show j2_1_L3 p2 b0 b1 b2 b3 b4 = (3 : Int32) from by unfold j2_1_L3; rw [if_neg c24_22, if_pos c31_25, if_neg c50_27, if_pos c59_33]] at kt
            rw [show j2_1_L4 p2 b0 b1 b2 b3 b4 = (160 : Int32) from by unfold j2_1_L4; rw [if_neg c24_22, if_pos c31_25, if_neg c50_27, if_pos c59_33]] at kt
            rw [show j2_1_L5 p2 b0 b1 b2 b3 b4 = (191 : Int32) from by unfold j2_1_L5; rw [if_neg c24_22, if_pos c31_25, if_neg c50_27, if_pos c59_33]] at kt
            show Steps p.tables e below (s₁.setTop (mkF m 20 #[.val (.ref a1), .val (.int p2), .val (.int (v2_7 p2 b0 b1 b2 b3 b4)), .val (.int (0 : Int32)), .val (.int (128 : Int32)), .val (.int (191 : Int32)), .unset, .unset, .unset] [])) _
            refine XS.iloadN X0.here hx rfl (hb hby d2_20) rfl ?_
            show Steps p.tables e below (s₁.setTop (mkF m 21 #[.val (.ref a1), .val (.int p2), .val (.int (v2_7 p2 b0 b1 b2 b3 b4)), .val (.int (0 : Int32)), .val (.int (128 : Int32)), .val (.int (191 : Int32)), .unset, .unset, .unset] [(.int (v2_7 p2 b0 b1 b2 b3 b4))])) _
            refine XS.sipush X0.here hx rfl (hb hby d2_21) ?_
            show Steps p.tables e below (s₁.setTop (mkF m 24 #[.val (.ref a1), .val (.int p2), .val (.int (v2_7 p2 b0 b1 b2 b3 b4)), .val (.int (0 : Int32)), .val (.int (128 : Int32)), .val (.int (191 : Int32)), .unset, .unset, .unset] [(.int (194 : Int32)), (.int (v2_7 p2 b0 b1 b2 b3 b4))])) _
            refine XS.icmpNo X0.here hx rfl (hb hby d2_24) rfl (flt c24_22).1 ?_
            show Steps p.tables e below (s₁.setTop (mkF m 27 #[.val (.ref a1), .val (.int p2), .val (.int (v2_7 p2 b0 b1 b2 b3 b4)), .val (.int (0 : Int32)), .val (.int (128 : Int32)), .val (.int (191 : Int32)), .unset, .unset, .unset] [])) _
            refine XS.iloadN X0.here hx rfl (hb hby d2_27) rfl ?_
            show Steps p.tables e below (s₁.setTop (mkF m 28 #[.val (.ref a1), .val (.int p2), .val (.int (v2_7 p2 b0 b1 b2 b3 b4)), .val (.int (0 : Int32)), .val (.int (128 : Int32)), .val (.int (191 : Int32)), .unset, .unset, .unset] [(.int (v2_7 p2 b0 b1 b2 b3 b4))])) _
            refine XS.sipush X0.here hx rfl (hb hby d2_28) ?_
            show Steps p.tables e below (s₁.setTop (mkF m 31 #[.val (.ref a1), .val (.int p2), .val (.int (v2_7 p2 b0 b1 b2 b3 b4)), .val (.int (0 : Int32)), .val (.int (128 : Int32)), .val (.int (191 : Int32)), .unset, .unset, .unset] [(.int (223 : Int32)), (.int (v2_7 p2 b0 b1 b2 b3 b4))])) _
            refine XS.icmpYes X0.here hx rfl (pc0 := 31) (pc' := 39) rfl (hb hby d2_31) rfl (tlt c31_25).2.2.1 (by decide) (by decide) ?_
            show Steps p.tables e below (s₁.setTop (mkF m 39 #[.val (.ref a1), .val (.int p2), .val (.int (v2_7 p2 b0 b1 b2 b3 b4)), .val (.int (0 : Int32)), .val (.int (128 : Int32)), .val (.int (191 : Int32)), .unset, .unset, .unset] [])) _
            refine XS.iloadN X0.here hx rfl (hb hby d2_39) rfl ?_
            show Steps p.tables e below (s₁.setTop (mkF m 40 #[.val (.ref a1), .val (.int p2), .val (.int (v2_7 p2 b0 b1 b2 b3 b4)), .val (.int (0 : Int32)), .val (.int (128 : Int32)), .val (.int (191 : Int32)), .unset, .unset, .unset] [(.int (v2_7 p2 b0 b1 b2 b3 b4))])) _
            refine XS.sipush X0.here hx rfl (hb hby d2_40) ?_
            show Steps p.tables e below (s₁.setTop (mkF m 43 #[.val (.ref a1), .val (.int p2), .val (.int (v2_7 p2 b0 b1 b2 b3 b4)), .val (.int (0 : Int32)), .val (.int (128 : Int32)), .val (.int (191 : Int32)), .unset, .unset, .unset] [(.int (224 : Int32)), (.int (v2_7 p2 b0 b1 b2 b3 b4))])) _
            refine XS.icmpNo X0.here hx rfl (hb hby d2_43) rfl (flt c43_26).1 ?_
            show Steps p.tables e below (s₁.setTop (mkF m 46 #[.val (.ref a1), .val (.int p2), .val (.int (v2_7 p2 b0 b1 b2 b3 b4)), .val (.int (0 : Int32)), .val (.int (128 : Int32)), .val (.int (191 : Int32)), .unset, .unset, .unset] [])) _
            refine XS.iloadN X0.here hx rfl (hb hby d2_46) rfl ?_
            show Steps p.tables e below (s₁.setTop (mkF m 47 #[.val (.ref a1), .val (.int p2), .val (.int (v2_7 p2 b0 b1 b2 b3 b4)), .val (.int (0 : Int32)), .val (.int (128 : Int32)), .val (.int (191 : Int32)), .unset, .unset, .unset] [(.int (v2_7 p2 b0 b1 b2 b3 b4))])) _
            refine XS.sipush X0.here hx rfl (hb hby d2_47) ?_
            show Steps p.tables e below (s₁.setTop (mkF m 50 #[.val (.ref a1), .val (.int p2), .val (.int (v2_7 p2 b0 b1 b2 b3 b4)), .val (.int (0 : Int32)), .val (.int (128 : Int32)), .val (.int (191 : Int32)), .unset, .unset, .unset] [(.int (239 : Int32)), (.int (v2_7 p2 b0 b1 b2 b3 b4))])) _
            refine XS.icmpNo X0.here hx rfl (hb hby d2_50) rfl (flt c50_27).2.2.1 ?_
            show Steps p.tables e below (s₁.setTop (mkF m 53 #[.val (.ref a1), .val (.int p2), .val (.int (v2_7 p2 b0 b1 b2 b3 b4)), .val (.int (0 : Int32)), .val (.int (128 : Int32)), .val (.int (191 : Int32)), .unset, .unset, .unset] [])) _
            refine XS.iconst X0.here hx rfl (hb hby d2_53) ?_
            show Steps p.tables e below (s₁.setTop (mkF m 54 #[.val (.ref a1), .val (.int p2), .val (.int (v2_7 p2 b0 b1 b2 b3 b4)), .val (.int (0 : Int32)), .val (.int (128 : Int32)), .val (.int (191 : Int32)), .unset, .unset, .unset] [(.int (3 : Int32))])) _
            refine XS.istoreN X0.here hx rfl (hb hby d2_54) rfl (l' := #[.val (.ref a1), .val (.int p2), .val (.int (v2_7 p2 b0 b1 b2 b3 b4)), .val (.int (3 : Int32)), .val (.int (128 : Int32)), .val (.int (191 : Int32)), .unset, .unset, .unset]) rfl ?_
            show Steps p.tables e below (s₁.setTop (mkF m 55 #[.val (.ref a1), .val (.int p2), .val (.int (v2_7 p2 b0 b1 b2 b3 b4)), .val (.int (3 : Int32)), .val (.int (128 : Int32)), .val (.int (191 : Int32)), .unset, .unset, .unset] [])) _
            refine XS.iloadN X0.here hx rfl (hb hby d2_55) rfl ?_
            show Steps p.tables e below (s₁.setTop (mkF m 56 #[.val (.ref a1), .val (.int p2), .val (.int (v2_7 p2 b0 b1 b2 b3 b4)), .val (.int (3 : Int32)), .val (.int (128 : Int32)), .val (.int (191 : Int32)), .unset, .unset, .unset] [(.int (v2_7 p2 b0 b1 b2 b3 b4))])) _
            refine XS.sipush X0.here hx rfl (hb hby d2_56) ?_
            show Steps p.tables e below (s₁.setTop (mkF m 59 #[.val (.ref a1), .val (.int p2), .val (.int (v2_7 p2 b0 b1 b2 b3 b4)), .val (.int (3 : Int32)), .val (.int (128 : Int32)), .val (.int (191 : Int32)), .unset, .unset, .unset] [(.int (224 : Int32)), (.int (v2_7 p2 b0 b1 b2 b3 b4))])) _
            refine XS.icmpNo X0.here hx rfl (hb hby d2_59) rfl (teq c59_33).2 ?_
            show Steps p.tables e below (s₁.setTop (mkF m 62 #[.val (.ref a1), .val (.int p2), .val (.int (v2_7 p2 b0 b1 b2 b3 b4)), .val (.int (3 : Int32)), .val (.int (128 : Int32)), .val (.int (191 : Int32)), .unset, .unset, .unset] [])) _
            refine XS.sipush X0.here hx rfl (hb hby d2_62) ?_
            show Steps p.tables e below (s₁.setTop (mkF m 65 #[.val (.ref a1), .val (.int p2), .val (.int (v2_7 p2 b0 b1 b2 b3 b4)), .val (.int (3 : Int32)), .val (.int (128 : Int32)), .val (.int (191 : Int32)), .unset, .unset, .unset] [(.int (160 : Int32))])) _
            refine XS.goto X0.here hx rfl (pc0 := 65) (pc' := 70) rfl (hb hby d2_65) (by decide) (by decide) ?_
            show Steps p.tables e below (s₁.setTop (mkF m 70 #[.val (.ref a1), .val (.int p2), .val (.int (v2_7 p2 b0 b1 b2 b3 b4)), .val (.int (3 : Int32)), .val (.int (128 : Int32)), .val (.int (191 : Int32)), .unset, .unset, .unset] [(.int (160 : Int32))])) _
            refine XS.istore X0.here hx rfl (hb hby d2_70) rfl (l' := #[.val (.ref a1), .val (.int p2), .val (.int (v2_7 p2 b0 b1 b2 b3 b4)), .val (.int (3 : Int32)), .val (.int (160 : Int32)), .val (.int (191 : Int32)), .unset, .unset, .unset]) rfl ?_
            show Steps p.tables e below (s₁.setTop (mkF m 72 #[.val (.ref a1), .val (.int p2), .val (.int (v2_7 p2 b0 b1 b2 b3 b4)), .val (.int (3 : Int32)), .val (.int (160 : Int32)), .val (.int (191 : Int32)), .unset, .unset, .unset] [])) _
            refine XS.iloadN X0.here hx rfl (hb hby d2_72) rfl ?_
            show Steps p.tables e below (s₁.setTop (mkF m 73 #[.val (.ref a1), .val (.int p2), .val (.int (v2_7 p2 b0 b1 b2 b3 b4)), .val (.int (3 : Int32)), .val (.int (160 : Int32)), .val (.int (191 : Int32)), .unset, .unset, .unset] [(.int (v2_7 p2 b0 b1 b2 b3 b4))])) _
            refine XS.sipush X0.here hx rfl (hb hby d2_73) ?_
            show Steps p.tables e below (s₁.setTop (mkF m 76 #[.val (.ref a1), .val (.int p2), .val (.int (v2_7 p2 b0 b1 b2 b3 b4)), .val (.int (3 : Int32)), .val (.int (160 : Int32)), .val (.int (191 : Int32)), .unset, .unset, .unset] [(.int (237 : Int32)), (.int (v2_7 p2 b0 b1 b2 b3 b4))])) _
            refine XS.icmpYes X0.here hx rfl (pc0 := 76) (pc' := 85) rfl (hb hby d2_76) rfl (feq c76_34).2 (by decide) (by decide) ?_
            show Steps p.tables e below (s₁.setTop (mkF m 85 #[.val (.ref a1), .val (.int p2), .val (.int (v2_7 p2 b0 b1 b2 b3 b4)), .val (.int (3 : Int32)), .val (.int (160 : Int32)), .val (.int (191 : Int32)), .unset, .unset, .unset] [])) _
            refine XS.iload X0.here hx rfl (hb hby d2_85) rfl ?_
            show Steps p.tables e below (s₁.setTop (mkF m 87 #[.val (.ref a1), .val (.int p2), .val (.int (v2_7 p2 b0 b1 b2 b3 b4)), .val (.int (3 : Int32)), .val (.int (160 : Int32)), .val (.int (191 : Int32)), .unset, .unset, .unset] [(.int (191 : Int32))])) _
            refine XS.istore X0.here hx rfl (hb hby d2_87) rfl (l' := #[.val (.ref a1), .val (.int p2), .val (.int (v2_7 p2 b0 b1 b2 b3 b4)), .val (.int (3 : Int32)), .val (.int (160 : Int32)), .val (.int (191 : Int32)), .unset, .unset, .unset]) rfl ?_
            show Steps p.tables e below (s₁.setTop (mkF m 89 #[.val (.ref a1), .val (.int p2), .val (.int (v2_7 p2 b0 b1 b2 b3 b4)), .val (.int (3 : Int32)), .val (.int (160 : Int32)), .val (.int (191 : Int32)), .unset, .unset, .unset] [])) _
            refine XS.goto X0.here hx rfl (pc0 := 89) (pc' := 142) rfl (hb hby d2_89) (by decide) (by decide) ?_
            exact kt
          · by_cases c76_35 : (v2_7 p2 b0 b1 b2 b3 b4) = (237 : Int32)
            · rw [show j2_1_L3 p2 b0 b1 b2 b3 b4 = (3 : Int32) from by unfold j2_1_L3; rw [if_neg c24_22, if_pos c31_25, if_neg c50_27, if_neg c59_33, if_pos c76_35]] at kt
              rw [show j2_1_L4 p2 b0 b1 b2 b3 b4 = (128 : Int32) from by unfold j2_1_L4; rw [if_neg c24_22, if_pos c31_25, if_neg c50_27, if_neg c59_33, if_pos c76_35]] at kt
              rw [show j2_1_L5 p2 b0 b1 b2 b3 b4 = (159 : Int32) from by unfold j2_1_L5; rw [if_neg c24_22, if_pos c31_25, if_neg c50_27, if_neg c59_33, if_pos c76_35]] at kt
              show Steps p.tables e below (s₁.setTop (mkF m 20 #[.val (.ref a1), .val (.int p2), .val (.int (v2_7 p2 b0 b1 b2 b3 b4)), .val (.int (0 : Int32)), .val (.int (128 : Int32)), .val (.int (191 : Int32)), .unset, .unset, .unset] [])) _
              refine XS.iloadN X0.here hx rfl (hb hby d2_20) rfl ?_
              show Steps p.tables e below (s₁.setTop (mkF m 21 #[.val (.ref a1), .val (.int p2), .val (.int (v2_7 p2 b0 b1 b2 b3 b4)), .val (.int (0 : Int32)), .val (.int (128 : Int32)), .val (.int (191 : Int32)), .unset, .unset, .unset] [(.int (v2_7 p2 b0 b1 b2 b3 b4))])) _
              refine XS.sipush X0.here hx rfl (hb hby d2_21) ?_
              show Steps p.tables e below (s₁.setTop (mkF m 24 #[.val (.ref a1), .val (.int p2), .val (.int (v2_7 p2 b0 b1 b2 b3 b4)), .val (.int (0 : Int32)), .val (.int (128 : Int32)), .val (.int (191 : Int32)), .unset, .unset, .unset] [(.int (194 : Int32)), (.int (v2_7 p2 b0 b1 b2 b3 b4))])) _
              refine XS.icmpNo X0.here hx rfl (hb hby d2_24) rfl (flt c24_22).1 ?_
              show Steps p.tables e below (s₁.setTop (mkF m 27 #[.val (.ref a1), .val (.int p2), .val (.int (v2_7 p2 b0 b1 b2 b3 b4)), .val (.int (0 : Int32)), .val (.int (128 : Int32)), .val (.int (191 : Int32)), .unset, .unset, .unset] [])) _
              refine XS.iloadN X0.here hx rfl (hb hby d2_27) rfl ?_
              show Steps p.tables e below (s₁.setTop (mkF m 28 #[.val (.ref a1), .val (.int p2), .val (.int (v2_7 p2 b0 b1 b2 b3 b4)), .val (.int (0 : Int32)), .val (.int (128 : Int32)), .val (.int (191 : Int32)), .unset, .unset, .unset] [(.int (v2_7 p2 b0 b1 b2 b3 b4))])) _
              refine XS.sipush X0.here hx rfl (hb hby d2_28) ?_
              show Steps p.tables e below (s₁.setTop (mkF m 31 #[.val (.ref a1), .val (.int p2), .val (.int (v2_7 p2 b0 b1 b2 b3 b4)), .val (.int (0 : Int32)), .val (.int (128 : Int32)), .val (.int (191 : Int32)), .unset, .unset, .unset] [(.int (223 : Int32)), (.int (v2_7 p2 b0 b1 b2 b3 b4))])) _
              refine XS.icmpYes X0.here hx rfl (pc0 := 31) (pc' := 39) rfl (hb hby d2_31) rfl (tlt c31_25).2.2.1 (by decide) (by decide) ?_
              show Steps p.tables e below (s₁.setTop (mkF m 39 #[.val (.ref a1), .val (.int p2), .val (.int (v2_7 p2 b0 b1 b2 b3 b4)), .val (.int (0 : Int32)), .val (.int (128 : Int32)), .val (.int (191 : Int32)), .unset, .unset, .unset] [])) _
              refine XS.iloadN X0.here hx rfl (hb hby d2_39) rfl ?_
              show Steps p.tables e below (s₁.setTop (mkF m 40 #[.val (.ref a1), .val (.int p2), .val (.int (v2_7 p2 b0 b1 b2 b3 b4)), .val (.int (0 : Int32)), .val (.int (128 : Int32)), .val (.int (191 : Int32)), .unset, .unset, .unset] [(.int (v2_7 p2 b0 b1 b2 b3 b4))])) _
              refine XS.sipush X0.here hx rfl (hb hby d2_40) ?_
              show Steps p.tables e below (s₁.setTop (mkF m 43 #[.val (.ref a1), .val (.int p2), .val (.int (v2_7 p2 b0 b1 b2 b3 b4)), .val (.int (0 : Int32)), .val (.int (128 : Int32)), .val (.int (191 : Int32)), .unset, .unset, .unset] [(.int (224 : Int32)), (.int (v2_7 p2 b0 b1 b2 b3 b4))])) _
              refine XS.icmpNo X0.here hx rfl (hb hby d2_43) rfl (flt c43_26).1 ?_
              show Steps p.tables e below (s₁.setTop (mkF m 46 #[.val (.ref a1), .val (.int p2), .val (.int (v2_7 p2 b0 b1 b2 b3 b4)), .val (.int (0 : Int32)), .val (.int (128 : Int32)), .val (.int (191 : Int32)), .unset, .unset, .unset] [])) _
              refine XS.iloadN X0.here hx rfl (hb hby d2_46) rfl ?_
              show Steps p.tables e below (s₁.setTop (mkF m 47 #[.val (.ref a1), .val (.int p2), .val (.int (v2_7 p2 b0 b1 b2 b3 b4)), .val (.int (0 : Int32)), .val (.int (128 : Int32)), .val (.int (191 : Int32)), .unset, .unset, .unset] [(.int (v2_7 p2 b0 b1 b2 b3 b4))])) _
              refine XS.sipush X0.here hx rfl (hb hby d2_47) ?_
              show Steps p.tables e below (s₁.setTop (mkF m 50 #[.val (.ref a1), .val (.int p2), .val (.int (v2_7 p2 b0 b1 b2 b3 b4)), .val (.int (0 : Int32)), .val (.int (128 : Int32)), .val (.int (191 : Int32)), .unset, .unset, .unset] [(.int (239 : Int32)), (.int (v2_7 p2 b0 b1 b2 b3 b4))])) _
              refine XS.icmpNo X0.here hx rfl (hb hby d2_50) rfl (flt c50_27).2.2.1 ?_
              show Steps p.tables e below (s₁.setTop (mkF m 53 #[.val (.ref a1), .val (.int p2), .val (.int (v2_7 p2 b0 b1 b2 b3 b4)), .val (.int (0 : Int32)), .val (.int (128 : Int32)), .val (.int (191 : Int32)), .unset, .unset, .unset] [])) _
              refine XS.iconst X0.here hx rfl (hb hby d2_53) ?_
              show Steps p.tables e below (s₁.setTop (mkF m 54 #[.val (.ref a1), .val (.int p2), .val (.int (v2_7 p2 b0 b1 b2 b3 b4)), .val (.int (0 : Int32)), .val (.int (128 : Int32)), .val (.int (191 : Int32)), .unset, .unset, .unset] [(.int (3 : Int32))])) _
              refine XS.istoreN X0.here hx rfl (hb hby d2_54) rfl (l' := #[.val (.ref a1), .val (.int p2), .val (.int (v2_7 p2 b0 b1 b2 b3 b4)), .val (.int (3 : Int32)), .val (.int (128 : Int32)), .val (.int (191 : Int32)), .unset, .unset, .unset]) rfl ?_
              show Steps p.tables e below (s₁.setTop (mkF m 55 #[.val (.ref a1), .val (.int p2), .val (.int (v2_7 p2 b0 b1 b2 b3 b4)), .val (.int (3 : Int32)), .val (.int (128 : Int32)), .val (.int (191 : Int32)), .unset, .unset, .unset] [])) _
              refine XS.iloadN X0.here hx rfl (hb hby d2_55) rfl ?_
              show Steps p.tables e below (s₁.setTop (mkF m 56 #[.val (.ref a1), .val (.int p2), .val (.int (v2_7 p2 b0 b1 b2 b3 b4)), .val (.int (3 : Int32)), .val (.int (128 : Int32)), .val (.int (191 : Int32)), .unset, .unset, .unset] [(.int (v2_7 p2 b0 b1 b2 b3 b4))])) _
              refine XS.sipush X0.here hx rfl (hb hby d2_56) ?_
              show Steps p.tables e below (s₁.setTop (mkF m 59 #[.val (.ref a1), .val (.int p2), .val (.int (v2_7 p2 b0 b1 b2 b3 b4)), .val (.int (3 : Int32)), .val (.int (128 : Int32)), .val (.int (191 : Int32)), .unset, .unset, .unset] [(.int (224 : Int32)), (.int (v2_7 p2 b0 b1 b2 b3 b4))])) _
              refine XS.icmpYes X0.here hx rfl (pc0 := 59) (pc' := 68) rfl (hb hby d2_59) rfl (feq c59_33).2 (by decide) (by decide) ?_
              show Steps p.tables e below (s₁.setTop (mkF m 68 #[.val (.ref a1), .val (.int p2), .val (.int (v2_7 p2 b0 b1 b2 b3 b4)), .val (.int (3 : Int32)), .val (.int (128 : Int32)), .val (.int (191 : Int32)), .unset, .unset, .unset] [])) _
              refine XS.iload X0.here hx rfl (hb hby d2_68) rfl ?_
              show Steps p.tables e below (s₁.setTop (mkF m 70 #[.val (.ref a1), .val (.int p2), .val (.int (v2_7 p2 b0 b1 b2 b3 b4)), .val (.int (3 : Int32)), .val (.int (128 : Int32)), .val (.int (191 : Int32)), .unset, .unset, .unset] [(.int (128 : Int32))])) _
              refine XS.istore X0.here hx rfl (hb hby d2_70) rfl (l' := #[.val (.ref a1), .val (.int p2), .val (.int (v2_7 p2 b0 b1 b2 b3 b4)), .val (.int (3 : Int32)), .val (.int (128 : Int32)), .val (.int (191 : Int32)), .unset, .unset, .unset]) rfl ?_
              show Steps p.tables e below (s₁.setTop (mkF m 72 #[.val (.ref a1), .val (.int p2), .val (.int (v2_7 p2 b0 b1 b2 b3 b4)), .val (.int (3 : Int32)), .val (.int (128 : Int32)), .val (.int (191 : Int32)), .unset, .unset, .unset] [])) _
              refine XS.iloadN X0.here hx rfl (hb hby d2_72) rfl ?_
              show Steps p.tables e below (s₁.setTop (mkF m 73 #[.val (.ref a1), .val (.int p2), .val (.int (v2_7 p2 b0 b1 b2 b3 b4)), .val (.int (3 : Int32)), .val (.int (128 : Int32)), .val (.int (191 : Int32)), .unset, .unset, .unset] [(.int (v2_7 p2 b0 b1 b2 b3 b4))])) _
              refine XS.sipush X0.here hx rfl (hb hby d2_73) ?_
              show Steps p.tables e below (s₁.setTop (mkF m 76 #[.val (.ref a1), .val (.int p2), .val (.int (v2_7 p2 b0 b1 b2 b3 b4)), .val (.int (3 : Int32)), .val (.int (128 : Int32)), .val (.int (191 : Int32)), .unset, .unset, .unset] [(.int (237 : Int32)), (.int (v2_7 p2 b0 b1 b2 b3 b4))])) _
              refine XS.icmpNo X0.here hx rfl (hb hby d2_76) rfl (teq c76_35).2 ?_
              show Steps p.tables e below (s₁.setTop (mkF m 79 #[.val (.ref a1), .val (.int p2), .val (.int (v2_7 p2 b0 b1 b2 b3 b4)), .val (.int (3 : Int32)), .val (.int (128 : Int32)), .val (.int (191 : Int32)), .unset, .unset, .unset] [])) _
              refine XS.sipush X0.here hx rfl (hb hby d2_79) ?_
              show Steps p.tables e below (s₁.setTop (mkF m 82 #[.val (.ref a1), .val (.int p2), .val (.int (v2_7 p2 b0 b1 b2 b3 b4)), .val (.int (3 : Int32)), .val (.int (128 : Int32)), .val (.int (191 : Int32)), .unset, .unset, .unset] [(.int (159 : Int32))])) _
              refine XS.goto X0.here hx rfl (pc0 := 82) (pc' := 87) rfl (hb hby d2_82) (by decide) (by decide) ?_
              show Steps p.tables e below (s₁.setTop (mkF m 87 #[.val (.ref a1), .val (.int p2), .val (.int (v2_7 p2 b0 b1 b2 b3 b4)), .val (.int (3 : Int32)), .val (.int (128 : Int32)), .val (.int (191 : Int32)), .unset, .unset, .unset] [(.int (159 : Int32))])) _
              refine XS.istore X0.here hx rfl (hb hby d2_87) rfl (l' := #[.val (.ref a1), .val (.int p2), .val (.int (v2_7 p2 b0 b1 b2 b3 b4)), .val (.int (3 : Int32)), .val (.int (128 : Int32)), .val (.int (159 : Int32)), .unset, .unset, .unset]) rfl ?_
              show Steps p.tables e below (s₁.setTop (mkF m 89 #[.val (.ref a1), .val (.int p2), .val (.int (v2_7 p2 b0 b1 b2 b3 b4)), .val (.int (3 : Int32)), .val (.int (128 : Int32)), .val (.int (159 : Int32)), .unset, .unset, .unset] [])) _
              refine XS.goto X0.here hx rfl (pc0 := 89) (pc' := 142) rfl (hb hby d2_89) (by decide) (by decide) ?_
              exact kt
            · rw [show j2_1_L3 p2 b0 b1 b2 b3 b4 = (3 : Int32) from by unfold j2_1_L3; rw [if_neg c24_22, if_pos c31_25, if_neg c50_27, if_neg c59_33, if_neg c76_35]] at kt
              rw [show j2_1_L4 p2 b0 b1 b2 b3 b4 = (128 : Int32) from by unfold j2_1_L4; rw [if_neg c24_22, if_pos c31_25, if_neg c50_27, if_neg c59_33, if_neg c76_35]] at kt
              rw [show j2_1_L5 p2 b0 b1 b2 b3 b4 = (191 : Int32) from by unfold j2_1_L5; rw [if_neg c24_22, if_pos c31_25, if_neg c50_27, if_neg c59_33, if_neg c76_35]] at kt
              show Steps p.tables e below (s₁.setTop (mkF m 20 #[.val (.ref a1), .val (.int p2), .val (.int (v2_7 p2 b0 b1 b2 b3 b4)), .val (.int (0 : Int32)), .val (.int (128 : Int32)), .val (.int (191 : Int32)), .unset, .unset, .unset] [])) _
              refine XS.iloadN X0.here hx rfl (hb hby d2_20) rfl ?_
              show Steps p.tables e below (s₁.setTop (mkF m 21 #[.val (.ref a1), .val (.int p2), .val (.int (v2_7 p2 b0 b1 b2 b3 b4)), .val (.int (0 : Int32)), .val (.int (128 : Int32)), .val (.int (191 : Int32)), .unset, .unset, .unset] [(.int (v2_7 p2 b0 b1 b2 b3 b4))])) _
              refine XS.sipush X0.here hx rfl (hb hby d2_21) ?_
              show Steps p.tables e below (s₁.setTop (mkF m 24 #[.val (.ref a1), .val (.int p2), .val (.int (v2_7 p2 b0 b1 b2 b3 b4)), .val (.int (0 : Int32)), .val (.int (128 : Int32)), .val (.int (191 : Int32)), .unset, .unset, .unset] [(.int (194 : Int32)), (.int (v2_7 p2 b0 b1 b2 b3 b4))])) _
              refine XS.icmpNo X0.here hx rfl (hb hby d2_24) rfl (flt c24_22).1 ?_
              show Steps p.tables e below (s₁.setTop (mkF m 27 #[.val (.ref a1), .val (.int p2), .val (.int (v2_7 p2 b0 b1 b2 b3 b4)), .val (.int (0 : Int32)), .val (.int (128 : Int32)), .val (.int (191 : Int32)), .unset, .unset, .unset] [])) _
              refine XS.iloadN X0.here hx rfl (hb hby d2_27) rfl ?_
              show Steps p.tables e below (s₁.setTop (mkF m 28 #[.val (.ref a1), .val (.int p2), .val (.int (v2_7 p2 b0 b1 b2 b3 b4)), .val (.int (0 : Int32)), .val (.int (128 : Int32)), .val (.int (191 : Int32)), .unset, .unset, .unset] [(.int (v2_7 p2 b0 b1 b2 b3 b4))])) _
              refine XS.sipush X0.here hx rfl (hb hby d2_28) ?_
              show Steps p.tables e below (s₁.setTop (mkF m 31 #[.val (.ref a1), .val (.int p2), .val (.int (v2_7 p2 b0 b1 b2 b3 b4)), .val (.int (0 : Int32)), .val (.int (128 : Int32)), .val (.int (191 : Int32)), .unset, .unset, .unset] [(.int (223 : Int32)), (.int (v2_7 p2 b0 b1 b2 b3 b4))])) _
              refine XS.icmpYes X0.here hx rfl (pc0 := 31) (pc' := 39) rfl (hb hby d2_31) rfl (tlt c31_25).2.2.1 (by decide) (by decide) ?_
              show Steps p.tables e below (s₁.setTop (mkF m 39 #[.val (.ref a1), .val (.int p2), .val (.int (v2_7 p2 b0 b1 b2 b3 b4)), .val (.int (0 : Int32)), .val (.int (128 : Int32)), .val (.int (191 : Int32)), .unset, .unset, .unset] [])) _
              refine XS.iloadN X0.here hx rfl (hb hby d2_39) rfl ?_
              show Steps p.tables e below (s₁.setTop (mkF m 40 #[.val (.ref a1), .val (.int p2), .val (.int (v2_7 p2 b0 b1 b2 b3 b4)), .val (.int (0 : Int32)), .val (.int (128 : Int32)), .val (.int (191 : Int32)), .unset, .unset, .unset] [(.int (v2_7 p2 b0 b1 b2 b3 b4))])) _
              refine XS.sipush X0.here hx rfl (hb hby d2_40) ?_
              show Steps p.tables e below (s₁.setTop (mkF m 43 #[.val (.ref a1), .val (.int p2), .val (.int (v2_7 p2 b0 b1 b2 b3 b4)), .val (.int (0 : Int32)), .val (.int (128 : Int32)), .val (.int (191 : Int32)), .unset, .unset, .unset] [(.int (224 : Int32)), (.int (v2_7 p2 b0 b1 b2 b3 b4))])) _
              refine XS.icmpNo X0.here hx rfl (hb hby d2_43) rfl (flt c43_26).1 ?_
              show Steps p.tables e below (s₁.setTop (mkF m 46 #[.val (.ref a1), .val (.int p2), .val (.int (v2_7 p2 b0 b1 b2 b3 b4)), .val (.int (0 : Int32)), .val (.int (128 : Int32)), .val (.int (191 : Int32)), .unset, .unset, .unset] [])) _
              refine XS.iloadN X0.here hx rfl (hb hby d2_46) rfl ?_
              show Steps p.tables e below (s₁.setTop (mkF m 47 #[.val (.ref a1), .val (.int p2), .val (.int (v2_7 p2 b0 b1 b2 b3 b4)), .val (.int (0 : Int32)), .val (.int (128 : Int32)), .val (.int (191 : Int32)), .unset, .unset, .unset] [(.int (v2_7 p2 b0 b1 b2 b3 b4))])) _
              refine XS.sipush X0.here hx rfl (hb hby d2_47) ?_
              show Steps p.tables e below (s₁.setTop (mkF m 50 #[.val (.ref a1), .val (.int p2), .val (.int (v2_7 p2 b0 b1 b2 b3 b4)), .val (.int (0 : Int32)), .val (.int (128 : Int32)), .val (.int (191 : Int32)), .unset, .unset, .unset] [(.int (239 : Int32)), (.int (v2_7 p2 b0 b1 b2 b3 b4))])) _
              refine XS.icmpNo X0.here hx rfl (hb hby d2_50) rfl (flt c50_27).2.2.1 ?_
              show Steps p.tables e below (s₁.setTop (mkF m 53 #[.val (.ref a1), .val (.int p2), .val (.int (v2_7 p2 b0 b1 b2 b3 b4)), .val (.int (0 : Int32)), .val (.int (128 : Int32)), .val (.int (191 : Int32)), .unset, .unset, .unset] [])) _
              refine XS.iconst X0.here hx rfl (hb hby d2_53) ?_
              show Steps p.tables e below (s₁.setTop (mkF m 54 #[.val (.ref a1), .val (.int p2), .val (.int (v2_7 p2 b0 b1 b2 b3 b4)), .val (.int (0 : Int32)), .val (.int (128 : Int32)), .val (.int (191 : Int32)), .unset, .unset, .unset] [(.int (3 : Int32))])) _
              refine XS.istoreN X0.here hx rfl (hb hby d2_54) rfl (l' := #[.val (.ref a1), .val (.int p2), .val (.int (v2_7 p2 b0 b1 b2 b3 b4)), .val (.int (3 : Int32)), .val (.int (128 : Int32)), .val (.int (191 : Int32)), .unset, .unset, .unset]) rfl ?_
              show Steps p.tables e below (s₁.setTop (mkF m 55 #[.val (.ref a1), .val (.int p2), .val (.int (v2_7 p2 b0 b1 b2 b3 b4)), .val (.int (3 : Int32)), .val (.int (128 : Int32)), .val (.int (191 : Int32)), .unset, .unset, .unset] [])) _
              refine XS.iloadN X0.here hx rfl (hb hby d2_55) rfl ?_
              show Steps p.tables e below (s₁.setTop (mkF m 56 #[.val (.ref a1), .val (.int p2), .val (.int (v2_7 p2 b0 b1 b2 b3 b4)), .val (.int (3 : Int32)), .val (.int (128 : Int32)), .val (.int (191 : Int32)), .unset, .unset, .unset] [(.int (v2_7 p2 b0 b1 b2 b3 b4))])) _
              refine XS.sipush X0.here hx rfl (hb hby d2_56) ?_
              show Steps p.tables e below (s₁.setTop (mkF m 59 #[.val (.ref a1), .val (.int p2), .val (.int (v2_7 p2 b0 b1 b2 b3 b4)), .val (.int (3 : Int32)), .val (.int (128 : Int32)), .val (.int (191 : Int32)), .unset, .unset, .unset] [(.int (224 : Int32)), (.int (v2_7 p2 b0 b1 b2 b3 b4))])) _
              refine XS.icmpYes X0.here hx rfl (pc0 := 59) (pc' := 68) rfl (hb hby d2_59) rfl (feq c59_33).2 (by decide) (by decide) ?_
              show Steps p.tables e below (s₁.setTop (mkF m 68 #[.val (.ref a1), .val (.int p2), .val (.int (v2_7 p2 b0 b1 b2 b3 b4)), .val (.int (3 : Int32)), .val (.int (128 : Int32)), .val (.int (191 : Int32)), .unset, .unset, .unset] [])) _
              refine XS.iload X0.here hx rfl (hb hby d2_68) rfl ?_
              show Steps p.tables e below (s₁.setTop (mkF m 70 #[.val (.ref a1), .val (.int p2), .val (.int (v2_7 p2 b0 b1 b2 b3 b4)), .val (.int (3 : Int32)), .val (.int (128 : Int32)), .val (.int (191 : Int32)), .unset, .unset, .unset] [(.int (128 : Int32))])) _
              refine XS.istore X0.here hx rfl (hb hby d2_70) rfl (l' := #[.val (.ref a1), .val (.int p2), .val (.int (v2_7 p2 b0 b1 b2 b3 b4)), .val (.int (3 : Int32)), .val (.int (128 : Int32)), .val (.int (191 : Int32)), .unset, .unset, .unset]) rfl ?_
              show Steps p.tables e below (s₁.setTop (mkF m 72 #[.val (.ref a1), .val (.int p2), .val (.int (v2_7 p2 b0 b1 b2 b3 b4)), .val (.int (3 : Int32)), .val (.int (128 : Int32)), .val (.int (191 : Int32)), .unset, .unset, .unset] [])) _
              refine XS.iloadN X0.here hx rfl (hb hby d2_72) rfl ?_
              show Steps p.tables e below (s₁.setTop (mkF m 73 #[.val (.ref a1), .val (.int p2), .val (.int (v2_7 p2 b0 b1 b2 b3 b4)), .val (.int (3 : Int32)), .val (.int (128 : Int32)), .val (.int (191 : Int32)), .unset, .unset, .unset] [(.int (v2_7 p2 b0 b1 b2 b3 b4))])) _
              refine XS.sipush X0.here hx rfl (hb hby d2_73) ?_
              show Steps p.tables e below (s₁.setTop (mkF m 76 #[.val (.ref a1), .val (.int p2), .val (.int (v2_7 p2 b0 b1 b2 b3 b4)), .val (.int (3 : Int32)), .val (.int (128 : Int32)), .val (.int (191 : Int32)), .unset, .unset, .unset] [(.int (237 : Int32)), (.int (v2_7 p2 b0 b1 b2 b3 b4))])) _
              refine XS.icmpYes X0.here hx rfl (pc0 := 76) (pc' := 85) rfl (hb hby d2_76) rfl (feq c76_35).2 (by decide) (by decide) ?_
              show Steps p.tables e below (s₁.setTop (mkF m 85 #[.val (.ref a1), .val (.int p2), .val (.int (v2_7 p2 b0 b1 b2 b3 b4)), .val (.int (3 : Int32)), .val (.int (128 : Int32)), .val (.int (191 : Int32)), .unset, .unset, .unset] [])) _
              refine XS.iload X0.here hx rfl (hb hby d2_85) rfl ?_
              show Steps p.tables e below (s₁.setTop (mkF m 87 #[.val (.ref a1), .val (.int p2), .val (.int (v2_7 p2 b0 b1 b2 b3 b4)), .val (.int (3 : Int32)), .val (.int (128 : Int32)), .val (.int (191 : Int32)), .unset, .unset, .unset] [(.int (191 : Int32))])) _
              refine XS.istore X0.here hx rfl (hb hby d2_87) rfl (l' := #[.val (.ref a1), .val (.int p2), .val (.int (v2_7 p2 b0 b1 b2 b3 b4)), .val (.int (3 : Int32)), .val (.int (128 : Int32)), .val (.int (191 : Int32)), .unset, .unset, .unset]) rfl ?_
              show Steps p.tables e below (s₁.setTop (mkF m 89 #[.val (.ref a1), .val (.int p2), .val (.int (v2_7 p2 b0 b1 b2 b3 b4)), .val (.int (3 : Int32)), .val (.int (128 : Int32)), .val (.int (191 : Int32)), .unset, .unset, .unset] [])) _
              refine XS.goto X0.here hx rfl (pc0 := 89) (pc' := 142) rfl (hb hby d2_89) (by decide) (by decide) ?_
              exact kt
      · rw [show j2_1_L3 p2 b0 b1 b2 b3 b4 = (2 : Int32) from by unfold j2_1_L3; rw [if_neg c24_22, if_neg c31_25]] at kt
        rw [show j2_1_L4 p2 b0 b1 b2 b3 b4 = (128 : Int32) from by unfold j2_1_L4; rw [if_neg c24_22, if_neg c31_25]] at kt
        rw [show j2_1_L5 p2 b0 b1 b2 b3 b4 = (191 : Int32) from by unfold j2_1_L5; rw [if_neg c24_22, if_neg c31_25]] at kt
        show Steps p.tables e below (s₁.setTop (mkF m 20 #[.val (.ref a1), .val (.int p2), .val (.int (v2_7 p2 b0 b1 b2 b3 b4)), .val (.int (0 : Int32)), .val (.int (128 : Int32)), .val (.int (191 : Int32)), .unset, .unset, .unset] [])) _
        refine XS.iloadN X0.here hx rfl (hb hby d2_20) rfl ?_
        show Steps p.tables e below (s₁.setTop (mkF m 21 #[.val (.ref a1), .val (.int p2), .val (.int (v2_7 p2 b0 b1 b2 b3 b4)), .val (.int (0 : Int32)), .val (.int (128 : Int32)), .val (.int (191 : Int32)), .unset, .unset, .unset] [(.int (v2_7 p2 b0 b1 b2 b3 b4))])) _
        refine XS.sipush X0.here hx rfl (hb hby d2_21) ?_
        show Steps p.tables e below (s₁.setTop (mkF m 24 #[.val (.ref a1), .val (.int p2), .val (.int (v2_7 p2 b0 b1 b2 b3 b4)), .val (.int (0 : Int32)), .val (.int (128 : Int32)), .val (.int (191 : Int32)), .unset, .unset, .unset] [(.int (194 : Int32)), (.int (v2_7 p2 b0 b1 b2 b3 b4))])) _
        refine XS.icmpNo X0.here hx rfl (hb hby d2_24) rfl (flt c24_22).1 ?_
        show Steps p.tables e below (s₁.setTop (mkF m 27 #[.val (.ref a1), .val (.int p2), .val (.int (v2_7 p2 b0 b1 b2 b3 b4)), .val (.int (0 : Int32)), .val (.int (128 : Int32)), .val (.int (191 : Int32)), .unset, .unset, .unset] [])) _
        refine XS.iloadN X0.here hx rfl (hb hby d2_27) rfl ?_
        show Steps p.tables e below (s₁.setTop (mkF m 28 #[.val (.ref a1), .val (.int p2), .val (.int (v2_7 p2 b0 b1 b2 b3 b4)), .val (.int (0 : Int32)), .val (.int (128 : Int32)), .val (.int (191 : Int32)), .unset, .unset, .unset] [(.int (v2_7 p2 b0 b1 b2 b3 b4))])) _
        refine XS.sipush X0.here hx rfl (hb hby d2_28) ?_
        show Steps p.tables e below (s₁.setTop (mkF m 31 #[.val (.ref a1), .val (.int p2), .val (.int (v2_7 p2 b0 b1 b2 b3 b4)), .val (.int (0 : Int32)), .val (.int (128 : Int32)), .val (.int (191 : Int32)), .unset, .unset, .unset] [(.int (223 : Int32)), (.int (v2_7 p2 b0 b1 b2 b3 b4))])) _
        refine XS.icmpNo X0.here hx rfl (hb hby d2_31) rfl (flt c31_25).2.2.1 ?_
        show Steps p.tables e below (s₁.setTop (mkF m 34 #[.val (.ref a1), .val (.int p2), .val (.int (v2_7 p2 b0 b1 b2 b3 b4)), .val (.int (0 : Int32)), .val (.int (128 : Int32)), .val (.int (191 : Int32)), .unset, .unset, .unset] [])) _
        refine XS.iconst X0.here hx rfl (hb hby d2_34) ?_
        show Steps p.tables e below (s₁.setTop (mkF m 35 #[.val (.ref a1), .val (.int p2), .val (.int (v2_7 p2 b0 b1 b2 b3 b4)), .val (.int (0 : Int32)), .val (.int (128 : Int32)), .val (.int (191 : Int32)), .unset, .unset, .unset] [(.int (2 : Int32))])) _
        refine XS.istoreN X0.here hx rfl (hb hby d2_35) rfl (l' := #[.val (.ref a1), .val (.int p2), .val (.int (v2_7 p2 b0 b1 b2 b3 b4)), .val (.int (2 : Int32)), .val (.int (128 : Int32)), .val (.int (191 : Int32)), .unset, .unset, .unset]) rfl ?_
        show Steps p.tables e below (s₁.setTop (mkF m 36 #[.val (.ref a1), .val (.int p2), .val (.int (v2_7 p2 b0 b1 b2 b3 b4)), .val (.int (2 : Int32)), .val (.int (128 : Int32)), .val (.int (191 : Int32)), .unset, .unset, .unset] [])) _
        refine XS.goto X0.here hx rfl (pc0 := 36) (pc' := 142) rfl (hb hby d2_36) (by decide) (by decide) ?_
        exact kt
  have k38 : ∀ t, Steps p.tables e below (s₁.setTop (mkF m 159 #[.val (.ref a1), .val (.int p2), .val (.int (v2_7 p2 b0 b1 b2 b3 b4)), .val (.int (j2_1_L3 p2 b0 b1 b2 b3 b4)), .val (.int (j2_1_L4 p2 b0 b1 b2 b3 b4)), .val (.int (j2_1_L5 p2 b0 b1 b2 b3 b4)), .unset, .unset, .unset] [(.int (j2_2_S0 p2 b0 b1 b2 b3 b4))])) t → Steps p.tables e below (s₁.setTop (mkF m 0 #[.val (.ref a1), .val (.int p2), .unset, .unset, .unset, .unset, .unset, .unset, .unset] [])) t := by
    intro t kt
    refine k21 t ?_
    by_cases c143_39 : (0 : Int32) < (j2_1_L3 p2 b0 b1 b2 b3 b4)
    · by_cases c151_40 : (5 : Int32) < (p2 + (j2_1_L3 p2 b0 b1 b2 b3 b4))
      · rw [show j2_2_S0 p2 b0 b1 b2 b3 b4 = (0 : Int32) from by unfold j2_2_S0; rw [if_pos c143_39, if_pos c151_40]] at kt
        show Steps p.tables e below (s₁.setTop (mkF m 142 #[.val (.ref a1), .val (.int p2), .val (.int (v2_7 p2 b0 b1 b2 b3 b4)), .val (.int (j2_1_L3 p2 b0 b1 b2 b3 b4)), .val (.int (j2_1_L4 p2 b0 b1 b2 b3 b4)), .val (.int (j2_1_L5 p2 b0 b1 b2 b3 b4)), .unset, .unset, .unset] [])) _
        refine XS.iloadN X0.here hx rfl (hb hby d2_142) rfl ?_
        show Steps p.tables e below (s₁.setTop (mkF m 143 #[.val (.ref a1), .val (.int p2), .val (.int (v2_7 p2 b0 b1 b2 b3 b4)), .val (.int (j2_1_L3 p2 b0 b1 b2 b3 b4)), .val (.int (j2_1_L4 p2 b0 b1 b2 b3 b4)), .val (.int (j2_1_L5 p2 b0 b1 b2 b3 b4)), .unset, .unset, .unset] [(.int (j2_1_L3 p2 b0 b1 b2 b3 b4))])) _
        refine XS.ifNo X0.here hx rfl (hb hby d2_143) rfl ((if0 _ _).trans (tlt c143_39).2.2.2) ?_
        show Steps p.tables e below (s₁.setTop (mkF m 146 #[.val (.ref a1), .val (.int p2), .val (.int (v2_7 p2 b0 b1 b2 b3 b4)), .val (.int (j2_1_L3 p2 b0 b1 b2 b3 b4)), .val (.int (j2_1_L4 p2 b0 b1 b2 b3 b4)), .val (.int (j2_1_L5 p2 b0 b1 b2 b3 b4)), .unset, .unset, .unset] [])) _
        refine XS.iloadN X0.here hx rfl (hb hby d2_146) rfl ?_
        show Steps p.tables e below (s₁.setTop (mkF m 147 #[.val (.ref a1), .val (.int p2), .val (.int (v2_7 p2 b0 b1 b2 b3 b4)), .val (.int (j2_1_L3 p2 b0 b1 b2 b3 b4)), .val (.int (j2_1_L4 p2 b0 b1 b2 b3 b4)), .val (.int (j2_1_L5 p2 b0 b1 b2 b3 b4)), .unset, .unset, .unset] [(.int p2)])) _
        refine XS.iloadN X0.here hx rfl (hb hby d2_147) rfl ?_
        show Steps p.tables e below (s₁.setTop (mkF m 148 #[.val (.ref a1), .val (.int p2), .val (.int (v2_7 p2 b0 b1 b2 b3 b4)), .val (.int (j2_1_L3 p2 b0 b1 b2 b3 b4)), .val (.int (j2_1_L4 p2 b0 b1 b2 b3 b4)), .val (.int (j2_1_L5 p2 b0 b1 b2 b3 b4)), .unset, .unset, .unset] [(.int (j2_1_L3 p2 b0 b1 b2 b3 b4)), (.int p2)])) _
        refine XS.iadd X0.here hx rfl (hb hby d2_148) rfl ?_
        show Steps p.tables e below (s₁.setTop (mkF m 149 #[.val (.ref a1), .val (.int p2), .val (.int (v2_7 p2 b0 b1 b2 b3 b4)), .val (.int (j2_1_L3 p2 b0 b1 b2 b3 b4)), .val (.int (j2_1_L4 p2 b0 b1 b2 b3 b4)), .val (.int (j2_1_L5 p2 b0 b1 b2 b3 b4)), .unset, .unset, .unset] [(.int (p2 + (j2_1_L3 p2 b0 b1 b2 b3 b4)))])) _
        refine XS.aloadN X0.here hx rfl (hb hby d2_149) rfl rfl ?_
        show Steps p.tables e below (s₁.setTop (mkF m 150 #[.val (.ref a1), .val (.int p2), .val (.int (v2_7 p2 b0 b1 b2 b3 b4)), .val (.int (j2_1_L3 p2 b0 b1 b2 b3 b4)), .val (.int (j2_1_L4 p2 b0 b1 b2 b3 b4)), .val (.int (j2_1_L5 p2 b0 b1 b2 b3 b4)), .unset, .unset, .unset] [(.ref a1), (.int (p2 + (j2_1_L3 p2 b0 b1 b2 b3 b4)))])) _
        refine X0.arraylength hx (by rw [e0]; exact Ar5.1) (State.isArrayOf_alike hZ.alike Ar5.2.1) (g := (mkF m 150 #[.val (.ref a1), .val (.int p2), .val (.int (v2_7 p2 b0 b1 b2 b3 b4)), .val (.int (j2_1_L3 p2 b0 b1 b2 b3 b4)), .val (.int (j2_1_L4 p2 b0 b1 b2 b3 b4)), .val (.int (j2_1_L5 p2 b0 b1 b2 b3 b4)), .unset, .unset, .unset] [(.ref a1), (.int (p2 + (j2_1_L3 p2 b0 b1 b2 b3 b4)))])) rfl rfl (hb hby d2_150) _ ?_
        rw [len_of S5 N5']
        show Steps p.tables e below (s₁.setTop (mkF m 151 #[.val (.ref a1), .val (.int p2), .val (.int (v2_7 p2 b0 b1 b2 b3 b4)), .val (.int (j2_1_L3 p2 b0 b1 b2 b3 b4)), .val (.int (j2_1_L4 p2 b0 b1 b2 b3 b4)), .val (.int (j2_1_L5 p2 b0 b1 b2 b3 b4)), .unset, .unset, .unset] [(.int (5 : Int32)), (.int (p2 + (j2_1_L3 p2 b0 b1 b2 b3 b4)))])) _
        refine XS.icmpYes X0.here hx rfl (pc0 := 151) (pc' := 158) rfl (hb hby d2_151) rfl (tlt c151_40).2.2.1 (by decide) (by decide) ?_
        show Steps p.tables e below (s₁.setTop (mkF m 158 #[.val (.ref a1), .val (.int p2), .val (.int (v2_7 p2 b0 b1 b2 b3 b4)), .val (.int (j2_1_L3 p2 b0 b1 b2 b3 b4)), .val (.int (j2_1_L4 p2 b0 b1 b2 b3 b4)), .val (.int (j2_1_L5 p2 b0 b1 b2 b3 b4)), .unset, .unset, .unset] [])) _
        refine XS.iconst X0.here hx rfl (hb hby d2_158) ?_
        exact kt
      · rw [show j2_2_S0 p2 b0 b1 b2 b3 b4 = (1 : Int32) from by unfold j2_2_S0; rw [if_pos c143_39, if_neg c151_40]] at kt
        show Steps p.tables e below (s₁.setTop (mkF m 142 #[.val (.ref a1), .val (.int p2), .val (.int (v2_7 p2 b0 b1 b2 b3 b4)), .val (.int (j2_1_L3 p2 b0 b1 b2 b3 b4)), .val (.int (j2_1_L4 p2 b0 b1 b2 b3 b4)), .val (.int (j2_1_L5 p2 b0 b1 b2 b3 b4)), .unset, .unset, .unset] [])) _
        refine XS.iloadN X0.here hx rfl (hb hby d2_142) rfl ?_
        show Steps p.tables e below (s₁.setTop (mkF m 143 #[.val (.ref a1), .val (.int p2), .val (.int (v2_7 p2 b0 b1 b2 b3 b4)), .val (.int (j2_1_L3 p2 b0 b1 b2 b3 b4)), .val (.int (j2_1_L4 p2 b0 b1 b2 b3 b4)), .val (.int (j2_1_L5 p2 b0 b1 b2 b3 b4)), .unset, .unset, .unset] [(.int (j2_1_L3 p2 b0 b1 b2 b3 b4))])) _
        refine XS.ifNo X0.here hx rfl (hb hby d2_143) rfl ((if0 _ _).trans (tlt c143_39).2.2.2) ?_
        show Steps p.tables e below (s₁.setTop (mkF m 146 #[.val (.ref a1), .val (.int p2), .val (.int (v2_7 p2 b0 b1 b2 b3 b4)), .val (.int (j2_1_L3 p2 b0 b1 b2 b3 b4)), .val (.int (j2_1_L4 p2 b0 b1 b2 b3 b4)), .val (.int (j2_1_L5 p2 b0 b1 b2 b3 b4)), .unset, .unset, .unset] [])) _
        refine XS.iloadN X0.here hx rfl (hb hby d2_146) rfl ?_
        show Steps p.tables e below (s₁.setTop (mkF m 147 #[.val (.ref a1), .val (.int p2), .val (.int (v2_7 p2 b0 b1 b2 b3 b4)), .val (.int (j2_1_L3 p2 b0 b1 b2 b3 b4)), .val (.int (j2_1_L4 p2 b0 b1 b2 b3 b4)), .val (.int (j2_1_L5 p2 b0 b1 b2 b3 b4)), .unset, .unset, .unset] [(.int p2)])) _
        refine XS.iloadN X0.here hx rfl (hb hby d2_147) rfl ?_
        show Steps p.tables e below (s₁.setTop (mkF m 148 #[.val (.ref a1), .val (.int p2), .val (.int (v2_7 p2 b0 b1 b2 b3 b4)), .val (.int (j2_1_L3 p2 b0 b1 b2 b3 b4)), .val (.int (j2_1_L4 p2 b0 b1 b2 b3 b4)), .val (.int (j2_1_L5 p2 b0 b1 b2 b3 b4)), .unset, .unset, .unset] [(.int (j2_1_L3 p2 b0 b1 b2 b3 b4)), (.int p2)])) _
        refine XS.iadd X0.here hx rfl (hb hby d2_148) rfl ?_
        show Steps p.tables e below (s₁.setTop (mkF m 149 #[.val (.ref a1), .val (.int p2), .val (.int (v2_7 p2 b0 b1 b2 b3 b4)), .val (.int (j2_1_L3 p2 b0 b1 b2 b3 b4)), .val (.int (j2_1_L4 p2 b0 b1 b2 b3 b4)), .val (.int (j2_1_L5 p2 b0 b1 b2 b3 b4)), .unset, .unset, .unset] [(.int (p2 + (j2_1_L3 p2 b0 b1 b2 b3 b4)))])) _
        refine XS.aloadN X0.here hx rfl (hb hby d2_149) rfl rfl ?_
        show Steps p.tables e below (s₁.setTop (mkF m 150 #[.val (.ref a1), .val (.int p2), .val (.int (v2_7 p2 b0 b1 b2 b3 b4)), .val (.int (j2_1_L3 p2 b0 b1 b2 b3 b4)), .val (.int (j2_1_L4 p2 b0 b1 b2 b3 b4)), .val (.int (j2_1_L5 p2 b0 b1 b2 b3 b4)), .unset, .unset, .unset] [(.ref a1), (.int (p2 + (j2_1_L3 p2 b0 b1 b2 b3 b4)))])) _
        refine X0.arraylength hx (by rw [e0]; exact Ar5.1) (State.isArrayOf_alike hZ.alike Ar5.2.1) (g := (mkF m 150 #[.val (.ref a1), .val (.int p2), .val (.int (v2_7 p2 b0 b1 b2 b3 b4)), .val (.int (j2_1_L3 p2 b0 b1 b2 b3 b4)), .val (.int (j2_1_L4 p2 b0 b1 b2 b3 b4)), .val (.int (j2_1_L5 p2 b0 b1 b2 b3 b4)), .unset, .unset, .unset] [(.ref a1), (.int (p2 + (j2_1_L3 p2 b0 b1 b2 b3 b4)))])) rfl rfl (hb hby d2_150) _ ?_
        rw [len_of S5 N5']
        show Steps p.tables e below (s₁.setTop (mkF m 151 #[.val (.ref a1), .val (.int p2), .val (.int (v2_7 p2 b0 b1 b2 b3 b4)), .val (.int (j2_1_L3 p2 b0 b1 b2 b3 b4)), .val (.int (j2_1_L4 p2 b0 b1 b2 b3 b4)), .val (.int (j2_1_L5 p2 b0 b1 b2 b3 b4)), .unset, .unset, .unset] [(.int (5 : Int32)), (.int (p2 + (j2_1_L3 p2 b0 b1 b2 b3 b4)))])) _
        refine XS.icmpNo X0.here hx rfl (hb hby d2_151) rfl (flt c151_40).2.2.1 ?_
        show Steps p.tables e below (s₁.setTop (mkF m 154 #[.val (.ref a1), .val (.int p2), .val (.int (v2_7 p2 b0 b1 b2 b3 b4)), .val (.int (j2_1_L3 p2 b0 b1 b2 b3 b4)), .val (.int (j2_1_L4 p2 b0 b1 b2 b3 b4)), .val (.int (j2_1_L5 p2 b0 b1 b2 b3 b4)), .unset, .unset, .unset] [])) _
        refine XS.iconst X0.here hx rfl (hb hby d2_154) ?_
        show Steps p.tables e below (s₁.setTop (mkF m 155 #[.val (.ref a1), .val (.int p2), .val (.int (v2_7 p2 b0 b1 b2 b3 b4)), .val (.int (j2_1_L3 p2 b0 b1 b2 b3 b4)), .val (.int (j2_1_L4 p2 b0 b1 b2 b3 b4)), .val (.int (j2_1_L5 p2 b0 b1 b2 b3 b4)), .unset, .unset, .unset] [(.int (1 : Int32))])) _
        refine XS.goto X0.here hx rfl (pc0 := 155) (pc' := 159) rfl (hb hby d2_155) (by decide) (by decide) ?_
        exact kt
    · rw [show j2_2_S0 p2 b0 b1 b2 b3 b4 = (0 : Int32) from by unfold j2_2_S0; rw [if_neg c143_39]] at kt
      show Steps p.tables e below (s₁.setTop (mkF m 142 #[.val (.ref a1), .val (.int p2), .val (.int (v2_7 p2 b0 b1 b2 b3 b4)), .val (.int (j2_1_L3 p2 b0 b1 b2 b3 b4)), .val (.int (j2_1_L4 p2 b0 b1 b2 b3 b4)), .val (.int (j2_1_L5 p2 b0 b1 b2 b3 b4)), .unset, .unset, .unset] [])) _
      refine XS.iloadN X0.here hx rfl (hb hby d2_142) rfl ?_
      show Steps p.tables e below (s₁.setTop (mkF m 143 #[.val (.ref a1), .val (.int p2), .val (.int (v2_7 p2 b0 b1 b2 b3 b4)), .val (.int (j2_1_L3 p2 b0 b1 b2 b3 b4)), .val (.int (j2_1_L4 p2 b0 b1 b2 b3 b4)), .val (.int (j2_1_L5 p2 b0 b1 b2 b3 b4)), .unset, .unset, .unset] [(.int (j2_1_L3 p2 b0 b1 b2 b3 b4))])) _
      refine XS.ifYes X0.here hx rfl (pc0 := 143) (pc' := 158) rfl (hb hby d2_143) rfl ((if0 _ _).trans (flt c143_39).2.2.2) (by decide) (by decide) ?_
      show Steps p.tables e below (s₁.setTop (mkF m 158 #[.val (.ref a1), .val (.int p2), .val (.int (v2_7 p2 b0 b1 b2 b3 b4)), .val (.int (j2_1_L3 p2 b0 b1 b2 b3 b4)), .val (.int (j2_1_L4 p2 b0 b1 b2 b3 b4)), .val (.int (j2_1_L5 p2 b0 b1 b2 b3 b4)), .unset, .unset, .unset] [])) _
      refine XS.iconst X0.here hx rfl (hb hby d2_158) ?_
      exact kt
  have k42 : ∀ t, Steps p.tables e below (s₁.setTop (mkF m 166 #[.val (.ref a1), .val (.int p2), .val (.int (v2_7 p2 b0 b1 b2 b3 b4)), .val (.int (j2_1_L3 p2 b0 b1 b2 b3 b4)), .val (.int (j2_1_L4 p2 b0 b1 b2 b3 b4)), .val (.int (j2_1_L5 p2 b0 b1 b2 b3 b4)), .val (.int (j2_2_S0 p2 b0 b1 b2 b3 b4)), .val (.int (1 : Int32)), .unset] [(.int (j2_2_S0 p2 b0 b1 b2 b3 b4))])) t → Steps p.tables e below (s₁.setTop (mkF m 0 #[.val (.ref a1), .val (.int p2), .unset, .unset, .unset, .unset, .unset, .unset, .unset] [])) t := fun t kt => k38 t (by
    show Steps p.tables e below (s₁.setTop (mkF m 159 #[.val (.ref a1), .val (.int p2), .val (.int (v2_7 p2 b0 b1 b2 b3 b4)), .val (.int (j2_1_L3 p2 b0 b1 b2 b3 b4)), .val (.int (j2_1_L4 p2 b0 b1 b2 b3 b4)), .val (.int (j2_1_L5 p2 b0 b1 b2 b3 b4)), .unset, .unset, .unset] [(.int (j2_2_S0 p2 b0 b1 b2 b3 b4))])) _
    refine XS.istore X0.here hx rfl (hb hby d2_159) rfl (l' := #[.val (.ref a1), .val (.int p2), .val (.int (v2_7 p2 b0 b1 b2 b3 b4)), .val (.int (j2_1_L3 p2 b0 b1 b2 b3 b4)), .val (.int (j2_1_L4 p2 b0 b1 b2 b3 b4)), .val (.int (j2_1_L5 p2 b0 b1 b2 b3 b4)), .val (.int (j2_2_S0 p2 b0 b1 b2 b3 b4)), .unset, .unset]) rfl ?_
    show Steps p.tables e below (s₁.setTop (mkF m 161 #[.val (.ref a1), .val (.int p2), .val (.int (v2_7 p2 b0 b1 b2 b3 b4)), .val (.int (j2_1_L3 p2 b0 b1 b2 b3 b4)), .val (.int (j2_1_L4 p2 b0 b1 b2 b3 b4)), .val (.int (j2_1_L5 p2 b0 b1 b2 b3 b4)), .val (.int (j2_2_S0 p2 b0 b1 b2 b3 b4)), .unset, .unset] [])) _
    refine XS.iconst X0.here hx rfl (hb hby d2_161) ?_
    show Steps p.tables e below (s₁.setTop (mkF m 162 #[.val (.ref a1), .val (.int p2), .val (.int (v2_7 p2 b0 b1 b2 b3 b4)), .val (.int (j2_1_L3 p2 b0 b1 b2 b3 b4)), .val (.int (j2_1_L4 p2 b0 b1 b2 b3 b4)), .val (.int (j2_1_L5 p2 b0 b1 b2 b3 b4)), .val (.int (j2_2_S0 p2 b0 b1 b2 b3 b4)), .unset, .unset] [(.int (1 : Int32))])) _
    refine XS.istore X0.here hx rfl (hb hby d2_162) rfl (l' := #[.val (.ref a1), .val (.int p2), .val (.int (v2_7 p2 b0 b1 b2 b3 b4)), .val (.int (j2_1_L3 p2 b0 b1 b2 b3 b4)), .val (.int (j2_1_L4 p2 b0 b1 b2 b3 b4)), .val (.int (j2_1_L5 p2 b0 b1 b2 b3 b4)), .val (.int (j2_2_S0 p2 b0 b1 b2 b3 b4)), .val (.int (1 : Int32)), .unset]) rfl ?_
    show Steps p.tables e below (s₁.setTop (mkF m 164 #[.val (.ref a1), .val (.int p2), .val (.int (v2_7 p2 b0 b1 b2 b3 b4)), .val (.int (j2_1_L3 p2 b0 b1 b2 b3 b4)), .val (.int (j2_1_L4 p2 b0 b1 b2 b3 b4)), .val (.int (j2_1_L5 p2 b0 b1 b2 b3 b4)), .val (.int (j2_2_S0 p2 b0 b1 b2 b3 b4)), .val (.int (1 : Int32)), .unset] [])) _
    refine XS.iload X0.here hx rfl (hb hby d2_164) rfl ?_
    exact kt)
  by_cases c166_41 : (j2_2_S0 p2 b0 b1 b2 b3 b4) = (0 : Int32)
  · have k44 : ∀ t, Steps p.tables e below (s₁.setTop (mkF m 246 #[.val (.ref a1), .val (.int p2), .val (.int (v2_7 p2 b0 b1 b2 b3 b4)), .val (.int (j2_1_L3 p2 b0 b1 b2 b3 b4)), .val (.int (j2_1_L4 p2 b0 b1 b2 b3 b4)), .val (.int (j2_1_L5 p2 b0 b1 b2 b3 b4)), .val (.int (j2_2_S0 p2 b0 b1 b2 b3 b4)), .val (.int (1 : Int32)), .unset] [(.int (j2_2_S0 p2 b0 b1 b2 b3 b4))])) t → Steps p.tables e below (s₁.setTop (mkF m 0 #[.val (.ref a1), .val (.int p2), .unset, .unset, .unset, .unset, .unset, .unset, .unset] [])) t := fun t kt => k42 t (by
      show Steps p.tables e below (s₁.setTop (mkF m 166 #[.val (.ref a1), .val (.int p2), .val (.int (v2_7 p2 b0 b1 b2 b3 b4)), .val (.int (j2_1_L3 p2 b0 b1 b2 b3 b4)), .val (.int (j2_1_L4 p2 b0 b1 b2 b3 b4)), .val (.int (j2_1_L5 p2 b0 b1 b2 b3 b4)), .val (.int (j2_2_S0 p2 b0 b1 b2 b3 b4)), .val (.int (1 : Int32)), .unset] [(.int (j2_2_S0 p2 b0 b1 b2 b3 b4))])) _
      refine XS.ifYes X0.here hx rfl (pc0 := 166) (pc' := 244) rfl (hb hby d2_166) rfl ((if0 _ _).trans (teq c166_41).1) (by decide) (by decide) ?_
      show Steps p.tables e below (s₁.setTop (mkF m 244 #[.val (.ref a1), .val (.int p2), .val (.int (v2_7 p2 b0 b1 b2 b3 b4)), .val (.int (j2_1_L3 p2 b0 b1 b2 b3 b4)), .val (.int (j2_1_L4 p2 b0 b1 b2 b3 b4)), .val (.int (j2_1_L5 p2 b0 b1 b2 b3 b4)), .val (.int (j2_2_S0 p2 b0 b1 b2 b3 b4)), .val (.int (1 : Int32)), .unset] [])) _
      refine XS.iload X0.here hx rfl (hb hby d2_244) rfl ?_
      exact kt)
    by_cases c246_43 : (j2_2_S0 p2 b0 b1 b2 b3 b4) = (0 : Int32)
    · obtain ⟨fs, hr, hrun, hended, hW, hsame⟩ := X0.leave (v := some (.int (-1 : Int32))) (fun h => by rw [Bd.returns] at h; cases h)
      refine ⟨_, _, pre0 _ (k44 _ ?_), hrun, hended, _, _, rfl, ?_, ⟨_, rfl⟩, hW, hsame.mono (by decide) (by decide)⟩
      · show Steps p.tables e below (s₁.setTop (mkF m 246 #[.val (.ref a1), .val (.int p2), .val (.int (v2_7 p2 b0 b1 b2 b3 b4)), .val (.int (j2_1_L3 p2 b0 b1 b2 b3 b4)), .val (.int (j2_1_L4 p2 b0 b1 b2 b3 b4)), .val (.int (j2_1_L5 p2 b0 b1 b2 b3 b4)), .val (.int (j2_2_S0 p2 b0 b1 b2 b3 b4)), .val (.int (1 : Int32)), .unset] [(.int (j2_2_S0 p2 b0 b1 b2 b3 b4))])) _
        refine XS.ifYes X0.here hx rfl (pc0 := 246) (pc' := 255) rfl (hb hby d2_246) rfl ((if0 _ _).trans (teq c246_43).1) (by decide) (by decide) ?_
        show Steps p.tables e below (s₁.setTop (mkF m 255 #[.val (.ref a1), .val (.int p2), .val (.int (v2_7 p2 b0 b1 b2 b3 b4)), .val (.int (j2_1_L3 p2 b0 b1 b2 b3 b4)), .val (.int (j2_1_L4 p2 b0 b1 b2 b3 b4)), .val (.int (j2_1_L5 p2 b0 b1 b2 b3 b4)), .val (.int (j2_2_S0 p2 b0 b1 b2 b3 b4)), .val (.int (1 : Int32)), .unset] [])) _
        refine XS.iconst X0.here hx rfl (hb hby d2_255) ?_
        show Steps p.tables e below (s₁.setTop (mkF m 256 #[.val (.ref a1), .val (.int p2), .val (.int (v2_7 p2 b0 b1 b2 b3 b4)), .val (.int (j2_1_L3 p2 b0 b1 b2 b3 b4)), .val (.int (j2_1_L4 p2 b0 b1 b2 b3 b4)), .val (.int (j2_1_L5 p2 b0 b1 b2 b3 b4)), .val (.int (j2_2_S0 p2 b0 b1 b2 b3 b4)), .val (.int (1 : Int32)), .unset] [(.int (-1 : Int32))])) _
        exact retI X0 hx Bd.returns (hb hby d2_256) hr
      · show Q2 Z a1 p2 b0 b1 b2 b3 b4 kk h0 n0 _ s₁.heap _
        rw [e0]
        have hv : sp2 p2 b0 b1 b2 b3 b4 = (-1 : Int32) := by unfold sp2; rw [if_pos c166_41, if_pos c246_43]
        exact ⟨by rw [hv], N0, rfl⟩
    · obtain ⟨fs, hr, hrun, hended, hW, hsame⟩ := X0.leave (v := some (.int (p2 + (j2_1_L3 p2 b0 b1 b2 b3 b4)))) (fun h => by rw [Bd.returns] at h; cases h)
      refine ⟨_, _, pre0 _ (k44 _ ?_), hrun, hended, _, _, rfl, ?_, ⟨_, rfl⟩, hW, hsame.mono (by decide) (by decide)⟩
      · show Steps p.tables e below (s₁.setTop (mkF m 246 #[.val (.ref a1), .val (.int p2), .val (.int (v2_7 p2 b0 b1 b2 b3 b4)), .val (.int (j2_1_L3 p2 b0 b1 b2 b3 b4)), .val (.int (j2_1_L4 p2 b0 b1 b2 b3 b4)), .val (.int (j2_1_L5 p2 b0 b1 b2 b3 b4)), .val (.int (j2_2_S0 p2 b0 b1 b2 b3 b4)), .val (.int (1 : Int32)), .unset] [(.int (j2_2_S0 p2 b0 b1 b2 b3 b4))])) _
        refine XS.ifNo X0.here hx rfl (hb hby d2_246) rfl ((if0 _ _).trans (feq c246_43).1) ?_
        show Steps p.tables e below (s₁.setTop (mkF m 249 #[.val (.ref a1), .val (.int p2), .val (.int (v2_7 p2 b0 b1 b2 b3 b4)), .val (.int (j2_1_L3 p2 b0 b1 b2 b3 b4)), .val (.int (j2_1_L4 p2 b0 b1 b2 b3 b4)), .val (.int (j2_1_L5 p2 b0 b1 b2 b3 b4)), .val (.int (j2_2_S0 p2 b0 b1 b2 b3 b4)), .val (.int (1 : Int32)), .unset] [])) _
        refine XS.iloadN X0.here hx rfl (hb hby d2_249) rfl ?_
        show Steps p.tables e below (s₁.setTop (mkF m 250 #[.val (.ref a1), .val (.int p2), .val (.int (v2_7 p2 b0 b1 b2 b3 b4)), .val (.int (j2_1_L3 p2 b0 b1 b2 b3 b4)), .val (.int (j2_1_L4 p2 b0 b1 b2 b3 b4)), .val (.int (j2_1_L5 p2 b0 b1 b2 b3 b4)), .val (.int (j2_2_S0 p2 b0 b1 b2 b3 b4)), .val (.int (1 : Int32)), .unset] [(.int p2)])) _
        refine XS.iloadN X0.here hx rfl (hb hby d2_250) rfl ?_
        show Steps p.tables e below (s₁.setTop (mkF m 251 #[.val (.ref a1), .val (.int p2), .val (.int (v2_7 p2 b0 b1 b2 b3 b4)), .val (.int (j2_1_L3 p2 b0 b1 b2 b3 b4)), .val (.int (j2_1_L4 p2 b0 b1 b2 b3 b4)), .val (.int (j2_1_L5 p2 b0 b1 b2 b3 b4)), .val (.int (j2_2_S0 p2 b0 b1 b2 b3 b4)), .val (.int (1 : Int32)), .unset] [(.int (j2_1_L3 p2 b0 b1 b2 b3 b4)), (.int p2)])) _
        refine XS.iadd X0.here hx rfl (hb hby d2_251) rfl ?_
        show Steps p.tables e below (s₁.setTop (mkF m 252 #[.val (.ref a1), .val (.int p2), .val (.int (v2_7 p2 b0 b1 b2 b3 b4)), .val (.int (j2_1_L3 p2 b0 b1 b2 b3 b4)), .val (.int (j2_1_L4 p2 b0 b1 b2 b3 b4)), .val (.int (j2_1_L5 p2 b0 b1 b2 b3 b4)), .val (.int (j2_2_S0 p2 b0 b1 b2 b3 b4)), .val (.int (1 : Int32)), .unset] [(.int (p2 + (j2_1_L3 p2 b0 b1 b2 b3 b4)))])) _
        refine XS.goto X0.here hx rfl (pc0 := 252) (pc' := 256) rfl (hb hby d2_252) (by decide) (by decide) ?_
        show Steps p.tables e below (s₁.setTop (mkF m 256 #[.val (.ref a1), .val (.int p2), .val (.int (v2_7 p2 b0 b1 b2 b3 b4)), .val (.int (j2_1_L3 p2 b0 b1 b2 b3 b4)), .val (.int (j2_1_L4 p2 b0 b1 b2 b3 b4)), .val (.int (j2_1_L5 p2 b0 b1 b2 b3 b4)), .val (.int (j2_2_S0 p2 b0 b1 b2 b3 b4)), .val (.int (1 : Int32)), .unset] [(.int (p2 + (j2_1_L3 p2 b0 b1 b2 b3 b4)))])) _
        exact retI X0 hx Bd.returns (hb hby d2_256) hr
      · show Q2 Z a1 p2 b0 b1 b2 b3 b4 kk h0 n0 _ s₁.heap _
        rw [e0]
        have hv : sp2 p2 b0 b1 b2 b3 b4 = (p2 + (j2_1_L3 p2 b0 b1 b2 b3 b4)) := by unfold sp2; rw [if_pos c166_41, if_neg c246_43]
        exact ⟨by rw [hv], N0, rfl⟩
  · have k46 : ∀ t, Steps p.tables e below (s₁.setTop (mkF m 172 #[.val (.ref a1), .val (.int p2), .val (.int (v2_7 p2 b0 b1 b2 b3 b4)), .val (.int (j2_1_L3 p2 b0 b1 b2 b3 b4)), .val (.int (j2_1_L4 p2 b0 b1 b2 b3 b4)), .val (.int (j2_1_L5 p2 b0 b1 b2 b3 b4)), .val (.int (j2_2_S0 p2 b0 b1 b2 b3 b4)), .val (.int (1 : Int32)), .unset] [(.int (j2_1_L3 p2 b0 b1 b2 b3 b4)), (.int (1 : Int32))])) t → Steps p.tables e below (s₁.setTop (mkF m 0 #[.val (.ref a1), .val (.int p2), .unset, .unset, .unset, .unset, .unset, .unset, .unset] [])) t := fun t kt => k42 t (by
      show Steps p.tables e below (s₁.setTop (mkF m 166 #[.val (.ref a1), .val (.int p2), .val (.int (v2_7 p2 b0 b1 b2 b3 b4)), .val (.int (j2_1_L3 p2 b0 b1 b2 b3 b4)), .val (.int (j2_1_L4 p2 b0 b1 b2 b3 b4)), .val (.int (j2_1_L5 p2 b0 b1 b2 b3 b4)), .val (.int (j2_2_S0 p2 b0 b1 b2 b3 b4)), .val (.int (1 : Int32)), .unset] [(.int (j2_2_S0 p2 b0 b1 b2 b3 b4))])) _
      refine XS.ifNo X0.here hx rfl (hb hby d2_166) rfl ((if0 _ _).trans (feq c166_41).1) ?_
      show Steps p.tables e below (s₁.setTop (mkF m 169 #[.val (.ref a1), .val (.int p2), .val (.int (v2_7 p2 b0 b1 b2 b3 b4)), .val (.int (j2_1_L3 p2 b0 b1 b2 b3 b4)), .val (.int (j2_1_L4 p2 b0 b1 b2 b3 b4)), .val (.int (j2_1_L5 p2 b0 b1 b2 b3 b4)), .val (.int (j2_2_S0 p2 b0 b1 b2 b3 b4)), .val (.int (1 : Int32)), .unset] [])) _
      refine XS.iload X0.here hx rfl (hb hby d2_169) rfl ?_
      show Steps p.tables e below (s₁.setTop (mkF m 171 #[.val (.ref a1), .val (.int p2), .val (.int (v2_7 p2 b0 b1 b2 b3 b4)), .val (.int (j2_1_L3 p2 b0 b1 b2 b3 b4)), .val (.int (j2_1_L4 p2 b0 b1 b2 b3 b4)), .val (.int (j2_1_L5 p2 b0 b1 b2 b3 b4)), .val (.int (j2_2_S0 p2 b0 b1 b2 b3 b4)), .val (.int (1 : Int32)), .unset] [(.int (1 : Int32))])) _
      refine XS.iloadN X0.here hx rfl (hb hby d2_171) rfl ?_
      exact kt)
    by_cases c172_45 : (1 : Int32) < (j2_1_L3 p2 b0 b1 b2 b3 b4)
    · have k47 : ∀ t, Steps p.tables e below (s₁.setTop (mkF m 180 #[.val (.ref a1), .val (.int p2), .val (.int (v2_7 p2 b0 b1 b2 b3 b4)), .val (.int (j2_1_L3 p2 b0 b1 b2 b3 b4)), .val (.int (j2_1_L4 p2 b0 b1 b2 b3 b4)), .val (.int (j2_1_L5 p2 b0 b1 b2 b3 b4)), .val (.int (j2_2_S0 p2 b0 b1 b2 b3 b4)), .val (.int (1 : Int32)), .unset] [(.int (p2 + (1 : Int32))), (.ref a1)])) t → Steps p.tables e below (s₁.setTop (mkF m 0 #[.val (.ref a1), .val (.int p2), .unset, .unset, .unset, .unset, .unset, .unset, .unset] [])) t := fun t kt => k46 t (by
        show Steps p.tables e below (s₁.setTop (mkF m 172 #[.val (.ref a1), .val (.int p2), .val (.int (v2_7 p2 b0 b1 b2 b3 b4)), .val (.int (j2_1_L3 p2 b0 b1 b2 b3 b4)), .val (.int (j2_1_L4 p2 b0 b1 b2 b3 b4)), .val (.int (j2_1_L5 p2 b0 b1 b2 b3 b4)), .val (.int (j2_2_S0 p2 b0 b1 b2 b3 b4)), .val (.int (1 : Int32)), .unset] [(.int (j2_1_L3 p2 b0 b1 b2 b3 b4)), (.int (1 : Int32))])) _
        refine XS.icmpNo X0.here hx rfl (hb hby d2_172) rfl (tlt c172_45).2.1 ?_
        show Steps p.tables e below (s₁.setTop (mkF m 175 #[.val (.ref a1), .val (.int p2), .val (.int (v2_7 p2 b0 b1 b2 b3 b4)), .val (.int (j2_1_L3 p2 b0 b1 b2 b3 b4)), .val (.int (j2_1_L4 p2 b0 b1 b2 b3 b4)), .val (.int (j2_1_L5 p2 b0 b1 b2 b3 b4)), .val (.int (j2_2_S0 p2 b0 b1 b2 b3 b4)), .val (.int (1 : Int32)), .unset] [])) _
        refine XS.aloadN X0.here hx rfl (hb hby d2_175) rfl rfl ?_
        show Steps p.tables e below (s₁.setTop (mkF m 176 #[.val (.ref a1), .val (.int p2), .val (.int (v2_7 p2 b0 b1 b2 b3 b4)), .val (.int (j2_1_L3 p2 b0 b1 b2 b3 b4)), .val (.int (j2_1_L4 p2 b0 b1 b2 b3 b4)), .val (.int (j2_1_L5 p2 b0 b1 b2 b3 b4)), .val (.int (j2_2_S0 p2 b0 b1 b2 b3 b4)), .val (.int (1 : Int32)), .unset] [(.ref a1)])) _
        refine XS.iloadN X0.here hx rfl (hb hby d2_176) rfl ?_
        show Steps p.tables e below (s₁.setTop (mkF m 177 #[.val (.ref a1), .val (.int p2), .val (.int (v2_7 p2 b0 b1 b2 b3 b4)), .val (.int (j2_1_L3 p2 b0 b1 b2 b3 b4)), .val (.int (j2_1_L4 p2 b0 b1 b2 b3 b4)), .val (.int (j2_1_L5 p2 b0 b1 b2 b3 b4)), .val (.int (j2_2_S0 p2 b0 b1 b2 b3 b4)), .val (.int (1 : Int32)), .unset] [(.int p2), (.ref a1)])) _
        refine XS.iload X0.here hx rfl (hb hby d2_177) rfl ?_
        show Steps p.tables e below (s₁.setTop (mkF m 179 #[.val (.ref a1), .val (.int p2), .val (.int (v2_7 p2 b0 b1 b2 b3 b4)), .val (.int (j2_1_L3 p2 b0 b1 b2 b3 b4)), .val (.int (j2_1_L4 p2 b0 b1 b2 b3 b4)), .val (.int (j2_1_L5 p2 b0 b1 b2 b3 b4)), .val (.int (j2_2_S0 p2 b0 b1 b2 b3 b4)), .val (.int (1 : Int32)), .unset] [(.int (1 : Int32)), (.int p2), (.ref a1)])) _
        refine XS.iadd X0.here hx rfl (hb hby d2_179) rfl ?_
        exact kt)
      obtain ⟨cl48, Ar48, q48, S48, N48', H48, G48⟩ := V5
      have hin48 : ¬ ((p2 + (1 : Int32)) < 0 ∨ cl48.slots.size ≤ ((p2 + (1 : Int32))).toNatClampNeg) := inb_of S48 (own_bd b0 b1 b2 b3 b4 p2 (1 : Int32) hat (by decide) (by decide) c166_41 c172_45)
      have hat48 : cl48.slots[((p2 + (1 : Int32))).toNatClampNeg]? = some (.int (own_at b0 b1 b2 b3 b4 (p2 + (1 : Int32)))) := H48.at hin48 (own_at_at b0 b1 b2 b3 b4 (p2 + (1 : Int32)) (own_bd b0 b1 b2 b3 b4 p2 (1 : Int32) hat (by decide) (by decide) c166_41 c172_45))
      have V48 : Arv Z h0 a1 kk .byte (5 : Int32) [(.int b0), (.int b1), (.int b2), (.int b3), (.int b4)] (.int (0 : Int32)) := ⟨cl48, Ar48, q48, S48, N48', H48, G48⟩
      have k49 : ∀ t, Steps p.tables e below (s₁.setTop (mkF m 181 #[.val (.ref a1), .val (.int p2), .val (.int (v2_7 p2 b0 b1 b2 b3 b4)), .val (.int (j2_1_L3 p2 b0 b1 b2 b3 b4)), .val (.int (j2_1_L4 p2 b0 b1 b2 b3 b4)), .val (.int (j2_1_L5 p2 b0 b1 b2 b3 b4)), .val (.int (j2_2_S0 p2 b0 b1 b2 b3 b4)), .val (.int (1 : Int32)), .unset] [(.int (own_at b0 b1 b2 b3 b4 (p2 + (1 : Int32))))])) t → Steps p.tables e below (s₁.setTop (mkF m 0 #[.val (.ref a1), .val (.int p2), .unset, .unset, .unset, .unset, .unset, .unset, .unset] [])) t := fun t kt => k47 t (by
        show Steps p.tables e below (s₁.setTop (mkF m 180 #[.val (.ref a1), .val (.int p2), .val (.int (v2_7 p2 b0 b1 b2 b3 b4)), .val (.int (j2_1_L3 p2 b0 b1 b2 b3 b4)), .val (.int (j2_1_L4 p2 b0 b1 b2 b3 b4)), .val (.int (j2_1_L5 p2 b0 b1 b2 b3 b4)), .val (.int (j2_2_S0 p2 b0 b1 b2 b3 b4)), .val (.int (1 : Int32)), .unset] [(.int (p2 + (1 : Int32))), (.ref a1)])) _
        refine X0.baloadBytes hx (j := (p2 + (1 : Int32))) (v := (.int (own_at b0 b1 b2 b3 b4 (p2 + (1 : Int32))))) (by rw [e0]; exact Ar48.1) (State.isArrayOf_alike hZ.alike Ar48.2.1) Ar48.2.2 hin48 hat48 (g := (mkF m 180 #[.val (.ref a1), .val (.int p2), .val (.int (v2_7 p2 b0 b1 b2 b3 b4)), .val (.int (j2_1_L3 p2 b0 b1 b2 b3 b4)), .val (.int (j2_1_L4 p2 b0 b1 b2 b3 b4)), .val (.int (j2_1_L5 p2 b0 b1 b2 b3 b4)), .val (.int (j2_2_S0 p2 b0 b1 b2 b3 b4)), .val (.int (1 : Int32)), .unset] [(.int (p2 + (1 : Int32))), (.ref a1)])) rfl rfl (hb hby d2_180) _ ?_
        exact kt)
      have k50 : ∀ t, Steps p.tables e below (s₁.setTop (mkF m 187 #[.val (.ref a1), .val (.int p2), .val (.int (v2_7 p2 b0 b1 b2 b3 b4)), .val (.int (j2_1_L3 p2 b0 b1 b2 b3 b4)), .val (.int (j2_1_L4 p2 b0 b1 b2 b3 b4)), .val (.int (j2_1_L5 p2 b0 b1 b2 b3 b4)), .val (.int (j2_2_S0 p2 b0 b1 b2 b3 b4)), .val (.int (1 : Int32)), .val (.int ((own_at b0 b1 b2 b3 b4 (p2 + (1 : Int32))) &&& (255 : Int32)))] [])) t → Steps p.tables e below (s₁.setTop (mkF m 0 #[.val (.ref a1), .val (.int p2), .unset, .unset, .unset, .unset, .unset, .unset, .unset] [])) t := fun t kt => k49 t (by
        show Steps p.tables e below (s₁.setTop (mkF m 181 #[.val (.ref a1), .val (.int p2), .val (.int (v2_7 p2 b0 b1 b2 b3 b4)), .val (.int (j2_1_L3 p2 b0 b1 b2 b3 b4)), .val (.int (j2_1_L4 p2 b0 b1 b2 b3 b4)), .val (.int (j2_1_L5 p2 b0 b1 b2 b3 b4)), .val (.int (j2_2_S0 p2 b0 b1 b2 b3 b4)), .val (.int (1 : Int32)), .unset] [(.int (own_at b0 b1 b2 b3 b4 (p2 + (1 : Int32))))])) _
        refine XS.sipush X0.here hx rfl (hb hby d2_181) ?_
        show Steps p.tables e below (s₁.setTop (mkF m 184 #[.val (.ref a1), .val (.int p2), .val (.int (v2_7 p2 b0 b1 b2 b3 b4)), .val (.int (j2_1_L3 p2 b0 b1 b2 b3 b4)), .val (.int (j2_1_L4 p2 b0 b1 b2 b3 b4)), .val (.int (j2_1_L5 p2 b0 b1 b2 b3 b4)), .val (.int (j2_2_S0 p2 b0 b1 b2 b3 b4)), .val (.int (1 : Int32)), .unset] [(.int (255 : Int32)), (.int (own_at b0 b1 b2 b3 b4 (p2 + (1 : Int32))))])) _
        refine XS.iand X0.here hx rfl (hb hby d2_184) rfl ?_
        show Steps p.tables e below (s₁.setTop (mkF m 185 #[.val (.ref a1), .val (.int p2), .val (.int (v2_7 p2 b0 b1 b2 b3 b4)), .val (.int (j2_1_L3 p2 b0 b1 b2 b3 b4)), .val (.int (j2_1_L4 p2 b0 b1 b2 b3 b4)), .val (.int (j2_1_L5 p2 b0 b1 b2 b3 b4)), .val (.int (j2_2_S0 p2 b0 b1 b2 b3 b4)), .val (.int (1 : Int32)), .unset] [(.int ((own_at b0 b1 b2 b3 b4 (p2 + (1 : Int32))) &&& (255 : Int32)))])) _
        refine XS.istore X0.here hx rfl (hb hby d2_185) rfl (l' := #[.val (.ref a1), .val (.int p2), .val (.int (v2_7 p2 b0 b1 b2 b3 b4)), .val (.int (j2_1_L3 p2 b0 b1 b2 b3 b4)), .val (.int (j2_1_L4 p2 b0 b1 b2 b3 b4)), .val (.int (j2_1_L5 p2 b0 b1 b2 b3 b4)), .val (.int (j2_2_S0 p2 b0 b1 b2 b3 b4)), .val (.int (1 : Int32)), .val (.int ((own_at b0 b1 b2 b3 b4 (p2 + (1 : Int32))) &&& (255 : Int32)))]) rfl ?_
        exact kt)
      have k54 : ∀ t, Steps p.tables e below (s₁.setTop (mkF m 236 #[.val (.ref a1), .val (.int p2), .val (.int (v2_7 p2 b0 b1 b2 b3 b4)), .val (.int (j2_1_L3 p2 b0 b1 b2 b3 b4)), .val (.int (j2_1_L4 p2 b0 b1 b2 b3 b4)), .val (.int (j2_1_L5 p2 b0 b1 b2 b3 b4)), .val (.int (j2_2_S0 p2 b0 b1 b2 b3 b4)), .val (.int (1 : Int32)), .val (.int ((own_at b0 b1 b2 b3 b4 (p2 + (1 : Int32))) &&& (255 : Int32)))] [(.int (j2_3_S0 p2 b0 b1 b2 b3 b4))])) t → Steps p.tables e below (s₁.setTop (mkF m 0 #[.val (.ref a1), .val (.int p2), .unset, .unset, .unset, .unset, .unset, .unset, .unset] [])) t := by
        intro t kt
        refine k50 t ?_
        have c190_55 : (1 : Int32) = (1 : Int32) := by decide
        by_cases c197_56 : ((own_at b0 b1 b2 b3 b4 (p2 + (1 : Int32))) &&& (255 : Int32)) < (j2_1_L4 p2 b0 b1 b2 b3 b4)
        · rw [show j2_3_S0 p2 b0 b1 b2 b3 b4 = (0 : Int32) from by unfold j2_3_S0; rw [if_pos c197_56]] at kt
          show Steps p.tables e below (s₁.setTop (mkF m 187 #[.val (.ref a1), .val (.int p2), .val (.int (v2_7 p2 b0 b1 b2 b3 b4)), .val (.int (j2_1_L3 p2 b0 b1 b2 b3 b4)), .val (.int (j2_1_L4 p2 b0 b1 b2 b3 b4)), .val (.int (j2_1_L5 p2 b0 b1 b2 b3 b4)), .val (.int (j2_2_S0 p2 b0 b1 b2 b3 b4)), .val (.int (1 : Int32)), .val (.int ((own_at b0 b1 b2 b3 b4 (p2 + (1 : Int32))) &&& (255 : Int32)))] [])) _
          refine XS.iload X0.here hx rfl (hb hby d2_187) rfl ?_
          show Steps p.tables e below (s₁.setTop (mkF m 189 #[.val (.ref a1), .val (.int p2), .val (.int (v2_7 p2 b0 b1 b2 b3 b4)), .val (.int (j2_1_L3 p2 b0 b1 b2 b3 b4)), .val (.int (j2_1_L4 p2 b0 b1 b2 b3 b4)), .val (.int (j2_1_L5 p2 b0 b1 b2 b3 b4)), .val (.int (j2_2_S0 p2 b0 b1 b2 b3 b4)), .val (.int (1 : Int32)), .val (.int ((own_at b0 b1 b2 b3 b4 (p2 + (1 : Int32))) &&& (255 : Int32)))] [(.int (1 : Int32))])) _
          refine XS.iconst X0.here hx rfl (hb hby d2_189) ?_
          show Steps p.tables e below (s₁.setTop (mkF m 190 #[.val (.ref a1), .val (.int p2), .val (.int (v2_7 p2 b0 b1 b2 b3 b4)), .val (.int (j2_1_L3 p2 b0 b1 b2 b3 b4)), .val (.int (j2_1_L4 p2 b0 b1 b2 b3 b4)), .val (.int (j2_1_L5 p2 b0 b1 b2 b3 b4)), .val (.int (j2_2_S0 p2 b0 b1 b2 b3 b4)), .val (.int (1 : Int32)), .val (.int ((own_at b0 b1 b2 b3 b4 (p2 + (1 : Int32))) &&& (255 : Int32)))] [(.int (1 : Int32)), (.int (1 : Int32))])) _
          refine XS.icmpNo X0.here hx rfl (hb hby d2_190) rfl (teq c190_55).2 ?_
          show Steps p.tables e below (s₁.setTop (mkF m 193 #[.val (.ref a1), .val (.int p2), .val (.int (v2_7 p2 b0 b1 b2 b3 b4)), .val (.int (j2_1_L3 p2 b0 b1 b2 b3 b4)), .val (.int (j2_1_L4 p2 b0 b1 b2 b3 b4)), .val (.int (j2_1_L5 p2 b0 b1 b2 b3 b4)), .val (.int (j2_2_S0 p2 b0 b1 b2 b3 b4)), .val (.int (1 : Int32)), .val (.int ((own_at b0 b1 b2 b3 b4 (p2 + (1 : Int32))) &&& (255 : Int32)))] [])) _
          refine XS.iload X0.here hx rfl (hb hby d2_193) rfl ?_
          show Steps p.tables e below (s₁.setTop (mkF m 195 #[.val (.ref a1), .val (.int p2), .val (.int (v2_7 p2 b0 b1 b2 b3 b4)), .val (.int (j2_1_L3 p2 b0 b1 b2 b3 b4)), .val (.int (j2_1_L4 p2 b0 b1 b2 b3 b4)), .val (.int (j2_1_L5 p2 b0 b1 b2 b3 b4)), .val (.int (j2_2_S0 p2 b0 b1 b2 b3 b4)), .val (.int (1 : Int32)), .val (.int ((own_at b0 b1 b2 b3 b4 (p2 + (1 : Int32))) &&& (255 : Int32)))] [(.int ((own_at b0 b1 b2 b3 b4 (p2 + (1 : Int32))) &&& (255 : Int32)))])) _
          refine XS.iload X0.here hx rfl (hb hby d2_195) rfl ?_
          show Steps p.tables e below (s₁.setTop (mkF m 197 #[.val (.ref a1), .val (.int p2), .val (.int (v2_7 p2 b0 b1 b2 b3 b4)), .val (.int (j2_1_L3 p2 b0 b1 b2 b3 b4)), .val (.int (j2_1_L4 p2 b0 b1 b2 b3 b4)), .val (.int (j2_1_L5 p2 b0 b1 b2 b3 b4)), .val (.int (j2_2_S0 p2 b0 b1 b2 b3 b4)), .val (.int (1 : Int32)), .val (.int ((own_at b0 b1 b2 b3 b4 (p2 + (1 : Int32))) &&& (255 : Int32)))] [(.int (j2_1_L4 p2 b0 b1 b2 b3 b4)), (.int ((own_at b0 b1 b2 b3 b4 (p2 + (1 : Int32))) &&& (255 : Int32)))])) _
          refine XS.icmpYes X0.here hx rfl (pc0 := 197) (pc' := 211) rfl (hb hby d2_197) rfl (tlt c197_56).1 (by decide) (by decide) ?_
          show Steps p.tables e below (s₁.setTop (mkF m 211 #[.val (.ref a1), .val (.int p2), .val (.int (v2_7 p2 b0 b1 b2 b3 b4)), .val (.int (j2_1_L3 p2 b0 b1 b2 b3 b4)), .val (.int (j2_1_L4 p2 b0 b1 b2 b3 b4)), .val (.int (j2_1_L5 p2 b0 b1 b2 b3 b4)), .val (.int (j2_2_S0 p2 b0 b1 b2 b3 b4)), .val (.int (1 : Int32)), .val (.int ((own_at b0 b1 b2 b3 b4 (p2 + (1 : Int32))) &&& (255 : Int32)))] [])) _
          refine XS.iconst X0.here hx rfl (hb hby d2_211) ?_
          show Steps p.tables e below (s₁.setTop (mkF m 212 #[.val (.ref a1), .val (.int p2), .val (.int (v2_7 p2 b0 b1 b2 b3 b4)), .val (.int (j2_1_L3 p2 b0 b1 b2 b3 b4)), .val (.int (j2_1_L4 p2 b0 b1 b2 b3 b4)), .val (.int (j2_1_L5 p2 b0 b1 b2 b3 b4)), .val (.int (j2_2_S0 p2 b0 b1 b2 b3 b4)), .val (.int (1 : Int32)), .val (.int ((own_at b0 b1 b2 b3 b4 (p2 + (1 : Int32))) &&& (255 : Int32)))] [(.int (0 : Int32))])) _
          refine XS.goto X0.here hx rfl (pc0 := 212) (pc' := 236) rfl (hb hby d2_212) (by decide) (by decide) ?_
          exact kt
        · by_cases c204_57 : (j2_1_L5 p2 b0 b1 b2 b3 b4) < ((own_at b0 b1 b2 b3 b4 (p2 + (1 : Int32))) &&& (255 : Int32))
          · rw [show j2_3_S0 p2 b0 b1 b2 b3 b4 = (0 : Int32) from by unfold j2_3_S0; rw [if_neg c197_56, if_pos c204_57]] at kt
            show Steps p.tables e below (s₁.setTop (mkF m 187 #[.val (.ref a1), .val (.int p2), .val (.int (v2_7 p2 b0 b1 b2 b3 b4)), .val (.int (j2_1_L3 p2 b0 b1 b2 b3 b4)), .val (.int (j2_1_L4 p2 b0 b1 b2 b3 b4)), .val (.int (j2_1_L5 p2 b0 b1 b2 b3 b4)), .val (.int (j2_2_S0 p2 b0 b1 b2 b3 b4)), .val (.int (1 : Int32)), .val (.int ((own_at b0 b1 b2 b3 b4 (p2 + (1 : Int32))) &&& (255 : Int32)))] [])) _
            refine XS.iload X0.here hx rfl (hb hby d2_187) rfl ?_
            show Steps p.tables e below (s₁.setTop (mkF m 189 #[.val (.ref a1), .val (.int p2), .val (.int (v2_7 p2 b0 b1 b2 b3 b4)), .val (.int (j2_1_L3 p2 b0 b1 b2 b3 b4)), .val (.int (j2_1_L4 p2 b0 b1 b2 b3 b4)), .val (.int (j2_1_L5 p2 b0 b1 b2 b3 b4)), .val (.int (j2_2_S0 p2 b0 b1 b2 b3 b4)), .val (.int (1 : Int32)), .val (.int ((own_at b0 b1 b2 b3 b4 (p2 + (1 : Int32))) &&& (255 : Int32)))] [(.int (1 : Int32))])) _
            refine XS.iconst X0.here hx rfl (hb hby d2_189) ?_
            show Steps p.tables e below (s₁.setTop (mkF m 190 #[.val (.ref a1), .val (.int p2), .val (.int (v2_7 p2 b0 b1 b2 b3 b4)), .val (.int (j2_1_L3 p2 b0 b1 b2 b3 b4)), .val (.int (j2_1_L4 p2 b0 b1 b2 b3 b4)), .val (.int (j2_1_L5 p2 b0 b1 b2 b3 b4)), .val (.int (j2_2_S0 p2 b0 b1 b2 b3 b4)), .val (.int (1 : Int32)), .val (.int ((own_at b0 b1 b2 b3 b4 (p2 + (1 : Int32))) &&& (255 : Int32)))] [(.int (1 : Int32)), (.int (1 : Int32))])) _
            refine XS.icmpNo X0.here hx rfl (hb hby d2_190) rfl (teq c190_55).2 ?_
            show Steps p.tables e below (s₁.setTop (mkF m 193 #[.val (.ref a1), .val (.int p2), .val (.int (v2_7 p2 b0 b1 b2 b3 b4)), .val (.int (j2_1_L3 p2 b0 b1 b2 b3 b4)), .val (.int (j2_1_L4 p2 b0 b1 b2 b3 b4)), .val (.int (j2_1_L5 p2 b0 b1 b2 b3 b4)), .val (.int (j2_2_S0 p2 b0 b1 b2 b3 b4)), .val (.int (1 : Int32)), .val (.int ((own_at b0 b1 b2 b3 b4 (p2 + (1 : Int32))) &&& (255 : Int32)))] [])) _
            refine XS.iload X0.here hx rfl (hb hby d2_193) rfl ?_
            show Steps p.tables e below (s₁.setTop (mkF m 195 #[.val (.ref a1), .val (.int p2), .val (.int (v2_7 p2 b0 b1 b2 b3 b4)), .val (.int (j2_1_L3 p2 b0 b1 b2 b3 b4)), .val (.int (j2_1_L4 p2 b0 b1 b2 b3 b4)), .val (.int (j2_1_L5 p2 b0 b1 b2 b3 b4)), .val (.int (j2_2_S0 p2 b0 b1 b2 b3 b4)), .val (.int (1 : Int32)), .val (.int ((own_at b0 b1 b2 b3 b4 (p2 + (1 : Int32))) &&& (255 : Int32)))] [(.int ((own_at b0 b1 b2 b3 b4 (p2 + (1 : Int32))) &&& (255 : Int32)))])) _
            refine XS.iload X0.here hx rfl (hb hby d2_195) rfl ?_
            show Steps p.tables e below (s₁.setTop (mkF m 197 #[.val (.ref a1), .val (.int p2), .val (.int (v2_7 p2 b0 b1 b2 b3 b4)), .val (.int (j2_1_L3 p2 b0 b1 b2 b3 b4)), .val (.int (j2_1_L4 p2 b0 b1 b2 b3 b4)), .val (.int (j2_1_L5 p2 b0 b1 b2 b3 b4)), .val (.int (j2_2_S0 p2 b0 b1 b2 b3 b4)), .val (.int (1 : Int32)), .val (.int ((own_at b0 b1 b2 b3 b4 (p2 + (1 : Int32))) &&& (255 : Int32)))] [(.int (j2_1_L4 p2 b0 b1 b2 b3 b4)), (.int ((own_at b0 b1 b2 b3 b4 (p2 + (1 : Int32))) &&& (255 : Int32)))])) _
            refine XS.icmpNo X0.here hx rfl (hb hby d2_197) rfl (flt c197_56).1 ?_
            show Steps p.tables e below (s₁.setTop (mkF m 200 #[.val (.ref a1), .val (.int p2), .val (.int (v2_7 p2 b0 b1 b2 b3 b4)), .val (.int (j2_1_L3 p2 b0 b1 b2 b3 b4)), .val (.int (j2_1_L4 p2 b0 b1 b2 b3 b4)), .val (.int (j2_1_L5 p2 b0 b1 b2 b3 b4)), .val (.int (j2_2_S0 p2 b0 b1 b2 b3 b4)), .val (.int (1 : Int32)), .val (.int ((own_at b0 b1 b2 b3 b4 (p2 + (1 : Int32))) &&& (255 : Int32)))] [])) _
            refine XS.iload X0.here hx rfl (hb hby d2_200) rfl ?_
            show Steps p.tables e below (s₁.setTop (mkF m 202 #[.val (.ref a1), .val (.int p2), .val (.int (v2_7 p2 b0 b1 b2 b3 b4)), .val (.int (j2_1_L3 p2 b0 b1 b2 b3 b4)), .val (.int (j2_1_L4 p2 b0 b1 b2 b3 b4)), .val (.int (j2_1_L5 p2 b0 b1 b2 b3 b4)), .val (.int (j2_2_S0 p2 b0 b1 b2 b3 b4)), .val (.int (1 : Int32)), .val (.int ((own_at b0 b1 b2 b3 b4 (p2 + (1 : Int32))) &&& (255 : Int32)))] [(.int ((own_at b0 b1 b2 b3 b4 (p2 + (1 : Int32))) &&& (255 : Int32)))])) _
            refine XS.iload X0.here hx rfl (hb hby d2_202) rfl ?_
            show Steps p.tables e below (s₁.setTop (mkF m 204 #[.val (.ref a1), .val (.int p2), .val (.int (v2_7 p2 b0 b1 b2 b3 b4)), .val (.int (j2_1_L3 p2 b0 b1 b2 b3 b4)), .val (.int (j2_1_L4 p2 b0 b1 b2 b3 b4)), .val (.int (j2_1_L5 p2 b0 b1 b2 b3 b4)), .val (.int (j2_2_S0 p2 b0 b1 b2 b3 b4)), .val (.int (1 : Int32)), .val (.int ((own_at b0 b1 b2 b3 b4 (p2 + (1 : Int32))) &&& (255 : Int32)))] [(.int (j2_1_L5 p2 b0 b1 b2 b3 b4)), (.int ((own_at b0 b1 b2 b3 b4 (p2 + (1 : Int32))) &&& (255 : Int32)))])) _
            refine XS.icmpYes X0.here hx rfl (pc0 := 204) (pc' := 211) rfl (hb hby d2_204) rfl (tlt c204_57).2.2.1 (by decide) (by decide) ?_
            show Steps p.tables e below (s₁.setTop (mkF m 211 #[.val (.ref a1), .val (.int p2), .val (.int (v2_7 p2 b0 b1 b2 b3 b4)), .val (.int (j2_1_L3 p2 b0 b1 b2 b3 b4)), .val (.int (j2_1_L4 p2 b0 b1 b2 b3 b4)), .val (.int (j2_1_L5 p2 b0 b1 b2 b3 b4)), .val (.int (j2_2_S0 p2 b0 b1 b2 b3 b4)), .val (.int (1 : Int32)), .val (.int ((own_at b0 b1 b2 b3 b4 (p2 + (1 : Int32))) &&& (255 : Int32)))] [])) _
            refine XS.iconst X0.here hx rfl (hb hby d2_211) ?_
            show Steps p.tables e below (s₁.setTop (mkF m 212 #[.val (.ref a1), .val (.int p2), .val (.int (v2_7 p2 b0 b1 b2 b3 b4)), .val (.int (j2_1_L3 p2 b0 b1 b2 b3 b4)), .val (.int (j2_1_L4 p2 b0 b1 b2 b3 b4)), .val (.int (j2_1_L5 p2 b0 b1 b2 b3 b4)), .val (.int (j2_2_S0 p2 b0 b1 b2 b3 b4)), .val (.int (1 : Int32)), .val (.int ((own_at b0 b1 b2 b3 b4 (p2 + (1 : Int32))) &&& (255 : Int32)))] [(.int (0 : Int32))])) _
            refine XS.goto X0.here hx rfl (pc0 := 212) (pc' := 236) rfl (hb hby d2_212) (by decide) (by decide) ?_
            exact kt
          · rw [show j2_3_S0 p2 b0 b1 b2 b3 b4 = (1 : Int32) from by unfold j2_3_S0; rw [if_neg c197_56, if_neg c204_57]] at kt
            show Steps p.tables e below (s₁.setTop (mkF m 187 #[.val (.ref a1), .val (.int p2), .val (.int (v2_7 p2 b0 b1 b2 b3 b4)), .val (.int (j2_1_L3 p2 b0 b1 b2 b3 b4)), .val (.int (j2_1_L4 p2 b0 b1 b2 b3 b4)), .val (.int (j2_1_L5 p2 b0 b1 b2 b3 b4)), .val (.int (j2_2_S0 p2 b0 b1 b2 b3 b4)), .val (.int (1 : Int32)), .val (.int ((own_at b0 b1 b2 b3 b4 (p2 + (1 : Int32))) &&& (255 : Int32)))] [])) _
            refine XS.iload X0.here hx rfl (hb hby d2_187) rfl ?_
            show Steps p.tables e below (s₁.setTop (mkF m 189 #[.val (.ref a1), .val (.int p2), .val (.int (v2_7 p2 b0 b1 b2 b3 b4)), .val (.int (j2_1_L3 p2 b0 b1 b2 b3 b4)), .val (.int (j2_1_L4 p2 b0 b1 b2 b3 b4)), .val (.int (j2_1_L5 p2 b0 b1 b2 b3 b4)), .val (.int (j2_2_S0 p2 b0 b1 b2 b3 b4)), .val (.int (1 : Int32)), .val (.int ((own_at b0 b1 b2 b3 b4 (p2 + (1 : Int32))) &&& (255 : Int32)))] [(.int (1 : Int32))])) _
            refine XS.iconst X0.here hx rfl (hb hby d2_189) ?_
            show Steps p.tables e below (s₁.setTop (mkF m 190 #[.val (.ref a1), .val (.int p2), .val (.int (v2_7 p2 b0 b1 b2 b3 b4)), .val (.int (j2_1_L3 p2 b0 b1 b2 b3 b4)), .val (.int (j2_1_L4 p2 b0 b1 b2 b3 b4)), .val (.int (j2_1_L5 p2 b0 b1 b2 b3 b4)), .val (.int (j2_2_S0 p2 b0 b1 b2 b3 b4)), .val (.int (1 : Int32)), .val (.int ((own_at b0 b1 b2 b3 b4 (p2 + (1 : Int32))) &&& (255 : Int32)))] [(.int (1 : Int32)), (.int (1 : Int32))])) _
            refine XS.icmpNo X0.here hx rfl (hb hby d2_190) rfl (teq c190_55).2 ?_
            show Steps p.tables e below (s₁.setTop (mkF m 193 #[.val (.ref a1), .val (.int p2), .val (.int (v2_7 p2 b0 b1 b2 b3 b4)), .val (.int (j2_1_L3 p2 b0 b1 b2 b3 b4)), .val (.int (j2_1_L4 p2 b0 b1 b2 b3 b4)), .val (.int (j2_1_L5 p2 b0 b1 b2 b3 b4)), .val (.int (j2_2_S0 p2 b0 b1 b2 b3 b4)), .val (.int (1 : Int32)), .val (.int ((own_at b0 b1 b2 b3 b4 (p2 + (1 : Int32))) &&& (255 : Int32)))] [])) _
            refine XS.iload X0.here hx rfl (hb hby d2_193) rfl ?_
            show Steps p.tables e below (s₁.setTop (mkF m 195 #[.val (.ref a1), .val (.int p2), .val (.int (v2_7 p2 b0 b1 b2 b3 b4)), .val (.int (j2_1_L3 p2 b0 b1 b2 b3 b4)), .val (.int (j2_1_L4 p2 b0 b1 b2 b3 b4)), .val (.int (j2_1_L5 p2 b0 b1 b2 b3 b4)), .val (.int (j2_2_S0 p2 b0 b1 b2 b3 b4)), .val (.int (1 : Int32)), .val (.int ((own_at b0 b1 b2 b3 b4 (p2 + (1 : Int32))) &&& (255 : Int32)))] [(.int ((own_at b0 b1 b2 b3 b4 (p2 + (1 : Int32))) &&& (255 : Int32)))])) _
            refine XS.iload X0.here hx rfl (hb hby d2_195) rfl ?_
            show Steps p.tables e below (s₁.setTop (mkF m 197 #[.val (.ref a1), .val (.int p2), .val (.int (v2_7 p2 b0 b1 b2 b3 b4)), .val (.int (j2_1_L3 p2 b0 b1 b2 b3 b4)), .val (.int (j2_1_L4 p2 b0 b1 b2 b3 b4)), .val (.int (j2_1_L5 p2 b0 b1 b2 b3 b4)), .val (.int (j2_2_S0 p2 b0 b1 b2 b3 b4)), .val (.int (1 : Int32)), .val (.int ((own_at b0 b1 b2 b3 b4 (p2 + (1 : Int32))) &&& (255 : Int32)))] [(.int (j2_1_L4 p2 b0 b1 b2 b3 b4)), (.int ((own_at b0 b1 b2 b3 b4 (p2 + (1 : Int32))) &&& (255 : Int32)))])) _
            refine XS.icmpNo X0.here hx rfl (hb hby d2_197) rfl (flt c197_56).1 ?_
            show Steps p.tables e below (s₁.setTop (mkF m 200 #[.val (.ref a1), .val (.int p2), .val (.int (v2_7 p2 b0 b1 b2 b3 b4)), .val (.int (j2_1_L3 p2 b0 b1 b2 b3 b4)), .val (.int (j2_1_L4 p2 b0 b1 b2 b3 b4)), .val (.int (j2_1_L5 p2 b0 b1 b2 b3 b4)), .val (.int (j2_2_S0 p2 b0 b1 b2 b3 b4)), .val (.int (1 : Int32)), .val (.int ((own_at b0 b1 b2 b3 b4 (p2 + (1 : Int32))) &&& (255 : Int32)))] [])) _
            refine XS.iload X0.here hx rfl (hb hby d2_200) rfl ?_
            show Steps p.tables e below (s₁.setTop (mkF m 202 #[.val (.ref a1), .val (.int p2), .val (.int (v2_7 p2 b0 b1 b2 b3 b4)), .val (.int (j2_1_L3 p2 b0 b1 b2 b3 b4)), .val (.int (j2_1_L4 p2 b0 b1 b2 b3 b4)), .val (.int (j2_1_L5 p2 b0 b1 b2 b3 b4)), .val (.int (j2_2_S0 p2 b0 b1 b2 b3 b4)), .val (.int (1 : Int32)), .val (.int ((own_at b0 b1 b2 b3 b4 (p2 + (1 : Int32))) &&& (255 : Int32)))] [(.int ((own_at b0 b1 b2 b3 b4 (p2 + (1 : Int32))) &&& (255 : Int32)))])) _
            refine XS.iload X0.here hx rfl (hb hby d2_202) rfl ?_
            show Steps p.tables e below (s₁.setTop (mkF m 204 #[.val (.ref a1), .val (.int p2), .val (.int (v2_7 p2 b0 b1 b2 b3 b4)), .val (.int (j2_1_L3 p2 b0 b1 b2 b3 b4)), .val (.int (j2_1_L4 p2 b0 b1 b2 b3 b4)), .val (.int (j2_1_L5 p2 b0 b1 b2 b3 b4)), .val (.int (j2_2_S0 p2 b0 b1 b2 b3 b4)), .val (.int (1 : Int32)), .val (.int ((own_at b0 b1 b2 b3 b4 (p2 + (1 : Int32))) &&& (255 : Int32)))] [(.int (j2_1_L5 p2 b0 b1 b2 b3 b4)), (.int ((own_at b0 b1 b2 b3 b4 (p2 + (1 : Int32))) &&& (255 : Int32)))])) _
            refine XS.icmpNo X0.here hx rfl (hb hby d2_204) rfl (flt c204_57).2.2.1 ?_
            show Steps p.tables e below (s₁.setTop (mkF m 207 #[.val (.ref a1), .val (.int p2), .val (.int (v2_7 p2 b0 b1 b2 b3 b4)), .val (.int (j2_1_L3 p2 b0 b1 b2 b3 b4)), .val (.int (j2_1_L4 p2 b0 b1 b2 b3 b4)), .val (.int (j2_1_L5 p2 b0 b1 b2 b3 b4)), .val (.int (j2_2_S0 p2 b0 b1 b2 b3 b4)), .val (.int (1 : Int32)), .val (.int ((own_at b0 b1 b2 b3 b4 (p2 + (1 : Int32))) &&& (255 : Int32)))] [])) _
            refine XS.iconst X0.here hx rfl (hb hby d2_207) ?_
            show Steps p.tables e below (s₁.setTop (mkF m 208 #[.val (.ref a1), .val (.int p2), .val (.int (v2_7 p2 b0 b1 b2 b3 b4)), .val (.int (j2_1_L3 p2 b0 b1 b2 b3 b4)), .val (.int (j2_1_L4 p2 b0 b1 b2 b3 b4)), .val (.int (j2_1_L5 p2 b0 b1 b2 b3 b4)), .val (.int (j2_2_S0 p2 b0 b1 b2 b3 b4)), .val (.int (1 : Int32)), .val (.int ((own_at b0 b1 b2 b3 b4 (p2 + (1 : Int32))) &&& (255 : Int32)))] [(.int (1 : Int32))])) _
            refine XS.goto X0.here hx rfl (pc0 := 208) (pc' := 236) rfl (hb hby d2_208) (by decide) (by decide) ?_
            exact kt
      have k59 : ∀ t, Steps p.tables e below (s₁.setTop (mkF m 166 #[.val (.ref a1), .val (.int p2), .val (.int (v2_7 p2 b0 b1 b2 b3 b4)), .val (.int (j2_1_L3 p2 b0 b1 b2 b3 b4)), .val (.int (j2_1_L4 p2 b0 b1 b2 b3 b4)), .val (.int (j2_1_L5 p2 b0 b1 b2 b3 b4)), .val (.int (j2_3_S0 p2 b0 b1 b2 b3 b4)), .val (.int (2 : Int32)), .val (.int ((own_at b0 b1 b2 b3 b4 (p2 + (1 : Int32))) &&& (255 : Int32)))] [(.int (j2_3_S0 p2 b0 b1 b2 b3 b4))])) t → Steps p.tables e below (s₁.setTop (mkF m 0 #[.val (.ref a1), .val (.int p2), .unset, .unset, .unset, .unset, .unset, .unset, .unset] [])) t := fun t kt => k54 t (by
        show Steps p.tables e below (s₁.setTop (mkF m 236 #[.val (.ref a1), .val (.int p2), .val (.int (v2_7 p2 b0 b1 b2 b3 b4)), .val (.int (j2_1_L3 p2 b0 b1 b2 b3 b4)), .val (.int (j2_1_L4 p2 b0 b1 b2 b3 b4)), .val (.int (j2_1_L5 p2 b0 b1 b2 b3 b4)), .val (.int (j2_2_S0 p2 b0 b1 b2 b3 b4)), .val (.int (1 : Int32)), .val (.int ((own_at b0 b1 b2 b3 b4 (p2 + (1 : Int32))) &&& (255 : Int32)))] [(.int (j2_3_S0 p2 b0 b1 b2 b3 b4))])) _
        refine XS.istore X0.here hx rfl (hb hby d2_236) rfl (l' := #[.val (.ref a1), .val (.int p2), .val (.int (v2_7 p2 b0 b1 b2 b3 b4)), .val (.int (j2_1_L3 p2 b0 b1 b2 b3 b4)), .val (.int (j2_1_L4 p2 b0 b1 b2 b3 b4)), .val (.int (j2_1_L5 p2 b0 b1 b2 b3 b4)), .val (.int (j2_3_S0 p2 b0 b1 b2 b3 b4)), .val (.int (1 : Int32)), .val (.int ((own_at b0 b1 b2 b3 b4 (p2 + (1 : Int32))) &&& (255 : Int32)))]) rfl ?_
        show Steps p.tables e below (s₁.setTop (mkF m 238 #[.val (.ref a1), .val (.int p2), .val (.int (v2_7 p2 b0 b1 b2 b3 b4)), .val (.int (j2_1_L3 p2 b0 b1 b2 b3 b4)), .val (.int (j2_1_L4 p2 b0 b1 b2 b3 b4)), .val (.int (j2_1_L5 p2 b0 b1 b2 b3 b4)), .val (.int (j2_3_S0 p2 b0 b1 b2 b3 b4)), .val (.int (1 : Int32)), .val (.int ((own_at b0 b1 b2 b3 b4 (p2 + (1 : Int32))) &&& (255 : Int32)))] [])) _
        refine XS.iinc X0.here hx rfl (hb hby d2_238) rfl (l' := #[.val (.ref a1), .val (.int p2), .val (.int (v2_7 p2 b0 b1 b2 b3 b4)), .val (.int (j2_1_L3 p2 b0 b1 b2 b3 b4)), .val (.int (j2_1_L4 p2 b0 b1 b2 b3 b4)), .val (.int (j2_1_L5 p2 b0 b1 b2 b3 b4)), .val (.int (j2_3_S0 p2 b0 b1 b2 b3 b4)), .val (.int (2 : Int32)), .val (.int ((own_at b0 b1 b2 b3 b4 (p2 + (1 : Int32))) &&& (255 : Int32)))]) rfl ?_
        show Steps p.tables e below (s₁.setTop (mkF m 241 #[.val (.ref a1), .val (.int p2), .val (.int (v2_7 p2 b0 b1 b2 b3 b4)), .val (.int (j2_1_L3 p2 b0 b1 b2 b3 b4)), .val (.int (j2_1_L4 p2 b0 b1 b2 b3 b4)), .val (.int (j2_1_L5 p2 b0 b1 b2 b3 b4)), .val (.int (j2_3_S0 p2 b0 b1 b2 b3 b4)), .val (.int (2 : Int32)), .val (.int ((own_at b0 b1 b2 b3 b4 (p2 + (1 : Int32))) &&& (255 : Int32)))] [])) _
        refine XS.goto X0.here hx rfl (pc0 := 241) (pc' := 164) rfl (hb hby d2_241) (by decide) (by decide) ?_
        show Steps p.tables e below (s₁.setTop (mkF m 164 #[.val (.ref a1), .val (.int p2), .val (.int (v2_7 p2 b0 b1 b2 b3 b4)), .val (.int (j2_1_L3 p2 b0 b1 b2 b3 b4)), .val (.int (j2_1_L4 p2 b0 b1 b2 b3 b4)), .val (.int (j2_1_L5 p2 b0 b1 b2 b3 b4)), .val (.int (j2_3_S0 p2 b0 b1 b2 b3 b4)), .val (.int (2 : Int32)), .val (.int ((own_at b0 b1 b2 b3 b4 (p2 + (1 : Int32))) &&& (255 : Int32)))] [])) _
        refine XS.iload X0.here hx rfl (hb hby d2_164) rfl ?_
        exact kt)
      by_cases c166_58 : (j2_3_S0 p2 b0 b1 b2 b3 b4) = (0 : Int32)
      · have k61 : ∀ t, Steps p.tables e below (s₁.setTop (mkF m 246 #[.val (.ref a1), .val (.int p2), .val (.int (v2_7 p2 b0 b1 b2 b3 b4)), .val (.int (j2_1_L3 p2 b0 b1 b2 b3 b4)), .val (.int (j2_1_L4 p2 b0 b1 b2 b3 b4)), .val (.int (j2_1_L5 p2 b0 b1 b2 b3 b4)), .val (.int (j2_3_S0 p2 b0 b1 b2 b3 b4)), .val (.int (2 : Int32)), .val (.int ((own_at b0 b1 b2 b3 b4 (p2 + (1 : Int32))) &&& (255 : Int32)))] [(.int (j2_3_S0 p2 b0 b1 b2 b3 b4))])) t → Steps p.tables e below (s₁.setTop (mkF m 0 #[.val (.ref a1), .val (.int p2), .unset, .unset, .unset, .unset, .unset, .unset, .unset] [])) t := fun t kt => k59 t (by
          show Steps p.tables e below (s₁.setTop (mkF m 166 #[.val (.ref a1), .val (.int p2), .val (.int (v2_7 p2 b0 b1 b2 b3 b4)), .val (.int (j2_1_L3 p2 b0 b1 b2 b3 b4)), .val (.int (j2_1_L4 p2 b0 b1 b2 b3 b4)), .val (.int (j2_1_L5 p2 b0 b1 b2 b3 b4)), .val (.int (j2_3_S0 p2 b0 b1 b2 b3 b4)), .val (.int (2 : Int32)), .val (.int ((own_at b0 b1 b2 b3 b4 (p2 + (1 : Int32))) &&& (255 : Int32)))] [(.int (j2_3_S0 p2 b0 b1 b2 b3 b4))])) _
          refine XS.ifYes X0.here hx rfl (pc0 := 166) (pc' := 244) rfl (hb hby d2_166) rfl ((if0 _ _).trans (teq c166_58).1) (by decide) (by decide) ?_
          show Steps p.tables e below (s₁.setTop (mkF m 244 #[.val (.ref a1), .val (.int p2), .val (.int (v2_7 p2 b0 b1 b2 b3 b4)), .val (.int (j2_1_L3 p2 b0 b1 b2 b3 b4)), .val (.int (j2_1_L4 p2 b0 b1 b2 b3 b4)), .val (.int (j2_1_L5 p2 b0 b1 b2 b3 b4)), .val (.int (j2_3_S0 p2 b0 b1 b2 b3 b4)), .val (.int (2 : Int32)), .val (.int ((own_at b0 b1 b2 b3 b4 (p2 + (1 : Int32))) &&& (255 : Int32)))] [])) _
          refine XS.iload X0.here hx rfl (hb hby d2_244) rfl ?_
          exact kt)
        by_cases c246_60 : (j2_3_S0 p2 b0 b1 b2 b3 b4) = (0 : Int32)
        · obtain ⟨fs, hr, hrun, hended, hW, hsame⟩ := X0.leave (v := some (.int (-1 : Int32))) (fun h => by rw [Bd.returns] at h; cases h)
          refine ⟨_, _, pre0 _ (k61 _ ?_), hrun, hended, _, _, rfl, ?_, ⟨_, rfl⟩, hW, hsame.mono (by decide) (by decide)⟩
          · show Steps p.tables e below (s₁.setTop (mkF m 246 #[.val (.ref a1), .val (.int p2), .val (.int (v2_7 p2 b0 b1 b2 b3 b4)), .val (.int (j2_1_L3 p2 b0 b1 b2 b3 b4)), .val (.int (j2_1_L4 p2 b0 b1 b2 b3 b4)), .val (.int (j2_1_L5 p2 b0 b1 b2 b3 b4)), .val (.int (j2_3_S0 p2 b0 b1 b2 b3 b4)), .val (.int (2 : Int32)), .val (.int ((own_at b0 b1 b2 b3 b4 (p2 + (1 : Int32))) &&& (255 : Int32)))] [(.int (j2_3_S0 p2 b0 b1 b2 b3 b4))])) _
            refine XS.ifYes X0.here hx rfl (pc0 := 246) (pc' := 255) rfl (hb hby d2_246) rfl ((if0 _ _).trans (teq c246_60).1) (by decide) (by decide) ?_
            show Steps p.tables e below (s₁.setTop (mkF m 255 #[.val (.ref a1), .val (.int p2), .val (.int (v2_7 p2 b0 b1 b2 b3 b4)), .val (.int (j2_1_L3 p2 b0 b1 b2 b3 b4)), .val (.int (j2_1_L4 p2 b0 b1 b2 b3 b4)), .val (.int (j2_1_L5 p2 b0 b1 b2 b3 b4)), .val (.int (j2_3_S0 p2 b0 b1 b2 b3 b4)), .val (.int (2 : Int32)), .val (.int ((own_at b0 b1 b2 b3 b4 (p2 + (1 : Int32))) &&& (255 : Int32)))] [])) _
            refine XS.iconst X0.here hx rfl (hb hby d2_255) ?_
            show Steps p.tables e below (s₁.setTop (mkF m 256 #[.val (.ref a1), .val (.int p2), .val (.int (v2_7 p2 b0 b1 b2 b3 b4)), .val (.int (j2_1_L3 p2 b0 b1 b2 b3 b4)), .val (.int (j2_1_L4 p2 b0 b1 b2 b3 b4)), .val (.int (j2_1_L5 p2 b0 b1 b2 b3 b4)), .val (.int (j2_3_S0 p2 b0 b1 b2 b3 b4)), .val (.int (2 : Int32)), .val (.int ((own_at b0 b1 b2 b3 b4 (p2 + (1 : Int32))) &&& (255 : Int32)))] [(.int (-1 : Int32))])) _
            exact retI X0 hx Bd.returns (hb hby d2_256) hr
          · show Q2 Z a1 p2 b0 b1 b2 b3 b4 kk h0 n0 _ s₁.heap _
            rw [e0]
            have hv : sp2 p2 b0 b1 b2 b3 b4 = (-1 : Int32) := by unfold sp2; rw [if_neg c166_41, if_pos c172_45, if_pos c166_58, if_pos c246_60]
            exact ⟨by rw [hv], N0, rfl⟩
        · obtain ⟨fs, hr, hrun, hended, hW, hsame⟩ := X0.leave (v := some (.int (p2 + (j2_1_L3 p2 b0 b1 b2 b3 b4)))) (fun h => by rw [Bd.returns] at h; cases h)
          refine ⟨_, _, pre0 _ (k61 _ ?_), hrun, hended, _, _, rfl, ?_, ⟨_, rfl⟩, hW, hsame.mono (by decide) (by decide)⟩
          · show Steps p.tables e below (s₁.setTop (mkF m 246 #[.val (.ref a1), .val (.int p2), .val (.int (v2_7 p2 b0 b1 b2 b3 b4)), .val (.int (j2_1_L3 p2 b0 b1 b2 b3 b4)), .val (.int (j2_1_L4 p2 b0 b1 b2 b3 b4)), .val (.int (j2_1_L5 p2 b0 b1 b2 b3 b4)), .val (.int (j2_3_S0 p2 b0 b1 b2 b3 b4)), .val (.int (2 : Int32)), .val (.int ((own_at b0 b1 b2 b3 b4 (p2 + (1 : Int32))) &&& (255 : Int32)))] [(.int (j2_3_S0 p2 b0 b1 b2 b3 b4))])) _
            refine XS.ifNo X0.here hx rfl (hb hby d2_246) rfl ((if0 _ _).trans (feq c246_60).1) ?_
            show Steps p.tables e below (s₁.setTop (mkF m 249 #[.val (.ref a1), .val (.int p2), .val (.int (v2_7 p2 b0 b1 b2 b3 b4)), .val (.int (j2_1_L3 p2 b0 b1 b2 b3 b4)), .val (.int (j2_1_L4 p2 b0 b1 b2 b3 b4)), .val (.int (j2_1_L5 p2 b0 b1 b2 b3 b4)), .val (.int (j2_3_S0 p2 b0 b1 b2 b3 b4)), .val (.int (2 : Int32)), .val (.int ((own_at b0 b1 b2 b3 b4 (p2 + (1 : Int32))) &&& (255 : Int32)))] [])) _
            refine XS.iloadN X0.here hx rfl (hb hby d2_249) rfl ?_
            show Steps p.tables e below (s₁.setTop (mkF m 250 #[.val (.ref a1), .val (.int p2), .val (.int (v2_7 p2 b0 b1 b2 b3 b4)), .val (.int (j2_1_L3 p2 b0 b1 b2 b3 b4)), .val (.int (j2_1_L4 p2 b0 b1 b2 b3 b4)), .val (.int (j2_1_L5 p2 b0 b1 b2 b3 b4)), .val (.int (j2_3_S0 p2 b0 b1 b2 b3 b4)), .val (.int (2 : Int32)), .val (.int ((own_at b0 b1 b2 b3 b4 (p2 + (1 : Int32))) &&& (255 : Int32)))] [(.int p2)])) _
            refine XS.iloadN X0.here hx rfl (hb hby d2_250) rfl ?_
            show Steps p.tables e below (s₁.setTop (mkF m 251 #[.val (.ref a1), .val (.int p2), .val (.int (v2_7 p2 b0 b1 b2 b3 b4)), .val (.int (j2_1_L3 p2 b0 b1 b2 b3 b4)), .val (.int (j2_1_L4 p2 b0 b1 b2 b3 b4)), .val (.int (j2_1_L5 p2 b0 b1 b2 b3 b4)), .val (.int (j2_3_S0 p2 b0 b1 b2 b3 b4)), .val (.int (2 : Int32)), .val (.int ((own_at b0 b1 b2 b3 b4 (p2 + (1 : Int32))) &&& (255 : Int32)))] [(.int (j2_1_L3 p2 b0 b1 b2 b3 b4)), (.int p2)])) _
            refine XS.iadd X0.here hx rfl (hb hby d2_251) rfl ?_
            show Steps p.tables e below (s₁.setTop (mkF m 252 #[.val (.ref a1), .val (.int p2), .val (.int (v2_7 p2 b0 b1 b2 b3 b4)), .val (.int (j2_1_L3 p2 b0 b1 b2 b3 b4)), .val (.int (j2_1_L4 p2 b0 b1 b2 b3 b4)), .val (.int (j2_1_L5 p2 b0 b1 b2 b3 b4)), .val (.int (j2_3_S0 p2 b0 b1 b2 b3 b4)), .val (.int (2 : Int32)), .val (.int ((own_at b0 b1 b2 b3 b4 (p2 + (1 : Int32))) &&& (255 : Int32)))] [(.int (p2 + (j2_1_L3 p2 b0 b1 b2 b3 b4)))])) _
            refine XS.goto X0.here hx rfl (pc0 := 252) (pc' := 256) rfl (hb hby d2_252) (by decide) (by decide) ?_
            show Steps p.tables e below (s₁.setTop (mkF m 256 #[.val (.ref a1), .val (.int p2), .val (.int (v2_7 p2 b0 b1 b2 b3 b4)), .val (.int (j2_1_L3 p2 b0 b1 b2 b3 b4)), .val (.int (j2_1_L4 p2 b0 b1 b2 b3 b4)), .val (.int (j2_1_L5 p2 b0 b1 b2 b3 b4)), .val (.int (j2_3_S0 p2 b0 b1 b2 b3 b4)), .val (.int (2 : Int32)), .val (.int ((own_at b0 b1 b2 b3 b4 (p2 + (1 : Int32))) &&& (255 : Int32)))] [(.int (p2 + (j2_1_L3 p2 b0 b1 b2 b3 b4)))])) _
            exact retI X0 hx Bd.returns (hb hby d2_256) hr
          · show Q2 Z a1 p2 b0 b1 b2 b3 b4 kk h0 n0 _ s₁.heap _
            rw [e0]
            have hv : sp2 p2 b0 b1 b2 b3 b4 = (p2 + (j2_1_L3 p2 b0 b1 b2 b3 b4)) := by unfold sp2; rw [if_neg c166_41, if_pos c172_45, if_pos c166_58, if_neg c246_60]
            exact ⟨by rw [hv], N0, rfl⟩
      · have k63 : ∀ t, Steps p.tables e below (s₁.setTop (mkF m 172 #[.val (.ref a1), .val (.int p2), .val (.int (v2_7 p2 b0 b1 b2 b3 b4)), .val (.int (j2_1_L3 p2 b0 b1 b2 b3 b4)), .val (.int (j2_1_L4 p2 b0 b1 b2 b3 b4)), .val (.int (j2_1_L5 p2 b0 b1 b2 b3 b4)), .val (.int (j2_3_S0 p2 b0 b1 b2 b3 b4)), .val (.int (2 : Int32)), .val (.int ((own_at b0 b1 b2 b3 b4 (p2 + (1 : Int32))) &&& (255 : Int32)))] [(.int (j2_1_L3 p2 b0 b1 b2 b3 b4)), (.int (2 : Int32))])) t → Steps p.tables e below (s₁.setTop (mkF m 0 #[.val (.ref a1), .val (.int p2), .unset, .unset, .unset, .unset, .unset, .unset, .unset] [])) t := fun t kt => k59 t (by
          show Steps p.tables e below (s₁.setTop (mkF m 166 #[.val (.ref a1), .val (.int p2), .val (.int (v2_7 p2 b0 b1 b2 b3 b4)), .val (.int (j2_1_L3 p2 b0 b1 b2 b3 b4)), .val (.int (j2_1_L4 p2 b0 b1 b2 b3 b4)), .val (.int (j2_1_L5 p2 b0 b1 b2 b3 b4)), .val (.int (j2_3_S0 p2 b0 b1 b2 b3 b4)), .val (.int (2 : Int32)), .val (.int ((own_at b0 b1 b2 b3 b4 (p2 + (1 : Int32))) &&& (255 : Int32)))] [(.int (j2_3_S0 p2 b0 b1 b2 b3 b4))])) _
          refine XS.ifNo X0.here hx rfl (hb hby d2_166) rfl ((if0 _ _).trans (feq c166_58).1) ?_
          show Steps p.tables e below (s₁.setTop (mkF m 169 #[.val (.ref a1), .val (.int p2), .val (.int (v2_7 p2 b0 b1 b2 b3 b4)), .val (.int (j2_1_L3 p2 b0 b1 b2 b3 b4)), .val (.int (j2_1_L4 p2 b0 b1 b2 b3 b4)), .val (.int (j2_1_L5 p2 b0 b1 b2 b3 b4)), .val (.int (j2_3_S0 p2 b0 b1 b2 b3 b4)), .val (.int (2 : Int32)), .val (.int ((own_at b0 b1 b2 b3 b4 (p2 + (1 : Int32))) &&& (255 : Int32)))] [])) _
          refine XS.iload X0.here hx rfl (hb hby d2_169) rfl ?_
          show Steps p.tables e below (s₁.setTop (mkF m 171 #[.val (.ref a1), .val (.int p2), .val (.int (v2_7 p2 b0 b1 b2 b3 b4)), .val (.int (j2_1_L3 p2 b0 b1 b2 b3 b4)), .val (.int (j2_1_L4 p2 b0 b1 b2 b3 b4)), .val (.int (j2_1_L5 p2 b0 b1 b2 b3 b4)), .val (.int (j2_3_S0 p2 b0 b1 b2 b3 b4)), .val (.int (2 : Int32)), .val (.int ((own_at b0 b1 b2 b3 b4 (p2 + (1 : Int32))) &&& (255 : Int32)))] [(.int (2 : Int32))])) _
          refine XS.iloadN X0.here hx rfl (hb hby d2_171) rfl ?_
          exact kt)
        by_cases c172_62 : (2 : Int32) < (j2_1_L3 p2 b0 b1 b2 b3 b4)
        · have k64 : ∀ t, Steps p.tables e below (s₁.setTop (mkF m 180 #[.val (.ref a1), .val (.int p2), .val (.int (v2_7 p2 b0 b1 b2 b3 b4)), .val (.int (j2_1_L3 p2 b0 b1 b2 b3 b4)), .val (.int (j2_1_L4 p2 b0 b1 b2 b3 b4)), .val (.int (j2_1_L5 p2 b0 b1 b2 b3 b4)), .val (.int (j2_3_S0 p2 b0 b1 b2 b3 b4)), .val (.int (2 : Int32)), .val (.int ((own_at b0 b1 b2 b3 b4 (p2 + (1 : Int32))) &&& (255 : Int32)))] [(.int (p2 + (2 : Int32))), (.ref a1)])) t → Steps p.tables e below (s₁.setTop (mkF m 0 #[.val (.ref a1), .val (.int p2), .unset, .unset, .unset, .unset, .unset, .unset, .unset] [])) t := fun t kt => k63 t (by
            show Steps p.tables e below (s₁.setTop (mkF m 172 #[.val (.ref a1), .val (.int p2), .val (.int (v2_7 p2 b0 b1 b2 b3 b4)), .val (.int (j2_1_L3 p2 b0 b1 b2 b3 b4)), .val (.int (j2_1_L4 p2 b0 b1 b2 b3 b4)), .val (.int (j2_1_L5 p2 b0 b1 b2 b3 b4)), .val (.int (j2_3_S0 p2 b0 b1 b2 b3 b4)), .val (.int (2 : Int32)), .val (.int ((own_at b0 b1 b2 b3 b4 (p2 + (1 : Int32))) &&& (255 : Int32)))] [(.int (j2_1_L3 p2 b0 b1 b2 b3 b4)), (.int (2 : Int32))])) _
            refine XS.icmpNo X0.here hx rfl (hb hby d2_172) rfl (tlt c172_62).2.1 ?_
            show Steps p.tables e below (s₁.setTop (mkF m 175 #[.val (.ref a1), .val (.int p2), .val (.int (v2_7 p2 b0 b1 b2 b3 b4)), .val (.int (j2_1_L3 p2 b0 b1 b2 b3 b4)), .val (.int (j2_1_L4 p2 b0 b1 b2 b3 b4)), .val (.int (j2_1_L5 p2 b0 b1 b2 b3 b4)), .val (.int (j2_3_S0 p2 b0 b1 b2 b3 b4)), .val (.int (2 : Int32)), .val (.int ((own_at b0 b1 b2 b3 b4 (p2 + (1 : Int32))) &&& (255 : Int32)))] [])) _
            refine XS.aloadN X0.here hx rfl (hb hby d2_175) rfl rfl ?_
            show Steps p.tables e below (s₁.setTop (mkF m 176 #[.val (.ref a1), .val (.int p2), .val (.int (v2_7 p2 b0 b1 b2 b3 b4)), .val (.int (j2_1_L3 p2 b0 b1 b2 b3 b4)), .val (.int (j2_1_L4 p2 b0 b1 b2 b3 b4)), .val (.int (j2_1_L5 p2 b0 b1 b2 b3 b4)), .val (.int (j2_3_S0 p2 b0 b1 b2 b3 b4)), .val (.int (2 : Int32)), .val (.int ((own_at b0 b1 b2 b3 b4 (p2 + (1 : Int32))) &&& (255 : Int32)))] [(.ref a1)])) _
            refine XS.iloadN X0.here hx rfl (hb hby d2_176) rfl ?_
            show Steps p.tables e below (s₁.setTop (mkF m 177 #[.val (.ref a1), .val (.int p2), .val (.int (v2_7 p2 b0 b1 b2 b3 b4)), .val (.int (j2_1_L3 p2 b0 b1 b2 b3 b4)), .val (.int (j2_1_L4 p2 b0 b1 b2 b3 b4)), .val (.int (j2_1_L5 p2 b0 b1 b2 b3 b4)), .val (.int (j2_3_S0 p2 b0 b1 b2 b3 b4)), .val (.int (2 : Int32)), .val (.int ((own_at b0 b1 b2 b3 b4 (p2 + (1 : Int32))) &&& (255 : Int32)))] [(.int p2), (.ref a1)])) _
            refine XS.iload X0.here hx rfl (hb hby d2_177) rfl ?_
            show Steps p.tables e below (s₁.setTop (mkF m 179 #[.val (.ref a1), .val (.int p2), .val (.int (v2_7 p2 b0 b1 b2 b3 b4)), .val (.int (j2_1_L3 p2 b0 b1 b2 b3 b4)), .val (.int (j2_1_L4 p2 b0 b1 b2 b3 b4)), .val (.int (j2_1_L5 p2 b0 b1 b2 b3 b4)), .val (.int (j2_3_S0 p2 b0 b1 b2 b3 b4)), .val (.int (2 : Int32)), .val (.int ((own_at b0 b1 b2 b3 b4 (p2 + (1 : Int32))) &&& (255 : Int32)))] [(.int (2 : Int32)), (.int p2), (.ref a1)])) _
            refine XS.iadd X0.here hx rfl (hb hby d2_179) rfl ?_
            exact kt)
          obtain ⟨cl65, Ar65, q65, S65, N65', H65, G65⟩ := V48
          have hin65 : ¬ ((p2 + (2 : Int32)) < 0 ∨ cl65.slots.size ≤ ((p2 + (2 : Int32))).toNatClampNeg) := inb_of S65 (own_bd b0 b1 b2 b3 b4 p2 (2 : Int32) hat (by decide) (by decide) c166_41 c172_62)
          have hat65 : cl65.slots[((p2 + (2 : Int32))).toNatClampNeg]? = some (.int (own_at b0 b1 b2 b3 b4 (p2 + (2 : Int32)))) := H65.at hin65 (own_at_at b0 b1 b2 b3 b4 (p2 + (2 : Int32)) (own_bd b0 b1 b2 b3 b4 p2 (2 : Int32) hat (by decide) (by decide) c166_41 c172_62))
          have V65 : Arv Z h0 a1 kk .byte (5 : Int32) [(.int b0), (.int b1), (.int b2), (.int b3), (.int b4)] (.int (0 : Int32)) := ⟨cl65, Ar65, q65, S65, N65', H65, G65⟩
          have k66 : ∀ t, Steps p.tables e below (s₁.setTop (mkF m 181 #[.val (.ref a1), .val (.int p2), .val (.int (v2_7 p2 b0 b1 b2 b3 b4)), .val (.int (j2_1_L3 p2 b0 b1 b2 b3 b4)), .val (.int (j2_1_L4 p2 b0 b1 b2 b3 b4)), .val (.int (j2_1_L5 p2 b0 b1 b2 b3 b4)), .val (.int (j2_3_S0 p2 b0 b1 b2 b3 b4)), .val (.int (2 : Int32)), .val (.int ((own_at b0 b1 b2 b3 b4 (p2 + (1 : Int32))) &&& (255 : Int32)))] [(.int (own_at b0 b1 b2 b3 b4 (p2 + (2 : Int32))))])) t → Steps p.tables e below (s₁.setTop (mkF m 0 #[.val (.ref a1), .val (.int p2), .unset, .unset, .unset, .unset, .unset, .unset, .unset] [])) t := fun t kt => k64 t (by
            show Steps p.tables e below (s₁.setTop (mkF m 180 #[.val (.ref a1), .val (.int p2), .val (.int (v2_7 p2 b0 b1 b2 b3 b4)), .val (.int (j2_1_L3 p2 b0 b1 b2 b3 b4)), .val (.int (j2_1_L4 p2 b0 b1 b2 b3 b4)), .val (.int (j2_1_L5 p2 b0 b1 b2 b3 b4)), .val (.int (j2_3_S0 p2 b0 b1 b2 b3 b4)), .val (.int (2 : Int32)), .val (.int ((own_at b0 b1 b2 b3 b4 (p2 + (1 : Int32))) &&& (255 : Int32)))] [(.int (p2 + (2 : Int32))), (.ref a1)])) _
            refine X0.baloadBytes hx (j := (p2 + (2 : Int32))) (v := (.int (own_at b0 b1 b2 b3 b4 (p2 + (2 : Int32))))) (by rw [e0]; exact Ar65.1) (State.isArrayOf_alike hZ.alike Ar65.2.1) Ar65.2.2 hin65 hat65 (g := (mkF m 180 #[.val (.ref a1), .val (.int p2), .val (.int (v2_7 p2 b0 b1 b2 b3 b4)), .val (.int (j2_1_L3 p2 b0 b1 b2 b3 b4)), .val (.int (j2_1_L4 p2 b0 b1 b2 b3 b4)), .val (.int (j2_1_L5 p2 b0 b1 b2 b3 b4)), .val (.int (j2_3_S0 p2 b0 b1 b2 b3 b4)), .val (.int (2 : Int32)), .val (.int ((own_at b0 b1 b2 b3 b4 (p2 + (1 : Int32))) &&& (255 : Int32)))] [(.int (p2 + (2 : Int32))), (.ref a1)])) rfl rfl (hb hby d2_180) _ ?_
            exact kt)
          have k67 : ∀ t, Steps p.tables e below (s₁.setTop (mkF m 187 #[.val (.ref a1), .val (.int p2), .val (.int (v2_7 p2 b0 b1 b2 b3 b4)), .val (.int (j2_1_L3 p2 b0 b1 b2 b3 b4)), .val (.int (j2_1_L4 p2 b0 b1 b2 b3 b4)), .val (.int (j2_1_L5 p2 b0 b1 b2 b3 b4)), .val (.int (j2_3_S0 p2 b0 b1 b2 b3 b4)), .val (.int (2 : Int32)), .val (.int ((own_at b0 b1 b2 b3 b4 (p2 + (2 : Int32))) &&& (255 : Int32)))] [])) t → Steps p.tables e below (s₁.setTop (mkF m 0 #[.val (.ref a1), .val (.int p2), .unset, .unset, .unset, .unset, .unset, .unset, .unset] [])) t := fun t kt => k66 t (by
            show Steps p.tables e below (s₁.setTop (mkF m 181 #[.val (.ref a1), .val (.int p2), .val (.int (v2_7 p2 b0 b1 b2 b3 b4)), .val (.int (j2_1_L3 p2 b0 b1 b2 b3 b4)), .val (.int (j2_1_L4 p2 b0 b1 b2 b3 b4)), .val (.int (j2_1_L5 p2 b0 b1 b2 b3 b4)), .val (.int (j2_3_S0 p2 b0 b1 b2 b3 b4)), .val (.int (2 : Int32)), .val (.int ((own_at b0 b1 b2 b3 b4 (p2 + (1 : Int32))) &&& (255 : Int32)))] [(.int (own_at b0 b1 b2 b3 b4 (p2 + (2 : Int32))))])) _
            refine XS.sipush X0.here hx rfl (hb hby d2_181) ?_
            show Steps p.tables e below (s₁.setTop (mkF m 184 #[.val (.ref a1), .val (.int p2), .val (.int (v2_7 p2 b0 b1 b2 b3 b4)), .val (.int (j2_1_L3 p2 b0 b1 b2 b3 b4)), .val (.int (j2_1_L4 p2 b0 b1 b2 b3 b4)), .val (.int (j2_1_L5 p2 b0 b1 b2 b3 b4)), .val (.int (j2_3_S0 p2 b0 b1 b2 b3 b4)), .val (.int (2 : Int32)), .val (.int ((own_at b0 b1 b2 b3 b4 (p2 + (1 : Int32))) &&& (255 : Int32)))] [(.int (255 : Int32)), (.int (own_at b0 b1 b2 b3 b4 (p2 + (2 : Int32))))])) _
            refine XS.iand X0.here hx rfl (hb hby d2_184) rfl ?_
            show Steps p.tables e below (s₁.setTop (mkF m 185 #[.val (.ref a1), .val (.int p2), .val (.int (v2_7 p2 b0 b1 b2 b3 b4)), .val (.int (j2_1_L3 p2 b0 b1 b2 b3 b4)), .val (.int (j2_1_L4 p2 b0 b1 b2 b3 b4)), .val (.int (j2_1_L5 p2 b0 b1 b2 b3 b4)), .val (.int (j2_3_S0 p2 b0 b1 b2 b3 b4)), .val (.int (2 : Int32)), .val (.int ((own_at b0 b1 b2 b3 b4 (p2 + (1 : Int32))) &&& (255 : Int32)))] [(.int ((own_at b0 b1 b2 b3 b4 (p2 + (2 : Int32))) &&& (255 : Int32)))])) _
            refine XS.istore X0.here hx rfl (hb hby d2_185) rfl (l' := #[.val (.ref a1), .val (.int p2), .val (.int (v2_7 p2 b0 b1 b2 b3 b4)), .val (.int (j2_1_L3 p2 b0 b1 b2 b3 b4)), .val (.int (j2_1_L4 p2 b0 b1 b2 b3 b4)), .val (.int (j2_1_L5 p2 b0 b1 b2 b3 b4)), .val (.int (j2_3_S0 p2 b0 b1 b2 b3 b4)), .val (.int (2 : Int32)), .val (.int ((own_at b0 b1 b2 b3 b4 (p2 + (2 : Int32))) &&& (255 : Int32)))]) rfl ?_
            exact kt)
          have k71 : ∀ t, Steps p.tables e below (s₁.setTop (mkF m 236 #[.val (.ref a1), .val (.int p2), .val (.int (v2_7 p2 b0 b1 b2 b3 b4)), .val (.int (j2_1_L3 p2 b0 b1 b2 b3 b4)), .val (.int (j2_1_L4 p2 b0 b1 b2 b3 b4)), .val (.int (j2_1_L5 p2 b0 b1 b2 b3 b4)), .val (.int (j2_3_S0 p2 b0 b1 b2 b3 b4)), .val (.int (2 : Int32)), .val (.int ((own_at b0 b1 b2 b3 b4 (p2 + (2 : Int32))) &&& (255 : Int32)))] [(.int (j2_4_S0 p2 b0 b1 b2 b3 b4))])) t → Steps p.tables e below (s₁.setTop (mkF m 0 #[.val (.ref a1), .val (.int p2), .unset, .unset, .unset, .unset, .unset, .unset, .unset] [])) t := by
            intro t kt
            refine k67 t ?_
            have c190_72 : ¬ ((2 : Int32) = (1 : Int32)) := by decide
            by_cases c220_73 : ((own_at b0 b1 b2 b3 b4 (p2 + (2 : Int32))) &&& (255 : Int32)) < (128 : Int32)
            · rw [show j2_4_S0 p2 b0 b1 b2 b3 b4 = (0 : Int32) from by unfold j2_4_S0; rw [if_pos c220_73]] at kt
              show Steps p.tables e below (s₁.setTop (mkF m 187 #[.val (.ref a1), .val (.int p2), .val (.int (v2_7 p2 b0 b1 b2 b3 b4)), .val (.int (j2_1_L3 p2 b0 b1 b2 b3 b4)), .val (.int (j2_1_L4 p2 b0 b1 b2 b3 b4)), .val (.int (j2_1_L5 p2 b0 b1 b2 b3 b4)), .val (.int (j2_3_S0 p2 b0 b1 b2 b3 b4)), .val (.int (2 : Int32)), .val (.int ((own_at b0 b1 b2 b3 b4 (p2 + (2 : Int32))) &&& (255 : Int32)))] [])) _
              refine XS.iload X0.here hx rfl (hb hby d2_187) rfl ?_
              show Steps p.tables e below (s₁.setTop (mkF m 189 #[.val (.ref a1), .val (.int p2), .val (.int (v2_7 p2 b0 b1 b2 b3 b4)), .val (.int (j2_1_L3 p2 b0 b1 b2 b3 b4)), .val (.int (j2_1_L4 p2 b0 b1 b2 b3 b4)), .val (.int (j2_1_L5 p2 b0 b1 b2 b3 b4)), .val (.int (j2_3_S0 p2 b0 b1 b2 b3 b4)), .val (.int (2 : Int32)), .val (.int ((own_at b0 b1 b2 b3 b4 (p2 + (2 : Int32))) &&& (255 : Int32)))] [(.int (2 : Int32))])) _
              refine XS.iconst X0.here hx rfl (hb hby d2_189) ?_
              show Steps p.tables e below (s₁.setTop (mkF m 190 #[.val (.ref a1), .val (.int p2), .val (.int (v2_7 p2 b0 b1 b2 b3 b4)), .val (.int (j2_1_L3 p2 b0 b1 b2 b3 b4)), .val (.int (j2_1_L4 p2 b0 b1 b2 b3 b4)), .val (.int (j2_1_L5 p2 b0 b1 b2 b3 b4)), .val (.int (j2_3_S0 p2 b0 b1 b2 b3 b4)), .val (.int (2 : Int32)), .val (.int ((own_at b0 b1 b2 b3 b4 (p2 + (2 : Int32))) &&& (255 : Int32)))] [(.int (1 : Int32)), (.int (2 : Int32))])) _
              refine XS.icmpYes X0.here hx rfl (pc0 := 190) (pc' := 215) rfl (hb hby d2_190) rfl (feq c190_72).2 (by decide) (by decide) ?_
              show Steps p.tables e below (s₁.setTop (mkF m 215 #[.val (.ref a1), .val (.int p2), .val (.int (v2_7 p2 b0 b1 b2 b3 b4)), .val (.int (j2_1_L3 p2 b0 b1 b2 b3 b4)), .val (.int (j2_1_L4 p2 b0 b1 b2 b3 b4)), .val (.int (j2_1_L5 p2 b0 b1 b2 b3 b4)), .val (.int (j2_3_S0 p2 b0 b1 b2 b3 b4)), .val (.int (2 : Int32)), .val (.int ((own_at b0 b1 b2 b3 b4 (p2 + (2 : Int32))) &&& (255 : Int32)))] [])) _
              refine XS.iload X0.here hx rfl (hb hby d2_215) rfl ?_
              show Steps p.tables e below (s₁.setTop (mkF m 217 #[.val (.ref a1), .val (.int p2), .val (.int (v2_7 p2 b0 b1 b2 b3 b4)), .val (.int (j2_1_L3 p2 b0 b1 b2 b3 b4)), .val (.int (j2_1_L4 p2 b0 b1 b2 b3 b4)), .val (.int (j2_1_L5 p2 b0 b1 b2 b3 b4)), .val (.int (j2_3_S0 p2 b0 b1 b2 b3 b4)), .val (.int (2 : Int32)), .val (.int ((own_at b0 b1 b2 b3 b4 (p2 + (2 : Int32))) &&& (255 : Int32)))] [(.int ((own_at b0 b1 b2 b3 b4 (p2 + (2 : Int32))) &&& (255 : Int32)))])) _
              refine XS.sipush X0.here hx rfl (hb hby d2_217) ?_
              show Steps p.tables e below (s₁.setTop (mkF m 220 #[.val (.ref a1), .val (.int p2), .val (.int (v2_7 p2 b0 b1 b2 b3 b4)), .val (.int (j2_1_L3 p2 b0 b1 b2 b3 b4)), .val (.int (j2_1_L4 p2 b0 b1 b2 b3 b4)), .val (.int (j2_1_L5 p2 b0 b1 b2 b3 b4)), .val (.int (j2_3_S0 p2 b0 b1 b2 b3 b4)), .val (.int (2 : Int32)), .val (.int ((own_at b0 b1 b2 b3 b4 (p2 + (2 : Int32))) &&& (255 : Int32)))] [(.int (128 : Int32)), (.int ((own_at b0 b1 b2 b3 b4 (p2 + (2 : Int32))) &&& (255 : Int32)))])) _
              refine XS.icmpYes X0.here hx rfl (pc0 := 220) (pc' := 235) rfl (hb hby d2_220) rfl (tlt c220_73).1 (by decide) (by decide) ?_
              show Steps p.tables e below (s₁.setTop (mkF m 235 #[.val (.ref a1), .val (.int p2), .val (.int (v2_7 p2 b0 b1 b2 b3 b4)), .val (.int (j2_1_L3 p2 b0 b1 b2 b3 b4)), .val (.int (j2_1_L4 p2 b0 b1 b2 b3 b4)), .val (.int (j2_1_L5 p2 b0 b1 b2 b3 b4)), .val (.int (j2_3_S0 p2 b0 b1 b2 b3 b4)), .val (.int (2 : Int32)), .val (.int ((own_at b0 b1 b2 b3 b4 (p2 + (2 : Int32))) &&& (255 : Int32)))] [])) _
              refine XS.iconst X0.here hx rfl (hb hby d2_235) ?_
              exact kt
            · by_cases c228_74 : (191 : Int32) < ((own_at b0 b1 b2 b3 b4 (p2 + (2 : Int32))) &&& (255 : Int32))
              · rw [show j2_4_S0 p2 b0 b1 b2 b3 b4 = (0 : Int32) from by unfold j2_4_S0; rw [if_neg c220_73, if_pos c228_74]] at kt
                show Steps p.tables e below (s₁.setTop (mkF m 187 #[.val (.ref a1), .val (.int p2), .val (.int (v2_7 p2 b0 b1 b2 b3 b4)), .val (.int (j2_1_L3 p2 b0 b1 b2 b3 b4)), .val (.int (j2_1_L4 p2 b0 b1 b2 b3 b4)), .val (.int (j2_1_L5 p2 b0 b1 b2 b3 b4)), .val (.int (j2_3_S0 p2 b0 b1 b2 b3 b4)), .val (.int (2 : Int32)), .val (.int ((own_at b0 b1 b2 b3 b4 (p2 + (2 : Int32))) &&& (255 : Int32)))] [])) _
                refine XS.iload X0.here hx rfl (hb hby d2_187) rfl ?_
                show Steps p.tables e below (s₁.setTop (mkF m 189 #[.val (.ref a1), .val (.int p2), .val (.int (v2_7 p2 b0 b1 b2 b3 b4)), .val (.int (j2_1_L3 p2 b0 b1 b2 b3 b4)), .val (.int (j2_1_L4 p2 b0 b1 b2 b3 b4)), .val (.int (j2_1_L5 p2 b0 b1 b2 b3 b4)), .val (.int (j2_3_S0 p2 b0 b1 b2 b3 b4)), .val (.int (2 : Int32)), .val (.int ((own_at b0 b1 b2 b3 b4 (p2 + (2 : Int32))) &&& (255 : Int32)))] [(.int (2 : Int32))])) _
                refine XS.iconst X0.here hx rfl (hb hby d2_189) ?_
                show Steps p.tables e below (s₁.setTop (mkF m 190 #[.val (.ref a1), .val (.int p2), .val (.int (v2_7 p2 b0 b1 b2 b3 b4)), .val (.int (j2_1_L3 p2 b0 b1 b2 b3 b4)), .val (.int (j2_1_L4 p2 b0 b1 b2 b3 b4)), .val (.int (j2_1_L5 p2 b0 b1 b2 b3 b4)), .val (.int (j2_3_S0 p2 b0 b1 b2 b3 b4)), .val (.int (2 : Int32)), .val (.int ((own_at b0 b1 b2 b3 b4 (p2 + (2 : Int32))) &&& (255 : Int32)))] [(.int (1 : Int32)), (.int (2 : Int32))])) _
                refine XS.icmpYes X0.here hx rfl (pc0 := 190) (pc' := 215) rfl (hb hby d2_190) rfl (feq c190_72).2 (by decide) (by decide) ?_
                show Steps p.tables e below (s₁.setTop (mkF m 215 #[.val (.ref a1), .val (.int p2), .val (.int (v2_7 p2 b0 b1 b2 b3 b4)), .val (.int (j2_1_L3 p2 b0 b1 b2 b3 b4)), .val (.int (j2_1_L4 p2 b0 b1 b2 b3 b4)), .val (.int (j2_1_L5 p2 b0 b1 b2 b3 b4)), .val (.int (j2_3_S0 p2 b0 b1 b2 b3 b4)), .val (.int (2 : Int32)), .val (.int ((own_at b0 b1 b2 b3 b4 (p2 + (2 : Int32))) &&& (255 : Int32)))] [])) _
                refine XS.iload X0.here hx rfl (hb hby d2_215) rfl ?_
                show Steps p.tables e below (s₁.setTop (mkF m 217 #[.val (.ref a1), .val (.int p2), .val (.int (v2_7 p2 b0 b1 b2 b3 b4)), .val (.int (j2_1_L3 p2 b0 b1 b2 b3 b4)), .val (.int (j2_1_L4 p2 b0 b1 b2 b3 b4)), .val (.int (j2_1_L5 p2 b0 b1 b2 b3 b4)), .val (.int (j2_3_S0 p2 b0 b1 b2 b3 b4)), .val (.int (2 : Int32)), .val (.int ((own_at b0 b1 b2 b3 b4 (p2 + (2 : Int32))) &&& (255 : Int32)))] [(.int ((own_at b0 b1 b2 b3 b4 (p2 + (2 : Int32))) &&& (255 : Int32)))])) _
                refine XS.sipush X0.here hx rfl (hb hby d2_217) ?_
                show Steps p.tables e below (s₁.setTop (mkF m 220 #[.val (.ref a1), .val (.int p2), .val (.int (v2_7 p2 b0 b1 b2 b3 b4)), .val (.int (j2_1_L3 p2 b0 b1 b2 b3 b4)), .val (.int (j2_1_L4 p2 b0 b1 b2 b3 b4)), .val (.int (j2_1_L5 p2 b0 b1 b2 b3 b4)), .val (.int (j2_3_S0 p2 b0 b1 b2 b3 b4)), .val (.int (2 : Int32)), .val (.int ((own_at b0 b1 b2 b3 b4 (p2 + (2 : Int32))) &&& (255 : Int32)))] [(.int (128 : Int32)), (.int ((own_at b0 b1 b2 b3 b4 (p2 + (2 : Int32))) &&& (255 : Int32)))])) _
                refine XS.icmpNo X0.here hx rfl (hb hby d2_220) rfl (flt c220_73).1 ?_
                show Steps p.tables e below (s₁.setTop (mkF m 223 #[.val (.ref a1), .val (.int p2), .val (.int (v2_7 p2 b0 b1 b2 b3 b4)), .val (.int (j2_1_L3 p2 b0 b1 b2 b3 b4)), .val (.int (j2_1_L4 p2 b0 b1 b2 b3 b4)), .val (.int (j2_1_L5 p2 b0 b1 b2 b3 b4)), .val (.int (j2_3_S0 p2 b0 b1 b2 b3 b4)), .val (.int (2 : Int32)), .val (.int ((own_at b0 b1 b2 b3 b4 (p2 + (2 : Int32))) &&& (255 : Int32)))] [])) _
                refine XS.iload X0.here hx rfl (hb hby d2_223) rfl ?_
                show Steps p.tables e below (s₁.setTop (mkF m 225 #[.val (.ref a1), .val (.int p2), .val (.int (v2_7 p2 b0 b1 b2 b3 b4)), .val (.int (j2_1_L3 p2 b0 b1 b2 b3 b4)), .val (.int (j2_1_L4 p2 b0 b1 b2 b3 b4)), .val (.int (j2_1_L5 p2 b0 b1 b2 b3 b4)), .val (.int (j2_3_S0 p2 b0 b1 b2 b3 b4)), .val (.int (2 : Int32)), .val (.int ((own_at b0 b1 b2 b3 b4 (p2 + (2 : Int32))) &&& (255 : Int32)))] [(.int ((own_at b0 b1 b2 b3 b4 (p2 + (2 : Int32))) &&& (255 : Int32)))])) _
                refine XS.sipush X0.here hx rfl (hb hby d2_225) ?_
                show Steps p.tables e below (s₁.setTop (mkF m 228 #[.val (.ref a1), .val (.int p2), .val (.int (v2_7 p2 b0 b1 b2 b3 b4)), .val (.int (j2_1_L3 p2 b0 b1 b2 b3 b4)), .val (.int (j2_1_L4 p2 b0 b1 b2 b3 b4)), .val (.int (j2_1_L5 p2 b0 b1 b2 b3 b4)), .val (.int (j2_3_S0 p2 b0 b1 b2 b3 b4)), .val (.int (2 : Int32)), .val (.int ((own_at b0 b1 b2 b3 b4 (p2 + (2 : Int32))) &&& (255 : Int32)))] [(.int (191 : Int32)), (.int ((own_at b0 b1 b2 b3 b4 (p2 + (2 : Int32))) &&& (255 : Int32)))])) _
                refine XS.icmpYes X0.here hx rfl (pc0 := 228) (pc' := 235) rfl (hb hby d2_228) rfl (tlt c228_74).2.2.1 (by decide) (by decide) ?_
                show Steps p.tables e below (s₁.setTop (mkF m 235 #[.val (.ref a1), .val (.int p2), .val (.int (v2_7 p2 b0 b1 b2 b3 b4)), .val (.int (j2_1_L3 p2 b0 b1 b2 b3 b4)), .val (.int (j2_1_L4 p2 b0 b1 b2 b3 b4)), .val (.int (j2_1_L5 p2 b0 b1 b2 b3 b4)), .val (.int (j2_3_S0 p2 b0 b1 b2 b3 b4)), .val (.int (2 : Int32)), .val (.int ((own_at b0 b1 b2 b3 b4 (p2 + (2 : Int32))) &&& (255 : Int32)))] [])) _
                refine XS.iconst X0.here hx rfl (hb hby d2_235) ?_
                exact kt
              · rw [show j2_4_S0 p2 b0 b1 b2 b3 b4 = (1 : Int32) from by unfold j2_4_S0; rw [if_neg c220_73, if_neg c228_74]] at kt
                show Steps p.tables e below (s₁.setTop (mkF m 187 #[.val (.ref a1), .val (.int p2), .val (.int (v2_7 p2 b0 b1 b2 b3 b4)), .val (.int (j2_1_L3 p2 b0 b1 b2 b3 b4)), .val (.int (j2_1_L4 p2 b0 b1 b2 b3 b4)), .val (.int (j2_1_L5 p2 b0 b1 b2 b3 b4)), .val (.int (j2_3_S0 p2 b0 b1 b2 b3 b4)), .val (.int (2 : Int32)), .val (.int ((own_at b0 b1 b2 b3 b4 (p2 + (2 : Int32))) &&& (255 : Int32)))] [])) _
                refine XS.iload X0.here hx rfl (hb hby d2_187) rfl ?_
                show Steps p.tables e below (s₁.setTop (mkF m 189 #[.val (.ref a1), .val (.int p2), .val (.int (v2_7 p2 b0 b1 b2 b3 b4)), .val (.int (j2_1_L3 p2 b0 b1 b2 b3 b4)), .val (.int (j2_1_L4 p2 b0 b1 b2 b3 b4)), .val (.int (j2_1_L5 p2 b0 b1 b2 b3 b4)), .val (.int (j2_3_S0 p2 b0 b1 b2 b3 b4)), .val (.int (2 : Int32)), .val (.int ((own_at b0 b1 b2 b3 b4 (p2 + (2 : Int32))) &&& (255 : Int32)))] [(.int (2 : Int32))])) _
                refine XS.iconst X0.here hx rfl (hb hby d2_189) ?_
                show Steps p.tables e below (s₁.setTop (mkF m 190 #[.val (.ref a1), .val (.int p2), .val (.int (v2_7 p2 b0 b1 b2 b3 b4)), .val (.int (j2_1_L3 p2 b0 b1 b2 b3 b4)), .val (.int (j2_1_L4 p2 b0 b1 b2 b3 b4)), .val (.int (j2_1_L5 p2 b0 b1 b2 b3 b4)), .val (.int (j2_3_S0 p2 b0 b1 b2 b3 b4)), .val (.int (2 : Int32)), .val (.int ((own_at b0 b1 b2 b3 b4 (p2 + (2 : Int32))) &&& (255 : Int32)))] [(.int (1 : Int32)), (.int (2 : Int32))])) _
                refine XS.icmpYes X0.here hx rfl (pc0 := 190) (pc' := 215) rfl (hb hby d2_190) rfl (feq c190_72).2 (by decide) (by decide) ?_
                show Steps p.tables e below (s₁.setTop (mkF m 215 #[.val (.ref a1), .val (.int p2), .val (.int (v2_7 p2 b0 b1 b2 b3 b4)), .val (.int (j2_1_L3 p2 b0 b1 b2 b3 b4)), .val (.int (j2_1_L4 p2 b0 b1 b2 b3 b4)), .val (.int (j2_1_L5 p2 b0 b1 b2 b3 b4)), .val (.int (j2_3_S0 p2 b0 b1 b2 b3 b4)), .val (.int (2 : Int32)), .val (.int ((own_at b0 b1 b2 b3 b4 (p2 + (2 : Int32))) &&& (255 : Int32)))] [])) _
                refine XS.iload X0.here hx rfl (hb hby d2_215) rfl ?_
                show Steps p.tables e below (s₁.setTop (mkF m 217 #[.val (.ref a1), .val (.int p2), .val (.int (v2_7 p2 b0 b1 b2 b3 b4)), .val (.int (j2_1_L3 p2 b0 b1 b2 b3 b4)), .val (.int (j2_1_L4 p2 b0 b1 b2 b3 b4)), .val (.int (j2_1_L5 p2 b0 b1 b2 b3 b4)), .val (.int (j2_3_S0 p2 b0 b1 b2 b3 b4)), .val (.int (2 : Int32)), .val (.int ((own_at b0 b1 b2 b3 b4 (p2 + (2 : Int32))) &&& (255 : Int32)))] [(.int ((own_at b0 b1 b2 b3 b4 (p2 + (2 : Int32))) &&& (255 : Int32)))])) _
                refine XS.sipush X0.here hx rfl (hb hby d2_217) ?_
                show Steps p.tables e below (s₁.setTop (mkF m 220 #[.val (.ref a1), .val (.int p2), .val (.int (v2_7 p2 b0 b1 b2 b3 b4)), .val (.int (j2_1_L3 p2 b0 b1 b2 b3 b4)), .val (.int (j2_1_L4 p2 b0 b1 b2 b3 b4)), .val (.int (j2_1_L5 p2 b0 b1 b2 b3 b4)), .val (.int (j2_3_S0 p2 b0 b1 b2 b3 b4)), .val (.int (2 : Int32)), .val (.int ((own_at b0 b1 b2 b3 b4 (p2 + (2 : Int32))) &&& (255 : Int32)))] [(.int (128 : Int32)), (.int ((own_at b0 b1 b2 b3 b4 (p2 + (2 : Int32))) &&& (255 : Int32)))])) _
                refine XS.icmpNo X0.here hx rfl (hb hby d2_220) rfl (flt c220_73).1 ?_
                show Steps p.tables e below (s₁.setTop (mkF m 223 #[.val (.ref a1), .val (.int p2), .val (.int (v2_7 p2 b0 b1 b2 b3 b4)), .val (.int (j2_1_L3 p2 b0 b1 b2 b3 b4)), .val (.int (j2_1_L4 p2 b0 b1 b2 b3 b4)), .val (.int (j2_1_L5 p2 b0 b1 b2 b3 b4)), .val (.int (j2_3_S0 p2 b0 b1 b2 b3 b4)), .val (.int (2 : Int32)), .val (.int ((own_at b0 b1 b2 b3 b4 (p2 + (2 : Int32))) &&& (255 : Int32)))] [])) _
                refine XS.iload X0.here hx rfl (hb hby d2_223) rfl ?_
                show Steps p.tables e below (s₁.setTop (mkF m 225 #[.val (.ref a1), .val (.int p2), .val (.int (v2_7 p2 b0 b1 b2 b3 b4)), .val (.int (j2_1_L3 p2 b0 b1 b2 b3 b4)), .val (.int (j2_1_L4 p2 b0 b1 b2 b3 b4)), .val (.int (j2_1_L5 p2 b0 b1 b2 b3 b4)), .val (.int (j2_3_S0 p2 b0 b1 b2 b3 b4)), .val (.int (2 : Int32)), .val (.int ((own_at b0 b1 b2 b3 b4 (p2 + (2 : Int32))) &&& (255 : Int32)))] [(.int ((own_at b0 b1 b2 b3 b4 (p2 + (2 : Int32))) &&& (255 : Int32)))])) _
                refine XS.sipush X0.here hx rfl (hb hby d2_225) ?_
                show Steps p.tables e below (s₁.setTop (mkF m 228 #[.val (.ref a1), .val (.int p2), .val (.int (v2_7 p2 b0 b1 b2 b3 b4)), .val (.int (j2_1_L3 p2 b0 b1 b2 b3 b4)), .val (.int (j2_1_L4 p2 b0 b1 b2 b3 b4)), .val (.int (j2_1_L5 p2 b0 b1 b2 b3 b4)), .val (.int (j2_3_S0 p2 b0 b1 b2 b3 b4)), .val (.int (2 : Int32)), .val (.int ((own_at b0 b1 b2 b3 b4 (p2 + (2 : Int32))) &&& (255 : Int32)))] [(.int (191 : Int32)), (.int ((own_at b0 b1 b2 b3 b4 (p2 + (2 : Int32))) &&& (255 : Int32)))])) _
                refine XS.icmpNo X0.here hx rfl (hb hby d2_228) rfl (flt c228_74).2.2.1 ?_
                show Steps p.tables e below (s₁.setTop (mkF m 231 #[.val (.ref a1), .val (.int p2), .val (.int (v2_7 p2 b0 b1 b2 b3 b4)), .val (.int (j2_1_L3 p2 b0 b1 b2 b3 b4)), .val (.int (j2_1_L4 p2 b0 b1 b2 b3 b4)), .val (.int (j2_1_L5 p2 b0 b1 b2 b3 b4)), .val (.int (j2_3_S0 p2 b0 b1 b2 b3 b4)), .val (.int (2 : Int32)), .val (.int ((own_at b0 b1 b2 b3 b4 (p2 + (2 : Int32))) &&& (255 : Int32)))] [])) _
                refine XS.iconst X0.here hx rfl (hb hby d2_231) ?_
                show Steps p.tables e below (s₁.setTop (mkF m 232 #[.val (.ref a1), .val (.int p2), .val (.int (v2_7 p2 b0 b1 b2 b3 b4)), .val (.int (j2_1_L3 p2 b0 b1 b2 b3 b4)), .val (.int (j2_1_L4 p2 b0 b1 b2 b3 b4)), .val (.int (j2_1_L5 p2 b0 b1 b2 b3 b4)), .val (.int (j2_3_S0 p2 b0 b1 b2 b3 b4)), .val (.int (2 : Int32)), .val (.int ((own_at b0 b1 b2 b3 b4 (p2 + (2 : Int32))) &&& (255 : Int32)))] [(.int (1 : Int32))])) _
                refine XS.goto X0.here hx rfl (pc0 := 232) (pc' := 236) rfl (hb hby d2_232) (by decide) (by decide) ?_
                exact kt
          have k76 : ∀ t, Steps p.tables e below (s₁.setTop (mkF m 166 #[.val (.ref a1), .val (.int p2), .val (.int (v2_7 p2 b0 b1 b2 b3 b4)), .val (.int (j2_1_L3 p2 b0 b1 b2 b3 b4)), .val (.int (j2_1_L4 p2 b0 b1 b2 b3 b4)), .val (.int (j2_1_L5 p2 b0 b1 b2 b3 b4)), .val (.int (j2_4_S0 p2 b0 b1 b2 b3 b4)), .val (.int (3 : Int32)), .val (.int ((own_at b0 b1 b2 b3 b4 (p2 + (2 : Int32))) &&& (255 : Int32)))] [(.int (j2_4_S0 p2 b0 b1 b2 b3 b4))])) t → Steps p.tables e below (s₁.setTop (mkF m 0 #[.val (.ref a1), .val (.int p2), .unset, .unset, .unset, .unset, .unset, .unset, .unset] [])) t := fun t kt => k71 t (by
            show Steps p.tables e below (s₁.setTop (mkF m 236 #[.val (.ref a1), .val (.int p2), .val (.int (v2_7 p2 b0 b1 b2 b3 b4)), .val (.int (j2_1_L3 p2 b0 b1 b2 b3 b4)), .val (.int (j2_1_L4 p2 b0 b1 b2 b3 b4)), .val (.int (j2_1_L5 p2 b0 b1 b2 b3 b4)), .val (.int (j2_3_S0 p2 b0 b1 b2 b3 b4)), .val (.int (2 : Int32)), .val (.int ((own_at b0 b1 b2 b3 b4 (p2 + (2 : Int32))) &&& (255 : Int32)))] [(.int (j2_4_S0 p2 b0 b1 b2 b3 b4))])) _
            refine XS.istore X0.here hx rfl (hb hby d2_236) rfl (l' := #[.val (.ref a1), .val (.int p2), .val (.int (v2_7 p2 b0 b1 b2 b3 b4)), .val (.int (j2_1_L3 p2 b0 b1 b2 b3 b4)), .val (.int (j2_1_L4 p2 b0 b1 b2 b3 b4)), .val (.int (j2_1_L5 p2 b0 b1 b2 b3 b4)), .val (.int (j2_4_S0 p2 b0 b1 b2 b3 b4)), .val (.int (2 : Int32)), .val (.int ((own_at b0 b1 b2 b3 b4 (p2 + (2 : Int32))) &&& (255 : Int32)))]) rfl ?_
            show Steps p.tables e below (s₁.setTop (mkF m 238 #[.val (.ref a1), .val (.int p2), .val (.int (v2_7 p2 b0 b1 b2 b3 b4)), .val (.int (j2_1_L3 p2 b0 b1 b2 b3 b4)), .val (.int (j2_1_L4 p2 b0 b1 b2 b3 b4)), .val (.int (j2_1_L5 p2 b0 b1 b2 b3 b4)), .val (.int (j2_4_S0 p2 b0 b1 b2 b3 b4)), .val (.int (2 : Int32)), .val (.int ((own_at b0 b1 b2 b3 b4 (p2 + (2 : Int32))) &&& (255 : Int32)))] [])) _
            refine XS.iinc X0.here hx rfl (hb hby d2_238) rfl (l' := #[.val (.ref a1), .val (.int p2), .val (.int (v2_7 p2 b0 b1 b2 b3 b4)), .val (.int (j2_1_L3 p2 b0 b1 b2 b3 b4)), .val (.int (j2_1_L4 p2 b0 b1 b2 b3 b4)), .val (.int (j2_1_L5 p2 b0 b1 b2 b3 b4)), .val (.int (j2_4_S0 p2 b0 b1 b2 b3 b4)), .val (.int (3 : Int32)), .val (.int ((own_at b0 b1 b2 b3 b4 (p2 + (2 : Int32))) &&& (255 : Int32)))]) rfl ?_
            show Steps p.tables e below (s₁.setTop (mkF m 241 #[.val (.ref a1), .val (.int p2), .val (.int (v2_7 p2 b0 b1 b2 b3 b4)), .val (.int (j2_1_L3 p2 b0 b1 b2 b3 b4)), .val (.int (j2_1_L4 p2 b0 b1 b2 b3 b4)), .val (.int (j2_1_L5 p2 b0 b1 b2 b3 b4)), .val (.int (j2_4_S0 p2 b0 b1 b2 b3 b4)), .val (.int (3 : Int32)), .val (.int ((own_at b0 b1 b2 b3 b4 (p2 + (2 : Int32))) &&& (255 : Int32)))] [])) _
            refine XS.goto X0.here hx rfl (pc0 := 241) (pc' := 164) rfl (hb hby d2_241) (by decide) (by decide) ?_
            show Steps p.tables e below (s₁.setTop (mkF m 164 #[.val (.ref a1), .val (.int p2), .val (.int (v2_7 p2 b0 b1 b2 b3 b4)), .val (.int (j2_1_L3 p2 b0 b1 b2 b3 b4)), .val (.int (j2_1_L4 p2 b0 b1 b2 b3 b4)), .val (.int (j2_1_L5 p2 b0 b1 b2 b3 b4)), .val (.int (j2_4_S0 p2 b0 b1 b2 b3 b4)), .val (.int (3 : Int32)), .val (.int ((own_at b0 b1 b2 b3 b4 (p2 + (2 : Int32))) &&& (255 : Int32)))] [])) _
            refine XS.iload X0.here hx rfl (hb hby d2_164) rfl ?_
            exact kt)
          by_cases c166_75 : (j2_4_S0 p2 b0 b1 b2 b3 b4) = (0 : Int32)
          · have k78 : ∀ t, Steps p.tables e below (s₁.setTop (mkF m 246 #[.val (.ref a1), .val (.int p2), .val (.int (v2_7 p2 b0 b1 b2 b3 b4)), .val (.int (j2_1_L3 p2 b0 b1 b2 b3 b4)), .val (.int (j2_1_L4 p2 b0 b1 b2 b3 b4)), .val (.int (j2_1_L5 p2 b0 b1 b2 b3 b4)), .val (.int (j2_4_S0 p2 b0 b1 b2 b3 b4)), .val (.int (3 : Int32)), .val (.int ((own_at b0 b1 b2 b3 b4 (p2 + (2 : Int32))) &&& (255 : Int32)))] [(.int (j2_4_S0 p2 b0 b1 b2 b3 b4))])) t → Steps p.tables e below (s₁.setTop (mkF m 0 #[.val (.ref a1), .val (.int p2), .unset, .unset, .unset, .unset, .unset, .unset, .unset] [])) t := fun t kt => k76 t (by
              show Steps p.tables e below (s₁.setTop (mkF m 166 #[.val (.ref a1), .val (.int p2), .val (.int (v2_7 p2 b0 b1 b2 b3 b4)), .val (.int (j2_1_L3 p2 b0 b1 b2 b3 b4)), .val (.int (j2_1_L4 p2 b0 b1 b2 b3 b4)), .val (.int (j2_1_L5 p2 b0 b1 b2 b3 b4)), .val (.int (j2_4_S0 p2 b0 b1 b2 b3 b4)), .val (.int (3 : Int32)), .val (.int ((own_at b0 b1 b2 b3 b4 (p2 + (2 : Int32))) &&& (255 : Int32)))] [(.int (j2_4_S0 p2 b0 b1 b2 b3 b4))])) _
              refine XS.ifYes X0.here hx rfl (pc0 := 166) (pc' := 244) rfl (hb hby d2_166) rfl ((if0 _ _).trans (teq c166_75).1) (by decide) (by decide) ?_
              show Steps p.tables e below (s₁.setTop (mkF m 244 #[.val (.ref a1), .val (.int p2), .val (.int (v2_7 p2 b0 b1 b2 b3 b4)), .val (.int (j2_1_L3 p2 b0 b1 b2 b3 b4)), .val (.int (j2_1_L4 p2 b0 b1 b2 b3 b4)), .val (.int (j2_1_L5 p2 b0 b1 b2 b3 b4)), .val (.int (j2_4_S0 p2 b0 b1 b2 b3 b4)), .val (.int (3 : Int32)), .val (.int ((own_at b0 b1 b2 b3 b4 (p2 + (2 : Int32))) &&& (255 : Int32)))] [])) _
              refine XS.iload X0.here hx rfl (hb hby d2_244) rfl ?_
              exact kt)
            by_cases c246_77 : (j2_4_S0 p2 b0 b1 b2 b3 b4) = (0 : Int32)
            · obtain ⟨fs, hr, hrun, hended, hW, hsame⟩ := X0.leave (v := some (.int (-1 : Int32))) (fun h => by rw [Bd.returns] at h; cases h)
              refine ⟨_, _, pre0 _ (k78 _ ?_), hrun, hended, _, _, rfl, ?_, ⟨_, rfl⟩, hW, hsame.mono (by decide) (by decide)⟩
              · show Steps p.tables e below (s₁.setTop (mkF m 246 #[.val (.ref a1), .val (.int p2), .val (.int (v2_7 p2 b0 b1 b2 b3 b4)), .val (.int (j2_1_L3 p2 b0 b1 b2 b3 b4)), .val (.int (j2_1_L4 p2 b0 b1 b2 b3 b4)), .val (.int (j2_1_L5 p2 b0 b1 b2 b3 b4)), .val (.int (j2_4_S0 p2 b0 b1 b2 b3 b4)), .val (.int (3 : Int32)), .val (.int ((own_at b0 b1 b2 b3 b4 (p2 + (2 : Int32))) &&& (255 : Int32)))] [(.int (j2_4_S0 p2 b0 b1 b2 b3 b4))])) _
                refine XS.ifYes X0.here hx rfl (pc0 := 246) (pc' := 255) rfl (hb hby d2_246) rfl ((if0 _ _).trans (teq c246_77).1) (by decide) (by decide) ?_
                show Steps p.tables e below (s₁.setTop (mkF m 255 #[.val (.ref a1), .val (.int p2), .val (.int (v2_7 p2 b0 b1 b2 b3 b4)), .val (.int (j2_1_L3 p2 b0 b1 b2 b3 b4)), .val (.int (j2_1_L4 p2 b0 b1 b2 b3 b4)), .val (.int (j2_1_L5 p2 b0 b1 b2 b3 b4)), .val (.int (j2_4_S0 p2 b0 b1 b2 b3 b4)), .val (.int (3 : Int32)), .val (.int ((own_at b0 b1 b2 b3 b4 (p2 + (2 : Int32))) &&& (255 : Int32)))] [])) _
                refine XS.iconst X0.here hx rfl (hb hby d2_255) ?_
                show Steps p.tables e below (s₁.setTop (mkF m 256 #[.val (.ref a1), .val (.int p2), .val (.int (v2_7 p2 b0 b1 b2 b3 b4)), .val (.int (j2_1_L3 p2 b0 b1 b2 b3 b4)), .val (.int (j2_1_L4 p2 b0 b1 b2 b3 b4)), .val (.int (j2_1_L5 p2 b0 b1 b2 b3 b4)), .val (.int (j2_4_S0 p2 b0 b1 b2 b3 b4)), .val (.int (3 : Int32)), .val (.int ((own_at b0 b1 b2 b3 b4 (p2 + (2 : Int32))) &&& (255 : Int32)))] [(.int (-1 : Int32))])) _
                exact retI X0 hx Bd.returns (hb hby d2_256) hr
              · show Q2 Z a1 p2 b0 b1 b2 b3 b4 kk h0 n0 _ s₁.heap _
                rw [e0]
                have hv : sp2 p2 b0 b1 b2 b3 b4 = (-1 : Int32) := by unfold sp2; rw [if_neg c166_41, if_pos c172_45, if_neg c166_58, if_pos c172_62, if_pos c166_75, if_pos c246_77]
                exact ⟨by rw [hv], N0, rfl⟩
            · obtain ⟨fs, hr, hrun, hended, hW, hsame⟩ := X0.leave (v := some (.int (p2 + (j2_1_L3 p2 b0 b1 b2 b3 b4)))) (fun h => by rw [Bd.returns] at h; cases h)
              refine ⟨_, _, pre0 _ (k78 _ ?_), hrun, hended, _, _, rfl, ?_, ⟨_, rfl⟩, hW, hsame.mono (by decide) (by decide)⟩
              · show Steps p.tables e below (s₁.setTop (mkF m 246 #[.val (.ref a1), .val (.int p2), .val (.int (v2_7 p2 b0 b1 b2 b3 b4)), .val (.int (j2_1_L3 p2 b0 b1 b2 b3 b4)), .val (.int (j2_1_L4 p2 b0 b1 b2 b3 b4)), .val (.int (j2_1_L5 p2 b0 b1 b2 b3 b4)), .val (.int (j2_4_S0 p2 b0 b1 b2 b3 b4)), .val (.int (3 : Int32)), .val (.int ((own_at b0 b1 b2 b3 b4 (p2 + (2 : Int32))) &&& (255 : Int32)))] [(.int (j2_4_S0 p2 b0 b1 b2 b3 b4))])) _
                refine XS.ifNo X0.here hx rfl (hb hby d2_246) rfl ((if0 _ _).trans (feq c246_77).1) ?_
                show Steps p.tables e below (s₁.setTop (mkF m 249 #[.val (.ref a1), .val (.int p2), .val (.int (v2_7 p2 b0 b1 b2 b3 b4)), .val (.int (j2_1_L3 p2 b0 b1 b2 b3 b4)), .val (.int (j2_1_L4 p2 b0 b1 b2 b3 b4)), .val (.int (j2_1_L5 p2 b0 b1 b2 b3 b4)), .val (.int (j2_4_S0 p2 b0 b1 b2 b3 b4)), .val (.int (3 : Int32)), .val (.int ((own_at b0 b1 b2 b3 b4 (p2 + (2 : Int32))) &&& (255 : Int32)))] [])) _
                refine XS.iloadN X0.here hx rfl (hb hby d2_249) rfl ?_
                show Steps p.tables e below (s₁.setTop (mkF m 250 #[.val (.ref a1), .val (.int p2), .val (.int (v2_7 p2 b0 b1 b2 b3 b4)), .val (.int (j2_1_L3 p2 b0 b1 b2 b3 b4)), .val (.int (j2_1_L4 p2 b0 b1 b2 b3 b4)), .val (.int (j2_1_L5 p2 b0 b1 b2 b3 b4)), .val (.int (j2_4_S0 p2 b0 b1 b2 b3 b4)), .val (.int (3 : Int32)), .val (.int ((own_at b0 b1 b2 b3 b4 (p2 + (2 : Int32))) &&& (255 : Int32)))] [(.int p2)])) _
                refine XS.iloadN X0.here hx rfl (hb hby d2_250) rfl ?_
                show Steps p.tables e below (s₁.setTop (mkF m 251 #[.val (.ref a1), .val (.int p2), .val (.int (v2_7 p2 b0 b1 b2 b3 b4)), .val (.int (j2_1_L3 p2 b0 b1 b2 b3 b4)), .val (.int (j2_1_L4 p2 b0 b1 b2 b3 b4)), .val (.int (j2_1_L5 p2 b0 b1 b2 b3 b4)), .val (.int (j2_4_S0 p2 b0 b1 b2 b3 b4)), .val (.int (3 : Int32)), .val (.int ((own_at b0 b1 b2 b3 b4 (p2 + (2 : Int32))) &&& (255 : Int32)))] [(.int (j2_1_L3 p2 b0 b1 b2 b3 b4)), (.int p2)])) _
                refine XS.iadd X0.here hx rfl (hb hby d2_251) rfl ?_
                show Steps p.tables e below (s₁.setTop (mkF m 252 #[.val (.ref a1), .val (.int p2), .val (.int (v2_7 p2 b0 b1 b2 b3 b4)), .val (.int (j2_1_L3 p2 b0 b1 b2 b3 b4)), .val (.int (j2_1_L4 p2 b0 b1 b2 b3 b4)), .val (.int (j2_1_L5 p2 b0 b1 b2 b3 b4)), .val (.int (j2_4_S0 p2 b0 b1 b2 b3 b4)), .val (.int (3 : Int32)), .val (.int ((own_at b0 b1 b2 b3 b4 (p2 + (2 : Int32))) &&& (255 : Int32)))] [(.int (p2 + (j2_1_L3 p2 b0 b1 b2 b3 b4)))])) _
                refine XS.goto X0.here hx rfl (pc0 := 252) (pc' := 256) rfl (hb hby d2_252) (by decide) (by decide) ?_
                show Steps p.tables e below (s₁.setTop (mkF m 256 #[.val (.ref a1), .val (.int p2), .val (.int (v2_7 p2 b0 b1 b2 b3 b4)), .val (.int (j2_1_L3 p2 b0 b1 b2 b3 b4)), .val (.int (j2_1_L4 p2 b0 b1 b2 b3 b4)), .val (.int (j2_1_L5 p2 b0 b1 b2 b3 b4)), .val (.int (j2_4_S0 p2 b0 b1 b2 b3 b4)), .val (.int (3 : Int32)), .val (.int ((own_at b0 b1 b2 b3 b4 (p2 + (2 : Int32))) &&& (255 : Int32)))] [(.int (p2 + (j2_1_L3 p2 b0 b1 b2 b3 b4)))])) _
                exact retI X0 hx Bd.returns (hb hby d2_256) hr
              · show Q2 Z a1 p2 b0 b1 b2 b3 b4 kk h0 n0 _ s₁.heap _
                rw [e0]
                have hv : sp2 p2 b0 b1 b2 b3 b4 = (p2 + (j2_1_L3 p2 b0 b1 b2 b3 b4)) := by unfold sp2; rw [if_neg c166_41, if_pos c172_45, if_neg c166_58, if_pos c172_62, if_pos c166_75, if_neg c246_77]
                exact ⟨by rw [hv], N0, rfl⟩
          · have k80 : ∀ t, Steps p.tables e below (s₁.setTop (mkF m 172 #[.val (.ref a1), .val (.int p2), .val (.int (v2_7 p2 b0 b1 b2 b3 b4)), .val (.int (j2_1_L3 p2 b0 b1 b2 b3 b4)), .val (.int (j2_1_L4 p2 b0 b1 b2 b3 b4)), .val (.int (j2_1_L5 p2 b0 b1 b2 b3 b4)), .val (.int (j2_4_S0 p2 b0 b1 b2 b3 b4)), .val (.int (3 : Int32)), .val (.int ((own_at b0 b1 b2 b3 b4 (p2 + (2 : Int32))) &&& (255 : Int32)))] [(.int (j2_1_L3 p2 b0 b1 b2 b3 b4)), (.int (3 : Int32))])) t → Steps p.tables e below (s₁.setTop (mkF m 0 #[.val (.ref a1), .val (.int p2), .unset, .unset, .unset, .unset, .unset, .unset, .unset] [])) t := fun t kt => k76 t (by
              show Steps p.tables e below (s₁.setTop (mkF m 166 #[.val (.ref a1), .val (.int p2), .val (.int (v2_7 p2 b0 b1 b2 b3 b4)), .val (.int (j2_1_L3 p2 b0 b1 b2 b3 b4)), .val (.int (j2_1_L4 p2 b0 b1 b2 b3 b4)), .val (.int (j2_1_L5 p2 b0 b1 b2 b3 b4)), .val (.int (j2_4_S0 p2 b0 b1 b2 b3 b4)), .val (.int (3 : Int32)), .val (.int ((own_at b0 b1 b2 b3 b4 (p2 + (2 : Int32))) &&& (255 : Int32)))] [(.int (j2_4_S0 p2 b0 b1 b2 b3 b4))])) _
              refine XS.ifNo X0.here hx rfl (hb hby d2_166) rfl ((if0 _ _).trans (feq c166_75).1) ?_
              show Steps p.tables e below (s₁.setTop (mkF m 169 #[.val (.ref a1), .val (.int p2), .val (.int (v2_7 p2 b0 b1 b2 b3 b4)), .val (.int (j2_1_L3 p2 b0 b1 b2 b3 b4)), .val (.int (j2_1_L4 p2 b0 b1 b2 b3 b4)), .val (.int (j2_1_L5 p2 b0 b1 b2 b3 b4)), .val (.int (j2_4_S0 p2 b0 b1 b2 b3 b4)), .val (.int (3 : Int32)), .val (.int ((own_at b0 b1 b2 b3 b4 (p2 + (2 : Int32))) &&& (255 : Int32)))] [])) _
              refine XS.iload X0.here hx rfl (hb hby d2_169) rfl ?_
              show Steps p.tables e below (s₁.setTop (mkF m 171 #[.val (.ref a1), .val (.int p2), .val (.int (v2_7 p2 b0 b1 b2 b3 b4)), .val (.int (j2_1_L3 p2 b0 b1 b2 b3 b4)), .val (.int (j2_1_L4 p2 b0 b1 b2 b3 b4)), .val (.int (j2_1_L5 p2 b0 b1 b2 b3 b4)), .val (.int (j2_4_S0 p2 b0 b1 b2 b3 b4)), .val (.int (3 : Int32)), .val (.int ((own_at b0 b1 b2 b3 b4 (p2 + (2 : Int32))) &&& (255 : Int32)))] [(.int (3 : Int32))])) _
              refine XS.iloadN X0.here hx rfl (hb hby d2_171) rfl ?_
              exact kt)
            by_cases c172_79 : (3 : Int32) < (j2_1_L3 p2 b0 b1 b2 b3 b4)
            · have k81 : ∀ t, Steps p.tables e below (s₁.setTop (mkF m 180 #[.val (.ref a1), .val (.int p2), .val (.int (v2_7 p2 b0 b1 b2 b3 b4)), .val (.int (j2_1_L3 p2 b0 b1 b2 b3 b4)), .val (.int (j2_1_L4 p2 b0 b1 b2 b3 b4)), .val (.int (j2_1_L5 p2 b0 b1 b2 b3 b4)), .val (.int (j2_4_S0 p2 b0 b1 b2 b3 b4)), .val (.int (3 : Int32)), .val (.int ((own_at b0 b1 b2 b3 b4 (p2 + (2 : Int32))) &&& (255 : Int32)))] [(.int (p2 + (3 : Int32))), (.ref a1)])) t → Steps p.tables e below (s₁.setTop (mkF m 0 #[.val (.ref a1), .val (.int p2), .unset, .unset, .unset, .unset, .unset, .unset, .unset] [])) t := fun t kt => k80 t (by
                show Steps p.tables e below (s₁.setTop (mkF m 172 #[.val (.ref a1), .val (.int p2), .val (.int (v2_7 p2 b0 b1 b2 b3 b4)), .val (.int (j2_1_L3 p2 b0 b1 b2 b3 b4)), .val (.int (j2_1_L4 p2 b0 b1 b2 b3 b4)), .val (.int (j2_1_L5 p2 b0 b1 b2 b3 b4)), .val (.int (j2_4_S0 p2 b0 b1 b2 b3 b4)), .val (.int (3 : Int32)), .val (.int ((own_at b0 b1 b2 b3 b4 (p2 + (2 : Int32))) &&& (255 : Int32)))] [(.int (j2_1_L3 p2 b0 b1 b2 b3 b4)), (.int (3 : Int32))])) _
                refine XS.icmpNo X0.here hx rfl (hb hby d2_172) rfl (tlt c172_79).2.1 ?_
                show Steps p.tables e below (s₁.setTop (mkF m 175 #[.val (.ref a1), .val (.int p2), .val (.int (v2_7 p2 b0 b1 b2 b3 b4)), .val (.int (j2_1_L3 p2 b0 b1 b2 b3 b4)), .val (.int (j2_1_L4 p2 b0 b1 b2 b3 b4)), .val (.int (j2_1_L5 p2 b0 b1 b2 b3 b4)), .val (.int (j2_4_S0 p2 b0 b1 b2 b3 b4)), .val (.int (3 : Int32)), .val (.int ((own_at b0 b1 b2 b3 b4 (p2 + (2 : Int32))) &&& (255 : Int32)))] [])) _
                refine XS.aloadN X0.here hx rfl (hb hby d2_175) rfl rfl ?_
                show Steps p.tables e below (s₁.setTop (mkF m 176 #[.val (.ref a1), .val (.int p2), .val (.int (v2_7 p2 b0 b1 b2 b3 b4)), .val (.int (j2_1_L3 p2 b0 b1 b2 b3 b4)), .val (.int (j2_1_L4 p2 b0 b1 b2 b3 b4)), .val (.int (j2_1_L5 p2 b0 b1 b2 b3 b4)), .val (.int (j2_4_S0 p2 b0 b1 b2 b3 b4)), .val (.int (3 : Int32)), .val (.int ((own_at b0 b1 b2 b3 b4 (p2 + (2 : Int32))) &&& (255 : Int32)))] [(.ref a1)])) _
                refine XS.iloadN X0.here hx rfl (hb hby d2_176) rfl ?_
                show Steps p.tables e below (s₁.setTop (mkF m 177 #[.val (.ref a1), .val (.int p2), .val (.int (v2_7 p2 b0 b1 b2 b3 b4)), .val (.int (j2_1_L3 p2 b0 b1 b2 b3 b4)), .val (.int (j2_1_L4 p2 b0 b1 b2 b3 b4)), .val (.int (j2_1_L5 p2 b0 b1 b2 b3 b4)), .val (.int (j2_4_S0 p2 b0 b1 b2 b3 b4)), .val (.int (3 : Int32)), .val (.int ((own_at b0 b1 b2 b3 b4 (p2 + (2 : Int32))) &&& (255 : Int32)))] [(.int p2), (.ref a1)])) _
                refine XS.iload X0.here hx rfl (hb hby d2_177) rfl ?_
                show Steps p.tables e below (s₁.setTop (mkF m 179 #[.val (.ref a1), .val (.int p2), .val (.int (v2_7 p2 b0 b1 b2 b3 b4)), .val (.int (j2_1_L3 p2 b0 b1 b2 b3 b4)), .val (.int (j2_1_L4 p2 b0 b1 b2 b3 b4)), .val (.int (j2_1_L5 p2 b0 b1 b2 b3 b4)), .val (.int (j2_4_S0 p2 b0 b1 b2 b3 b4)), .val (.int (3 : Int32)), .val (.int ((own_at b0 b1 b2 b3 b4 (p2 + (2 : Int32))) &&& (255 : Int32)))] [(.int (3 : Int32)), (.int p2), (.ref a1)])) _
                refine XS.iadd X0.here hx rfl (hb hby d2_179) rfl ?_
                exact kt)
              obtain ⟨cl82, Ar82, q82, S82, N82', H82, G82⟩ := V65
              have hin82 : ¬ ((p2 + (3 : Int32)) < 0 ∨ cl82.slots.size ≤ ((p2 + (3 : Int32))).toNatClampNeg) := inb_of S82 (own_bd b0 b1 b2 b3 b4 p2 (3 : Int32) hat (by decide) (by decide) c166_41 c172_79)
              have hat82 : cl82.slots[((p2 + (3 : Int32))).toNatClampNeg]? = some (.int (own_at b0 b1 b2 b3 b4 (p2 + (3 : Int32)))) := H82.at hin82 (own_at_at b0 b1 b2 b3 b4 (p2 + (3 : Int32)) (own_bd b0 b1 b2 b3 b4 p2 (3 : Int32) hat (by decide) (by decide) c166_41 c172_79))
              have V82 : Arv Z h0 a1 kk .byte (5 : Int32) [(.int b0), (.int b1), (.int b2), (.int b3), (.int b4)] (.int (0 : Int32)) := ⟨cl82, Ar82, q82, S82, N82', H82, G82⟩
              have k83 : ∀ t, Steps p.tables e below (s₁.setTop (mkF m 181 #[.val (.ref a1), .val (.int p2), .val (.int (v2_7 p2 b0 b1 b2 b3 b4)), .val (.int (j2_1_L3 p2 b0 b1 b2 b3 b4)), .val (.int (j2_1_L4 p2 b0 b1 b2 b3 b4)), .val (.int (j2_1_L5 p2 b0 b1 b2 b3 b4)), .val (.int (j2_4_S0 p2 b0 b1 b2 b3 b4)), .val (.int (3 : Int32)), .val (.int ((own_at b0 b1 b2 b3 b4 (p2 + (2 : Int32))) &&& (255 : Int32)))] [(.int (own_at b0 b1 b2 b3 b4 (p2 + (3 : Int32))))])) t → Steps p.tables e below (s₁.setTop (mkF m 0 #[.val (.ref a1), .val (.int p2), .unset, .unset, .unset, .unset, .unset, .unset, .unset] [])) t := fun t kt => k81 t (by
                show Steps p.tables e below (s₁.setTop (mkF m 180 #[.val (.ref a1), .val (.int p2), .val (.int (v2_7 p2 b0 b1 b2 b3 b4)), .val (.int (j2_1_L3 p2 b0 b1 b2 b3 b4)), .val (.int (j2_1_L4 p2 b0 b1 b2 b3 b4)), .val (.int (j2_1_L5 p2 b0 b1 b2 b3 b4)), .val (.int (j2_4_S0 p2 b0 b1 b2 b3 b4)), .val (.int (3 : Int32)), .val (.int ((own_at b0 b1 b2 b3 b4 (p2 + (2 : Int32))) &&& (255 : Int32)))] [(.int (p2 + (3 : Int32))), (.ref a1)])) _
                refine X0.baloadBytes hx (j := (p2 + (3 : Int32))) (v := (.int (own_at b0 b1 b2 b3 b4 (p2 + (3 : Int32))))) (by rw [e0]; exact Ar82.1) (State.isArrayOf_alike hZ.alike Ar82.2.1) Ar82.2.2 hin82 hat82 (g := (mkF m 180 #[.val (.ref a1), .val (.int p2), .val (.int (v2_7 p2 b0 b1 b2 b3 b4)), .val (.int (j2_1_L3 p2 b0 b1 b2 b3 b4)), .val (.int (j2_1_L4 p2 b0 b1 b2 b3 b4)), .val (.int (j2_1_L5 p2 b0 b1 b2 b3 b4)), .val (.int (j2_4_S0 p2 b0 b1 b2 b3 b4)), .val (.int (3 : Int32)), .val (.int ((own_at b0 b1 b2 b3 b4 (p2 + (2 : Int32))) &&& (255 : Int32)))] [(.int (p2 + (3 : Int32))), (.ref a1)])) rfl rfl (hb hby d2_180) _ ?_
                exact kt)
              have k84 : ∀ t, Steps p.tables e below (s₁.setTop (mkF m 187 #[.val (.ref a1), .val (.int p2), .val (.int (v2_7 p2 b0 b1 b2 b3 b4)), .val (.int (j2_1_L3 p2 b0 b1 b2 b3 b4)), .val (.int (j2_1_L4 p2 b0 b1 b2 b3 b4)), .val (.int (j2_1_L5 p2 b0 b1 b2 b3 b4)), .val (.int (j2_4_S0 p2 b0 b1 b2 b3 b4)), .val (.int (3 : Int32)), .val (.int ((own_at b0 b1 b2 b3 b4 (p2 + (3 : Int32))) &&& (255 : Int32)))] [])) t → Steps p.tables e below (s₁.setTop (mkF m 0 #[.val (.ref a1), .val (.int p2), .unset, .unset, .unset, .unset, .unset, .unset, .unset] [])) t := fun t kt => k83 t (by
                show Steps p.tables e below (s₁.setTop (mkF m 181 #[.val (.ref a1), .val (.int p2), .val (.int (v2_7 p2 b0 b1 b2 b3 b4)), .val (.int (j2_1_L3 p2 b0 b1 b2 b3 b4)), .val (.int (j2_1_L4 p2 b0 b1 b2 b3 b4)), .val (.int (j2_1_L5 p2 b0 b1 b2 b3 b4)), .val (.int (j2_4_S0 p2 b0 b1 b2 b3 b4)), .val (.int (3 : Int32)), .val (.int ((own_at b0 b1 b2 b3 b4 (p2 + (2 : Int32))) &&& (255 : Int32)))] [(.int (own_at b0 b1 b2 b3 b4 (p2 + (3 : Int32))))])) _
                refine XS.sipush X0.here hx rfl (hb hby d2_181) ?_
                show Steps p.tables e below (s₁.setTop (mkF m 184 #[.val (.ref a1), .val (.int p2), .val (.int (v2_7 p2 b0 b1 b2 b3 b4)), .val (.int (j2_1_L3 p2 b0 b1 b2 b3 b4)), .val (.int (j2_1_L4 p2 b0 b1 b2 b3 b4)), .val (.int (j2_1_L5 p2 b0 b1 b2 b3 b4)), .val (.int (j2_4_S0 p2 b0 b1 b2 b3 b4)), .val (.int (3 : Int32)), .val (.int ((own_at b0 b1 b2 b3 b4 (p2 + (2 : Int32))) &&& (255 : Int32)))] [(.int (255 : Int32)), (.int (own_at b0 b1 b2 b3 b4 (p2 + (3 : Int32))))])) _
                refine XS.iand X0.here hx rfl (hb hby d2_184) rfl ?_
                show Steps p.tables e below (s₁.setTop (mkF m 185 #[.val (.ref a1), .val (.int p2), .val (.int (v2_7 p2 b0 b1 b2 b3 b4)), .val (.int (j2_1_L3 p2 b0 b1 b2 b3 b4)), .val (.int (j2_1_L4 p2 b0 b1 b2 b3 b4)), .val (.int (j2_1_L5 p2 b0 b1 b2 b3 b4)), .val (.int (j2_4_S0 p2 b0 b1 b2 b3 b4)), .val (.int (3 : Int32)), .val (.int ((own_at b0 b1 b2 b3 b4 (p2 + (2 : Int32))) &&& (255 : Int32)))] [(.int ((own_at b0 b1 b2 b3 b4 (p2 + (3 : Int32))) &&& (255 : Int32)))])) _
                refine XS.istore X0.here hx rfl (hb hby d2_185) rfl (l' := #[.val (.ref a1), .val (.int p2), .val (.int (v2_7 p2 b0 b1 b2 b3 b4)), .val (.int (j2_1_L3 p2 b0 b1 b2 b3 b4)), .val (.int (j2_1_L4 p2 b0 b1 b2 b3 b4)), .val (.int (j2_1_L5 p2 b0 b1 b2 b3 b4)), .val (.int (j2_4_S0 p2 b0 b1 b2 b3 b4)), .val (.int (3 : Int32)), .val (.int ((own_at b0 b1 b2 b3 b4 (p2 + (3 : Int32))) &&& (255 : Int32)))]) rfl ?_
                exact kt)
              have k88 : ∀ t, Steps p.tables e below (s₁.setTop (mkF m 236 #[.val (.ref a1), .val (.int p2), .val (.int (v2_7 p2 b0 b1 b2 b3 b4)), .val (.int (j2_1_L3 p2 b0 b1 b2 b3 b4)), .val (.int (j2_1_L4 p2 b0 b1 b2 b3 b4)), .val (.int (j2_1_L5 p2 b0 b1 b2 b3 b4)), .val (.int (j2_4_S0 p2 b0 b1 b2 b3 b4)), .val (.int (3 : Int32)), .val (.int ((own_at b0 b1 b2 b3 b4 (p2 + (3 : Int32))) &&& (255 : Int32)))] [(.int (j2_5_S0 p2 b0 b1 b2 b3 b4))])) t → Steps p.tables e below (s₁.setTop (mkF m 0 #[.val (.ref a1), .val (.int p2), .unset, .unset, .unset, .unset, .unset, .unset, .unset] [])) t := by
                intro t kt
                refine k84 t ?_
                have c190_89 : ¬ ((3 : Int32) = (1 : Int32)) := by decide
                by_cases c220_90 : ((own_at b0 b1 b2 b3 b4 (p2 + (3 : Int32))) &&& (255 : Int32)) < (128 : Int32)
                · rw [show j2_5_S0 p2 b0 b1 b2 b3 b4 = (0 : Int32) from by unfold j2_5_S0; rw [if_pos c220_90]] at kt
                  show Steps p.tables e below (s₁.setTop (mkF m 187 #[.val (.ref a1), .val (.int p2), .val (.int (v2_7 p2 b0 b1 b2 b3 b4)), .val (.int (j2_1_L3 p2 b0 b1 b2 b3 b4)), .val (.int (j2_1_L4 p2 b0 b1 b2 b3 b4)), .val (.int (j2_1_L5 p2 b0 b1 b2 b3 b4)), .val (.int (j2_4_S0 p2 b0 b1 b2 b3 b4)), .val (.int (3 : Int32)), .val (.int ((own_at b0 b1 b2 b3 b4 (p2 + (3 : Int32))) &&& (255 : Int32)))] [])) _
                  refine XS.iload X0.here hx rfl (hb hby d2_187) rfl ?_
                  show Steps p.tables e below (s₁.setTop (mkF m 189 #[.val (.ref a1), .val (.int p2), .val (.int (v2_7 p2 b0 b1 b2 b3 b4)), .val (.int (j2_1_L3 p2 b0 b1 b2 b3 b4)), .val (.int (j2_1_L4 p2 b0 b1 b2 b3 b4)), .val (.int (j2_1_L5 p2 b0 b1 b2 b3 b4)), .val (.int (j2_4_S0 p2 b0 b1 b2 b3 b4)), .val (.int (3 : Int32)), .val (.int ((own_at b0 b1 b2 b3 b4 (p2 + (3 : Int32))) &&& (255 : Int32)))] [(.int (3 : Int32))])) _
                  refine XS.iconst X0.here hx rfl (hb hby d2_189) ?_
                  show Steps p.tables e below (s₁.setTop (mkF m 190 #[.val (.ref a1), .val (.int p2), .val (.int (v2_7 p2 b0 b1 b2 b3 b4)), .val (.int (j2_1_L3 p2 b0 b1 b2 b3 b4)), .val (.int (j2_1_L4 p2 b0 b1 b2 b3 b4)), .val (.int (j2_1_L5 p2 b0 b1 b2 b3 b4)), .val (.int (j2_4_S0 p2 b0 b1 b2 b3 b4)), .val (.int (3 : Int32)), .val (.int ((own_at b0 b1 b2 b3 b4 (p2 + (3 : Int32))) &&& (255 : Int32)))] [(.int (1 : Int32)), (.int (3 : Int32))])) _
                  refine XS.icmpYes X0.here hx rfl (pc0 := 190) (pc' := 215) rfl (hb hby d2_190) rfl (feq c190_89).2 (by decide) (by decide) ?_
                  show Steps p.tables e below (s₁.setTop (mkF m 215 #[.val (.ref a1), .val (.int p2), .val (.int (v2_7 p2 b0 b1 b2 b3 b4)), .val (.int (j2_1_L3 p2 b0 b1 b2 b3 b4)), .val (.int (j2_1_L4 p2 b0 b1 b2 b3 b4)), .val (.int (j2_1_L5 p2 b0 b1 b2 b3 b4)), .val (.int (j2_4_S0 p2 b0 b1 b2 b3 b4)), .val (.int (3 : Int32)), .val (.int ((own_at b0 b1 b2 b3 b4 (p2 + (3 : Int32))) &&& (255 : Int32)))] [])) _
                  refine XS.iload X0.here hx rfl (hb hby d2_215) rfl ?_
                  show Steps p.tables e below (s₁.setTop (mkF m 217 #[.val (.ref a1), .val (.int p2), .val (.int (v2_7 p2 b0 b1 b2 b3 b4)), .val (.int (j2_1_L3 p2 b0 b1 b2 b3 b4)), .val (.int (j2_1_L4 p2 b0 b1 b2 b3 b4)), .val (.int (j2_1_L5 p2 b0 b1 b2 b3 b4)), .val (.int (j2_4_S0 p2 b0 b1 b2 b3 b4)), .val (.int (3 : Int32)), .val (.int ((own_at b0 b1 b2 b3 b4 (p2 + (3 : Int32))) &&& (255 : Int32)))] [(.int ((own_at b0 b1 b2 b3 b4 (p2 + (3 : Int32))) &&& (255 : Int32)))])) _
                  refine XS.sipush X0.here hx rfl (hb hby d2_217) ?_
                  show Steps p.tables e below (s₁.setTop (mkF m 220 #[.val (.ref a1), .val (.int p2), .val (.int (v2_7 p2 b0 b1 b2 b3 b4)), .val (.int (j2_1_L3 p2 b0 b1 b2 b3 b4)), .val (.int (j2_1_L4 p2 b0 b1 b2 b3 b4)), .val (.int (j2_1_L5 p2 b0 b1 b2 b3 b4)), .val (.int (j2_4_S0 p2 b0 b1 b2 b3 b4)), .val (.int (3 : Int32)), .val (.int ((own_at b0 b1 b2 b3 b4 (p2 + (3 : Int32))) &&& (255 : Int32)))] [(.int (128 : Int32)), (.int ((own_at b0 b1 b2 b3 b4 (p2 + (3 : Int32))) &&& (255 : Int32)))])) _
                  refine XS.icmpYes X0.here hx rfl (pc0 := 220) (pc' := 235) rfl (hb hby d2_220) rfl (tlt c220_90).1 (by decide) (by decide) ?_
                  show Steps p.tables e below (s₁.setTop (mkF m 235 #[.val (.ref a1), .val (.int p2), .val (.int (v2_7 p2 b0 b1 b2 b3 b4)), .val (.int (j2_1_L3 p2 b0 b1 b2 b3 b4)), .val (.int (j2_1_L4 p2 b0 b1 b2 b3 b4)), .val (.int (j2_1_L5 p2 b0 b1 b2 b3 b4)), .val (.int (j2_4_S0 p2 b0 b1 b2 b3 b4)), .val (.int (3 : Int32)), .val (.int ((own_at b0 b1 b2 b3 b4 (p2 + (3 : Int32))) &&& (255 : Int32)))] [])) _
                  refine XS.iconst X0.here hx rfl (hb hby d2_235) ?_
                  exact kt
                · by_cases c228_91 : (191 : Int32) < ((own_at b0 b1 b2 b3 b4 (p2 + (3 : Int32))) &&& (255 : Int32))
                  · rw [show j2_5_S0 p2 b0 b1 b2 b3 b4 = (0 : Int32) from by unfold j2_5_S0; rw [if_neg c220_90, if_pos c228_91]] at kt
                    show Steps p.tables e below (s₁.setTop (mkF m 187 #[.val (.ref a1), .val (.int p2), .val (.int (v2_7 p2 b0 b1 b2 b3 b4)), .val (.int (j2_1_L3 p2 b0 b1 b2 b3 b4)), .val (.int (j2_1_L4 p2 b0 b1 b2 b3 b4)), .val (.int (j2_1_L5 p2 b0 b1 b2 b3 b4)), .val (.int (j2_4_S0 p2 b0 b1 b2 b3 b4)), .val (.int (3 : Int32)), .val (.int ((own_at b0 b1 b2 b3 b4 (p2 + (3 : Int32))) &&& (255 : Int32)))] [])) _
                    refine XS.iload X0.here hx rfl (hb hby d2_187) rfl ?_
                    show Steps p.tables e below (s₁.setTop (mkF m 189 #[.val (.ref a1), .val (.int p2), .val (.int (v2_7 p2 b0 b1 b2 b3 b4)), .val (.int (j2_1_L3 p2 b0 b1 b2 b3 b4)), .val (.int (j2_1_L4 p2 b0 b1 b2 b3 b4)), .val (.int (j2_1_L5 p2 b0 b1 b2 b3 b4)), .val (.int (j2_4_S0 p2 b0 b1 b2 b3 b4)), .val (.int (3 : Int32)), .val (.int ((own_at b0 b1 b2 b3 b4 (p2 + (3 : Int32))) &&& (255 : Int32)))] [(.int (3 : Int32))])) _
                    refine XS.iconst X0.here hx rfl (hb hby d2_189) ?_
                    show Steps p.tables e below (s₁.setTop (mkF m 190 #[.val (.ref a1), .val (.int p2), .val (.int (v2_7 p2 b0 b1 b2 b3 b4)), .val (.int (j2_1_L3 p2 b0 b1 b2 b3 b4)), .val (.int (j2_1_L4 p2 b0 b1 b2 b3 b4)), .val (.int (j2_1_L5 p2 b0 b1 b2 b3 b4)), .val (.int (j2_4_S0 p2 b0 b1 b2 b3 b4)), .val (.int (3 : Int32)), .val (.int ((own_at b0 b1 b2 b3 b4 (p2 + (3 : Int32))) &&& (255 : Int32)))] [(.int (1 : Int32)), (.int (3 : Int32))])) _
                    refine XS.icmpYes X0.here hx rfl (pc0 := 190) (pc' := 215) rfl (hb hby d2_190) rfl (feq c190_89).2 (by decide) (by decide) ?_
                    show Steps p.tables e below (s₁.setTop (mkF m 215 #[.val (.ref a1), .val (.int p2), .val (.int (v2_7 p2 b0 b1 b2 b3 b4)), .val (.int (j2_1_L3 p2 b0 b1 b2 b3 b4)), .val (.int (j2_1_L4 p2 b0 b1 b2 b3 b4)), .val (.int (j2_1_L5 p2 b0 b1 b2 b3 b4)), .val (.int (j2_4_S0 p2 b0 b1 b2 b3 b4)), .val (.int (3 : Int32)), .val (.int ((own_at b0 b1 b2 b3 b4 (p2 + (3 : Int32))) &&& (255 : Int32)))] [])) _
                    refine XS.iload X0.here hx rfl (hb hby d2_215) rfl ?_
                    show Steps p.tables e below (s₁.setTop (mkF m 217 #[.val (.ref a1), .val (.int p2), .val (.int (v2_7 p2 b0 b1 b2 b3 b4)), .val (.int (j2_1_L3 p2 b0 b1 b2 b3 b4)), .val (.int (j2_1_L4 p2 b0 b1 b2 b3 b4)), .val (.int (j2_1_L5 p2 b0 b1 b2 b3 b4)), .val (.int (j2_4_S0 p2 b0 b1 b2 b3 b4)), .val (.int (3 : Int32)), .val (.int ((own_at b0 b1 b2 b3 b4 (p2 + (3 : Int32))) &&& (255 : Int32)))] [(.int ((own_at b0 b1 b2 b3 b4 (p2 + (3 : Int32))) &&& (255 : Int32)))])) _
                    refine XS.sipush X0.here hx rfl (hb hby d2_217) ?_
                    show Steps p.tables e below (s₁.setTop (mkF m 220 #[.val (.ref a1), .val (.int p2), .val (.int (v2_7 p2 b0 b1 b2 b3 b4)), .val (.int (j2_1_L3 p2 b0 b1 b2 b3 b4)), .val (.int (j2_1_L4 p2 b0 b1 b2 b3 b4)), .val (.int (j2_1_L5 p2 b0 b1 b2 b3 b4)), .val (.int (j2_4_S0 p2 b0 b1 b2 b3 b4)), .val (.int (3 : Int32)), .val (.int ((own_at b0 b1 b2 b3 b4 (p2 + (3 : Int32))) &&& (255 : Int32)))] [(.int (128 : Int32)), (.int ((own_at b0 b1 b2 b3 b4 (p2 + (3 : Int32))) &&& (255 : Int32)))])) _
                    refine XS.icmpNo X0.here hx rfl (hb hby d2_220) rfl (flt c220_90).1 ?_
                    show Steps p.tables e below (s₁.setTop (mkF m 223 #[.val (.ref a1), .val (.int p2), .val (.int (v2_7 p2 b0 b1 b2 b3 b4)), .val (.int (j2_1_L3 p2 b0 b1 b2 b3 b4)), .val (.int (j2_1_L4 p2 b0 b1 b2 b3 b4)), .val (.int (j2_1_L5 p2 b0 b1 b2 b3 b4)), .val (.int (j2_4_S0 p2 b0 b1 b2 b3 b4)), .val (.int (3 : Int32)), .val (.int ((own_at b0 b1 b2 b3 b4 (p2 + (3 : Int32))) &&& (255 : Int32)))] [])) _
                    refine XS.iload X0.here hx rfl (hb hby d2_223) rfl ?_
                    show Steps p.tables e below (s₁.setTop (mkF m 225 #[.val (.ref a1), .val (.int p2), .val (.int (v2_7 p2 b0 b1 b2 b3 b4)), .val (.int (j2_1_L3 p2 b0 b1 b2 b3 b4)), .val (.int (j2_1_L4 p2 b0 b1 b2 b3 b4)), .val (.int (j2_1_L5 p2 b0 b1 b2 b3 b4)), .val (.int (j2_4_S0 p2 b0 b1 b2 b3 b4)), .val (.int (3 : Int32)), .val (.int ((own_at b0 b1 b2 b3 b4 (p2 + (3 : Int32))) &&& (255 : Int32)))] [(.int ((own_at b0 b1 b2 b3 b4 (p2 + (3 : Int32))) &&& (255 : Int32)))])) _
                    refine XS.sipush X0.here hx rfl (hb hby d2_225) ?_
                    show Steps p.tables e below (s₁.setTop (mkF m 228 #[.val (.ref a1), .val (.int p2), .val (.int (v2_7 p2 b0 b1 b2 b3 b4)), .val (.int (j2_1_L3 p2 b0 b1 b2 b3 b4)), .val (.int (j2_1_L4 p2 b0 b1 b2 b3 b4)), .val (.int (j2_1_L5 p2 b0 b1 b2 b3 b4)), .val (.int (j2_4_S0 p2 b0 b1 b2 b3 b4)), .val (.int (3 : Int32)), .val (.int ((own_at b0 b1 b2 b3 b4 (p2 + (3 : Int32))) &&& (255 : Int32)))] [(.int (191 : Int32)), (.int ((own_at b0 b1 b2 b3 b4 (p2 + (3 : Int32))) &&& (255 : Int32)))])) _
                    refine XS.icmpYes X0.here hx rfl (pc0 := 228) (pc' := 235) rfl (hb hby d2_228) rfl (tlt c228_91).2.2.1 (by decide) (by decide) ?_
                    show Steps p.tables e below (s₁.setTop (mkF m 235 #[.val (.ref a1), .val (.int p2), .val (.int (v2_7 p2 b0 b1 b2 b3 b4)), .val (.int (j2_1_L3 p2 b0 b1 b2 b3 b4)), .val (.int (j2_1_L4 p2 b0 b1 b2 b3 b4)), .val (.int (j2_1_L5 p2 b0 b1 b2 b3 b4)), .val (.int (j2_4_S0 p2 b0 b1 b2 b3 b4)), .val (.int (3 : Int32)), .val (.int ((own_at b0 b1 b2 b3 b4 (p2 + (3 : Int32))) &&& (255 : Int32)))] [])) _
                    refine XS.iconst X0.here hx rfl (hb hby d2_235) ?_
                    exact kt
                  · rw [show j2_5_S0 p2 b0 b1 b2 b3 b4 = (1 : Int32) from by unfold j2_5_S0; rw [if_neg c220_90, if_neg c228_91]] at kt
                    show Steps p.tables e below (s₁.setTop (mkF m 187 #[.val (.ref a1), .val (.int p2), .val (.int (v2_7 p2 b0 b1 b2 b3 b4)), .val (.int (j2_1_L3 p2 b0 b1 b2 b3 b4)), .val (.int (j2_1_L4 p2 b0 b1 b2 b3 b4)), .val (.int (j2_1_L5 p2 b0 b1 b2 b3 b4)), .val (.int (j2_4_S0 p2 b0 b1 b2 b3 b4)), .val (.int (3 : Int32)), .val (.int ((own_at b0 b1 b2 b3 b4 (p2 + (3 : Int32))) &&& (255 : Int32)))] [])) _
                    refine XS.iload X0.here hx rfl (hb hby d2_187) rfl ?_
                    show Steps p.tables e below (s₁.setTop (mkF m 189 #[.val (.ref a1), .val (.int p2), .val (.int (v2_7 p2 b0 b1 b2 b3 b4)), .val (.int (j2_1_L3 p2 b0 b1 b2 b3 b4)), .val (.int (j2_1_L4 p2 b0 b1 b2 b3 b4)), .val (.int (j2_1_L5 p2 b0 b1 b2 b3 b4)), .val (.int (j2_4_S0 p2 b0 b1 b2 b3 b4)), .val (.int (3 : Int32)), .val (.int ((own_at b0 b1 b2 b3 b4 (p2 + (3 : Int32))) &&& (255 : Int32)))] [(.int (3 : Int32))])) _
                    refine XS.iconst X0.here hx rfl (hb hby d2_189) ?_
                    show Steps p.tables e below (s₁.setTop (mkF m 190 #[.val (.ref a1), .val (.int p2), .val (.int (v2_7 p2 b0 b1 b2 b3 b4)), .val (.int (j2_1_L3 p2 b0 b1 b2 b3 b4)), .val (.int (j2_1_L4 p2 b0 b1 b2 b3 b4)), .val (.int (j2_1_L5 p2 b0 b1 b2 b3 b4)), .val (.int (j2_4_S0 p2 b0 b1 b2 b3 b4)), .val (.int (3 : Int32)), .val (.int ((own_at b0 b1 b2 b3 b4 (p2 + (3 : Int32))) &&& (255 : Int32)))] [(.int (1 : Int32)), (.int (3 : Int32))])) _
                    refine XS.icmpYes X0.here hx rfl (pc0 := 190) (pc' := 215) rfl (hb hby d2_190) rfl (feq c190_89).2 (by decide) (by decide) ?_
                    show Steps p.tables e below (s₁.setTop (mkF m 215 #[.val (.ref a1), .val (.int p2), .val (.int (v2_7 p2 b0 b1 b2 b3 b4)), .val (.int (j2_1_L3 p2 b0 b1 b2 b3 b4)), .val (.int (j2_1_L4 p2 b0 b1 b2 b3 b4)), .val (.int (j2_1_L5 p2 b0 b1 b2 b3 b4)), .val (.int (j2_4_S0 p2 b0 b1 b2 b3 b4)), .val (.int (3 : Int32)), .val (.int ((own_at b0 b1 b2 b3 b4 (p2 + (3 : Int32))) &&& (255 : Int32)))] [])) _
                    refine XS.iload X0.here hx rfl (hb hby d2_215) rfl ?_
                    show Steps p.tables e below (s₁.setTop (mkF m 217 #[.val (.ref a1), .val (.int p2), .val (.int (v2_7 p2 b0 b1 b2 b3 b4)), .val (.int (j2_1_L3 p2 b0 b1 b2 b3 b4)), .val (.int (j2_1_L4 p2 b0 b1 b2 b3 b4)), .val (.int (j2_1_L5 p2 b0 b1 b2 b3 b4)), .val (.int (j2_4_S0 p2 b0 b1 b2 b3 b4)), .val (.int (3 : Int32)), .val (.int ((own_at b0 b1 b2 b3 b4 (p2 + (3 : Int32))) &&& (255 : Int32)))] [(.int ((own_at b0 b1 b2 b3 b4 (p2 + (3 : Int32))) &&& (255 : Int32)))])) _
                    refine XS.sipush X0.here hx rfl (hb hby d2_217) ?_
                    show Steps p.tables e below (s₁.setTop (mkF m 220 #[.val (.ref a1), .val (.int p2), .val (.int (v2_7 p2 b0 b1 b2 b3 b4)), .val (.int (j2_1_L3 p2 b0 b1 b2 b3 b4)), .val (.int (j2_1_L4 p2 b0 b1 b2 b3 b4)), .val (.int (j2_1_L5 p2 b0 b1 b2 b3 b4)), .val (.int (j2_4_S0 p2 b0 b1 b2 b3 b4)), .val (.int (3 : Int32)), .val (.int ((own_at b0 b1 b2 b3 b4 (p2 + (3 : Int32))) &&& (255 : Int32)))] [(.int (128 : Int32)), (.int ((own_at b0 b1 b2 b3 b4 (p2 + (3 : Int32))) &&& (255 : Int32)))])) _
                    refine XS.icmpNo X0.here hx rfl (hb hby d2_220) rfl (flt c220_90).1 ?_
                    show Steps p.tables e below (s₁.setTop (mkF m 223 #[.val (.ref a1), .val (.int p2), .val (.int (v2_7 p2 b0 b1 b2 b3 b4)), .val (.int (j2_1_L3 p2 b0 b1 b2 b3 b4)), .val (.int (j2_1_L4 p2 b0 b1 b2 b3 b4)), .val (.int (j2_1_L5 p2 b0 b1 b2 b3 b4)), .val (.int (j2_4_S0 p2 b0 b1 b2 b3 b4)), .val (.int (3 : Int32)), .val (.int ((own_at b0 b1 b2 b3 b4 (p2 + (3 : Int32))) &&& (255 : Int32)))] [])) _
                    refine XS.iload X0.here hx rfl (hb hby d2_223) rfl ?_
                    show Steps p.tables e below (s₁.setTop (mkF m 225 #[.val (.ref a1), .val (.int p2), .val (.int (v2_7 p2 b0 b1 b2 b3 b4)), .val (.int (j2_1_L3 p2 b0 b1 b2 b3 b4)), .val (.int (j2_1_L4 p2 b0 b1 b2 b3 b4)), .val (.int (j2_1_L5 p2 b0 b1 b2 b3 b4)), .val (.int (j2_4_S0 p2 b0 b1 b2 b3 b4)), .val (.int (3 : Int32)), .val (.int ((own_at b0 b1 b2 b3 b4 (p2 + (3 : Int32))) &&& (255 : Int32)))] [(.int ((own_at b0 b1 b2 b3 b4 (p2 + (3 : Int32))) &&& (255 : Int32)))])) _
                    refine XS.sipush X0.here hx rfl (hb hby d2_225) ?_
                    show Steps p.tables e below (s₁.setTop (mkF m 228 #[.val (.ref a1), .val (.int p2), .val (.int (v2_7 p2 b0 b1 b2 b3 b4)), .val (.int (j2_1_L3 p2 b0 b1 b2 b3 b4)), .val (.int (j2_1_L4 p2 b0 b1 b2 b3 b4)), .val (.int (j2_1_L5 p2 b0 b1 b2 b3 b4)), .val (.int (j2_4_S0 p2 b0 b1 b2 b3 b4)), .val (.int (3 : Int32)), .val (.int ((own_at b0 b1 b2 b3 b4 (p2 + (3 : Int32))) &&& (255 : Int32)))] [(.int (191 : Int32)), (.int ((own_at b0 b1 b2 b3 b4 (p2 + (3 : Int32))) &&& (255 : Int32)))])) _
                    refine XS.icmpNo X0.here hx rfl (hb hby d2_228) rfl (flt c228_91).2.2.1 ?_
                    show Steps p.tables e below (s₁.setTop (mkF m 231 #[.val (.ref a1), .val (.int p2), .val (.int (v2_7 p2 b0 b1 b2 b3 b4)), .val (.int (j2_1_L3 p2 b0 b1 b2 b3 b4)), .val (.int (j2_1_L4 p2 b0 b1 b2 b3 b4)), .val (.int (j2_1_L5 p2 b0 b1 b2 b3 b4)), .val (.int (j2_4_S0 p2 b0 b1 b2 b3 b4)), .val (.int (3 : Int32)), .val (.int ((own_at b0 b1 b2 b3 b4 (p2 + (3 : Int32))) &&& (255 : Int32)))] [])) _
                    refine XS.iconst X0.here hx rfl (hb hby d2_231) ?_
                    show Steps p.tables e below (s₁.setTop (mkF m 232 #[.val (.ref a1), .val (.int p2), .val (.int (v2_7 p2 b0 b1 b2 b3 b4)), .val (.int (j2_1_L3 p2 b0 b1 b2 b3 b4)), .val (.int (j2_1_L4 p2 b0 b1 b2 b3 b4)), .val (.int (j2_1_L5 p2 b0 b1 b2 b3 b4)), .val (.int (j2_4_S0 p2 b0 b1 b2 b3 b4)), .val (.int (3 : Int32)), .val (.int ((own_at b0 b1 b2 b3 b4 (p2 + (3 : Int32))) &&& (255 : Int32)))] [(.int (1 : Int32))])) _
                    refine XS.goto X0.here hx rfl (pc0 := 232) (pc' := 236) rfl (hb hby d2_232) (by decide) (by decide) ?_
                    exact kt
              have k93 : ∀ t, Steps p.tables e below (s₁.setTop (mkF m 166 #[.val (.ref a1), .val (.int p2), .val (.int (v2_7 p2 b0 b1 b2 b3 b4)), .val (.int (j2_1_L3 p2 b0 b1 b2 b3 b4)), .val (.int (j2_1_L4 p2 b0 b1 b2 b3 b4)), .val (.int (j2_1_L5 p2 b0 b1 b2 b3 b4)), .val (.int (j2_5_S0 p2 b0 b1 b2 b3 b4)), .val (.int (4 : Int32)), .val (.int ((own_at b0 b1 b2 b3 b4 (p2 + (3 : Int32))) &&& (255 : Int32)))] [(.int (j2_5_S0 p2 b0 b1 b2 b3 b4))])) t → Steps p.tables e below (s₁.setTop (mkF m 0 #[.val (.ref a1), .val (.int p2), .unset, .unset, .unset, .unset, .unset, .unset, .unset] [])) t := fun t kt => k88 t (by
                show Steps p.tables e below (s₁.setTop (mkF m 236 #[.val (.ref a1), .val (.int p2), .val (.int (v2_7 p2 b0 b1 b2 b3 b4)), .val (.int (j2_1_L3 p2 b0 b1 b2 b3 b4)), .val (.int (j2_1_L4 p2 b0 b1 b2 b3 b4)), .val (.int (j2_1_L5 p2 b0 b1 b2 b3 b4)), .val (.int (j2_4_S0 p2 b0 b1 b2 b3 b4)), .val (.int (3 : Int32)), .val (.int ((own_at b0 b1 b2 b3 b4 (p2 + (3 : Int32))) &&& (255 : Int32)))] [(.int (j2_5_S0 p2 b0 b1 b2 b3 b4))])) _
                refine XS.istore X0.here hx rfl (hb hby d2_236) rfl (l' := #[.val (.ref a1), .val (.int p2), .val (.int (v2_7 p2 b0 b1 b2 b3 b4)), .val (.int (j2_1_L3 p2 b0 b1 b2 b3 b4)), .val (.int (j2_1_L4 p2 b0 b1 b2 b3 b4)), .val (.int (j2_1_L5 p2 b0 b1 b2 b3 b4)), .val (.int (j2_5_S0 p2 b0 b1 b2 b3 b4)), .val (.int (3 : Int32)), .val (.int ((own_at b0 b1 b2 b3 b4 (p2 + (3 : Int32))) &&& (255 : Int32)))]) rfl ?_
                show Steps p.tables e below (s₁.setTop (mkF m 238 #[.val (.ref a1), .val (.int p2), .val (.int (v2_7 p2 b0 b1 b2 b3 b4)), .val (.int (j2_1_L3 p2 b0 b1 b2 b3 b4)), .val (.int (j2_1_L4 p2 b0 b1 b2 b3 b4)), .val (.int (j2_1_L5 p2 b0 b1 b2 b3 b4)), .val (.int (j2_5_S0 p2 b0 b1 b2 b3 b4)), .val (.int (3 : Int32)), .val (.int ((own_at b0 b1 b2 b3 b4 (p2 + (3 : Int32))) &&& (255 : Int32)))] [])) _
                refine XS.iinc X0.here hx rfl (hb hby d2_238) rfl (l' := #[.val (.ref a1), .val (.int p2), .val (.int (v2_7 p2 b0 b1 b2 b3 b4)), .val (.int (j2_1_L3 p2 b0 b1 b2 b3 b4)), .val (.int (j2_1_L4 p2 b0 b1 b2 b3 b4)), .val (.int (j2_1_L5 p2 b0 b1 b2 b3 b4)), .val (.int (j2_5_S0 p2 b0 b1 b2 b3 b4)), .val (.int (4 : Int32)), .val (.int ((own_at b0 b1 b2 b3 b4 (p2 + (3 : Int32))) &&& (255 : Int32)))]) rfl ?_
                show Steps p.tables e below (s₁.setTop (mkF m 241 #[.val (.ref a1), .val (.int p2), .val (.int (v2_7 p2 b0 b1 b2 b3 b4)), .val (.int (j2_1_L3 p2 b0 b1 b2 b3 b4)), .val (.int (j2_1_L4 p2 b0 b1 b2 b3 b4)), .val (.int (j2_1_L5 p2 b0 b1 b2 b3 b4)), .val (.int (j2_5_S0 p2 b0 b1 b2 b3 b4)), .val (.int (4 : Int32)), .val (.int ((own_at b0 b1 b2 b3 b4 (p2 + (3 : Int32))) &&& (255 : Int32)))] [])) _
                refine XS.goto X0.here hx rfl (pc0 := 241) (pc' := 164) rfl (hb hby d2_241) (by decide) (by decide) ?_
                show Steps p.tables e below (s₁.setTop (mkF m 164 #[.val (.ref a1), .val (.int p2), .val (.int (v2_7 p2 b0 b1 b2 b3 b4)), .val (.int (j2_1_L3 p2 b0 b1 b2 b3 b4)), .val (.int (j2_1_L4 p2 b0 b1 b2 b3 b4)), .val (.int (j2_1_L5 p2 b0 b1 b2 b3 b4)), .val (.int (j2_5_S0 p2 b0 b1 b2 b3 b4)), .val (.int (4 : Int32)), .val (.int ((own_at b0 b1 b2 b3 b4 (p2 + (3 : Int32))) &&& (255 : Int32)))] [])) _
                refine XS.iload X0.here hx rfl (hb hby d2_164) rfl ?_
                exact kt)
              by_cases c166_92 : (j2_5_S0 p2 b0 b1 b2 b3 b4) = (0 : Int32)
              · have k95 : ∀ t, Steps p.tables e below (s₁.setTop (mkF m 246 #[.val (.ref a1), .val (.int p2), .val (.int (v2_7 p2 b0 b1 b2 b3 b4)), .val (.int (j2_1_L3 p2 b0 b1 b2 b3 b4)), .val (.int (j2_1_L4 p2 b0 b1 b2 b3 b4)), .val (.int (j2_1_L5 p2 b0 b1 b2 b3 b4)), .val (.int (j2_5_S0 p2 b0 b1 b2 b3 b4)), .val (.int (4 : Int32)), .val (.int ((own_at b0 b1 b2 b3 b4 (p2 + (3 : Int32))) &&& (255 : Int32)))] [(.int (j2_5_S0 p2 b0 b1 b2 b3 b4))])) t → Steps p.tables e below (s₁.setTop (mkF m 0 #[.val (.ref a1), .val (.int p2), .unset, .unset, .unset, .unset, .unset, .unset, .unset] [])) t := fun t kt => k93 t (by
                  show Steps p.tables e below (s₁.setTop (mkF m 166 #[.val (.ref a1), .val (.int p2), .val (.int (v2_7 p2 b0 b1 b2 b3 b4)), .val (.int (j2_1_L3 p2 b0 b1 b2 b3 b4)), .val (.int (j2_1_L4 p2 b0 b1 b2 b3 b4)), .val (.int (j2_1_L5 p2 b0 b1 b2 b3 b4)), .val (.int (j2_5_S0 p2 b0 b1 b2 b3 b4)), .val (.int (4 : Int32)), .val (.int ((own_at b0 b1 b2 b3 b4 (p2 + (3 : Int32))) &&& (255 : Int32)))] [(.int (j2_5_S0 p2 b0 b1 b2 b3 b4))])) _
                  refine XS.ifYes X0.here hx rfl (pc0 := 166) (pc' := 244) rfl (hb hby d2_166) rfl ((if0 _ _).trans (teq c166_92).1) (by decide) (by decide) ?_
                  show Steps p.tables e below (s₁.setTop (mkF m 244 #[.val (.ref a1), .val (.int p2), .val (.int (v2_7 p2 b0 b1 b2 b3 b4)), .val (.int (j2_1_L3 p2 b0 b1 b2 b3 b4)), .val (.int (j2_1_L4 p2 b0 b1 b2 b3 b4)), .val (.int (j2_1_L5 p2 b0 b1 b2 b3 b4)), .val (.int (j2_5_S0 p2 b0 b1 b2 b3 b4)), .val (.int (4 : Int32)), .val (.int ((own_at b0 b1 b2 b3 b4 (p2 + (3 : Int32))) &&& (255 : Int32)))] [])) _
                  refine XS.iload X0.here hx rfl (hb hby d2_244) rfl ?_
                  exact kt)
                by_cases c246_94 : (j2_5_S0 p2 b0 b1 b2 b3 b4) = (0 : Int32)
                · obtain ⟨fs, hr, hrun, hended, hW, hsame⟩ := X0.leave (v := some (.int (-1 : Int32))) (fun h => by rw [Bd.returns] at h; cases h)
                  refine ⟨_, _, pre0 _ (k95 _ ?_), hrun, hended, _, _, rfl, ?_, ⟨_, rfl⟩, hW, hsame.mono (by decide) (by decide)⟩
                  · show Steps p.tables e below (s₁.setTop (mkF m 246 #[.val (.ref a1), .val (.int p2), .val (.int (v2_7 p2 b0 b1 b2 b3 b4)), .val (.int (j2_1_L3 p2 b0 b1 b2 b3 b4)), .val (.int (j2_1_L4 p2 b0 b1 b2 b3 b4)), .val (.int (j2_1_L5 p2 b0 b1 b2 b3 b4)), .val (.int (j2_5_S0 p2 b0 b1 b2 b3 b4)), .val (.int (4 : Int32)), .val (.int ((own_at b0 b1 b2 b3 b4 (p2 + (3 : Int32))) &&& (255 : Int32)))] [(.int (j2_5_S0 p2 b0 b1 b2 b3 b4))])) _
                    refine XS.ifYes X0.here hx rfl (pc0 := 246) (pc' := 255) rfl (hb hby d2_246) rfl ((if0 _ _).trans (teq c246_94).1) (by decide) (by decide) ?_
                    show Steps p.tables e below (s₁.setTop (mkF m 255 #[.val (.ref a1), .val (.int p2), .val (.int (v2_7 p2 b0 b1 b2 b3 b4)), .val (.int (j2_1_L3 p2 b0 b1 b2 b3 b4)), .val (.int (j2_1_L4 p2 b0 b1 b2 b3 b4)), .val (.int (j2_1_L5 p2 b0 b1 b2 b3 b4)), .val (.int (j2_5_S0 p2 b0 b1 b2 b3 b4)), .val (.int (4 : Int32)), .val (.int ((own_at b0 b1 b2 b3 b4 (p2 + (3 : Int32))) &&& (255 : Int32)))] [])) _
                    refine XS.iconst X0.here hx rfl (hb hby d2_255) ?_
                    show Steps p.tables e below (s₁.setTop (mkF m 256 #[.val (.ref a1), .val (.int p2), .val (.int (v2_7 p2 b0 b1 b2 b3 b4)), .val (.int (j2_1_L3 p2 b0 b1 b2 b3 b4)), .val (.int (j2_1_L4 p2 b0 b1 b2 b3 b4)), .val (.int (j2_1_L5 p2 b0 b1 b2 b3 b4)), .val (.int (j2_5_S0 p2 b0 b1 b2 b3 b4)), .val (.int (4 : Int32)), .val (.int ((own_at b0 b1 b2 b3 b4 (p2 + (3 : Int32))) &&& (255 : Int32)))] [(.int (-1 : Int32))])) _
                    exact retI X0 hx Bd.returns (hb hby d2_256) hr
                  · show Q2 Z a1 p2 b0 b1 b2 b3 b4 kk h0 n0 _ s₁.heap _
                    rw [e0]
                    have hv : sp2 p2 b0 b1 b2 b3 b4 = (-1 : Int32) := by unfold sp2; rw [if_neg c166_41, if_pos c172_45, if_neg c166_58, if_pos c172_62, if_neg c166_75, if_pos c172_79, if_pos c166_92, if_pos c246_94]
                    exact ⟨by rw [hv], N0, rfl⟩
                · obtain ⟨fs, hr, hrun, hended, hW, hsame⟩ := X0.leave (v := some (.int (p2 + (j2_1_L3 p2 b0 b1 b2 b3 b4)))) (fun h => by rw [Bd.returns] at h; cases h)
                  refine ⟨_, _, pre0 _ (k95 _ ?_), hrun, hended, _, _, rfl, ?_, ⟨_, rfl⟩, hW, hsame.mono (by decide) (by decide)⟩
                  · show Steps p.tables e below (s₁.setTop (mkF m 246 #[.val (.ref a1), .val (.int p2), .val (.int (v2_7 p2 b0 b1 b2 b3 b4)), .val (.int (j2_1_L3 p2 b0 b1 b2 b3 b4)), .val (.int (j2_1_L4 p2 b0 b1 b2 b3 b4)), .val (.int (j2_1_L5 p2 b0 b1 b2 b3 b4)), .val (.int (j2_5_S0 p2 b0 b1 b2 b3 b4)), .val (.int (4 : Int32)), .val (.int ((own_at b0 b1 b2 b3 b4 (p2 + (3 : Int32))) &&& (255 : Int32)))] [(.int (j2_5_S0 p2 b0 b1 b2 b3 b4))])) _
                    refine XS.ifNo X0.here hx rfl (hb hby d2_246) rfl ((if0 _ _).trans (feq c246_94).1) ?_
                    show Steps p.tables e below (s₁.setTop (mkF m 249 #[.val (.ref a1), .val (.int p2), .val (.int (v2_7 p2 b0 b1 b2 b3 b4)), .val (.int (j2_1_L3 p2 b0 b1 b2 b3 b4)), .val (.int (j2_1_L4 p2 b0 b1 b2 b3 b4)), .val (.int (j2_1_L5 p2 b0 b1 b2 b3 b4)), .val (.int (j2_5_S0 p2 b0 b1 b2 b3 b4)), .val (.int (4 : Int32)), .val (.int ((own_at b0 b1 b2 b3 b4 (p2 + (3 : Int32))) &&& (255 : Int32)))] [])) _
                    refine XS.iloadN X0.here hx rfl (hb hby d2_249) rfl ?_
                    show Steps p.tables e below (s₁.setTop (mkF m 250 #[.val (.ref a1), .val (.int p2), .val (.int (v2_7 p2 b0 b1 b2 b3 b4)), .val (.int (j2_1_L3 p2 b0 b1 b2 b3 b4)), .val (.int (j2_1_L4 p2 b0 b1 b2 b3 b4)), .val (.int (j2_1_L5 p2 b0 b1 b2 b3 b4)), .val (.int (j2_5_S0 p2 b0 b1 b2 b3 b4)), .val (.int (4 : Int32)), .val (.int ((own_at b0 b1 b2 b3 b4 (p2 + (3 : Int32))) &&& (255 : Int32)))] [(.int p2)])) _
                    refine XS.iloadN X0.here hx rfl (hb hby d2_250) rfl ?_
                    show Steps p.tables e below (s₁.setTop (mkF m 251 #[.val (.ref a1), .val (.int p2), .val (.int (v2_7 p2 b0 b1 b2 b3 b4)), .val (.int (j2_1_L3 p2 b0 b1 b2 b3 b4)), .val (.int (j2_1_L4 p2 b0 b1 b2 b3 b4)), .val (.int (j2_1_L5 p2 b0 b1 b2 b3 b4)), .val (.int (j2_5_S0 p2 b0 b1 b2 b3 b4)), .val (.int (4 : Int32)), .val (.int ((own_at b0 b1 b2 b3 b4 (p2 + (3 : Int32))) &&& (255 : Int32)))] [(.int (j2_1_L3 p2 b0 b1 b2 b3 b4)), (.int p2)])) _
                    refine XS.iadd X0.here hx rfl (hb hby d2_251) rfl ?_
                    show Steps p.tables e below (s₁.setTop (mkF m 252 #[.val (.ref a1), .val (.int p2), .val (.int (v2_7 p2 b0 b1 b2 b3 b4)), .val (.int (j2_1_L3 p2 b0 b1 b2 b3 b4)), .val (.int (j2_1_L4 p2 b0 b1 b2 b3 b4)), .val (.int (j2_1_L5 p2 b0 b1 b2 b3 b4)), .val (.int (j2_5_S0 p2 b0 b1 b2 b3 b4)), .val (.int (4 : Int32)), .val (.int ((own_at b0 b1 b2 b3 b4 (p2 + (3 : Int32))) &&& (255 : Int32)))] [(.int (p2 + (j2_1_L3 p2 b0 b1 b2 b3 b4)))])) _
                    refine XS.goto X0.here hx rfl (pc0 := 252) (pc' := 256) rfl (hb hby d2_252) (by decide) (by decide) ?_
                    show Steps p.tables e below (s₁.setTop (mkF m 256 #[.val (.ref a1), .val (.int p2), .val (.int (v2_7 p2 b0 b1 b2 b3 b4)), .val (.int (j2_1_L3 p2 b0 b1 b2 b3 b4)), .val (.int (j2_1_L4 p2 b0 b1 b2 b3 b4)), .val (.int (j2_1_L5 p2 b0 b1 b2 b3 b4)), .val (.int (j2_5_S0 p2 b0 b1 b2 b3 b4)), .val (.int (4 : Int32)), .val (.int ((own_at b0 b1 b2 b3 b4 (p2 + (3 : Int32))) &&& (255 : Int32)))] [(.int (p2 + (j2_1_L3 p2 b0 b1 b2 b3 b4)))])) _
                    exact retI X0 hx Bd.returns (hb hby d2_256) hr
                  · show Q2 Z a1 p2 b0 b1 b2 b3 b4 kk h0 n0 _ s₁.heap _
                    rw [e0]
                    have hv : sp2 p2 b0 b1 b2 b3 b4 = (p2 + (j2_1_L3 p2 b0 b1 b2 b3 b4)) := by unfold sp2; rw [if_neg c166_41, if_pos c172_45, if_neg c166_58, if_pos c172_62, if_neg c166_75, if_pos c172_79, if_pos c166_92, if_neg c246_94]
                    exact ⟨by rw [hv], N0, rfl⟩
              · have k97 : ∀ t, Steps p.tables e below (s₁.setTop (mkF m 172 #[.val (.ref a1), .val (.int p2), .val (.int (v2_7 p2 b0 b1 b2 b3 b4)), .val (.int (j2_1_L3 p2 b0 b1 b2 b3 b4)), .val (.int (j2_1_L4 p2 b0 b1 b2 b3 b4)), .val (.int (j2_1_L5 p2 b0 b1 b2 b3 b4)), .val (.int (j2_5_S0 p2 b0 b1 b2 b3 b4)), .val (.int (4 : Int32)), .val (.int ((own_at b0 b1 b2 b3 b4 (p2 + (3 : Int32))) &&& (255 : Int32)))] [(.int (j2_1_L3 p2 b0 b1 b2 b3 b4)), (.int (4 : Int32))])) t → Steps p.tables e below (s₁.setTop (mkF m 0 #[.val (.ref a1), .val (.int p2), .unset, .unset, .unset, .unset, .unset, .unset, .unset] [])) t := fun t kt => k93 t (by
                  show Steps p.tables e below (s₁.setTop (mkF m 166 #[.val (.ref a1), .val (.int p2), .val (.int (v2_7 p2 b0 b1 b2 b3 b4)), .val (.int (j2_1_L3 p2 b0 b1 b2 b3 b4)), .val (.int (j2_1_L4 p2 b0 b1 b2 b3 b4)), .val (.int (j2_1_L5 p2 b0 b1 b2 b3 b4)), .val (.int (j2_5_S0 p2 b0 b1 b2 b3 b4)), .val (.int (4 : Int32)), .val (.int ((own_at b0 b1 b2 b3 b4 (p2 + (3 : Int32))) &&& (255 : Int32)))] [(.int (j2_5_S0 p2 b0 b1 b2 b3 b4))])) _
                  refine XS.ifNo X0.here hx rfl (hb hby d2_166) rfl ((if0 _ _).trans (feq c166_92).1) ?_
                  show Steps p.tables e below (s₁.setTop (mkF m 169 #[.val (.ref a1), .val (.int p2), .val (.int (v2_7 p2 b0 b1 b2 b3 b4)), .val (.int (j2_1_L3 p2 b0 b1 b2 b3 b4)), .val (.int (j2_1_L4 p2 b0 b1 b2 b3 b4)), .val (.int (j2_1_L5 p2 b0 b1 b2 b3 b4)), .val (.int (j2_5_S0 p2 b0 b1 b2 b3 b4)), .val (.int (4 : Int32)), .val (.int ((own_at b0 b1 b2 b3 b4 (p2 + (3 : Int32))) &&& (255 : Int32)))] [])) _
                  refine XS.iload X0.here hx rfl (hb hby d2_169) rfl ?_
                  show Steps p.tables e below (s₁.setTop (mkF m 171 #[.val (.ref a1), .val (.int p2), .val (.int (v2_7 p2 b0 b1 b2 b3 b4)), .val (.int (j2_1_L3 p2 b0 b1 b2 b3 b4)), .val (.int (j2_1_L4 p2 b0 b1 b2 b3 b4)), .val (.int (j2_1_L5 p2 b0 b1 b2 b3 b4)), .val (.int (j2_5_S0 p2 b0 b1 b2 b3 b4)), .val (.int (4 : Int32)), .val (.int ((own_at b0 b1 b2 b3 b4 (p2 + (3 : Int32))) &&& (255 : Int32)))] [(.int (4 : Int32))])) _
                  refine XS.iloadN X0.here hx rfl (hb hby d2_171) rfl ?_
                  exact kt)
                have c172_96 : ¬ ((4 : Int32) < (j2_1_L3 p2 b0 b1 b2 b3 b4)) := own_n4 p2 b0 b1 b2 b3 b4
                have k99 : ∀ t, Steps p.tables e below (s₁.setTop (mkF m 246 #[.val (.ref a1), .val (.int p2), .val (.int (v2_7 p2 b0 b1 b2 b3 b4)), .val (.int (j2_1_L3 p2 b0 b1 b2 b3 b4)), .val (.int (j2_1_L4 p2 b0 b1 b2 b3 b4)), .val (.int (j2_1_L5 p2 b0 b1 b2 b3 b4)), .val (.int (j2_5_S0 p2 b0 b1 b2 b3 b4)), .val (.int (4 : Int32)), .val (.int ((own_at b0 b1 b2 b3 b4 (p2 + (3 : Int32))) &&& (255 : Int32)))] [(.int (j2_5_S0 p2 b0 b1 b2 b3 b4))])) t → Steps p.tables e below (s₁.setTop (mkF m 0 #[.val (.ref a1), .val (.int p2), .unset, .unset, .unset, .unset, .unset, .unset, .unset] [])) t := fun t kt => k97 t (by
                  show Steps p.tables e below (s₁.setTop (mkF m 172 #[.val (.ref a1), .val (.int p2), .val (.int (v2_7 p2 b0 b1 b2 b3 b4)), .val (.int (j2_1_L3 p2 b0 b1 b2 b3 b4)), .val (.int (j2_1_L4 p2 b0 b1 b2 b3 b4)), .val (.int (j2_1_L5 p2 b0 b1 b2 b3 b4)), .val (.int (j2_5_S0 p2 b0 b1 b2 b3 b4)), .val (.int (4 : Int32)), .val (.int ((own_at b0 b1 b2 b3 b4 (p2 + (3 : Int32))) &&& (255 : Int32)))] [(.int (j2_1_L3 p2 b0 b1 b2 b3 b4)), (.int (4 : Int32))])) _
                  refine XS.icmpYes X0.here hx rfl (pc0 := 172) (pc' := 244) rfl (hb hby d2_172) rfl (flt c172_96).2.1 (by decide) (by decide) ?_
                  show Steps p.tables e below (s₁.setTop (mkF m 244 #[.val (.ref a1), .val (.int p2), .val (.int (v2_7 p2 b0 b1 b2 b3 b4)), .val (.int (j2_1_L3 p2 b0 b1 b2 b3 b4)), .val (.int (j2_1_L4 p2 b0 b1 b2 b3 b4)), .val (.int (j2_1_L5 p2 b0 b1 b2 b3 b4)), .val (.int (j2_5_S0 p2 b0 b1 b2 b3 b4)), .val (.int (4 : Int32)), .val (.int ((own_at b0 b1 b2 b3 b4 (p2 + (3 : Int32))) &&& (255 : Int32)))] [])) _
                  refine XS.iload X0.here hx rfl (hb hby d2_244) rfl ?_
                  exact kt)
                by_cases c246_98 : (j2_5_S0 p2 b0 b1 b2 b3 b4) = (0 : Int32)
                · obtain ⟨fs, hr, hrun, hended, hW, hsame⟩ := X0.leave (v := some (.int (-1 : Int32))) (fun h => by rw [Bd.returns] at h; cases h)
                  refine ⟨_, _, pre0 _ (k99 _ ?_), hrun, hended, _, _, rfl, ?_, ⟨_, rfl⟩, hW, hsame.mono (by decide) (by decide)⟩
                  · show Steps p.tables e below (s₁.setTop (mkF m 246 #[.val (.ref a1), .val (.int p2), .val (.int (v2_7 p2 b0 b1 b2 b3 b4)), .val (.int (j2_1_L3 p2 b0 b1 b2 b3 b4)), .val (.int (j2_1_L4 p2 b0 b1 b2 b3 b4)), .val (.int (j2_1_L5 p2 b0 b1 b2 b3 b4)), .val (.int (j2_5_S0 p2 b0 b1 b2 b3 b4)), .val (.int (4 : Int32)), .val (.int ((own_at b0 b1 b2 b3 b4 (p2 + (3 : Int32))) &&& (255 : Int32)))] [(.int (j2_5_S0 p2 b0 b1 b2 b3 b4))])) _
                    refine XS.ifYes X0.here hx rfl (pc0 := 246) (pc' := 255) rfl (hb hby d2_246) rfl ((if0 _ _).trans (teq c246_98).1) (by decide) (by decide) ?_
                    show Steps p.tables e below (s₁.setTop (mkF m 255 #[.val (.ref a1), .val (.int p2), .val (.int (v2_7 p2 b0 b1 b2 b3 b4)), .val (.int (j2_1_L3 p2 b0 b1 b2 b3 b4)), .val (.int (j2_1_L4 p2 b0 b1 b2 b3 b4)), .val (.int (j2_1_L5 p2 b0 b1 b2 b3 b4)), .val (.int (j2_5_S0 p2 b0 b1 b2 b3 b4)), .val (.int (4 : Int32)), .val (.int ((own_at b0 b1 b2 b3 b4 (p2 + (3 : Int32))) &&& (255 : Int32)))] [])) _
                    refine XS.iconst X0.here hx rfl (hb hby d2_255) ?_
                    show Steps p.tables e below (s₁.setTop (mkF m 256 #[.val (.ref a1), .val (.int p2), .val (.int (v2_7 p2 b0 b1 b2 b3 b4)), .val (.int (j2_1_L3 p2 b0 b1 b2 b3 b4)), .val (.int (j2_1_L4 p2 b0 b1 b2 b3 b4)), .val (.int (j2_1_L5 p2 b0 b1 b2 b3 b4)), .val (.int (j2_5_S0 p2 b0 b1 b2 b3 b4)), .val (.int (4 : Int32)), .val (.int ((own_at b0 b1 b2 b3 b4 (p2 + (3 : Int32))) &&& (255 : Int32)))] [(.int (-1 : Int32))])) _
                    exact retI X0 hx Bd.returns (hb hby d2_256) hr
                  · show Q2 Z a1 p2 b0 b1 b2 b3 b4 kk h0 n0 _ s₁.heap _
                    rw [e0]
                    have hv : sp2 p2 b0 b1 b2 b3 b4 = (-1 : Int32) := by unfold sp2; rw [if_neg c166_41, if_pos c172_45, if_neg c166_58, if_pos c172_62, if_neg c166_75, if_pos c172_79, if_neg c166_92, if_pos c246_98]
                    exact ⟨by rw [hv], N0, rfl⟩
                · obtain ⟨fs, hr, hrun, hended, hW, hsame⟩ := X0.leave (v := some (.int (p2 + (j2_1_L3 p2 b0 b1 b2 b3 b4)))) (fun h => by rw [Bd.returns] at h; cases h)
                  refine ⟨_, _, pre0 _ (k99 _ ?_), hrun, hended, _, _, rfl, ?_, ⟨_, rfl⟩, hW, hsame.mono (by decide) (by decide)⟩
                  · show Steps p.tables e below (s₁.setTop (mkF m 246 #[.val (.ref a1), .val (.int p2), .val (.int (v2_7 p2 b0 b1 b2 b3 b4)), .val (.int (j2_1_L3 p2 b0 b1 b2 b3 b4)), .val (.int (j2_1_L4 p2 b0 b1 b2 b3 b4)), .val (.int (j2_1_L5 p2 b0 b1 b2 b3 b4)), .val (.int (j2_5_S0 p2 b0 b1 b2 b3 b4)), .val (.int (4 : Int32)), .val (.int ((own_at b0 b1 b2 b3 b4 (p2 + (3 : Int32))) &&& (255 : Int32)))] [(.int (j2_5_S0 p2 b0 b1 b2 b3 b4))])) _
                    refine XS.ifNo X0.here hx rfl (hb hby d2_246) rfl ((if0 _ _).trans (feq c246_98).1) ?_
                    show Steps p.tables e below (s₁.setTop (mkF m 249 #[.val (.ref a1), .val (.int p2), .val (.int (v2_7 p2 b0 b1 b2 b3 b4)), .val (.int (j2_1_L3 p2 b0 b1 b2 b3 b4)), .val (.int (j2_1_L4 p2 b0 b1 b2 b3 b4)), .val (.int (j2_1_L5 p2 b0 b1 b2 b3 b4)), .val (.int (j2_5_S0 p2 b0 b1 b2 b3 b4)), .val (.int (4 : Int32)), .val (.int ((own_at b0 b1 b2 b3 b4 (p2 + (3 : Int32))) &&& (255 : Int32)))] [])) _
                    refine XS.iloadN X0.here hx rfl (hb hby d2_249) rfl ?_
                    show Steps p.tables e below (s₁.setTop (mkF m 250 #[.val (.ref a1), .val (.int p2), .val (.int (v2_7 p2 b0 b1 b2 b3 b4)), .val (.int (j2_1_L3 p2 b0 b1 b2 b3 b4)), .val (.int (j2_1_L4 p2 b0 b1 b2 b3 b4)), .val (.int (j2_1_L5 p2 b0 b1 b2 b3 b4)), .val (.int (j2_5_S0 p2 b0 b1 b2 b3 b4)), .val (.int (4 : Int32)), .val (.int ((own_at b0 b1 b2 b3 b4 (p2 + (3 : Int32))) &&& (255 : Int32)))] [(.int p2)])) _
                    refine XS.iloadN X0.here hx rfl (hb hby d2_250) rfl ?_
                    show Steps p.tables e below (s₁.setTop (mkF m 251 #[.val (.ref a1), .val (.int p2), .val (.int (v2_7 p2 b0 b1 b2 b3 b4)), .val (.int (j2_1_L3 p2 b0 b1 b2 b3 b4)), .val (.int (j2_1_L4 p2 b0 b1 b2 b3 b4)), .val (.int (j2_1_L5 p2 b0 b1 b2 b3 b4)), .val (.int (j2_5_S0 p2 b0 b1 b2 b3 b4)), .val (.int (4 : Int32)), .val (.int ((own_at b0 b1 b2 b3 b4 (p2 + (3 : Int32))) &&& (255 : Int32)))] [(.int (j2_1_L3 p2 b0 b1 b2 b3 b4)), (.int p2)])) _
                    refine XS.iadd X0.here hx rfl (hb hby d2_251) rfl ?_
                    show Steps p.tables e below (s₁.setTop (mkF m 252 #[.val (.ref a1), .val (.int p2), .val (.int (v2_7 p2 b0 b1 b2 b3 b4)), .val (.int (j2_1_L3 p2 b0 b1 b2 b3 b4)), .val (.int (j2_1_L4 p2 b0 b1 b2 b3 b4)), .val (.int (j2_1_L5 p2 b0 b1 b2 b3 b4)), .val (.int (j2_5_S0 p2 b0 b1 b2 b3 b4)), .val (.int (4 : Int32)), .val (.int ((own_at b0 b1 b2 b3 b4 (p2 + (3 : Int32))) &&& (255 : Int32)))] [(.int (p2 + (j2_1_L3 p2 b0 b1 b2 b3 b4)))])) _
                    refine XS.goto X0.here hx rfl (pc0 := 252) (pc' := 256) rfl (hb hby d2_252) (by decide) (by decide) ?_
                    show Steps p.tables e below (s₁.setTop (mkF m 256 #[.val (.ref a1), .val (.int p2), .val (.int (v2_7 p2 b0 b1 b2 b3 b4)), .val (.int (j2_1_L3 p2 b0 b1 b2 b3 b4)), .val (.int (j2_1_L4 p2 b0 b1 b2 b3 b4)), .val (.int (j2_1_L5 p2 b0 b1 b2 b3 b4)), .val (.int (j2_5_S0 p2 b0 b1 b2 b3 b4)), .val (.int (4 : Int32)), .val (.int ((own_at b0 b1 b2 b3 b4 (p2 + (3 : Int32))) &&& (255 : Int32)))] [(.int (p2 + (j2_1_L3 p2 b0 b1 b2 b3 b4)))])) _
                    exact retI X0 hx Bd.returns (hb hby d2_256) hr
                  · show Q2 Z a1 p2 b0 b1 b2 b3 b4 kk h0 n0 _ s₁.heap _
                    rw [e0]
                    have hv : sp2 p2 b0 b1 b2 b3 b4 = (p2 + (j2_1_L3 p2 b0 b1 b2 b3 b4)) := by unfold sp2; rw [if_neg c166_41, if_pos c172_45, if_neg c166_58, if_pos c172_62, if_neg c166_75, if_pos c172_79, if_neg c166_92, if_neg c246_98]
                    exact ⟨by rw [hv], N0, rfl⟩
            · have k101 : ∀ t, Steps p.tables e below (s₁.setTop (mkF m 246 #[.val (.ref a1), .val (.int p2), .val (.int (v2_7 p2 b0 b1 b2 b3 b4)), .val (.int (j2_1_L3 p2 b0 b1 b2 b3 b4)), .val (.int (j2_1_L4 p2 b0 b1 b2 b3 b4)), .val (.int (j2_1_L5 p2 b0 b1 b2 b3 b4)), .val (.int (j2_4_S0 p2 b0 b1 b2 b3 b4)), .val (.int (3 : Int32)), .val (.int ((own_at b0 b1 b2 b3 b4 (p2 + (2 : Int32))) &&& (255 : Int32)))] [(.int (j2_4_S0 p2 b0 b1 b2 b3 b4))])) t → Steps p.tables e below (s₁.setTop (mkF m 0 #[.val (.ref a1), .val (.int p2), .unset, .unset, .unset, .unset, .unset, .unset, .unset] [])) t := fun t kt => k80 t (by
                show Steps p.tables e below (s₁.setTop (mkF m 172 #[.val (.ref a1), .val (.int p2), .val (.int (v2_7 p2 b0 b1 b2 b3 b4)), .val (.int (j2_1_L3 p2 b0 b1 b2 b3 b4)), .val (.int (j2_1_L4 p2 b0 b1 b2 b3 b4)), .val (.int (j2_1_L5 p2 b0 b1 b2 b3 b4)), .val (.int (j2_4_S0 p2 b0 b1 b2 b3 b4)), .val (.int (3 : Int32)), .val (.int ((own_at b0 b1 b2 b3 b4 (p2 + (2 : Int32))) &&& (255 : Int32)))] [(.int (j2_1_L3 p2 b0 b1 b2 b3 b4)), (.int (3 : Int32))])) _
                refine XS.icmpYes X0.here hx rfl (pc0 := 172) (pc' := 244) rfl (hb hby d2_172) rfl (flt c172_79).2.1 (by decide) (by decide) ?_
                show Steps p.tables e below (s₁.setTop (mkF m 244 #[.val (.ref a1), .val (.int p2), .val (.int (v2_7 p2 b0 b1 b2 b3 b4)), .val (.int (j2_1_L3 p2 b0 b1 b2 b3 b4)), .val (.int (j2_1_L4 p2 b0 b1 b2 b3 b4)), .val (.int (j2_1_L5 p2 b0 b1 b2 b3 b4)), .val (.int (j2_4_S0 p2 b0 b1 b2 b3 b4)), .val (.int (3 : Int32)), .val (.int ((own_at b0 b1 b2 b3 b4 (p2 + (2 : Int32))) &&& (255 : Int32)))] [])) _
                refine XS.iload X0.here hx rfl (hb hby d2_244) rfl ?_
                exact kt)
              by_cases c246_100 : (j2_4_S0 p2 b0 b1 b2 b3 b4) = (0 : Int32)
              · obtain ⟨fs, hr, hrun, hended, hW, hsame⟩ := X0.leave (v := some (.int (-1 : Int32))) (fun h => by rw [Bd.returns] at h; cases h)
                refine ⟨_, _, pre0 _ (k101 _ ?_), hrun, hended, _, _, rfl, ?_, ⟨_, rfl⟩, hW, hsame.mono (by decide) (by decide)⟩
                · show Steps p.tables e below (s₁.setTop (mkF m 246 #[.val (.ref a1), .val (.int p2), .val (.int (v2_7 p2 b0 b1 b2 b3 b4)), .val (.int (j2_1_L3 p2 b0 b1 b2 b3 b4)), .val (.int (j2_1_L4 p2 b0 b1 b2 b3 b4)), .val (.int (j2_1_L5 p2 b0 b1 b2 b3 b4)), .val (.int (j2_4_S0 p2 b0 b1 b2 b3 b4)), .val (.int (3 : Int32)), .val (.int ((own_at b0 b1 b2 b3 b4 (p2 + (2 : Int32))) &&& (255 : Int32)))] [(.int (j2_4_S0 p2 b0 b1 b2 b3 b4))])) _
                  refine XS.ifYes X0.here hx rfl (pc0 := 246) (pc' := 255) rfl (hb hby d2_246) rfl ((if0 _ _).trans (teq c246_100).1) (by decide) (by decide) ?_
                  show Steps p.tables e below (s₁.setTop (mkF m 255 #[.val (.ref a1), .val (.int p2), .val (.int (v2_7 p2 b0 b1 b2 b3 b4)), .val (.int (j2_1_L3 p2 b0 b1 b2 b3 b4)), .val (.int (j2_1_L4 p2 b0 b1 b2 b3 b4)), .val (.int (j2_1_L5 p2 b0 b1 b2 b3 b4)), .val (.int (j2_4_S0 p2 b0 b1 b2 b3 b4)), .val (.int (3 : Int32)), .val (.int ((own_at b0 b1 b2 b3 b4 (p2 + (2 : Int32))) &&& (255 : Int32)))] [])) _
                  refine XS.iconst X0.here hx rfl (hb hby d2_255) ?_
                  show Steps p.tables e below (s₁.setTop (mkF m 256 #[.val (.ref a1), .val (.int p2), .val (.int (v2_7 p2 b0 b1 b2 b3 b4)), .val (.int (j2_1_L3 p2 b0 b1 b2 b3 b4)), .val (.int (j2_1_L4 p2 b0 b1 b2 b3 b4)), .val (.int (j2_1_L5 p2 b0 b1 b2 b3 b4)), .val (.int (j2_4_S0 p2 b0 b1 b2 b3 b4)), .val (.int (3 : Int32)), .val (.int ((own_at b0 b1 b2 b3 b4 (p2 + (2 : Int32))) &&& (255 : Int32)))] [(.int (-1 : Int32))])) _
                  exact retI X0 hx Bd.returns (hb hby d2_256) hr
                · show Q2 Z a1 p2 b0 b1 b2 b3 b4 kk h0 n0 _ s₁.heap _
                  rw [e0]
                  have hv : sp2 p2 b0 b1 b2 b3 b4 = (-1 : Int32) := by unfold sp2; rw [if_neg c166_41, if_pos c172_45, if_neg c166_58, if_pos c172_62, if_neg c166_75, if_neg c172_79, if_pos c246_100]
                  exact ⟨by rw [hv], N0, rfl⟩
              · obtain ⟨fs, hr, hrun, hended, hW, hsame⟩ := X0.leave (v := some (.int (p2 + (j2_1_L3 p2 b0 b1 b2 b3 b4)))) (fun h => by rw [Bd.returns] at h; cases h)
                refine ⟨_, _, pre0 _ (k101 _ ?_), hrun, hended, _, _, rfl, ?_, ⟨_, rfl⟩, hW, hsame.mono (by decide) (by decide)⟩
                · show Steps p.tables e below (s₁.setTop (mkF m 246 #[.val (.ref a1), .val (.int p2), .val (.int (v2_7 p2 b0 b1 b2 b3 b4)), .val (.int (j2_1_L3 p2 b0 b1 b2 b3 b4)), .val (.int (j2_1_L4 p2 b0 b1 b2 b3 b4)), .val (.int (j2_1_L5 p2 b0 b1 b2 b3 b4)), .val (.int (j2_4_S0 p2 b0 b1 b2 b3 b4)), .val (.int (3 : Int32)), .val (.int ((own_at b0 b1 b2 b3 b4 (p2 + (2 : Int32))) &&& (255 : Int32)))] [(.int (j2_4_S0 p2 b0 b1 b2 b3 b4))])) _
                  refine XS.ifNo X0.here hx rfl (hb hby d2_246) rfl ((if0 _ _).trans (feq c246_100).1) ?_
                  show Steps p.tables e below (s₁.setTop (mkF m 249 #[.val (.ref a1), .val (.int p2), .val (.int (v2_7 p2 b0 b1 b2 b3 b4)), .val (.int (j2_1_L3 p2 b0 b1 b2 b3 b4)), .val (.int (j2_1_L4 p2 b0 b1 b2 b3 b4)), .val (.int (j2_1_L5 p2 b0 b1 b2 b3 b4)), .val (.int (j2_4_S0 p2 b0 b1 b2 b3 b4)), .val (.int (3 : Int32)), .val (.int ((own_at b0 b1 b2 b3 b4 (p2 + (2 : Int32))) &&& (255 : Int32)))] [])) _
                  refine XS.iloadN X0.here hx rfl (hb hby d2_249) rfl ?_
                  show Steps p.tables e below (s₁.setTop (mkF m 250 #[.val (.ref a1), .val (.int p2), .val (.int (v2_7 p2 b0 b1 b2 b3 b4)), .val (.int (j2_1_L3 p2 b0 b1 b2 b3 b4)), .val (.int (j2_1_L4 p2 b0 b1 b2 b3 b4)), .val (.int (j2_1_L5 p2 b0 b1 b2 b3 b4)), .val (.int (j2_4_S0 p2 b0 b1 b2 b3 b4)), .val (.int (3 : Int32)), .val (.int ((own_at b0 b1 b2 b3 b4 (p2 + (2 : Int32))) &&& (255 : Int32)))] [(.int p2)])) _
                  refine XS.iloadN X0.here hx rfl (hb hby d2_250) rfl ?_
                  show Steps p.tables e below (s₁.setTop (mkF m 251 #[.val (.ref a1), .val (.int p2), .val (.int (v2_7 p2 b0 b1 b2 b3 b4)), .val (.int (j2_1_L3 p2 b0 b1 b2 b3 b4)), .val (.int (j2_1_L4 p2 b0 b1 b2 b3 b4)), .val (.int (j2_1_L5 p2 b0 b1 b2 b3 b4)), .val (.int (j2_4_S0 p2 b0 b1 b2 b3 b4)), .val (.int (3 : Int32)), .val (.int ((own_at b0 b1 b2 b3 b4 (p2 + (2 : Int32))) &&& (255 : Int32)))] [(.int (j2_1_L3 p2 b0 b1 b2 b3 b4)), (.int p2)])) _
                  refine XS.iadd X0.here hx rfl (hb hby d2_251) rfl ?_
                  show Steps p.tables e below (s₁.setTop (mkF m 252 #[.val (.ref a1), .val (.int p2), .val (.int (v2_7 p2 b0 b1 b2 b3 b4)), .val (.int (j2_1_L3 p2 b0 b1 b2 b3 b4)), .val (.int (j2_1_L4 p2 b0 b1 b2 b3 b4)), .val (.int (j2_1_L5 p2 b0 b1 b2 b3 b4)), .val (.int (j2_4_S0 p2 b0 b1 b2 b3 b4)), .val (.int (3 : Int32)), .val (.int ((own_at b0 b1 b2 b3 b4 (p2 + (2 : Int32))) &&& (255 : Int32)))] [(.int (p2 + (j2_1_L3 p2 b0 b1 b2 b3 b4)))])) _
                  refine XS.goto X0.here hx rfl (pc0 := 252) (pc' := 256) rfl (hb hby d2_252) (by decide) (by decide) ?_
                  show Steps p.tables e below (s₁.setTop (mkF m 256 #[.val (.ref a1), .val (.int p2), .val (.int (v2_7 p2 b0 b1 b2 b3 b4)), .val (.int (j2_1_L3 p2 b0 b1 b2 b3 b4)), .val (.int (j2_1_L4 p2 b0 b1 b2 b3 b4)), .val (.int (j2_1_L5 p2 b0 b1 b2 b3 b4)), .val (.int (j2_4_S0 p2 b0 b1 b2 b3 b4)), .val (.int (3 : Int32)), .val (.int ((own_at b0 b1 b2 b3 b4 (p2 + (2 : Int32))) &&& (255 : Int32)))] [(.int (p2 + (j2_1_L3 p2 b0 b1 b2 b3 b4)))])) _
                  exact retI X0 hx Bd.returns (hb hby d2_256) hr
                · show Q2 Z a1 p2 b0 b1 b2 b3 b4 kk h0 n0 _ s₁.heap _
                  rw [e0]
                  have hv : sp2 p2 b0 b1 b2 b3 b4 = (p2 + (j2_1_L3 p2 b0 b1 b2 b3 b4)) := by unfold sp2; rw [if_neg c166_41, if_pos c172_45, if_neg c166_58, if_pos c172_62, if_neg c166_75, if_neg c172_79, if_neg c246_100]
                  exact ⟨by rw [hv], N0, rfl⟩
        · have k103 : ∀ t, Steps p.tables e below (s₁.setTop (mkF m 246 #[.val (.ref a1), .val (.int p2), .val (.int (v2_7 p2 b0 b1 b2 b3 b4)), .val (.int (j2_1_L3 p2 b0 b1 b2 b3 b4)), .val (.int (j2_1_L4 p2 b0 b1 b2 b3 b4)), .val (.int (j2_1_L5 p2 b0 b1 b2 b3 b4)), .val (.int (j2_3_S0 p2 b0 b1 b2 b3 b4)), .val (.int (2 : Int32)), .val (.int ((own_at b0 b1 b2 b3 b4 (p2 + (1 : Int32))) &&& (255 : Int32)))] [(.int (j2_3_S0 p2 b0 b1 b2 b3 b4))])) t → Steps p.tables e below (s₁.setTop (mkF m 0 #[.val (.ref a1), .val (.int p2), .unset, .unset, .unset, .unset, .unset, .unset, .unset] [])) t := fun t kt => k63 t (by
            show Steps p.tables e below (s₁.setTop (mkF m 172 #[.val (.ref a1), .val (.int p2), .val (.int (v2_7 p2 b0 b1 b2 b3 b4)), .val (.int (j2_1_L3 p2 b0 b1 b2 b3 b4)), .val (.int (j2_1_L4 p2 b0 b1 b2 b3 b4)), .val (.int (j2_1_L5 p2 b0 b1 b2 b3 b4)), .val (.int (j2_3_S0 p2 b0 b1 b2 b3 b4)), .val (.int (2 : Int32)), .val (.int ((own_at b0 b1 b2 b3 b4 (p2 + (1 : Int32))) &&& (255 : Int32)))] [(.int (j2_1_L3 p2 b0 b1 b2 b3 b4)), (.int (2 : Int32))])) _
            refine XS.icmpYes X0.here hx rfl (pc0 := 172) (pc' := 244) rfl (hb hby d2_172) rfl (flt c172_62).2.1 (by decide) (by decide) ?_
            show Steps p.tables e below (s₁.setTop (mkF m 244 #[.val (.ref a1), .val (.int p2), .val (.int (v2_7 p2 b0 b1 b2 b3 b4)), .val (.int (j2_1_L3 p2 b0 b1 b2 b3 b4)), .val (.int (j2_1_L4 p2 b0 b1 b2 b3 b4)), .val (.int (j2_1_L5 p2 b0 b1 b2 b3 b4)), .val (.int (j2_3_S0 p2 b0 b1 b2 b3 b4)), .val (.int (2 : Int32)), .val (.int ((own_at b0 b1 b2 b3 b4 (p2 + (1 : Int32))) &&& (255 : Int32)))] [])) _
            refine XS.iload X0.here hx rfl (hb hby d2_244) rfl ?_
            exact kt)
          by_cases c246_102 : (j2_3_S0 p2 b0 b1 b2 b3 b4) = (0 : Int32)
          · obtain ⟨fs, hr, hrun, hended, hW, hsame⟩ := X0.leave (v := some (.int (-1 : Int32))) (fun h => by rw [Bd.returns] at h; cases h)
            refine ⟨_, _, pre0 _ (k103 _ ?_), hrun, hended, _, _, rfl, ?_, ⟨_, rfl⟩, hW, hsame.mono (by decide) (by decide)⟩
            · show Steps p.tables e below (s₁.setTop (mkF m 246 #[.val (.ref a1), .val (.int p2), .val (.int (v2_7 p2 b0 b1 b2 b3 b4)), .val (.int (j2_1_L3 p2 b0 b1 b2 b3 b4)), .val (.int (j2_1_L4 p2 b0 b1 b2 b3 b4)), .val (.int (j2_1_L5 p2 b0 b1 b2 b3 b4)), .val (.int (j2_3_S0 p2 b0 b1 b2 b3 b4)), .val (.int (2 : Int32)), .val (.int ((own_at b0 b1 b2 b3 b4 (p2 + (1 : Int32))) &&& (255 : Int32)))] [(.int (j2_3_S0 p2 b0 b1 b2 b3 b4))])) _
              refine XS.ifYes X0.here hx rfl (pc0 := 246) (pc' := 255) rfl (hb hby d2_246) rfl ((if0 _ _).trans (teq c246_102).1) (by decide) (by decide) ?_
              show Steps p.tables e below (s₁.setTop (mkF m 255 #[.val (.ref a1), .val (.int p2), .val (.int (v2_7 p2 b0 b1 b2 b3 b4)), .val (.int (j2_1_L3 p2 b0 b1 b2 b3 b4)), .val (.int (j2_1_L4 p2 b0 b1 b2 b3 b4)), .val (.int (j2_1_L5 p2 b0 b1 b2 b3 b4)), .val (.int (j2_3_S0 p2 b0 b1 b2 b3 b4)), .val (.int (2 : Int32)), .val (.int ((own_at b0 b1 b2 b3 b4 (p2 + (1 : Int32))) &&& (255 : Int32)))] [])) _
              refine XS.iconst X0.here hx rfl (hb hby d2_255) ?_
              show Steps p.tables e below (s₁.setTop (mkF m 256 #[.val (.ref a1), .val (.int p2), .val (.int (v2_7 p2 b0 b1 b2 b3 b4)), .val (.int (j2_1_L3 p2 b0 b1 b2 b3 b4)), .val (.int (j2_1_L4 p2 b0 b1 b2 b3 b4)), .val (.int (j2_1_L5 p2 b0 b1 b2 b3 b4)), .val (.int (j2_3_S0 p2 b0 b1 b2 b3 b4)), .val (.int (2 : Int32)), .val (.int ((own_at b0 b1 b2 b3 b4 (p2 + (1 : Int32))) &&& (255 : Int32)))] [(.int (-1 : Int32))])) _
              exact retI X0 hx Bd.returns (hb hby d2_256) hr
            · show Q2 Z a1 p2 b0 b1 b2 b3 b4 kk h0 n0 _ s₁.heap _
              rw [e0]
              have hv : sp2 p2 b0 b1 b2 b3 b4 = (-1 : Int32) := by unfold sp2; rw [if_neg c166_41, if_pos c172_45, if_neg c166_58, if_neg c172_62, if_pos c246_102]
              exact ⟨by rw [hv], N0, rfl⟩
          · obtain ⟨fs, hr, hrun, hended, hW, hsame⟩ := X0.leave (v := some (.int (p2 + (j2_1_L3 p2 b0 b1 b2 b3 b4)))) (fun h => by rw [Bd.returns] at h; cases h)
            refine ⟨_, _, pre0 _ (k103 _ ?_), hrun, hended, _, _, rfl, ?_, ⟨_, rfl⟩, hW, hsame.mono (by decide) (by decide)⟩
            · show Steps p.tables e below (s₁.setTop (mkF m 246 #[.val (.ref a1), .val (.int p2), .val (.int (v2_7 p2 b0 b1 b2 b3 b4)), .val (.int (j2_1_L3 p2 b0 b1 b2 b3 b4)), .val (.int (j2_1_L4 p2 b0 b1 b2 b3 b4)), .val (.int (j2_1_L5 p2 b0 b1 b2 b3 b4)), .val (.int (j2_3_S0 p2 b0 b1 b2 b3 b4)), .val (.int (2 : Int32)), .val (.int ((own_at b0 b1 b2 b3 b4 (p2 + (1 : Int32))) &&& (255 : Int32)))] [(.int (j2_3_S0 p2 b0 b1 b2 b3 b4))])) _
              refine XS.ifNo X0.here hx rfl (hb hby d2_246) rfl ((if0 _ _).trans (feq c246_102).1) ?_
              show Steps p.tables e below (s₁.setTop (mkF m 249 #[.val (.ref a1), .val (.int p2), .val (.int (v2_7 p2 b0 b1 b2 b3 b4)), .val (.int (j2_1_L3 p2 b0 b1 b2 b3 b4)), .val (.int (j2_1_L4 p2 b0 b1 b2 b3 b4)), .val (.int (j2_1_L5 p2 b0 b1 b2 b3 b4)), .val (.int (j2_3_S0 p2 b0 b1 b2 b3 b4)), .val (.int (2 : Int32)), .val (.int ((own_at b0 b1 b2 b3 b4 (p2 + (1 : Int32))) &&& (255 : Int32)))] [])) _
              refine XS.iloadN X0.here hx rfl (hb hby d2_249) rfl ?_
              show Steps p.tables e below (s₁.setTop (mkF m 250 #[.val (.ref a1), .val (.int p2), .val (.int (v2_7 p2 b0 b1 b2 b3 b4)), .val (.int (j2_1_L3 p2 b0 b1 b2 b3 b4)), .val (.int (j2_1_L4 p2 b0 b1 b2 b3 b4)), .val (.int (j2_1_L5 p2 b0 b1 b2 b3 b4)), .val (.int (j2_3_S0 p2 b0 b1 b2 b3 b4)), .val (.int (2 : Int32)), .val (.int ((own_at b0 b1 b2 b3 b4 (p2 + (1 : Int32))) &&& (255 : Int32)))] [(.int p2)])) _
              refine XS.iloadN X0.here hx rfl (hb hby d2_250) rfl ?_
              show Steps p.tables e below (s₁.setTop (mkF m 251 #[.val (.ref a1), .val (.int p2), .val (.int (v2_7 p2 b0 b1 b2 b3 b4)), .val (.int (j2_1_L3 p2 b0 b1 b2 b3 b4)), .val (.int (j2_1_L4 p2 b0 b1 b2 b3 b4)), .val (.int (j2_1_L5 p2 b0 b1 b2 b3 b4)), .val (.int (j2_3_S0 p2 b0 b1 b2 b3 b4)), .val (.int (2 : Int32)), .val (.int ((own_at b0 b1 b2 b3 b4 (p2 + (1 : Int32))) &&& (255 : Int32)))] [(.int (j2_1_L3 p2 b0 b1 b2 b3 b4)), (.int p2)])) _
              refine XS.iadd X0.here hx rfl (hb hby d2_251) rfl ?_
              show Steps p.tables e below (s₁.setTop (mkF m 252 #[.val (.ref a1), .val (.int p2), .val (.int (v2_7 p2 b0 b1 b2 b3 b4)), .val (.int (j2_1_L3 p2 b0 b1 b2 b3 b4)), .val (.int (j2_1_L4 p2 b0 b1 b2 b3 b4)), .val (.int (j2_1_L5 p2 b0 b1 b2 b3 b4)), .val (.int (j2_3_S0 p2 b0 b1 b2 b3 b4)), .val (.int (2 : Int32)), .val (.int ((own_at b0 b1 b2 b3 b4 (p2 + (1 : Int32))) &&& (255 : Int32)))] [(.int (p2 + (j2_1_L3 p2 b0 b1 b2 b3 b4)))])) _
              refine XS.goto X0.here hx rfl (pc0 := 252) (pc' := 256) rfl (hb hby d2_252) (by decide) (by decide) ?_
              show Steps p.tables e below (s₁.setTop (mkF m 256 #[.val (.ref a1), .val (.int p2), .val (.int (v2_7 p2 b0 b1 b2 b3 b4)), .val (.int (j2_1_L3 p2 b0 b1 b2 b3 b4)), .val (.int (j2_1_L4 p2 b0 b1 b2 b3 b4)), .val (.int (j2_1_L5 p2 b0 b1 b2 b3 b4)), .val (.int (j2_3_S0 p2 b0 b1 b2 b3 b4)), .val (.int (2 : Int32)), .val (.int ((own_at b0 b1 b2 b3 b4 (p2 + (1 : Int32))) &&& (255 : Int32)))] [(.int (p2 + (j2_1_L3 p2 b0 b1 b2 b3 b4)))])) _
              exact retI X0 hx Bd.returns (hb hby d2_256) hr
            · show Q2 Z a1 p2 b0 b1 b2 b3 b4 kk h0 n0 _ s₁.heap _
              rw [e0]
              have hv : sp2 p2 b0 b1 b2 b3 b4 = (p2 + (j2_1_L3 p2 b0 b1 b2 b3 b4)) := by unfold sp2; rw [if_neg c166_41, if_pos c172_45, if_neg c166_58, if_neg c172_62, if_neg c246_102]
              exact ⟨by rw [hv], N0, rfl⟩
    · have k105 : ∀ t, Steps p.tables e below (s₁.setTop (mkF m 246 #[.val (.ref a1), .val (.int p2), .val (.int (v2_7 p2 b0 b1 b2 b3 b4)), .val (.int (j2_1_L3 p2 b0 b1 b2 b3 b4)), .val (.int (j2_1_L4 p2 b0 b1 b2 b3 b4)), .val (.int (j2_1_L5 p2 b0 b1 b2 b3 b4)), .val (.int (j2_2_S0 p2 b0 b1 b2 b3 b4)), .val (.int (1 : Int32)), .unset] [(.int (j2_2_S0 p2 b0 b1 b2 b3 b4))])) t → Steps p.tables e below (s₁.setTop (mkF m 0 #[.val (.ref a1), .val (.int p2), .unset, .unset, .unset, .unset, .unset, .unset, .unset] [])) t := fun t kt => k46 t (by
        show Steps p.tables e below (s₁.setTop (mkF m 172 #[.val (.ref a1), .val (.int p2), .val (.int (v2_7 p2 b0 b1 b2 b3 b4)), .val (.int (j2_1_L3 p2 b0 b1 b2 b3 b4)), .val (.int (j2_1_L4 p2 b0 b1 b2 b3 b4)), .val (.int (j2_1_L5 p2 b0 b1 b2 b3 b4)), .val (.int (j2_2_S0 p2 b0 b1 b2 b3 b4)), .val (.int (1 : Int32)), .unset] [(.int (j2_1_L3 p2 b0 b1 b2 b3 b4)), (.int (1 : Int32))])) _
        refine XS.icmpYes X0.here hx rfl (pc0 := 172) (pc' := 244) rfl (hb hby d2_172) rfl (flt c172_45).2.1 (by decide) (by decide) ?_
        show Steps p.tables e below (s₁.setTop (mkF m 244 #[.val (.ref a1), .val (.int p2), .val (.int (v2_7 p2 b0 b1 b2 b3 b4)), .val (.int (j2_1_L3 p2 b0 b1 b2 b3 b4)), .val (.int (j2_1_L4 p2 b0 b1 b2 b3 b4)), .val (.int (j2_1_L5 p2 b0 b1 b2 b3 b4)), .val (.int (j2_2_S0 p2 b0 b1 b2 b3 b4)), .val (.int (1 : Int32)), .unset] [])) _
        refine XS.iload X0.here hx rfl (hb hby d2_244) rfl ?_
        exact kt)
      by_cases c246_104 : (j2_2_S0 p2 b0 b1 b2 b3 b4) = (0 : Int32)
      · obtain ⟨fs, hr, hrun, hended, hW, hsame⟩ := X0.leave (v := some (.int (-1 : Int32))) (fun h => by rw [Bd.returns] at h; cases h)
        refine ⟨_, _, pre0 _ (k105 _ ?_), hrun, hended, _, _, rfl, ?_, ⟨_, rfl⟩, hW, hsame.mono (by decide) (by decide)⟩
        · show Steps p.tables e below (s₁.setTop (mkF m 246 #[.val (.ref a1), .val (.int p2), .val (.int (v2_7 p2 b0 b1 b2 b3 b4)), .val (.int (j2_1_L3 p2 b0 b1 b2 b3 b4)), .val (.int (j2_1_L4 p2 b0 b1 b2 b3 b4)), .val (.int (j2_1_L5 p2 b0 b1 b2 b3 b4)), .val (.int (j2_2_S0 p2 b0 b1 b2 b3 b4)), .val (.int (1 : Int32)), .unset] [(.int (j2_2_S0 p2 b0 b1 b2 b3 b4))])) _
          refine XS.ifYes X0.here hx rfl (pc0 := 246) (pc' := 255) rfl (hb hby d2_246) rfl ((if0 _ _).trans (teq c246_104).1) (by decide) (by decide) ?_
          show Steps p.tables e below (s₁.setTop (mkF m 255 #[.val (.ref a1), .val (.int p2), .val (.int (v2_7 p2 b0 b1 b2 b3 b4)), .val (.int (j2_1_L3 p2 b0 b1 b2 b3 b4)), .val (.int (j2_1_L4 p2 b0 b1 b2 b3 b4)), .val (.int (j2_1_L5 p2 b0 b1 b2 b3 b4)), .val (.int (j2_2_S0 p2 b0 b1 b2 b3 b4)), .val (.int (1 : Int32)), .unset] [])) _
          refine XS.iconst X0.here hx rfl (hb hby d2_255) ?_
          show Steps p.tables e below (s₁.setTop (mkF m 256 #[.val (.ref a1), .val (.int p2), .val (.int (v2_7 p2 b0 b1 b2 b3 b4)), .val (.int (j2_1_L3 p2 b0 b1 b2 b3 b4)), .val (.int (j2_1_L4 p2 b0 b1 b2 b3 b4)), .val (.int (j2_1_L5 p2 b0 b1 b2 b3 b4)), .val (.int (j2_2_S0 p2 b0 b1 b2 b3 b4)), .val (.int (1 : Int32)), .unset] [(.int (-1 : Int32))])) _
          exact retI X0 hx Bd.returns (hb hby d2_256) hr
        · show Q2 Z a1 p2 b0 b1 b2 b3 b4 kk h0 n0 _ s₁.heap _
          rw [e0]
          have hv : sp2 p2 b0 b1 b2 b3 b4 = (-1 : Int32) := by unfold sp2; rw [if_neg c166_41, if_neg c172_45, if_pos c246_104]
          exact ⟨by rw [hv], N0, rfl⟩
      · obtain ⟨fs, hr, hrun, hended, hW, hsame⟩ := X0.leave (v := some (.int (p2 + (j2_1_L3 p2 b0 b1 b2 b3 b4)))) (fun h => by rw [Bd.returns] at h; cases h)
        refine ⟨_, _, pre0 _ (k105 _ ?_), hrun, hended, _, _, rfl, ?_, ⟨_, rfl⟩, hW, hsame.mono (by decide) (by decide)⟩
        · show Steps p.tables e below (s₁.setTop (mkF m 246 #[.val (.ref a1), .val (.int p2), .val (.int (v2_7 p2 b0 b1 b2 b3 b4)), .val (.int (j2_1_L3 p2 b0 b1 b2 b3 b4)), .val (.int (j2_1_L4 p2 b0 b1 b2 b3 b4)), .val (.int (j2_1_L5 p2 b0 b1 b2 b3 b4)), .val (.int (j2_2_S0 p2 b0 b1 b2 b3 b4)), .val (.int (1 : Int32)), .unset] [(.int (j2_2_S0 p2 b0 b1 b2 b3 b4))])) _
          refine XS.ifNo X0.here hx rfl (hb hby d2_246) rfl ((if0 _ _).trans (feq c246_104).1) ?_
          show Steps p.tables e below (s₁.setTop (mkF m 249 #[.val (.ref a1), .val (.int p2), .val (.int (v2_7 p2 b0 b1 b2 b3 b4)), .val (.int (j2_1_L3 p2 b0 b1 b2 b3 b4)), .val (.int (j2_1_L4 p2 b0 b1 b2 b3 b4)), .val (.int (j2_1_L5 p2 b0 b1 b2 b3 b4)), .val (.int (j2_2_S0 p2 b0 b1 b2 b3 b4)), .val (.int (1 : Int32)), .unset] [])) _
          refine XS.iloadN X0.here hx rfl (hb hby d2_249) rfl ?_
          show Steps p.tables e below (s₁.setTop (mkF m 250 #[.val (.ref a1), .val (.int p2), .val (.int (v2_7 p2 b0 b1 b2 b3 b4)), .val (.int (j2_1_L3 p2 b0 b1 b2 b3 b4)), .val (.int (j2_1_L4 p2 b0 b1 b2 b3 b4)), .val (.int (j2_1_L5 p2 b0 b1 b2 b3 b4)), .val (.int (j2_2_S0 p2 b0 b1 b2 b3 b4)), .val (.int (1 : Int32)), .unset] [(.int p2)])) _
          refine XS.iloadN X0.here hx rfl (hb hby d2_250) rfl ?_
          show Steps p.tables e below (s₁.setTop (mkF m 251 #[.val (.ref a1), .val (.int p2), .val (.int (v2_7 p2 b0 b1 b2 b3 b4)), .val (.int (j2_1_L3 p2 b0 b1 b2 b3 b4)), .val (.int (j2_1_L4 p2 b0 b1 b2 b3 b4)), .val (.int (j2_1_L5 p2 b0 b1 b2 b3 b4)), .val (.int (j2_2_S0 p2 b0 b1 b2 b3 b4)), .val (.int (1 : Int32)), .unset] [(.int (j2_1_L3 p2 b0 b1 b2 b3 b4)), (.int p2)])) _
          refine XS.iadd X0.here hx rfl (hb hby d2_251) rfl ?_
          show Steps p.tables e below (s₁.setTop (mkF m 252 #[.val (.ref a1), .val (.int p2), .val (.int (v2_7 p2 b0 b1 b2 b3 b4)), .val (.int (j2_1_L3 p2 b0 b1 b2 b3 b4)), .val (.int (j2_1_L4 p2 b0 b1 b2 b3 b4)), .val (.int (j2_1_L5 p2 b0 b1 b2 b3 b4)), .val (.int (j2_2_S0 p2 b0 b1 b2 b3 b4)), .val (.int (1 : Int32)), .unset] [(.int (p2 + (j2_1_L3 p2 b0 b1 b2 b3 b4)))])) _
          refine XS.goto X0.here hx rfl (pc0 := 252) (pc' := 256) rfl (hb hby d2_252) (by decide) (by decide) ?_
          show Steps p.tables e below (s₁.setTop (mkF m 256 #[.val (.ref a1), .val (.int p2), .val (.int (v2_7 p2 b0 b1 b2 b3 b4)), .val (.int (j2_1_L3 p2 b0 b1 b2 b3 b4)), .val (.int (j2_1_L4 p2 b0 b1 b2 b3 b4)), .val (.int (j2_1_L5 p2 b0 b1 b2 b3 b4)), .val (.int (j2_2_S0 p2 b0 b1 b2 b3 b4)), .val (.int (1 : Int32)), .unset] [(.int (p2 + (j2_1_L3 p2 b0 b1 b2 b3 b4)))])) _
          exact retI X0 hx Bd.returns (hb hby d2_256) hr
        · show Q2 Z a1 p2 b0 b1 b2 b3 b4 kk h0 n0 _ s₁.heap _
          rw [e0]
          have hv : sp2 p2 b0 b1 b2 b3 b4 = (p2 + (j2_1_L3 p2 b0 b1 b2 b3 b4)) := by unfold sp2; rw [if_neg c166_41, if_neg c172_45, if_neg c246_104]
          exact ⟨by rw [hv], N0, rfl⟩
def Q0 (Z : State) (p1 : Int32) (p2 : Int32) (p3 : Int32) (p4 : Int32) (p5 : Int32) (p6 : Int32) (h0 : Heap) (n0 : Nat) (v : Option Value) (h : Heap) (L : List Loc) : Prop := v = some (.int 1) ∧ Fr n0 L
set_option maxRecDepth 65536 in
set_option maxHeartbeats 40000000 in
theorem rm0 (l : Launch) (Z : State) (a0 : Array Value) (hw : ∀ d ∈ tables_1, d.before a0 Z = true) (ws : List Jvm.Cond) (p1 : Int32) (p2 : Int32) (p3 : Int32) (p4 : Int32) (p5 : Int32) (p6 : Int32) (h0 : Heap) (n0 : Nat) (Z0 : n0 ≤ h0.size) :
    MetFree l x (head1 (Jvm.Cond.code x code maxLocals ret :: ws) room_1) (fun a U => a = #[(.int p1), (.int p2), (.int p3), (.int p4), (.int p5), (.int p6)] ∧ Z.Warmed39 U.vm ∧ U.heap = h0) (fun _ _ _ _ _ => True) (fun _ U o U' => ∃ v L, o = .returned v ∧ Q0 Z p1 p2 p3 p4 p5 p6 h0 n0 v U'.heap L ∧ FrameEnd U o U' L room_1.cells room_1.slots) := by
  refine MetFree.of_bodySF (plainFor_of_name pn_0) hisR ?_
  intro p e s m args below meth c s₁ Bd hml0 hP hK
  obtain ⟨rfl, hZ, hh⟩ := hP
  have hx := Bd.exec
  have hby := Bd.bytes
  have hml : c.maxLocals = 14 := hml0
  have hown : s.vm.findClass "com/example/hemawire/hemawire/serve/TextFilesCharacterEndPinLaw" = some m.cls := findClass_of_methodNamed Bd.named
  have hnm := (name_of_methodNamed Bd.named Bd.method).1
  have X0 : Stand p l e room_1 s m #[(.int p1), (.int p2), (.int p3), (.int p4), (.int p5), (.int p6)] below meth c s₁ [] 0 0 := Stand.of_body Bd
  have e0 : s₁.heap = h0 := by rw [← hh, Bd.state]; rfl
  have N0 := Fr.nil n0
  have pre0 : ∀ t, Steps p.tables e below (s₁.setTop (mkF m 0 #[.val (.int p1), .val (.int p2), .val (.int p3), .val (.int p4), .val (.int p5), .val (.int p6), .unset, .unset, .unset, .unset, .unset, .unset, .unset, .unset] [])) t → Steps p.tables e below (s₁.setTop (entryFrame m #[(.int p1), (.int p2), (.int p3), (.int p4), (.int p5), (.int p6)] maxLocals)) t := fun t k => castTop (ef_0 m p1 p2 p3 p4 p5 p6) k
  have pre1 : ∀ t, Steps p.tables e below (s₁.setTop (mkF m 0 #[.val (.int p1), .val (.int p2), .val (.int p3), .val (.int p4), .val (.int p5), .val (.int p6), .unset, .unset, .unset, .unset, .unset, .unset, .unset, .unset] [])) t → Steps p.tables e below (s₁.setTop (mkF m 0 #[.val (.int p1), .val (.int p2), .val (.int p3), .val (.int p4), .val (.int p5), .val (.int p6), .unset, .unset, .unset, .unset, .unset, .unset, .unset, .unset] [])) t := fun t k => k
  have k1 : ∀ t, Steps p.tables e below (s₁.setTop (mkF m 1 #[.val (.int p1), .val (.int p2), .val (.int p3), .val (.int p4), .val (.int p5), .val (.int p6), .unset, .unset, .unset, .unset, .unset, .unset, .unset, .unset] [(.int (5 : Int32))])) t → Steps p.tables e below (s₁.setTop (mkF m 0 #[.val (.int p1), .val (.int p2), .val (.int p3), .val (.int p4), .val (.int p5), .val (.int p6), .unset, .unset, .unset, .unset, .unset, .unset, .unset, .unset] [])) t := fun t kt => pre1 t (by
    show Steps p.tables e below (s₁.setTop (mkF m 0 #[.val (.int p1), .val (.int p2), .val (.int p3), .val (.int p4), .val (.int p5), .val (.int p6), .unset, .unset, .unset, .unset, .unset, .unset, .unset, .unset] [])) _
    refine XS.iconst X0.here hx rfl (hb hby at_0) ?_
    exact kt)
  obtain ⟨T2, h2, k2, X2, e2, E2, A2, st2⟩ := newP X0 hx hZ (hw _ (List.mem_of_getElem? (i := 0) rfl)) e0 (g := (mkF m 1 #[.val (.int p1), .val (.int p2), .val (.int p3), .val (.int p4), .val (.int p5), .val (.int p6), .unset, .unset, .unset, .unset, .unset, .unset, .unset, .unset] [(.int (5 : Int32))])) rfl (hb hby at_1) rfl (by decide) (cap := 5) (by decide) (by decide) (by decide) (by decide)
  obtain ⟨b2, g2⟩ : ∃ z, z = h0.size := ⟨_, rfl⟩
  rw [← g2] at A2 st2
  have g_b2 : n0 ≤ b2 := Nat.le_trans Z0 (Nat.le_of_eq g2.symm)
  have Z2 : n0 ≤ h2.size := Nat.le_trans Z0 E2.1
  have V2 : Arv Z h2 b2 k2 .byte (5 : Int32) [(.int (0 : Int32)), (.int (0 : Int32)), (.int (0 : Int32)), (.int (0 : Int32)), (.int (0 : Int32))] (.int (0 : Int32)) := (Arv.new A2 (by decide)).pad (pad_rep [] (.int (0 : Int32)) 5)
  have k3 : ∀ t, Steps p.tables e below (T2.setTop (mkF m 7 #[.val (.int p1), .val (.int p2), .val (.int p3), .val (.int p4), .val (.int p5), .val (.int p6), .unset, .unset, .unset, .unset, .unset, .unset, .unset, .unset] [(.int (p1.toInt8.toInt32)), (.int (0 : Int32)), (.ref b2), (.ref b2)])) t → Steps p.tables e below (s₁.setTop (mkF m 0 #[.val (.int p1), .val (.int p2), .val (.int p3), .val (.int p4), .val (.int p5), .val (.int p6), .unset, .unset, .unset, .unset, .unset, .unset, .unset, .unset] [])) t := fun t kt => k1 t (by
    show Steps p.tables e below (s₁.setTop (mkF m 1 #[.val (.int p1), .val (.int p2), .val (.int p3), .val (.int p4), .val (.int p5), .val (.int p6), .unset, .unset, .unset, .unset, .unset, .unset, .unset, .unset] [(.int (5 : Int32))])) _
    refine st2 _ ?_
    show Steps p.tables e below (T2.setTop (mkF m 3 #[.val (.int p1), .val (.int p2), .val (.int p3), .val (.int p4), .val (.int p5), .val (.int p6), .unset, .unset, .unset, .unset, .unset, .unset, .unset, .unset] [(.ref b2)])) _
    refine XS.dup X2.here hx rfl (hb hby at_3) rfl rfl ?_
    show Steps p.tables e below (T2.setTop (mkF m 4 #[.val (.int p1), .val (.int p2), .val (.int p3), .val (.int p4), .val (.int p5), .val (.int p6), .unset, .unset, .unset, .unset, .unset, .unset, .unset, .unset] [(.ref b2), (.ref b2)])) _
    refine XS.iconst X2.here hx rfl (hb hby at_4) ?_
    show Steps p.tables e below (T2.setTop (mkF m 5 #[.val (.int p1), .val (.int p2), .val (.int p3), .val (.int p4), .val (.int p5), .val (.int p6), .unset, .unset, .unset, .unset, .unset, .unset, .unset, .unset] [(.int (0 : Int32)), (.ref b2), (.ref b2)])) _
    refine XS.iloadN X2.here hx rfl (hb hby at_5) rfl ?_
    show Steps p.tables e below (T2.setTop (mkF m 6 #[.val (.int p1), .val (.int p2), .val (.int p3), .val (.int p4), .val (.int p5), .val (.int p6), .unset, .unset, .unset, .unset, .unset, .unset, .unset, .unset] [(.int p1), (.int (0 : Int32)), (.ref b2), (.ref b2)])) _
    refine XS.i2b X2.here hx rfl (hb hby at_6) rfl ?_
    exact kt)
  obtain ⟨cl4, Ar4, q4, S4, N4', H4, G4⟩ := V2
  have hin4 : ¬ ((0 : Int32) < 0 ∨ cl4.slots.size ≤ ((0 : Int32)).toNatClampNeg) := inb_of S4 ⟨by decide, by decide⟩
  obtain ⟨T4, h4, X4, e4, W4, st4⟩ := stB X2 hx hZ e2 Ar4 (j := (0 : Int32)) hin4 (g := (mkF m 7 #[.val (.int p1), .val (.int p2), .val (.int p3), .val (.int p4), .val (.int p5), .val (.int p6), .unset, .unset, .unset, .unset, .unset, .unset, .unset, .unset] [(.int (p1.toInt8.toInt32)), (.int (0 : Int32)), (.ref b2), (.ref b2)])) rfl rfl (hb hby at_7)
  have V4 : Arv Z h4 b2 k2 .byte (5 : Int32) [(.int (nar .byte (p1.toInt8.toInt32))), (.int (0 : Int32)), (.int (0 : Int32)), (.int (0 : Int32)), (.int (0 : Int32))] (.int (0 : Int32)) := Arv.set Ar4 q4 S4 N4' H4 G4 (fits_nar_byte _) W4 0 rfl (Nat.le_of_ble_eq_true rfl)
  have N4 := Fr.snoc X4 N0 g_b2
  have Z4 : n0 ≤ h4.size := Nat.le_trans Z2 (Keep.of_wr W4).1
  have k5 : ∀ t, Steps p.tables e below (T4.setTop (mkF m 12 #[.val (.int p1), .val (.int p2), .val (.int p3), .val (.int p4), .val (.int p5), .val (.int p6), .unset, .unset, .unset, .unset, .unset, .unset, .unset, .unset] [(.int (p2.toInt8.toInt32)), (.int (1 : Int32)), (.ref b2), (.ref b2)])) t → Steps p.tables e below (s₁.setTop (mkF m 0 #[.val (.int p1), .val (.int p2), .val (.int p3), .val (.int p4), .val (.int p5), .val (.int p6), .unset, .unset, .unset, .unset, .unset, .unset, .unset, .unset] [])) t := fun t kt => k3 t (by
    show Steps p.tables e below (T2.setTop (mkF m 7 #[.val (.int p1), .val (.int p2), .val (.int p3), .val (.int p4), .val (.int p5), .val (.int p6), .unset, .unset, .unset, .unset, .unset, .unset, .unset, .unset] [(.int (p1.toInt8.toInt32)), (.int (0 : Int32)), (.ref b2), (.ref b2)])) _
    refine st4 _ ?_
    show Steps p.tables e below (T4.setTop (mkF m 8 #[.val (.int p1), .val (.int p2), .val (.int p3), .val (.int p4), .val (.int p5), .val (.int p6), .unset, .unset, .unset, .unset, .unset, .unset, .unset, .unset] [(.ref b2)])) _
    refine XS.dup X4.here hx rfl (hb hby at_8) rfl rfl ?_
    show Steps p.tables e below (T4.setTop (mkF m 9 #[.val (.int p1), .val (.int p2), .val (.int p3), .val (.int p4), .val (.int p5), .val (.int p6), .unset, .unset, .unset, .unset, .unset, .unset, .unset, .unset] [(.ref b2), (.ref b2)])) _
    refine XS.iconst X4.here hx rfl (hb hby at_9) ?_
    show Steps p.tables e below (T4.setTop (mkF m 10 #[.val (.int p1), .val (.int p2), .val (.int p3), .val (.int p4), .val (.int p5), .val (.int p6), .unset, .unset, .unset, .unset, .unset, .unset, .unset, .unset] [(.int (1 : Int32)), (.ref b2), (.ref b2)])) _
    refine XS.iloadN X4.here hx rfl (hb hby at_10) rfl ?_
    show Steps p.tables e below (T4.setTop (mkF m 11 #[.val (.int p1), .val (.int p2), .val (.int p3), .val (.int p4), .val (.int p5), .val (.int p6), .unset, .unset, .unset, .unset, .unset, .unset, .unset, .unset] [(.int p2), (.int (1 : Int32)), (.ref b2), (.ref b2)])) _
    refine XS.i2b X4.here hx rfl (hb hby at_11) rfl ?_
    exact kt)
  obtain ⟨cl6, Ar6, q6, S6, N6', H6, G6⟩ := V4
  have hin6 : ¬ ((1 : Int32) < 0 ∨ cl6.slots.size ≤ ((1 : Int32)).toNatClampNeg) := inb_of S6 ⟨by decide, by decide⟩
  obtain ⟨T6, h6, X6, e6, W6, st6⟩ := stB X4 hx hZ e4 Ar6 (j := (1 : Int32)) hin6 (g := (mkF m 12 #[.val (.int p1), .val (.int p2), .val (.int p3), .val (.int p4), .val (.int p5), .val (.int p6), .unset, .unset, .unset, .unset, .unset, .unset, .unset, .unset] [(.int (p2.toInt8.toInt32)), (.int (1 : Int32)), (.ref b2), (.ref b2)])) rfl rfl (hb hby at_12)
  have V6 : Arv Z h6 b2 k2 .byte (5 : Int32) [(.int (nar .byte (p1.toInt8.toInt32))), (.int (nar .byte (p2.toInt8.toInt32))), (.int (0 : Int32)), (.int (0 : Int32)), (.int (0 : Int32))] (.int (0 : Int32)) := Arv.set Ar6 q6 S6 N6' H6 G6 (fits_nar_byte _) W6 1 rfl (Nat.le_of_ble_eq_true rfl)
  have N6 := Fr.snoc X6 N4 g_b2
  have Z6 : n0 ≤ h6.size := Nat.le_trans Z4 (Keep.of_wr W6).1
  have k7 : ∀ t, Steps p.tables e below (T6.setTop (mkF m 17 #[.val (.int p1), .val (.int p2), .val (.int p3), .val (.int p4), .val (.int p5), .val (.int p6), .unset, .unset, .unset, .unset, .unset, .unset, .unset, .unset] [(.int (p3.toInt8.toInt32)), (.int (2 : Int32)), (.ref b2), (.ref b2)])) t → Steps p.tables e below (s₁.setTop (mkF m 0 #[.val (.int p1), .val (.int p2), .val (.int p3), .val (.int p4), .val (.int p5), .val (.int p6), .unset, .unset, .unset, .unset, .unset, .unset, .unset, .unset] [])) t := fun t kt => k5 t (by
    show Steps p.tables e below (T4.setTop (mkF m 12 #[.val (.int p1), .val (.int p2), .val (.int p3), .val (.int p4), .val (.int p5), .val (.int p6), .unset, .unset, .unset, .unset, .unset, .unset, .unset, .unset] [(.int (p2.toInt8.toInt32)), (.int (1 : Int32)), (.ref b2), (.ref b2)])) _
    refine st6 _ ?_
    show Steps p.tables e below (T6.setTop (mkF m 13 #[.val (.int p1), .val (.int p2), .val (.int p3), .val (.int p4), .val (.int p5), .val (.int p6), .unset, .unset, .unset, .unset, .unset, .unset, .unset, .unset] [(.ref b2)])) _
    refine XS.dup X6.here hx rfl (hb hby at_13) rfl rfl ?_
    show Steps p.tables e below (T6.setTop (mkF m 14 #[.val (.int p1), .val (.int p2), .val (.int p3), .val (.int p4), .val (.int p5), .val (.int p6), .unset, .unset, .unset, .unset, .unset, .unset, .unset, .unset] [(.ref b2), (.ref b2)])) _
    refine XS.iconst X6.here hx rfl (hb hby at_14) ?_
    show Steps p.tables e below (T6.setTop (mkF m 15 #[.val (.int p1), .val (.int p2), .val (.int p3), .val (.int p4), .val (.int p5), .val (.int p6), .unset, .unset, .unset, .unset, .unset, .unset, .unset, .unset] [(.int (2 : Int32)), (.ref b2), (.ref b2)])) _
    refine XS.iloadN X6.here hx rfl (hb hby at_15) rfl ?_
    show Steps p.tables e below (T6.setTop (mkF m 16 #[.val (.int p1), .val (.int p2), .val (.int p3), .val (.int p4), .val (.int p5), .val (.int p6), .unset, .unset, .unset, .unset, .unset, .unset, .unset, .unset] [(.int p3), (.int (2 : Int32)), (.ref b2), (.ref b2)])) _
    refine XS.i2b X6.here hx rfl (hb hby at_16) rfl ?_
    exact kt)
  obtain ⟨cl8, Ar8, q8, S8, N8', H8, G8⟩ := V6
  have hin8 : ¬ ((2 : Int32) < 0 ∨ cl8.slots.size ≤ ((2 : Int32)).toNatClampNeg) := inb_of S8 ⟨by decide, by decide⟩
  obtain ⟨T8, h8, X8, e8, W8, st8⟩ := stB X6 hx hZ e6 Ar8 (j := (2 : Int32)) hin8 (g := (mkF m 17 #[.val (.int p1), .val (.int p2), .val (.int p3), .val (.int p4), .val (.int p5), .val (.int p6), .unset, .unset, .unset, .unset, .unset, .unset, .unset, .unset] [(.int (p3.toInt8.toInt32)), (.int (2 : Int32)), (.ref b2), (.ref b2)])) rfl rfl (hb hby at_17)
  have V8 : Arv Z h8 b2 k2 .byte (5 : Int32) [(.int (nar .byte (p1.toInt8.toInt32))), (.int (nar .byte (p2.toInt8.toInt32))), (.int (nar .byte (p3.toInt8.toInt32))), (.int (0 : Int32)), (.int (0 : Int32))] (.int (0 : Int32)) := Arv.set Ar8 q8 S8 N8' H8 G8 (fits_nar_byte _) W8 2 rfl (Nat.le_of_ble_eq_true rfl)
  have N8 := Fr.snoc X8 N6 g_b2
  have Z8 : n0 ≤ h8.size := Nat.le_trans Z6 (Keep.of_wr W8).1
  have k9 : ∀ t, Steps p.tables e below (T8.setTop (mkF m 22 #[.val (.int p1), .val (.int p2), .val (.int p3), .val (.int p4), .val (.int p5), .val (.int p6), .unset, .unset, .unset, .unset, .unset, .unset, .unset, .unset] [(.int (p4.toInt8.toInt32)), (.int (3 : Int32)), (.ref b2), (.ref b2)])) t → Steps p.tables e below (s₁.setTop (mkF m 0 #[.val (.int p1), .val (.int p2), .val (.int p3), .val (.int p4), .val (.int p5), .val (.int p6), .unset, .unset, .unset, .unset, .unset, .unset, .unset, .unset] [])) t := fun t kt => k7 t (by
    show Steps p.tables e below (T6.setTop (mkF m 17 #[.val (.int p1), .val (.int p2), .val (.int p3), .val (.int p4), .val (.int p5), .val (.int p6), .unset, .unset, .unset, .unset, .unset, .unset, .unset, .unset] [(.int (p3.toInt8.toInt32)), (.int (2 : Int32)), (.ref b2), (.ref b2)])) _
    refine st8 _ ?_
    show Steps p.tables e below (T8.setTop (mkF m 18 #[.val (.int p1), .val (.int p2), .val (.int p3), .val (.int p4), .val (.int p5), .val (.int p6), .unset, .unset, .unset, .unset, .unset, .unset, .unset, .unset] [(.ref b2)])) _
    refine XS.dup X8.here hx rfl (hb hby at_18) rfl rfl ?_
    show Steps p.tables e below (T8.setTop (mkF m 19 #[.val (.int p1), .val (.int p2), .val (.int p3), .val (.int p4), .val (.int p5), .val (.int p6), .unset, .unset, .unset, .unset, .unset, .unset, .unset, .unset] [(.ref b2), (.ref b2)])) _
    refine XS.iconst X8.here hx rfl (hb hby at_19) ?_
    show Steps p.tables e below (T8.setTop (mkF m 20 #[.val (.int p1), .val (.int p2), .val (.int p3), .val (.int p4), .val (.int p5), .val (.int p6), .unset, .unset, .unset, .unset, .unset, .unset, .unset, .unset] [(.int (3 : Int32)), (.ref b2), (.ref b2)])) _
    refine XS.iloadN X8.here hx rfl (hb hby at_20) rfl ?_
    show Steps p.tables e below (T8.setTop (mkF m 21 #[.val (.int p1), .val (.int p2), .val (.int p3), .val (.int p4), .val (.int p5), .val (.int p6), .unset, .unset, .unset, .unset, .unset, .unset, .unset, .unset] [(.int p4), (.int (3 : Int32)), (.ref b2), (.ref b2)])) _
    refine XS.i2b X8.here hx rfl (hb hby at_21) rfl ?_
    exact kt)
  obtain ⟨cl10, Ar10, q10, S10, N10', H10, G10⟩ := V8
  have hin10 : ¬ ((3 : Int32) < 0 ∨ cl10.slots.size ≤ ((3 : Int32)).toNatClampNeg) := inb_of S10 ⟨by decide, by decide⟩
  obtain ⟨T10, h10, X10, e10, W10, st10⟩ := stB X8 hx hZ e8 Ar10 (j := (3 : Int32)) hin10 (g := (mkF m 22 #[.val (.int p1), .val (.int p2), .val (.int p3), .val (.int p4), .val (.int p5), .val (.int p6), .unset, .unset, .unset, .unset, .unset, .unset, .unset, .unset] [(.int (p4.toInt8.toInt32)), (.int (3 : Int32)), (.ref b2), (.ref b2)])) rfl rfl (hb hby at_22)
  have V10 : Arv Z h10 b2 k2 .byte (5 : Int32) [(.int (nar .byte (p1.toInt8.toInt32))), (.int (nar .byte (p2.toInt8.toInt32))), (.int (nar .byte (p3.toInt8.toInt32))), (.int (nar .byte (p4.toInt8.toInt32))), (.int (0 : Int32))] (.int (0 : Int32)) := Arv.set Ar10 q10 S10 N10' H10 G10 (fits_nar_byte _) W10 3 rfl (Nat.le_of_ble_eq_true rfl)
  have N10 := Fr.snoc X10 N8 g_b2
  have Z10 : n0 ≤ h10.size := Nat.le_trans Z8 (Keep.of_wr W10).1
  have k11 : ∀ t, Steps p.tables e below (T10.setTop (mkF m 28 #[.val (.int p1), .val (.int p2), .val (.int p3), .val (.int p4), .val (.int p5), .val (.int p6), .unset, .unset, .unset, .unset, .unset, .unset, .unset, .unset] [(.int (p5.toInt8.toInt32)), (.int (4 : Int32)), (.ref b2), (.ref b2)])) t → Steps p.tables e below (s₁.setTop (mkF m 0 #[.val (.int p1), .val (.int p2), .val (.int p3), .val (.int p4), .val (.int p5), .val (.int p6), .unset, .unset, .unset, .unset, .unset, .unset, .unset, .unset] [])) t := fun t kt => k9 t (by
    show Steps p.tables e below (T8.setTop (mkF m 22 #[.val (.int p1), .val (.int p2), .val (.int p3), .val (.int p4), .val (.int p5), .val (.int p6), .unset, .unset, .unset, .unset, .unset, .unset, .unset, .unset] [(.int (p4.toInt8.toInt32)), (.int (3 : Int32)), (.ref b2), (.ref b2)])) _
    refine st10 _ ?_
    show Steps p.tables e below (T10.setTop (mkF m 23 #[.val (.int p1), .val (.int p2), .val (.int p3), .val (.int p4), .val (.int p5), .val (.int p6), .unset, .unset, .unset, .unset, .unset, .unset, .unset, .unset] [(.ref b2)])) _
    refine XS.dup X10.here hx rfl (hb hby at_23) rfl rfl ?_
    show Steps p.tables e below (T10.setTop (mkF m 24 #[.val (.int p1), .val (.int p2), .val (.int p3), .val (.int p4), .val (.int p5), .val (.int p6), .unset, .unset, .unset, .unset, .unset, .unset, .unset, .unset] [(.ref b2), (.ref b2)])) _
    refine XS.iconst X10.here hx rfl (hb hby at_24) ?_
    show Steps p.tables e below (T10.setTop (mkF m 25 #[.val (.int p1), .val (.int p2), .val (.int p3), .val (.int p4), .val (.int p5), .val (.int p6), .unset, .unset, .unset, .unset, .unset, .unset, .unset, .unset] [(.int (4 : Int32)), (.ref b2), (.ref b2)])) _
    refine XS.iload X10.here hx rfl (hb hby at_25) rfl ?_
    show Steps p.tables e below (T10.setTop (mkF m 27 #[.val (.int p1), .val (.int p2), .val (.int p3), .val (.int p4), .val (.int p5), .val (.int p6), .unset, .unset, .unset, .unset, .unset, .unset, .unset, .unset] [(.int p5), (.int (4 : Int32)), (.ref b2), (.ref b2)])) _
    refine XS.i2b X10.here hx rfl (hb hby at_27) rfl ?_
    exact kt)
  obtain ⟨cl12, Ar12, q12, S12, N12', H12, G12⟩ := V10
  have hin12 : ¬ ((4 : Int32) < 0 ∨ cl12.slots.size ≤ ((4 : Int32)).toNatClampNeg) := inb_of S12 ⟨by decide, by decide⟩
  obtain ⟨T12, h12, X12, e12, W12, st12⟩ := stB X10 hx hZ e10 Ar12 (j := (4 : Int32)) hin12 (g := (mkF m 28 #[.val (.int p1), .val (.int p2), .val (.int p3), .val (.int p4), .val (.int p5), .val (.int p6), .unset, .unset, .unset, .unset, .unset, .unset, .unset, .unset] [(.int (p5.toInt8.toInt32)), (.int (4 : Int32)), (.ref b2), (.ref b2)])) rfl rfl (hb hby at_28)
  have V12 : Arv Z h12 b2 k2 .byte (5 : Int32) [(.int (nar .byte (p1.toInt8.toInt32))), (.int (nar .byte (p2.toInt8.toInt32))), (.int (nar .byte (p3.toInt8.toInt32))), (.int (nar .byte (p4.toInt8.toInt32))), (.int (nar .byte (p5.toInt8.toInt32)))] (.int (0 : Int32)) := Arv.set Ar12 q12 S12 N12' H12 G12 (fits_nar_byte _) W12 4 rfl (Nat.le_of_ble_eq_true rfl)
  have N12 := Fr.snoc X12 N10 g_b2
  have Z12 : n0 ≤ h12.size := Nat.le_trans Z10 (Keep.of_wr W12).1
  have k13 : ∀ t, Steps p.tables e below (T12.setTop (mkF m 40 #[.val (.int p1), .val (.int p2), .val (.int p3), .val (.int p4), .val (.int p5), .val (.int p6), .val (.ref b2), .val (.int ((p6 &&& (2147483647 : Int32)) % (5 : Int32))), .unset, .unset, .unset, .unset, .unset, .unset] [])) t → Steps p.tables e below (s₁.setTop (mkF m 0 #[.val (.int p1), .val (.int p2), .val (.int p3), .val (.int p4), .val (.int p5), .val (.int p6), .unset, .unset, .unset, .unset, .unset, .unset, .unset, .unset] [])) t := fun t kt => k11 t (by
    show Steps p.tables e below (T10.setTop (mkF m 28 #[.val (.int p1), .val (.int p2), .val (.int p3), .val (.int p4), .val (.int p5), .val (.int p6), .unset, .unset, .unset, .unset, .unset, .unset, .unset, .unset] [(.int (p5.toInt8.toInt32)), (.int (4 : Int32)), (.ref b2), (.ref b2)])) _
    refine st12 _ ?_
    show Steps p.tables e below (T12.setTop (mkF m 29 #[.val (.int p1), .val (.int p2), .val (.int p3), .val (.int p4), .val (.int p5), .val (.int p6), .unset, .unset, .unset, .unset, .unset, .unset, .unset, .unset] [(.ref b2)])) _
    refine XS.astore X12.here hx rfl (hb hby at_29) rfl rfl (l' := #[.val (.int p1), .val (.int p2), .val (.int p3), .val (.int p4), .val (.int p5), .val (.int p6), .val (.ref b2), .unset, .unset, .unset, .unset, .unset, .unset, .unset]) rfl ?_
    show Steps p.tables e below (T12.setTop (mkF m 31 #[.val (.int p1), .val (.int p2), .val (.int p3), .val (.int p4), .val (.int p5), .val (.int p6), .val (.ref b2), .unset, .unset, .unset, .unset, .unset, .unset, .unset] [])) _
    refine XS.iload X12.here hx rfl (hb hby at_31) rfl ?_
    show Steps p.tables e below (T12.setTop (mkF m 33 #[.val (.int p1), .val (.int p2), .val (.int p3), .val (.int p4), .val (.int p5), .val (.int p6), .val (.ref b2), .unset, .unset, .unset, .unset, .unset, .unset, .unset] [(.int p6)])) _
    refine X12.ldcInt hx hown (mvT hZ (hw _ (List.mem_of_getElem? (i := 1) rfl))) (g := (mkF m 33 #[.val (.int p1), .val (.int p2), .val (.int p3), .val (.int p4), .val (.int p5), .val (.int p6), .val (.ref b2), .unset, .unset, .unset, .unset, .unset, .unset, .unset] [(.int p6)])) rfl (hb hby at_33) _ ?_
    show Steps p.tables e below (T12.setTop (mkF m 35 #[.val (.int p1), .val (.int p2), .val (.int p3), .val (.int p4), .val (.int p5), .val (.int p6), .val (.ref b2), .unset, .unset, .unset, .unset, .unset, .unset, .unset] [(.int (2147483647 : Int32)), (.int p6)])) _
    refine XS.iand X12.here hx rfl (hb hby at_35) rfl ?_
    show Steps p.tables e below (T12.setTop (mkF m 36 #[.val (.int p1), .val (.int p2), .val (.int p3), .val (.int p4), .val (.int p5), .val (.int p6), .val (.ref b2), .unset, .unset, .unset, .unset, .unset, .unset, .unset] [(.int (p6 &&& (2147483647 : Int32)))])) _
    refine XS.iconst X12.here hx rfl (hb hby at_36) ?_
    show Steps p.tables e below (T12.setTop (mkF m 37 #[.val (.int p1), .val (.int p2), .val (.int p3), .val (.int p4), .val (.int p5), .val (.int p6), .val (.ref b2), .unset, .unset, .unset, .unset, .unset, .unset, .unset] [(.int (5 : Int32)), (.int (p6 &&& (2147483647 : Int32)))])) _
    refine iremM X12 hx rfl (hb hby at_37) rfl (by decide) ?_
    show Steps p.tables e below (T12.setTop (mkF m 38 #[.val (.int p1), .val (.int p2), .val (.int p3), .val (.int p4), .val (.int p5), .val (.int p6), .val (.ref b2), .unset, .unset, .unset, .unset, .unset, .unset, .unset] [(.int ((p6 &&& (2147483647 : Int32)) % (5 : Int32)))])) _
    refine XS.istore X12.here hx rfl (hb hby at_38) rfl (l' := #[.val (.int p1), .val (.int p2), .val (.int p3), .val (.int p4), .val (.int p5), .val (.int p6), .val (.ref b2), .val (.int ((p6 &&& (2147483647 : Int32)) % (5 : Int32))), .unset, .unset, .unset, .unset, .unset, .unset]) rfl ?_
    exact kt)
  by_cases c40_14 : ((p6 &&& (2147483647 : Int32)) % (5 : Int32)) = (0 : Int32)
  · rw [c40_14] at k13
    have k15 : ∀ t, Steps p.tables e below (T12.setTop (mkF m 50 #[.val (.int p1), .val (.int p2), .val (.int p3), .val (.int p4), .val (.int p5), .val (.int p6), .val (.ref b2), .val (.int (0 : Int32)), .val (.int (5 : Int32)), .unset, .unset, .unset, .unset, .unset] [(.int (0 : Int32)), (.ref b2)])) t → Steps p.tables e below (s₁.setTop (mkF m 0 #[.val (.int p1), .val (.int p2), .val (.int p3), .val (.int p4), .val (.int p5), .val (.int p6), .unset, .unset, .unset, .unset, .unset, .unset, .unset, .unset] [])) t := fun t kt => k13 t (by
      show Steps p.tables e below (T12.setTop (mkF m 40 #[.val (.int p1), .val (.int p2), .val (.int p3), .val (.int p4), .val (.int p5), .val (.int p6), .val (.ref b2), .val (.int (0 : Int32)), .unset, .unset, .unset, .unset, .unset, .unset] [])) _
      refine XS.iconst X12.here hx rfl (hb hby at_40) ?_
      show Steps p.tables e below (T12.setTop (mkF m 41 #[.val (.int p1), .val (.int p2), .val (.int p3), .val (.int p4), .val (.int p5), .val (.int p6), .val (.ref b2), .val (.int (0 : Int32)), .unset, .unset, .unset, .unset, .unset, .unset] [(.int (5 : Int32))])) _
      refine XS.iload X12.here hx rfl (hb hby at_41) rfl ?_
      show Steps p.tables e below (T12.setTop (mkF m 43 #[.val (.int p1), .val (.int p2), .val (.int p3), .val (.int p4), .val (.int p5), .val (.int p6), .val (.ref b2), .val (.int (0 : Int32)), .unset, .unset, .unset, .unset, .unset, .unset] [(.int (0 : Int32)), (.int (5 : Int32))])) _
      refine XS.isub X12.here hx rfl (hb hby at_43) rfl ?_
      show Steps p.tables e below (T12.setTop (mkF m 44 #[.val (.int p1), .val (.int p2), .val (.int p3), .val (.int p4), .val (.int p5), .val (.int p6), .val (.ref b2), .val (.int (0 : Int32)), .unset, .unset, .unset, .unset, .unset, .unset] [(.int (5 : Int32))])) _
      refine XS.istore X12.here hx rfl (hb hby at_44) rfl (l' := #[.val (.int p1), .val (.int p2), .val (.int p3), .val (.int p4), .val (.int p5), .val (.int p6), .val (.ref b2), .val (.int (0 : Int32)), .val (.int (5 : Int32)), .unset, .unset, .unset, .unset, .unset]) rfl ?_
      show Steps p.tables e below (T12.setTop (mkF m 46 #[.val (.int p1), .val (.int p2), .val (.int p3), .val (.int p4), .val (.int p5), .val (.int p6), .val (.ref b2), .val (.int (0 : Int32)), .val (.int (5 : Int32)), .unset, .unset, .unset, .unset, .unset] [])) _
      refine XS.aload X12.here hx rfl (hb hby at_46) rfl rfl ?_
      show Steps p.tables e below (T12.setTop (mkF m 48 #[.val (.int p1), .val (.int p2), .val (.int p3), .val (.int p4), .val (.int p5), .val (.int p6), .val (.ref b2), .val (.int (0 : Int32)), .val (.int (5 : Int32)), .unset, .unset, .unset, .unset, .unset] [(.ref b2)])) _
      refine XS.iload X12.here hx rfl (hb hby at_48) rfl ?_
      exact kt)
    obtain ⟨cl16, Ar16, q16, S16, N16', H16, G16⟩ := V12
    have hin16 : ¬ ((0 : Int32) < 0 ∨ cl16.slots.size ≤ ((0 : Int32)).toNatClampNeg) := inb_of S16 ⟨by decide, by decide⟩
    have hat16 : cl16.slots[((0 : Int32)).toNatClampNeg]? = some (.int (nar .byte (p1.toInt8.toInt32))) := H16.at hin16 rfl
    have V16 : Arv Z h12 b2 k2 .byte (5 : Int32) [(.int (nar .byte (p1.toInt8.toInt32))), (.int (nar .byte (p2.toInt8.toInt32))), (.int (nar .byte (p3.toInt8.toInt32))), (.int (nar .byte (p4.toInt8.toInt32))), (.int (nar .byte (p5.toInt8.toInt32)))] (.int (0 : Int32)) := ⟨cl16, Ar16, q16, S16, N16', H16, G16⟩
    have k17 : ∀ t, Steps p.tables e below (T12.setTop (mkF m 51 #[.val (.int p1), .val (.int p2), .val (.int p3), .val (.int p4), .val (.int p5), .val (.int p6), .val (.ref b2), .val (.int (0 : Int32)), .val (.int (5 : Int32)), .unset, .unset, .unset, .unset, .unset] [(.int (nar .byte (p1.toInt8.toInt32)))])) t → Steps p.tables e below (s₁.setTop (mkF m 0 #[.val (.int p1), .val (.int p2), .val (.int p3), .val (.int p4), .val (.int p5), .val (.int p6), .unset, .unset, .unset, .unset, .unset, .unset, .unset, .unset] [])) t := fun t kt => k15 t (by
      show Steps p.tables e below (T12.setTop (mkF m 50 #[.val (.int p1), .val (.int p2), .val (.int p3), .val (.int p4), .val (.int p5), .val (.int p6), .val (.ref b2), .val (.int (0 : Int32)), .val (.int (5 : Int32)), .unset, .unset, .unset, .unset, .unset] [(.int (0 : Int32)), (.ref b2)])) _
      refine X12.baloadBytes hx (j := (0 : Int32)) (v := (.int (nar .byte (p1.toInt8.toInt32)))) (by rw [e12]; exact Ar16.1) (State.isArrayOf_alike hZ.alike Ar16.2.1) Ar16.2.2 hin16 hat16 (g := (mkF m 50 #[.val (.int p1), .val (.int p2), .val (.int p3), .val (.int p4), .val (.int p5), .val (.int p6), .val (.ref b2), .val (.int (0 : Int32)), .val (.int (5 : Int32)), .unset, .unset, .unset, .unset, .unset] [(.int (0 : Int32)), (.ref b2)])) rfl rfl (hb hby at_50) _ ?_
      exact kt)
    have k19 : ∀ t, Steps p.tables e below (T12.setTop (mkF m 60 #[.val (.int p1), .val (.int p2), .val (.int p3), .val (.int p4), .val (.int p5), .val (.int p6), .val (.ref b2), .val (.int (0 : Int32)), .val (.int (5 : Int32)), .val (.int ((nar .byte (p1.toInt8.toInt32)) &&& (255 : Int32))), .unset, .unset, .unset, .unset] [(.int (1 : Int32)), (.int (5 : Int32))])) t → Steps p.tables e below (s₁.setTop (mkF m 0 #[.val (.int p1), .val (.int p2), .val (.int p3), .val (.int p4), .val (.int p5), .val (.int p6), .unset, .unset, .unset, .unset, .unset, .unset, .unset, .unset] [])) t := fun t kt => k17 t (by
      show Steps p.tables e below (T12.setTop (mkF m 51 #[.val (.int p1), .val (.int p2), .val (.int p3), .val (.int p4), .val (.int p5), .val (.int p6), .val (.ref b2), .val (.int (0 : Int32)), .val (.int (5 : Int32)), .unset, .unset, .unset, .unset, .unset] [(.int (nar .byte (p1.toInt8.toInt32)))])) _
      refine XS.sipush X12.here hx rfl (hb hby at_51) ?_
      show Steps p.tables e below (T12.setTop (mkF m 54 #[.val (.int p1), .val (.int p2), .val (.int p3), .val (.int p4), .val (.int p5), .val (.int p6), .val (.ref b2), .val (.int (0 : Int32)), .val (.int (5 : Int32)), .unset, .unset, .unset, .unset, .unset] [(.int (255 : Int32)), (.int (nar .byte (p1.toInt8.toInt32)))])) _
      refine XS.iand X12.here hx rfl (hb hby at_54) rfl ?_
      show Steps p.tables e below (T12.setTop (mkF m 55 #[.val (.int p1), .val (.int p2), .val (.int p3), .val (.int p4), .val (.int p5), .val (.int p6), .val (.ref b2), .val (.int (0 : Int32)), .val (.int (5 : Int32)), .unset, .unset, .unset, .unset, .unset] [(.int ((nar .byte (p1.toInt8.toInt32)) &&& (255 : Int32)))])) _
      refine XS.istore X12.here hx rfl (hb hby at_55) rfl (l' := #[.val (.int p1), .val (.int p2), .val (.int p3), .val (.int p4), .val (.int p5), .val (.int p6), .val (.ref b2), .val (.int (0 : Int32)), .val (.int (5 : Int32)), .val (.int ((nar .byte (p1.toInt8.toInt32)) &&& (255 : Int32))), .unset, .unset, .unset, .unset]) rfl ?_
      show Steps p.tables e below (T12.setTop (mkF m 57 #[.val (.int p1), .val (.int p2), .val (.int p3), .val (.int p4), .val (.int p5), .val (.int p6), .val (.ref b2), .val (.int (0 : Int32)), .val (.int (5 : Int32)), .val (.int ((nar .byte (p1.toInt8.toInt32)) &&& (255 : Int32))), .unset, .unset, .unset, .unset] [])) _
      refine XS.iload X12.here hx rfl (hb hby at_57) rfl ?_
      show Steps p.tables e below (T12.setTop (mkF m 59 #[.val (.int p1), .val (.int p2), .val (.int p3), .val (.int p4), .val (.int p5), .val (.int p6), .val (.ref b2), .val (.int (0 : Int32)), .val (.int (5 : Int32)), .val (.int ((nar .byte (p1.toInt8.toInt32)) &&& (255 : Int32))), .unset, .unset, .unset, .unset] [(.int (5 : Int32))])) _
      refine XS.iconst X12.here hx rfl (hb hby at_59) ?_
      exact kt)
    have c60_18 : (1 : Int32) < (5 : Int32) := by decide
    have k20 : ∀ t, Steps p.tables e below (T12.setTop (mkF m 69 #[.val (.int p1), .val (.int p2), .val (.int p3), .val (.int p4), .val (.int p5), .val (.int p6), .val (.ref b2), .val (.int (0 : Int32)), .val (.int (5 : Int32)), .val (.int ((nar .byte (p1.toInt8.toInt32)) &&& (255 : Int32))), .unset, .unset, .unset, .unset] [(.int (1 : Int32)), (.ref b2)])) t → Steps p.tables e below (s₁.setTop (mkF m 0 #[.val (.int p1), .val (.int p2), .val (.int p3), .val (.int p4), .val (.int p5), .val (.int p6), .unset, .unset, .unset, .unset, .unset, .unset, .unset, .unset] [])) t := fun t kt => k19 t (by
      show Steps p.tables e below (T12.setTop (mkF m 60 #[.val (.int p1), .val (.int p2), .val (.int p3), .val (.int p4), .val (.int p5), .val (.int p6), .val (.ref b2), .val (.int (0 : Int32)), .val (.int (5 : Int32)), .val (.int ((nar .byte (p1.toInt8.toInt32)) &&& (255 : Int32))), .unset, .unset, .unset, .unset] [(.int (1 : Int32)), (.int (5 : Int32))])) _
      refine XS.icmpNo X12.here hx rfl (hb hby at_60) rfl (tlt c60_18).2.2.2 ?_
      show Steps p.tables e below (T12.setTop (mkF m 63 #[.val (.int p1), .val (.int p2), .val (.int p3), .val (.int p4), .val (.int p5), .val (.int p6), .val (.ref b2), .val (.int (0 : Int32)), .val (.int (5 : Int32)), .val (.int ((nar .byte (p1.toInt8.toInt32)) &&& (255 : Int32))), .unset, .unset, .unset, .unset] [])) _
      refine XS.aload X12.here hx rfl (hb hby at_63) rfl rfl ?_
      show Steps p.tables e below (T12.setTop (mkF m 65 #[.val (.int p1), .val (.int p2), .val (.int p3), .val (.int p4), .val (.int p5), .val (.int p6), .val (.ref b2), .val (.int (0 : Int32)), .val (.int (5 : Int32)), .val (.int ((nar .byte (p1.toInt8.toInt32)) &&& (255 : Int32))), .unset, .unset, .unset, .unset] [(.ref b2)])) _
      refine XS.iload X12.here hx rfl (hb hby at_65) rfl ?_
      show Steps p.tables e below (T12.setTop (mkF m 67 #[.val (.int p1), .val (.int p2), .val (.int p3), .val (.int p4), .val (.int p5), .val (.int p6), .val (.ref b2), .val (.int (0 : Int32)), .val (.int (5 : Int32)), .val (.int ((nar .byte (p1.toInt8.toInt32)) &&& (255 : Int32))), .unset, .unset, .unset, .unset] [(.int (0 : Int32)), (.ref b2)])) _
      refine XS.iconst X12.here hx rfl (hb hby at_67) ?_
      show Steps p.tables e below (T12.setTop (mkF m 68 #[.val (.int p1), .val (.int p2), .val (.int p3), .val (.int p4), .val (.int p5), .val (.int p6), .val (.ref b2), .val (.int (0 : Int32)), .val (.int (5 : Int32)), .val (.int ((nar .byte (p1.toInt8.toInt32)) &&& (255 : Int32))), .unset, .unset, .unset, .unset] [(.int (1 : Int32)), (.int (0 : Int32)), (.ref b2)])) _
      refine XS.iadd X12.here hx rfl (hb hby at_68) rfl ?_
      exact kt)
    obtain ⟨cl21, Ar21, q21, S21, N21', H21, G21⟩ := V16
    have hin21 : ¬ ((1 : Int32) < 0 ∨ cl21.slots.size ≤ ((1 : Int32)).toNatClampNeg) := inb_of S21 ⟨by decide, by decide⟩
    have hat21 : cl21.slots[((1 : Int32)).toNatClampNeg]? = some (.int (nar .byte (p2.toInt8.toInt32))) := H21.at hin21 rfl
    have V21 : Arv Z h12 b2 k2 .byte (5 : Int32) [(.int (nar .byte (p1.toInt8.toInt32))), (.int (nar .byte (p2.toInt8.toInt32))), (.int (nar .byte (p3.toInt8.toInt32))), (.int (nar .byte (p4.toInt8.toInt32))), (.int (nar .byte (p5.toInt8.toInt32)))] (.int (0 : Int32)) := ⟨cl21, Ar21, q21, S21, N21', H21, G21⟩
    have k22 : ∀ t, Steps p.tables e below (T12.setTop (mkF m 70 #[.val (.int p1), .val (.int p2), .val (.int p3), .val (.int p4), .val (.int p5), .val (.int p6), .val (.ref b2), .val (.int (0 : Int32)), .val (.int (5 : Int32)), .val (.int ((nar .byte (p1.toInt8.toInt32)) &&& (255 : Int32))), .unset, .unset, .unset, .unset] [(.int (nar .byte (p2.toInt8.toInt32)))])) t → Steps p.tables e below (s₁.setTop (mkF m 0 #[.val (.int p1), .val (.int p2), .val (.int p3), .val (.int p4), .val (.int p5), .val (.int p6), .unset, .unset, .unset, .unset, .unset, .unset, .unset, .unset] [])) t := fun t kt => k20 t (by
      show Steps p.tables e below (T12.setTop (mkF m 69 #[.val (.int p1), .val (.int p2), .val (.int p3), .val (.int p4), .val (.int p5), .val (.int p6), .val (.ref b2), .val (.int (0 : Int32)), .val (.int (5 : Int32)), .val (.int ((nar .byte (p1.toInt8.toInt32)) &&& (255 : Int32))), .unset, .unset, .unset, .unset] [(.int (1 : Int32)), (.ref b2)])) _
      refine X12.baloadBytes hx (j := (1 : Int32)) (v := (.int (nar .byte (p2.toInt8.toInt32)))) (by rw [e12]; exact Ar21.1) (State.isArrayOf_alike hZ.alike Ar21.2.1) Ar21.2.2 hin21 hat21 (g := (mkF m 69 #[.val (.int p1), .val (.int p2), .val (.int p3), .val (.int p4), .val (.int p5), .val (.int p6), .val (.ref b2), .val (.int (0 : Int32)), .val (.int (5 : Int32)), .val (.int ((nar .byte (p1.toInt8.toInt32)) &&& (255 : Int32))), .unset, .unset, .unset, .unset] [(.int (1 : Int32)), (.ref b2)])) rfl rfl (hb hby at_69) _ ?_
      exact kt)
    have k24 : ∀ t, Steps p.tables e below (T12.setTop (mkF m 83 #[.val (.int p1), .val (.int p2), .val (.int p3), .val (.int p4), .val (.int p5), .val (.int p6), .val (.ref b2), .val (.int (0 : Int32)), .val (.int (5 : Int32)), .val (.int ((nar .byte (p1.toInt8.toInt32)) &&& (255 : Int32))), .val (.int ((nar .byte (p2.toInt8.toInt32)) &&& (255 : Int32))), .unset, .unset, .unset] [(.int (2 : Int32)), (.int (5 : Int32))])) t → Steps p.tables e below (s₁.setTop (mkF m 0 #[.val (.int p1), .val (.int p2), .val (.int p3), .val (.int p4), .val (.int p5), .val (.int p6), .unset, .unset, .unset, .unset, .unset, .unset, .unset, .unset] [])) t := fun t kt => k22 t (by
      show Steps p.tables e below (T12.setTop (mkF m 70 #[.val (.int p1), .val (.int p2), .val (.int p3), .val (.int p4), .val (.int p5), .val (.int p6), .val (.ref b2), .val (.int (0 : Int32)), .val (.int (5 : Int32)), .val (.int ((nar .byte (p1.toInt8.toInt32)) &&& (255 : Int32))), .unset, .unset, .unset, .unset] [(.int (nar .byte (p2.toInt8.toInt32)))])) _
      refine XS.sipush X12.here hx rfl (hb hby at_70) ?_
      show Steps p.tables e below (T12.setTop (mkF m 73 #[.val (.int p1), .val (.int p2), .val (.int p3), .val (.int p4), .val (.int p5), .val (.int p6), .val (.ref b2), .val (.int (0 : Int32)), .val (.int (5 : Int32)), .val (.int ((nar .byte (p1.toInt8.toInt32)) &&& (255 : Int32))), .unset, .unset, .unset, .unset] [(.int (255 : Int32)), (.int (nar .byte (p2.toInt8.toInt32)))])) _
      refine XS.iand X12.here hx rfl (hb hby at_73) rfl ?_
      show Steps p.tables e below (T12.setTop (mkF m 74 #[.val (.int p1), .val (.int p2), .val (.int p3), .val (.int p4), .val (.int p5), .val (.int p6), .val (.ref b2), .val (.int (0 : Int32)), .val (.int (5 : Int32)), .val (.int ((nar .byte (p1.toInt8.toInt32)) &&& (255 : Int32))), .unset, .unset, .unset, .unset] [(.int ((nar .byte (p2.toInt8.toInt32)) &&& (255 : Int32)))])) _
      refine XS.goto X12.here hx rfl (pc0 := 74) (pc' := 78) rfl (hb hby at_74) (by decide) (by decide) ?_
      show Steps p.tables e below (T12.setTop (mkF m 78 #[.val (.int p1), .val (.int p2), .val (.int p3), .val (.int p4), .val (.int p5), .val (.int p6), .val (.ref b2), .val (.int (0 : Int32)), .val (.int (5 : Int32)), .val (.int ((nar .byte (p1.toInt8.toInt32)) &&& (255 : Int32))), .unset, .unset, .unset, .unset] [(.int ((nar .byte (p2.toInt8.toInt32)) &&& (255 : Int32)))])) _
      refine XS.istore X12.here hx rfl (hb hby at_78) rfl (l' := #[.val (.int p1), .val (.int p2), .val (.int p3), .val (.int p4), .val (.int p5), .val (.int p6), .val (.ref b2), .val (.int (0 : Int32)), .val (.int (5 : Int32)), .val (.int ((nar .byte (p1.toInt8.toInt32)) &&& (255 : Int32))), .val (.int ((nar .byte (p2.toInt8.toInt32)) &&& (255 : Int32))), .unset, .unset, .unset]) rfl ?_
      show Steps p.tables e below (T12.setTop (mkF m 80 #[.val (.int p1), .val (.int p2), .val (.int p3), .val (.int p4), .val (.int p5), .val (.int p6), .val (.ref b2), .val (.int (0 : Int32)), .val (.int (5 : Int32)), .val (.int ((nar .byte (p1.toInt8.toInt32)) &&& (255 : Int32))), .val (.int ((nar .byte (p2.toInt8.toInt32)) &&& (255 : Int32))), .unset, .unset, .unset] [])) _
      refine XS.iload X12.here hx rfl (hb hby at_80) rfl ?_
      show Steps p.tables e below (T12.setTop (mkF m 82 #[.val (.int p1), .val (.int p2), .val (.int p3), .val (.int p4), .val (.int p5), .val (.int p6), .val (.ref b2), .val (.int (0 : Int32)), .val (.int (5 : Int32)), .val (.int ((nar .byte (p1.toInt8.toInt32)) &&& (255 : Int32))), .val (.int ((nar .byte (p2.toInt8.toInt32)) &&& (255 : Int32))), .unset, .unset, .unset] [(.int (5 : Int32))])) _
      refine XS.iconst X12.here hx rfl (hb hby at_82) ?_
      exact kt)
    have c83_23 : (2 : Int32) < (5 : Int32) := by decide
    have k25 : ∀ t, Steps p.tables e below (T12.setTop (mkF m 92 #[.val (.int p1), .val (.int p2), .val (.int p3), .val (.int p4), .val (.int p5), .val (.int p6), .val (.ref b2), .val (.int (0 : Int32)), .val (.int (5 : Int32)), .val (.int ((nar .byte (p1.toInt8.toInt32)) &&& (255 : Int32))), .val (.int ((nar .byte (p2.toInt8.toInt32)) &&& (255 : Int32))), .unset, .unset, .unset] [(.int (2 : Int32)), (.ref b2)])) t → Steps p.tables e below (s₁.setTop (mkF m 0 #[.val (.int p1), .val (.int p2), .val (.int p3), .val (.int p4), .val (.int p5), .val (.int p6), .unset, .unset, .unset, .unset, .unset, .unset, .unset, .unset] [])) t := fun t kt => k24 t (by
      show Steps p.tables e below (T12.setTop (mkF m 83 #[.val (.int p1), .val (.int p2), .val (.int p3), .val (.int p4), .val (.int p5), .val (.int p6), .val (.ref b2), .val (.int (0 : Int32)), .val (.int (5 : Int32)), .val (.int ((nar .byte (p1.toInt8.toInt32)) &&& (255 : Int32))), .val (.int ((nar .byte (p2.toInt8.toInt32)) &&& (255 : Int32))), .unset, .unset, .unset] [(.int (2 : Int32)), (.int (5 : Int32))])) _
      refine XS.icmpNo X12.here hx rfl (hb hby at_83) rfl (tlt c83_23).2.2.2 ?_
      show Steps p.tables e below (T12.setTop (mkF m 86 #[.val (.int p1), .val (.int p2), .val (.int p3), .val (.int p4), .val (.int p5), .val (.int p6), .val (.ref b2), .val (.int (0 : Int32)), .val (.int (5 : Int32)), .val (.int ((nar .byte (p1.toInt8.toInt32)) &&& (255 : Int32))), .val (.int ((nar .byte (p2.toInt8.toInt32)) &&& (255 : Int32))), .unset, .unset, .unset] [])) _
      refine XS.aload X12.here hx rfl (hb hby at_86) rfl rfl ?_
      show Steps p.tables e below (T12.setTop (mkF m 88 #[.val (.int p1), .val (.int p2), .val (.int p3), .val (.int p4), .val (.int p5), .val (.int p6), .val (.ref b2), .val (.int (0 : Int32)), .val (.int (5 : Int32)), .val (.int ((nar .byte (p1.toInt8.toInt32)) &&& (255 : Int32))), .val (.int ((nar .byte (p2.toInt8.toInt32)) &&& (255 : Int32))), .unset, .unset, .unset] [(.ref b2)])) _
      refine XS.iload X12.here hx rfl (hb hby at_88) rfl ?_
      show Steps p.tables e below (T12.setTop (mkF m 90 #[.val (.int p1), .val (.int p2), .val (.int p3), .val (.int p4), .val (.int p5), .val (.int p6), .val (.ref b2), .val (.int (0 : Int32)), .val (.int (5 : Int32)), .val (.int ((nar .byte (p1.toInt8.toInt32)) &&& (255 : Int32))), .val (.int ((nar .byte (p2.toInt8.toInt32)) &&& (255 : Int32))), .unset, .unset, .unset] [(.int (0 : Int32)), (.ref b2)])) _
      refine XS.iconst X12.here hx rfl (hb hby at_90) ?_
      show Steps p.tables e below (T12.setTop (mkF m 91 #[.val (.int p1), .val (.int p2), .val (.int p3), .val (.int p4), .val (.int p5), .val (.int p6), .val (.ref b2), .val (.int (0 : Int32)), .val (.int (5 : Int32)), .val (.int ((nar .byte (p1.toInt8.toInt32)) &&& (255 : Int32))), .val (.int ((nar .byte (p2.toInt8.toInt32)) &&& (255 : Int32))), .unset, .unset, .unset] [(.int (2 : Int32)), (.int (0 : Int32)), (.ref b2)])) _
      refine XS.iadd X12.here hx rfl (hb hby at_91) rfl ?_
      exact kt)
    obtain ⟨cl26, Ar26, q26, S26, N26', H26, G26⟩ := V21
    have hin26 : ¬ ((2 : Int32) < 0 ∨ cl26.slots.size ≤ ((2 : Int32)).toNatClampNeg) := inb_of S26 ⟨by decide, by decide⟩
    have hat26 : cl26.slots[((2 : Int32)).toNatClampNeg]? = some (.int (nar .byte (p3.toInt8.toInt32))) := H26.at hin26 rfl
    have V26 : Arv Z h12 b2 k2 .byte (5 : Int32) [(.int (nar .byte (p1.toInt8.toInt32))), (.int (nar .byte (p2.toInt8.toInt32))), (.int (nar .byte (p3.toInt8.toInt32))), (.int (nar .byte (p4.toInt8.toInt32))), (.int (nar .byte (p5.toInt8.toInt32)))] (.int (0 : Int32)) := ⟨cl26, Ar26, q26, S26, N26', H26, G26⟩
    have k27 : ∀ t, Steps p.tables e below (T12.setTop (mkF m 93 #[.val (.int p1), .val (.int p2), .val (.int p3), .val (.int p4), .val (.int p5), .val (.int p6), .val (.ref b2), .val (.int (0 : Int32)), .val (.int (5 : Int32)), .val (.int ((nar .byte (p1.toInt8.toInt32)) &&& (255 : Int32))), .val (.int ((nar .byte (p2.toInt8.toInt32)) &&& (255 : Int32))), .unset, .unset, .unset] [(.int (nar .byte (p3.toInt8.toInt32)))])) t → Steps p.tables e below (s₁.setTop (mkF m 0 #[.val (.int p1), .val (.int p2), .val (.int p3), .val (.int p4), .val (.int p5), .val (.int p6), .unset, .unset, .unset, .unset, .unset, .unset, .unset, .unset] [])) t := fun t kt => k25 t (by
      show Steps p.tables e below (T12.setTop (mkF m 92 #[.val (.int p1), .val (.int p2), .val (.int p3), .val (.int p4), .val (.int p5), .val (.int p6), .val (.ref b2), .val (.int (0 : Int32)), .val (.int (5 : Int32)), .val (.int ((nar .byte (p1.toInt8.toInt32)) &&& (255 : Int32))), .val (.int ((nar .byte (p2.toInt8.toInt32)) &&& (255 : Int32))), .unset, .unset, .unset] [(.int (2 : Int32)), (.ref b2)])) _
      refine X12.baloadBytes hx (j := (2 : Int32)) (v := (.int (nar .byte (p3.toInt8.toInt32)))) (by rw [e12]; exact Ar26.1) (State.isArrayOf_alike hZ.alike Ar26.2.1) Ar26.2.2 hin26 hat26 (g := (mkF m 92 #[.val (.int p1), .val (.int p2), .val (.int p3), .val (.int p4), .val (.int p5), .val (.int p6), .val (.ref b2), .val (.int (0 : Int32)), .val (.int (5 : Int32)), .val (.int ((nar .byte (p1.toInt8.toInt32)) &&& (255 : Int32))), .val (.int ((nar .byte (p2.toInt8.toInt32)) &&& (255 : Int32))), .unset, .unset, .unset] [(.int (2 : Int32)), (.ref b2)])) rfl rfl (hb hby at_92) _ ?_
      exact kt)
    have k29 : ∀ t, Steps p.tables e below (T12.setTop (mkF m 106 #[.val (.int p1), .val (.int p2), .val (.int p3), .val (.int p4), .val (.int p5), .val (.int p6), .val (.ref b2), .val (.int (0 : Int32)), .val (.int (5 : Int32)), .val (.int ((nar .byte (p1.toInt8.toInt32)) &&& (255 : Int32))), .val (.int ((nar .byte (p2.toInt8.toInt32)) &&& (255 : Int32))), .val (.int ((nar .byte (p3.toInt8.toInt32)) &&& (255 : Int32))), .unset, .unset] [(.int (3 : Int32)), (.int (5 : Int32))])) t → Steps p.tables e below (s₁.setTop (mkF m 0 #[.val (.int p1), .val (.int p2), .val (.int p3), .val (.int p4), .val (.int p5), .val (.int p6), .unset, .unset, .unset, .unset, .unset, .unset, .unset, .unset] [])) t := fun t kt => k27 t (by
      show Steps p.tables e below (T12.setTop (mkF m 93 #[.val (.int p1), .val (.int p2), .val (.int p3), .val (.int p4), .val (.int p5), .val (.int p6), .val (.ref b2), .val (.int (0 : Int32)), .val (.int (5 : Int32)), .val (.int ((nar .byte (p1.toInt8.toInt32)) &&& (255 : Int32))), .val (.int ((nar .byte (p2.toInt8.toInt32)) &&& (255 : Int32))), .unset, .unset, .unset] [(.int (nar .byte (p3.toInt8.toInt32)))])) _
      refine XS.sipush X12.here hx rfl (hb hby at_93) ?_
      show Steps p.tables e below (T12.setTop (mkF m 96 #[.val (.int p1), .val (.int p2), .val (.int p3), .val (.int p4), .val (.int p5), .val (.int p6), .val (.ref b2), .val (.int (0 : Int32)), .val (.int (5 : Int32)), .val (.int ((nar .byte (p1.toInt8.toInt32)) &&& (255 : Int32))), .val (.int ((nar .byte (p2.toInt8.toInt32)) &&& (255 : Int32))), .unset, .unset, .unset] [(.int (255 : Int32)), (.int (nar .byte (p3.toInt8.toInt32)))])) _
      refine XS.iand X12.here hx rfl (hb hby at_96) rfl ?_
      show Steps p.tables e below (T12.setTop (mkF m 97 #[.val (.int p1), .val (.int p2), .val (.int p3), .val (.int p4), .val (.int p5), .val (.int p6), .val (.ref b2), .val (.int (0 : Int32)), .val (.int (5 : Int32)), .val (.int ((nar .byte (p1.toInt8.toInt32)) &&& (255 : Int32))), .val (.int ((nar .byte (p2.toInt8.toInt32)) &&& (255 : Int32))), .unset, .unset, .unset] [(.int ((nar .byte (p3.toInt8.toInt32)) &&& (255 : Int32)))])) _
      refine XS.goto X12.here hx rfl (pc0 := 97) (pc' := 101) rfl (hb hby at_97) (by decide) (by decide) ?_
      show Steps p.tables e below (T12.setTop (mkF m 101 #[.val (.int p1), .val (.int p2), .val (.int p3), .val (.int p4), .val (.int p5), .val (.int p6), .val (.ref b2), .val (.int (0 : Int32)), .val (.int (5 : Int32)), .val (.int ((nar .byte (p1.toInt8.toInt32)) &&& (255 : Int32))), .val (.int ((nar .byte (p2.toInt8.toInt32)) &&& (255 : Int32))), .unset, .unset, .unset] [(.int ((nar .byte (p3.toInt8.toInt32)) &&& (255 : Int32)))])) _
      refine XS.istore X12.here hx rfl (hb hby at_101) rfl (l' := #[.val (.int p1), .val (.int p2), .val (.int p3), .val (.int p4), .val (.int p5), .val (.int p6), .val (.ref b2), .val (.int (0 : Int32)), .val (.int (5 : Int32)), .val (.int ((nar .byte (p1.toInt8.toInt32)) &&& (255 : Int32))), .val (.int ((nar .byte (p2.toInt8.toInt32)) &&& (255 : Int32))), .val (.int ((nar .byte (p3.toInt8.toInt32)) &&& (255 : Int32))), .unset, .unset]) rfl ?_
      show Steps p.tables e below (T12.setTop (mkF m 103 #[.val (.int p1), .val (.int p2), .val (.int p3), .val (.int p4), .val (.int p5), .val (.int p6), .val (.ref b2), .val (.int (0 : Int32)), .val (.int (5 : Int32)), .val (.int ((nar .byte (p1.toInt8.toInt32)) &&& (255 : Int32))), .val (.int ((nar .byte (p2.toInt8.toInt32)) &&& (255 : Int32))), .val (.int ((nar .byte (p3.toInt8.toInt32)) &&& (255 : Int32))), .unset, .unset] [])) _
      refine XS.iload X12.here hx rfl (hb hby at_103) rfl ?_
      show Steps p.tables e below (T12.setTop (mkF m 105 #[.val (.int p1), .val (.int p2), .val (.int p3), .val (.int p4), .val (.int p5), .val (.int p6), .val (.ref b2), .val (.int (0 : Int32)), .val (.int (5 : Int32)), .val (.int ((nar .byte (p1.toInt8.toInt32)) &&& (255 : Int32))), .val (.int ((nar .byte (p2.toInt8.toInt32)) &&& (255 : Int32))), .val (.int ((nar .byte (p3.toInt8.toInt32)) &&& (255 : Int32))), .unset, .unset] [(.int (5 : Int32))])) _
      refine XS.iconst X12.here hx rfl (hb hby at_105) ?_
      exact kt)
    have c106_28 : (3 : Int32) < (5 : Int32) := by decide
    have k30 : ∀ t, Steps p.tables e below (T12.setTop (mkF m 115 #[.val (.int p1), .val (.int p2), .val (.int p3), .val (.int p4), .val (.int p5), .val (.int p6), .val (.ref b2), .val (.int (0 : Int32)), .val (.int (5 : Int32)), .val (.int ((nar .byte (p1.toInt8.toInt32)) &&& (255 : Int32))), .val (.int ((nar .byte (p2.toInt8.toInt32)) &&& (255 : Int32))), .val (.int ((nar .byte (p3.toInt8.toInt32)) &&& (255 : Int32))), .unset, .unset] [(.int (3 : Int32)), (.ref b2)])) t → Steps p.tables e below (s₁.setTop (mkF m 0 #[.val (.int p1), .val (.int p2), .val (.int p3), .val (.int p4), .val (.int p5), .val (.int p6), .unset, .unset, .unset, .unset, .unset, .unset, .unset, .unset] [])) t := fun t kt => k29 t (by
      show Steps p.tables e below (T12.setTop (mkF m 106 #[.val (.int p1), .val (.int p2), .val (.int p3), .val (.int p4), .val (.int p5), .val (.int p6), .val (.ref b2), .val (.int (0 : Int32)), .val (.int (5 : Int32)), .val (.int ((nar .byte (p1.toInt8.toInt32)) &&& (255 : Int32))), .val (.int ((nar .byte (p2.toInt8.toInt32)) &&& (255 : Int32))), .val (.int ((nar .byte (p3.toInt8.toInt32)) &&& (255 : Int32))), .unset, .unset] [(.int (3 : Int32)), (.int (5 : Int32))])) _
      refine XS.icmpNo X12.here hx rfl (hb hby at_106) rfl (tlt c106_28).2.2.2 ?_
      show Steps p.tables e below (T12.setTop (mkF m 109 #[.val (.int p1), .val (.int p2), .val (.int p3), .val (.int p4), .val (.int p5), .val (.int p6), .val (.ref b2), .val (.int (0 : Int32)), .val (.int (5 : Int32)), .val (.int ((nar .byte (p1.toInt8.toInt32)) &&& (255 : Int32))), .val (.int ((nar .byte (p2.toInt8.toInt32)) &&& (255 : Int32))), .val (.int ((nar .byte (p3.toInt8.toInt32)) &&& (255 : Int32))), .unset, .unset] [])) _
      refine XS.aload X12.here hx rfl (hb hby at_109) rfl rfl ?_
      show Steps p.tables e below (T12.setTop (mkF m 111 #[.val (.int p1), .val (.int p2), .val (.int p3), .val (.int p4), .val (.int p5), .val (.int p6), .val (.ref b2), .val (.int (0 : Int32)), .val (.int (5 : Int32)), .val (.int ((nar .byte (p1.toInt8.toInt32)) &&& (255 : Int32))), .val (.int ((nar .byte (p2.toInt8.toInt32)) &&& (255 : Int32))), .val (.int ((nar .byte (p3.toInt8.toInt32)) &&& (255 : Int32))), .unset, .unset] [(.ref b2)])) _
      refine XS.iload X12.here hx rfl (hb hby at_111) rfl ?_
      show Steps p.tables e below (T12.setTop (mkF m 113 #[.val (.int p1), .val (.int p2), .val (.int p3), .val (.int p4), .val (.int p5), .val (.int p6), .val (.ref b2), .val (.int (0 : Int32)), .val (.int (5 : Int32)), .val (.int ((nar .byte (p1.toInt8.toInt32)) &&& (255 : Int32))), .val (.int ((nar .byte (p2.toInt8.toInt32)) &&& (255 : Int32))), .val (.int ((nar .byte (p3.toInt8.toInt32)) &&& (255 : Int32))), .unset, .unset] [(.int (0 : Int32)), (.ref b2)])) _
      refine XS.iconst X12.here hx rfl (hb hby at_113) ?_
      show Steps p.tables e below (T12.setTop (mkF m 114 #[.val (.int p1), .val (.int p2), .val (.int p3), .val (.int p4), .val (.int p5), .val (.int p6), .val (.ref b2), .val (.int (0 : Int32)), .val (.int (5 : Int32)), .val (.int ((nar .byte (p1.toInt8.toInt32)) &&& (255 : Int32))), .val (.int ((nar .byte (p2.toInt8.toInt32)) &&& (255 : Int32))), .val (.int ((nar .byte (p3.toInt8.toInt32)) &&& (255 : Int32))), .unset, .unset] [(.int (3 : Int32)), (.int (0 : Int32)), (.ref b2)])) _
      refine XS.iadd X12.here hx rfl (hb hby at_114) rfl ?_
      exact kt)
    obtain ⟨cl31, Ar31, q31, S31, N31', H31, G31⟩ := V26
    have hin31 : ¬ ((3 : Int32) < 0 ∨ cl31.slots.size ≤ ((3 : Int32)).toNatClampNeg) := inb_of S31 ⟨by decide, by decide⟩
    have hat31 : cl31.slots[((3 : Int32)).toNatClampNeg]? = some (.int (nar .byte (p4.toInt8.toInt32))) := H31.at hin31 rfl
    have V31 : Arv Z h12 b2 k2 .byte (5 : Int32) [(.int (nar .byte (p1.toInt8.toInt32))), (.int (nar .byte (p2.toInt8.toInt32))), (.int (nar .byte (p3.toInt8.toInt32))), (.int (nar .byte (p4.toInt8.toInt32))), (.int (nar .byte (p5.toInt8.toInt32)))] (.int (0 : Int32)) := ⟨cl31, Ar31, q31, S31, N31', H31, G31⟩
    have k32 : ∀ t, Steps p.tables e below (T12.setTop (mkF m 116 #[.val (.int p1), .val (.int p2), .val (.int p3), .val (.int p4), .val (.int p5), .val (.int p6), .val (.ref b2), .val (.int (0 : Int32)), .val (.int (5 : Int32)), .val (.int ((nar .byte (p1.toInt8.toInt32)) &&& (255 : Int32))), .val (.int ((nar .byte (p2.toInt8.toInt32)) &&& (255 : Int32))), .val (.int ((nar .byte (p3.toInt8.toInt32)) &&& (255 : Int32))), .unset, .unset] [(.int (nar .byte (p4.toInt8.toInt32)))])) t → Steps p.tables e below (s₁.setTop (mkF m 0 #[.val (.int p1), .val (.int p2), .val (.int p3), .val (.int p4), .val (.int p5), .val (.int p6), .unset, .unset, .unset, .unset, .unset, .unset, .unset, .unset] [])) t := fun t kt => k30 t (by
      show Steps p.tables e below (T12.setTop (mkF m 115 #[.val (.int p1), .val (.int p2), .val (.int p3), .val (.int p4), .val (.int p5), .val (.int p6), .val (.ref b2), .val (.int (0 : Int32)), .val (.int (5 : Int32)), .val (.int ((nar .byte (p1.toInt8.toInt32)) &&& (255 : Int32))), .val (.int ((nar .byte (p2.toInt8.toInt32)) &&& (255 : Int32))), .val (.int ((nar .byte (p3.toInt8.toInt32)) &&& (255 : Int32))), .unset, .unset] [(.int (3 : Int32)), (.ref b2)])) _
      refine X12.baloadBytes hx (j := (3 : Int32)) (v := (.int (nar .byte (p4.toInt8.toInt32)))) (by rw [e12]; exact Ar31.1) (State.isArrayOf_alike hZ.alike Ar31.2.1) Ar31.2.2 hin31 hat31 (g := (mkF m 115 #[.val (.int p1), .val (.int p2), .val (.int p3), .val (.int p4), .val (.int p5), .val (.int p6), .val (.ref b2), .val (.int (0 : Int32)), .val (.int (5 : Int32)), .val (.int ((nar .byte (p1.toInt8.toInt32)) &&& (255 : Int32))), .val (.int ((nar .byte (p2.toInt8.toInt32)) &&& (255 : Int32))), .val (.int ((nar .byte (p3.toInt8.toInt32)) &&& (255 : Int32))), .unset, .unset] [(.int (3 : Int32)), (.ref b2)])) rfl rfl (hb hby at_115) _ ?_
      exact kt)
    have k33 : ∀ t, Steps p.tables e below (T12.setTop (mkF m 138 #[.val (.int p1), .val (.int p2), .val (.int p3), .val (.int p4), .val (.int p5), .val (.int p6), .val (.ref b2), .val (.int (0 : Int32)), .val (.int (5 : Int32)), .val (.int ((nar .byte (p1.toInt8.toInt32)) &&& (255 : Int32))), .val (.int ((nar .byte (p2.toInt8.toInt32)) &&& (255 : Int32))), .val (.int ((nar .byte (p3.toInt8.toInt32)) &&& (255 : Int32))), .val (.int ((nar .byte (p4.toInt8.toInt32)) &&& (255 : Int32))), .unset] [(.int (0 : Int32)), (.int (5 : Int32)), (.int ((nar .byte (p4.toInt8.toInt32)) &&& (255 : Int32))), (.int ((nar .byte (p3.toInt8.toInt32)) &&& (255 : Int32))), (.int ((nar .byte (p2.toInt8.toInt32)) &&& (255 : Int32))), (.int ((nar .byte (p1.toInt8.toInt32)) &&& (255 : Int32)))])) t → Steps p.tables e below (s₁.setTop (mkF m 0 #[.val (.int p1), .val (.int p2), .val (.int p3), .val (.int p4), .val (.int p5), .val (.int p6), .unset, .unset, .unset, .unset, .unset, .unset, .unset, .unset] [])) t := fun t kt => k32 t (by
      show Steps p.tables e below (T12.setTop (mkF m 116 #[.val (.int p1), .val (.int p2), .val (.int p3), .val (.int p4), .val (.int p5), .val (.int p6), .val (.ref b2), .val (.int (0 : Int32)), .val (.int (5 : Int32)), .val (.int ((nar .byte (p1.toInt8.toInt32)) &&& (255 : Int32))), .val (.int ((nar .byte (p2.toInt8.toInt32)) &&& (255 : Int32))), .val (.int ((nar .byte (p3.toInt8.toInt32)) &&& (255 : Int32))), .unset, .unset] [(.int (nar .byte (p4.toInt8.toInt32)))])) _
      refine XS.sipush X12.here hx rfl (hb hby at_116) ?_
      show Steps p.tables e below (T12.setTop (mkF m 119 #[.val (.int p1), .val (.int p2), .val (.int p3), .val (.int p4), .val (.int p5), .val (.int p6), .val (.ref b2), .val (.int (0 : Int32)), .val (.int (5 : Int32)), .val (.int ((nar .byte (p1.toInt8.toInt32)) &&& (255 : Int32))), .val (.int ((nar .byte (p2.toInt8.toInt32)) &&& (255 : Int32))), .val (.int ((nar .byte (p3.toInt8.toInt32)) &&& (255 : Int32))), .unset, .unset] [(.int (255 : Int32)), (.int (nar .byte (p4.toInt8.toInt32)))])) _
      refine XS.iand X12.here hx rfl (hb hby at_119) rfl ?_
      show Steps p.tables e below (T12.setTop (mkF m 120 #[.val (.int p1), .val (.int p2), .val (.int p3), .val (.int p4), .val (.int p5), .val (.int p6), .val (.ref b2), .val (.int (0 : Int32)), .val (.int (5 : Int32)), .val (.int ((nar .byte (p1.toInt8.toInt32)) &&& (255 : Int32))), .val (.int ((nar .byte (p2.toInt8.toInt32)) &&& (255 : Int32))), .val (.int ((nar .byte (p3.toInt8.toInt32)) &&& (255 : Int32))), .unset, .unset] [(.int ((nar .byte (p4.toInt8.toInt32)) &&& (255 : Int32)))])) _
      refine XS.goto X12.here hx rfl (pc0 := 120) (pc' := 124) rfl (hb hby at_120) (by decide) (by decide) ?_
      show Steps p.tables e below (T12.setTop (mkF m 124 #[.val (.int p1), .val (.int p2), .val (.int p3), .val (.int p4), .val (.int p5), .val (.int p6), .val (.ref b2), .val (.int (0 : Int32)), .val (.int (5 : Int32)), .val (.int ((nar .byte (p1.toInt8.toInt32)) &&& (255 : Int32))), .val (.int ((nar .byte (p2.toInt8.toInt32)) &&& (255 : Int32))), .val (.int ((nar .byte (p3.toInt8.toInt32)) &&& (255 : Int32))), .unset, .unset] [(.int ((nar .byte (p4.toInt8.toInt32)) &&& (255 : Int32)))])) _
      refine XS.istore X12.here hx rfl (hb hby at_124) rfl (l' := #[.val (.int p1), .val (.int p2), .val (.int p3), .val (.int p4), .val (.int p5), .val (.int p6), .val (.ref b2), .val (.int (0 : Int32)), .val (.int (5 : Int32)), .val (.int ((nar .byte (p1.toInt8.toInt32)) &&& (255 : Int32))), .val (.int ((nar .byte (p2.toInt8.toInt32)) &&& (255 : Int32))), .val (.int ((nar .byte (p3.toInt8.toInt32)) &&& (255 : Int32))), .val (.int ((nar .byte (p4.toInt8.toInt32)) &&& (255 : Int32))), .unset]) rfl ?_
      show Steps p.tables e below (T12.setTop (mkF m 126 #[.val (.int p1), .val (.int p2), .val (.int p3), .val (.int p4), .val (.int p5), .val (.int p6), .val (.ref b2), .val (.int (0 : Int32)), .val (.int (5 : Int32)), .val (.int ((nar .byte (p1.toInt8.toInt32)) &&& (255 : Int32))), .val (.int ((nar .byte (p2.toInt8.toInt32)) &&& (255 : Int32))), .val (.int ((nar .byte (p3.toInt8.toInt32)) &&& (255 : Int32))), .val (.int ((nar .byte (p4.toInt8.toInt32)) &&& (255 : Int32))), .unset] [])) _
      refine XS.iload X12.here hx rfl (hb hby at_126) rfl ?_
      show Steps p.tables e below (T12.setTop (mkF m 128 #[.val (.int p1), .val (.int p2), .val (.int p3), .val (.int p4), .val (.int p5), .val (.int p6), .val (.ref b2), .val (.int (0 : Int32)), .val (.int (5 : Int32)), .val (.int ((nar .byte (p1.toInt8.toInt32)) &&& (255 : Int32))), .val (.int ((nar .byte (p2.toInt8.toInt32)) &&& (255 : Int32))), .val (.int ((nar .byte (p3.toInt8.toInt32)) &&& (255 : Int32))), .val (.int ((nar .byte (p4.toInt8.toInt32)) &&& (255 : Int32))), .unset] [(.int ((nar .byte (p1.toInt8.toInt32)) &&& (255 : Int32)))])) _
      refine XS.iload X12.here hx rfl (hb hby at_128) rfl ?_
      show Steps p.tables e below (T12.setTop (mkF m 130 #[.val (.int p1), .val (.int p2), .val (.int p3), .val (.int p4), .val (.int p5), .val (.int p6), .val (.ref b2), .val (.int (0 : Int32)), .val (.int (5 : Int32)), .val (.int ((nar .byte (p1.toInt8.toInt32)) &&& (255 : Int32))), .val (.int ((nar .byte (p2.toInt8.toInt32)) &&& (255 : Int32))), .val (.int ((nar .byte (p3.toInt8.toInt32)) &&& (255 : Int32))), .val (.int ((nar .byte (p4.toInt8.toInt32)) &&& (255 : Int32))), .unset] [(.int ((nar .byte (p2.toInt8.toInt32)) &&& (255 : Int32))), (.int ((nar .byte (p1.toInt8.toInt32)) &&& (255 : Int32)))])) _
      refine XS.iload X12.here hx rfl (hb hby at_130) rfl ?_
      show Steps p.tables e below (T12.setTop (mkF m 132 #[.val (.int p1), .val (.int p2), .val (.int p3), .val (.int p4), .val (.int p5), .val (.int p6), .val (.ref b2), .val (.int (0 : Int32)), .val (.int (5 : Int32)), .val (.int ((nar .byte (p1.toInt8.toInt32)) &&& (255 : Int32))), .val (.int ((nar .byte (p2.toInt8.toInt32)) &&& (255 : Int32))), .val (.int ((nar .byte (p3.toInt8.toInt32)) &&& (255 : Int32))), .val (.int ((nar .byte (p4.toInt8.toInt32)) &&& (255 : Int32))), .unset] [(.int ((nar .byte (p3.toInt8.toInt32)) &&& (255 : Int32))), (.int ((nar .byte (p2.toInt8.toInt32)) &&& (255 : Int32))), (.int ((nar .byte (p1.toInt8.toInt32)) &&& (255 : Int32)))])) _
      refine XS.iload X12.here hx rfl (hb hby at_132) rfl ?_
      show Steps p.tables e below (T12.setTop (mkF m 134 #[.val (.int p1), .val (.int p2), .val (.int p3), .val (.int p4), .val (.int p5), .val (.int p6), .val (.ref b2), .val (.int (0 : Int32)), .val (.int (5 : Int32)), .val (.int ((nar .byte (p1.toInt8.toInt32)) &&& (255 : Int32))), .val (.int ((nar .byte (p2.toInt8.toInt32)) &&& (255 : Int32))), .val (.int ((nar .byte (p3.toInt8.toInt32)) &&& (255 : Int32))), .val (.int ((nar .byte (p4.toInt8.toInt32)) &&& (255 : Int32))), .unset] [(.int ((nar .byte (p4.toInt8.toInt32)) &&& (255 : Int32))), (.int ((nar .byte (p3.toInt8.toInt32)) &&& (255 : Int32))), (.int ((nar .byte (p2.toInt8.toInt32)) &&& (255 : Int32))), (.int ((nar .byte (p1.toInt8.toInt32)) &&& (255 : Int32)))])) _
      refine XS.iload X12.here hx rfl (hb hby at_134) rfl ?_
      show Steps p.tables e below (T12.setTop (mkF m 136 #[.val (.int p1), .val (.int p2), .val (.int p3), .val (.int p4), .val (.int p5), .val (.int p6), .val (.ref b2), .val (.int (0 : Int32)), .val (.int (5 : Int32)), .val (.int ((nar .byte (p1.toInt8.toInt32)) &&& (255 : Int32))), .val (.int ((nar .byte (p2.toInt8.toInt32)) &&& (255 : Int32))), .val (.int ((nar .byte (p3.toInt8.toInt32)) &&& (255 : Int32))), .val (.int ((nar .byte (p4.toInt8.toInt32)) &&& (255 : Int32))), .unset] [(.int (5 : Int32)), (.int ((nar .byte (p4.toInt8.toInt32)) &&& (255 : Int32))), (.int ((nar .byte (p3.toInt8.toInt32)) &&& (255 : Int32))), (.int ((nar .byte (p2.toInt8.toInt32)) &&& (255 : Int32))), (.int ((nar .byte (p1.toInt8.toInt32)) &&& (255 : Int32)))])) _
      refine XS.iload X12.here hx rfl (hb hby at_136) rfl ?_
      exact kt)
    obtain ⟨_, _, ⟨T34, L34, k34', n34⟩, -, X34, ⟨Lc34, hQ34, l34, y34, z34⟩, st34⟩ := Jvm.LawKit.callS X12 hx (y := (⟨"com/example/hemawire/hemawire/serve/TextFilesCharacterEndPinLaw", "expectedEnd", "(IIIIII)I"⟩ : MethodName)) hown (mvT hZ (hw _ (List.mem_of_getElem? (i := 2) rfl))) (mvT hZ (hw _ (List.mem_of_getElem? (i := 3) rfl))) (mvT hZ (hw _ (List.mem_of_getElem? (i := 4) rfl))) (mvT hZ (hw _ (List.mem_of_getElem? (i := 5) rfl))) (by decide) (backOf (W := 0) (rm1 l Z a0 hw [] ((nar .byte (p1.toInt8.toInt32)) &&& (255 : Int32)) ((nar .byte (p2.toInt8.toInt32)) &&& (255 : Int32)) ((nar .byte (p3.toInt8.toInt32)) &&& (255 : Int32)) ((nar .byte (p4.toInt8.toInt32)) &&& (255 : Int32)) (5 : Int32) (0 : Int32) h12 n0 Z12) hZ (hw _ (List.mem_of_getElem? (i := 5) rfl)) (hw _ (List.mem_of_getElem? (i := 4) rfl)) (by decide) (by decide)) (g := (mkF m 138 #[.val (.int p1), .val (.int p2), .val (.int p3), .val (.int p4), .val (.int p5), .val (.int p6), .val (.ref b2), .val (.int (0 : Int32)), .val (.int (5 : Int32)), .val (.int ((nar .byte (p1.toInt8.toInt32)) &&& (255 : Int32))), .val (.int ((nar .byte (p2.toInt8.toInt32)) &&& (255 : Int32))), .val (.int ((nar .byte (p3.toInt8.toInt32)) &&& (255 : Int32))), .val (.int ((nar .byte (p4.toInt8.toInt32)) &&& (255 : Int32))), .unset] [(.int (0 : Int32)), (.int (5 : Int32)), (.int ((nar .byte (p4.toInt8.toInt32)) &&& (255 : Int32))), (.int ((nar .byte (p3.toInt8.toInt32)) &&& (255 : Int32))), (.int ((nar .byte (p2.toInt8.toInt32)) &&& (255 : Int32))), (.int ((nar .byte (p1.toInt8.toInt32)) &&& (255 : Int32)))])) rfl (by rw [hml]; rfl) (argsL := [(.int ((nar .byte (p1.toInt8.toInt32)) &&& (255 : Int32))), (.int ((nar .byte (p2.toInt8.toInt32)) &&& (255 : Int32))), (.int ((nar .byte (p3.toInt8.toInt32)) &&& (255 : Int32))), (.int ((nar .byte (p4.toInt8.toInt32)) &&& (255 : Int32))), (.int (5 : Int32)), (.int (0 : Int32))]) (rest := []) (lenOf pd0_0 rfl) rfl (by show 2 * 0 + _ ≤ _; exact Nat.le_of_eq rfl) (hb hby at_138) (fun _ _ => ⟨rfl, e12, (by decide : 1 + 0 ≤ _), (by decide : 5 + 0 ≤ _)⟩)
    dsimp only [Pt.U, Pt.locs, Pt.cells, Pt.slots] at X34 l34 y34 z34 st34 hQ34
    subst l34 y34 z34
    obtain ⟨rfl, N34q, hh34⟩ := hQ34
    have N34 := Fr.app N12 N34q
    have k35 : ∀ t, Steps p.tables e below (T34.setTop (mkF m 147 #[.val (.int p1), .val (.int p2), .val (.int p3), .val (.int p4), .val (.int p5), .val (.int p6), .val (.ref b2), .val (.int (0 : Int32)), .val (.int (5 : Int32)), .val (.int ((nar .byte (p1.toInt8.toInt32)) &&& (255 : Int32))), .val (.int ((nar .byte (p2.toInt8.toInt32)) &&& (255 : Int32))), .val (.int ((nar .byte (p3.toInt8.toInt32)) &&& (255 : Int32))), .val (.int ((nar .byte (p4.toInt8.toInt32)) &&& (255 : Int32))), .val (.int (sp1 ((nar .byte (p1.toInt8.toInt32)) &&& (255 : Int32)) ((nar .byte (p2.toInt8.toInt32)) &&& (255 : Int32)) ((nar .byte (p3.toInt8.toInt32)) &&& (255 : Int32)) ((nar .byte (p4.toInt8.toInt32)) &&& (255 : Int32)) (5 : Int32) (0 : Int32)))] [(.int (0 : Int32)), (.ref b2)])) t → Steps p.tables e below (s₁.setTop (mkF m 0 #[.val (.int p1), .val (.int p2), .val (.int p3), .val (.int p4), .val (.int p5), .val (.int p6), .unset, .unset, .unset, .unset, .unset, .unset, .unset, .unset] [])) t := fun t kt => k33 t (by
      show Steps p.tables e below (T12.setTop (mkF m 138 #[.val (.int p1), .val (.int p2), .val (.int p3), .val (.int p4), .val (.int p5), .val (.int p6), .val (.ref b2), .val (.int (0 : Int32)), .val (.int (5 : Int32)), .val (.int ((nar .byte (p1.toInt8.toInt32)) &&& (255 : Int32))), .val (.int ((nar .byte (p2.toInt8.toInt32)) &&& (255 : Int32))), .val (.int ((nar .byte (p3.toInt8.toInt32)) &&& (255 : Int32))), .val (.int ((nar .byte (p4.toInt8.toInt32)) &&& (255 : Int32))), .unset] [(.int (0 : Int32)), (.int (5 : Int32)), (.int ((nar .byte (p4.toInt8.toInt32)) &&& (255 : Int32))), (.int ((nar .byte (p3.toInt8.toInt32)) &&& (255 : Int32))), (.int ((nar .byte (p2.toInt8.toInt32)) &&& (255 : Int32))), (.int ((nar .byte (p1.toInt8.toInt32)) &&& (255 : Int32)))])) _
      refine st34 _ ?_
      show Steps p.tables e below (T34.setTop (mkF m 141 #[.val (.int p1), .val (.int p2), .val (.int p3), .val (.int p4), .val (.int p5), .val (.int p6), .val (.ref b2), .val (.int (0 : Int32)), .val (.int (5 : Int32)), .val (.int ((nar .byte (p1.toInt8.toInt32)) &&& (255 : Int32))), .val (.int ((nar .byte (p2.toInt8.toInt32)) &&& (255 : Int32))), .val (.int ((nar .byte (p3.toInt8.toInt32)) &&& (255 : Int32))), .val (.int ((nar .byte (p4.toInt8.toInt32)) &&& (255 : Int32))), .unset] [(.int (sp1 ((nar .byte (p1.toInt8.toInt32)) &&& (255 : Int32)) ((nar .byte (p2.toInt8.toInt32)) &&& (255 : Int32)) ((nar .byte (p3.toInt8.toInt32)) &&& (255 : Int32)) ((nar .byte (p4.toInt8.toInt32)) &&& (255 : Int32)) (5 : Int32) (0 : Int32)))])) _
      refine XS.istore X34.here hx rfl (hb hby at_141) rfl (l' := #[.val (.int p1), .val (.int p2), .val (.int p3), .val (.int p4), .val (.int p5), .val (.int p6), .val (.ref b2), .val (.int (0 : Int32)), .val (.int (5 : Int32)), .val (.int ((nar .byte (p1.toInt8.toInt32)) &&& (255 : Int32))), .val (.int ((nar .byte (p2.toInt8.toInt32)) &&& (255 : Int32))), .val (.int ((nar .byte (p3.toInt8.toInt32)) &&& (255 : Int32))), .val (.int ((nar .byte (p4.toInt8.toInt32)) &&& (255 : Int32))), .val (.int (sp1 ((nar .byte (p1.toInt8.toInt32)) &&& (255 : Int32)) ((nar .byte (p2.toInt8.toInt32)) &&& (255 : Int32)) ((nar .byte (p3.toInt8.toInt32)) &&& (255 : Int32)) ((nar .byte (p4.toInt8.toInt32)) &&& (255 : Int32)) (5 : Int32) (0 : Int32)))]) rfl ?_
      show Steps p.tables e below (T34.setTop (mkF m 143 #[.val (.int p1), .val (.int p2), .val (.int p3), .val (.int p4), .val (.int p5), .val (.int p6), .val (.ref b2), .val (.int (0 : Int32)), .val (.int (5 : Int32)), .val (.int ((nar .byte (p1.toInt8.toInt32)) &&& (255 : Int32))), .val (.int ((nar .byte (p2.toInt8.toInt32)) &&& (255 : Int32))), .val (.int ((nar .byte (p3.toInt8.toInt32)) &&& (255 : Int32))), .val (.int ((nar .byte (p4.toInt8.toInt32)) &&& (255 : Int32))), .val (.int (sp1 ((nar .byte (p1.toInt8.toInt32)) &&& (255 : Int32)) ((nar .byte (p2.toInt8.toInt32)) &&& (255 : Int32)) ((nar .byte (p3.toInt8.toInt32)) &&& (255 : Int32)) ((nar .byte (p4.toInt8.toInt32)) &&& (255 : Int32)) (5 : Int32) (0 : Int32)))] [])) _
      refine XS.aload X34.here hx rfl (hb hby at_143) rfl rfl ?_
      show Steps p.tables e below (T34.setTop (mkF m 145 #[.val (.int p1), .val (.int p2), .val (.int p3), .val (.int p4), .val (.int p5), .val (.int p6), .val (.ref b2), .val (.int (0 : Int32)), .val (.int (5 : Int32)), .val (.int ((nar .byte (p1.toInt8.toInt32)) &&& (255 : Int32))), .val (.int ((nar .byte (p2.toInt8.toInt32)) &&& (255 : Int32))), .val (.int ((nar .byte (p3.toInt8.toInt32)) &&& (255 : Int32))), .val (.int ((nar .byte (p4.toInt8.toInt32)) &&& (255 : Int32))), .val (.int (sp1 ((nar .byte (p1.toInt8.toInt32)) &&& (255 : Int32)) ((nar .byte (p2.toInt8.toInt32)) &&& (255 : Int32)) ((nar .byte (p3.toInt8.toInt32)) &&& (255 : Int32)) ((nar .byte (p4.toInt8.toInt32)) &&& (255 : Int32)) (5 : Int32) (0 : Int32)))] [(.ref b2)])) _
      refine XS.iload X34.here hx rfl (hb hby at_145) rfl ?_
      exact kt)
    obtain ⟨_, _, ⟨T36, L36, k36', n36⟩, -, X36, ⟨Lc36, hQ36, l36, y36, z36⟩, st36⟩ := Jvm.LawKit.callS X34 hx (y := (⟨"com/example/hemawire/hemawire/serve/TextFiles", "characterEnd", "([BI)I"⟩ : MethodName)) hown (mvT hZ (hw _ (List.mem_of_getElem? (i := 6) rfl))) (mvT hZ (hw _ (List.mem_of_getElem? (i := 7) rfl))) (mvT hZ (hw _ (List.mem_of_getElem? (i := 8) rfl))) (mvT hZ (hw _ (List.mem_of_getElem? (i := 9) rfl))) (by decide) (backOf (W := 0) (rm2 l Z a0 hw [] b2 (0 : Int32) (nar .byte (p1.toInt8.toInt32)) (nar .byte (p2.toInt8.toInt32)) (nar .byte (p3.toInt8.toInt32)) (nar .byte (p4.toInt8.toInt32)) (nar .byte (p5.toInt8.toInt32)) k2 h12 n0 Z12 V31 (by decide)) hZ (hw _ (List.mem_of_getElem? (i := 9) rfl)) (hw _ (List.mem_of_getElem? (i := 8) rfl)) (by decide) (by decide)) (g := (mkF m 147 #[.val (.int p1), .val (.int p2), .val (.int p3), .val (.int p4), .val (.int p5), .val (.int p6), .val (.ref b2), .val (.int (0 : Int32)), .val (.int (5 : Int32)), .val (.int ((nar .byte (p1.toInt8.toInt32)) &&& (255 : Int32))), .val (.int ((nar .byte (p2.toInt8.toInt32)) &&& (255 : Int32))), .val (.int ((nar .byte (p3.toInt8.toInt32)) &&& (255 : Int32))), .val (.int ((nar .byte (p4.toInt8.toInt32)) &&& (255 : Int32))), .val (.int (sp1 ((nar .byte (p1.toInt8.toInt32)) &&& (255 : Int32)) ((nar .byte (p2.toInt8.toInt32)) &&& (255 : Int32)) ((nar .byte (p3.toInt8.toInt32)) &&& (255 : Int32)) ((nar .byte (p4.toInt8.toInt32)) &&& (255 : Int32)) (5 : Int32) (0 : Int32)))] [(.int (0 : Int32)), (.ref b2)])) rfl (by rw [hml]; rfl) (argsL := [(.ref b2), (.int (0 : Int32))]) (rest := []) (lenOf pd0_1 rfl) rfl (by show 2 * 0 + _ ≤ _; exact Nat.le_of_eq rfl) (hb hby at_147) (fun _ _ => ⟨rfl, hh34, (by decide : 1 + 0 ≤ _), (by decide : 5 + 0 ≤ _)⟩)
    dsimp only [Pt.U, Pt.locs, Pt.cells, Pt.slots] at X36 l36 y36 z36 st36 hQ36
    subst l36 y36 z36
    obtain ⟨rfl, N36q, hh36⟩ := hQ36
    have N36 := Fr.app N34 N36q
    have k38 : ∀ t, Steps p.tables e below (T36.setTop (mkF m 152 #[.val (.int p1), .val (.int p2), .val (.int p3), .val (.int p4), .val (.int p5), .val (.int p6), .val (.ref b2), .val (.int (0 : Int32)), .val (.int (5 : Int32)), .val (.int ((nar .byte (p1.toInt8.toInt32)) &&& (255 : Int32))), .val (.int ((nar .byte (p2.toInt8.toInt32)) &&& (255 : Int32))), .val (.int ((nar .byte (p3.toInt8.toInt32)) &&& (255 : Int32))), .val (.int ((nar .byte (p4.toInt8.toInt32)) &&& (255 : Int32))), .val (.int (sp1 ((nar .byte (p1.toInt8.toInt32)) &&& (255 : Int32)) ((nar .byte (p2.toInt8.toInt32)) &&& (255 : Int32)) ((nar .byte (p3.toInt8.toInt32)) &&& (255 : Int32)) ((nar .byte (p4.toInt8.toInt32)) &&& (255 : Int32)) (5 : Int32) (0 : Int32)))] [(.int (sp1 ((nar .byte (p1.toInt8.toInt32)) &&& (255 : Int32)) ((nar .byte (p2.toInt8.toInt32)) &&& (255 : Int32)) ((nar .byte (p3.toInt8.toInt32)) &&& (255 : Int32)) ((nar .byte (p4.toInt8.toInt32)) &&& (255 : Int32)) (5 : Int32) (0 : Int32))), (.int (sp2 (0 : Int32) (nar .byte (p1.toInt8.toInt32)) (nar .byte (p2.toInt8.toInt32)) (nar .byte (p3.toInt8.toInt32)) (nar .byte (p4.toInt8.toInt32)) (nar .byte (p5.toInt8.toInt32))))])) t → Steps p.tables e below (s₁.setTop (mkF m 0 #[.val (.int p1), .val (.int p2), .val (.int p3), .val (.int p4), .val (.int p5), .val (.int p6), .unset, .unset, .unset, .unset, .unset, .unset, .unset, .unset] [])) t := fun t kt => k35 t (by
      show Steps p.tables e below (T34.setTop (mkF m 147 #[.val (.int p1), .val (.int p2), .val (.int p3), .val (.int p4), .val (.int p5), .val (.int p6), .val (.ref b2), .val (.int (0 : Int32)), .val (.int (5 : Int32)), .val (.int ((nar .byte (p1.toInt8.toInt32)) &&& (255 : Int32))), .val (.int ((nar .byte (p2.toInt8.toInt32)) &&& (255 : Int32))), .val (.int ((nar .byte (p3.toInt8.toInt32)) &&& (255 : Int32))), .val (.int ((nar .byte (p4.toInt8.toInt32)) &&& (255 : Int32))), .val (.int (sp1 ((nar .byte (p1.toInt8.toInt32)) &&& (255 : Int32)) ((nar .byte (p2.toInt8.toInt32)) &&& (255 : Int32)) ((nar .byte (p3.toInt8.toInt32)) &&& (255 : Int32)) ((nar .byte (p4.toInt8.toInt32)) &&& (255 : Int32)) (5 : Int32) (0 : Int32)))] [(.int (0 : Int32)), (.ref b2)])) _
      refine st36 _ ?_
      show Steps p.tables e below (T36.setTop (mkF m 150 #[.val (.int p1), .val (.int p2), .val (.int p3), .val (.int p4), .val (.int p5), .val (.int p6), .val (.ref b2), .val (.int (0 : Int32)), .val (.int (5 : Int32)), .val (.int ((nar .byte (p1.toInt8.toInt32)) &&& (255 : Int32))), .val (.int ((nar .byte (p2.toInt8.toInt32)) &&& (255 : Int32))), .val (.int ((nar .byte (p3.toInt8.toInt32)) &&& (255 : Int32))), .val (.int ((nar .byte (p4.toInt8.toInt32)) &&& (255 : Int32))), .val (.int (sp1 ((nar .byte (p1.toInt8.toInt32)) &&& (255 : Int32)) ((nar .byte (p2.toInt8.toInt32)) &&& (255 : Int32)) ((nar .byte (p3.toInt8.toInt32)) &&& (255 : Int32)) ((nar .byte (p4.toInt8.toInt32)) &&& (255 : Int32)) (5 : Int32) (0 : Int32)))] [(.int (sp2 (0 : Int32) (nar .byte (p1.toInt8.toInt32)) (nar .byte (p2.toInt8.toInt32)) (nar .byte (p3.toInt8.toInt32)) (nar .byte (p4.toInt8.toInt32)) (nar .byte (p5.toInt8.toInt32))))])) _
      refine XS.iload X36.here hx rfl (hb hby at_150) rfl ?_
      exact kt)
    by_cases c152_37 : (sp2 (0 : Int32) (nar .byte (p1.toInt8.toInt32)) (nar .byte (p2.toInt8.toInt32)) (nar .byte (p3.toInt8.toInt32)) (nar .byte (p4.toInt8.toInt32)) (nar .byte (p5.toInt8.toInt32))) = (sp1 ((nar .byte (p1.toInt8.toInt32)) &&& (255 : Int32)) ((nar .byte (p2.toInt8.toInt32)) &&& (255 : Int32)) ((nar .byte (p3.toInt8.toInt32)) &&& (255 : Int32)) ((nar .byte (p4.toInt8.toInt32)) &&& (255 : Int32)) (5 : Int32) (0 : Int32))
    · obtain ⟨fs, hr, hrun, hended, hW, hsame⟩ := X36.leave (v := some (.int (1 : Int32))) (fun h => by rw [Bd.returns] at h; cases h)
      refine ⟨_, _, pre0 _ (k38 _ ?_), hrun, hended, _, _, rfl, ?_, ⟨_, rfl⟩, hW, hsame.mono (by decide) (by decide)⟩
      · show Steps p.tables e below (T36.setTop (mkF m 152 #[.val (.int p1), .val (.int p2), .val (.int p3), .val (.int p4), .val (.int p5), .val (.int p6), .val (.ref b2), .val (.int (0 : Int32)), .val (.int (5 : Int32)), .val (.int ((nar .byte (p1.toInt8.toInt32)) &&& (255 : Int32))), .val (.int ((nar .byte (p2.toInt8.toInt32)) &&& (255 : Int32))), .val (.int ((nar .byte (p3.toInt8.toInt32)) &&& (255 : Int32))), .val (.int ((nar .byte (p4.toInt8.toInt32)) &&& (255 : Int32))), .val (.int (sp1 ((nar .byte (p1.toInt8.toInt32)) &&& (255 : Int32)) ((nar .byte (p2.toInt8.toInt32)) &&& (255 : Int32)) ((nar .byte (p3.toInt8.toInt32)) &&& (255 : Int32)) ((nar .byte (p4.toInt8.toInt32)) &&& (255 : Int32)) (5 : Int32) (0 : Int32)))] [(.int (sp1 ((nar .byte (p1.toInt8.toInt32)) &&& (255 : Int32)) ((nar .byte (p2.toInt8.toInt32)) &&& (255 : Int32)) ((nar .byte (p3.toInt8.toInt32)) &&& (255 : Int32)) ((nar .byte (p4.toInt8.toInt32)) &&& (255 : Int32)) (5 : Int32) (0 : Int32))), (.int (sp2 (0 : Int32) (nar .byte (p1.toInt8.toInt32)) (nar .byte (p2.toInt8.toInt32)) (nar .byte (p3.toInt8.toInt32)) (nar .byte (p4.toInt8.toInt32)) (nar .byte (p5.toInt8.toInt32))))])) _
        refine XS.icmpNo X36.here hx rfl (hb hby at_152) rfl (teq c152_37).2 ?_
        show Steps p.tables e below (T36.setTop (mkF m 155 #[.val (.int p1), .val (.int p2), .val (.int p3), .val (.int p4), .val (.int p5), .val (.int p6), .val (.ref b2), .val (.int (0 : Int32)), .val (.int (5 : Int32)), .val (.int ((nar .byte (p1.toInt8.toInt32)) &&& (255 : Int32))), .val (.int ((nar .byte (p2.toInt8.toInt32)) &&& (255 : Int32))), .val (.int ((nar .byte (p3.toInt8.toInt32)) &&& (255 : Int32))), .val (.int ((nar .byte (p4.toInt8.toInt32)) &&& (255 : Int32))), .val (.int (sp1 ((nar .byte (p1.toInt8.toInt32)) &&& (255 : Int32)) ((nar .byte (p2.toInt8.toInt32)) &&& (255 : Int32)) ((nar .byte (p3.toInt8.toInt32)) &&& (255 : Int32)) ((nar .byte (p4.toInt8.toInt32)) &&& (255 : Int32)) (5 : Int32) (0 : Int32)))] [])) _
        refine XS.iconst X36.here hx rfl (hb hby at_155) ?_
        show Steps p.tables e below (T36.setTop (mkF m 156 #[.val (.int p1), .val (.int p2), .val (.int p3), .val (.int p4), .val (.int p5), .val (.int p6), .val (.ref b2), .val (.int (0 : Int32)), .val (.int (5 : Int32)), .val (.int ((nar .byte (p1.toInt8.toInt32)) &&& (255 : Int32))), .val (.int ((nar .byte (p2.toInt8.toInt32)) &&& (255 : Int32))), .val (.int ((nar .byte (p3.toInt8.toInt32)) &&& (255 : Int32))), .val (.int ((nar .byte (p4.toInt8.toInt32)) &&& (255 : Int32))), .val (.int (sp1 ((nar .byte (p1.toInt8.toInt32)) &&& (255 : Int32)) ((nar .byte (p2.toInt8.toInt32)) &&& (255 : Int32)) ((nar .byte (p3.toInt8.toInt32)) &&& (255 : Int32)) ((nar .byte (p4.toInt8.toInt32)) &&& (255 : Int32)) (5 : Int32) (0 : Int32)))] [(.int (1 : Int32))])) _
        refine XS.goto X36.here hx rfl (pc0 := 156) (pc' := 160) rfl (hb hby at_156) (by decide) (by decide) ?_
        show Steps p.tables e below (T36.setTop (mkF m 160 #[.val (.int p1), .val (.int p2), .val (.int p3), .val (.int p4), .val (.int p5), .val (.int p6), .val (.ref b2), .val (.int (0 : Int32)), .val (.int (5 : Int32)), .val (.int ((nar .byte (p1.toInt8.toInt32)) &&& (255 : Int32))), .val (.int ((nar .byte (p2.toInt8.toInt32)) &&& (255 : Int32))), .val (.int ((nar .byte (p3.toInt8.toInt32)) &&& (255 : Int32))), .val (.int ((nar .byte (p4.toInt8.toInt32)) &&& (255 : Int32))), .val (.int (sp1 ((nar .byte (p1.toInt8.toInt32)) &&& (255 : Int32)) ((nar .byte (p2.toInt8.toInt32)) &&& (255 : Int32)) ((nar .byte (p3.toInt8.toInt32)) &&& (255 : Int32)) ((nar .byte (p4.toInt8.toInt32)) &&& (255 : Int32)) (5 : Int32) (0 : Int32)))] [(.int (1 : Int32))])) _
        exact retN X36 hx (t := .boolean) Bd.returns (by simp) (hb hby at_160) hr
      · show Q0 Z p1 p2 p3 p4 p5 p6 h0 n0 _ T36.heap _
        rw [hh36]
        have hv : sp0 p1 p2 p3 p4 p5 p6 = (1 : Int32) := by unfold sp0; rw [if_pos c40_14, if_pos c152_37]
        exact ⟨by rw [← hv, own_law p1 p2 p3 p4 p5 p6], N36⟩
    · obtain ⟨fs, hr, hrun, hended, hW, hsame⟩ := X36.leave (v := some (.int (0 : Int32))) (fun h => by rw [Bd.returns] at h; cases h)
      refine ⟨_, _, pre0 _ (k38 _ ?_), hrun, hended, _, _, rfl, ?_, ⟨_, rfl⟩, hW, hsame.mono (by decide) (by decide)⟩
      · show Steps p.tables e below (T36.setTop (mkF m 152 #[.val (.int p1), .val (.int p2), .val (.int p3), .val (.int p4), .val (.int p5), .val (.int p6), .val (.ref b2), .val (.int (0 : Int32)), .val (.int (5 : Int32)), .val (.int ((nar .byte (p1.toInt8.toInt32)) &&& (255 : Int32))), .val (.int ((nar .byte (p2.toInt8.toInt32)) &&& (255 : Int32))), .val (.int ((nar .byte (p3.toInt8.toInt32)) &&& (255 : Int32))), .val (.int ((nar .byte (p4.toInt8.toInt32)) &&& (255 : Int32))), .val (.int (sp1 ((nar .byte (p1.toInt8.toInt32)) &&& (255 : Int32)) ((nar .byte (p2.toInt8.toInt32)) &&& (255 : Int32)) ((nar .byte (p3.toInt8.toInt32)) &&& (255 : Int32)) ((nar .byte (p4.toInt8.toInt32)) &&& (255 : Int32)) (5 : Int32) (0 : Int32)))] [(.int (sp1 ((nar .byte (p1.toInt8.toInt32)) &&& (255 : Int32)) ((nar .byte (p2.toInt8.toInt32)) &&& (255 : Int32)) ((nar .byte (p3.toInt8.toInt32)) &&& (255 : Int32)) ((nar .byte (p4.toInt8.toInt32)) &&& (255 : Int32)) (5 : Int32) (0 : Int32))), (.int (sp2 (0 : Int32) (nar .byte (p1.toInt8.toInt32)) (nar .byte (p2.toInt8.toInt32)) (nar .byte (p3.toInt8.toInt32)) (nar .byte (p4.toInt8.toInt32)) (nar .byte (p5.toInt8.toInt32))))])) _
        refine XS.icmpYes X36.here hx rfl (pc0 := 152) (pc' := 159) rfl (hb hby at_152) rfl (feq c152_37).2 (by decide) (by decide) ?_
        show Steps p.tables e below (T36.setTop (mkF m 159 #[.val (.int p1), .val (.int p2), .val (.int p3), .val (.int p4), .val (.int p5), .val (.int p6), .val (.ref b2), .val (.int (0 : Int32)), .val (.int (5 : Int32)), .val (.int ((nar .byte (p1.toInt8.toInt32)) &&& (255 : Int32))), .val (.int ((nar .byte (p2.toInt8.toInt32)) &&& (255 : Int32))), .val (.int ((nar .byte (p3.toInt8.toInt32)) &&& (255 : Int32))), .val (.int ((nar .byte (p4.toInt8.toInt32)) &&& (255 : Int32))), .val (.int (sp1 ((nar .byte (p1.toInt8.toInt32)) &&& (255 : Int32)) ((nar .byte (p2.toInt8.toInt32)) &&& (255 : Int32)) ((nar .byte (p3.toInt8.toInt32)) &&& (255 : Int32)) ((nar .byte (p4.toInt8.toInt32)) &&& (255 : Int32)) (5 : Int32) (0 : Int32)))] [])) _
        refine XS.iconst X36.here hx rfl (hb hby at_159) ?_
        show Steps p.tables e below (T36.setTop (mkF m 160 #[.val (.int p1), .val (.int p2), .val (.int p3), .val (.int p4), .val (.int p5), .val (.int p6), .val (.ref b2), .val (.int (0 : Int32)), .val (.int (5 : Int32)), .val (.int ((nar .byte (p1.toInt8.toInt32)) &&& (255 : Int32))), .val (.int ((nar .byte (p2.toInt8.toInt32)) &&& (255 : Int32))), .val (.int ((nar .byte (p3.toInt8.toInt32)) &&& (255 : Int32))), .val (.int ((nar .byte (p4.toInt8.toInt32)) &&& (255 : Int32))), .val (.int (sp1 ((nar .byte (p1.toInt8.toInt32)) &&& (255 : Int32)) ((nar .byte (p2.toInt8.toInt32)) &&& (255 : Int32)) ((nar .byte (p3.toInt8.toInt32)) &&& (255 : Int32)) ((nar .byte (p4.toInt8.toInt32)) &&& (255 : Int32)) (5 : Int32) (0 : Int32)))] [(.int (0 : Int32))])) _
        exact retN X36 hx (t := .boolean) Bd.returns (by simp) (hb hby at_160) hr
      · show Q0 Z p1 p2 p3 p4 p5 p6 h0 n0 _ T36.heap _
        rw [hh36]
        have hv : sp0 p1 p2 p3 p4 p5 p6 = (0 : Int32) := by unfold sp0; rw [if_pos c40_14, if_neg c152_37]
        exact ⟨by rw [← hv, own_law p1 p2 p3 p4 p5 p6], N36⟩
  · by_cases c40_39 : ((p6 &&& (2147483647 : Int32)) % (5 : Int32)) = (1 : Int32)
    · rw [c40_39] at k13
      have k40 : ∀ t, Steps p.tables e below (T12.setTop (mkF m 50 #[.val (.int p1), .val (.int p2), .val (.int p3), .val (.int p4), .val (.int p5), .val (.int p6), .val (.ref b2), .val (.int (1 : Int32)), .val (.int (4 : Int32)), .unset, .unset, .unset, .unset, .unset] [(.int (1 : Int32)), (.ref b2)])) t → Steps p.tables e below (s₁.setTop (mkF m 0 #[.val (.int p1), .val (.int p2), .val (.int p3), .val (.int p4), .val (.int p5), .val (.int p6), .unset, .unset, .unset, .unset, .unset, .unset, .unset, .unset] [])) t := fun t kt => k13 t (by
        show Steps p.tables e below (T12.setTop (mkF m 40 #[.val (.int p1), .val (.int p2), .val (.int p3), .val (.int p4), .val (.int p5), .val (.int p6), .val (.ref b2), .val (.int (1 : Int32)), .unset, .unset, .unset, .unset, .unset, .unset] [])) _
        refine XS.iconst X12.here hx rfl (hb hby at_40) ?_
        show Steps p.tables e below (T12.setTop (mkF m 41 #[.val (.int p1), .val (.int p2), .val (.int p3), .val (.int p4), .val (.int p5), .val (.int p6), .val (.ref b2), .val (.int (1 : Int32)), .unset, .unset, .unset, .unset, .unset, .unset] [(.int (5 : Int32))])) _
        refine XS.iload X12.here hx rfl (hb hby at_41) rfl ?_
        show Steps p.tables e below (T12.setTop (mkF m 43 #[.val (.int p1), .val (.int p2), .val (.int p3), .val (.int p4), .val (.int p5), .val (.int p6), .val (.ref b2), .val (.int (1 : Int32)), .unset, .unset, .unset, .unset, .unset, .unset] [(.int (1 : Int32)), (.int (5 : Int32))])) _
        refine XS.isub X12.here hx rfl (hb hby at_43) rfl ?_
        show Steps p.tables e below (T12.setTop (mkF m 44 #[.val (.int p1), .val (.int p2), .val (.int p3), .val (.int p4), .val (.int p5), .val (.int p6), .val (.ref b2), .val (.int (1 : Int32)), .unset, .unset, .unset, .unset, .unset, .unset] [(.int (4 : Int32))])) _
        refine XS.istore X12.here hx rfl (hb hby at_44) rfl (l' := #[.val (.int p1), .val (.int p2), .val (.int p3), .val (.int p4), .val (.int p5), .val (.int p6), .val (.ref b2), .val (.int (1 : Int32)), .val (.int (4 : Int32)), .unset, .unset, .unset, .unset, .unset]) rfl ?_
        show Steps p.tables e below (T12.setTop (mkF m 46 #[.val (.int p1), .val (.int p2), .val (.int p3), .val (.int p4), .val (.int p5), .val (.int p6), .val (.ref b2), .val (.int (1 : Int32)), .val (.int (4 : Int32)), .unset, .unset, .unset, .unset, .unset] [])) _
        refine XS.aload X12.here hx rfl (hb hby at_46) rfl rfl ?_
        show Steps p.tables e below (T12.setTop (mkF m 48 #[.val (.int p1), .val (.int p2), .val (.int p3), .val (.int p4), .val (.int p5), .val (.int p6), .val (.ref b2), .val (.int (1 : Int32)), .val (.int (4 : Int32)), .unset, .unset, .unset, .unset, .unset] [(.ref b2)])) _
        refine XS.iload X12.here hx rfl (hb hby at_48) rfl ?_
        exact kt)
      obtain ⟨cl41, Ar41, q41, S41, N41', H41, G41⟩ := V12
      have hin41 : ¬ ((1 : Int32) < 0 ∨ cl41.slots.size ≤ ((1 : Int32)).toNatClampNeg) := inb_of S41 ⟨by decide, by decide⟩
      have hat41 : cl41.slots[((1 : Int32)).toNatClampNeg]? = some (.int (nar .byte (p2.toInt8.toInt32))) := H41.at hin41 rfl
      have V41 : Arv Z h12 b2 k2 .byte (5 : Int32) [(.int (nar .byte (p1.toInt8.toInt32))), (.int (nar .byte (p2.toInt8.toInt32))), (.int (nar .byte (p3.toInt8.toInt32))), (.int (nar .byte (p4.toInt8.toInt32))), (.int (nar .byte (p5.toInt8.toInt32)))] (.int (0 : Int32)) := ⟨cl41, Ar41, q41, S41, N41', H41, G41⟩
      have k42 : ∀ t, Steps p.tables e below (T12.setTop (mkF m 51 #[.val (.int p1), .val (.int p2), .val (.int p3), .val (.int p4), .val (.int p5), .val (.int p6), .val (.ref b2), .val (.int (1 : Int32)), .val (.int (4 : Int32)), .unset, .unset, .unset, .unset, .unset] [(.int (nar .byte (p2.toInt8.toInt32)))])) t → Steps p.tables e below (s₁.setTop (mkF m 0 #[.val (.int p1), .val (.int p2), .val (.int p3), .val (.int p4), .val (.int p5), .val (.int p6), .unset, .unset, .unset, .unset, .unset, .unset, .unset, .unset] [])) t := fun t kt => k40 t (by
        show Steps p.tables e below (T12.setTop (mkF m 50 #[.val (.int p1), .val (.int p2), .val (.int p3), .val (.int p4), .val (.int p5), .val (.int p6), .val (.ref b2), .val (.int (1 : Int32)), .val (.int (4 : Int32)), .unset, .unset, .unset, .unset, .unset] [(.int (1 : Int32)), (.ref b2)])) _
        refine X12.baloadBytes hx (j := (1 : Int32)) (v := (.int (nar .byte (p2.toInt8.toInt32)))) (by rw [e12]; exact Ar41.1) (State.isArrayOf_alike hZ.alike Ar41.2.1) Ar41.2.2 hin41 hat41 (g := (mkF m 50 #[.val (.int p1), .val (.int p2), .val (.int p3), .val (.int p4), .val (.int p5), .val (.int p6), .val (.ref b2), .val (.int (1 : Int32)), .val (.int (4 : Int32)), .unset, .unset, .unset, .unset, .unset] [(.int (1 : Int32)), (.ref b2)])) rfl rfl (hb hby at_50) _ ?_
        exact kt)
      have k44 : ∀ t, Steps p.tables e below (T12.setTop (mkF m 60 #[.val (.int p1), .val (.int p2), .val (.int p3), .val (.int p4), .val (.int p5), .val (.int p6), .val (.ref b2), .val (.int (1 : Int32)), .val (.int (4 : Int32)), .val (.int ((nar .byte (p2.toInt8.toInt32)) &&& (255 : Int32))), .unset, .unset, .unset, .unset] [(.int (1 : Int32)), (.int (4 : Int32))])) t → Steps p.tables e below (s₁.setTop (mkF m 0 #[.val (.int p1), .val (.int p2), .val (.int p3), .val (.int p4), .val (.int p5), .val (.int p6), .unset, .unset, .unset, .unset, .unset, .unset, .unset, .unset] [])) t := fun t kt => k42 t (by
        show Steps p.tables e below (T12.setTop (mkF m 51 #[.val (.int p1), .val (.int p2), .val (.int p3), .val (.int p4), .val (.int p5), .val (.int p6), .val (.ref b2), .val (.int (1 : Int32)), .val (.int (4 : Int32)), .unset, .unset, .unset, .unset, .unset] [(.int (nar .byte (p2.toInt8.toInt32)))])) _
        refine XS.sipush X12.here hx rfl (hb hby at_51) ?_
        show Steps p.tables e below (T12.setTop (mkF m 54 #[.val (.int p1), .val (.int p2), .val (.int p3), .val (.int p4), .val (.int p5), .val (.int p6), .val (.ref b2), .val (.int (1 : Int32)), .val (.int (4 : Int32)), .unset, .unset, .unset, .unset, .unset] [(.int (255 : Int32)), (.int (nar .byte (p2.toInt8.toInt32)))])) _
        refine XS.iand X12.here hx rfl (hb hby at_54) rfl ?_
        show Steps p.tables e below (T12.setTop (mkF m 55 #[.val (.int p1), .val (.int p2), .val (.int p3), .val (.int p4), .val (.int p5), .val (.int p6), .val (.ref b2), .val (.int (1 : Int32)), .val (.int (4 : Int32)), .unset, .unset, .unset, .unset, .unset] [(.int ((nar .byte (p2.toInt8.toInt32)) &&& (255 : Int32)))])) _
        refine XS.istore X12.here hx rfl (hb hby at_55) rfl (l' := #[.val (.int p1), .val (.int p2), .val (.int p3), .val (.int p4), .val (.int p5), .val (.int p6), .val (.ref b2), .val (.int (1 : Int32)), .val (.int (4 : Int32)), .val (.int ((nar .byte (p2.toInt8.toInt32)) &&& (255 : Int32))), .unset, .unset, .unset, .unset]) rfl ?_
        show Steps p.tables e below (T12.setTop (mkF m 57 #[.val (.int p1), .val (.int p2), .val (.int p3), .val (.int p4), .val (.int p5), .val (.int p6), .val (.ref b2), .val (.int (1 : Int32)), .val (.int (4 : Int32)), .val (.int ((nar .byte (p2.toInt8.toInt32)) &&& (255 : Int32))), .unset, .unset, .unset, .unset] [])) _
        refine XS.iload X12.here hx rfl (hb hby at_57) rfl ?_
        show Steps p.tables e below (T12.setTop (mkF m 59 #[.val (.int p1), .val (.int p2), .val (.int p3), .val (.int p4), .val (.int p5), .val (.int p6), .val (.ref b2), .val (.int (1 : Int32)), .val (.int (4 : Int32)), .val (.int ((nar .byte (p2.toInt8.toInt32)) &&& (255 : Int32))), .unset, .unset, .unset, .unset] [(.int (4 : Int32))])) _
        refine XS.iconst X12.here hx rfl (hb hby at_59) ?_
        exact kt)
      have c60_43 : (1 : Int32) < (4 : Int32) := by decide
      have k45 : ∀ t, Steps p.tables e below (T12.setTop (mkF m 69 #[.val (.int p1), .val (.int p2), .val (.int p3), .val (.int p4), .val (.int p5), .val (.int p6), .val (.ref b2), .val (.int (1 : Int32)), .val (.int (4 : Int32)), .val (.int ((nar .byte (p2.toInt8.toInt32)) &&& (255 : Int32))), .unset, .unset, .unset, .unset] [(.int (2 : Int32)), (.ref b2)])) t → Steps p.tables e below (s₁.setTop (mkF m 0 #[.val (.int p1), .val (.int p2), .val (.int p3), .val (.int p4), .val (.int p5), .val (.int p6), .unset, .unset, .unset, .unset, .unset, .unset, .unset, .unset] [])) t := fun t kt => k44 t (by
        show Steps p.tables e below (T12.setTop (mkF m 60 #[.val (.int p1), .val (.int p2), .val (.int p3), .val (.int p4), .val (.int p5), .val (.int p6), .val (.ref b2), .val (.int (1 : Int32)), .val (.int (4 : Int32)), .val (.int ((nar .byte (p2.toInt8.toInt32)) &&& (255 : Int32))), .unset, .unset, .unset, .unset] [(.int (1 : Int32)), (.int (4 : Int32))])) _
        refine XS.icmpNo X12.here hx rfl (hb hby at_60) rfl (tlt c60_43).2.2.2 ?_
        show Steps p.tables e below (T12.setTop (mkF m 63 #[.val (.int p1), .val (.int p2), .val (.int p3), .val (.int p4), .val (.int p5), .val (.int p6), .val (.ref b2), .val (.int (1 : Int32)), .val (.int (4 : Int32)), .val (.int ((nar .byte (p2.toInt8.toInt32)) &&& (255 : Int32))), .unset, .unset, .unset, .unset] [])) _
        refine XS.aload X12.here hx rfl (hb hby at_63) rfl rfl ?_
        show Steps p.tables e below (T12.setTop (mkF m 65 #[.val (.int p1), .val (.int p2), .val (.int p3), .val (.int p4), .val (.int p5), .val (.int p6), .val (.ref b2), .val (.int (1 : Int32)), .val (.int (4 : Int32)), .val (.int ((nar .byte (p2.toInt8.toInt32)) &&& (255 : Int32))), .unset, .unset, .unset, .unset] [(.ref b2)])) _
        refine XS.iload X12.here hx rfl (hb hby at_65) rfl ?_
        show Steps p.tables e below (T12.setTop (mkF m 67 #[.val (.int p1), .val (.int p2), .val (.int p3), .val (.int p4), .val (.int p5), .val (.int p6), .val (.ref b2), .val (.int (1 : Int32)), .val (.int (4 : Int32)), .val (.int ((nar .byte (p2.toInt8.toInt32)) &&& (255 : Int32))), .unset, .unset, .unset, .unset] [(.int (1 : Int32)), (.ref b2)])) _
        refine XS.iconst X12.here hx rfl (hb hby at_67) ?_
        show Steps p.tables e below (T12.setTop (mkF m 68 #[.val (.int p1), .val (.int p2), .val (.int p3), .val (.int p4), .val (.int p5), .val (.int p6), .val (.ref b2), .val (.int (1 : Int32)), .val (.int (4 : Int32)), .val (.int ((nar .byte (p2.toInt8.toInt32)) &&& (255 : Int32))), .unset, .unset, .unset, .unset] [(.int (1 : Int32)), (.int (1 : Int32)), (.ref b2)])) _
        refine XS.iadd X12.here hx rfl (hb hby at_68) rfl ?_
        exact kt)
      obtain ⟨cl46, Ar46, q46, S46, N46', H46, G46⟩ := V41
      have hin46 : ¬ ((2 : Int32) < 0 ∨ cl46.slots.size ≤ ((2 : Int32)).toNatClampNeg) := inb_of S46 ⟨by decide, by decide⟩
      have hat46 : cl46.slots[((2 : Int32)).toNatClampNeg]? = some (.int (nar .byte (p3.toInt8.toInt32))) := H46.at hin46 rfl
      have V46 : Arv Z h12 b2 k2 .byte (5 : Int32) [(.int (nar .byte (p1.toInt8.toInt32))), (.int (nar .byte (p2.toInt8.toInt32))), (.int (nar .byte (p3.toInt8.toInt32))), (.int (nar .byte (p4.toInt8.toInt32))), (.int (nar .byte (p5.toInt8.toInt32)))] (.int (0 : Int32)) := ⟨cl46, Ar46, q46, S46, N46', H46, G46⟩
      have k47 : ∀ t, Steps p.tables e below (T12.setTop (mkF m 70 #[.val (.int p1), .val (.int p2), .val (.int p3), .val (.int p4), .val (.int p5), .val (.int p6), .val (.ref b2), .val (.int (1 : Int32)), .val (.int (4 : Int32)), .val (.int ((nar .byte (p2.toInt8.toInt32)) &&& (255 : Int32))), .unset, .unset, .unset, .unset] [(.int (nar .byte (p3.toInt8.toInt32)))])) t → Steps p.tables e below (s₁.setTop (mkF m 0 #[.val (.int p1), .val (.int p2), .val (.int p3), .val (.int p4), .val (.int p5), .val (.int p6), .unset, .unset, .unset, .unset, .unset, .unset, .unset, .unset] [])) t := fun t kt => k45 t (by
        show Steps p.tables e below (T12.setTop (mkF m 69 #[.val (.int p1), .val (.int p2), .val (.int p3), .val (.int p4), .val (.int p5), .val (.int p6), .val (.ref b2), .val (.int (1 : Int32)), .val (.int (4 : Int32)), .val (.int ((nar .byte (p2.toInt8.toInt32)) &&& (255 : Int32))), .unset, .unset, .unset, .unset] [(.int (2 : Int32)), (.ref b2)])) _
        refine X12.baloadBytes hx (j := (2 : Int32)) (v := (.int (nar .byte (p3.toInt8.toInt32)))) (by rw [e12]; exact Ar46.1) (State.isArrayOf_alike hZ.alike Ar46.2.1) Ar46.2.2 hin46 hat46 (g := (mkF m 69 #[.val (.int p1), .val (.int p2), .val (.int p3), .val (.int p4), .val (.int p5), .val (.int p6), .val (.ref b2), .val (.int (1 : Int32)), .val (.int (4 : Int32)), .val (.int ((nar .byte (p2.toInt8.toInt32)) &&& (255 : Int32))), .unset, .unset, .unset, .unset] [(.int (2 : Int32)), (.ref b2)])) rfl rfl (hb hby at_69) _ ?_
        exact kt)
      have k49 : ∀ t, Steps p.tables e below (T12.setTop (mkF m 83 #[.val (.int p1), .val (.int p2), .val (.int p3), .val (.int p4), .val (.int p5), .val (.int p6), .val (.ref b2), .val (.int (1 : Int32)), .val (.int (4 : Int32)), .val (.int ((nar .byte (p2.toInt8.toInt32)) &&& (255 : Int32))), .val (.int ((nar .byte (p3.toInt8.toInt32)) &&& (255 : Int32))), .unset, .unset, .unset] [(.int (2 : Int32)), (.int (4 : Int32))])) t → Steps p.tables e below (s₁.setTop (mkF m 0 #[.val (.int p1), .val (.int p2), .val (.int p3), .val (.int p4), .val (.int p5), .val (.int p6), .unset, .unset, .unset, .unset, .unset, .unset, .unset, .unset] [])) t := fun t kt => k47 t (by
        show Steps p.tables e below (T12.setTop (mkF m 70 #[.val (.int p1), .val (.int p2), .val (.int p3), .val (.int p4), .val (.int p5), .val (.int p6), .val (.ref b2), .val (.int (1 : Int32)), .val (.int (4 : Int32)), .val (.int ((nar .byte (p2.toInt8.toInt32)) &&& (255 : Int32))), .unset, .unset, .unset, .unset] [(.int (nar .byte (p3.toInt8.toInt32)))])) _
        refine XS.sipush X12.here hx rfl (hb hby at_70) ?_
        show Steps p.tables e below (T12.setTop (mkF m 73 #[.val (.int p1), .val (.int p2), .val (.int p3), .val (.int p4), .val (.int p5), .val (.int p6), .val (.ref b2), .val (.int (1 : Int32)), .val (.int (4 : Int32)), .val (.int ((nar .byte (p2.toInt8.toInt32)) &&& (255 : Int32))), .unset, .unset, .unset, .unset] [(.int (255 : Int32)), (.int (nar .byte (p3.toInt8.toInt32)))])) _
        refine XS.iand X12.here hx rfl (hb hby at_73) rfl ?_
        show Steps p.tables e below (T12.setTop (mkF m 74 #[.val (.int p1), .val (.int p2), .val (.int p3), .val (.int p4), .val (.int p5), .val (.int p6), .val (.ref b2), .val (.int (1 : Int32)), .val (.int (4 : Int32)), .val (.int ((nar .byte (p2.toInt8.toInt32)) &&& (255 : Int32))), .unset, .unset, .unset, .unset] [(.int ((nar .byte (p3.toInt8.toInt32)) &&& (255 : Int32)))])) _
        refine XS.goto X12.here hx rfl (pc0 := 74) (pc' := 78) rfl (hb hby at_74) (by decide) (by decide) ?_
        show Steps p.tables e below (T12.setTop (mkF m 78 #[.val (.int p1), .val (.int p2), .val (.int p3), .val (.int p4), .val (.int p5), .val (.int p6), .val (.ref b2), .val (.int (1 : Int32)), .val (.int (4 : Int32)), .val (.int ((nar .byte (p2.toInt8.toInt32)) &&& (255 : Int32))), .unset, .unset, .unset, .unset] [(.int ((nar .byte (p3.toInt8.toInt32)) &&& (255 : Int32)))])) _
        refine XS.istore X12.here hx rfl (hb hby at_78) rfl (l' := #[.val (.int p1), .val (.int p2), .val (.int p3), .val (.int p4), .val (.int p5), .val (.int p6), .val (.ref b2), .val (.int (1 : Int32)), .val (.int (4 : Int32)), .val (.int ((nar .byte (p2.toInt8.toInt32)) &&& (255 : Int32))), .val (.int ((nar .byte (p3.toInt8.toInt32)) &&& (255 : Int32))), .unset, .unset, .unset]) rfl ?_
        show Steps p.tables e below (T12.setTop (mkF m 80 #[.val (.int p1), .val (.int p2), .val (.int p3), .val (.int p4), .val (.int p5), .val (.int p6), .val (.ref b2), .val (.int (1 : Int32)), .val (.int (4 : Int32)), .val (.int ((nar .byte (p2.toInt8.toInt32)) &&& (255 : Int32))), .val (.int ((nar .byte (p3.toInt8.toInt32)) &&& (255 : Int32))), .unset, .unset, .unset] [])) _
        refine XS.iload X12.here hx rfl (hb hby at_80) rfl ?_
        show Steps p.tables e below (T12.setTop (mkF m 82 #[.val (.int p1), .val (.int p2), .val (.int p3), .val (.int p4), .val (.int p5), .val (.int p6), .val (.ref b2), .val (.int (1 : Int32)), .val (.int (4 : Int32)), .val (.int ((nar .byte (p2.toInt8.toInt32)) &&& (255 : Int32))), .val (.int ((nar .byte (p3.toInt8.toInt32)) &&& (255 : Int32))), .unset, .unset, .unset] [(.int (4 : Int32))])) _
        refine XS.iconst X12.here hx rfl (hb hby at_82) ?_
        exact kt)
      have c83_48 : (2 : Int32) < (4 : Int32) := by decide
      have k50 : ∀ t, Steps p.tables e below (T12.setTop (mkF m 92 #[.val (.int p1), .val (.int p2), .val (.int p3), .val (.int p4), .val (.int p5), .val (.int p6), .val (.ref b2), .val (.int (1 : Int32)), .val (.int (4 : Int32)), .val (.int ((nar .byte (p2.toInt8.toInt32)) &&& (255 : Int32))), .val (.int ((nar .byte (p3.toInt8.toInt32)) &&& (255 : Int32))), .unset, .unset, .unset] [(.int (3 : Int32)), (.ref b2)])) t → Steps p.tables e below (s₁.setTop (mkF m 0 #[.val (.int p1), .val (.int p2), .val (.int p3), .val (.int p4), .val (.int p5), .val (.int p6), .unset, .unset, .unset, .unset, .unset, .unset, .unset, .unset] [])) t := fun t kt => k49 t (by
        show Steps p.tables e below (T12.setTop (mkF m 83 #[.val (.int p1), .val (.int p2), .val (.int p3), .val (.int p4), .val (.int p5), .val (.int p6), .val (.ref b2), .val (.int (1 : Int32)), .val (.int (4 : Int32)), .val (.int ((nar .byte (p2.toInt8.toInt32)) &&& (255 : Int32))), .val (.int ((nar .byte (p3.toInt8.toInt32)) &&& (255 : Int32))), .unset, .unset, .unset] [(.int (2 : Int32)), (.int (4 : Int32))])) _
        refine XS.icmpNo X12.here hx rfl (hb hby at_83) rfl (tlt c83_48).2.2.2 ?_
        show Steps p.tables e below (T12.setTop (mkF m 86 #[.val (.int p1), .val (.int p2), .val (.int p3), .val (.int p4), .val (.int p5), .val (.int p6), .val (.ref b2), .val (.int (1 : Int32)), .val (.int (4 : Int32)), .val (.int ((nar .byte (p2.toInt8.toInt32)) &&& (255 : Int32))), .val (.int ((nar .byte (p3.toInt8.toInt32)) &&& (255 : Int32))), .unset, .unset, .unset] [])) _
        refine XS.aload X12.here hx rfl (hb hby at_86) rfl rfl ?_
        show Steps p.tables e below (T12.setTop (mkF m 88 #[.val (.int p1), .val (.int p2), .val (.int p3), .val (.int p4), .val (.int p5), .val (.int p6), .val (.ref b2), .val (.int (1 : Int32)), .val (.int (4 : Int32)), .val (.int ((nar .byte (p2.toInt8.toInt32)) &&& (255 : Int32))), .val (.int ((nar .byte (p3.toInt8.toInt32)) &&& (255 : Int32))), .unset, .unset, .unset] [(.ref b2)])) _
        refine XS.iload X12.here hx rfl (hb hby at_88) rfl ?_
        show Steps p.tables e below (T12.setTop (mkF m 90 #[.val (.int p1), .val (.int p2), .val (.int p3), .val (.int p4), .val (.int p5), .val (.int p6), .val (.ref b2), .val (.int (1 : Int32)), .val (.int (4 : Int32)), .val (.int ((nar .byte (p2.toInt8.toInt32)) &&& (255 : Int32))), .val (.int ((nar .byte (p3.toInt8.toInt32)) &&& (255 : Int32))), .unset, .unset, .unset] [(.int (1 : Int32)), (.ref b2)])) _
        refine XS.iconst X12.here hx rfl (hb hby at_90) ?_
        show Steps p.tables e below (T12.setTop (mkF m 91 #[.val (.int p1), .val (.int p2), .val (.int p3), .val (.int p4), .val (.int p5), .val (.int p6), .val (.ref b2), .val (.int (1 : Int32)), .val (.int (4 : Int32)), .val (.int ((nar .byte (p2.toInt8.toInt32)) &&& (255 : Int32))), .val (.int ((nar .byte (p3.toInt8.toInt32)) &&& (255 : Int32))), .unset, .unset, .unset] [(.int (2 : Int32)), (.int (1 : Int32)), (.ref b2)])) _
        refine XS.iadd X12.here hx rfl (hb hby at_91) rfl ?_
        exact kt)
      obtain ⟨cl51, Ar51, q51, S51, N51', H51, G51⟩ := V46
      have hin51 : ¬ ((3 : Int32) < 0 ∨ cl51.slots.size ≤ ((3 : Int32)).toNatClampNeg) := inb_of S51 ⟨by decide, by decide⟩
      have hat51 : cl51.slots[((3 : Int32)).toNatClampNeg]? = some (.int (nar .byte (p4.toInt8.toInt32))) := H51.at hin51 rfl
      have V51 : Arv Z h12 b2 k2 .byte (5 : Int32) [(.int (nar .byte (p1.toInt8.toInt32))), (.int (nar .byte (p2.toInt8.toInt32))), (.int (nar .byte (p3.toInt8.toInt32))), (.int (nar .byte (p4.toInt8.toInt32))), (.int (nar .byte (p5.toInt8.toInt32)))] (.int (0 : Int32)) := ⟨cl51, Ar51, q51, S51, N51', H51, G51⟩
      have k52 : ∀ t, Steps p.tables e below (T12.setTop (mkF m 93 #[.val (.int p1), .val (.int p2), .val (.int p3), .val (.int p4), .val (.int p5), .val (.int p6), .val (.ref b2), .val (.int (1 : Int32)), .val (.int (4 : Int32)), .val (.int ((nar .byte (p2.toInt8.toInt32)) &&& (255 : Int32))), .val (.int ((nar .byte (p3.toInt8.toInt32)) &&& (255 : Int32))), .unset, .unset, .unset] [(.int (nar .byte (p4.toInt8.toInt32)))])) t → Steps p.tables e below (s₁.setTop (mkF m 0 #[.val (.int p1), .val (.int p2), .val (.int p3), .val (.int p4), .val (.int p5), .val (.int p6), .unset, .unset, .unset, .unset, .unset, .unset, .unset, .unset] [])) t := fun t kt => k50 t (by
        show Steps p.tables e below (T12.setTop (mkF m 92 #[.val (.int p1), .val (.int p2), .val (.int p3), .val (.int p4), .val (.int p5), .val (.int p6), .val (.ref b2), .val (.int (1 : Int32)), .val (.int (4 : Int32)), .val (.int ((nar .byte (p2.toInt8.toInt32)) &&& (255 : Int32))), .val (.int ((nar .byte (p3.toInt8.toInt32)) &&& (255 : Int32))), .unset, .unset, .unset] [(.int (3 : Int32)), (.ref b2)])) _
        refine X12.baloadBytes hx (j := (3 : Int32)) (v := (.int (nar .byte (p4.toInt8.toInt32)))) (by rw [e12]; exact Ar51.1) (State.isArrayOf_alike hZ.alike Ar51.2.1) Ar51.2.2 hin51 hat51 (g := (mkF m 92 #[.val (.int p1), .val (.int p2), .val (.int p3), .val (.int p4), .val (.int p5), .val (.int p6), .val (.ref b2), .val (.int (1 : Int32)), .val (.int (4 : Int32)), .val (.int ((nar .byte (p2.toInt8.toInt32)) &&& (255 : Int32))), .val (.int ((nar .byte (p3.toInt8.toInt32)) &&& (255 : Int32))), .unset, .unset, .unset] [(.int (3 : Int32)), (.ref b2)])) rfl rfl (hb hby at_92) _ ?_
        exact kt)
      have k54 : ∀ t, Steps p.tables e below (T12.setTop (mkF m 106 #[.val (.int p1), .val (.int p2), .val (.int p3), .val (.int p4), .val (.int p5), .val (.int p6), .val (.ref b2), .val (.int (1 : Int32)), .val (.int (4 : Int32)), .val (.int ((nar .byte (p2.toInt8.toInt32)) &&& (255 : Int32))), .val (.int ((nar .byte (p3.toInt8.toInt32)) &&& (255 : Int32))), .val (.int ((nar .byte (p4.toInt8.toInt32)) &&& (255 : Int32))), .unset, .unset] [(.int (3 : Int32)), (.int (4 : Int32))])) t → Steps p.tables e below (s₁.setTop (mkF m 0 #[.val (.int p1), .val (.int p2), .val (.int p3), .val (.int p4), .val (.int p5), .val (.int p6), .unset, .unset, .unset, .unset, .unset, .unset, .unset, .unset] [])) t := fun t kt => k52 t (by
        show Steps p.tables e below (T12.setTop (mkF m 93 #[.val (.int p1), .val (.int p2), .val (.int p3), .val (.int p4), .val (.int p5), .val (.int p6), .val (.ref b2), .val (.int (1 : Int32)), .val (.int (4 : Int32)), .val (.int ((nar .byte (p2.toInt8.toInt32)) &&& (255 : Int32))), .val (.int ((nar .byte (p3.toInt8.toInt32)) &&& (255 : Int32))), .unset, .unset, .unset] [(.int (nar .byte (p4.toInt8.toInt32)))])) _
        refine XS.sipush X12.here hx rfl (hb hby at_93) ?_
        show Steps p.tables e below (T12.setTop (mkF m 96 #[.val (.int p1), .val (.int p2), .val (.int p3), .val (.int p4), .val (.int p5), .val (.int p6), .val (.ref b2), .val (.int (1 : Int32)), .val (.int (4 : Int32)), .val (.int ((nar .byte (p2.toInt8.toInt32)) &&& (255 : Int32))), .val (.int ((nar .byte (p3.toInt8.toInt32)) &&& (255 : Int32))), .unset, .unset, .unset] [(.int (255 : Int32)), (.int (nar .byte (p4.toInt8.toInt32)))])) _
        refine XS.iand X12.here hx rfl (hb hby at_96) rfl ?_
        show Steps p.tables e below (T12.setTop (mkF m 97 #[.val (.int p1), .val (.int p2), .val (.int p3), .val (.int p4), .val (.int p5), .val (.int p6), .val (.ref b2), .val (.int (1 : Int32)), .val (.int (4 : Int32)), .val (.int ((nar .byte (p2.toInt8.toInt32)) &&& (255 : Int32))), .val (.int ((nar .byte (p3.toInt8.toInt32)) &&& (255 : Int32))), .unset, .unset, .unset] [(.int ((nar .byte (p4.toInt8.toInt32)) &&& (255 : Int32)))])) _
        refine XS.goto X12.here hx rfl (pc0 := 97) (pc' := 101) rfl (hb hby at_97) (by decide) (by decide) ?_
        show Steps p.tables e below (T12.setTop (mkF m 101 #[.val (.int p1), .val (.int p2), .val (.int p3), .val (.int p4), .val (.int p5), .val (.int p6), .val (.ref b2), .val (.int (1 : Int32)), .val (.int (4 : Int32)), .val (.int ((nar .byte (p2.toInt8.toInt32)) &&& (255 : Int32))), .val (.int ((nar .byte (p3.toInt8.toInt32)) &&& (255 : Int32))), .unset, .unset, .unset] [(.int ((nar .byte (p4.toInt8.toInt32)) &&& (255 : Int32)))])) _
        refine XS.istore X12.here hx rfl (hb hby at_101) rfl (l' := #[.val (.int p1), .val (.int p2), .val (.int p3), .val (.int p4), .val (.int p5), .val (.int p6), .val (.ref b2), .val (.int (1 : Int32)), .val (.int (4 : Int32)), .val (.int ((nar .byte (p2.toInt8.toInt32)) &&& (255 : Int32))), .val (.int ((nar .byte (p3.toInt8.toInt32)) &&& (255 : Int32))), .val (.int ((nar .byte (p4.toInt8.toInt32)) &&& (255 : Int32))), .unset, .unset]) rfl ?_
        show Steps p.tables e below (T12.setTop (mkF m 103 #[.val (.int p1), .val (.int p2), .val (.int p3), .val (.int p4), .val (.int p5), .val (.int p6), .val (.ref b2), .val (.int (1 : Int32)), .val (.int (4 : Int32)), .val (.int ((nar .byte (p2.toInt8.toInt32)) &&& (255 : Int32))), .val (.int ((nar .byte (p3.toInt8.toInt32)) &&& (255 : Int32))), .val (.int ((nar .byte (p4.toInt8.toInt32)) &&& (255 : Int32))), .unset, .unset] [])) _
        refine XS.iload X12.here hx rfl (hb hby at_103) rfl ?_
        show Steps p.tables e below (T12.setTop (mkF m 105 #[.val (.int p1), .val (.int p2), .val (.int p3), .val (.int p4), .val (.int p5), .val (.int p6), .val (.ref b2), .val (.int (1 : Int32)), .val (.int (4 : Int32)), .val (.int ((nar .byte (p2.toInt8.toInt32)) &&& (255 : Int32))), .val (.int ((nar .byte (p3.toInt8.toInt32)) &&& (255 : Int32))), .val (.int ((nar .byte (p4.toInt8.toInt32)) &&& (255 : Int32))), .unset, .unset] [(.int (4 : Int32))])) _
        refine XS.iconst X12.here hx rfl (hb hby at_105) ?_
        exact kt)
      have c106_53 : (3 : Int32) < (4 : Int32) := by decide
      have k55 : ∀ t, Steps p.tables e below (T12.setTop (mkF m 115 #[.val (.int p1), .val (.int p2), .val (.int p3), .val (.int p4), .val (.int p5), .val (.int p6), .val (.ref b2), .val (.int (1 : Int32)), .val (.int (4 : Int32)), .val (.int ((nar .byte (p2.toInt8.toInt32)) &&& (255 : Int32))), .val (.int ((nar .byte (p3.toInt8.toInt32)) &&& (255 : Int32))), .val (.int ((nar .byte (p4.toInt8.toInt32)) &&& (255 : Int32))), .unset, .unset] [(.int (4 : Int32)), (.ref b2)])) t → Steps p.tables e below (s₁.setTop (mkF m 0 #[.val (.int p1), .val (.int p2), .val (.int p3), .val (.int p4), .val (.int p5), .val (.int p6), .unset, .unset, .unset, .unset, .unset, .unset, .unset, .unset] [])) t := fun t kt => k54 t (by
        show Steps p.tables e below (T12.setTop (mkF m 106 #[.val (.int p1), .val (.int p2), .val (.int p3), .val (.int p4), .val (.int p5), .val (.int p6), .val (.ref b2), .val (.int (1 : Int32)), .val (.int (4 : Int32)), .val (.int ((nar .byte (p2.toInt8.toInt32)) &&& (255 : Int32))), .val (.int ((nar .byte (p3.toInt8.toInt32)) &&& (255 : Int32))), .val (.int ((nar .byte (p4.toInt8.toInt32)) &&& (255 : Int32))), .unset, .unset] [(.int (3 : Int32)), (.int (4 : Int32))])) _
        refine XS.icmpNo X12.here hx rfl (hb hby at_106) rfl (tlt c106_53).2.2.2 ?_
        show Steps p.tables e below (T12.setTop (mkF m 109 #[.val (.int p1), .val (.int p2), .val (.int p3), .val (.int p4), .val (.int p5), .val (.int p6), .val (.ref b2), .val (.int (1 : Int32)), .val (.int (4 : Int32)), .val (.int ((nar .byte (p2.toInt8.toInt32)) &&& (255 : Int32))), .val (.int ((nar .byte (p3.toInt8.toInt32)) &&& (255 : Int32))), .val (.int ((nar .byte (p4.toInt8.toInt32)) &&& (255 : Int32))), .unset, .unset] [])) _
        refine XS.aload X12.here hx rfl (hb hby at_109) rfl rfl ?_
        show Steps p.tables e below (T12.setTop (mkF m 111 #[.val (.int p1), .val (.int p2), .val (.int p3), .val (.int p4), .val (.int p5), .val (.int p6), .val (.ref b2), .val (.int (1 : Int32)), .val (.int (4 : Int32)), .val (.int ((nar .byte (p2.toInt8.toInt32)) &&& (255 : Int32))), .val (.int ((nar .byte (p3.toInt8.toInt32)) &&& (255 : Int32))), .val (.int ((nar .byte (p4.toInt8.toInt32)) &&& (255 : Int32))), .unset, .unset] [(.ref b2)])) _
        refine XS.iload X12.here hx rfl (hb hby at_111) rfl ?_
        show Steps p.tables e below (T12.setTop (mkF m 113 #[.val (.int p1), .val (.int p2), .val (.int p3), .val (.int p4), .val (.int p5), .val (.int p6), .val (.ref b2), .val (.int (1 : Int32)), .val (.int (4 : Int32)), .val (.int ((nar .byte (p2.toInt8.toInt32)) &&& (255 : Int32))), .val (.int ((nar .byte (p3.toInt8.toInt32)) &&& (255 : Int32))), .val (.int ((nar .byte (p4.toInt8.toInt32)) &&& (255 : Int32))), .unset, .unset] [(.int (1 : Int32)), (.ref b2)])) _
        refine XS.iconst X12.here hx rfl (hb hby at_113) ?_
        show Steps p.tables e below (T12.setTop (mkF m 114 #[.val (.int p1), .val (.int p2), .val (.int p3), .val (.int p4), .val (.int p5), .val (.int p6), .val (.ref b2), .val (.int (1 : Int32)), .val (.int (4 : Int32)), .val (.int ((nar .byte (p2.toInt8.toInt32)) &&& (255 : Int32))), .val (.int ((nar .byte (p3.toInt8.toInt32)) &&& (255 : Int32))), .val (.int ((nar .byte (p4.toInt8.toInt32)) &&& (255 : Int32))), .unset, .unset] [(.int (3 : Int32)), (.int (1 : Int32)), (.ref b2)])) _
        refine XS.iadd X12.here hx rfl (hb hby at_114) rfl ?_
        exact kt)
      obtain ⟨cl56, Ar56, q56, S56, N56', H56, G56⟩ := V51
      have hin56 : ¬ ((4 : Int32) < 0 ∨ cl56.slots.size ≤ ((4 : Int32)).toNatClampNeg) := inb_of S56 ⟨by decide, by decide⟩
      have hat56 : cl56.slots[((4 : Int32)).toNatClampNeg]? = some (.int (nar .byte (p5.toInt8.toInt32))) := H56.at hin56 rfl
      have V56 : Arv Z h12 b2 k2 .byte (5 : Int32) [(.int (nar .byte (p1.toInt8.toInt32))), (.int (nar .byte (p2.toInt8.toInt32))), (.int (nar .byte (p3.toInt8.toInt32))), (.int (nar .byte (p4.toInt8.toInt32))), (.int (nar .byte (p5.toInt8.toInt32)))] (.int (0 : Int32)) := ⟨cl56, Ar56, q56, S56, N56', H56, G56⟩
      have k57 : ∀ t, Steps p.tables e below (T12.setTop (mkF m 116 #[.val (.int p1), .val (.int p2), .val (.int p3), .val (.int p4), .val (.int p5), .val (.int p6), .val (.ref b2), .val (.int (1 : Int32)), .val (.int (4 : Int32)), .val (.int ((nar .byte (p2.toInt8.toInt32)) &&& (255 : Int32))), .val (.int ((nar .byte (p3.toInt8.toInt32)) &&& (255 : Int32))), .val (.int ((nar .byte (p4.toInt8.toInt32)) &&& (255 : Int32))), .unset, .unset] [(.int (nar .byte (p5.toInt8.toInt32)))])) t → Steps p.tables e below (s₁.setTop (mkF m 0 #[.val (.int p1), .val (.int p2), .val (.int p3), .val (.int p4), .val (.int p5), .val (.int p6), .unset, .unset, .unset, .unset, .unset, .unset, .unset, .unset] [])) t := fun t kt => k55 t (by
        show Steps p.tables e below (T12.setTop (mkF m 115 #[.val (.int p1), .val (.int p2), .val (.int p3), .val (.int p4), .val (.int p5), .val (.int p6), .val (.ref b2), .val (.int (1 : Int32)), .val (.int (4 : Int32)), .val (.int ((nar .byte (p2.toInt8.toInt32)) &&& (255 : Int32))), .val (.int ((nar .byte (p3.toInt8.toInt32)) &&& (255 : Int32))), .val (.int ((nar .byte (p4.toInt8.toInt32)) &&& (255 : Int32))), .unset, .unset] [(.int (4 : Int32)), (.ref b2)])) _
        refine X12.baloadBytes hx (j := (4 : Int32)) (v := (.int (nar .byte (p5.toInt8.toInt32)))) (by rw [e12]; exact Ar56.1) (State.isArrayOf_alike hZ.alike Ar56.2.1) Ar56.2.2 hin56 hat56 (g := (mkF m 115 #[.val (.int p1), .val (.int p2), .val (.int p3), .val (.int p4), .val (.int p5), .val (.int p6), .val (.ref b2), .val (.int (1 : Int32)), .val (.int (4 : Int32)), .val (.int ((nar .byte (p2.toInt8.toInt32)) &&& (255 : Int32))), .val (.int ((nar .byte (p3.toInt8.toInt32)) &&& (255 : Int32))), .val (.int ((nar .byte (p4.toInt8.toInt32)) &&& (255 : Int32))), .unset, .unset] [(.int (4 : Int32)), (.ref b2)])) rfl rfl (hb hby at_115) _ ?_
        exact kt)
      have k58 : ∀ t, Steps p.tables e below (T12.setTop (mkF m 138 #[.val (.int p1), .val (.int p2), .val (.int p3), .val (.int p4), .val (.int p5), .val (.int p6), .val (.ref b2), .val (.int (1 : Int32)), .val (.int (4 : Int32)), .val (.int ((nar .byte (p2.toInt8.toInt32)) &&& (255 : Int32))), .val (.int ((nar .byte (p3.toInt8.toInt32)) &&& (255 : Int32))), .val (.int ((nar .byte (p4.toInt8.toInt32)) &&& (255 : Int32))), .val (.int ((nar .byte (p5.toInt8.toInt32)) &&& (255 : Int32))), .unset] [(.int (1 : Int32)), (.int (4 : Int32)), (.int ((nar .byte (p5.toInt8.toInt32)) &&& (255 : Int32))), (.int ((nar .byte (p4.toInt8.toInt32)) &&& (255 : Int32))), (.int ((nar .byte (p3.toInt8.toInt32)) &&& (255 : Int32))), (.int ((nar .byte (p2.toInt8.toInt32)) &&& (255 : Int32)))])) t → Steps p.tables e below (s₁.setTop (mkF m 0 #[.val (.int p1), .val (.int p2), .val (.int p3), .val (.int p4), .val (.int p5), .val (.int p6), .unset, .unset, .unset, .unset, .unset, .unset, .unset, .unset] [])) t := fun t kt => k57 t (by
        show Steps p.tables e below (T12.setTop (mkF m 116 #[.val (.int p1), .val (.int p2), .val (.int p3), .val (.int p4), .val (.int p5), .val (.int p6), .val (.ref b2), .val (.int (1 : Int32)), .val (.int (4 : Int32)), .val (.int ((nar .byte (p2.toInt8.toInt32)) &&& (255 : Int32))), .val (.int ((nar .byte (p3.toInt8.toInt32)) &&& (255 : Int32))), .val (.int ((nar .byte (p4.toInt8.toInt32)) &&& (255 : Int32))), .unset, .unset] [(.int (nar .byte (p5.toInt8.toInt32)))])) _
        refine XS.sipush X12.here hx rfl (hb hby at_116) ?_
        show Steps p.tables e below (T12.setTop (mkF m 119 #[.val (.int p1), .val (.int p2), .val (.int p3), .val (.int p4), .val (.int p5), .val (.int p6), .val (.ref b2), .val (.int (1 : Int32)), .val (.int (4 : Int32)), .val (.int ((nar .byte (p2.toInt8.toInt32)) &&& (255 : Int32))), .val (.int ((nar .byte (p3.toInt8.toInt32)) &&& (255 : Int32))), .val (.int ((nar .byte (p4.toInt8.toInt32)) &&& (255 : Int32))), .unset, .unset] [(.int (255 : Int32)), (.int (nar .byte (p5.toInt8.toInt32)))])) _
        refine XS.iand X12.here hx rfl (hb hby at_119) rfl ?_
        show Steps p.tables e below (T12.setTop (mkF m 120 #[.val (.int p1), .val (.int p2), .val (.int p3), .val (.int p4), .val (.int p5), .val (.int p6), .val (.ref b2), .val (.int (1 : Int32)), .val (.int (4 : Int32)), .val (.int ((nar .byte (p2.toInt8.toInt32)) &&& (255 : Int32))), .val (.int ((nar .byte (p3.toInt8.toInt32)) &&& (255 : Int32))), .val (.int ((nar .byte (p4.toInt8.toInt32)) &&& (255 : Int32))), .unset, .unset] [(.int ((nar .byte (p5.toInt8.toInt32)) &&& (255 : Int32)))])) _
        refine XS.goto X12.here hx rfl (pc0 := 120) (pc' := 124) rfl (hb hby at_120) (by decide) (by decide) ?_
        show Steps p.tables e below (T12.setTop (mkF m 124 #[.val (.int p1), .val (.int p2), .val (.int p3), .val (.int p4), .val (.int p5), .val (.int p6), .val (.ref b2), .val (.int (1 : Int32)), .val (.int (4 : Int32)), .val (.int ((nar .byte (p2.toInt8.toInt32)) &&& (255 : Int32))), .val (.int ((nar .byte (p3.toInt8.toInt32)) &&& (255 : Int32))), .val (.int ((nar .byte (p4.toInt8.toInt32)) &&& (255 : Int32))), .unset, .unset] [(.int ((nar .byte (p5.toInt8.toInt32)) &&& (255 : Int32)))])) _
        refine XS.istore X12.here hx rfl (hb hby at_124) rfl (l' := #[.val (.int p1), .val (.int p2), .val (.int p3), .val (.int p4), .val (.int p5), .val (.int p6), .val (.ref b2), .val (.int (1 : Int32)), .val (.int (4 : Int32)), .val (.int ((nar .byte (p2.toInt8.toInt32)) &&& (255 : Int32))), .val (.int ((nar .byte (p3.toInt8.toInt32)) &&& (255 : Int32))), .val (.int ((nar .byte (p4.toInt8.toInt32)) &&& (255 : Int32))), .val (.int ((nar .byte (p5.toInt8.toInt32)) &&& (255 : Int32))), .unset]) rfl ?_
        show Steps p.tables e below (T12.setTop (mkF m 126 #[.val (.int p1), .val (.int p2), .val (.int p3), .val (.int p4), .val (.int p5), .val (.int p6), .val (.ref b2), .val (.int (1 : Int32)), .val (.int (4 : Int32)), .val (.int ((nar .byte (p2.toInt8.toInt32)) &&& (255 : Int32))), .val (.int ((nar .byte (p3.toInt8.toInt32)) &&& (255 : Int32))), .val (.int ((nar .byte (p4.toInt8.toInt32)) &&& (255 : Int32))), .val (.int ((nar .byte (p5.toInt8.toInt32)) &&& (255 : Int32))), .unset] [])) _
        refine XS.iload X12.here hx rfl (hb hby at_126) rfl ?_
        show Steps p.tables e below (T12.setTop (mkF m 128 #[.val (.int p1), .val (.int p2), .val (.int p3), .val (.int p4), .val (.int p5), .val (.int p6), .val (.ref b2), .val (.int (1 : Int32)), .val (.int (4 : Int32)), .val (.int ((nar .byte (p2.toInt8.toInt32)) &&& (255 : Int32))), .val (.int ((nar .byte (p3.toInt8.toInt32)) &&& (255 : Int32))), .val (.int ((nar .byte (p4.toInt8.toInt32)) &&& (255 : Int32))), .val (.int ((nar .byte (p5.toInt8.toInt32)) &&& (255 : Int32))), .unset] [(.int ((nar .byte (p2.toInt8.toInt32)) &&& (255 : Int32)))])) _
        refine XS.iload X12.here hx rfl (hb hby at_128) rfl ?_
        show Steps p.tables e below (T12.setTop (mkF m 130 #[.val (.int p1), .val (.int p2), .val (.int p3), .val (.int p4), .val (.int p5), .val (.int p6), .val (.ref b2), .val (.int (1 : Int32)), .val (.int (4 : Int32)), .val (.int ((nar .byte (p2.toInt8.toInt32)) &&& (255 : Int32))), .val (.int ((nar .byte (p3.toInt8.toInt32)) &&& (255 : Int32))), .val (.int ((nar .byte (p4.toInt8.toInt32)) &&& (255 : Int32))), .val (.int ((nar .byte (p5.toInt8.toInt32)) &&& (255 : Int32))), .unset] [(.int ((nar .byte (p3.toInt8.toInt32)) &&& (255 : Int32))), (.int ((nar .byte (p2.toInt8.toInt32)) &&& (255 : Int32)))])) _
        refine XS.iload X12.here hx rfl (hb hby at_130) rfl ?_
        show Steps p.tables e below (T12.setTop (mkF m 132 #[.val (.int p1), .val (.int p2), .val (.int p3), .val (.int p4), .val (.int p5), .val (.int p6), .val (.ref b2), .val (.int (1 : Int32)), .val (.int (4 : Int32)), .val (.int ((nar .byte (p2.toInt8.toInt32)) &&& (255 : Int32))), .val (.int ((nar .byte (p3.toInt8.toInt32)) &&& (255 : Int32))), .val (.int ((nar .byte (p4.toInt8.toInt32)) &&& (255 : Int32))), .val (.int ((nar .byte (p5.toInt8.toInt32)) &&& (255 : Int32))), .unset] [(.int ((nar .byte (p4.toInt8.toInt32)) &&& (255 : Int32))), (.int ((nar .byte (p3.toInt8.toInt32)) &&& (255 : Int32))), (.int ((nar .byte (p2.toInt8.toInt32)) &&& (255 : Int32)))])) _
        refine XS.iload X12.here hx rfl (hb hby at_132) rfl ?_
        show Steps p.tables e below (T12.setTop (mkF m 134 #[.val (.int p1), .val (.int p2), .val (.int p3), .val (.int p4), .val (.int p5), .val (.int p6), .val (.ref b2), .val (.int (1 : Int32)), .val (.int (4 : Int32)), .val (.int ((nar .byte (p2.toInt8.toInt32)) &&& (255 : Int32))), .val (.int ((nar .byte (p3.toInt8.toInt32)) &&& (255 : Int32))), .val (.int ((nar .byte (p4.toInt8.toInt32)) &&& (255 : Int32))), .val (.int ((nar .byte (p5.toInt8.toInt32)) &&& (255 : Int32))), .unset] [(.int ((nar .byte (p5.toInt8.toInt32)) &&& (255 : Int32))), (.int ((nar .byte (p4.toInt8.toInt32)) &&& (255 : Int32))), (.int ((nar .byte (p3.toInt8.toInt32)) &&& (255 : Int32))), (.int ((nar .byte (p2.toInt8.toInt32)) &&& (255 : Int32)))])) _
        refine XS.iload X12.here hx rfl (hb hby at_134) rfl ?_
        show Steps p.tables e below (T12.setTop (mkF m 136 #[.val (.int p1), .val (.int p2), .val (.int p3), .val (.int p4), .val (.int p5), .val (.int p6), .val (.ref b2), .val (.int (1 : Int32)), .val (.int (4 : Int32)), .val (.int ((nar .byte (p2.toInt8.toInt32)) &&& (255 : Int32))), .val (.int ((nar .byte (p3.toInt8.toInt32)) &&& (255 : Int32))), .val (.int ((nar .byte (p4.toInt8.toInt32)) &&& (255 : Int32))), .val (.int ((nar .byte (p5.toInt8.toInt32)) &&& (255 : Int32))), .unset] [(.int (4 : Int32)), (.int ((nar .byte (p5.toInt8.toInt32)) &&& (255 : Int32))), (.int ((nar .byte (p4.toInt8.toInt32)) &&& (255 : Int32))), (.int ((nar .byte (p3.toInt8.toInt32)) &&& (255 : Int32))), (.int ((nar .byte (p2.toInt8.toInt32)) &&& (255 : Int32)))])) _
        refine XS.iload X12.here hx rfl (hb hby at_136) rfl ?_
        exact kt)
      obtain ⟨_, _, ⟨T59, L59, k59', n59⟩, -, X59, ⟨Lc59, hQ59, l59, y59, z59⟩, st59⟩ := Jvm.LawKit.callS X12 hx (y := (⟨"com/example/hemawire/hemawire/serve/TextFilesCharacterEndPinLaw", "expectedEnd", "(IIIIII)I"⟩ : MethodName)) hown (mvT hZ (hw _ (List.mem_of_getElem? (i := 2) rfl))) (mvT hZ (hw _ (List.mem_of_getElem? (i := 3) rfl))) (mvT hZ (hw _ (List.mem_of_getElem? (i := 4) rfl))) (mvT hZ (hw _ (List.mem_of_getElem? (i := 5) rfl))) (by decide) (backOf (W := 0) (rm1 l Z a0 hw [] ((nar .byte (p2.toInt8.toInt32)) &&& (255 : Int32)) ((nar .byte (p3.toInt8.toInt32)) &&& (255 : Int32)) ((nar .byte (p4.toInt8.toInt32)) &&& (255 : Int32)) ((nar .byte (p5.toInt8.toInt32)) &&& (255 : Int32)) (4 : Int32) (1 : Int32) h12 n0 Z12) hZ (hw _ (List.mem_of_getElem? (i := 5) rfl)) (hw _ (List.mem_of_getElem? (i := 4) rfl)) (by decide) (by decide)) (g := (mkF m 138 #[.val (.int p1), .val (.int p2), .val (.int p3), .val (.int p4), .val (.int p5), .val (.int p6), .val (.ref b2), .val (.int (1 : Int32)), .val (.int (4 : Int32)), .val (.int ((nar .byte (p2.toInt8.toInt32)) &&& (255 : Int32))), .val (.int ((nar .byte (p3.toInt8.toInt32)) &&& (255 : Int32))), .val (.int ((nar .byte (p4.toInt8.toInt32)) &&& (255 : Int32))), .val (.int ((nar .byte (p5.toInt8.toInt32)) &&& (255 : Int32))), .unset] [(.int (1 : Int32)), (.int (4 : Int32)), (.int ((nar .byte (p5.toInt8.toInt32)) &&& (255 : Int32))), (.int ((nar .byte (p4.toInt8.toInt32)) &&& (255 : Int32))), (.int ((nar .byte (p3.toInt8.toInt32)) &&& (255 : Int32))), (.int ((nar .byte (p2.toInt8.toInt32)) &&& (255 : Int32)))])) rfl (by rw [hml]; rfl) (argsL := [(.int ((nar .byte (p2.toInt8.toInt32)) &&& (255 : Int32))), (.int ((nar .byte (p3.toInt8.toInt32)) &&& (255 : Int32))), (.int ((nar .byte (p4.toInt8.toInt32)) &&& (255 : Int32))), (.int ((nar .byte (p5.toInt8.toInt32)) &&& (255 : Int32))), (.int (4 : Int32)), (.int (1 : Int32))]) (rest := []) (lenOf pd0_0 rfl) rfl (by show 2 * 0 + _ ≤ _; exact Nat.le_of_eq rfl) (hb hby at_138) (fun _ _ => ⟨rfl, e12, (by decide : 1 + 0 ≤ _), (by decide : 5 + 0 ≤ _)⟩)
      dsimp only [Pt.U, Pt.locs, Pt.cells, Pt.slots] at X59 l59 y59 z59 st59 hQ59
      subst l59 y59 z59
      obtain ⟨rfl, N59q, hh59⟩ := hQ59
      have N59 := Fr.app N12 N59q
      have k60 : ∀ t, Steps p.tables e below (T59.setTop (mkF m 147 #[.val (.int p1), .val (.int p2), .val (.int p3), .val (.int p4), .val (.int p5), .val (.int p6), .val (.ref b2), .val (.int (1 : Int32)), .val (.int (4 : Int32)), .val (.int ((nar .byte (p2.toInt8.toInt32)) &&& (255 : Int32))), .val (.int ((nar .byte (p3.toInt8.toInt32)) &&& (255 : Int32))), .val (.int ((nar .byte (p4.toInt8.toInt32)) &&& (255 : Int32))), .val (.int ((nar .byte (p5.toInt8.toInt32)) &&& (255 : Int32))), .val (.int (sp1 ((nar .byte (p2.toInt8.toInt32)) &&& (255 : Int32)) ((nar .byte (p3.toInt8.toInt32)) &&& (255 : Int32)) ((nar .byte (p4.toInt8.toInt32)) &&& (255 : Int32)) ((nar .byte (p5.toInt8.toInt32)) &&& (255 : Int32)) (4 : Int32) (1 : Int32)))] [(.int (1 : Int32)), (.ref b2)])) t → Steps p.tables e below (s₁.setTop (mkF m 0 #[.val (.int p1), .val (.int p2), .val (.int p3), .val (.int p4), .val (.int p5), .val (.int p6), .unset, .unset, .unset, .unset, .unset, .unset, .unset, .unset] [])) t := fun t kt => k58 t (by
        show Steps p.tables e below (T12.setTop (mkF m 138 #[.val (.int p1), .val (.int p2), .val (.int p3), .val (.int p4), .val (.int p5), .val (.int p6), .val (.ref b2), .val (.int (1 : Int32)), .val (.int (4 : Int32)), .val (.int ((nar .byte (p2.toInt8.toInt32)) &&& (255 : Int32))), .val (.int ((nar .byte (p3.toInt8.toInt32)) &&& (255 : Int32))), .val (.int ((nar .byte (p4.toInt8.toInt32)) &&& (255 : Int32))), .val (.int ((nar .byte (p5.toInt8.toInt32)) &&& (255 : Int32))), .unset] [(.int (1 : Int32)), (.int (4 : Int32)), (.int ((nar .byte (p5.toInt8.toInt32)) &&& (255 : Int32))), (.int ((nar .byte (p4.toInt8.toInt32)) &&& (255 : Int32))), (.int ((nar .byte (p3.toInt8.toInt32)) &&& (255 : Int32))), (.int ((nar .byte (p2.toInt8.toInt32)) &&& (255 : Int32)))])) _
        refine st59 _ ?_
        show Steps p.tables e below (T59.setTop (mkF m 141 #[.val (.int p1), .val (.int p2), .val (.int p3), .val (.int p4), .val (.int p5), .val (.int p6), .val (.ref b2), .val (.int (1 : Int32)), .val (.int (4 : Int32)), .val (.int ((nar .byte (p2.toInt8.toInt32)) &&& (255 : Int32))), .val (.int ((nar .byte (p3.toInt8.toInt32)) &&& (255 : Int32))), .val (.int ((nar .byte (p4.toInt8.toInt32)) &&& (255 : Int32))), .val (.int ((nar .byte (p5.toInt8.toInt32)) &&& (255 : Int32))), .unset] [(.int (sp1 ((nar .byte (p2.toInt8.toInt32)) &&& (255 : Int32)) ((nar .byte (p3.toInt8.toInt32)) &&& (255 : Int32)) ((nar .byte (p4.toInt8.toInt32)) &&& (255 : Int32)) ((nar .byte (p5.toInt8.toInt32)) &&& (255 : Int32)) (4 : Int32) (1 : Int32)))])) _
        refine XS.istore X59.here hx rfl (hb hby at_141) rfl (l' := #[.val (.int p1), .val (.int p2), .val (.int p3), .val (.int p4), .val (.int p5), .val (.int p6), .val (.ref b2), .val (.int (1 : Int32)), .val (.int (4 : Int32)), .val (.int ((nar .byte (p2.toInt8.toInt32)) &&& (255 : Int32))), .val (.int ((nar .byte (p3.toInt8.toInt32)) &&& (255 : Int32))), .val (.int ((nar .byte (p4.toInt8.toInt32)) &&& (255 : Int32))), .val (.int ((nar .byte (p5.toInt8.toInt32)) &&& (255 : Int32))), .val (.int (sp1 ((nar .byte (p2.toInt8.toInt32)) &&& (255 : Int32)) ((nar .byte (p3.toInt8.toInt32)) &&& (255 : Int32)) ((nar .byte (p4.toInt8.toInt32)) &&& (255 : Int32)) ((nar .byte (p5.toInt8.toInt32)) &&& (255 : Int32)) (4 : Int32) (1 : Int32)))]) rfl ?_
        show Steps p.tables e below (T59.setTop (mkF m 143 #[.val (.int p1), .val (.int p2), .val (.int p3), .val (.int p4), .val (.int p5), .val (.int p6), .val (.ref b2), .val (.int (1 : Int32)), .val (.int (4 : Int32)), .val (.int ((nar .byte (p2.toInt8.toInt32)) &&& (255 : Int32))), .val (.int ((nar .byte (p3.toInt8.toInt32)) &&& (255 : Int32))), .val (.int ((nar .byte (p4.toInt8.toInt32)) &&& (255 : Int32))), .val (.int ((nar .byte (p5.toInt8.toInt32)) &&& (255 : Int32))), .val (.int (sp1 ((nar .byte (p2.toInt8.toInt32)) &&& (255 : Int32)) ((nar .byte (p3.toInt8.toInt32)) &&& (255 : Int32)) ((nar .byte (p4.toInt8.toInt32)) &&& (255 : Int32)) ((nar .byte (p5.toInt8.toInt32)) &&& (255 : Int32)) (4 : Int32) (1 : Int32)))] [])) _
        refine XS.aload X59.here hx rfl (hb hby at_143) rfl rfl ?_
        show Steps p.tables e below (T59.setTop (mkF m 145 #[.val (.int p1), .val (.int p2), .val (.int p3), .val (.int p4), .val (.int p5), .val (.int p6), .val (.ref b2), .val (.int (1 : Int32)), .val (.int (4 : Int32)), .val (.int ((nar .byte (p2.toInt8.toInt32)) &&& (255 : Int32))), .val (.int ((nar .byte (p3.toInt8.toInt32)) &&& (255 : Int32))), .val (.int ((nar .byte (p4.toInt8.toInt32)) &&& (255 : Int32))), .val (.int ((nar .byte (p5.toInt8.toInt32)) &&& (255 : Int32))), .val (.int (sp1 ((nar .byte (p2.toInt8.toInt32)) &&& (255 : Int32)) ((nar .byte (p3.toInt8.toInt32)) &&& (255 : Int32)) ((nar .byte (p4.toInt8.toInt32)) &&& (255 : Int32)) ((nar .byte (p5.toInt8.toInt32)) &&& (255 : Int32)) (4 : Int32) (1 : Int32)))] [(.ref b2)])) _
        refine XS.iload X59.here hx rfl (hb hby at_145) rfl ?_
        exact kt)
      obtain ⟨_, _, ⟨T61, L61, k61', n61⟩, -, X61, ⟨Lc61, hQ61, l61, y61, z61⟩, st61⟩ := Jvm.LawKit.callS X59 hx (y := (⟨"com/example/hemawire/hemawire/serve/TextFiles", "characterEnd", "([BI)I"⟩ : MethodName)) hown (mvT hZ (hw _ (List.mem_of_getElem? (i := 6) rfl))) (mvT hZ (hw _ (List.mem_of_getElem? (i := 7) rfl))) (mvT hZ (hw _ (List.mem_of_getElem? (i := 8) rfl))) (mvT hZ (hw _ (List.mem_of_getElem? (i := 9) rfl))) (by decide) (backOf (W := 0) (rm2 l Z a0 hw [] b2 (1 : Int32) (nar .byte (p1.toInt8.toInt32)) (nar .byte (p2.toInt8.toInt32)) (nar .byte (p3.toInt8.toInt32)) (nar .byte (p4.toInt8.toInt32)) (nar .byte (p5.toInt8.toInt32)) k2 h12 n0 Z12 V56 (by decide)) hZ (hw _ (List.mem_of_getElem? (i := 9) rfl)) (hw _ (List.mem_of_getElem? (i := 8) rfl)) (by decide) (by decide)) (g := (mkF m 147 #[.val (.int p1), .val (.int p2), .val (.int p3), .val (.int p4), .val (.int p5), .val (.int p6), .val (.ref b2), .val (.int (1 : Int32)), .val (.int (4 : Int32)), .val (.int ((nar .byte (p2.toInt8.toInt32)) &&& (255 : Int32))), .val (.int ((nar .byte (p3.toInt8.toInt32)) &&& (255 : Int32))), .val (.int ((nar .byte (p4.toInt8.toInt32)) &&& (255 : Int32))), .val (.int ((nar .byte (p5.toInt8.toInt32)) &&& (255 : Int32))), .val (.int (sp1 ((nar .byte (p2.toInt8.toInt32)) &&& (255 : Int32)) ((nar .byte (p3.toInt8.toInt32)) &&& (255 : Int32)) ((nar .byte (p4.toInt8.toInt32)) &&& (255 : Int32)) ((nar .byte (p5.toInt8.toInt32)) &&& (255 : Int32)) (4 : Int32) (1 : Int32)))] [(.int (1 : Int32)), (.ref b2)])) rfl (by rw [hml]; rfl) (argsL := [(.ref b2), (.int (1 : Int32))]) (rest := []) (lenOf pd0_1 rfl) rfl (by show 2 * 0 + _ ≤ _; exact Nat.le_of_eq rfl) (hb hby at_147) (fun _ _ => ⟨rfl, hh59, (by decide : 1 + 0 ≤ _), (by decide : 5 + 0 ≤ _)⟩)
      dsimp only [Pt.U, Pt.locs, Pt.cells, Pt.slots] at X61 l61 y61 z61 st61 hQ61
      subst l61 y61 z61
      obtain ⟨rfl, N61q, hh61⟩ := hQ61
      have N61 := Fr.app N59 N61q
      have k63 : ∀ t, Steps p.tables e below (T61.setTop (mkF m 152 #[.val (.int p1), .val (.int p2), .val (.int p3), .val (.int p4), .val (.int p5), .val (.int p6), .val (.ref b2), .val (.int (1 : Int32)), .val (.int (4 : Int32)), .val (.int ((nar .byte (p2.toInt8.toInt32)) &&& (255 : Int32))), .val (.int ((nar .byte (p3.toInt8.toInt32)) &&& (255 : Int32))), .val (.int ((nar .byte (p4.toInt8.toInt32)) &&& (255 : Int32))), .val (.int ((nar .byte (p5.toInt8.toInt32)) &&& (255 : Int32))), .val (.int (sp1 ((nar .byte (p2.toInt8.toInt32)) &&& (255 : Int32)) ((nar .byte (p3.toInt8.toInt32)) &&& (255 : Int32)) ((nar .byte (p4.toInt8.toInt32)) &&& (255 : Int32)) ((nar .byte (p5.toInt8.toInt32)) &&& (255 : Int32)) (4 : Int32) (1 : Int32)))] [(.int (sp1 ((nar .byte (p2.toInt8.toInt32)) &&& (255 : Int32)) ((nar .byte (p3.toInt8.toInt32)) &&& (255 : Int32)) ((nar .byte (p4.toInt8.toInt32)) &&& (255 : Int32)) ((nar .byte (p5.toInt8.toInt32)) &&& (255 : Int32)) (4 : Int32) (1 : Int32))), (.int (sp2 (1 : Int32) (nar .byte (p1.toInt8.toInt32)) (nar .byte (p2.toInt8.toInt32)) (nar .byte (p3.toInt8.toInt32)) (nar .byte (p4.toInt8.toInt32)) (nar .byte (p5.toInt8.toInt32))))])) t → Steps p.tables e below (s₁.setTop (mkF m 0 #[.val (.int p1), .val (.int p2), .val (.int p3), .val (.int p4), .val (.int p5), .val (.int p6), .unset, .unset, .unset, .unset, .unset, .unset, .unset, .unset] [])) t := fun t kt => k60 t (by
        show Steps p.tables e below (T59.setTop (mkF m 147 #[.val (.int p1), .val (.int p2), .val (.int p3), .val (.int p4), .val (.int p5), .val (.int p6), .val (.ref b2), .val (.int (1 : Int32)), .val (.int (4 : Int32)), .val (.int ((nar .byte (p2.toInt8.toInt32)) &&& (255 : Int32))), .val (.int ((nar .byte (p3.toInt8.toInt32)) &&& (255 : Int32))), .val (.int ((nar .byte (p4.toInt8.toInt32)) &&& (255 : Int32))), .val (.int ((nar .byte (p5.toInt8.toInt32)) &&& (255 : Int32))), .val (.int (sp1 ((nar .byte (p2.toInt8.toInt32)) &&& (255 : Int32)) ((nar .byte (p3.toInt8.toInt32)) &&& (255 : Int32)) ((nar .byte (p4.toInt8.toInt32)) &&& (255 : Int32)) ((nar .byte (p5.toInt8.toInt32)) &&& (255 : Int32)) (4 : Int32) (1 : Int32)))] [(.int (1 : Int32)), (.ref b2)])) _
        refine st61 _ ?_
        show Steps p.tables e below (T61.setTop (mkF m 150 #[.val (.int p1), .val (.int p2), .val (.int p3), .val (.int p4), .val (.int p5), .val (.int p6), .val (.ref b2), .val (.int (1 : Int32)), .val (.int (4 : Int32)), .val (.int ((nar .byte (p2.toInt8.toInt32)) &&& (255 : Int32))), .val (.int ((nar .byte (p3.toInt8.toInt32)) &&& (255 : Int32))), .val (.int ((nar .byte (p4.toInt8.toInt32)) &&& (255 : Int32))), .val (.int ((nar .byte (p5.toInt8.toInt32)) &&& (255 : Int32))), .val (.int (sp1 ((nar .byte (p2.toInt8.toInt32)) &&& (255 : Int32)) ((nar .byte (p3.toInt8.toInt32)) &&& (255 : Int32)) ((nar .byte (p4.toInt8.toInt32)) &&& (255 : Int32)) ((nar .byte (p5.toInt8.toInt32)) &&& (255 : Int32)) (4 : Int32) (1 : Int32)))] [(.int (sp2 (1 : Int32) (nar .byte (p1.toInt8.toInt32)) (nar .byte (p2.toInt8.toInt32)) (nar .byte (p3.toInt8.toInt32)) (nar .byte (p4.toInt8.toInt32)) (nar .byte (p5.toInt8.toInt32))))])) _
        refine XS.iload X61.here hx rfl (hb hby at_150) rfl ?_
        exact kt)
      by_cases c152_62 : (sp2 (1 : Int32) (nar .byte (p1.toInt8.toInt32)) (nar .byte (p2.toInt8.toInt32)) (nar .byte (p3.toInt8.toInt32)) (nar .byte (p4.toInt8.toInt32)) (nar .byte (p5.toInt8.toInt32))) = (sp1 ((nar .byte (p2.toInt8.toInt32)) &&& (255 : Int32)) ((nar .byte (p3.toInt8.toInt32)) &&& (255 : Int32)) ((nar .byte (p4.toInt8.toInt32)) &&& (255 : Int32)) ((nar .byte (p5.toInt8.toInt32)) &&& (255 : Int32)) (4 : Int32) (1 : Int32))
      · obtain ⟨fs, hr, hrun, hended, hW, hsame⟩ := X61.leave (v := some (.int (1 : Int32))) (fun h => by rw [Bd.returns] at h; cases h)
        refine ⟨_, _, pre0 _ (k63 _ ?_), hrun, hended, _, _, rfl, ?_, ⟨_, rfl⟩, hW, hsame.mono (by decide) (by decide)⟩
        · show Steps p.tables e below (T61.setTop (mkF m 152 #[.val (.int p1), .val (.int p2), .val (.int p3), .val (.int p4), .val (.int p5), .val (.int p6), .val (.ref b2), .val (.int (1 : Int32)), .val (.int (4 : Int32)), .val (.int ((nar .byte (p2.toInt8.toInt32)) &&& (255 : Int32))), .val (.int ((nar .byte (p3.toInt8.toInt32)) &&& (255 : Int32))), .val (.int ((nar .byte (p4.toInt8.toInt32)) &&& (255 : Int32))), .val (.int ((nar .byte (p5.toInt8.toInt32)) &&& (255 : Int32))), .val (.int (sp1 ((nar .byte (p2.toInt8.toInt32)) &&& (255 : Int32)) ((nar .byte (p3.toInt8.toInt32)) &&& (255 : Int32)) ((nar .byte (p4.toInt8.toInt32)) &&& (255 : Int32)) ((nar .byte (p5.toInt8.toInt32)) &&& (255 : Int32)) (4 : Int32) (1 : Int32)))] [(.int (sp1 ((nar .byte (p2.toInt8.toInt32)) &&& (255 : Int32)) ((nar .byte (p3.toInt8.toInt32)) &&& (255 : Int32)) ((nar .byte (p4.toInt8.toInt32)) &&& (255 : Int32)) ((nar .byte (p5.toInt8.toInt32)) &&& (255 : Int32)) (4 : Int32) (1 : Int32))), (.int (sp2 (1 : Int32) (nar .byte (p1.toInt8.toInt32)) (nar .byte (p2.toInt8.toInt32)) (nar .byte (p3.toInt8.toInt32)) (nar .byte (p4.toInt8.toInt32)) (nar .byte (p5.toInt8.toInt32))))])) _
          refine XS.icmpNo X61.here hx rfl (hb hby at_152) rfl (teq c152_62).2 ?_
          show Steps p.tables e below (T61.setTop (mkF m 155 #[.val (.int p1), .val (.int p2), .val (.int p3), .val (.int p4), .val (.int p5), .val (.int p6), .val (.ref b2), .val (.int (1 : Int32)), .val (.int (4 : Int32)), .val (.int ((nar .byte (p2.toInt8.toInt32)) &&& (255 : Int32))), .val (.int ((nar .byte (p3.toInt8.toInt32)) &&& (255 : Int32))), .val (.int ((nar .byte (p4.toInt8.toInt32)) &&& (255 : Int32))), .val (.int ((nar .byte (p5.toInt8.toInt32)) &&& (255 : Int32))), .val (.int (sp1 ((nar .byte (p2.toInt8.toInt32)) &&& (255 : Int32)) ((nar .byte (p3.toInt8.toInt32)) &&& (255 : Int32)) ((nar .byte (p4.toInt8.toInt32)) &&& (255 : Int32)) ((nar .byte (p5.toInt8.toInt32)) &&& (255 : Int32)) (4 : Int32) (1 : Int32)))] [])) _
          refine XS.iconst X61.here hx rfl (hb hby at_155) ?_
          show Steps p.tables e below (T61.setTop (mkF m 156 #[.val (.int p1), .val (.int p2), .val (.int p3), .val (.int p4), .val (.int p5), .val (.int p6), .val (.ref b2), .val (.int (1 : Int32)), .val (.int (4 : Int32)), .val (.int ((nar .byte (p2.toInt8.toInt32)) &&& (255 : Int32))), .val (.int ((nar .byte (p3.toInt8.toInt32)) &&& (255 : Int32))), .val (.int ((nar .byte (p4.toInt8.toInt32)) &&& (255 : Int32))), .val (.int ((nar .byte (p5.toInt8.toInt32)) &&& (255 : Int32))), .val (.int (sp1 ((nar .byte (p2.toInt8.toInt32)) &&& (255 : Int32)) ((nar .byte (p3.toInt8.toInt32)) &&& (255 : Int32)) ((nar .byte (p4.toInt8.toInt32)) &&& (255 : Int32)) ((nar .byte (p5.toInt8.toInt32)) &&& (255 : Int32)) (4 : Int32) (1 : Int32)))] [(.int (1 : Int32))])) _
          refine XS.goto X61.here hx rfl (pc0 := 156) (pc' := 160) rfl (hb hby at_156) (by decide) (by decide) ?_
          show Steps p.tables e below (T61.setTop (mkF m 160 #[.val (.int p1), .val (.int p2), .val (.int p3), .val (.int p4), .val (.int p5), .val (.int p6), .val (.ref b2), .val (.int (1 : Int32)), .val (.int (4 : Int32)), .val (.int ((nar .byte (p2.toInt8.toInt32)) &&& (255 : Int32))), .val (.int ((nar .byte (p3.toInt8.toInt32)) &&& (255 : Int32))), .val (.int ((nar .byte (p4.toInt8.toInt32)) &&& (255 : Int32))), .val (.int ((nar .byte (p5.toInt8.toInt32)) &&& (255 : Int32))), .val (.int (sp1 ((nar .byte (p2.toInt8.toInt32)) &&& (255 : Int32)) ((nar .byte (p3.toInt8.toInt32)) &&& (255 : Int32)) ((nar .byte (p4.toInt8.toInt32)) &&& (255 : Int32)) ((nar .byte (p5.toInt8.toInt32)) &&& (255 : Int32)) (4 : Int32) (1 : Int32)))] [(.int (1 : Int32))])) _
          exact retN X61 hx (t := .boolean) Bd.returns (by simp) (hb hby at_160) hr
        · show Q0 Z p1 p2 p3 p4 p5 p6 h0 n0 _ T61.heap _
          rw [hh61]
          have hv : sp0 p1 p2 p3 p4 p5 p6 = (1 : Int32) := by unfold sp0; rw [if_neg c40_14, if_pos c40_39, if_pos c152_62]
          exact ⟨by rw [← hv, own_law p1 p2 p3 p4 p5 p6], N61⟩
      · obtain ⟨fs, hr, hrun, hended, hW, hsame⟩ := X61.leave (v := some (.int (0 : Int32))) (fun h => by rw [Bd.returns] at h; cases h)
        refine ⟨_, _, pre0 _ (k63 _ ?_), hrun, hended, _, _, rfl, ?_, ⟨_, rfl⟩, hW, hsame.mono (by decide) (by decide)⟩
        · show Steps p.tables e below (T61.setTop (mkF m 152 #[.val (.int p1), .val (.int p2), .val (.int p3), .val (.int p4), .val (.int p5), .val (.int p6), .val (.ref b2), .val (.int (1 : Int32)), .val (.int (4 : Int32)), .val (.int ((nar .byte (p2.toInt8.toInt32)) &&& (255 : Int32))), .val (.int ((nar .byte (p3.toInt8.toInt32)) &&& (255 : Int32))), .val (.int ((nar .byte (p4.toInt8.toInt32)) &&& (255 : Int32))), .val (.int ((nar .byte (p5.toInt8.toInt32)) &&& (255 : Int32))), .val (.int (sp1 ((nar .byte (p2.toInt8.toInt32)) &&& (255 : Int32)) ((nar .byte (p3.toInt8.toInt32)) &&& (255 : Int32)) ((nar .byte (p4.toInt8.toInt32)) &&& (255 : Int32)) ((nar .byte (p5.toInt8.toInt32)) &&& (255 : Int32)) (4 : Int32) (1 : Int32)))] [(.int (sp1 ((nar .byte (p2.toInt8.toInt32)) &&& (255 : Int32)) ((nar .byte (p3.toInt8.toInt32)) &&& (255 : Int32)) ((nar .byte (p4.toInt8.toInt32)) &&& (255 : Int32)) ((nar .byte (p5.toInt8.toInt32)) &&& (255 : Int32)) (4 : Int32) (1 : Int32))), (.int (sp2 (1 : Int32) (nar .byte (p1.toInt8.toInt32)) (nar .byte (p2.toInt8.toInt32)) (nar .byte (p3.toInt8.toInt32)) (nar .byte (p4.toInt8.toInt32)) (nar .byte (p5.toInt8.toInt32))))])) _
          refine XS.icmpYes X61.here hx rfl (pc0 := 152) (pc' := 159) rfl (hb hby at_152) rfl (feq c152_62).2 (by decide) (by decide) ?_
          show Steps p.tables e below (T61.setTop (mkF m 159 #[.val (.int p1), .val (.int p2), .val (.int p3), .val (.int p4), .val (.int p5), .val (.int p6), .val (.ref b2), .val (.int (1 : Int32)), .val (.int (4 : Int32)), .val (.int ((nar .byte (p2.toInt8.toInt32)) &&& (255 : Int32))), .val (.int ((nar .byte (p3.toInt8.toInt32)) &&& (255 : Int32))), .val (.int ((nar .byte (p4.toInt8.toInt32)) &&& (255 : Int32))), .val (.int ((nar .byte (p5.toInt8.toInt32)) &&& (255 : Int32))), .val (.int (sp1 ((nar .byte (p2.toInt8.toInt32)) &&& (255 : Int32)) ((nar .byte (p3.toInt8.toInt32)) &&& (255 : Int32)) ((nar .byte (p4.toInt8.toInt32)) &&& (255 : Int32)) ((nar .byte (p5.toInt8.toInt32)) &&& (255 : Int32)) (4 : Int32) (1 : Int32)))] [])) _
          refine XS.iconst X61.here hx rfl (hb hby at_159) ?_
          show Steps p.tables e below (T61.setTop (mkF m 160 #[.val (.int p1), .val (.int p2), .val (.int p3), .val (.int p4), .val (.int p5), .val (.int p6), .val (.ref b2), .val (.int (1 : Int32)), .val (.int (4 : Int32)), .val (.int ((nar .byte (p2.toInt8.toInt32)) &&& (255 : Int32))), .val (.int ((nar .byte (p3.toInt8.toInt32)) &&& (255 : Int32))), .val (.int ((nar .byte (p4.toInt8.toInt32)) &&& (255 : Int32))), .val (.int ((nar .byte (p5.toInt8.toInt32)) &&& (255 : Int32))), .val (.int (sp1 ((nar .byte (p2.toInt8.toInt32)) &&& (255 : Int32)) ((nar .byte (p3.toInt8.toInt32)) &&& (255 : Int32)) ((nar .byte (p4.toInt8.toInt32)) &&& (255 : Int32)) ((nar .byte (p5.toInt8.toInt32)) &&& (255 : Int32)) (4 : Int32) (1 : Int32)))] [(.int (0 : Int32))])) _
          exact retN X61 hx (t := .boolean) Bd.returns (by simp) (hb hby at_160) hr
        · show Q0 Z p1 p2 p3 p4 p5 p6 h0 n0 _ T61.heap _
          rw [hh61]
          have hv : sp0 p1 p2 p3 p4 p5 p6 = (0 : Int32) := by unfold sp0; rw [if_neg c40_14, if_pos c40_39, if_neg c152_62]
          exact ⟨by rw [← hv, own_law p1 p2 p3 p4 p5 p6], N61⟩
    · by_cases c40_64 : ((p6 &&& (2147483647 : Int32)) % (5 : Int32)) = (2 : Int32)
      · rw [c40_64] at k13
        have k65 : ∀ t, Steps p.tables e below (T12.setTop (mkF m 50 #[.val (.int p1), .val (.int p2), .val (.int p3), .val (.int p4), .val (.int p5), .val (.int p6), .val (.ref b2), .val (.int (2 : Int32)), .val (.int (3 : Int32)), .unset, .unset, .unset, .unset, .unset] [(.int (2 : Int32)), (.ref b2)])) t → Steps p.tables e below (s₁.setTop (mkF m 0 #[.val (.int p1), .val (.int p2), .val (.int p3), .val (.int p4), .val (.int p5), .val (.int p6), .unset, .unset, .unset, .unset, .unset, .unset, .unset, .unset] [])) t := fun t kt => k13 t (by
          show Steps p.tables e below (T12.setTop (mkF m 40 #[.val (.int p1), .val (.int p2), .val (.int p3), .val (.int p4), .val (.int p5), .val (.int p6), .val (.ref b2), .val (.int (2 : Int32)), .unset, .unset, .unset, .unset, .unset, .unset] [])) _
          refine XS.iconst X12.here hx rfl (hb hby at_40) ?_
          show Steps p.tables e below (T12.setTop (mkF m 41 #[.val (.int p1), .val (.int p2), .val (.int p3), .val (.int p4), .val (.int p5), .val (.int p6), .val (.ref b2), .val (.int (2 : Int32)), .unset, .unset, .unset, .unset, .unset, .unset] [(.int (5 : Int32))])) _
          refine XS.iload X12.here hx rfl (hb hby at_41) rfl ?_
          show Steps p.tables e below (T12.setTop (mkF m 43 #[.val (.int p1), .val (.int p2), .val (.int p3), .val (.int p4), .val (.int p5), .val (.int p6), .val (.ref b2), .val (.int (2 : Int32)), .unset, .unset, .unset, .unset, .unset, .unset] [(.int (2 : Int32)), (.int (5 : Int32))])) _
          refine XS.isub X12.here hx rfl (hb hby at_43) rfl ?_
          show Steps p.tables e below (T12.setTop (mkF m 44 #[.val (.int p1), .val (.int p2), .val (.int p3), .val (.int p4), .val (.int p5), .val (.int p6), .val (.ref b2), .val (.int (2 : Int32)), .unset, .unset, .unset, .unset, .unset, .unset] [(.int (3 : Int32))])) _
          refine XS.istore X12.here hx rfl (hb hby at_44) rfl (l' := #[.val (.int p1), .val (.int p2), .val (.int p3), .val (.int p4), .val (.int p5), .val (.int p6), .val (.ref b2), .val (.int (2 : Int32)), .val (.int (3 : Int32)), .unset, .unset, .unset, .unset, .unset]) rfl ?_
          show Steps p.tables e below (T12.setTop (mkF m 46 #[.val (.int p1), .val (.int p2), .val (.int p3), .val (.int p4), .val (.int p5), .val (.int p6), .val (.ref b2), .val (.int (2 : Int32)), .val (.int (3 : Int32)), .unset, .unset, .unset, .unset, .unset] [])) _
          refine XS.aload X12.here hx rfl (hb hby at_46) rfl rfl ?_
          show Steps p.tables e below (T12.setTop (mkF m 48 #[.val (.int p1), .val (.int p2), .val (.int p3), .val (.int p4), .val (.int p5), .val (.int p6), .val (.ref b2), .val (.int (2 : Int32)), .val (.int (3 : Int32)), .unset, .unset, .unset, .unset, .unset] [(.ref b2)])) _
          refine XS.iload X12.here hx rfl (hb hby at_48) rfl ?_
          exact kt)
        obtain ⟨cl66, Ar66, q66, S66, N66', H66, G66⟩ := V12
        have hin66 : ¬ ((2 : Int32) < 0 ∨ cl66.slots.size ≤ ((2 : Int32)).toNatClampNeg) := inb_of S66 ⟨by decide, by decide⟩
        have hat66 : cl66.slots[((2 : Int32)).toNatClampNeg]? = some (.int (nar .byte (p3.toInt8.toInt32))) := H66.at hin66 rfl
        have V66 : Arv Z h12 b2 k2 .byte (5 : Int32) [(.int (nar .byte (p1.toInt8.toInt32))), (.int (nar .byte (p2.toInt8.toInt32))), (.int (nar .byte (p3.toInt8.toInt32))), (.int (nar .byte (p4.toInt8.toInt32))), (.int (nar .byte (p5.toInt8.toInt32)))] (.int (0 : Int32)) := ⟨cl66, Ar66, q66, S66, N66', H66, G66⟩
        have k67 : ∀ t, Steps p.tables e below (T12.setTop (mkF m 51 #[.val (.int p1), .val (.int p2), .val (.int p3), .val (.int p4), .val (.int p5), .val (.int p6), .val (.ref b2), .val (.int (2 : Int32)), .val (.int (3 : Int32)), .unset, .unset, .unset, .unset, .unset] [(.int (nar .byte (p3.toInt8.toInt32)))])) t → Steps p.tables e below (s₁.setTop (mkF m 0 #[.val (.int p1), .val (.int p2), .val (.int p3), .val (.int p4), .val (.int p5), .val (.int p6), .unset, .unset, .unset, .unset, .unset, .unset, .unset, .unset] [])) t := fun t kt => k65 t (by
          show Steps p.tables e below (T12.setTop (mkF m 50 #[.val (.int p1), .val (.int p2), .val (.int p3), .val (.int p4), .val (.int p5), .val (.int p6), .val (.ref b2), .val (.int (2 : Int32)), .val (.int (3 : Int32)), .unset, .unset, .unset, .unset, .unset] [(.int (2 : Int32)), (.ref b2)])) _
          refine X12.baloadBytes hx (j := (2 : Int32)) (v := (.int (nar .byte (p3.toInt8.toInt32)))) (by rw [e12]; exact Ar66.1) (State.isArrayOf_alike hZ.alike Ar66.2.1) Ar66.2.2 hin66 hat66 (g := (mkF m 50 #[.val (.int p1), .val (.int p2), .val (.int p3), .val (.int p4), .val (.int p5), .val (.int p6), .val (.ref b2), .val (.int (2 : Int32)), .val (.int (3 : Int32)), .unset, .unset, .unset, .unset, .unset] [(.int (2 : Int32)), (.ref b2)])) rfl rfl (hb hby at_50) _ ?_
          exact kt)
        have k69 : ∀ t, Steps p.tables e below (T12.setTop (mkF m 60 #[.val (.int p1), .val (.int p2), .val (.int p3), .val (.int p4), .val (.int p5), .val (.int p6), .val (.ref b2), .val (.int (2 : Int32)), .val (.int (3 : Int32)), .val (.int ((nar .byte (p3.toInt8.toInt32)) &&& (255 : Int32))), .unset, .unset, .unset, .unset] [(.int (1 : Int32)), (.int (3 : Int32))])) t → Steps p.tables e below (s₁.setTop (mkF m 0 #[.val (.int p1), .val (.int p2), .val (.int p3), .val (.int p4), .val (.int p5), .val (.int p6), .unset, .unset, .unset, .unset, .unset, .unset, .unset, .unset] [])) t := fun t kt => k67 t (by
          show Steps p.tables e below (T12.setTop (mkF m 51 #[.val (.int p1), .val (.int p2), .val (.int p3), .val (.int p4), .val (.int p5), .val (.int p6), .val (.ref b2), .val (.int (2 : Int32)), .val (.int (3 : Int32)), .unset, .unset, .unset, .unset, .unset] [(.int (nar .byte (p3.toInt8.toInt32)))])) _
          refine XS.sipush X12.here hx rfl (hb hby at_51) ?_
          show Steps p.tables e below (T12.setTop (mkF m 54 #[.val (.int p1), .val (.int p2), .val (.int p3), .val (.int p4), .val (.int p5), .val (.int p6), .val (.ref b2), .val (.int (2 : Int32)), .val (.int (3 : Int32)), .unset, .unset, .unset, .unset, .unset] [(.int (255 : Int32)), (.int (nar .byte (p3.toInt8.toInt32)))])) _
          refine XS.iand X12.here hx rfl (hb hby at_54) rfl ?_
          show Steps p.tables e below (T12.setTop (mkF m 55 #[.val (.int p1), .val (.int p2), .val (.int p3), .val (.int p4), .val (.int p5), .val (.int p6), .val (.ref b2), .val (.int (2 : Int32)), .val (.int (3 : Int32)), .unset, .unset, .unset, .unset, .unset] [(.int ((nar .byte (p3.toInt8.toInt32)) &&& (255 : Int32)))])) _
          refine XS.istore X12.here hx rfl (hb hby at_55) rfl (l' := #[.val (.int p1), .val (.int p2), .val (.int p3), .val (.int p4), .val (.int p5), .val (.int p6), .val (.ref b2), .val (.int (2 : Int32)), .val (.int (3 : Int32)), .val (.int ((nar .byte (p3.toInt8.toInt32)) &&& (255 : Int32))), .unset, .unset, .unset, .unset]) rfl ?_
          show Steps p.tables e below (T12.setTop (mkF m 57 #[.val (.int p1), .val (.int p2), .val (.int p3), .val (.int p4), .val (.int p5), .val (.int p6), .val (.ref b2), .val (.int (2 : Int32)), .val (.int (3 : Int32)), .val (.int ((nar .byte (p3.toInt8.toInt32)) &&& (255 : Int32))), .unset, .unset, .unset, .unset] [])) _
          refine XS.iload X12.here hx rfl (hb hby at_57) rfl ?_
          show Steps p.tables e below (T12.setTop (mkF m 59 #[.val (.int p1), .val (.int p2), .val (.int p3), .val (.int p4), .val (.int p5), .val (.int p6), .val (.ref b2), .val (.int (2 : Int32)), .val (.int (3 : Int32)), .val (.int ((nar .byte (p3.toInt8.toInt32)) &&& (255 : Int32))), .unset, .unset, .unset, .unset] [(.int (3 : Int32))])) _
          refine XS.iconst X12.here hx rfl (hb hby at_59) ?_
          exact kt)
        have c60_68 : (1 : Int32) < (3 : Int32) := by decide
        have k70 : ∀ t, Steps p.tables e below (T12.setTop (mkF m 69 #[.val (.int p1), .val (.int p2), .val (.int p3), .val (.int p4), .val (.int p5), .val (.int p6), .val (.ref b2), .val (.int (2 : Int32)), .val (.int (3 : Int32)), .val (.int ((nar .byte (p3.toInt8.toInt32)) &&& (255 : Int32))), .unset, .unset, .unset, .unset] [(.int (3 : Int32)), (.ref b2)])) t → Steps p.tables e below (s₁.setTop (mkF m 0 #[.val (.int p1), .val (.int p2), .val (.int p3), .val (.int p4), .val (.int p5), .val (.int p6), .unset, .unset, .unset, .unset, .unset, .unset, .unset, .unset] [])) t := fun t kt => k69 t (by
          show Steps p.tables e below (T12.setTop (mkF m 60 #[.val (.int p1), .val (.int p2), .val (.int p3), .val (.int p4), .val (.int p5), .val (.int p6), .val (.ref b2), .val (.int (2 : Int32)), .val (.int (3 : Int32)), .val (.int ((nar .byte (p3.toInt8.toInt32)) &&& (255 : Int32))), .unset, .unset, .unset, .unset] [(.int (1 : Int32)), (.int (3 : Int32))])) _
          refine XS.icmpNo X12.here hx rfl (hb hby at_60) rfl (tlt c60_68).2.2.2 ?_
          show Steps p.tables e below (T12.setTop (mkF m 63 #[.val (.int p1), .val (.int p2), .val (.int p3), .val (.int p4), .val (.int p5), .val (.int p6), .val (.ref b2), .val (.int (2 : Int32)), .val (.int (3 : Int32)), .val (.int ((nar .byte (p3.toInt8.toInt32)) &&& (255 : Int32))), .unset, .unset, .unset, .unset] [])) _
          refine XS.aload X12.here hx rfl (hb hby at_63) rfl rfl ?_
          show Steps p.tables e below (T12.setTop (mkF m 65 #[.val (.int p1), .val (.int p2), .val (.int p3), .val (.int p4), .val (.int p5), .val (.int p6), .val (.ref b2), .val (.int (2 : Int32)), .val (.int (3 : Int32)), .val (.int ((nar .byte (p3.toInt8.toInt32)) &&& (255 : Int32))), .unset, .unset, .unset, .unset] [(.ref b2)])) _
          refine XS.iload X12.here hx rfl (hb hby at_65) rfl ?_
          show Steps p.tables e below (T12.setTop (mkF m 67 #[.val (.int p1), .val (.int p2), .val (.int p3), .val (.int p4), .val (.int p5), .val (.int p6), .val (.ref b2), .val (.int (2 : Int32)), .val (.int (3 : Int32)), .val (.int ((nar .byte (p3.toInt8.toInt32)) &&& (255 : Int32))), .unset, .unset, .unset, .unset] [(.int (2 : Int32)), (.ref b2)])) _
          refine XS.iconst X12.here hx rfl (hb hby at_67) ?_
          show Steps p.tables e below (T12.setTop (mkF m 68 #[.val (.int p1), .val (.int p2), .val (.int p3), .val (.int p4), .val (.int p5), .val (.int p6), .val (.ref b2), .val (.int (2 : Int32)), .val (.int (3 : Int32)), .val (.int ((nar .byte (p3.toInt8.toInt32)) &&& (255 : Int32))), .unset, .unset, .unset, .unset] [(.int (1 : Int32)), (.int (2 : Int32)), (.ref b2)])) _
          refine XS.iadd X12.here hx rfl (hb hby at_68) rfl ?_
          exact kt)
        obtain ⟨cl71, Ar71, q71, S71, N71', H71, G71⟩ := V66
        have hin71 : ¬ ((3 : Int32) < 0 ∨ cl71.slots.size ≤ ((3 : Int32)).toNatClampNeg) := inb_of S71 ⟨by decide, by decide⟩
        have hat71 : cl71.slots[((3 : Int32)).toNatClampNeg]? = some (.int (nar .byte (p4.toInt8.toInt32))) := H71.at hin71 rfl
        have V71 : Arv Z h12 b2 k2 .byte (5 : Int32) [(.int (nar .byte (p1.toInt8.toInt32))), (.int (nar .byte (p2.toInt8.toInt32))), (.int (nar .byte (p3.toInt8.toInt32))), (.int (nar .byte (p4.toInt8.toInt32))), (.int (nar .byte (p5.toInt8.toInt32)))] (.int (0 : Int32)) := ⟨cl71, Ar71, q71, S71, N71', H71, G71⟩
        have k72 : ∀ t, Steps p.tables e below (T12.setTop (mkF m 70 #[.val (.int p1), .val (.int p2), .val (.int p3), .val (.int p4), .val (.int p5), .val (.int p6), .val (.ref b2), .val (.int (2 : Int32)), .val (.int (3 : Int32)), .val (.int ((nar .byte (p3.toInt8.toInt32)) &&& (255 : Int32))), .unset, .unset, .unset, .unset] [(.int (nar .byte (p4.toInt8.toInt32)))])) t → Steps p.tables e below (s₁.setTop (mkF m 0 #[.val (.int p1), .val (.int p2), .val (.int p3), .val (.int p4), .val (.int p5), .val (.int p6), .unset, .unset, .unset, .unset, .unset, .unset, .unset, .unset] [])) t := fun t kt => k70 t (by
          show Steps p.tables e below (T12.setTop (mkF m 69 #[.val (.int p1), .val (.int p2), .val (.int p3), .val (.int p4), .val (.int p5), .val (.int p6), .val (.ref b2), .val (.int (2 : Int32)), .val (.int (3 : Int32)), .val (.int ((nar .byte (p3.toInt8.toInt32)) &&& (255 : Int32))), .unset, .unset, .unset, .unset] [(.int (3 : Int32)), (.ref b2)])) _
          refine X12.baloadBytes hx (j := (3 : Int32)) (v := (.int (nar .byte (p4.toInt8.toInt32)))) (by rw [e12]; exact Ar71.1) (State.isArrayOf_alike hZ.alike Ar71.2.1) Ar71.2.2 hin71 hat71 (g := (mkF m 69 #[.val (.int p1), .val (.int p2), .val (.int p3), .val (.int p4), .val (.int p5), .val (.int p6), .val (.ref b2), .val (.int (2 : Int32)), .val (.int (3 : Int32)), .val (.int ((nar .byte (p3.toInt8.toInt32)) &&& (255 : Int32))), .unset, .unset, .unset, .unset] [(.int (3 : Int32)), (.ref b2)])) rfl rfl (hb hby at_69) _ ?_
          exact kt)
        have k74 : ∀ t, Steps p.tables e below (T12.setTop (mkF m 83 #[.val (.int p1), .val (.int p2), .val (.int p3), .val (.int p4), .val (.int p5), .val (.int p6), .val (.ref b2), .val (.int (2 : Int32)), .val (.int (3 : Int32)), .val (.int ((nar .byte (p3.toInt8.toInt32)) &&& (255 : Int32))), .val (.int ((nar .byte (p4.toInt8.toInt32)) &&& (255 : Int32))), .unset, .unset, .unset] [(.int (2 : Int32)), (.int (3 : Int32))])) t → Steps p.tables e below (s₁.setTop (mkF m 0 #[.val (.int p1), .val (.int p2), .val (.int p3), .val (.int p4), .val (.int p5), .val (.int p6), .unset, .unset, .unset, .unset, .unset, .unset, .unset, .unset] [])) t := fun t kt => k72 t (by
          show Steps p.tables e below (T12.setTop (mkF m 70 #[.val (.int p1), .val (.int p2), .val (.int p3), .val (.int p4), .val (.int p5), .val (.int p6), .val (.ref b2), .val (.int (2 : Int32)), .val (.int (3 : Int32)), .val (.int ((nar .byte (p3.toInt8.toInt32)) &&& (255 : Int32))), .unset, .unset, .unset, .unset] [(.int (nar .byte (p4.toInt8.toInt32)))])) _
          refine XS.sipush X12.here hx rfl (hb hby at_70) ?_
          show Steps p.tables e below (T12.setTop (mkF m 73 #[.val (.int p1), .val (.int p2), .val (.int p3), .val (.int p4), .val (.int p5), .val (.int p6), .val (.ref b2), .val (.int (2 : Int32)), .val (.int (3 : Int32)), .val (.int ((nar .byte (p3.toInt8.toInt32)) &&& (255 : Int32))), .unset, .unset, .unset, .unset] [(.int (255 : Int32)), (.int (nar .byte (p4.toInt8.toInt32)))])) _
          refine XS.iand X12.here hx rfl (hb hby at_73) rfl ?_
          show Steps p.tables e below (T12.setTop (mkF m 74 #[.val (.int p1), .val (.int p2), .val (.int p3), .val (.int p4), .val (.int p5), .val (.int p6), .val (.ref b2), .val (.int (2 : Int32)), .val (.int (3 : Int32)), .val (.int ((nar .byte (p3.toInt8.toInt32)) &&& (255 : Int32))), .unset, .unset, .unset, .unset] [(.int ((nar .byte (p4.toInt8.toInt32)) &&& (255 : Int32)))])) _
          refine XS.goto X12.here hx rfl (pc0 := 74) (pc' := 78) rfl (hb hby at_74) (by decide) (by decide) ?_
          show Steps p.tables e below (T12.setTop (mkF m 78 #[.val (.int p1), .val (.int p2), .val (.int p3), .val (.int p4), .val (.int p5), .val (.int p6), .val (.ref b2), .val (.int (2 : Int32)), .val (.int (3 : Int32)), .val (.int ((nar .byte (p3.toInt8.toInt32)) &&& (255 : Int32))), .unset, .unset, .unset, .unset] [(.int ((nar .byte (p4.toInt8.toInt32)) &&& (255 : Int32)))])) _
          refine XS.istore X12.here hx rfl (hb hby at_78) rfl (l' := #[.val (.int p1), .val (.int p2), .val (.int p3), .val (.int p4), .val (.int p5), .val (.int p6), .val (.ref b2), .val (.int (2 : Int32)), .val (.int (3 : Int32)), .val (.int ((nar .byte (p3.toInt8.toInt32)) &&& (255 : Int32))), .val (.int ((nar .byte (p4.toInt8.toInt32)) &&& (255 : Int32))), .unset, .unset, .unset]) rfl ?_
          show Steps p.tables e below (T12.setTop (mkF m 80 #[.val (.int p1), .val (.int p2), .val (.int p3), .val (.int p4), .val (.int p5), .val (.int p6), .val (.ref b2), .val (.int (2 : Int32)), .val (.int (3 : Int32)), .val (.int ((nar .byte (p3.toInt8.toInt32)) &&& (255 : Int32))), .val (.int ((nar .byte (p4.toInt8.toInt32)) &&& (255 : Int32))), .unset, .unset, .unset] [])) _
          refine XS.iload X12.here hx rfl (hb hby at_80) rfl ?_
          show Steps p.tables e below (T12.setTop (mkF m 82 #[.val (.int p1), .val (.int p2), .val (.int p3), .val (.int p4), .val (.int p5), .val (.int p6), .val (.ref b2), .val (.int (2 : Int32)), .val (.int (3 : Int32)), .val (.int ((nar .byte (p3.toInt8.toInt32)) &&& (255 : Int32))), .val (.int ((nar .byte (p4.toInt8.toInt32)) &&& (255 : Int32))), .unset, .unset, .unset] [(.int (3 : Int32))])) _
          refine XS.iconst X12.here hx rfl (hb hby at_82) ?_
          exact kt)
        have c83_73 : (2 : Int32) < (3 : Int32) := by decide
        have k75 : ∀ t, Steps p.tables e below (T12.setTop (mkF m 92 #[.val (.int p1), .val (.int p2), .val (.int p3), .val (.int p4), .val (.int p5), .val (.int p6), .val (.ref b2), .val (.int (2 : Int32)), .val (.int (3 : Int32)), .val (.int ((nar .byte (p3.toInt8.toInt32)) &&& (255 : Int32))), .val (.int ((nar .byte (p4.toInt8.toInt32)) &&& (255 : Int32))), .unset, .unset, .unset] [(.int (4 : Int32)), (.ref b2)])) t → Steps p.tables e below (s₁.setTop (mkF m 0 #[.val (.int p1), .val (.int p2), .val (.int p3), .val (.int p4), .val (.int p5), .val (.int p6), .unset, .unset, .unset, .unset, .unset, .unset, .unset, .unset] [])) t := fun t kt => k74 t (by
          show Steps p.tables e below (T12.setTop (mkF m 83 #[.val (.int p1), .val (.int p2), .val (.int p3), .val (.int p4), .val (.int p5), .val (.int p6), .val (.ref b2), .val (.int (2 : Int32)), .val (.int (3 : Int32)), .val (.int ((nar .byte (p3.toInt8.toInt32)) &&& (255 : Int32))), .val (.int ((nar .byte (p4.toInt8.toInt32)) &&& (255 : Int32))), .unset, .unset, .unset] [(.int (2 : Int32)), (.int (3 : Int32))])) _
          refine XS.icmpNo X12.here hx rfl (hb hby at_83) rfl (tlt c83_73).2.2.2 ?_
          show Steps p.tables e below (T12.setTop (mkF m 86 #[.val (.int p1), .val (.int p2), .val (.int p3), .val (.int p4), .val (.int p5), .val (.int p6), .val (.ref b2), .val (.int (2 : Int32)), .val (.int (3 : Int32)), .val (.int ((nar .byte (p3.toInt8.toInt32)) &&& (255 : Int32))), .val (.int ((nar .byte (p4.toInt8.toInt32)) &&& (255 : Int32))), .unset, .unset, .unset] [])) _
          refine XS.aload X12.here hx rfl (hb hby at_86) rfl rfl ?_
          show Steps p.tables e below (T12.setTop (mkF m 88 #[.val (.int p1), .val (.int p2), .val (.int p3), .val (.int p4), .val (.int p5), .val (.int p6), .val (.ref b2), .val (.int (2 : Int32)), .val (.int (3 : Int32)), .val (.int ((nar .byte (p3.toInt8.toInt32)) &&& (255 : Int32))), .val (.int ((nar .byte (p4.toInt8.toInt32)) &&& (255 : Int32))), .unset, .unset, .unset] [(.ref b2)])) _
          refine XS.iload X12.here hx rfl (hb hby at_88) rfl ?_
          show Steps p.tables e below (T12.setTop (mkF m 90 #[.val (.int p1), .val (.int p2), .val (.int p3), .val (.int p4), .val (.int p5), .val (.int p6), .val (.ref b2), .val (.int (2 : Int32)), .val (.int (3 : Int32)), .val (.int ((nar .byte (p3.toInt8.toInt32)) &&& (255 : Int32))), .val (.int ((nar .byte (p4.toInt8.toInt32)) &&& (255 : Int32))), .unset, .unset, .unset] [(.int (2 : Int32)), (.ref b2)])) _
          refine XS.iconst X12.here hx rfl (hb hby at_90) ?_
          show Steps p.tables e below (T12.setTop (mkF m 91 #[.val (.int p1), .val (.int p2), .val (.int p3), .val (.int p4), .val (.int p5), .val (.int p6), .val (.ref b2), .val (.int (2 : Int32)), .val (.int (3 : Int32)), .val (.int ((nar .byte (p3.toInt8.toInt32)) &&& (255 : Int32))), .val (.int ((nar .byte (p4.toInt8.toInt32)) &&& (255 : Int32))), .unset, .unset, .unset] [(.int (2 : Int32)), (.int (2 : Int32)), (.ref b2)])) _
          refine XS.iadd X12.here hx rfl (hb hby at_91) rfl ?_
          exact kt)
        obtain ⟨cl76, Ar76, q76, S76, N76', H76, G76⟩ := V71
        have hin76 : ¬ ((4 : Int32) < 0 ∨ cl76.slots.size ≤ ((4 : Int32)).toNatClampNeg) := inb_of S76 ⟨by decide, by decide⟩
        have hat76 : cl76.slots[((4 : Int32)).toNatClampNeg]? = some (.int (nar .byte (p5.toInt8.toInt32))) := H76.at hin76 rfl
        have V76 : Arv Z h12 b2 k2 .byte (5 : Int32) [(.int (nar .byte (p1.toInt8.toInt32))), (.int (nar .byte (p2.toInt8.toInt32))), (.int (nar .byte (p3.toInt8.toInt32))), (.int (nar .byte (p4.toInt8.toInt32))), (.int (nar .byte (p5.toInt8.toInt32)))] (.int (0 : Int32)) := ⟨cl76, Ar76, q76, S76, N76', H76, G76⟩
        have k77 : ∀ t, Steps p.tables e below (T12.setTop (mkF m 93 #[.val (.int p1), .val (.int p2), .val (.int p3), .val (.int p4), .val (.int p5), .val (.int p6), .val (.ref b2), .val (.int (2 : Int32)), .val (.int (3 : Int32)), .val (.int ((nar .byte (p3.toInt8.toInt32)) &&& (255 : Int32))), .val (.int ((nar .byte (p4.toInt8.toInt32)) &&& (255 : Int32))), .unset, .unset, .unset] [(.int (nar .byte (p5.toInt8.toInt32)))])) t → Steps p.tables e below (s₁.setTop (mkF m 0 #[.val (.int p1), .val (.int p2), .val (.int p3), .val (.int p4), .val (.int p5), .val (.int p6), .unset, .unset, .unset, .unset, .unset, .unset, .unset, .unset] [])) t := fun t kt => k75 t (by
          show Steps p.tables e below (T12.setTop (mkF m 92 #[.val (.int p1), .val (.int p2), .val (.int p3), .val (.int p4), .val (.int p5), .val (.int p6), .val (.ref b2), .val (.int (2 : Int32)), .val (.int (3 : Int32)), .val (.int ((nar .byte (p3.toInt8.toInt32)) &&& (255 : Int32))), .val (.int ((nar .byte (p4.toInt8.toInt32)) &&& (255 : Int32))), .unset, .unset, .unset] [(.int (4 : Int32)), (.ref b2)])) _
          refine X12.baloadBytes hx (j := (4 : Int32)) (v := (.int (nar .byte (p5.toInt8.toInt32)))) (by rw [e12]; exact Ar76.1) (State.isArrayOf_alike hZ.alike Ar76.2.1) Ar76.2.2 hin76 hat76 (g := (mkF m 92 #[.val (.int p1), .val (.int p2), .val (.int p3), .val (.int p4), .val (.int p5), .val (.int p6), .val (.ref b2), .val (.int (2 : Int32)), .val (.int (3 : Int32)), .val (.int ((nar .byte (p3.toInt8.toInt32)) &&& (255 : Int32))), .val (.int ((nar .byte (p4.toInt8.toInt32)) &&& (255 : Int32))), .unset, .unset, .unset] [(.int (4 : Int32)), (.ref b2)])) rfl rfl (hb hby at_92) _ ?_
          exact kt)
        have k79 : ∀ t, Steps p.tables e below (T12.setTop (mkF m 106 #[.val (.int p1), .val (.int p2), .val (.int p3), .val (.int p4), .val (.int p5), .val (.int p6), .val (.ref b2), .val (.int (2 : Int32)), .val (.int (3 : Int32)), .val (.int ((nar .byte (p3.toInt8.toInt32)) &&& (255 : Int32))), .val (.int ((nar .byte (p4.toInt8.toInt32)) &&& (255 : Int32))), .val (.int ((nar .byte (p5.toInt8.toInt32)) &&& (255 : Int32))), .unset, .unset] [(.int (3 : Int32)), (.int (3 : Int32))])) t → Steps p.tables e below (s₁.setTop (mkF m 0 #[.val (.int p1), .val (.int p2), .val (.int p3), .val (.int p4), .val (.int p5), .val (.int p6), .unset, .unset, .unset, .unset, .unset, .unset, .unset, .unset] [])) t := fun t kt => k77 t (by
          show Steps p.tables e below (T12.setTop (mkF m 93 #[.val (.int p1), .val (.int p2), .val (.int p3), .val (.int p4), .val (.int p5), .val (.int p6), .val (.ref b2), .val (.int (2 : Int32)), .val (.int (3 : Int32)), .val (.int ((nar .byte (p3.toInt8.toInt32)) &&& (255 : Int32))), .val (.int ((nar .byte (p4.toInt8.toInt32)) &&& (255 : Int32))), .unset, .unset, .unset] [(.int (nar .byte (p5.toInt8.toInt32)))])) _
          refine XS.sipush X12.here hx rfl (hb hby at_93) ?_
          show Steps p.tables e below (T12.setTop (mkF m 96 #[.val (.int p1), .val (.int p2), .val (.int p3), .val (.int p4), .val (.int p5), .val (.int p6), .val (.ref b2), .val (.int (2 : Int32)), .val (.int (3 : Int32)), .val (.int ((nar .byte (p3.toInt8.toInt32)) &&& (255 : Int32))), .val (.int ((nar .byte (p4.toInt8.toInt32)) &&& (255 : Int32))), .unset, .unset, .unset] [(.int (255 : Int32)), (.int (nar .byte (p5.toInt8.toInt32)))])) _
          refine XS.iand X12.here hx rfl (hb hby at_96) rfl ?_
          show Steps p.tables e below (T12.setTop (mkF m 97 #[.val (.int p1), .val (.int p2), .val (.int p3), .val (.int p4), .val (.int p5), .val (.int p6), .val (.ref b2), .val (.int (2 : Int32)), .val (.int (3 : Int32)), .val (.int ((nar .byte (p3.toInt8.toInt32)) &&& (255 : Int32))), .val (.int ((nar .byte (p4.toInt8.toInt32)) &&& (255 : Int32))), .unset, .unset, .unset] [(.int ((nar .byte (p5.toInt8.toInt32)) &&& (255 : Int32)))])) _
          refine XS.goto X12.here hx rfl (pc0 := 97) (pc' := 101) rfl (hb hby at_97) (by decide) (by decide) ?_
          show Steps p.tables e below (T12.setTop (mkF m 101 #[.val (.int p1), .val (.int p2), .val (.int p3), .val (.int p4), .val (.int p5), .val (.int p6), .val (.ref b2), .val (.int (2 : Int32)), .val (.int (3 : Int32)), .val (.int ((nar .byte (p3.toInt8.toInt32)) &&& (255 : Int32))), .val (.int ((nar .byte (p4.toInt8.toInt32)) &&& (255 : Int32))), .unset, .unset, .unset] [(.int ((nar .byte (p5.toInt8.toInt32)) &&& (255 : Int32)))])) _
          refine XS.istore X12.here hx rfl (hb hby at_101) rfl (l' := #[.val (.int p1), .val (.int p2), .val (.int p3), .val (.int p4), .val (.int p5), .val (.int p6), .val (.ref b2), .val (.int (2 : Int32)), .val (.int (3 : Int32)), .val (.int ((nar .byte (p3.toInt8.toInt32)) &&& (255 : Int32))), .val (.int ((nar .byte (p4.toInt8.toInt32)) &&& (255 : Int32))), .val (.int ((nar .byte (p5.toInt8.toInt32)) &&& (255 : Int32))), .unset, .unset]) rfl ?_
          show Steps p.tables e below (T12.setTop (mkF m 103 #[.val (.int p1), .val (.int p2), .val (.int p3), .val (.int p4), .val (.int p5), .val (.int p6), .val (.ref b2), .val (.int (2 : Int32)), .val (.int (3 : Int32)), .val (.int ((nar .byte (p3.toInt8.toInt32)) &&& (255 : Int32))), .val (.int ((nar .byte (p4.toInt8.toInt32)) &&& (255 : Int32))), .val (.int ((nar .byte (p5.toInt8.toInt32)) &&& (255 : Int32))), .unset, .unset] [])) _
          refine XS.iload X12.here hx rfl (hb hby at_103) rfl ?_
          show Steps p.tables e below (T12.setTop (mkF m 105 #[.val (.int p1), .val (.int p2), .val (.int p3), .val (.int p4), .val (.int p5), .val (.int p6), .val (.ref b2), .val (.int (2 : Int32)), .val (.int (3 : Int32)), .val (.int ((nar .byte (p3.toInt8.toInt32)) &&& (255 : Int32))), .val (.int ((nar .byte (p4.toInt8.toInt32)) &&& (255 : Int32))), .val (.int ((nar .byte (p5.toInt8.toInt32)) &&& (255 : Int32))), .unset, .unset] [(.int (3 : Int32))])) _
          refine XS.iconst X12.here hx rfl (hb hby at_105) ?_
          exact kt)
        have c106_78 : ¬ ((3 : Int32) < (3 : Int32)) := by decide
        have k80 : ∀ t, Steps p.tables e below (T12.setTop (mkF m 138 #[.val (.int p1), .val (.int p2), .val (.int p3), .val (.int p4), .val (.int p5), .val (.int p6), .val (.ref b2), .val (.int (2 : Int32)), .val (.int (3 : Int32)), .val (.int ((nar .byte (p3.toInt8.toInt32)) &&& (255 : Int32))), .val (.int ((nar .byte (p4.toInt8.toInt32)) &&& (255 : Int32))), .val (.int ((nar .byte (p5.toInt8.toInt32)) &&& (255 : Int32))), .val (.int (0 : Int32)), .unset] [(.int (2 : Int32)), (.int (3 : Int32)), (.int (0 : Int32)), (.int ((nar .byte (p5.toInt8.toInt32)) &&& (255 : Int32))), (.int ((nar .byte (p4.toInt8.toInt32)) &&& (255 : Int32))), (.int ((nar .byte (p3.toInt8.toInt32)) &&& (255 : Int32)))])) t → Steps p.tables e below (s₁.setTop (mkF m 0 #[.val (.int p1), .val (.int p2), .val (.int p3), .val (.int p4), .val (.int p5), .val (.int p6), .unset, .unset, .unset, .unset, .unset, .unset, .unset, .unset] [])) t := fun t kt => k79 t (by
          show Steps p.tables e below (T12.setTop (mkF m 106 #[.val (.int p1), .val (.int p2), .val (.int p3), .val (.int p4), .val (.int p5), .val (.int p6), .val (.ref b2), .val (.int (2 : Int32)), .val (.int (3 : Int32)), .val (.int ((nar .byte (p3.toInt8.toInt32)) &&& (255 : Int32))), .val (.int ((nar .byte (p4.toInt8.toInt32)) &&& (255 : Int32))), .val (.int ((nar .byte (p5.toInt8.toInt32)) &&& (255 : Int32))), .unset, .unset] [(.int (3 : Int32)), (.int (3 : Int32))])) _
          refine XS.icmpYes X12.here hx rfl (pc0 := 106) (pc' := 123) rfl (hb hby at_106) rfl (flt c106_78).2.2.2 (by decide) (by decide) ?_
          show Steps p.tables e below (T12.setTop (mkF m 123 #[.val (.int p1), .val (.int p2), .val (.int p3), .val (.int p4), .val (.int p5), .val (.int p6), .val (.ref b2), .val (.int (2 : Int32)), .val (.int (3 : Int32)), .val (.int ((nar .byte (p3.toInt8.toInt32)) &&& (255 : Int32))), .val (.int ((nar .byte (p4.toInt8.toInt32)) &&& (255 : Int32))), .val (.int ((nar .byte (p5.toInt8.toInt32)) &&& (255 : Int32))), .unset, .unset] [])) _
          refine XS.iconst X12.here hx rfl (hb hby at_123) ?_
          show Steps p.tables e below (T12.setTop (mkF m 124 #[.val (.int p1), .val (.int p2), .val (.int p3), .val (.int p4), .val (.int p5), .val (.int p6), .val (.ref b2), .val (.int (2 : Int32)), .val (.int (3 : Int32)), .val (.int ((nar .byte (p3.toInt8.toInt32)) &&& (255 : Int32))), .val (.int ((nar .byte (p4.toInt8.toInt32)) &&& (255 : Int32))), .val (.int ((nar .byte (p5.toInt8.toInt32)) &&& (255 : Int32))), .unset, .unset] [(.int (0 : Int32))])) _
          refine XS.istore X12.here hx rfl (hb hby at_124) rfl (l' := #[.val (.int p1), .val (.int p2), .val (.int p3), .val (.int p4), .val (.int p5), .val (.int p6), .val (.ref b2), .val (.int (2 : Int32)), .val (.int (3 : Int32)), .val (.int ((nar .byte (p3.toInt8.toInt32)) &&& (255 : Int32))), .val (.int ((nar .byte (p4.toInt8.toInt32)) &&& (255 : Int32))), .val (.int ((nar .byte (p5.toInt8.toInt32)) &&& (255 : Int32))), .val (.int (0 : Int32)), .unset]) rfl ?_
          show Steps p.tables e below (T12.setTop (mkF m 126 #[.val (.int p1), .val (.int p2), .val (.int p3), .val (.int p4), .val (.int p5), .val (.int p6), .val (.ref b2), .val (.int (2 : Int32)), .val (.int (3 : Int32)), .val (.int ((nar .byte (p3.toInt8.toInt32)) &&& (255 : Int32))), .val (.int ((nar .byte (p4.toInt8.toInt32)) &&& (255 : Int32))), .val (.int ((nar .byte (p5.toInt8.toInt32)) &&& (255 : Int32))), .val (.int (0 : Int32)), .unset] [])) _
          refine XS.iload X12.here hx rfl (hb hby at_126) rfl ?_
          show Steps p.tables e below (T12.setTop (mkF m 128 #[.val (.int p1), .val (.int p2), .val (.int p3), .val (.int p4), .val (.int p5), .val (.int p6), .val (.ref b2), .val (.int (2 : Int32)), .val (.int (3 : Int32)), .val (.int ((nar .byte (p3.toInt8.toInt32)) &&& (255 : Int32))), .val (.int ((nar .byte (p4.toInt8.toInt32)) &&& (255 : Int32))), .val (.int ((nar .byte (p5.toInt8.toInt32)) &&& (255 : Int32))), .val (.int (0 : Int32)), .unset] [(.int ((nar .byte (p3.toInt8.toInt32)) &&& (255 : Int32)))])) _
          refine XS.iload X12.here hx rfl (hb hby at_128) rfl ?_
          show Steps p.tables e below (T12.setTop (mkF m 130 #[.val (.int p1), .val (.int p2), .val (.int p3), .val (.int p4), .val (.int p5), .val (.int p6), .val (.ref b2), .val (.int (2 : Int32)), .val (.int (3 : Int32)), .val (.int ((nar .byte (p3.toInt8.toInt32)) &&& (255 : Int32))), .val (.int ((nar .byte (p4.toInt8.toInt32)) &&& (255 : Int32))), .val (.int ((nar .byte (p5.toInt8.toInt32)) &&& (255 : Int32))), .val (.int (0 : Int32)), .unset] [(.int ((nar .byte (p4.toInt8.toInt32)) &&& (255 : Int32))), (.int ((nar .byte (p3.toInt8.toInt32)) &&& (255 : Int32)))])) _
          refine XS.iload X12.here hx rfl (hb hby at_130) rfl ?_
          show Steps p.tables e below (T12.setTop (mkF m 132 #[.val (.int p1), .val (.int p2), .val (.int p3), .val (.int p4), .val (.int p5), .val (.int p6), .val (.ref b2), .val (.int (2 : Int32)), .val (.int (3 : Int32)), .val (.int ((nar .byte (p3.toInt8.toInt32)) &&& (255 : Int32))), .val (.int ((nar .byte (p4.toInt8.toInt32)) &&& (255 : Int32))), .val (.int ((nar .byte (p5.toInt8.toInt32)) &&& (255 : Int32))), .val (.int (0 : Int32)), .unset] [(.int ((nar .byte (p5.toInt8.toInt32)) &&& (255 : Int32))), (.int ((nar .byte (p4.toInt8.toInt32)) &&& (255 : Int32))), (.int ((nar .byte (p3.toInt8.toInt32)) &&& (255 : Int32)))])) _
          refine XS.iload X12.here hx rfl (hb hby at_132) rfl ?_
          show Steps p.tables e below (T12.setTop (mkF m 134 #[.val (.int p1), .val (.int p2), .val (.int p3), .val (.int p4), .val (.int p5), .val (.int p6), .val (.ref b2), .val (.int (2 : Int32)), .val (.int (3 : Int32)), .val (.int ((nar .byte (p3.toInt8.toInt32)) &&& (255 : Int32))), .val (.int ((nar .byte (p4.toInt8.toInt32)) &&& (255 : Int32))), .val (.int ((nar .byte (p5.toInt8.toInt32)) &&& (255 : Int32))), .val (.int (0 : Int32)), .unset] [(.int (0 : Int32)), (.int ((nar .byte (p5.toInt8.toInt32)) &&& (255 : Int32))), (.int ((nar .byte (p4.toInt8.toInt32)) &&& (255 : Int32))), (.int ((nar .byte (p3.toInt8.toInt32)) &&& (255 : Int32)))])) _
          refine XS.iload X12.here hx rfl (hb hby at_134) rfl ?_
          show Steps p.tables e below (T12.setTop (mkF m 136 #[.val (.int p1), .val (.int p2), .val (.int p3), .val (.int p4), .val (.int p5), .val (.int p6), .val (.ref b2), .val (.int (2 : Int32)), .val (.int (3 : Int32)), .val (.int ((nar .byte (p3.toInt8.toInt32)) &&& (255 : Int32))), .val (.int ((nar .byte (p4.toInt8.toInt32)) &&& (255 : Int32))), .val (.int ((nar .byte (p5.toInt8.toInt32)) &&& (255 : Int32))), .val (.int (0 : Int32)), .unset] [(.int (3 : Int32)), (.int (0 : Int32)), (.int ((nar .byte (p5.toInt8.toInt32)) &&& (255 : Int32))), (.int ((nar .byte (p4.toInt8.toInt32)) &&& (255 : Int32))), (.int ((nar .byte (p3.toInt8.toInt32)) &&& (255 : Int32)))])) _
          refine XS.iload X12.here hx rfl (hb hby at_136) rfl ?_
          exact kt)
        obtain ⟨_, _, ⟨T81, L81, k81', n81⟩, -, X81, ⟨Lc81, hQ81, l81, y81, z81⟩, st81⟩ := Jvm.LawKit.callS X12 hx (y := (⟨"com/example/hemawire/hemawire/serve/TextFilesCharacterEndPinLaw", "expectedEnd", "(IIIIII)I"⟩ : MethodName)) hown (mvT hZ (hw _ (List.mem_of_getElem? (i := 2) rfl))) (mvT hZ (hw _ (List.mem_of_getElem? (i := 3) rfl))) (mvT hZ (hw _ (List.mem_of_getElem? (i := 4) rfl))) (mvT hZ (hw _ (List.mem_of_getElem? (i := 5) rfl))) (by decide) (backOf (W := 0) (rm1 l Z a0 hw [] ((nar .byte (p3.toInt8.toInt32)) &&& (255 : Int32)) ((nar .byte (p4.toInt8.toInt32)) &&& (255 : Int32)) ((nar .byte (p5.toInt8.toInt32)) &&& (255 : Int32)) (0 : Int32) (3 : Int32) (2 : Int32) h12 n0 Z12) hZ (hw _ (List.mem_of_getElem? (i := 5) rfl)) (hw _ (List.mem_of_getElem? (i := 4) rfl)) (by decide) (by decide)) (g := (mkF m 138 #[.val (.int p1), .val (.int p2), .val (.int p3), .val (.int p4), .val (.int p5), .val (.int p6), .val (.ref b2), .val (.int (2 : Int32)), .val (.int (3 : Int32)), .val (.int ((nar .byte (p3.toInt8.toInt32)) &&& (255 : Int32))), .val (.int ((nar .byte (p4.toInt8.toInt32)) &&& (255 : Int32))), .val (.int ((nar .byte (p5.toInt8.toInt32)) &&& (255 : Int32))), .val (.int (0 : Int32)), .unset] [(.int (2 : Int32)), (.int (3 : Int32)), (.int (0 : Int32)), (.int ((nar .byte (p5.toInt8.toInt32)) &&& (255 : Int32))), (.int ((nar .byte (p4.toInt8.toInt32)) &&& (255 : Int32))), (.int ((nar .byte (p3.toInt8.toInt32)) &&& (255 : Int32)))])) rfl (by rw [hml]; rfl) (argsL := [(.int ((nar .byte (p3.toInt8.toInt32)) &&& (255 : Int32))), (.int ((nar .byte (p4.toInt8.toInt32)) &&& (255 : Int32))), (.int ((nar .byte (p5.toInt8.toInt32)) &&& (255 : Int32))), (.int (0 : Int32)), (.int (3 : Int32)), (.int (2 : Int32))]) (rest := []) (lenOf pd0_0 rfl) rfl (by show 2 * 0 + _ ≤ _; exact Nat.le_of_eq rfl) (hb hby at_138) (fun _ _ => ⟨rfl, e12, (by decide : 1 + 0 ≤ _), (by decide : 5 + 0 ≤ _)⟩)
        dsimp only [Pt.U, Pt.locs, Pt.cells, Pt.slots] at X81 l81 y81 z81 st81 hQ81
        subst l81 y81 z81
        obtain ⟨rfl, N81q, hh81⟩ := hQ81
        have N81 := Fr.app N12 N81q
        have k82 : ∀ t, Steps p.tables e below (T81.setTop (mkF m 147 #[.val (.int p1), .val (.int p2), .val (.int p3), .val (.int p4), .val (.int p5), .val (.int p6), .val (.ref b2), .val (.int (2 : Int32)), .val (.int (3 : Int32)), .val (.int ((nar .byte (p3.toInt8.toInt32)) &&& (255 : Int32))), .val (.int ((nar .byte (p4.toInt8.toInt32)) &&& (255 : Int32))), .val (.int ((nar .byte (p5.toInt8.toInt32)) &&& (255 : Int32))), .val (.int (0 : Int32)), .val (.int (sp1 ((nar .byte (p3.toInt8.toInt32)) &&& (255 : Int32)) ((nar .byte (p4.toInt8.toInt32)) &&& (255 : Int32)) ((nar .byte (p5.toInt8.toInt32)) &&& (255 : Int32)) (0 : Int32) (3 : Int32) (2 : Int32)))] [(.int (2 : Int32)), (.ref b2)])) t → Steps p.tables e below (s₁.setTop (mkF m 0 #[.val (.int p1), .val (.int p2), .val (.int p3), .val (.int p4), .val (.int p5), .val (.int p6), .unset, .unset, .unset, .unset, .unset, .unset, .unset, .unset] [])) t := fun t kt => k80 t (by
          show Steps p.tables e below (T12.setTop (mkF m 138 #[.val (.int p1), .val (.int p2), .val (.int p3), .val (.int p4), .val (.int p5), .val (.int p6), .val (.ref b2), .val (.int (2 : Int32)), .val (.int (3 : Int32)), .val (.int ((nar .byte (p3.toInt8.toInt32)) &&& (255 : Int32))), .val (.int ((nar .byte (p4.toInt8.toInt32)) &&& (255 : Int32))), .val (.int ((nar .byte (p5.toInt8.toInt32)) &&& (255 : Int32))), .val (.int (0 : Int32)), .unset] [(.int (2 : Int32)), (.int (3 : Int32)), (.int (0 : Int32)), (.int ((nar .byte (p5.toInt8.toInt32)) &&& (255 : Int32))), (.int ((nar .byte (p4.toInt8.toInt32)) &&& (255 : Int32))), (.int ((nar .byte (p3.toInt8.toInt32)) &&& (255 : Int32)))])) _
          refine st81 _ ?_
          show Steps p.tables e below (T81.setTop (mkF m 141 #[.val (.int p1), .val (.int p2), .val (.int p3), .val (.int p4), .val (.int p5), .val (.int p6), .val (.ref b2), .val (.int (2 : Int32)), .val (.int (3 : Int32)), .val (.int ((nar .byte (p3.toInt8.toInt32)) &&& (255 : Int32))), .val (.int ((nar .byte (p4.toInt8.toInt32)) &&& (255 : Int32))), .val (.int ((nar .byte (p5.toInt8.toInt32)) &&& (255 : Int32))), .val (.int (0 : Int32)), .unset] [(.int (sp1 ((nar .byte (p3.toInt8.toInt32)) &&& (255 : Int32)) ((nar .byte (p4.toInt8.toInt32)) &&& (255 : Int32)) ((nar .byte (p5.toInt8.toInt32)) &&& (255 : Int32)) (0 : Int32) (3 : Int32) (2 : Int32)))])) _
          refine XS.istore X81.here hx rfl (hb hby at_141) rfl (l' := #[.val (.int p1), .val (.int p2), .val (.int p3), .val (.int p4), .val (.int p5), .val (.int p6), .val (.ref b2), .val (.int (2 : Int32)), .val (.int (3 : Int32)), .val (.int ((nar .byte (p3.toInt8.toInt32)) &&& (255 : Int32))), .val (.int ((nar .byte (p4.toInt8.toInt32)) &&& (255 : Int32))), .val (.int ((nar .byte (p5.toInt8.toInt32)) &&& (255 : Int32))), .val (.int (0 : Int32)), .val (.int (sp1 ((nar .byte (p3.toInt8.toInt32)) &&& (255 : Int32)) ((nar .byte (p4.toInt8.toInt32)) &&& (255 : Int32)) ((nar .byte (p5.toInt8.toInt32)) &&& (255 : Int32)) (0 : Int32) (3 : Int32) (2 : Int32)))]) rfl ?_
          show Steps p.tables e below (T81.setTop (mkF m 143 #[.val (.int p1), .val (.int p2), .val (.int p3), .val (.int p4), .val (.int p5), .val (.int p6), .val (.ref b2), .val (.int (2 : Int32)), .val (.int (3 : Int32)), .val (.int ((nar .byte (p3.toInt8.toInt32)) &&& (255 : Int32))), .val (.int ((nar .byte (p4.toInt8.toInt32)) &&& (255 : Int32))), .val (.int ((nar .byte (p5.toInt8.toInt32)) &&& (255 : Int32))), .val (.int (0 : Int32)), .val (.int (sp1 ((nar .byte (p3.toInt8.toInt32)) &&& (255 : Int32)) ((nar .byte (p4.toInt8.toInt32)) &&& (255 : Int32)) ((nar .byte (p5.toInt8.toInt32)) &&& (255 : Int32)) (0 : Int32) (3 : Int32) (2 : Int32)))] [])) _
          refine XS.aload X81.here hx rfl (hb hby at_143) rfl rfl ?_
          show Steps p.tables e below (T81.setTop (mkF m 145 #[.val (.int p1), .val (.int p2), .val (.int p3), .val (.int p4), .val (.int p5), .val (.int p6), .val (.ref b2), .val (.int (2 : Int32)), .val (.int (3 : Int32)), .val (.int ((nar .byte (p3.toInt8.toInt32)) &&& (255 : Int32))), .val (.int ((nar .byte (p4.toInt8.toInt32)) &&& (255 : Int32))), .val (.int ((nar .byte (p5.toInt8.toInt32)) &&& (255 : Int32))), .val (.int (0 : Int32)), .val (.int (sp1 ((nar .byte (p3.toInt8.toInt32)) &&& (255 : Int32)) ((nar .byte (p4.toInt8.toInt32)) &&& (255 : Int32)) ((nar .byte (p5.toInt8.toInt32)) &&& (255 : Int32)) (0 : Int32) (3 : Int32) (2 : Int32)))] [(.ref b2)])) _
          refine XS.iload X81.here hx rfl (hb hby at_145) rfl ?_
          exact kt)
        obtain ⟨_, _, ⟨T83, L83, k83', n83⟩, -, X83, ⟨Lc83, hQ83, l83, y83, z83⟩, st83⟩ := Jvm.LawKit.callS X81 hx (y := (⟨"com/example/hemawire/hemawire/serve/TextFiles", "characterEnd", "([BI)I"⟩ : MethodName)) hown (mvT hZ (hw _ (List.mem_of_getElem? (i := 6) rfl))) (mvT hZ (hw _ (List.mem_of_getElem? (i := 7) rfl))) (mvT hZ (hw _ (List.mem_of_getElem? (i := 8) rfl))) (mvT hZ (hw _ (List.mem_of_getElem? (i := 9) rfl))) (by decide) (backOf (W := 0) (rm2 l Z a0 hw [] b2 (2 : Int32) (nar .byte (p1.toInt8.toInt32)) (nar .byte (p2.toInt8.toInt32)) (nar .byte (p3.toInt8.toInt32)) (nar .byte (p4.toInt8.toInt32)) (nar .byte (p5.toInt8.toInt32)) k2 h12 n0 Z12 V76 (by decide)) hZ (hw _ (List.mem_of_getElem? (i := 9) rfl)) (hw _ (List.mem_of_getElem? (i := 8) rfl)) (by decide) (by decide)) (g := (mkF m 147 #[.val (.int p1), .val (.int p2), .val (.int p3), .val (.int p4), .val (.int p5), .val (.int p6), .val (.ref b2), .val (.int (2 : Int32)), .val (.int (3 : Int32)), .val (.int ((nar .byte (p3.toInt8.toInt32)) &&& (255 : Int32))), .val (.int ((nar .byte (p4.toInt8.toInt32)) &&& (255 : Int32))), .val (.int ((nar .byte (p5.toInt8.toInt32)) &&& (255 : Int32))), .val (.int (0 : Int32)), .val (.int (sp1 ((nar .byte (p3.toInt8.toInt32)) &&& (255 : Int32)) ((nar .byte (p4.toInt8.toInt32)) &&& (255 : Int32)) ((nar .byte (p5.toInt8.toInt32)) &&& (255 : Int32)) (0 : Int32) (3 : Int32) (2 : Int32)))] [(.int (2 : Int32)), (.ref b2)])) rfl (by rw [hml]; rfl) (argsL := [(.ref b2), (.int (2 : Int32))]) (rest := []) (lenOf pd0_1 rfl) rfl (by show 2 * 0 + _ ≤ _; exact Nat.le_of_eq rfl) (hb hby at_147) (fun _ _ => ⟨rfl, hh81, (by decide : 1 + 0 ≤ _), (by decide : 5 + 0 ≤ _)⟩)
        dsimp only [Pt.U, Pt.locs, Pt.cells, Pt.slots] at X83 l83 y83 z83 st83 hQ83
        subst l83 y83 z83
        obtain ⟨rfl, N83q, hh83⟩ := hQ83
        have N83 := Fr.app N81 N83q
        have k85 : ∀ t, Steps p.tables e below (T83.setTop (mkF m 152 #[.val (.int p1), .val (.int p2), .val (.int p3), .val (.int p4), .val (.int p5), .val (.int p6), .val (.ref b2), .val (.int (2 : Int32)), .val (.int (3 : Int32)), .val (.int ((nar .byte (p3.toInt8.toInt32)) &&& (255 : Int32))), .val (.int ((nar .byte (p4.toInt8.toInt32)) &&& (255 : Int32))), .val (.int ((nar .byte (p5.toInt8.toInt32)) &&& (255 : Int32))), .val (.int (0 : Int32)), .val (.int (sp1 ((nar .byte (p3.toInt8.toInt32)) &&& (255 : Int32)) ((nar .byte (p4.toInt8.toInt32)) &&& (255 : Int32)) ((nar .byte (p5.toInt8.toInt32)) &&& (255 : Int32)) (0 : Int32) (3 : Int32) (2 : Int32)))] [(.int (sp1 ((nar .byte (p3.toInt8.toInt32)) &&& (255 : Int32)) ((nar .byte (p4.toInt8.toInt32)) &&& (255 : Int32)) ((nar .byte (p5.toInt8.toInt32)) &&& (255 : Int32)) (0 : Int32) (3 : Int32) (2 : Int32))), (.int (sp2 (2 : Int32) (nar .byte (p1.toInt8.toInt32)) (nar .byte (p2.toInt8.toInt32)) (nar .byte (p3.toInt8.toInt32)) (nar .byte (p4.toInt8.toInt32)) (nar .byte (p5.toInt8.toInt32))))])) t → Steps p.tables e below (s₁.setTop (mkF m 0 #[.val (.int p1), .val (.int p2), .val (.int p3), .val (.int p4), .val (.int p5), .val (.int p6), .unset, .unset, .unset, .unset, .unset, .unset, .unset, .unset] [])) t := fun t kt => k82 t (by
          show Steps p.tables e below (T81.setTop (mkF m 147 #[.val (.int p1), .val (.int p2), .val (.int p3), .val (.int p4), .val (.int p5), .val (.int p6), .val (.ref b2), .val (.int (2 : Int32)), .val (.int (3 : Int32)), .val (.int ((nar .byte (p3.toInt8.toInt32)) &&& (255 : Int32))), .val (.int ((nar .byte (p4.toInt8.toInt32)) &&& (255 : Int32))), .val (.int ((nar .byte (p5.toInt8.toInt32)) &&& (255 : Int32))), .val (.int (0 : Int32)), .val (.int (sp1 ((nar .byte (p3.toInt8.toInt32)) &&& (255 : Int32)) ((nar .byte (p4.toInt8.toInt32)) &&& (255 : Int32)) ((nar .byte (p5.toInt8.toInt32)) &&& (255 : Int32)) (0 : Int32) (3 : Int32) (2 : Int32)))] [(.int (2 : Int32)), (.ref b2)])) _
          refine st83 _ ?_
          show Steps p.tables e below (T83.setTop (mkF m 150 #[.val (.int p1), .val (.int p2), .val (.int p3), .val (.int p4), .val (.int p5), .val (.int p6), .val (.ref b2), .val (.int (2 : Int32)), .val (.int (3 : Int32)), .val (.int ((nar .byte (p3.toInt8.toInt32)) &&& (255 : Int32))), .val (.int ((nar .byte (p4.toInt8.toInt32)) &&& (255 : Int32))), .val (.int ((nar .byte (p5.toInt8.toInt32)) &&& (255 : Int32))), .val (.int (0 : Int32)), .val (.int (sp1 ((nar .byte (p3.toInt8.toInt32)) &&& (255 : Int32)) ((nar .byte (p4.toInt8.toInt32)) &&& (255 : Int32)) ((nar .byte (p5.toInt8.toInt32)) &&& (255 : Int32)) (0 : Int32) (3 : Int32) (2 : Int32)))] [(.int (sp2 (2 : Int32) (nar .byte (p1.toInt8.toInt32)) (nar .byte (p2.toInt8.toInt32)) (nar .byte (p3.toInt8.toInt32)) (nar .byte (p4.toInt8.toInt32)) (nar .byte (p5.toInt8.toInt32))))])) _
          refine XS.iload X83.here hx rfl (hb hby at_150) rfl ?_
          exact kt)
        by_cases c152_84 : (sp2 (2 : Int32) (nar .byte (p1.toInt8.toInt32)) (nar .byte (p2.toInt8.toInt32)) (nar .byte (p3.toInt8.toInt32)) (nar .byte (p4.toInt8.toInt32)) (nar .byte (p5.toInt8.toInt32))) = (sp1 ((nar .byte (p3.toInt8.toInt32)) &&& (255 : Int32)) ((nar .byte (p4.toInt8.toInt32)) &&& (255 : Int32)) ((nar .byte (p5.toInt8.toInt32)) &&& (255 : Int32)) (0 : Int32) (3 : Int32) (2 : Int32))
        · obtain ⟨fs, hr, hrun, hended, hW, hsame⟩ := X83.leave (v := some (.int (1 : Int32))) (fun h => by rw [Bd.returns] at h; cases h)
          refine ⟨_, _, pre0 _ (k85 _ ?_), hrun, hended, _, _, rfl, ?_, ⟨_, rfl⟩, hW, hsame.mono (by decide) (by decide)⟩
          · show Steps p.tables e below (T83.setTop (mkF m 152 #[.val (.int p1), .val (.int p2), .val (.int p3), .val (.int p4), .val (.int p5), .val (.int p6), .val (.ref b2), .val (.int (2 : Int32)), .val (.int (3 : Int32)), .val (.int ((nar .byte (p3.toInt8.toInt32)) &&& (255 : Int32))), .val (.int ((nar .byte (p4.toInt8.toInt32)) &&& (255 : Int32))), .val (.int ((nar .byte (p5.toInt8.toInt32)) &&& (255 : Int32))), .val (.int (0 : Int32)), .val (.int (sp1 ((nar .byte (p3.toInt8.toInt32)) &&& (255 : Int32)) ((nar .byte (p4.toInt8.toInt32)) &&& (255 : Int32)) ((nar .byte (p5.toInt8.toInt32)) &&& (255 : Int32)) (0 : Int32) (3 : Int32) (2 : Int32)))] [(.int (sp1 ((nar .byte (p3.toInt8.toInt32)) &&& (255 : Int32)) ((nar .byte (p4.toInt8.toInt32)) &&& (255 : Int32)) ((nar .byte (p5.toInt8.toInt32)) &&& (255 : Int32)) (0 : Int32) (3 : Int32) (2 : Int32))), (.int (sp2 (2 : Int32) (nar .byte (p1.toInt8.toInt32)) (nar .byte (p2.toInt8.toInt32)) (nar .byte (p3.toInt8.toInt32)) (nar .byte (p4.toInt8.toInt32)) (nar .byte (p5.toInt8.toInt32))))])) _
            refine XS.icmpNo X83.here hx rfl (hb hby at_152) rfl (teq c152_84).2 ?_
            show Steps p.tables e below (T83.setTop (mkF m 155 #[.val (.int p1), .val (.int p2), .val (.int p3), .val (.int p4), .val (.int p5), .val (.int p6), .val (.ref b2), .val (.int (2 : Int32)), .val (.int (3 : Int32)), .val (.int ((nar .byte (p3.toInt8.toInt32)) &&& (255 : Int32))), .val (.int ((nar .byte (p4.toInt8.toInt32)) &&& (255 : Int32))), .val (.int ((nar .byte (p5.toInt8.toInt32)) &&& (255 : Int32))), .val (.int (0 : Int32)), .val (.int (sp1 ((nar .byte (p3.toInt8.toInt32)) &&& (255 : Int32)) ((nar .byte (p4.toInt8.toInt32)) &&& (255 : Int32)) ((nar .byte (p5.toInt8.toInt32)) &&& (255 : Int32)) (0 : Int32) (3 : Int32) (2 : Int32)))] [])) _
            refine XS.iconst X83.here hx rfl (hb hby at_155) ?_
            show Steps p.tables e below (T83.setTop (mkF m 156 #[.val (.int p1), .val (.int p2), .val (.int p3), .val (.int p4), .val (.int p5), .val (.int p6), .val (.ref b2), .val (.int (2 : Int32)), .val (.int (3 : Int32)), .val (.int ((nar .byte (p3.toInt8.toInt32)) &&& (255 : Int32))), .val (.int ((nar .byte (p4.toInt8.toInt32)) &&& (255 : Int32))), .val (.int ((nar .byte (p5.toInt8.toInt32)) &&& (255 : Int32))), .val (.int (0 : Int32)), .val (.int (sp1 ((nar .byte (p3.toInt8.toInt32)) &&& (255 : Int32)) ((nar .byte (p4.toInt8.toInt32)) &&& (255 : Int32)) ((nar .byte (p5.toInt8.toInt32)) &&& (255 : Int32)) (0 : Int32) (3 : Int32) (2 : Int32)))] [(.int (1 : Int32))])) _
            refine XS.goto X83.here hx rfl (pc0 := 156) (pc' := 160) rfl (hb hby at_156) (by decide) (by decide) ?_
            show Steps p.tables e below (T83.setTop (mkF m 160 #[.val (.int p1), .val (.int p2), .val (.int p3), .val (.int p4), .val (.int p5), .val (.int p6), .val (.ref b2), .val (.int (2 : Int32)), .val (.int (3 : Int32)), .val (.int ((nar .byte (p3.toInt8.toInt32)) &&& (255 : Int32))), .val (.int ((nar .byte (p4.toInt8.toInt32)) &&& (255 : Int32))), .val (.int ((nar .byte (p5.toInt8.toInt32)) &&& (255 : Int32))), .val (.int (0 : Int32)), .val (.int (sp1 ((nar .byte (p3.toInt8.toInt32)) &&& (255 : Int32)) ((nar .byte (p4.toInt8.toInt32)) &&& (255 : Int32)) ((nar .byte (p5.toInt8.toInt32)) &&& (255 : Int32)) (0 : Int32) (3 : Int32) (2 : Int32)))] [(.int (1 : Int32))])) _
            exact retN X83 hx (t := .boolean) Bd.returns (by simp) (hb hby at_160) hr
          · show Q0 Z p1 p2 p3 p4 p5 p6 h0 n0 _ T83.heap _
            rw [hh83]
            have hv : sp0 p1 p2 p3 p4 p5 p6 = (1 : Int32) := by unfold sp0; rw [if_neg c40_14, if_neg c40_39, if_pos c40_64, if_pos c152_84]
            exact ⟨by rw [← hv, own_law p1 p2 p3 p4 p5 p6], N83⟩
        · obtain ⟨fs, hr, hrun, hended, hW, hsame⟩ := X83.leave (v := some (.int (0 : Int32))) (fun h => by rw [Bd.returns] at h; cases h)
          refine ⟨_, _, pre0 _ (k85 _ ?_), hrun, hended, _, _, rfl, ?_, ⟨_, rfl⟩, hW, hsame.mono (by decide) (by decide)⟩
          · show Steps p.tables e below (T83.setTop (mkF m 152 #[.val (.int p1), .val (.int p2), .val (.int p3), .val (.int p4), .val (.int p5), .val (.int p6), .val (.ref b2), .val (.int (2 : Int32)), .val (.int (3 : Int32)), .val (.int ((nar .byte (p3.toInt8.toInt32)) &&& (255 : Int32))), .val (.int ((nar .byte (p4.toInt8.toInt32)) &&& (255 : Int32))), .val (.int ((nar .byte (p5.toInt8.toInt32)) &&& (255 : Int32))), .val (.int (0 : Int32)), .val (.int (sp1 ((nar .byte (p3.toInt8.toInt32)) &&& (255 : Int32)) ((nar .byte (p4.toInt8.toInt32)) &&& (255 : Int32)) ((nar .byte (p5.toInt8.toInt32)) &&& (255 : Int32)) (0 : Int32) (3 : Int32) (2 : Int32)))] [(.int (sp1 ((nar .byte (p3.toInt8.toInt32)) &&& (255 : Int32)) ((nar .byte (p4.toInt8.toInt32)) &&& (255 : Int32)) ((nar .byte (p5.toInt8.toInt32)) &&& (255 : Int32)) (0 : Int32) (3 : Int32) (2 : Int32))), (.int (sp2 (2 : Int32) (nar .byte (p1.toInt8.toInt32)) (nar .byte (p2.toInt8.toInt32)) (nar .byte (p3.toInt8.toInt32)) (nar .byte (p4.toInt8.toInt32)) (nar .byte (p5.toInt8.toInt32))))])) _
            refine XS.icmpYes X83.here hx rfl (pc0 := 152) (pc' := 159) rfl (hb hby at_152) rfl (feq c152_84).2 (by decide) (by decide) ?_
            show Steps p.tables e below (T83.setTop (mkF m 159 #[.val (.int p1), .val (.int p2), .val (.int p3), .val (.int p4), .val (.int p5), .val (.int p6), .val (.ref b2), .val (.int (2 : Int32)), .val (.int (3 : Int32)), .val (.int ((nar .byte (p3.toInt8.toInt32)) &&& (255 : Int32))), .val (.int ((nar .byte (p4.toInt8.toInt32)) &&& (255 : Int32))), .val (.int ((nar .byte (p5.toInt8.toInt32)) &&& (255 : Int32))), .val (.int (0 : Int32)), .val (.int (sp1 ((nar .byte (p3.toInt8.toInt32)) &&& (255 : Int32)) ((nar .byte (p4.toInt8.toInt32)) &&& (255 : Int32)) ((nar .byte (p5.toInt8.toInt32)) &&& (255 : Int32)) (0 : Int32) (3 : Int32) (2 : Int32)))] [])) _
            refine XS.iconst X83.here hx rfl (hb hby at_159) ?_
            show Steps p.tables e below (T83.setTop (mkF m 160 #[.val (.int p1), .val (.int p2), .val (.int p3), .val (.int p4), .val (.int p5), .val (.int p6), .val (.ref b2), .val (.int (2 : Int32)), .val (.int (3 : Int32)), .val (.int ((nar .byte (p3.toInt8.toInt32)) &&& (255 : Int32))), .val (.int ((nar .byte (p4.toInt8.toInt32)) &&& (255 : Int32))), .val (.int ((nar .byte (p5.toInt8.toInt32)) &&& (255 : Int32))), .val (.int (0 : Int32)), .val (.int (sp1 ((nar .byte (p3.toInt8.toInt32)) &&& (255 : Int32)) ((nar .byte (p4.toInt8.toInt32)) &&& (255 : Int32)) ((nar .byte (p5.toInt8.toInt32)) &&& (255 : Int32)) (0 : Int32) (3 : Int32) (2 : Int32)))] [(.int (0 : Int32))])) _
            exact retN X83 hx (t := .boolean) Bd.returns (by simp) (hb hby at_160) hr
          · show Q0 Z p1 p2 p3 p4 p5 p6 h0 n0 _ T83.heap _
            rw [hh83]
            have hv : sp0 p1 p2 p3 p4 p5 p6 = (0 : Int32) := by unfold sp0; rw [if_neg c40_14, if_neg c40_39, if_pos c40_64, if_neg c152_84]
            exact ⟨by rw [← hv, own_law p1 p2 p3 p4 p5 p6], N83⟩
      · by_cases c40_86 : ((p6 &&& (2147483647 : Int32)) % (5 : Int32)) = (3 : Int32)
        · rw [c40_86] at k13
          have k87 : ∀ t, Steps p.tables e below (T12.setTop (mkF m 50 #[.val (.int p1), .val (.int p2), .val (.int p3), .val (.int p4), .val (.int p5), .val (.int p6), .val (.ref b2), .val (.int (3 : Int32)), .val (.int (2 : Int32)), .unset, .unset, .unset, .unset, .unset] [(.int (3 : Int32)), (.ref b2)])) t → Steps p.tables e below (s₁.setTop (mkF m 0 #[.val (.int p1), .val (.int p2), .val (.int p3), .val (.int p4), .val (.int p5), .val (.int p6), .unset, .unset, .unset, .unset, .unset, .unset, .unset, .unset] [])) t := fun t kt => k13 t (by
            show Steps p.tables e below (T12.setTop (mkF m 40 #[.val (.int p1), .val (.int p2), .val (.int p3), .val (.int p4), .val (.int p5), .val (.int p6), .val (.ref b2), .val (.int (3 : Int32)), .unset, .unset, .unset, .unset, .unset, .unset] [])) _
            refine XS.iconst X12.here hx rfl (hb hby at_40) ?_
            show Steps p.tables e below (T12.setTop (mkF m 41 #[.val (.int p1), .val (.int p2), .val (.int p3), .val (.int p4), .val (.int p5), .val (.int p6), .val (.ref b2), .val (.int (3 : Int32)), .unset, .unset, .unset, .unset, .unset, .unset] [(.int (5 : Int32))])) _
            refine XS.iload X12.here hx rfl (hb hby at_41) rfl ?_
            show Steps p.tables e below (T12.setTop (mkF m 43 #[.val (.int p1), .val (.int p2), .val (.int p3), .val (.int p4), .val (.int p5), .val (.int p6), .val (.ref b2), .val (.int (3 : Int32)), .unset, .unset, .unset, .unset, .unset, .unset] [(.int (3 : Int32)), (.int (5 : Int32))])) _
            refine XS.isub X12.here hx rfl (hb hby at_43) rfl ?_
            show Steps p.tables e below (T12.setTop (mkF m 44 #[.val (.int p1), .val (.int p2), .val (.int p3), .val (.int p4), .val (.int p5), .val (.int p6), .val (.ref b2), .val (.int (3 : Int32)), .unset, .unset, .unset, .unset, .unset, .unset] [(.int (2 : Int32))])) _
            refine XS.istore X12.here hx rfl (hb hby at_44) rfl (l' := #[.val (.int p1), .val (.int p2), .val (.int p3), .val (.int p4), .val (.int p5), .val (.int p6), .val (.ref b2), .val (.int (3 : Int32)), .val (.int (2 : Int32)), .unset, .unset, .unset, .unset, .unset]) rfl ?_
            show Steps p.tables e below (T12.setTop (mkF m 46 #[.val (.int p1), .val (.int p2), .val (.int p3), .val (.int p4), .val (.int p5), .val (.int p6), .val (.ref b2), .val (.int (3 : Int32)), .val (.int (2 : Int32)), .unset, .unset, .unset, .unset, .unset] [])) _
            refine XS.aload X12.here hx rfl (hb hby at_46) rfl rfl ?_
            show Steps p.tables e below (T12.setTop (mkF m 48 #[.val (.int p1), .val (.int p2), .val (.int p3), .val (.int p4), .val (.int p5), .val (.int p6), .val (.ref b2), .val (.int (3 : Int32)), .val (.int (2 : Int32)), .unset, .unset, .unset, .unset, .unset] [(.ref b2)])) _
            refine XS.iload X12.here hx rfl (hb hby at_48) rfl ?_
            exact kt)
          obtain ⟨cl88, Ar88, q88, S88, N88', H88, G88⟩ := V12
          have hin88 : ¬ ((3 : Int32) < 0 ∨ cl88.slots.size ≤ ((3 : Int32)).toNatClampNeg) := inb_of S88 ⟨by decide, by decide⟩
          have hat88 : cl88.slots[((3 : Int32)).toNatClampNeg]? = some (.int (nar .byte (p4.toInt8.toInt32))) := H88.at hin88 rfl
          have V88 : Arv Z h12 b2 k2 .byte (5 : Int32) [(.int (nar .byte (p1.toInt8.toInt32))), (.int (nar .byte (p2.toInt8.toInt32))), (.int (nar .byte (p3.toInt8.toInt32))), (.int (nar .byte (p4.toInt8.toInt32))), (.int (nar .byte (p5.toInt8.toInt32)))] (.int (0 : Int32)) := ⟨cl88, Ar88, q88, S88, N88', H88, G88⟩
          have k89 : ∀ t, Steps p.tables e below (T12.setTop (mkF m 51 #[.val (.int p1), .val (.int p2), .val (.int p3), .val (.int p4), .val (.int p5), .val (.int p6), .val (.ref b2), .val (.int (3 : Int32)), .val (.int (2 : Int32)), .unset, .unset, .unset, .unset, .unset] [(.int (nar .byte (p4.toInt8.toInt32)))])) t → Steps p.tables e below (s₁.setTop (mkF m 0 #[.val (.int p1), .val (.int p2), .val (.int p3), .val (.int p4), .val (.int p5), .val (.int p6), .unset, .unset, .unset, .unset, .unset, .unset, .unset, .unset] [])) t := fun t kt => k87 t (by
            show Steps p.tables e below (T12.setTop (mkF m 50 #[.val (.int p1), .val (.int p2), .val (.int p3), .val (.int p4), .val (.int p5), .val (.int p6), .val (.ref b2), .val (.int (3 : Int32)), .val (.int (2 : Int32)), .unset, .unset, .unset, .unset, .unset] [(.int (3 : Int32)), (.ref b2)])) _
            refine X12.baloadBytes hx (j := (3 : Int32)) (v := (.int (nar .byte (p4.toInt8.toInt32)))) (by rw [e12]; exact Ar88.1) (State.isArrayOf_alike hZ.alike Ar88.2.1) Ar88.2.2 hin88 hat88 (g := (mkF m 50 #[.val (.int p1), .val (.int p2), .val (.int p3), .val (.int p4), .val (.int p5), .val (.int p6), .val (.ref b2), .val (.int (3 : Int32)), .val (.int (2 : Int32)), .unset, .unset, .unset, .unset, .unset] [(.int (3 : Int32)), (.ref b2)])) rfl rfl (hb hby at_50) _ ?_
            exact kt)
          have k91 : ∀ t, Steps p.tables e below (T12.setTop (mkF m 60 #[.val (.int p1), .val (.int p2), .val (.int p3), .val (.int p4), .val (.int p5), .val (.int p6), .val (.ref b2), .val (.int (3 : Int32)), .val (.int (2 : Int32)), .val (.int ((nar .byte (p4.toInt8.toInt32)) &&& (255 : Int32))), .unset, .unset, .unset, .unset] [(.int (1 : Int32)), (.int (2 : Int32))])) t → Steps p.tables e below (s₁.setTop (mkF m 0 #[.val (.int p1), .val (.int p2), .val (.int p3), .val (.int p4), .val (.int p5), .val (.int p6), .unset, .unset, .unset, .unset, .unset, .unset, .unset, .unset] [])) t := fun t kt => k89 t (by
            show Steps p.tables e below (T12.setTop (mkF m 51 #[.val (.int p1), .val (.int p2), .val (.int p3), .val (.int p4), .val (.int p5), .val (.int p6), .val (.ref b2), .val (.int (3 : Int32)), .val (.int (2 : Int32)), .unset, .unset, .unset, .unset, .unset] [(.int (nar .byte (p4.toInt8.toInt32)))])) _
            refine XS.sipush X12.here hx rfl (hb hby at_51) ?_
            show Steps p.tables e below (T12.setTop (mkF m 54 #[.val (.int p1), .val (.int p2), .val (.int p3), .val (.int p4), .val (.int p5), .val (.int p6), .val (.ref b2), .val (.int (3 : Int32)), .val (.int (2 : Int32)), .unset, .unset, .unset, .unset, .unset] [(.int (255 : Int32)), (.int (nar .byte (p4.toInt8.toInt32)))])) _
            refine XS.iand X12.here hx rfl (hb hby at_54) rfl ?_
            show Steps p.tables e below (T12.setTop (mkF m 55 #[.val (.int p1), .val (.int p2), .val (.int p3), .val (.int p4), .val (.int p5), .val (.int p6), .val (.ref b2), .val (.int (3 : Int32)), .val (.int (2 : Int32)), .unset, .unset, .unset, .unset, .unset] [(.int ((nar .byte (p4.toInt8.toInt32)) &&& (255 : Int32)))])) _
            refine XS.istore X12.here hx rfl (hb hby at_55) rfl (l' := #[.val (.int p1), .val (.int p2), .val (.int p3), .val (.int p4), .val (.int p5), .val (.int p6), .val (.ref b2), .val (.int (3 : Int32)), .val (.int (2 : Int32)), .val (.int ((nar .byte (p4.toInt8.toInt32)) &&& (255 : Int32))), .unset, .unset, .unset, .unset]) rfl ?_
            show Steps p.tables e below (T12.setTop (mkF m 57 #[.val (.int p1), .val (.int p2), .val (.int p3), .val (.int p4), .val (.int p5), .val (.int p6), .val (.ref b2), .val (.int (3 : Int32)), .val (.int (2 : Int32)), .val (.int ((nar .byte (p4.toInt8.toInt32)) &&& (255 : Int32))), .unset, .unset, .unset, .unset] [])) _
            refine XS.iload X12.here hx rfl (hb hby at_57) rfl ?_
            show Steps p.tables e below (T12.setTop (mkF m 59 #[.val (.int p1), .val (.int p2), .val (.int p3), .val (.int p4), .val (.int p5), .val (.int p6), .val (.ref b2), .val (.int (3 : Int32)), .val (.int (2 : Int32)), .val (.int ((nar .byte (p4.toInt8.toInt32)) &&& (255 : Int32))), .unset, .unset, .unset, .unset] [(.int (2 : Int32))])) _
            refine XS.iconst X12.here hx rfl (hb hby at_59) ?_
            exact kt)
          have c60_90 : (1 : Int32) < (2 : Int32) := by decide
          have k92 : ∀ t, Steps p.tables e below (T12.setTop (mkF m 69 #[.val (.int p1), .val (.int p2), .val (.int p3), .val (.int p4), .val (.int p5), .val (.int p6), .val (.ref b2), .val (.int (3 : Int32)), .val (.int (2 : Int32)), .val (.int ((nar .byte (p4.toInt8.toInt32)) &&& (255 : Int32))), .unset, .unset, .unset, .unset] [(.int (4 : Int32)), (.ref b2)])) t → Steps p.tables e below (s₁.setTop (mkF m 0 #[.val (.int p1), .val (.int p2), .val (.int p3), .val (.int p4), .val (.int p5), .val (.int p6), .unset, .unset, .unset, .unset, .unset, .unset, .unset, .unset] [])) t := fun t kt => k91 t (by
            show Steps p.tables e below (T12.setTop (mkF m 60 #[.val (.int p1), .val (.int p2), .val (.int p3), .val (.int p4), .val (.int p5), .val (.int p6), .val (.ref b2), .val (.int (3 : Int32)), .val (.int (2 : Int32)), .val (.int ((nar .byte (p4.toInt8.toInt32)) &&& (255 : Int32))), .unset, .unset, .unset, .unset] [(.int (1 : Int32)), (.int (2 : Int32))])) _
            refine XS.icmpNo X12.here hx rfl (hb hby at_60) rfl (tlt c60_90).2.2.2 ?_
            show Steps p.tables e below (T12.setTop (mkF m 63 #[.val (.int p1), .val (.int p2), .val (.int p3), .val (.int p4), .val (.int p5), .val (.int p6), .val (.ref b2), .val (.int (3 : Int32)), .val (.int (2 : Int32)), .val (.int ((nar .byte (p4.toInt8.toInt32)) &&& (255 : Int32))), .unset, .unset, .unset, .unset] [])) _
            refine XS.aload X12.here hx rfl (hb hby at_63) rfl rfl ?_
            show Steps p.tables e below (T12.setTop (mkF m 65 #[.val (.int p1), .val (.int p2), .val (.int p3), .val (.int p4), .val (.int p5), .val (.int p6), .val (.ref b2), .val (.int (3 : Int32)), .val (.int (2 : Int32)), .val (.int ((nar .byte (p4.toInt8.toInt32)) &&& (255 : Int32))), .unset, .unset, .unset, .unset] [(.ref b2)])) _
            refine XS.iload X12.here hx rfl (hb hby at_65) rfl ?_
            show Steps p.tables e below (T12.setTop (mkF m 67 #[.val (.int p1), .val (.int p2), .val (.int p3), .val (.int p4), .val (.int p5), .val (.int p6), .val (.ref b2), .val (.int (3 : Int32)), .val (.int (2 : Int32)), .val (.int ((nar .byte (p4.toInt8.toInt32)) &&& (255 : Int32))), .unset, .unset, .unset, .unset] [(.int (3 : Int32)), (.ref b2)])) _
            refine XS.iconst X12.here hx rfl (hb hby at_67) ?_
            show Steps p.tables e below (T12.setTop (mkF m 68 #[.val (.int p1), .val (.int p2), .val (.int p3), .val (.int p4), .val (.int p5), .val (.int p6), .val (.ref b2), .val (.int (3 : Int32)), .val (.int (2 : Int32)), .val (.int ((nar .byte (p4.toInt8.toInt32)) &&& (255 : Int32))), .unset, .unset, .unset, .unset] [(.int (1 : Int32)), (.int (3 : Int32)), (.ref b2)])) _
            refine XS.iadd X12.here hx rfl (hb hby at_68) rfl ?_
            exact kt)
          obtain ⟨cl93, Ar93, q93, S93, N93', H93, G93⟩ := V88
          have hin93 : ¬ ((4 : Int32) < 0 ∨ cl93.slots.size ≤ ((4 : Int32)).toNatClampNeg) := inb_of S93 ⟨by decide, by decide⟩
          have hat93 : cl93.slots[((4 : Int32)).toNatClampNeg]? = some (.int (nar .byte (p5.toInt8.toInt32))) := H93.at hin93 rfl
          have V93 : Arv Z h12 b2 k2 .byte (5 : Int32) [(.int (nar .byte (p1.toInt8.toInt32))), (.int (nar .byte (p2.toInt8.toInt32))), (.int (nar .byte (p3.toInt8.toInt32))), (.int (nar .byte (p4.toInt8.toInt32))), (.int (nar .byte (p5.toInt8.toInt32)))] (.int (0 : Int32)) := ⟨cl93, Ar93, q93, S93, N93', H93, G93⟩
          have k94 : ∀ t, Steps p.tables e below (T12.setTop (mkF m 70 #[.val (.int p1), .val (.int p2), .val (.int p3), .val (.int p4), .val (.int p5), .val (.int p6), .val (.ref b2), .val (.int (3 : Int32)), .val (.int (2 : Int32)), .val (.int ((nar .byte (p4.toInt8.toInt32)) &&& (255 : Int32))), .unset, .unset, .unset, .unset] [(.int (nar .byte (p5.toInt8.toInt32)))])) t → Steps p.tables e below (s₁.setTop (mkF m 0 #[.val (.int p1), .val (.int p2), .val (.int p3), .val (.int p4), .val (.int p5), .val (.int p6), .unset, .unset, .unset, .unset, .unset, .unset, .unset, .unset] [])) t := fun t kt => k92 t (by
            show Steps p.tables e below (T12.setTop (mkF m 69 #[.val (.int p1), .val (.int p2), .val (.int p3), .val (.int p4), .val (.int p5), .val (.int p6), .val (.ref b2), .val (.int (3 : Int32)), .val (.int (2 : Int32)), .val (.int ((nar .byte (p4.toInt8.toInt32)) &&& (255 : Int32))), .unset, .unset, .unset, .unset] [(.int (4 : Int32)), (.ref b2)])) _
            refine X12.baloadBytes hx (j := (4 : Int32)) (v := (.int (nar .byte (p5.toInt8.toInt32)))) (by rw [e12]; exact Ar93.1) (State.isArrayOf_alike hZ.alike Ar93.2.1) Ar93.2.2 hin93 hat93 (g := (mkF m 69 #[.val (.int p1), .val (.int p2), .val (.int p3), .val (.int p4), .val (.int p5), .val (.int p6), .val (.ref b2), .val (.int (3 : Int32)), .val (.int (2 : Int32)), .val (.int ((nar .byte (p4.toInt8.toInt32)) &&& (255 : Int32))), .unset, .unset, .unset, .unset] [(.int (4 : Int32)), (.ref b2)])) rfl rfl (hb hby at_69) _ ?_
            exact kt)
          have k96 : ∀ t, Steps p.tables e below (T12.setTop (mkF m 83 #[.val (.int p1), .val (.int p2), .val (.int p3), .val (.int p4), .val (.int p5), .val (.int p6), .val (.ref b2), .val (.int (3 : Int32)), .val (.int (2 : Int32)), .val (.int ((nar .byte (p4.toInt8.toInt32)) &&& (255 : Int32))), .val (.int ((nar .byte (p5.toInt8.toInt32)) &&& (255 : Int32))), .unset, .unset, .unset] [(.int (2 : Int32)), (.int (2 : Int32))])) t → Steps p.tables e below (s₁.setTop (mkF m 0 #[.val (.int p1), .val (.int p2), .val (.int p3), .val (.int p4), .val (.int p5), .val (.int p6), .unset, .unset, .unset, .unset, .unset, .unset, .unset, .unset] [])) t := fun t kt => k94 t (by
            show Steps p.tables e below (T12.setTop (mkF m 70 #[.val (.int p1), .val (.int p2), .val (.int p3), .val (.int p4), .val (.int p5), .val (.int p6), .val (.ref b2), .val (.int (3 : Int32)), .val (.int (2 : Int32)), .val (.int ((nar .byte (p4.toInt8.toInt32)) &&& (255 : Int32))), .unset, .unset, .unset, .unset] [(.int (nar .byte (p5.toInt8.toInt32)))])) _
            refine XS.sipush X12.here hx rfl (hb hby at_70) ?_
            show Steps p.tables e below (T12.setTop (mkF m 73 #[.val (.int p1), .val (.int p2), .val (.int p3), .val (.int p4), .val (.int p5), .val (.int p6), .val (.ref b2), .val (.int (3 : Int32)), .val (.int (2 : Int32)), .val (.int ((nar .byte (p4.toInt8.toInt32)) &&& (255 : Int32))), .unset, .unset, .unset, .unset] [(.int (255 : Int32)), (.int (nar .byte (p5.toInt8.toInt32)))])) _
            refine XS.iand X12.here hx rfl (hb hby at_73) rfl ?_
            show Steps p.tables e below (T12.setTop (mkF m 74 #[.val (.int p1), .val (.int p2), .val (.int p3), .val (.int p4), .val (.int p5), .val (.int p6), .val (.ref b2), .val (.int (3 : Int32)), .val (.int (2 : Int32)), .val (.int ((nar .byte (p4.toInt8.toInt32)) &&& (255 : Int32))), .unset, .unset, .unset, .unset] [(.int ((nar .byte (p5.toInt8.toInt32)) &&& (255 : Int32)))])) _
            refine XS.goto X12.here hx rfl (pc0 := 74) (pc' := 78) rfl (hb hby at_74) (by decide) (by decide) ?_
            show Steps p.tables e below (T12.setTop (mkF m 78 #[.val (.int p1), .val (.int p2), .val (.int p3), .val (.int p4), .val (.int p5), .val (.int p6), .val (.ref b2), .val (.int (3 : Int32)), .val (.int (2 : Int32)), .val (.int ((nar .byte (p4.toInt8.toInt32)) &&& (255 : Int32))), .unset, .unset, .unset, .unset] [(.int ((nar .byte (p5.toInt8.toInt32)) &&& (255 : Int32)))])) _
            refine XS.istore X12.here hx rfl (hb hby at_78) rfl (l' := #[.val (.int p1), .val (.int p2), .val (.int p3), .val (.int p4), .val (.int p5), .val (.int p6), .val (.ref b2), .val (.int (3 : Int32)), .val (.int (2 : Int32)), .val (.int ((nar .byte (p4.toInt8.toInt32)) &&& (255 : Int32))), .val (.int ((nar .byte (p5.toInt8.toInt32)) &&& (255 : Int32))), .unset, .unset, .unset]) rfl ?_
            show Steps p.tables e below (T12.setTop (mkF m 80 #[.val (.int p1), .val (.int p2), .val (.int p3), .val (.int p4), .val (.int p5), .val (.int p6), .val (.ref b2), .val (.int (3 : Int32)), .val (.int (2 : Int32)), .val (.int ((nar .byte (p4.toInt8.toInt32)) &&& (255 : Int32))), .val (.int ((nar .byte (p5.toInt8.toInt32)) &&& (255 : Int32))), .unset, .unset, .unset] [])) _
            refine XS.iload X12.here hx rfl (hb hby at_80) rfl ?_
            show Steps p.tables e below (T12.setTop (mkF m 82 #[.val (.int p1), .val (.int p2), .val (.int p3), .val (.int p4), .val (.int p5), .val (.int p6), .val (.ref b2), .val (.int (3 : Int32)), .val (.int (2 : Int32)), .val (.int ((nar .byte (p4.toInt8.toInt32)) &&& (255 : Int32))), .val (.int ((nar .byte (p5.toInt8.toInt32)) &&& (255 : Int32))), .unset, .unset, .unset] [(.int (2 : Int32))])) _
            refine XS.iconst X12.here hx rfl (hb hby at_82) ?_
            exact kt)
          have c83_95 : ¬ ((2 : Int32) < (2 : Int32)) := by decide
          have k98 : ∀ t, Steps p.tables e below (T12.setTop (mkF m 106 #[.val (.int p1), .val (.int p2), .val (.int p3), .val (.int p4), .val (.int p5), .val (.int p6), .val (.ref b2), .val (.int (3 : Int32)), .val (.int (2 : Int32)), .val (.int ((nar .byte (p4.toInt8.toInt32)) &&& (255 : Int32))), .val (.int ((nar .byte (p5.toInt8.toInt32)) &&& (255 : Int32))), .val (.int (0 : Int32)), .unset, .unset] [(.int (3 : Int32)), (.int (2 : Int32))])) t → Steps p.tables e below (s₁.setTop (mkF m 0 #[.val (.int p1), .val (.int p2), .val (.int p3), .val (.int p4), .val (.int p5), .val (.int p6), .unset, .unset, .unset, .unset, .unset, .unset, .unset, .unset] [])) t := fun t kt => k96 t (by
            show Steps p.tables e below (T12.setTop (mkF m 83 #[.val (.int p1), .val (.int p2), .val (.int p3), .val (.int p4), .val (.int p5), .val (.int p6), .val (.ref b2), .val (.int (3 : Int32)), .val (.int (2 : Int32)), .val (.int ((nar .byte (p4.toInt8.toInt32)) &&& (255 : Int32))), .val (.int ((nar .byte (p5.toInt8.toInt32)) &&& (255 : Int32))), .unset, .unset, .unset] [(.int (2 : Int32)), (.int (2 : Int32))])) _
            refine XS.icmpYes X12.here hx rfl (pc0 := 83) (pc' := 100) rfl (hb hby at_83) rfl (flt c83_95).2.2.2 (by decide) (by decide) ?_
            show Steps p.tables e below (T12.setTop (mkF m 100 #[.val (.int p1), .val (.int p2), .val (.int p3), .val (.int p4), .val (.int p5), .val (.int p6), .val (.ref b2), .val (.int (3 : Int32)), .val (.int (2 : Int32)), .val (.int ((nar .byte (p4.toInt8.toInt32)) &&& (255 : Int32))), .val (.int ((nar .byte (p5.toInt8.toInt32)) &&& (255 : Int32))), .unset, .unset, .unset] [])) _
            refine XS.iconst X12.here hx rfl (hb hby at_100) ?_
            show Steps p.tables e below (T12.setTop (mkF m 101 #[.val (.int p1), .val (.int p2), .val (.int p3), .val (.int p4), .val (.int p5), .val (.int p6), .val (.ref b2), .val (.int (3 : Int32)), .val (.int (2 : Int32)), .val (.int ((nar .byte (p4.toInt8.toInt32)) &&& (255 : Int32))), .val (.int ((nar .byte (p5.toInt8.toInt32)) &&& (255 : Int32))), .unset, .unset, .unset] [(.int (0 : Int32))])) _
            refine XS.istore X12.here hx rfl (hb hby at_101) rfl (l' := #[.val (.int p1), .val (.int p2), .val (.int p3), .val (.int p4), .val (.int p5), .val (.int p6), .val (.ref b2), .val (.int (3 : Int32)), .val (.int (2 : Int32)), .val (.int ((nar .byte (p4.toInt8.toInt32)) &&& (255 : Int32))), .val (.int ((nar .byte (p5.toInt8.toInt32)) &&& (255 : Int32))), .val (.int (0 : Int32)), .unset, .unset]) rfl ?_
            show Steps p.tables e below (T12.setTop (mkF m 103 #[.val (.int p1), .val (.int p2), .val (.int p3), .val (.int p4), .val (.int p5), .val (.int p6), .val (.ref b2), .val (.int (3 : Int32)), .val (.int (2 : Int32)), .val (.int ((nar .byte (p4.toInt8.toInt32)) &&& (255 : Int32))), .val (.int ((nar .byte (p5.toInt8.toInt32)) &&& (255 : Int32))), .val (.int (0 : Int32)), .unset, .unset] [])) _
            refine XS.iload X12.here hx rfl (hb hby at_103) rfl ?_
            show Steps p.tables e below (T12.setTop (mkF m 105 #[.val (.int p1), .val (.int p2), .val (.int p3), .val (.int p4), .val (.int p5), .val (.int p6), .val (.ref b2), .val (.int (3 : Int32)), .val (.int (2 : Int32)), .val (.int ((nar .byte (p4.toInt8.toInt32)) &&& (255 : Int32))), .val (.int ((nar .byte (p5.toInt8.toInt32)) &&& (255 : Int32))), .val (.int (0 : Int32)), .unset, .unset] [(.int (2 : Int32))])) _
            refine XS.iconst X12.here hx rfl (hb hby at_105) ?_
            exact kt)
          have c106_97 : ¬ ((3 : Int32) < (2 : Int32)) := by decide
          have k99 : ∀ t, Steps p.tables e below (T12.setTop (mkF m 138 #[.val (.int p1), .val (.int p2), .val (.int p3), .val (.int p4), .val (.int p5), .val (.int p6), .val (.ref b2), .val (.int (3 : Int32)), .val (.int (2 : Int32)), .val (.int ((nar .byte (p4.toInt8.toInt32)) &&& (255 : Int32))), .val (.int ((nar .byte (p5.toInt8.toInt32)) &&& (255 : Int32))), .val (.int (0 : Int32)), .val (.int (0 : Int32)), .unset] [(.int (3 : Int32)), (.int (2 : Int32)), (.int (0 : Int32)), (.int (0 : Int32)), (.int ((nar .byte (p5.toInt8.toInt32)) &&& (255 : Int32))), (.int ((nar .byte (p4.toInt8.toInt32)) &&& (255 : Int32)))])) t → Steps p.tables e below (s₁.setTop (mkF m 0 #[.val (.int p1), .val (.int p2), .val (.int p3), .val (.int p4), .val (.int p5), .val (.int p6), .unset, .unset, .unset, .unset, .unset, .unset, .unset, .unset] [])) t := fun t kt => k98 t (by
            show Steps p.tables e below (T12.setTop (mkF m 106 #[.val (.int p1), .val (.int p2), .val (.int p3), .val (.int p4), .val (.int p5), .val (.int p6), .val (.ref b2), .val (.int (3 : Int32)), .val (.int (2 : Int32)), .val (.int ((nar .byte (p4.toInt8.toInt32)) &&& (255 : Int32))), .val (.int ((nar .byte (p5.toInt8.toInt32)) &&& (255 : Int32))), .val (.int (0 : Int32)), .unset, .unset] [(.int (3 : Int32)), (.int (2 : Int32))])) _
            refine XS.icmpYes X12.here hx rfl (pc0 := 106) (pc' := 123) rfl (hb hby at_106) rfl (flt c106_97).2.2.2 (by decide) (by decide) ?_
            show Steps p.tables e below (T12.setTop (mkF m 123 #[.val (.int p1), .val (.int p2), .val (.int p3), .val (.int p4), .val (.int p5), .val (.int p6), .val (.ref b2), .val (.int (3 : Int32)), .val (.int (2 : Int32)), .val (.int ((nar .byte (p4.toInt8.toInt32)) &&& (255 : Int32))), .val (.int ((nar .byte (p5.toInt8.toInt32)) &&& (255 : Int32))), .val (.int (0 : Int32)), .unset, .unset] [])) _
            refine XS.iconst X12.here hx rfl (hb hby at_123) ?_
            show Steps p.tables e below (T12.setTop (mkF m 124 #[.val (.int p1), .val (.int p2), .val (.int p3), .val (.int p4), .val (.int p5), .val (.int p6), .val (.ref b2), .val (.int (3 : Int32)), .val (.int (2 : Int32)), .val (.int ((nar .byte (p4.toInt8.toInt32)) &&& (255 : Int32))), .val (.int ((nar .byte (p5.toInt8.toInt32)) &&& (255 : Int32))), .val (.int (0 : Int32)), .unset, .unset] [(.int (0 : Int32))])) _
            refine XS.istore X12.here hx rfl (hb hby at_124) rfl (l' := #[.val (.int p1), .val (.int p2), .val (.int p3), .val (.int p4), .val (.int p5), .val (.int p6), .val (.ref b2), .val (.int (3 : Int32)), .val (.int (2 : Int32)), .val (.int ((nar .byte (p4.toInt8.toInt32)) &&& (255 : Int32))), .val (.int ((nar .byte (p5.toInt8.toInt32)) &&& (255 : Int32))), .val (.int (0 : Int32)), .val (.int (0 : Int32)), .unset]) rfl ?_
            show Steps p.tables e below (T12.setTop (mkF m 126 #[.val (.int p1), .val (.int p2), .val (.int p3), .val (.int p4), .val (.int p5), .val (.int p6), .val (.ref b2), .val (.int (3 : Int32)), .val (.int (2 : Int32)), .val (.int ((nar .byte (p4.toInt8.toInt32)) &&& (255 : Int32))), .val (.int ((nar .byte (p5.toInt8.toInt32)) &&& (255 : Int32))), .val (.int (0 : Int32)), .val (.int (0 : Int32)), .unset] [])) _
            refine XS.iload X12.here hx rfl (hb hby at_126) rfl ?_
            show Steps p.tables e below (T12.setTop (mkF m 128 #[.val (.int p1), .val (.int p2), .val (.int p3), .val (.int p4), .val (.int p5), .val (.int p6), .val (.ref b2), .val (.int (3 : Int32)), .val (.int (2 : Int32)), .val (.int ((nar .byte (p4.toInt8.toInt32)) &&& (255 : Int32))), .val (.int ((nar .byte (p5.toInt8.toInt32)) &&& (255 : Int32))), .val (.int (0 : Int32)), .val (.int (0 : Int32)), .unset] [(.int ((nar .byte (p4.toInt8.toInt32)) &&& (255 : Int32)))])) _
            refine XS.iload X12.here hx rfl (hb hby at_128) rfl ?_
            show Steps p.tables e below (T12.setTop (mkF m 130 #[.val (.int p1), .val (.int p2), .val (.int p3), .val (.int p4), .val (.int p5), .val (.int p6), .val (.ref b2), .val (.int (3 : Int32)), .val (.int (2 : Int32)), .val (.int ((nar .byte (p4.toInt8.toInt32)) &&& (255 : Int32))), .val (.int ((nar .byte (p5.toInt8.toInt32)) &&& (255 : Int32))), .val (.int (0 : Int32)), .val (.int (0 : Int32)), .unset] [(.int ((nar .byte (p5.toInt8.toInt32)) &&& (255 : Int32))), (.int ((nar .byte (p4.toInt8.toInt32)) &&& (255 : Int32)))])) _
            refine XS.iload X12.here hx rfl (hb hby at_130) rfl ?_
            show Steps p.tables e below (T12.setTop (mkF m 132 #[.val (.int p1), .val (.int p2), .val (.int p3), .val (.int p4), .val (.int p5), .val (.int p6), .val (.ref b2), .val (.int (3 : Int32)), .val (.int (2 : Int32)), .val (.int ((nar .byte (p4.toInt8.toInt32)) &&& (255 : Int32))), .val (.int ((nar .byte (p5.toInt8.toInt32)) &&& (255 : Int32))), .val (.int (0 : Int32)), .val (.int (0 : Int32)), .unset] [(.int (0 : Int32)), (.int ((nar .byte (p5.toInt8.toInt32)) &&& (255 : Int32))), (.int ((nar .byte (p4.toInt8.toInt32)) &&& (255 : Int32)))])) _
            refine XS.iload X12.here hx rfl (hb hby at_132) rfl ?_
            show Steps p.tables e below (T12.setTop (mkF m 134 #[.val (.int p1), .val (.int p2), .val (.int p3), .val (.int p4), .val (.int p5), .val (.int p6), .val (.ref b2), .val (.int (3 : Int32)), .val (.int (2 : Int32)), .val (.int ((nar .byte (p4.toInt8.toInt32)) &&& (255 : Int32))), .val (.int ((nar .byte (p5.toInt8.toInt32)) &&& (255 : Int32))), .val (.int (0 : Int32)), .val (.int (0 : Int32)), .unset] [(.int (0 : Int32)), (.int (0 : Int32)), (.int ((nar .byte (p5.toInt8.toInt32)) &&& (255 : Int32))), (.int ((nar .byte (p4.toInt8.toInt32)) &&& (255 : Int32)))])) _
            refine XS.iload X12.here hx rfl (hb hby at_134) rfl ?_
            show Steps p.tables e below (T12.setTop (mkF m 136 #[.val (.int p1), .val (.int p2), .val (.int p3), .val (.int p4), .val (.int p5), .val (.int p6), .val (.ref b2), .val (.int (3 : Int32)), .val (.int (2 : Int32)), .val (.int ((nar .byte (p4.toInt8.toInt32)) &&& (255 : Int32))), .val (.int ((nar .byte (p5.toInt8.toInt32)) &&& (255 : Int32))), .val (.int (0 : Int32)), .val (.int (0 : Int32)), .unset] [(.int (2 : Int32)), (.int (0 : Int32)), (.int (0 : Int32)), (.int ((nar .byte (p5.toInt8.toInt32)) &&& (255 : Int32))), (.int ((nar .byte (p4.toInt8.toInt32)) &&& (255 : Int32)))])) _
            refine XS.iload X12.here hx rfl (hb hby at_136) rfl ?_
            exact kt)
          obtain ⟨_, _, ⟨T100, L100, k100', n100⟩, -, X100, ⟨Lc100, hQ100, l100, y100, z100⟩, st100⟩ := Jvm.LawKit.callS X12 hx (y := (⟨"com/example/hemawire/hemawire/serve/TextFilesCharacterEndPinLaw", "expectedEnd", "(IIIIII)I"⟩ : MethodName)) hown (mvT hZ (hw _ (List.mem_of_getElem? (i := 2) rfl))) (mvT hZ (hw _ (List.mem_of_getElem? (i := 3) rfl))) (mvT hZ (hw _ (List.mem_of_getElem? (i := 4) rfl))) (mvT hZ (hw _ (List.mem_of_getElem? (i := 5) rfl))) (by decide) (backOf (W := 0) (rm1 l Z a0 hw [] ((nar .byte (p4.toInt8.toInt32)) &&& (255 : Int32)) ((nar .byte (p5.toInt8.toInt32)) &&& (255 : Int32)) (0 : Int32) (0 : Int32) (2 : Int32) (3 : Int32) h12 n0 Z12) hZ (hw _ (List.mem_of_getElem? (i := 5) rfl)) (hw _ (List.mem_of_getElem? (i := 4) rfl)) (by decide) (by decide)) (g := (mkF m 138 #[.val (.int p1), .val (.int p2), .val (.int p3), .val (.int p4), .val (.int p5), .val (.int p6), .val (.ref b2), .val (.int (3 : Int32)), .val (.int (2 : Int32)), .val (.int ((nar .byte (p4.toInt8.toInt32)) &&& (255 : Int32))), .val (.int ((nar .byte (p5.toInt8.toInt32)) &&& (255 : Int32))), .val (.int (0 : Int32)), .val (.int (0 : Int32)), .unset] [(.int (3 : Int32)), (.int (2 : Int32)), (.int (0 : Int32)), (.int (0 : Int32)), (.int ((nar .byte (p5.toInt8.toInt32)) &&& (255 : Int32))), (.int ((nar .byte (p4.toInt8.toInt32)) &&& (255 : Int32)))])) rfl (by rw [hml]; rfl) (argsL := [(.int ((nar .byte (p4.toInt8.toInt32)) &&& (255 : Int32))), (.int ((nar .byte (p5.toInt8.toInt32)) &&& (255 : Int32))), (.int (0 : Int32)), (.int (0 : Int32)), (.int (2 : Int32)), (.int (3 : Int32))]) (rest := []) (lenOf pd0_0 rfl) rfl (by show 2 * 0 + _ ≤ _; exact Nat.le_of_eq rfl) (hb hby at_138) (fun _ _ => ⟨rfl, e12, (by decide : 1 + 0 ≤ _), (by decide : 5 + 0 ≤ _)⟩)
          dsimp only [Pt.U, Pt.locs, Pt.cells, Pt.slots] at X100 l100 y100 z100 st100 hQ100
          subst l100 y100 z100
          obtain ⟨rfl, N100q, hh100⟩ := hQ100
          have N100 := Fr.app N12 N100q
          have k101 : ∀ t, Steps p.tables e below (T100.setTop (mkF m 147 #[.val (.int p1), .val (.int p2), .val (.int p3), .val (.int p4), .val (.int p5), .val (.int p6), .val (.ref b2), .val (.int (3 : Int32)), .val (.int (2 : Int32)), .val (.int ((nar .byte (p4.toInt8.toInt32)) &&& (255 : Int32))), .val (.int ((nar .byte (p5.toInt8.toInt32)) &&& (255 : Int32))), .val (.int (0 : Int32)), .val (.int (0 : Int32)), .val (.int (sp1 ((nar .byte (p4.toInt8.toInt32)) &&& (255 : Int32)) ((nar .byte (p5.toInt8.toInt32)) &&& (255 : Int32)) (0 : Int32) (0 : Int32) (2 : Int32) (3 : Int32)))] [(.int (3 : Int32)), (.ref b2)])) t → Steps p.tables e below (s₁.setTop (mkF m 0 #[.val (.int p1), .val (.int p2), .val (.int p3), .val (.int p4), .val (.int p5), .val (.int p6), .unset, .unset, .unset, .unset, .unset, .unset, .unset, .unset] [])) t := fun t kt => k99 t (by
            show Steps p.tables e below (T12.setTop (mkF m 138 #[.val (.int p1), .val (.int p2), .val (.int p3), .val (.int p4), .val (.int p5), .val (.int p6), .val (.ref b2), .val (.int (3 : Int32)), .val (.int (2 : Int32)), .val (.int ((nar .byte (p4.toInt8.toInt32)) &&& (255 : Int32))), .val (.int ((nar .byte (p5.toInt8.toInt32)) &&& (255 : Int32))), .val (.int (0 : Int32)), .val (.int (0 : Int32)), .unset] [(.int (3 : Int32)), (.int (2 : Int32)), (.int (0 : Int32)), (.int (0 : Int32)), (.int ((nar .byte (p5.toInt8.toInt32)) &&& (255 : Int32))), (.int ((nar .byte (p4.toInt8.toInt32)) &&& (255 : Int32)))])) _
            refine st100 _ ?_
            show Steps p.tables e below (T100.setTop (mkF m 141 #[.val (.int p1), .val (.int p2), .val (.int p3), .val (.int p4), .val (.int p5), .val (.int p6), .val (.ref b2), .val (.int (3 : Int32)), .val (.int (2 : Int32)), .val (.int ((nar .byte (p4.toInt8.toInt32)) &&& (255 : Int32))), .val (.int ((nar .byte (p5.toInt8.toInt32)) &&& (255 : Int32))), .val (.int (0 : Int32)), .val (.int (0 : Int32)), .unset] [(.int (sp1 ((nar .byte (p4.toInt8.toInt32)) &&& (255 : Int32)) ((nar .byte (p5.toInt8.toInt32)) &&& (255 : Int32)) (0 : Int32) (0 : Int32) (2 : Int32) (3 : Int32)))])) _
            refine XS.istore X100.here hx rfl (hb hby at_141) rfl (l' := #[.val (.int p1), .val (.int p2), .val (.int p3), .val (.int p4), .val (.int p5), .val (.int p6), .val (.ref b2), .val (.int (3 : Int32)), .val (.int (2 : Int32)), .val (.int ((nar .byte (p4.toInt8.toInt32)) &&& (255 : Int32))), .val (.int ((nar .byte (p5.toInt8.toInt32)) &&& (255 : Int32))), .val (.int (0 : Int32)), .val (.int (0 : Int32)), .val (.int (sp1 ((nar .byte (p4.toInt8.toInt32)) &&& (255 : Int32)) ((nar .byte (p5.toInt8.toInt32)) &&& (255 : Int32)) (0 : Int32) (0 : Int32) (2 : Int32) (3 : Int32)))]) rfl ?_
            show Steps p.tables e below (T100.setTop (mkF m 143 #[.val (.int p1), .val (.int p2), .val (.int p3), .val (.int p4), .val (.int p5), .val (.int p6), .val (.ref b2), .val (.int (3 : Int32)), .val (.int (2 : Int32)), .val (.int ((nar .byte (p4.toInt8.toInt32)) &&& (255 : Int32))), .val (.int ((nar .byte (p5.toInt8.toInt32)) &&& (255 : Int32))), .val (.int (0 : Int32)), .val (.int (0 : Int32)), .val (.int (sp1 ((nar .byte (p4.toInt8.toInt32)) &&& (255 : Int32)) ((nar .byte (p5.toInt8.toInt32)) &&& (255 : Int32)) (0 : Int32) (0 : Int32) (2 : Int32) (3 : Int32)))] [])) _
            refine XS.aload X100.here hx rfl (hb hby at_143) rfl rfl ?_
            show Steps p.tables e below (T100.setTop (mkF m 145 #[.val (.int p1), .val (.int p2), .val (.int p3), .val (.int p4), .val (.int p5), .val (.int p6), .val (.ref b2), .val (.int (3 : Int32)), .val (.int (2 : Int32)), .val (.int ((nar .byte (p4.toInt8.toInt32)) &&& (255 : Int32))), .val (.int ((nar .byte (p5.toInt8.toInt32)) &&& (255 : Int32))), .val (.int (0 : Int32)), .val (.int (0 : Int32)), .val (.int (sp1 ((nar .byte (p4.toInt8.toInt32)) &&& (255 : Int32)) ((nar .byte (p5.toInt8.toInt32)) &&& (255 : Int32)) (0 : Int32) (0 : Int32) (2 : Int32) (3 : Int32)))] [(.ref b2)])) _
            refine XS.iload X100.here hx rfl (hb hby at_145) rfl ?_
            exact kt)
          obtain ⟨_, _, ⟨T102, L102, k102', n102⟩, -, X102, ⟨Lc102, hQ102, l102, y102, z102⟩, st102⟩ := Jvm.LawKit.callS X100 hx (y := (⟨"com/example/hemawire/hemawire/serve/TextFiles", "characterEnd", "([BI)I"⟩ : MethodName)) hown (mvT hZ (hw _ (List.mem_of_getElem? (i := 6) rfl))) (mvT hZ (hw _ (List.mem_of_getElem? (i := 7) rfl))) (mvT hZ (hw _ (List.mem_of_getElem? (i := 8) rfl))) (mvT hZ (hw _ (List.mem_of_getElem? (i := 9) rfl))) (by decide) (backOf (W := 0) (rm2 l Z a0 hw [] b2 (3 : Int32) (nar .byte (p1.toInt8.toInt32)) (nar .byte (p2.toInt8.toInt32)) (nar .byte (p3.toInt8.toInt32)) (nar .byte (p4.toInt8.toInt32)) (nar .byte (p5.toInt8.toInt32)) k2 h12 n0 Z12 V93 (by decide)) hZ (hw _ (List.mem_of_getElem? (i := 9) rfl)) (hw _ (List.mem_of_getElem? (i := 8) rfl)) (by decide) (by decide)) (g := (mkF m 147 #[.val (.int p1), .val (.int p2), .val (.int p3), .val (.int p4), .val (.int p5), .val (.int p6), .val (.ref b2), .val (.int (3 : Int32)), .val (.int (2 : Int32)), .val (.int ((nar .byte (p4.toInt8.toInt32)) &&& (255 : Int32))), .val (.int ((nar .byte (p5.toInt8.toInt32)) &&& (255 : Int32))), .val (.int (0 : Int32)), .val (.int (0 : Int32)), .val (.int (sp1 ((nar .byte (p4.toInt8.toInt32)) &&& (255 : Int32)) ((nar .byte (p5.toInt8.toInt32)) &&& (255 : Int32)) (0 : Int32) (0 : Int32) (2 : Int32) (3 : Int32)))] [(.int (3 : Int32)), (.ref b2)])) rfl (by rw [hml]; rfl) (argsL := [(.ref b2), (.int (3 : Int32))]) (rest := []) (lenOf pd0_1 rfl) rfl (by show 2 * 0 + _ ≤ _; exact Nat.le_of_eq rfl) (hb hby at_147) (fun _ _ => ⟨rfl, hh100, (by decide : 1 + 0 ≤ _), (by decide : 5 + 0 ≤ _)⟩)
          dsimp only [Pt.U, Pt.locs, Pt.cells, Pt.slots] at X102 l102 y102 z102 st102 hQ102
          subst l102 y102 z102
          obtain ⟨rfl, N102q, hh102⟩ := hQ102
          have N102 := Fr.app N100 N102q
          have k104 : ∀ t, Steps p.tables e below (T102.setTop (mkF m 152 #[.val (.int p1), .val (.int p2), .val (.int p3), .val (.int p4), .val (.int p5), .val (.int p6), .val (.ref b2), .val (.int (3 : Int32)), .val (.int (2 : Int32)), .val (.int ((nar .byte (p4.toInt8.toInt32)) &&& (255 : Int32))), .val (.int ((nar .byte (p5.toInt8.toInt32)) &&& (255 : Int32))), .val (.int (0 : Int32)), .val (.int (0 : Int32)), .val (.int (sp1 ((nar .byte (p4.toInt8.toInt32)) &&& (255 : Int32)) ((nar .byte (p5.toInt8.toInt32)) &&& (255 : Int32)) (0 : Int32) (0 : Int32) (2 : Int32) (3 : Int32)))] [(.int (sp1 ((nar .byte (p4.toInt8.toInt32)) &&& (255 : Int32)) ((nar .byte (p5.toInt8.toInt32)) &&& (255 : Int32)) (0 : Int32) (0 : Int32) (2 : Int32) (3 : Int32))), (.int (sp2 (3 : Int32) (nar .byte (p1.toInt8.toInt32)) (nar .byte (p2.toInt8.toInt32)) (nar .byte (p3.toInt8.toInt32)) (nar .byte (p4.toInt8.toInt32)) (nar .byte (p5.toInt8.toInt32))))])) t → Steps p.tables e below (s₁.setTop (mkF m 0 #[.val (.int p1), .val (.int p2), .val (.int p3), .val (.int p4), .val (.int p5), .val (.int p6), .unset, .unset, .unset, .unset, .unset, .unset, .unset, .unset] [])) t := fun t kt => k101 t (by
            show Steps p.tables e below (T100.setTop (mkF m 147 #[.val (.int p1), .val (.int p2), .val (.int p3), .val (.int p4), .val (.int p5), .val (.int p6), .val (.ref b2), .val (.int (3 : Int32)), .val (.int (2 : Int32)), .val (.int ((nar .byte (p4.toInt8.toInt32)) &&& (255 : Int32))), .val (.int ((nar .byte (p5.toInt8.toInt32)) &&& (255 : Int32))), .val (.int (0 : Int32)), .val (.int (0 : Int32)), .val (.int (sp1 ((nar .byte (p4.toInt8.toInt32)) &&& (255 : Int32)) ((nar .byte (p5.toInt8.toInt32)) &&& (255 : Int32)) (0 : Int32) (0 : Int32) (2 : Int32) (3 : Int32)))] [(.int (3 : Int32)), (.ref b2)])) _
            refine st102 _ ?_
            show Steps p.tables e below (T102.setTop (mkF m 150 #[.val (.int p1), .val (.int p2), .val (.int p3), .val (.int p4), .val (.int p5), .val (.int p6), .val (.ref b2), .val (.int (3 : Int32)), .val (.int (2 : Int32)), .val (.int ((nar .byte (p4.toInt8.toInt32)) &&& (255 : Int32))), .val (.int ((nar .byte (p5.toInt8.toInt32)) &&& (255 : Int32))), .val (.int (0 : Int32)), .val (.int (0 : Int32)), .val (.int (sp1 ((nar .byte (p4.toInt8.toInt32)) &&& (255 : Int32)) ((nar .byte (p5.toInt8.toInt32)) &&& (255 : Int32)) (0 : Int32) (0 : Int32) (2 : Int32) (3 : Int32)))] [(.int (sp2 (3 : Int32) (nar .byte (p1.toInt8.toInt32)) (nar .byte (p2.toInt8.toInt32)) (nar .byte (p3.toInt8.toInt32)) (nar .byte (p4.toInt8.toInt32)) (nar .byte (p5.toInt8.toInt32))))])) _
            refine XS.iload X102.here hx rfl (hb hby at_150) rfl ?_
            exact kt)
          by_cases c152_103 : (sp2 (3 : Int32) (nar .byte (p1.toInt8.toInt32)) (nar .byte (p2.toInt8.toInt32)) (nar .byte (p3.toInt8.toInt32)) (nar .byte (p4.toInt8.toInt32)) (nar .byte (p5.toInt8.toInt32))) = (sp1 ((nar .byte (p4.toInt8.toInt32)) &&& (255 : Int32)) ((nar .byte (p5.toInt8.toInt32)) &&& (255 : Int32)) (0 : Int32) (0 : Int32) (2 : Int32) (3 : Int32))
          · obtain ⟨fs, hr, hrun, hended, hW, hsame⟩ := X102.leave (v := some (.int (1 : Int32))) (fun h => by rw [Bd.returns] at h; cases h)
            refine ⟨_, _, pre0 _ (k104 _ ?_), hrun, hended, _, _, rfl, ?_, ⟨_, rfl⟩, hW, hsame.mono (by decide) (by decide)⟩
            · show Steps p.tables e below (T102.setTop (mkF m 152 #[.val (.int p1), .val (.int p2), .val (.int p3), .val (.int p4), .val (.int p5), .val (.int p6), .val (.ref b2), .val (.int (3 : Int32)), .val (.int (2 : Int32)), .val (.int ((nar .byte (p4.toInt8.toInt32)) &&& (255 : Int32))), .val (.int ((nar .byte (p5.toInt8.toInt32)) &&& (255 : Int32))), .val (.int (0 : Int32)), .val (.int (0 : Int32)), .val (.int (sp1 ((nar .byte (p4.toInt8.toInt32)) &&& (255 : Int32)) ((nar .byte (p5.toInt8.toInt32)) &&& (255 : Int32)) (0 : Int32) (0 : Int32) (2 : Int32) (3 : Int32)))] [(.int (sp1 ((nar .byte (p4.toInt8.toInt32)) &&& (255 : Int32)) ((nar .byte (p5.toInt8.toInt32)) &&& (255 : Int32)) (0 : Int32) (0 : Int32) (2 : Int32) (3 : Int32))), (.int (sp2 (3 : Int32) (nar .byte (p1.toInt8.toInt32)) (nar .byte (p2.toInt8.toInt32)) (nar .byte (p3.toInt8.toInt32)) (nar .byte (p4.toInt8.toInt32)) (nar .byte (p5.toInt8.toInt32))))])) _
              refine XS.icmpNo X102.here hx rfl (hb hby at_152) rfl (teq c152_103).2 ?_
              show Steps p.tables e below (T102.setTop (mkF m 155 #[.val (.int p1), .val (.int p2), .val (.int p3), .val (.int p4), .val (.int p5), .val (.int p6), .val (.ref b2), .val (.int (3 : Int32)), .val (.int (2 : Int32)), .val (.int ((nar .byte (p4.toInt8.toInt32)) &&& (255 : Int32))), .val (.int ((nar .byte (p5.toInt8.toInt32)) &&& (255 : Int32))), .val (.int (0 : Int32)), .val (.int (0 : Int32)), .val (.int (sp1 ((nar .byte (p4.toInt8.toInt32)) &&& (255 : Int32)) ((nar .byte (p5.toInt8.toInt32)) &&& (255 : Int32)) (0 : Int32) (0 : Int32) (2 : Int32) (3 : Int32)))] [])) _
              refine XS.iconst X102.here hx rfl (hb hby at_155) ?_
              show Steps p.tables e below (T102.setTop (mkF m 156 #[.val (.int p1), .val (.int p2), .val (.int p3), .val (.int p4), .val (.int p5), .val (.int p6), .val (.ref b2), .val (.int (3 : Int32)), .val (.int (2 : Int32)), .val (.int ((nar .byte (p4.toInt8.toInt32)) &&& (255 : Int32))), .val (.int ((nar .byte (p5.toInt8.toInt32)) &&& (255 : Int32))), .val (.int (0 : Int32)), .val (.int (0 : Int32)), .val (.int (sp1 ((nar .byte (p4.toInt8.toInt32)) &&& (255 : Int32)) ((nar .byte (p5.toInt8.toInt32)) &&& (255 : Int32)) (0 : Int32) (0 : Int32) (2 : Int32) (3 : Int32)))] [(.int (1 : Int32))])) _
              refine XS.goto X102.here hx rfl (pc0 := 156) (pc' := 160) rfl (hb hby at_156) (by decide) (by decide) ?_
              show Steps p.tables e below (T102.setTop (mkF m 160 #[.val (.int p1), .val (.int p2), .val (.int p3), .val (.int p4), .val (.int p5), .val (.int p6), .val (.ref b2), .val (.int (3 : Int32)), .val (.int (2 : Int32)), .val (.int ((nar .byte (p4.toInt8.toInt32)) &&& (255 : Int32))), .val (.int ((nar .byte (p5.toInt8.toInt32)) &&& (255 : Int32))), .val (.int (0 : Int32)), .val (.int (0 : Int32)), .val (.int (sp1 ((nar .byte (p4.toInt8.toInt32)) &&& (255 : Int32)) ((nar .byte (p5.toInt8.toInt32)) &&& (255 : Int32)) (0 : Int32) (0 : Int32) (2 : Int32) (3 : Int32)))] [(.int (1 : Int32))])) _
              exact retN X102 hx (t := .boolean) Bd.returns (by simp) (hb hby at_160) hr
            · show Q0 Z p1 p2 p3 p4 p5 p6 h0 n0 _ T102.heap _
              rw [hh102]
              have hv : sp0 p1 p2 p3 p4 p5 p6 = (1 : Int32) := by unfold sp0; rw [if_neg c40_14, if_neg c40_39, if_neg c40_64, if_pos c40_86, if_pos c152_103]
              exact ⟨by rw [← hv, own_law p1 p2 p3 p4 p5 p6], N102⟩
          · obtain ⟨fs, hr, hrun, hended, hW, hsame⟩ := X102.leave (v := some (.int (0 : Int32))) (fun h => by rw [Bd.returns] at h; cases h)
            refine ⟨_, _, pre0 _ (k104 _ ?_), hrun, hended, _, _, rfl, ?_, ⟨_, rfl⟩, hW, hsame.mono (by decide) (by decide)⟩
            · show Steps p.tables e below (T102.setTop (mkF m 152 #[.val (.int p1), .val (.int p2), .val (.int p3), .val (.int p4), .val (.int p5), .val (.int p6), .val (.ref b2), .val (.int (3 : Int32)), .val (.int (2 : Int32)), .val (.int ((nar .byte (p4.toInt8.toInt32)) &&& (255 : Int32))), .val (.int ((nar .byte (p5.toInt8.toInt32)) &&& (255 : Int32))), .val (.int (0 : Int32)), .val (.int (0 : Int32)), .val (.int (sp1 ((nar .byte (p4.toInt8.toInt32)) &&& (255 : Int32)) ((nar .byte (p5.toInt8.toInt32)) &&& (255 : Int32)) (0 : Int32) (0 : Int32) (2 : Int32) (3 : Int32)))] [(.int (sp1 ((nar .byte (p4.toInt8.toInt32)) &&& (255 : Int32)) ((nar .byte (p5.toInt8.toInt32)) &&& (255 : Int32)) (0 : Int32) (0 : Int32) (2 : Int32) (3 : Int32))), (.int (sp2 (3 : Int32) (nar .byte (p1.toInt8.toInt32)) (nar .byte (p2.toInt8.toInt32)) (nar .byte (p3.toInt8.toInt32)) (nar .byte (p4.toInt8.toInt32)) (nar .byte (p5.toInt8.toInt32))))])) _
              refine XS.icmpYes X102.here hx rfl (pc0 := 152) (pc' := 159) rfl (hb hby at_152) rfl (feq c152_103).2 (by decide) (by decide) ?_
              show Steps p.tables e below (T102.setTop (mkF m 159 #[.val (.int p1), .val (.int p2), .val (.int p3), .val (.int p4), .val (.int p5), .val (.int p6), .val (.ref b2), .val (.int (3 : Int32)), .val (.int (2 : Int32)), .val (.int ((nar .byte (p4.toInt8.toInt32)) &&& (255 : Int32))), .val (.int ((nar .byte (p5.toInt8.toInt32)) &&& (255 : Int32))), .val (.int (0 : Int32)), .val (.int (0 : Int32)), .val (.int (sp1 ((nar .byte (p4.toInt8.toInt32)) &&& (255 : Int32)) ((nar .byte (p5.toInt8.toInt32)) &&& (255 : Int32)) (0 : Int32) (0 : Int32) (2 : Int32) (3 : Int32)))] [])) _
              refine XS.iconst X102.here hx rfl (hb hby at_159) ?_
              show Steps p.tables e below (T102.setTop (mkF m 160 #[.val (.int p1), .val (.int p2), .val (.int p3), .val (.int p4), .val (.int p5), .val (.int p6), .val (.ref b2), .val (.int (3 : Int32)), .val (.int (2 : Int32)), .val (.int ((nar .byte (p4.toInt8.toInt32)) &&& (255 : Int32))), .val (.int ((nar .byte (p5.toInt8.toInt32)) &&& (255 : Int32))), .val (.int (0 : Int32)), .val (.int (0 : Int32)), .val (.int (sp1 ((nar .byte (p4.toInt8.toInt32)) &&& (255 : Int32)) ((nar .byte (p5.toInt8.toInt32)) &&& (255 : Int32)) (0 : Int32) (0 : Int32) (2 : Int32) (3 : Int32)))] [(.int (0 : Int32))])) _
              exact retN X102 hx (t := .boolean) Bd.returns (by simp) (hb hby at_160) hr
            · show Q0 Z p1 p2 p3 p4 p5 p6 h0 n0 _ T102.heap _
              rw [hh102]
              have hv : sp0 p1 p2 p3 p4 p5 p6 = (0 : Int32) := by unfold sp0; rw [if_neg c40_14, if_neg c40_39, if_neg c40_64, if_pos c40_86, if_neg c152_103]
              exact ⟨by rw [← hv, own_law p1 p2 p3 p4 p5 p6], N102⟩
        · have c40_105 : ((p6 &&& (2147483647 : Int32)) % (5 : Int32)) = (4 : Int32) := own_m5 p6 c40_14 c40_39 c40_64 c40_86
          rw [c40_105] at k13
          have k106 : ∀ t, Steps p.tables e below (T12.setTop (mkF m 50 #[.val (.int p1), .val (.int p2), .val (.int p3), .val (.int p4), .val (.int p5), .val (.int p6), .val (.ref b2), .val (.int (4 : Int32)), .val (.int (1 : Int32)), .unset, .unset, .unset, .unset, .unset] [(.int (4 : Int32)), (.ref b2)])) t → Steps p.tables e below (s₁.setTop (mkF m 0 #[.val (.int p1), .val (.int p2), .val (.int p3), .val (.int p4), .val (.int p5), .val (.int p6), .unset, .unset, .unset, .unset, .unset, .unset, .unset, .unset] [])) t := fun t kt => k13 t (by
            show Steps p.tables e below (T12.setTop (mkF m 40 #[.val (.int p1), .val (.int p2), .val (.int p3), .val (.int p4), .val (.int p5), .val (.int p6), .val (.ref b2), .val (.int (4 : Int32)), .unset, .unset, .unset, .unset, .unset, .unset] [])) _
            refine XS.iconst X12.here hx rfl (hb hby at_40) ?_
            show Steps p.tables e below (T12.setTop (mkF m 41 #[.val (.int p1), .val (.int p2), .val (.int p3), .val (.int p4), .val (.int p5), .val (.int p6), .val (.ref b2), .val (.int (4 : Int32)), .unset, .unset, .unset, .unset, .unset, .unset] [(.int (5 : Int32))])) _
            refine XS.iload X12.here hx rfl (hb hby at_41) rfl ?_
            show Steps p.tables e below (T12.setTop (mkF m 43 #[.val (.int p1), .val (.int p2), .val (.int p3), .val (.int p4), .val (.int p5), .val (.int p6), .val (.ref b2), .val (.int (4 : Int32)), .unset, .unset, .unset, .unset, .unset, .unset] [(.int (4 : Int32)), (.int (5 : Int32))])) _
            refine XS.isub X12.here hx rfl (hb hby at_43) rfl ?_
            show Steps p.tables e below (T12.setTop (mkF m 44 #[.val (.int p1), .val (.int p2), .val (.int p3), .val (.int p4), .val (.int p5), .val (.int p6), .val (.ref b2), .val (.int (4 : Int32)), .unset, .unset, .unset, .unset, .unset, .unset] [(.int (1 : Int32))])) _
            refine XS.istore X12.here hx rfl (hb hby at_44) rfl (l' := #[.val (.int p1), .val (.int p2), .val (.int p3), .val (.int p4), .val (.int p5), .val (.int p6), .val (.ref b2), .val (.int (4 : Int32)), .val (.int (1 : Int32)), .unset, .unset, .unset, .unset, .unset]) rfl ?_
            show Steps p.tables e below (T12.setTop (mkF m 46 #[.val (.int p1), .val (.int p2), .val (.int p3), .val (.int p4), .val (.int p5), .val (.int p6), .val (.ref b2), .val (.int (4 : Int32)), .val (.int (1 : Int32)), .unset, .unset, .unset, .unset, .unset] [])) _
            refine XS.aload X12.here hx rfl (hb hby at_46) rfl rfl ?_
            show Steps p.tables e below (T12.setTop (mkF m 48 #[.val (.int p1), .val (.int p2), .val (.int p3), .val (.int p4), .val (.int p5), .val (.int p6), .val (.ref b2), .val (.int (4 : Int32)), .val (.int (1 : Int32)), .unset, .unset, .unset, .unset, .unset] [(.ref b2)])) _
            refine XS.iload X12.here hx rfl (hb hby at_48) rfl ?_
            exact kt)
          obtain ⟨cl107, Ar107, q107, S107, N107', H107, G107⟩ := V12
          have hin107 : ¬ ((4 : Int32) < 0 ∨ cl107.slots.size ≤ ((4 : Int32)).toNatClampNeg) := inb_of S107 ⟨by decide, by decide⟩
          have hat107 : cl107.slots[((4 : Int32)).toNatClampNeg]? = some (.int (nar .byte (p5.toInt8.toInt32))) := H107.at hin107 rfl
          have V107 : Arv Z h12 b2 k2 .byte (5 : Int32) [(.int (nar .byte (p1.toInt8.toInt32))), (.int (nar .byte (p2.toInt8.toInt32))), (.int (nar .byte (p3.toInt8.toInt32))), (.int (nar .byte (p4.toInt8.toInt32))), (.int (nar .byte (p5.toInt8.toInt32)))] (.int (0 : Int32)) := ⟨cl107, Ar107, q107, S107, N107', H107, G107⟩
          have k108 : ∀ t, Steps p.tables e below (T12.setTop (mkF m 51 #[.val (.int p1), .val (.int p2), .val (.int p3), .val (.int p4), .val (.int p5), .val (.int p6), .val (.ref b2), .val (.int (4 : Int32)), .val (.int (1 : Int32)), .unset, .unset, .unset, .unset, .unset] [(.int (nar .byte (p5.toInt8.toInt32)))])) t → Steps p.tables e below (s₁.setTop (mkF m 0 #[.val (.int p1), .val (.int p2), .val (.int p3), .val (.int p4), .val (.int p5), .val (.int p6), .unset, .unset, .unset, .unset, .unset, .unset, .unset, .unset] [])) t := fun t kt => k106 t (by
            show Steps p.tables e below (T12.setTop (mkF m 50 #[.val (.int p1), .val (.int p2), .val (.int p3), .val (.int p4), .val (.int p5), .val (.int p6), .val (.ref b2), .val (.int (4 : Int32)), .val (.int (1 : Int32)), .unset, .unset, .unset, .unset, .unset] [(.int (4 : Int32)), (.ref b2)])) _
            refine X12.baloadBytes hx (j := (4 : Int32)) (v := (.int (nar .byte (p5.toInt8.toInt32)))) (by rw [e12]; exact Ar107.1) (State.isArrayOf_alike hZ.alike Ar107.2.1) Ar107.2.2 hin107 hat107 (g := (mkF m 50 #[.val (.int p1), .val (.int p2), .val (.int p3), .val (.int p4), .val (.int p5), .val (.int p6), .val (.ref b2), .val (.int (4 : Int32)), .val (.int (1 : Int32)), .unset, .unset, .unset, .unset, .unset] [(.int (4 : Int32)), (.ref b2)])) rfl rfl (hb hby at_50) _ ?_
            exact kt)
          have k110 : ∀ t, Steps p.tables e below (T12.setTop (mkF m 60 #[.val (.int p1), .val (.int p2), .val (.int p3), .val (.int p4), .val (.int p5), .val (.int p6), .val (.ref b2), .val (.int (4 : Int32)), .val (.int (1 : Int32)), .val (.int ((nar .byte (p5.toInt8.toInt32)) &&& (255 : Int32))), .unset, .unset, .unset, .unset] [(.int (1 : Int32)), (.int (1 : Int32))])) t → Steps p.tables e below (s₁.setTop (mkF m 0 #[.val (.int p1), .val (.int p2), .val (.int p3), .val (.int p4), .val (.int p5), .val (.int p6), .unset, .unset, .unset, .unset, .unset, .unset, .unset, .unset] [])) t := fun t kt => k108 t (by
            show Steps p.tables e below (T12.setTop (mkF m 51 #[.val (.int p1), .val (.int p2), .val (.int p3), .val (.int p4), .val (.int p5), .val (.int p6), .val (.ref b2), .val (.int (4 : Int32)), .val (.int (1 : Int32)), .unset, .unset, .unset, .unset, .unset] [(.int (nar .byte (p5.toInt8.toInt32)))])) _
            refine XS.sipush X12.here hx rfl (hb hby at_51) ?_
            show Steps p.tables e below (T12.setTop (mkF m 54 #[.val (.int p1), .val (.int p2), .val (.int p3), .val (.int p4), .val (.int p5), .val (.int p6), .val (.ref b2), .val (.int (4 : Int32)), .val (.int (1 : Int32)), .unset, .unset, .unset, .unset, .unset] [(.int (255 : Int32)), (.int (nar .byte (p5.toInt8.toInt32)))])) _
            refine XS.iand X12.here hx rfl (hb hby at_54) rfl ?_
            show Steps p.tables e below (T12.setTop (mkF m 55 #[.val (.int p1), .val (.int p2), .val (.int p3), .val (.int p4), .val (.int p5), .val (.int p6), .val (.ref b2), .val (.int (4 : Int32)), .val (.int (1 : Int32)), .unset, .unset, .unset, .unset, .unset] [(.int ((nar .byte (p5.toInt8.toInt32)) &&& (255 : Int32)))])) _
            refine XS.istore X12.here hx rfl (hb hby at_55) rfl (l' := #[.val (.int p1), .val (.int p2), .val (.int p3), .val (.int p4), .val (.int p5), .val (.int p6), .val (.ref b2), .val (.int (4 : Int32)), .val (.int (1 : Int32)), .val (.int ((nar .byte (p5.toInt8.toInt32)) &&& (255 : Int32))), .unset, .unset, .unset, .unset]) rfl ?_
            show Steps p.tables e below (T12.setTop (mkF m 57 #[.val (.int p1), .val (.int p2), .val (.int p3), .val (.int p4), .val (.int p5), .val (.int p6), .val (.ref b2), .val (.int (4 : Int32)), .val (.int (1 : Int32)), .val (.int ((nar .byte (p5.toInt8.toInt32)) &&& (255 : Int32))), .unset, .unset, .unset, .unset] [])) _
            refine XS.iload X12.here hx rfl (hb hby at_57) rfl ?_
            show Steps p.tables e below (T12.setTop (mkF m 59 #[.val (.int p1), .val (.int p2), .val (.int p3), .val (.int p4), .val (.int p5), .val (.int p6), .val (.ref b2), .val (.int (4 : Int32)), .val (.int (1 : Int32)), .val (.int ((nar .byte (p5.toInt8.toInt32)) &&& (255 : Int32))), .unset, .unset, .unset, .unset] [(.int (1 : Int32))])) _
            refine XS.iconst X12.here hx rfl (hb hby at_59) ?_
            exact kt)
          have c60_109 : ¬ ((1 : Int32) < (1 : Int32)) := by decide
          have k112 : ∀ t, Steps p.tables e below (T12.setTop (mkF m 83 #[.val (.int p1), .val (.int p2), .val (.int p3), .val (.int p4), .val (.int p5), .val (.int p6), .val (.ref b2), .val (.int (4 : Int32)), .val (.int (1 : Int32)), .val (.int ((nar .byte (p5.toInt8.toInt32)) &&& (255 : Int32))), .val (.int (0 : Int32)), .unset, .unset, .unset] [(.int (2 : Int32)), (.int (1 : Int32))])) t → Steps p.tables e below (s₁.setTop (mkF m 0 #[.val (.int p1), .val (.int p2), .val (.int p3), .val (.int p4), .val (.int p5), .val (.int p6), .unset, .unset, .unset, .unset, .unset, .unset, .unset, .unset] [])) t := fun t kt => k110 t (by
            show Steps p.tables e below (T12.setTop (mkF m 60 #[.val (.int p1), .val (.int p2), .val (.int p3), .val (.int p4), .val (.int p5), .val (.int p6), .val (.ref b2), .val (.int (4 : Int32)), .val (.int (1 : Int32)), .val (.int ((nar .byte (p5.toInt8.toInt32)) &&& (255 : Int32))), .unset, .unset, .unset, .unset] [(.int (1 : Int32)), (.int (1 : Int32))])) _
            refine XS.icmpYes X12.here hx rfl (pc0 := 60) (pc' := 77) rfl (hb hby at_60) rfl (flt c60_109).2.2.2 (by decide) (by decide) ?_
            show Steps p.tables e below (T12.setTop (mkF m 77 #[.val (.int p1), .val (.int p2), .val (.int p3), .val (.int p4), .val (.int p5), .val (.int p6), .val (.ref b2), .val (.int (4 : Int32)), .val (.int (1 : Int32)), .val (.int ((nar .byte (p5.toInt8.toInt32)) &&& (255 : Int32))), .unset, .unset, .unset, .unset] [])) _
            refine XS.iconst X12.here hx rfl (hb hby at_77) ?_
            show Steps p.tables e below (T12.setTop (mkF m 78 #[.val (.int p1), .val (.int p2), .val (.int p3), .val (.int p4), .val (.int p5), .val (.int p6), .val (.ref b2), .val (.int (4 : Int32)), .val (.int (1 : Int32)), .val (.int ((nar .byte (p5.toInt8.toInt32)) &&& (255 : Int32))), .unset, .unset, .unset, .unset] [(.int (0 : Int32))])) _
            refine XS.istore X12.here hx rfl (hb hby at_78) rfl (l' := #[.val (.int p1), .val (.int p2), .val (.int p3), .val (.int p4), .val (.int p5), .val (.int p6), .val (.ref b2), .val (.int (4 : Int32)), .val (.int (1 : Int32)), .val (.int ((nar .byte (p5.toInt8.toInt32)) &&& (255 : Int32))), .val (.int (0 : Int32)), .unset, .unset, .unset]) rfl ?_
            show Steps p.tables e below (T12.setTop (mkF m 80 #[.val (.int p1), .val (.int p2), .val (.int p3), .val (.int p4), .val (.int p5), .val (.int p6), .val (.ref b2), .val (.int (4 : Int32)), .val (.int (1 : Int32)), .val (.int ((nar .byte (p5.toInt8.toInt32)) &&& (255 : Int32))), .val (.int (0 : Int32)), .unset, .unset, .unset] [])) _
            refine XS.iload X12.here hx rfl (hb hby at_80) rfl ?_
            show Steps p.tables e below (T12.setTop (mkF m 82 #[.val (.int p1), .val (.int p2), .val (.int p3), .val (.int p4), .val (.int p5), .val (.int p6), .val (.ref b2), .val (.int (4 : Int32)), .val (.int (1 : Int32)), .val (.int ((nar .byte (p5.toInt8.toInt32)) &&& (255 : Int32))), .val (.int (0 : Int32)), .unset, .unset, .unset] [(.int (1 : Int32))])) _
            refine XS.iconst X12.here hx rfl (hb hby at_82) ?_
            exact kt)
          have c83_111 : ¬ ((2 : Int32) < (1 : Int32)) := by decide
          have k114 : ∀ t, Steps p.tables e below (T12.setTop (mkF m 106 #[.val (.int p1), .val (.int p2), .val (.int p3), .val (.int p4), .val (.int p5), .val (.int p6), .val (.ref b2), .val (.int (4 : Int32)), .val (.int (1 : Int32)), .val (.int ((nar .byte (p5.toInt8.toInt32)) &&& (255 : Int32))), .val (.int (0 : Int32)), .val (.int (0 : Int32)), .unset, .unset] [(.int (3 : Int32)), (.int (1 : Int32))])) t → Steps p.tables e below (s₁.setTop (mkF m 0 #[.val (.int p1), .val (.int p2), .val (.int p3), .val (.int p4), .val (.int p5), .val (.int p6), .unset, .unset, .unset, .unset, .unset, .unset, .unset, .unset] [])) t := fun t kt => k112 t (by
            show Steps p.tables e below (T12.setTop (mkF m 83 #[.val (.int p1), .val (.int p2), .val (.int p3), .val (.int p4), .val (.int p5), .val (.int p6), .val (.ref b2), .val (.int (4 : Int32)), .val (.int (1 : Int32)), .val (.int ((nar .byte (p5.toInt8.toInt32)) &&& (255 : Int32))), .val (.int (0 : Int32)), .unset, .unset, .unset] [(.int (2 : Int32)), (.int (1 : Int32))])) _
            refine XS.icmpYes X12.here hx rfl (pc0 := 83) (pc' := 100) rfl (hb hby at_83) rfl (flt c83_111).2.2.2 (by decide) (by decide) ?_
            show Steps p.tables e below (T12.setTop (mkF m 100 #[.val (.int p1), .val (.int p2), .val (.int p3), .val (.int p4), .val (.int p5), .val (.int p6), .val (.ref b2), .val (.int (4 : Int32)), .val (.int (1 : Int32)), .val (.int ((nar .byte (p5.toInt8.toInt32)) &&& (255 : Int32))), .val (.int (0 : Int32)), .unset, .unset, .unset] [])) _
            refine XS.iconst X12.here hx rfl (hb hby at_100) ?_
            show Steps p.tables e below (T12.setTop (mkF m 101 #[.val (.int p1), .val (.int p2), .val (.int p3), .val (.int p4), .val (.int p5), .val (.int p6), .val (.ref b2), .val (.int (4 : Int32)), .val (.int (1 : Int32)), .val (.int ((nar .byte (p5.toInt8.toInt32)) &&& (255 : Int32))), .val (.int (0 : Int32)), .unset, .unset, .unset] [(.int (0 : Int32))])) _
            refine XS.istore X12.here hx rfl (hb hby at_101) rfl (l' := #[.val (.int p1), .val (.int p2), .val (.int p3), .val (.int p4), .val (.int p5), .val (.int p6), .val (.ref b2), .val (.int (4 : Int32)), .val (.int (1 : Int32)), .val (.int ((nar .byte (p5.toInt8.toInt32)) &&& (255 : Int32))), .val (.int (0 : Int32)), .val (.int (0 : Int32)), .unset, .unset]) rfl ?_
            show Steps p.tables e below (T12.setTop (mkF m 103 #[.val (.int p1), .val (.int p2), .val (.int p3), .val (.int p4), .val (.int p5), .val (.int p6), .val (.ref b2), .val (.int (4 : Int32)), .val (.int (1 : Int32)), .val (.int ((nar .byte (p5.toInt8.toInt32)) &&& (255 : Int32))), .val (.int (0 : Int32)), .val (.int (0 : Int32)), .unset, .unset] [])) _
            refine XS.iload X12.here hx rfl (hb hby at_103) rfl ?_
            show Steps p.tables e below (T12.setTop (mkF m 105 #[.val (.int p1), .val (.int p2), .val (.int p3), .val (.int p4), .val (.int p5), .val (.int p6), .val (.ref b2), .val (.int (4 : Int32)), .val (.int (1 : Int32)), .val (.int ((nar .byte (p5.toInt8.toInt32)) &&& (255 : Int32))), .val (.int (0 : Int32)), .val (.int (0 : Int32)), .unset, .unset] [(.int (1 : Int32))])) _
            refine XS.iconst X12.here hx rfl (hb hby at_105) ?_
            exact kt)
          have c106_113 : ¬ ((3 : Int32) < (1 : Int32)) := by decide
          have k115 : ∀ t, Steps p.tables e below (T12.setTop (mkF m 138 #[.val (.int p1), .val (.int p2), .val (.int p3), .val (.int p4), .val (.int p5), .val (.int p6), .val (.ref b2), .val (.int (4 : Int32)), .val (.int (1 : Int32)), .val (.int ((nar .byte (p5.toInt8.toInt32)) &&& (255 : Int32))), .val (.int (0 : Int32)), .val (.int (0 : Int32)), .val (.int (0 : Int32)), .unset] [(.int (4 : Int32)), (.int (1 : Int32)), (.int (0 : Int32)), (.int (0 : Int32)), (.int (0 : Int32)), (.int ((nar .byte (p5.toInt8.toInt32)) &&& (255 : Int32)))])) t → Steps p.tables e below (s₁.setTop (mkF m 0 #[.val (.int p1), .val (.int p2), .val (.int p3), .val (.int p4), .val (.int p5), .val (.int p6), .unset, .unset, .unset, .unset, .unset, .unset, .unset, .unset] [])) t := fun t kt => k114 t (by
            show Steps p.tables e below (T12.setTop (mkF m 106 #[.val (.int p1), .val (.int p2), .val (.int p3), .val (.int p4), .val (.int p5), .val (.int p6), .val (.ref b2), .val (.int (4 : Int32)), .val (.int (1 : Int32)), .val (.int ((nar .byte (p5.toInt8.toInt32)) &&& (255 : Int32))), .val (.int (0 : Int32)), .val (.int (0 : Int32)), .unset, .unset] [(.int (3 : Int32)), (.int (1 : Int32))])) _
            refine XS.icmpYes X12.here hx rfl (pc0 := 106) (pc' := 123) rfl (hb hby at_106) rfl (flt c106_113).2.2.2 (by decide) (by decide) ?_
            show Steps p.tables e below (T12.setTop (mkF m 123 #[.val (.int p1), .val (.int p2), .val (.int p3), .val (.int p4), .val (.int p5), .val (.int p6), .val (.ref b2), .val (.int (4 : Int32)), .val (.int (1 : Int32)), .val (.int ((nar .byte (p5.toInt8.toInt32)) &&& (255 : Int32))), .val (.int (0 : Int32)), .val (.int (0 : Int32)), .unset, .unset] [])) _
            refine XS.iconst X12.here hx rfl (hb hby at_123) ?_
            show Steps p.tables e below (T12.setTop (mkF m 124 #[.val (.int p1), .val (.int p2), .val (.int p3), .val (.int p4), .val (.int p5), .val (.int p6), .val (.ref b2), .val (.int (4 : Int32)), .val (.int (1 : Int32)), .val (.int ((nar .byte (p5.toInt8.toInt32)) &&& (255 : Int32))), .val (.int (0 : Int32)), .val (.int (0 : Int32)), .unset, .unset] [(.int (0 : Int32))])) _
            refine XS.istore X12.here hx rfl (hb hby at_124) rfl (l' := #[.val (.int p1), .val (.int p2), .val (.int p3), .val (.int p4), .val (.int p5), .val (.int p6), .val (.ref b2), .val (.int (4 : Int32)), .val (.int (1 : Int32)), .val (.int ((nar .byte (p5.toInt8.toInt32)) &&& (255 : Int32))), .val (.int (0 : Int32)), .val (.int (0 : Int32)), .val (.int (0 : Int32)), .unset]) rfl ?_
            show Steps p.tables e below (T12.setTop (mkF m 126 #[.val (.int p1), .val (.int p2), .val (.int p3), .val (.int p4), .val (.int p5), .val (.int p6), .val (.ref b2), .val (.int (4 : Int32)), .val (.int (1 : Int32)), .val (.int ((nar .byte (p5.toInt8.toInt32)) &&& (255 : Int32))), .val (.int (0 : Int32)), .val (.int (0 : Int32)), .val (.int (0 : Int32)), .unset] [])) _
            refine XS.iload X12.here hx rfl (hb hby at_126) rfl ?_
            show Steps p.tables e below (T12.setTop (mkF m 128 #[.val (.int p1), .val (.int p2), .val (.int p3), .val (.int p4), .val (.int p5), .val (.int p6), .val (.ref b2), .val (.int (4 : Int32)), .val (.int (1 : Int32)), .val (.int ((nar .byte (p5.toInt8.toInt32)) &&& (255 : Int32))), .val (.int (0 : Int32)), .val (.int (0 : Int32)), .val (.int (0 : Int32)), .unset] [(.int ((nar .byte (p5.toInt8.toInt32)) &&& (255 : Int32)))])) _
            refine XS.iload X12.here hx rfl (hb hby at_128) rfl ?_
            show Steps p.tables e below (T12.setTop (mkF m 130 #[.val (.int p1), .val (.int p2), .val (.int p3), .val (.int p4), .val (.int p5), .val (.int p6), .val (.ref b2), .val (.int (4 : Int32)), .val (.int (1 : Int32)), .val (.int ((nar .byte (p5.toInt8.toInt32)) &&& (255 : Int32))), .val (.int (0 : Int32)), .val (.int (0 : Int32)), .val (.int (0 : Int32)), .unset] [(.int (0 : Int32)), (.int ((nar .byte (p5.toInt8.toInt32)) &&& (255 : Int32)))])) _
            refine XS.iload X12.here hx rfl (hb hby at_130) rfl ?_
            show Steps p.tables e below (T12.setTop (mkF m 132 #[.val (.int p1), .val (.int p2), .val (.int p3), .val (.int p4), .val (.int p5), .val (.int p6), .val (.ref b2), .val (.int (4 : Int32)), .val (.int (1 : Int32)), .val (.int ((nar .byte (p5.toInt8.toInt32)) &&& (255 : Int32))), .val (.int (0 : Int32)), .val (.int (0 : Int32)), .val (.int (0 : Int32)), .unset] [(.int (0 : Int32)), (.int (0 : Int32)), (.int ((nar .byte (p5.toInt8.toInt32)) &&& (255 : Int32)))])) _
            refine XS.iload X12.here hx rfl (hb hby at_132) rfl ?_
            show Steps p.tables e below (T12.setTop (mkF m 134 #[.val (.int p1), .val (.int p2), .val (.int p3), .val (.int p4), .val (.int p5), .val (.int p6), .val (.ref b2), .val (.int (4 : Int32)), .val (.int (1 : Int32)), .val (.int ((nar .byte (p5.toInt8.toInt32)) &&& (255 : Int32))), .val (.int (0 : Int32)), .val (.int (0 : Int32)), .val (.int (0 : Int32)), .unset] [(.int (0 : Int32)), (.int (0 : Int32)), (.int (0 : Int32)), (.int ((nar .byte (p5.toInt8.toInt32)) &&& (255 : Int32)))])) _
            refine XS.iload X12.here hx rfl (hb hby at_134) rfl ?_
            show Steps p.tables e below (T12.setTop (mkF m 136 #[.val (.int p1), .val (.int p2), .val (.int p3), .val (.int p4), .val (.int p5), .val (.int p6), .val (.ref b2), .val (.int (4 : Int32)), .val (.int (1 : Int32)), .val (.int ((nar .byte (p5.toInt8.toInt32)) &&& (255 : Int32))), .val (.int (0 : Int32)), .val (.int (0 : Int32)), .val (.int (0 : Int32)), .unset] [(.int (1 : Int32)), (.int (0 : Int32)), (.int (0 : Int32)), (.int (0 : Int32)), (.int ((nar .byte (p5.toInt8.toInt32)) &&& (255 : Int32)))])) _
            refine XS.iload X12.here hx rfl (hb hby at_136) rfl ?_
            exact kt)
          obtain ⟨_, _, ⟨T116, L116, k116', n116⟩, -, X116, ⟨Lc116, hQ116, l116, y116, z116⟩, st116⟩ := Jvm.LawKit.callS X12 hx (y := (⟨"com/example/hemawire/hemawire/serve/TextFilesCharacterEndPinLaw", "expectedEnd", "(IIIIII)I"⟩ : MethodName)) hown (mvT hZ (hw _ (List.mem_of_getElem? (i := 2) rfl))) (mvT hZ (hw _ (List.mem_of_getElem? (i := 3) rfl))) (mvT hZ (hw _ (List.mem_of_getElem? (i := 4) rfl))) (mvT hZ (hw _ (List.mem_of_getElem? (i := 5) rfl))) (by decide) (backOf (W := 0) (rm1 l Z a0 hw [] ((nar .byte (p5.toInt8.toInt32)) &&& (255 : Int32)) (0 : Int32) (0 : Int32) (0 : Int32) (1 : Int32) (4 : Int32) h12 n0 Z12) hZ (hw _ (List.mem_of_getElem? (i := 5) rfl)) (hw _ (List.mem_of_getElem? (i := 4) rfl)) (by decide) (by decide)) (g := (mkF m 138 #[.val (.int p1), .val (.int p2), .val (.int p3), .val (.int p4), .val (.int p5), .val (.int p6), .val (.ref b2), .val (.int (4 : Int32)), .val (.int (1 : Int32)), .val (.int ((nar .byte (p5.toInt8.toInt32)) &&& (255 : Int32))), .val (.int (0 : Int32)), .val (.int (0 : Int32)), .val (.int (0 : Int32)), .unset] [(.int (4 : Int32)), (.int (1 : Int32)), (.int (0 : Int32)), (.int (0 : Int32)), (.int (0 : Int32)), (.int ((nar .byte (p5.toInt8.toInt32)) &&& (255 : Int32)))])) rfl (by rw [hml]; rfl) (argsL := [(.int ((nar .byte (p5.toInt8.toInt32)) &&& (255 : Int32))), (.int (0 : Int32)), (.int (0 : Int32)), (.int (0 : Int32)), (.int (1 : Int32)), (.int (4 : Int32))]) (rest := []) (lenOf pd0_0 rfl) rfl (by show 2 * 0 + _ ≤ _; exact Nat.le_of_eq rfl) (hb hby at_138) (fun _ _ => ⟨rfl, e12, (by decide : 1 + 0 ≤ _), (by decide : 5 + 0 ≤ _)⟩)
          dsimp only [Pt.U, Pt.locs, Pt.cells, Pt.slots] at X116 l116 y116 z116 st116 hQ116
          subst l116 y116 z116
          obtain ⟨rfl, N116q, hh116⟩ := hQ116
          have N116 := Fr.app N12 N116q
          have k117 : ∀ t, Steps p.tables e below (T116.setTop (mkF m 147 #[.val (.int p1), .val (.int p2), .val (.int p3), .val (.int p4), .val (.int p5), .val (.int p6), .val (.ref b2), .val (.int (4 : Int32)), .val (.int (1 : Int32)), .val (.int ((nar .byte (p5.toInt8.toInt32)) &&& (255 : Int32))), .val (.int (0 : Int32)), .val (.int (0 : Int32)), .val (.int (0 : Int32)), .val (.int (sp1 ((nar .byte (p5.toInt8.toInt32)) &&& (255 : Int32)) (0 : Int32) (0 : Int32) (0 : Int32) (1 : Int32) (4 : Int32)))] [(.int (4 : Int32)), (.ref b2)])) t → Steps p.tables e below (s₁.setTop (mkF m 0 #[.val (.int p1), .val (.int p2), .val (.int p3), .val (.int p4), .val (.int p5), .val (.int p6), .unset, .unset, .unset, .unset, .unset, .unset, .unset, .unset] [])) t := fun t kt => k115 t (by
            show Steps p.tables e below (T12.setTop (mkF m 138 #[.val (.int p1), .val (.int p2), .val (.int p3), .val (.int p4), .val (.int p5), .val (.int p6), .val (.ref b2), .val (.int (4 : Int32)), .val (.int (1 : Int32)), .val (.int ((nar .byte (p5.toInt8.toInt32)) &&& (255 : Int32))), .val (.int (0 : Int32)), .val (.int (0 : Int32)), .val (.int (0 : Int32)), .unset] [(.int (4 : Int32)), (.int (1 : Int32)), (.int (0 : Int32)), (.int (0 : Int32)), (.int (0 : Int32)), (.int ((nar .byte (p5.toInt8.toInt32)) &&& (255 : Int32)))])) _
            refine st116 _ ?_
            show Steps p.tables e below (T116.setTop (mkF m 141 #[.val (.int p1), .val (.int p2), .val (.int p3), .val (.int p4), .val (.int p5), .val (.int p6), .val (.ref b2), .val (.int (4 : Int32)), .val (.int (1 : Int32)), .val (.int ((nar .byte (p5.toInt8.toInt32)) &&& (255 : Int32))), .val (.int (0 : Int32)), .val (.int (0 : Int32)), .val (.int (0 : Int32)), .unset] [(.int (sp1 ((nar .byte (p5.toInt8.toInt32)) &&& (255 : Int32)) (0 : Int32) (0 : Int32) (0 : Int32) (1 : Int32) (4 : Int32)))])) _
            refine XS.istore X116.here hx rfl (hb hby at_141) rfl (l' := #[.val (.int p1), .val (.int p2), .val (.int p3), .val (.int p4), .val (.int p5), .val (.int p6), .val (.ref b2), .val (.int (4 : Int32)), .val (.int (1 : Int32)), .val (.int ((nar .byte (p5.toInt8.toInt32)) &&& (255 : Int32))), .val (.int (0 : Int32)), .val (.int (0 : Int32)), .val (.int (0 : Int32)), .val (.int (sp1 ((nar .byte (p5.toInt8.toInt32)) &&& (255 : Int32)) (0 : Int32) (0 : Int32) (0 : Int32) (1 : Int32) (4 : Int32)))]) rfl ?_
            show Steps p.tables e below (T116.setTop (mkF m 143 #[.val (.int p1), .val (.int p2), .val (.int p3), .val (.int p4), .val (.int p5), .val (.int p6), .val (.ref b2), .val (.int (4 : Int32)), .val (.int (1 : Int32)), .val (.int ((nar .byte (p5.toInt8.toInt32)) &&& (255 : Int32))), .val (.int (0 : Int32)), .val (.int (0 : Int32)), .val (.int (0 : Int32)), .val (.int (sp1 ((nar .byte (p5.toInt8.toInt32)) &&& (255 : Int32)) (0 : Int32) (0 : Int32) (0 : Int32) (1 : Int32) (4 : Int32)))] [])) _
            refine XS.aload X116.here hx rfl (hb hby at_143) rfl rfl ?_
            show Steps p.tables e below (T116.setTop (mkF m 145 #[.val (.int p1), .val (.int p2), .val (.int p3), .val (.int p4), .val (.int p5), .val (.int p6), .val (.ref b2), .val (.int (4 : Int32)), .val (.int (1 : Int32)), .val (.int ((nar .byte (p5.toInt8.toInt32)) &&& (255 : Int32))), .val (.int (0 : Int32)), .val (.int (0 : Int32)), .val (.int (0 : Int32)), .val (.int (sp1 ((nar .byte (p5.toInt8.toInt32)) &&& (255 : Int32)) (0 : Int32) (0 : Int32) (0 : Int32) (1 : Int32) (4 : Int32)))] [(.ref b2)])) _
            refine XS.iload X116.here hx rfl (hb hby at_145) rfl ?_
            exact kt)
          obtain ⟨_, _, ⟨T118, L118, k118', n118⟩, -, X118, ⟨Lc118, hQ118, l118, y118, z118⟩, st118⟩ := Jvm.LawKit.callS X116 hx (y := (⟨"com/example/hemawire/hemawire/serve/TextFiles", "characterEnd", "([BI)I"⟩ : MethodName)) hown (mvT hZ (hw _ (List.mem_of_getElem? (i := 6) rfl))) (mvT hZ (hw _ (List.mem_of_getElem? (i := 7) rfl))) (mvT hZ (hw _ (List.mem_of_getElem? (i := 8) rfl))) (mvT hZ (hw _ (List.mem_of_getElem? (i := 9) rfl))) (by decide) (backOf (W := 0) (rm2 l Z a0 hw [] b2 (4 : Int32) (nar .byte (p1.toInt8.toInt32)) (nar .byte (p2.toInt8.toInt32)) (nar .byte (p3.toInt8.toInt32)) (nar .byte (p4.toInt8.toInt32)) (nar .byte (p5.toInt8.toInt32)) k2 h12 n0 Z12 V107 (by decide)) hZ (hw _ (List.mem_of_getElem? (i := 9) rfl)) (hw _ (List.mem_of_getElem? (i := 8) rfl)) (by decide) (by decide)) (g := (mkF m 147 #[.val (.int p1), .val (.int p2), .val (.int p3), .val (.int p4), .val (.int p5), .val (.int p6), .val (.ref b2), .val (.int (4 : Int32)), .val (.int (1 : Int32)), .val (.int ((nar .byte (p5.toInt8.toInt32)) &&& (255 : Int32))), .val (.int (0 : Int32)), .val (.int (0 : Int32)), .val (.int (0 : Int32)), .val (.int (sp1 ((nar .byte (p5.toInt8.toInt32)) &&& (255 : Int32)) (0 : Int32) (0 : Int32) (0 : Int32) (1 : Int32) (4 : Int32)))] [(.int (4 : Int32)), (.ref b2)])) rfl (by rw [hml]; rfl) (argsL := [(.ref b2), (.int (4 : Int32))]) (rest := []) (lenOf pd0_1 rfl) rfl (by show 2 * 0 + _ ≤ _; exact Nat.le_of_eq rfl) (hb hby at_147) (fun _ _ => ⟨rfl, hh116, (by decide : 1 + 0 ≤ _), (by decide : 5 + 0 ≤ _)⟩)
          dsimp only [Pt.U, Pt.locs, Pt.cells, Pt.slots] at X118 l118 y118 z118 st118 hQ118
          subst l118 y118 z118
          obtain ⟨rfl, N118q, hh118⟩ := hQ118
          have N118 := Fr.app N116 N118q
          have k120 : ∀ t, Steps p.tables e below (T118.setTop (mkF m 152 #[.val (.int p1), .val (.int p2), .val (.int p3), .val (.int p4), .val (.int p5), .val (.int p6), .val (.ref b2), .val (.int (4 : Int32)), .val (.int (1 : Int32)), .val (.int ((nar .byte (p5.toInt8.toInt32)) &&& (255 : Int32))), .val (.int (0 : Int32)), .val (.int (0 : Int32)), .val (.int (0 : Int32)), .val (.int (sp1 ((nar .byte (p5.toInt8.toInt32)) &&& (255 : Int32)) (0 : Int32) (0 : Int32) (0 : Int32) (1 : Int32) (4 : Int32)))] [(.int (sp1 ((nar .byte (p5.toInt8.toInt32)) &&& (255 : Int32)) (0 : Int32) (0 : Int32) (0 : Int32) (1 : Int32) (4 : Int32))), (.int (sp2 (4 : Int32) (nar .byte (p1.toInt8.toInt32)) (nar .byte (p2.toInt8.toInt32)) (nar .byte (p3.toInt8.toInt32)) (nar .byte (p4.toInt8.toInt32)) (nar .byte (p5.toInt8.toInt32))))])) t → Steps p.tables e below (s₁.setTop (mkF m 0 #[.val (.int p1), .val (.int p2), .val (.int p3), .val (.int p4), .val (.int p5), .val (.int p6), .unset, .unset, .unset, .unset, .unset, .unset, .unset, .unset] [])) t := fun t kt => k117 t (by
            show Steps p.tables e below (T116.setTop (mkF m 147 #[.val (.int p1), .val (.int p2), .val (.int p3), .val (.int p4), .val (.int p5), .val (.int p6), .val (.ref b2), .val (.int (4 : Int32)), .val (.int (1 : Int32)), .val (.int ((nar .byte (p5.toInt8.toInt32)) &&& (255 : Int32))), .val (.int (0 : Int32)), .val (.int (0 : Int32)), .val (.int (0 : Int32)), .val (.int (sp1 ((nar .byte (p5.toInt8.toInt32)) &&& (255 : Int32)) (0 : Int32) (0 : Int32) (0 : Int32) (1 : Int32) (4 : Int32)))] [(.int (4 : Int32)), (.ref b2)])) _
            refine st118 _ ?_
            show Steps p.tables e below (T118.setTop (mkF m 150 #[.val (.int p1), .val (.int p2), .val (.int p3), .val (.int p4), .val (.int p5), .val (.int p6), .val (.ref b2), .val (.int (4 : Int32)), .val (.int (1 : Int32)), .val (.int ((nar .byte (p5.toInt8.toInt32)) &&& (255 : Int32))), .val (.int (0 : Int32)), .val (.int (0 : Int32)), .val (.int (0 : Int32)), .val (.int (sp1 ((nar .byte (p5.toInt8.toInt32)) &&& (255 : Int32)) (0 : Int32) (0 : Int32) (0 : Int32) (1 : Int32) (4 : Int32)))] [(.int (sp2 (4 : Int32) (nar .byte (p1.toInt8.toInt32)) (nar .byte (p2.toInt8.toInt32)) (nar .byte (p3.toInt8.toInt32)) (nar .byte (p4.toInt8.toInt32)) (nar .byte (p5.toInt8.toInt32))))])) _
            refine XS.iload X118.here hx rfl (hb hby at_150) rfl ?_
            exact kt)
          by_cases c152_119 : (sp2 (4 : Int32) (nar .byte (p1.toInt8.toInt32)) (nar .byte (p2.toInt8.toInt32)) (nar .byte (p3.toInt8.toInt32)) (nar .byte (p4.toInt8.toInt32)) (nar .byte (p5.toInt8.toInt32))) = (sp1 ((nar .byte (p5.toInt8.toInt32)) &&& (255 : Int32)) (0 : Int32) (0 : Int32) (0 : Int32) (1 : Int32) (4 : Int32))
          · obtain ⟨fs, hr, hrun, hended, hW, hsame⟩ := X118.leave (v := some (.int (1 : Int32))) (fun h => by rw [Bd.returns] at h; cases h)
            refine ⟨_, _, pre0 _ (k120 _ ?_), hrun, hended, _, _, rfl, ?_, ⟨_, rfl⟩, hW, hsame.mono (by decide) (by decide)⟩
            · show Steps p.tables e below (T118.setTop (mkF m 152 #[.val (.int p1), .val (.int p2), .val (.int p3), .val (.int p4), .val (.int p5), .val (.int p6), .val (.ref b2), .val (.int (4 : Int32)), .val (.int (1 : Int32)), .val (.int ((nar .byte (p5.toInt8.toInt32)) &&& (255 : Int32))), .val (.int (0 : Int32)), .val (.int (0 : Int32)), .val (.int (0 : Int32)), .val (.int (sp1 ((nar .byte (p5.toInt8.toInt32)) &&& (255 : Int32)) (0 : Int32) (0 : Int32) (0 : Int32) (1 : Int32) (4 : Int32)))] [(.int (sp1 ((nar .byte (p5.toInt8.toInt32)) &&& (255 : Int32)) (0 : Int32) (0 : Int32) (0 : Int32) (1 : Int32) (4 : Int32))), (.int (sp2 (4 : Int32) (nar .byte (p1.toInt8.toInt32)) (nar .byte (p2.toInt8.toInt32)) (nar .byte (p3.toInt8.toInt32)) (nar .byte (p4.toInt8.toInt32)) (nar .byte (p5.toInt8.toInt32))))])) _
              refine XS.icmpNo X118.here hx rfl (hb hby at_152) rfl (teq c152_119).2 ?_
              show Steps p.tables e below (T118.setTop (mkF m 155 #[.val (.int p1), .val (.int p2), .val (.int p3), .val (.int p4), .val (.int p5), .val (.int p6), .val (.ref b2), .val (.int (4 : Int32)), .val (.int (1 : Int32)), .val (.int ((nar .byte (p5.toInt8.toInt32)) &&& (255 : Int32))), .val (.int (0 : Int32)), .val (.int (0 : Int32)), .val (.int (0 : Int32)), .val (.int (sp1 ((nar .byte (p5.toInt8.toInt32)) &&& (255 : Int32)) (0 : Int32) (0 : Int32) (0 : Int32) (1 : Int32) (4 : Int32)))] [])) _
              refine XS.iconst X118.here hx rfl (hb hby at_155) ?_
              show Steps p.tables e below (T118.setTop (mkF m 156 #[.val (.int p1), .val (.int p2), .val (.int p3), .val (.int p4), .val (.int p5), .val (.int p6), .val (.ref b2), .val (.int (4 : Int32)), .val (.int (1 : Int32)), .val (.int ((nar .byte (p5.toInt8.toInt32)) &&& (255 : Int32))), .val (.int (0 : Int32)), .val (.int (0 : Int32)), .val (.int (0 : Int32)), .val (.int (sp1 ((nar .byte (p5.toInt8.toInt32)) &&& (255 : Int32)) (0 : Int32) (0 : Int32) (0 : Int32) (1 : Int32) (4 : Int32)))] [(.int (1 : Int32))])) _
              refine XS.goto X118.here hx rfl (pc0 := 156) (pc' := 160) rfl (hb hby at_156) (by decide) (by decide) ?_
              show Steps p.tables e below (T118.setTop (mkF m 160 #[.val (.int p1), .val (.int p2), .val (.int p3), .val (.int p4), .val (.int p5), .val (.int p6), .val (.ref b2), .val (.int (4 : Int32)), .val (.int (1 : Int32)), .val (.int ((nar .byte (p5.toInt8.toInt32)) &&& (255 : Int32))), .val (.int (0 : Int32)), .val (.int (0 : Int32)), .val (.int (0 : Int32)), .val (.int (sp1 ((nar .byte (p5.toInt8.toInt32)) &&& (255 : Int32)) (0 : Int32) (0 : Int32) (0 : Int32) (1 : Int32) (4 : Int32)))] [(.int (1 : Int32))])) _
              exact retN X118 hx (t := .boolean) Bd.returns (by simp) (hb hby at_160) hr
            · show Q0 Z p1 p2 p3 p4 p5 p6 h0 n0 _ T118.heap _
              rw [hh118]
              have hv : sp0 p1 p2 p3 p4 p5 p6 = (1 : Int32) := by unfold sp0; rw [if_neg c40_14, if_neg c40_39, if_neg c40_64, if_neg c40_86, if_pos c152_119]
              exact ⟨by rw [← hv, own_law p1 p2 p3 p4 p5 p6], N118⟩
          · obtain ⟨fs, hr, hrun, hended, hW, hsame⟩ := X118.leave (v := some (.int (0 : Int32))) (fun h => by rw [Bd.returns] at h; cases h)
            refine ⟨_, _, pre0 _ (k120 _ ?_), hrun, hended, _, _, rfl, ?_, ⟨_, rfl⟩, hW, hsame.mono (by decide) (by decide)⟩
            · show Steps p.tables e below (T118.setTop (mkF m 152 #[.val (.int p1), .val (.int p2), .val (.int p3), .val (.int p4), .val (.int p5), .val (.int p6), .val (.ref b2), .val (.int (4 : Int32)), .val (.int (1 : Int32)), .val (.int ((nar .byte (p5.toInt8.toInt32)) &&& (255 : Int32))), .val (.int (0 : Int32)), .val (.int (0 : Int32)), .val (.int (0 : Int32)), .val (.int (sp1 ((nar .byte (p5.toInt8.toInt32)) &&& (255 : Int32)) (0 : Int32) (0 : Int32) (0 : Int32) (1 : Int32) (4 : Int32)))] [(.int (sp1 ((nar .byte (p5.toInt8.toInt32)) &&& (255 : Int32)) (0 : Int32) (0 : Int32) (0 : Int32) (1 : Int32) (4 : Int32))), (.int (sp2 (4 : Int32) (nar .byte (p1.toInt8.toInt32)) (nar .byte (p2.toInt8.toInt32)) (nar .byte (p3.toInt8.toInt32)) (nar .byte (p4.toInt8.toInt32)) (nar .byte (p5.toInt8.toInt32))))])) _
              refine XS.icmpYes X118.here hx rfl (pc0 := 152) (pc' := 159) rfl (hb hby at_152) rfl (feq c152_119).2 (by decide) (by decide) ?_
              show Steps p.tables e below (T118.setTop (mkF m 159 #[.val (.int p1), .val (.int p2), .val (.int p3), .val (.int p4), .val (.int p5), .val (.int p6), .val (.ref b2), .val (.int (4 : Int32)), .val (.int (1 : Int32)), .val (.int ((nar .byte (p5.toInt8.toInt32)) &&& (255 : Int32))), .val (.int (0 : Int32)), .val (.int (0 : Int32)), .val (.int (0 : Int32)), .val (.int (sp1 ((nar .byte (p5.toInt8.toInt32)) &&& (255 : Int32)) (0 : Int32) (0 : Int32) (0 : Int32) (1 : Int32) (4 : Int32)))] [])) _
              refine XS.iconst X118.here hx rfl (hb hby at_159) ?_
              show Steps p.tables e below (T118.setTop (mkF m 160 #[.val (.int p1), .val (.int p2), .val (.int p3), .val (.int p4), .val (.int p5), .val (.int p6), .val (.ref b2), .val (.int (4 : Int32)), .val (.int (1 : Int32)), .val (.int ((nar .byte (p5.toInt8.toInt32)) &&& (255 : Int32))), .val (.int (0 : Int32)), .val (.int (0 : Int32)), .val (.int (0 : Int32)), .val (.int (sp1 ((nar .byte (p5.toInt8.toInt32)) &&& (255 : Int32)) (0 : Int32) (0 : Int32) (0 : Int32) (1 : Int32) (4 : Int32)))] [(.int (0 : Int32))])) _
              exact retN X118 hx (t := .boolean) Bd.returns (by simp) (hb hby at_160) hr
            · show Q0 Z p1 p2 p3 p4 p5 p6 h0 n0 _ T118.heap _
              rw [hh118]
              have hv : sp0 p1 p2 p3 p4 p5 p6 = (0 : Int32) := by unfold sp0; rw [if_neg c40_14, if_neg c40_39, if_neg c40_64, if_neg c40_86, if_neg c152_119]
              exact ⟨by rw [← hv, own_law p1 p2 p3 p4 p5 p6], N118⟩
set_option maxRecDepth 65536 in
set_option maxHeartbeats 40000000 in
theorem comes_1 {Post : Tables → Env → Array Value → State → Outcome → State → Prop} (hpost : ∀ tb e args s v u, (limb_1_1.after args s (.returned v) u = true ∧ limb_1_2.after args s (.returned v) u = true ∧ True) → FrameEnd s (.returned v) u (Jvm.fieldLocs frame_1_writes args s ++ Jvm.arrayLocs frame_1_arrays args s ++ Jvm.staticLocs frame_1_statics s) 16 128 → Post tb e args s (.returned v) u) :
    ArmFor flags0 classFile x code maxLocals ret World_1 tables_1 room_1 Calls_1 rest_1 Pre_1 Post := by
  intro l hfl _ _ p e ha hc hk s m args below hf hA hF happ hP
  obtain ⟨hcalls, hrest, hpre⟩ := hP
  obtain ⟨-, -, -, hnamed, -, -, -, hat⟩ := (Spec.applies_iff hf).mp happ
  obtain ⟨hg, hn⟩ := and_e (Cond.before_iff.mp (show (Jvm.Cond.and given_1 narrow_1).before args s = true from hpre))
  obtain ⟨g2, g3⟩ := and_e hg
  obtain ⟨g4, g5⟩ := and_e g3
  obtain ⟨g6, g7⟩ := and_e g5
  obtain ⟨g8, g9⟩ := and_e g7
  obtain ⟨g10, g11⟩ := and_e g9
  obtain ⟨g12, g13⟩ := and_e g11
  obtain ⟨w0, w1, w2, w3, w4, w5, rfl⟩ : ∃ w0 w1 w2 w3 w4 w5 : Value, args = #[w0, w1, w2, w3, w4, w5] := by
    have hs : args.size = 6 := by simpa [Cond.value, given_1] using g2
    obtain ⟨L⟩ := args
    match L, hs with
    | [w0, w1, w2, w3, w4, w5], _ => exact ⟨w0, w1, w2, w3, w4, w5, rfl⟩
  have hw := fun d (hd : d ∈ tables_1) => atoms_spec (ws := Jvm.Cond.code x code maxLocals ret :: tables_1) hat d (List.mem_cons_of_mem _ hd)
  obtain ⟨i0, ei0⟩ := is_v g4
  obtain rfl : w0 = (.int i0) := Option.some.inj ei0
  obtain ⟨i1, ei1⟩ := is_v g6
  obtain rfl : w1 = (.int i1) := Option.some.inj ei1
  obtain ⟨i2, ei2⟩ := is_v g8
  obtain rfl : w2 = (.int i2) := Option.some.inj ei2
  obtain ⟨i3, ei3⟩ := is_v g10
  obtain rfl : w3 = (.int i3) := Option.some.inj ei3
  obtain ⟨i4, ei4⟩ := is_v g12
  obtain rfl : w4 = (.int i4) := Option.some.inj ei4
  obtain ⟨i5, ei5⟩ := is_v g13
  obtain rfl : w5 = (.int i5) := Option.some.inj ei5
  obtain ⟨n, o, h1, h2, h3, _, L, rfl, ⟨rfl, N⟩, hq⟩ := rm0 l s _ hw tables_1 i0 i1 i2 i3 i4 i5 s.heap s.heap.size (Nat.le_refl _) p e ha hc hk s m _ below hf ((Spec.applies_iff_loose hf).mp happ).1 ⟨rfl, State.Warmed39.refl s, rfl⟩ trivial
  refine ⟨n, _, h1, h2, h3, hpost _ _ _ _ _ _ ⟨Cond.after_iff.mpr rfl, Cond.after_iff.mpr (eq_i res_at (Term.int_eval (1)) rfl), trivial⟩ ⟨hq.1, hq.2.1, (hq.2.2.sift fun y hy => Or.inr (N y hy)).mono (by decide) (by decide)⟩⟩
theorem main_1_1 : Claimed_1_1 := comes_1 fun _ _ _ _ _ _ h hF => ⟨h.1, hF⟩
theorem main_1_2 : Claimed_1_2 := comes_1 fun _ _ _ _ _ _ h hF => ⟨h.2.1, hF⟩
end Jvm.Pilot.@@N@@
namespace Jvm.Pilot.@@N@@
open Jvm Jvm.ClassFile Sem Op Lib Jvm.Free Jvm.Stand Jvm.Pilot.@@N@@.Jvm.D
/-! MADE BY PROGRAM (witnessworld.py) out of the Statement's table words and the real class files: 9 classes; the members and pool entries that the words name. The judged class is class 1, her method 1. -/
namespace start1
open Jvm.ClassFile
def u (s : String) : CpInfo := .utf8 (stringToUtf16 s)
/-- a pool by its gaps: so many unusable entries, then the entry; so many at the end -/
def gap : Nat → List CpInfo → List CpInfo
  | 0, r => r
  | n + 1, r => .unusable :: gap n r
def poolList (es : List (Nat × CpInfo)) (last : Nat) : List CpInfo := es.foldr (fun e r => gap e.1 (e.2 :: r)) (gap last [])
def pool (es : List (Nat × CpInfo)) (last : Nat) : Array CpInfo := ⟨poolList es last⟩
def fileOf (pool : Array CpInfo) (this : Nat) (attrs : Array Attribute := #[]) (ms : Array MethodInfo := #[]) (fl : Nat := 33) (sup : Nat := 0) (ifs : Array Nat := #[]) (fds : Array FieldInfo := #[]) : ClassFile where
  minorVersion := 0
  majorVersion := 65
  constantPool := pool
  accessFlags := fl
  thisClass := this
  superClass := sup
  interfaces := ifs
  fields := fds
  methods := ms
  attributes := attrs
def plain (name : String) (sup : Option ClassId) : Class where
  name := name
  kind := .ordinary
  loader := none
  accessFlags := 33
  super := sup
  interfaces := #[]
  cf := none
  fields := #[]
  methods := #[]
  instanceTypes := #[]
  staticTypes := #[]
  resolved := #[]
  callSites := []
  init := .initialized
  statics := none
  mirror := none

def pool0 : Array CpInfo := pool [(5, u "<init>"), (0, u "()V"), (1, .class_ 10), (1, u "java/lang/Object")] 113

def k0m0 : Method := { name := "<init>", desc := "()V", sig := { parameters := [], returnType := none }, accessFlags := 1, code := none }
/-- java/lang/Object -/
def k0 : Class := { plain "java/lang/Object" none with
  accessFlags := 33
  interfaces := #[]
  cf := some (fileOf pool0 8 #[] #[{ accessFlags := 1, nameIndex := 5, descriptorIndex := 6, attributes := #[] }] 33 0 #[] #[])
  fields := #[]
  methods := #[k0m0]
  instanceTypes := #[]
  staticTypes := #[]
  resolved := Array.replicate 124 none
  statics := none }

def pool1 : Array CpInfo := pool [(2, .class_ 4), (1, u "java/lang/Object"), (0, u "<init>"), (0, u "()V"), (0, .integer 2147483647), (0, .methodref 9 10), (0, .class_ 11), (0, .nameAndType 12 13), (0, u "com/example/hemawire/hemawire/serve/TextFilesCharacterEndPinLaw"), (0, u "expectedEnd"), (0, u "(IIIIII)I"), (0, .methodref 15 16), (0, .class_ 17), (0, .nameAndType 18 19), (0, u "com/example/hemawire/hemawire/serve/TextFiles"), (0, u "characterEnd"), (0, u "([BI)I"), (0, .integer 65536), (0, .methodref 9 22), (0, .nameAndType 23 24), (0, u "cont"), (0, u "(I)Z"), (0, .integer 1114111), (0, .integer 55296), (0, .integer 57343), (2, u "law"), (0, u "(IIIIII)Z")] 5

def k1m0 : Method := { name := "<init>", desc := "()V", sig := { parameters := [], returnType := none }, accessFlags := 1, code := none }
def k1c1 : Code := { maxStack := 6, maxLocals := 14, code := code, exceptionTable := #[], attributes := #[] }
def k1m1 : Method := { name := "law", desc := "(IIIIII)Z", sig := { parameters := [.int, .int, .int, .int, .int, .int], returnType := some .boolean }, accessFlags := 9, code := some k1c1 }
def k1c2 : Code := { maxStack := 2, maxLocals := 1, code := method_3_code, exceptionTable := #[], attributes := #[] }
def k1m2 : Method := { name := "cont", desc := "(I)Z", sig := { parameters := [.int], returnType := some .boolean }, accessFlags := 10, code := some k1c2 }
def k1c3 : Code := { maxStack := 3, maxLocals := 9, code := method_4_code, exceptionTable := #[], attributes := #[] }
def k1m3 : Method := { name := "expectedEnd", desc := "(IIIIII)I", sig := { parameters := [.int, .int, .int, .int, .int, .int], returnType := some .int }, accessFlags := 10, code := some k1c3 }
/-- com/example/hemawire/hemawire/serve/TextFilesCharacterEndPinLaw -/
def k1 : Class := { plain "com/example/hemawire/hemawire/serve/TextFilesCharacterEndPinLaw" (some 0) with
  accessFlags := 49
  interfaces := #[]
  cf := some (fileOf pool1 9 #[] #[{ accessFlags := 1, nameIndex := 5, descriptorIndex := 6, attributes := #[] }, { accessFlags := 9, nameIndex := 30, descriptorIndex := 31, attributes := #[] }, { accessFlags := 10, nameIndex := 23, descriptorIndex := 24, attributes := #[] }, { accessFlags := 10, nameIndex := 12, descriptorIndex := 13, attributes := #[] }] 49 2 #[] #[])
  fields := #[]
  methods := #[k1m0, k1m1, k1m2, k1m3]
  instanceTypes := #[]
  staticTypes := #[]
  resolved := Array.replicate 37 none
  statics := none }

def pool2 : Array CpInfo := pool [(2, .class_ 4), (1, u "java/lang/Object"), (0, u "<init>"), (0, u "()V"), (14, .class_ 23), (1, u "com/example/hemawire/hemawire/serve/TextFiles"), (0, u "BYTE_ORDER_MARK"), (0, u "[B"), (65, u "characterEnd"), (0, u "([BI)I")] 4

def k2m0 : Method := { name := "<init>", desc := "()V", sig := { parameters := [], returnType := none }, accessFlags := 2, code := none }
def k2c1 : Code := { maxStack := 3, maxLocals := 9, code := prog_171_method_4_code, exceptionTable := #[], attributes := #[] }
def k2m1 : Method := { name := "characterEnd", desc := "([BI)I", sig := { parameters := [(.array .byte), .int], returnType := some .int }, accessFlags := 8, code := some k2c1 }
/-- com/example/hemawire/hemawire/serve/TextFiles -/
def k2 : Class := { plain "com/example/hemawire/hemawire/serve/TextFiles" (some 0) with
  accessFlags := 48
  interfaces := #[]
  cf := some (fileOf pool2 21 #[] #[{ accessFlags := 2, nameIndex := 5, descriptorIndex := 6, attributes := #[] }, { accessFlags := 8, nameIndex := 91, descriptorIndex := 92, attributes := #[] }] 48 2 #[] #[{ accessFlags := 26, nameIndex := 24, descriptorIndex := 25, attributes := #[] }])
  fields := #[{ name := "BYTE_ORDER_MARK", type := (.array .byte), accessFlags := 26, slot := 0, constantValue := 0 }]
  methods := #[k2m0, k2m1]
  instanceTypes := #[]
  staticTypes := #[(.array .byte)]
  resolved := Array.replicate 97 none
  statics := none }

def pool3 : Array CpInfo := pool [(1, u "java/lang/Cloneable"), (0, .class_ 1), (0, u "java/lang/Object"), (0, .class_ 3)] 3

/-- java/lang/Cloneable -/
def k3 : Class := { plain "java/lang/Cloneable" (some 0) with
  accessFlags := 1537
  interfaces := #[]
  cf := some (fileOf pool3 2 #[] #[] 1537 4 #[] #[])
  fields := #[]
  methods := #[]
  instanceTypes := #[]
  staticTypes := #[]
  resolved := Array.replicate 8 none
  statics := none }

def pool4 : Array CpInfo := pool [(1, u "java/io/Serializable"), (0, .class_ 1), (0, u "java/lang/Object"), (0, .class_ 3)] 3

/-- java/io/Serializable -/
def k4 : Class := { plain "java/io/Serializable" (some 0) with
  accessFlags := 1537
  interfaces := #[]
  cf := some (fileOf pool4 2 #[] #[] 1537 4 #[] #[])
  fields := #[]
  methods := #[]
  instanceTypes := #[]
  staticTypes := #[]
  resolved := Array.replicate 8 none
  statics := none }

/-- the primitive byte -/
def k5 : Class := { plain "byte" none with kind := .primitive 'B', accessFlags := 0x411 }
/-- [B -/
def k6 : Class := { plain "[B" (some 0) with kind := .array 5 .byte, interfaces := #[3, 4], accessFlags := 1041 }

/-- the primitive int -/
def k7 : Class := { plain "int" none with kind := .primitive 'I', accessFlags := 0x411 }
/-- [I -/
def k8 : Class := { plain "[I" (some 0) with kind := .array 7 .int, interfaces := #[3, 4], accessFlags := 1041 }

def heap : Heap := #[]
def classes : Array Class := #[k0, k1, k2, k3, k4, k5, k6, k7, k8]
def interned : List (Array UInt16 × Addr) := []
def slotsUsed : Nat := 0
def theMethod : MethodId := ⟨1, 1⟩
def args0 : Array Value := #[.int 5, .int 5, .int 5, .int 5, .int 5, .int 5]
def aboutOver (below : List Frame) : State where
  vm := { classes := classes, interned := interned.toArray }
  heap := heap
  slotsUsed := slotsUsed
  threads := #[{ frames := .invoking theMethod args0 :: below }]
def below0 : List Frame := [.native { method := ⟨0, 0⟩, args := #[] }]
def about1 : State := aboutOver below0
def p0 : Program := .bare "" "" ""
def e0 : Env := launch0.env 0 0 0
theorem w_frames : about1.frames = Frame.invoking theMethod args0 :: below0 := rfl
set_option maxRecDepth 65536 in
theorem w_args : argsFit about1.vm theMethod args0 = true := by decide +kernel
set_option maxRecDepth 65536 in
theorem w_heap : heapFits about1 = true := by decide +kernel
set_option maxRecDepth 65536 in
theorem w_runnable : about1.curStatus? = some .runnable := by decide +kernel
set_option maxRecDepth 65536 in
theorem w_alone : about1.alone = true := by decide +kernel
set_option maxRecDepth 65536 in
theorem w_named : about1.methodNamed? x = some theMethod := by decide +kernel
set_option maxRecDepth 65536 in
theorem w_hears : about1.hears theMethod below0 = true := by decide +kernel
set_option maxRecDepth 65536 in
theorem w_ripe : about1.ripe theMethod args0 below0 = true := by decide +kernel
theorem w_running : about1.status = .running := rfl
set_option maxRecDepth 65536 in
theorem w_room : about1.hasRoom e0.platform room_1 = true :=
  launch0.hasRoom_least _ room_1 (by decide +kernel) (by decide +kernel) (by decide +kernel) (by decide +kernel) (by decide +kernel) (by decide +kernel)
theorem allAtoms_all (ts : List Jvm.Cond) (a : Array Jvm.Value) (st : Jvm.State) : (allAtoms ts).before a st = ts.all (fun c => c.before a st) := by
  induction ts with
  | nil => rfl
  | cons c t ih =>
    show (Jvm.Cond.and c (allAtoms t)).before a st = _
    rw [Jvm.Cond.before_and, ih, List.all_cons]
def words1 : List Jvm.Cond := Jvm.Cond.code x code maxLocals ret :: tables_1
/-- a 'code' word, met by the world's own term for the bytes: nothing is compared byte by byte -/
theorem code_word {y : MethodName} {bytes : ByteArray} {mx : Nat} {rt : Option FieldType} {a : Array Value} {s : State} {m : MethodId} {meth : Method} {c : Code} (h1 : s.methodNamed? y = some m) (h2 : s.vm.method? m = some meth) (h3 : meth.code = some c) (h4 : c.code = bytes)
    (h5 : (c.maxLocals == mx && c.exceptionTable.isEmpty && decide (c.maxStack ≤ mostOperands) && decide (meth.sig.returnType = rt) && !meth.locks && decide (parseMethodDescriptor y.desc = some meth.sig)) = true) : (Jvm.Cond.code y bytes mx rt).before a s = true := by
  simp only [Bool.and_eq_true, beq_iff_eq, Bool.not_eq_true', decide_eq_true_eq] at h5
  obtain ⟨⟨⟨⟨⟨g1, g2⟩, g3⟩, g4⟩, g5⟩, g6⟩ := h5
  simp [Cond.before, Cond.holds, Cond.value, h1, h2, h3, h4, g1, g2, g3, g4, g5, g6]
def isCode : Jvm.Cond → Bool
  | .code _ _ _ _ => true
  | _ => false
theorem all_split {L : List Jvm.Cond} {P : Jvm.Cond → Bool} (h1 : L.all (fun c => isCode c || P c) = true) (h2 : ∀ c ∈ L.filter isCode, P c = true) : L.all P = true := by
  refine List.all_eq_true.mpr fun c hc => ?_
  have h := List.all_eq_true.mp h1 c hc
  rcases Bool.eq_false_or_eq_true (isCode c) with hi | hi
  · exact h2 c (List.mem_filter.mpr ⟨hc, hi⟩)
  · simpa [hi] using h
set_option maxRecDepth 65536 in
theorem w_c0 : (Jvm.Cond.code x code maxLocals ret).before args0 about1 = true := code_word (m := ⟨1, 1⟩) (meth := k1m1) (c := k1c1) (by decide +kernel) rfl rfl rfl (by decide +kernel)
set_option maxRecDepth 65536 in
theorem w_c1 : (Jvm.Cond.code ({ cls := "com/example/hemawire/hemawire/serve/TextFilesCharacterEndPinLaw", name := "expectedEnd", desc := "(IIIIII)I" } : Jvm.MethodName) method_4_code (9 : Nat) (Option.some Jvm.ClassFile.FieldType.int)).before args0 about1 = true := code_word (m := ⟨1, 3⟩) (meth := k1m3) (c := k1c3) (by decide +kernel) rfl rfl rfl (by decide +kernel)
set_option maxRecDepth 65536 in
theorem w_c2 : (Jvm.Cond.code ({ cls := "com/example/hemawire/hemawire/serve/TextFiles", name := "characterEnd", desc := "([BI)I" } : Jvm.MethodName) prog_171_method_4_code (9 : Nat) (Option.some Jvm.ClassFile.FieldType.int)).before args0 about1 = true := code_word (m := ⟨2, 1⟩) (meth := k2m1) (c := k2c1) (by decide +kernel) rfl rfl rfl (by decide +kernel)
set_option maxRecDepth 65536 in
theorem w_c3 : (Jvm.Cond.code ({ cls := "com/example/hemawire/hemawire/serve/TextFilesCharacterEndPinLaw", name := "cont", desc := "(I)Z" } : Jvm.MethodName) method_3_code (1 : Nat) (Option.some Jvm.ClassFile.FieldType.boolean)).before args0 about1 = true := code_word (m := ⟨1, 2⟩) (meth := k1m2) (c := k1c2) (by decide +kernel) rfl rfl rfl (by decide +kernel)
def codes1 : List Jvm.Cond := [Jvm.Cond.code x code maxLocals ret, Jvm.Cond.code ({ cls := "com/example/hemawire/hemawire/serve/TextFilesCharacterEndPinLaw", name := "expectedEnd", desc := "(IIIIII)I" } : Jvm.MethodName) method_4_code (9 : Nat) (Option.some Jvm.ClassFile.FieldType.int), Jvm.Cond.code ({ cls := "com/example/hemawire/hemawire/serve/TextFiles", name := "characterEnd", desc := "([BI)I" } : Jvm.MethodName) prog_171_method_4_code (9 : Nat) (Option.some Jvm.ClassFile.FieldType.int), Jvm.Cond.code ({ cls := "com/example/hemawire/hemawire/serve/TextFilesCharacterEndPinLaw", name := "cont", desc := "(I)Z" } : Jvm.MethodName) method_3_code (1 : Nat) (Option.some Jvm.ClassFile.FieldType.boolean)]
set_option maxRecDepth 65536 in
theorem codes_eq : words1.filter isCode = codes1 := rfl
theorem w_codes : ∀ c ∈ words1.filter isCode, c.before args0 about1 = true := by
  rw [codes_eq]
  intro c hc
  simp only [codes1, List.mem_cons, List.not_mem_nil, or_false] at hc
  rcases hc with rfl | rfl | rfl | rfl
  · exact w_c0
  · exact w_c1
  · exact w_c2
  · exact w_c3
set_option maxRecDepth 65536 in
theorem w_t1 : words1.all (fun c => isCode c || c.before args0 about1) = true := by decide +kernel
theorem w_tables : (allAtoms (Jvm.Cond.code x code maxLocals ret :: tables_1)).before args0 about1 = true := by
  rw [allAtoms_all]
  show words1.all (fun c => c.before args0 about1) = true
  refine all_split ?_ w_codes
  rw [w_t1]
set_option maxRecDepth 65536 in
theorem w_case : (Jvm.Cond.and given_1 narrow_1).before args0 about1 = true := by decide +kernel
theorem w_applies : (headSpec (Jvm.Cond.code x code maxLocals ret :: tables_1) room_1).applies x e0.platform about1 = true :=
  (Spec.applies_iff w_frames).mpr ⟨w_running, w_runnable, w_alone, w_named, w_hears, w_ripe, w_room, w_tables⟩
theorem atStart : AtStart classFile x code maxLocals ret World_1 tables_1 room_1 Calls_1 rest_1 Pre_1 launch0 p0 e0 about1 theMethod args0 below0 :=
  ⟨lists_1, trivial, launch0.admits_env _ _ _, launch0.least_env, fairChoices_fair.cas, fairChoices_fair.clock, w_frames, w_args, w_heap, w_applies, trivial, trivial, w_case⟩
end start1
theorem witness_1 : WitnessClaimed_1 := ⟨start1.p0, start1.e0, start1.about1, start1.theMethod, start1.args0, start1.below0, start1.atStart⟩
end Jvm.Pilot.@@N@@
