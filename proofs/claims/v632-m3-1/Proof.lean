import JvmDerived
import JvmDerived.Pilot.@@N@@Statement
import JvmDerived.Pilot.@@N@@Code
set_option linter.unusedVariables false
set_option linter.unusedSimpArgs false
namespace Jvm.RoadKit
open Sem ClassFile Op Lib Jvm.Stand Jvm.Free Jvm.LawKit
section New
variable {p : Program} {l : Launch} {e : Env} {R : Room} {s : State} {m : MethodId} {args : Array Value} {below : List Frame} {meth : Method} {c : Code} {T : State} {locs : List Loc} {cells slots : Nat}
theorem retI (X : Stand p l e R s m args below meth c T locs cells slots) (hx : p.tables.exec = Jvm.exec) {pc : Nat} {Ls : Array Slot} {z : Int32} {rest : List Value} (hret : meth.sig.returnType = some .int) (hd : decode c.code pc = .ok (.ireturn, 1)) {fs : List Frame}
    (hl : ∀ (f : JFrame) (acts : List Action), f.method = m → f.locked = none → f.entered = [] → (doReturn e (T.setTop f) acts (some (.int z))).1 = T.setFrames fs) : Steps p.tables e below (T.setTop (mkF m pc Ls (.int z :: rest))) (T.setFrames fs) := by
  have hm' : T.vm.method? m = some meth := X.method'
  have hn : narrow .int (.int z) = .int z := rfl
  show Steps p.tables e below (T.setTop { method := m, pc := pc, locals := Ls, stack := _ :: rest, locked := none }) _
  jvm_step X.here [X.here.top, hx, hd, hm', hret, hn]
  first | (intro acts; rw [hl _ acts rfl rfl rfl]) | rw [hl _ _ rfl rfl rfl]
  exact Steps.refl _
end New
end Jvm.RoadKit
namespace Jvm.Pilot.@@N@@
open Jvm Jvm.ClassFile Sem Op Lib Jvm.Free Jvm.Stand Jvm.LawKit Jvm.RoadKit Bundle Jvm.Pilot.@@N@@.Jvm.D
theorem d2_0 : decode jdk_30_method_1_code 0 = .ok (.aload_n 0, 1) := by decide +kernel
theorem d2_1 : decode jdk_30_method_1_code 1 = .ok (.invokespecial 1, 3) := by decide +kernel
theorem d2_4 : decode jdk_30_method_1_code 4 = .ok (.return_, 1) := by decide +kernel
theorem pn_2 : plainName "java/lang/Record" = true := by first | (simp [plainName, overriddenIn]; done) | decide +kernel
theorem ef_2 (m : MethodId) (x0 : Addr) : entryFrame m #[(.ref x0)] 1 = mkF m 0 #[.val (.ref x0)] [] := by first | (simp [entryFrame, mkF, argsToLocals, Value.category]; done) | rfl
theorem d1_0 : decode prog_26_method_1_code 0 = .ok (.aload_n 0, 1) := by decide +kernel
theorem d1_1 : decode prog_26_method_1_code 1 = .ok (.invokespecial 5, 3) := by decide +kernel
theorem d1_4 : decode prog_26_method_1_code 4 = .ok (.aload_n 0, 1) := by decide +kernel
theorem d1_5 : decode prog_26_method_1_code 5 = .ok (.iload_n 1, 1) := by decide +kernel
theorem d1_6 : decode prog_26_method_1_code 6 = .ok (.putfield 11, 3) := by decide +kernel
theorem d1_9 : decode prog_26_method_1_code 9 = .ok (.return_, 1) := by decide +kernel
theorem pn_1 : plainName "com/example/parity_lattice/paritylattice/Polynomial" = true := by first | (simp [plainName, overriddenIn]; done) | decide +kernel
theorem pd1_0 : parseMethodDescriptor "()V" = some ⟨[], none⟩ := by decide +kernel
theorem ef_1 (m : MethodId) (x0 : Addr) (x1 : Int32) : entryFrame m #[(.ref x0), (.int x1)] 2 = mkF m 0 #[.val (.ref x0), .val (.int x1)] [] := by first | (simp [entryFrame, mkF, argsToLocals, Value.category]; done) | rfl
theorem d6_0 : decode jdk_33_method_47_code 0 = .ok (.iload_n 0, 1) := by decide +kernel
theorem d6_1 : decode jdk_33_method_47_code 1 = .ok (.ifCond .gt 14, 3) := by decide +kernel
theorem d6_4 : decode jdk_33_method_47_code 4 = .ok (.iload_n 0, 1) := by decide +kernel
theorem d6_5 : decode jdk_33_method_47_code 5 = .ok (.ifCond .ne 8, 3) := by decide +kernel
theorem d6_8 : decode jdk_33_method_47_code 8 = .ok (.bipush 32, 2) := by decide +kernel
theorem d6_10 : decode jdk_33_method_47_code 10 = .ok (.goto 4, 3) := by decide +kernel
theorem d6_13 : decode jdk_33_method_47_code 13 = .ok (.iconst 0, 1) := by decide +kernel
theorem d6_14 : decode jdk_33_method_47_code 14 = .ok (.ireturn, 1) := by decide +kernel
theorem d6_15 : decode jdk_33_method_47_code 15 = .ok (.bipush 31, 2) := by decide +kernel
theorem d6_17 : decode jdk_33_method_47_code 17 = .ok (.istore_n 1, 1) := by decide +kernel
theorem d6_18 : decode jdk_33_method_47_code 18 = .ok (.iload_n 0, 1) := by decide +kernel
theorem d6_19 : decode jdk_33_method_47_code 19 = .ok (.ldc_w 264, 3) := by decide +kernel
theorem d6_22 : decode jdk_33_method_47_code 22 = .ok (.if_icmp .lt 11, 3) := by decide +kernel
theorem d6_25 : decode jdk_33_method_47_code 25 = .ok (.iinc 1 (-16), 3) := by decide +kernel
theorem d6_28 : decode jdk_33_method_47_code 28 = .ok (.iload_n 0, 1) := by decide +kernel
theorem d6_29 : decode jdk_33_method_47_code 29 = .ok (.bipush 16, 2) := by decide +kernel
theorem d6_31 : decode jdk_33_method_47_code 31 = .ok (.iushr, 1) := by decide +kernel
theorem d6_32 : decode jdk_33_method_47_code 32 = .ok (.istore_n 0, 1) := by decide +kernel
theorem d6_33 : decode jdk_33_method_47_code 33 = .ok (.iload_n 0, 1) := by decide +kernel
theorem d6_34 : decode jdk_33_method_47_code 34 = .ok (.sipush 256, 3) := by decide +kernel
theorem d6_37 : decode jdk_33_method_47_code 37 = .ok (.if_icmp .lt 11, 3) := by decide +kernel
theorem d6_40 : decode jdk_33_method_47_code 40 = .ok (.iinc 1 (-8), 3) := by decide +kernel
theorem d6_43 : decode jdk_33_method_47_code 43 = .ok (.iload_n 0, 1) := by decide +kernel
theorem d6_44 : decode jdk_33_method_47_code 44 = .ok (.bipush 8, 2) := by decide +kernel
theorem d6_46 : decode jdk_33_method_47_code 46 = .ok (.iushr, 1) := by decide +kernel
theorem d6_47 : decode jdk_33_method_47_code 47 = .ok (.istore_n 0, 1) := by decide +kernel
theorem d6_48 : decode jdk_33_method_47_code 48 = .ok (.iload_n 0, 1) := by decide +kernel
theorem d6_49 : decode jdk_33_method_47_code 49 = .ok (.bipush 16, 2) := by decide +kernel
theorem d6_51 : decode jdk_33_method_47_code 51 = .ok (.if_icmp .lt 10, 3) := by decide +kernel
theorem d6_54 : decode jdk_33_method_47_code 54 = .ok (.iinc 1 (-4), 3) := by decide +kernel
theorem d6_57 : decode jdk_33_method_47_code 57 = .ok (.iload_n 0, 1) := by decide +kernel
theorem d6_58 : decode jdk_33_method_47_code 58 = .ok (.iconst 4, 1) := by decide +kernel
theorem d6_59 : decode jdk_33_method_47_code 59 = .ok (.iushr, 1) := by decide +kernel
theorem d6_60 : decode jdk_33_method_47_code 60 = .ok (.istore_n 0, 1) := by decide +kernel
theorem d6_61 : decode jdk_33_method_47_code 61 = .ok (.iload_n 0, 1) := by decide +kernel
theorem d6_62 : decode jdk_33_method_47_code 62 = .ok (.iconst 4, 1) := by decide +kernel
theorem d6_63 : decode jdk_33_method_47_code 63 = .ok (.if_icmp .lt 10, 3) := by decide +kernel
theorem d6_66 : decode jdk_33_method_47_code 66 = .ok (.iinc 1 (-2), 3) := by decide +kernel
theorem d6_69 : decode jdk_33_method_47_code 69 = .ok (.iload_n 0, 1) := by decide +kernel
theorem d6_70 : decode jdk_33_method_47_code 70 = .ok (.iconst 2, 1) := by decide +kernel
theorem d6_71 : decode jdk_33_method_47_code 71 = .ok (.iushr, 1) := by decide +kernel
theorem d6_72 : decode jdk_33_method_47_code 72 = .ok (.istore_n 0, 1) := by decide +kernel
theorem d6_73 : decode jdk_33_method_47_code 73 = .ok (.iload_n 1, 1) := by decide +kernel
theorem d6_74 : decode jdk_33_method_47_code 74 = .ok (.iload_n 0, 1) := by decide +kernel
theorem d6_75 : decode jdk_33_method_47_code 75 = .ok (.iconst 1, 1) := by decide +kernel
theorem d6_76 : decode jdk_33_method_47_code 76 = .ok (.iushr, 1) := by decide +kernel
theorem d6_77 : decode jdk_33_method_47_code 77 = .ok (.isub, 1) := by decide +kernel
theorem d6_78 : decode jdk_33_method_47_code 78 = .ok (.ireturn, 1) := by decide +kernel
theorem pn_6 : plainName "java/lang/Integer" = true := by first | (simp [plainName, overriddenIn]; done) | decide +kernel
theorem ef_6 (m : MethodId) (x0 : Int32) : entryFrame m #[(.int x0)] 2 = mkF m 0 #[.val (.int x0), .unset] [] := by first | (simp [entryFrame, mkF, argsToLocals, Value.category]; done) | rfl
theorem d5_0 : decode prog_26_method_4_code 0 = .ok (.bipush 31, 2) := by decide +kernel
theorem d5_2 : decode prog_26_method_4_code 2 = .ok (.aload_n 0, 1) := by decide +kernel
theorem d5_3 : decode prog_26_method_4_code 3 = .ok (.getfield 11, 3) := by decide +kernel
theorem d5_6 : decode prog_26_method_4_code 6 = .ok (.invokestatic 91, 3) := by decide +kernel
theorem d5_9 : decode prog_26_method_4_code 9 = .ok (.isub, 1) := by decide +kernel
theorem d5_10 : decode prog_26_method_4_code 10 = .ok (.ireturn, 1) := by decide +kernel
theorem pn_5 : plainName "com/example/parity_lattice/paritylattice/Polynomial" = true := by first | (simp [plainName, overriddenIn]; done) | decide +kernel
theorem pd5_0 : parseMethodDescriptor "(I)I" = some ⟨[.int], some .int⟩ := by decide +kernel
theorem ef_5 (m : MethodId) (x0 : Addr) : entryFrame m #[(.ref x0)] 1 = mkF m 0 #[.val (.ref x0)] [] := by first | (simp [entryFrame, mkF, argsToLocals, Value.category]; done) | rfl
theorem d4_0 : decode prog_26_method_5_code 0 = .ok (.iload_n 1, 1) := by decide +kernel
theorem d4_1 : decode prog_26_method_5_code 1 = .ok (.iconst 1, 1) := by decide +kernel
theorem d4_2 : decode prog_26_method_5_code 2 = .ok (.ishl, 1) := by decide +kernel
theorem d4_3 : decode prog_26_method_5_code 3 = .ok (.istore_n 2, 1) := by decide +kernel
theorem d4_4 : decode prog_26_method_5_code 4 = .ok (.iload_n 2, 1) := by decide +kernel
theorem d4_5 : decode prog_26_method_5_code 5 = .ok (.aload_n 0, 1) := by decide +kernel
theorem d4_6 : decode prog_26_method_5_code 6 = .ok (.invokevirtual 95, 3) := by decide +kernel
theorem d4_9 : decode prog_26_method_5_code 9 = .ok (.iushr, 1) := by decide +kernel
theorem d4_10 : decode prog_26_method_5_code 10 = .ok (.iconst 1, 1) := by decide +kernel
theorem d4_11 : decode prog_26_method_5_code 11 = .ok (.iand, 1) := by decide +kernel
theorem d4_12 : decode prog_26_method_5_code 12 = .ok (.iconst 1, 1) := by decide +kernel
theorem d4_13 : decode prog_26_method_5_code 13 = .ok (.if_icmp .ne 12, 3) := by decide +kernel
theorem d4_16 : decode prog_26_method_5_code 16 = .ok (.iload_n 2, 1) := by decide +kernel
theorem d4_17 : decode prog_26_method_5_code 17 = .ok (.aload_n 0, 1) := by decide +kernel
theorem d4_18 : decode prog_26_method_5_code 18 = .ok (.getfield 11, 3) := by decide +kernel
theorem d4_21 : decode prog_26_method_5_code 21 = .ok (.ixor, 1) := by decide +kernel
theorem d4_22 : decode prog_26_method_5_code 22 = .ok (.goto 4, 3) := by decide +kernel
theorem d4_25 : decode prog_26_method_5_code 25 = .ok (.iload_n 2, 1) := by decide +kernel
theorem d4_26 : decode prog_26_method_5_code 26 = .ok (.ireturn, 1) := by decide +kernel
theorem pn_4 : plainName "com/example/parity_lattice/paritylattice/Polynomial" = true := by first | (simp [plainName, overriddenIn]; done) | decide +kernel
theorem pd4_0 : parseMethodDescriptor "()I" = some ⟨[], some .int⟩ := by decide +kernel
theorem ef_4 (m : MethodId) (x0 : Addr) (x1 : Int32) : entryFrame m #[(.ref x0), (.int x1)] 3 = mkF m 0 #[.val (.ref x0), .val (.int x1), .unset] [] := by first | (simp [entryFrame, mkF, argsToLocals, Value.category]; done) | rfl
theorem pn_0 : plainName "com/example/parity_lattice/paritylattice/PolynomialTimesXPinLaw" = true := by first | (simp [plainName, overriddenIn]; done) | decide +kernel
theorem pd0_0 : parseMethodDescriptor "(I)V" = some ⟨[.int], none⟩ := by decide +kernel
theorem pd0_1 : parseMethodDescriptor "(I)I" = some ⟨[.int], some .int⟩ := by decide +kernel
theorem ef_0 (m : MethodId) (x0 : Int32) (x1 : Int32) (x2 : Int32) : entryFrame m #[(.int x0), (.int x1), (.int x2)] maxLocals = mkF m 0 #[.val (.int x0), .val (.int x1), .val (.int x2), .unset, .unset, .unset, .unset, .unset, .unset, .unset, .unset, .unset] [] := by first | (simp [entryFrame, mkF, argsToLocals, Value.category, maxLocals]; done) | rfl
def j6_1_L0 (p1 : Int32) : Int32 := (if p1 < (65536 : Int32) then p1 else ((p1.toUInt32 >>> ((16 : Int32) &&& 31).toUInt32).toInt32))
def j6_1_L1 (p1 : Int32) : Int32 := (if p1 < (65536 : Int32) then (31 : Int32) else (15 : Int32))
def j6_2_L0 (p1 : Int32) : Int32 := (if (j6_1_L0 p1) < (256 : Int32) then (j6_1_L0 p1) else (((j6_1_L0 p1).toUInt32 >>> ((8 : Int32) &&& 31).toUInt32).toInt32))
def j6_2_L1 (p1 : Int32) : Int32 := (if (j6_1_L0 p1) < (256 : Int32) then (j6_1_L1 p1) else ((j6_1_L1 p1) + (-8 : Int32)))
def j6_3_L0 (p1 : Int32) : Int32 := (if (j6_2_L0 p1) < (16 : Int32) then (j6_2_L0 p1) else (((j6_2_L0 p1).toUInt32 >>> ((4 : Int32) &&& 31).toUInt32).toInt32))
def j6_3_L1 (p1 : Int32) : Int32 := (if (j6_2_L0 p1) < (16 : Int32) then (j6_2_L1 p1) else ((j6_2_L1 p1) + (-4 : Int32)))
def j6_4_L0 (p1 : Int32) : Int32 := (if (j6_3_L0 p1) < (4 : Int32) then (j6_3_L0 p1) else (((j6_3_L0 p1).toUInt32 >>> ((2 : Int32) &&& 31).toUInt32).toInt32))
def j6_4_L1 (p1 : Int32) : Int32 := (if (j6_3_L0 p1) < (4 : Int32) then (j6_3_L1 p1) else ((j6_3_L1 p1) + (-2 : Int32)))
def sp6 (p1 : Int32) : Int32 := (if (0 : Int32) < p1 then ((j6_4_L1 p1) - (((j6_4_L0 p1).toUInt32 >>> ((1 : Int32) &&& 31).toUInt32).toInt32)) else (if p1 = (0 : Int32) then (32 : Int32) else (0 : Int32)))
def sp5 (w_coefficients : Int32) : Int32 := ((31 : Int32) - (sp6 w_coefficients))
def sp4 (p2 : Int32) (w_coefficients : Int32) : Int32 := (if ((((p2 <<< ((1 : Int32) &&& 31)).toUInt32 >>> ((sp5 w_coefficients) &&& 31).toUInt32).toInt32) &&& (1 : Int32)) = (1 : Int32) then ((p2 <<< ((1 : Int32) &&& 31)) ^^^ w_coefficients) else (p2 <<< ((1 : Int32) &&& 31)))
def v0_7 (p1 : Int32) (p2 : Int32) (p3 : Int32) : Int32 := ((p1 &&& (2147483647 : Int32)) % (31 : Int32))
def v0_13 (p1 : Int32) (p2 : Int32) (p3 : Int32) : Int32 := (((1 : Int32) <<< ((v0_7 p1 p2 p3) &&& 31)) - (1 : Int32))
def v0_23 (p1 : Int32) (p2 : Int32) (p3 : Int32) : Int32 := (((1 : Int32) <<< ((v0_7 p1 p2 p3) &&& 31)) ||| (p2 &&& (v0_13 p1 p2 p3)))
def v0_29 (p1 : Int32) (p2 : Int32) (p3 : Int32) : Int32 := (p3 &&& (v0_13 p1 p2 p3))
def v0_58 (p1 : Int32) (p2 : Int32) (p3 : Int32) : Int32 := (((v0_29 p1 p2 p3) <<< ((1 : Int32) &&& 31)) &&& (v0_13 p1 p2 p3))
def sp0 (p1 : Int32) (p2 : Int32) (p3 : Int32) : Int32 := (if (0 : Int32) < (v0_7 p1 p2 p3) then (if ((v0_29 p1 p2 p3) &&& ((1 : Int32) <<< (((v0_7 p1 p2 p3) - (1 : Int32)) &&& 31))) = (0 : Int32) then (if (sp4 (v0_29 p1 p2 p3) (v0_23 p1 p2 p3)) = (v0_58 p1 p2 p3) then (1 : Int32) else (0 : Int32)) else (if (sp4 (v0_29 p1 p2 p3) (v0_23 p1 p2 p3)) = ((v0_58 p1 p2 p3) ^^^ ((v0_23 p1 p2 p3) &&& (v0_13 p1 p2 p3))) then (1 : Int32) else (0 : Int32))) else (if (sp4 (v0_29 p1 p2 p3) (v0_23 p1 p2 p3)) = (v0_58 p1 p2 p3) then (1 : Int32) else (0 : Int32)))
theorem own_fin (p : Int32) (n : Nat) (h0 : 0 ≤ p.toInt) (h1 : p.toInt < (n : Int)) : ∃ k : Fin n, p = Int32.ofNat k.val := by
  refine ⟨⟨p.toInt.toNat, by omega⟩, ?_⟩
  apply Int32.toInt_inj.mp
  have h2 := p.toInt_lt
  show p.toInt = (Int32.ofNat p.toInt.toNat).toInt
  rw [Int32.toInt_ofNat_of_lt (by omega)]
  omega
theorem own_sh (x q : Int32) (k : Nat) (hk : q.toBitVec.toNat % 32 = k) (h0 : 0 < k) (hx : 0 ≤ x.toInt) : ((x.toUInt32 >>> (q &&& 31).toUInt32).toInt32).toInt = x.toInt / (2 ^ k : Nat) := by
  rw [c_iushr x q k hk h0]
  have := rng32 x
  rw [Int.emod_eq_of_lt hx (by omega)]
theorem own_lt32 {x y : Int32} (h : x.toInt < y.toInt) : x < y := Int32.lt_iff_toInt_lt.mpr h
theorem own_nlt32 {x y : Int32} (h : ¬ x.toInt < y.toInt) : ¬ x < y := fun q => h (Int32.lt_iff_toInt_lt.mp q)
theorem own_nlz_0 (p : Int32) (h1 : 1 ≤ p.toInt) (h2 : p.toInt < 2) : sp6 p = (31 : Int32) := by
  have c0 : (0 : Int32) < p := own_lt32 (by rw [show (0 : Int32).toInt = 0 by decide]; omega)
  have c1 : p < (65536 : Int32) := own_lt32 (by rw [show (65536 : Int32).toInt = 65536 by decide]; omega)
  have e1 : j6_1_L0 p = p := by unfold j6_1_L0; rw [if_pos c1]
  have b1 : 1 ≤ (j6_1_L0 p).toInt ∧ (j6_1_L0 p).toInt < 2 := by rw [e1]; omega
  have n1 : j6_1_L1 p = (31 : Int32) := by unfold j6_1_L1; rw [if_pos c1]
  have c2 : (j6_1_L0 p) < (256 : Int32) := own_lt32 (by rw [show (256 : Int32).toInt = 256 by decide]; omega)
  have e2 : j6_2_L0 p = (j6_1_L0 p) := by unfold j6_2_L0; rw [if_pos c2]
  have b2 : 1 ≤ (j6_2_L0 p).toInt ∧ (j6_2_L0 p).toInt < 2 := by rw [e2]; omega
  have n2 : j6_2_L1 p = (31 : Int32) := by unfold j6_2_L1; rw [if_pos c2, n1]
  have c3 : (j6_2_L0 p) < (16 : Int32) := own_lt32 (by rw [show (16 : Int32).toInt = 16 by decide]; omega)
  have e3 : j6_3_L0 p = (j6_2_L0 p) := by unfold j6_3_L0; rw [if_pos c3]
  have b3 : 1 ≤ (j6_3_L0 p).toInt ∧ (j6_3_L0 p).toInt < 2 := by rw [e3]; omega
  have n3 : j6_3_L1 p = (31 : Int32) := by unfold j6_3_L1; rw [if_pos c3, n2]
  have c4 : (j6_3_L0 p) < (4 : Int32) := own_lt32 (by rw [show (4 : Int32).toInt = 4 by decide]; omega)
  have e4 : j6_4_L0 p = (j6_3_L0 p) := by unfold j6_4_L0; rw [if_pos c4]
  have b4 : 1 ≤ (j6_4_L0 p).toInt ∧ (j6_4_L0 p).toInt < 2 := by rw [e4]; omega
  have n4 : j6_4_L1 p = (31 : Int32) := by unfold j6_4_L1; rw [if_pos c4, n3]
  have e5 : (((j6_4_L0 p).toUInt32 >>> ((1 : Int32) &&& 31).toUInt32).toInt32) = (0 : Int32) := by
    apply Int32.toInt_inj.mp; rw [own_sh _ _ 1 (by decide) (by decide) (by omega), show (0 : Int32).toInt = 0 by decide]; simp only [Nat.reducePow]; omega
  unfold sp6; rw [if_pos c0, n4, e5]; decide
theorem own_nlz_1 (p : Int32) (h1 : 2 ≤ p.toInt) (h2 : p.toInt < 4) : sp6 p = (30 : Int32) := by
  have c0 : (0 : Int32) < p := own_lt32 (by rw [show (0 : Int32).toInt = 0 by decide]; omega)
  have c1 : p < (65536 : Int32) := own_lt32 (by rw [show (65536 : Int32).toInt = 65536 by decide]; omega)
  have e1 : j6_1_L0 p = p := by unfold j6_1_L0; rw [if_pos c1]
  have b1 : 2 ≤ (j6_1_L0 p).toInt ∧ (j6_1_L0 p).toInt < 4 := by rw [e1]; omega
  have n1 : j6_1_L1 p = (31 : Int32) := by unfold j6_1_L1; rw [if_pos c1]
  have c2 : (j6_1_L0 p) < (256 : Int32) := own_lt32 (by rw [show (256 : Int32).toInt = 256 by decide]; omega)
  have e2 : j6_2_L0 p = (j6_1_L0 p) := by unfold j6_2_L0; rw [if_pos c2]
  have b2 : 2 ≤ (j6_2_L0 p).toInt ∧ (j6_2_L0 p).toInt < 4 := by rw [e2]; omega
  have n2 : j6_2_L1 p = (31 : Int32) := by unfold j6_2_L1; rw [if_pos c2, n1]
  have c3 : (j6_2_L0 p) < (16 : Int32) := own_lt32 (by rw [show (16 : Int32).toInt = 16 by decide]; omega)
  have e3 : j6_3_L0 p = (j6_2_L0 p) := by unfold j6_3_L0; rw [if_pos c3]
  have b3 : 2 ≤ (j6_3_L0 p).toInt ∧ (j6_3_L0 p).toInt < 4 := by rw [e3]; omega
  have n3 : j6_3_L1 p = (31 : Int32) := by unfold j6_3_L1; rw [if_pos c3, n2]
  have c4 : (j6_3_L0 p) < (4 : Int32) := own_lt32 (by rw [show (4 : Int32).toInt = 4 by decide]; omega)
  have e4 : j6_4_L0 p = (j6_3_L0 p) := by unfold j6_4_L0; rw [if_pos c4]
  have b4 : 2 ≤ (j6_4_L0 p).toInt ∧ (j6_4_L0 p).toInt < 4 := by rw [e4]; omega
  have n4 : j6_4_L1 p = (31 : Int32) := by unfold j6_4_L1; rw [if_pos c4, n3]
  have e5 : (((j6_4_L0 p).toUInt32 >>> ((1 : Int32) &&& 31).toUInt32).toInt32) = (1 : Int32) := by
    apply Int32.toInt_inj.mp; rw [own_sh _ _ 1 (by decide) (by decide) (by omega), show (1 : Int32).toInt = 1 by decide]; simp only [Nat.reducePow]; omega
  unfold sp6; rw [if_pos c0, n4, e5]; decide
theorem own_nlz_2 (p : Int32) (h1 : 4 ≤ p.toInt) (h2 : p.toInt < 8) : sp6 p = (29 : Int32) := by
  have c0 : (0 : Int32) < p := own_lt32 (by rw [show (0 : Int32).toInt = 0 by decide]; omega)
  have c1 : p < (65536 : Int32) := own_lt32 (by rw [show (65536 : Int32).toInt = 65536 by decide]; omega)
  have e1 : j6_1_L0 p = p := by unfold j6_1_L0; rw [if_pos c1]
  have b1 : 4 ≤ (j6_1_L0 p).toInt ∧ (j6_1_L0 p).toInt < 8 := by rw [e1]; omega
  have n1 : j6_1_L1 p = (31 : Int32) := by unfold j6_1_L1; rw [if_pos c1]
  have c2 : (j6_1_L0 p) < (256 : Int32) := own_lt32 (by rw [show (256 : Int32).toInt = 256 by decide]; omega)
  have e2 : j6_2_L0 p = (j6_1_L0 p) := by unfold j6_2_L0; rw [if_pos c2]
  have b2 : 4 ≤ (j6_2_L0 p).toInt ∧ (j6_2_L0 p).toInt < 8 := by rw [e2]; omega
  have n2 : j6_2_L1 p = (31 : Int32) := by unfold j6_2_L1; rw [if_pos c2, n1]
  have c3 : (j6_2_L0 p) < (16 : Int32) := own_lt32 (by rw [show (16 : Int32).toInt = 16 by decide]; omega)
  have e3 : j6_3_L0 p = (j6_2_L0 p) := by unfold j6_3_L0; rw [if_pos c3]
  have b3 : 4 ≤ (j6_3_L0 p).toInt ∧ (j6_3_L0 p).toInt < 8 := by rw [e3]; omega
  have n3 : j6_3_L1 p = (31 : Int32) := by unfold j6_3_L1; rw [if_pos c3, n2]
  have c4 : ¬ (j6_3_L0 p) < (4 : Int32) := own_nlt32 (by rw [show (4 : Int32).toInt = 4 by decide]; omega)
  have e4 : (j6_4_L0 p).toInt = ((j6_3_L0 p)).toInt / (2 ^ 2 : Nat) := by unfold j6_4_L0; rw [if_neg c4]; exact own_sh _ _ 2 (by decide) (by decide) (by omega)
  have b4 : 1 ≤ (j6_4_L0 p).toInt ∧ (j6_4_L0 p).toInt < 2 := by rw [e4]; simp only [Nat.reducePow]; omega
  have n4 : j6_4_L1 p = (29 : Int32) := by unfold j6_4_L1; rw [if_neg c4, n3]; decide
  have e5 : (((j6_4_L0 p).toUInt32 >>> ((1 : Int32) &&& 31).toUInt32).toInt32) = (0 : Int32) := by
    apply Int32.toInt_inj.mp; rw [own_sh _ _ 1 (by decide) (by decide) (by omega), show (0 : Int32).toInt = 0 by decide]; simp only [Nat.reducePow]; omega
  unfold sp6; rw [if_pos c0, n4, e5]; decide
theorem own_nlz_3 (p : Int32) (h1 : 8 ≤ p.toInt) (h2 : p.toInt < 16) : sp6 p = (28 : Int32) := by
  have c0 : (0 : Int32) < p := own_lt32 (by rw [show (0 : Int32).toInt = 0 by decide]; omega)
  have c1 : p < (65536 : Int32) := own_lt32 (by rw [show (65536 : Int32).toInt = 65536 by decide]; omega)
  have e1 : j6_1_L0 p = p := by unfold j6_1_L0; rw [if_pos c1]
  have b1 : 8 ≤ (j6_1_L0 p).toInt ∧ (j6_1_L0 p).toInt < 16 := by rw [e1]; omega
  have n1 : j6_1_L1 p = (31 : Int32) := by unfold j6_1_L1; rw [if_pos c1]
  have c2 : (j6_1_L0 p) < (256 : Int32) := own_lt32 (by rw [show (256 : Int32).toInt = 256 by decide]; omega)
  have e2 : j6_2_L0 p = (j6_1_L0 p) := by unfold j6_2_L0; rw [if_pos c2]
  have b2 : 8 ≤ (j6_2_L0 p).toInt ∧ (j6_2_L0 p).toInt < 16 := by rw [e2]; omega
  have n2 : j6_2_L1 p = (31 : Int32) := by unfold j6_2_L1; rw [if_pos c2, n1]
  have c3 : (j6_2_L0 p) < (16 : Int32) := own_lt32 (by rw [show (16 : Int32).toInt = 16 by decide]; omega)
  have e3 : j6_3_L0 p = (j6_2_L0 p) := by unfold j6_3_L0; rw [if_pos c3]
  have b3 : 8 ≤ (j6_3_L0 p).toInt ∧ (j6_3_L0 p).toInt < 16 := by rw [e3]; omega
  have n3 : j6_3_L1 p = (31 : Int32) := by unfold j6_3_L1; rw [if_pos c3, n2]
  have c4 : ¬ (j6_3_L0 p) < (4 : Int32) := own_nlt32 (by rw [show (4 : Int32).toInt = 4 by decide]; omega)
  have e4 : (j6_4_L0 p).toInt = ((j6_3_L0 p)).toInt / (2 ^ 2 : Nat) := by unfold j6_4_L0; rw [if_neg c4]; exact own_sh _ _ 2 (by decide) (by decide) (by omega)
  have b4 : 2 ≤ (j6_4_L0 p).toInt ∧ (j6_4_L0 p).toInt < 4 := by rw [e4]; simp only [Nat.reducePow]; omega
  have n4 : j6_4_L1 p = (29 : Int32) := by unfold j6_4_L1; rw [if_neg c4, n3]; decide
  have e5 : (((j6_4_L0 p).toUInt32 >>> ((1 : Int32) &&& 31).toUInt32).toInt32) = (1 : Int32) := by
    apply Int32.toInt_inj.mp; rw [own_sh _ _ 1 (by decide) (by decide) (by omega), show (1 : Int32).toInt = 1 by decide]; simp only [Nat.reducePow]; omega
  unfold sp6; rw [if_pos c0, n4, e5]; decide
theorem own_nlz_4 (p : Int32) (h1 : 16 ≤ p.toInt) (h2 : p.toInt < 32) : sp6 p = (27 : Int32) := by
  have c0 : (0 : Int32) < p := own_lt32 (by rw [show (0 : Int32).toInt = 0 by decide]; omega)
  have c1 : p < (65536 : Int32) := own_lt32 (by rw [show (65536 : Int32).toInt = 65536 by decide]; omega)
  have e1 : j6_1_L0 p = p := by unfold j6_1_L0; rw [if_pos c1]
  have b1 : 16 ≤ (j6_1_L0 p).toInt ∧ (j6_1_L0 p).toInt < 32 := by rw [e1]; omega
  have n1 : j6_1_L1 p = (31 : Int32) := by unfold j6_1_L1; rw [if_pos c1]
  have c2 : (j6_1_L0 p) < (256 : Int32) := own_lt32 (by rw [show (256 : Int32).toInt = 256 by decide]; omega)
  have e2 : j6_2_L0 p = (j6_1_L0 p) := by unfold j6_2_L0; rw [if_pos c2]
  have b2 : 16 ≤ (j6_2_L0 p).toInt ∧ (j6_2_L0 p).toInt < 32 := by rw [e2]; omega
  have n2 : j6_2_L1 p = (31 : Int32) := by unfold j6_2_L1; rw [if_pos c2, n1]
  have c3 : ¬ (j6_2_L0 p) < (16 : Int32) := own_nlt32 (by rw [show (16 : Int32).toInt = 16 by decide]; omega)
  have e3 : (j6_3_L0 p).toInt = ((j6_2_L0 p)).toInt / (2 ^ 4 : Nat) := by unfold j6_3_L0; rw [if_neg c3]; exact own_sh _ _ 4 (by decide) (by decide) (by omega)
  have b3 : 1 ≤ (j6_3_L0 p).toInt ∧ (j6_3_L0 p).toInt < 2 := by rw [e3]; simp only [Nat.reducePow]; omega
  have n3 : j6_3_L1 p = (27 : Int32) := by unfold j6_3_L1; rw [if_neg c3, n2]; decide
  have c4 : (j6_3_L0 p) < (4 : Int32) := own_lt32 (by rw [show (4 : Int32).toInt = 4 by decide]; omega)
  have e4 : j6_4_L0 p = (j6_3_L0 p) := by unfold j6_4_L0; rw [if_pos c4]
  have b4 : 1 ≤ (j6_4_L0 p).toInt ∧ (j6_4_L0 p).toInt < 2 := by rw [e4]; omega
  have n4 : j6_4_L1 p = (27 : Int32) := by unfold j6_4_L1; rw [if_pos c4, n3]
  have e5 : (((j6_4_L0 p).toUInt32 >>> ((1 : Int32) &&& 31).toUInt32).toInt32) = (0 : Int32) := by
    apply Int32.toInt_inj.mp; rw [own_sh _ _ 1 (by decide) (by decide) (by omega), show (0 : Int32).toInt = 0 by decide]; simp only [Nat.reducePow]; omega
  unfold sp6; rw [if_pos c0, n4, e5]; decide
theorem own_nlz_5 (p : Int32) (h1 : 32 ≤ p.toInt) (h2 : p.toInt < 64) : sp6 p = (26 : Int32) := by
  have c0 : (0 : Int32) < p := own_lt32 (by rw [show (0 : Int32).toInt = 0 by decide]; omega)
  have c1 : p < (65536 : Int32) := own_lt32 (by rw [show (65536 : Int32).toInt = 65536 by decide]; omega)
  have e1 : j6_1_L0 p = p := by unfold j6_1_L0; rw [if_pos c1]
  have b1 : 32 ≤ (j6_1_L0 p).toInt ∧ (j6_1_L0 p).toInt < 64 := by rw [e1]; omega
  have n1 : j6_1_L1 p = (31 : Int32) := by unfold j6_1_L1; rw [if_pos c1]
  have c2 : (j6_1_L0 p) < (256 : Int32) := own_lt32 (by rw [show (256 : Int32).toInt = 256 by decide]; omega)
  have e2 : j6_2_L0 p = (j6_1_L0 p) := by unfold j6_2_L0; rw [if_pos c2]
  have b2 : 32 ≤ (j6_2_L0 p).toInt ∧ (j6_2_L0 p).toInt < 64 := by rw [e2]; omega
  have n2 : j6_2_L1 p = (31 : Int32) := by unfold j6_2_L1; rw [if_pos c2, n1]
  have c3 : ¬ (j6_2_L0 p) < (16 : Int32) := own_nlt32 (by rw [show (16 : Int32).toInt = 16 by decide]; omega)
  have e3 : (j6_3_L0 p).toInt = ((j6_2_L0 p)).toInt / (2 ^ 4 : Nat) := by unfold j6_3_L0; rw [if_neg c3]; exact own_sh _ _ 4 (by decide) (by decide) (by omega)
  have b3 : 2 ≤ (j6_3_L0 p).toInt ∧ (j6_3_L0 p).toInt < 4 := by rw [e3]; simp only [Nat.reducePow]; omega
  have n3 : j6_3_L1 p = (27 : Int32) := by unfold j6_3_L1; rw [if_neg c3, n2]; decide
  have c4 : (j6_3_L0 p) < (4 : Int32) := own_lt32 (by rw [show (4 : Int32).toInt = 4 by decide]; omega)
  have e4 : j6_4_L0 p = (j6_3_L0 p) := by unfold j6_4_L0; rw [if_pos c4]
  have b4 : 2 ≤ (j6_4_L0 p).toInt ∧ (j6_4_L0 p).toInt < 4 := by rw [e4]; omega
  have n4 : j6_4_L1 p = (27 : Int32) := by unfold j6_4_L1; rw [if_pos c4, n3]
  have e5 : (((j6_4_L0 p).toUInt32 >>> ((1 : Int32) &&& 31).toUInt32).toInt32) = (1 : Int32) := by
    apply Int32.toInt_inj.mp; rw [own_sh _ _ 1 (by decide) (by decide) (by omega), show (1 : Int32).toInt = 1 by decide]; simp only [Nat.reducePow]; omega
  unfold sp6; rw [if_pos c0, n4, e5]; decide
theorem own_nlz_6 (p : Int32) (h1 : 64 ≤ p.toInt) (h2 : p.toInt < 128) : sp6 p = (25 : Int32) := by
  have c0 : (0 : Int32) < p := own_lt32 (by rw [show (0 : Int32).toInt = 0 by decide]; omega)
  have c1 : p < (65536 : Int32) := own_lt32 (by rw [show (65536 : Int32).toInt = 65536 by decide]; omega)
  have e1 : j6_1_L0 p = p := by unfold j6_1_L0; rw [if_pos c1]
  have b1 : 64 ≤ (j6_1_L0 p).toInt ∧ (j6_1_L0 p).toInt < 128 := by rw [e1]; omega
  have n1 : j6_1_L1 p = (31 : Int32) := by unfold j6_1_L1; rw [if_pos c1]
  have c2 : (j6_1_L0 p) < (256 : Int32) := own_lt32 (by rw [show (256 : Int32).toInt = 256 by decide]; omega)
  have e2 : j6_2_L0 p = (j6_1_L0 p) := by unfold j6_2_L0; rw [if_pos c2]
  have b2 : 64 ≤ (j6_2_L0 p).toInt ∧ (j6_2_L0 p).toInt < 128 := by rw [e2]; omega
  have n2 : j6_2_L1 p = (31 : Int32) := by unfold j6_2_L1; rw [if_pos c2, n1]
  have c3 : ¬ (j6_2_L0 p) < (16 : Int32) := own_nlt32 (by rw [show (16 : Int32).toInt = 16 by decide]; omega)
  have e3 : (j6_3_L0 p).toInt = ((j6_2_L0 p)).toInt / (2 ^ 4 : Nat) := by unfold j6_3_L0; rw [if_neg c3]; exact own_sh _ _ 4 (by decide) (by decide) (by omega)
  have b3 : 4 ≤ (j6_3_L0 p).toInt ∧ (j6_3_L0 p).toInt < 8 := by rw [e3]; simp only [Nat.reducePow]; omega
  have n3 : j6_3_L1 p = (27 : Int32) := by unfold j6_3_L1; rw [if_neg c3, n2]; decide
  have c4 : ¬ (j6_3_L0 p) < (4 : Int32) := own_nlt32 (by rw [show (4 : Int32).toInt = 4 by decide]; omega)
  have e4 : (j6_4_L0 p).toInt = ((j6_3_L0 p)).toInt / (2 ^ 2 : Nat) := by unfold j6_4_L0; rw [if_neg c4]; exact own_sh _ _ 2 (by decide) (by decide) (by omega)
  have b4 : 1 ≤ (j6_4_L0 p).toInt ∧ (j6_4_L0 p).toInt < 2 := by rw [e4]; simp only [Nat.reducePow]; omega
  have n4 : j6_4_L1 p = (25 : Int32) := by unfold j6_4_L1; rw [if_neg c4, n3]; decide
  have e5 : (((j6_4_L0 p).toUInt32 >>> ((1 : Int32) &&& 31).toUInt32).toInt32) = (0 : Int32) := by
    apply Int32.toInt_inj.mp; rw [own_sh _ _ 1 (by decide) (by decide) (by omega), show (0 : Int32).toInt = 0 by decide]; simp only [Nat.reducePow]; omega
  unfold sp6; rw [if_pos c0, n4, e5]; decide
theorem own_nlz_7 (p : Int32) (h1 : 128 ≤ p.toInt) (h2 : p.toInt < 256) : sp6 p = (24 : Int32) := by
  have c0 : (0 : Int32) < p := own_lt32 (by rw [show (0 : Int32).toInt = 0 by decide]; omega)
  have c1 : p < (65536 : Int32) := own_lt32 (by rw [show (65536 : Int32).toInt = 65536 by decide]; omega)
  have e1 : j6_1_L0 p = p := by unfold j6_1_L0; rw [if_pos c1]
  have b1 : 128 ≤ (j6_1_L0 p).toInt ∧ (j6_1_L0 p).toInt < 256 := by rw [e1]; omega
  have n1 : j6_1_L1 p = (31 : Int32) := by unfold j6_1_L1; rw [if_pos c1]
  have c2 : (j6_1_L0 p) < (256 : Int32) := own_lt32 (by rw [show (256 : Int32).toInt = 256 by decide]; omega)
  have e2 : j6_2_L0 p = (j6_1_L0 p) := by unfold j6_2_L0; rw [if_pos c2]
  have b2 : 128 ≤ (j6_2_L0 p).toInt ∧ (j6_2_L0 p).toInt < 256 := by rw [e2]; omega
  have n2 : j6_2_L1 p = (31 : Int32) := by unfold j6_2_L1; rw [if_pos c2, n1]
  have c3 : ¬ (j6_2_L0 p) < (16 : Int32) := own_nlt32 (by rw [show (16 : Int32).toInt = 16 by decide]; omega)
  have e3 : (j6_3_L0 p).toInt = ((j6_2_L0 p)).toInt / (2 ^ 4 : Nat) := by unfold j6_3_L0; rw [if_neg c3]; exact own_sh _ _ 4 (by decide) (by decide) (by omega)
  have b3 : 8 ≤ (j6_3_L0 p).toInt ∧ (j6_3_L0 p).toInt < 16 := by rw [e3]; simp only [Nat.reducePow]; omega
  have n3 : j6_3_L1 p = (27 : Int32) := by unfold j6_3_L1; rw [if_neg c3, n2]; decide
  have c4 : ¬ (j6_3_L0 p) < (4 : Int32) := own_nlt32 (by rw [show (4 : Int32).toInt = 4 by decide]; omega)
  have e4 : (j6_4_L0 p).toInt = ((j6_3_L0 p)).toInt / (2 ^ 2 : Nat) := by unfold j6_4_L0; rw [if_neg c4]; exact own_sh _ _ 2 (by decide) (by decide) (by omega)
  have b4 : 2 ≤ (j6_4_L0 p).toInt ∧ (j6_4_L0 p).toInt < 4 := by rw [e4]; simp only [Nat.reducePow]; omega
  have n4 : j6_4_L1 p = (25 : Int32) := by unfold j6_4_L1; rw [if_neg c4, n3]; decide
  have e5 : (((j6_4_L0 p).toUInt32 >>> ((1 : Int32) &&& 31).toUInt32).toInt32) = (1 : Int32) := by
    apply Int32.toInt_inj.mp; rw [own_sh _ _ 1 (by decide) (by decide) (by omega), show (1 : Int32).toInt = 1 by decide]; simp only [Nat.reducePow]; omega
  unfold sp6; rw [if_pos c0, n4, e5]; decide
theorem own_nlz_8 (p : Int32) (h1 : 256 ≤ p.toInt) (h2 : p.toInt < 512) : sp6 p = (23 : Int32) := by
  have c0 : (0 : Int32) < p := own_lt32 (by rw [show (0 : Int32).toInt = 0 by decide]; omega)
  have c1 : p < (65536 : Int32) := own_lt32 (by rw [show (65536 : Int32).toInt = 65536 by decide]; omega)
  have e1 : j6_1_L0 p = p := by unfold j6_1_L0; rw [if_pos c1]
  have b1 : 256 ≤ (j6_1_L0 p).toInt ∧ (j6_1_L0 p).toInt < 512 := by rw [e1]; omega
  have n1 : j6_1_L1 p = (31 : Int32) := by unfold j6_1_L1; rw [if_pos c1]
  have c2 : ¬ (j6_1_L0 p) < (256 : Int32) := own_nlt32 (by rw [show (256 : Int32).toInt = 256 by decide]; omega)
  have e2 : (j6_2_L0 p).toInt = ((j6_1_L0 p)).toInt / (2 ^ 8 : Nat) := by unfold j6_2_L0; rw [if_neg c2]; exact own_sh _ _ 8 (by decide) (by decide) (by omega)
  have b2 : 1 ≤ (j6_2_L0 p).toInt ∧ (j6_2_L0 p).toInt < 2 := by rw [e2]; simp only [Nat.reducePow]; omega
  have n2 : j6_2_L1 p = (23 : Int32) := by unfold j6_2_L1; rw [if_neg c2, n1]; decide
  have c3 : (j6_2_L0 p) < (16 : Int32) := own_lt32 (by rw [show (16 : Int32).toInt = 16 by decide]; omega)
  have e3 : j6_3_L0 p = (j6_2_L0 p) := by unfold j6_3_L0; rw [if_pos c3]
  have b3 : 1 ≤ (j6_3_L0 p).toInt ∧ (j6_3_L0 p).toInt < 2 := by rw [e3]; omega
  have n3 : j6_3_L1 p = (23 : Int32) := by unfold j6_3_L1; rw [if_pos c3, n2]
  have c4 : (j6_3_L0 p) < (4 : Int32) := own_lt32 (by rw [show (4 : Int32).toInt = 4 by decide]; omega)
  have e4 : j6_4_L0 p = (j6_3_L0 p) := by unfold j6_4_L0; rw [if_pos c4]
  have b4 : 1 ≤ (j6_4_L0 p).toInt ∧ (j6_4_L0 p).toInt < 2 := by rw [e4]; omega
  have n4 : j6_4_L1 p = (23 : Int32) := by unfold j6_4_L1; rw [if_pos c4, n3]
  have e5 : (((j6_4_L0 p).toUInt32 >>> ((1 : Int32) &&& 31).toUInt32).toInt32) = (0 : Int32) := by
    apply Int32.toInt_inj.mp; rw [own_sh _ _ 1 (by decide) (by decide) (by omega), show (0 : Int32).toInt = 0 by decide]; simp only [Nat.reducePow]; omega
  unfold sp6; rw [if_pos c0, n4, e5]; decide
theorem own_nlz_9 (p : Int32) (h1 : 512 ≤ p.toInt) (h2 : p.toInt < 1024) : sp6 p = (22 : Int32) := by
  have c0 : (0 : Int32) < p := own_lt32 (by rw [show (0 : Int32).toInt = 0 by decide]; omega)
  have c1 : p < (65536 : Int32) := own_lt32 (by rw [show (65536 : Int32).toInt = 65536 by decide]; omega)
  have e1 : j6_1_L0 p = p := by unfold j6_1_L0; rw [if_pos c1]
  have b1 : 512 ≤ (j6_1_L0 p).toInt ∧ (j6_1_L0 p).toInt < 1024 := by rw [e1]; omega
  have n1 : j6_1_L1 p = (31 : Int32) := by unfold j6_1_L1; rw [if_pos c1]
  have c2 : ¬ (j6_1_L0 p) < (256 : Int32) := own_nlt32 (by rw [show (256 : Int32).toInt = 256 by decide]; omega)
  have e2 : (j6_2_L0 p).toInt = ((j6_1_L0 p)).toInt / (2 ^ 8 : Nat) := by unfold j6_2_L0; rw [if_neg c2]; exact own_sh _ _ 8 (by decide) (by decide) (by omega)
  have b2 : 2 ≤ (j6_2_L0 p).toInt ∧ (j6_2_L0 p).toInt < 4 := by rw [e2]; simp only [Nat.reducePow]; omega
  have n2 : j6_2_L1 p = (23 : Int32) := by unfold j6_2_L1; rw [if_neg c2, n1]; decide
  have c3 : (j6_2_L0 p) < (16 : Int32) := own_lt32 (by rw [show (16 : Int32).toInt = 16 by decide]; omega)
  have e3 : j6_3_L0 p = (j6_2_L0 p) := by unfold j6_3_L0; rw [if_pos c3]
  have b3 : 2 ≤ (j6_3_L0 p).toInt ∧ (j6_3_L0 p).toInt < 4 := by rw [e3]; omega
  have n3 : j6_3_L1 p = (23 : Int32) := by unfold j6_3_L1; rw [if_pos c3, n2]
  have c4 : (j6_3_L0 p) < (4 : Int32) := own_lt32 (by rw [show (4 : Int32).toInt = 4 by decide]; omega)
  have e4 : j6_4_L0 p = (j6_3_L0 p) := by unfold j6_4_L0; rw [if_pos c4]
  have b4 : 2 ≤ (j6_4_L0 p).toInt ∧ (j6_4_L0 p).toInt < 4 := by rw [e4]; omega
  have n4 : j6_4_L1 p = (23 : Int32) := by unfold j6_4_L1; rw [if_pos c4, n3]
  have e5 : (((j6_4_L0 p).toUInt32 >>> ((1 : Int32) &&& 31).toUInt32).toInt32) = (1 : Int32) := by
    apply Int32.toInt_inj.mp; rw [own_sh _ _ 1 (by decide) (by decide) (by omega), show (1 : Int32).toInt = 1 by decide]; simp only [Nat.reducePow]; omega
  unfold sp6; rw [if_pos c0, n4, e5]; decide
theorem own_nlz_10 (p : Int32) (h1 : 1024 ≤ p.toInt) (h2 : p.toInt < 2048) : sp6 p = (21 : Int32) := by
  have c0 : (0 : Int32) < p := own_lt32 (by rw [show (0 : Int32).toInt = 0 by decide]; omega)
  have c1 : p < (65536 : Int32) := own_lt32 (by rw [show (65536 : Int32).toInt = 65536 by decide]; omega)
  have e1 : j6_1_L0 p = p := by unfold j6_1_L0; rw [if_pos c1]
  have b1 : 1024 ≤ (j6_1_L0 p).toInt ∧ (j6_1_L0 p).toInt < 2048 := by rw [e1]; omega
  have n1 : j6_1_L1 p = (31 : Int32) := by unfold j6_1_L1; rw [if_pos c1]
  have c2 : ¬ (j6_1_L0 p) < (256 : Int32) := own_nlt32 (by rw [show (256 : Int32).toInt = 256 by decide]; omega)
  have e2 : (j6_2_L0 p).toInt = ((j6_1_L0 p)).toInt / (2 ^ 8 : Nat) := by unfold j6_2_L0; rw [if_neg c2]; exact own_sh _ _ 8 (by decide) (by decide) (by omega)
  have b2 : 4 ≤ (j6_2_L0 p).toInt ∧ (j6_2_L0 p).toInt < 8 := by rw [e2]; simp only [Nat.reducePow]; omega
  have n2 : j6_2_L1 p = (23 : Int32) := by unfold j6_2_L1; rw [if_neg c2, n1]; decide
  have c3 : (j6_2_L0 p) < (16 : Int32) := own_lt32 (by rw [show (16 : Int32).toInt = 16 by decide]; omega)
  have e3 : j6_3_L0 p = (j6_2_L0 p) := by unfold j6_3_L0; rw [if_pos c3]
  have b3 : 4 ≤ (j6_3_L0 p).toInt ∧ (j6_3_L0 p).toInt < 8 := by rw [e3]; omega
  have n3 : j6_3_L1 p = (23 : Int32) := by unfold j6_3_L1; rw [if_pos c3, n2]
  have c4 : ¬ (j6_3_L0 p) < (4 : Int32) := own_nlt32 (by rw [show (4 : Int32).toInt = 4 by decide]; omega)
  have e4 : (j6_4_L0 p).toInt = ((j6_3_L0 p)).toInt / (2 ^ 2 : Nat) := by unfold j6_4_L0; rw [if_neg c4]; exact own_sh _ _ 2 (by decide) (by decide) (by omega)
  have b4 : 1 ≤ (j6_4_L0 p).toInt ∧ (j6_4_L0 p).toInt < 2 := by rw [e4]; simp only [Nat.reducePow]; omega
  have n4 : j6_4_L1 p = (21 : Int32) := by unfold j6_4_L1; rw [if_neg c4, n3]; decide
  have e5 : (((j6_4_L0 p).toUInt32 >>> ((1 : Int32) &&& 31).toUInt32).toInt32) = (0 : Int32) := by
    apply Int32.toInt_inj.mp; rw [own_sh _ _ 1 (by decide) (by decide) (by omega), show (0 : Int32).toInt = 0 by decide]; simp only [Nat.reducePow]; omega
  unfold sp6; rw [if_pos c0, n4, e5]; decide
theorem own_nlz_11 (p : Int32) (h1 : 2048 ≤ p.toInt) (h2 : p.toInt < 4096) : sp6 p = (20 : Int32) := by
  have c0 : (0 : Int32) < p := own_lt32 (by rw [show (0 : Int32).toInt = 0 by decide]; omega)
  have c1 : p < (65536 : Int32) := own_lt32 (by rw [show (65536 : Int32).toInt = 65536 by decide]; omega)
  have e1 : j6_1_L0 p = p := by unfold j6_1_L0; rw [if_pos c1]
  have b1 : 2048 ≤ (j6_1_L0 p).toInt ∧ (j6_1_L0 p).toInt < 4096 := by rw [e1]; omega
  have n1 : j6_1_L1 p = (31 : Int32) := by unfold j6_1_L1; rw [if_pos c1]
  have c2 : ¬ (j6_1_L0 p) < (256 : Int32) := own_nlt32 (by rw [show (256 : Int32).toInt = 256 by decide]; omega)
  have e2 : (j6_2_L0 p).toInt = ((j6_1_L0 p)).toInt / (2 ^ 8 : Nat) := by unfold j6_2_L0; rw [if_neg c2]; exact own_sh _ _ 8 (by decide) (by decide) (by omega)
  have b2 : 8 ≤ (j6_2_L0 p).toInt ∧ (j6_2_L0 p).toInt < 16 := by rw [e2]; simp only [Nat.reducePow]; omega
  have n2 : j6_2_L1 p = (23 : Int32) := by unfold j6_2_L1; rw [if_neg c2, n1]; decide
  have c3 : (j6_2_L0 p) < (16 : Int32) := own_lt32 (by rw [show (16 : Int32).toInt = 16 by decide]; omega)
  have e3 : j6_3_L0 p = (j6_2_L0 p) := by unfold j6_3_L0; rw [if_pos c3]
  have b3 : 8 ≤ (j6_3_L0 p).toInt ∧ (j6_3_L0 p).toInt < 16 := by rw [e3]; omega
  have n3 : j6_3_L1 p = (23 : Int32) := by unfold j6_3_L1; rw [if_pos c3, n2]
  have c4 : ¬ (j6_3_L0 p) < (4 : Int32) := own_nlt32 (by rw [show (4 : Int32).toInt = 4 by decide]; omega)
  have e4 : (j6_4_L0 p).toInt = ((j6_3_L0 p)).toInt / (2 ^ 2 : Nat) := by unfold j6_4_L0; rw [if_neg c4]; exact own_sh _ _ 2 (by decide) (by decide) (by omega)
  have b4 : 2 ≤ (j6_4_L0 p).toInt ∧ (j6_4_L0 p).toInt < 4 := by rw [e4]; simp only [Nat.reducePow]; omega
  have n4 : j6_4_L1 p = (21 : Int32) := by unfold j6_4_L1; rw [if_neg c4, n3]; decide
  have e5 : (((j6_4_L0 p).toUInt32 >>> ((1 : Int32) &&& 31).toUInt32).toInt32) = (1 : Int32) := by
    apply Int32.toInt_inj.mp; rw [own_sh _ _ 1 (by decide) (by decide) (by omega), show (1 : Int32).toInt = 1 by decide]; simp only [Nat.reducePow]; omega
  unfold sp6; rw [if_pos c0, n4, e5]; decide
theorem own_nlz_12 (p : Int32) (h1 : 4096 ≤ p.toInt) (h2 : p.toInt < 8192) : sp6 p = (19 : Int32) := by
  have c0 : (0 : Int32) < p := own_lt32 (by rw [show (0 : Int32).toInt = 0 by decide]; omega)
  have c1 : p < (65536 : Int32) := own_lt32 (by rw [show (65536 : Int32).toInt = 65536 by decide]; omega)
  have e1 : j6_1_L0 p = p := by unfold j6_1_L0; rw [if_pos c1]
  have b1 : 4096 ≤ (j6_1_L0 p).toInt ∧ (j6_1_L0 p).toInt < 8192 := by rw [e1]; omega
  have n1 : j6_1_L1 p = (31 : Int32) := by unfold j6_1_L1; rw [if_pos c1]
  have c2 : ¬ (j6_1_L0 p) < (256 : Int32) := own_nlt32 (by rw [show (256 : Int32).toInt = 256 by decide]; omega)
  have e2 : (j6_2_L0 p).toInt = ((j6_1_L0 p)).toInt / (2 ^ 8 : Nat) := by unfold j6_2_L0; rw [if_neg c2]; exact own_sh _ _ 8 (by decide) (by decide) (by omega)
  have b2 : 16 ≤ (j6_2_L0 p).toInt ∧ (j6_2_L0 p).toInt < 32 := by rw [e2]; simp only [Nat.reducePow]; omega
  have n2 : j6_2_L1 p = (23 : Int32) := by unfold j6_2_L1; rw [if_neg c2, n1]; decide
  have c3 : ¬ (j6_2_L0 p) < (16 : Int32) := own_nlt32 (by rw [show (16 : Int32).toInt = 16 by decide]; omega)
  have e3 : (j6_3_L0 p).toInt = ((j6_2_L0 p)).toInt / (2 ^ 4 : Nat) := by unfold j6_3_L0; rw [if_neg c3]; exact own_sh _ _ 4 (by decide) (by decide) (by omega)
  have b3 : 1 ≤ (j6_3_L0 p).toInt ∧ (j6_3_L0 p).toInt < 2 := by rw [e3]; simp only [Nat.reducePow]; omega
  have n3 : j6_3_L1 p = (19 : Int32) := by unfold j6_3_L1; rw [if_neg c3, n2]; decide
  have c4 : (j6_3_L0 p) < (4 : Int32) := own_lt32 (by rw [show (4 : Int32).toInt = 4 by decide]; omega)
  have e4 : j6_4_L0 p = (j6_3_L0 p) := by unfold j6_4_L0; rw [if_pos c4]
  have b4 : 1 ≤ (j6_4_L0 p).toInt ∧ (j6_4_L0 p).toInt < 2 := by rw [e4]; omega
  have n4 : j6_4_L1 p = (19 : Int32) := by unfold j6_4_L1; rw [if_pos c4, n3]
  have e5 : (((j6_4_L0 p).toUInt32 >>> ((1 : Int32) &&& 31).toUInt32).toInt32) = (0 : Int32) := by
    apply Int32.toInt_inj.mp; rw [own_sh _ _ 1 (by decide) (by decide) (by omega), show (0 : Int32).toInt = 0 by decide]; simp only [Nat.reducePow]; omega
  unfold sp6; rw [if_pos c0, n4, e5]; decide
theorem own_nlz_13 (p : Int32) (h1 : 8192 ≤ p.toInt) (h2 : p.toInt < 16384) : sp6 p = (18 : Int32) := by
  have c0 : (0 : Int32) < p := own_lt32 (by rw [show (0 : Int32).toInt = 0 by decide]; omega)
  have c1 : p < (65536 : Int32) := own_lt32 (by rw [show (65536 : Int32).toInt = 65536 by decide]; omega)
  have e1 : j6_1_L0 p = p := by unfold j6_1_L0; rw [if_pos c1]
  have b1 : 8192 ≤ (j6_1_L0 p).toInt ∧ (j6_1_L0 p).toInt < 16384 := by rw [e1]; omega
  have n1 : j6_1_L1 p = (31 : Int32) := by unfold j6_1_L1; rw [if_pos c1]
  have c2 : ¬ (j6_1_L0 p) < (256 : Int32) := own_nlt32 (by rw [show (256 : Int32).toInt = 256 by decide]; omega)
  have e2 : (j6_2_L0 p).toInt = ((j6_1_L0 p)).toInt / (2 ^ 8 : Nat) := by unfold j6_2_L0; rw [if_neg c2]; exact own_sh _ _ 8 (by decide) (by decide) (by omega)
  have b2 : 32 ≤ (j6_2_L0 p).toInt ∧ (j6_2_L0 p).toInt < 64 := by rw [e2]; simp only [Nat.reducePow]; omega
  have n2 : j6_2_L1 p = (23 : Int32) := by unfold j6_2_L1; rw [if_neg c2, n1]; decide
  have c3 : ¬ (j6_2_L0 p) < (16 : Int32) := own_nlt32 (by rw [show (16 : Int32).toInt = 16 by decide]; omega)
  have e3 : (j6_3_L0 p).toInt = ((j6_2_L0 p)).toInt / (2 ^ 4 : Nat) := by unfold j6_3_L0; rw [if_neg c3]; exact own_sh _ _ 4 (by decide) (by decide) (by omega)
  have b3 : 2 ≤ (j6_3_L0 p).toInt ∧ (j6_3_L0 p).toInt < 4 := by rw [e3]; simp only [Nat.reducePow]; omega
  have n3 : j6_3_L1 p = (19 : Int32) := by unfold j6_3_L1; rw [if_neg c3, n2]; decide
  have c4 : (j6_3_L0 p) < (4 : Int32) := own_lt32 (by rw [show (4 : Int32).toInt = 4 by decide]; omega)
  have e4 : j6_4_L0 p = (j6_3_L0 p) := by unfold j6_4_L0; rw [if_pos c4]
  have b4 : 2 ≤ (j6_4_L0 p).toInt ∧ (j6_4_L0 p).toInt < 4 := by rw [e4]; omega
  have n4 : j6_4_L1 p = (19 : Int32) := by unfold j6_4_L1; rw [if_pos c4, n3]
  have e5 : (((j6_4_L0 p).toUInt32 >>> ((1 : Int32) &&& 31).toUInt32).toInt32) = (1 : Int32) := by
    apply Int32.toInt_inj.mp; rw [own_sh _ _ 1 (by decide) (by decide) (by omega), show (1 : Int32).toInt = 1 by decide]; simp only [Nat.reducePow]; omega
  unfold sp6; rw [if_pos c0, n4, e5]; decide
theorem own_nlz_14 (p : Int32) (h1 : 16384 ≤ p.toInt) (h2 : p.toInt < 32768) : sp6 p = (17 : Int32) := by
  have c0 : (0 : Int32) < p := own_lt32 (by rw [show (0 : Int32).toInt = 0 by decide]; omega)
  have c1 : p < (65536 : Int32) := own_lt32 (by rw [show (65536 : Int32).toInt = 65536 by decide]; omega)
  have e1 : j6_1_L0 p = p := by unfold j6_1_L0; rw [if_pos c1]
  have b1 : 16384 ≤ (j6_1_L0 p).toInt ∧ (j6_1_L0 p).toInt < 32768 := by rw [e1]; omega
  have n1 : j6_1_L1 p = (31 : Int32) := by unfold j6_1_L1; rw [if_pos c1]
  have c2 : ¬ (j6_1_L0 p) < (256 : Int32) := own_nlt32 (by rw [show (256 : Int32).toInt = 256 by decide]; omega)
  have e2 : (j6_2_L0 p).toInt = ((j6_1_L0 p)).toInt / (2 ^ 8 : Nat) := by unfold j6_2_L0; rw [if_neg c2]; exact own_sh _ _ 8 (by decide) (by decide) (by omega)
  have b2 : 64 ≤ (j6_2_L0 p).toInt ∧ (j6_2_L0 p).toInt < 128 := by rw [e2]; simp only [Nat.reducePow]; omega
  have n2 : j6_2_L1 p = (23 : Int32) := by unfold j6_2_L1; rw [if_neg c2, n1]; decide
  have c3 : ¬ (j6_2_L0 p) < (16 : Int32) := own_nlt32 (by rw [show (16 : Int32).toInt = 16 by decide]; omega)
  have e3 : (j6_3_L0 p).toInt = ((j6_2_L0 p)).toInt / (2 ^ 4 : Nat) := by unfold j6_3_L0; rw [if_neg c3]; exact own_sh _ _ 4 (by decide) (by decide) (by omega)
  have b3 : 4 ≤ (j6_3_L0 p).toInt ∧ (j6_3_L0 p).toInt < 8 := by rw [e3]; simp only [Nat.reducePow]; omega
  have n3 : j6_3_L1 p = (19 : Int32) := by unfold j6_3_L1; rw [if_neg c3, n2]; decide
  have c4 : ¬ (j6_3_L0 p) < (4 : Int32) := own_nlt32 (by rw [show (4 : Int32).toInt = 4 by decide]; omega)
  have e4 : (j6_4_L0 p).toInt = ((j6_3_L0 p)).toInt / (2 ^ 2 : Nat) := by unfold j6_4_L0; rw [if_neg c4]; exact own_sh _ _ 2 (by decide) (by decide) (by omega)
  have b4 : 1 ≤ (j6_4_L0 p).toInt ∧ (j6_4_L0 p).toInt < 2 := by rw [e4]; simp only [Nat.reducePow]; omega
  have n4 : j6_4_L1 p = (17 : Int32) := by unfold j6_4_L1; rw [if_neg c4, n3]; decide
  have e5 : (((j6_4_L0 p).toUInt32 >>> ((1 : Int32) &&& 31).toUInt32).toInt32) = (0 : Int32) := by
    apply Int32.toInt_inj.mp; rw [own_sh _ _ 1 (by decide) (by decide) (by omega), show (0 : Int32).toInt = 0 by decide]; simp only [Nat.reducePow]; omega
  unfold sp6; rw [if_pos c0, n4, e5]; decide
theorem own_nlz_15 (p : Int32) (h1 : 32768 ≤ p.toInt) (h2 : p.toInt < 65536) : sp6 p = (16 : Int32) := by
  have c0 : (0 : Int32) < p := own_lt32 (by rw [show (0 : Int32).toInt = 0 by decide]; omega)
  have c1 : p < (65536 : Int32) := own_lt32 (by rw [show (65536 : Int32).toInt = 65536 by decide]; omega)
  have e1 : j6_1_L0 p = p := by unfold j6_1_L0; rw [if_pos c1]
  have b1 : 32768 ≤ (j6_1_L0 p).toInt ∧ (j6_1_L0 p).toInt < 65536 := by rw [e1]; omega
  have n1 : j6_1_L1 p = (31 : Int32) := by unfold j6_1_L1; rw [if_pos c1]
  have c2 : ¬ (j6_1_L0 p) < (256 : Int32) := own_nlt32 (by rw [show (256 : Int32).toInt = 256 by decide]; omega)
  have e2 : (j6_2_L0 p).toInt = ((j6_1_L0 p)).toInt / (2 ^ 8 : Nat) := by unfold j6_2_L0; rw [if_neg c2]; exact own_sh _ _ 8 (by decide) (by decide) (by omega)
  have b2 : 128 ≤ (j6_2_L0 p).toInt ∧ (j6_2_L0 p).toInt < 256 := by rw [e2]; simp only [Nat.reducePow]; omega
  have n2 : j6_2_L1 p = (23 : Int32) := by unfold j6_2_L1; rw [if_neg c2, n1]; decide
  have c3 : ¬ (j6_2_L0 p) < (16 : Int32) := own_nlt32 (by rw [show (16 : Int32).toInt = 16 by decide]; omega)
  have e3 : (j6_3_L0 p).toInt = ((j6_2_L0 p)).toInt / (2 ^ 4 : Nat) := by unfold j6_3_L0; rw [if_neg c3]; exact own_sh _ _ 4 (by decide) (by decide) (by omega)
  have b3 : 8 ≤ (j6_3_L0 p).toInt ∧ (j6_3_L0 p).toInt < 16 := by rw [e3]; simp only [Nat.reducePow]; omega
  have n3 : j6_3_L1 p = (19 : Int32) := by unfold j6_3_L1; rw [if_neg c3, n2]; decide
  have c4 : ¬ (j6_3_L0 p) < (4 : Int32) := own_nlt32 (by rw [show (4 : Int32).toInt = 4 by decide]; omega)
  have e4 : (j6_4_L0 p).toInt = ((j6_3_L0 p)).toInt / (2 ^ 2 : Nat) := by unfold j6_4_L0; rw [if_neg c4]; exact own_sh _ _ 2 (by decide) (by decide) (by omega)
  have b4 : 2 ≤ (j6_4_L0 p).toInt ∧ (j6_4_L0 p).toInt < 4 := by rw [e4]; simp only [Nat.reducePow]; omega
  have n4 : j6_4_L1 p = (17 : Int32) := by unfold j6_4_L1; rw [if_neg c4, n3]; decide
  have e5 : (((j6_4_L0 p).toUInt32 >>> ((1 : Int32) &&& 31).toUInt32).toInt32) = (1 : Int32) := by
    apply Int32.toInt_inj.mp; rw [own_sh _ _ 1 (by decide) (by decide) (by omega), show (1 : Int32).toInt = 1 by decide]; simp only [Nat.reducePow]; omega
  unfold sp6; rw [if_pos c0, n4, e5]; decide
theorem own_nlz_16 (p : Int32) (h1 : 65536 ≤ p.toInt) (h2 : p.toInt < 131072) : sp6 p = (15 : Int32) := by
  have c0 : (0 : Int32) < p := own_lt32 (by rw [show (0 : Int32).toInt = 0 by decide]; omega)
  have c1 : ¬ p < (65536 : Int32) := own_nlt32 (by rw [show (65536 : Int32).toInt = 65536 by decide]; omega)
  have e1 : (j6_1_L0 p).toInt = (p).toInt / (2 ^ 16 : Nat) := by unfold j6_1_L0; rw [if_neg c1]; exact own_sh _ _ 16 (by decide) (by decide) (by omega)
  have b1 : 1 ≤ (j6_1_L0 p).toInt ∧ (j6_1_L0 p).toInt < 2 := by rw [e1]; simp only [Nat.reducePow]; omega
  have n1 : j6_1_L1 p = (15 : Int32) := by unfold j6_1_L1; rw [if_neg c1]
  have c2 : (j6_1_L0 p) < (256 : Int32) := own_lt32 (by rw [show (256 : Int32).toInt = 256 by decide]; omega)
  have e2 : j6_2_L0 p = (j6_1_L0 p) := by unfold j6_2_L0; rw [if_pos c2]
  have b2 : 1 ≤ (j6_2_L0 p).toInt ∧ (j6_2_L0 p).toInt < 2 := by rw [e2]; omega
  have n2 : j6_2_L1 p = (15 : Int32) := by unfold j6_2_L1; rw [if_pos c2, n1]
  have c3 : (j6_2_L0 p) < (16 : Int32) := own_lt32 (by rw [show (16 : Int32).toInt = 16 by decide]; omega)
  have e3 : j6_3_L0 p = (j6_2_L0 p) := by unfold j6_3_L0; rw [if_pos c3]
  have b3 : 1 ≤ (j6_3_L0 p).toInt ∧ (j6_3_L0 p).toInt < 2 := by rw [e3]; omega
  have n3 : j6_3_L1 p = (15 : Int32) := by unfold j6_3_L1; rw [if_pos c3, n2]
  have c4 : (j6_3_L0 p) < (4 : Int32) := own_lt32 (by rw [show (4 : Int32).toInt = 4 by decide]; omega)
  have e4 : j6_4_L0 p = (j6_3_L0 p) := by unfold j6_4_L0; rw [if_pos c4]
  have b4 : 1 ≤ (j6_4_L0 p).toInt ∧ (j6_4_L0 p).toInt < 2 := by rw [e4]; omega
  have n4 : j6_4_L1 p = (15 : Int32) := by unfold j6_4_L1; rw [if_pos c4, n3]
  have e5 : (((j6_4_L0 p).toUInt32 >>> ((1 : Int32) &&& 31).toUInt32).toInt32) = (0 : Int32) := by
    apply Int32.toInt_inj.mp; rw [own_sh _ _ 1 (by decide) (by decide) (by omega), show (0 : Int32).toInt = 0 by decide]; simp only [Nat.reducePow]; omega
  unfold sp6; rw [if_pos c0, n4, e5]; decide
theorem own_nlz_17 (p : Int32) (h1 : 131072 ≤ p.toInt) (h2 : p.toInt < 262144) : sp6 p = (14 : Int32) := by
  have c0 : (0 : Int32) < p := own_lt32 (by rw [show (0 : Int32).toInt = 0 by decide]; omega)
  have c1 : ¬ p < (65536 : Int32) := own_nlt32 (by rw [show (65536 : Int32).toInt = 65536 by decide]; omega)
  have e1 : (j6_1_L0 p).toInt = (p).toInt / (2 ^ 16 : Nat) := by unfold j6_1_L0; rw [if_neg c1]; exact own_sh _ _ 16 (by decide) (by decide) (by omega)
  have b1 : 2 ≤ (j6_1_L0 p).toInt ∧ (j6_1_L0 p).toInt < 4 := by rw [e1]; simp only [Nat.reducePow]; omega
  have n1 : j6_1_L1 p = (15 : Int32) := by unfold j6_1_L1; rw [if_neg c1]
  have c2 : (j6_1_L0 p) < (256 : Int32) := own_lt32 (by rw [show (256 : Int32).toInt = 256 by decide]; omega)
  have e2 : j6_2_L0 p = (j6_1_L0 p) := by unfold j6_2_L0; rw [if_pos c2]
  have b2 : 2 ≤ (j6_2_L0 p).toInt ∧ (j6_2_L0 p).toInt < 4 := by rw [e2]; omega
  have n2 : j6_2_L1 p = (15 : Int32) := by unfold j6_2_L1; rw [if_pos c2, n1]
  have c3 : (j6_2_L0 p) < (16 : Int32) := own_lt32 (by rw [show (16 : Int32).toInt = 16 by decide]; omega)
  have e3 : j6_3_L0 p = (j6_2_L0 p) := by unfold j6_3_L0; rw [if_pos c3]
  have b3 : 2 ≤ (j6_3_L0 p).toInt ∧ (j6_3_L0 p).toInt < 4 := by rw [e3]; omega
  have n3 : j6_3_L1 p = (15 : Int32) := by unfold j6_3_L1; rw [if_pos c3, n2]
  have c4 : (j6_3_L0 p) < (4 : Int32) := own_lt32 (by rw [show (4 : Int32).toInt = 4 by decide]; omega)
  have e4 : j6_4_L0 p = (j6_3_L0 p) := by unfold j6_4_L0; rw [if_pos c4]
  have b4 : 2 ≤ (j6_4_L0 p).toInt ∧ (j6_4_L0 p).toInt < 4 := by rw [e4]; omega
  have n4 : j6_4_L1 p = (15 : Int32) := by unfold j6_4_L1; rw [if_pos c4, n3]
  have e5 : (((j6_4_L0 p).toUInt32 >>> ((1 : Int32) &&& 31).toUInt32).toInt32) = (1 : Int32) := by
    apply Int32.toInt_inj.mp; rw [own_sh _ _ 1 (by decide) (by decide) (by omega), show (1 : Int32).toInt = 1 by decide]; simp only [Nat.reducePow]; omega
  unfold sp6; rw [if_pos c0, n4, e5]; decide
theorem own_nlz_18 (p : Int32) (h1 : 262144 ≤ p.toInt) (h2 : p.toInt < 524288) : sp6 p = (13 : Int32) := by
  have c0 : (0 : Int32) < p := own_lt32 (by rw [show (0 : Int32).toInt = 0 by decide]; omega)
  have c1 : ¬ p < (65536 : Int32) := own_nlt32 (by rw [show (65536 : Int32).toInt = 65536 by decide]; omega)
  have e1 : (j6_1_L0 p).toInt = (p).toInt / (2 ^ 16 : Nat) := by unfold j6_1_L0; rw [if_neg c1]; exact own_sh _ _ 16 (by decide) (by decide) (by omega)
  have b1 : 4 ≤ (j6_1_L0 p).toInt ∧ (j6_1_L0 p).toInt < 8 := by rw [e1]; simp only [Nat.reducePow]; omega
  have n1 : j6_1_L1 p = (15 : Int32) := by unfold j6_1_L1; rw [if_neg c1]
  have c2 : (j6_1_L0 p) < (256 : Int32) := own_lt32 (by rw [show (256 : Int32).toInt = 256 by decide]; omega)
  have e2 : j6_2_L0 p = (j6_1_L0 p) := by unfold j6_2_L0; rw [if_pos c2]
  have b2 : 4 ≤ (j6_2_L0 p).toInt ∧ (j6_2_L0 p).toInt < 8 := by rw [e2]; omega
  have n2 : j6_2_L1 p = (15 : Int32) := by unfold j6_2_L1; rw [if_pos c2, n1]
  have c3 : (j6_2_L0 p) < (16 : Int32) := own_lt32 (by rw [show (16 : Int32).toInt = 16 by decide]; omega)
  have e3 : j6_3_L0 p = (j6_2_L0 p) := by unfold j6_3_L0; rw [if_pos c3]
  have b3 : 4 ≤ (j6_3_L0 p).toInt ∧ (j6_3_L0 p).toInt < 8 := by rw [e3]; omega
  have n3 : j6_3_L1 p = (15 : Int32) := by unfold j6_3_L1; rw [if_pos c3, n2]
  have c4 : ¬ (j6_3_L0 p) < (4 : Int32) := own_nlt32 (by rw [show (4 : Int32).toInt = 4 by decide]; omega)
  have e4 : (j6_4_L0 p).toInt = ((j6_3_L0 p)).toInt / (2 ^ 2 : Nat) := by unfold j6_4_L0; rw [if_neg c4]; exact own_sh _ _ 2 (by decide) (by decide) (by omega)
  have b4 : 1 ≤ (j6_4_L0 p).toInt ∧ (j6_4_L0 p).toInt < 2 := by rw [e4]; simp only [Nat.reducePow]; omega
  have n4 : j6_4_L1 p = (13 : Int32) := by unfold j6_4_L1; rw [if_neg c4, n3]; decide
  have e5 : (((j6_4_L0 p).toUInt32 >>> ((1 : Int32) &&& 31).toUInt32).toInt32) = (0 : Int32) := by
    apply Int32.toInt_inj.mp; rw [own_sh _ _ 1 (by decide) (by decide) (by omega), show (0 : Int32).toInt = 0 by decide]; simp only [Nat.reducePow]; omega
  unfold sp6; rw [if_pos c0, n4, e5]; decide
theorem own_nlz_19 (p : Int32) (h1 : 524288 ≤ p.toInt) (h2 : p.toInt < 1048576) : sp6 p = (12 : Int32) := by
  have c0 : (0 : Int32) < p := own_lt32 (by rw [show (0 : Int32).toInt = 0 by decide]; omega)
  have c1 : ¬ p < (65536 : Int32) := own_nlt32 (by rw [show (65536 : Int32).toInt = 65536 by decide]; omega)
  have e1 : (j6_1_L0 p).toInt = (p).toInt / (2 ^ 16 : Nat) := by unfold j6_1_L0; rw [if_neg c1]; exact own_sh _ _ 16 (by decide) (by decide) (by omega)
  have b1 : 8 ≤ (j6_1_L0 p).toInt ∧ (j6_1_L0 p).toInt < 16 := by rw [e1]; simp only [Nat.reducePow]; omega
  have n1 : j6_1_L1 p = (15 : Int32) := by unfold j6_1_L1; rw [if_neg c1]
  have c2 : (j6_1_L0 p) < (256 : Int32) := own_lt32 (by rw [show (256 : Int32).toInt = 256 by decide]; omega)
  have e2 : j6_2_L0 p = (j6_1_L0 p) := by unfold j6_2_L0; rw [if_pos c2]
  have b2 : 8 ≤ (j6_2_L0 p).toInt ∧ (j6_2_L0 p).toInt < 16 := by rw [e2]; omega
  have n2 : j6_2_L1 p = (15 : Int32) := by unfold j6_2_L1; rw [if_pos c2, n1]
  have c3 : (j6_2_L0 p) < (16 : Int32) := own_lt32 (by rw [show (16 : Int32).toInt = 16 by decide]; omega)
  have e3 : j6_3_L0 p = (j6_2_L0 p) := by unfold j6_3_L0; rw [if_pos c3]
  have b3 : 8 ≤ (j6_3_L0 p).toInt ∧ (j6_3_L0 p).toInt < 16 := by rw [e3]; omega
  have n3 : j6_3_L1 p = (15 : Int32) := by unfold j6_3_L1; rw [if_pos c3, n2]
  have c4 : ¬ (j6_3_L0 p) < (4 : Int32) := own_nlt32 (by rw [show (4 : Int32).toInt = 4 by decide]; omega)
  have e4 : (j6_4_L0 p).toInt = ((j6_3_L0 p)).toInt / (2 ^ 2 : Nat) := by unfold j6_4_L0; rw [if_neg c4]; exact own_sh _ _ 2 (by decide) (by decide) (by omega)
  have b4 : 2 ≤ (j6_4_L0 p).toInt ∧ (j6_4_L0 p).toInt < 4 := by rw [e4]; simp only [Nat.reducePow]; omega
  have n4 : j6_4_L1 p = (13 : Int32) := by unfold j6_4_L1; rw [if_neg c4, n3]; decide
  have e5 : (((j6_4_L0 p).toUInt32 >>> ((1 : Int32) &&& 31).toUInt32).toInt32) = (1 : Int32) := by
    apply Int32.toInt_inj.mp; rw [own_sh _ _ 1 (by decide) (by decide) (by omega), show (1 : Int32).toInt = 1 by decide]; simp only [Nat.reducePow]; omega
  unfold sp6; rw [if_pos c0, n4, e5]; decide
theorem own_nlz_20 (p : Int32) (h1 : 1048576 ≤ p.toInt) (h2 : p.toInt < 2097152) : sp6 p = (11 : Int32) := by
  have c0 : (0 : Int32) < p := own_lt32 (by rw [show (0 : Int32).toInt = 0 by decide]; omega)
  have c1 : ¬ p < (65536 : Int32) := own_nlt32 (by rw [show (65536 : Int32).toInt = 65536 by decide]; omega)
  have e1 : (j6_1_L0 p).toInt = (p).toInt / (2 ^ 16 : Nat) := by unfold j6_1_L0; rw [if_neg c1]; exact own_sh _ _ 16 (by decide) (by decide) (by omega)
  have b1 : 16 ≤ (j6_1_L0 p).toInt ∧ (j6_1_L0 p).toInt < 32 := by rw [e1]; simp only [Nat.reducePow]; omega
  have n1 : j6_1_L1 p = (15 : Int32) := by unfold j6_1_L1; rw [if_neg c1]
  have c2 : (j6_1_L0 p) < (256 : Int32) := own_lt32 (by rw [show (256 : Int32).toInt = 256 by decide]; omega)
  have e2 : j6_2_L0 p = (j6_1_L0 p) := by unfold j6_2_L0; rw [if_pos c2]
  have b2 : 16 ≤ (j6_2_L0 p).toInt ∧ (j6_2_L0 p).toInt < 32 := by rw [e2]; omega
  have n2 : j6_2_L1 p = (15 : Int32) := by unfold j6_2_L1; rw [if_pos c2, n1]
  have c3 : ¬ (j6_2_L0 p) < (16 : Int32) := own_nlt32 (by rw [show (16 : Int32).toInt = 16 by decide]; omega)
  have e3 : (j6_3_L0 p).toInt = ((j6_2_L0 p)).toInt / (2 ^ 4 : Nat) := by unfold j6_3_L0; rw [if_neg c3]; exact own_sh _ _ 4 (by decide) (by decide) (by omega)
  have b3 : 1 ≤ (j6_3_L0 p).toInt ∧ (j6_3_L0 p).toInt < 2 := by rw [e3]; simp only [Nat.reducePow]; omega
  have n3 : j6_3_L1 p = (11 : Int32) := by unfold j6_3_L1; rw [if_neg c3, n2]; decide
  have c4 : (j6_3_L0 p) < (4 : Int32) := own_lt32 (by rw [show (4 : Int32).toInt = 4 by decide]; omega)
  have e4 : j6_4_L0 p = (j6_3_L0 p) := by unfold j6_4_L0; rw [if_pos c4]
  have b4 : 1 ≤ (j6_4_L0 p).toInt ∧ (j6_4_L0 p).toInt < 2 := by rw [e4]; omega
  have n4 : j6_4_L1 p = (11 : Int32) := by unfold j6_4_L1; rw [if_pos c4, n3]
  have e5 : (((j6_4_L0 p).toUInt32 >>> ((1 : Int32) &&& 31).toUInt32).toInt32) = (0 : Int32) := by
    apply Int32.toInt_inj.mp; rw [own_sh _ _ 1 (by decide) (by decide) (by omega), show (0 : Int32).toInt = 0 by decide]; simp only [Nat.reducePow]; omega
  unfold sp6; rw [if_pos c0, n4, e5]; decide
theorem own_nlz_21 (p : Int32) (h1 : 2097152 ≤ p.toInt) (h2 : p.toInt < 4194304) : sp6 p = (10 : Int32) := by
  have c0 : (0 : Int32) < p := own_lt32 (by rw [show (0 : Int32).toInt = 0 by decide]; omega)
  have c1 : ¬ p < (65536 : Int32) := own_nlt32 (by rw [show (65536 : Int32).toInt = 65536 by decide]; omega)
  have e1 : (j6_1_L0 p).toInt = (p).toInt / (2 ^ 16 : Nat) := by unfold j6_1_L0; rw [if_neg c1]; exact own_sh _ _ 16 (by decide) (by decide) (by omega)
  have b1 : 32 ≤ (j6_1_L0 p).toInt ∧ (j6_1_L0 p).toInt < 64 := by rw [e1]; simp only [Nat.reducePow]; omega
  have n1 : j6_1_L1 p = (15 : Int32) := by unfold j6_1_L1; rw [if_neg c1]
  have c2 : (j6_1_L0 p) < (256 : Int32) := own_lt32 (by rw [show (256 : Int32).toInt = 256 by decide]; omega)
  have e2 : j6_2_L0 p = (j6_1_L0 p) := by unfold j6_2_L0; rw [if_pos c2]
  have b2 : 32 ≤ (j6_2_L0 p).toInt ∧ (j6_2_L0 p).toInt < 64 := by rw [e2]; omega
  have n2 : j6_2_L1 p = (15 : Int32) := by unfold j6_2_L1; rw [if_pos c2, n1]
  have c3 : ¬ (j6_2_L0 p) < (16 : Int32) := own_nlt32 (by rw [show (16 : Int32).toInt = 16 by decide]; omega)
  have e3 : (j6_3_L0 p).toInt = ((j6_2_L0 p)).toInt / (2 ^ 4 : Nat) := by unfold j6_3_L0; rw [if_neg c3]; exact own_sh _ _ 4 (by decide) (by decide) (by omega)
  have b3 : 2 ≤ (j6_3_L0 p).toInt ∧ (j6_3_L0 p).toInt < 4 := by rw [e3]; simp only [Nat.reducePow]; omega
  have n3 : j6_3_L1 p = (11 : Int32) := by unfold j6_3_L1; rw [if_neg c3, n2]; decide
  have c4 : (j6_3_L0 p) < (4 : Int32) := own_lt32 (by rw [show (4 : Int32).toInt = 4 by decide]; omega)
  have e4 : j6_4_L0 p = (j6_3_L0 p) := by unfold j6_4_L0; rw [if_pos c4]
  have b4 : 2 ≤ (j6_4_L0 p).toInt ∧ (j6_4_L0 p).toInt < 4 := by rw [e4]; omega
  have n4 : j6_4_L1 p = (11 : Int32) := by unfold j6_4_L1; rw [if_pos c4, n3]
  have e5 : (((j6_4_L0 p).toUInt32 >>> ((1 : Int32) &&& 31).toUInt32).toInt32) = (1 : Int32) := by
    apply Int32.toInt_inj.mp; rw [own_sh _ _ 1 (by decide) (by decide) (by omega), show (1 : Int32).toInt = 1 by decide]; simp only [Nat.reducePow]; omega
  unfold sp6; rw [if_pos c0, n4, e5]; decide
theorem own_nlz_22 (p : Int32) (h1 : 4194304 ≤ p.toInt) (h2 : p.toInt < 8388608) : sp6 p = (9 : Int32) := by
  have c0 : (0 : Int32) < p := own_lt32 (by rw [show (0 : Int32).toInt = 0 by decide]; omega)
  have c1 : ¬ p < (65536 : Int32) := own_nlt32 (by rw [show (65536 : Int32).toInt = 65536 by decide]; omega)
  have e1 : (j6_1_L0 p).toInt = (p).toInt / (2 ^ 16 : Nat) := by unfold j6_1_L0; rw [if_neg c1]; exact own_sh _ _ 16 (by decide) (by decide) (by omega)
  have b1 : 64 ≤ (j6_1_L0 p).toInt ∧ (j6_1_L0 p).toInt < 128 := by rw [e1]; simp only [Nat.reducePow]; omega
  have n1 : j6_1_L1 p = (15 : Int32) := by unfold j6_1_L1; rw [if_neg c1]
  have c2 : (j6_1_L0 p) < (256 : Int32) := own_lt32 (by rw [show (256 : Int32).toInt = 256 by decide]; omega)
  have e2 : j6_2_L0 p = (j6_1_L0 p) := by unfold j6_2_L0; rw [if_pos c2]
  have b2 : 64 ≤ (j6_2_L0 p).toInt ∧ (j6_2_L0 p).toInt < 128 := by rw [e2]; omega
  have n2 : j6_2_L1 p = (15 : Int32) := by unfold j6_2_L1; rw [if_pos c2, n1]
  have c3 : ¬ (j6_2_L0 p) < (16 : Int32) := own_nlt32 (by rw [show (16 : Int32).toInt = 16 by decide]; omega)
  have e3 : (j6_3_L0 p).toInt = ((j6_2_L0 p)).toInt / (2 ^ 4 : Nat) := by unfold j6_3_L0; rw [if_neg c3]; exact own_sh _ _ 4 (by decide) (by decide) (by omega)
  have b3 : 4 ≤ (j6_3_L0 p).toInt ∧ (j6_3_L0 p).toInt < 8 := by rw [e3]; simp only [Nat.reducePow]; omega
  have n3 : j6_3_L1 p = (11 : Int32) := by unfold j6_3_L1; rw [if_neg c3, n2]; decide
  have c4 : ¬ (j6_3_L0 p) < (4 : Int32) := own_nlt32 (by rw [show (4 : Int32).toInt = 4 by decide]; omega)
  have e4 : (j6_4_L0 p).toInt = ((j6_3_L0 p)).toInt / (2 ^ 2 : Nat) := by unfold j6_4_L0; rw [if_neg c4]; exact own_sh _ _ 2 (by decide) (by decide) (by omega)
  have b4 : 1 ≤ (j6_4_L0 p).toInt ∧ (j6_4_L0 p).toInt < 2 := by rw [e4]; simp only [Nat.reducePow]; omega
  have n4 : j6_4_L1 p = (9 : Int32) := by unfold j6_4_L1; rw [if_neg c4, n3]; decide
  have e5 : (((j6_4_L0 p).toUInt32 >>> ((1 : Int32) &&& 31).toUInt32).toInt32) = (0 : Int32) := by
    apply Int32.toInt_inj.mp; rw [own_sh _ _ 1 (by decide) (by decide) (by omega), show (0 : Int32).toInt = 0 by decide]; simp only [Nat.reducePow]; omega
  unfold sp6; rw [if_pos c0, n4, e5]; decide
theorem own_nlz_23 (p : Int32) (h1 : 8388608 ≤ p.toInt) (h2 : p.toInt < 16777216) : sp6 p = (8 : Int32) := by
  have c0 : (0 : Int32) < p := own_lt32 (by rw [show (0 : Int32).toInt = 0 by decide]; omega)
  have c1 : ¬ p < (65536 : Int32) := own_nlt32 (by rw [show (65536 : Int32).toInt = 65536 by decide]; omega)
  have e1 : (j6_1_L0 p).toInt = (p).toInt / (2 ^ 16 : Nat) := by unfold j6_1_L0; rw [if_neg c1]; exact own_sh _ _ 16 (by decide) (by decide) (by omega)
  have b1 : 128 ≤ (j6_1_L0 p).toInt ∧ (j6_1_L0 p).toInt < 256 := by rw [e1]; simp only [Nat.reducePow]; omega
  have n1 : j6_1_L1 p = (15 : Int32) := by unfold j6_1_L1; rw [if_neg c1]
  have c2 : (j6_1_L0 p) < (256 : Int32) := own_lt32 (by rw [show (256 : Int32).toInt = 256 by decide]; omega)
  have e2 : j6_2_L0 p = (j6_1_L0 p) := by unfold j6_2_L0; rw [if_pos c2]
  have b2 : 128 ≤ (j6_2_L0 p).toInt ∧ (j6_2_L0 p).toInt < 256 := by rw [e2]; omega
  have n2 : j6_2_L1 p = (15 : Int32) := by unfold j6_2_L1; rw [if_pos c2, n1]
  have c3 : ¬ (j6_2_L0 p) < (16 : Int32) := own_nlt32 (by rw [show (16 : Int32).toInt = 16 by decide]; omega)
  have e3 : (j6_3_L0 p).toInt = ((j6_2_L0 p)).toInt / (2 ^ 4 : Nat) := by unfold j6_3_L0; rw [if_neg c3]; exact own_sh _ _ 4 (by decide) (by decide) (by omega)
  have b3 : 8 ≤ (j6_3_L0 p).toInt ∧ (j6_3_L0 p).toInt < 16 := by rw [e3]; simp only [Nat.reducePow]; omega
  have n3 : j6_3_L1 p = (11 : Int32) := by unfold j6_3_L1; rw [if_neg c3, n2]; decide
  have c4 : ¬ (j6_3_L0 p) < (4 : Int32) := own_nlt32 (by rw [show (4 : Int32).toInt = 4 by decide]; omega)
  have e4 : (j6_4_L0 p).toInt = ((j6_3_L0 p)).toInt / (2 ^ 2 : Nat) := by unfold j6_4_L0; rw [if_neg c4]; exact own_sh _ _ 2 (by decide) (by decide) (by omega)
  have b4 : 2 ≤ (j6_4_L0 p).toInt ∧ (j6_4_L0 p).toInt < 4 := by rw [e4]; simp only [Nat.reducePow]; omega
  have n4 : j6_4_L1 p = (9 : Int32) := by unfold j6_4_L1; rw [if_neg c4, n3]; decide
  have e5 : (((j6_4_L0 p).toUInt32 >>> ((1 : Int32) &&& 31).toUInt32).toInt32) = (1 : Int32) := by
    apply Int32.toInt_inj.mp; rw [own_sh _ _ 1 (by decide) (by decide) (by omega), show (1 : Int32).toInt = 1 by decide]; simp only [Nat.reducePow]; omega
  unfold sp6; rw [if_pos c0, n4, e5]; decide
theorem own_nlz_24 (p : Int32) (h1 : 16777216 ≤ p.toInt) (h2 : p.toInt < 33554432) : sp6 p = (7 : Int32) := by
  have c0 : (0 : Int32) < p := own_lt32 (by rw [show (0 : Int32).toInt = 0 by decide]; omega)
  have c1 : ¬ p < (65536 : Int32) := own_nlt32 (by rw [show (65536 : Int32).toInt = 65536 by decide]; omega)
  have e1 : (j6_1_L0 p).toInt = (p).toInt / (2 ^ 16 : Nat) := by unfold j6_1_L0; rw [if_neg c1]; exact own_sh _ _ 16 (by decide) (by decide) (by omega)
  have b1 : 256 ≤ (j6_1_L0 p).toInt ∧ (j6_1_L0 p).toInt < 512 := by rw [e1]; simp only [Nat.reducePow]; omega
  have n1 : j6_1_L1 p = (15 : Int32) := by unfold j6_1_L1; rw [if_neg c1]
  have c2 : ¬ (j6_1_L0 p) < (256 : Int32) := own_nlt32 (by rw [show (256 : Int32).toInt = 256 by decide]; omega)
  have e2 : (j6_2_L0 p).toInt = ((j6_1_L0 p)).toInt / (2 ^ 8 : Nat) := by unfold j6_2_L0; rw [if_neg c2]; exact own_sh _ _ 8 (by decide) (by decide) (by omega)
  have b2 : 1 ≤ (j6_2_L0 p).toInt ∧ (j6_2_L0 p).toInt < 2 := by rw [e2]; simp only [Nat.reducePow]; omega
  have n2 : j6_2_L1 p = (7 : Int32) := by unfold j6_2_L1; rw [if_neg c2, n1]; decide
  have c3 : (j6_2_L0 p) < (16 : Int32) := own_lt32 (by rw [show (16 : Int32).toInt = 16 by decide]; omega)
  have e3 : j6_3_L0 p = (j6_2_L0 p) := by unfold j6_3_L0; rw [if_pos c3]
  have b3 : 1 ≤ (j6_3_L0 p).toInt ∧ (j6_3_L0 p).toInt < 2 := by rw [e3]; omega
  have n3 : j6_3_L1 p = (7 : Int32) := by unfold j6_3_L1; rw [if_pos c3, n2]
  have c4 : (j6_3_L0 p) < (4 : Int32) := own_lt32 (by rw [show (4 : Int32).toInt = 4 by decide]; omega)
  have e4 : j6_4_L0 p = (j6_3_L0 p) := by unfold j6_4_L0; rw [if_pos c4]
  have b4 : 1 ≤ (j6_4_L0 p).toInt ∧ (j6_4_L0 p).toInt < 2 := by rw [e4]; omega
  have n4 : j6_4_L1 p = (7 : Int32) := by unfold j6_4_L1; rw [if_pos c4, n3]
  have e5 : (((j6_4_L0 p).toUInt32 >>> ((1 : Int32) &&& 31).toUInt32).toInt32) = (0 : Int32) := by
    apply Int32.toInt_inj.mp; rw [own_sh _ _ 1 (by decide) (by decide) (by omega), show (0 : Int32).toInt = 0 by decide]; simp only [Nat.reducePow]; omega
  unfold sp6; rw [if_pos c0, n4, e5]; decide
theorem own_nlz_25 (p : Int32) (h1 : 33554432 ≤ p.toInt) (h2 : p.toInt < 67108864) : sp6 p = (6 : Int32) := by
  have c0 : (0 : Int32) < p := own_lt32 (by rw [show (0 : Int32).toInt = 0 by decide]; omega)
  have c1 : ¬ p < (65536 : Int32) := own_nlt32 (by rw [show (65536 : Int32).toInt = 65536 by decide]; omega)
  have e1 : (j6_1_L0 p).toInt = (p).toInt / (2 ^ 16 : Nat) := by unfold j6_1_L0; rw [if_neg c1]; exact own_sh _ _ 16 (by decide) (by decide) (by omega)
  have b1 : 512 ≤ (j6_1_L0 p).toInt ∧ (j6_1_L0 p).toInt < 1024 := by rw [e1]; simp only [Nat.reducePow]; omega
  have n1 : j6_1_L1 p = (15 : Int32) := by unfold j6_1_L1; rw [if_neg c1]
  have c2 : ¬ (j6_1_L0 p) < (256 : Int32) := own_nlt32 (by rw [show (256 : Int32).toInt = 256 by decide]; omega)
  have e2 : (j6_2_L0 p).toInt = ((j6_1_L0 p)).toInt / (2 ^ 8 : Nat) := by unfold j6_2_L0; rw [if_neg c2]; exact own_sh _ _ 8 (by decide) (by decide) (by omega)
  have b2 : 2 ≤ (j6_2_L0 p).toInt ∧ (j6_2_L0 p).toInt < 4 := by rw [e2]; simp only [Nat.reducePow]; omega
  have n2 : j6_2_L1 p = (7 : Int32) := by unfold j6_2_L1; rw [if_neg c2, n1]; decide
  have c3 : (j6_2_L0 p) < (16 : Int32) := own_lt32 (by rw [show (16 : Int32).toInt = 16 by decide]; omega)
  have e3 : j6_3_L0 p = (j6_2_L0 p) := by unfold j6_3_L0; rw [if_pos c3]
  have b3 : 2 ≤ (j6_3_L0 p).toInt ∧ (j6_3_L0 p).toInt < 4 := by rw [e3]; omega
  have n3 : j6_3_L1 p = (7 : Int32) := by unfold j6_3_L1; rw [if_pos c3, n2]
  have c4 : (j6_3_L0 p) < (4 : Int32) := own_lt32 (by rw [show (4 : Int32).toInt = 4 by decide]; omega)
  have e4 : j6_4_L0 p = (j6_3_L0 p) := by unfold j6_4_L0; rw [if_pos c4]
  have b4 : 2 ≤ (j6_4_L0 p).toInt ∧ (j6_4_L0 p).toInt < 4 := by rw [e4]; omega
  have n4 : j6_4_L1 p = (7 : Int32) := by unfold j6_4_L1; rw [if_pos c4, n3]
  have e5 : (((j6_4_L0 p).toUInt32 >>> ((1 : Int32) &&& 31).toUInt32).toInt32) = (1 : Int32) := by
    apply Int32.toInt_inj.mp; rw [own_sh _ _ 1 (by decide) (by decide) (by omega), show (1 : Int32).toInt = 1 by decide]; simp only [Nat.reducePow]; omega
  unfold sp6; rw [if_pos c0, n4, e5]; decide
theorem own_nlz_26 (p : Int32) (h1 : 67108864 ≤ p.toInt) (h2 : p.toInt < 134217728) : sp6 p = (5 : Int32) := by
  have c0 : (0 : Int32) < p := own_lt32 (by rw [show (0 : Int32).toInt = 0 by decide]; omega)
  have c1 : ¬ p < (65536 : Int32) := own_nlt32 (by rw [show (65536 : Int32).toInt = 65536 by decide]; omega)
  have e1 : (j6_1_L0 p).toInt = (p).toInt / (2 ^ 16 : Nat) := by unfold j6_1_L0; rw [if_neg c1]; exact own_sh _ _ 16 (by decide) (by decide) (by omega)
  have b1 : 1024 ≤ (j6_1_L0 p).toInt ∧ (j6_1_L0 p).toInt < 2048 := by rw [e1]; simp only [Nat.reducePow]; omega
  have n1 : j6_1_L1 p = (15 : Int32) := by unfold j6_1_L1; rw [if_neg c1]
  have c2 : ¬ (j6_1_L0 p) < (256 : Int32) := own_nlt32 (by rw [show (256 : Int32).toInt = 256 by decide]; omega)
  have e2 : (j6_2_L0 p).toInt = ((j6_1_L0 p)).toInt / (2 ^ 8 : Nat) := by unfold j6_2_L0; rw [if_neg c2]; exact own_sh _ _ 8 (by decide) (by decide) (by omega)
  have b2 : 4 ≤ (j6_2_L0 p).toInt ∧ (j6_2_L0 p).toInt < 8 := by rw [e2]; simp only [Nat.reducePow]; omega
  have n2 : j6_2_L1 p = (7 : Int32) := by unfold j6_2_L1; rw [if_neg c2, n1]; decide
  have c3 : (j6_2_L0 p) < (16 : Int32) := own_lt32 (by rw [show (16 : Int32).toInt = 16 by decide]; omega)
  have e3 : j6_3_L0 p = (j6_2_L0 p) := by unfold j6_3_L0; rw [if_pos c3]
  have b3 : 4 ≤ (j6_3_L0 p).toInt ∧ (j6_3_L0 p).toInt < 8 := by rw [e3]; omega
  have n3 : j6_3_L1 p = (7 : Int32) := by unfold j6_3_L1; rw [if_pos c3, n2]
  have c4 : ¬ (j6_3_L0 p) < (4 : Int32) := own_nlt32 (by rw [show (4 : Int32).toInt = 4 by decide]; omega)
  have e4 : (j6_4_L0 p).toInt = ((j6_3_L0 p)).toInt / (2 ^ 2 : Nat) := by unfold j6_4_L0; rw [if_neg c4]; exact own_sh _ _ 2 (by decide) (by decide) (by omega)
  have b4 : 1 ≤ (j6_4_L0 p).toInt ∧ (j6_4_L0 p).toInt < 2 := by rw [e4]; simp only [Nat.reducePow]; omega
  have n4 : j6_4_L1 p = (5 : Int32) := by unfold j6_4_L1; rw [if_neg c4, n3]; decide
  have e5 : (((j6_4_L0 p).toUInt32 >>> ((1 : Int32) &&& 31).toUInt32).toInt32) = (0 : Int32) := by
    apply Int32.toInt_inj.mp; rw [own_sh _ _ 1 (by decide) (by decide) (by omega), show (0 : Int32).toInt = 0 by decide]; simp only [Nat.reducePow]; omega
  unfold sp6; rw [if_pos c0, n4, e5]; decide
theorem own_nlz_27 (p : Int32) (h1 : 134217728 ≤ p.toInt) (h2 : p.toInt < 268435456) : sp6 p = (4 : Int32) := by
  have c0 : (0 : Int32) < p := own_lt32 (by rw [show (0 : Int32).toInt = 0 by decide]; omega)
  have c1 : ¬ p < (65536 : Int32) := own_nlt32 (by rw [show (65536 : Int32).toInt = 65536 by decide]; omega)
  have e1 : (j6_1_L0 p).toInt = (p).toInt / (2 ^ 16 : Nat) := by unfold j6_1_L0; rw [if_neg c1]; exact own_sh _ _ 16 (by decide) (by decide) (by omega)
  have b1 : 2048 ≤ (j6_1_L0 p).toInt ∧ (j6_1_L0 p).toInt < 4096 := by rw [e1]; simp only [Nat.reducePow]; omega
  have n1 : j6_1_L1 p = (15 : Int32) := by unfold j6_1_L1; rw [if_neg c1]
  have c2 : ¬ (j6_1_L0 p) < (256 : Int32) := own_nlt32 (by rw [show (256 : Int32).toInt = 256 by decide]; omega)
  have e2 : (j6_2_L0 p).toInt = ((j6_1_L0 p)).toInt / (2 ^ 8 : Nat) := by unfold j6_2_L0; rw [if_neg c2]; exact own_sh _ _ 8 (by decide) (by decide) (by omega)
  have b2 : 8 ≤ (j6_2_L0 p).toInt ∧ (j6_2_L0 p).toInt < 16 := by rw [e2]; simp only [Nat.reducePow]; omega
  have n2 : j6_2_L1 p = (7 : Int32) := by unfold j6_2_L1; rw [if_neg c2, n1]; decide
  have c3 : (j6_2_L0 p) < (16 : Int32) := own_lt32 (by rw [show (16 : Int32).toInt = 16 by decide]; omega)
  have e3 : j6_3_L0 p = (j6_2_L0 p) := by unfold j6_3_L0; rw [if_pos c3]
  have b3 : 8 ≤ (j6_3_L0 p).toInt ∧ (j6_3_L0 p).toInt < 16 := by rw [e3]; omega
  have n3 : j6_3_L1 p = (7 : Int32) := by unfold j6_3_L1; rw [if_pos c3, n2]
  have c4 : ¬ (j6_3_L0 p) < (4 : Int32) := own_nlt32 (by rw [show (4 : Int32).toInt = 4 by decide]; omega)
  have e4 : (j6_4_L0 p).toInt = ((j6_3_L0 p)).toInt / (2 ^ 2 : Nat) := by unfold j6_4_L0; rw [if_neg c4]; exact own_sh _ _ 2 (by decide) (by decide) (by omega)
  have b4 : 2 ≤ (j6_4_L0 p).toInt ∧ (j6_4_L0 p).toInt < 4 := by rw [e4]; simp only [Nat.reducePow]; omega
  have n4 : j6_4_L1 p = (5 : Int32) := by unfold j6_4_L1; rw [if_neg c4, n3]; decide
  have e5 : (((j6_4_L0 p).toUInt32 >>> ((1 : Int32) &&& 31).toUInt32).toInt32) = (1 : Int32) := by
    apply Int32.toInt_inj.mp; rw [own_sh _ _ 1 (by decide) (by decide) (by omega), show (1 : Int32).toInt = 1 by decide]; simp only [Nat.reducePow]; omega
  unfold sp6; rw [if_pos c0, n4, e5]; decide
theorem own_nlz_28 (p : Int32) (h1 : 268435456 ≤ p.toInt) (h2 : p.toInt < 536870912) : sp6 p = (3 : Int32) := by
  have c0 : (0 : Int32) < p := own_lt32 (by rw [show (0 : Int32).toInt = 0 by decide]; omega)
  have c1 : ¬ p < (65536 : Int32) := own_nlt32 (by rw [show (65536 : Int32).toInt = 65536 by decide]; omega)
  have e1 : (j6_1_L0 p).toInt = (p).toInt / (2 ^ 16 : Nat) := by unfold j6_1_L0; rw [if_neg c1]; exact own_sh _ _ 16 (by decide) (by decide) (by omega)
  have b1 : 4096 ≤ (j6_1_L0 p).toInt ∧ (j6_1_L0 p).toInt < 8192 := by rw [e1]; simp only [Nat.reducePow]; omega
  have n1 : j6_1_L1 p = (15 : Int32) := by unfold j6_1_L1; rw [if_neg c1]
  have c2 : ¬ (j6_1_L0 p) < (256 : Int32) := own_nlt32 (by rw [show (256 : Int32).toInt = 256 by decide]; omega)
  have e2 : (j6_2_L0 p).toInt = ((j6_1_L0 p)).toInt / (2 ^ 8 : Nat) := by unfold j6_2_L0; rw [if_neg c2]; exact own_sh _ _ 8 (by decide) (by decide) (by omega)
  have b2 : 16 ≤ (j6_2_L0 p).toInt ∧ (j6_2_L0 p).toInt < 32 := by rw [e2]; simp only [Nat.reducePow]; omega
  have n2 : j6_2_L1 p = (7 : Int32) := by unfold j6_2_L1; rw [if_neg c2, n1]; decide
  have c3 : ¬ (j6_2_L0 p) < (16 : Int32) := own_nlt32 (by rw [show (16 : Int32).toInt = 16 by decide]; omega)
  have e3 : (j6_3_L0 p).toInt = ((j6_2_L0 p)).toInt / (2 ^ 4 : Nat) := by unfold j6_3_L0; rw [if_neg c3]; exact own_sh _ _ 4 (by decide) (by decide) (by omega)
  have b3 : 1 ≤ (j6_3_L0 p).toInt ∧ (j6_3_L0 p).toInt < 2 := by rw [e3]; simp only [Nat.reducePow]; omega
  have n3 : j6_3_L1 p = (3 : Int32) := by unfold j6_3_L1; rw [if_neg c3, n2]; decide
  have c4 : (j6_3_L0 p) < (4 : Int32) := own_lt32 (by rw [show (4 : Int32).toInt = 4 by decide]; omega)
  have e4 : j6_4_L0 p = (j6_3_L0 p) := by unfold j6_4_L0; rw [if_pos c4]
  have b4 : 1 ≤ (j6_4_L0 p).toInt ∧ (j6_4_L0 p).toInt < 2 := by rw [e4]; omega
  have n4 : j6_4_L1 p = (3 : Int32) := by unfold j6_4_L1; rw [if_pos c4, n3]
  have e5 : (((j6_4_L0 p).toUInt32 >>> ((1 : Int32) &&& 31).toUInt32).toInt32) = (0 : Int32) := by
    apply Int32.toInt_inj.mp; rw [own_sh _ _ 1 (by decide) (by decide) (by omega), show (0 : Int32).toInt = 0 by decide]; simp only [Nat.reducePow]; omega
  unfold sp6; rw [if_pos c0, n4, e5]; decide
theorem own_nlz_29 (p : Int32) (h1 : 536870912 ≤ p.toInt) (h2 : p.toInt < 1073741824) : sp6 p = (2 : Int32) := by
  have c0 : (0 : Int32) < p := own_lt32 (by rw [show (0 : Int32).toInt = 0 by decide]; omega)
  have c1 : ¬ p < (65536 : Int32) := own_nlt32 (by rw [show (65536 : Int32).toInt = 65536 by decide]; omega)
  have e1 : (j6_1_L0 p).toInt = (p).toInt / (2 ^ 16 : Nat) := by unfold j6_1_L0; rw [if_neg c1]; exact own_sh _ _ 16 (by decide) (by decide) (by omega)
  have b1 : 8192 ≤ (j6_1_L0 p).toInt ∧ (j6_1_L0 p).toInt < 16384 := by rw [e1]; simp only [Nat.reducePow]; omega
  have n1 : j6_1_L1 p = (15 : Int32) := by unfold j6_1_L1; rw [if_neg c1]
  have c2 : ¬ (j6_1_L0 p) < (256 : Int32) := own_nlt32 (by rw [show (256 : Int32).toInt = 256 by decide]; omega)
  have e2 : (j6_2_L0 p).toInt = ((j6_1_L0 p)).toInt / (2 ^ 8 : Nat) := by unfold j6_2_L0; rw [if_neg c2]; exact own_sh _ _ 8 (by decide) (by decide) (by omega)
  have b2 : 32 ≤ (j6_2_L0 p).toInt ∧ (j6_2_L0 p).toInt < 64 := by rw [e2]; simp only [Nat.reducePow]; omega
  have n2 : j6_2_L1 p = (7 : Int32) := by unfold j6_2_L1; rw [if_neg c2, n1]; decide
  have c3 : ¬ (j6_2_L0 p) < (16 : Int32) := own_nlt32 (by rw [show (16 : Int32).toInt = 16 by decide]; omega)
  have e3 : (j6_3_L0 p).toInt = ((j6_2_L0 p)).toInt / (2 ^ 4 : Nat) := by unfold j6_3_L0; rw [if_neg c3]; exact own_sh _ _ 4 (by decide) (by decide) (by omega)
  have b3 : 2 ≤ (j6_3_L0 p).toInt ∧ (j6_3_L0 p).toInt < 4 := by rw [e3]; simp only [Nat.reducePow]; omega
  have n3 : j6_3_L1 p = (3 : Int32) := by unfold j6_3_L1; rw [if_neg c3, n2]; decide
  have c4 : (j6_3_L0 p) < (4 : Int32) := own_lt32 (by rw [show (4 : Int32).toInt = 4 by decide]; omega)
  have e4 : j6_4_L0 p = (j6_3_L0 p) := by unfold j6_4_L0; rw [if_pos c4]
  have b4 : 2 ≤ (j6_4_L0 p).toInt ∧ (j6_4_L0 p).toInt < 4 := by rw [e4]; omega
  have n4 : j6_4_L1 p = (3 : Int32) := by unfold j6_4_L1; rw [if_pos c4, n3]
  have e5 : (((j6_4_L0 p).toUInt32 >>> ((1 : Int32) &&& 31).toUInt32).toInt32) = (1 : Int32) := by
    apply Int32.toInt_inj.mp; rw [own_sh _ _ 1 (by decide) (by decide) (by omega), show (1 : Int32).toInt = 1 by decide]; simp only [Nat.reducePow]; omega
  unfold sp6; rw [if_pos c0, n4, e5]; decide
theorem own_nlz_30 (p : Int32) (h1 : 1073741824 ≤ p.toInt) (h2 : p.toInt < 2147483648) : sp6 p = (1 : Int32) := by
  have c0 : (0 : Int32) < p := own_lt32 (by rw [show (0 : Int32).toInt = 0 by decide]; omega)
  have c1 : ¬ p < (65536 : Int32) := own_nlt32 (by rw [show (65536 : Int32).toInt = 65536 by decide]; omega)
  have e1 : (j6_1_L0 p).toInt = (p).toInt / (2 ^ 16 : Nat) := by unfold j6_1_L0; rw [if_neg c1]; exact own_sh _ _ 16 (by decide) (by decide) (by omega)
  have b1 : 16384 ≤ (j6_1_L0 p).toInt ∧ (j6_1_L0 p).toInt < 32768 := by rw [e1]; simp only [Nat.reducePow]; omega
  have n1 : j6_1_L1 p = (15 : Int32) := by unfold j6_1_L1; rw [if_neg c1]
  have c2 : ¬ (j6_1_L0 p) < (256 : Int32) := own_nlt32 (by rw [show (256 : Int32).toInt = 256 by decide]; omega)
  have e2 : (j6_2_L0 p).toInt = ((j6_1_L0 p)).toInt / (2 ^ 8 : Nat) := by unfold j6_2_L0; rw [if_neg c2]; exact own_sh _ _ 8 (by decide) (by decide) (by omega)
  have b2 : 64 ≤ (j6_2_L0 p).toInt ∧ (j6_2_L0 p).toInt < 128 := by rw [e2]; simp only [Nat.reducePow]; omega
  have n2 : j6_2_L1 p = (7 : Int32) := by unfold j6_2_L1; rw [if_neg c2, n1]; decide
  have c3 : ¬ (j6_2_L0 p) < (16 : Int32) := own_nlt32 (by rw [show (16 : Int32).toInt = 16 by decide]; omega)
  have e3 : (j6_3_L0 p).toInt = ((j6_2_L0 p)).toInt / (2 ^ 4 : Nat) := by unfold j6_3_L0; rw [if_neg c3]; exact own_sh _ _ 4 (by decide) (by decide) (by omega)
  have b3 : 4 ≤ (j6_3_L0 p).toInt ∧ (j6_3_L0 p).toInt < 8 := by rw [e3]; simp only [Nat.reducePow]; omega
  have n3 : j6_3_L1 p = (3 : Int32) := by unfold j6_3_L1; rw [if_neg c3, n2]; decide
  have c4 : ¬ (j6_3_L0 p) < (4 : Int32) := own_nlt32 (by rw [show (4 : Int32).toInt = 4 by decide]; omega)
  have e4 : (j6_4_L0 p).toInt = ((j6_3_L0 p)).toInt / (2 ^ 2 : Nat) := by unfold j6_4_L0; rw [if_neg c4]; exact own_sh _ _ 2 (by decide) (by decide) (by omega)
  have b4 : 1 ≤ (j6_4_L0 p).toInt ∧ (j6_4_L0 p).toInt < 2 := by rw [e4]; simp only [Nat.reducePow]; omega
  have n4 : j6_4_L1 p = (1 : Int32) := by unfold j6_4_L1; rw [if_neg c4, n3]; decide
  have e5 : (((j6_4_L0 p).toUInt32 >>> ((1 : Int32) &&& 31).toUInt32).toInt32) = (0 : Int32) := by
    apply Int32.toInt_inj.mp; rw [own_sh _ _ 1 (by decide) (by decide) (by omega), show (0 : Int32).toInt = 0 by decide]; simp only [Nat.reducePow]; omega
  unfold sp6; rw [if_pos c0, n4, e5]; decide
theorem own_deg (p : Int32) (k : Nat) (hk : k < 31) (h1 : ((2 ^ k : Nat) : Int) ≤ p.toInt) (h2 : p.toInt < ((2 ^ (k + 1) : Nat) : Int)) : sp5 p = Int32.ofNat k := by
  have hc : k = 0 ∨ k = 1 ∨ k = 2 ∨ k = 3 ∨ k = 4 ∨ k = 5 ∨ k = 6 ∨ k = 7 ∨ k = 8 ∨ k = 9 ∨ k = 10 ∨ k = 11 ∨ k = 12 ∨ k = 13 ∨ k = 14 ∨ k = 15 ∨ k = 16 ∨ k = 17 ∨ k = 18 ∨ k = 19 ∨ k = 20 ∨ k = 21 ∨ k = 22 ∨ k = 23 ∨ k = 24 ∨ k = 25 ∨ k = 26 ∨ k = 27 ∨ k = 28 ∨ k = 29 ∨ k = 30 := by omega
  unfold sp5
  rcases hc with rfl | rfl | rfl | rfl | rfl | rfl | rfl | rfl | rfl | rfl | rfl | rfl | rfl | rfl | rfl | rfl | rfl | rfl | rfl | rfl | rfl | rfl | rfl | rfl | rfl | rfl | rfl | rfl | rfl | rfl | rfl
  · rw [own_nlz_0 p (by simpa using h1) (by simpa using h2)]; decide
  · rw [own_nlz_1 p (by simpa using h1) (by simpa using h2)]; decide
  · rw [own_nlz_2 p (by simpa using h1) (by simpa using h2)]; decide
  · rw [own_nlz_3 p (by simpa using h1) (by simpa using h2)]; decide
  · rw [own_nlz_4 p (by simpa using h1) (by simpa using h2)]; decide
  · rw [own_nlz_5 p (by simpa using h1) (by simpa using h2)]; decide
  · rw [own_nlz_6 p (by simpa using h1) (by simpa using h2)]; decide
  · rw [own_nlz_7 p (by simpa using h1) (by simpa using h2)]; decide
  · rw [own_nlz_8 p (by simpa using h1) (by simpa using h2)]; decide
  · rw [own_nlz_9 p (by simpa using h1) (by simpa using h2)]; decide
  · rw [own_nlz_10 p (by simpa using h1) (by simpa using h2)]; decide
  · rw [own_nlz_11 p (by simpa using h1) (by simpa using h2)]; decide
  · rw [own_nlz_12 p (by simpa using h1) (by simpa using h2)]; decide
  · rw [own_nlz_13 p (by simpa using h1) (by simpa using h2)]; decide
  · rw [own_nlz_14 p (by simpa using h1) (by simpa using h2)]; decide
  · rw [own_nlz_15 p (by simpa using h1) (by simpa using h2)]; decide
  · rw [own_nlz_16 p (by simpa using h1) (by simpa using h2)]; decide
  · rw [own_nlz_17 p (by simpa using h1) (by simpa using h2)]; decide
  · rw [own_nlz_18 p (by simpa using h1) (by simpa using h2)]; decide
  · rw [own_nlz_19 p (by simpa using h1) (by simpa using h2)]; decide
  · rw [own_nlz_20 p (by simpa using h1) (by simpa using h2)]; decide
  · rw [own_nlz_21 p (by simpa using h1) (by simpa using h2)]; decide
  · rw [own_nlz_22 p (by simpa using h1) (by simpa using h2)]; decide
  · rw [own_nlz_23 p (by simpa using h1) (by simpa using h2)]; decide
  · rw [own_nlz_24 p (by simpa using h1) (by simpa using h2)]; decide
  · rw [own_nlz_25 p (by simpa using h1) (by simpa using h2)]; decide
  · rw [own_nlz_26 p (by simpa using h1) (by simpa using h2)]; decide
  · rw [own_nlz_27 p (by simpa using h1) (by simpa using h2)]; decide
  · rw [own_nlz_28 p (by simpa using h1) (by simpa using h2)]; decide
  · rw [own_nlz_29 p (by simpa using h1) (by simpa using h2)]; decide
  · rw [own_nlz_30 p (by simpa using h1) (by simpa using h2)]; decide
def own_P (k : Nat) : Int32 := (1 : Int32) <<< ((Int32.ofNat k) &&& 31)
def own_M (k : Nat) : Int32 := own_P k - (1 : Int32)
theorem own_Pb : ∀ k : Fin 31, ∀ i : Fin 32, (own_P k.val).toBitVec.getLsbD i.val = decide (i.val = k.val) := by decide +kernel
theorem own_Mb : ∀ k : Fin 31, ∀ i : Fin 32, (own_M k.val).toBitVec.getLsbD i.val = decide (i.val < k.val) := by decide +kernel
theorem own_Mn2 (k : Fin 31) (i : Nat) (hi : i < 32) : (own_M k.val).toBitVec.getLsbD i = decide (i < k.val) := own_Mb k ⟨i, hi⟩
theorem own_Pn2 (k : Fin 31) (i : Nat) (hi : i < 32) : (own_P k.val).toBitVec.getLsbD i = decide (i = k.val) := own_Pb k ⟨i, hi⟩
theorem own_Pi : ∀ k : Fin 31, (own_P k.val).toInt = ((2 ^ k.val : Nat) : Int) := by decide +kernel
theorem own_Mn : ∀ k : Fin 31, (own_M k.val).toBitVec.toNat = 2 ^ k.val - 1 := by decide +kernel
theorem own_Ps : ∀ k : Fin 31, 0 < k.val → ((1 : Int32) <<< ((Int32.ofNat k.val - (1 : Int32)) &&& 31)) = own_P (k.val - 1) := by decide +kernel
theorem own_Ks : ∀ k : Fin 31, ((Int32.ofNat k.val) &&& 31).toUInt32.toBitVec.toNat % 32 = k.val := by decide +kernel
theorem own_pos : ∀ k : Fin 31, (0 : Int32) < Int32.ofNat k.val ↔ 0 < k.val := by decide +kernel
theorem own_or (a b : Int32) (k : Fin 31) (ha : a = own_P k.val) (hb : 0 ≤ b.toInt ∧ b.toInt < ((2 ^ k.val : Nat) : Int)) : (a ||| b).toInt = ((2 ^ k.val : Nat) : Int) + b.toInt := by
  have h := c_or a b k.val (by omega) ((2 ^ k.val : Nat) : Int) rfl (by rw [ha, own_Pi]; exact Int.emod_self) hb.1 hb.2
  rw [ha, own_Pi] at h
  have r := rng32 (own_P k.val ||| b)
  have hp : (2 ^ k.val : Nat) ≤ 2 ^ 30 := Nat.pow_le_pow_right (by decide) (by omega)
  rw [ha]
  omega
theorem own_coef (k : Fin 31) (c : Int32) : ((2 ^ k.val : Nat) : Int) ≤ (own_P k.val ||| (c &&& own_M k.val)).toInt ∧ (own_P k.val ||| (c &&& own_M k.val)).toInt < ((2 ^ (k.val + 1) : Nat) : Int) := by
  have h1 := c_mask c (own_M k.val) k.val (by omega) (own_Mn k)
  have hp : 0 < (2 ^ k.val : Nat) := Nat.pow_pos (by decide)
  have h2 : 0 ≤ (c &&& own_M k.val).toInt ∧ (c &&& own_M k.val).toInt < ((2 ^ k.val : Nat) : Int) := by
    rw [h1]; exact ⟨Int.emod_nonneg _ (by omega), Int.emod_lt_of_pos _ (by omega)⟩
  rw [own_or _ _ k rfl h2, Nat.pow_succ]
  omega
theorem own_yb (r : Int32) (i : Nat) (hi : i < 32) : (r <<< ((1 : Int32) &&& 31)).toBitVec.getLsbD i = (decide (1 ≤ i) && r.toBitVec.getLsbD (i - 1)) := by
  have e : (r <<< ((1 : Int32) &&& 31)).toBitVec = r.toBitVec <<< 1 := by
    rw [Int32.toBitVec_shiftLeft]
    rfl
  rw [e, BitVec.getLsbD_shiftLeft]
  simp only [hi, decide_true, Bool.true_and]
  by_cases q : i = 0
  · subst q; simp
  · have q1 : 1 ≤ i := by omega
    have q2 : ¬ i < 1 := by omega
    simp [q1, q2]
theorem own_zb (y : Int32) (k : Fin 31) : (((y.toUInt32 >>> ((Int32.ofNat k.val) &&& 31).toUInt32).toInt32) &&& (1 : Int32)) = (1 : Int32) ↔ y.toBitVec.getLsbD k.val = true := by
  have hz : ((y.toUInt32 >>> ((Int32.ofNat k.val) &&& 31).toUInt32).toInt32).toBitVec.getLsbD 0 = y.toBitVec.getLsbD k.val := by
    show (y.toUInt32 >>> ((Int32.ofNat k.val) &&& 31).toUInt32).toBitVec.getLsbD 0 = _
    rw [UInt32.toBitVec_shiftRight, BitVec.ushiftRight_eq', BitVec.getLsbD_ushiftRight, BitVec.toNat_umod]
    rw [show BitVec.toNat (32 : BitVec 32) = 32 from rfl, own_Ks k]
    rfl
  generalize ((y.toUInt32 >>> ((Int32.ofNat k.val) &&& 31).toUInt32).toInt32) = z at *
  rw [← hz]
  have hb : (z &&& (1 : Int32)).toBitVec.getLsbD 0 = z.toBitVec.getLsbD 0 := by
    rw [Int32.toBitVec_and, BitVec.getLsbD_and, show (1 : Int32).toBitVec.getLsbD 0 = true by decide, Bool.and_true]
  obtain ⟨j, hj⟩ := own_fin (z &&& 1) 2 (by rw [c_mask z 1 1 (by decide) (by decide)]; omega) (by rw [c_mask z 1 1 (by decide) (by decide)]; omega)
  rw [← hb, hj]
  clear hj hb hz
  revert j
  decide
theorem own_rb (r : Int32) (k : Fin 31) : (r &&& own_P k.val) = (0 : Int32) ↔ r.toBitVec.getLsbD k.val = false := by
  constructor
  · intro h
    have h' : (r &&& own_P k.val).toBitVec.getLsbD k.val = false := by rw [h]; simp
    rw [Int32.toBitVec_and, BitVec.getLsbD_and, own_Pb k ⟨k.val, by omega⟩] at h'
    simpa using h'
  · intro h
    refine Int32.toBitVec_inj.mp (BitVec.eq_of_getLsbD_eq fun i hi => ?_)
    rw [Int32.toBitVec_and, BitVec.getLsbD_and, own_Pn2 k i hi]
    by_cases q : i = k.val
    · subst q; rw [h]; simp
    · simp [q]
theorem own_main (k : Fin 31) (c q : Int32) :
    let r := q &&& own_M k.val
    let coef := own_P k.val ||| (c &&& own_M k.val)
    (r.toBitVec.getLsbD (k.val - 1) = true ∧ 0 < k.val → sp4 r coef = ((r <<< ((1 : Int32) &&& 31)) &&& own_M k.val) ^^^ (coef &&& own_M k.val)) ∧
    (¬ (r.toBitVec.getLsbD (k.val - 1) = true ∧ 0 < k.val) → sp4 r coef = ((r <<< ((1 : Int32) &&& 31)) &&& own_M k.val)) := by
  intro r coef
  have hd : sp5 coef = Int32.ofNat k.val := own_deg coef k.val k.isLt (own_coef k c).1 (own_coef k c).2
  have hr : ∀ i, i < 32 → r.toBitVec.getLsbD i = (q.toBitVec.getLsbD i && decide (i < k.val)) := fun i hi => by
    show (q &&& own_M k.val).toBitVec.getLsbD i = _
    rw [Int32.toBitVec_and, BitVec.getLsbD_and, own_Mn2 k i hi]
  have hc : ∀ i, i < 32 → coef.toBitVec.getLsbD i = (decide (i = k.val) || (c.toBitVec.getLsbD i && decide (i < k.val))) := fun i hi => by
    show (own_P k.val ||| (c &&& own_M k.val)).toBitVec.getLsbD i = _
    rw [Int32.toBitVec_or, BitVec.getLsbD_or, Int32.toBitVec_and, BitVec.getLsbD_and, own_Mn2 k i hi, own_Pn2 k i hi]
  have hkk := k.isLt
  have hy : (r <<< ((1 : Int32) &&& 31)).toBitVec.getLsbD k.val = true ↔ (r.toBitVec.getLsbD (k.val - 1) = true ∧ 0 < k.val) := by
    rw [own_yb r k.val (by omega)]
    simp only [Bool.and_eq_true, decide_eq_true_eq]
    constructor
    · exact fun h => ⟨h.2, by omega⟩
    · exact fun h => ⟨by omega, h.1⟩
  have hA := own_zb (r <<< ((1 : Int32) &&& 31)) k
  unfold sp4
  rw [hd]
  constructor
  · intro h
    rw [if_pos (hA.mpr (hy.mpr h))]
    refine Int32.toBitVec_inj.mp (BitVec.eq_of_getLsbD_eq fun i hi => ?_)
    rw [Int32.toBitVec_xor, Int32.toBitVec_xor, BitVec.getLsbD_xor, BitVec.getLsbD_xor, Int32.toBitVec_and, Int32.toBitVec_and, BitVec.getLsbD_and, BitVec.getLsbD_and, own_Mn2 k i hi]
    by_cases q1 : i < k.val
    · simp [q1]
    · by_cases q2 : i = k.val
      · rw [q2, hy.mpr h, hc k.val (by omega)]; simp
      · rw [own_yb r i hi, hr (i - 1) (by omega), hc i hi]
        simp [q1, q2, show ¬ (i - 1 < k.val) by omega]
  · intro h
    rw [if_neg (fun z => h (hy.mp (hA.mp z)))]
    refine Int32.toBitVec_inj.mp (BitVec.eq_of_getLsbD_eq fun i hi => ?_)
    rw [Int32.toBitVec_and, BitVec.getLsbD_and, own_Mn2 k i hi]
    by_cases q1 : i < k.val
    · simp [q1]
    · by_cases q2 : i = k.val
      · rw [q2]
        have : (r <<< ((1 : Int32) &&& 31)).toBitVec.getLsbD k.val = false := by
          cases e : (r <<< ((1 : Int32) &&& 31)).toBitVec.getLsbD k.val
          · rfl
          · exact absurd (hy.mp e) h
        rw [this]; simp
      · rw [own_yb r i hi, hr (i - 1) (by omega)]
        simp [q1, show ¬ (i - 1 < k.val) by omega]
theorem own_law (p1 p2 p3 : Int32) : sp0 p1 p2 p3 = 1 := by
  have h1 := c_mask p1 2147483647 31 (by decide) (by decide)
  have h2 := (c_irem (p1 &&& 2147483647) 31 31 (by decide)).1 (by omega)
  obtain ⟨k, hk⟩ := own_fin ((p1 &&& 2147483647) % 31) 31 (by omega) (by omega)
  have e7 : v0_7 p1 p2 p3 = Int32.ofNat k.val := hk
  have e13 : v0_13 p1 p2 p3 = own_M k.val := by unfold v0_13; rw [e7]; rfl
  have e23 : v0_23 p1 p2 p3 = own_P k.val ||| (p2 &&& own_M k.val) := by unfold v0_23; rw [e7, e13]; rfl
  have e29 : v0_29 p1 p2 p3 = p3 &&& own_M k.val := by unfold v0_29; rw [e13]
  have e58 : v0_58 p1 p2 p3 = (((p3 &&& own_M k.val) <<< ((1 : Int32) &&& 31)) &&& own_M k.val) := by unfold v0_58; rw [e29, e13]
  obtain ⟨m1, m2⟩ := own_main k p2 p3
  unfold sp0
  rw [e7, e13, e23, e29, e58]
  by_cases hp : 0 < k.val
  · rw [if_pos ((own_pos k).mpr hp), own_Ps k hp]
    have hb := own_rb (p3 &&& own_M k.val) ⟨k.val - 1, by omega⟩
    by_cases hz : ((p3 &&& own_M k.val) &&& own_P (k.val - 1)) = (0 : Int32)
    · rw [if_pos hz]
      exact if_pos (m2 fun h => by have := hb.mp hz; rw [h.1] at this; cases this)
    · rw [if_neg hz]
      refine if_pos (m1 ⟨?_, hp⟩)
      cases e : (p3 &&& own_M k.val).toBitVec.getLsbD (k.val - 1)
      · exact absurd (hb.mpr e) hz
      · rfl
  · rw [if_neg (fun h => hp ((own_pos k).mp h))]
    exact if_pos (m2 fun h => hp h.2)
def Q2 (Z : State) (a1 : Addr) (h0 : Heap) (n0 : Nat) (v : Option Value) (h : Heap) (L : List Loc) : Prop := v = none ∧ Fr n0 L ∧ h = h0
set_option maxRecDepth 65536 in
set_option maxHeartbeats 40000000 in
theorem rm2 (l : Launch) (Z : State) (a0 : Array Value) (hw : ∀ d ∈ tables_1, d.before a0 Z = true) (ws : List Jvm.Cond) (a1 : Addr) (h0 : Heap) (n0 : Nat) (Z0 : n0 ≤ h0.size) :
    MetFree l (⟨"java/lang/Record", "<init>", "()V"⟩ : MethodName) (head1 (Jvm.Cond.code (⟨"java/lang/Record", "<init>", "()V"⟩ : MethodName) jdk_30_method_1_code 1 none :: ws) ({ frames := 1, cells := 0, slots := 0, locals := 12 } : Room)) (fun a U => a = #[(.ref a1)] ∧ Z.Warmed39 U.vm ∧ U.heap = h0) (fun _ _ _ _ _ => True) (fun _ U o U' => ∃ v L, o = .returned v ∧ Q2 Z a1 h0 n0 v U'.heap L ∧ FrameEnd U o U' L ({ frames := 1, cells := 0, slots := 0, locals := 12 } : Room).cells ({ frames := 1, cells := 0, slots := 0, locals := 12 } : Room).slots) := by
  refine MetFree.of_bodySF (plainFor_of_name pn_2) hisR ?_
  intro p e s m args below meth c s₁ Bd hml0 hP hK
  obtain ⟨rfl, hZ, hh⟩ := hP
  have hx := Bd.exec
  have hby := Bd.bytes
  have hml : c.maxLocals = 1 := hml0
  have hown : s.vm.findClass "java/lang/Record" = some m.cls := findClass_of_methodNamed Bd.named
  have hnm := (name_of_methodNamed Bd.named Bd.method).1
  have X0 : Stand p l e ({ frames := 1, cells := 0, slots := 0, locals := 12 } : Room) s m #[(.ref a1)] below meth c s₁ [] 0 0 := Stand.of_body Bd
  have e0 : s₁.heap = h0 := by rw [← hh, Bd.state]; rfl
  have N0 := Fr.nil n0
  have pre0 : ∀ t, Steps p.tables e below (s₁.setTop (mkF m 0 #[.val (.ref a1)] [])) t → Steps p.tables e below (s₁.setTop (entryFrame m #[(.ref a1)] 1)) t := fun t k => castTop (ef_2 m a1) k
  have pre1 : ∀ t, Steps p.tables e below (s₁.setTop (mkF m 0 #[.val (.ref a1)] [])) t → Steps p.tables e below (s₁.setTop (mkF m 0 #[.val (.ref a1)] [])) t := fun t k => k
  have k1 : ∀ t, Steps p.tables e below (s₁.setTop (mkF m 1 #[.val (.ref a1)] [(.ref a1)])) t → Steps p.tables e below (s₁.setTop (mkF m 0 #[.val (.ref a1)] [])) t := fun t kt => pre1 t (by
    show Steps p.tables e below (s₁.setTop (mkF m 0 #[.val (.ref a1)] [])) _
    refine XS.aloadN X0.here hx rfl (hb hby d2_0) rfl rfl ?_
    exact kt)
  obtain ⟨T2, X2, e2, st2⟩ := initO X0 hx hZ hown (hw _ (List.mem_of_getElem? (i := 12) rfl)) (hw _ (List.mem_of_getElem? (i := 13) rfl)) (hw _ (List.mem_of_getElem? (i := 14) rfl)) e0 (g := (mkF m 1 #[.val (.ref a1)] [(.ref a1)])) rfl (by rw [hml]; rfl) rfl (hb hby d2_1) (by decide) (W := 0) (by show 2 * 0 + _ ≤ _; exact Nat.le_of_eq rfl) (by decide)
  obtain ⟨fs, hr, hrun, hended, hW, hsame⟩ := X2.leave (v := none) (fun _ => rfl)
  refine ⟨_, _, pre0 _ (k1 _ ?_), hrun, hended, _, _, rfl, ?_, ⟨_, rfl⟩, hW, hsame.mono (by decide) (by decide)⟩
  · show Steps p.tables e below (s₁.setTop (mkF m 1 #[.val (.ref a1)] [(.ref a1)])) _
    refine st2 _ ?_
    show Steps p.tables e below (T2.setTop (mkF m 4 #[.val (.ref a1)] [])) _
    exact X2.returnOut hx Bd.returns (hb hby d2_4) hr
  · show Q2 Z a1 h0 n0 _ T2.heap _
    rw [e2]
    exact ⟨rfl, N0, rfl⟩
def Q1 (Z : State) (a1 : Addr) (p2 : Int32) (h0 : Heap) (n0 : Nat) (v : Option Value) (h : Heap) (L : List Loc) : Prop := v = none ∧ Fr n0 L ∧ Keep h0 h [a1] ∧ Exa Z h a1 "com/example/parity_lattice/paritylattice/Polynomial" ∧ Fld Z h a1 "com/example/parity_lattice/paritylattice/Polynomial" "coefficients" "I" (.int p2)
set_option maxRecDepth 65536 in
set_option maxHeartbeats 40000000 in
theorem rm1 (l : Launch) (Z : State) (a0 : Array Value) (hw : ∀ d ∈ tables_1, d.before a0 Z = true) (ws : List Jvm.Cond) (a1 : Addr) (p2 : Int32) (h0 : Heap) (n0 : Nat) (Z0 : n0 ≤ h0.size) (E0 : Exa Z h0 a1 "com/example/parity_lattice/paritylattice/Polynomial") (F0_coefficients : Fld Z h0 a1 "com/example/parity_lattice/paritylattice/Polynomial" "coefficients" "I" (.int (0 : Int32))) (g_a1 : n0 ≤ a1) :
    MetFree l (⟨"com/example/parity_lattice/paritylattice/Polynomial", "<init>", "(I)V"⟩ : MethodName) (head1 (Jvm.Cond.code (⟨"com/example/parity_lattice/paritylattice/Polynomial", "<init>", "(I)V"⟩ : MethodName) prog_26_method_1_code 2 none :: ws) ({ frames := 2, cells := 0, slots := 0, locals := 24 } : Room)) (fun a U => a = #[(.ref a1), (.int p2)] ∧ Z.Warmed39 U.vm ∧ U.heap = h0) (fun _ _ _ _ _ => True) (fun _ U o U' => ∃ v L, o = .returned v ∧ Q1 Z a1 p2 h0 n0 v U'.heap L ∧ FrameEnd U o U' L ({ frames := 2, cells := 0, slots := 0, locals := 24 } : Room).cells ({ frames := 2, cells := 0, slots := 0, locals := 24 } : Room).slots) := by
  refine MetFree.of_bodySF (plainFor_of_name pn_1) hisR ?_
  intro p e s m args below meth c s₁ Bd hml0 hP hK
  obtain ⟨rfl, hZ, hh⟩ := hP
  have hx := Bd.exec
  have hby := Bd.bytes
  have hml : c.maxLocals = 2 := hml0
  have hown : s.vm.findClass "com/example/parity_lattice/paritylattice/Polynomial" = some m.cls := findClass_of_methodNamed Bd.named
  have hnm := (name_of_methodNamed Bd.named Bd.method).1
  have X0 : Stand p l e ({ frames := 2, cells := 0, slots := 0, locals := 24 } : Room) s m #[(.ref a1), (.int p2)] below meth c s₁ [] 0 0 := Stand.of_body Bd
  have e0 : s₁.heap = h0 := by rw [← hh, Bd.state]; rfl
  have N0 := Fr.nil n0
  have pre0 : ∀ t, Steps p.tables e below (s₁.setTop (mkF m 0 #[.val (.ref a1), .val (.int p2)] [])) t → Steps p.tables e below (s₁.setTop (entryFrame m #[(.ref a1), (.int p2)] 2)) t := fun t k => castTop (ef_1 m a1 p2) k
  have pre1 : ∀ t, Steps p.tables e below (s₁.setTop (mkF m 0 #[.val (.ref a1), .val (.int p2)] [])) t → Steps p.tables e below (s₁.setTop (mkF m 0 #[.val (.ref a1), .val (.int p2)] [])) t := fun t k => k
  have k1 : ∀ t, Steps p.tables e below (s₁.setTop (mkF m 1 #[.val (.ref a1), .val (.int p2)] [(.ref a1)])) t → Steps p.tables e below (s₁.setTop (mkF m 0 #[.val (.ref a1), .val (.int p2)] [])) t := fun t kt => pre1 t (by
    show Steps p.tables e below (s₁.setTop (mkF m 0 #[.val (.ref a1), .val (.int p2)] [])) _
    refine XS.aloadN X0.here hx rfl (hb hby d1_0) rfl rfl ?_
    exact kt)
  obtain ⟨_, _, ⟨T2, L2, k2', n2⟩, -, X2, ⟨Lc2, hQ2, l2, y2, z2⟩, st2⟩ := X0.specialBack hx (y := (⟨"java/lang/Record", "<init>", "()V"⟩ : MethodName)) rfl hown (mvT hZ (hw _ (List.mem_of_getElem? (i := 7) rfl))) (mvT hZ (hw _ (List.mem_of_getElem? (i := 8) rfl))) (mvT hZ (hw _ (List.mem_of_getElem? (i := 11) rfl))) (by decide) (backOf (W := 0) (rm2 l Z a0 hw [] a1 h0 n0 Z0) hZ (hw _ (List.mem_of_getElem? (i := 11) rfl)) (hw _ (List.mem_of_getElem? (i := 10) rfl)) (by decide) (by decide)) (g := (mkF m 1 #[.val (.ref a1), .val (.int p2)] [(.ref a1)])) rfl (by rw [hml]; rfl) (Steps.refl _) (a := a1) (argsL := []) (rest := []) (lenOf pd1_0 rfl) rfl (by show 2 * 0 + _ ≤ _; exact Nat.le_of_eq rfl) (hb hby d1_1) (fun _ _ => ⟨rfl, e0, (by decide : 0 + 0 ≤ _), (by decide : 0 + 0 ≤ _)⟩)
  dsimp only [Pt.U, Pt.locs, Pt.cells, Pt.slots] at X2 l2 y2 z2 st2 hQ2
  subst l2 y2 z2
  obtain ⟨rfl, N2q, hh2⟩ := hQ2
  have N2 := Fr.app N0 N2q
  have k3 : ∀ t, Steps p.tables e below (T2.setTop (mkF m 6 #[.val (.ref a1), .val (.int p2)] [(.int p2), (.ref a1)])) t → Steps p.tables e below (s₁.setTop (mkF m 0 #[.val (.ref a1), .val (.int p2)] [])) t := fun t kt => k1 t (by
    show Steps p.tables e below (s₁.setTop (mkF m 1 #[.val (.ref a1), .val (.int p2)] [(.ref a1)])) _
    refine st2.trans ?_
    show Steps p.tables e below (T2.setTop (mkF m 4 #[.val (.ref a1), .val (.int p2)] [])) _
    refine XS.aloadN X2.here hx rfl (hb hby d1_4) rfl rfl ?_
    show Steps p.tables e below (T2.setTop (mkF m 5 #[.val (.ref a1), .val (.int p2)] [(.ref a1)])) _
    refine XS.iloadN X2.here hx rfl (hb hby d1_5) rfl ?_
    exact kt)
  obtain ⟨T4, h4, X4, e4, W4, st4⟩ := putF X2 hx hZ hown (host := "") (Or.inl (hw _ (List.mem_of_getElem? (i := 15) rfl))) Via.refl hh2 F0_coefficients E0 (Or.inr ⟨(hw _ (List.mem_of_getElem? (i := 16) rfl)), rfl, hnm⟩) (hw _ (List.mem_of_getElem? (i := 2) rfl)) (ty := .int) (by decide) rfl rfl (g := (mkF m 6 #[.val (.ref a1), .val (.int p2)] [(.int p2), (.ref a1)])) rfl rfl (hb hby d1_6)
  have Fw4 := F0_coefficients.same W4
  have f5 := E0.wr W4
  have K4 := (Keep.refl h0 [a1]).wr W4 (Or.inl (List.mem_of_getElem? (i := 0) rfl))
  have N4 := Fr.snoc X4 N2 g_a1
  have Z4 : n0 ≤ h4.size := Nat.le_trans Z0 (Keep.of_wr W4).1
  obtain ⟨fs, hr, hrun, hended, hW, hsame⟩ := X4.leave (v := none) (fun _ => rfl)
  refine ⟨_, _, pre0 _ (k3 _ ?_), hrun, hended, _, _, rfl, ?_, ⟨_, rfl⟩, hW, hsame.mono (by decide) (by decide)⟩
  · show Steps p.tables e below (T2.setTop (mkF m 6 #[.val (.ref a1), .val (.int p2)] [(.int p2), (.ref a1)])) _
    refine st4 _ ?_
    show Steps p.tables e below (T4.setTop (mkF m 9 #[.val (.ref a1), .val (.int p2)] [])) _
    exact X4.returnOut hx Bd.returns (hb hby d1_9) hr
  · show Q1 Z a1 p2 h0 n0 _ T4.heap _
    rw [e4]
    exact ⟨rfl, N4, K4, f5, Fw4⟩
def Q6 (Z : State) (p1 : Int32) (h0 : Heap) (n0 : Nat) (v : Option Value) (h : Heap) (L : List Loc) : Prop := v = some (.int (sp6 p1)) ∧ Fr n0 L ∧ h = h0
set_option maxRecDepth 65536 in
set_option maxHeartbeats 40000000 in
theorem rm6 (l : Launch) (Z : State) (a0 : Array Value) (hw : ∀ d ∈ tables_1, d.before a0 Z = true) (ws : List Jvm.Cond) (p1 : Int32) (h0 : Heap) (n0 : Nat) (Z0 : n0 ≤ h0.size) :
    MetFree l (⟨"java/lang/Integer", "numberOfLeadingZeros", "(I)I"⟩ : MethodName) (head1 (Jvm.Cond.code (⟨"java/lang/Integer", "numberOfLeadingZeros", "(I)I"⟩ : MethodName) jdk_33_method_47_code 2 (some .int) :: ws) ({ frames := 0, cells := 0, slots := 0, locals := 0 } : Room)) (fun a U => a = #[(.int p1)] ∧ Z.Warmed39 U.vm ∧ U.heap = h0) (fun _ _ _ _ _ => True) (fun _ U o U' => ∃ v L, o = .returned v ∧ Q6 Z p1 h0 n0 v U'.heap L ∧ FrameEnd U o U' L ({ frames := 0, cells := 0, slots := 0, locals := 0 } : Room).cells ({ frames := 0, cells := 0, slots := 0, locals := 0 } : Room).slots) := by
  refine MetFree.of_bodySF (plainFor_of_name pn_6) hisR ?_
  intro p e s m args below meth c s₁ Bd hml0 hP hK
  obtain ⟨rfl, hZ, hh⟩ := hP
  have hx := Bd.exec
  have hby := Bd.bytes
  have hml : c.maxLocals = 2 := hml0
  have hown : s.vm.findClass "java/lang/Integer" = some m.cls := findClass_of_methodNamed Bd.named
  have hnm := (name_of_methodNamed Bd.named Bd.method).1
  have X0 : Stand p l e ({ frames := 0, cells := 0, slots := 0, locals := 0 } : Room) s m #[(.int p1)] below meth c s₁ [] 0 0 := Stand.of_body Bd
  have e0 : s₁.heap = h0 := by rw [← hh, Bd.state]; rfl
  have N0 := Fr.nil n0
  have pre0 : ∀ t, Steps p.tables e below (s₁.setTop (mkF m 0 #[.val (.int p1), .unset] [])) t → Steps p.tables e below (s₁.setTop (entryFrame m #[(.int p1)] 2)) t := fun t k => castTop (ef_6 m p1) k
  have pre1 : ∀ t, Steps p.tables e below (s₁.setTop (mkF m 0 #[.val (.int p1), .unset] [])) t → Steps p.tables e below (s₁.setTop (mkF m 0 #[.val (.int p1), .unset] [])) t := fun t k => k
  have k2 : ∀ t, Steps p.tables e below (s₁.setTop (mkF m 1 #[.val (.int p1), .unset] [(.int p1)])) t → Steps p.tables e below (s₁.setTop (mkF m 0 #[.val (.int p1), .unset] [])) t := fun t kt => pre1 t (by
    show Steps p.tables e below (s₁.setTop (mkF m 0 #[.val (.int p1), .unset] [])) _
    refine XS.iloadN X0.here hx rfl (hb hby d6_0) rfl ?_
    exact kt)
  by_cases c1_1 : (0 : Int32) < p1
  · have k3 : ∀ t, Steps p.tables e below (s₁.setTop (mkF m 18 #[.val (.int p1), .val (.int (31 : Int32))] [])) t → Steps p.tables e below (s₁.setTop (mkF m 0 #[.val (.int p1), .unset] [])) t := fun t kt => k2 t (by
      show Steps p.tables e below (s₁.setTop (mkF m 1 #[.val (.int p1), .unset] [(.int p1)])) _
      refine XS.ifYes X0.here hx rfl (pc0 := 1) (pc' := 15) rfl (hb hby d6_1) rfl ((if0 _ _).trans (tlt c1_1).2.2.1) (by decide) (by decide) ?_
      show Steps p.tables e below (s₁.setTop (mkF m 15 #[.val (.int p1), .unset] [])) _
      refine XS.bipush X0.here hx rfl (hb hby d6_15) ?_
      show Steps p.tables e below (s₁.setTop (mkF m 17 #[.val (.int p1), .unset] [(.int (31 : Int32))])) _
      refine XS.istoreN X0.here hx rfl (hb hby d6_17) rfl (l' := #[.val (.int p1), .val (.int (31 : Int32))]) rfl ?_
      exact kt)
    have k5 : ∀ t, Steps p.tables e below (s₁.setTop (mkF m 33 #[.val (.int (j6_1_L0 p1)), .val (.int (j6_1_L1 p1))] [])) t → Steps p.tables e below (s₁.setTop (mkF m 0 #[.val (.int p1), .unset] [])) t := by
      intro t kt
      refine k3 t ?_
      by_cases c22_6 : p1 < (65536 : Int32)
      · rw [show j6_1_L0 p1 = p1 from by unfold j6_1_L0; rw [if_pos c22_6]] at kt
        rw [show j6_1_L1 p1 = (31 : Int32) from by unfold j6_1_L1; rw [if_pos c22_6]] at kt
        show Steps p.tables e below (s₁.setTop (mkF m 18 #[.val (.int p1), .val (.int (31 : Int32))] [])) _
        refine XS.iloadN X0.here hx rfl (hb hby d6_18) rfl ?_
        show Steps p.tables e below (s₁.setTop (mkF m 19 #[.val (.int p1), .val (.int (31 : Int32))] [(.int p1)])) _
        refine X0.ldcwInt hx hown (mvT hZ (hw _ (List.mem_of_getElem? (i := 31) rfl))) (g := (mkF m 19 #[.val (.int p1), .val (.int (31 : Int32))] [(.int p1)])) rfl (hb hby d6_19) _ ?_
        show Steps p.tables e below (s₁.setTop (mkF m 22 #[.val (.int p1), .val (.int (31 : Int32))] [(.int (65536 : Int32)), (.int p1)])) _
        refine XS.icmpYes X0.here hx rfl (pc0 := 22) (pc' := 33) rfl (hb hby d6_22) rfl (tlt c22_6).1 (by decide) (by decide) ?_
        exact kt
      · rw [show j6_1_L0 p1 = ((p1.toUInt32 >>> ((16 : Int32) &&& 31).toUInt32).toInt32) from by unfold j6_1_L0; rw [if_neg c22_6]] at kt
        rw [show j6_1_L1 p1 = (15 : Int32) from by unfold j6_1_L1; rw [if_neg c22_6]] at kt
        show Steps p.tables e below (s₁.setTop (mkF m 18 #[.val (.int p1), .val (.int (31 : Int32))] [])) _
        refine XS.iloadN X0.here hx rfl (hb hby d6_18) rfl ?_
        show Steps p.tables e below (s₁.setTop (mkF m 19 #[.val (.int p1), .val (.int (31 : Int32))] [(.int p1)])) _
        refine X0.ldcwInt hx hown (mvT hZ (hw _ (List.mem_of_getElem? (i := 31) rfl))) (g := (mkF m 19 #[.val (.int p1), .val (.int (31 : Int32))] [(.int p1)])) rfl (hb hby d6_19) _ ?_
        show Steps p.tables e below (s₁.setTop (mkF m 22 #[.val (.int p1), .val (.int (31 : Int32))] [(.int (65536 : Int32)), (.int p1)])) _
        refine XS.icmpNo X0.here hx rfl (hb hby d6_22) rfl (flt c22_6).1 ?_
        show Steps p.tables e below (s₁.setTop (mkF m 25 #[.val (.int p1), .val (.int (31 : Int32))] [])) _
        refine XS.iinc X0.here hx rfl (hb hby d6_25) rfl (l' := #[.val (.int p1), .val (.int (15 : Int32))]) rfl ?_
        show Steps p.tables e below (s₁.setTop (mkF m 28 #[.val (.int p1), .val (.int (15 : Int32))] [])) _
        refine XS.iloadN X0.here hx rfl (hb hby d6_28) rfl ?_
        show Steps p.tables e below (s₁.setTop (mkF m 29 #[.val (.int p1), .val (.int (15 : Int32))] [(.int p1)])) _
        refine XS.bipush X0.here hx rfl (hb hby d6_29) ?_
        show Steps p.tables e below (s₁.setTop (mkF m 31 #[.val (.int p1), .val (.int (15 : Int32))] [(.int (16 : Int32)), (.int p1)])) _
        refine XS.iushr X0.here hx rfl (hb hby d6_31) rfl ?_
        show Steps p.tables e below (s₁.setTop (mkF m 32 #[.val (.int p1), .val (.int (15 : Int32))] [(.int ((p1.toUInt32 >>> ((16 : Int32) &&& 31).toUInt32).toInt32))])) _
        refine XS.istoreN X0.here hx rfl (hb hby d6_32) rfl (l' := #[.val (.int ((p1.toUInt32 >>> ((16 : Int32) &&& 31).toUInt32).toInt32)), .val (.int (15 : Int32))]) rfl ?_
        exact kt
    have k8 : ∀ t, Steps p.tables e below (s₁.setTop (mkF m 48 #[.val (.int (j6_2_L0 p1)), .val (.int (j6_2_L1 p1))] [])) t → Steps p.tables e below (s₁.setTop (mkF m 0 #[.val (.int p1), .unset] [])) t := by
      intro t kt
      refine k5 t ?_
      by_cases c37_9 : (j6_1_L0 p1) < (256 : Int32)
      · rw [show j6_2_L0 p1 = (j6_1_L0 p1) from by unfold j6_2_L0; rw [if_pos c37_9]] at kt
        rw [show j6_2_L1 p1 = (j6_1_L1 p1) from by unfold j6_2_L1; rw [if_pos c37_9]] at kt
        show Steps p.tables e below (s₁.setTop (mkF m 33 #[.val (.int (j6_1_L0 p1)), .val (.int (j6_1_L1 p1))] [])) _
        refine XS.iloadN X0.here hx rfl (hb hby d6_33) rfl ?_
        show Steps p.tables e below (s₁.setTop (mkF m 34 #[.val (.int (j6_1_L0 p1)), .val (.int (j6_1_L1 p1))] [(.int (j6_1_L0 p1))])) _
        refine XS.sipush X0.here hx rfl (hb hby d6_34) ?_
        show Steps p.tables e below (s₁.setTop (mkF m 37 #[.val (.int (j6_1_L0 p1)), .val (.int (j6_1_L1 p1))] [(.int (256 : Int32)), (.int (j6_1_L0 p1))])) _
        refine XS.icmpYes X0.here hx rfl (pc0 := 37) (pc' := 48) rfl (hb hby d6_37) rfl (tlt c37_9).1 (by decide) (by decide) ?_
        exact kt
      · rw [show j6_2_L0 p1 = (((j6_1_L0 p1).toUInt32 >>> ((8 : Int32) &&& 31).toUInt32).toInt32) from by unfold j6_2_L0; rw [if_neg c37_9]] at kt
        rw [show j6_2_L1 p1 = ((j6_1_L1 p1) + (-8 : Int32)) from by unfold j6_2_L1; rw [if_neg c37_9]] at kt
        show Steps p.tables e below (s₁.setTop (mkF m 33 #[.val (.int (j6_1_L0 p1)), .val (.int (j6_1_L1 p1))] [])) _
        refine XS.iloadN X0.here hx rfl (hb hby d6_33) rfl ?_
        show Steps p.tables e below (s₁.setTop (mkF m 34 #[.val (.int (j6_1_L0 p1)), .val (.int (j6_1_L1 p1))] [(.int (j6_1_L0 p1))])) _
        refine XS.sipush X0.here hx rfl (hb hby d6_34) ?_
        show Steps p.tables e below (s₁.setTop (mkF m 37 #[.val (.int (j6_1_L0 p1)), .val (.int (j6_1_L1 p1))] [(.int (256 : Int32)), (.int (j6_1_L0 p1))])) _
        refine XS.icmpNo X0.here hx rfl (hb hby d6_37) rfl (flt c37_9).1 ?_
        show Steps p.tables e below (s₁.setTop (mkF m 40 #[.val (.int (j6_1_L0 p1)), .val (.int (j6_1_L1 p1))] [])) _
        refine XS.iinc X0.here hx rfl (hb hby d6_40) rfl (l' := #[.val (.int (j6_1_L0 p1)), .val (.int ((j6_1_L1 p1) + (-8 : Int32)))]) rfl ?_
        show Steps p.tables e below (s₁.setTop (mkF m 43 #[.val (.int (j6_1_L0 p1)), .val (.int ((j6_1_L1 p1) + (-8 : Int32)))] [])) _
        refine XS.iloadN X0.here hx rfl (hb hby d6_43) rfl ?_
        show Steps p.tables e below (s₁.setTop (mkF m 44 #[.val (.int (j6_1_L0 p1)), .val (.int ((j6_1_L1 p1) + (-8 : Int32)))] [(.int (j6_1_L0 p1))])) _
        refine XS.bipush X0.here hx rfl (hb hby d6_44) ?_
        show Steps p.tables e below (s₁.setTop (mkF m 46 #[.val (.int (j6_1_L0 p1)), .val (.int ((j6_1_L1 p1) + (-8 : Int32)))] [(.int (8 : Int32)), (.int (j6_1_L0 p1))])) _
        refine XS.iushr X0.here hx rfl (hb hby d6_46) rfl ?_
        show Steps p.tables e below (s₁.setTop (mkF m 47 #[.val (.int (j6_1_L0 p1)), .val (.int ((j6_1_L1 p1) + (-8 : Int32)))] [(.int (((j6_1_L0 p1).toUInt32 >>> ((8 : Int32) &&& 31).toUInt32).toInt32))])) _
        refine XS.istoreN X0.here hx rfl (hb hby d6_47) rfl (l' := #[.val (.int (((j6_1_L0 p1).toUInt32 >>> ((8 : Int32) &&& 31).toUInt32).toInt32)), .val (.int ((j6_1_L1 p1) + (-8 : Int32)))]) rfl ?_
        exact kt
    have k11 : ∀ t, Steps p.tables e below (s₁.setTop (mkF m 61 #[.val (.int (j6_3_L0 p1)), .val (.int (j6_3_L1 p1))] [])) t → Steps p.tables e below (s₁.setTop (mkF m 0 #[.val (.int p1), .unset] [])) t := by
      intro t kt
      refine k8 t ?_
      by_cases c51_12 : (j6_2_L0 p1) < (16 : Int32)
      · rw [show j6_3_L0 p1 = (j6_2_L0 p1) from by unfold j6_3_L0; rw [if_pos c51_12]] at kt
        rw [show j6_3_L1 p1 = (j6_2_L1 p1) from by unfold j6_3_L1; rw [if_pos c51_12]] at kt
        show Steps p.tables e below (s₁.setTop (mkF m 48 #[.val (.int (j6_2_L0 p1)), .val (.int (j6_2_L1 p1))] [])) _
        refine XS.iloadN X0.here hx rfl (hb hby d6_48) rfl ?_
        show Steps p.tables e below (s₁.setTop (mkF m 49 #[.val (.int (j6_2_L0 p1)), .val (.int (j6_2_L1 p1))] [(.int (j6_2_L0 p1))])) _
        refine XS.bipush X0.here hx rfl (hb hby d6_49) ?_
        show Steps p.tables e below (s₁.setTop (mkF m 51 #[.val (.int (j6_2_L0 p1)), .val (.int (j6_2_L1 p1))] [(.int (16 : Int32)), (.int (j6_2_L0 p1))])) _
        refine XS.icmpYes X0.here hx rfl (pc0 := 51) (pc' := 61) rfl (hb hby d6_51) rfl (tlt c51_12).1 (by decide) (by decide) ?_
        exact kt
      · rw [show j6_3_L0 p1 = (((j6_2_L0 p1).toUInt32 >>> ((4 : Int32) &&& 31).toUInt32).toInt32) from by unfold j6_3_L0; rw [if_neg c51_12]] at kt
        rw [show j6_3_L1 p1 = ((j6_2_L1 p1) + (-4 : Int32)) from by unfold j6_3_L1; rw [if_neg c51_12]] at kt
        show Steps p.tables e below (s₁.setTop (mkF m 48 #[.val (.int (j6_2_L0 p1)), .val (.int (j6_2_L1 p1))] [])) _
        refine XS.iloadN X0.here hx rfl (hb hby d6_48) rfl ?_
        show Steps p.tables e below (s₁.setTop (mkF m 49 #[.val (.int (j6_2_L0 p1)), .val (.int (j6_2_L1 p1))] [(.int (j6_2_L0 p1))])) _
        refine XS.bipush X0.here hx rfl (hb hby d6_49) ?_
        show Steps p.tables e below (s₁.setTop (mkF m 51 #[.val (.int (j6_2_L0 p1)), .val (.int (j6_2_L1 p1))] [(.int (16 : Int32)), (.int (j6_2_L0 p1))])) _
        refine XS.icmpNo X0.here hx rfl (hb hby d6_51) rfl (flt c51_12).1 ?_
        show Steps p.tables e below (s₁.setTop (mkF m 54 #[.val (.int (j6_2_L0 p1)), .val (.int (j6_2_L1 p1))] [])) _
        refine XS.iinc X0.here hx rfl (hb hby d6_54) rfl (l' := #[.val (.int (j6_2_L0 p1)), .val (.int ((j6_2_L1 p1) + (-4 : Int32)))]) rfl ?_
        show Steps p.tables e below (s₁.setTop (mkF m 57 #[.val (.int (j6_2_L0 p1)), .val (.int ((j6_2_L1 p1) + (-4 : Int32)))] [])) _
        refine XS.iloadN X0.here hx rfl (hb hby d6_57) rfl ?_
        show Steps p.tables e below (s₁.setTop (mkF m 58 #[.val (.int (j6_2_L0 p1)), .val (.int ((j6_2_L1 p1) + (-4 : Int32)))] [(.int (j6_2_L0 p1))])) _
        refine XS.iconst X0.here hx rfl (hb hby d6_58) ?_
        show Steps p.tables e below (s₁.setTop (mkF m 59 #[.val (.int (j6_2_L0 p1)), .val (.int ((j6_2_L1 p1) + (-4 : Int32)))] [(.int (4 : Int32)), (.int (j6_2_L0 p1))])) _
        refine XS.iushr X0.here hx rfl (hb hby d6_59) rfl ?_
        show Steps p.tables e below (s₁.setTop (mkF m 60 #[.val (.int (j6_2_L0 p1)), .val (.int ((j6_2_L1 p1) + (-4 : Int32)))] [(.int (((j6_2_L0 p1).toUInt32 >>> ((4 : Int32) &&& 31).toUInt32).toInt32))])) _
        refine XS.istoreN X0.here hx rfl (hb hby d6_60) rfl (l' := #[.val (.int (((j6_2_L0 p1).toUInt32 >>> ((4 : Int32) &&& 31).toUInt32).toInt32)), .val (.int ((j6_2_L1 p1) + (-4 : Int32)))]) rfl ?_
        exact kt
    have k14 : ∀ t, Steps p.tables e below (s₁.setTop (mkF m 73 #[.val (.int (j6_4_L0 p1)), .val (.int (j6_4_L1 p1))] [])) t → Steps p.tables e below (s₁.setTop (mkF m 0 #[.val (.int p1), .unset] [])) t := by
      intro t kt
      refine k11 t ?_
      by_cases c63_15 : (j6_3_L0 p1) < (4 : Int32)
      · rw [show j6_4_L0 p1 = (j6_3_L0 p1) from by unfold j6_4_L0; rw [if_pos c63_15]] at kt
        rw [show j6_4_L1 p1 = (j6_3_L1 p1) from by unfold j6_4_L1; rw [if_pos c63_15]] at kt
        show Steps p.tables e below (s₁.setTop (mkF m 61 #[.val (.int (j6_3_L0 p1)), .val (.int (j6_3_L1 p1))] [])) _
        refine XS.iloadN X0.here hx rfl (hb hby d6_61) rfl ?_
        show Steps p.tables e below (s₁.setTop (mkF m 62 #[.val (.int (j6_3_L0 p1)), .val (.int (j6_3_L1 p1))] [(.int (j6_3_L0 p1))])) _
        refine XS.iconst X0.here hx rfl (hb hby d6_62) ?_
        show Steps p.tables e below (s₁.setTop (mkF m 63 #[.val (.int (j6_3_L0 p1)), .val (.int (j6_3_L1 p1))] [(.int (4 : Int32)), (.int (j6_3_L0 p1))])) _
        refine XS.icmpYes X0.here hx rfl (pc0 := 63) (pc' := 73) rfl (hb hby d6_63) rfl (tlt c63_15).1 (by decide) (by decide) ?_
        exact kt
      · rw [show j6_4_L0 p1 = (((j6_3_L0 p1).toUInt32 >>> ((2 : Int32) &&& 31).toUInt32).toInt32) from by unfold j6_4_L0; rw [if_neg c63_15]] at kt
        rw [show j6_4_L1 p1 = ((j6_3_L1 p1) + (-2 : Int32)) from by unfold j6_4_L1; rw [if_neg c63_15]] at kt
        show Steps p.tables e below (s₁.setTop (mkF m 61 #[.val (.int (j6_3_L0 p1)), .val (.int (j6_3_L1 p1))] [])) _
        refine XS.iloadN X0.here hx rfl (hb hby d6_61) rfl ?_
        show Steps p.tables e below (s₁.setTop (mkF m 62 #[.val (.int (j6_3_L0 p1)), .val (.int (j6_3_L1 p1))] [(.int (j6_3_L0 p1))])) _
        refine XS.iconst X0.here hx rfl (hb hby d6_62) ?_
        show Steps p.tables e below (s₁.setTop (mkF m 63 #[.val (.int (j6_3_L0 p1)), .val (.int (j6_3_L1 p1))] [(.int (4 : Int32)), (.int (j6_3_L0 p1))])) _
        refine XS.icmpNo X0.here hx rfl (hb hby d6_63) rfl (flt c63_15).1 ?_
        show Steps p.tables e below (s₁.setTop (mkF m 66 #[.val (.int (j6_3_L0 p1)), .val (.int (j6_3_L1 p1))] [])) _
        refine XS.iinc X0.here hx rfl (hb hby d6_66) rfl (l' := #[.val (.int (j6_3_L0 p1)), .val (.int ((j6_3_L1 p1) + (-2 : Int32)))]) rfl ?_
        show Steps p.tables e below (s₁.setTop (mkF m 69 #[.val (.int (j6_3_L0 p1)), .val (.int ((j6_3_L1 p1) + (-2 : Int32)))] [])) _
        refine XS.iloadN X0.here hx rfl (hb hby d6_69) rfl ?_
        show Steps p.tables e below (s₁.setTop (mkF m 70 #[.val (.int (j6_3_L0 p1)), .val (.int ((j6_3_L1 p1) + (-2 : Int32)))] [(.int (j6_3_L0 p1))])) _
        refine XS.iconst X0.here hx rfl (hb hby d6_70) ?_
        show Steps p.tables e below (s₁.setTop (mkF m 71 #[.val (.int (j6_3_L0 p1)), .val (.int ((j6_3_L1 p1) + (-2 : Int32)))] [(.int (2 : Int32)), (.int (j6_3_L0 p1))])) _
        refine XS.iushr X0.here hx rfl (hb hby d6_71) rfl ?_
        show Steps p.tables e below (s₁.setTop (mkF m 72 #[.val (.int (j6_3_L0 p1)), .val (.int ((j6_3_L1 p1) + (-2 : Int32)))] [(.int (((j6_3_L0 p1).toUInt32 >>> ((2 : Int32) &&& 31).toUInt32).toInt32))])) _
        refine XS.istoreN X0.here hx rfl (hb hby d6_72) rfl (l' := #[.val (.int (((j6_3_L0 p1).toUInt32 >>> ((2 : Int32) &&& 31).toUInt32).toInt32)), .val (.int ((j6_3_L1 p1) + (-2 : Int32)))]) rfl ?_
        exact kt
    obtain ⟨fs, hr, hrun, hended, hW, hsame⟩ := X0.leave (v := some (.int ((j6_4_L1 p1) - (((j6_4_L0 p1).toUInt32 >>> ((1 : Int32) &&& 31).toUInt32).toInt32)))) (fun h => by rw [Bd.returns] at h; cases h)
    refine ⟨_, _, pre0 _ (k14 _ ?_), hrun, hended, _, _, rfl, ?_, ⟨_, rfl⟩, hW, hsame.mono (by decide) (by decide)⟩
    · show Steps p.tables e below (s₁.setTop (mkF m 73 #[.val (.int (j6_4_L0 p1)), .val (.int (j6_4_L1 p1))] [])) _
      refine XS.iloadN X0.here hx rfl (hb hby d6_73) rfl ?_
      show Steps p.tables e below (s₁.setTop (mkF m 74 #[.val (.int (j6_4_L0 p1)), .val (.int (j6_4_L1 p1))] [(.int (j6_4_L1 p1))])) _
      refine XS.iloadN X0.here hx rfl (hb hby d6_74) rfl ?_
      show Steps p.tables e below (s₁.setTop (mkF m 75 #[.val (.int (j6_4_L0 p1)), .val (.int (j6_4_L1 p1))] [(.int (j6_4_L0 p1)), (.int (j6_4_L1 p1))])) _
      refine XS.iconst X0.here hx rfl (hb hby d6_75) ?_
      show Steps p.tables e below (s₁.setTop (mkF m 76 #[.val (.int (j6_4_L0 p1)), .val (.int (j6_4_L1 p1))] [(.int (1 : Int32)), (.int (j6_4_L0 p1)), (.int (j6_4_L1 p1))])) _
      refine XS.iushr X0.here hx rfl (hb hby d6_76) rfl ?_
      show Steps p.tables e below (s₁.setTop (mkF m 77 #[.val (.int (j6_4_L0 p1)), .val (.int (j6_4_L1 p1))] [(.int (((j6_4_L0 p1).toUInt32 >>> ((1 : Int32) &&& 31).toUInt32).toInt32)), (.int (j6_4_L1 p1))])) _
      refine XS.isub X0.here hx rfl (hb hby d6_77) rfl ?_
      show Steps p.tables e below (s₁.setTop (mkF m 78 #[.val (.int (j6_4_L0 p1)), .val (.int (j6_4_L1 p1))] [(.int ((j6_4_L1 p1) - (((j6_4_L0 p1).toUInt32 >>> ((1 : Int32) &&& 31).toUInt32).toInt32)))])) _
      exact retI X0 hx Bd.returns (hb hby d6_78) hr
    · show Q6 Z p1 h0 n0 _ s₁.heap _
      rw [e0]
      have hv : sp6 p1 = ((j6_4_L1 p1) - (((j6_4_L0 p1).toUInt32 >>> ((1 : Int32) &&& 31).toUInt32).toInt32)) := by unfold sp6; rw [if_pos c1_1]
      exact ⟨by rw [hv], N0, rfl⟩
  · have k17 : ∀ t, Steps p.tables e below (s₁.setTop (mkF m 5 #[.val (.int p1), .unset] [(.int p1)])) t → Steps p.tables e below (s₁.setTop (mkF m 0 #[.val (.int p1), .unset] [])) t := fun t kt => k2 t (by
      show Steps p.tables e below (s₁.setTop (mkF m 1 #[.val (.int p1), .unset] [(.int p1)])) _
      refine XS.ifNo X0.here hx rfl (hb hby d6_1) rfl ((if0 _ _).trans (flt c1_1).2.2.1) ?_
      show Steps p.tables e below (s₁.setTop (mkF m 4 #[.val (.int p1), .unset] [])) _
      refine XS.iloadN X0.here hx rfl (hb hby d6_4) rfl ?_
      exact kt)
    by_cases c5_16 : p1 = (0 : Int32)
    · obtain ⟨fs, hr, hrun, hended, hW, hsame⟩ := X0.leave (v := some (.int (32 : Int32))) (fun h => by rw [Bd.returns] at h; cases h)
      refine ⟨_, _, pre0 _ (k17 _ ?_), hrun, hended, _, _, rfl, ?_, ⟨_, rfl⟩, hW, hsame.mono (by decide) (by decide)⟩
      · show Steps p.tables e below (s₁.setTop (mkF m 5 #[.val (.int p1), .unset] [(.int p1)])) _
        refine XS.ifNo X0.here hx rfl (hb hby d6_5) rfl ((if0 _ _).trans (teq c5_16).2) ?_
        show Steps p.tables e below (s₁.setTop (mkF m 8 #[.val (.int p1), .unset] [])) _
        refine XS.bipush X0.here hx rfl (hb hby d6_8) ?_
        show Steps p.tables e below (s₁.setTop (mkF m 10 #[.val (.int p1), .unset] [(.int (32 : Int32))])) _
        refine XS.goto X0.here hx rfl (pc0 := 10) (pc' := 14) rfl (hb hby d6_10) (by decide) (by decide) ?_
        show Steps p.tables e below (s₁.setTop (mkF m 14 #[.val (.int p1), .unset] [(.int (32 : Int32))])) _
        exact retI X0 hx Bd.returns (hb hby d6_14) hr
      · show Q6 Z p1 h0 n0 _ s₁.heap _
        rw [e0]
        have hv : sp6 p1 = (32 : Int32) := by unfold sp6; rw [if_neg c1_1, if_pos c5_16]
        exact ⟨by rw [hv], N0, rfl⟩
    · obtain ⟨fs, hr, hrun, hended, hW, hsame⟩ := X0.leave (v := some (.int (0 : Int32))) (fun h => by rw [Bd.returns] at h; cases h)
      refine ⟨_, _, pre0 _ (k17 _ ?_), hrun, hended, _, _, rfl, ?_, ⟨_, rfl⟩, hW, hsame.mono (by decide) (by decide)⟩
      · show Steps p.tables e below (s₁.setTop (mkF m 5 #[.val (.int p1), .unset] [(.int p1)])) _
        refine XS.ifYes X0.here hx rfl (pc0 := 5) (pc' := 13) rfl (hb hby d6_5) rfl ((if0 _ _).trans (feq c5_16).2) (by decide) (by decide) ?_
        show Steps p.tables e below (s₁.setTop (mkF m 13 #[.val (.int p1), .unset] [])) _
        refine XS.iconst X0.here hx rfl (hb hby d6_13) ?_
        show Steps p.tables e below (s₁.setTop (mkF m 14 #[.val (.int p1), .unset] [(.int (0 : Int32))])) _
        exact retI X0 hx Bd.returns (hb hby d6_14) hr
      · show Q6 Z p1 h0 n0 _ s₁.heap _
        rw [e0]
        have hv : sp6 p1 = (0 : Int32) := by unfold sp6; rw [if_neg c1_1, if_neg c5_16]
        exact ⟨by rw [hv], N0, rfl⟩
def Q5 (Z : State) (a1 : Addr) (w_coefficients : Int32) (h0 : Heap) (n0 : Nat) (v : Option Value) (h : Heap) (L : List Loc) : Prop := v = some (.int (sp5 w_coefficients)) ∧ Fr n0 L ∧ h = h0
set_option maxRecDepth 65536 in
set_option maxHeartbeats 40000000 in
theorem rm5 (l : Launch) (Z : State) (a0 : Array Value) (hw : ∀ d ∈ tables_1, d.before a0 Z = true) (ws : List Jvm.Cond) (a1 : Addr) (w_coefficients : Int32) (h0 : Heap) (n0 : Nat) (Z0 : n0 ≤ h0.size) (E0 : Exa Z h0 a1 "com/example/parity_lattice/paritylattice/Polynomial") (F0_coefficients : Fld Z h0 a1 "com/example/parity_lattice/paritylattice/Polynomial" "coefficients" "I" (.int w_coefficients)) :
    MetFree l (⟨"com/example/parity_lattice/paritylattice/Polynomial", "degree", "()I"⟩ : MethodName) (head1 (Jvm.Cond.code (⟨"com/example/parity_lattice/paritylattice/Polynomial", "degree", "()I"⟩ : MethodName) prog_26_method_4_code 1 (some .int) :: ws) ({ frames := 1, cells := 0, slots := 0, locals := 14 } : Room)) (fun a U => a = #[(.ref a1)] ∧ Z.Warmed39 U.vm ∧ U.heap = h0) (fun _ _ _ _ _ => True) (fun _ U o U' => ∃ v L, o = .returned v ∧ Q5 Z a1 w_coefficients h0 n0 v U'.heap L ∧ FrameEnd U o U' L ({ frames := 1, cells := 0, slots := 0, locals := 14 } : Room).cells ({ frames := 1, cells := 0, slots := 0, locals := 14 } : Room).slots) := by
  refine MetFree.of_bodySF (plainFor_of_name pn_5) hisR ?_
  intro p e s m args below meth c s₁ Bd hml0 hP hK
  obtain ⟨rfl, hZ, hh⟩ := hP
  have hx := Bd.exec
  have hby := Bd.bytes
  have hml : c.maxLocals = 1 := hml0
  have hown : s.vm.findClass "com/example/parity_lattice/paritylattice/Polynomial" = some m.cls := findClass_of_methodNamed Bd.named
  have hnm := (name_of_methodNamed Bd.named Bd.method).1
  have X0 : Stand p l e ({ frames := 1, cells := 0, slots := 0, locals := 14 } : Room) s m #[(.ref a1)] below meth c s₁ [] 0 0 := Stand.of_body Bd
  have e0 : s₁.heap = h0 := by rw [← hh, Bd.state]; rfl
  have N0 := Fr.nil n0
  have pre0 : ∀ t, Steps p.tables e below (s₁.setTop (mkF m 0 #[.val (.ref a1)] [])) t → Steps p.tables e below (s₁.setTop (entryFrame m #[(.ref a1)] 1)) t := fun t k => castTop (ef_5 m a1) k
  have pre1 : ∀ t, Steps p.tables e below (s₁.setTop (mkF m 0 #[.val (.ref a1)] [])) t → Steps p.tables e below (s₁.setTop (mkF m 0 #[.val (.ref a1)] [])) t := fun t k => k
  have k1 : ∀ t, Steps p.tables e below (s₁.setTop (mkF m 3 #[.val (.ref a1)] [(.ref a1), (.int (31 : Int32))])) t → Steps p.tables e below (s₁.setTop (mkF m 0 #[.val (.ref a1)] [])) t := fun t kt => pre1 t (by
    show Steps p.tables e below (s₁.setTop (mkF m 0 #[.val (.ref a1)] [])) _
    refine XS.bipush X0.here hx rfl (hb hby d5_0) ?_
    show Steps p.tables e below (s₁.setTop (mkF m 2 #[.val (.ref a1)] [(.int (31 : Int32))])) _
    refine XS.aloadN X0.here hx rfl (hb hby d5_2) rfl rfl ?_
    exact kt)
  obtain ⟨T2, X2, e2, st2⟩ := getF X0 hx hZ hown (host := "") (Or.inl (hw _ (List.mem_of_getElem? (i := 15) rfl))) Via.refl e0 F0_coefficients (g := (mkF m 3 #[.val (.ref a1)] [(.ref a1), (.int (31 : Int32))])) rfl rfl (hb hby d5_3)
  have k3 : ∀ t, Steps p.tables e below (T2.setTop (mkF m 6 #[.val (.ref a1)] [(.int w_coefficients), (.int (31 : Int32))])) t → Steps p.tables e below (s₁.setTop (mkF m 0 #[.val (.ref a1)] [])) t := fun t kt => k1 t (by
    show Steps p.tables e below (s₁.setTop (mkF m 3 #[.val (.ref a1)] [(.ref a1), (.int (31 : Int32))])) _
    refine st2 _ ?_
    exact kt)
  obtain ⟨_, _, ⟨T4, L4, k4', n4⟩, -, X4, ⟨Lc4, hQ4, l4, y4, z4⟩, st4⟩ := Jvm.LawKit.callS X2 hx (y := (⟨"java/lang/Integer", "numberOfLeadingZeros", "(I)I"⟩ : MethodName)) hown (mvT hZ (hw _ (List.mem_of_getElem? (i := 27) rfl))) (mvT hZ (hw _ (List.mem_of_getElem? (i := 28) rfl))) (mvT hZ (hw _ (List.mem_of_getElem? (i := 29) rfl))) (mvT hZ (hw _ (List.mem_of_getElem? (i := 30) rfl))) (by decide) (backOf (W := 1) (rm6 l Z a0 hw [] w_coefficients h0 n0 Z0) hZ (hw _ (List.mem_of_getElem? (i := 30) rfl)) (hw _ (List.mem_of_getElem? (i := 29) rfl)) (by decide) (by decide)) (g := (mkF m 6 #[.val (.ref a1)] [(.int w_coefficients), (.int (31 : Int32))])) rfl (by rw [hml]; rfl) (argsL := [(.int w_coefficients)]) (rest := [(.int (31 : Int32))]) (lenOf pd5_0 rfl) rfl (by show 2 * 0 + _ ≤ _; exact Nat.le_of_eq rfl) (hb hby d5_6) (fun _ _ => ⟨rfl, e2, (by decide : 0 + 0 ≤ _), (by decide : 0 + 0 ≤ _)⟩)
  dsimp only [Pt.U, Pt.locs, Pt.cells, Pt.slots] at X4 l4 y4 z4 st4 hQ4
  subst l4 y4 z4
  obtain ⟨rfl, N4q, hh4⟩ := hQ4
  have N4 := Fr.app N0 N4q
  obtain ⟨fs, hr, hrun, hended, hW, hsame⟩ := X4.leave (v := some (.int ((31 : Int32) - (sp6 w_coefficients)))) (fun h => by rw [Bd.returns] at h; cases h)
  refine ⟨_, _, pre0 _ (k3 _ ?_), hrun, hended, _, _, rfl, ?_, ⟨_, rfl⟩, hW, hsame.mono (by decide) (by decide)⟩
  · show Steps p.tables e below (T2.setTop (mkF m 6 #[.val (.ref a1)] [(.int w_coefficients), (.int (31 : Int32))])) _
    refine st4 _ ?_
    show Steps p.tables e below (T4.setTop (mkF m 9 #[.val (.ref a1)] [(.int (sp6 w_coefficients)), (.int (31 : Int32))])) _
    refine XS.isub X4.here hx rfl (hb hby d5_9) rfl ?_
    show Steps p.tables e below (T4.setTop (mkF m 10 #[.val (.ref a1)] [(.int ((31 : Int32) - (sp6 w_coefficients)))])) _
    exact retI X4 hx Bd.returns (hb hby d5_10) hr
  · show Q5 Z a1 w_coefficients h0 n0 _ T4.heap _
    rw [hh4]
    have hv : sp5 w_coefficients = ((31 : Int32) - (sp6 w_coefficients)) := by unfold sp5; rfl
    exact ⟨by rw [hv], N4, rfl⟩
def Q4 (Z : State) (a1 : Addr) (p2 : Int32) (w_coefficients : Int32) (h0 : Heap) (n0 : Nat) (v : Option Value) (h : Heap) (L : List Loc) : Prop := v = some (.int (sp4 p2 w_coefficients)) ∧ Fr n0 L ∧ h = h0
set_option maxRecDepth 65536 in
set_option maxHeartbeats 40000000 in
theorem rm4 (l : Launch) (Z : State) (a0 : Array Value) (hw : ∀ d ∈ tables_1, d.before a0 Z = true) (ws : List Jvm.Cond) (a1 : Addr) (p2 : Int32) (w_coefficients : Int32) (h0 : Heap) (n0 : Nat) (Z0 : n0 ≤ h0.size) (E0 : Exa Z h0 a1 "com/example/parity_lattice/paritylattice/Polynomial") (F0_coefficients : Fld Z h0 a1 "com/example/parity_lattice/paritylattice/Polynomial" "coefficients" "I" (.int w_coefficients)) :
    MetFree l (⟨"com/example/parity_lattice/paritylattice/Polynomial", "timesX", "(I)I"⟩ : MethodName) (head1 (Jvm.Cond.code (⟨"com/example/parity_lattice/paritylattice/Polynomial", "timesX", "(I)I"⟩ : MethodName) prog_26_method_5_code 3 (some .int) :: ws) ({ frames := 2, cells := 0, slots := 0, locals := 27 } : Room)) (fun a U => a = #[(.ref a1), (.int p2)] ∧ Z.Warmed39 U.vm ∧ U.heap = h0) (fun _ _ _ _ _ => True) (fun _ U o U' => ∃ v L, o = .returned v ∧ Q4 Z a1 p2 w_coefficients h0 n0 v U'.heap L ∧ FrameEnd U o U' L ({ frames := 2, cells := 0, slots := 0, locals := 27 } : Room).cells ({ frames := 2, cells := 0, slots := 0, locals := 27 } : Room).slots) := by
  refine MetFree.of_bodySF (plainFor_of_name pn_4) hisR ?_
  intro p e s m args below meth c s₁ Bd hml0 hP hK
  obtain ⟨rfl, hZ, hh⟩ := hP
  have hx := Bd.exec
  have hby := Bd.bytes
  have hml : c.maxLocals = 3 := hml0
  have hown : s.vm.findClass "com/example/parity_lattice/paritylattice/Polynomial" = some m.cls := findClass_of_methodNamed Bd.named
  have hnm := (name_of_methodNamed Bd.named Bd.method).1
  have X0 : Stand p l e ({ frames := 2, cells := 0, slots := 0, locals := 27 } : Room) s m #[(.ref a1), (.int p2)] below meth c s₁ [] 0 0 := Stand.of_body Bd
  have e0 : s₁.heap = h0 := by rw [← hh, Bd.state]; rfl
  have N0 := Fr.nil n0
  have pre0 : ∀ t, Steps p.tables e below (s₁.setTop (mkF m 0 #[.val (.ref a1), .val (.int p2), .unset] [])) t → Steps p.tables e below (s₁.setTop (entryFrame m #[(.ref a1), (.int p2)] 3)) t := fun t k => castTop (ef_4 m a1 p2) k
  have pre1 : ∀ t, Steps p.tables e below (s₁.setTop (mkF m 0 #[.val (.ref a1), .val (.int p2), .unset] [])) t → Steps p.tables e below (s₁.setTop (mkF m 0 #[.val (.ref a1), .val (.int p2), .unset] [])) t := fun t k => k
  have k1 : ∀ t, Steps p.tables e below (s₁.setTop (mkF m 6 #[.val (.ref a1), .val (.int p2), .val (.int (p2 <<< ((1 : Int32) &&& 31)))] [(.ref a1), (.int (p2 <<< ((1 : Int32) &&& 31)))])) t → Steps p.tables e below (s₁.setTop (mkF m 0 #[.val (.ref a1), .val (.int p2), .unset] [])) t := fun t kt => pre1 t (by
    show Steps p.tables e below (s₁.setTop (mkF m 0 #[.val (.ref a1), .val (.int p2), .unset] [])) _
    refine XS.iloadN X0.here hx rfl (hb hby d4_0) rfl ?_
    show Steps p.tables e below (s₁.setTop (mkF m 1 #[.val (.ref a1), .val (.int p2), .unset] [(.int p2)])) _
    refine XS.iconst X0.here hx rfl (hb hby d4_1) ?_
    show Steps p.tables e below (s₁.setTop (mkF m 2 #[.val (.ref a1), .val (.int p2), .unset] [(.int (1 : Int32)), (.int p2)])) _
    refine XS.ishl X0.here hx rfl (hb hby d4_2) rfl ?_
    show Steps p.tables e below (s₁.setTop (mkF m 3 #[.val (.ref a1), .val (.int p2), .unset] [(.int (p2 <<< ((1 : Int32) &&& 31)))])) _
    refine XS.istoreN X0.here hx rfl (hb hby d4_3) rfl (l' := #[.val (.ref a1), .val (.int p2), .val (.int (p2 <<< ((1 : Int32) &&& 31)))]) rfl ?_
    show Steps p.tables e below (s₁.setTop (mkF m 4 #[.val (.ref a1), .val (.int p2), .val (.int (p2 <<< ((1 : Int32) &&& 31)))] [])) _
    refine XS.iloadN X0.here hx rfl (hb hby d4_4) rfl ?_
    show Steps p.tables e below (s₁.setTop (mkF m 5 #[.val (.ref a1), .val (.int p2), .val (.int (p2 <<< ((1 : Int32) &&& 31)))] [(.int (p2 <<< ((1 : Int32) &&& 31)))])) _
    refine XS.aloadN X0.here hx rfl (hb hby d4_5) rfl rfl ?_
    exact kt)
  obtain ⟨cq2, kq2, q2a, q2b, q2c⟩ := isOf hZ e0 E0
  obtain ⟨_, _, ⟨T2, L2, k2', n2⟩, -, X2, ⟨Lc2, hQ2, l2, y2, z2⟩, st2⟩ := X0.virtualBack hx (y := (⟨"com/example/parity_lattice/paritylattice/Polynomial", "degree", "()I"⟩ : MethodName)) (z := (⟨"com/example/parity_lattice/paritylattice/Polynomial", "degree", "()I"⟩ : MethodName)) hown (mvT hZ (hw _ (List.mem_of_getElem? (i := 22) rfl))) (mvT hZ (hw _ (List.mem_of_getElem? (i := 23) rfl))) (notFace_of_selects (args := #[]) (mvT hZ (hw _ (List.mem_of_getElem? (i := 25) rfl)))) (mvT hZ (hw _ (List.mem_of_getElem? (i := 25) rfl))) (mvT hZ (hw _ (List.mem_of_getElem? (i := 24) rfl))) (by decide) (backOf (W := 1) (rm5 l Z a0 hw [] a1 w_coefficients h0 n0 Z0 E0 F0_coefficients) hZ (hw _ (List.mem_of_getElem? (i := 26) rfl)) (hw _ (List.mem_of_getElem? (i := 3) rfl)) (by decide) (by decide)) q2a q2c (g := (mkF m 6 #[.val (.ref a1), .val (.int p2), .val (.int (p2 <<< ((1 : Int32) &&& 31)))] [(.ref a1), (.int (p2 <<< ((1 : Int32) &&& 31)))])) rfl (by rw [hml]; rfl) (Steps.refl _) (argsL := []) (rest := [(.int (p2 <<< ((1 : Int32) &&& 31)))]) (lenOf pd4_0 rfl) rfl (by show 2 * 0 + _ ≤ _; exact Nat.le_of_eq rfl) (hb hby d4_6) (fun _ _ => ⟨rfl, e0, (by decide : 0 + 0 ≤ _), (by decide : 0 + 0 ≤ _)⟩)
  dsimp only [Pt.U, Pt.locs, Pt.cells, Pt.slots] at X2 l2 y2 z2 st2 hQ2
  subst l2 y2 z2
  obtain ⟨rfl, N2q, hh2⟩ := hQ2
  have N2 := Fr.app N0 N2q
  have k4 : ∀ t, Steps p.tables e below (T2.setTop (mkF m 13 #[.val (.ref a1), .val (.int p2), .val (.int (p2 <<< ((1 : Int32) &&& 31)))] [(.int (1 : Int32)), (.int ((((p2 <<< ((1 : Int32) &&& 31)).toUInt32 >>> ((sp5 w_coefficients) &&& 31).toUInt32).toInt32) &&& (1 : Int32)))])) t → Steps p.tables e below (s₁.setTop (mkF m 0 #[.val (.ref a1), .val (.int p2), .unset] [])) t := fun t kt => k1 t (by
    show Steps p.tables e below (s₁.setTop (mkF m 6 #[.val (.ref a1), .val (.int p2), .val (.int (p2 <<< ((1 : Int32) &&& 31)))] [(.ref a1), (.int (p2 <<< ((1 : Int32) &&& 31)))])) _
    refine st2.trans ?_
    show Steps p.tables e below (T2.setTop (mkF m 9 #[.val (.ref a1), .val (.int p2), .val (.int (p2 <<< ((1 : Int32) &&& 31)))] [(.int (sp5 w_coefficients)), (.int (p2 <<< ((1 : Int32) &&& 31)))])) _
    refine XS.iushr X2.here hx rfl (hb hby d4_9) rfl ?_
    show Steps p.tables e below (T2.setTop (mkF m 10 #[.val (.ref a1), .val (.int p2), .val (.int (p2 <<< ((1 : Int32) &&& 31)))] [(.int (((p2 <<< ((1 : Int32) &&& 31)).toUInt32 >>> ((sp5 w_coefficients) &&& 31).toUInt32).toInt32))])) _
    refine XS.iconst X2.here hx rfl (hb hby d4_10) ?_
    show Steps p.tables e below (T2.setTop (mkF m 11 #[.val (.ref a1), .val (.int p2), .val (.int (p2 <<< ((1 : Int32) &&& 31)))] [(.int (1 : Int32)), (.int (((p2 <<< ((1 : Int32) &&& 31)).toUInt32 >>> ((sp5 w_coefficients) &&& 31).toUInt32).toInt32))])) _
    refine XS.iand X2.here hx rfl (hb hby d4_11) rfl ?_
    show Steps p.tables e below (T2.setTop (mkF m 12 #[.val (.ref a1), .val (.int p2), .val (.int (p2 <<< ((1 : Int32) &&& 31)))] [(.int ((((p2 <<< ((1 : Int32) &&& 31)).toUInt32 >>> ((sp5 w_coefficients) &&& 31).toUInt32).toInt32) &&& (1 : Int32)))])) _
    refine XS.iconst X2.here hx rfl (hb hby d4_12) ?_
    exact kt)
  by_cases c13_3 : ((((p2 <<< ((1 : Int32) &&& 31)).toUInt32 >>> ((sp5 w_coefficients) &&& 31).toUInt32).toInt32) &&& (1 : Int32)) = (1 : Int32)
  · have k5 : ∀ t, Steps p.tables e below (T2.setTop (mkF m 18 #[.val (.ref a1), .val (.int p2), .val (.int (p2 <<< ((1 : Int32) &&& 31)))] [(.ref a1), (.int (p2 <<< ((1 : Int32) &&& 31)))])) t → Steps p.tables e below (s₁.setTop (mkF m 0 #[.val (.ref a1), .val (.int p2), .unset] [])) t := fun t kt => k4 t (by
      show Steps p.tables e below (T2.setTop (mkF m 13 #[.val (.ref a1), .val (.int p2), .val (.int (p2 <<< ((1 : Int32) &&& 31)))] [(.int (1 : Int32)), (.int ((((p2 <<< ((1 : Int32) &&& 31)).toUInt32 >>> ((sp5 w_coefficients) &&& 31).toUInt32).toInt32) &&& (1 : Int32)))])) _
      refine XS.icmpNo X2.here hx rfl (hb hby d4_13) rfl (teq c13_3).2 ?_
      show Steps p.tables e below (T2.setTop (mkF m 16 #[.val (.ref a1), .val (.int p2), .val (.int (p2 <<< ((1 : Int32) &&& 31)))] [])) _
      refine XS.iloadN X2.here hx rfl (hb hby d4_16) rfl ?_
      show Steps p.tables e below (T2.setTop (mkF m 17 #[.val (.ref a1), .val (.int p2), .val (.int (p2 <<< ((1 : Int32) &&& 31)))] [(.int (p2 <<< ((1 : Int32) &&& 31)))])) _
      refine XS.aloadN X2.here hx rfl (hb hby d4_17) rfl rfl ?_
      exact kt)
    obtain ⟨T6, X6, e6, st6⟩ := getF X2 hx hZ hown (host := "") (Or.inl (hw _ (List.mem_of_getElem? (i := 15) rfl))) Via.refl hh2 F0_coefficients (g := (mkF m 18 #[.val (.ref a1), .val (.int p2), .val (.int (p2 <<< ((1 : Int32) &&& 31)))] [(.ref a1), (.int (p2 <<< ((1 : Int32) &&& 31)))])) rfl rfl (hb hby d4_18)
    obtain ⟨fs, hr, hrun, hended, hW, hsame⟩ := X6.leave (v := some (.int ((p2 <<< ((1 : Int32) &&& 31)) ^^^ w_coefficients))) (fun h => by rw [Bd.returns] at h; cases h)
    refine ⟨_, _, pre0 _ (k5 _ ?_), hrun, hended, _, _, rfl, ?_, ⟨_, rfl⟩, hW, hsame.mono (by decide) (by decide)⟩
    · show Steps p.tables e below (T2.setTop (mkF m 18 #[.val (.ref a1), .val (.int p2), .val (.int (p2 <<< ((1 : Int32) &&& 31)))] [(.ref a1), (.int (p2 <<< ((1 : Int32) &&& 31)))])) _
      refine st6 _ ?_
      show Steps p.tables e below (T6.setTop (mkF m 21 #[.val (.ref a1), .val (.int p2), .val (.int (p2 <<< ((1 : Int32) &&& 31)))] [(.int w_coefficients), (.int (p2 <<< ((1 : Int32) &&& 31)))])) _
      refine XS.ixor X6.here hx rfl (hb hby d4_21) rfl ?_
      show Steps p.tables e below (T6.setTop (mkF m 22 #[.val (.ref a1), .val (.int p2), .val (.int (p2 <<< ((1 : Int32) &&& 31)))] [(.int ((p2 <<< ((1 : Int32) &&& 31)) ^^^ w_coefficients))])) _
      refine XS.goto X6.here hx rfl (pc0 := 22) (pc' := 26) rfl (hb hby d4_22) (by decide) (by decide) ?_
      show Steps p.tables e below (T6.setTop (mkF m 26 #[.val (.ref a1), .val (.int p2), .val (.int (p2 <<< ((1 : Int32) &&& 31)))] [(.int ((p2 <<< ((1 : Int32) &&& 31)) ^^^ w_coefficients))])) _
      exact retI X6 hx Bd.returns (hb hby d4_26) hr
    · show Q4 Z a1 p2 w_coefficients h0 n0 _ T6.heap _
      rw [e6]
      have hv : sp4 p2 w_coefficients = ((p2 <<< ((1 : Int32) &&& 31)) ^^^ w_coefficients) := by unfold sp4; rw [if_pos c13_3]
      exact ⟨by rw [hv], N2, rfl⟩
  · obtain ⟨fs, hr, hrun, hended, hW, hsame⟩ := X2.leave (v := some (.int (p2 <<< ((1 : Int32) &&& 31)))) (fun h => by rw [Bd.returns] at h; cases h)
    refine ⟨_, _, pre0 _ (k4 _ ?_), hrun, hended, _, _, rfl, ?_, ⟨_, rfl⟩, hW, hsame.mono (by decide) (by decide)⟩
    · show Steps p.tables e below (T2.setTop (mkF m 13 #[.val (.ref a1), .val (.int p2), .val (.int (p2 <<< ((1 : Int32) &&& 31)))] [(.int (1 : Int32)), (.int ((((p2 <<< ((1 : Int32) &&& 31)).toUInt32 >>> ((sp5 w_coefficients) &&& 31).toUInt32).toInt32) &&& (1 : Int32)))])) _
      refine XS.icmpYes X2.here hx rfl (pc0 := 13) (pc' := 25) rfl (hb hby d4_13) rfl (feq c13_3).2 (by decide) (by decide) ?_
      show Steps p.tables e below (T2.setTop (mkF m 25 #[.val (.ref a1), .val (.int p2), .val (.int (p2 <<< ((1 : Int32) &&& 31)))] [])) _
      refine XS.iloadN X2.here hx rfl (hb hby d4_25) rfl ?_
      show Steps p.tables e below (T2.setTop (mkF m 26 #[.val (.ref a1), .val (.int p2), .val (.int (p2 <<< ((1 : Int32) &&& 31)))] [(.int (p2 <<< ((1 : Int32) &&& 31)))])) _
      exact retI X2 hx Bd.returns (hb hby d4_26) hr
    · show Q4 Z a1 p2 w_coefficients h0 n0 _ T2.heap _
      rw [hh2]
      have hv : sp4 p2 w_coefficients = (p2 <<< ((1 : Int32) &&& 31)) := by unfold sp4; rw [if_neg c13_3]
      exact ⟨by rw [hv], N2, rfl⟩
def Q0 (Z : State) (p1 : Int32) (p2 : Int32) (p3 : Int32) (h0 : Heap) (n0 : Nat) (v : Option Value) (h : Heap) (L : List Loc) : Prop := v = some (.int 1) ∧ Fr n0 L
set_option maxRecDepth 65536 in
set_option maxHeartbeats 40000000 in
theorem rm0 (l : Launch) (Z : State) (a0 : Array Value) (hw : ∀ d ∈ tables_1, d.before a0 Z = true) (ws : List Jvm.Cond) (p1 : Int32) (p2 : Int32) (p3 : Int32) (h0 : Heap) (n0 : Nat) (Z0 : n0 ≤ h0.size) :
    MetFree l x (head1 (Jvm.Cond.code x code maxLocals ret :: ws) room_1) (fun a U => a = #[(.int p1), (.int p2), (.int p3)] ∧ Z.Warmed39 U.vm ∧ U.heap = h0) (fun _ _ _ _ _ => True) (fun _ U o U' => ∃ v L, o = .returned v ∧ Q0 Z p1 p2 p3 h0 n0 v U'.heap L ∧ FrameEnd U o U' L room_1.cells room_1.slots) := by
  refine MetFree.of_bodySF (plainFor_of_name pn_0) hisR ?_
  intro p e s m args below meth c s₁ Bd hml0 hP hK
  obtain ⟨rfl, hZ, hh⟩ := hP
  have hx := Bd.exec
  have hby := Bd.bytes
  have hml : c.maxLocals = 12 := hml0
  have hown : s.vm.findClass "com/example/parity_lattice/paritylattice/PolynomialTimesXPinLaw" = some m.cls := findClass_of_methodNamed Bd.named
  have hnm := (name_of_methodNamed Bd.named Bd.method).1
  have X0 : Stand p l e room_1 s m #[(.int p1), (.int p2), (.int p3)] below meth c s₁ [] 0 0 := Stand.of_body Bd
  have e0 : s₁.heap = h0 := by rw [← hh, Bd.state]; rfl
  have N0 := Fr.nil n0
  have pre0 : ∀ t, Steps p.tables e below (s₁.setTop (mkF m 0 #[.val (.int p1), .val (.int p2), .val (.int p3), .unset, .unset, .unset, .unset, .unset, .unset, .unset, .unset, .unset] [])) t → Steps p.tables e below (s₁.setTop (entryFrame m #[(.int p1), (.int p2), (.int p3)] maxLocals)) t := fun t k => castTop (ef_0 m p1 p2 p3) k
  have pre1 : ∀ t, Steps p.tables e below (s₁.setTop (mkF m 0 #[.val (.int p1), .val (.int p2), .val (.int p3), .unset, .unset, .unset, .unset, .unset, .unset, .unset, .unset, .unset] [])) t → Steps p.tables e below (s₁.setTop (mkF m 0 #[.val (.int p1), .val (.int p2), .val (.int p3), .unset, .unset, .unset, .unset, .unset, .unset, .unset, .unset, .unset] [])) t := fun t k => k
  have k1 : ∀ t, Steps p.tables e below (s₁.setTop (mkF m 31 #[.val (.int p1), .val (.int p2), .val (.int p3), .val (.int (v0_7 p1 p2 p3)), .val (.int (v0_13 p1 p2 p3)), .val (.int (v0_23 p1 p2 p3)), .val (.int (v0_29 p1 p2 p3)), .unset, .unset, .unset, .unset, .unset] [])) t → Steps p.tables e below (s₁.setTop (mkF m 0 #[.val (.int p1), .val (.int p2), .val (.int p3), .unset, .unset, .unset, .unset, .unset, .unset, .unset, .unset, .unset] [])) t := fun t kt => pre1 t (by
    show Steps p.tables e below (s₁.setTop (mkF m 0 #[.val (.int p1), .val (.int p2), .val (.int p3), .unset, .unset, .unset, .unset, .unset, .unset, .unset, .unset, .unset] [])) _
    refine XS.iloadN X0.here hx rfl (hb hby at_0) rfl ?_
    show Steps p.tables e below (s₁.setTop (mkF m 1 #[.val (.int p1), .val (.int p2), .val (.int p3), .unset, .unset, .unset, .unset, .unset, .unset, .unset, .unset, .unset] [(.int p1)])) _
    refine X0.ldcInt hx hown (mvT hZ (hw _ (List.mem_of_getElem? (i := 0) rfl))) (g := (mkF m 1 #[.val (.int p1), .val (.int p2), .val (.int p3), .unset, .unset, .unset, .unset, .unset, .unset, .unset, .unset, .unset] [(.int p1)])) rfl (hb hby at_1) _ ?_
    show Steps p.tables e below (s₁.setTop (mkF m 3 #[.val (.int p1), .val (.int p2), .val (.int p3), .unset, .unset, .unset, .unset, .unset, .unset, .unset, .unset, .unset] [(.int (2147483647 : Int32)), (.int p1)])) _
    refine XS.iand X0.here hx rfl (hb hby at_3) rfl ?_
    show Steps p.tables e below (s₁.setTop (mkF m 4 #[.val (.int p1), .val (.int p2), .val (.int p3), .unset, .unset, .unset, .unset, .unset, .unset, .unset, .unset, .unset] [(.int (p1 &&& (2147483647 : Int32)))])) _
    refine XS.bipush X0.here hx rfl (hb hby at_4) ?_
    show Steps p.tables e below (s₁.setTop (mkF m 6 #[.val (.int p1), .val (.int p2), .val (.int p3), .unset, .unset, .unset, .unset, .unset, .unset, .unset, .unset, .unset] [(.int (31 : Int32)), (.int (p1 &&& (2147483647 : Int32)))])) _
    refine iremM X0 hx rfl (hb hby at_6) rfl (by decide) ?_
    show Steps p.tables e below (s₁.setTop (mkF m 7 #[.val (.int p1), .val (.int p2), .val (.int p3), .unset, .unset, .unset, .unset, .unset, .unset, .unset, .unset, .unset] [(.int ((p1 &&& (2147483647 : Int32)) % (31 : Int32)))])) _
    refine XS.istoreN X0.here hx rfl (hb hby at_7) rfl (l' := #[.val (.int p1), .val (.int p2), .val (.int p3), .val (.int (v0_7 p1 p2 p3)), .unset, .unset, .unset, .unset, .unset, .unset, .unset, .unset]) rfl ?_
    show Steps p.tables e below (s₁.setTop (mkF m 8 #[.val (.int p1), .val (.int p2), .val (.int p3), .val (.int (v0_7 p1 p2 p3)), .unset, .unset, .unset, .unset, .unset, .unset, .unset, .unset] [])) _
    refine XS.iconst X0.here hx rfl (hb hby at_8) ?_
    show Steps p.tables e below (s₁.setTop (mkF m 9 #[.val (.int p1), .val (.int p2), .val (.int p3), .val (.int (v0_7 p1 p2 p3)), .unset, .unset, .unset, .unset, .unset, .unset, .unset, .unset] [(.int (1 : Int32))])) _
    refine XS.iloadN X0.here hx rfl (hb hby at_9) rfl ?_
    show Steps p.tables e below (s₁.setTop (mkF m 10 #[.val (.int p1), .val (.int p2), .val (.int p3), .val (.int (v0_7 p1 p2 p3)), .unset, .unset, .unset, .unset, .unset, .unset, .unset, .unset] [(.int (v0_7 p1 p2 p3)), (.int (1 : Int32))])) _
    refine XS.ishl X0.here hx rfl (hb hby at_10) rfl ?_
    show Steps p.tables e below (s₁.setTop (mkF m 11 #[.val (.int p1), .val (.int p2), .val (.int p3), .val (.int (v0_7 p1 p2 p3)), .unset, .unset, .unset, .unset, .unset, .unset, .unset, .unset] [(.int ((1 : Int32) <<< ((v0_7 p1 p2 p3) &&& 31)))])) _
    refine XS.iconst X0.here hx rfl (hb hby at_11) ?_
    show Steps p.tables e below (s₁.setTop (mkF m 12 #[.val (.int p1), .val (.int p2), .val (.int p3), .val (.int (v0_7 p1 p2 p3)), .unset, .unset, .unset, .unset, .unset, .unset, .unset, .unset] [(.int (1 : Int32)), (.int ((1 : Int32) <<< ((v0_7 p1 p2 p3) &&& 31)))])) _
    refine XS.isub X0.here hx rfl (hb hby at_12) rfl ?_
    show Steps p.tables e below (s₁.setTop (mkF m 13 #[.val (.int p1), .val (.int p2), .val (.int p3), .val (.int (v0_7 p1 p2 p3)), .unset, .unset, .unset, .unset, .unset, .unset, .unset, .unset] [(.int (((1 : Int32) <<< ((v0_7 p1 p2 p3) &&& 31)) - (1 : Int32)))])) _
    refine XS.istore X0.here hx rfl (hb hby at_13) rfl (l' := #[.val (.int p1), .val (.int p2), .val (.int p3), .val (.int (v0_7 p1 p2 p3)), .val (.int (v0_13 p1 p2 p3)), .unset, .unset, .unset, .unset, .unset, .unset, .unset]) rfl ?_
    show Steps p.tables e below (s₁.setTop (mkF m 15 #[.val (.int p1), .val (.int p2), .val (.int p3), .val (.int (v0_7 p1 p2 p3)), .val (.int (v0_13 p1 p2 p3)), .unset, .unset, .unset, .unset, .unset, .unset, .unset] [])) _
    refine XS.iconst X0.here hx rfl (hb hby at_15) ?_
    show Steps p.tables e below (s₁.setTop (mkF m 16 #[.val (.int p1), .val (.int p2), .val (.int p3), .val (.int (v0_7 p1 p2 p3)), .val (.int (v0_13 p1 p2 p3)), .unset, .unset, .unset, .unset, .unset, .unset, .unset] [(.int (1 : Int32))])) _
    refine XS.iloadN X0.here hx rfl (hb hby at_16) rfl ?_
    show Steps p.tables e below (s₁.setTop (mkF m 17 #[.val (.int p1), .val (.int p2), .val (.int p3), .val (.int (v0_7 p1 p2 p3)), .val (.int (v0_13 p1 p2 p3)), .unset, .unset, .unset, .unset, .unset, .unset, .unset] [(.int (v0_7 p1 p2 p3)), (.int (1 : Int32))])) _
    refine XS.ishl X0.here hx rfl (hb hby at_17) rfl ?_
    show Steps p.tables e below (s₁.setTop (mkF m 18 #[.val (.int p1), .val (.int p2), .val (.int p3), .val (.int (v0_7 p1 p2 p3)), .val (.int (v0_13 p1 p2 p3)), .unset, .unset, .unset, .unset, .unset, .unset, .unset] [(.int ((1 : Int32) <<< ((v0_7 p1 p2 p3) &&& 31)))])) _
    refine XS.iloadN X0.here hx rfl (hb hby at_18) rfl ?_
    show Steps p.tables e below (s₁.setTop (mkF m 19 #[.val (.int p1), .val (.int p2), .val (.int p3), .val (.int (v0_7 p1 p2 p3)), .val (.int (v0_13 p1 p2 p3)), .unset, .unset, .unset, .unset, .unset, .unset, .unset] [(.int p2), (.int ((1 : Int32) <<< ((v0_7 p1 p2 p3) &&& 31)))])) _
    refine XS.iload X0.here hx rfl (hb hby at_19) rfl ?_
    show Steps p.tables e below (s₁.setTop (mkF m 21 #[.val (.int p1), .val (.int p2), .val (.int p3), .val (.int (v0_7 p1 p2 p3)), .val (.int (v0_13 p1 p2 p3)), .unset, .unset, .unset, .unset, .unset, .unset, .unset] [(.int (v0_13 p1 p2 p3)), (.int p2), (.int ((1 : Int32) <<< ((v0_7 p1 p2 p3) &&& 31)))])) _
    refine XS.iand X0.here hx rfl (hb hby at_21) rfl ?_
    show Steps p.tables e below (s₁.setTop (mkF m 22 #[.val (.int p1), .val (.int p2), .val (.int p3), .val (.int (v0_7 p1 p2 p3)), .val (.int (v0_13 p1 p2 p3)), .unset, .unset, .unset, .unset, .unset, .unset, .unset] [(.int (p2 &&& (v0_13 p1 p2 p3))), (.int ((1 : Int32) <<< ((v0_7 p1 p2 p3) &&& 31)))])) _
    refine XS.ior X0.here hx rfl (hb hby at_22) rfl ?_
    show Steps p.tables e below (s₁.setTop (mkF m 23 #[.val (.int p1), .val (.int p2), .val (.int p3), .val (.int (v0_7 p1 p2 p3)), .val (.int (v0_13 p1 p2 p3)), .unset, .unset, .unset, .unset, .unset, .unset, .unset] [(.int (((1 : Int32) <<< ((v0_7 p1 p2 p3) &&& 31)) ||| (p2 &&& (v0_13 p1 p2 p3))))])) _
    refine XS.istore X0.here hx rfl (hb hby at_23) rfl (l' := #[.val (.int p1), .val (.int p2), .val (.int p3), .val (.int (v0_7 p1 p2 p3)), .val (.int (v0_13 p1 p2 p3)), .val (.int (v0_23 p1 p2 p3)), .unset, .unset, .unset, .unset, .unset, .unset]) rfl ?_
    show Steps p.tables e below (s₁.setTop (mkF m 25 #[.val (.int p1), .val (.int p2), .val (.int p3), .val (.int (v0_7 p1 p2 p3)), .val (.int (v0_13 p1 p2 p3)), .val (.int (v0_23 p1 p2 p3)), .unset, .unset, .unset, .unset, .unset, .unset] [])) _
    refine XS.iloadN X0.here hx rfl (hb hby at_25) rfl ?_
    show Steps p.tables e below (s₁.setTop (mkF m 26 #[.val (.int p1), .val (.int p2), .val (.int p3), .val (.int (v0_7 p1 p2 p3)), .val (.int (v0_13 p1 p2 p3)), .val (.int (v0_23 p1 p2 p3)), .unset, .unset, .unset, .unset, .unset, .unset] [(.int p3)])) _
    refine XS.iload X0.here hx rfl (hb hby at_26) rfl ?_
    show Steps p.tables e below (s₁.setTop (mkF m 28 #[.val (.int p1), .val (.int p2), .val (.int p3), .val (.int (v0_7 p1 p2 p3)), .val (.int (v0_13 p1 p2 p3)), .val (.int (v0_23 p1 p2 p3)), .unset, .unset, .unset, .unset, .unset, .unset] [(.int (v0_13 p1 p2 p3)), (.int p3)])) _
    refine XS.iand X0.here hx rfl (hb hby at_28) rfl ?_
    show Steps p.tables e below (s₁.setTop (mkF m 29 #[.val (.int p1), .val (.int p2), .val (.int p3), .val (.int (v0_7 p1 p2 p3)), .val (.int (v0_13 p1 p2 p3)), .val (.int (v0_23 p1 p2 p3)), .unset, .unset, .unset, .unset, .unset, .unset] [(.int (p3 &&& (v0_13 p1 p2 p3)))])) _
    refine XS.istore X0.here hx rfl (hb hby at_29) rfl (l' := #[.val (.int p1), .val (.int p2), .val (.int p3), .val (.int (v0_7 p1 p2 p3)), .val (.int (v0_13 p1 p2 p3)), .val (.int (v0_23 p1 p2 p3)), .val (.int (v0_29 p1 p2 p3)), .unset, .unset, .unset, .unset, .unset]) rfl ?_
    exact kt)
  obtain ⟨T2, h2, X2, e2, E2, A2, D2, -, st2⟩ := newO X0 hx hZ hown (hw _ (List.mem_of_getElem? (i := 1) rfl)) (hw _ (List.mem_of_getElem? (i := 2) rfl)) (hw _ (List.mem_of_getElem? (i := 3) rfl)) e0 (g := (mkF m 31 #[.val (.int p1), .val (.int p2), .val (.int p3), .val (.int (v0_7 p1 p2 p3)), .val (.int (v0_13 p1 p2 p3)), .val (.int (v0_23 p1 p2 p3)), .val (.int (v0_29 p1 p2 p3)), .unset, .unset, .unset, .unset, .unset] [])) rfl (hb hby at_31) (by decide) (by decide)
  obtain ⟨b2, g2⟩ : ∃ z, z = h0.size := ⟨_, rfl⟩
  rw [← g2] at A2 D2 st2
  have g_b2 : n0 ≤ b2 := Nat.le_trans Z0 (Nat.le_of_eq g2.symm)
  have Z2 : n0 ≤ h2.size := Nat.le_trans Z0 E2.1
  have F2_coefficients : Fld Z h2 b2 "com/example/parity_lattice/paritylattice/Polynomial" "coefficients" "I" (.int (0 : Int32)) := D2 (Or.inr (hw _ (List.mem_of_getElem? (i := 16) rfl))) (ty := .int) (by decide)
  have k3 : ∀ t, Steps p.tables e below (T2.setTop (mkF m 37 #[.val (.int p1), .val (.int p2), .val (.int p3), .val (.int (v0_7 p1 p2 p3)), .val (.int (v0_13 p1 p2 p3)), .val (.int (v0_23 p1 p2 p3)), .val (.int (v0_29 p1 p2 p3)), .unset, .unset, .unset, .unset, .unset] [(.int (v0_23 p1 p2 p3)), (.ref b2), (.ref b2)])) t → Steps p.tables e below (s₁.setTop (mkF m 0 #[.val (.int p1), .val (.int p2), .val (.int p3), .unset, .unset, .unset, .unset, .unset, .unset, .unset, .unset, .unset] [])) t := fun t kt => k1 t (by
    show Steps p.tables e below (s₁.setTop (mkF m 31 #[.val (.int p1), .val (.int p2), .val (.int p3), .val (.int (v0_7 p1 p2 p3)), .val (.int (v0_13 p1 p2 p3)), .val (.int (v0_23 p1 p2 p3)), .val (.int (v0_29 p1 p2 p3)), .unset, .unset, .unset, .unset, .unset] [])) _
    refine st2 _ ?_
    show Steps p.tables e below (T2.setTop (mkF m 34 #[.val (.int p1), .val (.int p2), .val (.int p3), .val (.int (v0_7 p1 p2 p3)), .val (.int (v0_13 p1 p2 p3)), .val (.int (v0_23 p1 p2 p3)), .val (.int (v0_29 p1 p2 p3)), .unset, .unset, .unset, .unset, .unset] [(.ref b2)])) _
    refine XS.dup X2.here hx rfl (hb hby at_34) rfl rfl ?_
    show Steps p.tables e below (T2.setTop (mkF m 35 #[.val (.int p1), .val (.int p2), .val (.int p3), .val (.int (v0_7 p1 p2 p3)), .val (.int (v0_13 p1 p2 p3)), .val (.int (v0_23 p1 p2 p3)), .val (.int (v0_29 p1 p2 p3)), .unset, .unset, .unset, .unset, .unset] [(.ref b2), (.ref b2)])) _
    refine XS.iload X2.here hx rfl (hb hby at_35) rfl ?_
    exact kt)
  obtain ⟨_, _, ⟨T4, L4, k4', n4⟩, -, X4, ⟨Lc4, hQ4, l4, y4, z4⟩, st4⟩ := X2.specialBack hx (y := (⟨"com/example/parity_lattice/paritylattice/Polynomial", "<init>", "(I)V"⟩ : MethodName)) rfl hown (mvT hZ (hw _ (List.mem_of_getElem? (i := 4) rfl))) (mvT hZ (hw _ (List.mem_of_getElem? (i := 5) rfl))) (mvT hZ (hw _ (List.mem_of_getElem? (i := 6) rfl))) (by decide) (backOf (W := 1) (rm1 l Z a0 hw [] b2 (v0_23 p1 p2 p3) h2 n0 Z2 A2 F2_coefficients g_b2) hZ (hw _ (List.mem_of_getElem? (i := 6) rfl)) (hw _ (List.mem_of_getElem? (i := 3) rfl)) (by decide) (by decide)) (g := (mkF m 37 #[.val (.int p1), .val (.int p2), .val (.int p3), .val (.int (v0_7 p1 p2 p3)), .val (.int (v0_13 p1 p2 p3)), .val (.int (v0_23 p1 p2 p3)), .val (.int (v0_29 p1 p2 p3)), .unset, .unset, .unset, .unset, .unset] [(.int (v0_23 p1 p2 p3)), (.ref b2), (.ref b2)])) rfl (by rw [hml]; rfl) (Steps.refl _) (a := b2) (argsL := [(.int (v0_23 p1 p2 p3))]) (rest := [(.ref b2)]) (lenOf pd0_0 rfl) rfl (by show 2 * 0 + _ ≤ _; exact Nat.le_of_eq rfl) (hb hby at_37) (fun _ _ => ⟨rfl, e2, (by decide : 1 + 0 ≤ _), (by decide : 1 + 0 ≤ _)⟩)
  dsimp only [Pt.U, Pt.locs, Pt.cells, Pt.slots] at X4 l4 y4 z4 st4 hQ4
  subst l4 y4 z4
  obtain ⟨rfl, N4q, Kq4, Eq4, Fq4_coefficients⟩ := hQ4
  have N4 := Fr.app N0 N4q
  have Z4 : n0 ≤ T4.heap.size := Nat.le_trans Z2 Kq4.1
  have k5 : ∀ t, Steps p.tables e below (T4.setTop (mkF m 46 #[.val (.int p1), .val (.int p2), .val (.int p3), .val (.int (v0_7 p1 p2 p3)), .val (.int (v0_13 p1 p2 p3)), .val (.int (v0_23 p1 p2 p3)), .val (.int (v0_29 p1 p2 p3)), .val (.ref b2), .unset, .unset, .unset, .unset] [(.int (v0_29 p1 p2 p3)), (.ref b2)])) t → Steps p.tables e below (s₁.setTop (mkF m 0 #[.val (.int p1), .val (.int p2), .val (.int p3), .unset, .unset, .unset, .unset, .unset, .unset, .unset, .unset, .unset] [])) t := fun t kt => k3 t (by
    show Steps p.tables e below (T2.setTop (mkF m 37 #[.val (.int p1), .val (.int p2), .val (.int p3), .val (.int (v0_7 p1 p2 p3)), .val (.int (v0_13 p1 p2 p3)), .val (.int (v0_23 p1 p2 p3)), .val (.int (v0_29 p1 p2 p3)), .unset, .unset, .unset, .unset, .unset] [(.int (v0_23 p1 p2 p3)), (.ref b2), (.ref b2)])) _
    refine st4.trans ?_
    show Steps p.tables e below (T4.setTop (mkF m 40 #[.val (.int p1), .val (.int p2), .val (.int p3), .val (.int (v0_7 p1 p2 p3)), .val (.int (v0_13 p1 p2 p3)), .val (.int (v0_23 p1 p2 p3)), .val (.int (v0_29 p1 p2 p3)), .unset, .unset, .unset, .unset, .unset] [(.ref b2)])) _
    refine XS.astore X4.here hx rfl (hb hby at_40) rfl rfl (l' := #[.val (.int p1), .val (.int p2), .val (.int p3), .val (.int (v0_7 p1 p2 p3)), .val (.int (v0_13 p1 p2 p3)), .val (.int (v0_23 p1 p2 p3)), .val (.int (v0_29 p1 p2 p3)), .val (.ref b2), .unset, .unset, .unset, .unset]) rfl ?_
    show Steps p.tables e below (T4.setTop (mkF m 42 #[.val (.int p1), .val (.int p2), .val (.int p3), .val (.int (v0_7 p1 p2 p3)), .val (.int (v0_13 p1 p2 p3)), .val (.int (v0_23 p1 p2 p3)), .val (.int (v0_29 p1 p2 p3)), .val (.ref b2), .unset, .unset, .unset, .unset] [])) _
    refine XS.aload X4.here hx rfl (hb hby at_42) rfl rfl ?_
    show Steps p.tables e below (T4.setTop (mkF m 44 #[.val (.int p1), .val (.int p2), .val (.int p3), .val (.int (v0_7 p1 p2 p3)), .val (.int (v0_13 p1 p2 p3)), .val (.int (v0_23 p1 p2 p3)), .val (.int (v0_29 p1 p2 p3)), .val (.ref b2), .unset, .unset, .unset, .unset] [(.ref b2)])) _
    refine XS.iload X4.here hx rfl (hb hby at_44) rfl ?_
    exact kt)
  obtain ⟨cq6, kq6, q6a, q6b, q6c⟩ := isOf hZ rfl Eq4
  obtain ⟨_, _, ⟨T6, L6, k6', n6⟩, -, X6, ⟨Lc6, hQ6, l6, y6, z6⟩, st6⟩ := X4.virtualBack hx (y := (⟨"com/example/parity_lattice/paritylattice/Polynomial", "timesX", "(I)I"⟩ : MethodName)) (z := (⟨"com/example/parity_lattice/paritylattice/Polynomial", "timesX", "(I)I"⟩ : MethodName)) hown (mvT hZ (hw _ (List.mem_of_getElem? (i := 17) rfl))) (mvT hZ (hw _ (List.mem_of_getElem? (i := 18) rfl))) (notFace_of_selects (args := #[]) (mvT hZ (hw _ (List.mem_of_getElem? (i := 20) rfl)))) (mvT hZ (hw _ (List.mem_of_getElem? (i := 20) rfl))) (mvT hZ (hw _ (List.mem_of_getElem? (i := 19) rfl))) (by decide) (backOf (W := 0) (rm4 l Z a0 hw [] b2 (v0_29 p1 p2 p3) (v0_23 p1 p2 p3) T4.heap n0 Z4 Eq4 Fq4_coefficients) hZ (hw _ (List.mem_of_getElem? (i := 21) rfl)) (hw _ (List.mem_of_getElem? (i := 3) rfl)) (by decide) (by decide)) q6a q6c (g := (mkF m 46 #[.val (.int p1), .val (.int p2), .val (.int p3), .val (.int (v0_7 p1 p2 p3)), .val (.int (v0_13 p1 p2 p3)), .val (.int (v0_23 p1 p2 p3)), .val (.int (v0_29 p1 p2 p3)), .val (.ref b2), .unset, .unset, .unset, .unset] [(.int (v0_29 p1 p2 p3)), (.ref b2)])) rfl (by rw [hml]; rfl) (Steps.refl _) (argsL := [(.int (v0_29 p1 p2 p3))]) (rest := []) (lenOf pd0_1 rfl) rfl (by show 2 * 0 + _ ≤ _; exact Nat.le_of_eq rfl) (hb hby at_46) (fun _ _ => ⟨rfl, rfl, (by decide : 1 + 0 ≤ _), (by decide : 1 + 0 ≤ _)⟩)
  dsimp only [Pt.U, Pt.locs, Pt.cells, Pt.slots] at X6 l6 y6 z6 st6 hQ6
  subst l6 y6 z6
  obtain ⟨rfl, N6q, hh6⟩ := hQ6
  have N6 := Fr.app N4 N6q
  have k8 : ∀ t, Steps p.tables e below (T6.setTop (mkF m 61 #[.val (.int p1), .val (.int p2), .val (.int p3), .val (.int (v0_7 p1 p2 p3)), .val (.int (v0_13 p1 p2 p3)), .val (.int (v0_23 p1 p2 p3)), .val (.int (v0_29 p1 p2 p3)), .val (.ref b2), .val (.int (sp4 (v0_29 p1 p2 p3) (v0_23 p1 p2 p3))), .val (.int (v0_58 p1 p2 p3)), .unset, .unset] [(.int (v0_7 p1 p2 p3))])) t → Steps p.tables e below (s₁.setTop (mkF m 0 #[.val (.int p1), .val (.int p2), .val (.int p3), .unset, .unset, .unset, .unset, .unset, .unset, .unset, .unset, .unset] [])) t := fun t kt => k5 t (by
    show Steps p.tables e below (T4.setTop (mkF m 46 #[.val (.int p1), .val (.int p2), .val (.int p3), .val (.int (v0_7 p1 p2 p3)), .val (.int (v0_13 p1 p2 p3)), .val (.int (v0_23 p1 p2 p3)), .val (.int (v0_29 p1 p2 p3)), .val (.ref b2), .unset, .unset, .unset, .unset] [(.int (v0_29 p1 p2 p3)), (.ref b2)])) _
    refine st6.trans ?_
    show Steps p.tables e below (T6.setTop (mkF m 49 #[.val (.int p1), .val (.int p2), .val (.int p3), .val (.int (v0_7 p1 p2 p3)), .val (.int (v0_13 p1 p2 p3)), .val (.int (v0_23 p1 p2 p3)), .val (.int (v0_29 p1 p2 p3)), .val (.ref b2), .unset, .unset, .unset, .unset] [(.int (sp4 (v0_29 p1 p2 p3) (v0_23 p1 p2 p3)))])) _
    refine XS.istore X6.here hx rfl (hb hby at_49) rfl (l' := #[.val (.int p1), .val (.int p2), .val (.int p3), .val (.int (v0_7 p1 p2 p3)), .val (.int (v0_13 p1 p2 p3)), .val (.int (v0_23 p1 p2 p3)), .val (.int (v0_29 p1 p2 p3)), .val (.ref b2), .val (.int (sp4 (v0_29 p1 p2 p3) (v0_23 p1 p2 p3))), .unset, .unset, .unset]) rfl ?_
    show Steps p.tables e below (T6.setTop (mkF m 51 #[.val (.int p1), .val (.int p2), .val (.int p3), .val (.int (v0_7 p1 p2 p3)), .val (.int (v0_13 p1 p2 p3)), .val (.int (v0_23 p1 p2 p3)), .val (.int (v0_29 p1 p2 p3)), .val (.ref b2), .val (.int (sp4 (v0_29 p1 p2 p3) (v0_23 p1 p2 p3))), .unset, .unset, .unset] [])) _
    refine XS.iload X6.here hx rfl (hb hby at_51) rfl ?_
    show Steps p.tables e below (T6.setTop (mkF m 53 #[.val (.int p1), .val (.int p2), .val (.int p3), .val (.int (v0_7 p1 p2 p3)), .val (.int (v0_13 p1 p2 p3)), .val (.int (v0_23 p1 p2 p3)), .val (.int (v0_29 p1 p2 p3)), .val (.ref b2), .val (.int (sp4 (v0_29 p1 p2 p3) (v0_23 p1 p2 p3))), .unset, .unset, .unset] [(.int (v0_29 p1 p2 p3))])) _
    refine XS.iconst X6.here hx rfl (hb hby at_53) ?_
    show Steps p.tables e below (T6.setTop (mkF m 54 #[.val (.int p1), .val (.int p2), .val (.int p3), .val (.int (v0_7 p1 p2 p3)), .val (.int (v0_13 p1 p2 p3)), .val (.int (v0_23 p1 p2 p3)), .val (.int (v0_29 p1 p2 p3)), .val (.ref b2), .val (.int (sp4 (v0_29 p1 p2 p3) (v0_23 p1 p2 p3))), .unset, .unset, .unset] [(.int (1 : Int32)), (.int (v0_29 p1 p2 p3))])) _
    refine XS.ishl X6.here hx rfl (hb hby at_54) rfl ?_
    show Steps p.tables e below (T6.setTop (mkF m 55 #[.val (.int p1), .val (.int p2), .val (.int p3), .val (.int (v0_7 p1 p2 p3)), .val (.int (v0_13 p1 p2 p3)), .val (.int (v0_23 p1 p2 p3)), .val (.int (v0_29 p1 p2 p3)), .val (.ref b2), .val (.int (sp4 (v0_29 p1 p2 p3) (v0_23 p1 p2 p3))), .unset, .unset, .unset] [(.int ((v0_29 p1 p2 p3) <<< ((1 : Int32) &&& 31)))])) _
    refine XS.iload X6.here hx rfl (hb hby at_55) rfl ?_
    show Steps p.tables e below (T6.setTop (mkF m 57 #[.val (.int p1), .val (.int p2), .val (.int p3), .val (.int (v0_7 p1 p2 p3)), .val (.int (v0_13 p1 p2 p3)), .val (.int (v0_23 p1 p2 p3)), .val (.int (v0_29 p1 p2 p3)), .val (.ref b2), .val (.int (sp4 (v0_29 p1 p2 p3) (v0_23 p1 p2 p3))), .unset, .unset, .unset] [(.int (v0_13 p1 p2 p3)), (.int ((v0_29 p1 p2 p3) <<< ((1 : Int32) &&& 31)))])) _
    refine XS.iand X6.here hx rfl (hb hby at_57) rfl ?_
    show Steps p.tables e below (T6.setTop (mkF m 58 #[.val (.int p1), .val (.int p2), .val (.int p3), .val (.int (v0_7 p1 p2 p3)), .val (.int (v0_13 p1 p2 p3)), .val (.int (v0_23 p1 p2 p3)), .val (.int (v0_29 p1 p2 p3)), .val (.ref b2), .val (.int (sp4 (v0_29 p1 p2 p3) (v0_23 p1 p2 p3))), .unset, .unset, .unset] [(.int (((v0_29 p1 p2 p3) <<< ((1 : Int32) &&& 31)) &&& (v0_13 p1 p2 p3)))])) _
    refine XS.istore X6.here hx rfl (hb hby at_58) rfl (l' := #[.val (.int p1), .val (.int p2), .val (.int p3), .val (.int (v0_7 p1 p2 p3)), .val (.int (v0_13 p1 p2 p3)), .val (.int (v0_23 p1 p2 p3)), .val (.int (v0_29 p1 p2 p3)), .val (.ref b2), .val (.int (sp4 (v0_29 p1 p2 p3) (v0_23 p1 p2 p3))), .val (.int (v0_58 p1 p2 p3)), .unset, .unset]) rfl ?_
    show Steps p.tables e below (T6.setTop (mkF m 60 #[.val (.int p1), .val (.int p2), .val (.int p3), .val (.int (v0_7 p1 p2 p3)), .val (.int (v0_13 p1 p2 p3)), .val (.int (v0_23 p1 p2 p3)), .val (.int (v0_29 p1 p2 p3)), .val (.ref b2), .val (.int (sp4 (v0_29 p1 p2 p3) (v0_23 p1 p2 p3))), .val (.int (v0_58 p1 p2 p3)), .unset, .unset] [])) _
    refine XS.iloadN X6.here hx rfl (hb hby at_60) rfl ?_
    exact kt)
  by_cases c61_7 : (0 : Int32) < (v0_7 p1 p2 p3)
  · have k10 : ∀ t, Steps p.tables e below (T6.setTop (mkF m 72 #[.val (.int p1), .val (.int p2), .val (.int p3), .val (.int (v0_7 p1 p2 p3)), .val (.int (v0_13 p1 p2 p3)), .val (.int (v0_23 p1 p2 p3)), .val (.int (v0_29 p1 p2 p3)), .val (.ref b2), .val (.int (sp4 (v0_29 p1 p2 p3) (v0_23 p1 p2 p3))), .val (.int (v0_58 p1 p2 p3)), .unset, .unset] [(.int ((v0_29 p1 p2 p3) &&& ((1 : Int32) <<< (((v0_7 p1 p2 p3) - (1 : Int32)) &&& 31))))])) t → Steps p.tables e below (s₁.setTop (mkF m 0 #[.val (.int p1), .val (.int p2), .val (.int p3), .unset, .unset, .unset, .unset, .unset, .unset, .unset, .unset, .unset] [])) t := fun t kt => k8 t (by
      show Steps p.tables e below (T6.setTop (mkF m 61 #[.val (.int p1), .val (.int p2), .val (.int p3), .val (.int (v0_7 p1 p2 p3)), .val (.int (v0_13 p1 p2 p3)), .val (.int (v0_23 p1 p2 p3)), .val (.int (v0_29 p1 p2 p3)), .val (.ref b2), .val (.int (sp4 (v0_29 p1 p2 p3) (v0_23 p1 p2 p3))), .val (.int (v0_58 p1 p2 p3)), .unset, .unset] [(.int (v0_7 p1 p2 p3))])) _
      refine XS.ifNo X6.here hx rfl (hb hby at_61) rfl ((if0 _ _).trans (tlt c61_7).2.2.2) ?_
      show Steps p.tables e below (T6.setTop (mkF m 64 #[.val (.int p1), .val (.int p2), .val (.int p3), .val (.int (v0_7 p1 p2 p3)), .val (.int (v0_13 p1 p2 p3)), .val (.int (v0_23 p1 p2 p3)), .val (.int (v0_29 p1 p2 p3)), .val (.ref b2), .val (.int (sp4 (v0_29 p1 p2 p3) (v0_23 p1 p2 p3))), .val (.int (v0_58 p1 p2 p3)), .unset, .unset] [])) _
      refine XS.iload X6.here hx rfl (hb hby at_64) rfl ?_
      show Steps p.tables e below (T6.setTop (mkF m 66 #[.val (.int p1), .val (.int p2), .val (.int p3), .val (.int (v0_7 p1 p2 p3)), .val (.int (v0_13 p1 p2 p3)), .val (.int (v0_23 p1 p2 p3)), .val (.int (v0_29 p1 p2 p3)), .val (.ref b2), .val (.int (sp4 (v0_29 p1 p2 p3) (v0_23 p1 p2 p3))), .val (.int (v0_58 p1 p2 p3)), .unset, .unset] [(.int (v0_29 p1 p2 p3))])) _
      refine XS.iconst X6.here hx rfl (hb hby at_66) ?_
      show Steps p.tables e below (T6.setTop (mkF m 67 #[.val (.int p1), .val (.int p2), .val (.int p3), .val (.int (v0_7 p1 p2 p3)), .val (.int (v0_13 p1 p2 p3)), .val (.int (v0_23 p1 p2 p3)), .val (.int (v0_29 p1 p2 p3)), .val (.ref b2), .val (.int (sp4 (v0_29 p1 p2 p3) (v0_23 p1 p2 p3))), .val (.int (v0_58 p1 p2 p3)), .unset, .unset] [(.int (1 : Int32)), (.int (v0_29 p1 p2 p3))])) _
      refine XS.iloadN X6.here hx rfl (hb hby at_67) rfl ?_
      show Steps p.tables e below (T6.setTop (mkF m 68 #[.val (.int p1), .val (.int p2), .val (.int p3), .val (.int (v0_7 p1 p2 p3)), .val (.int (v0_13 p1 p2 p3)), .val (.int (v0_23 p1 p2 p3)), .val (.int (v0_29 p1 p2 p3)), .val (.ref b2), .val (.int (sp4 (v0_29 p1 p2 p3) (v0_23 p1 p2 p3))), .val (.int (v0_58 p1 p2 p3)), .unset, .unset] [(.int (v0_7 p1 p2 p3)), (.int (1 : Int32)), (.int (v0_29 p1 p2 p3))])) _
      refine XS.iconst X6.here hx rfl (hb hby at_68) ?_
      show Steps p.tables e below (T6.setTop (mkF m 69 #[.val (.int p1), .val (.int p2), .val (.int p3), .val (.int (v0_7 p1 p2 p3)), .val (.int (v0_13 p1 p2 p3)), .val (.int (v0_23 p1 p2 p3)), .val (.int (v0_29 p1 p2 p3)), .val (.ref b2), .val (.int (sp4 (v0_29 p1 p2 p3) (v0_23 p1 p2 p3))), .val (.int (v0_58 p1 p2 p3)), .unset, .unset] [(.int (1 : Int32)), (.int (v0_7 p1 p2 p3)), (.int (1 : Int32)), (.int (v0_29 p1 p2 p3))])) _
      refine XS.isub X6.here hx rfl (hb hby at_69) rfl ?_
      show Steps p.tables e below (T6.setTop (mkF m 70 #[.val (.int p1), .val (.int p2), .val (.int p3), .val (.int (v0_7 p1 p2 p3)), .val (.int (v0_13 p1 p2 p3)), .val (.int (v0_23 p1 p2 p3)), .val (.int (v0_29 p1 p2 p3)), .val (.ref b2), .val (.int (sp4 (v0_29 p1 p2 p3) (v0_23 p1 p2 p3))), .val (.int (v0_58 p1 p2 p3)), .unset, .unset] [(.int ((v0_7 p1 p2 p3) - (1 : Int32))), (.int (1 : Int32)), (.int (v0_29 p1 p2 p3))])) _
      refine XS.ishl X6.here hx rfl (hb hby at_70) rfl ?_
      show Steps p.tables e below (T6.setTop (mkF m 71 #[.val (.int p1), .val (.int p2), .val (.int p3), .val (.int (v0_7 p1 p2 p3)), .val (.int (v0_13 p1 p2 p3)), .val (.int (v0_23 p1 p2 p3)), .val (.int (v0_29 p1 p2 p3)), .val (.ref b2), .val (.int (sp4 (v0_29 p1 p2 p3) (v0_23 p1 p2 p3))), .val (.int (v0_58 p1 p2 p3)), .unset, .unset] [(.int ((1 : Int32) <<< (((v0_7 p1 p2 p3) - (1 : Int32)) &&& 31))), (.int (v0_29 p1 p2 p3))])) _
      refine XS.iand X6.here hx rfl (hb hby at_71) rfl ?_
      exact kt)
    by_cases c72_9 : ((v0_29 p1 p2 p3) &&& ((1 : Int32) <<< (((v0_7 p1 p2 p3) - (1 : Int32)) &&& 31))) = (0 : Int32)
    · have k12 : ∀ t, Steps p.tables e below (T6.setTop (mkF m 84 #[.val (.int p1), .val (.int p2), .val (.int p3), .val (.int (v0_7 p1 p2 p3)), .val (.int (v0_13 p1 p2 p3)), .val (.int (v0_23 p1 p2 p3)), .val (.int (v0_29 p1 p2 p3)), .val (.ref b2), .val (.int (sp4 (v0_29 p1 p2 p3) (v0_23 p1 p2 p3))), .val (.int (v0_58 p1 p2 p3)), .val (.int (0 : Int32)), .unset] [(.int (0 : Int32))])) t → Steps p.tables e below (s₁.setTop (mkF m 0 #[.val (.int p1), .val (.int p2), .val (.int p3), .unset, .unset, .unset, .unset, .unset, .unset, .unset, .unset, .unset] [])) t := fun t kt => k10 t (by
        show Steps p.tables e below (T6.setTop (mkF m 72 #[.val (.int p1), .val (.int p2), .val (.int p3), .val (.int (v0_7 p1 p2 p3)), .val (.int (v0_13 p1 p2 p3)), .val (.int (v0_23 p1 p2 p3)), .val (.int (v0_29 p1 p2 p3)), .val (.ref b2), .val (.int (sp4 (v0_29 p1 p2 p3) (v0_23 p1 p2 p3))), .val (.int (v0_58 p1 p2 p3)), .unset, .unset] [(.int ((v0_29 p1 p2 p3) &&& ((1 : Int32) <<< (((v0_7 p1 p2 p3) - (1 : Int32)) &&& 31))))])) _
        refine XS.ifYes X6.here hx rfl (pc0 := 72) (pc' := 79) rfl (hb hby at_72) rfl ((if0 _ _).trans (teq c72_9).1) (by decide) (by decide) ?_
        show Steps p.tables e below (T6.setTop (mkF m 79 #[.val (.int p1), .val (.int p2), .val (.int p3), .val (.int (v0_7 p1 p2 p3)), .val (.int (v0_13 p1 p2 p3)), .val (.int (v0_23 p1 p2 p3)), .val (.int (v0_29 p1 p2 p3)), .val (.ref b2), .val (.int (sp4 (v0_29 p1 p2 p3) (v0_23 p1 p2 p3))), .val (.int (v0_58 p1 p2 p3)), .unset, .unset] [])) _
        refine XS.iconst X6.here hx rfl (hb hby at_79) ?_
        show Steps p.tables e below (T6.setTop (mkF m 80 #[.val (.int p1), .val (.int p2), .val (.int p3), .val (.int (v0_7 p1 p2 p3)), .val (.int (v0_13 p1 p2 p3)), .val (.int (v0_23 p1 p2 p3)), .val (.int (v0_29 p1 p2 p3)), .val (.ref b2), .val (.int (sp4 (v0_29 p1 p2 p3) (v0_23 p1 p2 p3))), .val (.int (v0_58 p1 p2 p3)), .unset, .unset] [(.int (0 : Int32))])) _
        refine XS.istore X6.here hx rfl (hb hby at_80) rfl (l' := #[.val (.int p1), .val (.int p2), .val (.int p3), .val (.int (v0_7 p1 p2 p3)), .val (.int (v0_13 p1 p2 p3)), .val (.int (v0_23 p1 p2 p3)), .val (.int (v0_29 p1 p2 p3)), .val (.ref b2), .val (.int (sp4 (v0_29 p1 p2 p3) (v0_23 p1 p2 p3))), .val (.int (v0_58 p1 p2 p3)), .val (.int (0 : Int32)), .unset]) rfl ?_
        show Steps p.tables e below (T6.setTop (mkF m 82 #[.val (.int p1), .val (.int p2), .val (.int p3), .val (.int (v0_7 p1 p2 p3)), .val (.int (v0_13 p1 p2 p3)), .val (.int (v0_23 p1 p2 p3)), .val (.int (v0_29 p1 p2 p3)), .val (.ref b2), .val (.int (sp4 (v0_29 p1 p2 p3) (v0_23 p1 p2 p3))), .val (.int (v0_58 p1 p2 p3)), .val (.int (0 : Int32)), .unset] [])) _
        refine XS.iload X6.here hx rfl (hb hby at_82) rfl ?_
        exact kt)
      have c84_11 : (0 : Int32) = (0 : Int32) := by decide
      have k14 : ∀ t, Steps p.tables e below (T6.setTop (mkF m 106 #[.val (.int p1), .val (.int p2), .val (.int p3), .val (.int (v0_7 p1 p2 p3)), .val (.int (v0_13 p1 p2 p3)), .val (.int (v0_23 p1 p2 p3)), .val (.int (v0_29 p1 p2 p3)), .val (.ref b2), .val (.int (sp4 (v0_29 p1 p2 p3) (v0_23 p1 p2 p3))), .val (.int (v0_58 p1 p2 p3)), .val (.int (0 : Int32)), .val (.int (v0_58 p1 p2 p3))] [(.int (v0_58 p1 p2 p3)), (.int (sp4 (v0_29 p1 p2 p3) (v0_23 p1 p2 p3)))])) t → Steps p.tables e below (s₁.setTop (mkF m 0 #[.val (.int p1), .val (.int p2), .val (.int p3), .unset, .unset, .unset, .unset, .unset, .unset, .unset, .unset, .unset] [])) t := fun t kt => k12 t (by
        show Steps p.tables e below (T6.setTop (mkF m 84 #[.val (.int p1), .val (.int p2), .val (.int p3), .val (.int (v0_7 p1 p2 p3)), .val (.int (v0_13 p1 p2 p3)), .val (.int (v0_23 p1 p2 p3)), .val (.int (v0_29 p1 p2 p3)), .val (.ref b2), .val (.int (sp4 (v0_29 p1 p2 p3) (v0_23 p1 p2 p3))), .val (.int (v0_58 p1 p2 p3)), .val (.int (0 : Int32)), .unset] [(.int (0 : Int32))])) _
        refine XS.ifYes X6.here hx rfl (pc0 := 84) (pc' := 98) rfl (hb hby at_84) rfl ((if0 _ _).trans (teq c84_11).1) (by decide) (by decide) ?_
        show Steps p.tables e below (T6.setTop (mkF m 98 #[.val (.int p1), .val (.int p2), .val (.int p3), .val (.int (v0_7 p1 p2 p3)), .val (.int (v0_13 p1 p2 p3)), .val (.int (v0_23 p1 p2 p3)), .val (.int (v0_29 p1 p2 p3)), .val (.ref b2), .val (.int (sp4 (v0_29 p1 p2 p3) (v0_23 p1 p2 p3))), .val (.int (v0_58 p1 p2 p3)), .val (.int (0 : Int32)), .unset] [])) _
        refine XS.iload X6.here hx rfl (hb hby at_98) rfl ?_
        show Steps p.tables e below (T6.setTop (mkF m 100 #[.val (.int p1), .val (.int p2), .val (.int p3), .val (.int (v0_7 p1 p2 p3)), .val (.int (v0_13 p1 p2 p3)), .val (.int (v0_23 p1 p2 p3)), .val (.int (v0_29 p1 p2 p3)), .val (.ref b2), .val (.int (sp4 (v0_29 p1 p2 p3) (v0_23 p1 p2 p3))), .val (.int (v0_58 p1 p2 p3)), .val (.int (0 : Int32)), .unset] [(.int (v0_58 p1 p2 p3))])) _
        refine XS.istore X6.here hx rfl (hb hby at_100) rfl (l' := #[.val (.int p1), .val (.int p2), .val (.int p3), .val (.int (v0_7 p1 p2 p3)), .val (.int (v0_13 p1 p2 p3)), .val (.int (v0_23 p1 p2 p3)), .val (.int (v0_29 p1 p2 p3)), .val (.ref b2), .val (.int (sp4 (v0_29 p1 p2 p3) (v0_23 p1 p2 p3))), .val (.int (v0_58 p1 p2 p3)), .val (.int (0 : Int32)), .val (.int (v0_58 p1 p2 p3))]) rfl ?_
        show Steps p.tables e below (T6.setTop (mkF m 102 #[.val (.int p1), .val (.int p2), .val (.int p3), .val (.int (v0_7 p1 p2 p3)), .val (.int (v0_13 p1 p2 p3)), .val (.int (v0_23 p1 p2 p3)), .val (.int (v0_29 p1 p2 p3)), .val (.ref b2), .val (.int (sp4 (v0_29 p1 p2 p3) (v0_23 p1 p2 p3))), .val (.int (v0_58 p1 p2 p3)), .val (.int (0 : Int32)), .val (.int (v0_58 p1 p2 p3))] [])) _
        refine XS.iload X6.here hx rfl (hb hby at_102) rfl ?_
        show Steps p.tables e below (T6.setTop (mkF m 104 #[.val (.int p1), .val (.int p2), .val (.int p3), .val (.int (v0_7 p1 p2 p3)), .val (.int (v0_13 p1 p2 p3)), .val (.int (v0_23 p1 p2 p3)), .val (.int (v0_29 p1 p2 p3)), .val (.ref b2), .val (.int (sp4 (v0_29 p1 p2 p3) (v0_23 p1 p2 p3))), .val (.int (v0_58 p1 p2 p3)), .val (.int (0 : Int32)), .val (.int (v0_58 p1 p2 p3))] [(.int (sp4 (v0_29 p1 p2 p3) (v0_23 p1 p2 p3)))])) _
        refine XS.iload X6.here hx rfl (hb hby at_104) rfl ?_
        exact kt)
      by_cases c106_13 : (sp4 (v0_29 p1 p2 p3) (v0_23 p1 p2 p3)) = (v0_58 p1 p2 p3)
      · obtain ⟨fs, hr, hrun, hended, hW, hsame⟩ := X6.leave (v := some (.int (1 : Int32))) (fun h => by rw [Bd.returns] at h; cases h)
        refine ⟨_, _, pre0 _ (k14 _ ?_), hrun, hended, _, _, rfl, ?_, ⟨_, rfl⟩, hW, hsame.mono (by decide) (by decide)⟩
        · show Steps p.tables e below (T6.setTop (mkF m 106 #[.val (.int p1), .val (.int p2), .val (.int p3), .val (.int (v0_7 p1 p2 p3)), .val (.int (v0_13 p1 p2 p3)), .val (.int (v0_23 p1 p2 p3)), .val (.int (v0_29 p1 p2 p3)), .val (.ref b2), .val (.int (sp4 (v0_29 p1 p2 p3) (v0_23 p1 p2 p3))), .val (.int (v0_58 p1 p2 p3)), .val (.int (0 : Int32)), .val (.int (v0_58 p1 p2 p3))] [(.int (v0_58 p1 p2 p3)), (.int (sp4 (v0_29 p1 p2 p3) (v0_23 p1 p2 p3)))])) _
          refine XS.icmpNo X6.here hx rfl (hb hby at_106) rfl (teq c106_13).2 ?_
          show Steps p.tables e below (T6.setTop (mkF m 109 #[.val (.int p1), .val (.int p2), .val (.int p3), .val (.int (v0_7 p1 p2 p3)), .val (.int (v0_13 p1 p2 p3)), .val (.int (v0_23 p1 p2 p3)), .val (.int (v0_29 p1 p2 p3)), .val (.ref b2), .val (.int (sp4 (v0_29 p1 p2 p3) (v0_23 p1 p2 p3))), .val (.int (v0_58 p1 p2 p3)), .val (.int (0 : Int32)), .val (.int (v0_58 p1 p2 p3))] [])) _
          refine XS.iconst X6.here hx rfl (hb hby at_109) ?_
          show Steps p.tables e below (T6.setTop (mkF m 110 #[.val (.int p1), .val (.int p2), .val (.int p3), .val (.int (v0_7 p1 p2 p3)), .val (.int (v0_13 p1 p2 p3)), .val (.int (v0_23 p1 p2 p3)), .val (.int (v0_29 p1 p2 p3)), .val (.ref b2), .val (.int (sp4 (v0_29 p1 p2 p3) (v0_23 p1 p2 p3))), .val (.int (v0_58 p1 p2 p3)), .val (.int (0 : Int32)), .val (.int (v0_58 p1 p2 p3))] [(.int (1 : Int32))])) _
          refine XS.goto X6.here hx rfl (pc0 := 110) (pc' := 114) rfl (hb hby at_110) (by decide) (by decide) ?_
          show Steps p.tables e below (T6.setTop (mkF m 114 #[.val (.int p1), .val (.int p2), .val (.int p3), .val (.int (v0_7 p1 p2 p3)), .val (.int (v0_13 p1 p2 p3)), .val (.int (v0_23 p1 p2 p3)), .val (.int (v0_29 p1 p2 p3)), .val (.ref b2), .val (.int (sp4 (v0_29 p1 p2 p3) (v0_23 p1 p2 p3))), .val (.int (v0_58 p1 p2 p3)), .val (.int (0 : Int32)), .val (.int (v0_58 p1 p2 p3))] [(.int (1 : Int32))])) _
          exact retN X6 hx (t := .boolean) Bd.returns (by simp) (hb hby at_114) hr
        · show Q0 Z p1 p2 p3 h0 n0 _ T6.heap _
          rw [hh6]
          have hv : sp0 p1 p2 p3 = (1 : Int32) := by unfold sp0; rw [if_pos c61_7, if_pos c72_9, if_pos c106_13]
          exact ⟨by rw [← hv, own_law p1 p2 p3], N6⟩
      · obtain ⟨fs, hr, hrun, hended, hW, hsame⟩ := X6.leave (v := some (.int (0 : Int32))) (fun h => by rw [Bd.returns] at h; cases h)
        refine ⟨_, _, pre0 _ (k14 _ ?_), hrun, hended, _, _, rfl, ?_, ⟨_, rfl⟩, hW, hsame.mono (by decide) (by decide)⟩
        · show Steps p.tables e below (T6.setTop (mkF m 106 #[.val (.int p1), .val (.int p2), .val (.int p3), .val (.int (v0_7 p1 p2 p3)), .val (.int (v0_13 p1 p2 p3)), .val (.int (v0_23 p1 p2 p3)), .val (.int (v0_29 p1 p2 p3)), .val (.ref b2), .val (.int (sp4 (v0_29 p1 p2 p3) (v0_23 p1 p2 p3))), .val (.int (v0_58 p1 p2 p3)), .val (.int (0 : Int32)), .val (.int (v0_58 p1 p2 p3))] [(.int (v0_58 p1 p2 p3)), (.int (sp4 (v0_29 p1 p2 p3) (v0_23 p1 p2 p3)))])) _
          refine XS.icmpYes X6.here hx rfl (pc0 := 106) (pc' := 113) rfl (hb hby at_106) rfl (feq c106_13).2 (by decide) (by decide) ?_
          show Steps p.tables e below (T6.setTop (mkF m 113 #[.val (.int p1), .val (.int p2), .val (.int p3), .val (.int (v0_7 p1 p2 p3)), .val (.int (v0_13 p1 p2 p3)), .val (.int (v0_23 p1 p2 p3)), .val (.int (v0_29 p1 p2 p3)), .val (.ref b2), .val (.int (sp4 (v0_29 p1 p2 p3) (v0_23 p1 p2 p3))), .val (.int (v0_58 p1 p2 p3)), .val (.int (0 : Int32)), .val (.int (v0_58 p1 p2 p3))] [])) _
          refine XS.iconst X6.here hx rfl (hb hby at_113) ?_
          show Steps p.tables e below (T6.setTop (mkF m 114 #[.val (.int p1), .val (.int p2), .val (.int p3), .val (.int (v0_7 p1 p2 p3)), .val (.int (v0_13 p1 p2 p3)), .val (.int (v0_23 p1 p2 p3)), .val (.int (v0_29 p1 p2 p3)), .val (.ref b2), .val (.int (sp4 (v0_29 p1 p2 p3) (v0_23 p1 p2 p3))), .val (.int (v0_58 p1 p2 p3)), .val (.int (0 : Int32)), .val (.int (v0_58 p1 p2 p3))] [(.int (0 : Int32))])) _
          exact retN X6 hx (t := .boolean) Bd.returns (by simp) (hb hby at_114) hr
        · show Q0 Z p1 p2 p3 h0 n0 _ T6.heap _
          rw [hh6]
          have hv : sp0 p1 p2 p3 = (0 : Int32) := by unfold sp0; rw [if_pos c61_7, if_pos c72_9, if_neg c106_13]
          exact ⟨by rw [← hv, own_law p1 p2 p3], N6⟩
    · have k16 : ∀ t, Steps p.tables e below (T6.setTop (mkF m 84 #[.val (.int p1), .val (.int p2), .val (.int p3), .val (.int (v0_7 p1 p2 p3)), .val (.int (v0_13 p1 p2 p3)), .val (.int (v0_23 p1 p2 p3)), .val (.int (v0_29 p1 p2 p3)), .val (.ref b2), .val (.int (sp4 (v0_29 p1 p2 p3) (v0_23 p1 p2 p3))), .val (.int (v0_58 p1 p2 p3)), .val (.int (1 : Int32)), .unset] [(.int (1 : Int32))])) t → Steps p.tables e below (s₁.setTop (mkF m 0 #[.val (.int p1), .val (.int p2), .val (.int p3), .unset, .unset, .unset, .unset, .unset, .unset, .unset, .unset, .unset] [])) t := fun t kt => k10 t (by
        show Steps p.tables e below (T6.setTop (mkF m 72 #[.val (.int p1), .val (.int p2), .val (.int p3), .val (.int (v0_7 p1 p2 p3)), .val (.int (v0_13 p1 p2 p3)), .val (.int (v0_23 p1 p2 p3)), .val (.int (v0_29 p1 p2 p3)), .val (.ref b2), .val (.int (sp4 (v0_29 p1 p2 p3) (v0_23 p1 p2 p3))), .val (.int (v0_58 p1 p2 p3)), .unset, .unset] [(.int ((v0_29 p1 p2 p3) &&& ((1 : Int32) <<< (((v0_7 p1 p2 p3) - (1 : Int32)) &&& 31))))])) _
        refine XS.ifNo X6.here hx rfl (hb hby at_72) rfl ((if0 _ _).trans (feq c72_9).1) ?_
        show Steps p.tables e below (T6.setTop (mkF m 75 #[.val (.int p1), .val (.int p2), .val (.int p3), .val (.int (v0_7 p1 p2 p3)), .val (.int (v0_13 p1 p2 p3)), .val (.int (v0_23 p1 p2 p3)), .val (.int (v0_29 p1 p2 p3)), .val (.ref b2), .val (.int (sp4 (v0_29 p1 p2 p3) (v0_23 p1 p2 p3))), .val (.int (v0_58 p1 p2 p3)), .unset, .unset] [])) _
        refine XS.iconst X6.here hx rfl (hb hby at_75) ?_
        show Steps p.tables e below (T6.setTop (mkF m 76 #[.val (.int p1), .val (.int p2), .val (.int p3), .val (.int (v0_7 p1 p2 p3)), .val (.int (v0_13 p1 p2 p3)), .val (.int (v0_23 p1 p2 p3)), .val (.int (v0_29 p1 p2 p3)), .val (.ref b2), .val (.int (sp4 (v0_29 p1 p2 p3) (v0_23 p1 p2 p3))), .val (.int (v0_58 p1 p2 p3)), .unset, .unset] [(.int (1 : Int32))])) _
        refine XS.goto X6.here hx rfl (pc0 := 76) (pc' := 80) rfl (hb hby at_76) (by decide) (by decide) ?_
        show Steps p.tables e below (T6.setTop (mkF m 80 #[.val (.int p1), .val (.int p2), .val (.int p3), .val (.int (v0_7 p1 p2 p3)), .val (.int (v0_13 p1 p2 p3)), .val (.int (v0_23 p1 p2 p3)), .val (.int (v0_29 p1 p2 p3)), .val (.ref b2), .val (.int (sp4 (v0_29 p1 p2 p3) (v0_23 p1 p2 p3))), .val (.int (v0_58 p1 p2 p3)), .unset, .unset] [(.int (1 : Int32))])) _
        refine XS.istore X6.here hx rfl (hb hby at_80) rfl (l' := #[.val (.int p1), .val (.int p2), .val (.int p3), .val (.int (v0_7 p1 p2 p3)), .val (.int (v0_13 p1 p2 p3)), .val (.int (v0_23 p1 p2 p3)), .val (.int (v0_29 p1 p2 p3)), .val (.ref b2), .val (.int (sp4 (v0_29 p1 p2 p3) (v0_23 p1 p2 p3))), .val (.int (v0_58 p1 p2 p3)), .val (.int (1 : Int32)), .unset]) rfl ?_
        show Steps p.tables e below (T6.setTop (mkF m 82 #[.val (.int p1), .val (.int p2), .val (.int p3), .val (.int (v0_7 p1 p2 p3)), .val (.int (v0_13 p1 p2 p3)), .val (.int (v0_23 p1 p2 p3)), .val (.int (v0_29 p1 p2 p3)), .val (.ref b2), .val (.int (sp4 (v0_29 p1 p2 p3) (v0_23 p1 p2 p3))), .val (.int (v0_58 p1 p2 p3)), .val (.int (1 : Int32)), .unset] [])) _
        refine XS.iload X6.here hx rfl (hb hby at_82) rfl ?_
        exact kt)
      have c84_15 : ¬ ((1 : Int32) = (0 : Int32)) := by decide
      have k18 : ∀ t, Steps p.tables e below (T6.setTop (mkF m 106 #[.val (.int p1), .val (.int p2), .val (.int p3), .val (.int (v0_7 p1 p2 p3)), .val (.int (v0_13 p1 p2 p3)), .val (.int (v0_23 p1 p2 p3)), .val (.int (v0_29 p1 p2 p3)), .val (.ref b2), .val (.int (sp4 (v0_29 p1 p2 p3) (v0_23 p1 p2 p3))), .val (.int (v0_58 p1 p2 p3)), .val (.int (1 : Int32)), .val (.int ((v0_58 p1 p2 p3) ^^^ ((v0_23 p1 p2 p3) &&& (v0_13 p1 p2 p3))))] [(.int ((v0_58 p1 p2 p3) ^^^ ((v0_23 p1 p2 p3) &&& (v0_13 p1 p2 p3)))), (.int (sp4 (v0_29 p1 p2 p3) (v0_23 p1 p2 p3)))])) t → Steps p.tables e below (s₁.setTop (mkF m 0 #[.val (.int p1), .val (.int p2), .val (.int p3), .unset, .unset, .unset, .unset, .unset, .unset, .unset, .unset, .unset] [])) t := fun t kt => k16 t (by
        show Steps p.tables e below (T6.setTop (mkF m 84 #[.val (.int p1), .val (.int p2), .val (.int p3), .val (.int (v0_7 p1 p2 p3)), .val (.int (v0_13 p1 p2 p3)), .val (.int (v0_23 p1 p2 p3)), .val (.int (v0_29 p1 p2 p3)), .val (.ref b2), .val (.int (sp4 (v0_29 p1 p2 p3) (v0_23 p1 p2 p3))), .val (.int (v0_58 p1 p2 p3)), .val (.int (1 : Int32)), .unset] [(.int (1 : Int32))])) _
        refine XS.ifNo X6.here hx rfl (hb hby at_84) rfl ((if0 _ _).trans (feq c84_15).1) ?_
        show Steps p.tables e below (T6.setTop (mkF m 87 #[.val (.int p1), .val (.int p2), .val (.int p3), .val (.int (v0_7 p1 p2 p3)), .val (.int (v0_13 p1 p2 p3)), .val (.int (v0_23 p1 p2 p3)), .val (.int (v0_29 p1 p2 p3)), .val (.ref b2), .val (.int (sp4 (v0_29 p1 p2 p3) (v0_23 p1 p2 p3))), .val (.int (v0_58 p1 p2 p3)), .val (.int (1 : Int32)), .unset] [])) _
        refine XS.iload X6.here hx rfl (hb hby at_87) rfl ?_
        show Steps p.tables e below (T6.setTop (mkF m 89 #[.val (.int p1), .val (.int p2), .val (.int p3), .val (.int (v0_7 p1 p2 p3)), .val (.int (v0_13 p1 p2 p3)), .val (.int (v0_23 p1 p2 p3)), .val (.int (v0_29 p1 p2 p3)), .val (.ref b2), .val (.int (sp4 (v0_29 p1 p2 p3) (v0_23 p1 p2 p3))), .val (.int (v0_58 p1 p2 p3)), .val (.int (1 : Int32)), .unset] [(.int (v0_58 p1 p2 p3))])) _
        refine XS.iload X6.here hx rfl (hb hby at_89) rfl ?_
        show Steps p.tables e below (T6.setTop (mkF m 91 #[.val (.int p1), .val (.int p2), .val (.int p3), .val (.int (v0_7 p1 p2 p3)), .val (.int (v0_13 p1 p2 p3)), .val (.int (v0_23 p1 p2 p3)), .val (.int (v0_29 p1 p2 p3)), .val (.ref b2), .val (.int (sp4 (v0_29 p1 p2 p3) (v0_23 p1 p2 p3))), .val (.int (v0_58 p1 p2 p3)), .val (.int (1 : Int32)), .unset] [(.int (v0_23 p1 p2 p3)), (.int (v0_58 p1 p2 p3))])) _
        refine XS.iload X6.here hx rfl (hb hby at_91) rfl ?_
        show Steps p.tables e below (T6.setTop (mkF m 93 #[.val (.int p1), .val (.int p2), .val (.int p3), .val (.int (v0_7 p1 p2 p3)), .val (.int (v0_13 p1 p2 p3)), .val (.int (v0_23 p1 p2 p3)), .val (.int (v0_29 p1 p2 p3)), .val (.ref b2), .val (.int (sp4 (v0_29 p1 p2 p3) (v0_23 p1 p2 p3))), .val (.int (v0_58 p1 p2 p3)), .val (.int (1 : Int32)), .unset] [(.int (v0_13 p1 p2 p3)), (.int (v0_23 p1 p2 p3)), (.int (v0_58 p1 p2 p3))])) _
        refine XS.iand X6.here hx rfl (hb hby at_93) rfl ?_
        show Steps p.tables e below (T6.setTop (mkF m 94 #[.val (.int p1), .val (.int p2), .val (.int p3), .val (.int (v0_7 p1 p2 p3)), .val (.int (v0_13 p1 p2 p3)), .val (.int (v0_23 p1 p2 p3)), .val (.int (v0_29 p1 p2 p3)), .val (.ref b2), .val (.int (sp4 (v0_29 p1 p2 p3) (v0_23 p1 p2 p3))), .val (.int (v0_58 p1 p2 p3)), .val (.int (1 : Int32)), .unset] [(.int ((v0_23 p1 p2 p3) &&& (v0_13 p1 p2 p3))), (.int (v0_58 p1 p2 p3))])) _
        refine XS.ixor X6.here hx rfl (hb hby at_94) rfl ?_
        show Steps p.tables e below (T6.setTop (mkF m 95 #[.val (.int p1), .val (.int p2), .val (.int p3), .val (.int (v0_7 p1 p2 p3)), .val (.int (v0_13 p1 p2 p3)), .val (.int (v0_23 p1 p2 p3)), .val (.int (v0_29 p1 p2 p3)), .val (.ref b2), .val (.int (sp4 (v0_29 p1 p2 p3) (v0_23 p1 p2 p3))), .val (.int (v0_58 p1 p2 p3)), .val (.int (1 : Int32)), .unset] [(.int ((v0_58 p1 p2 p3) ^^^ ((v0_23 p1 p2 p3) &&& (v0_13 p1 p2 p3))))])) _
        refine XS.goto X6.here hx rfl (pc0 := 95) (pc' := 100) rfl (hb hby at_95) (by decide) (by decide) ?_
        show Steps p.tables e below (T6.setTop (mkF m 100 #[.val (.int p1), .val (.int p2), .val (.int p3), .val (.int (v0_7 p1 p2 p3)), .val (.int (v0_13 p1 p2 p3)), .val (.int (v0_23 p1 p2 p3)), .val (.int (v0_29 p1 p2 p3)), .val (.ref b2), .val (.int (sp4 (v0_29 p1 p2 p3) (v0_23 p1 p2 p3))), .val (.int (v0_58 p1 p2 p3)), .val (.int (1 : Int32)), .unset] [(.int ((v0_58 p1 p2 p3) ^^^ ((v0_23 p1 p2 p3) &&& (v0_13 p1 p2 p3))))])) _
        refine XS.istore X6.here hx rfl (hb hby at_100) rfl (l' := #[.val (.int p1), .val (.int p2), .val (.int p3), .val (.int (v0_7 p1 p2 p3)), .val (.int (v0_13 p1 p2 p3)), .val (.int (v0_23 p1 p2 p3)), .val (.int (v0_29 p1 p2 p3)), .val (.ref b2), .val (.int (sp4 (v0_29 p1 p2 p3) (v0_23 p1 p2 p3))), .val (.int (v0_58 p1 p2 p3)), .val (.int (1 : Int32)), .val (.int ((v0_58 p1 p2 p3) ^^^ ((v0_23 p1 p2 p3) &&& (v0_13 p1 p2 p3))))]) rfl ?_
        show Steps p.tables e below (T6.setTop (mkF m 102 #[.val (.int p1), .val (.int p2), .val (.int p3), .val (.int (v0_7 p1 p2 p3)), .val (.int (v0_13 p1 p2 p3)), .val (.int (v0_23 p1 p2 p3)), .val (.int (v0_29 p1 p2 p3)), .val (.ref b2), .val (.int (sp4 (v0_29 p1 p2 p3) (v0_23 p1 p2 p3))), .val (.int (v0_58 p1 p2 p3)), .val (.int (1 : Int32)), .val (.int ((v0_58 p1 p2 p3) ^^^ ((v0_23 p1 p2 p3) &&& (v0_13 p1 p2 p3))))] [])) _
        refine XS.iload X6.here hx rfl (hb hby at_102) rfl ?_
        show Steps p.tables e below (T6.setTop (mkF m 104 #[.val (.int p1), .val (.int p2), .val (.int p3), .val (.int (v0_7 p1 p2 p3)), .val (.int (v0_13 p1 p2 p3)), .val (.int (v0_23 p1 p2 p3)), .val (.int (v0_29 p1 p2 p3)), .val (.ref b2), .val (.int (sp4 (v0_29 p1 p2 p3) (v0_23 p1 p2 p3))), .val (.int (v0_58 p1 p2 p3)), .val (.int (1 : Int32)), .val (.int ((v0_58 p1 p2 p3) ^^^ ((v0_23 p1 p2 p3) &&& (v0_13 p1 p2 p3))))] [(.int (sp4 (v0_29 p1 p2 p3) (v0_23 p1 p2 p3)))])) _
        refine XS.iload X6.here hx rfl (hb hby at_104) rfl ?_
        exact kt)
      by_cases c106_17 : (sp4 (v0_29 p1 p2 p3) (v0_23 p1 p2 p3)) = ((v0_58 p1 p2 p3) ^^^ ((v0_23 p1 p2 p3) &&& (v0_13 p1 p2 p3)))
      · obtain ⟨fs, hr, hrun, hended, hW, hsame⟩ := X6.leave (v := some (.int (1 : Int32))) (fun h => by rw [Bd.returns] at h; cases h)
        refine ⟨_, _, pre0 _ (k18 _ ?_), hrun, hended, _, _, rfl, ?_, ⟨_, rfl⟩, hW, hsame.mono (by decide) (by decide)⟩
        · show Steps p.tables e below (T6.setTop (mkF m 106 #[.val (.int p1), .val (.int p2), .val (.int p3), .val (.int (v0_7 p1 p2 p3)), .val (.int (v0_13 p1 p2 p3)), .val (.int (v0_23 p1 p2 p3)), .val (.int (v0_29 p1 p2 p3)), .val (.ref b2), .val (.int (sp4 (v0_29 p1 p2 p3) (v0_23 p1 p2 p3))), .val (.int (v0_58 p1 p2 p3)), .val (.int (1 : Int32)), .val (.int ((v0_58 p1 p2 p3) ^^^ ((v0_23 p1 p2 p3) &&& (v0_13 p1 p2 p3))))] [(.int ((v0_58 p1 p2 p3) ^^^ ((v0_23 p1 p2 p3) &&& (v0_13 p1 p2 p3)))), (.int (sp4 (v0_29 p1 p2 p3) (v0_23 p1 p2 p3)))])) _
          refine XS.icmpNo X6.here hx rfl (hb hby at_106) rfl (teq c106_17).2 ?_
          show Steps p.tables e below (T6.setTop (mkF m 109 #[.val (.int p1), .val (.int p2), .val (.int p3), .val (.int (v0_7 p1 p2 p3)), .val (.int (v0_13 p1 p2 p3)), .val (.int (v0_23 p1 p2 p3)), .val (.int (v0_29 p1 p2 p3)), .val (.ref b2), .val (.int (sp4 (v0_29 p1 p2 p3) (v0_23 p1 p2 p3))), .val (.int (v0_58 p1 p2 p3)), .val (.int (1 : Int32)), .val (.int ((v0_58 p1 p2 p3) ^^^ ((v0_23 p1 p2 p3) &&& (v0_13 p1 p2 p3))))] [])) _
          refine XS.iconst X6.here hx rfl (hb hby at_109) ?_
          show Steps p.tables e below (T6.setTop (mkF m 110 #[.val (.int p1), .val (.int p2), .val (.int p3), .val (.int (v0_7 p1 p2 p3)), .val (.int (v0_13 p1 p2 p3)), .val (.int (v0_23 p1 p2 p3)), .val (.int (v0_29 p1 p2 p3)), .val (.ref b2), .val (.int (sp4 (v0_29 p1 p2 p3) (v0_23 p1 p2 p3))), .val (.int (v0_58 p1 p2 p3)), .val (.int (1 : Int32)), .val (.int ((v0_58 p1 p2 p3) ^^^ ((v0_23 p1 p2 p3) &&& (v0_13 p1 p2 p3))))] [(.int (1 : Int32))])) _
          refine XS.goto X6.here hx rfl (pc0 := 110) (pc' := 114) rfl (hb hby at_110) (by decide) (by decide) ?_
          show Steps p.tables e below (T6.setTop (mkF m 114 #[.val (.int p1), .val (.int p2), .val (.int p3), .val (.int (v0_7 p1 p2 p3)), .val (.int (v0_13 p1 p2 p3)), .val (.int (v0_23 p1 p2 p3)), .val (.int (v0_29 p1 p2 p3)), .val (.ref b2), .val (.int (sp4 (v0_29 p1 p2 p3) (v0_23 p1 p2 p3))), .val (.int (v0_58 p1 p2 p3)), .val (.int (1 : Int32)), .val (.int ((v0_58 p1 p2 p3) ^^^ ((v0_23 p1 p2 p3) &&& (v0_13 p1 p2 p3))))] [(.int (1 : Int32))])) _
          exact retN X6 hx (t := .boolean) Bd.returns (by simp) (hb hby at_114) hr
        · show Q0 Z p1 p2 p3 h0 n0 _ T6.heap _
          rw [hh6]
          have hv : sp0 p1 p2 p3 = (1 : Int32) := by unfold sp0; rw [if_pos c61_7, if_neg c72_9, if_pos c106_17]
          exact ⟨by rw [← hv, own_law p1 p2 p3], N6⟩
      · obtain ⟨fs, hr, hrun, hended, hW, hsame⟩ := X6.leave (v := some (.int (0 : Int32))) (fun h => by rw [Bd.returns] at h; cases h)
        refine ⟨_, _, pre0 _ (k18 _ ?_), hrun, hended, _, _, rfl, ?_, ⟨_, rfl⟩, hW, hsame.mono (by decide) (by decide)⟩
        · show Steps p.tables e below (T6.setTop (mkF m 106 #[.val (.int p1), .val (.int p2), .val (.int p3), .val (.int (v0_7 p1 p2 p3)), .val (.int (v0_13 p1 p2 p3)), .val (.int (v0_23 p1 p2 p3)), .val (.int (v0_29 p1 p2 p3)), .val (.ref b2), .val (.int (sp4 (v0_29 p1 p2 p3) (v0_23 p1 p2 p3))), .val (.int (v0_58 p1 p2 p3)), .val (.int (1 : Int32)), .val (.int ((v0_58 p1 p2 p3) ^^^ ((v0_23 p1 p2 p3) &&& (v0_13 p1 p2 p3))))] [(.int ((v0_58 p1 p2 p3) ^^^ ((v0_23 p1 p2 p3) &&& (v0_13 p1 p2 p3)))), (.int (sp4 (v0_29 p1 p2 p3) (v0_23 p1 p2 p3)))])) _
          refine XS.icmpYes X6.here hx rfl (pc0 := 106) (pc' := 113) rfl (hb hby at_106) rfl (feq c106_17).2 (by decide) (by decide) ?_
          show Steps p.tables e below (T6.setTop (mkF m 113 #[.val (.int p1), .val (.int p2), .val (.int p3), .val (.int (v0_7 p1 p2 p3)), .val (.int (v0_13 p1 p2 p3)), .val (.int (v0_23 p1 p2 p3)), .val (.int (v0_29 p1 p2 p3)), .val (.ref b2), .val (.int (sp4 (v0_29 p1 p2 p3) (v0_23 p1 p2 p3))), .val (.int (v0_58 p1 p2 p3)), .val (.int (1 : Int32)), .val (.int ((v0_58 p1 p2 p3) ^^^ ((v0_23 p1 p2 p3) &&& (v0_13 p1 p2 p3))))] [])) _
          refine XS.iconst X6.here hx rfl (hb hby at_113) ?_
          show Steps p.tables e below (T6.setTop (mkF m 114 #[.val (.int p1), .val (.int p2), .val (.int p3), .val (.int (v0_7 p1 p2 p3)), .val (.int (v0_13 p1 p2 p3)), .val (.int (v0_23 p1 p2 p3)), .val (.int (v0_29 p1 p2 p3)), .val (.ref b2), .val (.int (sp4 (v0_29 p1 p2 p3) (v0_23 p1 p2 p3))), .val (.int (v0_58 p1 p2 p3)), .val (.int (1 : Int32)), .val (.int ((v0_58 p1 p2 p3) ^^^ ((v0_23 p1 p2 p3) &&& (v0_13 p1 p2 p3))))] [(.int (0 : Int32))])) _
          exact retN X6 hx (t := .boolean) Bd.returns (by simp) (hb hby at_114) hr
        · show Q0 Z p1 p2 p3 h0 n0 _ T6.heap _
          rw [hh6]
          have hv : sp0 p1 p2 p3 = (0 : Int32) := by unfold sp0; rw [if_pos c61_7, if_neg c72_9, if_neg c106_17]
          exact ⟨by rw [← hv, own_law p1 p2 p3], N6⟩
  · have k20 : ∀ t, Steps p.tables e below (T6.setTop (mkF m 84 #[.val (.int p1), .val (.int p2), .val (.int p3), .val (.int (v0_7 p1 p2 p3)), .val (.int (v0_13 p1 p2 p3)), .val (.int (v0_23 p1 p2 p3)), .val (.int (v0_29 p1 p2 p3)), .val (.ref b2), .val (.int (sp4 (v0_29 p1 p2 p3) (v0_23 p1 p2 p3))), .val (.int (v0_58 p1 p2 p3)), .val (.int (0 : Int32)), .unset] [(.int (0 : Int32))])) t → Steps p.tables e below (s₁.setTop (mkF m 0 #[.val (.int p1), .val (.int p2), .val (.int p3), .unset, .unset, .unset, .unset, .unset, .unset, .unset, .unset, .unset] [])) t := fun t kt => k8 t (by
      show Steps p.tables e below (T6.setTop (mkF m 61 #[.val (.int p1), .val (.int p2), .val (.int p3), .val (.int (v0_7 p1 p2 p3)), .val (.int (v0_13 p1 p2 p3)), .val (.int (v0_23 p1 p2 p3)), .val (.int (v0_29 p1 p2 p3)), .val (.ref b2), .val (.int (sp4 (v0_29 p1 p2 p3) (v0_23 p1 p2 p3))), .val (.int (v0_58 p1 p2 p3)), .unset, .unset] [(.int (v0_7 p1 p2 p3))])) _
      refine XS.ifYes X6.here hx rfl (pc0 := 61) (pc' := 79) rfl (hb hby at_61) rfl ((if0 _ _).trans (flt c61_7).2.2.2) (by decide) (by decide) ?_
      show Steps p.tables e below (T6.setTop (mkF m 79 #[.val (.int p1), .val (.int p2), .val (.int p3), .val (.int (v0_7 p1 p2 p3)), .val (.int (v0_13 p1 p2 p3)), .val (.int (v0_23 p1 p2 p3)), .val (.int (v0_29 p1 p2 p3)), .val (.ref b2), .val (.int (sp4 (v0_29 p1 p2 p3) (v0_23 p1 p2 p3))), .val (.int (v0_58 p1 p2 p3)), .unset, .unset] [])) _
      refine XS.iconst X6.here hx rfl (hb hby at_79) ?_
      show Steps p.tables e below (T6.setTop (mkF m 80 #[.val (.int p1), .val (.int p2), .val (.int p3), .val (.int (v0_7 p1 p2 p3)), .val (.int (v0_13 p1 p2 p3)), .val (.int (v0_23 p1 p2 p3)), .val (.int (v0_29 p1 p2 p3)), .val (.ref b2), .val (.int (sp4 (v0_29 p1 p2 p3) (v0_23 p1 p2 p3))), .val (.int (v0_58 p1 p2 p3)), .unset, .unset] [(.int (0 : Int32))])) _
      refine XS.istore X6.here hx rfl (hb hby at_80) rfl (l' := #[.val (.int p1), .val (.int p2), .val (.int p3), .val (.int (v0_7 p1 p2 p3)), .val (.int (v0_13 p1 p2 p3)), .val (.int (v0_23 p1 p2 p3)), .val (.int (v0_29 p1 p2 p3)), .val (.ref b2), .val (.int (sp4 (v0_29 p1 p2 p3) (v0_23 p1 p2 p3))), .val (.int (v0_58 p1 p2 p3)), .val (.int (0 : Int32)), .unset]) rfl ?_
      show Steps p.tables e below (T6.setTop (mkF m 82 #[.val (.int p1), .val (.int p2), .val (.int p3), .val (.int (v0_7 p1 p2 p3)), .val (.int (v0_13 p1 p2 p3)), .val (.int (v0_23 p1 p2 p3)), .val (.int (v0_29 p1 p2 p3)), .val (.ref b2), .val (.int (sp4 (v0_29 p1 p2 p3) (v0_23 p1 p2 p3))), .val (.int (v0_58 p1 p2 p3)), .val (.int (0 : Int32)), .unset] [])) _
      refine XS.iload X6.here hx rfl (hb hby at_82) rfl ?_
      exact kt)
    have c84_19 : (0 : Int32) = (0 : Int32) := by decide
    have k22 : ∀ t, Steps p.tables e below (T6.setTop (mkF m 106 #[.val (.int p1), .val (.int p2), .val (.int p3), .val (.int (v0_7 p1 p2 p3)), .val (.int (v0_13 p1 p2 p3)), .val (.int (v0_23 p1 p2 p3)), .val (.int (v0_29 p1 p2 p3)), .val (.ref b2), .val (.int (sp4 (v0_29 p1 p2 p3) (v0_23 p1 p2 p3))), .val (.int (v0_58 p1 p2 p3)), .val (.int (0 : Int32)), .val (.int (v0_58 p1 p2 p3))] [(.int (v0_58 p1 p2 p3)), (.int (sp4 (v0_29 p1 p2 p3) (v0_23 p1 p2 p3)))])) t → Steps p.tables e below (s₁.setTop (mkF m 0 #[.val (.int p1), .val (.int p2), .val (.int p3), .unset, .unset, .unset, .unset, .unset, .unset, .unset, .unset, .unset] [])) t := fun t kt => k20 t (by
      show Steps p.tables e below (T6.setTop (mkF m 84 #[.val (.int p1), .val (.int p2), .val (.int p3), .val (.int (v0_7 p1 p2 p3)), .val (.int (v0_13 p1 p2 p3)), .val (.int (v0_23 p1 p2 p3)), .val (.int (v0_29 p1 p2 p3)), .val (.ref b2), .val (.int (sp4 (v0_29 p1 p2 p3) (v0_23 p1 p2 p3))), .val (.int (v0_58 p1 p2 p3)), .val (.int (0 : Int32)), .unset] [(.int (0 : Int32))])) _
      refine XS.ifYes X6.here hx rfl (pc0 := 84) (pc' := 98) rfl (hb hby at_84) rfl ((if0 _ _).trans (teq c84_19).1) (by decide) (by decide) ?_
      show Steps p.tables e below (T6.setTop (mkF m 98 #[.val (.int p1), .val (.int p2), .val (.int p3), .val (.int (v0_7 p1 p2 p3)), .val (.int (v0_13 p1 p2 p3)), .val (.int (v0_23 p1 p2 p3)), .val (.int (v0_29 p1 p2 p3)), .val (.ref b2), .val (.int (sp4 (v0_29 p1 p2 p3) (v0_23 p1 p2 p3))), .val (.int (v0_58 p1 p2 p3)), .val (.int (0 : Int32)), .unset] [])) _
      refine XS.iload X6.here hx rfl (hb hby at_98) rfl ?_
      show Steps p.tables e below (T6.setTop (mkF m 100 #[.val (.int p1), .val (.int p2), .val (.int p3), .val (.int (v0_7 p1 p2 p3)), .val (.int (v0_13 p1 p2 p3)), .val (.int (v0_23 p1 p2 p3)), .val (.int (v0_29 p1 p2 p3)), .val (.ref b2), .val (.int (sp4 (v0_29 p1 p2 p3) (v0_23 p1 p2 p3))), .val (.int (v0_58 p1 p2 p3)), .val (.int (0 : Int32)), .unset] [(.int (v0_58 p1 p2 p3))])) _
      refine XS.istore X6.here hx rfl (hb hby at_100) rfl (l' := #[.val (.int p1), .val (.int p2), .val (.int p3), .val (.int (v0_7 p1 p2 p3)), .val (.int (v0_13 p1 p2 p3)), .val (.int (v0_23 p1 p2 p3)), .val (.int (v0_29 p1 p2 p3)), .val (.ref b2), .val (.int (sp4 (v0_29 p1 p2 p3) (v0_23 p1 p2 p3))), .val (.int (v0_58 p1 p2 p3)), .val (.int (0 : Int32)), .val (.int (v0_58 p1 p2 p3))]) rfl ?_
      show Steps p.tables e below (T6.setTop (mkF m 102 #[.val (.int p1), .val (.int p2), .val (.int p3), .val (.int (v0_7 p1 p2 p3)), .val (.int (v0_13 p1 p2 p3)), .val (.int (v0_23 p1 p2 p3)), .val (.int (v0_29 p1 p2 p3)), .val (.ref b2), .val (.int (sp4 (v0_29 p1 p2 p3) (v0_23 p1 p2 p3))), .val (.int (v0_58 p1 p2 p3)), .val (.int (0 : Int32)), .val (.int (v0_58 p1 p2 p3))] [])) _
      refine XS.iload X6.here hx rfl (hb hby at_102) rfl ?_
      show Steps p.tables e below (T6.setTop (mkF m 104 #[.val (.int p1), .val (.int p2), .val (.int p3), .val (.int (v0_7 p1 p2 p3)), .val (.int (v0_13 p1 p2 p3)), .val (.int (v0_23 p1 p2 p3)), .val (.int (v0_29 p1 p2 p3)), .val (.ref b2), .val (.int (sp4 (v0_29 p1 p2 p3) (v0_23 p1 p2 p3))), .val (.int (v0_58 p1 p2 p3)), .val (.int (0 : Int32)), .val (.int (v0_58 p1 p2 p3))] [(.int (sp4 (v0_29 p1 p2 p3) (v0_23 p1 p2 p3)))])) _
      refine XS.iload X6.here hx rfl (hb hby at_104) rfl ?_
      exact kt)
    by_cases c106_21 : (sp4 (v0_29 p1 p2 p3) (v0_23 p1 p2 p3)) = (v0_58 p1 p2 p3)
    · obtain ⟨fs, hr, hrun, hended, hW, hsame⟩ := X6.leave (v := some (.int (1 : Int32))) (fun h => by rw [Bd.returns] at h; cases h)
      refine ⟨_, _, pre0 _ (k22 _ ?_), hrun, hended, _, _, rfl, ?_, ⟨_, rfl⟩, hW, hsame.mono (by decide) (by decide)⟩
      · show Steps p.tables e below (T6.setTop (mkF m 106 #[.val (.int p1), .val (.int p2), .val (.int p3), .val (.int (v0_7 p1 p2 p3)), .val (.int (v0_13 p1 p2 p3)), .val (.int (v0_23 p1 p2 p3)), .val (.int (v0_29 p1 p2 p3)), .val (.ref b2), .val (.int (sp4 (v0_29 p1 p2 p3) (v0_23 p1 p2 p3))), .val (.int (v0_58 p1 p2 p3)), .val (.int (0 : Int32)), .val (.int (v0_58 p1 p2 p3))] [(.int (v0_58 p1 p2 p3)), (.int (sp4 (v0_29 p1 p2 p3) (v0_23 p1 p2 p3)))])) _
        refine XS.icmpNo X6.here hx rfl (hb hby at_106) rfl (teq c106_21).2 ?_
        show Steps p.tables e below (T6.setTop (mkF m 109 #[.val (.int p1), .val (.int p2), .val (.int p3), .val (.int (v0_7 p1 p2 p3)), .val (.int (v0_13 p1 p2 p3)), .val (.int (v0_23 p1 p2 p3)), .val (.int (v0_29 p1 p2 p3)), .val (.ref b2), .val (.int (sp4 (v0_29 p1 p2 p3) (v0_23 p1 p2 p3))), .val (.int (v0_58 p1 p2 p3)), .val (.int (0 : Int32)), .val (.int (v0_58 p1 p2 p3))] [])) _
        refine XS.iconst X6.here hx rfl (hb hby at_109) ?_
        show Steps p.tables e below (T6.setTop (mkF m 110 #[.val (.int p1), .val (.int p2), .val (.int p3), .val (.int (v0_7 p1 p2 p3)), .val (.int (v0_13 p1 p2 p3)), .val (.int (v0_23 p1 p2 p3)), .val (.int (v0_29 p1 p2 p3)), .val (.ref b2), .val (.int (sp4 (v0_29 p1 p2 p3) (v0_23 p1 p2 p3))), .val (.int (v0_58 p1 p2 p3)), .val (.int (0 : Int32)), .val (.int (v0_58 p1 p2 p3))] [(.int (1 : Int32))])) _
        refine XS.goto X6.here hx rfl (pc0 := 110) (pc' := 114) rfl (hb hby at_110) (by decide) (by decide) ?_
        show Steps p.tables e below (T6.setTop (mkF m 114 #[.val (.int p1), .val (.int p2), .val (.int p3), .val (.int (v0_7 p1 p2 p3)), .val (.int (v0_13 p1 p2 p3)), .val (.int (v0_23 p1 p2 p3)), .val (.int (v0_29 p1 p2 p3)), .val (.ref b2), .val (.int (sp4 (v0_29 p1 p2 p3) (v0_23 p1 p2 p3))), .val (.int (v0_58 p1 p2 p3)), .val (.int (0 : Int32)), .val (.int (v0_58 p1 p2 p3))] [(.int (1 : Int32))])) _
        exact retN X6 hx (t := .boolean) Bd.returns (by simp) (hb hby at_114) hr
      · show Q0 Z p1 p2 p3 h0 n0 _ T6.heap _
        rw [hh6]
        have hv : sp0 p1 p2 p3 = (1 : Int32) := by unfold sp0; rw [if_neg c61_7, if_pos c106_21]
        exact ⟨by rw [← hv, own_law p1 p2 p3], N6⟩
    · obtain ⟨fs, hr, hrun, hended, hW, hsame⟩ := X6.leave (v := some (.int (0 : Int32))) (fun h => by rw [Bd.returns] at h; cases h)
      refine ⟨_, _, pre0 _ (k22 _ ?_), hrun, hended, _, _, rfl, ?_, ⟨_, rfl⟩, hW, hsame.mono (by decide) (by decide)⟩
      · show Steps p.tables e below (T6.setTop (mkF m 106 #[.val (.int p1), .val (.int p2), .val (.int p3), .val (.int (v0_7 p1 p2 p3)), .val (.int (v0_13 p1 p2 p3)), .val (.int (v0_23 p1 p2 p3)), .val (.int (v0_29 p1 p2 p3)), .val (.ref b2), .val (.int (sp4 (v0_29 p1 p2 p3) (v0_23 p1 p2 p3))), .val (.int (v0_58 p1 p2 p3)), .val (.int (0 : Int32)), .val (.int (v0_58 p1 p2 p3))] [(.int (v0_58 p1 p2 p3)), (.int (sp4 (v0_29 p1 p2 p3) (v0_23 p1 p2 p3)))])) _
        refine XS.icmpYes X6.here hx rfl (pc0 := 106) (pc' := 113) rfl (hb hby at_106) rfl (feq c106_21).2 (by decide) (by decide) ?_
        show Steps p.tables e below (T6.setTop (mkF m 113 #[.val (.int p1), .val (.int p2), .val (.int p3), .val (.int (v0_7 p1 p2 p3)), .val (.int (v0_13 p1 p2 p3)), .val (.int (v0_23 p1 p2 p3)), .val (.int (v0_29 p1 p2 p3)), .val (.ref b2), .val (.int (sp4 (v0_29 p1 p2 p3) (v0_23 p1 p2 p3))), .val (.int (v0_58 p1 p2 p3)), .val (.int (0 : Int32)), .val (.int (v0_58 p1 p2 p3))] [])) _
        refine XS.iconst X6.here hx rfl (hb hby at_113) ?_
        show Steps p.tables e below (T6.setTop (mkF m 114 #[.val (.int p1), .val (.int p2), .val (.int p3), .val (.int (v0_7 p1 p2 p3)), .val (.int (v0_13 p1 p2 p3)), .val (.int (v0_23 p1 p2 p3)), .val (.int (v0_29 p1 p2 p3)), .val (.ref b2), .val (.int (sp4 (v0_29 p1 p2 p3) (v0_23 p1 p2 p3))), .val (.int (v0_58 p1 p2 p3)), .val (.int (0 : Int32)), .val (.int (v0_58 p1 p2 p3))] [(.int (0 : Int32))])) _
        exact retN X6 hx (t := .boolean) Bd.returns (by simp) (hb hby at_114) hr
      · show Q0 Z p1 p2 p3 h0 n0 _ T6.heap _
        rw [hh6]
        have hv : sp0 p1 p2 p3 = (0 : Int32) := by unfold sp0; rw [if_neg c61_7, if_neg c106_21]
        exact ⟨by rw [← hv, own_law p1 p2 p3], N6⟩
set_option maxRecDepth 65536 in
set_option maxHeartbeats 40000000 in
theorem comes_1 {Post : Tables → Env → Array Value → State → Outcome → State → Prop} (hpost : ∀ tb e args s v u, (limb_1_1.after args s (.returned v) u = true ∧ limb_1_2.after args s (.returned v) u = true ∧ True) → FrameEnd s (.returned v) u (Jvm.fieldLocs frame_1_writes args s ++ Jvm.arrayLocs frame_1_arrays args s ++ Jvm.staticLocs frame_1_statics s) 16 128 → Post tb e args s (.returned v) u) :
    ArmFor flags0 classFile x code maxLocals ret World_1 tables_1 room_1 Calls_1 rest_1 Pre_1 Post := by
  intro l hfl _ _ p e ha hc hk s m args below hf hA hF happ hP
  obtain ⟨hcalls, hrest, hpre⟩ := hP
  obtain ⟨-, -, -, hnamed, -, -, -, hat⟩ := (Spec.applies_iff hf).mp happ
  obtain ⟨hg, hn⟩ := and_e (Cond.before_iff.mp (show (Jvm.Cond.and given_1 narrow_1).before args s = true from hpre))
  obtain ⟨g2, g3⟩ := and_e hg
  obtain ⟨g4, g5⟩ := and_e g3
  obtain ⟨g6, g7⟩ := and_e g5
  obtain ⟨w0, w1, w2, rfl⟩ : ∃ w0 w1 w2 : Value, args = #[w0, w1, w2] := by
    have hs : args.size = 3 := by simpa [Cond.value, given_1] using g2
    obtain ⟨L⟩ := args
    match L, hs with
    | [w0, w1, w2], _ => exact ⟨w0, w1, w2, rfl⟩
  have hw := fun d (hd : d ∈ tables_1) => atoms_spec (ws := Jvm.Cond.code x code maxLocals ret :: tables_1) hat d (List.mem_cons_of_mem _ hd)
  obtain ⟨i0, ei0⟩ := is_v g4
  obtain rfl : w0 = (.int i0) := Option.some.inj ei0
  obtain ⟨i1, ei1⟩ := is_v g6
  obtain rfl : w1 = (.int i1) := Option.some.inj ei1
  obtain ⟨i2, ei2⟩ := is_v g7
  obtain rfl : w2 = (.int i2) := Option.some.inj ei2
  obtain ⟨n, o, h1, h2, h3, _, L, rfl, ⟨rfl, N⟩, hq⟩ := rm0 l s _ hw tables_1 i0 i1 i2 s.heap s.heap.size (Nat.le_refl _) p e ha hc hk s m _ below hf ((Spec.applies_iff_loose hf).mp happ).1 ⟨rfl, State.Warmed39.refl s, rfl⟩ trivial
  refine ⟨n, _, h1, h2, h3, hpost _ _ _ _ _ _ ⟨Cond.after_iff.mpr rfl, Cond.after_iff.mpr (eq_i res_at (Term.int_eval (1)) rfl), trivial⟩ ⟨hq.1, hq.2.1, (hq.2.2.sift fun y hy => Or.inr (N y hy)).mono (by decide) (by decide)⟩⟩
theorem main_1_1 : Claimed_1_1 := comes_1 fun _ _ _ _ _ _ h hF => ⟨h.1, hF⟩
theorem main_1_2 : Claimed_1_2 := comes_1 fun _ _ _ _ _ _ h hF => ⟨h.2.1, hF⟩
end Jvm.Pilot.@@N@@
namespace Jvm.Pilot.@@N@@
open Jvm Jvm.ClassFile Sem Op Lib Jvm.Free Jvm.Stand Jvm.Pilot.@@N@@.Jvm.D
/-! MADE BY PROGRAM (witnessworld.py) out of the Statement's table words and the real class files: 15 classes; the members and pool entries that the words name. The judged class is class 1, her method 1. -/
namespace start1
open Jvm.ClassFile
def u (s : String) : CpInfo := .utf8 (stringToUtf16 s)
/-- a pool by its gaps: so many unusable entries, then the entry; so many at the end -/
def gap : Nat → List CpInfo → List CpInfo
  | 0, r => r
  | n + 1, r => .unusable :: gap n r
def poolList (es : List (Nat × CpInfo)) (last : Nat) : List CpInfo := es.foldr (fun e r => gap e.1 (e.2 :: r)) (gap last [])
def pool (es : List (Nat × CpInfo)) (last : Nat) : Array CpInfo := ⟨poolList es last⟩
def fileOf (pool : Array CpInfo) (this : Nat) (attrs : Array Attribute := #[]) (ms : Array MethodInfo := #[]) (fl : Nat := 33) (sup : Nat := 0) (ifs : Array Nat := #[]) (fds : Array FieldInfo := #[]) : ClassFile where
  minorVersion := 0
  majorVersion := 65
  constantPool := pool
  accessFlags := fl
  thisClass := this
  superClass := sup
  interfaces := ifs
  fields := fds
  methods := ms
  attributes := attrs
def plain (name : String) (sup : Option ClassId) : Class where
  name := name
  kind := .ordinary
  loader := none
  accessFlags := 33
  super := sup
  interfaces := #[]
  cf := none
  fields := #[]
  methods := #[]
  instanceTypes := #[]
  staticTypes := #[]
  resolved := #[]
  callSites := []
  init := .initialized
  statics := none
  mirror := none

def pool0 : Array CpInfo := pool [(5, u "<init>"), (0, u "()V"), (1, .class_ 10), (1, u "java/lang/Object")] 113

def k0c0 : Code := { maxStack := 0, maxLocals := 1, code := object_method_1_code, exceptionTable := #[], attributes := #[] }
def k0m0 : Method := { name := "<init>", desc := "()V", sig := { parameters := [], returnType := none }, accessFlags := 1, code := some k0c0 }
/-- java/lang/Object -/
def k0 : Class := { plain "java/lang/Object" none with
  accessFlags := 33
  interfaces := #[]
  cf := some (fileOf pool0 8 #[] #[{ accessFlags := 1, nameIndex := 5, descriptorIndex := 6, attributes := #[] }] 33 0 #[] #[])
  fields := #[]
  methods := #[k0m0]
  instanceTypes := #[]
  staticTypes := #[]
  resolved := Array.replicate 124 none
  statics := none }

def pool1 : Array CpInfo := pool [(2, .class_ 4), (1, u "java/lang/Object"), (0, u "<init>"), (0, u "()V"), (0, .integer 2147483647), (0, .class_ 9), (0, u "com/example/parity_lattice/paritylattice/Polynomial"), (0, .methodref 8 11), (0, .nameAndType 5 12), (0, u "(I)V"), (0, .methodref 8 14), (0, .nameAndType 15 16), (0, u "timesX"), (0, u "(I)I"), (0, .class_ 18), (0, u "com/example/parity_lattice/paritylattice/PolynomialTimesXPinLaw"), (2, u "law"), (0, u "(III)Z")] 3

def k1m0 : Method := { name := "<init>", desc := "()V", sig := { parameters := [], returnType := none }, accessFlags := 1, code := none }
def k1c1 : Code := { maxStack := 4, maxLocals := 12, code := code, exceptionTable := #[], attributes := #[] }
def k1m1 : Method := { name := "law", desc := "(III)Z", sig := { parameters := [.int, .int, .int], returnType := some .boolean }, accessFlags := 9, code := some k1c1 }
/-- com/example/parity_lattice/paritylattice/PolynomialTimesXPinLaw -/
def k1 : Class := { plain "com/example/parity_lattice/paritylattice/PolynomialTimesXPinLaw" (some 0) with
  accessFlags := 49
  interfaces := #[]
  cf := some (fileOf pool1 17 #[] #[{ accessFlags := 1, nameIndex := 5, descriptorIndex := 6, attributes := #[] }, { accessFlags := 9, nameIndex := 21, descriptorIndex := 22, attributes := #[] }] 49 2 #[] #[])
  fields := #[]
  methods := #[k1m0, k1m1]
  instanceTypes := #[]
  staticTypes := #[]
  resolved := Array.replicate 26 none
  statics := none }

def pool2 : Array CpInfo := pool [(1, .methodref 2 3), (0, .class_ 4), (0, .nameAndType 5 6), (0, u "java/lang/Object"), (0, u "<init>"), (0, u "()V"), (0, .class_ 8), (0, u "java/lang/Record")] 13

def k2c0 : Code := { maxStack := 1, maxLocals := 1, code := jdk_30_method_1_code, exceptionTable := #[], attributes := #[] }
def k2m0 : Method := { name := "<init>", desc := "()V", sig := { parameters := [], returnType := none }, accessFlags := 4, code := some k2c0 }
/-- java/lang/Record -/
def k2 : Class := { plain "java/lang/Record" (some 0) with
  accessFlags := 1057
  interfaces := #[]
  cf := some (fileOf pool2 7 #[] #[{ accessFlags := 4, nameIndex := 5, descriptorIndex := 6, attributes := #[] }] 1057 2 #[] #[])
  fields := #[]
  methods := #[k2m0]
  instanceTypes := #[]
  staticTypes := #[]
  resolved := Array.replicate 22 none
  statics := none }

def pool3 : Array CpInfo := pool [(1, .class_ 2), (0, u "java/lang/Integer"), (0, .class_ 4), (0, u "com/example/parity_lattice/paritylattice/Polynomial"), (0, .methodref 6 7), (0, .class_ 8), (0, .nameAndType 9 10), (0, u "java/lang/Record"), (0, u "<init>"), (0, u "()V"), (0, .fieldref 3 12), (0, .nameAndType 13 14), (0, u "coefficients"), (0, u "I"), (10, u "TERM"), (0, u "Ljava/util/regex/Pattern;"), (15, u "()I"), (27, u "(I)V"), (2, u "STANDARD"), (0, u "Ljava/util/Map;"), (16, .methodref 1 92), (0, .nameAndType 93 94), (0, u "numberOfLeadingZeros"), (0, u "(I)I"), (0, .methodref 3 96), (0, .nameAndType 97 42), (0, u "degree"), (2, u "timesX"), (98, u "MAX_DEGREE"), (2, u "HOW_WRITTEN"), (0, u "Ljava/lang/String;")] 85

def k3c0 : Code := { maxStack := 2, maxLocals := 2, code := prog_26_method_1_code, exceptionTable := #[], attributes := #[] }
def k3m0 : Method := { name := "<init>", desc := "(I)V", sig := { parameters := [.int], returnType := none }, accessFlags := 0, code := some k3c0 }
def k3c1 : Code := { maxStack := 2, maxLocals := 1, code := prog_26_method_4_code, exceptionTable := #[], attributes := #[] }
def k3m1 : Method := { name := "degree", desc := "()I", sig := { parameters := [], returnType := some .int }, accessFlags := 0, code := some k3c1 }
def k3c2 : Code := { maxStack := 2, maxLocals := 3, code := prog_26_method_5_code, exceptionTable := #[], attributes := #[] }
def k3m2 : Method := { name := "timesX", desc := "(I)I", sig := { parameters := [.int], returnType := some .int }, accessFlags := 0, code := some k3c2 }
/-- com/example/parity_lattice/paritylattice/Polynomial -/
def k3 : Class := { plain "com/example/parity_lattice/paritylattice/Polynomial" (some 2) with
  accessFlags := 48
  interfaces := #[]
  cf := some (fileOf pool3 3 #[] #[{ accessFlags := 0, nameIndex := 9, descriptorIndex := 70, attributes := #[] }, { accessFlags := 0, nameIndex := 97, descriptorIndex := 42, attributes := #[] }, { accessFlags := 0, nameIndex := 100, descriptorIndex := 94, attributes := #[] }] 48 6 #[] #[{ accessFlags := 18, nameIndex := 13, descriptorIndex := 14, attributes := #[] }, { accessFlags := 24, nameIndex := 199, descriptorIndex := 14, attributes := #[] }, { accessFlags := 26, nameIndex := 25, descriptorIndex := 26, attributes := #[] }, { accessFlags := 26, nameIndex := 202, descriptorIndex := 203, attributes := #[] }, { accessFlags := 26, nameIndex := 73, descriptorIndex := 74, attributes := #[] }])
  fields := #[{ name := "coefficients", type := .int, accessFlags := 18, slot := 0, constantValue := 0 }, { name := "MAX_DEGREE", type := .int, accessFlags := 24, slot := 0, constantValue := 0 }, { name := "TERM", type := (.object "java/util/regex/Pattern"), accessFlags := 26, slot := 1, constantValue := 0 }, { name := "HOW_WRITTEN", type := (.object "java/lang/String"), accessFlags := 26, slot := 2, constantValue := 0 }, { name := "STANDARD", type := (.object "java/util/Map"), accessFlags := 26, slot := 3, constantValue := 0 }]
  methods := #[k3m0, k3m1, k3m2]
  instanceTypes := #[.int]
  staticTypes := #[.int, (.object "java/util/regex/Pattern"), (.object "java/lang/String"), (.object "java/util/Map")]
  resolved := Array.replicate 289 none
  statics := none }

def pool4 : Array CpInfo := pool [(1, .class_ 2), (0, u "java/io/Serializable"), (0, .class_ 4), (0, u "java/lang/Object")] 2

/-- java/io/Serializable -/
def k4 : Class := { plain "java/io/Serializable" (some 0) with
  accessFlags := 1537
  interfaces := #[]
  cf := some (fileOf pool4 1 #[] #[] 1537 3 #[] #[])
  fields := #[]
  methods := #[]
  instanceTypes := #[]
  staticTypes := #[]
  resolved := Array.replicate 7 none
  statics := none }

def pool5 : Array CpInfo := pool [(2, .class_ 4), (1, u "java/lang/Object"), (0, u "<init>"), (0, u "()V"), (1, .class_ 10), (1, u "java/lang/Number"), (2, .class_ 14), (0, u "java/io/Serializable"), (0, u "serialVersionUID"), (0, u "J")] 20

def k5m0 : Method := { name := "<init>", desc := "()V", sig := { parameters := [], returnType := none }, accessFlags := 1, code := none }
/-- java/lang/Number -/
def k5 : Class := { plain "java/lang/Number" (some 0) with
  accessFlags := 1057
  interfaces := #[4]
  cf := some (fileOf pool5 8 #[] #[{ accessFlags := 1, nameIndex := 5, descriptorIndex := 6, attributes := #[] }] 1057 2 #[13] #[{ accessFlags := 26, nameIndex := 15, descriptorIndex := 16, attributes := #[] }])
  fields := #[{ name := "serialVersionUID", type := .long, accessFlags := 26, slot := 0, constantValue := 0 }]
  methods := #[k5m0]
  instanceTypes := #[]
  staticTypes := #[.long]
  resolved := Array.replicate 37 none
  statics := none }

def pool6 : Array CpInfo := pool [(1, .class_ 2), (0, u "java/lang/Comparable"), (0, .class_ 4), (0, u "java/lang/Object")] 7

/-- java/lang/Comparable -/
def k6 : Class := { plain "java/lang/Comparable" (some 0) with
  accessFlags := 1537
  interfaces := #[]
  cf := some (fileOf pool6 1 #[] #[] 1537 3 #[] #[])
  fields := #[]
  methods := #[]
  instanceTypes := #[]
  staticTypes := #[]
  resolved := Array.replicate 12 none
  statics := none }

def pool7 : Array CpInfo := pool [(1, .class_ 2), (0, u "java/lang/constant/Constable"), (0, .class_ 4), (0, u "java/lang/Object")] 6

/-- java/lang/constant/Constable -/
def k7 : Class := { plain "java/lang/constant/Constable" (some 0) with
  accessFlags := 1537
  interfaces := #[]
  cf := some (fileOf pool7 1 #[] #[] 1537 3 #[] #[])
  fields := #[]
  methods := #[]
  instanceTypes := #[]
  staticTypes := #[]
  resolved := Array.replicate 11 none
  statics := none }

def pool8 : Array CpInfo := pool [(1, .class_ 2), (0, u "java/lang/constant/ConstantDesc"), (0, .class_ 4), (0, u "java/lang/Object")] 32

/-- java/lang/constant/ConstantDesc -/
def k8 : Class := { plain "java/lang/constant/ConstantDesc" (some 0) with
  accessFlags := 1537
  interfaces := #[]
  cf := some (fileOf pool8 1 #[] #[] 1537 3 #[] #[])
  fields := #[]
  methods := #[]
  instanceTypes := #[]
  staticTypes := #[]
  resolved := Array.replicate 37 none
  statics := none }

def pool9 : Array CpInfo := pool [(1, .class_ 2), (0, u "java/lang/Integer"), (16, u "digits"), (0, u "[C"), (32, u "numberOfLeadingZeros"), (0, u "(I)I"), (30, u "DigitOnes"), (0, u "[B"), (2, u "DigitTens"), (99, .class_ 190), (0, u "java/lang/Integer$IntegerCache"), (3, u "I"), (8, .class_ 204), (0, u "java/lang/Number"), (2, u "value"), (56, .integer 65536), (37, u "TYPE"), (0, u "Ljava/lang/Class;"), (0, .class_ 305), (0, u "java/lang/Comparable"), (0, .class_ 307), (0, u "java/lang/constant/Constable"), (0, .class_ 309), (0, u "java/lang/constant/ConstantDesc"), (0, u "MIN_VALUE"), (1, u "MAX_VALUE"), (3, u "SIZE"), (1, u "BYTES"), (1, u "serialVersionUID"), (0, u "J")] 131

def k9c0 : Code := { maxStack := 3, maxLocals := 2, code := jdk_33_method_47_code, exceptionTable := #[], attributes := #[] }
def k9m0 : Method := { name := "numberOfLeadingZeros", desc := "(I)I", sig := { parameters := [.int], returnType := some .int }, accessFlags := 9, code := some k9c0 }
/-- java/lang/Integer -/
def k9 : Class := { plain "java/lang/Integer" (some 5) with
  accessFlags := 49
  interfaces := #[6, 7, 8]
  cf := some (fileOf pool9 1 #[.nestMembers #[189]] #[{ accessFlags := 9, nameIndex := 53, descriptorIndex := 54, attributes := #[] }] 49 203 #[304, 306, 308] #[{ accessFlags := 25, nameIndex := 310, descriptorIndex := 194, attributes := #[] }, { accessFlags := 25, nameIndex := 312, descriptorIndex := 194, attributes := #[] }, { accessFlags := 25, nameIndex := 302, descriptorIndex := 303, attributes := #[] }, { accessFlags := 24, nameIndex := 19, descriptorIndex := 20, attributes := #[] }, { accessFlags := 24, nameIndex := 89, descriptorIndex := 86, attributes := #[] }, { accessFlags := 24, nameIndex := 85, descriptorIndex := 86, attributes := #[] }, { accessFlags := 18, nameIndex := 207, descriptorIndex := 194, attributes := #[] }, { accessFlags := 25, nameIndex := 316, descriptorIndex := 194, attributes := #[] }, { accessFlags := 25, nameIndex := 318, descriptorIndex := 194, attributes := #[] }, { accessFlags := 26, nameIndex := 320, descriptorIndex := 321, attributes := #[] }])
  fields := #[{ name := "MIN_VALUE", type := .int, accessFlags := 25, slot := 0, constantValue := 0 }, { name := "MAX_VALUE", type := .int, accessFlags := 25, slot := 1, constantValue := 0 }, { name := "TYPE", type := (.object "java/lang/Class"), accessFlags := 25, slot := 2, constantValue := 0 }, { name := "digits", type := (.array .char), accessFlags := 24, slot := 3, constantValue := 0 }, { name := "DigitTens", type := (.array .byte), accessFlags := 24, slot := 4, constantValue := 0 }, { name := "DigitOnes", type := (.array .byte), accessFlags := 24, slot := 5, constantValue := 0 }, { name := "value", type := .int, accessFlags := 18, slot := 0, constantValue := 0 }, { name := "SIZE", type := .int, accessFlags := 25, slot := 6, constantValue := 0 }, { name := "BYTES", type := .int, accessFlags := 25, slot := 7, constantValue := 0 }, { name := "serialVersionUID", type := .long, accessFlags := 26, slot := 8, constantValue := 0 }]
  methods := #[k9m0]
  instanceTypes := #[.int]
  staticTypes := #[.int, .int, (.object "java/lang/Class"), (.array .char), (.array .byte), (.array .byte), .int, .int, .long]
  resolved := Array.replicate 453 none
  statics := none }

def pool10 : Array CpInfo := pool [(1, u "java/lang/Cloneable"), (0, .class_ 1), (0, u "java/lang/Object"), (0, .class_ 3)] 3

/-- java/lang/Cloneable -/
def k10 : Class := { plain "java/lang/Cloneable" (some 0) with
  accessFlags := 1537
  interfaces := #[]
  cf := some (fileOf pool10 2 #[] #[] 1537 4 #[] #[])
  fields := #[]
  methods := #[]
  instanceTypes := #[]
  staticTypes := #[]
  resolved := Array.replicate 8 none
  statics := none }

/-- the primitive byte -/
def k11 : Class := { plain "byte" none with kind := .primitive 'B', accessFlags := 0x411 }
/-- [B -/
def k12 : Class := { plain "[B" (some 0) with kind := .array 11 .byte, interfaces := #[10, 4], accessFlags := 1041 }

/-- the primitive int -/
def k13 : Class := { plain "int" none with kind := .primitive 'I', accessFlags := 0x411 }
/-- [I -/
def k14 : Class := { plain "[I" (some 0) with kind := .array 13 .int, interfaces := #[10, 4], accessFlags := 1041 }

def heap : Heap := #[]
def classes : Array Class := #[k0, k1, k2, k3, k4, k5, k6, k7, k8, k9, k10, k11, k12, k13, k14]
def interned : List (Array UInt16 × Addr) := []
def slotsUsed : Nat := 0
def theMethod : MethodId := ⟨1, 1⟩
def args0 : Array Value := #[.int 5, .int 5, .int 5]
def aboutOver (below : List Frame) : State where
  vm := { classes := classes, interned := interned.toArray }
  heap := heap
  slotsUsed := slotsUsed
  threads := #[{ frames := .invoking theMethod args0 :: below }]
def below0 : List Frame := [.native { method := ⟨0, 0⟩, args := #[] }]
def about1 : State := aboutOver below0
def p0 : Program := .bare "" "" ""
def e0 : Env := launch0.env 0 0 0
theorem w_frames : about1.frames = Frame.invoking theMethod args0 :: below0 := rfl
set_option maxRecDepth 65536 in
theorem w_args : argsFit about1.vm theMethod args0 = true := by decide +kernel
set_option maxRecDepth 65536 in
theorem w_heap : heapFits about1 = true := by decide +kernel
set_option maxRecDepth 65536 in
theorem w_runnable : about1.curStatus? = some .runnable := by decide +kernel
set_option maxRecDepth 65536 in
theorem w_alone : about1.alone = true := by decide +kernel
set_option maxRecDepth 65536 in
theorem w_named : about1.methodNamed? x = some theMethod := by decide +kernel
set_option maxRecDepth 65536 in
theorem w_hears : about1.hears theMethod below0 = true := by decide +kernel
set_option maxRecDepth 65536 in
theorem w_ripe : about1.ripe theMethod args0 below0 = true := by decide +kernel
theorem w_running : about1.status = .running := rfl
set_option maxRecDepth 65536 in
theorem w_room : about1.hasRoom e0.platform room_1 = true :=
  launch0.hasRoom_least _ room_1 (by decide +kernel) (by decide +kernel) (by decide +kernel) (by decide +kernel) (by decide +kernel) (by decide +kernel)
theorem allAtoms_all (ts : List Jvm.Cond) (a : Array Jvm.Value) (st : Jvm.State) : (allAtoms ts).before a st = ts.all (fun c => c.before a st) := by
  induction ts with
  | nil => rfl
  | cons c t ih =>
    show (Jvm.Cond.and c (allAtoms t)).before a st = _
    rw [Jvm.Cond.before_and, ih, List.all_cons]
def words1 : List Jvm.Cond := Jvm.Cond.code x code maxLocals ret :: tables_1
/-- a 'code' word, met by the world's own term for the bytes: nothing is compared byte by byte -/
theorem code_word {y : MethodName} {bytes : ByteArray} {mx : Nat} {rt : Option FieldType} {a : Array Value} {s : State} {m : MethodId} {meth : Method} {c : Code} (h1 : s.methodNamed? y = some m) (h2 : s.vm.method? m = some meth) (h3 : meth.code = some c) (h4 : c.code = bytes)
    (h5 : (c.maxLocals == mx && c.exceptionTable.isEmpty && decide (c.maxStack ≤ mostOperands) && decide (meth.sig.returnType = rt) && !meth.locks && decide (parseMethodDescriptor y.desc = some meth.sig)) = true) : (Jvm.Cond.code y bytes mx rt).before a s = true := by
  simp only [Bool.and_eq_true, beq_iff_eq, Bool.not_eq_true', decide_eq_true_eq] at h5
  obtain ⟨⟨⟨⟨⟨g1, g2⟩, g3⟩, g4⟩, g5⟩, g6⟩ := h5
  simp [Cond.before, Cond.holds, Cond.value, h1, h2, h3, h4, g1, g2, g3, g4, g5, g6]
def isCode : Jvm.Cond → Bool
  | .code _ _ _ _ => true
  | _ => false
theorem all_split {L : List Jvm.Cond} {P : Jvm.Cond → Bool} (h1 : L.all (fun c => isCode c || P c) = true) (h2 : ∀ c ∈ L.filter isCode, P c = true) : L.all P = true := by
  refine List.all_eq_true.mpr fun c hc => ?_
  have h := List.all_eq_true.mp h1 c hc
  rcases Bool.eq_false_or_eq_true (isCode c) with hi | hi
  · exact h2 c (List.mem_filter.mpr ⟨hc, hi⟩)
  · simpa [hi] using h
set_option maxRecDepth 65536 in
theorem w_c0 : (Jvm.Cond.code x code maxLocals ret).before args0 about1 = true := code_word (m := ⟨1, 1⟩) (meth := k1m1) (c := k1c1) (by decide +kernel) rfl rfl rfl (by decide +kernel)
set_option maxRecDepth 65536 in
theorem w_c1 : (Jvm.Cond.code ({ cls := "com/example/parity_lattice/paritylattice/Polynomial", name := "<init>", desc := "(I)V" } : Jvm.MethodName) prog_26_method_1_code (2 : Nat) (Option.none : Option Jvm.ClassFile.FieldType)).before args0 about1 = true := code_word (m := ⟨3, 0⟩) (meth := k3m0) (c := k3c0) (by decide +kernel) rfl rfl rfl (by decide +kernel)
set_option maxRecDepth 65536 in
theorem w_c2 : (Jvm.Cond.code ({ cls := "java/lang/Record", name := "<init>", desc := "()V" } : Jvm.MethodName) jdk_30_method_1_code (1 : Nat) (Option.none : Option Jvm.ClassFile.FieldType)).before args0 about1 = true := code_word (m := ⟨2, 0⟩) (meth := k2m0) (c := k2c0) (by decide +kernel) rfl rfl rfl (by decide +kernel)
set_option maxRecDepth 65536 in
theorem w_c3 : (Jvm.Cond.code ({ cls := "java/lang/Object", name := "<init>", desc := "()V" } : Jvm.MethodName) object_method_1_code (1 : Nat) (Option.none : Option Jvm.ClassFile.FieldType)).before args0 about1 = true := code_word (m := ⟨0, 0⟩) (meth := k0m0) (c := k0c0) (by decide +kernel) rfl rfl rfl (by decide +kernel)
set_option maxRecDepth 65536 in
theorem w_c4 : (Jvm.Cond.code ({ cls := "com/example/parity_lattice/paritylattice/Polynomial", name := "timesX", desc := "(I)I" } : Jvm.MethodName) prog_26_method_5_code (3 : Nat) (Option.some Jvm.ClassFile.FieldType.int)).before args0 about1 = true := code_word (m := ⟨3, 2⟩) (meth := k3m2) (c := k3c2) (by decide +kernel) rfl rfl rfl (by decide +kernel)
set_option maxRecDepth 65536 in
theorem w_c5 : (Jvm.Cond.code ({ cls := "com/example/parity_lattice/paritylattice/Polynomial", name := "degree", desc := "()I" } : Jvm.MethodName) prog_26_method_4_code (1 : Nat) (Option.some Jvm.ClassFile.FieldType.int)).before args0 about1 = true := code_word (m := ⟨3, 1⟩) (meth := k3m1) (c := k3c1) (by decide +kernel) rfl rfl rfl (by decide +kernel)
set_option maxRecDepth 65536 in
theorem w_c6 : (Jvm.Cond.code ({ cls := "java/lang/Integer", name := "numberOfLeadingZeros", desc := "(I)I" } : Jvm.MethodName) jdk_33_method_47_code (2 : Nat) (Option.some Jvm.ClassFile.FieldType.int)).before args0 about1 = true := code_word (m := ⟨9, 0⟩) (meth := k9m0) (c := k9c0) (by decide +kernel) rfl rfl rfl (by decide +kernel)
def codes1 : List Jvm.Cond := [Jvm.Cond.code x code maxLocals ret, Jvm.Cond.code ({ cls := "com/example/parity_lattice/paritylattice/Polynomial", name := "<init>", desc := "(I)V" } : Jvm.MethodName) prog_26_method_1_code (2 : Nat) (Option.none : Option Jvm.ClassFile.FieldType), Jvm.Cond.code ({ cls := "java/lang/Record", name := "<init>", desc := "()V" } : Jvm.MethodName) jdk_30_method_1_code (1 : Nat) (Option.none : Option Jvm.ClassFile.FieldType), Jvm.Cond.code ({ cls := "java/lang/Object", name := "<init>", desc := "()V" } : Jvm.MethodName) object_method_1_code (1 : Nat) (Option.none : Option Jvm.ClassFile.FieldType), Jvm.Cond.code ({ cls := "com/example/parity_lattice/paritylattice/Polynomial", name := "timesX", desc := "(I)I" } : Jvm.MethodName) prog_26_method_5_code (3 : Nat) (Option.some Jvm.ClassFile.FieldType.int), Jvm.Cond.code ({ cls := "com/example/parity_lattice/paritylattice/Polynomial", name := "degree", desc := "()I" } : Jvm.MethodName) prog_26_method_4_code (1 : Nat) (Option.some Jvm.ClassFile.FieldType.int), Jvm.Cond.code ({ cls := "java/lang/Integer", name := "numberOfLeadingZeros", desc := "(I)I" } : Jvm.MethodName) jdk_33_method_47_code (2 : Nat) (Option.some Jvm.ClassFile.FieldType.int)]
set_option maxRecDepth 65536 in
theorem codes_eq : words1.filter isCode = codes1 := rfl
theorem w_codes : ∀ c ∈ words1.filter isCode, c.before args0 about1 = true := by
  rw [codes_eq]
  intro c hc
  simp only [codes1, List.mem_cons, List.not_mem_nil, or_false] at hc
  rcases hc with rfl | rfl | rfl | rfl | rfl | rfl | rfl
  · exact w_c0
  · exact w_c1
  · exact w_c2
  · exact w_c3
  · exact w_c4
  · exact w_c5
  · exact w_c6
set_option maxRecDepth 65536 in
theorem w_t1 : (words1.take 24).all (fun c => isCode c || c.before args0 about1) = true := by decide +kernel
set_option maxRecDepth 65536 in
theorem w_t2 : (words1.drop 24).all (fun c => isCode c || c.before args0 about1) = true := by decide +kernel
theorem w_tables : (allAtoms (Jvm.Cond.code x code maxLocals ret :: tables_1)).before args0 about1 = true := by
  rw [allAtoms_all]
  show words1.all (fun c => c.before args0 about1) = true
  refine all_split ?_ w_codes
  rw [← List.take_append_drop 24 words1, List.all_append, w_t1, w_t2]
  rfl
set_option maxRecDepth 65536 in
theorem w_case : (Jvm.Cond.and given_1 narrow_1).before args0 about1 = true := by decide +kernel
theorem w_applies : (headSpec (Jvm.Cond.code x code maxLocals ret :: tables_1) room_1).applies x e0.platform about1 = true :=
  (Spec.applies_iff w_frames).mpr ⟨w_running, w_runnable, w_alone, w_named, w_hears, w_ripe, w_room, w_tables⟩
theorem atStart : AtStart classFile x code maxLocals ret World_1 tables_1 room_1 Calls_1 rest_1 Pre_1 launch0 p0 e0 about1 theMethod args0 below0 :=
  ⟨lists_1, trivial, launch0.admits_env _ _ _, launch0.least_env, fairChoices_fair.cas, fairChoices_fair.clock, w_frames, w_args, w_heap, w_applies, trivial, trivial, w_case⟩
end start1
theorem witness_1 : WitnessClaimed_1 := ⟨start1.p0, start1.e0, start1.about1, start1.theMethod, start1.args0, start1.below0, start1.atStart⟩
end Jvm.Pilot.@@N@@
