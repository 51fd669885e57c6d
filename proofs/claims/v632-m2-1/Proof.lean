import JvmDerived
import JvmDerived.Pilot.@@N@@Statement
import JvmDerived.Pilot.@@N@@Code
set_option linter.unusedVariables false
set_option linter.unusedSimpArgs false
namespace Jvm.RoadKit
open Sem ClassFile Op Lib Jvm.Stand Jvm.Free Jvm.LawKit
section New
variable {p : Program} {l : Launch} {e : Env} {R : Room} {s : State} {m : MethodId} {args : Array Value} {below : List Frame} {meth : Method} {c : Code} {T : State} {locs : List Loc} {cells slots : Nat}
theorem retI (X : Stand p l e R s m args below meth c T locs cells slots) (hx : p.tables.exec = Jvm.exec) {pc : Nat} {Ls : Array Slot} {z : Int32} {rest : List Value} (hret : meth.sig.returnType = some .int) (hd : decode c.code pc = .ok (.ireturn, 1)) {fs : List Frame}
    (hl : ∀ (f : JFrame) (acts : List Action), f.method = m → f.locked = none → f.entered = [] → (doReturn e (T.setTop f) acts (some (.int z))).1 = T.setFrames fs) : Steps p.tables e below (T.setTop (mkF m pc Ls (.int z :: rest))) (T.setFrames fs) := by
  have hm' : T.vm.method? m = some meth := X.method'
  have hn : narrow .int (.int z) = .int z := rfl
  show Steps p.tables e below (T.setTop { method := m, pc := pc, locals := Ls, stack := _ :: rest, locked := none }) _
  jvm_step X.here [X.here.top, hx, hd, hm', hret, hn]
  first | (intro acts; rw [hl _ acts rfl rfl rfl]) | rw [hl _ _ rfl rfl rfl]
  exact Steps.refl _
end New
end Jvm.RoadKit
namespace Jvm.Pilot.@@N@@
open Jvm Jvm.ClassFile Sem Op Lib Jvm.Free Jvm.Stand Jvm.LawKit Jvm.RoadKit Bundle Jvm.Pilot.@@N@@.Jvm.D
theorem d1_0 : decode prog_25_method_4_code 0 = .ok (.iload_n 0, 1) := by decide +kernel
theorem d1_1 : decode prog_25_method_4_code 1 = .ok (.iconst 1, 1) := by decide +kernel
theorem d1_2 : decode prog_25_method_4_code 2 = .ok (.if_icmp .ge 17, 3) := by decide +kernel
theorem d1_19 : decode prog_25_method_4_code 19 = .ok (.iconst 0, 1) := by decide +kernel
theorem d1_20 : decode prog_25_method_4_code 20 = .ok (.istore_n 1, 1) := by decide +kernel
theorem d1_21 : decode prog_25_method_4_code 21 = .ok (.lconst 1, 1) := by decide +kernel
theorem d1_22 : decode prog_25_method_4_code 22 = .ok (.iload_n 1, 1) := by decide +kernel
theorem d1_23 : decode prog_25_method_4_code 23 = .ok (.lshl, 1) := by decide +kernel
theorem d1_24 : decode prog_25_method_4_code 24 = .ok (.iload_n 1, 1) := by decide +kernel
theorem d1_25 : decode prog_25_method_4_code 25 = .ok (.i2l, 1) := by decide +kernel
theorem d1_26 : decode prog_25_method_4_code 26 = .ok (.iload_n 0, 1) := by decide +kernel
theorem d1_27 : decode prog_25_method_4_code 27 = .ok (.i2l, 1) := by decide +kernel
theorem d1_28 : decode prog_25_method_4_code 28 = .ok (.ladd, 1) := by decide +kernel
theorem d1_29 : decode prog_25_method_4_code 29 = .ok (.lconst 1, 1) := by decide +kernel
theorem d1_30 : decode prog_25_method_4_code 30 = .ok (.ladd, 1) := by decide +kernel
theorem d1_31 : decode prog_25_method_4_code 31 = .ok (.lcmp, 1) := by decide +kernel
theorem d1_32 : decode prog_25_method_4_code 32 = .ok (.ifCond .ge 9, 3) := by decide +kernel
theorem d1_35 : decode prog_25_method_4_code 35 = .ok (.iinc 1 1, 3) := by decide +kernel
theorem d1_38 : decode prog_25_method_4_code 38 = .ok (.goto (-17), 3) := by decide +kernel
theorem d1_41 : decode prog_25_method_4_code 41 = .ok (.iload_n 1, 1) := by decide +kernel
theorem d1_42 : decode prog_25_method_4_code 42 = .ok (.bipush 16, 2) := by decide +kernel
theorem d1_44 : decode prog_25_method_4_code 44 = .ok (.if_icmp .le 23, 3) := by decide +kernel
theorem d1_67 : decode prog_25_method_4_code 67 = .ok (.iload_n 1, 1) := by decide +kernel
theorem d1_68 : decode prog_25_method_4_code 68 = .ok (.ireturn, 1) := by decide +kernel
theorem pn_1 : plainName "com/example/parity_lattice/paritylattice/PlainCode" = true := by first | (simp [plainName, overriddenIn]; done) | decide +kernel
theorem ef_1 (m : MethodId) (x0 : Int32) : entryFrame m #[(.int x0)] 2 = mkF m 0 #[.val (.int x0), .unset] [] := by first | (simp [entryFrame, mkF, argsToLocals, Value.category]; done) | rfl
theorem pn_0 : plainName "com/example/parity_lattice/paritylattice/PlainCodeCheckBitsForPinLaw" = true := by first | (simp [plainName, overriddenIn]; done) | decide +kernel
theorem pd0_0 : parseMethodDescriptor "(I)I" = some ⟨[.int], some .int⟩ := by decide +kernel
theorem ef_0 (m : MethodId) (x0 : Int32) : entryFrame m #[(.int x0)] maxLocals = mkF m 0 #[.val (.int x0), .unset, .unset, .unset, .unset, .unset, .unset] [] := by first | (simp [entryFrame, mkF, argsToLocals, Value.category, maxLocals]; done) | rfl
def sp1 (p1 : Int32) : Int32 := (if ((1 : Int64) <<< ((0 : Int32) &&& 0x3f).toInt64) < ((((0 : Int32).toInt64) + (p1.toInt64)) + (1 : Int64)) then (if ((1 : Int64) <<< ((1 : Int32) &&& 0x3f).toInt64) < ((((1 : Int32).toInt64) + (p1.toInt64)) + (1 : Int64)) then (if ((1 : Int64) <<< ((2 : Int32) &&& 0x3f).toInt64) < ((((2 : Int32).toInt64) + (p1.toInt64)) + (1 : Int64)) then (if ((1 : Int64) <<< ((3 : Int32) &&& 0x3f).toInt64) < ((((3 : Int32).toInt64) + (p1.toInt64)) + (1 : Int64)) then (if ((1 : Int64) <<< ((4 : Int32) &&& 0x3f).toInt64) < ((((4 : Int32).toInt64) + (p1.toInt64)) + (1 : Int64)) then (if ((1 : Int64) <<< ((5 : Int32) &&& 0x3f).toInt64) < ((((5 : Int32).toInt64) + (p1.toInt64)) + (1 : Int64)) then (if ((1 : Int64) <<< ((6 : Int32) &&& 0x3f).toInt64) < ((((6 : Int32).toInt64) + (p1.toInt64)) + (1 : Int64)) then (if ((1 : Int64) <<< ((7 : Int32) &&& 0x3f).toInt64) < ((((7 : Int32).toInt64) + (p1.toInt64)) + (1 : Int64)) then (if ((1 : Int64) <<< ((8 : Int32) &&& 0x3f).toInt64) < ((((8 : Int32).toInt64) + (p1.toInt64)) + (1 : Int64)) then (if ((1 : Int64) <<< ((9 : Int32) &&& 0x3f).toInt64) < ((((9 : Int32).toInt64) + (p1.toInt64)) + (1 : Int64)) then (if ((1 : Int64) <<< ((10 : Int32) &&& 0x3f).toInt64) < ((((10 : Int32).toInt64) + (p1.toInt64)) + (1 : Int64)) then (if ((1 : Int64) <<< ((11 : Int32) &&& 0x3f).toInt64) < ((((11 : Int32).toInt64) + (p1.toInt64)) + (1 : Int64)) then (if ((1 : Int64) <<< ((12 : Int32) &&& 0x3f).toInt64) < ((((12 : Int32).toInt64) + (p1.toInt64)) + (1 : Int64)) then (if ((1 : Int64) <<< ((13 : Int32) &&& 0x3f).toInt64) < ((((13 : Int32).toInt64) + (p1.toInt64)) + (1 : Int64)) then (if ((1 : Int64) <<< ((14 : Int32) &&& 0x3f).toInt64) < ((((14 : Int32).toInt64) + (p1.toInt64)) + (1 : Int64)) then (if ((1 : Int64) <<< ((15 : Int32) &&& 0x3f).toInt64) < ((((15 : Int32).toInt64) + (p1.toInt64)) + (1 : Int64)) then (16 : Int32) else (15 : Int32)) else (14 : Int32)) else (13 : Int32)) else (12 : Int32)) else (11 : Int32)) else (10 : Int32)) else (9 : Int32)) else (8 : Int32)) else (7 : Int32)) else (6 : Int32)) else (5 : Int32)) else (4 : Int32)) else (3 : Int32)) else (2 : Int32)) else (1 : Int32)) else (0 : Int32))
def v0_9 (p1 : Int32) : Int32 := ((1 : Int32) + ((p1 &&& (2147483647 : Int32)) % (65519 : Int32)))
def v0_14 (p1 : Int32) : Int32 := (sp1 (v0_9 p1))
def sp0 (p1 : Int32) : Int32 := (if (v0_14 p1) < (2 : Int32) then (0 : Int32) else (if (16 : Int32) < (v0_14 p1) then (0 : Int32) else (if ((1 : Int64) <<< ((v0_14 p1) &&& 0x3f).toInt64) < ((((v0_14 p1).toInt64) + ((v0_9 p1).toInt64)) + (1 : Int64)) then (if ((1 : Int64) <<< (((v0_14 p1) - (1 : Int32)) &&& 0x3f).toInt64) < (((((v0_14 p1) - (1 : Int32)).toInt64) + ((v0_9 p1).toInt64)) + (1 : Int64)) then (0 : Int32) else (0 : Int32)) else (if ((1 : Int64) <<< (((v0_14 p1) - (1 : Int32)) &&& 0x3f).toInt64) < (((((v0_14 p1) - (1 : Int32)).toInt64) + ((v0_9 p1).toInt64)) + (1 : Int64)) then (1 : Int32) else (0 : Int32)))))
theorem own_rem (p : Int32) : 1 ≤ (v0_9 p).toInt ∧ (v0_9 p).toInt ≤ 65519 := by
  unfold v0_9
  have h1 := c_mask p 2147483647 31 (by decide) (by decide)
  have h2 := (c_irem (p &&& 2147483647) 65519 65519 (by decide)).1 (by omega)
  have h3 := c_iadd 1 ((p &&& 2147483647) % 65519)
  have h4 := rng32 (1 + (p &&& 2147483647) % 65519)
  have e1 : (1 : Int32).toInt = 1 := by decide
  omega
theorem own_k1 (p : Int32) : ¬ (v0_9 p < (1 : Int32)) := fun q => by
  have q1 := Int32.lt_iff_toInt_lt.mp q
  have e1 : (1 : Int32).toInt = 1 := by decide
  have := own_rem p
  omega
theorem own_k2 (p : Int32) : (v0_9 p).toInt ≤ 65519 := (own_rem p).2
theorem own_iff (a : Int64) (m p : Int32) (h1 : -1000 ≤ m.toInt) (h2 : m.toInt ≤ 1000) (h3 : 0 ≤ p.toInt) : a < ((m.toInt64 + p.toInt64) + (1 : Int64)) ↔ a.toInt < m.toInt + p.toInt + 1 := by
  rw [Int64.lt_iff_toInt_lt]
  have a1 := c_ladd m.toInt64 p.toInt64
  have a2 := c_ladd (m.toInt64 + p.toInt64) 1
  have r1 := rng64 (m.toInt64 + p.toInt64)
  have r2 := rng64 (m.toInt64 + p.toInt64 + 1)
  have r3 := rng32 p
  have e1 : (1 : Int64).toInt = 1 := by decide
  rw [c_i2l, c_i2l] at a1
  omega
theorem own_last (p : Int32) (hk1 : ¬ (p < (1 : Int32))) (hk2 : p.toInt ≤ 65519) : ¬ (((1 : Int64) <<< ((16 : Int32) &&& 0x3f).toInt64) < ((((16 : Int32).toInt64) + (p.toInt64)) + (1 : Int64))) := by
  have h : ¬ p.toInt < (1 : Int32).toInt := fun q => hk1 (Int32.lt_iff_toInt_lt.mpr q)
  have e1 : (1 : Int32).toInt = 1 := by decide
  rw [own_iff _ _ _ (by decide) (by decide) (by omega)]
  have e2 : (((1 : Int64) <<< ((16 : Int32) &&& 0x3f).toInt64)).toInt = 65536 := by decide
  have e3 : (16 : Int32).toInt = 16 := by decide
  omega
theorem own_sp1 (p : Int32) (h1 : 1 ≤ p.toInt) (h2 : p.toInt ≤ 65519) : ∃ m : Fin 17, 2 ≤ m.val ∧ sp1 p = Int32.ofNat m.val ∧ (m.val : Int) + p.toInt + 1 ≤ ((2 ^ m.val : Nat) : Int) ∧ ((2 ^ (m.val - 1) : Nat) : Int) < ((m.val : Int) - 1) + p.toInt + 1 := by
  unfold sp1
  have i0 : ((1 : Int64) <<< ((0 : Int32) &&& 0x3f).toInt64) < ((((0 : Int32).toInt64) + (p.toInt64)) + (1 : Int64)) ↔ (1 : Int) < 0 + p.toInt + 1 := by rw [own_iff _ _ _ (by decide) (by decide) (by omega), show (((1 : Int64) <<< ((0 : Int32) &&& 0x3f).toInt64)).toInt = 1 by decide, show (0 : Int32).toInt = 0 by decide]
  by_cases c0 : ((1 : Int64) <<< ((0 : Int32) &&& 0x3f).toInt64) < ((((0 : Int32).toInt64) + (p.toInt64)) + (1 : Int64))
  · rw [if_pos c0]
    have d0 := i0.mp c0
    have i1 : ((1 : Int64) <<< ((1 : Int32) &&& 0x3f).toInt64) < ((((1 : Int32).toInt64) + (p.toInt64)) + (1 : Int64)) ↔ (2 : Int) < 1 + p.toInt + 1 := by rw [own_iff _ _ _ (by decide) (by decide) (by omega), show (((1 : Int64) <<< ((1 : Int32) &&& 0x3f).toInt64)).toInt = 2 by decide, show (1 : Int32).toInt = 1 by decide]
    by_cases c1 : ((1 : Int64) <<< ((1 : Int32) &&& 0x3f).toInt64) < ((((1 : Int32).toInt64) + (p.toInt64)) + (1 : Int64))
    · rw [if_pos c1]
      have d1 := i1.mp c1
      have i2 : ((1 : Int64) <<< ((2 : Int32) &&& 0x3f).toInt64) < ((((2 : Int32).toInt64) + (p.toInt64)) + (1 : Int64)) ↔ (4 : Int) < 2 + p.toInt + 1 := by rw [own_iff _ _ _ (by decide) (by decide) (by omega), show (((1 : Int64) <<< ((2 : Int32) &&& 0x3f).toInt64)).toInt = 4 by decide, show (2 : Int32).toInt = 2 by decide]
      by_cases c2 : ((1 : Int64) <<< ((2 : Int32) &&& 0x3f).toInt64) < ((((2 : Int32).toInt64) + (p.toInt64)) + (1 : Int64))
      · rw [if_pos c2]
        have d2 := i2.mp c2
        have i3 : ((1 : Int64) <<< ((3 : Int32) &&& 0x3f).toInt64) < ((((3 : Int32).toInt64) + (p.toInt64)) + (1 : Int64)) ↔ (8 : Int) < 3 + p.toInt + 1 := by rw [own_iff _ _ _ (by decide) (by decide) (by omega), show (((1 : Int64) <<< ((3 : Int32) &&& 0x3f).toInt64)).toInt = 8 by decide, show (3 : Int32).toInt = 3 by decide]
        by_cases c3 : ((1 : Int64) <<< ((3 : Int32) &&& 0x3f).toInt64) < ((((3 : Int32).toInt64) + (p.toInt64)) + (1 : Int64))
        · rw [if_pos c3]
          have d3 := i3.mp c3
          have i4 : ((1 : Int64) <<< ((4 : Int32) &&& 0x3f).toInt64) < ((((4 : Int32).toInt64) + (p.toInt64)) + (1 : Int64)) ↔ (16 : Int) < 4 + p.toInt + 1 := by rw [own_iff _ _ _ (by decide) (by decide) (by omega), show (((1 : Int64) <<< ((4 : Int32) &&& 0x3f).toInt64)).toInt = 16 by decide, show (4 : Int32).toInt = 4 by decide]
          by_cases c4 : ((1 : Int64) <<< ((4 : Int32) &&& 0x3f).toInt64) < ((((4 : Int32).toInt64) + (p.toInt64)) + (1 : Int64))
          · rw [if_pos c4]
            have d4 := i4.mp c4
            have i5 : ((1 : Int64) <<< ((5 : Int32) &&& 0x3f).toInt64) < ((((5 : Int32).toInt64) + (p.toInt64)) + (1 : Int64)) ↔ (32 : Int) < 5 + p.toInt + 1 := by rw [own_iff _ _ _ (by decide) (by decide) (by omega), show (((1 : Int64) <<< ((5 : Int32) &&& 0x3f).toInt64)).toInt = 32 by decide, show (5 : Int32).toInt = 5 by decide]
            by_cases c5 : ((1 : Int64) <<< ((5 : Int32) &&& 0x3f).toInt64) < ((((5 : Int32).toInt64) + (p.toInt64)) + (1 : Int64))
            · rw [if_pos c5]
              have d5 := i5.mp c5
              have i6 : ((1 : Int64) <<< ((6 : Int32) &&& 0x3f).toInt64) < ((((6 : Int32).toInt64) + (p.toInt64)) + (1 : Int64)) ↔ (64 : Int) < 6 + p.toInt + 1 := by rw [own_iff _ _ _ (by decide) (by decide) (by omega), show (((1 : Int64) <<< ((6 : Int32) &&& 0x3f).toInt64)).toInt = 64 by decide, show (6 : Int32).toInt = 6 by decide]
              by_cases c6 : ((1 : Int64) <<< ((6 : Int32) &&& 0x3f).toInt64) < ((((6 : Int32).toInt64) + (p.toInt64)) + (1 : Int64))
              · rw [if_pos c6]
                have d6 := i6.mp c6
                have i7 : ((1 : Int64) <<< ((7 : Int32) &&& 0x3f).toInt64) < ((((7 : Int32).toInt64) + (p.toInt64)) + (1 : Int64)) ↔ (128 : Int) < 7 + p.toInt + 1 := by rw [own_iff _ _ _ (by decide) (by decide) (by omega), show (((1 : Int64) <<< ((7 : Int32) &&& 0x3f).toInt64)).toInt = 128 by decide, show (7 : Int32).toInt = 7 by decide]
                by_cases c7 : ((1 : Int64) <<< ((7 : Int32) &&& 0x3f).toInt64) < ((((7 : Int32).toInt64) + (p.toInt64)) + (1 : Int64))
                · rw [if_pos c7]
                  have d7 := i7.mp c7
                  have i8 : ((1 : Int64) <<< ((8 : Int32) &&& 0x3f).toInt64) < ((((8 : Int32).toInt64) + (p.toInt64)) + (1 : Int64)) ↔ (256 : Int) < 8 + p.toInt + 1 := by rw [own_iff _ _ _ (by decide) (by decide) (by omega), show (((1 : Int64) <<< ((8 : Int32) &&& 0x3f).toInt64)).toInt = 256 by decide, show (8 : Int32).toInt = 8 by decide]
                  by_cases c8 : ((1 : Int64) <<< ((8 : Int32) &&& 0x3f).toInt64) < ((((8 : Int32).toInt64) + (p.toInt64)) + (1 : Int64))
                  · rw [if_pos c8]
                    have d8 := i8.mp c8
                    have i9 : ((1 : Int64) <<< ((9 : Int32) &&& 0x3f).toInt64) < ((((9 : Int32).toInt64) + (p.toInt64)) + (1 : Int64)) ↔ (512 : Int) < 9 + p.toInt + 1 := by rw [own_iff _ _ _ (by decide) (by decide) (by omega), show (((1 : Int64) <<< ((9 : Int32) &&& 0x3f).toInt64)).toInt = 512 by decide, show (9 : Int32).toInt = 9 by decide]
                    by_cases c9 : ((1 : Int64) <<< ((9 : Int32) &&& 0x3f).toInt64) < ((((9 : Int32).toInt64) + (p.toInt64)) + (1 : Int64))
                    · rw [if_pos c9]
                      have d9 := i9.mp c9
                      have i10 : ((1 : Int64) <<< ((10 : Int32) &&& 0x3f).toInt64) < ((((10 : Int32).toInt64) + (p.toInt64)) + (1 : Int64)) ↔ (1024 : Int) < 10 + p.toInt + 1 := by rw [own_iff _ _ _ (by decide) (by decide) (by omega), show (((1 : Int64) <<< ((10 : Int32) &&& 0x3f).toInt64)).toInt = 1024 by decide, show (10 : Int32).toInt = 10 by decide]
                      by_cases c10 : ((1 : Int64) <<< ((10 : Int32) &&& 0x3f).toInt64) < ((((10 : Int32).toInt64) + (p.toInt64)) + (1 : Int64))
                      · rw [if_pos c10]
                        have d10 := i10.mp c10
                        have i11 : ((1 : Int64) <<< ((11 : Int32) &&& 0x3f).toInt64) < ((((11 : Int32).toInt64) + (p.toInt64)) + (1 : Int64)) ↔ (2048 : Int) < 11 + p.toInt + 1 := by rw [own_iff _ _ _ (by decide) (by decide) (by omega), show (((1 : Int64) <<< ((11 : Int32) &&& 0x3f).toInt64)).toInt = 2048 by decide, show (11 : Int32).toInt = 11 by decide]
                        by_cases c11 : ((1 : Int64) <<< ((11 : Int32) &&& 0x3f).toInt64) < ((((11 : Int32).toInt64) + (p.toInt64)) + (1 : Int64))
                        · rw [if_pos c11]
                          have d11 := i11.mp c11
                          have i12 : ((1 : Int64) <<< ((12 : Int32) &&& 0x3f).toInt64) < ((((12 : Int32).toInt64) + (p.toInt64)) + (1 : Int64)) ↔ (4096 : Int) < 12 + p.toInt + 1 := by rw [own_iff _ _ _ (by decide) (by decide) (by omega), show (((1 : Int64) <<< ((12 : Int32) &&& 0x3f).toInt64)).toInt = 4096 by decide, show (12 : Int32).toInt = 12 by decide]
                          by_cases c12 : ((1 : Int64) <<< ((12 : Int32) &&& 0x3f).toInt64) < ((((12 : Int32).toInt64) + (p.toInt64)) + (1 : Int64))
                          · rw [if_pos c12]
                            have d12 := i12.mp c12
                            have i13 : ((1 : Int64) <<< ((13 : Int32) &&& 0x3f).toInt64) < ((((13 : Int32).toInt64) + (p.toInt64)) + (1 : Int64)) ↔ (8192 : Int) < 13 + p.toInt + 1 := by rw [own_iff _ _ _ (by decide) (by decide) (by omega), show (((1 : Int64) <<< ((13 : Int32) &&& 0x3f).toInt64)).toInt = 8192 by decide, show (13 : Int32).toInt = 13 by decide]
                            by_cases c13 : ((1 : Int64) <<< ((13 : Int32) &&& 0x3f).toInt64) < ((((13 : Int32).toInt64) + (p.toInt64)) + (1 : Int64))
                            · rw [if_pos c13]
                              have d13 := i13.mp c13
                              have i14 : ((1 : Int64) <<< ((14 : Int32) &&& 0x3f).toInt64) < ((((14 : Int32).toInt64) + (p.toInt64)) + (1 : Int64)) ↔ (16384 : Int) < 14 + p.toInt + 1 := by rw [own_iff _ _ _ (by decide) (by decide) (by omega), show (((1 : Int64) <<< ((14 : Int32) &&& 0x3f).toInt64)).toInt = 16384 by decide, show (14 : Int32).toInt = 14 by decide]
                              by_cases c14 : ((1 : Int64) <<< ((14 : Int32) &&& 0x3f).toInt64) < ((((14 : Int32).toInt64) + (p.toInt64)) + (1 : Int64))
                              · rw [if_pos c14]
                                have d14 := i14.mp c14
                                have i15 : ((1 : Int64) <<< ((15 : Int32) &&& 0x3f).toInt64) < ((((15 : Int32).toInt64) + (p.toInt64)) + (1 : Int64)) ↔ (32768 : Int) < 15 + p.toInt + 1 := by rw [own_iff _ _ _ (by decide) (by decide) (by omega), show (((1 : Int64) <<< ((15 : Int32) &&& 0x3f).toInt64)).toInt = 32768 by decide, show (15 : Int32).toInt = 15 by decide]
                                by_cases c15 : ((1 : Int64) <<< ((15 : Int32) &&& 0x3f).toInt64) < ((((15 : Int32).toInt64) + (p.toInt64)) + (1 : Int64))
                                · rw [if_pos c15]
                                  have d15 := i15.mp c15
                                  exact ⟨⟨16, by decide⟩, by decide, rfl, by simp only [Nat.reducePow, Nat.reduceSub]; omega, by simp only [Nat.reducePow, Nat.reduceSub]; omega⟩
                                · rw [if_neg c15]
                                  have d15 : ¬ ((32768 : Int) < 15 + p.toInt + 1) := fun q => c15 (i15.mpr q)
                                  exact ⟨⟨15, by decide⟩, by decide, rfl, by simp only [Nat.reducePow, Nat.reduceSub]; omega, by simp only [Nat.reducePow, Nat.reduceSub]; omega⟩
                              · rw [if_neg c14]
                                have d14 : ¬ ((16384 : Int) < 14 + p.toInt + 1) := fun q => c14 (i14.mpr q)
                                exact ⟨⟨14, by decide⟩, by decide, rfl, by simp only [Nat.reducePow, Nat.reduceSub]; omega, by simp only [Nat.reducePow, Nat.reduceSub]; omega⟩
                            · rw [if_neg c13]
                              have d13 : ¬ ((8192 : Int) < 13 + p.toInt + 1) := fun q => c13 (i13.mpr q)
                              exact ⟨⟨13, by decide⟩, by decide, rfl, by simp only [Nat.reducePow, Nat.reduceSub]; omega, by simp only [Nat.reducePow, Nat.reduceSub]; omega⟩
                          · rw [if_neg c12]
                            have d12 : ¬ ((4096 : Int) < 12 + p.toInt + 1) := fun q => c12 (i12.mpr q)
                            exact ⟨⟨12, by decide⟩, by decide, rfl, by simp only [Nat.reducePow, Nat.reduceSub]; omega, by simp only [Nat.reducePow, Nat.reduceSub]; omega⟩
                        · rw [if_neg c11]
                          have d11 : ¬ ((2048 : Int) < 11 + p.toInt + 1) := fun q => c11 (i11.mpr q)
                          exact ⟨⟨11, by decide⟩, by decide, rfl, by simp only [Nat.reducePow, Nat.reduceSub]; omega, by simp only [Nat.reducePow, Nat.reduceSub]; omega⟩
                      · rw [if_neg c10]
                        have d10 : ¬ ((1024 : Int) < 10 + p.toInt + 1) := fun q => c10 (i10.mpr q)
                        exact ⟨⟨10, by decide⟩, by decide, rfl, by simp only [Nat.reducePow, Nat.reduceSub]; omega, by simp only [Nat.reducePow, Nat.reduceSub]; omega⟩
                    · rw [if_neg c9]
                      have d9 : ¬ ((512 : Int) < 9 + p.toInt + 1) := fun q => c9 (i9.mpr q)
                      exact ⟨⟨9, by decide⟩, by decide, rfl, by simp only [Nat.reducePow, Nat.reduceSub]; omega, by simp only [Nat.reducePow, Nat.reduceSub]; omega⟩
                  · rw [if_neg c8]
                    have d8 : ¬ ((256 : Int) < 8 + p.toInt + 1) := fun q => c8 (i8.mpr q)
                    exact ⟨⟨8, by decide⟩, by decide, rfl, by simp only [Nat.reducePow, Nat.reduceSub]; omega, by simp only [Nat.reducePow, Nat.reduceSub]; omega⟩
                · rw [if_neg c7]
                  have d7 : ¬ ((128 : Int) < 7 + p.toInt + 1) := fun q => c7 (i7.mpr q)
                  exact ⟨⟨7, by decide⟩, by decide, rfl, by simp only [Nat.reducePow, Nat.reduceSub]; omega, by simp only [Nat.reducePow, Nat.reduceSub]; omega⟩
              · rw [if_neg c6]
                have d6 : ¬ ((64 : Int) < 6 + p.toInt + 1) := fun q => c6 (i6.mpr q)
                exact ⟨⟨6, by decide⟩, by decide, rfl, by simp only [Nat.reducePow, Nat.reduceSub]; omega, by simp only [Nat.reducePow, Nat.reduceSub]; omega⟩
            · rw [if_neg c5]
              have d5 : ¬ ((32 : Int) < 5 + p.toInt + 1) := fun q => c5 (i5.mpr q)
              exact ⟨⟨5, by decide⟩, by decide, rfl, by simp only [Nat.reducePow, Nat.reduceSub]; omega, by simp only [Nat.reducePow, Nat.reduceSub]; omega⟩
          · rw [if_neg c4]
            have d4 : ¬ ((16 : Int) < 4 + p.toInt + 1) := fun q => c4 (i4.mpr q)
            exact ⟨⟨4, by decide⟩, by decide, rfl, by simp only [Nat.reducePow, Nat.reduceSub]; omega, by simp only [Nat.reducePow, Nat.reduceSub]; omega⟩
        · rw [if_neg c3]
          have d3 : ¬ ((8 : Int) < 3 + p.toInt + 1) := fun q => c3 (i3.mpr q)
          exact ⟨⟨3, by decide⟩, by decide, rfl, by simp only [Nat.reducePow, Nat.reduceSub]; omega, by simp only [Nat.reducePow, Nat.reduceSub]; omega⟩
      · rw [if_neg c2]
        have d2 : ¬ ((4 : Int) < 2 + p.toInt + 1) := fun q => c2 (i2.mpr q)
        exact ⟨⟨2, by decide⟩, by decide, rfl, by simp only [Nat.reducePow, Nat.reduceSub]; omega, by simp only [Nat.reducePow, Nat.reduceSub]; omega⟩
    · rw [if_neg c1]
      have d1 : ¬ ((2 : Int) < 1 + p.toInt + 1) := fun q => c1 (i1.mpr q)
      exfalso; omega
  · rw [if_neg c0]
    have d0 : ¬ ((1 : Int) < 0 + p.toInt + 1) := fun q => c0 (i0.mpr q)
    exfalso; omega
theorem own_m : ∀ m : Fin 17, 2 ≤ m.val → (¬ (Int32.ofNat m.val < (2 : Int32)) ∧ ¬ ((16 : Int32) < Int32.ofNat m.val)) ∧ (((1 : Int64) <<< ((Int32.ofNat m.val) &&& 0x3f).toInt64).toInt = ((2 ^ m.val : Nat) : Int) ∧ ((1 : Int64) <<< ((Int32.ofNat m.val - 1) &&& 0x3f).toInt64).toInt = ((2 ^ (m.val - 1) : Nat) : Int)) ∧ (Int32.ofNat m.val).toInt = (m.val : Int) ∧ (Int32.ofNat m.val - 1).toInt = (m.val : Int) - 1 := by decide +kernel
theorem own_law (p1 : Int32) : sp0 p1 = 1 := by
  have hr := own_rem p1
  unfold sp0 v0_14
  generalize v0_9 p1 = k at *
  obtain ⟨m, h1, h2, h3, h4⟩ := own_sp1 k hr.1 hr.2
  obtain ⟨⟨q1, q2⟩, ⟨q3, q4⟩, q5, q6⟩ := own_m m h1
  have hm := m.isLt
  rw [h2, if_neg q1, if_neg q2]
  have n1 : ¬ ((1 : Int64) <<< ((Int32.ofNat m.val) &&& 0x3f).toInt64) < ((((Int32.ofNat m.val).toInt64) + (k.toInt64)) + (1 : Int64)) := by
    rw [own_iff _ _ _ (by omega) (by omega) (by omega), q3, q5]; omega
  have n2 : ((1 : Int64) <<< (((Int32.ofNat m.val) - (1 : Int32)) &&& 0x3f).toInt64) < (((((Int32.ofNat m.val) - (1 : Int32)).toInt64) + (k.toInt64)) + (1 : Int64)) := by
    rw [own_iff _ _ _ (by omega) (by omega) (by omega), q4, q6]; omega
  rw [if_neg n1, if_pos n2]
def Q1 (Z : State) (p1 : Int32) (h0 : Heap) (n0 : Nat) (v : Option Value) (h : Heap) (L : List Loc) : Prop := v = some (.int (sp1 p1)) ∧ Fr n0 L ∧ h = h0
set_option maxRecDepth 65536 in
set_option maxHeartbeats 40000000 in
theorem rm1 (l : Launch) (Z : State) (a0 : Array Value) (hw : ∀ d ∈ tables_1, d.before a0 Z = true) (ws : List Jvm.Cond) (p1 : Int32) (h0 : Heap) (n0 : Nat) (Z0 : n0 ≤ h0.size) (hk1 : ¬ (p1 < (1 : Int32))) (hk2 : p1.toInt ≤ 65519) :
    MetFree l (⟨"com/example/parity_lattice/paritylattice/PlainCode", "checkBitsFor", "(I)I"⟩ : MethodName) (head1 (Jvm.Cond.code (⟨"com/example/parity_lattice/paritylattice/PlainCode", "checkBitsFor", "(I)I"⟩ : MethodName) prog_25_method_4_code 2 (some .int) :: ws) ({ frames := 0, cells := 0, slots := 0, locals := 0 } : Room)) (fun a U => a = #[(.int p1)] ∧ Z.Warmed39 U.vm ∧ U.heap = h0) (fun _ _ _ _ _ => True) (fun _ U o U' => ∃ v L, o = .returned v ∧ Q1 Z p1 h0 n0 v U'.heap L ∧ FrameEnd U o U' L ({ frames := 0, cells := 0, slots := 0, locals := 0 } : Room).cells ({ frames := 0, cells := 0, slots := 0, locals := 0 } : Room).slots) := by
  refine MetFree.of_bodySF (plainFor_of_name pn_1) hisR ?_
  intro p e s m args below meth c s₁ Bd hml0 hP hK
  obtain ⟨rfl, hZ, hh⟩ := hP
  have hx := Bd.exec
  have hby := Bd.bytes
  have hml : c.maxLocals = 2 := hml0
  have hown : s.vm.findClass "com/example/parity_lattice/paritylattice/PlainCode" = some m.cls := findClass_of_methodNamed Bd.named
  have hnm := (name_of_methodNamed Bd.named Bd.method).1
  have X0 : Stand p l e ({ frames := 0, cells := 0, slots := 0, locals := 0 } : Room) s m #[(.int p1)] below meth c s₁ [] 0 0 := Stand.of_body Bd
  have e0 : s₁.heap = h0 := by rw [← hh, Bd.state]; rfl
  have N0 := Fr.nil n0
  have pre0 : ∀ t, Steps p.tables e below (s₁.setTop (mkF m 0 #[.val (.int p1), .unset] [])) t → Steps p.tables e below (s₁.setTop (entryFrame m #[(.int p1)] 2)) t := fun t k => castTop (ef_1 m p1) k
  have pre1 : ∀ t, Steps p.tables e below (s₁.setTop (mkF m 0 #[.val (.int p1), .unset] [])) t → Steps p.tables e below (s₁.setTop (mkF m 0 #[.val (.int p1), .unset] [])) t := fun t k => k
  have k2 : ∀ t, Steps p.tables e below (s₁.setTop (mkF m 2 #[.val (.int p1), .unset] [(.int (1 : Int32)), (.int p1)])) t → Steps p.tables e below (s₁.setTop (mkF m 0 #[.val (.int p1), .unset] [])) t := fun t kt => pre1 t (by
    show Steps p.tables e below (s₁.setTop (mkF m 0 #[.val (.int p1), .unset] [])) _
    refine XS.iloadN X0.here hx rfl (hb hby d1_0) rfl ?_
    show Steps p.tables e below (s₁.setTop (mkF m 1 #[.val (.int p1), .unset] [(.int p1)])) _
    refine XS.iconst X0.here hx rfl (hb hby d1_1) ?_
    exact kt)
  have c2_1 : ¬ (p1 < (1 : Int32)) := hk1
  have k4 : ∀ t, Steps p.tables e below (s₁.setTop (mkF m 32 #[.val (.int p1), .val (.int (0 : Int32))] [(.int (lcmpW ((1 : Int64) <<< ((0 : Int32) &&& 0x3f).toInt64) ((((0 : Int32).toInt64) + (p1.toInt64)) + (1 : Int64))))])) t → Steps p.tables e below (s₁.setTop (mkF m 0 #[.val (.int p1), .unset] [])) t := fun t kt => k2 t (by
    show Steps p.tables e below (s₁.setTop (mkF m 2 #[.val (.int p1), .unset] [(.int (1 : Int32)), (.int p1)])) _
    refine XS.icmpYes X0.here hx rfl (pc0 := 2) (pc' := 19) rfl (hb hby d1_2) rfl (flt c2_1).2.1 (by decide) (by decide) ?_
    show Steps p.tables e below (s₁.setTop (mkF m 19 #[.val (.int p1), .unset] [])) _
    refine XS.iconst X0.here hx rfl (hb hby d1_19) ?_
    show Steps p.tables e below (s₁.setTop (mkF m 20 #[.val (.int p1), .unset] [(.int (0 : Int32))])) _
    refine XS.istoreN X0.here hx rfl (hb hby d1_20) rfl (l' := #[.val (.int p1), .val (.int (0 : Int32))]) rfl ?_
    show Steps p.tables e below (s₁.setTop (mkF m 21 #[.val (.int p1), .val (.int (0 : Int32))] [])) _
    refine XS.lconst X0.here hx rfl (hb hby d1_21) ?_
    show Steps p.tables e below (s₁.setTop (mkF m 22 #[.val (.int p1), .val (.int (0 : Int32))] [(.long (1 : Int64))])) _
    refine XS.iloadN X0.here hx rfl (hb hby d1_22) rfl ?_
    show Steps p.tables e below (s₁.setTop (mkF m 23 #[.val (.int p1), .val (.int (0 : Int32))] [(.int (0 : Int32)), (.long (1 : Int64))])) _
    refine XS.lshl X0.here hx rfl (hb hby d1_23) rfl ?_
    show Steps p.tables e below (s₁.setTop (mkF m 24 #[.val (.int p1), .val (.int (0 : Int32))] [(.long ((1 : Int64) <<< ((0 : Int32) &&& 0x3f).toInt64))])) _
    refine XS.iloadN X0.here hx rfl (hb hby d1_24) rfl ?_
    show Steps p.tables e below (s₁.setTop (mkF m 25 #[.val (.int p1), .val (.int (0 : Int32))] [(.int (0 : Int32)), (.long ((1 : Int64) <<< ((0 : Int32) &&& 0x3f).toInt64))])) _
    refine XS.i2l X0.here hx rfl (hb hby d1_25) rfl ?_
    show Steps p.tables e below (s₁.setTop (mkF m 26 #[.val (.int p1), .val (.int (0 : Int32))] [(.long ((0 : Int32).toInt64)), (.long ((1 : Int64) <<< ((0 : Int32) &&& 0x3f).toInt64))])) _
    refine XS.iloadN X0.here hx rfl (hb hby d1_26) rfl ?_
    show Steps p.tables e below (s₁.setTop (mkF m 27 #[.val (.int p1), .val (.int (0 : Int32))] [(.int p1), (.long ((0 : Int32).toInt64)), (.long ((1 : Int64) <<< ((0 : Int32) &&& 0x3f).toInt64))])) _
    refine XS.i2l X0.here hx rfl (hb hby d1_27) rfl ?_
    show Steps p.tables e below (s₁.setTop (mkF m 28 #[.val (.int p1), .val (.int (0 : Int32))] [(.long (p1.toInt64)), (.long ((0 : Int32).toInt64)), (.long ((1 : Int64) <<< ((0 : Int32) &&& 0x3f).toInt64))])) _
    refine XS.ladd X0.here hx rfl (hb hby d1_28) rfl ?_
    show Steps p.tables e below (s₁.setTop (mkF m 29 #[.val (.int p1), .val (.int (0 : Int32))] [(.long (((0 : Int32).toInt64) + (p1.toInt64))), (.long ((1 : Int64) <<< ((0 : Int32) &&& 0x3f).toInt64))])) _
    refine XS.lconst X0.here hx rfl (hb hby d1_29) ?_
    show Steps p.tables e below (s₁.setTop (mkF m 30 #[.val (.int p1), .val (.int (0 : Int32))] [(.long (1 : Int64)), (.long (((0 : Int32).toInt64) + (p1.toInt64))), (.long ((1 : Int64) <<< ((0 : Int32) &&& 0x3f).toInt64))])) _
    refine XS.ladd X0.here hx rfl (hb hby d1_30) rfl ?_
    show Steps p.tables e below (s₁.setTop (mkF m 31 #[.val (.int p1), .val (.int (0 : Int32))] [(.long ((((0 : Int32).toInt64) + (p1.toInt64)) + (1 : Int64))), (.long ((1 : Int64) <<< ((0 : Int32) &&& 0x3f).toInt64))])) _
    refine XS.lcmp X0.here hx rfl (hb hby d1_31) rfl ?_
    exact kt)
  by_cases c32_3 : ((1 : Int64) <<< ((0 : Int32) &&& 0x3f).toInt64) < ((((0 : Int32).toInt64) + (p1.toInt64)) + (1 : Int64))
  · have k6 : ∀ t, Steps p.tables e below (s₁.setTop (mkF m 32 #[.val (.int p1), .val (.int (1 : Int32))] [(.int (lcmpW ((1 : Int64) <<< ((1 : Int32) &&& 0x3f).toInt64) ((((1 : Int32).toInt64) + (p1.toInt64)) + (1 : Int64))))])) t → Steps p.tables e below (s₁.setTop (mkF m 0 #[.val (.int p1), .unset] [])) t := fun t kt => k4 t (by
      show Steps p.tables e below (s₁.setTop (mkF m 32 #[.val (.int p1), .val (.int (0 : Int32))] [(.int (lcmpW ((1 : Int64) <<< ((0 : Int32) &&& 0x3f).toInt64) ((((0 : Int32).toInt64) + (p1.toInt64)) + (1 : Int64))))])) _
      refine XS.ifNo X0.here hx rfl (hb hby d1_32) rfl ((if0 _ _).trans (tlt ((lw_lt _ _).mpr c32_3)).2.1) ?_
      show Steps p.tables e below (s₁.setTop (mkF m 35 #[.val (.int p1), .val (.int (0 : Int32))] [])) _
      refine XS.iinc X0.here hx rfl (hb hby d1_35) rfl (l' := #[.val (.int p1), .val (.int (1 : Int32))]) rfl ?_
      show Steps p.tables e below (s₁.setTop (mkF m 38 #[.val (.int p1), .val (.int (1 : Int32))] [])) _
      refine XS.goto X0.here hx rfl (pc0 := 38) (pc' := 21) rfl (hb hby d1_38) (by decide) (by decide) ?_
      show Steps p.tables e below (s₁.setTop (mkF m 21 #[.val (.int p1), .val (.int (1 : Int32))] [])) _
      refine XS.lconst X0.here hx rfl (hb hby d1_21) ?_
      show Steps p.tables e below (s₁.setTop (mkF m 22 #[.val (.int p1), .val (.int (1 : Int32))] [(.long (1 : Int64))])) _
      refine XS.iloadN X0.here hx rfl (hb hby d1_22) rfl ?_
      show Steps p.tables e below (s₁.setTop (mkF m 23 #[.val (.int p1), .val (.int (1 : Int32))] [(.int (1 : Int32)), (.long (1 : Int64))])) _
      refine XS.lshl X0.here hx rfl (hb hby d1_23) rfl ?_
      show Steps p.tables e below (s₁.setTop (mkF m 24 #[.val (.int p1), .val (.int (1 : Int32))] [(.long ((1 : Int64) <<< ((1 : Int32) &&& 0x3f).toInt64))])) _
      refine XS.iloadN X0.here hx rfl (hb hby d1_24) rfl ?_
      show Steps p.tables e below (s₁.setTop (mkF m 25 #[.val (.int p1), .val (.int (1 : Int32))] [(.int (1 : Int32)), (.long ((1 : Int64) <<< ((1 : Int32) &&& 0x3f).toInt64))])) _
      refine XS.i2l X0.here hx rfl (hb hby d1_25) rfl ?_
      show Steps p.tables e below (s₁.setTop (mkF m 26 #[.val (.int p1), .val (.int (1 : Int32))] [(.long ((1 : Int32).toInt64)), (.long ((1 : Int64) <<< ((1 : Int32) &&& 0x3f).toInt64))])) _
      refine XS.iloadN X0.here hx rfl (hb hby d1_26) rfl ?_
      show Steps p.tables e below (s₁.setTop (mkF m 27 #[.val (.int p1), .val (.int (1 : Int32))] [(.int p1), (.long ((1 : Int32).toInt64)), (.long ((1 : Int64) <<< ((1 : Int32) &&& 0x3f).toInt64))])) _
      refine XS.i2l X0.here hx rfl (hb hby d1_27) rfl ?_
      show Steps p.tables e below (s₁.setTop (mkF m 28 #[.val (.int p1), .val (.int (1 : Int32))] [(.long (p1.toInt64)), (.long ((1 : Int32).toInt64)), (.long ((1 : Int64) <<< ((1 : Int32) &&& 0x3f).toInt64))])) _
      refine XS.ladd X0.here hx rfl (hb hby d1_28) rfl ?_
      show Steps p.tables e below (s₁.setTop (mkF m 29 #[.val (.int p1), .val (.int (1 : Int32))] [(.long (((1 : Int32).toInt64) + (p1.toInt64))), (.long ((1 : Int64) <<< ((1 : Int32) &&& 0x3f).toInt64))])) _
      refine XS.lconst X0.here hx rfl (hb hby d1_29) ?_
      show Steps p.tables e below (s₁.setTop (mkF m 30 #[.val (.int p1), .val (.int (1 : Int32))] [(.long (1 : Int64)), (.long (((1 : Int32).toInt64) + (p1.toInt64))), (.long ((1 : Int64) <<< ((1 : Int32) &&& 0x3f).toInt64))])) _
      refine XS.ladd X0.here hx rfl (hb hby d1_30) rfl ?_
      show Steps p.tables e below (s₁.setTop (mkF m 31 #[.val (.int p1), .val (.int (1 : Int32))] [(.long ((((1 : Int32).toInt64) + (p1.toInt64)) + (1 : Int64))), (.long ((1 : Int64) <<< ((1 : Int32) &&& 0x3f).toInt64))])) _
      refine XS.lcmp X0.here hx rfl (hb hby d1_31) rfl ?_
      exact kt)
    by_cases c32_5 : ((1 : Int64) <<< ((1 : Int32) &&& 0x3f).toInt64) < ((((1 : Int32).toInt64) + (p1.toInt64)) + (1 : Int64))
    · have k8 : ∀ t, Steps p.tables e below (s₁.setTop (mkF m 32 #[.val (.int p1), .val (.int (2 : Int32))] [(.int (lcmpW ((1 : Int64) <<< ((2 : Int32) &&& 0x3f).toInt64) ((((2 : Int32).toInt64) + (p1.toInt64)) + (1 : Int64))))])) t → Steps p.tables e below (s₁.setTop (mkF m 0 #[.val (.int p1), .unset] [])) t := fun t kt => k6 t (by
        show Steps p.tables e below (s₁.setTop (mkF m 32 #[.val (.int p1), .val (.int (1 : Int32))] [(.int (lcmpW ((1 : Int64) <<< ((1 : Int32) &&& 0x3f).toInt64) ((((1 : Int32).toInt64) + (p1.toInt64)) + (1 : Int64))))])) _
        refine XS.ifNo X0.here hx rfl (hb hby d1_32) rfl ((if0 _ _).trans (tlt ((lw_lt _ _).mpr c32_5)).2.1) ?_
        show Steps p.tables e below (s₁.setTop (mkF m 35 #[.val (.int p1), .val (.int (1 : Int32))] [])) _
        refine XS.iinc X0.here hx rfl (hb hby d1_35) rfl (l' := #[.val (.int p1), .val (.int (2 : Int32))]) rfl ?_
        show Steps p.tables e below (s₁.setTop (mkF m 38 #[.val (.int p1), .val (.int (2 : Int32))] [])) _
        refine XS.goto X0.here hx rfl (pc0 := 38) (pc' := 21) rfl (hb hby d1_38) (by decide) (by decide) ?_
        show Steps p.tables e below (s₁.setTop (mkF m 21 #[.val (.int p1), .val (.int (2 : Int32))] [])) _
        refine XS.lconst X0.here hx rfl (hb hby d1_21) ?_
        show Steps p.tables e below (s₁.setTop (mkF m 22 #[.val (.int p1), .val (.int (2 : Int32))] [(.long (1 : Int64))])) _
        refine XS.iloadN X0.here hx rfl (hb hby d1_22) rfl ?_
        show Steps p.tables e below (s₁.setTop (mkF m 23 #[.val (.int p1), .val (.int (2 : Int32))] [(.int (2 : Int32)), (.long (1 : Int64))])) _
        refine XS.lshl X0.here hx rfl (hb hby d1_23) rfl ?_
        show Steps p.tables e below (s₁.setTop (mkF m 24 #[.val (.int p1), .val (.int (2 : Int32))] [(.long ((1 : Int64) <<< ((2 : Int32) &&& 0x3f).toInt64))])) _
        refine XS.iloadN X0.here hx rfl (hb hby d1_24) rfl ?_
        show Steps p.tables e below (s₁.setTop (mkF m 25 #[.val (.int p1), .val (.int (2 : Int32))] [(.int (2 : Int32)), (.long ((1 : Int64) <<< ((2 : Int32) &&& 0x3f).toInt64))])) _
        refine XS.i2l X0.here hx rfl (hb hby d1_25) rfl ?_
        show Steps p.tables e below (s₁.setTop (mkF m 26 #[.val (.int p1), .val (.int (2 : Int32))] [(.long ((2 : Int32).toInt64)), (.long ((1 : Int64) <<< ((2 : Int32) &&& 0x3f).toInt64))])) _
        refine XS.iloadN X0.here hx rfl (hb hby d1_26) rfl ?_
        show Steps p.tables e below (s₁.setTop (mkF m 27 #[.val (.int p1), .val (.int (2 : Int32))] [(.int p1), (.long ((2 : Int32).toInt64)), (.long ((1 : Int64) <<< ((2 : Int32) &&& 0x3f).toInt64))])) _
        refine XS.i2l X0.here hx rfl (hb hby d1_27) rfl ?_
        show Steps p.tables e below (s₁.setTop (mkF m 28 #[.val (.int p1), .val (.int (2 : Int32))] [(.long (p1.toInt64)), (.long ((2 : Int32).toInt64)), (.long ((1 : Int64) <<< ((2 : Int32) &&& 0x3f).toInt64))])) _
        refine XS.ladd X0.here hx rfl (hb hby d1_28) rfl ?_
        show Steps p.tables e below (s₁.setTop (mkF m 29 #[.val (.int p1), .val (.int (2 : Int32))] [(.long (((2 : Int32).toInt64) + (p1.toInt64))), (.long ((1 : Int64) <<< ((2 : Int32) &&& 0x3f).toInt64))])) _
        refine XS.lconst X0.here hx rfl (hb hby d1_29) ?_
        show Steps p.tables e below (s₁.setTop (mkF m 30 #[.val (.int p1), .val (.int (2 : Int32))] [(.long (1 : Int64)), (.long (((2 : Int32).toInt64) + (p1.toInt64))), (.long ((1 : Int64) <<< ((2 : Int32) &&& 0x3f).toInt64))])) _
        refine XS.ladd X0.here hx rfl (hb hby d1_30) rfl ?_
        show Steps p.tables e below (s₁.setTop (mkF m 31 #[.val (.int p1), .val (.int (2 : Int32))] [(.long ((((2 : Int32).toInt64) + (p1.toInt64)) + (1 : Int64))), (.long ((1 : Int64) <<< ((2 : Int32) &&& 0x3f).toInt64))])) _
        refine XS.lcmp X0.here hx rfl (hb hby d1_31) rfl ?_
        exact kt)
      by_cases c32_7 : ((1 : Int64) <<< ((2 : Int32) &&& 0x3f).toInt64) < ((((2 : Int32).toInt64) + (p1.toInt64)) + (1 : Int64))
      · have k10 : ∀ t, Steps p.tables e below (s₁.setTop (mkF m 32 #[.val (.int p1), .val (.int (3 : Int32))] [(.int (lcmpW ((1 : Int64) <<< ((3 : Int32) &&& 0x3f).toInt64) ((((3 : Int32).toInt64) + (p1.toInt64)) + (1 : Int64))))])) t → Steps p.tables e below (s₁.setTop (mkF m 0 #[.val (.int p1), .unset] [])) t := fun t kt => k8 t (by
          show Steps p.tables e below (s₁.setTop (mkF m 32 #[.val (.int p1), .val (.int (2 : Int32))] [(.int (lcmpW ((1 : Int64) <<< ((2 : Int32) &&& 0x3f).toInt64) ((((2 : Int32).toInt64) + (p1.toInt64)) + (1 : Int64))))])) _
          refine XS.ifNo X0.here hx rfl (hb hby d1_32) rfl ((if0 _ _).trans (tlt ((lw_lt _ _).mpr c32_7)).2.1) ?_
          show Steps p.tables e below (s₁.setTop (mkF m 35 #[.val (.int p1), .val (.int (2 : Int32))] [])) _
          refine XS.iinc X0.here hx rfl (hb hby d1_35) rfl (l' := #[.val (.int p1), .val (.int (3 : Int32))]) rfl ?_
          show Steps p.tables e below (s₁.setTop (mkF m 38 #[.val (.int p1), .val (.int (3 : Int32))] [])) _
          refine XS.goto X0.here hx rfl (pc0 := 38) (pc' := 21) rfl (hb hby d1_38) (by decide) (by decide) ?_
          show Steps p.tables e below (s₁.setTop (mkF m 21 #[.val (.int p1), .val (.int (3 : Int32))] [])) _
          refine XS.lconst X0.here hx rfl (hb hby d1_21) ?_
          show Steps p.tables e below (s₁.setTop (mkF m 22 #[.val (.int p1), .val (.int (3 : Int32))] [(.long (1 : Int64))])) _
          refine XS.iloadN X0.here hx rfl (hb hby d1_22) rfl ?_
          show Steps p.tables e below (s₁.setTop (mkF m 23 #[.val (.int p1), .val (.int (3 : Int32))] [(.int (3 : Int32)), (.long (1 : Int64))])) _
          refine XS.lshl X0.here hx rfl (hb hby d1_23) rfl ?_
          show Steps p.tables e below (s₁.setTop (mkF m 24 #[.val (.int p1), .val (.int (3 : Int32))] [(.long ((1 : Int64) <<< ((3 : Int32) &&& 0x3f).toInt64))])) _
          refine XS.iloadN X0.here hx rfl (hb hby d1_24) rfl ?_
          show Steps p.tables e below (s₁.setTop (mkF m 25 #[.val (.int p1), .val (.int (3 : Int32))] [(.int (3 : Int32)), (.long ((1 : Int64) <<< ((3 : Int32) &&& 0x3f).toInt64))])) _
          refine XS.i2l X0.here hx rfl (hb hby d1_25) rfl ?_
          show Steps p.tables e below (s₁.setTop (mkF m 26 #[.val (.int p1), .val (.int (3 : Int32))] [(.long ((3 : Int32).toInt64)), (.long ((1 : Int64) <<< ((3 : Int32) &&& 0x3f).toInt64))])) _
          refine XS.iloadN X0.here hx rfl (hb hby d1_26) rfl ?_
          show Steps p.tables e below (s₁.setTop (mkF m 27 #[.val (.int p1), .val (.int (3 : Int32))] [(.int p1), (.long ((3 : Int32).toInt64)), (.long ((1 : Int64) <<< ((3 : Int32) &&& 0x3f).toInt64))])) _
          refine XS.i2l X0.here hx rfl (hb hby d1_27) rfl ?_
          show Steps p.tables e below (s₁.setTop (mkF m 28 #[.val (.int p1), .val (.int (3 : Int32))] [(.long (p1.toInt64)), (.long ((3 : Int32).toInt64)), (.long ((1 : Int64) <<< ((3 : Int32) &&& 0x3f).toInt64))])) _
          refine XS.ladd X0.here hx rfl (hb hby d1_28) rfl ?_
          show Steps p.tables e below (s₁.setTop (mkF m 29 #[.val (.int p1), .val (.int (3 : Int32))] [(.long (((3 : Int32).toInt64) + (p1.toInt64))), (.long ((1 : Int64) <<< ((3 : Int32) &&& 0x3f).toInt64))])) _
          refine XS.lconst X0.here hx rfl (hb hby d1_29) ?_
          show Steps p.tables e below (s₁.setTop (mkF m 30 #[.val (.int p1), .val (.int (3 : Int32))] [(.long (1 : Int64)), (.long (((3 : Int32).toInt64) + (p1.toInt64))), (.long ((1 : Int64) <<< ((3 : Int32) &&& 0x3f).toInt64))])) _
          refine XS.ladd X0.here hx rfl (hb hby d1_30) rfl ?_
          show Steps p.tables e below (s₁.setTop (mkF m 31 #[.val (.int p1), .val (.int (3 : Int32))] [(.long ((((3 : Int32).toInt64) + (p1.toInt64)) + (1 : Int64))), (.long ((1 : Int64) <<< ((3 : Int32) &&& 0x3f).toInt64))])) _
          refine XS.lcmp X0.here hx rfl (hb hby d1_31) rfl ?_
          exact kt)
        by_cases c32_9 : ((1 : Int64) <<< ((3 : Int32) &&& 0x3f).toInt64) < ((((3 : Int32).toInt64) + (p1.toInt64)) + (1 : Int64))
        · have k12 : ∀ t, Steps p.tables e below (s₁.setTop (mkF m 32 #[.val (.int p1), .val (.int (4 : Int32))] [(.int (lcmpW ((1 : Int64) <<< ((4 : Int32) &&& 0x3f).toInt64) ((((4 : Int32).toInt64) + (p1.toInt64)) + (1 : Int64))))])) t → Steps p.tables e below (s₁.setTop (mkF m 0 #[.val (.int p1), .unset] [])) t := fun t kt => k10 t (by
            show Steps p.tables e below (s₁.setTop (mkF m 32 #[.val (.int p1), .val (.int (3 : Int32))] [(.int (lcmpW ((1 : Int64) <<< ((3 : Int32) &&& 0x3f).toInt64) ((((3 : Int32).toInt64) + (p1.toInt64)) + (1 : Int64))))])) _
            refine XS.ifNo X0.here hx rfl (hb hby d1_32) rfl ((if0 _ _).trans (tlt ((lw_lt _ _).mpr c32_9)).2.1) ?_
            show Steps p.tables e below (s₁.setTop (mkF m 35 #[.val (.int p1), .val (.int (3 : Int32))] [])) _
            refine XS.iinc X0.here hx rfl (hb hby d1_35) rfl (l' := #[.val (.int p1), .val (.int (4 : Int32))]) rfl ?_
            show Steps p.tables e below (s₁.setTop (mkF m 38 #[.val (.int p1), .val (.int (4 : Int32))] [])) _
            refine XS.goto X0.here hx rfl (pc0 := 38) (pc' := 21) rfl (hb hby d1_38) (by decide) (by decide) ?_
            show Steps p.tables e below (s₁.setTop (mkF m 21 #[.val (.int p1), .val (.int (4 : Int32))] [])) _
            refine XS.lconst X0.here hx rfl (hb hby d1_21) ?_
            show Steps p.tables e below (s₁.setTop (mkF m 22 #[.val (.int p1), .val (.int (4 : Int32))] [(.long (1 : Int64))])) _
            refine XS.iloadN X0.here hx rfl (hb hby d1_22) rfl ?_
            show Steps p.tables e below (s₁.setTop (mkF m 23 #[.val (.int p1), .val (.int (4 : Int32))] [(.int (4 : Int32)), (.long (1 : Int64))])) _
            refine XS.lshl X0.here hx rfl (hb hby d1_23) rfl ?_
            show Steps p.tables e below (s₁.setTop (mkF m 24 #[.val (.int p1), .val (.int (4 : Int32))] [(.long ((1 : Int64) <<< ((4 : Int32) &&& 0x3f).toInt64))])) _
            refine XS.iloadN X0.here hx rfl (hb hby d1_24) rfl ?_
            show Steps p.tables e below (s₁.setTop (mkF m 25 #[.val (.int p1), .val (.int (4 : Int32))] [(.int (4 : Int32)), (.long ((1 : Int64) <<< ((4 : Int32) &&& 0x3f).toInt64))])) _
            refine XS.i2l X0.here hx rfl (hb hby d1_25) rfl ?_
            show Steps p.tables e below (s₁.setTop (mkF m 26 #[.val (.int p1), .val (.int (4 : Int32))] [(.long ((4 : Int32).toInt64)), (.long ((1 : Int64) <<< ((4 : Int32) &&& 0x3f).toInt64))])) _
            refine XS.iloadN X0.here hx rfl (hb hby d1_26) rfl ?_
            show Steps p.tables e below (s₁.setTop (mkF m 27 #[.val (.int p1), .val (.int (4 : Int32))] [(.int p1), (.long ((4 : Int32).toInt64)), (.long ((1 : Int64) <<< ((4 : Int32) &&& 0x3f).toInt64))])) _
            refine XS.i2l X0.here hx rfl (hb hby d1_27) rfl ?_
            show Steps p.tables e below (s₁.setTop (mkF m 28 #[.val (.int p1), .val (.int (4 : Int32))] [(.long (p1.toInt64)), (.long ((4 : Int32).toInt64)), (.long ((1 : Int64) <<< ((4 : Int32) &&& 0x3f).toInt64))])) _
            refine XS.ladd X0.here hx rfl (hb hby d1_28) rfl ?_
            show Steps p.tables e below (s₁.setTop (mkF m 29 #[.val (.int p1), .val (.int (4 : Int32))] [(.long (((4 : Int32).toInt64) + (p1.toInt64))), (.long ((1 : Int64) <<< ((4 : Int32) &&& 0x3f).toInt64))])) _
            refine XS.lconst X0.here hx rfl (hb hby d1_29) ?_
            show Steps p.tables e below (s₁.setTop (mkF m 30 #[.val (.int p1), .val (.int (4 : Int32))] [(.long (1 : Int64)), (.long (((4 : Int32).toInt64) + (p1.toInt64))), (.long ((1 : Int64) <<< ((4 : Int32) &&& 0x3f).toInt64))])) _
            refine XS.ladd X0.here hx rfl (hb hby d1_30) rfl ?_
            show Steps p.tables e below (s₁.setTop (mkF m 31 #[.val (.int p1), .val (.int (4 : Int32))] [(.long ((((4 : Int32).toInt64) + (p1.toInt64)) + (1 : Int64))), (.long ((1 : Int64) <<< ((4 : Int32) &&& 0x3f).toInt64))])) _
            refine XS.lcmp X0.here hx rfl (hb hby d1_31) rfl ?_
            exact kt)
          by_cases c32_11 : ((1 : Int64) <<< ((4 : Int32) &&& 0x3f).toInt64) < ((((4 : Int32).toInt64) + (p1.toInt64)) + (1 : Int64))
          · have k14 : ∀ t, Steps p.tables e below (s₁.setTop (mkF m 32 #[.val (.int p1), .val (.int (5 : Int32))] [(.int (lcmpW ((1 : Int64) <<< ((5 : Int32) &&& 0x3f).toInt64) ((((5 : Int32).toInt64) + (p1.toInt64)) + (1 : Int64))))])) t → Steps p.tables e below (s₁.setTop (mkF m 0 #[.val (.int p1), .unset] [])) t := fun t kt => k12 t (by
              show Steps p.tables e below (s₁.setTop (mkF m 32 #[.val (.int p1), .val (.int (4 : Int32))] [(.int (lcmpW ((1 : Int64) <<< ((4 : Int32) &&& 0x3f).toInt64) ((((4 : Int32).toInt64) + (p1.toInt64)) + (1 : Int64))))])) _
              refine XS.ifNo X0.here hx rfl (hb hby d1_32) rfl ((if0 _ _).trans (tlt ((lw_lt _ _).mpr c32_11)).2.1) ?_
              show Steps p.tables e below (s₁.setTop (mkF m 35 #[.val (.int p1), .val (.int (4 : Int32))] [])) _
              refine XS.iinc X0.here hx rfl (hb hby d1_35) rfl (l' := #[.val (.int p1), .val (.int (5 : Int32))]) rfl ?_
              show Steps p.tables e below (s₁.setTop (mkF m 38 #[.val (.int p1), .val (.int (5 : Int32))] [])) _
              refine XS.goto X0.here hx rfl (pc0 := 38) (pc' := 21) rfl (hb hby d1_38) (by decide) (by decide) ?_
              show Steps p.tables e below (s₁.setTop (mkF m 21 #[.val (.int p1), .val (.int (5 : Int32))] [])) _
              refine XS.lconst X0.here hx rfl (hb hby d1_21) ?_
              show Steps p.tables e below (s₁.setTop (mkF m 22 #[.val (.int p1), .val (.int (5 : Int32))] [(.long (1 : Int64))])) _
              refine XS.iloadN X0.here hx rfl (hb hby d1_22) rfl ?_
              show Steps p.tables e below (s₁.setTop (mkF m 23 #[.val (.int p1), .val (.int (5 : Int32))] [(.int (5 : Int32)), (.long (1 : Int64))])) _
              refine XS.lshl X0.here hx rfl (hb hby d1_23) rfl ?_
              show Steps p.tables e below (s₁.setTop (mkF m 24 #[.val (.int p1), .val (.int (5 : Int32))] [(.long ((1 : Int64) <<< ((5 : Int32) &&& 0x3f).toInt64))])) _
              refine XS.iloadN X0.here hx rfl (hb hby d1_24) rfl ?_
              show Steps p.tables e below (s₁.setTop (mkF m 25 #[.val (.int p1), .val (.int (5 : Int32))] [(.int (5 : Int32)), (.long ((1 : Int64) <<< ((5 : Int32) &&& 0x3f).toInt64))])) _
              refine XS.i2l X0.here hx rfl (hb hby d1_25) rfl ?_
              show Steps p.tables e below (s₁.setTop (mkF m 26 #[.val (.int p1), .val (.int (5 : Int32))] [(.long ((5 : Int32).toInt64)), (.long ((1 : Int64) <<< ((5 : Int32) &&& 0x3f).toInt64))])) _
              refine XS.iloadN X0.here hx rfl (hb hby d1_26) rfl ?_
              show Steps p.tables e below (s₁.setTop (mkF m 27 #[.val (.int p1), .val (.int (5 : Int32))] [(.int p1), (.long ((5 : Int32).toInt64)), (.long ((1 : Int64) <<< ((5 : Int32) &&& 0x3f).toInt64))])) _
              refine XS.i2l X0.here hx rfl (hb hby d1_27) rfl ?_
              show Steps p.tables e below (s₁.setTop (mkF m 28 #[.val (.int p1), .val (.int (5 : Int32))] [(.long (p1.toInt64)), (.long ((5 : Int32).toInt64)), (.long ((1 : Int64) <<< ((5 : Int32) &&& 0x3f).toInt64))])) _
              refine XS.ladd X0.here hx rfl (hb hby d1_28) rfl ?_
              show Steps p.tables e below (s₁.setTop (mkF m 29 #[.val (.int p1), .val (.int (5 : Int32))] [(.long (((5 : Int32).toInt64) + (p1.toInt64))), (.long ((1 : Int64) <<< ((5 : Int32) &&& 0x3f).toInt64))])) _
              refine XS.lconst X0.here hx rfl (hb hby d1_29) ?_
              show Steps p.tables e below (s₁.setTop (mkF m 30 #[.val (.int p1), .val (.int (5 : Int32))] [(.long (1 : Int64)), (.long (((5 : Int32).toInt64) + (p1.toInt64))), (.long ((1 : Int64) <<< ((5 : Int32) &&& 0x3f).toInt64))])) _
              refine XS.ladd X0.here hx rfl (hb hby d1_30) rfl ?_
              show Steps p.tables e below (s₁.setTop (mkF m 31 #[.val (.int p1), .val (.int (5 : Int32))] [(.long ((((5 : Int32).toInt64) + (p1.toInt64)) + (1 : Int64))), (.long ((1 : Int64) <<< ((5 : Int32) &&& 0x3f).toInt64))])) _
              refine XS.lcmp X0.here hx rfl (hb hby d1_31) rfl ?_
              exact kt)
            by_cases c32_13 : ((1 : Int64) <<< ((5 : Int32) &&& 0x3f).toInt64) < ((((5 : Int32).toInt64) + (p1.toInt64)) + (1 : Int64))
            · have k16 : ∀ t, Steps p.tables e below (s₁.setTop (mkF m 32 #[.val (.int p1), .val (.int (6 : Int32))] [(.int (lcmpW ((1 : Int64) <<< ((6 : Int32) &&& 0x3f).toInt64) ((((6 : Int32).toInt64) + (p1.toInt64)) + (1 : Int64))))])) t → Steps p.tables e below (s₁.setTop (mkF m 0 #[.val (.int p1), .unset] [])) t := fun t kt => k14 t (by
                show Steps p.tables e below (s₁.setTop (mkF m 32 #[.val (.int p1), .val (.int (5 : Int32))] [(.int (lcmpW ((1 : Int64) <<< ((5 : Int32) &&& 0x3f).toInt64) ((((5 : Int32).toInt64) + (p1.toInt64)) + (1 : Int64))))])) _
                refine XS.ifNo X0.here hx rfl (hb hby d1_32) rfl ((if0 _ _).trans (tlt ((lw_lt _ _).mpr c32_13)).2.1) ?_
                show Steps p.tables e below (s₁.setTop (mkF m 35 #[.val (.int p1), .val (.int (5 : Int32))] [])) _
                refine XS.iinc X0.here hx rfl (hb hby d1_35) rfl (l' := #[.val (.int p1), .val (.int (6 : Int32))]) rfl ?_
                show Steps p.tables e below (s₁.setTop (mkF m 38 #[.val (.int p1), .val (.int (6 : Int32))] [])) _
                refine XS.goto X0.here hx rfl (pc0 := 38) (pc' := 21) rfl (hb hby d1_38) (by decide) (by decide) ?_
                show Steps p.tables e below (s₁.setTop (mkF m 21 #[.val (.int p1), .val (.int (6 : Int32))] [])) _
                refine XS.lconst X0.here hx rfl (hb hby d1_21) ?_
                show Steps p.tables e below (s₁.setTop (mkF m 22 #[.val (.int p1), .val (.int (6 : Int32))] [(.long (1 : Int64))])) _
                refine XS.iloadN X0.here hx rfl (hb hby d1_22) rfl ?_
                show Steps p.tables e below (s₁.setTop (mkF m 23 #[.val (.int p1), .val (.int (6 : Int32))] [(.int (6 : Int32)), (.long (1 : Int64))])) _
                refine XS.lshl X0.here hx rfl (hb hby d1_23) rfl ?_
                show Steps p.tables e below (s₁.setTop (mkF m 24 #[.val (.int p1), .val (.int (6 : Int32))] [(.long ((1 : Int64) <<< ((6 : Int32) &&& 0x3f).toInt64))])) _
                refine XS.iloadN X0.here hx rfl (hb hby d1_24) rfl ?_
                show Steps p.tables e below (s₁.setTop (mkF m 25 #[.val (.int p1), .val (.int (6 : Int32))] [(.int (6 : Int32)), (.long ((1 : Int64) <<< ((6 : Int32) &&& 0x3f).toInt64))])) _
                refine XS.i2l X0.here hx rfl (hb hby d1_25) rfl ?_
                show Steps p.tables e below (s₁.setTop (mkF m 26 #[.val (.int p1), .val (.int (6 : Int32))] [(.long ((6 : Int32).toInt64)), (.long ((1 : Int64) <<< ((6 : Int32) &&& 0x3f).toInt64))])) _
                refine XS.iloadN X0.here hx rfl (hb hby d1_26) rfl ?_
                show Steps p.tables e below (s₁.setTop (mkF m 27 #[.val (.int p1), .val (.int (6 : Int32))] [(.int p1), (.long ((6 : Int32).toInt64)), (.long ((1 : Int64) <<< ((6 : Int32) &&& 0x3f).toInt64))])) _
                refine XS.i2l X0.here hx rfl (hb hby d1_27) rfl ?_
                show Steps p.tables e below (s₁.setTop (mkF m 28 #[.val (.int p1), .val (.int (6 : Int32))] [(.long (p1.toInt64)), (.long ((6 : Int32).toInt64)), (.long ((1 : Int64) <<< ((6 : Int32) &&& 0x3f).toInt64))])) _
                refine XS.ladd X0.here hx rfl (hb hby d1_28) rfl ?_
                show Steps p.tables e below (s₁.setTop (mkF m 29 #[.val (.int p1), .val (.int (6 : Int32))] [(.long (((6 : Int32).toInt64) + (p1.toInt64))), (.long ((1 : Int64) <<< ((6 : Int32) &&& 0x3f).toInt64))])) _
                refine XS.lconst X0.here hx rfl (hb hby d1_29) ?_
                show Steps p.tables e below (s₁.setTop (mkF m 30 #[.val (.int p1), .val (.int (6 : Int32))] [(.long (1 : Int64)), (.long (((6 : Int32).toInt64) + (p1.toInt64))), (.long ((1 : Int64) <<< ((6 : Int32) &&& 0x3f).toInt64))])) _
                refine XS.ladd X0.here hx rfl (hb hby d1_30) rfl ?_
                show Steps p.tables e below (s₁.setTop (mkF m 31 #[.val (.int p1), .val (.int (6 : Int32))] [(.long ((((6 : Int32).toInt64) + (p1.toInt64)) + (1 : Int64))), (.long ((1 : Int64) <<< ((6 : Int32) &&& 0x3f).toInt64))])) _
                refine XS.lcmp X0.here hx rfl (hb hby d1_31) rfl ?_
                exact kt)
              by_cases c32_15 : ((1 : Int64) <<< ((6 : Int32) &&& 0x3f).toInt64) < ((((6 : Int32).toInt64) + (p1.toInt64)) + (1 : Int64))
              · have k18 : ∀ t, Steps p.tables e below (s₁.setTop (mkF m 32 #[.val (.int p1), .val (.int (7 : Int32))] [(.int (lcmpW ((1 : Int64) <<< ((7 : Int32) &&& 0x3f).toInt64) ((((7 : Int32).toInt64) + (p1.toInt64)) + (1 : Int64))))])) t → Steps p.tables e below (s₁.setTop (mkF m 0 #[.val (.int p1), .unset] [])) t := fun t kt => k16 t (by
                  show Steps p.tables e below (s₁.setTop (mkF m 32 #[.val (.int p1), .val (.int (6 : Int32))] [(.int (lcmpW ((1 : Int64) <<< ((6 : Int32) &&& 0x3f).toInt64) ((((6 : Int32).toInt64) + (p1.toInt64)) + (1 : Int64))))])) _
                  refine XS.ifNo X0.here hx rfl (hb hby d1_32) rfl ((if0 _ _).trans (tlt ((lw_lt _ _).mpr c32_15)).2.1) ?_
                  show Steps p.tables e below (s₁.setTop (mkF m 35 #[.val (.int p1), .val (.int (6 : Int32))] [])) _
                  refine XS.iinc X0.here hx rfl (hb hby d1_35) rfl (l' := #[.val (.int p1), .val (.int (7 : Int32))]) rfl ?_
                  show Steps p.tables e below (s₁.setTop (mkF m 38 #[.val (.int p1), .val (.int (7 : Int32))] [])) _
                  refine XS.goto X0.here hx rfl (pc0 := 38) (pc' := 21) rfl (hb hby d1_38) (by decide) (by decide) ?_
                  show Steps p.tables e below (s₁.setTop (mkF m 21 #[.val (.int p1), .val (.int (7 : Int32))] [])) _
                  refine XS.lconst X0.here hx rfl (hb hby d1_21) ?_
                  show Steps p.tables e below (s₁.setTop (mkF m 22 #[.val (.int p1), .val (.int (7 : Int32))] [(.long (1 : Int64))])) _
                  refine XS.iloadN X0.here hx rfl (hb hby d1_22) rfl ?_
                  show Steps p.tables e below (s₁.setTop (mkF m 23 #[.val (.int p1), .val (.int (7 : Int32))] [(.int (7 : Int32)), (.long (1 : Int64))])) _
                  refine XS.lshl X0.here hx rfl (hb hby d1_23) rfl ?_
                  show Steps p.tables e below (s₁.setTop (mkF m 24 #[.val (.int p1), .val (.int (7 : Int32))] [(.long ((1 : Int64) <<< ((7 : Int32) &&& 0x3f).toInt64))])) _
                  refine XS.iloadN X0.here hx rfl (hb hby d1_24) rfl ?_
                  show Steps p.tables e below (s₁.setTop (mkF m 25 #[.val (.int p1), .val (.int (7 : Int32))] [(.int (7 : Int32)), (.long ((1 : Int64) <<< ((7 : Int32) &&& 0x3f).toInt64))])) _
                  refine XS.i2l X0.here hx rfl (hb hby d1_25) rfl ?_
                  show Steps p.tables e below (s₁.setTop (mkF m 26 #[.val (.int p1), .val (.int (7 : Int32))] [(.long ((7 : Int32).toInt64)), (.long ((1 : Int64) <<< ((7 : Int32) &&& 0x3f).toInt64))])) _
                  refine XS.iloadN X0.here hx rfl (hb hby d1_26) rfl ?_
                  show Steps p.tables e below (s₁.setTop (mkF m 27 #[.val (.int p1), .val (.int (7 : Int32))] [(.int p1), (.long ((7 : Int32).toInt64)), (.long ((1 : Int64) <<< ((7 : Int32) &&& 0x3f).toInt64))])) _
                  refine XS.i2l X0.here hx rfl (hb hby d1_27) rfl ?_
                  show Steps p.tables e below (s₁.setTop (mkF m 28 #[.val (.int p1), .val (.int (7 : Int32))] [(.long (p1.toInt64)), (.long ((7 : Int32).toInt64)), (.long ((1 : Int64) <<< ((7 : Int32) &&& 0x3f).toInt64))])) _
                  refine XS.ladd X0.here hx rfl (hb hby d1_28) rfl ?_
                  show Steps p.tables e below (s₁.setTop (mkF m 29 #[.val (.int p1), .val (.int (7 : Int32))] [(.long (((7 : Int32).toInt64) + (p1.toInt64))), (.long ((1 : Int64) <<< ((7 : Int32) &&& 0x3f).toInt64))])) _
                  refine XS.lconst X0.here hx rfl (hb hby d1_29) ?_
                  show Steps p.tables e below (s₁.setTop (mkF m 30 #[.val (.int p1), .val (.int (7 : Int32))] [(.long (1 : Int64)), (.long (((7 : Int32).toInt64) + (p1.toInt64))), (.long ((1 : Int64) <<< ((7 : Int32) &&& 0x3f).toInt64))])) _
                  refine XS.ladd X0.here hx rfl (hb hby d1_30) rfl ?_
                  show Steps p.tables e below (s₁.setTop (mkF m 31 #[.val (.int p1), .val (.int (7 : Int32))] [(.long ((((7 : Int32).toInt64) + (p1.toInt64)) + (1 : Int64))), (.long ((1 : Int64) <<< ((7 : Int32) &&& 0x3f).toInt64))])) _
                  refine XS.lcmp X0.here hx rfl (hb hby d1_31) rfl ?_
                  exact kt)
                by_cases c32_17 : ((1 : Int64) <<< ((7 : Int32) &&& 0x3f).toInt64) < ((((7 : Int32).toInt64) + (p1.toInt64)) + (1 : Int64))
                · have k20 : ∀ t, Steps p.tables e below (s₁.setTop (mkF m 32 #[.val (.int p1), .val (.int (8 : Int32))] [(.int (lcmpW ((1 : Int64) <<< ((8 : Int32) &&& 0x3f).toInt64) ((((8 : Int32).toInt64) + (p1.toInt64)) + (1 : Int64))))])) t → Steps p.tables e below (s₁.setTop (mkF m 0 #[.val (.int p1), .unset] [])) t := fun t kt => k18 t (by
                    show Steps p.tables e below (s₁.setTop (mkF m 32 #[.val (.int p1), .val (.int (7 : Int32))] [(.int (lcmpW ((1 : Int64) <<< ((7 : Int32) &&& 0x3f).toInt64) ((((7 : Int32).toInt64) + (p1.toInt64)) + (1 : Int64))))])) _
                    refine XS.ifNo X0.here hx rfl (hb hby d1_32) rfl ((if0 _ _).trans (tlt ((lw_lt _ _).mpr c32_17)).2.1) ?_
                    show Steps p.tables e below (s₁.setTop (mkF m 35 #[.val (.int p1), .val (.int (7 : Int32))] [])) _
                    refine XS.iinc X0.here hx rfl (hb hby d1_35) rfl (l' := #[.val (.int p1), .val (.int (8 : Int32))]) rfl ?_
                    show Steps p.tables e below (s₁.setTop (mkF m 38 #[.val (.int p1), .val (.int (8 : Int32))] [])) _
                    refine XS.goto X0.here hx rfl (pc0 := 38) (pc' := 21) rfl (hb hby d1_38) (by decide) (by decide) ?_
                    show Steps p.tables e below (s₁.setTop (mkF m 21 #[.val (.int p1), .val (.int (8 : Int32))] [])) _
                    refine XS.lconst X0.here hx rfl (hb hby d1_21) ?_
                    show Steps p.tables e below (s₁.setTop (mkF m 22 #[.val (.int p1), .val (.int (8 : Int32))] [(.long (1 : Int64))])) _
                    refine XS.iloadN X0.here hx rfl (hb hby d1_22) rfl ?_
                    show Steps p.tables e below (s₁.setTop (mkF m 23 #[.val (.int p1), .val (.int (8 : Int32))] [(.int (8 : Int32)), (.long (1 : Int64))])) _
                    refine XS.lshl X0.here hx rfl (hb hby d1_23) rfl ?_
                    show Steps p.tables e below (s₁.setTop (mkF m 24 #[.val (.int p1), .val (.int (8 : Int32))] [(.long ((1 : Int64) <<< ((8 : Int32) &&& 0x3f).toInt64))])) _
                    refine XS.iloadN X0.here hx rfl (hb hby d1_24) rfl ?_
                    show Steps p.tables e below (s₁.setTop (mkF m 25 #[.val (.int p1), .val (.int (8 : Int32))] [(.int (8 : Int32)), (.long ((1 : Int64) <<< ((8 : Int32) &&& 0x3f).toInt64))])) _
                    refine XS.i2l X0.here hx rfl (hb hby d1_25) rfl ?_
                    show Steps p.tables e below (s₁.setTop (mkF m 26 #[.val (.int p1), .val (.int (8 : Int32))] [(.long ((8 : Int32).toInt64)), (.long ((1 : Int64) <<< ((8 : Int32) &&& 0x3f).toInt64))])) _
                    refine XS.iloadN X0.here hx rfl (hb hby d1_26) rfl ?_
                    show Steps p.tables e below (s₁.setTop (mkF m 27 #[.val (.int p1), .val (.int (8 : Int32))] [(.int p1), (.long ((8 : Int32).toInt64)), (.long ((1 : Int64) <<< ((8 : Int32) &&& 0x3f).toInt64))])) _
                    refine XS.i2l X0.here hx rfl (hb hby d1_27) rfl ?_
                    show Steps p.tables e below (s₁.setTop (mkF m 28 #[.val (.int p1), .val (.int (8 : Int32))] [(.long (p1.toInt64)), (.long ((8 : Int32).toInt64)), (.long ((1 : Int64) <<< ((8 : Int32) &&& 0x3f).toInt64))])) _
                    refine XS.ladd X0.here hx rfl (hb hby d1_28) rfl ?_
                    show Steps p.tables e below (s₁.setTop (mkF m 29 #[.val (.int p1), .val (.int (8 : Int32))] [(.long (((8 : Int32).toInt64) + (p1.toInt64))), (.long ((1 : Int64) <<< ((8 : Int32) &&& 0x3f).toInt64))])) _
                    refine XS.lconst X0.here hx rfl (hb hby d1_29) ?_
                    show Steps p.tables e below (s₁.setTop (mkF m 30 #[.val (.int p1), .val (.int (8 : Int32))] [(.long (1 : Int64)), (.long (((8 : Int32).toInt64) + (p1.toInt64))), (.long ((1 : Int64) <<< ((8 : Int32) &&& 0x3f).toInt64))])) _
                    refine XS.ladd X0.here hx rfl (hb hby d1_30) rfl ?_
                    show Steps p.tables e below (s₁.setTop (mkF m 31 #[.val (.int p1), .val (.int (8 : Int32))] [(.long ((((8 : Int32).toInt64) + (p1.toInt64)) + (1 : Int64))), (.long ((1 : Int64) <<< ((8 : Int32) &&& 0x3f).toInt64))])) _
                    refine XS.lcmp X0.here hx rfl (hb hby d1_31) rfl ?_
                    exact kt)
                  by_cases c32_19 : ((1 : Int64) <<< ((8 : Int32) &&& 0x3f).toInt64) < ((((8 : Int32).toInt64) + (p1.toInt64)) + (1 : Int64))
                  · have k22 : ∀ t, Steps p.tables e below (s₁.setTop (mkF m 32 #[.val (.int p1), .val (.int (9 : Int32))] [(.int (lcmpW ((1 : Int64) <<< ((9 : Int32) &&& 0x3f).toInt64) ((((9 : Int32).toInt64) + (p1.toInt64)) + (1 : Int64))))])) t → Steps p.tables e below (s₁.setTop (mkF m 0 #[.val (.int p1), .unset] [])) t := fun t kt => k20 t (by
                      show Steps p.tables e below (s₁.setTop (mkF m 32 #[.val (.int p1), .val (.int (8 : Int32))] [(.int (lcmpW ((1 : Int64) <<< ((8 : Int32) &&& 0x3f).toInt64) ((((8 : Int32).toInt64) + (p1.toInt64)) + (1 : Int64))))])) _
                      refine XS.ifNo X0.here hx rfl (hb hby d1_32) rfl ((if0 _ _).trans (tlt ((lw_lt _ _).mpr c32_19)).2.1) ?_
                      show Steps p.tables e below (s₁.setTop (mkF m 35 #[.val (.int p1), .val (.int (8 : Int32))] [])) _
                      refine XS.iinc X0.here hx rfl (hb hby d1_35) rfl (l' := #[.val (.int p1), .val (.int (9 : Int32))]) rfl ?_
                      show Steps p.tables e below (s₁.setTop (mkF m 38 #[.val (.int p1), .val (.int (9 : Int32))] [])) _
                      refine XS.goto X0.here hx rfl (pc0 := 38) (pc' := 21) rfl (hb hby d1_38) (by decide) (by decide) ?_
                      show Steps p.tables e below (s₁.setTop (mkF m 21 #[.val (.int p1), .val (.int (9 : Int32))] [])) _
                      refine XS.lconst X0.here hx rfl (hb hby d1_21) ?_
                      show Steps p.tables e below (s₁.setTop (mkF m 22 #[.val (.int p1), .val (.int (9 : Int32))] [(.long (1 : Int64))])) _
                      refine XS.iloadN X0.here hx rfl (hb hby d1_22) rfl ?_
                      show Steps p.tables e below (s₁.setTop (mkF m 23 #[.val (.int p1), .val (.int (9 : Int32))] [(.int (9 : Int32)), (.long (1 : Int64))])) _
                      refine XS.lshl X0.here hx rfl (hb hby d1_23) rfl ?_
                      show Steps p.tables e below (s₁.setTop (mkF m 24 #[.val (.int p1), .val (.int (9 : Int32))] [(.long ((1 : Int64) <<< ((9 : Int32) &&& 0x3f).toInt64))])) _
                      refine XS.iloadN X0.here hx rfl (hb hby d1_24) rfl ?_
                      show Steps p.tables e below (s₁.setTop (mkF m 25 #[.val (.int p1), .val (.int (9 : Int32))] [(.int (9 : Int32)), (.long ((1 : Int64) <<< ((9 : Int32) &&& 0x3f).toInt64))])) _
                      refine XS.i2l X0.here hx rfl (hb hby d1_25) rfl ?_
                      show Steps p.tables e below (s₁.setTop (mkF m 26 #[.val (.int p1), .val (.int (9 : Int32))] [(.long ((9 : Int32).toInt64)), (.long ((1 : Int64) <<< ((9 : Int32) &&& 0x3f).toInt64))])) _
                      refine XS.iloadN X0.here hx rfl (hb hby d1_26) rfl ?_
                      show Steps p.tables e below (s₁.setTop (mkF m 27 #[.val (.int p1), .val (.int (9 : Int32))] [(.int p1), (.long ((9 : Int32).toInt64)), (.long ((1 : Int64) <<< ((9 : Int32) &&& 0x3f).toInt64))])) _
                      refine XS.i2l X0.here hx rfl (hb hby d1_27) rfl ?_
                      show Steps p.tables e below (s₁.setTop (mkF m 28 #[.val (.int p1), .val (.int (9 : Int32))] [(.long (p1.toInt64)), (.long ((9 : Int32).toInt64)), (.long ((1 : Int64) <<< ((9 : Int32) &&& 0x3f).toInt64))])) _
                      refine XS.ladd X0.here hx rfl (hb hby d1_28) rfl ?_
                      show Steps p.tables e below (s₁.setTop (mkF m 29 #[.val (.int p1), .val (.int (9 : Int32))] [(.long (((9 : Int32).toInt64) + (p1.toInt64))), (.long ((1 : Int64) <<< ((9 : Int32) &&& 0x3f).toInt64))])) _
                      refine XS.lconst X0.here hx rfl (hb hby d1_29) ?_
                      show Steps p.tables e below (s₁.setTop (mkF m 30 #[.val (.int p1), .val (.int (9 : Int32))] [(.long (1 : Int64)), (.long (((9 : Int32).toInt64) + (p1.toInt64))), (.long ((1 : Int64) <<< ((9 : Int32) &&& 0x3f).toInt64))])) _
                      refine XS.ladd X0.here hx rfl (hb hby d1_30) rfl ?_
                      show Steps p.tables e below (s₁.setTop (mkF m 31 #[.val (.int p1), .val (.int (9 : Int32))] [(.long ((((9 : Int32).toInt64) + (p1.toInt64)) + (1 : Int64))), (.long ((1 : Int64) <<< ((9 : Int32) &&& 0x3f).toInt64))])) _
                      refine XS.lcmp X0.here hx rfl (hb hby d1_31) rfl ?_
                      exact kt)
                    by_cases c32_21 : ((1 : Int64) <<< ((9 : Int32) &&& 0x3f).toInt64) < ((((9 : Int32).toInt64) + (p1.toInt64)) + (1 : Int64))
                    · have k24 : ∀ t, Steps p.tables e below (s₁.setTop (mkF m 32 #[.val (.int p1), .val (.int (10 : Int32))] [(.int (lcmpW ((1 : Int64) <<< ((10 : Int32) &&& 0x3f).toInt64) ((((10 : Int32).toInt64) + (p1.toInt64)) + (1 : Int64))))])) t → Steps p.tables e below (s₁.setTop (mkF m 0 #[.val (.int p1), .unset] [])) t := fun t kt => k22 t (by
                        show Steps p.tables e below (s₁.setTop (mkF m 32 #[.val (.int p1), .val (.int (9 : Int32))] [(.int (lcmpW ((1 : Int64) <<< ((9 : Int32) &&& 0x3f).toInt64) ((((9 : Int32).toInt64) + (p1.toInt64)) + (1 : Int64))))])) _
                        refine XS.ifNo X0.here hx rfl (hb hby d1_32) rfl ((if0 _ _).trans (tlt ((lw_lt _ _).mpr c32_21)).2.1) ?_
                        show Steps p.tables e below (s₁.setTop (mkF m 35 #[.val (.int p1), .val (.int (9 : Int32))] [])) _
                        refine XS.iinc X0.here hx rfl (hb hby d1_35) rfl (l' := #[.val (.int p1), .val (.int (10 : Int32))]) rfl ?_
                        show Steps p.tables e below (s₁.setTop (mkF m 38 #[.val (.int p1), .val (.int (10 : Int32))] [])) _
                        refine XS.goto X0.here hx rfl (pc0 := 38) (pc' := 21) rfl (hb hby d1_38) (by decide) (by decide) ?_
                        show Steps p.tables e below (s₁.setTop (mkF m 21 #[.val (.int p1), .val (.int (10 : Int32))] [])) _
                        refine XS.lconst X0.here hx rfl (hb hby d1_21) ?_
                        show Steps p.tables e below (s₁.setTop (mkF m 22 #[.val (.int p1), .val (.int (10 : Int32))] [(.long (1 : Int64))])) _
                        refine XS.iloadN X0.here hx rfl (hb hby d1_22) rfl ?_
                        show Steps p.tables e below (s₁.setTop (mkF m 23 #[.val (.int p1), .val (.int (10 : Int32))] [(.int (10 : Int32)), (.long (1 : Int64))])) _
                        refine XS.lshl X0.here hx rfl (hb hby d1_23) rfl ?_
                        show Steps p.tables e below (s₁.setTop (mkF m 24 #[.val (.int p1), .val (.int (10 : Int32))] [(.long ((1 : Int64) <<< ((10 : Int32) &&& 0x3f).toInt64))])) _
                        refine XS.iloadN X0.here hx rfl (hb hby d1_24) rfl ?_
                        show Steps p.tables e below (s₁.setTop (mkF m 25 #[.val (.int p1), .val (.int (10 : Int32))] [(.int (10 : Int32)), (.long ((1 : Int64) <<< ((10 : Int32) &&& 0x3f).toInt64))])) _
                        refine XS.i2l X0.here hx rfl (hb hby d1_25) rfl ?_
                        show Steps p.tables e below (s₁.setTop (mkF m 26 #[.val (.int p1), .val (.int (10 : Int32))] [(.long ((10 : Int32).toInt64)), (.long ((1 : Int64) <<< ((10 : Int32) &&& 0x3f).toInt64))])) _
                        refine XS.iloadN X0.here hx rfl (hb hby d1_26) rfl ?_
                        show Steps p.tables e below (s₁.setTop (mkF m 27 #[.val (.int p1), .val (.int (10 : Int32))] [(.int p1), (.long ((10 : Int32).toInt64)), (.long ((1 : Int64) <<< ((10 : Int32) &&& 0x3f).toInt64))])) _
                        refine XS.i2l X0.here hx rfl (hb hby d1_27) rfl ?_
                        show Steps p.tables e below (s₁.setTop (mkF m 28 #[.val (.int p1), .val (.int (10 : Int32))] [(.long (p1.toInt64)), (.long ((10 : Int32).toInt64)), (.long ((1 : Int64) <<< ((10 : Int32) &&& 0x3f).toInt64))])) _
                        refine XS.ladd X0.here hx rfl (hb hby d1_28) rfl ?_
                        show Steps p.tables e below (s₁.setTop (mkF m 29 #[.val (.int p1), .val (.int (10 : Int32))] [(.long (((10 : Int32).toInt64) + (p1.toInt64))), (.long ((1 : Int64) <<< ((10 : Int32) &&& 0x3f).toInt64))])) _
                        refine XS.lconst X0.here hx rfl (hb hby d1_29) ?_
                        show Steps p.tables e below (s₁.setTop (mkF m 30 #[.val (.int p1), .val (.int (10 : Int32))] [(.long (1 : Int64)), (.long (((10 : Int32).toInt64) + (p1.toInt64))), (.long ((1 : Int64) <<< ((10 : Int32) &&& 0x3f).toInt64))])) _
                        refine XS.ladd X0.here hx rfl (hb hby d1_30) rfl ?_
                        show Steps p.tables e below (s₁.setTop (mkF m 31 #[.val (.int p1), .val (.int (10 : Int32))] [(.long ((((10 : Int32).toInt64) + (p1.toInt64)) + (1 : Int64))), (.long ((1 : Int64) <<< ((10 : Int32) &&& 0x3f).toInt64))])) _
                        refine XS.lcmp X0.here hx rfl (hb hby d1_31) rfl ?_
                        exact kt)
                      by_cases c32_23 : ((1 : Int64) <<< ((10 : Int32) &&& 0x3f).toInt64) < ((((10 : Int32).toInt64) + (p1.toInt64)) + (1 : Int64))
                      · have k26 : ∀ t, Steps p.tables e below (s₁.setTop (mkF m 32 #[.val (.int p1), .val (.int (11 : Int32))] [(.int (lcmpW ((1 : Int64) <<< ((11 : Int32) &&& 0x3f).toInt64) ((((11 : Int32).toInt64) + (p1.toInt64)) + (1 : Int64))))])) t → Steps p.tables e below (s₁.setTop (mkF m 0 #[.val (.int p1), .unset] [])) t := fun t kt => k24 t (by
                          show Steps p.tables e below (s₁.setTop (mkF m 32 #[.val (.int p1), .val (.int (10 : Int32))] [(.int (lcmpW ((1 : Int64) <<< ((10 : Int32) &&& 0x3f).toInt64) ((((10 : Int32).toInt64) + (p1.toInt64)) + (1 : Int64))))])) _
                          refine XS.ifNo X0.here hx rfl (hb hby d1_32) rfl ((if0 _ _).trans (tlt ((lw_lt _ _).mpr c32_23)).2.1) ?_
                          show Steps p.tables e below (s₁.setTop (mkF m 35 #[.val (.int p1), .val (.int (10 : Int32))] [])) _
                          refine XS.iinc X0.here hx rfl (hb hby d1_35) rfl (l' := #[.val (.int p1), .val (.int (11 : Int32))]) rfl ?_
                          show Steps p.tables e below (s₁.setTop (mkF m 38 #[.val (.int p1), .val (.int (11 : Int32))] [])) _
                          refine XS.goto X0.here hx rfl (pc0 := 38) (pc' := 21) rfl (hb hby d1_38) (by decide) (by decide) ?_
                          show Steps p.tables e below (s₁.setTop (mkF m 21 #[.val (.int p1), .val (.int (11 : Int32))] [])) _
                          refine XS.lconst X0.here hx rfl (hb hby d1_21) ?_
                          show Steps p.tables e below (s₁.setTop (mkF m 22 #[.val (.int p1), .val (.int (11 : Int32))] [(.long (1 : Int64))])) _
                          refine XS.iloadN X0.here hx rfl (hb hby d1_22) rfl ?_
                          show Steps p.tables e below (s₁.setTop (mkF m 23 #[.val (.int p1), .val (.int (11 : Int32))] [(.int (11 : Int32)), (.long (1 : Int64))])) _
                          refine XS.lshl X0.here hx rfl (hb hby d1_23) rfl ?_
                          show Steps p.tables e below (s₁.setTop (mkF m 24 #[.val (.int p1), .val (.int (11 : Int32))] [(.long ((1 : Int64) <<< ((11 : Int32) &&& 0x3f).toInt64))])) _
                          refine XS.iloadN X0.here hx rfl (hb hby d1_24) rfl ?_
                          show Steps p.tables e below (s₁.setTop (mkF m 25 #[.val (.int p1), .val (.int (11 : Int32))] [(.int (11 : Int32)), (.long ((1 : Int64) <<< ((11 : Int32) &&& 0x3f).toInt64))])) _
                          refine XS.i2l X0.here hx rfl (hb hby d1_25) rfl ?_
                          show Steps p.tables e below (s₁.setTop (mkF m 26 #[.val (.int p1), .val (.int (11 : Int32))] [(.long ((11 : Int32).toInt64)), (.long ((1 : Int64) <<< ((11 : Int32) &&& 0x3f).toInt64))])) _
                          refine XS.iloadN X0.here hx rfl (hb hby d1_26) rfl ?_
                          show Steps p.tables e below (s₁.setTop (mkF m 27 #[.val (.int p1), .val (.int (11 : Int32))] [(.int p1), (.long ((11 : Int32).toInt64)), (.long ((1 : Int64) <<< ((11 : Int32) &&& 0x3f).toInt64))])) _
                          refine XS.i2l X0.here hx rfl (hb hby d1_27) rfl ?_
                          show Steps p.tables e below (s₁.setTop (mkF m 28 #[.val (.int p1), .val (.int (11 : Int32))] [(.long (p1.toInt64)), (.long ((11 : Int32).toInt64)), (.long ((1 : Int64) <<< ((11 : Int32) &&& 0x3f).toInt64))])) _
                          refine XS.ladd X0.here hx rfl (hb hby d1_28) rfl ?_
                          show Steps p.tables e below (s₁.setTop (mkF m 29 #[.val (.int p1), .val (.int (11 : Int32))] [(.long (((11 : Int32).toInt64) + (p1.toInt64))), (.long ((1 : Int64) <<< ((11 : Int32) &&& 0x3f).toInt64))])) _
                          refine XS.lconst X0.here hx rfl (hb hby d1_29) ?_
                          show Steps p.tables e below (s₁.setTop (mkF m 30 #[.val (.int p1), .val (.int (11 : Int32))] [(.long (1 : Int64)), (.long (((11 : Int32).toInt64) + (p1.toInt64))), (.long ((1 : Int64) <<< ((11 : Int32) &&& 0x3f).toInt64))])) _
                          refine XS.ladd X0.here hx rfl (hb hby d1_30) rfl ?_
                          show Steps p.tables e below (s₁.setTop (mkF m 31 #[.val (.int p1), .val (.int (11 : Int32))] [(.long ((((11 : Int32).toInt64) + (p1.toInt64)) + (1 : Int64))), (.long ((1 : Int64) <<< ((11 : Int32) &&& 0x3f).toInt64))])) _
                          refine XS.lcmp X0.here hx rfl (hb hby d1_31) rfl ?_
                          exact kt)
                        by_cases c32_25 : ((1 : Int64) <<< ((11 : Int32) &&& 0x3f).toInt64) < ((((11 : Int32).toInt64) + (p1.toInt64)) + (1 : Int64))
                        · have k28 : ∀ t, Steps p.tables e below (s₁.setTop (mkF m 32 #[.val (.int p1), .val (.int (12 : Int32))] [(.int (lcmpW ((1 : Int64) <<< ((12 : Int32) &&& 0x3f).toInt64) ((((12 : Int32).toInt64) + (p1.toInt64)) + (1 : Int64))))])) t → Steps p.tables e below (s₁.setTop (mkF m 0 #[.val (.int p1), .unset] [])) t := fun t kt => k26 t (by
                            show Steps p.tables e below (s₁.setTop (mkF m 32 #[.val (.int p1), .val (.int (11 : Int32))] [(.int (lcmpW ((1 : Int64) <<< ((11 : Int32) &&& 0x3f).toInt64) ((((11 : Int32).toInt64) + (p1.toInt64)) + (1 : Int64))))])) _
                            refine XS.ifNo X0.here hx rfl (hb hby d1_32) rfl ((if0 _ _).trans (tlt ((lw_lt _ _).mpr c32_25)).2.1) ?_
                            show Steps p.tables e below (s₁.setTop (mkF m 35 #[.val (.int p1), .val (.int (11 : Int32))] [])) _
                            refine XS.iinc X0.here hx rfl (hb hby d1_35) rfl (l' := #[.val (.int p1), .val (.int (12 : Int32))]) rfl ?_
                            show Steps p.tables e below (s₁.setTop (mkF m 38 #[.val (.int p1), .val (.int (12 : Int32))] [])) _
                            refine XS.goto X0.here hx rfl (pc0 := 38) (pc' := 21) rfl (hb hby d1_38) (by decide) (by decide) ?_
                            show Steps p.tables e below (s₁.setTop (mkF m 21 #[.val (.int p1), .val (.int (12 : Int32))] [])) _
                            refine XS.lconst X0.here hx rfl (hb hby d1_21) ?_
                            show Steps p.tables e below (s₁.setTop (mkF m 22 #[.val (.int p1), .val (.int (12 : Int32))] [(.long (1 : Int64))])) _
                            refine XS.iloadN X0.here hx rfl (hb hby d1_22) rfl ?_
                            show Steps p.tables e below (s₁.setTop (mkF m 23 #[.val (.int p1), .val (.int (12 : Int32))] [(.int (12 : Int32)), (.long (1 : Int64))])) _
                            refine XS.lshl X0.here hx rfl (hb hby d1_23) rfl ?_
                            show Steps p.tables e below (s₁.setTop (mkF m 24 #[.val (.int p1), .val (.int (12 : Int32))] [(.long ((1 : Int64) <<< ((12 : Int32) &&& 0x3f).toInt64))])) _
                            refine XS.iloadN X0.here hx rfl (hb hby d1_24) rfl ?_
                            show Steps p.tables e below (s₁.setTop (mkF m 25 #[.val (.int p1), .val (.int (12 : Int32))] [(.int (12 : Int32)), (.long ((1 : Int64) <<< ((12 : Int32) &&& 0x3f).toInt64))])) _
                            refine XS.i2l X0.here hx rfl (hb hby d1_25) rfl ?_
                            show Steps p.tables e below (s₁.setTop (mkF m 26 #[.val (.int p1), .val (.int (12 : Int32))] [(.long ((12 : Int32).toInt64)), (.long ((1 : Int64) <<< ((12 : Int32) &&& 0x3f).toInt64))])) _
                            refine XS.iloadN X0.here hx rfl (hb hby d1_26) rfl ?_
                            show Steps p.tables e below (s₁.setTop (mkF m 27 #[.val (.int p1), .val (.int (12 : Int32))] [(.int p1), (.long ((12 : Int32).toInt64)), (.long ((1 : Int64) <<< ((12 : Int32) &&& 0x3f).toInt64))])) _
                            refine XS.i2l X0.here hx rfl (hb hby d1_27) rfl ?_
                            show Steps p.tables e below (s₁.setTop (mkF m 28 #[.val (.int p1), .val (.int (12 : Int32))] [(.long (p1.toInt64)), (.long ((12 : Int32).toInt64)), (.long ((1 : Int64) <<< ((12 : Int32) &&& 0x3f).toInt64))])) _
                            refine XS.ladd X0.here hx rfl (hb hby d1_28) rfl ?_
                            show Steps p.tables e below (s₁.setTop (mkF m 29 #[.val (.int p1), .val (.int (12 : Int32))] [(.long (((12 : Int32).toInt64) + (p1.toInt64))), (.long ((1 : Int64) <<< ((12 : Int32) &&& 0x3f).toInt64))])) _
                            refine XS.lconst X0.here hx rfl (hb hby d1_29) ?_
                            show Steps p.tables e below (s₁.setTop (mkF m 30 #[.val (.int p1), .val (.int (12 : Int32))] [(.long (1 : Int64)), (.long (((12 : Int32).toInt64) + (p1.toInt64))), (.long ((1 : Int64) <<< ((12 : Int32) &&& 0x3f).toInt64))])) _
                            refine XS.ladd X0.here hx rfl (hb hby d1_30) rfl ?_
                            show Steps p.tables e below (s₁.setTop (mkF m 31 #[.val (.int p1), .val (.int (12 : Int32))] [(.long ((((12 : Int32).toInt64) + (p1.toInt64)) + (1 : Int64))), (.long ((1 : Int64) <<< ((12 : Int32) &&& 0x3f).toInt64))])) _
                            refine XS.lcmp X0.here hx rfl (hb hby d1_31) rfl ?_
                            exact kt)
                          by_cases c32_27 : ((1 : Int64) <<< ((12 : Int32) &&& 0x3f).toInt64) < ((((12 : Int32).toInt64) + (p1.toInt64)) + (1 : Int64))
                          · have k30 : ∀ t, Steps p.tables e below (s₁.setTop (mkF m 32 #[.val (.int p1), .val (.int (13 : Int32))] [(.int (lcmpW ((1 : Int64) <<< ((13 : Int32) &&& 0x3f).toInt64) ((((13 : Int32).toInt64) + (p1.toInt64)) + (1 : Int64))))])) t → Steps p.tables e below (s₁.setTop (mkF m 0 #[.val (.int p1), .unset] [])) t := fun t kt => k28 t (by
                              show Steps p.tables e below (s₁.setTop (mkF m 32 #[.val (.int p1), .val (.int (12 : Int32))] [(.int (lcmpW ((1 : Int64) <<< ((12 : Int32) &&& 0x3f).toInt64) ((((12 : Int32).toInt64) + (p1.toInt64)) + (1 : Int64))))])) _
                              refine XS.ifNo X0.here hx rfl (hb hby d1_32) rfl ((if0 _ _).trans (tlt ((lw_lt _ _).mpr c32_27)).2.1) ?_
                              show Steps p.tables e below (s₁.setTop (mkF m 35 #[.val (.int p1), .val (.int (12 : Int32))] [])) _
                              refine XS.iinc X0.here hx rfl (hb hby d1_35) rfl (l' := #[.val (.int p1), .val (.int (13 : Int32))]) rfl ?_
                              show Steps p.tables e below (s₁.setTop (mkF m 38 #[.val (.int p1), .val (.int (13 : Int32))] [])) _
                              refine XS.goto X0.here hx rfl (pc0 := 38) (pc' := 21) rfl (hb hby d1_38) (by decide) (by decide) ?_
                              show Steps p.tables e below (s₁.setTop (mkF m 21 #[.val (.int p1), .val (.int (13 : Int32))] [])) _
                              refine XS.lconst X0.here hx rfl (hb hby d1_21) ?_
                              show Steps p.tables e below (s₁.setTop (mkF m 22 #[.val (.int p1), .val (.int (13 : Int32))] [(.long (1 : Int64))])) _
                              refine XS.iloadN X0.here hx rfl (hb hby d1_22) rfl ?_
                              show Steps p.tables e below (s₁.setTop (mkF m 23 #[.val (.int p1), .val (.int (13 : Int32))] [(.int (13 : Int32)), (.long (1 : Int64))])) _
                              refine XS.lshl X0.here hx rfl (hb hby d1_23) rfl ?_
                              show Steps p.tables e below (s₁.setTop (mkF m 24 #[.val (.int p1), .val (.int (13 : Int32))] [(.long ((1 : Int64) <<< ((13 : Int32) &&& 0x3f).toInt64))])) _
                              refine XS.iloadN X0.here hx rfl (hb hby d1_24) rfl ?_
                              show Steps p.tables e below (s₁.setTop (mkF m 25 #[.val (.int p1), .val (.int (13 : Int32))] [(.int (13 : Int32)), (.long ((1 : Int64) <<< ((13 : Int32) &&& 0x3f).toInt64))])) _
                              refine XS.i2l X0.here hx rfl (hb hby d1_25) rfl ?_
                              show Steps p.tables e below (s₁.setTop (mkF m 26 #[.val (.int p1), .val (.int (13 : Int32))] [(.long ((13 : Int32).toInt64)), (.long ((1 : Int64) <<< ((13 : Int32) &&& 0x3f).toInt64))])) _
                              refine XS.iloadN X0.here hx rfl (hb hby d1_26) rfl ?_
                              show Steps p.tables e below (s₁.setTop (mkF m 27 #[.val (.int p1), .val (.int (13 : Int32))] [(.int p1), (.long ((13 : Int32).toInt64)), (.long ((1 : Int64) <<< ((13 : Int32) &&& 0x3f).toInt64))])) _
                              refine XS.i2l X0.here hx rfl (hb hby d1_27) rfl ?_
                              show Steps p.tables e below (s₁.setTop (mkF m 28 #[.val (.int p1), .val (.int (13 : Int32))] [(.long (p1.toInt64)), (.long ((13 : Int32).toInt64)), (.long ((1 : Int64) <<< ((13 : Int32) &&& 0x3f).toInt64))])) _
                              refine XS.ladd X0.here hx rfl (hb hby d1_28) rfl ?_
                              show Steps p.tables e below (s₁.setTop (mkF m 29 #[.val (.int p1), .val (.int (13 : Int32))] [(.long (((13 : Int32).toInt64) + (p1.toInt64))), (.long ((1 : Int64) <<< ((13 : Int32) &&& 0x3f).toInt64))])) _
                              refine XS.lconst X0.here hx rfl (hb hby d1_29) ?_
                              show Steps p.tables e below (s₁.setTop (mkF m 30 #[.val (.int p1), .val (.int (13 : Int32))] [(.long (1 : Int64)), (.long (((13 : Int32).toInt64) + (p1.toInt64))), (.long ((1 : Int64) <<< ((13 : Int32) &&& 0x3f).toInt64))])) _
                              refine XS.ladd X0.here hx rfl (hb hby d1_30) rfl ?_
                              show Steps p.tables e below (s₁.setTop (mkF m 31 #[.val (.int p1), .val (.int (13 : Int32))] [(.long ((((13 : Int32).toInt64) + (p1.toInt64)) + (1 : Int64))), (.long ((1 : Int64) <<< ((13 : Int32) &&& 0x3f).toInt64))])) _
                              refine XS.lcmp X0.here hx rfl (hb hby d1_31) rfl ?_
                              exact kt)
                            by_cases c32_29 : ((1 : Int64) <<< ((13 : Int32) &&& 0x3f).toInt64) < ((((13 : Int32).toInt64) + (p1.toInt64)) + (1 : Int64))
                            · have k32 : ∀ t, Steps p.tables e below (s₁.setTop (mkF m 32 #[.val (.int p1), .val (.int (14 : Int32))] [(.int (lcmpW ((1 : Int64) <<< ((14 : Int32) &&& 0x3f).toInt64) ((((14 : Int32).toInt64) + (p1.toInt64)) + (1 : Int64))))])) t → Steps p.tables e below (s₁.setTop (mkF m 0 #[.val (.int p1), .unset] [])) t := fun t kt => k30 t (by
                                show Steps p.tables e below (s₁.setTop (mkF m 32 #[.val (.int p1), .val (.int (13 : Int32))] [(.int (lcmpW ((1 : Int64) <<< ((13 : Int32) &&& 0x3f).toInt64) ((((13 : Int32).toInt64) + (p1.toInt64)) + (1 : Int64))))])) _
                                refine XS.ifNo X0.here hx rfl (hb hby d1_32) rfl ((if0 _ _).trans (tlt ((lw_lt _ _).mpr c32_29)).2.1) ?_
                                show Steps p.tables e below (s₁.setTop (mkF m 35 #[.val (.int p1), .val (.int (13 : Int32))] [])) _
                                refine XS.iinc X0.here hx rfl (hb hby d1_35) rfl (l' := #[.val (.int p1), .val (.int (14 : Int32))]) rfl ?_
                                show Steps p.tables e below (s₁.setTop (mkF m 38 #[.val (.int p1), .val (.int (14 : Int32))] [])) _
                                refine XS.goto X0.here hx rfl (pc0 := 38) (pc' := 21) rfl (hb hby d1_38) (by decide) (by decide) ?_
                                show Steps p.tables e below (s₁.setTop (mkF m 21 #[.val (.int p1), .val (.int (14 : Int32))] [])) _
                                refine XS.lconst X0.here hx rfl (hb hby d1_21) ?_
                                show Steps p.tables e below (s₁.setTop (mkF m 22 #[.val (.int p1), .val (.int (14 : Int32))] [(.long (1 : Int64))])) _
                                refine XS.iloadN X0.here hx rfl (hb hby d1_22) rfl ?_
                                show Steps p.tables e below (s₁.setTop (mkF m 23 #[.val (.int p1), .val (.int (14 : Int32))] [(.int (14 : Int32)), (.long (1 : Int64))])) _
                                refine XS.lshl X0.here hx rfl (hb hby d1_23) rfl ?_
                                show Steps p.tables e below (s₁.setTop (mkF m 24 #[.val (.int p1), .val (.int (14 : Int32))] [(.long ((1 : Int64) <<< ((14 : Int32) &&& 0x3f).toInt64))])) _
                                refine XS.iloadN X0.here hx rfl (hb hby d1_24) rfl ?_
                                show Steps p.tables e below (s₁.setTop (mkF m 25 #[.val (.int p1), .val (.int (14 : Int32))] [(.int (14 : Int32)), (.long ((1 : Int64) <<< ((14 : Int32) &&& 0x3f).toInt64))])) _
                                refine XS.i2l X0.here hx rfl (hb hby d1_25) rfl ?_
                                show Steps p.tables e below (s₁.setTop (mkF m 26 #[.val (.int p1), .val (.int (14 : Int32))] [(.long ((14 : Int32).toInt64)), (.long ((1 : Int64) <<< ((14 : Int32) &&& 0x3f).toInt64))])) _
                                refine XS.iloadN X0.here hx rfl (hb hby d1_26) rfl ?_
                                show Steps p.tables e below (s₁.setTop (mkF m 27 #[.val (.int p1), .val (.int (14 : Int32))] [(.int p1), (.long ((14 : Int32).toInt64)), (.long ((1 : Int64) <<< ((14 : Int32) &&& 0x3f).toInt64))])) _
                                refine XS.i2l X0.here hx rfl (hb hby d1_27) rfl ?_
                                show Steps p.tables e below (s₁.setTop (mkF m 28 #[.val (.int p1), .val (.int (14 : Int32))] [(.long (p1.toInt64)), (.long ((14 : Int32).toInt64)), (.long ((1 : Int64) <<< ((14 : Int32) &&& 0x3f).toInt64))])) _
                                refine XS.ladd X0.here hx rfl (hb hby d1_28) rfl ?_
                                show Steps p.tables e below (s₁.setTop (mkF m 29 #[.val (.int p1), .val (.int (14 : Int32))] [(.long (((14 : Int32).toInt64) + (p1.toInt64))), (.long ((1 : Int64) <<< ((14 : Int32) &&& 0x3f).toInt64))])) _
                                refine XS.lconst X0.here hx rfl (hb hby d1_29) ?_
                                show Steps p.tables e below (s₁.setTop (mkF m 30 #[.val (.int p1), .val (.int (14 : Int32))] [(.long (1 : Int64)), (.long (((14 : Int32).toInt64) + (p1.toInt64))), (.long ((1 : Int64) <<< ((14 : Int32) &&& 0x3f).toInt64))])) _
                                refine XS.ladd X0.here hx rfl (hb hby d1_30) rfl ?_
                                show Steps p.tables e below (s₁.setTop (mkF m 31 #[.val (.int p1), .val (.int (14 : Int32))] [(.long ((((14 : Int32).toInt64) + (p1.toInt64)) + (1 : Int64))), (.long ((1 : Int64) <<< ((14 : Int32) &&& 0x3f).toInt64))])) _
                                refine XS.lcmp X0.here hx rfl (hb hby d1_31) rfl ?_
                                exact kt)
                              by_cases c32_31 : ((1 : Int64) <<< ((14 : Int32) &&& 0x3f).toInt64) < ((((14 : Int32).toInt64) + (p1.toInt64)) + (1 : Int64))
                              · have k34 : ∀ t, Steps p.tables e below (s₁.setTop (mkF m 32 #[.val (.int p1), .val (.int (15 : Int32))] [(.int (lcmpW ((1 : Int64) <<< ((15 : Int32) &&& 0x3f).toInt64) ((((15 : Int32).toInt64) + (p1.toInt64)) + (1 : Int64))))])) t → Steps p.tables e below (s₁.setTop (mkF m 0 #[.val (.int p1), .unset] [])) t := fun t kt => k32 t (by
                                  show Steps p.tables e below (s₁.setTop (mkF m 32 #[.val (.int p1), .val (.int (14 : Int32))] [(.int (lcmpW ((1 : Int64) <<< ((14 : Int32) &&& 0x3f).toInt64) ((((14 : Int32).toInt64) + (p1.toInt64)) + (1 : Int64))))])) _
                                  refine XS.ifNo X0.here hx rfl (hb hby d1_32) rfl ((if0 _ _).trans (tlt ((lw_lt _ _).mpr c32_31)).2.1) ?_
                                  show Steps p.tables e below (s₁.setTop (mkF m 35 #[.val (.int p1), .val (.int (14 : Int32))] [])) _
                                  refine XS.iinc X0.here hx rfl (hb hby d1_35) rfl (l' := #[.val (.int p1), .val (.int (15 : Int32))]) rfl ?_
                                  show Steps p.tables e below (s₁.setTop (mkF m 38 #[.val (.int p1), .val (.int (15 : Int32))] [])) _
                                  refine XS.goto X0.here hx rfl (pc0 := 38) (pc' := 21) rfl (hb hby d1_38) (by decide) (by decide) ?_
                                  show Steps p.tables e below (s₁.setTop (mkF m 21 #[.val (.int p1), .val (.int (15 : Int32))] [])) _
                                  refine XS.lconst X0.here hx rfl (hb hby d1_21) ?_
                                  show Steps p.tables e below (s₁.setTop (mkF m 22 #[.val (.int p1), .val (.int (15 : Int32))] [(.long (1 : Int64))])) _
                                  refine XS.iloadN X0.here hx rfl (hb hby d1_22) rfl ?_
                                  show Steps p.tables e below (s₁.setTop (mkF m 23 #[.val (.int p1), .val (.int (15 : Int32))] [(.int (15 : Int32)), (.long (1 : Int64))])) _
                                  refine XS.lshl X0.here hx rfl (hb hby d1_23) rfl ?_
                                  show Steps p.tables e below (s₁.setTop (mkF m 24 #[.val (.int p1), .val (.int (15 : Int32))] [(.long ((1 : Int64) <<< ((15 : Int32) &&& 0x3f).toInt64))])) _
                                  refine XS.iloadN X0.here hx rfl (hb hby d1_24) rfl ?_
                                  show Steps p.tables e below (s₁.setTop (mkF m 25 #[.val (.int p1), .val (.int (15 : Int32))] [(.int (15 : Int32)), (.long ((1 : Int64) <<< ((15 : Int32) &&& 0x3f).toInt64))])) _
                                  refine XS.i2l X0.here hx rfl (hb hby d1_25) rfl ?_
                                  show Steps p.tables e below (s₁.setTop (mkF m 26 #[.val (.int p1), .val (.int (15 : Int32))] [(.long ((15 : Int32).toInt64)), (.long ((1 : Int64) <<< ((15 : Int32) &&& 0x3f).toInt64))])) _
                                  refine XS.iloadN X0.here hx rfl (hb hby d1_26) rfl ?_
                                  show Steps p.tables e below (s₁.setTop (mkF m 27 #[.val (.int p1), .val (.int (15 : Int32))] [(.int p1), (.long ((15 : Int32).toInt64)), (.long ((1 : Int64) <<< ((15 : Int32) &&& 0x3f).toInt64))])) _
                                  refine XS.i2l X0.here hx rfl (hb hby d1_27) rfl ?_
                                  show Steps p.tables e below (s₁.setTop (mkF m 28 #[.val (.int p1), .val (.int (15 : Int32))] [(.long (p1.toInt64)), (.long ((15 : Int32).toInt64)), (.long ((1 : Int64) <<< ((15 : Int32) &&& 0x3f).toInt64))])) _
                                  refine XS.ladd X0.here hx rfl (hb hby d1_28) rfl ?_
                                  show Steps p.tables e below (s₁.setTop (mkF m 29 #[.val (.int p1), .val (.int (15 : Int32))] [(.long (((15 : Int32).toInt64) + (p1.toInt64))), (.long ((1 : Int64) <<< ((15 : Int32) &&& 0x3f).toInt64))])) _
                                  refine XS.lconst X0.here hx rfl (hb hby d1_29) ?_
                                  show Steps p.tables e below (s₁.setTop (mkF m 30 #[.val (.int p1), .val (.int (15 : Int32))] [(.long (1 : Int64)), (.long (((15 : Int32).toInt64) + (p1.toInt64))), (.long ((1 : Int64) <<< ((15 : Int32) &&& 0x3f).toInt64))])) _
                                  refine XS.ladd X0.here hx rfl (hb hby d1_30) rfl ?_
                                  show Steps p.tables e below (s₁.setTop (mkF m 31 #[.val (.int p1), .val (.int (15 : Int32))] [(.long ((((15 : Int32).toInt64) + (p1.toInt64)) + (1 : Int64))), (.long ((1 : Int64) <<< ((15 : Int32) &&& 0x3f).toInt64))])) _
                                  refine XS.lcmp X0.here hx rfl (hb hby d1_31) rfl ?_
                                  exact kt)
                                by_cases c32_33 : ((1 : Int64) <<< ((15 : Int32) &&& 0x3f).toInt64) < ((((15 : Int32).toInt64) + (p1.toInt64)) + (1 : Int64))
                                · have k36 : ∀ t, Steps p.tables e below (s₁.setTop (mkF m 32 #[.val (.int p1), .val (.int (16 : Int32))] [(.int (lcmpW ((1 : Int64) <<< ((16 : Int32) &&& 0x3f).toInt64) ((((16 : Int32).toInt64) + (p1.toInt64)) + (1 : Int64))))])) t → Steps p.tables e below (s₁.setTop (mkF m 0 #[.val (.int p1), .unset] [])) t := fun t kt => k34 t (by
                                    show Steps p.tables e below (s₁.setTop (mkF m 32 #[.val (.int p1), .val (.int (15 : Int32))] [(.int (lcmpW ((1 : Int64) <<< ((15 : Int32) &&& 0x3f).toInt64) ((((15 : Int32).toInt64) + (p1.toInt64)) + (1 : Int64))))])) _
                                    refine XS.ifNo X0.here hx rfl (hb hby d1_32) rfl ((if0 _ _).trans (tlt ((lw_lt _ _).mpr c32_33)).2.1) ?_
                                    show Steps p.tables e below (s₁.setTop (mkF m 35 #[.val (.int p1), .val (.int (15 : Int32))] [])) _
                                    refine XS.iinc X0.here hx rfl (hb hby d1_35) rfl (l' := #[.val (.int p1), .val (.int (16 : Int32))]) rfl ?_
                                    show Steps p.tables e below (s₁.setTop (mkF m 38 #[.val (.int p1), .val (.int (16 : Int32))] [])) _
                                    refine XS.goto X0.here hx rfl (pc0 := 38) (pc' := 21) rfl (hb hby d1_38) (by decide) (by decide) ?_
                                    show Steps p.tables e below (s₁.setTop (mkF m 21 #[.val (.int p1), .val (.int (16 : Int32))] [])) _
                                    refine XS.lconst X0.here hx rfl (hb hby d1_21) ?_
                                    show Steps p.tables e below (s₁.setTop (mkF m 22 #[.val (.int p1), .val (.int (16 : Int32))] [(.long (1 : Int64))])) _
                                    refine XS.iloadN X0.here hx rfl (hb hby d1_22) rfl ?_
                                    show Steps p.tables e below (s₁.setTop (mkF m 23 #[.val (.int p1), .val (.int (16 : Int32))] [(.int (16 : Int32)), (.long (1 : Int64))])) _
                                    refine XS.lshl X0.here hx rfl (hb hby d1_23) rfl ?_
                                    show Steps p.tables e below (s₁.setTop (mkF m 24 #[.val (.int p1), .val (.int (16 : Int32))] [(.long ((1 : Int64) <<< ((16 : Int32) &&& 0x3f).toInt64))])) _
                                    refine XS.iloadN X0.here hx rfl (hb hby d1_24) rfl ?_
                                    show Steps p.tables e below (s₁.setTop (mkF m 25 #[.val (.int p1), .val (.int (16 : Int32))] [(.int (16 : Int32)), (.long ((1 : Int64) <<< ((16 : Int32) &&& 0x3f).toInt64))])) _
                                    refine XS.i2l X0.here hx rfl (hb hby d1_25) rfl ?_
                                    show Steps p.tables e below (s₁.setTop (mkF m 26 #[.val (.int p1), .val (.int (16 : Int32))] [(.long ((16 : Int32).toInt64)), (.long ((1 : Int64) <<< ((16 : Int32) &&& 0x3f).toInt64))])) _
                                    refine XS.iloadN X0.here hx rfl (hb hby d1_26) rfl ?_
                                    show Steps p.tables e below (s₁.setTop (mkF m 27 #[.val (.int p1), .val (.int (16 : Int32))] [(.int p1), (.long ((16 : Int32).toInt64)), (.long ((1 : Int64) <<< ((16 : Int32) &&& 0x3f).toInt64))])) _
                                    refine XS.i2l X0.here hx rfl (hb hby d1_27) rfl ?_
                                    show Steps p.tables e below (s₁.setTop (mkF m 28 #[.val (.int p1), .val (.int (16 : Int32))] [(.long (p1.toInt64)), (.long ((16 : Int32).toInt64)), (.long ((1 : Int64) <<< ((16 : Int32) &&& 0x3f).toInt64))])) _
                                    refine XS.ladd X0.here hx rfl (hb hby d1_28) rfl ?_
                                    show Steps p.tables e below (s₁.setTop (mkF m 29 #[.val (.int p1), .val (.int (16 : Int32))] [(.long (((16 : Int32).toInt64) + (p1.toInt64))), (.long ((1 : Int64) <<< ((16 : Int32) &&& 0x3f).toInt64))])) _
                                    refine XS.lconst X0.here hx rfl (hb hby d1_29) ?_
                                    show Steps p.tables e below (s₁.setTop (mkF m 30 #[.val (.int p1), .val (.int (16 : Int32))] [(.long (1 : Int64)), (.long (((16 : Int32).toInt64) + (p1.toInt64))), (.long ((1 : Int64) <<< ((16 : Int32) &&& 0x3f).toInt64))])) _
                                    refine XS.ladd X0.here hx rfl (hb hby d1_30) rfl ?_
                                    show Steps p.tables e below (s₁.setTop (mkF m 31 #[.val (.int p1), .val (.int (16 : Int32))] [(.long ((((16 : Int32).toInt64) + (p1.toInt64)) + (1 : Int64))), (.long ((1 : Int64) <<< ((16 : Int32) &&& 0x3f).toInt64))])) _
                                    refine XS.lcmp X0.here hx rfl (hb hby d1_31) rfl ?_
                                    exact kt)
                                  have c32_35 : ¬ (((1 : Int64) <<< ((16 : Int32) &&& 0x3f).toInt64) < ((((16 : Int32).toInt64) + (p1.toInt64)) + (1 : Int64))) := own_last p1 hk1 hk2
                                  have k38 : ∀ t, Steps p.tables e below (s₁.setTop (mkF m 44 #[.val (.int p1), .val (.int (16 : Int32))] [(.int (16 : Int32)), (.int (16 : Int32))])) t → Steps p.tables e below (s₁.setTop (mkF m 0 #[.val (.int p1), .unset] [])) t := fun t kt => k36 t (by
                                    show Steps p.tables e below (s₁.setTop (mkF m 32 #[.val (.int p1), .val (.int (16 : Int32))] [(.int (lcmpW ((1 : Int64) <<< ((16 : Int32) &&& 0x3f).toInt64) ((((16 : Int32).toInt64) + (p1.toInt64)) + (1 : Int64))))])) _
                                    refine XS.ifYes X0.here hx rfl (pc0 := 32) (pc' := 41) rfl (hb hby d1_32) rfl ((if0 _ _).trans (flt (fun q => c32_35 ((lw_lt _ _).mp q))).2.1) (by decide) (by decide) ?_
                                    show Steps p.tables e below (s₁.setTop (mkF m 41 #[.val (.int p1), .val (.int (16 : Int32))] [])) _
                                    refine XS.iloadN X0.here hx rfl (hb hby d1_41) rfl ?_
                                    show Steps p.tables e below (s₁.setTop (mkF m 42 #[.val (.int p1), .val (.int (16 : Int32))] [(.int (16 : Int32))])) _
                                    refine XS.bipush X0.here hx rfl (hb hby d1_42) ?_
                                    exact kt)
                                  have c44_37 : ¬ ((16 : Int32) < (16 : Int32)) := by decide
                                  obtain ⟨fs, hr, hrun, hended, hW, hsame⟩ := X0.leave (v := some (.int (16 : Int32))) (fun h => by rw [Bd.returns] at h; cases h)
                                  refine ⟨_, _, pre0 _ (k38 _ ?_), hrun, hended, _, _, rfl, ?_, ⟨_, rfl⟩, hW, hsame.mono (by decide) (by decide)⟩
                                  · show Steps p.tables e below (s₁.setTop (mkF m 44 #[.val (.int p1), .val (.int (16 : Int32))] [(.int (16 : Int32)), (.int (16 : Int32))])) _
                                    refine XS.icmpYes X0.here hx rfl (pc0 := 44) (pc' := 67) rfl (hb hby d1_44) rfl (flt c44_37).2.2.2 (by decide) (by decide) ?_
                                    show Steps p.tables e below (s₁.setTop (mkF m 67 #[.val (.int p1), .val (.int (16 : Int32))] [])) _
                                    refine XS.iloadN X0.here hx rfl (hb hby d1_67) rfl ?_
                                    show Steps p.tables e below (s₁.setTop (mkF m 68 #[.val (.int p1), .val (.int (16 : Int32))] [(.int (16 : Int32))])) _
                                    exact retI X0 hx Bd.returns (hb hby d1_68) hr
                                  · show Q1 Z p1 h0 n0 _ s₁.heap _
                                    rw [e0]
                                    have hv : sp1 p1 = (16 : Int32) := by unfold sp1; rw [if_pos c32_3, if_pos c32_5, if_pos c32_7, if_pos c32_9, if_pos c32_11, if_pos c32_13, if_pos c32_15, if_pos c32_17, if_pos c32_19, if_pos c32_21, if_pos c32_23, if_pos c32_25, if_pos c32_27, if_pos c32_29, if_pos c32_31, if_pos c32_33]
                                    exact ⟨by rw [hv], N0, rfl⟩
                                · have k40 : ∀ t, Steps p.tables e below (s₁.setTop (mkF m 44 #[.val (.int p1), .val (.int (15 : Int32))] [(.int (16 : Int32)), (.int (15 : Int32))])) t → Steps p.tables e below (s₁.setTop (mkF m 0 #[.val (.int p1), .unset] [])) t := fun t kt => k34 t (by
                                    show Steps p.tables e below (s₁.setTop (mkF m 32 #[.val (.int p1), .val (.int (15 : Int32))] [(.int (lcmpW ((1 : Int64) <<< ((15 : Int32) &&& 0x3f).toInt64) ((((15 : Int32).toInt64) + (p1.toInt64)) + (1 : Int64))))])) _
                                    refine XS.ifYes X0.here hx rfl (pc0 := 32) (pc' := 41) rfl (hb hby d1_32) rfl ((if0 _ _).trans (flt (fun q => c32_33 ((lw_lt _ _).mp q))).2.1) (by decide) (by decide) ?_
                                    show Steps p.tables e below (s₁.setTop (mkF m 41 #[.val (.int p1), .val (.int (15 : Int32))] [])) _
                                    refine XS.iloadN X0.here hx rfl (hb hby d1_41) rfl ?_
                                    show Steps p.tables e below (s₁.setTop (mkF m 42 #[.val (.int p1), .val (.int (15 : Int32))] [(.int (15 : Int32))])) _
                                    refine XS.bipush X0.here hx rfl (hb hby d1_42) ?_
                                    exact kt)
                                  have c44_39 : ¬ ((16 : Int32) < (15 : Int32)) := by decide
                                  obtain ⟨fs, hr, hrun, hended, hW, hsame⟩ := X0.leave (v := some (.int (15 : Int32))) (fun h => by rw [Bd.returns] at h; cases h)
                                  refine ⟨_, _, pre0 _ (k40 _ ?_), hrun, hended, _, _, rfl, ?_, ⟨_, rfl⟩, hW, hsame.mono (by decide) (by decide)⟩
                                  · show Steps p.tables e below (s₁.setTop (mkF m 44 #[.val (.int p1), .val (.int (15 : Int32))] [(.int (16 : Int32)), (.int (15 : Int32))])) _
                                    refine XS.icmpYes X0.here hx rfl (pc0 := 44) (pc' := 67) rfl (hb hby d1_44) rfl (flt c44_39).2.2.2 (by decide) (by decide) ?_
                                    show Steps p.tables e below (s₁.setTop (mkF m 67 #[.val (.int p1), .val (.int (15 : Int32))] [])) _
                                    refine XS.iloadN X0.here hx rfl (hb hby d1_67) rfl ?_
                                    show Steps p.tables e below (s₁.setTop (mkF m 68 #[.val (.int p1), .val (.int (15 : Int32))] [(.int (15 : Int32))])) _
                                    exact retI X0 hx Bd.returns (hb hby d1_68) hr
                                  · show Q1 Z p1 h0 n0 _ s₁.heap _
                                    rw [e0]
                                    have hv : sp1 p1 = (15 : Int32) := by unfold sp1; rw [if_pos c32_3, if_pos c32_5, if_pos c32_7, if_pos c32_9, if_pos c32_11, if_pos c32_13, if_pos c32_15, if_pos c32_17, if_pos c32_19, if_pos c32_21, if_pos c32_23, if_pos c32_25, if_pos c32_27, if_pos c32_29, if_pos c32_31, if_neg c32_33]
                                    exact ⟨by rw [hv], N0, rfl⟩
                              · have k42 : ∀ t, Steps p.tables e below (s₁.setTop (mkF m 44 #[.val (.int p1), .val (.int (14 : Int32))] [(.int (16 : Int32)), (.int (14 : Int32))])) t → Steps p.tables e below (s₁.setTop (mkF m 0 #[.val (.int p1), .unset] [])) t := fun t kt => k32 t (by
                                  show Steps p.tables e below (s₁.setTop (mkF m 32 #[.val (.int p1), .val (.int (14 : Int32))] [(.int (lcmpW ((1 : Int64) <<< ((14 : Int32) &&& 0x3f).toInt64) ((((14 : Int32).toInt64) + (p1.toInt64)) + (1 : Int64))))])) _
                                  refine XS.ifYes X0.here hx rfl (pc0 := 32) (pc' := 41) rfl (hb hby d1_32) rfl ((if0 _ _).trans (flt (fun q => c32_31 ((lw_lt _ _).mp q))).2.1) (by decide) (by decide) ?_
                                  show Steps p.tables e below (s₁.setTop (mkF m 41 #[.val (.int p1), .val (.int (14 : Int32))] [])) _
                                  refine XS.iloadN X0.here hx rfl (hb hby d1_41) rfl ?_
                                  show Steps p.tables e below (s₁.setTop (mkF m 42 #[.val (.int p1), .val (.int (14 : Int32))] [(.int (14 : Int32))])) _
                                  refine XS.bipush X0.here hx rfl (hb hby d1_42) ?_
                                  exact kt)
                                have c44_41 : ¬ ((16 : Int32) < (14 : Int32)) := by decide
                                obtain ⟨fs, hr, hrun, hended, hW, hsame⟩ := X0.leave (v := some (.int (14 : Int32))) (fun h => by rw [Bd.returns] at h; cases h)
                                refine ⟨_, _, pre0 _ (k42 _ ?_), hrun, hended, _, _, rfl, ?_, ⟨_, rfl⟩, hW, hsame.mono (by decide) (by decide)⟩
                                · show Steps p.tables e below (s₁.setTop (mkF m 44 #[.val (.int p1), .val (.int (14 : Int32))] [(.int (16 : Int32)), (.int (14 : Int32))])) _
                                  refine XS.icmpYes X0.here hx rfl (pc0 := 44) (pc' := 67) rfl (hb hby d1_44) rfl (flt c44_41).2.2.2 (by decide) (by decide) ?_
                                  show Steps p.tables e below (s₁.setTop (mkF m 67 #[.val (.int p1), .val (.int (14 : Int32))] [])) _
                                  refine XS.iloadN X0.here hx rfl (hb hby d1_67) rfl ?_
                                  show Steps p.tables e below (s₁.setTop (mkF m 68 #[.val (.int p1), .val (.int (14 : Int32))] [(.int (14 : Int32))])) _
                                  exact retI X0 hx Bd.returns (hb hby d1_68) hr
                                · show Q1 Z p1 h0 n0 _ s₁.heap _
                                  rw [e0]
                                  have hv : sp1 p1 = (14 : Int32) := by unfold sp1; rw [if_pos c32_3, if_pos c32_5, if_pos c32_7, if_pos c32_9, if_pos c32_11, if_pos c32_13, if_pos c32_15, if_pos c32_17, if_pos c32_19, if_pos c32_21, if_pos c32_23, if_pos c32_25, if_pos c32_27, if_pos c32_29, if_neg c32_31]
                                  exact ⟨by rw [hv], N0, rfl⟩
                            · have k44 : ∀ t, Steps p.tables e below (s₁.setTop (mkF m 44 #[.val (.int p1), .val (.int (13 : Int32))] [(.int (16 : Int32)), (.int (13 : Int32))])) t → Steps p.tables e below (s₁.setTop (mkF m 0 #[.val (.int p1), .unset] [])) t := fun t kt => k30 t (by
                                show Steps p.tables e below (s₁.setTop (mkF m 32 #[.val (.int p1), .val (.int (13 : Int32))] [(.int (lcmpW ((1 : Int64) <<< ((13 : Int32) &&& 0x3f).toInt64) ((((13 : Int32).toInt64) + (p1.toInt64)) + (1 : Int64))))])) _
                                refine XS.ifYes X0.here hx rfl (pc0 := 32) (pc' := 41) rfl (hb hby d1_32) rfl ((if0 _ _).trans (flt (fun q => c32_29 ((lw_lt _ _).mp q))).2.1) (by decide) (by decide) ?_
                                show Steps p.tables e below (s₁.setTop (mkF m 41 #[.val (.int p1), .val (.int (13 : Int32))] [])) _
                                refine XS.iloadN X0.here hx rfl (hb hby d1_41) rfl ?_
                                show Steps p.tables e below (s₁.setTop (mkF m 42 #[.val (.int p1), .val (.int (13 : Int32))] [(.int (13 : Int32))])) _
                                refine XS.bipush X0.here hx rfl (hb hby d1_42) ?_
                                exact kt)
                              have c44_43 : ¬ ((16 : Int32) < (13 : Int32)) := by decide
                              obtain ⟨fs, hr, hrun, hended, hW, hsame⟩ := X0.leave (v := some (.int (13 : Int32))) (fun h => by rw [Bd.returns] at h; cases h)
                              refine ⟨_, _, pre0 _ (k44 _ ?_), hrun, hended, _, _, rfl, ?_, ⟨_, rfl⟩, hW, hsame.mono (by decide) (by decide)⟩
                              · show Steps p.tables e below (s₁.setTop (mkF m 44 #[.val (.int p1), .val (.int (13 : Int32))] [(.int (16 : Int32)), (.int (13 : Int32))])) _
                                refine XS.icmpYes X0.here hx rfl (pc0 := 44) (pc' := 67) rfl (hb hby d1_44) rfl (flt c44_43).2.2.2 (by decide) (by decide) ?_
                                show Steps p.tables e below (s₁.setTop (mkF m 67 #[.val (.int p1), .val (.int (13 : Int32))] [])) _
                                refine XS.iloadN X0.here hx rfl (hb hby d1_67) rfl ?_
                                show Steps p.tables e below (s₁.setTop (mkF m 68 #[.val (.int p1), .val (.int (13 : Int32))] [(.int (13 : Int32))])) _
                                exact retI X0 hx Bd.returns (hb hby d1_68) hr
                              · show Q1 Z p1 h0 n0 _ s₁.heap _
                                rw [e0]
                                have hv : sp1 p1 = (13 : Int32) := by unfold sp1; rw [if_pos c32_3, if_pos c32_5, if_pos c32_7, if_pos c32_9, if_pos c32_11, if_pos c32_13, if_pos c32_15, if_pos c32_17, if_pos c32_19, if_pos c32_21, if_pos c32_23, if_pos c32_25, if_pos c32_27, if_neg c32_29]
                                exact ⟨by rw [hv], N0, rfl⟩
                          · have k46 : ∀ t, Steps p.tables e below (s₁.setTop (mkF m 44 #[.val (.int p1), .val (.int (12 : Int32))] [(.int (16 : Int32)), (.int (12 : Int32))])) t → Steps p.tables e below (s₁.setTop (mkF m 0 #[.val (.int p1), .unset] [])) t := fun t kt => k28 t (by
                              show Steps p.tables e below (s₁.setTop (mkF m 32 #[.val (.int p1), .val (.int (12 : Int32))] [(.int (lcmpW ((1 : Int64) <<< ((12 : Int32) &&& 0x3f).toInt64) ((((12 : Int32).toInt64) + (p1.toInt64)) + (1 : Int64))))])) _
                              refine XS.ifYes X0.here hx rfl (pc0 := 32) (pc' := 41) rfl (hb hby d1_32) rfl ((if0 _ _).trans (flt (fun q => c32_27 ((lw_lt _ _).mp q))).2.1) (by decide) (by decide) ?_
                              show Steps p.tables e below (s₁.setTop (mkF m 41 #[.val (.int p1), .val (.int (12 : Int32))] [])) _
                              refine XS.iloadN X0.here hx rfl (hb hby d1_41) rfl ?_
                              show Steps p.tables e below (s₁.setTop (mkF m 42 #[.val (.int p1), .val (.int (12 : Int32))] [(.int (12 : Int32))])) _
                              refine XS.bipush X0.here hx rfl (hb hby d1_42) ?_
                              exact kt)
                            have c44_45 : ¬ ((16 : Int32) < (12 : Int32)) := by decide
                            obtain ⟨fs, hr, hrun, hended, hW, hsame⟩ := X0.leave (v := some (.int (12 : Int32))) (fun h => by rw [Bd.returns] at h; cases h)
                            refine ⟨_, _, pre0 _ (k46 _ ?_), hrun, hended, _, _, rfl, ?_, ⟨_, rfl⟩, hW, hsame.mono (by decide) (by decide)⟩
                            · show Steps p.tables e below (s₁.setTop (mkF m 44 #[.val (.int p1), .val (.int (12 : Int32))] [(.int (16 : Int32)), (.int (12 : Int32))])) _
                              refine XS.icmpYes X0.here hx rfl (pc0 := 44) (pc' := 67) rfl (hb hby d1_44) rfl (flt c44_45).2.2.2 (by decide) (by decide) ?_
                              show Steps p.tables e below (s₁.setTop (mkF m 67 #[.val (.int p1), .val (.int (12 : Int32))] [])) _
                              refine XS.iloadN X0.here hx rfl (hb hby d1_67) rfl ?_
                              show Steps p.tables e below (s₁.setTop (mkF m 68 #[.val (.int p1), .val (.int (12 : Int32))] [(.int (12 : Int32))])) _
                              exact retI X0 hx Bd.returns (hb hby d1_68) hr
                            · show Q1 Z p1 h0 n0 _ s₁.heap _
                              rw [e0]
                              have hv : sp1 p1 = (12 : Int32) := by unfold sp1; rw [if_pos c32_3, if_pos c32_5, if_pos c32_7, if_pos c32_9, if_pos c32_11, if_pos c32_13, if_pos c32_15, if_pos c32_17, if_pos c32_19, if_pos c32_21, if_pos c32_23, if_pos c32_25, if_neg c32_27]
                              exact ⟨by rw [hv], N0, rfl⟩
                        · have k48 : ∀ t, Steps p.tables e below (s₁.setTop (mkF m 44 #[.val (.int p1), .val (.int (11 : Int32))] [(.int (16 : Int32)), (.int (11 : Int32))])) t → Steps p.tables e below (s₁.setTop (mkF m 0 #[.val (.int p1), .unset] [])) t := fun t kt => k26 t (by
                            show Steps p.tables e below (s₁.setTop (mkF m 32 #[.val (.int p1), .val (.int (11 : Int32))] [(.int (lcmpW ((1 : Int64) <<< ((11 : Int32) &&& 0x3f).toInt64) ((((11 : Int32).toInt64) + (p1.toInt64)) + (1 : Int64))))])) _
                            refine XS.ifYes X0.here hx rfl (pc0 := 32) (pc' := 41) rfl (hb hby d1_32) rfl ((if0 _ _).trans (flt (fun q => c32_25 ((lw_lt _ _).mp q))).2.1) (by decide) (by decide) ?_
                            show Steps p.tables e below (s₁.setTop (mkF m 41 #[.val (.int p1), .val (.int (11 : Int32))] [])) _
                            refine XS.iloadN X0.here hx rfl (hb hby d1_41) rfl ?_
                            show Steps p.tables e below (s₁.setTop (mkF m 42 #[.val (.int p1), .val (.int (11 : Int32))] [(.int (11 : Int32))])) _
                            refine XS.bipush X0.here hx rfl (hb hby d1_42) ?_
                            exact kt)
                          have c44_47 : ¬ ((16 : Int32) < (11 : Int32)) := by decide
                          obtain ⟨fs, hr, hrun, hended, hW, hsame⟩ := X0.leave (v := some (.int (11 : Int32))) (fun h => by rw [Bd.returns] at h; cases h)
                          refine ⟨_, _, pre0 _ (k48 _ ?_), hrun, hended, _, _, rfl, ?_, ⟨_, rfl⟩, hW, hsame.mono (by decide) (by decide)⟩
                          · show Steps p.tables e below (s₁.setTop (mkF m 44 #[.val (.int p1), .val (.int (11 : Int32))] [(.int (16 : Int32)), (.int (11 : Int32))])) _
                            refine XS.icmpYes X0.here hx rfl (pc0 := 44) (pc' := 67) rfl (hb hby d1_44) rfl (flt c44_47).2.2.2 (by decide) (by decide) ?_
                            show Steps p.tables e below (s₁.setTop (mkF m 67 #[.val (.int p1), .val (.int (11 : Int32))] [])) _
                            refine XS.iloadN X0.here hx rfl (hb hby d1_67) rfl ?_
                            show Steps p.tables e below (s₁.setTop (mkF m 68 #[.val (.int p1), .val (.int (11 : Int32))] [(.int (11 : Int32))])) _
                            exact retI X0 hx Bd.returns (hb hby d1_68) hr
                          · show Q1 Z p1 h0 n0 _ s₁.heap _
                            rw [e0]
                            have hv : sp1 p1 = (11 : Int32) := by unfold sp1; rw [if_pos c32_3, if_pos c32_5, if_pos c32_7, if_pos c32_9, if_pos c32_11, if_pos c32_13, if_pos c32_15, if_pos c32_17, if_pos c32_19, if_pos c32_21, if_pos c32_23, if_neg c32_25]
                            exact ⟨by rw [hv], N0, rfl⟩
                      · have k50 : ∀ t, Steps p.tables e below (s₁.setTop (mkF m 44 #[.val (.int p1), .val (.int (10 : Int32))] [(.int (16 : Int32)), (.int (10 : Int32))])) t → Steps p.tables e below (s₁.setTop (mkF m 0 #[.val (.int p1), .unset] [])) t := fun t kt => k24 t (by
                          show Steps p.tables e below (s₁.setTop (mkF m 32 #[.val (.int p1), .val (.int (10 : Int32))] [(.int (lcmpW ((1 : Int64) <<< ((10 : Int32) &&& 0x3f).toInt64) ((((10 : Int32).toInt64) + (p1.toInt64)) + (1 : Int64))))])) _
                          refine XS.ifYes X0.here hx rfl (pc0 := 32) (pc' := 41) rfl (hb hby d1_32) rfl ((if0 _ _).trans (flt (fun q => c32_23 ((lw_lt _ _).mp q))).2.1) (by decide) (by decide) ?_
                          show Steps p.tables e below (s₁.setTop (mkF m 41 #[.val (.int p1), .val (.int (10 : Int32))] [])) _
                          refine XS.iloadN X0.here hx rfl (hb hby d1_41) rfl ?_
                          show Steps p.tables e below (s₁.setTop (mkF m 42 #[.val (.int p1), .val (.int (10 : Int32))] [(.int (10 : Int32))])) _
                          refine XS.bipush X0.here hx rfl (hb hby d1_42) ?_
                          exact kt)
                        have c44_49 : ¬ ((16 : Int32) < (10 : Int32)) := by decide
                        obtain ⟨fs, hr, hrun, hended, hW, hsame⟩ := X0.leave (v := some (.int (10 : Int32))) (fun h => by rw [Bd.returns] at h; cases h)
                        refine ⟨_, _, pre0 _ (k50 _ ?_), hrun, hended, _, _, rfl, ?_, ⟨_, rfl⟩, hW, hsame.mono (by decide) (by decide)⟩
                        · show Steps p.tables e below (s₁.setTop (mkF m 44 #[.val (.int p1), .val (.int (10 : Int32))] [(.int (16 : Int32)), (.int (10 : Int32))])) _
                          refine XS.icmpYes X0.here hx rfl (pc0 := 44) (pc' := 67) rfl (hb hby d1_44) rfl (flt c44_49).2.2.2 (by decide) (by decide) ?_
                          show Steps p.tables e below (s₁.setTop (mkF m 67 #[.val (.int p1), .val (.int (10 : Int32))] [])) _
                          refine XS.iloadN X0.here hx rfl (hb hby d1_67) rfl ?_
                          show Steps p.tables e below (s₁.setTop (mkF m 68 #[.val (.int p1), .val (.int (10 : Int32))] [(.int (10 : Int32))])) _
                          exact retI X0 hx Bd.returns (hb hby d1_68) hr
                        · show Q1 Z p1 h0 n0 _ s₁.heap _
                          rw [e0]
                          have hv : sp1 p1 = (10 : Int32) := by unfold sp1; rw [if_pos c32_3, if_pos c32_5, if_pos c32_7, if_pos c32_9, if_pos c32_11, if_pos c32_13, if_pos c32_15, if_pos c32_17, if_pos c32_19, if_pos c32_21, if_neg c32_23]
                          exact ⟨by rw [hv], N0, rfl⟩
                    · have k52 : ∀ t, Steps p.tables e below (s₁.setTop (mkF m 44 #[.val (.int p1), .val (.int (9 : Int32))] [(.int (16 : Int32)), (.int (9 : Int32))])) t → Steps p.tables e below (s₁.setTop (mkF m 0 #[.val (.int p1), .unset] [])) t := fun t kt => k22 t (by
                        show Steps p.tables e below (s₁.setTop (mkF m 32 #[.val (.int p1), .val (.int (9 : Int32))] [(.int (lcmpW ((1 : Int64) <<< ((9 : Int32) &&& 0x3f).toInt64) ((((9 : Int32).toInt64) + (p1.toInt64)) + (1 : Int64))))])) _
                        refine XS.ifYes X0.here hx rfl (pc0 := 32) (pc' := 41) rfl (hb hby d1_32) rfl ((if0 _ _).trans (flt (fun q => c32_21 ((lw_lt _ _).mp q))).2.1) (by decide) (by decide) ?_
                        show Steps p.tables e below (s₁.setTop (mkF m 41 #[.val (.int p1), .val (.int (9 : Int32))] [])) _
                        refine XS.iloadN X0.here hx rfl (hb hby d1_41) rfl ?_
                        show Steps p.tables e below (s₁.setTop (mkF m 42 #[.val (.int p1), .val (.int (9 : Int32))] [(.int (9 : Int32))])) _
                        refine XS.bipush X0.here hx rfl (hb hby d1_42) ?_
                        exact kt)
                      have c44_51 : ¬ ((16 : Int32) < (9 : Int32)) := by decide
                      obtain ⟨fs, hr, hrun, hended, hW, hsame⟩ := X0.leave (v := some (.int (9 : Int32))) (fun h => by rw [Bd.returns] at h; cases h)
                      refine ⟨_, _, pre0 _ (k52 _ ?_), hrun, hended, _, _, rfl, ?_, ⟨_, rfl⟩, hW, hsame.mono (by decide) (by decide)⟩
                      · show Steps p.tables e below (s₁.setTop (mkF m 44 #[.val (.int p1), .val (.int (9 : Int32))] [(.int (16 : Int32)), (.int (9 : Int32))])) _
                        refine XS.icmpYes X0.here hx rfl (pc0 := 44) (pc' := 67) rfl (hb hby d1_44) rfl (flt c44_51).2.2.2 (by decide) (by decide) ?_
                        show Steps p.tables e below (s₁.setTop (mkF m 67 #[.val (.int p1), .val (.int (9 : Int32))] [])) _
                        refine XS.iloadN X0.here hx rfl (hb hby d1_67) rfl ?_
                        show Steps p.tables e below (s₁.setTop (mkF m 68 #[.val (.int p1), .val (.int (9 : Int32))] [(.int (9 : Int32))])) _
                        exact retI X0 hx Bd.returns (hb hby d1_68) hr
                      · show Q1 Z p1 h0 n0 _ s₁.heap _
                        rw [e0]
                        have hv : sp1 p1 = (9 : Int32) := by unfold sp1; rw [if_pos c32_3, if_pos c32_5, if_pos c32_7, if_pos c32_9, if_pos c32_11, if_pos c32_13, if_pos c32_15, if_pos c32_17, if_pos c32_19, if_neg c32_21]
                        exact ⟨by rw [hv], N0, rfl⟩
                  · have k54 : ∀ t, Steps p.tables e below (s₁.setTop (mkF m 44 #[.val (.int p1), .val (.int (8 : Int32))] [(.int (16 : Int32)), (.int (8 : Int32))])) t → Steps p.tables e below (s₁.setTop (mkF m 0 #[.val (.int p1), .unset] [])) t := fun t kt => k20 t (by
                      show Steps p.tables e below (s₁.setTop (mkF m 32 #[.val (.int p1), .val (.int (8 : Int32))] [(.int (lcmpW ((1 : Int64) <<< ((8 : Int32) &&& 0x3f).toInt64) ((((8 : Int32).toInt64) + (p1.toInt64)) + (1 : Int64))))])) _
                      refine XS.ifYes X0.here hx rfl (pc0 := 32) (pc' := 41) rfl (hb hby d1_32) rfl ((if0 _ _).trans (flt (fun q => c32_19 ((lw_lt _ _).mp q))).2.1) (by decide) (by decide) ?_
                      show Steps p.tables e below (s₁.setTop (mkF m 41 #[.val (.int p1), .val (.int (8 : Int32))] [])) _
                      refine XS.iloadN X0.here hx rfl (hb hby d1_41) rfl ?_
                      show Steps p.tables e below (s₁.setTop (mkF m 42 #[.val (.int p1), .val (.int (8 : Int32))] [(.int (8 : Int32))])) _
                      refine XS.bipush X0.here hx rfl (hb hby d1_42) ?_
                      exact kt)
                    have c44_53 : ¬ ((16 : Int32) < (8 : Int32)) := by decide
                    obtain ⟨fs, hr, hrun, hended, hW, hsame⟩ := X0.leave (v := some (.int (8 : Int32))) (fun h => by rw [Bd.returns] at h; cases h)
                    refine ⟨_, _, pre0 _ (k54 _ ?_), hrun, hended, _, _, rfl, ?_, ⟨_, rfl⟩, hW, hsame.mono (by decide) (by decide)⟩
                    · show Steps p.tables e below (s₁.setTop (mkF m 44 #[.val (.int p1), .val (.int (8 : Int32))] [(.int (16 : Int32)), (.int (8 : Int32))])) _
                      refine XS.icmpYes X0.here hx rfl (pc0 := 44) (pc' := 67) rfl (hb hby d1_44) rfl (flt c44_53).2.2.2 (by decide) (by decide) ?_
                      show Steps p.tables e below (s₁.setTop (mkF m 67 #[.val (.int p1), .val (.int (8 : Int32))] [])) _
                      refine XS.iloadN X0.here hx rfl (hb hby d1_67) rfl ?_
                      show Steps p.tables e below (s₁.setTop (mkF m 68 #[.val (.int p1), .val (.int (8 : Int32))] [(.int (8 : Int32))])) _
                      exact retI X0 hx Bd.returns (hb hby d1_68) hr
                    · show Q1 Z p1 h0 n0 _ s₁.heap _
                      rw [e0]
                      have hv : sp1 p1 = (8 : Int32) := by unfold sp1; rw [if_pos c32_3, if_pos c32_5, if_pos c32_7, if_pos c32_9, if_pos c32_11, if_pos c32_13, if_pos c32_15, if_pos c32_17, if_neg c32_19]
                      exact ⟨by rw [hv], N0, rfl⟩
                · have k56 : ∀ t, Steps p.tables e below (s₁.setTop (mkF m 44 #[.val (.int p1), .val (.int (7 : Int32))] [(.int (16 : Int32)), (.int (7 : Int32))])) t → Steps p.tables e below (s₁.setTop (mkF m 0 #[.val (.int p1), .unset] [])) t := fun t kt => k18 t (by
                    show Steps p.tables e below (s₁.setTop (mkF m 32 #[.val (.int p1), .val (.int (7 : Int32))] [(.int (lcmpW ((1 : Int64) <<< ((7 : Int32) &&& 0x3f).toInt64) ((((7 : Int32).toInt64) + (p1.toInt64)) + (1 : Int64))))])) _
                    refine XS.ifYes X0.here hx rfl (pc0 := 32) (pc' := 41) rfl (hb hby d1_32) rfl ((if0 _ _).trans (flt (fun q => c32_17 ((lw_lt _ _).mp q))).2.1) (by decide) (by decide) ?_
                    show Steps p.tables e below (s₁.setTop (mkF m 41 #[.val (.int p1), .val (.int (7 : Int32))] [])) _
                    refine XS.iloadN X0.here hx rfl (hb hby d1_41) rfl ?_
                    show Steps p.tables e below (s₁.setTop (mkF m 42 #[.val (.int p1), .val (.int (7 : Int32))] [(.int (7 : Int32))])) _
                    refine XS.bipush X0.here hx rfl (hb hby d1_42) ?_
                    exact kt)
                  have c44_55 : ¬ ((16 : Int32) < (7 : Int32)) := by decide
                  obtain ⟨fs, hr, hrun, hended, hW, hsame⟩ := X0.leave (v := some (.int (7 : Int32))) (fun h => by rw [Bd.returns] at h; cases h)
                  refine ⟨_, _, pre0 _ (k56 _ ?_), hrun, hended, _, _, rfl, ?_, ⟨_, rfl⟩, hW, hsame.mono (by decide) (by decide)⟩
                  · show Steps p.tables e below (s₁.setTop (mkF m 44 #[.val (.int p1), .val (.int (7 : Int32))] [(.int (16 : Int32)), (.int (7 : Int32))])) _
                    refine XS.icmpYes X0.here hx rfl (pc0 := 44) (pc' := 67) rfl (hb hby d1_44) rfl (flt c44_55).2.2.2 (by decide) (by decide) ?_
                    show Steps p.tables e below (s₁.setTop (mkF m 67 #[.val (.int p1), .val (.int (7 : Int32))] [])) _
                    refine XS.iloadN X0.here hx rfl (hb hby d1_67) rfl ?_
                    show Steps p.tables e below (s₁.setTop (mkF m 68 #[.val (.int p1), .val (.int (7 : Int32))] [(.int (7 : Int32))])) _
                    exact retI X0 hx Bd.returns (hb hby d1_68) hr
                  · show Q1 Z p1 h0 n0 _ s₁.heap _
                    rw [e0]
                    have hv : sp1 p1 = (7 : Int32) := by unfold sp1; rw [if_pos c32_3, if_pos c32_5, if_pos c32_7, if_pos c32_9, if_pos c32_11, if_pos c32_13, if_pos c32_15, if_neg c32_17]
                    exact ⟨by rw [hv], N0, rfl⟩
              · have k58 : ∀ t, Steps p.tables e below (s₁.setTop (mkF m 44 #[.val (.int p1), .val (.int (6 : Int32))] [(.int (16 : Int32)), (.int (6 : Int32))])) t → Steps p.tables e below (s₁.setTop (mkF m 0 #[.val (.int p1), .unset] [])) t := fun t kt => k16 t (by
                  show Steps p.tables e below (s₁.setTop (mkF m 32 #[.val (.int p1), .val (.int (6 : Int32))] [(.int (lcmpW ((1 : Int64) <<< ((6 : Int32) &&& 0x3f).toInt64) ((((6 : Int32).toInt64) + (p1.toInt64)) + (1 : Int64))))])) _
                  refine XS.ifYes X0.here hx rfl (pc0 := 32) (pc' := 41) rfl (hb hby d1_32) rfl ((if0 _ _).trans (flt (fun q => c32_15 ((lw_lt _ _).mp q))).2.1) (by decide) (by decide) ?_
                  show Steps p.tables e below (s₁.setTop (mkF m 41 #[.val (.int p1), .val (.int (6 : Int32))] [])) _
                  refine XS.iloadN X0.here hx rfl (hb hby d1_41) rfl ?_
                  show Steps p.tables e below (s₁.setTop (mkF m 42 #[.val (.int p1), .val (.int (6 : Int32))] [(.int (6 : Int32))])) _
                  refine XS.bipush X0.here hx rfl (hb hby d1_42) ?_
                  exact kt)
                have c44_57 : ¬ ((16 : Int32) < (6 : Int32)) := by decide
                obtain ⟨fs, hr, hrun, hended, hW, hsame⟩ := X0.leave (v := some (.int (6 : Int32))) (fun h => by rw [Bd.returns] at h; cases h)
                refine ⟨_, _, pre0 _ (k58 _ ?_), hrun, hended, _, _, rfl, ?_, ⟨_, rfl⟩, hW, hsame.mono (by decide) (by decide)⟩
                · show Steps p.tables e below (s₁.setTop (mkF m 44 #[.val (.int p1), .val (.int (6 : Int32))] [(.int (16 : Int32)), (.int (6 : Int32))])) _
                  refine XS.icmpYes X0.here hx rfl (pc0 := 44) (pc' := 67) rfl (hb hby d1_44) rfl (flt c44_57).2.2.2 (by decide) (by decide) ?_
                  show Steps p.tables e below (s₁.setTop (mkF m 67 #[.val (.int p1), .val (.int (6 : Int32))] [])) _
                  refine XS.iloadN X0.here hx rfl (hb hby d1_67) rfl ?_
                  show Steps p.tables e below (s₁.setTop (mkF m 68 #[.val (.int p1), .val (.int (6 : Int32))] [(.int (6 : Int32))])) _
                  exact retI X0 hx Bd.returns (hb hby d1_68) hr
                · show Q1 Z p1 h0 n0 _ s₁.heap _
                  rw [e0]
                  have hv : sp1 p1 = (6 : Int32) := by unfold sp1; rw [if_pos c32_3, if_pos c32_5, if_pos c32_7, if_pos c32_9, if_pos c32_11, if_pos c32_13, if_neg c32_15]
                  exact ⟨by rw [hv], N0, rfl⟩
            · have k60 : ∀ t, Steps p.tables e below (s₁.setTop (mkF m 44 #[.val (.int p1), .val (.int (5 : Int32))] [(.int (16 : Int32)), (.int (5 : Int32))])) t → Steps p.tables e below (s₁.setTop (mkF m 0 #[.val (.int p1), .unset] [])) t := fun t kt => k14 t (by
                show Steps p.tables e below (s₁.setTop (mkF m 32 #[.val (.int p1), .val (.int (5 : Int32))] [(.int (lcmpW ((1 : Int64) <<< ((5 : Int32) &&& 0x3f).toInt64) ((((5 : Int32).toInt64) + (p1.toInt64)) + (1 : Int64))))])) _
                refine XS.ifYes X0.here hx rfl (pc0 := 32) (pc' := 41) rfl (hb hby d1_32) rfl ((if0 _ _).trans (flt (fun q => c32_13 ((lw_lt _ _).mp q))).2.1) (by decide) (by decide) ?_
                show Steps p.tables e below (s₁.setTop (mkF m 41 #[.val (.int p1), .val (.int (5 : Int32))] [])) _
                refine XS.iloadN X0.here hx rfl (hb hby d1_41) rfl ?_
                show Steps p.tables e below (s₁.setTop (mkF m 42 #[.val (.int p1), .val (.int (5 : Int32))] [(.int (5 : Int32))])) _
                refine XS.bipush X0.here hx rfl (hb hby d1_42) ?_
                exact kt)
              have c44_59 : ¬ ((16 : Int32) < (5 : Int32)) := by decide
              obtain ⟨fs, hr, hrun, hended, hW, hsame⟩ := X0.leave (v := some (.int (5 : Int32))) (fun h => by rw [Bd.returns] at h; cases h)
              refine ⟨_, _, pre0 _ (k60 _ ?_), hrun, hended, _, _, rfl, ?_, ⟨_, rfl⟩, hW, hsame.mono (by decide) (by decide)⟩
              · show Steps p.tables e below (s₁.setTop (mkF m 44 #[.val (.int p1), .val (.int (5 : Int32))] [(.int (16 : Int32)), (.int (5 : Int32))])) _
                refine XS.icmpYes X0.here hx rfl (pc0 := 44) (pc' := 67) rfl (hb hby d1_44) rfl (flt c44_59).2.2.2 (by decide) (by decide) ?_
                show Steps p.tables e below (s₁.setTop (mkF m 67 #[.val (.int p1), .val (.int (5 : Int32))] [])) _
                refine XS.iloadN X0.here hx rfl (hb hby d1_67) rfl ?_
                show Steps p.tables e below (s₁.setTop (mkF m 68 #[.val (.int p1), .val (.int (5 : Int32))] [(.int (5 : Int32))])) _
                exact retI X0 hx Bd.returns (hb hby d1_68) hr
              · show Q1 Z p1 h0 n0 _ s₁.heap _
                rw [e0]
                have hv : sp1 p1 = (5 : Int32) := by unfold sp1; rw [if_pos c32_3, if_pos c32_5, if_pos c32_7, if_pos c32_9, if_pos c32_11, if_neg c32_13]
                exact ⟨by rw [hv], N0, rfl⟩
          · have k62 : ∀ t, Steps p.tables e below (s₁.setTop (mkF m 44 #[.val (.int p1), .val (.int (4 : Int32))] [(.int (16 : Int32)), (.int (4 : Int32))])) t → Steps p.tables e below (s₁.setTop (mkF m 0 #[.val (.int p1), .unset] [])) t := fun t kt => k12 t (by
              show Steps p.tables e below (s₁.setTop (mkF m 32 #[.val (.int p1), .val (.int (4 : Int32))] [(.int (lcmpW ((1 : Int64) <<< ((4 : Int32) &&& 0x3f).toInt64) ((((4 : Int32).toInt64) + (p1.toInt64)) + (1 : Int64))))])) _
              refine XS.ifYes X0.here hx rfl (pc0 := 32) (pc' := 41) rfl (hb hby d1_32) rfl ((if0 _ _).trans (flt (fun q => c32_11 ((lw_lt _ _).mp q))).2.1) (by decide) (by decide) ?_
              show Steps p.tables e below (s₁.setTop (mkF m 41 #[.val (.int p1), .val (.int (4 : Int32))] [])) _
              refine XS.iloadN X0.here hx rfl (hb hby d1_41) rfl ?_
              show Steps p.tables e below (s₁.setTop (mkF m 42 #[.val (.int p1), .val (.int (4 : Int32))] [(.int (4 : Int32))])) _
              refine XS.bipush X0.here hx rfl (hb hby d1_42) ?_
              exact kt)
            have c44_61 : ¬ ((16 : Int32) < (4 : Int32)) := by decide
            obtain ⟨fs, hr, hrun, hended, hW, hsame⟩ := X0.leave (v := some (.int (4 : Int32))) (fun h => by rw [Bd.returns] at h; cases h)
            refine ⟨_, _, pre0 _ (k62 _ ?_), hrun, hended, _, _, rfl, ?_, ⟨_, rfl⟩, hW, hsame.mono (by decide) (by decide)⟩
            · show Steps p.tables e below (s₁.setTop (mkF m 44 #[.val (.int p1), .val (.int (4 : Int32))] [(.int (16 : Int32)), (.int (4 : Int32))])) _
              refine XS.icmpYes X0.here hx rfl (pc0 := 44) (pc' := 67) rfl (hb hby d1_44) rfl (flt c44_61).2.2.2 (by decide) (by decide) ?_
              show Steps p.tables e below (s₁.setTop (mkF m 67 #[.val (.int p1), .val (.int (4 : Int32))] [])) _
              refine XS.iloadN X0.here hx rfl (hb hby d1_67) rfl ?_
              show Steps p.tables e below (s₁.setTop (mkF m 68 #[.val (.int p1), .val (.int (4 : Int32))] [(.int (4 : Int32))])) _
              exact retI X0 hx Bd.returns (hb hby d1_68) hr
            · show Q1 Z p1 h0 n0 _ s₁.heap _
              rw [e0]
              have hv : sp1 p1 = (4 : Int32) := by unfold sp1; rw [if_pos c32_3, if_pos c32_5, if_pos c32_7, if_pos c32_9, if_neg c32_11]
              exact ⟨by rw [hv], N0, rfl⟩
        · have k64 : ∀ t, Steps p.tables e below (s₁.setTop (mkF m 44 #[.val (.int p1), .val (.int (3 : Int32))] [(.int (16 : Int32)), (.int (3 : Int32))])) t → Steps p.tables e below (s₁.setTop (mkF m 0 #[.val (.int p1), .unset] [])) t := fun t kt => k10 t (by
            show Steps p.tables e below (s₁.setTop (mkF m 32 #[.val (.int p1), .val (.int (3 : Int32))] [(.int (lcmpW ((1 : Int64) <<< ((3 : Int32) &&& 0x3f).toInt64) ((((3 : Int32).toInt64) + (p1.toInt64)) + (1 : Int64))))])) _
            refine XS.ifYes X0.here hx rfl (pc0 := 32) (pc' := 41) rfl (hb hby d1_32) rfl ((if0 _ _).trans (flt (fun q => c32_9 ((lw_lt _ _).mp q))).2.1) (by decide) (by decide) ?_
            show Steps p.tables e below (s₁.setTop (mkF m 41 #[.val (.int p1), .val (.int (3 : Int32))] [])) _
            refine XS.iloadN X0.here hx rfl (hb hby d1_41) rfl ?_
            show Steps p.tables e below (s₁.setTop (mkF m 42 #[.val (.int p1), .val (.int (3 : Int32))] [(.int (3 : Int32))])) _
            refine XS.bipush X0.here hx rfl (hb hby d1_42) ?_
            exact kt)
          have c44_63 : ¬ ((16 : Int32) < (3 : Int32)) := by decide
          obtain ⟨fs, hr, hrun, hended, hW, hsame⟩ := X0.leave (v := some (.int (3 : Int32))) (fun h => by rw [Bd.returns] at h; cases h)
          refine ⟨_, _, pre0 _ (k64 _ ?_), hrun, hended, _, _, rfl, ?_, ⟨_, rfl⟩, hW, hsame.mono (by decide) (by decide)⟩
          · show Steps p.tables e below (s₁.setTop (mkF m 44 #[.val (.int p1), .val (.int (3 : Int32))] [(.int (16 : Int32)), (.int (3 : Int32))])) _
            refine XS.icmpYes X0.here hx rfl (pc0 := 44) (pc' := 67) rfl (hb hby d1_44) rfl (flt c44_63).2.2.2 (by decide) (by decide) ?_
            show Steps p.tables e below (s₁.setTop (mkF m 67 #[.val (.int p1), .val (.int (3 : Int32))] [])) _
            refine XS.iloadN X0.here hx rfl (hb hby d1_67) rfl ?_
            show Steps p.tables e below (s₁.setTop (mkF m 68 #[.val (.int p1), .val (.int (3 : Int32))] [(.int (3 : Int32))])) _
            exact retI X0 hx Bd.returns (hb hby d1_68) hr
          · show Q1 Z p1 h0 n0 _ s₁.heap _
            rw [e0]
            have hv : sp1 p1 = (3 : Int32) := by unfold sp1; rw [if_pos c32_3, if_pos c32_5, if_pos c32_7, if_neg c32_9]
            exact ⟨by rw [hv], N0, rfl⟩
      · have k66 : ∀ t, Steps p.tables e below (s₁.setTop (mkF m 44 #[.val (.int p1), .val (.int (2 : Int32))] [(.int (16 : Int32)), (.int (2 : Int32))])) t → Steps p.tables e below (s₁.setTop (mkF m 0 #[.val (.int p1), .unset] [])) t := fun t kt => k8 t (by
          show Steps p.tables e below (s₁.setTop (mkF m 32 #[.val (.int p1), .val (.int (2 : Int32))] [(.int (lcmpW ((1 : Int64) <<< ((2 : Int32) &&& 0x3f).toInt64) ((((2 : Int32).toInt64) + (p1.toInt64)) + (1 : Int64))))])) _
          refine XS.ifYes X0.here hx rfl (pc0 := 32) (pc' := 41) rfl (hb hby d1_32) rfl ((if0 _ _).trans (flt (fun q => c32_7 ((lw_lt _ _).mp q))).2.1) (by decide) (by decide) ?_
          show Steps p.tables e below (s₁.setTop (mkF m 41 #[.val (.int p1), .val (.int (2 : Int32))] [])) _
          refine XS.iloadN X0.here hx rfl (hb hby d1_41) rfl ?_
          show Steps p.tables e below (s₁.setTop (mkF m 42 #[.val (.int p1), .val (.int (2 : Int32))] [(.int (2 : Int32))])) _
          refine XS.bipush X0.here hx rfl (hb hby d1_42) ?_
          exact kt)
        have c44_65 : ¬ ((16 : Int32) < (2 : Int32)) := by decide
        obtain ⟨fs, hr, hrun, hended, hW, hsame⟩ := X0.leave (v := some (.int (2 : Int32))) (fun h => by rw [Bd.returns] at h; cases h)
        refine ⟨_, _, pre0 _ (k66 _ ?_), hrun, hended, _, _, rfl, ?_, ⟨_, rfl⟩, hW, hsame.mono (by decide) (by decide)⟩
        · show Steps p.tables e below (s₁.setTop (mkF m 44 #[.val (.int p1), .val (.int (2 : Int32))] [(.int (16 : Int32)), (.int (2 : Int32))])) _
          refine XS.icmpYes X0.here hx rfl (pc0 := 44) (pc' := 67) rfl (hb hby d1_44) rfl (flt c44_65).2.2.2 (by decide) (by decide) ?_
          show Steps p.tables e below (s₁.setTop (mkF m 67 #[.val (.int p1), .val (.int (2 : Int32))] [])) _
          refine XS.iloadN X0.here hx rfl (hb hby d1_67) rfl ?_
          show Steps p.tables e below (s₁.setTop (mkF m 68 #[.val (.int p1), .val (.int (2 : Int32))] [(.int (2 : Int32))])) _
          exact retI X0 hx Bd.returns (hb hby d1_68) hr
        · show Q1 Z p1 h0 n0 _ s₁.heap _
          rw [e0]
          have hv : sp1 p1 = (2 : Int32) := by unfold sp1; rw [if_pos c32_3, if_pos c32_5, if_neg c32_7]
          exact ⟨by rw [hv], N0, rfl⟩
    · have k68 : ∀ t, Steps p.tables e below (s₁.setTop (mkF m 44 #[.val (.int p1), .val (.int (1 : Int32))] [(.int (16 : Int32)), (.int (1 : Int32))])) t → Steps p.tables e below (s₁.setTop (mkF m 0 #[.val (.int p1), .unset] [])) t := fun t kt => k6 t (by
        show Steps p.tables e below (s₁.setTop (mkF m 32 #[.val (.int p1), .val (.int (1 : Int32))] [(.int (lcmpW ((1 : Int64) <<< ((1 : Int32) &&& 0x3f).toInt64) ((((1 : Int32).toInt64) + (p1.toInt64)) + (1 : Int64))))])) _
        refine XS.ifYes X0.here hx rfl (pc0 := 32) (pc' := 41) rfl (hb hby d1_32) rfl ((if0 _ _).trans (flt (fun q => c32_5 ((lw_lt _ _).mp q))).2.1) (by decide) (by decide) ?_
        show Steps p.tables e below (s₁.setTop (mkF m 41 #[.val (.int p1), .val (.int (1 : Int32))] [])) _
        refine XS.iloadN X0.here hx rfl (hb hby d1_41) rfl ?_
        show Steps p.tables e below (s₁.setTop (mkF m 42 #[.val (.int p1), .val (.int (1 : Int32))] [(.int (1 : Int32))])) _
        refine XS.bipush X0.here hx rfl (hb hby d1_42) ?_
        exact kt)
      have c44_67 : ¬ ((16 : Int32) < (1 : Int32)) := by decide
      obtain ⟨fs, hr, hrun, hended, hW, hsame⟩ := X0.leave (v := some (.int (1 : Int32))) (fun h => by rw [Bd.returns] at h; cases h)
      refine ⟨_, _, pre0 _ (k68 _ ?_), hrun, hended, _, _, rfl, ?_, ⟨_, rfl⟩, hW, hsame.mono (by decide) (by decide)⟩
      · show Steps p.tables e below (s₁.setTop (mkF m 44 #[.val (.int p1), .val (.int (1 : Int32))] [(.int (16 : Int32)), (.int (1 : Int32))])) _
        refine XS.icmpYes X0.here hx rfl (pc0 := 44) (pc' := 67) rfl (hb hby d1_44) rfl (flt c44_67).2.2.2 (by decide) (by decide) ?_
        show Steps p.tables e below (s₁.setTop (mkF m 67 #[.val (.int p1), .val (.int (1 : Int32))] [])) _
        refine XS.iloadN X0.here hx rfl (hb hby d1_67) rfl ?_
        show Steps p.tables e below (s₁.setTop (mkF m 68 #[.val (.int p1), .val (.int (1 : Int32))] [(.int (1 : Int32))])) _
        exact retI X0 hx Bd.returns (hb hby d1_68) hr
      · show Q1 Z p1 h0 n0 _ s₁.heap _
        rw [e0]
        have hv : sp1 p1 = (1 : Int32) := by unfold sp1; rw [if_pos c32_3, if_neg c32_5]
        exact ⟨by rw [hv], N0, rfl⟩
  · have k70 : ∀ t, Steps p.tables e below (s₁.setTop (mkF m 44 #[.val (.int p1), .val (.int (0 : Int32))] [(.int (16 : Int32)), (.int (0 : Int32))])) t → Steps p.tables e below (s₁.setTop (mkF m 0 #[.val (.int p1), .unset] [])) t := fun t kt => k4 t (by
      show Steps p.tables e below (s₁.setTop (mkF m 32 #[.val (.int p1), .val (.int (0 : Int32))] [(.int (lcmpW ((1 : Int64) <<< ((0 : Int32) &&& 0x3f).toInt64) ((((0 : Int32).toInt64) + (p1.toInt64)) + (1 : Int64))))])) _
      refine XS.ifYes X0.here hx rfl (pc0 := 32) (pc' := 41) rfl (hb hby d1_32) rfl ((if0 _ _).trans (flt (fun q => c32_3 ((lw_lt _ _).mp q))).2.1) (by decide) (by decide) ?_
      show Steps p.tables e below (s₁.setTop (mkF m 41 #[.val (.int p1), .val (.int (0 : Int32))] [])) _
      refine XS.iloadN X0.here hx rfl (hb hby d1_41) rfl ?_
      show Steps p.tables e below (s₁.setTop (mkF m 42 #[.val (.int p1), .val (.int (0 : Int32))] [(.int (0 : Int32))])) _
      refine XS.bipush X0.here hx rfl (hb hby d1_42) ?_
      exact kt)
    have c44_69 : ¬ ((16 : Int32) < (0 : Int32)) := by decide
    obtain ⟨fs, hr, hrun, hended, hW, hsame⟩ := X0.leave (v := some (.int (0 : Int32))) (fun h => by rw [Bd.returns] at h; cases h)
    refine ⟨_, _, pre0 _ (k70 _ ?_), hrun, hended, _, _, rfl, ?_, ⟨_, rfl⟩, hW, hsame.mono (by decide) (by decide)⟩
    · show Steps p.tables e below (s₁.setTop (mkF m 44 #[.val (.int p1), .val (.int (0 : Int32))] [(.int (16 : Int32)), (.int (0 : Int32))])) _
      refine XS.icmpYes X0.here hx rfl (pc0 := 44) (pc' := 67) rfl (hb hby d1_44) rfl (flt c44_69).2.2.2 (by decide) (by decide) ?_
      show Steps p.tables e below (s₁.setTop (mkF m 67 #[.val (.int p1), .val (.int (0 : Int32))] [])) _
      refine XS.iloadN X0.here hx rfl (hb hby d1_67) rfl ?_
      show Steps p.tables e below (s₁.setTop (mkF m 68 #[.val (.int p1), .val (.int (0 : Int32))] [(.int (0 : Int32))])) _
      exact retI X0 hx Bd.returns (hb hby d1_68) hr
    · show Q1 Z p1 h0 n0 _ s₁.heap _
      rw [e0]
      have hv : sp1 p1 = (0 : Int32) := by unfold sp1; rw [if_neg c32_3]
      exact ⟨by rw [hv], N0, rfl⟩
def Q0 (Z : State) (p1 : Int32) (h0 : Heap) (n0 : Nat) (v : Option Value) (h : Heap) (L : List Loc) : Prop := v = some (.int 1) ∧ Fr n0 L
set_option maxRecDepth 65536 in
set_option maxHeartbeats 40000000 in
theorem rm0 (l : Launch) (Z : State) (a0 : Array Value) (hw : ∀ d ∈ tables_1, d.before a0 Z = true) (ws : List Jvm.Cond) (p1 : Int32) (h0 : Heap) (n0 : Nat) (Z0 : n0 ≤ h0.size) :
    MetFree l x (head1 (Jvm.Cond.code x code maxLocals ret :: ws) room_1) (fun a U => a = #[(.int p1)] ∧ Z.Warmed39 U.vm ∧ U.heap = h0) (fun _ _ _ _ _ => True) (fun _ U o U' => ∃ v L, o = .returned v ∧ Q0 Z p1 h0 n0 v U'.heap L ∧ FrameEnd U o U' L room_1.cells room_1.slots) := by
  refine MetFree.of_bodySF (plainFor_of_name pn_0) hisR ?_
  intro p e s m args below meth c s₁ Bd hml0 hP hK
  obtain ⟨rfl, hZ, hh⟩ := hP
  have hx := Bd.exec
  have hby := Bd.bytes
  have hml : c.maxLocals = 7 := hml0
  have hown : s.vm.findClass "com/example/parity_lattice/paritylattice/PlainCodeCheckBitsForPinLaw" = some m.cls := findClass_of_methodNamed Bd.named
  have hnm := (name_of_methodNamed Bd.named Bd.method).1
  have X0 : Stand p l e room_1 s m #[(.int p1)] below meth c s₁ [] 0 0 := Stand.of_body Bd
  have e0 : s₁.heap = h0 := by rw [← hh, Bd.state]; rfl
  have N0 := Fr.nil n0
  have pre0 : ∀ t, Steps p.tables e below (s₁.setTop (mkF m 0 #[.val (.int p1), .unset, .unset, .unset, .unset, .unset, .unset] [])) t → Steps p.tables e below (s₁.setTop (entryFrame m #[(.int p1)] maxLocals)) t := fun t k => castTop (ef_0 m p1) k
  have pre1 : ∀ t, Steps p.tables e below (s₁.setTop (mkF m 0 #[.val (.int p1), .unset, .unset, .unset, .unset, .unset, .unset] [])) t → Steps p.tables e below (s₁.setTop (mkF m 0 #[.val (.int p1), .unset, .unset, .unset, .unset, .unset, .unset] [])) t := fun t k => k
  have k1 : ∀ t, Steps p.tables e below (s₁.setTop (mkF m 11 #[.val (.int p1), .val (.int (v0_9 p1)), .unset, .unset, .unset, .unset, .unset] [(.int (v0_9 p1))])) t → Steps p.tables e below (s₁.setTop (mkF m 0 #[.val (.int p1), .unset, .unset, .unset, .unset, .unset, .unset] [])) t := fun t kt => pre1 t (by
    show Steps p.tables e below (s₁.setTop (mkF m 0 #[.val (.int p1), .unset, .unset, .unset, .unset, .unset, .unset] [])) _
    refine XS.iconst X0.here hx rfl (hb hby at_0) ?_
    show Steps p.tables e below (s₁.setTop (mkF m 1 #[.val (.int p1), .unset, .unset, .unset, .unset, .unset, .unset] [(.int (1 : Int32))])) _
    refine XS.iloadN X0.here hx rfl (hb hby at_1) rfl ?_
    show Steps p.tables e below (s₁.setTop (mkF m 2 #[.val (.int p1), .unset, .unset, .unset, .unset, .unset, .unset] [(.int p1), (.int (1 : Int32))])) _
    refine X0.ldcInt hx hown (mvT hZ (hw _ (List.mem_of_getElem? (i := 0) rfl))) (g := (mkF m 2 #[.val (.int p1), .unset, .unset, .unset, .unset, .unset, .unset] [(.int p1), (.int (1 : Int32))])) rfl (hb hby at_2) _ ?_
    show Steps p.tables e below (s₁.setTop (mkF m 4 #[.val (.int p1), .unset, .unset, .unset, .unset, .unset, .unset] [(.int (2147483647 : Int32)), (.int p1), (.int (1 : Int32))])) _
    refine XS.iand X0.here hx rfl (hb hby at_4) rfl ?_
    show Steps p.tables e below (s₁.setTop (mkF m 5 #[.val (.int p1), .unset, .unset, .unset, .unset, .unset, .unset] [(.int (p1 &&& (2147483647 : Int32))), (.int (1 : Int32))])) _
    refine X0.ldcInt hx hown (mvT hZ (hw _ (List.mem_of_getElem? (i := 1) rfl))) (g := (mkF m 5 #[.val (.int p1), .unset, .unset, .unset, .unset, .unset, .unset] [(.int (p1 &&& (2147483647 : Int32))), (.int (1 : Int32))])) rfl (hb hby at_5) _ ?_
    show Steps p.tables e below (s₁.setTop (mkF m 7 #[.val (.int p1), .unset, .unset, .unset, .unset, .unset, .unset] [(.int (65519 : Int32)), (.int (p1 &&& (2147483647 : Int32))), (.int (1 : Int32))])) _
    refine iremM X0 hx rfl (hb hby at_7) rfl (by decide) ?_
    show Steps p.tables e below (s₁.setTop (mkF m 8 #[.val (.int p1), .unset, .unset, .unset, .unset, .unset, .unset] [(.int ((p1 &&& (2147483647 : Int32)) % (65519 : Int32))), (.int (1 : Int32))])) _
    refine XS.iadd X0.here hx rfl (hb hby at_8) rfl ?_
    show Steps p.tables e below (s₁.setTop (mkF m 9 #[.val (.int p1), .unset, .unset, .unset, .unset, .unset, .unset] [(.int ((1 : Int32) + ((p1 &&& (2147483647 : Int32)) % (65519 : Int32))))])) _
    refine XS.istoreN X0.here hx rfl (hb hby at_9) rfl (l' := #[.val (.int p1), .val (.int (v0_9 p1)), .unset, .unset, .unset, .unset, .unset]) rfl ?_
    show Steps p.tables e below (s₁.setTop (mkF m 10 #[.val (.int p1), .val (.int (v0_9 p1)), .unset, .unset, .unset, .unset, .unset] [])) _
    refine XS.iloadN X0.here hx rfl (hb hby at_10) rfl ?_
    exact kt)
  obtain ⟨_, _, ⟨T2, L2, k2', n2⟩, -, X2, ⟨Lc2, hQ2, l2, y2, z2⟩, st2⟩ := Jvm.LawKit.callS X0 hx (y := (⟨"com/example/parity_lattice/paritylattice/PlainCode", "checkBitsFor", "(I)I"⟩ : MethodName)) hown (mvT hZ (hw _ (List.mem_of_getElem? (i := 2) rfl))) (mvT hZ (hw _ (List.mem_of_getElem? (i := 3) rfl))) (mvT hZ (hw _ (List.mem_of_getElem? (i := 4) rfl))) (mvT hZ (hw _ (List.mem_of_getElem? (i := 5) rfl))) (by decide) (backOf (W := 0) (rm1 l Z a0 hw [] (v0_9 p1) h0 n0 Z0 (own_k1 p1) (own_k2 p1)) hZ (hw _ (List.mem_of_getElem? (i := 5) rfl)) (hw _ (List.mem_of_getElem? (i := 4) rfl)) (by decide) (by decide)) (g := (mkF m 11 #[.val (.int p1), .val (.int (v0_9 p1)), .unset, .unset, .unset, .unset, .unset] [(.int (v0_9 p1))])) rfl (by rw [hml]; rfl) (argsL := [(.int (v0_9 p1))]) (rest := []) (lenOf pd0_0 rfl) rfl (by show 2 * 0 + _ ≤ _; exact Nat.le_of_eq rfl) (hb hby at_11) (fun _ _ => ⟨rfl, e0, (by decide : 0 + 0 ≤ _), (by decide : 0 + 0 ≤ _)⟩)
  dsimp only [Pt.U, Pt.locs, Pt.cells, Pt.slots] at X2 l2 y2 z2 st2 hQ2
  subst l2 y2 z2
  obtain ⟨rfl, N2q, hh2⟩ := hQ2
  have N2 := Fr.app N0 N2q
  have k4 : ∀ t, Steps p.tables e below (T2.setTop (mkF m 17 #[.val (.int p1), .val (.int (v0_9 p1)), .val (.int (v0_14 p1)), .unset, .unset, .unset, .unset] [(.int (2 : Int32)), (.int (v0_14 p1))])) t → Steps p.tables e below (s₁.setTop (mkF m 0 #[.val (.int p1), .unset, .unset, .unset, .unset, .unset, .unset] [])) t := fun t kt => k1 t (by
    show Steps p.tables e below (s₁.setTop (mkF m 11 #[.val (.int p1), .val (.int (v0_9 p1)), .unset, .unset, .unset, .unset, .unset] [(.int (v0_9 p1))])) _
    refine st2 _ ?_
    show Steps p.tables e below (T2.setTop (mkF m 14 #[.val (.int p1), .val (.int (v0_9 p1)), .unset, .unset, .unset, .unset, .unset] [(.int (sp1 (v0_9 p1)))])) _
    refine XS.istoreN X2.here hx rfl (hb hby at_14) rfl (l' := #[.val (.int p1), .val (.int (v0_9 p1)), .val (.int (v0_14 p1)), .unset, .unset, .unset, .unset]) rfl ?_
    show Steps p.tables e below (T2.setTop (mkF m 15 #[.val (.int p1), .val (.int (v0_9 p1)), .val (.int (v0_14 p1)), .unset, .unset, .unset, .unset] [])) _
    refine XS.iloadN X2.here hx rfl (hb hby at_15) rfl ?_
    show Steps p.tables e below (T2.setTop (mkF m 16 #[.val (.int p1), .val (.int (v0_9 p1)), .val (.int (v0_14 p1)), .unset, .unset, .unset, .unset] [(.int (v0_14 p1))])) _
    refine XS.iconst X2.here hx rfl (hb hby at_16) ?_
    exact kt)
  by_cases c17_3 : (v0_14 p1) < (2 : Int32)
  · obtain ⟨fs, hr, hrun, hended, hW, hsame⟩ := X2.leave (v := some (.int (0 : Int32))) (fun h => by rw [Bd.returns] at h; cases h)
    refine ⟨_, _, pre0 _ (k4 _ ?_), hrun, hended, _, _, rfl, ?_, ⟨_, rfl⟩, hW, hsame.mono (by decide) (by decide)⟩
    · show Steps p.tables e below (T2.setTop (mkF m 17 #[.val (.int p1), .val (.int (v0_9 p1)), .val (.int (v0_14 p1)), .unset, .unset, .unset, .unset] [(.int (2 : Int32)), (.int (v0_14 p1))])) _
      refine XS.icmpYes X2.here hx rfl (pc0 := 17) (pc' := 26) rfl (hb hby at_17) rfl (tlt c17_3).1 (by decide) (by decide) ?_
      show Steps p.tables e below (T2.setTop (mkF m 26 #[.val (.int p1), .val (.int (v0_9 p1)), .val (.int (v0_14 p1)), .unset, .unset, .unset, .unset] [])) _
      refine XS.iconst X2.here hx rfl (hb hby at_26) ?_
      show Steps p.tables e below (T2.setTop (mkF m 27 #[.val (.int p1), .val (.int (v0_9 p1)), .val (.int (v0_14 p1)), .unset, .unset, .unset, .unset] [(.int (0 : Int32))])) _
      exact retN X2 hx (t := .boolean) Bd.returns (by simp) (hb hby at_27) hr
    · show Q0 Z p1 h0 n0 _ T2.heap _
      rw [hh2]
      have hv : sp0 p1 = (0 : Int32) := by unfold sp0; rw [if_pos c17_3]
      exact ⟨by rw [← hv, own_law p1], N2⟩
  · have k6 : ∀ t, Steps p.tables e below (T2.setTop (mkF m 23 #[.val (.int p1), .val (.int (v0_9 p1)), .val (.int (v0_14 p1)), .unset, .unset, .unset, .unset] [(.int (16 : Int32)), (.int (v0_14 p1))])) t → Steps p.tables e below (s₁.setTop (mkF m 0 #[.val (.int p1), .unset, .unset, .unset, .unset, .unset, .unset] [])) t := fun t kt => k4 t (by
      show Steps p.tables e below (T2.setTop (mkF m 17 #[.val (.int p1), .val (.int (v0_9 p1)), .val (.int (v0_14 p1)), .unset, .unset, .unset, .unset] [(.int (2 : Int32)), (.int (v0_14 p1))])) _
      refine XS.icmpNo X2.here hx rfl (hb hby at_17) rfl (flt c17_3).1 ?_
      show Steps p.tables e below (T2.setTop (mkF m 20 #[.val (.int p1), .val (.int (v0_9 p1)), .val (.int (v0_14 p1)), .unset, .unset, .unset, .unset] [])) _
      refine XS.iloadN X2.here hx rfl (hb hby at_20) rfl ?_
      show Steps p.tables e below (T2.setTop (mkF m 21 #[.val (.int p1), .val (.int (v0_9 p1)), .val (.int (v0_14 p1)), .unset, .unset, .unset, .unset] [(.int (v0_14 p1))])) _
      refine XS.bipush X2.here hx rfl (hb hby at_21) ?_
      exact kt)
    by_cases c23_5 : (16 : Int32) < (v0_14 p1)
    · obtain ⟨fs, hr, hrun, hended, hW, hsame⟩ := X2.leave (v := some (.int (0 : Int32))) (fun h => by rw [Bd.returns] at h; cases h)
      refine ⟨_, _, pre0 _ (k6 _ ?_), hrun, hended, _, _, rfl, ?_, ⟨_, rfl⟩, hW, hsame.mono (by decide) (by decide)⟩
      · show Steps p.tables e below (T2.setTop (mkF m 23 #[.val (.int p1), .val (.int (v0_9 p1)), .val (.int (v0_14 p1)), .unset, .unset, .unset, .unset] [(.int (16 : Int32)), (.int (v0_14 p1))])) _
        refine XS.icmpNo X2.here hx rfl (hb hby at_23) rfl (tlt c23_5).2.2.2 ?_
        show Steps p.tables e below (T2.setTop (mkF m 26 #[.val (.int p1), .val (.int (v0_9 p1)), .val (.int (v0_14 p1)), .unset, .unset, .unset, .unset] [])) _
        refine XS.iconst X2.here hx rfl (hb hby at_26) ?_
        show Steps p.tables e below (T2.setTop (mkF m 27 #[.val (.int p1), .val (.int (v0_9 p1)), .val (.int (v0_14 p1)), .unset, .unset, .unset, .unset] [(.int (0 : Int32))])) _
        exact retN X2 hx (t := .boolean) Bd.returns (by simp) (hb hby at_27) hr
      · show Q0 Z p1 h0 n0 _ T2.heap _
        rw [hh2]
        have hv : sp0 p1 = (0 : Int32) := by unfold sp0; rw [if_neg c17_3, if_pos c23_5]
        exact ⟨by rw [← hv, own_law p1], N2⟩
    · have k8 : ∀ t, Steps p.tables e below (T2.setTop (mkF m 41 #[.val (.int p1), .val (.int (v0_9 p1)), .val (.int (v0_14 p1)), .val (.long ((v0_9 p1).toInt64)), .second, .unset, .unset] [(.int (lcmpW ((1 : Int64) <<< ((v0_14 p1) &&& 0x3f).toInt64) ((((v0_14 p1).toInt64) + ((v0_9 p1).toInt64)) + (1 : Int64))))])) t → Steps p.tables e below (s₁.setTop (mkF m 0 #[.val (.int p1), .unset, .unset, .unset, .unset, .unset, .unset] [])) t := fun t kt => k6 t (by
        show Steps p.tables e below (T2.setTop (mkF m 23 #[.val (.int p1), .val (.int (v0_9 p1)), .val (.int (v0_14 p1)), .unset, .unset, .unset, .unset] [(.int (16 : Int32)), (.int (v0_14 p1))])) _
        refine XS.icmpYes X2.here hx rfl (pc0 := 23) (pc' := 28) rfl (hb hby at_23) rfl (flt c23_5).2.2.2 (by decide) (by decide) ?_
        show Steps p.tables e below (T2.setTop (mkF m 28 #[.val (.int p1), .val (.int (v0_9 p1)), .val (.int (v0_14 p1)), .unset, .unset, .unset, .unset] [])) _
        refine XS.iloadN X2.here hx rfl (hb hby at_28) rfl ?_
        show Steps p.tables e below (T2.setTop (mkF m 29 #[.val (.int p1), .val (.int (v0_9 p1)), .val (.int (v0_14 p1)), .unset, .unset, .unset, .unset] [(.int (v0_9 p1))])) _
        refine XS.i2l X2.here hx rfl (hb hby at_29) rfl ?_
        show Steps p.tables e below (T2.setTop (mkF m 30 #[.val (.int p1), .val (.int (v0_9 p1)), .val (.int (v0_14 p1)), .unset, .unset, .unset, .unset] [(.long ((v0_9 p1).toInt64))])) _
        refine XS.lstoreN X2.here hx rfl (hb hby at_30) rfl (l' := #[.val (.int p1), .val (.int (v0_9 p1)), .val (.int (v0_14 p1)), .val (.long ((v0_9 p1).toInt64)), .second, .unset, .unset]) rfl ?_
        show Steps p.tables e below (T2.setTop (mkF m 31 #[.val (.int p1), .val (.int (v0_9 p1)), .val (.int (v0_14 p1)), .val (.long ((v0_9 p1).toInt64)), .second, .unset, .unset] [])) _
        refine XS.lconst X2.here hx rfl (hb hby at_31) ?_
        show Steps p.tables e below (T2.setTop (mkF m 32 #[.val (.int p1), .val (.int (v0_9 p1)), .val (.int (v0_14 p1)), .val (.long ((v0_9 p1).toInt64)), .second, .unset, .unset] [(.long (1 : Int64))])) _
        refine XS.iloadN X2.here hx rfl (hb hby at_32) rfl ?_
        show Steps p.tables e below (T2.setTop (mkF m 33 #[.val (.int p1), .val (.int (v0_9 p1)), .val (.int (v0_14 p1)), .val (.long ((v0_9 p1).toInt64)), .second, .unset, .unset] [(.int (v0_14 p1)), (.long (1 : Int64))])) _
        refine XS.lshl X2.here hx rfl (hb hby at_33) rfl ?_
        show Steps p.tables e below (T2.setTop (mkF m 34 #[.val (.int p1), .val (.int (v0_9 p1)), .val (.int (v0_14 p1)), .val (.long ((v0_9 p1).toInt64)), .second, .unset, .unset] [(.long ((1 : Int64) <<< ((v0_14 p1) &&& 0x3f).toInt64))])) _
        refine XS.iloadN X2.here hx rfl (hb hby at_34) rfl ?_
        show Steps p.tables e below (T2.setTop (mkF m 35 #[.val (.int p1), .val (.int (v0_9 p1)), .val (.int (v0_14 p1)), .val (.long ((v0_9 p1).toInt64)), .second, .unset, .unset] [(.int (v0_14 p1)), (.long ((1 : Int64) <<< ((v0_14 p1) &&& 0x3f).toInt64))])) _
        refine XS.i2l X2.here hx rfl (hb hby at_35) rfl ?_
        show Steps p.tables e below (T2.setTop (mkF m 36 #[.val (.int p1), .val (.int (v0_9 p1)), .val (.int (v0_14 p1)), .val (.long ((v0_9 p1).toInt64)), .second, .unset, .unset] [(.long ((v0_14 p1).toInt64)), (.long ((1 : Int64) <<< ((v0_14 p1) &&& 0x3f).toInt64))])) _
        refine XS.lloadN X2.here hx rfl (hb hby at_36) rfl ?_
        show Steps p.tables e below (T2.setTop (mkF m 37 #[.val (.int p1), .val (.int (v0_9 p1)), .val (.int (v0_14 p1)), .val (.long ((v0_9 p1).toInt64)), .second, .unset, .unset] [(.long ((v0_9 p1).toInt64)), (.long ((v0_14 p1).toInt64)), (.long ((1 : Int64) <<< ((v0_14 p1) &&& 0x3f).toInt64))])) _
        refine XS.ladd X2.here hx rfl (hb hby at_37) rfl ?_
        show Steps p.tables e below (T2.setTop (mkF m 38 #[.val (.int p1), .val (.int (v0_9 p1)), .val (.int (v0_14 p1)), .val (.long ((v0_9 p1).toInt64)), .second, .unset, .unset] [(.long (((v0_14 p1).toInt64) + ((v0_9 p1).toInt64))), (.long ((1 : Int64) <<< ((v0_14 p1) &&& 0x3f).toInt64))])) _
        refine XS.lconst X2.here hx rfl (hb hby at_38) ?_
        show Steps p.tables e below (T2.setTop (mkF m 39 #[.val (.int p1), .val (.int (v0_9 p1)), .val (.int (v0_14 p1)), .val (.long ((v0_9 p1).toInt64)), .second, .unset, .unset] [(.long (1 : Int64)), (.long (((v0_14 p1).toInt64) + ((v0_9 p1).toInt64))), (.long ((1 : Int64) <<< ((v0_14 p1) &&& 0x3f).toInt64))])) _
        refine XS.ladd X2.here hx rfl (hb hby at_39) rfl ?_
        show Steps p.tables e below (T2.setTop (mkF m 40 #[.val (.int p1), .val (.int (v0_9 p1)), .val (.int (v0_14 p1)), .val (.long ((v0_9 p1).toInt64)), .second, .unset, .unset] [(.long ((((v0_14 p1).toInt64) + ((v0_9 p1).toInt64)) + (1 : Int64))), (.long ((1 : Int64) <<< ((v0_14 p1) &&& 0x3f).toInt64))])) _
        refine XS.lcmp X2.here hx rfl (hb hby at_40) rfl ?_
        exact kt)
      by_cases c41_7 : ((1 : Int64) <<< ((v0_14 p1) &&& 0x3f).toInt64) < ((((v0_14 p1).toInt64) + ((v0_9 p1).toInt64)) + (1 : Int64))
      · have k10 : ∀ t, Steps p.tables e below (T2.setTop (mkF m 65 #[.val (.int p1), .val (.int (v0_9 p1)), .val (.int (v0_14 p1)), .val (.long ((v0_9 p1).toInt64)), .second, .val (.int (0 : Int32)), .unset] [(.int (lcmpW ((1 : Int64) <<< (((v0_14 p1) - (1 : Int32)) &&& 0x3f).toInt64) (((((v0_14 p1) - (1 : Int32)).toInt64) + ((v0_9 p1).toInt64)) + (1 : Int64))))])) t → Steps p.tables e below (s₁.setTop (mkF m 0 #[.val (.int p1), .unset, .unset, .unset, .unset, .unset, .unset] [])) t := fun t kt => k8 t (by
          show Steps p.tables e below (T2.setTop (mkF m 41 #[.val (.int p1), .val (.int (v0_9 p1)), .val (.int (v0_14 p1)), .val (.long ((v0_9 p1).toInt64)), .second, .unset, .unset] [(.int (lcmpW ((1 : Int64) <<< ((v0_14 p1) &&& 0x3f).toInt64) ((((v0_14 p1).toInt64) + ((v0_9 p1).toInt64)) + (1 : Int64))))])) _
          refine XS.ifYes X2.here hx rfl (pc0 := 41) (pc' := 48) rfl (hb hby at_41) rfl ((if0 _ _).trans (tlt ((lw_lt _ _).mpr c41_7)).1) (by decide) (by decide) ?_
          show Steps p.tables e below (T2.setTop (mkF m 48 #[.val (.int p1), .val (.int (v0_9 p1)), .val (.int (v0_14 p1)), .val (.long ((v0_9 p1).toInt64)), .second, .unset, .unset] [])) _
          refine XS.iconst X2.here hx rfl (hb hby at_48) ?_
          show Steps p.tables e below (T2.setTop (mkF m 49 #[.val (.int p1), .val (.int (v0_9 p1)), .val (.int (v0_14 p1)), .val (.long ((v0_9 p1).toInt64)), .second, .unset, .unset] [(.int (0 : Int32))])) _
          refine XS.istore X2.here hx rfl (hb hby at_49) rfl (l' := #[.val (.int p1), .val (.int (v0_9 p1)), .val (.int (v0_14 p1)), .val (.long ((v0_9 p1).toInt64)), .second, .val (.int (0 : Int32)), .unset]) rfl ?_
          show Steps p.tables e below (T2.setTop (mkF m 51 #[.val (.int p1), .val (.int (v0_9 p1)), .val (.int (v0_14 p1)), .val (.long ((v0_9 p1).toInt64)), .second, .val (.int (0 : Int32)), .unset] [])) _
          refine XS.lconst X2.here hx rfl (hb hby at_51) ?_
          show Steps p.tables e below (T2.setTop (mkF m 52 #[.val (.int p1), .val (.int (v0_9 p1)), .val (.int (v0_14 p1)), .val (.long ((v0_9 p1).toInt64)), .second, .val (.int (0 : Int32)), .unset] [(.long (1 : Int64))])) _
          refine XS.iloadN X2.here hx rfl (hb hby at_52) rfl ?_
          show Steps p.tables e below (T2.setTop (mkF m 53 #[.val (.int p1), .val (.int (v0_9 p1)), .val (.int (v0_14 p1)), .val (.long ((v0_9 p1).toInt64)), .second, .val (.int (0 : Int32)), .unset] [(.int (v0_14 p1)), (.long (1 : Int64))])) _
          refine XS.iconst X2.here hx rfl (hb hby at_53) ?_
          show Steps p.tables e below (T2.setTop (mkF m 54 #[.val (.int p1), .val (.int (v0_9 p1)), .val (.int (v0_14 p1)), .val (.long ((v0_9 p1).toInt64)), .second, .val (.int (0 : Int32)), .unset] [(.int (1 : Int32)), (.int (v0_14 p1)), (.long (1 : Int64))])) _
          refine XS.isub X2.here hx rfl (hb hby at_54) rfl ?_
          show Steps p.tables e below (T2.setTop (mkF m 55 #[.val (.int p1), .val (.int (v0_9 p1)), .val (.int (v0_14 p1)), .val (.long ((v0_9 p1).toInt64)), .second, .val (.int (0 : Int32)), .unset] [(.int ((v0_14 p1) - (1 : Int32))), (.long (1 : Int64))])) _
          refine XS.lshl X2.here hx rfl (hb hby at_55) rfl ?_
          show Steps p.tables e below (T2.setTop (mkF m 56 #[.val (.int p1), .val (.int (v0_9 p1)), .val (.int (v0_14 p1)), .val (.long ((v0_9 p1).toInt64)), .second, .val (.int (0 : Int32)), .unset] [(.long ((1 : Int64) <<< (((v0_14 p1) - (1 : Int32)) &&& 0x3f).toInt64))])) _
          refine XS.iloadN X2.here hx rfl (hb hby at_56) rfl ?_
          show Steps p.tables e below (T2.setTop (mkF m 57 #[.val (.int p1), .val (.int (v0_9 p1)), .val (.int (v0_14 p1)), .val (.long ((v0_9 p1).toInt64)), .second, .val (.int (0 : Int32)), .unset] [(.int (v0_14 p1)), (.long ((1 : Int64) <<< (((v0_14 p1) - (1 : Int32)) &&& 0x3f).toInt64))])) _
          refine XS.iconst X2.here hx rfl (hb hby at_57) ?_
          show Steps p.tables e below (T2.setTop (mkF m 58 #[.val (.int p1), .val (.int (v0_9 p1)), .val (.int (v0_14 p1)), .val (.long ((v0_9 p1).toInt64)), .second, .val (.int (0 : Int32)), .unset] [(.int (1 : Int32)), (.int (v0_14 p1)), (.long ((1 : Int64) <<< (((v0_14 p1) - (1 : Int32)) &&& 0x3f).toInt64))])) _
          refine XS.isub X2.here hx rfl (hb hby at_58) rfl ?_
          show Steps p.tables e below (T2.setTop (mkF m 59 #[.val (.int p1), .val (.int (v0_9 p1)), .val (.int (v0_14 p1)), .val (.long ((v0_9 p1).toInt64)), .second, .val (.int (0 : Int32)), .unset] [(.int ((v0_14 p1) - (1 : Int32))), (.long ((1 : Int64) <<< (((v0_14 p1) - (1 : Int32)) &&& 0x3f).toInt64))])) _
          refine XS.i2l X2.here hx rfl (hb hby at_59) rfl ?_
          show Steps p.tables e below (T2.setTop (mkF m 60 #[.val (.int p1), .val (.int (v0_9 p1)), .val (.int (v0_14 p1)), .val (.long ((v0_9 p1).toInt64)), .second, .val (.int (0 : Int32)), .unset] [(.long (((v0_14 p1) - (1 : Int32)).toInt64)), (.long ((1 : Int64) <<< (((v0_14 p1) - (1 : Int32)) &&& 0x3f).toInt64))])) _
          refine XS.lloadN X2.here hx rfl (hb hby at_60) rfl ?_
          show Steps p.tables e below (T2.setTop (mkF m 61 #[.val (.int p1), .val (.int (v0_9 p1)), .val (.int (v0_14 p1)), .val (.long ((v0_9 p1).toInt64)), .second, .val (.int (0 : Int32)), .unset] [(.long ((v0_9 p1).toInt64)), (.long (((v0_14 p1) - (1 : Int32)).toInt64)), (.long ((1 : Int64) <<< (((v0_14 p1) - (1 : Int32)) &&& 0x3f).toInt64))])) _
          refine XS.ladd X2.here hx rfl (hb hby at_61) rfl ?_
          show Steps p.tables e below (T2.setTop (mkF m 62 #[.val (.int p1), .val (.int (v0_9 p1)), .val (.int (v0_14 p1)), .val (.long ((v0_9 p1).toInt64)), .second, .val (.int (0 : Int32)), .unset] [(.long ((((v0_14 p1) - (1 : Int32)).toInt64) + ((v0_9 p1).toInt64))), (.long ((1 : Int64) <<< (((v0_14 p1) - (1 : Int32)) &&& 0x3f).toInt64))])) _
          refine XS.lconst X2.here hx rfl (hb hby at_62) ?_
          show Steps p.tables e below (T2.setTop (mkF m 63 #[.val (.int p1), .val (.int (v0_9 p1)), .val (.int (v0_14 p1)), .val (.long ((v0_9 p1).toInt64)), .second, .val (.int (0 : Int32)), .unset] [(.long (1 : Int64)), (.long ((((v0_14 p1) - (1 : Int32)).toInt64) + ((v0_9 p1).toInt64))), (.long ((1 : Int64) <<< (((v0_14 p1) - (1 : Int32)) &&& 0x3f).toInt64))])) _
          refine XS.ladd X2.here hx rfl (hb hby at_63) rfl ?_
          show Steps p.tables e below (T2.setTop (mkF m 64 #[.val (.int p1), .val (.int (v0_9 p1)), .val (.int (v0_14 p1)), .val (.long ((v0_9 p1).toInt64)), .second, .val (.int (0 : Int32)), .unset] [(.long (((((v0_14 p1) - (1 : Int32)).toInt64) + ((v0_9 p1).toInt64)) + (1 : Int64))), (.long ((1 : Int64) <<< (((v0_14 p1) - (1 : Int32)) &&& 0x3f).toInt64))])) _
          refine XS.lcmp X2.here hx rfl (hb hby at_64) rfl ?_
          exact kt)
        by_cases c65_9 : ((1 : Int64) <<< (((v0_14 p1) - (1 : Int32)) &&& 0x3f).toInt64) < (((((v0_14 p1) - (1 : Int32)).toInt64) + ((v0_9 p1).toInt64)) + (1 : Int64))
        · have k12 : ∀ t, Steps p.tables e below (T2.setTop (mkF m 77 #[.val (.int p1), .val (.int (v0_9 p1)), .val (.int (v0_14 p1)), .val (.long ((v0_9 p1).toInt64)), .second, .val (.int (0 : Int32)), .val (.int (1 : Int32))] [(.int (0 : Int32))])) t → Steps p.tables e below (s₁.setTop (mkF m 0 #[.val (.int p1), .unset, .unset, .unset, .unset, .unset, .unset] [])) t := fun t kt => k10 t (by
            show Steps p.tables e below (T2.setTop (mkF m 65 #[.val (.int p1), .val (.int (v0_9 p1)), .val (.int (v0_14 p1)), .val (.long ((v0_9 p1).toInt64)), .second, .val (.int (0 : Int32)), .unset] [(.int (lcmpW ((1 : Int64) <<< (((v0_14 p1) - (1 : Int32)) &&& 0x3f).toInt64) (((((v0_14 p1) - (1 : Int32)).toInt64) + ((v0_9 p1).toInt64)) + (1 : Int64))))])) _
            refine XS.ifNo X2.here hx rfl (hb hby at_65) rfl ((if0 _ _).trans (tlt ((lw_lt _ _).mpr c65_9)).2.1) ?_
            show Steps p.tables e below (T2.setTop (mkF m 68 #[.val (.int p1), .val (.int (v0_9 p1)), .val (.int (v0_14 p1)), .val (.long ((v0_9 p1).toInt64)), .second, .val (.int (0 : Int32)), .unset] [])) _
            refine XS.iconst X2.here hx rfl (hb hby at_68) ?_
            show Steps p.tables e below (T2.setTop (mkF m 69 #[.val (.int p1), .val (.int (v0_9 p1)), .val (.int (v0_14 p1)), .val (.long ((v0_9 p1).toInt64)), .second, .val (.int (0 : Int32)), .unset] [(.int (1 : Int32))])) _
            refine XS.goto X2.here hx rfl (pc0 := 69) (pc' := 73) rfl (hb hby at_69) (by decide) (by decide) ?_
            show Steps p.tables e below (T2.setTop (mkF m 73 #[.val (.int p1), .val (.int (v0_9 p1)), .val (.int (v0_14 p1)), .val (.long ((v0_9 p1).toInt64)), .second, .val (.int (0 : Int32)), .unset] [(.int (1 : Int32))])) _
            refine XS.istore X2.here hx rfl (hb hby at_73) rfl (l' := #[.val (.int p1), .val (.int (v0_9 p1)), .val (.int (v0_14 p1)), .val (.long ((v0_9 p1).toInt64)), .second, .val (.int (0 : Int32)), .val (.int (1 : Int32))]) rfl ?_
            show Steps p.tables e below (T2.setTop (mkF m 75 #[.val (.int p1), .val (.int (v0_9 p1)), .val (.int (v0_14 p1)), .val (.long ((v0_9 p1).toInt64)), .second, .val (.int (0 : Int32)), .val (.int (1 : Int32))] [])) _
            refine XS.iload X2.here hx rfl (hb hby at_75) rfl ?_
            exact kt)
          have c77_11 : (0 : Int32) = (0 : Int32) := by decide
          obtain ⟨fs, hr, hrun, hended, hW, hsame⟩ := X2.leave (v := some (.int (0 : Int32))) (fun h => by rw [Bd.returns] at h; cases h)
          refine ⟨_, _, pre0 _ (k12 _ ?_), hrun, hended, _, _, rfl, ?_, ⟨_, rfl⟩, hW, hsame.mono (by decide) (by decide)⟩
          · show Steps p.tables e below (T2.setTop (mkF m 77 #[.val (.int p1), .val (.int (v0_9 p1)), .val (.int (v0_14 p1)), .val (.long ((v0_9 p1).toInt64)), .second, .val (.int (0 : Int32)), .val (.int (1 : Int32))] [(.int (0 : Int32))])) _
            refine XS.ifYes X2.here hx rfl (pc0 := 77) (pc' := 89) rfl (hb hby at_77) rfl ((if0 _ _).trans (teq c77_11).1) (by decide) (by decide) ?_
            show Steps p.tables e below (T2.setTop (mkF m 89 #[.val (.int p1), .val (.int (v0_9 p1)), .val (.int (v0_14 p1)), .val (.long ((v0_9 p1).toInt64)), .second, .val (.int (0 : Int32)), .val (.int (1 : Int32))] [])) _
            refine XS.iconst X2.here hx rfl (hb hby at_89) ?_
            show Steps p.tables e below (T2.setTop (mkF m 90 #[.val (.int p1), .val (.int (v0_9 p1)), .val (.int (v0_14 p1)), .val (.long ((v0_9 p1).toInt64)), .second, .val (.int (0 : Int32)), .val (.int (1 : Int32))] [(.int (0 : Int32))])) _
            exact retN X2 hx (t := .boolean) Bd.returns (by simp) (hb hby at_90) hr
          · show Q0 Z p1 h0 n0 _ T2.heap _
            rw [hh2]
            have hv : sp0 p1 = (0 : Int32) := by unfold sp0; rw [if_neg c17_3, if_neg c23_5, if_pos c41_7, if_pos c65_9]
            exact ⟨by rw [← hv, own_law p1], N2⟩
        · have k14 : ∀ t, Steps p.tables e below (T2.setTop (mkF m 77 #[.val (.int p1), .val (.int (v0_9 p1)), .val (.int (v0_14 p1)), .val (.long ((v0_9 p1).toInt64)), .second, .val (.int (0 : Int32)), .val (.int (0 : Int32))] [(.int (0 : Int32))])) t → Steps p.tables e below (s₁.setTop (mkF m 0 #[.val (.int p1), .unset, .unset, .unset, .unset, .unset, .unset] [])) t := fun t kt => k10 t (by
            show Steps p.tables e below (T2.setTop (mkF m 65 #[.val (.int p1), .val (.int (v0_9 p1)), .val (.int (v0_14 p1)), .val (.long ((v0_9 p1).toInt64)), .second, .val (.int (0 : Int32)), .unset] [(.int (lcmpW ((1 : Int64) <<< (((v0_14 p1) - (1 : Int32)) &&& 0x3f).toInt64) (((((v0_14 p1) - (1 : Int32)).toInt64) + ((v0_9 p1).toInt64)) + (1 : Int64))))])) _
            refine XS.ifYes X2.here hx rfl (pc0 := 65) (pc' := 72) rfl (hb hby at_65) rfl ((if0 _ _).trans (flt (fun q => c65_9 ((lw_lt _ _).mp q))).2.1) (by decide) (by decide) ?_
            show Steps p.tables e below (T2.setTop (mkF m 72 #[.val (.int p1), .val (.int (v0_9 p1)), .val (.int (v0_14 p1)), .val (.long ((v0_9 p1).toInt64)), .second, .val (.int (0 : Int32)), .unset] [])) _
            refine XS.iconst X2.here hx rfl (hb hby at_72) ?_
            show Steps p.tables e below (T2.setTop (mkF m 73 #[.val (.int p1), .val (.int (v0_9 p1)), .val (.int (v0_14 p1)), .val (.long ((v0_9 p1).toInt64)), .second, .val (.int (0 : Int32)), .unset] [(.int (0 : Int32))])) _
            refine XS.istore X2.here hx rfl (hb hby at_73) rfl (l' := #[.val (.int p1), .val (.int (v0_9 p1)), .val (.int (v0_14 p1)), .val (.long ((v0_9 p1).toInt64)), .second, .val (.int (0 : Int32)), .val (.int (0 : Int32))]) rfl ?_
            show Steps p.tables e below (T2.setTop (mkF m 75 #[.val (.int p1), .val (.int (v0_9 p1)), .val (.int (v0_14 p1)), .val (.long ((v0_9 p1).toInt64)), .second, .val (.int (0 : Int32)), .val (.int (0 : Int32))] [])) _
            refine XS.iload X2.here hx rfl (hb hby at_75) rfl ?_
            exact kt)
          have c77_13 : (0 : Int32) = (0 : Int32) := by decide
          obtain ⟨fs, hr, hrun, hended, hW, hsame⟩ := X2.leave (v := some (.int (0 : Int32))) (fun h => by rw [Bd.returns] at h; cases h)
          refine ⟨_, _, pre0 _ (k14 _ ?_), hrun, hended, _, _, rfl, ?_, ⟨_, rfl⟩, hW, hsame.mono (by decide) (by decide)⟩
          · show Steps p.tables e below (T2.setTop (mkF m 77 #[.val (.int p1), .val (.int (v0_9 p1)), .val (.int (v0_14 p1)), .val (.long ((v0_9 p1).toInt64)), .second, .val (.int (0 : Int32)), .val (.int (0 : Int32))] [(.int (0 : Int32))])) _
            refine XS.ifYes X2.here hx rfl (pc0 := 77) (pc' := 89) rfl (hb hby at_77) rfl ((if0 _ _).trans (teq c77_13).1) (by decide) (by decide) ?_
            show Steps p.tables e below (T2.setTop (mkF m 89 #[.val (.int p1), .val (.int (v0_9 p1)), .val (.int (v0_14 p1)), .val (.long ((v0_9 p1).toInt64)), .second, .val (.int (0 : Int32)), .val (.int (0 : Int32))] [])) _
            refine XS.iconst X2.here hx rfl (hb hby at_89) ?_
            show Steps p.tables e below (T2.setTop (mkF m 90 #[.val (.int p1), .val (.int (v0_9 p1)), .val (.int (v0_14 p1)), .val (.long ((v0_9 p1).toInt64)), .second, .val (.int (0 : Int32)), .val (.int (0 : Int32))] [(.int (0 : Int32))])) _
            exact retN X2 hx (t := .boolean) Bd.returns (by simp) (hb hby at_90) hr
          · show Q0 Z p1 h0 n0 _ T2.heap _
            rw [hh2]
            have hv : sp0 p1 = (0 : Int32) := by unfold sp0; rw [if_neg c17_3, if_neg c23_5, if_pos c41_7, if_neg c65_9]
            exact ⟨by rw [← hv, own_law p1], N2⟩
      · have k16 : ∀ t, Steps p.tables e below (T2.setTop (mkF m 65 #[.val (.int p1), .val (.int (v0_9 p1)), .val (.int (v0_14 p1)), .val (.long ((v0_9 p1).toInt64)), .second, .val (.int (1 : Int32)), .unset] [(.int (lcmpW ((1 : Int64) <<< (((v0_14 p1) - (1 : Int32)) &&& 0x3f).toInt64) (((((v0_14 p1) - (1 : Int32)).toInt64) + ((v0_9 p1).toInt64)) + (1 : Int64))))])) t → Steps p.tables e below (s₁.setTop (mkF m 0 #[.val (.int p1), .unset, .unset, .unset, .unset, .unset, .unset] [])) t := fun t kt => k8 t (by
          show Steps p.tables e below (T2.setTop (mkF m 41 #[.val (.int p1), .val (.int (v0_9 p1)), .val (.int (v0_14 p1)), .val (.long ((v0_9 p1).toInt64)), .second, .unset, .unset] [(.int (lcmpW ((1 : Int64) <<< ((v0_14 p1) &&& 0x3f).toInt64) ((((v0_14 p1).toInt64) + ((v0_9 p1).toInt64)) + (1 : Int64))))])) _
          refine XS.ifNo X2.here hx rfl (hb hby at_41) rfl ((if0 _ _).trans (flt (fun q => c41_7 ((lw_lt _ _).mp q))).1) ?_
          show Steps p.tables e below (T2.setTop (mkF m 44 #[.val (.int p1), .val (.int (v0_9 p1)), .val (.int (v0_14 p1)), .val (.long ((v0_9 p1).toInt64)), .second, .unset, .unset] [])) _
          refine XS.iconst X2.here hx rfl (hb hby at_44) ?_
          show Steps p.tables e below (T2.setTop (mkF m 45 #[.val (.int p1), .val (.int (v0_9 p1)), .val (.int (v0_14 p1)), .val (.long ((v0_9 p1).toInt64)), .second, .unset, .unset] [(.int (1 : Int32))])) _
          refine XS.goto X2.here hx rfl (pc0 := 45) (pc' := 49) rfl (hb hby at_45) (by decide) (by decide) ?_
          show Steps p.tables e below (T2.setTop (mkF m 49 #[.val (.int p1), .val (.int (v0_9 p1)), .val (.int (v0_14 p1)), .val (.long ((v0_9 p1).toInt64)), .second, .unset, .unset] [(.int (1 : Int32))])) _
          refine XS.istore X2.here hx rfl (hb hby at_49) rfl (l' := #[.val (.int p1), .val (.int (v0_9 p1)), .val (.int (v0_14 p1)), .val (.long ((v0_9 p1).toInt64)), .second, .val (.int (1 : Int32)), .unset]) rfl ?_
          show Steps p.tables e below (T2.setTop (mkF m 51 #[.val (.int p1), .val (.int (v0_9 p1)), .val (.int (v0_14 p1)), .val (.long ((v0_9 p1).toInt64)), .second, .val (.int (1 : Int32)), .unset] [])) _
          refine XS.lconst X2.here hx rfl (hb hby at_51) ?_
          show Steps p.tables e below (T2.setTop (mkF m 52 #[.val (.int p1), .val (.int (v0_9 p1)), .val (.int (v0_14 p1)), .val (.long ((v0_9 p1).toInt64)), .second, .val (.int (1 : Int32)), .unset] [(.long (1 : Int64))])) _
          refine XS.iloadN X2.here hx rfl (hb hby at_52) rfl ?_
          show Steps p.tables e below (T2.setTop (mkF m 53 #[.val (.int p1), .val (.int (v0_9 p1)), .val (.int (v0_14 p1)), .val (.long ((v0_9 p1).toInt64)), .second, .val (.int (1 : Int32)), .unset] [(.int (v0_14 p1)), (.long (1 : Int64))])) _
          refine XS.iconst X2.here hx rfl (hb hby at_53) ?_
          show Steps p.tables e below (T2.setTop (mkF m 54 #[.val (.int p1), .val (.int (v0_9 p1)), .val (.int (v0_14 p1)), .val (.long ((v0_9 p1).toInt64)), .second, .val (.int (1 : Int32)), .unset] [(.int (1 : Int32)), (.int (v0_14 p1)), (.long (1 : Int64))])) _
          refine XS.isub X2.here hx rfl (hb hby at_54) rfl ?_
          show Steps p.tables e below (T2.setTop (mkF m 55 #[.val (.int p1), .val (.int (v0_9 p1)), .val (.int (v0_14 p1)), .val (.long ((v0_9 p1).toInt64)), .second, .val (.int (1 : Int32)), .unset] [(.int ((v0_14 p1) - (1 : Int32))), (.long (1 : Int64))])) _
          refine XS.lshl X2.here hx rfl (hb hby at_55) rfl ?_
          show Steps p.tables e below (T2.setTop (mkF m 56 #[.val (.int p1), .val (.int (v0_9 p1)), .val (.int (v0_14 p1)), .val (.long ((v0_9 p1).toInt64)), .second, .val (.int (1 : Int32)), .unset] [(.long ((1 : Int64) <<< (((v0_14 p1) - (1 : Int32)) &&& 0x3f).toInt64))])) _
          refine XS.iloadN X2.here hx rfl (hb hby at_56) rfl ?_
          show Steps p.tables e below (T2.setTop (mkF m 57 #[.val (.int p1), .val (.int (v0_9 p1)), .val (.int (v0_14 p1)), .val (.long ((v0_9 p1).toInt64)), .second, .val (.int (1 : Int32)), .unset] [(.int (v0_14 p1)), (.long ((1 : Int64) <<< (((v0_14 p1) - (1 : Int32)) &&& 0x3f).toInt64))])) _
          refine XS.iconst X2.here hx rfl (hb hby at_57) ?_
          show Steps p.tables e below (T2.setTop (mkF m 58 #[.val (.int p1), .val (.int (v0_9 p1)), .val (.int (v0_14 p1)), .val (.long ((v0_9 p1).toInt64)), .second, .val (.int (1 : Int32)), .unset] [(.int (1 : Int32)), (.int (v0_14 p1)), (.long ((1 : Int64) <<< (((v0_14 p1) - (1 : Int32)) &&& 0x3f).toInt64))])) _
          refine XS.isub X2.here hx rfl (hb hby at_58) rfl ?_
          show Steps p.tables e below (T2.setTop (mkF m 59 #[.val (.int p1), .val (.int (v0_9 p1)), .val (.int (v0_14 p1)), .val (.long ((v0_9 p1).toInt64)), .second, .val (.int (1 : Int32)), .unset] [(.int ((v0_14 p1) - (1 : Int32))), (.long ((1 : Int64) <<< (((v0_14 p1) - (1 : Int32)) &&& 0x3f).toInt64))])) _
          refine XS.i2l X2.here hx rfl (hb hby at_59) rfl ?_
          show Steps p.tables e below (T2.setTop (mkF m 60 #[.val (.int p1), .val (.int (v0_9 p1)), .val (.int (v0_14 p1)), .val (.long ((v0_9 p1).toInt64)), .second, .val (.int (1 : Int32)), .unset] [(.long (((v0_14 p1) - (1 : Int32)).toInt64)), (.long ((1 : Int64) <<< (((v0_14 p1) - (1 : Int32)) &&& 0x3f).toInt64))])) _
          refine XS.lloadN X2.here hx rfl (hb hby at_60) rfl ?_
          show Steps p.tables e below (T2.setTop (mkF m 61 #[.val (.int p1), .val (.int (v0_9 p1)), .val (.int (v0_14 p1)), .val (.long ((v0_9 p1).toInt64)), .second, .val (.int (1 : Int32)), .unset] [(.long ((v0_9 p1).toInt64)), (.long (((v0_14 p1) - (1 : Int32)).toInt64)), (.long ((1 : Int64) <<< (((v0_14 p1) - (1 : Int32)) &&& 0x3f).toInt64))])) _
          refine XS.ladd X2.here hx rfl (hb hby at_61) rfl ?_
          show Steps p.tables e below (T2.setTop (mkF m 62 #[.val (.int p1), .val (.int (v0_9 p1)), .val (.int (v0_14 p1)), .val (.long ((v0_9 p1).toInt64)), .second, .val (.int (1 : Int32)), .unset] [(.long ((((v0_14 p1) - (1 : Int32)).toInt64) + ((v0_9 p1).toInt64))), (.long ((1 : Int64) <<< (((v0_14 p1) - (1 : Int32)) &&& 0x3f).toInt64))])) _
          refine XS.lconst X2.here hx rfl (hb hby at_62) ?_
          show Steps p.tables e below (T2.setTop (mkF m 63 #[.val (.int p1), .val (.int (v0_9 p1)), .val (.int (v0_14 p1)), .val (.long ((v0_9 p1).toInt64)), .second, .val (.int (1 : Int32)), .unset] [(.long (1 : Int64)), (.long ((((v0_14 p1) - (1 : Int32)).toInt64) + ((v0_9 p1).toInt64))), (.long ((1 : Int64) <<< (((v0_14 p1) - (1 : Int32)) &&& 0x3f).toInt64))])) _
          refine XS.ladd X2.here hx rfl (hb hby at_63) rfl ?_
          show Steps p.tables e below (T2.setTop (mkF m 64 #[.val (.int p1), .val (.int (v0_9 p1)), .val (.int (v0_14 p1)), .val (.long ((v0_9 p1).toInt64)), .second, .val (.int (1 : Int32)), .unset] [(.long (((((v0_14 p1) - (1 : Int32)).toInt64) + ((v0_9 p1).toInt64)) + (1 : Int64))), (.long ((1 : Int64) <<< (((v0_14 p1) - (1 : Int32)) &&& 0x3f).toInt64))])) _
          refine XS.lcmp X2.here hx rfl (hb hby at_64) rfl ?_
          exact kt)
        by_cases c65_15 : ((1 : Int64) <<< (((v0_14 p1) - (1 : Int32)) &&& 0x3f).toInt64) < (((((v0_14 p1) - (1 : Int32)).toInt64) + ((v0_9 p1).toInt64)) + (1 : Int64))
        · have k18 : ∀ t, Steps p.tables e below (T2.setTop (mkF m 77 #[.val (.int p1), .val (.int (v0_9 p1)), .val (.int (v0_14 p1)), .val (.long ((v0_9 p1).toInt64)), .second, .val (.int (1 : Int32)), .val (.int (1 : Int32))] [(.int (1 : Int32))])) t → Steps p.tables e below (s₁.setTop (mkF m 0 #[.val (.int p1), .unset, .unset, .unset, .unset, .unset, .unset] [])) t := fun t kt => k16 t (by
            show Steps p.tables e below (T2.setTop (mkF m 65 #[.val (.int p1), .val (.int (v0_9 p1)), .val (.int (v0_14 p1)), .val (.long ((v0_9 p1).toInt64)), .second, .val (.int (1 : Int32)), .unset] [(.int (lcmpW ((1 : Int64) <<< (((v0_14 p1) - (1 : Int32)) &&& 0x3f).toInt64) (((((v0_14 p1) - (1 : Int32)).toInt64) + ((v0_9 p1).toInt64)) + (1 : Int64))))])) _
            refine XS.ifNo X2.here hx rfl (hb hby at_65) rfl ((if0 _ _).trans (tlt ((lw_lt _ _).mpr c65_15)).2.1) ?_
            show Steps p.tables e below (T2.setTop (mkF m 68 #[.val (.int p1), .val (.int (v0_9 p1)), .val (.int (v0_14 p1)), .val (.long ((v0_9 p1).toInt64)), .second, .val (.int (1 : Int32)), .unset] [])) _
            refine XS.iconst X2.here hx rfl (hb hby at_68) ?_
            show Steps p.tables e below (T2.setTop (mkF m 69 #[.val (.int p1), .val (.int (v0_9 p1)), .val (.int (v0_14 p1)), .val (.long ((v0_9 p1).toInt64)), .second, .val (.int (1 : Int32)), .unset] [(.int (1 : Int32))])) _
            refine XS.goto X2.here hx rfl (pc0 := 69) (pc' := 73) rfl (hb hby at_69) (by decide) (by decide) ?_
            show Steps p.tables e below (T2.setTop (mkF m 73 #[.val (.int p1), .val (.int (v0_9 p1)), .val (.int (v0_14 p1)), .val (.long ((v0_9 p1).toInt64)), .second, .val (.int (1 : Int32)), .unset] [(.int (1 : Int32))])) _
            refine XS.istore X2.here hx rfl (hb hby at_73) rfl (l' := #[.val (.int p1), .val (.int (v0_9 p1)), .val (.int (v0_14 p1)), .val (.long ((v0_9 p1).toInt64)), .second, .val (.int (1 : Int32)), .val (.int (1 : Int32))]) rfl ?_
            show Steps p.tables e below (T2.setTop (mkF m 75 #[.val (.int p1), .val (.int (v0_9 p1)), .val (.int (v0_14 p1)), .val (.long ((v0_9 p1).toInt64)), .second, .val (.int (1 : Int32)), .val (.int (1 : Int32))] [])) _
            refine XS.iload X2.here hx rfl (hb hby at_75) rfl ?_
            exact kt)
          have c77_17 : ¬ ((1 : Int32) = (0 : Int32)) := by decide
          have k20 : ∀ t, Steps p.tables e below (T2.setTop (mkF m 82 #[.val (.int p1), .val (.int (v0_9 p1)), .val (.int (v0_14 p1)), .val (.long ((v0_9 p1).toInt64)), .second, .val (.int (1 : Int32)), .val (.int (1 : Int32))] [(.int (1 : Int32))])) t → Steps p.tables e below (s₁.setTop (mkF m 0 #[.val (.int p1), .unset, .unset, .unset, .unset, .unset, .unset] [])) t := fun t kt => k18 t (by
            show Steps p.tables e below (T2.setTop (mkF m 77 #[.val (.int p1), .val (.int (v0_9 p1)), .val (.int (v0_14 p1)), .val (.long ((v0_9 p1).toInt64)), .second, .val (.int (1 : Int32)), .val (.int (1 : Int32))] [(.int (1 : Int32))])) _
            refine XS.ifNo X2.here hx rfl (hb hby at_77) rfl ((if0 _ _).trans (feq c77_17).1) ?_
            show Steps p.tables e below (T2.setTop (mkF m 80 #[.val (.int p1), .val (.int (v0_9 p1)), .val (.int (v0_14 p1)), .val (.long ((v0_9 p1).toInt64)), .second, .val (.int (1 : Int32)), .val (.int (1 : Int32))] [])) _
            refine XS.iload X2.here hx rfl (hb hby at_80) rfl ?_
            exact kt)
          have c82_19 : ¬ ((1 : Int32) = (0 : Int32)) := by decide
          obtain ⟨fs, hr, hrun, hended, hW, hsame⟩ := X2.leave (v := some (.int (1 : Int32))) (fun h => by rw [Bd.returns] at h; cases h)
          refine ⟨_, _, pre0 _ (k20 _ ?_), hrun, hended, _, _, rfl, ?_, ⟨_, rfl⟩, hW, hsame.mono (by decide) (by decide)⟩
          · show Steps p.tables e below (T2.setTop (mkF m 82 #[.val (.int p1), .val (.int (v0_9 p1)), .val (.int (v0_14 p1)), .val (.long ((v0_9 p1).toInt64)), .second, .val (.int (1 : Int32)), .val (.int (1 : Int32))] [(.int (1 : Int32))])) _
            refine XS.ifNo X2.here hx rfl (hb hby at_82) rfl ((if0 _ _).trans (feq c82_19).1) ?_
            show Steps p.tables e below (T2.setTop (mkF m 85 #[.val (.int p1), .val (.int (v0_9 p1)), .val (.int (v0_14 p1)), .val (.long ((v0_9 p1).toInt64)), .second, .val (.int (1 : Int32)), .val (.int (1 : Int32))] [])) _
            refine XS.iconst X2.here hx rfl (hb hby at_85) ?_
            show Steps p.tables e below (T2.setTop (mkF m 86 #[.val (.int p1), .val (.int (v0_9 p1)), .val (.int (v0_14 p1)), .val (.long ((v0_9 p1).toInt64)), .second, .val (.int (1 : Int32)), .val (.int (1 : Int32))] [(.int (1 : Int32))])) _
            refine XS.goto X2.here hx rfl (pc0 := 86) (pc' := 90) rfl (hb hby at_86) (by decide) (by decide) ?_
            show Steps p.tables e below (T2.setTop (mkF m 90 #[.val (.int p1), .val (.int (v0_9 p1)), .val (.int (v0_14 p1)), .val (.long ((v0_9 p1).toInt64)), .second, .val (.int (1 : Int32)), .val (.int (1 : Int32))] [(.int (1 : Int32))])) _
            exact retN X2 hx (t := .boolean) Bd.returns (by simp) (hb hby at_90) hr
          · show Q0 Z p1 h0 n0 _ T2.heap _
            rw [hh2]
            have hv : sp0 p1 = (1 : Int32) := by unfold sp0; rw [if_neg c17_3, if_neg c23_5, if_neg c41_7, if_pos c65_15]
            exact ⟨by rw [← hv, own_law p1], N2⟩
        · have k22 : ∀ t, Steps p.tables e below (T2.setTop (mkF m 77 #[.val (.int p1), .val (.int (v0_9 p1)), .val (.int (v0_14 p1)), .val (.long ((v0_9 p1).toInt64)), .second, .val (.int (1 : Int32)), .val (.int (0 : Int32))] [(.int (1 : Int32))])) t → Steps p.tables e below (s₁.setTop (mkF m 0 #[.val (.int p1), .unset, .unset, .unset, .unset, .unset, .unset] [])) t := fun t kt => k16 t (by
            show Steps p.tables e below (T2.setTop (mkF m 65 #[.val (.int p1), .val (.int (v0_9 p1)), .val (.int (v0_14 p1)), .val (.long ((v0_9 p1).toInt64)), .second, .val (.int (1 : Int32)), .unset] [(.int (lcmpW ((1 : Int64) <<< (((v0_14 p1) - (1 : Int32)) &&& 0x3f).toInt64) (((((v0_14 p1) - (1 : Int32)).toInt64) + ((v0_9 p1).toInt64)) + (1 : Int64))))])) _
            refine XS.ifYes X2.here hx rfl (pc0 := 65) (pc' := 72) rfl (hb hby at_65) rfl ((if0 _ _).trans (flt (fun q => c65_15 ((lw_lt _ _).mp q))).2.1) (by decide) (by decide) ?_
            show Steps p.tables e below (T2.setTop (mkF m 72 #[.val (.int p1), .val (.int (v0_9 p1)), .val (.int (v0_14 p1)), .val (.long ((v0_9 p1).toInt64)), .second, .val (.int (1 : Int32)), .unset] [])) _
            refine XS.iconst X2.here hx rfl (hb hby at_72) ?_
            show Steps p.tables e below (T2.setTop (mkF m 73 #[.val (.int p1), .val (.int (v0_9 p1)), .val (.int (v0_14 p1)), .val (.long ((v0_9 p1).toInt64)), .second, .val (.int (1 : Int32)), .unset] [(.int (0 : Int32))])) _
            refine XS.istore X2.here hx rfl (hb hby at_73) rfl (l' := #[.val (.int p1), .val (.int (v0_9 p1)), .val (.int (v0_14 p1)), .val (.long ((v0_9 p1).toInt64)), .second, .val (.int (1 : Int32)), .val (.int (0 : Int32))]) rfl ?_
            show Steps p.tables e below (T2.setTop (mkF m 75 #[.val (.int p1), .val (.int (v0_9 p1)), .val (.int (v0_14 p1)), .val (.long ((v0_9 p1).toInt64)), .second, .val (.int (1 : Int32)), .val (.int (0 : Int32))] [])) _
            refine XS.iload X2.here hx rfl (hb hby at_75) rfl ?_
            exact kt)
          have c77_21 : ¬ ((1 : Int32) = (0 : Int32)) := by decide
          have k24 : ∀ t, Steps p.tables e below (T2.setTop (mkF m 82 #[.val (.int p1), .val (.int (v0_9 p1)), .val (.int (v0_14 p1)), .val (.long ((v0_9 p1).toInt64)), .second, .val (.int (1 : Int32)), .val (.int (0 : Int32))] [(.int (0 : Int32))])) t → Steps p.tables e below (s₁.setTop (mkF m 0 #[.val (.int p1), .unset, .unset, .unset, .unset, .unset, .unset] [])) t := fun t kt => k22 t (by
            show Steps p.tables e below (T2.setTop (mkF m 77 #[.val (.int p1), .val (.int (v0_9 p1)), .val (.int (v0_14 p1)), .val (.long ((v0_9 p1).toInt64)), .second, .val (.int (1 : Int32)), .val (.int (0 : Int32))] [(.int (1 : Int32))])) _
            refine XS.ifNo X2.here hx rfl (hb hby at_77) rfl ((if0 _ _).trans (feq c77_21).1) ?_
            show Steps p.tables e below (T2.setTop (mkF m 80 #[.val (.int p1), .val (.int (v0_9 p1)), .val (.int (v0_14 p1)), .val (.long ((v0_9 p1).toInt64)), .second, .val (.int (1 : Int32)), .val (.int (0 : Int32))] [])) _
            refine XS.iload X2.here hx rfl (hb hby at_80) rfl ?_
            exact kt)
          have c82_23 : (0 : Int32) = (0 : Int32) := by decide
          obtain ⟨fs, hr, hrun, hended, hW, hsame⟩ := X2.leave (v := some (.int (0 : Int32))) (fun h => by rw [Bd.returns] at h; cases h)
          refine ⟨_, _, pre0 _ (k24 _ ?_), hrun, hended, _, _, rfl, ?_, ⟨_, rfl⟩, hW, hsame.mono (by decide) (by decide)⟩
          · show Steps p.tables e below (T2.setTop (mkF m 82 #[.val (.int p1), .val (.int (v0_9 p1)), .val (.int (v0_14 p1)), .val (.long ((v0_9 p1).toInt64)), .second, .val (.int (1 : Int32)), .val (.int (0 : Int32))] [(.int (0 : Int32))])) _
            refine XS.ifYes X2.here hx rfl (pc0 := 82) (pc' := 89) rfl (hb hby at_82) rfl ((if0 _ _).trans (teq c82_23).1) (by decide) (by decide) ?_
            show Steps p.tables e below (T2.setTop (mkF m 89 #[.val (.int p1), .val (.int (v0_9 p1)), .val (.int (v0_14 p1)), .val (.long ((v0_9 p1).toInt64)), .second, .val (.int (1 : Int32)), .val (.int (0 : Int32))] [])) _
            refine XS.iconst X2.here hx rfl (hb hby at_89) ?_
            show Steps p.tables e below (T2.setTop (mkF m 90 #[.val (.int p1), .val (.int (v0_9 p1)), .val (.int (v0_14 p1)), .val (.long ((v0_9 p1).toInt64)), .second, .val (.int (1 : Int32)), .val (.int (0 : Int32))] [(.int (0 : Int32))])) _
            exact retN X2 hx (t := .boolean) Bd.returns (by simp) (hb hby at_90) hr
          · show Q0 Z p1 h0 n0 _ T2.heap _
            rw [hh2]
            have hv : sp0 p1 = (0 : Int32) := by unfold sp0; rw [if_neg c17_3, if_neg c23_5, if_neg c41_7, if_neg c65_15]
            exact ⟨by rw [← hv, own_law p1], N2⟩
set_option maxRecDepth 65536 in
set_option maxHeartbeats 40000000 in
theorem comes_1 {Post : Tables → Env → Array Value → State → Outcome → State → Prop} (hpost : ∀ tb e args s v u, (limb_1_1.after args s (.returned v) u = true ∧ limb_1_2.after args s (.returned v) u = true ∧ True) → FrameEnd s (.returned v) u (Jvm.fieldLocs frame_1_writes args s ++ Jvm.arrayLocs frame_1_arrays args s ++ Jvm.staticLocs frame_1_statics s) 0 0 → Post tb e args s (.returned v) u) :
    ArmFor flags0 classFile x code maxLocals ret World_1 tables_1 room_1 Calls_1 rest_1 Pre_1 Post := by
  intro l hfl _ _ p e ha hc hk s m args below hf hA hF happ hP
  obtain ⟨hcalls, hrest, hpre⟩ := hP
  obtain ⟨-, -, -, hnamed, -, -, -, hat⟩ := (Spec.applies_iff hf).mp happ
  obtain ⟨hg, hn⟩ := and_e (Cond.before_iff.mp (show (Jvm.Cond.and given_1 narrow_1).before args s = true from hpre))
  obtain ⟨g2, g3⟩ := and_e hg
  obtain ⟨w0, rfl⟩ : ∃ w0 : Value, args = #[w0] := by
    have hs : args.size = 1 := by simpa [Cond.value, given_1] using g2
    obtain ⟨L⟩ := args
    match L, hs with
    | [w0], _ => exact ⟨w0, rfl⟩
  have hw := fun d (hd : d ∈ tables_1) => atoms_spec (ws := Jvm.Cond.code x code maxLocals ret :: tables_1) hat d (List.mem_cons_of_mem _ hd)
  obtain ⟨i0, ei0⟩ := is_v g3
  obtain rfl : w0 = (.int i0) := Option.some.inj ei0
  obtain ⟨n, o, h1, h2, h3, _, L, rfl, ⟨rfl, N⟩, hq⟩ := rm0 l s _ hw tables_1 i0 s.heap s.heap.size (Nat.le_refl _) p e ha hc hk s m _ below hf ((Spec.applies_iff_loose hf).mp happ).1 ⟨rfl, State.Warmed39.refl s, rfl⟩ trivial
  refine ⟨n, _, h1, h2, h3, hpost _ _ _ _ _ _ ⟨Cond.after_iff.mpr rfl, Cond.after_iff.mpr (eq_i res_at (Term.int_eval (1)) rfl), trivial⟩ ⟨hq.1, hq.2.1, (hq.2.2.sift fun y hy => Or.inr (N y hy)).mono (by decide) (by decide)⟩⟩
theorem main_1_1 : Claimed_1_1 := comes_1 fun _ _ _ _ _ _ h hF => ⟨h.1, hF⟩
theorem main_1_2 : Claimed_1_2 := comes_1 fun _ _ _ _ _ _ h hF => ⟨h.2.1, hF⟩
end Jvm.Pilot.@@N@@
namespace Jvm.Pilot.@@N@@
open Jvm Jvm.ClassFile Sem Op Lib Jvm.Free Jvm.Stand Jvm.Pilot.@@N@@.Jvm.D
/-! MADE BY PROGRAM (witnessworld.py) out of the Statement's table words and the real class files: 10 classes; the members and pool entries that the words name. The judged class is class 1, her method 1. -/
namespace start1
open Jvm.ClassFile
def u (s : String) : CpInfo := .utf8 (stringToUtf16 s)
/-- a pool by its gaps: so many unusable entries, then the entry; so many at the end -/
def gap : Nat → List CpInfo → List CpInfo
  | 0, r => r
  | n + 1, r => .unusable :: gap n r
def poolList (es : List (Nat × CpInfo)) (last : Nat) : List CpInfo := es.foldr (fun e r => gap e.1 (e.2 :: r)) (gap last [])
def pool (es : List (Nat × CpInfo)) (last : Nat) : Array CpInfo := ⟨poolList es last⟩
def fileOf (pool : Array CpInfo) (this : Nat) (attrs : Array Attribute := #[]) (ms : Array MethodInfo := #[]) (fl : Nat := 33) (sup : Nat := 0) (ifs : Array Nat := #[]) (fds : Array FieldInfo := #[]) : ClassFile where
  minorVersion := 0
  majorVersion := 65
  constantPool := pool
  accessFlags := fl
  thisClass := this
  superClass := sup
  interfaces := ifs
  fields := fds
  methods := ms
  attributes := attrs
def plain (name : String) (sup : Option ClassId) : Class where
  name := name
  kind := .ordinary
  loader := none
  accessFlags := 33
  super := sup
  interfaces := #[]
  cf := none
  fields := #[]
  methods := #[]
  instanceTypes := #[]
  staticTypes := #[]
  resolved := #[]
  callSites := []
  init := .initialized
  statics := none
  mirror := none

def pool0 : Array CpInfo := pool [(5, u "<init>"), (0, u "()V"), (1, .class_ 10), (1, u "java/lang/Object")] 113

def k0m0 : Method := { name := "<init>", desc := "()V", sig := { parameters := [], returnType := none }, accessFlags := 1, code := none }
/-- java/lang/Object -/
def k0 : Class := { plain "java/lang/Object" none with
  accessFlags := 33
  interfaces := #[]
  cf := some (fileOf pool0 8 #[] #[{ accessFlags := 1, nameIndex := 5, descriptorIndex := 6, attributes := #[] }] 33 0 #[] #[])
  fields := #[]
  methods := #[k0m0]
  instanceTypes := #[]
  staticTypes := #[]
  resolved := Array.replicate 124 none
  statics := none }

def pool1 : Array CpInfo := pool [(2, .class_ 4), (1, u "java/lang/Object"), (0, u "<init>"), (0, u "()V"), (0, .integer 2147483647), (0, .integer 65519), (0, .methodref 10 11), (0, .class_ 12), (0, .nameAndType 13 14), (0, u "com/example/parity_lattice/paritylattice/PlainCode"), (0, u "checkBitsFor"), (0, u "(I)I"), (0, .class_ 16), (0, u "com/example/parity_lattice/paritylattice/PlainCodeCheckBitsForPinLaw"), (2, u "law"), (0, u "(I)Z")] 3

def k1m0 : Method := { name := "<init>", desc := "()V", sig := { parameters := [], returnType := none }, accessFlags := 1, code := none }
def k1c1 : Code := { maxStack := 6, maxLocals := 7, code := code, exceptionTable := #[], attributes := #[] }
def k1m1 : Method := { name := "law", desc := "(I)Z", sig := { parameters := [.int], returnType := some .boolean }, accessFlags := 9, code := some k1c1 }
/-- com/example/parity_lattice/paritylattice/PlainCodeCheckBitsForPinLaw -/
def k1 : Class := { plain "com/example/parity_lattice/paritylattice/PlainCodeCheckBitsForPinLaw" (some 0) with
  accessFlags := 49
  interfaces := #[]
  cf := some (fileOf pool1 15 #[] #[{ accessFlags := 1, nameIndex := 5, descriptorIndex := 6, attributes := #[] }, { accessFlags := 9, nameIndex := 19, descriptorIndex := 20, attributes := #[] }] 49 2 #[] #[])
  fields := #[]
  methods := #[k1m0, k1m1]
  instanceTypes := #[]
  staticTypes := #[]
  resolved := Array.replicate 24 none
  statics := none }

def pool2 : Array CpInfo := pool [(11, .class_ 12), (0, u "com/example/parity_lattice/paritylattice/BlockCode"), (0, .class_ 14), (0, u "java/lang/Object")] 39

/-- com/example/parity_lattice/paritylattice/BlockCode -/
def k2 : Class := { plain "com/example/parity_lattice/paritylattice/BlockCode" (some 0) with
  accessFlags := 1536
  interfaces := #[]
  cf := some (fileOf pool2 11 #[] #[] 1536 13 #[] #[])
  fields := #[]
  methods := #[]
  instanceTypes := #[]
  staticTypes := #[]
  resolved := Array.replicate 54 none
  statics := none }

def pool3 : Array CpInfo := pool [(2, .class_ 4), (1, u "java/lang/Object"), (3, .class_ 10), (1, u "com/example/parity_lattice/paritylattice/PlainCode"), (0, u "layout"), (0, u "Lcom/example/parity_lattice/paritylattice/Layout;"), (13, u "numbering"), (0, u "Lcom/example/parity_lattice/paritylattice/Numbering;"), (19, u "checkBitsFor"), (0, u "(I)I"), (63, .class_ 113), (0, u "com/example/parity_lattice/paritylattice/BlockCode")] 45

def k3c0 : Code := { maxStack := 6, maxLocals := 2, code := prog_25_method_4_code, exceptionTable := #[], attributes := #[] }
def k3m0 : Method := { name := "checkBitsFor", desc := "(I)I", sig := { parameters := [.int], returnType := some .int }, accessFlags := 8, code := some k3c0 }
/-- com/example/parity_lattice/paritylattice/PlainCode -/
def k3 : Class := { plain "com/example/parity_lattice/paritylattice/PlainCode" (some 0) with
  accessFlags := 48
  interfaces := #[2]
  cf := some (fileOf pool3 8 #[] #[{ accessFlags := 8, nameIndex := 47, descriptorIndex := 48, attributes := #[] }] 48 2 #[112] #[{ accessFlags := 18, nameIndex := 11, descriptorIndex := 12, attributes := #[] }, { accessFlags := 18, nameIndex := 26, descriptorIndex := 27, attributes := #[] }])
  fields := #[{ name := "layout", type := (.object "com/example/parity_lattice/paritylattice/Layout"), accessFlags := 18, slot := 0, constantValue := 0 }, { name := "numbering", type := (.object "com/example/parity_lattice/paritylattice/Numbering"), accessFlags := 18, slot := 1, constantValue := 0 }]
  methods := #[k3m0]
  instanceTypes := #[(.object "com/example/parity_lattice/paritylattice/Layout"), (.object "com/example/parity_lattice/paritylattice/Numbering")]
  staticTypes := #[]
  resolved := Array.replicate 159 none
  statics := none }

def pool4 : Array CpInfo := pool [(1, u "java/lang/Cloneable"), (0, .class_ 1), (0, u "java/lang/Object"), (0, .class_ 3)] 3

/-- java/lang/Cloneable -/
def k4 : Class := { plain "java/lang/Cloneable" (some 0) with
  accessFlags := 1537
  interfaces := #[]
  cf := some (fileOf pool4 2 #[] #[] 1537 4 #[] #[])
  fields := #[]
  methods := #[]
  instanceTypes := #[]
  staticTypes := #[]
  resolved := Array.replicate 8 none
  statics := none }

def pool5 : Array CpInfo := pool [(1, u "java/io/Serializable"), (0, .class_ 1), (0, u "java/lang/Object"), (0, .class_ 3)] 3

/-- java/io/Serializable -/
def k5 : Class := { plain "java/io/Serializable" (some 0) with
  accessFlags := 1537
  interfaces := #[]
  cf := some (fileOf pool5 2 #[] #[] 1537 4 #[] #[])
  fields := #[]
  methods := #[]
  instanceTypes := #[]
  staticTypes := #[]
  resolved := Array.replicate 8 none
  statics := none }

/-- the primitive byte -/
def k6 : Class := { plain "byte" none with kind := .primitive 'B', accessFlags := 0x411 }
/-- [B -/
def k7 : Class := { plain "[B" (some 0) with kind := .array 6 .byte, interfaces := #[4, 5], accessFlags := 1041 }

/-- the primitive int -/
def k8 : Class := { plain "int" none with kind := .primitive 'I', accessFlags := 0x411 }
/-- [I -/
def k9 : Class := { plain "[I" (some 0) with kind := .array 8 .int, interfaces := #[4, 5], accessFlags := 1041 }

def heap : Heap := #[]
def classes : Array Class := #[k0, k1, k2, k3, k4, k5, k6, k7, k8, k9]
def interned : List (Array UInt16 × Addr) := []
def slotsUsed : Nat := 0
def theMethod : MethodId := ⟨1, 1⟩
def args0 : Array Value := #[.int 5]
def aboutOver (below : List Frame) : State where
  vm := { classes := classes, interned := interned.toArray }
  heap := heap
  slotsUsed := slotsUsed
  threads := #[{ frames := .invoking theMethod args0 :: below }]
def below0 : List Frame := [.native { method := ⟨0, 0⟩, args := #[] }]
def about1 : State := aboutOver below0
def p0 : Program := .bare "" "" ""
def e0 : Env := launch0.env 0 0 0
theorem w_frames : about1.frames = Frame.invoking theMethod args0 :: below0 := rfl
set_option maxRecDepth 65536 in
theorem w_args : argsFit about1.vm theMethod args0 = true := by decide +kernel
set_option maxRecDepth 65536 in
theorem w_heap : heapFits about1 = true := by decide +kernel
set_option maxRecDepth 65536 in
theorem w_runnable : about1.curStatus? = some .runnable := by decide +kernel
set_option maxRecDepth 65536 in
theorem w_alone : about1.alone = true := by decide +kernel
set_option maxRecDepth 65536 in
theorem w_named : about1.methodNamed? x = some theMethod := by decide +kernel
set_option maxRecDepth 65536 in
theorem w_hears : about1.hears theMethod below0 = true := by decide +kernel
set_option maxRecDepth 65536 in
theorem w_ripe : about1.ripe theMethod args0 below0 = true := by decide +kernel
theorem w_running : about1.status = .running := rfl
set_option maxRecDepth 65536 in
theorem w_room : about1.hasRoom e0.platform room_1 = true :=
  launch0.hasRoom_least _ room_1 (by decide +kernel) (by decide +kernel) (by decide +kernel) (by decide +kernel) (by decide +kernel) (by decide +kernel)
theorem allAtoms_all (ts : List Jvm.Cond) (a : Array Jvm.Value) (st : Jvm.State) : (allAtoms ts).before a st = ts.all (fun c => c.before a st) := by
  induction ts with
  | nil => rfl
  | cons c t ih =>
    show (Jvm.Cond.and c (allAtoms t)).before a st = _
    rw [Jvm.Cond.before_and, ih, List.all_cons]
def words1 : List Jvm.Cond := Jvm.Cond.code x code maxLocals ret :: tables_1
/-- a 'code' word, met by the world's own term for the bytes: nothing is compared byte by byte -/
theorem code_word {y : MethodName} {bytes : ByteArray} {mx : Nat} {rt : Option FieldType} {a : Array Value} {s : State} {m : MethodId} {meth : Method} {c : Code} (h1 : s.methodNamed? y = some m) (h2 : s.vm.method? m = some meth) (h3 : meth.code = some c) (h4 : c.code = bytes)
    (h5 : (c.maxLocals == mx && c.exceptionTable.isEmpty && decide (c.maxStack ≤ mostOperands) && decide (meth.sig.returnType = rt) && !meth.locks && decide (parseMethodDescriptor y.desc = some meth.sig)) = true) : (Jvm.Cond.code y bytes mx rt).before a s = true := by
  simp only [Bool.and_eq_true, beq_iff_eq, Bool.not_eq_true', decide_eq_true_eq] at h5
  obtain ⟨⟨⟨⟨⟨g1, g2⟩, g3⟩, g4⟩, g5⟩, g6⟩ := h5
  simp [Cond.before, Cond.holds, Cond.value, h1, h2, h3, h4, g1, g2, g3, g4, g5, g6]
def isCode : Jvm.Cond → Bool
  | .code _ _ _ _ => true
  | _ => false
theorem all_split {L : List Jvm.Cond} {P : Jvm.Cond → Bool} (h1 : L.all (fun c => isCode c || P c) = true) (h2 : ∀ c ∈ L.filter isCode, P c = true) : L.all P = true := by
  refine List.all_eq_true.mpr fun c hc => ?_
  have h := List.all_eq_true.mp h1 c hc
  rcases Bool.eq_false_or_eq_true (isCode c) with hi | hi
  · exact h2 c (List.mem_filter.mpr ⟨hc, hi⟩)
  · simpa [hi] using h
set_option maxRecDepth 65536 in
theorem w_c0 : (Jvm.Cond.code x code maxLocals ret).before args0 about1 = true := code_word (m := ⟨1, 1⟩) (meth := k1m1) (c := k1c1) (by decide +kernel) rfl rfl rfl (by decide +kernel)
set_option maxRecDepth 65536 in
theorem w_c1 : (Jvm.Cond.code ({ cls := "com/example/parity_lattice/paritylattice/PlainCode", name := "checkBitsFor", desc := "(I)I" } : Jvm.MethodName) prog_25_method_4_code (2 : Nat) (Option.some Jvm.ClassFile.FieldType.int)).before args0 about1 = true := code_word (m := ⟨3, 0⟩) (meth := k3m0) (c := k3c0) (by decide +kernel) rfl rfl rfl (by decide +kernel)
def codes1 : List Jvm.Cond := [Jvm.Cond.code x code maxLocals ret, Jvm.Cond.code ({ cls := "com/example/parity_lattice/paritylattice/PlainCode", name := "checkBitsFor", desc := "(I)I" } : Jvm.MethodName) prog_25_method_4_code (2 : Nat) (Option.some Jvm.ClassFile.FieldType.int)]
set_option maxRecDepth 65536 in
theorem codes_eq : words1.filter isCode = codes1 := rfl
theorem w_codes : ∀ c ∈ words1.filter isCode, c.before args0 about1 = true := by
  rw [codes_eq]
  intro c hc
  simp only [codes1, List.mem_cons, List.not_mem_nil, or_false] at hc
  rcases hc with rfl | rfl
  · exact w_c0
  · exact w_c1
set_option maxRecDepth 65536 in
theorem w_t1 : words1.all (fun c => isCode c || c.before args0 about1) = true := by decide +kernel
theorem w_tables : (allAtoms (Jvm.Cond.code x code maxLocals ret :: tables_1)).before args0 about1 = true := by
  rw [allAtoms_all]
  show words1.all (fun c => c.before args0 about1) = true
  refine all_split ?_ w_codes
  rw [w_t1]
set_option maxRecDepth 65536 in
theorem w_case : (Jvm.Cond.and given_1 narrow_1).before args0 about1 = true := by decide +kernel
theorem w_applies : (headSpec (Jvm.Cond.code x code maxLocals ret :: tables_1) room_1).applies x e0.platform about1 = true :=
  (Spec.applies_iff w_frames).mpr ⟨w_running, w_runnable, w_alone, w_named, w_hears, w_ripe, w_room, w_tables⟩
theorem atStart : AtStart classFile x code maxLocals ret World_1 tables_1 room_1 Calls_1 rest_1 Pre_1 launch0 p0 e0 about1 theMethod args0 below0 :=
  ⟨lists_1, trivial, launch0.admits_env _ _ _, launch0.least_env, fairChoices_fair.cas, fairChoices_fair.clock, w_frames, w_args, w_heap, w_applies, trivial, trivial, w_case⟩
end start1
theorem witness_1 : WitnessClaimed_1 := ⟨start1.p0, start1.e0, start1.about1, start1.theMethod, start1.args0, start1.below0, start1.atStart⟩
end Jvm.Pilot.@@N@@
