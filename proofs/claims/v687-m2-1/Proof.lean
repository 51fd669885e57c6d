import JvmDerived
import JvmDerived.Pilot.@@N@@Statement
import JvmDerived.Pilot.@@N@@Code
set_option linter.unusedVariables false
set_option linter.unusedSimpArgs false
namespace Jvm.RoadKit
open Sem ClassFile Op Lib Jvm.Stand Jvm.Free Jvm.LawKit
section New
variable {p : Program} {l : Launch} {e : Env} {R : Room} {s : State} {m : MethodId} {args : Array Value} {below : List Frame} {meth : Method} {c : Code} {T : State} {locs : List Loc} {cells slots : Nat}
theorem retI (X : Stand p l e R s m args below meth c T locs cells slots) (hx : p.tables.exec = Jvm.exec) {pc : Nat} {Ls : Array Slot} {z : Int32} {rest : List Value} (hret : meth.sig.returnType = some .int) (hd : decode c.code pc = .ok (.ireturn, 1)) {fs : List Frame}
    (hl : ∀ (f : JFrame) (acts : List Action), f.method = m → f.locked = none → f.entered = [] → (doReturn e (T.setTop f) acts (some (.int z))).1 = T.setFrames fs) : Steps p.tables e below (T.setTop (mkF m pc Ls (.int z :: rest))) (T.setFrames fs) := by
  have hm' : T.vm.method? m = some meth := X.method'
  have hn : narrow .int (.int z) = .int z := rfl
  show Steps p.tables e below (T.setTop { method := m, pc := pc, locals := Ls, stack := _ :: rest, locked := none }) _
  jvm_step X.here [X.here.top, hx, hd, hm', hret, hn]
  first | (intro acts; rw [hl _ acts rfl rfl rfl]) | rw [hl _ _ rfl rfl rfl]
  exact Steps.refl _
end New
end Jvm.RoadKit
namespace Jvm.Pilot.@@N@@
open Jvm Jvm.ClassFile Sem Op Lib Jvm.Free Jvm.Stand Jvm.LawKit Jvm.RoadKit Bundle Jvm.Pilot.@@N@@.Jvm.D
theorem d1_0 : decode method_3_code 0 = .ok (.lload_n 0, 1) := by decide +kernel
theorem d1_1 : decode method_3_code 1 = .ok (.ldc2_w 25, 3) := by decide +kernel
theorem d1_4 : decode method_3_code 4 = .ok (.lcmp, 1) := by decide +kernel
theorem d1_5 : decode method_3_code 5 = .ok (.ifCond .ge 8, 3) := by decide +kernel
theorem d1_8 : decode method_3_code 8 = .ok (.iconst 1, 1) := by decide +kernel
theorem d1_9 : decode method_3_code 9 = .ok (.istore_n 2, 1) := by decide +kernel
theorem d1_10 : decode method_3_code 10 = .ok (.goto 86, 3) := by decide +kernel
theorem d1_13 : decode method_3_code 13 = .ok (.lload_n 0, 1) := by decide +kernel
theorem d1_14 : decode method_3_code 14 = .ok (.ldc2_w 27, 3) := by decide +kernel
theorem d1_17 : decode method_3_code 17 = .ok (.lcmp, 1) := by decide +kernel
theorem d1_18 : decode method_3_code 18 = .ok (.ifCond .ge 8, 3) := by decide +kernel
theorem d1_21 : decode method_3_code 21 = .ok (.iconst 2, 1) := by decide +kernel
theorem d1_22 : decode method_3_code 22 = .ok (.istore_n 2, 1) := by decide +kernel
theorem d1_23 : decode method_3_code 23 = .ok (.goto 73, 3) := by decide +kernel
theorem d1_26 : decode method_3_code 26 = .ok (.lload_n 0, 1) := by decide +kernel
theorem d1_27 : decode method_3_code 27 = .ok (.ldc2_w 29, 3) := by decide +kernel
theorem d1_30 : decode method_3_code 30 = .ok (.lcmp, 1) := by decide +kernel
theorem d1_31 : decode method_3_code 31 = .ok (.ifCond .ge 8, 3) := by decide +kernel
theorem d1_34 : decode method_3_code 34 = .ok (.iconst 3, 1) := by decide +kernel
theorem d1_35 : decode method_3_code 35 = .ok (.istore_n 2, 1) := by decide +kernel
theorem d1_36 : decode method_3_code 36 = .ok (.goto 60, 3) := by decide +kernel
theorem d1_39 : decode method_3_code 39 = .ok (.lload_n 0, 1) := by decide +kernel
theorem d1_40 : decode method_3_code 40 = .ok (.ldc2_w 31, 3) := by decide +kernel
theorem d1_43 : decode method_3_code 43 = .ok (.lcmp, 1) := by decide +kernel
theorem d1_44 : decode method_3_code 44 = .ok (.ifCond .ge 8, 3) := by decide +kernel
theorem d1_47 : decode method_3_code 47 = .ok (.iconst 4, 1) := by decide +kernel
theorem d1_48 : decode method_3_code 48 = .ok (.istore_n 2, 1) := by decide +kernel
theorem d1_49 : decode method_3_code 49 = .ok (.goto 47, 3) := by decide +kernel
theorem d1_52 : decode method_3_code 52 = .ok (.lload_n 0, 1) := by decide +kernel
theorem d1_53 : decode method_3_code 53 = .ok (.ldc2_w 33, 3) := by decide +kernel
theorem d1_56 : decode method_3_code 56 = .ok (.lcmp, 1) := by decide +kernel
theorem d1_57 : decode method_3_code 57 = .ok (.ifCond .ge 8, 3) := by decide +kernel
theorem d1_60 : decode method_3_code 60 = .ok (.iconst 5, 1) := by decide +kernel
theorem d1_61 : decode method_3_code 61 = .ok (.istore_n 2, 1) := by decide +kernel
theorem d1_62 : decode method_3_code 62 = .ok (.goto 34, 3) := by decide +kernel
theorem d1_65 : decode method_3_code 65 = .ok (.lload_n 0, 1) := by decide +kernel
theorem d1_66 : decode method_3_code 66 = .ok (.ldc2_w 35, 3) := by decide +kernel
theorem d1_69 : decode method_3_code 69 = .ok (.lcmp, 1) := by decide +kernel
theorem d1_70 : decode method_3_code 70 = .ok (.ifCond .ge 9, 3) := by decide +kernel
theorem d1_73 : decode method_3_code 73 = .ok (.bipush 6, 2) := by decide +kernel
theorem d1_75 : decode method_3_code 75 = .ok (.istore_n 2, 1) := by decide +kernel
theorem d1_76 : decode method_3_code 76 = .ok (.goto 20, 3) := by decide +kernel
theorem d1_79 : decode method_3_code 79 = .ok (.lload_n 0, 1) := by decide +kernel
theorem d1_80 : decode method_3_code 80 = .ok (.ldc2_w 37, 3) := by decide +kernel
theorem d1_83 : decode method_3_code 83 = .ok (.lcmp, 1) := by decide +kernel
theorem d1_84 : decode method_3_code 84 = .ok (.ifCond .ge 9, 3) := by decide +kernel
theorem d1_87 : decode method_3_code 87 = .ok (.bipush 7, 2) := by decide +kernel
theorem d1_89 : decode method_3_code 89 = .ok (.istore_n 2, 1) := by decide +kernel
theorem d1_90 : decode method_3_code 90 = .ok (.goto 6, 3) := by decide +kernel
theorem d1_93 : decode method_3_code 93 = .ok (.bipush 8, 2) := by decide +kernel
theorem d1_95 : decode method_3_code 95 = .ok (.istore_n 2, 1) := by decide +kernel
theorem d1_96 : decode method_3_code 96 = .ok (.iload_n 2, 1) := by decide +kernel
theorem d1_97 : decode method_3_code 97 = .ok (.ireturn, 1) := by decide +kernel
theorem pn_1 : plainName "com/example/terse_tree/tersetree/VarintEncodedWordPinLaw" = true := by first | (simp [plainName, overriddenIn]; done) | decide +kernel
theorem ef_1 (m : MethodId) (x0 : Int64) : entryFrame m #[(.long x0)] 3 = mkF m 0 #[.val (.long x0), .second, .unset] [] := by first | (simp [entryFrame, mkF, argsToLocals, Value.category]; done) | rfl
theorem d2_0 : decode method_4_code 0 = .ok (.lload_n 0, 1) := by decide +kernel
theorem d2_1 : decode method_4_code 1 = .ok (.bipush 7, 2) := by decide +kernel
theorem d2_3 : decode method_4_code 3 = .ok (.iload_n 2, 1) := by decide +kernel
theorem d2_4 : decode method_4_code 4 = .ok (.imul, 1) := by decide +kernel
theorem d2_5 : decode method_4_code 5 = .ok (.lushr, 1) := by decide +kernel
theorem d2_6 : decode method_4_code 6 = .ok (.ldc2_w 39, 3) := by decide +kernel
theorem d2_9 : decode method_4_code 9 = .ok (.land, 1) := by decide +kernel
theorem d2_10 : decode method_4_code 10 = .ok (.lstore 4, 2) := by decide +kernel
theorem d2_12 : decode method_4_code 12 = .ok (.iload_n 2, 1) := by decide +kernel
theorem d2_13 : decode method_4_code 13 = .ok (.iload_n 3, 1) := by decide +kernel
theorem d2_14 : decode method_4_code 14 = .ok (.iconst 1, 1) := by decide +kernel
theorem d2_15 : decode method_4_code 15 = .ok (.isub, 1) := by decide +kernel
theorem d2_16 : decode method_4_code 16 = .ok (.if_icmp .ge 11, 3) := by decide +kernel
theorem d2_19 : decode method_4_code 19 = .ok (.lload 4, 2) := by decide +kernel
theorem d2_21 : decode method_4_code 21 = .ok (.ldc2_w 25, 3) := by decide +kernel
theorem d2_24 : decode method_4_code 24 = .ok (.lor, 1) := by decide +kernel
theorem d2_25 : decode method_4_code 25 = .ok (.lstore 4, 2) := by decide +kernel
theorem d2_27 : decode method_4_code 27 = .ok (.lload 4, 2) := by decide +kernel
theorem d2_29 : decode method_4_code 29 = .ok (.bipush 8, 2) := by decide +kernel
theorem d2_31 : decode method_4_code 31 = .ok (.iload_n 2, 1) := by decide +kernel
theorem d2_32 : decode method_4_code 32 = .ok (.imul, 1) := by decide +kernel
theorem d2_33 : decode method_4_code 33 = .ok (.lshl, 1) := by decide +kernel
theorem d2_34 : decode method_4_code 34 = .ok (.lreturn, 1) := by decide +kernel
theorem pn_2 : plainName "com/example/terse_tree/tersetree/VarintEncodedWordPinLaw" = true := by first | (simp [plainName, overriddenIn]; done) | decide +kernel
theorem ef_2 (m : MethodId) (x0 : Int64) (x1 : Int32) (x2 : Int32) : entryFrame m #[(.long x0), (.int x1), (.int x2)] 6 = mkF m 0 #[.val (.long x0), .second, .val (.int x1), .val (.int x2), .unset, .unset] [] := by first | (simp [entryFrame, mkF, argsToLocals, Value.category]; done) | rfl
theorem d3_0 : decode prog_43_method_5_code 0 = .ok (.lload_n 0, 1) := by decide +kernel
theorem d3_1 : decode prog_43_method_5_code 1 = .ok (.ldc2_w 23, 3) := by decide +kernel
theorem d3_4 : decode prog_43_method_5_code 4 = .ok (.land, 1) := by decide +kernel
theorem d3_5 : decode prog_43_method_5_code 5 = .ok (.lload_n 0, 1) := by decide +kernel
theorem d3_6 : decode prog_43_method_5_code 6 = .ok (.ldc2_w 25, 3) := by decide +kernel
theorem d3_9 : decode prog_43_method_5_code 9 = .ok (.land, 1) := by decide +kernel
theorem d3_10 : decode prog_43_method_5_code 10 = .ok (.iconst 4, 1) := by decide +kernel
theorem d3_11 : decode prog_43_method_5_code 11 = .ok (.lshl, 1) := by decide +kernel
theorem d3_12 : decode prog_43_method_5_code 12 = .ok (.lor, 1) := by decide +kernel
theorem d3_13 : decode prog_43_method_5_code 13 = .ok (.lstore_n 3, 1) := by decide +kernel
theorem d3_14 : decode prog_43_method_5_code 14 = .ok (.lload_n 3, 1) := by decide +kernel
theorem d3_15 : decode prog_43_method_5_code 15 = .ok (.ldc2_w 27, 3) := by decide +kernel
theorem d3_18 : decode prog_43_method_5_code 18 = .ok (.land, 1) := by decide +kernel
theorem d3_19 : decode prog_43_method_5_code 19 = .ok (.lload_n 3, 1) := by decide +kernel
theorem d3_20 : decode prog_43_method_5_code 20 = .ok (.ldc2_w 29, 3) := by decide +kernel
theorem d3_23 : decode prog_43_method_5_code 23 = .ok (.land, 1) := by decide +kernel
theorem d3_24 : decode prog_43_method_5_code 24 = .ok (.iconst 2, 1) := by decide +kernel
theorem d3_25 : decode prog_43_method_5_code 25 = .ok (.lshl, 1) := by decide +kernel
theorem d3_26 : decode prog_43_method_5_code 26 = .ok (.lor, 1) := by decide +kernel
theorem d3_27 : decode prog_43_method_5_code 27 = .ok (.lstore 5, 2) := by decide +kernel
theorem d3_29 : decode prog_43_method_5_code 29 = .ok (.lload 5, 2) := by decide +kernel
theorem d3_31 : decode prog_43_method_5_code 31 = .ok (.ldc2_w 31, 3) := by decide +kernel
theorem d3_34 : decode prog_43_method_5_code 34 = .ok (.land, 1) := by decide +kernel
theorem d3_35 : decode prog_43_method_5_code 35 = .ok (.lload 5, 2) := by decide +kernel
theorem d3_37 : decode prog_43_method_5_code 37 = .ok (.ldc2_w 33, 3) := by decide +kernel
theorem d3_40 : decode prog_43_method_5_code 40 = .ok (.land, 1) := by decide +kernel
theorem d3_41 : decode prog_43_method_5_code 41 = .ok (.iconst 1, 1) := by decide +kernel
theorem d3_42 : decode prog_43_method_5_code 42 = .ok (.lshl, 1) := by decide +kernel
theorem d3_43 : decode prog_43_method_5_code 43 = .ok (.lor, 1) := by decide +kernel
theorem d3_44 : decode prog_43_method_5_code 44 = .ok (.lstore 7, 2) := by decide +kernel
theorem d3_46 : decode prog_43_method_5_code 46 = .ok (.lconst 1, 1) := by decide +kernel
theorem d3_47 : decode prog_43_method_5_code 47 = .ok (.bipush 8, 2) := by decide +kernel
theorem d3_49 : decode prog_43_method_5_code 49 = .ok (.iload_n 2, 1) := by decide +kernel
theorem d3_50 : decode prog_43_method_5_code 50 = .ok (.iconst 1, 1) := by decide +kernel
theorem d3_51 : decode prog_43_method_5_code 51 = .ok (.isub, 1) := by decide +kernel
theorem d3_52 : decode prog_43_method_5_code 52 = .ok (.imul, 1) := by decide +kernel
theorem d3_53 : decode prog_43_method_5_code 53 = .ok (.lshl, 1) := by decide +kernel
theorem d3_54 : decode prog_43_method_5_code 54 = .ok (.lconst 1, 1) := by decide +kernel
theorem d3_55 : decode prog_43_method_5_code 55 = .ok (.lsub, 1) := by decide +kernel
theorem d3_56 : decode prog_43_method_5_code 56 = .ok (.lstore 9, 2) := by decide +kernel
theorem d3_58 : decode prog_43_method_5_code 58 = .ok (.lload 7, 2) := by decide +kernel
theorem d3_60 : decode prog_43_method_5_code 60 = .ok (.ldc2_w 39, 3) := by decide +kernel
theorem d3_63 : decode prog_43_method_5_code 63 = .ok (.lload 9, 2) := by decide +kernel
theorem d3_65 : decode prog_43_method_5_code 65 = .ok (.land, 1) := by decide +kernel
theorem d3_66 : decode prog_43_method_5_code 66 = .ok (.lor, 1) := by decide +kernel
theorem d3_67 : decode prog_43_method_5_code 67 = .ok (.lreturn, 1) := by decide +kernel
theorem pn_3 : plainName "com/example/terse_tree/tersetree/Varint" = true := by first | (simp [plainName, overriddenIn]; done) | decide +kernel
theorem ef_3 (m : MethodId) (x0 : Int64) (x1 : Int32) : entryFrame m #[(.long x0), (.int x1)] 11 = mkF m 0 #[.val (.long x0), .second, .val (.int x1), .unset, .unset, .unset, .unset, .unset, .unset, .unset, .unset] [] := by first | (simp [entryFrame, mkF, argsToLocals, Value.category]; done) | rfl
theorem pn_0 : plainName "com/example/terse_tree/tersetree/VarintEncodedWordPinLaw" = true := by first | (simp [plainName, overriddenIn]; done) | decide +kernel
theorem pd0_0 : parseMethodDescriptor "(J)I" = some ⟨[.long], some .int⟩ := by decide +kernel
theorem pd0_1 : parseMethodDescriptor "(JII)J" = some ⟨[.long, .int, .int], some .long⟩ := by decide +kernel
theorem pd0_2 : parseMethodDescriptor "(JI)J" = some ⟨[.long, .int], some .long⟩ := by decide +kernel
theorem ef_0 (m : MethodId) (x0 : Int64) (x1 : Int32) : entryFrame m #[(.long x0), (.int x1)] maxLocals = mkF m 0 #[.val (.long x0), .second, .val (.int x1), .unset, .unset, .unset, .unset, .unset] [] := by first | (simp [entryFrame, mkF, argsToLocals, Value.category, maxLocals]; done) | rfl
def sp1 (p1 : Int64) : Int32 := (if p1 < (128 : Int64) then (1 : Int32) else (if p1 < (16384 : Int64) then (2 : Int32) else (if p1 < (2097152 : Int64) then (3 : Int32) else (if p1 < (268435456 : Int64) then (4 : Int32) else (if p1 < (34359738368 : Int64) then (5 : Int32) else (if p1 < (4398046511104 : Int64) then (6 : Int32) else (if p1 < (562949953421312 : Int64) then (7 : Int32) else (8 : Int32))))))))
def sp2 (p1 : Int64) (p2 : Int32) (p3 : Int32) : Int64 := (if p2 < (p3 - (1 : Int32)) then (((((p1.toUInt64 >>> (((7 : Int32) * p2) &&& 0x3f).toInt64.toUInt64).toInt64) &&& (127 : Int64)) ||| (128 : Int64)) <<< (((8 : Int32) * p2) &&& 0x3f).toInt64) else ((((p1.toUInt64 >>> (((7 : Int32) * p2) &&& 0x3f).toInt64.toUInt64).toInt64) &&& (127 : Int64)) <<< (((8 : Int32) * p2) &&& 0x3f).toInt64))
def v3_13 (p1 : Int64) (p2 : Int32) : Int64 := ((p1 &&& (268435455 : Int64)) ||| ((p1 &&& (72057593769492480 : Int64)) <<< ((4 : Int32) &&& 0x3f).toInt64))
def v3_27 (p1 : Int64) (p2 : Int32) : Int64 := (((v3_13 p1 p2) &&& (70364449226751 : Int64)) ||| (((v3_13 p1 p2) &&& (1152851136131088384 : Int64)) <<< ((2 : Int32) &&& 0x3f).toInt64))
def v3_44 (p1 : Int64) (p2 : Int32) : Int64 := (((v3_27 p1 p2) &&& (35747867511423103 : Int64)) ||| (((v3_27 p1 p2) &&& (4575727041462157184 : Int64)) <<< ((1 : Int32) &&& 0x3f).toInt64))
def v3_56 (p1 : Int64) (p2 : Int32) : Int64 := (((1 : Int64) <<< (((8 : Int32) * (p2 - (1 : Int32))) &&& 0x3f).toInt64) - (1 : Int64))
def sp3 (p1 : Int64) (p2 : Int32) : Int64 := ((v3_44 p1 p2) ||| ((-9187201950435737472 : Int64) &&& (v3_56 p1 p2)))
def v0_10 (p1 : Int64) (p2 : Int32) : Int64 := (((p1.toUInt64 >>> ((p2 &&& (63 : Int32)) &&& 0x3f).toInt64.toUInt64).toInt64) &&& (72057594037927935 : Int64))
def v0_15 (p1 : Int64) (p2 : Int32) : Int32 := (sp1 (v0_10 p1 p2))
def v0_82 (p1 : Int64) (p2 : Int32) : Int64 := ((((((((sp2 (v0_10 p1 p2) (0 : Int32) (v0_15 p1 p2)) ||| (sp2 (v0_10 p1 p2) (1 : Int32) (v0_15 p1 p2))) ||| (sp2 (v0_10 p1 p2) (2 : Int32) (v0_15 p1 p2))) ||| (sp2 (v0_10 p1 p2) (3 : Int32) (v0_15 p1 p2))) ||| (sp2 (v0_10 p1 p2) (4 : Int32) (v0_15 p1 p2))) ||| (sp2 (v0_10 p1 p2) (5 : Int32) (v0_15 p1 p2))) ||| (sp2 (v0_10 p1 p2) (6 : Int32) (v0_15 p1 p2))) ||| (sp2 (v0_10 p1 p2) (7 : Int32) (v0_15 p1 p2)))
def sp0 (p1 : Int64) (p2 : Int32) : Int32 := (if (sp3 (v0_10 p1 p2) (v0_15 p1 p2)) = (v0_82 p1 p2) then (1 : Int32) else (0 : Int32))
theorem own_fin (p : Int32) (n : Nat) (h0 : 0 ≤ p.toInt) (h1 : p.toInt < (n : Int)) : ∃ k : Fin n, p = Int32.ofNat k.val := by
  refine ⟨⟨p.toInt.toNat, by omega⟩, ?_⟩
  apply Int32.toInt_inj.mp
  have h2 := p.toInt_lt
  show p.toInt = (Int32.ofNat p.toInt.toNat).toInt
  rw [Int32.toInt_ofNat_of_lt (by omega)]
  omega
def own_lin (f : Int64 → Int64) : Prop := ∀ a b, f (a ||| b) = f a ||| f b
theorem own_i64 {a b : Int64} (h : ∀ i, i < 64 → a.toBitVec.getLsbD i = b.toBitVec.getLsbD i) : a = b :=
  Int64.toBitVec_inj.mp (BitVec.eq_of_getLsbD_eq h)
theorem own_lin_id : own_lin (fun x => x) := fun _ _ => rfl
theorem own_lin_const (c : Int64) : own_lin (fun _ => c) := fun _ _ => own_i64 fun i _ => by simp
theorem own_lin_and {f : Int64 → Int64} (h : own_lin f) (c : Int64) : own_lin (fun x => f x &&& c) := fun a b => by
  show f (a ||| b) &&& c = _
  rw [h a b]
  exact own_i64 fun i _ => by simp [Bool.and_or_distrib_right]
theorem own_lin_or {f g : Int64 → Int64} (h : own_lin f) (h' : own_lin g) : own_lin (fun x => f x ||| g x) := fun a b => by
  show f (a ||| b) ||| g (a ||| b) = _
  rw [h a b, h' a b]
  refine own_i64 fun i _ => ?_
  simp only [Int64.toBitVec_or, BitVec.getLsbD_or]
  cases (f a).toBitVec.getLsbD i <;> cases (f b).toBitVec.getLsbD i <;> cases (g a).toBitVec.getLsbD i <;> cases (g b).toBitVec.getLsbD i <;> rfl
theorem own_lin_shl {f : Int64 → Int64} (h : own_lin f) (s : Int64) : own_lin (fun x => f x <<< s) := fun a b => by
  show f (a ||| b) <<< s = _
  rw [h a b]
  refine own_i64 fun i hi => ?_
  simp [Int64.toBitVec_shiftLeft, hi, Bool.and_or_distrib_left]
theorem own_lin_ushr {f : Int64 → Int64} (h : own_lin f) (s : UInt64) : own_lin (fun x => ((f x).toUInt64 >>> s).toInt64) := fun a b => by
  show ((f (a ||| b)).toUInt64 >>> s).toInt64 = _
  rw [h a b]
  refine own_i64 fun i hi => ?_
  show (((f a ||| f b).toUInt64 >>> s).toBitVec).getLsbD i = _
  simp [UInt64.toBitVec_shiftRight]
theorem own_ext {f g : Int64 → Int64} (hf : own_lin f) (hg : own_lin g) (h0 : f 0 = g 0) (hb : ∀ i : Fin 64, f (Int64.ofBitVec (BitVec.twoPow 64 i.val)) = g (Int64.ofBitVec (BitVec.twoPow 64 i.val))) : ∀ w, f w = g w := by
  have key : ∀ n, n ≤ 64 → ∀ b : BitVec 64, (∀ i, n ≤ i → b.getLsbD i = false) → f (Int64.ofBitVec b) = g (Int64.ofBitVec b) := by
    intro n
    induction n with
    | zero =>
      intro _ b hz
      have e : b = 0#64 := BitVec.eq_of_getLsbD_eq fun i _ => by rw [hz i (Nat.zero_le _)]; simp
      subst e
      exact h0
    | succ n ih =>
      intro hn b hz
      by_cases hbit : b.getLsbD n = true
      · have e : b = (b &&& ~~~(BitVec.twoPow 64 n)) ||| BitVec.twoPow 64 n := BitVec.eq_of_getLsbD_eq fun i hi => by
          simp only [BitVec.getLsbD_or, BitVec.getLsbD_and, BitVec.getLsbD_not, BitVec.getLsbD_twoPow, hi, decide_true, Bool.true_and]
          by_cases q : n = i
          · subst q; simp [hbit, hi]
          · simp [q]
        have hc : ∀ i, n ≤ i → (b &&& ~~~(BitVec.twoPow 64 n)).getLsbD i = false := fun i hi => by
          simp only [BitVec.getLsbD_and, BitVec.getLsbD_not, BitVec.getLsbD_twoPow]
          by_cases q : n = i
          · subst q; simp <;> omega
          · rw [hz i (by omega)]; simp
        have e' : Int64.ofBitVec b = Int64.ofBitVec (b &&& ~~~(BitVec.twoPow 64 n)) ||| Int64.ofBitVec (BitVec.twoPow 64 n) := by
          refine Int64.toBitVec_inj.mp ?_
          exact e
        rw [e', hf, hg, ih (by omega) _ hc, hb ⟨n, by omega⟩]
      · exact ih (by omega) b fun i hi => by
          rcases Nat.eq_or_lt_of_le hi with rfl | h
          · simpa using hbit
          · exact hz i h
  intro w
  exact key 64 (Nat.le_refl _) w.toBitVec fun i hi => BitVec.getLsbD_of_ge _ _ hi
theorem own_l13 (L : Int32) : own_lin (fun w => v3_13 w L) := own_lin_or (own_lin_and own_lin_id _) (own_lin_shl (own_lin_and own_lin_id _) _)
theorem own_l27 (L : Int32) : own_lin (fun w => v3_27 w L) := own_lin_or (own_lin_and (own_l13 L) _) (own_lin_shl (own_lin_and (own_l13 L) _) _)
theorem own_l44 (L : Int32) : own_lin (fun w => v3_44 w L) := own_lin_or (own_lin_and (own_l27 L) _) (own_lin_shl (own_lin_and (own_l27 L) _) _)
def own_c (L : Int32) : Int64 := (-9187201950435737472 : Int64) &&& (((1 : Int64) <<< (((8 : Int32) * (L - (1 : Int32))) &&& 0x3f).toInt64) - (1 : Int64))
theorem own_lsp3 (L : Int32) : own_lin (fun w => sp3 w L) := own_lin_or (own_l44 L) (own_lin_const (own_c L))
theorem own_lsp2 (i L : Int32) : own_lin (fun w => sp2 w i L) := by
  by_cases h : i < L - 1
  · have e : (fun w => sp2 w i L) = fun w => (((((w.toUInt64 >>> (((7 : Int32) * i) &&& 0x3f).toInt64.toUInt64).toInt64) &&& (127 : Int64)) ||| (128 : Int64)) <<< (((8 : Int32) * i) &&& 0x3f).toInt64) := by funext w; unfold sp2; rw [if_pos h]
    rw [e]
    exact own_lin_shl (own_lin_or (own_lin_and (own_lin_ushr own_lin_id _) _) (own_lin_const _)) _
  · have e : (fun w => sp2 w i L) = fun w => ((((w.toUInt64 >>> (((7 : Int32) * i) &&& 0x3f).toInt64.toUInt64).toInt64) &&& (127 : Int64)) <<< (((8 : Int32) * i) &&& 0x3f).toInt64) := by funext w; unfold sp2; rw [if_neg h]
    rw [e]
    exact own_lin_shl (own_lin_and (own_lin_ushr own_lin_id _) _) _
def own_ex (w : Int64) (L : Int32) : Int64 := ((((((((sp2 w (0 : Int32) L) ||| (sp2 w (1 : Int32) L)) ||| (sp2 w (2 : Int32) L)) ||| (sp2 w (3 : Int32) L)) ||| (sp2 w (4 : Int32) L)) ||| (sp2 w (5 : Int32) L)) ||| (sp2 w (6 : Int32) L)) ||| (sp2 w (7 : Int32) L))
theorem own_lex (L : Int32) : own_lin (fun w => own_ex w L) :=
  own_lin_or (own_lin_or (own_lin_or (own_lin_or (own_lin_or (own_lin_or (own_lin_or (own_lsp2 0 L) (own_lsp2 1 L)) (own_lsp2 2 L)) (own_lsp2 3 L)) (own_lsp2 4 L)) (own_lsp2 5 L)) (own_lsp2 6 L)) (own_lsp2 7 L)
theorem own_zero : ∀ k : Fin 8, sp3 0 (Int32.ofNat k.val + 1) = own_ex 0 (Int32.ofNat k.val + 1) := by decide +kernel
theorem own_bits : ∀ k : Fin 8, ∀ i : Fin 64, sp3 (Int64.ofBitVec (BitVec.twoPow 64 i.val)) (Int32.ofNat k.val + 1) = own_ex (Int64.ofBitVec (BitVec.twoPow 64 i.val)) (Int32.ofNat k.val + 1) := by decide +kernel
theorem own_all (k : Fin 8) (w : Int64) : sp3 w (Int32.ofNat k.val + 1) = own_ex w (Int32.ofNat k.val + 1) :=
  own_ext (own_lsp3 _) (own_lex _) (own_zero k) (own_bits k) w
theorem own_len (w : Int64) : ∃ k : Fin 8, sp1 w = Int32.ofNat k.val + 1 := by
  unfold sp1
  split; · exact ⟨0, rfl⟩
  split; · exact ⟨1, rfl⟩
  split; · exact ⟨2, rfl⟩
  split; · exact ⟨3, rfl⟩
  split; · exact ⟨4, rfl⟩
  split; · exact ⟨5, rfl⟩
  split; · exact ⟨6, rfl⟩
  exact ⟨7, rfl⟩
theorem own_law (p1 : Int64) (p2 : Int32) : sp0 p1 p2 = 1 := by
  obtain ⟨k, hk⟩ := own_len (v0_10 p1 p2)
  have h15 : v0_15 p1 p2 = Int32.ofNat k.val + 1 := hk
  have h : sp3 (v0_10 p1 p2) (v0_15 p1 p2) = v0_82 p1 p2 := by
    unfold v0_82
    rw [h15]
    exact own_all k _
  unfold sp0
  rw [if_pos h]
def Q1 (Z : State) (p1 : Int64) (h0 : Heap) (n0 : Nat) (v : Option Value) (h : Heap) (L : List Loc) : Prop := v = some (.int (sp1 p1)) ∧ Fr n0 L ∧ h = h0
set_option maxRecDepth 65536 in
set_option maxHeartbeats 40000000 in
theorem rm1 (l : Launch) (Z : State) (a0 : Array Value) (hw : ∀ d ∈ tables_1, d.before a0 Z = true) (ws : List Jvm.Cond) (p1 : Int64) (h0 : Heap) (n0 : Nat) (Z0 : n0 ≤ h0.size) :
    MetFree l (⟨"com/example/terse_tree/tersetree/VarintEncodedWordPinLaw", "lengthOf", "(J)I"⟩ : MethodName) (head1 (Jvm.Cond.code (⟨"com/example/terse_tree/tersetree/VarintEncodedWordPinLaw", "lengthOf", "(J)I"⟩ : MethodName) method_3_code 3 (some .int) :: ws) ({ frames := 0, cells := 0, slots := 0, locals := 0 } : Room)) (fun a U => a = #[(.long p1)] ∧ Z.Warmed39 U.vm ∧ U.heap = h0) (fun _ _ _ _ _ => True) (fun _ U o U' => ∃ v L, o = .returned v ∧ Q1 Z p1 h0 n0 v U'.heap L ∧ FrameEnd U o U' L ({ frames := 0, cells := 0, slots := 0, locals := 0 } : Room).cells ({ frames := 0, cells := 0, slots := 0, locals := 0 } : Room).slots) := by
  refine MetFree.of_bodySF (plainFor_of_name pn_1) hisR ?_
  intro p e s m args below meth c s₁ Bd hml0 hP hK
  obtain ⟨rfl, hZ, hh⟩ := hP
  have hx := Bd.exec
  have hby := Bd.bytes
  have hml : c.maxLocals = 3 := hml0
  have hown : s.vm.findClass "com/example/terse_tree/tersetree/VarintEncodedWordPinLaw" = some m.cls := findClass_of_methodNamed Bd.named
  have hnm := (name_of_methodNamed Bd.named Bd.method).1
  have X0 : Stand p l e ({ frames := 0, cells := 0, slots := 0, locals := 0 } : Room) s m #[(.long p1)] below meth c s₁ [] 0 0 := Stand.of_body Bd
  have e0 : s₁.heap = h0 := by rw [← hh, Bd.state]; rfl
  have N0 := Fr.nil n0
  have pre0 : ∀ t, Steps p.tables e below (s₁.setTop (mkF m 0 #[.val (.long p1), .second, .unset] [])) t → Steps p.tables e below (s₁.setTop (entryFrame m #[(.long p1)] 3)) t := fun t k => castTop (ef_1 m p1) k
  have pre1 : ∀ t, Steps p.tables e below (s₁.setTop (mkF m 0 #[.val (.long p1), .second, .unset] [])) t → Steps p.tables e below (s₁.setTop (mkF m 0 #[.val (.long p1), .second, .unset] [])) t := fun t k => k
  have k2 : ∀ t, Steps p.tables e below (s₁.setTop (mkF m 5 #[.val (.long p1), .second, .unset] [(.int (lcmpW p1 (128 : Int64)))])) t → Steps p.tables e below (s₁.setTop (mkF m 0 #[.val (.long p1), .second, .unset] [])) t := fun t kt => pre1 t (by
    show Steps p.tables e below (s₁.setTop (mkF m 0 #[.val (.long p1), .second, .unset] [])) _
    refine XS.lloadN X0.here hx rfl (hb hby d1_0) rfl ?_
    show Steps p.tables e below (s₁.setTop (mkF m 1 #[.val (.long p1), .second, .unset] [(.long p1)])) _
    refine X0.ldc2Long hx hown (mvT hZ (hw _ (List.mem_of_getElem? (i := 5) rfl))) (g := (mkF m 1 #[.val (.long p1), .second, .unset] [(.long p1)])) rfl (hb hby d1_1) _ ?_
    show Steps p.tables e below (s₁.setTop (mkF m 4 #[.val (.long p1), .second, .unset] [(.long (128 : Int64)), (.long p1)])) _
    refine XS.lcmp X0.here hx rfl (hb hby d1_4) rfl ?_
    exact kt)
  by_cases c5_1 : p1 < (128 : Int64)
  · obtain ⟨fs, hr, hrun, hended, hW, hsame⟩ := X0.leave (v := some (.int (1 : Int32))) (fun h => by rw [Bd.returns] at h; cases h)
    refine ⟨_, _, pre0 _ (k2 _ ?_), hrun, hended, _, _, rfl, ?_, ⟨_, rfl⟩, hW, hsame.mono (by decide) (by decide)⟩
    · show Steps p.tables e below (s₁.setTop (mkF m 5 #[.val (.long p1), .second, .unset] [(.int (lcmpW p1 (128 : Int64)))])) _
      refine XS.ifNo X0.here hx rfl (hb hby d1_5) rfl ((if0 _ _).trans (tlt ((lw_lt _ _).mpr c5_1)).2.1) ?_
      show Steps p.tables e below (s₁.setTop (mkF m 8 #[.val (.long p1), .second, .unset] [])) _
      refine XS.iconst X0.here hx rfl (hb hby d1_8) ?_
      show Steps p.tables e below (s₁.setTop (mkF m 9 #[.val (.long p1), .second, .unset] [(.int (1 : Int32))])) _
      refine XS.istoreN X0.here hx rfl (hb hby d1_9) rfl (l' := #[.val (.long p1), .second, .val (.int (1 : Int32))]) rfl ?_
      show Steps p.tables e below (s₁.setTop (mkF m 10 #[.val (.long p1), .second, .val (.int (1 : Int32))] [])) _
      refine XS.goto X0.here hx rfl (pc0 := 10) (pc' := 96) rfl (hb hby d1_10) (by decide) (by decide) ?_
      show Steps p.tables e below (s₁.setTop (mkF m 96 #[.val (.long p1), .second, .val (.int (1 : Int32))] [])) _
      refine XS.iloadN X0.here hx rfl (hb hby d1_96) rfl ?_
      show Steps p.tables e below (s₁.setTop (mkF m 97 #[.val (.long p1), .second, .val (.int (1 : Int32))] [(.int (1 : Int32))])) _
      exact retI X0 hx Bd.returns (hb hby d1_97) hr
    · show Q1 Z p1 h0 n0 _ s₁.heap _
      rw [e0]
      have hv : sp1 p1 = (1 : Int32) := by unfold sp1; rw [if_pos c5_1]
      exact ⟨by rw [hv], N0, rfl⟩
  · have k4 : ∀ t, Steps p.tables e below (s₁.setTop (mkF m 18 #[.val (.long p1), .second, .unset] [(.int (lcmpW p1 (16384 : Int64)))])) t → Steps p.tables e below (s₁.setTop (mkF m 0 #[.val (.long p1), .second, .unset] [])) t := fun t kt => k2 t (by
      show Steps p.tables e below (s₁.setTop (mkF m 5 #[.val (.long p1), .second, .unset] [(.int (lcmpW p1 (128 : Int64)))])) _
      refine XS.ifYes X0.here hx rfl (pc0 := 5) (pc' := 13) rfl (hb hby d1_5) rfl ((if0 _ _).trans (flt (fun q => c5_1 ((lw_lt _ _).mp q))).2.1) (by decide) (by decide) ?_
      show Steps p.tables e below (s₁.setTop (mkF m 13 #[.val (.long p1), .second, .unset] [])) _
      refine XS.lloadN X0.here hx rfl (hb hby d1_13) rfl ?_
      show Steps p.tables e below (s₁.setTop (mkF m 14 #[.val (.long p1), .second, .unset] [(.long p1)])) _
      refine X0.ldc2Long hx hown (mvT hZ (hw _ (List.mem_of_getElem? (i := 21) rfl))) (g := (mkF m 14 #[.val (.long p1), .second, .unset] [(.long p1)])) rfl (hb hby d1_14) _ ?_
      show Steps p.tables e below (s₁.setTop (mkF m 17 #[.val (.long p1), .second, .unset] [(.long (16384 : Int64)), (.long p1)])) _
      refine XS.lcmp X0.here hx rfl (hb hby d1_17) rfl ?_
      exact kt)
    by_cases c18_3 : p1 < (16384 : Int64)
    · obtain ⟨fs, hr, hrun, hended, hW, hsame⟩ := X0.leave (v := some (.int (2 : Int32))) (fun h => by rw [Bd.returns] at h; cases h)
      refine ⟨_, _, pre0 _ (k4 _ ?_), hrun, hended, _, _, rfl, ?_, ⟨_, rfl⟩, hW, hsame.mono (by decide) (by decide)⟩
      · show Steps p.tables e below (s₁.setTop (mkF m 18 #[.val (.long p1), .second, .unset] [(.int (lcmpW p1 (16384 : Int64)))])) _
        refine XS.ifNo X0.here hx rfl (hb hby d1_18) rfl ((if0 _ _).trans (tlt ((lw_lt _ _).mpr c18_3)).2.1) ?_
        show Steps p.tables e below (s₁.setTop (mkF m 21 #[.val (.long p1), .second, .unset] [])) _
        refine XS.iconst X0.here hx rfl (hb hby d1_21) ?_
        show Steps p.tables e below (s₁.setTop (mkF m 22 #[.val (.long p1), .second, .unset] [(.int (2 : Int32))])) _
        refine XS.istoreN X0.here hx rfl (hb hby d1_22) rfl (l' := #[.val (.long p1), .second, .val (.int (2 : Int32))]) rfl ?_
        show Steps p.tables e below (s₁.setTop (mkF m 23 #[.val (.long p1), .second, .val (.int (2 : Int32))] [])) _
        refine XS.goto X0.here hx rfl (pc0 := 23) (pc' := 96) rfl (hb hby d1_23) (by decide) (by decide) ?_
        show Steps p.tables e below (s₁.setTop (mkF m 96 #[.val (.long p1), .second, .val (.int (2 : Int32))] [])) _
        refine XS.iloadN X0.here hx rfl (hb hby d1_96) rfl ?_
        show Steps p.tables e below (s₁.setTop (mkF m 97 #[.val (.long p1), .second, .val (.int (2 : Int32))] [(.int (2 : Int32))])) _
        exact retI X0 hx Bd.returns (hb hby d1_97) hr
      · show Q1 Z p1 h0 n0 _ s₁.heap _
        rw [e0]
        have hv : sp1 p1 = (2 : Int32) := by unfold sp1; rw [if_neg c5_1, if_pos c18_3]
        exact ⟨by rw [hv], N0, rfl⟩
    · have k6 : ∀ t, Steps p.tables e below (s₁.setTop (mkF m 31 #[.val (.long p1), .second, .unset] [(.int (lcmpW p1 (2097152 : Int64)))])) t → Steps p.tables e below (s₁.setTop (mkF m 0 #[.val (.long p1), .second, .unset] [])) t := fun t kt => k4 t (by
        show Steps p.tables e below (s₁.setTop (mkF m 18 #[.val (.long p1), .second, .unset] [(.int (lcmpW p1 (16384 : Int64)))])) _
        refine XS.ifYes X0.here hx rfl (pc0 := 18) (pc' := 26) rfl (hb hby d1_18) rfl ((if0 _ _).trans (flt (fun q => c18_3 ((lw_lt _ _).mp q))).2.1) (by decide) (by decide) ?_
        show Steps p.tables e below (s₁.setTop (mkF m 26 #[.val (.long p1), .second, .unset] [])) _
        refine XS.lloadN X0.here hx rfl (hb hby d1_26) rfl ?_
        show Steps p.tables e below (s₁.setTop (mkF m 27 #[.val (.long p1), .second, .unset] [(.long p1)])) _
        refine X0.ldc2Long hx hown (mvT hZ (hw _ (List.mem_of_getElem? (i := 22) rfl))) (g := (mkF m 27 #[.val (.long p1), .second, .unset] [(.long p1)])) rfl (hb hby d1_27) _ ?_
        show Steps p.tables e below (s₁.setTop (mkF m 30 #[.val (.long p1), .second, .unset] [(.long (2097152 : Int64)), (.long p1)])) _
        refine XS.lcmp X0.here hx rfl (hb hby d1_30) rfl ?_
        exact kt)
      by_cases c31_5 : p1 < (2097152 : Int64)
      · obtain ⟨fs, hr, hrun, hended, hW, hsame⟩ := X0.leave (v := some (.int (3 : Int32))) (fun h => by rw [Bd.returns] at h; cases h)
        refine ⟨_, _, pre0 _ (k6 _ ?_), hrun, hended, _, _, rfl, ?_, ⟨_, rfl⟩, hW, hsame.mono (by decide) (by decide)⟩
        · show Steps p.tables e below (s₁.setTop (mkF m 31 #[.val (.long p1), .second, .unset] [(.int (lcmpW p1 (2097152 : Int64)))])) _
          refine XS.ifNo X0.here hx rfl (hb hby d1_31) rfl ((if0 _ _).trans (tlt ((lw_lt _ _).mpr c31_5)).2.1) ?_
          show Steps p.tables e below (s₁.setTop (mkF m 34 #[.val (.long p1), .second, .unset] [])) _
          refine XS.iconst X0.here hx rfl (hb hby d1_34) ?_
          show Steps p.tables e below (s₁.setTop (mkF m 35 #[.val (.long p1), .second, .unset] [(.int (3 : Int32))])) _
          refine XS.istoreN X0.here hx rfl (hb hby d1_35) rfl (l' := #[.val (.long p1), .second, .val (.int (3 : Int32))]) rfl ?_
          show Steps p.tables e below (s₁.setTop (mkF m 36 #[.val (.long p1), .second, .val (.int (3 : Int32))] [])) _
          refine XS.goto X0.here hx rfl (pc0 := 36) (pc' := 96) rfl (hb hby d1_36) (by decide) (by decide) ?_
          show Steps p.tables e below (s₁.setTop (mkF m 96 #[.val (.long p1), .second, .val (.int (3 : Int32))] [])) _
          refine XS.iloadN X0.here hx rfl (hb hby d1_96) rfl ?_
          show Steps p.tables e below (s₁.setTop (mkF m 97 #[.val (.long p1), .second, .val (.int (3 : Int32))] [(.int (3 : Int32))])) _
          exact retI X0 hx Bd.returns (hb hby d1_97) hr
        · show Q1 Z p1 h0 n0 _ s₁.heap _
          rw [e0]
          have hv : sp1 p1 = (3 : Int32) := by unfold sp1; rw [if_neg c5_1, if_neg c18_3, if_pos c31_5]
          exact ⟨by rw [hv], N0, rfl⟩
      · have k8 : ∀ t, Steps p.tables e below (s₁.setTop (mkF m 44 #[.val (.long p1), .second, .unset] [(.int (lcmpW p1 (268435456 : Int64)))])) t → Steps p.tables e below (s₁.setTop (mkF m 0 #[.val (.long p1), .second, .unset] [])) t := fun t kt => k6 t (by
          show Steps p.tables e below (s₁.setTop (mkF m 31 #[.val (.long p1), .second, .unset] [(.int (lcmpW p1 (2097152 : Int64)))])) _
          refine XS.ifYes X0.here hx rfl (pc0 := 31) (pc' := 39) rfl (hb hby d1_31) rfl ((if0 _ _).trans (flt (fun q => c31_5 ((lw_lt _ _).mp q))).2.1) (by decide) (by decide) ?_
          show Steps p.tables e below (s₁.setTop (mkF m 39 #[.val (.long p1), .second, .unset] [])) _
          refine XS.lloadN X0.here hx rfl (hb hby d1_39) rfl ?_
          show Steps p.tables e below (s₁.setTop (mkF m 40 #[.val (.long p1), .second, .unset] [(.long p1)])) _
          refine X0.ldc2Long hx hown (mvT hZ (hw _ (List.mem_of_getElem? (i := 23) rfl))) (g := (mkF m 40 #[.val (.long p1), .second, .unset] [(.long p1)])) rfl (hb hby d1_40) _ ?_
          show Steps p.tables e below (s₁.setTop (mkF m 43 #[.val (.long p1), .second, .unset] [(.long (268435456 : Int64)), (.long p1)])) _
          refine XS.lcmp X0.here hx rfl (hb hby d1_43) rfl ?_
          exact kt)
        by_cases c44_7 : p1 < (268435456 : Int64)
        · obtain ⟨fs, hr, hrun, hended, hW, hsame⟩ := X0.leave (v := some (.int (4 : Int32))) (fun h => by rw [Bd.returns] at h; cases h)
          refine ⟨_, _, pre0 _ (k8 _ ?_), hrun, hended, _, _, rfl, ?_, ⟨_, rfl⟩, hW, hsame.mono (by decide) (by decide)⟩
          · show Steps p.tables e below (s₁.setTop (mkF m 44 #[.val (.long p1), .second, .unset] [(.int (lcmpW p1 (268435456 : Int64)))])) _
            refine XS.ifNo X0.here hx rfl (hb hby d1_44) rfl ((if0 _ _).trans (tlt ((lw_lt _ _).mpr c44_7)).2.1) ?_
            show Steps p.tables e below (s₁.setTop (mkF m 47 #[.val (.long p1), .second, .unset] [])) _
            refine XS.iconst X0.here hx rfl (hb hby d1_47) ?_
            show Steps p.tables e below (s₁.setTop (mkF m 48 #[.val (.long p1), .second, .unset] [(.int (4 : Int32))])) _
            refine XS.istoreN X0.here hx rfl (hb hby d1_48) rfl (l' := #[.val (.long p1), .second, .val (.int (4 : Int32))]) rfl ?_
            show Steps p.tables e below (s₁.setTop (mkF m 49 #[.val (.long p1), .second, .val (.int (4 : Int32))] [])) _
            refine XS.goto X0.here hx rfl (pc0 := 49) (pc' := 96) rfl (hb hby d1_49) (by decide) (by decide) ?_
            show Steps p.tables e below (s₁.setTop (mkF m 96 #[.val (.long p1), .second, .val (.int (4 : Int32))] [])) _
            refine XS.iloadN X0.here hx rfl (hb hby d1_96) rfl ?_
            show Steps p.tables e below (s₁.setTop (mkF m 97 #[.val (.long p1), .second, .val (.int (4 : Int32))] [(.int (4 : Int32))])) _
            exact retI X0 hx Bd.returns (hb hby d1_97) hr
          · show Q1 Z p1 h0 n0 _ s₁.heap _
            rw [e0]
            have hv : sp1 p1 = (4 : Int32) := by unfold sp1; rw [if_neg c5_1, if_neg c18_3, if_neg c31_5, if_pos c44_7]
            exact ⟨by rw [hv], N0, rfl⟩
        · have k10 : ∀ t, Steps p.tables e below (s₁.setTop (mkF m 57 #[.val (.long p1), .second, .unset] [(.int (lcmpW p1 (34359738368 : Int64)))])) t → Steps p.tables e below (s₁.setTop (mkF m 0 #[.val (.long p1), .second, .unset] [])) t := fun t kt => k8 t (by
            show Steps p.tables e below (s₁.setTop (mkF m 44 #[.val (.long p1), .second, .unset] [(.int (lcmpW p1 (268435456 : Int64)))])) _
            refine XS.ifYes X0.here hx rfl (pc0 := 44) (pc' := 52) rfl (hb hby d1_44) rfl ((if0 _ _).trans (flt (fun q => c44_7 ((lw_lt _ _).mp q))).2.1) (by decide) (by decide) ?_
            show Steps p.tables e below (s₁.setTop (mkF m 52 #[.val (.long p1), .second, .unset] [])) _
            refine XS.lloadN X0.here hx rfl (hb hby d1_52) rfl ?_
            show Steps p.tables e below (s₁.setTop (mkF m 53 #[.val (.long p1), .second, .unset] [(.long p1)])) _
            refine X0.ldc2Long hx hown (mvT hZ (hw _ (List.mem_of_getElem? (i := 24) rfl))) (g := (mkF m 53 #[.val (.long p1), .second, .unset] [(.long p1)])) rfl (hb hby d1_53) _ ?_
            show Steps p.tables e below (s₁.setTop (mkF m 56 #[.val (.long p1), .second, .unset] [(.long (34359738368 : Int64)), (.long p1)])) _
            refine XS.lcmp X0.here hx rfl (hb hby d1_56) rfl ?_
            exact kt)
          by_cases c57_9 : p1 < (34359738368 : Int64)
          · obtain ⟨fs, hr, hrun, hended, hW, hsame⟩ := X0.leave (v := some (.int (5 : Int32))) (fun h => by rw [Bd.returns] at h; cases h)
            refine ⟨_, _, pre0 _ (k10 _ ?_), hrun, hended, _, _, rfl, ?_, ⟨_, rfl⟩, hW, hsame.mono (by decide) (by decide)⟩
            · show Steps p.tables e below (s₁.setTop (mkF m 57 #[.val (.long p1), .second, .unset] [(.int (lcmpW p1 (34359738368 : Int64)))])) _
              refine XS.ifNo X0.here hx rfl (hb hby d1_57) rfl ((if0 _ _).trans (tlt ((lw_lt _ _).mpr c57_9)).2.1) ?_
              show Steps p.tables e below (s₁.setTop (mkF m 60 #[.val (.long p1), .second, .unset] [])) _
              refine XS.iconst X0.here hx rfl (hb hby d1_60) ?_
              show Steps p.tables e below (s₁.setTop (mkF m 61 #[.val (.long p1), .second, .unset] [(.int (5 : Int32))])) _
              refine XS.istoreN X0.here hx rfl (hb hby d1_61) rfl (l' := #[.val (.long p1), .second, .val (.int (5 : Int32))]) rfl ?_
              show Steps p.tables e below (s₁.setTop (mkF m 62 #[.val (.long p1), .second, .val (.int (5 : Int32))] [])) _
              refine XS.goto X0.here hx rfl (pc0 := 62) (pc' := 96) rfl (hb hby d1_62) (by decide) (by decide) ?_
              show Steps p.tables e below (s₁.setTop (mkF m 96 #[.val (.long p1), .second, .val (.int (5 : Int32))] [])) _
              refine XS.iloadN X0.here hx rfl (hb hby d1_96) rfl ?_
              show Steps p.tables e below (s₁.setTop (mkF m 97 #[.val (.long p1), .second, .val (.int (5 : Int32))] [(.int (5 : Int32))])) _
              exact retI X0 hx Bd.returns (hb hby d1_97) hr
            · show Q1 Z p1 h0 n0 _ s₁.heap _
              rw [e0]
              have hv : sp1 p1 = (5 : Int32) := by unfold sp1; rw [if_neg c5_1, if_neg c18_3, if_neg c31_5, if_neg c44_7, if_pos c57_9]
              exact ⟨by rw [hv], N0, rfl⟩
          · have k12 : ∀ t, Steps p.tables e below (s₁.setTop (mkF m 70 #[.val (.long p1), .second, .unset] [(.int (lcmpW p1 (4398046511104 : Int64)))])) t → Steps p.tables e below (s₁.setTop (mkF m 0 #[.val (.long p1), .second, .unset] [])) t := fun t kt => k10 t (by
              show Steps p.tables e below (s₁.setTop (mkF m 57 #[.val (.long p1), .second, .unset] [(.int (lcmpW p1 (34359738368 : Int64)))])) _
              refine XS.ifYes X0.here hx rfl (pc0 := 57) (pc' := 65) rfl (hb hby d1_57) rfl ((if0 _ _).trans (flt (fun q => c57_9 ((lw_lt _ _).mp q))).2.1) (by decide) (by decide) ?_
              show Steps p.tables e below (s₁.setTop (mkF m 65 #[.val (.long p1), .second, .unset] [])) _
              refine XS.lloadN X0.here hx rfl (hb hby d1_65) rfl ?_
              show Steps p.tables e below (s₁.setTop (mkF m 66 #[.val (.long p1), .second, .unset] [(.long p1)])) _
              refine X0.ldc2Long hx hown (mvT hZ (hw _ (List.mem_of_getElem? (i := 25) rfl))) (g := (mkF m 66 #[.val (.long p1), .second, .unset] [(.long p1)])) rfl (hb hby d1_66) _ ?_
              show Steps p.tables e below (s₁.setTop (mkF m 69 #[.val (.long p1), .second, .unset] [(.long (4398046511104 : Int64)), (.long p1)])) _
              refine XS.lcmp X0.here hx rfl (hb hby d1_69) rfl ?_
              exact kt)
            by_cases c70_11 : p1 < (4398046511104 : Int64)
            · obtain ⟨fs, hr, hrun, hended, hW, hsame⟩ := X0.leave (v := some (.int (6 : Int32))) (fun h => by rw [Bd.returns] at h; cases h)
              refine ⟨_, _, pre0 _ (k12 _ ?_), hrun, hended, _, _, rfl, ?_, ⟨_, rfl⟩, hW, hsame.mono (by decide) (by decide)⟩
              · show Steps p.tables e below (s₁.setTop (mkF m 70 #[.val (.long p1), .second, .unset] [(.int (lcmpW p1 (4398046511104 : Int64)))])) _
                refine XS.ifNo X0.here hx rfl (hb hby d1_70) rfl ((if0 _ _).trans (tlt ((lw_lt _ _).mpr c70_11)).2.1) ?_
                show Steps p.tables e below (s₁.setTop (mkF m 73 #[.val (.long p1), .second, .unset] [])) _
                refine XS.bipush X0.here hx rfl (hb hby d1_73) ?_
                show Steps p.tables e below (s₁.setTop (mkF m 75 #[.val (.long p1), .second, .unset] [(.int (6 : Int32))])) _
                refine XS.istoreN X0.here hx rfl (hb hby d1_75) rfl (l' := #[.val (.long p1), .second, .val (.int (6 : Int32))]) rfl ?_
                show Steps p.tables e below (s₁.setTop (mkF m 76 #[.val (.long p1), .second, .val (.int (6 : Int32))] [])) _
                refine XS.goto X0.here hx rfl (pc0 := 76) (pc' := 96) rfl (hb hby d1_76) (by decide) (by decide) ?_
                show Steps p.tables e below (s₁.setTop (mkF m 96 #[.val (.long p1), .second, .val (.int (6 : Int32))] [])) _
                refine XS.iloadN X0.here hx rfl (hb hby d1_96) rfl ?_
                show Steps p.tables e below (s₁.setTop (mkF m 97 #[.val (.long p1), .second, .val (.int (6 : Int32))] [(.int (6 : Int32))])) _
                exact retI X0 hx Bd.returns (hb hby d1_97) hr
              · show Q1 Z p1 h0 n0 _ s₁.heap _
                rw [e0]
                have hv : sp1 p1 = (6 : Int32) := by unfold sp1; rw [if_neg c5_1, if_neg c18_3, if_neg c31_5, if_neg c44_7, if_neg c57_9, if_pos c70_11]
                exact ⟨by rw [hv], N0, rfl⟩
            · have k14 : ∀ t, Steps p.tables e below (s₁.setTop (mkF m 84 #[.val (.long p1), .second, .unset] [(.int (lcmpW p1 (562949953421312 : Int64)))])) t → Steps p.tables e below (s₁.setTop (mkF m 0 #[.val (.long p1), .second, .unset] [])) t := fun t kt => k12 t (by
                show Steps p.tables e below (s₁.setTop (mkF m 70 #[.val (.long p1), .second, .unset] [(.int (lcmpW p1 (4398046511104 : Int64)))])) _
                refine XS.ifYes X0.here hx rfl (pc0 := 70) (pc' := 79) rfl (hb hby d1_70) rfl ((if0 _ _).trans (flt (fun q => c70_11 ((lw_lt _ _).mp q))).2.1) (by decide) (by decide) ?_
                show Steps p.tables e below (s₁.setTop (mkF m 79 #[.val (.long p1), .second, .unset] [])) _
                refine XS.lloadN X0.here hx rfl (hb hby d1_79) rfl ?_
                show Steps p.tables e below (s₁.setTop (mkF m 80 #[.val (.long p1), .second, .unset] [(.long p1)])) _
                refine X0.ldc2Long hx hown (mvT hZ (hw _ (List.mem_of_getElem? (i := 26) rfl))) (g := (mkF m 80 #[.val (.long p1), .second, .unset] [(.long p1)])) rfl (hb hby d1_80) _ ?_
                show Steps p.tables e below (s₁.setTop (mkF m 83 #[.val (.long p1), .second, .unset] [(.long (562949953421312 : Int64)), (.long p1)])) _
                refine XS.lcmp X0.here hx rfl (hb hby d1_83) rfl ?_
                exact kt)
              by_cases c84_13 : p1 < (562949953421312 : Int64)
              · obtain ⟨fs, hr, hrun, hended, hW, hsame⟩ := X0.leave (v := some (.int (7 : Int32))) (fun h => by rw [Bd.returns] at h; cases h)
                refine ⟨_, _, pre0 _ (k14 _ ?_), hrun, hended, _, _, rfl, ?_, ⟨_, rfl⟩, hW, hsame.mono (by decide) (by decide)⟩
                · show Steps p.tables e below (s₁.setTop (mkF m 84 #[.val (.long p1), .second, .unset] [(.int (lcmpW p1 (562949953421312 : Int64)))])) _
                  refine XS.ifNo X0.here hx rfl (hb hby d1_84) rfl ((if0 _ _).trans (tlt ((lw_lt _ _).mpr c84_13)).2.1) ?_
                  show Steps p.tables e below (s₁.setTop (mkF m 87 #[.val (.long p1), .second, .unset] [])) _
                  refine XS.bipush X0.here hx rfl (hb hby d1_87) ?_
                  show Steps p.tables e below (s₁.setTop (mkF m 89 #[.val (.long p1), .second, .unset] [(.int (7 : Int32))])) _
                  refine XS.istoreN X0.here hx rfl (hb hby d1_89) rfl (l' := #[.val (.long p1), .second, .val (.int (7 : Int32))]) rfl ?_
                  show Steps p.tables e below (s₁.setTop (mkF m 90 #[.val (.long p1), .second, .val (.int (7 : Int32))] [])) _
                  refine XS.goto X0.here hx rfl (pc0 := 90) (pc' := 96) rfl (hb hby d1_90) (by decide) (by decide) ?_
                  show Steps p.tables e below (s₁.setTop (mkF m 96 #[.val (.long p1), .second, .val (.int (7 : Int32))] [])) _
                  refine XS.iloadN X0.here hx rfl (hb hby d1_96) rfl ?_
                  show Steps p.tables e below (s₁.setTop (mkF m 97 #[.val (.long p1), .second, .val (.int (7 : Int32))] [(.int (7 : Int32))])) _
                  exact retI X0 hx Bd.returns (hb hby d1_97) hr
                · show Q1 Z p1 h0 n0 _ s₁.heap _
                  rw [e0]
                  have hv : sp1 p1 = (7 : Int32) := by unfold sp1; rw [if_neg c5_1, if_neg c18_3, if_neg c31_5, if_neg c44_7, if_neg c57_9, if_neg c70_11, if_pos c84_13]
                  exact ⟨by rw [hv], N0, rfl⟩
              · obtain ⟨fs, hr, hrun, hended, hW, hsame⟩ := X0.leave (v := some (.int (8 : Int32))) (fun h => by rw [Bd.returns] at h; cases h)
                refine ⟨_, _, pre0 _ (k14 _ ?_), hrun, hended, _, _, rfl, ?_, ⟨_, rfl⟩, hW, hsame.mono (by decide) (by decide)⟩
                · show Steps p.tables e below (s₁.setTop (mkF m 84 #[.val (.long p1), .second, .unset] [(.int (lcmpW p1 (562949953421312 : Int64)))])) _
                  refine XS.ifYes X0.here hx rfl (pc0 := 84) (pc' := 93) rfl (hb hby d1_84) rfl ((if0 _ _).trans (flt (fun q => c84_13 ((lw_lt _ _).mp q))).2.1) (by decide) (by decide) ?_
                  show Steps p.tables e below (s₁.setTop (mkF m 93 #[.val (.long p1), .second, .unset] [])) _
                  refine XS.bipush X0.here hx rfl (hb hby d1_93) ?_
                  show Steps p.tables e below (s₁.setTop (mkF m 95 #[.val (.long p1), .second, .unset] [(.int (8 : Int32))])) _
                  refine XS.istoreN X0.here hx rfl (hb hby d1_95) rfl (l' := #[.val (.long p1), .second, .val (.int (8 : Int32))]) rfl ?_
                  show Steps p.tables e below (s₁.setTop (mkF m 96 #[.val (.long p1), .second, .val (.int (8 : Int32))] [])) _
                  refine XS.iloadN X0.here hx rfl (hb hby d1_96) rfl ?_
                  show Steps p.tables e below (s₁.setTop (mkF m 97 #[.val (.long p1), .second, .val (.int (8 : Int32))] [(.int (8 : Int32))])) _
                  exact retI X0 hx Bd.returns (hb hby d1_97) hr
                · show Q1 Z p1 h0 n0 _ s₁.heap _
                  rw [e0]
                  have hv : sp1 p1 = (8 : Int32) := by unfold sp1; rw [if_neg c5_1, if_neg c18_3, if_neg c31_5, if_neg c44_7, if_neg c57_9, if_neg c70_11, if_neg c84_13]
                  exact ⟨by rw [hv], N0, rfl⟩
def Q2 (Z : State) (p1 : Int64) (p2 : Int32) (p3 : Int32) (h0 : Heap) (n0 : Nat) (v : Option Value) (h : Heap) (L : List Loc) : Prop := v = some (.long (sp2 p1 p2 p3)) ∧ Fr n0 L ∧ h = h0
set_option maxRecDepth 65536 in
set_option maxHeartbeats 40000000 in
theorem rm2 (l : Launch) (Z : State) (a0 : Array Value) (hw : ∀ d ∈ tables_1, d.before a0 Z = true) (ws : List Jvm.Cond) (p1 : Int64) (p2 : Int32) (p3 : Int32) (h0 : Heap) (n0 : Nat) (Z0 : n0 ≤ h0.size) :
    MetFree l (⟨"com/example/terse_tree/tersetree/VarintEncodedWordPinLaw", "group", "(JII)J"⟩ : MethodName) (head1 (Jvm.Cond.code (⟨"com/example/terse_tree/tersetree/VarintEncodedWordPinLaw", "group", "(JII)J"⟩ : MethodName) method_4_code 6 (some .long) :: ws) ({ frames := 0, cells := 0, slots := 0, locals := 0 } : Room)) (fun a U => a = #[(.long p1), (.int p2), (.int p3)] ∧ Z.Warmed39 U.vm ∧ U.heap = h0) (fun _ _ _ _ _ => True) (fun _ U o U' => ∃ v L, o = .returned v ∧ Q2 Z p1 p2 p3 h0 n0 v U'.heap L ∧ FrameEnd U o U' L ({ frames := 0, cells := 0, slots := 0, locals := 0 } : Room).cells ({ frames := 0, cells := 0, slots := 0, locals := 0 } : Room).slots) := by
  refine MetFree.of_bodySF (plainFor_of_name pn_2) hisR ?_
  intro p e s m args below meth c s₁ Bd hml0 hP hK
  obtain ⟨rfl, hZ, hh⟩ := hP
  have hx := Bd.exec
  have hby := Bd.bytes
  have hml : c.maxLocals = 6 := hml0
  have hown : s.vm.findClass "com/example/terse_tree/tersetree/VarintEncodedWordPinLaw" = some m.cls := findClass_of_methodNamed Bd.named
  have hnm := (name_of_methodNamed Bd.named Bd.method).1
  have X0 : Stand p l e ({ frames := 0, cells := 0, slots := 0, locals := 0 } : Room) s m #[(.long p1), (.int p2), (.int p3)] below meth c s₁ [] 0 0 := Stand.of_body Bd
  have e0 : s₁.heap = h0 := by rw [← hh, Bd.state]; rfl
  have N0 := Fr.nil n0
  have pre0 : ∀ t, Steps p.tables e below (s₁.setTop (mkF m 0 #[.val (.long p1), .second, .val (.int p2), .val (.int p3), .unset, .unset] [])) t → Steps p.tables e below (s₁.setTop (entryFrame m #[(.long p1), (.int p2), (.int p3)] 6)) t := fun t k => castTop (ef_2 m p1 p2 p3) k
  have pre1 : ∀ t, Steps p.tables e below (s₁.setTop (mkF m 0 #[.val (.long p1), .second, .val (.int p2), .val (.int p3), .unset, .unset] [])) t → Steps p.tables e below (s₁.setTop (mkF m 0 #[.val (.long p1), .second, .val (.int p2), .val (.int p3), .unset, .unset] [])) t := fun t k => k
  have k2 : ∀ t, Steps p.tables e below (s₁.setTop (mkF m 16 #[.val (.long p1), .second, .val (.int p2), .val (.int p3), .val (.long (((p1.toUInt64 >>> (((7 : Int32) * p2) &&& 0x3f).toInt64.toUInt64).toInt64) &&& (127 : Int64))), .second] [(.int (p3 - (1 : Int32))), (.int p2)])) t → Steps p.tables e below (s₁.setTop (mkF m 0 #[.val (.long p1), .second, .val (.int p2), .val (.int p3), .unset, .unset] [])) t := fun t kt => pre1 t (by
    show Steps p.tables e below (s₁.setTop (mkF m 0 #[.val (.long p1), .second, .val (.int p2), .val (.int p3), .unset, .unset] [])) _
    refine XS.lloadN X0.here hx rfl (hb hby d2_0) rfl ?_
    show Steps p.tables e below (s₁.setTop (mkF m 1 #[.val (.long p1), .second, .val (.int p2), .val (.int p3), .unset, .unset] [(.long p1)])) _
    refine XS.bipush X0.here hx rfl (hb hby d2_1) ?_
    show Steps p.tables e below (s₁.setTop (mkF m 3 #[.val (.long p1), .second, .val (.int p2), .val (.int p3), .unset, .unset] [(.int (7 : Int32)), (.long p1)])) _
    refine XS.iloadN X0.here hx rfl (hb hby d2_3) rfl ?_
    show Steps p.tables e below (s₁.setTop (mkF m 4 #[.val (.long p1), .second, .val (.int p2), .val (.int p3), .unset, .unset] [(.int p2), (.int (7 : Int32)), (.long p1)])) _
    refine XS.imul X0.here hx rfl (hb hby d2_4) rfl ?_
    show Steps p.tables e below (s₁.setTop (mkF m 5 #[.val (.long p1), .second, .val (.int p2), .val (.int p3), .unset, .unset] [(.int ((7 : Int32) * p2)), (.long p1)])) _
    refine XS.lushr X0.here hx rfl (hb hby d2_5) rfl ?_
    show Steps p.tables e below (s₁.setTop (mkF m 6 #[.val (.long p1), .second, .val (.int p2), .val (.int p3), .unset, .unset] [(.long ((p1.toUInt64 >>> (((7 : Int32) * p2) &&& 0x3f).toInt64.toUInt64).toInt64))])) _
    refine X0.ldc2Long hx hown (mvT hZ (hw _ (List.mem_of_getElem? (i := 9) rfl))) (g := (mkF m 6 #[.val (.long p1), .second, .val (.int p2), .val (.int p3), .unset, .unset] [(.long ((p1.toUInt64 >>> (((7 : Int32) * p2) &&& 0x3f).toInt64.toUInt64).toInt64))])) rfl (hb hby d2_6) _ ?_
    show Steps p.tables e below (s₁.setTop (mkF m 9 #[.val (.long p1), .second, .val (.int p2), .val (.int p3), .unset, .unset] [(.long (127 : Int64)), (.long ((p1.toUInt64 >>> (((7 : Int32) * p2) &&& 0x3f).toInt64.toUInt64).toInt64))])) _
    refine XS.land X0.here hx rfl (hb hby d2_9) rfl ?_
    show Steps p.tables e below (s₁.setTop (mkF m 10 #[.val (.long p1), .second, .val (.int p2), .val (.int p3), .unset, .unset] [(.long (((p1.toUInt64 >>> (((7 : Int32) * p2) &&& 0x3f).toInt64.toUInt64).toInt64) &&& (127 : Int64)))])) _
    refine XS.lstore X0.here hx rfl (hb hby d2_10) rfl (l' := #[.val (.long p1), .second, .val (.int p2), .val (.int p3), .val (.long (((p1.toUInt64 >>> (((7 : Int32) * p2) &&& 0x3f).toInt64.toUInt64).toInt64) &&& (127 : Int64))), .second]) rfl ?_
    show Steps p.tables e below (s₁.setTop (mkF m 12 #[.val (.long p1), .second, .val (.int p2), .val (.int p3), .val (.long (((p1.toUInt64 >>> (((7 : Int32) * p2) &&& 0x3f).toInt64.toUInt64).toInt64) &&& (127 : Int64))), .second] [])) _
    refine XS.iloadN X0.here hx rfl (hb hby d2_12) rfl ?_
    show Steps p.tables e below (s₁.setTop (mkF m 13 #[.val (.long p1), .second, .val (.int p2), .val (.int p3), .val (.long (((p1.toUInt64 >>> (((7 : Int32) * p2) &&& 0x3f).toInt64.toUInt64).toInt64) &&& (127 : Int64))), .second] [(.int p2)])) _
    refine XS.iloadN X0.here hx rfl (hb hby d2_13) rfl ?_
    show Steps p.tables e below (s₁.setTop (mkF m 14 #[.val (.long p1), .second, .val (.int p2), .val (.int p3), .val (.long (((p1.toUInt64 >>> (((7 : Int32) * p2) &&& 0x3f).toInt64.toUInt64).toInt64) &&& (127 : Int64))), .second] [(.int p3), (.int p2)])) _
    refine XS.iconst X0.here hx rfl (hb hby d2_14) ?_
    show Steps p.tables e below (s₁.setTop (mkF m 15 #[.val (.long p1), .second, .val (.int p2), .val (.int p3), .val (.long (((p1.toUInt64 >>> (((7 : Int32) * p2) &&& 0x3f).toInt64.toUInt64).toInt64) &&& (127 : Int64))), .second] [(.int (1 : Int32)), (.int p3), (.int p2)])) _
    refine XS.isub X0.here hx rfl (hb hby d2_15) rfl ?_
    exact kt)
  by_cases c16_1 : p2 < (p3 - (1 : Int32))
  · obtain ⟨fs, hr, hrun, hended, hW, hsame⟩ := X0.leave (v := some (.long (((((p1.toUInt64 >>> (((7 : Int32) * p2) &&& 0x3f).toInt64.toUInt64).toInt64) &&& (127 : Int64)) ||| (128 : Int64)) <<< (((8 : Int32) * p2) &&& 0x3f).toInt64))) (fun h => by rw [Bd.returns] at h; cases h)
    refine ⟨_, _, pre0 _ (k2 _ ?_), hrun, hended, _, _, rfl, ?_, ⟨_, rfl⟩, hW, hsame.mono (by decide) (by decide)⟩
    · show Steps p.tables e below (s₁.setTop (mkF m 16 #[.val (.long p1), .second, .val (.int p2), .val (.int p3), .val (.long (((p1.toUInt64 >>> (((7 : Int32) * p2) &&& 0x3f).toInt64.toUInt64).toInt64) &&& (127 : Int64))), .second] [(.int (p3 - (1 : Int32))), (.int p2)])) _
      refine XS.icmpNo X0.here hx rfl (hb hby d2_16) rfl (tlt c16_1).2.1 ?_
      show Steps p.tables e below (s₁.setTop (mkF m 19 #[.val (.long p1), .second, .val (.int p2), .val (.int p3), .val (.long (((p1.toUInt64 >>> (((7 : Int32) * p2) &&& 0x3f).toInt64.toUInt64).toInt64) &&& (127 : Int64))), .second] [])) _
      refine XS.lload X0.here hx rfl (hb hby d2_19) rfl ?_
      show Steps p.tables e below (s₁.setTop (mkF m 21 #[.val (.long p1), .second, .val (.int p2), .val (.int p3), .val (.long (((p1.toUInt64 >>> (((7 : Int32) * p2) &&& 0x3f).toInt64.toUInt64).toInt64) &&& (127 : Int64))), .second] [(.long (((p1.toUInt64 >>> (((7 : Int32) * p2) &&& 0x3f).toInt64.toUInt64).toInt64) &&& (127 : Int64)))])) _
      refine X0.ldc2Long hx hown (mvT hZ (hw _ (List.mem_of_getElem? (i := 5) rfl))) (g := (mkF m 21 #[.val (.long p1), .second, .val (.int p2), .val (.int p3), .val (.long (((p1.toUInt64 >>> (((7 : Int32) * p2) &&& 0x3f).toInt64.toUInt64).toInt64) &&& (127 : Int64))), .second] [(.long (((p1.toUInt64 >>> (((7 : Int32) * p2) &&& 0x3f).toInt64.toUInt64).toInt64) &&& (127 : Int64)))])) rfl (hb hby d2_21) _ ?_
      show Steps p.tables e below (s₁.setTop (mkF m 24 #[.val (.long p1), .second, .val (.int p2), .val (.int p3), .val (.long (((p1.toUInt64 >>> (((7 : Int32) * p2) &&& 0x3f).toInt64.toUInt64).toInt64) &&& (127 : Int64))), .second] [(.long (128 : Int64)), (.long (((p1.toUInt64 >>> (((7 : Int32) * p2) &&& 0x3f).toInt64.toUInt64).toInt64) &&& (127 : Int64)))])) _
      refine XS.lor X0.here hx rfl (hb hby d2_24) rfl ?_
      show Steps p.tables e below (s₁.setTop (mkF m 25 #[.val (.long p1), .second, .val (.int p2), .val (.int p3), .val (.long (((p1.toUInt64 >>> (((7 : Int32) * p2) &&& 0x3f).toInt64.toUInt64).toInt64) &&& (127 : Int64))), .second] [(.long ((((p1.toUInt64 >>> (((7 : Int32) * p2) &&& 0x3f).toInt64.toUInt64).toInt64) &&& (127 : Int64)) ||| (128 : Int64)))])) _
      refine XS.lstore X0.here hx rfl (hb hby d2_25) rfl (l' := #[.val (.long p1), .second, .val (.int p2), .val (.int p3), .val (.long ((((p1.toUInt64 >>> (((7 : Int32) * p2) &&& 0x3f).toInt64.toUInt64).toInt64) &&& (127 : Int64)) ||| (128 : Int64))), .second]) rfl ?_
      show Steps p.tables e below (s₁.setTop (mkF m 27 #[.val (.long p1), .second, .val (.int p2), .val (.int p3), .val (.long ((((p1.toUInt64 >>> (((7 : Int32) * p2) &&& 0x3f).toInt64.toUInt64).toInt64) &&& (127 : Int64)) ||| (128 : Int64))), .second] [])) _
      refine XS.lload X0.here hx rfl (hb hby d2_27) rfl ?_
      show Steps p.tables e below (s₁.setTop (mkF m 29 #[.val (.long p1), .second, .val (.int p2), .val (.int p3), .val (.long ((((p1.toUInt64 >>> (((7 : Int32) * p2) &&& 0x3f).toInt64.toUInt64).toInt64) &&& (127 : Int64)) ||| (128 : Int64))), .second] [(.long ((((p1.toUInt64 >>> (((7 : Int32) * p2) &&& 0x3f).toInt64.toUInt64).toInt64) &&& (127 : Int64)) ||| (128 : Int64)))])) _
      refine XS.bipush X0.here hx rfl (hb hby d2_29) ?_
      show Steps p.tables e below (s₁.setTop (mkF m 31 #[.val (.long p1), .second, .val (.int p2), .val (.int p3), .val (.long ((((p1.toUInt64 >>> (((7 : Int32) * p2) &&& 0x3f).toInt64.toUInt64).toInt64) &&& (127 : Int64)) ||| (128 : Int64))), .second] [(.int (8 : Int32)), (.long ((((p1.toUInt64 >>> (((7 : Int32) * p2) &&& 0x3f).toInt64.toUInt64).toInt64) &&& (127 : Int64)) ||| (128 : Int64)))])) _
      refine XS.iloadN X0.here hx rfl (hb hby d2_31) rfl ?_
      show Steps p.tables e below (s₁.setTop (mkF m 32 #[.val (.long p1), .second, .val (.int p2), .val (.int p3), .val (.long ((((p1.toUInt64 >>> (((7 : Int32) * p2) &&& 0x3f).toInt64.toUInt64).toInt64) &&& (127 : Int64)) ||| (128 : Int64))), .second] [(.int p2), (.int (8 : Int32)), (.long ((((p1.toUInt64 >>> (((7 : Int32) * p2) &&& 0x3f).toInt64.toUInt64).toInt64) &&& (127 : Int64)) ||| (128 : Int64)))])) _
      refine XS.imul X0.here hx rfl (hb hby d2_32) rfl ?_
      show Steps p.tables e below (s₁.setTop (mkF m 33 #[.val (.long p1), .second, .val (.int p2), .val (.int p3), .val (.long ((((p1.toUInt64 >>> (((7 : Int32) * p2) &&& 0x3f).toInt64.toUInt64).toInt64) &&& (127 : Int64)) ||| (128 : Int64))), .second] [(.int ((8 : Int32) * p2)), (.long ((((p1.toUInt64 >>> (((7 : Int32) * p2) &&& 0x3f).toInt64.toUInt64).toInt64) &&& (127 : Int64)) ||| (128 : Int64)))])) _
      refine XS.lshl X0.here hx rfl (hb hby d2_33) rfl ?_
      show Steps p.tables e below (s₁.setTop (mkF m 34 #[.val (.long p1), .second, .val (.int p2), .val (.int p3), .val (.long ((((p1.toUInt64 >>> (((7 : Int32) * p2) &&& 0x3f).toInt64.toUInt64).toInt64) &&& (127 : Int64)) ||| (128 : Int64))), .second] [(.long (((((p1.toUInt64 >>> (((7 : Int32) * p2) &&& 0x3f).toInt64.toUInt64).toInt64) &&& (127 : Int64)) ||| (128 : Int64)) <<< (((8 : Int32) * p2) &&& 0x3f).toInt64))])) _
      exact X0.lreturnOut hx Bd.returns (hb hby d2_34) hr
    · show Q2 Z p1 p2 p3 h0 n0 _ s₁.heap _
      rw [e0]
      have hv : sp2 p1 p2 p3 = (((((p1.toUInt64 >>> (((7 : Int32) * p2) &&& 0x3f).toInt64.toUInt64).toInt64) &&& (127 : Int64)) ||| (128 : Int64)) <<< (((8 : Int32) * p2) &&& 0x3f).toInt64) := by unfold sp2; rw [if_pos c16_1]
      exact ⟨by rw [hv], N0, rfl⟩
  · obtain ⟨fs, hr, hrun, hended, hW, hsame⟩ := X0.leave (v := some (.long ((((p1.toUInt64 >>> (((7 : Int32) * p2) &&& 0x3f).toInt64.toUInt64).toInt64) &&& (127 : Int64)) <<< (((8 : Int32) * p2) &&& 0x3f).toInt64))) (fun h => by rw [Bd.returns] at h; cases h)
    refine ⟨_, _, pre0 _ (k2 _ ?_), hrun, hended, _, _, rfl, ?_, ⟨_, rfl⟩, hW, hsame.mono (by decide) (by decide)⟩
    · show Steps p.tables e below (s₁.setTop (mkF m 16 #[.val (.long p1), .second, .val (.int p2), .val (.int p3), .val (.long (((p1.toUInt64 >>> (((7 : Int32) * p2) &&& 0x3f).toInt64.toUInt64).toInt64) &&& (127 : Int64))), .second] [(.int (p3 - (1 : Int32))), (.int p2)])) _
      refine XS.icmpYes X0.here hx rfl (pc0 := 16) (pc' := 27) rfl (hb hby d2_16) rfl (flt c16_1).2.1 (by decide) (by decide) ?_
      show Steps p.tables e below (s₁.setTop (mkF m 27 #[.val (.long p1), .second, .val (.int p2), .val (.int p3), .val (.long (((p1.toUInt64 >>> (((7 : Int32) * p2) &&& 0x3f).toInt64.toUInt64).toInt64) &&& (127 : Int64))), .second] [])) _
      refine XS.lload X0.here hx rfl (hb hby d2_27) rfl ?_
      show Steps p.tables e below (s₁.setTop (mkF m 29 #[.val (.long p1), .second, .val (.int p2), .val (.int p3), .val (.long (((p1.toUInt64 >>> (((7 : Int32) * p2) &&& 0x3f).toInt64.toUInt64).toInt64) &&& (127 : Int64))), .second] [(.long (((p1.toUInt64 >>> (((7 : Int32) * p2) &&& 0x3f).toInt64.toUInt64).toInt64) &&& (127 : Int64)))])) _
      refine XS.bipush X0.here hx rfl (hb hby d2_29) ?_
      show Steps p.tables e below (s₁.setTop (mkF m 31 #[.val (.long p1), .second, .val (.int p2), .val (.int p3), .val (.long (((p1.toUInt64 >>> (((7 : Int32) * p2) &&& 0x3f).toInt64.toUInt64).toInt64) &&& (127 : Int64))), .second] [(.int (8 : Int32)), (.long (((p1.toUInt64 >>> (((7 : Int32) * p2) &&& 0x3f).toInt64.toUInt64).toInt64) &&& (127 : Int64)))])) _
      refine XS.iloadN X0.here hx rfl (hb hby d2_31) rfl ?_
      show Steps p.tables e below (s₁.setTop (mkF m 32 #[.val (.long p1), .second, .val (.int p2), .val (.int p3), .val (.long (((p1.toUInt64 >>> (((7 : Int32) * p2) &&& 0x3f).toInt64.toUInt64).toInt64) &&& (127 : Int64))), .second] [(.int p2), (.int (8 : Int32)), (.long (((p1.toUInt64 >>> (((7 : Int32) * p2) &&& 0x3f).toInt64.toUInt64).toInt64) &&& (127 : Int64)))])) _
      refine XS.imul X0.here hx rfl (hb hby d2_32) rfl ?_
      show Steps p.tables e below (s₁.setTop (mkF m 33 #[.val (.long p1), .second, .val (.int p2), .val (.int p3), .val (.long (((p1.toUInt64 >>> (((7 : Int32) * p2) &&& 0x3f).toInt64.toUInt64).toInt64) &&& (127 : Int64))), .second] [(.int ((8 : Int32) * p2)), (.long (((p1.toUInt64 >>> (((7 : Int32) * p2) &&& 0x3f).toInt64.toUInt64).toInt64) &&& (127 : Int64)))])) _
      refine XS.lshl X0.here hx rfl (hb hby d2_33) rfl ?_
      show Steps p.tables e below (s₁.setTop (mkF m 34 #[.val (.long p1), .second, .val (.int p2), .val (.int p3), .val (.long (((p1.toUInt64 >>> (((7 : Int32) * p2) &&& 0x3f).toInt64.toUInt64).toInt64) &&& (127 : Int64))), .second] [(.long ((((p1.toUInt64 >>> (((7 : Int32) * p2) &&& 0x3f).toInt64.toUInt64).toInt64) &&& (127 : Int64)) <<< (((8 : Int32) * p2) &&& 0x3f).toInt64))])) _
      exact X0.lreturnOut hx Bd.returns (hb hby d2_34) hr
    · show Q2 Z p1 p2 p3 h0 n0 _ s₁.heap _
      rw [e0]
      have hv : sp2 p1 p2 p3 = ((((p1.toUInt64 >>> (((7 : Int32) * p2) &&& 0x3f).toInt64.toUInt64).toInt64) &&& (127 : Int64)) <<< (((8 : Int32) * p2) &&& 0x3f).toInt64) := by unfold sp2; rw [if_neg c16_1]
      exact ⟨by rw [hv], N0, rfl⟩
def Q3 (Z : State) (p1 : Int64) (p2 : Int32) (h0 : Heap) (n0 : Nat) (v : Option Value) (h : Heap) (L : List Loc) : Prop := v = some (.long (sp3 p1 p2)) ∧ Fr n0 L ∧ h = h0
set_option maxRecDepth 65536 in
set_option maxHeartbeats 40000000 in
theorem rm3 (l : Launch) (Z : State) (a0 : Array Value) (hw : ∀ d ∈ tables_1, d.before a0 Z = true) (ws : List Jvm.Cond) (p1 : Int64) (p2 : Int32) (h0 : Heap) (n0 : Nat) (Z0 : n0 ≤ h0.size) :
    MetFree l (⟨"com/example/terse_tree/tersetree/Varint", "encodedWord", "(JI)J"⟩ : MethodName) (head1 (Jvm.Cond.code (⟨"com/example/terse_tree/tersetree/Varint", "encodedWord", "(JI)J"⟩ : MethodName) prog_43_method_5_code 11 (some .long) :: ws) ({ frames := 0, cells := 0, slots := 0, locals := 0 } : Room)) (fun a U => a = #[(.long p1), (.int p2)] ∧ Z.Warmed39 U.vm ∧ U.heap = h0) (fun _ _ _ _ _ => True) (fun _ U o U' => ∃ v L, o = .returned v ∧ Q3 Z p1 p2 h0 n0 v U'.heap L ∧ FrameEnd U o U' L ({ frames := 0, cells := 0, slots := 0, locals := 0 } : Room).cells ({ frames := 0, cells := 0, slots := 0, locals := 0 } : Room).slots) := by
  refine MetFree.of_bodySF (plainFor_of_name pn_3) hisR ?_
  intro p e s m args below meth c s₁ Bd hml0 hP hK
  obtain ⟨rfl, hZ, hh⟩ := hP
  have hx := Bd.exec
  have hby := Bd.bytes
  have hml : c.maxLocals = 11 := hml0
  have hown : s.vm.findClass "com/example/terse_tree/tersetree/Varint" = some m.cls := findClass_of_methodNamed Bd.named
  have hnm := (name_of_methodNamed Bd.named Bd.method).1
  have X0 : Stand p l e ({ frames := 0, cells := 0, slots := 0, locals := 0 } : Room) s m #[(.long p1), (.int p2)] below meth c s₁ [] 0 0 := Stand.of_body Bd
  have e0 : s₁.heap = h0 := by rw [← hh, Bd.state]; rfl
  have N0 := Fr.nil n0
  have pre0 : ∀ t, Steps p.tables e below (s₁.setTop (mkF m 0 #[.val (.long p1), .second, .val (.int p2), .unset, .unset, .unset, .unset, .unset, .unset, .unset, .unset] [])) t → Steps p.tables e below (s₁.setTop (entryFrame m #[(.long p1), (.int p2)] 11)) t := fun t k => castTop (ef_3 m p1 p2) k
  have pre1 : ∀ t, Steps p.tables e below (s₁.setTop (mkF m 0 #[.val (.long p1), .second, .val (.int p2), .unset, .unset, .unset, .unset, .unset, .unset, .unset, .unset] [])) t → Steps p.tables e below (s₁.setTop (mkF m 0 #[.val (.long p1), .second, .val (.int p2), .unset, .unset, .unset, .unset, .unset, .unset, .unset, .unset] [])) t := fun t k => k
  obtain ⟨fs, hr, hrun, hended, hW, hsame⟩ := X0.leave (v := some (.long ((v3_44 p1 p2) ||| ((-9187201950435737472 : Int64) &&& (v3_56 p1 p2))))) (fun h => by rw [Bd.returns] at h; cases h)
  refine ⟨_, _, pre0 _ (pre1 _ ?_), hrun, hended, _, _, rfl, ?_, ⟨_, rfl⟩, hW, hsame.mono (by decide) (by decide)⟩
  · show Steps p.tables e below (s₁.setTop (mkF m 0 #[.val (.long p1), .second, .val (.int p2), .unset, .unset, .unset, .unset, .unset, .unset, .unset, .unset] [])) _
    refine XS.lloadN X0.here hx rfl (hb hby d3_0) rfl ?_
    show Steps p.tables e below (s₁.setTop (mkF m 1 #[.val (.long p1), .second, .val (.int p2), .unset, .unset, .unset, .unset, .unset, .unset, .unset, .unset] [(.long p1)])) _
    refine X0.ldc2Long hx hown (mvT hZ (hw _ (List.mem_of_getElem? (i := 14) rfl))) (g := (mkF m 1 #[.val (.long p1), .second, .val (.int p2), .unset, .unset, .unset, .unset, .unset, .unset, .unset, .unset] [(.long p1)])) rfl (hb hby d3_1) _ ?_
    show Steps p.tables e below (s₁.setTop (mkF m 4 #[.val (.long p1), .second, .val (.int p2), .unset, .unset, .unset, .unset, .unset, .unset, .unset, .unset] [(.long (268435455 : Int64)), (.long p1)])) _
    refine XS.land X0.here hx rfl (hb hby d3_4) rfl ?_
    show Steps p.tables e below (s₁.setTop (mkF m 5 #[.val (.long p1), .second, .val (.int p2), .unset, .unset, .unset, .unset, .unset, .unset, .unset, .unset] [(.long (p1 &&& (268435455 : Int64)))])) _
    refine XS.lloadN X0.here hx rfl (hb hby d3_5) rfl ?_
    show Steps p.tables e below (s₁.setTop (mkF m 6 #[.val (.long p1), .second, .val (.int p2), .unset, .unset, .unset, .unset, .unset, .unset, .unset, .unset] [(.long p1), (.long (p1 &&& (268435455 : Int64)))])) _
    refine X0.ldc2Long hx hown (mvT hZ (hw _ (List.mem_of_getElem? (i := 15) rfl))) (g := (mkF m 6 #[.val (.long p1), .second, .val (.int p2), .unset, .unset, .unset, .unset, .unset, .unset, .unset, .unset] [(.long p1), (.long (p1 &&& (268435455 : Int64)))])) rfl (hb hby d3_6) _ ?_
    show Steps p.tables e below (s₁.setTop (mkF m 9 #[.val (.long p1), .second, .val (.int p2), .unset, .unset, .unset, .unset, .unset, .unset, .unset, .unset] [(.long (72057593769492480 : Int64)), (.long p1), (.long (p1 &&& (268435455 : Int64)))])) _
    refine XS.land X0.here hx rfl (hb hby d3_9) rfl ?_
    show Steps p.tables e below (s₁.setTop (mkF m 10 #[.val (.long p1), .second, .val (.int p2), .unset, .unset, .unset, .unset, .unset, .unset, .unset, .unset] [(.long (p1 &&& (72057593769492480 : Int64))), (.long (p1 &&& (268435455 : Int64)))])) _
    refine XS.iconst X0.here hx rfl (hb hby d3_10) ?_
    show Steps p.tables e below (s₁.setTop (mkF m 11 #[.val (.long p1), .second, .val (.int p2), .unset, .unset, .unset, .unset, .unset, .unset, .unset, .unset] [(.int (4 : Int32)), (.long (p1 &&& (72057593769492480 : Int64))), (.long (p1 &&& (268435455 : Int64)))])) _
    refine XS.lshl X0.here hx rfl (hb hby d3_11) rfl ?_
    show Steps p.tables e below (s₁.setTop (mkF m 12 #[.val (.long p1), .second, .val (.int p2), .unset, .unset, .unset, .unset, .unset, .unset, .unset, .unset] [(.long ((p1 &&& (72057593769492480 : Int64)) <<< ((4 : Int32) &&& 0x3f).toInt64)), (.long (p1 &&& (268435455 : Int64)))])) _
    refine XS.lor X0.here hx rfl (hb hby d3_12) rfl ?_
    show Steps p.tables e below (s₁.setTop (mkF m 13 #[.val (.long p1), .second, .val (.int p2), .unset, .unset, .unset, .unset, .unset, .unset, .unset, .unset] [(.long ((p1 &&& (268435455 : Int64)) ||| ((p1 &&& (72057593769492480 : Int64)) <<< ((4 : Int32) &&& 0x3f).toInt64)))])) _
    refine XS.lstoreN X0.here hx rfl (hb hby d3_13) rfl (l' := #[.val (.long p1), .second, .val (.int p2), .val (.long (v3_13 p1 p2)), .second, .unset, .unset, .unset, .unset, .unset, .unset]) rfl ?_
    show Steps p.tables e below (s₁.setTop (mkF m 14 #[.val (.long p1), .second, .val (.int p2), .val (.long (v3_13 p1 p2)), .second, .unset, .unset, .unset, .unset, .unset, .unset] [])) _
    refine XS.lloadN X0.here hx rfl (hb hby d3_14) rfl ?_
    show Steps p.tables e below (s₁.setTop (mkF m 15 #[.val (.long p1), .second, .val (.int p2), .val (.long (v3_13 p1 p2)), .second, .unset, .unset, .unset, .unset, .unset, .unset] [(.long (v3_13 p1 p2))])) _
    refine X0.ldc2Long hx hown (mvT hZ (hw _ (List.mem_of_getElem? (i := 16) rfl))) (g := (mkF m 15 #[.val (.long p1), .second, .val (.int p2), .val (.long (v3_13 p1 p2)), .second, .unset, .unset, .unset, .unset, .unset, .unset] [(.long (v3_13 p1 p2))])) rfl (hb hby d3_15) _ ?_
    show Steps p.tables e below (s₁.setTop (mkF m 18 #[.val (.long p1), .second, .val (.int p2), .val (.long (v3_13 p1 p2)), .second, .unset, .unset, .unset, .unset, .unset, .unset] [(.long (70364449226751 : Int64)), (.long (v3_13 p1 p2))])) _
    refine XS.land X0.here hx rfl (hb hby d3_18) rfl ?_
    show Steps p.tables e below (s₁.setTop (mkF m 19 #[.val (.long p1), .second, .val (.int p2), .val (.long (v3_13 p1 p2)), .second, .unset, .unset, .unset, .unset, .unset, .unset] [(.long ((v3_13 p1 p2) &&& (70364449226751 : Int64)))])) _
    refine XS.lloadN X0.here hx rfl (hb hby d3_19) rfl ?_
    show Steps p.tables e below (s₁.setTop (mkF m 20 #[.val (.long p1), .second, .val (.int p2), .val (.long (v3_13 p1 p2)), .second, .unset, .unset, .unset, .unset, .unset, .unset] [(.long (v3_13 p1 p2)), (.long ((v3_13 p1 p2) &&& (70364449226751 : Int64)))])) _
    refine X0.ldc2Long hx hown (mvT hZ (hw _ (List.mem_of_getElem? (i := 17) rfl))) (g := (mkF m 20 #[.val (.long p1), .second, .val (.int p2), .val (.long (v3_13 p1 p2)), .second, .unset, .unset, .unset, .unset, .unset, .unset] [(.long (v3_13 p1 p2)), (.long ((v3_13 p1 p2) &&& (70364449226751 : Int64)))])) rfl (hb hby d3_20) _ ?_
    show Steps p.tables e below (s₁.setTop (mkF m 23 #[.val (.long p1), .second, .val (.int p2), .val (.long (v3_13 p1 p2)), .second, .unset, .unset, .unset, .unset, .unset, .unset] [(.long (1152851136131088384 : Int64)), (.long (v3_13 p1 p2)), (.long ((v3_13 p1 p2) &&& (70364449226751 : Int64)))])) _
    refine XS.land X0.here hx rfl (hb hby d3_23) rfl ?_
    show Steps p.tables e below (s₁.setTop (mkF m 24 #[.val (.long p1), .second, .val (.int p2), .val (.long (v3_13 p1 p2)), .second, .unset, .unset, .unset, .unset, .unset, .unset] [(.long ((v3_13 p1 p2) &&& (1152851136131088384 : Int64))), (.long ((v3_13 p1 p2) &&& (70364449226751 : Int64)))])) _
    refine XS.iconst X0.here hx rfl (hb hby d3_24) ?_
    show Steps p.tables e below (s₁.setTop (mkF m 25 #[.val (.long p1), .second, .val (.int p2), .val (.long (v3_13 p1 p2)), .second, .unset, .unset, .unset, .unset, .unset, .unset] [(.int (2 : Int32)), (.long ((v3_13 p1 p2) &&& (1152851136131088384 : Int64))), (.long ((v3_13 p1 p2) &&& (70364449226751 : Int64)))])) _
    refine XS.lshl X0.here hx rfl (hb hby d3_25) rfl ?_
    show Steps p.tables e below (s₁.setTop (mkF m 26 #[.val (.long p1), .second, .val (.int p2), .val (.long (v3_13 p1 p2)), .second, .unset, .unset, .unset, .unset, .unset, .unset] [(.long (((v3_13 p1 p2) &&& (1152851136131088384 : Int64)) <<< ((2 : Int32) &&& 0x3f).toInt64)), (.long ((v3_13 p1 p2) &&& (70364449226751 : Int64)))])) _
    refine XS.lor X0.here hx rfl (hb hby d3_26) rfl ?_
    show Steps p.tables e below (s₁.setTop (mkF m 27 #[.val (.long p1), .second, .val (.int p2), .val (.long (v3_13 p1 p2)), .second, .unset, .unset, .unset, .unset, .unset, .unset] [(.long (((v3_13 p1 p2) &&& (70364449226751 : Int64)) ||| (((v3_13 p1 p2) &&& (1152851136131088384 : Int64)) <<< ((2 : Int32) &&& 0x3f).toInt64)))])) _
    refine XS.lstore X0.here hx rfl (hb hby d3_27) rfl (l' := #[.val (.long p1), .second, .val (.int p2), .val (.long (v3_13 p1 p2)), .second, .val (.long (v3_27 p1 p2)), .second, .unset, .unset, .unset, .unset]) rfl ?_
    show Steps p.tables e below (s₁.setTop (mkF m 29 #[.val (.long p1), .second, .val (.int p2), .val (.long (v3_13 p1 p2)), .second, .val (.long (v3_27 p1 p2)), .second, .unset, .unset, .unset, .unset] [])) _
    refine XS.lload X0.here hx rfl (hb hby d3_29) rfl ?_
    show Steps p.tables e below (s₁.setTop (mkF m 31 #[.val (.long p1), .second, .val (.int p2), .val (.long (v3_13 p1 p2)), .second, .val (.long (v3_27 p1 p2)), .second, .unset, .unset, .unset, .unset] [(.long (v3_27 p1 p2))])) _
    refine X0.ldc2Long hx hown (mvT hZ (hw _ (List.mem_of_getElem? (i := 18) rfl))) (g := (mkF m 31 #[.val (.long p1), .second, .val (.int p2), .val (.long (v3_13 p1 p2)), .second, .val (.long (v3_27 p1 p2)), .second, .unset, .unset, .unset, .unset] [(.long (v3_27 p1 p2))])) rfl (hb hby d3_31) _ ?_
    show Steps p.tables e below (s₁.setTop (mkF m 34 #[.val (.long p1), .second, .val (.int p2), .val (.long (v3_13 p1 p2)), .second, .val (.long (v3_27 p1 p2)), .second, .unset, .unset, .unset, .unset] [(.long (35747867511423103 : Int64)), (.long (v3_27 p1 p2))])) _
    refine XS.land X0.here hx rfl (hb hby d3_34) rfl ?_
    show Steps p.tables e below (s₁.setTop (mkF m 35 #[.val (.long p1), .second, .val (.int p2), .val (.long (v3_13 p1 p2)), .second, .val (.long (v3_27 p1 p2)), .second, .unset, .unset, .unset, .unset] [(.long ((v3_27 p1 p2) &&& (35747867511423103 : Int64)))])) _
    refine XS.lload X0.here hx rfl (hb hby d3_35) rfl ?_
    show Steps p.tables e below (s₁.setTop (mkF m 37 #[.val (.long p1), .second, .val (.int p2), .val (.long (v3_13 p1 p2)), .second, .val (.long (v3_27 p1 p2)), .second, .unset, .unset, .unset, .unset] [(.long (v3_27 p1 p2)), (.long ((v3_27 p1 p2) &&& (35747867511423103 : Int64)))])) _
    refine X0.ldc2Long hx hown (mvT hZ (hw _ (List.mem_of_getElem? (i := 19) rfl))) (g := (mkF m 37 #[.val (.long p1), .second, .val (.int p2), .val (.long (v3_13 p1 p2)), .second, .val (.long (v3_27 p1 p2)), .second, .unset, .unset, .unset, .unset] [(.long (v3_27 p1 p2)), (.long ((v3_27 p1 p2) &&& (35747867511423103 : Int64)))])) rfl (hb hby d3_37) _ ?_
    show Steps p.tables e below (s₁.setTop (mkF m 40 #[.val (.long p1), .second, .val (.int p2), .val (.long (v3_13 p1 p2)), .second, .val (.long (v3_27 p1 p2)), .second, .unset, .unset, .unset, .unset] [(.long (4575727041462157184 : Int64)), (.long (v3_27 p1 p2)), (.long ((v3_27 p1 p2) &&& (35747867511423103 : Int64)))])) _
    refine XS.land X0.here hx rfl (hb hby d3_40) rfl ?_
    show Steps p.tables e below (s₁.setTop (mkF m 41 #[.val (.long p1), .second, .val (.int p2), .val (.long (v3_13 p1 p2)), .second, .val (.long (v3_27 p1 p2)), .second, .unset, .unset, .unset, .unset] [(.long ((v3_27 p1 p2) &&& (4575727041462157184 : Int64))), (.long ((v3_27 p1 p2) &&& (35747867511423103 : Int64)))])) _
    refine XS.iconst X0.here hx rfl (hb hby d3_41) ?_
    show Steps p.tables e below (s₁.setTop (mkF m 42 #[.val (.long p1), .second, .val (.int p2), .val (.long (v3_13 p1 p2)), .second, .val (.long (v3_27 p1 p2)), .second, .unset, .unset, .unset, .unset] [(.int (1 : Int32)), (.long ((v3_27 p1 p2) &&& (4575727041462157184 : Int64))), (.long ((v3_27 p1 p2) &&& (35747867511423103 : Int64)))])) _
    refine XS.lshl X0.here hx rfl (hb hby d3_42) rfl ?_
    show Steps p.tables e below (s₁.setTop (mkF m 43 #[.val (.long p1), .second, .val (.int p2), .val (.long (v3_13 p1 p2)), .second, .val (.long (v3_27 p1 p2)), .second, .unset, .unset, .unset, .unset] [(.long (((v3_27 p1 p2) &&& (4575727041462157184 : Int64)) <<< ((1 : Int32) &&& 0x3f).toInt64)), (.long ((v3_27 p1 p2) &&& (35747867511423103 : Int64)))])) _
    refine XS.lor X0.here hx rfl (hb hby d3_43) rfl ?_
    show Steps p.tables e below (s₁.setTop (mkF m 44 #[.val (.long p1), .second, .val (.int p2), .val (.long (v3_13 p1 p2)), .second, .val (.long (v3_27 p1 p2)), .second, .unset, .unset, .unset, .unset] [(.long (((v3_27 p1 p2) &&& (35747867511423103 : Int64)) ||| (((v3_27 p1 p2) &&& (4575727041462157184 : Int64)) <<< ((1 : Int32) &&& 0x3f).toInt64)))])) _
    refine XS.lstore X0.here hx rfl (hb hby d3_44) rfl (l' := #[.val (.long p1), .second, .val (.int p2), .val (.long (v3_13 p1 p2)), .second, .val (.long (v3_27 p1 p2)), .second, .val (.long (v3_44 p1 p2)), .second, .unset, .unset]) rfl ?_
    show Steps p.tables e below (s₁.setTop (mkF m 46 #[.val (.long p1), .second, .val (.int p2), .val (.long (v3_13 p1 p2)), .second, .val (.long (v3_27 p1 p2)), .second, .val (.long (v3_44 p1 p2)), .second, .unset, .unset] [])) _
    refine XS.lconst X0.here hx rfl (hb hby d3_46) ?_
    show Steps p.tables e below (s₁.setTop (mkF m 47 #[.val (.long p1), .second, .val (.int p2), .val (.long (v3_13 p1 p2)), .second, .val (.long (v3_27 p1 p2)), .second, .val (.long (v3_44 p1 p2)), .second, .unset, .unset] [(.long (1 : Int64))])) _
    refine XS.bipush X0.here hx rfl (hb hby d3_47) ?_
    show Steps p.tables e below (s₁.setTop (mkF m 49 #[.val (.long p1), .second, .val (.int p2), .val (.long (v3_13 p1 p2)), .second, .val (.long (v3_27 p1 p2)), .second, .val (.long (v3_44 p1 p2)), .second, .unset, .unset] [(.int (8 : Int32)), (.long (1 : Int64))])) _
    refine XS.iloadN X0.here hx rfl (hb hby d3_49) rfl ?_
    show Steps p.tables e below (s₁.setTop (mkF m 50 #[.val (.long p1), .second, .val (.int p2), .val (.long (v3_13 p1 p2)), .second, .val (.long (v3_27 p1 p2)), .second, .val (.long (v3_44 p1 p2)), .second, .unset, .unset] [(.int p2), (.int (8 : Int32)), (.long (1 : Int64))])) _
    refine XS.iconst X0.here hx rfl (hb hby d3_50) ?_
    show Steps p.tables e below (s₁.setTop (mkF m 51 #[.val (.long p1), .second, .val (.int p2), .val (.long (v3_13 p1 p2)), .second, .val (.long (v3_27 p1 p2)), .second, .val (.long (v3_44 p1 p2)), .second, .unset, .unset] [(.int (1 : Int32)), (.int p2), (.int (8 : Int32)), (.long (1 : Int64))])) _
    refine XS.isub X0.here hx rfl (hb hby d3_51) rfl ?_
    show Steps p.tables e below (s₁.setTop (mkF m 52 #[.val (.long p1), .second, .val (.int p2), .val (.long (v3_13 p1 p2)), .second, .val (.long (v3_27 p1 p2)), .second, .val (.long (v3_44 p1 p2)), .second, .unset, .unset] [(.int (p2 - (1 : Int32))), (.int (8 : Int32)), (.long (1 : Int64))])) _
    refine XS.imul X0.here hx rfl (hb hby d3_52) rfl ?_
    show Steps p.tables e below (s₁.setTop (mkF m 53 #[.val (.long p1), .second, .val (.int p2), .val (.long (v3_13 p1 p2)), .second, .val (.long (v3_27 p1 p2)), .second, .val (.long (v3_44 p1 p2)), .second, .unset, .unset] [(.int ((8 : Int32) * (p2 - (1 : Int32)))), (.long (1 : Int64))])) _
    refine XS.lshl X0.here hx rfl (hb hby d3_53) rfl ?_
    show Steps p.tables e below (s₁.setTop (mkF m 54 #[.val (.long p1), .second, .val (.int p2), .val (.long (v3_13 p1 p2)), .second, .val (.long (v3_27 p1 p2)), .second, .val (.long (v3_44 p1 p2)), .second, .unset, .unset] [(.long ((1 : Int64) <<< (((8 : Int32) * (p2 - (1 : Int32))) &&& 0x3f).toInt64))])) _
    refine XS.lconst X0.here hx rfl (hb hby d3_54) ?_
    show Steps p.tables e below (s₁.setTop (mkF m 55 #[.val (.long p1), .second, .val (.int p2), .val (.long (v3_13 p1 p2)), .second, .val (.long (v3_27 p1 p2)), .second, .val (.long (v3_44 p1 p2)), .second, .unset, .unset] [(.long (1 : Int64)), (.long ((1 : Int64) <<< (((8 : Int32) * (p2 - (1 : Int32))) &&& 0x3f).toInt64))])) _
    refine XS.lsub X0.here hx rfl (hb hby d3_55) rfl ?_
    show Steps p.tables e below (s₁.setTop (mkF m 56 #[.val (.long p1), .second, .val (.int p2), .val (.long (v3_13 p1 p2)), .second, .val (.long (v3_27 p1 p2)), .second, .val (.long (v3_44 p1 p2)), .second, .unset, .unset] [(.long (((1 : Int64) <<< (((8 : Int32) * (p2 - (1 : Int32))) &&& 0x3f).toInt64) - (1 : Int64)))])) _
    refine XS.lstore X0.here hx rfl (hb hby d3_56) rfl (l' := #[.val (.long p1), .second, .val (.int p2), .val (.long (v3_13 p1 p2)), .second, .val (.long (v3_27 p1 p2)), .second, .val (.long (v3_44 p1 p2)), .second, .val (.long (v3_56 p1 p2)), .second]) rfl ?_
    show Steps p.tables e below (s₁.setTop (mkF m 58 #[.val (.long p1), .second, .val (.int p2), .val (.long (v3_13 p1 p2)), .second, .val (.long (v3_27 p1 p2)), .second, .val (.long (v3_44 p1 p2)), .second, .val (.long (v3_56 p1 p2)), .second] [])) _
    refine XS.lload X0.here hx rfl (hb hby d3_58) rfl ?_
    show Steps p.tables e below (s₁.setTop (mkF m 60 #[.val (.long p1), .second, .val (.int p2), .val (.long (v3_13 p1 p2)), .second, .val (.long (v3_27 p1 p2)), .second, .val (.long (v3_44 p1 p2)), .second, .val (.long (v3_56 p1 p2)), .second] [(.long (v3_44 p1 p2))])) _
    refine X0.ldc2Long hx hown (mvT hZ (hw _ (List.mem_of_getElem? (i := 20) rfl))) (g := (mkF m 60 #[.val (.long p1), .second, .val (.int p2), .val (.long (v3_13 p1 p2)), .second, .val (.long (v3_27 p1 p2)), .second, .val (.long (v3_44 p1 p2)), .second, .val (.long (v3_56 p1 p2)), .second] [(.long (v3_44 p1 p2))])) rfl (hb hby d3_60) _ ?_
    show Steps p.tables e below (s₁.setTop (mkF m 63 #[.val (.long p1), .second, .val (.int p2), .val (.long (v3_13 p1 p2)), .second, .val (.long (v3_27 p1 p2)), .second, .val (.long (v3_44 p1 p2)), .second, .val (.long (v3_56 p1 p2)), .second] [(.long (-9187201950435737472 : Int64)), (.long (v3_44 p1 p2))])) _
    refine XS.lload X0.here hx rfl (hb hby d3_63) rfl ?_
    show Steps p.tables e below (s₁.setTop (mkF m 65 #[.val (.long p1), .second, .val (.int p2), .val (.long (v3_13 p1 p2)), .second, .val (.long (v3_27 p1 p2)), .second, .val (.long (v3_44 p1 p2)), .second, .val (.long (v3_56 p1 p2)), .second] [(.long (v3_56 p1 p2)), (.long (-9187201950435737472 : Int64)), (.long (v3_44 p1 p2))])) _
    refine XS.land X0.here hx rfl (hb hby d3_65) rfl ?_
    show Steps p.tables e below (s₁.setTop (mkF m 66 #[.val (.long p1), .second, .val (.int p2), .val (.long (v3_13 p1 p2)), .second, .val (.long (v3_27 p1 p2)), .second, .val (.long (v3_44 p1 p2)), .second, .val (.long (v3_56 p1 p2)), .second] [(.long ((-9187201950435737472 : Int64) &&& (v3_56 p1 p2))), (.long (v3_44 p1 p2))])) _
    refine XS.lor X0.here hx rfl (hb hby d3_66) rfl ?_
    show Steps p.tables e below (s₁.setTop (mkF m 67 #[.val (.long p1), .second, .val (.int p2), .val (.long (v3_13 p1 p2)), .second, .val (.long (v3_27 p1 p2)), .second, .val (.long (v3_44 p1 p2)), .second, .val (.long (v3_56 p1 p2)), .second] [(.long ((v3_44 p1 p2) ||| ((-9187201950435737472 : Int64) &&& (v3_56 p1 p2))))])) _
    exact X0.lreturnOut hx Bd.returns (hb hby d3_67) hr
  · show Q3 Z p1 p2 h0 n0 _ s₁.heap _
    rw [e0]
    have hv : sp3 p1 p2 = ((v3_44 p1 p2) ||| ((-9187201950435737472 : Int64) &&& (v3_56 p1 p2))) := by unfold sp3; rfl
    exact ⟨by rw [hv], N0, rfl⟩
def Q0 (Z : State) (p1 : Int64) (p2 : Int32) (h0 : Heap) (n0 : Nat) (v : Option Value) (h : Heap) (L : List Loc) : Prop := v = some (.int 1) ∧ Fr n0 L
set_option maxRecDepth 65536 in
set_option maxHeartbeats 40000000 in
theorem rm0 (l : Launch) (Z : State) (a0 : Array Value) (hw : ∀ d ∈ tables_1, d.before a0 Z = true) (ws : List Jvm.Cond) (p1 : Int64) (p2 : Int32) (h0 : Heap) (n0 : Nat) (Z0 : n0 ≤ h0.size) :
    MetFree l x (head1 (Jvm.Cond.code x code maxLocals ret :: ws) room_1) (fun a U => a = #[(.long p1), (.int p2)] ∧ Z.Warmed39 U.vm ∧ U.heap = h0) (fun _ _ _ _ _ => True) (fun _ U o U' => ∃ v L, o = .returned v ∧ Q0 Z p1 p2 h0 n0 v U'.heap L ∧ FrameEnd U o U' L room_1.cells room_1.slots) := by
  refine MetFree.of_bodySF (plainFor_of_name pn_0) hisR ?_
  intro p e s m args below meth c s₁ Bd hml0 hP hK
  obtain ⟨rfl, hZ, hh⟩ := hP
  have hx := Bd.exec
  have hby := Bd.bytes
  have hml : c.maxLocals = 8 := hml0
  have hown : s.vm.findClass "com/example/terse_tree/tersetree/VarintEncodedWordPinLaw" = some m.cls := findClass_of_methodNamed Bd.named
  have hnm := (name_of_methodNamed Bd.named Bd.method).1
  have X0 : Stand p l e room_1 s m #[(.long p1), (.int p2)] below meth c s₁ [] 0 0 := Stand.of_body Bd
  have e0 : s₁.heap = h0 := by rw [← hh, Bd.state]; rfl
  have N0 := Fr.nil n0
  have pre0 : ∀ t, Steps p.tables e below (s₁.setTop (mkF m 0 #[.val (.long p1), .second, .val (.int p2), .unset, .unset, .unset, .unset, .unset] [])) t → Steps p.tables e below (s₁.setTop (entryFrame m #[(.long p1), (.int p2)] maxLocals)) t := fun t k => castTop (ef_0 m p1 p2) k
  have pre1 : ∀ t, Steps p.tables e below (s₁.setTop (mkF m 0 #[.val (.long p1), .second, .val (.int p2), .unset, .unset, .unset, .unset, .unset] [])) t → Steps p.tables e below (s₁.setTop (mkF m 0 #[.val (.long p1), .second, .val (.int p2), .unset, .unset, .unset, .unset, .unset] [])) t := fun t k => k
  have k1 : ∀ t, Steps p.tables e below (s₁.setTop (mkF m 12 #[.val (.long p1), .second, .val (.int p2), .val (.long (v0_10 p1 p2)), .second, .unset, .unset, .unset] [(.long (v0_10 p1 p2))])) t → Steps p.tables e below (s₁.setTop (mkF m 0 #[.val (.long p1), .second, .val (.int p2), .unset, .unset, .unset, .unset, .unset] [])) t := fun t kt => pre1 t (by
    show Steps p.tables e below (s₁.setTop (mkF m 0 #[.val (.long p1), .second, .val (.int p2), .unset, .unset, .unset, .unset, .unset] [])) _
    refine XS.lloadN X0.here hx rfl (hb hby at_0) rfl ?_
    show Steps p.tables e below (s₁.setTop (mkF m 1 #[.val (.long p1), .second, .val (.int p2), .unset, .unset, .unset, .unset, .unset] [(.long p1)])) _
    refine XS.iloadN X0.here hx rfl (hb hby at_1) rfl ?_
    show Steps p.tables e below (s₁.setTop (mkF m 2 #[.val (.long p1), .second, .val (.int p2), .unset, .unset, .unset, .unset, .unset] [(.int p2), (.long p1)])) _
    refine XS.bipush X0.here hx rfl (hb hby at_2) ?_
    show Steps p.tables e below (s₁.setTop (mkF m 4 #[.val (.long p1), .second, .val (.int p2), .unset, .unset, .unset, .unset, .unset] [(.int (63 : Int32)), (.int p2), (.long p1)])) _
    refine XS.iand X0.here hx rfl (hb hby at_4) rfl ?_
    show Steps p.tables e below (s₁.setTop (mkF m 5 #[.val (.long p1), .second, .val (.int p2), .unset, .unset, .unset, .unset, .unset] [(.int (p2 &&& (63 : Int32))), (.long p1)])) _
    refine XS.lushr X0.here hx rfl (hb hby at_5) rfl ?_
    show Steps p.tables e below (s₁.setTop (mkF m 6 #[.val (.long p1), .second, .val (.int p2), .unset, .unset, .unset, .unset, .unset] [(.long ((p1.toUInt64 >>> ((p2 &&& (63 : Int32)) &&& 0x3f).toInt64.toUInt64).toInt64))])) _
    refine X0.ldc2Long hx hown (mvT hZ (hw _ (List.mem_of_getElem? (i := 0) rfl))) (g := (mkF m 6 #[.val (.long p1), .second, .val (.int p2), .unset, .unset, .unset, .unset, .unset] [(.long ((p1.toUInt64 >>> ((p2 &&& (63 : Int32)) &&& 0x3f).toInt64.toUInt64).toInt64))])) rfl (hb hby at_6) _ ?_
    show Steps p.tables e below (s₁.setTop (mkF m 9 #[.val (.long p1), .second, .val (.int p2), .unset, .unset, .unset, .unset, .unset] [(.long (72057594037927935 : Int64)), (.long ((p1.toUInt64 >>> ((p2 &&& (63 : Int32)) &&& 0x3f).toInt64.toUInt64).toInt64))])) _
    refine XS.land X0.here hx rfl (hb hby at_9) rfl ?_
    show Steps p.tables e below (s₁.setTop (mkF m 10 #[.val (.long p1), .second, .val (.int p2), .unset, .unset, .unset, .unset, .unset] [(.long (((p1.toUInt64 >>> ((p2 &&& (63 : Int32)) &&& 0x3f).toInt64.toUInt64).toInt64) &&& (72057594037927935 : Int64)))])) _
    refine XS.lstoreN X0.here hx rfl (hb hby at_10) rfl (l' := #[.val (.long p1), .second, .val (.int p2), .val (.long (v0_10 p1 p2)), .second, .unset, .unset, .unset]) rfl ?_
    show Steps p.tables e below (s₁.setTop (mkF m 11 #[.val (.long p1), .second, .val (.int p2), .val (.long (v0_10 p1 p2)), .second, .unset, .unset, .unset] [])) _
    refine XS.lloadN X0.here hx rfl (hb hby at_11) rfl ?_
    exact kt)
  obtain ⟨_, _, ⟨T2, L2, k2', n2⟩, -, X2, ⟨Lc2, hQ2, l2, y2, z2⟩, st2⟩ := Jvm.LawKit.callS X0 hx (y := (⟨"com/example/terse_tree/tersetree/VarintEncodedWordPinLaw", "lengthOf", "(J)I"⟩ : MethodName)) hown (mvT hZ (hw _ (List.mem_of_getElem? (i := 1) rfl))) (mvT hZ (hw _ (List.mem_of_getElem? (i := 2) rfl))) (mvT hZ (hw _ (List.mem_of_getElem? (i := 3) rfl))) (mvT hZ (hw _ (List.mem_of_getElem? (i := 4) rfl))) (by decide) (backOf (W := 0) (rm1 l Z a0 hw [] (v0_10 p1 p2) h0 n0 Z0) hZ (hw _ (List.mem_of_getElem? (i := 4) rfl)) (hw _ (List.mem_of_getElem? (i := 3) rfl)) (by decide) (by decide)) (g := (mkF m 12 #[.val (.long p1), .second, .val (.int p2), .val (.long (v0_10 p1 p2)), .second, .unset, .unset, .unset] [(.long (v0_10 p1 p2))])) rfl (by rw [hml]; rfl) (argsL := [(.long (v0_10 p1 p2))]) (rest := []) (lenOf pd0_0 rfl) rfl (by show 2 * 0 + _ ≤ _; exact Nat.le_of_eq rfl) (hb hby at_12) (fun _ _ => ⟨rfl, e0, (by decide : 0 + 0 ≤ _), (by decide : 0 + 0 ≤ _)⟩)
  dsimp only [Pt.U, Pt.locs, Pt.cells, Pt.slots] at X2 l2 y2 z2 st2 hQ2
  subst l2 y2 z2
  obtain ⟨rfl, N2q, hh2⟩ := hQ2
  have N2 := Fr.app N0 N2q
  have k3 : ∀ t, Steps p.tables e below (T2.setTop (mkF m 21 #[.val (.long p1), .second, .val (.int p2), .val (.long (v0_10 p1 p2)), .second, .val (.int (v0_15 p1 p2)), .unset, .unset] [(.int (v0_15 p1 p2)), (.int (0 : Int32)), (.long (v0_10 p1 p2))])) t → Steps p.tables e below (s₁.setTop (mkF m 0 #[.val (.long p1), .second, .val (.int p2), .unset, .unset, .unset, .unset, .unset] [])) t := fun t kt => k1 t (by
    show Steps p.tables e below (s₁.setTop (mkF m 12 #[.val (.long p1), .second, .val (.int p2), .val (.long (v0_10 p1 p2)), .second, .unset, .unset, .unset] [(.long (v0_10 p1 p2))])) _
    refine st2 _ ?_
    show Steps p.tables e below (T2.setTop (mkF m 15 #[.val (.long p1), .second, .val (.int p2), .val (.long (v0_10 p1 p2)), .second, .unset, .unset, .unset] [(.int (sp1 (v0_10 p1 p2)))])) _
    refine XS.istore X2.here hx rfl (hb hby at_15) rfl (l' := #[.val (.long p1), .second, .val (.int p2), .val (.long (v0_10 p1 p2)), .second, .val (.int (v0_15 p1 p2)), .unset, .unset]) rfl ?_
    show Steps p.tables e below (T2.setTop (mkF m 17 #[.val (.long p1), .second, .val (.int p2), .val (.long (v0_10 p1 p2)), .second, .val (.int (v0_15 p1 p2)), .unset, .unset] [])) _
    refine XS.lloadN X2.here hx rfl (hb hby at_17) rfl ?_
    show Steps p.tables e below (T2.setTop (mkF m 18 #[.val (.long p1), .second, .val (.int p2), .val (.long (v0_10 p1 p2)), .second, .val (.int (v0_15 p1 p2)), .unset, .unset] [(.long (v0_10 p1 p2))])) _
    refine XS.iconst X2.here hx rfl (hb hby at_18) ?_
    show Steps p.tables e below (T2.setTop (mkF m 19 #[.val (.long p1), .second, .val (.int p2), .val (.long (v0_10 p1 p2)), .second, .val (.int (v0_15 p1 p2)), .unset, .unset] [(.int (0 : Int32)), (.long (v0_10 p1 p2))])) _
    refine XS.iload X2.here hx rfl (hb hby at_19) rfl ?_
    exact kt)
  obtain ⟨_, _, ⟨T4, L4, k4', n4⟩, -, X4, ⟨Lc4, hQ4, l4, y4, z4⟩, st4⟩ := Jvm.LawKit.callS X2 hx (y := (⟨"com/example/terse_tree/tersetree/VarintEncodedWordPinLaw", "group", "(JII)J"⟩ : MethodName)) hown (mvT hZ (hw _ (List.mem_of_getElem? (i := 6) rfl))) (mvT hZ (hw _ (List.mem_of_getElem? (i := 7) rfl))) (mvT hZ (hw _ (List.mem_of_getElem? (i := 3) rfl))) (mvT hZ (hw _ (List.mem_of_getElem? (i := 8) rfl))) (by decide) (backOf (W := 0) (rm2 l Z a0 hw [] (v0_10 p1 p2) (0 : Int32) (v0_15 p1 p2) h0 n0 Z0) hZ (hw _ (List.mem_of_getElem? (i := 8) rfl)) (hw _ (List.mem_of_getElem? (i := 3) rfl)) (by decide) (by decide)) (g := (mkF m 21 #[.val (.long p1), .second, .val (.int p2), .val (.long (v0_10 p1 p2)), .second, .val (.int (v0_15 p1 p2)), .unset, .unset] [(.int (v0_15 p1 p2)), (.int (0 : Int32)), (.long (v0_10 p1 p2))])) rfl (by rw [hml]; rfl) (argsL := [(.long (v0_10 p1 p2)), (.int (0 : Int32)), (.int (v0_15 p1 p2))]) (rest := []) (lenOf pd0_1 rfl) rfl (by show 2 * 0 + _ ≤ _; exact Nat.le_of_eq rfl) (hb hby at_21) (fun _ _ => ⟨rfl, hh2, (by decide : 0 + 0 ≤ _), (by decide : 0 + 0 ≤ _)⟩)
  dsimp only [Pt.U, Pt.locs, Pt.cells, Pt.slots] at X4 l4 y4 z4 st4 hQ4
  subst l4 y4 z4
  obtain ⟨rfl, N4q, hh4⟩ := hQ4
  have N4 := Fr.app N2 N4q
  have k5 : ∀ t, Steps p.tables e below (T4.setTop (mkF m 28 #[.val (.long p1), .second, .val (.int p2), .val (.long (v0_10 p1 p2)), .second, .val (.int (v0_15 p1 p2)), .unset, .unset] [(.int (v0_15 p1 p2)), (.int (1 : Int32)), (.long (v0_10 p1 p2)), (.long (sp2 (v0_10 p1 p2) (0 : Int32) (v0_15 p1 p2)))])) t → Steps p.tables e below (s₁.setTop (mkF m 0 #[.val (.long p1), .second, .val (.int p2), .unset, .unset, .unset, .unset, .unset] [])) t := fun t kt => k3 t (by
    show Steps p.tables e below (T2.setTop (mkF m 21 #[.val (.long p1), .second, .val (.int p2), .val (.long (v0_10 p1 p2)), .second, .val (.int (v0_15 p1 p2)), .unset, .unset] [(.int (v0_15 p1 p2)), (.int (0 : Int32)), (.long (v0_10 p1 p2))])) _
    refine st4 _ ?_
    show Steps p.tables e below (T4.setTop (mkF m 24 #[.val (.long p1), .second, .val (.int p2), .val (.long (v0_10 p1 p2)), .second, .val (.int (v0_15 p1 p2)), .unset, .unset] [(.long (sp2 (v0_10 p1 p2) (0 : Int32) (v0_15 p1 p2)))])) _
    refine XS.lloadN X4.here hx rfl (hb hby at_24) rfl ?_
    show Steps p.tables e below (T4.setTop (mkF m 25 #[.val (.long p1), .second, .val (.int p2), .val (.long (v0_10 p1 p2)), .second, .val (.int (v0_15 p1 p2)), .unset, .unset] [(.long (v0_10 p1 p2)), (.long (sp2 (v0_10 p1 p2) (0 : Int32) (v0_15 p1 p2)))])) _
    refine XS.iconst X4.here hx rfl (hb hby at_25) ?_
    show Steps p.tables e below (T4.setTop (mkF m 26 #[.val (.long p1), .second, .val (.int p2), .val (.long (v0_10 p1 p2)), .second, .val (.int (v0_15 p1 p2)), .unset, .unset] [(.int (1 : Int32)), (.long (v0_10 p1 p2)), (.long (sp2 (v0_10 p1 p2) (0 : Int32) (v0_15 p1 p2)))])) _
    refine XS.iload X4.here hx rfl (hb hby at_26) rfl ?_
    exact kt)
  obtain ⟨_, _, ⟨T6, L6, k6', n6⟩, -, X6, ⟨Lc6, hQ6, l6, y6, z6⟩, st6⟩ := Jvm.LawKit.callS X4 hx (y := (⟨"com/example/terse_tree/tersetree/VarintEncodedWordPinLaw", "group", "(JII)J"⟩ : MethodName)) hown (mvT hZ (hw _ (List.mem_of_getElem? (i := 6) rfl))) (mvT hZ (hw _ (List.mem_of_getElem? (i := 7) rfl))) (mvT hZ (hw _ (List.mem_of_getElem? (i := 3) rfl))) (mvT hZ (hw _ (List.mem_of_getElem? (i := 8) rfl))) (by decide) (backOf (W := 2) (rm2 l Z a0 hw [] (v0_10 p1 p2) (1 : Int32) (v0_15 p1 p2) h0 n0 Z0) hZ (hw _ (List.mem_of_getElem? (i := 8) rfl)) (hw _ (List.mem_of_getElem? (i := 3) rfl)) (by decide) (by decide)) (g := (mkF m 28 #[.val (.long p1), .second, .val (.int p2), .val (.long (v0_10 p1 p2)), .second, .val (.int (v0_15 p1 p2)), .unset, .unset] [(.int (v0_15 p1 p2)), (.int (1 : Int32)), (.long (v0_10 p1 p2)), (.long (sp2 (v0_10 p1 p2) (0 : Int32) (v0_15 p1 p2)))])) rfl (by rw [hml]; rfl) (argsL := [(.long (v0_10 p1 p2)), (.int (1 : Int32)), (.int (v0_15 p1 p2))]) (rest := [(.long (sp2 (v0_10 p1 p2) (0 : Int32) (v0_15 p1 p2)))]) (lenOf pd0_1 rfl) rfl (by show 2 * 0 + _ ≤ _; exact Nat.le_of_eq rfl) (hb hby at_28) (fun _ _ => ⟨rfl, hh4, (by decide : 0 + 0 ≤ _), (by decide : 0 + 0 ≤ _)⟩)
  dsimp only [Pt.U, Pt.locs, Pt.cells, Pt.slots] at X6 l6 y6 z6 st6 hQ6
  subst l6 y6 z6
  obtain ⟨rfl, N6q, hh6⟩ := hQ6
  have N6 := Fr.app N4 N6q
  have k7 : ∀ t, Steps p.tables e below (T6.setTop (mkF m 36 #[.val (.long p1), .second, .val (.int p2), .val (.long (v0_10 p1 p2)), .second, .val (.int (v0_15 p1 p2)), .unset, .unset] [(.int (v0_15 p1 p2)), (.int (2 : Int32)), (.long (v0_10 p1 p2)), (.long ((sp2 (v0_10 p1 p2) (0 : Int32) (v0_15 p1 p2)) ||| (sp2 (v0_10 p1 p2) (1 : Int32) (v0_15 p1 p2))))])) t → Steps p.tables e below (s₁.setTop (mkF m 0 #[.val (.long p1), .second, .val (.int p2), .unset, .unset, .unset, .unset, .unset] [])) t := fun t kt => k5 t (by
    show Steps p.tables e below (T4.setTop (mkF m 28 #[.val (.long p1), .second, .val (.int p2), .val (.long (v0_10 p1 p2)), .second, .val (.int (v0_15 p1 p2)), .unset, .unset] [(.int (v0_15 p1 p2)), (.int (1 : Int32)), (.long (v0_10 p1 p2)), (.long (sp2 (v0_10 p1 p2) (0 : Int32) (v0_15 p1 p2)))])) _
    refine st6 _ ?_
    show Steps p.tables e below (T6.setTop (mkF m 31 #[.val (.long p1), .second, .val (.int p2), .val (.long (v0_10 p1 p2)), .second, .val (.int (v0_15 p1 p2)), .unset, .unset] [(.long (sp2 (v0_10 p1 p2) (1 : Int32) (v0_15 p1 p2))), (.long (sp2 (v0_10 p1 p2) (0 : Int32) (v0_15 p1 p2)))])) _
    refine XS.lor X6.here hx rfl (hb hby at_31) rfl ?_
    show Steps p.tables e below (T6.setTop (mkF m 32 #[.val (.long p1), .second, .val (.int p2), .val (.long (v0_10 p1 p2)), .second, .val (.int (v0_15 p1 p2)), .unset, .unset] [(.long ((sp2 (v0_10 p1 p2) (0 : Int32) (v0_15 p1 p2)) ||| (sp2 (v0_10 p1 p2) (1 : Int32) (v0_15 p1 p2))))])) _
    refine XS.lloadN X6.here hx rfl (hb hby at_32) rfl ?_
    show Steps p.tables e below (T6.setTop (mkF m 33 #[.val (.long p1), .second, .val (.int p2), .val (.long (v0_10 p1 p2)), .second, .val (.int (v0_15 p1 p2)), .unset, .unset] [(.long (v0_10 p1 p2)), (.long ((sp2 (v0_10 p1 p2) (0 : Int32) (v0_15 p1 p2)) ||| (sp2 (v0_10 p1 p2) (1 : Int32) (v0_15 p1 p2))))])) _
    refine XS.iconst X6.here hx rfl (hb hby at_33) ?_
    show Steps p.tables e below (T6.setTop (mkF m 34 #[.val (.long p1), .second, .val (.int p2), .val (.long (v0_10 p1 p2)), .second, .val (.int (v0_15 p1 p2)), .unset, .unset] [(.int (2 : Int32)), (.long (v0_10 p1 p2)), (.long ((sp2 (v0_10 p1 p2) (0 : Int32) (v0_15 p1 p2)) ||| (sp2 (v0_10 p1 p2) (1 : Int32) (v0_15 p1 p2))))])) _
    refine XS.iload X6.here hx rfl (hb hby at_34) rfl ?_
    exact kt)
  obtain ⟨_, _, ⟨T8, L8, k8', n8⟩, -, X8, ⟨Lc8, hQ8, l8, y8, z8⟩, st8⟩ := Jvm.LawKit.callS X6 hx (y := (⟨"com/example/terse_tree/tersetree/VarintEncodedWordPinLaw", "group", "(JII)J"⟩ : MethodName)) hown (mvT hZ (hw _ (List.mem_of_getElem? (i := 6) rfl))) (mvT hZ (hw _ (List.mem_of_getElem? (i := 7) rfl))) (mvT hZ (hw _ (List.mem_of_getElem? (i := 3) rfl))) (mvT hZ (hw _ (List.mem_of_getElem? (i := 8) rfl))) (by decide) (backOf (W := 2) (rm2 l Z a0 hw [] (v0_10 p1 p2) (2 : Int32) (v0_15 p1 p2) h0 n0 Z0) hZ (hw _ (List.mem_of_getElem? (i := 8) rfl)) (hw _ (List.mem_of_getElem? (i := 3) rfl)) (by decide) (by decide)) (g := (mkF m 36 #[.val (.long p1), .second, .val (.int p2), .val (.long (v0_10 p1 p2)), .second, .val (.int (v0_15 p1 p2)), .unset, .unset] [(.int (v0_15 p1 p2)), (.int (2 : Int32)), (.long (v0_10 p1 p2)), (.long ((sp2 (v0_10 p1 p2) (0 : Int32) (v0_15 p1 p2)) ||| (sp2 (v0_10 p1 p2) (1 : Int32) (v0_15 p1 p2))))])) rfl (by rw [hml]; rfl) (argsL := [(.long (v0_10 p1 p2)), (.int (2 : Int32)), (.int (v0_15 p1 p2))]) (rest := [(.long ((sp2 (v0_10 p1 p2) (0 : Int32) (v0_15 p1 p2)) ||| (sp2 (v0_10 p1 p2) (1 : Int32) (v0_15 p1 p2))))]) (lenOf pd0_1 rfl) rfl (by show 2 * 0 + _ ≤ _; exact Nat.le_of_eq rfl) (hb hby at_36) (fun _ _ => ⟨rfl, hh6, (by decide : 0 + 0 ≤ _), (by decide : 0 + 0 ≤ _)⟩)
  dsimp only [Pt.U, Pt.locs, Pt.cells, Pt.slots] at X8 l8 y8 z8 st8 hQ8
  subst l8 y8 z8
  obtain ⟨rfl, N8q, hh8⟩ := hQ8
  have N8 := Fr.app N6 N8q
  have k9 : ∀ t, Steps p.tables e below (T8.setTop (mkF m 44 #[.val (.long p1), .second, .val (.int p2), .val (.long (v0_10 p1 p2)), .second, .val (.int (v0_15 p1 p2)), .unset, .unset] [(.int (v0_15 p1 p2)), (.int (3 : Int32)), (.long (v0_10 p1 p2)), (.long (((sp2 (v0_10 p1 p2) (0 : Int32) (v0_15 p1 p2)) ||| (sp2 (v0_10 p1 p2) (1 : Int32) (v0_15 p1 p2))) ||| (sp2 (v0_10 p1 p2) (2 : Int32) (v0_15 p1 p2))))])) t → Steps p.tables e below (s₁.setTop (mkF m 0 #[.val (.long p1), .second, .val (.int p2), .unset, .unset, .unset, .unset, .unset] [])) t := fun t kt => k7 t (by
    show Steps p.tables e below (T6.setTop (mkF m 36 #[.val (.long p1), .second, .val (.int p2), .val (.long (v0_10 p1 p2)), .second, .val (.int (v0_15 p1 p2)), .unset, .unset] [(.int (v0_15 p1 p2)), (.int (2 : Int32)), (.long (v0_10 p1 p2)), (.long ((sp2 (v0_10 p1 p2) (0 : Int32) (v0_15 p1 p2)) ||| (sp2 (v0_10 p1 p2) (1 : Int32) (v0_15 p1 p2))))])) _
    refine st8 _ ?_
    show Steps p.tables e below (T8.setTop (mkF m 39 #[.val (.long p1), .second, .val (.int p2), .val (.long (v0_10 p1 p2)), .second, .val (.int (v0_15 p1 p2)), .unset, .unset] [(.long (sp2 (v0_10 p1 p2) (2 : Int32) (v0_15 p1 p2))), (.long ((sp2 (v0_10 p1 p2) (0 : Int32) (v0_15 p1 p2)) ||| (sp2 (v0_10 p1 p2) (1 : Int32) (v0_15 p1 p2))))])) _
    refine XS.lor X8.here hx rfl (hb hby at_39) rfl ?_
    show Steps p.tables e below (T8.setTop (mkF m 40 #[.val (.long p1), .second, .val (.int p2), .val (.long (v0_10 p1 p2)), .second, .val (.int (v0_15 p1 p2)), .unset, .unset] [(.long (((sp2 (v0_10 p1 p2) (0 : Int32) (v0_15 p1 p2)) ||| (sp2 (v0_10 p1 p2) (1 : Int32) (v0_15 p1 p2))) ||| (sp2 (v0_10 p1 p2) (2 : Int32) (v0_15 p1 p2))))])) _
    refine XS.lloadN X8.here hx rfl (hb hby at_40) rfl ?_
    show Steps p.tables e below (T8.setTop (mkF m 41 #[.val (.long p1), .second, .val (.int p2), .val (.long (v0_10 p1 p2)), .second, .val (.int (v0_15 p1 p2)), .unset, .unset] [(.long (v0_10 p1 p2)), (.long (((sp2 (v0_10 p1 p2) (0 : Int32) (v0_15 p1 p2)) ||| (sp2 (v0_10 p1 p2) (1 : Int32) (v0_15 p1 p2))) ||| (sp2 (v0_10 p1 p2) (2 : Int32) (v0_15 p1 p2))))])) _
    refine XS.iconst X8.here hx rfl (hb hby at_41) ?_
    show Steps p.tables e below (T8.setTop (mkF m 42 #[.val (.long p1), .second, .val (.int p2), .val (.long (v0_10 p1 p2)), .second, .val (.int (v0_15 p1 p2)), .unset, .unset] [(.int (3 : Int32)), (.long (v0_10 p1 p2)), (.long (((sp2 (v0_10 p1 p2) (0 : Int32) (v0_15 p1 p2)) ||| (sp2 (v0_10 p1 p2) (1 : Int32) (v0_15 p1 p2))) ||| (sp2 (v0_10 p1 p2) (2 : Int32) (v0_15 p1 p2))))])) _
    refine XS.iload X8.here hx rfl (hb hby at_42) rfl ?_
    exact kt)
  obtain ⟨_, _, ⟨T10, L10, k10', n10⟩, -, X10, ⟨Lc10, hQ10, l10, y10, z10⟩, st10⟩ := Jvm.LawKit.callS X8 hx (y := (⟨"com/example/terse_tree/tersetree/VarintEncodedWordPinLaw", "group", "(JII)J"⟩ : MethodName)) hown (mvT hZ (hw _ (List.mem_of_getElem? (i := 6) rfl))) (mvT hZ (hw _ (List.mem_of_getElem? (i := 7) rfl))) (mvT hZ (hw _ (List.mem_of_getElem? (i := 3) rfl))) (mvT hZ (hw _ (List.mem_of_getElem? (i := 8) rfl))) (by decide) (backOf (W := 2) (rm2 l Z a0 hw [] (v0_10 p1 p2) (3 : Int32) (v0_15 p1 p2) h0 n0 Z0) hZ (hw _ (List.mem_of_getElem? (i := 8) rfl)) (hw _ (List.mem_of_getElem? (i := 3) rfl)) (by decide) (by decide)) (g := (mkF m 44 #[.val (.long p1), .second, .val (.int p2), .val (.long (v0_10 p1 p2)), .second, .val (.int (v0_15 p1 p2)), .unset, .unset] [(.int (v0_15 p1 p2)), (.int (3 : Int32)), (.long (v0_10 p1 p2)), (.long (((sp2 (v0_10 p1 p2) (0 : Int32) (v0_15 p1 p2)) ||| (sp2 (v0_10 p1 p2) (1 : Int32) (v0_15 p1 p2))) ||| (sp2 (v0_10 p1 p2) (2 : Int32) (v0_15 p1 p2))))])) rfl (by rw [hml]; rfl) (argsL := [(.long (v0_10 p1 p2)), (.int (3 : Int32)), (.int (v0_15 p1 p2))]) (rest := [(.long (((sp2 (v0_10 p1 p2) (0 : Int32) (v0_15 p1 p2)) ||| (sp2 (v0_10 p1 p2) (1 : Int32) (v0_15 p1 p2))) ||| (sp2 (v0_10 p1 p2) (2 : Int32) (v0_15 p1 p2))))]) (lenOf pd0_1 rfl) rfl (by show 2 * 0 + _ ≤ _; exact Nat.le_of_eq rfl) (hb hby at_44) (fun _ _ => ⟨rfl, hh8, (by decide : 0 + 0 ≤ _), (by decide : 0 + 0 ≤ _)⟩)
  dsimp only [Pt.U, Pt.locs, Pt.cells, Pt.slots] at X10 l10 y10 z10 st10 hQ10
  subst l10 y10 z10
  obtain ⟨rfl, N10q, hh10⟩ := hQ10
  have N10 := Fr.app N8 N10q
  have k11 : ∀ t, Steps p.tables e below (T10.setTop (mkF m 52 #[.val (.long p1), .second, .val (.int p2), .val (.long (v0_10 p1 p2)), .second, .val (.int (v0_15 p1 p2)), .unset, .unset] [(.int (v0_15 p1 p2)), (.int (4 : Int32)), (.long (v0_10 p1 p2)), (.long ((((sp2 (v0_10 p1 p2) (0 : Int32) (v0_15 p1 p2)) ||| (sp2 (v0_10 p1 p2) (1 : Int32) (v0_15 p1 p2))) ||| (sp2 (v0_10 p1 p2) (2 : Int32) (v0_15 p1 p2))) ||| (sp2 (v0_10 p1 p2) (3 : Int32) (v0_15 p1 p2))))])) t → Steps p.tables e below (s₁.setTop (mkF m 0 #[.val (.long p1), .second, .val (.int p2), .unset, .unset, .unset, .unset, .unset] [])) t := fun t kt => k9 t (by
    show Steps p.tables e below (T8.setTop (mkF m 44 #[.val (.long p1), .second, .val (.int p2), .val (.long (v0_10 p1 p2)), .second, .val (.int (v0_15 p1 p2)), .unset, .unset] [(.int (v0_15 p1 p2)), (.int (3 : Int32)), (.long (v0_10 p1 p2)), (.long (((sp2 (v0_10 p1 p2) (0 : Int32) (v0_15 p1 p2)) ||| (sp2 (v0_10 p1 p2) (1 : Int32) (v0_15 p1 p2))) ||| (sp2 (v0_10 p1 p2) (2 : Int32) (v0_15 p1 p2))))])) _
    refine st10 _ ?_
    show Steps p.tables e below (T10.setTop (mkF m 47 #[.val (.long p1), .second, .val (.int p2), .val (.long (v0_10 p1 p2)), .second, .val (.int (v0_15 p1 p2)), .unset, .unset] [(.long (sp2 (v0_10 p1 p2) (3 : Int32) (v0_15 p1 p2))), (.long (((sp2 (v0_10 p1 p2) (0 : Int32) (v0_15 p1 p2)) ||| (sp2 (v0_10 p1 p2) (1 : Int32) (v0_15 p1 p2))) ||| (sp2 (v0_10 p1 p2) (2 : Int32) (v0_15 p1 p2))))])) _
    refine XS.lor X10.here hx rfl (hb hby at_47) rfl ?_
    show Steps p.tables e below (T10.setTop (mkF m 48 #[.val (.long p1), .second, .val (.int p2), .val (.long (v0_10 p1 p2)), .second, .val (.int (v0_15 p1 p2)), .unset, .unset] [(.long ((((sp2 (v0_10 p1 p2) (0 : Int32) (v0_15 p1 p2)) ||| (sp2 (v0_10 p1 p2) (1 : Int32) (v0_15 p1 p2))) ||| (sp2 (v0_10 p1 p2) (2 : Int32) (v0_15 p1 p2))) ||| (sp2 (v0_10 p1 p2) (3 : Int32) (v0_15 p1 p2))))])) _
    refine XS.lloadN X10.here hx rfl (hb hby at_48) rfl ?_
    show Steps p.tables e below (T10.setTop (mkF m 49 #[.val (.long p1), .second, .val (.int p2), .val (.long (v0_10 p1 p2)), .second, .val (.int (v0_15 p1 p2)), .unset, .unset] [(.long (v0_10 p1 p2)), (.long ((((sp2 (v0_10 p1 p2) (0 : Int32) (v0_15 p1 p2)) ||| (sp2 (v0_10 p1 p2) (1 : Int32) (v0_15 p1 p2))) ||| (sp2 (v0_10 p1 p2) (2 : Int32) (v0_15 p1 p2))) ||| (sp2 (v0_10 p1 p2) (3 : Int32) (v0_15 p1 p2))))])) _
    refine XS.iconst X10.here hx rfl (hb hby at_49) ?_
    show Steps p.tables e below (T10.setTop (mkF m 50 #[.val (.long p1), .second, .val (.int p2), .val (.long (v0_10 p1 p2)), .second, .val (.int (v0_15 p1 p2)), .unset, .unset] [(.int (4 : Int32)), (.long (v0_10 p1 p2)), (.long ((((sp2 (v0_10 p1 p2) (0 : Int32) (v0_15 p1 p2)) ||| (sp2 (v0_10 p1 p2) (1 : Int32) (v0_15 p1 p2))) ||| (sp2 (v0_10 p1 p2) (2 : Int32) (v0_15 p1 p2))) ||| (sp2 (v0_10 p1 p2) (3 : Int32) (v0_15 p1 p2))))])) _
    refine XS.iload X10.here hx rfl (hb hby at_50) rfl ?_
    exact kt)
  obtain ⟨_, _, ⟨T12, L12, k12', n12⟩, -, X12, ⟨Lc12, hQ12, l12, y12, z12⟩, st12⟩ := Jvm.LawKit.callS X10 hx (y := (⟨"com/example/terse_tree/tersetree/VarintEncodedWordPinLaw", "group", "(JII)J"⟩ : MethodName)) hown (mvT hZ (hw _ (List.mem_of_getElem? (i := 6) rfl))) (mvT hZ (hw _ (List.mem_of_getElem? (i := 7) rfl))) (mvT hZ (hw _ (List.mem_of_getElem? (i := 3) rfl))) (mvT hZ (hw _ (List.mem_of_getElem? (i := 8) rfl))) (by decide) (backOf (W := 2) (rm2 l Z a0 hw [] (v0_10 p1 p2) (4 : Int32) (v0_15 p1 p2) h0 n0 Z0) hZ (hw _ (List.mem_of_getElem? (i := 8) rfl)) (hw _ (List.mem_of_getElem? (i := 3) rfl)) (by decide) (by decide)) (g := (mkF m 52 #[.val (.long p1), .second, .val (.int p2), .val (.long (v0_10 p1 p2)), .second, .val (.int (v0_15 p1 p2)), .unset, .unset] [(.int (v0_15 p1 p2)), (.int (4 : Int32)), (.long (v0_10 p1 p2)), (.long ((((sp2 (v0_10 p1 p2) (0 : Int32) (v0_15 p1 p2)) ||| (sp2 (v0_10 p1 p2) (1 : Int32) (v0_15 p1 p2))) ||| (sp2 (v0_10 p1 p2) (2 : Int32) (v0_15 p1 p2))) ||| (sp2 (v0_10 p1 p2) (3 : Int32) (v0_15 p1 p2))))])) rfl (by rw [hml]; rfl) (argsL := [(.long (v0_10 p1 p2)), (.int (4 : Int32)), (.int (v0_15 p1 p2))]) (rest := [(.long ((((sp2 (v0_10 p1 p2) (0 : Int32) (v0_15 p1 p2)) ||| (sp2 (v0_10 p1 p2) (1 : Int32) (v0_15 p1 p2))) ||| (sp2 (v0_10 p1 p2) (2 : Int32) (v0_15 p1 p2))) ||| (sp2 (v0_10 p1 p2) (3 : Int32) (v0_15 p1 p2))))]) (lenOf pd0_1 rfl) rfl (by show 2 * 0 + _ ≤ _; exact Nat.le_of_eq rfl) (hb hby at_52) (fun _ _ => ⟨rfl, hh10, (by decide : 0 + 0 ≤ _), (by decide : 0 + 0 ≤ _)⟩)
  dsimp only [Pt.U, Pt.locs, Pt.cells, Pt.slots] at X12 l12 y12 z12 st12 hQ12
  subst l12 y12 z12
  obtain ⟨rfl, N12q, hh12⟩ := hQ12
  have N12 := Fr.app N10 N12q
  have k13 : ∀ t, Steps p.tables e below (T12.setTop (mkF m 60 #[.val (.long p1), .second, .val (.int p2), .val (.long (v0_10 p1 p2)), .second, .val (.int (v0_15 p1 p2)), .unset, .unset] [(.int (v0_15 p1 p2)), (.int (5 : Int32)), (.long (v0_10 p1 p2)), (.long (((((sp2 (v0_10 p1 p2) (0 : Int32) (v0_15 p1 p2)) ||| (sp2 (v0_10 p1 p2) (1 : Int32) (v0_15 p1 p2))) ||| (sp2 (v0_10 p1 p2) (2 : Int32) (v0_15 p1 p2))) ||| (sp2 (v0_10 p1 p2) (3 : Int32) (v0_15 p1 p2))) ||| (sp2 (v0_10 p1 p2) (4 : Int32) (v0_15 p1 p2))))])) t → Steps p.tables e below (s₁.setTop (mkF m 0 #[.val (.long p1), .second, .val (.int p2), .unset, .unset, .unset, .unset, .unset] [])) t := fun t kt => k11 t (by
    show Steps p.tables e below (T10.setTop (mkF m 52 #[.val (.long p1), .second, .val (.int p2), .val (.long (v0_10 p1 p2)), .second, .val (.int (v0_15 p1 p2)), .unset, .unset] [(.int (v0_15 p1 p2)), (.int (4 : Int32)), (.long (v0_10 p1 p2)), (.long ((((sp2 (v0_10 p1 p2) (0 : Int32) (v0_15 p1 p2)) ||| (sp2 (v0_10 p1 p2) (1 : Int32) (v0_15 p1 p2))) ||| (sp2 (v0_10 p1 p2) (2 : Int32) (v0_15 p1 p2))) ||| (sp2 (v0_10 p1 p2) (3 : Int32) (v0_15 p1 p2))))])) _
    refine st12 _ ?_
    show Steps p.tables e below (T12.setTop (mkF m 55 #[.val (.long p1), .second, .val (.int p2), .val (.long (v0_10 p1 p2)), .second, .val (.int (v0_15 p1 p2)), .unset, .unset] [(.long (sp2 (v0_10 p1 p2) (4 : Int32) (v0_15 p1 p2))), (.long ((((sp2 (v0_10 p1 p2) (0 : Int32) (v0_15 p1 p2)) ||| (sp2 (v0_10 p1 p2) (1 : Int32) (v0_15 p1 p2))) ||| (sp2 (v0_10 p1 p2) (2 : Int32) (v0_15 p1 p2))) ||| (sp2 (v0_10 p1 p2) (3 : Int32) (v0_15 p1 p2))))])) _
    refine XS.lor X12.here hx rfl (hb hby at_55) rfl ?_
    show Steps p.tables e below (T12.setTop (mkF m 56 #[.val (.long p1), .second, .val (.int p2), .val (.long (v0_10 p1 p2)), .second, .val (.int (v0_15 p1 p2)), .unset, .unset] [(.long (((((sp2 (v0_10 p1 p2) (0 : Int32) (v0_15 p1 p2)) ||| (sp2 (v0_10 p1 p2) (1 : Int32) (v0_15 p1 p2))) ||| (sp2 (v0_10 p1 p2) (2 : Int32) (v0_15 p1 p2))) ||| (sp2 (v0_10 p1 p2) (3 : Int32) (v0_15 p1 p2))) ||| (sp2 (v0_10 p1 p2) (4 : Int32) (v0_15 p1 p2))))])) _
    refine XS.lloadN X12.here hx rfl (hb hby at_56) rfl ?_
    show Steps p.tables e below (T12.setTop (mkF m 57 #[.val (.long p1), .second, .val (.int p2), .val (.long (v0_10 p1 p2)), .second, .val (.int (v0_15 p1 p2)), .unset, .unset] [(.long (v0_10 p1 p2)), (.long (((((sp2 (v0_10 p1 p2) (0 : Int32) (v0_15 p1 p2)) ||| (sp2 (v0_10 p1 p2) (1 : Int32) (v0_15 p1 p2))) ||| (sp2 (v0_10 p1 p2) (2 : Int32) (v0_15 p1 p2))) ||| (sp2 (v0_10 p1 p2) (3 : Int32) (v0_15 p1 p2))) ||| (sp2 (v0_10 p1 p2) (4 : Int32) (v0_15 p1 p2))))])) _
    refine XS.iconst X12.here hx rfl (hb hby at_57) ?_
    show Steps p.tables e below (T12.setTop (mkF m 58 #[.val (.long p1), .second, .val (.int p2), .val (.long (v0_10 p1 p2)), .second, .val (.int (v0_15 p1 p2)), .unset, .unset] [(.int (5 : Int32)), (.long (v0_10 p1 p2)), (.long (((((sp2 (v0_10 p1 p2) (0 : Int32) (v0_15 p1 p2)) ||| (sp2 (v0_10 p1 p2) (1 : Int32) (v0_15 p1 p2))) ||| (sp2 (v0_10 p1 p2) (2 : Int32) (v0_15 p1 p2))) ||| (sp2 (v0_10 p1 p2) (3 : Int32) (v0_15 p1 p2))) ||| (sp2 (v0_10 p1 p2) (4 : Int32) (v0_15 p1 p2))))])) _
    refine XS.iload X12.here hx rfl (hb hby at_58) rfl ?_
    exact kt)
  obtain ⟨_, _, ⟨T14, L14, k14', n14⟩, -, X14, ⟨Lc14, hQ14, l14, y14, z14⟩, st14⟩ := Jvm.LawKit.callS X12 hx (y := (⟨"com/example/terse_tree/tersetree/VarintEncodedWordPinLaw", "group", "(JII)J"⟩ : MethodName)) hown (mvT hZ (hw _ (List.mem_of_getElem? (i := 6) rfl))) (mvT hZ (hw _ (List.mem_of_getElem? (i := 7) rfl))) (mvT hZ (hw _ (List.mem_of_getElem? (i := 3) rfl))) (mvT hZ (hw _ (List.mem_of_getElem? (i := 8) rfl))) (by decide) (backOf (W := 2) (rm2 l Z a0 hw [] (v0_10 p1 p2) (5 : Int32) (v0_15 p1 p2) h0 n0 Z0) hZ (hw _ (List.mem_of_getElem? (i := 8) rfl)) (hw _ (List.mem_of_getElem? (i := 3) rfl)) (by decide) (by decide)) (g := (mkF m 60 #[.val (.long p1), .second, .val (.int p2), .val (.long (v0_10 p1 p2)), .second, .val (.int (v0_15 p1 p2)), .unset, .unset] [(.int (v0_15 p1 p2)), (.int (5 : Int32)), (.long (v0_10 p1 p2)), (.long (((((sp2 (v0_10 p1 p2) (0 : Int32) (v0_15 p1 p2)) ||| (sp2 (v0_10 p1 p2) (1 : Int32) (v0_15 p1 p2))) ||| (sp2 (v0_10 p1 p2) (2 : Int32) (v0_15 p1 p2))) ||| (sp2 (v0_10 p1 p2) (3 : Int32) (v0_15 p1 p2))) ||| (sp2 (v0_10 p1 p2) (4 : Int32) (v0_15 p1 p2))))])) rfl (by rw [hml]; rfl) (argsL := [(.long (v0_10 p1 p2)), (.int (5 : Int32)), (.int (v0_15 p1 p2))]) (rest := [(.long (((((sp2 (v0_10 p1 p2) (0 : Int32) (v0_15 p1 p2)) ||| (sp2 (v0_10 p1 p2) (1 : Int32) (v0_15 p1 p2))) ||| (sp2 (v0_10 p1 p2) (2 : Int32) (v0_15 p1 p2))) ||| (sp2 (v0_10 p1 p2) (3 : Int32) (v0_15 p1 p2))) ||| (sp2 (v0_10 p1 p2) (4 : Int32) (v0_15 p1 p2))))]) (lenOf pd0_1 rfl) rfl (by show 2 * 0 + _ ≤ _; exact Nat.le_of_eq rfl) (hb hby at_60) (fun _ _ => ⟨rfl, hh12, (by decide : 0 + 0 ≤ _), (by decide : 0 + 0 ≤ _)⟩)
  dsimp only [Pt.U, Pt.locs, Pt.cells, Pt.slots] at X14 l14 y14 z14 st14 hQ14
  subst l14 y14 z14
  obtain ⟨rfl, N14q, hh14⟩ := hQ14
  have N14 := Fr.app N12 N14q
  have k15 : ∀ t, Steps p.tables e below (T14.setTop (mkF m 69 #[.val (.long p1), .second, .val (.int p2), .val (.long (v0_10 p1 p2)), .second, .val (.int (v0_15 p1 p2)), .unset, .unset] [(.int (v0_15 p1 p2)), (.int (6 : Int32)), (.long (v0_10 p1 p2)), (.long ((((((sp2 (v0_10 p1 p2) (0 : Int32) (v0_15 p1 p2)) ||| (sp2 (v0_10 p1 p2) (1 : Int32) (v0_15 p1 p2))) ||| (sp2 (v0_10 p1 p2) (2 : Int32) (v0_15 p1 p2))) ||| (sp2 (v0_10 p1 p2) (3 : Int32) (v0_15 p1 p2))) ||| (sp2 (v0_10 p1 p2) (4 : Int32) (v0_15 p1 p2))) ||| (sp2 (v0_10 p1 p2) (5 : Int32) (v0_15 p1 p2))))])) t → Steps p.tables e below (s₁.setTop (mkF m 0 #[.val (.long p1), .second, .val (.int p2), .unset, .unset, .unset, .unset, .unset] [])) t := fun t kt => k13 t (by
    show Steps p.tables e below (T12.setTop (mkF m 60 #[.val (.long p1), .second, .val (.int p2), .val (.long (v0_10 p1 p2)), .second, .val (.int (v0_15 p1 p2)), .unset, .unset] [(.int (v0_15 p1 p2)), (.int (5 : Int32)), (.long (v0_10 p1 p2)), (.long (((((sp2 (v0_10 p1 p2) (0 : Int32) (v0_15 p1 p2)) ||| (sp2 (v0_10 p1 p2) (1 : Int32) (v0_15 p1 p2))) ||| (sp2 (v0_10 p1 p2) (2 : Int32) (v0_15 p1 p2))) ||| (sp2 (v0_10 p1 p2) (3 : Int32) (v0_15 p1 p2))) ||| (sp2 (v0_10 p1 p2) (4 : Int32) (v0_15 p1 p2))))])) _
    refine st14 _ ?_
    show Steps p.tables e below (T14.setTop (mkF m 63 #[.val (.long p1), .second, .val (.int p2), .val (.long (v0_10 p1 p2)), .second, .val (.int (v0_15 p1 p2)), .unset, .unset] [(.long (sp2 (v0_10 p1 p2) (5 : Int32) (v0_15 p1 p2))), (.long (((((sp2 (v0_10 p1 p2) (0 : Int32) (v0_15 p1 p2)) ||| (sp2 (v0_10 p1 p2) (1 : Int32) (v0_15 p1 p2))) ||| (sp2 (v0_10 p1 p2) (2 : Int32) (v0_15 p1 p2))) ||| (sp2 (v0_10 p1 p2) (3 : Int32) (v0_15 p1 p2))) ||| (sp2 (v0_10 p1 p2) (4 : Int32) (v0_15 p1 p2))))])) _
    refine XS.lor X14.here hx rfl (hb hby at_63) rfl ?_
    show Steps p.tables e below (T14.setTop (mkF m 64 #[.val (.long p1), .second, .val (.int p2), .val (.long (v0_10 p1 p2)), .second, .val (.int (v0_15 p1 p2)), .unset, .unset] [(.long ((((((sp2 (v0_10 p1 p2) (0 : Int32) (v0_15 p1 p2)) ||| (sp2 (v0_10 p1 p2) (1 : Int32) (v0_15 p1 p2))) ||| (sp2 (v0_10 p1 p2) (2 : Int32) (v0_15 p1 p2))) ||| (sp2 (v0_10 p1 p2) (3 : Int32) (v0_15 p1 p2))) ||| (sp2 (v0_10 p1 p2) (4 : Int32) (v0_15 p1 p2))) ||| (sp2 (v0_10 p1 p2) (5 : Int32) (v0_15 p1 p2))))])) _
    refine XS.lloadN X14.here hx rfl (hb hby at_64) rfl ?_
    show Steps p.tables e below (T14.setTop (mkF m 65 #[.val (.long p1), .second, .val (.int p2), .val (.long (v0_10 p1 p2)), .second, .val (.int (v0_15 p1 p2)), .unset, .unset] [(.long (v0_10 p1 p2)), (.long ((((((sp2 (v0_10 p1 p2) (0 : Int32) (v0_15 p1 p2)) ||| (sp2 (v0_10 p1 p2) (1 : Int32) (v0_15 p1 p2))) ||| (sp2 (v0_10 p1 p2) (2 : Int32) (v0_15 p1 p2))) ||| (sp2 (v0_10 p1 p2) (3 : Int32) (v0_15 p1 p2))) ||| (sp2 (v0_10 p1 p2) (4 : Int32) (v0_15 p1 p2))) ||| (sp2 (v0_10 p1 p2) (5 : Int32) (v0_15 p1 p2))))])) _
    refine XS.bipush X14.here hx rfl (hb hby at_65) ?_
    show Steps p.tables e below (T14.setTop (mkF m 67 #[.val (.long p1), .second, .val (.int p2), .val (.long (v0_10 p1 p2)), .second, .val (.int (v0_15 p1 p2)), .unset, .unset] [(.int (6 : Int32)), (.long (v0_10 p1 p2)), (.long ((((((sp2 (v0_10 p1 p2) (0 : Int32) (v0_15 p1 p2)) ||| (sp2 (v0_10 p1 p2) (1 : Int32) (v0_15 p1 p2))) ||| (sp2 (v0_10 p1 p2) (2 : Int32) (v0_15 p1 p2))) ||| (sp2 (v0_10 p1 p2) (3 : Int32) (v0_15 p1 p2))) ||| (sp2 (v0_10 p1 p2) (4 : Int32) (v0_15 p1 p2))) ||| (sp2 (v0_10 p1 p2) (5 : Int32) (v0_15 p1 p2))))])) _
    refine XS.iload X14.here hx rfl (hb hby at_67) rfl ?_
    exact kt)
  obtain ⟨_, _, ⟨T16, L16, k16', n16⟩, -, X16, ⟨Lc16, hQ16, l16, y16, z16⟩, st16⟩ := Jvm.LawKit.callS X14 hx (y := (⟨"com/example/terse_tree/tersetree/VarintEncodedWordPinLaw", "group", "(JII)J"⟩ : MethodName)) hown (mvT hZ (hw _ (List.mem_of_getElem? (i := 6) rfl))) (mvT hZ (hw _ (List.mem_of_getElem? (i := 7) rfl))) (mvT hZ (hw _ (List.mem_of_getElem? (i := 3) rfl))) (mvT hZ (hw _ (List.mem_of_getElem? (i := 8) rfl))) (by decide) (backOf (W := 2) (rm2 l Z a0 hw [] (v0_10 p1 p2) (6 : Int32) (v0_15 p1 p2) h0 n0 Z0) hZ (hw _ (List.mem_of_getElem? (i := 8) rfl)) (hw _ (List.mem_of_getElem? (i := 3) rfl)) (by decide) (by decide)) (g := (mkF m 69 #[.val (.long p1), .second, .val (.int p2), .val (.long (v0_10 p1 p2)), .second, .val (.int (v0_15 p1 p2)), .unset, .unset] [(.int (v0_15 p1 p2)), (.int (6 : Int32)), (.long (v0_10 p1 p2)), (.long ((((((sp2 (v0_10 p1 p2) (0 : Int32) (v0_15 p1 p2)) ||| (sp2 (v0_10 p1 p2) (1 : Int32) (v0_15 p1 p2))) ||| (sp2 (v0_10 p1 p2) (2 : Int32) (v0_15 p1 p2))) ||| (sp2 (v0_10 p1 p2) (3 : Int32) (v0_15 p1 p2))) ||| (sp2 (v0_10 p1 p2) (4 : Int32) (v0_15 p1 p2))) ||| (sp2 (v0_10 p1 p2) (5 : Int32) (v0_15 p1 p2))))])) rfl (by rw [hml]; rfl) (argsL := [(.long (v0_10 p1 p2)), (.int (6 : Int32)), (.int (v0_15 p1 p2))]) (rest := [(.long ((((((sp2 (v0_10 p1 p2) (0 : Int32) (v0_15 p1 p2)) ||| (sp2 (v0_10 p1 p2) (1 : Int32) (v0_15 p1 p2))) ||| (sp2 (v0_10 p1 p2) (2 : Int32) (v0_15 p1 p2))) ||| (sp2 (v0_10 p1 p2) (3 : Int32) (v0_15 p1 p2))) ||| (sp2 (v0_10 p1 p2) (4 : Int32) (v0_15 p1 p2))) ||| (sp2 (v0_10 p1 p2) (5 : Int32) (v0_15 p1 p2))))]) (lenOf pd0_1 rfl) rfl (by show 2 * 0 + _ ≤ _; exact Nat.le_of_eq rfl) (hb hby at_69) (fun _ _ => ⟨rfl, hh14, (by decide : 0 + 0 ≤ _), (by decide : 0 + 0 ≤ _)⟩)
  dsimp only [Pt.U, Pt.locs, Pt.cells, Pt.slots] at X16 l16 y16 z16 st16 hQ16
  subst l16 y16 z16
  obtain ⟨rfl, N16q, hh16⟩ := hQ16
  have N16 := Fr.app N14 N16q
  have k17 : ∀ t, Steps p.tables e below (T16.setTop (mkF m 78 #[.val (.long p1), .second, .val (.int p2), .val (.long (v0_10 p1 p2)), .second, .val (.int (v0_15 p1 p2)), .unset, .unset] [(.int (v0_15 p1 p2)), (.int (7 : Int32)), (.long (v0_10 p1 p2)), (.long (((((((sp2 (v0_10 p1 p2) (0 : Int32) (v0_15 p1 p2)) ||| (sp2 (v0_10 p1 p2) (1 : Int32) (v0_15 p1 p2))) ||| (sp2 (v0_10 p1 p2) (2 : Int32) (v0_15 p1 p2))) ||| (sp2 (v0_10 p1 p2) (3 : Int32) (v0_15 p1 p2))) ||| (sp2 (v0_10 p1 p2) (4 : Int32) (v0_15 p1 p2))) ||| (sp2 (v0_10 p1 p2) (5 : Int32) (v0_15 p1 p2))) ||| (sp2 (v0_10 p1 p2) (6 : Int32) (v0_15 p1 p2))))])) t → Steps p.tables e below (s₁.setTop (mkF m 0 #[.val (.long p1), .second, .val (.int p2), .unset, .unset, .unset, .unset, .unset] [])) t := fun t kt => k15 t (by
    show Steps p.tables e below (T14.setTop (mkF m 69 #[.val (.long p1), .second, .val (.int p2), .val (.long (v0_10 p1 p2)), .second, .val (.int (v0_15 p1 p2)), .unset, .unset] [(.int (v0_15 p1 p2)), (.int (6 : Int32)), (.long (v0_10 p1 p2)), (.long ((((((sp2 (v0_10 p1 p2) (0 : Int32) (v0_15 p1 p2)) ||| (sp2 (v0_10 p1 p2) (1 : Int32) (v0_15 p1 p2))) ||| (sp2 (v0_10 p1 p2) (2 : Int32) (v0_15 p1 p2))) ||| (sp2 (v0_10 p1 p2) (3 : Int32) (v0_15 p1 p2))) ||| (sp2 (v0_10 p1 p2) (4 : Int32) (v0_15 p1 p2))) ||| (sp2 (v0_10 p1 p2) (5 : Int32) (v0_15 p1 p2))))])) _
    refine st16 _ ?_
    show Steps p.tables e below (T16.setTop (mkF m 72 #[.val (.long p1), .second, .val (.int p2), .val (.long (v0_10 p1 p2)), .second, .val (.int (v0_15 p1 p2)), .unset, .unset] [(.long (sp2 (v0_10 p1 p2) (6 : Int32) (v0_15 p1 p2))), (.long ((((((sp2 (v0_10 p1 p2) (0 : Int32) (v0_15 p1 p2)) ||| (sp2 (v0_10 p1 p2) (1 : Int32) (v0_15 p1 p2))) ||| (sp2 (v0_10 p1 p2) (2 : Int32) (v0_15 p1 p2))) ||| (sp2 (v0_10 p1 p2) (3 : Int32) (v0_15 p1 p2))) ||| (sp2 (v0_10 p1 p2) (4 : Int32) (v0_15 p1 p2))) ||| (sp2 (v0_10 p1 p2) (5 : Int32) (v0_15 p1 p2))))])) _
    refine XS.lor X16.here hx rfl (hb hby at_72) rfl ?_
    show Steps p.tables e below (T16.setTop (mkF m 73 #[.val (.long p1), .second, .val (.int p2), .val (.long (v0_10 p1 p2)), .second, .val (.int (v0_15 p1 p2)), .unset, .unset] [(.long (((((((sp2 (v0_10 p1 p2) (0 : Int32) (v0_15 p1 p2)) ||| (sp2 (v0_10 p1 p2) (1 : Int32) (v0_15 p1 p2))) ||| (sp2 (v0_10 p1 p2) (2 : Int32) (v0_15 p1 p2))) ||| (sp2 (v0_10 p1 p2) (3 : Int32) (v0_15 p1 p2))) ||| (sp2 (v0_10 p1 p2) (4 : Int32) (v0_15 p1 p2))) ||| (sp2 (v0_10 p1 p2) (5 : Int32) (v0_15 p1 p2))) ||| (sp2 (v0_10 p1 p2) (6 : Int32) (v0_15 p1 p2))))])) _
    refine XS.lloadN X16.here hx rfl (hb hby at_73) rfl ?_
    show Steps p.tables e below (T16.setTop (mkF m 74 #[.val (.long p1), .second, .val (.int p2), .val (.long (v0_10 p1 p2)), .second, .val (.int (v0_15 p1 p2)), .unset, .unset] [(.long (v0_10 p1 p2)), (.long (((((((sp2 (v0_10 p1 p2) (0 : Int32) (v0_15 p1 p2)) ||| (sp2 (v0_10 p1 p2) (1 : Int32) (v0_15 p1 p2))) ||| (sp2 (v0_10 p1 p2) (2 : Int32) (v0_15 p1 p2))) ||| (sp2 (v0_10 p1 p2) (3 : Int32) (v0_15 p1 p2))) ||| (sp2 (v0_10 p1 p2) (4 : Int32) (v0_15 p1 p2))) ||| (sp2 (v0_10 p1 p2) (5 : Int32) (v0_15 p1 p2))) ||| (sp2 (v0_10 p1 p2) (6 : Int32) (v0_15 p1 p2))))])) _
    refine XS.bipush X16.here hx rfl (hb hby at_74) ?_
    show Steps p.tables e below (T16.setTop (mkF m 76 #[.val (.long p1), .second, .val (.int p2), .val (.long (v0_10 p1 p2)), .second, .val (.int (v0_15 p1 p2)), .unset, .unset] [(.int (7 : Int32)), (.long (v0_10 p1 p2)), (.long (((((((sp2 (v0_10 p1 p2) (0 : Int32) (v0_15 p1 p2)) ||| (sp2 (v0_10 p1 p2) (1 : Int32) (v0_15 p1 p2))) ||| (sp2 (v0_10 p1 p2) (2 : Int32) (v0_15 p1 p2))) ||| (sp2 (v0_10 p1 p2) (3 : Int32) (v0_15 p1 p2))) ||| (sp2 (v0_10 p1 p2) (4 : Int32) (v0_15 p1 p2))) ||| (sp2 (v0_10 p1 p2) (5 : Int32) (v0_15 p1 p2))) ||| (sp2 (v0_10 p1 p2) (6 : Int32) (v0_15 p1 p2))))])) _
    refine XS.iload X16.here hx rfl (hb hby at_76) rfl ?_
    exact kt)
  obtain ⟨_, _, ⟨T18, L18, k18', n18⟩, -, X18, ⟨Lc18, hQ18, l18, y18, z18⟩, st18⟩ := Jvm.LawKit.callS X16 hx (y := (⟨"com/example/terse_tree/tersetree/VarintEncodedWordPinLaw", "group", "(JII)J"⟩ : MethodName)) hown (mvT hZ (hw _ (List.mem_of_getElem? (i := 6) rfl))) (mvT hZ (hw _ (List.mem_of_getElem? (i := 7) rfl))) (mvT hZ (hw _ (List.mem_of_getElem? (i := 3) rfl))) (mvT hZ (hw _ (List.mem_of_getElem? (i := 8) rfl))) (by decide) (backOf (W := 2) (rm2 l Z a0 hw [] (v0_10 p1 p2) (7 : Int32) (v0_15 p1 p2) h0 n0 Z0) hZ (hw _ (List.mem_of_getElem? (i := 8) rfl)) (hw _ (List.mem_of_getElem? (i := 3) rfl)) (by decide) (by decide)) (g := (mkF m 78 #[.val (.long p1), .second, .val (.int p2), .val (.long (v0_10 p1 p2)), .second, .val (.int (v0_15 p1 p2)), .unset, .unset] [(.int (v0_15 p1 p2)), (.int (7 : Int32)), (.long (v0_10 p1 p2)), (.long (((((((sp2 (v0_10 p1 p2) (0 : Int32) (v0_15 p1 p2)) ||| (sp2 (v0_10 p1 p2) (1 : Int32) (v0_15 p1 p2))) ||| (sp2 (v0_10 p1 p2) (2 : Int32) (v0_15 p1 p2))) ||| (sp2 (v0_10 p1 p2) (3 : Int32) (v0_15 p1 p2))) ||| (sp2 (v0_10 p1 p2) (4 : Int32) (v0_15 p1 p2))) ||| (sp2 (v0_10 p1 p2) (5 : Int32) (v0_15 p1 p2))) ||| (sp2 (v0_10 p1 p2) (6 : Int32) (v0_15 p1 p2))))])) rfl (by rw [hml]; rfl) (argsL := [(.long (v0_10 p1 p2)), (.int (7 : Int32)), (.int (v0_15 p1 p2))]) (rest := [(.long (((((((sp2 (v0_10 p1 p2) (0 : Int32) (v0_15 p1 p2)) ||| (sp2 (v0_10 p1 p2) (1 : Int32) (v0_15 p1 p2))) ||| (sp2 (v0_10 p1 p2) (2 : Int32) (v0_15 p1 p2))) ||| (sp2 (v0_10 p1 p2) (3 : Int32) (v0_15 p1 p2))) ||| (sp2 (v0_10 p1 p2) (4 : Int32) (v0_15 p1 p2))) ||| (sp2 (v0_10 p1 p2) (5 : Int32) (v0_15 p1 p2))) ||| (sp2 (v0_10 p1 p2) (6 : Int32) (v0_15 p1 p2))))]) (lenOf pd0_1 rfl) rfl (by show 2 * 0 + _ ≤ _; exact Nat.le_of_eq rfl) (hb hby at_78) (fun _ _ => ⟨rfl, hh16, (by decide : 0 + 0 ≤ _), (by decide : 0 + 0 ≤ _)⟩)
  dsimp only [Pt.U, Pt.locs, Pt.cells, Pt.slots] at X18 l18 y18 z18 st18 hQ18
  subst l18 y18 z18
  obtain ⟨rfl, N18q, hh18⟩ := hQ18
  have N18 := Fr.app N16 N18q
  have k19 : ∀ t, Steps p.tables e below (T18.setTop (mkF m 87 #[.val (.long p1), .second, .val (.int p2), .val (.long (v0_10 p1 p2)), .second, .val (.int (v0_15 p1 p2)), .val (.long (v0_82 p1 p2)), .second] [(.int (v0_15 p1 p2)), (.long (v0_10 p1 p2))])) t → Steps p.tables e below (s₁.setTop (mkF m 0 #[.val (.long p1), .second, .val (.int p2), .unset, .unset, .unset, .unset, .unset] [])) t := fun t kt => k17 t (by
    show Steps p.tables e below (T16.setTop (mkF m 78 #[.val (.long p1), .second, .val (.int p2), .val (.long (v0_10 p1 p2)), .second, .val (.int (v0_15 p1 p2)), .unset, .unset] [(.int (v0_15 p1 p2)), (.int (7 : Int32)), (.long (v0_10 p1 p2)), (.long (((((((sp2 (v0_10 p1 p2) (0 : Int32) (v0_15 p1 p2)) ||| (sp2 (v0_10 p1 p2) (1 : Int32) (v0_15 p1 p2))) ||| (sp2 (v0_10 p1 p2) (2 : Int32) (v0_15 p1 p2))) ||| (sp2 (v0_10 p1 p2) (3 : Int32) (v0_15 p1 p2))) ||| (sp2 (v0_10 p1 p2) (4 : Int32) (v0_15 p1 p2))) ||| (sp2 (v0_10 p1 p2) (5 : Int32) (v0_15 p1 p2))) ||| (sp2 (v0_10 p1 p2) (6 : Int32) (v0_15 p1 p2))))])) _
    refine st18 _ ?_
    show Steps p.tables e below (T18.setTop (mkF m 81 #[.val (.long p1), .second, .val (.int p2), .val (.long (v0_10 p1 p2)), .second, .val (.int (v0_15 p1 p2)), .unset, .unset] [(.long (sp2 (v0_10 p1 p2) (7 : Int32) (v0_15 p1 p2))), (.long (((((((sp2 (v0_10 p1 p2) (0 : Int32) (v0_15 p1 p2)) ||| (sp2 (v0_10 p1 p2) (1 : Int32) (v0_15 p1 p2))) ||| (sp2 (v0_10 p1 p2) (2 : Int32) (v0_15 p1 p2))) ||| (sp2 (v0_10 p1 p2) (3 : Int32) (v0_15 p1 p2))) ||| (sp2 (v0_10 p1 p2) (4 : Int32) (v0_15 p1 p2))) ||| (sp2 (v0_10 p1 p2) (5 : Int32) (v0_15 p1 p2))) ||| (sp2 (v0_10 p1 p2) (6 : Int32) (v0_15 p1 p2))))])) _
    refine XS.lor X18.here hx rfl (hb hby at_81) rfl ?_
    show Steps p.tables e below (T18.setTop (mkF m 82 #[.val (.long p1), .second, .val (.int p2), .val (.long (v0_10 p1 p2)), .second, .val (.int (v0_15 p1 p2)), .unset, .unset] [(.long ((((((((sp2 (v0_10 p1 p2) (0 : Int32) (v0_15 p1 p2)) ||| (sp2 (v0_10 p1 p2) (1 : Int32) (v0_15 p1 p2))) ||| (sp2 (v0_10 p1 p2) (2 : Int32) (v0_15 p1 p2))) ||| (sp2 (v0_10 p1 p2) (3 : Int32) (v0_15 p1 p2))) ||| (sp2 (v0_10 p1 p2) (4 : Int32) (v0_15 p1 p2))) ||| (sp2 (v0_10 p1 p2) (5 : Int32) (v0_15 p1 p2))) ||| (sp2 (v0_10 p1 p2) (6 : Int32) (v0_15 p1 p2))) ||| (sp2 (v0_10 p1 p2) (7 : Int32) (v0_15 p1 p2))))])) _
    refine XS.lstore X18.here hx rfl (hb hby at_82) rfl (l' := #[.val (.long p1), .second, .val (.int p2), .val (.long (v0_10 p1 p2)), .second, .val (.int (v0_15 p1 p2)), .val (.long (v0_82 p1 p2)), .second]) rfl ?_
    show Steps p.tables e below (T18.setTop (mkF m 84 #[.val (.long p1), .second, .val (.int p2), .val (.long (v0_10 p1 p2)), .second, .val (.int (v0_15 p1 p2)), .val (.long (v0_82 p1 p2)), .second] [])) _
    refine XS.lloadN X18.here hx rfl (hb hby at_84) rfl ?_
    show Steps p.tables e below (T18.setTop (mkF m 85 #[.val (.long p1), .second, .val (.int p2), .val (.long (v0_10 p1 p2)), .second, .val (.int (v0_15 p1 p2)), .val (.long (v0_82 p1 p2)), .second] [(.long (v0_10 p1 p2))])) _
    refine XS.iload X18.here hx rfl (hb hby at_85) rfl ?_
    exact kt)
  obtain ⟨_, _, ⟨T20, L20, k20', n20⟩, -, X20, ⟨Lc20, hQ20, l20, y20, z20⟩, st20⟩ := Jvm.LawKit.callS X18 hx (y := (⟨"com/example/terse_tree/tersetree/Varint", "encodedWord", "(JI)J"⟩ : MethodName)) hown (mvT hZ (hw _ (List.mem_of_getElem? (i := 10) rfl))) (mvT hZ (hw _ (List.mem_of_getElem? (i := 11) rfl))) (mvT hZ (hw _ (List.mem_of_getElem? (i := 12) rfl))) (mvT hZ (hw _ (List.mem_of_getElem? (i := 13) rfl))) (by decide) (backOf (W := 0) (rm3 l Z a0 hw [] (v0_10 p1 p2) (v0_15 p1 p2) h0 n0 Z0) hZ (hw _ (List.mem_of_getElem? (i := 13) rfl)) (hw _ (List.mem_of_getElem? (i := 12) rfl)) (by decide) (by decide)) (g := (mkF m 87 #[.val (.long p1), .second, .val (.int p2), .val (.long (v0_10 p1 p2)), .second, .val (.int (v0_15 p1 p2)), .val (.long (v0_82 p1 p2)), .second] [(.int (v0_15 p1 p2)), (.long (v0_10 p1 p2))])) rfl (by rw [hml]; rfl) (argsL := [(.long (v0_10 p1 p2)), (.int (v0_15 p1 p2))]) (rest := []) (lenOf pd0_2 rfl) rfl (by show 2 * 0 + _ ≤ _; exact Nat.le_of_eq rfl) (hb hby at_87) (fun _ _ => ⟨rfl, hh18, (by decide : 0 + 0 ≤ _), (by decide : 0 + 0 ≤ _)⟩)
  dsimp only [Pt.U, Pt.locs, Pt.cells, Pt.slots] at X20 l20 y20 z20 st20 hQ20
  subst l20 y20 z20
  obtain ⟨rfl, N20q, hh20⟩ := hQ20
  have N20 := Fr.app N18 N20q
  have k22 : ∀ t, Steps p.tables e below (T20.setTop (mkF m 93 #[.val (.long p1), .second, .val (.int p2), .val (.long (v0_10 p1 p2)), .second, .val (.int (v0_15 p1 p2)), .val (.long (v0_82 p1 p2)), .second] [(.int (lcmpW (sp3 (v0_10 p1 p2) (v0_15 p1 p2)) (v0_82 p1 p2)))])) t → Steps p.tables e below (s₁.setTop (mkF m 0 #[.val (.long p1), .second, .val (.int p2), .unset, .unset, .unset, .unset, .unset] [])) t := fun t kt => k19 t (by
    show Steps p.tables e below (T18.setTop (mkF m 87 #[.val (.long p1), .second, .val (.int p2), .val (.long (v0_10 p1 p2)), .second, .val (.int (v0_15 p1 p2)), .val (.long (v0_82 p1 p2)), .second] [(.int (v0_15 p1 p2)), (.long (v0_10 p1 p2))])) _
    refine st20 _ ?_
    show Steps p.tables e below (T20.setTop (mkF m 90 #[.val (.long p1), .second, .val (.int p2), .val (.long (v0_10 p1 p2)), .second, .val (.int (v0_15 p1 p2)), .val (.long (v0_82 p1 p2)), .second] [(.long (sp3 (v0_10 p1 p2) (v0_15 p1 p2)))])) _
    refine XS.lload X20.here hx rfl (hb hby at_90) rfl ?_
    show Steps p.tables e below (T20.setTop (mkF m 92 #[.val (.long p1), .second, .val (.int p2), .val (.long (v0_10 p1 p2)), .second, .val (.int (v0_15 p1 p2)), .val (.long (v0_82 p1 p2)), .second] [(.long (v0_82 p1 p2)), (.long (sp3 (v0_10 p1 p2) (v0_15 p1 p2)))])) _
    refine XS.lcmp X20.here hx rfl (hb hby at_92) rfl ?_
    exact kt)
  by_cases c93_21 : (sp3 (v0_10 p1 p2) (v0_15 p1 p2)) = (v0_82 p1 p2)
  · obtain ⟨fs, hr, hrun, hended, hW, hsame⟩ := X20.leave (v := some (.int (1 : Int32))) (fun h => by rw [Bd.returns] at h; cases h)
    refine ⟨_, _, pre0 _ (k22 _ ?_), hrun, hended, _, _, rfl, ?_, ⟨_, rfl⟩, hW, hsame.mono (by decide) (by decide)⟩
    · show Steps p.tables e below (T20.setTop (mkF m 93 #[.val (.long p1), .second, .val (.int p2), .val (.long (v0_10 p1 p2)), .second, .val (.int (v0_15 p1 p2)), .val (.long (v0_82 p1 p2)), .second] [(.int (lcmpW (sp3 (v0_10 p1 p2) (v0_15 p1 p2)) (v0_82 p1 p2)))])) _
      refine XS.ifNo X20.here hx rfl (hb hby at_93) rfl ((if0 _ _).trans (teq ((lw_eq _ _).mpr c93_21)).2) ?_
      show Steps p.tables e below (T20.setTop (mkF m 96 #[.val (.long p1), .second, .val (.int p2), .val (.long (v0_10 p1 p2)), .second, .val (.int (v0_15 p1 p2)), .val (.long (v0_82 p1 p2)), .second] [])) _
      refine XS.iconst X20.here hx rfl (hb hby at_96) ?_
      show Steps p.tables e below (T20.setTop (mkF m 97 #[.val (.long p1), .second, .val (.int p2), .val (.long (v0_10 p1 p2)), .second, .val (.int (v0_15 p1 p2)), .val (.long (v0_82 p1 p2)), .second] [(.int (1 : Int32))])) _
      refine XS.goto X20.here hx rfl (pc0 := 97) (pc' := 101) rfl (hb hby at_97) (by decide) (by decide) ?_
      show Steps p.tables e below (T20.setTop (mkF m 101 #[.val (.long p1), .second, .val (.int p2), .val (.long (v0_10 p1 p2)), .second, .val (.int (v0_15 p1 p2)), .val (.long (v0_82 p1 p2)), .second] [(.int (1 : Int32))])) _
      exact retN X20 hx (t := .boolean) Bd.returns (by simp) (hb hby at_101) hr
    · show Q0 Z p1 p2 h0 n0 _ T20.heap _
      rw [hh20]
      have hv : sp0 p1 p2 = (1 : Int32) := by unfold sp0; rw [if_pos c93_21]
      exact ⟨by rw [← hv, own_law p1 p2], N20⟩
  · obtain ⟨fs, hr, hrun, hended, hW, hsame⟩ := X20.leave (v := some (.int (0 : Int32))) (fun h => by rw [Bd.returns] at h; cases h)
    refine ⟨_, _, pre0 _ (k22 _ ?_), hrun, hended, _, _, rfl, ?_, ⟨_, rfl⟩, hW, hsame.mono (by decide) (by decide)⟩
    · show Steps p.tables e below (T20.setTop (mkF m 93 #[.val (.long p1), .second, .val (.int p2), .val (.long (v0_10 p1 p2)), .second, .val (.int (v0_15 p1 p2)), .val (.long (v0_82 p1 p2)), .second] [(.int (lcmpW (sp3 (v0_10 p1 p2) (v0_15 p1 p2)) (v0_82 p1 p2)))])) _
      refine XS.ifYes X20.here hx rfl (pc0 := 93) (pc' := 100) rfl (hb hby at_93) rfl ((if0 _ _).trans (feq (fun q => c93_21 ((lw_eq _ _).mp q))).2) (by decide) (by decide) ?_
      show Steps p.tables e below (T20.setTop (mkF m 100 #[.val (.long p1), .second, .val (.int p2), .val (.long (v0_10 p1 p2)), .second, .val (.int (v0_15 p1 p2)), .val (.long (v0_82 p1 p2)), .second] [])) _
      refine XS.iconst X20.here hx rfl (hb hby at_100) ?_
      show Steps p.tables e below (T20.setTop (mkF m 101 #[.val (.long p1), .second, .val (.int p2), .val (.long (v0_10 p1 p2)), .second, .val (.int (v0_15 p1 p2)), .val (.long (v0_82 p1 p2)), .second] [(.int (0 : Int32))])) _
      exact retN X20 hx (t := .boolean) Bd.returns (by simp) (hb hby at_101) hr
    · show Q0 Z p1 p2 h0 n0 _ T20.heap _
      rw [hh20]
      have hv : sp0 p1 p2 = (0 : Int32) := by unfold sp0; rw [if_neg c93_21]
      exact ⟨by rw [← hv, own_law p1 p2], N20⟩
set_option maxRecDepth 65536 in
set_option maxHeartbeats 40000000 in
theorem comes_1 {Post : Tables → Env → Array Value → State → Outcome → State → Prop} (hpost : ∀ tb e args s v u, (limb_1_1.after args s (.returned v) u = true ∧ limb_1_2.after args s (.returned v) u = true ∧ True) → FrameEnd s (.returned v) u (Jvm.fieldLocs frame_1_writes args s ++ Jvm.arrayLocs frame_1_arrays args s ++ Jvm.staticLocs frame_1_statics s) 0 0 → Post tb e args s (.returned v) u) :
    ArmFor flags0 classFile x code maxLocals ret World_1 tables_1 room_1 Calls_1 rest_1 Pre_1 Post := by
  intro l hfl _ _ p e ha hc hk s m args below hf hA hF happ hP
  obtain ⟨hcalls, hrest, hpre⟩ := hP
  obtain ⟨-, -, -, hnamed, -, -, -, hat⟩ := (Spec.applies_iff hf).mp happ
  obtain ⟨hg, hn⟩ := and_e (Cond.before_iff.mp (show (Jvm.Cond.and given_1 narrow_1).before args s = true from hpre))
  obtain ⟨g2, g3⟩ := and_e hg
  obtain ⟨g4, g5⟩ := and_e g3
  obtain ⟨w0, w1, rfl⟩ : ∃ w0 w1 : Value, args = #[w0, w1] := by
    have hs : args.size = 2 := by simpa [Cond.value, given_1] using g2
    obtain ⟨L⟩ := args
    match L, hs with
    | [w0, w1], _ => exact ⟨w0, w1, rfl⟩
  have hw := fun d (hd : d ∈ tables_1) => atoms_spec (ws := Jvm.Cond.code x code maxLocals ret :: tables_1) hat d (List.mem_cons_of_mem _ hd)
  obtain ⟨i0, ei0⟩ := isL_v g4
  obtain rfl : w0 = (.long i0) := Option.some.inj ei0
  obtain ⟨i1, ei1⟩ := is_v g5
  obtain rfl : w1 = (.int i1) := Option.some.inj ei1
  obtain ⟨n, o, h1, h2, h3, _, L, rfl, ⟨rfl, N⟩, hq⟩ := rm0 l s _ hw tables_1 i0 i1 s.heap s.heap.size (Nat.le_refl _) p e ha hc hk s m _ below hf ((Spec.applies_iff_loose hf).mp happ).1 ⟨rfl, State.Warmed39.refl s, rfl⟩ trivial
  refine ⟨n, _, h1, h2, h3, hpost _ _ _ _ _ _ ⟨Cond.after_iff.mpr rfl, Cond.after_iff.mpr (eq_i res_at (Term.int_eval (1)) rfl), trivial⟩ ⟨hq.1, hq.2.1, (hq.2.2.sift fun y hy => Or.inr (N y hy)).mono (by decide) (by decide)⟩⟩
theorem main_1_1 : Claimed_1_1 := comes_1 fun _ _ _ _ _ _ h hF => ⟨h.1, hF⟩
theorem main_1_2 : Claimed_1_2 := comes_1 fun _ _ _ _ _ _ h hF => ⟨h.2.1, hF⟩
end Jvm.Pilot.@@N@@
namespace Jvm.Pilot.@@N@@
open Jvm Jvm.ClassFile Sem Op Lib Jvm.Free Jvm.Stand Jvm.Pilot.@@N@@.Jvm.D
/-! MADE BY PROGRAM (witnessworld.py) out of the Statement's table words and the real class files: 9 classes; the members and pool entries that the words name. The judged class is class 1, her method 1. -/
namespace start1
open Jvm.ClassFile
def u (s : String) : CpInfo := .utf8 (stringToUtf16 s)
/-- a pool by its gaps: so many unusable entries, then the entry; so many at the end -/
def gap : Nat → List CpInfo → List CpInfo
  | 0, r => r
  | n + 1, r => .unusable :: gap n r
def poolList (es : List (Nat × CpInfo)) (last : Nat) : List CpInfo := es.foldr (fun e r => gap e.1 (e.2 :: r)) (gap last [])
def pool (es : List (Nat × CpInfo)) (last : Nat) : Array CpInfo := ⟨poolList es last⟩
def fileOf (pool : Array CpInfo) (this : Nat) (attrs : Array Attribute := #[]) (ms : Array MethodInfo := #[]) (fl : Nat := 33) (sup : Nat := 0) (ifs : Array Nat := #[]) (fds : Array FieldInfo := #[]) : ClassFile where
  minorVersion := 0
  majorVersion := 65
  constantPool := pool
  accessFlags := fl
  thisClass := this
  superClass := sup
  interfaces := ifs
  fields := fds
  methods := ms
  attributes := attrs
def plain (name : String) (sup : Option ClassId) : Class where
  name := name
  kind := .ordinary
  loader := none
  accessFlags := 33
  super := sup
  interfaces := #[]
  cf := none
  fields := #[]
  methods := #[]
  instanceTypes := #[]
  staticTypes := #[]
  resolved := #[]
  callSites := []
  init := .initialized
  statics := none
  mirror := none

def pool0 : Array CpInfo := pool [(5, u "<init>"), (0, u "()V"), (1, .class_ 10), (1, u "java/lang/Object")] 113

def k0m0 : Method := { name := "<init>", desc := "()V", sig := { parameters := [], returnType := none }, accessFlags := 1, code := none }
/-- java/lang/Object -/
def k0 : Class := { plain "java/lang/Object" none with
  accessFlags := 33
  interfaces := #[]
  cf := some (fileOf pool0 8 #[] #[{ accessFlags := 1, nameIndex := 5, descriptorIndex := 6, attributes := #[] }] 33 0 #[] #[])
  fields := #[]
  methods := #[k0m0]
  instanceTypes := #[]
  staticTypes := #[]
  resolved := Array.replicate 124 none
  statics := none }

def pool1 : Array CpInfo := pool [(2, .class_ 4), (1, u "java/lang/Object"), (0, u "<init>"), (0, u "()V"), (0, .long 72057594037927935), (1, .methodref 10 11), (0, .class_ 12), (0, .nameAndType 13 14), (0, u "com/example/terse_tree/tersetree/VarintEncodedWordPinLaw"), (0, u "lengthOf"), (0, u "(J)I"), (0, .methodref 10 16), (0, .nameAndType 17 18), (0, u "group"), (0, u "(JII)J"), (0, .methodref 20 21), (0, .class_ 22), (0, .nameAndType 23 24), (0, u "com/example/terse_tree/tersetree/Varint"), (0, u "encodedWord"), (0, u "(JI)J"), (0, .long 128), (1, .long 16384), (1, .long 2097152), (1, .long 268435456), (1, .long 34359738368), (1, .long 4398046511104), (1, .long 562949953421312), (1, .long 127), (3, u "law"), (0, u "(JI)Z")] 3

def k1m0 : Method := { name := "<init>", desc := "()V", sig := { parameters := [], returnType := none }, accessFlags := 2, code := none }
def k1c1 : Code := { maxStack := 6, maxLocals := 8, code := code, exceptionTable := #[], attributes := #[] }
def k1m1 : Method := { name := "law", desc := "(JI)Z", sig := { parameters := [.long, .int], returnType := some .boolean }, accessFlags := 9, code := some k1c1 }
def k1c2 : Code := { maxStack := 4, maxLocals := 3, code := method_3_code, exceptionTable := #[], attributes := #[] }
def k1m2 : Method := { name := "lengthOf", desc := "(J)I", sig := { parameters := [.long], returnType := some .int }, accessFlags := 10, code := some k1c2 }
def k1c3 : Code := { maxStack := 4, maxLocals := 6, code := method_4_code, exceptionTable := #[], attributes := #[] }
def k1m3 : Method := { name := "group", desc := "(JII)J", sig := { parameters := [.long, .int, .int], returnType := some .long }, accessFlags := 10, code := some k1c3 }
/-- com/example/terse_tree/tersetree/VarintEncodedWordPinLaw -/
def k1 : Class := { plain "com/example/terse_tree/tersetree/VarintEncodedWordPinLaw" (some 0) with
  accessFlags := 49
  interfaces := #[]
  cf := some (fileOf pool1 10 #[] #[{ accessFlags := 2, nameIndex := 5, descriptorIndex := 6, attributes := #[] }, { accessFlags := 9, nameIndex := 43, descriptorIndex := 44, attributes := #[] }, { accessFlags := 10, nameIndex := 13, descriptorIndex := 14, attributes := #[] }, { accessFlags := 10, nameIndex := 17, descriptorIndex := 18, attributes := #[] }] 49 2 #[] #[])
  fields := #[]
  methods := #[k1m0, k1m1, k1m2, k1m3]
  instanceTypes := #[]
  staticTypes := #[]
  resolved := Array.replicate 48 none
  statics := none }

def pool2 : Array CpInfo := pool [(2, .class_ 4), (1, u "java/lang/Object"), (0, u "<init>"), (0, u "()V"), (16, .long 268435455), (1, .long 72057593769492480), (1, .long 70364449226751), (1, .long 1152851136131088384), (1, .long 35747867511423103), (1, .long 4575727041462157184), (3, .class_ 38), (0, u "com/example/terse_tree/tersetree/Varint"), (0, .long 9259542123273814144), (41, u "MAX_LENGTH"), (0, u "I"), (2, u "HIGH_BITS"), (0, u "J"), (11, u "encodedWord"), (0, u "(JI)J")] 9

def k2m0 : Method := { name := "<init>", desc := "()V", sig := { parameters := [], returnType := none }, accessFlags := 2, code := none }
def k2c1 : Code := { maxStack := 6, maxLocals := 11, code := prog_43_method_5_code, exceptionTable := #[], attributes := #[] }
def k2m1 : Method := { name := "encodedWord", desc := "(JI)J", sig := { parameters := [.long, .int], returnType := some .long }, accessFlags := 8, code := some k2c1 }
/-- com/example/terse_tree/tersetree/Varint -/
def k2 : Class := { plain "com/example/terse_tree/tersetree/Varint" (some 0) with
  accessFlags := 32
  interfaces := #[]
  cf := some (fileOf pool2 37 #[] #[{ accessFlags := 2, nameIndex := 5, descriptorIndex := 6, attributes := #[] }, { accessFlags := 8, nameIndex := 98, descriptorIndex := 99, attributes := #[] }] 32 2 #[] #[{ accessFlags := 24, nameIndex := 81, descriptorIndex := 82, attributes := #[] }, { accessFlags := 26, nameIndex := 85, descriptorIndex := 86, attributes := #[] }])
  fields := #[{ name := "MAX_LENGTH", type := .int, accessFlags := 24, slot := 0, constantValue := 0 }, { name := "HIGH_BITS", type := .long, accessFlags := 26, slot := 1, constantValue := 0 }]
  methods := #[k2m0, k2m1]
  instanceTypes := #[]
  staticTypes := #[.int, .long]
  resolved := Array.replicate 109 none
  statics := none }

def pool3 : Array CpInfo := pool [(1, u "java/lang/Cloneable"), (0, .class_ 1), (0, u "java/lang/Object"), (0, .class_ 3)] 3

/-- java/lang/Cloneable -/
def k3 : Class := { plain "java/lang/Cloneable" (some 0) with
  accessFlags := 1537
  interfaces := #[]
  cf := some (fileOf pool3 2 #[] #[] 1537 4 #[] #[])
  fields := #[]
  methods := #[]
  instanceTypes := #[]
  staticTypes := #[]
  resolved := Array.replicate 8 none
  statics := none }

def pool4 : Array CpInfo := pool [(1, u "java/io/Serializable"), (0, .class_ 1), (0, u "java/lang/Object"), (0, .class_ 3)] 3

/-- java/io/Serializable -/
def k4 : Class := { plain "java/io/Serializable" (some 0) with
  accessFlags := 1537
  interfaces := #[]
  cf := some (fileOf pool4 2 #[] #[] 1537 4 #[] #[])
  fields := #[]
  methods := #[]
  instanceTypes := #[]
  staticTypes := #[]
  resolved := Array.replicate 8 none
  statics := none }

/-- the primitive byte -/
def k5 : Class := { plain "byte" none with kind := .primitive 'B', accessFlags := 0x411 }
/-- [B -/
def k6 : Class := { plain "[B" (some 0) with kind := .array 5 .byte, interfaces := #[3, 4], accessFlags := 1041 }

/-- the primitive int -/
def k7 : Class := { plain "int" none with kind := .primitive 'I', accessFlags := 0x411 }
/-- [I -/
def k8 : Class := { plain "[I" (some 0) with kind := .array 7 .int, interfaces := #[3, 4], accessFlags := 1041 }

def heap : Heap := #[]
def classes : Array Class := #[k0, k1, k2, k3, k4, k5, k6, k7, k8]
def interned : List (Array UInt16 × Addr) := []
def slotsUsed : Nat := 0
def theMethod : MethodId := ⟨1, 1⟩
def args0 : Array Value := #[.long 5, .int 5]
def aboutOver (below : List Frame) : State where
  vm := { classes := classes, interned := interned.toArray }
  heap := heap
  slotsUsed := slotsUsed
  threads := #[{ frames := .invoking theMethod args0 :: below }]
def below0 : List Frame := [.native { method := ⟨0, 0⟩, args := #[] }]
def about1 : State := aboutOver below0
def p0 : Program := .bare "" "" ""
def e0 : Env := launch0.env 0 0 0
theorem w_frames : about1.frames = Frame.invoking theMethod args0 :: below0 := rfl
set_option maxRecDepth 65536 in
theorem w_args : argsFit about1.vm theMethod args0 = true := by decide +kernel
set_option maxRecDepth 65536 in
theorem w_heap : heapFits about1 = true := by decide +kernel
set_option maxRecDepth 65536 in
theorem w_runnable : about1.curStatus? = some .runnable := by decide +kernel
set_option maxRecDepth 65536 in
theorem w_alone : about1.alone = true := by decide +kernel
set_option maxRecDepth 65536 in
theorem w_named : about1.methodNamed? x = some theMethod := by decide +kernel
set_option maxRecDepth 65536 in
theorem w_hears : about1.hears theMethod below0 = true := by decide +kernel
set_option maxRecDepth 65536 in
theorem w_ripe : about1.ripe theMethod args0 below0 = true := by decide +kernel
theorem w_running : about1.status = .running := rfl
set_option maxRecDepth 65536 in
theorem w_room : about1.hasRoom e0.platform room_1 = true :=
  launch0.hasRoom_least _ room_1 (by decide +kernel) (by decide +kernel) (by decide +kernel) (by decide +kernel) (by decide +kernel) (by decide +kernel)
theorem allAtoms_all (ts : List Jvm.Cond) (a : Array Jvm.Value) (st : Jvm.State) : (allAtoms ts).before a st = ts.all (fun c => c.before a st) := by
  induction ts with
  | nil => rfl
  | cons c t ih =>
    show (Jvm.Cond.and c (allAtoms t)).before a st = _
    rw [Jvm.Cond.before_and, ih, List.all_cons]
def words1 : List Jvm.Cond := Jvm.Cond.code x code maxLocals ret :: tables_1
/-- a 'code' word, met by the world's own term for the bytes: nothing is compared byte by byte -/
theorem code_word {y : MethodName} {bytes : ByteArray} {mx : Nat} {rt : Option FieldType} {a : Array Value} {s : State} {m : MethodId} {meth : Method} {c : Code} (h1 : s.methodNamed? y = some m) (h2 : s.vm.method? m = some meth) (h3 : meth.code = some c) (h4 : c.code = bytes)
    (h5 : (c.maxLocals == mx && c.exceptionTable.isEmpty && decide (c.maxStack ≤ mostOperands) && decide (meth.sig.returnType = rt) && !meth.locks && decide (parseMethodDescriptor y.desc = some meth.sig)) = true) : (Jvm.Cond.code y bytes mx rt).before a s = true := by
  simp only [Bool.and_eq_true, beq_iff_eq, Bool.not_eq_true', decide_eq_true_eq] at h5
  obtain ⟨⟨⟨⟨⟨g1, g2⟩, g3⟩, g4⟩, g5⟩, g6⟩ := h5
  simp [Cond.before, Cond.holds, Cond.value, h1, h2, h3, h4, g1, g2, g3, g4, g5, g6]
def isCode : Jvm.Cond → Bool
  | .code _ _ _ _ => true
  | _ => false
theorem all_split {L : List Jvm.Cond} {P : Jvm.Cond → Bool} (h1 : L.all (fun c => isCode c || P c) = true) (h2 : ∀ c ∈ L.filter isCode, P c = true) : L.all P = true := by
  refine List.all_eq_true.mpr fun c hc => ?_
  have h := List.all_eq_true.mp h1 c hc
  rcases Bool.eq_false_or_eq_true (isCode c) with hi | hi
  · exact h2 c (List.mem_filter.mpr ⟨hc, hi⟩)
  · simpa [hi] using h
set_option maxRecDepth 65536 in
theorem w_c0 : (Jvm.Cond.code x code maxLocals ret).before args0 about1 = true := code_word (m := ⟨1, 1⟩) (meth := k1m1) (c := k1c1) (by decide +kernel) rfl rfl rfl (by decide +kernel)
set_option maxRecDepth 65536 in
theorem w_c1 : (Jvm.Cond.code ({ cls := "com/example/terse_tree/tersetree/VarintEncodedWordPinLaw", name := "lengthOf", desc := "(J)I" } : Jvm.MethodName) method_3_code (3 : Nat) (Option.some Jvm.ClassFile.FieldType.int)).before args0 about1 = true := code_word (m := ⟨1, 2⟩) (meth := k1m2) (c := k1c2) (by decide +kernel) rfl rfl rfl (by decide +kernel)
set_option maxRecDepth 65536 in
theorem w_c2 : (Jvm.Cond.code ({ cls := "com/example/terse_tree/tersetree/VarintEncodedWordPinLaw", name := "group", desc := "(JII)J" } : Jvm.MethodName) method_4_code (6 : Nat) (Option.some Jvm.ClassFile.FieldType.long)).before args0 about1 = true := code_word (m := ⟨1, 3⟩) (meth := k1m3) (c := k1c3) (by decide +kernel) rfl rfl rfl (by decide +kernel)
set_option maxRecDepth 65536 in
theorem w_c3 : (Jvm.Cond.code ({ cls := "com/example/terse_tree/tersetree/Varint", name := "encodedWord", desc := "(JI)J" } : Jvm.MethodName) prog_43_method_5_code (11 : Nat) (Option.some Jvm.ClassFile.FieldType.long)).before args0 about1 = true := code_word (m := ⟨2, 1⟩) (meth := k2m1) (c := k2c1) (by decide +kernel) rfl rfl rfl (by decide +kernel)
def codes1 : List Jvm.Cond := [Jvm.Cond.code x code maxLocals ret, Jvm.Cond.code ({ cls := "com/example/terse_tree/tersetree/VarintEncodedWordPinLaw", name := "lengthOf", desc := "(J)I" } : Jvm.MethodName) method_3_code (3 : Nat) (Option.some Jvm.ClassFile.FieldType.int), Jvm.Cond.code ({ cls := "com/example/terse_tree/tersetree/VarintEncodedWordPinLaw", name := "group", desc := "(JII)J" } : Jvm.MethodName) method_4_code (6 : Nat) (Option.some Jvm.ClassFile.FieldType.long), Jvm.Cond.code ({ cls := "com/example/terse_tree/tersetree/Varint", name := "encodedWord", desc := "(JI)J" } : Jvm.MethodName) prog_43_method_5_code (11 : Nat) (Option.some Jvm.ClassFile.FieldType.long)]
set_option maxRecDepth 65536 in
theorem codes_eq : words1.filter isCode = codes1 := rfl
theorem w_codes : ∀ c ∈ words1.filter isCode, c.before args0 about1 = true := by
  rw [codes_eq]
  intro c hc
  simp only [codes1, List.mem_cons, List.not_mem_nil, or_false] at hc
  rcases hc with rfl | rfl | rfl | rfl
  · exact w_c0
  · exact w_c1
  · exact w_c2
  · exact w_c3
set_option maxRecDepth 65536 in
theorem w_t1 : (words1.take 24).all (fun c => isCode c || c.before args0 about1) = true := by decide +kernel
set_option maxRecDepth 65536 in
theorem w_t2 : (words1.drop 24).all (fun c => isCode c || c.before args0 about1) = true := by decide +kernel
theorem w_tables : (allAtoms (Jvm.Cond.code x code maxLocals ret :: tables_1)).before args0 about1 = true := by
  rw [allAtoms_all]
  show words1.all (fun c => c.before args0 about1) = true
  refine all_split ?_ w_codes
  rw [← List.take_append_drop 24 words1, List.all_append, w_t1, w_t2]
  rfl
set_option maxRecDepth 65536 in
theorem w_case : (Jvm.Cond.and given_1 narrow_1).before args0 about1 = true := by decide +kernel
theorem w_applies : (headSpec (Jvm.Cond.code x code maxLocals ret :: tables_1) room_1).applies x e0.platform about1 = true :=
  (Spec.applies_iff w_frames).mpr ⟨w_running, w_runnable, w_alone, w_named, w_hears, w_ripe, w_room, w_tables⟩
theorem atStart : AtStart classFile x code maxLocals ret World_1 tables_1 room_1 Calls_1 rest_1 Pre_1 launch0 p0 e0 about1 theMethod args0 below0 :=
  ⟨lists_1, trivial, launch0.admits_env _ _ _, launch0.least_env, fairChoices_fair.cas, fairChoices_fair.clock, w_frames, w_args, w_heap, w_applies, trivial, trivial, w_case⟩
end start1
theorem witness_1 : WitnessClaimed_1 := ⟨start1.p0, start1.e0, start1.about1, start1.theMethod, start1.args0, start1.below0, start1.atStart⟩
end Jvm.Pilot.@@N@@
