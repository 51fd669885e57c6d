import JvmDerived
import JvmDerived.Pilot.@@N@@Statement
import JvmDerived.Pilot.@@N@@Code
set_option linter.unusedVariables false
set_option linter.unusedSimpArgs false
namespace Jvm.RoadKit
open Sem ClassFile Op Lib Jvm.Stand Jvm.Free Jvm.LawKit
section New
variable {p : Program} {l : Launch} {e : Env} {R : Room} {s : State} {m : MethodId} {args : Array Value} {below : List Frame} {meth : Method} {c : Code} {T : State} {locs : List Loc} {cells slots : Nat}
theorem retI (X : Stand p l e R s m args below meth c T locs cells slots) (hx : p.tables.exec = Jvm.exec) {pc : Nat} {Ls : Array Slot} {z : Int32} {rest : List Value} (hret : meth.sig.returnType = some .int) (hd : decode c.code pc = .ok (.ireturn, 1)) {fs : List Frame}
    (hl : ∀ (f : JFrame) (acts : List Action), f.method = m → f.locked = none → f.entered = [] → (doReturn e (T.setTop f) acts (some (.int z))).1 = T.setFrames fs) : Steps p.tables e below (T.setTop (mkF m pc Ls (.int z :: rest))) (T.setFrames fs) := by
  have hm' : T.vm.method? m = some meth := X.method'
  have hn : narrow .int (.int z) = .int z := rfl
  show Steps p.tables e below (T.setTop { method := m, pc := pc, locals := Ls, stack := _ :: rest, locked := none }) _
  jvm_step X.here [X.here.top, hx, hd, hm', hret, hn]
  first | (intro acts; rw [hl _ acts rfl rfl rfl]) | rw [hl _ _ rfl rfl rfl]
  exact Steps.refl _
end New
end Jvm.RoadKit
namespace Jvm.Pilot.@@N@@
open Jvm Jvm.ClassFile Sem Op Lib Jvm.Free Jvm.Stand Jvm.LawKit Jvm.RoadKit Bundle Jvm.Pilot.@@N@@.Jvm.D
theorem d1_0 : decode method_2_code 0 = .ok (.iload_n 2, 1) := by decide +kernel
theorem d1_1 : decode method_2_code 1 = .ok (.iload_n 3, 1) := by decide +kernel
theorem d1_2 : decode method_2_code 2 = .ok (.if_icmp .ge 19, 3) := by decide +kernel
theorem d1_5 : decode method_2_code 5 = .ok (.lload_n 0, 1) := by decide +kernel
theorem d1_6 : decode method_2_code 6 = .ok (.bipush 8, 2) := by decide +kernel
theorem d1_8 : decode method_2_code 8 = .ok (.iload_n 2, 1) := by decide +kernel
theorem d1_9 : decode method_2_code 9 = .ok (.imul, 1) := by decide +kernel
theorem d1_10 : decode method_2_code 10 = .ok (.lushr, 1) := by decide +kernel
theorem d1_11 : decode method_2_code 11 = .ok (.ldc2_w 7, 3) := by decide +kernel
theorem d1_14 : decode method_2_code 14 = .ok (.land, 1) := by decide +kernel
theorem d1_15 : decode method_2_code 15 = .ok (.bipush 7, 2) := by decide +kernel
theorem d1_17 : decode method_2_code 17 = .ok (.iload_n 2, 1) := by decide +kernel
theorem d1_18 : decode method_2_code 18 = .ok (.imul, 1) := by decide +kernel
theorem d1_19 : decode method_2_code 19 = .ok (.lshl, 1) := by decide +kernel
theorem d1_20 : decode method_2_code 20 = .ok (.lreturn, 1) := by decide +kernel
theorem d1_21 : decode method_2_code 21 = .ok (.lconst 0, 1) := by decide +kernel
theorem d1_22 : decode method_2_code 22 = .ok (.lreturn, 1) := by decide +kernel
theorem pn_1 : plainName "com/example/terse_tree/tersetree/VarintWordValuePinLaw" = true := by first | (simp [plainName, overriddenIn]; done) | decide +kernel
theorem ef_1 (m : MethodId) (x0 : Int64) (x1 : Int32) (x2 : Int32) : entryFrame m #[(.long x0), (.int x1), (.int x2)] 4 = mkF m 0 #[.val (.long x0), .second, .val (.int x1), .val (.int x2)] [] := by first | (simp [entryFrame, mkF, argsToLocals, Value.category]; done) | rfl
theorem d2_0 : decode prog_43_method_12_code 0 = .ok (.lload_n 0, 1) := by decide +kernel
theorem d2_1 : decode prog_43_method_12_code 1 = .ok (.ldc2_w 70, 3) := by decide +kernel
theorem d2_4 : decode prog_43_method_12_code 4 = .ok (.bipush 64, 2) := by decide +kernel
theorem d2_6 : decode prog_43_method_12_code 6 = .ok (.bipush 8, 2) := by decide +kernel
theorem d2_8 : decode prog_43_method_12_code 8 = .ok (.iload_n 2, 1) := by decide +kernel
theorem d2_9 : decode prog_43_method_12_code 9 = .ok (.imul, 1) := by decide +kernel
theorem d2_10 : decode prog_43_method_12_code 10 = .ok (.isub, 1) := by decide +kernel
theorem d2_11 : decode prog_43_method_12_code 11 = .ok (.lushr, 1) := by decide +kernel
theorem d2_12 : decode prog_43_method_12_code 12 = .ok (.land, 1) := by decide +kernel
theorem d2_13 : decode prog_43_method_12_code 13 = .ok (.lstore_n 3, 1) := by decide +kernel
theorem d2_14 : decode prog_43_method_12_code 14 = .ok (.lload_n 3, 1) := by decide +kernel
theorem d2_15 : decode prog_43_method_12_code 15 = .ok (.ldc2_w 31, 3) := by decide +kernel
theorem d2_18 : decode prog_43_method_12_code 18 = .ok (.land, 1) := by decide +kernel
theorem d2_19 : decode prog_43_method_12_code 19 = .ok (.lload_n 3, 1) := by decide +kernel
theorem d2_20 : decode prog_43_method_12_code 20 = .ok (.ldc2_w 75, 3) := by decide +kernel
theorem d2_23 : decode prog_43_method_12_code 23 = .ok (.land, 1) := by decide +kernel
theorem d2_24 : decode prog_43_method_12_code 24 = .ok (.iconst 1, 1) := by decide +kernel
theorem d2_25 : decode prog_43_method_12_code 25 = .ok (.lushr, 1) := by decide +kernel
theorem d2_26 : decode prog_43_method_12_code 26 = .ok (.lor, 1) := by decide +kernel
theorem d2_27 : decode prog_43_method_12_code 27 = .ok (.lstore 5, 2) := by decide +kernel
theorem d2_29 : decode prog_43_method_12_code 29 = .ok (.lload 5, 2) := by decide +kernel
theorem d2_31 : decode prog_43_method_12_code 31 = .ok (.ldc2_w 27, 3) := by decide +kernel
theorem d2_34 : decode prog_43_method_12_code 34 = .ok (.land, 1) := by decide +kernel
theorem d2_35 : decode prog_43_method_12_code 35 = .ok (.lload 5, 2) := by decide +kernel
theorem d2_37 : decode prog_43_method_12_code 37 = .ok (.ldc2_w 77, 3) := by decide +kernel
theorem d2_40 : decode prog_43_method_12_code 40 = .ok (.land, 1) := by decide +kernel
theorem d2_41 : decode prog_43_method_12_code 41 = .ok (.iconst 2, 1) := by decide +kernel
theorem d2_42 : decode prog_43_method_12_code 42 = .ok (.lushr, 1) := by decide +kernel
theorem d2_43 : decode prog_43_method_12_code 43 = .ok (.lor, 1) := by decide +kernel
theorem d2_44 : decode prog_43_method_12_code 44 = .ok (.lstore 7, 2) := by decide +kernel
theorem d2_46 : decode prog_43_method_12_code 46 = .ok (.lload 7, 2) := by decide +kernel
theorem d2_48 : decode prog_43_method_12_code 48 = .ok (.ldc2_w 23, 3) := by decide +kernel
theorem d2_51 : decode prog_43_method_12_code 51 = .ok (.land, 1) := by decide +kernel
theorem d2_52 : decode prog_43_method_12_code 52 = .ok (.lload 7, 2) := by decide +kernel
theorem d2_54 : decode prog_43_method_12_code 54 = .ok (.ldc2_w 79, 3) := by decide +kernel
theorem d2_57 : decode prog_43_method_12_code 57 = .ok (.land, 1) := by decide +kernel
theorem d2_58 : decode prog_43_method_12_code 58 = .ok (.iconst 4, 1) := by decide +kernel
theorem d2_59 : decode prog_43_method_12_code 59 = .ok (.lushr, 1) := by decide +kernel
theorem d2_60 : decode prog_43_method_12_code 60 = .ok (.lor, 1) := by decide +kernel
theorem d2_61 : decode prog_43_method_12_code 61 = .ok (.lreturn, 1) := by decide +kernel
theorem pn_2 : plainName "com/example/terse_tree/tersetree/Varint" = true := by first | (simp [plainName, overriddenIn]; done) | decide +kernel
theorem ef_2 (m : MethodId) (x0 : Int64) (x1 : Int32) : entryFrame m #[(.long x0), (.int x1)] 9 = mkF m 0 #[.val (.long x0), .second, .val (.int x1), .unset, .unset, .unset, .unset, .unset, .unset] [] := by first | (simp [entryFrame, mkF, argsToLocals, Value.category]; done) | rfl
theorem pn_0 : plainName "com/example/terse_tree/tersetree/VarintWordValuePinLaw" = true := by first | (simp [plainName, overriddenIn]; done) | decide +kernel
theorem pd0_0 : parseMethodDescriptor "(JII)J" = some ⟨[.long, .int, .int], some .long⟩ := by decide +kernel
theorem pd0_1 : parseMethodDescriptor "(JI)J" = some ⟨[.long, .int], some .long⟩ := by decide +kernel
theorem ef_0 (m : MethodId) (x0 : Int64) (x1 : Int32) : entryFrame m #[(.long x0), (.int x1)] maxLocals = mkF m 0 #[.val (.long x0), .second, .val (.int x1), .unset, .unset, .unset, .unset, .unset, .unset, .unset, .unset, .unset, .unset, .unset] [] := by first | (simp [entryFrame, mkF, argsToLocals, Value.category, maxLocals]; done) | rfl
def sp1 (p1 : Int64) (p2 : Int32) (p3 : Int32) : Int64 := (if p2 < p3 then ((((p1.toUInt64 >>> (((8 : Int32) * p2) &&& 0x3f).toInt64.toUInt64).toInt64) &&& (127 : Int64)) <<< (((7 : Int32) * p2) &&& 0x3f).toInt64) else (0 : Int64))
def v2_13 (p1 : Int64) (p2 : Int32) : Int64 := (p1 &&& (((-1 : Int64).toUInt64 >>> (((64 : Int32) - ((8 : Int32) * p2)) &&& 0x3f).toInt64.toUInt64).toInt64))
def v2_27 (p1 : Int64) (p2 : Int32) : Int64 := (((v2_13 p1 p2) &&& (35747867511423103 : Int64)) ||| ((((v2_13 p1 p2) &&& (9151454082924314368 : Int64)).toUInt64 >>> ((1 : Int32) &&& 0x3f).toInt64.toUInt64).toInt64))
def v2_44 (p1 : Int64) (p2 : Int32) : Int64 := (((v2_27 p1 p2) &&& (70364449226751 : Int64)) ||| ((((v2_27 p1 p2) &&& (4611404544524353536 : Int64)).toUInt64 >>> ((2 : Int32) &&& 0x3f).toInt64.toUInt64).toInt64))
def sp2 (p1 : Int64) (p2 : Int32) : Int64 := (((v2_44 p1 p2) &&& (268435455 : Int64)) ||| ((((v2_44 p1 p2) &&& (1152921500311879680 : Int64)).toUInt64 >>> ((4 : Int32) &&& 0x3f).toInt64.toUInt64).toInt64))
def v0_6 (p1 : Int64) (p2 : Int32) : Int32 := ((p2 &&& (7 : Int32)) + (1 : Int32))
def v0_46 (p1 : Int64) (p2 : Int32) : Int64 := ((p1 ||| ((-9187201950435737472 : Int64) &&& (((1 : Int64) <<< (((8 : Int32) * ((v0_6 p1 p2) - (1 : Int32))) &&& 0x3f).toInt64) - (1 : Int64)))) &&& (((128 : Int64) <<< (((8 : Int32) * ((v0_6 p1 p2) - (1 : Int32))) &&& 0x3f).toInt64) ^^^ (-1 : Int64)))
def v0_113 (p1 : Int64) (p2 : Int32) : Int64 := ((((((((sp1 (v0_46 p1 p2) (0 : Int32) (v0_6 p1 p2)) ||| (sp1 (v0_46 p1 p2) (1 : Int32) (v0_6 p1 p2))) ||| (sp1 (v0_46 p1 p2) (2 : Int32) (v0_6 p1 p2))) ||| (sp1 (v0_46 p1 p2) (3 : Int32) (v0_6 p1 p2))) ||| (sp1 (v0_46 p1 p2) (4 : Int32) (v0_6 p1 p2))) ||| (sp1 (v0_46 p1 p2) (5 : Int32) (v0_6 p1 p2))) ||| (sp1 (v0_46 p1 p2) (6 : Int32) (v0_6 p1 p2))) ||| (sp1 (v0_46 p1 p2) (7 : Int32) (v0_6 p1 p2)))
def sp0 (p1 : Int64) (p2 : Int32) : Int32 := (if (sp2 (v0_46 p1 p2) (v0_6 p1 p2)) = (v0_113 p1 p2) then (1 : Int32) else (0 : Int32))
theorem own_fin (p : Int32) (n : Nat) (h0 : 0 ≤ p.toInt) (h1 : p.toInt < (n : Int)) : ∃ k : Fin n, p = Int32.ofNat k.val := by
  refine ⟨⟨p.toInt.toNat, by omega⟩, ?_⟩
  apply Int32.toInt_inj.mp
  have h2 := p.toInt_lt
  show p.toInt = (Int32.ofNat p.toInt.toNat).toInt
  rw [Int32.toInt_ofNat_of_lt (by omega)]
  omega
def own_lin (f : Int64 → Int64) : Prop := ∀ a b, f (a ||| b) = f a ||| f b
theorem own_i64 {a b : Int64} (h : ∀ i, i < 64 → a.toBitVec.getLsbD i = b.toBitVec.getLsbD i) : a = b :=
  Int64.toBitVec_inj.mp (BitVec.eq_of_getLsbD_eq h)
theorem own_lin_id : own_lin (fun x => x) := fun _ _ => rfl
theorem own_lin_const (c : Int64) : own_lin (fun _ => c) := fun _ _ => own_i64 fun i _ => by simp
theorem own_lin_and {f : Int64 → Int64} (h : own_lin f) (c : Int64) : own_lin (fun x => f x &&& c) := fun a b => by
  show f (a ||| b) &&& c = _
  rw [h a b]
  exact own_i64 fun i _ => by simp [Bool.and_or_distrib_right]
theorem own_lin_or {f g : Int64 → Int64} (h : own_lin f) (h' : own_lin g) : own_lin (fun x => f x ||| g x) := fun a b => by
  show f (a ||| b) ||| g (a ||| b) = _
  rw [h a b, h' a b]
  refine own_i64 fun i _ => ?_
  simp only [Int64.toBitVec_or, BitVec.getLsbD_or]
  cases (f a).toBitVec.getLsbD i <;> cases (f b).toBitVec.getLsbD i <;> cases (g a).toBitVec.getLsbD i <;> cases (g b).toBitVec.getLsbD i <;> rfl
theorem own_lin_shl {f : Int64 → Int64} (h : own_lin f) (s : Int64) : own_lin (fun x => f x <<< s) := fun a b => by
  show f (a ||| b) <<< s = _
  rw [h a b]
  refine own_i64 fun i hi => ?_
  simp [Int64.toBitVec_shiftLeft, hi, Bool.and_or_distrib_left]
theorem own_lin_ushr {f : Int64 → Int64} (h : own_lin f) (s : UInt64) : own_lin (fun x => ((f x).toUInt64 >>> s).toInt64) := fun a b => by
  show ((f (a ||| b)).toUInt64 >>> s).toInt64 = _
  rw [h a b]
  refine own_i64 fun i hi => ?_
  show (((f a ||| f b).toUInt64 >>> s).toBitVec).getLsbD i = _
  simp [UInt64.toBitVec_shiftRight]
theorem own_ext {f g : Int64 → Int64} (hf : own_lin f) (hg : own_lin g) (h0 : f 0 = g 0) (hb : ∀ i : Fin 64, f (Int64.ofBitVec (BitVec.twoPow 64 i.val)) = g (Int64.ofBitVec (BitVec.twoPow 64 i.val))) : ∀ w, f w = g w := by
  have key : ∀ n, n ≤ 64 → ∀ b : BitVec 64, (∀ i, n ≤ i → b.getLsbD i = false) → f (Int64.ofBitVec b) = g (Int64.ofBitVec b) := by
    intro n
    induction n with
    | zero =>
      intro _ b hz
      have e : b = 0#64 := BitVec.eq_of_getLsbD_eq fun i _ => by rw [hz i (Nat.zero_le _)]; simp
      subst e
      exact h0
    | succ n ih =>
      intro hn b hz
      by_cases hbit : b.getLsbD n = true
      · have e : b = (b &&& ~~~(BitVec.twoPow 64 n)) ||| BitVec.twoPow 64 n := BitVec.eq_of_getLsbD_eq fun i hi => by
          simp only [BitVec.getLsbD_or, BitVec.getLsbD_and, BitVec.getLsbD_not, BitVec.getLsbD_twoPow, hi, decide_true, Bool.true_and]
          by_cases q : n = i
          · subst q; simp [hbit, hi]
          · simp [q]
        have hc : ∀ i, n ≤ i → (b &&& ~~~(BitVec.twoPow 64 n)).getLsbD i = false := fun i hi => by
          simp only [BitVec.getLsbD_and, BitVec.getLsbD_not, BitVec.getLsbD_twoPow]
          by_cases q : n = i
          · subst q; simp <;> omega
          · rw [hz i (by omega)]; simp
        have e' : Int64.ofBitVec b = Int64.ofBitVec (b &&& ~~~(BitVec.twoPow 64 n)) ||| Int64.ofBitVec (BitVec.twoPow 64 n) := by
          refine Int64.toBitVec_inj.mp ?_
          exact e
        rw [e', hf, hg, ih (by omega) _ hc, hb ⟨n, by omega⟩]
      · exact ih (by omega) b fun i hi => by
          rcases Nat.eq_or_lt_of_le hi with rfl | h
          · simpa using hbit
          · exact hz i h
  intro w
  exact key 64 (Nat.le_refl _) w.toBitVec fun i hi => BitVec.getLsbD_of_ge _ _ hi
theorem own_l13 (L : Int32) : own_lin (fun w => v2_13 w L) := own_lin_and own_lin_id _
theorem own_l27 (L : Int32) : own_lin (fun w => v2_27 w L) := own_lin_or (own_lin_and (own_l13 L) _) (own_lin_ushr (own_lin_and (own_l13 L) _) _)
theorem own_l44 (L : Int32) : own_lin (fun w => v2_44 w L) := own_lin_or (own_lin_and (own_l27 L) _) (own_lin_ushr (own_lin_and (own_l27 L) _) _)
theorem own_lsp2 (L : Int32) : own_lin (fun w => sp2 w L) := own_lin_or (own_lin_and (own_l44 L) _) (own_lin_ushr (own_lin_and (own_l44 L) _) _)
theorem own_lsp1 (i L : Int32) : own_lin (fun w => sp1 w i L) := by
  by_cases h : i < L
  · have e : (fun w => sp1 w i L) = fun w => ((((w.toUInt64 >>> (((8 : Int32) * i) &&& 0x3f).toInt64.toUInt64).toInt64) &&& (127 : Int64)) <<< (((7 : Int32) * i) &&& 0x3f).toInt64) := by funext w; unfold sp1; rw [if_pos h]
    rw [e]
    exact own_lin_shl (own_lin_and (own_lin_ushr own_lin_id _) _) _
  · have e : (fun w => sp1 w i L) = fun _ => (0 : Int64) := by funext w; unfold sp1; rw [if_neg h]
    rw [e]
    exact own_lin_const _
def own_ex (w : Int64) (L : Int32) : Int64 := ((((((((sp1 w (0 : Int32) L) ||| (sp1 w (1 : Int32) L)) ||| (sp1 w (2 : Int32) L)) ||| (sp1 w (3 : Int32) L)) ||| (sp1 w (4 : Int32) L)) ||| (sp1 w (5 : Int32) L)) ||| (sp1 w (6 : Int32) L)) ||| (sp1 w (7 : Int32) L))
theorem own_lex (L : Int32) : own_lin (fun w => own_ex w L) :=
  own_lin_or (own_lin_or (own_lin_or (own_lin_or (own_lin_or (own_lin_or (own_lin_or (own_lsp1 0 L) (own_lsp1 1 L)) (own_lsp1 2 L)) (own_lsp1 3 L)) (own_lsp1 4 L)) (own_lsp1 5 L)) (own_lsp1 6 L)) (own_lsp1 7 L)
theorem own_zero : ∀ k : Fin 8, sp2 0 (Int32.ofNat k.val + 1) = own_ex 0 (Int32.ofNat k.val + 1) := by decide +kernel
theorem own_bits : ∀ k : Fin 8, ∀ i : Fin 64, sp2 (Int64.ofBitVec (BitVec.twoPow 64 i.val)) (Int32.ofNat k.val + 1) = own_ex (Int64.ofBitVec (BitVec.twoPow 64 i.val)) (Int32.ofNat k.val + 1) := by decide +kernel
theorem own_all (k : Fin 8) (w : Int64) : sp2 w (Int32.ofNat k.val + 1) = own_ex w (Int32.ofNat k.val + 1) :=
  own_ext (own_lsp2 _) (own_lex _) (own_zero k) (own_bits k) w
theorem own_law (p1 : Int64) (p2 : Int32) : sp0 p1 p2 = 1 := by
  obtain ⟨k, hk⟩ := own_fin (p2 &&& 7) 8 (by rw [c_mask p2 7 3 (by decide) (by decide)]; omega) (by rw [c_mask p2 7 3 (by decide) (by decide)]; omega)
  have h6 : v0_6 p1 p2 = Int32.ofNat k.val + 1 := by unfold v0_6; rw [hk]
  have h : sp2 (v0_46 p1 p2) (v0_6 p1 p2) = v0_113 p1 p2 := by
    unfold v0_113
    rw [h6]
    exact own_all k _
  unfold sp0
  rw [if_pos h]
def Q1 (Z : State) (p1 : Int64) (p2 : Int32) (p3 : Int32) (h0 : Heap) (n0 : Nat) (v : Option Value) (h : Heap) (L : List Loc) : Prop := v = some (.long (sp1 p1 p2 p3)) ∧ Fr n0 L ∧ h = h0
set_option maxRecDepth 65536 in
set_option maxHeartbeats 40000000 in
theorem rm1 (l : Launch) (Z : State) (a0 : Array Value) (hw : ∀ d ∈ tables_1, d.before a0 Z = true) (ws : List Jvm.Cond) (p1 : Int64) (p2 : Int32) (p3 : Int32) (h0 : Heap) (n0 : Nat) (Z0 : n0 ≤ h0.size) :
    MetFree l (⟨"com/example/terse_tree/tersetree/VarintWordValuePinLaw", "term", "(JII)J"⟩ : MethodName) (head1 (Jvm.Cond.code (⟨"com/example/terse_tree/tersetree/VarintWordValuePinLaw", "term", "(JII)J"⟩ : MethodName) method_2_code 4 (some .long) :: ws) ({ frames := 0, cells := 0, slots := 0, locals := 0 } : Room)) (fun a U => a = #[(.long p1), (.int p2), (.int p3)] ∧ Z.Warmed39 U.vm ∧ U.heap = h0) (fun _ _ _ _ _ => True) (fun _ U o U' => ∃ v L, o = .returned v ∧ Q1 Z p1 p2 p3 h0 n0 v U'.heap L ∧ FrameEnd U o U' L ({ frames := 0, cells := 0, slots := 0, locals := 0 } : Room).cells ({ frames := 0, cells := 0, slots := 0, locals := 0 } : Room).slots) := by
  refine MetFree.of_bodySF (plainFor_of_name pn_1) hisR ?_
  intro p e s m args below meth c s₁ Bd hml0 hP hK
  obtain ⟨rfl, hZ, hh⟩ := hP
  have hx := Bd.exec
  have hby := Bd.bytes
  have hml : c.maxLocals = 4 := hml0
  have hown : s.vm.findClass "com/example/terse_tree/tersetree/VarintWordValuePinLaw" = some m.cls := findClass_of_methodNamed Bd.named
  have hnm := (name_of_methodNamed Bd.named Bd.method).1
  have X0 : Stand p l e ({ frames := 0, cells := 0, slots := 0, locals := 0 } : Room) s m #[(.long p1), (.int p2), (.int p3)] below meth c s₁ [] 0 0 := Stand.of_body Bd
  have e0 : s₁.heap = h0 := by rw [← hh, Bd.state]; rfl
  have N0 := Fr.nil n0
  have pre0 : ∀ t, Steps p.tables e below (s₁.setTop (mkF m 0 #[.val (.long p1), .second, .val (.int p2), .val (.int p3)] [])) t → Steps p.tables e below (s₁.setTop (entryFrame m #[(.long p1), (.int p2), (.int p3)] 4)) t := fun t k => castTop (ef_1 m p1 p2 p3) k
  have pre1 : ∀ t, Steps p.tables e below (s₁.setTop (mkF m 0 #[.val (.long p1), .second, .val (.int p2), .val (.int p3)] [])) t → Steps p.tables e below (s₁.setTop (mkF m 0 #[.val (.long p1), .second, .val (.int p2), .val (.int p3)] [])) t := fun t k => k
  have k2 : ∀ t, Steps p.tables e below (s₁.setTop (mkF m 2 #[.val (.long p1), .second, .val (.int p2), .val (.int p3)] [(.int p3), (.int p2)])) t → Steps p.tables e below (s₁.setTop (mkF m 0 #[.val (.long p1), .second, .val (.int p2), .val (.int p3)] [])) t := fun t kt => pre1 t (by
    show Steps p.tables e below (s₁.setTop (mkF m 0 #[.val (.long p1), .second, .val (.int p2), .val (.int p3)] [])) _
    refine XS.iloadN X0.here hx rfl (hb hby d1_0) rfl ?_
    show Steps p.tables e below (s₁.setTop (mkF m 1 #[.val (.long p1), .second, .val (.int p2), .val (.int p3)] [(.int p2)])) _
    refine XS.iloadN X0.here hx rfl (hb hby d1_1) rfl ?_
    exact kt)
  by_cases c2_1 : p2 < p3
  · obtain ⟨fs, hr, hrun, hended, hW, hsame⟩ := X0.leave (v := some (.long ((((p1.toUInt64 >>> (((8 : Int32) * p2) &&& 0x3f).toInt64.toUInt64).toInt64) &&& (127 : Int64)) <<< (((7 : Int32) * p2) &&& 0x3f).toInt64))) (fun h => by rw [Bd.returns] at h; cases h)
    refine ⟨_, _, pre0 _ (k2 _ ?_), hrun, hended, _, _, rfl, ?_, ⟨_, rfl⟩, hW, hsame.mono (by decide) (by decide)⟩
    · show Steps p.tables e below (s₁.setTop (mkF m 2 #[.val (.long p1), .second, .val (.int p2), .val (.int p3)] [(.int p3), (.int p2)])) _
      refine XS.icmpNo X0.here hx rfl (hb hby d1_2) rfl (tlt c2_1).2.1 ?_
      show Steps p.tables e below (s₁.setTop (mkF m 5 #[.val (.long p1), .second, .val (.int p2), .val (.int p3)] [])) _
      refine XS.lloadN X0.here hx rfl (hb hby d1_5) rfl ?_
      show Steps p.tables e below (s₁.setTop (mkF m 6 #[.val (.long p1), .second, .val (.int p2), .val (.int p3)] [(.long p1)])) _
      refine XS.bipush X0.here hx rfl (hb hby d1_6) ?_
      show Steps p.tables e below (s₁.setTop (mkF m 8 #[.val (.long p1), .second, .val (.int p2), .val (.int p3)] [(.int (8 : Int32)), (.long p1)])) _
      refine XS.iloadN X0.here hx rfl (hb hby d1_8) rfl ?_
      show Steps p.tables e below (s₁.setTop (mkF m 9 #[.val (.long p1), .second, .val (.int p2), .val (.int p3)] [(.int p2), (.int (8 : Int32)), (.long p1)])) _
      refine XS.imul X0.here hx rfl (hb hby d1_9) rfl ?_
      show Steps p.tables e below (s₁.setTop (mkF m 10 #[.val (.long p1), .second, .val (.int p2), .val (.int p3)] [(.int ((8 : Int32) * p2)), (.long p1)])) _
      refine XS.lushr X0.here hx rfl (hb hby d1_10) rfl ?_
      show Steps p.tables e below (s₁.setTop (mkF m 11 #[.val (.long p1), .second, .val (.int p2), .val (.int p3)] [(.long ((p1.toUInt64 >>> (((8 : Int32) * p2) &&& 0x3f).toInt64.toUInt64).toInt64))])) _
      refine X0.ldc2Long hx hown (mvT hZ (hw _ (List.mem_of_getElem? (i := 7) rfl))) (g := (mkF m 11 #[.val (.long p1), .second, .val (.int p2), .val (.int p3)] [(.long ((p1.toUInt64 >>> (((8 : Int32) * p2) &&& 0x3f).toInt64.toUInt64).toInt64))])) rfl (hb hby d1_11) _ ?_
      show Steps p.tables e below (s₁.setTop (mkF m 14 #[.val (.long p1), .second, .val (.int p2), .val (.int p3)] [(.long (127 : Int64)), (.long ((p1.toUInt64 >>> (((8 : Int32) * p2) &&& 0x3f).toInt64.toUInt64).toInt64))])) _
      refine XS.land X0.here hx rfl (hb hby d1_14) rfl ?_
      show Steps p.tables e below (s₁.setTop (mkF m 15 #[.val (.long p1), .second, .val (.int p2), .val (.int p3)] [(.long (((p1.toUInt64 >>> (((8 : Int32) * p2) &&& 0x3f).toInt64.toUInt64).toInt64) &&& (127 : Int64)))])) _
      refine XS.bipush X0.here hx rfl (hb hby d1_15) ?_
      show Steps p.tables e below (s₁.setTop (mkF m 17 #[.val (.long p1), .second, .val (.int p2), .val (.int p3)] [(.int (7 : Int32)), (.long (((p1.toUInt64 >>> (((8 : Int32) * p2) &&& 0x3f).toInt64.toUInt64).toInt64) &&& (127 : Int64)))])) _
      refine XS.iloadN X0.here hx rfl (hb hby d1_17) rfl ?_
      show Steps p.tables e below (s₁.setTop (mkF m 18 #[.val (.long p1), .second, .val (.int p2), .val (.int p3)] [(.int p2), (.int (7 : Int32)), (.long (((p1.toUInt64 >>> (((8 : Int32) * p2) &&& 0x3f).toInt64.toUInt64).toInt64) &&& (127 : Int64)))])) _
      refine XS.imul X0.here hx rfl (hb hby d1_18) rfl ?_
      show Steps p.tables e below (s₁.setTop (mkF m 19 #[.val (.long p1), .second, .val (.int p2), .val (.int p3)] [(.int ((7 : Int32) * p2)), (.long (((p1.toUInt64 >>> (((8 : Int32) * p2) &&& 0x3f).toInt64.toUInt64).toInt64) &&& (127 : Int64)))])) _
      refine XS.lshl X0.here hx rfl (hb hby d1_19) rfl ?_
      show Steps p.tables e below (s₁.setTop (mkF m 20 #[.val (.long p1), .second, .val (.int p2), .val (.int p3)] [(.long ((((p1.toUInt64 >>> (((8 : Int32) * p2) &&& 0x3f).toInt64.toUInt64).toInt64) &&& (127 : Int64)) <<< (((7 : Int32) * p2) &&& 0x3f).toInt64))])) _
      exact X0.lreturnOut hx Bd.returns (hb hby d1_20) hr
    · show Q1 Z p1 p2 p3 h0 n0 _ s₁.heap _
      rw [e0]
      have hv : sp1 p1 p2 p3 = ((((p1.toUInt64 >>> (((8 : Int32) * p2) &&& 0x3f).toInt64.toUInt64).toInt64) &&& (127 : Int64)) <<< (((7 : Int32) * p2) &&& 0x3f).toInt64) := by unfold sp1; rw [if_pos c2_1]
      exact ⟨by rw [hv], N0, rfl⟩
  · obtain ⟨fs, hr, hrun, hended, hW, hsame⟩ := X0.leave (v := some (.long (0 : Int64))) (fun h => by rw [Bd.returns] at h; cases h)
    refine ⟨_, _, pre0 _ (k2 _ ?_), hrun, hended, _, _, rfl, ?_, ⟨_, rfl⟩, hW, hsame.mono (by decide) (by decide)⟩
    · show Steps p.tables e below (s₁.setTop (mkF m 2 #[.val (.long p1), .second, .val (.int p2), .val (.int p3)] [(.int p3), (.int p2)])) _
      refine XS.icmpYes X0.here hx rfl (pc0 := 2) (pc' := 21) rfl (hb hby d1_2) rfl (flt c2_1).2.1 (by decide) (by decide) ?_
      show Steps p.tables e below (s₁.setTop (mkF m 21 #[.val (.long p1), .second, .val (.int p2), .val (.int p3)] [])) _
      refine XS.lconst X0.here hx rfl (hb hby d1_21) ?_
      show Steps p.tables e below (s₁.setTop (mkF m 22 #[.val (.long p1), .second, .val (.int p2), .val (.int p3)] [(.long (0 : Int64))])) _
      exact X0.lreturnOut hx Bd.returns (hb hby d1_22) hr
    · show Q1 Z p1 p2 p3 h0 n0 _ s₁.heap _
      rw [e0]
      have hv : sp1 p1 p2 p3 = (0 : Int64) := by unfold sp1; rw [if_neg c2_1]
      exact ⟨by rw [hv], N0, rfl⟩
def Q2 (Z : State) (p1 : Int64) (p2 : Int32) (h0 : Heap) (n0 : Nat) (v : Option Value) (h : Heap) (L : List Loc) : Prop := v = some (.long (sp2 p1 p2)) ∧ Fr n0 L ∧ h = h0
set_option maxRecDepth 65536 in
set_option maxHeartbeats 40000000 in
theorem rm2 (l : Launch) (Z : State) (a0 : Array Value) (hw : ∀ d ∈ tables_1, d.before a0 Z = true) (ws : List Jvm.Cond) (p1 : Int64) (p2 : Int32) (h0 : Heap) (n0 : Nat) (Z0 : n0 ≤ h0.size) :
    MetFree l (⟨"com/example/terse_tree/tersetree/Varint", "wordValue", "(JI)J"⟩ : MethodName) (head1 (Jvm.Cond.code (⟨"com/example/terse_tree/tersetree/Varint", "wordValue", "(JI)J"⟩ : MethodName) prog_43_method_12_code 9 (some .long) :: ws) ({ frames := 0, cells := 0, slots := 0, locals := 0 } : Room)) (fun a U => a = #[(.long p1), (.int p2)] ∧ Z.Warmed39 U.vm ∧ U.heap = h0) (fun _ _ _ _ _ => True) (fun _ U o U' => ∃ v L, o = .returned v ∧ Q2 Z p1 p2 h0 n0 v U'.heap L ∧ FrameEnd U o U' L ({ frames := 0, cells := 0, slots := 0, locals := 0 } : Room).cells ({ frames := 0, cells := 0, slots := 0, locals := 0 } : Room).slots) := by
  refine MetFree.of_bodySF (plainFor_of_name pn_2) hisR ?_
  intro p e s m args below meth c s₁ Bd hml0 hP hK
  obtain ⟨rfl, hZ, hh⟩ := hP
  have hx := Bd.exec
  have hby := Bd.bytes
  have hml : c.maxLocals = 9 := hml0
  have hown : s.vm.findClass "com/example/terse_tree/tersetree/Varint" = some m.cls := findClass_of_methodNamed Bd.named
  have hnm := (name_of_methodNamed Bd.named Bd.method).1
  have X0 : Stand p l e ({ frames := 0, cells := 0, slots := 0, locals := 0 } : Room) s m #[(.long p1), (.int p2)] below meth c s₁ [] 0 0 := Stand.of_body Bd
  have e0 : s₁.heap = h0 := by rw [← hh, Bd.state]; rfl
  have N0 := Fr.nil n0
  have pre0 : ∀ t, Steps p.tables e below (s₁.setTop (mkF m 0 #[.val (.long p1), .second, .val (.int p2), .unset, .unset, .unset, .unset, .unset, .unset] [])) t → Steps p.tables e below (s₁.setTop (entryFrame m #[(.long p1), (.int p2)] 9)) t := fun t k => castTop (ef_2 m p1 p2) k
  have pre1 : ∀ t, Steps p.tables e below (s₁.setTop (mkF m 0 #[.val (.long p1), .second, .val (.int p2), .unset, .unset, .unset, .unset, .unset, .unset] [])) t → Steps p.tables e below (s₁.setTop (mkF m 0 #[.val (.long p1), .second, .val (.int p2), .unset, .unset, .unset, .unset, .unset, .unset] [])) t := fun t k => k
  obtain ⟨fs, hr, hrun, hended, hW, hsame⟩ := X0.leave (v := some (.long (((v2_44 p1 p2) &&& (268435455 : Int64)) ||| ((((v2_44 p1 p2) &&& (1152921500311879680 : Int64)).toUInt64 >>> ((4 : Int32) &&& 0x3f).toInt64.toUInt64).toInt64)))) (fun h => by rw [Bd.returns] at h; cases h)
  refine ⟨_, _, pre0 _ (pre1 _ ?_), hrun, hended, _, _, rfl, ?_, ⟨_, rfl⟩, hW, hsame.mono (by decide) (by decide)⟩
  · show Steps p.tables e below (s₁.setTop (mkF m 0 #[.val (.long p1), .second, .val (.int p2), .unset, .unset, .unset, .unset, .unset, .unset] [])) _
    refine XS.lloadN X0.here hx rfl (hb hby d2_0) rfl ?_
    show Steps p.tables e below (s₁.setTop (mkF m 1 #[.val (.long p1), .second, .val (.int p2), .unset, .unset, .unset, .unset, .unset, .unset] [(.long p1)])) _
    refine X0.ldc2Long hx hown (mvT hZ (hw _ (List.mem_of_getElem? (i := 12) rfl))) (g := (mkF m 1 #[.val (.long p1), .second, .val (.int p2), .unset, .unset, .unset, .unset, .unset, .unset] [(.long p1)])) rfl (hb hby d2_1) _ ?_
    show Steps p.tables e below (s₁.setTop (mkF m 4 #[.val (.long p1), .second, .val (.int p2), .unset, .unset, .unset, .unset, .unset, .unset] [(.long (-1 : Int64)), (.long p1)])) _
    refine XS.bipush X0.here hx rfl (hb hby d2_4) ?_
    show Steps p.tables e below (s₁.setTop (mkF m 6 #[.val (.long p1), .second, .val (.int p2), .unset, .unset, .unset, .unset, .unset, .unset] [(.int (64 : Int32)), (.long (-1 : Int64)), (.long p1)])) _
    refine XS.bipush X0.here hx rfl (hb hby d2_6) ?_
    show Steps p.tables e below (s₁.setTop (mkF m 8 #[.val (.long p1), .second, .val (.int p2), .unset, .unset, .unset, .unset, .unset, .unset] [(.int (8 : Int32)), (.int (64 : Int32)), (.long (-1 : Int64)), (.long p1)])) _
    refine XS.iloadN X0.here hx rfl (hb hby d2_8) rfl ?_
    show Steps p.tables e below (s₁.setTop (mkF m 9 #[.val (.long p1), .second, .val (.int p2), .unset, .unset, .unset, .unset, .unset, .unset] [(.int p2), (.int (8 : Int32)), (.int (64 : Int32)), (.long (-1 : Int64)), (.long p1)])) _
    refine XS.imul X0.here hx rfl (hb hby d2_9) rfl ?_
    show Steps p.tables e below (s₁.setTop (mkF m 10 #[.val (.long p1), .second, .val (.int p2), .unset, .unset, .unset, .unset, .unset, .unset] [(.int ((8 : Int32) * p2)), (.int (64 : Int32)), (.long (-1 : Int64)), (.long p1)])) _
    refine XS.isub X0.here hx rfl (hb hby d2_10) rfl ?_
    show Steps p.tables e below (s₁.setTop (mkF m 11 #[.val (.long p1), .second, .val (.int p2), .unset, .unset, .unset, .unset, .unset, .unset] [(.int ((64 : Int32) - ((8 : Int32) * p2))), (.long (-1 : Int64)), (.long p1)])) _
    refine XS.lushr X0.here hx rfl (hb hby d2_11) rfl ?_
    show Steps p.tables e below (s₁.setTop (mkF m 12 #[.val (.long p1), .second, .val (.int p2), .unset, .unset, .unset, .unset, .unset, .unset] [(.long (((-1 : Int64).toUInt64 >>> (((64 : Int32) - ((8 : Int32) * p2)) &&& 0x3f).toInt64.toUInt64).toInt64)), (.long p1)])) _
    refine XS.land X0.here hx rfl (hb hby d2_12) rfl ?_
    show Steps p.tables e below (s₁.setTop (mkF m 13 #[.val (.long p1), .second, .val (.int p2), .unset, .unset, .unset, .unset, .unset, .unset] [(.long (p1 &&& (((-1 : Int64).toUInt64 >>> (((64 : Int32) - ((8 : Int32) * p2)) &&& 0x3f).toInt64.toUInt64).toInt64)))])) _
    refine XS.lstoreN X0.here hx rfl (hb hby d2_13) rfl (l' := #[.val (.long p1), .second, .val (.int p2), .val (.long (v2_13 p1 p2)), .second, .unset, .unset, .unset, .unset]) rfl ?_
    show Steps p.tables e below (s₁.setTop (mkF m 14 #[.val (.long p1), .second, .val (.int p2), .val (.long (v2_13 p1 p2)), .second, .unset, .unset, .unset, .unset] [])) _
    refine XS.lloadN X0.here hx rfl (hb hby d2_14) rfl ?_
    show Steps p.tables e below (s₁.setTop (mkF m 15 #[.val (.long p1), .second, .val (.int p2), .val (.long (v2_13 p1 p2)), .second, .unset, .unset, .unset, .unset] [(.long (v2_13 p1 p2))])) _
    refine X0.ldc2Long hx hown (mvT hZ (hw _ (List.mem_of_getElem? (i := 13) rfl))) (g := (mkF m 15 #[.val (.long p1), .second, .val (.int p2), .val (.long (v2_13 p1 p2)), .second, .unset, .unset, .unset, .unset] [(.long (v2_13 p1 p2))])) rfl (hb hby d2_15) _ ?_
    show Steps p.tables e below (s₁.setTop (mkF m 18 #[.val (.long p1), .second, .val (.int p2), .val (.long (v2_13 p1 p2)), .second, .unset, .unset, .unset, .unset] [(.long (35747867511423103 : Int64)), (.long (v2_13 p1 p2))])) _
    refine XS.land X0.here hx rfl (hb hby d2_18) rfl ?_
    show Steps p.tables e below (s₁.setTop (mkF m 19 #[.val (.long p1), .second, .val (.int p2), .val (.long (v2_13 p1 p2)), .second, .unset, .unset, .unset, .unset] [(.long ((v2_13 p1 p2) &&& (35747867511423103 : Int64)))])) _
    refine XS.lloadN X0.here hx rfl (hb hby d2_19) rfl ?_
    show Steps p.tables e below (s₁.setTop (mkF m 20 #[.val (.long p1), .second, .val (.int p2), .val (.long (v2_13 p1 p2)), .second, .unset, .unset, .unset, .unset] [(.long (v2_13 p1 p2)), (.long ((v2_13 p1 p2) &&& (35747867511423103 : Int64)))])) _
    refine X0.ldc2Long hx hown (mvT hZ (hw _ (List.mem_of_getElem? (i := 14) rfl))) (g := (mkF m 20 #[.val (.long p1), .second, .val (.int p2), .val (.long (v2_13 p1 p2)), .second, .unset, .unset, .unset, .unset] [(.long (v2_13 p1 p2)), (.long ((v2_13 p1 p2) &&& (35747867511423103 : Int64)))])) rfl (hb hby d2_20) _ ?_
    show Steps p.tables e below (s₁.setTop (mkF m 23 #[.val (.long p1), .second, .val (.int p2), .val (.long (v2_13 p1 p2)), .second, .unset, .unset, .unset, .unset] [(.long (9151454082924314368 : Int64)), (.long (v2_13 p1 p2)), (.long ((v2_13 p1 p2) &&& (35747867511423103 : Int64)))])) _
    refine XS.land X0.here hx rfl (hb hby d2_23) rfl ?_
    show Steps p.tables e below (s₁.setTop (mkF m 24 #[.val (.long p1), .second, .val (.int p2), .val (.long (v2_13 p1 p2)), .second, .unset, .unset, .unset, .unset] [(.long ((v2_13 p1 p2) &&& (9151454082924314368 : Int64))), (.long ((v2_13 p1 p2) &&& (35747867511423103 : Int64)))])) _
    refine XS.iconst X0.here hx rfl (hb hby d2_24) ?_
    show Steps p.tables e below (s₁.setTop (mkF m 25 #[.val (.long p1), .second, .val (.int p2), .val (.long (v2_13 p1 p2)), .second, .unset, .unset, .unset, .unset] [(.int (1 : Int32)), (.long ((v2_13 p1 p2) &&& (9151454082924314368 : Int64))), (.long ((v2_13 p1 p2) &&& (35747867511423103 : Int64)))])) _
    refine XS.lushr X0.here hx rfl (hb hby d2_25) rfl ?_
    show Steps p.tables e below (s₁.setTop (mkF m 26 #[.val (.long p1), .second, .val (.int p2), .val (.long (v2_13 p1 p2)), .second, .unset, .unset, .unset, .unset] [(.long ((((v2_13 p1 p2) &&& (9151454082924314368 : Int64)).toUInt64 >>> ((1 : Int32) &&& 0x3f).toInt64.toUInt64).toInt64)), (.long ((v2_13 p1 p2) &&& (35747867511423103 : Int64)))])) _
    refine XS.lor X0.here hx rfl (hb hby d2_26) rfl ?_
    show Steps p.tables e below (s₁.setTop (mkF m 27 #[.val (.long p1), .second, .val (.int p2), .val (.long (v2_13 p1 p2)), .second, .unset, .unset, .unset, .unset] [(.long (((v2_13 p1 p2) &&& (35747867511423103 : Int64)) ||| ((((v2_13 p1 p2) &&& (9151454082924314368 : Int64)).toUInt64 >>> ((1 : Int32) &&& 0x3f).toInt64.toUInt64).toInt64)))])) _
    refine XS.lstore X0.here hx rfl (hb hby d2_27) rfl (l' := #[.val (.long p1), .second, .val (.int p2), .val (.long (v2_13 p1 p2)), .second, .val (.long (v2_27 p1 p2)), .second, .unset, .unset]) rfl ?_
    show Steps p.tables e below (s₁.setTop (mkF m 29 #[.val (.long p1), .second, .val (.int p2), .val (.long (v2_13 p1 p2)), .second, .val (.long (v2_27 p1 p2)), .second, .unset, .unset] [])) _
    refine XS.lload X0.here hx rfl (hb hby d2_29) rfl ?_
    show Steps p.tables e below (s₁.setTop (mkF m 31 #[.val (.long p1), .second, .val (.int p2), .val (.long (v2_13 p1 p2)), .second, .val (.long (v2_27 p1 p2)), .second, .unset, .unset] [(.long (v2_27 p1 p2))])) _
    refine X0.ldc2Long hx hown (mvT hZ (hw _ (List.mem_of_getElem? (i := 15) rfl))) (g := (mkF m 31 #[.val (.long p1), .second, .val (.int p2), .val (.long (v2_13 p1 p2)), .second, .val (.long (v2_27 p1 p2)), .second, .unset, .unset] [(.long (v2_27 p1 p2))])) rfl (hb hby d2_31) _ ?_
    show Steps p.tables e below (s₁.setTop (mkF m 34 #[.val (.long p1), .second, .val (.int p2), .val (.long (v2_13 p1 p2)), .second, .val (.long (v2_27 p1 p2)), .second, .unset, .unset] [(.long (70364449226751 : Int64)), (.long (v2_27 p1 p2))])) _
    refine XS.land X0.here hx rfl (hb hby d2_34) rfl ?_
    show Steps p.tables e below (s₁.setTop (mkF m 35 #[.val (.long p1), .second, .val (.int p2), .val (.long (v2_13 p1 p2)), .second, .val (.long (v2_27 p1 p2)), .second, .unset, .unset] [(.long ((v2_27 p1 p2) &&& (70364449226751 : Int64)))])) _
    refine XS.lload X0.here hx rfl (hb hby d2_35) rfl ?_
    show Steps p.tables e below (s₁.setTop (mkF m 37 #[.val (.long p1), .second, .val (.int p2), .val (.long (v2_13 p1 p2)), .second, .val (.long (v2_27 p1 p2)), .second, .unset, .unset] [(.long (v2_27 p1 p2)), (.long ((v2_27 p1 p2) &&& (70364449226751 : Int64)))])) _
    refine X0.ldc2Long hx hown (mvT hZ (hw _ (List.mem_of_getElem? (i := 16) rfl))) (g := (mkF m 37 #[.val (.long p1), .second, .val (.int p2), .val (.long (v2_13 p1 p2)), .second, .val (.long (v2_27 p1 p2)), .second, .unset, .unset] [(.long (v2_27 p1 p2)), (.long ((v2_27 p1 p2) &&& (70364449226751 : Int64)))])) rfl (hb hby d2_37) _ ?_
    show Steps p.tables e below (s₁.setTop (mkF m 40 #[.val (.long p1), .second, .val (.int p2), .val (.long (v2_13 p1 p2)), .second, .val (.long (v2_27 p1 p2)), .second, .unset, .unset] [(.long (4611404544524353536 : Int64)), (.long (v2_27 p1 p2)), (.long ((v2_27 p1 p2) &&& (70364449226751 : Int64)))])) _
    refine XS.land X0.here hx rfl (hb hby d2_40) rfl ?_
    show Steps p.tables e below (s₁.setTop (mkF m 41 #[.val (.long p1), .second, .val (.int p2), .val (.long (v2_13 p1 p2)), .second, .val (.long (v2_27 p1 p2)), .second, .unset, .unset] [(.long ((v2_27 p1 p2) &&& (4611404544524353536 : Int64))), (.long ((v2_27 p1 p2) &&& (70364449226751 : Int64)))])) _
    refine XS.iconst X0.here hx rfl (hb hby d2_41) ?_
    show Steps p.tables e below (s₁.setTop (mkF m 42 #[.val (.long p1), .second, .val (.int p2), .val (.long (v2_13 p1 p2)), .second, .val (.long (v2_27 p1 p2)), .second, .unset, .unset] [(.int (2 : Int32)), (.long ((v2_27 p1 p2) &&& (4611404544524353536 : Int64))), (.long ((v2_27 p1 p2) &&& (70364449226751 : Int64)))])) _
    refine XS.lushr X0.here hx rfl (hb hby d2_42) rfl ?_
    show Steps p.tables e below (s₁.setTop (mkF m 43 #[.val (.long p1), .second, .val (.int p2), .val (.long (v2_13 p1 p2)), .second, .val (.long (v2_27 p1 p2)), .second, .unset, .unset] [(.long ((((v2_27 p1 p2) &&& (4611404544524353536 : Int64)).toUInt64 >>> ((2 : Int32) &&& 0x3f).toInt64.toUInt64).toInt64)), (.long ((v2_27 p1 p2) &&& (70364449226751 : Int64)))])) _
    refine XS.lor X0.here hx rfl (hb hby d2_43) rfl ?_
    show Steps p.tables e below (s₁.setTop (mkF m 44 #[.val (.long p1), .second, .val (.int p2), .val (.long (v2_13 p1 p2)), .second, .val (.long (v2_27 p1 p2)), .second, .unset, .unset] [(.long (((v2_27 p1 p2) &&& (70364449226751 : Int64)) ||| ((((v2_27 p1 p2) &&& (4611404544524353536 : Int64)).toUInt64 >>> ((2 : Int32) &&& 0x3f).toInt64.toUInt64).toInt64)))])) _
    refine XS.lstore X0.here hx rfl (hb hby d2_44) rfl (l' := #[.val (.long p1), .second, .val (.int p2), .val (.long (v2_13 p1 p2)), .second, .val (.long (v2_27 p1 p2)), .second, .val (.long (v2_44 p1 p2)), .second]) rfl ?_
    show Steps p.tables e below (s₁.setTop (mkF m 46 #[.val (.long p1), .second, .val (.int p2), .val (.long (v2_13 p1 p2)), .second, .val (.long (v2_27 p1 p2)), .second, .val (.long (v2_44 p1 p2)), .second] [])) _
    refine XS.lload X0.here hx rfl (hb hby d2_46) rfl ?_
    show Steps p.tables e below (s₁.setTop (mkF m 48 #[.val (.long p1), .second, .val (.int p2), .val (.long (v2_13 p1 p2)), .second, .val (.long (v2_27 p1 p2)), .second, .val (.long (v2_44 p1 p2)), .second] [(.long (v2_44 p1 p2))])) _
    refine X0.ldc2Long hx hown (mvT hZ (hw _ (List.mem_of_getElem? (i := 17) rfl))) (g := (mkF m 48 #[.val (.long p1), .second, .val (.int p2), .val (.long (v2_13 p1 p2)), .second, .val (.long (v2_27 p1 p2)), .second, .val (.long (v2_44 p1 p2)), .second] [(.long (v2_44 p1 p2))])) rfl (hb hby d2_48) _ ?_
    show Steps p.tables e below (s₁.setTop (mkF m 51 #[.val (.long p1), .second, .val (.int p2), .val (.long (v2_13 p1 p2)), .second, .val (.long (v2_27 p1 p2)), .second, .val (.long (v2_44 p1 p2)), .second] [(.long (268435455 : Int64)), (.long (v2_44 p1 p2))])) _
    refine XS.land X0.here hx rfl (hb hby d2_51) rfl ?_
    show Steps p.tables e below (s₁.setTop (mkF m 52 #[.val (.long p1), .second, .val (.int p2), .val (.long (v2_13 p1 p2)), .second, .val (.long (v2_27 p1 p2)), .second, .val (.long (v2_44 p1 p2)), .second] [(.long ((v2_44 p1 p2) &&& (268435455 : Int64)))])) _
    refine XS.lload X0.here hx rfl (hb hby d2_52) rfl ?_
    show Steps p.tables e below (s₁.setTop (mkF m 54 #[.val (.long p1), .second, .val (.int p2), .val (.long (v2_13 p1 p2)), .second, .val (.long (v2_27 p1 p2)), .second, .val (.long (v2_44 p1 p2)), .second] [(.long (v2_44 p1 p2)), (.long ((v2_44 p1 p2) &&& (268435455 : Int64)))])) _
    refine X0.ldc2Long hx hown (mvT hZ (hw _ (List.mem_of_getElem? (i := 18) rfl))) (g := (mkF m 54 #[.val (.long p1), .second, .val (.int p2), .val (.long (v2_13 p1 p2)), .second, .val (.long (v2_27 p1 p2)), .second, .val (.long (v2_44 p1 p2)), .second] [(.long (v2_44 p1 p2)), (.long ((v2_44 p1 p2) &&& (268435455 : Int64)))])) rfl (hb hby d2_54) _ ?_
    show Steps p.tables e below (s₁.setTop (mkF m 57 #[.val (.long p1), .second, .val (.int p2), .val (.long (v2_13 p1 p2)), .second, .val (.long (v2_27 p1 p2)), .second, .val (.long (v2_44 p1 p2)), .second] [(.long (1152921500311879680 : Int64)), (.long (v2_44 p1 p2)), (.long ((v2_44 p1 p2) &&& (268435455 : Int64)))])) _
    refine XS.land X0.here hx rfl (hb hby d2_57) rfl ?_
    show Steps p.tables e below (s₁.setTop (mkF m 58 #[.val (.long p1), .second, .val (.int p2), .val (.long (v2_13 p1 p2)), .second, .val (.long (v2_27 p1 p2)), .second, .val (.long (v2_44 p1 p2)), .second] [(.long ((v2_44 p1 p2) &&& (1152921500311879680 : Int64))), (.long ((v2_44 p1 p2) &&& (268435455 : Int64)))])) _
    refine XS.iconst X0.here hx rfl (hb hby d2_58) ?_
    show Steps p.tables e below (s₁.setTop (mkF m 59 #[.val (.long p1), .second, .val (.int p2), .val (.long (v2_13 p1 p2)), .second, .val (.long (v2_27 p1 p2)), .second, .val (.long (v2_44 p1 p2)), .second] [(.int (4 : Int32)), (.long ((v2_44 p1 p2) &&& (1152921500311879680 : Int64))), (.long ((v2_44 p1 p2) &&& (268435455 : Int64)))])) _
    refine XS.lushr X0.here hx rfl (hb hby d2_59) rfl ?_
    show Steps p.tables e below (s₁.setTop (mkF m 60 #[.val (.long p1), .second, .val (.int p2), .val (.long (v2_13 p1 p2)), .second, .val (.long (v2_27 p1 p2)), .second, .val (.long (v2_44 p1 p2)), .second] [(.long ((((v2_44 p1 p2) &&& (1152921500311879680 : Int64)).toUInt64 >>> ((4 : Int32) &&& 0x3f).toInt64.toUInt64).toInt64)), (.long ((v2_44 p1 p2) &&& (268435455 : Int64)))])) _
    refine XS.lor X0.here hx rfl (hb hby d2_60) rfl ?_
    show Steps p.tables e below (s₁.setTop (mkF m 61 #[.val (.long p1), .second, .val (.int p2), .val (.long (v2_13 p1 p2)), .second, .val (.long (v2_27 p1 p2)), .second, .val (.long (v2_44 p1 p2)), .second] [(.long (((v2_44 p1 p2) &&& (268435455 : Int64)) ||| ((((v2_44 p1 p2) &&& (1152921500311879680 : Int64)).toUInt64 >>> ((4 : Int32) &&& 0x3f).toInt64.toUInt64).toInt64)))])) _
    exact X0.lreturnOut hx Bd.returns (hb hby d2_61) hr
  · show Q2 Z p1 p2 h0 n0 _ s₁.heap _
    rw [e0]
    have hv : sp2 p1 p2 = (((v2_44 p1 p2) &&& (268435455 : Int64)) ||| ((((v2_44 p1 p2) &&& (1152921500311879680 : Int64)).toUInt64 >>> ((4 : Int32) &&& 0x3f).toInt64.toUInt64).toInt64)) := by unfold sp2; rfl
    exact ⟨by rw [hv], N0, rfl⟩
def Q0 (Z : State) (p1 : Int64) (p2 : Int32) (h0 : Heap) (n0 : Nat) (v : Option Value) (h : Heap) (L : List Loc) : Prop := v = some (.int 1) ∧ Fr n0 L
set_option maxRecDepth 65536 in
set_option maxHeartbeats 40000000 in
theorem rm0 (l : Launch) (Z : State) (a0 : Array Value) (hw : ∀ d ∈ tables_1, d.before a0 Z = true) (ws : List Jvm.Cond) (p1 : Int64) (p2 : Int32) (h0 : Heap) (n0 : Nat) (Z0 : n0 ≤ h0.size) :
    MetFree l x (head1 (Jvm.Cond.code x code maxLocals ret :: ws) room_1) (fun a U => a = #[(.long p1), (.int p2)] ∧ Z.Warmed39 U.vm ∧ U.heap = h0) (fun _ _ _ _ _ => True) (fun _ U o U' => ∃ v L, o = .returned v ∧ Q0 Z p1 p2 h0 n0 v U'.heap L ∧ FrameEnd U o U' L room_1.cells room_1.slots) := by
  refine MetFree.of_bodySF (plainFor_of_name pn_0) hisR ?_
  intro p e s m args below meth c s₁ Bd hml0 hP hK
  obtain ⟨rfl, hZ, hh⟩ := hP
  have hx := Bd.exec
  have hby := Bd.bytes
  have hml : c.maxLocals = 14 := hml0
  have hown : s.vm.findClass "com/example/terse_tree/tersetree/VarintWordValuePinLaw" = some m.cls := findClass_of_methodNamed Bd.named
  have hnm := (name_of_methodNamed Bd.named Bd.method).1
  have X0 : Stand p l e room_1 s m #[(.long p1), (.int p2)] below meth c s₁ [] 0 0 := Stand.of_body Bd
  have e0 : s₁.heap = h0 := by rw [← hh, Bd.state]; rfl
  have N0 := Fr.nil n0
  have pre0 : ∀ t, Steps p.tables e below (s₁.setTop (mkF m 0 #[.val (.long p1), .second, .val (.int p2), .unset, .unset, .unset, .unset, .unset, .unset, .unset, .unset, .unset, .unset, .unset] [])) t → Steps p.tables e below (s₁.setTop (entryFrame m #[(.long p1), (.int p2)] maxLocals)) t := fun t k => castTop (ef_0 m p1 p2) k
  have pre1 : ∀ t, Steps p.tables e below (s₁.setTop (mkF m 0 #[.val (.long p1), .second, .val (.int p2), .unset, .unset, .unset, .unset, .unset, .unset, .unset, .unset, .unset, .unset, .unset] [])) t → Steps p.tables e below (s₁.setTop (mkF m 0 #[.val (.long p1), .second, .val (.int p2), .unset, .unset, .unset, .unset, .unset, .unset, .unset, .unset, .unset, .unset, .unset] [])) t := fun t k => k
  have k1 : ∀ t, Steps p.tables e below (s₁.setTop (mkF m 52 #[.val (.long p1), .second, .val (.int p2), .val (.int (v0_6 p1 p2)), .val (.long ((-9187201950435737472 : Int64) &&& (((1 : Int64) <<< (((8 : Int32) * ((v0_6 p1 p2) - (1 : Int32))) &&& 0x3f).toInt64) - (1 : Int64)))), .second, .val (.long ((128 : Int64) <<< (((8 : Int32) * ((v0_6 p1 p2) - (1 : Int32))) &&& 0x3f).toInt64)), .second, .val (.long (v0_46 p1 p2)), .second, .unset, .unset, .unset, .unset] [(.int (v0_6 p1 p2)), (.int (0 : Int32)), (.long (v0_46 p1 p2))])) t → Steps p.tables e below (s₁.setTop (mkF m 0 #[.val (.long p1), .second, .val (.int p2), .unset, .unset, .unset, .unset, .unset, .unset, .unset, .unset, .unset, .unset, .unset] [])) t := fun t kt => pre1 t (by
    show Steps p.tables e below (s₁.setTop (mkF m 0 #[.val (.long p1), .second, .val (.int p2), .unset, .unset, .unset, .unset, .unset, .unset, .unset, .unset, .unset, .unset, .unset] [])) _
    refine XS.iloadN X0.here hx rfl (hb hby at_0) rfl ?_
    show Steps p.tables e below (s₁.setTop (mkF m 1 #[.val (.long p1), .second, .val (.int p2), .unset, .unset, .unset, .unset, .unset, .unset, .unset, .unset, .unset, .unset, .unset] [(.int p2)])) _
    refine XS.bipush X0.here hx rfl (hb hby at_1) ?_
    show Steps p.tables e below (s₁.setTop (mkF m 3 #[.val (.long p1), .second, .val (.int p2), .unset, .unset, .unset, .unset, .unset, .unset, .unset, .unset, .unset, .unset, .unset] [(.int (7 : Int32)), (.int p2)])) _
    refine XS.iand X0.here hx rfl (hb hby at_3) rfl ?_
    show Steps p.tables e below (s₁.setTop (mkF m 4 #[.val (.long p1), .second, .val (.int p2), .unset, .unset, .unset, .unset, .unset, .unset, .unset, .unset, .unset, .unset, .unset] [(.int (p2 &&& (7 : Int32)))])) _
    refine XS.iconst X0.here hx rfl (hb hby at_4) ?_
    show Steps p.tables e below (s₁.setTop (mkF m 5 #[.val (.long p1), .second, .val (.int p2), .unset, .unset, .unset, .unset, .unset, .unset, .unset, .unset, .unset, .unset, .unset] [(.int (1 : Int32)), (.int (p2 &&& (7 : Int32)))])) _
    refine XS.iadd X0.here hx rfl (hb hby at_5) rfl ?_
    show Steps p.tables e below (s₁.setTop (mkF m 6 #[.val (.long p1), .second, .val (.int p2), .unset, .unset, .unset, .unset, .unset, .unset, .unset, .unset, .unset, .unset, .unset] [(.int ((p2 &&& (7 : Int32)) + (1 : Int32)))])) _
    refine XS.istoreN X0.here hx rfl (hb hby at_6) rfl (l' := #[.val (.long p1), .second, .val (.int p2), .val (.int (v0_6 p1 p2)), .unset, .unset, .unset, .unset, .unset, .unset, .unset, .unset, .unset, .unset]) rfl ?_
    show Steps p.tables e below (s₁.setTop (mkF m 7 #[.val (.long p1), .second, .val (.int p2), .val (.int (v0_6 p1 p2)), .unset, .unset, .unset, .unset, .unset, .unset, .unset, .unset, .unset, .unset] [])) _
    refine X0.ldc2Long hx hown (mvT hZ (hw _ (List.mem_of_getElem? (i := 0) rfl))) (g := (mkF m 7 #[.val (.long p1), .second, .val (.int p2), .val (.int (v0_6 p1 p2)), .unset, .unset, .unset, .unset, .unset, .unset, .unset, .unset, .unset, .unset] [])) rfl (hb hby at_7) _ ?_
    show Steps p.tables e below (s₁.setTop (mkF m 10 #[.val (.long p1), .second, .val (.int p2), .val (.int (v0_6 p1 p2)), .unset, .unset, .unset, .unset, .unset, .unset, .unset, .unset, .unset, .unset] [(.long (-9187201950435737472 : Int64))])) _
    refine XS.lconst X0.here hx rfl (hb hby at_10) ?_
    show Steps p.tables e below (s₁.setTop (mkF m 11 #[.val (.long p1), .second, .val (.int p2), .val (.int (v0_6 p1 p2)), .unset, .unset, .unset, .unset, .unset, .unset, .unset, .unset, .unset, .unset] [(.long (1 : Int64)), (.long (-9187201950435737472 : Int64))])) _
    refine XS.bipush X0.here hx rfl (hb hby at_11) ?_
    show Steps p.tables e below (s₁.setTop (mkF m 13 #[.val (.long p1), .second, .val (.int p2), .val (.int (v0_6 p1 p2)), .unset, .unset, .unset, .unset, .unset, .unset, .unset, .unset, .unset, .unset] [(.int (8 : Int32)), (.long (1 : Int64)), (.long (-9187201950435737472 : Int64))])) _
    refine XS.iloadN X0.here hx rfl (hb hby at_13) rfl ?_
    show Steps p.tables e below (s₁.setTop (mkF m 14 #[.val (.long p1), .second, .val (.int p2), .val (.int (v0_6 p1 p2)), .unset, .unset, .unset, .unset, .unset, .unset, .unset, .unset, .unset, .unset] [(.int (v0_6 p1 p2)), (.int (8 : Int32)), (.long (1 : Int64)), (.long (-9187201950435737472 : Int64))])) _
    refine XS.iconst X0.here hx rfl (hb hby at_14) ?_
    show Steps p.tables e below (s₁.setTop (mkF m 15 #[.val (.long p1), .second, .val (.int p2), .val (.int (v0_6 p1 p2)), .unset, .unset, .unset, .unset, .unset, .unset, .unset, .unset, .unset, .unset] [(.int (1 : Int32)), (.int (v0_6 p1 p2)), (.int (8 : Int32)), (.long (1 : Int64)), (.long (-9187201950435737472 : Int64))])) _
    refine XS.isub X0.here hx rfl (hb hby at_15) rfl ?_
    show Steps p.tables e below (s₁.setTop (mkF m 16 #[.val (.long p1), .second, .val (.int p2), .val (.int (v0_6 p1 p2)), .unset, .unset, .unset, .unset, .unset, .unset, .unset, .unset, .unset, .unset] [(.int ((v0_6 p1 p2) - (1 : Int32))), (.int (8 : Int32)), (.long (1 : Int64)), (.long (-9187201950435737472 : Int64))])) _
    refine XS.imul X0.here hx rfl (hb hby at_16) rfl ?_
    show Steps p.tables e below (s₁.setTop (mkF m 17 #[.val (.long p1), .second, .val (.int p2), .val (.int (v0_6 p1 p2)), .unset, .unset, .unset, .unset, .unset, .unset, .unset, .unset, .unset, .unset] [(.int ((8 : Int32) * ((v0_6 p1 p2) - (1 : Int32)))), (.long (1 : Int64)), (.long (-9187201950435737472 : Int64))])) _
    refine XS.lshl X0.here hx rfl (hb hby at_17) rfl ?_
    show Steps p.tables e below (s₁.setTop (mkF m 18 #[.val (.long p1), .second, .val (.int p2), .val (.int (v0_6 p1 p2)), .unset, .unset, .unset, .unset, .unset, .unset, .unset, .unset, .unset, .unset] [(.long ((1 : Int64) <<< (((8 : Int32) * ((v0_6 p1 p2) - (1 : Int32))) &&& 0x3f).toInt64)), (.long (-9187201950435737472 : Int64))])) _
    refine XS.lconst X0.here hx rfl (hb hby at_18) ?_
    show Steps p.tables e below (s₁.setTop (mkF m 19 #[.val (.long p1), .second, .val (.int p2), .val (.int (v0_6 p1 p2)), .unset, .unset, .unset, .unset, .unset, .unset, .unset, .unset, .unset, .unset] [(.long (1 : Int64)), (.long ((1 : Int64) <<< (((8 : Int32) * ((v0_6 p1 p2) - (1 : Int32))) &&& 0x3f).toInt64)), (.long (-9187201950435737472 : Int64))])) _
    refine XS.lsub X0.here hx rfl (hb hby at_19) rfl ?_
    show Steps p.tables e below (s₁.setTop (mkF m 20 #[.val (.long p1), .second, .val (.int p2), .val (.int (v0_6 p1 p2)), .unset, .unset, .unset, .unset, .unset, .unset, .unset, .unset, .unset, .unset] [(.long (((1 : Int64) <<< (((8 : Int32) * ((v0_6 p1 p2) - (1 : Int32))) &&& 0x3f).toInt64) - (1 : Int64))), (.long (-9187201950435737472 : Int64))])) _
    refine XS.land X0.here hx rfl (hb hby at_20) rfl ?_
    show Steps p.tables e below (s₁.setTop (mkF m 21 #[.val (.long p1), .second, .val (.int p2), .val (.int (v0_6 p1 p2)), .unset, .unset, .unset, .unset, .unset, .unset, .unset, .unset, .unset, .unset] [(.long ((-9187201950435737472 : Int64) &&& (((1 : Int64) <<< (((8 : Int32) * ((v0_6 p1 p2) - (1 : Int32))) &&& 0x3f).toInt64) - (1 : Int64))))])) _
    refine XS.lstore X0.here hx rfl (hb hby at_21) rfl (l' := #[.val (.long p1), .second, .val (.int p2), .val (.int (v0_6 p1 p2)), .val (.long ((-9187201950435737472 : Int64) &&& (((1 : Int64) <<< (((8 : Int32) * ((v0_6 p1 p2) - (1 : Int32))) &&& 0x3f).toInt64) - (1 : Int64)))), .second, .unset, .unset, .unset, .unset, .unset, .unset, .unset, .unset]) rfl ?_
    show Steps p.tables e below (s₁.setTop (mkF m 23 #[.val (.long p1), .second, .val (.int p2), .val (.int (v0_6 p1 p2)), .val (.long ((-9187201950435737472 : Int64) &&& (((1 : Int64) <<< (((8 : Int32) * ((v0_6 p1 p2) - (1 : Int32))) &&& 0x3f).toInt64) - (1 : Int64)))), .second, .unset, .unset, .unset, .unset, .unset, .unset, .unset, .unset] [])) _
    refine X0.ldc2Long hx hown (mvT hZ (hw _ (List.mem_of_getElem? (i := 1) rfl))) (g := (mkF m 23 #[.val (.long p1), .second, .val (.int p2), .val (.int (v0_6 p1 p2)), .val (.long ((-9187201950435737472 : Int64) &&& (((1 : Int64) <<< (((8 : Int32) * ((v0_6 p1 p2) - (1 : Int32))) &&& 0x3f).toInt64) - (1 : Int64)))), .second, .unset, .unset, .unset, .unset, .unset, .unset, .unset, .unset] [])) rfl (hb hby at_23) _ ?_
    show Steps p.tables e below (s₁.setTop (mkF m 26 #[.val (.long p1), .second, .val (.int p2), .val (.int (v0_6 p1 p2)), .val (.long ((-9187201950435737472 : Int64) &&& (((1 : Int64) <<< (((8 : Int32) * ((v0_6 p1 p2) - (1 : Int32))) &&& 0x3f).toInt64) - (1 : Int64)))), .second, .unset, .unset, .unset, .unset, .unset, .unset, .unset, .unset] [(.long (128 : Int64))])) _
    refine XS.bipush X0.here hx rfl (hb hby at_26) ?_
    show Steps p.tables e below (s₁.setTop (mkF m 28 #[.val (.long p1), .second, .val (.int p2), .val (.int (v0_6 p1 p2)), .val (.long ((-9187201950435737472 : Int64) &&& (((1 : Int64) <<< (((8 : Int32) * ((v0_6 p1 p2) - (1 : Int32))) &&& 0x3f).toInt64) - (1 : Int64)))), .second, .unset, .unset, .unset, .unset, .unset, .unset, .unset, .unset] [(.int (8 : Int32)), (.long (128 : Int64))])) _
    refine XS.iloadN X0.here hx rfl (hb hby at_28) rfl ?_
    show Steps p.tables e below (s₁.setTop (mkF m 29 #[.val (.long p1), .second, .val (.int p2), .val (.int (v0_6 p1 p2)), .val (.long ((-9187201950435737472 : Int64) &&& (((1 : Int64) <<< (((8 : Int32) * ((v0_6 p1 p2) - (1 : Int32))) &&& 0x3f).toInt64) - (1 : Int64)))), .second, .unset, .unset, .unset, .unset, .unset, .unset, .unset, .unset] [(.int (v0_6 p1 p2)), (.int (8 : Int32)), (.long (128 : Int64))])) _
    refine XS.iconst X0.here hx rfl (hb hby at_29) ?_
    show Steps p.tables e below (s₁.setTop (mkF m 30 #[.val (.long p1), .second, .val (.int p2), .val (.int (v0_6 p1 p2)), .val (.long ((-9187201950435737472 : Int64) &&& (((1 : Int64) <<< (((8 : Int32) * ((v0_6 p1 p2) - (1 : Int32))) &&& 0x3f).toInt64) - (1 : Int64)))), .second, .unset, .unset, .unset, .unset, .unset, .unset, .unset, .unset] [(.int (1 : Int32)), (.int (v0_6 p1 p2)), (.int (8 : Int32)), (.long (128 : Int64))])) _
    refine XS.isub X0.here hx rfl (hb hby at_30) rfl ?_
    show Steps p.tables e below (s₁.setTop (mkF m 31 #[.val (.long p1), .second, .val (.int p2), .val (.int (v0_6 p1 p2)), .val (.long ((-9187201950435737472 : Int64) &&& (((1 : Int64) <<< (((8 : Int32) * ((v0_6 p1 p2) - (1 : Int32))) &&& 0x3f).toInt64) - (1 : Int64)))), .second, .unset, .unset, .unset, .unset, .unset, .unset, .unset, .unset] [(.int ((v0_6 p1 p2) - (1 : Int32))), (.int (8 : Int32)), (.long (128 : Int64))])) _
    refine XS.imul X0.here hx rfl (hb hby at_31) rfl ?_
    show Steps p.tables e below (s₁.setTop (mkF m 32 #[.val (.long p1), .second, .val (.int p2), .val (.int (v0_6 p1 p2)), .val (.long ((-9187201950435737472 : Int64) &&& (((1 : Int64) <<< (((8 : Int32) * ((v0_6 p1 p2) - (1 : Int32))) &&& 0x3f).toInt64) - (1 : Int64)))), .second, .unset, .unset, .unset, .unset, .unset, .unset, .unset, .unset] [(.int ((8 : Int32) * ((v0_6 p1 p2) - (1 : Int32)))), (.long (128 : Int64))])) _
    refine XS.lshl X0.here hx rfl (hb hby at_32) rfl ?_
    show Steps p.tables e below (s₁.setTop (mkF m 33 #[.val (.long p1), .second, .val (.int p2), .val (.int (v0_6 p1 p2)), .val (.long ((-9187201950435737472 : Int64) &&& (((1 : Int64) <<< (((8 : Int32) * ((v0_6 p1 p2) - (1 : Int32))) &&& 0x3f).toInt64) - (1 : Int64)))), .second, .unset, .unset, .unset, .unset, .unset, .unset, .unset, .unset] [(.long ((128 : Int64) <<< (((8 : Int32) * ((v0_6 p1 p2) - (1 : Int32))) &&& 0x3f).toInt64))])) _
    refine XS.lstore X0.here hx rfl (hb hby at_33) rfl (l' := #[.val (.long p1), .second, .val (.int p2), .val (.int (v0_6 p1 p2)), .val (.long ((-9187201950435737472 : Int64) &&& (((1 : Int64) <<< (((8 : Int32) * ((v0_6 p1 p2) - (1 : Int32))) &&& 0x3f).toInt64) - (1 : Int64)))), .second, .val (.long ((128 : Int64) <<< (((8 : Int32) * ((v0_6 p1 p2) - (1 : Int32))) &&& 0x3f).toInt64)), .second, .unset, .unset, .unset, .unset, .unset, .unset]) rfl ?_
    show Steps p.tables e below (s₁.setTop (mkF m 35 #[.val (.long p1), .second, .val (.int p2), .val (.int (v0_6 p1 p2)), .val (.long ((-9187201950435737472 : Int64) &&& (((1 : Int64) <<< (((8 : Int32) * ((v0_6 p1 p2) - (1 : Int32))) &&& 0x3f).toInt64) - (1 : Int64)))), .second, .val (.long ((128 : Int64) <<< (((8 : Int32) * ((v0_6 p1 p2) - (1 : Int32))) &&& 0x3f).toInt64)), .second, .unset, .unset, .unset, .unset, .unset, .unset] [])) _
    refine XS.lloadN X0.here hx rfl (hb hby at_35) rfl ?_
    show Steps p.tables e below (s₁.setTop (mkF m 36 #[.val (.long p1), .second, .val (.int p2), .val (.int (v0_6 p1 p2)), .val (.long ((-9187201950435737472 : Int64) &&& (((1 : Int64) <<< (((8 : Int32) * ((v0_6 p1 p2) - (1 : Int32))) &&& 0x3f).toInt64) - (1 : Int64)))), .second, .val (.long ((128 : Int64) <<< (((8 : Int32) * ((v0_6 p1 p2) - (1 : Int32))) &&& 0x3f).toInt64)), .second, .unset, .unset, .unset, .unset, .unset, .unset] [(.long p1)])) _
    refine XS.lload X0.here hx rfl (hb hby at_36) rfl ?_
    show Steps p.tables e below (s₁.setTop (mkF m 38 #[.val (.long p1), .second, .val (.int p2), .val (.int (v0_6 p1 p2)), .val (.long ((-9187201950435737472 : Int64) &&& (((1 : Int64) <<< (((8 : Int32) * ((v0_6 p1 p2) - (1 : Int32))) &&& 0x3f).toInt64) - (1 : Int64)))), .second, .val (.long ((128 : Int64) <<< (((8 : Int32) * ((v0_6 p1 p2) - (1 : Int32))) &&& 0x3f).toInt64)), .second, .unset, .unset, .unset, .unset, .unset, .unset] [(.long ((-9187201950435737472 : Int64) &&& (((1 : Int64) <<< (((8 : Int32) * ((v0_6 p1 p2) - (1 : Int32))) &&& 0x3f).toInt64) - (1 : Int64)))), (.long p1)])) _
    refine XS.lor X0.here hx rfl (hb hby at_38) rfl ?_
    show Steps p.tables e below (s₁.setTop (mkF m 39 #[.val (.long p1), .second, .val (.int p2), .val (.int (v0_6 p1 p2)), .val (.long ((-9187201950435737472 : Int64) &&& (((1 : Int64) <<< (((8 : Int32) * ((v0_6 p1 p2) - (1 : Int32))) &&& 0x3f).toInt64) - (1 : Int64)))), .second, .val (.long ((128 : Int64) <<< (((8 : Int32) * ((v0_6 p1 p2) - (1 : Int32))) &&& 0x3f).toInt64)), .second, .unset, .unset, .unset, .unset, .unset, .unset] [(.long (p1 ||| ((-9187201950435737472 : Int64) &&& (((1 : Int64) <<< (((8 : Int32) * ((v0_6 p1 p2) - (1 : Int32))) &&& 0x3f).toInt64) - (1 : Int64)))))])) _
    refine XS.lload X0.here hx rfl (hb hby at_39) rfl ?_
    show Steps p.tables e below (s₁.setTop (mkF m 41 #[.val (.long p1), .second, .val (.int p2), .val (.int (v0_6 p1 p2)), .val (.long ((-9187201950435737472 : Int64) &&& (((1 : Int64) <<< (((8 : Int32) * ((v0_6 p1 p2) - (1 : Int32))) &&& 0x3f).toInt64) - (1 : Int64)))), .second, .val (.long ((128 : Int64) <<< (((8 : Int32) * ((v0_6 p1 p2) - (1 : Int32))) &&& 0x3f).toInt64)), .second, .unset, .unset, .unset, .unset, .unset, .unset] [(.long ((128 : Int64) <<< (((8 : Int32) * ((v0_6 p1 p2) - (1 : Int32))) &&& 0x3f).toInt64)), (.long (p1 ||| ((-9187201950435737472 : Int64) &&& (((1 : Int64) <<< (((8 : Int32) * ((v0_6 p1 p2) - (1 : Int32))) &&& 0x3f).toInt64) - (1 : Int64)))))])) _
    refine X0.ldc2Long hx hown (mvT hZ (hw _ (List.mem_of_getElem? (i := 2) rfl))) (g := (mkF m 41 #[.val (.long p1), .second, .val (.int p2), .val (.int (v0_6 p1 p2)), .val (.long ((-9187201950435737472 : Int64) &&& (((1 : Int64) <<< (((8 : Int32) * ((v0_6 p1 p2) - (1 : Int32))) &&& 0x3f).toInt64) - (1 : Int64)))), .second, .val (.long ((128 : Int64) <<< (((8 : Int32) * ((v0_6 p1 p2) - (1 : Int32))) &&& 0x3f).toInt64)), .second, .unset, .unset, .unset, .unset, .unset, .unset] [(.long ((128 : Int64) <<< (((8 : Int32) * ((v0_6 p1 p2) - (1 : Int32))) &&& 0x3f).toInt64)), (.long (p1 ||| ((-9187201950435737472 : Int64) &&& (((1 : Int64) <<< (((8 : Int32) * ((v0_6 p1 p2) - (1 : Int32))) &&& 0x3f).toInt64) - (1 : Int64)))))])) rfl (hb hby at_41) _ ?_
    show Steps p.tables e below (s₁.setTop (mkF m 44 #[.val (.long p1), .second, .val (.int p2), .val (.int (v0_6 p1 p2)), .val (.long ((-9187201950435737472 : Int64) &&& (((1 : Int64) <<< (((8 : Int32) * ((v0_6 p1 p2) - (1 : Int32))) &&& 0x3f).toInt64) - (1 : Int64)))), .second, .val (.long ((128 : Int64) <<< (((8 : Int32) * ((v0_6 p1 p2) - (1 : Int32))) &&& 0x3f).toInt64)), .second, .unset, .unset, .unset, .unset, .unset, .unset] [(.long (-1 : Int64)), (.long ((128 : Int64) <<< (((8 : Int32) * ((v0_6 p1 p2) - (1 : Int32))) &&& 0x3f).toInt64)), (.long (p1 ||| ((-9187201950435737472 : Int64) &&& (((1 : Int64) <<< (((8 : Int32) * ((v0_6 p1 p2) - (1 : Int32))) &&& 0x3f).toInt64) - (1 : Int64)))))])) _
    refine XS.lxor X0.here hx rfl (hb hby at_44) rfl ?_
    show Steps p.tables e below (s₁.setTop (mkF m 45 #[.val (.long p1), .second, .val (.int p2), .val (.int (v0_6 p1 p2)), .val (.long ((-9187201950435737472 : Int64) &&& (((1 : Int64) <<< (((8 : Int32) * ((v0_6 p1 p2) - (1 : Int32))) &&& 0x3f).toInt64) - (1 : Int64)))), .second, .val (.long ((128 : Int64) <<< (((8 : Int32) * ((v0_6 p1 p2) - (1 : Int32))) &&& 0x3f).toInt64)), .second, .unset, .unset, .unset, .unset, .unset, .unset] [(.long (((128 : Int64) <<< (((8 : Int32) * ((v0_6 p1 p2) - (1 : Int32))) &&& 0x3f).toInt64) ^^^ (-1 : Int64))), (.long (p1 ||| ((-9187201950435737472 : Int64) &&& (((1 : Int64) <<< (((8 : Int32) * ((v0_6 p1 p2) - (1 : Int32))) &&& 0x3f).toInt64) - (1 : Int64)))))])) _
    refine XS.land X0.here hx rfl (hb hby at_45) rfl ?_
    show Steps p.tables e below (s₁.setTop (mkF m 46 #[.val (.long p1), .second, .val (.int p2), .val (.int (v0_6 p1 p2)), .val (.long ((-9187201950435737472 : Int64) &&& (((1 : Int64) <<< (((8 : Int32) * ((v0_6 p1 p2) - (1 : Int32))) &&& 0x3f).toInt64) - (1 : Int64)))), .second, .val (.long ((128 : Int64) <<< (((8 : Int32) * ((v0_6 p1 p2) - (1 : Int32))) &&& 0x3f).toInt64)), .second, .unset, .unset, .unset, .unset, .unset, .unset] [(.long ((p1 ||| ((-9187201950435737472 : Int64) &&& (((1 : Int64) <<< (((8 : Int32) * ((v0_6 p1 p2) - (1 : Int32))) &&& 0x3f).toInt64) - (1 : Int64)))) &&& (((128 : Int64) <<< (((8 : Int32) * ((v0_6 p1 p2) - (1 : Int32))) &&& 0x3f).toInt64) ^^^ (-1 : Int64))))])) _
    refine XS.lstore X0.here hx rfl (hb hby at_46) rfl (l' := #[.val (.long p1), .second, .val (.int p2), .val (.int (v0_6 p1 p2)), .val (.long ((-9187201950435737472 : Int64) &&& (((1 : Int64) <<< (((8 : Int32) * ((v0_6 p1 p2) - (1 : Int32))) &&& 0x3f).toInt64) - (1 : Int64)))), .second, .val (.long ((128 : Int64) <<< (((8 : Int32) * ((v0_6 p1 p2) - (1 : Int32))) &&& 0x3f).toInt64)), .second, .val (.long (v0_46 p1 p2)), .second, .unset, .unset, .unset, .unset]) rfl ?_
    show Steps p.tables e below (s₁.setTop (mkF m 48 #[.val (.long p1), .second, .val (.int p2), .val (.int (v0_6 p1 p2)), .val (.long ((-9187201950435737472 : Int64) &&& (((1 : Int64) <<< (((8 : Int32) * ((v0_6 p1 p2) - (1 : Int32))) &&& 0x3f).toInt64) - (1 : Int64)))), .second, .val (.long ((128 : Int64) <<< (((8 : Int32) * ((v0_6 p1 p2) - (1 : Int32))) &&& 0x3f).toInt64)), .second, .val (.long (v0_46 p1 p2)), .second, .unset, .unset, .unset, .unset] [])) _
    refine XS.lload X0.here hx rfl (hb hby at_48) rfl ?_
    show Steps p.tables e below (s₁.setTop (mkF m 50 #[.val (.long p1), .second, .val (.int p2), .val (.int (v0_6 p1 p2)), .val (.long ((-9187201950435737472 : Int64) &&& (((1 : Int64) <<< (((8 : Int32) * ((v0_6 p1 p2) - (1 : Int32))) &&& 0x3f).toInt64) - (1 : Int64)))), .second, .val (.long ((128 : Int64) <<< (((8 : Int32) * ((v0_6 p1 p2) - (1 : Int32))) &&& 0x3f).toInt64)), .second, .val (.long (v0_46 p1 p2)), .second, .unset, .unset, .unset, .unset] [(.long (v0_46 p1 p2))])) _
    refine XS.iconst X0.here hx rfl (hb hby at_50) ?_
    show Steps p.tables e below (s₁.setTop (mkF m 51 #[.val (.long p1), .second, .val (.int p2), .val (.int (v0_6 p1 p2)), .val (.long ((-9187201950435737472 : Int64) &&& (((1 : Int64) <<< (((8 : Int32) * ((v0_6 p1 p2) - (1 : Int32))) &&& 0x3f).toInt64) - (1 : Int64)))), .second, .val (.long ((128 : Int64) <<< (((8 : Int32) * ((v0_6 p1 p2) - (1 : Int32))) &&& 0x3f).toInt64)), .second, .val (.long (v0_46 p1 p2)), .second, .unset, .unset, .unset, .unset] [(.int (0 : Int32)), (.long (v0_46 p1 p2))])) _
    refine XS.iloadN X0.here hx rfl (hb hby at_51) rfl ?_
    exact kt)
  obtain ⟨_, _, ⟨T2, L2, k2', n2⟩, -, X2, ⟨Lc2, hQ2, l2, y2, z2⟩, st2⟩ := Jvm.LawKit.callS X0 hx (y := (⟨"com/example/terse_tree/tersetree/VarintWordValuePinLaw", "term", "(JII)J"⟩ : MethodName)) hown (mvT hZ (hw _ (List.mem_of_getElem? (i := 3) rfl))) (mvT hZ (hw _ (List.mem_of_getElem? (i := 4) rfl))) (mvT hZ (hw _ (List.mem_of_getElem? (i := 5) rfl))) (mvT hZ (hw _ (List.mem_of_getElem? (i := 6) rfl))) (by decide) (backOf (W := 0) (rm1 l Z a0 hw [] (v0_46 p1 p2) (0 : Int32) (v0_6 p1 p2) h0 n0 Z0) hZ (hw _ (List.mem_of_getElem? (i := 6) rfl)) (hw _ (List.mem_of_getElem? (i := 5) rfl)) (by decide) (by decide)) (g := (mkF m 52 #[.val (.long p1), .second, .val (.int p2), .val (.int (v0_6 p1 p2)), .val (.long ((-9187201950435737472 : Int64) &&& (((1 : Int64) <<< (((8 : Int32) * ((v0_6 p1 p2) - (1 : Int32))) &&& 0x3f).toInt64) - (1 : Int64)))), .second, .val (.long ((128 : Int64) <<< (((8 : Int32) * ((v0_6 p1 p2) - (1 : Int32))) &&& 0x3f).toInt64)), .second, .val (.long (v0_46 p1 p2)), .second, .unset, .unset, .unset, .unset] [(.int (v0_6 p1 p2)), (.int (0 : Int32)), (.long (v0_46 p1 p2))])) rfl (by rw [hml]; rfl) (argsL := [(.long (v0_46 p1 p2)), (.int (0 : Int32)), (.int (v0_6 p1 p2))]) (rest := []) (lenOf pd0_0 rfl) rfl (by show 2 * 0 + _ ≤ _; exact Nat.le_of_eq rfl) (hb hby at_52) (fun _ _ => ⟨rfl, e0, (by decide : 0 + 0 ≤ _), (by decide : 0 + 0 ≤ _)⟩)
  dsimp only [Pt.U, Pt.locs, Pt.cells, Pt.slots] at X2 l2 y2 z2 st2 hQ2
  subst l2 y2 z2
  obtain ⟨rfl, N2q, hh2⟩ := hQ2
  have N2 := Fr.app N0 N2q
  have k3 : ∀ t, Steps p.tables e below (T2.setTop (mkF m 59 #[.val (.long p1), .second, .val (.int p2), .val (.int (v0_6 p1 p2)), .val (.long ((-9187201950435737472 : Int64) &&& (((1 : Int64) <<< (((8 : Int32) * ((v0_6 p1 p2) - (1 : Int32))) &&& 0x3f).toInt64) - (1 : Int64)))), .second, .val (.long ((128 : Int64) <<< (((8 : Int32) * ((v0_6 p1 p2) - (1 : Int32))) &&& 0x3f).toInt64)), .second, .val (.long (v0_46 p1 p2)), .second, .unset, .unset, .unset, .unset] [(.int (v0_6 p1 p2)), (.int (1 : Int32)), (.long (v0_46 p1 p2)), (.long (sp1 (v0_46 p1 p2) (0 : Int32) (v0_6 p1 p2)))])) t → Steps p.tables e below (s₁.setTop (mkF m 0 #[.val (.long p1), .second, .val (.int p2), .unset, .unset, .unset, .unset, .unset, .unset, .unset, .unset, .unset, .unset, .unset] [])) t := fun t kt => k1 t (by
    show Steps p.tables e below (s₁.setTop (mkF m 52 #[.val (.long p1), .second, .val (.int p2), .val (.int (v0_6 p1 p2)), .val (.long ((-9187201950435737472 : Int64) &&& (((1 : Int64) <<< (((8 : Int32) * ((v0_6 p1 p2) - (1 : Int32))) &&& 0x3f).toInt64) - (1 : Int64)))), .second, .val (.long ((128 : Int64) <<< (((8 : Int32) * ((v0_6 p1 p2) - (1 : Int32))) &&& 0x3f).toInt64)), .second, .val (.long (v0_46 p1 p2)), .second, .unset, .unset, .unset, .unset] [(.int (v0_6 p1 p2)), (.int (0 : Int32)), (.long (v0_46 p1 p2))])) _
    refine st2 _ ?_
    show Steps p.tables e below (T2.setTop (mkF m 55 #[.val (.long p1), .second, .val (.int p2), .val (.int (v0_6 p1 p2)), .val (.long ((-9187201950435737472 : Int64) &&& (((1 : Int64) <<< (((8 : Int32) * ((v0_6 p1 p2) - (1 : Int32))) &&& 0x3f).toInt64) - (1 : Int64)))), .second, .val (.long ((128 : Int64) <<< (((8 : Int32) * ((v0_6 p1 p2) - (1 : Int32))) &&& 0x3f).toInt64)), .second, .val (.long (v0_46 p1 p2)), .second, .unset, .unset, .unset, .unset] [(.long (sp1 (v0_46 p1 p2) (0 : Int32) (v0_6 p1 p2)))])) _
    refine XS.lload X2.here hx rfl (hb hby at_55) rfl ?_
    show Steps p.tables e below (T2.setTop (mkF m 57 #[.val (.long p1), .second, .val (.int p2), .val (.int (v0_6 p1 p2)), .val (.long ((-9187201950435737472 : Int64) &&& (((1 : Int64) <<< (((8 : Int32) * ((v0_6 p1 p2) - (1 : Int32))) &&& 0x3f).toInt64) - (1 : Int64)))), .second, .val (.long ((128 : Int64) <<< (((8 : Int32) * ((v0_6 p1 p2) - (1 : Int32))) &&& 0x3f).toInt64)), .second, .val (.long (v0_46 p1 p2)), .second, .unset, .unset, .unset, .unset] [(.long (v0_46 p1 p2)), (.long (sp1 (v0_46 p1 p2) (0 : Int32) (v0_6 p1 p2)))])) _
    refine XS.iconst X2.here hx rfl (hb hby at_57) ?_
    show Steps p.tables e below (T2.setTop (mkF m 58 #[.val (.long p1), .second, .val (.int p2), .val (.int (v0_6 p1 p2)), .val (.long ((-9187201950435737472 : Int64) &&& (((1 : Int64) <<< (((8 : Int32) * ((v0_6 p1 p2) - (1 : Int32))) &&& 0x3f).toInt64) - (1 : Int64)))), .second, .val (.long ((128 : Int64) <<< (((8 : Int32) * ((v0_6 p1 p2) - (1 : Int32))) &&& 0x3f).toInt64)), .second, .val (.long (v0_46 p1 p2)), .second, .unset, .unset, .unset, .unset] [(.int (1 : Int32)), (.long (v0_46 p1 p2)), (.long (sp1 (v0_46 p1 p2) (0 : Int32) (v0_6 p1 p2)))])) _
    refine XS.iloadN X2.here hx rfl (hb hby at_58) rfl ?_
    exact kt)
  obtain ⟨_, _, ⟨T4, L4, k4', n4⟩, -, X4, ⟨Lc4, hQ4, l4, y4, z4⟩, st4⟩ := Jvm.LawKit.callS X2 hx (y := (⟨"com/example/terse_tree/tersetree/VarintWordValuePinLaw", "term", "(JII)J"⟩ : MethodName)) hown (mvT hZ (hw _ (List.mem_of_getElem? (i := 3) rfl))) (mvT hZ (hw _ (List.mem_of_getElem? (i := 4) rfl))) (mvT hZ (hw _ (List.mem_of_getElem? (i := 5) rfl))) (mvT hZ (hw _ (List.mem_of_getElem? (i := 6) rfl))) (by decide) (backOf (W := 2) (rm1 l Z a0 hw [] (v0_46 p1 p2) (1 : Int32) (v0_6 p1 p2) h0 n0 Z0) hZ (hw _ (List.mem_of_getElem? (i := 6) rfl)) (hw _ (List.mem_of_getElem? (i := 5) rfl)) (by decide) (by decide)) (g := (mkF m 59 #[.val (.long p1), .second, .val (.int p2), .val (.int (v0_6 p1 p2)), .val (.long ((-9187201950435737472 : Int64) &&& (((1 : Int64) <<< (((8 : Int32) * ((v0_6 p1 p2) - (1 : Int32))) &&& 0x3f).toInt64) - (1 : Int64)))), .second, .val (.long ((128 : Int64) <<< (((8 : Int32) * ((v0_6 p1 p2) - (1 : Int32))) &&& 0x3f).toInt64)), .second, .val (.long (v0_46 p1 p2)), .second, .unset, .unset, .unset, .unset] [(.int (v0_6 p1 p2)), (.int (1 : Int32)), (.long (v0_46 p1 p2)), (.long (sp1 (v0_46 p1 p2) (0 : Int32) (v0_6 p1 p2)))])) rfl (by rw [hml]; rfl) (argsL := [(.long (v0_46 p1 p2)), (.int (1 : Int32)), (.int (v0_6 p1 p2))]) (rest := [(.long (sp1 (v0_46 p1 p2) (0 : Int32) (v0_6 p1 p2)))]) (lenOf pd0_0 rfl) rfl (by show 2 * 0 + _ ≤ _; exact Nat.le_of_eq rfl) (hb hby at_59) (fun _ _ => ⟨rfl, hh2, (by decide : 0 + 0 ≤ _), (by decide : 0 + 0 ≤ _)⟩)
  dsimp only [Pt.U, Pt.locs, Pt.cells, Pt.slots] at X4 l4 y4 z4 st4 hQ4
  subst l4 y4 z4
  obtain ⟨rfl, N4q, hh4⟩ := hQ4
  have N4 := Fr.app N2 N4q
  have k5 : ∀ t, Steps p.tables e below (T4.setTop (mkF m 67 #[.val (.long p1), .second, .val (.int p2), .val (.int (v0_6 p1 p2)), .val (.long ((-9187201950435737472 : Int64) &&& (((1 : Int64) <<< (((8 : Int32) * ((v0_6 p1 p2) - (1 : Int32))) &&& 0x3f).toInt64) - (1 : Int64)))), .second, .val (.long ((128 : Int64) <<< (((8 : Int32) * ((v0_6 p1 p2) - (1 : Int32))) &&& 0x3f).toInt64)), .second, .val (.long (v0_46 p1 p2)), .second, .unset, .unset, .unset, .unset] [(.int (v0_6 p1 p2)), (.int (2 : Int32)), (.long (v0_46 p1 p2)), (.long ((sp1 (v0_46 p1 p2) (0 : Int32) (v0_6 p1 p2)) ||| (sp1 (v0_46 p1 p2) (1 : Int32) (v0_6 p1 p2))))])) t → Steps p.tables e below (s₁.setTop (mkF m 0 #[.val (.long p1), .second, .val (.int p2), .unset, .unset, .unset, .unset, .unset, .unset, .unset, .unset, .unset, .unset, .unset] [])) t := fun t kt => k3 t (by
    show Steps p.tables e below (T2.setTop (mkF m 59 #[.val (.long p1), .second, .val (.int p2), .val (.int (v0_6 p1 p2)), .val (.long ((-9187201950435737472 : Int64) &&& (((1 : Int64) <<< (((8 : Int32) * ((v0_6 p1 p2) - (1 : Int32))) &&& 0x3f).toInt64) - (1 : Int64)))), .second, .val (.long ((128 : Int64) <<< (((8 : Int32) * ((v0_6 p1 p2) - (1 : Int32))) &&& 0x3f).toInt64)), .second, .val (.long (v0_46 p1 p2)), .second, .unset, .unset, .unset, .unset] [(.int (v0_6 p1 p2)), (.int (1 : Int32)), (.long (v0_46 p1 p2)), (.long (sp1 (v0_46 p1 p2) (0 : Int32) (v0_6 p1 p2)))])) _
    refine st4 _ ?_
    show Steps p.tables e below (T4.setTop (mkF m 62 #[.val (.long p1), .second, .val (.int p2), .val (.int (v0_6 p1 p2)), .val (.long ((-9187201950435737472 : Int64) &&& (((1 : Int64) <<< (((8 : Int32) * ((v0_6 p1 p2) - (1 : Int32))) &&& 0x3f).toInt64) - (1 : Int64)))), .second, .val (.long ((128 : Int64) <<< (((8 : Int32) * ((v0_6 p1 p2) - (1 : Int32))) &&& 0x3f).toInt64)), .second, .val (.long (v0_46 p1 p2)), .second, .unset, .unset, .unset, .unset] [(.long (sp1 (v0_46 p1 p2) (1 : Int32) (v0_6 p1 p2))), (.long (sp1 (v0_46 p1 p2) (0 : Int32) (v0_6 p1 p2)))])) _
    refine XS.lor X4.here hx rfl (hb hby at_62) rfl ?_
    show Steps p.tables e below (T4.setTop (mkF m 63 #[.val (.long p1), .second, .val (.int p2), .val (.int (v0_6 p1 p2)), .val (.long ((-9187201950435737472 : Int64) &&& (((1 : Int64) <<< (((8 : Int32) * ((v0_6 p1 p2) - (1 : Int32))) &&& 0x3f).toInt64) - (1 : Int64)))), .second, .val (.long ((128 : Int64) <<< (((8 : Int32) * ((v0_6 p1 p2) - (1 : Int32))) &&& 0x3f).toInt64)), .second, .val (.long (v0_46 p1 p2)), .second, .unset, .unset, .unset, .unset] [(.long ((sp1 (v0_46 p1 p2) (0 : Int32) (v0_6 p1 p2)) ||| (sp1 (v0_46 p1 p2) (1 : Int32) (v0_6 p1 p2))))])) _
    refine XS.lload X4.here hx rfl (hb hby at_63) rfl ?_
    show Steps p.tables e below (T4.setTop (mkF m 65 #[.val (.long p1), .second, .val (.int p2), .val (.int (v0_6 p1 p2)), .val (.long ((-9187201950435737472 : Int64) &&& (((1 : Int64) <<< (((8 : Int32) * ((v0_6 p1 p2) - (1 : Int32))) &&& 0x3f).toInt64) - (1 : Int64)))), .second, .val (.long ((128 : Int64) <<< (((8 : Int32) * ((v0_6 p1 p2) - (1 : Int32))) &&& 0x3f).toInt64)), .second, .val (.long (v0_46 p1 p2)), .second, .unset, .unset, .unset, .unset] [(.long (v0_46 p1 p2)), (.long ((sp1 (v0_46 p1 p2) (0 : Int32) (v0_6 p1 p2)) ||| (sp1 (v0_46 p1 p2) (1 : Int32) (v0_6 p1 p2))))])) _
    refine XS.iconst X4.here hx rfl (hb hby at_65) ?_
    show Steps p.tables e below (T4.setTop (mkF m 66 #[.val (.long p1), .second, .val (.int p2), .val (.int (v0_6 p1 p2)), .val (.long ((-9187201950435737472 : Int64) &&& (((1 : Int64) <<< (((8 : Int32) * ((v0_6 p1 p2) - (1 : Int32))) &&& 0x3f).toInt64) - (1 : Int64)))), .second, .val (.long ((128 : Int64) <<< (((8 : Int32) * ((v0_6 p1 p2) - (1 : Int32))) &&& 0x3f).toInt64)), .second, .val (.long (v0_46 p1 p2)), .second, .unset, .unset, .unset, .unset] [(.int (2 : Int32)), (.long (v0_46 p1 p2)), (.long ((sp1 (v0_46 p1 p2) (0 : Int32) (v0_6 p1 p2)) ||| (sp1 (v0_46 p1 p2) (1 : Int32) (v0_6 p1 p2))))])) _
    refine XS.iloadN X4.here hx rfl (hb hby at_66) rfl ?_
    exact kt)
  obtain ⟨_, _, ⟨T6, L6, k6', n6⟩, -, X6, ⟨Lc6, hQ6, l6, y6, z6⟩, st6⟩ := Jvm.LawKit.callS X4 hx (y := (⟨"com/example/terse_tree/tersetree/VarintWordValuePinLaw", "term", "(JII)J"⟩ : MethodName)) hown (mvT hZ (hw _ (List.mem_of_getElem? (i := 3) rfl))) (mvT hZ (hw _ (List.mem_of_getElem? (i := 4) rfl))) (mvT hZ (hw _ (List.mem_of_getElem? (i := 5) rfl))) (mvT hZ (hw _ (List.mem_of_getElem? (i := 6) rfl))) (by decide) (backOf (W := 2) (rm1 l Z a0 hw [] (v0_46 p1 p2) (2 : Int32) (v0_6 p1 p2) h0 n0 Z0) hZ (hw _ (List.mem_of_getElem? (i := 6) rfl)) (hw _ (List.mem_of_getElem? (i := 5) rfl)) (by decide) (by decide)) (g := (mkF m 67 #[.val (.long p1), .second, .val (.int p2), .val (.int (v0_6 p1 p2)), .val (.long ((-9187201950435737472 : Int64) &&& (((1 : Int64) <<< (((8 : Int32) * ((v0_6 p1 p2) - (1 : Int32))) &&& 0x3f).toInt64) - (1 : Int64)))), .second, .val (.long ((128 : Int64) <<< (((8 : Int32) * ((v0_6 p1 p2) - (1 : Int32))) &&& 0x3f).toInt64)), .second, .val (.long (v0_46 p1 p2)), .second, .unset, .unset, .unset, .unset] [(.int (v0_6 p1 p2)), (.int (2 : Int32)), (.long (v0_46 p1 p2)), (.long ((sp1 (v0_46 p1 p2) (0 : Int32) (v0_6 p1 p2)) ||| (sp1 (v0_46 p1 p2) (1 : Int32) (v0_6 p1 p2))))])) rfl (by rw [hml]; rfl) (argsL := [(.long (v0_46 p1 p2)), (.int (2 : Int32)), (.int (v0_6 p1 p2))]) (rest := [(.long ((sp1 (v0_46 p1 p2) (0 : Int32) (v0_6 p1 p2)) ||| (sp1 (v0_46 p1 p2) (1 : Int32) (v0_6 p1 p2))))]) (lenOf pd0_0 rfl) rfl (by show 2 * 0 + _ ≤ _; exact Nat.le_of_eq rfl) (hb hby at_67) (fun _ _ => ⟨rfl, hh4, (by decide : 0 + 0 ≤ _), (by decide : 0 + 0 ≤ _)⟩)
  dsimp only [Pt.U, Pt.locs, Pt.cells, Pt.slots] at X6 l6 y6 z6 st6 hQ6
  subst l6 y6 z6
  obtain ⟨rfl, N6q, hh6⟩ := hQ6
  have N6 := Fr.app N4 N6q
  have k7 : ∀ t, Steps p.tables e below (T6.setTop (mkF m 75 #[.val (.long p1), .second, .val (.int p2), .val (.int (v0_6 p1 p2)), .val (.long ((-9187201950435737472 : Int64) &&& (((1 : Int64) <<< (((8 : Int32) * ((v0_6 p1 p2) - (1 : Int32))) &&& 0x3f).toInt64) - (1 : Int64)))), .second, .val (.long ((128 : Int64) <<< (((8 : Int32) * ((v0_6 p1 p2) - (1 : Int32))) &&& 0x3f).toInt64)), .second, .val (.long (v0_46 p1 p2)), .second, .unset, .unset, .unset, .unset] [(.int (v0_6 p1 p2)), (.int (3 : Int32)), (.long (v0_46 p1 p2)), (.long (((sp1 (v0_46 p1 p2) (0 : Int32) (v0_6 p1 p2)) ||| (sp1 (v0_46 p1 p2) (1 : Int32) (v0_6 p1 p2))) ||| (sp1 (v0_46 p1 p2) (2 : Int32) (v0_6 p1 p2))))])) t → Steps p.tables e below (s₁.setTop (mkF m 0 #[.val (.long p1), .second, .val (.int p2), .unset, .unset, .unset, .unset, .unset, .unset, .unset, .unset, .unset, .unset, .unset] [])) t := fun t kt => k5 t (by
    show Steps p.tables e below (T4.setTop (mkF m 67 #[.val (.long p1), .second, .val (.int p2), .val (.int (v0_6 p1 p2)), .val (.long ((-9187201950435737472 : Int64) &&& (((1 : Int64) <<< (((8 : Int32) * ((v0_6 p1 p2) - (1 : Int32))) &&& 0x3f).toInt64) - (1 : Int64)))), .second, .val (.long ((128 : Int64) <<< (((8 : Int32) * ((v0_6 p1 p2) - (1 : Int32))) &&& 0x3f).toInt64)), .second, .val (.long (v0_46 p1 p2)), .second, .unset, .unset, .unset, .unset] [(.int (v0_6 p1 p2)), (.int (2 : Int32)), (.long (v0_46 p1 p2)), (.long ((sp1 (v0_46 p1 p2) (0 : Int32) (v0_6 p1 p2)) ||| (sp1 (v0_46 p1 p2) (1 : Int32) (v0_6 p1 p2))))])) _
    refine st6 _ ?_
    show Steps p.tables e below (T6.setTop (mkF m 70 #[.val (.long p1), .second, .val (.int p2), .val (.int (v0_6 p1 p2)), .val (.long ((-9187201950435737472 : Int64) &&& (((1 : Int64) <<< (((8 : Int32) * ((v0_6 p1 p2) - (1 : Int32))) &&& 0x3f).toInt64) - (1 : Int64)))), .second, .val (.long ((128 : Int64) <<< (((8 : Int32) * ((v0_6 p1 p2) - (1 : Int32))) &&& 0x3f).toInt64)), .second, .val (.long (v0_46 p1 p2)), .second, .unset, .unset, .unset, .unset] [(.long (sp1 (v0_46 p1 p2) (2 : Int32) (v0_6 p1 p2))), (.long ((sp1 (v0_46 p1 p2) (0 : Int32) (v0_6 p1 p2)) ||| (sp1 (v0_46 p1 p2) (1 : Int32) (v0_6 p1 p2))))])) _
    refine XS.lor X6.here hx rfl (hb hby at_70) rfl ?_
    show Steps p.tables e below (T6.setTop (mkF m 71 #[.val (.long p1), .second, .val (.int p2), .val (.int (v0_6 p1 p2)), .val (.long ((-9187201950435737472 : Int64) &&& (((1 : Int64) <<< (((8 : Int32) * ((v0_6 p1 p2) - (1 : Int32))) &&& 0x3f).toInt64) - (1 : Int64)))), .second, .val (.long ((128 : Int64) <<< (((8 : Int32) * ((v0_6 p1 p2) - (1 : Int32))) &&& 0x3f).toInt64)), .second, .val (.long (v0_46 p1 p2)), .second, .unset, .unset, .unset, .unset] [(.long (((sp1 (v0_46 p1 p2) (0 : Int32) (v0_6 p1 p2)) ||| (sp1 (v0_46 p1 p2) (1 : Int32) (v0_6 p1 p2))) ||| (sp1 (v0_46 p1 p2) (2 : Int32) (v0_6 p1 p2))))])) _
    refine XS.lload X6.here hx rfl (hb hby at_71) rfl ?_
    show Steps p.tables e below (T6.setTop (mkF m 73 #[.val (.long p1), .second, .val (.int p2), .val (.int (v0_6 p1 p2)), .val (.long ((-9187201950435737472 : Int64) &&& (((1 : Int64) <<< (((8 : Int32) * ((v0_6 p1 p2) - (1 : Int32))) &&& 0x3f).toInt64) - (1 : Int64)))), .second, .val (.long ((128 : Int64) <<< (((8 : Int32) * ((v0_6 p1 p2) - (1 : Int32))) &&& 0x3f).toInt64)), .second, .val (.long (v0_46 p1 p2)), .second, .unset, .unset, .unset, .unset] [(.long (v0_46 p1 p2)), (.long (((sp1 (v0_46 p1 p2) (0 : Int32) (v0_6 p1 p2)) ||| (sp1 (v0_46 p1 p2) (1 : Int32) (v0_6 p1 p2))) ||| (sp1 (v0_46 p1 p2) (2 : Int32) (v0_6 p1 p2))))])) _
    refine XS.iconst X6.here hx rfl (hb hby at_73) ?_
    show Steps p.tables e below (T6.setTop (mkF m 74 #[.val (.long p1), .second, .val (.int p2), .val (.int (v0_6 p1 p2)), .val (.long ((-9187201950435737472 : Int64) &&& (((1 : Int64) <<< (((8 : Int32) * ((v0_6 p1 p2) - (1 : Int32))) &&& 0x3f).toInt64) - (1 : Int64)))), .second, .val (.long ((128 : Int64) <<< (((8 : Int32) * ((v0_6 p1 p2) - (1 : Int32))) &&& 0x3f).toInt64)), .second, .val (.long (v0_46 p1 p2)), .second, .unset, .unset, .unset, .unset] [(.int (3 : Int32)), (.long (v0_46 p1 p2)), (.long (((sp1 (v0_46 p1 p2) (0 : Int32) (v0_6 p1 p2)) ||| (sp1 (v0_46 p1 p2) (1 : Int32) (v0_6 p1 p2))) ||| (sp1 (v0_46 p1 p2) (2 : Int32) (v0_6 p1 p2))))])) _
    refine XS.iloadN X6.here hx rfl (hb hby at_74) rfl ?_
    exact kt)
  obtain ⟨_, _, ⟨T8, L8, k8', n8⟩, -, X8, ⟨Lc8, hQ8, l8, y8, z8⟩, st8⟩ := Jvm.LawKit.callS X6 hx (y := (⟨"com/example/terse_tree/tersetree/VarintWordValuePinLaw", "term", "(JII)J"⟩ : MethodName)) hown (mvT hZ (hw _ (List.mem_of_getElem? (i := 3) rfl))) (mvT hZ (hw _ (List.mem_of_getElem? (i := 4) rfl))) (mvT hZ (hw _ (List.mem_of_getElem? (i := 5) rfl))) (mvT hZ (hw _ (List.mem_of_getElem? (i := 6) rfl))) (by decide) (backOf (W := 2) (rm1 l Z a0 hw [] (v0_46 p1 p2) (3 : Int32) (v0_6 p1 p2) h0 n0 Z0) hZ (hw _ (List.mem_of_getElem? (i := 6) rfl)) (hw _ (List.mem_of_getElem? (i := 5) rfl)) (by decide) (by decide)) (g := (mkF m 75 #[.val (.long p1), .second, .val (.int p2), .val (.int (v0_6 p1 p2)), .val (.long ((-9187201950435737472 : Int64) &&& (((1 : Int64) <<< (((8 : Int32) * ((v0_6 p1 p2) - (1 : Int32))) &&& 0x3f).toInt64) - (1 : Int64)))), .second, .val (.long ((128 : Int64) <<< (((8 : Int32) * ((v0_6 p1 p2) - (1 : Int32))) &&& 0x3f).toInt64)), .second, .val (.long (v0_46 p1 p2)), .second, .unset, .unset, .unset, .unset] [(.int (v0_6 p1 p2)), (.int (3 : Int32)), (.long (v0_46 p1 p2)), (.long (((sp1 (v0_46 p1 p2) (0 : Int32) (v0_6 p1 p2)) ||| (sp1 (v0_46 p1 p2) (1 : Int32) (v0_6 p1 p2))) ||| (sp1 (v0_46 p1 p2) (2 : Int32) (v0_6 p1 p2))))])) rfl (by rw [hml]; rfl) (argsL := [(.long (v0_46 p1 p2)), (.int (3 : Int32)), (.int (v0_6 p1 p2))]) (rest := [(.long (((sp1 (v0_46 p1 p2) (0 : Int32) (v0_6 p1 p2)) ||| (sp1 (v0_46 p1 p2) (1 : Int32) (v0_6 p1 p2))) ||| (sp1 (v0_46 p1 p2) (2 : Int32) (v0_6 p1 p2))))]) (lenOf pd0_0 rfl) rfl (by show 2 * 0 + _ ≤ _; exact Nat.le_of_eq rfl) (hb hby at_75) (fun _ _ => ⟨rfl, hh6, (by decide : 0 + 0 ≤ _), (by decide : 0 + 0 ≤ _)⟩)
  dsimp only [Pt.U, Pt.locs, Pt.cells, Pt.slots] at X8 l8 y8 z8 st8 hQ8
  subst l8 y8 z8
  obtain ⟨rfl, N8q, hh8⟩ := hQ8
  have N8 := Fr.app N6 N8q
  have k9 : ∀ t, Steps p.tables e below (T8.setTop (mkF m 83 #[.val (.long p1), .second, .val (.int p2), .val (.int (v0_6 p1 p2)), .val (.long ((-9187201950435737472 : Int64) &&& (((1 : Int64) <<< (((8 : Int32) * ((v0_6 p1 p2) - (1 : Int32))) &&& 0x3f).toInt64) - (1 : Int64)))), .second, .val (.long ((128 : Int64) <<< (((8 : Int32) * ((v0_6 p1 p2) - (1 : Int32))) &&& 0x3f).toInt64)), .second, .val (.long (v0_46 p1 p2)), .second, .unset, .unset, .unset, .unset] [(.int (v0_6 p1 p2)), (.int (4 : Int32)), (.long (v0_46 p1 p2)), (.long ((((sp1 (v0_46 p1 p2) (0 : Int32) (v0_6 p1 p2)) ||| (sp1 (v0_46 p1 p2) (1 : Int32) (v0_6 p1 p2))) ||| (sp1 (v0_46 p1 p2) (2 : Int32) (v0_6 p1 p2))) ||| (sp1 (v0_46 p1 p2) (3 : Int32) (v0_6 p1 p2))))])) t → Steps p.tables e below (s₁.setTop (mkF m 0 #[.val (.long p1), .second, .val (.int p2), .unset, .unset, .unset, .unset, .unset, .unset, .unset, .unset, .unset, .unset, .unset] [])) t := fun t kt => k7 t (by
    show Steps p.tables e below (T6.setTop (mkF m 75 #[.val (.long p1), .second, .val (.int p2), .val (.int (v0_6 p1 p2)), .val (.long ((-9187201950435737472 : Int64) &&& (((1 : Int64) <<< (((8 : Int32) * ((v0_6 p1 p2) - (1 : Int32))) &&& 0x3f).toInt64) - (1 : Int64)))), .second, .val (.long ((128 : Int64) <<< (((8 : Int32) * ((v0_6 p1 p2) - (1 : Int32))) &&& 0x3f).toInt64)), .second, .val (.long (v0_46 p1 p2)), .second, .unset, .unset, .unset, .unset] [(.int (v0_6 p1 p2)), (.int (3 : Int32)), (.long (v0_46 p1 p2)), (.long (((sp1 (v0_46 p1 p2) (0 : Int32) (v0_6 p1 p2)) ||| (sp1 (v0_46 p1 p2) (1 : Int32) (v0_6 p1 p2))) ||| (sp1 (v0_46 p1 p2) (2 : Int32) (v0_6 p1 p2))))])) _
    refine st8 _ ?_
    show Steps p.tables e below (T8.setTop (mkF m 78 #[.val (.long p1), .second, .val (.int p2), .val (.int (v0_6 p1 p2)), .val (.long ((-9187201950435737472 : Int64) &&& (((1 : Int64) <<< (((8 : Int32) * ((v0_6 p1 p2) - (1 : Int32))) &&& 0x3f).toInt64) - (1 : Int64)))), .second, .val (.long ((128 : Int64) <<< (((8 : Int32) * ((v0_6 p1 p2) - (1 : Int32))) &&& 0x3f).toInt64)), .second, .val (.long (v0_46 p1 p2)), .second, .unset, .unset, .unset, .unset] [(.long (sp1 (v0_46 p1 p2) (3 : Int32) (v0_6 p1 p2))), (.long (((sp1 (v0_46 p1 p2) (0 : Int32) (v0_6 p1 p2)) ||| (sp1 (v0_46 p1 p2) (1 : Int32) (v0_6 p1 p2))) ||| (sp1 (v0_46 p1 p2) (2 : Int32) (v0_6 p1 p2))))])) _
    refine XS.lor X8.here hx rfl (hb hby at_78) rfl ?_
    show Steps p.tables e below (T8.setTop (mkF m 79 #[.val (.long p1), .second, .val (.int p2), .val (.int (v0_6 p1 p2)), .val (.long ((-9187201950435737472 : Int64) &&& (((1 : Int64) <<< (((8 : Int32) * ((v0_6 p1 p2) - (1 : Int32))) &&& 0x3f).toInt64) - (1 : Int64)))), .second, .val (.long ((128 : Int64) <<< (((8 : Int32) * ((v0_6 p1 p2) - (1 : Int32))) &&& 0x3f).toInt64)), .second, .val (.long (v0_46 p1 p2)), .second, .unset, .unset, .unset, .unset] [(.long ((((sp1 (v0_46 p1 p2) (0 : Int32) (v0_6 p1 p2)) ||| (sp1 (v0_46 p1 p2) (1 : Int32) (v0_6 p1 p2))) ||| (sp1 (v0_46 p1 p2) (2 : Int32) (v0_6 p1 p2))) ||| (sp1 (v0_46 p1 p2) (3 : Int32) (v0_6 p1 p2))))])) _
    refine XS.lload X8.here hx rfl (hb hby at_79) rfl ?_
    show Steps p.tables e below (T8.setTop (mkF m 81 #[.val (.long p1), .second, .val (.int p2), .val (.int (v0_6 p1 p2)), .val (.long ((-9187201950435737472 : Int64) &&& (((1 : Int64) <<< (((8 : Int32) * ((v0_6 p1 p2) - (1 : Int32))) &&& 0x3f).toInt64) - (1 : Int64)))), .second, .val (.long ((128 : Int64) <<< (((8 : Int32) * ((v0_6 p1 p2) - (1 : Int32))) &&& 0x3f).toInt64)), .second, .val (.long (v0_46 p1 p2)), .second, .unset, .unset, .unset, .unset] [(.long (v0_46 p1 p2)), (.long ((((sp1 (v0_46 p1 p2) (0 : Int32) (v0_6 p1 p2)) ||| (sp1 (v0_46 p1 p2) (1 : Int32) (v0_6 p1 p2))) ||| (sp1 (v0_46 p1 p2) (2 : Int32) (v0_6 p1 p2))) ||| (sp1 (v0_46 p1 p2) (3 : Int32) (v0_6 p1 p2))))])) _
    refine XS.iconst X8.here hx rfl (hb hby at_81) ?_
    show Steps p.tables e below (T8.setTop (mkF m 82 #[.val (.long p1), .second, .val (.int p2), .val (.int (v0_6 p1 p2)), .val (.long ((-9187201950435737472 : Int64) &&& (((1 : Int64) <<< (((8 : Int32) * ((v0_6 p1 p2) - (1 : Int32))) &&& 0x3f).toInt64) - (1 : Int64)))), .second, .val (.long ((128 : Int64) <<< (((8 : Int32) * ((v0_6 p1 p2) - (1 : Int32))) &&& 0x3f).toInt64)), .second, .val (.long (v0_46 p1 p2)), .second, .unset, .unset, .unset, .unset] [(.int (4 : Int32)), (.long (v0_46 p1 p2)), (.long ((((sp1 (v0_46 p1 p2) (0 : Int32) (v0_6 p1 p2)) ||| (sp1 (v0_46 p1 p2) (1 : Int32) (v0_6 p1 p2))) ||| (sp1 (v0_46 p1 p2) (2 : Int32) (v0_6 p1 p2))) ||| (sp1 (v0_46 p1 p2) (3 : Int32) (v0_6 p1 p2))))])) _
    refine XS.iloadN X8.here hx rfl (hb hby at_82) rfl ?_
    exact kt)
  obtain ⟨_, _, ⟨T10, L10, k10', n10⟩, -, X10, ⟨Lc10, hQ10, l10, y10, z10⟩, st10⟩ := Jvm.LawKit.callS X8 hx (y := (⟨"com/example/terse_tree/tersetree/VarintWordValuePinLaw", "term", "(JII)J"⟩ : MethodName)) hown (mvT hZ (hw _ (List.mem_of_getElem? (i := 3) rfl))) (mvT hZ (hw _ (List.mem_of_getElem? (i := 4) rfl))) (mvT hZ (hw _ (List.mem_of_getElem? (i := 5) rfl))) (mvT hZ (hw _ (List.mem_of_getElem? (i := 6) rfl))) (by decide) (backOf (W := 2) (rm1 l Z a0 hw [] (v0_46 p1 p2) (4 : Int32) (v0_6 p1 p2) h0 n0 Z0) hZ (hw _ (List.mem_of_getElem? (i := 6) rfl)) (hw _ (List.mem_of_getElem? (i := 5) rfl)) (by decide) (by decide)) (g := (mkF m 83 #[.val (.long p1), .second, .val (.int p2), .val (.int (v0_6 p1 p2)), .val (.long ((-9187201950435737472 : Int64) &&& (((1 : Int64) <<< (((8 : Int32) * ((v0_6 p1 p2) - (1 : Int32))) &&& 0x3f).toInt64) - (1 : Int64)))), .second, .val (.long ((128 : Int64) <<< (((8 : Int32) * ((v0_6 p1 p2) - (1 : Int32))) &&& 0x3f).toInt64)), .second, .val (.long (v0_46 p1 p2)), .second, .unset, .unset, .unset, .unset] [(.int (v0_6 p1 p2)), (.int (4 : Int32)), (.long (v0_46 p1 p2)), (.long ((((sp1 (v0_46 p1 p2) (0 : Int32) (v0_6 p1 p2)) ||| (sp1 (v0_46 p1 p2) (1 : Int32) (v0_6 p1 p2))) ||| (sp1 (v0_46 p1 p2) (2 : Int32) (v0_6 p1 p2))) ||| (sp1 (v0_46 p1 p2) (3 : Int32) (v0_6 p1 p2))))])) rfl (by rw [hml]; rfl) (argsL := [(.long (v0_46 p1 p2)), (.int (4 : Int32)), (.int (v0_6 p1 p2))]) (rest := [(.long ((((sp1 (v0_46 p1 p2) (0 : Int32) (v0_6 p1 p2)) ||| (sp1 (v0_46 p1 p2) (1 : Int32) (v0_6 p1 p2))) ||| (sp1 (v0_46 p1 p2) (2 : Int32) (v0_6 p1 p2))) ||| (sp1 (v0_46 p1 p2) (3 : Int32) (v0_6 p1 p2))))]) (lenOf pd0_0 rfl) rfl (by show 2 * 0 + _ ≤ _; exact Nat.le_of_eq rfl) (hb hby at_83) (fun _ _ => ⟨rfl, hh8, (by decide : 0 + 0 ≤ _), (by decide : 0 + 0 ≤ _)⟩)
  dsimp only [Pt.U, Pt.locs, Pt.cells, Pt.slots] at X10 l10 y10 z10 st10 hQ10
  subst l10 y10 z10
  obtain ⟨rfl, N10q, hh10⟩ := hQ10
  have N10 := Fr.app N8 N10q
  have k11 : ∀ t, Steps p.tables e below (T10.setTop (mkF m 91 #[.val (.long p1), .second, .val (.int p2), .val (.int (v0_6 p1 p2)), .val (.long ((-9187201950435737472 : Int64) &&& (((1 : Int64) <<< (((8 : Int32) * ((v0_6 p1 p2) - (1 : Int32))) &&& 0x3f).toInt64) - (1 : Int64)))), .second, .val (.long ((128 : Int64) <<< (((8 : Int32) * ((v0_6 p1 p2) - (1 : Int32))) &&& 0x3f).toInt64)), .second, .val (.long (v0_46 p1 p2)), .second, .unset, .unset, .unset, .unset] [(.int (v0_6 p1 p2)), (.int (5 : Int32)), (.long (v0_46 p1 p2)), (.long (((((sp1 (v0_46 p1 p2) (0 : Int32) (v0_6 p1 p2)) ||| (sp1 (v0_46 p1 p2) (1 : Int32) (v0_6 p1 p2))) ||| (sp1 (v0_46 p1 p2) (2 : Int32) (v0_6 p1 p2))) ||| (sp1 (v0_46 p1 p2) (3 : Int32) (v0_6 p1 p2))) ||| (sp1 (v0_46 p1 p2) (4 : Int32) (v0_6 p1 p2))))])) t → Steps p.tables e below (s₁.setTop (mkF m 0 #[.val (.long p1), .second, .val (.int p2), .unset, .unset, .unset, .unset, .unset, .unset, .unset, .unset, .unset, .unset, .unset] [])) t := fun t kt => k9 t (by
    show Steps p.tables e below (T8.setTop (mkF m 83 #[.val (.long p1), .second, .val (.int p2), .val (.int (v0_6 p1 p2)), .val (.long ((-9187201950435737472 : Int64) &&& (((1 : Int64) <<< (((8 : Int32) * ((v0_6 p1 p2) - (1 : Int32))) &&& 0x3f).toInt64) - (1 : Int64)))), .second, .val (.long ((128 : Int64) <<< (((8 : Int32) * ((v0_6 p1 p2) - (1 : Int32))) &&& 0x3f).toInt64)), .second, .val (.long (v0_46 p1 p2)), .second, .unset, .unset, .unset, .unset] [(.int (v0_6 p1 p2)), (.int (4 : Int32)), (.long (v0_46 p1 p2)), (.long ((((sp1 (v0_46 p1 p2) (0 : Int32) (v0_6 p1 p2)) ||| (sp1 (v0_46 p1 p2) (1 : Int32) (v0_6 p1 p2))) ||| (sp1 (v0_46 p1 p2) (2 : Int32) (v0_6 p1 p2))) ||| (sp1 (v0_46 p1 p2) (3 : Int32) (v0_6 p1 p2))))])) _
    refine st10 _ ?_
    show Steps p.tables e below (T10.setTop (mkF m 86 #[.val (.long p1), .second, .val (.int p2), .val (.int (v0_6 p1 p2)), .val (.long ((-9187201950435737472 : Int64) &&& (((1 : Int64) <<< (((8 : Int32) * ((v0_6 p1 p2) - (1 : Int32))) &&& 0x3f).toInt64) - (1 : Int64)))), .second, .val (.long ((128 : Int64) <<< (((8 : Int32) * ((v0_6 p1 p2) - (1 : Int32))) &&& 0x3f).toInt64)), .second, .val (.long (v0_46 p1 p2)), .second, .unset, .unset, .unset, .unset] [(.long (sp1 (v0_46 p1 p2) (4 : Int32) (v0_6 p1 p2))), (.long ((((sp1 (v0_46 p1 p2) (0 : Int32) (v0_6 p1 p2)) ||| (sp1 (v0_46 p1 p2) (1 : Int32) (v0_6 p1 p2))) ||| (sp1 (v0_46 p1 p2) (2 : Int32) (v0_6 p1 p2))) ||| (sp1 (v0_46 p1 p2) (3 : Int32) (v0_6 p1 p2))))])) _
    refine XS.lor X10.here hx rfl (hb hby at_86) rfl ?_
    show Steps p.tables e below (T10.setTop (mkF m 87 #[.val (.long p1), .second, .val (.int p2), .val (.int (v0_6 p1 p2)), .val (.long ((-9187201950435737472 : Int64) &&& (((1 : Int64) <<< (((8 : Int32) * ((v0_6 p1 p2) - (1 : Int32))) &&& 0x3f).toInt64) - (1 : Int64)))), .second, .val (.long ((128 : Int64) <<< (((8 : Int32) * ((v0_6 p1 p2) - (1 : Int32))) &&& 0x3f).toInt64)), .second, .val (.long (v0_46 p1 p2)), .second, .unset, .unset, .unset, .unset] [(.long (((((sp1 (v0_46 p1 p2) (0 : Int32) (v0_6 p1 p2)) ||| (sp1 (v0_46 p1 p2) (1 : Int32) (v0_6 p1 p2))) ||| (sp1 (v0_46 p1 p2) (2 : Int32) (v0_6 p1 p2))) ||| (sp1 (v0_46 p1 p2) (3 : Int32) (v0_6 p1 p2))) ||| (sp1 (v0_46 p1 p2) (4 : Int32) (v0_6 p1 p2))))])) _
    refine XS.lload X10.here hx rfl (hb hby at_87) rfl ?_
    show Steps p.tables e below (T10.setTop (mkF m 89 #[.val (.long p1), .second, .val (.int p2), .val (.int (v0_6 p1 p2)), .val (.long ((-9187201950435737472 : Int64) &&& (((1 : Int64) <<< (((8 : Int32) * ((v0_6 p1 p2) - (1 : Int32))) &&& 0x3f).toInt64) - (1 : Int64)))), .second, .val (.long ((128 : Int64) <<< (((8 : Int32) * ((v0_6 p1 p2) - (1 : Int32))) &&& 0x3f).toInt64)), .second, .val (.long (v0_46 p1 p2)), .second, .unset, .unset, .unset, .unset] [(.long (v0_46 p1 p2)), (.long (((((sp1 (v0_46 p1 p2) (0 : Int32) (v0_6 p1 p2)) ||| (sp1 (v0_46 p1 p2) (1 : Int32) (v0_6 p1 p2))) ||| (sp1 (v0_46 p1 p2) (2 : Int32) (v0_6 p1 p2))) ||| (sp1 (v0_46 p1 p2) (3 : Int32) (v0_6 p1 p2))) ||| (sp1 (v0_46 p1 p2) (4 : Int32) (v0_6 p1 p2))))])) _
    refine XS.iconst X10.here hx rfl (hb hby at_89) ?_
    show Steps p.tables e below (T10.setTop (mkF m 90 #[.val (.long p1), .second, .val (.int p2), .val (.int (v0_6 p1 p2)), .val (.long ((-9187201950435737472 : Int64) &&& (((1 : Int64) <<< (((8 : Int32) * ((v0_6 p1 p2) - (1 : Int32))) &&& 0x3f).toInt64) - (1 : Int64)))), .second, .val (.long ((128 : Int64) <<< (((8 : Int32) * ((v0_6 p1 p2) - (1 : Int32))) &&& 0x3f).toInt64)), .second, .val (.long (v0_46 p1 p2)), .second, .unset, .unset, .unset, .unset] [(.int (5 : Int32)), (.long (v0_46 p1 p2)), (.long (((((sp1 (v0_46 p1 p2) (0 : Int32) (v0_6 p1 p2)) ||| (sp1 (v0_46 p1 p2) (1 : Int32) (v0_6 p1 p2))) ||| (sp1 (v0_46 p1 p2) (2 : Int32) (v0_6 p1 p2))) ||| (sp1 (v0_46 p1 p2) (3 : Int32) (v0_6 p1 p2))) ||| (sp1 (v0_46 p1 p2) (4 : Int32) (v0_6 p1 p2))))])) _
    refine XS.iloadN X10.here hx rfl (hb hby at_90) rfl ?_
    exact kt)
  obtain ⟨_, _, ⟨T12, L12, k12', n12⟩, -, X12, ⟨Lc12, hQ12, l12, y12, z12⟩, st12⟩ := Jvm.LawKit.callS X10 hx (y := (⟨"com/example/terse_tree/tersetree/VarintWordValuePinLaw", "term", "(JII)J"⟩ : MethodName)) hown (mvT hZ (hw _ (List.mem_of_getElem? (i := 3) rfl))) (mvT hZ (hw _ (List.mem_of_getElem? (i := 4) rfl))) (mvT hZ (hw _ (List.mem_of_getElem? (i := 5) rfl))) (mvT hZ (hw _ (List.mem_of_getElem? (i := 6) rfl))) (by decide) (backOf (W := 2) (rm1 l Z a0 hw [] (v0_46 p1 p2) (5 : Int32) (v0_6 p1 p2) h0 n0 Z0) hZ (hw _ (List.mem_of_getElem? (i := 6) rfl)) (hw _ (List.mem_of_getElem? (i := 5) rfl)) (by decide) (by decide)) (g := (mkF m 91 #[.val (.long p1), .second, .val (.int p2), .val (.int (v0_6 p1 p2)), .val (.long ((-9187201950435737472 : Int64) &&& (((1 : Int64) <<< (((8 : Int32) * ((v0_6 p1 p2) - (1 : Int32))) &&& 0x3f).toInt64) - (1 : Int64)))), .second, .val (.long ((128 : Int64) <<< (((8 : Int32) * ((v0_6 p1 p2) - (1 : Int32))) &&& 0x3f).toInt64)), .second, .val (.long (v0_46 p1 p2)), .second, .unset, .unset, .unset, .unset] [(.int (v0_6 p1 p2)), (.int (5 : Int32)), (.long (v0_46 p1 p2)), (.long (((((sp1 (v0_46 p1 p2) (0 : Int32) (v0_6 p1 p2)) ||| (sp1 (v0_46 p1 p2) (1 : Int32) (v0_6 p1 p2))) ||| (sp1 (v0_46 p1 p2) (2 : Int32) (v0_6 p1 p2))) ||| (sp1 (v0_46 p1 p2) (3 : Int32) (v0_6 p1 p2))) ||| (sp1 (v0_46 p1 p2) (4 : Int32) (v0_6 p1 p2))))])) rfl (by rw [hml]; rfl) (argsL := [(.long (v0_46 p1 p2)), (.int (5 : Int32)), (.int (v0_6 p1 p2))]) (rest := [(.long (((((sp1 (v0_46 p1 p2) (0 : Int32) (v0_6 p1 p2)) ||| (sp1 (v0_46 p1 p2) (1 : Int32) (v0_6 p1 p2))) ||| (sp1 (v0_46 p1 p2) (2 : Int32) (v0_6 p1 p2))) ||| (sp1 (v0_46 p1 p2) (3 : Int32) (v0_6 p1 p2))) ||| (sp1 (v0_46 p1 p2) (4 : Int32) (v0_6 p1 p2))))]) (lenOf pd0_0 rfl) rfl (by show 2 * 0 + _ ≤ _; exact Nat.le_of_eq rfl) (hb hby at_91) (fun _ _ => ⟨rfl, hh10, (by decide : 0 + 0 ≤ _), (by decide : 0 + 0 ≤ _)⟩)
  dsimp only [Pt.U, Pt.locs, Pt.cells, Pt.slots] at X12 l12 y12 z12 st12 hQ12
  subst l12 y12 z12
  obtain ⟨rfl, N12q, hh12⟩ := hQ12
  have N12 := Fr.app N10 N12q
  have k13 : ∀ t, Steps p.tables e below (T12.setTop (mkF m 100 #[.val (.long p1), .second, .val (.int p2), .val (.int (v0_6 p1 p2)), .val (.long ((-9187201950435737472 : Int64) &&& (((1 : Int64) <<< (((8 : Int32) * ((v0_6 p1 p2) - (1 : Int32))) &&& 0x3f).toInt64) - (1 : Int64)))), .second, .val (.long ((128 : Int64) <<< (((8 : Int32) * ((v0_6 p1 p2) - (1 : Int32))) &&& 0x3f).toInt64)), .second, .val (.long (v0_46 p1 p2)), .second, .unset, .unset, .unset, .unset] [(.int (v0_6 p1 p2)), (.int (6 : Int32)), (.long (v0_46 p1 p2)), (.long ((((((sp1 (v0_46 p1 p2) (0 : Int32) (v0_6 p1 p2)) ||| (sp1 (v0_46 p1 p2) (1 : Int32) (v0_6 p1 p2))) ||| (sp1 (v0_46 p1 p2) (2 : Int32) (v0_6 p1 p2))) ||| (sp1 (v0_46 p1 p2) (3 : Int32) (v0_6 p1 p2))) ||| (sp1 (v0_46 p1 p2) (4 : Int32) (v0_6 p1 p2))) ||| (sp1 (v0_46 p1 p2) (5 : Int32) (v0_6 p1 p2))))])) t → Steps p.tables e below (s₁.setTop (mkF m 0 #[.val (.long p1), .second, .val (.int p2), .unset, .unset, .unset, .unset, .unset, .unset, .unset, .unset, .unset, .unset, .unset] [])) t := fun t kt => k11 t (by
    show Steps p.tables e below (T10.setTop (mkF m 91 #[.val (.long p1), .second, .val (.int p2), .val (.int (v0_6 p1 p2)), .val (.long ((-9187201950435737472 : Int64) &&& (((1 : Int64) <<< (((8 : Int32) * ((v0_6 p1 p2) - (1 : Int32))) &&& 0x3f).toInt64) - (1 : Int64)))), .second, .val (.long ((128 : Int64) <<< (((8 : Int32) * ((v0_6 p1 p2) - (1 : Int32))) &&& 0x3f).toInt64)), .second, .val (.long (v0_46 p1 p2)), .second, .unset, .unset, .unset, .unset] [(.int (v0_6 p1 p2)), (.int (5 : Int32)), (.long (v0_46 p1 p2)), (.long (((((sp1 (v0_46 p1 p2) (0 : Int32) (v0_6 p1 p2)) ||| (sp1 (v0_46 p1 p2) (1 : Int32) (v0_6 p1 p2))) ||| (sp1 (v0_46 p1 p2) (2 : Int32) (v0_6 p1 p2))) ||| (sp1 (v0_46 p1 p2) (3 : Int32) (v0_6 p1 p2))) ||| (sp1 (v0_46 p1 p2) (4 : Int32) (v0_6 p1 p2))))])) _
    refine st12 _ ?_
    show Steps p.tables e below (T12.setTop (mkF m 94 #[.val (.long p1), .second, .val (.int p2), .val (.int (v0_6 p1 p2)), .val (.long ((-9187201950435737472 : Int64) &&& (((1 : Int64) <<< (((8 : Int32) * ((v0_6 p1 p2) - (1 : Int32))) &&& 0x3f).toInt64) - (1 : Int64)))), .second, .val (.long ((128 : Int64) <<< (((8 : Int32) * ((v0_6 p1 p2) - (1 : Int32))) &&& 0x3f).toInt64)), .second, .val (.long (v0_46 p1 p2)), .second, .unset, .unset, .unset, .unset] [(.long (sp1 (v0_46 p1 p2) (5 : Int32) (v0_6 p1 p2))), (.long (((((sp1 (v0_46 p1 p2) (0 : Int32) (v0_6 p1 p2)) ||| (sp1 (v0_46 p1 p2) (1 : Int32) (v0_6 p1 p2))) ||| (sp1 (v0_46 p1 p2) (2 : Int32) (v0_6 p1 p2))) ||| (sp1 (v0_46 p1 p2) (3 : Int32) (v0_6 p1 p2))) ||| (sp1 (v0_46 p1 p2) (4 : Int32) (v0_6 p1 p2))))])) _
    refine XS.lor X12.here hx rfl (hb hby at_94) rfl ?_
    show Steps p.tables e below (T12.setTop (mkF m 95 #[.val (.long p1), .second, .val (.int p2), .val (.int (v0_6 p1 p2)), .val (.long ((-9187201950435737472 : Int64) &&& (((1 : Int64) <<< (((8 : Int32) * ((v0_6 p1 p2) - (1 : Int32))) &&& 0x3f).toInt64) - (1 : Int64)))), .second, .val (.long ((128 : Int64) <<< (((8 : Int32) * ((v0_6 p1 p2) - (1 : Int32))) &&& 0x3f).toInt64)), .second, .val (.long (v0_46 p1 p2)), .second, .unset, .unset, .unset, .unset] [(.long ((((((sp1 (v0_46 p1 p2) (0 : Int32) (v0_6 p1 p2)) ||| (sp1 (v0_46 p1 p2) (1 : Int32) (v0_6 p1 p2))) ||| (sp1 (v0_46 p1 p2) (2 : Int32) (v0_6 p1 p2))) ||| (sp1 (v0_46 p1 p2) (3 : Int32) (v0_6 p1 p2))) ||| (sp1 (v0_46 p1 p2) (4 : Int32) (v0_6 p1 p2))) ||| (sp1 (v0_46 p1 p2) (5 : Int32) (v0_6 p1 p2))))])) _
    refine XS.lload X12.here hx rfl (hb hby at_95) rfl ?_
    show Steps p.tables e below (T12.setTop (mkF m 97 #[.val (.long p1), .second, .val (.int p2), .val (.int (v0_6 p1 p2)), .val (.long ((-9187201950435737472 : Int64) &&& (((1 : Int64) <<< (((8 : Int32) * ((v0_6 p1 p2) - (1 : Int32))) &&& 0x3f).toInt64) - (1 : Int64)))), .second, .val (.long ((128 : Int64) <<< (((8 : Int32) * ((v0_6 p1 p2) - (1 : Int32))) &&& 0x3f).toInt64)), .second, .val (.long (v0_46 p1 p2)), .second, .unset, .unset, .unset, .unset] [(.long (v0_46 p1 p2)), (.long ((((((sp1 (v0_46 p1 p2) (0 : Int32) (v0_6 p1 p2)) ||| (sp1 (v0_46 p1 p2) (1 : Int32) (v0_6 p1 p2))) ||| (sp1 (v0_46 p1 p2) (2 : Int32) (v0_6 p1 p2))) ||| (sp1 (v0_46 p1 p2) (3 : Int32) (v0_6 p1 p2))) ||| (sp1 (v0_46 p1 p2) (4 : Int32) (v0_6 p1 p2))) ||| (sp1 (v0_46 p1 p2) (5 : Int32) (v0_6 p1 p2))))])) _
    refine XS.bipush X12.here hx rfl (hb hby at_97) ?_
    show Steps p.tables e below (T12.setTop (mkF m 99 #[.val (.long p1), .second, .val (.int p2), .val (.int (v0_6 p1 p2)), .val (.long ((-9187201950435737472 : Int64) &&& (((1 : Int64) <<< (((8 : Int32) * ((v0_6 p1 p2) - (1 : Int32))) &&& 0x3f).toInt64) - (1 : Int64)))), .second, .val (.long ((128 : Int64) <<< (((8 : Int32) * ((v0_6 p1 p2) - (1 : Int32))) &&& 0x3f).toInt64)), .second, .val (.long (v0_46 p1 p2)), .second, .unset, .unset, .unset, .unset] [(.int (6 : Int32)), (.long (v0_46 p1 p2)), (.long ((((((sp1 (v0_46 p1 p2) (0 : Int32) (v0_6 p1 p2)) ||| (sp1 (v0_46 p1 p2) (1 : Int32) (v0_6 p1 p2))) ||| (sp1 (v0_46 p1 p2) (2 : Int32) (v0_6 p1 p2))) ||| (sp1 (v0_46 p1 p2) (3 : Int32) (v0_6 p1 p2))) ||| (sp1 (v0_46 p1 p2) (4 : Int32) (v0_6 p1 p2))) ||| (sp1 (v0_46 p1 p2) (5 : Int32) (v0_6 p1 p2))))])) _
    refine XS.iloadN X12.here hx rfl (hb hby at_99) rfl ?_
    exact kt)
  obtain ⟨_, _, ⟨T14, L14, k14', n14⟩, -, X14, ⟨Lc14, hQ14, l14, y14, z14⟩, st14⟩ := Jvm.LawKit.callS X12 hx (y := (⟨"com/example/terse_tree/tersetree/VarintWordValuePinLaw", "term", "(JII)J"⟩ : MethodName)) hown (mvT hZ (hw _ (List.mem_of_getElem? (i := 3) rfl))) (mvT hZ (hw _ (List.mem_of_getElem? (i := 4) rfl))) (mvT hZ (hw _ (List.mem_of_getElem? (i := 5) rfl))) (mvT hZ (hw _ (List.mem_of_getElem? (i := 6) rfl))) (by decide) (backOf (W := 2) (rm1 l Z a0 hw [] (v0_46 p1 p2) (6 : Int32) (v0_6 p1 p2) h0 n0 Z0) hZ (hw _ (List.mem_of_getElem? (i := 6) rfl)) (hw _ (List.mem_of_getElem? (i := 5) rfl)) (by decide) (by decide)) (g := (mkF m 100 #[.val (.long p1), .second, .val (.int p2), .val (.int (v0_6 p1 p2)), .val (.long ((-9187201950435737472 : Int64) &&& (((1 : Int64) <<< (((8 : Int32) * ((v0_6 p1 p2) - (1 : Int32))) &&& 0x3f).toInt64) - (1 : Int64)))), .second, .val (.long ((128 : Int64) <<< (((8 : Int32) * ((v0_6 p1 p2) - (1 : Int32))) &&& 0x3f).toInt64)), .second, .val (.long (v0_46 p1 p2)), .second, .unset, .unset, .unset, .unset] [(.int (v0_6 p1 p2)), (.int (6 : Int32)), (.long (v0_46 p1 p2)), (.long ((((((sp1 (v0_46 p1 p2) (0 : Int32) (v0_6 p1 p2)) ||| (sp1 (v0_46 p1 p2) (1 : Int32) (v0_6 p1 p2))) ||| (sp1 (v0_46 p1 p2) (2 : Int32) (v0_6 p1 p2))) ||| (sp1 (v0_46 p1 p2) (3 : Int32) (v0_6 p1 p2))) ||| (sp1 (v0_46 p1 p2) (4 : Int32) (v0_6 p1 p2))) ||| (sp1 (v0_46 p1 p2) (5 : Int32) (v0_6 p1 p2))))])) rfl (by rw [hml]; rfl) (argsL := [(.long (v0_46 p1 p2)), (.int (6 : Int32)), (.int (v0_6 p1 p2))]) (rest := [(.long ((((((sp1 (v0_46 p1 p2) (0 : Int32) (v0_6 p1 p2)) ||| (sp1 (v0_46 p1 p2) (1 : Int32) (v0_6 p1 p2))) ||| (sp1 (v0_46 p1 p2) (2 : Int32) (v0_6 p1 p2))) ||| (sp1 (v0_46 p1 p2) (3 : Int32) (v0_6 p1 p2))) ||| (sp1 (v0_46 p1 p2) (4 : Int32) (v0_6 p1 p2))) ||| (sp1 (v0_46 p1 p2) (5 : Int32) (v0_6 p1 p2))))]) (lenOf pd0_0 rfl) rfl (by show 2 * 0 + _ ≤ _; exact Nat.le_of_eq rfl) (hb hby at_100) (fun _ _ => ⟨rfl, hh12, (by decide : 0 + 0 ≤ _), (by decide : 0 + 0 ≤ _)⟩)
  dsimp only [Pt.U, Pt.locs, Pt.cells, Pt.slots] at X14 l14 y14 z14 st14 hQ14
  subst l14 y14 z14
  obtain ⟨rfl, N14q, hh14⟩ := hQ14
  have N14 := Fr.app N12 N14q
  have k15 : ∀ t, Steps p.tables e below (T14.setTop (mkF m 109 #[.val (.long p1), .second, .val (.int p2), .val (.int (v0_6 p1 p2)), .val (.long ((-9187201950435737472 : Int64) &&& (((1 : Int64) <<< (((8 : Int32) * ((v0_6 p1 p2) - (1 : Int32))) &&& 0x3f).toInt64) - (1 : Int64)))), .second, .val (.long ((128 : Int64) <<< (((8 : Int32) * ((v0_6 p1 p2) - (1 : Int32))) &&& 0x3f).toInt64)), .second, .val (.long (v0_46 p1 p2)), .second, .unset, .unset, .unset, .unset] [(.int (v0_6 p1 p2)), (.int (7 : Int32)), (.long (v0_46 p1 p2)), (.long (((((((sp1 (v0_46 p1 p2) (0 : Int32) (v0_6 p1 p2)) ||| (sp1 (v0_46 p1 p2) (1 : Int32) (v0_6 p1 p2))) ||| (sp1 (v0_46 p1 p2) (2 : Int32) (v0_6 p1 p2))) ||| (sp1 (v0_46 p1 p2) (3 : Int32) (v0_6 p1 p2))) ||| (sp1 (v0_46 p1 p2) (4 : Int32) (v0_6 p1 p2))) ||| (sp1 (v0_46 p1 p2) (5 : Int32) (v0_6 p1 p2))) ||| (sp1 (v0_46 p1 p2) (6 : Int32) (v0_6 p1 p2))))])) t → Steps p.tables e below (s₁.setTop (mkF m 0 #[.val (.long p1), .second, .val (.int p2), .unset, .unset, .unset, .unset, .unset, .unset, .unset, .unset, .unset, .unset, .unset] [])) t := fun t kt => k13 t (by
    show Steps p.tables e below (T12.setTop (mkF m 100 #[.val (.long p1), .second, .val (.int p2), .val (.int (v0_6 p1 p2)), .val (.long ((-9187201950435737472 : Int64) &&& (((1 : Int64) <<< (((8 : Int32) * ((v0_6 p1 p2) - (1 : Int32))) &&& 0x3f).toInt64) - (1 : Int64)))), .second, .val (.long ((128 : Int64) <<< (((8 : Int32) * ((v0_6 p1 p2) - (1 : Int32))) &&& 0x3f).toInt64)), .second, .val (.long (v0_46 p1 p2)), .second, .unset, .unset, .unset, .unset] [(.int (v0_6 p1 p2)), (.int (6 : Int32)), (.long (v0_46 p1 p2)), (.long ((((((sp1 (v0_46 p1 p2) (0 : Int32) (v0_6 p1 p2)) ||| (sp1 (v0_46 p1 p2) (1 : Int32) (v0_6 p1 p2))) ||| (sp1 (v0_46 p1 p2) (2 : Int32) (v0_6 p1 p2))) ||| (sp1 (v0_46 p1 p2) (3 : Int32) (v0_6 p1 p2))) ||| (sp1 (v0_46 p1 p2) (4 : Int32) (v0_6 p1 p2))) ||| (sp1 (v0_46 p1 p2) (5 : Int32) (v0_6 p1 p2))))])) _
    refine st14 _ ?_
    show Steps p.tables e below (T14.setTop (mkF m 103 #[.val (.long p1), .second, .val (.int p2), .val (.int (v0_6 p1 p2)), .val (.long ((-9187201950435737472 : Int64) &&& (((1 : Int64) <<< (((8 : Int32) * ((v0_6 p1 p2) - (1 : Int32))) &&& 0x3f).toInt64) - (1 : Int64)))), .second, .val (.long ((128 : Int64) <<< (((8 : Int32) * ((v0_6 p1 p2) - (1 : Int32))) &&& 0x3f).toInt64)), .second, .val (.long (v0_46 p1 p2)), .second, .unset, .unset, .unset, .unset] [(.long (sp1 (v0_46 p1 p2) (6 : Int32) (v0_6 p1 p2))), (.long ((((((sp1 (v0_46 p1 p2) (0 : Int32) (v0_6 p1 p2)) ||| (sp1 (v0_46 p1 p2) (1 : Int32) (v0_6 p1 p2))) ||| (sp1 (v0_46 p1 p2) (2 : Int32) (v0_6 p1 p2))) ||| (sp1 (v0_46 p1 p2) (3 : Int32) (v0_6 p1 p2))) ||| (sp1 (v0_46 p1 p2) (4 : Int32) (v0_6 p1 p2))) ||| (sp1 (v0_46 p1 p2) (5 : Int32) (v0_6 p1 p2))))])) _
    refine XS.lor X14.here hx rfl (hb hby at_103) rfl ?_
    show Steps p.tables e below (T14.setTop (mkF m 104 #[.val (.long p1), .second, .val (.int p2), .val (.int (v0_6 p1 p2)), .val (.long ((-9187201950435737472 : Int64) &&& (((1 : Int64) <<< (((8 : Int32) * ((v0_6 p1 p2) - (1 : Int32))) &&& 0x3f).toInt64) - (1 : Int64)))), .second, .val (.long ((128 : Int64) <<< (((8 : Int32) * ((v0_6 p1 p2) - (1 : Int32))) &&& 0x3f).toInt64)), .second, .val (.long (v0_46 p1 p2)), .second, .unset, .unset, .unset, .unset] [(.long (((((((sp1 (v0_46 p1 p2) (0 : Int32) (v0_6 p1 p2)) ||| (sp1 (v0_46 p1 p2) (1 : Int32) (v0_6 p1 p2))) ||| (sp1 (v0_46 p1 p2) (2 : Int32) (v0_6 p1 p2))) ||| (sp1 (v0_46 p1 p2) (3 : Int32) (v0_6 p1 p2))) ||| (sp1 (v0_46 p1 p2) (4 : Int32) (v0_6 p1 p2))) ||| (sp1 (v0_46 p1 p2) (5 : Int32) (v0_6 p1 p2))) ||| (sp1 (v0_46 p1 p2) (6 : Int32) (v0_6 p1 p2))))])) _
    refine XS.lload X14.here hx rfl (hb hby at_104) rfl ?_
    show Steps p.tables e below (T14.setTop (mkF m 106 #[.val (.long p1), .second, .val (.int p2), .val (.int (v0_6 p1 p2)), .val (.long ((-9187201950435737472 : Int64) &&& (((1 : Int64) <<< (((8 : Int32) * ((v0_6 p1 p2) - (1 : Int32))) &&& 0x3f).toInt64) - (1 : Int64)))), .second, .val (.long ((128 : Int64) <<< (((8 : Int32) * ((v0_6 p1 p2) - (1 : Int32))) &&& 0x3f).toInt64)), .second, .val (.long (v0_46 p1 p2)), .second, .unset, .unset, .unset, .unset] [(.long (v0_46 p1 p2)), (.long (((((((sp1 (v0_46 p1 p2) (0 : Int32) (v0_6 p1 p2)) ||| (sp1 (v0_46 p1 p2) (1 : Int32) (v0_6 p1 p2))) ||| (sp1 (v0_46 p1 p2) (2 : Int32) (v0_6 p1 p2))) ||| (sp1 (v0_46 p1 p2) (3 : Int32) (v0_6 p1 p2))) ||| (sp1 (v0_46 p1 p2) (4 : Int32) (v0_6 p1 p2))) ||| (sp1 (v0_46 p1 p2) (5 : Int32) (v0_6 p1 p2))) ||| (sp1 (v0_46 p1 p2) (6 : Int32) (v0_6 p1 p2))))])) _
    refine XS.bipush X14.here hx rfl (hb hby at_106) ?_
    show Steps p.tables e below (T14.setTop (mkF m 108 #[.val (.long p1), .second, .val (.int p2), .val (.int (v0_6 p1 p2)), .val (.long ((-9187201950435737472 : Int64) &&& (((1 : Int64) <<< (((8 : Int32) * ((v0_6 p1 p2) - (1 : Int32))) &&& 0x3f).toInt64) - (1 : Int64)))), .second, .val (.long ((128 : Int64) <<< (((8 : Int32) * ((v0_6 p1 p2) - (1 : Int32))) &&& 0x3f).toInt64)), .second, .val (.long (v0_46 p1 p2)), .second, .unset, .unset, .unset, .unset] [(.int (7 : Int32)), (.long (v0_46 p1 p2)), (.long (((((((sp1 (v0_46 p1 p2) (0 : Int32) (v0_6 p1 p2)) ||| (sp1 (v0_46 p1 p2) (1 : Int32) (v0_6 p1 p2))) ||| (sp1 (v0_46 p1 p2) (2 : Int32) (v0_6 p1 p2))) ||| (sp1 (v0_46 p1 p2) (3 : Int32) (v0_6 p1 p2))) ||| (sp1 (v0_46 p1 p2) (4 : Int32) (v0_6 p1 p2))) ||| (sp1 (v0_46 p1 p2) (5 : Int32) (v0_6 p1 p2))) ||| (sp1 (v0_46 p1 p2) (6 : Int32) (v0_6 p1 p2))))])) _
    refine XS.iloadN X14.here hx rfl (hb hby at_108) rfl ?_
    exact kt)
  obtain ⟨_, _, ⟨T16, L16, k16', n16⟩, -, X16, ⟨Lc16, hQ16, l16, y16, z16⟩, st16⟩ := Jvm.LawKit.callS X14 hx (y := (⟨"com/example/terse_tree/tersetree/VarintWordValuePinLaw", "term", "(JII)J"⟩ : MethodName)) hown (mvT hZ (hw _ (List.mem_of_getElem? (i := 3) rfl))) (mvT hZ (hw _ (List.mem_of_getElem? (i := 4) rfl))) (mvT hZ (hw _ (List.mem_of_getElem? (i := 5) rfl))) (mvT hZ (hw _ (List.mem_of_getElem? (i := 6) rfl))) (by decide) (backOf (W := 2) (rm1 l Z a0 hw [] (v0_46 p1 p2) (7 : Int32) (v0_6 p1 p2) h0 n0 Z0) hZ (hw _ (List.mem_of_getElem? (i := 6) rfl)) (hw _ (List.mem_of_getElem? (i := 5) rfl)) (by decide) (by decide)) (g := (mkF m 109 #[.val (.long p1), .second, .val (.int p2), .val (.int (v0_6 p1 p2)), .val (.long ((-9187201950435737472 : Int64) &&& (((1 : Int64) <<< (((8 : Int32) * ((v0_6 p1 p2) - (1 : Int32))) &&& 0x3f).toInt64) - (1 : Int64)))), .second, .val (.long ((128 : Int64) <<< (((8 : Int32) * ((v0_6 p1 p2) - (1 : Int32))) &&& 0x3f).toInt64)), .second, .val (.long (v0_46 p1 p2)), .second, .unset, .unset, .unset, .unset] [(.int (v0_6 p1 p2)), (.int (7 : Int32)), (.long (v0_46 p1 p2)), (.long (((((((sp1 (v0_46 p1 p2) (0 : Int32) (v0_6 p1 p2)) ||| (sp1 (v0_46 p1 p2) (1 : Int32) (v0_6 p1 p2))) ||| (sp1 (v0_46 p1 p2) (2 : Int32) (v0_6 p1 p2))) ||| (sp1 (v0_46 p1 p2) (3 : Int32) (v0_6 p1 p2))) ||| (sp1 (v0_46 p1 p2) (4 : Int32) (v0_6 p1 p2))) ||| (sp1 (v0_46 p1 p2) (5 : Int32) (v0_6 p1 p2))) ||| (sp1 (v0_46 p1 p2) (6 : Int32) (v0_6 p1 p2))))])) rfl (by rw [hml]; rfl) (argsL := [(.long (v0_46 p1 p2)), (.int (7 : Int32)), (.int (v0_6 p1 p2))]) (rest := [(.long (((((((sp1 (v0_46 p1 p2) (0 : Int32) (v0_6 p1 p2)) ||| (sp1 (v0_46 p1 p2) (1 : Int32) (v0_6 p1 p2))) ||| (sp1 (v0_46 p1 p2) (2 : Int32) (v0_6 p1 p2))) ||| (sp1 (v0_46 p1 p2) (3 : Int32) (v0_6 p1 p2))) ||| (sp1 (v0_46 p1 p2) (4 : Int32) (v0_6 p1 p2))) ||| (sp1 (v0_46 p1 p2) (5 : Int32) (v0_6 p1 p2))) ||| (sp1 (v0_46 p1 p2) (6 : Int32) (v0_6 p1 p2))))]) (lenOf pd0_0 rfl) rfl (by show 2 * 0 + _ ≤ _; exact Nat.le_of_eq rfl) (hb hby at_109) (fun _ _ => ⟨rfl, hh14, (by decide : 0 + 0 ≤ _), (by decide : 0 + 0 ≤ _)⟩)
  dsimp only [Pt.U, Pt.locs, Pt.cells, Pt.slots] at X16 l16 y16 z16 st16 hQ16
  subst l16 y16 z16
  obtain ⟨rfl, N16q, hh16⟩ := hQ16
  have N16 := Fr.app N14 N16q
  have k17 : ∀ t, Steps p.tables e below (T16.setTop (mkF m 118 #[.val (.long p1), .second, .val (.int p2), .val (.int (v0_6 p1 p2)), .val (.long ((-9187201950435737472 : Int64) &&& (((1 : Int64) <<< (((8 : Int32) * ((v0_6 p1 p2) - (1 : Int32))) &&& 0x3f).toInt64) - (1 : Int64)))), .second, .val (.long ((128 : Int64) <<< (((8 : Int32) * ((v0_6 p1 p2) - (1 : Int32))) &&& 0x3f).toInt64)), .second, .val (.long (v0_46 p1 p2)), .second, .val (.long (v0_113 p1 p2)), .second, .unset, .unset] [(.int (v0_6 p1 p2)), (.long (v0_46 p1 p2))])) t → Steps p.tables e below (s₁.setTop (mkF m 0 #[.val (.long p1), .second, .val (.int p2), .unset, .unset, .unset, .unset, .unset, .unset, .unset, .unset, .unset, .unset, .unset] [])) t := fun t kt => k15 t (by
    show Steps p.tables e below (T14.setTop (mkF m 109 #[.val (.long p1), .second, .val (.int p2), .val (.int (v0_6 p1 p2)), .val (.long ((-9187201950435737472 : Int64) &&& (((1 : Int64) <<< (((8 : Int32) * ((v0_6 p1 p2) - (1 : Int32))) &&& 0x3f).toInt64) - (1 : Int64)))), .second, .val (.long ((128 : Int64) <<< (((8 : Int32) * ((v0_6 p1 p2) - (1 : Int32))) &&& 0x3f).toInt64)), .second, .val (.long (v0_46 p1 p2)), .second, .unset, .unset, .unset, .unset] [(.int (v0_6 p1 p2)), (.int (7 : Int32)), (.long (v0_46 p1 p2)), (.long (((((((sp1 (v0_46 p1 p2) (0 : Int32) (v0_6 p1 p2)) ||| (sp1 (v0_46 p1 p2) (1 : Int32) (v0_6 p1 p2))) ||| (sp1 (v0_46 p1 p2) (2 : Int32) (v0_6 p1 p2))) ||| (sp1 (v0_46 p1 p2) (3 : Int32) (v0_6 p1 p2))) ||| (sp1 (v0_46 p1 p2) (4 : Int32) (v0_6 p1 p2))) ||| (sp1 (v0_46 p1 p2) (5 : Int32) (v0_6 p1 p2))) ||| (sp1 (v0_46 p1 p2) (6 : Int32) (v0_6 p1 p2))))])) _
    refine st16 _ ?_
    show Steps p.tables e below (T16.setTop (mkF m 112 #[.val (.long p1), .second, .val (.int p2), .val (.int (v0_6 p1 p2)), .val (.long ((-9187201950435737472 : Int64) &&& (((1 : Int64) <<< (((8 : Int32) * ((v0_6 p1 p2) - (1 : Int32))) &&& 0x3f).toInt64) - (1 : Int64)))), .second, .val (.long ((128 : Int64) <<< (((8 : Int32) * ((v0_6 p1 p2) - (1 : Int32))) &&& 0x3f).toInt64)), .second, .val (.long (v0_46 p1 p2)), .second, .unset, .unset, .unset, .unset] [(.long (sp1 (v0_46 p1 p2) (7 : Int32) (v0_6 p1 p2))), (.long (((((((sp1 (v0_46 p1 p2) (0 : Int32) (v0_6 p1 p2)) ||| (sp1 (v0_46 p1 p2) (1 : Int32) (v0_6 p1 p2))) ||| (sp1 (v0_46 p1 p2) (2 : Int32) (v0_6 p1 p2))) ||| (sp1 (v0_46 p1 p2) (3 : Int32) (v0_6 p1 p2))) ||| (sp1 (v0_46 p1 p2) (4 : Int32) (v0_6 p1 p2))) ||| (sp1 (v0_46 p1 p2) (5 : Int32) (v0_6 p1 p2))) ||| (sp1 (v0_46 p1 p2) (6 : Int32) (v0_6 p1 p2))))])) _
    refine XS.lor X16.here hx rfl (hb hby at_112) rfl ?_
    show Steps p.tables e below (T16.setTop (mkF m 113 #[.val (.long p1), .second, .val (.int p2), .val (.int (v0_6 p1 p2)), .val (.long ((-9187201950435737472 : Int64) &&& (((1 : Int64) <<< (((8 : Int32) * ((v0_6 p1 p2) - (1 : Int32))) &&& 0x3f).toInt64) - (1 : Int64)))), .second, .val (.long ((128 : Int64) <<< (((8 : Int32) * ((v0_6 p1 p2) - (1 : Int32))) &&& 0x3f).toInt64)), .second, .val (.long (v0_46 p1 p2)), .second, .unset, .unset, .unset, .unset] [(.long ((((((((sp1 (v0_46 p1 p2) (0 : Int32) (v0_6 p1 p2)) ||| (sp1 (v0_46 p1 p2) (1 : Int32) (v0_6 p1 p2))) ||| (sp1 (v0_46 p1 p2) (2 : Int32) (v0_6 p1 p2))) ||| (sp1 (v0_46 p1 p2) (3 : Int32) (v0_6 p1 p2))) ||| (sp1 (v0_46 p1 p2) (4 : Int32) (v0_6 p1 p2))) ||| (sp1 (v0_46 p1 p2) (5 : Int32) (v0_6 p1 p2))) ||| (sp1 (v0_46 p1 p2) (6 : Int32) (v0_6 p1 p2))) ||| (sp1 (v0_46 p1 p2) (7 : Int32) (v0_6 p1 p2))))])) _
    refine XS.lstore X16.here hx rfl (hb hby at_113) rfl (l' := #[.val (.long p1), .second, .val (.int p2), .val (.int (v0_6 p1 p2)), .val (.long ((-9187201950435737472 : Int64) &&& (((1 : Int64) <<< (((8 : Int32) * ((v0_6 p1 p2) - (1 : Int32))) &&& 0x3f).toInt64) - (1 : Int64)))), .second, .val (.long ((128 : Int64) <<< (((8 : Int32) * ((v0_6 p1 p2) - (1 : Int32))) &&& 0x3f).toInt64)), .second, .val (.long (v0_46 p1 p2)), .second, .val (.long (v0_113 p1 p2)), .second, .unset, .unset]) rfl ?_
    show Steps p.tables e below (T16.setTop (mkF m 115 #[.val (.long p1), .second, .val (.int p2), .val (.int (v0_6 p1 p2)), .val (.long ((-9187201950435737472 : Int64) &&& (((1 : Int64) <<< (((8 : Int32) * ((v0_6 p1 p2) - (1 : Int32))) &&& 0x3f).toInt64) - (1 : Int64)))), .second, .val (.long ((128 : Int64) <<< (((8 : Int32) * ((v0_6 p1 p2) - (1 : Int32))) &&& 0x3f).toInt64)), .second, .val (.long (v0_46 p1 p2)), .second, .val (.long (v0_113 p1 p2)), .second, .unset, .unset] [])) _
    refine XS.lload X16.here hx rfl (hb hby at_115) rfl ?_
    show Steps p.tables e below (T16.setTop (mkF m 117 #[.val (.long p1), .second, .val (.int p2), .val (.int (v0_6 p1 p2)), .val (.long ((-9187201950435737472 : Int64) &&& (((1 : Int64) <<< (((8 : Int32) * ((v0_6 p1 p2) - (1 : Int32))) &&& 0x3f).toInt64) - (1 : Int64)))), .second, .val (.long ((128 : Int64) <<< (((8 : Int32) * ((v0_6 p1 p2) - (1 : Int32))) &&& 0x3f).toInt64)), .second, .val (.long (v0_46 p1 p2)), .second, .val (.long (v0_113 p1 p2)), .second, .unset, .unset] [(.long (v0_46 p1 p2))])) _
    refine XS.iloadN X16.here hx rfl (hb hby at_117) rfl ?_
    exact kt)
  obtain ⟨_, _, ⟨T18, L18, k18', n18⟩, -, X18, ⟨Lc18, hQ18, l18, y18, z18⟩, st18⟩ := Jvm.LawKit.callS X16 hx (y := (⟨"com/example/terse_tree/tersetree/Varint", "wordValue", "(JI)J"⟩ : MethodName)) hown (mvT hZ (hw _ (List.mem_of_getElem? (i := 8) rfl))) (mvT hZ (hw _ (List.mem_of_getElem? (i := 9) rfl))) (mvT hZ (hw _ (List.mem_of_getElem? (i := 10) rfl))) (mvT hZ (hw _ (List.mem_of_getElem? (i := 11) rfl))) (by decide) (backOf (W := 0) (rm2 l Z a0 hw [] (v0_46 p1 p2) (v0_6 p1 p2) h0 n0 Z0) hZ (hw _ (List.mem_of_getElem? (i := 11) rfl)) (hw _ (List.mem_of_getElem? (i := 10) rfl)) (by decide) (by decide)) (g := (mkF m 118 #[.val (.long p1), .second, .val (.int p2), .val (.int (v0_6 p1 p2)), .val (.long ((-9187201950435737472 : Int64) &&& (((1 : Int64) <<< (((8 : Int32) * ((v0_6 p1 p2) - (1 : Int32))) &&& 0x3f).toInt64) - (1 : Int64)))), .second, .val (.long ((128 : Int64) <<< (((8 : Int32) * ((v0_6 p1 p2) - (1 : Int32))) &&& 0x3f).toInt64)), .second, .val (.long (v0_46 p1 p2)), .second, .val (.long (v0_113 p1 p2)), .second, .unset, .unset] [(.int (v0_6 p1 p2)), (.long (v0_46 p1 p2))])) rfl (by rw [hml]; rfl) (argsL := [(.long (v0_46 p1 p2)), (.int (v0_6 p1 p2))]) (rest := []) (lenOf pd0_1 rfl) rfl (by show 2 * 0 + _ ≤ _; exact Nat.le_of_eq rfl) (hb hby at_118) (fun _ _ => ⟨rfl, hh16, (by decide : 0 + 0 ≤ _), (by decide : 0 + 0 ≤ _)⟩)
  dsimp only [Pt.U, Pt.locs, Pt.cells, Pt.slots] at X18 l18 y18 z18 st18 hQ18
  subst l18 y18 z18
  obtain ⟨rfl, N18q, hh18⟩ := hQ18
  have N18 := Fr.app N16 N18q
  have k20 : ∀ t, Steps p.tables e below (T18.setTop (mkF m 128 #[.val (.long p1), .second, .val (.int p2), .val (.int (v0_6 p1 p2)), .val (.long ((-9187201950435737472 : Int64) &&& (((1 : Int64) <<< (((8 : Int32) * ((v0_6 p1 p2) - (1 : Int32))) &&& 0x3f).toInt64) - (1 : Int64)))), .second, .val (.long ((128 : Int64) <<< (((8 : Int32) * ((v0_6 p1 p2) - (1 : Int32))) &&& 0x3f).toInt64)), .second, .val (.long (v0_46 p1 p2)), .second, .val (.long (v0_113 p1 p2)), .second, .val (.long (sp2 (v0_46 p1 p2) (v0_6 p1 p2))), .second] [(.int (lcmpW (sp2 (v0_46 p1 p2) (v0_6 p1 p2)) (v0_113 p1 p2)))])) t → Steps p.tables e below (s₁.setTop (mkF m 0 #[.val (.long p1), .second, .val (.int p2), .unset, .unset, .unset, .unset, .unset, .unset, .unset, .unset, .unset, .unset, .unset] [])) t := fun t kt => k17 t (by
    show Steps p.tables e below (T16.setTop (mkF m 118 #[.val (.long p1), .second, .val (.int p2), .val (.int (v0_6 p1 p2)), .val (.long ((-9187201950435737472 : Int64) &&& (((1 : Int64) <<< (((8 : Int32) * ((v0_6 p1 p2) - (1 : Int32))) &&& 0x3f).toInt64) - (1 : Int64)))), .second, .val (.long ((128 : Int64) <<< (((8 : Int32) * ((v0_6 p1 p2) - (1 : Int32))) &&& 0x3f).toInt64)), .second, .val (.long (v0_46 p1 p2)), .second, .val (.long (v0_113 p1 p2)), .second, .unset, .unset] [(.int (v0_6 p1 p2)), (.long (v0_46 p1 p2))])) _
    refine st18 _ ?_
    show Steps p.tables e below (T18.setTop (mkF m 121 #[.val (.long p1), .second, .val (.int p2), .val (.int (v0_6 p1 p2)), .val (.long ((-9187201950435737472 : Int64) &&& (((1 : Int64) <<< (((8 : Int32) * ((v0_6 p1 p2) - (1 : Int32))) &&& 0x3f).toInt64) - (1 : Int64)))), .second, .val (.long ((128 : Int64) <<< (((8 : Int32) * ((v0_6 p1 p2) - (1 : Int32))) &&& 0x3f).toInt64)), .second, .val (.long (v0_46 p1 p2)), .second, .val (.long (v0_113 p1 p2)), .second, .unset, .unset] [(.long (sp2 (v0_46 p1 p2) (v0_6 p1 p2)))])) _
    refine XS.lstore X18.here hx rfl (hb hby at_121) rfl (l' := #[.val (.long p1), .second, .val (.int p2), .val (.int (v0_6 p1 p2)), .val (.long ((-9187201950435737472 : Int64) &&& (((1 : Int64) <<< (((8 : Int32) * ((v0_6 p1 p2) - (1 : Int32))) &&& 0x3f).toInt64) - (1 : Int64)))), .second, .val (.long ((128 : Int64) <<< (((8 : Int32) * ((v0_6 p1 p2) - (1 : Int32))) &&& 0x3f).toInt64)), .second, .val (.long (v0_46 p1 p2)), .second, .val (.long (v0_113 p1 p2)), .second, .val (.long (sp2 (v0_46 p1 p2) (v0_6 p1 p2))), .second]) rfl ?_
    show Steps p.tables e below (T18.setTop (mkF m 123 #[.val (.long p1), .second, .val (.int p2), .val (.int (v0_6 p1 p2)), .val (.long ((-9187201950435737472 : Int64) &&& (((1 : Int64) <<< (((8 : Int32) * ((v0_6 p1 p2) - (1 : Int32))) &&& 0x3f).toInt64) - (1 : Int64)))), .second, .val (.long ((128 : Int64) <<< (((8 : Int32) * ((v0_6 p1 p2) - (1 : Int32))) &&& 0x3f).toInt64)), .second, .val (.long (v0_46 p1 p2)), .second, .val (.long (v0_113 p1 p2)), .second, .val (.long (sp2 (v0_46 p1 p2) (v0_6 p1 p2))), .second] [])) _
    refine XS.lload X18.here hx rfl (hb hby at_123) rfl ?_
    show Steps p.tables e below (T18.setTop (mkF m 125 #[.val (.long p1), .second, .val (.int p2), .val (.int (v0_6 p1 p2)), .val (.long ((-9187201950435737472 : Int64) &&& (((1 : Int64) <<< (((8 : Int32) * ((v0_6 p1 p2) - (1 : Int32))) &&& 0x3f).toInt64) - (1 : Int64)))), .second, .val (.long ((128 : Int64) <<< (((8 : Int32) * ((v0_6 p1 p2) - (1 : Int32))) &&& 0x3f).toInt64)), .second, .val (.long (v0_46 p1 p2)), .second, .val (.long (v0_113 p1 p2)), .second, .val (.long (sp2 (v0_46 p1 p2) (v0_6 p1 p2))), .second] [(.long (sp2 (v0_46 p1 p2) (v0_6 p1 p2)))])) _
    refine XS.lload X18.here hx rfl (hb hby at_125) rfl ?_
    show Steps p.tables e below (T18.setTop (mkF m 127 #[.val (.long p1), .second, .val (.int p2), .val (.int (v0_6 p1 p2)), .val (.long ((-9187201950435737472 : Int64) &&& (((1 : Int64) <<< (((8 : Int32) * ((v0_6 p1 p2) - (1 : Int32))) &&& 0x3f).toInt64) - (1 : Int64)))), .second, .val (.long ((128 : Int64) <<< (((8 : Int32) * ((v0_6 p1 p2) - (1 : Int32))) &&& 0x3f).toInt64)), .second, .val (.long (v0_46 p1 p2)), .second, .val (.long (v0_113 p1 p2)), .second, .val (.long (sp2 (v0_46 p1 p2) (v0_6 p1 p2))), .second] [(.long (v0_113 p1 p2)), (.long (sp2 (v0_46 p1 p2) (v0_6 p1 p2)))])) _
    refine XS.lcmp X18.here hx rfl (hb hby at_127) rfl ?_
    exact kt)
  by_cases c128_19 : (sp2 (v0_46 p1 p2) (v0_6 p1 p2)) = (v0_113 p1 p2)
  · obtain ⟨fs, hr, hrun, hended, hW, hsame⟩ := X18.leave (v := some (.int (1 : Int32))) (fun h => by rw [Bd.returns] at h; cases h)
    refine ⟨_, _, pre0 _ (k20 _ ?_), hrun, hended, _, _, rfl, ?_, ⟨_, rfl⟩, hW, hsame.mono (by decide) (by decide)⟩
    · show Steps p.tables e below (T18.setTop (mkF m 128 #[.val (.long p1), .second, .val (.int p2), .val (.int (v0_6 p1 p2)), .val (.long ((-9187201950435737472 : Int64) &&& (((1 : Int64) <<< (((8 : Int32) * ((v0_6 p1 p2) - (1 : Int32))) &&& 0x3f).toInt64) - (1 : Int64)))), .second, .val (.long ((128 : Int64) <<< (((8 : Int32) * ((v0_6 p1 p2) - (1 : Int32))) &&& 0x3f).toInt64)), .second, .val (.long (v0_46 p1 p2)), .second, .val (.long (v0_113 p1 p2)), .second, .val (.long (sp2 (v0_46 p1 p2) (v0_6 p1 p2))), .second] [(.int (lcmpW (sp2 (v0_46 p1 p2) (v0_6 p1 p2)) (v0_113 p1 p2)))])) _
      refine XS.ifNo X18.here hx rfl (hb hby at_128) rfl ((if0 _ _).trans (teq ((lw_eq _ _).mpr c128_19)).2) ?_
      show Steps p.tables e below (T18.setTop (mkF m 131 #[.val (.long p1), .second, .val (.int p2), .val (.int (v0_6 p1 p2)), .val (.long ((-9187201950435737472 : Int64) &&& (((1 : Int64) <<< (((8 : Int32) * ((v0_6 p1 p2) - (1 : Int32))) &&& 0x3f).toInt64) - (1 : Int64)))), .second, .val (.long ((128 : Int64) <<< (((8 : Int32) * ((v0_6 p1 p2) - (1 : Int32))) &&& 0x3f).toInt64)), .second, .val (.long (v0_46 p1 p2)), .second, .val (.long (v0_113 p1 p2)), .second, .val (.long (sp2 (v0_46 p1 p2) (v0_6 p1 p2))), .second] [])) _
      refine XS.iconst X18.here hx rfl (hb hby at_131) ?_
      show Steps p.tables e below (T18.setTop (mkF m 132 #[.val (.long p1), .second, .val (.int p2), .val (.int (v0_6 p1 p2)), .val (.long ((-9187201950435737472 : Int64) &&& (((1 : Int64) <<< (((8 : Int32) * ((v0_6 p1 p2) - (1 : Int32))) &&& 0x3f).toInt64) - (1 : Int64)))), .second, .val (.long ((128 : Int64) <<< (((8 : Int32) * ((v0_6 p1 p2) - (1 : Int32))) &&& 0x3f).toInt64)), .second, .val (.long (v0_46 p1 p2)), .second, .val (.long (v0_113 p1 p2)), .second, .val (.long (sp2 (v0_46 p1 p2) (v0_6 p1 p2))), .second] [(.int (1 : Int32))])) _
      refine XS.goto X18.here hx rfl (pc0 := 132) (pc' := 136) rfl (hb hby at_132) (by decide) (by decide) ?_
      show Steps p.tables e below (T18.setTop (mkF m 136 #[.val (.long p1), .second, .val (.int p2), .val (.int (v0_6 p1 p2)), .val (.long ((-9187201950435737472 : Int64) &&& (((1 : Int64) <<< (((8 : Int32) * ((v0_6 p1 p2) - (1 : Int32))) &&& 0x3f).toInt64) - (1 : Int64)))), .second, .val (.long ((128 : Int64) <<< (((8 : Int32) * ((v0_6 p1 p2) - (1 : Int32))) &&& 0x3f).toInt64)), .second, .val (.long (v0_46 p1 p2)), .second, .val (.long (v0_113 p1 p2)), .second, .val (.long (sp2 (v0_46 p1 p2) (v0_6 p1 p2))), .second] [(.int (1 : Int32))])) _
      exact retN X18 hx (t := .boolean) Bd.returns (by simp) (hb hby at_136) hr
    · show Q0 Z p1 p2 h0 n0 _ T18.heap _
      rw [hh18]
      have hv : sp0 p1 p2 = (1 : Int32) := by unfold sp0; rw [if_pos c128_19]
      exact ⟨by rw [← hv, own_law p1 p2], N18⟩
  · obtain ⟨fs, hr, hrun, hended, hW, hsame⟩ := X18.leave (v := some (.int (0 : Int32))) (fun h => by rw [Bd.returns] at h; cases h)
    refine ⟨_, _, pre0 _ (k20 _ ?_), hrun, hended, _, _, rfl, ?_, ⟨_, rfl⟩, hW, hsame.mono (by decide) (by decide)⟩
    · show Steps p.tables e below (T18.setTop (mkF m 128 #[.val (.long p1), .second, .val (.int p2), .val (.int (v0_6 p1 p2)), .val (.long ((-9187201950435737472 : Int64) &&& (((1 : Int64) <<< (((8 : Int32) * ((v0_6 p1 p2) - (1 : Int32))) &&& 0x3f).toInt64) - (1 : Int64)))), .second, .val (.long ((128 : Int64) <<< (((8 : Int32) * ((v0_6 p1 p2) - (1 : Int32))) &&& 0x3f).toInt64)), .second, .val (.long (v0_46 p1 p2)), .second, .val (.long (v0_113 p1 p2)), .second, .val (.long (sp2 (v0_46 p1 p2) (v0_6 p1 p2))), .second] [(.int (lcmpW (sp2 (v0_46 p1 p2) (v0_6 p1 p2)) (v0_113 p1 p2)))])) _
      refine XS.ifYes X18.here hx rfl (pc0 := 128) (pc' := 135) rfl (hb hby at_128) rfl ((if0 _ _).trans (feq (fun q => c128_19 ((lw_eq _ _).mp q))).2) (by decide) (by decide) ?_
      show Steps p.tables e below (T18.setTop (mkF m 135 #[.val (.long p1), .second, .val (.int p2), .val (.int (v0_6 p1 p2)), .val (.long ((-9187201950435737472 : Int64) &&& (((1 : Int64) <<< (((8 : Int32) * ((v0_6 p1 p2) - (1 : Int32))) &&& 0x3f).toInt64) - (1 : Int64)))), .second, .val (.long ((128 : Int64) <<< (((8 : Int32) * ((v0_6 p1 p2) - (1 : Int32))) &&& 0x3f).toInt64)), .second, .val (.long (v0_46 p1 p2)), .second, .val (.long (v0_113 p1 p2)), .second, .val (.long (sp2 (v0_46 p1 p2) (v0_6 p1 p2))), .second] [])) _
      refine XS.iconst X18.here hx rfl (hb hby at_135) ?_
      show Steps p.tables e below (T18.setTop (mkF m 136 #[.val (.long p1), .second, .val (.int p2), .val (.int (v0_6 p1 p2)), .val (.long ((-9187201950435737472 : Int64) &&& (((1 : Int64) <<< (((8 : Int32) * ((v0_6 p1 p2) - (1 : Int32))) &&& 0x3f).toInt64) - (1 : Int64)))), .second, .val (.long ((128 : Int64) <<< (((8 : Int32) * ((v0_6 p1 p2) - (1 : Int32))) &&& 0x3f).toInt64)), .second, .val (.long (v0_46 p1 p2)), .second, .val (.long (v0_113 p1 p2)), .second, .val (.long (sp2 (v0_46 p1 p2) (v0_6 p1 p2))), .second] [(.int (0 : Int32))])) _
      exact retN X18 hx (t := .boolean) Bd.returns (by simp) (hb hby at_136) hr
    · show Q0 Z p1 p2 h0 n0 _ T18.heap _
      rw [hh18]
      have hv : sp0 p1 p2 = (0 : Int32) := by unfold sp0; rw [if_neg c128_19]
      exact ⟨by rw [← hv, own_law p1 p2], N18⟩
set_option maxRecDepth 65536 in
set_option maxHeartbeats 40000000 in
theorem comes_1 {Post : Tables → Env → Array Value → State → Outcome → State → Prop} (hpost : ∀ tb e args s v u, (limb_1_1.after args s (.returned v) u = true ∧ limb_1_2.after args s (.returned v) u = true ∧ True) → FrameEnd s (.returned v) u (Jvm.fieldLocs frame_1_writes args s ++ Jvm.arrayLocs frame_1_arrays args s ++ Jvm.staticLocs frame_1_statics s) 0 0 → Post tb e args s (.returned v) u) :
    ArmFor flags0 classFile x code maxLocals ret World_1 tables_1 room_1 Calls_1 rest_1 Pre_1 Post := by
  intro l hfl _ _ p e ha hc hk s m args below hf hA hF happ hP
  obtain ⟨hcalls, hrest, hpre⟩ := hP
  obtain ⟨-, -, -, hnamed, -, -, -, hat⟩ := (Spec.applies_iff hf).mp happ
  obtain ⟨hg, hn⟩ := and_e (Cond.before_iff.mp (show (Jvm.Cond.and given_1 narrow_1).before args s = true from hpre))
  obtain ⟨g2, g3⟩ := and_e hg
  obtain ⟨g4, g5⟩ := and_e g3
  obtain ⟨w0, w1, rfl⟩ : ∃ w0 w1 : Value, args = #[w0, w1] := by
    have hs : args.size = 2 := by simpa [Cond.value, given_1] using g2
    obtain ⟨L⟩ := args
    match L, hs with
    | [w0, w1], _ => exact ⟨w0, w1, rfl⟩
  have hw := fun d (hd : d ∈ tables_1) => atoms_spec (ws := Jvm.Cond.code x code maxLocals ret :: tables_1) hat d (List.mem_cons_of_mem _ hd)
  obtain ⟨i0, ei0⟩ := isL_v g4
  obtain rfl : w0 = (.long i0) := Option.some.inj ei0
  obtain ⟨i1, ei1⟩ := is_v g5
  obtain rfl : w1 = (.int i1) := Option.some.inj ei1
  obtain ⟨n, o, h1, h2, h3, _, L, rfl, ⟨rfl, N⟩, hq⟩ := rm0 l s _ hw tables_1 i0 i1 s.heap s.heap.size (Nat.le_refl _) p e ha hc hk s m _ below hf ((Spec.applies_iff_loose hf).mp happ).1 ⟨rfl, State.Warmed39.refl s, rfl⟩ trivial
  refine ⟨n, _, h1, h2, h3, hpost _ _ _ _ _ _ ⟨Cond.after_iff.mpr rfl, Cond.after_iff.mpr (eq_i res_at (Term.int_eval (1)) rfl), trivial⟩ ⟨hq.1, hq.2.1, (hq.2.2.sift fun y hy => Or.inr (N y hy)).mono (by decide) (by decide)⟩⟩
theorem main_1_1 : Claimed_1_1 := comes_1 fun _ _ _ _ _ _ h hF => ⟨h.1, hF⟩
theorem main_1_2 : Claimed_1_2 := comes_1 fun _ _ _ _ _ _ h hF => ⟨h.2.1, hF⟩
end Jvm.Pilot.@@N@@
namespace Jvm.Pilot.@@N@@
open Jvm Jvm.ClassFile Sem Op Lib Jvm.Free Jvm.Stand Jvm.Pilot.@@N@@.Jvm.D
/-! MADE BY PROGRAM (witnessworld.py) out of the Statement's table words and the real class files: 9 classes; the members and pool entries that the words name. The judged class is class 1, her method 2. -/
namespace start1
open Jvm.ClassFile
def u (s : String) : CpInfo := .utf8 (stringToUtf16 s)
/-- a pool by its gaps: so many unusable entries, then the entry; so many at the end -/
def gap : Nat → List CpInfo → List CpInfo
  | 0, r => r
  | n + 1, r => .unusable :: gap n r
def poolList (es : List (Nat × CpInfo)) (last : Nat) : List CpInfo := es.foldr (fun e r => gap e.1 (e.2 :: r)) (gap last [])
def pool (es : List (Nat × CpInfo)) (last : Nat) : Array CpInfo := ⟨poolList es last⟩
def fileOf (pool : Array CpInfo) (this : Nat) (attrs : Array Attribute := #[]) (ms : Array MethodInfo := #[]) (fl : Nat := 33) (sup : Nat := 0) (ifs : Array Nat := #[]) (fds : Array FieldInfo := #[]) : ClassFile where
  minorVersion := 0
  majorVersion := 65
  constantPool := pool
  accessFlags := fl
  thisClass := this
  superClass := sup
  interfaces := ifs
  fields := fds
  methods := ms
  attributes := attrs
def plain (name : String) (sup : Option ClassId) : Class where
  name := name
  kind := .ordinary
  loader := none
  accessFlags := 33
  super := sup
  interfaces := #[]
  cf := none
  fields := #[]
  methods := #[]
  instanceTypes := #[]
  staticTypes := #[]
  resolved := #[]
  callSites := []
  init := .initialized
  statics := none
  mirror := none

def pool0 : Array CpInfo := pool [(5, u "<init>"), (0, u "()V"), (1, .class_ 10), (1, u "java/lang/Object")] 113

def k0m0 : Method := { name := "<init>", desc := "()V", sig := { parameters := [], returnType := none }, accessFlags := 1, code := none }
/-- java/lang/Object -/
def k0 : Class := { plain "java/lang/Object" none with
  accessFlags := 33
  interfaces := #[]
  cf := some (fileOf pool0 8 #[] #[{ accessFlags := 1, nameIndex := 5, descriptorIndex := 6, attributes := #[] }] 33 0 #[] #[])
  fields := #[]
  methods := #[k0m0]
  instanceTypes := #[]
  staticTypes := #[]
  resolved := Array.replicate 124 none
  statics := none }

def pool1 : Array CpInfo := pool [(2, .class_ 4), (1, u "java/lang/Object"), (0, u "<init>"), (0, u "()V"), (0, .long 127), (1, .class_ 10), (0, u "com/example/terse_tree/tersetree/VarintWordValuePinLaw"), (0, .long 9259542123273814144), (1, .long 128), (1, .long 18446744073709551615), (1, .methodref 9 18), (0, .nameAndType 19 20), (0, u "term"), (0, u "(JII)J"), (0, .methodref 22 23), (0, .class_ 24), (0, .nameAndType 25 26), (0, u "com/example/terse_tree/tersetree/Varint"), (0, u "wordValue"), (0, u "(JI)J"), (0, u "HIGH"), (0, u "J"), (4, u "law"), (0, u "(JI)Z")] 2

def k1m0 : Method := { name := "<init>", desc := "()V", sig := { parameters := [], returnType := none }, accessFlags := 1, code := none }
def k1c1 : Code := { maxStack := 4, maxLocals := 4, code := method_2_code, exceptionTable := #[], attributes := #[] }
def k1m1 : Method := { name := "term", desc := "(JII)J", sig := { parameters := [.long, .int, .int], returnType := some .long }, accessFlags := 10, code := some k1c1 }
def k1c2 : Code := { maxStack := 7, maxLocals := 14, code := code, exceptionTable := #[], attributes := #[] }
def k1m2 : Method := { name := "law", desc := "(JI)Z", sig := { parameters := [.long, .int], returnType := some .boolean }, accessFlags := 9, code := some k1c2 }
/-- com/example/terse_tree/tersetree/VarintWordValuePinLaw -/
def k1 : Class := { plain "com/example/terse_tree/tersetree/VarintWordValuePinLaw" (some 0) with
  accessFlags := 49
  interfaces := #[]
  cf := some (fileOf pool1 9 #[] #[{ accessFlags := 1, nameIndex := 5, descriptorIndex := 6, attributes := #[] }, { accessFlags := 10, nameIndex := 19, descriptorIndex := 20, attributes := #[] }, { accessFlags := 9, nameIndex := 33, descriptorIndex := 34, attributes := #[] }] 49 2 #[] #[{ accessFlags := 26, nameIndex := 27, descriptorIndex := 28, attributes := #[] }])
  fields := #[{ name := "HIGH", type := .long, accessFlags := 26, slot := 0, constantValue := 0 }]
  methods := #[k1m0, k1m1, k1m2]
  instanceTypes := #[]
  staticTypes := #[.long]
  resolved := Array.replicate 37 none
  statics := none }

def pool2 : Array CpInfo := pool [(2, .class_ 4), (1, u "java/lang/Object"), (0, u "<init>"), (0, u "()V"), (16, .long 268435455), (3, .long 70364449226751), (3, .long 35747867511423103), (5, .class_ 38), (0, u "com/example/terse_tree/tersetree/Varint"), (31, .long 18446744073709551615), (4, .long 9151454082924314368), (1, .long 4611404544524353536), (1, .long 1152921500311879680), (1, u "MAX_LENGTH"), (0, u "I"), (2, u "HIGH_BITS"), (0, u "J"), (12, u "(JI)J"), (6, u "wordValue")] 2

def k2m0 : Method := { name := "<init>", desc := "()V", sig := { parameters := [], returnType := none }, accessFlags := 2, code := none }
def k2c1 : Code := { maxStack := 7, maxLocals := 9, code := prog_43_method_12_code, exceptionTable := #[], attributes := #[] }
def k2m1 : Method := { name := "wordValue", desc := "(JI)J", sig := { parameters := [.long, .int], returnType := some .long }, accessFlags := 8, code := some k2c1 }
/-- com/example/terse_tree/tersetree/Varint -/
def k2 : Class := { plain "com/example/terse_tree/tersetree/Varint" (some 0) with
  accessFlags := 32
  interfaces := #[]
  cf := some (fileOf pool2 37 #[] #[{ accessFlags := 2, nameIndex := 5, descriptorIndex := 6, attributes := #[] }, { accessFlags := 8, nameIndex := 106, descriptorIndex := 99, attributes := #[] }] 32 2 #[] #[{ accessFlags := 24, nameIndex := 81, descriptorIndex := 82, attributes := #[] }, { accessFlags := 26, nameIndex := 85, descriptorIndex := 86, attributes := #[] }])
  fields := #[{ name := "MAX_LENGTH", type := .int, accessFlags := 24, slot := 0, constantValue := 0 }, { name := "HIGH_BITS", type := .long, accessFlags := 26, slot := 1, constantValue := 0 }]
  methods := #[k2m0, k2m1]
  instanceTypes := #[]
  staticTypes := #[.int, .long]
  resolved := Array.replicate 109 none
  statics := none }

def pool3 : Array CpInfo := pool [(1, u "java/lang/Cloneable"), (0, .class_ 1), (0, u "java/lang/Object"), (0, .class_ 3)] 3

/-- java/lang/Cloneable -/
def k3 : Class := { plain "java/lang/Cloneable" (some 0) with
  accessFlags := 1537
  interfaces := #[]
  cf := some (fileOf pool3 2 #[] #[] 1537 4 #[] #[])
  fields := #[]
  methods := #[]
  instanceTypes := #[]
  staticTypes := #[]
  resolved := Array.replicate 8 none
  statics := none }

def pool4 : Array CpInfo := pool [(1, u "java/io/Serializable"), (0, .class_ 1), (0, u "java/lang/Object"), (0, .class_ 3)] 3

/-- java/io/Serializable -/
def k4 : Class := { plain "java/io/Serializable" (some 0) with
  accessFlags := 1537
  interfaces := #[]
  cf := some (fileOf pool4 2 #[] #[] 1537 4 #[] #[])
  fields := #[]
  methods := #[]
  instanceTypes := #[]
  staticTypes := #[]
  resolved := Array.replicate 8 none
  statics := none }

/-- the primitive byte -/
def k5 : Class := { plain "byte" none with kind := .primitive 'B', accessFlags := 0x411 }
/-- [B -/
def k6 : Class := { plain "[B" (some 0) with kind := .array 5 .byte, interfaces := #[3, 4], accessFlags := 1041 }

/-- the primitive int -/
def k7 : Class := { plain "int" none with kind := .primitive 'I', accessFlags := 0x411 }
/-- [I -/
def k8 : Class := { plain "[I" (some 0) with kind := .array 7 .int, interfaces := #[3, 4], accessFlags := 1041 }

def heap : Heap := #[]
def classes : Array Class := #[k0, k1, k2, k3, k4, k5, k6, k7, k8]
def interned : List (Array UInt16 × Addr) := []
def slotsUsed : Nat := 0
def theMethod : MethodId := ⟨1, 2⟩
def args0 : Array Value := #[.long 5, .int 5]
def aboutOver (below : List Frame) : State where
  vm := { classes := classes, interned := interned.toArray }
  heap := heap
  slotsUsed := slotsUsed
  threads := #[{ frames := .invoking theMethod args0 :: below }]
def below0 : List Frame := [.native { method := ⟨0, 0⟩, args := #[] }]
def about1 : State := aboutOver below0
def p0 : Program := .bare "" "" ""
def e0 : Env := launch0.env 0 0 0
theorem w_frames : about1.frames = Frame.invoking theMethod args0 :: below0 := rfl
set_option maxRecDepth 65536 in
theorem w_args : argsFit about1.vm theMethod args0 = true := by decide +kernel
set_option maxRecDepth 65536 in
theorem w_heap : heapFits about1 = true := by decide +kernel
set_option maxRecDepth 65536 in
theorem w_runnable : about1.curStatus? = some .runnable := by decide +kernel
set_option maxRecDepth 65536 in
theorem w_alone : about1.alone = true := by decide +kernel
set_option maxRecDepth 65536 in
theorem w_named : about1.methodNamed? x = some theMethod := by decide +kernel
set_option maxRecDepth 65536 in
theorem w_hears : about1.hears theMethod below0 = true := by decide +kernel
set_option maxRecDepth 65536 in
theorem w_ripe : about1.ripe theMethod args0 below0 = true := by decide +kernel
theorem w_running : about1.status = .running := rfl
set_option maxRecDepth 65536 in
theorem w_room : about1.hasRoom e0.platform room_1 = true :=
  launch0.hasRoom_least _ room_1 (by decide +kernel) (by decide +kernel) (by decide +kernel) (by decide +kernel) (by decide +kernel) (by decide +kernel)
theorem allAtoms_all (ts : List Jvm.Cond) (a : Array Jvm.Value) (st : Jvm.State) : (allAtoms ts).before a st = ts.all (fun c => c.before a st) := by
  induction ts with
  | nil => rfl
  | cons c t ih =>
    show (Jvm.Cond.and c (allAtoms t)).before a st = _
    rw [Jvm.Cond.before_and, ih, List.all_cons]
def words1 : List Jvm.Cond := Jvm.Cond.code x code maxLocals ret :: tables_1
/-- a 'code' word, met by the world's own term for the bytes: nothing is compared byte by byte -/
theorem code_word {y : MethodName} {bytes : ByteArray} {mx : Nat} {rt : Option FieldType} {a : Array Value} {s : State} {m : MethodId} {meth : Method} {c : Code} (h1 : s.methodNamed? y = some m) (h2 : s.vm.method? m = some meth) (h3 : meth.code = some c) (h4 : c.code = bytes)
    (h5 : (c.maxLocals == mx && c.exceptionTable.isEmpty && decide (c.maxStack ≤ mostOperands) && decide (meth.sig.returnType = rt) && !meth.locks && decide (parseMethodDescriptor y.desc = some meth.sig)) = true) : (Jvm.Cond.code y bytes mx rt).before a s = true := by
  simp only [Bool.and_eq_true, beq_iff_eq, Bool.not_eq_true', decide_eq_true_eq] at h5
  obtain ⟨⟨⟨⟨⟨g1, g2⟩, g3⟩, g4⟩, g5⟩, g6⟩ := h5
  simp [Cond.before, Cond.holds, Cond.value, h1, h2, h3, h4, g1, g2, g3, g4, g5, g6]
def isCode : Jvm.Cond → Bool
  | .code _ _ _ _ => true
  | _ => false
theorem all_split {L : List Jvm.Cond} {P : Jvm.Cond → Bool} (h1 : L.all (fun c => isCode c || P c) = true) (h2 : ∀ c ∈ L.filter isCode, P c = true) : L.all P = true := by
  refine List.all_eq_true.mpr fun c hc => ?_
  have h := List.all_eq_true.mp h1 c hc
  rcases Bool.eq_false_or_eq_true (isCode c) with hi | hi
  · exact h2 c (List.mem_filter.mpr ⟨hc, hi⟩)
  · simpa [hi] using h
set_option maxRecDepth 65536 in
theorem w_c0 : (Jvm.Cond.code x code maxLocals ret).before args0 about1 = true := code_word (m := ⟨1, 2⟩) (meth := k1m2) (c := k1c2) (by decide +kernel) rfl rfl rfl (by decide +kernel)
set_option maxRecDepth 65536 in
theorem w_c1 : (Jvm.Cond.code ({ cls := "com/example/terse_tree/tersetree/VarintWordValuePinLaw", name := "term", desc := "(JII)J" } : Jvm.MethodName) method_2_code (4 : Nat) (Option.some Jvm.ClassFile.FieldType.long)).before args0 about1 = true := code_word (m := ⟨1, 1⟩) (meth := k1m1) (c := k1c1) (by decide +kernel) rfl rfl rfl (by decide +kernel)
set_option maxRecDepth 65536 in
theorem w_c2 : (Jvm.Cond.code ({ cls := "com/example/terse_tree/tersetree/Varint", name := "wordValue", desc := "(JI)J" } : Jvm.MethodName) prog_43_method_12_code (9 : Nat) (Option.some Jvm.ClassFile.FieldType.long)).before args0 about1 = true := code_word (m := ⟨2, 1⟩) (meth := k2m1) (c := k2c1) (by decide +kernel) rfl rfl rfl (by decide +kernel)
def codes1 : List Jvm.Cond := [Jvm.Cond.code x code maxLocals ret, Jvm.Cond.code ({ cls := "com/example/terse_tree/tersetree/VarintWordValuePinLaw", name := "term", desc := "(JII)J" } : Jvm.MethodName) method_2_code (4 : Nat) (Option.some Jvm.ClassFile.FieldType.long), Jvm.Cond.code ({ cls := "com/example/terse_tree/tersetree/Varint", name := "wordValue", desc := "(JI)J" } : Jvm.MethodName) prog_43_method_12_code (9 : Nat) (Option.some Jvm.ClassFile.FieldType.long)]
set_option maxRecDepth 65536 in
theorem codes_eq : words1.filter isCode = codes1 := rfl
theorem w_codes : ∀ c ∈ words1.filter isCode, c.before args0 about1 = true := by
  rw [codes_eq]
  intro c hc
  simp only [codes1, List.mem_cons, List.not_mem_nil, or_false] at hc
  rcases hc with rfl | rfl | rfl
  · exact w_c0
  · exact w_c1
  · exact w_c2
set_option maxRecDepth 65536 in
theorem w_t1 : words1.all (fun c => isCode c || c.before args0 about1) = true := by decide +kernel
theorem w_tables : (allAtoms (Jvm.Cond.code x code maxLocals ret :: tables_1)).before args0 about1 = true := by
  rw [allAtoms_all]
  show words1.all (fun c => c.before args0 about1) = true
  refine all_split ?_ w_codes
  rw [w_t1]
set_option maxRecDepth 65536 in
theorem w_case : (Jvm.Cond.and given_1 narrow_1).before args0 about1 = true := by decide +kernel
theorem w_applies : (headSpec (Jvm.Cond.code x code maxLocals ret :: tables_1) room_1).applies x e0.platform about1 = true :=
  (Spec.applies_iff w_frames).mpr ⟨w_running, w_runnable, w_alone, w_named, w_hears, w_ripe, w_room, w_tables⟩
theorem atStart : AtStart classFile x code maxLocals ret World_1 tables_1 room_1 Calls_1 rest_1 Pre_1 launch0 p0 e0 about1 theMethod args0 below0 :=
  ⟨lists_1, trivial, launch0.admits_env _ _ _, launch0.least_env, fairChoices_fair.cas, fairChoices_fair.clock, w_frames, w_args, w_heap, w_applies, trivial, trivial, w_case⟩
end start1
theorem witness_1 : WitnessClaimed_1 := ⟨start1.p0, start1.e0, start1.about1, start1.theMethod, start1.args0, start1.below0, start1.atStart⟩
end Jvm.Pilot.@@N@@
