import JvmDerived
import JvmDerived.Pilot.@@N@@Statement
import JvmDerived.Pilot.@@N@@Code
set_option linter.unusedVariables false
set_option linter.unusedSimpArgs false
namespace Jvm.RoadKit
open Sem ClassFile Op Lib Jvm.Stand Jvm.Free Jvm.LawKit
section New
variable {p : Program} {l : Launch} {e : Env} {R : Room} {s : State} {m : MethodId} {args : Array Value} {below : List Frame} {meth : Method} {c : Code} {T : State} {locs : List Loc} {cells slots : Nat}
theorem retI (X : Stand p l e R s m args below meth c T locs cells slots) (hx : p.tables.exec = Jvm.exec) {pc : Nat} {Ls : Array Slot} {z : Int32} {rest : List Value} (hret : meth.sig.returnType = some .int) (hd : decode c.code pc = .ok (.ireturn, 1)) {fs : List Frame}
    (hl : ∀ (f : JFrame) (acts : List Action), f.method = m → f.locked = none → f.entered = [] → (doReturn e (T.setTop f) acts (some (.int z))).1 = T.setFrames fs) : Steps p.tables e below (T.setTop (mkF m pc Ls (.int z :: rest))) (T.setFrames fs) := by
  have hm' : T.vm.method? m = some meth := X.method'
  have hn : narrow .int (.int z) = .int z := rfl
  show Steps p.tables e below (T.setTop { method := m, pc := pc, locals := Ls, stack := _ :: rest, locked := none }) _
  jvm_step X.here [X.here.top, hx, hd, hm', hret, hn]
  first | (intro acts; rw [hl _ acts rfl rfl rfl]) | rw [hl _ _ rfl rfl rfl]
  exact Steps.refl _
end New
end Jvm.RoadKit
namespace Jvm.Pilot.@@N@@
open Jvm Jvm.ClassFile Sem Op Lib Jvm.Free Jvm.Stand Jvm.LawKit Jvm.RoadKit Bundle Jvm.Pilot.@@N@@.Jvm.D
theorem d1_0 : decode prog_165_method_32_code 0 = .ok (.iload_n 0, 1) := by decide +kernel
theorem d1_1 : decode prog_165_method_32_code 1 = .ok (.bipush 10, 2) := by decide +kernel
theorem d1_3 : decode prog_165_method_32_code 3 = .ok (.if_icmp .eq 23, 3) := by decide +kernel
theorem d1_6 : decode prog_165_method_32_code 6 = .ok (.iload_n 0, 1) := by decide +kernel
theorem d1_7 : decode prog_165_method_32_code 7 = .ok (.bipush 13, 2) := by decide +kernel
theorem d1_9 : decode prog_165_method_32_code 9 = .ok (.if_icmp .eq 17, 3) := by decide +kernel
theorem d1_12 : decode prog_165_method_32_code 12 = .ok (.iload_n 0, 1) := by decide +kernel
theorem d1_13 : decode prog_165_method_32_code 13 = .ok (.sipush 8232, 3) := by decide +kernel
theorem d1_16 : decode prog_165_method_32_code 16 = .ok (.if_icmp .eq 10, 3) := by decide +kernel
theorem d1_19 : decode prog_165_method_32_code 19 = .ok (.iload_n 0, 1) := by decide +kernel
theorem d1_20 : decode prog_165_method_32_code 20 = .ok (.sipush 8233, 3) := by decide +kernel
theorem d1_23 : decode prog_165_method_32_code 23 = .ok (.if_icmp .ne 7, 3) := by decide +kernel
theorem d1_26 : decode prog_165_method_32_code 26 = .ok (.iconst 1, 1) := by decide +kernel
theorem d1_27 : decode prog_165_method_32_code 27 = .ok (.goto 4, 3) := by decide +kernel
theorem d1_30 : decode prog_165_method_32_code 30 = .ok (.iconst 0, 1) := by decide +kernel
theorem d1_31 : decode prog_165_method_32_code 31 = .ok (.ireturn, 1) := by decide +kernel
theorem pn_1 : plainName "com/example/sayable/sayable/ScriptLexer" = true := by first | (simp [plainName, overriddenIn]; done) | decide +kernel
theorem ef_1 (m : MethodId) (x0 : Int32) : entryFrame m #[(.int x0)] 1 = mkF m 0 #[.val (.int x0)] [] := by first | (simp [entryFrame, mkF, argsToLocals, Value.category]; done) | rfl
theorem pn_0 : plainName "com/example/sayable/sayable/ScriptLexerIsLineTerminatorPinLaw" = true := by first | (simp [plainName, overriddenIn]; done) | decide +kernel
theorem pd0_0 : parseMethodDescriptor "(I)Z" = some ⟨[.int], some .boolean⟩ := by decide +kernel
theorem ef_0 (m : MethodId) (x0 : Int32) (x1 : Int32) (x2 : Int32) : entryFrame m #[(.int x0), (.int x1), (.int x2)] maxLocals = mkF m 0 #[.val (.int x0), .val (.int x1), .val (.int x2), .unset, .unset, .unset, .unset, .unset, .unset] [] := by first | (simp [entryFrame, mkF, argsToLocals, Value.category, maxLocals]; done) | rfl
def own_t (j : Int32) : Int32 := if j = 0 then 10 else if j = 1 then 13 else if j = 2 then 8232 else 8233
def own_u (j : Int32) : Int32 := if j = 0 then 11 else if j = 1 then 12 else if j = 2 then 28 else if j = 3 then 29 else if j = 4 then 30 else if j = 5 then 133 else if j = 6 then 32 else 9
def sp1 (p1 : Int32) : Int32 := (if p1 = (10 : Int32) then (1 : Int32) else (if p1 = (13 : Int32) then (1 : Int32) else (if p1 = (8232 : Int32) then (1 : Int32) else (if p1 = (8233 : Int32) then (1 : Int32) else (0 : Int32)))))
def j0_1_S0 (p1 : Int32) (p2 : Int32) (p3 : Int32) : Int32 := (if (own_t (p2 &&& (3 : Int32))) = (10 : Int32) then (1 : Int32) else (if (own_t (p2 &&& (3 : Int32))) = (13 : Int32) then (1 : Int32) else (if ((own_t (p2 &&& (3 : Int32))) &&& (-2 : Int32)) = (8232 : Int32) then (1 : Int32) else (0 : Int32))))
def j0_2_S0 (p1 : Int32) (p2 : Int32) (p3 : Int32) : Int32 := (if ((own_t (p2 &&& (3 : Int32))) + ((p3 &&& (7 : Int32)) - (4 : Int32))) = (10 : Int32) then (1 : Int32) else (if ((own_t (p2 &&& (3 : Int32))) + ((p3 &&& (7 : Int32)) - (4 : Int32))) = (13 : Int32) then (1 : Int32) else (if (((own_t (p2 &&& (3 : Int32))) + ((p3 &&& (7 : Int32)) - (4 : Int32))) &&& (-2 : Int32)) = (8232 : Int32) then (1 : Int32) else (0 : Int32))))
def j0_3_S0 (p1 : Int32) (p2 : Int32) (p3 : Int32) : Int32 := (if (own_u (p2 &&& (7 : Int32))) = (10 : Int32) then (1 : Int32) else (if (own_u (p2 &&& (7 : Int32))) = (13 : Int32) then (1 : Int32) else (if ((own_u (p2 &&& (7 : Int32))) &&& (-2 : Int32)) = (8232 : Int32) then (1 : Int32) else (0 : Int32))))
def j0_4_S0 (p1 : Int32) (p2 : Int32) (p3 : Int32) : Int32 := (if ((own_t (p2 &&& (3 : Int32))) + (p3 <<< ((16 : Int32) &&& 31))) = (10 : Int32) then (1 : Int32) else (if ((own_t (p2 &&& (3 : Int32))) + (p3 <<< ((16 : Int32) &&& 31))) = (13 : Int32) then (1 : Int32) else (if (((own_t (p2 &&& (3 : Int32))) + (p3 <<< ((16 : Int32) &&& 31))) &&& (-2 : Int32)) = (8232 : Int32) then (1 : Int32) else (0 : Int32))))
def j0_5_S0 (p1 : Int32) (p2 : Int32) (p3 : Int32) : Int32 := (if p2 = (10 : Int32) then (1 : Int32) else (if p2 = (13 : Int32) then (1 : Int32) else (if (p2 &&& (-2 : Int32)) = (8232 : Int32) then (1 : Int32) else (0 : Int32))))
def sp0 (p1 : Int32) (p2 : Int32) (p3 : Int32) : Int32 := (if (p1 &&& (7 : Int32)) = (0 : Int32) then (if (sp1 (own_t (p2 &&& (3 : Int32)))) = (j0_1_S0 p1 p2 p3) then (1 : Int32) else (0 : Int32)) else (if (p1 &&& (7 : Int32)) = (1 : Int32) then (if (sp1 ((own_t (p2 &&& (3 : Int32))) + ((p3 &&& (7 : Int32)) - (4 : Int32)))) = (j0_2_S0 p1 p2 p3) then (1 : Int32) else (0 : Int32)) else (if (p1 &&& (7 : Int32)) = (3 : Int32) then (if (sp1 (own_u (p2 &&& (7 : Int32)))) = (j0_3_S0 p1 p2 p3) then (1 : Int32) else (0 : Int32)) else (if (p1 &&& (7 : Int32)) = (4 : Int32) then (if (sp1 ((own_t (p2 &&& (3 : Int32))) + (p3 <<< ((16 : Int32) &&& 31)))) = (j0_4_S0 p1 p2 p3) then (1 : Int32) else (0 : Int32)) else (if (sp1 p2) = (j0_5_S0 p1 p2 p3) then (1 : Int32) else (0 : Int32))))))
theorem own_fin (p : Int32) (n : Nat) (h0 : 0 ≤ p.toInt) (h1 : p.toInt < (n : Int)) : ∃ k : Fin n, p = Int32.ofNat k.val := by
  refine ⟨⟨p.toInt.toNat, by omega⟩, ?_⟩
  apply Int32.toInt_inj.mp
  have h2 := p.toInt_lt
  show p.toInt = (Int32.ofNat p.toInt.toNat).toInt
  rw [Int32.toInt_ofNat_of_lt (by omega)]
  omega
theorem own_p3 (p : Int32) : ∃ k : Fin 4, (p &&& (3 : Int32)) = Int32.ofNat k.val :=
  own_fin (p &&& 3) 4 (by rw [c_mask p 3 2 (by decide) (by decide)]; omega) (by rw [c_mask p 3 2 (by decide) (by decide)]; omega)
theorem own_p7 (p : Int32) : ∃ k : Fin 8, (p &&& (7 : Int32)) = Int32.ofNat k.val :=
  own_fin (p &&& 7) 8 (by rw [c_mask p 7 3 (by decide) (by decide)]; omega) (by rw [c_mask p 7 3 (by decide) (by decide)]; omega)
theorem own_b3 (p : Int32) : ¬ (p &&& (3 : Int32)) < 0 ∧ (p &&& (3 : Int32)) < (4 : Int32) := by
  obtain ⟨k, hk⟩ := own_p3 p
  rw [hk]; clear hk; revert k; decide
theorem own_b7 (p : Int32) : ¬ (p &&& (7 : Int32)) < 0 ∧ (p &&& (7 : Int32)) < (8 : Int32) := by
  obtain ⟨k, hk⟩ := own_p7 p
  rw [hk]; clear hk; revert k; decide
theorem own_a3 (p : Int32) : ([(.int (10 : Int32)), (.int (13 : Int32)), (.int (8232 : Int32)), (.int (8233 : Int32))] : List Value).getD ((p &&& (3 : Int32))).toNatClampNeg (.int (0 : Int32)) = .int (own_t (p &&& (3 : Int32))) := by
  obtain ⟨k, hk⟩ := own_p3 p
  rw [hk]; clear hk; revert k; decide
theorem own_a7 (p : Int32) : ([(.int (11 : Int32)), (.int (12 : Int32)), (.int (28 : Int32)), (.int (29 : Int32)), (.int (30 : Int32)), (.int (133 : Int32)), (.int (32 : Int32)), (.int (9 : Int32))] : List Value).getD ((p &&& (7 : Int32))).toNatClampNeg (.int (0 : Int32)) = .int (own_u (p &&& (7 : Int32))) := by
  obtain ⟨k, hk⟩ := own_p7 p
  rw [hk]; clear hk; revert k; decide
theorem own_split (c : Int32) : (c &&& (-2 : Int32)) ||| (c &&& (1 : Int32)) = c := by
  refine Int32.toBitVec_inj.mp (BitVec.eq_of_getLsbD_eq fun i hi => ?_)
  rw [Int32.toBitVec_or, Int32.toBitVec_and, Int32.toBitVec_and, BitVec.getLsbD_or, BitVec.getLsbD_and, BitVec.getLsbD_and]
  have h : ∀ i : Fin 32, ((-2 : Int32).toBitVec.getLsbD i.val || (1 : Int32).toBitVec.getLsbD i.val) = true := by decide +kernel
  have h' := h ⟨i, hi⟩
  revert h'
  show ((-2 : Int32).toBitVec.getLsbD i || (1 : Int32).toBitVec.getLsbD i) = true → _
  cases c.toBitVec.getLsbD i <;> cases (-2 : Int32).toBitVec.getLsbD i <;> cases (1 : Int32).toBitVec.getLsbD i <;> simp
theorem own_p1 (p : Int32) : ∃ k : Fin 2, (p &&& (1 : Int32)) = Int32.ofNat k.val :=
  own_fin (p &&& 1) 2 (by rw [c_mask p 1 1 (by decide) (by decide)]; omega) (by rw [c_mask p 1 1 (by decide) (by decide)]; omega)
theorem own_pair (c : Int32) (h : (c &&& (-2 : Int32)) = (8232 : Int32)) : c = 8232 ∨ c = 8233 := by
  have e := own_split c
  obtain ⟨k, hk⟩ := own_p1 c
  rw [h, hk] at e
  rw [← e]
  clear e hk h; revert k; decide
theorem own_same (c : Int32) : sp1 c = (if c = (10 : Int32) then (1 : Int32) else (if c = (13 : Int32) then (1 : Int32) else (if (c &&& (-2 : Int32)) = (8232 : Int32) then (1 : Int32) else (0 : Int32)))) := by
  unfold sp1
  by_cases h1 : c = (10 : Int32)
  · rw [if_pos h1, if_pos h1]
  · rw [if_neg h1, if_neg h1]
    by_cases h2 : c = (13 : Int32)
    · rw [if_pos h2, if_pos h2]
    · rw [if_neg h2, if_neg h2]
      by_cases h3 : (c &&& (-2 : Int32)) = (8232 : Int32)
      · rw [if_pos h3]
        rcases own_pair c h3 with h | h
        · rw [if_pos h]
        · rw [if_neg (by rw [h]; decide), if_pos h]
      · rw [if_neg h3, if_neg (fun h => h3 (by rw [h]; decide)), if_neg (fun h => h3 (by rw [h]; decide))]
theorem own_law (p1 p2 p3 : Int32) : sp0 p1 p2 p3 = 1 := by
  unfold sp0
  split
  · exact if_pos (own_same _)
  · split
    · exact if_pos (own_same _)
    · split
      · exact if_pos (own_same _)
      · split
        · exact if_pos (own_same _)
        · exact if_pos (own_same _)
def Q1 (Z : State) (p1 : Int32) (h0 : Heap) (n0 : Nat) (v : Option Value) (h : Heap) (L : List Loc) : Prop := v = some (.int (sp1 p1)) ∧ Fr n0 L ∧ h = h0
set_option maxRecDepth 65536 in
set_option maxHeartbeats 40000000 in
theorem rm1 (l : Launch) (Z : State) (a0 : Array Value) (hw : ∀ d ∈ tables_1, d.before a0 Z = true) (ws : List Jvm.Cond) (p1 : Int32) (h0 : Heap) (n0 : Nat) (Z0 : n0 ≤ h0.size) :
    MetFree l (⟨"com/example/sayable/sayable/ScriptLexer", "isLineTerminator", "(I)Z"⟩ : MethodName) (head1 (Jvm.Cond.code (⟨"com/example/sayable/sayable/ScriptLexer", "isLineTerminator", "(I)Z"⟩ : MethodName) prog_165_method_32_code 1 (some .boolean) :: ws) ({ frames := 0, cells := 0, slots := 0, locals := 0 } : Room)) (fun a U => a = #[(.int p1)] ∧ Z.Warmed39 U.vm ∧ U.heap = h0) (fun _ _ _ _ _ => True) (fun _ U o U' => ∃ v L, o = .returned v ∧ Q1 Z p1 h0 n0 v U'.heap L ∧ FrameEnd U o U' L ({ frames := 0, cells := 0, slots := 0, locals := 0 } : Room).cells ({ frames := 0, cells := 0, slots := 0, locals := 0 } : Room).slots) := by
  refine MetFree.of_bodySF (plainFor_of_name pn_1) hisR ?_
  intro p e s m args below meth c s₁ Bd hml0 hP hK
  obtain ⟨rfl, hZ, hh⟩ := hP
  have hx := Bd.exec
  have hby := Bd.bytes
  have hml : c.maxLocals = 1 := hml0
  have hown : s.vm.findClass "com/example/sayable/sayable/ScriptLexer" = some m.cls := findClass_of_methodNamed Bd.named
  have hnm := (name_of_methodNamed Bd.named Bd.method).1
  have X0 : Stand p l e ({ frames := 0, cells := 0, slots := 0, locals := 0 } : Room) s m #[(.int p1)] below meth c s₁ [] 0 0 := Stand.of_body Bd
  have e0 : s₁.heap = h0 := by rw [← hh, Bd.state]; rfl
  have N0 := Fr.nil n0
  have pre0 : ∀ t, Steps p.tables e below (s₁.setTop (mkF m 0 #[.val (.int p1)] [])) t → Steps p.tables e below (s₁.setTop (entryFrame m #[(.int p1)] 1)) t := fun t k => castTop (ef_1 m p1) k
  have pre1 : ∀ t, Steps p.tables e below (s₁.setTop (mkF m 0 #[.val (.int p1)] [])) t → Steps p.tables e below (s₁.setTop (mkF m 0 #[.val (.int p1)] [])) t := fun t k => k
  have k2 : ∀ t, Steps p.tables e below (s₁.setTop (mkF m 3 #[.val (.int p1)] [(.int (10 : Int32)), (.int p1)])) t → Steps p.tables e below (s₁.setTop (mkF m 0 #[.val (.int p1)] [])) t := fun t kt => pre1 t (by
    show Steps p.tables e below (s₁.setTop (mkF m 0 #[.val (.int p1)] [])) _
    refine XS.iloadN X0.here hx rfl (hb hby d1_0) rfl ?_
    show Steps p.tables e below (s₁.setTop (mkF m 1 #[.val (.int p1)] [(.int p1)])) _
    refine XS.bipush X0.here hx rfl (hb hby d1_1) ?_
    exact kt)
  by_cases c3_1 : p1 = (10 : Int32)
  · obtain ⟨fs, hr, hrun, hended, hW, hsame⟩ := X0.leave (v := some (.int (1 : Int32))) (fun h => by rw [Bd.returns] at h; cases h)
    refine ⟨_, _, pre0 _ (k2 _ ?_), hrun, hended, _, _, rfl, ?_, ⟨_, rfl⟩, hW, hsame.mono (by decide) (by decide)⟩
    · show Steps p.tables e below (s₁.setTop (mkF m 3 #[.val (.int p1)] [(.int (10 : Int32)), (.int p1)])) _
      refine XS.icmpYes X0.here hx rfl (pc0 := 3) (pc' := 26) rfl (hb hby d1_3) rfl (teq c3_1).1 (by decide) (by decide) ?_
      show Steps p.tables e below (s₁.setTop (mkF m 26 #[.val (.int p1)] [])) _
      refine XS.iconst X0.here hx rfl (hb hby d1_26) ?_
      show Steps p.tables e below (s₁.setTop (mkF m 27 #[.val (.int p1)] [(.int (1 : Int32))])) _
      refine XS.goto X0.here hx rfl (pc0 := 27) (pc' := 31) rfl (hb hby d1_27) (by decide) (by decide) ?_
      show Steps p.tables e below (s₁.setTop (mkF m 31 #[.val (.int p1)] [(.int (1 : Int32))])) _
      exact retN X0 hx (t := .boolean) Bd.returns (by simp) (hb hby d1_31) hr
    · show Q1 Z p1 h0 n0 _ s₁.heap _
      rw [e0]
      have hv : sp1 p1 = (1 : Int32) := by unfold sp1; rw [if_pos c3_1]
      exact ⟨by rw [hv], N0, rfl⟩
  · have k4 : ∀ t, Steps p.tables e below (s₁.setTop (mkF m 9 #[.val (.int p1)] [(.int (13 : Int32)), (.int p1)])) t → Steps p.tables e below (s₁.setTop (mkF m 0 #[.val (.int p1)] [])) t := fun t kt => k2 t (by
      show Steps p.tables e below (s₁.setTop (mkF m 3 #[.val (.int p1)] [(.int (10 : Int32)), (.int p1)])) _
      refine XS.icmpNo X0.here hx rfl (hb hby d1_3) rfl (feq c3_1).1 ?_
      show Steps p.tables e below (s₁.setTop (mkF m 6 #[.val (.int p1)] [])) _
      refine XS.iloadN X0.here hx rfl (hb hby d1_6) rfl ?_
      show Steps p.tables e below (s₁.setTop (mkF m 7 #[.val (.int p1)] [(.int p1)])) _
      refine XS.bipush X0.here hx rfl (hb hby d1_7) ?_
      exact kt)
    by_cases c9_3 : p1 = (13 : Int32)
    · obtain ⟨fs, hr, hrun, hended, hW, hsame⟩ := X0.leave (v := some (.int (1 : Int32))) (fun h => by rw [Bd.returns] at h; cases h)
      refine ⟨_, _, pre0 _ (k4 _ ?_), hrun, hended, _, _, rfl, ?_, ⟨_, rfl⟩, hW, hsame.mono (by decide) (by decide)⟩
      · show Steps p.tables e below (s₁.setTop (mkF m 9 #[.val (.int p1)] [(.int (13 : Int32)), (.int p1)])) _
        refine XS.icmpYes X0.here hx rfl (pc0 := 9) (pc' := 26) rfl (hb hby d1_9) rfl (teq c9_3).1 (by decide) (by decide) ?_
        show Steps p.tables e below (s₁.setTop (mkF m 26 #[.val (.int p1)] [])) _
        refine XS.iconst X0.here hx rfl (hb hby d1_26) ?_
        show Steps p.tables e below (s₁.setTop (mkF m 27 #[.val (.int p1)] [(.int (1 : Int32))])) _
        refine XS.goto X0.here hx rfl (pc0 := 27) (pc' := 31) rfl (hb hby d1_27) (by decide) (by decide) ?_
        show Steps p.tables e below (s₁.setTop (mkF m 31 #[.val (.int p1)] [(.int (1 : Int32))])) _
        exact retN X0 hx (t := .boolean) Bd.returns (by simp) (hb hby d1_31) hr
      · show Q1 Z p1 h0 n0 _ s₁.heap _
        rw [e0]
        have hv : sp1 p1 = (1 : Int32) := by unfold sp1; rw [if_neg c3_1, if_pos c9_3]
        exact ⟨by rw [hv], N0, rfl⟩
    · have k6 : ∀ t, Steps p.tables e below (s₁.setTop (mkF m 16 #[.val (.int p1)] [(.int (8232 : Int32)), (.int p1)])) t → Steps p.tables e below (s₁.setTop (mkF m 0 #[.val (.int p1)] [])) t := fun t kt => k4 t (by
        show Steps p.tables e below (s₁.setTop (mkF m 9 #[.val (.int p1)] [(.int (13 : Int32)), (.int p1)])) _
        refine XS.icmpNo X0.here hx rfl (hb hby d1_9) rfl (feq c9_3).1 ?_
        show Steps p.tables e below (s₁.setTop (mkF m 12 #[.val (.int p1)] [])) _
        refine XS.iloadN X0.here hx rfl (hb hby d1_12) rfl ?_
        show Steps p.tables e below (s₁.setTop (mkF m 13 #[.val (.int p1)] [(.int p1)])) _
        refine XS.sipush X0.here hx rfl (hb hby d1_13) ?_
        exact kt)
      by_cases c16_5 : p1 = (8232 : Int32)
      · obtain ⟨fs, hr, hrun, hended, hW, hsame⟩ := X0.leave (v := some (.int (1 : Int32))) (fun h => by rw [Bd.returns] at h; cases h)
        refine ⟨_, _, pre0 _ (k6 _ ?_), hrun, hended, _, _, rfl, ?_, ⟨_, rfl⟩, hW, hsame.mono (by decide) (by decide)⟩
        · show Steps p.tables e below (s₁.setTop (mkF m 16 #[.val (.int p1)] [(.int (8232 : Int32)), (.int p1)])) _
          refine XS.icmpYes X0.here hx rfl (pc0 := 16) (pc' := 26) rfl (hb hby d1_16) rfl (teq c16_5).1 (by decide) (by decide) ?_
          show Steps p.tables e below (s₁.setTop (mkF m 26 #[.val (.int p1)] [])) _
          refine XS.iconst X0.here hx rfl (hb hby d1_26) ?_
          show Steps p.tables e below (s₁.setTop (mkF m 27 #[.val (.int p1)] [(.int (1 : Int32))])) _
          refine XS.goto X0.here hx rfl (pc0 := 27) (pc' := 31) rfl (hb hby d1_27) (by decide) (by decide) ?_
          show Steps p.tables e below (s₁.setTop (mkF m 31 #[.val (.int p1)] [(.int (1 : Int32))])) _
          exact retN X0 hx (t := .boolean) Bd.returns (by simp) (hb hby d1_31) hr
        · show Q1 Z p1 h0 n0 _ s₁.heap _
          rw [e0]
          have hv : sp1 p1 = (1 : Int32) := by unfold sp1; rw [if_neg c3_1, if_neg c9_3, if_pos c16_5]
          exact ⟨by rw [hv], N0, rfl⟩
      · have k8 : ∀ t, Steps p.tables e below (s₁.setTop (mkF m 23 #[.val (.int p1)] [(.int (8233 : Int32)), (.int p1)])) t → Steps p.tables e below (s₁.setTop (mkF m 0 #[.val (.int p1)] [])) t := fun t kt => k6 t (by
          show Steps p.tables e below (s₁.setTop (mkF m 16 #[.val (.int p1)] [(.int (8232 : Int32)), (.int p1)])) _
          refine XS.icmpNo X0.here hx rfl (hb hby d1_16) rfl (feq c16_5).1 ?_
          show Steps p.tables e below (s₁.setTop (mkF m 19 #[.val (.int p1)] [])) _
          refine XS.iloadN X0.here hx rfl (hb hby d1_19) rfl ?_
          show Steps p.tables e below (s₁.setTop (mkF m 20 #[.val (.int p1)] [(.int p1)])) _
          refine XS.sipush X0.here hx rfl (hb hby d1_20) ?_
          exact kt)
        by_cases c23_7 : p1 = (8233 : Int32)
        · obtain ⟨fs, hr, hrun, hended, hW, hsame⟩ := X0.leave (v := some (.int (1 : Int32))) (fun h => by rw [Bd.returns] at h; cases h)
          refine ⟨_, _, pre0 _ (k8 _ ?_), hrun, hended, _, _, rfl, ?_, ⟨_, rfl⟩, hW, hsame.mono (by decide) (by decide)⟩
          · show Steps p.tables e below (s₁.setTop (mkF m 23 #[.val (.int p1)] [(.int (8233 : Int32)), (.int p1)])) _
            refine XS.icmpNo X0.here hx rfl (hb hby d1_23) rfl (teq c23_7).2 ?_
            show Steps p.tables e below (s₁.setTop (mkF m 26 #[.val (.int p1)] [])) _
            refine XS.iconst X0.here hx rfl (hb hby d1_26) ?_
            show Steps p.tables e below (s₁.setTop (mkF m 27 #[.val (.int p1)] [(.int (1 : Int32))])) _
            refine XS.goto X0.here hx rfl (pc0 := 27) (pc' := 31) rfl (hb hby d1_27) (by decide) (by decide) ?_
            show Steps p.tables e below (s₁.setTop (mkF m 31 #[.val (.int p1)] [(.int (1 : Int32))])) _
            exact retN X0 hx (t := .boolean) Bd.returns (by simp) (hb hby d1_31) hr
          · show Q1 Z p1 h0 n0 _ s₁.heap _
            rw [e0]
            have hv : sp1 p1 = (1 : Int32) := by unfold sp1; rw [if_neg c3_1, if_neg c9_3, if_neg c16_5, if_pos c23_7]
            exact ⟨by rw [hv], N0, rfl⟩
        · obtain ⟨fs, hr, hrun, hended, hW, hsame⟩ := X0.leave (v := some (.int (0 : Int32))) (fun h => by rw [Bd.returns] at h; cases h)
          refine ⟨_, _, pre0 _ (k8 _ ?_), hrun, hended, _, _, rfl, ?_, ⟨_, rfl⟩, hW, hsame.mono (by decide) (by decide)⟩
          · show Steps p.tables e below (s₁.setTop (mkF m 23 #[.val (.int p1)] [(.int (8233 : Int32)), (.int p1)])) _
            refine XS.icmpYes X0.here hx rfl (pc0 := 23) (pc' := 30) rfl (hb hby d1_23) rfl (feq c23_7).2 (by decide) (by decide) ?_
            show Steps p.tables e below (s₁.setTop (mkF m 30 #[.val (.int p1)] [])) _
            refine XS.iconst X0.here hx rfl (hb hby d1_30) ?_
            show Steps p.tables e below (s₁.setTop (mkF m 31 #[.val (.int p1)] [(.int (0 : Int32))])) _
            exact retN X0 hx (t := .boolean) Bd.returns (by simp) (hb hby d1_31) hr
          · show Q1 Z p1 h0 n0 _ s₁.heap _
            rw [e0]
            have hv : sp1 p1 = (0 : Int32) := by unfold sp1; rw [if_neg c3_1, if_neg c9_3, if_neg c16_5, if_neg c23_7]
            exact ⟨by rw [hv], N0, rfl⟩
def Q0 (Z : State) (p1 : Int32) (p2 : Int32) (p3 : Int32) (h0 : Heap) (n0 : Nat) (v : Option Value) (h : Heap) (L : List Loc) : Prop := v = some (.int 1) ∧ Fr n0 L
set_option maxRecDepth 65536 in
set_option maxHeartbeats 40000000 in
theorem rm0 (l : Launch) (Z : State) (a0 : Array Value) (hw : ∀ d ∈ tables_1, d.before a0 Z = true) (ws : List Jvm.Cond) (p1 : Int32) (p2 : Int32) (p3 : Int32) (h0 : Heap) (n0 : Nat) (Z0 : n0 ≤ h0.size) :
    MetFree l x (head1 (Jvm.Cond.code x code maxLocals ret :: ws) room_1) (fun a U => a = #[(.int p1), (.int p2), (.int p3)] ∧ Z.Warmed39 U.vm ∧ U.heap = h0) (fun _ _ _ _ _ => True) (fun _ U o U' => ∃ v L, o = .returned v ∧ Q0 Z p1 p2 p3 h0 n0 v U'.heap L ∧ FrameEnd U o U' L room_1.cells room_1.slots) := by
  refine MetFree.of_bodySF (plainFor_of_name pn_0) hisR ?_
  intro p e s m args below meth c s₁ Bd hml0 hP hK
  obtain ⟨rfl, hZ, hh⟩ := hP
  have hx := Bd.exec
  have hby := Bd.bytes
  have hml : c.maxLocals = 9 := hml0
  have hown : s.vm.findClass "com/example/sayable/sayable/ScriptLexerIsLineTerminatorPinLaw" = some m.cls := findClass_of_methodNamed Bd.named
  have hnm := (name_of_methodNamed Bd.named Bd.method).1
  have X0 : Stand p l e room_1 s m #[(.int p1), (.int p2), (.int p3)] below meth c s₁ [] 0 0 := Stand.of_body Bd
  have e0 : s₁.heap = h0 := by rw [← hh, Bd.state]; rfl
  have N0 := Fr.nil n0
  have pre0 : ∀ t, Steps p.tables e below (s₁.setTop (mkF m 0 #[.val (.int p1), .val (.int p2), .val (.int p3), .unset, .unset, .unset, .unset, .unset, .unset] [])) t → Steps p.tables e below (s₁.setTop (entryFrame m #[(.int p1), (.int p2), (.int p3)] maxLocals)) t := fun t k => castTop (ef_0 m p1 p2 p3) k
  have pre1 : ∀ t, Steps p.tables e below (s₁.setTop (mkF m 0 #[.val (.int p1), .val (.int p2), .val (.int p3), .unset, .unset, .unset, .unset, .unset, .unset] [])) t → Steps p.tables e below (s₁.setTop (mkF m 0 #[.val (.int p1), .val (.int p2), .val (.int p3), .unset, .unset, .unset, .unset, .unset, .unset] [])) t := fun t k => k
  have k1 : ∀ t, Steps p.tables e below (s₁.setTop (mkF m 1 #[.val (.int p1), .val (.int p2), .val (.int p3), .unset, .unset, .unset, .unset, .unset, .unset] [(.int (4 : Int32))])) t → Steps p.tables e below (s₁.setTop (mkF m 0 #[.val (.int p1), .val (.int p2), .val (.int p3), .unset, .unset, .unset, .unset, .unset, .unset] [])) t := fun t kt => pre1 t (by
    show Steps p.tables e below (s₁.setTop (mkF m 0 #[.val (.int p1), .val (.int p2), .val (.int p3), .unset, .unset, .unset, .unset, .unset, .unset] [])) _
    refine XS.iconst X0.here hx rfl (hb hby at_0) ?_
    exact kt)
  obtain ⟨T2, h2, k2, X2, e2, E2, A2, st2⟩ := newP X0 hx hZ (hw _ (List.mem_of_getElem? (i := 0) rfl)) e0 (g := (mkF m 1 #[.val (.int p1), .val (.int p2), .val (.int p3), .unset, .unset, .unset, .unset, .unset, .unset] [(.int (4 : Int32))])) rfl (hb hby at_1) rfl (by decide) (cap := 4) (by decide) (by decide) (by decide) (by decide)
  obtain ⟨b2, g2⟩ : ∃ z, z = h0.size := ⟨_, rfl⟩
  rw [← g2] at A2 st2
  have g_b2 : n0 ≤ b2 := Nat.le_trans Z0 (Nat.le_of_eq g2.symm)
  have Z2 : n0 ≤ h2.size := Nat.le_trans Z0 E2.1
  have V2 : Arv Z h2 b2 k2 .int (4 : Int32) [(.int (0 : Int32)), (.int (0 : Int32)), (.int (0 : Int32)), (.int (0 : Int32))] (.int (0 : Int32)) := (Arv.new A2 (by decide)).pad (pad_rep [] (.int (0 : Int32)) 4)
  have k3 : ∀ t, Steps p.tables e below (T2.setTop (mkF m 7 #[.val (.int p1), .val (.int p2), .val (.int p3), .unset, .unset, .unset, .unset, .unset, .unset] [(.int (10 : Int32)), (.int (0 : Int32)), (.ref b2), (.ref b2)])) t → Steps p.tables e below (s₁.setTop (mkF m 0 #[.val (.int p1), .val (.int p2), .val (.int p3), .unset, .unset, .unset, .unset, .unset, .unset] [])) t := fun t kt => k1 t (by
    show Steps p.tables e below (s₁.setTop (mkF m 1 #[.val (.int p1), .val (.int p2), .val (.int p3), .unset, .unset, .unset, .unset, .unset, .unset] [(.int (4 : Int32))])) _
    refine st2 _ ?_
    show Steps p.tables e below (T2.setTop (mkF m 3 #[.val (.int p1), .val (.int p2), .val (.int p3), .unset, .unset, .unset, .unset, .unset, .unset] [(.ref b2)])) _
    refine XS.dup X2.here hx rfl (hb hby at_3) rfl rfl ?_
    show Steps p.tables e below (T2.setTop (mkF m 4 #[.val (.int p1), .val (.int p2), .val (.int p3), .unset, .unset, .unset, .unset, .unset, .unset] [(.ref b2), (.ref b2)])) _
    refine XS.iconst X2.here hx rfl (hb hby at_4) ?_
    show Steps p.tables e below (T2.setTop (mkF m 5 #[.val (.int p1), .val (.int p2), .val (.int p3), .unset, .unset, .unset, .unset, .unset, .unset] [(.int (0 : Int32)), (.ref b2), (.ref b2)])) _
    refine XS.bipush X2.here hx rfl (hb hby at_5) ?_
    exact kt)
  obtain ⟨cl4, Ar4, q4, S4, N4', H4, G4⟩ := V2
  have hin4 : ¬ ((0 : Int32) < 0 ∨ cl4.slots.size ≤ ((0 : Int32)).toNatClampNeg) := inb_of S4 ⟨by decide, by decide⟩
  obtain ⟨T4, h4, X4, e4, W4, st4⟩ := stI X2 hx hZ e2 Ar4 (j := (0 : Int32)) hin4 (g := (mkF m 7 #[.val (.int p1), .val (.int p2), .val (.int p3), .unset, .unset, .unset, .unset, .unset, .unset] [(.int (10 : Int32)), (.int (0 : Int32)), (.ref b2), (.ref b2)])) rfl rfl (hb hby at_7)
  have V4 : Arv Z h4 b2 k2 .int (4 : Int32) [(.int (10 : Int32)), (.int (0 : Int32)), (.int (0 : Int32)), (.int (0 : Int32))] (.int (0 : Int32)) := Arv.set Ar4 q4 S4 N4' H4 G4 rfl W4 0 rfl (Nat.le_of_ble_eq_true rfl)
  have N4 := Fr.snoc X4 N0 g_b2
  have Z4 : n0 ≤ h4.size := Nat.le_trans Z2 (Keep.of_wr W4).1
  have k5 : ∀ t, Steps p.tables e below (T4.setTop (mkF m 12 #[.val (.int p1), .val (.int p2), .val (.int p3), .unset, .unset, .unset, .unset, .unset, .unset] [(.int (13 : Int32)), (.int (1 : Int32)), (.ref b2), (.ref b2)])) t → Steps p.tables e below (s₁.setTop (mkF m 0 #[.val (.int p1), .val (.int p2), .val (.int p3), .unset, .unset, .unset, .unset, .unset, .unset] [])) t := fun t kt => k3 t (by
    show Steps p.tables e below (T2.setTop (mkF m 7 #[.val (.int p1), .val (.int p2), .val (.int p3), .unset, .unset, .unset, .unset, .unset, .unset] [(.int (10 : Int32)), (.int (0 : Int32)), (.ref b2), (.ref b2)])) _
    refine st4 _ ?_
    show Steps p.tables e below (T4.setTop (mkF m 8 #[.val (.int p1), .val (.int p2), .val (.int p3), .unset, .unset, .unset, .unset, .unset, .unset] [(.ref b2)])) _
    refine XS.dup X4.here hx rfl (hb hby at_8) rfl rfl ?_
    show Steps p.tables e below (T4.setTop (mkF m 9 #[.val (.int p1), .val (.int p2), .val (.int p3), .unset, .unset, .unset, .unset, .unset, .unset] [(.ref b2), (.ref b2)])) _
    refine XS.iconst X4.here hx rfl (hb hby at_9) ?_
    show Steps p.tables e below (T4.setTop (mkF m 10 #[.val (.int p1), .val (.int p2), .val (.int p3), .unset, .unset, .unset, .unset, .unset, .unset] [(.int (1 : Int32)), (.ref b2), (.ref b2)])) _
    refine XS.bipush X4.here hx rfl (hb hby at_10) ?_
    exact kt)
  obtain ⟨cl6, Ar6, q6, S6, N6', H6, G6⟩ := V4
  have hin6 : ¬ ((1 : Int32) < 0 ∨ cl6.slots.size ≤ ((1 : Int32)).toNatClampNeg) := inb_of S6 ⟨by decide, by decide⟩
  obtain ⟨T6, h6, X6, e6, W6, st6⟩ := stI X4 hx hZ e4 Ar6 (j := (1 : Int32)) hin6 (g := (mkF m 12 #[.val (.int p1), .val (.int p2), .val (.int p3), .unset, .unset, .unset, .unset, .unset, .unset] [(.int (13 : Int32)), (.int (1 : Int32)), (.ref b2), (.ref b2)])) rfl rfl (hb hby at_12)
  have V6 : Arv Z h6 b2 k2 .int (4 : Int32) [(.int (10 : Int32)), (.int (13 : Int32)), (.int (0 : Int32)), (.int (0 : Int32))] (.int (0 : Int32)) := Arv.set Ar6 q6 S6 N6' H6 G6 rfl W6 1 rfl (Nat.le_of_ble_eq_true rfl)
  have N6 := Fr.snoc X6 N4 g_b2
  have Z6 : n0 ≤ h6.size := Nat.le_trans Z4 (Keep.of_wr W6).1
  have k7 : ∀ t, Steps p.tables e below (T6.setTop (mkF m 18 #[.val (.int p1), .val (.int p2), .val (.int p3), .unset, .unset, .unset, .unset, .unset, .unset] [(.int (8232 : Int32)), (.int (2 : Int32)), (.ref b2), (.ref b2)])) t → Steps p.tables e below (s₁.setTop (mkF m 0 #[.val (.int p1), .val (.int p2), .val (.int p3), .unset, .unset, .unset, .unset, .unset, .unset] [])) t := fun t kt => k5 t (by
    show Steps p.tables e below (T4.setTop (mkF m 12 #[.val (.int p1), .val (.int p2), .val (.int p3), .unset, .unset, .unset, .unset, .unset, .unset] [(.int (13 : Int32)), (.int (1 : Int32)), (.ref b2), (.ref b2)])) _
    refine st6 _ ?_
    show Steps p.tables e below (T6.setTop (mkF m 13 #[.val (.int p1), .val (.int p2), .val (.int p3), .unset, .unset, .unset, .unset, .unset, .unset] [(.ref b2)])) _
    refine XS.dup X6.here hx rfl (hb hby at_13) rfl rfl ?_
    show Steps p.tables e below (T6.setTop (mkF m 14 #[.val (.int p1), .val (.int p2), .val (.int p3), .unset, .unset, .unset, .unset, .unset, .unset] [(.ref b2), (.ref b2)])) _
    refine XS.iconst X6.here hx rfl (hb hby at_14) ?_
    show Steps p.tables e below (T6.setTop (mkF m 15 #[.val (.int p1), .val (.int p2), .val (.int p3), .unset, .unset, .unset, .unset, .unset, .unset] [(.int (2 : Int32)), (.ref b2), (.ref b2)])) _
    refine XS.sipush X6.here hx rfl (hb hby at_15) ?_
    exact kt)
  obtain ⟨cl8, Ar8, q8, S8, N8', H8, G8⟩ := V6
  have hin8 : ¬ ((2 : Int32) < 0 ∨ cl8.slots.size ≤ ((2 : Int32)).toNatClampNeg) := inb_of S8 ⟨by decide, by decide⟩
  obtain ⟨T8, h8, X8, e8, W8, st8⟩ := stI X6 hx hZ e6 Ar8 (j := (2 : Int32)) hin8 (g := (mkF m 18 #[.val (.int p1), .val (.int p2), .val (.int p3), .unset, .unset, .unset, .unset, .unset, .unset] [(.int (8232 : Int32)), (.int (2 : Int32)), (.ref b2), (.ref b2)])) rfl rfl (hb hby at_18)
  have V8 : Arv Z h8 b2 k2 .int (4 : Int32) [(.int (10 : Int32)), (.int (13 : Int32)), (.int (8232 : Int32)), (.int (0 : Int32))] (.int (0 : Int32)) := Arv.set Ar8 q8 S8 N8' H8 G8 rfl W8 2 rfl (Nat.le_of_ble_eq_true rfl)
  have N8 := Fr.snoc X8 N6 g_b2
  have Z8 : n0 ≤ h8.size := Nat.le_trans Z6 (Keep.of_wr W8).1
  have k9 : ∀ t, Steps p.tables e below (T8.setTop (mkF m 24 #[.val (.int p1), .val (.int p2), .val (.int p3), .unset, .unset, .unset, .unset, .unset, .unset] [(.int (8233 : Int32)), (.int (3 : Int32)), (.ref b2), (.ref b2)])) t → Steps p.tables e below (s₁.setTop (mkF m 0 #[.val (.int p1), .val (.int p2), .val (.int p3), .unset, .unset, .unset, .unset, .unset, .unset] [])) t := fun t kt => k7 t (by
    show Steps p.tables e below (T6.setTop (mkF m 18 #[.val (.int p1), .val (.int p2), .val (.int p3), .unset, .unset, .unset, .unset, .unset, .unset] [(.int (8232 : Int32)), (.int (2 : Int32)), (.ref b2), (.ref b2)])) _
    refine st8 _ ?_
    show Steps p.tables e below (T8.setTop (mkF m 19 #[.val (.int p1), .val (.int p2), .val (.int p3), .unset, .unset, .unset, .unset, .unset, .unset] [(.ref b2)])) _
    refine XS.dup X8.here hx rfl (hb hby at_19) rfl rfl ?_
    show Steps p.tables e below (T8.setTop (mkF m 20 #[.val (.int p1), .val (.int p2), .val (.int p3), .unset, .unset, .unset, .unset, .unset, .unset] [(.ref b2), (.ref b2)])) _
    refine XS.iconst X8.here hx rfl (hb hby at_20) ?_
    show Steps p.tables e below (T8.setTop (mkF m 21 #[.val (.int p1), .val (.int p2), .val (.int p3), .unset, .unset, .unset, .unset, .unset, .unset] [(.int (3 : Int32)), (.ref b2), (.ref b2)])) _
    refine XS.sipush X8.here hx rfl (hb hby at_21) ?_
    exact kt)
  obtain ⟨cl10, Ar10, q10, S10, N10', H10, G10⟩ := V8
  have hin10 : ¬ ((3 : Int32) < 0 ∨ cl10.slots.size ≤ ((3 : Int32)).toNatClampNeg) := inb_of S10 ⟨by decide, by decide⟩
  obtain ⟨T10, h10, X10, e10, W10, st10⟩ := stI X8 hx hZ e8 Ar10 (j := (3 : Int32)) hin10 (g := (mkF m 24 #[.val (.int p1), .val (.int p2), .val (.int p3), .unset, .unset, .unset, .unset, .unset, .unset] [(.int (8233 : Int32)), (.int (3 : Int32)), (.ref b2), (.ref b2)])) rfl rfl (hb hby at_24)
  have V10 : Arv Z h10 b2 k2 .int (4 : Int32) [(.int (10 : Int32)), (.int (13 : Int32)), (.int (8232 : Int32)), (.int (8233 : Int32))] (.int (0 : Int32)) := Arv.set Ar10 q10 S10 N10' H10 G10 rfl W10 3 rfl (Nat.le_of_ble_eq_true rfl)
  have N10 := Fr.snoc X10 N8 g_b2
  have Z10 : n0 ≤ h10.size := Nat.le_trans Z8 (Keep.of_wr W10).1
  have k11 : ∀ t, Steps p.tables e below (T10.setTop (mkF m 28 #[.val (.int p1), .val (.int p2), .val (.int p3), .val (.ref b2), .unset, .unset, .unset, .unset, .unset] [(.int (8 : Int32))])) t → Steps p.tables e below (s₁.setTop (mkF m 0 #[.val (.int p1), .val (.int p2), .val (.int p3), .unset, .unset, .unset, .unset, .unset, .unset] [])) t := fun t kt => k9 t (by
    show Steps p.tables e below (T8.setTop (mkF m 24 #[.val (.int p1), .val (.int p2), .val (.int p3), .unset, .unset, .unset, .unset, .unset, .unset] [(.int (8233 : Int32)), (.int (3 : Int32)), (.ref b2), (.ref b2)])) _
    refine st10 _ ?_
    show Steps p.tables e below (T10.setTop (mkF m 25 #[.val (.int p1), .val (.int p2), .val (.int p3), .unset, .unset, .unset, .unset, .unset, .unset] [(.ref b2)])) _
    refine XS.astoreN X10.here hx rfl (hb hby at_25) rfl rfl (l' := #[.val (.int p1), .val (.int p2), .val (.int p3), .val (.ref b2), .unset, .unset, .unset, .unset, .unset]) rfl ?_
    show Steps p.tables e below (T10.setTop (mkF m 26 #[.val (.int p1), .val (.int p2), .val (.int p3), .val (.ref b2), .unset, .unset, .unset, .unset, .unset] [])) _
    refine XS.bipush X10.here hx rfl (hb hby at_26) ?_
    exact kt)
  obtain ⟨T12, h12, k12, X12, e12, E12, A12, st12⟩ := newP X10 hx hZ (hw _ (List.mem_of_getElem? (i := 0) rfl)) e10 (g := (mkF m 28 #[.val (.int p1), .val (.int p2), .val (.int p3), .val (.ref b2), .unset, .unset, .unset, .unset, .unset] [(.int (8 : Int32))])) rfl (hb hby at_28) rfl (by decide) (cap := 8) (by decide) (by decide) (by decide) (by decide)
  obtain ⟨b12, g12⟩ : ∃ z, z = h10.size := ⟨_, rfl⟩
  rw [← g12] at A12 st12
  have ne_b2_b12 : b2 ≠ b12 := Nat.ne_of_lt (Nat.lt_of_lt_of_le V10.lt (Nat.le_of_eq g12.symm))
  have g_b12 : n0 ≤ b12 := Nat.le_trans Z10 (Nat.le_of_eq g12.symm)
  have Z12 : n0 ≤ h12.size := Nat.le_trans Z10 E12.1
  have f13 := V10.ext E12
  have V12 : Arv Z h12 b12 k12 .int (8 : Int32) [(.int (0 : Int32)), (.int (0 : Int32)), (.int (0 : Int32)), (.int (0 : Int32)), (.int (0 : Int32)), (.int (0 : Int32)), (.int (0 : Int32)), (.int (0 : Int32))] (.int (0 : Int32)) := (Arv.new A12 (by decide)).pad (pad_rep [] (.int (0 : Int32)) 8)
  have k14 : ∀ t, Steps p.tables e below (T12.setTop (mkF m 34 #[.val (.int p1), .val (.int p2), .val (.int p3), .val (.ref b2), .unset, .unset, .unset, .unset, .unset] [(.int (11 : Int32)), (.int (0 : Int32)), (.ref b12), (.ref b12)])) t → Steps p.tables e below (s₁.setTop (mkF m 0 #[.val (.int p1), .val (.int p2), .val (.int p3), .unset, .unset, .unset, .unset, .unset, .unset] [])) t := fun t kt => k11 t (by
    show Steps p.tables e below (T10.setTop (mkF m 28 #[.val (.int p1), .val (.int p2), .val (.int p3), .val (.ref b2), .unset, .unset, .unset, .unset, .unset] [(.int (8 : Int32))])) _
    refine st12 _ ?_
    show Steps p.tables e below (T12.setTop (mkF m 30 #[.val (.int p1), .val (.int p2), .val (.int p3), .val (.ref b2), .unset, .unset, .unset, .unset, .unset] [(.ref b12)])) _
    refine XS.dup X12.here hx rfl (hb hby at_30) rfl rfl ?_
    show Steps p.tables e below (T12.setTop (mkF m 31 #[.val (.int p1), .val (.int p2), .val (.int p3), .val (.ref b2), .unset, .unset, .unset, .unset, .unset] [(.ref b12), (.ref b12)])) _
    refine XS.iconst X12.here hx rfl (hb hby at_31) ?_
    show Steps p.tables e below (T12.setTop (mkF m 32 #[.val (.int p1), .val (.int p2), .val (.int p3), .val (.ref b2), .unset, .unset, .unset, .unset, .unset] [(.int (0 : Int32)), (.ref b12), (.ref b12)])) _
    refine XS.bipush X12.here hx rfl (hb hby at_32) ?_
    exact kt)
  obtain ⟨cl15, Ar15, q15, S15, N15', H15, G15⟩ := V12
  have hin15 : ¬ ((0 : Int32) < 0 ∨ cl15.slots.size ≤ ((0 : Int32)).toNatClampNeg) := inb_of S15 ⟨by decide, by decide⟩
  obtain ⟨T15, h15, X15, e15, W15, st15⟩ := stI X12 hx hZ e12 Ar15 (j := (0 : Int32)) hin15 (g := (mkF m 34 #[.val (.int p1), .val (.int p2), .val (.int p3), .val (.ref b2), .unset, .unset, .unset, .unset, .unset] [(.int (11 : Int32)), (.int (0 : Int32)), (.ref b12), (.ref b12)])) rfl rfl (hb hby at_34)
  have V15 : Arv Z h15 b12 k12 .int (8 : Int32) [(.int (11 : Int32)), (.int (0 : Int32)), (.int (0 : Int32)), (.int (0 : Int32)), (.int (0 : Int32)), (.int (0 : Int32)), (.int (0 : Int32)), (.int (0 : Int32))] (.int (0 : Int32)) := Arv.set Ar15 q15 S15 N15' H15 G15 rfl W15 0 rfl (Nat.le_of_ble_eq_true rfl)
  have f16 := f13.other W15 ne_b2_b12
  have N15 := Fr.snoc X15 N10 g_b12
  have Z15 : n0 ≤ h15.size := Nat.le_trans Z12 (Keep.of_wr W15).1
  have k17 : ∀ t, Steps p.tables e below (T15.setTop (mkF m 39 #[.val (.int p1), .val (.int p2), .val (.int p3), .val (.ref b2), .unset, .unset, .unset, .unset, .unset] [(.int (12 : Int32)), (.int (1 : Int32)), (.ref b12), (.ref b12)])) t → Steps p.tables e below (s₁.setTop (mkF m 0 #[.val (.int p1), .val (.int p2), .val (.int p3), .unset, .unset, .unset, .unset, .unset, .unset] [])) t := fun t kt => k14 t (by
    show Steps p.tables e below (T12.setTop (mkF m 34 #[.val (.int p1), .val (.int p2), .val (.int p3), .val (.ref b2), .unset, .unset, .unset, .unset, .unset] [(.int (11 : Int32)), (.int (0 : Int32)), (.ref b12), (.ref b12)])) _
    refine st15 _ ?_
    show Steps p.tables e below (T15.setTop (mkF m 35 #[.val (.int p1), .val (.int p2), .val (.int p3), .val (.ref b2), .unset, .unset, .unset, .unset, .unset] [(.ref b12)])) _
    refine XS.dup X15.here hx rfl (hb hby at_35) rfl rfl ?_
    show Steps p.tables e below (T15.setTop (mkF m 36 #[.val (.int p1), .val (.int p2), .val (.int p3), .val (.ref b2), .unset, .unset, .unset, .unset, .unset] [(.ref b12), (.ref b12)])) _
    refine XS.iconst X15.here hx rfl (hb hby at_36) ?_
    show Steps p.tables e below (T15.setTop (mkF m 37 #[.val (.int p1), .val (.int p2), .val (.int p3), .val (.ref b2), .unset, .unset, .unset, .unset, .unset] [(.int (1 : Int32)), (.ref b12), (.ref b12)])) _
    refine XS.bipush X15.here hx rfl (hb hby at_37) ?_
    exact kt)
  obtain ⟨cl18, Ar18, q18, S18, N18', H18, G18⟩ := V15
  have hin18 : ¬ ((1 : Int32) < 0 ∨ cl18.slots.size ≤ ((1 : Int32)).toNatClampNeg) := inb_of S18 ⟨by decide, by decide⟩
  obtain ⟨T18, h18, X18, e18, W18, st18⟩ := stI X15 hx hZ e15 Ar18 (j := (1 : Int32)) hin18 (g := (mkF m 39 #[.val (.int p1), .val (.int p2), .val (.int p3), .val (.ref b2), .unset, .unset, .unset, .unset, .unset] [(.int (12 : Int32)), (.int (1 : Int32)), (.ref b12), (.ref b12)])) rfl rfl (hb hby at_39)
  have V18 : Arv Z h18 b12 k12 .int (8 : Int32) [(.int (11 : Int32)), (.int (12 : Int32)), (.int (0 : Int32)), (.int (0 : Int32)), (.int (0 : Int32)), (.int (0 : Int32)), (.int (0 : Int32)), (.int (0 : Int32))] (.int (0 : Int32)) := Arv.set Ar18 q18 S18 N18' H18 G18 rfl W18 1 rfl (Nat.le_of_ble_eq_true rfl)
  have f19 := f16.other W18 ne_b2_b12
  have N18 := Fr.snoc X18 N15 g_b12
  have Z18 : n0 ≤ h18.size := Nat.le_trans Z15 (Keep.of_wr W18).1
  have k20 : ∀ t, Steps p.tables e below (T18.setTop (mkF m 44 #[.val (.int p1), .val (.int p2), .val (.int p3), .val (.ref b2), .unset, .unset, .unset, .unset, .unset] [(.int (28 : Int32)), (.int (2 : Int32)), (.ref b12), (.ref b12)])) t → Steps p.tables e below (s₁.setTop (mkF m 0 #[.val (.int p1), .val (.int p2), .val (.int p3), .unset, .unset, .unset, .unset, .unset, .unset] [])) t := fun t kt => k17 t (by
    show Steps p.tables e below (T15.setTop (mkF m 39 #[.val (.int p1), .val (.int p2), .val (.int p3), .val (.ref b2), .unset, .unset, .unset, .unset, .unset] [(.int (12 : Int32)), (.int (1 : Int32)), (.ref b12), (.ref b12)])) _
    refine st18 _ ?_
    show Steps p.tables e below (T18.setTop (mkF m 40 #[.val (.int p1), .val (.int p2), .val (.int p3), .val (.ref b2), .unset, .unset, .unset, .unset, .unset] [(.ref b12)])) _
    refine XS.dup X18.here hx rfl (hb hby at_40) rfl rfl ?_
    show Steps p.tables e below (T18.setTop (mkF m 41 #[.val (.int p1), .val (.int p2), .val (.int p3), .val (.ref b2), .unset, .unset, .unset, .unset, .unset] [(.ref b12), (.ref b12)])) _
    refine XS.iconst X18.here hx rfl (hb hby at_41) ?_
    show Steps p.tables e below (T18.setTop (mkF m 42 #[.val (.int p1), .val (.int p2), .val (.int p3), .val (.ref b2), .unset, .unset, .unset, .unset, .unset] [(.int (2 : Int32)), (.ref b12), (.ref b12)])) _
    refine XS.bipush X18.here hx rfl (hb hby at_42) ?_
    exact kt)
  obtain ⟨cl21, Ar21, q21, S21, N21', H21, G21⟩ := V18
  have hin21 : ¬ ((2 : Int32) < 0 ∨ cl21.slots.size ≤ ((2 : Int32)).toNatClampNeg) := inb_of S21 ⟨by decide, by decide⟩
  obtain ⟨T21, h21, X21, e21, W21, st21⟩ := stI X18 hx hZ e18 Ar21 (j := (2 : Int32)) hin21 (g := (mkF m 44 #[.val (.int p1), .val (.int p2), .val (.int p3), .val (.ref b2), .unset, .unset, .unset, .unset, .unset] [(.int (28 : Int32)), (.int (2 : Int32)), (.ref b12), (.ref b12)])) rfl rfl (hb hby at_44)
  have V21 : Arv Z h21 b12 k12 .int (8 : Int32) [(.int (11 : Int32)), (.int (12 : Int32)), (.int (28 : Int32)), (.int (0 : Int32)), (.int (0 : Int32)), (.int (0 : Int32)), (.int (0 : Int32)), (.int (0 : Int32))] (.int (0 : Int32)) := Arv.set Ar21 q21 S21 N21' H21 G21 rfl W21 2 rfl (Nat.le_of_ble_eq_true rfl)
  have f22 := f19.other W21 ne_b2_b12
  have N21 := Fr.snoc X21 N18 g_b12
  have Z21 : n0 ≤ h21.size := Nat.le_trans Z18 (Keep.of_wr W21).1
  have k23 : ∀ t, Steps p.tables e below (T21.setTop (mkF m 49 #[.val (.int p1), .val (.int p2), .val (.int p3), .val (.ref b2), .unset, .unset, .unset, .unset, .unset] [(.int (29 : Int32)), (.int (3 : Int32)), (.ref b12), (.ref b12)])) t → Steps p.tables e below (s₁.setTop (mkF m 0 #[.val (.int p1), .val (.int p2), .val (.int p3), .unset, .unset, .unset, .unset, .unset, .unset] [])) t := fun t kt => k20 t (by
    show Steps p.tables e below (T18.setTop (mkF m 44 #[.val (.int p1), .val (.int p2), .val (.int p3), .val (.ref b2), .unset, .unset, .unset, .unset, .unset] [(.int (28 : Int32)), (.int (2 : Int32)), (.ref b12), (.ref b12)])) _
    refine st21 _ ?_
    show Steps p.tables e below (T21.setTop (mkF m 45 #[.val (.int p1), .val (.int p2), .val (.int p3), .val (.ref b2), .unset, .unset, .unset, .unset, .unset] [(.ref b12)])) _
    refine XS.dup X21.here hx rfl (hb hby at_45) rfl rfl ?_
    show Steps p.tables e below (T21.setTop (mkF m 46 #[.val (.int p1), .val (.int p2), .val (.int p3), .val (.ref b2), .unset, .unset, .unset, .unset, .unset] [(.ref b12), (.ref b12)])) _
    refine XS.iconst X21.here hx rfl (hb hby at_46) ?_
    show Steps p.tables e below (T21.setTop (mkF m 47 #[.val (.int p1), .val (.int p2), .val (.int p3), .val (.ref b2), .unset, .unset, .unset, .unset, .unset] [(.int (3 : Int32)), (.ref b12), (.ref b12)])) _
    refine XS.bipush X21.here hx rfl (hb hby at_47) ?_
    exact kt)
  obtain ⟨cl24, Ar24, q24, S24, N24', H24, G24⟩ := V21
  have hin24 : ¬ ((3 : Int32) < 0 ∨ cl24.slots.size ≤ ((3 : Int32)).toNatClampNeg) := inb_of S24 ⟨by decide, by decide⟩
  obtain ⟨T24, h24, X24, e24, W24, st24⟩ := stI X21 hx hZ e21 Ar24 (j := (3 : Int32)) hin24 (g := (mkF m 49 #[.val (.int p1), .val (.int p2), .val (.int p3), .val (.ref b2), .unset, .unset, .unset, .unset, .unset] [(.int (29 : Int32)), (.int (3 : Int32)), (.ref b12), (.ref b12)])) rfl rfl (hb hby at_49)
  have V24 : Arv Z h24 b12 k12 .int (8 : Int32) [(.int (11 : Int32)), (.int (12 : Int32)), (.int (28 : Int32)), (.int (29 : Int32)), (.int (0 : Int32)), (.int (0 : Int32)), (.int (0 : Int32)), (.int (0 : Int32))] (.int (0 : Int32)) := Arv.set Ar24 q24 S24 N24' H24 G24 rfl W24 3 rfl (Nat.le_of_ble_eq_true rfl)
  have f25 := f22.other W24 ne_b2_b12
  have N24 := Fr.snoc X24 N21 g_b12
  have Z24 : n0 ≤ h24.size := Nat.le_trans Z21 (Keep.of_wr W24).1
  have k26 : ∀ t, Steps p.tables e below (T24.setTop (mkF m 54 #[.val (.int p1), .val (.int p2), .val (.int p3), .val (.ref b2), .unset, .unset, .unset, .unset, .unset] [(.int (30 : Int32)), (.int (4 : Int32)), (.ref b12), (.ref b12)])) t → Steps p.tables e below (s₁.setTop (mkF m 0 #[.val (.int p1), .val (.int p2), .val (.int p3), .unset, .unset, .unset, .unset, .unset, .unset] [])) t := fun t kt => k23 t (by
    show Steps p.tables e below (T21.setTop (mkF m 49 #[.val (.int p1), .val (.int p2), .val (.int p3), .val (.ref b2), .unset, .unset, .unset, .unset, .unset] [(.int (29 : Int32)), (.int (3 : Int32)), (.ref b12), (.ref b12)])) _
    refine st24 _ ?_
    show Steps p.tables e below (T24.setTop (mkF m 50 #[.val (.int p1), .val (.int p2), .val (.int p3), .val (.ref b2), .unset, .unset, .unset, .unset, .unset] [(.ref b12)])) _
    refine XS.dup X24.here hx rfl (hb hby at_50) rfl rfl ?_
    show Steps p.tables e below (T24.setTop (mkF m 51 #[.val (.int p1), .val (.int p2), .val (.int p3), .val (.ref b2), .unset, .unset, .unset, .unset, .unset] [(.ref b12), (.ref b12)])) _
    refine XS.iconst X24.here hx rfl (hb hby at_51) ?_
    show Steps p.tables e below (T24.setTop (mkF m 52 #[.val (.int p1), .val (.int p2), .val (.int p3), .val (.ref b2), .unset, .unset, .unset, .unset, .unset] [(.int (4 : Int32)), (.ref b12), (.ref b12)])) _
    refine XS.bipush X24.here hx rfl (hb hby at_52) ?_
    exact kt)
  obtain ⟨cl27, Ar27, q27, S27, N27', H27, G27⟩ := V24
  have hin27 : ¬ ((4 : Int32) < 0 ∨ cl27.slots.size ≤ ((4 : Int32)).toNatClampNeg) := inb_of S27 ⟨by decide, by decide⟩
  obtain ⟨T27, h27, X27, e27, W27, st27⟩ := stI X24 hx hZ e24 Ar27 (j := (4 : Int32)) hin27 (g := (mkF m 54 #[.val (.int p1), .val (.int p2), .val (.int p3), .val (.ref b2), .unset, .unset, .unset, .unset, .unset] [(.int (30 : Int32)), (.int (4 : Int32)), (.ref b12), (.ref b12)])) rfl rfl (hb hby at_54)
  have V27 : Arv Z h27 b12 k12 .int (8 : Int32) [(.int (11 : Int32)), (.int (12 : Int32)), (.int (28 : Int32)), (.int (29 : Int32)), (.int (30 : Int32)), (.int (0 : Int32)), (.int (0 : Int32)), (.int (0 : Int32))] (.int (0 : Int32)) := Arv.set Ar27 q27 S27 N27' H27 G27 rfl W27 4 rfl (Nat.le_of_ble_eq_true rfl)
  have f28 := f25.other W27 ne_b2_b12
  have N27 := Fr.snoc X27 N24 g_b12
  have Z27 : n0 ≤ h27.size := Nat.le_trans Z24 (Keep.of_wr W27).1
  have k29 : ∀ t, Steps p.tables e below (T27.setTop (mkF m 60 #[.val (.int p1), .val (.int p2), .val (.int p3), .val (.ref b2), .unset, .unset, .unset, .unset, .unset] [(.int (133 : Int32)), (.int (5 : Int32)), (.ref b12), (.ref b12)])) t → Steps p.tables e below (s₁.setTop (mkF m 0 #[.val (.int p1), .val (.int p2), .val (.int p3), .unset, .unset, .unset, .unset, .unset, .unset] [])) t := fun t kt => k26 t (by
    show Steps p.tables e below (T24.setTop (mkF m 54 #[.val (.int p1), .val (.int p2), .val (.int p3), .val (.ref b2), .unset, .unset, .unset, .unset, .unset] [(.int (30 : Int32)), (.int (4 : Int32)), (.ref b12), (.ref b12)])) _
    refine st27 _ ?_
    show Steps p.tables e below (T27.setTop (mkF m 55 #[.val (.int p1), .val (.int p2), .val (.int p3), .val (.ref b2), .unset, .unset, .unset, .unset, .unset] [(.ref b12)])) _
    refine XS.dup X27.here hx rfl (hb hby at_55) rfl rfl ?_
    show Steps p.tables e below (T27.setTop (mkF m 56 #[.val (.int p1), .val (.int p2), .val (.int p3), .val (.ref b2), .unset, .unset, .unset, .unset, .unset] [(.ref b12), (.ref b12)])) _
    refine XS.iconst X27.here hx rfl (hb hby at_56) ?_
    show Steps p.tables e below (T27.setTop (mkF m 57 #[.val (.int p1), .val (.int p2), .val (.int p3), .val (.ref b2), .unset, .unset, .unset, .unset, .unset] [(.int (5 : Int32)), (.ref b12), (.ref b12)])) _
    refine XS.sipush X27.here hx rfl (hb hby at_57) ?_
    exact kt)
  obtain ⟨cl30, Ar30, q30, S30, N30', H30, G30⟩ := V27
  have hin30 : ¬ ((5 : Int32) < 0 ∨ cl30.slots.size ≤ ((5 : Int32)).toNatClampNeg) := inb_of S30 ⟨by decide, by decide⟩
  obtain ⟨T30, h30, X30, e30, W30, st30⟩ := stI X27 hx hZ e27 Ar30 (j := (5 : Int32)) hin30 (g := (mkF m 60 #[.val (.int p1), .val (.int p2), .val (.int p3), .val (.ref b2), .unset, .unset, .unset, .unset, .unset] [(.int (133 : Int32)), (.int (5 : Int32)), (.ref b12), (.ref b12)])) rfl rfl (hb hby at_60)
  have V30 : Arv Z h30 b12 k12 .int (8 : Int32) [(.int (11 : Int32)), (.int (12 : Int32)), (.int (28 : Int32)), (.int (29 : Int32)), (.int (30 : Int32)), (.int (133 : Int32)), (.int (0 : Int32)), (.int (0 : Int32))] (.int (0 : Int32)) := Arv.set Ar30 q30 S30 N30' H30 G30 rfl W30 5 rfl (Nat.le_of_ble_eq_true rfl)
  have f31 := f28.other W30 ne_b2_b12
  have N30 := Fr.snoc X30 N27 g_b12
  have Z30 : n0 ≤ h30.size := Nat.le_trans Z27 (Keep.of_wr W30).1
  have k32 : ∀ t, Steps p.tables e below (T30.setTop (mkF m 66 #[.val (.int p1), .val (.int p2), .val (.int p3), .val (.ref b2), .unset, .unset, .unset, .unset, .unset] [(.int (32 : Int32)), (.int (6 : Int32)), (.ref b12), (.ref b12)])) t → Steps p.tables e below (s₁.setTop (mkF m 0 #[.val (.int p1), .val (.int p2), .val (.int p3), .unset, .unset, .unset, .unset, .unset, .unset] [])) t := fun t kt => k29 t (by
    show Steps p.tables e below (T27.setTop (mkF m 60 #[.val (.int p1), .val (.int p2), .val (.int p3), .val (.ref b2), .unset, .unset, .unset, .unset, .unset] [(.int (133 : Int32)), (.int (5 : Int32)), (.ref b12), (.ref b12)])) _
    refine st30 _ ?_
    show Steps p.tables e below (T30.setTop (mkF m 61 #[.val (.int p1), .val (.int p2), .val (.int p3), .val (.ref b2), .unset, .unset, .unset, .unset, .unset] [(.ref b12)])) _
    refine XS.dup X30.here hx rfl (hb hby at_61) rfl rfl ?_
    show Steps p.tables e below (T30.setTop (mkF m 62 #[.val (.int p1), .val (.int p2), .val (.int p3), .val (.ref b2), .unset, .unset, .unset, .unset, .unset] [(.ref b12), (.ref b12)])) _
    refine XS.bipush X30.here hx rfl (hb hby at_62) ?_
    show Steps p.tables e below (T30.setTop (mkF m 64 #[.val (.int p1), .val (.int p2), .val (.int p3), .val (.ref b2), .unset, .unset, .unset, .unset, .unset] [(.int (6 : Int32)), (.ref b12), (.ref b12)])) _
    refine XS.bipush X30.here hx rfl (hb hby at_64) ?_
    exact kt)
  obtain ⟨cl33, Ar33, q33, S33, N33', H33, G33⟩ := V30
  have hin33 : ¬ ((6 : Int32) < 0 ∨ cl33.slots.size ≤ ((6 : Int32)).toNatClampNeg) := inb_of S33 ⟨by decide, by decide⟩
  obtain ⟨T33, h33, X33, e33, W33, st33⟩ := stI X30 hx hZ e30 Ar33 (j := (6 : Int32)) hin33 (g := (mkF m 66 #[.val (.int p1), .val (.int p2), .val (.int p3), .val (.ref b2), .unset, .unset, .unset, .unset, .unset] [(.int (32 : Int32)), (.int (6 : Int32)), (.ref b12), (.ref b12)])) rfl rfl (hb hby at_66)
  have V33 : Arv Z h33 b12 k12 .int (8 : Int32) [(.int (11 : Int32)), (.int (12 : Int32)), (.int (28 : Int32)), (.int (29 : Int32)), (.int (30 : Int32)), (.int (133 : Int32)), (.int (32 : Int32)), (.int (0 : Int32))] (.int (0 : Int32)) := Arv.set Ar33 q33 S33 N33' H33 G33 rfl W33 6 rfl (Nat.le_of_ble_eq_true rfl)
  have f34 := f31.other W33 ne_b2_b12
  have N33 := Fr.snoc X33 N30 g_b12
  have Z33 : n0 ≤ h33.size := Nat.le_trans Z30 (Keep.of_wr W33).1
  have k35 : ∀ t, Steps p.tables e below (T33.setTop (mkF m 72 #[.val (.int p1), .val (.int p2), .val (.int p3), .val (.ref b2), .unset, .unset, .unset, .unset, .unset] [(.int (9 : Int32)), (.int (7 : Int32)), (.ref b12), (.ref b12)])) t → Steps p.tables e below (s₁.setTop (mkF m 0 #[.val (.int p1), .val (.int p2), .val (.int p3), .unset, .unset, .unset, .unset, .unset, .unset] [])) t := fun t kt => k32 t (by
    show Steps p.tables e below (T30.setTop (mkF m 66 #[.val (.int p1), .val (.int p2), .val (.int p3), .val (.ref b2), .unset, .unset, .unset, .unset, .unset] [(.int (32 : Int32)), (.int (6 : Int32)), (.ref b12), (.ref b12)])) _
    refine st33 _ ?_
    show Steps p.tables e below (T33.setTop (mkF m 67 #[.val (.int p1), .val (.int p2), .val (.int p3), .val (.ref b2), .unset, .unset, .unset, .unset, .unset] [(.ref b12)])) _
    refine XS.dup X33.here hx rfl (hb hby at_67) rfl rfl ?_
    show Steps p.tables e below (T33.setTop (mkF m 68 #[.val (.int p1), .val (.int p2), .val (.int p3), .val (.ref b2), .unset, .unset, .unset, .unset, .unset] [(.ref b12), (.ref b12)])) _
    refine XS.bipush X33.here hx rfl (hb hby at_68) ?_
    show Steps p.tables e below (T33.setTop (mkF m 70 #[.val (.int p1), .val (.int p2), .val (.int p3), .val (.ref b2), .unset, .unset, .unset, .unset, .unset] [(.int (7 : Int32)), (.ref b12), (.ref b12)])) _
    refine XS.bipush X33.here hx rfl (hb hby at_70) ?_
    exact kt)
  obtain ⟨cl36, Ar36, q36, S36, N36', H36, G36⟩ := V33
  have hin36 : ¬ ((7 : Int32) < 0 ∨ cl36.slots.size ≤ ((7 : Int32)).toNatClampNeg) := inb_of S36 ⟨by decide, by decide⟩
  obtain ⟨T36, h36, X36, e36, W36, st36⟩ := stI X33 hx hZ e33 Ar36 (j := (7 : Int32)) hin36 (g := (mkF m 72 #[.val (.int p1), .val (.int p2), .val (.int p3), .val (.ref b2), .unset, .unset, .unset, .unset, .unset] [(.int (9 : Int32)), (.int (7 : Int32)), (.ref b12), (.ref b12)])) rfl rfl (hb hby at_72)
  have V36 : Arv Z h36 b12 k12 .int (8 : Int32) [(.int (11 : Int32)), (.int (12 : Int32)), (.int (28 : Int32)), (.int (29 : Int32)), (.int (30 : Int32)), (.int (133 : Int32)), (.int (32 : Int32)), (.int (9 : Int32))] (.int (0 : Int32)) := Arv.set Ar36 q36 S36 N36' H36 G36 rfl W36 7 rfl (Nat.le_of_ble_eq_true rfl)
  have f37 := f34.other W36 ne_b2_b12
  have N36 := Fr.snoc X36 N33 g_b12
  have Z36 : n0 ≤ h36.size := Nat.le_trans Z33 (Keep.of_wr W36).1
  have k38 : ∀ t, Steps p.tables e below (T36.setTop (mkF m 79 #[.val (.int p1), .val (.int p2), .val (.int p3), .val (.ref b2), .val (.ref b12), .unset, .unset, .unset, .unset] [(.int (p2 &&& (3 : Int32))), (.ref b2)])) t → Steps p.tables e below (s₁.setTop (mkF m 0 #[.val (.int p1), .val (.int p2), .val (.int p3), .unset, .unset, .unset, .unset, .unset, .unset] [])) t := fun t kt => k35 t (by
    show Steps p.tables e below (T33.setTop (mkF m 72 #[.val (.int p1), .val (.int p2), .val (.int p3), .val (.ref b2), .unset, .unset, .unset, .unset, .unset] [(.int (9 : Int32)), (.int (7 : Int32)), (.ref b12), (.ref b12)])) _
    refine st36 _ ?_
    show Steps p.tables e below (T36.setTop (mkF m 73 #[.val (.int p1), .val (.int p2), .val (.int p3), .val (.ref b2), .unset, .unset, .unset, .unset, .unset] [(.ref b12)])) _
    refine XS.astore X36.here hx rfl (hb hby at_73) rfl rfl (l' := #[.val (.int p1), .val (.int p2), .val (.int p3), .val (.ref b2), .val (.ref b12), .unset, .unset, .unset, .unset]) rfl ?_
    show Steps p.tables e below (T36.setTop (mkF m 75 #[.val (.int p1), .val (.int p2), .val (.int p3), .val (.ref b2), .val (.ref b12), .unset, .unset, .unset, .unset] [])) _
    refine XS.aloadN X36.here hx rfl (hb hby at_75) rfl rfl ?_
    show Steps p.tables e below (T36.setTop (mkF m 76 #[.val (.int p1), .val (.int p2), .val (.int p3), .val (.ref b2), .val (.ref b12), .unset, .unset, .unset, .unset] [(.ref b2)])) _
    refine XS.iloadN X36.here hx rfl (hb hby at_76) rfl ?_
    show Steps p.tables e below (T36.setTop (mkF m 77 #[.val (.int p1), .val (.int p2), .val (.int p3), .val (.ref b2), .val (.ref b12), .unset, .unset, .unset, .unset] [(.int p2), (.ref b2)])) _
    refine XS.iconst X36.here hx rfl (hb hby at_77) ?_
    show Steps p.tables e below (T36.setTop (mkF m 78 #[.val (.int p1), .val (.int p2), .val (.int p3), .val (.ref b2), .val (.ref b12), .unset, .unset, .unset, .unset] [(.int (3 : Int32)), (.int p2), (.ref b2)])) _
    refine XS.iand X36.here hx rfl (hb hby at_78) rfl ?_
    exact kt)
  obtain ⟨cl39, Ar39, q39, S39, N39', H39, G39⟩ := f37
  have hin39 : ¬ ((p2 &&& (3 : Int32)) < 0 ∨ cl39.slots.size ≤ ((p2 &&& (3 : Int32))).toNatClampNeg) := inb_of S39 (own_b3 p2)
  have hat39 : cl39.slots[((p2 &&& (3 : Int32))).toNatClampNeg]? = some (.int (own_t (p2 &&& (3 : Int32)))) := H39.at hin39 (own_a3 p2)
  have V39 : Arv Z h36 b2 k2 .int (4 : Int32) [(.int (10 : Int32)), (.int (13 : Int32)), (.int (8232 : Int32)), (.int (8233 : Int32))] (.int (0 : Int32)) := ⟨cl39, Ar39, q39, S39, N39', H39, G39⟩
  have k40 : ∀ t, Steps p.tables e below (T36.setTop (mkF m 80 #[.val (.int p1), .val (.int p2), .val (.int p3), .val (.ref b2), .val (.ref b12), .unset, .unset, .unset, .unset] [(.int (own_t (p2 &&& (3 : Int32))))])) t → Steps p.tables e below (s₁.setTop (mkF m 0 #[.val (.int p1), .val (.int p2), .val (.int p3), .unset, .unset, .unset, .unset, .unset, .unset] [])) t := fun t kt => k38 t (by
    show Steps p.tables e below (T36.setTop (mkF m 79 #[.val (.int p1), .val (.int p2), .val (.int p3), .val (.ref b2), .val (.ref b12), .unset, .unset, .unset, .unset] [(.int (p2 &&& (3 : Int32))), (.ref b2)])) _
    refine X36.iaload hx (j := (p2 &&& (3 : Int32))) (v := (.int (own_t (p2 &&& (3 : Int32))))) (by rw [e36]; exact Ar39.1) (State.isArrayOf_alike hZ.alike Ar39.2.1) Ar39.2.2 hin39 hat39 (g := (mkF m 79 #[.val (.int p1), .val (.int p2), .val (.int p3), .val (.ref b2), .val (.ref b12), .unset, .unset, .unset, .unset] [(.int (p2 &&& (3 : Int32))), (.ref b2)])) rfl rfl (hb hby at_79) _ ?_
    exact kt)
  have k42 : ∀ t, Steps p.tables e below (T36.setTop (mkF m 90 #[.val (.int p1), .val (.int p2), .val (.int p3), .val (.ref b2), .val (.ref b12), .val (.int (own_t (p2 &&& (3 : Int32)))), .val (.int (p1 &&& (7 : Int32))), .unset, .unset] [(.int (p1 &&& (7 : Int32)))])) t → Steps p.tables e below (s₁.setTop (mkF m 0 #[.val (.int p1), .val (.int p2), .val (.int p3), .unset, .unset, .unset, .unset, .unset, .unset] [])) t := fun t kt => k40 t (by
    show Steps p.tables e below (T36.setTop (mkF m 80 #[.val (.int p1), .val (.int p2), .val (.int p3), .val (.ref b2), .val (.ref b12), .unset, .unset, .unset, .unset] [(.int (own_t (p2 &&& (3 : Int32))))])) _
    refine XS.istore X36.here hx rfl (hb hby at_80) rfl (l' := #[.val (.int p1), .val (.int p2), .val (.int p3), .val (.ref b2), .val (.ref b12), .val (.int (own_t (p2 &&& (3 : Int32)))), .unset, .unset, .unset]) rfl ?_
    show Steps p.tables e below (T36.setTop (mkF m 82 #[.val (.int p1), .val (.int p2), .val (.int p3), .val (.ref b2), .val (.ref b12), .val (.int (own_t (p2 &&& (3 : Int32)))), .unset, .unset, .unset] [])) _
    refine XS.iloadN X36.here hx rfl (hb hby at_82) rfl ?_
    show Steps p.tables e below (T36.setTop (mkF m 83 #[.val (.int p1), .val (.int p2), .val (.int p3), .val (.ref b2), .val (.ref b12), .val (.int (own_t (p2 &&& (3 : Int32)))), .unset, .unset, .unset] [(.int p1)])) _
    refine XS.bipush X36.here hx rfl (hb hby at_83) ?_
    show Steps p.tables e below (T36.setTop (mkF m 85 #[.val (.int p1), .val (.int p2), .val (.int p3), .val (.ref b2), .val (.ref b12), .val (.int (own_t (p2 &&& (3 : Int32)))), .unset, .unset, .unset] [(.int (7 : Int32)), (.int p1)])) _
    refine XS.iand X36.here hx rfl (hb hby at_85) rfl ?_
    show Steps p.tables e below (T36.setTop (mkF m 86 #[.val (.int p1), .val (.int p2), .val (.int p3), .val (.ref b2), .val (.ref b12), .val (.int (own_t (p2 &&& (3 : Int32)))), .unset, .unset, .unset] [(.int (p1 &&& (7 : Int32)))])) _
    refine XS.istore X36.here hx rfl (hb hby at_86) rfl (l' := #[.val (.int p1), .val (.int p2), .val (.int p3), .val (.ref b2), .val (.ref b12), .val (.int (own_t (p2 &&& (3 : Int32)))), .val (.int (p1 &&& (7 : Int32))), .unset, .unset]) rfl ?_
    show Steps p.tables e below (T36.setTop (mkF m 88 #[.val (.int p1), .val (.int p2), .val (.int p3), .val (.ref b2), .val (.ref b12), .val (.int (own_t (p2 &&& (3 : Int32)))), .val (.int (p1 &&& (7 : Int32))), .unset, .unset] [])) _
    refine XS.iload X36.here hx rfl (hb hby at_88) rfl ?_
    exact kt)
  by_cases c90_41 : (p1 &&& (7 : Int32)) = (0 : Int32)
  · have k43 : ∀ t, Steps p.tables e below (T36.setTop (mkF m 159 #[.val (.int p1), .val (.int p2), .val (.int p3), .val (.ref b2), .val (.ref b12), .val (.int (own_t (p2 &&& (3 : Int32)))), .val (.int (p1 &&& (7 : Int32))), .val (.int (own_t (p2 &&& (3 : Int32)))), .unset] [])) t → Steps p.tables e below (s₁.setTop (mkF m 0 #[.val (.int p1), .val (.int p2), .val (.int p3), .unset, .unset, .unset, .unset, .unset, .unset] [])) t := fun t kt => k42 t (by
      show Steps p.tables e below (T36.setTop (mkF m 90 #[.val (.int p1), .val (.int p2), .val (.int p3), .val (.ref b2), .val (.ref b12), .val (.int (own_t (p2 &&& (3 : Int32)))), .val (.int (p1 &&& (7 : Int32))), .unset, .unset] [(.int (p1 &&& (7 : Int32)))])) _
      refine XS.ifNo X36.here hx rfl (hb hby at_90) rfl ((if0 _ _).trans (teq c90_41).2) ?_
      show Steps p.tables e below (T36.setTop (mkF m 93 #[.val (.int p1), .val (.int p2), .val (.int p3), .val (.ref b2), .val (.ref b12), .val (.int (own_t (p2 &&& (3 : Int32)))), .val (.int (p1 &&& (7 : Int32))), .unset, .unset] [])) _
      refine XS.iload X36.here hx rfl (hb hby at_93) rfl ?_
      show Steps p.tables e below (T36.setTop (mkF m 95 #[.val (.int p1), .val (.int p2), .val (.int p3), .val (.ref b2), .val (.ref b12), .val (.int (own_t (p2 &&& (3 : Int32)))), .val (.int (p1 &&& (7 : Int32))), .unset, .unset] [(.int (own_t (p2 &&& (3 : Int32))))])) _
      refine XS.istore X36.here hx rfl (hb hby at_95) rfl (l' := #[.val (.int p1), .val (.int p2), .val (.int p3), .val (.ref b2), .val (.ref b12), .val (.int (own_t (p2 &&& (3 : Int32)))), .val (.int (p1 &&& (7 : Int32))), .val (.int (own_t (p2 &&& (3 : Int32)))), .unset]) rfl ?_
      show Steps p.tables e below (T36.setTop (mkF m 97 #[.val (.int p1), .val (.int p2), .val (.int p3), .val (.ref b2), .val (.ref b12), .val (.int (own_t (p2 &&& (3 : Int32)))), .val (.int (p1 &&& (7 : Int32))), .val (.int (own_t (p2 &&& (3 : Int32)))), .unset] [])) _
      refine XS.goto X36.here hx rfl (pc0 := 97) (pc' := 159) rfl (hb hby at_97) (by decide) (by decide) ?_
      exact kt)
    have k47 : ∀ t, Steps p.tables e below (T36.setTop (mkF m 189 #[.val (.int p1), .val (.int p2), .val (.int p3), .val (.ref b2), .val (.ref b12), .val (.int (own_t (p2 &&& (3 : Int32)))), .val (.int (p1 &&& (7 : Int32))), .val (.int (own_t (p2 &&& (3 : Int32)))), .unset] [(.int (j0_1_S0 p1 p2 p3))])) t → Steps p.tables e below (s₁.setTop (mkF m 0 #[.val (.int p1), .val (.int p2), .val (.int p3), .unset, .unset, .unset, .unset, .unset, .unset] [])) t := by
      intro t kt
      refine k43 t ?_
      by_cases c163_48 : (own_t (p2 &&& (3 : Int32))) = (10 : Int32)
      · rw [show j0_1_S0 p1 p2 p3 = (1 : Int32) from by unfold j0_1_S0; rw [if_pos c163_48]] at kt
        show Steps p.tables e below (T36.setTop (mkF m 159 #[.val (.int p1), .val (.int p2), .val (.int p3), .val (.ref b2), .val (.ref b12), .val (.int (own_t (p2 &&& (3 : Int32)))), .val (.int (p1 &&& (7 : Int32))), .val (.int (own_t (p2 &&& (3 : Int32)))), .unset] [])) _
        refine XS.iload X36.here hx rfl (hb hby at_159) rfl ?_
        show Steps p.tables e below (T36.setTop (mkF m 161 #[.val (.int p1), .val (.int p2), .val (.int p3), .val (.ref b2), .val (.ref b12), .val (.int (own_t (p2 &&& (3 : Int32)))), .val (.int (p1 &&& (7 : Int32))), .val (.int (own_t (p2 &&& (3 : Int32)))), .unset] [(.int (own_t (p2 &&& (3 : Int32))))])) _
        refine XS.bipush X36.here hx rfl (hb hby at_161) ?_
        show Steps p.tables e below (T36.setTop (mkF m 163 #[.val (.int p1), .val (.int p2), .val (.int p3), .val (.ref b2), .val (.ref b12), .val (.int (own_t (p2 &&& (3 : Int32)))), .val (.int (p1 &&& (7 : Int32))), .val (.int (own_t (p2 &&& (3 : Int32)))), .unset] [(.int (10 : Int32)), (.int (own_t (p2 &&& (3 : Int32))))])) _
        refine XS.icmpYes X36.here hx rfl (pc0 := 163) (pc' := 184) rfl (hb hby at_163) rfl (teq c163_48).1 (by decide) (by decide) ?_
        show Steps p.tables e below (T36.setTop (mkF m 184 #[.val (.int p1), .val (.int p2), .val (.int p3), .val (.ref b2), .val (.ref b12), .val (.int (own_t (p2 &&& (3 : Int32)))), .val (.int (p1 &&& (7 : Int32))), .val (.int (own_t (p2 &&& (3 : Int32)))), .unset] [])) _
        refine XS.iconst X36.here hx rfl (hb hby at_184) ?_
        show Steps p.tables e below (T36.setTop (mkF m 185 #[.val (.int p1), .val (.int p2), .val (.int p3), .val (.ref b2), .val (.ref b12), .val (.int (own_t (p2 &&& (3 : Int32)))), .val (.int (p1 &&& (7 : Int32))), .val (.int (own_t (p2 &&& (3 : Int32)))), .unset] [(.int (1 : Int32))])) _
        refine XS.goto X36.here hx rfl (pc0 := 185) (pc' := 189) rfl (hb hby at_185) (by decide) (by decide) ?_
        exact kt
      · by_cases c170_49 : (own_t (p2 &&& (3 : Int32))) = (13 : Int32)
        · rw [show j0_1_S0 p1 p2 p3 = (1 : Int32) from by unfold j0_1_S0; rw [if_neg c163_48, if_pos c170_49]] at kt
          show Steps p.tables e below (T36.setTop (mkF m 159 #[.val (.int p1), .val (.int p2), .val (.int p3), .val (.ref b2), .val (.ref b12), .val (.int (own_t (p2 &&& (3 : Int32)))), .val (.int (p1 &&& (7 : Int32))), .val (.int (own_t (p2 &&& (3 : Int32)))), .unset] [])) _
          refine XS.iload X36.here hx rfl (hb hby at_159) rfl ?_
          show Steps p.tables e below (T36.setTop (mkF m 161 #[.val (.int p1), .val (.int p2), .val (.int p3), .val (.ref b2), .val (.ref b12), .val (.int (own_t (p2 &&& (3 : Int32)))), .val (.int (p1 &&& (7 : Int32))), .val (.int (own_t (p2 &&& (3 : Int32)))), .unset] [(.int (own_t (p2 &&& (3 : Int32))))])) _
          refine XS.bipush X36.here hx rfl (hb hby at_161) ?_
          show Steps p.tables e below (T36.setTop (mkF m 163 #[.val (.int p1), .val (.int p2), .val (.int p3), .val (.ref b2), .val (.ref b12), .val (.int (own_t (p2 &&& (3 : Int32)))), .val (.int (p1 &&& (7 : Int32))), .val (.int (own_t (p2 &&& (3 : Int32)))), .unset] [(.int (10 : Int32)), (.int (own_t (p2 &&& (3 : Int32))))])) _
          refine XS.icmpNo X36.here hx rfl (hb hby at_163) rfl (feq c163_48).1 ?_
          show Steps p.tables e below (T36.setTop (mkF m 166 #[.val (.int p1), .val (.int p2), .val (.int p3), .val (.ref b2), .val (.ref b12), .val (.int (own_t (p2 &&& (3 : Int32)))), .val (.int (p1 &&& (7 : Int32))), .val (.int (own_t (p2 &&& (3 : Int32)))), .unset] [])) _
          refine XS.iload X36.here hx rfl (hb hby at_166) rfl ?_
          show Steps p.tables e below (T36.setTop (mkF m 168 #[.val (.int p1), .val (.int p2), .val (.int p3), .val (.ref b2), .val (.ref b12), .val (.int (own_t (p2 &&& (3 : Int32)))), .val (.int (p1 &&& (7 : Int32))), .val (.int (own_t (p2 &&& (3 : Int32)))), .unset] [(.int (own_t (p2 &&& (3 : Int32))))])) _
          refine XS.bipush X36.here hx rfl (hb hby at_168) ?_
          show Steps p.tables e below (T36.setTop (mkF m 170 #[.val (.int p1), .val (.int p2), .val (.int p3), .val (.ref b2), .val (.ref b12), .val (.int (own_t (p2 &&& (3 : Int32)))), .val (.int (p1 &&& (7 : Int32))), .val (.int (own_t (p2 &&& (3 : Int32)))), .unset] [(.int (13 : Int32)), (.int (own_t (p2 &&& (3 : Int32))))])) _
          refine XS.icmpYes X36.here hx rfl (pc0 := 170) (pc' := 184) rfl (hb hby at_170) rfl (teq c170_49).1 (by decide) (by decide) ?_
          show Steps p.tables e below (T36.setTop (mkF m 184 #[.val (.int p1), .val (.int p2), .val (.int p3), .val (.ref b2), .val (.ref b12), .val (.int (own_t (p2 &&& (3 : Int32)))), .val (.int (p1 &&& (7 : Int32))), .val (.int (own_t (p2 &&& (3 : Int32)))), .unset] [])) _
          refine XS.iconst X36.here hx rfl (hb hby at_184) ?_
          show Steps p.tables e below (T36.setTop (mkF m 185 #[.val (.int p1), .val (.int p2), .val (.int p3), .val (.ref b2), .val (.ref b12), .val (.int (own_t (p2 &&& (3 : Int32)))), .val (.int (p1 &&& (7 : Int32))), .val (.int (own_t (p2 &&& (3 : Int32)))), .unset] [(.int (1 : Int32))])) _
          refine XS.goto X36.here hx rfl (pc0 := 185) (pc' := 189) rfl (hb hby at_185) (by decide) (by decide) ?_
          exact kt
        · by_cases c181_50 : ((own_t (p2 &&& (3 : Int32))) &&& (-2 : Int32)) = (8232 : Int32)
          · rw [show j0_1_S0 p1 p2 p3 = (1 : Int32) from by unfold j0_1_S0; rw [if_neg c163_48, if_neg c170_49, if_pos c181_50]] at kt
            show Steps p.tables e below (T36.setTop (mkF m 159 #[.val (.int p1), .val (.int p2), .val (.int p3), .val (.ref b2), .val (.ref b12), .val (.int (own_t (p2 &&& (3 : Int32)))), .val (.int (p1 &&& (7 : Int32))), .val (.int (own_t (p2 &&& (3 : Int32)))), .unset] [])) _
            refine XS.iload X36.here hx rfl (hb hby at_159) rfl ?_
            show Steps p.tables e below (T36.setTop (mkF m 161 #[.val (.int p1), .val (.int p2), .val (.int p3), .val (.ref b2), .val (.ref b12), .val (.int (own_t (p2 &&& (3 : Int32)))), .val (.int (p1 &&& (7 : Int32))), .val (.int (own_t (p2 &&& (3 : Int32)))), .unset] [(.int (own_t (p2 &&& (3 : Int32))))])) _
            refine XS.bipush X36.here hx rfl (hb hby at_161) ?_
            show Steps p.tables e below (T36.setTop (mkF m 163 #[.val (.int p1), .val (.int p2), .val (.int p3), .val (.ref b2), .val (.ref b12), .val (.int (own_t (p2 &&& (3 : Int32)))), .val (.int (p1 &&& (7 : Int32))), .val (.int (own_t (p2 &&& (3 : Int32)))), .unset] [(.int (10 : Int32)), (.int (own_t (p2 &&& (3 : Int32))))])) _
            refine XS.icmpNo X36.here hx rfl (hb hby at_163) rfl (feq c163_48).1 ?_
            show Steps p.tables e below (T36.setTop (mkF m 166 #[.val (.int p1), .val (.int p2), .val (.int p3), .val (.ref b2), .val (.ref b12), .val (.int (own_t (p2 &&& (3 : Int32)))), .val (.int (p1 &&& (7 : Int32))), .val (.int (own_t (p2 &&& (3 : Int32)))), .unset] [])) _
            refine XS.iload X36.here hx rfl (hb hby at_166) rfl ?_
            show Steps p.tables e below (T36.setTop (mkF m 168 #[.val (.int p1), .val (.int p2), .val (.int p3), .val (.ref b2), .val (.ref b12), .val (.int (own_t (p2 &&& (3 : Int32)))), .val (.int (p1 &&& (7 : Int32))), .val (.int (own_t (p2 &&& (3 : Int32)))), .unset] [(.int (own_t (p2 &&& (3 : Int32))))])) _
            refine XS.bipush X36.here hx rfl (hb hby at_168) ?_
            show Steps p.tables e below (T36.setTop (mkF m 170 #[.val (.int p1), .val (.int p2), .val (.int p3), .val (.ref b2), .val (.ref b12), .val (.int (own_t (p2 &&& (3 : Int32)))), .val (.int (p1 &&& (7 : Int32))), .val (.int (own_t (p2 &&& (3 : Int32)))), .unset] [(.int (13 : Int32)), (.int (own_t (p2 &&& (3 : Int32))))])) _
            refine XS.icmpNo X36.here hx rfl (hb hby at_170) rfl (feq c170_49).1 ?_
            show Steps p.tables e below (T36.setTop (mkF m 173 #[.val (.int p1), .val (.int p2), .val (.int p3), .val (.ref b2), .val (.ref b12), .val (.int (own_t (p2 &&& (3 : Int32)))), .val (.int (p1 &&& (7 : Int32))), .val (.int (own_t (p2 &&& (3 : Int32)))), .unset] [])) _
            refine XS.iload X36.here hx rfl (hb hby at_173) rfl ?_
            show Steps p.tables e below (T36.setTop (mkF m 175 #[.val (.int p1), .val (.int p2), .val (.int p3), .val (.ref b2), .val (.ref b12), .val (.int (own_t (p2 &&& (3 : Int32)))), .val (.int (p1 &&& (7 : Int32))), .val (.int (own_t (p2 &&& (3 : Int32)))), .unset] [(.int (own_t (p2 &&& (3 : Int32))))])) _
            refine XS.bipush X36.here hx rfl (hb hby at_175) ?_
            show Steps p.tables e below (T36.setTop (mkF m 177 #[.val (.int p1), .val (.int p2), .val (.int p3), .val (.ref b2), .val (.ref b12), .val (.int (own_t (p2 &&& (3 : Int32)))), .val (.int (p1 &&& (7 : Int32))), .val (.int (own_t (p2 &&& (3 : Int32)))), .unset] [(.int (-2 : Int32)), (.int (own_t (p2 &&& (3 : Int32))))])) _
            refine XS.iand X36.here hx rfl (hb hby at_177) rfl ?_
            show Steps p.tables e below (T36.setTop (mkF m 178 #[.val (.int p1), .val (.int p2), .val (.int p3), .val (.ref b2), .val (.ref b12), .val (.int (own_t (p2 &&& (3 : Int32)))), .val (.int (p1 &&& (7 : Int32))), .val (.int (own_t (p2 &&& (3 : Int32)))), .unset] [(.int ((own_t (p2 &&& (3 : Int32))) &&& (-2 : Int32)))])) _
            refine XS.sipush X36.here hx rfl (hb hby at_178) ?_
            show Steps p.tables e below (T36.setTop (mkF m 181 #[.val (.int p1), .val (.int p2), .val (.int p3), .val (.ref b2), .val (.ref b12), .val (.int (own_t (p2 &&& (3 : Int32)))), .val (.int (p1 &&& (7 : Int32))), .val (.int (own_t (p2 &&& (3 : Int32)))), .unset] [(.int (8232 : Int32)), (.int ((own_t (p2 &&& (3 : Int32))) &&& (-2 : Int32)))])) _
            refine XS.icmpNo X36.here hx rfl (hb hby at_181) rfl (teq c181_50).2 ?_
            show Steps p.tables e below (T36.setTop (mkF m 184 #[.val (.int p1), .val (.int p2), .val (.int p3), .val (.ref b2), .val (.ref b12), .val (.int (own_t (p2 &&& (3 : Int32)))), .val (.int (p1 &&& (7 : Int32))), .val (.int (own_t (p2 &&& (3 : Int32)))), .unset] [])) _
            refine XS.iconst X36.here hx rfl (hb hby at_184) ?_
            show Steps p.tables e below (T36.setTop (mkF m 185 #[.val (.int p1), .val (.int p2), .val (.int p3), .val (.ref b2), .val (.ref b12), .val (.int (own_t (p2 &&& (3 : Int32)))), .val (.int (p1 &&& (7 : Int32))), .val (.int (own_t (p2 &&& (3 : Int32)))), .unset] [(.int (1 : Int32))])) _
            refine XS.goto X36.here hx rfl (pc0 := 185) (pc' := 189) rfl (hb hby at_185) (by decide) (by decide) ?_
            exact kt
          · rw [show j0_1_S0 p1 p2 p3 = (0 : Int32) from by unfold j0_1_S0; rw [if_neg c163_48, if_neg c170_49, if_neg c181_50]] at kt
            show Steps p.tables e below (T36.setTop (mkF m 159 #[.val (.int p1), .val (.int p2), .val (.int p3), .val (.ref b2), .val (.ref b12), .val (.int (own_t (p2 &&& (3 : Int32)))), .val (.int (p1 &&& (7 : Int32))), .val (.int (own_t (p2 &&& (3 : Int32)))), .unset] [])) _
            refine XS.iload X36.here hx rfl (hb hby at_159) rfl ?_
            show Steps p.tables e below (T36.setTop (mkF m 161 #[.val (.int p1), .val (.int p2), .val (.int p3), .val (.ref b2), .val (.ref b12), .val (.int (own_t (p2 &&& (3 : Int32)))), .val (.int (p1 &&& (7 : Int32))), .val (.int (own_t (p2 &&& (3 : Int32)))), .unset] [(.int (own_t (p2 &&& (3 : Int32))))])) _
            refine XS.bipush X36.here hx rfl (hb hby at_161) ?_
            show Steps p.tables e below (T36.setTop (mkF m 163 #[.val (.int p1), .val (.int p2), .val (.int p3), .val (.ref b2), .val (.ref b12), .val (.int (own_t (p2 &&& (3 : Int32)))), .val (.int (p1 &&& (7 : Int32))), .val (.int (own_t (p2 &&& (3 : Int32)))), .unset] [(.int (10 : Int32)), (.int (own_t (p2 &&& (3 : Int32))))])) _
            refine XS.icmpNo X36.here hx rfl (hb hby at_163) rfl (feq c163_48).1 ?_
            show Steps p.tables e below (T36.setTop (mkF m 166 #[.val (.int p1), .val (.int p2), .val (.int p3), .val (.ref b2), .val (.ref b12), .val (.int (own_t (p2 &&& (3 : Int32)))), .val (.int (p1 &&& (7 : Int32))), .val (.int (own_t (p2 &&& (3 : Int32)))), .unset] [])) _
            refine XS.iload X36.here hx rfl (hb hby at_166) rfl ?_
            show Steps p.tables e below (T36.setTop (mkF m 168 #[.val (.int p1), .val (.int p2), .val (.int p3), .val (.ref b2), .val (.ref b12), .val (.int (own_t (p2 &&& (3 : Int32)))), .val (.int (p1 &&& (7 : Int32))), .val (.int (own_t (p2 &&& (3 : Int32)))), .unset] [(.int (own_t (p2 &&& (3 : Int32))))])) _
            refine XS.bipush X36.here hx rfl (hb hby at_168) ?_
            show Steps p.tables e below (T36.setTop (mkF m 170 #[.val (.int p1), .val (.int p2), .val (.int p3), .val (.ref b2), .val (.ref b12), .val (.int (own_t (p2 &&& (3 : Int32)))), .val (.int (p1 &&& (7 : Int32))), .val (.int (own_t (p2 &&& (3 : Int32)))), .unset] [(.int (13 : Int32)), (.int (own_t (p2 &&& (3 : Int32))))])) _
            refine XS.icmpNo X36.here hx rfl (hb hby at_170) rfl (feq c170_49).1 ?_
            show Steps p.tables e below (T36.setTop (mkF m 173 #[.val (.int p1), .val (.int p2), .val (.int p3), .val (.ref b2), .val (.ref b12), .val (.int (own_t (p2 &&& (3 : Int32)))), .val (.int (p1 &&& (7 : Int32))), .val (.int (own_t (p2 &&& (3 : Int32)))), .unset] [])) _
            refine XS.iload X36.here hx rfl (hb hby at_173) rfl ?_
            show Steps p.tables e below (T36.setTop (mkF m 175 #[.val (.int p1), .val (.int p2), .val (.int p3), .val (.ref b2), .val (.ref b12), .val (.int (own_t (p2 &&& (3 : Int32)))), .val (.int (p1 &&& (7 : Int32))), .val (.int (own_t (p2 &&& (3 : Int32)))), .unset] [(.int (own_t (p2 &&& (3 : Int32))))])) _
            refine XS.bipush X36.here hx rfl (hb hby at_175) ?_
            show Steps p.tables e below (T36.setTop (mkF m 177 #[.val (.int p1), .val (.int p2), .val (.int p3), .val (.ref b2), .val (.ref b12), .val (.int (own_t (p2 &&& (3 : Int32)))), .val (.int (p1 &&& (7 : Int32))), .val (.int (own_t (p2 &&& (3 : Int32)))), .unset] [(.int (-2 : Int32)), (.int (own_t (p2 &&& (3 : Int32))))])) _
            refine XS.iand X36.here hx rfl (hb hby at_177) rfl ?_
            show Steps p.tables e below (T36.setTop (mkF m 178 #[.val (.int p1), .val (.int p2), .val (.int p3), .val (.ref b2), .val (.ref b12), .val (.int (own_t (p2 &&& (3 : Int32)))), .val (.int (p1 &&& (7 : Int32))), .val (.int (own_t (p2 &&& (3 : Int32)))), .unset] [(.int ((own_t (p2 &&& (3 : Int32))) &&& (-2 : Int32)))])) _
            refine XS.sipush X36.here hx rfl (hb hby at_178) ?_
            show Steps p.tables e below (T36.setTop (mkF m 181 #[.val (.int p1), .val (.int p2), .val (.int p3), .val (.ref b2), .val (.ref b12), .val (.int (own_t (p2 &&& (3 : Int32)))), .val (.int (p1 &&& (7 : Int32))), .val (.int (own_t (p2 &&& (3 : Int32)))), .unset] [(.int (8232 : Int32)), (.int ((own_t (p2 &&& (3 : Int32))) &&& (-2 : Int32)))])) _
            refine XS.icmpYes X36.here hx rfl (pc0 := 181) (pc' := 188) rfl (hb hby at_181) rfl (feq c181_50).2 (by decide) (by decide) ?_
            show Steps p.tables e below (T36.setTop (mkF m 188 #[.val (.int p1), .val (.int p2), .val (.int p3), .val (.ref b2), .val (.ref b12), .val (.int (own_t (p2 &&& (3 : Int32)))), .val (.int (p1 &&& (7 : Int32))), .val (.int (own_t (p2 &&& (3 : Int32)))), .unset] [])) _
            refine XS.iconst X36.here hx rfl (hb hby at_188) ?_
            exact kt
    have k51 : ∀ t, Steps p.tables e below (T36.setTop (mkF m 193 #[.val (.int p1), .val (.int p2), .val (.int p3), .val (.ref b2), .val (.ref b12), .val (.int (own_t (p2 &&& (3 : Int32)))), .val (.int (p1 &&& (7 : Int32))), .val (.int (own_t (p2 &&& (3 : Int32)))), .val (.int (j0_1_S0 p1 p2 p3))] [(.int (own_t (p2 &&& (3 : Int32))))])) t → Steps p.tables e below (s₁.setTop (mkF m 0 #[.val (.int p1), .val (.int p2), .val (.int p3), .unset, .unset, .unset, .unset, .unset, .unset] [])) t := fun t kt => k47 t (by
      show Steps p.tables e below (T36.setTop (mkF m 189 #[.val (.int p1), .val (.int p2), .val (.int p3), .val (.ref b2), .val (.ref b12), .val (.int (own_t (p2 &&& (3 : Int32)))), .val (.int (p1 &&& (7 : Int32))), .val (.int (own_t (p2 &&& (3 : Int32)))), .unset] [(.int (j0_1_S0 p1 p2 p3))])) _
      refine XS.istore X36.here hx rfl (hb hby at_189) rfl (l' := #[.val (.int p1), .val (.int p2), .val (.int p3), .val (.ref b2), .val (.ref b12), .val (.int (own_t (p2 &&& (3 : Int32)))), .val (.int (p1 &&& (7 : Int32))), .val (.int (own_t (p2 &&& (3 : Int32)))), .val (.int (j0_1_S0 p1 p2 p3))]) rfl ?_
      show Steps p.tables e below (T36.setTop (mkF m 191 #[.val (.int p1), .val (.int p2), .val (.int p3), .val (.ref b2), .val (.ref b12), .val (.int (own_t (p2 &&& (3 : Int32)))), .val (.int (p1 &&& (7 : Int32))), .val (.int (own_t (p2 &&& (3 : Int32)))), .val (.int (j0_1_S0 p1 p2 p3))] [])) _
      refine XS.iload X36.here hx rfl (hb hby at_191) rfl ?_
      exact kt)
    obtain ⟨_, _, ⟨T52, L52, k52', n52⟩, -, X52, ⟨Lc52, hQ52, l52, y52, z52⟩, st52⟩ := Jvm.LawKit.callS X36 hx (y := (⟨"com/example/sayable/sayable/ScriptLexer", "isLineTerminator", "(I)Z"⟩ : MethodName)) hown (mvT hZ (hw _ (List.mem_of_getElem? (i := 1) rfl))) (mvT hZ (hw _ (List.mem_of_getElem? (i := 2) rfl))) (mvT hZ (hw _ (List.mem_of_getElem? (i := 3) rfl))) (mvT hZ (hw _ (List.mem_of_getElem? (i := 4) rfl))) (by decide) (backOf (W := 0) (rm1 l Z a0 hw [] (own_t (p2 &&& (3 : Int32))) h36 n0 Z36) hZ (hw _ (List.mem_of_getElem? (i := 4) rfl)) (hw _ (List.mem_of_getElem? (i := 3) rfl)) (by decide) (by decide)) (g := (mkF m 193 #[.val (.int p1), .val (.int p2), .val (.int p3), .val (.ref b2), .val (.ref b12), .val (.int (own_t (p2 &&& (3 : Int32)))), .val (.int (p1 &&& (7 : Int32))), .val (.int (own_t (p2 &&& (3 : Int32)))), .val (.int (j0_1_S0 p1 p2 p3))] [(.int (own_t (p2 &&& (3 : Int32))))])) rfl (by rw [hml]; rfl) (argsL := [(.int (own_t (p2 &&& (3 : Int32))))]) (rest := []) (lenOf pd0_0 rfl) rfl (by show 2 * 0 + _ ≤ _; exact Nat.le_of_eq rfl) (hb hby at_193) (fun _ _ => ⟨rfl, e36, (by decide : 2 + 0 ≤ _), (by decide : 12 + 0 ≤ _)⟩)
    dsimp only [Pt.U, Pt.locs, Pt.cells, Pt.slots] at X52 l52 y52 z52 st52 hQ52
    subst l52 y52 z52
    obtain ⟨rfl, N52q, hh52⟩ := hQ52
    have N52 := Fr.app N36 N52q
    have k54 : ∀ t, Steps p.tables e below (T52.setTop (mkF m 198 #[.val (.int p1), .val (.int p2), .val (.int p3), .val (.ref b2), .val (.ref b12), .val (.int (own_t (p2 &&& (3 : Int32)))), .val (.int (p1 &&& (7 : Int32))), .val (.int (own_t (p2 &&& (3 : Int32)))), .val (.int (j0_1_S0 p1 p2 p3))] [(.int (j0_1_S0 p1 p2 p3)), (.int (sp1 (own_t (p2 &&& (3 : Int32)))))])) t → Steps p.tables e below (s₁.setTop (mkF m 0 #[.val (.int p1), .val (.int p2), .val (.int p3), .unset, .unset, .unset, .unset, .unset, .unset] [])) t := fun t kt => k51 t (by
      show Steps p.tables e below (T36.setTop (mkF m 193 #[.val (.int p1), .val (.int p2), .val (.int p3), .val (.ref b2), .val (.ref b12), .val (.int (own_t (p2 &&& (3 : Int32)))), .val (.int (p1 &&& (7 : Int32))), .val (.int (own_t (p2 &&& (3 : Int32)))), .val (.int (j0_1_S0 p1 p2 p3))] [(.int (own_t (p2 &&& (3 : Int32))))])) _
      refine st52 _ ?_
      show Steps p.tables e below (T52.setTop (mkF m 196 #[.val (.int p1), .val (.int p2), .val (.int p3), .val (.ref b2), .val (.ref b12), .val (.int (own_t (p2 &&& (3 : Int32)))), .val (.int (p1 &&& (7 : Int32))), .val (.int (own_t (p2 &&& (3 : Int32)))), .val (.int (j0_1_S0 p1 p2 p3))] [(.int (sp1 (own_t (p2 &&& (3 : Int32)))))])) _
      refine XS.iload X52.here hx rfl (hb hby at_196) rfl ?_
      exact kt)
    by_cases c198_53 : (sp1 (own_t (p2 &&& (3 : Int32)))) = (j0_1_S0 p1 p2 p3)
    · obtain ⟨fs, hr, hrun, hended, hW, hsame⟩ := X52.leave (v := some (.int (1 : Int32))) (fun h => by rw [Bd.returns] at h; cases h)
      refine ⟨_, _, pre0 _ (k54 _ ?_), hrun, hended, _, _, rfl, ?_, ⟨_, rfl⟩, hW, hsame.mono (by decide) (by decide)⟩
      · show Steps p.tables e below (T52.setTop (mkF m 198 #[.val (.int p1), .val (.int p2), .val (.int p3), .val (.ref b2), .val (.ref b12), .val (.int (own_t (p2 &&& (3 : Int32)))), .val (.int (p1 &&& (7 : Int32))), .val (.int (own_t (p2 &&& (3 : Int32)))), .val (.int (j0_1_S0 p1 p2 p3))] [(.int (j0_1_S0 p1 p2 p3)), (.int (sp1 (own_t (p2 &&& (3 : Int32)))))])) _
        refine XS.icmpNo X52.here hx rfl (hb hby at_198) rfl (teq c198_53).2 ?_
        show Steps p.tables e below (T52.setTop (mkF m 201 #[.val (.int p1), .val (.int p2), .val (.int p3), .val (.ref b2), .val (.ref b12), .val (.int (own_t (p2 &&& (3 : Int32)))), .val (.int (p1 &&& (7 : Int32))), .val (.int (own_t (p2 &&& (3 : Int32)))), .val (.int (j0_1_S0 p1 p2 p3))] [])) _
        refine XS.iconst X52.here hx rfl (hb hby at_201) ?_
        show Steps p.tables e below (T52.setTop (mkF m 202 #[.val (.int p1), .val (.int p2), .val (.int p3), .val (.ref b2), .val (.ref b12), .val (.int (own_t (p2 &&& (3 : Int32)))), .val (.int (p1 &&& (7 : Int32))), .val (.int (own_t (p2 &&& (3 : Int32)))), .val (.int (j0_1_S0 p1 p2 p3))] [(.int (1 : Int32))])) _
        refine XS.goto X52.here hx rfl (pc0 := 202) (pc' := 206) rfl (hb hby at_202) (by decide) (by decide) ?_
        show Steps p.tables e below (T52.setTop (mkF m 206 #[.val (.int p1), .val (.int p2), .val (.int p3), .val (.ref b2), .val (.ref b12), .val (.int (own_t (p2 &&& (3 : Int32)))), .val (.int (p1 &&& (7 : Int32))), .val (.int (own_t (p2 &&& (3 : Int32)))), .val (.int (j0_1_S0 p1 p2 p3))] [(.int (1 : Int32))])) _
        exact retN X52 hx (t := .boolean) Bd.returns (by simp) (hb hby at_206) hr
      · show Q0 Z p1 p2 p3 h0 n0 _ T52.heap _
        rw [hh52]
        have hv : sp0 p1 p2 p3 = (1 : Int32) := by unfold sp0; rw [if_pos c90_41, if_pos c198_53]
        exact ⟨by rw [← hv, own_law p1 p2 p3], N52⟩
    · obtain ⟨fs, hr, hrun, hended, hW, hsame⟩ := X52.leave (v := some (.int (0 : Int32))) (fun h => by rw [Bd.returns] at h; cases h)
      refine ⟨_, _, pre0 _ (k54 _ ?_), hrun, hended, _, _, rfl, ?_, ⟨_, rfl⟩, hW, hsame.mono (by decide) (by decide)⟩
      · show Steps p.tables e below (T52.setTop (mkF m 198 #[.val (.int p1), .val (.int p2), .val (.int p3), .val (.ref b2), .val (.ref b12), .val (.int (own_t (p2 &&& (3 : Int32)))), .val (.int (p1 &&& (7 : Int32))), .val (.int (own_t (p2 &&& (3 : Int32)))), .val (.int (j0_1_S0 p1 p2 p3))] [(.int (j0_1_S0 p1 p2 p3)), (.int (sp1 (own_t (p2 &&& (3 : Int32)))))])) _
        refine XS.icmpYes X52.here hx rfl (pc0 := 198) (pc' := 205) rfl (hb hby at_198) rfl (feq c198_53).2 (by decide) (by decide) ?_
        show Steps p.tables e below (T52.setTop (mkF m 205 #[.val (.int p1), .val (.int p2), .val (.int p3), .val (.ref b2), .val (.ref b12), .val (.int (own_t (p2 &&& (3 : Int32)))), .val (.int (p1 &&& (7 : Int32))), .val (.int (own_t (p2 &&& (3 : Int32)))), .val (.int (j0_1_S0 p1 p2 p3))] [])) _
        refine XS.iconst X52.here hx rfl (hb hby at_205) ?_
        show Steps p.tables e below (T52.setTop (mkF m 206 #[.val (.int p1), .val (.int p2), .val (.int p3), .val (.ref b2), .val (.ref b12), .val (.int (own_t (p2 &&& (3 : Int32)))), .val (.int (p1 &&& (7 : Int32))), .val (.int (own_t (p2 &&& (3 : Int32)))), .val (.int (j0_1_S0 p1 p2 p3))] [(.int (0 : Int32))])) _
        exact retN X52 hx (t := .boolean) Bd.returns (by simp) (hb hby at_206) hr
      · show Q0 Z p1 p2 p3 h0 n0 _ T52.heap _
        rw [hh52]
        have hv : sp0 p1 p2 p3 = (0 : Int32) := by unfold sp0; rw [if_pos c90_41, if_neg c198_53]
        exact ⟨by rw [← hv, own_law p1 p2 p3], N52⟩
  · have k56 : ∀ t, Steps p.tables e below (T36.setTop (mkF m 103 #[.val (.int p1), .val (.int p2), .val (.int p3), .val (.ref b2), .val (.ref b12), .val (.int (own_t (p2 &&& (3 : Int32)))), .val (.int (p1 &&& (7 : Int32))), .unset, .unset] [(.int (1 : Int32)), (.int (p1 &&& (7 : Int32)))])) t → Steps p.tables e below (s₁.setTop (mkF m 0 #[.val (.int p1), .val (.int p2), .val (.int p3), .unset, .unset, .unset, .unset, .unset, .unset] [])) t := fun t kt => k42 t (by
      show Steps p.tables e below (T36.setTop (mkF m 90 #[.val (.int p1), .val (.int p2), .val (.int p3), .val (.ref b2), .val (.ref b12), .val (.int (own_t (p2 &&& (3 : Int32)))), .val (.int (p1 &&& (7 : Int32))), .unset, .unset] [(.int (p1 &&& (7 : Int32)))])) _
      refine XS.ifYes X36.here hx rfl (pc0 := 90) (pc' := 100) rfl (hb hby at_90) rfl ((if0 _ _).trans (feq c90_41).2) (by decide) (by decide) ?_
      show Steps p.tables e below (T36.setTop (mkF m 100 #[.val (.int p1), .val (.int p2), .val (.int p3), .val (.ref b2), .val (.ref b12), .val (.int (own_t (p2 &&& (3 : Int32)))), .val (.int (p1 &&& (7 : Int32))), .unset, .unset] [])) _
      refine XS.iload X36.here hx rfl (hb hby at_100) rfl ?_
      show Steps p.tables e below (T36.setTop (mkF m 102 #[.val (.int p1), .val (.int p2), .val (.int p3), .val (.ref b2), .val (.ref b12), .val (.int (own_t (p2 &&& (3 : Int32)))), .val (.int (p1 &&& (7 : Int32))), .unset, .unset] [(.int (p1 &&& (7 : Int32)))])) _
      refine XS.iconst X36.here hx rfl (hb hby at_102) ?_
      exact kt)
    by_cases c103_55 : (p1 &&& (7 : Int32)) = (1 : Int32)
    · have k57 : ∀ t, Steps p.tables e below (T36.setTop (mkF m 159 #[.val (.int p1), .val (.int p2), .val (.int p3), .val (.ref b2), .val (.ref b12), .val (.int (own_t (p2 &&& (3 : Int32)))), .val (.int (p1 &&& (7 : Int32))), .val (.int ((own_t (p2 &&& (3 : Int32))) + ((p3 &&& (7 : Int32)) - (4 : Int32)))), .unset] [])) t → Steps p.tables e below (s₁.setTop (mkF m 0 #[.val (.int p1), .val (.int p2), .val (.int p3), .unset, .unset, .unset, .unset, .unset, .unset] [])) t := fun t kt => k56 t (by
        show Steps p.tables e below (T36.setTop (mkF m 103 #[.val (.int p1), .val (.int p2), .val (.int p3), .val (.ref b2), .val (.ref b12), .val (.int (own_t (p2 &&& (3 : Int32)))), .val (.int (p1 &&& (7 : Int32))), .unset, .unset] [(.int (1 : Int32)), (.int (p1 &&& (7 : Int32)))])) _
        refine XS.icmpNo X36.here hx rfl (hb hby at_103) rfl (teq c103_55).2 ?_
        show Steps p.tables e below (T36.setTop (mkF m 106 #[.val (.int p1), .val (.int p2), .val (.int p3), .val (.ref b2), .val (.ref b12), .val (.int (own_t (p2 &&& (3 : Int32)))), .val (.int (p1 &&& (7 : Int32))), .unset, .unset] [])) _
        refine XS.iload X36.here hx rfl (hb hby at_106) rfl ?_
        show Steps p.tables e below (T36.setTop (mkF m 108 #[.val (.int p1), .val (.int p2), .val (.int p3), .val (.ref b2), .val (.ref b12), .val (.int (own_t (p2 &&& (3 : Int32)))), .val (.int (p1 &&& (7 : Int32))), .unset, .unset] [(.int (own_t (p2 &&& (3 : Int32))))])) _
        refine XS.iloadN X36.here hx rfl (hb hby at_108) rfl ?_
        show Steps p.tables e below (T36.setTop (mkF m 109 #[.val (.int p1), .val (.int p2), .val (.int p3), .val (.ref b2), .val (.ref b12), .val (.int (own_t (p2 &&& (3 : Int32)))), .val (.int (p1 &&& (7 : Int32))), .unset, .unset] [(.int p3), (.int (own_t (p2 &&& (3 : Int32))))])) _
        refine XS.bipush X36.here hx rfl (hb hby at_109) ?_
        show Steps p.tables e below (T36.setTop (mkF m 111 #[.val (.int p1), .val (.int p2), .val (.int p3), .val (.ref b2), .val (.ref b12), .val (.int (own_t (p2 &&& (3 : Int32)))), .val (.int (p1 &&& (7 : Int32))), .unset, .unset] [(.int (7 : Int32)), (.int p3), (.int (own_t (p2 &&& (3 : Int32))))])) _
        refine XS.iand X36.here hx rfl (hb hby at_111) rfl ?_
        show Steps p.tables e below (T36.setTop (mkF m 112 #[.val (.int p1), .val (.int p2), .val (.int p3), .val (.ref b2), .val (.ref b12), .val (.int (own_t (p2 &&& (3 : Int32)))), .val (.int (p1 &&& (7 : Int32))), .unset, .unset] [(.int (p3 &&& (7 : Int32))), (.int (own_t (p2 &&& (3 : Int32))))])) _
        refine XS.iconst X36.here hx rfl (hb hby at_112) ?_
        show Steps p.tables e below (T36.setTop (mkF m 113 #[.val (.int p1), .val (.int p2), .val (.int p3), .val (.ref b2), .val (.ref b12), .val (.int (own_t (p2 &&& (3 : Int32)))), .val (.int (p1 &&& (7 : Int32))), .unset, .unset] [(.int (4 : Int32)), (.int (p3 &&& (7 : Int32))), (.int (own_t (p2 &&& (3 : Int32))))])) _
        refine XS.isub X36.here hx rfl (hb hby at_113) rfl ?_
        show Steps p.tables e below (T36.setTop (mkF m 114 #[.val (.int p1), .val (.int p2), .val (.int p3), .val (.ref b2), .val (.ref b12), .val (.int (own_t (p2 &&& (3 : Int32)))), .val (.int (p1 &&& (7 : Int32))), .unset, .unset] [(.int ((p3 &&& (7 : Int32)) - (4 : Int32))), (.int (own_t (p2 &&& (3 : Int32))))])) _
        refine XS.iadd X36.here hx rfl (hb hby at_114) rfl ?_
        show Steps p.tables e below (T36.setTop (mkF m 115 #[.val (.int p1), .val (.int p2), .val (.int p3), .val (.ref b2), .val (.ref b12), .val (.int (own_t (p2 &&& (3 : Int32)))), .val (.int (p1 &&& (7 : Int32))), .unset, .unset] [(.int ((own_t (p2 &&& (3 : Int32))) + ((p3 &&& (7 : Int32)) - (4 : Int32))))])) _
        refine XS.istore X36.here hx rfl (hb hby at_115) rfl (l' := #[.val (.int p1), .val (.int p2), .val (.int p3), .val (.ref b2), .val (.ref b12), .val (.int (own_t (p2 &&& (3 : Int32)))), .val (.int (p1 &&& (7 : Int32))), .val (.int ((own_t (p2 &&& (3 : Int32))) + ((p3 &&& (7 : Int32)) - (4 : Int32)))), .unset]) rfl ?_
        show Steps p.tables e below (T36.setTop (mkF m 117 #[.val (.int p1), .val (.int p2), .val (.int p3), .val (.ref b2), .val (.ref b12), .val (.int (own_t (p2 &&& (3 : Int32)))), .val (.int (p1 &&& (7 : Int32))), .val (.int ((own_t (p2 &&& (3 : Int32))) + ((p3 &&& (7 : Int32)) - (4 : Int32)))), .unset] [])) _
        refine XS.goto X36.here hx rfl (pc0 := 117) (pc' := 159) rfl (hb hby at_117) (by decide) (by decide) ?_
        exact kt)
      have k61 : ∀ t, Steps p.tables e below (T36.setTop (mkF m 189 #[.val (.int p1), .val (.int p2), .val (.int p3), .val (.ref b2), .val (.ref b12), .val (.int (own_t (p2 &&& (3 : Int32)))), .val (.int (p1 &&& (7 : Int32))), .val (.int ((own_t (p2 &&& (3 : Int32))) + ((p3 &&& (7 : Int32)) - (4 : Int32)))), .unset] [(.int (j0_2_S0 p1 p2 p3))])) t → Steps p.tables e below (s₁.setTop (mkF m 0 #[.val (.int p1), .val (.int p2), .val (.int p3), .unset, .unset, .unset, .unset, .unset, .unset] [])) t := by
        intro t kt
        refine k57 t ?_
        by_cases c163_62 : ((own_t (p2 &&& (3 : Int32))) + ((p3 &&& (7 : Int32)) - (4 : Int32))) = (10 : Int32)
        · rw [show j0_2_S0 p1 p2 p3 = (1 : Int32) from by unfold j0_2_S0; rw [if_pos c163_62]] at kt
          show Steps p.tables e below (T36.setTop (mkF m 159 #[.val (.int p1), .val (.int p2), .val (.int p3), .val (.ref b2), .val (.ref b12), .val (.int (own_t (p2 &&& (3 : Int32)))), .val (.int (p1 &&& (7 : Int32))), .val (.int ((own_t (p2 &&& (3 : Int32))) + ((p3 &&& (7 : Int32)) - (4 : Int32)))), .unset] [])) _
          refine XS.iload X36.here hx rfl (hb hby at_159) rfl ?_
          show Steps p.tables e below (T36.setTop (mkF m 161 #[.val (.int p1), .val (.int p2), .val (.int p3), .val (.ref b2), .val (.ref b12), .val (.int (own_t (p2 &&& (3 : Int32)))), .val (.int (p1 &&& (7 : Int32))), .val (.int ((own_t (p2 &&& (3 : Int32))) + ((p3 &&& (7 : Int32)) - (4 : Int32)))), .unset] [(.int ((own_t (p2 &&& (3 : Int32))) + ((p3 &&& (7 : Int32)) - (4 : Int32))))])) _
          refine XS.bipush X36.here hx rfl (hb hby at_161) ?_
          show Steps p.tables e below (T36.setTop (mkF m 163 #[.val (.int p1), .val (.int p2), .val (.int p3), .val (.ref b2), .val (.ref b12), .val (.int (own_t (p2 &&& (3 : Int32)))), .val (.int (p1 &&& (7 : Int32))), .val (.int ((own_t (p2 &&& (3 : Int32))) + ((p3 &&& (7 : Int32)) - (4 : Int32)))), .unset] [(.int (10 : Int32)), (.int ((own_t (p2 &&& (3 : Int32))) + ((p3 &&& (7 : Int32)) - (4 : Int32))))])) _
          refine XS.icmpYes X36.here hx rfl (pc0 := 163) (pc' := 184) rfl (hb hby at_163) rfl (teq c163_62).1 (by decide) (by decide) ?_
          show Steps p.tables e below (T36.setTop (mkF m 184 #[.val (.int p1), .val (.int p2), .val (.int p3), .val (.ref b2), .val (.ref b12), .val (.int (own_t (p2 &&& (3 : Int32)))), .val (.int (p1 &&& (7 : Int32))), .val (.int ((own_t (p2 &&& (3 : Int32))) + ((p3 &&& (7 : Int32)) - (4 : Int32)))), .unset] [])) _
          refine XS.iconst X36.here hx rfl (hb hby at_184) ?_
          show Steps p.tables e below (T36.setTop (mkF m 185 #[.val (.int p1), .val (.int p2), .val (.int p3), .val (.ref b2), .val (.ref b12), .val (.int (own_t (p2 &&& (3 : Int32)))), .val (.int (p1 &&& (7 : Int32))), .val (.int ((own_t (p2 &&& (3 : Int32))) + ((p3 &&& (7 : Int32)) - (4 : Int32)))), .unset] [(.int (1 : Int32))])) _
          refine XS.goto X36.here hx rfl (pc0 := 185) (pc' := 189) rfl (hb hby at_185) (by decide) (by decide) ?_
          exact kt
        · by_cases c170_63 : ((own_t (p2 &&& (3 : Int32))) + ((p3 &&& (7 : Int32)) - (4 : Int32))) = (13 : Int32)
          · rw [show j0_2_S0 p1 p2 p3 = (1 : Int32) from by unfold j0_2_S0; rw [if_neg c163_62, if_pos c170_63]] at kt
            show Steps p.tables e below (T36.setTop (mkF m 159 #[.val (.int p1), .val (.int p2), .val (.int p3), .val (.ref b2), .val (.ref b12), .val (.int (own_t (p2 &&& (3 : Int32)))), .val (.int (p1 &&& (7 : Int32))), .val (.int ((own_t (p2 &&& (3 : Int32))) + ((p3 &&& (7 : Int32)) - (4 : Int32)))), .unset] [])) _
            refine XS.iload X36.here hx rfl (hb hby at_159) rfl ?_
            show Steps p.tables e below (T36.setTop (mkF m 161 #[.val (.int p1), .val (.int p2), .val (.int p3), .val (.ref b2), .val (.ref b12), .val (.int (own_t (p2 &&& (3 : Int32)))), .val (.int (p1 &&& (7 : Int32))), .val (.int ((own_t (p2 &&& (3 : Int32))) + ((p3 &&& (7 : Int32)) - (4 : Int32)))), .unset] [(.int ((own_t (p2 &&& (3 : Int32))) + ((p3 &&& (7 : Int32)) - (4 : Int32))))])) _
            refine XS.bipush X36.here hx rfl (hb hby at_161) ?_
            show Steps p.tables e below (T36.setTop (mkF m 163 #[.val (.int p1), .val (.int p2), .val (.int p3), .val (.ref b2), .val (.ref b12), .val (.int (own_t (p2 &&& (3 : Int32)))), .val (.int (p1 &&& (7 : Int32))), .val (.int ((own_t (p2 &&& (3 : Int32))) + ((p3 &&& (7 : Int32)) - (4 : Int32)))), .unset] [(.int (10 : Int32)), (.int ((own_t (p2 &&& (3 : Int32))) + ((p3 &&& (7 : Int32)) - (4 : Int32))))])) _
            refine XS.icmpNo X36.here hx rfl (hb hby at_163) rfl (feq c163_62).1 ?_
            show Steps p.tables e below (T36.setTop (mkF m 166 #[.val (.int p1), .val (.int p2), .val (.int p3), .val (.ref b2), .val (.ref b12), .val (.int (own_t (p2 &&& (3 : Int32)))), .val (.int (p1 &&& (7 : Int32))), .val (.int ((own_t (p2 &&& (3 : Int32))) + ((p3 &&& (7 : Int32)) - (4 : Int32)))), .unset] [])) _
            refine XS.iload X36.here hx rfl (hb hby at_166) rfl ?_
            show Steps p.tables e below (T36.setTop (mkF m 168 #[.val (.int p1), .val (.int p2), .val (.int p3), .val (.ref b2), .val (.ref b12), .val (.int (own_t (p2 &&& (3 : Int32)))), .val (.int (p1 &&& (7 : Int32))), .val (.int ((own_t (p2 &&& (3 : Int32))) + ((p3 &&& (7 : Int32)) - (4 : Int32)))), .unset] [(.int ((own_t (p2 &&& (3 : Int32))) + ((p3 &&& (7 : Int32)) - (4 : Int32))))])) _
            refine XS.bipush X36.here hx rfl (hb hby at_168) ?_
            show Steps p.tables e below (T36.setTop (mkF m 170 #[.val (.int p1), .val (.int p2), .val (.int p3), .val (.ref b2), .val (.ref b12), .val (.int (own_t (p2 &&& (3 : Int32)))), .val (.int (p1 &&& (7 : Int32))), .val (.int ((own_t (p2 &&& (3 : Int32))) + ((p3 &&& (7 : Int32)) - (4 : Int32)))), .unset] [(.int (13 : Int32)), (.int ((own_t (p2 &&& (3 : Int32))) + ((p3 &&& (7 : Int32)) - (4 : Int32))))])) _
            refine XS.icmpYes X36.here hx rfl (pc0 := 170) (pc' := 184) rfl (hb hby at_170) rfl (teq c170_63).1 (by decide) (by decide) ?_
            show Steps p.tables e below (T36.setTop (mkF m 184 #[.val (.int p1), .val (.int p2), .val (.int p3), .val (.ref b2), .val (.ref b12), .val (.int (own_t (p2 &&& (3 : Int32)))), .val (.int (p1 &&& (7 : Int32))), .val (.int ((own_t (p2 &&& (3 : Int32))) + ((p3 &&& (7 : Int32)) - (4 : Int32)))), .unset] [])) _
            refine XS.iconst X36.here hx rfl (hb hby at_184) ?_
            show Steps p.tables e below (T36.setTop (mkF m 185 #[.val (.int p1), .val (.int p2), .val (.int p3), .val (.ref b2), .val (.ref b12), .val (.int (own_t (p2 &&& (3 : Int32)))), .val (.int (p1 &&& (7 : Int32))), .val (.int ((own_t (p2 &&& (3 : Int32))) + ((p3 &&& (7 : Int32)) - (4 : Int32)))), .unset] [(.int (1 : Int32))])) _
            refine XS.goto X36.here hx rfl (pc0 := 185) (pc' := 189) rfl (hb hby at_185) (by decide) (by decide) ?_
            exact kt
          · by_cases c181_64 : (((own_t (p2 &&& (3 : Int32))) + ((p3 &&& (7 : Int32)) - (4 : Int32))) &&& (-2 : Int32)) = (8232 : Int32)
            · rw [show j0_2_S0 p1 p2 p3 = (1 : Int32) from by unfold j0_2_S0; rw [if_neg c163_62, if_neg c170_63, if_pos c181_64]] at kt
              show Steps p.tables e below (T36.setTop (mkF m 159 #[.val (.int p1), .val (.int p2), .val (.int p3), .val (.ref b2), .val (.ref b12), .val (.int (own_t (p2 &&& (3 : Int32)))), .val (.int (p1 &&& (7 : Int32))), .val (.int ((own_t (p2 &&& (3 : Int32))) + ((p3 &&& (7 : Int32)) - (4 : Int32)))), .unset] [])) _
              refine XS.iload X36.here hx rfl (hb hby at_159) rfl ?_
              show Steps p.tables e below (T36.setTop (mkF m 161 #[.val (.int p1), .val (.int p2), .val (.int p3), .val (.ref b2), .val (.ref b12), .val (.int (own_t (p2 &&& (3 : Int32)))), .val (.int (p1 &&& (7 : Int32))), .val (.int ((own_t (p2 &&& (3 : Int32))) + ((p3 &&& (7 : Int32)) - (4 : Int32)))), .unset] [(.int ((own_t (p2 &&& (3 : Int32))) + ((p3 &&& (7 : Int32)) - (4 : Int32))))])) _
              refine XS.bipush X36.here hx rfl (hb hby at_161) ?_
              show Steps p.tables e below (T36.setTop (mkF m 163 #[.val (.int p1), .val (.int p2), .val (.int p3), .val (.ref b2), .val (.ref b12), .val (.int (own_t (p2 &&& (3 : Int32)))), .val (.int (p1 &&& (7 : Int32))), .val (.int ((own_t (p2 &&& (3 : Int32))) + ((p3 &&& (7 : Int32)) - (4 : Int32)))), .unset] [(.int (10 : Int32)), (.int ((own_t (p2 &&& (3 : Int32))) + ((p3 &&& (7 : Int32)) - (4 : Int32))))])) _
              refine XS.icmpNo X36.here hx rfl (hb hby at_163) rfl (feq c163_62).1 ?_
              show Steps p.tables e below (T36.setTop (mkF m 166 #[.val (.int p1), .val (.int p2), .val (.int p3), .val (.ref b2), .val (.ref b12), .val (.int (own_t (p2 &&& (3 : Int32)))), .val (.int (p1 &&& (7 : Int32))), .val (.int ((own_t (p2 &&& (3 : Int32))) + ((p3 &&& (7 : Int32)) - (4 : Int32)))), .unset] [])) _
              refine XS.iload X36.here hx rfl (hb hby at_166) rfl ?_
              show Steps p.tables e below (T36.setTop (mkF m 168 #[.val (.int p1), .val (.int p2), .val (.int p3), .val (.ref b2), .val (.ref b12), .val (.int (own_t (p2 &&& (3 : Int32)))), .val (.int (p1 &&& (7 : Int32))), .val (.int ((own_t (p2 &&& (3 : Int32))) + ((p3 &&& (7 : Int32)) - (4 : Int32)))), .unset] [(.int ((own_t (p2 &&& (3 : Int32))) + ((p3 &&& (7 : Int32)) - (4 : Int32))))])) _
              refine XS.bipush X36.here hx rfl (hb hby at_168) ?_
              show Steps p.tables e below (T36.setTop (mkF m 170 #[.val (.int p1), .val (.int p2), .val (.int p3), .val (.ref b2), .val (.ref b12), .val (.int (own_t (p2 &&& (3 : Int32)))), .val (.int (p1 &&& (7 : Int32))), .val (.int ((own_t (p2 &&& (3 : Int32))) + ((p3 &&& (7 : Int32)) - (4 : Int32)))), .unset] [(.int (13 : Int32)), (.int ((own_t (p2 &&& (3 : Int32))) + ((p3 &&& (7 : Int32)) - (4 : Int32))))])) _
              refine XS.icmpNo X36.here hx rfl (hb hby at_170) rfl (feq c170_63).1 ?_
              show Steps p.tables e below (T36.setTop (mkF m 173 #[.val (.int p1), .val (.int p2), .val (.int p3), .val (.ref b2), .val (.ref b12), .val (.int (own_t (p2 &&& (3 : Int32)))), .val (.int (p1 &&& (7 : Int32))), .val (.int ((own_t (p2 &&& (3 : Int32))) + ((p3 &&& (7 : Int32)) - (4 : Int32)))), .unset] [])) _
              refine XS.iload X36.here hx rfl (hb hby at_173) rfl ?_
              show Steps p.tables e below (T36.setTop (mkF m 175 #[.val (.int p1), .val (.int p2), .val (.int p3), .val (.ref b2), .val (.ref b12), .val (.int (own_t (p2 &&& (3 : Int32)))), .val (.int (p1 &&& (7 : Int32))), .val (.int ((own_t (p2 &&& (3 : Int32))) + ((p3 &&& (7 : Int32)) - (4 : Int32)))), .unset] [(.int ((own_t (p2 &&& (3 : Int32))) + ((p3 &&& (7 : Int32)) - (4 : Int32))))])) _
              refine XS.bipush X36.here hx rfl (hb hby at_175) ?_
              show Steps p.tables e below (T36.setTop (mkF m 177 #[.val (.int p1), .val (.int p2), .val (.int p3), .val (.ref b2), .val (.ref b12), .val (.int (own_t (p2 &&& (3 : Int32)))), .val (.int (p1 &&& (7 : Int32))), .val (.int ((own_t (p2 &&& (3 : Int32))) + ((p3 &&& (7 : Int32)) - (4 : Int32)))), .unset] [(.int (-2 : Int32)), (.int ((own_t (p2 &&& (3 : Int32))) + ((p3 &&& (7 : Int32)) - (4 : Int32))))])) _
              refine XS.iand X36.here hx rfl (hb hby at_177) rfl ?_
              show Steps p.tables e below (T36.setTop (mkF m 178 #[.val (.int p1), .val (.int p2), .val (.int p3), .val (.ref b2), .val (.ref b12), .val (.int (own_t (p2 &&& (3 : Int32)))), .val (.int (p1 &&& (7 : Int32))), .val (.int ((own_t (p2 &&& (3 : Int32))) + ((p3 &&& (7 : Int32)) - (4 : Int32)))), .unset] [(.int (((own_t (p2 &&& (3 : Int32))) + ((p3 &&& (7 : Int32)) - (4 : Int32))) &&& (-2 : Int32)))])) _
              refine XS.sipush X36.here hx rfl (hb hby at_178) ?_
              show Steps p.tables e below (T36.setTop (mkF m 181 #[.val (.int p1), .val (.int p2), .val (.int p3), .val (.ref b2), .val (.ref b12), .val (.int (own_t (p2 &&& (3 : Int32)))), .val (.int (p1 &&& (7 : Int32))), .val (.int ((own_t (p2 &&& (3 : Int32))) + ((p3 &&& (7 : Int32)) - (4 : Int32)))), .unset] [(.int (8232 : Int32)), (.int (((own_t (p2 &&& (3 : Int32))) + ((p3 &&& (7 : Int32)) - (4 : Int32))) &&& (-2 : Int32)))])) _
              refine XS.icmpNo X36.here hx rfl (hb hby at_181) rfl (teq c181_64).2 ?_
              show Steps p.tables e below (T36.setTop (mkF m 184 #[.val (.int p1), .val (.int p2), .val (.int p3), .val (.ref b2), .val (.ref b12), .val (.int (own_t (p2 &&& (3 : Int32)))), .val (.int (p1 &&& (7 : Int32))), .val (.int ((own_t (p2 &&& (3 : Int32))) + ((p3 &&& (7 : Int32)) - (4 : Int32)))), .unset] [])) _
              refine XS.iconst X36.here hx rfl (hb hby at_184) ?_
              show Steps p.tables e below (T36.setTop (mkF m 185 #[.val (.int p1), .val (.int p2), .val (.int p3), .val (.ref b2), .val (.ref b12), .val (.int (own_t (p2 &&& (3 : Int32)))), .val (.int (p1 &&& (7 : Int32))), .val (.int ((own_t (p2 &&& (3 : Int32))) + ((p3 &&& (7 : Int32)) - (4 : Int32)))), .unset] [(.int (1 : Int32))])) _
              refine XS.goto X36.here hx rfl (pc0 := 185) (pc' := 189) rfl (hb hby at_185) (by decide) (by decide) ?_
              exact kt
            · rw [show j0_2_S0 p1 p2 p3 = (0 : Int32) from by unfold j0_2_S0; rw [if_neg c163_62, if_neg c170_63, if_neg c181_64]] at kt
              show Steps p.tables e below (T36.setTop (mkF m 159 #[.val (.int p1), .val (.int p2), .val (.int p3), .val (.ref b2), .val (.ref b12), .val (.int (own_t (p2 &&& (3 : Int32)))), .val (.int (p1 &&& (7 : Int32))), .val (.int ((own_t (p2 &&& (3 : Int32))) + ((p3 &&& (7 : Int32)) - (4 : Int32)))), .unset] [])) _
              refine XS.iload X36.here hx rfl (hb hby at_159) rfl ?_
              show Steps p.tables e below (T36.setTop (mkF m 161 #[.val (.int p1), .val (.int p2), .val (.int p3), .val (.ref b2), .val (.ref b12), .val (.int (own_t (p2 &&& (3 : Int32)))), .val (.int (p1 &&& (7 : Int32))), .val (.int ((own_t (p2 &&& (3 : Int32))) + ((p3 &&& (7 : Int32)) - (4 : Int32)))), .unset] [(.int ((own_t (p2 &&& (3 : Int32))) + ((p3 &&& (7 : Int32)) - (4 : Int32))))])) _
              refine XS.bipush X36.here hx rfl (hb hby at_161) ?_
              show Steps p.tables e below (T36.setTop (mkF m 163 #[.val (.int p1), .val (.int p2), .val (.int p3), .val (.ref b2), .val (.ref b12), .val (.int (own_t (p2 &&& (3 : Int32)))), .val (.int (p1 &&& (7 : Int32))), .val (.int ((own_t (p2 &&& (3 : Int32))) + ((p3 &&& (7 : Int32)) - (4 : Int32)))), .unset] [(.int (10 : Int32)), (.int ((own_t (p2 &&& (3 : Int32))) + ((p3 &&& (7 : Int32)) - (4 : Int32))))])) _
              refine XS.icmpNo X36.here hx rfl (hb hby at_163) rfl (feq c163_62).1 ?_
              show Steps p.tables e below (T36.setTop (mkF m 166 #[.val (.int p1), .val (.int p2), .val (.int p3), .val (.ref b2), .val (.ref b12), .val (.int (own_t (p2 &&& (3 : Int32)))), .val (.int (p1 &&& (7 : Int32))), .val (.int ((own_t (p2 &&& (3 : Int32))) + ((p3 &&& (7 : Int32)) - (4 : Int32)))), .unset] [])) _
              refine XS.iload X36.here hx rfl (hb hby at_166) rfl ?_
              show Steps p.tables e below (T36.setTop (mkF m 168 #[.val (.int p1), .val (.int p2), .val (.int p3), .val (.ref b2), .val (.ref b12), .val (.int (own_t (p2 &&& (3 : Int32)))), .val (.int (p1 &&& (7 : Int32))), .val (.int ((own_t (p2 &&& (3 : Int32))) + ((p3 &&& (7 : Int32)) - (4 : Int32)))), .unset] [(.int ((own_t (p2 &&& (3 : Int32))) + ((p3 &&& (7 : Int32)) - (4 : Int32))))])) _
              refine XS.bipush X36.here hx rfl (hb hby at_168) ?_
              show Steps p.tables e below (T36.setTop (mkF m 170 #[.val (.int p1), .val (.int p2), .val (.int p3), .val (.ref b2), .val (.ref b12), .val (.int (own_t (p2 &&& (3 : Int32)))), .val (.int (p1 &&& (7 : Int32))), .val (.int ((own_t (p2 &&& (3 : Int32))) + ((p3 &&& (7 : Int32)) - (4 : Int32)))), .unset] [(.int (13 : Int32)), (.int ((own_t (p2 &&& (3 : Int32))) + ((p3 &&& (7 : Int32)) - (4 : Int32))))])) _
              refine XS.icmpNo X36.here hx rfl (hb hby at_170) rfl (feq c170_63).1 ?_
              show Steps p.tables e below (T36.setTop (mkF m 173 #[.val (.int p1), .val (.int p2), .val (.int p3), .val (.ref b2), .val (.ref b12), .val (.int (own_t (p2 &&& (3 : Int32)))), .val (.int (p1 &&& (7 : Int32))), .val (.int ((own_t (p2 &&& (3 : Int32))) + ((p3 &&& (7 : Int32)) - (4 : Int32)))), .unset] [])) _
              refine XS.iload X36.here hx rfl (hb hby at_173) rfl ?_
              show Steps p.tables e below (T36.setTop (mkF m 175 #[.val (.int p1), .val (.int p2), .val (.int p3), .val (.ref b2), .val (.ref b12), .val (.int (own_t (p2 &&& (3 : Int32)))), .val (.int (p1 &&& (7 : Int32))), .val (.int ((own_t (p2 &&& (3 : Int32))) + ((p3 &&& (7 : Int32)) - (4 : Int32)))), .unset] [(.int ((own_t (p2 &&& (3 : Int32))) + ((p3 &&& (7 : Int32)) - (4 : Int32))))])) _
              refine XS.bipush X36.here hx rfl (hb hby at_175) ?_
              show Steps p.tables e below (T36.setTop (mkF m 177 #[.val (.int p1), .val (.int p2), .val (.int p3), .val (.ref b2), .val (.ref b12), .val (.int (own_t (p2 &&& (3 : Int32)))), .val (.int (p1 &&& (7 : Int32))), .val (.int ((own_t (p2 &&& (3 : Int32))) + ((p3 &&& (7 : Int32)) - (4 : Int32)))), .unset] [(.int (-2 : Int32)), (.int ((own_t (p2 &&& (3 : Int32))) + ((p3 &&& (7 : Int32)) - (4 : Int32))))])) _
              refine XS.iand X36.here hx rfl (hb hby at_177) rfl ?_
              show Steps p.tables e below (T36.setTop (mkF m 178 #[.val (.int p1), .val (.int p2), .val (.int p3), .val (.ref b2), .val (.ref b12), .val (.int (own_t (p2 &&& (3 : Int32)))), .val (.int (p1 &&& (7 : Int32))), .val (.int ((own_t (p2 &&& (3 : Int32))) + ((p3 &&& (7 : Int32)) - (4 : Int32)))), .unset] [(.int (((own_t (p2 &&& (3 : Int32))) + ((p3 &&& (7 : Int32)) - (4 : Int32))) &&& (-2 : Int32)))])) _
              refine XS.sipush X36.here hx rfl (hb hby at_178) ?_
              show Steps p.tables e below (T36.setTop (mkF m 181 #[.val (.int p1), .val (.int p2), .val (.int p3), .val (.ref b2), .val (.ref b12), .val (.int (own_t (p2 &&& (3 : Int32)))), .val (.int (p1 &&& (7 : Int32))), .val (.int ((own_t (p2 &&& (3 : Int32))) + ((p3 &&& (7 : Int32)) - (4 : Int32)))), .unset] [(.int (8232 : Int32)), (.int (((own_t (p2 &&& (3 : Int32))) + ((p3 &&& (7 : Int32)) - (4 : Int32))) &&& (-2 : Int32)))])) _
              refine XS.icmpYes X36.here hx rfl (pc0 := 181) (pc' := 188) rfl (hb hby at_181) rfl (feq c181_64).2 (by decide) (by decide) ?_
              show Steps p.tables e below (T36.setTop (mkF m 188 #[.val (.int p1), .val (.int p2), .val (.int p3), .val (.ref b2), .val (.ref b12), .val (.int (own_t (p2 &&& (3 : Int32)))), .val (.int (p1 &&& (7 : Int32))), .val (.int ((own_t (p2 &&& (3 : Int32))) + ((p3 &&& (7 : Int32)) - (4 : Int32)))), .unset] [])) _
              refine XS.iconst X36.here hx rfl (hb hby at_188) ?_
              exact kt
      have k65 : ∀ t, Steps p.tables e below (T36.setTop (mkF m 193 #[.val (.int p1), .val (.int p2), .val (.int p3), .val (.ref b2), .val (.ref b12), .val (.int (own_t (p2 &&& (3 : Int32)))), .val (.int (p1 &&& (7 : Int32))), .val (.int ((own_t (p2 &&& (3 : Int32))) + ((p3 &&& (7 : Int32)) - (4 : Int32)))), .val (.int (j0_2_S0 p1 p2 p3))] [(.int ((own_t (p2 &&& (3 : Int32))) + ((p3 &&& (7 : Int32)) - (4 : Int32))))])) t → Steps p.tables e below (s₁.setTop (mkF m 0 #[.val (.int p1), .val (.int p2), .val (.int p3), .unset, .unset, .unset, .unset, .unset, .unset] [])) t := fun t kt => k61 t (by
        show Steps p.tables e below (T36.setTop (mkF m 189 #[.val (.int p1), .val (.int p2), .val (.int p3), .val (.ref b2), .val (.ref b12), .val (.int (own_t (p2 &&& (3 : Int32)))), .val (.int (p1 &&& (7 : Int32))), .val (.int ((own_t (p2 &&& (3 : Int32))) + ((p3 &&& (7 : Int32)) - (4 : Int32)))), .unset] [(.int (j0_2_S0 p1 p2 p3))])) _
        refine XS.istore X36.here hx rfl (hb hby at_189) rfl (l' := #[.val (.int p1), .val (.int p2), .val (.int p3), .val (.ref b2), .val (.ref b12), .val (.int (own_t (p2 &&& (3 : Int32)))), .val (.int (p1 &&& (7 : Int32))), .val (.int ((own_t (p2 &&& (3 : Int32))) + ((p3 &&& (7 : Int32)) - (4 : Int32)))), .val (.int (j0_2_S0 p1 p2 p3))]) rfl ?_
        show Steps p.tables e below (T36.setTop (mkF m 191 #[.val (.int p1), .val (.int p2), .val (.int p3), .val (.ref b2), .val (.ref b12), .val (.int (own_t (p2 &&& (3 : Int32)))), .val (.int (p1 &&& (7 : Int32))), .val (.int ((own_t (p2 &&& (3 : Int32))) + ((p3 &&& (7 : Int32)) - (4 : Int32)))), .val (.int (j0_2_S0 p1 p2 p3))] [])) _
        refine XS.iload X36.here hx rfl (hb hby at_191) rfl ?_
        exact kt)
      obtain ⟨_, _, ⟨T66, L66, k66', n66⟩, -, X66, ⟨Lc66, hQ66, l66, y66, z66⟩, st66⟩ := Jvm.LawKit.callS X36 hx (y := (⟨"com/example/sayable/sayable/ScriptLexer", "isLineTerminator", "(I)Z"⟩ : MethodName)) hown (mvT hZ (hw _ (List.mem_of_getElem? (i := 1) rfl))) (mvT hZ (hw _ (List.mem_of_getElem? (i := 2) rfl))) (mvT hZ (hw _ (List.mem_of_getElem? (i := 3) rfl))) (mvT hZ (hw _ (List.mem_of_getElem? (i := 4) rfl))) (by decide) (backOf (W := 0) (rm1 l Z a0 hw [] ((own_t (p2 &&& (3 : Int32))) + ((p3 &&& (7 : Int32)) - (4 : Int32))) h36 n0 Z36) hZ (hw _ (List.mem_of_getElem? (i := 4) rfl)) (hw _ (List.mem_of_getElem? (i := 3) rfl)) (by decide) (by decide)) (g := (mkF m 193 #[.val (.int p1), .val (.int p2), .val (.int p3), .val (.ref b2), .val (.ref b12), .val (.int (own_t (p2 &&& (3 : Int32)))), .val (.int (p1 &&& (7 : Int32))), .val (.int ((own_t (p2 &&& (3 : Int32))) + ((p3 &&& (7 : Int32)) - (4 : Int32)))), .val (.int (j0_2_S0 p1 p2 p3))] [(.int ((own_t (p2 &&& (3 : Int32))) + ((p3 &&& (7 : Int32)) - (4 : Int32))))])) rfl (by rw [hml]; rfl) (argsL := [(.int ((own_t (p2 &&& (3 : Int32))) + ((p3 &&& (7 : Int32)) - (4 : Int32))))]) (rest := []) (lenOf pd0_0 rfl) rfl (by show 2 * 0 + _ ≤ _; exact Nat.le_of_eq rfl) (hb hby at_193) (fun _ _ => ⟨rfl, e36, (by decide : 2 + 0 ≤ _), (by decide : 12 + 0 ≤ _)⟩)
      dsimp only [Pt.U, Pt.locs, Pt.cells, Pt.slots] at X66 l66 y66 z66 st66 hQ66
      subst l66 y66 z66
      obtain ⟨rfl, N66q, hh66⟩ := hQ66
      have N66 := Fr.app N36 N66q
      have k68 : ∀ t, Steps p.tables e below (T66.setTop (mkF m 198 #[.val (.int p1), .val (.int p2), .val (.int p3), .val (.ref b2), .val (.ref b12), .val (.int (own_t (p2 &&& (3 : Int32)))), .val (.int (p1 &&& (7 : Int32))), .val (.int ((own_t (p2 &&& (3 : Int32))) + ((p3 &&& (7 : Int32)) - (4 : Int32)))), .val (.int (j0_2_S0 p1 p2 p3))] [(.int (j0_2_S0 p1 p2 p3)), (.int (sp1 ((own_t (p2 &&& (3 : Int32))) + ((p3 &&& (7 : Int32)) - (4 : Int32)))))])) t → Steps p.tables e below (s₁.setTop (mkF m 0 #[.val (.int p1), .val (.int p2), .val (.int p3), .unset, .unset, .unset, .unset, .unset, .unset] [])) t := fun t kt => k65 t (by
        show Steps p.tables e below (T36.setTop (mkF m 193 #[.val (.int p1), .val (.int p2), .val (.int p3), .val (.ref b2), .val (.ref b12), .val (.int (own_t (p2 &&& (3 : Int32)))), .val (.int (p1 &&& (7 : Int32))), .val (.int ((own_t (p2 &&& (3 : Int32))) + ((p3 &&& (7 : Int32)) - (4 : Int32)))), .val (.int (j0_2_S0 p1 p2 p3))] [(.int ((own_t (p2 &&& (3 : Int32))) + ((p3 &&& (7 : Int32)) - (4 : Int32))))])) _
        refine st66 _ ?_
        show Steps p.tables e below (T66.setTop (mkF m 196 #[.val (.int p1), .val (.int p2), .val (.int p3), .val (.ref b2), .val (.ref b12), .val (.int (own_t (p2 &&& (3 : Int32)))), .val (.int (p1 &&& (7 : Int32))), .val (.int ((own_t (p2 &&& (3 : Int32))) + ((p3 &&& (7 : Int32)) - (4 : Int32)))), .val (.int (j0_2_S0 p1 p2 p3))] [(.int (sp1 ((own_t (p2 &&& (3 : Int32))) + ((p3 &&& (7 : Int32)) - (4 : Int32)))))])) _
        refine XS.iload X66.here hx rfl (hb hby at_196) rfl ?_
        exact kt)
      by_cases c198_67 : (sp1 ((own_t (p2 &&& (3 : Int32))) + ((p3 &&& (7 : Int32)) - (4 : Int32)))) = (j0_2_S0 p1 p2 p3)
      · obtain ⟨fs, hr, hrun, hended, hW, hsame⟩ := X66.leave (v := some (.int (1 : Int32))) (fun h => by rw [Bd.returns] at h; cases h)
        refine ⟨_, _, pre0 _ (k68 _ ?_), hrun, hended, _, _, rfl, ?_, ⟨_, rfl⟩, hW, hsame.mono (by decide) (by decide)⟩
        · show Steps p.tables e below (T66.setTop (mkF m 198 #[.val (.int p1), .val (.int p2), .val (.int p3), .val (.ref b2), .val (.ref b12), .val (.int (own_t (p2 &&& (3 : Int32)))), .val (.int (p1 &&& (7 : Int32))), .val (.int ((own_t (p2 &&& (3 : Int32))) + ((p3 &&& (7 : Int32)) - (4 : Int32)))), .val (.int (j0_2_S0 p1 p2 p3))] [(.int (j0_2_S0 p1 p2 p3)), (.int (sp1 ((own_t (p2 &&& (3 : Int32))) + ((p3 &&& (7 : Int32)) - (4 : Int32)))))])) _
          refine XS.icmpNo X66.here hx rfl (hb hby at_198) rfl (teq c198_67).2 ?_
          show Steps p.tables e below (T66.setTop (mkF m 201 #[.val (.int p1), .val (.int p2), .val (.int p3), .val (.ref b2), .val (.ref b12), .val (.int (own_t (p2 &&& (3 : Int32)))), .val (.int (p1 &&& (7 : Int32))), .val (.int ((own_t (p2 &&& (3 : Int32))) + ((p3 &&& (7 : Int32)) - (4 : Int32)))), .val (.int (j0_2_S0 p1 p2 p3))] [])) _
          refine XS.iconst X66.here hx rfl (hb hby at_201) ?_
          show Steps p.tables e below (T66.setTop (mkF m 202 #[.val (.int p1), .val (.int p2), .val (.int p3), .val (.ref b2), .val (.ref b12), .val (.int (own_t (p2 &&& (3 : Int32)))), .val (.int (p1 &&& (7 : Int32))), .val (.int ((own_t (p2 &&& (3 : Int32))) + ((p3 &&& (7 : Int32)) - (4 : Int32)))), .val (.int (j0_2_S0 p1 p2 p3))] [(.int (1 : Int32))])) _
          refine XS.goto X66.here hx rfl (pc0 := 202) (pc' := 206) rfl (hb hby at_202) (by decide) (by decide) ?_
          show Steps p.tables e below (T66.setTop (mkF m 206 #[.val (.int p1), .val (.int p2), .val (.int p3), .val (.ref b2), .val (.ref b12), .val (.int (own_t (p2 &&& (3 : Int32)))), .val (.int (p1 &&& (7 : Int32))), .val (.int ((own_t (p2 &&& (3 : Int32))) + ((p3 &&& (7 : Int32)) - (4 : Int32)))), .val (.int (j0_2_S0 p1 p2 p3))] [(.int (1 : Int32))])) _
          exact retN X66 hx (t := .boolean) Bd.returns (by simp) (hb hby at_206) hr
        · show Q0 Z p1 p2 p3 h0 n0 _ T66.heap _
          rw [hh66]
          have hv : sp0 p1 p2 p3 = (1 : Int32) := by unfold sp0; rw [if_neg c90_41, if_pos c103_55, if_pos c198_67]
          exact ⟨by rw [← hv, own_law p1 p2 p3], N66⟩
      · obtain ⟨fs, hr, hrun, hended, hW, hsame⟩ := X66.leave (v := some (.int (0 : Int32))) (fun h => by rw [Bd.returns] at h; cases h)
        refine ⟨_, _, pre0 _ (k68 _ ?_), hrun, hended, _, _, rfl, ?_, ⟨_, rfl⟩, hW, hsame.mono (by decide) (by decide)⟩
        · show Steps p.tables e below (T66.setTop (mkF m 198 #[.val (.int p1), .val (.int p2), .val (.int p3), .val (.ref b2), .val (.ref b12), .val (.int (own_t (p2 &&& (3 : Int32)))), .val (.int (p1 &&& (7 : Int32))), .val (.int ((own_t (p2 &&& (3 : Int32))) + ((p3 &&& (7 : Int32)) - (4 : Int32)))), .val (.int (j0_2_S0 p1 p2 p3))] [(.int (j0_2_S0 p1 p2 p3)), (.int (sp1 ((own_t (p2 &&& (3 : Int32))) + ((p3 &&& (7 : Int32)) - (4 : Int32)))))])) _
          refine XS.icmpYes X66.here hx rfl (pc0 := 198) (pc' := 205) rfl (hb hby at_198) rfl (feq c198_67).2 (by decide) (by decide) ?_
          show Steps p.tables e below (T66.setTop (mkF m 205 #[.val (.int p1), .val (.int p2), .val (.int p3), .val (.ref b2), .val (.ref b12), .val (.int (own_t (p2 &&& (3 : Int32)))), .val (.int (p1 &&& (7 : Int32))), .val (.int ((own_t (p2 &&& (3 : Int32))) + ((p3 &&& (7 : Int32)) - (4 : Int32)))), .val (.int (j0_2_S0 p1 p2 p3))] [])) _
          refine XS.iconst X66.here hx rfl (hb hby at_205) ?_
          show Steps p.tables e below (T66.setTop (mkF m 206 #[.val (.int p1), .val (.int p2), .val (.int p3), .val (.ref b2), .val (.ref b12), .val (.int (own_t (p2 &&& (3 : Int32)))), .val (.int (p1 &&& (7 : Int32))), .val (.int ((own_t (p2 &&& (3 : Int32))) + ((p3 &&& (7 : Int32)) - (4 : Int32)))), .val (.int (j0_2_S0 p1 p2 p3))] [(.int (0 : Int32))])) _
          exact retN X66 hx (t := .boolean) Bd.returns (by simp) (hb hby at_206) hr
        · show Q0 Z p1 p2 p3 h0 n0 _ T66.heap _
          rw [hh66]
          have hv : sp0 p1 p2 p3 = (0 : Int32) := by unfold sp0; rw [if_neg c90_41, if_pos c103_55, if_neg c198_67]
          exact ⟨by rw [← hv, own_law p1 p2 p3], N66⟩
    · have k70 : ∀ t, Steps p.tables e below (T36.setTop (mkF m 123 #[.val (.int p1), .val (.int p2), .val (.int p3), .val (.ref b2), .val (.ref b12), .val (.int (own_t (p2 &&& (3 : Int32)))), .val (.int (p1 &&& (7 : Int32))), .unset, .unset] [(.int (3 : Int32)), (.int (p1 &&& (7 : Int32)))])) t → Steps p.tables e below (s₁.setTop (mkF m 0 #[.val (.int p1), .val (.int p2), .val (.int p3), .unset, .unset, .unset, .unset, .unset, .unset] [])) t := fun t kt => k56 t (by
        show Steps p.tables e below (T36.setTop (mkF m 103 #[.val (.int p1), .val (.int p2), .val (.int p3), .val (.ref b2), .val (.ref b12), .val (.int (own_t (p2 &&& (3 : Int32)))), .val (.int (p1 &&& (7 : Int32))), .unset, .unset] [(.int (1 : Int32)), (.int (p1 &&& (7 : Int32)))])) _
        refine XS.icmpYes X36.here hx rfl (pc0 := 103) (pc' := 120) rfl (hb hby at_103) rfl (feq c103_55).2 (by decide) (by decide) ?_
        show Steps p.tables e below (T36.setTop (mkF m 120 #[.val (.int p1), .val (.int p2), .val (.int p3), .val (.ref b2), .val (.ref b12), .val (.int (own_t (p2 &&& (3 : Int32)))), .val (.int (p1 &&& (7 : Int32))), .unset, .unset] [])) _
        refine XS.iload X36.here hx rfl (hb hby at_120) rfl ?_
        show Steps p.tables e below (T36.setTop (mkF m 122 #[.val (.int p1), .val (.int p2), .val (.int p3), .val (.ref b2), .val (.ref b12), .val (.int (own_t (p2 &&& (3 : Int32)))), .val (.int (p1 &&& (7 : Int32))), .unset, .unset] [(.int (p1 &&& (7 : Int32)))])) _
        refine XS.iconst X36.here hx rfl (hb hby at_122) ?_
        exact kt)
      by_cases c123_69 : (p1 &&& (7 : Int32)) = (3 : Int32)
      · have k71 : ∀ t, Steps p.tables e below (T36.setTop (mkF m 132 #[.val (.int p1), .val (.int p2), .val (.int p3), .val (.ref b2), .val (.ref b12), .val (.int (own_t (p2 &&& (3 : Int32)))), .val (.int (p1 &&& (7 : Int32))), .unset, .unset] [(.int (p2 &&& (7 : Int32))), (.ref b12)])) t → Steps p.tables e below (s₁.setTop (mkF m 0 #[.val (.int p1), .val (.int p2), .val (.int p3), .unset, .unset, .unset, .unset, .unset, .unset] [])) t := fun t kt => k70 t (by
          show Steps p.tables e below (T36.setTop (mkF m 123 #[.val (.int p1), .val (.int p2), .val (.int p3), .val (.ref b2), .val (.ref b12), .val (.int (own_t (p2 &&& (3 : Int32)))), .val (.int (p1 &&& (7 : Int32))), .unset, .unset] [(.int (3 : Int32)), (.int (p1 &&& (7 : Int32)))])) _
          refine XS.icmpNo X36.here hx rfl (hb hby at_123) rfl (teq c123_69).2 ?_
          show Steps p.tables e below (T36.setTop (mkF m 126 #[.val (.int p1), .val (.int p2), .val (.int p3), .val (.ref b2), .val (.ref b12), .val (.int (own_t (p2 &&& (3 : Int32)))), .val (.int (p1 &&& (7 : Int32))), .unset, .unset] [])) _
          refine XS.aload X36.here hx rfl (hb hby at_126) rfl rfl ?_
          show Steps p.tables e below (T36.setTop (mkF m 128 #[.val (.int p1), .val (.int p2), .val (.int p3), .val (.ref b2), .val (.ref b12), .val (.int (own_t (p2 &&& (3 : Int32)))), .val (.int (p1 &&& (7 : Int32))), .unset, .unset] [(.ref b12)])) _
          refine XS.iloadN X36.here hx rfl (hb hby at_128) rfl ?_
          show Steps p.tables e below (T36.setTop (mkF m 129 #[.val (.int p1), .val (.int p2), .val (.int p3), .val (.ref b2), .val (.ref b12), .val (.int (own_t (p2 &&& (3 : Int32)))), .val (.int (p1 &&& (7 : Int32))), .unset, .unset] [(.int p2), (.ref b12)])) _
          refine XS.bipush X36.here hx rfl (hb hby at_129) ?_
          show Steps p.tables e below (T36.setTop (mkF m 131 #[.val (.int p1), .val (.int p2), .val (.int p3), .val (.ref b2), .val (.ref b12), .val (.int (own_t (p2 &&& (3 : Int32)))), .val (.int (p1 &&& (7 : Int32))), .unset, .unset] [(.int (7 : Int32)), (.int p2), (.ref b12)])) _
          refine XS.iand X36.here hx rfl (hb hby at_131) rfl ?_
          exact kt)
        obtain ⟨cl72, Ar72, q72, S72, N72', H72, G72⟩ := V36
        have hin72 : ¬ ((p2 &&& (7 : Int32)) < 0 ∨ cl72.slots.size ≤ ((p2 &&& (7 : Int32))).toNatClampNeg) := inb_of S72 (own_b7 p2)
        have hat72 : cl72.slots[((p2 &&& (7 : Int32))).toNatClampNeg]? = some (.int (own_u (p2 &&& (7 : Int32)))) := H72.at hin72 (own_a7 p2)
        have V72 : Arv Z h36 b12 k12 .int (8 : Int32) [(.int (11 : Int32)), (.int (12 : Int32)), (.int (28 : Int32)), (.int (29 : Int32)), (.int (30 : Int32)), (.int (133 : Int32)), (.int (32 : Int32)), (.int (9 : Int32))] (.int (0 : Int32)) := ⟨cl72, Ar72, q72, S72, N72', H72, G72⟩
        have k73 : ∀ t, Steps p.tables e below (T36.setTop (mkF m 133 #[.val (.int p1), .val (.int p2), .val (.int p3), .val (.ref b2), .val (.ref b12), .val (.int (own_t (p2 &&& (3 : Int32)))), .val (.int (p1 &&& (7 : Int32))), .unset, .unset] [(.int (own_u (p2 &&& (7 : Int32))))])) t → Steps p.tables e below (s₁.setTop (mkF m 0 #[.val (.int p1), .val (.int p2), .val (.int p3), .unset, .unset, .unset, .unset, .unset, .unset] [])) t := fun t kt => k71 t (by
          show Steps p.tables e below (T36.setTop (mkF m 132 #[.val (.int p1), .val (.int p2), .val (.int p3), .val (.ref b2), .val (.ref b12), .val (.int (own_t (p2 &&& (3 : Int32)))), .val (.int (p1 &&& (7 : Int32))), .unset, .unset] [(.int (p2 &&& (7 : Int32))), (.ref b12)])) _
          refine X36.iaload hx (j := (p2 &&& (7 : Int32))) (v := (.int (own_u (p2 &&& (7 : Int32))))) (by rw [e36]; exact Ar72.1) (State.isArrayOf_alike hZ.alike Ar72.2.1) Ar72.2.2 hin72 hat72 (g := (mkF m 132 #[.val (.int p1), .val (.int p2), .val (.int p3), .val (.ref b2), .val (.ref b12), .val (.int (own_t (p2 &&& (3 : Int32)))), .val (.int (p1 &&& (7 : Int32))), .unset, .unset] [(.int (p2 &&& (7 : Int32))), (.ref b12)])) rfl rfl (hb hby at_132) _ ?_
          exact kt)
        have k74 : ∀ t, Steps p.tables e below (T36.setTop (mkF m 159 #[.val (.int p1), .val (.int p2), .val (.int p3), .val (.ref b2), .val (.ref b12), .val (.int (own_t (p2 &&& (3 : Int32)))), .val (.int (p1 &&& (7 : Int32))), .val (.int (own_u (p2 &&& (7 : Int32)))), .unset] [])) t → Steps p.tables e below (s₁.setTop (mkF m 0 #[.val (.int p1), .val (.int p2), .val (.int p3), .unset, .unset, .unset, .unset, .unset, .unset] [])) t := fun t kt => k73 t (by
          show Steps p.tables e below (T36.setTop (mkF m 133 #[.val (.int p1), .val (.int p2), .val (.int p3), .val (.ref b2), .val (.ref b12), .val (.int (own_t (p2 &&& (3 : Int32)))), .val (.int (p1 &&& (7 : Int32))), .unset, .unset] [(.int (own_u (p2 &&& (7 : Int32))))])) _
          refine XS.istore X36.here hx rfl (hb hby at_133) rfl (l' := #[.val (.int p1), .val (.int p2), .val (.int p3), .val (.ref b2), .val (.ref b12), .val (.int (own_t (p2 &&& (3 : Int32)))), .val (.int (p1 &&& (7 : Int32))), .val (.int (own_u (p2 &&& (7 : Int32)))), .unset]) rfl ?_
          show Steps p.tables e below (T36.setTop (mkF m 135 #[.val (.int p1), .val (.int p2), .val (.int p3), .val (.ref b2), .val (.ref b12), .val (.int (own_t (p2 &&& (3 : Int32)))), .val (.int (p1 &&& (7 : Int32))), .val (.int (own_u (p2 &&& (7 : Int32)))), .unset] [])) _
          refine XS.goto X36.here hx rfl (pc0 := 135) (pc' := 159) rfl (hb hby at_135) (by decide) (by decide) ?_
          exact kt)
        have k78 : ∀ t, Steps p.tables e below (T36.setTop (mkF m 189 #[.val (.int p1), .val (.int p2), .val (.int p3), .val (.ref b2), .val (.ref b12), .val (.int (own_t (p2 &&& (3 : Int32)))), .val (.int (p1 &&& (7 : Int32))), .val (.int (own_u (p2 &&& (7 : Int32)))), .unset] [(.int (j0_3_S0 p1 p2 p3))])) t → Steps p.tables e below (s₁.setTop (mkF m 0 #[.val (.int p1), .val (.int p2), .val (.int p3), .unset, .unset, .unset, .unset, .unset, .unset] [])) t := by
          intro t kt
          refine k74 t ?_
          by_cases c163_79 : (own_u (p2 &&& (7 : Int32))) = (10 : Int32)
          · rw [show j0_3_S0 p1 p2 p3 = (1 : Int32) from by unfold j0_3_S0; rw [if_pos c163_79]] at kt
            show Steps p.tables e below (T36.setTop (mkF m 159 #[.val (.int p1), .val (.int p2), .val (.int p3), .val (.ref b2), .val (.ref b12), .val (.int (own_t (p2 &&& (3 : Int32)))), .val (.int (p1 &&& (7 : Int32))), .val (.int (own_u (p2 &&& (7 : Int32)))), .unset] [])) _
            refine XS.iload X36.here hx rfl (hb hby at_159) rfl ?_
            show Steps p.tables e below (T36.setTop (mkF m 161 #[.val (.int p1), .val (.int p2), .val (.int p3), .val (.ref b2), .val (.ref b12), .val (.int (own_t (p2 &&& (3 : Int32)))), .val (.int (p1 &&& (7 : Int32))), .val (.int (own_u (p2 &&& (7 : Int32)))), .unset] [(.int (own_u (p2 &&& (7 : Int32))))])) _
            refine XS.bipush X36.here hx rfl (hb hby at_161) ?_
            show Steps p.tables e below (T36.setTop (mkF m 163 #[.val (.int p1), .val (.int p2), .val (.int p3), .val (.ref b2), .val (.ref b12), .val (.int (own_t (p2 &&& (3 : Int32)))), .val (.int (p1 &&& (7 : Int32))), .val (.int (own_u (p2 &&& (7 : Int32)))), .unset] [(.int (10 : Int32)), (.int (own_u (p2 &&& (7 : Int32))))])) _
            refine XS.icmpYes X36.here hx rfl (pc0 := 163) (pc' := 184) rfl (hb hby at_163) rfl (teq c163_79).1 (by decide) (by decide) ?_
            show Steps p.tables e below (T36.setTop (mkF m 184 #[.val (.int p1), .val (.int p2), .val (.int p3), .val (.ref b2), .val (.ref b12), .val (.int (own_t (p2 &&& (3 : Int32)))), .val (.int (p1 &&& (7 : Int32))), .val (.int (own_u (p2 &&& (7 : Int32)))), .unset] [])) _
            refine XS.iconst X36.here hx rfl (hb hby at_184) ?_
            show Steps p.tables e below (T36.setTop (mkF m 185 #[.val (.int p1), .val (.int p2), .val (.int p3), .val (.ref b2), .val (.ref b12), .val (.int (own_t (p2 &&& (3 : Int32)))), .val (.int (p1 &&& (7 : Int32))), .val (.int (own_u (p2 &&& (7 : Int32)))), .unset] [(.int (1 : Int32))])) _
            refine XS.goto X36.here hx rfl (pc0 := 185) (pc' := 189) rfl (hb hby at_185) (by decide) (by decide) ?_
            exact kt
          · by_cases c170_80 : (own_u (p2 &&& (7 : Int32))) = (13 : Int32)
            · rw [show j0_3_S0 p1 p2 p3 = (1 : Int32) from by unfold j0_3_S0; rw [if_neg c163_79, if_pos c170_80]] at kt
              show Steps p.tables e below (T36.setTop (mkF m 159 #[.val (.int p1), .val (.int p2), .val (.int p3), .val (.ref b2), .val (.ref b12), .val (.int (own_t (p2 &&& (3 : Int32)))), .val (.int (p1 &&& (7 : Int32))), .val (.int (own_u (p2 &&& (7 : Int32)))), .unset] [])) _
              refine XS.iload X36.here hx rfl (hb hby at_159) rfl ?_
              show Steps p.tables e below (T36.setTop (mkF m 161 #[.val (.int p1), .val (.int p2), .val (.int p3), .val (.ref b2), .val (.ref b12), .val (.int (own_t (p2 &&& (3 : Int32)))), .val (.int (p1 &&& (7 : Int32))), .val (.int (own_u (p2 &&& (7 : Int32)))), .unset] [(.int (own_u (p2 &&& (7 : Int32))))])) _
              refine XS.bipush X36.here hx rfl (hb hby at_161) ?_
              show Steps p.tables e below (T36.setTop (mkF m 163 #[.val (.int p1), .val (.int p2), .val (.int p3), .val (.ref b2), .val (.ref b12), .val (.int (own_t (p2 &&& (3 : Int32)))), .val (.int (p1 &&& (7 : Int32))), .val (.int (own_u (p2 &&& (7 : Int32)))), .unset] [(.int (10 : Int32)), (.int (own_u (p2 &&& (7 : Int32))))])) _
              refine XS.icmpNo X36.here hx rfl (hb hby at_163) rfl (feq c163_79).1 ?_
              show Steps p.tables e below (T36.setTop (mkF m 166 #[.val (.int p1), .val (.int p2), .val (.int p3), .val (.ref b2), .val (.ref b12), .val (.int (own_t (p2 &&& (3 : Int32)))), .val (.int (p1 &&& (7 : Int32))), .val (.int (own_u (p2 &&& (7 : Int32)))), .unset] [])) _
              refine XS.iload X36.here hx rfl (hb hby at_166) rfl ?_
              show Steps p.tables e below (T36.setTop (mkF m 168 #[.val (.int p1), .val (.int p2), .val (.int p3), .val (.ref b2), .val (.ref b12), .val (.int (own_t (p2 &&& (3 : Int32)))), .val (.int (p1 &&& (7 : Int32))), .val (.int (own_u (p2 &&& (7 : Int32)))), .unset] [(.int (own_u (p2 &&& (7 : Int32))))])) _
              refine XS.bipush X36.here hx rfl (hb hby at_168) ?_
              show Steps p.tables e below (T36.setTop (mkF m 170 #[.val (.int p1), .val (.int p2), .val (.int p3), .val (.ref b2), .val (.ref b12), .val (.int (own_t (p2 &&& (3 : Int32)))), .val (.int (p1 &&& (7 : Int32))), .val (.int (own_u (p2 &&& (7 : Int32)))), .unset] [(.int (13 : Int32)), (.int (own_u (p2 &&& (7 : Int32))))])) _
              refine XS.icmpYes X36.here hx rfl (pc0 := 170) (pc' := 184) rfl (hb hby at_170) rfl (teq c170_80).1 (by decide) (by decide) ?_
              show Steps p.tables e below (T36.setTop (mkF m 184 #[.val (.int p1), .val (.int p2), .val (.int p3), .val (.ref b2), .val (.ref b12), .val (.int (own_t (p2 &&& (3 : Int32)))), .val (.int (p1 &&& (7 : Int32))), .val (.int (own_u (p2 &&& (7 : Int32)))), .unset] [])) _
              refine XS.iconst X36.here hx rfl (hb hby at_184) ?_
              show Steps p.tables e below (T36.setTop (mkF m 185 #[.val (.int p1), .val (.int p2), .val (.int p3), .val (.ref b2), .val (.ref b12), .val (.int (own_t (p2 &&& (3 : Int32)))), .val (.int (p1 &&& (7 : Int32))), .val (.int (own_u (p2 &&& (7 : Int32)))), .unset] [(.int (1 : Int32))])) _
              refine XS.goto X36.here hx rfl (pc0 := 185) (pc' := 189) rfl (hb hby at_185) (by decide) (by decide) ?_
              exact kt
            · by_cases c181_81 : ((own_u (p2 &&& (7 : Int32))) &&& (-2 : Int32)) = (8232 : Int32)
              · rw [show j0_3_S0 p1 p2 p3 = (1 : Int32) from by unfold j0_3_S0; rw [if_neg c163_79, if_neg c170_80, if_pos c181_81]] at kt
                show Steps p.tables e below (T36.setTop (mkF m 159 #[.val (.int p1), .val (.int p2), .val (.int p3), .val (.ref b2), .val (.ref b12), .val (.int (own_t (p2 &&& (3 : Int32)))), .val (.int (p1 &&& (7 : Int32))), .val (.int (own_u (p2 &&& (7 : Int32)))), .unset] [])) _
                refine XS.iload X36.here hx rfl (hb hby at_159) rfl ?_
                show Steps p.tables e below (T36.setTop (mkF m 161 #[.val (.int p1), .val (.int p2), .val (.int p3), .val (.ref b2), .val (.ref b12), .val (.int (own_t (p2 &&& (3 : Int32)))), .val (.int (p1 &&& (7 : Int32))), .val (.int (own_u (p2 &&& (7 : Int32)))), .unset] [(.int (own_u (p2 &&& (7 : Int32))))])) _
                refine XS.bipush X36.here hx rfl (hb hby at_161) ?_
                show Steps p.tables e below (T36.setTop (mkF m 163 #[.val (.int p1), .val (.int p2), .val (.int p3), .val (.ref b2), .val (.ref b12), .val (.int (own_t (p2 &&& (3 : Int32)))), .val (.int (p1 &&& (7 : Int32))), .val (.int (own_u (p2 &&& (7 : Int32)))), .unset] [(.int (10 : Int32)), (.int (own_u (p2 &&& (7 : Int32))))])) _
                refine XS.icmpNo X36.here hx rfl (hb hby at_163) rfl (feq c163_79).1 ?_
                show Steps p.tables e below (T36.setTop (mkF m 166 #[.val (.int p1), .val (.int p2), .val (.int p3), .val (.ref b2), .val (.ref b12), .val (.int (own_t (p2 &&& (3 : Int32)))), .val (.int (p1 &&& (7 : Int32))), .val (.int (own_u (p2 &&& (7 : Int32)))), .unset] [])) _
                refine XS.iload X36.here hx rfl (hb hby at_166) rfl ?_
                show Steps p.tables e below (T36.setTop (mkF m 168 #[.val (.int p1), .val (.int p2), .val (.int p3), .val (.ref b2), .val (.ref b12), .val (.int (own_t (p2 &&& (3 : Int32)))), .val (.int (p1 &&& (7 : Int32))), .val (.int (own_u (p2 &&& (7 : Int32)))), .unset] [(.int (own_u (p2 &&& (7 : Int32))))])) _
                refine XS.bipush X36.here hx rfl (hb hby at_168) ?_
                show Steps p.tables e below (T36.setTop (mkF m 170 #[.val (.int p1), .val (.int p2), .val (.int p3), .val (.ref b2), .val (.ref b12), .val (.int (own_t (p2 &&& (3 : Int32)))), .val (.int (p1 &&& (7 : Int32))), .val (.int (own_u (p2 &&& (7 : Int32)))), .unset] [(.int (13 : Int32)), (.int (own_u (p2 &&& (7 : Int32))))])) _
                refine XS.icmpNo X36.here hx rfl (hb hby at_170) rfl (feq c170_80).1 ?_
                show Steps p.tables e below (T36.setTop (mkF m 173 #[.val (.int p1), .val (.int p2), .val (.int p3), .val (.ref b2), .val (.ref b12), .val (.int (own_t (p2 &&& (3 : Int32)))), .val (.int (p1 &&& (7 : Int32))), .val (.int (own_u (p2 &&& (7 : Int32)))), .unset] [])) _
                refine XS.iload X36.here hx rfl (hb hby at_173) rfl ?_
                show Steps p.tables e below (T36.setTop (mkF m 175 #[.val (.int p1), .val (.int p2), .val (.int p3), .val (.ref b2), .val (.ref b12), .val (.int (own_t (p2 &&& (3 : Int32)))), .val (.int (p1 &&& (7 : Int32))), .val (.int (own_u (p2 &&& (7 : Int32)))), .unset] [(.int (own_u (p2 &&& (7 : Int32))))])) _
                refine XS.bipush X36.here hx rfl (hb hby at_175) ?_
                show Steps p.tables e below (T36.setTop (mkF m 177 #[.val (.int p1), .val (.int p2), .val (.int p3), .val (.ref b2), .val (.ref b12), .val (.int (own_t (p2 &&& (3 : Int32)))), .val (.int (p1 &&& (7 : Int32))), .val (.int (own_u (p2 &&& (7 : Int32)))), .unset] [(.int (-2 : Int32)), (.int (own_u (p2 &&& (7 : Int32))))])) _
                refine XS.iand X36.here hx rfl (hb hby at_177) rfl ?_
                show Steps p.tables e below (T36.setTop (mkF m 178 #[.val (.int p1), .val (.int p2), .val (.int p3), .val (.ref b2), .val (.ref b12), .val (.int (own_t (p2 &&& (3 : Int32)))), .val (.int (p1 &&& (7 : Int32))), .val (.int (own_u (p2 &&& (7 : Int32)))), .unset] [(.int ((own_u (p2 &&& (7 : Int32))) &&& (-2 : Int32)))])) _
                refine XS.sipush X36.here hx rfl (hb hby at_178) ?_
                show Steps p.tables e below (T36.setTop (mkF m 181 #[.val (.int p1), .val (.int p2), .val (.int p3), .val (.ref b2), .val (.ref b12), .val (.int (own_t (p2 &&& (3 : Int32)))), .val (.int (p1 &&& (7 : Int32))), .val (.int (own_u (p2 &&& (7 : Int32)))), .unset] [(.int (8232 : Int32)), (.int ((own_u (p2 &&& (7 : Int32))) &&& (-2 : Int32)))])) _
                refine XS.icmpNo X36.here hx rfl (hb hby at_181) rfl (teq c181_81).2 ?_
                show Steps p.tables e below (T36.setTop (mkF m 184 #[.val (.int p1), .val (.int p2), .val (.int p3), .val (.ref b2), .val (.ref b12), .val (.int (own_t (p2 &&& (3 : Int32)))), .val (.int (p1 &&& (7 : Int32))), .val (.int (own_u (p2 &&& (7 : Int32)))), .unset] [])) _
                refine XS.iconst X36.here hx rfl (hb hby at_184) ?_
                show Steps p.tables e below (T36.setTop (mkF m 185 #[.val (.int p1), .val (.int p2), .val (.int p3), .val (.ref b2), .val (.ref b12), .val (.int (own_t (p2 &&& (3 : Int32)))), .val (.int (p1 &&& (7 : Int32))), .val (.int (own_u (p2 &&& (7 : Int32)))), .unset] [(.int (1 : Int32))])) _
                refine XS.goto X36.here hx rfl (pc0 := 185) (pc' := 189) rfl (hb hby at_185) (by decide) (by decide) ?_
                exact kt
              · rw [show j0_3_S0 p1 p2 p3 = (0 : Int32) from by unfold j0_3_S0; rw [if_neg c163_79, if_neg c170_80, if_neg c181_81]] at kt
                show Steps p.tables e below (T36.setTop (mkF m 159 #[.val (.int p1), .val (.int p2), .val (.int p3), .val (.ref b2), .val (.ref b12), .val (.int (own_t (p2 &&& (3 : Int32)))), .val (.int (p1 &&& (7 : Int32))), .val (.int (own_u (p2 &&& (7 : Int32)))), .unset] [])) _
                refine XS.iload X36.here hx rfl (hb hby at_159) rfl ?_
                show Steps p.tables e below (T36.setTop (mkF m 161 #[.val (.int p1), .val (.int p2), .val (.int p3), .val (.ref b2), .val (.ref b12), .val (.int (own_t (p2 &&& (3 : Int32)))), .val (.int (p1 &&& (7 : Int32))), .val (.int (own_u (p2 &&& (7 : Int32)))), .unset] [(.int (own_u (p2 &&& (7 : Int32))))])) _
                refine XS.bipush X36.here hx rfl (hb hby at_161) ?_
                show Steps p.tables e below (T36.setTop (mkF m 163 #[.val (.int p1), .val (.int p2), .val (.int p3), .val (.ref b2), .val (.ref b12), .val (.int (own_t (p2 &&& (3 : Int32)))), .val (.int (p1 &&& (7 : Int32))), .val (.int (own_u (p2 &&& (7 : Int32)))), .unset] [(.int (10 : Int32)), (.int (own_u (p2 &&& (7 : Int32))))])) _
                refine XS.icmpNo X36.here hx rfl (hb hby at_163) rfl (feq c163_79).1 ?_
                show Steps p.tables e below (T36.setTop (mkF m 166 #[.val (.int p1), .val (.int p2), .val (.int p3), .val (.ref b2), .val (.ref b12), .val (.int (own_t (p2 &&& (3 : Int32)))), .val (.int (p1 &&& (7 : Int32))), .val (.int (own_u (p2 &&& (7 : Int32)))), .unset] [])) _
                refine XS.iload X36.here hx rfl (hb hby at_166) rfl ?_
                show Steps p.tables e below (T36.setTop (mkF m 168 #[.val (.int p1), .val (.int p2), .val (.int p3), .val (.ref b2), .val (.ref b12), .val (.int (own_t (p2 &&& (3 : Int32)))), .val (.int (p1 &&& (7 : Int32))), .val (.int (own_u (p2 &&& (7 : Int32)))), .unset] [(.int (own_u (p2 &&& (7 : Int32))))])) _
                refine XS.bipush X36.here hx rfl (hb hby at_168) ?_
                show Steps p.tables e below (T36.setTop (mkF m 170 #[.val (.int p1), .val (.int p2), .val (.int p3), .val (.ref b2), .val (.ref b12), .val (.int (own_t (p2 &&& (3 : Int32)))), .val (.int (p1 &&& (7 : Int32))), .val (.int (own_u (p2 &&& (7 : Int32)))), .unset] [(.int (13 : Int32)), (.int (own_u (p2 &&& (7 : Int32))))])) _
                refine XS.icmpNo X36.here hx rfl (hb hby at_170) rfl (feq c170_80).1 ?_
                show Steps p.tables e below (T36.setTop (mkF m 173 #[.val (.int p1), .val (.int p2), .val (.int p3), .val (.ref b2), .val (.ref b12), .val (.int (own_t (p2 &&& (3 : Int32)))), .val (.int (p1 &&& (7 : Int32))), .val (.int (own_u (p2 &&& (7 : Int32)))), .unset] [])) _
                refine XS.iload X36.here hx rfl (hb hby at_173) rfl ?_
                show Steps p.tables e below (T36.setTop (mkF m 175 #[.val (.int p1), .val (.int p2), .val (.int p3), .val (.ref b2), .val (.ref b12), .val (.int (own_t (p2 &&& (3 : Int32)))), .val (.int (p1 &&& (7 : Int32))), .val (.int (own_u (p2 &&& (7 : Int32)))), .unset] [(.int (own_u (p2 &&& (7 : Int32))))])) _
                refine XS.bipush X36.here hx rfl (hb hby at_175) ?_
                show Steps p.tables e below (T36.setTop (mkF m 177 #[.val (.int p1), .val (.int p2), .val (.int p3), .val (.ref b2), .val (.ref b12), .val (.int (own_t (p2 &&& (3 : Int32)))), .val (.int (p1 &&& (7 : Int32))), .val (.int (own_u (p2 &&& (7 : Int32)))), .unset] [(.int (-2 : Int32)), (.int (own_u (p2 &&& (7 : Int32))))])) _
                refine XS.iand X36.here hx rfl (hb hby at_177) rfl ?_
                show Steps p.tables e below (T36.setTop (mkF m 178 #[.val (.int p1), .val (.int p2), .val (.int p3), .val (.ref b2), .val (.ref b12), .val (.int (own_t (p2 &&& (3 : Int32)))), .val (.int (p1 &&& (7 : Int32))), .val (.int (own_u (p2 &&& (7 : Int32)))), .unset] [(.int ((own_u (p2 &&& (7 : Int32))) &&& (-2 : Int32)))])) _
                refine XS.sipush X36.here hx rfl (hb hby at_178) ?_
                show Steps p.tables e below (T36.setTop (mkF m 181 #[.val (.int p1), .val (.int p2), .val (.int p3), .val (.ref b2), .val (.ref b12), .val (.int (own_t (p2 &&& (3 : Int32)))), .val (.int (p1 &&& (7 : Int32))), .val (.int (own_u (p2 &&& (7 : Int32)))), .unset] [(.int (8232 : Int32)), (.int ((own_u (p2 &&& (7 : Int32))) &&& (-2 : Int32)))])) _
                refine XS.icmpYes X36.here hx rfl (pc0 := 181) (pc' := 188) rfl (hb hby at_181) rfl (feq c181_81).2 (by decide) (by decide) ?_
                show Steps p.tables e below (T36.setTop (mkF m 188 #[.val (.int p1), .val (.int p2), .val (.int p3), .val (.ref b2), .val (.ref b12), .val (.int (own_t (p2 &&& (3 : Int32)))), .val (.int (p1 &&& (7 : Int32))), .val (.int (own_u (p2 &&& (7 : Int32)))), .unset] [])) _
                refine XS.iconst X36.here hx rfl (hb hby at_188) ?_
                exact kt
        have k82 : ∀ t, Steps p.tables e below (T36.setTop (mkF m 193 #[.val (.int p1), .val (.int p2), .val (.int p3), .val (.ref b2), .val (.ref b12), .val (.int (own_t (p2 &&& (3 : Int32)))), .val (.int (p1 &&& (7 : Int32))), .val (.int (own_u (p2 &&& (7 : Int32)))), .val (.int (j0_3_S0 p1 p2 p3))] [(.int (own_u (p2 &&& (7 : Int32))))])) t → Steps p.tables e below (s₁.setTop (mkF m 0 #[.val (.int p1), .val (.int p2), .val (.int p3), .unset, .unset, .unset, .unset, .unset, .unset] [])) t := fun t kt => k78 t (by
          show Steps p.tables e below (T36.setTop (mkF m 189 #[.val (.int p1), .val (.int p2), .val (.int p3), .val (.ref b2), .val (.ref b12), .val (.int (own_t (p2 &&& (3 : Int32)))), .val (.int (p1 &&& (7 : Int32))), .val (.int (own_u (p2 &&& (7 : Int32)))), .unset] [(.int (j0_3_S0 p1 p2 p3))])) _
          refine XS.istore X36.here hx rfl (hb hby at_189) rfl (l' := #[.val (.int p1), .val (.int p2), .val (.int p3), .val (.ref b2), .val (.ref b12), .val (.int (own_t (p2 &&& (3 : Int32)))), .val (.int (p1 &&& (7 : Int32))), .val (.int (own_u (p2 &&& (7 : Int32)))), .val (.int (j0_3_S0 p1 p2 p3))]) rfl ?_
          show Steps p.tables e below (T36.setTop (mkF m 191 #[.val (.int p1), .val (.int p2), .val (.int p3), .val (.ref b2), .val (.ref b12), .val (.int (own_t (p2 &&& (3 : Int32)))), .val (.int (p1 &&& (7 : Int32))), .val (.int (own_u (p2 &&& (7 : Int32)))), .val (.int (j0_3_S0 p1 p2 p3))] [])) _
          refine XS.iload X36.here hx rfl (hb hby at_191) rfl ?_
          exact kt)
        obtain ⟨_, _, ⟨T83, L83, k83', n83⟩, -, X83, ⟨Lc83, hQ83, l83, y83, z83⟩, st83⟩ := Jvm.LawKit.callS X36 hx (y := (⟨"com/example/sayable/sayable/ScriptLexer", "isLineTerminator", "(I)Z"⟩ : MethodName)) hown (mvT hZ (hw _ (List.mem_of_getElem? (i := 1) rfl))) (mvT hZ (hw _ (List.mem_of_getElem? (i := 2) rfl))) (mvT hZ (hw _ (List.mem_of_getElem? (i := 3) rfl))) (mvT hZ (hw _ (List.mem_of_getElem? (i := 4) rfl))) (by decide) (backOf (W := 0) (rm1 l Z a0 hw [] (own_u (p2 &&& (7 : Int32))) h36 n0 Z36) hZ (hw _ (List.mem_of_getElem? (i := 4) rfl)) (hw _ (List.mem_of_getElem? (i := 3) rfl)) (by decide) (by decide)) (g := (mkF m 193 #[.val (.int p1), .val (.int p2), .val (.int p3), .val (.ref b2), .val (.ref b12), .val (.int (own_t (p2 &&& (3 : Int32)))), .val (.int (p1 &&& (7 : Int32))), .val (.int (own_u (p2 &&& (7 : Int32)))), .val (.int (j0_3_S0 p1 p2 p3))] [(.int (own_u (p2 &&& (7 : Int32))))])) rfl (by rw [hml]; rfl) (argsL := [(.int (own_u (p2 &&& (7 : Int32))))]) (rest := []) (lenOf pd0_0 rfl) rfl (by show 2 * 0 + _ ≤ _; exact Nat.le_of_eq rfl) (hb hby at_193) (fun _ _ => ⟨rfl, e36, (by decide : 2 + 0 ≤ _), (by decide : 12 + 0 ≤ _)⟩)
        dsimp only [Pt.U, Pt.locs, Pt.cells, Pt.slots] at X83 l83 y83 z83 st83 hQ83
        subst l83 y83 z83
        obtain ⟨rfl, N83q, hh83⟩ := hQ83
        have N83 := Fr.app N36 N83q
        have k85 : ∀ t, Steps p.tables e below (T83.setTop (mkF m 198 #[.val (.int p1), .val (.int p2), .val (.int p3), .val (.ref b2), .val (.ref b12), .val (.int (own_t (p2 &&& (3 : Int32)))), .val (.int (p1 &&& (7 : Int32))), .val (.int (own_u (p2 &&& (7 : Int32)))), .val (.int (j0_3_S0 p1 p2 p3))] [(.int (j0_3_S0 p1 p2 p3)), (.int (sp1 (own_u (p2 &&& (7 : Int32)))))])) t → Steps p.tables e below (s₁.setTop (mkF m 0 #[.val (.int p1), .val (.int p2), .val (.int p3), .unset, .unset, .unset, .unset, .unset, .unset] [])) t := fun t kt => k82 t (by
          show Steps p.tables e below (T36.setTop (mkF m 193 #[.val (.int p1), .val (.int p2), .val (.int p3), .val (.ref b2), .val (.ref b12), .val (.int (own_t (p2 &&& (3 : Int32)))), .val (.int (p1 &&& (7 : Int32))), .val (.int (own_u (p2 &&& (7 : Int32)))), .val (.int (j0_3_S0 p1 p2 p3))] [(.int (own_u (p2 &&& (7 : Int32))))])) _
          refine st83 _ ?_
          show Steps p.tables e below (T83.setTop (mkF m 196 #[.val (.int p1), .val (.int p2), .val (.int p3), .val (.ref b2), .val (.ref b12), .val (.int (own_t (p2 &&& (3 : Int32)))), .val (.int (p1 &&& (7 : Int32))), .val (.int (own_u (p2 &&& (7 : Int32)))), .val (.int (j0_3_S0 p1 p2 p3))] [(.int (sp1 (own_u (p2 &&& (7 : Int32)))))])) _
          refine XS.iload X83.here hx rfl (hb hby at_196) rfl ?_
          exact kt)
        by_cases c198_84 : (sp1 (own_u (p2 &&& (7 : Int32)))) = (j0_3_S0 p1 p2 p3)
        · obtain ⟨fs, hr, hrun, hended, hW, hsame⟩ := X83.leave (v := some (.int (1 : Int32))) (fun h => by rw [Bd.returns] at h; cases h)
          refine ⟨_, _, pre0 _ (k85 _ ?_), hrun, hended, _, _, rfl, ?_, ⟨_, rfl⟩, hW, hsame.mono (by decide) (by decide)⟩
          · show Steps p.tables e below (T83.setTop (mkF m 198 #[.val (.int p1), .val (.int p2), .val (.int p3), .val (.ref b2), .val (.ref b12), .val (.int (own_t (p2 &&& (3 : Int32)))), .val (.int (p1 &&& (7 : Int32))), .val (.int (own_u (p2 &&& (7 : Int32)))), .val (.int (j0_3_S0 p1 p2 p3))] [(.int (j0_3_S0 p1 p2 p3)), (.int (sp1 (own_u (p2 &&& (7 : Int32)))))])) _
            refine XS.icmpNo X83.here hx rfl (hb hby at_198) rfl (teq c198_84).2 ?_
            show Steps p.tables e below (T83.setTop (mkF m 201 #[.val (.int p1), .val (.int p2), .val (.int p3), .val (.ref b2), .val (.ref b12), .val (.int (own_t (p2 &&& (3 : Int32)))), .val (.int (p1 &&& (7 : Int32))), .val (.int (own_u (p2 &&& (7 : Int32)))), .val (.int (j0_3_S0 p1 p2 p3))] [])) _
            refine XS.iconst X83.here hx rfl (hb hby at_201) ?_
            show Steps p.tables e below (T83.setTop (mkF m 202 #[.val (.int p1), .val (.int p2), .val (.int p3), .val (.ref b2), .val (.ref b12), .val (.int (own_t (p2 &&& (3 : Int32)))), .val (.int (p1 &&& (7 : Int32))), .val (.int (own_u (p2 &&& (7 : Int32)))), .val (.int (j0_3_S0 p1 p2 p3))] [(.int (1 : Int32))])) _
            refine XS.goto X83.here hx rfl (pc0 := 202) (pc' := 206) rfl (hb hby at_202) (by decide) (by decide) ?_
            show Steps p.tables e below (T83.setTop (mkF m 206 #[.val (.int p1), .val (.int p2), .val (.int p3), .val (.ref b2), .val (.ref b12), .val (.int (own_t (p2 &&& (3 : Int32)))), .val (.int (p1 &&& (7 : Int32))), .val (.int (own_u (p2 &&& (7 : Int32)))), .val (.int (j0_3_S0 p1 p2 p3))] [(.int (1 : Int32))])) _
            exact retN X83 hx (t := .boolean) Bd.returns (by simp) (hb hby at_206) hr
          · show Q0 Z p1 p2 p3 h0 n0 _ T83.heap _
            rw [hh83]
            have hv : sp0 p1 p2 p3 = (1 : Int32) := by unfold sp0; rw [if_neg c90_41, if_neg c103_55, if_pos c123_69, if_pos c198_84]
            exact ⟨by rw [← hv, own_law p1 p2 p3], N83⟩
        · obtain ⟨fs, hr, hrun, hended, hW, hsame⟩ := X83.leave (v := some (.int (0 : Int32))) (fun h => by rw [Bd.returns] at h; cases h)
          refine ⟨_, _, pre0 _ (k85 _ ?_), hrun, hended, _, _, rfl, ?_, ⟨_, rfl⟩, hW, hsame.mono (by decide) (by decide)⟩
          · show Steps p.tables e below (T83.setTop (mkF m 198 #[.val (.int p1), .val (.int p2), .val (.int p3), .val (.ref b2), .val (.ref b12), .val (.int (own_t (p2 &&& (3 : Int32)))), .val (.int (p1 &&& (7 : Int32))), .val (.int (own_u (p2 &&& (7 : Int32)))), .val (.int (j0_3_S0 p1 p2 p3))] [(.int (j0_3_S0 p1 p2 p3)), (.int (sp1 (own_u (p2 &&& (7 : Int32)))))])) _
            refine XS.icmpYes X83.here hx rfl (pc0 := 198) (pc' := 205) rfl (hb hby at_198) rfl (feq c198_84).2 (by decide) (by decide) ?_
            show Steps p.tables e below (T83.setTop (mkF m 205 #[.val (.int p1), .val (.int p2), .val (.int p3), .val (.ref b2), .val (.ref b12), .val (.int (own_t (p2 &&& (3 : Int32)))), .val (.int (p1 &&& (7 : Int32))), .val (.int (own_u (p2 &&& (7 : Int32)))), .val (.int (j0_3_S0 p1 p2 p3))] [])) _
            refine XS.iconst X83.here hx rfl (hb hby at_205) ?_
            show Steps p.tables e below (T83.setTop (mkF m 206 #[.val (.int p1), .val (.int p2), .val (.int p3), .val (.ref b2), .val (.ref b12), .val (.int (own_t (p2 &&& (3 : Int32)))), .val (.int (p1 &&& (7 : Int32))), .val (.int (own_u (p2 &&& (7 : Int32)))), .val (.int (j0_3_S0 p1 p2 p3))] [(.int (0 : Int32))])) _
            exact retN X83 hx (t := .boolean) Bd.returns (by simp) (hb hby at_206) hr
          · show Q0 Z p1 p2 p3 h0 n0 _ T83.heap _
            rw [hh83]
            have hv : sp0 p1 p2 p3 = (0 : Int32) := by unfold sp0; rw [if_neg c90_41, if_neg c103_55, if_pos c123_69, if_neg c198_84]
            exact ⟨by rw [← hv, own_law p1 p2 p3], N83⟩
      · have k87 : ∀ t, Steps p.tables e below (T36.setTop (mkF m 141 #[.val (.int p1), .val (.int p2), .val (.int p3), .val (.ref b2), .val (.ref b12), .val (.int (own_t (p2 &&& (3 : Int32)))), .val (.int (p1 &&& (7 : Int32))), .unset, .unset] [(.int (4 : Int32)), (.int (p1 &&& (7 : Int32)))])) t → Steps p.tables e below (s₁.setTop (mkF m 0 #[.val (.int p1), .val (.int p2), .val (.int p3), .unset, .unset, .unset, .unset, .unset, .unset] [])) t := fun t kt => k70 t (by
          show Steps p.tables e below (T36.setTop (mkF m 123 #[.val (.int p1), .val (.int p2), .val (.int p3), .val (.ref b2), .val (.ref b12), .val (.int (own_t (p2 &&& (3 : Int32)))), .val (.int (p1 &&& (7 : Int32))), .unset, .unset] [(.int (3 : Int32)), (.int (p1 &&& (7 : Int32)))])) _
          refine XS.icmpYes X36.here hx rfl (pc0 := 123) (pc' := 138) rfl (hb hby at_123) rfl (feq c123_69).2 (by decide) (by decide) ?_
          show Steps p.tables e below (T36.setTop (mkF m 138 #[.val (.int p1), .val (.int p2), .val (.int p3), .val (.ref b2), .val (.ref b12), .val (.int (own_t (p2 &&& (3 : Int32)))), .val (.int (p1 &&& (7 : Int32))), .unset, .unset] [])) _
          refine XS.iload X36.here hx rfl (hb hby at_138) rfl ?_
          show Steps p.tables e below (T36.setTop (mkF m 140 #[.val (.int p1), .val (.int p2), .val (.int p3), .val (.ref b2), .val (.ref b12), .val (.int (own_t (p2 &&& (3 : Int32)))), .val (.int (p1 &&& (7 : Int32))), .unset, .unset] [(.int (p1 &&& (7 : Int32)))])) _
          refine XS.iconst X36.here hx rfl (hb hby at_140) ?_
          exact kt)
        by_cases c141_86 : (p1 &&& (7 : Int32)) = (4 : Int32)
        · have k88 : ∀ t, Steps p.tables e below (T36.setTop (mkF m 159 #[.val (.int p1), .val (.int p2), .val (.int p3), .val (.ref b2), .val (.ref b12), .val (.int (own_t (p2 &&& (3 : Int32)))), .val (.int (p1 &&& (7 : Int32))), .val (.int ((own_t (p2 &&& (3 : Int32))) + (p3 <<< ((16 : Int32) &&& 31)))), .unset] [])) t → Steps p.tables e below (s₁.setTop (mkF m 0 #[.val (.int p1), .val (.int p2), .val (.int p3), .unset, .unset, .unset, .unset, .unset, .unset] [])) t := fun t kt => k87 t (by
            show Steps p.tables e below (T36.setTop (mkF m 141 #[.val (.int p1), .val (.int p2), .val (.int p3), .val (.ref b2), .val (.ref b12), .val (.int (own_t (p2 &&& (3 : Int32)))), .val (.int (p1 &&& (7 : Int32))), .unset, .unset] [(.int (4 : Int32)), (.int (p1 &&& (7 : Int32)))])) _
            refine XS.icmpNo X36.here hx rfl (hb hby at_141) rfl (teq c141_86).2 ?_
            show Steps p.tables e below (T36.setTop (mkF m 144 #[.val (.int p1), .val (.int p2), .val (.int p3), .val (.ref b2), .val (.ref b12), .val (.int (own_t (p2 &&& (3 : Int32)))), .val (.int (p1 &&& (7 : Int32))), .unset, .unset] [])) _
            refine XS.iload X36.here hx rfl (hb hby at_144) rfl ?_
            show Steps p.tables e below (T36.setTop (mkF m 146 #[.val (.int p1), .val (.int p2), .val (.int p3), .val (.ref b2), .val (.ref b12), .val (.int (own_t (p2 &&& (3 : Int32)))), .val (.int (p1 &&& (7 : Int32))), .unset, .unset] [(.int (own_t (p2 &&& (3 : Int32))))])) _
            refine XS.iloadN X36.here hx rfl (hb hby at_146) rfl ?_
            show Steps p.tables e below (T36.setTop (mkF m 147 #[.val (.int p1), .val (.int p2), .val (.int p3), .val (.ref b2), .val (.ref b12), .val (.int (own_t (p2 &&& (3 : Int32)))), .val (.int (p1 &&& (7 : Int32))), .unset, .unset] [(.int p3), (.int (own_t (p2 &&& (3 : Int32))))])) _
            refine XS.bipush X36.here hx rfl (hb hby at_147) ?_
            show Steps p.tables e below (T36.setTop (mkF m 149 #[.val (.int p1), .val (.int p2), .val (.int p3), .val (.ref b2), .val (.ref b12), .val (.int (own_t (p2 &&& (3 : Int32)))), .val (.int (p1 &&& (7 : Int32))), .unset, .unset] [(.int (16 : Int32)), (.int p3), (.int (own_t (p2 &&& (3 : Int32))))])) _
            refine XS.ishl X36.here hx rfl (hb hby at_149) rfl ?_
            show Steps p.tables e below (T36.setTop (mkF m 150 #[.val (.int p1), .val (.int p2), .val (.int p3), .val (.ref b2), .val (.ref b12), .val (.int (own_t (p2 &&& (3 : Int32)))), .val (.int (p1 &&& (7 : Int32))), .unset, .unset] [(.int (p3 <<< ((16 : Int32) &&& 31))), (.int (own_t (p2 &&& (3 : Int32))))])) _
            refine XS.iadd X36.here hx rfl (hb hby at_150) rfl ?_
            show Steps p.tables e below (T36.setTop (mkF m 151 #[.val (.int p1), .val (.int p2), .val (.int p3), .val (.ref b2), .val (.ref b12), .val (.int (own_t (p2 &&& (3 : Int32)))), .val (.int (p1 &&& (7 : Int32))), .unset, .unset] [(.int ((own_t (p2 &&& (3 : Int32))) + (p3 <<< ((16 : Int32) &&& 31))))])) _
            refine XS.istore X36.here hx rfl (hb hby at_151) rfl (l' := #[.val (.int p1), .val (.int p2), .val (.int p3), .val (.ref b2), .val (.ref b12), .val (.int (own_t (p2 &&& (3 : Int32)))), .val (.int (p1 &&& (7 : Int32))), .val (.int ((own_t (p2 &&& (3 : Int32))) + (p3 <<< ((16 : Int32) &&& 31)))), .unset]) rfl ?_
            show Steps p.tables e below (T36.setTop (mkF m 153 #[.val (.int p1), .val (.int p2), .val (.int p3), .val (.ref b2), .val (.ref b12), .val (.int (own_t (p2 &&& (3 : Int32)))), .val (.int (p1 &&& (7 : Int32))), .val (.int ((own_t (p2 &&& (3 : Int32))) + (p3 <<< ((16 : Int32) &&& 31)))), .unset] [])) _
            refine XS.goto X36.here hx rfl (pc0 := 153) (pc' := 159) rfl (hb hby at_153) (by decide) (by decide) ?_
            exact kt)
          have k92 : ∀ t, Steps p.tables e below (T36.setTop (mkF m 189 #[.val (.int p1), .val (.int p2), .val (.int p3), .val (.ref b2), .val (.ref b12), .val (.int (own_t (p2 &&& (3 : Int32)))), .val (.int (p1 &&& (7 : Int32))), .val (.int ((own_t (p2 &&& (3 : Int32))) + (p3 <<< ((16 : Int32) &&& 31)))), .unset] [(.int (j0_4_S0 p1 p2 p3))])) t → Steps p.tables e below (s₁.setTop (mkF m 0 #[.val (.int p1), .val (.int p2), .val (.int p3), .unset, .unset, .unset, .unset, .unset, .unset] [])) t := by
            intro t kt
            refine k88 t ?_
            by_cases c163_93 : ((own_t (p2 &&& (3 : Int32))) + (p3 <<< ((16 : Int32) &&& 31))) = (10 : Int32)
            · rw [show j0_4_S0 p1 p2 p3 = (1 : Int32) from by unfold j0_4_S0; rw [if_pos c163_93]] at kt
              show Steps p.tables e below (T36.setTop (mkF m 159 #[.val (.int p1), .val (.int p2), .val (.int p3), .val (.ref b2), .val (.ref b12), .val (.int (own_t (p2 &&& (3 : Int32)))), .val (.int (p1 &&& (7 : Int32))), .val (.int ((own_t (p2 &&& (3 : Int32))) + (p3 <<< ((16 : Int32) &&& 31)))), .unset] [])) _
              refine XS.iload X36.here hx rfl (hb hby at_159) rfl ?_
              show Steps p.tables e below (T36.setTop (mkF m 161 #[.val (.int p1), .val (.int p2), .val (.int p3), .val (.ref b2), .val (.ref b12), .val (.int (own_t (p2 &&& (3 : Int32)))), .val (.int (p1 &&& (7 : Int32))), .val (.int ((own_t (p2 &&& (3 : Int32))) + (p3 <<< ((16 : Int32) &&& 31)))), .unset] [(.int ((own_t (p2 &&& (3 : Int32))) + (p3 <<< ((16 : Int32) &&& 31))))])) _
              refine XS.bipush X36.here hx rfl (hb hby at_161) ?_
              show Steps p.tables e below (T36.setTop (mkF m 163 #[.val (.int p1), .val (.int p2), .val (.int p3), .val (.ref b2), .val (.ref b12), .val (.int (own_t (p2 &&& (3 : Int32)))), .val (.int (p1 &&& (7 : Int32))), .val (.int ((own_t (p2 &&& (3 : Int32))) + (p3 <<< ((16 : Int32) &&& 31)))), .unset] [(.int (10 : Int32)), (.int ((own_t (p2 &&& (3 : Int32))) + (p3 <<< ((16 : Int32) &&& 31))))])) _
              refine XS.icmpYes X36.here hx rfl (pc0 := 163) (pc' := 184) rfl (hb hby at_163) rfl (teq c163_93).1 (by decide) (by decide) ?_
              show Steps p.tables e below (T36.setTop (mkF m 184 #[.val (.int p1), .val (.int p2), .val (.int p3), .val (.ref b2), .val (.ref b12), .val (.int (own_t (p2 &&& (3 : Int32)))), .val (.int (p1 &&& (7 : Int32))), .val (.int ((own_t (p2 &&& (3 : Int32))) + (p3 <<< ((16 : Int32) &&& 31)))), .unset] [])) _
              refine XS.iconst X36.here hx rfl (hb hby at_184) ?_
              show Steps p.tables e below (T36.setTop (mkF m 185 #[.val (.int p1), .val (.int p2), .val (.int p3), .val (.ref b2), .val (.ref b12), .val (.int (own_t (p2 &&& (3 : Int32)))), .val (.int (p1 &&& (7 : Int32))), .val (.int ((own_t (p2 &&& (3 : Int32))) + (p3 <<< ((16 : Int32) &&& 31)))), .unset] [(.int (1 : Int32))])) _
              refine XS.goto X36.here hx rfl (pc0 := 185) (pc' := 189) rfl (hb hby at_185) (by decide) (by decide) ?_
              exact kt
            · by_cases c170_94 : ((own_t (p2 &&& (3 : Int32))) + (p3 <<< ((16 : Int32) &&& 31))) = (13 : Int32)
              · rw [show j0_4_S0 p1 p2 p3 = (1 : Int32) from by unfold j0_4_S0; rw [if_neg c163_93, if_pos c170_94]] at kt
                show Steps p.tables e below (T36.setTop (mkF m 159 #[.val (.int p1), .val (.int p2), .val (.int p3), .val (.ref b2), .val (.ref b12), .val (.int (own_t (p2 &&& (3 : Int32)))), .val (.int (p1 &&& (7 : Int32))), .val (.int ((own_t (p2 &&& (3 : Int32))) + (p3 <<< ((16 : Int32) &&& 31)))), .unset] [])) _
                refine XS.iload X36.here hx rfl (hb hby at_159) rfl ?_
                show Steps p.tables e below (T36.setTop (mkF m 161 #[.val (.int p1), .val (.int p2), .val (.int p3), .val (.ref b2), .val (.ref b12), .val (.int (own_t (p2 &&& (3 : Int32)))), .val (.int (p1 &&& (7 : Int32))), .val (.int ((own_t (p2 &&& (3 : Int32))) + (p3 <<< ((16 : Int32) &&& 31)))), .unset] [(.int ((own_t (p2 &&& (3 : Int32))) + (p3 <<< ((16 : Int32) &&& 31))))])) _
                refine XS.bipush X36.here hx rfl (hb hby at_161) ?_
                show Steps p.tables e below (T36.setTop (mkF m 163 #[.val (.int p1), .val (.int p2), .val (.int p3), .val (.ref b2), .val (.ref b12), .val (.int (own_t (p2 &&& (3 : Int32)))), .val (.int (p1 &&& (7 : Int32))), .val (.int ((own_t (p2 &&& (3 : Int32))) + (p3 <<< ((16 : Int32) &&& 31)))), .unset] [(.int (10 : Int32)), (.int ((own_t (p2 &&& (3 : Int32))) + (p3 <<< ((16 : Int32) &&& 31))))])) _
                refine XS.icmpNo X36.here hx rfl (hb hby at_163) rfl (feq c163_93).1 ?_
                show Steps p.tables e below (T36.setTop (mkF m 166 #[.val (.int p1), .val (.int p2), .val (.int p3), .val (.ref b2), .val (.ref b12), .val (.int (own_t (p2 &&& (3 : Int32)))), .val (.int (p1 &&& (7 : Int32))), .val (.int ((own_t (p2 &&& (3 : Int32))) + (p3 <<< ((16 : Int32) &&& 31)))), .unset] [])) _
                refine XS.iload X36.here hx rfl (hb hby at_166) rfl ?_
                show Steps p.tables e below (T36.setTop (mkF m 168 #[.val (.int p1), .val (.int p2), .val (.int p3), .val (.ref b2), .val (.ref b12), .val (.int (own_t (p2 &&& (3 : Int32)))), .val (.int (p1 &&& (7 : Int32))), .val (.int ((own_t (p2 &&& (3 : Int32))) + (p3 <<< ((16 : Int32) &&& 31)))), .unset] [(.int ((own_t (p2 &&& (3 : Int32))) + (p3 <<< ((16 : Int32) &&& 31))))])) _
                refine XS.bipush X36.here hx rfl (hb hby at_168) ?_
                show Steps p.tables e below (T36.setTop (mkF m 170 #[.val (.int p1), .val (.int p2), .val (.int p3), .val (.ref b2), .val (.ref b12), .val (.int (own_t (p2 &&& (3 : Int32)))), .val (.int (p1 &&& (7 : Int32))), .val (.int ((own_t (p2 &&& (3 : Int32))) + (p3 <<< ((16 : Int32) &&& 31)))), .unset] [(.int (13 : Int32)), (.int ((own_t (p2 &&& (3 : Int32))) + (p3 <<< ((16 : Int32) &&& 31))))])) _
                refine XS.icmpYes X36.here hx rfl (pc0 := 170) (pc' := 184) rfl (hb hby at_170) rfl (teq c170_94).1 (by decide) (by decide) ?_
                show Steps p.tables e below (T36.setTop (mkF m 184 #[.val (.int p1), .val (.int p2), .val (.int p3), .val (.ref b2), .val (.ref b12), .val (.int (own_t (p2 &&& (3 : Int32)))), .val (.int (p1 &&& (7 : Int32))), .val (.int ((own_t (p2 &&& (3 : Int32))) + (p3 <<< ((16 : Int32) &&& 31)))), .unset] [])) _
                refine XS.iconst X36.here hx rfl (hb hby at_184) ?_
                show Steps p.tables e below (T36.setTop (mkF m 185 #[.val (.int p1), .val (.int p2), .val (.int p3), .val (.ref b2), .val (.ref b12), .val (.int (own_t (p2 &&& (3 : Int32)))), .val (.int (p1 &&& (7 : Int32))), .val (.int ((own_t (p2 &&& (3 : Int32))) + (p3 <<< ((16 : Int32) &&& 31)))), .unset] [(.int (1 : Int32))])) _
                refine XS.goto X36.here hx rfl (pc0 := 185) (pc' := 189) rfl (hb hby at_185) (by decide) (by decide) ?_
                exact kt
              · by_cases c181_95 : (((own_t (p2 &&& (3 : Int32))) + (p3 <<< ((16 : Int32) &&& 31))) &&& (-2 : Int32)) = (8232 : Int32)
                · rw [show j0_4_S0 p1 p2 p3 = (1 : Int32) from by unfold j0_4_S0; rw [if_neg c163_93, if_neg c170_94, if_pos c181_95]] at kt
                  show Steps p.tables e below (T36.setTop (mkF m 159 #[.val (.int p1), .val (.int p2), .val (.int p3), .val (.ref b2), .val (.ref b12), .val (.int (own_t (p2 &&& (3 : Int32)))), .val (.int (p1 &&& (7 : Int32))), .val (.int ((own_t (p2 &&& (3 : Int32))) + (p3 <<< ((16 : Int32) &&& 31)))), .unset] [])) _
                  refine XS.iload X36.here hx rfl (hb hby at_159) rfl ?_
                  show Steps p.tables e below (T36.setTop (mkF m 161 #[.val (.int p1), .val (.int p2), .val (.int p3), .val (.ref b2), .val (.ref b12), .val (.int (own_t (p2 &&& (3 : Int32)))), .val (.int (p1 &&& (7 : Int32))), .val (.int ((own_t (p2 &&& (3 : Int32))) + (p3 <<< ((16 : Int32) &&& 31)))), .unset] [(.int ((own_t (p2 &&& (3 : Int32))) + (p3 <<< ((16 : Int32) &&& 31))))])) _
                  refine XS.bipush X36.here hx rfl (hb hby at_161) ?_
                  show Steps p.tables e below (T36.setTop (mkF m 163 #[.val (.int p1), .val (.int p2), .val (.int p3), .val (.ref b2), .val (.ref b12), .val (.int (own_t (p2 &&& (3 : Int32)))), .val (.int (p1 &&& (7 : Int32))), .val (.int ((own_t (p2 &&& (3 : Int32))) + (p3 <<< ((16 : Int32) &&& 31)))), .unset] [(.int (10 : Int32)), (.int ((own_t (p2 &&& (3 : Int32))) + (p3 <<< ((16 : Int32) &&& 31))))])) _
                  refine XS.icmpNo X36.here hx rfl (hb hby at_163) rfl (feq c163_93).1 ?_
                  show Steps p.tables e below (T36.setTop (mkF m 166 #[.val (.int p1), .val (.int p2), .val (.int p3), .val (.ref b2), .val (.ref b12), .val (.int (own_t (p2 &&& (3 : Int32)))), .val (.int (p1 &&& (7 : Int32))), .val (.int ((own_t (p2 &&& (3 : Int32))) + (p3 <<< ((16 : Int32) &&& 31)))), .unset] [])) _
                  refine XS.iload X36.here hx rfl (hb hby at_166) rfl ?_
                  show Steps p.tables e below (T36.setTop (mkF m 168 #[.val (.int p1), .val (.int p2), .val (.int p3), .val (.ref b2), .val (.ref b12), .val (.int (own_t (p2 &&& (3 : Int32)))), .val (.int (p1 &&& (7 : Int32))), .val (.int ((own_t (p2 &&& (3 : Int32))) + (p3 <<< ((16 : Int32) &&& 31)))), .unset] [(.int ((own_t (p2 &&& (3 : Int32))) + (p3 <<< ((16 : Int32) &&& 31))))])) _
                  refine XS.bipush X36.here hx rfl (hb hby at_168) ?_
                  show Steps p.tables e below (T36.setTop (mkF m 170 #[.val (.int p1), .val (.int p2), .val (.int p3), .val (.ref b2), .val (.ref b12), .val (.int (own_t (p2 &&& (3 : Int32)))), .val (.int (p1 &&& (7 : Int32))), .val (.int ((own_t (p2 &&& (3 : Int32))) + (p3 <<< ((16 : Int32) &&& 31)))), .unset] [(.int (13 : Int32)), (.int ((own_t (p2 &&& (3 : Int32))) + (p3 <<< ((16 : Int32) &&& 31))))])) _
                  refine XS.icmpNo X36.here hx rfl (hb hby at_170) rfl (feq c170_94).1 ?_
                  show Steps p.tables e below (T36.setTop (mkF m 173 #[.val (.int p1), .val (.int p2), .val (.int p3), .val (.ref b2), .val (.ref b12), .val (.int (own_t (p2 &&& (3 : Int32)))), .val (.int (p1 &&& (7 : Int32))), .val (.int ((own_t (p2 &&& (3 : Int32))) + (p3 <<< ((16 : Int32) &&& 31)))), .unset] [])) _
                  refine XS.iload X36.here hx rfl (hb hby at_173) rfl ?_
                  show Steps p.tables e below (T36.setTop (mkF m 175 #[.val (.int p1), .val (.int p2), .val (.int p3), .val (.ref b2), .val (.ref b12), .val (.int (own_t (p2 &&& (3 : Int32)))), .val (.int (p1 &&& (7 : Int32))), .val (.int ((own_t (p2 &&& (3 : Int32))) + (p3 <<< ((16 : Int32) &&& 31)))), .unset] [(.int ((own_t (p2 &&& (3 : Int32))) + (p3 <<< ((16 : Int32) &&& 31))))])) _
                  refine XS.bipush X36.here hx rfl (hb hby at_175) ?_
                  show Steps p.tables e below (T36.setTop (mkF m 177 #[.val (.int p1), .val (.int p2), .val (.int p3), .val (.ref b2), .val (.ref b12), .val (.int (own_t (p2 &&& (3 : Int32)))), .val (.int (p1 &&& (7 : Int32))), .val (.int ((own_t (p2 &&& (3 : Int32))) + (p3 <<< ((16 : Int32) &&& 31)))), .unset] [(.int (-2 : Int32)), (.int ((own_t (p2 &&& (3 : Int32))) + (p3 <<< ((16 : Int32) &&& 31))))])) _
                  refine XS.iand X36.here hx rfl (hb hby at_177) rfl ?_
                  show Steps p.tables e below (T36.setTop (mkF m 178 #[.val (.int p1), .val (.int p2), .val (.int p3), .val (.ref b2), .val (.ref b12), .val (.int (own_t (p2 &&& (3 : Int32)))), .val (.int (p1 &&& (7 : Int32))), .val (.int ((own_t (p2 &&& (3 : Int32))) + (p3 <<< ((16 : Int32) &&& 31)))), .unset] [(.int (((own_t (p2 &&& (3 : Int32))) + (p3 <<< ((16 : Int32) &&& 31))) &&& (-2 : Int32)))])) _
                  refine XS.sipush X36.here hx rfl (hb hby at_178) ?_
                  show Steps p.tables e below (T36.setTop (mkF m 181 #[.val (.int p1), .val (.int p2), .val (.int p3), .val (.ref b2), .val (.ref b12), .val (.int (own_t (p2 &&& (3 : Int32)))), .val (.int (p1 &&& (7 : Int32))), .val (.int ((own_t (p2 &&& (3 : Int32))) + (p3 <<< ((16 : Int32) &&& 31)))), .unset] [(.int (8232 : Int32)), (.int (((own_t (p2 &&& (3 : Int32))) + (p3 <<< ((16 : Int32) &&& 31))) &&& (-2 : Int32)))])) _
                  refine XS.icmpNo X36.here hx rfl (hb hby at_181) rfl (teq c181_95).2 ?_
                  show Steps p.tables e below (T36.setTop (mkF m 184 #[.val (.int p1), .val (.int p2), .val (.int p3), .val (.ref b2), .val (.ref b12), .val (.int (own_t (p2 &&& (3 : Int32)))), .val (.int (p1 &&& (7 : Int32))), .val (.int ((own_t (p2 &&& (3 : Int32))) + (p3 <<< ((16 : Int32) &&& 31)))), .unset] [])) _
                  refine XS.iconst X36.here hx rfl (hb hby at_184) ?_
                  show Steps p.tables e below (T36.setTop (mkF m 185 #[.val (.int p1), .val (.int p2), .val (.int p3), .val (.ref b2), .val (.ref b12), .val (.int (own_t (p2 &&& (3 : Int32)))), .val (.int (p1 &&& (7 : Int32))), .val (.int ((own_t (p2 &&& (3 : Int32))) + (p3 <<< ((16 : Int32) &&& 31)))), .unset] [(.int (1 : Int32))])) _
                  refine XS.goto X36.here hx rfl (pc0 := 185) (pc' := 189) rfl (hb hby at_185) (by decide) (by decide) ?_
                  exact kt
                · rw [show j0_4_S0 p1 p2 p3 = (0 : Int32) from by unfold j0_4_S0; rw [if_neg c163_93, if_neg c170_94, if_neg c181_95]] at kt
                  show Steps p.tables e below (T36.setTop (mkF m 159 #[.val (.int p1), .val (.int p2), .val (.int p3), .val (.ref b2), .val (.ref b12), .val (.int (own_t (p2 &&& (3 : Int32)))), .val (.int (p1 &&& (7 : Int32))), .val (.int ((own_t (p2 &&& (3 : Int32))) + (p3 <<< ((16 : Int32) &&& 31)))), .unset] [])) _
                  refine XS.iload X36.here hx rfl (hb hby at_159) rfl ?_
                  show Steps p.tables e below (T36.setTop (mkF m 161 #[.val (.int p1), .val (.int p2), .val (.int p3), .val (.ref b2), .val (.ref b12), .val (.int (own_t (p2 &&& (3 : Int32)))), .val (.int (p1 &&& (7 : Int32))), .val (.int ((own_t (p2 &&& (3 : Int32))) + (p3 <<< ((16 : Int32) &&& 31)))), .unset] [(.int ((own_t (p2 &&& (3 : Int32))) + (p3 <<< ((16 : Int32) &&& 31))))])) _
                  refine XS.bipush X36.here hx rfl (hb hby at_161) ?_
                  show Steps p.tables e below (T36.setTop (mkF m 163 #[.val (.int p1), .val (.int p2), .val (.int p3), .val (.ref b2), .val (.ref b12), .val (.int (own_t (p2 &&& (3 : Int32)))), .val (.int (p1 &&& (7 : Int32))), .val (.int ((own_t (p2 &&& (3 : Int32))) + (p3 <<< ((16 : Int32) &&& 31)))), .unset] [(.int (10 : Int32)), (.int ((own_t (p2 &&& (3 : Int32))) + (p3 <<< ((16 : Int32) &&& 31))))])) _
                  refine XS.icmpNo X36.here hx rfl (hb hby at_163) rfl (feq c163_93).1 ?_
                  show Steps p.tables e below (T36.setTop (mkF m 166 #[.val (.int p1), .val (.int p2), .val (.int p3), .val (.ref b2), .val (.ref b12), .val (.int (own_t (p2 &&& (3 : Int32)))), .val (.int (p1 &&& (7 : Int32))), .val (.int ((own_t (p2 &&& (3 : Int32))) + (p3 <<< ((16 : Int32) &&& 31)))), .unset] [])) _
                  refine XS.iload X36.here hx rfl (hb hby at_166) rfl ?_
                  show Steps p.tables e below (T36.setTop (mkF m 168 #[.val (.int p1), .val (.int p2), .val (.int p3), .val (.ref b2), .val (.ref b12), .val (.int (own_t (p2 &&& (3 : Int32)))), .val (.int (p1 &&& (7 : Int32))), .val (.int ((own_t (p2 &&& (3 : Int32))) + (p3 <<< ((16 : Int32) &&& 31)))), .unset] [(.int ((own_t (p2 &&& (3 : Int32))) + (p3 <<< ((16 : Int32) &&& 31))))])) _
                  refine XS.bipush X36.here hx rfl (hb hby at_168) ?_
                  show Steps p.tables e below (T36.setTop (mkF m 170 #[.val (.int p1), .val (.int p2), .val (.int p3), .val (.ref b2), .val (.ref b12), .val (.int (own_t (p2 &&& (3 : Int32)))), .val (.int (p1 &&& (7 : Int32))), .val (.int ((own_t (p2 &&& (3 : Int32))) + (p3 <<< ((16 : Int32) &&& 31)))), .unset] [(.int (13 : Int32)), (.int ((own_t (p2 &&& (3 : Int32))) + (p3 <<< ((16 : Int32) &&& 31))))])) _
                  refine XS.icmpNo X36.here hx rfl (hb hby at_170) rfl (feq c170_94).1 ?_
                  show Steps p.tables e below (T36.setTop (mkF m 173 #[.val (.int p1), .val (.int p2), .val (.int p3), .val (.ref b2), .val (.ref b12), .val (.int (own_t (p2 &&& (3 : Int32)))), .val (.int (p1 &&& (7 : Int32))), .val (.int ((own_t (p2 &&& (3 : Int32))) + (p3 <<< ((16 : Int32) &&& 31)))), .unset] [])) _
                  refine XS.iload X36.here hx rfl (hb hby at_173) rfl ?_
                  show Steps p.tables e below (T36.setTop (mkF m 175 #[.val (.int p1), .val (.int p2), .val (.int p3), .val (.ref b2), .val (.ref b12), .val (.int (own_t (p2 &&& (3 : Int32)))), .val (.int (p1 &&& (7 : Int32))), .val (.int ((own_t (p2 &&& (3 : Int32))) + (p3 <<< ((16 : Int32) &&& 31)))), .unset] [(.int ((own_t (p2 &&& (3 : Int32))) + (p3 <<< ((16 : Int32) &&& 31))))])) _
                  refine XS.bipush X36.here hx rfl (hb hby at_175) ?_
                  show Steps p.tables e below (T36.setTop (mkF m 177 #[.val (.int p1), .val (.int p2), .val (.int p3), .val (.ref b2), .val (.ref b12), .val (.int (own_t (p2 &&& (3 : Int32)))), .val (.int (p1 &&& (7 : Int32))), .val (.int ((own_t (p2 &&& (3 : Int32))) + (p3 <<< ((16 : Int32) &&& 31)))), .unset] [(.int (-2 : Int32)), (.int ((own_t (p2 &&& (3 : Int32))) + (p3 <<< ((16 : Int32) &&& 31))))])) _
                  refine XS.iand X36.here hx rfl (hb hby at_177) rfl ?_
                  show Steps p.tables e below (T36.setTop (mkF m 178 #[.val (.int p1), .val (.int p2), .val (.int p3), .val (.ref b2), .val (.ref b12), .val (.int (own_t (p2 &&& (3 : Int32)))), .val (.int (p1 &&& (7 : Int32))), .val (.int ((own_t (p2 &&& (3 : Int32))) + (p3 <<< ((16 : Int32) &&& 31)))), .unset] [(.int (((own_t (p2 &&& (3 : Int32))) + (p3 <<< ((16 : Int32) &&& 31))) &&& (-2 : Int32)))])) _
                  refine XS.sipush X36.here hx rfl (hb hby at_178) ?_
                  show Steps p.tables e below (T36.setTop (mkF m 181 #[.val (.int p1), .val (.int p2), .val (.int p3), .val (.ref b2), .val (.ref b12), .val (.int (own_t (p2 &&& (3 : Int32)))), .val (.int (p1 &&& (7 : Int32))), .val (.int ((own_t (p2 &&& (3 : Int32))) + (p3 <<< ((16 : Int32) &&& 31)))), .unset] [(.int (8232 : Int32)), (.int (((own_t (p2 &&& (3 : Int32))) + (p3 <<< ((16 : Int32) &&& 31))) &&& (-2 : Int32)))])) _
                  refine XS.icmpYes X36.here hx rfl (pc0 := 181) (pc' := 188) rfl (hb hby at_181) rfl (feq c181_95).2 (by decide) (by decide) ?_
                  show Steps p.tables e below (T36.setTop (mkF m 188 #[.val (.int p1), .val (.int p2), .val (.int p3), .val (.ref b2), .val (.ref b12), .val (.int (own_t (p2 &&& (3 : Int32)))), .val (.int (p1 &&& (7 : Int32))), .val (.int ((own_t (p2 &&& (3 : Int32))) + (p3 <<< ((16 : Int32) &&& 31)))), .unset] [])) _
                  refine XS.iconst X36.here hx rfl (hb hby at_188) ?_
                  exact kt
          have k96 : ∀ t, Steps p.tables e below (T36.setTop (mkF m 193 #[.val (.int p1), .val (.int p2), .val (.int p3), .val (.ref b2), .val (.ref b12), .val (.int (own_t (p2 &&& (3 : Int32)))), .val (.int (p1 &&& (7 : Int32))), .val (.int ((own_t (p2 &&& (3 : Int32))) + (p3 <<< ((16 : Int32) &&& 31)))), .val (.int (j0_4_S0 p1 p2 p3))] [(.int ((own_t (p2 &&& (3 : Int32))) + (p3 <<< ((16 : Int32) &&& 31))))])) t → Steps p.tables e below (s₁.setTop (mkF m 0 #[.val (.int p1), .val (.int p2), .val (.int p3), .unset, .unset, .unset, .unset, .unset, .unset] [])) t := fun t kt => k92 t (by
            show Steps p.tables e below (T36.setTop (mkF m 189 #[.val (.int p1), .val (.int p2), .val (.int p3), .val (.ref b2), .val (.ref b12), .val (.int (own_t (p2 &&& (3 : Int32)))), .val (.int (p1 &&& (7 : Int32))), .val (.int ((own_t (p2 &&& (3 : Int32))) + (p3 <<< ((16 : Int32) &&& 31)))), .unset] [(.int (j0_4_S0 p1 p2 p3))])) _
            refine XS.istore X36.here hx rfl (hb hby at_189) rfl (l' := #[.val (.int p1), .val (.int p2), .val (.int p3), .val (.ref b2), .val (.ref b12), .val (.int (own_t (p2 &&& (3 : Int32)))), .val (.int (p1 &&& (7 : Int32))), .val (.int ((own_t (p2 &&& (3 : Int32))) + (p3 <<< ((16 : Int32) &&& 31)))), .val (.int (j0_4_S0 p1 p2 p3))]) rfl ?_
            show Steps p.tables e below (T36.setTop (mkF m 191 #[.val (.int p1), .val (.int p2), .val (.int p3), .val (.ref b2), .val (.ref b12), .val (.int (own_t (p2 &&& (3 : Int32)))), .val (.int (p1 &&& (7 : Int32))), .val (.int ((own_t (p2 &&& (3 : Int32))) + (p3 <<< ((16 : Int32) &&& 31)))), .val (.int (j0_4_S0 p1 p2 p3))] [])) _
            refine XS.iload X36.here hx rfl (hb hby at_191) rfl ?_
            exact kt)
          obtain ⟨_, _, ⟨T97, L97, k97', n97⟩, -, X97, ⟨Lc97, hQ97, l97, y97, z97⟩, st97⟩ := Jvm.LawKit.callS X36 hx (y := (⟨"com/example/sayable/sayable/ScriptLexer", "isLineTerminator", "(I)Z"⟩ : MethodName)) hown (mvT hZ (hw _ (List.mem_of_getElem? (i := 1) rfl))) (mvT hZ (hw _ (List.mem_of_getElem? (i := 2) rfl))) (mvT hZ (hw _ (List.mem_of_getElem? (i := 3) rfl))) (mvT hZ (hw _ (List.mem_of_getElem? (i := 4) rfl))) (by decide) (backOf (W := 0) (rm1 l Z a0 hw [] ((own_t (p2 &&& (3 : Int32))) + (p3 <<< ((16 : Int32) &&& 31))) h36 n0 Z36) hZ (hw _ (List.mem_of_getElem? (i := 4) rfl)) (hw _ (List.mem_of_getElem? (i := 3) rfl)) (by decide) (by decide)) (g := (mkF m 193 #[.val (.int p1), .val (.int p2), .val (.int p3), .val (.ref b2), .val (.ref b12), .val (.int (own_t (p2 &&& (3 : Int32)))), .val (.int (p1 &&& (7 : Int32))), .val (.int ((own_t (p2 &&& (3 : Int32))) + (p3 <<< ((16 : Int32) &&& 31)))), .val (.int (j0_4_S0 p1 p2 p3))] [(.int ((own_t (p2 &&& (3 : Int32))) + (p3 <<< ((16 : Int32) &&& 31))))])) rfl (by rw [hml]; rfl) (argsL := [(.int ((own_t (p2 &&& (3 : Int32))) + (p3 <<< ((16 : Int32) &&& 31))))]) (rest := []) (lenOf pd0_0 rfl) rfl (by show 2 * 0 + _ ≤ _; exact Nat.le_of_eq rfl) (hb hby at_193) (fun _ _ => ⟨rfl, e36, (by decide : 2 + 0 ≤ _), (by decide : 12 + 0 ≤ _)⟩)
          dsimp only [Pt.U, Pt.locs, Pt.cells, Pt.slots] at X97 l97 y97 z97 st97 hQ97
          subst l97 y97 z97
          obtain ⟨rfl, N97q, hh97⟩ := hQ97
          have N97 := Fr.app N36 N97q
          have k99 : ∀ t, Steps p.tables e below (T97.setTop (mkF m 198 #[.val (.int p1), .val (.int p2), .val (.int p3), .val (.ref b2), .val (.ref b12), .val (.int (own_t (p2 &&& (3 : Int32)))), .val (.int (p1 &&& (7 : Int32))), .val (.int ((own_t (p2 &&& (3 : Int32))) + (p3 <<< ((16 : Int32) &&& 31)))), .val (.int (j0_4_S0 p1 p2 p3))] [(.int (j0_4_S0 p1 p2 p3)), (.int (sp1 ((own_t (p2 &&& (3 : Int32))) + (p3 <<< ((16 : Int32) &&& 31)))))])) t → Steps p.tables e below (s₁.setTop (mkF m 0 #[.val (.int p1), .val (.int p2), .val (.int p3), .unset, .unset, .unset, .unset, .unset, .unset] [])) t := fun t kt => k96 t (by
            show Steps p.tables e below (T36.setTop (mkF m 193 #[.val (.int p1), .val (.int p2), .val (.int p3), .val (.ref b2), .val (.ref b12), .val (.int (own_t (p2 &&& (3 : Int32)))), .val (.int (p1 &&& (7 : Int32))), .val (.int ((own_t (p2 &&& (3 : Int32))) + (p3 <<< ((16 : Int32) &&& 31)))), .val (.int (j0_4_S0 p1 p2 p3))] [(.int ((own_t (p2 &&& (3 : Int32))) + (p3 <<< ((16 : Int32) &&& 31))))])) _
            refine st97 _ ?_
            show Steps p.tables e below (T97.setTop (mkF m 196 #[.val (.int p1), .val (.int p2), .val (.int p3), .val (.ref b2), .val (.ref b12), .val (.int (own_t (p2 &&& (3 : Int32)))), .val (.int (p1 &&& (7 : Int32))), .val (.int ((own_t (p2 &&& (3 : Int32))) + (p3 <<< ((16 : Int32) &&& 31)))), .val (.int (j0_4_S0 p1 p2 p3))] [(.int (sp1 ((own_t (p2 &&& (3 : Int32))) + (p3 <<< ((16 : Int32) &&& 31)))))])) _
            refine XS.iload X97.here hx rfl (hb hby at_196) rfl ?_
            exact kt)
          by_cases c198_98 : (sp1 ((own_t (p2 &&& (3 : Int32))) + (p3 <<< ((16 : Int32) &&& 31)))) = (j0_4_S0 p1 p2 p3)
          · obtain ⟨fs, hr, hrun, hended, hW, hsame⟩ := X97.leave (v := some (.int (1 : Int32))) (fun h => by rw [Bd.returns] at h; cases h)
            refine ⟨_, _, pre0 _ (k99 _ ?_), hrun, hended, _, _, rfl, ?_, ⟨_, rfl⟩, hW, hsame.mono (by decide) (by decide)⟩
            · show Steps p.tables e below (T97.setTop (mkF m 198 #[.val (.int p1), .val (.int p2), .val (.int p3), .val (.ref b2), .val (.ref b12), .val (.int (own_t (p2 &&& (3 : Int32)))), .val (.int (p1 &&& (7 : Int32))), .val (.int ((own_t (p2 &&& (3 : Int32))) + (p3 <<< ((16 : Int32) &&& 31)))), .val (.int (j0_4_S0 p1 p2 p3))] [(.int (j0_4_S0 p1 p2 p3)), (.int (sp1 ((own_t (p2 &&& (3 : Int32))) + (p3 <<< ((16 : Int32) &&& 31)))))])) _
              refine XS.icmpNo X97.here hx rfl (hb hby at_198) rfl (teq c198_98).2 ?_
              show Steps p.tables e below (T97.setTop (mkF m 201 #[.val (.int p1), .val (.int p2), .val (.int p3), .val (.ref b2), .val (.ref b12), .val (.int (own_t (p2 &&& (3 : Int32)))), .val (.int (p1 &&& (7 : Int32))), .val (.int ((own_t (p2 &&& (3 : Int32))) + (p3 <<< ((16 : Int32) &&& 31)))), .val (.int (j0_4_S0 p1 p2 p3))] [])) _
              refine XS.iconst X97.here hx rfl (hb hby at_201) ?_
              show Steps p.tables e below (T97.setTop (mkF m 202 #[.val (.int p1), .val (.int p2), .val (.int p3), .val (.ref b2), .val (.ref b12), .val (.int (own_t (p2 &&& (3 : Int32)))), .val (.int (p1 &&& (7 : Int32))), .val (.int ((own_t (p2 &&& (3 : Int32))) + (p3 <<< ((16 : Int32) &&& 31)))), .val (.int (j0_4_S0 p1 p2 p3))] [(.int (1 : Int32))])) _
              refine XS.goto X97.here hx rfl (pc0 := 202) (pc' := 206) rfl (hb hby at_202) (by decide) (by decide) ?_
              show Steps p.tables e below (T97.setTop (mkF m 206 #[.val (.int p1), .val (.int p2), .val (.int p3), .val (.ref b2), .val (.ref b12), .val (.int (own_t (p2 &&& (3 : Int32)))), .val (.int (p1 &&& (7 : Int32))), .val (.int ((own_t (p2 &&& (3 : Int32))) + (p3 <<< ((16 : Int32) &&& 31)))), .val (.int (j0_4_S0 p1 p2 p3))] [(.int (1 : Int32))])) _
              exact retN X97 hx (t := .boolean) Bd.returns (by simp) (hb hby at_206) hr
            · show Q0 Z p1 p2 p3 h0 n0 _ T97.heap _
              rw [hh97]
              have hv : sp0 p1 p2 p3 = (1 : Int32) := by unfold sp0; rw [if_neg c90_41, if_neg c103_55, if_neg c123_69, if_pos c141_86, if_pos c198_98]
              exact ⟨by rw [← hv, own_law p1 p2 p3], N97⟩
          · obtain ⟨fs, hr, hrun, hended, hW, hsame⟩ := X97.leave (v := some (.int (0 : Int32))) (fun h => by rw [Bd.returns] at h; cases h)
            refine ⟨_, _, pre0 _ (k99 _ ?_), hrun, hended, _, _, rfl, ?_, ⟨_, rfl⟩, hW, hsame.mono (by decide) (by decide)⟩
            · show Steps p.tables e below (T97.setTop (mkF m 198 #[.val (.int p1), .val (.int p2), .val (.int p3), .val (.ref b2), .val (.ref b12), .val (.int (own_t (p2 &&& (3 : Int32)))), .val (.int (p1 &&& (7 : Int32))), .val (.int ((own_t (p2 &&& (3 : Int32))) + (p3 <<< ((16 : Int32) &&& 31)))), .val (.int (j0_4_S0 p1 p2 p3))] [(.int (j0_4_S0 p1 p2 p3)), (.int (sp1 ((own_t (p2 &&& (3 : Int32))) + (p3 <<< ((16 : Int32) &&& 31)))))])) _
              refine XS.icmpYes X97.here hx rfl (pc0 := 198) (pc' := 205) rfl (hb hby at_198) rfl (feq c198_98).2 (by decide) (by decide) ?_
              show Steps p.tables e below (T97.setTop (mkF m 205 #[.val (.int p1), .val (.int p2), .val (.int p3), .val (.ref b2), .val (.ref b12), .val (.int (own_t (p2 &&& (3 : Int32)))), .val (.int (p1 &&& (7 : Int32))), .val (.int ((own_t (p2 &&& (3 : Int32))) + (p3 <<< ((16 : Int32) &&& 31)))), .val (.int (j0_4_S0 p1 p2 p3))] [])) _
              refine XS.iconst X97.here hx rfl (hb hby at_205) ?_
              show Steps p.tables e below (T97.setTop (mkF m 206 #[.val (.int p1), .val (.int p2), .val (.int p3), .val (.ref b2), .val (.ref b12), .val (.int (own_t (p2 &&& (3 : Int32)))), .val (.int (p1 &&& (7 : Int32))), .val (.int ((own_t (p2 &&& (3 : Int32))) + (p3 <<< ((16 : Int32) &&& 31)))), .val (.int (j0_4_S0 p1 p2 p3))] [(.int (0 : Int32))])) _
              exact retN X97 hx (t := .boolean) Bd.returns (by simp) (hb hby at_206) hr
            · show Q0 Z p1 p2 p3 h0 n0 _ T97.heap _
              rw [hh97]
              have hv : sp0 p1 p2 p3 = (0 : Int32) := by unfold sp0; rw [if_neg c90_41, if_neg c103_55, if_neg c123_69, if_pos c141_86, if_neg c198_98]
              exact ⟨by rw [← hv, own_law p1 p2 p3], N97⟩
        · have k100 : ∀ t, Steps p.tables e below (T36.setTop (mkF m 159 #[.val (.int p1), .val (.int p2), .val (.int p3), .val (.ref b2), .val (.ref b12), .val (.int (own_t (p2 &&& (3 : Int32)))), .val (.int (p1 &&& (7 : Int32))), .val (.int p2), .unset] [])) t → Steps p.tables e below (s₁.setTop (mkF m 0 #[.val (.int p1), .val (.int p2), .val (.int p3), .unset, .unset, .unset, .unset, .unset, .unset] [])) t := fun t kt => k87 t (by
            show Steps p.tables e below (T36.setTop (mkF m 141 #[.val (.int p1), .val (.int p2), .val (.int p3), .val (.ref b2), .val (.ref b12), .val (.int (own_t (p2 &&& (3 : Int32)))), .val (.int (p1 &&& (7 : Int32))), .unset, .unset] [(.int (4 : Int32)), (.int (p1 &&& (7 : Int32)))])) _
            refine XS.icmpYes X36.here hx rfl (pc0 := 141) (pc' := 156) rfl (hb hby at_141) rfl (feq c141_86).2 (by decide) (by decide) ?_
            show Steps p.tables e below (T36.setTop (mkF m 156 #[.val (.int p1), .val (.int p2), .val (.int p3), .val (.ref b2), .val (.ref b12), .val (.int (own_t (p2 &&& (3 : Int32)))), .val (.int (p1 &&& (7 : Int32))), .unset, .unset] [])) _
            refine XS.iloadN X36.here hx rfl (hb hby at_156) rfl ?_
            show Steps p.tables e below (T36.setTop (mkF m 157 #[.val (.int p1), .val (.int p2), .val (.int p3), .val (.ref b2), .val (.ref b12), .val (.int (own_t (p2 &&& (3 : Int32)))), .val (.int (p1 &&& (7 : Int32))), .unset, .unset] [(.int p2)])) _
            refine XS.istore X36.here hx rfl (hb hby at_157) rfl (l' := #[.val (.int p1), .val (.int p2), .val (.int p3), .val (.ref b2), .val (.ref b12), .val (.int (own_t (p2 &&& (3 : Int32)))), .val (.int (p1 &&& (7 : Int32))), .val (.int p2), .unset]) rfl ?_
            exact kt)
          have k104 : ∀ t, Steps p.tables e below (T36.setTop (mkF m 189 #[.val (.int p1), .val (.int p2), .val (.int p3), .val (.ref b2), .val (.ref b12), .val (.int (own_t (p2 &&& (3 : Int32)))), .val (.int (p1 &&& (7 : Int32))), .val (.int p2), .unset] [(.int (j0_5_S0 p1 p2 p3))])) t → Steps p.tables e below (s₁.setTop (mkF m 0 #[.val (.int p1), .val (.int p2), .val (.int p3), .unset, .unset, .unset, .unset, .unset, .unset] [])) t := by
            intro t kt
            refine k100 t ?_
            by_cases c163_105 : p2 = (10 : Int32)
            · rw [show j0_5_S0 p1 p2 p3 = (1 : Int32) from by unfold j0_5_S0; rw [if_pos c163_105]] at kt
              show Steps p.tables e below (T36.setTop (mkF m 159 #[.val (.int p1), .val (.int p2), .val (.int p3), .val (.ref b2), .val (.ref b12), .val (.int (own_t (p2 &&& (3 : Int32)))), .val (.int (p1 &&& (7 : Int32))), .val (.int p2), .unset] [])) _
              refine XS.iload X36.here hx rfl (hb hby at_159) rfl ?_
              show Steps p.tables e below (T36.setTop (mkF m 161 #[.val (.int p1), .val (.int p2), .val (.int p3), .val (.ref b2), .val (.ref b12), .val (.int (own_t (p2 &&& (3 : Int32)))), .val (.int (p1 &&& (7 : Int32))), .val (.int p2), .unset] [(.int p2)])) _
              refine XS.bipush X36.here hx rfl (hb hby at_161) ?_
              show Steps p.tables e below (T36.setTop (mkF m 163 #[.val (.int p1), .val (.int p2), .val (.int p3), .val (.ref b2), .val (.ref b12), .val (.int (own_t (p2 &&& (3 : Int32)))), .val (.int (p1 &&& (7 : Int32))), .val (.int p2), .unset] [(.int (10 : Int32)), (.int p2)])) _
              refine XS.icmpYes X36.here hx rfl (pc0 := 163) (pc' := 184) rfl (hb hby at_163) rfl (teq c163_105).1 (by decide) (by decide) ?_
              show Steps p.tables e below (T36.setTop (mkF m 184 #[.val (.int p1), .val (.int p2), .val (.int p3), .val (.ref b2), .val (.ref b12), .val (.int (own_t (p2 &&& (3 : Int32)))), .val (.int (p1 &&& (7 : Int32))), .val (.int p2), .unset] [])) _
              refine XS.iconst X36.here hx rfl (hb hby at_184) ?_
              show Steps p.tables e below (T36.setTop (mkF m 185 #[.val (.int p1), .val (.int p2), .val (.int p3), .val (.ref b2), .val (.ref b12), .val (.int (own_t (p2 &&& (3 : Int32)))), .val (.int (p1 &&& (7 : Int32))), .val (.int p2), .unset] [(.int (1 : Int32))])) _
              refine XS.goto X36.here hx rfl (pc0 := 185) (pc' := 189) rfl (hb hby at_185) (by decide) (by decide) ?_
              exact kt
            · by_cases c170_106 : p2 = (13 : Int32)
              · rw [show j0_5_S0 p1 p2 p3 = (1 : Int32) from by unfold j0_5_S0; rw [if_neg c163_105, if_pos c170_106]] at kt
                show Steps p.tables e below (T36.setTop (mkF m 159 #[.val (.int p1), .val (.int p2), .val (.int p3), .val (.ref b2), .val (.ref b12), .val (.int (own_t (p2 &&& (3 : Int32)))), .val (.int (p1 &&& (7 : Int32))), .val (.int p2), .unset] [])) _
                refine XS.iload X36.here hx rfl (hb hby at_159) rfl ?_
                show Steps p.tables e below (T36.setTop (mkF m 161 #[.val (.int p1), .val (.int p2), .val (.int p3), .val (.ref b2), .val (.ref b12), .val (.int (own_t (p2 &&& (3 : Int32)))), .val (.int (p1 &&& (7 : Int32))), .val (.int p2), .unset] [(.int p2)])) _
                refine XS.bipush X36.here hx rfl (hb hby at_161) ?_
                show Steps p.tables e below (T36.setTop (mkF m 163 #[.val (.int p1), .val (.int p2), .val (.int p3), .val (.ref b2), .val (.ref b12), .val (.int (own_t (p2 &&& (3 : Int32)))), .val (.int (p1 &&& (7 : Int32))), .val (.int p2), .unset] [(.int (10 : Int32)), (.int p2)])) _
                refine XS.icmpNo X36.here hx rfl (hb hby at_163) rfl (feq c163_105).1 ?_
                show Steps p.tables e below (T36.setTop (mkF m 166 #[.val (.int p1), .val (.int p2), .val (.int p3), .val (.ref b2), .val (.ref b12), .val (.int (own_t (p2 &&& (3 : Int32)))), .val (.int (p1 &&& (7 : Int32))), .val (.int p2), .unset] [])) _
                refine XS.iload X36.here hx rfl (hb hby at_166) rfl ?_
                show Steps p.tables e below (T36.setTop (mkF m 168 #[.val (.int p1), .val (.int p2), .val (.int p3), .val (.ref b2), .val (.ref b12), .val (.int (own_t (p2 &&& (3 : Int32)))), .val (.int (p1 &&& (7 : Int32))), .val (.int p2), .unset] [(.int p2)])) _
                refine XS.bipush X36.here hx rfl (hb hby at_168) ?_
                show Steps p.tables e below (T36.setTop (mkF m 170 #[.val (.int p1), .val (.int p2), .val (.int p3), .val (.ref b2), .val (.ref b12), .val (.int (own_t (p2 &&& (3 : Int32)))), .val (.int (p1 &&& (7 : Int32))), .val (.int p2), .unset] [(.int (13 : Int32)), (.int p2)])) _
                refine XS.icmpYes X36.here hx rfl (pc0 := 170) (pc' := 184) rfl (hb hby at_170) rfl (teq c170_106).1 (by decide) (by decide) ?_
                show Steps p.tables e below (T36.setTop (mkF m 184 #[.val (.int p1), .val (.int p2), .val (.int p3), .val (.ref b2), .val (.ref b12), .val (.int (own_t (p2 &&& (3 : Int32)))), .val (.int (p1 &&& (7 : Int32))), .val (.int p2), .unset] [])) _
                refine XS.iconst X36.here hx rfl (hb hby at_184) ?_
                show Steps p.tables e below (T36.setTop (mkF m 185 #[.val (.int p1), .val (.int p2), .val (.int p3), .val (.ref b2), .val (.ref b12), .val (.int (own_t (p2 &&& (3 : Int32)))), .val (.int (p1 &&& (7 : Int32))), .val (.int p2), .unset] [(.int (1 : Int32))])) _
                refine XS.goto X36.here hx rfl (pc0 := 185) (pc' := 189) rfl (hb hby at_185) (by decide) (by decide) ?_
                exact kt
              · by_cases c181_107 : (p2 &&& (-2 : Int32)) = (8232 : Int32)
                · rw [show j0_5_S0 p1 p2 p3 = (1 : Int32) from by unfold j0_5_S0; rw [if_neg c163_105, if_neg c170_106, if_pos c181_107]] at kt
                  show Steps p.tables e below (T36.setTop (mkF m 159 #[.val (.int p1), .val (.int p2), .val (.int p3), .val (.ref b2), .val (.ref b12), .val (.int (own_t (p2 &&& (3 : Int32)))), .val (.int (p1 &&& (7 : Int32))), .val (.int p2), .unset] [])) _
                  refine XS.iload X36.here hx rfl (hb hby at_159) rfl ?_
                  show Steps p.tables e below (T36.setTop (mkF m 161 #[.val (.int p1), .val (.int p2), .val (.int p3), .val (.ref b2), .val (.ref b12), .val (.int (own_t (p2 &&& (3 : Int32)))), .val (.int (p1 &&& (7 : Int32))), .val (.int p2), .unset] [(.int p2)])) _
                  refine XS.bipush X36.here hx rfl (hb hby at_161) ?_
                  show Steps p.tables e below (T36.setTop (mkF m 163 #[.val (.int p1), .val (.int p2), .val (.int p3), .val (.ref b2), .val (.ref b12), .val (.int (own_t (p2 &&& (3 : Int32)))), .val (.int (p1 &&& (7 : Int32))), .val (.int p2), .unset] [(.int (10 : Int32)), (.int p2)])) _
                  refine XS.icmpNo X36.here hx rfl (hb hby at_163) rfl (feq c163_105).1 ?_
                  show Steps p.tables e below (T36.setTop (mkF m 166 #[.val (.int p1), .val (.int p2), .val (.int p3), .val (.ref b2), .val (.ref b12), .val (.int (own_t (p2 &&& (3 : Int32)))), .val (.int (p1 &&& (7 : Int32))), .val (.int p2), .unset] [])) _
                  refine XS.iload X36.here hx rfl (hb hby at_166) rfl ?_
                  show Steps p.tables e below (T36.setTop (mkF m 168 #[.val (.int p1), .val (.int p2), .val (.int p3), .val (.ref b2), .val (.ref b12), .val (.int (own_t (p2 &&& (3 : Int32)))), .val (.int (p1 &&& (7 : Int32))), .val (.int p2), .unset] [(.int p2)])) _
                  refine XS.bipush X36.here hx rfl (hb hby at_168) ?_
                  show Steps p.tables e below (T36.setTop (mkF m 170 #[.val (.int p1), .val (.int p2), .val (.int p3), .val (.ref b2), .val (.ref b12), .val (.int (own_t (p2 &&& (3 : Int32)))), .val (.int (p1 &&& (7 : Int32))), .val (.int p2), .unset] [(.int (13 : Int32)), (.int p2)])) _
                  refine XS.icmpNo X36.here hx rfl (hb hby at_170) rfl (feq c170_106).1 ?_
                  show Steps p.tables e below (T36.setTop (mkF m 173 #[.val (.int p1), .val (.int p2), .val (.int p3), .val (.ref b2), .val (.ref b12), .val (.int (own_t (p2 &&& (3 : Int32)))), .val (.int (p1 &&& (7 : Int32))), .val (.int p2), .unset] [])) _
                  refine XS.iload X36.here hx rfl (hb hby at_173) rfl ?_
                  show Steps p.tables e below (T36.setTop (mkF m 175 #[.val (.int p1), .val (.int p2), .val (.int p3), .val (.ref b2), .val (.ref b12), .val (.int (own_t (p2 &&& (3 : Int32)))), .val (.int (p1 &&& (7 : Int32))), .val (.int p2), .unset] [(.int p2)])) _
                  refine XS.bipush X36.here hx rfl (hb hby at_175) ?_
                  show Steps p.tables e below (T36.setTop (mkF m 177 #[.val (.int p1), .val (.int p2), .val (.int p3), .val (.ref b2), .val (.ref b12), .val (.int (own_t (p2 &&& (3 : Int32)))), .val (.int (p1 &&& (7 : Int32))), .val (.int p2), .unset] [(.int (-2 : Int32)), (.int p2)])) _
                  refine XS.iand X36.here hx rfl (hb hby at_177) rfl ?_
                  show Steps p.tables e below (T36.setTop (mkF m 178 #[.val (.int p1), .val (.int p2), .val (.int p3), .val (.ref b2), .val (.ref b12), .val (.int (own_t (p2 &&& (3 : Int32)))), .val (.int (p1 &&& (7 : Int32))), .val (.int p2), .unset] [(.int (p2 &&& (-2 : Int32)))])) _
                  refine XS.sipush X36.here hx rfl (hb hby at_178) ?_
                  show Steps p.tables e below (T36.setTop (mkF m 181 #[.val (.int p1), .val (.int p2), .val (.int p3), .val (.ref b2), .val (.ref b12), .val (.int (own_t (p2 &&& (3 : Int32)))), .val (.int (p1 &&& (7 : Int32))), .val (.int p2), .unset] [(.int (8232 : Int32)), (.int (p2 &&& (-2 : Int32)))])) _
                  refine XS.icmpNo X36.here hx rfl (hb hby at_181) rfl (teq c181_107).2 ?_
                  show Steps p.tables e below (T36.setTop (mkF m 184 #[.val (.int p1), .val (.int p2), .val (.int p3), .val (.ref b2), .val (.ref b12), .val (.int (own_t (p2 &&& (3 : Int32)))), .val (.int (p1 &&& (7 : Int32))), .val (.int p2), .unset] [])) _
                  refine XS.iconst X36.here hx rfl (hb hby at_184) ?_
                  show Steps p.tables e below (T36.setTop (mkF m 185 #[.val (.int p1), .val (.int p2), .val (.int p3), .val (.ref b2), .val (.ref b12), .val (.int (own_t (p2 &&& (3 : Int32)))), .val (.int (p1 &&& (7 : Int32))), .val (.int p2), .unset] [(.int (1 : Int32))])) _
                  refine XS.goto X36.here hx rfl (pc0 := 185) (pc' := 189) rfl (hb hby at_185) (by decide) (by decide) ?_
                  exact kt
                · rw [show j0_5_S0 p1 p2 p3 = (0 : Int32) from by unfold j0_5_S0; rw [if_neg c163_105, if_neg c170_106, if_neg c181_107]] at kt
                  show Steps p.tables e below (T36.setTop (mkF m 159 #[.val (.int p1), .val (.int p2), .val (.int p3), .val (.ref b2), .val (.ref b12), .val (.int (own_t (p2 &&& (3 : Int32)))), .val (.int (p1 &&& (7 : Int32))), .val (.int p2), .unset] [])) _
                  refine XS.iload X36.here hx rfl (hb hby at_159) rfl ?_
                  show Steps p.tables e below (T36.setTop (mkF m 161 #[.val (.int p1), .val (.int p2), .val (.int p3), .val (.ref b2), .val (.ref b12), .val (.int (own_t (p2 &&& (3 : Int32)))), .val (.int (p1 &&& (7 : Int32))), .val (.int p2), .unset] [(.int p2)])) _
                  refine XS.bipush X36.here hx rfl (hb hby at_161) ?_
                  show Steps p.tables e below (T36.setTop (mkF m 163 #[.val (.int p1), .val (.int p2), .val (.int p3), .val (.ref b2), .val (.ref b12), .val (.int (own_t (p2 &&& (3 : Int32)))), .val (.int (p1 &&& (7 : Int32))), .val (.int p2), .unset] [(.int (10 : Int32)), (.int p2)])) _
                  refine XS.icmpNo X36.here hx rfl (hb hby at_163) rfl (feq c163_105).1 ?_
                  show Steps p.tables e below (T36.setTop (mkF m 166 #[.val (.int p1), .val (.int p2), .val (.int p3), .val (.ref b2), .val (.ref b12), .val (.int (own_t (p2 &&& (3 : Int32)))), .val (.int (p1 &&& (7 : Int32))), .val (.int p2), .unset] [])) _
                  refine XS.iload X36.here hx rfl (hb hby at_166) rfl ?_
                  show Steps p.tables e below (T36.setTop (mkF m 168 #[.val (.int p1), .val (.int p2), .val (.int p3), .val (.ref b2), .val (.ref b12), .val (.int (own_t (p2 &&& (3 : Int32)))), .val (.int (p1 &&& (7 : Int32))), .val (.int p2), .unset] [(.int p2)])) _
                  refine XS.bipush X36.here hx rfl (hb hby at_168) ?_
                  show Steps p.tables e below (T36.setTop (mkF m 170 #[.val (.int p1), .val (.int p2), .val (.int p3), .val (.ref b2), .val (.ref b12), .val (.int (own_t (p2 &&& (3 : Int32)))), .val (.int (p1 &&& (7 : Int32))), .val (.int p2), .unset] [(.int (13 : Int32)), (.int p2)])) _
                  refine XS.icmpNo X36.here hx rfl (hb hby at_170) rfl (feq c170_106).1 ?_
                  show Steps p.tables e below (T36.setTop (mkF m 173 #[.val (.int p1), .val (.int p2), .val (.int p3), .val (.ref b2), .val (.ref b12), .val (.int (own_t (p2 &&& (3 : Int32)))), .val (.int (p1 &&& (7 : Int32))), .val (.int p2), .unset] [])) _
                  refine XS.iload X36.here hx rfl (hb hby at_173) rfl ?_
                  show Steps p.tables e below (T36.setTop (mkF m 175 #[.val (.int p1), .val (.int p2), .val (.int p3), .val (.ref b2), .val (.ref b12), .val (.int (own_t (p2 &&& (3 : Int32)))), .val (.int (p1 &&& (7 : Int32))), .val (.int p2), .unset] [(.int p2)])) _
                  refine XS.bipush X36.here hx rfl (hb hby at_175) ?_
                  show Steps p.tables e below (T36.setTop (mkF m 177 #[.val (.int p1), .val (.int p2), .val (.int p3), .val (.ref b2), .val (.ref b12), .val (.int (own_t (p2 &&& (3 : Int32)))), .val (.int (p1 &&& (7 : Int32))), .val (.int p2), .unset] [(.int (-2 : Int32)), (.int p2)])) _
                  refine XS.iand X36.here hx rfl (hb hby at_177) rfl ?_
                  show Steps p.tables e below (T36.setTop (mkF m 178 #[.val (.int p1), .val (.int p2), .val (.int p3), .val (.ref b2), .val (.ref b12), .val (.int (own_t (p2 &&& (3 : Int32)))), .val (.int (p1 &&& (7 : Int32))), .val (.int p2), .unset] [(.int (p2 &&& (-2 : Int32)))])) _
                  refine XS.sipush X36.here hx rfl (hb hby at_178) ?_
                  show Steps p.tables e below (T36.setTop (mkF m 181 #[.val (.int p1), .val (.int p2), .val (.int p3), .val (.ref b2), .val (.ref b12), .val (.int (own_t (p2 &&& (3 : Int32)))), .val (.int (p1 &&& (7 : Int32))), .val (.int p2), .unset] [(.int (8232 : Int32)), (.int (p2 &&& (-2 : Int32)))])) _
                  refine XS.icmpYes X36.here hx rfl (pc0 := 181) (pc' := 188) rfl (hb hby at_181) rfl (feq c181_107).2 (by decide) (by decide) ?_
                  show Steps p.tables e below (T36.setTop (mkF m 188 #[.val (.int p1), .val (.int p2), .val (.int p3), .val (.ref b2), .val (.ref b12), .val (.int (own_t (p2 &&& (3 : Int32)))), .val (.int (p1 &&& (7 : Int32))), .val (.int p2), .unset] [])) _
                  refine XS.iconst X36.here hx rfl (hb hby at_188) ?_
                  exact kt
          have k108 : ∀ t, Steps p.tables e below (T36.setTop (mkF m 193 #[.val (.int p1), .val (.int p2), .val (.int p3), .val (.ref b2), .val (.ref b12), .val (.int (own_t (p2 &&& (3 : Int32)))), .val (.int (p1 &&& (7 : Int32))), .val (.int p2), .val (.int (j0_5_S0 p1 p2 p3))] [(.int p2)])) t → Steps p.tables e below (s₁.setTop (mkF m 0 #[.val (.int p1), .val (.int p2), .val (.int p3), .unset, .unset, .unset, .unset, .unset, .unset] [])) t := fun t kt => k104 t (by
            show Steps p.tables e below (T36.setTop (mkF m 189 #[.val (.int p1), .val (.int p2), .val (.int p3), .val (.ref b2), .val (.ref b12), .val (.int (own_t (p2 &&& (3 : Int32)))), .val (.int (p1 &&& (7 : Int32))), .val (.int p2), .unset] [(.int (j0_5_S0 p1 p2 p3))])) _
            refine XS.istore X36.here hx rfl (hb hby at_189) rfl (l' := #[.val (.int p1), .val (.int p2), .val (.int p3), .val (.ref b2), .val (.ref b12), .val (.int (own_t (p2 &&& (3 : Int32)))), .val (.int (p1 &&& (7 : Int32))), .val (.int p2), .val (.int (j0_5_S0 p1 p2 p3))]) rfl ?_
            show Steps p.tables e below (T36.setTop (mkF m 191 #[.val (.int p1), .val (.int p2), .val (.int p3), .val (.ref b2), .val (.ref b12), .val (.int (own_t (p2 &&& (3 : Int32)))), .val (.int (p1 &&& (7 : Int32))), .val (.int p2), .val (.int (j0_5_S0 p1 p2 p3))] [])) _
            refine XS.iload X36.here hx rfl (hb hby at_191) rfl ?_
            exact kt)
          obtain ⟨_, _, ⟨T109, L109, k109', n109⟩, -, X109, ⟨Lc109, hQ109, l109, y109, z109⟩, st109⟩ := Jvm.LawKit.callS X36 hx (y := (⟨"com/example/sayable/sayable/ScriptLexer", "isLineTerminator", "(I)Z"⟩ : MethodName)) hown (mvT hZ (hw _ (List.mem_of_getElem? (i := 1) rfl))) (mvT hZ (hw _ (List.mem_of_getElem? (i := 2) rfl))) (mvT hZ (hw _ (List.mem_of_getElem? (i := 3) rfl))) (mvT hZ (hw _ (List.mem_of_getElem? (i := 4) rfl))) (by decide) (backOf (W := 0) (rm1 l Z a0 hw [] p2 h36 n0 Z36) hZ (hw _ (List.mem_of_getElem? (i := 4) rfl)) (hw _ (List.mem_of_getElem? (i := 3) rfl)) (by decide) (by decide)) (g := (mkF m 193 #[.val (.int p1), .val (.int p2), .val (.int p3), .val (.ref b2), .val (.ref b12), .val (.int (own_t (p2 &&& (3 : Int32)))), .val (.int (p1 &&& (7 : Int32))), .val (.int p2), .val (.int (j0_5_S0 p1 p2 p3))] [(.int p2)])) rfl (by rw [hml]; rfl) (argsL := [(.int p2)]) (rest := []) (lenOf pd0_0 rfl) rfl (by show 2 * 0 + _ ≤ _; exact Nat.le_of_eq rfl) (hb hby at_193) (fun _ _ => ⟨rfl, e36, (by decide : 2 + 0 ≤ _), (by decide : 12 + 0 ≤ _)⟩)
          dsimp only [Pt.U, Pt.locs, Pt.cells, Pt.slots] at X109 l109 y109 z109 st109 hQ109
          subst l109 y109 z109
          obtain ⟨rfl, N109q, hh109⟩ := hQ109
          have N109 := Fr.app N36 N109q
          have k111 : ∀ t, Steps p.tables e below (T109.setTop (mkF m 198 #[.val (.int p1), .val (.int p2), .val (.int p3), .val (.ref b2), .val (.ref b12), .val (.int (own_t (p2 &&& (3 : Int32)))), .val (.int (p1 &&& (7 : Int32))), .val (.int p2), .val (.int (j0_5_S0 p1 p2 p3))] [(.int (j0_5_S0 p1 p2 p3)), (.int (sp1 p2))])) t → Steps p.tables e below (s₁.setTop (mkF m 0 #[.val (.int p1), .val (.int p2), .val (.int p3), .unset, .unset, .unset, .unset, .unset, .unset] [])) t := fun t kt => k108 t (by
            show Steps p.tables e below (T36.setTop (mkF m 193 #[.val (.int p1), .val (.int p2), .val (.int p3), .val (.ref b2), .val (.ref b12), .val (.int (own_t (p2 &&& (3 : Int32)))), .val (.int (p1 &&& (7 : Int32))), .val (.int p2), .val (.int (j0_5_S0 p1 p2 p3))] [(.int p2)])) _
            refine st109 _ ?_
            show Steps p.tables e below (T109.setTop (mkF m 196 #[.val (.int p1), .val (.int p2), .val (.int p3), .val (.ref b2), .val (.ref b12), .val (.int (own_t (p2 &&& (3 : Int32)))), .val (.int (p1 &&& (7 : Int32))), .val (.int p2), .val (.int (j0_5_S0 p1 p2 p3))] [(.int (sp1 p2))])) _
            refine XS.iload X109.here hx rfl (hb hby at_196) rfl ?_
            exact kt)
          by_cases c198_110 : (sp1 p2) = (j0_5_S0 p1 p2 p3)
          · obtain ⟨fs, hr, hrun, hended, hW, hsame⟩ := X109.leave (v := some (.int (1 : Int32))) (fun h => by rw [Bd.returns] at h; cases h)
            refine ⟨_, _, pre0 _ (k111 _ ?_), hrun, hended, _, _, rfl, ?_, ⟨_, rfl⟩, hW, hsame.mono (by decide) (by decide)⟩
            · show Steps p.tables e below (T109.setTop (mkF m 198 #[.val (.int p1), .val (.int p2), .val (.int p3), .val (.ref b2), .val (.ref b12), .val (.int (own_t (p2 &&& (3 : Int32)))), .val (.int (p1 &&& (7 : Int32))), .val (.int p2), .val (.int (j0_5_S0 p1 p2 p3))] [(.int (j0_5_S0 p1 p2 p3)), (.int (sp1 p2))])) _
              refine XS.icmpNo X109.here hx rfl (hb hby at_198) rfl (teq c198_110).2 ?_
              show Steps p.tables e below (T109.setTop (mkF m 201 #[.val (.int p1), .val (.int p2), .val (.int p3), .val (.ref b2), .val (.ref b12), .val (.int (own_t (p2 &&& (3 : Int32)))), .val (.int (p1 &&& (7 : Int32))), .val (.int p2), .val (.int (j0_5_S0 p1 p2 p3))] [])) _
              refine XS.iconst X109.here hx rfl (hb hby at_201) ?_
              show Steps p.tables e below (T109.setTop (mkF m 202 #[.val (.int p1), .val (.int p2), .val (.int p3), .val (.ref b2), .val (.ref b12), .val (.int (own_t (p2 &&& (3 : Int32)))), .val (.int (p1 &&& (7 : Int32))), .val (.int p2), .val (.int (j0_5_S0 p1 p2 p3))] [(.int (1 : Int32))])) _
              refine XS.goto X109.here hx rfl (pc0 := 202) (pc' := 206) rfl (hb hby at_202) (by decide) (by decide) ?_
              show Steps p.tables e below (T109.setTop (mkF m 206 #[.val (.int p1), .val (.int p2), .val (.int p3), .val (.ref b2), .val (.ref b12), .val (.int (own_t (p2 &&& (3 : Int32)))), .val (.int (p1 &&& (7 : Int32))), .val (.int p2), .val (.int (j0_5_S0 p1 p2 p3))] [(.int (1 : Int32))])) _
              exact retN X109 hx (t := .boolean) Bd.returns (by simp) (hb hby at_206) hr
            · show Q0 Z p1 p2 p3 h0 n0 _ T109.heap _
              rw [hh109]
              have hv : sp0 p1 p2 p3 = (1 : Int32) := by unfold sp0; rw [if_neg c90_41, if_neg c103_55, if_neg c123_69, if_neg c141_86, if_pos c198_110]
              exact ⟨by rw [← hv, own_law p1 p2 p3], N109⟩
          · obtain ⟨fs, hr, hrun, hended, hW, hsame⟩ := X109.leave (v := some (.int (0 : Int32))) (fun h => by rw [Bd.returns] at h; cases h)
            refine ⟨_, _, pre0 _ (k111 _ ?_), hrun, hended, _, _, rfl, ?_, ⟨_, rfl⟩, hW, hsame.mono (by decide) (by decide)⟩
            · show Steps p.tables e below (T109.setTop (mkF m 198 #[.val (.int p1), .val (.int p2), .val (.int p3), .val (.ref b2), .val (.ref b12), .val (.int (own_t (p2 &&& (3 : Int32)))), .val (.int (p1 &&& (7 : Int32))), .val (.int p2), .val (.int (j0_5_S0 p1 p2 p3))] [(.int (j0_5_S0 p1 p2 p3)), (.int (sp1 p2))])) _
              refine XS.icmpYes X109.here hx rfl (pc0 := 198) (pc' := 205) rfl (hb hby at_198) rfl (feq c198_110).2 (by decide) (by decide) ?_
              show Steps p.tables e below (T109.setTop (mkF m 205 #[.val (.int p1), .val (.int p2), .val (.int p3), .val (.ref b2), .val (.ref b12), .val (.int (own_t (p2 &&& (3 : Int32)))), .val (.int (p1 &&& (7 : Int32))), .val (.int p2), .val (.int (j0_5_S0 p1 p2 p3))] [])) _
              refine XS.iconst X109.here hx rfl (hb hby at_205) ?_
              show Steps p.tables e below (T109.setTop (mkF m 206 #[.val (.int p1), .val (.int p2), .val (.int p3), .val (.ref b2), .val (.ref b12), .val (.int (own_t (p2 &&& (3 : Int32)))), .val (.int (p1 &&& (7 : Int32))), .val (.int p2), .val (.int (j0_5_S0 p1 p2 p3))] [(.int (0 : Int32))])) _
              exact retN X109 hx (t := .boolean) Bd.returns (by simp) (hb hby at_206) hr
            · show Q0 Z p1 p2 p3 h0 n0 _ T109.heap _
              rw [hh109]
              have hv : sp0 p1 p2 p3 = (0 : Int32) := by unfold sp0; rw [if_neg c90_41, if_neg c103_55, if_neg c123_69, if_neg c141_86, if_neg c198_110]
              exact ⟨by rw [← hv, own_law p1 p2 p3], N109⟩
set_option maxRecDepth 65536 in
set_option maxHeartbeats 40000000 in
theorem comes_1 {Post : Tables → Env → Array Value → State → Outcome → State → Prop} (hpost : ∀ tb e args s v u, (limb_1_1.after args s (.returned v) u = true ∧ limb_1_2.after args s (.returned v) u = true ∧ True) → FrameEnd s (.returned v) u (Jvm.fieldLocs frame_1_writes args s ++ Jvm.arrayLocs frame_1_arrays args s ++ Jvm.staticLocs frame_1_statics s) 16 128 → Post tb e args s (.returned v) u) :
    ArmFor flags0 classFile x code maxLocals ret World_1 tables_1 room_1 Calls_1 rest_1 Pre_1 Post := by
  intro l hfl _ _ p e ha hc hk s m args below hf hA hF happ hP
  obtain ⟨hcalls, hrest, hpre⟩ := hP
  obtain ⟨-, -, -, hnamed, -, -, -, hat⟩ := (Spec.applies_iff hf).mp happ
  obtain ⟨hg, hn⟩ := and_e (Cond.before_iff.mp (show (Jvm.Cond.and given_1 narrow_1).before args s = true from hpre))
  obtain ⟨g2, g3⟩ := and_e hg
  obtain ⟨g4, g5⟩ := and_e g3
  obtain ⟨g6, g7⟩ := and_e g5
  obtain ⟨w0, w1, w2, rfl⟩ : ∃ w0 w1 w2 : Value, args = #[w0, w1, w2] := by
    have hs : args.size = 3 := by simpa [Cond.value, given_1] using g2
    obtain ⟨L⟩ := args
    match L, hs with
    | [w0, w1, w2], _ => exact ⟨w0, w1, w2, rfl⟩
  have hw := fun d (hd : d ∈ tables_1) => atoms_spec (ws := Jvm.Cond.code x code maxLocals ret :: tables_1) hat d (List.mem_cons_of_mem _ hd)
  obtain ⟨i0, ei0⟩ := is_v g4
  obtain rfl : w0 = (.int i0) := Option.some.inj ei0
  obtain ⟨i1, ei1⟩ := is_v g6
  obtain rfl : w1 = (.int i1) := Option.some.inj ei1
  obtain ⟨i2, ei2⟩ := is_v g7
  obtain rfl : w2 = (.int i2) := Option.some.inj ei2
  obtain ⟨n, o, h1, h2, h3, _, L, rfl, ⟨rfl, N⟩, hq⟩ := rm0 l s _ hw tables_1 i0 i1 i2 s.heap s.heap.size (Nat.le_refl _) p e ha hc hk s m _ below hf ((Spec.applies_iff_loose hf).mp happ).1 ⟨rfl, State.Warmed39.refl s, rfl⟩ trivial
  refine ⟨n, _, h1, h2, h3, hpost _ _ _ _ _ _ ⟨Cond.after_iff.mpr rfl, Cond.after_iff.mpr (eq_i res_at (Term.int_eval (1)) rfl), trivial⟩ ⟨hq.1, hq.2.1, (hq.2.2.sift fun y hy => Or.inr (N y hy)).mono (by decide) (by decide)⟩⟩
theorem main_1_1 : Claimed_1_1 := comes_1 fun _ _ _ _ _ _ h hF => ⟨h.1, hF⟩
theorem main_1_2 : Claimed_1_2 := comes_1 fun _ _ _ _ _ _ h hF => ⟨h.2.1, hF⟩
end Jvm.Pilot.@@N@@
namespace Jvm.Pilot.@@N@@
open Jvm Jvm.ClassFile Sem Op Lib Jvm.Free Jvm.Stand Jvm.Pilot.@@N@@.Jvm.D
/-! MADE BY PROGRAM (witnessworld.py) out of the Statement's table words and the real class files: 9 classes; the members and pool entries that the words name. The judged class is class 1, her method 1. -/
namespace start1
open Jvm.ClassFile
def u (s : String) : CpInfo := .utf8 (stringToUtf16 s)
/-- a pool by its gaps: so many unusable entries, then the entry; so many at the end -/
def gap : Nat → List CpInfo → List CpInfo
  | 0, r => r
  | n + 1, r => .unusable :: gap n r
def poolList (es : List (Nat × CpInfo)) (last : Nat) : List CpInfo := es.foldr (fun e r => gap e.1 (e.2 :: r)) (gap last [])
def pool (es : List (Nat × CpInfo)) (last : Nat) : Array CpInfo := ⟨poolList es last⟩
def fileOf (pool : Array CpInfo) (this : Nat) (attrs : Array Attribute := #[]) (ms : Array MethodInfo := #[]) (fl : Nat := 33) (sup : Nat := 0) (ifs : Array Nat := #[]) (fds : Array FieldInfo := #[]) : ClassFile where
  minorVersion := 0
  majorVersion := 65
  constantPool := pool
  accessFlags := fl
  thisClass := this
  superClass := sup
  interfaces := ifs
  fields := fds
  methods := ms
  attributes := attrs
def plain (name : String) (sup : Option ClassId) : Class where
  name := name
  kind := .ordinary
  loader := none
  accessFlags := 33
  super := sup
  interfaces := #[]
  cf := none
  fields := #[]
  methods := #[]
  instanceTypes := #[]
  staticTypes := #[]
  resolved := #[]
  callSites := []
  init := .initialized
  statics := none
  mirror := none

def pool0 : Array CpInfo := pool [(5, u "<init>"), (0, u "()V"), (1, .class_ 10), (1, u "java/lang/Object")] 113

def k0m0 : Method := { name := "<init>", desc := "()V", sig := { parameters := [], returnType := none }, accessFlags := 1, code := none }
/-- java/lang/Object -/
def k0 : Class := { plain "java/lang/Object" none with
  accessFlags := 33
  interfaces := #[]
  cf := some (fileOf pool0 8 #[] #[{ accessFlags := 1, nameIndex := 5, descriptorIndex := 6, attributes := #[] }] 33 0 #[] #[])
  fields := #[]
  methods := #[k0m0]
  instanceTypes := #[]
  staticTypes := #[]
  resolved := Array.replicate 124 none
  statics := none }

def pool1 : Array CpInfo := pool [(2, .class_ 4), (1, u "java/lang/Object"), (0, u "<init>"), (0, u "()V"), (0, .methodref 8 9), (0, .class_ 10), (0, .nameAndType 11 12), (0, u "com/example/sayable/sayable/ScriptLexer"), (0, u "isLineTerminator"), (0, u "(I)Z"), (0, .class_ 14), (0, u "com/example/sayable/sayable/ScriptLexerIsLineTerminatorPinLaw"), (2, u "law"), (0, u "(III)Z")] 5

def k1m0 : Method := { name := "<init>", desc := "()V", sig := { parameters := [], returnType := none }, accessFlags := 2, code := none }
def k1c1 : Code := { maxStack := 4, maxLocals := 9, code := code, exceptionTable := #[], attributes := #[] }
def k1m1 : Method := { name := "law", desc := "(III)Z", sig := { parameters := [.int, .int, .int], returnType := some .boolean }, accessFlags := 9, code := some k1c1 }
/-- com/example/sayable/sayable/ScriptLexerIsLineTerminatorPinLaw -/
def k1 : Class := { plain "com/example/sayable/sayable/ScriptLexerIsLineTerminatorPinLaw" (some 0) with
  accessFlags := 49
  interfaces := #[]
  cf := some (fileOf pool1 13 #[] #[{ accessFlags := 2, nameIndex := 5, descriptorIndex := 6, attributes := #[] }, { accessFlags := 9, nameIndex := 17, descriptorIndex := 18, attributes := #[] }] 49 2 #[] #[])
  fields := #[]
  methods := #[k1m0, k1m1]
  instanceTypes := #[]
  staticTypes := #[]
  resolved := Array.replicate 24 none
  statics := none }

def pool2 : Array CpInfo := pool [(2, .class_ 4), (1, u "java/lang/Object"), (3, .class_ 10), (1, u "com/example/sayable/sayable/ScriptLexer"), (0, u "text"), (0, u "Ljava/lang/String;"), (5, u "kind"), (0, u "Lcom/example/sayable/sayable/ScriptLexer$Kind;"), (2, u "value"), (2, u "number"), (0, u "D"), (2, u "start"), (0, u "I"), (2, u "end"), (2, u "lineBefore"), (0, u "Z"), (0, .class_ 39), (0, u "com/example/sayable/sayable/ScriptLexer$State"), (5, u "position"), (8, .class_ 56), (1, u "com/example/sayable/sayable/ScriptLexer$Kind"), (12, u "KEYWORDS"), (0, u "Ljava/util/Set;"), (34, u "(I)Z"), (25, u "isLineTerminator"), (18, u "PUNCTUATORS"), (0, u "[Ljava/lang/String;"), (309, u "CONTROL_ESCAPES"), (1, u "CONTROLS")] 44

def k2c0 : Code := { maxStack := 2, maxLocals := 1, code := prog_165_method_32_code, exceptionTable := #[], attributes := #[] }
def k2m0 : Method := { name := "isLineTerminator", desc := "(I)Z", sig := { parameters := [.int], returnType := some .boolean }, accessFlags := 8, code := some k2c0 }
/-- com/example/sayable/sayable/ScriptLexer -/
def k2 : Class := { plain "com/example/sayable/sayable/ScriptLexer" (some 0) with
  accessFlags := 48
  interfaces := #[]
  cf := some (fileOf pool2 8 #[.nestMembers #[38, 54]] #[{ accessFlags := 8, nameIndex := 131, descriptorIndex := 105, attributes := #[] }] 48 2 #[] #[{ accessFlags := 26, nameIndex := 150, descriptorIndex := 151, attributes := #[] }, { accessFlags := 26, nameIndex := 69, descriptorIndex := 70, attributes := #[] }, { accessFlags := 26, nameIndex := 461, descriptorIndex := 12, attributes := #[] }, { accessFlags := 26, nameIndex := 463, descriptorIndex := 12, attributes := #[] }, { accessFlags := 18, nameIndex := 11, descriptorIndex := 12, attributes := #[] }, { accessFlags := 2, nameIndex := 45, descriptorIndex := 30, attributes := #[] }, { accessFlags := 2, nameIndex := 18, descriptorIndex := 19, attributes := #[] }, { accessFlags := 2, nameIndex := 22, descriptorIndex := 12, attributes := #[] }, { accessFlags := 2, nameIndex := 25, descriptorIndex := 26, attributes := #[] }, { accessFlags := 2, nameIndex := 29, descriptorIndex := 30, attributes := #[] }, { accessFlags := 2, nameIndex := 33, descriptorIndex := 30, attributes := #[] }, { accessFlags := 2, nameIndex := 36, descriptorIndex := 37, attributes := #[] }])
  fields := #[{ name := "PUNCTUATORS", type := (.array (.object "java/lang/String")), accessFlags := 26, slot := 0, constantValue := 0 }, { name := "KEYWORDS", type := (.object "java/util/Set"), accessFlags := 26, slot := 1, constantValue := 0 }, { name := "CONTROL_ESCAPES", type := (.object "java/lang/String"), accessFlags := 26, slot := 2, constantValue := 0 }, { name := "CONTROLS", type := (.object "java/lang/String"), accessFlags := 26, slot := 3, constantValue := 0 }, { name := "text", type := (.object "java/lang/String"), accessFlags := 18, slot := 0, constantValue := 0 }, { name := "position", type := .int, accessFlags := 2, slot := 1, constantValue := 0 }, { name := "kind", type := (.object "com/example/sayable/sayable/ScriptLexer$Kind"), accessFlags := 2, slot := 2, constantValue := 0 }, { name := "value", type := (.object "java/lang/String"), accessFlags := 2, slot := 3, constantValue := 0 }, { name := "number", type := .double, accessFlags := 2, slot := 4, constantValue := 0 }, { name := "start", type := .int, accessFlags := 2, slot := 5, constantValue := 0 }, { name := "end", type := .int, accessFlags := 2, slot := 6, constantValue := 0 }, { name := "lineBefore", type := .boolean, accessFlags := 2, slot := 7, constantValue := 0 }]
  methods := #[k2m0]
  instanceTypes := #[(.object "java/lang/String"), .int, (.object "com/example/sayable/sayable/ScriptLexer$Kind"), (.object "java/lang/String"), .double, .int, .int, .boolean]
  staticTypes := #[(.array (.object "java/lang/String")), (.object "java/util/Set"), (.object "java/lang/String"), (.object "java/lang/String")]
  resolved := Array.replicate 508 none
  statics := none }

def pool3 : Array CpInfo := pool [(1, u "java/lang/Cloneable"), (0, .class_ 1), (0, u "java/lang/Object"), (0, .class_ 3)] 3

/-- java/lang/Cloneable -/
def k3 : Class := { plain "java/lang/Cloneable" (some 0) with
  accessFlags := 1537
  interfaces := #[]
  cf := some (fileOf pool3 2 #[] #[] 1537 4 #[] #[])
  fields := #[]
  methods := #[]
  instanceTypes := #[]
  staticTypes := #[]
  resolved := Array.replicate 8 none
  statics := none }

def pool4 : Array CpInfo := pool [(1, u "java/io/Serializable"), (0, .class_ 1), (0, u "java/lang/Object"), (0, .class_ 3)] 3

/-- java/io/Serializable -/
def k4 : Class := { plain "java/io/Serializable" (some 0) with
  accessFlags := 1537
  interfaces := #[]
  cf := some (fileOf pool4 2 #[] #[] 1537 4 #[] #[])
  fields := #[]
  methods := #[]
  instanceTypes := #[]
  staticTypes := #[]
  resolved := Array.replicate 8 none
  statics := none }

/-- the primitive byte -/
def k5 : Class := { plain "byte" none with kind := .primitive 'B', accessFlags := 0x411 }
/-- [B -/
def k6 : Class := { plain "[B" (some 0) with kind := .array 5 .byte, interfaces := #[3, 4], accessFlags := 1041 }

/-- the primitive int -/
def k7 : Class := { plain "int" none with kind := .primitive 'I', accessFlags := 0x411 }
/-- [I -/
def k8 : Class := { plain "[I" (some 0) with kind := .array 7 .int, interfaces := #[3, 4], accessFlags := 1041 }

def heap : Heap := #[]
def classes : Array Class := #[k0, k1, k2, k3, k4, k5, k6, k7, k8]
def interned : List (Array UInt16 × Addr) := []
def slotsUsed : Nat := 0
def theMethod : MethodId := ⟨1, 1⟩
def args0 : Array Value := #[.int 5, .int 5, .int 5]
def aboutOver (below : List Frame) : State where
  vm := { classes := classes, interned := interned.toArray }
  heap := heap
  slotsUsed := slotsUsed
  threads := #[{ frames := .invoking theMethod args0 :: below }]
def below0 : List Frame := [.native { method := ⟨0, 0⟩, args := #[] }]
def about1 : State := aboutOver below0
def p0 : Program := .bare "" "" ""
def e0 : Env := launch0.env 0 0 0
theorem w_frames : about1.frames = Frame.invoking theMethod args0 :: below0 := rfl
set_option maxRecDepth 65536 in
theorem w_args : argsFit about1.vm theMethod args0 = true := by decide +kernel
set_option maxRecDepth 65536 in
theorem w_heap : heapFits about1 = true := by decide +kernel
set_option maxRecDepth 65536 in
theorem w_runnable : about1.curStatus? = some .runnable := by decide +kernel
set_option maxRecDepth 65536 in
theorem w_alone : about1.alone = true := by decide +kernel
set_option maxRecDepth 65536 in
theorem w_named : about1.methodNamed? x = some theMethod := by decide +kernel
set_option maxRecDepth 65536 in
theorem w_hears : about1.hears theMethod below0 = true := by decide +kernel
set_option maxRecDepth 65536 in
theorem w_ripe : about1.ripe theMethod args0 below0 = true := by decide +kernel
theorem w_running : about1.status = .running := rfl
set_option maxRecDepth 65536 in
theorem w_room : about1.hasRoom e0.platform room_1 = true :=
  launch0.hasRoom_least _ room_1 (by decide +kernel) (by decide +kernel) (by decide +kernel) (by decide +kernel) (by decide +kernel) (by decide +kernel)
theorem allAtoms_all (ts : List Jvm.Cond) (a : Array Jvm.Value) (st : Jvm.State) : (allAtoms ts).before a st = ts.all (fun c => c.before a st) := by
  induction ts with
  | nil => rfl
  | cons c t ih =>
    show (Jvm.Cond.and c (allAtoms t)).before a st = _
    rw [Jvm.Cond.before_and, ih, List.all_cons]
def words1 : List Jvm.Cond := Jvm.Cond.code x code maxLocals ret :: tables_1
/-- a 'code' word, met by the world's own term for the bytes: nothing is compared byte by byte -/
theorem code_word {y : MethodName} {bytes : ByteArray} {mx : Nat} {rt : Option FieldType} {a : Array Value} {s : State} {m : MethodId} {meth : Method} {c : Code} (h1 : s.methodNamed? y = some m) (h2 : s.vm.method? m = some meth) (h3 : meth.code = some c) (h4 : c.code = bytes)
    (h5 : (c.maxLocals == mx && c.exceptionTable.isEmpty && decide (c.maxStack ≤ mostOperands) && decide (meth.sig.returnType = rt) && !meth.locks && decide (parseMethodDescriptor y.desc = some meth.sig)) = true) : (Jvm.Cond.code y bytes mx rt).before a s = true := by
  simp only [Bool.and_eq_true, beq_iff_eq, Bool.not_eq_true', decide_eq_true_eq] at h5
  obtain ⟨⟨⟨⟨⟨g1, g2⟩, g3⟩, g4⟩, g5⟩, g6⟩ := h5
  simp [Cond.before, Cond.holds, Cond.value, h1, h2, h3, h4, g1, g2, g3, g4, g5, g6]
def isCode : Jvm.Cond → Bool
  | .code _ _ _ _ => true
  | _ => false
theorem all_split {L : List Jvm.Cond} {P : Jvm.Cond → Bool} (h1 : L.all (fun c => isCode c || P c) = true) (h2 : ∀ c ∈ L.filter isCode, P c = true) : L.all P = true := by
  refine List.all_eq_true.mpr fun c hc => ?_
  have h := List.all_eq_true.mp h1 c hc
  rcases Bool.eq_false_or_eq_true (isCode c) with hi | hi
  · exact h2 c (List.mem_filter.mpr ⟨hc, hi⟩)
  · simpa [hi] using h
set_option maxRecDepth 65536 in
theorem w_c0 : (Jvm.Cond.code x code maxLocals ret).before args0 about1 = true := code_word (m := ⟨1, 1⟩) (meth := k1m1) (c := k1c1) (by decide +kernel) rfl rfl rfl (by decide +kernel)
set_option maxRecDepth 65536 in
theorem w_c1 : (Jvm.Cond.code ({ cls := "com/example/sayable/sayable/ScriptLexer", name := "isLineTerminator", desc := "(I)Z" } : Jvm.MethodName) prog_165_method_32_code (1 : Nat) (Option.some Jvm.ClassFile.FieldType.boolean)).before args0 about1 = true := code_word (m := ⟨2, 0⟩) (meth := k2m0) (c := k2c0) (by decide +kernel) rfl rfl rfl (by decide +kernel)
def codes1 : List Jvm.Cond := [Jvm.Cond.code x code maxLocals ret, Jvm.Cond.code ({ cls := "com/example/sayable/sayable/ScriptLexer", name := "isLineTerminator", desc := "(I)Z" } : Jvm.MethodName) prog_165_method_32_code (1 : Nat) (Option.some Jvm.ClassFile.FieldType.boolean)]
set_option maxRecDepth 65536 in
theorem codes_eq : words1.filter isCode = codes1 := rfl
theorem w_codes : ∀ c ∈ words1.filter isCode, c.before args0 about1 = true := by
  rw [codes_eq]
  intro c hc
  simp only [codes1, List.mem_cons, List.not_mem_nil, or_false] at hc
  rcases hc with rfl | rfl
  · exact w_c0
  · exact w_c1
set_option maxRecDepth 65536 in
theorem w_t1 : words1.all (fun c => isCode c || c.before args0 about1) = true := by decide +kernel
theorem w_tables : (allAtoms (Jvm.Cond.code x code maxLocals ret :: tables_1)).before args0 about1 = true := by
  rw [allAtoms_all]
  show words1.all (fun c => c.before args0 about1) = true
  refine all_split ?_ w_codes
  rw [w_t1]
set_option maxRecDepth 65536 in
theorem w_case : (Jvm.Cond.and given_1 narrow_1).before args0 about1 = true := by decide +kernel
theorem w_applies : (headSpec (Jvm.Cond.code x code maxLocals ret :: tables_1) room_1).applies x e0.platform about1 = true :=
  (Spec.applies_iff w_frames).mpr ⟨w_running, w_runnable, w_alone, w_named, w_hears, w_ripe, w_room, w_tables⟩
theorem atStart : AtStart classFile x code maxLocals ret World_1 tables_1 room_1 Calls_1 rest_1 Pre_1 launch0 p0 e0 about1 theMethod args0 below0 :=
  ⟨lists_1, trivial, launch0.admits_env _ _ _, launch0.least_env, fairChoices_fair.cas, fairChoices_fair.clock, w_frames, w_args, w_heap, w_applies, trivial, trivial, w_case⟩
end start1
theorem witness_1 : WitnessClaimed_1 := ⟨start1.p0, start1.e0, start1.about1, start1.theMethod, start1.args0, start1.below0, start1.atStart⟩
end Jvm.Pilot.@@N@@
