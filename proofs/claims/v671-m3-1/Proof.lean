import JvmDerived
import JvmDerived.Pilot.@@N@@Statement
import JvmDerived.Pilot.@@N@@Code
set_option linter.unusedVariables false
set_option linter.unusedSimpArgs false
namespace Jvm.RoadKit
open Sem ClassFile Op Lib Jvm.Stand Jvm.Free Jvm.LawKit
section New
variable {p : Program} {l : Launch} {e : Env} {R : Room} {s : State} {m : MethodId} {args : Array Value} {below : List Frame} {meth : Method} {c : Code} {T : State} {locs : List Loc} {cells slots : Nat}
theorem retI (X : Stand p l e R s m args below meth c T locs cells slots) (hx : p.tables.exec = Jvm.exec) {pc : Nat} {Ls : Array Slot} {z : Int32} {rest : List Value} (hret : meth.sig.returnType = some .int) (hd : decode c.code pc = .ok (.ireturn, 1)) {fs : List Frame}
    (hl : ∀ (f : JFrame) (acts : List Action), f.method = m → f.locked = none → f.entered = [] → (doReturn e (T.setTop f) acts (some (.int z))).1 = T.setFrames fs) : Steps p.tables e below (T.setTop (mkF m pc Ls (.int z :: rest))) (T.setFrames fs) := by
  have hm' : T.vm.method? m = some meth := X.method'
  have hn : narrow .int (.int z) = .int z := rfl
  show Steps p.tables e below (T.setTop { method := m, pc := pc, locals := Ls, stack := _ :: rest, locked := none }) _
  jvm_step X.here [X.here.top, hx, hd, hm', hret, hn]
  first | (intro acts; rw [hl _ acts rfl rfl rfl]) | rw [hl _ _ rfl rfl rfl]
  exact Steps.refl _
end New
end Jvm.RoadKit
namespace Jvm.Pilot.@@N@@
open Jvm Jvm.ClassFile Sem Op Lib Jvm.Free Jvm.Stand Jvm.LawKit Jvm.RoadKit Bundle Jvm.Pilot.@@N@@.Jvm.D
theorem d1_0 : decode prog_62_method_1_code 0 = .ok (.aload_n 0, 1) := by decide +kernel
theorem d1_1 : decode prog_62_method_1_code 1 = .ok (.invokespecial 1, 3) := by decide +kernel
theorem d1_4 : decode prog_62_method_1_code 4 = .ok (.aload_n 0, 1) := by decide +kernel
theorem d1_5 : decode prog_62_method_1_code 5 = .ok (.lload_n 1, 1) := by decide +kernel
theorem d1_6 : decode prog_62_method_1_code 6 = .ok (.putfield 7, 3) := by decide +kernel
theorem d1_9 : decode prog_62_method_1_code 9 = .ok (.return_, 1) := by decide +kernel
theorem pn_1 : plainName "com/example/grantwell/grantwell/core/Budget" = true := by first | (simp [plainName, overriddenIn]; done) | decide +kernel
theorem ef_1 (m : MethodId) (x0 : Addr) (x1 : Int64) : entryFrame m #[(.ref x0), (.long x1)] 3 = mkF m 0 #[.val (.ref x0), .val (.long x1), .second] [] := by first | (simp [entryFrame, mkF, argsToLocals, Value.category]; done) | rfl
theorem d3_0 : decode prog_62_method_4_code 0 = .ok (.aload_n 0, 1) := by decide +kernel
theorem d3_1 : decode prog_62_method_4_code 1 = .ok (.getfield 7, 3) := by decide +kernel
theorem d3_4 : decode prog_62_method_4_code 4 = .ok (.lconst 0, 1) := by decide +kernel
theorem d3_5 : decode prog_62_method_4_code 5 = .ok (.lcmp, 1) := by decide +kernel
theorem d3_6 : decode prog_62_method_4_code 6 = .ok (.ifCond .ge 7, 3) := by decide +kernel
theorem d3_9 : decode prog_62_method_4_code 9 = .ok (.iconst 1, 1) := by decide +kernel
theorem d3_10 : decode prog_62_method_4_code 10 = .ok (.goto 4, 3) := by decide +kernel
theorem d3_13 : decode prog_62_method_4_code 13 = .ok (.iconst 0, 1) := by decide +kernel
theorem d3_14 : decode prog_62_method_4_code 14 = .ok (.ireturn, 1) := by decide +kernel
theorem pn_3 : plainName "com/example/grantwell/grantwell/core/Budget" = true := by first | (simp [plainName, overriddenIn]; done) | decide +kernel
theorem ef_3 (m : MethodId) (x0 : Addr) : entryFrame m #[(.ref x0)] 1 = mkF m 0 #[.val (.ref x0)] [] := by first | (simp [entryFrame, mkF, argsToLocals, Value.category]; done) | rfl
theorem d4_0 : decode prog_62_method_2_code 0 = .ok (.aload_n 0, 1) := by decide +kernel
theorem d4_1 : decode prog_62_method_2_code 1 = .ok (.dup, 1) := by decide +kernel
theorem d4_2 : decode prog_62_method_2_code 2 = .ok (.getfield 7, 3) := by decide +kernel
theorem d4_5 : decode prog_62_method_2_code 5 = .ok (.lload_n 1, 1) := by decide +kernel
theorem d4_6 : decode prog_62_method_2_code 6 = .ok (.lsub, 1) := by decide +kernel
theorem d4_7 : decode prog_62_method_2_code 7 = .ok (.putfield 7, 3) := by decide +kernel
theorem d4_10 : decode prog_62_method_2_code 10 = .ok (.return_, 1) := by decide +kernel
theorem pn_4 : plainName "com/example/grantwell/grantwell/core/Budget" = true := by first | (simp [plainName, overriddenIn]; done) | decide +kernel
theorem ef_4 (m : MethodId) (x0 : Addr) (x1 : Int64) : entryFrame m #[(.ref x0), (.long x1)] 3 = mkF m 0 #[.val (.ref x0), .val (.long x1), .second] [] := by first | (simp [entryFrame, mkF, argsToLocals, Value.category]; done) | rfl
theorem pn_0 : plainName "com/example/grantwell/grantwell/core/BudgetSpentPinLaw" = true := by first | (simp [plainName, overriddenIn]; done) | decide +kernel
theorem pd0_0 : parseMethodDescriptor "(J)V" = some ⟨[.long], none⟩ := by decide +kernel
theorem pd0_1 : parseMethodDescriptor "()Z" = some ⟨[], some .boolean⟩ := by decide +kernel
theorem ef_0 (m : MethodId) (x0 : Int64) (x1 : Int32) (x2 : Int32) : entryFrame m #[(.long x0), (.int x1), (.int x2)] maxLocals = mkF m 0 #[.val (.long x0), .second, .val (.int x1), .val (.int x2), .unset, .unset, .unset, .unset, .unset, .unset, .unset, .unset, .unset, .unset, .unset, .unset, .unset] [] := by first | (simp [entryFrame, mkF, argsToLocals, Value.category, maxLocals]; done) | rfl
def sp3 (w : Int64) : Int32 := (if w < (0 : Int64) then (1 : Int32) else (0 : Int32))
def v0_5 (p1 : Int64) (p2 : Int32) (p3 : Int32) : Int64 := (p1 &&& (9223372036854775807 : Int64))
def v0_13 (p1 : Int64) (p2 : Int32) (p3 : Int32) : Int64 := ((p2.toInt64) &&& (2147483647 : Int64))
def v0_21 (p1 : Int64) (p2 : Int32) (p3 : Int32) : Int64 := ((p3.toInt64) &&& (2147483647 : Int64))
def sp0 (p1 : Int64) (p2 : Int32) (p3 : Int32) : Int32 := (if (sp3 (v0_5 p1 p2 p3)) = (0 : Int32) then (if (v0_5 p1 p2 p3) < (v0_13 p1 p2 p3) then (if (sp3 ((v0_5 p1 p2 p3) - (v0_13 p1 p2 p3))) = (1 : Int32) then (if (v0_5 p1 p2 p3) < ((v0_13 p1 p2 p3) + (v0_21 p1 p2 p3)) then (if (sp3 (((v0_5 p1 p2 p3) - (v0_13 p1 p2 p3)) - (v0_21 p1 p2 p3))) = (1 : Int32) then (if (sp3 ((v0_5 p1 p2 p3) - (v0_5 p1 p2 p3))) = (0 : Int32) then (if (sp3 (((v0_5 p1 p2 p3) - (v0_5 p1 p2 p3)) - (1 : Int64))) = (0 : Int32) then (0 : Int32) else (1 : Int32)) else (0 : Int32)) else (0 : Int32)) else (if (sp3 (((v0_5 p1 p2 p3) - (v0_13 p1 p2 p3)) - (v0_21 p1 p2 p3))) = (0 : Int32) then (if (sp3 ((v0_5 p1 p2 p3) - (v0_5 p1 p2 p3))) = (0 : Int32) then (if (sp3 (((v0_5 p1 p2 p3) - (v0_5 p1 p2 p3)) - (1 : Int64))) = (0 : Int32) then (0 : Int32) else (1 : Int32)) else (0 : Int32)) else (0 : Int32))) else (0 : Int32)) else (if (sp3 ((v0_5 p1 p2 p3) - (v0_13 p1 p2 p3))) = (0 : Int32) then (if (v0_5 p1 p2 p3) < ((v0_13 p1 p2 p3) + (v0_21 p1 p2 p3)) then (if (sp3 (((v0_5 p1 p2 p3) - (v0_13 p1 p2 p3)) - (v0_21 p1 p2 p3))) = (1 : Int32) then (if (sp3 ((v0_5 p1 p2 p3) - (v0_5 p1 p2 p3))) = (0 : Int32) then (if (sp3 (((v0_5 p1 p2 p3) - (v0_5 p1 p2 p3)) - (1 : Int64))) = (0 : Int32) then (0 : Int32) else (1 : Int32)) else (0 : Int32)) else (0 : Int32)) else (if (sp3 (((v0_5 p1 p2 p3) - (v0_13 p1 p2 p3)) - (v0_21 p1 p2 p3))) = (0 : Int32) then (if (sp3 ((v0_5 p1 p2 p3) - (v0_5 p1 p2 p3))) = (0 : Int32) then (if (sp3 (((v0_5 p1 p2 p3) - (v0_5 p1 p2 p3)) - (1 : Int64))) = (0 : Int32) then (0 : Int32) else (1 : Int32)) else (0 : Int32)) else (0 : Int32))) else (0 : Int32))) else (0 : Int32))
theorem own_neg (w : Int64) (h : w.toInt < 0) : sp3 w = 1 := by
  unfold sp3
  rw [if_pos (Int64.lt_iff_toInt_lt.mpr (by rw [show (0 : Int64).toInt = 0 by decide]; exact h))]
theorem own_pos (w : Int64) (h : 0 ≤ w.toInt) : sp3 w = 0 := by
  unfold sp3
  rw [if_neg (fun q => by have q1 := Int64.lt_iff_toInt_lt.mp q; rw [show (0 : Int64).toInt = 0 by decide] at q1; omega)]
theorem own_law (p1 : Int64) (p2 p3 : Int32) : sp0 p1 p2 p3 = 1 := by
  have hg : 0 ≤ (v0_5 p1 p2 p3).toInt := by unfold v0_5; rw [c_maskL p1 9223372036854775807 63 (by decide) (by decide)]; omega
  have ha : 0 ≤ (v0_13 p1 p2 p3).toInt ∧ (v0_13 p1 p2 p3).toInt < 2147483648 := by unfold v0_13; rw [c_maskL _ 2147483647 31 (by decide) (by decide)]; omega
  have hb : 0 ≤ (v0_21 p1 p2 p3).toInt ∧ (v0_21 p1 p2 p3).toInt < 2147483648 := by unfold v0_21; rw [c_maskL _ 2147483647 31 (by decide) (by decide)]; omega
  unfold sp0
  generalize v0_5 p1 p2 p3 = g at *
  generalize v0_13 p1 p2 p3 = a at *
  generalize v0_21 p1 p2 p3 = b at *
  have rg := rng64 g
  have d1 : (g - a).toInt = g.toInt - a.toInt := by have q := c_lsub g a; have r := rng64 (g - a); omega
  have d2 : (g - a - b).toInt = g.toInt - a.toInt - b.toInt := by have q := c_lsub (g - a) b; have r := rng64 (g - a - b); omega
  have d3 : (a + b).toInt = a.toInt + b.toInt := by have q := c_ladd a b; have r := rng64 (a + b); omega
  have d4 : (g - g).toInt = 0 := by have q := c_lsub g g; have r := rng64 (g - g); omega
  have o1 : (1 : Int64).toInt = 1 := by decide
  have d5 : (g - g - 1).toInt = -1 := by have q := c_lsub (g - g) 1; have r := rng64 (g - g - 1); omega
  have s0 := own_pos g hg
  have s4 := own_pos (g - g) (by omega)
  have s5 : ¬ sp3 (g - g - 1) = 0 := by rw [own_neg (g - g - 1) (by omega)]; decide
  rw [if_pos s0]
  by_cases h1 : g < a
  · have h1' := Int64.lt_iff_toInt_lt.mp h1
    have h2 : g < a + b := Int64.lt_iff_toInt_lt.mpr (by omega)
    rw [if_pos h1, if_pos (own_neg (g - a) (by omega)), if_pos h2, if_pos (own_neg (g - a - b) (by omega)), if_pos s4, if_neg s5]
  · have h1' : ¬ g.toInt < a.toInt := fun q => h1 (Int64.lt_iff_toInt_lt.mpr q)
    rw [if_neg h1, if_pos (own_pos (g - a) (by omega))]
    by_cases h2 : g < a + b
    · have h2' := Int64.lt_iff_toInt_lt.mp h2
      rw [if_pos h2, if_pos (own_neg (g - a - b) (by omega)), if_pos s4, if_neg s5]
    · have h2' : ¬ g.toInt < (a + b).toInt := fun q => h2 (Int64.lt_iff_toInt_lt.mpr q)
      rw [if_neg h2, if_pos (own_pos (g - a - b) (by omega)), if_pos s4, if_neg s5]
def Q1 (Z : State) (a1 : Addr) (q2 : Int64) (u_left_a1 : Value) (h0 : Heap) (n0 : Nat) (v : Option Value) (h : Heap) (L : List Loc) : Prop := v = none ∧ Fr n0 L ∧ Keep h0 h [a1] ∧ Exa Z h a1 "com/example/grantwell/grantwell/core/Budget" ∧ Fld Z h a1 "com/example/grantwell/grantwell/core/Budget" "left" "J" (.long q2)
set_option maxRecDepth 65536 in
set_option maxHeartbeats 40000000 in
theorem rm1 (l : Launch) (Z : State) (a0 : Array Value) (hw : ∀ d ∈ tables_1, d.before a0 Z = true) (ws : List Jvm.Cond) (a1 : Addr) (q2 : Int64) (u_left_a1 : Value) (h0 : Heap) (n0 : Nat) (Z0 : n0 ≤ h0.size) (E_a1 : Exa Z h0 a1 "com/example/grantwell/grantwell/core/Budget") (F_left_a1 : Fld Z h0 a1 "com/example/grantwell/grantwell/core/Budget" "left" "J" u_left_a1) (g_a1 : n0 ≤ a1) :
    MetFree l (⟨"com/example/grantwell/grantwell/core/Budget", "<init>", "(J)V"⟩ : MethodName) (head1 (Jvm.Cond.code (⟨"com/example/grantwell/grantwell/core/Budget", "<init>", "(J)V"⟩ : MethodName) prog_62_method_1_code 3 none :: ws) ({ frames := 1, cells := 0, slots := 0, locals := 12 } : Room)) (fun a U => a = #[(.ref a1), (.long q2)] ∧ Z.Warmed39 U.vm ∧ U.heap = h0) (fun _ _ _ _ _ => True) (fun _ U o U' => ∃ v L, o = .returned v ∧ Q1 Z a1 q2 u_left_a1 h0 n0 v U'.heap L ∧ FrameEnd U o U' L ({ frames := 1, cells := 0, slots := 0, locals := 12 } : Room).cells ({ frames := 1, cells := 0, slots := 0, locals := 12 } : Room).slots) := by
  refine MetFree.of_bodySF (plainFor_of_name pn_1) hisR ?_
  intro p e s m args below meth c s₁ Bd hml0 hP hK
  obtain ⟨rfl, hZ, hh⟩ := hP
  have hx := Bd.exec
  have hby := Bd.bytes
  have hml : c.maxLocals = 3 := hml0
  have hown : s.vm.findClass "com/example/grantwell/grantwell/core/Budget" = some m.cls := findClass_of_methodNamed Bd.named
  have hnm := (name_of_methodNamed Bd.named Bd.method).1
  have X0 : Stand p l e ({ frames := 1, cells := 0, slots := 0, locals := 12 } : Room) s m #[(.ref a1), (.long q2)] below meth c s₁ [] 0 0 := Stand.of_body Bd
  have e0 : s₁.heap = h0 := by rw [← hh, Bd.state]; rfl
  have N0 := Fr.nil n0
  have pre0 : ∀ t, Steps p.tables e below (s₁.setTop (mkF m 0 #[.val (.ref a1), .val (.long q2), .second] [])) t → Steps p.tables e below (s₁.setTop (entryFrame m #[(.ref a1), (.long q2)] 3)) t := fun t k => castTop (ef_1 m a1 q2) k
  obtain ⟨T3, X3, e3, st3⟩ := initO X0 hx hZ hown (hw _ (List.mem_of_getElem? (i := 8) rfl)) (hw _ (List.mem_of_getElem? (i := 9) rfl)) (hw _ (List.mem_of_getElem? (i := 10) rfl)) e0 (g := (mkF m 1 #[.val (.ref a1), .val (.long q2), .second] [(.ref a1)])) rfl (by rw [hml]; rfl) rfl (hb hby d1_1) (by decide) (W := 0) (by show 2 * 0 + _ ≤ _; exact Nat.le_of_eq rfl) (by decide)
  obtain ⟨T4, h4, X4, e4, W4, st4⟩ := putF X3 hx hZ hown (host := "") (Or.inl (hw _ (List.mem_of_getElem? (i := 11) rfl))) Via.refl e3 F_left_a1 E_a1 (Or.inl (hw _ (List.mem_of_getElem? (i := 12) rfl))) (hw _ (List.mem_of_getElem? (i := 3) rfl)) (ty := .long) (by decide) rfl rfl (g := (mkF m 6 #[.val (.ref a1), .val (.long q2), .second] [(.long q2), (.ref a1)])) rfl rfl (hb hby d1_6)
  have Fw4 := F_left_a1.same W4
  have K4 : Keep h0 h4 [a1] := (Keep.refl h0 [a1]).wr W4 (Or.inl (List.mem_of_getElem? (i := 0) rfl))
  have N4 := Fr.snoc X4 N0 g_a1
  obtain ⟨fs, hr, hrun, hended, hW, hsame⟩ := X4.leave (v := none) (fun _ => rfl)
  refine ⟨_, _, pre0 _ ?_, hrun, hended, _, _, rfl, ?_, ⟨_, rfl⟩, hW, hsame.mono (by decide) (by decide)⟩
  · show Steps p.tables e below (s₁.setTop (mkF m 0 #[.val (.ref a1), .val (.long q2), .second] [])) _
    refine XS.aloadN X0.here hx rfl (hb hby d1_0) rfl rfl ?_
    show Steps p.tables e below (s₁.setTop (mkF m 1 #[.val (.ref a1), .val (.long q2), .second] [(.ref a1)])) _
    refine st3 _ ?_
    show Steps p.tables e below (T3.setTop (mkF m 4 #[.val (.ref a1), .val (.long q2), .second] [])) _
    refine XS.aloadN X3.here hx rfl (hb hby d1_4) rfl rfl ?_
    show Steps p.tables e below (T3.setTop (mkF m 5 #[.val (.ref a1), .val (.long q2), .second] [(.ref a1)])) _
    refine XS.lloadN X3.here hx rfl (hb hby d1_5) rfl ?_
    show Steps p.tables e below (T3.setTop (mkF m 6 #[.val (.ref a1), .val (.long q2), .second] [(.long q2), (.ref a1)])) _
    refine st4 _ ?_
    show Steps p.tables e below (T4.setTop (mkF m 9 #[.val (.ref a1), .val (.long q2), .second] [])) _
    exact X4.returnOut hx Bd.returns (hb hby d1_9) hr
  · show Q1 Z a1 q2 u_left_a1 h0 n0 _ T4.heap _
    rw [e4]
    exact ⟨rfl, N4, K4, (E_a1.wr W4), Fw4⟩
def Q3 (Z : State) (a1 : Addr) (w : Int64) (h0 : Heap) (n0 : Nat) (v : Option Value) (h : Heap) (L : List Loc) : Prop := v = some (.int (sp3 w)) ∧ Fr n0 L ∧ h = h0
set_option maxRecDepth 65536 in
set_option maxHeartbeats 40000000 in
theorem rm3 (l : Launch) (Z : State) (a0 : Array Value) (hw : ∀ d ∈ tables_1, d.before a0 Z = true) (ws : List Jvm.Cond) (a1 : Addr) (w : Int64) (h0 : Heap) (n0 : Nat) (Z0 : n0 ≤ h0.size) (F0 : Fld Z h0 a1 "com/example/grantwell/grantwell/core/Budget" "left" "J" (.long w)) :
    MetFree l (⟨"com/example/grantwell/grantwell/core/Budget", "spent", "()Z"⟩ : MethodName) (head1 (Jvm.Cond.code (⟨"com/example/grantwell/grantwell/core/Budget", "spent", "()Z"⟩ : MethodName) prog_62_method_4_code 1 (some .boolean) :: ws) ({ frames := 0, cells := 0, slots := 0, locals := 0 } : Room)) (fun a U => a = #[(.ref a1)] ∧ Z.Warmed39 U.vm ∧ U.heap = h0) (fun _ _ _ _ _ => True) (fun _ U o U' => ∃ v L, o = .returned v ∧ Q3 Z a1 w h0 n0 v U'.heap L ∧ FrameEnd U o U' L ({ frames := 0, cells := 0, slots := 0, locals := 0 } : Room).cells ({ frames := 0, cells := 0, slots := 0, locals := 0 } : Room).slots) := by
  refine MetFree.of_bodySF (plainFor_of_name pn_3) hisR ?_
  intro p e s m args below meth c s₁ Bd hml0 hP hK
  obtain ⟨rfl, hZ, hh⟩ := hP
  have hx := Bd.exec
  have hby := Bd.bytes
  have hml : c.maxLocals = 1 := hml0
  have hown : s.vm.findClass "com/example/grantwell/grantwell/core/Budget" = some m.cls := findClass_of_methodNamed Bd.named
  have hnm := (name_of_methodNamed Bd.named Bd.method).1
  have X0 : Stand p l e ({ frames := 0, cells := 0, slots := 0, locals := 0 } : Room) s m #[(.ref a1)] below meth c s₁ [] 0 0 := Stand.of_body Bd
  have e0 : s₁.heap = h0 := by rw [← hh, Bd.state]; rfl
  have N0 := Fr.nil n0
  have pre0 : ∀ t, Steps p.tables e below (s₁.setTop (mkF m 0 #[.val (.ref a1)] [])) t → Steps p.tables e below (s₁.setTop (entryFrame m #[(.ref a1)] 1)) t := fun t k => castTop (ef_3 m a1) k
  have pre1 : ∀ t, Steps p.tables e below (s₁.setTop (mkF m 0 #[.val (.ref a1)] [])) t → Steps p.tables e below (s₁.setTop (mkF m 0 #[.val (.ref a1)] [])) t := fun t k => k
  have k1 : ∀ t, Steps p.tables e below (s₁.setTop (mkF m 1 #[.val (.ref a1)] [(.ref a1)])) t → Steps p.tables e below (s₁.setTop (mkF m 0 #[.val (.ref a1)] [])) t := fun t kt => pre1 t (by
    show Steps p.tables e below (s₁.setTop (mkF m 0 #[.val (.ref a1)] [])) _
    refine XS.aloadN X0.here hx rfl (hb hby d3_0) rfl rfl ?_
    exact kt)
  obtain ⟨T2, X2, e2, st2⟩ := getF X0 hx hZ hown (host := "") (Or.inl (hw _ (List.mem_of_getElem? (i := 11) rfl))) Via.refl e0 F0 (g := (mkF m 1 #[.val (.ref a1)] [(.ref a1)])) rfl rfl (hb hby d3_1)
  have k4 : ∀ t, Steps p.tables e below (T2.setTop (mkF m 6 #[.val (.ref a1)] [(.int (lcmpW w (0 : Int64)))])) t → Steps p.tables e below (s₁.setTop (mkF m 0 #[.val (.ref a1)] [])) t := fun t kt => k1 t (by
    show Steps p.tables e below (s₁.setTop (mkF m 1 #[.val (.ref a1)] [(.ref a1)])) _
    refine st2 _ ?_
    show Steps p.tables e below (T2.setTop (mkF m 4 #[.val (.ref a1)] [(.long w)])) _
    refine XS.lconst X2.here hx rfl (hb hby d3_4) ?_
    show Steps p.tables e below (T2.setTop (mkF m 5 #[.val (.ref a1)] [(.long (0 : Int64)), (.long w)])) _
    refine XS.lcmp X2.here hx rfl (hb hby d3_5) rfl ?_
    exact kt)
  by_cases c6_3 : w < (0 : Int64)
  · obtain ⟨fs, hr, hrun, hended, hW, hsame⟩ := X2.leave (v := some (.int (1 : Int32))) (fun h => by rw [Bd.returns] at h; cases h)
    refine ⟨_, _, pre0 _ (k4 _ ?_), hrun, hended, _, _, rfl, ?_, ⟨_, rfl⟩, hW, hsame.mono (by decide) (by decide)⟩
    · show Steps p.tables e below (T2.setTop (mkF m 6 #[.val (.ref a1)] [(.int (lcmpW w (0 : Int64)))])) _
      refine XS.ifNo X2.here hx rfl (hb hby d3_6) rfl ((if0 _ _).trans (tlt ((lw_lt _ _).mpr c6_3)).2.1) ?_
      show Steps p.tables e below (T2.setTop (mkF m 9 #[.val (.ref a1)] [])) _
      refine XS.iconst X2.here hx rfl (hb hby d3_9) ?_
      show Steps p.tables e below (T2.setTop (mkF m 10 #[.val (.ref a1)] [(.int (1 : Int32))])) _
      refine XS.goto X2.here hx rfl (pc0 := 10) (pc' := 14) rfl (hb hby d3_10) (by decide) (by decide) ?_
      show Steps p.tables e below (T2.setTop (mkF m 14 #[.val (.ref a1)] [(.int (1 : Int32))])) _
      exact retN X2 hx (t := .boolean) Bd.returns (by simp) (hb hby d3_14) hr
    · show Q3 Z a1 w h0 n0 _ T2.heap _
      rw [e2]
      have hv : sp3 w = (1 : Int32) := by unfold sp3; rw [if_pos c6_3]
      exact ⟨by rw [hv], N0, rfl⟩
  · obtain ⟨fs, hr, hrun, hended, hW, hsame⟩ := X2.leave (v := some (.int (0 : Int32))) (fun h => by rw [Bd.returns] at h; cases h)
    refine ⟨_, _, pre0 _ (k4 _ ?_), hrun, hended, _, _, rfl, ?_, ⟨_, rfl⟩, hW, hsame.mono (by decide) (by decide)⟩
    · show Steps p.tables e below (T2.setTop (mkF m 6 #[.val (.ref a1)] [(.int (lcmpW w (0 : Int64)))])) _
      refine XS.ifYes X2.here hx rfl (pc0 := 6) (pc' := 13) rfl (hb hby d3_6) rfl ((if0 _ _).trans (flt (fun q => c6_3 ((lw_lt _ _).mp q))).2.1) (by decide) (by decide) ?_
      show Steps p.tables e below (T2.setTop (mkF m 13 #[.val (.ref a1)] [])) _
      refine XS.iconst X2.here hx rfl (hb hby d3_13) ?_
      show Steps p.tables e below (T2.setTop (mkF m 14 #[.val (.ref a1)] [(.int (0 : Int32))])) _
      exact retN X2 hx (t := .boolean) Bd.returns (by simp) (hb hby d3_14) hr
    · show Q3 Z a1 w h0 n0 _ T2.heap _
      rw [e2]
      have hv : sp3 w = (0 : Int32) := by unfold sp3; rw [if_neg c6_3]
      exact ⟨by rw [hv], N0, rfl⟩
def Q4 (Z : State) (a1 : Addr) (q2 : Int64) (w3 : Int64) (h0 : Heap) (n0 : Nat) (v : Option Value) (h : Heap) (L : List Loc) : Prop := v = none ∧ Fr n0 L ∧ Keep h0 h [a1] ∧ Exa Z h a1 "com/example/grantwell/grantwell/core/Budget" ∧ Fld Z h a1 "com/example/grantwell/grantwell/core/Budget" "left" "J" (.long (w3 - q2))
set_option maxRecDepth 65536 in
set_option maxHeartbeats 40000000 in
theorem rm4 (l : Launch) (Z : State) (a0 : Array Value) (hw : ∀ d ∈ tables_1, d.before a0 Z = true) (ws : List Jvm.Cond) (a1 : Addr) (q2 : Int64) (w3 : Int64) (h0 : Heap) (n0 : Nat) (Z0 : n0 ≤ h0.size) (F_left_a1 : Fld Z h0 a1 "com/example/grantwell/grantwell/core/Budget" "left" "J" (.long w3)) (E_a1 : Exa Z h0 a1 "com/example/grantwell/grantwell/core/Budget") (g_a1 : n0 ≤ a1) :
    MetFree l (⟨"com/example/grantwell/grantwell/core/Budget", "spend", "(J)V"⟩ : MethodName) (head1 (Jvm.Cond.code (⟨"com/example/grantwell/grantwell/core/Budget", "spend", "(J)V"⟩ : MethodName) prog_62_method_2_code 3 none :: ws) ({ frames := 0, cells := 0, slots := 0, locals := 0 } : Room)) (fun a U => a = #[(.ref a1), (.long q2)] ∧ Z.Warmed39 U.vm ∧ U.heap = h0) (fun _ _ _ _ _ => True) (fun _ U o U' => ∃ v L, o = .returned v ∧ Q4 Z a1 q2 w3 h0 n0 v U'.heap L ∧ FrameEnd U o U' L ({ frames := 0, cells := 0, slots := 0, locals := 0 } : Room).cells ({ frames := 0, cells := 0, slots := 0, locals := 0 } : Room).slots) := by
  refine MetFree.of_bodySF (plainFor_of_name pn_4) hisR ?_
  intro p e s m args below meth c s₁ Bd hml0 hP hK
  obtain ⟨rfl, hZ, hh⟩ := hP
  have hx := Bd.exec
  have hby := Bd.bytes
  have hml : c.maxLocals = 3 := hml0
  have hown : s.vm.findClass "com/example/grantwell/grantwell/core/Budget" = some m.cls := findClass_of_methodNamed Bd.named
  have hnm := (name_of_methodNamed Bd.named Bd.method).1
  have X0 : Stand p l e ({ frames := 0, cells := 0, slots := 0, locals := 0 } : Room) s m #[(.ref a1), (.long q2)] below meth c s₁ [] 0 0 := Stand.of_body Bd
  have e0 : s₁.heap = h0 := by rw [← hh, Bd.state]; rfl
  have N0 := Fr.nil n0
  have pre0 : ∀ t, Steps p.tables e below (s₁.setTop (mkF m 0 #[.val (.ref a1), .val (.long q2), .second] [])) t → Steps p.tables e below (s₁.setTop (entryFrame m #[(.ref a1), (.long q2)] 3)) t := fun t k => castTop (ef_4 m a1 q2) k
  obtain ⟨T4, X4, e4, st4⟩ := getF X0 hx hZ hown (host := "") (Or.inl (hw _ (List.mem_of_getElem? (i := 11) rfl))) Via.refl e0 F_left_a1 (g := (mkF m 2 #[.val (.ref a1), .val (.long q2), .second] [(.ref a1), (.ref a1)])) rfl rfl (hb hby d4_2)
  obtain ⟨T5, h5, X5, e5, W5, st5⟩ := putF X4 hx hZ hown (host := "") (Or.inl (hw _ (List.mem_of_getElem? (i := 11) rfl))) Via.refl e4 F_left_a1 E_a1 (Or.inl (hw _ (List.mem_of_getElem? (i := 12) rfl))) (hw _ (List.mem_of_getElem? (i := 3) rfl)) (ty := .long) (by decide) rfl rfl (g := (mkF m 7 #[.val (.ref a1), .val (.long q2), .second] [(.long (w3 - q2)), (.ref a1)])) rfl rfl (hb hby d4_7)
  have Fw5 := F_left_a1.same W5
  have K5 : Keep h0 h5 [a1] := (Keep.refl h0 [a1]).wr W5 (Or.inl (List.mem_of_getElem? (i := 0) rfl))
  have N5 := Fr.snoc X5 N0 g_a1
  obtain ⟨fs, hr, hrun, hended, hW, hsame⟩ := X5.leave (v := none) (fun _ => rfl)
  refine ⟨_, _, pre0 _ ?_, hrun, hended, _, _, rfl, ?_, ⟨_, rfl⟩, hW, hsame.mono (by decide) (by decide)⟩
  · show Steps p.tables e below (s₁.setTop (mkF m 0 #[.val (.ref a1), .val (.long q2), .second] [])) _
    refine XS.aloadN X0.here hx rfl (hb hby d4_0) rfl rfl ?_
    show Steps p.tables e below (s₁.setTop (mkF m 1 #[.val (.ref a1), .val (.long q2), .second] [(.ref a1)])) _
    refine XS.dup X0.here hx rfl (hb hby d4_1) rfl rfl ?_
    show Steps p.tables e below (s₁.setTop (mkF m 2 #[.val (.ref a1), .val (.long q2), .second] [(.ref a1), (.ref a1)])) _
    refine st4 _ ?_
    show Steps p.tables e below (T4.setTop (mkF m 5 #[.val (.ref a1), .val (.long q2), .second] [(.long w3), (.ref a1)])) _
    refine XS.lloadN X4.here hx rfl (hb hby d4_5) rfl ?_
    show Steps p.tables e below (T4.setTop (mkF m 6 #[.val (.ref a1), .val (.long q2), .second] [(.long q2), (.long w3), (.ref a1)])) _
    refine XS.lsub X4.here hx rfl (hb hby d4_6) rfl ?_
    show Steps p.tables e below (T4.setTop (mkF m 7 #[.val (.ref a1), .val (.long q2), .second] [(.long (w3 - q2)), (.ref a1)])) _
    refine st5 _ ?_
    show Steps p.tables e below (T5.setTop (mkF m 10 #[.val (.ref a1), .val (.long q2), .second] [])) _
    exact X5.returnOut hx Bd.returns (hb hby d4_10) hr
  · show Q4 Z a1 q2 w3 h0 n0 _ T5.heap _
    rw [e5]
    exact ⟨rfl, N5, K5, (E_a1.wr W5), Fw5⟩
def Q0 (Z : State) (p1 : Int64) (p2 : Int32) (p3 : Int32) (h0 : Heap) (n0 : Nat) (v : Option Value) (h : Heap) (L : List Loc) : Prop := v = some (.int 1) ∧ Fr n0 L
set_option maxRecDepth 65536 in
set_option maxHeartbeats 40000000 in
theorem rm0 (l : Launch) (Z : State) (a0 : Array Value) (hw : ∀ d ∈ tables_1, d.before a0 Z = true) (ws : List Jvm.Cond) (p1 : Int64) (p2 : Int32) (p3 : Int32) (h0 : Heap) (n0 : Nat) (Z0 : n0 ≤ h0.size) :
    MetFree l x (head1 (Jvm.Cond.code x code maxLocals ret :: ws) room_1) (fun a U => a = #[(.long p1), (.int p2), (.int p3)] ∧ Z.Warmed39 U.vm ∧ U.heap = h0) (fun _ _ _ _ _ => True) (fun _ U o U' => ∃ v L, o = .returned v ∧ Q0 Z p1 p2 p3 h0 n0 v U'.heap L ∧ FrameEnd U o U' L room_1.cells room_1.slots) := by
  refine MetFree.of_bodySF (plainFor_of_name pn_0) hisR ?_
  intro p e s m args below meth c s₁ Bd hml0 hP hK
  obtain ⟨rfl, hZ, hh⟩ := hP
  have hx := Bd.exec
  have hby := Bd.bytes
  have hml : c.maxLocals = 17 := hml0
  have hown : s.vm.findClass "com/example/grantwell/grantwell/core/BudgetSpentPinLaw" = some m.cls := findClass_of_methodNamed Bd.named
  have hnm := (name_of_methodNamed Bd.named Bd.method).1
  have X0 : Stand p l e room_1 s m #[(.long p1), (.int p2), (.int p3)] below meth c s₁ [] 0 0 := Stand.of_body Bd
  have e0 : s₁.heap = h0 := by rw [← hh, Bd.state]; rfl
  have N0 := Fr.nil n0
  have pre0 : ∀ t, Steps p.tables e below (s₁.setTop (mkF m 0 #[.val (.long p1), .second, .val (.int p2), .val (.int p3), .unset, .unset, .unset, .unset, .unset, .unset, .unset, .unset, .unset, .unset, .unset, .unset, .unset] [])) t → Steps p.tables e below (s₁.setTop (entryFrame m #[(.long p1), (.int p2), (.int p3)] maxLocals)) t := fun t k => castTop (ef_0 m p1 p2 p3) k
  have pre1 : ∀ t, Steps p.tables e below (s₁.setTop (mkF m 0 #[.val (.long p1), .second, .val (.int p2), .val (.int p3), .unset, .unset, .unset, .unset, .unset, .unset, .unset, .unset, .unset, .unset, .unset, .unset, .unset] [])) t → Steps p.tables e below (s₁.setTop (mkF m 0 #[.val (.long p1), .second, .val (.int p2), .val (.int p3), .unset, .unset, .unset, .unset, .unset, .unset, .unset, .unset, .unset, .unset, .unset, .unset, .unset] [])) t := fun t k => k
  have k1 : ∀ t, Steps p.tables e below (s₁.setTop (mkF m 23 #[.val (.long p1), .second, .val (.int p2), .val (.int p3), .val (.long (v0_5 p1 p2 p3)), .second, .val (.long (v0_13 p1 p2 p3)), .second, .val (.long (v0_21 p1 p2 p3)), .second, .unset, .unset, .unset, .unset, .unset, .unset, .unset] [])) t → Steps p.tables e below (s₁.setTop (mkF m 0 #[.val (.long p1), .second, .val (.int p2), .val (.int p3), .unset, .unset, .unset, .unset, .unset, .unset, .unset, .unset, .unset, .unset, .unset, .unset, .unset] [])) t := fun t kt => pre1 t (by
    show Steps p.tables e below (s₁.setTop (mkF m 0 #[.val (.long p1), .second, .val (.int p2), .val (.int p3), .unset, .unset, .unset, .unset, .unset, .unset, .unset, .unset, .unset, .unset, .unset, .unset, .unset] [])) _
    refine XS.lloadN X0.here hx rfl (hb hby at_0) rfl ?_
    show Steps p.tables e below (s₁.setTop (mkF m 1 #[.val (.long p1), .second, .val (.int p2), .val (.int p3), .unset, .unset, .unset, .unset, .unset, .unset, .unset, .unset, .unset, .unset, .unset, .unset, .unset] [(.long p1)])) _
    refine X0.ldc2Long hx hown (mvT hZ (hw _ (List.mem_of_getElem? (i := 0) rfl))) (g := (mkF m 1 #[.val (.long p1), .second, .val (.int p2), .val (.int p3), .unset, .unset, .unset, .unset, .unset, .unset, .unset, .unset, .unset, .unset, .unset, .unset, .unset] [(.long p1)])) rfl (hb hby at_1) _ ?_
    show Steps p.tables e below (s₁.setTop (mkF m 4 #[.val (.long p1), .second, .val (.int p2), .val (.int p3), .unset, .unset, .unset, .unset, .unset, .unset, .unset, .unset, .unset, .unset, .unset, .unset, .unset] [(.long (9223372036854775807 : Int64)), (.long p1)])) _
    refine XS.land X0.here hx rfl (hb hby at_4) rfl ?_
    show Steps p.tables e below (s₁.setTop (mkF m 5 #[.val (.long p1), .second, .val (.int p2), .val (.int p3), .unset, .unset, .unset, .unset, .unset, .unset, .unset, .unset, .unset, .unset, .unset, .unset, .unset] [(.long (p1 &&& (9223372036854775807 : Int64)))])) _
    refine XS.lstore X0.here hx rfl (hb hby at_5) rfl (l' := #[.val (.long p1), .second, .val (.int p2), .val (.int p3), .val (.long (v0_5 p1 p2 p3)), .second, .unset, .unset, .unset, .unset, .unset, .unset, .unset, .unset, .unset, .unset, .unset]) rfl ?_
    show Steps p.tables e below (s₁.setTop (mkF m 7 #[.val (.long p1), .second, .val (.int p2), .val (.int p3), .val (.long (v0_5 p1 p2 p3)), .second, .unset, .unset, .unset, .unset, .unset, .unset, .unset, .unset, .unset, .unset, .unset] [])) _
    refine XS.iloadN X0.here hx rfl (hb hby at_7) rfl ?_
    show Steps p.tables e below (s₁.setTop (mkF m 8 #[.val (.long p1), .second, .val (.int p2), .val (.int p3), .val (.long (v0_5 p1 p2 p3)), .second, .unset, .unset, .unset, .unset, .unset, .unset, .unset, .unset, .unset, .unset, .unset] [(.int p2)])) _
    refine XS.i2l X0.here hx rfl (hb hby at_8) rfl ?_
    show Steps p.tables e below (s₁.setTop (mkF m 9 #[.val (.long p1), .second, .val (.int p2), .val (.int p3), .val (.long (v0_5 p1 p2 p3)), .second, .unset, .unset, .unset, .unset, .unset, .unset, .unset, .unset, .unset, .unset, .unset] [(.long (p2.toInt64))])) _
    refine X0.ldc2Long hx hown (mvT hZ (hw _ (List.mem_of_getElem? (i := 1) rfl))) (g := (mkF m 9 #[.val (.long p1), .second, .val (.int p2), .val (.int p3), .val (.long (v0_5 p1 p2 p3)), .second, .unset, .unset, .unset, .unset, .unset, .unset, .unset, .unset, .unset, .unset, .unset] [(.long (p2.toInt64))])) rfl (hb hby at_9) _ ?_
    show Steps p.tables e below (s₁.setTop (mkF m 12 #[.val (.long p1), .second, .val (.int p2), .val (.int p3), .val (.long (v0_5 p1 p2 p3)), .second, .unset, .unset, .unset, .unset, .unset, .unset, .unset, .unset, .unset, .unset, .unset] [(.long (2147483647 : Int64)), (.long (p2.toInt64))])) _
    refine XS.land X0.here hx rfl (hb hby at_12) rfl ?_
    show Steps p.tables e below (s₁.setTop (mkF m 13 #[.val (.long p1), .second, .val (.int p2), .val (.int p3), .val (.long (v0_5 p1 p2 p3)), .second, .unset, .unset, .unset, .unset, .unset, .unset, .unset, .unset, .unset, .unset, .unset] [(.long ((p2.toInt64) &&& (2147483647 : Int64)))])) _
    refine XS.lstore X0.here hx rfl (hb hby at_13) rfl (l' := #[.val (.long p1), .second, .val (.int p2), .val (.int p3), .val (.long (v0_5 p1 p2 p3)), .second, .val (.long (v0_13 p1 p2 p3)), .second, .unset, .unset, .unset, .unset, .unset, .unset, .unset, .unset, .unset]) rfl ?_
    show Steps p.tables e below (s₁.setTop (mkF m 15 #[.val (.long p1), .second, .val (.int p2), .val (.int p3), .val (.long (v0_5 p1 p2 p3)), .second, .val (.long (v0_13 p1 p2 p3)), .second, .unset, .unset, .unset, .unset, .unset, .unset, .unset, .unset, .unset] [])) _
    refine XS.iloadN X0.here hx rfl (hb hby at_15) rfl ?_
    show Steps p.tables e below (s₁.setTop (mkF m 16 #[.val (.long p1), .second, .val (.int p2), .val (.int p3), .val (.long (v0_5 p1 p2 p3)), .second, .val (.long (v0_13 p1 p2 p3)), .second, .unset, .unset, .unset, .unset, .unset, .unset, .unset, .unset, .unset] [(.int p3)])) _
    refine XS.i2l X0.here hx rfl (hb hby at_16) rfl ?_
    show Steps p.tables e below (s₁.setTop (mkF m 17 #[.val (.long p1), .second, .val (.int p2), .val (.int p3), .val (.long (v0_5 p1 p2 p3)), .second, .val (.long (v0_13 p1 p2 p3)), .second, .unset, .unset, .unset, .unset, .unset, .unset, .unset, .unset, .unset] [(.long (p3.toInt64))])) _
    refine X0.ldc2Long hx hown (mvT hZ (hw _ (List.mem_of_getElem? (i := 1) rfl))) (g := (mkF m 17 #[.val (.long p1), .second, .val (.int p2), .val (.int p3), .val (.long (v0_5 p1 p2 p3)), .second, .val (.long (v0_13 p1 p2 p3)), .second, .unset, .unset, .unset, .unset, .unset, .unset, .unset, .unset, .unset] [(.long (p3.toInt64))])) rfl (hb hby at_17) _ ?_
    show Steps p.tables e below (s₁.setTop (mkF m 20 #[.val (.long p1), .second, .val (.int p2), .val (.int p3), .val (.long (v0_5 p1 p2 p3)), .second, .val (.long (v0_13 p1 p2 p3)), .second, .unset, .unset, .unset, .unset, .unset, .unset, .unset, .unset, .unset] [(.long (2147483647 : Int64)), (.long (p3.toInt64))])) _
    refine XS.land X0.here hx rfl (hb hby at_20) rfl ?_
    show Steps p.tables e below (s₁.setTop (mkF m 21 #[.val (.long p1), .second, .val (.int p2), .val (.int p3), .val (.long (v0_5 p1 p2 p3)), .second, .val (.long (v0_13 p1 p2 p3)), .second, .unset, .unset, .unset, .unset, .unset, .unset, .unset, .unset, .unset] [(.long ((p3.toInt64) &&& (2147483647 : Int64)))])) _
    refine XS.lstore X0.here hx rfl (hb hby at_21) rfl (l' := #[.val (.long p1), .second, .val (.int p2), .val (.int p3), .val (.long (v0_5 p1 p2 p3)), .second, .val (.long (v0_13 p1 p2 p3)), .second, .val (.long (v0_21 p1 p2 p3)), .second, .unset, .unset, .unset, .unset, .unset, .unset, .unset]) rfl ?_
    exact kt)
  obtain ⟨T2, h2, X2, e2, E2, A2, D2, -, st2⟩ := newO X0 hx hZ hown (hw _ (List.mem_of_getElem? (i := 2) rfl)) (hw _ (List.mem_of_getElem? (i := 3) rfl)) (hw _ (List.mem_of_getElem? (i := 4) rfl)) e0 (g := (mkF m 23 #[.val (.long p1), .second, .val (.int p2), .val (.int p3), .val (.long (v0_5 p1 p2 p3)), .second, .val (.long (v0_13 p1 p2 p3)), .second, .val (.long (v0_21 p1 p2 p3)), .second, .unset, .unset, .unset, .unset, .unset, .unset, .unset] [])) rfl (hb hby at_23) (by decide) (by decide)
  obtain ⟨b2, g2⟩ : ∃ z, z = h0.size := ⟨_, rfl⟩
  rw [← g2] at A2 D2 st2
  have g_b2 : n0 ≤ b2 := Nat.le_trans Z0 (Nat.le_of_eq g2.symm)
  have Z2 : n0 ≤ h2.size := Nat.le_trans Z0 E2.1
  have F2_left : Fld Z h2 b2 "com/example/grantwell/grantwell/core/Budget" "left" "J" (.long (0 : Int64)) := D2 (Or.inl (hw _ (List.mem_of_getElem? (i := 12) rfl))) (ty := .long) (by decide)
  have k3 : ∀ t, Steps p.tables e below (T2.setTop (mkF m 29 #[.val (.long p1), .second, .val (.int p2), .val (.int p3), .val (.long (v0_5 p1 p2 p3)), .second, .val (.long (v0_13 p1 p2 p3)), .second, .val (.long (v0_21 p1 p2 p3)), .second, .unset, .unset, .unset, .unset, .unset, .unset, .unset] [(.long (v0_5 p1 p2 p3)), (.ref b2), (.ref b2)])) t → Steps p.tables e below (s₁.setTop (mkF m 0 #[.val (.long p1), .second, .val (.int p2), .val (.int p3), .unset, .unset, .unset, .unset, .unset, .unset, .unset, .unset, .unset, .unset, .unset, .unset, .unset] [])) t := fun t kt => k1 t (by
    show Steps p.tables e below (s₁.setTop (mkF m 23 #[.val (.long p1), .second, .val (.int p2), .val (.int p3), .val (.long (v0_5 p1 p2 p3)), .second, .val (.long (v0_13 p1 p2 p3)), .second, .val (.long (v0_21 p1 p2 p3)), .second, .unset, .unset, .unset, .unset, .unset, .unset, .unset] [])) _
    refine st2 _ ?_
    show Steps p.tables e below (T2.setTop (mkF m 26 #[.val (.long p1), .second, .val (.int p2), .val (.int p3), .val (.long (v0_5 p1 p2 p3)), .second, .val (.long (v0_13 p1 p2 p3)), .second, .val (.long (v0_21 p1 p2 p3)), .second, .unset, .unset, .unset, .unset, .unset, .unset, .unset] [(.ref b2)])) _
    refine XS.dup X2.here hx rfl (hb hby at_26) rfl rfl ?_
    show Steps p.tables e below (T2.setTop (mkF m 27 #[.val (.long p1), .second, .val (.int p2), .val (.int p3), .val (.long (v0_5 p1 p2 p3)), .second, .val (.long (v0_13 p1 p2 p3)), .second, .val (.long (v0_21 p1 p2 p3)), .second, .unset, .unset, .unset, .unset, .unset, .unset, .unset] [(.ref b2), (.ref b2)])) _
    refine XS.lload X2.here hx rfl (hb hby at_27) rfl ?_
    exact kt)
  obtain ⟨_, _, ⟨T4, L4, k4', n4⟩, -, X4, ⟨Lc4, hQ4, l4, y4, z4⟩, st4⟩ := X2.specialBack hx (y := (⟨"com/example/grantwell/grantwell/core/Budget", "<init>", "(J)V"⟩ : MethodName)) rfl hown (mvT hZ (hw _ (List.mem_of_getElem? (i := 5) rfl))) (mvT hZ (hw _ (List.mem_of_getElem? (i := 6) rfl))) (mvT hZ (hw _ (List.mem_of_getElem? (i := 7) rfl))) (by decide) (backOf (W := 1) (rm1 l Z a0 hw [] b2 (v0_5 p1 p2 p3) (.long (0 : Int64)) h2 n0 Z2 A2 F2_left g_b2) hZ (hw _ (List.mem_of_getElem? (i := 7) rfl)) (hw _ (List.mem_of_getElem? (i := 4) rfl)) (by decide) (by decide)) (g := (mkF m 29 #[.val (.long p1), .second, .val (.int p2), .val (.int p3), .val (.long (v0_5 p1 p2 p3)), .second, .val (.long (v0_13 p1 p2 p3)), .second, .val (.long (v0_21 p1 p2 p3)), .second, .unset, .unset, .unset, .unset, .unset, .unset, .unset] [(.long (v0_5 p1 p2 p3)), (.ref b2), (.ref b2)])) rfl (by rw [hml]; rfl) (Steps.refl _) (a := b2) (argsL := [(.long (v0_5 p1 p2 p3))]) (rest := [(.ref b2)]) (lenOf pd0_0 rfl) rfl (by show 2 * 0 + _ ≤ _; exact Nat.le_of_eq rfl) (hb hby at_29) (fun _ _ => ⟨rfl, e2, (by decide : 1 + 0 ≤ _), (by decide : 1 + 0 ≤ _)⟩)
  dsimp only [Pt.U, Pt.locs, Pt.cells, Pt.slots] at X4 l4 y4 z4 st4 hQ4
  subst l4 y4 z4
  obtain ⟨rfl, N4q, Kq4, Eq4, Fq4_left⟩ := hQ4
  have N4 := Fr.app N0 N4q
  have Z4 : n0 ≤ T4.heap.size := Nat.le_trans Z2 Kq4.1
  have k5 : ∀ t, Steps p.tables e below (T4.setTop (mkF m 36 #[.val (.long p1), .second, .val (.int p2), .val (.int p3), .val (.long (v0_5 p1 p2 p3)), .second, .val (.long (v0_13 p1 p2 p3)), .second, .val (.long (v0_21 p1 p2 p3)), .second, .val (.ref b2), .unset, .unset, .unset, .unset, .unset, .unset] [(.ref b2)])) t → Steps p.tables e below (s₁.setTop (mkF m 0 #[.val (.long p1), .second, .val (.int p2), .val (.int p3), .unset, .unset, .unset, .unset, .unset, .unset, .unset, .unset, .unset, .unset, .unset, .unset, .unset] [])) t := fun t kt => k3 t (by
    show Steps p.tables e below (T2.setTop (mkF m 29 #[.val (.long p1), .second, .val (.int p2), .val (.int p3), .val (.long (v0_5 p1 p2 p3)), .second, .val (.long (v0_13 p1 p2 p3)), .second, .val (.long (v0_21 p1 p2 p3)), .second, .unset, .unset, .unset, .unset, .unset, .unset, .unset] [(.long (v0_5 p1 p2 p3)), (.ref b2), (.ref b2)])) _
    refine st4.trans ?_
    show Steps p.tables e below (T4.setTop (mkF m 32 #[.val (.long p1), .second, .val (.int p2), .val (.int p3), .val (.long (v0_5 p1 p2 p3)), .second, .val (.long (v0_13 p1 p2 p3)), .second, .val (.long (v0_21 p1 p2 p3)), .second, .unset, .unset, .unset, .unset, .unset, .unset, .unset] [(.ref b2)])) _
    refine XS.astore X4.here hx rfl (hb hby at_32) rfl rfl (l' := #[.val (.long p1), .second, .val (.int p2), .val (.int p3), .val (.long (v0_5 p1 p2 p3)), .second, .val (.long (v0_13 p1 p2 p3)), .second, .val (.long (v0_21 p1 p2 p3)), .second, .val (.ref b2), .unset, .unset, .unset, .unset, .unset, .unset]) rfl ?_
    show Steps p.tables e below (T4.setTop (mkF m 34 #[.val (.long p1), .second, .val (.int p2), .val (.int p3), .val (.long (v0_5 p1 p2 p3)), .second, .val (.long (v0_13 p1 p2 p3)), .second, .val (.long (v0_21 p1 p2 p3)), .second, .val (.ref b2), .unset, .unset, .unset, .unset, .unset, .unset] [])) _
    refine XS.aload X4.here hx rfl (hb hby at_34) rfl rfl ?_
    exact kt)
  obtain ⟨cq6, kq6, q6a, q6b, q6c⟩ := isOf hZ rfl Eq4
  obtain ⟨_, _, ⟨T6, L6, k6', n6⟩, -, X6, ⟨Lc6, hQ6, l6, y6, z6⟩, st6⟩ := X4.virtualBack hx (y := (⟨"com/example/grantwell/grantwell/core/Budget", "spent", "()Z"⟩ : MethodName)) (z := (⟨"com/example/grantwell/grantwell/core/Budget", "spent", "()Z"⟩ : MethodName)) hown (mvT hZ (hw _ (List.mem_of_getElem? (i := 13) rfl))) (mvT hZ (hw _ (List.mem_of_getElem? (i := 14) rfl))) (notFace_of_selects (args := #[]) (mvT hZ (hw _ (List.mem_of_getElem? (i := 16) rfl)))) (mvT hZ (hw _ (List.mem_of_getElem? (i := 16) rfl))) (mvT hZ (hw _ (List.mem_of_getElem? (i := 15) rfl))) (by decide) (backOf (W := 0) (rm3 l Z a0 hw [] b2 (v0_5 p1 p2 p3) T4.heap n0 Z4 Fq4_left) hZ (hw _ (List.mem_of_getElem? (i := 17) rfl)) (hw _ (List.mem_of_getElem? (i := 4) rfl)) (by decide) (by decide)) q6a q6c (g := (mkF m 36 #[.val (.long p1), .second, .val (.int p2), .val (.int p3), .val (.long (v0_5 p1 p2 p3)), .second, .val (.long (v0_13 p1 p2 p3)), .second, .val (.long (v0_21 p1 p2 p3)), .second, .val (.ref b2), .unset, .unset, .unset, .unset, .unset, .unset] [(.ref b2)])) rfl (by rw [hml]; rfl) (Steps.refl _) (argsL := []) (rest := []) (lenOf pd0_1 rfl) rfl (by show 2 * 0 + _ ≤ _; exact Nat.le_of_eq rfl) (hb hby at_36) (fun _ _ => ⟨rfl, rfl, (by decide : 1 + 0 ≤ _), (by decide : 1 + 0 ≤ _)⟩)
  dsimp only [Pt.U, Pt.locs, Pt.cells, Pt.slots] at X6 l6 y6 z6 st6 hQ6
  subst l6 y6 z6
  obtain ⟨rfl, N6q, hh6⟩ := hQ6
  have N6 := Fr.app N4 N6q
  have k7 : ∀ t, Steps p.tables e below (T6.setTop (mkF m 45 #[.val (.long p1), .second, .val (.int p2), .val (.int p3), .val (.long (v0_5 p1 p2 p3)), .second, .val (.long (v0_13 p1 p2 p3)), .second, .val (.long (v0_21 p1 p2 p3)), .second, .val (.ref b2), .val (.int (sp3 (v0_5 p1 p2 p3))), .unset, .unset, .unset, .unset, .unset] [(.long (v0_13 p1 p2 p3)), (.ref b2)])) t → Steps p.tables e below (s₁.setTop (mkF m 0 #[.val (.long p1), .second, .val (.int p2), .val (.int p3), .unset, .unset, .unset, .unset, .unset, .unset, .unset, .unset, .unset, .unset, .unset, .unset, .unset] [])) t := fun t kt => k5 t (by
    show Steps p.tables e below (T4.setTop (mkF m 36 #[.val (.long p1), .second, .val (.int p2), .val (.int p3), .val (.long (v0_5 p1 p2 p3)), .second, .val (.long (v0_13 p1 p2 p3)), .second, .val (.long (v0_21 p1 p2 p3)), .second, .val (.ref b2), .unset, .unset, .unset, .unset, .unset, .unset] [(.ref b2)])) _
    refine st6.trans ?_
    show Steps p.tables e below (T6.setTop (mkF m 39 #[.val (.long p1), .second, .val (.int p2), .val (.int p3), .val (.long (v0_5 p1 p2 p3)), .second, .val (.long (v0_13 p1 p2 p3)), .second, .val (.long (v0_21 p1 p2 p3)), .second, .val (.ref b2), .unset, .unset, .unset, .unset, .unset, .unset] [(.int (sp3 (v0_5 p1 p2 p3)))])) _
    refine XS.istore X6.here hx rfl (hb hby at_39) rfl (l' := #[.val (.long p1), .second, .val (.int p2), .val (.int p3), .val (.long (v0_5 p1 p2 p3)), .second, .val (.long (v0_13 p1 p2 p3)), .second, .val (.long (v0_21 p1 p2 p3)), .second, .val (.ref b2), .val (.int (sp3 (v0_5 p1 p2 p3))), .unset, .unset, .unset, .unset, .unset]) rfl ?_
    show Steps p.tables e below (T6.setTop (mkF m 41 #[.val (.long p1), .second, .val (.int p2), .val (.int p3), .val (.long (v0_5 p1 p2 p3)), .second, .val (.long (v0_13 p1 p2 p3)), .second, .val (.long (v0_21 p1 p2 p3)), .second, .val (.ref b2), .val (.int (sp3 (v0_5 p1 p2 p3))), .unset, .unset, .unset, .unset, .unset] [])) _
    refine XS.aload X6.here hx rfl (hb hby at_41) rfl rfl ?_
    show Steps p.tables e below (T6.setTop (mkF m 43 #[.val (.long p1), .second, .val (.int p2), .val (.int p3), .val (.long (v0_5 p1 p2 p3)), .second, .val (.long (v0_13 p1 p2 p3)), .second, .val (.long (v0_21 p1 p2 p3)), .second, .val (.ref b2), .val (.int (sp3 (v0_5 p1 p2 p3))), .unset, .unset, .unset, .unset, .unset] [(.ref b2)])) _
    refine XS.lload X6.here hx rfl (hb hby at_43) rfl ?_
    exact kt)
  obtain ⟨cq8, kq8, q8a, q8b, q8c⟩ := isOf hZ hh6 Eq4
  obtain ⟨_, _, ⟨T8, L8, k8', n8⟩, -, X8, ⟨Lc8, hQ8, l8, y8, z8⟩, st8⟩ := X6.virtualBack hx (y := (⟨"com/example/grantwell/grantwell/core/Budget", "spend", "(J)V"⟩ : MethodName)) (z := (⟨"com/example/grantwell/grantwell/core/Budget", "spend", "(J)V"⟩ : MethodName)) hown (mvT hZ (hw _ (List.mem_of_getElem? (i := 18) rfl))) (mvT hZ (hw _ (List.mem_of_getElem? (i := 19) rfl))) (notFace_of_selects (args := #[]) (mvT hZ (hw _ (List.mem_of_getElem? (i := 21) rfl)))) (mvT hZ (hw _ (List.mem_of_getElem? (i := 21) rfl))) (mvT hZ (hw _ (List.mem_of_getElem? (i := 20) rfl))) (by decide) (backOf (W := 0) (rm4 l Z a0 hw [] b2 (v0_13 p1 p2 p3) (v0_5 p1 p2 p3) T4.heap n0 Z4 Fq4_left Eq4 g_b2) hZ (hw _ (List.mem_of_getElem? (i := 22) rfl)) (hw _ (List.mem_of_getElem? (i := 4) rfl)) (by decide) (by decide)) q8a q8c (g := (mkF m 45 #[.val (.long p1), .second, .val (.int p2), .val (.int p3), .val (.long (v0_5 p1 p2 p3)), .second, .val (.long (v0_13 p1 p2 p3)), .second, .val (.long (v0_21 p1 p2 p3)), .second, .val (.ref b2), .val (.int (sp3 (v0_5 p1 p2 p3))), .unset, .unset, .unset, .unset, .unset] [(.long (v0_13 p1 p2 p3)), (.ref b2)])) rfl (by rw [hml]; rfl) (Steps.refl _) (argsL := [(.long (v0_13 p1 p2 p3))]) (rest := []) (lenOf pd0_0 rfl) rfl (by show 2 * 0 + _ ≤ _; exact Nat.le_of_eq rfl) (hb hby at_45) (fun _ _ => ⟨rfl, hh6, (by decide : 1 + 0 ≤ _), (by decide : 1 + 0 ≤ _)⟩)
  dsimp only [Pt.U, Pt.locs, Pt.cells, Pt.slots] at X8 l8 y8 z8 st8 hQ8
  subst l8 y8 z8
  obtain ⟨rfl, N8q, Kq8, Eq8, Fq8_left⟩ := hQ8
  have N8 := Fr.app N6 N8q
  have Z8 : n0 ≤ T8.heap.size := Nat.le_trans Z4 Kq8.1
  have k9 : ∀ t, Steps p.tables e below (T8.setTop (mkF m 50 #[.val (.long p1), .second, .val (.int p2), .val (.int p3), .val (.long (v0_5 p1 p2 p3)), .second, .val (.long (v0_13 p1 p2 p3)), .second, .val (.long (v0_21 p1 p2 p3)), .second, .val (.ref b2), .val (.int (sp3 (v0_5 p1 p2 p3))), .unset, .unset, .unset, .unset, .unset] [(.ref b2)])) t → Steps p.tables e below (s₁.setTop (mkF m 0 #[.val (.long p1), .second, .val (.int p2), .val (.int p3), .unset, .unset, .unset, .unset, .unset, .unset, .unset, .unset, .unset, .unset, .unset, .unset, .unset] [])) t := fun t kt => k7 t (by
    show Steps p.tables e below (T6.setTop (mkF m 45 #[.val (.long p1), .second, .val (.int p2), .val (.int p3), .val (.long (v0_5 p1 p2 p3)), .second, .val (.long (v0_13 p1 p2 p3)), .second, .val (.long (v0_21 p1 p2 p3)), .second, .val (.ref b2), .val (.int (sp3 (v0_5 p1 p2 p3))), .unset, .unset, .unset, .unset, .unset] [(.long (v0_13 p1 p2 p3)), (.ref b2)])) _
    refine st8.trans ?_
    show Steps p.tables e below (T8.setTop (mkF m 48 #[.val (.long p1), .second, .val (.int p2), .val (.int p3), .val (.long (v0_5 p1 p2 p3)), .second, .val (.long (v0_13 p1 p2 p3)), .second, .val (.long (v0_21 p1 p2 p3)), .second, .val (.ref b2), .val (.int (sp3 (v0_5 p1 p2 p3))), .unset, .unset, .unset, .unset, .unset] [])) _
    refine XS.aload X8.here hx rfl (hb hby at_48) rfl rfl ?_
    exact kt)
  obtain ⟨cq10, kq10, q10a, q10b, q10c⟩ := isOf hZ rfl Eq8
  obtain ⟨_, _, ⟨T10, L10, k10', n10⟩, -, X10, ⟨Lc10, hQ10, l10, y10, z10⟩, st10⟩ := X8.virtualBack hx (y := (⟨"com/example/grantwell/grantwell/core/Budget", "spent", "()Z"⟩ : MethodName)) (z := (⟨"com/example/grantwell/grantwell/core/Budget", "spent", "()Z"⟩ : MethodName)) hown (mvT hZ (hw _ (List.mem_of_getElem? (i := 13) rfl))) (mvT hZ (hw _ (List.mem_of_getElem? (i := 14) rfl))) (notFace_of_selects (args := #[]) (mvT hZ (hw _ (List.mem_of_getElem? (i := 16) rfl)))) (mvT hZ (hw _ (List.mem_of_getElem? (i := 16) rfl))) (mvT hZ (hw _ (List.mem_of_getElem? (i := 15) rfl))) (by decide) (backOf (W := 0) (rm3 l Z a0 hw [] b2 ((v0_5 p1 p2 p3) - (v0_13 p1 p2 p3)) T8.heap n0 Z8 Fq8_left) hZ (hw _ (List.mem_of_getElem? (i := 17) rfl)) (hw _ (List.mem_of_getElem? (i := 4) rfl)) (by decide) (by decide)) q10a q10c (g := (mkF m 50 #[.val (.long p1), .second, .val (.int p2), .val (.int p3), .val (.long (v0_5 p1 p2 p3)), .second, .val (.long (v0_13 p1 p2 p3)), .second, .val (.long (v0_21 p1 p2 p3)), .second, .val (.ref b2), .val (.int (sp3 (v0_5 p1 p2 p3))), .unset, .unset, .unset, .unset, .unset] [(.ref b2)])) rfl (by rw [hml]; rfl) (Steps.refl _) (argsL := []) (rest := []) (lenOf pd0_1 rfl) rfl (by show 2 * 0 + _ ≤ _; exact Nat.le_of_eq rfl) (hb hby at_50) (fun _ _ => ⟨rfl, rfl, (by decide : 1 + 0 ≤ _), (by decide : 1 + 0 ≤ _)⟩)
  dsimp only [Pt.U, Pt.locs, Pt.cells, Pt.slots] at X10 l10 y10 z10 st10 hQ10
  subst l10 y10 z10
  obtain ⟨rfl, N10q, hh10⟩ := hQ10
  have N10 := Fr.app N8 N10q
  have k11 : ∀ t, Steps p.tables e below (T10.setTop (mkF m 59 #[.val (.long p1), .second, .val (.int p2), .val (.int p3), .val (.long (v0_5 p1 p2 p3)), .second, .val (.long (v0_13 p1 p2 p3)), .second, .val (.long (v0_21 p1 p2 p3)), .second, .val (.ref b2), .val (.int (sp3 (v0_5 p1 p2 p3))), .val (.int (sp3 ((v0_5 p1 p2 p3) - (v0_13 p1 p2 p3)))), .unset, .unset, .unset, .unset] [(.long (v0_21 p1 p2 p3)), (.ref b2)])) t → Steps p.tables e below (s₁.setTop (mkF m 0 #[.val (.long p1), .second, .val (.int p2), .val (.int p3), .unset, .unset, .unset, .unset, .unset, .unset, .unset, .unset, .unset, .unset, .unset, .unset, .unset] [])) t := fun t kt => k9 t (by
    show Steps p.tables e below (T8.setTop (mkF m 50 #[.val (.long p1), .second, .val (.int p2), .val (.int p3), .val (.long (v0_5 p1 p2 p3)), .second, .val (.long (v0_13 p1 p2 p3)), .second, .val (.long (v0_21 p1 p2 p3)), .second, .val (.ref b2), .val (.int (sp3 (v0_5 p1 p2 p3))), .unset, .unset, .unset, .unset, .unset] [(.ref b2)])) _
    refine st10.trans ?_
    show Steps p.tables e below (T10.setTop (mkF m 53 #[.val (.long p1), .second, .val (.int p2), .val (.int p3), .val (.long (v0_5 p1 p2 p3)), .second, .val (.long (v0_13 p1 p2 p3)), .second, .val (.long (v0_21 p1 p2 p3)), .second, .val (.ref b2), .val (.int (sp3 (v0_5 p1 p2 p3))), .unset, .unset, .unset, .unset, .unset] [(.int (sp3 ((v0_5 p1 p2 p3) - (v0_13 p1 p2 p3))))])) _
    refine XS.istore X10.here hx rfl (hb hby at_53) rfl (l' := #[.val (.long p1), .second, .val (.int p2), .val (.int p3), .val (.long (v0_5 p1 p2 p3)), .second, .val (.long (v0_13 p1 p2 p3)), .second, .val (.long (v0_21 p1 p2 p3)), .second, .val (.ref b2), .val (.int (sp3 (v0_5 p1 p2 p3))), .val (.int (sp3 ((v0_5 p1 p2 p3) - (v0_13 p1 p2 p3)))), .unset, .unset, .unset, .unset]) rfl ?_
    show Steps p.tables e below (T10.setTop (mkF m 55 #[.val (.long p1), .second, .val (.int p2), .val (.int p3), .val (.long (v0_5 p1 p2 p3)), .second, .val (.long (v0_13 p1 p2 p3)), .second, .val (.long (v0_21 p1 p2 p3)), .second, .val (.ref b2), .val (.int (sp3 (v0_5 p1 p2 p3))), .val (.int (sp3 ((v0_5 p1 p2 p3) - (v0_13 p1 p2 p3)))), .unset, .unset, .unset, .unset] [])) _
    refine XS.aload X10.here hx rfl (hb hby at_55) rfl rfl ?_
    show Steps p.tables e below (T10.setTop (mkF m 57 #[.val (.long p1), .second, .val (.int p2), .val (.int p3), .val (.long (v0_5 p1 p2 p3)), .second, .val (.long (v0_13 p1 p2 p3)), .second, .val (.long (v0_21 p1 p2 p3)), .second, .val (.ref b2), .val (.int (sp3 (v0_5 p1 p2 p3))), .val (.int (sp3 ((v0_5 p1 p2 p3) - (v0_13 p1 p2 p3)))), .unset, .unset, .unset, .unset] [(.ref b2)])) _
    refine XS.lload X10.here hx rfl (hb hby at_57) rfl ?_
    exact kt)
  obtain ⟨cq12, kq12, q12a, q12b, q12c⟩ := isOf hZ hh10 Eq8
  obtain ⟨_, _, ⟨T12, L12, k12', n12⟩, -, X12, ⟨Lc12, hQ12, l12, y12, z12⟩, st12⟩ := X10.virtualBack hx (y := (⟨"com/example/grantwell/grantwell/core/Budget", "spend", "(J)V"⟩ : MethodName)) (z := (⟨"com/example/grantwell/grantwell/core/Budget", "spend", "(J)V"⟩ : MethodName)) hown (mvT hZ (hw _ (List.mem_of_getElem? (i := 18) rfl))) (mvT hZ (hw _ (List.mem_of_getElem? (i := 19) rfl))) (notFace_of_selects (args := #[]) (mvT hZ (hw _ (List.mem_of_getElem? (i := 21) rfl)))) (mvT hZ (hw _ (List.mem_of_getElem? (i := 21) rfl))) (mvT hZ (hw _ (List.mem_of_getElem? (i := 20) rfl))) (by decide) (backOf (W := 0) (rm4 l Z a0 hw [] b2 (v0_21 p1 p2 p3) ((v0_5 p1 p2 p3) - (v0_13 p1 p2 p3)) T8.heap n0 Z8 Fq8_left Eq8 g_b2) hZ (hw _ (List.mem_of_getElem? (i := 22) rfl)) (hw _ (List.mem_of_getElem? (i := 4) rfl)) (by decide) (by decide)) q12a q12c (g := (mkF m 59 #[.val (.long p1), .second, .val (.int p2), .val (.int p3), .val (.long (v0_5 p1 p2 p3)), .second, .val (.long (v0_13 p1 p2 p3)), .second, .val (.long (v0_21 p1 p2 p3)), .second, .val (.ref b2), .val (.int (sp3 (v0_5 p1 p2 p3))), .val (.int (sp3 ((v0_5 p1 p2 p3) - (v0_13 p1 p2 p3)))), .unset, .unset, .unset, .unset] [(.long (v0_21 p1 p2 p3)), (.ref b2)])) rfl (by rw [hml]; rfl) (Steps.refl _) (argsL := [(.long (v0_21 p1 p2 p3))]) (rest := []) (lenOf pd0_0 rfl) rfl (by show 2 * 0 + _ ≤ _; exact Nat.le_of_eq rfl) (hb hby at_59) (fun _ _ => ⟨rfl, hh10, (by decide : 1 + 0 ≤ _), (by decide : 1 + 0 ≤ _)⟩)
  dsimp only [Pt.U, Pt.locs, Pt.cells, Pt.slots] at X12 l12 y12 z12 st12 hQ12
  subst l12 y12 z12
  obtain ⟨rfl, N12q, Kq12, Eq12, Fq12_left⟩ := hQ12
  have N12 := Fr.app N10 N12q
  have Z12 : n0 ≤ T12.heap.size := Nat.le_trans Z8 Kq12.1
  have k13 : ∀ t, Steps p.tables e below (T12.setTop (mkF m 64 #[.val (.long p1), .second, .val (.int p2), .val (.int p3), .val (.long (v0_5 p1 p2 p3)), .second, .val (.long (v0_13 p1 p2 p3)), .second, .val (.long (v0_21 p1 p2 p3)), .second, .val (.ref b2), .val (.int (sp3 (v0_5 p1 p2 p3))), .val (.int (sp3 ((v0_5 p1 p2 p3) - (v0_13 p1 p2 p3)))), .unset, .unset, .unset, .unset] [(.ref b2)])) t → Steps p.tables e below (s₁.setTop (mkF m 0 #[.val (.long p1), .second, .val (.int p2), .val (.int p3), .unset, .unset, .unset, .unset, .unset, .unset, .unset, .unset, .unset, .unset, .unset, .unset, .unset] [])) t := fun t kt => k11 t (by
    show Steps p.tables e below (T10.setTop (mkF m 59 #[.val (.long p1), .second, .val (.int p2), .val (.int p3), .val (.long (v0_5 p1 p2 p3)), .second, .val (.long (v0_13 p1 p2 p3)), .second, .val (.long (v0_21 p1 p2 p3)), .second, .val (.ref b2), .val (.int (sp3 (v0_5 p1 p2 p3))), .val (.int (sp3 ((v0_5 p1 p2 p3) - (v0_13 p1 p2 p3)))), .unset, .unset, .unset, .unset] [(.long (v0_21 p1 p2 p3)), (.ref b2)])) _
    refine st12.trans ?_
    show Steps p.tables e below (T12.setTop (mkF m 62 #[.val (.long p1), .second, .val (.int p2), .val (.int p3), .val (.long (v0_5 p1 p2 p3)), .second, .val (.long (v0_13 p1 p2 p3)), .second, .val (.long (v0_21 p1 p2 p3)), .second, .val (.ref b2), .val (.int (sp3 (v0_5 p1 p2 p3))), .val (.int (sp3 ((v0_5 p1 p2 p3) - (v0_13 p1 p2 p3)))), .unset, .unset, .unset, .unset] [])) _
    refine XS.aload X12.here hx rfl (hb hby at_62) rfl rfl ?_
    exact kt)
  obtain ⟨cq14, kq14, q14a, q14b, q14c⟩ := isOf hZ rfl Eq12
  obtain ⟨_, _, ⟨T14, L14, k14', n14⟩, -, X14, ⟨Lc14, hQ14, l14, y14, z14⟩, st14⟩ := X12.virtualBack hx (y := (⟨"com/example/grantwell/grantwell/core/Budget", "spent", "()Z"⟩ : MethodName)) (z := (⟨"com/example/grantwell/grantwell/core/Budget", "spent", "()Z"⟩ : MethodName)) hown (mvT hZ (hw _ (List.mem_of_getElem? (i := 13) rfl))) (mvT hZ (hw _ (List.mem_of_getElem? (i := 14) rfl))) (notFace_of_selects (args := #[]) (mvT hZ (hw _ (List.mem_of_getElem? (i := 16) rfl)))) (mvT hZ (hw _ (List.mem_of_getElem? (i := 16) rfl))) (mvT hZ (hw _ (List.mem_of_getElem? (i := 15) rfl))) (by decide) (backOf (W := 0) (rm3 l Z a0 hw [] b2 (((v0_5 p1 p2 p3) - (v0_13 p1 p2 p3)) - (v0_21 p1 p2 p3)) T12.heap n0 Z12 Fq12_left) hZ (hw _ (List.mem_of_getElem? (i := 17) rfl)) (hw _ (List.mem_of_getElem? (i := 4) rfl)) (by decide) (by decide)) q14a q14c (g := (mkF m 64 #[.val (.long p1), .second, .val (.int p2), .val (.int p3), .val (.long (v0_5 p1 p2 p3)), .second, .val (.long (v0_13 p1 p2 p3)), .second, .val (.long (v0_21 p1 p2 p3)), .second, .val (.ref b2), .val (.int (sp3 (v0_5 p1 p2 p3))), .val (.int (sp3 ((v0_5 p1 p2 p3) - (v0_13 p1 p2 p3)))), .unset, .unset, .unset, .unset] [(.ref b2)])) rfl (by rw [hml]; rfl) (Steps.refl _) (argsL := []) (rest := []) (lenOf pd0_1 rfl) rfl (by show 2 * 0 + _ ≤ _; exact Nat.le_of_eq rfl) (hb hby at_64) (fun _ _ => ⟨rfl, rfl, (by decide : 1 + 0 ≤ _), (by decide : 1 + 0 ≤ _)⟩)
  dsimp only [Pt.U, Pt.locs, Pt.cells, Pt.slots] at X14 l14 y14 z14 st14 hQ14
  subst l14 y14 z14
  obtain ⟨rfl, N14q, hh14⟩ := hQ14
  have N14 := Fr.app N12 N14q
  have k15 : ∀ t, Steps p.tables e below (T14.setTop (mkF m 69 #[.val (.long p1), .second, .val (.int p2), .val (.int p3), .val (.long (v0_5 p1 p2 p3)), .second, .val (.long (v0_13 p1 p2 p3)), .second, .val (.long (v0_21 p1 p2 p3)), .second, .val (.ref b2), .val (.int (sp3 (v0_5 p1 p2 p3))), .val (.int (sp3 ((v0_5 p1 p2 p3) - (v0_13 p1 p2 p3)))), .val (.int (sp3 (((v0_5 p1 p2 p3) - (v0_13 p1 p2 p3)) - (v0_21 p1 p2 p3)))), .unset, .unset, .unset] [])) t → Steps p.tables e below (s₁.setTop (mkF m 0 #[.val (.long p1), .second, .val (.int p2), .val (.int p3), .unset, .unset, .unset, .unset, .unset, .unset, .unset, .unset, .unset, .unset, .unset, .unset, .unset] [])) t := fun t kt => k13 t (by
    show Steps p.tables e below (T12.setTop (mkF m 64 #[.val (.long p1), .second, .val (.int p2), .val (.int p3), .val (.long (v0_5 p1 p2 p3)), .second, .val (.long (v0_13 p1 p2 p3)), .second, .val (.long (v0_21 p1 p2 p3)), .second, .val (.ref b2), .val (.int (sp3 (v0_5 p1 p2 p3))), .val (.int (sp3 ((v0_5 p1 p2 p3) - (v0_13 p1 p2 p3)))), .unset, .unset, .unset, .unset] [(.ref b2)])) _
    refine st14.trans ?_
    show Steps p.tables e below (T14.setTop (mkF m 67 #[.val (.long p1), .second, .val (.int p2), .val (.int p3), .val (.long (v0_5 p1 p2 p3)), .second, .val (.long (v0_13 p1 p2 p3)), .second, .val (.long (v0_21 p1 p2 p3)), .second, .val (.ref b2), .val (.int (sp3 (v0_5 p1 p2 p3))), .val (.int (sp3 ((v0_5 p1 p2 p3) - (v0_13 p1 p2 p3)))), .unset, .unset, .unset, .unset] [(.int (sp3 (((v0_5 p1 p2 p3) - (v0_13 p1 p2 p3)) - (v0_21 p1 p2 p3))))])) _
    refine XS.istore X14.here hx rfl (hb hby at_67) rfl (l' := #[.val (.long p1), .second, .val (.int p2), .val (.int p3), .val (.long (v0_5 p1 p2 p3)), .second, .val (.long (v0_13 p1 p2 p3)), .second, .val (.long (v0_21 p1 p2 p3)), .second, .val (.ref b2), .val (.int (sp3 (v0_5 p1 p2 p3))), .val (.int (sp3 ((v0_5 p1 p2 p3) - (v0_13 p1 p2 p3)))), .val (.int (sp3 (((v0_5 p1 p2 p3) - (v0_13 p1 p2 p3)) - (v0_21 p1 p2 p3)))), .unset, .unset, .unset]) rfl ?_
    exact kt)
  obtain ⟨T16, h16, X16, e16, E16, A16, D16, -, st16⟩ := newO X14 hx hZ hown (hw _ (List.mem_of_getElem? (i := 2) rfl)) (hw _ (List.mem_of_getElem? (i := 3) rfl)) (hw _ (List.mem_of_getElem? (i := 4) rfl)) hh14 (g := (mkF m 69 #[.val (.long p1), .second, .val (.int p2), .val (.int p3), .val (.long (v0_5 p1 p2 p3)), .second, .val (.long (v0_13 p1 p2 p3)), .second, .val (.long (v0_21 p1 p2 p3)), .second, .val (.ref b2), .val (.int (sp3 (v0_5 p1 p2 p3))), .val (.int (sp3 ((v0_5 p1 p2 p3) - (v0_13 p1 p2 p3)))), .val (.int (sp3 (((v0_5 p1 p2 p3) - (v0_13 p1 p2 p3)) - (v0_21 p1 p2 p3)))), .unset, .unset, .unset] [])) rfl (hb hby at_69) (by decide) (by decide)
  obtain ⟨b16, g16⟩ : ∃ z, z = T12.heap.size := ⟨_, rfl⟩
  rw [← g16] at A16 D16 st16
  have ne_b2_b16 : b2 ≠ b16 := Nat.ne_of_lt (Nat.lt_of_lt_of_le Eq12.lt (Nat.le_of_eq g16.symm))
  have g_b16 : n0 ≤ b16 := Nat.le_trans Z12 (Nat.le_of_eq g16.symm)
  have Z16 : n0 ≤ h16.size := Nat.le_trans Z12 E16.1
  have f17 := Eq12.ext E16
  have f18 := Fq12_left.ext E16
  have F16_left : Fld Z h16 b16 "com/example/grantwell/grantwell/core/Budget" "left" "J" (.long (0 : Int64)) := D16 (Or.inl (hw _ (List.mem_of_getElem? (i := 12) rfl))) (ty := .long) (by decide)
  have k19 : ∀ t, Steps p.tables e below (T16.setTop (mkF m 75 #[.val (.long p1), .second, .val (.int p2), .val (.int p3), .val (.long (v0_5 p1 p2 p3)), .second, .val (.long (v0_13 p1 p2 p3)), .second, .val (.long (v0_21 p1 p2 p3)), .second, .val (.ref b2), .val (.int (sp3 (v0_5 p1 p2 p3))), .val (.int (sp3 ((v0_5 p1 p2 p3) - (v0_13 p1 p2 p3)))), .val (.int (sp3 (((v0_5 p1 p2 p3) - (v0_13 p1 p2 p3)) - (v0_21 p1 p2 p3)))), .unset, .unset, .unset] [(.long (v0_5 p1 p2 p3)), (.ref b16), (.ref b16)])) t → Steps p.tables e below (s₁.setTop (mkF m 0 #[.val (.long p1), .second, .val (.int p2), .val (.int p3), .unset, .unset, .unset, .unset, .unset, .unset, .unset, .unset, .unset, .unset, .unset, .unset, .unset] [])) t := fun t kt => k15 t (by
    show Steps p.tables e below (T14.setTop (mkF m 69 #[.val (.long p1), .second, .val (.int p2), .val (.int p3), .val (.long (v0_5 p1 p2 p3)), .second, .val (.long (v0_13 p1 p2 p3)), .second, .val (.long (v0_21 p1 p2 p3)), .second, .val (.ref b2), .val (.int (sp3 (v0_5 p1 p2 p3))), .val (.int (sp3 ((v0_5 p1 p2 p3) - (v0_13 p1 p2 p3)))), .val (.int (sp3 (((v0_5 p1 p2 p3) - (v0_13 p1 p2 p3)) - (v0_21 p1 p2 p3)))), .unset, .unset, .unset] [])) _
    refine st16 _ ?_
    show Steps p.tables e below (T16.setTop (mkF m 72 #[.val (.long p1), .second, .val (.int p2), .val (.int p3), .val (.long (v0_5 p1 p2 p3)), .second, .val (.long (v0_13 p1 p2 p3)), .second, .val (.long (v0_21 p1 p2 p3)), .second, .val (.ref b2), .val (.int (sp3 (v0_5 p1 p2 p3))), .val (.int (sp3 ((v0_5 p1 p2 p3) - (v0_13 p1 p2 p3)))), .val (.int (sp3 (((v0_5 p1 p2 p3) - (v0_13 p1 p2 p3)) - (v0_21 p1 p2 p3)))), .unset, .unset, .unset] [(.ref b16)])) _
    refine XS.dup X16.here hx rfl (hb hby at_72) rfl rfl ?_
    show Steps p.tables e below (T16.setTop (mkF m 73 #[.val (.long p1), .second, .val (.int p2), .val (.int p3), .val (.long (v0_5 p1 p2 p3)), .second, .val (.long (v0_13 p1 p2 p3)), .second, .val (.long (v0_21 p1 p2 p3)), .second, .val (.ref b2), .val (.int (sp3 (v0_5 p1 p2 p3))), .val (.int (sp3 ((v0_5 p1 p2 p3) - (v0_13 p1 p2 p3)))), .val (.int (sp3 (((v0_5 p1 p2 p3) - (v0_13 p1 p2 p3)) - (v0_21 p1 p2 p3)))), .unset, .unset, .unset] [(.ref b16), (.ref b16)])) _
    refine XS.lload X16.here hx rfl (hb hby at_73) rfl ?_
    exact kt)
  obtain ⟨_, _, ⟨T20, L20, k20', n20⟩, -, X20, ⟨Lc20, hQ20, l20, y20, z20⟩, st20⟩ := X16.specialBack hx (y := (⟨"com/example/grantwell/grantwell/core/Budget", "<init>", "(J)V"⟩ : MethodName)) rfl hown (mvT hZ (hw _ (List.mem_of_getElem? (i := 5) rfl))) (mvT hZ (hw _ (List.mem_of_getElem? (i := 6) rfl))) (mvT hZ (hw _ (List.mem_of_getElem? (i := 7) rfl))) (by decide) (backOf (W := 1) (rm1 l Z a0 hw [] b16 (v0_5 p1 p2 p3) (.long (0 : Int64)) h16 n0 Z16 A16 F16_left g_b16) hZ (hw _ (List.mem_of_getElem? (i := 7) rfl)) (hw _ (List.mem_of_getElem? (i := 4) rfl)) (by decide) (by decide)) (g := (mkF m 75 #[.val (.long p1), .second, .val (.int p2), .val (.int p3), .val (.long (v0_5 p1 p2 p3)), .second, .val (.long (v0_13 p1 p2 p3)), .second, .val (.long (v0_21 p1 p2 p3)), .second, .val (.ref b2), .val (.int (sp3 (v0_5 p1 p2 p3))), .val (.int (sp3 ((v0_5 p1 p2 p3) - (v0_13 p1 p2 p3)))), .val (.int (sp3 (((v0_5 p1 p2 p3) - (v0_13 p1 p2 p3)) - (v0_21 p1 p2 p3)))), .unset, .unset, .unset] [(.long (v0_5 p1 p2 p3)), (.ref b16), (.ref b16)])) rfl (by rw [hml]; rfl) (Steps.refl _) (a := b16) (argsL := [(.long (v0_5 p1 p2 p3))]) (rest := [(.ref b16)]) (lenOf pd0_0 rfl) rfl (by show 2 * 0 + _ ≤ _; exact Nat.le_of_eq rfl) (hb hby at_75) (fun _ _ => ⟨rfl, e16, (by decide : 2 + 0 ≤ _), (by decide : 2 + 0 ≤ _)⟩)
  dsimp only [Pt.U, Pt.locs, Pt.cells, Pt.slots] at X20 l20 y20 z20 st20 hQ20
  subst l20 y20 z20
  obtain ⟨rfl, N20q, Kq20, Eq20, Fq20_left⟩ := hQ20
  have N20 := Fr.app N14 N20q
  have Z20 : n0 ≤ T20.heap.size := Nat.le_trans Z16 Kq20.1
  have f21 := f17.keep Kq20
  have f22 := f18.keep Kq20 (ninS ne_b2_b16 nin0)
  have k23 : ∀ t, Steps p.tables e below (T20.setTop (mkF m 84 #[.val (.long p1), .second, .val (.int p2), .val (.int p3), .val (.long (v0_5 p1 p2 p3)), .second, .val (.long (v0_13 p1 p2 p3)), .second, .val (.long (v0_21 p1 p2 p3)), .second, .val (.ref b2), .val (.int (sp3 (v0_5 p1 p2 p3))), .val (.int (sp3 ((v0_5 p1 p2 p3) - (v0_13 p1 p2 p3)))), .val (.int (sp3 (((v0_5 p1 p2 p3) - (v0_13 p1 p2 p3)) - (v0_21 p1 p2 p3)))), .val (.ref b16), .unset, .unset] [(.long (v0_5 p1 p2 p3)), (.ref b16)])) t → Steps p.tables e below (s₁.setTop (mkF m 0 #[.val (.long p1), .second, .val (.int p2), .val (.int p3), .unset, .unset, .unset, .unset, .unset, .unset, .unset, .unset, .unset, .unset, .unset, .unset, .unset] [])) t := fun t kt => k19 t (by
    show Steps p.tables e below (T16.setTop (mkF m 75 #[.val (.long p1), .second, .val (.int p2), .val (.int p3), .val (.long (v0_5 p1 p2 p3)), .second, .val (.long (v0_13 p1 p2 p3)), .second, .val (.long (v0_21 p1 p2 p3)), .second, .val (.ref b2), .val (.int (sp3 (v0_5 p1 p2 p3))), .val (.int (sp3 ((v0_5 p1 p2 p3) - (v0_13 p1 p2 p3)))), .val (.int (sp3 (((v0_5 p1 p2 p3) - (v0_13 p1 p2 p3)) - (v0_21 p1 p2 p3)))), .unset, .unset, .unset] [(.long (v0_5 p1 p2 p3)), (.ref b16), (.ref b16)])) _
    refine st20.trans ?_
    show Steps p.tables e below (T20.setTop (mkF m 78 #[.val (.long p1), .second, .val (.int p2), .val (.int p3), .val (.long (v0_5 p1 p2 p3)), .second, .val (.long (v0_13 p1 p2 p3)), .second, .val (.long (v0_21 p1 p2 p3)), .second, .val (.ref b2), .val (.int (sp3 (v0_5 p1 p2 p3))), .val (.int (sp3 ((v0_5 p1 p2 p3) - (v0_13 p1 p2 p3)))), .val (.int (sp3 (((v0_5 p1 p2 p3) - (v0_13 p1 p2 p3)) - (v0_21 p1 p2 p3)))), .unset, .unset, .unset] [(.ref b16)])) _
    refine XS.astore X20.here hx rfl (hb hby at_78) rfl rfl (l' := #[.val (.long p1), .second, .val (.int p2), .val (.int p3), .val (.long (v0_5 p1 p2 p3)), .second, .val (.long (v0_13 p1 p2 p3)), .second, .val (.long (v0_21 p1 p2 p3)), .second, .val (.ref b2), .val (.int (sp3 (v0_5 p1 p2 p3))), .val (.int (sp3 ((v0_5 p1 p2 p3) - (v0_13 p1 p2 p3)))), .val (.int (sp3 (((v0_5 p1 p2 p3) - (v0_13 p1 p2 p3)) - (v0_21 p1 p2 p3)))), .val (.ref b16), .unset, .unset]) rfl ?_
    show Steps p.tables e below (T20.setTop (mkF m 80 #[.val (.long p1), .second, .val (.int p2), .val (.int p3), .val (.long (v0_5 p1 p2 p3)), .second, .val (.long (v0_13 p1 p2 p3)), .second, .val (.long (v0_21 p1 p2 p3)), .second, .val (.ref b2), .val (.int (sp3 (v0_5 p1 p2 p3))), .val (.int (sp3 ((v0_5 p1 p2 p3) - (v0_13 p1 p2 p3)))), .val (.int (sp3 (((v0_5 p1 p2 p3) - (v0_13 p1 p2 p3)) - (v0_21 p1 p2 p3)))), .val (.ref b16), .unset, .unset] [])) _
    refine XS.aload X20.here hx rfl (hb hby at_80) rfl rfl ?_
    show Steps p.tables e below (T20.setTop (mkF m 82 #[.val (.long p1), .second, .val (.int p2), .val (.int p3), .val (.long (v0_5 p1 p2 p3)), .second, .val (.long (v0_13 p1 p2 p3)), .second, .val (.long (v0_21 p1 p2 p3)), .second, .val (.ref b2), .val (.int (sp3 (v0_5 p1 p2 p3))), .val (.int (sp3 ((v0_5 p1 p2 p3) - (v0_13 p1 p2 p3)))), .val (.int (sp3 (((v0_5 p1 p2 p3) - (v0_13 p1 p2 p3)) - (v0_21 p1 p2 p3)))), .val (.ref b16), .unset, .unset] [(.ref b16)])) _
    refine XS.lload X20.here hx rfl (hb hby at_82) rfl ?_
    exact kt)
  obtain ⟨cq24, kq24, q24a, q24b, q24c⟩ := isOf hZ rfl Eq20
  obtain ⟨_, _, ⟨T24, L24, k24', n24⟩, -, X24, ⟨Lc24, hQ24, l24, y24, z24⟩, st24⟩ := X20.virtualBack hx (y := (⟨"com/example/grantwell/grantwell/core/Budget", "spend", "(J)V"⟩ : MethodName)) (z := (⟨"com/example/grantwell/grantwell/core/Budget", "spend", "(J)V"⟩ : MethodName)) hown (mvT hZ (hw _ (List.mem_of_getElem? (i := 18) rfl))) (mvT hZ (hw _ (List.mem_of_getElem? (i := 19) rfl))) (notFace_of_selects (args := #[]) (mvT hZ (hw _ (List.mem_of_getElem? (i := 21) rfl)))) (mvT hZ (hw _ (List.mem_of_getElem? (i := 21) rfl))) (mvT hZ (hw _ (List.mem_of_getElem? (i := 20) rfl))) (by decide) (backOf (W := 0) (rm4 l Z a0 hw [] b16 (v0_5 p1 p2 p3) (v0_5 p1 p2 p3) T20.heap n0 Z20 Fq20_left Eq20 g_b16) hZ (hw _ (List.mem_of_getElem? (i := 22) rfl)) (hw _ (List.mem_of_getElem? (i := 4) rfl)) (by decide) (by decide)) q24a q24c (g := (mkF m 84 #[.val (.long p1), .second, .val (.int p2), .val (.int p3), .val (.long (v0_5 p1 p2 p3)), .second, .val (.long (v0_13 p1 p2 p3)), .second, .val (.long (v0_21 p1 p2 p3)), .second, .val (.ref b2), .val (.int (sp3 (v0_5 p1 p2 p3))), .val (.int (sp3 ((v0_5 p1 p2 p3) - (v0_13 p1 p2 p3)))), .val (.int (sp3 (((v0_5 p1 p2 p3) - (v0_13 p1 p2 p3)) - (v0_21 p1 p2 p3)))), .val (.ref b16), .unset, .unset] [(.long (v0_5 p1 p2 p3)), (.ref b16)])) rfl (by rw [hml]; rfl) (Steps.refl _) (argsL := [(.long (v0_5 p1 p2 p3))]) (rest := []) (lenOf pd0_0 rfl) rfl (by show 2 * 0 + _ ≤ _; exact Nat.le_of_eq rfl) (hb hby at_84) (fun _ _ => ⟨rfl, rfl, (by decide : 2 + 0 ≤ _), (by decide : 2 + 0 ≤ _)⟩)
  dsimp only [Pt.U, Pt.locs, Pt.cells, Pt.slots] at X24 l24 y24 z24 st24 hQ24
  subst l24 y24 z24
  obtain ⟨rfl, N24q, Kq24, Eq24, Fq24_left⟩ := hQ24
  have N24 := Fr.app N20 N24q
  have Z24 : n0 ≤ T24.heap.size := Nat.le_trans Z20 Kq24.1
  have f25 := f21.keep Kq24
  have f26 := f22.keep Kq24 (ninS ne_b2_b16 nin0)
  have k27 : ∀ t, Steps p.tables e below (T24.setTop (mkF m 89 #[.val (.long p1), .second, .val (.int p2), .val (.int p3), .val (.long (v0_5 p1 p2 p3)), .second, .val (.long (v0_13 p1 p2 p3)), .second, .val (.long (v0_21 p1 p2 p3)), .second, .val (.ref b2), .val (.int (sp3 (v0_5 p1 p2 p3))), .val (.int (sp3 ((v0_5 p1 p2 p3) - (v0_13 p1 p2 p3)))), .val (.int (sp3 (((v0_5 p1 p2 p3) - (v0_13 p1 p2 p3)) - (v0_21 p1 p2 p3)))), .val (.ref b16), .unset, .unset] [(.ref b16)])) t → Steps p.tables e below (s₁.setTop (mkF m 0 #[.val (.long p1), .second, .val (.int p2), .val (.int p3), .unset, .unset, .unset, .unset, .unset, .unset, .unset, .unset, .unset, .unset, .unset, .unset, .unset] [])) t := fun t kt => k23 t (by
    show Steps p.tables e below (T20.setTop (mkF m 84 #[.val (.long p1), .second, .val (.int p2), .val (.int p3), .val (.long (v0_5 p1 p2 p3)), .second, .val (.long (v0_13 p1 p2 p3)), .second, .val (.long (v0_21 p1 p2 p3)), .second, .val (.ref b2), .val (.int (sp3 (v0_5 p1 p2 p3))), .val (.int (sp3 ((v0_5 p1 p2 p3) - (v0_13 p1 p2 p3)))), .val (.int (sp3 (((v0_5 p1 p2 p3) - (v0_13 p1 p2 p3)) - (v0_21 p1 p2 p3)))), .val (.ref b16), .unset, .unset] [(.long (v0_5 p1 p2 p3)), (.ref b16)])) _
    refine st24.trans ?_
    show Steps p.tables e below (T24.setTop (mkF m 87 #[.val (.long p1), .second, .val (.int p2), .val (.int p3), .val (.long (v0_5 p1 p2 p3)), .second, .val (.long (v0_13 p1 p2 p3)), .second, .val (.long (v0_21 p1 p2 p3)), .second, .val (.ref b2), .val (.int (sp3 (v0_5 p1 p2 p3))), .val (.int (sp3 ((v0_5 p1 p2 p3) - (v0_13 p1 p2 p3)))), .val (.int (sp3 (((v0_5 p1 p2 p3) - (v0_13 p1 p2 p3)) - (v0_21 p1 p2 p3)))), .val (.ref b16), .unset, .unset] [])) _
    refine XS.aload X24.here hx rfl (hb hby at_87) rfl rfl ?_
    exact kt)
  obtain ⟨cq28, kq28, q28a, q28b, q28c⟩ := isOf hZ rfl Eq24
  obtain ⟨_, _, ⟨T28, L28, k28', n28⟩, -, X28, ⟨Lc28, hQ28, l28, y28, z28⟩, st28⟩ := X24.virtualBack hx (y := (⟨"com/example/grantwell/grantwell/core/Budget", "spent", "()Z"⟩ : MethodName)) (z := (⟨"com/example/grantwell/grantwell/core/Budget", "spent", "()Z"⟩ : MethodName)) hown (mvT hZ (hw _ (List.mem_of_getElem? (i := 13) rfl))) (mvT hZ (hw _ (List.mem_of_getElem? (i := 14) rfl))) (notFace_of_selects (args := #[]) (mvT hZ (hw _ (List.mem_of_getElem? (i := 16) rfl)))) (mvT hZ (hw _ (List.mem_of_getElem? (i := 16) rfl))) (mvT hZ (hw _ (List.mem_of_getElem? (i := 15) rfl))) (by decide) (backOf (W := 0) (rm3 l Z a0 hw [] b16 ((v0_5 p1 p2 p3) - (v0_5 p1 p2 p3)) T24.heap n0 Z24 Fq24_left) hZ (hw _ (List.mem_of_getElem? (i := 17) rfl)) (hw _ (List.mem_of_getElem? (i := 4) rfl)) (by decide) (by decide)) q28a q28c (g := (mkF m 89 #[.val (.long p1), .second, .val (.int p2), .val (.int p3), .val (.long (v0_5 p1 p2 p3)), .second, .val (.long (v0_13 p1 p2 p3)), .second, .val (.long (v0_21 p1 p2 p3)), .second, .val (.ref b2), .val (.int (sp3 (v0_5 p1 p2 p3))), .val (.int (sp3 ((v0_5 p1 p2 p3) - (v0_13 p1 p2 p3)))), .val (.int (sp3 (((v0_5 p1 p2 p3) - (v0_13 p1 p2 p3)) - (v0_21 p1 p2 p3)))), .val (.ref b16), .unset, .unset] [(.ref b16)])) rfl (by rw [hml]; rfl) (Steps.refl _) (argsL := []) (rest := []) (lenOf pd0_1 rfl) rfl (by show 2 * 0 + _ ≤ _; exact Nat.le_of_eq rfl) (hb hby at_89) (fun _ _ => ⟨rfl, rfl, (by decide : 2 + 0 ≤ _), (by decide : 2 + 0 ≤ _)⟩)
  dsimp only [Pt.U, Pt.locs, Pt.cells, Pt.slots] at X28 l28 y28 z28 st28 hQ28
  subst l28 y28 z28
  obtain ⟨rfl, N28q, hh28⟩ := hQ28
  have N28 := Fr.app N24 N28q
  have k29 : ∀ t, Steps p.tables e below (T28.setTop (mkF m 97 #[.val (.long p1), .second, .val (.int p2), .val (.int p3), .val (.long (v0_5 p1 p2 p3)), .second, .val (.long (v0_13 p1 p2 p3)), .second, .val (.long (v0_21 p1 p2 p3)), .second, .val (.ref b2), .val (.int (sp3 (v0_5 p1 p2 p3))), .val (.int (sp3 ((v0_5 p1 p2 p3) - (v0_13 p1 p2 p3)))), .val (.int (sp3 (((v0_5 p1 p2 p3) - (v0_13 p1 p2 p3)) - (v0_21 p1 p2 p3)))), .val (.ref b16), .val (.int (sp3 ((v0_5 p1 p2 p3) - (v0_5 p1 p2 p3)))), .unset] [(.long (1 : Int64)), (.ref b16)])) t → Steps p.tables e below (s₁.setTop (mkF m 0 #[.val (.long p1), .second, .val (.int p2), .val (.int p3), .unset, .unset, .unset, .unset, .unset, .unset, .unset, .unset, .unset, .unset, .unset, .unset, .unset] [])) t := fun t kt => k27 t (by
    show Steps p.tables e below (T24.setTop (mkF m 89 #[.val (.long p1), .second, .val (.int p2), .val (.int p3), .val (.long (v0_5 p1 p2 p3)), .second, .val (.long (v0_13 p1 p2 p3)), .second, .val (.long (v0_21 p1 p2 p3)), .second, .val (.ref b2), .val (.int (sp3 (v0_5 p1 p2 p3))), .val (.int (sp3 ((v0_5 p1 p2 p3) - (v0_13 p1 p2 p3)))), .val (.int (sp3 (((v0_5 p1 p2 p3) - (v0_13 p1 p2 p3)) - (v0_21 p1 p2 p3)))), .val (.ref b16), .unset, .unset] [(.ref b16)])) _
    refine st28.trans ?_
    show Steps p.tables e below (T28.setTop (mkF m 92 #[.val (.long p1), .second, .val (.int p2), .val (.int p3), .val (.long (v0_5 p1 p2 p3)), .second, .val (.long (v0_13 p1 p2 p3)), .second, .val (.long (v0_21 p1 p2 p3)), .second, .val (.ref b2), .val (.int (sp3 (v0_5 p1 p2 p3))), .val (.int (sp3 ((v0_5 p1 p2 p3) - (v0_13 p1 p2 p3)))), .val (.int (sp3 (((v0_5 p1 p2 p3) - (v0_13 p1 p2 p3)) - (v0_21 p1 p2 p3)))), .val (.ref b16), .unset, .unset] [(.int (sp3 ((v0_5 p1 p2 p3) - (v0_5 p1 p2 p3))))])) _
    refine XS.istore X28.here hx rfl (hb hby at_92) rfl (l' := #[.val (.long p1), .second, .val (.int p2), .val (.int p3), .val (.long (v0_5 p1 p2 p3)), .second, .val (.long (v0_13 p1 p2 p3)), .second, .val (.long (v0_21 p1 p2 p3)), .second, .val (.ref b2), .val (.int (sp3 (v0_5 p1 p2 p3))), .val (.int (sp3 ((v0_5 p1 p2 p3) - (v0_13 p1 p2 p3)))), .val (.int (sp3 (((v0_5 p1 p2 p3) - (v0_13 p1 p2 p3)) - (v0_21 p1 p2 p3)))), .val (.ref b16), .val (.int (sp3 ((v0_5 p1 p2 p3) - (v0_5 p1 p2 p3)))), .unset]) rfl ?_
    show Steps p.tables e below (T28.setTop (mkF m 94 #[.val (.long p1), .second, .val (.int p2), .val (.int p3), .val (.long (v0_5 p1 p2 p3)), .second, .val (.long (v0_13 p1 p2 p3)), .second, .val (.long (v0_21 p1 p2 p3)), .second, .val (.ref b2), .val (.int (sp3 (v0_5 p1 p2 p3))), .val (.int (sp3 ((v0_5 p1 p2 p3) - (v0_13 p1 p2 p3)))), .val (.int (sp3 (((v0_5 p1 p2 p3) - (v0_13 p1 p2 p3)) - (v0_21 p1 p2 p3)))), .val (.ref b16), .val (.int (sp3 ((v0_5 p1 p2 p3) - (v0_5 p1 p2 p3)))), .unset] [])) _
    refine XS.aload X28.here hx rfl (hb hby at_94) rfl rfl ?_
    show Steps p.tables e below (T28.setTop (mkF m 96 #[.val (.long p1), .second, .val (.int p2), .val (.int p3), .val (.long (v0_5 p1 p2 p3)), .second, .val (.long (v0_13 p1 p2 p3)), .second, .val (.long (v0_21 p1 p2 p3)), .second, .val (.ref b2), .val (.int (sp3 (v0_5 p1 p2 p3))), .val (.int (sp3 ((v0_5 p1 p2 p3) - (v0_13 p1 p2 p3)))), .val (.int (sp3 (((v0_5 p1 p2 p3) - (v0_13 p1 p2 p3)) - (v0_21 p1 p2 p3)))), .val (.ref b16), .val (.int (sp3 ((v0_5 p1 p2 p3) - (v0_5 p1 p2 p3)))), .unset] [(.ref b16)])) _
    refine XS.lconst X28.here hx rfl (hb hby at_96) ?_
    exact kt)
  obtain ⟨cq30, kq30, q30a, q30b, q30c⟩ := isOf hZ hh28 Eq24
  obtain ⟨_, _, ⟨T30, L30, k30', n30⟩, -, X30, ⟨Lc30, hQ30, l30, y30, z30⟩, st30⟩ := X28.virtualBack hx (y := (⟨"com/example/grantwell/grantwell/core/Budget", "spend", "(J)V"⟩ : MethodName)) (z := (⟨"com/example/grantwell/grantwell/core/Budget", "spend", "(J)V"⟩ : MethodName)) hown (mvT hZ (hw _ (List.mem_of_getElem? (i := 18) rfl))) (mvT hZ (hw _ (List.mem_of_getElem? (i := 19) rfl))) (notFace_of_selects (args := #[]) (mvT hZ (hw _ (List.mem_of_getElem? (i := 21) rfl)))) (mvT hZ (hw _ (List.mem_of_getElem? (i := 21) rfl))) (mvT hZ (hw _ (List.mem_of_getElem? (i := 20) rfl))) (by decide) (backOf (W := 0) (rm4 l Z a0 hw [] b16 (1 : Int64) ((v0_5 p1 p2 p3) - (v0_5 p1 p2 p3)) T24.heap n0 Z24 Fq24_left Eq24 g_b16) hZ (hw _ (List.mem_of_getElem? (i := 22) rfl)) (hw _ (List.mem_of_getElem? (i := 4) rfl)) (by decide) (by decide)) q30a q30c (g := (mkF m 97 #[.val (.long p1), .second, .val (.int p2), .val (.int p3), .val (.long (v0_5 p1 p2 p3)), .second, .val (.long (v0_13 p1 p2 p3)), .second, .val (.long (v0_21 p1 p2 p3)), .second, .val (.ref b2), .val (.int (sp3 (v0_5 p1 p2 p3))), .val (.int (sp3 ((v0_5 p1 p2 p3) - (v0_13 p1 p2 p3)))), .val (.int (sp3 (((v0_5 p1 p2 p3) - (v0_13 p1 p2 p3)) - (v0_21 p1 p2 p3)))), .val (.ref b16), .val (.int (sp3 ((v0_5 p1 p2 p3) - (v0_5 p1 p2 p3)))), .unset] [(.long (1 : Int64)), (.ref b16)])) rfl (by rw [hml]; rfl) (Steps.refl _) (argsL := [(.long (1 : Int64))]) (rest := []) (lenOf pd0_0 rfl) rfl (by show 2 * 0 + _ ≤ _; exact Nat.le_of_eq rfl) (hb hby at_97) (fun _ _ => ⟨rfl, hh28, (by decide : 2 + 0 ≤ _), (by decide : 2 + 0 ≤ _)⟩)
  dsimp only [Pt.U, Pt.locs, Pt.cells, Pt.slots] at X30 l30 y30 z30 st30 hQ30
  subst l30 y30 z30
  obtain ⟨rfl, N30q, Kq30, Eq30, Fq30_left⟩ := hQ30
  have N30 := Fr.app N28 N30q
  have Z30 : n0 ≤ T30.heap.size := Nat.le_trans Z24 Kq30.1
  have f31 := f25.keep Kq30
  have f32 := f26.keep Kq30 (ninS ne_b2_b16 nin0)
  have k33 : ∀ t, Steps p.tables e below (T30.setTop (mkF m 102 #[.val (.long p1), .second, .val (.int p2), .val (.int p3), .val (.long (v0_5 p1 p2 p3)), .second, .val (.long (v0_13 p1 p2 p3)), .second, .val (.long (v0_21 p1 p2 p3)), .second, .val (.ref b2), .val (.int (sp3 (v0_5 p1 p2 p3))), .val (.int (sp3 ((v0_5 p1 p2 p3) - (v0_13 p1 p2 p3)))), .val (.int (sp3 (((v0_5 p1 p2 p3) - (v0_13 p1 p2 p3)) - (v0_21 p1 p2 p3)))), .val (.ref b16), .val (.int (sp3 ((v0_5 p1 p2 p3) - (v0_5 p1 p2 p3)))), .unset] [(.ref b16)])) t → Steps p.tables e below (s₁.setTop (mkF m 0 #[.val (.long p1), .second, .val (.int p2), .val (.int p3), .unset, .unset, .unset, .unset, .unset, .unset, .unset, .unset, .unset, .unset, .unset, .unset, .unset] [])) t := fun t kt => k29 t (by
    show Steps p.tables e below (T28.setTop (mkF m 97 #[.val (.long p1), .second, .val (.int p2), .val (.int p3), .val (.long (v0_5 p1 p2 p3)), .second, .val (.long (v0_13 p1 p2 p3)), .second, .val (.long (v0_21 p1 p2 p3)), .second, .val (.ref b2), .val (.int (sp3 (v0_5 p1 p2 p3))), .val (.int (sp3 ((v0_5 p1 p2 p3) - (v0_13 p1 p2 p3)))), .val (.int (sp3 (((v0_5 p1 p2 p3) - (v0_13 p1 p2 p3)) - (v0_21 p1 p2 p3)))), .val (.ref b16), .val (.int (sp3 ((v0_5 p1 p2 p3) - (v0_5 p1 p2 p3)))), .unset] [(.long (1 : Int64)), (.ref b16)])) _
    refine st30.trans ?_
    show Steps p.tables e below (T30.setTop (mkF m 100 #[.val (.long p1), .second, .val (.int p2), .val (.int p3), .val (.long (v0_5 p1 p2 p3)), .second, .val (.long (v0_13 p1 p2 p3)), .second, .val (.long (v0_21 p1 p2 p3)), .second, .val (.ref b2), .val (.int (sp3 (v0_5 p1 p2 p3))), .val (.int (sp3 ((v0_5 p1 p2 p3) - (v0_13 p1 p2 p3)))), .val (.int (sp3 (((v0_5 p1 p2 p3) - (v0_13 p1 p2 p3)) - (v0_21 p1 p2 p3)))), .val (.ref b16), .val (.int (sp3 ((v0_5 p1 p2 p3) - (v0_5 p1 p2 p3)))), .unset] [])) _
    refine XS.aload X30.here hx rfl (hb hby at_100) rfl rfl ?_
    exact kt)
  obtain ⟨cq34, kq34, q34a, q34b, q34c⟩ := isOf hZ rfl Eq30
  obtain ⟨_, _, ⟨T34, L34, k34', n34⟩, -, X34, ⟨Lc34, hQ34, l34, y34, z34⟩, st34⟩ := X30.virtualBack hx (y := (⟨"com/example/grantwell/grantwell/core/Budget", "spent", "()Z"⟩ : MethodName)) (z := (⟨"com/example/grantwell/grantwell/core/Budget", "spent", "()Z"⟩ : MethodName)) hown (mvT hZ (hw _ (List.mem_of_getElem? (i := 13) rfl))) (mvT hZ (hw _ (List.mem_of_getElem? (i := 14) rfl))) (notFace_of_selects (args := #[]) (mvT hZ (hw _ (List.mem_of_getElem? (i := 16) rfl)))) (mvT hZ (hw _ (List.mem_of_getElem? (i := 16) rfl))) (mvT hZ (hw _ (List.mem_of_getElem? (i := 15) rfl))) (by decide) (backOf (W := 0) (rm3 l Z a0 hw [] b16 (((v0_5 p1 p2 p3) - (v0_5 p1 p2 p3)) - (1 : Int64)) T30.heap n0 Z30 Fq30_left) hZ (hw _ (List.mem_of_getElem? (i := 17) rfl)) (hw _ (List.mem_of_getElem? (i := 4) rfl)) (by decide) (by decide)) q34a q34c (g := (mkF m 102 #[.val (.long p1), .second, .val (.int p2), .val (.int p3), .val (.long (v0_5 p1 p2 p3)), .second, .val (.long (v0_13 p1 p2 p3)), .second, .val (.long (v0_21 p1 p2 p3)), .second, .val (.ref b2), .val (.int (sp3 (v0_5 p1 p2 p3))), .val (.int (sp3 ((v0_5 p1 p2 p3) - (v0_13 p1 p2 p3)))), .val (.int (sp3 (((v0_5 p1 p2 p3) - (v0_13 p1 p2 p3)) - (v0_21 p1 p2 p3)))), .val (.ref b16), .val (.int (sp3 ((v0_5 p1 p2 p3) - (v0_5 p1 p2 p3)))), .unset] [(.ref b16)])) rfl (by rw [hml]; rfl) (Steps.refl _) (argsL := []) (rest := []) (lenOf pd0_1 rfl) rfl (by show 2 * 0 + _ ≤ _; exact Nat.le_of_eq rfl) (hb hby at_102) (fun _ _ => ⟨rfl, rfl, (by decide : 2 + 0 ≤ _), (by decide : 2 + 0 ≤ _)⟩)
  dsimp only [Pt.U, Pt.locs, Pt.cells, Pt.slots] at X34 l34 y34 z34 st34 hQ34
  subst l34 y34 z34
  obtain ⟨rfl, N34q, hh34⟩ := hQ34
  have N34 := Fr.app N30 N34q
  have k36 : ∀ t, Steps p.tables e below (T34.setTop (mkF m 109 #[.val (.long p1), .second, .val (.int p2), .val (.int p3), .val (.long (v0_5 p1 p2 p3)), .second, .val (.long (v0_13 p1 p2 p3)), .second, .val (.long (v0_21 p1 p2 p3)), .second, .val (.ref b2), .val (.int (sp3 (v0_5 p1 p2 p3))), .val (.int (sp3 ((v0_5 p1 p2 p3) - (v0_13 p1 p2 p3)))), .val (.int (sp3 (((v0_5 p1 p2 p3) - (v0_13 p1 p2 p3)) - (v0_21 p1 p2 p3)))), .val (.ref b16), .val (.int (sp3 ((v0_5 p1 p2 p3) - (v0_5 p1 p2 p3)))), .val (.int (sp3 (((v0_5 p1 p2 p3) - (v0_5 p1 p2 p3)) - (1 : Int64))))] [(.int (sp3 (v0_5 p1 p2 p3)))])) t → Steps p.tables e below (s₁.setTop (mkF m 0 #[.val (.long p1), .second, .val (.int p2), .val (.int p3), .unset, .unset, .unset, .unset, .unset, .unset, .unset, .unset, .unset, .unset, .unset, .unset, .unset] [])) t := fun t kt => k33 t (by
    show Steps p.tables e below (T30.setTop (mkF m 102 #[.val (.long p1), .second, .val (.int p2), .val (.int p3), .val (.long (v0_5 p1 p2 p3)), .second, .val (.long (v0_13 p1 p2 p3)), .second, .val (.long (v0_21 p1 p2 p3)), .second, .val (.ref b2), .val (.int (sp3 (v0_5 p1 p2 p3))), .val (.int (sp3 ((v0_5 p1 p2 p3) - (v0_13 p1 p2 p3)))), .val (.int (sp3 (((v0_5 p1 p2 p3) - (v0_13 p1 p2 p3)) - (v0_21 p1 p2 p3)))), .val (.ref b16), .val (.int (sp3 ((v0_5 p1 p2 p3) - (v0_5 p1 p2 p3)))), .unset] [(.ref b16)])) _
    refine st34.trans ?_
    show Steps p.tables e below (T34.setTop (mkF m 105 #[.val (.long p1), .second, .val (.int p2), .val (.int p3), .val (.long (v0_5 p1 p2 p3)), .second, .val (.long (v0_13 p1 p2 p3)), .second, .val (.long (v0_21 p1 p2 p3)), .second, .val (.ref b2), .val (.int (sp3 (v0_5 p1 p2 p3))), .val (.int (sp3 ((v0_5 p1 p2 p3) - (v0_13 p1 p2 p3)))), .val (.int (sp3 (((v0_5 p1 p2 p3) - (v0_13 p1 p2 p3)) - (v0_21 p1 p2 p3)))), .val (.ref b16), .val (.int (sp3 ((v0_5 p1 p2 p3) - (v0_5 p1 p2 p3)))), .unset] [(.int (sp3 (((v0_5 p1 p2 p3) - (v0_5 p1 p2 p3)) - (1 : Int64))))])) _
    refine XS.istore X34.here hx rfl (hb hby at_105) rfl (l' := #[.val (.long p1), .second, .val (.int p2), .val (.int p3), .val (.long (v0_5 p1 p2 p3)), .second, .val (.long (v0_13 p1 p2 p3)), .second, .val (.long (v0_21 p1 p2 p3)), .second, .val (.ref b2), .val (.int (sp3 (v0_5 p1 p2 p3))), .val (.int (sp3 ((v0_5 p1 p2 p3) - (v0_13 p1 p2 p3)))), .val (.int (sp3 (((v0_5 p1 p2 p3) - (v0_13 p1 p2 p3)) - (v0_21 p1 p2 p3)))), .val (.ref b16), .val (.int (sp3 ((v0_5 p1 p2 p3) - (v0_5 p1 p2 p3)))), .val (.int (sp3 (((v0_5 p1 p2 p3) - (v0_5 p1 p2 p3)) - (1 : Int64))))]) rfl ?_
    show Steps p.tables e below (T34.setTop (mkF m 107 #[.val (.long p1), .second, .val (.int p2), .val (.int p3), .val (.long (v0_5 p1 p2 p3)), .second, .val (.long (v0_13 p1 p2 p3)), .second, .val (.long (v0_21 p1 p2 p3)), .second, .val (.ref b2), .val (.int (sp3 (v0_5 p1 p2 p3))), .val (.int (sp3 ((v0_5 p1 p2 p3) - (v0_13 p1 p2 p3)))), .val (.int (sp3 (((v0_5 p1 p2 p3) - (v0_13 p1 p2 p3)) - (v0_21 p1 p2 p3)))), .val (.ref b16), .val (.int (sp3 ((v0_5 p1 p2 p3) - (v0_5 p1 p2 p3)))), .val (.int (sp3 (((v0_5 p1 p2 p3) - (v0_5 p1 p2 p3)) - (1 : Int64))))] [])) _
    refine XS.iload X34.here hx rfl (hb hby at_107) rfl ?_
    exact kt)
  by_cases c109_35 : (sp3 (v0_5 p1 p2 p3)) = (0 : Int32)
  · have k38 : ∀ t, Steps p.tables e below (T34.setTop (mkF m 119 #[.val (.long p1), .second, .val (.int p2), .val (.int p3), .val (.long (v0_5 p1 p2 p3)), .second, .val (.long (v0_13 p1 p2 p3)), .second, .val (.long (v0_21 p1 p2 p3)), .second, .val (.ref b2), .val (.int (sp3 (v0_5 p1 p2 p3))), .val (.int (sp3 ((v0_5 p1 p2 p3) - (v0_13 p1 p2 p3)))), .val (.int (sp3 (((v0_5 p1 p2 p3) - (v0_13 p1 p2 p3)) - (v0_21 p1 p2 p3)))), .val (.ref b16), .val (.int (sp3 ((v0_5 p1 p2 p3) - (v0_5 p1 p2 p3)))), .val (.int (sp3 (((v0_5 p1 p2 p3) - (v0_5 p1 p2 p3)) - (1 : Int64))))] [(.int (lcmpW (v0_13 p1 p2 p3) (v0_5 p1 p2 p3))), (.int (sp3 ((v0_5 p1 p2 p3) - (v0_13 p1 p2 p3))))])) t → Steps p.tables e below (s₁.setTop (mkF m 0 #[.val (.long p1), .second, .val (.int p2), .val (.int p3), .unset, .unset, .unset, .unset, .unset, .unset, .unset, .unset, .unset, .unset, .unset, .unset, .unset] [])) t := fun t kt => k36 t (by
      show Steps p.tables e below (T34.setTop (mkF m 109 #[.val (.long p1), .second, .val (.int p2), .val (.int p3), .val (.long (v0_5 p1 p2 p3)), .second, .val (.long (v0_13 p1 p2 p3)), .second, .val (.long (v0_21 p1 p2 p3)), .second, .val (.ref b2), .val (.int (sp3 (v0_5 p1 p2 p3))), .val (.int (sp3 ((v0_5 p1 p2 p3) - (v0_13 p1 p2 p3)))), .val (.int (sp3 (((v0_5 p1 p2 p3) - (v0_13 p1 p2 p3)) - (v0_21 p1 p2 p3)))), .val (.ref b16), .val (.int (sp3 ((v0_5 p1 p2 p3) - (v0_5 p1 p2 p3)))), .val (.int (sp3 (((v0_5 p1 p2 p3) - (v0_5 p1 p2 p3)) - (1 : Int64))))] [(.int (sp3 (v0_5 p1 p2 p3)))])) _
      refine XS.ifNo X34.here hx rfl (hb hby at_109) rfl ((if0 _ _).trans (teq c109_35).2) ?_
      show Steps p.tables e below (T34.setTop (mkF m 112 #[.val (.long p1), .second, .val (.int p2), .val (.int p3), .val (.long (v0_5 p1 p2 p3)), .second, .val (.long (v0_13 p1 p2 p3)), .second, .val (.long (v0_21 p1 p2 p3)), .second, .val (.ref b2), .val (.int (sp3 (v0_5 p1 p2 p3))), .val (.int (sp3 ((v0_5 p1 p2 p3) - (v0_13 p1 p2 p3)))), .val (.int (sp3 (((v0_5 p1 p2 p3) - (v0_13 p1 p2 p3)) - (v0_21 p1 p2 p3)))), .val (.ref b16), .val (.int (sp3 ((v0_5 p1 p2 p3) - (v0_5 p1 p2 p3)))), .val (.int (sp3 (((v0_5 p1 p2 p3) - (v0_5 p1 p2 p3)) - (1 : Int64))))] [])) _
      refine XS.iload X34.here hx rfl (hb hby at_112) rfl ?_
      show Steps p.tables e below (T34.setTop (mkF m 114 #[.val (.long p1), .second, .val (.int p2), .val (.int p3), .val (.long (v0_5 p1 p2 p3)), .second, .val (.long (v0_13 p1 p2 p3)), .second, .val (.long (v0_21 p1 p2 p3)), .second, .val (.ref b2), .val (.int (sp3 (v0_5 p1 p2 p3))), .val (.int (sp3 ((v0_5 p1 p2 p3) - (v0_13 p1 p2 p3)))), .val (.int (sp3 (((v0_5 p1 p2 p3) - (v0_13 p1 p2 p3)) - (v0_21 p1 p2 p3)))), .val (.ref b16), .val (.int (sp3 ((v0_5 p1 p2 p3) - (v0_5 p1 p2 p3)))), .val (.int (sp3 (((v0_5 p1 p2 p3) - (v0_5 p1 p2 p3)) - (1 : Int64))))] [(.int (sp3 ((v0_5 p1 p2 p3) - (v0_13 p1 p2 p3))))])) _
      refine XS.lload X34.here hx rfl (hb hby at_114) rfl ?_
      show Steps p.tables e below (T34.setTop (mkF m 116 #[.val (.long p1), .second, .val (.int p2), .val (.int p3), .val (.long (v0_5 p1 p2 p3)), .second, .val (.long (v0_13 p1 p2 p3)), .second, .val (.long (v0_21 p1 p2 p3)), .second, .val (.ref b2), .val (.int (sp3 (v0_5 p1 p2 p3))), .val (.int (sp3 ((v0_5 p1 p2 p3) - (v0_13 p1 p2 p3)))), .val (.int (sp3 (((v0_5 p1 p2 p3) - (v0_13 p1 p2 p3)) - (v0_21 p1 p2 p3)))), .val (.ref b16), .val (.int (sp3 ((v0_5 p1 p2 p3) - (v0_5 p1 p2 p3)))), .val (.int (sp3 (((v0_5 p1 p2 p3) - (v0_5 p1 p2 p3)) - (1 : Int64))))] [(.long (v0_13 p1 p2 p3)), (.int (sp3 ((v0_5 p1 p2 p3) - (v0_13 p1 p2 p3))))])) _
      refine XS.lload X34.here hx rfl (hb hby at_116) rfl ?_
      show Steps p.tables e below (T34.setTop (mkF m 118 #[.val (.long p1), .second, .val (.int p2), .val (.int p3), .val (.long (v0_5 p1 p2 p3)), .second, .val (.long (v0_13 p1 p2 p3)), .second, .val (.long (v0_21 p1 p2 p3)), .second, .val (.ref b2), .val (.int (sp3 (v0_5 p1 p2 p3))), .val (.int (sp3 ((v0_5 p1 p2 p3) - (v0_13 p1 p2 p3)))), .val (.int (sp3 (((v0_5 p1 p2 p3) - (v0_13 p1 p2 p3)) - (v0_21 p1 p2 p3)))), .val (.ref b16), .val (.int (sp3 ((v0_5 p1 p2 p3) - (v0_5 p1 p2 p3)))), .val (.int (sp3 (((v0_5 p1 p2 p3) - (v0_5 p1 p2 p3)) - (1 : Int64))))] [(.long (v0_5 p1 p2 p3)), (.long (v0_13 p1 p2 p3)), (.int (sp3 ((v0_5 p1 p2 p3) - (v0_13 p1 p2 p3))))])) _
      refine XS.lcmp X34.here hx rfl (hb hby at_118) rfl ?_
      exact kt)
    by_cases c119_37 : (v0_5 p1 p2 p3) < (v0_13 p1 p2 p3)
    · have k40 : ∀ t, Steps p.tables e below (T34.setTop (mkF m 127 #[.val (.long p1), .second, .val (.int p2), .val (.int p3), .val (.long (v0_5 p1 p2 p3)), .second, .val (.long (v0_13 p1 p2 p3)), .second, .val (.long (v0_21 p1 p2 p3)), .second, .val (.ref b2), .val (.int (sp3 (v0_5 p1 p2 p3))), .val (.int (sp3 ((v0_5 p1 p2 p3) - (v0_13 p1 p2 p3)))), .val (.int (sp3 (((v0_5 p1 p2 p3) - (v0_13 p1 p2 p3)) - (v0_21 p1 p2 p3)))), .val (.ref b16), .val (.int (sp3 ((v0_5 p1 p2 p3) - (v0_5 p1 p2 p3)))), .val (.int (sp3 (((v0_5 p1 p2 p3) - (v0_5 p1 p2 p3)) - (1 : Int64))))] [(.int (1 : Int32)), (.int (sp3 ((v0_5 p1 p2 p3) - (v0_13 p1 p2 p3))))])) t → Steps p.tables e below (s₁.setTop (mkF m 0 #[.val (.long p1), .second, .val (.int p2), .val (.int p3), .unset, .unset, .unset, .unset, .unset, .unset, .unset, .unset, .unset, .unset, .unset, .unset, .unset] [])) t := fun t kt => k38 t (by
        show Steps p.tables e below (T34.setTop (mkF m 119 #[.val (.long p1), .second, .val (.int p2), .val (.int p3), .val (.long (v0_5 p1 p2 p3)), .second, .val (.long (v0_13 p1 p2 p3)), .second, .val (.long (v0_21 p1 p2 p3)), .second, .val (.ref b2), .val (.int (sp3 (v0_5 p1 p2 p3))), .val (.int (sp3 ((v0_5 p1 p2 p3) - (v0_13 p1 p2 p3)))), .val (.int (sp3 (((v0_5 p1 p2 p3) - (v0_13 p1 p2 p3)) - (v0_21 p1 p2 p3)))), .val (.ref b16), .val (.int (sp3 ((v0_5 p1 p2 p3) - (v0_5 p1 p2 p3)))), .val (.int (sp3 (((v0_5 p1 p2 p3) - (v0_5 p1 p2 p3)) - (1 : Int64))))] [(.int (lcmpW (v0_13 p1 p2 p3) (v0_5 p1 p2 p3))), (.int (sp3 ((v0_5 p1 p2 p3) - (v0_13 p1 p2 p3))))])) _
        refine XS.ifNo X34.here hx rfl (hb hby at_119) rfl ((if0 _ _).trans (tlt ((lw_gt _ _).mpr c119_37)).2.2.2) ?_
        show Steps p.tables e below (T34.setTop (mkF m 122 #[.val (.long p1), .second, .val (.int p2), .val (.int p3), .val (.long (v0_5 p1 p2 p3)), .second, .val (.long (v0_13 p1 p2 p3)), .second, .val (.long (v0_21 p1 p2 p3)), .second, .val (.ref b2), .val (.int (sp3 (v0_5 p1 p2 p3))), .val (.int (sp3 ((v0_5 p1 p2 p3) - (v0_13 p1 p2 p3)))), .val (.int (sp3 (((v0_5 p1 p2 p3) - (v0_13 p1 p2 p3)) - (v0_21 p1 p2 p3)))), .val (.ref b16), .val (.int (sp3 ((v0_5 p1 p2 p3) - (v0_5 p1 p2 p3)))), .val (.int (sp3 (((v0_5 p1 p2 p3) - (v0_5 p1 p2 p3)) - (1 : Int64))))] [(.int (sp3 ((v0_5 p1 p2 p3) - (v0_13 p1 p2 p3))))])) _
        refine XS.iconst X34.here hx rfl (hb hby at_122) ?_
        show Steps p.tables e below (T34.setTop (mkF m 123 #[.val (.long p1), .second, .val (.int p2), .val (.int p3), .val (.long (v0_5 p1 p2 p3)), .second, .val (.long (v0_13 p1 p2 p3)), .second, .val (.long (v0_21 p1 p2 p3)), .second, .val (.ref b2), .val (.int (sp3 (v0_5 p1 p2 p3))), .val (.int (sp3 ((v0_5 p1 p2 p3) - (v0_13 p1 p2 p3)))), .val (.int (sp3 (((v0_5 p1 p2 p3) - (v0_13 p1 p2 p3)) - (v0_21 p1 p2 p3)))), .val (.ref b16), .val (.int (sp3 ((v0_5 p1 p2 p3) - (v0_5 p1 p2 p3)))), .val (.int (sp3 (((v0_5 p1 p2 p3) - (v0_5 p1 p2 p3)) - (1 : Int64))))] [(.int (1 : Int32)), (.int (sp3 ((v0_5 p1 p2 p3) - (v0_13 p1 p2 p3))))])) _
        refine XS.goto X34.here hx rfl (pc0 := 123) (pc' := 127) rfl (hb hby at_123) (by decide) (by decide) ?_
        exact kt)
      by_cases c127_39 : (sp3 ((v0_5 p1 p2 p3) - (v0_13 p1 p2 p3))) = (1 : Int32)
      · have k42 : ∀ t, Steps p.tables e below (T34.setTop (mkF m 140 #[.val (.long p1), .second, .val (.int p2), .val (.int p3), .val (.long (v0_5 p1 p2 p3)), .second, .val (.long (v0_13 p1 p2 p3)), .second, .val (.long (v0_21 p1 p2 p3)), .second, .val (.ref b2), .val (.int (sp3 (v0_5 p1 p2 p3))), .val (.int (sp3 ((v0_5 p1 p2 p3) - (v0_13 p1 p2 p3)))), .val (.int (sp3 (((v0_5 p1 p2 p3) - (v0_13 p1 p2 p3)) - (v0_21 p1 p2 p3)))), .val (.ref b16), .val (.int (sp3 ((v0_5 p1 p2 p3) - (v0_5 p1 p2 p3)))), .val (.int (sp3 (((v0_5 p1 p2 p3) - (v0_5 p1 p2 p3)) - (1 : Int64))))] [(.int (lcmpW ((v0_13 p1 p2 p3) + (v0_21 p1 p2 p3)) (v0_5 p1 p2 p3))), (.int (sp3 (((v0_5 p1 p2 p3) - (v0_13 p1 p2 p3)) - (v0_21 p1 p2 p3))))])) t → Steps p.tables e below (s₁.setTop (mkF m 0 #[.val (.long p1), .second, .val (.int p2), .val (.int p3), .unset, .unset, .unset, .unset, .unset, .unset, .unset, .unset, .unset, .unset, .unset, .unset, .unset] [])) t := fun t kt => k40 t (by
          show Steps p.tables e below (T34.setTop (mkF m 127 #[.val (.long p1), .second, .val (.int p2), .val (.int p3), .val (.long (v0_5 p1 p2 p3)), .second, .val (.long (v0_13 p1 p2 p3)), .second, .val (.long (v0_21 p1 p2 p3)), .second, .val (.ref b2), .val (.int (sp3 (v0_5 p1 p2 p3))), .val (.int (sp3 ((v0_5 p1 p2 p3) - (v0_13 p1 p2 p3)))), .val (.int (sp3 (((v0_5 p1 p2 p3) - (v0_13 p1 p2 p3)) - (v0_21 p1 p2 p3)))), .val (.ref b16), .val (.int (sp3 ((v0_5 p1 p2 p3) - (v0_5 p1 p2 p3)))), .val (.int (sp3 (((v0_5 p1 p2 p3) - (v0_5 p1 p2 p3)) - (1 : Int64))))] [(.int (1 : Int32)), (.int (sp3 ((v0_5 p1 p2 p3) - (v0_13 p1 p2 p3))))])) _
          refine XS.icmpNo X34.here hx rfl (hb hby at_127) rfl (teq c127_39).2 ?_
          show Steps p.tables e below (T34.setTop (mkF m 130 #[.val (.long p1), .second, .val (.int p2), .val (.int p3), .val (.long (v0_5 p1 p2 p3)), .second, .val (.long (v0_13 p1 p2 p3)), .second, .val (.long (v0_21 p1 p2 p3)), .second, .val (.ref b2), .val (.int (sp3 (v0_5 p1 p2 p3))), .val (.int (sp3 ((v0_5 p1 p2 p3) - (v0_13 p1 p2 p3)))), .val (.int (sp3 (((v0_5 p1 p2 p3) - (v0_13 p1 p2 p3)) - (v0_21 p1 p2 p3)))), .val (.ref b16), .val (.int (sp3 ((v0_5 p1 p2 p3) - (v0_5 p1 p2 p3)))), .val (.int (sp3 (((v0_5 p1 p2 p3) - (v0_5 p1 p2 p3)) - (1 : Int64))))] [])) _
          refine XS.iload X34.here hx rfl (hb hby at_130) rfl ?_
          show Steps p.tables e below (T34.setTop (mkF m 132 #[.val (.long p1), .second, .val (.int p2), .val (.int p3), .val (.long (v0_5 p1 p2 p3)), .second, .val (.long (v0_13 p1 p2 p3)), .second, .val (.long (v0_21 p1 p2 p3)), .second, .val (.ref b2), .val (.int (sp3 (v0_5 p1 p2 p3))), .val (.int (sp3 ((v0_5 p1 p2 p3) - (v0_13 p1 p2 p3)))), .val (.int (sp3 (((v0_5 p1 p2 p3) - (v0_13 p1 p2 p3)) - (v0_21 p1 p2 p3)))), .val (.ref b16), .val (.int (sp3 ((v0_5 p1 p2 p3) - (v0_5 p1 p2 p3)))), .val (.int (sp3 (((v0_5 p1 p2 p3) - (v0_5 p1 p2 p3)) - (1 : Int64))))] [(.int (sp3 (((v0_5 p1 p2 p3) - (v0_13 p1 p2 p3)) - (v0_21 p1 p2 p3))))])) _
          refine XS.lload X34.here hx rfl (hb hby at_132) rfl ?_
          show Steps p.tables e below (T34.setTop (mkF m 134 #[.val (.long p1), .second, .val (.int p2), .val (.int p3), .val (.long (v0_5 p1 p2 p3)), .second, .val (.long (v0_13 p1 p2 p3)), .second, .val (.long (v0_21 p1 p2 p3)), .second, .val (.ref b2), .val (.int (sp3 (v0_5 p1 p2 p3))), .val (.int (sp3 ((v0_5 p1 p2 p3) - (v0_13 p1 p2 p3)))), .val (.int (sp3 (((v0_5 p1 p2 p3) - (v0_13 p1 p2 p3)) - (v0_21 p1 p2 p3)))), .val (.ref b16), .val (.int (sp3 ((v0_5 p1 p2 p3) - (v0_5 p1 p2 p3)))), .val (.int (sp3 (((v0_5 p1 p2 p3) - (v0_5 p1 p2 p3)) - (1 : Int64))))] [(.long (v0_13 p1 p2 p3)), (.int (sp3 (((v0_5 p1 p2 p3) - (v0_13 p1 p2 p3)) - (v0_21 p1 p2 p3))))])) _
          refine XS.lload X34.here hx rfl (hb hby at_134) rfl ?_
          show Steps p.tables e below (T34.setTop (mkF m 136 #[.val (.long p1), .second, .val (.int p2), .val (.int p3), .val (.long (v0_5 p1 p2 p3)), .second, .val (.long (v0_13 p1 p2 p3)), .second, .val (.long (v0_21 p1 p2 p3)), .second, .val (.ref b2), .val (.int (sp3 (v0_5 p1 p2 p3))), .val (.int (sp3 ((v0_5 p1 p2 p3) - (v0_13 p1 p2 p3)))), .val (.int (sp3 (((v0_5 p1 p2 p3) - (v0_13 p1 p2 p3)) - (v0_21 p1 p2 p3)))), .val (.ref b16), .val (.int (sp3 ((v0_5 p1 p2 p3) - (v0_5 p1 p2 p3)))), .val (.int (sp3 (((v0_5 p1 p2 p3) - (v0_5 p1 p2 p3)) - (1 : Int64))))] [(.long (v0_21 p1 p2 p3)), (.long (v0_13 p1 p2 p3)), (.int (sp3 (((v0_5 p1 p2 p3) - (v0_13 p1 p2 p3)) - (v0_21 p1 p2 p3))))])) _
          refine XS.ladd X34.here hx rfl (hb hby at_136) rfl ?_
          show Steps p.tables e below (T34.setTop (mkF m 137 #[.val (.long p1), .second, .val (.int p2), .val (.int p3), .val (.long (v0_5 p1 p2 p3)), .second, .val (.long (v0_13 p1 p2 p3)), .second, .val (.long (v0_21 p1 p2 p3)), .second, .val (.ref b2), .val (.int (sp3 (v0_5 p1 p2 p3))), .val (.int (sp3 ((v0_5 p1 p2 p3) - (v0_13 p1 p2 p3)))), .val (.int (sp3 (((v0_5 p1 p2 p3) - (v0_13 p1 p2 p3)) - (v0_21 p1 p2 p3)))), .val (.ref b16), .val (.int (sp3 ((v0_5 p1 p2 p3) - (v0_5 p1 p2 p3)))), .val (.int (sp3 (((v0_5 p1 p2 p3) - (v0_5 p1 p2 p3)) - (1 : Int64))))] [(.long ((v0_13 p1 p2 p3) + (v0_21 p1 p2 p3))), (.int (sp3 (((v0_5 p1 p2 p3) - (v0_13 p1 p2 p3)) - (v0_21 p1 p2 p3))))])) _
          refine XS.lload X34.here hx rfl (hb hby at_137) rfl ?_
          show Steps p.tables e below (T34.setTop (mkF m 139 #[.val (.long p1), .second, .val (.int p2), .val (.int p3), .val (.long (v0_5 p1 p2 p3)), .second, .val (.long (v0_13 p1 p2 p3)), .second, .val (.long (v0_21 p1 p2 p3)), .second, .val (.ref b2), .val (.int (sp3 (v0_5 p1 p2 p3))), .val (.int (sp3 ((v0_5 p1 p2 p3) - (v0_13 p1 p2 p3)))), .val (.int (sp3 (((v0_5 p1 p2 p3) - (v0_13 p1 p2 p3)) - (v0_21 p1 p2 p3)))), .val (.ref b16), .val (.int (sp3 ((v0_5 p1 p2 p3) - (v0_5 p1 p2 p3)))), .val (.int (sp3 (((v0_5 p1 p2 p3) - (v0_5 p1 p2 p3)) - (1 : Int64))))] [(.long (v0_5 p1 p2 p3)), (.long ((v0_13 p1 p2 p3) + (v0_21 p1 p2 p3))), (.int (sp3 (((v0_5 p1 p2 p3) - (v0_13 p1 p2 p3)) - (v0_21 p1 p2 p3))))])) _
          refine XS.lcmp X34.here hx rfl (hb hby at_139) rfl ?_
          exact kt)
        by_cases c140_41 : (v0_5 p1 p2 p3) < ((v0_13 p1 p2 p3) + (v0_21 p1 p2 p3))
        · have k44 : ∀ t, Steps p.tables e below (T34.setTop (mkF m 148 #[.val (.long p1), .second, .val (.int p2), .val (.int p3), .val (.long (v0_5 p1 p2 p3)), .second, .val (.long (v0_13 p1 p2 p3)), .second, .val (.long (v0_21 p1 p2 p3)), .second, .val (.ref b2), .val (.int (sp3 (v0_5 p1 p2 p3))), .val (.int (sp3 ((v0_5 p1 p2 p3) - (v0_13 p1 p2 p3)))), .val (.int (sp3 (((v0_5 p1 p2 p3) - (v0_13 p1 p2 p3)) - (v0_21 p1 p2 p3)))), .val (.ref b16), .val (.int (sp3 ((v0_5 p1 p2 p3) - (v0_5 p1 p2 p3)))), .val (.int (sp3 (((v0_5 p1 p2 p3) - (v0_5 p1 p2 p3)) - (1 : Int64))))] [(.int (1 : Int32)), (.int (sp3 (((v0_5 p1 p2 p3) - (v0_13 p1 p2 p3)) - (v0_21 p1 p2 p3))))])) t → Steps p.tables e below (s₁.setTop (mkF m 0 #[.val (.long p1), .second, .val (.int p2), .val (.int p3), .unset, .unset, .unset, .unset, .unset, .unset, .unset, .unset, .unset, .unset, .unset, .unset, .unset] [])) t := fun t kt => k42 t (by
            show Steps p.tables e below (T34.setTop (mkF m 140 #[.val (.long p1), .second, .val (.int p2), .val (.int p3), .val (.long (v0_5 p1 p2 p3)), .second, .val (.long (v0_13 p1 p2 p3)), .second, .val (.long (v0_21 p1 p2 p3)), .second, .val (.ref b2), .val (.int (sp3 (v0_5 p1 p2 p3))), .val (.int (sp3 ((v0_5 p1 p2 p3) - (v0_13 p1 p2 p3)))), .val (.int (sp3 (((v0_5 p1 p2 p3) - (v0_13 p1 p2 p3)) - (v0_21 p1 p2 p3)))), .val (.ref b16), .val (.int (sp3 ((v0_5 p1 p2 p3) - (v0_5 p1 p2 p3)))), .val (.int (sp3 (((v0_5 p1 p2 p3) - (v0_5 p1 p2 p3)) - (1 : Int64))))] [(.int (lcmpW ((v0_13 p1 p2 p3) + (v0_21 p1 p2 p3)) (v0_5 p1 p2 p3))), (.int (sp3 (((v0_5 p1 p2 p3) - (v0_13 p1 p2 p3)) - (v0_21 p1 p2 p3))))])) _
            refine XS.ifNo X34.here hx rfl (hb hby at_140) rfl ((if0 _ _).trans (tlt ((lw_gt _ _).mpr c140_41)).2.2.2) ?_
            show Steps p.tables e below (T34.setTop (mkF m 143 #[.val (.long p1), .second, .val (.int p2), .val (.int p3), .val (.long (v0_5 p1 p2 p3)), .second, .val (.long (v0_13 p1 p2 p3)), .second, .val (.long (v0_21 p1 p2 p3)), .second, .val (.ref b2), .val (.int (sp3 (v0_5 p1 p2 p3))), .val (.int (sp3 ((v0_5 p1 p2 p3) - (v0_13 p1 p2 p3)))), .val (.int (sp3 (((v0_5 p1 p2 p3) - (v0_13 p1 p2 p3)) - (v0_21 p1 p2 p3)))), .val (.ref b16), .val (.int (sp3 ((v0_5 p1 p2 p3) - (v0_5 p1 p2 p3)))), .val (.int (sp3 (((v0_5 p1 p2 p3) - (v0_5 p1 p2 p3)) - (1 : Int64))))] [(.int (sp3 (((v0_5 p1 p2 p3) - (v0_13 p1 p2 p3)) - (v0_21 p1 p2 p3))))])) _
            refine XS.iconst X34.here hx rfl (hb hby at_143) ?_
            show Steps p.tables e below (T34.setTop (mkF m 144 #[.val (.long p1), .second, .val (.int p2), .val (.int p3), .val (.long (v0_5 p1 p2 p3)), .second, .val (.long (v0_13 p1 p2 p3)), .second, .val (.long (v0_21 p1 p2 p3)), .second, .val (.ref b2), .val (.int (sp3 (v0_5 p1 p2 p3))), .val (.int (sp3 ((v0_5 p1 p2 p3) - (v0_13 p1 p2 p3)))), .val (.int (sp3 (((v0_5 p1 p2 p3) - (v0_13 p1 p2 p3)) - (v0_21 p1 p2 p3)))), .val (.ref b16), .val (.int (sp3 ((v0_5 p1 p2 p3) - (v0_5 p1 p2 p3)))), .val (.int (sp3 (((v0_5 p1 p2 p3) - (v0_5 p1 p2 p3)) - (1 : Int64))))] [(.int (1 : Int32)), (.int (sp3 (((v0_5 p1 p2 p3) - (v0_13 p1 p2 p3)) - (v0_21 p1 p2 p3))))])) _
            refine XS.goto X34.here hx rfl (pc0 := 144) (pc' := 148) rfl (hb hby at_144) (by decide) (by decide) ?_
            exact kt)
          by_cases c148_43 : (sp3 (((v0_5 p1 p2 p3) - (v0_13 p1 p2 p3)) - (v0_21 p1 p2 p3))) = (1 : Int32)
          · have k46 : ∀ t, Steps p.tables e below (T34.setTop (mkF m 153 #[.val (.long p1), .second, .val (.int p2), .val (.int p3), .val (.long (v0_5 p1 p2 p3)), .second, .val (.long (v0_13 p1 p2 p3)), .second, .val (.long (v0_21 p1 p2 p3)), .second, .val (.ref b2), .val (.int (sp3 (v0_5 p1 p2 p3))), .val (.int (sp3 ((v0_5 p1 p2 p3) - (v0_13 p1 p2 p3)))), .val (.int (sp3 (((v0_5 p1 p2 p3) - (v0_13 p1 p2 p3)) - (v0_21 p1 p2 p3)))), .val (.ref b16), .val (.int (sp3 ((v0_5 p1 p2 p3) - (v0_5 p1 p2 p3)))), .val (.int (sp3 (((v0_5 p1 p2 p3) - (v0_5 p1 p2 p3)) - (1 : Int64))))] [(.int (sp3 ((v0_5 p1 p2 p3) - (v0_5 p1 p2 p3))))])) t → Steps p.tables e below (s₁.setTop (mkF m 0 #[.val (.long p1), .second, .val (.int p2), .val (.int p3), .unset, .unset, .unset, .unset, .unset, .unset, .unset, .unset, .unset, .unset, .unset, .unset, .unset] [])) t := fun t kt => k44 t (by
              show Steps p.tables e below (T34.setTop (mkF m 148 #[.val (.long p1), .second, .val (.int p2), .val (.int p3), .val (.long (v0_5 p1 p2 p3)), .second, .val (.long (v0_13 p1 p2 p3)), .second, .val (.long (v0_21 p1 p2 p3)), .second, .val (.ref b2), .val (.int (sp3 (v0_5 p1 p2 p3))), .val (.int (sp3 ((v0_5 p1 p2 p3) - (v0_13 p1 p2 p3)))), .val (.int (sp3 (((v0_5 p1 p2 p3) - (v0_13 p1 p2 p3)) - (v0_21 p1 p2 p3)))), .val (.ref b16), .val (.int (sp3 ((v0_5 p1 p2 p3) - (v0_5 p1 p2 p3)))), .val (.int (sp3 (((v0_5 p1 p2 p3) - (v0_5 p1 p2 p3)) - (1 : Int64))))] [(.int (1 : Int32)), (.int (sp3 (((v0_5 p1 p2 p3) - (v0_13 p1 p2 p3)) - (v0_21 p1 p2 p3))))])) _
              refine XS.icmpNo X34.here hx rfl (hb hby at_148) rfl (teq c148_43).2 ?_
              show Steps p.tables e below (T34.setTop (mkF m 151 #[.val (.long p1), .second, .val (.int p2), .val (.int p3), .val (.long (v0_5 p1 p2 p3)), .second, .val (.long (v0_13 p1 p2 p3)), .second, .val (.long (v0_21 p1 p2 p3)), .second, .val (.ref b2), .val (.int (sp3 (v0_5 p1 p2 p3))), .val (.int (sp3 ((v0_5 p1 p2 p3) - (v0_13 p1 p2 p3)))), .val (.int (sp3 (((v0_5 p1 p2 p3) - (v0_13 p1 p2 p3)) - (v0_21 p1 p2 p3)))), .val (.ref b16), .val (.int (sp3 ((v0_5 p1 p2 p3) - (v0_5 p1 p2 p3)))), .val (.int (sp3 (((v0_5 p1 p2 p3) - (v0_5 p1 p2 p3)) - (1 : Int64))))] [])) _
              refine XS.iload X34.here hx rfl (hb hby at_151) rfl ?_
              exact kt)
            by_cases c153_45 : (sp3 ((v0_5 p1 p2 p3) - (v0_5 p1 p2 p3))) = (0 : Int32)
            · have k48 : ∀ t, Steps p.tables e below (T34.setTop (mkF m 158 #[.val (.long p1), .second, .val (.int p2), .val (.int p3), .val (.long (v0_5 p1 p2 p3)), .second, .val (.long (v0_13 p1 p2 p3)), .second, .val (.long (v0_21 p1 p2 p3)), .second, .val (.ref b2), .val (.int (sp3 (v0_5 p1 p2 p3))), .val (.int (sp3 ((v0_5 p1 p2 p3) - (v0_13 p1 p2 p3)))), .val (.int (sp3 (((v0_5 p1 p2 p3) - (v0_13 p1 p2 p3)) - (v0_21 p1 p2 p3)))), .val (.ref b16), .val (.int (sp3 ((v0_5 p1 p2 p3) - (v0_5 p1 p2 p3)))), .val (.int (sp3 (((v0_5 p1 p2 p3) - (v0_5 p1 p2 p3)) - (1 : Int64))))] [(.int (sp3 (((v0_5 p1 p2 p3) - (v0_5 p1 p2 p3)) - (1 : Int64))))])) t → Steps p.tables e below (s₁.setTop (mkF m 0 #[.val (.long p1), .second, .val (.int p2), .val (.int p3), .unset, .unset, .unset, .unset, .unset, .unset, .unset, .unset, .unset, .unset, .unset, .unset, .unset] [])) t := fun t kt => k46 t (by
                show Steps p.tables e below (T34.setTop (mkF m 153 #[.val (.long p1), .second, .val (.int p2), .val (.int p3), .val (.long (v0_5 p1 p2 p3)), .second, .val (.long (v0_13 p1 p2 p3)), .second, .val (.long (v0_21 p1 p2 p3)), .second, .val (.ref b2), .val (.int (sp3 (v0_5 p1 p2 p3))), .val (.int (sp3 ((v0_5 p1 p2 p3) - (v0_13 p1 p2 p3)))), .val (.int (sp3 (((v0_5 p1 p2 p3) - (v0_13 p1 p2 p3)) - (v0_21 p1 p2 p3)))), .val (.ref b16), .val (.int (sp3 ((v0_5 p1 p2 p3) - (v0_5 p1 p2 p3)))), .val (.int (sp3 (((v0_5 p1 p2 p3) - (v0_5 p1 p2 p3)) - (1 : Int64))))] [(.int (sp3 ((v0_5 p1 p2 p3) - (v0_5 p1 p2 p3))))])) _
                refine XS.ifNo X34.here hx rfl (hb hby at_153) rfl ((if0 _ _).trans (teq c153_45).2) ?_
                show Steps p.tables e below (T34.setTop (mkF m 156 #[.val (.long p1), .second, .val (.int p2), .val (.int p3), .val (.long (v0_5 p1 p2 p3)), .second, .val (.long (v0_13 p1 p2 p3)), .second, .val (.long (v0_21 p1 p2 p3)), .second, .val (.ref b2), .val (.int (sp3 (v0_5 p1 p2 p3))), .val (.int (sp3 ((v0_5 p1 p2 p3) - (v0_13 p1 p2 p3)))), .val (.int (sp3 (((v0_5 p1 p2 p3) - (v0_13 p1 p2 p3)) - (v0_21 p1 p2 p3)))), .val (.ref b16), .val (.int (sp3 ((v0_5 p1 p2 p3) - (v0_5 p1 p2 p3)))), .val (.int (sp3 (((v0_5 p1 p2 p3) - (v0_5 p1 p2 p3)) - (1 : Int64))))] [])) _
                refine XS.iload X34.here hx rfl (hb hby at_156) rfl ?_
                exact kt)
              by_cases c158_47 : (sp3 (((v0_5 p1 p2 p3) - (v0_5 p1 p2 p3)) - (1 : Int64))) = (0 : Int32)
              · obtain ⟨fs, hr, hrun, hended, hW, hsame⟩ := X34.leave (v := some (.int (0 : Int32))) (fun h => by rw [Bd.returns] at h; cases h)
                refine ⟨_, _, pre0 _ (k48 _ ?_), hrun, hended, _, _, rfl, ?_, ⟨_, rfl⟩, hW, hsame.mono (by decide) (by decide)⟩
                · show Steps p.tables e below (T34.setTop (mkF m 158 #[.val (.long p1), .second, .val (.int p2), .val (.int p3), .val (.long (v0_5 p1 p2 p3)), .second, .val (.long (v0_13 p1 p2 p3)), .second, .val (.long (v0_21 p1 p2 p3)), .second, .val (.ref b2), .val (.int (sp3 (v0_5 p1 p2 p3))), .val (.int (sp3 ((v0_5 p1 p2 p3) - (v0_13 p1 p2 p3)))), .val (.int (sp3 (((v0_5 p1 p2 p3) - (v0_13 p1 p2 p3)) - (v0_21 p1 p2 p3)))), .val (.ref b16), .val (.int (sp3 ((v0_5 p1 p2 p3) - (v0_5 p1 p2 p3)))), .val (.int (sp3 (((v0_5 p1 p2 p3) - (v0_5 p1 p2 p3)) - (1 : Int64))))] [(.int (sp3 (((v0_5 p1 p2 p3) - (v0_5 p1 p2 p3)) - (1 : Int64))))])) _
                  refine XS.ifYes X34.here hx rfl (pc0 := 158) (pc' := 165) rfl (hb hby at_158) rfl ((if0 _ _).trans (teq c158_47).1) (by decide) (by decide) ?_
                  show Steps p.tables e below (T34.setTop (mkF m 165 #[.val (.long p1), .second, .val (.int p2), .val (.int p3), .val (.long (v0_5 p1 p2 p3)), .second, .val (.long (v0_13 p1 p2 p3)), .second, .val (.long (v0_21 p1 p2 p3)), .second, .val (.ref b2), .val (.int (sp3 (v0_5 p1 p2 p3))), .val (.int (sp3 ((v0_5 p1 p2 p3) - (v0_13 p1 p2 p3)))), .val (.int (sp3 (((v0_5 p1 p2 p3) - (v0_13 p1 p2 p3)) - (v0_21 p1 p2 p3)))), .val (.ref b16), .val (.int (sp3 ((v0_5 p1 p2 p3) - (v0_5 p1 p2 p3)))), .val (.int (sp3 (((v0_5 p1 p2 p3) - (v0_5 p1 p2 p3)) - (1 : Int64))))] [])) _
                  refine XS.iconst X34.here hx rfl (hb hby at_165) ?_
                  show Steps p.tables e below (T34.setTop (mkF m 166 #[.val (.long p1), .second, .val (.int p2), .val (.int p3), .val (.long (v0_5 p1 p2 p3)), .second, .val (.long (v0_13 p1 p2 p3)), .second, .val (.long (v0_21 p1 p2 p3)), .second, .val (.ref b2), .val (.int (sp3 (v0_5 p1 p2 p3))), .val (.int (sp3 ((v0_5 p1 p2 p3) - (v0_13 p1 p2 p3)))), .val (.int (sp3 (((v0_5 p1 p2 p3) - (v0_13 p1 p2 p3)) - (v0_21 p1 p2 p3)))), .val (.ref b16), .val (.int (sp3 ((v0_5 p1 p2 p3) - (v0_5 p1 p2 p3)))), .val (.int (sp3 (((v0_5 p1 p2 p3) - (v0_5 p1 p2 p3)) - (1 : Int64))))] [(.int (0 : Int32))])) _
                  exact retN X34 hx (t := .boolean) Bd.returns (by simp) (hb hby at_166) hr
                · show Q0 Z p1 p2 p3 h0 n0 _ T34.heap _
                  rw [hh34]
                  have hv : sp0 p1 p2 p3 = (0 : Int32) := by unfold sp0; rw [if_pos c109_35, if_pos c119_37, if_pos c127_39, if_pos c140_41, if_pos c148_43, if_pos c153_45, if_pos c158_47]
                  exact ⟨by rw [← hv, own_law p1 p2 p3], N34⟩
              · obtain ⟨fs, hr, hrun, hended, hW, hsame⟩ := X34.leave (v := some (.int (1 : Int32))) (fun h => by rw [Bd.returns] at h; cases h)
                refine ⟨_, _, pre0 _ (k48 _ ?_), hrun, hended, _, _, rfl, ?_, ⟨_, rfl⟩, hW, hsame.mono (by decide) (by decide)⟩
                · show Steps p.tables e below (T34.setTop (mkF m 158 #[.val (.long p1), .second, .val (.int p2), .val (.int p3), .val (.long (v0_5 p1 p2 p3)), .second, .val (.long (v0_13 p1 p2 p3)), .second, .val (.long (v0_21 p1 p2 p3)), .second, .val (.ref b2), .val (.int (sp3 (v0_5 p1 p2 p3))), .val (.int (sp3 ((v0_5 p1 p2 p3) - (v0_13 p1 p2 p3)))), .val (.int (sp3 (((v0_5 p1 p2 p3) - (v0_13 p1 p2 p3)) - (v0_21 p1 p2 p3)))), .val (.ref b16), .val (.int (sp3 ((v0_5 p1 p2 p3) - (v0_5 p1 p2 p3)))), .val (.int (sp3 (((v0_5 p1 p2 p3) - (v0_5 p1 p2 p3)) - (1 : Int64))))] [(.int (sp3 (((v0_5 p1 p2 p3) - (v0_5 p1 p2 p3)) - (1 : Int64))))])) _
                  refine XS.ifNo X34.here hx rfl (hb hby at_158) rfl ((if0 _ _).trans (feq c158_47).1) ?_
                  show Steps p.tables e below (T34.setTop (mkF m 161 #[.val (.long p1), .second, .val (.int p2), .val (.int p3), .val (.long (v0_5 p1 p2 p3)), .second, .val (.long (v0_13 p1 p2 p3)), .second, .val (.long (v0_21 p1 p2 p3)), .second, .val (.ref b2), .val (.int (sp3 (v0_5 p1 p2 p3))), .val (.int (sp3 ((v0_5 p1 p2 p3) - (v0_13 p1 p2 p3)))), .val (.int (sp3 (((v0_5 p1 p2 p3) - (v0_13 p1 p2 p3)) - (v0_21 p1 p2 p3)))), .val (.ref b16), .val (.int (sp3 ((v0_5 p1 p2 p3) - (v0_5 p1 p2 p3)))), .val (.int (sp3 (((v0_5 p1 p2 p3) - (v0_5 p1 p2 p3)) - (1 : Int64))))] [])) _
                  refine XS.iconst X34.here hx rfl (hb hby at_161) ?_
                  show Steps p.tables e below (T34.setTop (mkF m 162 #[.val (.long p1), .second, .val (.int p2), .val (.int p3), .val (.long (v0_5 p1 p2 p3)), .second, .val (.long (v0_13 p1 p2 p3)), .second, .val (.long (v0_21 p1 p2 p3)), .second, .val (.ref b2), .val (.int (sp3 (v0_5 p1 p2 p3))), .val (.int (sp3 ((v0_5 p1 p2 p3) - (v0_13 p1 p2 p3)))), .val (.int (sp3 (((v0_5 p1 p2 p3) - (v0_13 p1 p2 p3)) - (v0_21 p1 p2 p3)))), .val (.ref b16), .val (.int (sp3 ((v0_5 p1 p2 p3) - (v0_5 p1 p2 p3)))), .val (.int (sp3 (((v0_5 p1 p2 p3) - (v0_5 p1 p2 p3)) - (1 : Int64))))] [(.int (1 : Int32))])) _
                  refine XS.goto X34.here hx rfl (pc0 := 162) (pc' := 166) rfl (hb hby at_162) (by decide) (by decide) ?_
                  show Steps p.tables e below (T34.setTop (mkF m 166 #[.val (.long p1), .second, .val (.int p2), .val (.int p3), .val (.long (v0_5 p1 p2 p3)), .second, .val (.long (v0_13 p1 p2 p3)), .second, .val (.long (v0_21 p1 p2 p3)), .second, .val (.ref b2), .val (.int (sp3 (v0_5 p1 p2 p3))), .val (.int (sp3 ((v0_5 p1 p2 p3) - (v0_13 p1 p2 p3)))), .val (.int (sp3 (((v0_5 p1 p2 p3) - (v0_13 p1 p2 p3)) - (v0_21 p1 p2 p3)))), .val (.ref b16), .val (.int (sp3 ((v0_5 p1 p2 p3) - (v0_5 p1 p2 p3)))), .val (.int (sp3 (((v0_5 p1 p2 p3) - (v0_5 p1 p2 p3)) - (1 : Int64))))] [(.int (1 : Int32))])) _
                  exact retN X34 hx (t := .boolean) Bd.returns (by simp) (hb hby at_166) hr
                · show Q0 Z p1 p2 p3 h0 n0 _ T34.heap _
                  rw [hh34]
                  have hv : sp0 p1 p2 p3 = (1 : Int32) := by unfold sp0; rw [if_pos c109_35, if_pos c119_37, if_pos c127_39, if_pos c140_41, if_pos c148_43, if_pos c153_45, if_neg c158_47]
                  exact ⟨by rw [← hv, own_law p1 p2 p3], N34⟩
            · obtain ⟨fs, hr, hrun, hended, hW, hsame⟩ := X34.leave (v := some (.int (0 : Int32))) (fun h => by rw [Bd.returns] at h; cases h)
              refine ⟨_, _, pre0 _ (k46 _ ?_), hrun, hended, _, _, rfl, ?_, ⟨_, rfl⟩, hW, hsame.mono (by decide) (by decide)⟩
              · show Steps p.tables e below (T34.setTop (mkF m 153 #[.val (.long p1), .second, .val (.int p2), .val (.int p3), .val (.long (v0_5 p1 p2 p3)), .second, .val (.long (v0_13 p1 p2 p3)), .second, .val (.long (v0_21 p1 p2 p3)), .second, .val (.ref b2), .val (.int (sp3 (v0_5 p1 p2 p3))), .val (.int (sp3 ((v0_5 p1 p2 p3) - (v0_13 p1 p2 p3)))), .val (.int (sp3 (((v0_5 p1 p2 p3) - (v0_13 p1 p2 p3)) - (v0_21 p1 p2 p3)))), .val (.ref b16), .val (.int (sp3 ((v0_5 p1 p2 p3) - (v0_5 p1 p2 p3)))), .val (.int (sp3 (((v0_5 p1 p2 p3) - (v0_5 p1 p2 p3)) - (1 : Int64))))] [(.int (sp3 ((v0_5 p1 p2 p3) - (v0_5 p1 p2 p3))))])) _
                refine XS.ifYes X34.here hx rfl (pc0 := 153) (pc' := 165) rfl (hb hby at_153) rfl ((if0 _ _).trans (feq c153_45).2) (by decide) (by decide) ?_
                show Steps p.tables e below (T34.setTop (mkF m 165 #[.val (.long p1), .second, .val (.int p2), .val (.int p3), .val (.long (v0_5 p1 p2 p3)), .second, .val (.long (v0_13 p1 p2 p3)), .second, .val (.long (v0_21 p1 p2 p3)), .second, .val (.ref b2), .val (.int (sp3 (v0_5 p1 p2 p3))), .val (.int (sp3 ((v0_5 p1 p2 p3) - (v0_13 p1 p2 p3)))), .val (.int (sp3 (((v0_5 p1 p2 p3) - (v0_13 p1 p2 p3)) - (v0_21 p1 p2 p3)))), .val (.ref b16), .val (.int (sp3 ((v0_5 p1 p2 p3) - (v0_5 p1 p2 p3)))), .val (.int (sp3 (((v0_5 p1 p2 p3) - (v0_5 p1 p2 p3)) - (1 : Int64))))] [])) _
                refine XS.iconst X34.here hx rfl (hb hby at_165) ?_
                show Steps p.tables e below (T34.setTop (mkF m 166 #[.val (.long p1), .second, .val (.int p2), .val (.int p3), .val (.long (v0_5 p1 p2 p3)), .second, .val (.long (v0_13 p1 p2 p3)), .second, .val (.long (v0_21 p1 p2 p3)), .second, .val (.ref b2), .val (.int (sp3 (v0_5 p1 p2 p3))), .val (.int (sp3 ((v0_5 p1 p2 p3) - (v0_13 p1 p2 p3)))), .val (.int (sp3 (((v0_5 p1 p2 p3) - (v0_13 p1 p2 p3)) - (v0_21 p1 p2 p3)))), .val (.ref b16), .val (.int (sp3 ((v0_5 p1 p2 p3) - (v0_5 p1 p2 p3)))), .val (.int (sp3 (((v0_5 p1 p2 p3) - (v0_5 p1 p2 p3)) - (1 : Int64))))] [(.int (0 : Int32))])) _
                exact retN X34 hx (t := .boolean) Bd.returns (by simp) (hb hby at_166) hr
              · show Q0 Z p1 p2 p3 h0 n0 _ T34.heap _
                rw [hh34]
                have hv : sp0 p1 p2 p3 = (0 : Int32) := by unfold sp0; rw [if_pos c109_35, if_pos c119_37, if_pos c127_39, if_pos c140_41, if_pos c148_43, if_neg c153_45]
                exact ⟨by rw [← hv, own_law p1 p2 p3], N34⟩
          · obtain ⟨fs, hr, hrun, hended, hW, hsame⟩ := X34.leave (v := some (.int (0 : Int32))) (fun h => by rw [Bd.returns] at h; cases h)
            refine ⟨_, _, pre0 _ (k44 _ ?_), hrun, hended, _, _, rfl, ?_, ⟨_, rfl⟩, hW, hsame.mono (by decide) (by decide)⟩
            · show Steps p.tables e below (T34.setTop (mkF m 148 #[.val (.long p1), .second, .val (.int p2), .val (.int p3), .val (.long (v0_5 p1 p2 p3)), .second, .val (.long (v0_13 p1 p2 p3)), .second, .val (.long (v0_21 p1 p2 p3)), .second, .val (.ref b2), .val (.int (sp3 (v0_5 p1 p2 p3))), .val (.int (sp3 ((v0_5 p1 p2 p3) - (v0_13 p1 p2 p3)))), .val (.int (sp3 (((v0_5 p1 p2 p3) - (v0_13 p1 p2 p3)) - (v0_21 p1 p2 p3)))), .val (.ref b16), .val (.int (sp3 ((v0_5 p1 p2 p3) - (v0_5 p1 p2 p3)))), .val (.int (sp3 (((v0_5 p1 p2 p3) - (v0_5 p1 p2 p3)) - (1 : Int64))))] [(.int (1 : Int32)), (.int (sp3 (((v0_5 p1 p2 p3) - (v0_13 p1 p2 p3)) - (v0_21 p1 p2 p3))))])) _
              refine XS.icmpYes X34.here hx rfl (pc0 := 148) (pc' := 165) rfl (hb hby at_148) rfl (feq c148_43).2 (by decide) (by decide) ?_
              show Steps p.tables e below (T34.setTop (mkF m 165 #[.val (.long p1), .second, .val (.int p2), .val (.int p3), .val (.long (v0_5 p1 p2 p3)), .second, .val (.long (v0_13 p1 p2 p3)), .second, .val (.long (v0_21 p1 p2 p3)), .second, .val (.ref b2), .val (.int (sp3 (v0_5 p1 p2 p3))), .val (.int (sp3 ((v0_5 p1 p2 p3) - (v0_13 p1 p2 p3)))), .val (.int (sp3 (((v0_5 p1 p2 p3) - (v0_13 p1 p2 p3)) - (v0_21 p1 p2 p3)))), .val (.ref b16), .val (.int (sp3 ((v0_5 p1 p2 p3) - (v0_5 p1 p2 p3)))), .val (.int (sp3 (((v0_5 p1 p2 p3) - (v0_5 p1 p2 p3)) - (1 : Int64))))] [])) _
              refine XS.iconst X34.here hx rfl (hb hby at_165) ?_
              show Steps p.tables e below (T34.setTop (mkF m 166 #[.val (.long p1), .second, .val (.int p2), .val (.int p3), .val (.long (v0_5 p1 p2 p3)), .second, .val (.long (v0_13 p1 p2 p3)), .second, .val (.long (v0_21 p1 p2 p3)), .second, .val (.ref b2), .val (.int (sp3 (v0_5 p1 p2 p3))), .val (.int (sp3 ((v0_5 p1 p2 p3) - (v0_13 p1 p2 p3)))), .val (.int (sp3 (((v0_5 p1 p2 p3) - (v0_13 p1 p2 p3)) - (v0_21 p1 p2 p3)))), .val (.ref b16), .val (.int (sp3 ((v0_5 p1 p2 p3) - (v0_5 p1 p2 p3)))), .val (.int (sp3 (((v0_5 p1 p2 p3) - (v0_5 p1 p2 p3)) - (1 : Int64))))] [(.int (0 : Int32))])) _
              exact retN X34 hx (t := .boolean) Bd.returns (by simp) (hb hby at_166) hr
            · show Q0 Z p1 p2 p3 h0 n0 _ T34.heap _
              rw [hh34]
              have hv : sp0 p1 p2 p3 = (0 : Int32) := by unfold sp0; rw [if_pos c109_35, if_pos c119_37, if_pos c127_39, if_pos c140_41, if_neg c148_43]
              exact ⟨by rw [← hv, own_law p1 p2 p3], N34⟩
        · have k50 : ∀ t, Steps p.tables e below (T34.setTop (mkF m 148 #[.val (.long p1), .second, .val (.int p2), .val (.int p3), .val (.long (v0_5 p1 p2 p3)), .second, .val (.long (v0_13 p1 p2 p3)), .second, .val (.long (v0_21 p1 p2 p3)), .second, .val (.ref b2), .val (.int (sp3 (v0_5 p1 p2 p3))), .val (.int (sp3 ((v0_5 p1 p2 p3) - (v0_13 p1 p2 p3)))), .val (.int (sp3 (((v0_5 p1 p2 p3) - (v0_13 p1 p2 p3)) - (v0_21 p1 p2 p3)))), .val (.ref b16), .val (.int (sp3 ((v0_5 p1 p2 p3) - (v0_5 p1 p2 p3)))), .val (.int (sp3 (((v0_5 p1 p2 p3) - (v0_5 p1 p2 p3)) - (1 : Int64))))] [(.int (0 : Int32)), (.int (sp3 (((v0_5 p1 p2 p3) - (v0_13 p1 p2 p3)) - (v0_21 p1 p2 p3))))])) t → Steps p.tables e below (s₁.setTop (mkF m 0 #[.val (.long p1), .second, .val (.int p2), .val (.int p3), .unset, .unset, .unset, .unset, .unset, .unset, .unset, .unset, .unset, .unset, .unset, .unset, .unset] [])) t := fun t kt => k42 t (by
            show Steps p.tables e below (T34.setTop (mkF m 140 #[.val (.long p1), .second, .val (.int p2), .val (.int p3), .val (.long (v0_5 p1 p2 p3)), .second, .val (.long (v0_13 p1 p2 p3)), .second, .val (.long (v0_21 p1 p2 p3)), .second, .val (.ref b2), .val (.int (sp3 (v0_5 p1 p2 p3))), .val (.int (sp3 ((v0_5 p1 p2 p3) - (v0_13 p1 p2 p3)))), .val (.int (sp3 (((v0_5 p1 p2 p3) - (v0_13 p1 p2 p3)) - (v0_21 p1 p2 p3)))), .val (.ref b16), .val (.int (sp3 ((v0_5 p1 p2 p3) - (v0_5 p1 p2 p3)))), .val (.int (sp3 (((v0_5 p1 p2 p3) - (v0_5 p1 p2 p3)) - (1 : Int64))))] [(.int (lcmpW ((v0_13 p1 p2 p3) + (v0_21 p1 p2 p3)) (v0_5 p1 p2 p3))), (.int (sp3 (((v0_5 p1 p2 p3) - (v0_13 p1 p2 p3)) - (v0_21 p1 p2 p3))))])) _
            refine XS.ifYes X34.here hx rfl (pc0 := 140) (pc' := 147) rfl (hb hby at_140) rfl ((if0 _ _).trans (flt (fun q => c140_41 ((lw_gt _ _).mp q))).2.2.2) (by decide) (by decide) ?_
            show Steps p.tables e below (T34.setTop (mkF m 147 #[.val (.long p1), .second, .val (.int p2), .val (.int p3), .val (.long (v0_5 p1 p2 p3)), .second, .val (.long (v0_13 p1 p2 p3)), .second, .val (.long (v0_21 p1 p2 p3)), .second, .val (.ref b2), .val (.int (sp3 (v0_5 p1 p2 p3))), .val (.int (sp3 ((v0_5 p1 p2 p3) - (v0_13 p1 p2 p3)))), .val (.int (sp3 (((v0_5 p1 p2 p3) - (v0_13 p1 p2 p3)) - (v0_21 p1 p2 p3)))), .val (.ref b16), .val (.int (sp3 ((v0_5 p1 p2 p3) - (v0_5 p1 p2 p3)))), .val (.int (sp3 (((v0_5 p1 p2 p3) - (v0_5 p1 p2 p3)) - (1 : Int64))))] [(.int (sp3 (((v0_5 p1 p2 p3) - (v0_13 p1 p2 p3)) - (v0_21 p1 p2 p3))))])) _
            refine XS.iconst X34.here hx rfl (hb hby at_147) ?_
            exact kt)
          by_cases c148_49 : (sp3 (((v0_5 p1 p2 p3) - (v0_13 p1 p2 p3)) - (v0_21 p1 p2 p3))) = (0 : Int32)
          · have k52 : ∀ t, Steps p.tables e below (T34.setTop (mkF m 153 #[.val (.long p1), .second, .val (.int p2), .val (.int p3), .val (.long (v0_5 p1 p2 p3)), .second, .val (.long (v0_13 p1 p2 p3)), .second, .val (.long (v0_21 p1 p2 p3)), .second, .val (.ref b2), .val (.int (sp3 (v0_5 p1 p2 p3))), .val (.int (sp3 ((v0_5 p1 p2 p3) - (v0_13 p1 p2 p3)))), .val (.int (sp3 (((v0_5 p1 p2 p3) - (v0_13 p1 p2 p3)) - (v0_21 p1 p2 p3)))), .val (.ref b16), .val (.int (sp3 ((v0_5 p1 p2 p3) - (v0_5 p1 p2 p3)))), .val (.int (sp3 (((v0_5 p1 p2 p3) - (v0_5 p1 p2 p3)) - (1 : Int64))))] [(.int (sp3 ((v0_5 p1 p2 p3) - (v0_5 p1 p2 p3))))])) t → Steps p.tables e below (s₁.setTop (mkF m 0 #[.val (.long p1), .second, .val (.int p2), .val (.int p3), .unset, .unset, .unset, .unset, .unset, .unset, .unset, .unset, .unset, .unset, .unset, .unset, .unset] [])) t := fun t kt => k50 t (by
              show Steps p.tables e below (T34.setTop (mkF m 148 #[.val (.long p1), .second, .val (.int p2), .val (.int p3), .val (.long (v0_5 p1 p2 p3)), .second, .val (.long (v0_13 p1 p2 p3)), .second, .val (.long (v0_21 p1 p2 p3)), .second, .val (.ref b2), .val (.int (sp3 (v0_5 p1 p2 p3))), .val (.int (sp3 ((v0_5 p1 p2 p3) - (v0_13 p1 p2 p3)))), .val (.int (sp3 (((v0_5 p1 p2 p3) - (v0_13 p1 p2 p3)) - (v0_21 p1 p2 p3)))), .val (.ref b16), .val (.int (sp3 ((v0_5 p1 p2 p3) - (v0_5 p1 p2 p3)))), .val (.int (sp3 (((v0_5 p1 p2 p3) - (v0_5 p1 p2 p3)) - (1 : Int64))))] [(.int (0 : Int32)), (.int (sp3 (((v0_5 p1 p2 p3) - (v0_13 p1 p2 p3)) - (v0_21 p1 p2 p3))))])) _
              refine XS.icmpNo X34.here hx rfl (hb hby at_148) rfl (teq c148_49).2 ?_
              show Steps p.tables e below (T34.setTop (mkF m 151 #[.val (.long p1), .second, .val (.int p2), .val (.int p3), .val (.long (v0_5 p1 p2 p3)), .second, .val (.long (v0_13 p1 p2 p3)), .second, .val (.long (v0_21 p1 p2 p3)), .second, .val (.ref b2), .val (.int (sp3 (v0_5 p1 p2 p3))), .val (.int (sp3 ((v0_5 p1 p2 p3) - (v0_13 p1 p2 p3)))), .val (.int (sp3 (((v0_5 p1 p2 p3) - (v0_13 p1 p2 p3)) - (v0_21 p1 p2 p3)))), .val (.ref b16), .val (.int (sp3 ((v0_5 p1 p2 p3) - (v0_5 p1 p2 p3)))), .val (.int (sp3 (((v0_5 p1 p2 p3) - (v0_5 p1 p2 p3)) - (1 : Int64))))] [])) _
              refine XS.iload X34.here hx rfl (hb hby at_151) rfl ?_
              exact kt)
            by_cases c153_51 : (sp3 ((v0_5 p1 p2 p3) - (v0_5 p1 p2 p3))) = (0 : Int32)
            · have k54 : ∀ t, Steps p.tables e below (T34.setTop (mkF m 158 #[.val (.long p1), .second, .val (.int p2), .val (.int p3), .val (.long (v0_5 p1 p2 p3)), .second, .val (.long (v0_13 p1 p2 p3)), .second, .val (.long (v0_21 p1 p2 p3)), .second, .val (.ref b2), .val (.int (sp3 (v0_5 p1 p2 p3))), .val (.int (sp3 ((v0_5 p1 p2 p3) - (v0_13 p1 p2 p3)))), .val (.int (sp3 (((v0_5 p1 p2 p3) - (v0_13 p1 p2 p3)) - (v0_21 p1 p2 p3)))), .val (.ref b16), .val (.int (sp3 ((v0_5 p1 p2 p3) - (v0_5 p1 p2 p3)))), .val (.int (sp3 (((v0_5 p1 p2 p3) - (v0_5 p1 p2 p3)) - (1 : Int64))))] [(.int (sp3 (((v0_5 p1 p2 p3) - (v0_5 p1 p2 p3)) - (1 : Int64))))])) t → Steps p.tables e below (s₁.setTop (mkF m 0 #[.val (.long p1), .second, .val (.int p2), .val (.int p3), .unset, .unset, .unset, .unset, .unset, .unset, .unset, .unset, .unset, .unset, .unset, .unset, .unset] [])) t := fun t kt => k52 t (by
                show Steps p.tables e below (T34.setTop (mkF m 153 #[.val (.long p1), .second, .val (.int p2), .val (.int p3), .val (.long (v0_5 p1 p2 p3)), .second, .val (.long (v0_13 p1 p2 p3)), .second, .val (.long (v0_21 p1 p2 p3)), .second, .val (.ref b2), .val (.int (sp3 (v0_5 p1 p2 p3))), .val (.int (sp3 ((v0_5 p1 p2 p3) - (v0_13 p1 p2 p3)))), .val (.int (sp3 (((v0_5 p1 p2 p3) - (v0_13 p1 p2 p3)) - (v0_21 p1 p2 p3)))), .val (.ref b16), .val (.int (sp3 ((v0_5 p1 p2 p3) - (v0_5 p1 p2 p3)))), .val (.int (sp3 (((v0_5 p1 p2 p3) - (v0_5 p1 p2 p3)) - (1 : Int64))))] [(.int (sp3 ((v0_5 p1 p2 p3) - (v0_5 p1 p2 p3))))])) _
                refine XS.ifNo X34.here hx rfl (hb hby at_153) rfl ((if0 _ _).trans (teq c153_51).2) ?_
                show Steps p.tables e below (T34.setTop (mkF m 156 #[.val (.long p1), .second, .val (.int p2), .val (.int p3), .val (.long (v0_5 p1 p2 p3)), .second, .val (.long (v0_13 p1 p2 p3)), .second, .val (.long (v0_21 p1 p2 p3)), .second, .val (.ref b2), .val (.int (sp3 (v0_5 p1 p2 p3))), .val (.int (sp3 ((v0_5 p1 p2 p3) - (v0_13 p1 p2 p3)))), .val (.int (sp3 (((v0_5 p1 p2 p3) - (v0_13 p1 p2 p3)) - (v0_21 p1 p2 p3)))), .val (.ref b16), .val (.int (sp3 ((v0_5 p1 p2 p3) - (v0_5 p1 p2 p3)))), .val (.int (sp3 (((v0_5 p1 p2 p3) - (v0_5 p1 p2 p3)) - (1 : Int64))))] [])) _
                refine XS.iload X34.here hx rfl (hb hby at_156) rfl ?_
                exact kt)
              by_cases c158_53 : (sp3 (((v0_5 p1 p2 p3) - (v0_5 p1 p2 p3)) - (1 : Int64))) = (0 : Int32)
              · obtain ⟨fs, hr, hrun, hended, hW, hsame⟩ := X34.leave (v := some (.int (0 : Int32))) (fun h => by rw [Bd.returns] at h; cases h)
                refine ⟨_, _, pre0 _ (k54 _ ?_), hrun, hended, _, _, rfl, ?_, ⟨_, rfl⟩, hW, hsame.mono (by decide) (by decide)⟩
                · show Steps p.tables e below (T34.setTop (mkF m 158 #[.val (.long p1), .second, .val (.int p2), .val (.int p3), .val (.long (v0_5 p1 p2 p3)), .second, .val (.long (v0_13 p1 p2 p3)), .second, .val (.long (v0_21 p1 p2 p3)), .second, .val (.ref b2), .val (.int (sp3 (v0_5 p1 p2 p3))), .val (.int (sp3 ((v0_5 p1 p2 p3) - (v0_13 p1 p2 p3)))), .val (.int (sp3 (((v0_5 p1 p2 p3) - (v0_13 p1 p2 p3)) - (v0_21 p1 p2 p3)))), .val (.ref b16), .val (.int (sp3 ((v0_5 p1 p2 p3) - (v0_5 p1 p2 p3)))), .val (.int (sp3 (((v0_5 p1 p2 p3) - (v0_5 p1 p2 p3)) - (1 : Int64))))] [(.int (sp3 (((v0_5 p1 p2 p3) - (v0_5 p1 p2 p3)) - (1 : Int64))))])) _
                  refine XS.ifYes X34.here hx rfl (pc0 := 158) (pc' := 165) rfl (hb hby at_158) rfl ((if0 _ _).trans (teq c158_53).1) (by decide) (by decide) ?_
                  show Steps p.tables e below (T34.setTop (mkF m 165 #[.val (.long p1), .second, .val (.int p2), .val (.int p3), .val (.long (v0_5 p1 p2 p3)), .second, .val (.long (v0_13 p1 p2 p3)), .second, .val (.long (v0_21 p1 p2 p3)), .second, .val (.ref b2), .val (.int (sp3 (v0_5 p1 p2 p3))), .val (.int (sp3 ((v0_5 p1 p2 p3) - (v0_13 p1 p2 p3)))), .val (.int (sp3 (((v0_5 p1 p2 p3) - (v0_13 p1 p2 p3)) - (v0_21 p1 p2 p3)))), .val (.ref b16), .val (.int (sp3 ((v0_5 p1 p2 p3) - (v0_5 p1 p2 p3)))), .val (.int (sp3 (((v0_5 p1 p2 p3) - (v0_5 p1 p2 p3)) - (1 : Int64))))] [])) _
                  refine XS.iconst X34.here hx rfl (hb hby at_165) ?_
                  show Steps p.tables e below (T34.setTop (mkF m 166 #[.val (.long p1), .second, .val (.int p2), .val (.int p3), .val (.long (v0_5 p1 p2 p3)), .second, .val (.long (v0_13 p1 p2 p3)), .second, .val (.long (v0_21 p1 p2 p3)), .second, .val (.ref b2), .val (.int (sp3 (v0_5 p1 p2 p3))), .val (.int (sp3 ((v0_5 p1 p2 p3) - (v0_13 p1 p2 p3)))), .val (.int (sp3 (((v0_5 p1 p2 p3) - (v0_13 p1 p2 p3)) - (v0_21 p1 p2 p3)))), .val (.ref b16), .val (.int (sp3 ((v0_5 p1 p2 p3) - (v0_5 p1 p2 p3)))), .val (.int (sp3 (((v0_5 p1 p2 p3) - (v0_5 p1 p2 p3)) - (1 : Int64))))] [(.int (0 : Int32))])) _
                  exact retN X34 hx (t := .boolean) Bd.returns (by simp) (hb hby at_166) hr
                · show Q0 Z p1 p2 p3 h0 n0 _ T34.heap _
                  rw [hh34]
                  have hv : sp0 p1 p2 p3 = (0 : Int32) := by unfold sp0; rw [if_pos c109_35, if_pos c119_37, if_pos c127_39, if_neg c140_41, if_pos c148_49, if_pos c153_51, if_pos c158_53]
                  exact ⟨by rw [← hv, own_law p1 p2 p3], N34⟩
              · obtain ⟨fs, hr, hrun, hended, hW, hsame⟩ := X34.leave (v := some (.int (1 : Int32))) (fun h => by rw [Bd.returns] at h; cases h)
                refine ⟨_, _, pre0 _ (k54 _ ?_), hrun, hended, _, _, rfl, ?_, ⟨_, rfl⟩, hW, hsame.mono (by decide) (by decide)⟩
                · show Steps p.tables e below (T34.setTop (mkF m 158 #[.val (.long p1), .second, .val (.int p2), .val (.int p3), .val (.long (v0_5 p1 p2 p3)), .second, .val (.long (v0_13 p1 p2 p3)), .second, .val (.long (v0_21 p1 p2 p3)), .second, .val (.ref b2), .val (.int (sp3 (v0_5 p1 p2 p3))), .val (.int (sp3 ((v0_5 p1 p2 p3) - (v0_13 p1 p2 p3)))), .val (.int (sp3 (((v0_5 p1 p2 p3) - (v0_13 p1 p2 p3)) - (v0_21 p1 p2 p3)))), .val (.ref b16), .val (.int (sp3 ((v0_5 p1 p2 p3) - (v0_5 p1 p2 p3)))), .val (.int (sp3 (((v0_5 p1 p2 p3) - (v0_5 p1 p2 p3)) - (1 : Int64))))] [(.int (sp3 (((v0_5 p1 p2 p3) - (v0_5 p1 p2 p3)) - (1 : Int64))))])) _
                  refine XS.ifNo X34.here hx rfl (hb hby at_158) rfl ((if0 _ _).trans (feq c158_53).1) ?_
                  show Steps p.tables e below (T34.setTop (mkF m 161 #[.val (.long p1), .second, .val (.int p2), .val (.int p3), .val (.long (v0_5 p1 p2 p3)), .second, .val (.long (v0_13 p1 p2 p3)), .second, .val (.long (v0_21 p1 p2 p3)), .second, .val (.ref b2), .val (.int (sp3 (v0_5 p1 p2 p3))), .val (.int (sp3 ((v0_5 p1 p2 p3) - (v0_13 p1 p2 p3)))), .val (.int (sp3 (((v0_5 p1 p2 p3) - (v0_13 p1 p2 p3)) - (v0_21 p1 p2 p3)))), .val (.ref b16), .val (.int (sp3 ((v0_5 p1 p2 p3) - (v0_5 p1 p2 p3)))), .val (.int (sp3 (((v0_5 p1 p2 p3) - (v0_5 p1 p2 p3)) - (1 : Int64))))] [])) _
                  refine XS.iconst X34.here hx rfl (hb hby at_161) ?_
                  show Steps p.tables e below (T34.setTop (mkF m 162 #[.val (.long p1), .second, .val (.int p2), .val (.int p3), .val (.long (v0_5 p1 p2 p3)), .second, .val (.long (v0_13 p1 p2 p3)), .second, .val (.long (v0_21 p1 p2 p3)), .second, .val (.ref b2), .val (.int (sp3 (v0_5 p1 p2 p3))), .val (.int (sp3 ((v0_5 p1 p2 p3) - (v0_13 p1 p2 p3)))), .val (.int (sp3 (((v0_5 p1 p2 p3) - (v0_13 p1 p2 p3)) - (v0_21 p1 p2 p3)))), .val (.ref b16), .val (.int (sp3 ((v0_5 p1 p2 p3) - (v0_5 p1 p2 p3)))), .val (.int (sp3 (((v0_5 p1 p2 p3) - (v0_5 p1 p2 p3)) - (1 : Int64))))] [(.int (1 : Int32))])) _
                  refine XS.goto X34.here hx rfl (pc0 := 162) (pc' := 166) rfl (hb hby at_162) (by decide) (by decide) ?_
                  show Steps p.tables e below (T34.setTop (mkF m 166 #[.val (.long p1), .second, .val (.int p2), .val (.int p3), .val (.long (v0_5 p1 p2 p3)), .second, .val (.long (v0_13 p1 p2 p3)), .second, .val (.long (v0_21 p1 p2 p3)), .second, .val (.ref b2), .val (.int (sp3 (v0_5 p1 p2 p3))), .val (.int (sp3 ((v0_5 p1 p2 p3) - (v0_13 p1 p2 p3)))), .val (.int (sp3 (((v0_5 p1 p2 p3) - (v0_13 p1 p2 p3)) - (v0_21 p1 p2 p3)))), .val (.ref b16), .val (.int (sp3 ((v0_5 p1 p2 p3) - (v0_5 p1 p2 p3)))), .val (.int (sp3 (((v0_5 p1 p2 p3) - (v0_5 p1 p2 p3)) - (1 : Int64))))] [(.int (1 : Int32))])) _
                  exact retN X34 hx (t := .boolean) Bd.returns (by simp) (hb hby at_166) hr
                · show Q0 Z p1 p2 p3 h0 n0 _ T34.heap _
                  rw [hh34]
                  have hv : sp0 p1 p2 p3 = (1 : Int32) := by unfold sp0; rw [if_pos c109_35, if_pos c119_37, if_pos c127_39, if_neg c140_41, if_pos c148_49, if_pos c153_51, if_neg c158_53]
                  exact ⟨by rw [← hv, own_law p1 p2 p3], N34⟩
            · obtain ⟨fs, hr, hrun, hended, hW, hsame⟩ := X34.leave (v := some (.int (0 : Int32))) (fun h => by rw [Bd.returns] at h; cases h)
              refine ⟨_, _, pre0 _ (k52 _ ?_), hrun, hended, _, _, rfl, ?_, ⟨_, rfl⟩, hW, hsame.mono (by decide) (by decide)⟩
              · show Steps p.tables e below (T34.setTop (mkF m 153 #[.val (.long p1), .second, .val (.int p2), .val (.int p3), .val (.long (v0_5 p1 p2 p3)), .second, .val (.long (v0_13 p1 p2 p3)), .second, .val (.long (v0_21 p1 p2 p3)), .second, .val (.ref b2), .val (.int (sp3 (v0_5 p1 p2 p3))), .val (.int (sp3 ((v0_5 p1 p2 p3) - (v0_13 p1 p2 p3)))), .val (.int (sp3 (((v0_5 p1 p2 p3) - (v0_13 p1 p2 p3)) - (v0_21 p1 p2 p3)))), .val (.ref b16), .val (.int (sp3 ((v0_5 p1 p2 p3) - (v0_5 p1 p2 p3)))), .val (.int (sp3 (((v0_5 p1 p2 p3) - (v0_5 p1 p2 p3)) - (1 : Int64))))] [(.int (sp3 ((v0_5 p1 p2 p3) - (v0_5 p1 p2 p3))))])) _
                refine XS.ifYes X34.here hx rfl (pc0 := 153) (pc' := 165) rfl (hb hby at_153) rfl ((if0 _ _).trans (feq c153_51).2) (by decide) (by decide) ?_
                show Steps p.tables e below (T34.setTop (mkF m 165 #[.val (.long p1), .second, .val (.int p2), .val (.int p3), .val (.long (v0_5 p1 p2 p3)), .second, .val (.long (v0_13 p1 p2 p3)), .second, .val (.long (v0_21 p1 p2 p3)), .second, .val (.ref b2), .val (.int (sp3 (v0_5 p1 p2 p3))), .val (.int (sp3 ((v0_5 p1 p2 p3) - (v0_13 p1 p2 p3)))), .val (.int (sp3 (((v0_5 p1 p2 p3) - (v0_13 p1 p2 p3)) - (v0_21 p1 p2 p3)))), .val (.ref b16), .val (.int (sp3 ((v0_5 p1 p2 p3) - (v0_5 p1 p2 p3)))), .val (.int (sp3 (((v0_5 p1 p2 p3) - (v0_5 p1 p2 p3)) - (1 : Int64))))] [])) _
                refine XS.iconst X34.here hx rfl (hb hby at_165) ?_
                show Steps p.tables e below (T34.setTop (mkF m 166 #[.val (.long p1), .second, .val (.int p2), .val (.int p3), .val (.long (v0_5 p1 p2 p3)), .second, .val (.long (v0_13 p1 p2 p3)), .second, .val (.long (v0_21 p1 p2 p3)), .second, .val (.ref b2), .val (.int (sp3 (v0_5 p1 p2 p3))), .val (.int (sp3 ((v0_5 p1 p2 p3) - (v0_13 p1 p2 p3)))), .val (.int (sp3 (((v0_5 p1 p2 p3) - (v0_13 p1 p2 p3)) - (v0_21 p1 p2 p3)))), .val (.ref b16), .val (.int (sp3 ((v0_5 p1 p2 p3) - (v0_5 p1 p2 p3)))), .val (.int (sp3 (((v0_5 p1 p2 p3) - (v0_5 p1 p2 p3)) - (1 : Int64))))] [(.int (0 : Int32))])) _
                exact retN X34 hx (t := .boolean) Bd.returns (by simp) (hb hby at_166) hr
              · show Q0 Z p1 p2 p3 h0 n0 _ T34.heap _
                rw [hh34]
                have hv : sp0 p1 p2 p3 = (0 : Int32) := by unfold sp0; rw [if_pos c109_35, if_pos c119_37, if_pos c127_39, if_neg c140_41, if_pos c148_49, if_neg c153_51]
                exact ⟨by rw [← hv, own_law p1 p2 p3], N34⟩
          · obtain ⟨fs, hr, hrun, hended, hW, hsame⟩ := X34.leave (v := some (.int (0 : Int32))) (fun h => by rw [Bd.returns] at h; cases h)
            refine ⟨_, _, pre0 _ (k50 _ ?_), hrun, hended, _, _, rfl, ?_, ⟨_, rfl⟩, hW, hsame.mono (by decide) (by decide)⟩
            · show Steps p.tables e below (T34.setTop (mkF m 148 #[.val (.long p1), .second, .val (.int p2), .val (.int p3), .val (.long (v0_5 p1 p2 p3)), .second, .val (.long (v0_13 p1 p2 p3)), .second, .val (.long (v0_21 p1 p2 p3)), .second, .val (.ref b2), .val (.int (sp3 (v0_5 p1 p2 p3))), .val (.int (sp3 ((v0_5 p1 p2 p3) - (v0_13 p1 p2 p3)))), .val (.int (sp3 (((v0_5 p1 p2 p3) - (v0_13 p1 p2 p3)) - (v0_21 p1 p2 p3)))), .val (.ref b16), .val (.int (sp3 ((v0_5 p1 p2 p3) - (v0_5 p1 p2 p3)))), .val (.int (sp3 (((v0_5 p1 p2 p3) - (v0_5 p1 p2 p3)) - (1 : Int64))))] [(.int (0 : Int32)), (.int (sp3 (((v0_5 p1 p2 p3) - (v0_13 p1 p2 p3)) - (v0_21 p1 p2 p3))))])) _
              refine XS.icmpYes X34.here hx rfl (pc0 := 148) (pc' := 165) rfl (hb hby at_148) rfl (feq c148_49).2 (by decide) (by decide) ?_
              show Steps p.tables e below (T34.setTop (mkF m 165 #[.val (.long p1), .second, .val (.int p2), .val (.int p3), .val (.long (v0_5 p1 p2 p3)), .second, .val (.long (v0_13 p1 p2 p3)), .second, .val (.long (v0_21 p1 p2 p3)), .second, .val (.ref b2), .val (.int (sp3 (v0_5 p1 p2 p3))), .val (.int (sp3 ((v0_5 p1 p2 p3) - (v0_13 p1 p2 p3)))), .val (.int (sp3 (((v0_5 p1 p2 p3) - (v0_13 p1 p2 p3)) - (v0_21 p1 p2 p3)))), .val (.ref b16), .val (.int (sp3 ((v0_5 p1 p2 p3) - (v0_5 p1 p2 p3)))), .val (.int (sp3 (((v0_5 p1 p2 p3) - (v0_5 p1 p2 p3)) - (1 : Int64))))] [])) _
              refine XS.iconst X34.here hx rfl (hb hby at_165) ?_
              show Steps p.tables e below (T34.setTop (mkF m 166 #[.val (.long p1), .second, .val (.int p2), .val (.int p3), .val (.long (v0_5 p1 p2 p3)), .second, .val (.long (v0_13 p1 p2 p3)), .second, .val (.long (v0_21 p1 p2 p3)), .second, .val (.ref b2), .val (.int (sp3 (v0_5 p1 p2 p3))), .val (.int (sp3 ((v0_5 p1 p2 p3) - (v0_13 p1 p2 p3)))), .val (.int (sp3 (((v0_5 p1 p2 p3) - (v0_13 p1 p2 p3)) - (v0_21 p1 p2 p3)))), .val (.ref b16), .val (.int (sp3 ((v0_5 p1 p2 p3) - (v0_5 p1 p2 p3)))), .val (.int (sp3 (((v0_5 p1 p2 p3) - (v0_5 p1 p2 p3)) - (1 : Int64))))] [(.int (0 : Int32))])) _
              exact retN X34 hx (t := .boolean) Bd.returns (by simp) (hb hby at_166) hr
            · show Q0 Z p1 p2 p3 h0 n0 _ T34.heap _
              rw [hh34]
              have hv : sp0 p1 p2 p3 = (0 : Int32) := by unfold sp0; rw [if_pos c109_35, if_pos c119_37, if_pos c127_39, if_neg c140_41, if_neg c148_49]
              exact ⟨by rw [← hv, own_law p1 p2 p3], N34⟩
      · obtain ⟨fs, hr, hrun, hended, hW, hsame⟩ := X34.leave (v := some (.int (0 : Int32))) (fun h => by rw [Bd.returns] at h; cases h)
        refine ⟨_, _, pre0 _ (k40 _ ?_), hrun, hended, _, _, rfl, ?_, ⟨_, rfl⟩, hW, hsame.mono (by decide) (by decide)⟩
        · show Steps p.tables e below (T34.setTop (mkF m 127 #[.val (.long p1), .second, .val (.int p2), .val (.int p3), .val (.long (v0_5 p1 p2 p3)), .second, .val (.long (v0_13 p1 p2 p3)), .second, .val (.long (v0_21 p1 p2 p3)), .second, .val (.ref b2), .val (.int (sp3 (v0_5 p1 p2 p3))), .val (.int (sp3 ((v0_5 p1 p2 p3) - (v0_13 p1 p2 p3)))), .val (.int (sp3 (((v0_5 p1 p2 p3) - (v0_13 p1 p2 p3)) - (v0_21 p1 p2 p3)))), .val (.ref b16), .val (.int (sp3 ((v0_5 p1 p2 p3) - (v0_5 p1 p2 p3)))), .val (.int (sp3 (((v0_5 p1 p2 p3) - (v0_5 p1 p2 p3)) - (1 : Int64))))] [(.int (1 : Int32)), (.int (sp3 ((v0_5 p1 p2 p3) - (v0_13 p1 p2 p3))))])) _
          refine XS.icmpYes X34.here hx rfl (pc0 := 127) (pc' := 165) rfl (hb hby at_127) rfl (feq c127_39).2 (by decide) (by decide) ?_
          show Steps p.tables e below (T34.setTop (mkF m 165 #[.val (.long p1), .second, .val (.int p2), .val (.int p3), .val (.long (v0_5 p1 p2 p3)), .second, .val (.long (v0_13 p1 p2 p3)), .second, .val (.long (v0_21 p1 p2 p3)), .second, .val (.ref b2), .val (.int (sp3 (v0_5 p1 p2 p3))), .val (.int (sp3 ((v0_5 p1 p2 p3) - (v0_13 p1 p2 p3)))), .val (.int (sp3 (((v0_5 p1 p2 p3) - (v0_13 p1 p2 p3)) - (v0_21 p1 p2 p3)))), .val (.ref b16), .val (.int (sp3 ((v0_5 p1 p2 p3) - (v0_5 p1 p2 p3)))), .val (.int (sp3 (((v0_5 p1 p2 p3) - (v0_5 p1 p2 p3)) - (1 : Int64))))] [])) _
          refine XS.iconst X34.here hx rfl (hb hby at_165) ?_
          show Steps p.tables e below (T34.setTop (mkF m 166 #[.val (.long p1), .second, .val (.int p2), .val (.int p3), .val (.long (v0_5 p1 p2 p3)), .second, .val (.long (v0_13 p1 p2 p3)), .second, .val (.long (v0_21 p1 p2 p3)), .second, .val (.ref b2), .val (.int (sp3 (v0_5 p1 p2 p3))), .val (.int (sp3 ((v0_5 p1 p2 p3) - (v0_13 p1 p2 p3)))), .val (.int (sp3 (((v0_5 p1 p2 p3) - (v0_13 p1 p2 p3)) - (v0_21 p1 p2 p3)))), .val (.ref b16), .val (.int (sp3 ((v0_5 p1 p2 p3) - (v0_5 p1 p2 p3)))), .val (.int (sp3 (((v0_5 p1 p2 p3) - (v0_5 p1 p2 p3)) - (1 : Int64))))] [(.int (0 : Int32))])) _
          exact retN X34 hx (t := .boolean) Bd.returns (by simp) (hb hby at_166) hr
        · show Q0 Z p1 p2 p3 h0 n0 _ T34.heap _
          rw [hh34]
          have hv : sp0 p1 p2 p3 = (0 : Int32) := by unfold sp0; rw [if_pos c109_35, if_pos c119_37, if_neg c127_39]
          exact ⟨by rw [← hv, own_law p1 p2 p3], N34⟩
    · have k56 : ∀ t, Steps p.tables e below (T34.setTop (mkF m 127 #[.val (.long p1), .second, .val (.int p2), .val (.int p3), .val (.long (v0_5 p1 p2 p3)), .second, .val (.long (v0_13 p1 p2 p3)), .second, .val (.long (v0_21 p1 p2 p3)), .second, .val (.ref b2), .val (.int (sp3 (v0_5 p1 p2 p3))), .val (.int (sp3 ((v0_5 p1 p2 p3) - (v0_13 p1 p2 p3)))), .val (.int (sp3 (((v0_5 p1 p2 p3) - (v0_13 p1 p2 p3)) - (v0_21 p1 p2 p3)))), .val (.ref b16), .val (.int (sp3 ((v0_5 p1 p2 p3) - (v0_5 p1 p2 p3)))), .val (.int (sp3 (((v0_5 p1 p2 p3) - (v0_5 p1 p2 p3)) - (1 : Int64))))] [(.int (0 : Int32)), (.int (sp3 ((v0_5 p1 p2 p3) - (v0_13 p1 p2 p3))))])) t → Steps p.tables e below (s₁.setTop (mkF m 0 #[.val (.long p1), .second, .val (.int p2), .val (.int p3), .unset, .unset, .unset, .unset, .unset, .unset, .unset, .unset, .unset, .unset, .unset, .unset, .unset] [])) t := fun t kt => k38 t (by
        show Steps p.tables e below (T34.setTop (mkF m 119 #[.val (.long p1), .second, .val (.int p2), .val (.int p3), .val (.long (v0_5 p1 p2 p3)), .second, .val (.long (v0_13 p1 p2 p3)), .second, .val (.long (v0_21 p1 p2 p3)), .second, .val (.ref b2), .val (.int (sp3 (v0_5 p1 p2 p3))), .val (.int (sp3 ((v0_5 p1 p2 p3) - (v0_13 p1 p2 p3)))), .val (.int (sp3 (((v0_5 p1 p2 p3) - (v0_13 p1 p2 p3)) - (v0_21 p1 p2 p3)))), .val (.ref b16), .val (.int (sp3 ((v0_5 p1 p2 p3) - (v0_5 p1 p2 p3)))), .val (.int (sp3 (((v0_5 p1 p2 p3) - (v0_5 p1 p2 p3)) - (1 : Int64))))] [(.int (lcmpW (v0_13 p1 p2 p3) (v0_5 p1 p2 p3))), (.int (sp3 ((v0_5 p1 p2 p3) - (v0_13 p1 p2 p3))))])) _
        refine XS.ifYes X34.here hx rfl (pc0 := 119) (pc' := 126) rfl (hb hby at_119) rfl ((if0 _ _).trans (flt (fun q => c119_37 ((lw_gt _ _).mp q))).2.2.2) (by decide) (by decide) ?_
        show Steps p.tables e below (T34.setTop (mkF m 126 #[.val (.long p1), .second, .val (.int p2), .val (.int p3), .val (.long (v0_5 p1 p2 p3)), .second, .val (.long (v0_13 p1 p2 p3)), .second, .val (.long (v0_21 p1 p2 p3)), .second, .val (.ref b2), .val (.int (sp3 (v0_5 p1 p2 p3))), .val (.int (sp3 ((v0_5 p1 p2 p3) - (v0_13 p1 p2 p3)))), .val (.int (sp3 (((v0_5 p1 p2 p3) - (v0_13 p1 p2 p3)) - (v0_21 p1 p2 p3)))), .val (.ref b16), .val (.int (sp3 ((v0_5 p1 p2 p3) - (v0_5 p1 p2 p3)))), .val (.int (sp3 (((v0_5 p1 p2 p3) - (v0_5 p1 p2 p3)) - (1 : Int64))))] [(.int (sp3 ((v0_5 p1 p2 p3) - (v0_13 p1 p2 p3))))])) _
        refine XS.iconst X34.here hx rfl (hb hby at_126) ?_
        exact kt)
      by_cases c127_55 : (sp3 ((v0_5 p1 p2 p3) - (v0_13 p1 p2 p3))) = (0 : Int32)
      · have k58 : ∀ t, Steps p.tables e below (T34.setTop (mkF m 140 #[.val (.long p1), .second, .val (.int p2), .val (.int p3), .val (.long (v0_5 p1 p2 p3)), .second, .val (.long (v0_13 p1 p2 p3)), .second, .val (.long (v0_21 p1 p2 p3)), .second, .val (.ref b2), .val (.int (sp3 (v0_5 p1 p2 p3))), .val (.int (sp3 ((v0_5 p1 p2 p3) - (v0_13 p1 p2 p3)))), .val (.int (sp3 (((v0_5 p1 p2 p3) - (v0_13 p1 p2 p3)) - (v0_21 p1 p2 p3)))), .val (.ref b16), .val (.int (sp3 ((v0_5 p1 p2 p3) - (v0_5 p1 p2 p3)))), .val (.int (sp3 (((v0_5 p1 p2 p3) - (v0_5 p1 p2 p3)) - (1 : Int64))))] [(.int (lcmpW ((v0_13 p1 p2 p3) + (v0_21 p1 p2 p3)) (v0_5 p1 p2 p3))), (.int (sp3 (((v0_5 p1 p2 p3) - (v0_13 p1 p2 p3)) - (v0_21 p1 p2 p3))))])) t → Steps p.tables e below (s₁.setTop (mkF m 0 #[.val (.long p1), .second, .val (.int p2), .val (.int p3), .unset, .unset, .unset, .unset, .unset, .unset, .unset, .unset, .unset, .unset, .unset, .unset, .unset] [])) t := fun t kt => k56 t (by
          show Steps p.tables e below (T34.setTop (mkF m 127 #[.val (.long p1), .second, .val (.int p2), .val (.int p3), .val (.long (v0_5 p1 p2 p3)), .second, .val (.long (v0_13 p1 p2 p3)), .second, .val (.long (v0_21 p1 p2 p3)), .second, .val (.ref b2), .val (.int (sp3 (v0_5 p1 p2 p3))), .val (.int (sp3 ((v0_5 p1 p2 p3) - (v0_13 p1 p2 p3)))), .val (.int (sp3 (((v0_5 p1 p2 p3) - (v0_13 p1 p2 p3)) - (v0_21 p1 p2 p3)))), .val (.ref b16), .val (.int (sp3 ((v0_5 p1 p2 p3) - (v0_5 p1 p2 p3)))), .val (.int (sp3 (((v0_5 p1 p2 p3) - (v0_5 p1 p2 p3)) - (1 : Int64))))] [(.int (0 : Int32)), (.int (sp3 ((v0_5 p1 p2 p3) - (v0_13 p1 p2 p3))))])) _
          refine XS.icmpNo X34.here hx rfl (hb hby at_127) rfl (teq c127_55).2 ?_
          show Steps p.tables e below (T34.setTop (mkF m 130 #[.val (.long p1), .second, .val (.int p2), .val (.int p3), .val (.long (v0_5 p1 p2 p3)), .second, .val (.long (v0_13 p1 p2 p3)), .second, .val (.long (v0_21 p1 p2 p3)), .second, .val (.ref b2), .val (.int (sp3 (v0_5 p1 p2 p3))), .val (.int (sp3 ((v0_5 p1 p2 p3) - (v0_13 p1 p2 p3)))), .val (.int (sp3 (((v0_5 p1 p2 p3) - (v0_13 p1 p2 p3)) - (v0_21 p1 p2 p3)))), .val (.ref b16), .val (.int (sp3 ((v0_5 p1 p2 p3) - (v0_5 p1 p2 p3)))), .val (.int (sp3 (((v0_5 p1 p2 p3) - (v0_5 p1 p2 p3)) - (1 : Int64))))] [])) _
          refine XS.iload X34.here hx rfl (hb hby at_130) rfl ?_
          show Steps p.tables e below (T34.setTop (mkF m 132 #[.val (.long p1), .second, .val (.int p2), .val (.int p3), .val (.long (v0_5 p1 p2 p3)), .second, .val (.long (v0_13 p1 p2 p3)), .second, .val (.long (v0_21 p1 p2 p3)), .second, .val (.ref b2), .val (.int (sp3 (v0_5 p1 p2 p3))), .val (.int (sp3 ((v0_5 p1 p2 p3) - (v0_13 p1 p2 p3)))), .val (.int (sp3 (((v0_5 p1 p2 p3) - (v0_13 p1 p2 p3)) - (v0_21 p1 p2 p3)))), .val (.ref b16), .val (.int (sp3 ((v0_5 p1 p2 p3) - (v0_5 p1 p2 p3)))), .val (.int (sp3 (((v0_5 p1 p2 p3) - (v0_5 p1 p2 p3)) - (1 : Int64))))] [(.int (sp3 (((v0_5 p1 p2 p3) - (v0_13 p1 p2 p3)) - (v0_21 p1 p2 p3))))])) _
          refine XS.lload X34.here hx rfl (hb hby at_132) rfl ?_
          show Steps p.tables e below (T34.setTop (mkF m 134 #[.val (.long p1), .second, .val (.int p2), .val (.int p3), .val (.long (v0_5 p1 p2 p3)), .second, .val (.long (v0_13 p1 p2 p3)), .second, .val (.long (v0_21 p1 p2 p3)), .second, .val (.ref b2), .val (.int (sp3 (v0_5 p1 p2 p3))), .val (.int (sp3 ((v0_5 p1 p2 p3) - (v0_13 p1 p2 p3)))), .val (.int (sp3 (((v0_5 p1 p2 p3) - (v0_13 p1 p2 p3)) - (v0_21 p1 p2 p3)))), .val (.ref b16), .val (.int (sp3 ((v0_5 p1 p2 p3) - (v0_5 p1 p2 p3)))), .val (.int (sp3 (((v0_5 p1 p2 p3) - (v0_5 p1 p2 p3)) - (1 : Int64))))] [(.long (v0_13 p1 p2 p3)), (.int (sp3 (((v0_5 p1 p2 p3) - (v0_13 p1 p2 p3)) - (v0_21 p1 p2 p3))))])) _
          refine XS.lload X34.here hx rfl (hb hby at_134) rfl ?_
          show Steps p.tables e below (T34.setTop (mkF m 136 #[.val (.long p1), .second, .val (.int p2), .val (.int p3), .val (.long (v0_5 p1 p2 p3)), .second, .val (.long (v0_13 p1 p2 p3)), .second, .val (.long (v0_21 p1 p2 p3)), .second, .val (.ref b2), .val (.int (sp3 (v0_5 p1 p2 p3))), .val (.int (sp3 ((v0_5 p1 p2 p3) - (v0_13 p1 p2 p3)))), .val (.int (sp3 (((v0_5 p1 p2 p3) - (v0_13 p1 p2 p3)) - (v0_21 p1 p2 p3)))), .val (.ref b16), .val (.int (sp3 ((v0_5 p1 p2 p3) - (v0_5 p1 p2 p3)))), .val (.int (sp3 (((v0_5 p1 p2 p3) - (v0_5 p1 p2 p3)) - (1 : Int64))))] [(.long (v0_21 p1 p2 p3)), (.long (v0_13 p1 p2 p3)), (.int (sp3 (((v0_5 p1 p2 p3) - (v0_13 p1 p2 p3)) - (v0_21 p1 p2 p3))))])) _
          refine XS.ladd X34.here hx rfl (hb hby at_136) rfl ?_
          show Steps p.tables e below (T34.setTop (mkF m 137 #[.val (.long p1), .second, .val (.int p2), .val (.int p3), .val (.long (v0_5 p1 p2 p3)), .second, .val (.long (v0_13 p1 p2 p3)), .second, .val (.long (v0_21 p1 p2 p3)), .second, .val (.ref b2), .val (.int (sp3 (v0_5 p1 p2 p3))), .val (.int (sp3 ((v0_5 p1 p2 p3) - (v0_13 p1 p2 p3)))), .val (.int (sp3 (((v0_5 p1 p2 p3) - (v0_13 p1 p2 p3)) - (v0_21 p1 p2 p3)))), .val (.ref b16), .val (.int (sp3 ((v0_5 p1 p2 p3) - (v0_5 p1 p2 p3)))), .val (.int (sp3 (((v0_5 p1 p2 p3) - (v0_5 p1 p2 p3)) - (1 : Int64))))] [(.long ((v0_13 p1 p2 p3) + (v0_21 p1 p2 p3))), (.int (sp3 (((v0_5 p1 p2 p3) - (v0_13 p1 p2 p3)) - (v0_21 p1 p2 p3))))])) _
          refine XS.lload X34.here hx rfl (hb hby at_137) rfl ?_
          show Steps p.tables e below (T34.setTop (mkF m 139 #[.val (.long p1), .second, .val (.int p2), .val (.int p3), .val (.long (v0_5 p1 p2 p3)), .second, .val (.long (v0_13 p1 p2 p3)), .second, .val (.long (v0_21 p1 p2 p3)), .second, .val (.ref b2), .val (.int (sp3 (v0_5 p1 p2 p3))), .val (.int (sp3 ((v0_5 p1 p2 p3) - (v0_13 p1 p2 p3)))), .val (.int (sp3 (((v0_5 p1 p2 p3) - (v0_13 p1 p2 p3)) - (v0_21 p1 p2 p3)))), .val (.ref b16), .val (.int (sp3 ((v0_5 p1 p2 p3) - (v0_5 p1 p2 p3)))), .val (.int (sp3 (((v0_5 p1 p2 p3) - (v0_5 p1 p2 p3)) - (1 : Int64))))] [(.long (v0_5 p1 p2 p3)), (.long ((v0_13 p1 p2 p3) + (v0_21 p1 p2 p3))), (.int (sp3 (((v0_5 p1 p2 p3) - (v0_13 p1 p2 p3)) - (v0_21 p1 p2 p3))))])) _
          refine XS.lcmp X34.here hx rfl (hb hby at_139) rfl ?_
          exact kt)
        by_cases c140_57 : (v0_5 p1 p2 p3) < ((v0_13 p1 p2 p3) + (v0_21 p1 p2 p3))
        · have k60 : ∀ t, Steps p.tables e below (T34.setTop (mkF m 148 #[.val (.long p1), .second, .val (.int p2), .val (.int p3), .val (.long (v0_5 p1 p2 p3)), .second, .val (.long (v0_13 p1 p2 p3)), .second, .val (.long (v0_21 p1 p2 p3)), .second, .val (.ref b2), .val (.int (sp3 (v0_5 p1 p2 p3))), .val (.int (sp3 ((v0_5 p1 p2 p3) - (v0_13 p1 p2 p3)))), .val (.int (sp3 (((v0_5 p1 p2 p3) - (v0_13 p1 p2 p3)) - (v0_21 p1 p2 p3)))), .val (.ref b16), .val (.int (sp3 ((v0_5 p1 p2 p3) - (v0_5 p1 p2 p3)))), .val (.int (sp3 (((v0_5 p1 p2 p3) - (v0_5 p1 p2 p3)) - (1 : Int64))))] [(.int (1 : Int32)), (.int (sp3 (((v0_5 p1 p2 p3) - (v0_13 p1 p2 p3)) - (v0_21 p1 p2 p3))))])) t → Steps p.tables e below (s₁.setTop (mkF m 0 #[.val (.long p1), .second, .val (.int p2), .val (.int p3), .unset, .unset, .unset, .unset, .unset, .unset, .unset, .unset, .unset, .unset, .unset, .unset, .unset] [])) t := fun t kt => k58 t (by
            show Steps p.tables e below (T34.setTop (mkF m 140 #[.val (.long p1), .second, .val (.int p2), .val (.int p3), .val (.long (v0_5 p1 p2 p3)), .second, .val (.long (v0_13 p1 p2 p3)), .second, .val (.long (v0_21 p1 p2 p3)), .second, .val (.ref b2), .val (.int (sp3 (v0_5 p1 p2 p3))), .val (.int (sp3 ((v0_5 p1 p2 p3) - (v0_13 p1 p2 p3)))), .val (.int (sp3 (((v0_5 p1 p2 p3) - (v0_13 p1 p2 p3)) - (v0_21 p1 p2 p3)))), .val (.ref b16), .val (.int (sp3 ((v0_5 p1 p2 p3) - (v0_5 p1 p2 p3)))), .val (.int (sp3 (((v0_5 p1 p2 p3) - (v0_5 p1 p2 p3)) - (1 : Int64))))] [(.int (lcmpW ((v0_13 p1 p2 p3) + (v0_21 p1 p2 p3)) (v0_5 p1 p2 p3))), (.int (sp3 (((v0_5 p1 p2 p3) - (v0_13 p1 p2 p3)) - (v0_21 p1 p2 p3))))])) _
            refine XS.ifNo X34.here hx rfl (hb hby at_140) rfl ((if0 _ _).trans (tlt ((lw_gt _ _).mpr c140_57)).2.2.2) ?_
            show Steps p.tables e below (T34.setTop (mkF m 143 #[.val (.long p1), .second, .val (.int p2), .val (.int p3), .val (.long (v0_5 p1 p2 p3)), .second, .val (.long (v0_13 p1 p2 p3)), .second, .val (.long (v0_21 p1 p2 p3)), .second, .val (.ref b2), .val (.int (sp3 (v0_5 p1 p2 p3))), .val (.int (sp3 ((v0_5 p1 p2 p3) - (v0_13 p1 p2 p3)))), .val (.int (sp3 (((v0_5 p1 p2 p3) - (v0_13 p1 p2 p3)) - (v0_21 p1 p2 p3)))), .val (.ref b16), .val (.int (sp3 ((v0_5 p1 p2 p3) - (v0_5 p1 p2 p3)))), .val (.int (sp3 (((v0_5 p1 p2 p3) - (v0_5 p1 p2 p3)) - (1 : Int64))))] [(.int (sp3 (((v0_5 p1 p2 p3) - (v0_13 p1 p2 p3)) - (v0_21 p1 p2 p3))))])) _
            refine XS.iconst X34.here hx rfl (hb hby at_143) ?_
            show Steps p.tables e below (T34.setTop (mkF m 144 #[.val (.long p1), .second, .val (.int p2), .val (.int p3), .val (.long (v0_5 p1 p2 p3)), .second, .val (.long (v0_13 p1 p2 p3)), .second, .val (.long (v0_21 p1 p2 p3)), .second, .val (.ref b2), .val (.int (sp3 (v0_5 p1 p2 p3))), .val (.int (sp3 ((v0_5 p1 p2 p3) - (v0_13 p1 p2 p3)))), .val (.int (sp3 (((v0_5 p1 p2 p3) - (v0_13 p1 p2 p3)) - (v0_21 p1 p2 p3)))), .val (.ref b16), .val (.int (sp3 ((v0_5 p1 p2 p3) - (v0_5 p1 p2 p3)))), .val (.int (sp3 (((v0_5 p1 p2 p3) - (v0_5 p1 p2 p3)) - (1 : Int64))))] [(.int (1 : Int32)), (.int (sp3 (((v0_5 p1 p2 p3) - (v0_13 p1 p2 p3)) - (v0_21 p1 p2 p3))))])) _
            refine XS.goto X34.here hx rfl (pc0 := 144) (pc' := 148) rfl (hb hby at_144) (by decide) (by decide) ?_
            exact kt)
          by_cases c148_59 : (sp3 (((v0_5 p1 p2 p3) - (v0_13 p1 p2 p3)) - (v0_21 p1 p2 p3))) = (1 : Int32)
          · have k62 : ∀ t, Steps p.tables e below (T34.setTop (mkF m 153 #[.val (.long p1), .second, .val (.int p2), .val (.int p3), .val (.long (v0_5 p1 p2 p3)), .second, .val (.long (v0_13 p1 p2 p3)), .second, .val (.long (v0_21 p1 p2 p3)), .second, .val (.ref b2), .val (.int (sp3 (v0_5 p1 p2 p3))), .val (.int (sp3 ((v0_5 p1 p2 p3) - (v0_13 p1 p2 p3)))), .val (.int (sp3 (((v0_5 p1 p2 p3) - (v0_13 p1 p2 p3)) - (v0_21 p1 p2 p3)))), .val (.ref b16), .val (.int (sp3 ((v0_5 p1 p2 p3) - (v0_5 p1 p2 p3)))), .val (.int (sp3 (((v0_5 p1 p2 p3) - (v0_5 p1 p2 p3)) - (1 : Int64))))] [(.int (sp3 ((v0_5 p1 p2 p3) - (v0_5 p1 p2 p3))))])) t → Steps p.tables e below (s₁.setTop (mkF m 0 #[.val (.long p1), .second, .val (.int p2), .val (.int p3), .unset, .unset, .unset, .unset, .unset, .unset, .unset, .unset, .unset, .unset, .unset, .unset, .unset] [])) t := fun t kt => k60 t (by
              show Steps p.tables e below (T34.setTop (mkF m 148 #[.val (.long p1), .second, .val (.int p2), .val (.int p3), .val (.long (v0_5 p1 p2 p3)), .second, .val (.long (v0_13 p1 p2 p3)), .second, .val (.long (v0_21 p1 p2 p3)), .second, .val (.ref b2), .val (.int (sp3 (v0_5 p1 p2 p3))), .val (.int (sp3 ((v0_5 p1 p2 p3) - (v0_13 p1 p2 p3)))), .val (.int (sp3 (((v0_5 p1 p2 p3) - (v0_13 p1 p2 p3)) - (v0_21 p1 p2 p3)))), .val (.ref b16), .val (.int (sp3 ((v0_5 p1 p2 p3) - (v0_5 p1 p2 p3)))), .val (.int (sp3 (((v0_5 p1 p2 p3) - (v0_5 p1 p2 p3)) - (1 : Int64))))] [(.int (1 : Int32)), (.int (sp3 (((v0_5 p1 p2 p3) - (v0_13 p1 p2 p3)) - (v0_21 p1 p2 p3))))])) _
              refine XS.icmpNo X34.here hx rfl (hb hby at_148) rfl (teq c148_59).2 ?_
              show Steps p.tables e below (T34.setTop (mkF m 151 #[.val (.long p1), .second, .val (.int p2), .val (.int p3), .val (.long (v0_5 p1 p2 p3)), .second, .val (.long (v0_13 p1 p2 p3)), .second, .val (.long (v0_21 p1 p2 p3)), .second, .val (.ref b2), .val (.int (sp3 (v0_5 p1 p2 p3))), .val (.int (sp3 ((v0_5 p1 p2 p3) - (v0_13 p1 p2 p3)))), .val (.int (sp3 (((v0_5 p1 p2 p3) - (v0_13 p1 p2 p3)) - (v0_21 p1 p2 p3)))), .val (.ref b16), .val (.int (sp3 ((v0_5 p1 p2 p3) - (v0_5 p1 p2 p3)))), .val (.int (sp3 (((v0_5 p1 p2 p3) - (v0_5 p1 p2 p3)) - (1 : Int64))))] [])) _
              refine XS.iload X34.here hx rfl (hb hby at_151) rfl ?_
              exact kt)
            by_cases c153_61 : (sp3 ((v0_5 p1 p2 p3) - (v0_5 p1 p2 p3))) = (0 : Int32)
            · have k64 : ∀ t, Steps p.tables e below (T34.setTop (mkF m 158 #[.val (.long p1), .second, .val (.int p2), .val (.int p3), .val (.long (v0_5 p1 p2 p3)), .second, .val (.long (v0_13 p1 p2 p3)), .second, .val (.long (v0_21 p1 p2 p3)), .second, .val (.ref b2), .val (.int (sp3 (v0_5 p1 p2 p3))), .val (.int (sp3 ((v0_5 p1 p2 p3) - (v0_13 p1 p2 p3)))), .val (.int (sp3 (((v0_5 p1 p2 p3) - (v0_13 p1 p2 p3)) - (v0_21 p1 p2 p3)))), .val (.ref b16), .val (.int (sp3 ((v0_5 p1 p2 p3) - (v0_5 p1 p2 p3)))), .val (.int (sp3 (((v0_5 p1 p2 p3) - (v0_5 p1 p2 p3)) - (1 : Int64))))] [(.int (sp3 (((v0_5 p1 p2 p3) - (v0_5 p1 p2 p3)) - (1 : Int64))))])) t → Steps p.tables e below (s₁.setTop (mkF m 0 #[.val (.long p1), .second, .val (.int p2), .val (.int p3), .unset, .unset, .unset, .unset, .unset, .unset, .unset, .unset, .unset, .unset, .unset, .unset, .unset] [])) t := fun t kt => k62 t (by
                show Steps p.tables e below (T34.setTop (mkF m 153 #[.val (.long p1), .second, .val (.int p2), .val (.int p3), .val (.long (v0_5 p1 p2 p3)), .second, .val (.long (v0_13 p1 p2 p3)), .second, .val (.long (v0_21 p1 p2 p3)), .second, .val (.ref b2), .val (.int (sp3 (v0_5 p1 p2 p3))), .val (.int (sp3 ((v0_5 p1 p2 p3) - (v0_13 p1 p2 p3)))), .val (.int (sp3 (((v0_5 p1 p2 p3) - (v0_13 p1 p2 p3)) - (v0_21 p1 p2 p3)))), .val (.ref b16), .val (.int (sp3 ((v0_5 p1 p2 p3) - (v0_5 p1 p2 p3)))), .val (.int (sp3 (((v0_5 p1 p2 p3) - (v0_5 p1 p2 p3)) - (1 : Int64))))] [(.int (sp3 ((v0_5 p1 p2 p3) - (v0_5 p1 p2 p3))))])) _
                refine XS.ifNo X34.here hx rfl (hb hby at_153) rfl ((if0 _ _).trans (teq c153_61).2) ?_
                show Steps p.tables e below (T34.setTop (mkF m 156 #[.val (.long p1), .second, .val (.int p2), .val (.int p3), .val (.long (v0_5 p1 p2 p3)), .second, .val (.long (v0_13 p1 p2 p3)), .second, .val (.long (v0_21 p1 p2 p3)), .second, .val (.ref b2), .val (.int (sp3 (v0_5 p1 p2 p3))), .val (.int (sp3 ((v0_5 p1 p2 p3) - (v0_13 p1 p2 p3)))), .val (.int (sp3 (((v0_5 p1 p2 p3) - (v0_13 p1 p2 p3)) - (v0_21 p1 p2 p3)))), .val (.ref b16), .val (.int (sp3 ((v0_5 p1 p2 p3) - (v0_5 p1 p2 p3)))), .val (.int (sp3 (((v0_5 p1 p2 p3) - (v0_5 p1 p2 p3)) - (1 : Int64))))] [])) _
                refine XS.iload X34.here hx rfl (hb hby at_156) rfl ?_
                exact kt)
              by_cases c158_63 : (sp3 (((v0_5 p1 p2 p3) - (v0_5 p1 p2 p3)) - (1 : Int64))) = (0 : Int32)
              · obtain ⟨fs, hr, hrun, hended, hW, hsame⟩ := X34.leave (v := some (.int (0 : Int32))) (fun h => by rw [Bd.returns] at h; cases h)
                refine ⟨_, _, pre0 _ (k64 _ ?_), hrun, hended, _, _, rfl, ?_, ⟨_, rfl⟩, hW, hsame.mono (by decide) (by decide)⟩
                · show Steps p.tables e below (T34.setTop (mkF m 158 #[.val (.long p1), .second, .val (.int p2), .val (.int p3), .val (.long (v0_5 p1 p2 p3)), .second, .val (.long (v0_13 p1 p2 p3)), .second, .val (.long (v0_21 p1 p2 p3)), .second, .val (.ref b2), .val (.int (sp3 (v0_5 p1 p2 p3))), .val (.int (sp3 ((v0_5 p1 p2 p3) - (v0_13 p1 p2 p3)))), .val (.int (sp3 (((v0_5 p1 p2 p3) - (v0_13 p1 p2 p3)) - (v0_21 p1 p2 p3)))), .val (.ref b16), .val (.int (sp3 ((v0_5 p1 p2 p3) - (v0_5 p1 p2 p3)))), .val (.int (sp3 (((v0_5 p1 p2 p3) - (v0_5 p1 p2 p3)) - (1 : Int64))))] [(.int (sp3 (((v0_5 p1 p2 p3) - (v0_5 p1 p2 p3)) - (1 : Int64))))])) _
                  refine XS.ifYes X34.here hx rfl (pc0 := 158) (pc' := 165) rfl (hb hby at_158) rfl ((if0 _ _).trans (teq c158_63).1) (by decide) (by decide) ?_
                  show Steps p.tables e below (T34.setTop (mkF m 165 #[.val (.long p1), .second, .val (.int p2), .val (.int p3), .val (.long (v0_5 p1 p2 p3)), .second, .val (.long (v0_13 p1 p2 p3)), .second, .val (.long (v0_21 p1 p2 p3)), .second, .val (.ref b2), .val (.int (sp3 (v0_5 p1 p2 p3))), .val (.int (sp3 ((v0_5 p1 p2 p3) - (v0_13 p1 p2 p3)))), .val (.int (sp3 (((v0_5 p1 p2 p3) - (v0_13 p1 p2 p3)) - (v0_21 p1 p2 p3)))), .val (.ref b16), .val (.int (sp3 ((v0_5 p1 p2 p3) - (v0_5 p1 p2 p3)))), .val (.int (sp3 (((v0_5 p1 p2 p3) - (v0_5 p1 p2 p3)) - (1 : Int64))))] [])) _
                  refine XS.iconst X34.here hx rfl (hb hby at_165) ?_
                  show Steps p.tables e below (T34.setTop (mkF m 166 #[.val (.long p1), .second, .val (.int p2), .val (.int p3), .val (.long (v0_5 p1 p2 p3)), .second, .val (.long (v0_13 p1 p2 p3)), .second, .val (.long (v0_21 p1 p2 p3)), .second, .val (.ref b2), .val (.int (sp3 (v0_5 p1 p2 p3))), .val (.int (sp3 ((v0_5 p1 p2 p3) - (v0_13 p1 p2 p3)))), .val (.int (sp3 (((v0_5 p1 p2 p3) - (v0_13 p1 p2 p3)) - (v0_21 p1 p2 p3)))), .val (.ref b16), .val (.int (sp3 ((v0_5 p1 p2 p3) - (v0_5 p1 p2 p3)))), .val (.int (sp3 (((v0_5 p1 p2 p3) - (v0_5 p1 p2 p3)) - (1 : Int64))))] [(.int (0 : Int32))])) _
                  exact retN X34 hx (t := .boolean) Bd.returns (by simp) (hb hby at_166) hr
                · show Q0 Z p1 p2 p3 h0 n0 _ T34.heap _
                  rw [hh34]
                  have hv : sp0 p1 p2 p3 = (0 : Int32) := by unfold sp0; rw [if_pos c109_35, if_neg c119_37, if_pos c127_55, if_pos c140_57, if_pos c148_59, if_pos c153_61, if_pos c158_63]
                  exact ⟨by rw [← hv, own_law p1 p2 p3], N34⟩
              · obtain ⟨fs, hr, hrun, hended, hW, hsame⟩ := X34.leave (v := some (.int (1 : Int32))) (fun h => by rw [Bd.returns] at h; cases h)
                refine ⟨_, _, pre0 _ (k64 _ ?_), hrun, hended, _, _, rfl, ?_, ⟨_, rfl⟩, hW, hsame.mono (by decide) (by decide)⟩
                · show Steps p.tables e below (T34.setTop (mkF m 158 #[.val (.long p1), .second, .val (.int p2), .val (.int p3), .val (.long (v0_5 p1 p2 p3)), .second, .val (.long (v0_13 p1 p2 p3)), .second, .val (.long (v0_21 p1 p2 p3)), .second, .val (.ref b2), .val (.int (sp3 (v0_5 p1 p2 p3))), .val (.int (sp3 ((v0_5 p1 p2 p3) - (v0_13 p1 p2 p3)))), .val (.int (sp3 (((v0_5 p1 p2 p3) - (v0_13 p1 p2 p3)) - (v0_21 p1 p2 p3)))), .val (.ref b16), .val (.int (sp3 ((v0_5 p1 p2 p3) - (v0_5 p1 p2 p3)))), .val (.int (sp3 (((v0_5 p1 p2 p3) - (v0_5 p1 p2 p3)) - (1 : Int64))))] [(.int (sp3 (((v0_5 p1 p2 p3) - (v0_5 p1 p2 p3)) - (1 : Int64))))])) _
                  refine XS.ifNo X34.here hx rfl (hb hby at_158) rfl ((if0 _ _).trans (feq c158_63).1) ?_
                  show Steps p.tables e below (T34.setTop (mkF m 161 #[.val (.long p1), .second, .val (.int p2), .val (.int p3), .val (.long (v0_5 p1 p2 p3)), .second, .val (.long (v0_13 p1 p2 p3)), .second, .val (.long (v0_21 p1 p2 p3)), .second, .val (.ref b2), .val (.int (sp3 (v0_5 p1 p2 p3))), .val (.int (sp3 ((v0_5 p1 p2 p3) - (v0_13 p1 p2 p3)))), .val (.int (sp3 (((v0_5 p1 p2 p3) - (v0_13 p1 p2 p3)) - (v0_21 p1 p2 p3)))), .val (.ref b16), .val (.int (sp3 ((v0_5 p1 p2 p3) - (v0_5 p1 p2 p3)))), .val (.int (sp3 (((v0_5 p1 p2 p3) - (v0_5 p1 p2 p3)) - (1 : Int64))))] [])) _
                  refine XS.iconst X34.here hx rfl (hb hby at_161) ?_
                  show Steps p.tables e below (T34.setTop (mkF m 162 #[.val (.long p1), .second, .val (.int p2), .val (.int p3), .val (.long (v0_5 p1 p2 p3)), .second, .val (.long (v0_13 p1 p2 p3)), .second, .val (.long (v0_21 p1 p2 p3)), .second, .val (.ref b2), .val (.int (sp3 (v0_5 p1 p2 p3))), .val (.int (sp3 ((v0_5 p1 p2 p3) - (v0_13 p1 p2 p3)))), .val (.int (sp3 (((v0_5 p1 p2 p3) - (v0_13 p1 p2 p3)) - (v0_21 p1 p2 p3)))), .val (.ref b16), .val (.int (sp3 ((v0_5 p1 p2 p3) - (v0_5 p1 p2 p3)))), .val (.int (sp3 (((v0_5 p1 p2 p3) - (v0_5 p1 p2 p3)) - (1 : Int64))))] [(.int (1 : Int32))])) _
                  refine XS.goto X34.here hx rfl (pc0 := 162) (pc' := 166) rfl (hb hby at_162) (by decide) (by decide) ?_
                  show Steps p.tables e below (T34.setTop (mkF m 166 #[.val (.long p1), .second, .val (.int p2), .val (.int p3), .val (.long (v0_5 p1 p2 p3)), .second, .val (.long (v0_13 p1 p2 p3)), .second, .val (.long (v0_21 p1 p2 p3)), .second, .val (.ref b2), .val (.int (sp3 (v0_5 p1 p2 p3))), .val (.int (sp3 ((v0_5 p1 p2 p3) - (v0_13 p1 p2 p3)))), .val (.int (sp3 (((v0_5 p1 p2 p3) - (v0_13 p1 p2 p3)) - (v0_21 p1 p2 p3)))), .val (.ref b16), .val (.int (sp3 ((v0_5 p1 p2 p3) - (v0_5 p1 p2 p3)))), .val (.int (sp3 (((v0_5 p1 p2 p3) - (v0_5 p1 p2 p3)) - (1 : Int64))))] [(.int (1 : Int32))])) _
                  exact retN X34 hx (t := .boolean) Bd.returns (by simp) (hb hby at_166) hr
                · show Q0 Z p1 p2 p3 h0 n0 _ T34.heap _
                  rw [hh34]
                  have hv : sp0 p1 p2 p3 = (1 : Int32) := by unfold sp0; rw [if_pos c109_35, if_neg c119_37, if_pos c127_55, if_pos c140_57, if_pos c148_59, if_pos c153_61, if_neg c158_63]
                  exact ⟨by rw [← hv, own_law p1 p2 p3], N34⟩
            · obtain ⟨fs, hr, hrun, hended, hW, hsame⟩ := X34.leave (v := some (.int (0 : Int32))) (fun h => by rw [Bd.returns] at h; cases h)
              refine ⟨_, _, pre0 _ (k62 _ ?_), hrun, hended, _, _, rfl, ?_, ⟨_, rfl⟩, hW, hsame.mono (by decide) (by decide)⟩
              · show Steps p.tables e below (T34.setTop (mkF m 153 #[.val (.long p1), .second, .val (.int p2), .val (.int p3), .val (.long (v0_5 p1 p2 p3)), .second, .val (.long (v0_13 p1 p2 p3)), .second, .val (.long (v0_21 p1 p2 p3)), .second, .val (.ref b2), .val (.int (sp3 (v0_5 p1 p2 p3))), .val (.int (sp3 ((v0_5 p1 p2 p3) - (v0_13 p1 p2 p3)))), .val (.int (sp3 (((v0_5 p1 p2 p3) - (v0_13 p1 p2 p3)) - (v0_21 p1 p2 p3)))), .val (.ref b16), .val (.int (sp3 ((v0_5 p1 p2 p3) - (v0_5 p1 p2 p3)))), .val (.int (sp3 (((v0_5 p1 p2 p3) - (v0_5 p1 p2 p3)) - (1 : Int64))))] [(.int (sp3 ((v0_5 p1 p2 p3) - (v0_5 p1 p2 p3))))])) _
                refine XS.ifYes X34.here hx rfl (pc0 := 153) (pc' := 165) rfl (hb hby at_153) rfl ((if0 _ _).trans (feq c153_61).2) (by decide) (by decide) ?_
                show Steps p.tables e below (T34.setTop (mkF m 165 #[.val (.long p1), .second, .val (.int p2), .val (.int p3), .val (.long (v0_5 p1 p2 p3)), .second, .val (.long (v0_13 p1 p2 p3)), .second, .val (.long (v0_21 p1 p2 p3)), .second, .val (.ref b2), .val (.int (sp3 (v0_5 p1 p2 p3))), .val (.int (sp3 ((v0_5 p1 p2 p3) - (v0_13 p1 p2 p3)))), .val (.int (sp3 (((v0_5 p1 p2 p3) - (v0_13 p1 p2 p3)) - (v0_21 p1 p2 p3)))), .val (.ref b16), .val (.int (sp3 ((v0_5 p1 p2 p3) - (v0_5 p1 p2 p3)))), .val (.int (sp3 (((v0_5 p1 p2 p3) - (v0_5 p1 p2 p3)) - (1 : Int64))))] [])) _
                refine XS.iconst X34.here hx rfl (hb hby at_165) ?_
                show Steps p.tables e below (T34.setTop (mkF m 166 #[.val (.long p1), .second, .val (.int p2), .val (.int p3), .val (.long (v0_5 p1 p2 p3)), .second, .val (.long (v0_13 p1 p2 p3)), .second, .val (.long (v0_21 p1 p2 p3)), .second, .val (.ref b2), .val (.int (sp3 (v0_5 p1 p2 p3))), .val (.int (sp3 ((v0_5 p1 p2 p3) - (v0_13 p1 p2 p3)))), .val (.int (sp3 (((v0_5 p1 p2 p3) - (v0_13 p1 p2 p3)) - (v0_21 p1 p2 p3)))), .val (.ref b16), .val (.int (sp3 ((v0_5 p1 p2 p3) - (v0_5 p1 p2 p3)))), .val (.int (sp3 (((v0_5 p1 p2 p3) - (v0_5 p1 p2 p3)) - (1 : Int64))))] [(.int (0 : Int32))])) _
                exact retN X34 hx (t := .boolean) Bd.returns (by simp) (hb hby at_166) hr
              · show Q0 Z p1 p2 p3 h0 n0 _ T34.heap _
                rw [hh34]
                have hv : sp0 p1 p2 p3 = (0 : Int32) := by unfold sp0; rw [if_pos c109_35, if_neg c119_37, if_pos c127_55, if_pos c140_57, if_pos c148_59, if_neg c153_61]
                exact ⟨by rw [← hv, own_law p1 p2 p3], N34⟩
          · obtain ⟨fs, hr, hrun, hended, hW, hsame⟩ := X34.leave (v := some (.int (0 : Int32))) (fun h => by rw [Bd.returns] at h; cases h)
            refine ⟨_, _, pre0 _ (k60 _ ?_), hrun, hended, _, _, rfl, ?_, ⟨_, rfl⟩, hW, hsame.mono (by decide) (by decide)⟩
            · show Steps p.tables e below (T34.setTop (mkF m 148 #[.val (.long p1), .second, .val (.int p2), .val (.int p3), .val (.long (v0_5 p1 p2 p3)), .second, .val (.long (v0_13 p1 p2 p3)), .second, .val (.long (v0_21 p1 p2 p3)), .second, .val (.ref b2), .val (.int (sp3 (v0_5 p1 p2 p3))), .val (.int (sp3 ((v0_5 p1 p2 p3) - (v0_13 p1 p2 p3)))), .val (.int (sp3 (((v0_5 p1 p2 p3) - (v0_13 p1 p2 p3)) - (v0_21 p1 p2 p3)))), .val (.ref b16), .val (.int (sp3 ((v0_5 p1 p2 p3) - (v0_5 p1 p2 p3)))), .val (.int (sp3 (((v0_5 p1 p2 p3) - (v0_5 p1 p2 p3)) - (1 : Int64))))] [(.int (1 : Int32)), (.int (sp3 (((v0_5 p1 p2 p3) - (v0_13 p1 p2 p3)) - (v0_21 p1 p2 p3))))])) _
              refine XS.icmpYes X34.here hx rfl (pc0 := 148) (pc' := 165) rfl (hb hby at_148) rfl (feq c148_59).2 (by decide) (by decide) ?_
              show Steps p.tables e below (T34.setTop (mkF m 165 #[.val (.long p1), .second, .val (.int p2), .val (.int p3), .val (.long (v0_5 p1 p2 p3)), .second, .val (.long (v0_13 p1 p2 p3)), .second, .val (.long (v0_21 p1 p2 p3)), .second, .val (.ref b2), .val (.int (sp3 (v0_5 p1 p2 p3))), .val (.int (sp3 ((v0_5 p1 p2 p3) - (v0_13 p1 p2 p3)))), .val (.int (sp3 (((v0_5 p1 p2 p3) - (v0_13 p1 p2 p3)) - (v0_21 p1 p2 p3)))), .val (.ref b16), .val (.int (sp3 ((v0_5 p1 p2 p3) - (v0_5 p1 p2 p3)))), .val (.int (sp3 (((v0_5 p1 p2 p3) - (v0_5 p1 p2 p3)) - (1 : Int64))))] [])) _
              refine XS.iconst X34.here hx rfl (hb hby at_165) ?_
              show Steps p.tables e below (T34.setTop (mkF m 166 #[.val (.long p1), .second, .val (.int p2), .val (.int p3), .val (.long (v0_5 p1 p2 p3)), .second, .val (.long (v0_13 p1 p2 p3)), .second, .val (.long (v0_21 p1 p2 p3)), .second, .val (.ref b2), .val (.int (sp3 (v0_5 p1 p2 p3))), .val (.int (sp3 ((v0_5 p1 p2 p3) - (v0_13 p1 p2 p3)))), .val (.int (sp3 (((v0_5 p1 p2 p3) - (v0_13 p1 p2 p3)) - (v0_21 p1 p2 p3)))), .val (.ref b16), .val (.int (sp3 ((v0_5 p1 p2 p3) - (v0_5 p1 p2 p3)))), .val (.int (sp3 (((v0_5 p1 p2 p3) - (v0_5 p1 p2 p3)) - (1 : Int64))))] [(.int (0 : Int32))])) _
              exact retN X34 hx (t := .boolean) Bd.returns (by simp) (hb hby at_166) hr
            · show Q0 Z p1 p2 p3 h0 n0 _ T34.heap _
              rw [hh34]
              have hv : sp0 p1 p2 p3 = (0 : Int32) := by unfold sp0; rw [if_pos c109_35, if_neg c119_37, if_pos c127_55, if_pos c140_57, if_neg c148_59]
              exact ⟨by rw [← hv, own_law p1 p2 p3], N34⟩
        · have k66 : ∀ t, Steps p.tables e below (T34.setTop (mkF m 148 #[.val (.long p1), .second, .val (.int p2), .val (.int p3), .val (.long (v0_5 p1 p2 p3)), .second, .val (.long (v0_13 p1 p2 p3)), .second, .val (.long (v0_21 p1 p2 p3)), .second, .val (.ref b2), .val (.int (sp3 (v0_5 p1 p2 p3))), .val (.int (sp3 ((v0_5 p1 p2 p3) - (v0_13 p1 p2 p3)))), .val (.int (sp3 (((v0_5 p1 p2 p3) - (v0_13 p1 p2 p3)) - (v0_21 p1 p2 p3)))), .val (.ref b16), .val (.int (sp3 ((v0_5 p1 p2 p3) - (v0_5 p1 p2 p3)))), .val (.int (sp3 (((v0_5 p1 p2 p3) - (v0_5 p1 p2 p3)) - (1 : Int64))))] [(.int (0 : Int32)), (.int (sp3 (((v0_5 p1 p2 p3) - (v0_13 p1 p2 p3)) - (v0_21 p1 p2 p3))))])) t → Steps p.tables e below (s₁.setTop (mkF m 0 #[.val (.long p1), .second, .val (.int p2), .val (.int p3), .unset, .unset, .unset, .unset, .unset, .unset, .unset, .unset, .unset, .unset, .unset, .unset, .unset] [])) t := fun t kt => k58 t (by
            show Steps p.tables e below (T34.setTop (mkF m 140 #[.val (.long p1), .second, .val (.int p2), .val (.int p3), .val (.long (v0_5 p1 p2 p3)), .second, .val (.long (v0_13 p1 p2 p3)), .second, .val (.long (v0_21 p1 p2 p3)), .second, .val (.ref b2), .val (.int (sp3 (v0_5 p1 p2 p3))), .val (.int (sp3 ((v0_5 p1 p2 p3) - (v0_13 p1 p2 p3)))), .val (.int (sp3 (((v0_5 p1 p2 p3) - (v0_13 p1 p2 p3)) - (v0_21 p1 p2 p3)))), .val (.ref b16), .val (.int (sp3 ((v0_5 p1 p2 p3) - (v0_5 p1 p2 p3)))), .val (.int (sp3 (((v0_5 p1 p2 p3) - (v0_5 p1 p2 p3)) - (1 : Int64))))] [(.int (lcmpW ((v0_13 p1 p2 p3) + (v0_21 p1 p2 p3)) (v0_5 p1 p2 p3))), (.int (sp3 (((v0_5 p1 p2 p3) - (v0_13 p1 p2 p3)) - (v0_21 p1 p2 p3))))])) _
            refine XS.ifYes X34.here hx rfl (pc0 := 140) (pc' := 147) rfl (hb hby at_140) rfl ((if0 _ _).trans (flt (fun q => c140_57 ((lw_gt _ _).mp q))).2.2.2) (by decide) (by decide) ?_
            show Steps p.tables e below (T34.setTop (mkF m 147 #[.val (.long p1), .second, .val (.int p2), .val (.int p3), .val (.long (v0_5 p1 p2 p3)), .second, .val (.long (v0_13 p1 p2 p3)), .second, .val (.long (v0_21 p1 p2 p3)), .second, .val (.ref b2), .val (.int (sp3 (v0_5 p1 p2 p3))), .val (.int (sp3 ((v0_5 p1 p2 p3) - (v0_13 p1 p2 p3)))), .val (.int (sp3 (((v0_5 p1 p2 p3) - (v0_13 p1 p2 p3)) - (v0_21 p1 p2 p3)))), .val (.ref b16), .val (.int (sp3 ((v0_5 p1 p2 p3) - (v0_5 p1 p2 p3)))), .val (.int (sp3 (((v0_5 p1 p2 p3) - (v0_5 p1 p2 p3)) - (1 : Int64))))] [(.int (sp3 (((v0_5 p1 p2 p3) - (v0_13 p1 p2 p3)) - (v0_21 p1 p2 p3))))])) _
            refine XS.iconst X34.here hx rfl (hb hby at_147) ?_
            exact kt)
          by_cases c148_65 : (sp3 (((v0_5 p1 p2 p3) - (v0_13 p1 p2 p3)) - (v0_21 p1 p2 p3))) = (0 : Int32)
          · have k68 : ∀ t, Steps p.tables e below (T34.setTop (mkF m 153 #[.val (.long p1), .second, .val (.int p2), .val (.int p3), .val (.long (v0_5 p1 p2 p3)), .second, .val (.long (v0_13 p1 p2 p3)), .second, .val (.long (v0_21 p1 p2 p3)), .second, .val (.ref b2), .val (.int (sp3 (v0_5 p1 p2 p3))), .val (.int (sp3 ((v0_5 p1 p2 p3) - (v0_13 p1 p2 p3)))), .val (.int (sp3 (((v0_5 p1 p2 p3) - (v0_13 p1 p2 p3)) - (v0_21 p1 p2 p3)))), .val (.ref b16), .val (.int (sp3 ((v0_5 p1 p2 p3) - (v0_5 p1 p2 p3)))), .val (.int (sp3 (((v0_5 p1 p2 p3) - (v0_5 p1 p2 p3)) - (1 : Int64))))] [(.int (sp3 ((v0_5 p1 p2 p3) - (v0_5 p1 p2 p3))))])) t → Steps p.tables e below (s₁.setTop (mkF m 0 #[.val (.long p1), .second, .val (.int p2), .val (.int p3), .unset, .unset, .unset, .unset, .unset, .unset, .unset, .unset, .unset, .unset, .unset, .unset, .unset] [])) t := fun t kt => k66 t (by
              show Steps p.tables e below (T34.setTop (mkF m 148 #[.val (.long p1), .second, .val (.int p2), .val (.int p3), .val (.long (v0_5 p1 p2 p3)), .second, .val (.long (v0_13 p1 p2 p3)), .second, .val (.long (v0_21 p1 p2 p3)), .second, .val (.ref b2), .val (.int (sp3 (v0_5 p1 p2 p3))), .val (.int (sp3 ((v0_5 p1 p2 p3) - (v0_13 p1 p2 p3)))), .val (.int (sp3 (((v0_5 p1 p2 p3) - (v0_13 p1 p2 p3)) - (v0_21 p1 p2 p3)))), .val (.ref b16), .val (.int (sp3 ((v0_5 p1 p2 p3) - (v0_5 p1 p2 p3)))), .val (.int (sp3 (((v0_5 p1 p2 p3) - (v0_5 p1 p2 p3)) - (1 : Int64))))] [(.int (0 : Int32)), (.int (sp3 (((v0_5 p1 p2 p3) - (v0_13 p1 p2 p3)) - (v0_21 p1 p2 p3))))])) _
              refine XS.icmpNo X34.here hx rfl (hb hby at_148) rfl (teq c148_65).2 ?_
              show Steps p.tables e below (T34.setTop (mkF m 151 #[.val (.long p1), .second, .val (.int p2), .val (.int p3), .val (.long (v0_5 p1 p2 p3)), .second, .val (.long (v0_13 p1 p2 p3)), .second, .val (.long (v0_21 p1 p2 p3)), .second, .val (.ref b2), .val (.int (sp3 (v0_5 p1 p2 p3))), .val (.int (sp3 ((v0_5 p1 p2 p3) - (v0_13 p1 p2 p3)))), .val (.int (sp3 (((v0_5 p1 p2 p3) - (v0_13 p1 p2 p3)) - (v0_21 p1 p2 p3)))), .val (.ref b16), .val (.int (sp3 ((v0_5 p1 p2 p3) - (v0_5 p1 p2 p3)))), .val (.int (sp3 (((v0_5 p1 p2 p3) - (v0_5 p1 p2 p3)) - (1 : Int64))))] [])) _
              refine XS.iload X34.here hx rfl (hb hby at_151) rfl ?_
              exact kt)
            by_cases c153_67 : (sp3 ((v0_5 p1 p2 p3) - (v0_5 p1 p2 p3))) = (0 : Int32)
            · have k70 : ∀ t, Steps p.tables e below (T34.setTop (mkF m 158 #[.val (.long p1), .second, .val (.int p2), .val (.int p3), .val (.long (v0_5 p1 p2 p3)), .second, .val (.long (v0_13 p1 p2 p3)), .second, .val (.long (v0_21 p1 p2 p3)), .second, .val (.ref b2), .val (.int (sp3 (v0_5 p1 p2 p3))), .val (.int (sp3 ((v0_5 p1 p2 p3) - (v0_13 p1 p2 p3)))), .val (.int (sp3 (((v0_5 p1 p2 p3) - (v0_13 p1 p2 p3)) - (v0_21 p1 p2 p3)))), .val (.ref b16), .val (.int (sp3 ((v0_5 p1 p2 p3) - (v0_5 p1 p2 p3)))), .val (.int (sp3 (((v0_5 p1 p2 p3) - (v0_5 p1 p2 p3)) - (1 : Int64))))] [(.int (sp3 (((v0_5 p1 p2 p3) - (v0_5 p1 p2 p3)) - (1 : Int64))))])) t → Steps p.tables e below (s₁.setTop (mkF m 0 #[.val (.long p1), .second, .val (.int p2), .val (.int p3), .unset, .unset, .unset, .unset, .unset, .unset, .unset, .unset, .unset, .unset, .unset, .unset, .unset] [])) t := fun t kt => k68 t (by
                show Steps p.tables e below (T34.setTop (mkF m 153 #[.val (.long p1), .second, .val (.int p2), .val (.int p3), .val (.long (v0_5 p1 p2 p3)), .second, .val (.long (v0_13 p1 p2 p3)), .second, .val (.long (v0_21 p1 p2 p3)), .second, .val (.ref b2), .val (.int (sp3 (v0_5 p1 p2 p3))), .val (.int (sp3 ((v0_5 p1 p2 p3) - (v0_13 p1 p2 p3)))), .val (.int (sp3 (((v0_5 p1 p2 p3) - (v0_13 p1 p2 p3)) - (v0_21 p1 p2 p3)))), .val (.ref b16), .val (.int (sp3 ((v0_5 p1 p2 p3) - (v0_5 p1 p2 p3)))), .val (.int (sp3 (((v0_5 p1 p2 p3) - (v0_5 p1 p2 p3)) - (1 : Int64))))] [(.int (sp3 ((v0_5 p1 p2 p3) - (v0_5 p1 p2 p3))))])) _
                refine XS.ifNo X34.here hx rfl (hb hby at_153) rfl ((if0 _ _).trans (teq c153_67).2) ?_
                show Steps p.tables e below (T34.setTop (mkF m 156 #[.val (.long p1), .second, .val (.int p2), .val (.int p3), .val (.long (v0_5 p1 p2 p3)), .second, .val (.long (v0_13 p1 p2 p3)), .second, .val (.long (v0_21 p1 p2 p3)), .second, .val (.ref b2), .val (.int (sp3 (v0_5 p1 p2 p3))), .val (.int (sp3 ((v0_5 p1 p2 p3) - (v0_13 p1 p2 p3)))), .val (.int (sp3 (((v0_5 p1 p2 p3) - (v0_13 p1 p2 p3)) - (v0_21 p1 p2 p3)))), .val (.ref b16), .val (.int (sp3 ((v0_5 p1 p2 p3) - (v0_5 p1 p2 p3)))), .val (.int (sp3 (((v0_5 p1 p2 p3) - (v0_5 p1 p2 p3)) - (1 : Int64))))] [])) _
                refine XS.iload X34.here hx rfl (hb hby at_156) rfl ?_
                exact kt)
              by_cases c158_69 : (sp3 (((v0_5 p1 p2 p3) - (v0_5 p1 p2 p3)) - (1 : Int64))) = (0 : Int32)
              · obtain ⟨fs, hr, hrun, hended, hW, hsame⟩ := X34.leave (v := some (.int (0 : Int32))) (fun h => by rw [Bd.returns] at h; cases h)
                refine ⟨_, _, pre0 _ (k70 _ ?_), hrun, hended, _, _, rfl, ?_, ⟨_, rfl⟩, hW, hsame.mono (by decide) (by decide)⟩
                · show Steps p.tables e below (T34.setTop (mkF m 158 #[.val (.long p1), .second, .val (.int p2), .val (.int p3), .val (.long (v0_5 p1 p2 p3)), .second, .val (.long (v0_13 p1 p2 p3)), .second, .val (.long (v0_21 p1 p2 p3)), .second, .val (.ref b2), .val (.int (sp3 (v0_5 p1 p2 p3))), .val (.int (sp3 ((v0_5 p1 p2 p3) - (v0_13 p1 p2 p3)))), .val (.int (sp3 (((v0_5 p1 p2 p3) - (v0_13 p1 p2 p3)) - (v0_21 p1 p2 p3)))), .val (.ref b16), .val (.int (sp3 ((v0_5 p1 p2 p3) - (v0_5 p1 p2 p3)))), .val (.int (sp3 (((v0_5 p1 p2 p3) - (v0_5 p1 p2 p3)) - (1 : Int64))))] [(.int (sp3 (((v0_5 p1 p2 p3) - (v0_5 p1 p2 p3)) - (1 : Int64))))])) _
                  refine XS.ifYes X34.here hx rfl (pc0 := 158) (pc' := 165) rfl (hb hby at_158) rfl ((if0 _ _).trans (teq c158_69).1) (by decide) (by decide) ?_
                  show Steps p.tables e below (T34.setTop (mkF m 165 #[.val (.long p1), .second, .val (.int p2), .val (.int p3), .val (.long (v0_5 p1 p2 p3)), .second, .val (.long (v0_13 p1 p2 p3)), .second, .val (.long (v0_21 p1 p2 p3)), .second, .val (.ref b2), .val (.int (sp3 (v0_5 p1 p2 p3))), .val (.int (sp3 ((v0_5 p1 p2 p3) - (v0_13 p1 p2 p3)))), .val (.int (sp3 (((v0_5 p1 p2 p3) - (v0_13 p1 p2 p3)) - (v0_21 p1 p2 p3)))), .val (.ref b16), .val (.int (sp3 ((v0_5 p1 p2 p3) - (v0_5 p1 p2 p3)))), .val (.int (sp3 (((v0_5 p1 p2 p3) - (v0_5 p1 p2 p3)) - (1 : Int64))))] [])) _
                  refine XS.iconst X34.here hx rfl (hb hby at_165) ?_
                  show Steps p.tables e below (T34.setTop (mkF m 166 #[.val (.long p1), .second, .val (.int p2), .val (.int p3), .val (.long (v0_5 p1 p2 p3)), .second, .val (.long (v0_13 p1 p2 p3)), .second, .val (.long (v0_21 p1 p2 p3)), .second, .val (.ref b2), .val (.int (sp3 (v0_5 p1 p2 p3))), .val (.int (sp3 ((v0_5 p1 p2 p3) - (v0_13 p1 p2 p3)))), .val (.int (sp3 (((v0_5 p1 p2 p3) - (v0_13 p1 p2 p3)) - (v0_21 p1 p2 p3)))), .val (.ref b16), .val (.int (sp3 ((v0_5 p1 p2 p3) - (v0_5 p1 p2 p3)))), .val (.int (sp3 (((v0_5 p1 p2 p3) - (v0_5 p1 p2 p3)) - (1 : Int64))))] [(.int (0 : Int32))])) _
                  exact retN X34 hx (t := .boolean) Bd.returns (by simp) (hb hby at_166) hr
                · show Q0 Z p1 p2 p3 h0 n0 _ T34.heap _
                  rw [hh34]
                  have hv : sp0 p1 p2 p3 = (0 : Int32) := by unfold sp0; rw [if_pos c109_35, if_neg c119_37, if_pos c127_55, if_neg c140_57, if_pos c148_65, if_pos c153_67, if_pos c158_69]
                  exact ⟨by rw [← hv, own_law p1 p2 p3], N34⟩
              · obtain ⟨fs, hr, hrun, hended, hW, hsame⟩ := X34.leave (v := some (.int (1 : Int32))) (fun h => by rw [Bd.returns] at h; cases h)
                refine ⟨_, _, pre0 _ (k70 _ ?_), hrun, hended, _, _, rfl, ?_, ⟨_, rfl⟩, hW, hsame.mono (by decide) (by decide)⟩
                · show Steps p.tables e below (T34.setTop (mkF m 158 #[.val (.long p1), .second, .val (.int p2), .val (.int p3), .val (.long (v0_5 p1 p2 p3)), .second, .val (.long (v0_13 p1 p2 p3)), .second, .val (.long (v0_21 p1 p2 p3)), .second, .val (.ref b2), .val (.int (sp3 (v0_5 p1 p2 p3))), .val (.int (sp3 ((v0_5 p1 p2 p3) - (v0_13 p1 p2 p3)))), .val (.int (sp3 (((v0_5 p1 p2 p3) - (v0_13 p1 p2 p3)) - (v0_21 p1 p2 p3)))), .val (.ref b16), .val (.int (sp3 ((v0_5 p1 p2 p3) - (v0_5 p1 p2 p3)))), .val (.int (sp3 (((v0_5 p1 p2 p3) - (v0_5 p1 p2 p3)) - (1 : Int64))))] [(.int (sp3 (((v0_5 p1 p2 p3) - (v0_5 p1 p2 p3)) - (1 : Int64))))])) _
                  refine XS.ifNo X34.here hx rfl (hb hby at_158) rfl ((if0 _ _).trans (feq c158_69).1) ?_
                  show Steps p.tables e below (T34.setTop (mkF m 161 #[.val (.long p1), .second, .val (.int p2), .val (.int p3), .val (.long (v0_5 p1 p2 p3)), .second, .val (.long (v0_13 p1 p2 p3)), .second, .val (.long (v0_21 p1 p2 p3)), .second, .val (.ref b2), .val (.int (sp3 (v0_5 p1 p2 p3))), .val (.int (sp3 ((v0_5 p1 p2 p3) - (v0_13 p1 p2 p3)))), .val (.int (sp3 (((v0_5 p1 p2 p3) - (v0_13 p1 p2 p3)) - (v0_21 p1 p2 p3)))), .val (.ref b16), .val (.int (sp3 ((v0_5 p1 p2 p3) - (v0_5 p1 p2 p3)))), .val (.int (sp3 (((v0_5 p1 p2 p3) - (v0_5 p1 p2 p3)) - (1 : Int64))))] [])) _
                  refine XS.iconst X34.here hx rfl (hb hby at_161) ?_
                  show Steps p.tables e below (T34.setTop (mkF m 162 #[.val (.long p1), .second, .val (.int p2), .val (.int p3), .val (.long (v0_5 p1 p2 p3)), .second, .val (.long (v0_13 p1 p2 p3)), .second, .val (.long (v0_21 p1 p2 p3)), .second, .val (.ref b2), .val (.int (sp3 (v0_5 p1 p2 p3))), .val (.int (sp3 ((v0_5 p1 p2 p3) - (v0_13 p1 p2 p3)))), .val (.int (sp3 (((v0_5 p1 p2 p3) - (v0_13 p1 p2 p3)) - (v0_21 p1 p2 p3)))), .val (.ref b16), .val (.int (sp3 ((v0_5 p1 p2 p3) - (v0_5 p1 p2 p3)))), .val (.int (sp3 (((v0_5 p1 p2 p3) - (v0_5 p1 p2 p3)) - (1 : Int64))))] [(.int (1 : Int32))])) _
                  refine XS.goto X34.here hx rfl (pc0 := 162) (pc' := 166) rfl (hb hby at_162) (by decide) (by decide) ?_
                  show Steps p.tables e below (T34.setTop (mkF m 166 #[.val (.long p1), .second, .val (.int p2), .val (.int p3), .val (.long (v0_5 p1 p2 p3)), .second, .val (.long (v0_13 p1 p2 p3)), .second, .val (.long (v0_21 p1 p2 p3)), .second, .val (.ref b2), .val (.int (sp3 (v0_5 p1 p2 p3))), .val (.int (sp3 ((v0_5 p1 p2 p3) - (v0_13 p1 p2 p3)))), .val (.int (sp3 (((v0_5 p1 p2 p3) - (v0_13 p1 p2 p3)) - (v0_21 p1 p2 p3)))), .val (.ref b16), .val (.int (sp3 ((v0_5 p1 p2 p3) - (v0_5 p1 p2 p3)))), .val (.int (sp3 (((v0_5 p1 p2 p3) - (v0_5 p1 p2 p3)) - (1 : Int64))))] [(.int (1 : Int32))])) _
                  exact retN X34 hx (t := .boolean) Bd.returns (by simp) (hb hby at_166) hr
                · show Q0 Z p1 p2 p3 h0 n0 _ T34.heap _
                  rw [hh34]
                  have hv : sp0 p1 p2 p3 = (1 : Int32) := by unfold sp0; rw [if_pos c109_35, if_neg c119_37, if_pos c127_55, if_neg c140_57, if_pos c148_65, if_pos c153_67, if_neg c158_69]
                  exact ⟨by rw [← hv, own_law p1 p2 p3], N34⟩
            · obtain ⟨fs, hr, hrun, hended, hW, hsame⟩ := X34.leave (v := some (.int (0 : Int32))) (fun h => by rw [Bd.returns] at h; cases h)
              refine ⟨_, _, pre0 _ (k68 _ ?_), hrun, hended, _, _, rfl, ?_, ⟨_, rfl⟩, hW, hsame.mono (by decide) (by decide)⟩
              · show Steps p.tables e below (T34.setTop (mkF m 153 #[.val (.long p1), .second, .val (.int p2), .val (.int p3), .val (.long (v0_5 p1 p2 p3)), .second, .val (.long (v0_13 p1 p2 p3)), .second, .val (.long (v0_21 p1 p2 p3)), .second, .val (.ref b2), .val (.int (sp3 (v0_5 p1 p2 p3))), .val (.int (sp3 ((v0_5 p1 p2 p3) - (v0_13 p1 p2 p3)))), .val (.int (sp3 (((v0_5 p1 p2 p3) - (v0_13 p1 p2 p3)) - (v0_21 p1 p2 p3)))), .val (.ref b16), .val (.int (sp3 ((v0_5 p1 p2 p3) - (v0_5 p1 p2 p3)))), .val (.int (sp3 (((v0_5 p1 p2 p3) - (v0_5 p1 p2 p3)) - (1 : Int64))))] [(.int (sp3 ((v0_5 p1 p2 p3) - (v0_5 p1 p2 p3))))])) _
                refine XS.ifYes X34.here hx rfl (pc0 := 153) (pc' := 165) rfl (hb hby at_153) rfl ((if0 _ _).trans (feq c153_67).2) (by decide) (by decide) ?_
                show Steps p.tables e below (T34.setTop (mkF m 165 #[.val (.long p1), .second, .val (.int p2), .val (.int p3), .val (.long (v0_5 p1 p2 p3)), .second, .val (.long (v0_13 p1 p2 p3)), .second, .val (.long (v0_21 p1 p2 p3)), .second, .val (.ref b2), .val (.int (sp3 (v0_5 p1 p2 p3))), .val (.int (sp3 ((v0_5 p1 p2 p3) - (v0_13 p1 p2 p3)))), .val (.int (sp3 (((v0_5 p1 p2 p3) - (v0_13 p1 p2 p3)) - (v0_21 p1 p2 p3)))), .val (.ref b16), .val (.int (sp3 ((v0_5 p1 p2 p3) - (v0_5 p1 p2 p3)))), .val (.int (sp3 (((v0_5 p1 p2 p3) - (v0_5 p1 p2 p3)) - (1 : Int64))))] [])) _
                refine XS.iconst X34.here hx rfl (hb hby at_165) ?_
                show Steps p.tables e below (T34.setTop (mkF m 166 #[.val (.long p1), .second, .val (.int p2), .val (.int p3), .val (.long (v0_5 p1 p2 p3)), .second, .val (.long (v0_13 p1 p2 p3)), .second, .val (.long (v0_21 p1 p2 p3)), .second, .val (.ref b2), .val (.int (sp3 (v0_5 p1 p2 p3))), .val (.int (sp3 ((v0_5 p1 p2 p3) - (v0_13 p1 p2 p3)))), .val (.int (sp3 (((v0_5 p1 p2 p3) - (v0_13 p1 p2 p3)) - (v0_21 p1 p2 p3)))), .val (.ref b16), .val (.int (sp3 ((v0_5 p1 p2 p3) - (v0_5 p1 p2 p3)))), .val (.int (sp3 (((v0_5 p1 p2 p3) - (v0_5 p1 p2 p3)) - (1 : Int64))))] [(.int (0 : Int32))])) _
                exact retN X34 hx (t := .boolean) Bd.returns (by simp) (hb hby at_166) hr
              · show Q0 Z p1 p2 p3 h0 n0 _ T34.heap _
                rw [hh34]
                have hv : sp0 p1 p2 p3 = (0 : Int32) := by unfold sp0; rw [if_pos c109_35, if_neg c119_37, if_pos c127_55, if_neg c140_57, if_pos c148_65, if_neg c153_67]
                exact ⟨by rw [← hv, own_law p1 p2 p3], N34⟩
          · obtain ⟨fs, hr, hrun, hended, hW, hsame⟩ := X34.leave (v := some (.int (0 : Int32))) (fun h => by rw [Bd.returns] at h; cases h)
            refine ⟨_, _, pre0 _ (k66 _ ?_), hrun, hended, _, _, rfl, ?_, ⟨_, rfl⟩, hW, hsame.mono (by decide) (by decide)⟩
            · show Steps p.tables e below (T34.setTop (mkF m 148 #[.val (.long p1), .second, .val (.int p2), .val (.int p3), .val (.long (v0_5 p1 p2 p3)), .second, .val (.long (v0_13 p1 p2 p3)), .second, .val (.long (v0_21 p1 p2 p3)), .second, .val (.ref b2), .val (.int (sp3 (v0_5 p1 p2 p3))), .val (.int (sp3 ((v0_5 p1 p2 p3) - (v0_13 p1 p2 p3)))), .val (.int (sp3 (((v0_5 p1 p2 p3) - (v0_13 p1 p2 p3)) - (v0_21 p1 p2 p3)))), .val (.ref b16), .val (.int (sp3 ((v0_5 p1 p2 p3) - (v0_5 p1 p2 p3)))), .val (.int (sp3 (((v0_5 p1 p2 p3) - (v0_5 p1 p2 p3)) - (1 : Int64))))] [(.int (0 : Int32)), (.int (sp3 (((v0_5 p1 p2 p3) - (v0_13 p1 p2 p3)) - (v0_21 p1 p2 p3))))])) _
              refine XS.icmpYes X34.here hx rfl (pc0 := 148) (pc' := 165) rfl (hb hby at_148) rfl (feq c148_65).2 (by decide) (by decide) ?_
              show Steps p.tables e below (T34.setTop (mkF m 165 #[.val (.long p1), .second, .val (.int p2), .val (.int p3), .val (.long (v0_5 p1 p2 p3)), .second, .val (.long (v0_13 p1 p2 p3)), .second, .val (.long (v0_21 p1 p2 p3)), .second, .val (.ref b2), .val (.int (sp3 (v0_5 p1 p2 p3))), .val (.int (sp3 ((v0_5 p1 p2 p3) - (v0_13 p1 p2 p3)))), .val (.int (sp3 (((v0_5 p1 p2 p3) - (v0_13 p1 p2 p3)) - (v0_21 p1 p2 p3)))), .val (.ref b16), .val (.int (sp3 ((v0_5 p1 p2 p3) - (v0_5 p1 p2 p3)))), .val (.int (sp3 (((v0_5 p1 p2 p3) - (v0_5 p1 p2 p3)) - (1 : Int64))))] [])) _
              refine XS.iconst X34.here hx rfl (hb hby at_165) ?_
              show Steps p.tables e below (T34.setTop (mkF m 166 #[.val (.long p1), .second, .val (.int p2), .val (.int p3), .val (.long (v0_5 p1 p2 p3)), .second, .val (.long (v0_13 p1 p2 p3)), .second, .val (.long (v0_21 p1 p2 p3)), .second, .val (.ref b2), .val (.int (sp3 (v0_5 p1 p2 p3))), .val (.int (sp3 ((v0_5 p1 p2 p3) - (v0_13 p1 p2 p3)))), .val (.int (sp3 (((v0_5 p1 p2 p3) - (v0_13 p1 p2 p3)) - (v0_21 p1 p2 p3)))), .val (.ref b16), .val (.int (sp3 ((v0_5 p1 p2 p3) - (v0_5 p1 p2 p3)))), .val (.int (sp3 (((v0_5 p1 p2 p3) - (v0_5 p1 p2 p3)) - (1 : Int64))))] [(.int (0 : Int32))])) _
              exact retN X34 hx (t := .boolean) Bd.returns (by simp) (hb hby at_166) hr
            · show Q0 Z p1 p2 p3 h0 n0 _ T34.heap _
              rw [hh34]
              have hv : sp0 p1 p2 p3 = (0 : Int32) := by unfold sp0; rw [if_pos c109_35, if_neg c119_37, if_pos c127_55, if_neg c140_57, if_neg c148_65]
              exact ⟨by rw [← hv, own_law p1 p2 p3], N34⟩
      · obtain ⟨fs, hr, hrun, hended, hW, hsame⟩ := X34.leave (v := some (.int (0 : Int32))) (fun h => by rw [Bd.returns] at h; cases h)
        refine ⟨_, _, pre0 _ (k56 _ ?_), hrun, hended, _, _, rfl, ?_, ⟨_, rfl⟩, hW, hsame.mono (by decide) (by decide)⟩
        · show Steps p.tables e below (T34.setTop (mkF m 127 #[.val (.long p1), .second, .val (.int p2), .val (.int p3), .val (.long (v0_5 p1 p2 p3)), .second, .val (.long (v0_13 p1 p2 p3)), .second, .val (.long (v0_21 p1 p2 p3)), .second, .val (.ref b2), .val (.int (sp3 (v0_5 p1 p2 p3))), .val (.int (sp3 ((v0_5 p1 p2 p3) - (v0_13 p1 p2 p3)))), .val (.int (sp3 (((v0_5 p1 p2 p3) - (v0_13 p1 p2 p3)) - (v0_21 p1 p2 p3)))), .val (.ref b16), .val (.int (sp3 ((v0_5 p1 p2 p3) - (v0_5 p1 p2 p3)))), .val (.int (sp3 (((v0_5 p1 p2 p3) - (v0_5 p1 p2 p3)) - (1 : Int64))))] [(.int (0 : Int32)), (.int (sp3 ((v0_5 p1 p2 p3) - (v0_13 p1 p2 p3))))])) _
          refine XS.icmpYes X34.here hx rfl (pc0 := 127) (pc' := 165) rfl (hb hby at_127) rfl (feq c127_55).2 (by decide) (by decide) ?_
          show Steps p.tables e below (T34.setTop (mkF m 165 #[.val (.long p1), .second, .val (.int p2), .val (.int p3), .val (.long (v0_5 p1 p2 p3)), .second, .val (.long (v0_13 p1 p2 p3)), .second, .val (.long (v0_21 p1 p2 p3)), .second, .val (.ref b2), .val (.int (sp3 (v0_5 p1 p2 p3))), .val (.int (sp3 ((v0_5 p1 p2 p3) - (v0_13 p1 p2 p3)))), .val (.int (sp3 (((v0_5 p1 p2 p3) - (v0_13 p1 p2 p3)) - (v0_21 p1 p2 p3)))), .val (.ref b16), .val (.int (sp3 ((v0_5 p1 p2 p3) - (v0_5 p1 p2 p3)))), .val (.int (sp3 (((v0_5 p1 p2 p3) - (v0_5 p1 p2 p3)) - (1 : Int64))))] [])) _
          refine XS.iconst X34.here hx rfl (hb hby at_165) ?_
          show Steps p.tables e below (T34.setTop (mkF m 166 #[.val (.long p1), .second, .val (.int p2), .val (.int p3), .val (.long (v0_5 p1 p2 p3)), .second, .val (.long (v0_13 p1 p2 p3)), .second, .val (.long (v0_21 p1 p2 p3)), .second, .val (.ref b2), .val (.int (sp3 (v0_5 p1 p2 p3))), .val (.int (sp3 ((v0_5 p1 p2 p3) - (v0_13 p1 p2 p3)))), .val (.int (sp3 (((v0_5 p1 p2 p3) - (v0_13 p1 p2 p3)) - (v0_21 p1 p2 p3)))), .val (.ref b16), .val (.int (sp3 ((v0_5 p1 p2 p3) - (v0_5 p1 p2 p3)))), .val (.int (sp3 (((v0_5 p1 p2 p3) - (v0_5 p1 p2 p3)) - (1 : Int64))))] [(.int (0 : Int32))])) _
          exact retN X34 hx (t := .boolean) Bd.returns (by simp) (hb hby at_166) hr
        · show Q0 Z p1 p2 p3 h0 n0 _ T34.heap _
          rw [hh34]
          have hv : sp0 p1 p2 p3 = (0 : Int32) := by unfold sp0; rw [if_pos c109_35, if_neg c119_37, if_neg c127_55]
          exact ⟨by rw [← hv, own_law p1 p2 p3], N34⟩
  · obtain ⟨fs, hr, hrun, hended, hW, hsame⟩ := X34.leave (v := some (.int (0 : Int32))) (fun h => by rw [Bd.returns] at h; cases h)
    refine ⟨_, _, pre0 _ (k36 _ ?_), hrun, hended, _, _, rfl, ?_, ⟨_, rfl⟩, hW, hsame.mono (by decide) (by decide)⟩
    · show Steps p.tables e below (T34.setTop (mkF m 109 #[.val (.long p1), .second, .val (.int p2), .val (.int p3), .val (.long (v0_5 p1 p2 p3)), .second, .val (.long (v0_13 p1 p2 p3)), .second, .val (.long (v0_21 p1 p2 p3)), .second, .val (.ref b2), .val (.int (sp3 (v0_5 p1 p2 p3))), .val (.int (sp3 ((v0_5 p1 p2 p3) - (v0_13 p1 p2 p3)))), .val (.int (sp3 (((v0_5 p1 p2 p3) - (v0_13 p1 p2 p3)) - (v0_21 p1 p2 p3)))), .val (.ref b16), .val (.int (sp3 ((v0_5 p1 p2 p3) - (v0_5 p1 p2 p3)))), .val (.int (sp3 (((v0_5 p1 p2 p3) - (v0_5 p1 p2 p3)) - (1 : Int64))))] [(.int (sp3 (v0_5 p1 p2 p3)))])) _
      refine XS.ifYes X34.here hx rfl (pc0 := 109) (pc' := 165) rfl (hb hby at_109) rfl ((if0 _ _).trans (feq c109_35).2) (by decide) (by decide) ?_
      show Steps p.tables e below (T34.setTop (mkF m 165 #[.val (.long p1), .second, .val (.int p2), .val (.int p3), .val (.long (v0_5 p1 p2 p3)), .second, .val (.long (v0_13 p1 p2 p3)), .second, .val (.long (v0_21 p1 p2 p3)), .second, .val (.ref b2), .val (.int (sp3 (v0_5 p1 p2 p3))), .val (.int (sp3 ((v0_5 p1 p2 p3) - (v0_13 p1 p2 p3)))), .val (.int (sp3 (((v0_5 p1 p2 p3) - (v0_13 p1 p2 p3)) - (v0_21 p1 p2 p3)))), .val (.ref b16), .val (.int (sp3 ((v0_5 p1 p2 p3) - (v0_5 p1 p2 p3)))), .val (.int (sp3 (((v0_5 p1 p2 p3) - (v0_5 p1 p2 p3)) - (1 : Int64))))] [])) _
      refine XS.iconst X34.here hx rfl (hb hby at_165) ?_
      show Steps p.tables e below (T34.setTop (mkF m 166 #[.val (.long p1), .second, .val (.int p2), .val (.int p3), .val (.long (v0_5 p1 p2 p3)), .second, .val (.long (v0_13 p1 p2 p3)), .second, .val (.long (v0_21 p1 p2 p3)), .second, .val (.ref b2), .val (.int (sp3 (v0_5 p1 p2 p3))), .val (.int (sp3 ((v0_5 p1 p2 p3) - (v0_13 p1 p2 p3)))), .val (.int (sp3 (((v0_5 p1 p2 p3) - (v0_13 p1 p2 p3)) - (v0_21 p1 p2 p3)))), .val (.ref b16), .val (.int (sp3 ((v0_5 p1 p2 p3) - (v0_5 p1 p2 p3)))), .val (.int (sp3 (((v0_5 p1 p2 p3) - (v0_5 p1 p2 p3)) - (1 : Int64))))] [(.int (0 : Int32))])) _
      exact retN X34 hx (t := .boolean) Bd.returns (by simp) (hb hby at_166) hr
    · show Q0 Z p1 p2 p3 h0 n0 _ T34.heap _
      rw [hh34]
      have hv : sp0 p1 p2 p3 = (0 : Int32) := by unfold sp0; rw [if_neg c109_35]
      exact ⟨by rw [← hv, own_law p1 p2 p3], N34⟩
set_option maxRecDepth 65536 in
set_option maxHeartbeats 40000000 in
theorem comes_1 {Post : Tables → Env → Array Value → State → Outcome → State → Prop} (hpost : ∀ tb e args s v u, (limb_1_1.after args s (.returned v) u = true ∧ limb_1_2.after args s (.returned v) u = true ∧ True) → FrameEnd s (.returned v) u (Jvm.fieldLocs frame_1_writes args s ++ Jvm.arrayLocs frame_1_arrays args s ++ Jvm.staticLocs frame_1_statics s) 16 128 → Post tb e args s (.returned v) u) :
    ArmFor flags0 classFile x code maxLocals ret World_1 tables_1 room_1 Calls_1 rest_1 Pre_1 Post := by
  intro l hfl _ _ p e ha hc hk s m args below hf hA hF happ hP
  obtain ⟨hcalls, hrest, hpre⟩ := hP
  obtain ⟨-, -, -, hnamed, -, -, -, hat⟩ := (Spec.applies_iff hf).mp happ
  obtain ⟨hg, hn⟩ := and_e (Cond.before_iff.mp (show (Jvm.Cond.and given_1 narrow_1).before args s = true from hpre))
  obtain ⟨g2, g3⟩ := and_e hg
  obtain ⟨g4, g5⟩ := and_e g3
  obtain ⟨g6, g7⟩ := and_e g5
  obtain ⟨w0, w1, w2, rfl⟩ : ∃ w0 w1 w2 : Value, args = #[w0, w1, w2] := by
    have hs : args.size = 3 := by simpa [Cond.value, given_1] using g2
    obtain ⟨L⟩ := args
    match L, hs with
    | [w0, w1, w2], _ => exact ⟨w0, w1, w2, rfl⟩
  have hw := fun d (hd : d ∈ tables_1) => atoms_spec (ws := Jvm.Cond.code x code maxLocals ret :: tables_1) hat d (List.mem_cons_of_mem _ hd)
  obtain ⟨i0, ei0⟩ := isL_v g4
  obtain rfl : w0 = (.long i0) := Option.some.inj ei0
  obtain ⟨i1, ei1⟩ := is_v g6
  obtain rfl : w1 = (.int i1) := Option.some.inj ei1
  obtain ⟨i2, ei2⟩ := is_v g7
  obtain rfl : w2 = (.int i2) := Option.some.inj ei2
  obtain ⟨n, o, h1, h2, h3, _, L, rfl, ⟨rfl, N⟩, hq⟩ := rm0 l s _ hw tables_1 i0 i1 i2 s.heap s.heap.size (Nat.le_refl _) p e ha hc hk s m _ below hf ((Spec.applies_iff_loose hf).mp happ).1 ⟨rfl, State.Warmed39.refl s, rfl⟩ trivial
  refine ⟨n, _, h1, h2, h3, hpost _ _ _ _ _ _ ⟨Cond.after_iff.mpr rfl, Cond.after_iff.mpr (eq_i res_at (Term.int_eval (1)) rfl), trivial⟩ ⟨hq.1, hq.2.1, (hq.2.2.sift fun y hy => Or.inr (N y hy)).mono (by decide) (by decide)⟩⟩
theorem main_1_1 : Claimed_1_1 := comes_1 fun _ _ _ _ _ _ h hF => ⟨h.1, hF⟩
theorem main_1_2 : Claimed_1_2 := comes_1 fun _ _ _ _ _ _ h hF => ⟨h.2.1, hF⟩
end Jvm.Pilot.@@N@@
namespace Jvm.Pilot.@@N@@
open Jvm Jvm.ClassFile Sem Op Lib Jvm.Free Jvm.Stand Jvm.Pilot.@@N@@.Jvm.D
/-! MADE BY PROGRAM (witnessworld.py) out of the Statement's table words and the real class files: 9 classes; the members and pool entries that the words name. The judged class is class 1, her method 1. -/
namespace start1
open Jvm.ClassFile
def u (s : String) : CpInfo := .utf8 (stringToUtf16 s)
/-- a pool by its gaps: so many unusable entries, then the entry; so many at the end -/
def gap : Nat → List CpInfo → List CpInfo
  | 0, r => r
  | n + 1, r => .unusable :: gap n r
def poolList (es : List (Nat × CpInfo)) (last : Nat) : List CpInfo := es.foldr (fun e r => gap e.1 (e.2 :: r)) (gap last [])
def pool (es : List (Nat × CpInfo)) (last : Nat) : Array CpInfo := ⟨poolList es last⟩
def fileOf (pool : Array CpInfo) (this : Nat) (attrs : Array Attribute := #[]) (ms : Array MethodInfo := #[]) (fl : Nat := 33) (sup : Nat := 0) (ifs : Array Nat := #[]) (fds : Array FieldInfo := #[]) : ClassFile where
  minorVersion := 0
  majorVersion := 65
  constantPool := pool
  accessFlags := fl
  thisClass := this
  superClass := sup
  interfaces := ifs
  fields := fds
  methods := ms
  attributes := attrs
def plain (name : String) (sup : Option ClassId) : Class where
  name := name
  kind := .ordinary
  loader := none
  accessFlags := 33
  super := sup
  interfaces := #[]
  cf := none
  fields := #[]
  methods := #[]
  instanceTypes := #[]
  staticTypes := #[]
  resolved := #[]
  callSites := []
  init := .initialized
  statics := none
  mirror := none

def pool0 : Array CpInfo := pool [(5, u "<init>"), (0, u "()V"), (1, .class_ 10), (1, u "java/lang/Object")] 113

def k0c0 : Code := { maxStack := 0, maxLocals := 1, code := object_method_1_code, exceptionTable := #[], attributes := #[] }
def k0m0 : Method := { name := "<init>", desc := "()V", sig := { parameters := [], returnType := none }, accessFlags := 1, code := some k0c0 }
/-- java/lang/Object -/
def k0 : Class := { plain "java/lang/Object" none with
  accessFlags := 33
  interfaces := #[]
  cf := some (fileOf pool0 8 #[] #[{ accessFlags := 1, nameIndex := 5, descriptorIndex := 6, attributes := #[] }] 33 0 #[] #[])
  fields := #[]
  methods := #[k0m0]
  instanceTypes := #[]
  staticTypes := #[]
  resolved := Array.replicate 124 none
  statics := none }

def pool1 : Array CpInfo := pool [(2, .class_ 4), (1, u "java/lang/Object"), (0, u "<init>"), (0, u "()V"), (2, .long 9223372036854775807), (1, .long 2147483647), (1, .class_ 14), (0, u "com/example/grantwell/grantwell/core/Budget"), (0, .methodref 13 16), (0, .nameAndType 5 17), (0, u "(J)V"), (0, .methodref 13 19), (0, .nameAndType 20 21), (0, u "spent"), (0, u "()Z"), (0, .methodref 13 23), (0, .nameAndType 24 17), (0, u "spend"), (0, .class_ 26), (0, u "com/example/grantwell/grantwell/core/BudgetSpentPinLaw"), (2, u "law"), (0, u "(JII)Z")] 3

def k1m0 : Method := { name := "<init>", desc := "()V", sig := { parameters := [], returnType := none }, accessFlags := 1, code := none }
def k1c1 : Code := { maxStack := 5, maxLocals := 17, code := code, exceptionTable := #[], attributes := #[] }
def k1m1 : Method := { name := "law", desc := "(JII)Z", sig := { parameters := [.long, .int, .int], returnType := some .boolean }, accessFlags := 9, code := some k1c1 }
/-- com/example/grantwell/grantwell/core/BudgetSpentPinLaw -/
def k1 : Class := { plain "com/example/grantwell/grantwell/core/BudgetSpentPinLaw" (some 0) with
  accessFlags := 49
  interfaces := #[]
  cf := some (fileOf pool1 25 #[] #[{ accessFlags := 1, nameIndex := 5, descriptorIndex := 6, attributes := #[] }, { accessFlags := 9, nameIndex := 29, descriptorIndex := 30, attributes := #[] }] 49 2 #[] #[])
  fields := #[]
  methods := #[k1m0, k1m1]
  instanceTypes := #[]
  staticTypes := #[]
  resolved := Array.replicate 34 none
  statics := none }

def pool2 : Array CpInfo := pool [(1, .methodref 2 3), (0, .class_ 4), (0, .nameAndType 5 6), (0, u "java/lang/Object"), (0, u "<init>"), (0, u "()V"), (0, .fieldref 8 9), (0, .class_ 10), (0, .nameAndType 11 12), (0, u "com/example/grantwell/grantwell/core/Budget"), (0, u "left"), (0, u "J"), (8, u "spend"), (0, u "(J)V"), (11, u "spent"), (0, u "()Z")] 3

def k2c0 : Code := { maxStack := 3, maxLocals := 3, code := prog_62_method_1_code, exceptionTable := #[], attributes := #[] }
def k2m0 : Method := { name := "<init>", desc := "(J)V", sig := { parameters := [.long], returnType := none }, accessFlags := 0, code := some k2c0 }
def k2c1 : Code := { maxStack := 5, maxLocals := 3, code := prog_62_method_2_code, exceptionTable := #[], attributes := #[] }
def k2m1 : Method := { name := "spend", desc := "(J)V", sig := { parameters := [.long], returnType := none }, accessFlags := 0, code := some k2c1 }
def k2c2 : Code := { maxStack := 4, maxLocals := 1, code := prog_62_method_4_code, exceptionTable := #[], attributes := #[] }
def k2m2 : Method := { name := "spent", desc := "()Z", sig := { parameters := [], returnType := some .boolean }, accessFlags := 0, code := some k2c2 }
/-- com/example/grantwell/grantwell/core/Budget -/
def k2 : Class := { plain "com/example/grantwell/grantwell/core/Budget" (some 0) with
  accessFlags := 48
  interfaces := #[]
  cf := some (fileOf pool2 8 #[] #[{ accessFlags := 0, nameIndex := 5, descriptorIndex := 22, attributes := #[] }, { accessFlags := 0, nameIndex := 21, descriptorIndex := 22, attributes := #[] }, { accessFlags := 0, nameIndex := 34, descriptorIndex := 35, attributes := #[] }] 48 2 #[] #[{ accessFlags := 2, nameIndex := 11, descriptorIndex := 12, attributes := #[] }])
  fields := #[{ name := "left", type := .long, accessFlags := 2, slot := 0, constantValue := 0 }]
  methods := #[k2m0, k2m1, k2m2]
  instanceTypes := #[.long]
  staticTypes := #[]
  resolved := Array.replicate 39 none
  statics := none }

def pool3 : Array CpInfo := pool [(1, u "java/lang/Cloneable"), (0, .class_ 1), (0, u "java/lang/Object"), (0, .class_ 3)] 3

/-- java/lang/Cloneable -/
def k3 : Class := { plain "java/lang/Cloneable" (some 0) with
  accessFlags := 1537
  interfaces := #[]
  cf := some (fileOf pool3 2 #[] #[] 1537 4 #[] #[])
  fields := #[]
  methods := #[]
  instanceTypes := #[]
  staticTypes := #[]
  resolved := Array.replicate 8 none
  statics := none }

def pool4 : Array CpInfo := pool [(1, u "java/io/Serializable"), (0, .class_ 1), (0, u "java/lang/Object"), (0, .class_ 3)] 3

/-- java/io/Serializable -/
def k4 : Class := { plain "java/io/Serializable" (some 0) with
  accessFlags := 1537
  interfaces := #[]
  cf := some (fileOf pool4 2 #[] #[] 1537 4 #[] #[])
  fields := #[]
  methods := #[]
  instanceTypes := #[]
  staticTypes := #[]
  resolved := Array.replicate 8 none
  statics := none }

/-- the primitive byte -/
def k5 : Class := { plain "byte" none with kind := .primitive 'B', accessFlags := 0x411 }
/-- [B -/
def k6 : Class := { plain "[B" (some 0) with kind := .array 5 .byte, interfaces := #[3, 4], accessFlags := 1041 }

/-- the primitive int -/
def k7 : Class := { plain "int" none with kind := .primitive 'I', accessFlags := 0x411 }
/-- [I -/
def k8 : Class := { plain "[I" (some 0) with kind := .array 7 .int, interfaces := #[3, 4], accessFlags := 1041 }

def heap : Heap := #[]
def classes : Array Class := #[k0, k1, k2, k3, k4, k5, k6, k7, k8]
def interned : List (Array UInt16 × Addr) := []
def slotsUsed : Nat := 0
def theMethod : MethodId := ⟨1, 1⟩
def args0 : Array Value := #[.long 5, .int 5, .int 300]
def aboutOver (below : List Frame) : State where
  vm := { classes := classes, interned := interned.toArray }
  heap := heap
  slotsUsed := slotsUsed
  threads := #[{ frames := .invoking theMethod args0 :: below }]
def below0 : List Frame := [.native { method := ⟨0, 0⟩, args := #[] }]
def about1 : State := aboutOver below0
def p0 : Program := .bare "" "" ""
def e0 : Env := launch0.env 0 0 0
theorem w_frames : about1.frames = Frame.invoking theMethod args0 :: below0 := rfl
set_option maxRecDepth 65536 in
theorem w_args : argsFit about1.vm theMethod args0 = true := by decide +kernel
set_option maxRecDepth 65536 in
theorem w_heap : heapFits about1 = true := by decide +kernel
set_option maxRecDepth 65536 in
theorem w_runnable : about1.curStatus? = some .runnable := by decide +kernel
set_option maxRecDepth 65536 in
theorem w_alone : about1.alone = true := by decide +kernel
set_option maxRecDepth 65536 in
theorem w_named : about1.methodNamed? x = some theMethod := by decide +kernel
set_option maxRecDepth 65536 in
theorem w_hears : about1.hears theMethod below0 = true := by decide +kernel
set_option maxRecDepth 65536 in
theorem w_ripe : about1.ripe theMethod args0 below0 = true := by decide +kernel
theorem w_running : about1.status = .running := rfl
set_option maxRecDepth 65536 in
theorem w_room : about1.hasRoom e0.platform room_1 = true :=
  launch0.hasRoom_least _ room_1 (by decide +kernel) (by decide +kernel) (by decide +kernel) (by decide +kernel) (by decide +kernel) (by decide +kernel)
theorem allAtoms_all (ts : List Jvm.Cond) (a : Array Jvm.Value) (st : Jvm.State) : (allAtoms ts).before a st = ts.all (fun c => c.before a st) := by
  induction ts with
  | nil => rfl
  | cons c t ih =>
    show (Jvm.Cond.and c (allAtoms t)).before a st = _
    rw [Jvm.Cond.before_and, ih, List.all_cons]
def words1 : List Jvm.Cond := Jvm.Cond.code x code maxLocals ret :: tables_1
/-- a 'code' word, met by the world's own term for the bytes: nothing is compared byte by byte -/
theorem code_word {y : MethodName} {bytes : ByteArray} {mx : Nat} {rt : Option FieldType} {a : Array Value} {s : State} {m : MethodId} {meth : Method} {c : Code} (h1 : s.methodNamed? y = some m) (h2 : s.vm.method? m = some meth) (h3 : meth.code = some c) (h4 : c.code = bytes)
    (h5 : (c.maxLocals == mx && c.exceptionTable.isEmpty && decide (c.maxStack ≤ mostOperands) && decide (meth.sig.returnType = rt) && !meth.locks && decide (parseMethodDescriptor y.desc = some meth.sig)) = true) : (Jvm.Cond.code y bytes mx rt).before a s = true := by
  simp only [Bool.and_eq_true, beq_iff_eq, Bool.not_eq_true', decide_eq_true_eq] at h5
  obtain ⟨⟨⟨⟨⟨g1, g2⟩, g3⟩, g4⟩, g5⟩, g6⟩ := h5
  simp [Cond.before, Cond.holds, Cond.value, h1, h2, h3, h4, g1, g2, g3, g4, g5, g6]
def isCode : Jvm.Cond → Bool
  | .code _ _ _ _ => true
  | _ => false
theorem all_split {L : List Jvm.Cond} {P : Jvm.Cond → Bool} (h1 : L.all (fun c => isCode c || P c) = true) (h2 : ∀ c ∈ L.filter isCode, P c = true) : L.all P = true := by
  refine List.all_eq_true.mpr fun c hc => ?_
  have h := List.all_eq_true.mp h1 c hc
  rcases Bool.eq_false_or_eq_true (isCode c) with hi | hi
  · exact h2 c (List.mem_filter.mpr ⟨hc, hi⟩)
  · simpa [hi] using h
set_option maxRecDepth 65536 in
theorem w_c0 : (Jvm.Cond.code x code maxLocals ret).before args0 about1 = true := code_word (m := ⟨1, 1⟩) (meth := k1m1) (c := k1c1) (by decide +kernel) rfl rfl rfl (by decide +kernel)
set_option maxRecDepth 65536 in
theorem w_c1 : (Jvm.Cond.code ({ cls := "com/example/grantwell/grantwell/core/Budget", name := "<init>", desc := "(J)V" } : Jvm.MethodName) prog_62_method_1_code (3 : Nat) (Option.none : Option Jvm.ClassFile.FieldType)).before args0 about1 = true := code_word (m := ⟨2, 0⟩) (meth := k2m0) (c := k2c0) (by decide +kernel) rfl rfl rfl (by decide +kernel)
set_option maxRecDepth 65536 in
theorem w_c2 : (Jvm.Cond.code ({ cls := "java/lang/Object", name := "<init>", desc := "()V" } : Jvm.MethodName) object_method_1_code (1 : Nat) (Option.none : Option Jvm.ClassFile.FieldType)).before args0 about1 = true := code_word (m := ⟨0, 0⟩) (meth := k0m0) (c := k0c0) (by decide +kernel) rfl rfl rfl (by decide +kernel)
set_option maxRecDepth 65536 in
theorem w_c3 : (Jvm.Cond.code ({ cls := "com/example/grantwell/grantwell/core/Budget", name := "spent", desc := "()Z" } : Jvm.MethodName) prog_62_method_4_code (1 : Nat) (Option.some Jvm.ClassFile.FieldType.boolean)).before args0 about1 = true := code_word (m := ⟨2, 2⟩) (meth := k2m2) (c := k2c2) (by decide +kernel) rfl rfl rfl (by decide +kernel)
set_option maxRecDepth 65536 in
theorem w_c4 : (Jvm.Cond.code ({ cls := "com/example/grantwell/grantwell/core/Budget", name := "spend", desc := "(J)V" } : Jvm.MethodName) prog_62_method_2_code (3 : Nat) (Option.none : Option Jvm.ClassFile.FieldType)).before args0 about1 = true := code_word (m := ⟨2, 1⟩) (meth := k2m1) (c := k2c1) (by decide +kernel) rfl rfl rfl (by decide +kernel)
def codes1 : List Jvm.Cond := [Jvm.Cond.code x code maxLocals ret, Jvm.Cond.code ({ cls := "com/example/grantwell/grantwell/core/Budget", name := "<init>", desc := "(J)V" } : Jvm.MethodName) prog_62_method_1_code (3 : Nat) (Option.none : Option Jvm.ClassFile.FieldType), Jvm.Cond.code ({ cls := "java/lang/Object", name := "<init>", desc := "()V" } : Jvm.MethodName) object_method_1_code (1 : Nat) (Option.none : Option Jvm.ClassFile.FieldType), Jvm.Cond.code ({ cls := "com/example/grantwell/grantwell/core/Budget", name := "spent", desc := "()Z" } : Jvm.MethodName) prog_62_method_4_code (1 : Nat) (Option.some Jvm.ClassFile.FieldType.boolean), Jvm.Cond.code ({ cls := "com/example/grantwell/grantwell/core/Budget", name := "spend", desc := "(J)V" } : Jvm.MethodName) prog_62_method_2_code (3 : Nat) (Option.none : Option Jvm.ClassFile.FieldType)]
set_option maxRecDepth 65536 in
theorem codes_eq : words1.filter isCode = codes1 := rfl
theorem w_codes : ∀ c ∈ words1.filter isCode, c.before args0 about1 = true := by
  rw [codes_eq]
  intro c hc
  simp only [codes1, List.mem_cons, List.not_mem_nil, or_false] at hc
  rcases hc with rfl | rfl | rfl | rfl | rfl
  · exact w_c0
  · exact w_c1
  · exact w_c2
  · exact w_c3
  · exact w_c4
set_option maxRecDepth 65536 in
theorem w_t1 : words1.all (fun c => isCode c || c.before args0 about1) = true := by decide +kernel
theorem w_tables : (allAtoms (Jvm.Cond.code x code maxLocals ret :: tables_1)).before args0 about1 = true := by
  rw [allAtoms_all]
  show words1.all (fun c => c.before args0 about1) = true
  refine all_split ?_ w_codes
  rw [w_t1]
set_option maxRecDepth 65536 in
theorem w_case : (Jvm.Cond.and given_1 narrow_1).before args0 about1 = true := by decide +kernel
theorem w_applies : (headSpec (Jvm.Cond.code x code maxLocals ret :: tables_1) room_1).applies x e0.platform about1 = true :=
  (Spec.applies_iff w_frames).mpr ⟨w_running, w_runnable, w_alone, w_named, w_hears, w_ripe, w_room, w_tables⟩
theorem atStart : AtStart classFile x code maxLocals ret World_1 tables_1 room_1 Calls_1 rest_1 Pre_1 launch0 p0 e0 about1 theMethod args0 below0 :=
  ⟨lists_1, trivial, launch0.admits_env _ _ _, launch0.least_env, fairChoices_fair.cas, fairChoices_fair.clock, w_frames, w_args, w_heap, w_applies, trivial, trivial, w_case⟩
end start1
theorem witness_1 : WitnessClaimed_1 := ⟨start1.p0, start1.e0, start1.about1, start1.theMethod, start1.args0, start1.below0, start1.atStart⟩
end Jvm.Pilot.@@N@@
