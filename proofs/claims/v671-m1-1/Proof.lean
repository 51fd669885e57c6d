import JvmDerived
import JvmDerived.Pilot.@@N@@Statement
import JvmDerived.Pilot.@@N@@Code
set_option linter.unusedVariables false
set_option linter.unusedSimpArgs false
namespace Jvm.RoadKit
open Sem ClassFile Op Lib Jvm.Stand Jvm.Free Jvm.LawKit
section New
variable {p : Program} {l : Launch} {e : Env} {R : Room} {s : State} {m : MethodId} {args : Array Value} {below : List Frame} {meth : Method} {c : Code} {T : State} {locs : List Loc} {cells slots : Nat}
theorem retI (X : Stand p l e R s m args below meth c T locs cells slots) (hx : p.tables.exec = Jvm.exec) {pc : Nat} {Ls : Array Slot} {z : Int32} {rest : List Value} (hret : meth.sig.returnType = some .int) (hd : decode c.code pc = .ok (.ireturn, 1)) {fs : List Frame}
    (hl : ∀ (f : JFrame) (acts : List Action), f.method = m → f.locked = none → f.entered = [] → (doReturn e (T.setTop f) acts (some (.int z))).1 = T.setFrames fs) : Steps p.tables e below (T.setTop (mkF m pc Ls (.int z :: rest))) (T.setFrames fs) := by
  have hm' : T.vm.method? m = some meth := X.method'
  have hn : narrow .int (.int z) = .int z := rfl
  show Steps p.tables e below (T.setTop { method := m, pc := pc, locals := Ls, stack := _ :: rest, locked := none }) _
  jvm_step X.here [X.here.top, hx, hd, hm', hret, hn]
  first | (intro acts; rw [hl _ acts rfl rfl rfl]) | rw [hl _ _ rfl rfl rfl]
  exact Steps.refl _
end New
end Jvm.RoadKit
namespace Jvm.Pilot.@@N@@
open Jvm Jvm.ClassFile Sem Op Lib Jvm.Free Jvm.Stand Jvm.LawKit Jvm.RoadKit Bundle Jvm.Pilot.@@N@@.Jvm.D
theorem d2_0 : decode jdk_30_method_1_code 0 = .ok (.aload_n 0, 1) := by decide +kernel
theorem d2_1 : decode jdk_30_method_1_code 1 = .ok (.invokespecial 1, 3) := by decide +kernel
theorem d2_4 : decode jdk_30_method_1_code 4 = .ok (.return_, 1) := by decide +kernel
theorem pn_2 : plainName "java/lang/Record" = true := by first | (simp [plainName, overriddenIn]; done) | decide +kernel
theorem ef_2 (m : MethodId) (x0 : Addr) : entryFrame m #[(.ref x0)] 1 = mkF m 0 #[.val (.ref x0)] [] := by first | (simp [entryFrame, mkF, argsToLocals, Value.category]; done) | rfl
theorem d1_0 : decode prog_6_method_1_code 0 = .ok (.aload_n 0, 1) := by decide +kernel
theorem d1_1 : decode prog_6_method_1_code 1 = .ok (.invokespecial 1, 3) := by decide +kernel
theorem d1_4 : decode prog_6_method_1_code 4 = .ok (.aload_n 0, 1) := by decide +kernel
theorem d1_5 : decode prog_6_method_1_code 5 = .ok (.iload_n 1, 1) := by decide +kernel
theorem d1_6 : decode prog_6_method_1_code 6 = .ok (.putfield 7, 3) := by decide +kernel
theorem d1_9 : decode prog_6_method_1_code 9 = .ok (.aload_n 0, 1) := by decide +kernel
theorem d1_10 : decode prog_6_method_1_code 10 = .ok (.lload_n 2, 1) := by decide +kernel
theorem d1_11 : decode prog_6_method_1_code 11 = .ok (.putfield 13, 3) := by decide +kernel
theorem d1_14 : decode prog_6_method_1_code 14 = .ok (.aload_n 0, 1) := by decide +kernel
theorem d1_15 : decode prog_6_method_1_code 15 = .ok (.iload 4, 2) := by decide +kernel
theorem d1_17 : decode prog_6_method_1_code 17 = .ok (.putfield 17, 3) := by decide +kernel
theorem d1_20 : decode prog_6_method_1_code 20 = .ok (.aload_n 0, 1) := by decide +kernel
theorem d1_21 : decode prog_6_method_1_code 21 = .ok (.iload 5, 2) := by decide +kernel
theorem d1_23 : decode prog_6_method_1_code 23 = .ok (.putfield 20, 3) := by decide +kernel
theorem d1_26 : decode prog_6_method_1_code 26 = .ok (.aload_n 0, 1) := by decide +kernel
theorem d1_27 : decode prog_6_method_1_code 27 = .ok (.lload 6, 2) := by decide +kernel
theorem d1_29 : decode prog_6_method_1_code 29 = .ok (.putfield 23, 3) := by decide +kernel
theorem d1_32 : decode prog_6_method_1_code 32 = .ok (.aload_n 0, 1) := by decide +kernel
theorem d1_33 : decode prog_6_method_1_code 33 = .ok (.lload 8, 2) := by decide +kernel
theorem d1_35 : decode prog_6_method_1_code 35 = .ok (.putfield 26, 3) := by decide +kernel
theorem d1_38 : decode prog_6_method_1_code 38 = .ok (.aload_n 0, 1) := by decide +kernel
theorem d1_39 : decode prog_6_method_1_code 39 = .ok (.lload 10, 2) := by decide +kernel
theorem d1_41 : decode prog_6_method_1_code 41 = .ok (.putfield 29, 3) := by decide +kernel
theorem d1_44 : decode prog_6_method_1_code 44 = .ok (.return_, 1) := by decide +kernel
theorem pn_1 : plainName "com/example/grantwell/grantwell/app/BenchCommand$Report" = true := by first | (simp [plainName, overriddenIn]; done) | decide +kernel
theorem pd1_0 : parseMethodDescriptor "()V" = some ⟨[], none⟩ := by decide +kernel
theorem ef_1 (m : MethodId) (x0 : Addr) (x1 : Int32) (x2 : Int64) (x3 : Int32) (x4 : Int32) (x5 : Int64) (x6 : Int64) (x7 : Int64) : entryFrame m #[(.ref x0), (.int x1), (.long x2), (.int x3), (.int x4), (.long x5), (.long x6), (.long x7)] 12 = mkF m 0 #[.val (.ref x0), .val (.int x1), .val (.long x2), .second, .val (.int x3), .val (.int x4), .val (.long x5), .second, .val (.long x6), .second, .val (.long x7), .second] [] := by first | (simp [entryFrame, mkF, argsToLocals, Value.category]; done) | rfl
theorem d4_0 : decode prog_6_method_4_code 0 = .ok (.aload_n 0, 1) := by decide +kernel
theorem d4_1 : decode prog_6_method_4_code 1 = .ok (.getfield 13, 3) := by decide +kernel
theorem d4_4 : decode prog_6_method_4_code 4 = .ok (.ldc2_w 78, 3) := by decide +kernel
theorem d4_7 : decode prog_6_method_4_code 7 = .ok (.lcmp, 1) := by decide +kernel
theorem d4_8 : decode prog_6_method_4_code 8 = .ok (.ifCond .gt 29, 3) := by decide +kernel
theorem d4_11 : decode prog_6_method_4_code 11 = .ok (.aload_n 0, 1) := by decide +kernel
theorem d4_12 : decode prog_6_method_4_code 12 = .ok (.getfield 23, 3) := by decide +kernel
theorem d4_15 : decode prog_6_method_4_code 15 = .ok (.ldc2_w 46, 3) := by decide +kernel
theorem d4_18 : decode prog_6_method_4_code 18 = .ok (.lcmp, 1) := by decide +kernel
theorem d4_19 : decode prog_6_method_4_code 19 = .ok (.ifCond .gt 18, 3) := by decide +kernel
theorem d4_22 : decode prog_6_method_4_code 22 = .ok (.aload_n 0, 1) := by decide +kernel
theorem d4_23 : decode prog_6_method_4_code 23 = .ok (.getfield 26, 3) := by decide +kernel
theorem d4_26 : decode prog_6_method_4_code 26 = .ok (.ldc2_w 80, 3) := by decide +kernel
theorem d4_29 : decode prog_6_method_4_code 29 = .ok (.lcmp, 1) := by decide +kernel
theorem d4_30 : decode prog_6_method_4_code 30 = .ok (.ifCond .gt 7, 3) := by decide +kernel
theorem d4_33 : decode prog_6_method_4_code 33 = .ok (.iconst 1, 1) := by decide +kernel
theorem d4_34 : decode prog_6_method_4_code 34 = .ok (.goto 4, 3) := by decide +kernel
theorem d4_37 : decode prog_6_method_4_code 37 = .ok (.iconst 0, 1) := by decide +kernel
theorem d4_38 : decode prog_6_method_4_code 38 = .ok (.ireturn, 1) := by decide +kernel
theorem pn_4 : plainName "com/example/grantwell/grantwell/app/BenchCommand$Report" = true := by first | (simp [plainName, overriddenIn]; done) | decide +kernel
theorem ef_4 (m : MethodId) (x0 : Addr) : entryFrame m #[(.ref x0)] 1 = mkF m 0 #[.val (.ref x0)] [] := by first | (simp [entryFrame, mkF, argsToLocals, Value.category]; done) | rfl
theorem pn_0 : plainName "com/example/grantwell/grantwell/app/ReportWithinBoundsPinLaw" = true := by first | (simp [plainName, overriddenIn]; done) | decide +kernel
theorem pd0_0 : parseMethodDescriptor "(IJIIJJJ)V" = some ⟨[.int, .long, .int, .int, .long, .long, .long], none⟩ := by decide +kernel
theorem pd0_1 : parseMethodDescriptor "()Z" = some ⟨[], some .boolean⟩ := by decide +kernel
theorem ef_0 (m : MethodId) (x0 : Int64) (x1 : Int64) (x2 : Int64) (x3 : Int64) (x4 : Int32) (x5 : Int32) : entryFrame m #[(.long x0), (.long x1), (.long x2), (.long x3), (.int x4), (.int x5)] maxLocals = mkF m 0 #[.val (.long x0), .second, .val (.long x1), .second, .val (.long x2), .second, .val (.long x3), .second, .val (.int x4), .val (.int x5), .unset, .unset] [] := by first | (simp [entryFrame, mkF, argsToLocals, Value.category, maxLocals]; done) | rfl
def sp4 (w_loadMillis : Int64) (w_medianTenths : Int64) (w_p99Tenths : Int64) : Int32 := (if (5000 : Int64) < w_loadMillis then (0 : Int32) else (if (200 : Int64) < w_medianTenths then (0 : Int32) else (if (2000 : Int64) < w_p99Tenths then (0 : Int32) else (1 : Int32))))
def sp0 (p1 : Int64) (p2 : Int64) (p3 : Int64) (p4 : Int64) (p5 : Int32) (p6 : Int32) : Int32 := (if (5000 : Int64) < p1 then (if (sp4 p1 p2 p3) = (0 : Int32) then (1 : Int32) else (0 : Int32)) else (if (200 : Int64) < p2 then (if (sp4 p1 p2 p3) = (0 : Int32) then (1 : Int32) else (0 : Int32)) else (if (2000 : Int64) < p3 then (if (sp4 p1 p2 p3) = (0 : Int32) then (1 : Int32) else (0 : Int32)) else (if (sp4 p1 p2 p3) = (1 : Int32) then (1 : Int32) else (0 : Int32)))))
theorem own_law (p1 p2 p3 p4 : Int64) (p5 p6 : Int32) : sp0 p1 p2 p3 p4 p5 p6 = 1 := by
  unfold sp0 sp4
  by_cases h1 : (5000 : Int64) < p1
  · rw [if_pos h1, if_pos h1, if_pos rfl]
  · rw [if_neg h1]
    by_cases h2 : (200 : Int64) < p2
    · rw [if_pos h2, if_neg h1, if_pos h2, if_pos rfl]
    · rw [if_neg h2]
      by_cases h3 : (2000 : Int64) < p3
      · rw [if_pos h3, if_neg h1, if_neg h2, if_pos h3, if_pos rfl]
      · rw [if_neg h3, if_neg h1, if_neg h2, if_neg h3, if_pos rfl]
def Q2 (Z : State) (a1 : Addr) (h0 : Heap) (n0 : Nat) (v : Option Value) (h : Heap) (L : List Loc) : Prop := v = none ∧ Fr n0 L ∧ h = h0
set_option maxRecDepth 65536 in
set_option maxHeartbeats 40000000 in
theorem rm2 (l : Launch) (Z : State) (a0 : Array Value) (hw : ∀ d ∈ tables_1, d.before a0 Z = true) (ws : List Jvm.Cond) (a1 : Addr) (h0 : Heap) (n0 : Nat) (Z0 : n0 ≤ h0.size) :
    MetFree l (⟨"java/lang/Record", "<init>", "()V"⟩ : MethodName) (head1 (Jvm.Cond.code (⟨"java/lang/Record", "<init>", "()V"⟩ : MethodName) jdk_30_method_1_code 1 none :: ws) ({ frames := 1, cells := 0, slots := 0, locals := 12 } : Room)) (fun a U => a = #[(.ref a1)] ∧ Z.Warmed39 U.vm ∧ U.heap = h0) (fun _ _ _ _ _ => True) (fun _ U o U' => ∃ v L, o = .returned v ∧ Q2 Z a1 h0 n0 v U'.heap L ∧ FrameEnd U o U' L ({ frames := 1, cells := 0, slots := 0, locals := 12 } : Room).cells ({ frames := 1, cells := 0, slots := 0, locals := 12 } : Room).slots) := by
  refine MetFree.of_bodySF (plainFor_of_name pn_2) hisR ?_
  intro p e s m args below meth c s₁ Bd hml0 hP hK
  obtain ⟨rfl, hZ, hh⟩ := hP
  have hx := Bd.exec
  have hby := Bd.bytes
  have hml : c.maxLocals = 1 := hml0
  have hown : s.vm.findClass "java/lang/Record" = some m.cls := findClass_of_methodNamed Bd.named
  have hnm := (name_of_methodNamed Bd.named Bd.method).1
  have X0 : Stand p l e ({ frames := 1, cells := 0, slots := 0, locals := 12 } : Room) s m #[(.ref a1)] below meth c s₁ [] 0 0 := Stand.of_body Bd
  have e0 : s₁.heap = h0 := by rw [← hh, Bd.state]; rfl
  have N0 := Fr.nil n0
  have pre0 : ∀ t, Steps p.tables e below (s₁.setTop (mkF m 0 #[.val (.ref a1)] [])) t → Steps p.tables e below (s₁.setTop (entryFrame m #[(.ref a1)] 1)) t := fun t k => castTop (ef_2 m a1) k
  have pre1 : ∀ t, Steps p.tables e below (s₁.setTop (mkF m 0 #[.val (.ref a1)] [])) t → Steps p.tables e below (s₁.setTop (mkF m 0 #[.val (.ref a1)] [])) t := fun t k => k
  have k1 : ∀ t, Steps p.tables e below (s₁.setTop (mkF m 1 #[.val (.ref a1)] [(.ref a1)])) t → Steps p.tables e below (s₁.setTop (mkF m 0 #[.val (.ref a1)] [])) t := fun t kt => pre1 t (by
    show Steps p.tables e below (s₁.setTop (mkF m 0 #[.val (.ref a1)] [])) _
    refine XS.aloadN X0.here hx rfl (hb hby d2_0) rfl rfl ?_
    exact kt)
  obtain ⟨T2, X2, e2, st2⟩ := initO X0 hx hZ hown (hw _ (List.mem_of_getElem? (i := 11) rfl)) (hw _ (List.mem_of_getElem? (i := 12) rfl)) (hw _ (List.mem_of_getElem? (i := 13) rfl)) e0 (g := (mkF m 1 #[.val (.ref a1)] [(.ref a1)])) rfl (by rw [hml]; rfl) rfl (hb hby d2_1) (by decide) (W := 0) (by show 2 * 0 + _ ≤ _; exact Nat.le_of_eq rfl) (by decide)
  obtain ⟨fs, hr, hrun, hended, hW, hsame⟩ := X2.leave (v := none) (fun _ => rfl)
  refine ⟨_, _, pre0 _ (k1 _ ?_), hrun, hended, _, _, rfl, ?_, ⟨_, rfl⟩, hW, hsame.mono (by decide) (by decide)⟩
  · show Steps p.tables e below (s₁.setTop (mkF m 1 #[.val (.ref a1)] [(.ref a1)])) _
    refine st2 _ ?_
    show Steps p.tables e below (T2.setTop (mkF m 4 #[.val (.ref a1)] [])) _
    exact X2.returnOut hx Bd.returns (hb hby d2_4) hr
  · show Q2 Z a1 h0 n0 _ T2.heap _
    rw [e2]
    exact ⟨rfl, N0, rfl⟩
def Q1 (Z : State) (a1 : Addr) (p2 : Int32) (p3 : Int64) (p4 : Int32) (p5 : Int32) (p6 : Int64) (p7 : Int64) (p8 : Int64) (h0 : Heap) (n0 : Nat) (v : Option Value) (h : Heap) (L : List Loc) : Prop := v = none ∧ Fr n0 L ∧ Keep h0 h [a1] ∧ Exa Z h a1 "com/example/grantwell/grantwell/app/BenchCommand$Report" ∧ Fld Z h a1 "com/example/grantwell/grantwell/app/BenchCommand$Report" "grants" "I" (.int p2) ∧ Fld Z h a1 "com/example/grantwell/grantwell/app/BenchCommand$Report" "loadMillis" "J" (.long p3) ∧ Fld Z h a1 "com/example/grantwell/grantwell/app/BenchCommand$Report" "decisions" "I" (.int p4) ∧ Fld Z h a1 "com/example/grantwell/grantwell/app/BenchCommand$Report" "allowed" "I" (.int p5) ∧ Fld Z h a1 "com/example/grantwell/grantwell/app/BenchCommand$Report" "medianTenths" "J" (.long p6) ∧ Fld Z h a1 "com/example/grantwell/grantwell/app/BenchCommand$Report" "p99Tenths" "J" (.long p7) ∧ Fld Z h a1 "com/example/grantwell/grantwell/app/BenchCommand$Report" "maxTenths" "J" (.long p8)
set_option maxRecDepth 65536 in
set_option maxHeartbeats 40000000 in
theorem rm1 (l : Launch) (Z : State) (a0 : Array Value) (hw : ∀ d ∈ tables_1, d.before a0 Z = true) (ws : List Jvm.Cond) (a1 : Addr) (p2 : Int32) (p3 : Int64) (p4 : Int32) (p5 : Int32) (p6 : Int64) (p7 : Int64) (p8 : Int64) (h0 : Heap) (n0 : Nat) (Z0 : n0 ≤ h0.size) (E0 : Exa Z h0 a1 "com/example/grantwell/grantwell/app/BenchCommand$Report") (F0_grants : Fld Z h0 a1 "com/example/grantwell/grantwell/app/BenchCommand$Report" "grants" "I" (.int (0 : Int32))) (F0_loadMillis : Fld Z h0 a1 "com/example/grantwell/grantwell/app/BenchCommand$Report" "loadMillis" "J" (.long (0 : Int64))) (F0_decisions : Fld Z h0 a1 "com/example/grantwell/grantwell/app/BenchCommand$Report" "decisions" "I" (.int (0 : Int32))) (F0_allowed : Fld Z h0 a1 "com/example/grantwell/grantwell/app/BenchCommand$Report" "allowed" "I" (.int (0 : Int32))) (F0_medianTenths : Fld Z h0 a1 "com/example/grantwell/grantwell/app/BenchCommand$Report" "medianTenths" "J" (.long (0 : Int64))) (F0_p99Tenths : Fld Z h0 a1 "com/example/grantwell/grantwell/app/BenchCommand$Report" "p99Tenths" "J" (.long (0 : Int64))) (F0_maxTenths : Fld Z h0 a1 "com/example/grantwell/grantwell/app/BenchCommand$Report" "maxTenths" "J" (.long (0 : Int64))) (g_a1 : n0 ≤ a1) :
    MetFree l (⟨"com/example/grantwell/grantwell/app/BenchCommand$Report", "<init>", "(IJIIJJJ)V"⟩ : MethodName) (head1 (Jvm.Cond.code (⟨"com/example/grantwell/grantwell/app/BenchCommand$Report", "<init>", "(IJIIJJJ)V"⟩ : MethodName) prog_6_method_1_code 12 none :: ws) ({ frames := 2, cells := 0, slots := 0, locals := 24 } : Room)) (fun a U => a = #[(.ref a1), (.int p2), (.long p3), (.int p4), (.int p5), (.long p6), (.long p7), (.long p8)] ∧ Z.Warmed39 U.vm ∧ U.heap = h0) (fun _ _ _ _ _ => True) (fun _ U o U' => ∃ v L, o = .returned v ∧ Q1 Z a1 p2 p3 p4 p5 p6 p7 p8 h0 n0 v U'.heap L ∧ FrameEnd U o U' L ({ frames := 2, cells := 0, slots := 0, locals := 24 } : Room).cells ({ frames := 2, cells := 0, slots := 0, locals := 24 } : Room).slots) := by
  refine MetFree.of_bodySF (plainFor_of_name pn_1) hisR ?_
  intro p e s m args below meth c s₁ Bd hml0 hP hK
  obtain ⟨rfl, hZ, hh⟩ := hP
  have hx := Bd.exec
  have hby := Bd.bytes
  have hml : c.maxLocals = 12 := hml0
  have hown : s.vm.findClass "com/example/grantwell/grantwell/app/BenchCommand$Report" = some m.cls := findClass_of_methodNamed Bd.named
  have hnm := (name_of_methodNamed Bd.named Bd.method).1
  have X0 : Stand p l e ({ frames := 2, cells := 0, slots := 0, locals := 24 } : Room) s m #[(.ref a1), (.int p2), (.long p3), (.int p4), (.int p5), (.long p6), (.long p7), (.long p8)] below meth c s₁ [] 0 0 := Stand.of_body Bd
  have e0 : s₁.heap = h0 := by rw [← hh, Bd.state]; rfl
  have N0 := Fr.nil n0
  have pre0 : ∀ t, Steps p.tables e below (s₁.setTop (mkF m 0 #[.val (.ref a1), .val (.int p2), .val (.long p3), .second, .val (.int p4), .val (.int p5), .val (.long p6), .second, .val (.long p7), .second, .val (.long p8), .second] [])) t → Steps p.tables e below (s₁.setTop (entryFrame m #[(.ref a1), (.int p2), (.long p3), (.int p4), (.int p5), (.long p6), (.long p7), (.long p8)] 12)) t := fun t k => castTop (ef_1 m a1 p2 p3 p4 p5 p6 p7 p8) k
  have pre1 : ∀ t, Steps p.tables e below (s₁.setTop (mkF m 0 #[.val (.ref a1), .val (.int p2), .val (.long p3), .second, .val (.int p4), .val (.int p5), .val (.long p6), .second, .val (.long p7), .second, .val (.long p8), .second] [])) t → Steps p.tables e below (s₁.setTop (mkF m 0 #[.val (.ref a1), .val (.int p2), .val (.long p3), .second, .val (.int p4), .val (.int p5), .val (.long p6), .second, .val (.long p7), .second, .val (.long p8), .second] [])) t := fun t k => k
  have k1 : ∀ t, Steps p.tables e below (s₁.setTop (mkF m 1 #[.val (.ref a1), .val (.int p2), .val (.long p3), .second, .val (.int p4), .val (.int p5), .val (.long p6), .second, .val (.long p7), .second, .val (.long p8), .second] [(.ref a1)])) t → Steps p.tables e below (s₁.setTop (mkF m 0 #[.val (.ref a1), .val (.int p2), .val (.long p3), .second, .val (.int p4), .val (.int p5), .val (.long p6), .second, .val (.long p7), .second, .val (.long p8), .second] [])) t := fun t kt => pre1 t (by
    show Steps p.tables e below (s₁.setTop (mkF m 0 #[.val (.ref a1), .val (.int p2), .val (.long p3), .second, .val (.int p4), .val (.int p5), .val (.long p6), .second, .val (.long p7), .second, .val (.long p8), .second] [])) _
    refine XS.aloadN X0.here hx rfl (hb hby d1_0) rfl rfl ?_
    exact kt)
  obtain ⟨_, _, ⟨T2, L2, k2', n2⟩, -, X2, ⟨Lc2, hQ2, l2, y2, z2⟩, st2⟩ := X0.specialBack hx (y := (⟨"java/lang/Record", "<init>", "()V"⟩ : MethodName)) rfl hown (mvT hZ (hw _ (List.mem_of_getElem? (i := 6) rfl))) (mvT hZ (hw _ (List.mem_of_getElem? (i := 7) rfl))) (mvT hZ (hw _ (List.mem_of_getElem? (i := 10) rfl))) (by decide) (backOf (W := 0) (rm2 l Z a0 hw [] a1 h0 n0 Z0) hZ (hw _ (List.mem_of_getElem? (i := 10) rfl)) (hw _ (List.mem_of_getElem? (i := 9) rfl)) (by decide) (by decide)) (g := (mkF m 1 #[.val (.ref a1), .val (.int p2), .val (.long p3), .second, .val (.int p4), .val (.int p5), .val (.long p6), .second, .val (.long p7), .second, .val (.long p8), .second] [(.ref a1)])) rfl (by rw [hml]; rfl) (Steps.refl _) (a := a1) (argsL := []) (rest := []) (lenOf pd1_0 rfl) rfl (by show 2 * 0 + _ ≤ _; exact Nat.le_of_eq rfl) (hb hby d1_1) (fun _ _ => ⟨rfl, e0, (by decide : 0 + 0 ≤ _), (by decide : 0 + 0 ≤ _)⟩)
  dsimp only [Pt.U, Pt.locs, Pt.cells, Pt.slots] at X2 l2 y2 z2 st2 hQ2
  subst l2 y2 z2
  obtain ⟨rfl, N2q, hh2⟩ := hQ2
  have N2 := Fr.app N0 N2q
  have k3 : ∀ t, Steps p.tables e below (T2.setTop (mkF m 6 #[.val (.ref a1), .val (.int p2), .val (.long p3), .second, .val (.int p4), .val (.int p5), .val (.long p6), .second, .val (.long p7), .second, .val (.long p8), .second] [(.int p2), (.ref a1)])) t → Steps p.tables e below (s₁.setTop (mkF m 0 #[.val (.ref a1), .val (.int p2), .val (.long p3), .second, .val (.int p4), .val (.int p5), .val (.long p6), .second, .val (.long p7), .second, .val (.long p8), .second] [])) t := fun t kt => k1 t (by
    show Steps p.tables e below (s₁.setTop (mkF m 1 #[.val (.ref a1), .val (.int p2), .val (.long p3), .second, .val (.int p4), .val (.int p5), .val (.long p6), .second, .val (.long p7), .second, .val (.long p8), .second] [(.ref a1)])) _
    refine st2.trans ?_
    show Steps p.tables e below (T2.setTop (mkF m 4 #[.val (.ref a1), .val (.int p2), .val (.long p3), .second, .val (.int p4), .val (.int p5), .val (.long p6), .second, .val (.long p7), .second, .val (.long p8), .second] [])) _
    refine XS.aloadN X2.here hx rfl (hb hby d1_4) rfl rfl ?_
    show Steps p.tables e below (T2.setTop (mkF m 5 #[.val (.ref a1), .val (.int p2), .val (.long p3), .second, .val (.int p4), .val (.int p5), .val (.long p6), .second, .val (.long p7), .second, .val (.long p8), .second] [(.ref a1)])) _
    refine XS.iloadN X2.here hx rfl (hb hby d1_5) rfl ?_
    exact kt)
  obtain ⟨T4, h4, X4, e4, W4, st4⟩ := putF X2 hx hZ hown (host := "") (Or.inl (hw _ (List.mem_of_getElem? (i := 14) rfl))) Via.refl hh2 F0_grants E0 (Or.inr ⟨(hw _ (List.mem_of_getElem? (i := 15) rfl)), rfl, hnm⟩) (hw _ (List.mem_of_getElem? (i := 1) rfl)) (ty := .int) (by decide) rfl rfl (g := (mkF m 6 #[.val (.ref a1), .val (.int p2), .val (.long p3), .second, .val (.int p4), .val (.int p5), .val (.long p6), .second, .val (.long p7), .second, .val (.long p8), .second] [(.int p2), (.ref a1)])) rfl rfl (hb hby d1_6)
  have Fw4 := F0_grants.same W4
  have f5 := E0.wr W4
  have f6 := F0_loadMillis.other W4 (Or.inr (slot_ne (Or.inr (hw _ (List.mem_of_getElem? (i := 17) rfl))) (Or.inr (hw _ (List.mem_of_getElem? (i := 15) rfl))) (by decide) (t := .long) (t' := .int) (by decide) (by decide)))
  have f7 := F0_decisions.other W4 (Or.inr (slot_ne (Or.inr (hw _ (List.mem_of_getElem? (i := 19) rfl))) (Or.inr (hw _ (List.mem_of_getElem? (i := 15) rfl))) (by decide) (t := .int) (t' := .int) (by decide) (by decide)))
  have f8 := F0_allowed.other W4 (Or.inr (slot_ne (Or.inr (hw _ (List.mem_of_getElem? (i := 21) rfl))) (Or.inr (hw _ (List.mem_of_getElem? (i := 15) rfl))) (by decide) (t := .int) (t' := .int) (by decide) (by decide)))
  have f9 := F0_medianTenths.other W4 (Or.inr (slot_ne (Or.inr (hw _ (List.mem_of_getElem? (i := 23) rfl))) (Or.inr (hw _ (List.mem_of_getElem? (i := 15) rfl))) (by decide) (t := .long) (t' := .int) (by decide) (by decide)))
  have f10 := F0_p99Tenths.other W4 (Or.inr (slot_ne (Or.inr (hw _ (List.mem_of_getElem? (i := 25) rfl))) (Or.inr (hw _ (List.mem_of_getElem? (i := 15) rfl))) (by decide) (t := .long) (t' := .int) (by decide) (by decide)))
  have f11 := F0_maxTenths.other W4 (Or.inr (slot_ne (Or.inr (hw _ (List.mem_of_getElem? (i := 27) rfl))) (Or.inr (hw _ (List.mem_of_getElem? (i := 15) rfl))) (by decide) (t := .long) (t' := .int) (by decide) (by decide)))
  have K4 := (Keep.refl h0 [a1]).wr W4 (Or.inl (List.mem_of_getElem? (i := 0) rfl))
  have N4 := Fr.snoc X4 N2 g_a1
  have Z4 : n0 ≤ h4.size := Nat.le_trans Z0 (Keep.of_wr W4).1
  have k12 : ∀ t, Steps p.tables e below (T4.setTop (mkF m 11 #[.val (.ref a1), .val (.int p2), .val (.long p3), .second, .val (.int p4), .val (.int p5), .val (.long p6), .second, .val (.long p7), .second, .val (.long p8), .second] [(.long p3), (.ref a1)])) t → Steps p.tables e below (s₁.setTop (mkF m 0 #[.val (.ref a1), .val (.int p2), .val (.long p3), .second, .val (.int p4), .val (.int p5), .val (.long p6), .second, .val (.long p7), .second, .val (.long p8), .second] [])) t := fun t kt => k3 t (by
    show Steps p.tables e below (T2.setTop (mkF m 6 #[.val (.ref a1), .val (.int p2), .val (.long p3), .second, .val (.int p4), .val (.int p5), .val (.long p6), .second, .val (.long p7), .second, .val (.long p8), .second] [(.int p2), (.ref a1)])) _
    refine st4 _ ?_
    show Steps p.tables e below (T4.setTop (mkF m 9 #[.val (.ref a1), .val (.int p2), .val (.long p3), .second, .val (.int p4), .val (.int p5), .val (.long p6), .second, .val (.long p7), .second, .val (.long p8), .second] [])) _
    refine XS.aloadN X4.here hx rfl (hb hby d1_9) rfl rfl ?_
    show Steps p.tables e below (T4.setTop (mkF m 10 #[.val (.ref a1), .val (.int p2), .val (.long p3), .second, .val (.int p4), .val (.int p5), .val (.long p6), .second, .val (.long p7), .second, .val (.long p8), .second] [(.ref a1)])) _
    refine XS.lloadN X4.here hx rfl (hb hby d1_10) rfl ?_
    exact kt)
  obtain ⟨T13, h13, X13, e13, W13, st13⟩ := putF X4 hx hZ hown (host := "") (Or.inl (hw _ (List.mem_of_getElem? (i := 16) rfl))) Via.refl e4 f6 f5 (Or.inr ⟨(hw _ (List.mem_of_getElem? (i := 17) rfl)), rfl, hnm⟩) (hw _ (List.mem_of_getElem? (i := 1) rfl)) (ty := .long) (by decide) rfl rfl (g := (mkF m 11 #[.val (.ref a1), .val (.int p2), .val (.long p3), .second, .val (.int p4), .val (.int p5), .val (.long p6), .second, .val (.long p7), .second, .val (.long p8), .second] [(.long p3), (.ref a1)])) rfl rfl (hb hby d1_11)
  have Fw13 := f6.same W13
  have f14 := f5.wr W13
  have f15 := Fw4.other W13 (Or.inr (slot_ne (Or.inr (hw _ (List.mem_of_getElem? (i := 15) rfl))) (Or.inr (hw _ (List.mem_of_getElem? (i := 17) rfl))) (by decide) (t := .int) (t' := .long) (by decide) (by decide)))
  have f16 := f7.other W13 (Or.inr (slot_ne (Or.inr (hw _ (List.mem_of_getElem? (i := 19) rfl))) (Or.inr (hw _ (List.mem_of_getElem? (i := 17) rfl))) (by decide) (t := .int) (t' := .long) (by decide) (by decide)))
  have f17 := f8.other W13 (Or.inr (slot_ne (Or.inr (hw _ (List.mem_of_getElem? (i := 21) rfl))) (Or.inr (hw _ (List.mem_of_getElem? (i := 17) rfl))) (by decide) (t := .int) (t' := .long) (by decide) (by decide)))
  have f18 := f9.other W13 (Or.inr (slot_ne (Or.inr (hw _ (List.mem_of_getElem? (i := 23) rfl))) (Or.inr (hw _ (List.mem_of_getElem? (i := 17) rfl))) (by decide) (t := .long) (t' := .long) (by decide) (by decide)))
  have f19 := f10.other W13 (Or.inr (slot_ne (Or.inr (hw _ (List.mem_of_getElem? (i := 25) rfl))) (Or.inr (hw _ (List.mem_of_getElem? (i := 17) rfl))) (by decide) (t := .long) (t' := .long) (by decide) (by decide)))
  have f20 := f11.other W13 (Or.inr (slot_ne (Or.inr (hw _ (List.mem_of_getElem? (i := 27) rfl))) (Or.inr (hw _ (List.mem_of_getElem? (i := 17) rfl))) (by decide) (t := .long) (t' := .long) (by decide) (by decide)))
  have K13 := K4.wr W13 (Or.inl (List.mem_of_getElem? (i := 0) rfl))
  have N13 := Fr.snoc X13 N4 g_a1
  have Z13 : n0 ≤ h13.size := Nat.le_trans Z4 (Keep.of_wr W13).1
  have k21 : ∀ t, Steps p.tables e below (T13.setTop (mkF m 17 #[.val (.ref a1), .val (.int p2), .val (.long p3), .second, .val (.int p4), .val (.int p5), .val (.long p6), .second, .val (.long p7), .second, .val (.long p8), .second] [(.int p4), (.ref a1)])) t → Steps p.tables e below (s₁.setTop (mkF m 0 #[.val (.ref a1), .val (.int p2), .val (.long p3), .second, .val (.int p4), .val (.int p5), .val (.long p6), .second, .val (.long p7), .second, .val (.long p8), .second] [])) t := fun t kt => k12 t (by
    show Steps p.tables e below (T4.setTop (mkF m 11 #[.val (.ref a1), .val (.int p2), .val (.long p3), .second, .val (.int p4), .val (.int p5), .val (.long p6), .second, .val (.long p7), .second, .val (.long p8), .second] [(.long p3), (.ref a1)])) _
    refine st13 _ ?_
    show Steps p.tables e below (T13.setTop (mkF m 14 #[.val (.ref a1), .val (.int p2), .val (.long p3), .second, .val (.int p4), .val (.int p5), .val (.long p6), .second, .val (.long p7), .second, .val (.long p8), .second] [])) _
    refine XS.aloadN X13.here hx rfl (hb hby d1_14) rfl rfl ?_
    show Steps p.tables e below (T13.setTop (mkF m 15 #[.val (.ref a1), .val (.int p2), .val (.long p3), .second, .val (.int p4), .val (.int p5), .val (.long p6), .second, .val (.long p7), .second, .val (.long p8), .second] [(.ref a1)])) _
    refine XS.iload X13.here hx rfl (hb hby d1_15) rfl ?_
    exact kt)
  obtain ⟨T22, h22, X22, e22, W22, st22⟩ := putF X13 hx hZ hown (host := "") (Or.inl (hw _ (List.mem_of_getElem? (i := 18) rfl))) Via.refl e13 f16 f14 (Or.inr ⟨(hw _ (List.mem_of_getElem? (i := 19) rfl)), rfl, hnm⟩) (hw _ (List.mem_of_getElem? (i := 1) rfl)) (ty := .int) (by decide) rfl rfl (g := (mkF m 17 #[.val (.ref a1), .val (.int p2), .val (.long p3), .second, .val (.int p4), .val (.int p5), .val (.long p6), .second, .val (.long p7), .second, .val (.long p8), .second] [(.int p4), (.ref a1)])) rfl rfl (hb hby d1_17)
  have Fw22 := f16.same W22
  have f23 := f14.wr W22
  have f24 := f15.other W22 (Or.inr (slot_ne (Or.inr (hw _ (List.mem_of_getElem? (i := 15) rfl))) (Or.inr (hw _ (List.mem_of_getElem? (i := 19) rfl))) (by decide) (t := .int) (t' := .int) (by decide) (by decide)))
  have f25 := Fw13.other W22 (Or.inr (slot_ne (Or.inr (hw _ (List.mem_of_getElem? (i := 17) rfl))) (Or.inr (hw _ (List.mem_of_getElem? (i := 19) rfl))) (by decide) (t := .long) (t' := .int) (by decide) (by decide)))
  have f26 := f17.other W22 (Or.inr (slot_ne (Or.inr (hw _ (List.mem_of_getElem? (i := 21) rfl))) (Or.inr (hw _ (List.mem_of_getElem? (i := 19) rfl))) (by decide) (t := .int) (t' := .int) (by decide) (by decide)))
  have f27 := f18.other W22 (Or.inr (slot_ne (Or.inr (hw _ (List.mem_of_getElem? (i := 23) rfl))) (Or.inr (hw _ (List.mem_of_getElem? (i := 19) rfl))) (by decide) (t := .long) (t' := .int) (by decide) (by decide)))
  have f28 := f19.other W22 (Or.inr (slot_ne (Or.inr (hw _ (List.mem_of_getElem? (i := 25) rfl))) (Or.inr (hw _ (List.mem_of_getElem? (i := 19) rfl))) (by decide) (t := .long) (t' := .int) (by decide) (by decide)))
  have f29 := f20.other W22 (Or.inr (slot_ne (Or.inr (hw _ (List.mem_of_getElem? (i := 27) rfl))) (Or.inr (hw _ (List.mem_of_getElem? (i := 19) rfl))) (by decide) (t := .long) (t' := .int) (by decide) (by decide)))
  have K22 := K13.wr W22 (Or.inl (List.mem_of_getElem? (i := 0) rfl))
  have N22 := Fr.snoc X22 N13 g_a1
  have Z22 : n0 ≤ h22.size := Nat.le_trans Z13 (Keep.of_wr W22).1
  have k30 : ∀ t, Steps p.tables e below (T22.setTop (mkF m 23 #[.val (.ref a1), .val (.int p2), .val (.long p3), .second, .val (.int p4), .val (.int p5), .val (.long p6), .second, .val (.long p7), .second, .val (.long p8), .second] [(.int p5), (.ref a1)])) t → Steps p.tables e below (s₁.setTop (mkF m 0 #[.val (.ref a1), .val (.int p2), .val (.long p3), .second, .val (.int p4), .val (.int p5), .val (.long p6), .second, .val (.long p7), .second, .val (.long p8), .second] [])) t := fun t kt => k21 t (by
    show Steps p.tables e below (T13.setTop (mkF m 17 #[.val (.ref a1), .val (.int p2), .val (.long p3), .second, .val (.int p4), .val (.int p5), .val (.long p6), .second, .val (.long p7), .second, .val (.long p8), .second] [(.int p4), (.ref a1)])) _
    refine st22 _ ?_
    show Steps p.tables e below (T22.setTop (mkF m 20 #[.val (.ref a1), .val (.int p2), .val (.long p3), .second, .val (.int p4), .val (.int p5), .val (.long p6), .second, .val (.long p7), .second, .val (.long p8), .second] [])) _
    refine XS.aloadN X22.here hx rfl (hb hby d1_20) rfl rfl ?_
    show Steps p.tables e below (T22.setTop (mkF m 21 #[.val (.ref a1), .val (.int p2), .val (.long p3), .second, .val (.int p4), .val (.int p5), .val (.long p6), .second, .val (.long p7), .second, .val (.long p8), .second] [(.ref a1)])) _
    refine XS.iload X22.here hx rfl (hb hby d1_21) rfl ?_
    exact kt)
  obtain ⟨T31, h31, X31, e31, W31, st31⟩ := putF X22 hx hZ hown (host := "") (Or.inl (hw _ (List.mem_of_getElem? (i := 20) rfl))) Via.refl e22 f26 f23 (Or.inr ⟨(hw _ (List.mem_of_getElem? (i := 21) rfl)), rfl, hnm⟩) (hw _ (List.mem_of_getElem? (i := 1) rfl)) (ty := .int) (by decide) rfl rfl (g := (mkF m 23 #[.val (.ref a1), .val (.int p2), .val (.long p3), .second, .val (.int p4), .val (.int p5), .val (.long p6), .second, .val (.long p7), .second, .val (.long p8), .second] [(.int p5), (.ref a1)])) rfl rfl (hb hby d1_23)
  have Fw31 := f26.same W31
  have f32 := f23.wr W31
  have f33 := f24.other W31 (Or.inr (slot_ne (Or.inr (hw _ (List.mem_of_getElem? (i := 15) rfl))) (Or.inr (hw _ (List.mem_of_getElem? (i := 21) rfl))) (by decide) (t := .int) (t' := .int) (by decide) (by decide)))
  have f34 := f25.other W31 (Or.inr (slot_ne (Or.inr (hw _ (List.mem_of_getElem? (i := 17) rfl))) (Or.inr (hw _ (List.mem_of_getElem? (i := 21) rfl))) (by decide) (t := .long) (t' := .int) (by decide) (by decide)))
  have f35 := Fw22.other W31 (Or.inr (slot_ne (Or.inr (hw _ (List.mem_of_getElem? (i := 19) rfl))) (Or.inr (hw _ (List.mem_of_getElem? (i := 21) rfl))) (by decide) (t := .int) (t' := .int) (by decide) (by decide)))
  have f36 := f27.other W31 (Or.inr (slot_ne (Or.inr (hw _ (List.mem_of_getElem? (i := 23) rfl))) (Or.inr (hw _ (List.mem_of_getElem? (i := 21) rfl))) (by decide) (t := .long) (t' := .int) (by decide) (by decide)))
  have f37 := f28.other W31 (Or.inr (slot_ne (Or.inr (hw _ (List.mem_of_getElem? (i := 25) rfl))) (Or.inr (hw _ (List.mem_of_getElem? (i := 21) rfl))) (by decide) (t := .long) (t' := .int) (by decide) (by decide)))
  have f38 := f29.other W31 (Or.inr (slot_ne (Or.inr (hw _ (List.mem_of_getElem? (i := 27) rfl))) (Or.inr (hw _ (List.mem_of_getElem? (i := 21) rfl))) (by decide) (t := .long) (t' := .int) (by decide) (by decide)))
  have K31 := K22.wr W31 (Or.inl (List.mem_of_getElem? (i := 0) rfl))
  have N31 := Fr.snoc X31 N22 g_a1
  have Z31 : n0 ≤ h31.size := Nat.le_trans Z22 (Keep.of_wr W31).1
  have k39 : ∀ t, Steps p.tables e below (T31.setTop (mkF m 29 #[.val (.ref a1), .val (.int p2), .val (.long p3), .second, .val (.int p4), .val (.int p5), .val (.long p6), .second, .val (.long p7), .second, .val (.long p8), .second] [(.long p6), (.ref a1)])) t → Steps p.tables e below (s₁.setTop (mkF m 0 #[.val (.ref a1), .val (.int p2), .val (.long p3), .second, .val (.int p4), .val (.int p5), .val (.long p6), .second, .val (.long p7), .second, .val (.long p8), .second] [])) t := fun t kt => k30 t (by
    show Steps p.tables e below (T22.setTop (mkF m 23 #[.val (.ref a1), .val (.int p2), .val (.long p3), .second, .val (.int p4), .val (.int p5), .val (.long p6), .second, .val (.long p7), .second, .val (.long p8), .second] [(.int p5), (.ref a1)])) _
    refine st31 _ ?_
    show Steps p.tables e below (T31.setTop (mkF m 26 #[.val (.ref a1), .val (.int p2), .val (.long p3), .second, .val (.int p4), .val (.int p5), .val (.long p6), .second, .val (.long p7), .second, .val (.long p8), .second] [])) _
    refine XS.aloadN X31.here hx rfl (hb hby d1_26) rfl rfl ?_
    show Steps p.tables e below (T31.setTop (mkF m 27 #[.val (.ref a1), .val (.int p2), .val (.long p3), .second, .val (.int p4), .val (.int p5), .val (.long p6), .second, .val (.long p7), .second, .val (.long p8), .second] [(.ref a1)])) _
    refine XS.lload X31.here hx rfl (hb hby d1_27) rfl ?_
    exact kt)
  obtain ⟨T40, h40, X40, e40, W40, st40⟩ := putF X31 hx hZ hown (host := "") (Or.inl (hw _ (List.mem_of_getElem? (i := 22) rfl))) Via.refl e31 f36 f32 (Or.inr ⟨(hw _ (List.mem_of_getElem? (i := 23) rfl)), rfl, hnm⟩) (hw _ (List.mem_of_getElem? (i := 1) rfl)) (ty := .long) (by decide) rfl rfl (g := (mkF m 29 #[.val (.ref a1), .val (.int p2), .val (.long p3), .second, .val (.int p4), .val (.int p5), .val (.long p6), .second, .val (.long p7), .second, .val (.long p8), .second] [(.long p6), (.ref a1)])) rfl rfl (hb hby d1_29)
  have Fw40 := f36.same W40
  have f41 := f32.wr W40
  have f42 := f33.other W40 (Or.inr (slot_ne (Or.inr (hw _ (List.mem_of_getElem? (i := 15) rfl))) (Or.inr (hw _ (List.mem_of_getElem? (i := 23) rfl))) (by decide) (t := .int) (t' := .long) (by decide) (by decide)))
  have f43 := f34.other W40 (Or.inr (slot_ne (Or.inr (hw _ (List.mem_of_getElem? (i := 17) rfl))) (Or.inr (hw _ (List.mem_of_getElem? (i := 23) rfl))) (by decide) (t := .long) (t' := .long) (by decide) (by decide)))
  have f44 := f35.other W40 (Or.inr (slot_ne (Or.inr (hw _ (List.mem_of_getElem? (i := 19) rfl))) (Or.inr (hw _ (List.mem_of_getElem? (i := 23) rfl))) (by decide) (t := .int) (t' := .long) (by decide) (by decide)))
  have f45 := Fw31.other W40 (Or.inr (slot_ne (Or.inr (hw _ (List.mem_of_getElem? (i := 21) rfl))) (Or.inr (hw _ (List.mem_of_getElem? (i := 23) rfl))) (by decide) (t := .int) (t' := .long) (by decide) (by decide)))
  have f46 := f37.other W40 (Or.inr (slot_ne (Or.inr (hw _ (List.mem_of_getElem? (i := 25) rfl))) (Or.inr (hw _ (List.mem_of_getElem? (i := 23) rfl))) (by decide) (t := .long) (t' := .long) (by decide) (by decide)))
  have f47 := f38.other W40 (Or.inr (slot_ne (Or.inr (hw _ (List.mem_of_getElem? (i := 27) rfl))) (Or.inr (hw _ (List.mem_of_getElem? (i := 23) rfl))) (by decide) (t := .long) (t' := .long) (by decide) (by decide)))
  have K40 := K31.wr W40 (Or.inl (List.mem_of_getElem? (i := 0) rfl))
  have N40 := Fr.snoc X40 N31 g_a1
  have Z40 : n0 ≤ h40.size := Nat.le_trans Z31 (Keep.of_wr W40).1
  have k48 : ∀ t, Steps p.tables e below (T40.setTop (mkF m 35 #[.val (.ref a1), .val (.int p2), .val (.long p3), .second, .val (.int p4), .val (.int p5), .val (.long p6), .second, .val (.long p7), .second, .val (.long p8), .second] [(.long p7), (.ref a1)])) t → Steps p.tables e below (s₁.setTop (mkF m 0 #[.val (.ref a1), .val (.int p2), .val (.long p3), .second, .val (.int p4), .val (.int p5), .val (.long p6), .second, .val (.long p7), .second, .val (.long p8), .second] [])) t := fun t kt => k39 t (by
    show Steps p.tables e below (T31.setTop (mkF m 29 #[.val (.ref a1), .val (.int p2), .val (.long p3), .second, .val (.int p4), .val (.int p5), .val (.long p6), .second, .val (.long p7), .second, .val (.long p8), .second] [(.long p6), (.ref a1)])) _
    refine st40 _ ?_
    show Steps p.tables e below (T40.setTop (mkF m 32 #[.val (.ref a1), .val (.int p2), .val (.long p3), .second, .val (.int p4), .val (.int p5), .val (.long p6), .second, .val (.long p7), .second, .val (.long p8), .second] [])) _
    refine XS.aloadN X40.here hx rfl (hb hby d1_32) rfl rfl ?_
    show Steps p.tables e below (T40.setTop (mkF m 33 #[.val (.ref a1), .val (.int p2), .val (.long p3), .second, .val (.int p4), .val (.int p5), .val (.long p6), .second, .val (.long p7), .second, .val (.long p8), .second] [(.ref a1)])) _
    refine XS.lload X40.here hx rfl (hb hby d1_33) rfl ?_
    exact kt)
  obtain ⟨T49, h49, X49, e49, W49, st49⟩ := putF X40 hx hZ hown (host := "") (Or.inl (hw _ (List.mem_of_getElem? (i := 24) rfl))) Via.refl e40 f46 f41 (Or.inr ⟨(hw _ (List.mem_of_getElem? (i := 25) rfl)), rfl, hnm⟩) (hw _ (List.mem_of_getElem? (i := 1) rfl)) (ty := .long) (by decide) rfl rfl (g := (mkF m 35 #[.val (.ref a1), .val (.int p2), .val (.long p3), .second, .val (.int p4), .val (.int p5), .val (.long p6), .second, .val (.long p7), .second, .val (.long p8), .second] [(.long p7), (.ref a1)])) rfl rfl (hb hby d1_35)
  have Fw49 := f46.same W49
  have f50 := f41.wr W49
  have f51 := f42.other W49 (Or.inr (slot_ne (Or.inr (hw _ (List.mem_of_getElem? (i := 15) rfl))) (Or.inr (hw _ (List.mem_of_getElem? (i := 25) rfl))) (by decide) (t := .int) (t' := .long) (by decide) (by decide)))
  have f52 := f43.other W49 (Or.inr (slot_ne (Or.inr (hw _ (List.mem_of_getElem? (i := 17) rfl))) (Or.inr (hw _ (List.mem_of_getElem? (i := 25) rfl))) (by decide) (t := .long) (t' := .long) (by decide) (by decide)))
  have f53 := f44.other W49 (Or.inr (slot_ne (Or.inr (hw _ (List.mem_of_getElem? (i := 19) rfl))) (Or.inr (hw _ (List.mem_of_getElem? (i := 25) rfl))) (by decide) (t := .int) (t' := .long) (by decide) (by decide)))
  have f54 := f45.other W49 (Or.inr (slot_ne (Or.inr (hw _ (List.mem_of_getElem? (i := 21) rfl))) (Or.inr (hw _ (List.mem_of_getElem? (i := 25) rfl))) (by decide) (t := .int) (t' := .long) (by decide) (by decide)))
  have f55 := Fw40.other W49 (Or.inr (slot_ne (Or.inr (hw _ (List.mem_of_getElem? (i := 23) rfl))) (Or.inr (hw _ (List.mem_of_getElem? (i := 25) rfl))) (by decide) (t := .long) (t' := .long) (by decide) (by decide)))
  have f56 := f47.other W49 (Or.inr (slot_ne (Or.inr (hw _ (List.mem_of_getElem? (i := 27) rfl))) (Or.inr (hw _ (List.mem_of_getElem? (i := 25) rfl))) (by decide) (t := .long) (t' := .long) (by decide) (by decide)))
  have K49 := K40.wr W49 (Or.inl (List.mem_of_getElem? (i := 0) rfl))
  have N49 := Fr.snoc X49 N40 g_a1
  have Z49 : n0 ≤ h49.size := Nat.le_trans Z40 (Keep.of_wr W49).1
  have k57 : ∀ t, Steps p.tables e below (T49.setTop (mkF m 41 #[.val (.ref a1), .val (.int p2), .val (.long p3), .second, .val (.int p4), .val (.int p5), .val (.long p6), .second, .val (.long p7), .second, .val (.long p8), .second] [(.long p8), (.ref a1)])) t → Steps p.tables e below (s₁.setTop (mkF m 0 #[.val (.ref a1), .val (.int p2), .val (.long p3), .second, .val (.int p4), .val (.int p5), .val (.long p6), .second, .val (.long p7), .second, .val (.long p8), .second] [])) t := fun t kt => k48 t (by
    show Steps p.tables e below (T40.setTop (mkF m 35 #[.val (.ref a1), .val (.int p2), .val (.long p3), .second, .val (.int p4), .val (.int p5), .val (.long p6), .second, .val (.long p7), .second, .val (.long p8), .second] [(.long p7), (.ref a1)])) _
    refine st49 _ ?_
    show Steps p.tables e below (T49.setTop (mkF m 38 #[.val (.ref a1), .val (.int p2), .val (.long p3), .second, .val (.int p4), .val (.int p5), .val (.long p6), .second, .val (.long p7), .second, .val (.long p8), .second] [])) _
    refine XS.aloadN X49.here hx rfl (hb hby d1_38) rfl rfl ?_
    show Steps p.tables e below (T49.setTop (mkF m 39 #[.val (.ref a1), .val (.int p2), .val (.long p3), .second, .val (.int p4), .val (.int p5), .val (.long p6), .second, .val (.long p7), .second, .val (.long p8), .second] [(.ref a1)])) _
    refine XS.lload X49.here hx rfl (hb hby d1_39) rfl ?_
    exact kt)
  obtain ⟨T58, h58, X58, e58, W58, st58⟩ := putF X49 hx hZ hown (host := "") (Or.inl (hw _ (List.mem_of_getElem? (i := 26) rfl))) Via.refl e49 f56 f50 (Or.inr ⟨(hw _ (List.mem_of_getElem? (i := 27) rfl)), rfl, hnm⟩) (hw _ (List.mem_of_getElem? (i := 1) rfl)) (ty := .long) (by decide) rfl rfl (g := (mkF m 41 #[.val (.ref a1), .val (.int p2), .val (.long p3), .second, .val (.int p4), .val (.int p5), .val (.long p6), .second, .val (.long p7), .second, .val (.long p8), .second] [(.long p8), (.ref a1)])) rfl rfl (hb hby d1_41)
  have Fw58 := f56.same W58
  have f59 := f50.wr W58
  have f60 := f51.other W58 (Or.inr (slot_ne (Or.inr (hw _ (List.mem_of_getElem? (i := 15) rfl))) (Or.inr (hw _ (List.mem_of_getElem? (i := 27) rfl))) (by decide) (t := .int) (t' := .long) (by decide) (by decide)))
  have f61 := f52.other W58 (Or.inr (slot_ne (Or.inr (hw _ (List.mem_of_getElem? (i := 17) rfl))) (Or.inr (hw _ (List.mem_of_getElem? (i := 27) rfl))) (by decide) (t := .long) (t' := .long) (by decide) (by decide)))
  have f62 := f53.other W58 (Or.inr (slot_ne (Or.inr (hw _ (List.mem_of_getElem? (i := 19) rfl))) (Or.inr (hw _ (List.mem_of_getElem? (i := 27) rfl))) (by decide) (t := .int) (t' := .long) (by decide) (by decide)))
  have f63 := f54.other W58 (Or.inr (slot_ne (Or.inr (hw _ (List.mem_of_getElem? (i := 21) rfl))) (Or.inr (hw _ (List.mem_of_getElem? (i := 27) rfl))) (by decide) (t := .int) (t' := .long) (by decide) (by decide)))
  have f64 := f55.other W58 (Or.inr (slot_ne (Or.inr (hw _ (List.mem_of_getElem? (i := 23) rfl))) (Or.inr (hw _ (List.mem_of_getElem? (i := 27) rfl))) (by decide) (t := .long) (t' := .long) (by decide) (by decide)))
  have f65 := Fw49.other W58 (Or.inr (slot_ne (Or.inr (hw _ (List.mem_of_getElem? (i := 25) rfl))) (Or.inr (hw _ (List.mem_of_getElem? (i := 27) rfl))) (by decide) (t := .long) (t' := .long) (by decide) (by decide)))
  have K58 := K49.wr W58 (Or.inl (List.mem_of_getElem? (i := 0) rfl))
  have N58 := Fr.snoc X58 N49 g_a1
  have Z58 : n0 ≤ h58.size := Nat.le_trans Z49 (Keep.of_wr W58).1
  obtain ⟨fs, hr, hrun, hended, hW, hsame⟩ := X58.leave (v := none) (fun _ => rfl)
  refine ⟨_, _, pre0 _ (k57 _ ?_), hrun, hended, _, _, rfl, ?_, ⟨_, rfl⟩, hW, hsame.mono (by decide) (by decide)⟩
  · show Steps p.tables e below (T49.setTop (mkF m 41 #[.val (.ref a1), .val (.int p2), .val (.long p3), .second, .val (.int p4), .val (.int p5), .val (.long p6), .second, .val (.long p7), .second, .val (.long p8), .second] [(.long p8), (.ref a1)])) _
    refine st58 _ ?_
    show Steps p.tables e below (T58.setTop (mkF m 44 #[.val (.ref a1), .val (.int p2), .val (.long p3), .second, .val (.int p4), .val (.int p5), .val (.long p6), .second, .val (.long p7), .second, .val (.long p8), .second] [])) _
    exact X58.returnOut hx Bd.returns (hb hby d1_44) hr
  · show Q1 Z a1 p2 p3 p4 p5 p6 p7 p8 h0 n0 _ T58.heap _
    rw [e58]
    exact ⟨rfl, N58, K58, f59, f60, f61, f62, f63, f64, f65, Fw58⟩
def Q4 (Z : State) (a1 : Addr) (w_loadMillis : Int64) (w_medianTenths : Int64) (w_p99Tenths : Int64) (h0 : Heap) (n0 : Nat) (v : Option Value) (h : Heap) (L : List Loc) : Prop := v = some (.int (sp4 w_loadMillis w_medianTenths w_p99Tenths)) ∧ Fr n0 L ∧ h = h0
set_option maxRecDepth 65536 in
set_option maxHeartbeats 40000000 in
theorem rm4 (l : Launch) (Z : State) (a0 : Array Value) (hw : ∀ d ∈ tables_1, d.before a0 Z = true) (ws : List Jvm.Cond) (a1 : Addr) (w_loadMillis : Int64) (w_medianTenths : Int64) (w_p99Tenths : Int64) (h0 : Heap) (n0 : Nat) (Z0 : n0 ≤ h0.size) (E0 : Exa Z h0 a1 "com/example/grantwell/grantwell/app/BenchCommand$Report") (F0_loadMillis : Fld Z h0 a1 "com/example/grantwell/grantwell/app/BenchCommand$Report" "loadMillis" "J" (.long w_loadMillis)) (F0_medianTenths : Fld Z h0 a1 "com/example/grantwell/grantwell/app/BenchCommand$Report" "medianTenths" "J" (.long w_medianTenths)) (F0_p99Tenths : Fld Z h0 a1 "com/example/grantwell/grantwell/app/BenchCommand$Report" "p99Tenths" "J" (.long w_p99Tenths)) :
    MetFree l (⟨"com/example/grantwell/grantwell/app/BenchCommand$Report", "withinBounds", "()Z"⟩ : MethodName) (head1 (Jvm.Cond.code (⟨"com/example/grantwell/grantwell/app/BenchCommand$Report", "withinBounds", "()Z"⟩ : MethodName) prog_6_method_4_code 1 (some .boolean) :: ws) ({ frames := 0, cells := 0, slots := 0, locals := 0 } : Room)) (fun a U => a = #[(.ref a1)] ∧ Z.Warmed39 U.vm ∧ U.heap = h0) (fun _ _ _ _ _ => True) (fun _ U o U' => ∃ v L, o = .returned v ∧ Q4 Z a1 w_loadMillis w_medianTenths w_p99Tenths h0 n0 v U'.heap L ∧ FrameEnd U o U' L ({ frames := 0, cells := 0, slots := 0, locals := 0 } : Room).cells ({ frames := 0, cells := 0, slots := 0, locals := 0 } : Room).slots) := by
  refine MetFree.of_bodySF (plainFor_of_name pn_4) hisR ?_
  intro p e s m args below meth c s₁ Bd hml0 hP hK
  obtain ⟨rfl, hZ, hh⟩ := hP
  have hx := Bd.exec
  have hby := Bd.bytes
  have hml : c.maxLocals = 1 := hml0
  have hown : s.vm.findClass "com/example/grantwell/grantwell/app/BenchCommand$Report" = some m.cls := findClass_of_methodNamed Bd.named
  have hnm := (name_of_methodNamed Bd.named Bd.method).1
  have X0 : Stand p l e ({ frames := 0, cells := 0, slots := 0, locals := 0 } : Room) s m #[(.ref a1)] below meth c s₁ [] 0 0 := Stand.of_body Bd
  have e0 : s₁.heap = h0 := by rw [← hh, Bd.state]; rfl
  have N0 := Fr.nil n0
  have pre0 : ∀ t, Steps p.tables e below (s₁.setTop (mkF m 0 #[.val (.ref a1)] [])) t → Steps p.tables e below (s₁.setTop (entryFrame m #[(.ref a1)] 1)) t := fun t k => castTop (ef_4 m a1) k
  have pre1 : ∀ t, Steps p.tables e below (s₁.setTop (mkF m 0 #[.val (.ref a1)] [])) t → Steps p.tables e below (s₁.setTop (mkF m 0 #[.val (.ref a1)] [])) t := fun t k => k
  have k1 : ∀ t, Steps p.tables e below (s₁.setTop (mkF m 1 #[.val (.ref a1)] [(.ref a1)])) t → Steps p.tables e below (s₁.setTop (mkF m 0 #[.val (.ref a1)] [])) t := fun t kt => pre1 t (by
    show Steps p.tables e below (s₁.setTop (mkF m 0 #[.val (.ref a1)] [])) _
    refine XS.aloadN X0.here hx rfl (hb hby d4_0) rfl rfl ?_
    exact kt)
  obtain ⟨T2, X2, e2, st2⟩ := getF X0 hx hZ hown (host := "") (Or.inl (hw _ (List.mem_of_getElem? (i := 16) rfl))) Via.refl e0 F0_loadMillis (g := (mkF m 1 #[.val (.ref a1)] [(.ref a1)])) rfl rfl (hb hby d4_1)
  have k4 : ∀ t, Steps p.tables e below (T2.setTop (mkF m 8 #[.val (.ref a1)] [(.int (lcmpW w_loadMillis (5000 : Int64)))])) t → Steps p.tables e below (s₁.setTop (mkF m 0 #[.val (.ref a1)] [])) t := fun t kt => k1 t (by
    show Steps p.tables e below (s₁.setTop (mkF m 1 #[.val (.ref a1)] [(.ref a1)])) _
    refine st2 _ ?_
    show Steps p.tables e below (T2.setTop (mkF m 4 #[.val (.ref a1)] [(.long w_loadMillis)])) _
    refine X2.ldc2Long hx hown (mvT hZ (hw _ (List.mem_of_getElem? (i := 36) rfl))) (g := (mkF m 4 #[.val (.ref a1)] [(.long w_loadMillis)])) rfl (hb hby d4_4) _ ?_
    show Steps p.tables e below (T2.setTop (mkF m 7 #[.val (.ref a1)] [(.long (5000 : Int64)), (.long w_loadMillis)])) _
    refine XS.lcmp X2.here hx rfl (hb hby d4_7) rfl ?_
    exact kt)
  by_cases c8_3 : (5000 : Int64) < w_loadMillis
  · obtain ⟨fs, hr, hrun, hended, hW, hsame⟩ := X2.leave (v := some (.int (0 : Int32))) (fun h => by rw [Bd.returns] at h; cases h)
    refine ⟨_, _, pre0 _ (k4 _ ?_), hrun, hended, _, _, rfl, ?_, ⟨_, rfl⟩, hW, hsame.mono (by decide) (by decide)⟩
    · show Steps p.tables e below (T2.setTop (mkF m 8 #[.val (.ref a1)] [(.int (lcmpW w_loadMillis (5000 : Int64)))])) _
      refine XS.ifYes X2.here hx rfl (pc0 := 8) (pc' := 37) rfl (hb hby d4_8) rfl ((if0 _ _).trans (tlt ((lw_gt _ _).mpr c8_3)).2.2.1) (by decide) (by decide) ?_
      show Steps p.tables e below (T2.setTop (mkF m 37 #[.val (.ref a1)] [])) _
      refine XS.iconst X2.here hx rfl (hb hby d4_37) ?_
      show Steps p.tables e below (T2.setTop (mkF m 38 #[.val (.ref a1)] [(.int (0 : Int32))])) _
      exact retN X2 hx (t := .boolean) Bd.returns (by simp) (hb hby d4_38) hr
    · show Q4 Z a1 w_loadMillis w_medianTenths w_p99Tenths h0 n0 _ T2.heap _
      rw [e2]
      have hv : sp4 w_loadMillis w_medianTenths w_p99Tenths = (0 : Int32) := by unfold sp4; rw [if_pos c8_3]
      exact ⟨by rw [hv], N0, rfl⟩
  · have k5 : ∀ t, Steps p.tables e below (T2.setTop (mkF m 12 #[.val (.ref a1)] [(.ref a1)])) t → Steps p.tables e below (s₁.setTop (mkF m 0 #[.val (.ref a1)] [])) t := fun t kt => k4 t (by
      show Steps p.tables e below (T2.setTop (mkF m 8 #[.val (.ref a1)] [(.int (lcmpW w_loadMillis (5000 : Int64)))])) _
      refine XS.ifNo X2.here hx rfl (hb hby d4_8) rfl ((if0 _ _).trans (flt (fun q => c8_3 ((lw_gt _ _).mp q))).2.2.1) ?_
      show Steps p.tables e below (T2.setTop (mkF m 11 #[.val (.ref a1)] [])) _
      refine XS.aloadN X2.here hx rfl (hb hby d4_11) rfl rfl ?_
      exact kt)
    obtain ⟨T6, X6, e6, st6⟩ := getF X2 hx hZ hown (host := "") (Or.inl (hw _ (List.mem_of_getElem? (i := 22) rfl))) Via.refl e2 F0_medianTenths (g := (mkF m 12 #[.val (.ref a1)] [(.ref a1)])) rfl rfl (hb hby d4_12)
    have k8 : ∀ t, Steps p.tables e below (T6.setTop (mkF m 19 #[.val (.ref a1)] [(.int (lcmpW w_medianTenths (200 : Int64)))])) t → Steps p.tables e below (s₁.setTop (mkF m 0 #[.val (.ref a1)] [])) t := fun t kt => k5 t (by
      show Steps p.tables e below (T2.setTop (mkF m 12 #[.val (.ref a1)] [(.ref a1)])) _
      refine st6 _ ?_
      show Steps p.tables e below (T6.setTop (mkF m 15 #[.val (.ref a1)] [(.long w_medianTenths)])) _
      refine X6.ldc2Long hx hown (mvT hZ (hw _ (List.mem_of_getElem? (i := 37) rfl))) (g := (mkF m 15 #[.val (.ref a1)] [(.long w_medianTenths)])) rfl (hb hby d4_15) _ ?_
      show Steps p.tables e below (T6.setTop (mkF m 18 #[.val (.ref a1)] [(.long (200 : Int64)), (.long w_medianTenths)])) _
      refine XS.lcmp X6.here hx rfl (hb hby d4_18) rfl ?_
      exact kt)
    by_cases c19_7 : (200 : Int64) < w_medianTenths
    · obtain ⟨fs, hr, hrun, hended, hW, hsame⟩ := X6.leave (v := some (.int (0 : Int32))) (fun h => by rw [Bd.returns] at h; cases h)
      refine ⟨_, _, pre0 _ (k8 _ ?_), hrun, hended, _, _, rfl, ?_, ⟨_, rfl⟩, hW, hsame.mono (by decide) (by decide)⟩
      · show Steps p.tables e below (T6.setTop (mkF m 19 #[.val (.ref a1)] [(.int (lcmpW w_medianTenths (200 : Int64)))])) _
        refine XS.ifYes X6.here hx rfl (pc0 := 19) (pc' := 37) rfl (hb hby d4_19) rfl ((if0 _ _).trans (tlt ((lw_gt _ _).mpr c19_7)).2.2.1) (by decide) (by decide) ?_
        show Steps p.tables e below (T6.setTop (mkF m 37 #[.val (.ref a1)] [])) _
        refine XS.iconst X6.here hx rfl (hb hby d4_37) ?_
        show Steps p.tables e below (T6.setTop (mkF m 38 #[.val (.ref a1)] [(.int (0 : Int32))])) _
        exact retN X6 hx (t := .boolean) Bd.returns (by simp) (hb hby d4_38) hr
      · show Q4 Z a1 w_loadMillis w_medianTenths w_p99Tenths h0 n0 _ T6.heap _
        rw [e6]
        have hv : sp4 w_loadMillis w_medianTenths w_p99Tenths = (0 : Int32) := by unfold sp4; rw [if_neg c8_3, if_pos c19_7]
        exact ⟨by rw [hv], N0, rfl⟩
    · have k9 : ∀ t, Steps p.tables e below (T6.setTop (mkF m 23 #[.val (.ref a1)] [(.ref a1)])) t → Steps p.tables e below (s₁.setTop (mkF m 0 #[.val (.ref a1)] [])) t := fun t kt => k8 t (by
        show Steps p.tables e below (T6.setTop (mkF m 19 #[.val (.ref a1)] [(.int (lcmpW w_medianTenths (200 : Int64)))])) _
        refine XS.ifNo X6.here hx rfl (hb hby d4_19) rfl ((if0 _ _).trans (flt (fun q => c19_7 ((lw_gt _ _).mp q))).2.2.1) ?_
        show Steps p.tables e below (T6.setTop (mkF m 22 #[.val (.ref a1)] [])) _
        refine XS.aloadN X6.here hx rfl (hb hby d4_22) rfl rfl ?_
        exact kt)
      obtain ⟨T10, X10, e10, st10⟩ := getF X6 hx hZ hown (host := "") (Or.inl (hw _ (List.mem_of_getElem? (i := 24) rfl))) Via.refl e6 F0_p99Tenths (g := (mkF m 23 #[.val (.ref a1)] [(.ref a1)])) rfl rfl (hb hby d4_23)
      have k12 : ∀ t, Steps p.tables e below (T10.setTop (mkF m 30 #[.val (.ref a1)] [(.int (lcmpW w_p99Tenths (2000 : Int64)))])) t → Steps p.tables e below (s₁.setTop (mkF m 0 #[.val (.ref a1)] [])) t := fun t kt => k9 t (by
        show Steps p.tables e below (T6.setTop (mkF m 23 #[.val (.ref a1)] [(.ref a1)])) _
        refine st10 _ ?_
        show Steps p.tables e below (T10.setTop (mkF m 26 #[.val (.ref a1)] [(.long w_p99Tenths)])) _
        refine X10.ldc2Long hx hown (mvT hZ (hw _ (List.mem_of_getElem? (i := 38) rfl))) (g := (mkF m 26 #[.val (.ref a1)] [(.long w_p99Tenths)])) rfl (hb hby d4_26) _ ?_
        show Steps p.tables e below (T10.setTop (mkF m 29 #[.val (.ref a1)] [(.long (2000 : Int64)), (.long w_p99Tenths)])) _
        refine XS.lcmp X10.here hx rfl (hb hby d4_29) rfl ?_
        exact kt)
      by_cases c30_11 : (2000 : Int64) < w_p99Tenths
      · obtain ⟨fs, hr, hrun, hended, hW, hsame⟩ := X10.leave (v := some (.int (0 : Int32))) (fun h => by rw [Bd.returns] at h; cases h)
        refine ⟨_, _, pre0 _ (k12 _ ?_), hrun, hended, _, _, rfl, ?_, ⟨_, rfl⟩, hW, hsame.mono (by decide) (by decide)⟩
        · show Steps p.tables e below (T10.setTop (mkF m 30 #[.val (.ref a1)] [(.int (lcmpW w_p99Tenths (2000 : Int64)))])) _
          refine XS.ifYes X10.here hx rfl (pc0 := 30) (pc' := 37) rfl (hb hby d4_30) rfl ((if0 _ _).trans (tlt ((lw_gt _ _).mpr c30_11)).2.2.1) (by decide) (by decide) ?_
          show Steps p.tables e below (T10.setTop (mkF m 37 #[.val (.ref a1)] [])) _
          refine XS.iconst X10.here hx rfl (hb hby d4_37) ?_
          show Steps p.tables e below (T10.setTop (mkF m 38 #[.val (.ref a1)] [(.int (0 : Int32))])) _
          exact retN X10 hx (t := .boolean) Bd.returns (by simp) (hb hby d4_38) hr
        · show Q4 Z a1 w_loadMillis w_medianTenths w_p99Tenths h0 n0 _ T10.heap _
          rw [e10]
          have hv : sp4 w_loadMillis w_medianTenths w_p99Tenths = (0 : Int32) := by unfold sp4; rw [if_neg c8_3, if_neg c19_7, if_pos c30_11]
          exact ⟨by rw [hv], N0, rfl⟩
      · obtain ⟨fs, hr, hrun, hended, hW, hsame⟩ := X10.leave (v := some (.int (1 : Int32))) (fun h => by rw [Bd.returns] at h; cases h)
        refine ⟨_, _, pre0 _ (k12 _ ?_), hrun, hended, _, _, rfl, ?_, ⟨_, rfl⟩, hW, hsame.mono (by decide) (by decide)⟩
        · show Steps p.tables e below (T10.setTop (mkF m 30 #[.val (.ref a1)] [(.int (lcmpW w_p99Tenths (2000 : Int64)))])) _
          refine XS.ifNo X10.here hx rfl (hb hby d4_30) rfl ((if0 _ _).trans (flt (fun q => c30_11 ((lw_gt _ _).mp q))).2.2.1) ?_
          show Steps p.tables e below (T10.setTop (mkF m 33 #[.val (.ref a1)] [])) _
          refine XS.iconst X10.here hx rfl (hb hby d4_33) ?_
          show Steps p.tables e below (T10.setTop (mkF m 34 #[.val (.ref a1)] [(.int (1 : Int32))])) _
          refine XS.goto X10.here hx rfl (pc0 := 34) (pc' := 38) rfl (hb hby d4_34) (by decide) (by decide) ?_
          show Steps p.tables e below (T10.setTop (mkF m 38 #[.val (.ref a1)] [(.int (1 : Int32))])) _
          exact retN X10 hx (t := .boolean) Bd.returns (by simp) (hb hby d4_38) hr
        · show Q4 Z a1 w_loadMillis w_medianTenths w_p99Tenths h0 n0 _ T10.heap _
          rw [e10]
          have hv : sp4 w_loadMillis w_medianTenths w_p99Tenths = (1 : Int32) := by unfold sp4; rw [if_neg c8_3, if_neg c19_7, if_neg c30_11]
          exact ⟨by rw [hv], N0, rfl⟩
def Q0 (Z : State) (p1 : Int64) (p2 : Int64) (p3 : Int64) (p4 : Int64) (p5 : Int32) (p6 : Int32) (h0 : Heap) (n0 : Nat) (v : Option Value) (h : Heap) (L : List Loc) : Prop := v = some (.int 1) ∧ Fr n0 L
set_option maxRecDepth 65536 in
set_option maxHeartbeats 40000000 in
theorem rm0 (l : Launch) (Z : State) (a0 : Array Value) (hw : ∀ d ∈ tables_1, d.before a0 Z = true) (ws : List Jvm.Cond) (p1 : Int64) (p2 : Int64) (p3 : Int64) (p4 : Int64) (p5 : Int32) (p6 : Int32) (h0 : Heap) (n0 : Nat) (Z0 : n0 ≤ h0.size) :
    MetFree l x (head1 (Jvm.Cond.code x code maxLocals ret :: ws) room_1) (fun a U => a = #[(.long p1), (.long p2), (.long p3), (.long p4), (.int p5), (.int p6)] ∧ Z.Warmed39 U.vm ∧ U.heap = h0) (fun _ _ _ _ _ => True) (fun _ U o U' => ∃ v L, o = .returned v ∧ Q0 Z p1 p2 p3 p4 p5 p6 h0 n0 v U'.heap L ∧ FrameEnd U o U' L room_1.cells room_1.slots) := by
  refine MetFree.of_bodySF (plainFor_of_name pn_0) hisR ?_
  intro p e s m args below meth c s₁ Bd hml0 hP hK
  obtain ⟨rfl, hZ, hh⟩ := hP
  have hx := Bd.exec
  have hby := Bd.bytes
  have hml : c.maxLocals = 12 := hml0
  have hown : s.vm.findClass "com/example/grantwell/grantwell/app/ReportWithinBoundsPinLaw" = some m.cls := findClass_of_methodNamed Bd.named
  have hnm := (name_of_methodNamed Bd.named Bd.method).1
  have X0 : Stand p l e room_1 s m #[(.long p1), (.long p2), (.long p3), (.long p4), (.int p5), (.int p6)] below meth c s₁ [] 0 0 := Stand.of_body Bd
  have e0 : s₁.heap = h0 := by rw [← hh, Bd.state]; rfl
  have N0 := Fr.nil n0
  have pre0 : ∀ t, Steps p.tables e below (s₁.setTop (mkF m 0 #[.val (.long p1), .second, .val (.long p2), .second, .val (.long p3), .second, .val (.long p4), .second, .val (.int p5), .val (.int p6), .unset, .unset] [])) t → Steps p.tables e below (s₁.setTop (entryFrame m #[(.long p1), (.long p2), (.long p3), (.long p4), (.int p5), (.int p6)] maxLocals)) t := fun t k => castTop (ef_0 m p1 p2 p3 p4 p5 p6) k
  have pre1 : ∀ t, Steps p.tables e below (s₁.setTop (mkF m 0 #[.val (.long p1), .second, .val (.long p2), .second, .val (.long p3), .second, .val (.long p4), .second, .val (.int p5), .val (.int p6), .unset, .unset] [])) t → Steps p.tables e below (s₁.setTop (mkF m 0 #[.val (.long p1), .second, .val (.long p2), .second, .val (.long p3), .second, .val (.long p4), .second, .val (.int p5), .val (.int p6), .unset, .unset] [])) t := fun t k => k
  obtain ⟨T1, h1, X1, e1, E1, A1, D1, -, st1⟩ := newO X0 hx hZ hown (hw _ (List.mem_of_getElem? (i := 0) rfl)) (hw _ (List.mem_of_getElem? (i := 1) rfl)) (hw _ (List.mem_of_getElem? (i := 2) rfl)) e0 (g := (mkF m 0 #[.val (.long p1), .second, .val (.long p2), .second, .val (.long p3), .second, .val (.long p4), .second, .val (.int p5), .val (.int p6), .unset, .unset] [])) rfl (hb hby at_0) (by decide) (by decide)
  obtain ⟨b1, g1⟩ : ∃ z, z = h0.size := ⟨_, rfl⟩
  rw [← g1] at A1 D1 st1
  have g_b1 : n0 ≤ b1 := Nat.le_trans Z0 (Nat.le_of_eq g1.symm)
  have Z1 : n0 ≤ h1.size := Nat.le_trans Z0 E1.1
  have K1 := (Keep.refl h0 []).ext E1
  have F1_grants : Fld Z h1 b1 "com/example/grantwell/grantwell/app/BenchCommand$Report" "grants" "I" (.int (0 : Int32)) := D1 (Or.inr (hw _ (List.mem_of_getElem? (i := 15) rfl))) (ty := .int) (by decide)
  have F1_loadMillis : Fld Z h1 b1 "com/example/grantwell/grantwell/app/BenchCommand$Report" "loadMillis" "J" (.long (0 : Int64)) := D1 (Or.inr (hw _ (List.mem_of_getElem? (i := 17) rfl))) (ty := .long) (by decide)
  have F1_decisions : Fld Z h1 b1 "com/example/grantwell/grantwell/app/BenchCommand$Report" "decisions" "I" (.int (0 : Int32)) := D1 (Or.inr (hw _ (List.mem_of_getElem? (i := 19) rfl))) (ty := .int) (by decide)
  have F1_allowed : Fld Z h1 b1 "com/example/grantwell/grantwell/app/BenchCommand$Report" "allowed" "I" (.int (0 : Int32)) := D1 (Or.inr (hw _ (List.mem_of_getElem? (i := 21) rfl))) (ty := .int) (by decide)
  have F1_medianTenths : Fld Z h1 b1 "com/example/grantwell/grantwell/app/BenchCommand$Report" "medianTenths" "J" (.long (0 : Int64)) := D1 (Or.inr (hw _ (List.mem_of_getElem? (i := 23) rfl))) (ty := .long) (by decide)
  have F1_p99Tenths : Fld Z h1 b1 "com/example/grantwell/grantwell/app/BenchCommand$Report" "p99Tenths" "J" (.long (0 : Int64)) := D1 (Or.inr (hw _ (List.mem_of_getElem? (i := 25) rfl))) (ty := .long) (by decide)
  have F1_maxTenths : Fld Z h1 b1 "com/example/grantwell/grantwell/app/BenchCommand$Report" "maxTenths" "J" (.long (0 : Int64)) := D1 (Or.inr (hw _ (List.mem_of_getElem? (i := 27) rfl))) (ty := .long) (by decide)
  have k2 : ∀ t, Steps p.tables e below (T1.setTop (mkF m 19 #[.val (.long p1), .second, .val (.long p2), .second, .val (.long p3), .second, .val (.long p4), .second, .val (.int p5), .val (.int p6), .unset, .unset] [(.long p4), (.long p3), (.long p2), (.int (p5 ^^^ p6)), (.int p6), (.long p1), (.int p5), (.ref b1), (.ref b1)])) t → Steps p.tables e below (s₁.setTop (mkF m 0 #[.val (.long p1), .second, .val (.long p2), .second, .val (.long p3), .second, .val (.long p4), .second, .val (.int p5), .val (.int p6), .unset, .unset] [])) t := fun t kt => pre1 t (by
    show Steps p.tables e below (s₁.setTop (mkF m 0 #[.val (.long p1), .second, .val (.long p2), .second, .val (.long p3), .second, .val (.long p4), .second, .val (.int p5), .val (.int p6), .unset, .unset] [])) _
    refine st1 _ ?_
    show Steps p.tables e below (T1.setTop (mkF m 3 #[.val (.long p1), .second, .val (.long p2), .second, .val (.long p3), .second, .val (.long p4), .second, .val (.int p5), .val (.int p6), .unset, .unset] [(.ref b1)])) _
    refine XS.dup X1.here hx rfl (hb hby at_3) rfl rfl ?_
    show Steps p.tables e below (T1.setTop (mkF m 4 #[.val (.long p1), .second, .val (.long p2), .second, .val (.long p3), .second, .val (.long p4), .second, .val (.int p5), .val (.int p6), .unset, .unset] [(.ref b1), (.ref b1)])) _
    refine XS.iload X1.here hx rfl (hb hby at_4) rfl ?_
    show Steps p.tables e below (T1.setTop (mkF m 6 #[.val (.long p1), .second, .val (.long p2), .second, .val (.long p3), .second, .val (.long p4), .second, .val (.int p5), .val (.int p6), .unset, .unset] [(.int p5), (.ref b1), (.ref b1)])) _
    refine XS.lloadN X1.here hx rfl (hb hby at_6) rfl ?_
    show Steps p.tables e below (T1.setTop (mkF m 7 #[.val (.long p1), .second, .val (.long p2), .second, .val (.long p3), .second, .val (.long p4), .second, .val (.int p5), .val (.int p6), .unset, .unset] [(.long p1), (.int p5), (.ref b1), (.ref b1)])) _
    refine XS.iload X1.here hx rfl (hb hby at_7) rfl ?_
    show Steps p.tables e below (T1.setTop (mkF m 9 #[.val (.long p1), .second, .val (.long p2), .second, .val (.long p3), .second, .val (.long p4), .second, .val (.int p5), .val (.int p6), .unset, .unset] [(.int p6), (.long p1), (.int p5), (.ref b1), (.ref b1)])) _
    refine XS.iload X1.here hx rfl (hb hby at_9) rfl ?_
    show Steps p.tables e below (T1.setTop (mkF m 11 #[.val (.long p1), .second, .val (.long p2), .second, .val (.long p3), .second, .val (.long p4), .second, .val (.int p5), .val (.int p6), .unset, .unset] [(.int p5), (.int p6), (.long p1), (.int p5), (.ref b1), (.ref b1)])) _
    refine XS.iload X1.here hx rfl (hb hby at_11) rfl ?_
    show Steps p.tables e below (T1.setTop (mkF m 13 #[.val (.long p1), .second, .val (.long p2), .second, .val (.long p3), .second, .val (.long p4), .second, .val (.int p5), .val (.int p6), .unset, .unset] [(.int p6), (.int p5), (.int p6), (.long p1), (.int p5), (.ref b1), (.ref b1)])) _
    refine XS.ixor X1.here hx rfl (hb hby at_13) rfl ?_
    show Steps p.tables e below (T1.setTop (mkF m 14 #[.val (.long p1), .second, .val (.long p2), .second, .val (.long p3), .second, .val (.long p4), .second, .val (.int p5), .val (.int p6), .unset, .unset] [(.int (p5 ^^^ p6)), (.int p6), (.long p1), (.int p5), (.ref b1), (.ref b1)])) _
    refine XS.lloadN X1.here hx rfl (hb hby at_14) rfl ?_
    show Steps p.tables e below (T1.setTop (mkF m 15 #[.val (.long p1), .second, .val (.long p2), .second, .val (.long p3), .second, .val (.long p4), .second, .val (.int p5), .val (.int p6), .unset, .unset] [(.long p2), (.int (p5 ^^^ p6)), (.int p6), (.long p1), (.int p5), (.ref b1), (.ref b1)])) _
    refine XS.lload X1.here hx rfl (hb hby at_15) rfl ?_
    show Steps p.tables e below (T1.setTop (mkF m 17 #[.val (.long p1), .second, .val (.long p2), .second, .val (.long p3), .second, .val (.long p4), .second, .val (.int p5), .val (.int p6), .unset, .unset] [(.long p3), (.long p2), (.int (p5 ^^^ p6)), (.int p6), (.long p1), (.int p5), (.ref b1), (.ref b1)])) _
    refine XS.lload X1.here hx rfl (hb hby at_17) rfl ?_
    exact kt)
  obtain ⟨_, _, ⟨T3, L3, k3', n3⟩, -, X3, ⟨Lc3, hQ3, l3, y3, z3⟩, st3⟩ := X1.specialBack hx (y := (⟨"com/example/grantwell/grantwell/app/BenchCommand$Report", "<init>", "(IJIIJJJ)V"⟩ : MethodName)) rfl hown (mvT hZ (hw _ (List.mem_of_getElem? (i := 3) rfl))) (mvT hZ (hw _ (List.mem_of_getElem? (i := 4) rfl))) (mvT hZ (hw _ (List.mem_of_getElem? (i := 5) rfl))) (by decide) (backOf (W := 1) (rm1 l Z a0 hw [] b1 p5 p1 p6 (p5 ^^^ p6) p2 p3 p4 h1 n0 Z1 A1 F1_grants F1_loadMillis F1_decisions F1_allowed F1_medianTenths F1_p99Tenths F1_maxTenths g_b1) hZ (hw _ (List.mem_of_getElem? (i := 5) rfl)) (hw _ (List.mem_of_getElem? (i := 2) rfl)) (by decide) (by decide)) (g := (mkF m 19 #[.val (.long p1), .second, .val (.long p2), .second, .val (.long p3), .second, .val (.long p4), .second, .val (.int p5), .val (.int p6), .unset, .unset] [(.long p4), (.long p3), (.long p2), (.int (p5 ^^^ p6)), (.int p6), (.long p1), (.int p5), (.ref b1), (.ref b1)])) rfl (by rw [hml]; rfl) (Steps.refl _) (a := b1) (argsL := [(.int p5), (.long p1), (.int p6), (.int (p5 ^^^ p6)), (.long p2), (.long p3), (.long p4)]) (rest := [(.ref b1)]) (lenOf pd0_0 rfl) rfl (by show 2 * 0 + _ ≤ _; exact Nat.le_of_eq rfl) (hb hby at_19) (fun _ _ => ⟨rfl, e1, (by decide : 1 + 0 ≤ _), (by decide : 7 + 0 ≤ _)⟩)
  dsimp only [Pt.U, Pt.locs, Pt.cells, Pt.slots] at X3 l3 y3 z3 st3 hQ3
  subst l3 y3 z3
  obtain ⟨rfl, N3q, Kq3, Eq3, Fq3_grants, Fq3_loadMillis, Fq3_decisions, Fq3_allowed, Fq3_medianTenths, Fq3_p99Tenths, Fq3_maxTenths⟩ := hQ3
  have N3 := Fr.app N0 N3q
  have Z3 : n0 ≤ T3.heap.size := Nat.le_trans Z1 Kq3.1
  have k5 : ∀ t, Steps p.tables e below (T3.setTop (mkF m 29 #[.val (.long p1), .second, .val (.long p2), .second, .val (.long p3), .second, .val (.long p4), .second, .val (.int p5), .val (.int p6), .val (.ref b1), .unset] [(.int (lcmpW p1 (5000 : Int64)))])) t → Steps p.tables e below (s₁.setTop (mkF m 0 #[.val (.long p1), .second, .val (.long p2), .second, .val (.long p3), .second, .val (.long p4), .second, .val (.int p5), .val (.int p6), .unset, .unset] [])) t := fun t kt => k2 t (by
    show Steps p.tables e below (T1.setTop (mkF m 19 #[.val (.long p1), .second, .val (.long p2), .second, .val (.long p3), .second, .val (.long p4), .second, .val (.int p5), .val (.int p6), .unset, .unset] [(.long p4), (.long p3), (.long p2), (.int (p5 ^^^ p6)), (.int p6), (.long p1), (.int p5), (.ref b1), (.ref b1)])) _
    refine st3.trans ?_
    show Steps p.tables e below (T3.setTop (mkF m 22 #[.val (.long p1), .second, .val (.long p2), .second, .val (.long p3), .second, .val (.long p4), .second, .val (.int p5), .val (.int p6), .unset, .unset] [(.ref b1)])) _
    refine XS.astore X3.here hx rfl (hb hby at_22) rfl rfl (l' := #[.val (.long p1), .second, .val (.long p2), .second, .val (.long p3), .second, .val (.long p4), .second, .val (.int p5), .val (.int p6), .val (.ref b1), .unset]) rfl ?_
    show Steps p.tables e below (T3.setTop (mkF m 24 #[.val (.long p1), .second, .val (.long p2), .second, .val (.long p3), .second, .val (.long p4), .second, .val (.int p5), .val (.int p6), .val (.ref b1), .unset] [])) _
    refine XS.lloadN X3.here hx rfl (hb hby at_24) rfl ?_
    show Steps p.tables e below (T3.setTop (mkF m 25 #[.val (.long p1), .second, .val (.long p2), .second, .val (.long p3), .second, .val (.long p4), .second, .val (.int p5), .val (.int p6), .val (.ref b1), .unset] [(.long p1)])) _
    refine X3.ldc2Long hx hown (mvT hZ (hw _ (List.mem_of_getElem? (i := 28) rfl))) (g := (mkF m 25 #[.val (.long p1), .second, .val (.long p2), .second, .val (.long p3), .second, .val (.long p4), .second, .val (.int p5), .val (.int p6), .val (.ref b1), .unset] [(.long p1)])) rfl (hb hby at_25) _ ?_
    show Steps p.tables e below (T3.setTop (mkF m 28 #[.val (.long p1), .second, .val (.long p2), .second, .val (.long p3), .second, .val (.long p4), .second, .val (.int p5), .val (.int p6), .val (.ref b1), .unset] [(.long (5000 : Int64)), (.long p1)])) _
    refine XS.lcmp X3.here hx rfl (hb hby at_28) rfl ?_
    exact kt)
  by_cases c29_4 : (5000 : Int64) < p1
  · have k6 : ∀ t, Steps p.tables e below (T3.setTop (mkF m 72 #[.val (.long p1), .second, .val (.long p2), .second, .val (.long p3), .second, .val (.long p4), .second, .val (.int p5), .val (.int p6), .val (.ref b1), .val (.int (0 : Int32))] [(.ref b1)])) t → Steps p.tables e below (s₁.setTop (mkF m 0 #[.val (.long p1), .second, .val (.long p2), .second, .val (.long p3), .second, .val (.long p4), .second, .val (.int p5), .val (.int p6), .unset, .unset] [])) t := fun t kt => k5 t (by
      show Steps p.tables e below (T3.setTop (mkF m 29 #[.val (.long p1), .second, .val (.long p2), .second, .val (.long p3), .second, .val (.long p4), .second, .val (.int p5), .val (.int p6), .val (.ref b1), .unset] [(.int (lcmpW p1 (5000 : Int64)))])) _
      refine XS.ifNo X3.here hx rfl (hb hby at_29) rfl ((if0 _ _).trans (tlt ((lw_gt _ _).mpr c29_4)).2.2.2) ?_
      show Steps p.tables e below (T3.setTop (mkF m 32 #[.val (.long p1), .second, .val (.long p2), .second, .val (.long p3), .second, .val (.long p4), .second, .val (.int p5), .val (.int p6), .val (.ref b1), .unset] [])) _
      refine XS.iconst X3.here hx rfl (hb hby at_32) ?_
      show Steps p.tables e below (T3.setTop (mkF m 33 #[.val (.long p1), .second, .val (.long p2), .second, .val (.long p3), .second, .val (.long p4), .second, .val (.int p5), .val (.int p6), .val (.ref b1), .unset] [(.int (0 : Int32))])) _
      refine XS.istore X3.here hx rfl (hb hby at_33) rfl (l' := #[.val (.long p1), .second, .val (.long p2), .second, .val (.long p3), .second, .val (.long p4), .second, .val (.int p5), .val (.int p6), .val (.ref b1), .val (.int (0 : Int32))]) rfl ?_
      show Steps p.tables e below (T3.setTop (mkF m 35 #[.val (.long p1), .second, .val (.long p2), .second, .val (.long p3), .second, .val (.long p4), .second, .val (.int p5), .val (.int p6), .val (.ref b1), .val (.int (0 : Int32))] [])) _
      refine XS.goto X3.here hx rfl (pc0 := 35) (pc' := 70) rfl (hb hby at_35) (by decide) (by decide) ?_
      show Steps p.tables e below (T3.setTop (mkF m 70 #[.val (.long p1), .second, .val (.long p2), .second, .val (.long p3), .second, .val (.long p4), .second, .val (.int p5), .val (.int p6), .val (.ref b1), .val (.int (0 : Int32))] [])) _
      refine XS.aload X3.here hx rfl (hb hby at_70) rfl rfl ?_
      exact kt)
    obtain ⟨cq7, kq7, q7a, q7b, q7c⟩ := isOf hZ rfl Eq3
    obtain ⟨_, _, ⟨T7, L7, k7', n7⟩, -, X7, ⟨Lc7, hQ7, l7, y7, z7⟩, st7⟩ := X3.virtualBack hx (y := (⟨"com/example/grantwell/grantwell/app/BenchCommand$Report", "withinBounds", "()Z"⟩ : MethodName)) (z := (⟨"com/example/grantwell/grantwell/app/BenchCommand$Report", "withinBounds", "()Z"⟩ : MethodName)) hown (mvT hZ (hw _ (List.mem_of_getElem? (i := 31) rfl))) (mvT hZ (hw _ (List.mem_of_getElem? (i := 32) rfl))) (notFace_of_selects (args := #[]) (mvT hZ (hw _ (List.mem_of_getElem? (i := 34) rfl)))) (mvT hZ (hw _ (List.mem_of_getElem? (i := 34) rfl))) (mvT hZ (hw _ (List.mem_of_getElem? (i := 33) rfl))) (by decide) (backOf (W := 0) (rm4 l Z a0 hw [] b1 p1 p2 p3 T3.heap n0 Z3 Eq3 Fq3_loadMillis Fq3_medianTenths Fq3_p99Tenths) hZ (hw _ (List.mem_of_getElem? (i := 35) rfl)) (hw _ (List.mem_of_getElem? (i := 2) rfl)) (by decide) (by decide)) q7a q7c (g := (mkF m 72 #[.val (.long p1), .second, .val (.long p2), .second, .val (.long p3), .second, .val (.long p4), .second, .val (.int p5), .val (.int p6), .val (.ref b1), .val (.int (0 : Int32))] [(.ref b1)])) rfl (by rw [hml]; rfl) (Steps.refl _) (argsL := []) (rest := []) (lenOf pd0_1 rfl) rfl (by show 2 * 0 + _ ≤ _; exact Nat.le_of_eq rfl) (hb hby at_72) (fun _ _ => ⟨rfl, rfl, (by decide : 1 + 0 ≤ _), (by decide : 7 + 0 ≤ _)⟩)
    dsimp only [Pt.U, Pt.locs, Pt.cells, Pt.slots] at X7 l7 y7 z7 st7 hQ7
    subst l7 y7 z7
    obtain ⟨rfl, N7q, hh7⟩ := hQ7
    have N7 := Fr.app N3 N7q
    have k9 : ∀ t, Steps p.tables e below (T7.setTop (mkF m 77 #[.val (.long p1), .second, .val (.long p2), .second, .val (.long p3), .second, .val (.long p4), .second, .val (.int p5), .val (.int p6), .val (.ref b1), .val (.int (0 : Int32))] [(.int (0 : Int32)), (.int (sp4 p1 p2 p3))])) t → Steps p.tables e below (s₁.setTop (mkF m 0 #[.val (.long p1), .second, .val (.long p2), .second, .val (.long p3), .second, .val (.long p4), .second, .val (.int p5), .val (.int p6), .unset, .unset] [])) t := fun t kt => k6 t (by
      show Steps p.tables e below (T3.setTop (mkF m 72 #[.val (.long p1), .second, .val (.long p2), .second, .val (.long p3), .second, .val (.long p4), .second, .val (.int p5), .val (.int p6), .val (.ref b1), .val (.int (0 : Int32))] [(.ref b1)])) _
      refine st7.trans ?_
      show Steps p.tables e below (T7.setTop (mkF m 75 #[.val (.long p1), .second, .val (.long p2), .second, .val (.long p3), .second, .val (.long p4), .second, .val (.int p5), .val (.int p6), .val (.ref b1), .val (.int (0 : Int32))] [(.int (sp4 p1 p2 p3))])) _
      refine XS.iload X7.here hx rfl (hb hby at_75) rfl ?_
      exact kt)
    by_cases c77_8 : (sp4 p1 p2 p3) = (0 : Int32)
    · obtain ⟨fs, hr, hrun, hended, hW, hsame⟩ := X7.leave (v := some (.int (1 : Int32))) (fun h => by rw [Bd.returns] at h; cases h)
      refine ⟨_, _, pre0 _ (k9 _ ?_), hrun, hended, _, _, rfl, ?_, ⟨_, rfl⟩, hW, hsame.mono (by decide) (by decide)⟩
      · show Steps p.tables e below (T7.setTop (mkF m 77 #[.val (.long p1), .second, .val (.long p2), .second, .val (.long p3), .second, .val (.long p4), .second, .val (.int p5), .val (.int p6), .val (.ref b1), .val (.int (0 : Int32))] [(.int (0 : Int32)), (.int (sp4 p1 p2 p3))])) _
        refine XS.icmpNo X7.here hx rfl (hb hby at_77) rfl (teq c77_8).2 ?_
        show Steps p.tables e below (T7.setTop (mkF m 80 #[.val (.long p1), .second, .val (.long p2), .second, .val (.long p3), .second, .val (.long p4), .second, .val (.int p5), .val (.int p6), .val (.ref b1), .val (.int (0 : Int32))] [])) _
        refine XS.iconst X7.here hx rfl (hb hby at_80) ?_
        show Steps p.tables e below (T7.setTop (mkF m 81 #[.val (.long p1), .second, .val (.long p2), .second, .val (.long p3), .second, .val (.long p4), .second, .val (.int p5), .val (.int p6), .val (.ref b1), .val (.int (0 : Int32))] [(.int (1 : Int32))])) _
        refine XS.goto X7.here hx rfl (pc0 := 81) (pc' := 85) rfl (hb hby at_81) (by decide) (by decide) ?_
        show Steps p.tables e below (T7.setTop (mkF m 85 #[.val (.long p1), .second, .val (.long p2), .second, .val (.long p3), .second, .val (.long p4), .second, .val (.int p5), .val (.int p6), .val (.ref b1), .val (.int (0 : Int32))] [(.int (1 : Int32))])) _
        exact retN X7 hx (t := .boolean) Bd.returns (by simp) (hb hby at_85) hr
      · show Q0 Z p1 p2 p3 p4 p5 p6 h0 n0 _ T7.heap _
        rw [hh7]
        have hv : sp0 p1 p2 p3 p4 p5 p6 = (1 : Int32) := by unfold sp0; rw [if_pos c29_4, if_pos c77_8]
        exact ⟨by rw [← hv, own_law p1 p2 p3 p4 p5 p6], N7⟩
    · obtain ⟨fs, hr, hrun, hended, hW, hsame⟩ := X7.leave (v := some (.int (0 : Int32))) (fun h => by rw [Bd.returns] at h; cases h)
      refine ⟨_, _, pre0 _ (k9 _ ?_), hrun, hended, _, _, rfl, ?_, ⟨_, rfl⟩, hW, hsame.mono (by decide) (by decide)⟩
      · show Steps p.tables e below (T7.setTop (mkF m 77 #[.val (.long p1), .second, .val (.long p2), .second, .val (.long p3), .second, .val (.long p4), .second, .val (.int p5), .val (.int p6), .val (.ref b1), .val (.int (0 : Int32))] [(.int (0 : Int32)), (.int (sp4 p1 p2 p3))])) _
        refine XS.icmpYes X7.here hx rfl (pc0 := 77) (pc' := 84) rfl (hb hby at_77) rfl (feq c77_8).2 (by decide) (by decide) ?_
        show Steps p.tables e below (T7.setTop (mkF m 84 #[.val (.long p1), .second, .val (.long p2), .second, .val (.long p3), .second, .val (.long p4), .second, .val (.int p5), .val (.int p6), .val (.ref b1), .val (.int (0 : Int32))] [])) _
        refine XS.iconst X7.here hx rfl (hb hby at_84) ?_
        show Steps p.tables e below (T7.setTop (mkF m 85 #[.val (.long p1), .second, .val (.long p2), .second, .val (.long p3), .second, .val (.long p4), .second, .val (.int p5), .val (.int p6), .val (.ref b1), .val (.int (0 : Int32))] [(.int (0 : Int32))])) _
        exact retN X7 hx (t := .boolean) Bd.returns (by simp) (hb hby at_85) hr
      · show Q0 Z p1 p2 p3 p4 p5 p6 h0 n0 _ T7.heap _
        rw [hh7]
        have hv : sp0 p1 p2 p3 p4 p5 p6 = (0 : Int32) := by unfold sp0; rw [if_pos c29_4, if_neg c77_8]
        exact ⟨by rw [← hv, own_law p1 p2 p3 p4 p5 p6], N7⟩
  · have k11 : ∀ t, Steps p.tables e below (T3.setTop (mkF m 43 #[.val (.long p1), .second, .val (.long p2), .second, .val (.long p3), .second, .val (.long p4), .second, .val (.int p5), .val (.int p6), .val (.ref b1), .unset] [(.int (lcmpW p2 (200 : Int64)))])) t → Steps p.tables e below (s₁.setTop (mkF m 0 #[.val (.long p1), .second, .val (.long p2), .second, .val (.long p3), .second, .val (.long p4), .second, .val (.int p5), .val (.int p6), .unset, .unset] [])) t := fun t kt => k5 t (by
      show Steps p.tables e below (T3.setTop (mkF m 29 #[.val (.long p1), .second, .val (.long p2), .second, .val (.long p3), .second, .val (.long p4), .second, .val (.int p5), .val (.int p6), .val (.ref b1), .unset] [(.int (lcmpW p1 (5000 : Int64)))])) _
      refine XS.ifYes X3.here hx rfl (pc0 := 29) (pc' := 38) rfl (hb hby at_29) rfl ((if0 _ _).trans (flt (fun q => c29_4 ((lw_gt _ _).mp q))).2.2.2) (by decide) (by decide) ?_
      show Steps p.tables e below (T3.setTop (mkF m 38 #[.val (.long p1), .second, .val (.long p2), .second, .val (.long p3), .second, .val (.long p4), .second, .val (.int p5), .val (.int p6), .val (.ref b1), .unset] [])) _
      refine XS.lloadN X3.here hx rfl (hb hby at_38) rfl ?_
      show Steps p.tables e below (T3.setTop (mkF m 39 #[.val (.long p1), .second, .val (.long p2), .second, .val (.long p3), .second, .val (.long p4), .second, .val (.int p5), .val (.int p6), .val (.ref b1), .unset] [(.long p2)])) _
      refine X3.ldc2Long hx hown (mvT hZ (hw _ (List.mem_of_getElem? (i := 29) rfl))) (g := (mkF m 39 #[.val (.long p1), .second, .val (.long p2), .second, .val (.long p3), .second, .val (.long p4), .second, .val (.int p5), .val (.int p6), .val (.ref b1), .unset] [(.long p2)])) rfl (hb hby at_39) _ ?_
      show Steps p.tables e below (T3.setTop (mkF m 42 #[.val (.long p1), .second, .val (.long p2), .second, .val (.long p3), .second, .val (.long p4), .second, .val (.int p5), .val (.int p6), .val (.ref b1), .unset] [(.long (200 : Int64)), (.long p2)])) _
      refine XS.lcmp X3.here hx rfl (hb hby at_42) rfl ?_
      exact kt)
    by_cases c43_10 : (200 : Int64) < p2
    · have k12 : ∀ t, Steps p.tables e below (T3.setTop (mkF m 72 #[.val (.long p1), .second, .val (.long p2), .second, .val (.long p3), .second, .val (.long p4), .second, .val (.int p5), .val (.int p6), .val (.ref b1), .val (.int (0 : Int32))] [(.ref b1)])) t → Steps p.tables e below (s₁.setTop (mkF m 0 #[.val (.long p1), .second, .val (.long p2), .second, .val (.long p3), .second, .val (.long p4), .second, .val (.int p5), .val (.int p6), .unset, .unset] [])) t := fun t kt => k11 t (by
        show Steps p.tables e below (T3.setTop (mkF m 43 #[.val (.long p1), .second, .val (.long p2), .second, .val (.long p3), .second, .val (.long p4), .second, .val (.int p5), .val (.int p6), .val (.ref b1), .unset] [(.int (lcmpW p2 (200 : Int64)))])) _
        refine XS.ifNo X3.here hx rfl (hb hby at_43) rfl ((if0 _ _).trans (tlt ((lw_gt _ _).mpr c43_10)).2.2.2) ?_
        show Steps p.tables e below (T3.setTop (mkF m 46 #[.val (.long p1), .second, .val (.long p2), .second, .val (.long p3), .second, .val (.long p4), .second, .val (.int p5), .val (.int p6), .val (.ref b1), .unset] [])) _
        refine XS.iconst X3.here hx rfl (hb hby at_46) ?_
        show Steps p.tables e below (T3.setTop (mkF m 47 #[.val (.long p1), .second, .val (.long p2), .second, .val (.long p3), .second, .val (.long p4), .second, .val (.int p5), .val (.int p6), .val (.ref b1), .unset] [(.int (0 : Int32))])) _
        refine XS.istore X3.here hx rfl (hb hby at_47) rfl (l' := #[.val (.long p1), .second, .val (.long p2), .second, .val (.long p3), .second, .val (.long p4), .second, .val (.int p5), .val (.int p6), .val (.ref b1), .val (.int (0 : Int32))]) rfl ?_
        show Steps p.tables e below (T3.setTop (mkF m 49 #[.val (.long p1), .second, .val (.long p2), .second, .val (.long p3), .second, .val (.long p4), .second, .val (.int p5), .val (.int p6), .val (.ref b1), .val (.int (0 : Int32))] [])) _
        refine XS.goto X3.here hx rfl (pc0 := 49) (pc' := 70) rfl (hb hby at_49) (by decide) (by decide) ?_
        show Steps p.tables e below (T3.setTop (mkF m 70 #[.val (.long p1), .second, .val (.long p2), .second, .val (.long p3), .second, .val (.long p4), .second, .val (.int p5), .val (.int p6), .val (.ref b1), .val (.int (0 : Int32))] [])) _
        refine XS.aload X3.here hx rfl (hb hby at_70) rfl rfl ?_
        exact kt)
      obtain ⟨cq13, kq13, q13a, q13b, q13c⟩ := isOf hZ rfl Eq3
      obtain ⟨_, _, ⟨T13, L13, k13', n13⟩, -, X13, ⟨Lc13, hQ13, l13, y13, z13⟩, st13⟩ := X3.virtualBack hx (y := (⟨"com/example/grantwell/grantwell/app/BenchCommand$Report", "withinBounds", "()Z"⟩ : MethodName)) (z := (⟨"com/example/grantwell/grantwell/app/BenchCommand$Report", "withinBounds", "()Z"⟩ : MethodName)) hown (mvT hZ (hw _ (List.mem_of_getElem? (i := 31) rfl))) (mvT hZ (hw _ (List.mem_of_getElem? (i := 32) rfl))) (notFace_of_selects (args := #[]) (mvT hZ (hw _ (List.mem_of_getElem? (i := 34) rfl)))) (mvT hZ (hw _ (List.mem_of_getElem? (i := 34) rfl))) (mvT hZ (hw _ (List.mem_of_getElem? (i := 33) rfl))) (by decide) (backOf (W := 0) (rm4 l Z a0 hw [] b1 p1 p2 p3 T3.heap n0 Z3 Eq3 Fq3_loadMillis Fq3_medianTenths Fq3_p99Tenths) hZ (hw _ (List.mem_of_getElem? (i := 35) rfl)) (hw _ (List.mem_of_getElem? (i := 2) rfl)) (by decide) (by decide)) q13a q13c (g := (mkF m 72 #[.val (.long p1), .second, .val (.long p2), .second, .val (.long p3), .second, .val (.long p4), .second, .val (.int p5), .val (.int p6), .val (.ref b1), .val (.int (0 : Int32))] [(.ref b1)])) rfl (by rw [hml]; rfl) (Steps.refl _) (argsL := []) (rest := []) (lenOf pd0_1 rfl) rfl (by show 2 * 0 + _ ≤ _; exact Nat.le_of_eq rfl) (hb hby at_72) (fun _ _ => ⟨rfl, rfl, (by decide : 1 + 0 ≤ _), (by decide : 7 + 0 ≤ _)⟩)
      dsimp only [Pt.U, Pt.locs, Pt.cells, Pt.slots] at X13 l13 y13 z13 st13 hQ13
      subst l13 y13 z13
      obtain ⟨rfl, N13q, hh13⟩ := hQ13
      have N13 := Fr.app N3 N13q
      have k15 : ∀ t, Steps p.tables e below (T13.setTop (mkF m 77 #[.val (.long p1), .second, .val (.long p2), .second, .val (.long p3), .second, .val (.long p4), .second, .val (.int p5), .val (.int p6), .val (.ref b1), .val (.int (0 : Int32))] [(.int (0 : Int32)), (.int (sp4 p1 p2 p3))])) t → Steps p.tables e below (s₁.setTop (mkF m 0 #[.val (.long p1), .second, .val (.long p2), .second, .val (.long p3), .second, .val (.long p4), .second, .val (.int p5), .val (.int p6), .unset, .unset] [])) t := fun t kt => k12 t (by
        show Steps p.tables e below (T3.setTop (mkF m 72 #[.val (.long p1), .second, .val (.long p2), .second, .val (.long p3), .second, .val (.long p4), .second, .val (.int p5), .val (.int p6), .val (.ref b1), .val (.int (0 : Int32))] [(.ref b1)])) _
        refine st13.trans ?_
        show Steps p.tables e below (T13.setTop (mkF m 75 #[.val (.long p1), .second, .val (.long p2), .second, .val (.long p3), .second, .val (.long p4), .second, .val (.int p5), .val (.int p6), .val (.ref b1), .val (.int (0 : Int32))] [(.int (sp4 p1 p2 p3))])) _
        refine XS.iload X13.here hx rfl (hb hby at_75) rfl ?_
        exact kt)
      by_cases c77_14 : (sp4 p1 p2 p3) = (0 : Int32)
      · obtain ⟨fs, hr, hrun, hended, hW, hsame⟩ := X13.leave (v := some (.int (1 : Int32))) (fun h => by rw [Bd.returns] at h; cases h)
        refine ⟨_, _, pre0 _ (k15 _ ?_), hrun, hended, _, _, rfl, ?_, ⟨_, rfl⟩, hW, hsame.mono (by decide) (by decide)⟩
        · show Steps p.tables e below (T13.setTop (mkF m 77 #[.val (.long p1), .second, .val (.long p2), .second, .val (.long p3), .second, .val (.long p4), .second, .val (.int p5), .val (.int p6), .val (.ref b1), .val (.int (0 : Int32))] [(.int (0 : Int32)), (.int (sp4 p1 p2 p3))])) _
          refine XS.icmpNo X13.here hx rfl (hb hby at_77) rfl (teq c77_14).2 ?_
          show Steps p.tables e below (T13.setTop (mkF m 80 #[.val (.long p1), .second, .val (.long p2), .second, .val (.long p3), .second, .val (.long p4), .second, .val (.int p5), .val (.int p6), .val (.ref b1), .val (.int (0 : Int32))] [])) _
          refine XS.iconst X13.here hx rfl (hb hby at_80) ?_
          show Steps p.tables e below (T13.setTop (mkF m 81 #[.val (.long p1), .second, .val (.long p2), .second, .val (.long p3), .second, .val (.long p4), .second, .val (.int p5), .val (.int p6), .val (.ref b1), .val (.int (0 : Int32))] [(.int (1 : Int32))])) _
          refine XS.goto X13.here hx rfl (pc0 := 81) (pc' := 85) rfl (hb hby at_81) (by decide) (by decide) ?_
          show Steps p.tables e below (T13.setTop (mkF m 85 #[.val (.long p1), .second, .val (.long p2), .second, .val (.long p3), .second, .val (.long p4), .second, .val (.int p5), .val (.int p6), .val (.ref b1), .val (.int (0 : Int32))] [(.int (1 : Int32))])) _
          exact retN X13 hx (t := .boolean) Bd.returns (by simp) (hb hby at_85) hr
        · show Q0 Z p1 p2 p3 p4 p5 p6 h0 n0 _ T13.heap _
          rw [hh13]
          have hv : sp0 p1 p2 p3 p4 p5 p6 = (1 : Int32) := by unfold sp0; rw [if_neg c29_4, if_pos c43_10, if_pos c77_14]
          exact ⟨by rw [← hv, own_law p1 p2 p3 p4 p5 p6], N13⟩
      · obtain ⟨fs, hr, hrun, hended, hW, hsame⟩ := X13.leave (v := some (.int (0 : Int32))) (fun h => by rw [Bd.returns] at h; cases h)
        refine ⟨_, _, pre0 _ (k15 _ ?_), hrun, hended, _, _, rfl, ?_, ⟨_, rfl⟩, hW, hsame.mono (by decide) (by decide)⟩
        · show Steps p.tables e below (T13.setTop (mkF m 77 #[.val (.long p1), .second, .val (.long p2), .second, .val (.long p3), .second, .val (.long p4), .second, .val (.int p5), .val (.int p6), .val (.ref b1), .val (.int (0 : Int32))] [(.int (0 : Int32)), (.int (sp4 p1 p2 p3))])) _
          refine XS.icmpYes X13.here hx rfl (pc0 := 77) (pc' := 84) rfl (hb hby at_77) rfl (feq c77_14).2 (by decide) (by decide) ?_
          show Steps p.tables e below (T13.setTop (mkF m 84 #[.val (.long p1), .second, .val (.long p2), .second, .val (.long p3), .second, .val (.long p4), .second, .val (.int p5), .val (.int p6), .val (.ref b1), .val (.int (0 : Int32))] [])) _
          refine XS.iconst X13.here hx rfl (hb hby at_84) ?_
          show Steps p.tables e below (T13.setTop (mkF m 85 #[.val (.long p1), .second, .val (.long p2), .second, .val (.long p3), .second, .val (.long p4), .second, .val (.int p5), .val (.int p6), .val (.ref b1), .val (.int (0 : Int32))] [(.int (0 : Int32))])) _
          exact retN X13 hx (t := .boolean) Bd.returns (by simp) (hb hby at_85) hr
        · show Q0 Z p1 p2 p3 p4 p5 p6 h0 n0 _ T13.heap _
          rw [hh13]
          have hv : sp0 p1 p2 p3 p4 p5 p6 = (0 : Int32) := by unfold sp0; rw [if_neg c29_4, if_pos c43_10, if_neg c77_14]
          exact ⟨by rw [← hv, own_law p1 p2 p3 p4 p5 p6], N13⟩
    · have k17 : ∀ t, Steps p.tables e below (T3.setTop (mkF m 58 #[.val (.long p1), .second, .val (.long p2), .second, .val (.long p3), .second, .val (.long p4), .second, .val (.int p5), .val (.int p6), .val (.ref b1), .unset] [(.int (lcmpW p3 (2000 : Int64)))])) t → Steps p.tables e below (s₁.setTop (mkF m 0 #[.val (.long p1), .second, .val (.long p2), .second, .val (.long p3), .second, .val (.long p4), .second, .val (.int p5), .val (.int p6), .unset, .unset] [])) t := fun t kt => k11 t (by
        show Steps p.tables e below (T3.setTop (mkF m 43 #[.val (.long p1), .second, .val (.long p2), .second, .val (.long p3), .second, .val (.long p4), .second, .val (.int p5), .val (.int p6), .val (.ref b1), .unset] [(.int (lcmpW p2 (200 : Int64)))])) _
        refine XS.ifYes X3.here hx rfl (pc0 := 43) (pc' := 52) rfl (hb hby at_43) rfl ((if0 _ _).trans (flt (fun q => c43_10 ((lw_gt _ _).mp q))).2.2.2) (by decide) (by decide) ?_
        show Steps p.tables e below (T3.setTop (mkF m 52 #[.val (.long p1), .second, .val (.long p2), .second, .val (.long p3), .second, .val (.long p4), .second, .val (.int p5), .val (.int p6), .val (.ref b1), .unset] [])) _
        refine XS.lload X3.here hx rfl (hb hby at_52) rfl ?_
        show Steps p.tables e below (T3.setTop (mkF m 54 #[.val (.long p1), .second, .val (.long p2), .second, .val (.long p3), .second, .val (.long p4), .second, .val (.int p5), .val (.int p6), .val (.ref b1), .unset] [(.long p3)])) _
        refine X3.ldc2Long hx hown (mvT hZ (hw _ (List.mem_of_getElem? (i := 30) rfl))) (g := (mkF m 54 #[.val (.long p1), .second, .val (.long p2), .second, .val (.long p3), .second, .val (.long p4), .second, .val (.int p5), .val (.int p6), .val (.ref b1), .unset] [(.long p3)])) rfl (hb hby at_54) _ ?_
        show Steps p.tables e below (T3.setTop (mkF m 57 #[.val (.long p1), .second, .val (.long p2), .second, .val (.long p3), .second, .val (.long p4), .second, .val (.int p5), .val (.int p6), .val (.ref b1), .unset] [(.long (2000 : Int64)), (.long p3)])) _
        refine XS.lcmp X3.here hx rfl (hb hby at_57) rfl ?_
        exact kt)
      by_cases c58_16 : (2000 : Int64) < p3
      · have k18 : ∀ t, Steps p.tables e below (T3.setTop (mkF m 72 #[.val (.long p1), .second, .val (.long p2), .second, .val (.long p3), .second, .val (.long p4), .second, .val (.int p5), .val (.int p6), .val (.ref b1), .val (.int (0 : Int32))] [(.ref b1)])) t → Steps p.tables e below (s₁.setTop (mkF m 0 #[.val (.long p1), .second, .val (.long p2), .second, .val (.long p3), .second, .val (.long p4), .second, .val (.int p5), .val (.int p6), .unset, .unset] [])) t := fun t kt => k17 t (by
          show Steps p.tables e below (T3.setTop (mkF m 58 #[.val (.long p1), .second, .val (.long p2), .second, .val (.long p3), .second, .val (.long p4), .second, .val (.int p5), .val (.int p6), .val (.ref b1), .unset] [(.int (lcmpW p3 (2000 : Int64)))])) _
          refine XS.ifNo X3.here hx rfl (hb hby at_58) rfl ((if0 _ _).trans (tlt ((lw_gt _ _).mpr c58_16)).2.2.2) ?_
          show Steps p.tables e below (T3.setTop (mkF m 61 #[.val (.long p1), .second, .val (.long p2), .second, .val (.long p3), .second, .val (.long p4), .second, .val (.int p5), .val (.int p6), .val (.ref b1), .unset] [])) _
          refine XS.iconst X3.here hx rfl (hb hby at_61) ?_
          show Steps p.tables e below (T3.setTop (mkF m 62 #[.val (.long p1), .second, .val (.long p2), .second, .val (.long p3), .second, .val (.long p4), .second, .val (.int p5), .val (.int p6), .val (.ref b1), .unset] [(.int (0 : Int32))])) _
          refine XS.istore X3.here hx rfl (hb hby at_62) rfl (l' := #[.val (.long p1), .second, .val (.long p2), .second, .val (.long p3), .second, .val (.long p4), .second, .val (.int p5), .val (.int p6), .val (.ref b1), .val (.int (0 : Int32))]) rfl ?_
          show Steps p.tables e below (T3.setTop (mkF m 64 #[.val (.long p1), .second, .val (.long p2), .second, .val (.long p3), .second, .val (.long p4), .second, .val (.int p5), .val (.int p6), .val (.ref b1), .val (.int (0 : Int32))] [])) _
          refine XS.goto X3.here hx rfl (pc0 := 64) (pc' := 70) rfl (hb hby at_64) (by decide) (by decide) ?_
          show Steps p.tables e below (T3.setTop (mkF m 70 #[.val (.long p1), .second, .val (.long p2), .second, .val (.long p3), .second, .val (.long p4), .second, .val (.int p5), .val (.int p6), .val (.ref b1), .val (.int (0 : Int32))] [])) _
          refine XS.aload X3.here hx rfl (hb hby at_70) rfl rfl ?_
          exact kt)
        obtain ⟨cq19, kq19, q19a, q19b, q19c⟩ := isOf hZ rfl Eq3
        obtain ⟨_, _, ⟨T19, L19, k19', n19⟩, -, X19, ⟨Lc19, hQ19, l19, y19, z19⟩, st19⟩ := X3.virtualBack hx (y := (⟨"com/example/grantwell/grantwell/app/BenchCommand$Report", "withinBounds", "()Z"⟩ : MethodName)) (z := (⟨"com/example/grantwell/grantwell/app/BenchCommand$Report", "withinBounds", "()Z"⟩ : MethodName)) hown (mvT hZ (hw _ (List.mem_of_getElem? (i := 31) rfl))) (mvT hZ (hw _ (List.mem_of_getElem? (i := 32) rfl))) (notFace_of_selects (args := #[]) (mvT hZ (hw _ (List.mem_of_getElem? (i := 34) rfl)))) (mvT hZ (hw _ (List.mem_of_getElem? (i := 34) rfl))) (mvT hZ (hw _ (List.mem_of_getElem? (i := 33) rfl))) (by decide) (backOf (W := 0) (rm4 l Z a0 hw [] b1 p1 p2 p3 T3.heap n0 Z3 Eq3 Fq3_loadMillis Fq3_medianTenths Fq3_p99Tenths) hZ (hw _ (List.mem_of_getElem? (i := 35) rfl)) (hw _ (List.mem_of_getElem? (i := 2) rfl)) (by decide) (by decide)) q19a q19c (g := (mkF m 72 #[.val (.long p1), .second, .val (.long p2), .second, .val (.long p3), .second, .val (.long p4), .second, .val (.int p5), .val (.int p6), .val (.ref b1), .val (.int (0 : Int32))] [(.ref b1)])) rfl (by rw [hml]; rfl) (Steps.refl _) (argsL := []) (rest := []) (lenOf pd0_1 rfl) rfl (by show 2 * 0 + _ ≤ _; exact Nat.le_of_eq rfl) (hb hby at_72) (fun _ _ => ⟨rfl, rfl, (by decide : 1 + 0 ≤ _), (by decide : 7 + 0 ≤ _)⟩)
        dsimp only [Pt.U, Pt.locs, Pt.cells, Pt.slots] at X19 l19 y19 z19 st19 hQ19
        subst l19 y19 z19
        obtain ⟨rfl, N19q, hh19⟩ := hQ19
        have N19 := Fr.app N3 N19q
        have k21 : ∀ t, Steps p.tables e below (T19.setTop (mkF m 77 #[.val (.long p1), .second, .val (.long p2), .second, .val (.long p3), .second, .val (.long p4), .second, .val (.int p5), .val (.int p6), .val (.ref b1), .val (.int (0 : Int32))] [(.int (0 : Int32)), (.int (sp4 p1 p2 p3))])) t → Steps p.tables e below (s₁.setTop (mkF m 0 #[.val (.long p1), .second, .val (.long p2), .second, .val (.long p3), .second, .val (.long p4), .second, .val (.int p5), .val (.int p6), .unset, .unset] [])) t := fun t kt => k18 t (by
          show Steps p.tables e below (T3.setTop (mkF m 72 #[.val (.long p1), .second, .val (.long p2), .second, .val (.long p3), .second, .val (.long p4), .second, .val (.int p5), .val (.int p6), .val (.ref b1), .val (.int (0 : Int32))] [(.ref b1)])) _
          refine st19.trans ?_
          show Steps p.tables e below (T19.setTop (mkF m 75 #[.val (.long p1), .second, .val (.long p2), .second, .val (.long p3), .second, .val (.long p4), .second, .val (.int p5), .val (.int p6), .val (.ref b1), .val (.int (0 : Int32))] [(.int (sp4 p1 p2 p3))])) _
          refine XS.iload X19.here hx rfl (hb hby at_75) rfl ?_
          exact kt)
        by_cases c77_20 : (sp4 p1 p2 p3) = (0 : Int32)
        · obtain ⟨fs, hr, hrun, hended, hW, hsame⟩ := X19.leave (v := some (.int (1 : Int32))) (fun h => by rw [Bd.returns] at h; cases h)
          refine ⟨_, _, pre0 _ (k21 _ ?_), hrun, hended, _, _, rfl, ?_, ⟨_, rfl⟩, hW, hsame.mono (by decide) (by decide)⟩
          · show Steps p.tables e below (T19.setTop (mkF m 77 #[.val (.long p1), .second, .val (.long p2), .second, .val (.long p3), .second, .val (.long p4), .second, .val (.int p5), .val (.int p6), .val (.ref b1), .val (.int (0 : Int32))] [(.int (0 : Int32)), (.int (sp4 p1 p2 p3))])) _
            refine XS.icmpNo X19.here hx rfl (hb hby at_77) rfl (teq c77_20).2 ?_
            show Steps p.tables e below (T19.setTop (mkF m 80 #[.val (.long p1), .second, .val (.long p2), .second, .val (.long p3), .second, .val (.long p4), .second, .val (.int p5), .val (.int p6), .val (.ref b1), .val (.int (0 : Int32))] [])) _
            refine XS.iconst X19.here hx rfl (hb hby at_80) ?_
            show Steps p.tables e below (T19.setTop (mkF m 81 #[.val (.long p1), .second, .val (.long p2), .second, .val (.long p3), .second, .val (.long p4), .second, .val (.int p5), .val (.int p6), .val (.ref b1), .val (.int (0 : Int32))] [(.int (1 : Int32))])) _
            refine XS.goto X19.here hx rfl (pc0 := 81) (pc' := 85) rfl (hb hby at_81) (by decide) (by decide) ?_
            show Steps p.tables e below (T19.setTop (mkF m 85 #[.val (.long p1), .second, .val (.long p2), .second, .val (.long p3), .second, .val (.long p4), .second, .val (.int p5), .val (.int p6), .val (.ref b1), .val (.int (0 : Int32))] [(.int (1 : Int32))])) _
            exact retN X19 hx (t := .boolean) Bd.returns (by simp) (hb hby at_85) hr
          · show Q0 Z p1 p2 p3 p4 p5 p6 h0 n0 _ T19.heap _
            rw [hh19]
            have hv : sp0 p1 p2 p3 p4 p5 p6 = (1 : Int32) := by unfold sp0; rw [if_neg c29_4, if_neg c43_10, if_pos c58_16, if_pos c77_20]
            exact ⟨by rw [← hv, own_law p1 p2 p3 p4 p5 p6], N19⟩
        · obtain ⟨fs, hr, hrun, hended, hW, hsame⟩ := X19.leave (v := some (.int (0 : Int32))) (fun h => by rw [Bd.returns] at h; cases h)
          refine ⟨_, _, pre0 _ (k21 _ ?_), hrun, hended, _, _, rfl, ?_, ⟨_, rfl⟩, hW, hsame.mono (by decide) (by decide)⟩
          · show Steps p.tables e below (T19.setTop (mkF m 77 #[.val (.long p1), .second, .val (.long p2), .second, .val (.long p3), .second, .val (.long p4), .second, .val (.int p5), .val (.int p6), .val (.ref b1), .val (.int (0 : Int32))] [(.int (0 : Int32)), (.int (sp4 p1 p2 p3))])) _
            refine XS.icmpYes X19.here hx rfl (pc0 := 77) (pc' := 84) rfl (hb hby at_77) rfl (feq c77_20).2 (by decide) (by decide) ?_
            show Steps p.tables e below (T19.setTop (mkF m 84 #[.val (.long p1), .second, .val (.long p2), .second, .val (.long p3), .second, .val (.long p4), .second, .val (.int p5), .val (.int p6), .val (.ref b1), .val (.int (0 : Int32))] [])) _
            refine XS.iconst X19.here hx rfl (hb hby at_84) ?_
            show Steps p.tables e below (T19.setTop (mkF m 85 #[.val (.long p1), .second, .val (.long p2), .second, .val (.long p3), .second, .val (.long p4), .second, .val (.int p5), .val (.int p6), .val (.ref b1), .val (.int (0 : Int32))] [(.int (0 : Int32))])) _
            exact retN X19 hx (t := .boolean) Bd.returns (by simp) (hb hby at_85) hr
          · show Q0 Z p1 p2 p3 p4 p5 p6 h0 n0 _ T19.heap _
            rw [hh19]
            have hv : sp0 p1 p2 p3 p4 p5 p6 = (0 : Int32) := by unfold sp0; rw [if_neg c29_4, if_neg c43_10, if_pos c58_16, if_neg c77_20]
            exact ⟨by rw [← hv, own_law p1 p2 p3 p4 p5 p6], N19⟩
      · have k22 : ∀ t, Steps p.tables e below (T3.setTop (mkF m 72 #[.val (.long p1), .second, .val (.long p2), .second, .val (.long p3), .second, .val (.long p4), .second, .val (.int p5), .val (.int p6), .val (.ref b1), .val (.int (1 : Int32))] [(.ref b1)])) t → Steps p.tables e below (s₁.setTop (mkF m 0 #[.val (.long p1), .second, .val (.long p2), .second, .val (.long p3), .second, .val (.long p4), .second, .val (.int p5), .val (.int p6), .unset, .unset] [])) t := fun t kt => k17 t (by
          show Steps p.tables e below (T3.setTop (mkF m 58 #[.val (.long p1), .second, .val (.long p2), .second, .val (.long p3), .second, .val (.long p4), .second, .val (.int p5), .val (.int p6), .val (.ref b1), .unset] [(.int (lcmpW p3 (2000 : Int64)))])) _
          refine XS.ifYes X3.here hx rfl (pc0 := 58) (pc' := 67) rfl (hb hby at_58) rfl ((if0 _ _).trans (flt (fun q => c58_16 ((lw_gt _ _).mp q))).2.2.2) (by decide) (by decide) ?_
          show Steps p.tables e below (T3.setTop (mkF m 67 #[.val (.long p1), .second, .val (.long p2), .second, .val (.long p3), .second, .val (.long p4), .second, .val (.int p5), .val (.int p6), .val (.ref b1), .unset] [])) _
          refine XS.iconst X3.here hx rfl (hb hby at_67) ?_
          show Steps p.tables e below (T3.setTop (mkF m 68 #[.val (.long p1), .second, .val (.long p2), .second, .val (.long p3), .second, .val (.long p4), .second, .val (.int p5), .val (.int p6), .val (.ref b1), .unset] [(.int (1 : Int32))])) _
          refine XS.istore X3.here hx rfl (hb hby at_68) rfl (l' := #[.val (.long p1), .second, .val (.long p2), .second, .val (.long p3), .second, .val (.long p4), .second, .val (.int p5), .val (.int p6), .val (.ref b1), .val (.int (1 : Int32))]) rfl ?_
          show Steps p.tables e below (T3.setTop (mkF m 70 #[.val (.long p1), .second, .val (.long p2), .second, .val (.long p3), .second, .val (.long p4), .second, .val (.int p5), .val (.int p6), .val (.ref b1), .val (.int (1 : Int32))] [])) _
          refine XS.aload X3.here hx rfl (hb hby at_70) rfl rfl ?_
          exact kt)
        obtain ⟨cq23, kq23, q23a, q23b, q23c⟩ := isOf hZ rfl Eq3
        obtain ⟨_, _, ⟨T23, L23, k23', n23⟩, -, X23, ⟨Lc23, hQ23, l23, y23, z23⟩, st23⟩ := X3.virtualBack hx (y := (⟨"com/example/grantwell/grantwell/app/BenchCommand$Report", "withinBounds", "()Z"⟩ : MethodName)) (z := (⟨"com/example/grantwell/grantwell/app/BenchCommand$Report", "withinBounds", "()Z"⟩ : MethodName)) hown (mvT hZ (hw _ (List.mem_of_getElem? (i := 31) rfl))) (mvT hZ (hw _ (List.mem_of_getElem? (i := 32) rfl))) (notFace_of_selects (args := #[]) (mvT hZ (hw _ (List.mem_of_getElem? (i := 34) rfl)))) (mvT hZ (hw _ (List.mem_of_getElem? (i := 34) rfl))) (mvT hZ (hw _ (List.mem_of_getElem? (i := 33) rfl))) (by decide) (backOf (W := 0) (rm4 l Z a0 hw [] b1 p1 p2 p3 T3.heap n0 Z3 Eq3 Fq3_loadMillis Fq3_medianTenths Fq3_p99Tenths) hZ (hw _ (List.mem_of_getElem? (i := 35) rfl)) (hw _ (List.mem_of_getElem? (i := 2) rfl)) (by decide) (by decide)) q23a q23c (g := (mkF m 72 #[.val (.long p1), .second, .val (.long p2), .second, .val (.long p3), .second, .val (.long p4), .second, .val (.int p5), .val (.int p6), .val (.ref b1), .val (.int (1 : Int32))] [(.ref b1)])) rfl (by rw [hml]; rfl) (Steps.refl _) (argsL := []) (rest := []) (lenOf pd0_1 rfl) rfl (by show 2 * 0 + _ ≤ _; exact Nat.le_of_eq rfl) (hb hby at_72) (fun _ _ => ⟨rfl, rfl, (by decide : 1 + 0 ≤ _), (by decide : 7 + 0 ≤ _)⟩)
        dsimp only [Pt.U, Pt.locs, Pt.cells, Pt.slots] at X23 l23 y23 z23 st23 hQ23
        subst l23 y23 z23
        obtain ⟨rfl, N23q, hh23⟩ := hQ23
        have N23 := Fr.app N3 N23q
        have k25 : ∀ t, Steps p.tables e below (T23.setTop (mkF m 77 #[.val (.long p1), .second, .val (.long p2), .second, .val (.long p3), .second, .val (.long p4), .second, .val (.int p5), .val (.int p6), .val (.ref b1), .val (.int (1 : Int32))] [(.int (1 : Int32)), (.int (sp4 p1 p2 p3))])) t → Steps p.tables e below (s₁.setTop (mkF m 0 #[.val (.long p1), .second, .val (.long p2), .second, .val (.long p3), .second, .val (.long p4), .second, .val (.int p5), .val (.int p6), .unset, .unset] [])) t := fun t kt => k22 t (by
          show Steps p.tables e below (T3.setTop (mkF m 72 #[.val (.long p1), .second, .val (.long p2), .second, .val (.long p3), .second, .val (.long p4), .second, .val (.int p5), .val (.int p6), .val (.ref b1), .val (.int (1 : Int32))] [(.ref b1)])) _
          refine st23.trans ?_
          show Steps p.tables e below (T23.setTop (mkF m 75 #[.val (.long p1), .second, .val (.long p2), .second, .val (.long p3), .second, .val (.long p4), .second, .val (.int p5), .val (.int p6), .val (.ref b1), .val (.int (1 : Int32))] [(.int (sp4 p1 p2 p3))])) _
          refine XS.iload X23.here hx rfl (hb hby at_75) rfl ?_
          exact kt)
        by_cases c77_24 : (sp4 p1 p2 p3) = (1 : Int32)
        · obtain ⟨fs, hr, hrun, hended, hW, hsame⟩ := X23.leave (v := some (.int (1 : Int32))) (fun h => by rw [Bd.returns] at h; cases h)
          refine ⟨_, _, pre0 _ (k25 _ ?_), hrun, hended, _, _, rfl, ?_, ⟨_, rfl⟩, hW, hsame.mono (by decide) (by decide)⟩
          · show Steps p.tables e below (T23.setTop (mkF m 77 #[.val (.long p1), .second, .val (.long p2), .second, .val (.long p3), .second, .val (.long p4), .second, .val (.int p5), .val (.int p6), .val (.ref b1), .val (.int (1 : Int32))] [(.int (1 : Int32)), (.int (sp4 p1 p2 p3))])) _
            refine XS.icmpNo X23.here hx rfl (hb hby at_77) rfl (teq c77_24).2 ?_
            show Steps p.tables e below (T23.setTop (mkF m 80 #[.val (.long p1), .second, .val (.long p2), .second, .val (.long p3), .second, .val (.long p4), .second, .val (.int p5), .val (.int p6), .val (.ref b1), .val (.int (1 : Int32))] [])) _
            refine XS.iconst X23.here hx rfl (hb hby at_80) ?_
            show Steps p.tables e below (T23.setTop (mkF m 81 #[.val (.long p1), .second, .val (.long p2), .second, .val (.long p3), .second, .val (.long p4), .second, .val (.int p5), .val (.int p6), .val (.ref b1), .val (.int (1 : Int32))] [(.int (1 : Int32))])) _
            refine XS.goto X23.here hx rfl (pc0 := 81) (pc' := 85) rfl (hb hby at_81) (by decide) (by decide) ?_
            show Steps p.tables e below (T23.setTop (mkF m 85 #[.val (.long p1), .second, .val (.long p2), .second, .val (.long p3), .second, .val (.long p4), .second, .val (.int p5), .val (.int p6), .val (.ref b1), .val (.int (1 : Int32))] [(.int (1 : Int32))])) _
            exact retN X23 hx (t := .boolean) Bd.returns (by simp) (hb hby at_85) hr
          · show Q0 Z p1 p2 p3 p4 p5 p6 h0 n0 _ T23.heap _
            rw [hh23]
            have hv : sp0 p1 p2 p3 p4 p5 p6 = (1 : Int32) := by unfold sp0; rw [if_neg c29_4, if_neg c43_10, if_neg c58_16, if_pos c77_24]
            exact ⟨by rw [← hv, own_law p1 p2 p3 p4 p5 p6], N23⟩
        · obtain ⟨fs, hr, hrun, hended, hW, hsame⟩ := X23.leave (v := some (.int (0 : Int32))) (fun h => by rw [Bd.returns] at h; cases h)
          refine ⟨_, _, pre0 _ (k25 _ ?_), hrun, hended, _, _, rfl, ?_, ⟨_, rfl⟩, hW, hsame.mono (by decide) (by decide)⟩
          · show Steps p.tables e below (T23.setTop (mkF m 77 #[.val (.long p1), .second, .val (.long p2), .second, .val (.long p3), .second, .val (.long p4), .second, .val (.int p5), .val (.int p6), .val (.ref b1), .val (.int (1 : Int32))] [(.int (1 : Int32)), (.int (sp4 p1 p2 p3))])) _
            refine XS.icmpYes X23.here hx rfl (pc0 := 77) (pc' := 84) rfl (hb hby at_77) rfl (feq c77_24).2 (by decide) (by decide) ?_
            show Steps p.tables e below (T23.setTop (mkF m 84 #[.val (.long p1), .second, .val (.long p2), .second, .val (.long p3), .second, .val (.long p4), .second, .val (.int p5), .val (.int p6), .val (.ref b1), .val (.int (1 : Int32))] [])) _
            refine XS.iconst X23.here hx rfl (hb hby at_84) ?_
            show Steps p.tables e below (T23.setTop (mkF m 85 #[.val (.long p1), .second, .val (.long p2), .second, .val (.long p3), .second, .val (.long p4), .second, .val (.int p5), .val (.int p6), .val (.ref b1), .val (.int (1 : Int32))] [(.int (0 : Int32))])) _
            exact retN X23 hx (t := .boolean) Bd.returns (by simp) (hb hby at_85) hr
          · show Q0 Z p1 p2 p3 p4 p5 p6 h0 n0 _ T23.heap _
            rw [hh23]
            have hv : sp0 p1 p2 p3 p4 p5 p6 = (0 : Int32) := by unfold sp0; rw [if_neg c29_4, if_neg c43_10, if_neg c58_16, if_neg c77_24]
            exact ⟨by rw [← hv, own_law p1 p2 p3 p4 p5 p6], N23⟩
set_option maxRecDepth 65536 in
set_option maxHeartbeats 40000000 in
theorem comes_1 {Post : Tables → Env → Array Value → State → Outcome → State → Prop} (hpost : ∀ tb e args s v u, (limb_1_1.after args s (.returned v) u = true ∧ limb_1_2.after args s (.returned v) u = true ∧ True) → FrameEnd s (.returned v) u (Jvm.fieldLocs frame_1_writes args s ++ Jvm.arrayLocs frame_1_arrays args s ++ Jvm.staticLocs frame_1_statics s) 16 128 → Post tb e args s (.returned v) u) :
    ArmFor flags0 classFile x code maxLocals ret World_1 tables_1 room_1 Calls_1 rest_1 Pre_1 Post := by
  intro l hfl _ _ p e ha hc hk s m args below hf hA hF happ hP
  obtain ⟨hcalls, hrest, hpre⟩ := hP
  obtain ⟨-, -, -, hnamed, -, -, -, hat⟩ := (Spec.applies_iff hf).mp happ
  obtain ⟨hg, hn⟩ := and_e (Cond.before_iff.mp (show (Jvm.Cond.and given_1 narrow_1).before args s = true from hpre))
  obtain ⟨g2, g3⟩ := and_e hg
  obtain ⟨g4, g5⟩ := and_e g3
  obtain ⟨g6, g7⟩ := and_e g5
  obtain ⟨g8, g9⟩ := and_e g7
  obtain ⟨g10, g11⟩ := and_e g9
  obtain ⟨g12, g13⟩ := and_e g11
  obtain ⟨w0, w1, w2, w3, w4, w5, rfl⟩ : ∃ w0 w1 w2 w3 w4 w5 : Value, args = #[w0, w1, w2, w3, w4, w5] := by
    have hs : args.size = 6 := by simpa [Cond.value, given_1] using g2
    obtain ⟨L⟩ := args
    match L, hs with
    | [w0, w1, w2, w3, w4, w5], _ => exact ⟨w0, w1, w2, w3, w4, w5, rfl⟩
  have hw := fun d (hd : d ∈ tables_1) => atoms_spec (ws := Jvm.Cond.code x code maxLocals ret :: tables_1) hat d (List.mem_cons_of_mem _ hd)
  obtain ⟨i0, ei0⟩ := isL_v g4
  obtain rfl : w0 = (.long i0) := Option.some.inj ei0
  obtain ⟨i1, ei1⟩ := isL_v g6
  obtain rfl : w1 = (.long i1) := Option.some.inj ei1
  obtain ⟨i2, ei2⟩ := isL_v g8
  obtain rfl : w2 = (.long i2) := Option.some.inj ei2
  obtain ⟨i3, ei3⟩ := isL_v g10
  obtain rfl : w3 = (.long i3) := Option.some.inj ei3
  obtain ⟨i4, ei4⟩ := is_v g12
  obtain rfl : w4 = (.int i4) := Option.some.inj ei4
  obtain ⟨i5, ei5⟩ := is_v g13
  obtain rfl : w5 = (.int i5) := Option.some.inj ei5
  obtain ⟨n, o, h1, h2, h3, _, L, rfl, ⟨rfl, N⟩, hq⟩ := rm0 l s _ hw tables_1 i0 i1 i2 i3 i4 i5 s.heap s.heap.size (Nat.le_refl _) p e ha hc hk s m _ below hf ((Spec.applies_iff_loose hf).mp happ).1 ⟨rfl, State.Warmed39.refl s, rfl⟩ trivial
  refine ⟨n, _, h1, h2, h3, hpost _ _ _ _ _ _ ⟨Cond.after_iff.mpr rfl, Cond.after_iff.mpr (eq_i res_at (Term.int_eval (1)) rfl), trivial⟩ ⟨hq.1, hq.2.1, (hq.2.2.sift fun y hy => Or.inr (N y hy)).mono (by decide) (by decide)⟩⟩
theorem main_1_1 : Claimed_1_1 := comes_1 fun _ _ _ _ _ _ h hF => ⟨h.1, hF⟩
theorem main_1_2 : Claimed_1_2 := comes_1 fun _ _ _ _ _ _ h hF => ⟨h.2.1, hF⟩
end Jvm.Pilot.@@N@@
namespace Jvm.Pilot.@@N@@
open Jvm Jvm.ClassFile Sem Op Lib Jvm.Free Jvm.Stand Jvm.Pilot.@@N@@.Jvm.D
/-! MADE BY PROGRAM (witnessworld.py) out of the Statement's table words and the real class files: 10 classes; the members and pool entries that the words name. The judged class is class 1, her method 1. -/
namespace start1
open Jvm.ClassFile
def u (s : String) : CpInfo := .utf8 (stringToUtf16 s)
/-- a pool by its gaps: so many unusable entries, then the entry; so many at the end -/
def gap : Nat → List CpInfo → List CpInfo
  | 0, r => r
  | n + 1, r => .unusable :: gap n r
def poolList (es : List (Nat × CpInfo)) (last : Nat) : List CpInfo := es.foldr (fun e r => gap e.1 (e.2 :: r)) (gap last [])
def pool (es : List (Nat × CpInfo)) (last : Nat) : Array CpInfo := ⟨poolList es last⟩
def fileOf (pool : Array CpInfo) (this : Nat) (attrs : Array Attribute := #[]) (ms : Array MethodInfo := #[]) (fl : Nat := 33) (sup : Nat := 0) (ifs : Array Nat := #[]) (fds : Array FieldInfo := #[]) : ClassFile where
  minorVersion := 0
  majorVersion := 65
  constantPool := pool
  accessFlags := fl
  thisClass := this
  superClass := sup
  interfaces := ifs
  fields := fds
  methods := ms
  attributes := attrs
def plain (name : String) (sup : Option ClassId) : Class where
  name := name
  kind := .ordinary
  loader := none
  accessFlags := 33
  super := sup
  interfaces := #[]
  cf := none
  fields := #[]
  methods := #[]
  instanceTypes := #[]
  staticTypes := #[]
  resolved := #[]
  callSites := []
  init := .initialized
  statics := none
  mirror := none

def pool0 : Array CpInfo := pool [(5, u "<init>"), (0, u "()V"), (1, .class_ 10), (1, u "java/lang/Object")] 113

def k0c0 : Code := { maxStack := 0, maxLocals := 1, code := object_method_1_code, exceptionTable := #[], attributes := #[] }
def k0m0 : Method := { name := "<init>", desc := "()V", sig := { parameters := [], returnType := none }, accessFlags := 1, code := some k0c0 }
/-- java/lang/Object -/
def k0 : Class := { plain "java/lang/Object" none with
  accessFlags := 33
  interfaces := #[]
  cf := some (fileOf pool0 8 #[] #[{ accessFlags := 1, nameIndex := 5, descriptorIndex := 6, attributes := #[] }] 33 0 #[] #[])
  fields := #[]
  methods := #[k0m0]
  instanceTypes := #[]
  staticTypes := #[]
  resolved := Array.replicate 124 none
  statics := none }

def pool1 : Array CpInfo := pool [(2, .class_ 4), (1, u "java/lang/Object"), (0, u "<init>"), (0, u "()V"), (0, .class_ 8), (0, u "com/example/grantwell/grantwell/app/BenchCommand$Report"), (0, .methodref 7 10), (0, .nameAndType 5 11), (0, u "(IJIIJJJ)V"), (0, .long 5000), (1, .long 200), (1, .long 2000), (1, .methodref 7 19), (0, .nameAndType 20 21), (0, u "withinBounds"), (0, u "()Z"), (0, .class_ 23), (0, u "com/example/grantwell/grantwell/app/ReportWithinBoundsPinLaw"), (2, u "law"), (0, u "(JJJJII)Z")] 7

def k1m0 : Method := { name := "<init>", desc := "()V", sig := { parameters := [], returnType := none }, accessFlags := 2, code := none }
def k1c1 : Code := { maxStack := 13, maxLocals := 12, code := code, exceptionTable := #[], attributes := #[] }
def k1m1 : Method := { name := "law", desc := "(JJJJII)Z", sig := { parameters := [.long, .long, .long, .long, .int, .int], returnType := some .boolean }, accessFlags := 9, code := some k1c1 }
/-- com/example/grantwell/grantwell/app/ReportWithinBoundsPinLaw -/
def k1 : Class := { plain "com/example/grantwell/grantwell/app/ReportWithinBoundsPinLaw" (some 0) with
  accessFlags := 49
  interfaces := #[]
  cf := some (fileOf pool1 22 #[] #[{ accessFlags := 2, nameIndex := 5, descriptorIndex := 6, attributes := #[] }, { accessFlags := 9, nameIndex := 26, descriptorIndex := 27, attributes := #[] }] 49 2 #[] #[])
  fields := #[]
  methods := #[k1m0, k1m1]
  instanceTypes := #[]
  staticTypes := #[]
  resolved := Array.replicate 35 none
  statics := none }

def pool2 : Array CpInfo := pool [(1, .methodref 2 3), (0, .class_ 4), (0, .nameAndType 5 6), (0, u "java/lang/Object"), (0, u "<init>"), (0, u "()V"), (0, .class_ 8), (0, u "java/lang/Record")] 13

def k2c0 : Code := { maxStack := 1, maxLocals := 1, code := jdk_30_method_1_code, exceptionTable := #[], attributes := #[] }
def k2m0 : Method := { name := "<init>", desc := "()V", sig := { parameters := [], returnType := none }, accessFlags := 4, code := some k2c0 }
/-- java/lang/Record -/
def k2 : Class := { plain "java/lang/Record" (some 0) with
  accessFlags := 1057
  interfaces := #[]
  cf := some (fileOf pool2 7 #[] #[{ accessFlags := 4, nameIndex := 5, descriptorIndex := 6, attributes := #[] }] 1057 2 #[] #[])
  fields := #[]
  methods := #[k2m0]
  instanceTypes := #[]
  staticTypes := #[]
  resolved := Array.replicate 22 none
  statics := none }

def pool3 : Array CpInfo := pool [(1, .methodref 2 3), (0, .class_ 4), (0, .nameAndType 5 6), (0, u "java/lang/Record"), (0, u "<init>"), (0, u "()V"), (0, .fieldref 8 9), (0, .class_ 10), (0, .nameAndType 11 12), (0, u "com/example/grantwell/grantwell/app/BenchCommand$Report"), (0, u "grants"), (0, u "I"), (0, .fieldref 8 14), (0, .nameAndType 15 16), (0, u "loadMillis"), (0, u "J"), (0, .fieldref 8 18), (0, .nameAndType 19 12), (0, u "decisions"), (0, .fieldref 8 21), (0, .nameAndType 22 12), (0, u "allowed"), (0, .fieldref 8 24), (0, .nameAndType 25 16), (0, u "medianTenths"), (0, .fieldref 8 27), (0, .nameAndType 28 16), (0, u "p99Tenths"), (0, .fieldref 8 30), (0, .nameAndType 31 16), (0, u "maxTenths"), (14, .long 200), (7, u "(IJIIJJJ)V"), (23, .long 5000), (1, .long 2000), (20, u "LOAD_MILLIS_BOUND"), (1, u "MEDIAN_TENTHS_BOUND"), (0, u "P99_TENTHS_BOUND"), (9, u "withinBounds"), (0, u "()Z"), (7, .class_ 124), (0, u "com/example/grantwell/grantwell/app/BenchCommand")] 47

def k3c0 : Code := { maxStack := 3, maxLocals := 12, code := prog_6_method_1_code, exceptionTable := #[], attributes := #[] }
def k3m0 : Method := { name := "<init>", desc := "(IJIIJJJ)V", sig := { parameters := [.int, .long, .int, .int, .long, .long, .long], returnType := none }, accessFlags := 0, code := some k3c0 }
def k3c1 : Code := { maxStack := 4, maxLocals := 1, code := prog_6_method_4_code, exceptionTable := #[], attributes := #[] }
def k3m1 : Method := { name := "withinBounds", desc := "()Z", sig := { parameters := [], returnType := some .boolean }, accessFlags := 0, code := some k3c1 }
/-- com/example/grantwell/grantwell/app/BenchCommand$Report -/
def k3 : Class := { plain "com/example/grantwell/grantwell/app/BenchCommand$Report" (some 2) with
  accessFlags := 48
  interfaces := #[]
  cf := some (fileOf pool3 8 #[.nestHost 123] #[{ accessFlags := 0, nameIndex := 5, descriptorIndex := 54, attributes := #[] }, { accessFlags := 0, nameIndex := 114, descriptorIndex := 115, attributes := #[] }] 48 2 #[] #[{ accessFlags := 18, nameIndex := 11, descriptorIndex := 12, attributes := #[] }, { accessFlags := 18, nameIndex := 15, descriptorIndex := 16, attributes := #[] }, { accessFlags := 18, nameIndex := 19, descriptorIndex := 12, attributes := #[] }, { accessFlags := 18, nameIndex := 22, descriptorIndex := 12, attributes := #[] }, { accessFlags := 18, nameIndex := 25, descriptorIndex := 16, attributes := #[] }, { accessFlags := 18, nameIndex := 28, descriptorIndex := 16, attributes := #[] }, { accessFlags := 18, nameIndex := 31, descriptorIndex := 16, attributes := #[] }, { accessFlags := 24, nameIndex := 101, descriptorIndex := 16, attributes := #[] }, { accessFlags := 24, nameIndex := 103, descriptorIndex := 16, attributes := #[] }, { accessFlags := 24, nameIndex := 104, descriptorIndex := 16, attributes := #[] }])
  fields := #[{ name := "grants", type := .int, accessFlags := 18, slot := 0, constantValue := 0 }, { name := "loadMillis", type := .long, accessFlags := 18, slot := 1, constantValue := 0 }, { name := "decisions", type := .int, accessFlags := 18, slot := 2, constantValue := 0 }, { name := "allowed", type := .int, accessFlags := 18, slot := 3, constantValue := 0 }, { name := "medianTenths", type := .long, accessFlags := 18, slot := 4, constantValue := 0 }, { name := "p99Tenths", type := .long, accessFlags := 18, slot := 5, constantValue := 0 }, { name := "maxTenths", type := .long, accessFlags := 18, slot := 6, constantValue := 0 }, { name := "LOAD_MILLIS_BOUND", type := .long, accessFlags := 24, slot := 0, constantValue := 0 }, { name := "MEDIAN_TENTHS_BOUND", type := .long, accessFlags := 24, slot := 1, constantValue := 0 }, { name := "P99_TENTHS_BOUND", type := .long, accessFlags := 24, slot := 2, constantValue := 0 }]
  methods := #[k3m0, k3m1]
  instanceTypes := #[.int, .long, .int, .int, .long, .long, .long]
  staticTypes := #[.long, .long, .long]
  resolved := Array.replicate 172 none
  statics := none }

def pool4 : Array CpInfo := pool [(1, u "java/lang/Cloneable"), (0, .class_ 1), (0, u "java/lang/Object"), (0, .class_ 3)] 3

/-- java/lang/Cloneable -/
def k4 : Class := { plain "java/lang/Cloneable" (some 0) with
  accessFlags := 1537
  interfaces := #[]
  cf := some (fileOf pool4 2 #[] #[] 1537 4 #[] #[])
  fields := #[]
  methods := #[]
  instanceTypes := #[]
  staticTypes := #[]
  resolved := Array.replicate 8 none
  statics := none }

def pool5 : Array CpInfo := pool [(1, u "java/io/Serializable"), (0, .class_ 1), (0, u "java/lang/Object"), (0, .class_ 3)] 3

/-- java/io/Serializable -/
def k5 : Class := { plain "java/io/Serializable" (some 0) with
  accessFlags := 1537
  interfaces := #[]
  cf := some (fileOf pool5 2 #[] #[] 1537 4 #[] #[])
  fields := #[]
  methods := #[]
  instanceTypes := #[]
  staticTypes := #[]
  resolved := Array.replicate 8 none
  statics := none }

/-- the primitive byte -/
def k6 : Class := { plain "byte" none with kind := .primitive 'B', accessFlags := 0x411 }
/-- [B -/
def k7 : Class := { plain "[B" (some 0) with kind := .array 6 .byte, interfaces := #[4, 5], accessFlags := 1041 }

/-- the primitive int -/
def k8 : Class := { plain "int" none with kind := .primitive 'I', accessFlags := 0x411 }
/-- [I -/
def k9 : Class := { plain "[I" (some 0) with kind := .array 8 .int, interfaces := #[4, 5], accessFlags := 1041 }

def heap : Heap := #[]
def classes : Array Class := #[k0, k1, k2, k3, k4, k5, k6, k7, k8, k9]
def interned : List (Array UInt16 × Addr) := []
def slotsUsed : Nat := 0
def theMethod : MethodId := ⟨1, 1⟩
def args0 : Array Value := #[.long 5, .long 6, .long 7, .long 8, .int 5, .int 300]
def aboutOver (below : List Frame) : State where
  vm := { classes := classes, interned := interned.toArray }
  heap := heap
  slotsUsed := slotsUsed
  threads := #[{ frames := .invoking theMethod args0 :: below }]
def below0 : List Frame := [.native { method := ⟨0, 0⟩, args := #[] }]
def about1 : State := aboutOver below0
def p0 : Program := .bare "" "" ""
def e0 : Env := launch0.env 0 0 0
theorem w_frames : about1.frames = Frame.invoking theMethod args0 :: below0 := rfl
set_option maxRecDepth 65536 in
theorem w_args : argsFit about1.vm theMethod args0 = true := by decide +kernel
set_option maxRecDepth 65536 in
theorem w_heap : heapFits about1 = true := by decide +kernel
set_option maxRecDepth 65536 in
theorem w_runnable : about1.curStatus? = some .runnable := by decide +kernel
set_option maxRecDepth 65536 in
theorem w_alone : about1.alone = true := by decide +kernel
set_option maxRecDepth 65536 in
theorem w_named : about1.methodNamed? x = some theMethod := by decide +kernel
set_option maxRecDepth 65536 in
theorem w_hears : about1.hears theMethod below0 = true := by decide +kernel
set_option maxRecDepth 65536 in
theorem w_ripe : about1.ripe theMethod args0 below0 = true := by decide +kernel
theorem w_running : about1.status = .running := rfl
set_option maxRecDepth 65536 in
theorem w_room : about1.hasRoom e0.platform room_1 = true :=
  launch0.hasRoom_least _ room_1 (by decide +kernel) (by decide +kernel) (by decide +kernel) (by decide +kernel) (by decide +kernel) (by decide +kernel)
theorem allAtoms_all (ts : List Jvm.Cond) (a : Array Jvm.Value) (st : Jvm.State) : (allAtoms ts).before a st = ts.all (fun c => c.before a st) := by
  induction ts with
  | nil => rfl
  | cons c t ih =>
    show (Jvm.Cond.and c (allAtoms t)).before a st = _
    rw [Jvm.Cond.before_and, ih, List.all_cons]
def words1 : List Jvm.Cond := Jvm.Cond.code x code maxLocals ret :: tables_1
/-- a 'code' word, met by the world's own term for the bytes: nothing is compared byte by byte -/
theorem code_word {y : MethodName} {bytes : ByteArray} {mx : Nat} {rt : Option FieldType} {a : Array Value} {s : State} {m : MethodId} {meth : Method} {c : Code} (h1 : s.methodNamed? y = some m) (h2 : s.vm.method? m = some meth) (h3 : meth.code = some c) (h4 : c.code = bytes)
    (h5 : (c.maxLocals == mx && c.exceptionTable.isEmpty && decide (c.maxStack ≤ mostOperands) && decide (meth.sig.returnType = rt) && !meth.locks && decide (parseMethodDescriptor y.desc = some meth.sig)) = true) : (Jvm.Cond.code y bytes mx rt).before a s = true := by
  simp only [Bool.and_eq_true, beq_iff_eq, Bool.not_eq_true', decide_eq_true_eq] at h5
  obtain ⟨⟨⟨⟨⟨g1, g2⟩, g3⟩, g4⟩, g5⟩, g6⟩ := h5
  simp [Cond.before, Cond.holds, Cond.value, h1, h2, h3, h4, g1, g2, g3, g4, g5, g6]
def isCode : Jvm.Cond → Bool
  | .code _ _ _ _ => true
  | _ => false
theorem all_split {L : List Jvm.Cond} {P : Jvm.Cond → Bool} (h1 : L.all (fun c => isCode c || P c) = true) (h2 : ∀ c ∈ L.filter isCode, P c = true) : L.all P = true := by
  refine List.all_eq_true.mpr fun c hc => ?_
  have h := List.all_eq_true.mp h1 c hc
  rcases Bool.eq_false_or_eq_true (isCode c) with hi | hi
  · exact h2 c (List.mem_filter.mpr ⟨hc, hi⟩)
  · simpa [hi] using h
set_option maxRecDepth 65536 in
theorem w_c0 : (Jvm.Cond.code x code maxLocals ret).before args0 about1 = true := code_word (m := ⟨1, 1⟩) (meth := k1m1) (c := k1c1) (by decide +kernel) rfl rfl rfl (by decide +kernel)
set_option maxRecDepth 65536 in
theorem w_c1 : (Jvm.Cond.code ({ cls := "com/example/grantwell/grantwell/app/BenchCommand$Report", name := "<init>", desc := "(IJIIJJJ)V" } : Jvm.MethodName) prog_6_method_1_code (12 : Nat) (Option.none : Option Jvm.ClassFile.FieldType)).before args0 about1 = true := code_word (m := ⟨3, 0⟩) (meth := k3m0) (c := k3c0) (by decide +kernel) rfl rfl rfl (by decide +kernel)
set_option maxRecDepth 65536 in
theorem w_c2 : (Jvm.Cond.code ({ cls := "java/lang/Record", name := "<init>", desc := "()V" } : Jvm.MethodName) jdk_30_method_1_code (1 : Nat) (Option.none : Option Jvm.ClassFile.FieldType)).before args0 about1 = true := code_word (m := ⟨2, 0⟩) (meth := k2m0) (c := k2c0) (by decide +kernel) rfl rfl rfl (by decide +kernel)
set_option maxRecDepth 65536 in
theorem w_c3 : (Jvm.Cond.code ({ cls := "java/lang/Object", name := "<init>", desc := "()V" } : Jvm.MethodName) object_method_1_code (1 : Nat) (Option.none : Option Jvm.ClassFile.FieldType)).before args0 about1 = true := code_word (m := ⟨0, 0⟩) (meth := k0m0) (c := k0c0) (by decide +kernel) rfl rfl rfl (by decide +kernel)
set_option maxRecDepth 65536 in
theorem w_c4 : (Jvm.Cond.code ({ cls := "com/example/grantwell/grantwell/app/BenchCommand$Report", name := "withinBounds", desc := "()Z" } : Jvm.MethodName) prog_6_method_4_code (1 : Nat) (Option.some Jvm.ClassFile.FieldType.boolean)).before args0 about1 = true := code_word (m := ⟨3, 1⟩) (meth := k3m1) (c := k3c1) (by decide +kernel) rfl rfl rfl (by decide +kernel)
def codes1 : List Jvm.Cond := [Jvm.Cond.code x code maxLocals ret, Jvm.Cond.code ({ cls := "com/example/grantwell/grantwell/app/BenchCommand$Report", name := "<init>", desc := "(IJIIJJJ)V" } : Jvm.MethodName) prog_6_method_1_code (12 : Nat) (Option.none : Option Jvm.ClassFile.FieldType), Jvm.Cond.code ({ cls := "java/lang/Record", name := "<init>", desc := "()V" } : Jvm.MethodName) jdk_30_method_1_code (1 : Nat) (Option.none : Option Jvm.ClassFile.FieldType), Jvm.Cond.code ({ cls := "java/lang/Object", name := "<init>", desc := "()V" } : Jvm.MethodName) object_method_1_code (1 : Nat) (Option.none : Option Jvm.ClassFile.FieldType), Jvm.Cond.code ({ cls := "com/example/grantwell/grantwell/app/BenchCommand$Report", name := "withinBounds", desc := "()Z" } : Jvm.MethodName) prog_6_method_4_code (1 : Nat) (Option.some Jvm.ClassFile.FieldType.boolean)]
set_option maxRecDepth 65536 in
theorem codes_eq : words1.filter isCode = codes1 := rfl
theorem w_codes : ∀ c ∈ words1.filter isCode, c.before args0 about1 = true := by
  rw [codes_eq]
  intro c hc
  simp only [codes1, List.mem_cons, List.not_mem_nil, or_false] at hc
  rcases hc with rfl | rfl | rfl | rfl | rfl
  · exact w_c0
  · exact w_c1
  · exact w_c2
  · exact w_c3
  · exact w_c4
set_option maxRecDepth 65536 in
theorem w_t1 : (words1.take 24).all (fun c => isCode c || c.before args0 about1) = true := by decide +kernel
set_option maxRecDepth 65536 in
theorem w_t2 : (words1.drop 24).all (fun c => isCode c || c.before args0 about1) = true := by decide +kernel
theorem w_tables : (allAtoms (Jvm.Cond.code x code maxLocals ret :: tables_1)).before args0 about1 = true := by
  rw [allAtoms_all]
  show words1.all (fun c => c.before args0 about1) = true
  refine all_split ?_ w_codes
  rw [← List.take_append_drop 24 words1, List.all_append, w_t1, w_t2]
  rfl
set_option maxRecDepth 65536 in
theorem w_case : (Jvm.Cond.and given_1 narrow_1).before args0 about1 = true := by decide +kernel
theorem w_applies : (headSpec (Jvm.Cond.code x code maxLocals ret :: tables_1) room_1).applies x e0.platform about1 = true :=
  (Spec.applies_iff w_frames).mpr ⟨w_running, w_runnable, w_alone, w_named, w_hears, w_ripe, w_room, w_tables⟩
theorem atStart : AtStart classFile x code maxLocals ret World_1 tables_1 room_1 Calls_1 rest_1 Pre_1 launch0 p0 e0 about1 theMethod args0 below0 :=
  ⟨lists_1, trivial, launch0.admits_env _ _ _, launch0.least_env, fairChoices_fair.cas, fairChoices_fair.clock, w_frames, w_args, w_heap, w_applies, trivial, trivial, w_case⟩
end start1
theorem witness_1 : WitnessClaimed_1 := ⟨start1.p0, start1.e0, start1.about1, start1.theMethod, start1.args0, start1.below0, start1.atStart⟩
end Jvm.Pilot.@@N@@
