import JvmDerived
import JvmDerived.Pilot.@@N@@Statement
import JvmDerived.Pilot.@@N@@Code
set_option linter.unusedVariables false
set_option linter.unusedSimpArgs false
namespace Jvm.RoadKit
open Sem ClassFile Op Lib Jvm.Stand Jvm.Free Jvm.LawKit
section New
variable {p : Program} {l : Launch} {e : Env} {R : Room} {s : State} {m : MethodId} {args : Array Value} {below : List Frame} {meth : Method} {c : Code} {T : State} {locs : List Loc} {cells slots : Nat}
theorem retI (X : Stand p l e R s m args below meth c T locs cells slots) (hx : p.tables.exec = Jvm.exec) {pc : Nat} {Ls : Array Slot} {z : Int32} {rest : List Value} (hret : meth.sig.returnType = some .int) (hd : decode c.code pc = .ok (.ireturn, 1)) {fs : List Frame}
    (hl : ∀ (f : JFrame) (acts : List Action), f.method = m → f.locked = none → f.entered = [] → (doReturn e (T.setTop f) acts (some (.int z))).1 = T.setFrames fs) : Steps p.tables e below (T.setTop (mkF m pc Ls (.int z :: rest))) (T.setFrames fs) := by
  have hm' : T.vm.method? m = some meth := X.method'
  have hn : narrow .int (.int z) = .int z := rfl
  show Steps p.tables e below (T.setTop { method := m, pc := pc, locals := Ls, stack := _ :: rest, locked := none }) _
  jvm_step X.here [X.here.top, hx, hd, hm', hret, hn]
  first | (intro acts; rw [hl _ acts rfl rfl rfl]) | rw [hl _ _ rfl rfl rfl]
  exact Steps.refl _
end New
end Jvm.RoadKit
namespace Jvm.Pilot.@@N@@
open Jvm Jvm.ClassFile Sem Op Lib Jvm.Free Jvm.Stand Jvm.LawKit Jvm.RoadKit Bundle Jvm.Pilot.@@N@@.Jvm.D
theorem own_go {tb : Tables} {e : Env} {below : List Frame} {A B : State} {P : State → Outcome → Prop} (st : ∀ t, Steps tb e below B t → Steps tb e below A t) (h : ∃ s₂ o, Steps tb e below B s₂ ∧ P s₂ o) : ∃ s₂ o, Steps tb e below A s₂ ∧ P s₂ o := by
  obtain ⟨s₂, o, h1, h2⟩ := h
  exact ⟨s₂, o, st _ h1, h2⟩
theorem own_gj {tb : Tables} {e : Env} {below : List Frame} {A B : State} {P : State → Heap → List Loc → Prop} {F : State → State} (st : ∀ t, Steps tb e below B t → Steps tb e below A t) (h : ∃ T' h' L', P T' h' L' ∧ ∀ t, Steps tb e below (F T') t → Steps tb e below B t) : ∃ T' h' L', P T' h' L' ∧ ∀ t, Steps tb e below (F T') t → Steps tb e below A t := by
  obtain ⟨T', h', L', h1, h2⟩ := h
  exact ⟨T', h', L', h1, fun t k => st t (h2 t k)⟩
theorem own_stak {Z : State} {h h' : Heap} {C n d : String} {v : Value} (F : Sta Z h C n d v) (K : Keep h h' []) : Sta Z h' C n d v := by
  obtain ⟨cf, i, k, f, st, cell, h1, h2, h3, h4, h5, r⟩ := F
  exact ⟨cf, i, k, f, st, cell, h1, h2, h3, h4, K.2.1 _ _ h5 nin0, r⟩
def own_min (a b : Int64) : Int64 := if (0 : Int32) < (lcmpW a b) then b else a
def own_max (a b : Int64) : Int64 := if (lcmpW a b) < (0 : Int32) then b else a
def own_exp (a : Int64) : Int32 := if (0 : Int32) < (lcmpW a (0 : Int64)) then (1 : Int32) else (0 : Int32)
theorem d1_0 : decode jdk_29_method_70_code 0 = .ok (.lload_n 0, 1) := by decide +kernel
theorem d1_1 : decode jdk_29_method_70_code 1 = .ok (.lload_n 2, 1) := by decide +kernel
theorem d1_2 : decode jdk_29_method_70_code 2 = .ok (.lcmp, 1) := by decide +kernel
theorem d1_3 : decode jdk_29_method_70_code 3 = .ok (.ifCond .gt 7, 3) := by decide +kernel
theorem d1_6 : decode jdk_29_method_70_code 6 = .ok (.lload_n 0, 1) := by decide +kernel
theorem d1_7 : decode jdk_29_method_70_code 7 = .ok (.goto 4, 3) := by decide +kernel
theorem d1_10 : decode jdk_29_method_70_code 10 = .ok (.lload_n 2, 1) := by decide +kernel
theorem d1_11 : decode jdk_29_method_70_code 11 = .ok (.lreturn, 1) := by decide +kernel
theorem ef_1 (m : MethodId) (q0 : Int64) (q1 : Int64) : entryFrame m #[(.long q0), (.long q1)] 4 = mkF m 0 #[.val (.long q0), .second, .val (.long q1), .second] [] := by first | (simp [entryFrame, mkF, argsToLocals, Value.category]; done) | rfl
def Q1 (Z : State) (q0 : Int64) (q1 : Int64) (h0 : Heap) (n0 : Nat) (v : Option Value) (h : Heap) (L : List Loc) : Prop := v = some (.long (own_min q0 q1)) ∧ Fr n0 L ∧ h = h0
set_option maxRecDepth 65536 in
set_option maxHeartbeats 40000000 in
theorem rm1 (l : Launch) (Z : State) (av0 : Array Value) (hw : ∀ d ∈ tables_1, d.before av0 Z = true) (ws : List Jvm.Cond) (q0 : Int64) (q1 : Int64) (h0 : Heap) (n0 : Nat) (Z0 : n0 ≤ h0.size) :
    MetFree l (⟨"java/lang/Math", "min", "(JJ)J"⟩ : MethodName) (head1 (Jvm.Cond.code (⟨"java/lang/Math", "min", "(JJ)J"⟩ : MethodName) jdk_29_method_70_code 4 (some .long) :: ws) ({ frames := 0, cells := 0, slots := 0, locals := 0 } : Room)) (fun a U => a = #[(.long q0), (.long q1)] ∧ Z.Warmed39 U.vm ∧ U.heap = h0) (fun _ _ _ _ _ => True) (fun _ U o U' => ∃ v L, o = .returned v ∧ Q1 Z q0 q1 h0 n0 v U'.heap L ∧ FrameEnd U o U' L ({ frames := 0, cells := 0, slots := 0, locals := 0 } : Room).cells ({ frames := 0, cells := 0, slots := 0, locals := 0 } : Room).slots) := by
  refine MetFree.of_bodySF (Jvm.Free.JP.mathPlain rfl (by decide +kernel)) hisR ?_
  intro p e s m args below meth c s₁ Bd hml0 hP hK
  obtain ⟨rfl, hZ, hh⟩ := hP
  have hx := Bd.exec
  have hby := Bd.bytes
  have hml : c.maxLocals = 4 := hml0
  have hown : s.vm.findClass "java/lang/Math" = some m.cls := findClass_of_methodNamed Bd.named
  have hnm := (name_of_methodNamed Bd.named Bd.method).1
  have X0 : Stand p l e ({ frames := 0, cells := 0, slots := 0, locals := 0 } : Room) s m #[(.long q0), (.long q1)] below meth c s₁ [] 0 0 := Stand.of_body Bd
  have e0 : s₁.heap = h0 := by rw [← hh, Bd.state]; rfl
  have N0 := Fr.nil n0
  have K0 : Keep h0 h0 [] := Keep.refl h0 []
  refine own_go (B := s₁.setTop (mkF m 0 #[.val (.long q0), .second, .val (.long q1), .second] [])) (fun t k => castTop (ef_1 m q0 q1) k) ?_
  refine own_go (B := s₁.setTop (mkF m 3 #[.val (.long q0), .second, .val (.long q1), .second] [(.int (lcmpW q0 q1))])) (fun t k => ?_) ?_
  · show Steps p.tables e below (s₁.setTop (mkF m 0 #[.val (.long q0), .second, .val (.long q1), .second] [])) _
    refine XS.lloadN X0.here hx rfl (hb hby d1_0) rfl ?_
    show Steps p.tables e below (s₁.setTop (mkF m 1 #[.val (.long q0), .second, .val (.long q1), .second] [(.long q0)])) _
    refine XS.lloadN X0.here hx rfl (hb hby d1_1) rfl ?_
    show Steps p.tables e below (s₁.setTop (mkF m 2 #[.val (.long q0), .second, .val (.long q1), .second] [(.long q1), (.long q0)])) _
    refine XS.lcmp X0.here hx rfl (hb hby d1_2) rfl ?_
    exact k
  obtain ⟨zv1, hzv1⟩ : ∃ z : Int64, z = (if (0 : Int32) < (lcmpW q0 q1) then q1 else q0) := ⟨_, rfl⟩
  refine own_go (B := s₁.setTop (mkF m 11 #[.val (.long q0), .second, .val (.long q1), .second] [(.long zv1)])) (fun t k => ?_) ?_
  · show Steps p.tables e below (s₁.setTop (mkF m 3 #[.val (.long q0), .second, .val (.long q1), .second] [(.int (lcmpW q0 q1))])) _
    by_cases hc3 : (0 : Int32) < (lcmpW q0 q1)
    · refine XS.ifYes X0.here hx rfl (pc0 := 3) (pc' := 10) rfl (hb hby d1_3) rfl ((if0 _ _).trans (tlt hc3).2.2.1) (by decide) (by decide) ?_
      show Steps p.tables e below (s₁.setTop (mkF m 10 #[.val (.long q0), .second, .val (.long q1), .second] [])) _
      refine XS.lloadN X0.here hx rfl (hb hby d1_10) rfl ?_
      show Steps p.tables e below (s₁.setTop (mkF m 11 #[.val (.long q0), .second, .val (.long q1), .second] [(.long q1)])) _
      rw [show zv1 = q1 from by simp only [hzv1, if_pos hc3]] at k
      exact k
    · refine XS.ifNo X0.here hx rfl (hb hby d1_3) rfl ((if0 _ _).trans (flt hc3).2.2.1) ?_
      show Steps p.tables e below (s₁.setTop (mkF m 6 #[.val (.long q0), .second, .val (.long q1), .second] [])) _
      refine XS.lloadN X0.here hx rfl (hb hby d1_6) rfl ?_
      show Steps p.tables e below (s₁.setTop (mkF m 7 #[.val (.long q0), .second, .val (.long q1), .second] [(.long q0)])) _
      refine XS.goto X0.here hx rfl (pc0 := 7) (pc' := 11) rfl (hb hby d1_7) (by decide) (by decide) ?_
      show Steps p.tables e below (s₁.setTop (mkF m 11 #[.val (.long q0), .second, .val (.long q1), .second] [(.long q0)])) _
      rw [show zv1 = q0 from by simp only [hzv1, if_neg hc3]] at k
      exact k
  obtain ⟨fs, hr, hrun, hended, hW, hsame⟩ := X0.leave (v := some (.long zv1)) (fun h => by rw [Bd.returns] at h; cases h)
  refine ⟨_, _, ?_, hrun, hended, _, _, rfl, ?_, ⟨_, rfl⟩, hW, hsame.mono (by decide) (by decide)⟩
  · show Steps p.tables e below (s₁.setTop (mkF m 11 #[.val (.long q0), .second, .val (.long q1), .second] [(.long zv1)])) _
    jvm_step X0.here [X0.here.top, hx, (hb hby d1_11), X0.method', Bd.returns, narrow]
    first | (intro acts; rw [hr _ acts rfl rfl rfl]) | rw [hr _ _ rfl rfl rfl]
    exact Steps.refl _
  · show Q1 Z q0 q1 h0 n0 _ s₁.heap _
    rw [e0]
    exact ⟨by rw [hzv1]; rfl, N0, rfl⟩
theorem d2_0 : decode jdk_29_method_66_code 0 = .ok (.lload_n 0, 1) := by decide +kernel
theorem d2_1 : decode jdk_29_method_66_code 1 = .ok (.lload_n 2, 1) := by decide +kernel
theorem d2_2 : decode jdk_29_method_66_code 2 = .ok (.lcmp, 1) := by decide +kernel
theorem d2_3 : decode jdk_29_method_66_code 3 = .ok (.ifCond .lt 7, 3) := by decide +kernel
theorem d2_6 : decode jdk_29_method_66_code 6 = .ok (.lload_n 0, 1) := by decide +kernel
theorem d2_7 : decode jdk_29_method_66_code 7 = .ok (.goto 4, 3) := by decide +kernel
theorem d2_10 : decode jdk_29_method_66_code 10 = .ok (.lload_n 2, 1) := by decide +kernel
theorem d2_11 : decode jdk_29_method_66_code 11 = .ok (.lreturn, 1) := by decide +kernel
theorem ef_2 (m : MethodId) (q0 : Int64) (q1 : Int64) : entryFrame m #[(.long q0), (.long q1)] 4 = mkF m 0 #[.val (.long q0), .second, .val (.long q1), .second] [] := by first | (simp [entryFrame, mkF, argsToLocals, Value.category]; done) | rfl
def Q2 (Z : State) (q0 : Int64) (q1 : Int64) (h0 : Heap) (n0 : Nat) (v : Option Value) (h : Heap) (L : List Loc) : Prop := v = some (.long (own_max q0 q1)) ∧ Fr n0 L ∧ h = h0
set_option maxRecDepth 65536 in
set_option maxHeartbeats 40000000 in
theorem rm2 (l : Launch) (Z : State) (av0 : Array Value) (hw : ∀ d ∈ tables_1, d.before av0 Z = true) (ws : List Jvm.Cond) (q0 : Int64) (q1 : Int64) (h0 : Heap) (n0 : Nat) (Z0 : n0 ≤ h0.size) :
    MetFree l (⟨"java/lang/Math", "max", "(JJ)J"⟩ : MethodName) (head1 (Jvm.Cond.code (⟨"java/lang/Math", "max", "(JJ)J"⟩ : MethodName) jdk_29_method_66_code 4 (some .long) :: ws) ({ frames := 0, cells := 0, slots := 0, locals := 0 } : Room)) (fun a U => a = #[(.long q0), (.long q1)] ∧ Z.Warmed39 U.vm ∧ U.heap = h0) (fun _ _ _ _ _ => True) (fun _ U o U' => ∃ v L, o = .returned v ∧ Q2 Z q0 q1 h0 n0 v U'.heap L ∧ FrameEnd U o U' L ({ frames := 0, cells := 0, slots := 0, locals := 0 } : Room).cells ({ frames := 0, cells := 0, slots := 0, locals := 0 } : Room).slots) := by
  refine MetFree.of_bodySF (Jvm.Free.JP.mathPlain rfl (by decide +kernel)) hisR ?_
  intro p e s m args below meth c s₁ Bd hml0 hP hK
  obtain ⟨rfl, hZ, hh⟩ := hP
  have hx := Bd.exec
  have hby := Bd.bytes
  have hml : c.maxLocals = 4 := hml0
  have hown : s.vm.findClass "java/lang/Math" = some m.cls := findClass_of_methodNamed Bd.named
  have hnm := (name_of_methodNamed Bd.named Bd.method).1
  have X0 : Stand p l e ({ frames := 0, cells := 0, slots := 0, locals := 0 } : Room) s m #[(.long q0), (.long q1)] below meth c s₁ [] 0 0 := Stand.of_body Bd
  have e0 : s₁.heap = h0 := by rw [← hh, Bd.state]; rfl
  have N0 := Fr.nil n0
  have K0 : Keep h0 h0 [] := Keep.refl h0 []
  refine own_go (B := s₁.setTop (mkF m 0 #[.val (.long q0), .second, .val (.long q1), .second] [])) (fun t k => castTop (ef_2 m q0 q1) k) ?_
  refine own_go (B := s₁.setTop (mkF m 3 #[.val (.long q0), .second, .val (.long q1), .second] [(.int (lcmpW q0 q1))])) (fun t k => ?_) ?_
  · show Steps p.tables e below (s₁.setTop (mkF m 0 #[.val (.long q0), .second, .val (.long q1), .second] [])) _
    refine XS.lloadN X0.here hx rfl (hb hby d2_0) rfl ?_
    show Steps p.tables e below (s₁.setTop (mkF m 1 #[.val (.long q0), .second, .val (.long q1), .second] [(.long q0)])) _
    refine XS.lloadN X0.here hx rfl (hb hby d2_1) rfl ?_
    show Steps p.tables e below (s₁.setTop (mkF m 2 #[.val (.long q0), .second, .val (.long q1), .second] [(.long q1), (.long q0)])) _
    refine XS.lcmp X0.here hx rfl (hb hby d2_2) rfl ?_
    exact k
  obtain ⟨zv1, hzv1⟩ : ∃ z : Int64, z = (if (lcmpW q0 q1) < (0 : Int32) then q1 else q0) := ⟨_, rfl⟩
  refine own_go (B := s₁.setTop (mkF m 11 #[.val (.long q0), .second, .val (.long q1), .second] [(.long zv1)])) (fun t k => ?_) ?_
  · show Steps p.tables e below (s₁.setTop (mkF m 3 #[.val (.long q0), .second, .val (.long q1), .second] [(.int (lcmpW q0 q1))])) _
    by_cases hc3 : (lcmpW q0 q1) < (0 : Int32)
    · refine XS.ifYes X0.here hx rfl (pc0 := 3) (pc' := 10) rfl (hb hby d2_3) rfl ((if0 _ _).trans (tlt hc3).1) (by decide) (by decide) ?_
      show Steps p.tables e below (s₁.setTop (mkF m 10 #[.val (.long q0), .second, .val (.long q1), .second] [])) _
      refine XS.lloadN X0.here hx rfl (hb hby d2_10) rfl ?_
      show Steps p.tables e below (s₁.setTop (mkF m 11 #[.val (.long q0), .second, .val (.long q1), .second] [(.long q1)])) _
      rw [show zv1 = q1 from by simp only [hzv1, if_pos hc3]] at k
      exact k
    · refine XS.ifNo X0.here hx rfl (hb hby d2_3) rfl ((if0 _ _).trans (flt hc3).1) ?_
      show Steps p.tables e below (s₁.setTop (mkF m 6 #[.val (.long q0), .second, .val (.long q1), .second] [])) _
      refine XS.lloadN X0.here hx rfl (hb hby d2_6) rfl ?_
      show Steps p.tables e below (s₁.setTop (mkF m 7 #[.val (.long q0), .second, .val (.long q1), .second] [(.long q0)])) _
      refine XS.goto X0.here hx rfl (pc0 := 7) (pc' := 11) rfl (hb hby d2_7) (by decide) (by decide) ?_
      show Steps p.tables e below (s₁.setTop (mkF m 11 #[.val (.long q0), .second, .val (.long q1), .second] [(.long q0)])) _
      rw [show zv1 = q0 from by simp only [hzv1, if_neg hc3]] at k
      exact k
  obtain ⟨fs, hr, hrun, hended, hW, hsame⟩ := X0.leave (v := some (.long zv1)) (fun h => by rw [Bd.returns] at h; cases h)
  refine ⟨_, _, ?_, hrun, hended, _, _, rfl, ?_, ⟨_, rfl⟩, hW, hsame.mono (by decide) (by decide)⟩
  · show Steps p.tables e below (s₁.setTop (mkF m 11 #[.val (.long q0), .second, .val (.long q1), .second] [(.long zv1)])) _
    jvm_step X0.here [X0.here.top, hx, (hb hby d2_11), X0.method', Bd.returns, narrow]
    first | (intro acts; rw [hr _ acts rfl rfl rfl]) | rw [hr _ _ rfl rfl rfl]
    exact Steps.refl _
  · show Q2 Z q0 q1 h0 n0 _ s₁.heap _
    rw [e0]
    exact ⟨by rw [hzv1]; rfl, N0, rfl⟩
theorem d3_0 : decode prog_55_method_6_code 0 = .ok (.lload_n 0, 1) := by decide +kernel
theorem d3_1 : decode prog_55_method_6_code 1 = .ok (.lconst 0, 1) := by decide +kernel
theorem d3_2 : decode prog_55_method_6_code 2 = .ok (.lcmp, 1) := by decide +kernel
theorem d3_3 : decode prog_55_method_6_code 3 = .ok (.ifCond .le 7, 3) := by decide +kernel
theorem d3_6 : decode prog_55_method_6_code 6 = .ok (.iconst 1, 1) := by decide +kernel
theorem d3_7 : decode prog_55_method_6_code 7 = .ok (.goto 4, 3) := by decide +kernel
theorem d3_10 : decode prog_55_method_6_code 10 = .ok (.iconst 0, 1) := by decide +kernel
theorem d3_11 : decode prog_55_method_6_code 11 = .ok (.ireturn, 1) := by decide +kernel
theorem pn_3 : plainName "com/example/stackwright/stackwright/MeterReadings" = true := by first | (simp [plainName, overriddenIn]; done) | decide +kernel
theorem ef_3 (m : MethodId) (q0 : Int64) : entryFrame m #[(.long q0)] 2 = mkF m 0 #[.val (.long q0), .second] [] := by first | (simp [entryFrame, mkF, argsToLocals, Value.category]; done) | rfl
def Q3 (Z : State) (q0 : Int64) (h0 : Heap) (n0 : Nat) (v : Option Value) (h : Heap) (L : List Loc) : Prop := v = some (.int (own_exp q0)) ∧ Fr n0 L ∧ h = h0
set_option maxRecDepth 65536 in
set_option maxHeartbeats 40000000 in
theorem rm3 (l : Launch) (Z : State) (av0 : Array Value) (hw : ∀ d ∈ tables_1, d.before av0 Z = true) (ws : List Jvm.Cond) (q0 : Int64) (h0 : Heap) (n0 : Nat) (Z0 : n0 ≤ h0.size) :
    MetFree l (⟨"com/example/stackwright/stackwright/MeterReadings", "isExport", "(J)Z"⟩ : MethodName) (head1 (Jvm.Cond.code (⟨"com/example/stackwright/stackwright/MeterReadings", "isExport", "(J)Z"⟩ : MethodName) prog_55_method_6_code 2 (some .boolean) :: ws) ({ frames := 0, cells := 0, slots := 0, locals := 0 } : Room)) (fun a U => a = #[(.long q0)] ∧ Z.Warmed39 U.vm ∧ U.heap = h0) (fun _ _ _ _ _ => True) (fun _ U o U' => ∃ v L, o = .returned v ∧ Q3 Z q0 h0 n0 v U'.heap L ∧ FrameEnd U o U' L ({ frames := 0, cells := 0, slots := 0, locals := 0 } : Room).cells ({ frames := 0, cells := 0, slots := 0, locals := 0 } : Room).slots) := by
  refine MetFree.of_bodySF (plainFor_of_name pn_3) hisR ?_
  intro p e s m args below meth c s₁ Bd hml0 hP hK
  obtain ⟨rfl, hZ, hh⟩ := hP
  have hx := Bd.exec
  have hby := Bd.bytes
  have hml : c.maxLocals = 2 := hml0
  have hown : s.vm.findClass "com/example/stackwright/stackwright/MeterReadings" = some m.cls := findClass_of_methodNamed Bd.named
  have hnm := (name_of_methodNamed Bd.named Bd.method).1
  have X0 : Stand p l e ({ frames := 0, cells := 0, slots := 0, locals := 0 } : Room) s m #[(.long q0)] below meth c s₁ [] 0 0 := Stand.of_body Bd
  have e0 : s₁.heap = h0 := by rw [← hh, Bd.state]; rfl
  have N0 := Fr.nil n0
  have K0 : Keep h0 h0 [] := Keep.refl h0 []
  refine own_go (B := s₁.setTop (mkF m 0 #[.val (.long q0), .second] [])) (fun t k => castTop (ef_3 m q0) k) ?_
  refine own_go (B := s₁.setTop (mkF m 3 #[.val (.long q0), .second] [(.int (lcmpW q0 (0 : Int64)))])) (fun t k => ?_) ?_
  · show Steps p.tables e below (s₁.setTop (mkF m 0 #[.val (.long q0), .second] [])) _
    refine XS.lloadN X0.here hx rfl (hb hby d3_0) rfl ?_
    show Steps p.tables e below (s₁.setTop (mkF m 1 #[.val (.long q0), .second] [(.long q0)])) _
    refine XS.lconst X0.here hx rfl (hb hby d3_1) ?_
    show Steps p.tables e below (s₁.setTop (mkF m 2 #[.val (.long q0), .second] [(.long (0 : Int64)), (.long q0)])) _
    refine XS.lcmp X0.here hx rfl (hb hby d3_2) rfl ?_
    exact k
  obtain ⟨zv1, hzv1⟩ : ∃ z : Int32, z = (if (0 : Int32) < (lcmpW q0 (0 : Int64)) then (1 : Int32) else (0 : Int32)) := ⟨_, rfl⟩
  refine own_go (B := s₁.setTop (mkF m 11 #[.val (.long q0), .second] [(.int zv1)])) (fun t k => ?_) ?_
  · show Steps p.tables e below (s₁.setTop (mkF m 3 #[.val (.long q0), .second] [(.int (lcmpW q0 (0 : Int64)))])) _
    by_cases hc3 : (0 : Int32) < (lcmpW q0 (0 : Int64))
    · refine XS.ifNo X0.here hx rfl (hb hby d3_3) rfl ((if0 _ _).trans (tlt hc3).2.2.2) ?_
      show Steps p.tables e below (s₁.setTop (mkF m 6 #[.val (.long q0), .second] [])) _
      refine XS.iconst X0.here hx rfl (hb hby d3_6) ?_
      show Steps p.tables e below (s₁.setTop (mkF m 7 #[.val (.long q0), .second] [(.int (1 : Int32))])) _
      refine XS.goto X0.here hx rfl (pc0 := 7) (pc' := 11) rfl (hb hby d3_7) (by decide) (by decide) ?_
      show Steps p.tables e below (s₁.setTop (mkF m 11 #[.val (.long q0), .second] [(.int (1 : Int32))])) _
      rw [show zv1 = (1 : Int32) from by simp only [hzv1, if_pos hc3]] at k
      exact k
    · refine XS.ifYes X0.here hx rfl (pc0 := 3) (pc' := 10) rfl (hb hby d3_3) rfl ((if0 _ _).trans (flt hc3).2.2.2) (by decide) (by decide) ?_
      show Steps p.tables e below (s₁.setTop (mkF m 10 #[.val (.long q0), .second] [])) _
      refine XS.iconst X0.here hx rfl (hb hby d3_10) ?_
      show Steps p.tables e below (s₁.setTop (mkF m 11 #[.val (.long q0), .second] [(.int (0 : Int32))])) _
      rw [show zv1 = (0 : Int32) from by simp only [hzv1, if_neg hc3]] at k
      exact k
  obtain ⟨fs, hr, hrun, hended, hW, hsame⟩ := X0.leave (v := some (.int (nar .boolean zv1))) (fun h => by rw [Bd.returns] at h; cases h)
  refine ⟨_, _, ?_, hrun, hended, _, _, rfl, ?_, ⟨_, rfl⟩, hW, hsame.mono (by decide) (by decide)⟩
  · show Steps p.tables e below (s₁.setTop (mkF m 11 #[.val (.long q0), .second] [(.int zv1)])) _
    exact retN X0 hx (t := .boolean) Bd.returns (by simp) (hb hby d3_11) hr
  · show Q3 Z q0 h0 n0 _ s₁.heap _
    rw [e0]
    exact ⟨by rw [hzv1]; unfold own_exp; split <;> rfl, N0, rfl⟩
theorem own_mono (a b : Int64) : own_exp (own_min a b) = 0 ∨ ¬ own_exp (own_max a b) = 0 := by
  simp only [own_exp, own_min, own_max, lw_gt, lw_lt]
  by_cases h : b < a <;> by_cases h' : a < b <;> simp only [h, h', if_true, if_false] <;> repeat' split
  all_goals first | exact Or.inl rfl | exact Or.inr (by decide) | (exfalso; simp only [Int64.lt_iff_toInt_lt] at *; omega)
theorem own_e0 : own_exp 0 = 0 := by decide
theorem own_e1 : own_exp 1 = 1 := by decide
theorem pn_0 : plainName "com/example/stackwright/stackwright/MeterReadingsIsExportPinLaw" = true := by first | (simp [plainName, overriddenIn]; done) | decide +kernel
theorem ef_0 (m : MethodId) (q0 : Int64) (q1 : Int64) : entryFrame m #[(.long q0), (.long q1)] maxLocals = mkF m 0 #[.val (.long q0), .second, .val (.long q1), .second, .unset, .unset, .unset, .unset, .unset, .unset, .unset, .unset, .unset] [] := by first | (simp [entryFrame, mkF, argsToLocals, Value.category, maxLocals]; done) | rfl
theorem pd_0 : parseMethodDescriptor "(JJ)J" = some ⟨[.long, .long], some .long⟩ := by decide +kernel
theorem pd_1 : parseMethodDescriptor "(J)Z" = some ⟨[.long], some .boolean⟩ := by decide +kernel
def Q0 (Z : State) (q0 : Int64) (q1 : Int64) (h0 : Heap) (n0 : Nat) (v : Option Value) (h : Heap) (L : List Loc) : Prop := v = some (.int 1) ∧ Fr n0 L ∧ True
set_option maxRecDepth 65536 in
set_option maxHeartbeats 40000000 in
theorem rm0 (l : Launch) (Z : State) (av0 : Array Value) (hw : ∀ d ∈ tables_1, d.before av0 Z = true) (ws : List Jvm.Cond) (q0 : Int64) (q1 : Int64) (h0 : Heap) (n0 : Nat) (Z0 : n0 ≤ h0.size) :
    MetFree l x (head1 (Jvm.Cond.code x code maxLocals ret :: ws) room_1) (fun a U => a = #[(.long q0), (.long q1)] ∧ Z.Warmed39 U.vm ∧ U.heap = h0) (fun _ _ _ _ _ => True) (fun _ U o U' => ∃ v L, o = .returned v ∧ Q0 Z q0 q1 h0 n0 v U'.heap L ∧ FrameEnd U o U' L room_1.cells room_1.slots) := by
  refine MetFree.of_bodySF (plainFor_of_name pn_0) hisR ?_
  intro p e s m args below meth c s₁ Bd hml0 hP hK
  obtain ⟨rfl, hZ, hh⟩ := hP
  have hx := Bd.exec
  have hby := Bd.bytes
  have hml : c.maxLocals = 13 := hml0
  have hown : s.vm.findClass "com/example/stackwright/stackwright/MeterReadingsIsExportPinLaw" = some m.cls := findClass_of_methodNamed Bd.named
  have hnm := (name_of_methodNamed Bd.named Bd.method).1
  have X0 : Stand p l e room_1 s m #[(.long q0), (.long q1)] below meth c s₁ [] 0 0 := Stand.of_body Bd
  have e0 : s₁.heap = h0 := by rw [← hh, Bd.state]; rfl
  have N0 := Fr.nil n0
  have K0 : Keep h0 h0 [] := Keep.refl h0 []
  refine own_go (B := s₁.setTop (mkF m 0 #[.val (.long q0), .second, .val (.long q1), .second, .unset, .unset, .unset, .unset, .unset, .unset, .unset, .unset, .unset] [])) (fun t k => castTop (ef_0 m q0 q1) k) ?_
  refine own_go (B := s₁.setTop (mkF m 2 #[.val (.long q0), .second, .val (.long q1), .second, .unset, .unset, .unset, .unset, .unset, .unset, .unset, .unset, .unset] [(.long q1), (.long q0)])) (fun t k => ?_) ?_
  · show Steps p.tables e below (s₁.setTop (mkF m 0 #[.val (.long q0), .second, .val (.long q1), .second, .unset, .unset, .unset, .unset, .unset, .unset, .unset, .unset, .unset] [])) _
    refine XS.lloadN X0.here hx rfl (hb hby at_0) rfl ?_
    show Steps p.tables e below (s₁.setTop (mkF m 1 #[.val (.long q0), .second, .val (.long q1), .second, .unset, .unset, .unset, .unset, .unset, .unset, .unset, .unset, .unset] [(.long q0)])) _
    refine XS.lloadN X0.here hx rfl (hb hby at_1) rfl ?_
    exact k
  obtain ⟨_, _, ⟨T1, L1, k1, n1⟩, -, X1, ⟨Lc1, hQ1, l1, y1, z1⟩, st1⟩ := Jvm.LawKit.callS X0 hx (y := (⟨"java/lang/Math", "min", "(JJ)J"⟩ : MethodName)) hown (mvT hZ (hw _ (List.mem_of_getElem? (i := 0) rfl))) (mvT hZ (hw _ (List.mem_of_getElem? (i := 1) rfl))) (mvT hZ (hw _ (List.mem_of_getElem? (i := 2) rfl))) (mvT hZ (hw _ (List.mem_of_getElem? (i := 3) rfl))) (by decide) (backOf (W := 0) (rm1 l Z av0 hw [] q0 q1  h0 n0 Z0 ) hZ (hw _ (List.mem_of_getElem? (i := 3) rfl)) (hw _ (List.mem_of_getElem? (i := 2) rfl)) (by decide) (by decide)) (g := (mkF m 2 #[.val (.long q0), .second, .val (.long q1), .second, .unset, .unset, .unset, .unset, .unset, .unset, .unset, .unset, .unset] [(.long q1), (.long q0)])) rfl (by rw [hml]; rfl) (argsL := [(.long q0), (.long q1)]) (rest := []) (lenOf pd_0 rfl) rfl (by show 2 * 0 + _ ≤ _; exact Nat.le_of_eq rfl) (hb hby at_2) (fun _ _ => ⟨rfl, e0, (by decide : 0 + 0 ≤ _), (by decide : 0 + 0 ≤ _)⟩)
  dsimp only [Pt.U, Pt.locs, Pt.cells, Pt.slots] at X1 l1 y1 z1 st1 hQ1
  subst l1 y1 z1
  obtain ⟨rfl, N1q, e1⟩ := hQ1
  have N1 := Fr.app N0 N1q
  refine own_go (B := T1.setTop (mkF m 5 #[.val (.long q0), .second, .val (.long q1), .second, .unset, .unset, .unset, .unset, .unset, .unset, .unset, .unset, .unset] [(.long (own_min q0 q1))])) (fun t k => st1 t k) ?_
  refine own_go (B := T1.setTop (mkF m 9 #[.val (.long q0), .second, .val (.long q1), .second, .val (.long (own_min q0 q1)), .second, .unset, .unset, .unset, .unset, .unset, .unset, .unset] [(.long q1), (.long q0)])) (fun t k => ?_) ?_
  · show Steps p.tables e below (T1.setTop (mkF m 5 #[.val (.long q0), .second, .val (.long q1), .second, .unset, .unset, .unset, .unset, .unset, .unset, .unset, .unset, .unset] [(.long (own_min q0 q1))])) _
    refine XS.lstore X1.here hx rfl (hb hby at_5) rfl (l' := #[.val (.long q0), .second, .val (.long q1), .second, .val (.long (own_min q0 q1)), .second, .unset, .unset, .unset, .unset, .unset, .unset, .unset]) rfl ?_
    show Steps p.tables e below (T1.setTop (mkF m 7 #[.val (.long q0), .second, .val (.long q1), .second, .val (.long (own_min q0 q1)), .second, .unset, .unset, .unset, .unset, .unset, .unset, .unset] [])) _
    refine XS.lloadN X1.here hx rfl (hb hby at_7) rfl ?_
    show Steps p.tables e below (T1.setTop (mkF m 8 #[.val (.long q0), .second, .val (.long q1), .second, .val (.long (own_min q0 q1)), .second, .unset, .unset, .unset, .unset, .unset, .unset, .unset] [(.long q0)])) _
    refine XS.lloadN X1.here hx rfl (hb hby at_8) rfl ?_
    exact k
  obtain ⟨_, _, ⟨T2, L2, k2, n2⟩, -, X2, ⟨Lc2, hQ2, l2, y2, z2⟩, st2⟩ := Jvm.LawKit.callS X1 hx (y := (⟨"java/lang/Math", "max", "(JJ)J"⟩ : MethodName)) hown (mvT hZ (hw _ (List.mem_of_getElem? (i := 4) rfl))) (mvT hZ (hw _ (List.mem_of_getElem? (i := 5) rfl))) (mvT hZ (hw _ (List.mem_of_getElem? (i := 2) rfl))) (mvT hZ (hw _ (List.mem_of_getElem? (i := 6) rfl))) (by decide) (backOf (W := 0) (rm2 l Z av0 hw [] q0 q1  h0 n0 Z0 ) hZ (hw _ (List.mem_of_getElem? (i := 6) rfl)) (hw _ (List.mem_of_getElem? (i := 2) rfl)) (by decide) (by decide)) (g := (mkF m 9 #[.val (.long q0), .second, .val (.long q1), .second, .val (.long (own_min q0 q1)), .second, .unset, .unset, .unset, .unset, .unset, .unset, .unset] [(.long q1), (.long q0)])) rfl (by rw [hml]; rfl) (argsL := [(.long q0), (.long q1)]) (rest := []) (lenOf pd_0 rfl) rfl (by show 2 * 0 + _ ≤ _; exact Nat.le_of_eq rfl) (hb hby at_9) (fun _ _ => ⟨rfl, e1, (by decide : 0 + 0 ≤ _), (by decide : 0 + 0 ≤ _)⟩)
  dsimp only [Pt.U, Pt.locs, Pt.cells, Pt.slots] at X2 l2 y2 z2 st2 hQ2
  subst l2 y2 z2
  obtain ⟨rfl, N2q, e2⟩ := hQ2
  have N2 := Fr.app N1 N2q
  refine own_go (B := T2.setTop (mkF m 12 #[.val (.long q0), .second, .val (.long q1), .second, .val (.long (own_min q0 q1)), .second, .unset, .unset, .unset, .unset, .unset, .unset, .unset] [(.long (own_max q0 q1))])) (fun t k => st2 t k) ?_
  refine own_go (B := T2.setTop (mkF m 16 #[.val (.long q0), .second, .val (.long q1), .second, .val (.long (own_min q0 q1)), .second, .val (.long (own_max q0 q1)), .second, .unset, .unset, .unset, .unset, .unset] [(.long (own_min q0 q1))])) (fun t k => ?_) ?_
  · show Steps p.tables e below (T2.setTop (mkF m 12 #[.val (.long q0), .second, .val (.long q1), .second, .val (.long (own_min q0 q1)), .second, .unset, .unset, .unset, .unset, .unset, .unset, .unset] [(.long (own_max q0 q1))])) _
    refine XS.lstore X2.here hx rfl (hb hby at_12) rfl (l' := #[.val (.long q0), .second, .val (.long q1), .second, .val (.long (own_min q0 q1)), .second, .val (.long (own_max q0 q1)), .second, .unset, .unset, .unset, .unset, .unset]) rfl ?_
    show Steps p.tables e below (T2.setTop (mkF m 14 #[.val (.long q0), .second, .val (.long q1), .second, .val (.long (own_min q0 q1)), .second, .val (.long (own_max q0 q1)), .second, .unset, .unset, .unset, .unset, .unset] [])) _
    refine XS.lload X2.here hx rfl (hb hby at_14) rfl ?_
    exact k
  obtain ⟨_, _, ⟨T3, L3, k3, n3⟩, -, X3, ⟨Lc3, hQ3, l3, y3, z3⟩, st3⟩ := Jvm.LawKit.callS X2 hx (y := (⟨"com/example/stackwright/stackwright/MeterReadings", "isExport", "(J)Z"⟩ : MethodName)) hown (mvT hZ (hw _ (List.mem_of_getElem? (i := 7) rfl))) (mvT hZ (hw _ (List.mem_of_getElem? (i := 8) rfl))) (mvT hZ (hw _ (List.mem_of_getElem? (i := 9) rfl))) (mvT hZ (hw _ (List.mem_of_getElem? (i := 10) rfl))) (by decide) (backOf (W := 0) (rm3 l Z av0 hw [] (own_min q0 q1)  h0 n0 Z0 ) hZ (hw _ (List.mem_of_getElem? (i := 10) rfl)) (hw _ (List.mem_of_getElem? (i := 9) rfl)) (by decide) (by decide)) (g := (mkF m 16 #[.val (.long q0), .second, .val (.long q1), .second, .val (.long (own_min q0 q1)), .second, .val (.long (own_max q0 q1)), .second, .unset, .unset, .unset, .unset, .unset] [(.long (own_min q0 q1))])) rfl (by rw [hml]; rfl) (argsL := [(.long (own_min q0 q1))]) (rest := []) (lenOf pd_1 rfl) rfl (by show 2 * 0 + _ ≤ _; exact Nat.le_of_eq rfl) (hb hby at_16) (fun _ _ => ⟨rfl, e2, (by decide : 0 + 0 ≤ _), (by decide : 0 + 0 ≤ _)⟩)
  dsimp only [Pt.U, Pt.locs, Pt.cells, Pt.slots] at X3 l3 y3 z3 st3 hQ3
  subst l3 y3 z3
  obtain ⟨rfl, N3q, e3⟩ := hQ3
  have N3 := Fr.app N2 N3q
  refine own_go (B := T3.setTop (mkF m 19 #[.val (.long q0), .second, .val (.long q1), .second, .val (.long (own_min q0 q1)), .second, .val (.long (own_max q0 q1)), .second, .unset, .unset, .unset, .unset, .unset] [(.int (own_exp (own_min q0 q1)))])) (fun t k => st3 t k) ?_
  refine own_go (B := T3.setTop (mkF m 23 #[.val (.long q0), .second, .val (.long q1), .second, .val (.long (own_min q0 q1)), .second, .val (.long (own_max q0 q1)), .second, .val (.int (own_exp (own_min q0 q1))), .unset, .unset, .unset, .unset] [(.long (own_max q0 q1))])) (fun t k => ?_) ?_
  · show Steps p.tables e below (T3.setTop (mkF m 19 #[.val (.long q0), .second, .val (.long q1), .second, .val (.long (own_min q0 q1)), .second, .val (.long (own_max q0 q1)), .second, .unset, .unset, .unset, .unset, .unset] [(.int (own_exp (own_min q0 q1)))])) _
    refine XS.istore X3.here hx rfl (hb hby at_19) rfl (l' := #[.val (.long q0), .second, .val (.long q1), .second, .val (.long (own_min q0 q1)), .second, .val (.long (own_max q0 q1)), .second, .val (.int (own_exp (own_min q0 q1))), .unset, .unset, .unset, .unset]) rfl ?_
    show Steps p.tables e below (T3.setTop (mkF m 21 #[.val (.long q0), .second, .val (.long q1), .second, .val (.long (own_min q0 q1)), .second, .val (.long (own_max q0 q1)), .second, .val (.int (own_exp (own_min q0 q1))), .unset, .unset, .unset, .unset] [])) _
    refine XS.lload X3.here hx rfl (hb hby at_21) rfl ?_
    exact k
  obtain ⟨_, _, ⟨T4, L4, k4, n4⟩, -, X4, ⟨Lc4, hQ4, l4, y4, z4⟩, st4⟩ := Jvm.LawKit.callS X3 hx (y := (⟨"com/example/stackwright/stackwright/MeterReadings", "isExport", "(J)Z"⟩ : MethodName)) hown (mvT hZ (hw _ (List.mem_of_getElem? (i := 7) rfl))) (mvT hZ (hw _ (List.mem_of_getElem? (i := 8) rfl))) (mvT hZ (hw _ (List.mem_of_getElem? (i := 9) rfl))) (mvT hZ (hw _ (List.mem_of_getElem? (i := 10) rfl))) (by decide) (backOf (W := 0) (rm3 l Z av0 hw [] (own_max q0 q1)  h0 n0 Z0 ) hZ (hw _ (List.mem_of_getElem? (i := 10) rfl)) (hw _ (List.mem_of_getElem? (i := 9) rfl)) (by decide) (by decide)) (g := (mkF m 23 #[.val (.long q0), .second, .val (.long q1), .second, .val (.long (own_min q0 q1)), .second, .val (.long (own_max q0 q1)), .second, .val (.int (own_exp (own_min q0 q1))), .unset, .unset, .unset, .unset] [(.long (own_max q0 q1))])) rfl (by rw [hml]; rfl) (argsL := [(.long (own_max q0 q1))]) (rest := []) (lenOf pd_1 rfl) rfl (by show 2 * 0 + _ ≤ _; exact Nat.le_of_eq rfl) (hb hby at_23) (fun _ _ => ⟨rfl, e3, (by decide : 0 + 0 ≤ _), (by decide : 0 + 0 ≤ _)⟩)
  dsimp only [Pt.U, Pt.locs, Pt.cells, Pt.slots] at X4 l4 y4 z4 st4 hQ4
  subst l4 y4 z4
  obtain ⟨rfl, N4q, e4⟩ := hQ4
  have N4 := Fr.app N3 N4q
  refine own_go (B := T4.setTop (mkF m 26 #[.val (.long q0), .second, .val (.long q1), .second, .val (.long (own_min q0 q1)), .second, .val (.long (own_max q0 q1)), .second, .val (.int (own_exp (own_min q0 q1))), .unset, .unset, .unset, .unset] [(.int (own_exp (own_max q0 q1)))])) (fun t k => st4 t k) ?_
  refine own_go (B := T4.setTop (mkF m 30 #[.val (.long q0), .second, .val (.long q1), .second, .val (.long (own_min q0 q1)), .second, .val (.long (own_max q0 q1)), .second, .val (.int (own_exp (own_min q0 q1))), .val (.int (own_exp (own_max q0 q1))), .unset, .unset, .unset] [(.int (own_exp (own_min q0 q1)))])) (fun t k => ?_) ?_
  · show Steps p.tables e below (T4.setTop (mkF m 26 #[.val (.long q0), .second, .val (.long q1), .second, .val (.long (own_min q0 q1)), .second, .val (.long (own_max q0 q1)), .second, .val (.int (own_exp (own_min q0 q1))), .unset, .unset, .unset, .unset] [(.int (own_exp (own_max q0 q1)))])) _
    refine XS.istore X4.here hx rfl (hb hby at_26) rfl (l' := #[.val (.long q0), .second, .val (.long q1), .second, .val (.long (own_min q0 q1)), .second, .val (.long (own_max q0 q1)), .second, .val (.int (own_exp (own_min q0 q1))), .val (.int (own_exp (own_max q0 q1))), .unset, .unset, .unset]) rfl ?_
    show Steps p.tables e below (T4.setTop (mkF m 28 #[.val (.long q0), .second, .val (.long q1), .second, .val (.long (own_min q0 q1)), .second, .val (.long (own_max q0 q1)), .second, .val (.int (own_exp (own_min q0 q1))), .val (.int (own_exp (own_max q0 q1))), .unset, .unset, .unset] [])) _
    refine XS.iload X4.here hx rfl (hb hby at_28) rfl ?_
    exact k
  obtain ⟨zv1, hzv1⟩ : ∃ z : Int32, z = (if (own_exp (own_min q0 q1)) = (0 : Int32) then (1 : Int32) else (if (own_exp (own_max q0 q1)) = (0 : Int32) then (0 : Int32) else (1 : Int32))) := ⟨_, rfl⟩
  refine own_go (B := T4.setTop (mkF m 43 #[.val (.long q0), .second, .val (.long q1), .second, .val (.long (own_min q0 q1)), .second, .val (.long (own_max q0 q1)), .second, .val (.int (own_exp (own_min q0 q1))), .val (.int (own_exp (own_max q0 q1))), .unset, .unset, .unset] [(.int zv1)])) (fun t k => ?_) ?_
  · show Steps p.tables e below (T4.setTop (mkF m 30 #[.val (.long q0), .second, .val (.long q1), .second, .val (.long (own_min q0 q1)), .second, .val (.long (own_max q0 q1)), .second, .val (.int (own_exp (own_min q0 q1))), .val (.int (own_exp (own_max q0 q1))), .unset, .unset, .unset] [(.int (own_exp (own_min q0 q1)))])) _
    by_cases hc30 : (own_exp (own_min q0 q1)) = (0 : Int32)
    · refine XS.ifYes X4.here hx rfl (pc0 := 30) (pc' := 38) rfl (hb hby at_30) rfl ((if0 _ _).trans (teq hc30).1) (by decide) (by decide) ?_
      show Steps p.tables e below (T4.setTop (mkF m 38 #[.val (.long q0), .second, .val (.long q1), .second, .val (.long (own_min q0 q1)), .second, .val (.long (own_max q0 q1)), .second, .val (.int (own_exp (own_min q0 q1))), .val (.int (own_exp (own_max q0 q1))), .unset, .unset, .unset] [])) _
      refine XS.iconst X4.here hx rfl (hb hby at_38) ?_
      show Steps p.tables e below (T4.setTop (mkF m 39 #[.val (.long q0), .second, .val (.long q1), .second, .val (.long (own_min q0 q1)), .second, .val (.long (own_max q0 q1)), .second, .val (.int (own_exp (own_min q0 q1))), .val (.int (own_exp (own_max q0 q1))), .unset, .unset, .unset] [(.int (1 : Int32))])) _
      refine XS.goto X4.here hx rfl (pc0 := 39) (pc' := 43) rfl (hb hby at_39) (by decide) (by decide) ?_
      show Steps p.tables e below (T4.setTop (mkF m 43 #[.val (.long q0), .second, .val (.long q1), .second, .val (.long (own_min q0 q1)), .second, .val (.long (own_max q0 q1)), .second, .val (.int (own_exp (own_min q0 q1))), .val (.int (own_exp (own_max q0 q1))), .unset, .unset, .unset] [(.int (1 : Int32))])) _
      rw [show zv1 = (1 : Int32) from by simp only [hzv1, if_pos hc30]] at k
      exact k
    · refine XS.ifNo X4.here hx rfl (hb hby at_30) rfl ((if0 _ _).trans (feq hc30).1) ?_
      show Steps p.tables e below (T4.setTop (mkF m 33 #[.val (.long q0), .second, .val (.long q1), .second, .val (.long (own_min q0 q1)), .second, .val (.long (own_max q0 q1)), .second, .val (.int (own_exp (own_min q0 q1))), .val (.int (own_exp (own_max q0 q1))), .unset, .unset, .unset] [])) _
      refine XS.iload X4.here hx rfl (hb hby at_33) rfl ?_
      show Steps p.tables e below (T4.setTop (mkF m 35 #[.val (.long q0), .second, .val (.long q1), .second, .val (.long (own_min q0 q1)), .second, .val (.long (own_max q0 q1)), .second, .val (.int (own_exp (own_min q0 q1))), .val (.int (own_exp (own_max q0 q1))), .unset, .unset, .unset] [(.int (own_exp (own_max q0 q1)))])) _
      by_cases hc35 : (own_exp (own_max q0 q1)) = (0 : Int32)
      · refine XS.ifYes X4.here hx rfl (pc0 := 35) (pc' := 42) rfl (hb hby at_35) rfl ((if0 _ _).trans (teq hc35).1) (by decide) (by decide) ?_
        show Steps p.tables e below (T4.setTop (mkF m 42 #[.val (.long q0), .second, .val (.long q1), .second, .val (.long (own_min q0 q1)), .second, .val (.long (own_max q0 q1)), .second, .val (.int (own_exp (own_min q0 q1))), .val (.int (own_exp (own_max q0 q1))), .unset, .unset, .unset] [])) _
        refine XS.iconst X4.here hx rfl (hb hby at_42) ?_
        show Steps p.tables e below (T4.setTop (mkF m 43 #[.val (.long q0), .second, .val (.long q1), .second, .val (.long (own_min q0 q1)), .second, .val (.long (own_max q0 q1)), .second, .val (.int (own_exp (own_min q0 q1))), .val (.int (own_exp (own_max q0 q1))), .unset, .unset, .unset] [(.int (0 : Int32))])) _
        rw [show zv1 = (0 : Int32) from by simp only [hzv1, if_neg hc30, if_pos hc35]] at k
        exact k
      · refine XS.ifNo X4.here hx rfl (hb hby at_35) rfl ((if0 _ _).trans (feq hc35).1) ?_
        show Steps p.tables e below (T4.setTop (mkF m 38 #[.val (.long q0), .second, .val (.long q1), .second, .val (.long (own_min q0 q1)), .second, .val (.long (own_max q0 q1)), .second, .val (.int (own_exp (own_min q0 q1))), .val (.int (own_exp (own_max q0 q1))), .unset, .unset, .unset] [])) _
        refine XS.iconst X4.here hx rfl (hb hby at_38) ?_
        show Steps p.tables e below (T4.setTop (mkF m 39 #[.val (.long q0), .second, .val (.long q1), .second, .val (.long (own_min q0 q1)), .second, .val (.long (own_max q0 q1)), .second, .val (.int (own_exp (own_min q0 q1))), .val (.int (own_exp (own_max q0 q1))), .unset, .unset, .unset] [(.int (1 : Int32))])) _
        refine XS.goto X4.here hx rfl (pc0 := 39) (pc' := 43) rfl (hb hby at_39) (by decide) (by decide) ?_
        show Steps p.tables e below (T4.setTop (mkF m 43 #[.val (.long q0), .second, .val (.long q1), .second, .val (.long (own_min q0 q1)), .second, .val (.long (own_max q0 q1)), .second, .val (.int (own_exp (own_min q0 q1))), .val (.int (own_exp (own_max q0 q1))), .unset, .unset, .unset] [(.int (1 : Int32))])) _
        rw [show zv1 = (1 : Int32) from by simp only [hzv1, if_neg hc30, if_neg hc35]] at k
        exact k
  refine own_go (B := T4.setTop (mkF m 46 #[.val (.long q0), .second, .val (.long q1), .second, .val (.long (own_min q0 q1)), .second, .val (.long (own_max q0 q1)), .second, .val (.int (own_exp (own_min q0 q1))), .val (.int (own_exp (own_max q0 q1))), .val (.int zv1), .unset, .unset] [(.long (0 : Int64))])) (fun t k => ?_) ?_
  · show Steps p.tables e below (T4.setTop (mkF m 43 #[.val (.long q0), .second, .val (.long q1), .second, .val (.long (own_min q0 q1)), .second, .val (.long (own_max q0 q1)), .second, .val (.int (own_exp (own_min q0 q1))), .val (.int (own_exp (own_max q0 q1))), .unset, .unset, .unset] [(.int zv1)])) _
    refine XS.istore X4.here hx rfl (hb hby at_43) rfl (l' := #[.val (.long q0), .second, .val (.long q1), .second, .val (.long (own_min q0 q1)), .second, .val (.long (own_max q0 q1)), .second, .val (.int (own_exp (own_min q0 q1))), .val (.int (own_exp (own_max q0 q1))), .val (.int zv1), .unset, .unset]) rfl ?_
    show Steps p.tables e below (T4.setTop (mkF m 45 #[.val (.long q0), .second, .val (.long q1), .second, .val (.long (own_min q0 q1)), .second, .val (.long (own_max q0 q1)), .second, .val (.int (own_exp (own_min q0 q1))), .val (.int (own_exp (own_max q0 q1))), .val (.int zv1), .unset, .unset] [])) _
    refine XS.lconst X4.here hx rfl (hb hby at_45) ?_
    exact k
  obtain ⟨_, _, ⟨T5, L5, k5, n5⟩, -, X5, ⟨Lc5, hQ5, l5, y5, z5⟩, st5⟩ := Jvm.LawKit.callS X4 hx (y := (⟨"com/example/stackwright/stackwright/MeterReadings", "isExport", "(J)Z"⟩ : MethodName)) hown (mvT hZ (hw _ (List.mem_of_getElem? (i := 7) rfl))) (mvT hZ (hw _ (List.mem_of_getElem? (i := 8) rfl))) (mvT hZ (hw _ (List.mem_of_getElem? (i := 9) rfl))) (mvT hZ (hw _ (List.mem_of_getElem? (i := 10) rfl))) (by decide) (backOf (W := 0) (rm3 l Z av0 hw [] (0 : Int64)  h0 n0 Z0 ) hZ (hw _ (List.mem_of_getElem? (i := 10) rfl)) (hw _ (List.mem_of_getElem? (i := 9) rfl)) (by decide) (by decide)) (g := (mkF m 46 #[.val (.long q0), .second, .val (.long q1), .second, .val (.long (own_min q0 q1)), .second, .val (.long (own_max q0 q1)), .second, .val (.int (own_exp (own_min q0 q1))), .val (.int (own_exp (own_max q0 q1))), .val (.int zv1), .unset, .unset] [(.long (0 : Int64))])) rfl (by rw [hml]; rfl) (argsL := [(.long (0 : Int64))]) (rest := []) (lenOf pd_1 rfl) rfl (by show 2 * 0 + _ ≤ _; exact Nat.le_of_eq rfl) (hb hby at_46) (fun _ _ => ⟨rfl, e4, (by decide : 0 + 0 ≤ _), (by decide : 0 + 0 ≤ _)⟩)
  dsimp only [Pt.U, Pt.locs, Pt.cells, Pt.slots] at X5 l5 y5 z5 st5 hQ5
  subst l5 y5 z5
  obtain ⟨rfl, N5q, e5⟩ := hQ5
  have N5 := Fr.app N4 N5q
  refine own_go (B := T5.setTop (mkF m 49 #[.val (.long q0), .second, .val (.long q1), .second, .val (.long (own_min q0 q1)), .second, .val (.long (own_max q0 q1)), .second, .val (.int (own_exp (own_min q0 q1))), .val (.int (own_exp (own_max q0 q1))), .val (.int zv1), .unset, .unset] [(.int (own_exp (0 : Int64)))])) (fun t k => st5 t k) ?_
  obtain ⟨zv2, hzv2⟩ : ∃ z : Int32, z = (if (own_exp (0 : Int64)) = (0 : Int32) then (1 : Int32) else (0 : Int32)) := ⟨_, rfl⟩
  refine own_go (B := T5.setTop (mkF m 57 #[.val (.long q0), .second, .val (.long q1), .second, .val (.long (own_min q0 q1)), .second, .val (.long (own_max q0 q1)), .second, .val (.int (own_exp (own_min q0 q1))), .val (.int (own_exp (own_max q0 q1))), .val (.int zv1), .unset, .unset] [(.int zv2)])) (fun t k => ?_) ?_
  · show Steps p.tables e below (T5.setTop (mkF m 49 #[.val (.long q0), .second, .val (.long q1), .second, .val (.long (own_min q0 q1)), .second, .val (.long (own_max q0 q1)), .second, .val (.int (own_exp (own_min q0 q1))), .val (.int (own_exp (own_max q0 q1))), .val (.int zv1), .unset, .unset] [(.int (own_exp (0 : Int64)))])) _
    by_cases hc49 : (own_exp (0 : Int64)) = (0 : Int32)
    · refine XS.ifNo X5.here hx rfl (hb hby at_49) rfl ((if0 _ _).trans (teq hc49).2) ?_
      show Steps p.tables e below (T5.setTop (mkF m 52 #[.val (.long q0), .second, .val (.long q1), .second, .val (.long (own_min q0 q1)), .second, .val (.long (own_max q0 q1)), .second, .val (.int (own_exp (own_min q0 q1))), .val (.int (own_exp (own_max q0 q1))), .val (.int zv1), .unset, .unset] [])) _
      refine XS.iconst X5.here hx rfl (hb hby at_52) ?_
      show Steps p.tables e below (T5.setTop (mkF m 53 #[.val (.long q0), .second, .val (.long q1), .second, .val (.long (own_min q0 q1)), .second, .val (.long (own_max q0 q1)), .second, .val (.int (own_exp (own_min q0 q1))), .val (.int (own_exp (own_max q0 q1))), .val (.int zv1), .unset, .unset] [(.int (1 : Int32))])) _
      refine XS.goto X5.here hx rfl (pc0 := 53) (pc' := 57) rfl (hb hby at_53) (by decide) (by decide) ?_
      show Steps p.tables e below (T5.setTop (mkF m 57 #[.val (.long q0), .second, .val (.long q1), .second, .val (.long (own_min q0 q1)), .second, .val (.long (own_max q0 q1)), .second, .val (.int (own_exp (own_min q0 q1))), .val (.int (own_exp (own_max q0 q1))), .val (.int zv1), .unset, .unset] [(.int (1 : Int32))])) _
      rw [show zv2 = (1 : Int32) from by simp only [hzv2, if_pos hc49]] at k
      exact k
    · refine XS.ifYes X5.here hx rfl (pc0 := 49) (pc' := 56) rfl (hb hby at_49) rfl ((if0 _ _).trans (feq hc49).2) (by decide) (by decide) ?_
      show Steps p.tables e below (T5.setTop (mkF m 56 #[.val (.long q0), .second, .val (.long q1), .second, .val (.long (own_min q0 q1)), .second, .val (.long (own_max q0 q1)), .second, .val (.int (own_exp (own_min q0 q1))), .val (.int (own_exp (own_max q0 q1))), .val (.int zv1), .unset, .unset] [])) _
      refine XS.iconst X5.here hx rfl (hb hby at_56) ?_
      show Steps p.tables e below (T5.setTop (mkF m 57 #[.val (.long q0), .second, .val (.long q1), .second, .val (.long (own_min q0 q1)), .second, .val (.long (own_max q0 q1)), .second, .val (.int (own_exp (own_min q0 q1))), .val (.int (own_exp (own_max q0 q1))), .val (.int zv1), .unset, .unset] [(.int (0 : Int32))])) _
      rw [show zv2 = (0 : Int32) from by simp only [hzv2, if_neg hc49]] at k
      exact k
  refine own_go (B := T5.setTop (mkF m 60 #[.val (.long q0), .second, .val (.long q1), .second, .val (.long (own_min q0 q1)), .second, .val (.long (own_max q0 q1)), .second, .val (.int (own_exp (own_min q0 q1))), .val (.int (own_exp (own_max q0 q1))), .val (.int zv1), .val (.int zv2), .unset] [(.long (1 : Int64))])) (fun t k => ?_) ?_
  · show Steps p.tables e below (T5.setTop (mkF m 57 #[.val (.long q0), .second, .val (.long q1), .second, .val (.long (own_min q0 q1)), .second, .val (.long (own_max q0 q1)), .second, .val (.int (own_exp (own_min q0 q1))), .val (.int (own_exp (own_max q0 q1))), .val (.int zv1), .unset, .unset] [(.int zv2)])) _
    refine XS.istore X5.here hx rfl (hb hby at_57) rfl (l' := #[.val (.long q0), .second, .val (.long q1), .second, .val (.long (own_min q0 q1)), .second, .val (.long (own_max q0 q1)), .second, .val (.int (own_exp (own_min q0 q1))), .val (.int (own_exp (own_max q0 q1))), .val (.int zv1), .val (.int zv2), .unset]) rfl ?_
    show Steps p.tables e below (T5.setTop (mkF m 59 #[.val (.long q0), .second, .val (.long q1), .second, .val (.long (own_min q0 q1)), .second, .val (.long (own_max q0 q1)), .second, .val (.int (own_exp (own_min q0 q1))), .val (.int (own_exp (own_max q0 q1))), .val (.int zv1), .val (.int zv2), .unset] [])) _
    refine XS.lconst X5.here hx rfl (hb hby at_59) ?_
    exact k
  obtain ⟨_, _, ⟨T6, L6, k6, n6⟩, -, X6, ⟨Lc6, hQ6, l6, y6, z6⟩, st6⟩ := Jvm.LawKit.callS X5 hx (y := (⟨"com/example/stackwright/stackwright/MeterReadings", "isExport", "(J)Z"⟩ : MethodName)) hown (mvT hZ (hw _ (List.mem_of_getElem? (i := 7) rfl))) (mvT hZ (hw _ (List.mem_of_getElem? (i := 8) rfl))) (mvT hZ (hw _ (List.mem_of_getElem? (i := 9) rfl))) (mvT hZ (hw _ (List.mem_of_getElem? (i := 10) rfl))) (by decide) (backOf (W := 0) (rm3 l Z av0 hw [] (1 : Int64)  h0 n0 Z0 ) hZ (hw _ (List.mem_of_getElem? (i := 10) rfl)) (hw _ (List.mem_of_getElem? (i := 9) rfl)) (by decide) (by decide)) (g := (mkF m 60 #[.val (.long q0), .second, .val (.long q1), .second, .val (.long (own_min q0 q1)), .second, .val (.long (own_max q0 q1)), .second, .val (.int (own_exp (own_min q0 q1))), .val (.int (own_exp (own_max q0 q1))), .val (.int zv1), .val (.int zv2), .unset] [(.long (1 : Int64))])) rfl (by rw [hml]; rfl) (argsL := [(.long (1 : Int64))]) (rest := []) (lenOf pd_1 rfl) rfl (by show 2 * 0 + _ ≤ _; exact Nat.le_of_eq rfl) (hb hby at_60) (fun _ _ => ⟨rfl, e5, (by decide : 0 + 0 ≤ _), (by decide : 0 + 0 ≤ _)⟩)
  dsimp only [Pt.U, Pt.locs, Pt.cells, Pt.slots] at X6 l6 y6 z6 st6 hQ6
  subst l6 y6 z6
  obtain ⟨rfl, N6q, e6⟩ := hQ6
  have N6 := Fr.app N5 N6q
  refine own_go (B := T6.setTop (mkF m 63 #[.val (.long q0), .second, .val (.long q1), .second, .val (.long (own_min q0 q1)), .second, .val (.long (own_max q0 q1)), .second, .val (.int (own_exp (own_min q0 q1))), .val (.int (own_exp (own_max q0 q1))), .val (.int zv1), .val (.int zv2), .unset] [(.int (own_exp (1 : Int64)))])) (fun t k => st6 t k) ?_
  refine own_go (B := T6.setTop (mkF m 67 #[.val (.long q0), .second, .val (.long q1), .second, .val (.long (own_min q0 q1)), .second, .val (.long (own_max q0 q1)), .second, .val (.int (own_exp (own_min q0 q1))), .val (.int (own_exp (own_max q0 q1))), .val (.int zv1), .val (.int zv2), .val (.int (own_exp (1 : Int64)))] [(.int zv1)])) (fun t k => ?_) ?_
  · show Steps p.tables e below (T6.setTop (mkF m 63 #[.val (.long q0), .second, .val (.long q1), .second, .val (.long (own_min q0 q1)), .second, .val (.long (own_max q0 q1)), .second, .val (.int (own_exp (own_min q0 q1))), .val (.int (own_exp (own_max q0 q1))), .val (.int zv1), .val (.int zv2), .unset] [(.int (own_exp (1 : Int64)))])) _
    refine XS.istore X6.here hx rfl (hb hby at_63) rfl (l' := #[.val (.long q0), .second, .val (.long q1), .second, .val (.long (own_min q0 q1)), .second, .val (.long (own_max q0 q1)), .second, .val (.int (own_exp (own_min q0 q1))), .val (.int (own_exp (own_max q0 q1))), .val (.int zv1), .val (.int zv2), .val (.int (own_exp (1 : Int64)))]) rfl ?_
    show Steps p.tables e below (T6.setTop (mkF m 65 #[.val (.long q0), .second, .val (.long q1), .second, .val (.long (own_min q0 q1)), .second, .val (.long (own_max q0 q1)), .second, .val (.int (own_exp (own_min q0 q1))), .val (.int (own_exp (own_max q0 q1))), .val (.int zv1), .val (.int zv2), .val (.int (own_exp (1 : Int64)))] [])) _
    refine XS.iload X6.here hx rfl (hb hby at_65) rfl ?_
    exact k
  obtain ⟨zv3, hzv3⟩ : ∃ z : Int32, z = (if zv1 = (0 : Int32) then (0 : Int32) else (if zv2 = (0 : Int32) then (0 : Int32) else (if (own_exp (1 : Int64)) = (0 : Int32) then (0 : Int32) else (1 : Int32)))) := ⟨_, rfl⟩
  refine own_go (B := T6.setTop (mkF m 85 #[.val (.long q0), .second, .val (.long q1), .second, .val (.long (own_min q0 q1)), .second, .val (.long (own_max q0 q1)), .second, .val (.int (own_exp (own_min q0 q1))), .val (.int (own_exp (own_max q0 q1))), .val (.int zv1), .val (.int zv2), .val (.int (own_exp (1 : Int64)))] [(.int zv3)])) (fun t k => ?_) ?_
  · show Steps p.tables e below (T6.setTop (mkF m 67 #[.val (.long q0), .second, .val (.long q1), .second, .val (.long (own_min q0 q1)), .second, .val (.long (own_max q0 q1)), .second, .val (.int (own_exp (own_min q0 q1))), .val (.int (own_exp (own_max q0 q1))), .val (.int zv1), .val (.int zv2), .val (.int (own_exp (1 : Int64)))] [(.int zv1)])) _
    by_cases hc67 : zv1 = (0 : Int32)
    · refine XS.ifYes X6.here hx rfl (pc0 := 67) (pc' := 84) rfl (hb hby at_67) rfl ((if0 _ _).trans (teq hc67).1) (by decide) (by decide) ?_
      show Steps p.tables e below (T6.setTop (mkF m 84 #[.val (.long q0), .second, .val (.long q1), .second, .val (.long (own_min q0 q1)), .second, .val (.long (own_max q0 q1)), .second, .val (.int (own_exp (own_min q0 q1))), .val (.int (own_exp (own_max q0 q1))), .val (.int zv1), .val (.int zv2), .val (.int (own_exp (1 : Int64)))] [])) _
      refine XS.iconst X6.here hx rfl (hb hby at_84) ?_
      show Steps p.tables e below (T6.setTop (mkF m 85 #[.val (.long q0), .second, .val (.long q1), .second, .val (.long (own_min q0 q1)), .second, .val (.long (own_max q0 q1)), .second, .val (.int (own_exp (own_min q0 q1))), .val (.int (own_exp (own_max q0 q1))), .val (.int zv1), .val (.int zv2), .val (.int (own_exp (1 : Int64)))] [(.int (0 : Int32))])) _
      rw [show zv3 = (0 : Int32) from by simp only [hzv3, if_pos hc67]] at k
      exact k
    · refine XS.ifNo X6.here hx rfl (hb hby at_67) rfl ((if0 _ _).trans (feq hc67).1) ?_
      show Steps p.tables e below (T6.setTop (mkF m 70 #[.val (.long q0), .second, .val (.long q1), .second, .val (.long (own_min q0 q1)), .second, .val (.long (own_max q0 q1)), .second, .val (.int (own_exp (own_min q0 q1))), .val (.int (own_exp (own_max q0 q1))), .val (.int zv1), .val (.int zv2), .val (.int (own_exp (1 : Int64)))] [])) _
      refine XS.iload X6.here hx rfl (hb hby at_70) rfl ?_
      show Steps p.tables e below (T6.setTop (mkF m 72 #[.val (.long q0), .second, .val (.long q1), .second, .val (.long (own_min q0 q1)), .second, .val (.long (own_max q0 q1)), .second, .val (.int (own_exp (own_min q0 q1))), .val (.int (own_exp (own_max q0 q1))), .val (.int zv1), .val (.int zv2), .val (.int (own_exp (1 : Int64)))] [(.int zv2)])) _
      by_cases hc72 : zv2 = (0 : Int32)
      · refine XS.ifYes X6.here hx rfl (pc0 := 72) (pc' := 84) rfl (hb hby at_72) rfl ((if0 _ _).trans (teq hc72).1) (by decide) (by decide) ?_
        show Steps p.tables e below (T6.setTop (mkF m 84 #[.val (.long q0), .second, .val (.long q1), .second, .val (.long (own_min q0 q1)), .second, .val (.long (own_max q0 q1)), .second, .val (.int (own_exp (own_min q0 q1))), .val (.int (own_exp (own_max q0 q1))), .val (.int zv1), .val (.int zv2), .val (.int (own_exp (1 : Int64)))] [])) _
        refine XS.iconst X6.here hx rfl (hb hby at_84) ?_
        show Steps p.tables e below (T6.setTop (mkF m 85 #[.val (.long q0), .second, .val (.long q1), .second, .val (.long (own_min q0 q1)), .second, .val (.long (own_max q0 q1)), .second, .val (.int (own_exp (own_min q0 q1))), .val (.int (own_exp (own_max q0 q1))), .val (.int zv1), .val (.int zv2), .val (.int (own_exp (1 : Int64)))] [(.int (0 : Int32))])) _
        rw [show zv3 = (0 : Int32) from by simp only [hzv3, if_neg hc67, if_pos hc72]] at k
        exact k
      · refine XS.ifNo X6.here hx rfl (hb hby at_72) rfl ((if0 _ _).trans (feq hc72).1) ?_
        show Steps p.tables e below (T6.setTop (mkF m 75 #[.val (.long q0), .second, .val (.long q1), .second, .val (.long (own_min q0 q1)), .second, .val (.long (own_max q0 q1)), .second, .val (.int (own_exp (own_min q0 q1))), .val (.int (own_exp (own_max q0 q1))), .val (.int zv1), .val (.int zv2), .val (.int (own_exp (1 : Int64)))] [])) _
        refine XS.iload X6.here hx rfl (hb hby at_75) rfl ?_
        show Steps p.tables e below (T6.setTop (mkF m 77 #[.val (.long q0), .second, .val (.long q1), .second, .val (.long (own_min q0 q1)), .second, .val (.long (own_max q0 q1)), .second, .val (.int (own_exp (own_min q0 q1))), .val (.int (own_exp (own_max q0 q1))), .val (.int zv1), .val (.int zv2), .val (.int (own_exp (1 : Int64)))] [(.int (own_exp (1 : Int64)))])) _
        by_cases hc77 : (own_exp (1 : Int64)) = (0 : Int32)
        · refine XS.ifYes X6.here hx rfl (pc0 := 77) (pc' := 84) rfl (hb hby at_77) rfl ((if0 _ _).trans (teq hc77).1) (by decide) (by decide) ?_
          show Steps p.tables e below (T6.setTop (mkF m 84 #[.val (.long q0), .second, .val (.long q1), .second, .val (.long (own_min q0 q1)), .second, .val (.long (own_max q0 q1)), .second, .val (.int (own_exp (own_min q0 q1))), .val (.int (own_exp (own_max q0 q1))), .val (.int zv1), .val (.int zv2), .val (.int (own_exp (1 : Int64)))] [])) _
          refine XS.iconst X6.here hx rfl (hb hby at_84) ?_
          show Steps p.tables e below (T6.setTop (mkF m 85 #[.val (.long q0), .second, .val (.long q1), .second, .val (.long (own_min q0 q1)), .second, .val (.long (own_max q0 q1)), .second, .val (.int (own_exp (own_min q0 q1))), .val (.int (own_exp (own_max q0 q1))), .val (.int zv1), .val (.int zv2), .val (.int (own_exp (1 : Int64)))] [(.int (0 : Int32))])) _
          rw [show zv3 = (0 : Int32) from by simp only [hzv3, if_neg hc67, if_neg hc72, if_pos hc77]] at k
          exact k
        · refine XS.ifNo X6.here hx rfl (hb hby at_77) rfl ((if0 _ _).trans (feq hc77).1) ?_
          show Steps p.tables e below (T6.setTop (mkF m 80 #[.val (.long q0), .second, .val (.long q1), .second, .val (.long (own_min q0 q1)), .second, .val (.long (own_max q0 q1)), .second, .val (.int (own_exp (own_min q0 q1))), .val (.int (own_exp (own_max q0 q1))), .val (.int zv1), .val (.int zv2), .val (.int (own_exp (1 : Int64)))] [])) _
          refine XS.iconst X6.here hx rfl (hb hby at_80) ?_
          show Steps p.tables e below (T6.setTop (mkF m 81 #[.val (.long q0), .second, .val (.long q1), .second, .val (.long (own_min q0 q1)), .second, .val (.long (own_max q0 q1)), .second, .val (.int (own_exp (own_min q0 q1))), .val (.int (own_exp (own_max q0 q1))), .val (.int zv1), .val (.int zv2), .val (.int (own_exp (1 : Int64)))] [(.int (1 : Int32))])) _
          refine XS.goto X6.here hx rfl (pc0 := 81) (pc' := 85) rfl (hb hby at_81) (by decide) (by decide) ?_
          show Steps p.tables e below (T6.setTop (mkF m 85 #[.val (.long q0), .second, .val (.long q1), .second, .val (.long (own_min q0 q1)), .second, .val (.long (own_max q0 q1)), .second, .val (.int (own_exp (own_min q0 q1))), .val (.int (own_exp (own_max q0 q1))), .val (.int zv1), .val (.int zv2), .val (.int (own_exp (1 : Int64)))] [(.int (1 : Int32))])) _
          rw [show zv3 = (1 : Int32) from by simp only [hzv3, if_neg hc67, if_neg hc72, if_neg hc77]] at k
          exact k
  obtain ⟨fs, hr, hrun, hended, hW, hsame⟩ := X6.leave (v := some (.int (nar .boolean zv3))) (fun h => by rw [Bd.returns] at h; cases h)
  refine ⟨_, _, ?_, hrun, hended, _, _, rfl, ?_, ⟨_, rfl⟩, hW, hsame.mono (by decide) (by decide)⟩
  · show Steps p.tables e below (T6.setTop (mkF m 85 #[.val (.long q0), .second, .val (.long q1), .second, .val (.long (own_min q0 q1)), .second, .val (.long (own_max q0 q1)), .second, .val (.int (own_exp (own_min q0 q1))), .val (.int (own_exp (own_max q0 q1))), .val (.int zv1), .val (.int zv2), .val (.int (own_exp (1 : Int64)))] [(.int zv3)])) _
    exact retN X6 hx (t := .boolean) Bd.returns (by simp) (hb hby at_85) hr
  · show Q0 Z q0 q1 h0 n0 _ T6.heap _
    rw [e6]
    exact ⟨by rw [show zv3 = (1 : Int32) from by simp only [hzv3, hzv1, hzv2, own_e0, own_e1]; rcases own_mono q0 q1 with h | h <;> simp [h]]; rfl, N6, trivial⟩
set_option maxRecDepth 65536 in
set_option maxHeartbeats 40000000 in
theorem comes_1 {Post : Tables → Env → Array Value → State → Outcome → State → Prop} (hpost : ∀ tb e args s v u, (limb_1_1.after args s (.returned v) u = true ∧ limb_1_2.after args s (.returned v) u = true ∧ True) → FrameEnd s (.returned v) u (Jvm.fieldLocs frame_1_writes args s ++ Jvm.arrayLocs frame_1_arrays args s ++ Jvm.staticLocs frame_1_statics s) 0 0 → Post tb e args s (.returned v) u) :
    ArmFor flags0 classFile x code maxLocals ret World_1 tables_1 room_1 Calls_1 rest_1 Pre_1 Post := by
  intro l hfl _ _ p e ha hc hk s m args below hf hA hF happ hP
  obtain ⟨hcalls, hrest, hpre⟩ := hP
  obtain ⟨-, -, -, hnamed, -, -, -, hat⟩ := (Spec.applies_iff hf).mp happ
  obtain ⟨hg, hn⟩ := and_e (Cond.before_iff.mp (show (Jvm.Cond.and given_1 narrow_1).before args s = true from hpre))
  obtain ⟨g1, g2⟩ := and_e hg
  obtain ⟨g3, g4⟩ := and_e g2
  obtain ⟨w0, w1, rfl⟩ : ∃ w0 w1 : Value, args = #[w0, w1] := by
    have hs : args.size = 2 := by simpa [Cond.value, given_1] using g1
    obtain ⟨L⟩ := args
    match L, hs with
    | [w0, w1], _ => exact ⟨w0, w1, rfl⟩
  have hw := fun d (hd : d ∈ tables_1) => atoms_spec (ws := Jvm.Cond.code x code maxLocals ret :: tables_1) hat d (List.mem_cons_of_mem _ hd)
  have hfit : Fit s := fun {y c} hc i hi => by
    obtain ⟨ha, rfl⟩ := Array.getElem?_eq_some_iff.mp hc
    have q := List.all_eq_true.mp ((Array.all_eq_true_iff_forall_mem.mp hF) _ (Array.getElem_mem ha)) i (List.mem_range.mpr hi)
    simpa [Array.getElem?_eq_getElem hi] using q
  obtain ⟨i0, ei0⟩ := isL_v g3
  obtain rfl : w0 = (.long i0) := Option.some.inj ei0
  obtain ⟨i1, ei1⟩ := isL_v g4
  obtain rfl : w1 = (.long i1) := Option.some.inj ei1
  obtain ⟨n, o, h1, h2, h3, _, L, rfl, ⟨rfl, N, -⟩, hq⟩ := rm0 l s _ hw tables_1 i0 i1 s.heap s.heap.size (Nat.le_refl _) p e ha hc hk s m _ below hf ((Spec.applies_iff_loose hf).mp happ).1 ⟨rfl, State.Warmed39.refl s, rfl⟩ trivial
  refine ⟨n, _, h1, h2, h3, hpost _ _ _ _ _ _ ⟨Cond.after_iff.mpr rfl, Cond.after_iff.mpr (eq_i res_at (Term.int_eval (1)) rfl), trivial⟩ ⟨hq.1, hq.2.1, (hq.2.2.sift fun y hy => Or.inr (N y hy)).mono (by decide) (by decide)⟩⟩
theorem main_1_1 : Claimed_1_1 := comes_1 fun _ _ _ _ _ _ h hF => ⟨h.1, hF⟩
theorem main_1_2 : Claimed_1_2 := comes_1 fun _ _ _ _ _ _ h hF => ⟨h.2.1, hF⟩
end Jvm.Pilot.@@N@@
namespace Jvm.Pilot.@@N@@
open Jvm Jvm.ClassFile Sem Op Lib Jvm.Free Jvm.Stand Jvm.Pilot.@@N@@.Jvm.D
/-! MADE BY PROGRAM (witnessworld.py) out of the Statement's table words and the real class files: 10 classes; the members and pool entries that the words name. The judged class is class 1, her method 1. -/
namespace start1
open Jvm.ClassFile
def u (s : String) : CpInfo := .utf8 (stringToUtf16 s)
/-- a pool by its gaps: so many unusable entries, then the entry; so many at the end -/
def gap : Nat → List CpInfo → List CpInfo
  | 0, r => r
  | n + 1, r => .unusable :: gap n r
def poolList (es : List (Nat × CpInfo)) (last : Nat) : List CpInfo := es.foldr (fun e r => gap e.1 (e.2 :: r)) (gap last [])
def pool (es : List (Nat × CpInfo)) (last : Nat) : Array CpInfo := ⟨poolList es last⟩
def fileOf (pool : Array CpInfo) (this : Nat) (attrs : Array Attribute := #[]) (ms : Array MethodInfo := #[]) (fl : Nat := 33) (sup : Nat := 0) (ifs : Array Nat := #[]) (fds : Array FieldInfo := #[]) : ClassFile where
  minorVersion := 0
  majorVersion := 65
  constantPool := pool
  accessFlags := fl
  thisClass := this
  superClass := sup
  interfaces := ifs
  fields := fds
  methods := ms
  attributes := attrs
def plain (name : String) (sup : Option ClassId) : Class where
  name := name
  kind := .ordinary
  loader := none
  accessFlags := 33
  super := sup
  interfaces := #[]
  cf := none
  fields := #[]
  methods := #[]
  instanceTypes := #[]
  staticTypes := #[]
  resolved := #[]
  callSites := []
  init := .initialized
  statics := none
  mirror := none

def pool0 : Array CpInfo := pool [(5, u "<init>"), (0, u "()V"), (1, .class_ 10), (1, u "java/lang/Object")] 113

def k0m0 : Method := { name := "<init>", desc := "()V", sig := { parameters := [], returnType := none }, accessFlags := 1, code := none }
/-- java/lang/Object -/
def k0 : Class := { plain "java/lang/Object" none with
  accessFlags := 33
  interfaces := #[]
  cf := some (fileOf pool0 8 #[] #[{ accessFlags := 1, nameIndex := 5, descriptorIndex := 6, attributes := #[] }] 33 0 #[] #[])
  fields := #[]
  methods := #[k0m0]
  instanceTypes := #[]
  staticTypes := #[]
  resolved := Array.replicate 124 none
  statics := none }

def pool1 : Array CpInfo := pool [(2, .class_ 4), (1, u "java/lang/Object"), (0, u "<init>"), (0, u "()V"), (0, .methodref 8 9), (0, .class_ 10), (0, .nameAndType 11 12), (0, u "java/lang/Math"), (0, u "min"), (0, u "(JJ)J"), (0, .methodref 8 14), (0, .nameAndType 15 12), (0, u "max"), (0, .methodref 17 18), (0, .class_ 19), (0, .nameAndType 20 21), (0, u "com/example/stackwright/stackwright/MeterReadings"), (0, u "isExport"), (0, u "(J)Z"), (0, .class_ 23), (0, u "com/example/stackwright/stackwright/MeterReadingsIsExportPinLaw"), (2, u "law"), (0, u "(JJ)Z")] 3

def k1m0 : Method := { name := "<init>", desc := "()V", sig := { parameters := [], returnType := none }, accessFlags := 2, code := none }
def k1c1 : Code := { maxStack := 4, maxLocals := 13, code := code, exceptionTable := #[], attributes := #[] }
def k1m1 : Method := { name := "law", desc := "(JJ)Z", sig := { parameters := [.long, .long], returnType := some .boolean }, accessFlags := 9, code := some k1c1 }
/-- com/example/stackwright/stackwright/MeterReadingsIsExportPinLaw -/
def k1 : Class := { plain "com/example/stackwright/stackwright/MeterReadingsIsExportPinLaw" (some 0) with
  accessFlags := 49
  interfaces := #[]
  cf := some (fileOf pool1 22 #[] #[{ accessFlags := 2, nameIndex := 5, descriptorIndex := 6, attributes := #[] }, { accessFlags := 9, nameIndex := 26, descriptorIndex := 27, attributes := #[] }] 49 2 #[] #[])
  fields := #[]
  methods := #[k1m0, k1m1]
  instanceTypes := #[]
  staticTypes := #[]
  resolved := Array.replicate 31 none
  statics := none }

def pool2 : Array CpInfo := pool [(1, .class_ 2), (0, u "java/lang/Math"), (1, .class_ 6), (1, u "java/lang/Object"), (0, u "<init>"), (0, u "()V"), (89, .class_ 100), (1, u "java/lang/Math$RandomNumberGeneratorHolder"), (20, u "(JJ)J"), (50, u "negativeZeroFloatBits"), (0, u "J"), (2, u "negativeZeroDoubleBits"), (21, u "max"), (2, u "min"), (43, u "$assertionsDisabled"), (0, u "Z"), (91, u "twoToTheDoubleScaleDown"), (0, u "D"), (4, u "twoToTheDoubleScaleUp"), (9, u "E"), (3, u "PI"), (2, u "TAU"), (2, u "DEGREES_TO_RADIANS"), (0, u "RADIANS_TO_DEGREES")] 94

def k2m0 : Method := { name := "<init>", desc := "()V", sig := { parameters := [], returnType := none }, accessFlags := 2, code := none }
def k2c1 : Code := { maxStack := 4, maxLocals := 4, code := jdk_29_method_66_code, exceptionTable := #[], attributes := #[] }
def k2m1 : Method := { name := "max", desc := "(JJ)J", sig := { parameters := [.long, .long], returnType := some .long }, accessFlags := 9, code := some k2c1 }
def k2c2 : Code := { maxStack := 4, maxLocals := 4, code := jdk_29_method_70_code, exceptionTable := #[], attributes := #[] }
def k2m2 : Method := { name := "min", desc := "(JJ)J", sig := { parameters := [.long, .long], returnType := some .long }, accessFlags := 9, code := some k2c2 }
/-- java/lang/Math -/
def k2 : Class := { plain "java/lang/Math" (some 0) with
  accessFlags := 49
  interfaces := #[]
  cf := some (fileOf pool2 1 #[.nestMembers #[98]] #[{ accessFlags := 2, nameIndex := 7, descriptorIndex := 8, attributes := #[] }, { accessFlags := 9, nameIndex := 198, descriptorIndex := 121, attributes := #[] }, { accessFlags := 9, nameIndex := 201, descriptorIndex := 121, attributes := #[] }] 49 4 #[] #[{ accessFlags := 25, nameIndex := 354, descriptorIndex := 339, attributes := #[] }, { accessFlags := 25, nameIndex := 358, descriptorIndex := 339, attributes := #[] }, { accessFlags := 25, nameIndex := 361, descriptorIndex := 339, attributes := #[] }, { accessFlags := 26, nameIndex := 364, descriptorIndex := 339, attributes := #[] }, { accessFlags := 26, nameIndex := 365, descriptorIndex := 339, attributes := #[] }, { accessFlags := 26, nameIndex := 172, descriptorIndex := 173, attributes := #[] }, { accessFlags := 26, nameIndex := 176, descriptorIndex := 173, attributes := #[] }, { accessFlags := 8, nameIndex := 344, descriptorIndex := 339, attributes := #[] }, { accessFlags := 8, nameIndex := 338, descriptorIndex := 339, attributes := #[] }, { accessFlags := 4120, nameIndex := 245, descriptorIndex := 246, attributes := #[] }])
  fields := #[{ name := "E", type := .double, accessFlags := 25, slot := 0, constantValue := 0 }, { name := "PI", type := .double, accessFlags := 25, slot := 1, constantValue := 0 }, { name := "TAU", type := .double, accessFlags := 25, slot := 2, constantValue := 0 }, { name := "DEGREES_TO_RADIANS", type := .double, accessFlags := 26, slot := 3, constantValue := 0 }, { name := "RADIANS_TO_DEGREES", type := .double, accessFlags := 26, slot := 4, constantValue := 0 }, { name := "negativeZeroFloatBits", type := .long, accessFlags := 26, slot := 5, constantValue := 0 }, { name := "negativeZeroDoubleBits", type := .long, accessFlags := 26, slot := 6, constantValue := 0 }, { name := "twoToTheDoubleScaleUp", type := .double, accessFlags := 8, slot := 7, constantValue := 0 }, { name := "twoToTheDoubleScaleDown", type := .double, accessFlags := 8, slot := 8, constantValue := 0 }, { name := "$assertionsDisabled", type := .boolean, accessFlags := 4120, slot := 9, constantValue := 0 }]
  methods := #[k2m0, k2m1, k2m2]
  instanceTypes := #[]
  staticTypes := #[.double, .double, .double, .double, .double, .long, .long, .double, .double, .boolean]
  resolved := Array.replicate 460 none
  statics := none }

def pool3 : Array CpInfo := pool [(2, .class_ 4), (1, u "java/lang/Object"), (3, .class_ 10), (1, u "com/example/stackwright/stackwright/MeterReadings"), (0, u "files"), (0, u "Ljava/util/List;"), (2, u "month"), (0, u "Lcom/example/stackwright/stackwright/BillingMonth;"), (2, u "netWhByProject"), (0, u "Ljava/util/Map;"), (2, u "keptNetWhByProject"), (74, .class_ 99), (0, u "com/example/stackwright/stackwright/MeterReadings$Recorder"), (96, u "isExport"), (0, u "(J)Z"), (66, u "KWH_DECIMALS"), (0, u "I"), (2, u "QUARTERS"), (1, u "MINUTES_PER_QUARTER"), (27, .class_ 299), (0, u "com/example/stackwright/stackwright/MeterReadings$Recorder$HoursOutside"), (0, .class_ 301), (0, u "com/example/stackwright/stackwright/MeterReadings$Flow")] 36

def k3c0 : Code := { maxStack := 4, maxLocals := 2, code := prog_55_method_6_code, exceptionTable := #[], attributes := #[] }
def k3m0 : Method := { name := "isExport", desc := "(J)Z", sig := { parameters := [.long], returnType := some .boolean }, accessFlags := 8, code := some k3c0 }
/-- com/example/stackwright/stackwright/MeterReadings -/
def k3 : Class := { plain "com/example/stackwright/stackwright/MeterReadings" (some 0) with
  accessFlags := 32
  interfaces := #[]
  cf := some (fileOf pool3 8 #[.nestMembers #[98, 298, 300]] #[{ accessFlags := 8, nameIndex := 196, descriptorIndex := 197, attributes := #[] }] 32 2 #[] #[{ accessFlags := 24, nameIndex := 264, descriptorIndex := 265, attributes := #[] }, { accessFlags := 24, nameIndex := 268, descriptorIndex := 265, attributes := #[] }, { accessFlags := 26, nameIndex := 270, descriptorIndex := 265, attributes := #[] }, { accessFlags := 18, nameIndex := 11, descriptorIndex := 12, attributes := #[] }, { accessFlags := 18, nameIndex := 15, descriptorIndex := 16, attributes := #[] }, { accessFlags := 18, nameIndex := 19, descriptorIndex := 20, attributes := #[] }, { accessFlags := 18, nameIndex := 23, descriptorIndex := 20, attributes := #[] }])
  fields := #[{ name := "KWH_DECIMALS", type := .int, accessFlags := 24, slot := 0, constantValue := 0 }, { name := "QUARTERS", type := .int, accessFlags := 24, slot := 1, constantValue := 0 }, { name := "MINUTES_PER_QUARTER", type := .int, accessFlags := 26, slot := 2, constantValue := 0 }, { name := "files", type := (.object "java/util/List"), accessFlags := 18, slot := 0, constantValue := 0 }, { name := "month", type := (.object "com/example/stackwright/stackwright/BillingMonth"), accessFlags := 18, slot := 1, constantValue := 0 }, { name := "netWhByProject", type := (.object "java/util/Map"), accessFlags := 18, slot := 2, constantValue := 0 }, { name := "keptNetWhByProject", type := (.object "java/util/Map"), accessFlags := 18, slot := 3, constantValue := 0 }]
  methods := #[k3m0]
  instanceTypes := #[(.object "java/util/List"), (.object "com/example/stackwright/stackwright/BillingMonth"), (.object "java/util/Map"), (.object "java/util/Map")]
  staticTypes := #[.int, .int, .int]
  resolved := Array.replicate 338 none
  statics := none }

def pool4 : Array CpInfo := pool [(1, u "java/lang/Cloneable"), (0, .class_ 1), (0, u "java/lang/Object"), (0, .class_ 3)] 3

/-- java/lang/Cloneable -/
def k4 : Class := { plain "java/lang/Cloneable" (some 0) with
  accessFlags := 1537
  interfaces := #[]
  cf := some (fileOf pool4 2 #[] #[] 1537 4 #[] #[])
  fields := #[]
  methods := #[]
  instanceTypes := #[]
  staticTypes := #[]
  resolved := Array.replicate 8 none
  statics := none }

def pool5 : Array CpInfo := pool [(1, u "java/io/Serializable"), (0, .class_ 1), (0, u "java/lang/Object"), (0, .class_ 3)] 3

/-- java/io/Serializable -/
def k5 : Class := { plain "java/io/Serializable" (some 0) with
  accessFlags := 1537
  interfaces := #[]
  cf := some (fileOf pool5 2 #[] #[] 1537 4 #[] #[])
  fields := #[]
  methods := #[]
  instanceTypes := #[]
  staticTypes := #[]
  resolved := Array.replicate 8 none
  statics := none }

/-- the primitive byte -/
def k6 : Class := { plain "byte" none with kind := .primitive 'B', accessFlags := 0x411 }
/-- [B -/
def k7 : Class := { plain "[B" (some 0) with kind := .array 6 .byte, interfaces := #[4, 5], accessFlags := 1041 }

/-- the primitive int -/
def k8 : Class := { plain "int" none with kind := .primitive 'I', accessFlags := 0x411 }
/-- [I -/
def k9 : Class := { plain "[I" (some 0) with kind := .array 8 .int, interfaces := #[4, 5], accessFlags := 1041 }

def heap : Heap := #[]
def classes : Array Class := #[k0, k1, k2, k3, k4, k5, k6, k7, k8, k9]
def interned : List (Array UInt16 × Addr) := []
def slotsUsed : Nat := 0
def theMethod : MethodId := ⟨1, 1⟩
def args0 : Array Value := #[.long 5, .long 3]
def aboutOver (below : List Frame) : State where
  vm := { classes := classes, interned := interned.toArray }
  heap := heap
  slotsUsed := slotsUsed
  threads := #[{ frames := .invoking theMethod args0 :: below }]
def below0 : List Frame := [.native { method := ⟨0, 0⟩, args := #[] }]
def about1 : State := aboutOver below0
def p0 : Program := .bare "" "" ""
def e0 : Env := launch0.env 0 0 0
theorem w_frames : about1.frames = Frame.invoking theMethod args0 :: below0 := rfl
set_option maxRecDepth 65536 in
theorem w_args : argsFit about1.vm theMethod args0 = true := by decide +kernel
set_option maxRecDepth 65536 in
theorem w_heap : heapFits about1 = true := by decide +kernel
set_option maxRecDepth 65536 in
theorem w_runnable : about1.curStatus? = some .runnable := by decide +kernel
set_option maxRecDepth 65536 in
theorem w_alone : about1.alone = true := by decide +kernel
set_option maxRecDepth 65536 in
theorem w_named : about1.methodNamed? x = some theMethod := by decide +kernel
set_option maxRecDepth 65536 in
theorem w_hears : about1.hears theMethod below0 = true := by decide +kernel
set_option maxRecDepth 65536 in
theorem w_ripe : about1.ripe theMethod args0 below0 = true := by decide +kernel
theorem w_running : about1.status = .running := rfl
set_option maxRecDepth 65536 in
theorem w_room : about1.hasRoom e0.platform room_1 = true :=
  launch0.hasRoom_least _ room_1 (by decide +kernel) (by decide +kernel) (by decide +kernel) (by decide +kernel) (by decide +kernel) (by decide +kernel)
theorem allAtoms_all (ts : List Jvm.Cond) (a : Array Jvm.Value) (st : Jvm.State) : (allAtoms ts).before a st = ts.all (fun c => c.before a st) := by
  induction ts with
  | nil => rfl
  | cons c t ih =>
    show (Jvm.Cond.and c (allAtoms t)).before a st = _
    rw [Jvm.Cond.before_and, ih, List.all_cons]
def words1 : List Jvm.Cond := Jvm.Cond.code x code maxLocals ret :: tables_1
/-- a 'code' word, met by the world's own term for the bytes: nothing is compared byte by byte -/
theorem code_word {y : MethodName} {bytes : ByteArray} {mx : Nat} {rt : Option FieldType} {a : Array Value} {s : State} {m : MethodId} {meth : Method} {c : Code} (h1 : s.methodNamed? y = some m) (h2 : s.vm.method? m = some meth) (h3 : meth.code = some c) (h4 : c.code = bytes)
    (h5 : (c.maxLocals == mx && c.exceptionTable.isEmpty && decide (c.maxStack ≤ mostOperands) && decide (meth.sig.returnType = rt) && !meth.locks && decide (parseMethodDescriptor y.desc = some meth.sig)) = true) : (Jvm.Cond.code y bytes mx rt).before a s = true := by
  simp only [Bool.and_eq_true, beq_iff_eq, Bool.not_eq_true', decide_eq_true_eq] at h5
  obtain ⟨⟨⟨⟨⟨g1, g2⟩, g3⟩, g4⟩, g5⟩, g6⟩ := h5
  simp [Cond.before, Cond.holds, Cond.value, h1, h2, h3, h4, g1, g2, g3, g4, g5, g6]
def isCode : Jvm.Cond → Bool
  | .code _ _ _ _ => true
  | _ => false
theorem all_split {L : List Jvm.Cond} {P : Jvm.Cond → Bool} (h1 : L.all (fun c => isCode c || P c) = true) (h2 : ∀ c ∈ L.filter isCode, P c = true) : L.all P = true := by
  refine List.all_eq_true.mpr fun c hc => ?_
  have h := List.all_eq_true.mp h1 c hc
  rcases Bool.eq_false_or_eq_true (isCode c) with hi | hi
  · exact h2 c (List.mem_filter.mpr ⟨hc, hi⟩)
  · simpa [hi] using h
set_option maxRecDepth 65536 in
theorem w_c0 : (Jvm.Cond.code x code maxLocals ret).before args0 about1 = true := code_word (m := ⟨1, 1⟩) (meth := k1m1) (c := k1c1) (by decide +kernel) rfl rfl rfl (by decide +kernel)
set_option maxRecDepth 65536 in
theorem w_c1 : (Jvm.Cond.code ({ cls := "java/lang/Math", name := "min", desc := "(JJ)J" } : Jvm.MethodName) jdk_29_method_70_code (4 : Nat) (Option.some Jvm.ClassFile.FieldType.long)).before args0 about1 = true := code_word (m := ⟨2, 2⟩) (meth := k2m2) (c := k2c2) (by decide +kernel) rfl rfl rfl (by decide +kernel)
set_option maxRecDepth 65536 in
theorem w_c2 : (Jvm.Cond.code ({ cls := "java/lang/Math", name := "max", desc := "(JJ)J" } : Jvm.MethodName) jdk_29_method_66_code (4 : Nat) (Option.some Jvm.ClassFile.FieldType.long)).before args0 about1 = true := code_word (m := ⟨2, 1⟩) (meth := k2m1) (c := k2c1) (by decide +kernel) rfl rfl rfl (by decide +kernel)
set_option maxRecDepth 65536 in
theorem w_c3 : (Jvm.Cond.code ({ cls := "com/example/stackwright/stackwright/MeterReadings", name := "isExport", desc := "(J)Z" } : Jvm.MethodName) prog_55_method_6_code (2 : Nat) (Option.some Jvm.ClassFile.FieldType.boolean)).before args0 about1 = true := code_word (m := ⟨3, 0⟩) (meth := k3m0) (c := k3c0) (by decide +kernel) rfl rfl rfl (by decide +kernel)
def codes1 : List Jvm.Cond := [Jvm.Cond.code x code maxLocals ret, Jvm.Cond.code ({ cls := "java/lang/Math", name := "min", desc := "(JJ)J" } : Jvm.MethodName) jdk_29_method_70_code (4 : Nat) (Option.some Jvm.ClassFile.FieldType.long), Jvm.Cond.code ({ cls := "java/lang/Math", name := "max", desc := "(JJ)J" } : Jvm.MethodName) jdk_29_method_66_code (4 : Nat) (Option.some Jvm.ClassFile.FieldType.long), Jvm.Cond.code ({ cls := "com/example/stackwright/stackwright/MeterReadings", name := "isExport", desc := "(J)Z" } : Jvm.MethodName) prog_55_method_6_code (2 : Nat) (Option.some Jvm.ClassFile.FieldType.boolean)]
set_option maxRecDepth 65536 in
theorem codes_eq : words1.filter isCode = codes1 := rfl
theorem w_codes : ∀ c ∈ words1.filter isCode, c.before args0 about1 = true := by
  rw [codes_eq]
  intro c hc
  simp only [codes1, List.mem_cons, List.not_mem_nil, or_false] at hc
  rcases hc with rfl | rfl | rfl | rfl
  · exact w_c0
  · exact w_c1
  · exact w_c2
  · exact w_c3
set_option maxRecDepth 65536 in
theorem w_t1 : words1.all (fun c => isCode c || c.before args0 about1) = true := by decide +kernel
theorem w_tables : (allAtoms (Jvm.Cond.code x code maxLocals ret :: tables_1)).before args0 about1 = true := by
  rw [allAtoms_all]
  show words1.all (fun c => c.before args0 about1) = true
  refine all_split ?_ w_codes
  rw [w_t1]
set_option maxRecDepth 65536 in
theorem w_case : (Jvm.Cond.and given_1 narrow_1).before args0 about1 = true := by decide +kernel
theorem w_applies : (headSpec (Jvm.Cond.code x code maxLocals ret :: tables_1) room_1).applies x e0.platform about1 = true :=
  (Spec.applies_iff w_frames).mpr ⟨w_running, w_runnable, w_alone, w_named, w_hears, w_ripe, w_room, w_tables⟩
theorem atStart : AtStart classFile x code maxLocals ret World_1 tables_1 room_1 Calls_1 rest_1 Pre_1 launch0 p0 e0 about1 theMethod args0 below0 :=
  ⟨lists_1, trivial, launch0.admits_env _ _ _, launch0.least_env, fairChoices_fair.cas, fairChoices_fair.clock, w_frames, w_args, w_heap, w_applies, trivial, trivial, w_case⟩
end start1
theorem witness_1 : WitnessClaimed_1 := ⟨start1.p0, start1.e0, start1.about1, start1.theMethod, start1.args0, start1.below0, start1.atStart⟩
end Jvm.Pilot.@@N@@
