import JvmDerived
import JvmDerived.Pilot.@@N@@Statement
import JvmDerived.Pilot.@@N@@Code
set_option linter.unusedVariables false
set_option linter.unusedSimpArgs false
namespace Jvm.RoadKit
open Sem ClassFile Op Lib Jvm.Stand Jvm.Free Jvm.LawKit
section New
variable {p : Program} {l : Launch} {e : Env} {R : Room} {s : State} {m : MethodId} {args : Array Value} {below : List Frame} {meth : Method} {c : Code} {T : State} {locs : List Loc} {cells slots : Nat}
theorem retI (X : Stand p l e R s m args below meth c T locs cells slots) (hx : p.tables.exec = Jvm.exec) {pc : Nat} {Ls : Array Slot} {z : Int32} {rest : List Value} (hret : meth.sig.returnType = some .int) (hd : decode c.code pc = .ok (.ireturn, 1)) {fs : List Frame}
    (hl : ∀ (f : JFrame) (acts : List Action), f.method = m → f.locked = none → f.entered = [] → (doReturn e (T.setTop f) acts (some (.int z))).1 = T.setFrames fs) : Steps p.tables e below (T.setTop (mkF m pc Ls (.int z :: rest))) (T.setFrames fs) := by
  have hm' : T.vm.method? m = some meth := X.method'
  have hn : narrow .int (.int z) = .int z := rfl
  show Steps p.tables e below (T.setTop { method := m, pc := pc, locals := Ls, stack := _ :: rest, locked := none }) _
  jvm_step X.here [X.here.top, hx, hd, hm', hret, hn]
  first | (intro acts; rw [hl _ acts rfl rfl rfl]) | rw [hl _ _ rfl rfl rfl]
  exact Steps.refl _
end New
end Jvm.RoadKit
namespace Jvm.Pilot.@@N@@
open Jvm Jvm.ClassFile Sem Op Lib Jvm.Free Jvm.Stand Jvm.LawKit Jvm.RoadKit Bundle Jvm.Pilot.@@N@@.Jvm.D
theorem own_go {tb : Tables} {e : Env} {below : List Frame} {A B : State} {P : State → Outcome → Prop} (st : ∀ t, Steps tb e below B t → Steps tb e below A t) (h : ∃ s₂ o, Steps tb e below B s₂ ∧ P s₂ o) : ∃ s₂ o, Steps tb e below A s₂ ∧ P s₂ o := by
  obtain ⟨s₂, o, h1, h2⟩ := h
  exact ⟨s₂, o, st _ h1, h2⟩
theorem own_gj {tb : Tables} {e : Env} {below : List Frame} {A B : State} {P : State → Heap → List Loc → Prop} {F : State → State} (st : ∀ t, Steps tb e below B t → Steps tb e below A t) (h : ∃ T' h' L', P T' h' L' ∧ ∀ t, Steps tb e below (F T') t → Steps tb e below B t) : ∃ T' h' L', P T' h' L' ∧ ∀ t, Steps tb e below (F T') t → Steps tb e below A t := by
  obtain ⟨T', h', L', h1, h2⟩ := h
  exact ⟨T', h', L', h1, fun t k => st t (h2 t k)⟩
theorem own_stak {Z : State} {h h' : Heap} {C n d : String} {v : Value} (F : Sta Z h C n d v) (K : Keep h h' []) : Sta Z h' C n d v := by
  obtain ⟨cf, i, k, f, st, cell, h1, h2, h3, h4, h5, r⟩ := F
  exact ⟨cf, i, k, f, st, cell, h1, h2, h3, h4, K.2.1 _ _ h5 nin0, r⟩
theorem d3_0 : decode jdk_30_method_1_code 0 = .ok (.aload_n 0, 1) := by decide +kernel
theorem d3_1 : decode jdk_30_method_1_code 1 = .ok (.invokespecial 1, 3) := by decide +kernel
theorem d3_4 : decode jdk_30_method_1_code 4 = .ok (.return_, 1) := by decide +kernel
theorem pn_3 : plainName "java/lang/Record" = true := by first | (simp [plainName, overriddenIn]; done) | decide +kernel
theorem ef_3 (m : MethodId) (a0 : Addr) : entryFrame m #[(.ref a0)] 1 = mkF m 0 #[.val (.ref a0)] [] := by first | (simp [entryFrame, mkF, argsToLocals, Value.category]; done) | rfl
def Q3 (Z : State) (a0 : Addr) (h0 : Heap) (n0 : Nat) (v : Option Value) (h : Heap) (L : List Loc) : Prop := v = none ∧ Fr n0 L ∧ h = h0
set_option maxRecDepth 65536 in
set_option maxHeartbeats 40000000 in
theorem rm3 (l : Launch) (Z : State) (av0 : Array Value) (hw : ∀ d ∈ tables_1, d.before av0 Z = true) (ws : List Jvm.Cond) (a0 : Addr) (h0 : Heap) (n0 : Nat) (Z0 : n0 ≤ h0.size) :
    MetFree l (⟨"java/lang/Record", "<init>", "()V"⟩ : MethodName) (head1 (Jvm.Cond.code (⟨"java/lang/Record", "<init>", "()V"⟩ : MethodName) jdk_30_method_1_code 1 none :: ws) ({ frames := 1, cells := 0, slots := 0, locals := 12 } : Room)) (fun a U => a = #[(.ref a0)] ∧ Z.Warmed39 U.vm ∧ U.heap = h0) (fun _ _ _ _ _ => True) (fun _ U o U' => ∃ v L, o = .returned v ∧ Q3 Z a0 h0 n0 v U'.heap L ∧ FrameEnd U o U' L ({ frames := 1, cells := 0, slots := 0, locals := 12 } : Room).cells ({ frames := 1, cells := 0, slots := 0, locals := 12 } : Room).slots) := by
  refine MetFree.of_bodySF (plainFor_of_name pn_3) hisR ?_
  intro p e s m args below meth c s₁ Bd hml0 hP hK
  obtain ⟨rfl, hZ, hh⟩ := hP
  have hx := Bd.exec
  have hby := Bd.bytes
  have hml : c.maxLocals = 1 := hml0
  have hown : s.vm.findClass "java/lang/Record" = some m.cls := findClass_of_methodNamed Bd.named
  have hnm := (name_of_methodNamed Bd.named Bd.method).1
  have X0 : Stand p l e ({ frames := 1, cells := 0, slots := 0, locals := 12 } : Room) s m #[(.ref a0)] below meth c s₁ [] 0 0 := Stand.of_body Bd
  have e0 : s₁.heap = h0 := by rw [← hh, Bd.state]; rfl
  have N0 := Fr.nil n0
  have K0 : Keep h0 h0 [] := Keep.refl h0 []
  refine own_go (B := s₁.setTop (mkF m 0 #[.val (.ref a0)] [])) (fun t k => castTop (ef_3 m a0) k) ?_
  refine own_go (B := s₁.setTop (mkF m 1 #[.val (.ref a0)] [(.ref a0)])) (fun t k => ?_) ?_
  · show Steps p.tables e below (s₁.setTop (mkF m 0 #[.val (.ref a0)] [])) _
    refine XS.aloadN X0.here hx rfl (hb hby d3_0) rfl rfl ?_
    exact k
  obtain ⟨T1, X1, e1, st1⟩ := initO X0 hx hZ hown (hw _ (List.mem_of_getElem? (i := 15) rfl)) (hw _ (List.mem_of_getElem? (i := 16) rfl)) (hw _ (List.mem_of_getElem? (i := 17) rfl)) e0 (g := (mkF m 1 #[.val (.ref a0)] [(.ref a0)])) rfl (by rw [hml]; rfl) rfl (hb hby d3_1) (by decide) (W := 0) (by show 2 * 0 + _ ≤ _; exact Nat.le_of_eq rfl) (by decide)
  refine own_go (B := T1.setTop (mkF m 4 #[.val (.ref a0)] [])) (fun t k => st1 t k) ?_
  obtain ⟨fs, hr, hrun, hended, hW, hsame⟩ := X1.leave (v := none) (fun _ => rfl)
  refine ⟨_, _, ?_, hrun, hended, _, _, rfl, ?_, ⟨_, rfl⟩, hW, hsame.mono (by decide) (by decide)⟩
  · show Steps p.tables e below (T1.setTop (mkF m 4 #[.val (.ref a0)] [])) _
    exact X1.returnOut hx Bd.returns (hb hby d3_4) hr
  · show Q3 Z a0 h0 n0 _ T1.heap _
    rw [e1]
    exact ⟨rfl, N0, rfl⟩
theorem d2_0 : decode prog_67_method_1_code 0 = .ok (.aload_n 0, 1) := by decide +kernel
theorem d2_1 : decode prog_67_method_1_code 1 = .ok (.invokespecial 1, 3) := by decide +kernel
theorem d2_4 : decode prog_67_method_1_code 4 = .ok (.iload_n 1, 1) := by decide +kernel
theorem d2_5 : decode prog_67_method_1_code 5 = .ok (.iconst 1, 1) := by decide +kernel
theorem d2_6 : decode prog_67_method_1_code 6 = .ok (.if_icmp .lt 9, 3) := by decide +kernel
theorem d2_9 : decode prog_67_method_1_code 9 = .ok (.iload_n 1, 1) := by decide +kernel
theorem d2_10 : decode prog_67_method_1_code 10 = .ok (.bipush 64, 2) := by decide +kernel
theorem d2_12 : decode prog_67_method_1_code 12 = .ok (.if_icmp .le 17, 3) := by decide +kernel
theorem d2_29 : decode prog_67_method_1_code 29 = .ok (.lload_n 2, 1) := by decide +kernel
theorem d2_30 : decode prog_67_method_1_code 30 = .ok (.ldc2_w 18, 3) := by decide +kernel
theorem d2_33 : decode prog_67_method_1_code 33 = .ok (.lcmp, 1) := by decide +kernel
theorem d2_34 : decode prog_67_method_1_code 34 = .ok (.ifCond .lt 11, 3) := by decide +kernel
theorem d2_37 : decode prog_67_method_1_code 37 = .ok (.lload_n 2, 1) := by decide +kernel
theorem d2_38 : decode prog_67_method_1_code 38 = .ok (.ldc2_w 20, 3) := by decide +kernel
theorem d2_41 : decode prog_67_method_1_code 41 = .ok (.lcmp, 1) := by decide +kernel
theorem d2_42 : decode prog_67_method_1_code 42 = .ok (.ifCond .le 17, 3) := by decide +kernel
theorem d2_59 : decode prog_67_method_1_code 59 = .ok (.aload_n 0, 1) := by decide +kernel
theorem d2_60 : decode prog_67_method_1_code 60 = .ok (.iload_n 1, 1) := by decide +kernel
theorem d2_61 : decode prog_67_method_1_code 61 = .ok (.putfield 25, 3) := by decide +kernel
theorem d2_64 : decode prog_67_method_1_code 64 = .ok (.aload_n 0, 1) := by decide +kernel
theorem d2_65 : decode prog_67_method_1_code 65 = .ok (.lload_n 2, 1) := by decide +kernel
theorem d2_66 : decode prog_67_method_1_code 66 = .ok (.putfield 29, 3) := by decide +kernel
theorem d2_69 : decode prog_67_method_1_code 69 = .ok (.return_, 1) := by decide +kernel
theorem pn_2 : plainName "com/example/pactum/pactum/core/Settings" = true := by first | (simp [plainName, overriddenIn]; done) | decide +kernel
theorem ef_2 (m : MethodId) (a0 : Addr) (p1 : Int32) (q2 : Int64) : entryFrame m #[(.ref a0), (.int p1), (.long q2)] 4 = mkF m 0 #[.val (.ref a0), .val (.int p1), .val (.long q2), .second] [] := by first | (simp [entryFrame, mkF, argsToLocals, Value.category]; done) | rfl
theorem pd_0 : parseMethodDescriptor "()V" = some ⟨[], none⟩ := by decide +kernel
def Q2 (Z : State) (a0 : Addr) (p1 : Int32) (q2 : Int64) (u0 : Value) (u1 : Value) (h0 : Heap) (n0 : Nat) (v : Option Value) (h : Heap) (L : List Loc) : Prop := v = none ∧ Fr n0 L ∧ Keep h0 h [a0] ∧ Fld Z h a0 "com/example/pactum/pactum/core/Settings" "replicas" "I" (.int p1) ∧ Fld Z h a0 "com/example/pactum/pactum/core/Settings" "chunkSize" "J" (.long q2)
set_option maxRecDepth 65536 in
set_option maxHeartbeats 40000000 in
theorem rm2 (l : Launch) (Z : State) (av0 : Array Value) (hw : ∀ d ∈ tables_1, d.before av0 Z = true) (ws : List Jvm.Cond) (a0 : Addr) (p1 : Int32) (q2 : Int64) (u0 : Value) (u1 : Value) (h0 : Heap) (n0 : Nat) (Z0 : n0 ≤ h0.size) (E_a0 : Exa Z h0 a0 "com/example/pactum/pactum/core/Settings") (F_replicas_a0 : Fld Z h0 a0 "com/example/pactum/pactum/core/Settings" "replicas" "I" u0) (F_chunkSize_a0 : Fld Z h0 a0 "com/example/pactum/pactum/core/Settings" "chunkSize" "J" u1) (g_a0 : n0 ≤ a0) (hp6 : ¬ (p1 < (1 : Int32))) (hp12 : ¬ ((64 : Int32) < p1)) (hp34 : ¬ ((lcmpW q2 (1024 : Int64)) < (0 : Int32))) (hp42 : ¬ ((0 : Int32) < (lcmpW q2 (1073741824 : Int64)))) :
    MetFree l (⟨"com/example/pactum/pactum/core/Settings", "<init>", "(IJ)V"⟩ : MethodName) (head1 (Jvm.Cond.code (⟨"com/example/pactum/pactum/core/Settings", "<init>", "(IJ)V"⟩ : MethodName) prog_67_method_1_code 4 none :: ws) ({ frames := 2, cells := 0, slots := 0, locals := 24 } : Room)) (fun a U => a = #[(.ref a0), (.int p1), (.long q2)] ∧ Z.Warmed39 U.vm ∧ U.heap = h0) (fun _ _ _ _ _ => True) (fun _ U o U' => ∃ v L, o = .returned v ∧ Q2 Z a0 p1 q2 u0 u1 h0 n0 v U'.heap L ∧ FrameEnd U o U' L ({ frames := 2, cells := 0, slots := 0, locals := 24 } : Room).cells ({ frames := 2, cells := 0, slots := 0, locals := 24 } : Room).slots) := by
  refine MetFree.of_bodySF (plainFor_of_name pn_2) hisR ?_
  intro p e s m args below meth c s₁ Bd hml0 hP hK
  obtain ⟨rfl, hZ, hh⟩ := hP
  have hx := Bd.exec
  have hby := Bd.bytes
  have hml : c.maxLocals = 4 := hml0
  have hown : s.vm.findClass "com/example/pactum/pactum/core/Settings" = some m.cls := findClass_of_methodNamed Bd.named
  have hnm := (name_of_methodNamed Bd.named Bd.method).1
  have X0 : Stand p l e ({ frames := 2, cells := 0, slots := 0, locals := 24 } : Room) s m #[(.ref a0), (.int p1), (.long q2)] below meth c s₁ [] 0 0 := Stand.of_body Bd
  have e0 : s₁.heap = h0 := by rw [← hh, Bd.state]; rfl
  have N0 := Fr.nil n0
  have K0 : Keep h0 h0 [a0] := Keep.refl h0 [a0]
  refine own_go (B := s₁.setTop (mkF m 0 #[.val (.ref a0), .val (.int p1), .val (.long q2), .second] [])) (fun t k => castTop (ef_2 m a0 p1 q2) k) ?_
  refine own_go (B := s₁.setTop (mkF m 1 #[.val (.ref a0), .val (.int p1), .val (.long q2), .second] [(.ref a0)])) (fun t k => ?_) ?_
  · show Steps p.tables e below (s₁.setTop (mkF m 0 #[.val (.ref a0), .val (.int p1), .val (.long q2), .second] [])) _
    refine XS.aloadN X0.here hx rfl (hb hby d2_0) rfl rfl ?_
    exact k
  obtain ⟨_, _, ⟨T1, L1, k1, n1⟩, -, X1, ⟨Lc1, hQ1, l1, y1, z1⟩, st1⟩ := X0.specialBack hx (y := (⟨"java/lang/Record", "<init>", "()V"⟩ : MethodName)) rfl hown (mvT hZ (hw _ (List.mem_of_getElem? (i := 10) rfl))) (mvT hZ (hw _ (List.mem_of_getElem? (i := 11) rfl))) (mvT hZ (hw _ (List.mem_of_getElem? (i := 14) rfl))) (by decide) (backOf (W := 0) (rm3 l Z av0 hw [] a0  h0 n0 Z0 ) hZ (hw _ (List.mem_of_getElem? (i := 14) rfl)) (hw _ (List.mem_of_getElem? (i := 13) rfl)) (by decide) (by decide)) (g := (mkF m 1 #[.val (.ref a0), .val (.int p1), .val (.long q2), .second] [(.ref a0)])) rfl (by rw [hml]; rfl) (Steps.refl _) (a := a0) (argsL := []) (rest := []) (lenOf pd_0 rfl) rfl (by show 2 * 0 + _ ≤ _; exact Nat.le_of_eq rfl) (hb hby d2_1) (fun _ _ => ⟨rfl, e0, (by decide : 0 + 0 ≤ _), (by decide : 0 + 0 ≤ _)⟩)
  dsimp only [Pt.U, Pt.locs, Pt.cells, Pt.slots] at X1 l1 y1 z1 st1 hQ1
  subst l1 y1 z1
  obtain ⟨rfl, N1q, e1⟩ := hQ1
  have N1 := Fr.app N0 N1q
  refine own_go (B := T1.setTop (mkF m 4 #[.val (.ref a0), .val (.int p1), .val (.long q2), .second] [])) (fun t k => st1.trans k) ?_
  refine own_go (B := T1.setTop (mkF m 6 #[.val (.ref a0), .val (.int p1), .val (.long q2), .second] [(.int (1 : Int32)), (.int p1)])) (fun t k => ?_) ?_
  · show Steps p.tables e below (T1.setTop (mkF m 4 #[.val (.ref a0), .val (.int p1), .val (.long q2), .second] [])) _
    refine XS.iloadN X1.here hx rfl (hb hby d2_4) rfl ?_
    show Steps p.tables e below (T1.setTop (mkF m 5 #[.val (.ref a0), .val (.int p1), .val (.long q2), .second] [(.int p1)])) _
    refine XS.iconst X1.here hx rfl (hb hby d2_5) ?_
    exact k
  refine own_go (B := T1.setTop (mkF m 9 #[.val (.ref a0), .val (.int p1), .val (.long q2), .second] [])) (fun t k => ?_) ?_
  · show Steps p.tables e below (T1.setTop (mkF m 6 #[.val (.ref a0), .val (.int p1), .val (.long q2), .second] [(.int (1 : Int32)), (.int p1)])) _
    refine XS.icmpNo X1.here hx rfl (hb hby d2_6) rfl (flt hp6).1 ?_
    exact k
  refine own_go (B := T1.setTop (mkF m 12 #[.val (.ref a0), .val (.int p1), .val (.long q2), .second] [(.int (64 : Int32)), (.int p1)])) (fun t k => ?_) ?_
  · show Steps p.tables e below (T1.setTop (mkF m 9 #[.val (.ref a0), .val (.int p1), .val (.long q2), .second] [])) _
    refine XS.iloadN X1.here hx rfl (hb hby d2_9) rfl ?_
    show Steps p.tables e below (T1.setTop (mkF m 10 #[.val (.ref a0), .val (.int p1), .val (.long q2), .second] [(.int p1)])) _
    refine XS.bipush X1.here hx rfl (hb hby d2_10) ?_
    exact k
  refine own_go (B := T1.setTop (mkF m 29 #[.val (.ref a0), .val (.int p1), .val (.long q2), .second] [])) (fun t k => ?_) ?_
  · show Steps p.tables e below (T1.setTop (mkF m 12 #[.val (.ref a0), .val (.int p1), .val (.long q2), .second] [(.int (64 : Int32)), (.int p1)])) _
    refine XS.icmpYes X1.here hx rfl (pc0 := 12) (pc' := 29) rfl (hb hby d2_12) rfl (flt hp12).2.2.2 (by decide) (by decide) ?_
    exact k
  refine own_go (B := T1.setTop (mkF m 34 #[.val (.ref a0), .val (.int p1), .val (.long q2), .second] [(.int (lcmpW q2 (1024 : Int64)))])) (fun t k => ?_) ?_
  · show Steps p.tables e below (T1.setTop (mkF m 29 #[.val (.ref a0), .val (.int p1), .val (.long q2), .second] [])) _
    refine XS.lloadN X1.here hx rfl (hb hby d2_29) rfl ?_
    show Steps p.tables e below (T1.setTop (mkF m 30 #[.val (.ref a0), .val (.int p1), .val (.long q2), .second] [(.long q2)])) _
    refine X1.ldc2Long hx hown (mvT hZ (hw _ (List.mem_of_getElem? (i := 18) rfl))) (g := (mkF m 30 #[.val (.ref a0), .val (.int p1), .val (.long q2), .second] [(.long q2)])) rfl (hb hby d2_30) _ ?_
    show Steps p.tables e below (T1.setTop (mkF m 33 #[.val (.ref a0), .val (.int p1), .val (.long q2), .second] [(.long (1024 : Int64)), (.long q2)])) _
    refine XS.lcmp X1.here hx rfl (hb hby d2_33) rfl ?_
    exact k
  refine own_go (B := T1.setTop (mkF m 37 #[.val (.ref a0), .val (.int p1), .val (.long q2), .second] [])) (fun t k => ?_) ?_
  · show Steps p.tables e below (T1.setTop (mkF m 34 #[.val (.ref a0), .val (.int p1), .val (.long q2), .second] [(.int (lcmpW q2 (1024 : Int64)))])) _
    refine XS.ifNo X1.here hx rfl (hb hby d2_34) rfl ((if0 _ _).trans (flt hp34).1) ?_
    exact k
  refine own_go (B := T1.setTop (mkF m 42 #[.val (.ref a0), .val (.int p1), .val (.long q2), .second] [(.int (lcmpW q2 (1073741824 : Int64)))])) (fun t k => ?_) ?_
  · show Steps p.tables e below (T1.setTop (mkF m 37 #[.val (.ref a0), .val (.int p1), .val (.long q2), .second] [])) _
    refine XS.lloadN X1.here hx rfl (hb hby d2_37) rfl ?_
    show Steps p.tables e below (T1.setTop (mkF m 38 #[.val (.ref a0), .val (.int p1), .val (.long q2), .second] [(.long q2)])) _
    refine X1.ldc2Long hx hown (mvT hZ (hw _ (List.mem_of_getElem? (i := 19) rfl))) (g := (mkF m 38 #[.val (.ref a0), .val (.int p1), .val (.long q2), .second] [(.long q2)])) rfl (hb hby d2_38) _ ?_
    show Steps p.tables e below (T1.setTop (mkF m 41 #[.val (.ref a0), .val (.int p1), .val (.long q2), .second] [(.long (1073741824 : Int64)), (.long q2)])) _
    refine XS.lcmp X1.here hx rfl (hb hby d2_41) rfl ?_
    exact k
  refine own_go (B := T1.setTop (mkF m 59 #[.val (.ref a0), .val (.int p1), .val (.long q2), .second] [])) (fun t k => ?_) ?_
  · show Steps p.tables e below (T1.setTop (mkF m 42 #[.val (.ref a0), .val (.int p1), .val (.long q2), .second] [(.int (lcmpW q2 (1073741824 : Int64)))])) _
    refine XS.ifYes X1.here hx rfl (pc0 := 42) (pc' := 59) rfl (hb hby d2_42) rfl ((if0 _ _).trans (flt hp42).2.2.2) (by decide) (by decide) ?_
    exact k
  refine own_go (B := T1.setTop (mkF m 61 #[.val (.ref a0), .val (.int p1), .val (.long q2), .second] [(.int p1), (.ref a0)])) (fun t k => ?_) ?_
  · show Steps p.tables e below (T1.setTop (mkF m 59 #[.val (.ref a0), .val (.int p1), .val (.long q2), .second] [])) _
    refine XS.aloadN X1.here hx rfl (hb hby d2_59) rfl rfl ?_
    show Steps p.tables e below (T1.setTop (mkF m 60 #[.val (.ref a0), .val (.int p1), .val (.long q2), .second] [(.ref a0)])) _
    refine XS.iloadN X1.here hx rfl (hb hby d2_60) rfl ?_
    exact k
  obtain ⟨T2, h2, X2, e2, W2, st2⟩ := putF X1 hx hZ hown (host := "") (Or.inl (hw _ (List.mem_of_getElem? (i := 20) rfl))) Via.refl e1 F_replicas_a0 E_a0 (Or.inr ⟨(hw _ (List.mem_of_getElem? (i := 21) rfl)), rfl, hnm⟩) (hw _ (List.mem_of_getElem? (i := 5) rfl)) (ty := .int) (by decide) rfl rfl (g := (mkF m 61 #[.val (.ref a0), .val (.int p1), .val (.long q2), .second] [(.int p1), (.ref a0)])) rfl rfl (hb hby d2_61)
  have c1 : Keep h0 h2 [a0] := K0.wr W2 (Or.inl (List.mem_of_getElem? (i := 0) rfl))
  have c2 : Exa Z h2 a0 "com/example/pactum/pactum/core/Settings" := E_a0.wr W2
  have c3 : Fld Z h2 a0 "com/example/pactum/pactum/core/Settings" "replicas" "I" (.int p1) := F_replicas_a0.same W2
  have c4 : Fld Z h2 a0 "com/example/pactum/pactum/core/Settings" "chunkSize" "J" u1 := F_chunkSize_a0.other W2 (Or.inr (slot_ne (Or.inr (hw _ (List.mem_of_getElem? (i := 23) rfl))) (Or.inr (hw _ (List.mem_of_getElem? (i := 21) rfl))) (by decide) (t := .long) (t' := .int) (by decide) (by decide)))
  have N2 := Fr.snoc X2 N1 g_a0
  have Z0_2 : n0 ≤ h2.size := by rw [W2.size]; exact Z0
  refine own_go (B := T2.setTop (mkF m 64 #[.val (.ref a0), .val (.int p1), .val (.long q2), .second] [])) (fun t k => st2 t k) ?_
  refine own_go (B := T2.setTop (mkF m 66 #[.val (.ref a0), .val (.int p1), .val (.long q2), .second] [(.long q2), (.ref a0)])) (fun t k => ?_) ?_
  · show Steps p.tables e below (T2.setTop (mkF m 64 #[.val (.ref a0), .val (.int p1), .val (.long q2), .second] [])) _
    refine XS.aloadN X2.here hx rfl (hb hby d2_64) rfl rfl ?_
    show Steps p.tables e below (T2.setTop (mkF m 65 #[.val (.ref a0), .val (.int p1), .val (.long q2), .second] [(.ref a0)])) _
    refine XS.lloadN X2.here hx rfl (hb hby d2_65) rfl ?_
    exact k
  obtain ⟨T3, h3, X3, e3, W3, st3⟩ := putF X2 hx hZ hown (host := "") (Or.inl (hw _ (List.mem_of_getElem? (i := 22) rfl))) Via.refl e2 c4 c2 (Or.inr ⟨(hw _ (List.mem_of_getElem? (i := 23) rfl)), rfl, hnm⟩) (hw _ (List.mem_of_getElem? (i := 5) rfl)) (ty := .long) (by decide) rfl rfl (g := (mkF m 66 #[.val (.ref a0), .val (.int p1), .val (.long q2), .second] [(.long q2), (.ref a0)])) rfl rfl (hb hby d2_66)
  have c5 : Keep h0 h3 [a0] := c1.wr W3 (Or.inl (List.mem_of_getElem? (i := 0) rfl))
  have c6 : Exa Z h3 a0 "com/example/pactum/pactum/core/Settings" := c2.wr W3
  have c7 : Fld Z h3 a0 "com/example/pactum/pactum/core/Settings" "replicas" "I" (.int p1) := c3.other W3 (Or.inr (slot_ne (Or.inr (hw _ (List.mem_of_getElem? (i := 21) rfl))) (Or.inr (hw _ (List.mem_of_getElem? (i := 23) rfl))) (by decide) (t := .int) (t' := .long) (by decide) (by decide)))
  have c8 : Fld Z h3 a0 "com/example/pactum/pactum/core/Settings" "chunkSize" "J" (.long q2) := c4.same W3
  have N3 := Fr.snoc X3 N2 g_a0
  have Z0_3 : n0 ≤ h3.size := by rw [W3.size]; exact Z0_2
  refine own_go (B := T3.setTop (mkF m 69 #[.val (.ref a0), .val (.int p1), .val (.long q2), .second] [])) (fun t k => st3 t k) ?_
  obtain ⟨fs, hr, hrun, hended, hW, hsame⟩ := X3.leave (v := none) (fun _ => rfl)
  refine ⟨_, _, ?_, hrun, hended, _, _, rfl, ?_, ⟨_, rfl⟩, hW, hsame.mono (by decide) (by decide)⟩
  · show Steps p.tables e below (T3.setTop (mkF m 69 #[.val (.ref a0), .val (.int p1), .val (.long q2), .second] [])) _
    exact X3.returnOut hx Bd.returns (hb hby d2_69) hr
  · show Q2 Z a0 p1 q2 u0 u1 h0 n0 _ T3.heap _
    rw [e3]
    exact ⟨rfl, N3, c5, c7, c8⟩
theorem d1_0 : decode prog_67_method_2_code 0 = .ok (.new 7, 3) := by decide +kernel
theorem d1_3 : decode prog_67_method_2_code 3 = .ok (.dup, 1) := by decide +kernel
theorem d1_4 : decode prog_67_method_2_code 4 = .ok (.iconst 3, 1) := by decide +kernel
theorem d1_5 : decode prog_67_method_2_code 5 = .ok (.ldc2_w 33, 3) := by decide +kernel
theorem d1_8 : decode prog_67_method_2_code 8 = .ok (.invokespecial 35, 3) := by decide +kernel
theorem d1_11 : decode prog_67_method_2_code 11 = .ok (.areturn, 1) := by decide +kernel
theorem pn_1 : plainName "com/example/pactum/pactum/core/Settings" = true := by first | (simp [plainName, overriddenIn]; done) | decide +kernel
theorem ef_1 (m : MethodId)  : entryFrame m #[] 0 = mkF m 0 #[] [] := by first | (simp [entryFrame, mkF, argsToLocals, Value.category]; done) | rfl
theorem pd_1 : parseMethodDescriptor "(IJ)V" = some ⟨[.int, .long], none⟩ := by decide +kernel
def Q1 (Z : State)  (h0 : Heap) (n0 : Nat) (v : Option Value) (h : Heap) (L : List Loc) : Prop := ∃ b : Addr, v = some (.ref b) ∧ Fr n0 L ∧ Keep h0 h [] ∧ h0.size ≤ b ∧ Exa Z h b "com/example/pactum/pactum/core/Settings" ∧ Fld Z h b "com/example/pactum/pactum/core/Settings" "replicas" "I" (.int (3 : Int32)) ∧ Fld Z h b "com/example/pactum/pactum/core/Settings" "chunkSize" "J" (.long (50000000 : Int64))
set_option maxRecDepth 65536 in
set_option maxHeartbeats 40000000 in
theorem rm1 (l : Launch) (Z : State) (av0 : Array Value) (hw : ∀ d ∈ tables_1, d.before av0 Z = true) (ws : List Jvm.Cond)  (h0 : Heap) (n0 : Nat) (Z0 : n0 ≤ h0.size) :
    MetFree l (⟨"com/example/pactum/pactum/core/Settings", "defaults", "()Lcom/example/pactum/pactum/core/Settings;"⟩ : MethodName) (head1 (Jvm.Cond.code (⟨"com/example/pactum/pactum/core/Settings", "defaults", "()Lcom/example/pactum/pactum/core/Settings;"⟩ : MethodName) prog_67_method_2_code 0 (some (.object "com/example/pactum/pactum/core/Settings")) :: ws) ({ frames := 3, cells := 1, slots := 2, locals := 40 } : Room)) (fun a U => a = #[] ∧ Z.Warmed39 U.vm ∧ U.heap = h0) (fun _ _ _ _ _ => True) (fun _ U o U' => ∃ v L, o = .returned v ∧ Q1 Z  h0 n0 v U'.heap L ∧ FrameEnd U o U' L ({ frames := 3, cells := 1, slots := 2, locals := 40 } : Room).cells ({ frames := 3, cells := 1, slots := 2, locals := 40 } : Room).slots) := by
  refine MetFree.of_bodySF (plainFor_of_name pn_1) hisR ?_
  intro p e s m args below meth c s₁ Bd hml0 hP hK
  obtain ⟨rfl, hZ, hh⟩ := hP
  have hx := Bd.exec
  have hby := Bd.bytes
  have hml : c.maxLocals = 0 := hml0
  have hown : s.vm.findClass "com/example/pactum/pactum/core/Settings" = some m.cls := findClass_of_methodNamed Bd.named
  have hnm := (name_of_methodNamed Bd.named Bd.method).1
  have X0 : Stand p l e ({ frames := 3, cells := 1, slots := 2, locals := 40 } : Room) s m #[] below meth c s₁ [] 0 0 := Stand.of_body Bd
  have e0 : s₁.heap = h0 := by rw [← hh, Bd.state]; rfl
  have N0 := Fr.nil n0
  have K0 : Keep h0 h0 [] := Keep.refl h0 []
  refine own_go (B := s₁.setTop (mkF m 0 #[] [])) (fun t k => castTop (ef_1 m ) k) ?_
  obtain ⟨T1, h1, X1, e1, E1, A1, D1, -, st1⟩ := newO X0 hx hZ hown (hw _ (List.mem_of_getElem? (i := 4) rfl)) (hw _ (List.mem_of_getElem? (i := 5) rfl)) (hw _ (List.mem_of_getElem? (i := 2) rfl)) e0 (g := (mkF m 0 #[] [])) rfl (hb hby d1_0) (by decide) (by decide)
  obtain ⟨b1, g1⟩ : ∃ z, z = h0.size := ⟨_, rfl⟩
  rw [← g1] at A1 D1 st1
  have g_b1 : n0 ≤ b1 := Nat.le_trans Z0 (Nat.le_of_eq g1.symm)
  have sz_b1 : h0.size ≤ b1 := Nat.le_trans K0.1 (Nat.le_of_eq g1.symm)
  have c1 : Keep h0 h1 [] := K0.ext E1
  have Z0_1 : n0 ≤ h1.size := Nat.le_trans Z0 E1.1
  have F_replicas_b1 : Fld Z h1 b1 "com/example/pactum/pactum/core/Settings" "replicas" "I" (.int (0 : Int32)) := D1 (Or.inr (hw _ (List.mem_of_getElem? (i := 21) rfl))) (ty := .int) (by decide)
  have F_chunkSize_b1 : Fld Z h1 b1 "com/example/pactum/pactum/core/Settings" "chunkSize" "J" (.long (0 : Int64)) := D1 (Or.inr (hw _ (List.mem_of_getElem? (i := 23) rfl))) (ty := .long) (by decide)
  refine own_go (B := T1.setTop (mkF m 3 #[] [(.ref b1)])) (fun t k => st1 t k) ?_
  refine own_go (B := T1.setTop (mkF m 8 #[] [(.long (50000000 : Int64)), (.int (3 : Int32)), (.ref b1), (.ref b1)])) (fun t k => ?_) ?_
  · show Steps p.tables e below (T1.setTop (mkF m 3 #[] [(.ref b1)])) _
    refine XS.dup X1.here hx rfl (hb hby d1_3) rfl rfl ?_
    show Steps p.tables e below (T1.setTop (mkF m 4 #[] [(.ref b1), (.ref b1)])) _
    refine XS.iconst X1.here hx rfl (hb hby d1_4) ?_
    show Steps p.tables e below (T1.setTop (mkF m 5 #[] [(.int (3 : Int32)), (.ref b1), (.ref b1)])) _
    refine X1.ldc2Long hx hown (mvT hZ (hw _ (List.mem_of_getElem? (i := 6) rfl))) (g := (mkF m 5 #[] [(.int (3 : Int32)), (.ref b1), (.ref b1)])) rfl (hb hby d1_5) _ ?_
    exact k
  obtain ⟨_, _, ⟨T2, L2, k2, n2⟩, -, X2, ⟨Lc2, hQ2, l2, y2, z2⟩, st2⟩ := X1.specialBack hx (y := (⟨"com/example/pactum/pactum/core/Settings", "<init>", "(IJ)V"⟩ : MethodName)) rfl hown (mvT hZ (hw _ (List.mem_of_getElem? (i := 7) rfl))) (mvT hZ (hw _ (List.mem_of_getElem? (i := 8) rfl))) (mvT hZ (hw _ (List.mem_of_getElem? (i := 9) rfl))) (by decide) (backOf (W := 1) (rm2 l Z av0 hw [] b1 (3 : Int32) (50000000 : Int64) (.int (0 : Int32)) (.long (0 : Int64)) h1 n0 Z0_1 A1 F_replicas_b1 F_chunkSize_b1 g_b1 (by decide +kernel) (by decide +kernel) (by decide +kernel) (by decide +kernel)) hZ (hw _ (List.mem_of_getElem? (i := 9) rfl)) (hw _ (List.mem_of_getElem? (i := 2) rfl)) (by decide) (by decide)) (g := (mkF m 8 #[] [(.long (50000000 : Int64)), (.int (3 : Int32)), (.ref b1), (.ref b1)])) rfl (by rw [hml]; rfl) (Steps.refl _) (a := b1) (argsL := [(.int (3 : Int32)), (.long (50000000 : Int64))]) (rest := [(.ref b1)]) (lenOf pd_1 rfl) rfl (by show 2 * 0 + _ ≤ _; exact Nat.le_of_eq rfl) (hb hby d1_8) (fun _ _ => ⟨rfl, e1, (by decide : 1 + 0 ≤ _), (by decide : 2 + 0 ≤ _)⟩)
  dsimp only [Pt.U, Pt.locs, Pt.cells, Pt.slots] at X2 l2 y2 z2 st2 hQ2
  subst l2 y2 z2
  obtain ⟨rfl, N2q, K2, f2_0, f2_1⟩ := hQ2
  have N2 := Fr.app N0 N2q
  have c2 : Keep h0 T2.heap [] := c1.trans K2 (allS (Or.inr sz_b1) all0)
  have c3 : Exa Z T2.heap b1 "com/example/pactum/pactum/core/Settings" := A1.keep K2
  have Z0_2 : n0 ≤ T2.heap.size := Nat.le_trans Z0_1 K2.1
  refine own_go (B := T2.setTop (mkF m 11 #[] [(.ref b1)])) (fun t k => st2.trans k) ?_
  obtain ⟨fs, hr, hrun, hended, hW, hsame⟩ := X2.leave (v := some (.ref b1)) (fun h => by rw [Bd.returns] at h; cases h)
  refine ⟨_, _, ?_, hrun, hended, _, _, rfl, ?_, ⟨_, rfl⟩, hW, hsame.mono (by decide) (by decide)⟩
  · show Steps p.tables e below (T2.setTop (mkF m 11 #[] [(.ref b1)])) _
    jvm_step X2.here [X2.here.top, hx, (hb hby d1_11), X2.method', Bd.returns, Value.isRef, FieldType.isReference]
    first | (intro acts; rw [hr _ acts rfl rfl rfl]) | rw [hr _ _ rfl rfl rfl]
    exact Steps.refl _
  · show Q1 Z  h0 n0 _ T2.heap _
    exact ⟨b1, rfl, N2, c2, sz_b1, c3, f2_0, f2_1⟩
theorem d5_0 : decode prog_67_method_8_code 0 = .ok (.aload_n 0, 1) := by decide +kernel
theorem d5_1 : decode prog_67_method_8_code 1 = .ok (.getfield 25, 3) := by decide +kernel
theorem d5_4 : decode prog_67_method_8_code 4 = .ok (.ireturn, 1) := by decide +kernel
theorem pn_5 : plainName "com/example/pactum/pactum/core/Settings" = true := by first | (simp [plainName, overriddenIn]; done) | decide +kernel
theorem ef_5 (m : MethodId) (a0 : Addr) : entryFrame m #[(.ref a0)] 1 = mkF m 0 #[.val (.ref a0)] [] := by first | (simp [entryFrame, mkF, argsToLocals, Value.category]; done) | rfl
def Q5 (Z : State) (a0 : Addr) (w : Int32) (h0 : Heap) (n0 : Nat) (v : Option Value) (h : Heap) (L : List Loc) : Prop := v = some (.int w) ∧ Fr n0 L ∧ h = h0
set_option maxRecDepth 65536 in
set_option maxHeartbeats 40000000 in
theorem rm5 (l : Launch) (Z : State) (av0 : Array Value) (hw : ∀ d ∈ tables_1, d.before av0 Z = true) (ws : List Jvm.Cond) (a0 : Addr) (w : Int32) (h0 : Heap) (n0 : Nat) (Z0 : n0 ≤ h0.size) (F_replicas_a0 : Fld Z h0 a0 "com/example/pactum/pactum/core/Settings" "replicas" "I" (.int w)) :
    MetFree l (⟨"com/example/pactum/pactum/core/Settings", "replicas", "()I"⟩ : MethodName) (head1 (Jvm.Cond.code (⟨"com/example/pactum/pactum/core/Settings", "replicas", "()I"⟩ : MethodName) prog_67_method_8_code 1 (some .int) :: ws) ({ frames := 0, cells := 0, slots := 0, locals := 0 } : Room)) (fun a U => a = #[(.ref a0)] ∧ Z.Warmed39 U.vm ∧ U.heap = h0) (fun _ _ _ _ _ => True) (fun _ U o U' => ∃ v L, o = .returned v ∧ Q5 Z a0 w h0 n0 v U'.heap L ∧ FrameEnd U o U' L ({ frames := 0, cells := 0, slots := 0, locals := 0 } : Room).cells ({ frames := 0, cells := 0, slots := 0, locals := 0 } : Room).slots) := by
  refine MetFree.of_bodySF (plainFor_of_name pn_5) hisR ?_
  intro p e s m args below meth c s₁ Bd hml0 hP hK
  obtain ⟨rfl, hZ, hh⟩ := hP
  have hx := Bd.exec
  have hby := Bd.bytes
  have hml : c.maxLocals = 1 := hml0
  have hown : s.vm.findClass "com/example/pactum/pactum/core/Settings" = some m.cls := findClass_of_methodNamed Bd.named
  have hnm := (name_of_methodNamed Bd.named Bd.method).1
  have X0 : Stand p l e ({ frames := 0, cells := 0, slots := 0, locals := 0 } : Room) s m #[(.ref a0)] below meth c s₁ [] 0 0 := Stand.of_body Bd
  have e0 : s₁.heap = h0 := by rw [← hh, Bd.state]; rfl
  have N0 := Fr.nil n0
  have K0 : Keep h0 h0 [] := Keep.refl h0 []
  refine own_go (B := s₁.setTop (mkF m 0 #[.val (.ref a0)] [])) (fun t k => castTop (ef_5 m a0) k) ?_
  refine own_go (B := s₁.setTop (mkF m 1 #[.val (.ref a0)] [(.ref a0)])) (fun t k => ?_) ?_
  · show Steps p.tables e below (s₁.setTop (mkF m 0 #[.val (.ref a0)] [])) _
    refine XS.aloadN X0.here hx rfl (hb hby d5_0) rfl rfl ?_
    exact k
  obtain ⟨T1, X1, e1, st1⟩ := getF X0 hx hZ hown (host := "") (Or.inl (hw _ (List.mem_of_getElem? (i := 20) rfl))) Via.refl e0 F_replicas_a0 (g := (mkF m 1 #[.val (.ref a0)] [(.ref a0)])) rfl rfl (hb hby d5_1)
  refine own_go (B := T1.setTop (mkF m 4 #[.val (.ref a0)] [(.int w)])) (fun t k => st1 t k) ?_
  obtain ⟨fs, hr, hrun, hended, hW, hsame⟩ := X1.leave (v := some (.int w)) (fun h => by rw [Bd.returns] at h; cases h)
  refine ⟨_, _, ?_, hrun, hended, _, _, rfl, ?_, ⟨_, rfl⟩, hW, hsame.mono (by decide) (by decide)⟩
  · show Steps p.tables e below (T1.setTop (mkF m 4 #[.val (.ref a0)] [(.int w)])) _
    exact retI X1 hx Bd.returns (hb hby d5_4) hr
  · show Q5 Z a0 w h0 n0 _ T1.heap _
    rw [e1]
    exact ⟨rfl, N0, rfl⟩
theorem d6_0 : decode prog_67_method_9_code 0 = .ok (.aload_n 0, 1) := by decide +kernel
theorem d6_1 : decode prog_67_method_9_code 1 = .ok (.getfield 29, 3) := by decide +kernel
theorem d6_4 : decode prog_67_method_9_code 4 = .ok (.lreturn, 1) := by decide +kernel
theorem pn_6 : plainName "com/example/pactum/pactum/core/Settings" = true := by first | (simp [plainName, overriddenIn]; done) | decide +kernel
theorem ef_6 (m : MethodId) (a0 : Addr) : entryFrame m #[(.ref a0)] 1 = mkF m 0 #[.val (.ref a0)] [] := by first | (simp [entryFrame, mkF, argsToLocals, Value.category]; done) | rfl
def Q6 (Z : State) (a0 : Addr) (w : Int64) (h0 : Heap) (n0 : Nat) (v : Option Value) (h : Heap) (L : List Loc) : Prop := v = some (.long w) ∧ Fr n0 L ∧ h = h0
set_option maxRecDepth 65536 in
set_option maxHeartbeats 40000000 in
theorem rm6 (l : Launch) (Z : State) (av0 : Array Value) (hw : ∀ d ∈ tables_1, d.before av0 Z = true) (ws : List Jvm.Cond) (a0 : Addr) (w : Int64) (h0 : Heap) (n0 : Nat) (Z0 : n0 ≤ h0.size) (F_chunkSize_a0 : Fld Z h0 a0 "com/example/pactum/pactum/core/Settings" "chunkSize" "J" (.long w)) :
    MetFree l (⟨"com/example/pactum/pactum/core/Settings", "chunkSize", "()J"⟩ : MethodName) (head1 (Jvm.Cond.code (⟨"com/example/pactum/pactum/core/Settings", "chunkSize", "()J"⟩ : MethodName) prog_67_method_9_code 1 (some .long) :: ws) ({ frames := 0, cells := 0, slots := 0, locals := 0 } : Room)) (fun a U => a = #[(.ref a0)] ∧ Z.Warmed39 U.vm ∧ U.heap = h0) (fun _ _ _ _ _ => True) (fun _ U o U' => ∃ v L, o = .returned v ∧ Q6 Z a0 w h0 n0 v U'.heap L ∧ FrameEnd U o U' L ({ frames := 0, cells := 0, slots := 0, locals := 0 } : Room).cells ({ frames := 0, cells := 0, slots := 0, locals := 0 } : Room).slots) := by
  refine MetFree.of_bodySF (plainFor_of_name pn_6) hisR ?_
  intro p e s m args below meth c s₁ Bd hml0 hP hK
  obtain ⟨rfl, hZ, hh⟩ := hP
  have hx := Bd.exec
  have hby := Bd.bytes
  have hml : c.maxLocals = 1 := hml0
  have hown : s.vm.findClass "com/example/pactum/pactum/core/Settings" = some m.cls := findClass_of_methodNamed Bd.named
  have hnm := (name_of_methodNamed Bd.named Bd.method).1
  have X0 : Stand p l e ({ frames := 0, cells := 0, slots := 0, locals := 0 } : Room) s m #[(.ref a0)] below meth c s₁ [] 0 0 := Stand.of_body Bd
  have e0 : s₁.heap = h0 := by rw [← hh, Bd.state]; rfl
  have N0 := Fr.nil n0
  have K0 : Keep h0 h0 [] := Keep.refl h0 []
  refine own_go (B := s₁.setTop (mkF m 0 #[.val (.ref a0)] [])) (fun t k => castTop (ef_6 m a0) k) ?_
  refine own_go (B := s₁.setTop (mkF m 1 #[.val (.ref a0)] [(.ref a0)])) (fun t k => ?_) ?_
  · show Steps p.tables e below (s₁.setTop (mkF m 0 #[.val (.ref a0)] [])) _
    refine XS.aloadN X0.here hx rfl (hb hby d6_0) rfl rfl ?_
    exact k
  obtain ⟨T1, X1, e1, st1⟩ := getF X0 hx hZ hown (host := "") (Or.inl (hw _ (List.mem_of_getElem? (i := 22) rfl))) Via.refl e0 F_chunkSize_a0 (g := (mkF m 1 #[.val (.ref a0)] [(.ref a0)])) rfl rfl (hb hby d6_1)
  refine own_go (B := T1.setTop (mkF m 4 #[.val (.ref a0)] [(.long w)])) (fun t k => st1 t k) ?_
  obtain ⟨fs, hr, hrun, hended, hW, hsame⟩ := X1.leave (v := some (.long w)) (fun h => by rw [Bd.returns] at h; cases h)
  refine ⟨_, _, ?_, hrun, hended, _, _, rfl, ?_, ⟨_, rfl⟩, hW, hsame.mono (by decide) (by decide)⟩
  · show Steps p.tables e below (T1.setTop (mkF m 4 #[.val (.ref a0)] [(.long w)])) _
    jvm_step X1.here [X1.here.top, hx, (hb hby d6_4), X1.method', Bd.returns, narrow]
    first | (intro acts; rw [hr _ acts rfl rfl rfl]) | rw [hr _ _ rfl rfl rfl]
    exact Steps.refl _
  · show Q6 Z a0 w h0 n0 _ T1.heap _
    rw [e1]
    exact ⟨rfl, N0, rfl⟩
theorem pn_0 : plainName "com/example/pactum/pactum/core/SettingsDefaultsPinLaw" = true := by first | (simp [plainName, overriddenIn]; done) | decide +kernel
theorem ef_0 (m : MethodId)  : entryFrame m #[] maxLocals = mkF m 0 #[.unset, .unset, .unset, .unset, .unset, .unset, .unset, .unset, .unset] [] := by first | (simp [entryFrame, mkF, argsToLocals, Value.category, maxLocals]; done) | rfl
theorem pd_2 : parseMethodDescriptor "()Lcom/example/pactum/pactum/core/Settings;" = some ⟨[], some (.object "com/example/pactum/pactum/core/Settings")⟩ := by decide +kernel
theorem pd_3 : parseMethodDescriptor "()I" = some ⟨[], some .int⟩ := by decide +kernel
theorem pd_4 : parseMethodDescriptor "()J" = some ⟨[], some .long⟩ := by decide +kernel
def Q0 (Z : State)  (h0 : Heap) (n0 : Nat) (v : Option Value) (h : Heap) (L : List Loc) : Prop := v = some (.int 1) ∧ Fr n0 L ∧ True
set_option maxRecDepth 65536 in
set_option maxHeartbeats 40000000 in
theorem rm0 (l : Launch) (Z : State) (av0 : Array Value) (hw : ∀ d ∈ tables_1, d.before av0 Z = true) (ws : List Jvm.Cond)  (h0 : Heap) (n0 : Nat) (Z0 : n0 ≤ h0.size) :
    MetFree l x (head1 (Jvm.Cond.code x code maxLocals ret :: ws) room_1) (fun a U => a = #[] ∧ Z.Warmed39 U.vm ∧ U.heap = h0) (fun _ _ _ _ _ => True) (fun _ U o U' => ∃ v L, o = .returned v ∧ Q0 Z  h0 n0 v U'.heap L ∧ FrameEnd U o U' L room_1.cells room_1.slots) := by
  refine MetFree.of_bodySF (plainFor_of_name pn_0) hisR ?_
  intro p e s m args below meth c s₁ Bd hml0 hP hK
  obtain ⟨rfl, hZ, hh⟩ := hP
  have hx := Bd.exec
  have hby := Bd.bytes
  have hml : c.maxLocals = 9 := hml0
  have hown : s.vm.findClass "com/example/pactum/pactum/core/SettingsDefaultsPinLaw" = some m.cls := findClass_of_methodNamed Bd.named
  have hnm := (name_of_methodNamed Bd.named Bd.method).1
  have X0 : Stand p l e room_1 s m #[] below meth c s₁ [] 0 0 := Stand.of_body Bd
  have e0 : s₁.heap = h0 := by rw [← hh, Bd.state]; rfl
  have N0 := Fr.nil n0
  have K0 : Keep h0 h0 [] := Keep.refl h0 []
  refine own_go (B := s₁.setTop (mkF m 0 #[.unset, .unset, .unset, .unset, .unset, .unset, .unset, .unset, .unset] [])) (fun t k => castTop (ef_0 m ) k) ?_
  obtain ⟨_, _, ⟨T1, L1, k1, n1⟩, -, X1, ⟨Lc1, hQ1, l1, y1, z1⟩, st1⟩ := Jvm.LawKit.callS X0 hx (y := (⟨"com/example/pactum/pactum/core/Settings", "defaults", "()Lcom/example/pactum/pactum/core/Settings;"⟩ : MethodName)) hown (mvT hZ (hw _ (List.mem_of_getElem? (i := 0) rfl))) (mvT hZ (hw _ (List.mem_of_getElem? (i := 1) rfl))) (mvT hZ (hw _ (List.mem_of_getElem? (i := 2) rfl))) (mvT hZ (hw _ (List.mem_of_getElem? (i := 3) rfl))) (by decide) (backOf (W := 0) (rm1 l Z av0 hw []   h0 n0 Z0 ) hZ (hw _ (List.mem_of_getElem? (i := 3) rfl)) (hw _ (List.mem_of_getElem? (i := 2) rfl)) (by decide) (by decide)) (g := (mkF m 0 #[.unset, .unset, .unset, .unset, .unset, .unset, .unset, .unset, .unset] [])) rfl (by rw [hml]; rfl) (argsL := []) (rest := []) (lenOf pd_2 rfl) rfl (by show 2 * 0 + _ ≤ _; exact Nat.le_of_eq rfl) (hb hby at_0) (fun _ _ => ⟨rfl, e0, (by decide : 0 + 1 ≤ _), (by decide : 0 + 2 ≤ _)⟩)
  dsimp only [Pt.U, Pt.locs, Pt.cells, Pt.slots] at X1 l1 y1 z1 st1 hQ1
  subst l1 y1 z1
  obtain ⟨b1, rfl, N1q, K1, szq1, E1, f1_0, f1_1⟩ := hQ1
  have N1 := Fr.app N0 N1q
  have c1 : Keep h0 T1.heap [] := K0.trans K1 all0
  have Z0_1 : n0 ≤ T1.heap.size := Nat.le_trans Z0 K1.1
  refine own_go (B := T1.setTop (mkF m 3 #[.unset, .unset, .unset, .unset, .unset, .unset, .unset, .unset, .unset] [(.ref b1)])) (fun t k => st1 t k) ?_
  refine own_go (B := T1.setTop (mkF m 4 #[.val (.ref b1), .unset, .unset, .unset, .unset, .unset, .unset, .unset, .unset] [])) (fun t k => ?_) ?_
  · show Steps p.tables e below (T1.setTop (mkF m 3 #[.unset, .unset, .unset, .unset, .unset, .unset, .unset, .unset, .unset] [(.ref b1)])) _
    refine XS.astoreN X1.here hx rfl (hb hby at_3) rfl rfl (l' := #[.val (.ref b1), .unset, .unset, .unset, .unset, .unset, .unset, .unset, .unset]) rfl ?_
    exact k
  obtain ⟨_, _, ⟨T2, L2, k2, n2⟩, -, X2, ⟨Lc2, hQ2, l2, y2, z2⟩, st2⟩ := Jvm.LawKit.callS X1 hx (y := (⟨"com/example/pactum/pactum/core/Settings", "defaults", "()Lcom/example/pactum/pactum/core/Settings;"⟩ : MethodName)) hown (mvT hZ (hw _ (List.mem_of_getElem? (i := 0) rfl))) (mvT hZ (hw _ (List.mem_of_getElem? (i := 1) rfl))) (mvT hZ (hw _ (List.mem_of_getElem? (i := 2) rfl))) (mvT hZ (hw _ (List.mem_of_getElem? (i := 3) rfl))) (by decide) (backOf (W := 0) (rm1 l Z av0 hw []   T1.heap n0 Z0_1 ) hZ (hw _ (List.mem_of_getElem? (i := 3) rfl)) (hw _ (List.mem_of_getElem? (i := 2) rfl)) (by decide) (by decide)) (g := (mkF m 4 #[.val (.ref b1), .unset, .unset, .unset, .unset, .unset, .unset, .unset, .unset] [])) rfl (by rw [hml]; rfl) (argsL := []) (rest := []) (lenOf pd_2 rfl) rfl (by show 2 * 0 + _ ≤ _; exact Nat.le_of_eq rfl) (hb hby at_4) (fun _ _ => ⟨rfl, rfl, (by decide : 1 + 1 ≤ _), (by decide : 2 + 2 ≤ _)⟩)
  dsimp only [Pt.U, Pt.locs, Pt.cells, Pt.slots] at X2 l2 y2 z2 st2 hQ2
  subst l2 y2 z2
  obtain ⟨b2, rfl, N2q, K2, szq2, E2, f2_0, f2_1⟩ := hQ2
  have N2 := Fr.app N1 N2q
  have c2 : Keep h0 T2.heap [] := c1.trans K2 all0
  have c3 : Exa Z T2.heap b1 "com/example/pactum/pactum/core/Settings" := E1.keep K2
  have c4 : Fld Z T2.heap b1 "com/example/pactum/pactum/core/Settings" "replicas" "I" (.int (3 : Int32)) := f1_0.keep K2 nin0
  have c5 : Fld Z T2.heap b1 "com/example/pactum/pactum/core/Settings" "chunkSize" "J" (.long (50000000 : Int64)) := f1_1.keep K2 nin0
  have Z0_2 : n0 ≤ T2.heap.size := Nat.le_trans Z0_1 K2.1
  refine own_go (B := T2.setTop (mkF m 7 #[.val (.ref b1), .unset, .unset, .unset, .unset, .unset, .unset, .unset, .unset] [(.ref b2)])) (fun t k => st2 t k) ?_
  refine own_go (B := T2.setTop (mkF m 9 #[.val (.ref b1), .val (.ref b2), .unset, .unset, .unset, .unset, .unset, .unset, .unset] [(.ref b1)])) (fun t k => ?_) ?_
  · show Steps p.tables e below (T2.setTop (mkF m 7 #[.val (.ref b1), .unset, .unset, .unset, .unset, .unset, .unset, .unset, .unset] [(.ref b2)])) _
    refine XS.astoreN X2.here hx rfl (hb hby at_7) rfl rfl (l' := #[.val (.ref b1), .val (.ref b2), .unset, .unset, .unset, .unset, .unset, .unset, .unset]) rfl ?_
    show Steps p.tables e below (T2.setTop (mkF m 8 #[.val (.ref b1), .val (.ref b2), .unset, .unset, .unset, .unset, .unset, .unset, .unset] [])) _
    refine XS.aloadN X2.here hx rfl (hb hby at_8) rfl rfl ?_
    exact k
  obtain ⟨cq3, kq3, q3a, q3b, q3c⟩ := isOf hZ rfl c3
  obtain ⟨_, _, ⟨T3, L3, k3, n3⟩, -, X3, ⟨Lc3, hQ3, l3, y3, z3⟩, st3⟩ := X2.virtualBack hx (y := (⟨"com/example/pactum/pactum/core/Settings", "replicas", "()I"⟩ : MethodName)) (z := (⟨"com/example/pactum/pactum/core/Settings", "replicas", "()I"⟩ : MethodName)) hown (mvT hZ (hw _ (List.mem_of_getElem? (i := 24) rfl))) (mvT hZ (hw _ (List.mem_of_getElem? (i := 25) rfl))) (notFace_of_selects (args := #[]) (mvT hZ (hw _ (List.mem_of_getElem? (i := 27) rfl)))) (mvT hZ (hw _ (List.mem_of_getElem? (i := 27) rfl))) (mvT hZ (hw _ (List.mem_of_getElem? (i := 26) rfl))) (by decide) (backOf (W := 0) (rm5 l Z av0 hw [] b1 (3 : Int32) T2.heap n0 Z0_2 c4) hZ (hw _ (List.mem_of_getElem? (i := 28) rfl)) (hw _ (List.mem_of_getElem? (i := 2) rfl)) (by decide) (by decide)) q3a q3c (g := (mkF m 9 #[.val (.ref b1), .val (.ref b2), .unset, .unset, .unset, .unset, .unset, .unset, .unset] [(.ref b1)])) rfl (by rw [hml]; rfl) (Steps.refl _) (argsL := []) (rest := []) (lenOf pd_3 rfl) rfl (by show 2 * 0 + _ ≤ _; exact Nat.le_of_eq rfl) (hb hby at_9) (fun _ _ => ⟨rfl, rfl, (by decide : 2 + 0 ≤ _), (by decide : 4 + 0 ≤ _)⟩)
  dsimp only [Pt.U, Pt.locs, Pt.cells, Pt.slots] at X3 l3 y3 z3 st3 hQ3
  subst l3 y3 z3
  obtain ⟨rfl, N3q, e3⟩ := hQ3
  have N3 := Fr.app N2 N3q
  refine own_go (B := T3.setTop (mkF m 12 #[.val (.ref b1), .val (.ref b2), .unset, .unset, .unset, .unset, .unset, .unset, .unset] [(.int (3 : Int32))])) (fun t k => st3.trans k) ?_
  refine own_go (B := T3.setTop (mkF m 14 #[.val (.ref b1), .val (.ref b2), .val (.int (3 : Int32)), .unset, .unset, .unset, .unset, .unset, .unset] [(.ref b1)])) (fun t k => ?_) ?_
  · show Steps p.tables e below (T3.setTop (mkF m 12 #[.val (.ref b1), .val (.ref b2), .unset, .unset, .unset, .unset, .unset, .unset, .unset] [(.int (3 : Int32))])) _
    refine XS.istoreN X3.here hx rfl (hb hby at_12) rfl (l' := #[.val (.ref b1), .val (.ref b2), .val (.int (3 : Int32)), .unset, .unset, .unset, .unset, .unset, .unset]) rfl ?_
    show Steps p.tables e below (T3.setTop (mkF m 13 #[.val (.ref b1), .val (.ref b2), .val (.int (3 : Int32)), .unset, .unset, .unset, .unset, .unset, .unset] [])) _
    refine XS.aloadN X3.here hx rfl (hb hby at_13) rfl rfl ?_
    exact k
  obtain ⟨cq4, kq4, q4a, q4b, q4c⟩ := isOf hZ e3 c3
  obtain ⟨_, _, ⟨T4, L4, k4, n4⟩, -, X4, ⟨Lc4, hQ4, l4, y4, z4⟩, st4⟩ := X3.virtualBack hx (y := (⟨"com/example/pactum/pactum/core/Settings", "chunkSize", "()J"⟩ : MethodName)) (z := (⟨"com/example/pactum/pactum/core/Settings", "chunkSize", "()J"⟩ : MethodName)) hown (mvT hZ (hw _ (List.mem_of_getElem? (i := 29) rfl))) (mvT hZ (hw _ (List.mem_of_getElem? (i := 30) rfl))) (notFace_of_selects (args := #[]) (mvT hZ (hw _ (List.mem_of_getElem? (i := 32) rfl)))) (mvT hZ (hw _ (List.mem_of_getElem? (i := 32) rfl))) (mvT hZ (hw _ (List.mem_of_getElem? (i := 31) rfl))) (by decide) (backOf (W := 0) (rm6 l Z av0 hw [] b1 (50000000 : Int64) T2.heap n0 Z0_2 c5) hZ (hw _ (List.mem_of_getElem? (i := 33) rfl)) (hw _ (List.mem_of_getElem? (i := 2) rfl)) (by decide) (by decide)) q4a q4c (g := (mkF m 14 #[.val (.ref b1), .val (.ref b2), .val (.int (3 : Int32)), .unset, .unset, .unset, .unset, .unset, .unset] [(.ref b1)])) rfl (by rw [hml]; rfl) (Steps.refl _) (argsL := []) (rest := []) (lenOf pd_4 rfl) rfl (by show 2 * 0 + _ ≤ _; exact Nat.le_of_eq rfl) (hb hby at_14) (fun _ _ => ⟨rfl, e3, (by decide : 2 + 0 ≤ _), (by decide : 4 + 0 ≤ _)⟩)
  dsimp only [Pt.U, Pt.locs, Pt.cells, Pt.slots] at X4 l4 y4 z4 st4 hQ4
  subst l4 y4 z4
  obtain ⟨rfl, N4q, e4⟩ := hQ4
  have N4 := Fr.app N3 N4q
  refine own_go (B := T4.setTop (mkF m 17 #[.val (.ref b1), .val (.ref b2), .val (.int (3 : Int32)), .unset, .unset, .unset, .unset, .unset, .unset] [(.long (50000000 : Int64))])) (fun t k => st4.trans k) ?_
  refine own_go (B := T4.setTop (mkF m 20 #[.val (.ref b1), .val (.ref b2), .val (.int (3 : Int32)), .val (.long (50000000 : Int64)), .second, .unset, .unset, .unset, .unset] [(.int (3 : Int32)), (.int (3 : Int32))])) (fun t k => ?_) ?_
  · show Steps p.tables e below (T4.setTop (mkF m 17 #[.val (.ref b1), .val (.ref b2), .val (.int (3 : Int32)), .unset, .unset, .unset, .unset, .unset, .unset] [(.long (50000000 : Int64))])) _
    refine XS.lstoreN X4.here hx rfl (hb hby at_17) rfl (l' := #[.val (.ref b1), .val (.ref b2), .val (.int (3 : Int32)), .val (.long (50000000 : Int64)), .second, .unset, .unset, .unset, .unset]) rfl ?_
    show Steps p.tables e below (T4.setTop (mkF m 18 #[.val (.ref b1), .val (.ref b2), .val (.int (3 : Int32)), .val (.long (50000000 : Int64)), .second, .unset, .unset, .unset, .unset] [])) _
    refine XS.iloadN X4.here hx rfl (hb hby at_18) rfl ?_
    show Steps p.tables e below (T4.setTop (mkF m 19 #[.val (.ref b1), .val (.ref b2), .val (.int (3 : Int32)), .val (.long (50000000 : Int64)), .second, .unset, .unset, .unset, .unset] [(.int (3 : Int32))])) _
    refine XS.iconst X4.here hx rfl (hb hby at_19) ?_
    exact k
  refine own_go (B := T4.setTop (mkF m 23 #[.val (.ref b1), .val (.ref b2), .val (.int (3 : Int32)), .val (.long (50000000 : Int64)), .second, .unset, .unset, .unset, .unset] [])) (fun t k => ?_) ?_
  · show Steps p.tables e below (T4.setTop (mkF m 20 #[.val (.ref b1), .val (.ref b2), .val (.int (3 : Int32)), .val (.long (50000000 : Int64)), .second, .unset, .unset, .unset, .unset] [(.int (3 : Int32)), (.int (3 : Int32))])) _
    refine XS.icmpNo X4.here hx rfl (hb hby at_20) rfl (teq (by decide : (3 : Int32) = (3 : Int32))).2 ?_
    exact k
  refine own_go (B := T4.setTop (mkF m 28 #[.val (.ref b1), .val (.ref b2), .val (.int (3 : Int32)), .val (.long (50000000 : Int64)), .second, .unset, .unset, .unset, .unset] [(.int (lcmpW (50000000 : Int64) (50000000 : Int64)))])) (fun t k => ?_) ?_
  · show Steps p.tables e below (T4.setTop (mkF m 23 #[.val (.ref b1), .val (.ref b2), .val (.int (3 : Int32)), .val (.long (50000000 : Int64)), .second, .unset, .unset, .unset, .unset] [])) _
    refine XS.lloadN X4.here hx rfl (hb hby at_23) rfl ?_
    show Steps p.tables e below (T4.setTop (mkF m 24 #[.val (.ref b1), .val (.ref b2), .val (.int (3 : Int32)), .val (.long (50000000 : Int64)), .second, .unset, .unset, .unset, .unset] [(.long (50000000 : Int64))])) _
    refine X4.ldc2Long hx hown (mvT hZ (hw _ (List.mem_of_getElem? (i := 34) rfl))) (g := (mkF m 24 #[.val (.ref b1), .val (.ref b2), .val (.int (3 : Int32)), .val (.long (50000000 : Int64)), .second, .unset, .unset, .unset, .unset] [(.long (50000000 : Int64))])) rfl (hb hby at_24) _ ?_
    show Steps p.tables e below (T4.setTop (mkF m 27 #[.val (.ref b1), .val (.ref b2), .val (.int (3 : Int32)), .val (.long (50000000 : Int64)), .second, .unset, .unset, .unset, .unset] [(.long (50000000 : Int64)), (.long (50000000 : Int64))])) _
    refine XS.lcmp X4.here hx rfl (hb hby at_27) rfl ?_
    exact k
  refine own_go (B := T4.setTop (mkF m 31 #[.val (.ref b1), .val (.ref b2), .val (.int (3 : Int32)), .val (.long (50000000 : Int64)), .second, .unset, .unset, .unset, .unset] [])) (fun t k => ?_) ?_
  · show Steps p.tables e below (T4.setTop (mkF m 28 #[.val (.ref b1), .val (.ref b2), .val (.int (3 : Int32)), .val (.long (50000000 : Int64)), .second, .unset, .unset, .unset, .unset] [(.int (lcmpW (50000000 : Int64) (50000000 : Int64)))])) _
    refine XS.ifNo X4.here hx rfl (hb hby at_28) rfl ((if0 _ _).trans (teq (by decide +kernel : (lcmpW (50000000 : Int64) (50000000 : Int64)) = (0 : Int32))).2) ?_
    exact k
  refine own_go (B := T4.setTop (mkF m 40 #[.val (.ref b1), .val (.ref b2), .val (.int (3 : Int32)), .val (.long (50000000 : Int64)), .second, .val (.int (1 : Int32)), .unset, .unset, .unset] [(.int (3 : Int32)), (.int (3 : Int32))])) (fun t k => ?_) ?_
  · show Steps p.tables e below (T4.setTop (mkF m 31 #[.val (.ref b1), .val (.ref b2), .val (.int (3 : Int32)), .val (.long (50000000 : Int64)), .second, .unset, .unset, .unset, .unset] [])) _
    refine XS.iconst X4.here hx rfl (hb hby at_31) ?_
    show Steps p.tables e below (T4.setTop (mkF m 32 #[.val (.ref b1), .val (.ref b2), .val (.int (3 : Int32)), .val (.long (50000000 : Int64)), .second, .unset, .unset, .unset, .unset] [(.int (1 : Int32))])) _
    refine XS.goto X4.here hx rfl (pc0 := 32) (pc' := 36) rfl (hb hby at_32) (by decide) (by decide) ?_
    show Steps p.tables e below (T4.setTop (mkF m 36 #[.val (.ref b1), .val (.ref b2), .val (.int (3 : Int32)), .val (.long (50000000 : Int64)), .second, .unset, .unset, .unset, .unset] [(.int (1 : Int32))])) _
    refine XS.istore X4.here hx rfl (hb hby at_36) rfl (l' := #[.val (.ref b1), .val (.ref b2), .val (.int (3 : Int32)), .val (.long (50000000 : Int64)), .second, .val (.int (1 : Int32)), .unset, .unset, .unset]) rfl ?_
    show Steps p.tables e below (T4.setTop (mkF m 38 #[.val (.ref b1), .val (.ref b2), .val (.int (3 : Int32)), .val (.long (50000000 : Int64)), .second, .val (.int (1 : Int32)), .unset, .unset, .unset] [])) _
    refine XS.iloadN X4.here hx rfl (hb hby at_38) rfl ?_
    show Steps p.tables e below (T4.setTop (mkF m 39 #[.val (.ref b1), .val (.ref b2), .val (.int (3 : Int32)), .val (.long (50000000 : Int64)), .second, .val (.int (1 : Int32)), .unset, .unset, .unset] [(.int (3 : Int32))])) _
    refine XS.iconst X4.here hx rfl (hb hby at_39) ?_
    exact k
  refine own_go (B := T4.setTop (mkF m 43 #[.val (.ref b1), .val (.ref b2), .val (.int (3 : Int32)), .val (.long (50000000 : Int64)), .second, .val (.int (1 : Int32)), .unset, .unset, .unset] [])) (fun t k => ?_) ?_
  · show Steps p.tables e below (T4.setTop (mkF m 40 #[.val (.ref b1), .val (.ref b2), .val (.int (3 : Int32)), .val (.long (50000000 : Int64)), .second, .val (.int (1 : Int32)), .unset, .unset, .unset] [(.int (3 : Int32)), (.int (3 : Int32))])) _
    refine XS.icmpNo X4.here hx rfl (hb hby at_40) rfl (teq (by decide : (3 : Int32) = (3 : Int32))).2 ?_
    exact k
  refine own_go (B := T4.setTop (mkF m 48 #[.val (.ref b1), .val (.ref b2), .val (.int (3 : Int32)), .val (.long (50000000 : Int64)), .second, .val (.int (1 : Int32)), .unset, .unset, .unset] [(.int (lcmpW (50000000 : Int64) (50000000 : Int64)))])) (fun t k => ?_) ?_
  · show Steps p.tables e below (T4.setTop (mkF m 43 #[.val (.ref b1), .val (.ref b2), .val (.int (3 : Int32)), .val (.long (50000000 : Int64)), .second, .val (.int (1 : Int32)), .unset, .unset, .unset] [])) _
    refine XS.lloadN X4.here hx rfl (hb hby at_43) rfl ?_
    show Steps p.tables e below (T4.setTop (mkF m 44 #[.val (.ref b1), .val (.ref b2), .val (.int (3 : Int32)), .val (.long (50000000 : Int64)), .second, .val (.int (1 : Int32)), .unset, .unset, .unset] [(.long (50000000 : Int64))])) _
    refine X4.ldc2Long hx hown (mvT hZ (hw _ (List.mem_of_getElem? (i := 34) rfl))) (g := (mkF m 44 #[.val (.ref b1), .val (.ref b2), .val (.int (3 : Int32)), .val (.long (50000000 : Int64)), .second, .val (.int (1 : Int32)), .unset, .unset, .unset] [(.long (50000000 : Int64))])) rfl (hb hby at_44) _ ?_
    show Steps p.tables e below (T4.setTop (mkF m 47 #[.val (.ref b1), .val (.ref b2), .val (.int (3 : Int32)), .val (.long (50000000 : Int64)), .second, .val (.int (1 : Int32)), .unset, .unset, .unset] [(.long (50000000 : Int64)), (.long (50000000 : Int64))])) _
    refine XS.lcmp X4.here hx rfl (hb hby at_47) rfl ?_
    exact k
  refine own_go (B := T4.setTop (mkF m 51 #[.val (.ref b1), .val (.ref b2), .val (.int (3 : Int32)), .val (.long (50000000 : Int64)), .second, .val (.int (1 : Int32)), .unset, .unset, .unset] [])) (fun t k => ?_) ?_
  · show Steps p.tables e below (T4.setTop (mkF m 48 #[.val (.ref b1), .val (.ref b2), .val (.int (3 : Int32)), .val (.long (50000000 : Int64)), .second, .val (.int (1 : Int32)), .unset, .unset, .unset] [(.int (lcmpW (50000000 : Int64) (50000000 : Int64)))])) _
    refine XS.ifNo X4.here hx rfl (hb hby at_48) rfl ((if0 _ _).trans (teq (by decide +kernel : (lcmpW (50000000 : Int64) (50000000 : Int64)) = (0 : Int32))).2) ?_
    exact k
  refine own_go (B := T4.setTop (mkF m 60 #[.val (.ref b1), .val (.ref b2), .val (.int (3 : Int32)), .val (.long (50000000 : Int64)), .second, .val (.int (1 : Int32)), .val (.int (1 : Int32)), .unset, .unset] [(.int (1 : Int32)), (.int (3 : Int32))])) (fun t k => ?_) ?_
  · show Steps p.tables e below (T4.setTop (mkF m 51 #[.val (.ref b1), .val (.ref b2), .val (.int (3 : Int32)), .val (.long (50000000 : Int64)), .second, .val (.int (1 : Int32)), .unset, .unset, .unset] [])) _
    refine XS.iconst X4.here hx rfl (hb hby at_51) ?_
    show Steps p.tables e below (T4.setTop (mkF m 52 #[.val (.ref b1), .val (.ref b2), .val (.int (3 : Int32)), .val (.long (50000000 : Int64)), .second, .val (.int (1 : Int32)), .unset, .unset, .unset] [(.int (1 : Int32))])) _
    refine XS.goto X4.here hx rfl (pc0 := 52) (pc' := 56) rfl (hb hby at_52) (by decide) (by decide) ?_
    show Steps p.tables e below (T4.setTop (mkF m 56 #[.val (.ref b1), .val (.ref b2), .val (.int (3 : Int32)), .val (.long (50000000 : Int64)), .second, .val (.int (1 : Int32)), .unset, .unset, .unset] [(.int (1 : Int32))])) _
    refine XS.istore X4.here hx rfl (hb hby at_56) rfl (l' := #[.val (.ref b1), .val (.ref b2), .val (.int (3 : Int32)), .val (.long (50000000 : Int64)), .second, .val (.int (1 : Int32)), .val (.int (1 : Int32)), .unset, .unset]) rfl ?_
    show Steps p.tables e below (T4.setTop (mkF m 58 #[.val (.ref b1), .val (.ref b2), .val (.int (3 : Int32)), .val (.long (50000000 : Int64)), .second, .val (.int (1 : Int32)), .val (.int (1 : Int32)), .unset, .unset] [])) _
    refine XS.iloadN X4.here hx rfl (hb hby at_58) rfl ?_
    show Steps p.tables e below (T4.setTop (mkF m 59 #[.val (.ref b1), .val (.ref b2), .val (.int (3 : Int32)), .val (.long (50000000 : Int64)), .second, .val (.int (1 : Int32)), .val (.int (1 : Int32)), .unset, .unset] [(.int (3 : Int32))])) _
    refine XS.iconst X4.here hx rfl (hb hby at_59) ?_
    exact k
  refine own_go (B := T4.setTop (mkF m 63 #[.val (.ref b1), .val (.ref b2), .val (.int (3 : Int32)), .val (.long (50000000 : Int64)), .second, .val (.int (1 : Int32)), .val (.int (1 : Int32)), .unset, .unset] [])) (fun t k => ?_) ?_
  · show Steps p.tables e below (T4.setTop (mkF m 60 #[.val (.ref b1), .val (.ref b2), .val (.int (3 : Int32)), .val (.long (50000000 : Int64)), .second, .val (.int (1 : Int32)), .val (.int (1 : Int32)), .unset, .unset] [(.int (1 : Int32)), (.int (3 : Int32))])) _
    refine XS.icmpNo X4.here hx rfl (hb hby at_60) rfl (flt (by decide : ¬ ((3 : Int32) < (1 : Int32)))).1 ?_
    exact k
  refine own_go (B := T4.setTop (mkF m 66 #[.val (.ref b1), .val (.ref b2), .val (.int (3 : Int32)), .val (.long (50000000 : Int64)), .second, .val (.int (1 : Int32)), .val (.int (1 : Int32)), .unset, .unset] [(.int (64 : Int32)), (.int (3 : Int32))])) (fun t k => ?_) ?_
  · show Steps p.tables e below (T4.setTop (mkF m 63 #[.val (.ref b1), .val (.ref b2), .val (.int (3 : Int32)), .val (.long (50000000 : Int64)), .second, .val (.int (1 : Int32)), .val (.int (1 : Int32)), .unset, .unset] [])) _
    refine XS.iloadN X4.here hx rfl (hb hby at_63) rfl ?_
    show Steps p.tables e below (T4.setTop (mkF m 64 #[.val (.ref b1), .val (.ref b2), .val (.int (3 : Int32)), .val (.long (50000000 : Int64)), .second, .val (.int (1 : Int32)), .val (.int (1 : Int32)), .unset, .unset] [(.int (3 : Int32))])) _
    refine XS.bipush X4.here hx rfl (hb hby at_64) ?_
    exact k
  refine own_go (B := T4.setTop (mkF m 69 #[.val (.ref b1), .val (.ref b2), .val (.int (3 : Int32)), .val (.long (50000000 : Int64)), .second, .val (.int (1 : Int32)), .val (.int (1 : Int32)), .unset, .unset] [])) (fun t k => ?_) ?_
  · show Steps p.tables e below (T4.setTop (mkF m 66 #[.val (.ref b1), .val (.ref b2), .val (.int (3 : Int32)), .val (.long (50000000 : Int64)), .second, .val (.int (1 : Int32)), .val (.int (1 : Int32)), .unset, .unset] [(.int (64 : Int32)), (.int (3 : Int32))])) _
    refine XS.icmpNo X4.here hx rfl (hb hby at_66) rfl (flt (by decide : ¬ ((64 : Int32) < (3 : Int32)))).2.2.1 ?_
    exact k
  refine own_go (B := T4.setTop (mkF m 74 #[.val (.ref b1), .val (.ref b2), .val (.int (3 : Int32)), .val (.long (50000000 : Int64)), .second, .val (.int (1 : Int32)), .val (.int (1 : Int32)), .unset, .unset] [(.int (lcmpW (50000000 : Int64) (1024 : Int64)))])) (fun t k => ?_) ?_
  · show Steps p.tables e below (T4.setTop (mkF m 69 #[.val (.ref b1), .val (.ref b2), .val (.int (3 : Int32)), .val (.long (50000000 : Int64)), .second, .val (.int (1 : Int32)), .val (.int (1 : Int32)), .unset, .unset] [])) _
    refine XS.lloadN X4.here hx rfl (hb hby at_69) rfl ?_
    show Steps p.tables e below (T4.setTop (mkF m 70 #[.val (.ref b1), .val (.ref b2), .val (.int (3 : Int32)), .val (.long (50000000 : Int64)), .second, .val (.int (1 : Int32)), .val (.int (1 : Int32)), .unset, .unset] [(.long (50000000 : Int64))])) _
    refine X4.ldc2Long hx hown (mvT hZ (hw _ (List.mem_of_getElem? (i := 35) rfl))) (g := (mkF m 70 #[.val (.ref b1), .val (.ref b2), .val (.int (3 : Int32)), .val (.long (50000000 : Int64)), .second, .val (.int (1 : Int32)), .val (.int (1 : Int32)), .unset, .unset] [(.long (50000000 : Int64))])) rfl (hb hby at_70) _ ?_
    show Steps p.tables e below (T4.setTop (mkF m 73 #[.val (.ref b1), .val (.ref b2), .val (.int (3 : Int32)), .val (.long (50000000 : Int64)), .second, .val (.int (1 : Int32)), .val (.int (1 : Int32)), .unset, .unset] [(.long (1024 : Int64)), (.long (50000000 : Int64))])) _
    refine XS.lcmp X4.here hx rfl (hb hby at_73) rfl ?_
    exact k
  refine own_go (B := T4.setTop (mkF m 77 #[.val (.ref b1), .val (.ref b2), .val (.int (3 : Int32)), .val (.long (50000000 : Int64)), .second, .val (.int (1 : Int32)), .val (.int (1 : Int32)), .unset, .unset] [])) (fun t k => ?_) ?_
  · show Steps p.tables e below (T4.setTop (mkF m 74 #[.val (.ref b1), .val (.ref b2), .val (.int (3 : Int32)), .val (.long (50000000 : Int64)), .second, .val (.int (1 : Int32)), .val (.int (1 : Int32)), .unset, .unset] [(.int (lcmpW (50000000 : Int64) (1024 : Int64)))])) _
    refine XS.ifNo X4.here hx rfl (hb hby at_74) rfl ((if0 _ _).trans (flt (by decide +kernel : ¬ ((lcmpW (50000000 : Int64) (1024 : Int64)) < (0 : Int32)))).1) ?_
    exact k
  refine own_go (B := T4.setTop (mkF m 82 #[.val (.ref b1), .val (.ref b2), .val (.int (3 : Int32)), .val (.long (50000000 : Int64)), .second, .val (.int (1 : Int32)), .val (.int (1 : Int32)), .unset, .unset] [(.int (lcmpW (50000000 : Int64) (1073741824 : Int64)))])) (fun t k => ?_) ?_
  · show Steps p.tables e below (T4.setTop (mkF m 77 #[.val (.ref b1), .val (.ref b2), .val (.int (3 : Int32)), .val (.long (50000000 : Int64)), .second, .val (.int (1 : Int32)), .val (.int (1 : Int32)), .unset, .unset] [])) _
    refine XS.lloadN X4.here hx rfl (hb hby at_77) rfl ?_
    show Steps p.tables e below (T4.setTop (mkF m 78 #[.val (.ref b1), .val (.ref b2), .val (.int (3 : Int32)), .val (.long (50000000 : Int64)), .second, .val (.int (1 : Int32)), .val (.int (1 : Int32)), .unset, .unset] [(.long (50000000 : Int64))])) _
    refine X4.ldc2Long hx hown (mvT hZ (hw _ (List.mem_of_getElem? (i := 36) rfl))) (g := (mkF m 78 #[.val (.ref b1), .val (.ref b2), .val (.int (3 : Int32)), .val (.long (50000000 : Int64)), .second, .val (.int (1 : Int32)), .val (.int (1 : Int32)), .unset, .unset] [(.long (50000000 : Int64))])) rfl (hb hby at_78) _ ?_
    show Steps p.tables e below (T4.setTop (mkF m 81 #[.val (.ref b1), .val (.ref b2), .val (.int (3 : Int32)), .val (.long (50000000 : Int64)), .second, .val (.int (1 : Int32)), .val (.int (1 : Int32)), .unset, .unset] [(.long (1073741824 : Int64)), (.long (50000000 : Int64))])) _
    refine XS.lcmp X4.here hx rfl (hb hby at_81) rfl ?_
    exact k
  refine own_go (B := T4.setTop (mkF m 85 #[.val (.ref b1), .val (.ref b2), .val (.int (3 : Int32)), .val (.long (50000000 : Int64)), .second, .val (.int (1 : Int32)), .val (.int (1 : Int32)), .unset, .unset] [])) (fun t k => ?_) ?_
  · show Steps p.tables e below (T4.setTop (mkF m 82 #[.val (.ref b1), .val (.ref b2), .val (.int (3 : Int32)), .val (.long (50000000 : Int64)), .second, .val (.int (1 : Int32)), .val (.int (1 : Int32)), .unset, .unset] [(.int (lcmpW (50000000 : Int64) (1073741824 : Int64)))])) _
    refine XS.ifNo X4.here hx rfl (hb hby at_82) rfl ((if0 _ _).trans (flt (by decide +kernel : ¬ ((0 : Int32) < (lcmpW (50000000 : Int64) (1073741824 : Int64))))).2.2.1) ?_
    exact k
  refine own_go (B := T4.setTop (mkF m 93 #[.val (.ref b1), .val (.ref b2), .val (.int (3 : Int32)), .val (.long (50000000 : Int64)), .second, .val (.int (1 : Int32)), .val (.int (1 : Int32)), .val (.int (1 : Int32)), .unset] [(.ref b2)])) (fun t k => ?_) ?_
  · show Steps p.tables e below (T4.setTop (mkF m 85 #[.val (.ref b1), .val (.ref b2), .val (.int (3 : Int32)), .val (.long (50000000 : Int64)), .second, .val (.int (1 : Int32)), .val (.int (1 : Int32)), .unset, .unset] [])) _
    refine XS.iconst X4.here hx rfl (hb hby at_85) ?_
    show Steps p.tables e below (T4.setTop (mkF m 86 #[.val (.ref b1), .val (.ref b2), .val (.int (3 : Int32)), .val (.long (50000000 : Int64)), .second, .val (.int (1 : Int32)), .val (.int (1 : Int32)), .unset, .unset] [(.int (1 : Int32))])) _
    refine XS.goto X4.here hx rfl (pc0 := 86) (pc' := 90) rfl (hb hby at_86) (by decide) (by decide) ?_
    show Steps p.tables e below (T4.setTop (mkF m 90 #[.val (.ref b1), .val (.ref b2), .val (.int (3 : Int32)), .val (.long (50000000 : Int64)), .second, .val (.int (1 : Int32)), .val (.int (1 : Int32)), .unset, .unset] [(.int (1 : Int32))])) _
    refine XS.istore X4.here hx rfl (hb hby at_90) rfl (l' := #[.val (.ref b1), .val (.ref b2), .val (.int (3 : Int32)), .val (.long (50000000 : Int64)), .second, .val (.int (1 : Int32)), .val (.int (1 : Int32)), .val (.int (1 : Int32)), .unset]) rfl ?_
    show Steps p.tables e below (T4.setTop (mkF m 92 #[.val (.ref b1), .val (.ref b2), .val (.int (3 : Int32)), .val (.long (50000000 : Int64)), .second, .val (.int (1 : Int32)), .val (.int (1 : Int32)), .val (.int (1 : Int32)), .unset] [])) _
    refine XS.aloadN X4.here hx rfl (hb hby at_92) rfl rfl ?_
    exact k
  obtain ⟨cq5, kq5, q5a, q5b, q5c⟩ := isOf hZ e4 E2
  obtain ⟨_, _, ⟨T5, L5, k5, n5⟩, -, X5, ⟨Lc5, hQ5, l5, y5, z5⟩, st5⟩ := X4.virtualBack hx (y := (⟨"com/example/pactum/pactum/core/Settings", "replicas", "()I"⟩ : MethodName)) (z := (⟨"com/example/pactum/pactum/core/Settings", "replicas", "()I"⟩ : MethodName)) hown (mvT hZ (hw _ (List.mem_of_getElem? (i := 24) rfl))) (mvT hZ (hw _ (List.mem_of_getElem? (i := 25) rfl))) (notFace_of_selects (args := #[]) (mvT hZ (hw _ (List.mem_of_getElem? (i := 27) rfl)))) (mvT hZ (hw _ (List.mem_of_getElem? (i := 27) rfl))) (mvT hZ (hw _ (List.mem_of_getElem? (i := 26) rfl))) (by decide) (backOf (W := 0) (rm5 l Z av0 hw [] b2 (3 : Int32) T2.heap n0 Z0_2 f2_0) hZ (hw _ (List.mem_of_getElem? (i := 28) rfl)) (hw _ (List.mem_of_getElem? (i := 2) rfl)) (by decide) (by decide)) q5a q5c (g := (mkF m 93 #[.val (.ref b1), .val (.ref b2), .val (.int (3 : Int32)), .val (.long (50000000 : Int64)), .second, .val (.int (1 : Int32)), .val (.int (1 : Int32)), .val (.int (1 : Int32)), .unset] [(.ref b2)])) rfl (by rw [hml]; rfl) (Steps.refl _) (argsL := []) (rest := []) (lenOf pd_3 rfl) rfl (by show 2 * 0 + _ ≤ _; exact Nat.le_of_eq rfl) (hb hby at_93) (fun _ _ => ⟨rfl, e4, (by decide : 2 + 0 ≤ _), (by decide : 4 + 0 ≤ _)⟩)
  dsimp only [Pt.U, Pt.locs, Pt.cells, Pt.slots] at X5 l5 y5 z5 st5 hQ5
  subst l5 y5 z5
  obtain ⟨rfl, N5q, e5⟩ := hQ5
  have N5 := Fr.app N4 N5q
  refine own_go (B := T5.setTop (mkF m 96 #[.val (.ref b1), .val (.ref b2), .val (.int (3 : Int32)), .val (.long (50000000 : Int64)), .second, .val (.int (1 : Int32)), .val (.int (1 : Int32)), .val (.int (1 : Int32)), .unset] [(.int (3 : Int32))])) (fun t k => st5.trans k) ?_
  refine own_go (B := T5.setTop (mkF m 97 #[.val (.ref b1), .val (.ref b2), .val (.int (3 : Int32)), .val (.long (50000000 : Int64)), .second, .val (.int (1 : Int32)), .val (.int (1 : Int32)), .val (.int (1 : Int32)), .unset] [(.int (3 : Int32)), (.int (3 : Int32))])) (fun t k => ?_) ?_
  · show Steps p.tables e below (T5.setTop (mkF m 96 #[.val (.ref b1), .val (.ref b2), .val (.int (3 : Int32)), .val (.long (50000000 : Int64)), .second, .val (.int (1 : Int32)), .val (.int (1 : Int32)), .val (.int (1 : Int32)), .unset] [(.int (3 : Int32))])) _
    refine XS.iloadN X5.here hx rfl (hb hby at_96) rfl ?_
    exact k
  refine own_go (B := T5.setTop (mkF m 100 #[.val (.ref b1), .val (.ref b2), .val (.int (3 : Int32)), .val (.long (50000000 : Int64)), .second, .val (.int (1 : Int32)), .val (.int (1 : Int32)), .val (.int (1 : Int32)), .unset] [])) (fun t k => ?_) ?_
  · show Steps p.tables e below (T5.setTop (mkF m 97 #[.val (.ref b1), .val (.ref b2), .val (.int (3 : Int32)), .val (.long (50000000 : Int64)), .second, .val (.int (1 : Int32)), .val (.int (1 : Int32)), .val (.int (1 : Int32)), .unset] [(.int (3 : Int32)), (.int (3 : Int32))])) _
    refine XS.icmpNo X5.here hx rfl (hb hby at_97) rfl (teq (by decide : (3 : Int32) = (3 : Int32))).2 ?_
    exact k
  refine own_go (B := T5.setTop (mkF m 101 #[.val (.ref b1), .val (.ref b2), .val (.int (3 : Int32)), .val (.long (50000000 : Int64)), .second, .val (.int (1 : Int32)), .val (.int (1 : Int32)), .val (.int (1 : Int32)), .unset] [(.ref b2)])) (fun t k => ?_) ?_
  · show Steps p.tables e below (T5.setTop (mkF m 100 #[.val (.ref b1), .val (.ref b2), .val (.int (3 : Int32)), .val (.long (50000000 : Int64)), .second, .val (.int (1 : Int32)), .val (.int (1 : Int32)), .val (.int (1 : Int32)), .unset] [])) _
    refine XS.aloadN X5.here hx rfl (hb hby at_100) rfl rfl ?_
    exact k
  obtain ⟨cq6, kq6, q6a, q6b, q6c⟩ := isOf hZ e5 E2
  obtain ⟨_, _, ⟨T6, L6, k6, n6⟩, -, X6, ⟨Lc6, hQ6, l6, y6, z6⟩, st6⟩ := X5.virtualBack hx (y := (⟨"com/example/pactum/pactum/core/Settings", "chunkSize", "()J"⟩ : MethodName)) (z := (⟨"com/example/pactum/pactum/core/Settings", "chunkSize", "()J"⟩ : MethodName)) hown (mvT hZ (hw _ (List.mem_of_getElem? (i := 29) rfl))) (mvT hZ (hw _ (List.mem_of_getElem? (i := 30) rfl))) (notFace_of_selects (args := #[]) (mvT hZ (hw _ (List.mem_of_getElem? (i := 32) rfl)))) (mvT hZ (hw _ (List.mem_of_getElem? (i := 32) rfl))) (mvT hZ (hw _ (List.mem_of_getElem? (i := 31) rfl))) (by decide) (backOf (W := 0) (rm6 l Z av0 hw [] b2 (50000000 : Int64) T2.heap n0 Z0_2 f2_1) hZ (hw _ (List.mem_of_getElem? (i := 33) rfl)) (hw _ (List.mem_of_getElem? (i := 2) rfl)) (by decide) (by decide)) q6a q6c (g := (mkF m 101 #[.val (.ref b1), .val (.ref b2), .val (.int (3 : Int32)), .val (.long (50000000 : Int64)), .second, .val (.int (1 : Int32)), .val (.int (1 : Int32)), .val (.int (1 : Int32)), .unset] [(.ref b2)])) rfl (by rw [hml]; rfl) (Steps.refl _) (argsL := []) (rest := []) (lenOf pd_4 rfl) rfl (by show 2 * 0 + _ ≤ _; exact Nat.le_of_eq rfl) (hb hby at_101) (fun _ _ => ⟨rfl, e5, (by decide : 2 + 0 ≤ _), (by decide : 4 + 0 ≤ _)⟩)
  dsimp only [Pt.U, Pt.locs, Pt.cells, Pt.slots] at X6 l6 y6 z6 st6 hQ6
  subst l6 y6 z6
  obtain ⟨rfl, N6q, e6⟩ := hQ6
  have N6 := Fr.app N5 N6q
  refine own_go (B := T6.setTop (mkF m 104 #[.val (.ref b1), .val (.ref b2), .val (.int (3 : Int32)), .val (.long (50000000 : Int64)), .second, .val (.int (1 : Int32)), .val (.int (1 : Int32)), .val (.int (1 : Int32)), .unset] [(.long (50000000 : Int64))])) (fun t k => st6.trans k) ?_
  refine own_go (B := T6.setTop (mkF m 106 #[.val (.ref b1), .val (.ref b2), .val (.int (3 : Int32)), .val (.long (50000000 : Int64)), .second, .val (.int (1 : Int32)), .val (.int (1 : Int32)), .val (.int (1 : Int32)), .unset] [(.int (lcmpW (50000000 : Int64) (50000000 : Int64)))])) (fun t k => ?_) ?_
  · show Steps p.tables e below (T6.setTop (mkF m 104 #[.val (.ref b1), .val (.ref b2), .val (.int (3 : Int32)), .val (.long (50000000 : Int64)), .second, .val (.int (1 : Int32)), .val (.int (1 : Int32)), .val (.int (1 : Int32)), .unset] [(.long (50000000 : Int64))])) _
    refine XS.lloadN X6.here hx rfl (hb hby at_104) rfl ?_
    show Steps p.tables e below (T6.setTop (mkF m 105 #[.val (.ref b1), .val (.ref b2), .val (.int (3 : Int32)), .val (.long (50000000 : Int64)), .second, .val (.int (1 : Int32)), .val (.int (1 : Int32)), .val (.int (1 : Int32)), .unset] [(.long (50000000 : Int64)), (.long (50000000 : Int64))])) _
    refine XS.lcmp X6.here hx rfl (hb hby at_105) rfl ?_
    exact k
  refine own_go (B := T6.setTop (mkF m 109 #[.val (.ref b1), .val (.ref b2), .val (.int (3 : Int32)), .val (.long (50000000 : Int64)), .second, .val (.int (1 : Int32)), .val (.int (1 : Int32)), .val (.int (1 : Int32)), .unset] [])) (fun t k => ?_) ?_
  · show Steps p.tables e below (T6.setTop (mkF m 106 #[.val (.ref b1), .val (.ref b2), .val (.int (3 : Int32)), .val (.long (50000000 : Int64)), .second, .val (.int (1 : Int32)), .val (.int (1 : Int32)), .val (.int (1 : Int32)), .unset] [(.int (lcmpW (50000000 : Int64) (50000000 : Int64)))])) _
    refine XS.ifNo X6.here hx rfl (hb hby at_106) rfl ((if0 _ _).trans (teq (by decide +kernel : (lcmpW (50000000 : Int64) (50000000 : Int64)) = (0 : Int32))).2) ?_
    exact k
  refine own_go (B := T6.setTop (mkF m 118 #[.val (.ref b1), .val (.ref b2), .val (.int (3 : Int32)), .val (.long (50000000 : Int64)), .second, .val (.int (1 : Int32)), .val (.int (1 : Int32)), .val (.int (1 : Int32)), .val (.int (1 : Int32))] [(.int (1 : Int32))])) (fun t k => ?_) ?_
  · show Steps p.tables e below (T6.setTop (mkF m 109 #[.val (.ref b1), .val (.ref b2), .val (.int (3 : Int32)), .val (.long (50000000 : Int64)), .second, .val (.int (1 : Int32)), .val (.int (1 : Int32)), .val (.int (1 : Int32)), .unset] [])) _
    refine XS.iconst X6.here hx rfl (hb hby at_109) ?_
    show Steps p.tables e below (T6.setTop (mkF m 110 #[.val (.ref b1), .val (.ref b2), .val (.int (3 : Int32)), .val (.long (50000000 : Int64)), .second, .val (.int (1 : Int32)), .val (.int (1 : Int32)), .val (.int (1 : Int32)), .unset] [(.int (1 : Int32))])) _
    refine XS.goto X6.here hx rfl (pc0 := 110) (pc' := 114) rfl (hb hby at_110) (by decide) (by decide) ?_
    show Steps p.tables e below (T6.setTop (mkF m 114 #[.val (.ref b1), .val (.ref b2), .val (.int (3 : Int32)), .val (.long (50000000 : Int64)), .second, .val (.int (1 : Int32)), .val (.int (1 : Int32)), .val (.int (1 : Int32)), .unset] [(.int (1 : Int32))])) _
    refine XS.istore X6.here hx rfl (hb hby at_114) rfl (l' := #[.val (.ref b1), .val (.ref b2), .val (.int (3 : Int32)), .val (.long (50000000 : Int64)), .second, .val (.int (1 : Int32)), .val (.int (1 : Int32)), .val (.int (1 : Int32)), .val (.int (1 : Int32))]) rfl ?_
    show Steps p.tables e below (T6.setTop (mkF m 116 #[.val (.ref b1), .val (.ref b2), .val (.int (3 : Int32)), .val (.long (50000000 : Int64)), .second, .val (.int (1 : Int32)), .val (.int (1 : Int32)), .val (.int (1 : Int32)), .val (.int (1 : Int32))] [])) _
    refine XS.iload X6.here hx rfl (hb hby at_116) rfl ?_
    exact k
  refine own_go (B := T6.setTop (mkF m 121 #[.val (.ref b1), .val (.ref b2), .val (.int (3 : Int32)), .val (.long (50000000 : Int64)), .second, .val (.int (1 : Int32)), .val (.int (1 : Int32)), .val (.int (1 : Int32)), .val (.int (1 : Int32))] [])) (fun t k => ?_) ?_
  · show Steps p.tables e below (T6.setTop (mkF m 118 #[.val (.ref b1), .val (.ref b2), .val (.int (3 : Int32)), .val (.long (50000000 : Int64)), .second, .val (.int (1 : Int32)), .val (.int (1 : Int32)), .val (.int (1 : Int32)), .val (.int (1 : Int32))] [(.int (1 : Int32))])) _
    refine XS.ifNo X6.here hx rfl (hb hby at_118) rfl ((if0 _ _).trans (feq (by decide : ¬ ((1 : Int32) = (0 : Int32)))).1) ?_
    exact k
  refine own_go (B := T6.setTop (mkF m 123 #[.val (.ref b1), .val (.ref b2), .val (.int (3 : Int32)), .val (.long (50000000 : Int64)), .second, .val (.int (1 : Int32)), .val (.int (1 : Int32)), .val (.int (1 : Int32)), .val (.int (1 : Int32))] [(.int (1 : Int32))])) (fun t k => ?_) ?_
  · show Steps p.tables e below (T6.setTop (mkF m 121 #[.val (.ref b1), .val (.ref b2), .val (.int (3 : Int32)), .val (.long (50000000 : Int64)), .second, .val (.int (1 : Int32)), .val (.int (1 : Int32)), .val (.int (1 : Int32)), .val (.int (1 : Int32))] [])) _
    refine XS.iload X6.here hx rfl (hb hby at_121) rfl ?_
    exact k
  refine own_go (B := T6.setTop (mkF m 126 #[.val (.ref b1), .val (.ref b2), .val (.int (3 : Int32)), .val (.long (50000000 : Int64)), .second, .val (.int (1 : Int32)), .val (.int (1 : Int32)), .val (.int (1 : Int32)), .val (.int (1 : Int32))] [])) (fun t k => ?_) ?_
  · show Steps p.tables e below (T6.setTop (mkF m 123 #[.val (.ref b1), .val (.ref b2), .val (.int (3 : Int32)), .val (.long (50000000 : Int64)), .second, .val (.int (1 : Int32)), .val (.int (1 : Int32)), .val (.int (1 : Int32)), .val (.int (1 : Int32))] [(.int (1 : Int32))])) _
    refine XS.ifNo X6.here hx rfl (hb hby at_123) rfl ((if0 _ _).trans (feq (by decide : ¬ ((1 : Int32) = (0 : Int32)))).1) ?_
    exact k
  refine own_go (B := T6.setTop (mkF m 128 #[.val (.ref b1), .val (.ref b2), .val (.int (3 : Int32)), .val (.long (50000000 : Int64)), .second, .val (.int (1 : Int32)), .val (.int (1 : Int32)), .val (.int (1 : Int32)), .val (.int (1 : Int32))] [(.int (1 : Int32))])) (fun t k => ?_) ?_
  · show Steps p.tables e below (T6.setTop (mkF m 126 #[.val (.ref b1), .val (.ref b2), .val (.int (3 : Int32)), .val (.long (50000000 : Int64)), .second, .val (.int (1 : Int32)), .val (.int (1 : Int32)), .val (.int (1 : Int32)), .val (.int (1 : Int32))] [])) _
    refine XS.iload X6.here hx rfl (hb hby at_126) rfl ?_
    exact k
  refine own_go (B := T6.setTop (mkF m 131 #[.val (.ref b1), .val (.ref b2), .val (.int (3 : Int32)), .val (.long (50000000 : Int64)), .second, .val (.int (1 : Int32)), .val (.int (1 : Int32)), .val (.int (1 : Int32)), .val (.int (1 : Int32))] [])) (fun t k => ?_) ?_
  · show Steps p.tables e below (T6.setTop (mkF m 128 #[.val (.ref b1), .val (.ref b2), .val (.int (3 : Int32)), .val (.long (50000000 : Int64)), .second, .val (.int (1 : Int32)), .val (.int (1 : Int32)), .val (.int (1 : Int32)), .val (.int (1 : Int32))] [(.int (1 : Int32))])) _
    refine XS.ifNo X6.here hx rfl (hb hby at_128) rfl ((if0 _ _).trans (feq (by decide : ¬ ((1 : Int32) = (0 : Int32)))).1) ?_
    exact k
  refine own_go (B := T6.setTop (mkF m 133 #[.val (.ref b1), .val (.ref b2), .val (.int (3 : Int32)), .val (.long (50000000 : Int64)), .second, .val (.int (1 : Int32)), .val (.int (1 : Int32)), .val (.int (1 : Int32)), .val (.int (1 : Int32))] [(.int (1 : Int32))])) (fun t k => ?_) ?_
  · show Steps p.tables e below (T6.setTop (mkF m 131 #[.val (.ref b1), .val (.ref b2), .val (.int (3 : Int32)), .val (.long (50000000 : Int64)), .second, .val (.int (1 : Int32)), .val (.int (1 : Int32)), .val (.int (1 : Int32)), .val (.int (1 : Int32))] [])) _
    refine XS.iload X6.here hx rfl (hb hby at_131) rfl ?_
    exact k
  refine own_go (B := T6.setTop (mkF m 136 #[.val (.ref b1), .val (.ref b2), .val (.int (3 : Int32)), .val (.long (50000000 : Int64)), .second, .val (.int (1 : Int32)), .val (.int (1 : Int32)), .val (.int (1 : Int32)), .val (.int (1 : Int32))] [])) (fun t k => ?_) ?_
  · show Steps p.tables e below (T6.setTop (mkF m 133 #[.val (.ref b1), .val (.ref b2), .val (.int (3 : Int32)), .val (.long (50000000 : Int64)), .second, .val (.int (1 : Int32)), .val (.int (1 : Int32)), .val (.int (1 : Int32)), .val (.int (1 : Int32))] [(.int (1 : Int32))])) _
    refine XS.ifNo X6.here hx rfl (hb hby at_133) rfl ((if0 _ _).trans (feq (by decide : ¬ ((1 : Int32) = (0 : Int32)))).1) ?_
    exact k
  refine own_go (B := T6.setTop (mkF m 141 #[.val (.ref b1), .val (.ref b2), .val (.int (3 : Int32)), .val (.long (50000000 : Int64)), .second, .val (.int (1 : Int32)), .val (.int (1 : Int32)), .val (.int (1 : Int32)), .val (.int (1 : Int32))] [(.int (1 : Int32))])) (fun t k => ?_) ?_
  · show Steps p.tables e below (T6.setTop (mkF m 136 #[.val (.ref b1), .val (.ref b2), .val (.int (3 : Int32)), .val (.long (50000000 : Int64)), .second, .val (.int (1 : Int32)), .val (.int (1 : Int32)), .val (.int (1 : Int32)), .val (.int (1 : Int32))] [])) _
    refine XS.iconst X6.here hx rfl (hb hby at_136) ?_
    show Steps p.tables e below (T6.setTop (mkF m 137 #[.val (.ref b1), .val (.ref b2), .val (.int (3 : Int32)), .val (.long (50000000 : Int64)), .second, .val (.int (1 : Int32)), .val (.int (1 : Int32)), .val (.int (1 : Int32)), .val (.int (1 : Int32))] [(.int (1 : Int32))])) _
    refine XS.goto X6.here hx rfl (pc0 := 137) (pc' := 141) rfl (hb hby at_137) (by decide) (by decide) ?_
    exact k
  obtain ⟨fs, hr, hrun, hended, hW, hsame⟩ := X6.leave (v := some (.int (1 : Int32))) (fun h => by rw [Bd.returns] at h; cases h)
  refine ⟨_, _, ?_, hrun, hended, _, _, rfl, ?_, ⟨_, rfl⟩, hW, hsame.mono (by decide) (by decide)⟩
  · show Steps p.tables e below (T6.setTop (mkF m 141 #[.val (.ref b1), .val (.ref b2), .val (.int (3 : Int32)), .val (.long (50000000 : Int64)), .second, .val (.int (1 : Int32)), .val (.int (1 : Int32)), .val (.int (1 : Int32)), .val (.int (1 : Int32))] [(.int (1 : Int32))])) _
    exact retN X6 hx (t := .boolean) Bd.returns (by simp) (hb hby at_141) hr
  · show Q0 Z  h0 n0 _ T6.heap _
    rw [e6]
    exact ⟨rfl, N6, trivial⟩
set_option maxRecDepth 65536 in
set_option maxHeartbeats 40000000 in
theorem comes_1 {Post : Tables → Env → Array Value → State → Outcome → State → Prop} (hpost : ∀ tb e args s v u, (limb_1_1.after args s (.returned v) u = true ∧ limb_1_2.after args s (.returned v) u = true ∧ True) → FrameEnd s (.returned v) u (Jvm.fieldLocs frame_1_writes args s ++ Jvm.arrayLocs frame_1_arrays args s ++ Jvm.staticLocs frame_1_statics s) 16 128 → Post tb e args s (.returned v) u) :
    ArmFor flags0 classFile x code maxLocals ret World_1 tables_1 room_1 Calls_1 rest_1 Pre_1 Post := by
  intro l hfl _ _ p e ha hc hk s m args below hf hA hF happ hP
  obtain ⟨hcalls, hrest, hpre⟩ := hP
  obtain ⟨-, -, -, hnamed, -, -, -, hat⟩ := (Spec.applies_iff hf).mp happ
  obtain ⟨hg, hn⟩ := and_e (Cond.before_iff.mp (show (Jvm.Cond.and given_1 narrow_1).before args s = true from hpre))
  obtain rfl : args = #[] := by
    have hs : args.size = 0 := by simpa [Cond.value, given_1] using hg
    exact Array.eq_empty_of_size_eq_zero hs
  have hw := fun d (hd : d ∈ tables_1) => atoms_spec (ws := Jvm.Cond.code x code maxLocals ret :: tables_1) hat d (List.mem_cons_of_mem _ hd)
  have hfit : Fit s := fun {y c} hc i hi => by
    obtain ⟨ha, rfl⟩ := Array.getElem?_eq_some_iff.mp hc
    have q := List.all_eq_true.mp ((Array.all_eq_true_iff_forall_mem.mp hF) _ (Array.getElem_mem ha)) i (List.mem_range.mpr hi)
    simpa [Array.getElem?_eq_getElem hi] using q
  obtain ⟨n, o, h1, h2, h3, _, L, rfl, ⟨rfl, N, -⟩, hq⟩ := rm0 l s _ hw tables_1  s.heap s.heap.size (Nat.le_refl _) p e ha hc hk s m _ below hf ((Spec.applies_iff_loose hf).mp happ).1 ⟨rfl, State.Warmed39.refl s, rfl⟩ trivial
  refine ⟨n, _, h1, h2, h3, hpost _ _ _ _ _ _ ⟨Cond.after_iff.mpr rfl, Cond.after_iff.mpr (eq_i res_at (Term.int_eval (1)) rfl), trivial⟩ ⟨hq.1, hq.2.1, (hq.2.2.sift fun y hy => Or.inr (N y hy)).mono (by decide) (by decide)⟩⟩
theorem main_1_1 : Claimed_1_1 := comes_1 fun _ _ _ _ _ _ h hF => ⟨h.1, hF⟩
theorem main_1_2 : Claimed_1_2 := comes_1 fun _ _ _ _ _ _ h hF => ⟨h.2.1, hF⟩
end Jvm.Pilot.@@N@@
namespace Jvm.Pilot.@@N@@
open Jvm Jvm.ClassFile Sem Op Lib Jvm.Free Jvm.Stand Jvm.Pilot.@@N@@.Jvm.D
/-! MADE BY PROGRAM (witnessworld.py) out of the Statement's table words and the real class files: 10 classes; the members and pool entries that the words name. The judged class is class 1, her method 1. -/
namespace start1
open Jvm.ClassFile
def u (s : String) : CpInfo := .utf8 (stringToUtf16 s)
/-- a pool by its gaps: so many unusable entries, then the entry; so many at the end -/
def gap : Nat → List CpInfo → List CpInfo
  | 0, r => r
  | n + 1, r => .unusable :: gap n r
def poolList (es : List (Nat × CpInfo)) (last : Nat) : List CpInfo := es.foldr (fun e r => gap e.1 (e.2 :: r)) (gap last [])
def pool (es : List (Nat × CpInfo)) (last : Nat) : Array CpInfo := ⟨poolList es last⟩
def fileOf (pool : Array CpInfo) (this : Nat) (attrs : Array Attribute := #[]) (ms : Array MethodInfo := #[]) (fl : Nat := 33) (sup : Nat := 0) (ifs : Array Nat := #[]) (fds : Array FieldInfo := #[]) : ClassFile where
  minorVersion := 0
  majorVersion := 65
  constantPool := pool
  accessFlags := fl
  thisClass := this
  superClass := sup
  interfaces := ifs
  fields := fds
  methods := ms
  attributes := attrs
def plain (name : String) (sup : Option ClassId) : Class where
  name := name
  kind := .ordinary
  loader := none
  accessFlags := 33
  super := sup
  interfaces := #[]
  cf := none
  fields := #[]
  methods := #[]
  instanceTypes := #[]
  staticTypes := #[]
  resolved := #[]
  callSites := []
  init := .initialized
  statics := none
  mirror := none

def pool0 : Array CpInfo := pool [(5, u "<init>"), (0, u "()V"), (1, .class_ 10), (1, u "java/lang/Object")] 113

def k0c0 : Code := { maxStack := 0, maxLocals := 1, code := object_method_1_code, exceptionTable := #[], attributes := #[] }
def k0m0 : Method := { name := "<init>", desc := "()V", sig := { parameters := [], returnType := none }, accessFlags := 1, code := some k0c0 }
/-- java/lang/Object -/
def k0 : Class := { plain "java/lang/Object" none with
  accessFlags := 33
  interfaces := #[]
  cf := some (fileOf pool0 8 #[] #[{ accessFlags := 1, nameIndex := 5, descriptorIndex := 6, attributes := #[] }] 33 0 #[] #[])
  fields := #[]
  methods := #[k0m0]
  instanceTypes := #[]
  staticTypes := #[]
  resolved := Array.replicate 124 none
  statics := none }

def pool1 : Array CpInfo := pool [(2, .class_ 4), (1, u "java/lang/Object"), (0, u "<init>"), (0, u "()V"), (0, .methodref 8 9), (0, .class_ 10), (0, .nameAndType 11 12), (0, u "com/example/pactum/pactum/core/Settings"), (0, u "defaults"), (0, u "()Lcom/example/pactum/pactum/core/Settings;"), (0, .methodref 8 14), (0, .nameAndType 15 16), (0, u "replicas"), (0, u "()I"), (0, .methodref 8 18), (0, .nameAndType 19 20), (0, u "chunkSize"), (0, u "()J"), (0, .long 50000000), (1, .long 1024), (1, .long 1073741824), (1, .class_ 28), (0, u "com/example/pactum/pactum/core/SettingsDefaultsPinLaw"), (2, u "law"), (0, u "()Z")] 3

def k1m0 : Method := { name := "<init>", desc := "()V", sig := { parameters := [], returnType := none }, accessFlags := 2, code := none }
def k1c1 : Code := { maxStack := 4, maxLocals := 9, code := code, exceptionTable := #[], attributes := #[] }
def k1m1 : Method := { name := "law", desc := "()Z", sig := { parameters := [], returnType := some .boolean }, accessFlags := 9, code := some k1c1 }
/-- com/example/pactum/pactum/core/SettingsDefaultsPinLaw -/
def k1 : Class := { plain "com/example/pactum/pactum/core/SettingsDefaultsPinLaw" (some 0) with
  accessFlags := 49
  interfaces := #[]
  cf := some (fileOf pool1 27 #[] #[{ accessFlags := 2, nameIndex := 5, descriptorIndex := 6, attributes := #[] }, { accessFlags := 9, nameIndex := 31, descriptorIndex := 32, attributes := #[] }] 49 2 #[] #[])
  fields := #[]
  methods := #[k1m0, k1m1]
  instanceTypes := #[]
  staticTypes := #[]
  resolved := Array.replicate 36 none
  statics := none }

def pool2 : Array CpInfo := pool [(1, .methodref 2 3), (0, .class_ 4), (0, .nameAndType 5 6), (0, u "java/lang/Object"), (0, u "<init>"), (0, u "()V"), (0, .class_ 8), (0, u "java/lang/Record")] 13

def k2c0 : Code := { maxStack := 1, maxLocals := 1, code := jdk_30_method_1_code, exceptionTable := #[], attributes := #[] }
def k2m0 : Method := { name := "<init>", desc := "()V", sig := { parameters := [], returnType := none }, accessFlags := 4, code := some k2c0 }
/-- java/lang/Record -/
def k2 : Class := { plain "java/lang/Record" (some 0) with
  accessFlags := 1057
  interfaces := #[]
  cf := some (fileOf pool2 7 #[] #[{ accessFlags := 4, nameIndex := 5, descriptorIndex := 6, attributes := #[] }] 1057 2 #[] #[])
  fields := #[]
  methods := #[k2m0]
  instanceTypes := #[]
  staticTypes := #[]
  resolved := Array.replicate 22 none
  statics := none }

def pool3 : Array CpInfo := pool [(1, .methodref 2 3), (0, .class_ 4), (0, .nameAndType 5 6), (0, u "java/lang/Record"), (0, u "<init>"), (0, u "()V"), (0, .class_ 8), (0, u "com/example/pactum/pactum/core/Settings"), (9, .long 1024), (1, .long 1073741824), (4, .fieldref 7 26), (0, .nameAndType 27 28), (0, u "replicas"), (0, u "I"), (0, .fieldref 7 30), (0, .nameAndType 31 32), (0, u "chunkSize"), (0, u "J"), (0, .long 50000000), (1, .methodref 7 36), (0, .nameAndType 5 37), (0, u "(IJ)V"), (102, u "DEFAULT_REPLICAS"), (2, u "DEFAULT_CHUNK_SIZE"), (0, u "MIN_REPLICAS"), (1, u "MAX_REPLICAS"), (1, u "MIN_CHUNK_SIZE"), (0, u "MAX_CHUNK_SIZE"), (4, u "defaults"), (0, u "()Lcom/example/pactum/pactum/core/Settings;"), (8, u "()I"), (1, u "()J")] 37

def k3c0 : Code := { maxStack := 4, maxLocals := 4, code := prog_67_method_1_code, exceptionTable := #[], attributes := #[] }
def k3m0 : Method := { name := "<init>", desc := "(IJ)V", sig := { parameters := [.int, .long], returnType := none }, accessFlags := 1, code := some k3c0 }
def k3c1 : Code := { maxStack := 5, maxLocals := 0, code := prog_67_method_2_code, exceptionTable := #[], attributes := #[] }
def k3m1 : Method := { name := "defaults", desc := "()Lcom/example/pactum/pactum/core/Settings;", sig := { parameters := [], returnType := some (.object "com/example/pactum/pactum/core/Settings") }, accessFlags := 9, code := some k3c1 }
def k3c2 : Code := { maxStack := 1, maxLocals := 1, code := prog_67_method_8_code, exceptionTable := #[], attributes := #[] }
def k3m2 : Method := { name := "replicas", desc := "()I", sig := { parameters := [], returnType := some .int }, accessFlags := 1, code := some k3c2 }
def k3c3 : Code := { maxStack := 2, maxLocals := 1, code := prog_67_method_9_code, exceptionTable := #[], attributes := #[] }
def k3m3 : Method := { name := "chunkSize", desc := "()J", sig := { parameters := [], returnType := some .long }, accessFlags := 1, code := some k3c3 }
/-- com/example/pactum/pactum/core/Settings -/
def k3 : Class := { plain "com/example/pactum/pactum/core/Settings" (some 2) with
  accessFlags := 49
  interfaces := #[]
  cf := some (fileOf pool3 7 #[] #[{ accessFlags := 1, nameIndex := 5, descriptorIndex := 37, attributes := #[] }, { accessFlags := 9, nameIndex := 154, descriptorIndex := 155, attributes := #[] }, { accessFlags := 1, nameIndex := 27, descriptorIndex := 164, attributes := #[] }, { accessFlags := 1, nameIndex := 31, descriptorIndex := 166, attributes := #[] }] 49 2 #[] #[{ accessFlags := 18, nameIndex := 27, descriptorIndex := 28, attributes := #[] }, { accessFlags := 18, nameIndex := 31, descriptorIndex := 32, attributes := #[] }, { accessFlags := 25, nameIndex := 140, descriptorIndex := 28, attributes := #[] }, { accessFlags := 25, nameIndex := 143, descriptorIndex := 32, attributes := #[] }, { accessFlags := 25, nameIndex := 144, descriptorIndex := 28, attributes := #[] }, { accessFlags := 25, nameIndex := 146, descriptorIndex := 28, attributes := #[] }, { accessFlags := 25, nameIndex := 148, descriptorIndex := 32, attributes := #[] }, { accessFlags := 25, nameIndex := 149, descriptorIndex := 32, attributes := #[] }])
  fields := #[{ name := "replicas", type := .int, accessFlags := 18, slot := 0, constantValue := 0 }, { name := "chunkSize", type := .long, accessFlags := 18, slot := 1, constantValue := 0 }, { name := "DEFAULT_REPLICAS", type := .int, accessFlags := 25, slot := 0, constantValue := 0 }, { name := "DEFAULT_CHUNK_SIZE", type := .long, accessFlags := 25, slot := 1, constantValue := 0 }, { name := "MIN_REPLICAS", type := .int, accessFlags := 25, slot := 2, constantValue := 0 }, { name := "MAX_REPLICAS", type := .int, accessFlags := 25, slot := 3, constantValue := 0 }, { name := "MIN_CHUNK_SIZE", type := .long, accessFlags := 25, slot := 4, constantValue := 0 }, { name := "MAX_CHUNK_SIZE", type := .long, accessFlags := 25, slot := 5, constantValue := 0 }]
  methods := #[k3m0, k3m1, k3m2, k3m3]
  instanceTypes := #[.int, .long]
  staticTypes := #[.int, .long, .int, .int, .long, .long]
  resolved := Array.replicate 204 none
  statics := none }

def pool4 : Array CpInfo := pool [(1, u "java/lang/Cloneable"), (0, .class_ 1), (0, u "java/lang/Object"), (0, .class_ 3)] 3

/-- java/lang/Cloneable -/
def k4 : Class := { plain "java/lang/Cloneable" (some 0) with
  accessFlags := 1537
  interfaces := #[]
  cf := some (fileOf pool4 2 #[] #[] 1537 4 #[] #[])
  fields := #[]
  methods := #[]
  instanceTypes := #[]
  staticTypes := #[]
  resolved := Array.replicate 8 none
  statics := none }

def pool5 : Array CpInfo := pool [(1, u "java/io/Serializable"), (0, .class_ 1), (0, u "java/lang/Object"), (0, .class_ 3)] 3

/-- java/io/Serializable -/
def k5 : Class := { plain "java/io/Serializable" (some 0) with
  accessFlags := 1537
  interfaces := #[]
  cf := some (fileOf pool5 2 #[] #[] 1537 4 #[] #[])
  fields := #[]
  methods := #[]
  instanceTypes := #[]
  staticTypes := #[]
  resolved := Array.replicate 8 none
  statics := none }

/-- the primitive byte -/
def k6 : Class := { plain "byte" none with kind := .primitive 'B', accessFlags := 0x411 }
/-- [B -/
def k7 : Class := { plain "[B" (some 0) with kind := .array 6 .byte, interfaces := #[4, 5], accessFlags := 1041 }

/-- the primitive int -/
def k8 : Class := { plain "int" none with kind := .primitive 'I', accessFlags := 0x411 }
/-- [I -/
def k9 : Class := { plain "[I" (some 0) with kind := .array 8 .int, interfaces := #[4, 5], accessFlags := 1041 }

def heap : Heap := #[]
def classes : Array Class := #[k0, k1, k2, k3, k4, k5, k6, k7, k8, k9]
def interned : List (Array UInt16 × Addr) := []
def slotsUsed : Nat := 0
def theMethod : MethodId := ⟨1, 1⟩
def args0 : Array Value := #[]
def aboutOver (below : List Frame) : State where
  vm := { classes := classes, interned := interned.toArray }
  heap := heap
  slotsUsed := slotsUsed
  threads := #[{ frames := .invoking theMethod args0 :: below }]
def below0 : List Frame := [.native { method := ⟨0, 0⟩, args := #[] }]
def about1 : State := aboutOver below0
def p0 : Program := .bare "" "" ""
def e0 : Env := launch0.env 0 0 0
theorem w_frames : about1.frames = Frame.invoking theMethod args0 :: below0 := rfl
set_option maxRecDepth 65536 in
theorem w_args : argsFit about1.vm theMethod args0 = true := by decide +kernel
set_option maxRecDepth 65536 in
theorem w_heap : heapFits about1 = true := by decide +kernel
set_option maxRecDepth 65536 in
theorem w_runnable : about1.curStatus? = some .runnable := by decide +kernel
set_option maxRecDepth 65536 in
theorem w_alone : about1.alone = true := by decide +kernel
set_option maxRecDepth 65536 in
theorem w_named : about1.methodNamed? x = some theMethod := by decide +kernel
set_option maxRecDepth 65536 in
theorem w_hears : about1.hears theMethod below0 = true := by decide +kernel
set_option maxRecDepth 65536 in
theorem w_ripe : about1.ripe theMethod args0 below0 = true := by decide +kernel
theorem w_running : about1.status = .running := rfl
set_option maxRecDepth 65536 in
theorem w_room : about1.hasRoom e0.platform room_1 = true :=
  launch0.hasRoom_least _ room_1 (by decide +kernel) (by decide +kernel) (by decide +kernel) (by decide +kernel) (by decide +kernel) (by decide +kernel)
theorem allAtoms_all (ts : List Jvm.Cond) (a : Array Jvm.Value) (st : Jvm.State) : (allAtoms ts).before a st = ts.all (fun c => c.before a st) := by
  induction ts with
  | nil => rfl
  | cons c t ih =>
    show (Jvm.Cond.and c (allAtoms t)).before a st = _
    rw [Jvm.Cond.before_and, ih, List.all_cons]
def words1 : List Jvm.Cond := Jvm.Cond.code x code maxLocals ret :: tables_1
/-- a 'code' word, met by the world's own term for the bytes: nothing is compared byte by byte -/
theorem code_word {y : MethodName} {bytes : ByteArray} {mx : Nat} {rt : Option FieldType} {a : Array Value} {s : State} {m : MethodId} {meth : Method} {c : Code} (h1 : s.methodNamed? y = some m) (h2 : s.vm.method? m = some meth) (h3 : meth.code = some c) (h4 : c.code = bytes)
    (h5 : (c.maxLocals == mx && c.exceptionTable.isEmpty && decide (c.maxStack ≤ mostOperands) && decide (meth.sig.returnType = rt) && !meth.locks && decide (parseMethodDescriptor y.desc = some meth.sig)) = true) : (Jvm.Cond.code y bytes mx rt).before a s = true := by
  simp only [Bool.and_eq_true, beq_iff_eq, Bool.not_eq_true', decide_eq_true_eq] at h5
  obtain ⟨⟨⟨⟨⟨g1, g2⟩, g3⟩, g4⟩, g5⟩, g6⟩ := h5
  simp [Cond.before, Cond.holds, Cond.value, h1, h2, h3, h4, g1, g2, g3, g4, g5, g6]
def isCode : Jvm.Cond → Bool
  | .code _ _ _ _ => true
  | _ => false
theorem all_split {L : List Jvm.Cond} {P : Jvm.Cond → Bool} (h1 : L.all (fun c => isCode c || P c) = true) (h2 : ∀ c ∈ L.filter isCode, P c = true) : L.all P = true := by
  refine List.all_eq_true.mpr fun c hc => ?_
  have h := List.all_eq_true.mp h1 c hc
  rcases Bool.eq_false_or_eq_true (isCode c) with hi | hi
  · exact h2 c (List.mem_filter.mpr ⟨hc, hi⟩)
  · simpa [hi] using h
set_option maxRecDepth 65536 in
theorem w_c0 : (Jvm.Cond.code x code maxLocals ret).before args0 about1 = true := code_word (m := ⟨1, 1⟩) (meth := k1m1) (c := k1c1) (by decide +kernel) rfl rfl rfl (by decide +kernel)
set_option maxRecDepth 65536 in
theorem w_c1 : (Jvm.Cond.code ({ cls := "com/example/pactum/pactum/core/Settings", name := "defaults", desc := "()Lcom/example/pactum/pactum/core/Settings;" } : Jvm.MethodName) prog_67_method_2_code (0 : Nat) (Option.some (Jvm.ClassFile.FieldType.object "com/example/pactum/pactum/core/Settings"))).before args0 about1 = true := code_word (m := ⟨3, 1⟩) (meth := k3m1) (c := k3c1) (by decide +kernel) rfl rfl rfl (by decide +kernel)
set_option maxRecDepth 65536 in
theorem w_c2 : (Jvm.Cond.code ({ cls := "com/example/pactum/pactum/core/Settings", name := "<init>", desc := "(IJ)V" } : Jvm.MethodName) prog_67_method_1_code (4 : Nat) (Option.none : Option Jvm.ClassFile.FieldType)).before args0 about1 = true := code_word (m := ⟨3, 0⟩) (meth := k3m0) (c := k3c0) (by decide +kernel) rfl rfl rfl (by decide +kernel)
set_option maxRecDepth 65536 in
theorem w_c3 : (Jvm.Cond.code ({ cls := "java/lang/Record", name := "<init>", desc := "()V" } : Jvm.MethodName) jdk_30_method_1_code (1 : Nat) (Option.none : Option Jvm.ClassFile.FieldType)).before args0 about1 = true := code_word (m := ⟨2, 0⟩) (meth := k2m0) (c := k2c0) (by decide +kernel) rfl rfl rfl (by decide +kernel)
set_option maxRecDepth 65536 in
theorem w_c4 : (Jvm.Cond.code ({ cls := "java/lang/Object", name := "<init>", desc := "()V" } : Jvm.MethodName) object_method_1_code (1 : Nat) (Option.none : Option Jvm.ClassFile.FieldType)).before args0 about1 = true := code_word (m := ⟨0, 0⟩) (meth := k0m0) (c := k0c0) (by decide +kernel) rfl rfl rfl (by decide +kernel)
set_option maxRecDepth 65536 in
theorem w_c5 : (Jvm.Cond.code ({ cls := "com/example/pactum/pactum/core/Settings", name := "replicas", desc := "()I" } : Jvm.MethodName) prog_67_method_8_code (1 : Nat) (Option.some Jvm.ClassFile.FieldType.int)).before args0 about1 = true := code_word (m := ⟨3, 2⟩) (meth := k3m2) (c := k3c2) (by decide +kernel) rfl rfl rfl (by decide +kernel)
set_option maxRecDepth 65536 in
theorem w_c6 : (Jvm.Cond.code ({ cls := "com/example/pactum/pactum/core/Settings", name := "chunkSize", desc := "()J" } : Jvm.MethodName) prog_67_method_9_code (1 : Nat) (Option.some Jvm.ClassFile.FieldType.long)).before args0 about1 = true := code_word (m := ⟨3, 3⟩) (meth := k3m3) (c := k3c3) (by decide +kernel) rfl rfl rfl (by decide +kernel)
def codes1 : List Jvm.Cond := [Jvm.Cond.code x code maxLocals ret, Jvm.Cond.code ({ cls := "com/example/pactum/pactum/core/Settings", name := "defaults", desc := "()Lcom/example/pactum/pactum/core/Settings;" } : Jvm.MethodName) prog_67_method_2_code (0 : Nat) (Option.some (Jvm.ClassFile.FieldType.object "com/example/pactum/pactum/core/Settings")), Jvm.Cond.code ({ cls := "com/example/pactum/pactum/core/Settings", name := "<init>", desc := "(IJ)V" } : Jvm.MethodName) prog_67_method_1_code (4 : Nat) (Option.none : Option Jvm.ClassFile.FieldType), Jvm.Cond.code ({ cls := "java/lang/Record", name := "<init>", desc := "()V" } : Jvm.MethodName) jdk_30_method_1_code (1 : Nat) (Option.none : Option Jvm.ClassFile.FieldType), Jvm.Cond.code ({ cls := "java/lang/Object", name := "<init>", desc := "()V" } : Jvm.MethodName) object_method_1_code (1 : Nat) (Option.none : Option Jvm.ClassFile.FieldType), Jvm.Cond.code ({ cls := "com/example/pactum/pactum/core/Settings", name := "replicas", desc := "()I" } : Jvm.MethodName) prog_67_method_8_code (1 : Nat) (Option.some Jvm.ClassFile.FieldType.int), Jvm.Cond.code ({ cls := "com/example/pactum/pactum/core/Settings", name := "chunkSize", desc := "()J" } : Jvm.MethodName) prog_67_method_9_code (1 : Nat) (Option.some Jvm.ClassFile.FieldType.long)]
set_option maxRecDepth 65536 in
theorem codes_eq : words1.filter isCode = codes1 := rfl
theorem w_codes : ∀ c ∈ words1.filter isCode, c.before args0 about1 = true := by
  rw [codes_eq]
  intro c hc
  simp only [codes1, List.mem_cons, List.not_mem_nil, or_false] at hc
  rcases hc with rfl | rfl | rfl | rfl | rfl | rfl | rfl
  · exact w_c0
  · exact w_c1
  · exact w_c2
  · exact w_c3
  · exact w_c4
  · exact w_c5
  · exact w_c6
set_option maxRecDepth 65536 in
theorem w_t1 : (words1.take 24).all (fun c => isCode c || c.before args0 about1) = true := by decide +kernel
set_option maxRecDepth 65536 in
theorem w_t2 : (words1.drop 24).all (fun c => isCode c || c.before args0 about1) = true := by decide +kernel
theorem w_tables : (allAtoms (Jvm.Cond.code x code maxLocals ret :: tables_1)).before args0 about1 = true := by
  rw [allAtoms_all]
  show words1.all (fun c => c.before args0 about1) = true
  refine all_split ?_ w_codes
  rw [← List.take_append_drop 24 words1, List.all_append, w_t1, w_t2]
  rfl
set_option maxRecDepth 65536 in
theorem w_case : (Jvm.Cond.and given_1 narrow_1).before args0 about1 = true := by decide +kernel
theorem w_applies : (headSpec (Jvm.Cond.code x code maxLocals ret :: tables_1) room_1).applies x e0.platform about1 = true :=
  (Spec.applies_iff w_frames).mpr ⟨w_running, w_runnable, w_alone, w_named, w_hears, w_ripe, w_room, w_tables⟩
theorem atStart : AtStart classFile x code maxLocals ret World_1 tables_1 room_1 Calls_1 rest_1 Pre_1 launch0 p0 e0 about1 theMethod args0 below0 :=
  ⟨lists_1, trivial, launch0.admits_env _ _ _, launch0.least_env, fairChoices_fair.cas, fairChoices_fair.clock, w_frames, w_args, w_heap, w_applies, trivial, trivial, w_case⟩
end start1
theorem witness_1 : WitnessClaimed_1 := ⟨start1.p0, start1.e0, start1.about1, start1.theMethod, start1.args0, start1.below0, start1.atStart⟩
end Jvm.Pilot.@@N@@
