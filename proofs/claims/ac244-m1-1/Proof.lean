import JvmDerived
import JvmDerived.Pilot.@@N@@Statement
import JvmDerived.Pilot.@@N@@Code
set_option linter.unusedVariables false
set_option linter.unusedSimpArgs false
@@BLOCK:NumsL.lean.txt@@
namespace Jvm.RoadKit
open Sem ClassFile Op Lib Jvm.Stand Jvm.Free Jvm.LawKit
section New
variable {p : Program} {l : Launch} {e : Env} {R : Room} {s : State} {m : MethodId} {args : Array Value} {below : List Frame} {meth : Method} {c : Code} {T : State} {locs : List Loc} {cells slots : Nat}
theorem retI (X : Stand p l e R s m args below meth c T locs cells slots) (hx : p.tables.exec = Jvm.exec) {pc : Nat} {Ls : Array Slot} {z : Int32} {rest : List Value} (hret : meth.sig.returnType = some .int) (hd : decode c.code pc = .ok (.ireturn, 1)) {fs : List Frame}
    (hl : ∀ (f : JFrame) (acts : List Action), f.method = m → f.locked = none → f.entered = [] → (doReturn e (T.setTop f) acts (some (.int z))).1 = T.setFrames fs) : Steps p.tables e below (T.setTop (mkF m pc Ls (.int z :: rest))) (T.setFrames fs) := by
  have hm' : T.vm.method? m = some meth := X.method'
  have hn : narrow .int (.int z) = .int z := rfl
  show Steps p.tables e below (T.setTop { method := m, pc := pc, locals := Ls, stack := _ :: rest, locked := none }) _
  jvm_step X.here [X.here.top, hx, hd, hm', hret, hn]
  first | (intro acts; rw [hl _ acts rfl rfl rfl]) | rw [hl _ _ rfl rfl rfl]
  exact Steps.refl _
end New
end Jvm.RoadKit
namespace Jvm.Pilot.@@N@@
open Jvm Jvm.ClassFile Sem Op Lib Jvm.Free Jvm.Stand Jvm.LawKit Jvm.RoadKit Bundle Jvm.Pilot.@@N@@.Jvm.D
theorem own_go {tb : Tables} {e : Env} {below : List Frame} {A B : State} {P : State → Outcome → Prop} (st : ∀ t, Steps tb e below B t → Steps tb e below A t) (h : ∃ s₂ o, Steps tb e below B s₂ ∧ P s₂ o) : ∃ s₂ o, Steps tb e below A s₂ ∧ P s₂ o := by
  obtain ⟨s₂, o, h1, h2⟩ := h
  exact ⟨s₂, o, st _ h1, h2⟩
theorem own_gj {tb : Tables} {e : Env} {below : List Frame} {A B : State} {P : State → Heap → List Loc → Prop} {F : State → State} (st : ∀ t, Steps tb e below B t → Steps tb e below A t) (h : ∃ T' h' L', P T' h' L' ∧ ∀ t, Steps tb e below (F T') t → Steps tb e below B t) : ∃ T' h' L', P T' h' L' ∧ ∀ t, Steps tb e below (F T') t → Steps tb e below A t := by
  obtain ⟨T', h', L', h1, h2⟩ := h
  exact ⟨T', h', L', h1, fun t k => st t (h2 t k)⟩
theorem own_stak {Z : State} {h h' : Heap} {C n d : String} {v : Value} (F : Sta Z h C n d v) (K : Keep h h' []) : Sta Z h' C n d v := by
  obtain ⟨cf, i, k, f, st, cell, h1, h2, h3, h4, h5, r⟩ := F
  exact ⟨cf, i, k, f, st, cell, h1, h2, h3, h4, K.2.1 _ _ h5 nin0, r⟩
def own_EL : List (String × Nat) := [("com/example/cutoff/cutoff/store/Iri", 74)]
def own_maxi (a b : Int32) : Int32 := if a < b then b else a
def own_mini (a b : Int32) : Int32 := if b < a then b else a
theorem own_i (x y : Int32) : (x < y) = (x.toInt < y.toInt) := by rw [Int32.lt_iff_toInt_lt]
theorem own_eqi (x y : Int32) : (x = y) = (x.toInt = y.toInt) := propext Int32.toInt_inj.symm
theorem d9_0 : decode jdk_29_method_65_code 0 = .ok (.iload_n 0, 1) := by decide +kernel
theorem d9_1 : decode jdk_29_method_65_code 1 = .ok (.iload_n 1, 1) := by decide +kernel
theorem d9_2 : decode jdk_29_method_65_code 2 = .ok (.if_icmp .lt 7, 3) := by decide +kernel
theorem d9_5 : decode jdk_29_method_65_code 5 = .ok (.iload_n 0, 1) := by decide +kernel
theorem d9_6 : decode jdk_29_method_65_code 6 = .ok (.goto 4, 3) := by decide +kernel
theorem d9_9 : decode jdk_29_method_65_code 9 = .ok (.iload_n 1, 1) := by decide +kernel
theorem d9_10 : decode jdk_29_method_65_code 10 = .ok (.ireturn, 1) := by decide +kernel
theorem ef_9 (m : MethodId) (p0 : Int32) (p1 : Int32) : entryFrame m #[(.int p0), (.int p1)] 2 = mkF m 0 #[.val (.int p0), .val (.int p1)] [] := by first | (simp [entryFrame, mkF, argsToLocals, Value.category]; done) | rfl
def Q9 (Z : State) (p0 : Int32) (p1 : Int32) (h0 : Heap) (n0 : Nat) (v : Option Value) (h : Heap) (L : List Loc) : Prop := v = some (.int (own_maxi p0 p1)) ∧ Fr n0 L ∧ h = h0
set_option maxRecDepth 65536 in
set_option maxHeartbeats 40000000 in
theorem rm9 (l : Launch) (Z : State) (av0 : Array Value) (hw : ∀ d ∈ tables_1, d.before av0 Z = true) (ws : List Jvm.Cond) (p0 : Int32) (p1 : Int32) (h0 : Heap) (n0 : Nat) (Z0 : n0 ≤ h0.size) :
    MetFree l (⟨"java/lang/Math", "max", "(II)I"⟩ : MethodName) (head1 (Jvm.Cond.code (⟨"java/lang/Math", "max", "(II)I"⟩ : MethodName) jdk_29_method_65_code 2 (some .int) :: ws) ({ frames := 0, cells := 0, slots := 0, locals := 0 } : Room)) (fun a U => a = #[(.int p0), (.int p1)] ∧ Z.Warmed39 U.vm ∧ U.heap = h0) (fun _ _ _ _ _ => True) (fun _ U o U' => ∃ v L, o = .returned v ∧ Q9 Z p0 p1 h0 n0 v U'.heap L ∧ FrameEnd U o U' L ({ frames := 0, cells := 0, slots := 0, locals := 0 } : Room).cells ({ frames := 0, cells := 0, slots := 0, locals := 0 } : Room).slots) := by
  refine MetFree.of_bodySF (Jvm.Free.JP.mathPlain rfl (by decide +kernel)) hisR ?_
  intro p e s m args below meth c s₁ Bd hml0 hP hK
  obtain ⟨rfl, hZ, hh⟩ := hP
  have hx := Bd.exec
  have hby := Bd.bytes
  have hml : c.maxLocals = 2 := hml0
  have hown : s.vm.findClass "java/lang/Math" = some m.cls := findClass_of_methodNamed Bd.named
  have hnm := (name_of_methodNamed Bd.named Bd.method).1
  have X0 : Stand p l e ({ frames := 0, cells := 0, slots := 0, locals := 0 } : Room) s m #[(.int p0), (.int p1)] below meth c s₁ [] 0 0 := Stand.of_body Bd
  have e0 : s₁.heap = h0 := by rw [← hh, Bd.state]; rfl
  have N0 := Fr.nil n0
  have K0 : Keep h0 h0 [] := Keep.refl h0 []
  refine own_go (B := s₁.setTop (mkF m 0 #[.val (.int p0), .val (.int p1)] [])) (fun t k => castTop (ef_9 m p0 p1) k) ?_
  refine own_go (B := s₁.setTop (mkF m 2 #[.val (.int p0), .val (.int p1)] [(.int p1), (.int p0)])) (fun t k => ?_) ?_
  · show Steps p.tables e below (s₁.setTop (mkF m 0 #[.val (.int p0), .val (.int p1)] [])) _
    refine XS.iloadN X0.here hx rfl (hb hby d9_0) rfl ?_
    show Steps p.tables e below (s₁.setTop (mkF m 1 #[.val (.int p0), .val (.int p1)] [(.int p0)])) _
    refine XS.iloadN X0.here hx rfl (hb hby d9_1) rfl ?_
    exact k
  obtain ⟨zv1, hzv1⟩ : ∃ zq : Int32, zq = (if p0 < p1 then p1 else p0) := ⟨_, rfl⟩
  refine own_go (B := s₁.setTop (mkF m 10 #[.val (.int p0), .val (.int p1)] [(.int zv1)])) (fun t k => ?_) ?_
  · show Steps p.tables e below (s₁.setTop (mkF m 2 #[.val (.int p0), .val (.int p1)] [(.int p1), (.int p0)])) _
    by_cases hc2 : p0 < p1
    · refine XS.icmpYes X0.here hx rfl (pc0 := 2) (pc' := 9) rfl (hb hby d9_2) rfl (tlt hc2).1 (by decide) (by decide) ?_
      show Steps p.tables e below (s₁.setTop (mkF m 9 #[.val (.int p0), .val (.int p1)] [])) _
      refine XS.iloadN X0.here hx rfl (hb hby d9_9) rfl ?_
      show Steps p.tables e below (s₁.setTop (mkF m 10 #[.val (.int p0), .val (.int p1)] [(.int p1)])) _
      rw [show zv1 = p1 from by simp only [hzv1, if_pos hc2]] at k
      exact k
    · refine XS.icmpNo X0.here hx rfl (hb hby d9_2) rfl (flt hc2).1 ?_
      show Steps p.tables e below (s₁.setTop (mkF m 5 #[.val (.int p0), .val (.int p1)] [])) _
      refine XS.iloadN X0.here hx rfl (hb hby d9_5) rfl ?_
      show Steps p.tables e below (s₁.setTop (mkF m 6 #[.val (.int p0), .val (.int p1)] [(.int p0)])) _
      refine XS.goto X0.here hx rfl (pc0 := 6) (pc' := 10) rfl (hb hby d9_6) (by decide) (by decide) ?_
      show Steps p.tables e below (s₁.setTop (mkF m 10 #[.val (.int p0), .val (.int p1)] [(.int p0)])) _
      rw [show zv1 = p0 from by simp only [hzv1, if_neg hc2]] at k
      exact k
  obtain ⟨fs, hr, hrun, hended, hW, hsame⟩ := X0.leave (v := some (.int zv1)) (fun h => by rw [Bd.returns] at h; cases h)
  refine ⟨_, _, ?_, hrun, hended, _, _, rfl, ?_, ⟨_, rfl⟩, hW, hsame.mono (by decide) (by decide)⟩
  · show Steps p.tables e below (s₁.setTop (mkF m 10 #[.val (.int p0), .val (.int p1)] [(.int zv1)])) _
    exact retI X0 hx Bd.returns (hb hby d9_10) hr
  · show Q9 Z p0 p1 h0 n0 _ s₁.heap _
    rw [e0]
    exact ⟨by rw [hzv1]; rfl, N0, rfl⟩
theorem d10_0 : decode jdk_29_method_69_code 0 = .ok (.iload_n 0, 1) := by decide +kernel
theorem d10_1 : decode jdk_29_method_69_code 1 = .ok (.iload_n 1, 1) := by decide +kernel
theorem d10_2 : decode jdk_29_method_69_code 2 = .ok (.if_icmp .gt 7, 3) := by decide +kernel
theorem d10_5 : decode jdk_29_method_69_code 5 = .ok (.iload_n 0, 1) := by decide +kernel
theorem d10_6 : decode jdk_29_method_69_code 6 = .ok (.goto 4, 3) := by decide +kernel
theorem d10_9 : decode jdk_29_method_69_code 9 = .ok (.iload_n 1, 1) := by decide +kernel
theorem d10_10 : decode jdk_29_method_69_code 10 = .ok (.ireturn, 1) := by decide +kernel
theorem ef_10 (m : MethodId) (p0 : Int32) (p1 : Int32) : entryFrame m #[(.int p0), (.int p1)] 2 = mkF m 0 #[.val (.int p0), .val (.int p1)] [] := by first | (simp [entryFrame, mkF, argsToLocals, Value.category]; done) | rfl
def Q10 (Z : State) (p0 : Int32) (p1 : Int32) (h0 : Heap) (n0 : Nat) (v : Option Value) (h : Heap) (L : List Loc) : Prop := v = some (.int (own_mini p0 p1)) ∧ Fr n0 L ∧ h = h0
set_option maxRecDepth 65536 in
set_option maxHeartbeats 40000000 in
theorem rm10 (l : Launch) (Z : State) (av0 : Array Value) (hw : ∀ d ∈ tables_1, d.before av0 Z = true) (ws : List Jvm.Cond) (p0 : Int32) (p1 : Int32) (h0 : Heap) (n0 : Nat) (Z0 : n0 ≤ h0.size) :
    MetFree l (⟨"java/lang/Math", "min", "(II)I"⟩ : MethodName) (head1 (Jvm.Cond.code (⟨"java/lang/Math", "min", "(II)I"⟩ : MethodName) jdk_29_method_69_code 2 (some .int) :: ws) ({ frames := 0, cells := 0, slots := 0, locals := 0 } : Room)) (fun a U => a = #[(.int p0), (.int p1)] ∧ Z.Warmed39 U.vm ∧ U.heap = h0) (fun _ _ _ _ _ => True) (fun _ U o U' => ∃ v L, o = .returned v ∧ Q10 Z p0 p1 h0 n0 v U'.heap L ∧ FrameEnd U o U' L ({ frames := 0, cells := 0, slots := 0, locals := 0 } : Room).cells ({ frames := 0, cells := 0, slots := 0, locals := 0 } : Room).slots) := by
  refine MetFree.of_bodySF (Jvm.Free.JP.mathPlain rfl (by decide +kernel)) hisR ?_
  intro p e s m args below meth c s₁ Bd hml0 hP hK
  obtain ⟨rfl, hZ, hh⟩ := hP
  have hx := Bd.exec
  have hby := Bd.bytes
  have hml : c.maxLocals = 2 := hml0
  have hown : s.vm.findClass "java/lang/Math" = some m.cls := findClass_of_methodNamed Bd.named
  have hnm := (name_of_methodNamed Bd.named Bd.method).1
  have X0 : Stand p l e ({ frames := 0, cells := 0, slots := 0, locals := 0 } : Room) s m #[(.int p0), (.int p1)] below meth c s₁ [] 0 0 := Stand.of_body Bd
  have e0 : s₁.heap = h0 := by rw [← hh, Bd.state]; rfl
  have N0 := Fr.nil n0
  have K0 : Keep h0 h0 [] := Keep.refl h0 []
  refine own_go (B := s₁.setTop (mkF m 0 #[.val (.int p0), .val (.int p1)] [])) (fun t k => castTop (ef_10 m p0 p1) k) ?_
  refine own_go (B := s₁.setTop (mkF m 2 #[.val (.int p0), .val (.int p1)] [(.int p1), (.int p0)])) (fun t k => ?_) ?_
  · show Steps p.tables e below (s₁.setTop (mkF m 0 #[.val (.int p0), .val (.int p1)] [])) _
    refine XS.iloadN X0.here hx rfl (hb hby d10_0) rfl ?_
    show Steps p.tables e below (s₁.setTop (mkF m 1 #[.val (.int p0), .val (.int p1)] [(.int p0)])) _
    refine XS.iloadN X0.here hx rfl (hb hby d10_1) rfl ?_
    exact k
  obtain ⟨zv1, hzv1⟩ : ∃ zq : Int32, zq = (if p1 < p0 then p1 else p0) := ⟨_, rfl⟩
  refine own_go (B := s₁.setTop (mkF m 10 #[.val (.int p0), .val (.int p1)] [(.int zv1)])) (fun t k => ?_) ?_
  · show Steps p.tables e below (s₁.setTop (mkF m 2 #[.val (.int p0), .val (.int p1)] [(.int p1), (.int p0)])) _
    by_cases hc2 : p1 < p0
    · refine XS.icmpYes X0.here hx rfl (pc0 := 2) (pc' := 9) rfl (hb hby d10_2) rfl (tlt hc2).2.2.1 (by decide) (by decide) ?_
      show Steps p.tables e below (s₁.setTop (mkF m 9 #[.val (.int p0), .val (.int p1)] [])) _
      refine XS.iloadN X0.here hx rfl (hb hby d10_9) rfl ?_
      show Steps p.tables e below (s₁.setTop (mkF m 10 #[.val (.int p0), .val (.int p1)] [(.int p1)])) _
      rw [show zv1 = p1 from by simp only [hzv1, if_pos hc2]] at k
      exact k
    · refine XS.icmpNo X0.here hx rfl (hb hby d10_2) rfl (flt hc2).2.2.1 ?_
      show Steps p.tables e below (s₁.setTop (mkF m 5 #[.val (.int p0), .val (.int p1)] [])) _
      refine XS.iloadN X0.here hx rfl (hb hby d10_5) rfl ?_
      show Steps p.tables e below (s₁.setTop (mkF m 6 #[.val (.int p0), .val (.int p1)] [(.int p0)])) _
      refine XS.goto X0.here hx rfl (pc0 := 6) (pc' := 10) rfl (hb hby d10_6) (by decide) (by decide) ?_
      show Steps p.tables e below (s₁.setTop (mkF m 10 #[.val (.int p0), .val (.int p1)] [(.int p0)])) _
      rw [show zv1 = p0 from by simp only [hzv1, if_neg hc2]] at k
      exact k
  obtain ⟨fs, hr, hrun, hended, hW, hsame⟩ := X0.leave (v := some (.int zv1)) (fun h => by rw [Bd.returns] at h; cases h)
  refine ⟨_, _, ?_, hrun, hended, _, _, rfl, ?_, ⟨_, rfl⟩, hW, hsame.mono (by decide) (by decide)⟩
  · show Steps p.tables e below (s₁.setTop (mkF m 10 #[.val (.int p0), .val (.int p1)] [(.int zv1)])) _
    exact retI X0 hx Bd.returns (hb hby d10_10) hr
  · show Q10 Z p0 p1 h0 n0 _ s₁.heap _
    rw [e0]
    exact ⟨by rw [hzv1]; rfl, N0, rfl⟩
theorem d8_0 : decode jdk_43_method_4_code 0 = .ok (.iload_n 0, 1) := by decide +kernel
theorem d8_1 : decode jdk_43_method_4_code 1 = .ok (.ifCond .lt 14, 3) := by decide +kernel
theorem d8_4 : decode jdk_43_method_4_code 4 = .ok (.iload_n 0, 1) := by decide +kernel
theorem d8_5 : decode jdk_43_method_4_code 5 = .ok (.sipush 255, 3) := by decide +kernel
theorem d8_8 : decode jdk_43_method_4_code 8 = .ok (.if_icmp .gt 7, 3) := by decide +kernel
theorem d8_11 : decode jdk_43_method_4_code 11 = .ok (.iconst 1, 1) := by decide +kernel
theorem d8_12 : decode jdk_43_method_4_code 12 = .ok (.goto 4, 3) := by decide +kernel
theorem d8_15 : decode jdk_43_method_4_code 15 = .ok (.iconst 0, 1) := by decide +kernel
theorem d8_16 : decode jdk_43_method_4_code 16 = .ok (.ireturn, 1) := by decide +kernel
theorem pn_8 : plainName "java/lang/StringLatin1" = true := by first | (simp [plainName, overriddenIn]; done) | decide +kernel
theorem ef_8 (m : MethodId) (p0 : Int32) : entryFrame m #[(.int p0)] 1 = mkF m 0 #[.val (.int p0)] [] := by first | (simp [entryFrame, mkF, argsToLocals, Value.category]; done) | rfl
def own_enc (p0 : Int32) : Int32 := (if p0 < (0 : Int32) then (0 : Int32) else (if (255 : Int32) < p0 then (0 : Int32) else (1 : Int32)))
def Q8 (Z : State) (p0 : Int32) (h0 : Heap) (n0 : Nat) (v : Option Value) (h : Heap) (L : List Loc) : Prop := v = some (.int (own_enc p0)) ∧ Fr n0 L ∧ h = h0
set_option maxRecDepth 65536 in
set_option maxHeartbeats 40000000 in
theorem rm8 (l : Launch) (Z : State) (av0 : Array Value) (hw : ∀ d ∈ tables_1, d.before av0 Z = true) (ws : List Jvm.Cond) (p0 : Int32) (h0 : Heap) (n0 : Nat) (Z0 : n0 ≤ h0.size) :
    MetFree l (⟨"java/lang/StringLatin1", "canEncode", "(I)Z"⟩ : MethodName) (head1 (Jvm.Cond.code (⟨"java/lang/StringLatin1", "canEncode", "(I)Z"⟩ : MethodName) jdk_43_method_4_code 1 (some .boolean) :: ws) ({ frames := 0, cells := 0, slots := 0, locals := 0 } : Room)) (fun a U => a = #[(.int p0)] ∧ Z.Warmed39 U.vm ∧ U.heap = h0) (fun _ _ _ _ _ => True) (fun _ U o U' => ∃ v L, o = .returned v ∧ Q8 Z p0 h0 n0 v U'.heap L ∧ FrameEnd U o U' L ({ frames := 0, cells := 0, slots := 0, locals := 0 } : Room).cells ({ frames := 0, cells := 0, slots := 0, locals := 0 } : Room).slots) := by
  refine MetFree.of_bodySF (plainFor_of_name pn_8) hisR ?_
  intro p e s m args below meth c s₁ Bd hml0 hP hK
  obtain ⟨rfl, hZ, hh⟩ := hP
  have hx := Bd.exec
  have hby := Bd.bytes
  have hml : c.maxLocals = 1 := hml0
  have hown : s.vm.findClass "java/lang/StringLatin1" = some m.cls := findClass_of_methodNamed Bd.named
  have hnm := (name_of_methodNamed Bd.named Bd.method).1
  have X0 : Stand p l e ({ frames := 0, cells := 0, slots := 0, locals := 0 } : Room) s m #[(.int p0)] below meth c s₁ [] 0 0 := Stand.of_body Bd
  have e0 : s₁.heap = h0 := by rw [← hh, Bd.state]; rfl
  have N0 := Fr.nil n0
  have K0 : Keep h0 h0 [] := Keep.refl h0 []
  refine own_go (B := s₁.setTop (mkF m 0 #[.val (.int p0)] [])) (fun t k => castTop (ef_8 m p0) k) ?_
  refine own_go (B := s₁.setTop (mkF m 1 #[.val (.int p0)] [(.int p0)])) (fun t k => ?_) ?_
  · show Steps p.tables e below (s₁.setTop (mkF m 0 #[.val (.int p0)] [])) _
    refine XS.iloadN X0.here hx rfl (hb hby d8_0) rfl ?_
    exact k
  by_cases hc1 : p0 < (0 : Int32)
  · refine own_go (B := s₁.setTop (mkF m 15 #[.val (.int p0)] [])) (fun t k => ?_) ?_
    · show Steps p.tables e below (s₁.setTop (mkF m 1 #[.val (.int p0)] [(.int p0)])) _
      refine XS.ifYes X0.here hx rfl (pc0 := 1) (pc' := 15) rfl (hb hby d8_1) rfl ((if0 _ _).trans (tlt hc1).1) (by decide) (by decide) ?_
      exact k
    refine own_go (B := s₁.setTop (mkF m 16 #[.val (.int p0)] [(.int (0 : Int32))])) (fun t k => ?_) ?_
    · show Steps p.tables e below (s₁.setTop (mkF m 15 #[.val (.int p0)] [])) _
      refine XS.iconst X0.here hx rfl (hb hby d8_15) ?_
      exact k
    obtain ⟨fs, hr, hrun, hended, hW, hsame⟩ := X0.leave (v := some (.int (0 : Int32))) (fun h => by rw [Bd.returns] at h; cases h)
    refine ⟨_, _, ?_, hrun, hended, _, _, rfl, ?_, ⟨_, rfl⟩, hW, hsame.mono (by decide) (by decide)⟩
    · show Steps p.tables e below (s₁.setTop (mkF m 16 #[.val (.int p0)] [(.int (0 : Int32))])) _
      exact retN X0 hx (t := .boolean) Bd.returns (by simp) (hb hby d8_16) hr
    · show Q8 Z p0 h0 n0 _ s₁.heap _
      rw [e0]
      exact ⟨by simp only [own_enc, if_pos hc1], N0, rfl⟩
  · refine own_go (B := s₁.setTop (mkF m 4 #[.val (.int p0)] [])) (fun t k => ?_) ?_
    · show Steps p.tables e below (s₁.setTop (mkF m 1 #[.val (.int p0)] [(.int p0)])) _
      refine XS.ifNo X0.here hx rfl (hb hby d8_1) rfl ((if0 _ _).trans (flt hc1).1) ?_
      exact k
    refine own_go (B := s₁.setTop (mkF m 8 #[.val (.int p0)] [(.int (255 : Int32)), (.int p0)])) (fun t k => ?_) ?_
    · show Steps p.tables e below (s₁.setTop (mkF m 4 #[.val (.int p0)] [])) _
      refine XS.iloadN X0.here hx rfl (hb hby d8_4) rfl ?_
      show Steps p.tables e below (s₁.setTop (mkF m 5 #[.val (.int p0)] [(.int p0)])) _
      refine XS.sipush X0.here hx rfl (hb hby d8_5) ?_
      exact k
    by_cases hc8 : (255 : Int32) < p0
    · refine own_go (B := s₁.setTop (mkF m 15 #[.val (.int p0)] [])) (fun t k => ?_) ?_
      · show Steps p.tables e below (s₁.setTop (mkF m 8 #[.val (.int p0)] [(.int (255 : Int32)), (.int p0)])) _
        refine XS.icmpYes X0.here hx rfl (pc0 := 8) (pc' := 15) rfl (hb hby d8_8) rfl (tlt hc8).2.2.1 (by decide) (by decide) ?_
        exact k
      refine own_go (B := s₁.setTop (mkF m 16 #[.val (.int p0)] [(.int (0 : Int32))])) (fun t k => ?_) ?_
      · show Steps p.tables e below (s₁.setTop (mkF m 15 #[.val (.int p0)] [])) _
        refine XS.iconst X0.here hx rfl (hb hby d8_15) ?_
        exact k
      obtain ⟨fs, hr, hrun, hended, hW, hsame⟩ := X0.leave (v := some (.int (0 : Int32))) (fun h => by rw [Bd.returns] at h; cases h)
      refine ⟨_, _, ?_, hrun, hended, _, _, rfl, ?_, ⟨_, rfl⟩, hW, hsame.mono (by decide) (by decide)⟩
      · show Steps p.tables e below (s₁.setTop (mkF m 16 #[.val (.int p0)] [(.int (0 : Int32))])) _
        exact retN X0 hx (t := .boolean) Bd.returns (by simp) (hb hby d8_16) hr
      · show Q8 Z p0 h0 n0 _ s₁.heap _
        rw [e0]
        exact ⟨by simp only [own_enc, if_neg hc1, if_pos hc8], N0, rfl⟩
    · refine own_go (B := s₁.setTop (mkF m 11 #[.val (.int p0)] [])) (fun t k => ?_) ?_
      · show Steps p.tables e below (s₁.setTop (mkF m 8 #[.val (.int p0)] [(.int (255 : Int32)), (.int p0)])) _
        refine XS.icmpNo X0.here hx rfl (hb hby d8_8) rfl (flt hc8).2.2.1 ?_
        exact k
      refine own_go (B := s₁.setTop (mkF m 16 #[.val (.int p0)] [(.int (1 : Int32))])) (fun t k => ?_) ?_
      · show Steps p.tables e below (s₁.setTop (mkF m 11 #[.val (.int p0)] [])) _
        refine XS.iconst X0.here hx rfl (hb hby d8_11) ?_
        show Steps p.tables e below (s₁.setTop (mkF m 12 #[.val (.int p0)] [(.int (1 : Int32))])) _
        refine XS.goto X0.here hx rfl (pc0 := 12) (pc' := 16) rfl (hb hby d8_12) (by decide) (by decide) ?_
        exact k
      obtain ⟨fs, hr, hrun, hended, hW, hsame⟩ := X0.leave (v := some (.int (1 : Int32))) (fun h => by rw [Bd.returns] at h; cases h)
      refine ⟨_, _, ?_, hrun, hended, _, _, rfl, ?_, ⟨_, rfl⟩, hW, hsame.mono (by decide) (by decide)⟩
      · show Steps p.tables e below (s₁.setTop (mkF m 16 #[.val (.int p0)] [(.int (1 : Int32))])) _
        exact retN X0 hx (t := .boolean) Bd.returns (by simp) (hb hby d8_16) hr
      · show Q8 Z p0 h0 n0 _ s₁.heap _
        rw [e0]
        exact ⟨by simp only [own_enc, if_neg hc1, if_neg hc8], N0, rfl⟩
theorem d11_0 : decode jdk_43_method_23_code 0 = .ok (.iload_n 1, 1) := by decide +kernel
theorem d11_1 : decode jdk_43_method_23_code 1 = .ok (.i2b, 1) := by decide +kernel
theorem d11_2 : decode jdk_43_method_23_code 2 = .ok (.istore 4, 2) := by decide +kernel
theorem d11_4 : decode jdk_43_method_23_code 4 = .ok (.iload_n 2, 1) := by decide +kernel
theorem d11_5 : decode jdk_43_method_23_code 5 = .ok (.istore 5, 2) := by decide +kernel
theorem d11_7 : decode jdk_43_method_23_code 7 = .ok (.iload 5, 2) := by decide +kernel
theorem d11_9 : decode jdk_43_method_23_code 9 = .ok (.iload_n 3, 1) := by decide +kernel
theorem d11_10 : decode jdk_43_method_23_code 10 = .ok (.if_icmp .ge 21, 3) := by decide +kernel
theorem d11_13 : decode jdk_43_method_23_code 13 = .ok (.aload_n 0, 1) := by decide +kernel
theorem d11_14 : decode jdk_43_method_23_code 14 = .ok (.iload 5, 2) := by decide +kernel
theorem d11_16 : decode jdk_43_method_23_code 16 = .ok (.baload, 1) := by decide +kernel
theorem d11_17 : decode jdk_43_method_23_code 17 = .ok (.iload 4, 2) := by decide +kernel
theorem d11_19 : decode jdk_43_method_23_code 19 = .ok (.if_icmp .ne 6, 3) := by decide +kernel
theorem d11_22 : decode jdk_43_method_23_code 22 = .ok (.iload 5, 2) := by decide +kernel
theorem d11_24 : decode jdk_43_method_23_code 24 = .ok (.ireturn, 1) := by decide +kernel
theorem d11_25 : decode jdk_43_method_23_code 25 = .ok (.iinc 5 1, 3) := by decide +kernel
theorem d11_28 : decode jdk_43_method_23_code 28 = .ok (.goto (-21), 3) := by decide +kernel
theorem d11_31 : decode jdk_43_method_23_code 31 = .ok (.iconst (-1), 1) := by decide +kernel
theorem d11_32 : decode jdk_43_method_23_code 32 = .ok (.ireturn, 1) := by decide +kernel
theorem pn_11 : plainName "java/lang/StringLatin1" = true := by first | (simp [plainName, overriddenIn]; done) | decide +kernel
theorem ef_11 (m : MethodId) (a0 : Addr) (p1 : Int32) : entryFrame m #[(.ref a0), (.int p1), (.int (0 : Int32)), (.int (9 : Int32))] 6 = mkF m 0 #[.val (.ref a0), .val (.int p1), .val (.int (0 : Int32)), .val (.int (9 : Int32)), .unset, .unset] [] := by first | (simp [entryFrame, mkF, argsToLocals, Value.category]; done) | rfl
def own_ioc (p1 : Int32) : Int32 := (if (60 : Int32) = (p1.toInt8.toInt32) then (0 : Int32) else (if (62 : Int32) = (p1.toInt8.toInt32) then (1 : Int32) else (if (34 : Int32) = (p1.toInt8.toInt32) then (2 : Int32) else (if (123 : Int32) = (p1.toInt8.toInt32) then (3 : Int32) else (if (125 : Int32) = (p1.toInt8.toInt32) then (4 : Int32) else (if (124 : Int32) = (p1.toInt8.toInt32) then (5 : Int32) else (if (94 : Int32) = (p1.toInt8.toInt32) then (6 : Int32) else (if (96 : Int32) = (p1.toInt8.toInt32) then (7 : Int32) else (if (92 : Int32) = (p1.toInt8.toInt32) then (8 : Int32) else (-1 : Int32))))))))))
def Q11 (Z : State) (a0 : Addr) (p1 : Int32) (kk : ClassId) (h0 : Heap) (n0 : Nat) (v : Option Value) (h : Heap) (L : List Loc) : Prop := v = some (.int (own_ioc p1)) ∧ Fr n0 L ∧ h = h0
set_option maxRecDepth 65536 in
set_option maxHeartbeats 40000000 in
theorem rm11 (l : Launch) (Z : State) (av0 : Array Value) (hw : ∀ d ∈ tables_1, d.before av0 Z = true) (ws : List Jvm.Cond) (a0 : Addr) (p1 : Int32) (kk : ClassId) (h0 : Heap) (n0 : Nat) (Z0 : n0 ≤ h0.size) (V0 : Arv Z h0 a0 kk .byte (9 : Int32) [(.int (60 : Int32)), (.int (62 : Int32)), (.int (34 : Int32)), (.int (123 : Int32)), (.int (125 : Int32)), (.int (124 : Int32)), (.int (94 : Int32)), (.int (96 : Int32)), (.int (92 : Int32))] (.int 0)) :
    MetFree l (⟨"java/lang/StringLatin1", "indexOfChar", "([BIII)I"⟩ : MethodName) (head1 (Jvm.Cond.code (⟨"java/lang/StringLatin1", "indexOfChar", "([BIII)I"⟩ : MethodName) jdk_43_method_23_code 6 (some .int) :: ws) ({ frames := 0, cells := 0, slots := 0, locals := 0 } : Room)) (fun a U => a = #[(.ref a0), (.int p1), (.int (0 : Int32)), (.int (9 : Int32))] ∧ Z.Warmed39 U.vm ∧ U.heap = h0) (fun _ _ _ _ _ => True) (fun _ U o U' => ∃ v L, o = .returned v ∧ Q11 Z a0 p1 kk h0 n0 v U'.heap L ∧ FrameEnd U o U' L ({ frames := 0, cells := 0, slots := 0, locals := 0 } : Room).cells ({ frames := 0, cells := 0, slots := 0, locals := 0 } : Room).slots) := by
  refine MetFree.of_bodySF (plainFor_of_name pn_11) hisR ?_
  intro p e s m args below meth c s₁ Bd hml0 hP hK
  obtain ⟨rfl, hZ, hh⟩ := hP
  have hx := Bd.exec
  have hby := Bd.bytes
  have hml : c.maxLocals = 6 := hml0
  have hown : s.vm.findClass "java/lang/StringLatin1" = some m.cls := findClass_of_methodNamed Bd.named
  have hnm := (name_of_methodNamed Bd.named Bd.method).1
  have X0 : Stand p l e ({ frames := 0, cells := 0, slots := 0, locals := 0 } : Room) s m #[(.ref a0), (.int p1), (.int (0 : Int32)), (.int (9 : Int32))] below meth c s₁ [] 0 0 := Stand.of_body Bd
  have e0 : s₁.heap = h0 := by rw [← hh, Bd.state]; rfl
  have N0 := Fr.nil n0
  have K0 : Keep h0 h0 [] := Keep.refl h0 []
  refine own_go (B := s₁.setTop (mkF m 0 #[.val (.ref a0), .val (.int p1), .val (.int (0 : Int32)), .val (.int (9 : Int32)), .unset, .unset] [])) (fun t k => castTop (ef_11 m a0 p1) k) ?_
  refine own_go (B := s₁.setTop (mkF m 10 #[.val (.ref a0), .val (.int p1), .val (.int (0 : Int32)), .val (.int (9 : Int32)), .val (.int (p1.toInt8.toInt32)), .val (.int (0 : Int32))] [(.int (9 : Int32)), (.int (0 : Int32))])) (fun t k => ?_) ?_
  · show Steps p.tables e below (s₁.setTop (mkF m 0 #[.val (.ref a0), .val (.int p1), .val (.int (0 : Int32)), .val (.int (9 : Int32)), .unset, .unset] [])) _
    refine XS.iloadN X0.here hx rfl (hb hby d11_0) rfl ?_
    show Steps p.tables e below (s₁.setTop (mkF m 1 #[.val (.ref a0), .val (.int p1), .val (.int (0 : Int32)), .val (.int (9 : Int32)), .unset, .unset] [(.int p1)])) _
    refine XS.i2b X0.here hx rfl (hb hby d11_1) rfl ?_
    show Steps p.tables e below (s₁.setTop (mkF m 2 #[.val (.ref a0), .val (.int p1), .val (.int (0 : Int32)), .val (.int (9 : Int32)), .unset, .unset] [(.int (p1.toInt8.toInt32))])) _
    refine XS.istore X0.here hx rfl (hb hby d11_2) rfl (l' := #[.val (.ref a0), .val (.int p1), .val (.int (0 : Int32)), .val (.int (9 : Int32)), .val (.int (p1.toInt8.toInt32)), .unset]) rfl ?_
    show Steps p.tables e below (s₁.setTop (mkF m 4 #[.val (.ref a0), .val (.int p1), .val (.int (0 : Int32)), .val (.int (9 : Int32)), .val (.int (p1.toInt8.toInt32)), .unset] [])) _
    refine XS.iloadN X0.here hx rfl (hb hby d11_4) rfl ?_
    show Steps p.tables e below (s₁.setTop (mkF m 5 #[.val (.ref a0), .val (.int p1), .val (.int (0 : Int32)), .val (.int (9 : Int32)), .val (.int (p1.toInt8.toInt32)), .unset] [(.int (0 : Int32))])) _
    refine XS.istore X0.here hx rfl (hb hby d11_5) rfl (l' := #[.val (.ref a0), .val (.int p1), .val (.int (0 : Int32)), .val (.int (9 : Int32)), .val (.int (p1.toInt8.toInt32)), .val (.int (0 : Int32))]) rfl ?_
    show Steps p.tables e below (s₁.setTop (mkF m 7 #[.val (.ref a0), .val (.int p1), .val (.int (0 : Int32)), .val (.int (9 : Int32)), .val (.int (p1.toInt8.toInt32)), .val (.int (0 : Int32))] [])) _
    refine XS.iload X0.here hx rfl (hb hby d11_7) rfl ?_
    show Steps p.tables e below (s₁.setTop (mkF m 9 #[.val (.ref a0), .val (.int p1), .val (.int (0 : Int32)), .val (.int (9 : Int32)), .val (.int (p1.toInt8.toInt32)), .val (.int (0 : Int32))] [(.int (0 : Int32))])) _
    refine XS.iloadN X0.here hx rfl (hb hby d11_9) rfl ?_
    exact k
  refine own_go (B := s₁.setTop (mkF m 13 #[.val (.ref a0), .val (.int p1), .val (.int (0 : Int32)), .val (.int (9 : Int32)), .val (.int (p1.toInt8.toInt32)), .val (.int (0 : Int32))] [])) (fun t k => ?_) ?_
  · show Steps p.tables e below (s₁.setTop (mkF m 10 #[.val (.ref a0), .val (.int p1), .val (.int (0 : Int32)), .val (.int (9 : Int32)), .val (.int (p1.toInt8.toInt32)), .val (.int (0 : Int32))] [(.int (9 : Int32)), (.int (0 : Int32))])) _
    refine XS.icmpNo X0.here hx rfl (hb hby d11_10) rfl (tlt (by decide : (0 : Int32) < (9 : Int32))).2.1 ?_
    exact k
  refine own_go (B := s₁.setTop (mkF m 16 #[.val (.ref a0), .val (.int p1), .val (.int (0 : Int32)), .val (.int (9 : Int32)), .val (.int (p1.toInt8.toInt32)), .val (.int (0 : Int32))] [(.int (0 : Int32)), (.ref a0)])) (fun t k => ?_) ?_
  · show Steps p.tables e below (s₁.setTop (mkF m 13 #[.val (.ref a0), .val (.int p1), .val (.int (0 : Int32)), .val (.int (9 : Int32)), .val (.int (p1.toInt8.toInt32)), .val (.int (0 : Int32))] [])) _
    refine XS.aloadN X0.here hx rfl (hb hby d11_13) rfl rfl ?_
    show Steps p.tables e below (s₁.setTop (mkF m 14 #[.val (.ref a0), .val (.int p1), .val (.int (0 : Int32)), .val (.int (9 : Int32)), .val (.int (p1.toInt8.toInt32)), .val (.int (0 : Int32))] [(.ref a0)])) _
    refine XS.iload X0.here hx rfl (hb hby d11_14) rfl ?_
    exact k
  obtain ⟨cl_1, Ar_1, q_1, S_1, M_1, H_1, G_1⟩ := id V0
  have hin_1 : ¬ ((0 : Int32) < 0 ∨ cl_1.slots.size ≤ ((0 : Int32)).toNatClampNeg) := inb_of S_1 ⟨by decide, by decide⟩
  have hat_1 : cl_1.slots[((0 : Int32)).toNatClampNeg]? = some (.int (60 : Int32)) := H_1.at hin_1 rfl
  refine own_go (B := s₁.setTop (mkF m 17 #[.val (.ref a0), .val (.int p1), .val (.int (0 : Int32)), .val (.int (9 : Int32)), .val (.int (p1.toInt8.toInt32)), .val (.int (0 : Int32))] [(.int (60 : Int32))])) (fun t k => X0.baloadBytes hx (j := (0 : Int32)) (v := (.int (60 : Int32))) (by rw [(e0 : _ = _)]; exact Ar_1.1) (State.isArrayOf_alike hZ.alike Ar_1.2.1) Ar_1.2.2 hin_1 hat_1 (g := (mkF m 16 #[.val (.ref a0), .val (.int p1), .val (.int (0 : Int32)), .val (.int (9 : Int32)), .val (.int (p1.toInt8.toInt32)), .val (.int (0 : Int32))] [(.int (0 : Int32)), (.ref a0)])) rfl rfl (hb hby d11_16) t k) ?_
  refine own_go (B := s₁.setTop (mkF m 19 #[.val (.ref a0), .val (.int p1), .val (.int (0 : Int32)), .val (.int (9 : Int32)), .val (.int (p1.toInt8.toInt32)), .val (.int (0 : Int32))] [(.int (p1.toInt8.toInt32)), (.int (60 : Int32))])) (fun t k => ?_) ?_
  · show Steps p.tables e below (s₁.setTop (mkF m 17 #[.val (.ref a0), .val (.int p1), .val (.int (0 : Int32)), .val (.int (9 : Int32)), .val (.int (p1.toInt8.toInt32)), .val (.int (0 : Int32))] [(.int (60 : Int32))])) _
    refine XS.iload X0.here hx rfl (hb hby d11_17) rfl ?_
    exact k
  by_cases hc19 : (60 : Int32) = (p1.toInt8.toInt32)
  · refine own_go (B := s₁.setTop (mkF m 22 #[.val (.ref a0), .val (.int p1), .val (.int (0 : Int32)), .val (.int (9 : Int32)), .val (.int (p1.toInt8.toInt32)), .val (.int (0 : Int32))] [])) (fun t k => ?_) ?_
    · show Steps p.tables e below (s₁.setTop (mkF m 19 #[.val (.ref a0), .val (.int p1), .val (.int (0 : Int32)), .val (.int (9 : Int32)), .val (.int (p1.toInt8.toInt32)), .val (.int (0 : Int32))] [(.int (p1.toInt8.toInt32)), (.int (60 : Int32))])) _
      refine XS.icmpNo X0.here hx rfl (hb hby d11_19) rfl (teq hc19).2 ?_
      exact k
    refine own_go (B := s₁.setTop (mkF m 24 #[.val (.ref a0), .val (.int p1), .val (.int (0 : Int32)), .val (.int (9 : Int32)), .val (.int (p1.toInt8.toInt32)), .val (.int (0 : Int32))] [(.int (0 : Int32))])) (fun t k => ?_) ?_
    · show Steps p.tables e below (s₁.setTop (mkF m 22 #[.val (.ref a0), .val (.int p1), .val (.int (0 : Int32)), .val (.int (9 : Int32)), .val (.int (p1.toInt8.toInt32)), .val (.int (0 : Int32))] [])) _
      refine XS.iload X0.here hx rfl (hb hby d11_22) rfl ?_
      exact k
    obtain ⟨fs, hr, hrun, hended, hW, hsame⟩ := X0.leave (v := some (.int (0 : Int32))) (fun h => by rw [Bd.returns] at h; cases h)
    refine ⟨_, _, ?_, hrun, hended, _, _, rfl, ?_, ⟨_, rfl⟩, hW, hsame.mono (by decide) (by decide)⟩
    · show Steps p.tables e below (s₁.setTop (mkF m 24 #[.val (.ref a0), .val (.int p1), .val (.int (0 : Int32)), .val (.int (9 : Int32)), .val (.int (p1.toInt8.toInt32)), .val (.int (0 : Int32))] [(.int (0 : Int32))])) _
      exact retI X0 hx Bd.returns (hb hby d11_24) hr
    · show Q11 Z a0 p1 kk h0 n0 _ s₁.heap _
      rw [e0]
      exact ⟨by simp only [own_ioc, if_pos hc19], N0, rfl⟩
  · refine own_go (B := s₁.setTop (mkF m 25 #[.val (.ref a0), .val (.int p1), .val (.int (0 : Int32)), .val (.int (9 : Int32)), .val (.int (p1.toInt8.toInt32)), .val (.int (0 : Int32))] [])) (fun t k => ?_) ?_
    · show Steps p.tables e below (s₁.setTop (mkF m 19 #[.val (.ref a0), .val (.int p1), .val (.int (0 : Int32)), .val (.int (9 : Int32)), .val (.int (p1.toInt8.toInt32)), .val (.int (0 : Int32))] [(.int (p1.toInt8.toInt32)), (.int (60 : Int32))])) _
      refine XS.icmpYes X0.here hx rfl (pc0 := 19) (pc' := 25) rfl (hb hby d11_19) rfl (feq hc19).2 (by decide) (by decide) ?_
      exact k
    refine own_go (B := s₁.setTop (mkF m 10 #[.val (.ref a0), .val (.int p1), .val (.int (0 : Int32)), .val (.int (9 : Int32)), .val (.int (p1.toInt8.toInt32)), .val (.int (1 : Int32))] [(.int (9 : Int32)), (.int (1 : Int32))])) (fun t k => ?_) ?_
    · show Steps p.tables e below (s₁.setTop (mkF m 25 #[.val (.ref a0), .val (.int p1), .val (.int (0 : Int32)), .val (.int (9 : Int32)), .val (.int (p1.toInt8.toInt32)), .val (.int (0 : Int32))] [])) _
      refine XS.iinc X0.here hx rfl (hb hby d11_25) rfl (l' := #[.val (.ref a0), .val (.int p1), .val (.int (0 : Int32)), .val (.int (9 : Int32)), .val (.int (p1.toInt8.toInt32)), .val (.int (1 : Int32))]) rfl ?_
      show Steps p.tables e below (s₁.setTop (mkF m 28 #[.val (.ref a0), .val (.int p1), .val (.int (0 : Int32)), .val (.int (9 : Int32)), .val (.int (p1.toInt8.toInt32)), .val (.int (1 : Int32))] [])) _
      refine XS.goto X0.here hx rfl (pc0 := 28) (pc' := 7) rfl (hb hby d11_28) (by decide) (by decide) ?_
      show Steps p.tables e below (s₁.setTop (mkF m 7 #[.val (.ref a0), .val (.int p1), .val (.int (0 : Int32)), .val (.int (9 : Int32)), .val (.int (p1.toInt8.toInt32)), .val (.int (1 : Int32))] [])) _
      refine XS.iload X0.here hx rfl (hb hby d11_7) rfl ?_
      show Steps p.tables e below (s₁.setTop (mkF m 9 #[.val (.ref a0), .val (.int p1), .val (.int (0 : Int32)), .val (.int (9 : Int32)), .val (.int (p1.toInt8.toInt32)), .val (.int (1 : Int32))] [(.int (1 : Int32))])) _
      refine XS.iloadN X0.here hx rfl (hb hby d11_9) rfl ?_
      exact k
    refine own_go (B := s₁.setTop (mkF m 13 #[.val (.ref a0), .val (.int p1), .val (.int (0 : Int32)), .val (.int (9 : Int32)), .val (.int (p1.toInt8.toInt32)), .val (.int (1 : Int32))] [])) (fun t k => ?_) ?_
    · show Steps p.tables e below (s₁.setTop (mkF m 10 #[.val (.ref a0), .val (.int p1), .val (.int (0 : Int32)), .val (.int (9 : Int32)), .val (.int (p1.toInt8.toInt32)), .val (.int (1 : Int32))] [(.int (9 : Int32)), (.int (1 : Int32))])) _
      refine XS.icmpNo X0.here hx rfl (hb hby d11_10) rfl (tlt (by decide : (1 : Int32) < (9 : Int32))).2.1 ?_
      exact k
    refine own_go (B := s₁.setTop (mkF m 16 #[.val (.ref a0), .val (.int p1), .val (.int (0 : Int32)), .val (.int (9 : Int32)), .val (.int (p1.toInt8.toInt32)), .val (.int (1 : Int32))] [(.int (1 : Int32)), (.ref a0)])) (fun t k => ?_) ?_
    · show Steps p.tables e below (s₁.setTop (mkF m 13 #[.val (.ref a0), .val (.int p1), .val (.int (0 : Int32)), .val (.int (9 : Int32)), .val (.int (p1.toInt8.toInt32)), .val (.int (1 : Int32))] [])) _
      refine XS.aloadN X0.here hx rfl (hb hby d11_13) rfl rfl ?_
      show Steps p.tables e below (s₁.setTop (mkF m 14 #[.val (.ref a0), .val (.int p1), .val (.int (0 : Int32)), .val (.int (9 : Int32)), .val (.int (p1.toInt8.toInt32)), .val (.int (1 : Int32))] [(.ref a0)])) _
      refine XS.iload X0.here hx rfl (hb hby d11_14) rfl ?_
      exact k
    obtain ⟨cl_2, Ar_2, q_2, S_2, M_2, H_2, G_2⟩ := id V0
    have hin_2 : ¬ ((1 : Int32) < 0 ∨ cl_2.slots.size ≤ ((1 : Int32)).toNatClampNeg) := inb_of S_2 ⟨by decide, by decide⟩
    have hat_2 : cl_2.slots[((1 : Int32)).toNatClampNeg]? = some (.int (62 : Int32)) := H_2.at hin_2 rfl
    refine own_go (B := s₁.setTop (mkF m 17 #[.val (.ref a0), .val (.int p1), .val (.int (0 : Int32)), .val (.int (9 : Int32)), .val (.int (p1.toInt8.toInt32)), .val (.int (1 : Int32))] [(.int (62 : Int32))])) (fun t k => X0.baloadBytes hx (j := (1 : Int32)) (v := (.int (62 : Int32))) (by rw [(e0 : _ = _)]; exact Ar_2.1) (State.isArrayOf_alike hZ.alike Ar_2.2.1) Ar_2.2.2 hin_2 hat_2 (g := (mkF m 16 #[.val (.ref a0), .val (.int p1), .val (.int (0 : Int32)), .val (.int (9 : Int32)), .val (.int (p1.toInt8.toInt32)), .val (.int (1 : Int32))] [(.int (1 : Int32)), (.ref a0)])) rfl rfl (hb hby d11_16) t k) ?_
    refine own_go (B := s₁.setTop (mkF m 19 #[.val (.ref a0), .val (.int p1), .val (.int (0 : Int32)), .val (.int (9 : Int32)), .val (.int (p1.toInt8.toInt32)), .val (.int (1 : Int32))] [(.int (p1.toInt8.toInt32)), (.int (62 : Int32))])) (fun t k => ?_) ?_
    · show Steps p.tables e below (s₁.setTop (mkF m 17 #[.val (.ref a0), .val (.int p1), .val (.int (0 : Int32)), .val (.int (9 : Int32)), .val (.int (p1.toInt8.toInt32)), .val (.int (1 : Int32))] [(.int (62 : Int32))])) _
      refine XS.iload X0.here hx rfl (hb hby d11_17) rfl ?_
      exact k
    by_cases hc19_1 : (62 : Int32) = (p1.toInt8.toInt32)
    · refine own_go (B := s₁.setTop (mkF m 22 #[.val (.ref a0), .val (.int p1), .val (.int (0 : Int32)), .val (.int (9 : Int32)), .val (.int (p1.toInt8.toInt32)), .val (.int (1 : Int32))] [])) (fun t k => ?_) ?_
      · show Steps p.tables e below (s₁.setTop (mkF m 19 #[.val (.ref a0), .val (.int p1), .val (.int (0 : Int32)), .val (.int (9 : Int32)), .val (.int (p1.toInt8.toInt32)), .val (.int (1 : Int32))] [(.int (p1.toInt8.toInt32)), (.int (62 : Int32))])) _
        refine XS.icmpNo X0.here hx rfl (hb hby d11_19) rfl (teq hc19_1).2 ?_
        exact k
      refine own_go (B := s₁.setTop (mkF m 24 #[.val (.ref a0), .val (.int p1), .val (.int (0 : Int32)), .val (.int (9 : Int32)), .val (.int (p1.toInt8.toInt32)), .val (.int (1 : Int32))] [(.int (1 : Int32))])) (fun t k => ?_) ?_
      · show Steps p.tables e below (s₁.setTop (mkF m 22 #[.val (.ref a0), .val (.int p1), .val (.int (0 : Int32)), .val (.int (9 : Int32)), .val (.int (p1.toInt8.toInt32)), .val (.int (1 : Int32))] [])) _
        refine XS.iload X0.here hx rfl (hb hby d11_22) rfl ?_
        exact k
      obtain ⟨fs, hr, hrun, hended, hW, hsame⟩ := X0.leave (v := some (.int (1 : Int32))) (fun h => by rw [Bd.returns] at h; cases h)
      refine ⟨_, _, ?_, hrun, hended, _, _, rfl, ?_, ⟨_, rfl⟩, hW, hsame.mono (by decide) (by decide)⟩
      · show Steps p.tables e below (s₁.setTop (mkF m 24 #[.val (.ref a0), .val (.int p1), .val (.int (0 : Int32)), .val (.int (9 : Int32)), .val (.int (p1.toInt8.toInt32)), .val (.int (1 : Int32))] [(.int (1 : Int32))])) _
        exact retI X0 hx Bd.returns (hb hby d11_24) hr
      · show Q11 Z a0 p1 kk h0 n0 _ s₁.heap _
        rw [e0]
        exact ⟨by simp only [own_ioc, if_neg hc19, if_pos hc19_1], N0, rfl⟩
    · refine own_go (B := s₁.setTop (mkF m 25 #[.val (.ref a0), .val (.int p1), .val (.int (0 : Int32)), .val (.int (9 : Int32)), .val (.int (p1.toInt8.toInt32)), .val (.int (1 : Int32))] [])) (fun t k => ?_) ?_
      · show Steps p.tables e below (s₁.setTop (mkF m 19 #[.val (.ref a0), .val (.int p1), .val (.int (0 : Int32)), .val (.int (9 : Int32)), .val (.int (p1.toInt8.toInt32)), .val (.int (1 : Int32))] [(.int (p1.toInt8.toInt32)), (.int (62 : Int32))])) _
        refine XS.icmpYes X0.here hx rfl (pc0 := 19) (pc' := 25) rfl (hb hby d11_19) rfl (feq hc19_1).2 (by decide) (by decide) ?_
        exact k
      refine own_go (B := s₁.setTop (mkF m 10 #[.val (.ref a0), .val (.int p1), .val (.int (0 : Int32)), .val (.int (9 : Int32)), .val (.int (p1.toInt8.toInt32)), .val (.int (2 : Int32))] [(.int (9 : Int32)), (.int (2 : Int32))])) (fun t k => ?_) ?_
      · show Steps p.tables e below (s₁.setTop (mkF m 25 #[.val (.ref a0), .val (.int p1), .val (.int (0 : Int32)), .val (.int (9 : Int32)), .val (.int (p1.toInt8.toInt32)), .val (.int (1 : Int32))] [])) _
        refine XS.iinc X0.here hx rfl (hb hby d11_25) rfl (l' := #[.val (.ref a0), .val (.int p1), .val (.int (0 : Int32)), .val (.int (9 : Int32)), .val (.int (p1.toInt8.toInt32)), .val (.int (2 : Int32))]) rfl ?_
        show Steps p.tables e below (s₁.setTop (mkF m 28 #[.val (.ref a0), .val (.int p1), .val (.int (0 : Int32)), .val (.int (9 : Int32)), .val (.int (p1.toInt8.toInt32)), .val (.int (2 : Int32))] [])) _
        refine XS.goto X0.here hx rfl (pc0 := 28) (pc' := 7) rfl (hb hby d11_28) (by decide) (by decide) ?_
        show Steps p.tables e below (s₁.setTop (mkF m 7 #[.val (.ref a0), .val (.int p1), .val (.int (0 : Int32)), .val (.int (9 : Int32)), .val (.int (p1.toInt8.toInt32)), .val (.int (2 : Int32))] [])) _
        refine XS.iload X0.here hx rfl (hb hby d11_7) rfl ?_
        show Steps p.tables e below (s₁.setTop (mkF m 9 #[.val (.ref a0), .val (.int p1), .val (.int (0 : Int32)), .val (.int (9 : Int32)), .val (.int (p1.toInt8.toInt32)), .val (.int (2 : Int32))] [(.int (2 : Int32))])) _
        refine XS.iloadN X0.here hx rfl (hb hby d11_9) rfl ?_
        exact k
      refine own_go (B := s₁.setTop (mkF m 13 #[.val (.ref a0), .val (.int p1), .val (.int (0 : Int32)), .val (.int (9 : Int32)), .val (.int (p1.toInt8.toInt32)), .val (.int (2 : Int32))] [])) (fun t k => ?_) ?_
      · show Steps p.tables e below (s₁.setTop (mkF m 10 #[.val (.ref a0), .val (.int p1), .val (.int (0 : Int32)), .val (.int (9 : Int32)), .val (.int (p1.toInt8.toInt32)), .val (.int (2 : Int32))] [(.int (9 : Int32)), (.int (2 : Int32))])) _
        refine XS.icmpNo X0.here hx rfl (hb hby d11_10) rfl (tlt (by decide : (2 : Int32) < (9 : Int32))).2.1 ?_
        exact k
      refine own_go (B := s₁.setTop (mkF m 16 #[.val (.ref a0), .val (.int p1), .val (.int (0 : Int32)), .val (.int (9 : Int32)), .val (.int (p1.toInt8.toInt32)), .val (.int (2 : Int32))] [(.int (2 : Int32)), (.ref a0)])) (fun t k => ?_) ?_
      · show Steps p.tables e below (s₁.setTop (mkF m 13 #[.val (.ref a0), .val (.int p1), .val (.int (0 : Int32)), .val (.int (9 : Int32)), .val (.int (p1.toInt8.toInt32)), .val (.int (2 : Int32))] [])) _
        refine XS.aloadN X0.here hx rfl (hb hby d11_13) rfl rfl ?_
        show Steps p.tables e below (s₁.setTop (mkF m 14 #[.val (.ref a0), .val (.int p1), .val (.int (0 : Int32)), .val (.int (9 : Int32)), .val (.int (p1.toInt8.toInt32)), .val (.int (2 : Int32))] [(.ref a0)])) _
        refine XS.iload X0.here hx rfl (hb hby d11_14) rfl ?_
        exact k
      obtain ⟨cl_3, Ar_3, q_3, S_3, M_3, H_3, G_3⟩ := id V0
      have hin_3 : ¬ ((2 : Int32) < 0 ∨ cl_3.slots.size ≤ ((2 : Int32)).toNatClampNeg) := inb_of S_3 ⟨by decide, by decide⟩
      have hat_3 : cl_3.slots[((2 : Int32)).toNatClampNeg]? = some (.int (34 : Int32)) := H_3.at hin_3 rfl
      refine own_go (B := s₁.setTop (mkF m 17 #[.val (.ref a0), .val (.int p1), .val (.int (0 : Int32)), .val (.int (9 : Int32)), .val (.int (p1.toInt8.toInt32)), .val (.int (2 : Int32))] [(.int (34 : Int32))])) (fun t k => X0.baloadBytes hx (j := (2 : Int32)) (v := (.int (34 : Int32))) (by rw [(e0 : _ = _)]; exact Ar_3.1) (State.isArrayOf_alike hZ.alike Ar_3.2.1) Ar_3.2.2 hin_3 hat_3 (g := (mkF m 16 #[.val (.ref a0), .val (.int p1), .val (.int (0 : Int32)), .val (.int (9 : Int32)), .val (.int (p1.toInt8.toInt32)), .val (.int (2 : Int32))] [(.int (2 : Int32)), (.ref a0)])) rfl rfl (hb hby d11_16) t k) ?_
      refine own_go (B := s₁.setTop (mkF m 19 #[.val (.ref a0), .val (.int p1), .val (.int (0 : Int32)), .val (.int (9 : Int32)), .val (.int (p1.toInt8.toInt32)), .val (.int (2 : Int32))] [(.int (p1.toInt8.toInt32)), (.int (34 : Int32))])) (fun t k => ?_) ?_
      · show Steps p.tables e below (s₁.setTop (mkF m 17 #[.val (.ref a0), .val (.int p1), .val (.int (0 : Int32)), .val (.int (9 : Int32)), .val (.int (p1.toInt8.toInt32)), .val (.int (2 : Int32))] [(.int (34 : Int32))])) _
        refine XS.iload X0.here hx rfl (hb hby d11_17) rfl ?_
        exact k
      by_cases hc19_2 : (34 : Int32) = (p1.toInt8.toInt32)
      · refine own_go (B := s₁.setTop (mkF m 22 #[.val (.ref a0), .val (.int p1), .val (.int (0 : Int32)), .val (.int (9 : Int32)), .val (.int (p1.toInt8.toInt32)), .val (.int (2 : Int32))] [])) (fun t k => ?_) ?_
        · show Steps p.tables e below (s₁.setTop (mkF m 19 #[.val (.ref a0), .val (.int p1), .val (.int (0 : Int32)), .val (.int (9 : Int32)), .val (.int (p1.toInt8.toInt32)), .val (.int (2 : Int32))] [(.int (p1.toInt8.toInt32)), (.int (34 : Int32))])) _
          refine XS.icmpNo X0.here hx rfl (hb hby d11_19) rfl (teq hc19_2).2 ?_
          exact k
        refine own_go (B := s₁.setTop (mkF m 24 #[.val (.ref a0), .val (.int p1), .val (.int (0 : Int32)), .val (.int (9 : Int32)), .val (.int (p1.toInt8.toInt32)), .val (.int (2 : Int32))] [(.int (2 : Int32))])) (fun t k => ?_) ?_
        · show Steps p.tables e below (s₁.setTop (mkF m 22 #[.val (.ref a0), .val (.int p1), .val (.int (0 : Int32)), .val (.int (9 : Int32)), .val (.int (p1.toInt8.toInt32)), .val (.int (2 : Int32))] [])) _
          refine XS.iload X0.here hx rfl (hb hby d11_22) rfl ?_
          exact k
        obtain ⟨fs, hr, hrun, hended, hW, hsame⟩ := X0.leave (v := some (.int (2 : Int32))) (fun h => by rw [Bd.returns] at h; cases h)
        refine ⟨_, _, ?_, hrun, hended, _, _, rfl, ?_, ⟨_, rfl⟩, hW, hsame.mono (by decide) (by decide)⟩
        · show Steps p.tables e below (s₁.setTop (mkF m 24 #[.val (.ref a0), .val (.int p1), .val (.int (0 : Int32)), .val (.int (9 : Int32)), .val (.int (p1.toInt8.toInt32)), .val (.int (2 : Int32))] [(.int (2 : Int32))])) _
          exact retI X0 hx Bd.returns (hb hby d11_24) hr
        · show Q11 Z a0 p1 kk h0 n0 _ s₁.heap _
          rw [e0]
          exact ⟨by simp only [own_ioc, if_neg hc19, if_neg hc19_1, if_pos hc19_2], N0, rfl⟩
      · refine own_go (B := s₁.setTop (mkF m 25 #[.val (.ref a0), .val (.int p1), .val (.int (0 : Int32)), .val (.int (9 : Int32)), .val (.int (p1.toInt8.toInt32)), .val (.int (2 : Int32))] [])) (fun t k => ?_) ?_
        · show Steps p.tables e below (s₁.setTop (mkF m 19 #[.val (.ref a0), .val (.int p1), .val (.int (0 : Int32)), .val (.int (9 : Int32)), .val (.int (p1.toInt8.toInt32)), .val (.int (2 : Int32))] [(.int (p1.toInt8.toInt32)), (.int (34 : Int32))])) _
          refine XS.icmpYes X0.here hx rfl (pc0 := 19) (pc' := 25) rfl (hb hby d11_19) rfl (feq hc19_2).2 (by decide) (by decide) ?_
          exact k
        refine own_go (B := s₁.setTop (mkF m 10 #[.val (.ref a0), .val (.int p1), .val (.int (0 : Int32)), .val (.int (9 : Int32)), .val (.int (p1.toInt8.toInt32)), .val (.int (3 : Int32))] [(.int (9 : Int32)), (.int (3 : Int32))])) (fun t k => ?_) ?_
        · show Steps p.tables e below (s₁.setTop (mkF m 25 #[.val (.ref a0), .val (.int p1), .val (.int (0 : Int32)), .val (.int (9 : Int32)), .val (.int (p1.toInt8.toInt32)), .val (.int (2 : Int32))] [])) _
          refine XS.iinc X0.here hx rfl (hb hby d11_25) rfl (l' := #[.val (.ref a0), .val (.int p1), .val (.int (0 : Int32)), .val (.int (9 : Int32)), .val (.int (p1.toInt8.toInt32)), .val (.int (3 : Int32))]) rfl ?_
          show Steps p.tables e below (s₁.setTop (mkF m 28 #[.val (.ref a0), .val (.int p1), .val (.int (0 : Int32)), .val (.int (9 : Int32)), .val (.int (p1.toInt8.toInt32)), .val (.int (3 : Int32))] [])) _
          refine XS.goto X0.here hx rfl (pc0 := 28) (pc' := 7) rfl (hb hby d11_28) (by decide) (by decide) ?_
          show Steps p.tables e below (s₁.setTop (mkF m 7 #[.val (.ref a0), .val (.int p1), .val (.int (0 : Int32)), .val (.int (9 : Int32)), .val (.int (p1.toInt8.toInt32)), .val (.int (3 : Int32))] [])) _
          refine XS.iload X0.here hx rfl (hb hby d11_7) rfl ?_
          show Steps p.tables e below (s₁.setTop (mkF m 9 #[.val (.ref a0), .val (.int p1), .val (.int (0 : Int32)), .val (.int (9 : Int32)), .val (.int (p1.toInt8.toInt32)), .val (.int (3 : Int32))] [(.int (3 : Int32))])) _
          refine XS.iloadN X0.here hx rfl (hb hby d11_9) rfl ?_
          exact k
        refine own_go (B := s₁.setTop (mkF m 13 #[.val (.ref a0), .val (.int p1), .val (.int (0 : Int32)), .val (.int (9 : Int32)), .val (.int (p1.toInt8.toInt32)), .val (.int (3 : Int32))] [])) (fun t k => ?_) ?_
        · show Steps p.tables e below (s₁.setTop (mkF m 10 #[.val (.ref a0), .val (.int p1), .val (.int (0 : Int32)), .val (.int (9 : Int32)), .val (.int (p1.toInt8.toInt32)), .val (.int (3 : Int32))] [(.int (9 : Int32)), (.int (3 : Int32))])) _
          refine XS.icmpNo X0.here hx rfl (hb hby d11_10) rfl (tlt (by decide : (3 : Int32) < (9 : Int32))).2.1 ?_
          exact k
        refine own_go (B := s₁.setTop (mkF m 16 #[.val (.ref a0), .val (.int p1), .val (.int (0 : Int32)), .val (.int (9 : Int32)), .val (.int (p1.toInt8.toInt32)), .val (.int (3 : Int32))] [(.int (3 : Int32)), (.ref a0)])) (fun t k => ?_) ?_
        · show Steps p.tables e below (s₁.setTop (mkF m 13 #[.val (.ref a0), .val (.int p1), .val (.int (0 : Int32)), .val (.int (9 : Int32)), .val (.int (p1.toInt8.toInt32)), .val (.int (3 : Int32))] [])) _
          refine XS.aloadN X0.here hx rfl (hb hby d11_13) rfl rfl ?_
          show Steps p.tables e below (s₁.setTop (mkF m 14 #[.val (.ref a0), .val (.int p1), .val (.int (0 : Int32)), .val (.int (9 : Int32)), .val (.int (p1.toInt8.toInt32)), .val (.int (3 : Int32))] [(.ref a0)])) _
          refine XS.iload X0.here hx rfl (hb hby d11_14) rfl ?_
          exact k
        obtain ⟨cl_4, Ar_4, q_4, S_4, M_4, H_4, G_4⟩ := id V0
        have hin_4 : ¬ ((3 : Int32) < 0 ∨ cl_4.slots.size ≤ ((3 : Int32)).toNatClampNeg) := inb_of S_4 ⟨by decide, by decide⟩
        have hat_4 : cl_4.slots[((3 : Int32)).toNatClampNeg]? = some (.int (123 : Int32)) := H_4.at hin_4 rfl
        refine own_go (B := s₁.setTop (mkF m 17 #[.val (.ref a0), .val (.int p1), .val (.int (0 : Int32)), .val (.int (9 : Int32)), .val (.int (p1.toInt8.toInt32)), .val (.int (3 : Int32))] [(.int (123 : Int32))])) (fun t k => X0.baloadBytes hx (j := (3 : Int32)) (v := (.int (123 : Int32))) (by rw [(e0 : _ = _)]; exact Ar_4.1) (State.isArrayOf_alike hZ.alike Ar_4.2.1) Ar_4.2.2 hin_4 hat_4 (g := (mkF m 16 #[.val (.ref a0), .val (.int p1), .val (.int (0 : Int32)), .val (.int (9 : Int32)), .val (.int (p1.toInt8.toInt32)), .val (.int (3 : Int32))] [(.int (3 : Int32)), (.ref a0)])) rfl rfl (hb hby d11_16) t k) ?_
        refine own_go (B := s₁.setTop (mkF m 19 #[.val (.ref a0), .val (.int p1), .val (.int (0 : Int32)), .val (.int (9 : Int32)), .val (.int (p1.toInt8.toInt32)), .val (.int (3 : Int32))] [(.int (p1.toInt8.toInt32)), (.int (123 : Int32))])) (fun t k => ?_) ?_
        · show Steps p.tables e below (s₁.setTop (mkF m 17 #[.val (.ref a0), .val (.int p1), .val (.int (0 : Int32)), .val (.int (9 : Int32)), .val (.int (p1.toInt8.toInt32)), .val (.int (3 : Int32))] [(.int (123 : Int32))])) _
          refine XS.iload X0.here hx rfl (hb hby d11_17) rfl ?_
          exact k
        by_cases hc19_3 : (123 : Int32) = (p1.toInt8.toInt32)
        · refine own_go (B := s₁.setTop (mkF m 22 #[.val (.ref a0), .val (.int p1), .val (.int (0 : Int32)), .val (.int (9 : Int32)), .val (.int (p1.toInt8.toInt32)), .val (.int (3 : Int32))] [])) (fun t k => ?_) ?_
          · show Steps p.tables e below (s₁.setTop (mkF m 19 #[.val (.ref a0), .val (.int p1), .val (.int (0 : Int32)), .val (.int (9 : Int32)), .val (.int (p1.toInt8.toInt32)), .val (.int (3 : Int32))] [(.int (p1.toInt8.toInt32)), (.int (123 : Int32))])) _
            refine XS.icmpNo X0.here hx rfl (hb hby d11_19) rfl (teq hc19_3).2 ?_
            exact k
          refine own_go (B := s₁.setTop (mkF m 24 #[.val (.ref a0), .val (.int p1), .val (.int (0 : Int32)), .val (.int (9 : Int32)), .val (.int (p1.toInt8.toInt32)), .val (.int (3 : Int32))] [(.int (3 : Int32))])) (fun t k => ?_) ?_
          · show Steps p.tables e below (s₁.setTop (mkF m 22 #[.val (.ref a0), .val (.int p1), .val (.int (0 : Int32)), .val (.int (9 : Int32)), .val (.int (p1.toInt8.toInt32)), .val (.int (3 : Int32))] [])) _
            refine XS.iload X0.here hx rfl (hb hby d11_22) rfl ?_
            exact k
          obtain ⟨fs, hr, hrun, hended, hW, hsame⟩ := X0.leave (v := some (.int (3 : Int32))) (fun h => by rw [Bd.returns] at h; cases h)
          refine ⟨_, _, ?_, hrun, hended, _, _, rfl, ?_, ⟨_, rfl⟩, hW, hsame.mono (by decide) (by decide)⟩
          · show Steps p.tables e below (s₁.setTop (mkF m 24 #[.val (.ref a0), .val (.int p1), .val (.int (0 : Int32)), .val (.int (9 : Int32)), .val (.int (p1.toInt8.toInt32)), .val (.int (3 : Int32))] [(.int (3 : Int32))])) _
            exact retI X0 hx Bd.returns (hb hby d11_24) hr
          · show Q11 Z a0 p1 kk h0 n0 _ s₁.heap _
            rw [e0]
            exact ⟨by simp only [own_ioc, if_neg hc19, if_neg hc19_1, if_neg hc19_2, if_pos hc19_3], N0, rfl⟩
        · refine own_go (B := s₁.setTop (mkF m 25 #[.val (.ref a0), .val (.int p1), .val (.int (0 : Int32)), .val (.int (9 : Int32)), .val (.int (p1.toInt8.toInt32)), .val (.int (3 : Int32))] [])) (fun t k => ?_) ?_
          · show Steps p.tables e below (s₁.setTop (mkF m 19 #[.val (.ref a0), .val (.int p1), .val (.int (0 : Int32)), .val (.int (9 : Int32)), .val (.int (p1.toInt8.toInt32)), .val (.int (3 : Int32))] [(.int (p1.toInt8.toInt32)), (.int (123 : Int32))])) _
            refine XS.icmpYes X0.here hx rfl (pc0 := 19) (pc' := 25) rfl (hb hby d11_19) rfl (feq hc19_3).2 (by decide) (by decide) ?_
            exact k
          refine own_go (B := s₁.setTop (mkF m 10 #[.val (.ref a0), .val (.int p1), .val (.int (0 : Int32)), .val (.int (9 : Int32)), .val (.int (p1.toInt8.toInt32)), .val (.int (4 : Int32))] [(.int (9 : Int32)), (.int (4 : Int32))])) (fun t k => ?_) ?_
          · show Steps p.tables e below (s₁.setTop (mkF m 25 #[.val (.ref a0), .val (.int p1), .val (.int (0 : Int32)), .val (.int (9 : Int32)), .val (.int (p1.toInt8.toInt32)), .val (.int (3 : Int32))] [])) _
            refine XS.iinc X0.here hx rfl (hb hby d11_25) rfl (l' := #[.val (.ref a0), .val (.int p1), .val (.int (0 : Int32)), .val (.int (9 : Int32)), .val (.int (p1.toInt8.toInt32)), .val (.int (4 : Int32))]) rfl ?_
            show Steps p.tables e below (s₁.setTop (mkF m 28 #[.val (.ref a0), .val (.int p1), .val (.int (0 : Int32)), .val (.int (9 : Int32)), .val (.int (p1.toInt8.toInt32)), .val (.int (4 : Int32))] [])) _
            refine XS.goto X0.here hx rfl (pc0 := 28) (pc' := 7) rfl (hb hby d11_28) (by decide) (by decide) ?_
            show Steps p.tables e below (s₁.setTop (mkF m 7 #[.val (.ref a0), .val (.int p1), .val (.int (0 : Int32)), .val (.int (9 : Int32)), .val (.int (p1.toInt8.toInt32)), .val (.int (4 : Int32))] [])) _
            refine XS.iload X0.here hx rfl (hb hby d11_7) rfl ?_
            show Steps p.tables e below (s₁.setTop (mkF m 9 #[.val (.ref a0), .val (.int p1), .val (.int (0 : Int32)), .val (.int (9 : Int32)), .val (.int (p1.toInt8.toInt32)), .val (.int (4 : Int32))] [(.int (4 : Int32))])) _
            refine XS.iloadN X0.here hx rfl (hb hby d11_9) rfl ?_
            exact k
          refine own_go (B := s₁.setTop (mkF m 13 #[.val (.ref a0), .val (.int p1), .val (.int (0 : Int32)), .val (.int (9 : Int32)), .val (.int (p1.toInt8.toInt32)), .val (.int (4 : Int32))] [])) (fun t k => ?_) ?_
          · show Steps p.tables e below (s₁.setTop (mkF m 10 #[.val (.ref a0), .val (.int p1), .val (.int (0 : Int32)), .val (.int (9 : Int32)), .val (.int (p1.toInt8.toInt32)), .val (.int (4 : Int32))] [(.int (9 : Int32)), (.int (4 : Int32))])) _
            refine XS.icmpNo X0.here hx rfl (hb hby d11_10) rfl (tlt (by decide : (4 : Int32) < (9 : Int32))).2.1 ?_
            exact k
          refine own_go (B := s₁.setTop (mkF m 16 #[.val (.ref a0), .val (.int p1), .val (.int (0 : Int32)), .val (.int (9 : Int32)), .val (.int (p1.toInt8.toInt32)), .val (.int (4 : Int32))] [(.int (4 : Int32)), (.ref a0)])) (fun t k => ?_) ?_
          · show Steps p.tables e below (s₁.setTop (mkF m 13 #[.val (.ref a0), .val (.int p1), .val (.int (0 : Int32)), .val (.int (9 : Int32)), .val (.int (p1.toInt8.toInt32)), .val (.int (4 : Int32))] [])) _
            refine XS.aloadN X0.here hx rfl (hb hby d11_13) rfl rfl ?_
            show Steps p.tables e below (s₁.setTop (mkF m 14 #[.val (.ref a0), .val (.int p1), .val (.int (0 : Int32)), .val (.int (9 : Int32)), .val (.int (p1.toInt8.toInt32)), .val (.int (4 : Int32))] [(.ref a0)])) _
            refine XS.iload X0.here hx rfl (hb hby d11_14) rfl ?_
            exact k
          obtain ⟨cl_5, Ar_5, q_5, S_5, M_5, H_5, G_5⟩ := id V0
          have hin_5 : ¬ ((4 : Int32) < 0 ∨ cl_5.slots.size ≤ ((4 : Int32)).toNatClampNeg) := inb_of S_5 ⟨by decide, by decide⟩
          have hat_5 : cl_5.slots[((4 : Int32)).toNatClampNeg]? = some (.int (125 : Int32)) := H_5.at hin_5 rfl
          refine own_go (B := s₁.setTop (mkF m 17 #[.val (.ref a0), .val (.int p1), .val (.int (0 : Int32)), .val (.int (9 : Int32)), .val (.int (p1.toInt8.toInt32)), .val (.int (4 : Int32))] [(.int (125 : Int32))])) (fun t k => X0.baloadBytes hx (j := (4 : Int32)) (v := (.int (125 : Int32))) (by rw [(e0 : _ = _)]; exact Ar_5.1) (State.isArrayOf_alike hZ.alike Ar_5.2.1) Ar_5.2.2 hin_5 hat_5 (g := (mkF m 16 #[.val (.ref a0), .val (.int p1), .val (.int (0 : Int32)), .val (.int (9 : Int32)), .val (.int (p1.toInt8.toInt32)), .val (.int (4 : Int32))] [(.int (4 : Int32)), (.ref a0)])) rfl rfl (hb hby d11_16) t k) ?_
          refine own_go (B := s₁.setTop (mkF m 19 #[.val (.ref a0), .val (.int p1), .val (.int (0 : Int32)), .val (.int (9 : Int32)), .val (.int (p1.toInt8.toInt32)), .val (.int (4 : Int32))] [(.int (p1.toInt8.toInt32)), (.int (125 : Int32))])) (fun t k => ?_) ?_
          · show Steps p.tables e below (s₁.setTop (mkF m 17 #[.val (.ref a0), .val (.int p1), .val (.int (0 : Int32)), .val (.int (9 : Int32)), .val (.int (p1.toInt8.toInt32)), .val (.int (4 : Int32))] [(.int (125 : Int32))])) _
            refine XS.iload X0.here hx rfl (hb hby d11_17) rfl ?_
            exact k
          by_cases hc19_4 : (125 : Int32) = (p1.toInt8.toInt32)
          · refine own_go (B := s₁.setTop (mkF m 22 #[.val (.ref a0), .val (.int p1), .val (.int (0 : Int32)), .val (.int (9 : Int32)), .val (.int (p1.toInt8.toInt32)), .val (.int (4 : Int32))] [])) (fun t k => ?_) ?_
            · show Steps p.tables e below (s₁.setTop (mkF m 19 #[.val (.ref a0), .val (.int p1), .val (.int (0 : Int32)), .val (.int (9 : Int32)), .val (.int (p1.toInt8.toInt32)), .val (.int (4 : Int32))] [(.int (p1.toInt8.toInt32)), (.int (125 : Int32))])) _
              refine XS.icmpNo X0.here hx rfl (hb hby d11_19) rfl (teq hc19_4).2 ?_
              exact k
            refine own_go (B := s₁.setTop (mkF m 24 #[.val (.ref a0), .val (.int p1), .val (.int (0 : Int32)), .val (.int (9 : Int32)), .val (.int (p1.toInt8.toInt32)), .val (.int (4 : Int32))] [(.int (4 : Int32))])) (fun t k => ?_) ?_
            · show Steps p.tables e below (s₁.setTop (mkF m 22 #[.val (.ref a0), .val (.int p1), .val (.int (0 : Int32)), .val (.int (9 : Int32)), .val (.int (p1.toInt8.toInt32)), .val (.int (4 : Int32))] [])) _
              refine XS.iload X0.here hx rfl (hb hby d11_22) rfl ?_
              exact k
            obtain ⟨fs, hr, hrun, hended, hW, hsame⟩ := X0.leave (v := some (.int (4 : Int32))) (fun h => by rw [Bd.returns] at h; cases h)
            refine ⟨_, _, ?_, hrun, hended, _, _, rfl, ?_, ⟨_, rfl⟩, hW, hsame.mono (by decide) (by decide)⟩
            · show Steps p.tables e below (s₁.setTop (mkF m 24 #[.val (.ref a0), .val (.int p1), .val (.int (0 : Int32)), .val (.int (9 : Int32)), .val (.int (p1.toInt8.toInt32)), .val (.int (4 : Int32))] [(.int (4 : Int32))])) _
              exact retI X0 hx Bd.returns (hb hby d11_24) hr
            · show Q11 Z a0 p1 kk h0 n0 _ s₁.heap _
              rw [e0]
              exact ⟨by simp only [own_ioc, if_neg hc19, if_neg hc19_1, if_neg hc19_2, if_neg hc19_3, if_pos hc19_4], N0, rfl⟩
          · refine own_go (B := s₁.setTop (mkF m 25 #[.val (.ref a0), .val (.int p1), .val (.int (0 : Int32)), .val (.int (9 : Int32)), .val (.int (p1.toInt8.toInt32)), .val (.int (4 : Int32))] [])) (fun t k => ?_) ?_
            · show Steps p.tables e below (s₁.setTop (mkF m 19 #[.val (.ref a0), .val (.int p1), .val (.int (0 : Int32)), .val (.int (9 : Int32)), .val (.int (p1.toInt8.toInt32)), .val (.int (4 : Int32))] [(.int (p1.toInt8.toInt32)), (.int (125 : Int32))])) _
              refine XS.icmpYes X0.here hx rfl (pc0 := 19) (pc' := 25) rfl (hb hby d11_19) rfl (feq hc19_4).2 (by decide) (by decide) ?_
              exact k
            refine own_go (B := s₁.setTop (mkF m 10 #[.val (.ref a0), .val (.int p1), .val (.int (0 : Int32)), .val (.int (9 : Int32)), .val (.int (p1.toInt8.toInt32)), .val (.int (5 : Int32))] [(.int (9 : Int32)), (.int (5 : Int32))])) (fun t k => ?_) ?_
            · show Steps p.tables e below (s₁.setTop (mkF m 25 #[.val (.ref a0), .val (.int p1), .val (.int (0 : Int32)), .val (.int (9 : Int32)), .val (.int (p1.toInt8.toInt32)), .val (.int (4 : Int32))] [])) _
              refine XS.iinc X0.here hx rfl (hb hby d11_25) rfl (l' := #[.val (.ref a0), .val (.int p1), .val (.int (0 : Int32)), .val (.int (9 : Int32)), .val (.int (p1.toInt8.toInt32)), .val (.int (5 : Int32))]) rfl ?_
              show Steps p.tables e below (s₁.setTop (mkF m 28 #[.val (.ref a0), .val (.int p1), .val (.int (0 : Int32)), .val (.int (9 : Int32)), .val (.int (p1.toInt8.toInt32)), .val (.int (5 : Int32))] [])) _
              refine XS.goto X0.here hx rfl (pc0 := 28) (pc' := 7) rfl (hb hby d11_28) (by decide) (by decide) ?_
              show Steps p.tables e below (s₁.setTop (mkF m 7 #[.val (.ref a0), .val (.int p1), .val (.int (0 : Int32)), .val (.int (9 : Int32)), .val (.int (p1.toInt8.toInt32)), .val (.int (5 : Int32))] [])) _
              refine XS.iload X0.here hx rfl (hb hby d11_7) rfl ?_
              show Steps p.tables e below (s₁.setTop (mkF m 9 #[.val (.ref a0), .val (.int p1), .val (.int (0 : Int32)), .val (.int (9 : Int32)), .val (.int (p1.toInt8.toInt32)), .val (.int (5 : Int32))] [(.int (5 : Int32))])) _
              refine XS.iloadN X0.here hx rfl (hb hby d11_9) rfl ?_
              exact k
            refine own_go (B := s₁.setTop (mkF m 13 #[.val (.ref a0), .val (.int p1), .val (.int (0 : Int32)), .val (.int (9 : Int32)), .val (.int (p1.toInt8.toInt32)), .val (.int (5 : Int32))] [])) (fun t k => ?_) ?_
            · show Steps p.tables e below (s₁.setTop (mkF m 10 #[.val (.ref a0), .val (.int p1), .val (.int (0 : Int32)), .val (.int (9 : Int32)), .val (.int (p1.toInt8.toInt32)), .val (.int (5 : Int32))] [(.int (9 : Int32)), (.int (5 : Int32))])) _
              refine XS.icmpNo X0.here hx rfl (hb hby d11_10) rfl (tlt (by decide : (5 : Int32) < (9 : Int32))).2.1 ?_
              exact k
            refine own_go (B := s₁.setTop (mkF m 16 #[.val (.ref a0), .val (.int p1), .val (.int (0 : Int32)), .val (.int (9 : Int32)), .val (.int (p1.toInt8.toInt32)), .val (.int (5 : Int32))] [(.int (5 : Int32)), (.ref a0)])) (fun t k => ?_) ?_
            · show Steps p.tables e below (s₁.setTop (mkF m 13 #[.val (.ref a0), .val (.int p1), .val (.int (0 : Int32)), .val (.int (9 : Int32)), .val (.int (p1.toInt8.toInt32)), .val (.int (5 : Int32))] [])) _
              refine XS.aloadN X0.here hx rfl (hb hby d11_13) rfl rfl ?_
              show Steps p.tables e below (s₁.setTop (mkF m 14 #[.val (.ref a0), .val (.int p1), .val (.int (0 : Int32)), .val (.int (9 : Int32)), .val (.int (p1.toInt8.toInt32)), .val (.int (5 : Int32))] [(.ref a0)])) _
              refine XS.iload X0.here hx rfl (hb hby d11_14) rfl ?_
              exact k
            obtain ⟨cl_6, Ar_6, q_6, S_6, M_6, H_6, G_6⟩ := id V0
            have hin_6 : ¬ ((5 : Int32) < 0 ∨ cl_6.slots.size ≤ ((5 : Int32)).toNatClampNeg) := inb_of S_6 ⟨by decide, by decide⟩
            have hat_6 : cl_6.slots[((5 : Int32)).toNatClampNeg]? = some (.int (124 : Int32)) := H_6.at hin_6 rfl
            refine own_go (B := s₁.setTop (mkF m 17 #[.val (.ref a0), .val (.int p1), .val (.int (0 : Int32)), .val (.int (9 : Int32)), .val (.int (p1.toInt8.toInt32)), .val (.int (5 : Int32))] [(.int (124 : Int32))])) (fun t k => X0.baloadBytes hx (j := (5 : Int32)) (v := (.int (124 : Int32))) (by rw [(e0 : _ = _)]; exact Ar_6.1) (State.isArrayOf_alike hZ.alike Ar_6.2.1) Ar_6.2.2 hin_6 hat_6 (g := (mkF m 16 #[.val (.ref a0), .val (.int p1), .val (.int (0 : Int32)), .val (.int (9 : Int32)), .val (.int (p1.toInt8.toInt32)), .val (.int (5 : Int32))] [(.int (5 : Int32)), (.ref a0)])) rfl rfl (hb hby d11_16) t k) ?_
            refine own_go (B := s₁.setTop (mkF m 19 #[.val (.ref a0), .val (.int p1), .val (.int (0 : Int32)), .val (.int (9 : Int32)), .val (.int (p1.toInt8.toInt32)), .val (.int (5 : Int32))] [(.int (p1.toInt8.toInt32)), (.int (124 : Int32))])) (fun t k => ?_) ?_
            · show Steps p.tables e below (s₁.setTop (mkF m 17 #[.val (.ref a0), .val (.int p1), .val (.int (0 : Int32)), .val (.int (9 : Int32)), .val (.int (p1.toInt8.toInt32)), .val (.int (5 : Int32))] [(.int (124 : Int32))])) _
              refine XS.iload X0.here hx rfl (hb hby d11_17) rfl ?_
              exact k
            by_cases hc19_5 : (124 : Int32) = (p1.toInt8.toInt32)
            · refine own_go (B := s₁.setTop (mkF m 22 #[.val (.ref a0), .val (.int p1), .val (.int (0 : Int32)), .val (.int (9 : Int32)), .val (.int (p1.toInt8.toInt32)), .val (.int (5 : Int32))] [])) (fun t k => ?_) ?_
              · show Steps p.tables e below (s₁.setTop (mkF m 19 #[.val (.ref a0), .val (.int p1), .val (.int (0 : Int32)), .val (.int (9 : Int32)), .val (.int (p1.toInt8.toInt32)), .val (.int (5 : Int32))] [(.int (p1.toInt8.toInt32)), (.int (124 : Int32))])) _
                refine XS.icmpNo X0.here hx rfl (hb hby d11_19) rfl (teq hc19_5).2 ?_
                exact k
              refine own_go (B := s₁.setTop (mkF m 24 #[.val (.ref a0), .val (.int p1), .val (.int (0 : Int32)), .val (.int (9 : Int32)), .val (.int (p1.toInt8.toInt32)), .val (.int (5 : Int32))] [(.int (5 : Int32))])) (fun t k => ?_) ?_
              · show Steps p.tables e below (s₁.setTop (mkF m 22 #[.val (.ref a0), .val (.int p1), .val (.int (0 : Int32)), .val (.int (9 : Int32)), .val (.int (p1.toInt8.toInt32)), .val (.int (5 : Int32))] [])) _
                refine XS.iload X0.here hx rfl (hb hby d11_22) rfl ?_
                exact k
              obtain ⟨fs, hr, hrun, hended, hW, hsame⟩ := X0.leave (v := some (.int (5 : Int32))) (fun h => by rw [Bd.returns] at h; cases h)
              refine ⟨_, _, ?_, hrun, hended, _, _, rfl, ?_, ⟨_, rfl⟩, hW, hsame.mono (by decide) (by decide)⟩
              · show Steps p.tables e below (s₁.setTop (mkF m 24 #[.val (.ref a0), .val (.int p1), .val (.int (0 : Int32)), .val (.int (9 : Int32)), .val (.int (p1.toInt8.toInt32)), .val (.int (5 : Int32))] [(.int (5 : Int32))])) _
                exact retI X0 hx Bd.returns (hb hby d11_24) hr
              · show Q11 Z a0 p1 kk h0 n0 _ s₁.heap _
                rw [e0]
                exact ⟨by simp only [own_ioc, if_neg hc19, if_neg hc19_1, if_neg hc19_2, if_neg hc19_3, if_neg hc19_4, if_pos hc19_5], N0, rfl⟩
            · refine own_go (B := s₁.setTop (mkF m 25 #[.val (.ref a0), .val (.int p1), .val (.int (0 : Int32)), .val (.int (9 : Int32)), .val (.int (p1.toInt8.toInt32)), .val (.int (5 : Int32))] [])) (fun t k => ?_) ?_
              · show Steps p.tables e below (s₁.setTop (mkF m 19 #[.val (.ref a0), .val (.int p1), .val (.int (0 : Int32)), .val (.int (9 : Int32)), .val (.int (p1.toInt8.toInt32)), .val (.int (5 : Int32))] [(.int (p1.toInt8.toInt32)), (.int (124 : Int32))])) _
                refine XS.icmpYes X0.here hx rfl (pc0 := 19) (pc' := 25) rfl (hb hby d11_19) rfl (feq hc19_5).2 (by decide) (by decide) ?_
                exact k
              refine own_go (B := s₁.setTop (mkF m 10 #[.val (.ref a0), .val (.int p1), .val (.int (0 : Int32)), .val (.int (9 : Int32)), .val (.int (p1.toInt8.toInt32)), .val (.int (6 : Int32))] [(.int (9 : Int32)), (.int (6 : Int32))])) (fun t k => ?_) ?_
              · show Steps p.tables e below (s₁.setTop (mkF m 25 #[.val (.ref a0), .val (.int p1), .val (.int (0 : Int32)), .val (.int (9 : Int32)), .val (.int (p1.toInt8.toInt32)), .val (.int (5 : Int32))] [])) _
                refine XS.iinc X0.here hx rfl (hb hby d11_25) rfl (l' := #[.val (.ref a0), .val (.int p1), .val (.int (0 : Int32)), .val (.int (9 : Int32)), .val (.int (p1.toInt8.toInt32)), .val (.int (6 : Int32))]) rfl ?_
                show Steps p.tables e below (s₁.setTop (mkF m 28 #[.val (.ref a0), .val (.int p1), .val (.int (0 : Int32)), .val (.int (9 : Int32)), .val (.int (p1.toInt8.toInt32)), .val (.int (6 : Int32))] [])) _
                refine XS.goto X0.here hx rfl (pc0 := 28) (pc' := 7) rfl (hb hby d11_28) (by decide) (by decide) ?_
                show Steps p.tables e below (s₁.setTop (mkF m 7 #[.val (.ref a0), .val (.int p1), .val (.int (0 : Int32)), .val (.int (9 : Int32)), .val (.int (p1.toInt8.toInt32)), .val (.int (6 : Int32))] [])) _
                refine XS.iload X0.here hx rfl (hb hby d11_7) rfl ?_
                show Steps p.tables e below (s₁.setTop (mkF m 9 #[.val (.ref a0), .val (.int p1), .val (.int (0 : Int32)), .val (.int (9 : Int32)), .val (.int (p1.toInt8.toInt32)), .val (.int (6 : Int32))] [(.int (6 : Int32))])) _
                refine XS.iloadN X0.here hx rfl (hb hby d11_9) rfl ?_
                exact k
              refine own_go (B := s₁.setTop (mkF m 13 #[.val (.ref a0), .val (.int p1), .val (.int (0 : Int32)), .val (.int (9 : Int32)), .val (.int (p1.toInt8.toInt32)), .val (.int (6 : Int32))] [])) (fun t k => ?_) ?_
              · show Steps p.tables e below (s₁.setTop (mkF m 10 #[.val (.ref a0), .val (.int p1), .val (.int (0 : Int32)), .val (.int (9 : Int32)), .val (.int (p1.toInt8.toInt32)), .val (.int (6 : Int32))] [(.int (9 : Int32)), (.int (6 : Int32))])) _
                refine XS.icmpNo X0.here hx rfl (hb hby d11_10) rfl (tlt (by decide : (6 : Int32) < (9 : Int32))).2.1 ?_
                exact k
              refine own_go (B := s₁.setTop (mkF m 16 #[.val (.ref a0), .val (.int p1), .val (.int (0 : Int32)), .val (.int (9 : Int32)), .val (.int (p1.toInt8.toInt32)), .val (.int (6 : Int32))] [(.int (6 : Int32)), (.ref a0)])) (fun t k => ?_) ?_
              · show Steps p.tables e below (s₁.setTop (mkF m 13 #[.val (.ref a0), .val (.int p1), .val (.int (0 : Int32)), .val (.int (9 : Int32)), .val (.int (p1.toInt8.toInt32)), .val (.int (6 : Int32))] [])) _
                refine XS.aloadN X0.here hx rfl (hb hby d11_13) rfl rfl ?_
                show Steps p.tables e below (s₁.setTop (mkF m 14 #[.val (.ref a0), .val (.int p1), .val (.int (0 : Int32)), .val (.int (9 : Int32)), .val (.int (p1.toInt8.toInt32)), .val (.int (6 : Int32))] [(.ref a0)])) _
                refine XS.iload X0.here hx rfl (hb hby d11_14) rfl ?_
                exact k
              obtain ⟨cl_7, Ar_7, q_7, S_7, M_7, H_7, G_7⟩ := id V0
              have hin_7 : ¬ ((6 : Int32) < 0 ∨ cl_7.slots.size ≤ ((6 : Int32)).toNatClampNeg) := inb_of S_7 ⟨by decide, by decide⟩
              have hat_7 : cl_7.slots[((6 : Int32)).toNatClampNeg]? = some (.int (94 : Int32)) := H_7.at hin_7 rfl
              refine own_go (B := s₁.setTop (mkF m 17 #[.val (.ref a0), .val (.int p1), .val (.int (0 : Int32)), .val (.int (9 : Int32)), .val (.int (p1.toInt8.toInt32)), .val (.int (6 : Int32))] [(.int (94 : Int32))])) (fun t k => X0.baloadBytes hx (j := (6 : Int32)) (v := (.int (94 : Int32))) (by rw [(e0 : _ = _)]; exact Ar_7.1) (State.isArrayOf_alike hZ.alike Ar_7.2.1) Ar_7.2.2 hin_7 hat_7 (g := (mkF m 16 #[.val (.ref a0), .val (.int p1), .val (.int (0 : Int32)), .val (.int (9 : Int32)), .val (.int (p1.toInt8.toInt32)), .val (.int (6 : Int32))] [(.int (6 : Int32)), (.ref a0)])) rfl rfl (hb hby d11_16) t k) ?_
              refine own_go (B := s₁.setTop (mkF m 19 #[.val (.ref a0), .val (.int p1), .val (.int (0 : Int32)), .val (.int (9 : Int32)), .val (.int (p1.toInt8.toInt32)), .val (.int (6 : Int32))] [(.int (p1.toInt8.toInt32)), (.int (94 : Int32))])) (fun t k => ?_) ?_
              · show Steps p.tables e below (s₁.setTop (mkF m 17 #[.val (.ref a0), .val (.int p1), .val (.int (0 : Int32)), .val (.int (9 : Int32)), .val (.int (p1.toInt8.toInt32)), .val (.int (6 : Int32))] [(.int (94 : Int32))])) _
                refine XS.iload X0.here hx rfl (hb hby d11_17) rfl ?_
                exact k
              by_cases hc19_6 : (94 : Int32) = (p1.toInt8.toInt32)
              · refine own_go (B := s₁.setTop (mkF m 22 #[.val (.ref a0), .val (.int p1), .val (.int (0 : Int32)), .val (.int (9 : Int32)), .val (.int (p1.toInt8.toInt32)), .val (.int (6 : Int32))] [])) (fun t k => ?_) ?_
                · show Steps p.tables e below (s₁.setTop (mkF m 19 #[.val (.ref a0), .val (.int p1), .val (.int (0 : Int32)), .val (.int (9 : Int32)), .val (.int (p1.toInt8.toInt32)), .val (.int (6 : Int32))] [(.int (p1.toInt8.toInt32)), (.int (94 : Int32))])) _
                  refine XS.icmpNo X0.here hx rfl (hb hby d11_19) rfl (teq hc19_6).2 ?_
                  exact k
                refine own_go (B := s₁.setTop (mkF m 24 #[.val (.ref a0), .val (.int p1), .val (.int (0 : Int32)), .val (.int (9 : Int32)), .val (.int (p1.toInt8.toInt32)), .val (.int (6 : Int32))] [(.int (6 : Int32))])) (fun t k => ?_) ?_
                · show Steps p.tables e below (s₁.setTop (mkF m 22 #[.val (.ref a0), .val (.int p1), .val (.int (0 : Int32)), .val (.int (9 : Int32)), .val (.int (p1.toInt8.toInt32)), .val (.int (6 : Int32))] [])) _
                  refine XS.iload X0.here hx rfl (hb hby d11_22) rfl ?_
                  exact k
                obtain ⟨fs, hr, hrun, hended, hW, hsame⟩ := X0.leave (v := some (.int (6 : Int32))) (fun h => by rw [Bd.returns] at h; cases h)
                refine ⟨_, _, ?_, hrun, hended, _, _, rfl, ?_, ⟨_, rfl⟩, hW, hsame.mono (by decide) (by decide)⟩
                · show Steps p.tables e below (s₁.setTop (mkF m 24 #[.val (.ref a0), .val (.int p1), .val (.int (0 : Int32)), .val (.int (9 : Int32)), .val (.int (p1.toInt8.toInt32)), .val (.int (6 : Int32))] [(.int (6 : Int32))])) _
                  exact retI X0 hx Bd.returns (hb hby d11_24) hr
                · show Q11 Z a0 p1 kk h0 n0 _ s₁.heap _
                  rw [e0]
                  exact ⟨by simp only [own_ioc, if_neg hc19, if_neg hc19_1, if_neg hc19_2, if_neg hc19_3, if_neg hc19_4, if_neg hc19_5, if_pos hc19_6], N0, rfl⟩
              · refine own_go (B := s₁.setTop (mkF m 25 #[.val (.ref a0), .val (.int p1), .val (.int (0 : Int32)), .val (.int (9 : Int32)), .val (.int (p1.toInt8.toInt32)), .val (.int (6 : Int32))] [])) (fun t k => ?_) ?_
                · show Steps p.tables e below (s₁.setTop (mkF m 19 #[.val (.ref a0), .val (.int p1), .val (.int (0 : Int32)), .val (.int (9 : Int32)), .val (.int (p1.toInt8.toInt32)), .val (.int (6 : Int32))] [(.int (p1.toInt8.toInt32)), (.int (94 : Int32))])) _
                  refine XS.icmpYes X0.here hx rfl (pc0 := 19) (pc' := 25) rfl (hb hby d11_19) rfl (feq hc19_6).2 (by decide) (by decide) ?_
                  exact k
                refine own_go (B := s₁.setTop (mkF m 10 #[.val (.ref a0), .val (.int p1), .val (.int (0 : Int32)), .val (.int (9 : Int32)), .val (.int (p1.toInt8.toInt32)), .val (.int (7 : Int32))] [(.int (9 : Int32)), (.int (7 : Int32))])) (fun t k => ?_) ?_
                · show Steps p.tables e below (s₁.setTop (mkF m 25 #[.val (.ref a0), .val (.int p1), .val (.int (0 : Int32)), .val (.int (9 : Int32)), .val (.int (p1.toInt8.toInt32)), .val (.int (6 : Int32))] [])) _
                  refine XS.iinc X0.here hx rfl (hb hby d11_25) rfl (l' := #[.val (.ref a0), .val (.int p1), .val (.int (0 : Int32)), .val (.int (9 : Int32)), .val (.int (p1.toInt8.toInt32)), .val (.int (7 : Int32))]) rfl ?_
                  show Steps p.tables e below (s₁.setTop (mkF m 28 #[.val (.ref a0), .val (.int p1), .val (.int (0 : Int32)), .val (.int (9 : Int32)), .val (.int (p1.toInt8.toInt32)), .val (.int (7 : Int32))] [])) _
                  refine XS.goto X0.here hx rfl (pc0 := 28) (pc' := 7) rfl (hb hby d11_28) (by decide) (by decide) ?_
                  show Steps p.tables e below (s₁.setTop (mkF m 7 #[.val (.ref a0), .val (.int p1), .val (.int (0 : Int32)), .val (.int (9 : Int32)), .val (.int (p1.toInt8.toInt32)), .val (.int (7 : Int32))] [])) _
                  refine XS.iload X0.here hx rfl (hb hby d11_7) rfl ?_
                  show Steps p.tables e below (s₁.setTop (mkF m 9 #[.val (.ref a0), .val (.int p1), .val (.int (0 : Int32)), .val (.int (9 : Int32)), .val (.int (p1.toInt8.toInt32)), .val (.int (7 : Int32))] [(.int (7 : Int32))])) _
                  refine XS.iloadN X0.here hx rfl (hb hby d11_9) rfl ?_
                  exact k
                refine own_go (B := s₁.setTop (mkF m 13 #[.val (.ref a0), .val (.int p1), .val (.int (0 : Int32)), .val (.int (9 : Int32)), .val (.int (p1.toInt8.toInt32)), .val (.int (7 : Int32))] [])) (fun t k => ?_) ?_
                · show Steps p.tables e below (s₁.setTop (mkF m 10 #[.val (.ref a0), .val (.int p1), .val (.int (0 : Int32)), .val (.int (9 : Int32)), .val (.int (p1.toInt8.toInt32)), .val (.int (7 : Int32))] [(.int (9 : Int32)), (.int (7 : Int32))])) _
                  refine XS.icmpNo X0.here hx rfl (hb hby d11_10) rfl (tlt (by decide : (7 : Int32) < (9 : Int32))).2.1 ?_
                  exact k
                refine own_go (B := s₁.setTop (mkF m 16 #[.val (.ref a0), .val (.int p1), .val (.int (0 : Int32)), .val (.int (9 : Int32)), .val (.int (p1.toInt8.toInt32)), .val (.int (7 : Int32))] [(.int (7 : Int32)), (.ref a0)])) (fun t k => ?_) ?_
                · show Steps p.tables e below (s₁.setTop (mkF m 13 #[.val (.ref a0), .val (.int p1), .val (.int (0 : Int32)), .val (.int (9 : Int32)), .val (.int (p1.toInt8.toInt32)), .val (.int (7 : Int32))] [])) _
                  refine XS.aloadN X0.here hx rfl (hb hby d11_13) rfl rfl ?_
                  show Steps p.tables e below (s₁.setTop (mkF m 14 #[.val (.ref a0), .val (.int p1), .val (.int (0 : Int32)), .val (.int (9 : Int32)), .val (.int (p1.toInt8.toInt32)), .val (.int (7 : Int32))] [(.ref a0)])) _
                  refine XS.iload X0.here hx rfl (hb hby d11_14) rfl ?_
                  exact k
                obtain ⟨cl_8, Ar_8, q_8, S_8, M_8, H_8, G_8⟩ := id V0
                have hin_8 : ¬ ((7 : Int32) < 0 ∨ cl_8.slots.size ≤ ((7 : Int32)).toNatClampNeg) := inb_of S_8 ⟨by decide, by decide⟩
                have hat_8 : cl_8.slots[((7 : Int32)).toNatClampNeg]? = some (.int (96 : Int32)) := H_8.at hin_8 rfl
                refine own_go (B := s₁.setTop (mkF m 17 #[.val (.ref a0), .val (.int p1), .val (.int (0 : Int32)), .val (.int (9 : Int32)), .val (.int (p1.toInt8.toInt32)), .val (.int (7 : Int32))] [(.int (96 : Int32))])) (fun t k => X0.baloadBytes hx (j := (7 : Int32)) (v := (.int (96 : Int32))) (by rw [(e0 : _ = _)]; exact Ar_8.1) (State.isArrayOf_alike hZ.alike Ar_8.2.1) Ar_8.2.2 hin_8 hat_8 (g := (mkF m 16 #[.val (.ref a0), .val (.int p1), .val (.int (0 : Int32)), .val (.int (9 : Int32)), .val (.int (p1.toInt8.toInt32)), .val (.int (7 : Int32))] [(.int (7 : Int32)), (.ref a0)])) rfl rfl (hb hby d11_16) t k) ?_
                refine own_go (B := s₁.setTop (mkF m 19 #[.val (.ref a0), .val (.int p1), .val (.int (0 : Int32)), .val (.int (9 : Int32)), .val (.int (p1.toInt8.toInt32)), .val (.int (7 : Int32))] [(.int (p1.toInt8.toInt32)), (.int (96 : Int32))])) (fun t k => ?_) ?_
                · show Steps p.tables e below (s₁.setTop (mkF m 17 #[.val (.ref a0), .val (.int p1), .val (.int (0 : Int32)), .val (.int (9 : Int32)), .val (.int (p1.toInt8.toInt32)), .val (.int (7 : Int32))] [(.int (96 : Int32))])) _
                  refine XS.iload X0.here hx rfl (hb hby d11_17) rfl ?_
                  exact k
                by_cases hc19_7 : (96 : Int32) = (p1.toInt8.toInt32)
                · refine own_go (B := s₁.setTop (mkF m 22 #[.val (.ref a0), .val (.int p1), .val (.int (0 : Int32)), .val (.int (9 : Int32)), .val (.int (p1.toInt8.toInt32)), .val (.int (7 : Int32))] [])) (fun t k => ?_) ?_
                  · show Steps p.tables e below (s₁.setTop (mkF m 19 #[.val (.ref a0), .val (.int p1), .val (.int (0 : Int32)), .val (.int (9 : Int32)), .val (.int (p1.toInt8.toInt32)), .val (.int (7 : Int32))] [(.int (p1.toInt8.toInt32)), (.int (96 : Int32))])) _
                    refine XS.icmpNo X0.here hx rfl (hb hby d11_19) rfl (teq hc19_7).2 ?_
                    exact k
                  refine own_go (B := s₁.setTop (mkF m 24 #[.val (.ref a0), .val (.int p1), .val (.int (0 : Int32)), .val (.int (9 : Int32)), .val (.int (p1.toInt8.toInt32)), .val (.int (7 : Int32))] [(.int (7 : Int32))])) (fun t k => ?_) ?_
                  · show Steps p.tables e below (s₁.setTop (mkF m 22 #[.val (.ref a0), .val (.int p1), .val (.int (0 : Int32)), .val (.int (9 : Int32)), .val (.int (p1.toInt8.toInt32)), .val (.int (7 : Int32))] [])) _
                    refine XS.iload X0.here hx rfl (hb hby d11_22) rfl ?_
                    exact k
                  obtain ⟨fs, hr, hrun, hended, hW, hsame⟩ := X0.leave (v := some (.int (7 : Int32))) (fun h => by rw [Bd.returns] at h; cases h)
                  refine ⟨_, _, ?_, hrun, hended, _, _, rfl, ?_, ⟨_, rfl⟩, hW, hsame.mono (by decide) (by decide)⟩
                  · show Steps p.tables e below (s₁.setTop (mkF m 24 #[.val (.ref a0), .val (.int p1), .val (.int (0 : Int32)), .val (.int (9 : Int32)), .val (.int (p1.toInt8.toInt32)), .val (.int (7 : Int32))] [(.int (7 : Int32))])) _
                    exact retI X0 hx Bd.returns (hb hby d11_24) hr
                  · show Q11 Z a0 p1 kk h0 n0 _ s₁.heap _
                    rw [e0]
                    exact ⟨by simp only [own_ioc, if_neg hc19, if_neg hc19_1, if_neg hc19_2, if_neg hc19_3, if_neg hc19_4, if_neg hc19_5, if_neg hc19_6, if_pos hc19_7], N0, rfl⟩
                · refine own_go (B := s₁.setTop (mkF m 25 #[.val (.ref a0), .val (.int p1), .val (.int (0 : Int32)), .val (.int (9 : Int32)), .val (.int (p1.toInt8.toInt32)), .val (.int (7 : Int32))] [])) (fun t k => ?_) ?_
                  · show Steps p.tables e below (s₁.setTop (mkF m 19 #[.val (.ref a0), .val (.int p1), .val (.int (0 : Int32)), .val (.int (9 : Int32)), .val (.int (p1.toInt8.toInt32)), .val (.int (7 : Int32))] [(.int (p1.toInt8.toInt32)), (.int (96 : Int32))])) _
                    refine XS.icmpYes X0.here hx rfl (pc0 := 19) (pc' := 25) rfl (hb hby d11_19) rfl (feq hc19_7).2 (by decide) (by decide) ?_
                    exact k
                  refine own_go (B := s₁.setTop (mkF m 10 #[.val (.ref a0), .val (.int p1), .val (.int (0 : Int32)), .val (.int (9 : Int32)), .val (.int (p1.toInt8.toInt32)), .val (.int (8 : Int32))] [(.int (9 : Int32)), (.int (8 : Int32))])) (fun t k => ?_) ?_
                  · show Steps p.tables e below (s₁.setTop (mkF m 25 #[.val (.ref a0), .val (.int p1), .val (.int (0 : Int32)), .val (.int (9 : Int32)), .val (.int (p1.toInt8.toInt32)), .val (.int (7 : Int32))] [])) _
                    refine XS.iinc X0.here hx rfl (hb hby d11_25) rfl (l' := #[.val (.ref a0), .val (.int p1), .val (.int (0 : Int32)), .val (.int (9 : Int32)), .val (.int (p1.toInt8.toInt32)), .val (.int (8 : Int32))]) rfl ?_
                    show Steps p.tables e below (s₁.setTop (mkF m 28 #[.val (.ref a0), .val (.int p1), .val (.int (0 : Int32)), .val (.int (9 : Int32)), .val (.int (p1.toInt8.toInt32)), .val (.int (8 : Int32))] [])) _
                    refine XS.goto X0.here hx rfl (pc0 := 28) (pc' := 7) rfl (hb hby d11_28) (by decide) (by decide) ?_
                    show Steps p.tables e below (s₁.setTop (mkF m 7 #[.val (.ref a0), .val (.int p1), .val (.int (0 : Int32)), .val (.int (9 : Int32)), .val (.int (p1.toInt8.toInt32)), .val (.int (8 : Int32))] [])) _
                    refine XS.iload X0.here hx rfl (hb hby d11_7) rfl ?_
                    show Steps p.tables e below (s₁.setTop (mkF m 9 #[.val (.ref a0), .val (.int p1), .val (.int (0 : Int32)), .val (.int (9 : Int32)), .val (.int (p1.toInt8.toInt32)), .val (.int (8 : Int32))] [(.int (8 : Int32))])) _
                    refine XS.iloadN X0.here hx rfl (hb hby d11_9) rfl ?_
                    exact k
                  refine own_go (B := s₁.setTop (mkF m 13 #[.val (.ref a0), .val (.int p1), .val (.int (0 : Int32)), .val (.int (9 : Int32)), .val (.int (p1.toInt8.toInt32)), .val (.int (8 : Int32))] [])) (fun t k => ?_) ?_
                  · show Steps p.tables e below (s₁.setTop (mkF m 10 #[.val (.ref a0), .val (.int p1), .val (.int (0 : Int32)), .val (.int (9 : Int32)), .val (.int (p1.toInt8.toInt32)), .val (.int (8 : Int32))] [(.int (9 : Int32)), (.int (8 : Int32))])) _
                    refine XS.icmpNo X0.here hx rfl (hb hby d11_10) rfl (tlt (by decide : (8 : Int32) < (9 : Int32))).2.1 ?_
                    exact k
                  refine own_go (B := s₁.setTop (mkF m 16 #[.val (.ref a0), .val (.int p1), .val (.int (0 : Int32)), .val (.int (9 : Int32)), .val (.int (p1.toInt8.toInt32)), .val (.int (8 : Int32))] [(.int (8 : Int32)), (.ref a0)])) (fun t k => ?_) ?_
                  · show Steps p.tables e below (s₁.setTop (mkF m 13 #[.val (.ref a0), .val (.int p1), .val (.int (0 : Int32)), .val (.int (9 : Int32)), .val (.int (p1.toInt8.toInt32)), .val (.int (8 : Int32))] [])) _
                    refine XS.aloadN X0.here hx rfl (hb hby d11_13) rfl rfl ?_
                    show Steps p.tables e below (s₁.setTop (mkF m 14 #[.val (.ref a0), .val (.int p1), .val (.int (0 : Int32)), .val (.int (9 : Int32)), .val (.int (p1.toInt8.toInt32)), .val (.int (8 : Int32))] [(.ref a0)])) _
                    refine XS.iload X0.here hx rfl (hb hby d11_14) rfl ?_
                    exact k
                  obtain ⟨cl_9, Ar_9, q_9, S_9, M_9, H_9, G_9⟩ := id V0
                  have hin_9 : ¬ ((8 : Int32) < 0 ∨ cl_9.slots.size ≤ ((8 : Int32)).toNatClampNeg) := inb_of S_9 ⟨by decide, by decide⟩
                  have hat_9 : cl_9.slots[((8 : Int32)).toNatClampNeg]? = some (.int (92 : Int32)) := H_9.at hin_9 rfl
                  refine own_go (B := s₁.setTop (mkF m 17 #[.val (.ref a0), .val (.int p1), .val (.int (0 : Int32)), .val (.int (9 : Int32)), .val (.int (p1.toInt8.toInt32)), .val (.int (8 : Int32))] [(.int (92 : Int32))])) (fun t k => X0.baloadBytes hx (j := (8 : Int32)) (v := (.int (92 : Int32))) (by rw [(e0 : _ = _)]; exact Ar_9.1) (State.isArrayOf_alike hZ.alike Ar_9.2.1) Ar_9.2.2 hin_9 hat_9 (g := (mkF m 16 #[.val (.ref a0), .val (.int p1), .val (.int (0 : Int32)), .val (.int (9 : Int32)), .val (.int (p1.toInt8.toInt32)), .val (.int (8 : Int32))] [(.int (8 : Int32)), (.ref a0)])) rfl rfl (hb hby d11_16) t k) ?_
                  refine own_go (B := s₁.setTop (mkF m 19 #[.val (.ref a0), .val (.int p1), .val (.int (0 : Int32)), .val (.int (9 : Int32)), .val (.int (p1.toInt8.toInt32)), .val (.int (8 : Int32))] [(.int (p1.toInt8.toInt32)), (.int (92 : Int32))])) (fun t k => ?_) ?_
                  · show Steps p.tables e below (s₁.setTop (mkF m 17 #[.val (.ref a0), .val (.int p1), .val (.int (0 : Int32)), .val (.int (9 : Int32)), .val (.int (p1.toInt8.toInt32)), .val (.int (8 : Int32))] [(.int (92 : Int32))])) _
                    refine XS.iload X0.here hx rfl (hb hby d11_17) rfl ?_
                    exact k
                  by_cases hc19_8 : (92 : Int32) = (p1.toInt8.toInt32)
                  · refine own_go (B := s₁.setTop (mkF m 22 #[.val (.ref a0), .val (.int p1), .val (.int (0 : Int32)), .val (.int (9 : Int32)), .val (.int (p1.toInt8.toInt32)), .val (.int (8 : Int32))] [])) (fun t k => ?_) ?_
                    · show Steps p.tables e below (s₁.setTop (mkF m 19 #[.val (.ref a0), .val (.int p1), .val (.int (0 : Int32)), .val (.int (9 : Int32)), .val (.int (p1.toInt8.toInt32)), .val (.int (8 : Int32))] [(.int (p1.toInt8.toInt32)), (.int (92 : Int32))])) _
                      refine XS.icmpNo X0.here hx rfl (hb hby d11_19) rfl (teq hc19_8).2 ?_
                      exact k
                    refine own_go (B := s₁.setTop (mkF m 24 #[.val (.ref a0), .val (.int p1), .val (.int (0 : Int32)), .val (.int (9 : Int32)), .val (.int (p1.toInt8.toInt32)), .val (.int (8 : Int32))] [(.int (8 : Int32))])) (fun t k => ?_) ?_
                    · show Steps p.tables e below (s₁.setTop (mkF m 22 #[.val (.ref a0), .val (.int p1), .val (.int (0 : Int32)), .val (.int (9 : Int32)), .val (.int (p1.toInt8.toInt32)), .val (.int (8 : Int32))] [])) _
                      refine XS.iload X0.here hx rfl (hb hby d11_22) rfl ?_
                      exact k
                    obtain ⟨fs, hr, hrun, hended, hW, hsame⟩ := X0.leave (v := some (.int (8 : Int32))) (fun h => by rw [Bd.returns] at h; cases h)
                    refine ⟨_, _, ?_, hrun, hended, _, _, rfl, ?_, ⟨_, rfl⟩, hW, hsame.mono (by decide) (by decide)⟩
                    · show Steps p.tables e below (s₁.setTop (mkF m 24 #[.val (.ref a0), .val (.int p1), .val (.int (0 : Int32)), .val (.int (9 : Int32)), .val (.int (p1.toInt8.toInt32)), .val (.int (8 : Int32))] [(.int (8 : Int32))])) _
                      exact retI X0 hx Bd.returns (hb hby d11_24) hr
                    · show Q11 Z a0 p1 kk h0 n0 _ s₁.heap _
                      rw [e0]
                      exact ⟨by simp only [own_ioc, if_neg hc19, if_neg hc19_1, if_neg hc19_2, if_neg hc19_3, if_neg hc19_4, if_neg hc19_5, if_neg hc19_6, if_neg hc19_7, if_pos hc19_8], N0, rfl⟩
                  · refine own_go (B := s₁.setTop (mkF m 25 #[.val (.ref a0), .val (.int p1), .val (.int (0 : Int32)), .val (.int (9 : Int32)), .val (.int (p1.toInt8.toInt32)), .val (.int (8 : Int32))] [])) (fun t k => ?_) ?_
                    · show Steps p.tables e below (s₁.setTop (mkF m 19 #[.val (.ref a0), .val (.int p1), .val (.int (0 : Int32)), .val (.int (9 : Int32)), .val (.int (p1.toInt8.toInt32)), .val (.int (8 : Int32))] [(.int (p1.toInt8.toInt32)), (.int (92 : Int32))])) _
                      refine XS.icmpYes X0.here hx rfl (pc0 := 19) (pc' := 25) rfl (hb hby d11_19) rfl (feq hc19_8).2 (by decide) (by decide) ?_
                      exact k
                    refine own_go (B := s₁.setTop (mkF m 10 #[.val (.ref a0), .val (.int p1), .val (.int (0 : Int32)), .val (.int (9 : Int32)), .val (.int (p1.toInt8.toInt32)), .val (.int (9 : Int32))] [(.int (9 : Int32)), (.int (9 : Int32))])) (fun t k => ?_) ?_
                    · show Steps p.tables e below (s₁.setTop (mkF m 25 #[.val (.ref a0), .val (.int p1), .val (.int (0 : Int32)), .val (.int (9 : Int32)), .val (.int (p1.toInt8.toInt32)), .val (.int (8 : Int32))] [])) _
                      refine XS.iinc X0.here hx rfl (hb hby d11_25) rfl (l' := #[.val (.ref a0), .val (.int p1), .val (.int (0 : Int32)), .val (.int (9 : Int32)), .val (.int (p1.toInt8.toInt32)), .val (.int (9 : Int32))]) rfl ?_
                      show Steps p.tables e below (s₁.setTop (mkF m 28 #[.val (.ref a0), .val (.int p1), .val (.int (0 : Int32)), .val (.int (9 : Int32)), .val (.int (p1.toInt8.toInt32)), .val (.int (9 : Int32))] [])) _
                      refine XS.goto X0.here hx rfl (pc0 := 28) (pc' := 7) rfl (hb hby d11_28) (by decide) (by decide) ?_
                      show Steps p.tables e below (s₁.setTop (mkF m 7 #[.val (.ref a0), .val (.int p1), .val (.int (0 : Int32)), .val (.int (9 : Int32)), .val (.int (p1.toInt8.toInt32)), .val (.int (9 : Int32))] [])) _
                      refine XS.iload X0.here hx rfl (hb hby d11_7) rfl ?_
                      show Steps p.tables e below (s₁.setTop (mkF m 9 #[.val (.ref a0), .val (.int p1), .val (.int (0 : Int32)), .val (.int (9 : Int32)), .val (.int (p1.toInt8.toInt32)), .val (.int (9 : Int32))] [(.int (9 : Int32))])) _
                      refine XS.iloadN X0.here hx rfl (hb hby d11_9) rfl ?_
                      exact k
                    refine own_go (B := s₁.setTop (mkF m 31 #[.val (.ref a0), .val (.int p1), .val (.int (0 : Int32)), .val (.int (9 : Int32)), .val (.int (p1.toInt8.toInt32)), .val (.int (9 : Int32))] [])) (fun t k => ?_) ?_
                    · show Steps p.tables e below (s₁.setTop (mkF m 10 #[.val (.ref a0), .val (.int p1), .val (.int (0 : Int32)), .val (.int (9 : Int32)), .val (.int (p1.toInt8.toInt32)), .val (.int (9 : Int32))] [(.int (9 : Int32)), (.int (9 : Int32))])) _
                      refine XS.icmpYes X0.here hx rfl (pc0 := 10) (pc' := 31) rfl (hb hby d11_10) rfl (flt (by decide : ¬ ((9 : Int32) < (9 : Int32)))).2.1 (by decide) (by decide) ?_
                      exact k
                    refine own_go (B := s₁.setTop (mkF m 32 #[.val (.ref a0), .val (.int p1), .val (.int (0 : Int32)), .val (.int (9 : Int32)), .val (.int (p1.toInt8.toInt32)), .val (.int (9 : Int32))] [(.int (-1 : Int32))])) (fun t k => ?_) ?_
                    · show Steps p.tables e below (s₁.setTop (mkF m 31 #[.val (.ref a0), .val (.int p1), .val (.int (0 : Int32)), .val (.int (9 : Int32)), .val (.int (p1.toInt8.toInt32)), .val (.int (9 : Int32))] [])) _
                      refine XS.iconst X0.here hx rfl (hb hby d11_31) ?_
                      exact k
                    obtain ⟨fs, hr, hrun, hended, hW, hsame⟩ := X0.leave (v := some (.int (-1 : Int32))) (fun h => by rw [Bd.returns] at h; cases h)
                    refine ⟨_, _, ?_, hrun, hended, _, _, rfl, ?_, ⟨_, rfl⟩, hW, hsame.mono (by decide) (by decide)⟩
                    · show Steps p.tables e below (s₁.setTop (mkF m 32 #[.val (.ref a0), .val (.int p1), .val (.int (0 : Int32)), .val (.int (9 : Int32)), .val (.int (p1.toInt8.toInt32)), .val (.int (9 : Int32))] [(.int (-1 : Int32))])) _
                      exact retI X0 hx Bd.returns (hb hby d11_32) hr
                    · show Q11 Z a0 p1 kk h0 n0 _ s₁.heap _
                      rw [e0]
                      exact ⟨by simp only [own_ioc, if_neg hc19, if_neg hc19_1, if_neg hc19_2, if_neg hc19_3, if_neg hc19_4, if_neg hc19_5, if_neg hc19_6, if_neg hc19_7, if_neg hc19_8], N0, rfl⟩
theorem d7_0 : decode jdk_43_method_22_code 0 = .ok (.iload_n 1, 1) := by decide +kernel
theorem d7_1 : decode jdk_43_method_22_code 1 = .ok (.invokestatic 88, 3) := by decide +kernel
theorem d7_4 : decode jdk_43_method_22_code 4 = .ok (.ifCond .ne 5, 3) := by decide +kernel
theorem d7_7 : decode jdk_43_method_22_code 7 = .ok (.iconst (-1), 1) := by decide +kernel
theorem d7_8 : decode jdk_43_method_22_code 8 = .ok (.ireturn, 1) := by decide +kernel
theorem d7_9 : decode jdk_43_method_22_code 9 = .ok (.iload_n 2, 1) := by decide +kernel
theorem d7_10 : decode jdk_43_method_22_code 10 = .ok (.iconst 0, 1) := by decide +kernel
theorem d7_11 : decode jdk_43_method_22_code 11 = .ok (.invokestatic 92, 3) := by decide +kernel
theorem d7_14 : decode jdk_43_method_22_code 14 = .ok (.istore_n 2, 1) := by decide +kernel
theorem d7_15 : decode jdk_43_method_22_code 15 = .ok (.iload_n 3, 1) := by decide +kernel
theorem d7_16 : decode jdk_43_method_22_code 16 = .ok (.aload_n 0, 1) := by decide +kernel
theorem d7_17 : decode jdk_43_method_22_code 17 = .ok (.arraylength, 1) := by decide +kernel
theorem d7_18 : decode jdk_43_method_22_code 18 = .ok (.invokestatic 38, 3) := by decide +kernel
theorem d7_21 : decode jdk_43_method_22_code 21 = .ok (.istore_n 3, 1) := by decide +kernel
theorem d7_22 : decode jdk_43_method_22_code 22 = .ok (.iload_n 2, 1) := by decide +kernel
theorem d7_23 : decode jdk_43_method_22_code 23 = .ok (.iload_n 3, 1) := by decide +kernel
theorem d7_24 : decode jdk_43_method_22_code 24 = .ok (.if_icmp .lt 5, 3) := by decide +kernel
theorem d7_29 : decode jdk_43_method_22_code 29 = .ok (.aload_n 0, 1) := by decide +kernel
theorem d7_30 : decode jdk_43_method_22_code 30 = .ok (.iload_n 1, 1) := by decide +kernel
theorem d7_31 : decode jdk_43_method_22_code 31 = .ok (.iload_n 2, 1) := by decide +kernel
theorem d7_32 : decode jdk_43_method_22_code 32 = .ok (.iload_n 3, 1) := by decide +kernel
theorem d7_33 : decode jdk_43_method_22_code 33 = .ok (.invokestatic 95, 3) := by decide +kernel
theorem d7_36 : decode jdk_43_method_22_code 36 = .ok (.ireturn, 1) := by decide +kernel
theorem pn_7 : plainName "java/lang/StringLatin1" = true := by first | (simp [plainName, overriddenIn]; done) | decide +kernel
theorem ef_7 (m : MethodId) (a0 : Addr) (p1 : Int32) : entryFrame m #[(.ref a0), (.int p1), (.int (0 : Int32)), (.int (9 : Int32))] 4 = mkF m 0 #[.val (.ref a0), .val (.int p1), .val (.int (0 : Int32)), .val (.int (9 : Int32))] [] := by first | (simp [entryFrame, mkF, argsToLocals, Value.category]; done) | rfl
theorem pd_0 : parseMethodDescriptor "(I)Z" = some ⟨[.int], some .boolean⟩ := by decide +kernel
theorem pd_1 : parseMethodDescriptor "(II)I" = some ⟨[.int, .int], some .int⟩ := by decide +kernel
theorem pd_2 : parseMethodDescriptor "([BIII)I" = some ⟨[(.array .byte), .int, .int, .int], some .int⟩ := by decide +kernel
def own_ixl (p1 : Int32) : Int32 := (if (own_enc p1) = (0 : Int32) then (-1 : Int32) else (own_ioc p1))
def Q7 (Z : State) (a0 : Addr) (p1 : Int32) (kk : ClassId) (h0 : Heap) (n0 : Nat) (v : Option Value) (h : Heap) (L : List Loc) : Prop := v = some (.int (own_ixl p1)) ∧ Fr n0 L ∧ h = h0
set_option maxRecDepth 65536 in
set_option maxHeartbeats 40000000 in
theorem rm7 (l : Launch) (Z : State) (av0 : Array Value) (hw : ∀ d ∈ tables_1, d.before av0 Z = true) (ws : List Jvm.Cond) (a0 : Addr) (p1 : Int32) (kk : ClassId) (h0 : Heap) (n0 : Nat) (Z0 : n0 ≤ h0.size) (V0 : Arv Z h0 a0 kk .byte (9 : Int32) [(.int (60 : Int32)), (.int (62 : Int32)), (.int (34 : Int32)), (.int (123 : Int32)), (.int (125 : Int32)), (.int (124 : Int32)), (.int (94 : Int32)), (.int (96 : Int32)), (.int (92 : Int32))] (.int 0)) :
    MetFree l (⟨"java/lang/StringLatin1", "indexOf", "([BIII)I"⟩ : MethodName) (head1 (Jvm.Cond.code (⟨"java/lang/StringLatin1", "indexOf", "([BIII)I"⟩ : MethodName) jdk_43_method_22_code 4 (some .int) :: ws) ({ frames := 1, cells := 0, slots := 0, locals := 17 } : Room)) (fun a U => a = #[(.ref a0), (.int p1), (.int (0 : Int32)), (.int (9 : Int32))] ∧ Z.Warmed39 U.vm ∧ U.heap = h0) (fun _ _ _ _ _ => True) (fun _ U o U' => ∃ v L, o = .returned v ∧ Q7 Z a0 p1 kk h0 n0 v U'.heap L ∧ FrameEnd U o U' L ({ frames := 1, cells := 0, slots := 0, locals := 17 } : Room).cells ({ frames := 1, cells := 0, slots := 0, locals := 17 } : Room).slots) := by
  refine MetFree.of_bodySF (plainFor_of_name pn_7) hisR ?_
  intro p e s m args below meth c s₁ Bd hml0 hP hK
  obtain ⟨rfl, hZ, hh⟩ := hP
  have hx := Bd.exec
  have hby := Bd.bytes
  have hml : c.maxLocals = 4 := hml0
  have hown : s.vm.findClass "java/lang/StringLatin1" = some m.cls := findClass_of_methodNamed Bd.named
  have hnm := (name_of_methodNamed Bd.named Bd.method).1
  have X0 : Stand p l e ({ frames := 1, cells := 0, slots := 0, locals := 17 } : Room) s m #[(.ref a0), (.int p1), (.int (0 : Int32)), (.int (9 : Int32))] below meth c s₁ [] 0 0 := Stand.of_body Bd
  have e0 : s₁.heap = h0 := by rw [← hh, Bd.state]; rfl
  have N0 := Fr.nil n0
  have K0 : Keep h0 h0 [] := Keep.refl h0 []
  refine own_go (B := s₁.setTop (mkF m 0 #[.val (.ref a0), .val (.int p1), .val (.int (0 : Int32)), .val (.int (9 : Int32))] [])) (fun t k => castTop (ef_7 m a0 p1) k) ?_
  refine own_go (B := s₁.setTop (mkF m 1 #[.val (.ref a0), .val (.int p1), .val (.int (0 : Int32)), .val (.int (9 : Int32))] [(.int p1)])) (fun t k => ?_) ?_
  · show Steps p.tables e below (s₁.setTop (mkF m 0 #[.val (.ref a0), .val (.int p1), .val (.int (0 : Int32)), .val (.int (9 : Int32))] [])) _
    refine XS.iloadN X0.here hx rfl (hb hby d7_0) rfl ?_
    exact k
  obtain ⟨_, _, ⟨T_1, L_1, k_1, n_1⟩, -, X_1, ⟨Lc_1, hQ_1, l_1, y_1, z_1⟩, st_1⟩ := Jvm.LawKit.callS X0 hx (y := (⟨"java/lang/StringLatin1", "canEncode", "(I)Z"⟩ : MethodName)) hown (mvT hZ (hw _ (List.mem_of_getElem? (i := 46) rfl))) (mvT hZ (hw _ (List.mem_of_getElem? (i := 47) rfl))) (mvT hZ (hw _ (List.mem_of_getElem? (i := 44) rfl))) (mvT hZ (hw _ (List.mem_of_getElem? (i := 48) rfl))) (by decide) (backOf (W := 0) (rm8 l Z av0 hw [] p1  h0 n0 Z0 ) hZ (hw _ (List.mem_of_getElem? (i := 48) rfl)) (hw _ (List.mem_of_getElem? (i := 44) rfl)) (by decide) (by decide)) (g := (mkF m 1 #[.val (.ref a0), .val (.int p1), .val (.int (0 : Int32)), .val (.int (9 : Int32))] [(.int p1)])) rfl (by rw [hml]; rfl) (argsL := [(.int p1)]) (rest := []) (lenOf pd_0 rfl) rfl (by show 2 * 0 + _ ≤ _; exact Nat.le_of_eq rfl) (hb hby d7_1) (fun _ _ => ⟨rfl, e0, (by decide : 0 + 0 ≤ _), (by decide : 0 + 0 ≤ _)⟩)
  dsimp only [Pt.U, Pt.locs, Pt.cells, Pt.slots] at X_1 l_1 y_1 z_1 st_1 hQ_1
  subst l_1 y_1 z_1
  obtain ⟨rfl, N_1q, e_1⟩ := hQ_1
  have N_1 := Fr.app N0 N_1q
  refine own_go (B := T_1.setTop (mkF m 4 #[.val (.ref a0), .val (.int p1), .val (.int (0 : Int32)), .val (.int (9 : Int32))] [(.int (own_enc p1))])) (fun t k => st_1 t k) ?_
  by_cases hc4 : (own_enc p1) = (0 : Int32)
  · refine own_go (B := T_1.setTop (mkF m 7 #[.val (.ref a0), .val (.int p1), .val (.int (0 : Int32)), .val (.int (9 : Int32))] [])) (fun t k => ?_) ?_
    · show Steps p.tables e below (T_1.setTop (mkF m 4 #[.val (.ref a0), .val (.int p1), .val (.int (0 : Int32)), .val (.int (9 : Int32))] [(.int (own_enc p1))])) _
      refine XS.ifNo X_1.here hx rfl (hb hby d7_4) rfl ((if0 _ _).trans (teq hc4).2) ?_
      exact k
    refine own_go (B := T_1.setTop (mkF m 8 #[.val (.ref a0), .val (.int p1), .val (.int (0 : Int32)), .val (.int (9 : Int32))] [(.int (-1 : Int32))])) (fun t k => ?_) ?_
    · show Steps p.tables e below (T_1.setTop (mkF m 7 #[.val (.ref a0), .val (.int p1), .val (.int (0 : Int32)), .val (.int (9 : Int32))] [])) _
      refine XS.iconst X_1.here hx rfl (hb hby d7_7) ?_
      exact k
    obtain ⟨fs, hr, hrun, hended, hW, hsame⟩ := X_1.leave (v := some (.int (-1 : Int32))) (fun h => by rw [Bd.returns] at h; cases h)
    refine ⟨_, _, ?_, hrun, hended, _, _, rfl, ?_, ⟨_, rfl⟩, hW, hsame.mono (by decide) (by decide)⟩
    · show Steps p.tables e below (T_1.setTop (mkF m 8 #[.val (.ref a0), .val (.int p1), .val (.int (0 : Int32)), .val (.int (9 : Int32))] [(.int (-1 : Int32))])) _
      exact retI X_1 hx Bd.returns (hb hby d7_8) hr
    · show Q7 Z a0 p1 kk h0 n0 _ T_1.heap _
      rw [e_1]
      exact ⟨by simp only [own_ixl, if_pos hc4], N_1, rfl⟩
  · refine own_go (B := T_1.setTop (mkF m 9 #[.val (.ref a0), .val (.int p1), .val (.int (0 : Int32)), .val (.int (9 : Int32))] [])) (fun t k => ?_) ?_
    · show Steps p.tables e below (T_1.setTop (mkF m 4 #[.val (.ref a0), .val (.int p1), .val (.int (0 : Int32)), .val (.int (9 : Int32))] [(.int (own_enc p1))])) _
      refine XS.ifYes X_1.here hx rfl (pc0 := 4) (pc' := 9) rfl (hb hby d7_4) rfl ((if0 _ _).trans (feq hc4).2) (by decide) (by decide) ?_
      exact k
    refine own_go (B := T_1.setTop (mkF m 11 #[.val (.ref a0), .val (.int p1), .val (.int (0 : Int32)), .val (.int (9 : Int32))] [(.int (0 : Int32)), (.int (0 : Int32))])) (fun t k => ?_) ?_
    · show Steps p.tables e below (T_1.setTop (mkF m 9 #[.val (.ref a0), .val (.int p1), .val (.int (0 : Int32)), .val (.int (9 : Int32))] [])) _
      refine XS.iloadN X_1.here hx rfl (hb hby d7_9) rfl ?_
      show Steps p.tables e below (T_1.setTop (mkF m 10 #[.val (.ref a0), .val (.int p1), .val (.int (0 : Int32)), .val (.int (9 : Int32))] [(.int (0 : Int32))])) _
      refine XS.iconst X_1.here hx rfl (hb hby d7_10) ?_
      exact k
    obtain ⟨_, _, ⟨T_2, L_2, k_2, n_2⟩, -, X_2, ⟨Lc_2, hQ_2, l_2, y_2, z_2⟩, st_2⟩ := Jvm.LawKit.callS X_1 hx (y := (⟨"java/lang/Math", "max", "(II)I"⟩ : MethodName)) hown (mvT hZ (hw _ (List.mem_of_getElem? (i := 49) rfl))) (mvT hZ (hw _ (List.mem_of_getElem? (i := 50) rfl))) (mvT hZ (hw _ (List.mem_of_getElem? (i := 51) rfl))) (mvT hZ (hw _ (List.mem_of_getElem? (i := 52) rfl))) (by decide) (backOf (W := 0) (rm9 l Z av0 hw [] (0 : Int32) (0 : Int32)  h0 n0 Z0 ) hZ (hw _ (List.mem_of_getElem? (i := 52) rfl)) (hw _ (List.mem_of_getElem? (i := 51) rfl)) (by decide) (by decide)) (g := (mkF m 11 #[.val (.ref a0), .val (.int p1), .val (.int (0 : Int32)), .val (.int (9 : Int32))] [(.int (0 : Int32)), (.int (0 : Int32))])) rfl (by rw [hml]; rfl) (argsL := [(.int (0 : Int32)), (.int (0 : Int32))]) (rest := []) (lenOf pd_1 rfl) rfl (by show 2 * 0 + _ ≤ _; exact Nat.le_of_eq rfl) (hb hby d7_11) (fun _ _ => ⟨rfl, e_1, (by decide : 0 + 0 ≤ _), (by decide : 0 + 0 ≤ _)⟩)
    dsimp only [Pt.U, Pt.locs, Pt.cells, Pt.slots] at X_2 l_2 y_2 z_2 st_2 hQ_2
    subst l_2 y_2 z_2
    obtain ⟨hv_2, N_2q, e_2⟩ := hQ_2
    have N_2 := Fr.app N_1 N_2q
    rw [show own_maxi (0 : Int32) (0 : Int32) = (0 : Int32) from by decide] at hv_2
    subst hv_2
    refine own_go (B := T_2.setTop (mkF m 14 #[.val (.ref a0), .val (.int p1), .val (.int (0 : Int32)), .val (.int (9 : Int32))] [(.int (0 : Int32))])) (fun t k => st_2 t k) ?_
    refine own_go (B := T_2.setTop (mkF m 17 #[.val (.ref a0), .val (.int p1), .val (.int (0 : Int32)), .val (.int (9 : Int32))] [(.ref a0), (.int (9 : Int32))])) (fun t k => ?_) ?_
    · show Steps p.tables e below (T_2.setTop (mkF m 14 #[.val (.ref a0), .val (.int p1), .val (.int (0 : Int32)), .val (.int (9 : Int32))] [(.int (0 : Int32))])) _
      refine XS.istoreN X_2.here hx rfl (hb hby d7_14) rfl (l' := #[.val (.ref a0), .val (.int p1), .val (.int (0 : Int32)), .val (.int (9 : Int32))]) rfl ?_
      show Steps p.tables e below (T_2.setTop (mkF m 15 #[.val (.ref a0), .val (.int p1), .val (.int (0 : Int32)), .val (.int (9 : Int32))] [])) _
      refine XS.iloadN X_2.here hx rfl (hb hby d7_15) rfl ?_
      show Steps p.tables e below (T_2.setTop (mkF m 16 #[.val (.ref a0), .val (.int p1), .val (.int (0 : Int32)), .val (.int (9 : Int32))] [(.int (9 : Int32))])) _
      refine XS.aloadN X_2.here hx rfl (hb hby d7_16) rfl rfl ?_
      exact k
    obtain ⟨cl_3, Ar_3, -, S_3, M_3, -, -⟩ := id V0
    refine own_go (B := T_2.setTop (mkF m 18 #[.val (.ref a0), .val (.int p1), .val (.int (0 : Int32)), .val (.int (9 : Int32))] [(.int (9 : Int32)), (.int (9 : Int32))])) (fun t k => X_2.arraylength hx (by rw [(e_2 : _ = _)]; exact Ar_3.1) (State.isArrayOf_alike hZ.alike Ar_3.2.1) (g := (mkF m 17 #[.val (.ref a0), .val (.int p1), .val (.int (0 : Int32)), .val (.int (9 : Int32))] [(.ref a0), (.int (9 : Int32))])) rfl rfl (hb hby d7_17) t (by rw [len_of S_3 M_3]; exact k)) ?_
    obtain ⟨_, _, ⟨T_4, L_4, k_4, n_4⟩, -, X_4, ⟨Lc_4, hQ_4, l_4, y_4, z_4⟩, st_4⟩ := Jvm.LawKit.callS X_2 hx (y := (⟨"java/lang/Math", "min", "(II)I"⟩ : MethodName)) hown (mvT hZ (hw _ (List.mem_of_getElem? (i := 53) rfl))) (mvT hZ (hw _ (List.mem_of_getElem? (i := 54) rfl))) (mvT hZ (hw _ (List.mem_of_getElem? (i := 51) rfl))) (mvT hZ (hw _ (List.mem_of_getElem? (i := 55) rfl))) (by decide) (backOf (W := 0) (rm10 l Z av0 hw [] (9 : Int32) (9 : Int32)  h0 n0 Z0 ) hZ (hw _ (List.mem_of_getElem? (i := 55) rfl)) (hw _ (List.mem_of_getElem? (i := 51) rfl)) (by decide) (by decide)) (g := (mkF m 18 #[.val (.ref a0), .val (.int p1), .val (.int (0 : Int32)), .val (.int (9 : Int32))] [(.int (9 : Int32)), (.int (9 : Int32))])) rfl (by rw [hml]; rfl) (argsL := [(.int (9 : Int32)), (.int (9 : Int32))]) (rest := []) (lenOf pd_1 rfl) rfl (by show 2 * 0 + _ ≤ _; exact Nat.le_of_eq rfl) (hb hby d7_18) (fun _ _ => ⟨rfl, e_2, (by decide : 0 + 0 ≤ _), (by decide : 0 + 0 ≤ _)⟩)
    dsimp only [Pt.U, Pt.locs, Pt.cells, Pt.slots] at X_4 l_4 y_4 z_4 st_4 hQ_4
    subst l_4 y_4 z_4
    obtain ⟨hv_4, N_4q, e_4⟩ := hQ_4
    have N_4 := Fr.app N_2 N_4q
    rw [show own_mini (9 : Int32) (9 : Int32) = (9 : Int32) from by decide] at hv_4
    subst hv_4
    refine own_go (B := T_4.setTop (mkF m 21 #[.val (.ref a0), .val (.int p1), .val (.int (0 : Int32)), .val (.int (9 : Int32))] [(.int (9 : Int32))])) (fun t k => st_4 t k) ?_
    refine own_go (B := T_4.setTop (mkF m 24 #[.val (.ref a0), .val (.int p1), .val (.int (0 : Int32)), .val (.int (9 : Int32))] [(.int (9 : Int32)), (.int (0 : Int32))])) (fun t k => ?_) ?_
    · show Steps p.tables e below (T_4.setTop (mkF m 21 #[.val (.ref a0), .val (.int p1), .val (.int (0 : Int32)), .val (.int (9 : Int32))] [(.int (9 : Int32))])) _
      refine XS.istoreN X_4.here hx rfl (hb hby d7_21) rfl (l' := #[.val (.ref a0), .val (.int p1), .val (.int (0 : Int32)), .val (.int (9 : Int32))]) rfl ?_
      show Steps p.tables e below (T_4.setTop (mkF m 22 #[.val (.ref a0), .val (.int p1), .val (.int (0 : Int32)), .val (.int (9 : Int32))] [])) _
      refine XS.iloadN X_4.here hx rfl (hb hby d7_22) rfl ?_
      show Steps p.tables e below (T_4.setTop (mkF m 23 #[.val (.ref a0), .val (.int p1), .val (.int (0 : Int32)), .val (.int (9 : Int32))] [(.int (0 : Int32))])) _
      refine XS.iloadN X_4.here hx rfl (hb hby d7_23) rfl ?_
      exact k
    refine own_go (B := T_4.setTop (mkF m 29 #[.val (.ref a0), .val (.int p1), .val (.int (0 : Int32)), .val (.int (9 : Int32))] [])) (fun t k => ?_) ?_
    · show Steps p.tables e below (T_4.setTop (mkF m 24 #[.val (.ref a0), .val (.int p1), .val (.int (0 : Int32)), .val (.int (9 : Int32))] [(.int (9 : Int32)), (.int (0 : Int32))])) _
      refine XS.icmpYes X_4.here hx rfl (pc0 := 24) (pc' := 29) rfl (hb hby d7_24) rfl (tlt (by decide : (0 : Int32) < (9 : Int32))).1 (by decide) (by decide) ?_
      exact k
    refine own_go (B := T_4.setTop (mkF m 33 #[.val (.ref a0), .val (.int p1), .val (.int (0 : Int32)), .val (.int (9 : Int32))] [(.int (9 : Int32)), (.int (0 : Int32)), (.int p1), (.ref a0)])) (fun t k => ?_) ?_
    · show Steps p.tables e below (T_4.setTop (mkF m 29 #[.val (.ref a0), .val (.int p1), .val (.int (0 : Int32)), .val (.int (9 : Int32))] [])) _
      refine XS.aloadN X_4.here hx rfl (hb hby d7_29) rfl rfl ?_
      show Steps p.tables e below (T_4.setTop (mkF m 30 #[.val (.ref a0), .val (.int p1), .val (.int (0 : Int32)), .val (.int (9 : Int32))] [(.ref a0)])) _
      refine XS.iloadN X_4.here hx rfl (hb hby d7_30) rfl ?_
      show Steps p.tables e below (T_4.setTop (mkF m 31 #[.val (.ref a0), .val (.int p1), .val (.int (0 : Int32)), .val (.int (9 : Int32))] [(.int p1), (.ref a0)])) _
      refine XS.iloadN X_4.here hx rfl (hb hby d7_31) rfl ?_
      show Steps p.tables e below (T_4.setTop (mkF m 32 #[.val (.ref a0), .val (.int p1), .val (.int (0 : Int32)), .val (.int (9 : Int32))] [(.int (0 : Int32)), (.int p1), (.ref a0)])) _
      refine XS.iloadN X_4.here hx rfl (hb hby d7_32) rfl ?_
      exact k
    obtain ⟨_, _, ⟨T_5, L_5, k_5, n_5⟩, -, X_5, ⟨Lc_5, hQ_5, l_5, y_5, z_5⟩, st_5⟩ := Jvm.LawKit.callS X_4 hx (y := (⟨"java/lang/StringLatin1", "indexOfChar", "([BIII)I"⟩ : MethodName)) hown (mvT hZ (hw _ (List.mem_of_getElem? (i := 56) rfl))) (mvT hZ (hw _ (List.mem_of_getElem? (i := 57) rfl))) (mvT hZ (hw _ (List.mem_of_getElem? (i := 44) rfl))) (mvT hZ (hw _ (List.mem_of_getElem? (i := 58) rfl))) (by decide) (backOf (W := 0) (rm11 l Z av0 hw [] a0 p1 kk h0 n0 Z0 V0) hZ (hw _ (List.mem_of_getElem? (i := 58) rfl)) (hw _ (List.mem_of_getElem? (i := 44) rfl)) (by decide) (by decide)) (g := (mkF m 33 #[.val (.ref a0), .val (.int p1), .val (.int (0 : Int32)), .val (.int (9 : Int32))] [(.int (9 : Int32)), (.int (0 : Int32)), (.int p1), (.ref a0)])) rfl (by rw [hml]; rfl) (argsL := [(.ref a0), (.int p1), (.int (0 : Int32)), (.int (9 : Int32))]) (rest := []) (lenOf pd_2 rfl) rfl (by show 2 * 0 + _ ≤ _; exact Nat.le_of_eq rfl) (hb hby d7_33) (fun _ _ => ⟨rfl, e_4, (by decide : 0 + 0 ≤ _), (by decide : 0 + 0 ≤ _)⟩)
    dsimp only [Pt.U, Pt.locs, Pt.cells, Pt.slots] at X_5 l_5 y_5 z_5 st_5 hQ_5
    subst l_5 y_5 z_5
    obtain ⟨rfl, N_5q, e_5⟩ := hQ_5
    have N_5 := Fr.app N_4 N_5q
    refine own_go (B := T_5.setTop (mkF m 36 #[.val (.ref a0), .val (.int p1), .val (.int (0 : Int32)), .val (.int (9 : Int32))] [(.int (own_ioc p1))])) (fun t k => st_5 t k) ?_
    obtain ⟨fs, hr, hrun, hended, hW, hsame⟩ := X_5.leave (v := some (.int (own_ioc p1))) (fun h => by rw [Bd.returns] at h; cases h)
    refine ⟨_, _, ?_, hrun, hended, _, _, rfl, ?_, ⟨_, rfl⟩, hW, hsame.mono (by decide) (by decide)⟩
    · show Steps p.tables e below (T_5.setTop (mkF m 36 #[.val (.ref a0), .val (.int p1), .val (.int (0 : Int32)), .val (.int (9 : Int32))] [(.int (own_ioc p1))])) _
      exact retI X_5 hx Bd.returns (hb hby d7_36) hr
    · show Q7 Z a0 p1 kk h0 n0 _ T_5.heap _
      rw [e_5]
      exact ⟨by simp only [own_ixl, if_neg hc4], N_5, rfl⟩
theorem d6_0 : decode jdk_42_method_152_code 0 = .ok (.getstatic 38, 3) := by decide +kernel
theorem d6_3 : decode jdk_42_method_152_code 3 = .ok (.ifCond .eq 10, 3) := by decide +kernel
theorem d6_6 : decode jdk_42_method_152_code 6 = .ok (.aload_n 0, 1) := by decide +kernel
theorem d6_7 : decode jdk_42_method_152_code 7 = .ok (.getfield 15, 3) := by decide +kernel
theorem d6_10 : decode jdk_42_method_152_code 10 = .ok (.goto 4, 3) := by decide +kernel
theorem d6_14 : decode jdk_42_method_152_code 14 = .ok (.ireturn, 1) := by decide +kernel
theorem pn_6 : plainName "java/lang/String" = true := by first | (simp [plainName, overriddenIn]; done) | decide +kernel
theorem ef_6 (m : MethodId) (a0 : Addr) : entryFrame m #[(.ref a0)] 1 = mkF m 0 #[.val (.ref a0)] [] := by first | (simp [entryFrame, mkF, argsToLocals, Value.category]; done) | rfl
def Q6 (Z : State) (a0 : Addr) (w : Int32) (h0 : Heap) (n0 : Nat) (v : Option Value) (h : Heap) (L : List Loc) : Prop := v = some (.int (0 : Int32)) ∧ Fr n0 L ∧ h = h0
set_option maxRecDepth 65536 in
set_option maxHeartbeats 40000000 in
theorem rm6 (l : Launch) (Z : State) (av0 : Array Value) (hw : ∀ d ∈ tables_1, d.before av0 Z = true) (ws : List Jvm.Cond) (a0 : Addr) (w : Int32) (h0 : Heap) (n0 : Nat) (Z0 : n0 ≤ h0.size) (F_coder_a0 : Fld Z h0 a0 "java/lang/String" "coder" "B" (.int (0 : Int32))) (S_COMPACT_STRINGS : Sta Z h0 "java/lang/String" "COMPACT_STRINGS" "Z" (.int w)) (hw0 : ¬ (w = (0 : Int32))) :
    MetFree l (⟨"java/lang/String", "coder", "()B"⟩ : MethodName) (head1 (Jvm.Cond.code (⟨"java/lang/String", "coder", "()B"⟩ : MethodName) jdk_42_method_152_code 1 (some .byte) :: ws) ({ frames := 0, cells := 0, slots := 0, locals := 0 } : Room)) (fun a U => a = #[(.ref a0)] ∧ Z.Warmed39 U.vm ∧ U.heap = h0) (fun _ _ _ _ _ => True) (fun _ U o U' => ∃ v L, o = .returned v ∧ Q6 Z a0 w h0 n0 v U'.heap L ∧ FrameEnd U o U' L ({ frames := 0, cells := 0, slots := 0, locals := 0 } : Room).cells ({ frames := 0, cells := 0, slots := 0, locals := 0 } : Room).slots) := by
  refine MetFree.of_bodySF (plainFor_of_name pn_6) hisR ?_
  intro p e s m args below meth c s₁ Bd hml0 hP hK
  obtain ⟨rfl, hZ, hh⟩ := hP
  have hx := Bd.exec
  have hby := Bd.bytes
  have hml : c.maxLocals = 1 := hml0
  have hown : s.vm.findClass "java/lang/String" = some m.cls := findClass_of_methodNamed Bd.named
  have hnm := (name_of_methodNamed Bd.named Bd.method).1
  have X0 : Stand p l e ({ frames := 0, cells := 0, slots := 0, locals := 0 } : Room) s m #[(.ref a0)] below meth c s₁ [] 0 0 := Stand.of_body Bd
  have e0 : s₁.heap = h0 := by rw [← hh, Bd.state]; rfl
  have N0 := Fr.nil n0
  have K0 : Keep h0 h0 [] := Keep.refl h0 []
  refine own_go (B := s₁.setTop (mkF m 0 #[.val (.ref a0)] [])) (fun t k => castTop (ef_6 m a0) k) ?_
  obtain ⟨T_1, X_1, e_1, st_1⟩ := getS2 X0 hx hZ hown (host := "") (Or.inl (hw _ (List.mem_of_getElem? (i := 29) rfl))) Via.refl e0 S_COMPACT_STRINGS (g := (mkF m 0 #[.val (.ref a0)] [])) rfl (hb hby d6_0)
  refine own_go (B := T_1.setTop (mkF m 3 #[.val (.ref a0)] [(.int w)])) (fun t k => st_1 t k) ?_
  refine own_go (B := T_1.setTop (mkF m 6 #[.val (.ref a0)] [])) (fun t k => ?_) ?_
  · show Steps p.tables e below (T_1.setTop (mkF m 3 #[.val (.ref a0)] [(.int w)])) _
    refine XS.ifNo X_1.here hx rfl (hb hby d6_3) rfl ((if0 _ _).trans (feq hw0).1) ?_
    exact k
  refine own_go (B := T_1.setTop (mkF m 7 #[.val (.ref a0)] [(.ref a0)])) (fun t k => ?_) ?_
  · show Steps p.tables e below (T_1.setTop (mkF m 6 #[.val (.ref a0)] [])) _
    refine XS.aloadN X_1.here hx rfl (hb hby d6_6) rfl rfl ?_
    exact k
  obtain ⟨T_2, X_2, e_2, st_2⟩ := getF X_1 hx hZ hown (host := "") (Or.inl (hw _ (List.mem_of_getElem? (i := 30) rfl))) Via.refl e_1 F_coder_a0 (g := (mkF m 7 #[.val (.ref a0)] [(.ref a0)])) rfl rfl (hb hby d6_7)
  refine own_go (B := T_2.setTop (mkF m 10 #[.val (.ref a0)] [(.int (0 : Int32))])) (fun t k => st_2 t k) ?_
  refine own_go (B := T_2.setTop (mkF m 14 #[.val (.ref a0)] [(.int (0 : Int32))])) (fun t k => ?_) ?_
  · show Steps p.tables e below (T_2.setTop (mkF m 10 #[.val (.ref a0)] [(.int (0 : Int32))])) _
    refine XS.goto X_2.here hx rfl (pc0 := 10) (pc' := 14) rfl (hb hby d6_10) (by decide) (by decide) ?_
    exact k
  obtain ⟨fs, hr, hrun, hended, hW, hsame⟩ := X_2.leave (v := some (.int (0 : Int32))) (fun h => by rw [Bd.returns] at h; cases h)
  refine ⟨_, _, ?_, hrun, hended, _, _, rfl, ?_, ⟨_, rfl⟩, hW, hsame.mono (by decide) (by decide)⟩
  · show Steps p.tables e below (T_2.setTop (mkF m 14 #[.val (.ref a0)] [(.int (0 : Int32))])) _
    exact retN X_2 hx (t := .byte) Bd.returns (by simp) (hb hby d6_14) hr
  · show Q6 Z a0 w h0 n0 _ T_2.heap _
    rw [e_2]
    exact ⟨rfl, N0, rfl⟩
theorem d4_0 : decode jdk_42_method_154_code 0 = .ok (.getstatic 38, 3) := by decide +kernel
theorem d4_3 : decode jdk_42_method_154_code 3 = .ok (.ifCond .eq 14, 3) := by decide +kernel
theorem d4_6 : decode jdk_42_method_154_code 6 = .ok (.aload_n 0, 1) := by decide +kernel
theorem d4_7 : decode jdk_42_method_154_code 7 = .ok (.getfield 15, 3) := by decide +kernel
theorem d4_10 : decode jdk_42_method_154_code 10 = .ok (.ifCond .ne 7, 3) := by decide +kernel
theorem d4_13 : decode jdk_42_method_154_code 13 = .ok (.iconst 1, 1) := by decide +kernel
theorem d4_14 : decode jdk_42_method_154_code 14 = .ok (.goto 4, 3) := by decide +kernel
theorem d4_18 : decode jdk_42_method_154_code 18 = .ok (.ireturn, 1) := by decide +kernel
theorem pn_4 : plainName "java/lang/String" = true := by first | (simp [plainName, overriddenIn]; done) | decide +kernel
theorem ef_4 (m : MethodId) (a0 : Addr) : entryFrame m #[(.ref a0)] 1 = mkF m 0 #[.val (.ref a0)] [] := by first | (simp [entryFrame, mkF, argsToLocals, Value.category]; done) | rfl
def Q4 (Z : State) (a0 : Addr) (w : Int32) (h0 : Heap) (n0 : Nat) (v : Option Value) (h : Heap) (L : List Loc) : Prop := v = some (.int (1 : Int32)) ∧ Fr n0 L ∧ h = h0
set_option maxRecDepth 65536 in
set_option maxHeartbeats 40000000 in
theorem rm4 (l : Launch) (Z : State) (av0 : Array Value) (hw : ∀ d ∈ tables_1, d.before av0 Z = true) (ws : List Jvm.Cond) (a0 : Addr) (w : Int32) (h0 : Heap) (n0 : Nat) (Z0 : n0 ≤ h0.size) (F_coder_a0 : Fld Z h0 a0 "java/lang/String" "coder" "B" (.int (0 : Int32))) (S_COMPACT_STRINGS : Sta Z h0 "java/lang/String" "COMPACT_STRINGS" "Z" (.int w)) (hw0 : ¬ (w = (0 : Int32))) :
    MetFree l (⟨"java/lang/String", "isLatin1", "()Z"⟩ : MethodName) (head1 (Jvm.Cond.code (⟨"java/lang/String", "isLatin1", "()Z"⟩ : MethodName) jdk_42_method_154_code 1 (some .boolean) :: ws) ({ frames := 0, cells := 0, slots := 0, locals := 0 } : Room)) (fun a U => a = #[(.ref a0)] ∧ Z.Warmed39 U.vm ∧ U.heap = h0) (fun _ _ _ _ _ => True) (fun _ U o U' => ∃ v L, o = .returned v ∧ Q4 Z a0 w h0 n0 v U'.heap L ∧ FrameEnd U o U' L ({ frames := 0, cells := 0, slots := 0, locals := 0 } : Room).cells ({ frames := 0, cells := 0, slots := 0, locals := 0 } : Room).slots) := by
  refine MetFree.of_bodySF (plainFor_of_name pn_4) hisR ?_
  intro p e s m args below meth c s₁ Bd hml0 hP hK
  obtain ⟨rfl, hZ, hh⟩ := hP
  have hx := Bd.exec
  have hby := Bd.bytes
  have hml : c.maxLocals = 1 := hml0
  have hown : s.vm.findClass "java/lang/String" = some m.cls := findClass_of_methodNamed Bd.named
  have hnm := (name_of_methodNamed Bd.named Bd.method).1
  have X0 : Stand p l e ({ frames := 0, cells := 0, slots := 0, locals := 0 } : Room) s m #[(.ref a0)] below meth c s₁ [] 0 0 := Stand.of_body Bd
  have e0 : s₁.heap = h0 := by rw [← hh, Bd.state]; rfl
  have N0 := Fr.nil n0
  have K0 : Keep h0 h0 [] := Keep.refl h0 []
  refine own_go (B := s₁.setTop (mkF m 0 #[.val (.ref a0)] [])) (fun t k => castTop (ef_4 m a0) k) ?_
  obtain ⟨T_1, X_1, e_1, st_1⟩ := getS2 X0 hx hZ hown (host := "") (Or.inl (hw _ (List.mem_of_getElem? (i := 29) rfl))) Via.refl e0 S_COMPACT_STRINGS (g := (mkF m 0 #[.val (.ref a0)] [])) rfl (hb hby d4_0)
  refine own_go (B := T_1.setTop (mkF m 3 #[.val (.ref a0)] [(.int w)])) (fun t k => st_1 t k) ?_
  refine own_go (B := T_1.setTop (mkF m 6 #[.val (.ref a0)] [])) (fun t k => ?_) ?_
  · show Steps p.tables e below (T_1.setTop (mkF m 3 #[.val (.ref a0)] [(.int w)])) _
    refine XS.ifNo X_1.here hx rfl (hb hby d4_3) rfl ((if0 _ _).trans (feq hw0).1) ?_
    exact k
  refine own_go (B := T_1.setTop (mkF m 7 #[.val (.ref a0)] [(.ref a0)])) (fun t k => ?_) ?_
  · show Steps p.tables e below (T_1.setTop (mkF m 6 #[.val (.ref a0)] [])) _
    refine XS.aloadN X_1.here hx rfl (hb hby d4_6) rfl rfl ?_
    exact k
  obtain ⟨T_2, X_2, e_2, st_2⟩ := getF X_1 hx hZ hown (host := "") (Or.inl (hw _ (List.mem_of_getElem? (i := 30) rfl))) Via.refl e_1 F_coder_a0 (g := (mkF m 7 #[.val (.ref a0)] [(.ref a0)])) rfl rfl (hb hby d4_7)
  refine own_go (B := T_2.setTop (mkF m 10 #[.val (.ref a0)] [(.int (0 : Int32))])) (fun t k => st_2 t k) ?_
  refine own_go (B := T_2.setTop (mkF m 13 #[.val (.ref a0)] [])) (fun t k => ?_) ?_
  · show Steps p.tables e below (T_2.setTop (mkF m 10 #[.val (.ref a0)] [(.int (0 : Int32))])) _
    refine XS.ifNo X_2.here hx rfl (hb hby d4_10) rfl ((if0 _ _).trans (teq (by decide : (0 : Int32) = (0 : Int32))).2) ?_
    exact k
  refine own_go (B := T_2.setTop (mkF m 18 #[.val (.ref a0)] [(.int (1 : Int32))])) (fun t k => ?_) ?_
  · show Steps p.tables e below (T_2.setTop (mkF m 13 #[.val (.ref a0)] [])) _
    refine XS.iconst X_2.here hx rfl (hb hby d4_13) ?_
    show Steps p.tables e below (T_2.setTop (mkF m 14 #[.val (.ref a0)] [(.int (1 : Int32))])) _
    refine XS.goto X_2.here hx rfl (pc0 := 14) (pc' := 18) rfl (hb hby d4_14) (by decide) (by decide) ?_
    exact k
  obtain ⟨fs, hr, hrun, hended, hW, hsame⟩ := X_2.leave (v := some (.int (1 : Int32))) (fun h => by rw [Bd.returns] at h; cases h)
  refine ⟨_, _, ?_, hrun, hended, _, _, rfl, ?_, ⟨_, rfl⟩, hW, hsame.mono (by decide) (by decide)⟩
  · show Steps p.tables e below (T_2.setTop (mkF m 18 #[.val (.ref a0)] [(.int (1 : Int32))])) _
    exact retN X_2 hx (t := .boolean) Bd.returns (by simp) (hb hby d4_18) hr
  · show Q4 Z a0 w h0 n0 _ T_2.heap _
    rw [e_2]
    exact ⟨rfl, N0, rfl⟩
theorem d5_0 : decode jdk_42_method_54_code 0 = .ok (.aload_n 0, 1) := by decide +kernel
theorem d5_1 : decode jdk_42_method_54_code 1 = .ok (.getfield 9, 3) := by decide +kernel
theorem d5_4 : decode jdk_42_method_54_code 4 = .ok (.arraylength, 1) := by decide +kernel
theorem d5_5 : decode jdk_42_method_54_code 5 = .ok (.aload_n 0, 1) := by decide +kernel
theorem d5_6 : decode jdk_42_method_54_code 6 = .ok (.invokevirtual 335, 3) := by decide +kernel
theorem d5_9 : decode jdk_42_method_54_code 9 = .ok (.ishr, 1) := by decide +kernel
theorem d5_10 : decode jdk_42_method_54_code 10 = .ok (.ireturn, 1) := by decide +kernel
theorem pn_5 : plainName "java/lang/String" = true := by first | (simp [plainName, overriddenIn]; done) | decide +kernel
theorem ef_5 (m : MethodId) (a0 : Addr) : entryFrame m #[(.ref a0)] 1 = mkF m 0 #[.val (.ref a0)] [] := by first | (simp [entryFrame, mkF, argsToLocals, Value.category]; done) | rfl
theorem pd_3 : parseMethodDescriptor "()B" = some ⟨[], some .byte⟩ := by decide +kernel
def Q5 (Z : State) (a0 : Addr) (b0 : Addr) (kk : ClassId) (w : Int32) (h0 : Heap) (n0 : Nat) (v : Option Value) (h : Heap) (L : List Loc) : Prop := v = some (.int (9 : Int32)) ∧ Fr n0 L ∧ h = h0
set_option maxRecDepth 65536 in
set_option maxHeartbeats 40000000 in
theorem rm5 (l : Launch) (Z : State) (av0 : Array Value) (hw : ∀ d ∈ tables_1, d.before av0 Z = true) (ws : List Jvm.Cond) (a0 : Addr) (b0 : Addr) (kk : ClassId) (w : Int32) (h0 : Heap) (n0 : Nat) (Z0 : n0 ≤ h0.size) (E_a0 : Exa Z h0 a0 "java/lang/String") (F_coder_a0 : Fld Z h0 a0 "java/lang/String" "coder" "B" (.int (0 : Int32))) (F_value_a0 : Fld Z h0 a0 "java/lang/String" "value" "[B" (.ref b0)) (S_COMPACT_STRINGS : Sta Z h0 "java/lang/String" "COMPACT_STRINGS" "Z" (.int w)) (hw0 : ¬ (w = (0 : Int32))) (V0 : Arv Z h0 b0 kk .byte (9 : Int32) [(.int (60 : Int32)), (.int (62 : Int32)), (.int (34 : Int32)), (.int (123 : Int32)), (.int (125 : Int32)), (.int (124 : Int32)), (.int (94 : Int32)), (.int (96 : Int32)), (.int (92 : Int32))] (.int 0)) :
    MetFree l (⟨"java/lang/String", "length", "()I"⟩ : MethodName) (head1 (Jvm.Cond.code (⟨"java/lang/String", "length", "()I"⟩ : MethodName) jdk_42_method_54_code 1 (some .int) :: ws) ({ frames := 1, cells := 0, slots := 0, locals := 13 } : Room)) (fun a U => a = #[(.ref a0)] ∧ Z.Warmed39 U.vm ∧ U.heap = h0) (fun _ _ _ _ _ => True) (fun _ U o U' => ∃ v L, o = .returned v ∧ Q5 Z a0 b0 kk w h0 n0 v U'.heap L ∧ FrameEnd U o U' L ({ frames := 1, cells := 0, slots := 0, locals := 13 } : Room).cells ({ frames := 1, cells := 0, slots := 0, locals := 13 } : Room).slots) := by
  refine MetFree.of_bodySF (plainFor_of_name pn_5) hisR ?_
  intro p e s m args below meth c s₁ Bd hml0 hP hK
  obtain ⟨rfl, hZ, hh⟩ := hP
  have hx := Bd.exec
  have hby := Bd.bytes
  have hml : c.maxLocals = 1 := hml0
  have hown : s.vm.findClass "java/lang/String" = some m.cls := findClass_of_methodNamed Bd.named
  have hnm := (name_of_methodNamed Bd.named Bd.method).1
  have X0 : Stand p l e ({ frames := 1, cells := 0, slots := 0, locals := 13 } : Room) s m #[(.ref a0)] below meth c s₁ [] 0 0 := Stand.of_body Bd
  have e0 : s₁.heap = h0 := by rw [← hh, Bd.state]; rfl
  have N0 := Fr.nil n0
  have K0 : Keep h0 h0 [] := Keep.refl h0 []
  refine own_go (B := s₁.setTop (mkF m 0 #[.val (.ref a0)] [])) (fun t k => castTop (ef_5 m a0) k) ?_
  refine own_go (B := s₁.setTop (mkF m 1 #[.val (.ref a0)] [(.ref a0)])) (fun t k => ?_) ?_
  · show Steps p.tables e below (s₁.setTop (mkF m 0 #[.val (.ref a0)] [])) _
    refine XS.aloadN X0.here hx rfl (hb hby d5_0) rfl rfl ?_
    exact k
  obtain ⟨T_1, X_1, e_1, st_1⟩ := getF X0 hx hZ hown (host := "") (Or.inl (hw _ (List.mem_of_getElem? (i := 31) rfl))) Via.refl e0 F_value_a0 (g := (mkF m 1 #[.val (.ref a0)] [(.ref a0)])) rfl rfl (hb hby d5_1)
  refine own_go (B := T_1.setTop (mkF m 4 #[.val (.ref a0)] [(.ref b0)])) (fun t k => st_1 t k) ?_
  obtain ⟨cl_2, Ar_2, -, S_2, M_2, -, -⟩ := id V0
  refine own_go (B := T_1.setTop (mkF m 5 #[.val (.ref a0)] [(.int (9 : Int32))])) (fun t k => X_1.arraylength hx (by rw [(e_1 : _ = _)]; exact Ar_2.1) (State.isArrayOf_alike hZ.alike Ar_2.2.1) (g := (mkF m 4 #[.val (.ref a0)] [(.ref b0)])) rfl rfl (hb hby d5_4) t (by rw [len_of S_2 M_2]; exact k)) ?_
  refine own_go (B := T_1.setTop (mkF m 6 #[.val (.ref a0)] [(.ref a0), (.int (9 : Int32))])) (fun t k => ?_) ?_
  · show Steps p.tables e below (T_1.setTop (mkF m 5 #[.val (.ref a0)] [(.int (9 : Int32))])) _
    refine XS.aloadN X_1.here hx rfl (hb hby d5_5) rfl rfl ?_
    exact k
  obtain ⟨cq_3, kq_3, q_3a, q_3b, q_3c⟩ := isOf hZ e_1 E_a0
  obtain ⟨_, _, ⟨T_3, L_3, k_3, n_3⟩, -, X_3, ⟨Lc_3, hQ_3, l_3, y_3, z_3⟩, st_3⟩ := X_1.virtualBack hx (y := (⟨"java/lang/String", "coder", "()B"⟩ : MethodName)) (z := (⟨"java/lang/String", "coder", "()B"⟩ : MethodName)) hown (mvT hZ (hw _ (List.mem_of_getElem? (i := 37) rfl))) (mvT hZ (hw _ (List.mem_of_getElem? (i := 38) rfl))) (notFace_of_selects (args := #[]) (mvT hZ (hw _ (List.mem_of_getElem? (i := 40) rfl)))) (mvT hZ (hw _ (List.mem_of_getElem? (i := 40) rfl))) (mvT hZ (hw _ (List.mem_of_getElem? (i := 39) rfl))) (by decide) (backOf (W := 1) (rm6 l Z av0 hw [] a0 w h0 n0 Z0 F_coder_a0 S_COMPACT_STRINGS hw0) hZ (hw _ (List.mem_of_getElem? (i := 41) rfl)) (hw _ (List.mem_of_getElem? (i := 7) rfl)) (by decide) (by decide)) q_3a q_3c (g := (mkF m 6 #[.val (.ref a0)] [(.ref a0), (.int (9 : Int32))])) rfl (by rw [hml]; rfl) (Steps.refl _) (argsL := []) (rest := [(.int (9 : Int32))]) (lenOf pd_3 rfl) rfl (by show 2 * 0 + _ ≤ _; exact Nat.le_of_eq rfl) (hb hby d5_6) (fun _ _ => ⟨rfl, e_1, (by decide : 0 + 0 ≤ _), (by decide : 0 + 0 ≤ _)⟩)
  dsimp only [Pt.U, Pt.locs, Pt.cells, Pt.slots] at X_3 l_3 y_3 z_3 st_3 hQ_3
  subst l_3 y_3 z_3
  obtain ⟨rfl, N_3q, e_3⟩ := hQ_3
  have N_3 := Fr.app N0 N_3q
  refine own_go (B := T_3.setTop (mkF m 9 #[.val (.ref a0)] [(.int (0 : Int32)), (.int (9 : Int32))])) (fun t k => st_3.trans k) ?_
  refine own_go (B := T_3.setTop (mkF m 10 #[.val (.ref a0)] [(.int ((9 : Int32) >>> ((0 : Int32) &&& 31)))])) (fun t k => ?_) ?_
  · show Steps p.tables e below (T_3.setTop (mkF m 9 #[.val (.ref a0)] [(.int (0 : Int32)), (.int (9 : Int32))])) _
    refine XS.ishr X_3.here hx rfl (hb hby d5_9) rfl ?_
    exact k
  obtain ⟨fs, hr, hrun, hended, hW, hsame⟩ := X_3.leave (v := some (.int ((9 : Int32) >>> ((0 : Int32) &&& 31)))) (fun h => by rw [Bd.returns] at h; cases h)
  refine ⟨_, _, ?_, hrun, hended, _, _, rfl, ?_, ⟨_, rfl⟩, hW, hsame.mono (by decide) (by decide)⟩
  · show Steps p.tables e below (T_3.setTop (mkF m 10 #[.val (.ref a0)] [(.int ((9 : Int32) >>> ((0 : Int32) &&& 31)))])) _
    exact retI X_3 hx Bd.returns (hb hby d5_10) hr
  · show Q5 Z a0 b0 kk w h0 n0 _ T_3.heap _
    rw [e_3]
    exact ⟨congrArg (fun z => some (Value.int z)) (by decide), N_3, rfl⟩
theorem d3_0 : decode jdk_42_method_80_code 0 = .ok (.aload_n 0, 1) := by decide +kernel
theorem d3_1 : decode jdk_42_method_80_code 1 = .ok (.invokevirtual 492, 3) := by decide +kernel
theorem d3_4 : decode jdk_42_method_80_code 4 = .ok (.ifCond .eq 19, 3) := by decide +kernel
theorem d3_7 : decode jdk_42_method_80_code 7 = .ok (.aload_n 0, 1) := by decide +kernel
theorem d3_8 : decode jdk_42_method_80_code 8 = .ok (.getfield 9, 3) := by decide +kernel
theorem d3_11 : decode jdk_42_method_80_code 11 = .ok (.iload_n 1, 1) := by decide +kernel
theorem d3_12 : decode jdk_42_method_80_code 12 = .ok (.iload_n 2, 1) := by decide +kernel
theorem d3_13 : decode jdk_42_method_80_code 13 = .ok (.aload_n 0, 1) := by decide +kernel
theorem d3_14 : decode jdk_42_method_80_code 14 = .ok (.invokevirtual 505, 3) := by decide +kernel
theorem d3_17 : decode jdk_42_method_80_code 17 = .ok (.invokestatic 637, 3) := by decide +kernel
theorem d3_20 : decode jdk_42_method_80_code 20 = .ok (.goto 16, 3) := by decide +kernel
theorem d3_36 : decode jdk_42_method_80_code 36 = .ok (.ireturn, 1) := by decide +kernel
theorem pn_3 : plainName "java/lang/String" = true := by first | (simp [plainName, overriddenIn]; done) | decide +kernel
theorem ef_3 (m : MethodId) (a0 : Addr) (p1 : Int32) : entryFrame m #[(.ref a0), (.int p1), (.int (0 : Int32))] 3 = mkF m 0 #[.val (.ref a0), .val (.int p1), .val (.int (0 : Int32))] [] := by first | (simp [entryFrame, mkF, argsToLocals, Value.category]; done) | rfl
theorem pd_4 : parseMethodDescriptor "()Z" = some ⟨[], some .boolean⟩ := by decide +kernel
theorem pd_5 : parseMethodDescriptor "()I" = some ⟨[], some .int⟩ := by decide +kernel
def Q3 (Z : State) (a0 : Addr) (p1 : Int32) (b0 : Addr) (kk : ClassId) (w : Int32) (h0 : Heap) (n0 : Nat) (v : Option Value) (h : Heap) (L : List Loc) : Prop := v = some (.int (own_ixl p1)) ∧ Fr n0 L ∧ h = h0
set_option maxRecDepth 65536 in
set_option maxHeartbeats 40000000 in
theorem rm3 (l : Launch) (Z : State) (av0 : Array Value) (hw : ∀ d ∈ tables_1, d.before av0 Z = true) (ws : List Jvm.Cond) (a0 : Addr) (p1 : Int32) (b0 : Addr) (kk : ClassId) (w : Int32) (h0 : Heap) (n0 : Nat) (Z0 : n0 ≤ h0.size) (E_a0 : Exa Z h0 a0 "java/lang/String") (F_coder_a0 : Fld Z h0 a0 "java/lang/String" "coder" "B" (.int (0 : Int32))) (F_value_a0 : Fld Z h0 a0 "java/lang/String" "value" "[B" (.ref b0)) (S_COMPACT_STRINGS : Sta Z h0 "java/lang/String" "COMPACT_STRINGS" "Z" (.int w)) (hw0 : ¬ (w = (0 : Int32))) (V0 : Arv Z h0 b0 kk .byte (9 : Int32) [(.int (60 : Int32)), (.int (62 : Int32)), (.int (34 : Int32)), (.int (123 : Int32)), (.int (125 : Int32)), (.int (124 : Int32)), (.int (94 : Int32)), (.int (96 : Int32)), (.int (92 : Int32))] (.int 0)) :
    MetFree l (⟨"java/lang/String", "indexOf", "(II)I"⟩ : MethodName) (head1 (Jvm.Cond.code (⟨"java/lang/String", "indexOf", "(II)I"⟩ : MethodName) jdk_42_method_80_code 3 (some .int) :: ws) ({ frames := 2, cells := 0, slots := 0, locals := 32 } : Room)) (fun a U => a = #[(.ref a0), (.int p1), (.int (0 : Int32))] ∧ Z.Warmed39 U.vm ∧ U.heap = h0) (fun _ _ _ _ _ => True) (fun _ U o U' => ∃ v L, o = .returned v ∧ Q3 Z a0 p1 b0 kk w h0 n0 v U'.heap L ∧ FrameEnd U o U' L ({ frames := 2, cells := 0, slots := 0, locals := 32 } : Room).cells ({ frames := 2, cells := 0, slots := 0, locals := 32 } : Room).slots) := by
  refine MetFree.of_bodySF (plainFor_of_name pn_3) hisR ?_
  intro p e s m args below meth c s₁ Bd hml0 hP hK
  obtain ⟨rfl, hZ, hh⟩ := hP
  have hx := Bd.exec
  have hby := Bd.bytes
  have hml : c.maxLocals = 3 := hml0
  have hown : s.vm.findClass "java/lang/String" = some m.cls := findClass_of_methodNamed Bd.named
  have hnm := (name_of_methodNamed Bd.named Bd.method).1
  have X0 : Stand p l e ({ frames := 2, cells := 0, slots := 0, locals := 32 } : Room) s m #[(.ref a0), (.int p1), (.int (0 : Int32))] below meth c s₁ [] 0 0 := Stand.of_body Bd
  have e0 : s₁.heap = h0 := by rw [← hh, Bd.state]; rfl
  have N0 := Fr.nil n0
  have K0 : Keep h0 h0 [] := Keep.refl h0 []
  refine own_go (B := s₁.setTop (mkF m 0 #[.val (.ref a0), .val (.int p1), .val (.int (0 : Int32))] [])) (fun t k => castTop (ef_3 m a0 p1) k) ?_
  refine own_go (B := s₁.setTop (mkF m 1 #[.val (.ref a0), .val (.int p1), .val (.int (0 : Int32))] [(.ref a0)])) (fun t k => ?_) ?_
  · show Steps p.tables e below (s₁.setTop (mkF m 0 #[.val (.ref a0), .val (.int p1), .val (.int (0 : Int32))] [])) _
    refine XS.aloadN X0.here hx rfl (hb hby d3_0) rfl rfl ?_
    exact k
  obtain ⟨cq_1, kq_1, q_1a, q_1b, q_1c⟩ := isOf hZ e0 E_a0
  obtain ⟨_, _, ⟨T_1, L_1, k_1, n_1⟩, -, X_1, ⟨Lc_1, hQ_1, l_1, y_1, z_1⟩, st_1⟩ := X0.virtualBack hx (y := (⟨"java/lang/String", "isLatin1", "()Z"⟩ : MethodName)) (z := (⟨"java/lang/String", "isLatin1", "()Z"⟩ : MethodName)) hown (mvT hZ (hw _ (List.mem_of_getElem? (i := 24) rfl))) (mvT hZ (hw _ (List.mem_of_getElem? (i := 25) rfl))) (notFace_of_selects (args := #[]) (mvT hZ (hw _ (List.mem_of_getElem? (i := 27) rfl)))) (mvT hZ (hw _ (List.mem_of_getElem? (i := 27) rfl))) (mvT hZ (hw _ (List.mem_of_getElem? (i := 26) rfl))) (by decide) (backOf (W := 0) (rm4 l Z av0 hw [] a0 w h0 n0 Z0 F_coder_a0 S_COMPACT_STRINGS hw0) hZ (hw _ (List.mem_of_getElem? (i := 28) rfl)) (hw _ (List.mem_of_getElem? (i := 7) rfl)) (by decide) (by decide)) q_1a q_1c (g := (mkF m 1 #[.val (.ref a0), .val (.int p1), .val (.int (0 : Int32))] [(.ref a0)])) rfl (by rw [hml]; rfl) (Steps.refl _) (argsL := []) (rest := []) (lenOf pd_4 rfl) rfl (by show 2 * 0 + _ ≤ _; exact Nat.le_of_eq rfl) (hb hby d3_1) (fun _ _ => ⟨rfl, e0, (by decide : 0 + 0 ≤ _), (by decide : 0 + 0 ≤ _)⟩)
  dsimp only [Pt.U, Pt.locs, Pt.cells, Pt.slots] at X_1 l_1 y_1 z_1 st_1 hQ_1
  subst l_1 y_1 z_1
  obtain ⟨rfl, N_1q, e_1⟩ := hQ_1
  have N_1 := Fr.app N0 N_1q
  refine own_go (B := T_1.setTop (mkF m 4 #[.val (.ref a0), .val (.int p1), .val (.int (0 : Int32))] [(.int (1 : Int32))])) (fun t k => st_1.trans k) ?_
  refine own_go (B := T_1.setTop (mkF m 7 #[.val (.ref a0), .val (.int p1), .val (.int (0 : Int32))] [])) (fun t k => ?_) ?_
  · show Steps p.tables e below (T_1.setTop (mkF m 4 #[.val (.ref a0), .val (.int p1), .val (.int (0 : Int32))] [(.int (1 : Int32))])) _
    refine XS.ifNo X_1.here hx rfl (hb hby d3_4) rfl ((if0 _ _).trans (feq (by decide : ¬ ((1 : Int32) = (0 : Int32)))).1) ?_
    exact k
  refine own_go (B := T_1.setTop (mkF m 8 #[.val (.ref a0), .val (.int p1), .val (.int (0 : Int32))] [(.ref a0)])) (fun t k => ?_) ?_
  · show Steps p.tables e below (T_1.setTop (mkF m 7 #[.val (.ref a0), .val (.int p1), .val (.int (0 : Int32))] [])) _
    refine XS.aloadN X_1.here hx rfl (hb hby d3_7) rfl rfl ?_
    exact k
  obtain ⟨T_2, X_2, e_2, st_2⟩ := getF X_1 hx hZ hown (host := "") (Or.inl (hw _ (List.mem_of_getElem? (i := 31) rfl))) Via.refl e_1 F_value_a0 (g := (mkF m 8 #[.val (.ref a0), .val (.int p1), .val (.int (0 : Int32))] [(.ref a0)])) rfl rfl (hb hby d3_8)
  refine own_go (B := T_2.setTop (mkF m 11 #[.val (.ref a0), .val (.int p1), .val (.int (0 : Int32))] [(.ref b0)])) (fun t k => st_2 t k) ?_
  refine own_go (B := T_2.setTop (mkF m 14 #[.val (.ref a0), .val (.int p1), .val (.int (0 : Int32))] [(.ref a0), (.int (0 : Int32)), (.int p1), (.ref b0)])) (fun t k => ?_) ?_
  · show Steps p.tables e below (T_2.setTop (mkF m 11 #[.val (.ref a0), .val (.int p1), .val (.int (0 : Int32))] [(.ref b0)])) _
    refine XS.iloadN X_2.here hx rfl (hb hby d3_11) rfl ?_
    show Steps p.tables e below (T_2.setTop (mkF m 12 #[.val (.ref a0), .val (.int p1), .val (.int (0 : Int32))] [(.int p1), (.ref b0)])) _
    refine XS.iloadN X_2.here hx rfl (hb hby d3_12) rfl ?_
    show Steps p.tables e below (T_2.setTop (mkF m 13 #[.val (.ref a0), .val (.int p1), .val (.int (0 : Int32))] [(.int (0 : Int32)), (.int p1), (.ref b0)])) _
    refine XS.aloadN X_2.here hx rfl (hb hby d3_13) rfl rfl ?_
    exact k
  obtain ⟨cq_3, kq_3, q_3a, q_3b, q_3c⟩ := isOf hZ e_2 E_a0
  obtain ⟨_, _, ⟨T_3, L_3, k_3, n_3⟩, -, X_3, ⟨Lc_3, hQ_3, l_3, y_3, z_3⟩, st_3⟩ := X_2.virtualBack hx (y := (⟨"java/lang/String", "length", "()I"⟩ : MethodName)) (z := (⟨"java/lang/String", "length", "()I"⟩ : MethodName)) hown (mvT hZ (hw _ (List.mem_of_getElem? (i := 32) rfl))) (mvT hZ (hw _ (List.mem_of_getElem? (i := 33) rfl))) (notFace_of_selects (args := #[]) (mvT hZ (hw _ (List.mem_of_getElem? (i := 35) rfl)))) (mvT hZ (hw _ (List.mem_of_getElem? (i := 35) rfl))) (mvT hZ (hw _ (List.mem_of_getElem? (i := 34) rfl))) (by decide) (backOf (W := 3) (rm5 l Z av0 hw [] a0 b0 kk w h0 n0 Z0 E_a0 F_coder_a0 F_value_a0 S_COMPACT_STRINGS hw0 V0) hZ (hw _ (List.mem_of_getElem? (i := 36) rfl)) (hw _ (List.mem_of_getElem? (i := 7) rfl)) (by decide) (by decide)) q_3a q_3c (g := (mkF m 14 #[.val (.ref a0), .val (.int p1), .val (.int (0 : Int32))] [(.ref a0), (.int (0 : Int32)), (.int p1), (.ref b0)])) rfl (by rw [hml]; rfl) (Steps.refl _) (argsL := []) (rest := [(.int (0 : Int32)), (.int p1), (.ref b0)]) (lenOf pd_5 rfl) rfl (by show 2 * 0 + _ ≤ _; exact Nat.le_of_eq rfl) (hb hby d3_14) (fun _ _ => ⟨rfl, e_2, (by decide : 0 + 0 ≤ _), (by decide : 0 + 0 ≤ _)⟩)
  dsimp only [Pt.U, Pt.locs, Pt.cells, Pt.slots] at X_3 l_3 y_3 z_3 st_3 hQ_3
  subst l_3 y_3 z_3
  obtain ⟨rfl, N_3q, e_3⟩ := hQ_3
  have N_3 := Fr.app N_1 N_3q
  refine own_go (B := T_3.setTop (mkF m 17 #[.val (.ref a0), .val (.int p1), .val (.int (0 : Int32))] [(.int (9 : Int32)), (.int (0 : Int32)), (.int p1), (.ref b0)])) (fun t k => st_3.trans k) ?_
  obtain ⟨_, _, ⟨T_4, L_4, k_4, n_4⟩, -, X_4, ⟨Lc_4, hQ_4, l_4, y_4, z_4⟩, st_4⟩ := Jvm.LawKit.callS X_3 hx (y := (⟨"java/lang/StringLatin1", "indexOf", "([BIII)I"⟩ : MethodName)) hown (mvT hZ (hw _ (List.mem_of_getElem? (i := 42) rfl))) (mvT hZ (hw _ (List.mem_of_getElem? (i := 43) rfl))) (mvT hZ (hw _ (List.mem_of_getElem? (i := 44) rfl))) (mvT hZ (hw _ (List.mem_of_getElem? (i := 45) rfl))) (by decide) (backOf (W := 0) (rm7 l Z av0 hw [] b0 p1 kk h0 n0 Z0 V0) hZ (hw _ (List.mem_of_getElem? (i := 45) rfl)) (hw _ (List.mem_of_getElem? (i := 44) rfl)) (by decide) (by decide)) (g := (mkF m 17 #[.val (.ref a0), .val (.int p1), .val (.int (0 : Int32))] [(.int (9 : Int32)), (.int (0 : Int32)), (.int p1), (.ref b0)])) rfl (by rw [hml]; rfl) (argsL := [(.ref b0), (.int p1), (.int (0 : Int32)), (.int (9 : Int32))]) (rest := []) (lenOf pd_2 rfl) rfl (by show 2 * 0 + _ ≤ _; exact Nat.le_of_eq rfl) (hb hby d3_17) (fun _ _ => ⟨rfl, e_3, (by decide : 0 + 0 ≤ _), (by decide : 0 + 0 ≤ _)⟩)
  dsimp only [Pt.U, Pt.locs, Pt.cells, Pt.slots] at X_4 l_4 y_4 z_4 st_4 hQ_4
  subst l_4 y_4 z_4
  obtain ⟨rfl, N_4q, e_4⟩ := hQ_4
  have N_4 := Fr.app N_3 N_4q
  refine own_go (B := T_4.setTop (mkF m 20 #[.val (.ref a0), .val (.int p1), .val (.int (0 : Int32))] [(.int (own_ixl p1))])) (fun t k => st_4 t k) ?_
  refine own_go (B := T_4.setTop (mkF m 36 #[.val (.ref a0), .val (.int p1), .val (.int (0 : Int32))] [(.int (own_ixl p1))])) (fun t k => ?_) ?_
  · show Steps p.tables e below (T_4.setTop (mkF m 20 #[.val (.ref a0), .val (.int p1), .val (.int (0 : Int32))] [(.int (own_ixl p1))])) _
    refine XS.goto X_4.here hx rfl (pc0 := 20) (pc' := 36) rfl (hb hby d3_20) (by decide) (by decide) ?_
    exact k
  obtain ⟨fs, hr, hrun, hended, hW, hsame⟩ := X_4.leave (v := some (.int (own_ixl p1))) (fun h => by rw [Bd.returns] at h; cases h)
  refine ⟨_, _, ?_, hrun, hended, _, _, rfl, ?_, ⟨_, rfl⟩, hW, hsame.mono (by decide) (by decide)⟩
  · show Steps p.tables e below (T_4.setTop (mkF m 36 #[.val (.ref a0), .val (.int p1), .val (.int (0 : Int32))] [(.int (own_ixl p1))])) _
    exact retI X_4 hx Bd.returns (hb hby d3_36) hr
  · show Q3 Z a0 p1 b0 kk w h0 n0 _ T_4.heap _
    rw [e_4]
    exact ⟨rfl, N_4, rfl⟩
theorem d2_0 : decode jdk_42_method_79_code 0 = .ok (.aload_n 0, 1) := by decide +kernel
theorem d2_1 : decode jdk_42_method_79_code 1 = .ok (.iload_n 1, 1) := by decide +kernel
theorem d2_2 : decode jdk_42_method_79_code 2 = .ok (.iconst 0, 1) := by decide +kernel
theorem d2_3 : decode jdk_42_method_79_code 3 = .ok (.invokevirtual 633, 3) := by decide +kernel
theorem d2_6 : decode jdk_42_method_79_code 6 = .ok (.ireturn, 1) := by decide +kernel
theorem pn_2 : plainName "java/lang/String" = true := by first | (simp [plainName, overriddenIn]; done) | decide +kernel
theorem ef_2 (m : MethodId) (a0 : Addr) (p1 : Int32) : entryFrame m #[(.ref a0), (.int p1)] 2 = mkF m 0 #[.val (.ref a0), .val (.int p1)] [] := by first | (simp [entryFrame, mkF, argsToLocals, Value.category]; done) | rfl
def Q2 (Z : State) (a0 : Addr) (p1 : Int32) (b0 : Addr) (kk : ClassId) (w : Int32) (h0 : Heap) (n0 : Nat) (v : Option Value) (h : Heap) (L : List Loc) : Prop := v = some (.int (own_ixl p1)) ∧ Fr n0 L ∧ h = h0
set_option maxRecDepth 65536 in
set_option maxHeartbeats 40000000 in
theorem rm2 (l : Launch) (Z : State) (av0 : Array Value) (hw : ∀ d ∈ tables_1, d.before av0 Z = true) (ws : List Jvm.Cond) (a0 : Addr) (p1 : Int32) (b0 : Addr) (kk : ClassId) (w : Int32) (h0 : Heap) (n0 : Nat) (Z0 : n0 ≤ h0.size) (E_a0 : Exa Z h0 a0 "java/lang/String") (F_coder_a0 : Fld Z h0 a0 "java/lang/String" "coder" "B" (.int (0 : Int32))) (F_value_a0 : Fld Z h0 a0 "java/lang/String" "value" "[B" (.ref b0)) (S_COMPACT_STRINGS : Sta Z h0 "java/lang/String" "COMPACT_STRINGS" "Z" (.int w)) (hw0 : ¬ (w = (0 : Int32))) (V0 : Arv Z h0 b0 kk .byte (9 : Int32) [(.int (60 : Int32)), (.int (62 : Int32)), (.int (34 : Int32)), (.int (123 : Int32)), (.int (125 : Int32)), (.int (124 : Int32)), (.int (94 : Int32)), (.int (96 : Int32)), (.int (92 : Int32))] (.int 0)) :
    MetFree l (⟨"java/lang/String", "indexOf", "(I)I"⟩ : MethodName) (head1 (Jvm.Cond.code (⟨"java/lang/String", "indexOf", "(I)I"⟩ : MethodName) jdk_42_method_79_code 2 (some .int) :: ws) ({ frames := 3, cells := 0, slots := 0, locals := 46 } : Room)) (fun a U => a = #[(.ref a0), (.int p1)] ∧ Z.Warmed39 U.vm ∧ U.heap = h0) (fun _ _ _ _ _ => True) (fun _ U o U' => ∃ v L, o = .returned v ∧ Q2 Z a0 p1 b0 kk w h0 n0 v U'.heap L ∧ FrameEnd U o U' L ({ frames := 3, cells := 0, slots := 0, locals := 46 } : Room).cells ({ frames := 3, cells := 0, slots := 0, locals := 46 } : Room).slots) := by
  refine MetFree.of_bodySF (plainFor_of_name pn_2) hisR ?_
  intro p e s m args below meth c s₁ Bd hml0 hP hK
  obtain ⟨rfl, hZ, hh⟩ := hP
  have hx := Bd.exec
  have hby := Bd.bytes
  have hml : c.maxLocals = 2 := hml0
  have hown : s.vm.findClass "java/lang/String" = some m.cls := findClass_of_methodNamed Bd.named
  have hnm := (name_of_methodNamed Bd.named Bd.method).1
  have X0 : Stand p l e ({ frames := 3, cells := 0, slots := 0, locals := 46 } : Room) s m #[(.ref a0), (.int p1)] below meth c s₁ [] 0 0 := Stand.of_body Bd
  have e0 : s₁.heap = h0 := by rw [← hh, Bd.state]; rfl
  have N0 := Fr.nil n0
  have K0 : Keep h0 h0 [] := Keep.refl h0 []
  refine own_go (B := s₁.setTop (mkF m 0 #[.val (.ref a0), .val (.int p1)] [])) (fun t k => castTop (ef_2 m a0 p1) k) ?_
  refine own_go (B := s₁.setTop (mkF m 3 #[.val (.ref a0), .val (.int p1)] [(.int (0 : Int32)), (.int p1), (.ref a0)])) (fun t k => ?_) ?_
  · show Steps p.tables e below (s₁.setTop (mkF m 0 #[.val (.ref a0), .val (.int p1)] [])) _
    refine XS.aloadN X0.here hx rfl (hb hby d2_0) rfl rfl ?_
    show Steps p.tables e below (s₁.setTop (mkF m 1 #[.val (.ref a0), .val (.int p1)] [(.ref a0)])) _
    refine XS.iloadN X0.here hx rfl (hb hby d2_1) rfl ?_
    show Steps p.tables e below (s₁.setTop (mkF m 2 #[.val (.ref a0), .val (.int p1)] [(.int p1), (.ref a0)])) _
    refine XS.iconst X0.here hx rfl (hb hby d2_2) ?_
    exact k
  obtain ⟨cq_1, kq_1, q_1a, q_1b, q_1c⟩ := isOf hZ e0 E_a0
  obtain ⟨_, _, ⟨T_1, L_1, k_1, n_1⟩, -, X_1, ⟨Lc_1, hQ_1, l_1, y_1, z_1⟩, st_1⟩ := X0.virtualBack hx (y := (⟨"java/lang/String", "indexOf", "(II)I"⟩ : MethodName)) (z := (⟨"java/lang/String", "indexOf", "(II)I"⟩ : MethodName)) hown (mvT hZ (hw _ (List.mem_of_getElem? (i := 19) rfl))) (mvT hZ (hw _ (List.mem_of_getElem? (i := 20) rfl))) (notFace_of_selects (args := #[]) (mvT hZ (hw _ (List.mem_of_getElem? (i := 22) rfl)))) (mvT hZ (hw _ (List.mem_of_getElem? (i := 22) rfl))) (mvT hZ (hw _ (List.mem_of_getElem? (i := 21) rfl))) (by decide) (backOf (W := 0) (rm3 l Z av0 hw [] a0 p1 b0 kk w h0 n0 Z0 E_a0 F_coder_a0 F_value_a0 S_COMPACT_STRINGS hw0 V0) hZ (hw _ (List.mem_of_getElem? (i := 23) rfl)) (hw _ (List.mem_of_getElem? (i := 7) rfl)) (by decide) (by decide)) q_1a q_1c (g := (mkF m 3 #[.val (.ref a0), .val (.int p1)] [(.int (0 : Int32)), (.int p1), (.ref a0)])) rfl (by rw [hml]; rfl) (Steps.refl _) (argsL := [(.int p1), (.int (0 : Int32))]) (rest := []) (lenOf pd_1 rfl) rfl (by show 2 * 0 + _ ≤ _; exact Nat.le_of_eq rfl) (hb hby d2_3) (fun _ _ => ⟨rfl, e0, (by decide : 0 + 0 ≤ _), (by decide : 0 + 0 ≤ _)⟩)
  dsimp only [Pt.U, Pt.locs, Pt.cells, Pt.slots] at X_1 l_1 y_1 z_1 st_1 hQ_1
  subst l_1 y_1 z_1
  obtain ⟨rfl, N_1q, e_1⟩ := hQ_1
  have N_1 := Fr.app N0 N_1q
  refine own_go (B := T_1.setTop (mkF m 6 #[.val (.ref a0), .val (.int p1)] [(.int (own_ixl p1))])) (fun t k => st_1.trans k) ?_
  obtain ⟨fs, hr, hrun, hended, hW, hsame⟩ := X_1.leave (v := some (.int (own_ixl p1))) (fun h => by rw [Bd.returns] at h; cases h)
  refine ⟨_, _, ?_, hrun, hended, _, _, rfl, ?_, ⟨_, rfl⟩, hW, hsame.mono (by decide) (by decide)⟩
  · show Steps p.tables e below (T_1.setTop (mkF m 6 #[.val (.ref a0), .val (.int p1)] [(.int (own_ixl p1))])) _
    exact retI X_1 hx Bd.returns (hb hby d2_6) hr
  · show Q2 Z a0 p1 b0 kk w h0 n0 _ T_1.heap _
    rw [e_1]
    exact ⟨rfl, N_1, rfl⟩
theorem d1_0 : decode prog_66_method_2_code 0 = .ok (.iload_n 0, 1) := by decide +kernel
theorem d1_1 : decode prog_66_method_2_code 1 = .ok (.bipush 32, 2) := by decide +kernel
theorem d1_3 : decode prog_66_method_2_code 3 = .ok (.if_icmp .le 16, 3) := by decide +kernel
theorem d1_6 : decode prog_66_method_2_code 6 = .ok (.ldc 74, 2) := by decide +kernel
theorem d1_8 : decode prog_66_method_2_code 8 = .ok (.iload_n 0, 1) := by decide +kernel
theorem d1_9 : decode prog_66_method_2_code 9 = .ok (.invokevirtual 76, 3) := by decide +kernel
theorem d1_12 : decode prog_66_method_2_code 12 = .ok (.ifCond .ge 7, 3) := by decide +kernel
theorem d1_15 : decode prog_66_method_2_code 15 = .ok (.iconst 1, 1) := by decide +kernel
theorem d1_16 : decode prog_66_method_2_code 16 = .ok (.goto 4, 3) := by decide +kernel
theorem d1_19 : decode prog_66_method_2_code 19 = .ok (.iconst 0, 1) := by decide +kernel
theorem d1_20 : decode prog_66_method_2_code 20 = .ok (.ireturn, 1) := by decide +kernel
theorem pn_1 : plainName "com/example/cutoff/cutoff/store/Iri" = true := by first | (simp [plainName, overriddenIn]; done) | decide +kernel
theorem ef_1 (m : MethodId) (p0 : Int32) : entryFrame m #[(.int p0)] 1 = mkF m 0 #[.val (.int p0)] [] := by first | (simp [entryFrame, mkF, argsToLocals, Value.category]; done) | rfl
theorem pd_6 : parseMethodDescriptor "(I)I" = some ⟨[.int], some .int⟩ := by decide +kernel
def own_can (p0 : Int32) : Int32 := (if (32 : Int32) < p0 then (if (own_ixl p0) < (0 : Int32) then (1 : Int32) else (0 : Int32)) else (0 : Int32))
def Q1 (Z : State) (p0 : Int32) (w : Int32) (h0 : Heap) (n0 : Nat) (v : Option Value) (h : Heap) (L : List Loc) : Prop := v = some (.int (own_can p0)) ∧ Fr n0 L ∧ Keep h0 h []
set_option maxRecDepth 65536 in
set_option maxHeartbeats 40000000 in
theorem rm1 (l : Launch) (Z : State) (av0 : Array Value) (hw : ∀ d ∈ tables_1, d.before av0 Z = true) (ws : List Jvm.Cond) (p0 : Int32) (w : Int32) (h0 : Heap) (n0 : Nat) (Z0 : n0 ≤ h0.size) (S_COMPACT_STRINGS : Sta Z h0 "java/lang/String" "COMPACT_STRINGS" "Z" (.int w)) (hw0 : ¬ (w = (0 : Int32))) (hEL : EW Z av0 own_EL) :
    MetFree l (⟨"com/example/cutoff/cutoff/store/Iri", "canHold", "(C)Z"⟩ : MethodName) (head1 (Jvm.Cond.code (⟨"com/example/cutoff/cutoff/store/Iri", "canHold", "(C)Z"⟩ : MethodName) prog_66_method_2_code 1 (some .boolean) :: ws) ({ frames := 4, cells := 2, slots := 40, locals := 59 } : Room)) (fun a U => a = #[(.int p0)] ∧ Z.Warmed39 U.vm ∧ U.heap = h0 ∧ CHv Z own_EL U.vm h0) (fun _ _ _ _ _ => True) (fun _ U o U' => ∃ v L, o = .returned v ∧ Q1 Z p0 w h0 n0 v U'.heap L ∧ CHr Z own_EL U.vm U.heap U'.vm U'.heap ∧ ReturnedEndW U o U' L ({ frames := 4, cells := 2, slots := 40, locals := 59 } : Room).cells ({ frames := 4, cells := 2, slots := 40, locals := 59 } : Room).slots) := by
  refine MetFree.of_bodySF (plainFor_of_name pn_1) hisR ?_
  intro p e s m args below meth c s₁ Bd hml0 hP hK
  obtain ⟨rfl, hZ, hh, H0⟩ := hP
  have hx := Bd.exec
  have hby := Bd.bytes
  have hml : c.maxLocals = 1 := hml0
  have hown : s.vm.findClass "com/example/cutoff/cutoff/store/Iri" = some m.cls := findClass_of_methodNamed Bd.named
  have hnm := (name_of_methodNamed Bd.named Bd.method).1
  have X0 : Stand p l e ({ frames := 4, cells := 2, slots := 40, locals := 59 } : Room) s m #[(.int p0)] below meth c s₁ [] 0 0 := Stand.of_body Bd
  have e0 : s₁.heap = h0 := by rw [← hh, Bd.state]; rfl
  have N0 := Fr.nil n0
  have K0 : Keep h0 h0 [] := Keep.refl h0 []
  refine own_go (B := s₁.setTop (mkF m 0 #[.val (.int p0)] [])) (fun t k => castTop (ef_1 m p0) k) ?_
  refine own_go (B := s₁.setTop (mkF m 3 #[.val (.int p0)] [(.int (32 : Int32)), (.int p0)])) (fun t k => ?_) ?_
  · show Steps p.tables e below (s₁.setTop (mkF m 0 #[.val (.int p0)] [])) _
    refine XS.iloadN X0.here hx rfl (hb hby d1_0) rfl ?_
    show Steps p.tables e below (s₁.setTop (mkF m 1 #[.val (.int p0)] [(.int p0)])) _
    refine XS.bipush X0.here hx rfl (hb hby d1_1) ?_
    exact k
  by_cases hc3 : (32 : Int32) < p0
  · refine own_go (B := s₁.setTop (mkF m 6 #[.val (.int p0)] [])) (fun t k => ?_) ?_
    · show Steps p.tables e below (s₁.setTop (mkF m 3 #[.val (.int p0)] [(.int (32 : Int32)), (.int p0)])) _
      refine XS.icmpNo X0.here hx rfl (hb hby d1_3) rfl (tlt hc3).2.2.2 ?_
      exact k
    have wS_1 : ∀ a ∈ Bundle.stringAtoms, a.before av0 Z = true := by
      intro a ha
      simp only [Bundle.stringAtoms, List.mem_cons, List.not_mem_nil, or_false] at ha
      rcases ha with rfl | rfl | rfl | rfl | rfl | rfl | rfl
      · exact (hw _ (List.mem_of_getElem? (i := 7) rfl))
      · exact (hw _ (List.mem_of_getElem? (i := 8) rfl))
      · exact (hw _ (List.mem_of_getElem? (i := 9) rfl))
      · exact (hw _ (List.mem_of_getElem? (i := 10) rfl))
      · exact (hw _ (List.mem_of_getElem? (i := 11) rfl))
      · exact (hw _ (List.mem_of_getElem? (i := 12) rfl))
      · exact (hw _ (List.mem_of_getElem? (i := 13) rfl))
    obtain ⟨b_1, T_1, h_1, k1_1, d_1, kc_1, X_1, e_1, E_1, Si_1, ls_1, hZ_1, hown_1, A_1, Fc_1, Fv_1, V_1, -, -, CH_1, -, -, st_1⟩ := ldcCH (s := s) (vm0 := s.vm) (show Stand p l e ({ frames := 4, cells := 2, slots := 40, locals := 59 } : Room) (s.setVm s.vm) m #[(.int p0)] below meth c s₁ _ _ _ from X0) hx hZ hown (hw _ (List.mem_of_getElem? (i := 6) rfl)) wS_1 e0 ((State.WarmedH.refl s).since 0) (Nat.zero_le _) hEL (List.mem_of_getElem? (i := 0) rfl) H0 (vs := [(.int (60 : Int32)), (.int (62 : Int32)), (.int (34 : Int32)), (.int (123 : Int32)), (.int (125 : Int32)), (.int (124 : Int32)), (.int (94 : Int32)), (.int (96 : Int32)), (.int (92 : Int32))]) (z := (9 : Int32)) ⟨by decide, rfl⟩ (by decide) rfl (g := (mkF m 6 #[.val (.int p0)] [])) rfl (hb hby d1_6) (n := 36) (by decide) (by decide) (by decide) (by decide)
    have c1 : Keep h0 h_1 [] := K0.ext E_1
    have c2 := S_COMPACT_STRINGS.ext E_1
    have Z0__1 : n0 ≤ h_1.size := Nat.le_trans Z0 E_1.1
    refine own_go (B := T_1.setTop (mkF m 8 #[.val (.int p0)] [(.ref b_1)])) (fun t k => st_1 t k) ?_
    refine own_go (B := T_1.setTop (mkF m 9 #[.val (.int p0)] [(.int p0), (.ref b_1)])) (fun t k => ?_) ?_
    · show Steps p.tables e below (T_1.setTop (mkF m 8 #[.val (.int p0)] [(.ref b_1)])) _
      refine XS.iloadN X_1.here hx rfl (hb hby d1_8) rfl ?_
      exact k
    obtain ⟨cq_2, kq_2, q_2a, q_2b, q_2c⟩ := isOf hZ_1 e_1 A_1
    obtain ⟨_, _, ⟨T_2, L_2, k_2, n_2⟩, -, X_2, ⟨Lc_2, hQ_2, l_2, y_2, z_2⟩, st_2⟩ := X_1.virtualBack hx (y := (⟨"java/lang/String", "indexOf", "(I)I"⟩ : MethodName)) (z := (⟨"java/lang/String", "indexOf", "(I)I"⟩ : MethodName)) hown_1 (mvT hZ_1 (hw _ (List.mem_of_getElem? (i := 14) rfl))) (mvT hZ_1 (hw _ (List.mem_of_getElem? (i := 15) rfl))) (notFace_of_selects (args := #[]) (mvT hZ_1 (hw _ (List.mem_of_getElem? (i := 17) rfl)))) (mvT hZ_1 (hw _ (List.mem_of_getElem? (i := 17) rfl))) (mvT hZ_1 (hw _ (List.mem_of_getElem? (i := 16) rfl))) (by decide) (backOf (W := 0) (rm2 l Z av0 hw [] b_1 p0 d_1 kc_1 w h_1 n0 Z0__1 A_1 Fc_1 Fv_1 c2 hw0 V_1) hZ_1 (hw _ (List.mem_of_getElem? (i := 18) rfl)) (hw _ (List.mem_of_getElem? (i := 7) rfl)) (by decide) (by decide)) q_2a q_2c (g := (mkF m 9 #[.val (.int p0)] [(.int p0), (.ref b_1)])) rfl (by rw [hml]; rfl) (Steps.refl _) (argsL := [(.int p0)]) (rest := []) (lenOf pd_6 rfl) rfl (by show 2 * 0 + _ ≤ _; exact Nat.le_of_eq rfl) (hb hby d1_9) (fun _ _ => ⟨rfl, e_1, (by decide : 2 + 0 ≤ _), (by decide : 40 + 0 ≤ _)⟩)
    dsimp only [Pt.U, Pt.locs, Pt.cells, Pt.slots] at X_2 l_2 y_2 z_2 st_2 hQ_2
    subst l_2 y_2 z_2
    obtain ⟨rfl, N_2q, e_2⟩ := hQ_2
    have N_2 := Fr.app N0 N_2q
    refine own_go (B := T_2.setTop (mkF m 12 #[.val (.int p0)] [(.int (own_ixl p0))])) (fun t k => st_2.trans k) ?_
    by_cases hc12 : (own_ixl p0) < (0 : Int32)
    · refine own_go (B := T_2.setTop (mkF m 15 #[.val (.int p0)] [])) (fun t k => ?_) ?_
      · show Steps p.tables e below (T_2.setTop (mkF m 12 #[.val (.int p0)] [(.int (own_ixl p0))])) _
        refine XS.ifNo X_2.here hx rfl (hb hby d1_12) rfl ((if0 _ _).trans (tlt hc12).2.1) ?_
        exact k
      refine own_go (B := T_2.setTop (mkF m 20 #[.val (.int p0)] [(.int (1 : Int32))])) (fun t k => ?_) ?_
      · show Steps p.tables e below (T_2.setTop (mkF m 15 #[.val (.int p0)] [])) _
        refine XS.iconst X_2.here hx rfl (hb hby d1_15) ?_
        show Steps p.tables e below (T_2.setTop (mkF m 16 #[.val (.int p0)] [(.int (1 : Int32))])) _
        refine XS.goto X_2.here hx rfl (pc0 := 16) (pc' := 20) rfl (hb hby d1_16) (by decide) (by decide) ?_
        exact k
      obtain ⟨fs, hr, hrun, hended, hRW⟩ := X_2.leaveW Si_1 (by rw [e_2]; exact ls_1) (v := some (.int (1 : Int32))) (fun h => by rw [Bd.returns] at h; cases h)
      have hCH : CHr Z own_EL s.vm s.heap T_2.vm T_2.heap := by rw [hh, e_2]; exact (CH_1.trans (CHv.at X_2 hZ_1 hEL CH_1.1))
      refine ⟨_, _, ?_, hrun, hended, _, _, rfl, ?_, hCH, hRW.1, hRW.2.1, hRW.2.2.1, hRW.2.2.2.mono (by decide) (by decide)⟩
      · show Steps p.tables e below (T_2.setTop (mkF m 20 #[.val (.int p0)] [(.int (1 : Int32))])) _
        exact retN X_2 hx (t := .boolean) Bd.returns (by simp) (hb hby d1_20) hr
      · show Q1 Z p0 w h0 n0 _ T_2.heap _
        rw [e_2]
        exact ⟨by simp only [own_can, if_neg hw0, if_pos hc3, if_pos hc12], N_2, c1⟩
    · refine own_go (B := T_2.setTop (mkF m 19 #[.val (.int p0)] [])) (fun t k => ?_) ?_
      · show Steps p.tables e below (T_2.setTop (mkF m 12 #[.val (.int p0)] [(.int (own_ixl p0))])) _
        refine XS.ifYes X_2.here hx rfl (pc0 := 12) (pc' := 19) rfl (hb hby d1_12) rfl ((if0 _ _).trans (flt hc12).2.1) (by decide) (by decide) ?_
        exact k
      refine own_go (B := T_2.setTop (mkF m 20 #[.val (.int p0)] [(.int (0 : Int32))])) (fun t k => ?_) ?_
      · show Steps p.tables e below (T_2.setTop (mkF m 19 #[.val (.int p0)] [])) _
        refine XS.iconst X_2.here hx rfl (hb hby d1_19) ?_
        exact k
      obtain ⟨fs, hr, hrun, hended, hRW⟩ := X_2.leaveW Si_1 (by rw [e_2]; exact ls_1) (v := some (.int (0 : Int32))) (fun h => by rw [Bd.returns] at h; cases h)
      have hCH : CHr Z own_EL s.vm s.heap T_2.vm T_2.heap := by rw [hh, e_2]; exact (CH_1.trans (CHv.at X_2 hZ_1 hEL CH_1.1))
      refine ⟨_, _, ?_, hrun, hended, _, _, rfl, ?_, hCH, hRW.1, hRW.2.1, hRW.2.2.1, hRW.2.2.2.mono (by decide) (by decide)⟩
      · show Steps p.tables e below (T_2.setTop (mkF m 20 #[.val (.int p0)] [(.int (0 : Int32))])) _
        exact retN X_2 hx (t := .boolean) Bd.returns (by simp) (hb hby d1_20) hr
      · show Q1 Z p0 w h0 n0 _ T_2.heap _
        rw [e_2]
        exact ⟨by simp only [own_can, if_neg hw0, if_pos hc3, if_neg hc12], N_2, c1⟩
  · refine own_go (B := s₁.setTop (mkF m 19 #[.val (.int p0)] [])) (fun t k => ?_) ?_
    · show Steps p.tables e below (s₁.setTop (mkF m 3 #[.val (.int p0)] [(.int (32 : Int32)), (.int p0)])) _
      refine XS.icmpYes X0.here hx rfl (pc0 := 3) (pc' := 19) rfl (hb hby d1_3) rfl (flt hc3).2.2.2 (by decide) (by decide) ?_
      exact k
    refine own_go (B := s₁.setTop (mkF m 20 #[.val (.int p0)] [(.int (0 : Int32))])) (fun t k => ?_) ?_
    · show Steps p.tables e below (s₁.setTop (mkF m 19 #[.val (.int p0)] [])) _
      refine XS.iconst X0.here hx rfl (hb hby d1_19) ?_
      exact k
    obtain ⟨fs, hr, hrun, hended, hRW⟩ := (show Stand p l e ({ frames := 4, cells := 2, slots := 40, locals := 59 } : Room) (s.setVm s.vm) m _ below meth c _ _ _ _ from X0).leaveW ((State.WarmedH.refl s).since 0) (Nat.zero_le _) (v := some (.int (0 : Int32))) (fun h => by rw [Bd.returns] at h; cases h)
    have hCH : CHr Z own_EL s.vm s.heap s₁.vm s₁.heap := by rw [hh, e0]; exact (CHv.at (show Stand p l e ({ frames := 4, cells := 2, slots := 40, locals := 59 } : Room) (s.setVm s.vm) m _ below meth c _ _ _ _ from X0) hZ hEL H0)
    refine ⟨_, _, ?_, hrun, hended, _, _, rfl, ?_, hCH, hRW.1, hRW.2.1, hRW.2.2.1, hRW.2.2.2.mono (by decide) (by decide)⟩
    · show Steps p.tables e below (s₁.setTop (mkF m 20 #[.val (.int p0)] [(.int (0 : Int32))])) _
      exact retN X0 hx (t := .boolean) Bd.returns (by simp) (hb hby d1_20) hr
    · show Q1 Z p0 w h0 n0 _ s₁.heap _
      rw [e0]
      exact ⟨by simp only [own_can, if_neg hw0, if_neg hc3], N0, K0⟩
theorem d12_0 : decode method_2_code 0 = .ok (.iload_n 0, 1) := by decide +kernel
theorem d12_1 : decode method_2_code 1 = .ok (.bipush 32, 2) := by decide +kernel
theorem d12_3 : decode method_2_code 3 = .ok (.if_icmp .gt 5, 3) := by decide +kernel
theorem d12_6 : decode method_2_code 6 = .ok (.iconst 0, 1) := by decide +kernel
theorem d12_7 : decode method_2_code 7 = .ok (.ireturn, 1) := by decide +kernel
theorem d12_8 : decode method_2_code 8 = .ok (.iload_n 0, 1) := by decide +kernel
theorem d12_9 : decode method_2_code 9 = .ok (.bipush 60, 2) := by decide +kernel
theorem d12_11 : decode method_2_code 11 = .ok (.if_icmp .eq 15, 3) := by decide +kernel
theorem d12_14 : decode method_2_code 14 = .ok (.iload_n 0, 1) := by decide +kernel
theorem d12_15 : decode method_2_code 15 = .ok (.bipush 62, 2) := by decide +kernel
theorem d12_17 : decode method_2_code 17 = .ok (.if_icmp .eq 9, 3) := by decide +kernel
theorem d12_20 : decode method_2_code 20 = .ok (.iload_n 0, 1) := by decide +kernel
theorem d12_21 : decode method_2_code 21 = .ok (.bipush 34, 2) := by decide +kernel
theorem d12_23 : decode method_2_code 23 = .ok (.if_icmp .ne 5, 3) := by decide +kernel
theorem d12_26 : decode method_2_code 26 = .ok (.iconst 0, 1) := by decide +kernel
theorem d12_27 : decode method_2_code 27 = .ok (.ireturn, 1) := by decide +kernel
theorem d12_28 : decode method_2_code 28 = .ok (.iload_n 0, 1) := by decide +kernel
theorem d12_29 : decode method_2_code 29 = .ok (.bipush 123, 2) := by decide +kernel
theorem d12_31 : decode method_2_code 31 = .ok (.if_icmp .eq 15, 3) := by decide +kernel
theorem d12_34 : decode method_2_code 34 = .ok (.iload_n 0, 1) := by decide +kernel
theorem d12_35 : decode method_2_code 35 = .ok (.bipush 125, 2) := by decide +kernel
theorem d12_37 : decode method_2_code 37 = .ok (.if_icmp .eq 9, 3) := by decide +kernel
theorem d12_40 : decode method_2_code 40 = .ok (.iload_n 0, 1) := by decide +kernel
theorem d12_41 : decode method_2_code 41 = .ok (.bipush 124, 2) := by decide +kernel
theorem d12_43 : decode method_2_code 43 = .ok (.if_icmp .ne 5, 3) := by decide +kernel
theorem d12_46 : decode method_2_code 46 = .ok (.iconst 0, 1) := by decide +kernel
theorem d12_47 : decode method_2_code 47 = .ok (.ireturn, 1) := by decide +kernel
theorem d12_48 : decode method_2_code 48 = .ok (.iload_n 0, 1) := by decide +kernel
theorem d12_49 : decode method_2_code 49 = .ok (.bipush 94, 2) := by decide +kernel
theorem d12_51 : decode method_2_code 51 = .ok (.if_icmp .eq 15, 3) := by decide +kernel
theorem d12_54 : decode method_2_code 54 = .ok (.iload_n 0, 1) := by decide +kernel
theorem d12_55 : decode method_2_code 55 = .ok (.bipush 96, 2) := by decide +kernel
theorem d12_57 : decode method_2_code 57 = .ok (.if_icmp .eq 9, 3) := by decide +kernel
theorem d12_60 : decode method_2_code 60 = .ok (.iload_n 0, 1) := by decide +kernel
theorem d12_61 : decode method_2_code 61 = .ok (.bipush 92, 2) := by decide +kernel
theorem d12_63 : decode method_2_code 63 = .ok (.if_icmp .ne 5, 3) := by decide +kernel
theorem d12_66 : decode method_2_code 66 = .ok (.iconst 0, 1) := by decide +kernel
theorem d12_67 : decode method_2_code 67 = .ok (.ireturn, 1) := by decide +kernel
theorem d12_68 : decode method_2_code 68 = .ok (.iconst 1, 1) := by decide +kernel
theorem d12_69 : decode method_2_code 69 = .ok (.ireturn, 1) := by decide +kernel
theorem pn_12 : plainName "com/example/cutoff/cutoff/store/IriCanHoldPinLaw" = true := by first | (simp [plainName, overriddenIn]; done) | decide +kernel
theorem ef_12 (m : MethodId) (p0 : Int32) : entryFrame m #[(.int p0)] 1 = mkF m 0 #[.val (.int p0)] [] := by first | (simp [entryFrame, mkF, argsToLocals, Value.category]; done) | rfl
def own_expd (p0 : Int32) : Int32 := (if (32 : Int32) < p0 then (if p0 = (60 : Int32) then (0 : Int32) else (if p0 = (62 : Int32) then (0 : Int32) else (if p0 = (34 : Int32) then (0 : Int32) else (if p0 = (123 : Int32) then (0 : Int32) else (if p0 = (125 : Int32) then (0 : Int32) else (if p0 = (124 : Int32) then (0 : Int32) else (if p0 = (94 : Int32) then (0 : Int32) else (if p0 = (96 : Int32) then (0 : Int32) else (if p0 = (92 : Int32) then (0 : Int32) else (1 : Int32)))))))))) else (0 : Int32))
def Q12 (Z : State) (p0 : Int32) (h0 : Heap) (n0 : Nat) (v : Option Value) (h : Heap) (L : List Loc) : Prop := v = some (.int (own_expd p0)) ∧ Fr n0 L ∧ h = h0
set_option maxRecDepth 65536 in
set_option maxHeartbeats 40000000 in
theorem rm12 (l : Launch) (Z : State) (av0 : Array Value) (hw : ∀ d ∈ tables_1, d.before av0 Z = true) (ws : List Jvm.Cond) (p0 : Int32) (h0 : Heap) (n0 : Nat) (Z0 : n0 ≤ h0.size) :
    MetFree l (⟨"com/example/cutoff/cutoff/store/IriCanHoldPinLaw", "expected", "(C)Z"⟩ : MethodName) (head1 (Jvm.Cond.code (⟨"com/example/cutoff/cutoff/store/IriCanHoldPinLaw", "expected", "(C)Z"⟩ : MethodName) method_2_code 1 (some .boolean) :: ws) ({ frames := 0, cells := 0, slots := 0, locals := 0 } : Room)) (fun a U => a = #[(.int p0)] ∧ Z.Warmed39 U.vm ∧ U.heap = h0) (fun _ _ _ _ _ => True) (fun _ U o U' => ∃ v L, o = .returned v ∧ Q12 Z p0 h0 n0 v U'.heap L ∧ FrameEnd U o U' L ({ frames := 0, cells := 0, slots := 0, locals := 0 } : Room).cells ({ frames := 0, cells := 0, slots := 0, locals := 0 } : Room).slots) := by
  refine MetFree.of_bodySF (plainFor_of_name pn_12) hisR ?_
  intro p e s m args below meth c s₁ Bd hml0 hP hK
  obtain ⟨rfl, hZ, hh⟩ := hP
  have hx := Bd.exec
  have hby := Bd.bytes
  have hml : c.maxLocals = 1 := hml0
  have hown : s.vm.findClass "com/example/cutoff/cutoff/store/IriCanHoldPinLaw" = some m.cls := findClass_of_methodNamed Bd.named
  have hnm := (name_of_methodNamed Bd.named Bd.method).1
  have X0 : Stand p l e ({ frames := 0, cells := 0, slots := 0, locals := 0 } : Room) s m #[(.int p0)] below meth c s₁ [] 0 0 := Stand.of_body Bd
  have e0 : s₁.heap = h0 := by rw [← hh, Bd.state]; rfl
  have N0 := Fr.nil n0
  have K0 : Keep h0 h0 [] := Keep.refl h0 []
  refine own_go (B := s₁.setTop (mkF m 0 #[.val (.int p0)] [])) (fun t k => castTop (ef_12 m p0) k) ?_
  refine own_go (B := s₁.setTop (mkF m 3 #[.val (.int p0)] [(.int (32 : Int32)), (.int p0)])) (fun t k => ?_) ?_
  · show Steps p.tables e below (s₁.setTop (mkF m 0 #[.val (.int p0)] [])) _
    refine XS.iloadN X0.here hx rfl (hb hby d12_0) rfl ?_
    show Steps p.tables e below (s₁.setTop (mkF m 1 #[.val (.int p0)] [(.int p0)])) _
    refine XS.bipush X0.here hx rfl (hb hby d12_1) ?_
    exact k
  by_cases hc3 : (32 : Int32) < p0
  · refine own_go (B := s₁.setTop (mkF m 8 #[.val (.int p0)] [])) (fun t k => ?_) ?_
    · show Steps p.tables e below (s₁.setTop (mkF m 3 #[.val (.int p0)] [(.int (32 : Int32)), (.int p0)])) _
      refine XS.icmpYes X0.here hx rfl (pc0 := 3) (pc' := 8) rfl (hb hby d12_3) rfl (tlt hc3).2.2.1 (by decide) (by decide) ?_
      exact k
    refine own_go (B := s₁.setTop (mkF m 11 #[.val (.int p0)] [(.int (60 : Int32)), (.int p0)])) (fun t k => ?_) ?_
    · show Steps p.tables e below (s₁.setTop (mkF m 8 #[.val (.int p0)] [])) _
      refine XS.iloadN X0.here hx rfl (hb hby d12_8) rfl ?_
      show Steps p.tables e below (s₁.setTop (mkF m 9 #[.val (.int p0)] [(.int p0)])) _
      refine XS.bipush X0.here hx rfl (hb hby d12_9) ?_
      exact k
    by_cases hc11 : p0 = (60 : Int32)
    · refine own_go (B := s₁.setTop (mkF m 26 #[.val (.int p0)] [])) (fun t k => ?_) ?_
      · show Steps p.tables e below (s₁.setTop (mkF m 11 #[.val (.int p0)] [(.int (60 : Int32)), (.int p0)])) _
        refine XS.icmpYes X0.here hx rfl (pc0 := 11) (pc' := 26) rfl (hb hby d12_11) rfl (teq hc11).1 (by decide) (by decide) ?_
        exact k
      refine own_go (B := s₁.setTop (mkF m 27 #[.val (.int p0)] [(.int (0 : Int32))])) (fun t k => ?_) ?_
      · show Steps p.tables e below (s₁.setTop (mkF m 26 #[.val (.int p0)] [])) _
        refine XS.iconst X0.here hx rfl (hb hby d12_26) ?_
        exact k
      obtain ⟨fs, hr, hrun, hended, hW, hsame⟩ := X0.leave (v := some (.int (0 : Int32))) (fun h => by rw [Bd.returns] at h; cases h)
      refine ⟨_, _, ?_, hrun, hended, _, _, rfl, ?_, ⟨_, rfl⟩, hW, hsame.mono (by decide) (by decide)⟩
      · show Steps p.tables e below (s₁.setTop (mkF m 27 #[.val (.int p0)] [(.int (0 : Int32))])) _
        exact retN X0 hx (t := .boolean) Bd.returns (by simp) (hb hby d12_27) hr
      · show Q12 Z p0 h0 n0 _ s₁.heap _
        rw [e0]
        exact ⟨by simp only [own_expd, if_pos hc3, if_pos hc11], N0, rfl⟩
    · refine own_go (B := s₁.setTop (mkF m 14 #[.val (.int p0)] [])) (fun t k => ?_) ?_
      · show Steps p.tables e below (s₁.setTop (mkF m 11 #[.val (.int p0)] [(.int (60 : Int32)), (.int p0)])) _
        refine XS.icmpNo X0.here hx rfl (hb hby d12_11) rfl (feq hc11).1 ?_
        exact k
      refine own_go (B := s₁.setTop (mkF m 17 #[.val (.int p0)] [(.int (62 : Int32)), (.int p0)])) (fun t k => ?_) ?_
      · show Steps p.tables e below (s₁.setTop (mkF m 14 #[.val (.int p0)] [])) _
        refine XS.iloadN X0.here hx rfl (hb hby d12_14) rfl ?_
        show Steps p.tables e below (s₁.setTop (mkF m 15 #[.val (.int p0)] [(.int p0)])) _
        refine XS.bipush X0.here hx rfl (hb hby d12_15) ?_
        exact k
      by_cases hc17 : p0 = (62 : Int32)
      · refine own_go (B := s₁.setTop (mkF m 26 #[.val (.int p0)] [])) (fun t k => ?_) ?_
        · show Steps p.tables e below (s₁.setTop (mkF m 17 #[.val (.int p0)] [(.int (62 : Int32)), (.int p0)])) _
          refine XS.icmpYes X0.here hx rfl (pc0 := 17) (pc' := 26) rfl (hb hby d12_17) rfl (teq hc17).1 (by decide) (by decide) ?_
          exact k
        refine own_go (B := s₁.setTop (mkF m 27 #[.val (.int p0)] [(.int (0 : Int32))])) (fun t k => ?_) ?_
        · show Steps p.tables e below (s₁.setTop (mkF m 26 #[.val (.int p0)] [])) _
          refine XS.iconst X0.here hx rfl (hb hby d12_26) ?_
          exact k
        obtain ⟨fs, hr, hrun, hended, hW, hsame⟩ := X0.leave (v := some (.int (0 : Int32))) (fun h => by rw [Bd.returns] at h; cases h)
        refine ⟨_, _, ?_, hrun, hended, _, _, rfl, ?_, ⟨_, rfl⟩, hW, hsame.mono (by decide) (by decide)⟩
        · show Steps p.tables e below (s₁.setTop (mkF m 27 #[.val (.int p0)] [(.int (0 : Int32))])) _
          exact retN X0 hx (t := .boolean) Bd.returns (by simp) (hb hby d12_27) hr
        · show Q12 Z p0 h0 n0 _ s₁.heap _
          rw [e0]
          exact ⟨by simp only [own_expd, if_pos hc3, if_neg hc11, if_pos hc17], N0, rfl⟩
      · refine own_go (B := s₁.setTop (mkF m 20 #[.val (.int p0)] [])) (fun t k => ?_) ?_
        · show Steps p.tables e below (s₁.setTop (mkF m 17 #[.val (.int p0)] [(.int (62 : Int32)), (.int p0)])) _
          refine XS.icmpNo X0.here hx rfl (hb hby d12_17) rfl (feq hc17).1 ?_
          exact k
        refine own_go (B := s₁.setTop (mkF m 23 #[.val (.int p0)] [(.int (34 : Int32)), (.int p0)])) (fun t k => ?_) ?_
        · show Steps p.tables e below (s₁.setTop (mkF m 20 #[.val (.int p0)] [])) _
          refine XS.iloadN X0.here hx rfl (hb hby d12_20) rfl ?_
          show Steps p.tables e below (s₁.setTop (mkF m 21 #[.val (.int p0)] [(.int p0)])) _
          refine XS.bipush X0.here hx rfl (hb hby d12_21) ?_
          exact k
        by_cases hc23 : p0 = (34 : Int32)
        · refine own_go (B := s₁.setTop (mkF m 26 #[.val (.int p0)] [])) (fun t k => ?_) ?_
          · show Steps p.tables e below (s₁.setTop (mkF m 23 #[.val (.int p0)] [(.int (34 : Int32)), (.int p0)])) _
            refine XS.icmpNo X0.here hx rfl (hb hby d12_23) rfl (teq hc23).2 ?_
            exact k
          refine own_go (B := s₁.setTop (mkF m 27 #[.val (.int p0)] [(.int (0 : Int32))])) (fun t k => ?_) ?_
          · show Steps p.tables e below (s₁.setTop (mkF m 26 #[.val (.int p0)] [])) _
            refine XS.iconst X0.here hx rfl (hb hby d12_26) ?_
            exact k
          obtain ⟨fs, hr, hrun, hended, hW, hsame⟩ := X0.leave (v := some (.int (0 : Int32))) (fun h => by rw [Bd.returns] at h; cases h)
          refine ⟨_, _, ?_, hrun, hended, _, _, rfl, ?_, ⟨_, rfl⟩, hW, hsame.mono (by decide) (by decide)⟩
          · show Steps p.tables e below (s₁.setTop (mkF m 27 #[.val (.int p0)] [(.int (0 : Int32))])) _
            exact retN X0 hx (t := .boolean) Bd.returns (by simp) (hb hby d12_27) hr
          · show Q12 Z p0 h0 n0 _ s₁.heap _
            rw [e0]
            exact ⟨by simp only [own_expd, if_pos hc3, if_neg hc11, if_neg hc17, if_pos hc23], N0, rfl⟩
        · refine own_go (B := s₁.setTop (mkF m 28 #[.val (.int p0)] [])) (fun t k => ?_) ?_
          · show Steps p.tables e below (s₁.setTop (mkF m 23 #[.val (.int p0)] [(.int (34 : Int32)), (.int p0)])) _
            refine XS.icmpYes X0.here hx rfl (pc0 := 23) (pc' := 28) rfl (hb hby d12_23) rfl (feq hc23).2 (by decide) (by decide) ?_
            exact k
          refine own_go (B := s₁.setTop (mkF m 31 #[.val (.int p0)] [(.int (123 : Int32)), (.int p0)])) (fun t k => ?_) ?_
          · show Steps p.tables e below (s₁.setTop (mkF m 28 #[.val (.int p0)] [])) _
            refine XS.iloadN X0.here hx rfl (hb hby d12_28) rfl ?_
            show Steps p.tables e below (s₁.setTop (mkF m 29 #[.val (.int p0)] [(.int p0)])) _
            refine XS.bipush X0.here hx rfl (hb hby d12_29) ?_
            exact k
          by_cases hc31 : p0 = (123 : Int32)
          · refine own_go (B := s₁.setTop (mkF m 46 #[.val (.int p0)] [])) (fun t k => ?_) ?_
            · show Steps p.tables e below (s₁.setTop (mkF m 31 #[.val (.int p0)] [(.int (123 : Int32)), (.int p0)])) _
              refine XS.icmpYes X0.here hx rfl (pc0 := 31) (pc' := 46) rfl (hb hby d12_31) rfl (teq hc31).1 (by decide) (by decide) ?_
              exact k
            refine own_go (B := s₁.setTop (mkF m 47 #[.val (.int p0)] [(.int (0 : Int32))])) (fun t k => ?_) ?_
            · show Steps p.tables e below (s₁.setTop (mkF m 46 #[.val (.int p0)] [])) _
              refine XS.iconst X0.here hx rfl (hb hby d12_46) ?_
              exact k
            obtain ⟨fs, hr, hrun, hended, hW, hsame⟩ := X0.leave (v := some (.int (0 : Int32))) (fun h => by rw [Bd.returns] at h; cases h)
            refine ⟨_, _, ?_, hrun, hended, _, _, rfl, ?_, ⟨_, rfl⟩, hW, hsame.mono (by decide) (by decide)⟩
            · show Steps p.tables e below (s₁.setTop (mkF m 47 #[.val (.int p0)] [(.int (0 : Int32))])) _
              exact retN X0 hx (t := .boolean) Bd.returns (by simp) (hb hby d12_47) hr
            · show Q12 Z p0 h0 n0 _ s₁.heap _
              rw [e0]
              exact ⟨by simp only [own_expd, if_pos hc3, if_neg hc11, if_neg hc17, if_neg hc23, if_pos hc31], N0, rfl⟩
          · refine own_go (B := s₁.setTop (mkF m 34 #[.val (.int p0)] [])) (fun t k => ?_) ?_
            · show Steps p.tables e below (s₁.setTop (mkF m 31 #[.val (.int p0)] [(.int (123 : Int32)), (.int p0)])) _
              refine XS.icmpNo X0.here hx rfl (hb hby d12_31) rfl (feq hc31).1 ?_
              exact k
            refine own_go (B := s₁.setTop (mkF m 37 #[.val (.int p0)] [(.int (125 : Int32)), (.int p0)])) (fun t k => ?_) ?_
            · show Steps p.tables e below (s₁.setTop (mkF m 34 #[.val (.int p0)] [])) _
              refine XS.iloadN X0.here hx rfl (hb hby d12_34) rfl ?_
              show Steps p.tables e below (s₁.setTop (mkF m 35 #[.val (.int p0)] [(.int p0)])) _
              refine XS.bipush X0.here hx rfl (hb hby d12_35) ?_
              exact k
            by_cases hc37 : p0 = (125 : Int32)
            · refine own_go (B := s₁.setTop (mkF m 46 #[.val (.int p0)] [])) (fun t k => ?_) ?_
              · show Steps p.tables e below (s₁.setTop (mkF m 37 #[.val (.int p0)] [(.int (125 : Int32)), (.int p0)])) _
                refine XS.icmpYes X0.here hx rfl (pc0 := 37) (pc' := 46) rfl (hb hby d12_37) rfl (teq hc37).1 (by decide) (by decide) ?_
                exact k
              refine own_go (B := s₁.setTop (mkF m 47 #[.val (.int p0)] [(.int (0 : Int32))])) (fun t k => ?_) ?_
              · show Steps p.tables e below (s₁.setTop (mkF m 46 #[.val (.int p0)] [])) _
                refine XS.iconst X0.here hx rfl (hb hby d12_46) ?_
                exact k
              obtain ⟨fs, hr, hrun, hended, hW, hsame⟩ := X0.leave (v := some (.int (0 : Int32))) (fun h => by rw [Bd.returns] at h; cases h)
              refine ⟨_, _, ?_, hrun, hended, _, _, rfl, ?_, ⟨_, rfl⟩, hW, hsame.mono (by decide) (by decide)⟩
              · show Steps p.tables e below (s₁.setTop (mkF m 47 #[.val (.int p0)] [(.int (0 : Int32))])) _
                exact retN X0 hx (t := .boolean) Bd.returns (by simp) (hb hby d12_47) hr
              · show Q12 Z p0 h0 n0 _ s₁.heap _
                rw [e0]
                exact ⟨by simp only [own_expd, if_pos hc3, if_neg hc11, if_neg hc17, if_neg hc23, if_neg hc31, if_pos hc37], N0, rfl⟩
            · refine own_go (B := s₁.setTop (mkF m 40 #[.val (.int p0)] [])) (fun t k => ?_) ?_
              · show Steps p.tables e below (s₁.setTop (mkF m 37 #[.val (.int p0)] [(.int (125 : Int32)), (.int p0)])) _
                refine XS.icmpNo X0.here hx rfl (hb hby d12_37) rfl (feq hc37).1 ?_
                exact k
              refine own_go (B := s₁.setTop (mkF m 43 #[.val (.int p0)] [(.int (124 : Int32)), (.int p0)])) (fun t k => ?_) ?_
              · show Steps p.tables e below (s₁.setTop (mkF m 40 #[.val (.int p0)] [])) _
                refine XS.iloadN X0.here hx rfl (hb hby d12_40) rfl ?_
                show Steps p.tables e below (s₁.setTop (mkF m 41 #[.val (.int p0)] [(.int p0)])) _
                refine XS.bipush X0.here hx rfl (hb hby d12_41) ?_
                exact k
              by_cases hc43 : p0 = (124 : Int32)
              · refine own_go (B := s₁.setTop (mkF m 46 #[.val (.int p0)] [])) (fun t k => ?_) ?_
                · show Steps p.tables e below (s₁.setTop (mkF m 43 #[.val (.int p0)] [(.int (124 : Int32)), (.int p0)])) _
                  refine XS.icmpNo X0.here hx rfl (hb hby d12_43) rfl (teq hc43).2 ?_
                  exact k
                refine own_go (B := s₁.setTop (mkF m 47 #[.val (.int p0)] [(.int (0 : Int32))])) (fun t k => ?_) ?_
                · show Steps p.tables e below (s₁.setTop (mkF m 46 #[.val (.int p0)] [])) _
                  refine XS.iconst X0.here hx rfl (hb hby d12_46) ?_
                  exact k
                obtain ⟨fs, hr, hrun, hended, hW, hsame⟩ := X0.leave (v := some (.int (0 : Int32))) (fun h => by rw [Bd.returns] at h; cases h)
                refine ⟨_, _, ?_, hrun, hended, _, _, rfl, ?_, ⟨_, rfl⟩, hW, hsame.mono (by decide) (by decide)⟩
                · show Steps p.tables e below (s₁.setTop (mkF m 47 #[.val (.int p0)] [(.int (0 : Int32))])) _
                  exact retN X0 hx (t := .boolean) Bd.returns (by simp) (hb hby d12_47) hr
                · show Q12 Z p0 h0 n0 _ s₁.heap _
                  rw [e0]
                  exact ⟨by simp only [own_expd, if_pos hc3, if_neg hc11, if_neg hc17, if_neg hc23, if_neg hc31, if_neg hc37, if_pos hc43], N0, rfl⟩
              · refine own_go (B := s₁.setTop (mkF m 48 #[.val (.int p0)] [])) (fun t k => ?_) ?_
                · show Steps p.tables e below (s₁.setTop (mkF m 43 #[.val (.int p0)] [(.int (124 : Int32)), (.int p0)])) _
                  refine XS.icmpYes X0.here hx rfl (pc0 := 43) (pc' := 48) rfl (hb hby d12_43) rfl (feq hc43).2 (by decide) (by decide) ?_
                  exact k
                refine own_go (B := s₁.setTop (mkF m 51 #[.val (.int p0)] [(.int (94 : Int32)), (.int p0)])) (fun t k => ?_) ?_
                · show Steps p.tables e below (s₁.setTop (mkF m 48 #[.val (.int p0)] [])) _
                  refine XS.iloadN X0.here hx rfl (hb hby d12_48) rfl ?_
                  show Steps p.tables e below (s₁.setTop (mkF m 49 #[.val (.int p0)] [(.int p0)])) _
                  refine XS.bipush X0.here hx rfl (hb hby d12_49) ?_
                  exact k
                by_cases hc51 : p0 = (94 : Int32)
                · refine own_go (B := s₁.setTop (mkF m 66 #[.val (.int p0)] [])) (fun t k => ?_) ?_
                  · show Steps p.tables e below (s₁.setTop (mkF m 51 #[.val (.int p0)] [(.int (94 : Int32)), (.int p0)])) _
                    refine XS.icmpYes X0.here hx rfl (pc0 := 51) (pc' := 66) rfl (hb hby d12_51) rfl (teq hc51).1 (by decide) (by decide) ?_
                    exact k
                  refine own_go (B := s₁.setTop (mkF m 67 #[.val (.int p0)] [(.int (0 : Int32))])) (fun t k => ?_) ?_
                  · show Steps p.tables e below (s₁.setTop (mkF m 66 #[.val (.int p0)] [])) _
                    refine XS.iconst X0.here hx rfl (hb hby d12_66) ?_
                    exact k
                  obtain ⟨fs, hr, hrun, hended, hW, hsame⟩ := X0.leave (v := some (.int (0 : Int32))) (fun h => by rw [Bd.returns] at h; cases h)
                  refine ⟨_, _, ?_, hrun, hended, _, _, rfl, ?_, ⟨_, rfl⟩, hW, hsame.mono (by decide) (by decide)⟩
                  · show Steps p.tables e below (s₁.setTop (mkF m 67 #[.val (.int p0)] [(.int (0 : Int32))])) _
                    exact retN X0 hx (t := .boolean) Bd.returns (by simp) (hb hby d12_67) hr
                  · show Q12 Z p0 h0 n0 _ s₁.heap _
                    rw [e0]
                    exact ⟨by simp only [own_expd, if_pos hc3, if_neg hc11, if_neg hc17, if_neg hc23, if_neg hc31, if_neg hc37, if_neg hc43, if_pos hc51], N0, rfl⟩
                · refine own_go (B := s₁.setTop (mkF m 54 #[.val (.int p0)] [])) (fun t k => ?_) ?_
                  · show Steps p.tables e below (s₁.setTop (mkF m 51 #[.val (.int p0)] [(.int (94 : Int32)), (.int p0)])) _
                    refine XS.icmpNo X0.here hx rfl (hb hby d12_51) rfl (feq hc51).1 ?_
                    exact k
                  refine own_go (B := s₁.setTop (mkF m 57 #[.val (.int p0)] [(.int (96 : Int32)), (.int p0)])) (fun t k => ?_) ?_
                  · show Steps p.tables e below (s₁.setTop (mkF m 54 #[.val (.int p0)] [])) _
                    refine XS.iloadN X0.here hx rfl (hb hby d12_54) rfl ?_
                    show Steps p.tables e below (s₁.setTop (mkF m 55 #[.val (.int p0)] [(.int p0)])) _
                    refine XS.bipush X0.here hx rfl (hb hby d12_55) ?_
                    exact k
                  by_cases hc57 : p0 = (96 : Int32)
                  · refine own_go (B := s₁.setTop (mkF m 66 #[.val (.int p0)] [])) (fun t k => ?_) ?_
                    · show Steps p.tables e below (s₁.setTop (mkF m 57 #[.val (.int p0)] [(.int (96 : Int32)), (.int p0)])) _
                      refine XS.icmpYes X0.here hx rfl (pc0 := 57) (pc' := 66) rfl (hb hby d12_57) rfl (teq hc57).1 (by decide) (by decide) ?_
                      exact k
                    refine own_go (B := s₁.setTop (mkF m 67 #[.val (.int p0)] [(.int (0 : Int32))])) (fun t k => ?_) ?_
                    · show Steps p.tables e below (s₁.setTop (mkF m 66 #[.val (.int p0)] [])) _
                      refine XS.iconst X0.here hx rfl (hb hby d12_66) ?_
                      exact k
                    obtain ⟨fs, hr, hrun, hended, hW, hsame⟩ := X0.leave (v := some (.int (0 : Int32))) (fun h => by rw [Bd.returns] at h; cases h)
                    refine ⟨_, _, ?_, hrun, hended, _, _, rfl, ?_, ⟨_, rfl⟩, hW, hsame.mono (by decide) (by decide)⟩
                    · show Steps p.tables e below (s₁.setTop (mkF m 67 #[.val (.int p0)] [(.int (0 : Int32))])) _
                      exact retN X0 hx (t := .boolean) Bd.returns (by simp) (hb hby d12_67) hr
                    · show Q12 Z p0 h0 n0 _ s₁.heap _
                      rw [e0]
                      exact ⟨by simp only [own_expd, if_pos hc3, if_neg hc11, if_neg hc17, if_neg hc23, if_neg hc31, if_neg hc37, if_neg hc43, if_neg hc51, if_pos hc57], N0, rfl⟩
                  · refine own_go (B := s₁.setTop (mkF m 60 #[.val (.int p0)] [])) (fun t k => ?_) ?_
                    · show Steps p.tables e below (s₁.setTop (mkF m 57 #[.val (.int p0)] [(.int (96 : Int32)), (.int p0)])) _
                      refine XS.icmpNo X0.here hx rfl (hb hby d12_57) rfl (feq hc57).1 ?_
                      exact k
                    refine own_go (B := s₁.setTop (mkF m 63 #[.val (.int p0)] [(.int (92 : Int32)), (.int p0)])) (fun t k => ?_) ?_
                    · show Steps p.tables e below (s₁.setTop (mkF m 60 #[.val (.int p0)] [])) _
                      refine XS.iloadN X0.here hx rfl (hb hby d12_60) rfl ?_
                      show Steps p.tables e below (s₁.setTop (mkF m 61 #[.val (.int p0)] [(.int p0)])) _
                      refine XS.bipush X0.here hx rfl (hb hby d12_61) ?_
                      exact k
                    by_cases hc63 : p0 = (92 : Int32)
                    · refine own_go (B := s₁.setTop (mkF m 66 #[.val (.int p0)] [])) (fun t k => ?_) ?_
                      · show Steps p.tables e below (s₁.setTop (mkF m 63 #[.val (.int p0)] [(.int (92 : Int32)), (.int p0)])) _
                        refine XS.icmpNo X0.here hx rfl (hb hby d12_63) rfl (teq hc63).2 ?_
                        exact k
                      refine own_go (B := s₁.setTop (mkF m 67 #[.val (.int p0)] [(.int (0 : Int32))])) (fun t k => ?_) ?_
                      · show Steps p.tables e below (s₁.setTop (mkF m 66 #[.val (.int p0)] [])) _
                        refine XS.iconst X0.here hx rfl (hb hby d12_66) ?_
                        exact k
                      obtain ⟨fs, hr, hrun, hended, hW, hsame⟩ := X0.leave (v := some (.int (0 : Int32))) (fun h => by rw [Bd.returns] at h; cases h)
                      refine ⟨_, _, ?_, hrun, hended, _, _, rfl, ?_, ⟨_, rfl⟩, hW, hsame.mono (by decide) (by decide)⟩
                      · show Steps p.tables e below (s₁.setTop (mkF m 67 #[.val (.int p0)] [(.int (0 : Int32))])) _
                        exact retN X0 hx (t := .boolean) Bd.returns (by simp) (hb hby d12_67) hr
                      · show Q12 Z p0 h0 n0 _ s₁.heap _
                        rw [e0]
                        exact ⟨by simp only [own_expd, if_pos hc3, if_neg hc11, if_neg hc17, if_neg hc23, if_neg hc31, if_neg hc37, if_neg hc43, if_neg hc51, if_neg hc57, if_pos hc63], N0, rfl⟩
                    · refine own_go (B := s₁.setTop (mkF m 68 #[.val (.int p0)] [])) (fun t k => ?_) ?_
                      · show Steps p.tables e below (s₁.setTop (mkF m 63 #[.val (.int p0)] [(.int (92 : Int32)), (.int p0)])) _
                        refine XS.icmpYes X0.here hx rfl (pc0 := 63) (pc' := 68) rfl (hb hby d12_63) rfl (feq hc63).2 (by decide) (by decide) ?_
                        exact k
                      refine own_go (B := s₁.setTop (mkF m 69 #[.val (.int p0)] [(.int (1 : Int32))])) (fun t k => ?_) ?_
                      · show Steps p.tables e below (s₁.setTop (mkF m 68 #[.val (.int p0)] [])) _
                        refine XS.iconst X0.here hx rfl (hb hby d12_68) ?_
                        exact k
                      obtain ⟨fs, hr, hrun, hended, hW, hsame⟩ := X0.leave (v := some (.int (1 : Int32))) (fun h => by rw [Bd.returns] at h; cases h)
                      refine ⟨_, _, ?_, hrun, hended, _, _, rfl, ?_, ⟨_, rfl⟩, hW, hsame.mono (by decide) (by decide)⟩
                      · show Steps p.tables e below (s₁.setTop (mkF m 69 #[.val (.int p0)] [(.int (1 : Int32))])) _
                        exact retN X0 hx (t := .boolean) Bd.returns (by simp) (hb hby d12_69) hr
                      · show Q12 Z p0 h0 n0 _ s₁.heap _
                        rw [e0]
                        exact ⟨by simp only [own_expd, if_pos hc3, if_neg hc11, if_neg hc17, if_neg hc23, if_neg hc31, if_neg hc37, if_neg hc43, if_neg hc51, if_neg hc57, if_neg hc63], N0, rfl⟩
  · refine own_go (B := s₁.setTop (mkF m 6 #[.val (.int p0)] [])) (fun t k => ?_) ?_
    · show Steps p.tables e below (s₁.setTop (mkF m 3 #[.val (.int p0)] [(.int (32 : Int32)), (.int p0)])) _
      refine XS.icmpNo X0.here hx rfl (hb hby d12_3) rfl (flt hc3).2.2.1 ?_
      exact k
    refine own_go (B := s₁.setTop (mkF m 7 #[.val (.int p0)] [(.int (0 : Int32))])) (fun t k => ?_) ?_
    · show Steps p.tables e below (s₁.setTop (mkF m 6 #[.val (.int p0)] [])) _
      refine XS.iconst X0.here hx rfl (hb hby d12_6) ?_
      exact k
    obtain ⟨fs, hr, hrun, hended, hW, hsame⟩ := X0.leave (v := some (.int (0 : Int32))) (fun h => by rw [Bd.returns] at h; cases h)
    refine ⟨_, _, ?_, hrun, hended, _, _, rfl, ?_, ⟨_, rfl⟩, hW, hsame.mono (by decide) (by decide)⟩
    · show Steps p.tables e below (s₁.setTop (mkF m 7 #[.val (.int p0)] [(.int (0 : Int32))])) _
      exact retN X0 hx (t := .boolean) Bd.returns (by simp) (hb hby d12_7) hr
    · show Q12 Z p0 h0 n0 _ s₁.heap _
      rw [e0]
      exact ⟨by simp only [own_expd, if_neg hc3], N0, rfl⟩
abbrev own_vs (xs : List Int32) : List Value := xs.map Value.int
theorem own_map (xs : List Int32) (j : Nat) : (own_vs xs).getD j (.int (0 : Int32)) = .int (xs.getD j 0) := by
  simp only [own_vs, List.getD_eq_getElem?_getD, List.getElem?_map]
  cases xs[j]? <;> rfl
def own_sp : List Int32 := [(60 : Int32), (62 : Int32), (34 : Int32), (123 : Int32), (125 : Int32), (124 : Int32), (94 : Int32), (96 : Int32), (92 : Int32), (32 : Int32), (33 : Int32), (0 : Int32), (127 : Int32), (65535 : Int32), (31 : Int32), (33 : Int32)]
theorem own_spR (j : Nat) : 0 ≤ (own_sp.getD j 0).toInt ∧ (own_sp.getD j 0).toInt < 65536 := by
  have h : ∀ x ∈ own_sp, 0 ≤ x.toInt ∧ x.toInt < 65536 := by decide
  rw [List.getD_eq_getElem?_getD]
  cases hq : own_sp[j]? with
  | none => decide
  | some x => exact h x (List.mem_of_getElem? hq)
theorem own_fin256 : ∀ k : Fin 256, own_can (Int32.ofNat k.1) = own_expd (Int32.ofNat k.1) := by decide +kernel
theorem own_law (c : Int32) (h : 0 ≤ c.toInt ∧ c.toInt < 65536) : own_can c = own_expd c := by
  by_cases hs : c.toInt < 256
  · have e : c = Int32.ofNat c.toInt.toNat := by
      apply Int32.toInt_inj.mp
      rw [Int32.toInt_ofNat_small (by omega)]; omega
    rw [e]
    exact own_fin256 ⟨c.toInt.toNat, by omega⟩
  · have k : ∀ v : Int32, v.toInt < 256 → v < c ∧ ¬ c < v ∧ ¬ c = v := fun v hv => by rw [own_i, own_i, own_eqi]; omega
    have k0 := (k 0 (by decide)).2.1
    have k32 := (k 32 (by decide)).1
    have k255 := (k 255 (by decide)).1
    have e1 : own_enc c = 0 := by simp only [own_enc, if_neg k0, if_pos k255]
    have e2 : own_ixl c = -1 := by simp only [own_ixl, e1, if_true]
    have e3 : own_can c = 1 := by simp only [own_can, if_pos k32, e2]; decide
    rw [e3]
    simp only [own_expd, if_pos k32, if_neg (k 60 (by decide)).2.2, if_neg (k 62 (by decide)).2.2, if_neg (k 34 (by decide)).2.2, if_neg (k 123 (by decide)).2.2, if_neg (k 125 (by decide)).2.2, if_neg (k 124 (by decide)).2.2, if_neg (k 94 (by decide)).2.2, if_neg (k 96 (by decide)).2.2, if_neg (k 92 (by decide)).2.2]
theorem own_remv (x y : Int32) (d : Int) (hy : y.toInt = d) (hd : 1 < d) (hx : 0 ≤ x.toInt) : (x - (x / y) * y).toInt = x.toInt % d := by
  have hn : y ≠ -1 := fun q => by rw [q] at hy; have : (-1 : Int32).toInt = -1 := rfl; omega
  have h1 := (c_idiv x y d hy hn).1 hx
  have h2 : 0 ≤ x.toInt / d := Int.ediv_nonneg hx (by omega)
  have h3 := Int.mul_ediv_add_emod x.toInt d
  have h4 := Int.emod_nonneg x.toInt (by omega : d ≠ 0)
  have h5 := Int.emod_lt_of_pos x.toInt (by omega : 0 < d)
  have h6 := x.toInt_lt
  have h7 : (x / y).toInt * y.toInt = d * (x.toInt / d) := by rw [h1, hy, Int.mul_comm]
  have h8 : 0 ≤ d * (x.toInt / d) := Int.mul_nonneg (by omega) h2
  have h9 : ((x / y) * y).toInt = d * (x.toInt / d) := by rw [Jvm.Kit.i32_mul (by rw [h7]; omega) (by rw [h7]; omega), h7]
  rw [Jvm.Kit.i32_sub (by omega) (by omega), h9]; omega
theorem own_idx (x : Int32) : ¬ (((x.toUInt32 >>> ((1 : Int32) &&& 31).toUInt32).toInt32) - (((x.toUInt32 >>> ((1 : Int32) &&& 31).toUInt32).toInt32) / (16 : Int32)) * (16 : Int32)) < (0 : Int32) ∧ (((x.toUInt32 >>> ((1 : Int32) &&& 31).toUInt32).toInt32) - (((x.toUInt32 >>> ((1 : Int32) &&& 31).toUInt32).toInt32) / (16 : Int32)) * (16 : Int32)) < (16 : Int32) := by
  have h1 := c_iushr x 1 1 (by decide) (by decide)
  have h2 := own_remv ((x.toUInt32 >>> ((1 : Int32) &&& 31).toUInt32).toInt32) 16 16 rfl (by decide) (by omega)
  have e0 : (0 : Int32).toInt = 0 := rfl
  have e16 : (16 : Int32).toInt = 16 := rfl
  rw [own_i, own_i]; omega
theorem pn_0 : plainName "com/example/cutoff/cutoff/store/IriCanHoldPinLaw" = true := by first | (simp [plainName, overriddenIn]; done) | decide +kernel
theorem ef_0 (m : MethodId) (p0 : Int32) (p1 : Int32) : entryFrame m #[(.int p0), (.int p1)] maxLocals = mkF m 0 #[.val (.int p0), .val (.int p1), .unset, .unset] [] := by first | (simp [entryFrame, mkF, argsToLocals, Value.category, maxLocals]; done) | rfl
theorem pd_7 : parseMethodDescriptor "(C)Z" = some ⟨[.char], some .boolean⟩ := by decide +kernel
def Q0 (Z : State) (p0 : Int32) (p1 : Int32) (w : Int32) (h0 : Heap) (n0 : Nat) (v : Option Value) (h : Heap) (L : List Loc) : Prop := v = some (.int 1) ∧ Fr n0 L ∧ True
set_option maxRecDepth 65536 in
set_option maxHeartbeats 40000000 in
theorem rm0 (l : Launch) (Z : State) (av0 : Array Value) (hw : ∀ d ∈ tables_1, d.before av0 Z = true) (ws : List Jvm.Cond) (p0 : Int32) (p1 : Int32) (w : Int32) (h0 : Heap) (n0 : Nat) (Z0 : n0 ≤ h0.size) (S_COMPACT_STRINGS : Sta Z h0 "java/lang/String" "COMPACT_STRINGS" "Z" (.int w)) (hw0 : ¬ (w = (0 : Int32))) (hEL : EW Z av0 own_EL) (HH : CHv Z own_EL Z.vm Z.heap) (hh0 : Z.heap = h0) (hn0 : n0 = h0.size) :
    MetFree l x (head1 (Jvm.Cond.code x code maxLocals ret :: ws) room_1) (fun a U => a = #[(.int p0), (.int p1)] ∧ U = Z) (fun _ _ _ _ _ => True) (fun _ U o U' => ∃ v L, o = .returned v ∧ Q0 Z p0 p1 w h0 n0 v U'.heap L ∧ ReturnedEndW U o U' L room_1.cells room_1.slots) := by
  refine MetFree.of_bodySF (plainFor_of_name pn_0) hisR ?_
  intro p e s m args below meth c s₁ Bd hml0 hP hK
  obtain ⟨rfl, hUZ⟩ := hP
  have hZ : Z.Warmed39 s.vm := by rw [hUZ]; exact State.Warmed39.refl Z
  have hh : s.heap = h0 := by rw [hUZ]; exact hh0
  have hns : n0 = s.heap.size := by rw [hn0, hh]
  have hkeep : ∀ (b : Addr) (cl : Cell), Z.heap[b]? = some cl → s.heap[b]? = some cl := by rw [hUZ]; exact fun _ _ q => q
  have I0 : IB Z s.vm [] := by rw [hUZ]; exact IB.start
  have hx := Bd.exec
  have hby := Bd.bytes
  have hml : c.maxLocals = 4 := hml0
  have hown : s.vm.findClass "com/example/cutoff/cutoff/store/IriCanHoldPinLaw" = some m.cls := findClass_of_methodNamed Bd.named
  have hnm := (name_of_methodNamed Bd.named Bd.method).1
  have X0 : Stand p l e room_1 s m #[(.int p0), (.int p1)] below meth c s₁ [] 0 0 := Stand.of_body Bd
  have e0 : s₁.heap = h0 := by rw [← hh, Bd.state]; rfl
  have H0 : CHv Z own_EL s.vm h0 := by rw [hUZ, ← hh0]; exact HH
  have N0 := Fr.nil n0
  have K0 : Keep h0 h0 [] := Keep.refl h0 []
  refine own_go (B := s₁.setTop (mkF m 0 #[.val (.int p0), .val (.int p1), .unset, .unset] [])) (fun t k => castTop (ef_0 m p0 p1) k) ?_
  refine own_go (B := s₁.setTop (mkF m 2 #[.val (.int p0), .val (.int p1), .unset, .unset] [(.int (16 : Int32))])) (fun t k => ?_) ?_
  · show Steps p.tables e below (s₁.setTop (mkF m 0 #[.val (.int p0), .val (.int p1), .unset, .unset] [])) _
    refine XS.bipush X0.here hx rfl (hb hby at_0) ?_
    exact k
  obtain ⟨T_1, h_1, k_1, X_1, e_1, E_1, A_1, st_1⟩ := newP X0 hx hZ (hw _ (List.mem_of_getElem? (i := 0) rfl)) e0 (g := (mkF m 2 #[.val (.int p0), .val (.int p1), .unset, .unset] [(.int (16 : Int32))])) rfl (hb hby at_2) rfl (by decide) (cap := 16) (by decide) (by decide) (by decide) (by decide)
  obtain ⟨b_1, g_1⟩ : ∃ z, z = h0.size := ⟨_, rfl⟩
  rw [← g_1] at A_1 st_1
  have g_b_1 : n0 ≤ b_1 := Nat.le_trans Z0 (Nat.le_of_eq g_1.symm)
  have sz_b_1 : h0.size ≤ b_1 := Nat.le_trans K0.1 (Nat.le_of_eq g_1.symm)
  have c1 : Keep h0 h_1 [] := K0.ext E_1
  have c2 := S_COMPACT_STRINGS.ext E_1
  have c3 := H0.ext E_1
  have Z0__1 : n0 ≤ h_1.size := Nat.le_trans Z0 E_1.1
  have V_b_1 : Arv Z h_1 b_1 k_1 .char (16 : Int32) [(.int (0 : Int32)), (.int (0 : Int32)), (.int (0 : Int32)), (.int (0 : Int32)), (.int (0 : Int32)), (.int (0 : Int32)), (.int (0 : Int32)), (.int (0 : Int32)), (.int (0 : Int32)), (.int (0 : Int32)), (.int (0 : Int32)), (.int (0 : Int32)), (.int (0 : Int32)), (.int (0 : Int32)), (.int (0 : Int32)), (.int (0 : Int32))] (.int (0 : Int32)) := (Arv.new A_1 (by decide)).pad (pad_rep [] (.int (0 : Int32)) 16)
  refine own_go (B := T_1.setTop (mkF m 4 #[.val (.int p0), .val (.int p1), .unset, .unset] [(.ref b_1)])) (fun t k => st_1 t k) ?_
  refine own_go (B := T_1.setTop (mkF m 8 #[.val (.int p0), .val (.int p1), .unset, .unset] [(.int (60 : Int32)), (.int (0 : Int32)), (.ref b_1), (.ref b_1)])) (fun t k => ?_) ?_
  · show Steps p.tables e below (T_1.setTop (mkF m 4 #[.val (.int p0), .val (.int p1), .unset, .unset] [(.ref b_1)])) _
    refine XS.dup X_1.here hx rfl (hb hby at_4) rfl rfl ?_
    show Steps p.tables e below (T_1.setTop (mkF m 5 #[.val (.int p0), .val (.int p1), .unset, .unset] [(.ref b_1), (.ref b_1)])) _
    refine XS.iconst X_1.here hx rfl (hb hby at_5) ?_
    show Steps p.tables e below (T_1.setTop (mkF m 6 #[.val (.int p0), .val (.int p1), .unset, .unset] [(.int (0 : Int32)), (.ref b_1), (.ref b_1)])) _
    refine XS.bipush X_1.here hx rfl (hb hby at_6) ?_
    exact k
  obtain ⟨cl_2, Ar_2, q_2, S_2, M_2, H_2, G_2⟩ := id V_b_1
  have hin_2 : ¬ ((0 : Int32) < 0 ∨ cl_2.slots.size ≤ ((0 : Int32)).toNatClampNeg) := inb_of S_2 ⟨by decide, by decide⟩
  obtain ⟨T_2, h_2, X_2, e_2, W_2, st_2⟩ := stC X_1 hx hZ e_1 Ar_2 (j := (0 : Int32)) hin_2 (g := (mkF m 8 #[.val (.int p0), .val (.int p1), .unset, .unset] [(.int (60 : Int32)), (.int (0 : Int32)), (.ref b_1), (.ref b_1)])) rfl rfl (hb hby at_8)
  have c4 : Keep h0 h_2 [] := c1.wr W_2 (Or.inr sz_b_1)
  have c5 := c2.wr W_2
  have c6 := c3.wr W_2 (Safe.arr hZ.alike Ar_2 (by decide))
  have V_2 : Arv Z h_2 b_1 k_1 .char (16 : Int32) [(.int (60 : Int32)), (.int (0 : Int32)), (.int (0 : Int32)), (.int (0 : Int32)), (.int (0 : Int32)), (.int (0 : Int32)), (.int (0 : Int32)), (.int (0 : Int32)), (.int (0 : Int32)), (.int (0 : Int32)), (.int (0 : Int32)), (.int (0 : Int32)), (.int (0 : Int32)), (.int (0 : Int32)), (.int (0 : Int32)), (.int (0 : Int32))] (.int (0 : Int32)) := Arv.set Ar_2 q_2 S_2 M_2 H_2 G_2 (fits_nar_char _) W_2 0 rfl (Nat.le_of_ble_eq_true rfl)
  have N_2 := Fr.snoc X_2 N0 g_b_1
  have Z0__2 : n0 ≤ h_2.size := by rw [W_2.size]; exact Z0__1
  refine own_go (B := T_2.setTop (mkF m 9 #[.val (.int p0), .val (.int p1), .unset, .unset] [(.ref b_1)])) (fun t k => st_2 t k) ?_
  refine own_go (B := T_2.setTop (mkF m 13 #[.val (.int p0), .val (.int p1), .unset, .unset] [(.int (62 : Int32)), (.int (1 : Int32)), (.ref b_1), (.ref b_1)])) (fun t k => ?_) ?_
  · show Steps p.tables e below (T_2.setTop (mkF m 9 #[.val (.int p0), .val (.int p1), .unset, .unset] [(.ref b_1)])) _
    refine XS.dup X_2.here hx rfl (hb hby at_9) rfl rfl ?_
    show Steps p.tables e below (T_2.setTop (mkF m 10 #[.val (.int p0), .val (.int p1), .unset, .unset] [(.ref b_1), (.ref b_1)])) _
    refine XS.iconst X_2.here hx rfl (hb hby at_10) ?_
    show Steps p.tables e below (T_2.setTop (mkF m 11 #[.val (.int p0), .val (.int p1), .unset, .unset] [(.int (1 : Int32)), (.ref b_1), (.ref b_1)])) _
    refine XS.bipush X_2.here hx rfl (hb hby at_11) ?_
    exact k
  obtain ⟨cl_3, Ar_3, q_3, S_3, M_3, H_3, G_3⟩ := id V_2
  have hin_3 : ¬ ((1 : Int32) < 0 ∨ cl_3.slots.size ≤ ((1 : Int32)).toNatClampNeg) := inb_of S_3 ⟨by decide, by decide⟩
  obtain ⟨T_3, h_3, X_3, e_3, W_3, st_3⟩ := stC X_2 hx hZ e_2 Ar_3 (j := (1 : Int32)) hin_3 (g := (mkF m 13 #[.val (.int p0), .val (.int p1), .unset, .unset] [(.int (62 : Int32)), (.int (1 : Int32)), (.ref b_1), (.ref b_1)])) rfl rfl (hb hby at_13)
  have c7 : Keep h0 h_3 [] := c4.wr W_3 (Or.inr sz_b_1)
  have c8 := c5.wr W_3
  have c9 := c6.wr W_3 (Safe.arr hZ.alike Ar_3 (by decide))
  have V_3 : Arv Z h_3 b_1 k_1 .char (16 : Int32) [(.int (60 : Int32)), (.int (62 : Int32)), (.int (0 : Int32)), (.int (0 : Int32)), (.int (0 : Int32)), (.int (0 : Int32)), (.int (0 : Int32)), (.int (0 : Int32)), (.int (0 : Int32)), (.int (0 : Int32)), (.int (0 : Int32)), (.int (0 : Int32)), (.int (0 : Int32)), (.int (0 : Int32)), (.int (0 : Int32)), (.int (0 : Int32))] (.int (0 : Int32)) := Arv.set Ar_3 q_3 S_3 M_3 H_3 G_3 (fits_nar_char _) W_3 1 rfl (Nat.le_of_ble_eq_true rfl)
  have N_3 := Fr.snoc X_3 N_2 g_b_1
  have Z0__3 : n0 ≤ h_3.size := by rw [W_3.size]; exact Z0__2
  refine own_go (B := T_3.setTop (mkF m 14 #[.val (.int p0), .val (.int p1), .unset, .unset] [(.ref b_1)])) (fun t k => st_3 t k) ?_
  refine own_go (B := T_3.setTop (mkF m 18 #[.val (.int p0), .val (.int p1), .unset, .unset] [(.int (34 : Int32)), (.int (2 : Int32)), (.ref b_1), (.ref b_1)])) (fun t k => ?_) ?_
  · show Steps p.tables e below (T_3.setTop (mkF m 14 #[.val (.int p0), .val (.int p1), .unset, .unset] [(.ref b_1)])) _
    refine XS.dup X_3.here hx rfl (hb hby at_14) rfl rfl ?_
    show Steps p.tables e below (T_3.setTop (mkF m 15 #[.val (.int p0), .val (.int p1), .unset, .unset] [(.ref b_1), (.ref b_1)])) _
    refine XS.iconst X_3.here hx rfl (hb hby at_15) ?_
    show Steps p.tables e below (T_3.setTop (mkF m 16 #[.val (.int p0), .val (.int p1), .unset, .unset] [(.int (2 : Int32)), (.ref b_1), (.ref b_1)])) _
    refine XS.bipush X_3.here hx rfl (hb hby at_16) ?_
    exact k
  obtain ⟨cl_4, Ar_4, q_4, S_4, M_4, H_4, G_4⟩ := id V_3
  have hin_4 : ¬ ((2 : Int32) < 0 ∨ cl_4.slots.size ≤ ((2 : Int32)).toNatClampNeg) := inb_of S_4 ⟨by decide, by decide⟩
  obtain ⟨T_4, h_4, X_4, e_4, W_4, st_4⟩ := stC X_3 hx hZ e_3 Ar_4 (j := (2 : Int32)) hin_4 (g := (mkF m 18 #[.val (.int p0), .val (.int p1), .unset, .unset] [(.int (34 : Int32)), (.int (2 : Int32)), (.ref b_1), (.ref b_1)])) rfl rfl (hb hby at_18)
  have c10 : Keep h0 h_4 [] := c7.wr W_4 (Or.inr sz_b_1)
  have c11 := c8.wr W_4
  have c12 := c9.wr W_4 (Safe.arr hZ.alike Ar_4 (by decide))
  have V_4 : Arv Z h_4 b_1 k_1 .char (16 : Int32) [(.int (60 : Int32)), (.int (62 : Int32)), (.int (34 : Int32)), (.int (0 : Int32)), (.int (0 : Int32)), (.int (0 : Int32)), (.int (0 : Int32)), (.int (0 : Int32)), (.int (0 : Int32)), (.int (0 : Int32)), (.int (0 : Int32)), (.int (0 : Int32)), (.int (0 : Int32)), (.int (0 : Int32)), (.int (0 : Int32)), (.int (0 : Int32))] (.int (0 : Int32)) := Arv.set Ar_4 q_4 S_4 M_4 H_4 G_4 (fits_nar_char _) W_4 2 rfl (Nat.le_of_ble_eq_true rfl)
  have N_4 := Fr.snoc X_4 N_3 g_b_1
  have Z0__4 : n0 ≤ h_4.size := by rw [W_4.size]; exact Z0__3
  refine own_go (B := T_4.setTop (mkF m 19 #[.val (.int p0), .val (.int p1), .unset, .unset] [(.ref b_1)])) (fun t k => st_4 t k) ?_
  refine own_go (B := T_4.setTop (mkF m 23 #[.val (.int p0), .val (.int p1), .unset, .unset] [(.int (123 : Int32)), (.int (3 : Int32)), (.ref b_1), (.ref b_1)])) (fun t k => ?_) ?_
  · show Steps p.tables e below (T_4.setTop (mkF m 19 #[.val (.int p0), .val (.int p1), .unset, .unset] [(.ref b_1)])) _
    refine XS.dup X_4.here hx rfl (hb hby at_19) rfl rfl ?_
    show Steps p.tables e below (T_4.setTop (mkF m 20 #[.val (.int p0), .val (.int p1), .unset, .unset] [(.ref b_1), (.ref b_1)])) _
    refine XS.iconst X_4.here hx rfl (hb hby at_20) ?_
    show Steps p.tables e below (T_4.setTop (mkF m 21 #[.val (.int p0), .val (.int p1), .unset, .unset] [(.int (3 : Int32)), (.ref b_1), (.ref b_1)])) _
    refine XS.bipush X_4.here hx rfl (hb hby at_21) ?_
    exact k
  obtain ⟨cl_5, Ar_5, q_5, S_5, M_5, H_5, G_5⟩ := id V_4
  have hin_5 : ¬ ((3 : Int32) < 0 ∨ cl_5.slots.size ≤ ((3 : Int32)).toNatClampNeg) := inb_of S_5 ⟨by decide, by decide⟩
  obtain ⟨T_5, h_5, X_5, e_5, W_5, st_5⟩ := stC X_4 hx hZ e_4 Ar_5 (j := (3 : Int32)) hin_5 (g := (mkF m 23 #[.val (.int p0), .val (.int p1), .unset, .unset] [(.int (123 : Int32)), (.int (3 : Int32)), (.ref b_1), (.ref b_1)])) rfl rfl (hb hby at_23)
  have c13 : Keep h0 h_5 [] := c10.wr W_5 (Or.inr sz_b_1)
  have c14 := c11.wr W_5
  have c15 := c12.wr W_5 (Safe.arr hZ.alike Ar_5 (by decide))
  have V_5 : Arv Z h_5 b_1 k_1 .char (16 : Int32) [(.int (60 : Int32)), (.int (62 : Int32)), (.int (34 : Int32)), (.int (123 : Int32)), (.int (0 : Int32)), (.int (0 : Int32)), (.int (0 : Int32)), (.int (0 : Int32)), (.int (0 : Int32)), (.int (0 : Int32)), (.int (0 : Int32)), (.int (0 : Int32)), (.int (0 : Int32)), (.int (0 : Int32)), (.int (0 : Int32)), (.int (0 : Int32))] (.int (0 : Int32)) := Arv.set Ar_5 q_5 S_5 M_5 H_5 G_5 (fits_nar_char _) W_5 3 rfl (Nat.le_of_ble_eq_true rfl)
  have N_5 := Fr.snoc X_5 N_4 g_b_1
  have Z0__5 : n0 ≤ h_5.size := by rw [W_5.size]; exact Z0__4
  refine own_go (B := T_5.setTop (mkF m 24 #[.val (.int p0), .val (.int p1), .unset, .unset] [(.ref b_1)])) (fun t k => st_5 t k) ?_
  refine own_go (B := T_5.setTop (mkF m 28 #[.val (.int p0), .val (.int p1), .unset, .unset] [(.int (125 : Int32)), (.int (4 : Int32)), (.ref b_1), (.ref b_1)])) (fun t k => ?_) ?_
  · show Steps p.tables e below (T_5.setTop (mkF m 24 #[.val (.int p0), .val (.int p1), .unset, .unset] [(.ref b_1)])) _
    refine XS.dup X_5.here hx rfl (hb hby at_24) rfl rfl ?_
    show Steps p.tables e below (T_5.setTop (mkF m 25 #[.val (.int p0), .val (.int p1), .unset, .unset] [(.ref b_1), (.ref b_1)])) _
    refine XS.iconst X_5.here hx rfl (hb hby at_25) ?_
    show Steps p.tables e below (T_5.setTop (mkF m 26 #[.val (.int p0), .val (.int p1), .unset, .unset] [(.int (4 : Int32)), (.ref b_1), (.ref b_1)])) _
    refine XS.bipush X_5.here hx rfl (hb hby at_26) ?_
    exact k
  obtain ⟨cl_6, Ar_6, q_6, S_6, M_6, H_6, G_6⟩ := id V_5
  have hin_6 : ¬ ((4 : Int32) < 0 ∨ cl_6.slots.size ≤ ((4 : Int32)).toNatClampNeg) := inb_of S_6 ⟨by decide, by decide⟩
  obtain ⟨T_6, h_6, X_6, e_6, W_6, st_6⟩ := stC X_5 hx hZ e_5 Ar_6 (j := (4 : Int32)) hin_6 (g := (mkF m 28 #[.val (.int p0), .val (.int p1), .unset, .unset] [(.int (125 : Int32)), (.int (4 : Int32)), (.ref b_1), (.ref b_1)])) rfl rfl (hb hby at_28)
  have c16 : Keep h0 h_6 [] := c13.wr W_6 (Or.inr sz_b_1)
  have c17 := c14.wr W_6
  have c18 := c15.wr W_6 (Safe.arr hZ.alike Ar_6 (by decide))
  have V_6 : Arv Z h_6 b_1 k_1 .char (16 : Int32) [(.int (60 : Int32)), (.int (62 : Int32)), (.int (34 : Int32)), (.int (123 : Int32)), (.int (125 : Int32)), (.int (0 : Int32)), (.int (0 : Int32)), (.int (0 : Int32)), (.int (0 : Int32)), (.int (0 : Int32)), (.int (0 : Int32)), (.int (0 : Int32)), (.int (0 : Int32)), (.int (0 : Int32)), (.int (0 : Int32)), (.int (0 : Int32))] (.int (0 : Int32)) := Arv.set Ar_6 q_6 S_6 M_6 H_6 G_6 (fits_nar_char _) W_6 4 rfl (Nat.le_of_ble_eq_true rfl)
  have N_6 := Fr.snoc X_6 N_5 g_b_1
  have Z0__6 : n0 ≤ h_6.size := by rw [W_6.size]; exact Z0__5
  refine own_go (B := T_6.setTop (mkF m 29 #[.val (.int p0), .val (.int p1), .unset, .unset] [(.ref b_1)])) (fun t k => st_6 t k) ?_
  refine own_go (B := T_6.setTop (mkF m 33 #[.val (.int p0), .val (.int p1), .unset, .unset] [(.int (124 : Int32)), (.int (5 : Int32)), (.ref b_1), (.ref b_1)])) (fun t k => ?_) ?_
  · show Steps p.tables e below (T_6.setTop (mkF m 29 #[.val (.int p0), .val (.int p1), .unset, .unset] [(.ref b_1)])) _
    refine XS.dup X_6.here hx rfl (hb hby at_29) rfl rfl ?_
    show Steps p.tables e below (T_6.setTop (mkF m 30 #[.val (.int p0), .val (.int p1), .unset, .unset] [(.ref b_1), (.ref b_1)])) _
    refine XS.iconst X_6.here hx rfl (hb hby at_30) ?_
    show Steps p.tables e below (T_6.setTop (mkF m 31 #[.val (.int p0), .val (.int p1), .unset, .unset] [(.int (5 : Int32)), (.ref b_1), (.ref b_1)])) _
    refine XS.bipush X_6.here hx rfl (hb hby at_31) ?_
    exact k
  obtain ⟨cl_7, Ar_7, q_7, S_7, M_7, H_7, G_7⟩ := id V_6
  have hin_7 : ¬ ((5 : Int32) < 0 ∨ cl_7.slots.size ≤ ((5 : Int32)).toNatClampNeg) := inb_of S_7 ⟨by decide, by decide⟩
  obtain ⟨T_7, h_7, X_7, e_7, W_7, st_7⟩ := stC X_6 hx hZ e_6 Ar_7 (j := (5 : Int32)) hin_7 (g := (mkF m 33 #[.val (.int p0), .val (.int p1), .unset, .unset] [(.int (124 : Int32)), (.int (5 : Int32)), (.ref b_1), (.ref b_1)])) rfl rfl (hb hby at_33)
  have c19 : Keep h0 h_7 [] := c16.wr W_7 (Or.inr sz_b_1)
  have c20 := c17.wr W_7
  have c21 := c18.wr W_7 (Safe.arr hZ.alike Ar_7 (by decide))
  have V_7 : Arv Z h_7 b_1 k_1 .char (16 : Int32) [(.int (60 : Int32)), (.int (62 : Int32)), (.int (34 : Int32)), (.int (123 : Int32)), (.int (125 : Int32)), (.int (124 : Int32)), (.int (0 : Int32)), (.int (0 : Int32)), (.int (0 : Int32)), (.int (0 : Int32)), (.int (0 : Int32)), (.int (0 : Int32)), (.int (0 : Int32)), (.int (0 : Int32)), (.int (0 : Int32)), (.int (0 : Int32))] (.int (0 : Int32)) := Arv.set Ar_7 q_7 S_7 M_7 H_7 G_7 (fits_nar_char _) W_7 5 rfl (Nat.le_of_ble_eq_true rfl)
  have N_7 := Fr.snoc X_7 N_6 g_b_1
  have Z0__7 : n0 ≤ h_7.size := by rw [W_7.size]; exact Z0__6
  refine own_go (B := T_7.setTop (mkF m 34 #[.val (.int p0), .val (.int p1), .unset, .unset] [(.ref b_1)])) (fun t k => st_7 t k) ?_
  refine own_go (B := T_7.setTop (mkF m 39 #[.val (.int p0), .val (.int p1), .unset, .unset] [(.int (94 : Int32)), (.int (6 : Int32)), (.ref b_1), (.ref b_1)])) (fun t k => ?_) ?_
  · show Steps p.tables e below (T_7.setTop (mkF m 34 #[.val (.int p0), .val (.int p1), .unset, .unset] [(.ref b_1)])) _
    refine XS.dup X_7.here hx rfl (hb hby at_34) rfl rfl ?_
    show Steps p.tables e below (T_7.setTop (mkF m 35 #[.val (.int p0), .val (.int p1), .unset, .unset] [(.ref b_1), (.ref b_1)])) _
    refine XS.bipush X_7.here hx rfl (hb hby at_35) ?_
    show Steps p.tables e below (T_7.setTop (mkF m 37 #[.val (.int p0), .val (.int p1), .unset, .unset] [(.int (6 : Int32)), (.ref b_1), (.ref b_1)])) _
    refine XS.bipush X_7.here hx rfl (hb hby at_37) ?_
    exact k
  obtain ⟨cl_8, Ar_8, q_8, S_8, M_8, H_8, G_8⟩ := id V_7
  have hin_8 : ¬ ((6 : Int32) < 0 ∨ cl_8.slots.size ≤ ((6 : Int32)).toNatClampNeg) := inb_of S_8 ⟨by decide, by decide⟩
  obtain ⟨T_8, h_8, X_8, e_8, W_8, st_8⟩ := stC X_7 hx hZ e_7 Ar_8 (j := (6 : Int32)) hin_8 (g := (mkF m 39 #[.val (.int p0), .val (.int p1), .unset, .unset] [(.int (94 : Int32)), (.int (6 : Int32)), (.ref b_1), (.ref b_1)])) rfl rfl (hb hby at_39)
  have c22 : Keep h0 h_8 [] := c19.wr W_8 (Or.inr sz_b_1)
  have c23 := c20.wr W_8
  have c24 := c21.wr W_8 (Safe.arr hZ.alike Ar_8 (by decide))
  have V_8 : Arv Z h_8 b_1 k_1 .char (16 : Int32) [(.int (60 : Int32)), (.int (62 : Int32)), (.int (34 : Int32)), (.int (123 : Int32)), (.int (125 : Int32)), (.int (124 : Int32)), (.int (94 : Int32)), (.int (0 : Int32)), (.int (0 : Int32)), (.int (0 : Int32)), (.int (0 : Int32)), (.int (0 : Int32)), (.int (0 : Int32)), (.int (0 : Int32)), (.int (0 : Int32)), (.int (0 : Int32))] (.int (0 : Int32)) := Arv.set Ar_8 q_8 S_8 M_8 H_8 G_8 (fits_nar_char _) W_8 6 rfl (Nat.le_of_ble_eq_true rfl)
  have N_8 := Fr.snoc X_8 N_7 g_b_1
  have Z0__8 : n0 ≤ h_8.size := by rw [W_8.size]; exact Z0__7
  refine own_go (B := T_8.setTop (mkF m 40 #[.val (.int p0), .val (.int p1), .unset, .unset] [(.ref b_1)])) (fun t k => st_8 t k) ?_
  refine own_go (B := T_8.setTop (mkF m 45 #[.val (.int p0), .val (.int p1), .unset, .unset] [(.int (96 : Int32)), (.int (7 : Int32)), (.ref b_1), (.ref b_1)])) (fun t k => ?_) ?_
  · show Steps p.tables e below (T_8.setTop (mkF m 40 #[.val (.int p0), .val (.int p1), .unset, .unset] [(.ref b_1)])) _
    refine XS.dup X_8.here hx rfl (hb hby at_40) rfl rfl ?_
    show Steps p.tables e below (T_8.setTop (mkF m 41 #[.val (.int p0), .val (.int p1), .unset, .unset] [(.ref b_1), (.ref b_1)])) _
    refine XS.bipush X_8.here hx rfl (hb hby at_41) ?_
    show Steps p.tables e below (T_8.setTop (mkF m 43 #[.val (.int p0), .val (.int p1), .unset, .unset] [(.int (7 : Int32)), (.ref b_1), (.ref b_1)])) _
    refine XS.bipush X_8.here hx rfl (hb hby at_43) ?_
    exact k
  obtain ⟨cl_9, Ar_9, q_9, S_9, M_9, H_9, G_9⟩ := id V_8
  have hin_9 : ¬ ((7 : Int32) < 0 ∨ cl_9.slots.size ≤ ((7 : Int32)).toNatClampNeg) := inb_of S_9 ⟨by decide, by decide⟩
  obtain ⟨T_9, h_9, X_9, e_9, W_9, st_9⟩ := stC X_8 hx hZ e_8 Ar_9 (j := (7 : Int32)) hin_9 (g := (mkF m 45 #[.val (.int p0), .val (.int p1), .unset, .unset] [(.int (96 : Int32)), (.int (7 : Int32)), (.ref b_1), (.ref b_1)])) rfl rfl (hb hby at_45)
  have c25 : Keep h0 h_9 [] := c22.wr W_9 (Or.inr sz_b_1)
  have c26 := c23.wr W_9
  have c27 := c24.wr W_9 (Safe.arr hZ.alike Ar_9 (by decide))
  have V_9 : Arv Z h_9 b_1 k_1 .char (16 : Int32) [(.int (60 : Int32)), (.int (62 : Int32)), (.int (34 : Int32)), (.int (123 : Int32)), (.int (125 : Int32)), (.int (124 : Int32)), (.int (94 : Int32)), (.int (96 : Int32)), (.int (0 : Int32)), (.int (0 : Int32)), (.int (0 : Int32)), (.int (0 : Int32)), (.int (0 : Int32)), (.int (0 : Int32)), (.int (0 : Int32)), (.int (0 : Int32))] (.int (0 : Int32)) := Arv.set Ar_9 q_9 S_9 M_9 H_9 G_9 (fits_nar_char _) W_9 7 rfl (Nat.le_of_ble_eq_true rfl)
  have N_9 := Fr.snoc X_9 N_8 g_b_1
  have Z0__9 : n0 ≤ h_9.size := by rw [W_9.size]; exact Z0__8
  refine own_go (B := T_9.setTop (mkF m 46 #[.val (.int p0), .val (.int p1), .unset, .unset] [(.ref b_1)])) (fun t k => st_9 t k) ?_
  refine own_go (B := T_9.setTop (mkF m 51 #[.val (.int p0), .val (.int p1), .unset, .unset] [(.int (92 : Int32)), (.int (8 : Int32)), (.ref b_1), (.ref b_1)])) (fun t k => ?_) ?_
  · show Steps p.tables e below (T_9.setTop (mkF m 46 #[.val (.int p0), .val (.int p1), .unset, .unset] [(.ref b_1)])) _
    refine XS.dup X_9.here hx rfl (hb hby at_46) rfl rfl ?_
    show Steps p.tables e below (T_9.setTop (mkF m 47 #[.val (.int p0), .val (.int p1), .unset, .unset] [(.ref b_1), (.ref b_1)])) _
    refine XS.bipush X_9.here hx rfl (hb hby at_47) ?_
    show Steps p.tables e below (T_9.setTop (mkF m 49 #[.val (.int p0), .val (.int p1), .unset, .unset] [(.int (8 : Int32)), (.ref b_1), (.ref b_1)])) _
    refine XS.bipush X_9.here hx rfl (hb hby at_49) ?_
    exact k
  obtain ⟨cl_10, Ar_10, q_10, S_10, M_10, H_10, G_10⟩ := id V_9
  have hin_10 : ¬ ((8 : Int32) < 0 ∨ cl_10.slots.size ≤ ((8 : Int32)).toNatClampNeg) := inb_of S_10 ⟨by decide, by decide⟩
  obtain ⟨T_10, h_10, X_10, e_10, W_10, st_10⟩ := stC X_9 hx hZ e_9 Ar_10 (j := (8 : Int32)) hin_10 (g := (mkF m 51 #[.val (.int p0), .val (.int p1), .unset, .unset] [(.int (92 : Int32)), (.int (8 : Int32)), (.ref b_1), (.ref b_1)])) rfl rfl (hb hby at_51)
  have c28 : Keep h0 h_10 [] := c25.wr W_10 (Or.inr sz_b_1)
  have c29 := c26.wr W_10
  have c30 := c27.wr W_10 (Safe.arr hZ.alike Ar_10 (by decide))
  have V_10 : Arv Z h_10 b_1 k_1 .char (16 : Int32) [(.int (60 : Int32)), (.int (62 : Int32)), (.int (34 : Int32)), (.int (123 : Int32)), (.int (125 : Int32)), (.int (124 : Int32)), (.int (94 : Int32)), (.int (96 : Int32)), (.int (92 : Int32)), (.int (0 : Int32)), (.int (0 : Int32)), (.int (0 : Int32)), (.int (0 : Int32)), (.int (0 : Int32)), (.int (0 : Int32)), (.int (0 : Int32))] (.int (0 : Int32)) := Arv.set Ar_10 q_10 S_10 M_10 H_10 G_10 (fits_nar_char _) W_10 8 rfl (Nat.le_of_ble_eq_true rfl)
  have N_10 := Fr.snoc X_10 N_9 g_b_1
  have Z0__10 : n0 ≤ h_10.size := by rw [W_10.size]; exact Z0__9
  refine own_go (B := T_10.setTop (mkF m 52 #[.val (.int p0), .val (.int p1), .unset, .unset] [(.ref b_1)])) (fun t k => st_10 t k) ?_
  refine own_go (B := T_10.setTop (mkF m 57 #[.val (.int p0), .val (.int p1), .unset, .unset] [(.int (32 : Int32)), (.int (9 : Int32)), (.ref b_1), (.ref b_1)])) (fun t k => ?_) ?_
  · show Steps p.tables e below (T_10.setTop (mkF m 52 #[.val (.int p0), .val (.int p1), .unset, .unset] [(.ref b_1)])) _
    refine XS.dup X_10.here hx rfl (hb hby at_52) rfl rfl ?_
    show Steps p.tables e below (T_10.setTop (mkF m 53 #[.val (.int p0), .val (.int p1), .unset, .unset] [(.ref b_1), (.ref b_1)])) _
    refine XS.bipush X_10.here hx rfl (hb hby at_53) ?_
    show Steps p.tables e below (T_10.setTop (mkF m 55 #[.val (.int p0), .val (.int p1), .unset, .unset] [(.int (9 : Int32)), (.ref b_1), (.ref b_1)])) _
    refine XS.bipush X_10.here hx rfl (hb hby at_55) ?_
    exact k
  obtain ⟨cl_11, Ar_11, q_11, S_11, M_11, H_11, G_11⟩ := id V_10
  have hin_11 : ¬ ((9 : Int32) < 0 ∨ cl_11.slots.size ≤ ((9 : Int32)).toNatClampNeg) := inb_of S_11 ⟨by decide, by decide⟩
  obtain ⟨T_11, h_11, X_11, e_11, W_11, st_11⟩ := stC X_10 hx hZ e_10 Ar_11 (j := (9 : Int32)) hin_11 (g := (mkF m 57 #[.val (.int p0), .val (.int p1), .unset, .unset] [(.int (32 : Int32)), (.int (9 : Int32)), (.ref b_1), (.ref b_1)])) rfl rfl (hb hby at_57)
  have c31 : Keep h0 h_11 [] := c28.wr W_11 (Or.inr sz_b_1)
  have c32 := c29.wr W_11
  have c33 := c30.wr W_11 (Safe.arr hZ.alike Ar_11 (by decide))
  have V_11 : Arv Z h_11 b_1 k_1 .char (16 : Int32) [(.int (60 : Int32)), (.int (62 : Int32)), (.int (34 : Int32)), (.int (123 : Int32)), (.int (125 : Int32)), (.int (124 : Int32)), (.int (94 : Int32)), (.int (96 : Int32)), (.int (92 : Int32)), (.int (32 : Int32)), (.int (0 : Int32)), (.int (0 : Int32)), (.int (0 : Int32)), (.int (0 : Int32)), (.int (0 : Int32)), (.int (0 : Int32))] (.int (0 : Int32)) := Arv.set Ar_11 q_11 S_11 M_11 H_11 G_11 (fits_nar_char _) W_11 9 rfl (Nat.le_of_ble_eq_true rfl)
  have N_11 := Fr.snoc X_11 N_10 g_b_1
  have Z0__11 : n0 ≤ h_11.size := by rw [W_11.size]; exact Z0__10
  refine own_go (B := T_11.setTop (mkF m 58 #[.val (.int p0), .val (.int p1), .unset, .unset] [(.ref b_1)])) (fun t k => st_11 t k) ?_
  refine own_go (B := T_11.setTop (mkF m 63 #[.val (.int p0), .val (.int p1), .unset, .unset] [(.int (33 : Int32)), (.int (10 : Int32)), (.ref b_1), (.ref b_1)])) (fun t k => ?_) ?_
  · show Steps p.tables e below (T_11.setTop (mkF m 58 #[.val (.int p0), .val (.int p1), .unset, .unset] [(.ref b_1)])) _
    refine XS.dup X_11.here hx rfl (hb hby at_58) rfl rfl ?_
    show Steps p.tables e below (T_11.setTop (mkF m 59 #[.val (.int p0), .val (.int p1), .unset, .unset] [(.ref b_1), (.ref b_1)])) _
    refine XS.bipush X_11.here hx rfl (hb hby at_59) ?_
    show Steps p.tables e below (T_11.setTop (mkF m 61 #[.val (.int p0), .val (.int p1), .unset, .unset] [(.int (10 : Int32)), (.ref b_1), (.ref b_1)])) _
    refine XS.bipush X_11.here hx rfl (hb hby at_61) ?_
    exact k
  obtain ⟨cl_12, Ar_12, q_12, S_12, M_12, H_12, G_12⟩ := id V_11
  have hin_12 : ¬ ((10 : Int32) < 0 ∨ cl_12.slots.size ≤ ((10 : Int32)).toNatClampNeg) := inb_of S_12 ⟨by decide, by decide⟩
  obtain ⟨T_12, h_12, X_12, e_12, W_12, st_12⟩ := stC X_11 hx hZ e_11 Ar_12 (j := (10 : Int32)) hin_12 (g := (mkF m 63 #[.val (.int p0), .val (.int p1), .unset, .unset] [(.int (33 : Int32)), (.int (10 : Int32)), (.ref b_1), (.ref b_1)])) rfl rfl (hb hby at_63)
  have c34 : Keep h0 h_12 [] := c31.wr W_12 (Or.inr sz_b_1)
  have c35 := c32.wr W_12
  have c36 := c33.wr W_12 (Safe.arr hZ.alike Ar_12 (by decide))
  have V_12 : Arv Z h_12 b_1 k_1 .char (16 : Int32) [(.int (60 : Int32)), (.int (62 : Int32)), (.int (34 : Int32)), (.int (123 : Int32)), (.int (125 : Int32)), (.int (124 : Int32)), (.int (94 : Int32)), (.int (96 : Int32)), (.int (92 : Int32)), (.int (32 : Int32)), (.int (33 : Int32)), (.int (0 : Int32)), (.int (0 : Int32)), (.int (0 : Int32)), (.int (0 : Int32)), (.int (0 : Int32))] (.int (0 : Int32)) := Arv.set Ar_12 q_12 S_12 M_12 H_12 G_12 (fits_nar_char _) W_12 10 rfl (Nat.le_of_ble_eq_true rfl)
  have N_12 := Fr.snoc X_12 N_11 g_b_1
  have Z0__12 : n0 ≤ h_12.size := by rw [W_12.size]; exact Z0__11
  refine own_go (B := T_12.setTop (mkF m 64 #[.val (.int p0), .val (.int p1), .unset, .unset] [(.ref b_1)])) (fun t k => st_12 t k) ?_
  refine own_go (B := T_12.setTop (mkF m 68 #[.val (.int p0), .val (.int p1), .unset, .unset] [(.int (0 : Int32)), (.int (11 : Int32)), (.ref b_1), (.ref b_1)])) (fun t k => ?_) ?_
  · show Steps p.tables e below (T_12.setTop (mkF m 64 #[.val (.int p0), .val (.int p1), .unset, .unset] [(.ref b_1)])) _
    refine XS.dup X_12.here hx rfl (hb hby at_64) rfl rfl ?_
    show Steps p.tables e below (T_12.setTop (mkF m 65 #[.val (.int p0), .val (.int p1), .unset, .unset] [(.ref b_1), (.ref b_1)])) _
    refine XS.bipush X_12.here hx rfl (hb hby at_65) ?_
    show Steps p.tables e below (T_12.setTop (mkF m 67 #[.val (.int p0), .val (.int p1), .unset, .unset] [(.int (11 : Int32)), (.ref b_1), (.ref b_1)])) _
    refine XS.iconst X_12.here hx rfl (hb hby at_67) ?_
    exact k
  obtain ⟨cl_13, Ar_13, q_13, S_13, M_13, H_13, G_13⟩ := id V_12
  have hin_13 : ¬ ((11 : Int32) < 0 ∨ cl_13.slots.size ≤ ((11 : Int32)).toNatClampNeg) := inb_of S_13 ⟨by decide, by decide⟩
  obtain ⟨T_13, h_13, X_13, e_13, W_13, st_13⟩ := stC X_12 hx hZ e_12 Ar_13 (j := (11 : Int32)) hin_13 (g := (mkF m 68 #[.val (.int p0), .val (.int p1), .unset, .unset] [(.int (0 : Int32)), (.int (11 : Int32)), (.ref b_1), (.ref b_1)])) rfl rfl (hb hby at_68)
  have c37 : Keep h0 h_13 [] := c34.wr W_13 (Or.inr sz_b_1)
  have c38 := c35.wr W_13
  have c39 := c36.wr W_13 (Safe.arr hZ.alike Ar_13 (by decide))
  have V_13 : Arv Z h_13 b_1 k_1 .char (16 : Int32) [(.int (60 : Int32)), (.int (62 : Int32)), (.int (34 : Int32)), (.int (123 : Int32)), (.int (125 : Int32)), (.int (124 : Int32)), (.int (94 : Int32)), (.int (96 : Int32)), (.int (92 : Int32)), (.int (32 : Int32)), (.int (33 : Int32)), (.int (0 : Int32)), (.int (0 : Int32)), (.int (0 : Int32)), (.int (0 : Int32)), (.int (0 : Int32))] (.int (0 : Int32)) := Arv.set Ar_13 q_13 S_13 M_13 H_13 G_13 (fits_nar_char _) W_13 11 rfl (Nat.le_of_ble_eq_true rfl)
  have N_13 := Fr.snoc X_13 N_12 g_b_1
  have Z0__13 : n0 ≤ h_13.size := by rw [W_13.size]; exact Z0__12
  refine own_go (B := T_13.setTop (mkF m 69 #[.val (.int p0), .val (.int p1), .unset, .unset] [(.ref b_1)])) (fun t k => st_13 t k) ?_
  refine own_go (B := T_13.setTop (mkF m 74 #[.val (.int p0), .val (.int p1), .unset, .unset] [(.int (127 : Int32)), (.int (12 : Int32)), (.ref b_1), (.ref b_1)])) (fun t k => ?_) ?_
  · show Steps p.tables e below (T_13.setTop (mkF m 69 #[.val (.int p0), .val (.int p1), .unset, .unset] [(.ref b_1)])) _
    refine XS.dup X_13.here hx rfl (hb hby at_69) rfl rfl ?_
    show Steps p.tables e below (T_13.setTop (mkF m 70 #[.val (.int p0), .val (.int p1), .unset, .unset] [(.ref b_1), (.ref b_1)])) _
    refine XS.bipush X_13.here hx rfl (hb hby at_70) ?_
    show Steps p.tables e below (T_13.setTop (mkF m 72 #[.val (.int p0), .val (.int p1), .unset, .unset] [(.int (12 : Int32)), (.ref b_1), (.ref b_1)])) _
    refine XS.bipush X_13.here hx rfl (hb hby at_72) ?_
    exact k
  obtain ⟨cl_14, Ar_14, q_14, S_14, M_14, H_14, G_14⟩ := id V_13
  have hin_14 : ¬ ((12 : Int32) < 0 ∨ cl_14.slots.size ≤ ((12 : Int32)).toNatClampNeg) := inb_of S_14 ⟨by decide, by decide⟩
  obtain ⟨T_14, h_14, X_14, e_14, W_14, st_14⟩ := stC X_13 hx hZ e_13 Ar_14 (j := (12 : Int32)) hin_14 (g := (mkF m 74 #[.val (.int p0), .val (.int p1), .unset, .unset] [(.int (127 : Int32)), (.int (12 : Int32)), (.ref b_1), (.ref b_1)])) rfl rfl (hb hby at_74)
  have c40 : Keep h0 h_14 [] := c37.wr W_14 (Or.inr sz_b_1)
  have c41 := c38.wr W_14
  have c42 := c39.wr W_14 (Safe.arr hZ.alike Ar_14 (by decide))
  have V_14 : Arv Z h_14 b_1 k_1 .char (16 : Int32) [(.int (60 : Int32)), (.int (62 : Int32)), (.int (34 : Int32)), (.int (123 : Int32)), (.int (125 : Int32)), (.int (124 : Int32)), (.int (94 : Int32)), (.int (96 : Int32)), (.int (92 : Int32)), (.int (32 : Int32)), (.int (33 : Int32)), (.int (0 : Int32)), (.int (127 : Int32)), (.int (0 : Int32)), (.int (0 : Int32)), (.int (0 : Int32))] (.int (0 : Int32)) := Arv.set Ar_14 q_14 S_14 M_14 H_14 G_14 (fits_nar_char _) W_14 12 rfl (Nat.le_of_ble_eq_true rfl)
  have N_14 := Fr.snoc X_14 N_13 g_b_1
  have Z0__14 : n0 ≤ h_14.size := by rw [W_14.size]; exact Z0__13
  refine own_go (B := T_14.setTop (mkF m 75 #[.val (.int p0), .val (.int p1), .unset, .unset] [(.ref b_1)])) (fun t k => st_14 t k) ?_
  refine own_go (B := T_14.setTop (mkF m 80 #[.val (.int p0), .val (.int p1), .unset, .unset] [(.int (65535 : Int32)), (.int (13 : Int32)), (.ref b_1), (.ref b_1)])) (fun t k => ?_) ?_
  · show Steps p.tables e below (T_14.setTop (mkF m 75 #[.val (.int p0), .val (.int p1), .unset, .unset] [(.ref b_1)])) _
    refine XS.dup X_14.here hx rfl (hb hby at_75) rfl rfl ?_
    show Steps p.tables e below (T_14.setTop (mkF m 76 #[.val (.int p0), .val (.int p1), .unset, .unset] [(.ref b_1), (.ref b_1)])) _
    refine XS.bipush X_14.here hx rfl (hb hby at_76) ?_
    show Steps p.tables e below (T_14.setTop (mkF m 78 #[.val (.int p0), .val (.int p1), .unset, .unset] [(.int (13 : Int32)), (.ref b_1), (.ref b_1)])) _
    refine X_14.ldcInt hx hown (mvT hZ (hw _ (List.mem_of_getElem? (i := 1) rfl))) (g := (mkF m 78 #[.val (.int p0), .val (.int p1), .unset, .unset] [(.int (13 : Int32)), (.ref b_1), (.ref b_1)])) rfl (hb hby at_78) _ ?_
    exact k
  obtain ⟨cl_15, Ar_15, q_15, S_15, M_15, H_15, G_15⟩ := id V_14
  have hin_15 : ¬ ((13 : Int32) < 0 ∨ cl_15.slots.size ≤ ((13 : Int32)).toNatClampNeg) := inb_of S_15 ⟨by decide, by decide⟩
  obtain ⟨T_15, h_15, X_15, e_15, W_15, st_15⟩ := stC X_14 hx hZ e_14 Ar_15 (j := (13 : Int32)) hin_15 (g := (mkF m 80 #[.val (.int p0), .val (.int p1), .unset, .unset] [(.int (65535 : Int32)), (.int (13 : Int32)), (.ref b_1), (.ref b_1)])) rfl rfl (hb hby at_80)
  have c43 : Keep h0 h_15 [] := c40.wr W_15 (Or.inr sz_b_1)
  have c44 := c41.wr W_15
  have c45 := c42.wr W_15 (Safe.arr hZ.alike Ar_15 (by decide))
  have V_15 : Arv Z h_15 b_1 k_1 .char (16 : Int32) [(.int (60 : Int32)), (.int (62 : Int32)), (.int (34 : Int32)), (.int (123 : Int32)), (.int (125 : Int32)), (.int (124 : Int32)), (.int (94 : Int32)), (.int (96 : Int32)), (.int (92 : Int32)), (.int (32 : Int32)), (.int (33 : Int32)), (.int (0 : Int32)), (.int (127 : Int32)), (.int (65535 : Int32)), (.int (0 : Int32)), (.int (0 : Int32))] (.int (0 : Int32)) := Arv.set Ar_15 q_15 S_15 M_15 H_15 G_15 (fits_nar_char _) W_15 13 rfl (Nat.le_of_ble_eq_true rfl)
  have N_15 := Fr.snoc X_15 N_14 g_b_1
  have Z0__15 : n0 ≤ h_15.size := by rw [W_15.size]; exact Z0__14
  refine own_go (B := T_15.setTop (mkF m 81 #[.val (.int p0), .val (.int p1), .unset, .unset] [(.ref b_1)])) (fun t k => st_15 t k) ?_
  refine own_go (B := T_15.setTop (mkF m 86 #[.val (.int p0), .val (.int p1), .unset, .unset] [(.int (31 : Int32)), (.int (14 : Int32)), (.ref b_1), (.ref b_1)])) (fun t k => ?_) ?_
  · show Steps p.tables e below (T_15.setTop (mkF m 81 #[.val (.int p0), .val (.int p1), .unset, .unset] [(.ref b_1)])) _
    refine XS.dup X_15.here hx rfl (hb hby at_81) rfl rfl ?_
    show Steps p.tables e below (T_15.setTop (mkF m 82 #[.val (.int p0), .val (.int p1), .unset, .unset] [(.ref b_1), (.ref b_1)])) _
    refine XS.bipush X_15.here hx rfl (hb hby at_82) ?_
    show Steps p.tables e below (T_15.setTop (mkF m 84 #[.val (.int p0), .val (.int p1), .unset, .unset] [(.int (14 : Int32)), (.ref b_1), (.ref b_1)])) _
    refine XS.bipush X_15.here hx rfl (hb hby at_84) ?_
    exact k
  obtain ⟨cl_16, Ar_16, q_16, S_16, M_16, H_16, G_16⟩ := id V_15
  have hin_16 : ¬ ((14 : Int32) < 0 ∨ cl_16.slots.size ≤ ((14 : Int32)).toNatClampNeg) := inb_of S_16 ⟨by decide, by decide⟩
  obtain ⟨T_16, h_16, X_16, e_16, W_16, st_16⟩ := stC X_15 hx hZ e_15 Ar_16 (j := (14 : Int32)) hin_16 (g := (mkF m 86 #[.val (.int p0), .val (.int p1), .unset, .unset] [(.int (31 : Int32)), (.int (14 : Int32)), (.ref b_1), (.ref b_1)])) rfl rfl (hb hby at_86)
  have c46 : Keep h0 h_16 [] := c43.wr W_16 (Or.inr sz_b_1)
  have c47 := c44.wr W_16
  have c48 := c45.wr W_16 (Safe.arr hZ.alike Ar_16 (by decide))
  have V_16 : Arv Z h_16 b_1 k_1 .char (16 : Int32) [(.int (60 : Int32)), (.int (62 : Int32)), (.int (34 : Int32)), (.int (123 : Int32)), (.int (125 : Int32)), (.int (124 : Int32)), (.int (94 : Int32)), (.int (96 : Int32)), (.int (92 : Int32)), (.int (32 : Int32)), (.int (33 : Int32)), (.int (0 : Int32)), (.int (127 : Int32)), (.int (65535 : Int32)), (.int (31 : Int32)), (.int (0 : Int32))] (.int (0 : Int32)) := Arv.set Ar_16 q_16 S_16 M_16 H_16 G_16 (fits_nar_char _) W_16 14 rfl (Nat.le_of_ble_eq_true rfl)
  have N_16 := Fr.snoc X_16 N_15 g_b_1
  have Z0__16 : n0 ≤ h_16.size := by rw [W_16.size]; exact Z0__15
  refine own_go (B := T_16.setTop (mkF m 87 #[.val (.int p0), .val (.int p1), .unset, .unset] [(.ref b_1)])) (fun t k => st_16 t k) ?_
  refine own_go (B := T_16.setTop (mkF m 92 #[.val (.int p0), .val (.int p1), .unset, .unset] [(.int (33 : Int32)), (.int (15 : Int32)), (.ref b_1), (.ref b_1)])) (fun t k => ?_) ?_
  · show Steps p.tables e below (T_16.setTop (mkF m 87 #[.val (.int p0), .val (.int p1), .unset, .unset] [(.ref b_1)])) _
    refine XS.dup X_16.here hx rfl (hb hby at_87) rfl rfl ?_
    show Steps p.tables e below (T_16.setTop (mkF m 88 #[.val (.int p0), .val (.int p1), .unset, .unset] [(.ref b_1), (.ref b_1)])) _
    refine XS.bipush X_16.here hx rfl (hb hby at_88) ?_
    show Steps p.tables e below (T_16.setTop (mkF m 90 #[.val (.int p0), .val (.int p1), .unset, .unset] [(.int (15 : Int32)), (.ref b_1), (.ref b_1)])) _
    refine XS.bipush X_16.here hx rfl (hb hby at_90) ?_
    exact k
  obtain ⟨cl_17, Ar_17, q_17, S_17, M_17, H_17, G_17⟩ := id V_16
  have hin_17 : ¬ ((15 : Int32) < 0 ∨ cl_17.slots.size ≤ ((15 : Int32)).toNatClampNeg) := inb_of S_17 ⟨by decide, by decide⟩
  obtain ⟨T_17, h_17, X_17, e_17, W_17, st_17⟩ := stC X_16 hx hZ e_16 Ar_17 (j := (15 : Int32)) hin_17 (g := (mkF m 92 #[.val (.int p0), .val (.int p1), .unset, .unset] [(.int (33 : Int32)), (.int (15 : Int32)), (.ref b_1), (.ref b_1)])) rfl rfl (hb hby at_92)
  have c49 : Keep h0 h_17 [] := c46.wr W_17 (Or.inr sz_b_1)
  have c50 := c47.wr W_17
  have c51 := c48.wr W_17 (Safe.arr hZ.alike Ar_17 (by decide))
  have V_17 : Arv Z h_17 b_1 k_1 .char (16 : Int32) [(.int (60 : Int32)), (.int (62 : Int32)), (.int (34 : Int32)), (.int (123 : Int32)), (.int (125 : Int32)), (.int (124 : Int32)), (.int (94 : Int32)), (.int (96 : Int32)), (.int (92 : Int32)), (.int (32 : Int32)), (.int (33 : Int32)), (.int (0 : Int32)), (.int (127 : Int32)), (.int (65535 : Int32)), (.int (31 : Int32)), (.int (33 : Int32))] (.int (0 : Int32)) := Arv.set Ar_17 q_17 S_17 M_17 H_17 G_17 (fits_nar_char _) W_17 15 rfl (Nat.le_of_ble_eq_true rfl)
  have N_17 := Fr.snoc X_17 N_16 g_b_1
  have Z0__17 : n0 ≤ h_17.size := by rw [W_17.size]; exact Z0__16
  refine own_go (B := T_17.setTop (mkF m 93 #[.val (.int p0), .val (.int p1), .unset, .unset] [(.ref b_1)])) (fun t k => st_17 t k) ?_
  refine own_go (B := T_17.setTop (mkF m 103 #[.val (.int p0), .val (.int p1), .val (.ref b_1), .val (.int ((p0 &&& (65535 : Int32)).toUInt32.toUInt16.toUInt32.toInt32))] [(.int (p1 &&& (1 : Int32)))])) (fun t k => ?_) ?_
  · show Steps p.tables e below (T_17.setTop (mkF m 93 #[.val (.int p0), .val (.int p1), .unset, .unset] [(.ref b_1)])) _
    refine XS.astoreN X_17.here hx rfl (hb hby at_93) rfl rfl (l' := #[.val (.int p0), .val (.int p1), .val (.ref b_1), .unset]) rfl ?_
    show Steps p.tables e below (T_17.setTop (mkF m 94 #[.val (.int p0), .val (.int p1), .val (.ref b_1), .unset] [])) _
    refine XS.iloadN X_17.here hx rfl (hb hby at_94) rfl ?_
    show Steps p.tables e below (T_17.setTop (mkF m 95 #[.val (.int p0), .val (.int p1), .val (.ref b_1), .unset] [(.int p0)])) _
    refine X_17.ldcInt hx hown (mvT hZ (hw _ (List.mem_of_getElem? (i := 1) rfl))) (g := (mkF m 95 #[.val (.int p0), .val (.int p1), .val (.ref b_1), .unset] [(.int p0)])) rfl (hb hby at_95) _ ?_
    show Steps p.tables e below (T_17.setTop (mkF m 97 #[.val (.int p0), .val (.int p1), .val (.ref b_1), .unset] [(.int (65535 : Int32)), (.int p0)])) _
    refine XS.iand X_17.here hx rfl (hb hby at_97) rfl ?_
    show Steps p.tables e below (T_17.setTop (mkF m 98 #[.val (.int p0), .val (.int p1), .val (.ref b_1), .unset] [(.int (p0 &&& (65535 : Int32)))])) _
    refine XS.i2c X_17.here hx rfl (hb hby at_98) rfl ?_
    show Steps p.tables e below (T_17.setTop (mkF m 99 #[.val (.int p0), .val (.int p1), .val (.ref b_1), .unset] [(.int ((p0 &&& (65535 : Int32)).toUInt32.toUInt16.toUInt32.toInt32))])) _
    refine XS.istoreN X_17.here hx rfl (hb hby at_99) rfl (l' := #[.val (.int p0), .val (.int p1), .val (.ref b_1), .val (.int ((p0 &&& (65535 : Int32)).toUInt32.toUInt16.toUInt32.toInt32))]) rfl ?_
    show Steps p.tables e below (T_17.setTop (mkF m 100 #[.val (.int p0), .val (.int p1), .val (.ref b_1), .val (.int ((p0 &&& (65535 : Int32)).toUInt32.toUInt16.toUInt32.toInt32))] [])) _
    refine XS.iloadN X_17.here hx rfl (hb hby at_100) rfl ?_
    show Steps p.tables e below (T_17.setTop (mkF m 101 #[.val (.int p0), .val (.int p1), .val (.ref b_1), .val (.int ((p0 &&& (65535 : Int32)).toUInt32.toUInt16.toUInt32.toInt32))] [(.int p1)])) _
    refine XS.iconst X_17.here hx rfl (hb hby at_101) ?_
    show Steps p.tables e below (T_17.setTop (mkF m 102 #[.val (.int p0), .val (.int p1), .val (.ref b_1), .val (.int ((p0 &&& (65535 : Int32)).toUInt32.toUInt16.toUInt32.toInt32))] [(.int (1 : Int32)), (.int p1)])) _
    refine XS.iand X_17.here hx rfl (hb hby at_102) rfl ?_
    exact k
  by_cases hc103 : (p1 &&& (1 : Int32)) = (0 : Int32)
  · refine own_go (B := T_17.setTop (mkF m 115 #[.val (.int p0), .val (.int p1), .val (.ref b_1), .val (.int ((p0 &&& (65535 : Int32)).toUInt32.toUInt16.toUInt32.toInt32))] [])) (fun t k => ?_) ?_
    · show Steps p.tables e below (T_17.setTop (mkF m 103 #[.val (.int p0), .val (.int p1), .val (.ref b_1), .val (.int ((p0 &&& (65535 : Int32)).toUInt32.toUInt16.toUInt32.toInt32))] [(.int (p1 &&& (1 : Int32)))])) _
      refine XS.ifYes X_17.here hx rfl (pc0 := 103) (pc' := 115) rfl (hb hby at_103) rfl ((if0 _ _).trans (teq hc103).1) (by decide) (by decide) ?_
      exact k
    refine own_go (B := T_17.setTop (mkF m 116 #[.val (.int p0), .val (.int p1), .val (.ref b_1), .val (.int ((p0 &&& (65535 : Int32)).toUInt32.toUInt16.toUInt32.toInt32))] [(.int ((p0 &&& (65535 : Int32)).toUInt32.toUInt16.toUInt32.toInt32))])) (fun t k => ?_) ?_
    · show Steps p.tables e below (T_17.setTop (mkF m 115 #[.val (.int p0), .val (.int p1), .val (.ref b_1), .val (.int ((p0 &&& (65535 : Int32)).toUInt32.toUInt16.toUInt32.toInt32))] [])) _
      refine XS.iloadN X_17.here hx rfl (hb hby at_115) rfl ?_
      exact k
    obtain ⟨_, _, ⟨T_18, L_18, k_18, n_18⟩, -, Xb_18, Sb_18, -, ⟨Lc_18, hQ_18, l_18, y_18, z_18, CH_18⟩, st_18⟩ := callSS (show Stand p l e room_1 (s.setVm s.vm) m #[(.int p0), (.int p1)] below meth c T_17 _ _ _ from X_17) hx (y := (⟨"com/example/cutoff/cutoff/store/Iri", "canHold", "(C)Z"⟩ : MethodName)) hown (mvT hZ (hw _ (List.mem_of_getElem? (i := 2) rfl))) (mvT hZ (hw _ (List.mem_of_getElem? (i := 3) rfl))) (mvT hZ (hw _ (List.mem_of_getElem? (i := 4) rfl))) (mvT hZ (hw _ (List.mem_of_getElem? (i := 5) rfl))) (by decide) (backOfSH (s := s) (vm0 := s.vm) (W := 0) (rm1 l Z av0 hw [] ((p0 &&& (65535 : Int32)).toUInt32.toUInt16.toUInt32.toInt32) w h_17 n0 Z0__17 c50 hw0 hEL) hZ (hw _ (List.mem_of_getElem? (i := 5) rfl)) (hw _ (List.mem_of_getElem? (i := 4) rfl)) (by decide) (by decide) hEL c51) (g := (mkF m 116 #[.val (.int p0), .val (.int p1), .val (.ref b_1), .val (.int ((p0 &&& (65535 : Int32)).toUInt32.toUInt16.toUInt32.toInt32))] [(.int ((p0 &&& (65535 : Int32)).toUInt32.toUInt16.toUInt32.toInt32))])) rfl (by rw [hml]; rfl) (argsL := [(.int ((p0 &&& (65535 : Int32)).toUInt32.toUInt16.toUInt32.toInt32))]) (rest := []) (lenOf pd_7 rfl) rfl (by show 2 * 0 + _ ≤ _; exact Nat.le_of_eq rfl) (hb hby at_116) (fun _ _ => ⟨rfl, e_17, (by decide : 1 + 2 ≤ _), (by decide : 16 + 40 ≤ _)⟩)
    dsimp only [Pt.U, Pt.locs, Pt.cells, Pt.slots] at Xb_18 Sb_18 l_18 y_18 z_18 st_18 hQ_18 CH_18
    subst l_18 y_18 z_18
    obtain ⟨rfl, N_18q, K_18⟩ := hQ_18
    have N_18 := Fr.app N_17 N_18q
    obtain ⟨X_18, Si_18, hZ_18, hown_18⟩ := rebS (s := s) (vm0 := s.vm) ((State.WarmedH.refl s).since 0) (Nat.zero_le 0) Xb_18 Sb_18 (Nat.zero_le _) hZ hown
    have c52 : Keep h0 T_18.heap [] := c49.trans K_18 all0
    have c53 := own_stak c50 K_18
    have c54 := V_17.keep K_18 nin0
    have Z0__18 : n0 ≤ T_18.heap.size := Nat.le_trans Z0__17 K_18.1
    refine own_go (B := T_18.setTop (mkF m 119 #[.val (.int p0), .val (.int p1), .val (.ref b_1), .val (.int ((p0 &&& (65535 : Int32)).toUInt32.toUInt16.toUInt32.toInt32))] [(.int (own_can ((p0 &&& (65535 : Int32)).toUInt32.toUInt16.toUInt32.toInt32)))])) (fun t k => st_18.trans k) ?_
    refine own_go (B := T_18.setTop (mkF m 120 #[.val (.int p0), .val (.int p1), .val (.ref b_1), .val (.int ((p0 &&& (65535 : Int32)).toUInt32.toUInt16.toUInt32.toInt32))] [(.int ((p0 &&& (65535 : Int32)).toUInt32.toUInt16.toUInt32.toInt32)), (.int (own_can ((p0 &&& (65535 : Int32)).toUInt32.toUInt16.toUInt32.toInt32)))])) (fun t k => ?_) ?_
    · show Steps p.tables e below (T_18.setTop (mkF m 119 #[.val (.int p0), .val (.int p1), .val (.ref b_1), .val (.int ((p0 &&& (65535 : Int32)).toUInt32.toUInt16.toUInt32.toInt32))] [(.int (own_can ((p0 &&& (65535 : Int32)).toUInt32.toUInt16.toUInt32.toInt32)))])) _
      refine XS.iloadN X_18.here hx rfl (hb hby at_119) rfl ?_
      exact k
    obtain ⟨_, _, ⟨T_19, L_19, k_19, n_19⟩, -, X_19, ⟨Lc_19, hQ_19, l_19, y_19, z_19⟩, st_19⟩ := Jvm.LawKit.callS X_18 hx (y := (⟨"com/example/cutoff/cutoff/store/IriCanHoldPinLaw", "expected", "(C)Z"⟩ : MethodName)) hown_18 (mvT hZ_18 (hw _ (List.mem_of_getElem? (i := 59) rfl))) (mvT hZ_18 (hw _ (List.mem_of_getElem? (i := 60) rfl))) (mvT hZ_18 (hw _ (List.mem_of_getElem? (i := 61) rfl))) (mvT hZ_18 (hw _ (List.mem_of_getElem? (i := 62) rfl))) (by decide) (backOf (W := 1) (rm12 l Z av0 hw [] ((p0 &&& (65535 : Int32)).toUInt32.toUInt16.toUInt32.toInt32)  T_18.heap n0 Z0__18 ) hZ_18 (hw _ (List.mem_of_getElem? (i := 62) rfl)) (hw _ (List.mem_of_getElem? (i := 61) rfl)) (by decide) (by decide)) (g := (mkF m 120 #[.val (.int p0), .val (.int p1), .val (.ref b_1), .val (.int ((p0 &&& (65535 : Int32)).toUInt32.toUInt16.toUInt32.toInt32))] [(.int ((p0 &&& (65535 : Int32)).toUInt32.toUInt16.toUInt32.toInt32)), (.int (own_can ((p0 &&& (65535 : Int32)).toUInt32.toUInt16.toUInt32.toInt32)))])) rfl (by rw [hml]; rfl) (argsL := [(.int ((p0 &&& (65535 : Int32)).toUInt32.toUInt16.toUInt32.toInt32))]) (rest := [(.int (own_can ((p0 &&& (65535 : Int32)).toUInt32.toUInt16.toUInt32.toInt32)))]) (lenOf pd_7 rfl) rfl (by show 2 * 0 + _ ≤ _; exact Nat.le_of_eq rfl) (hb hby at_120) (fun _ _ => ⟨rfl, rfl, (by decide : 3 + 0 ≤ _), (by decide : 56 + 0 ≤ _)⟩)
    dsimp only [Pt.U, Pt.locs, Pt.cells, Pt.slots] at X_19 l_19 y_19 z_19 st_19 hQ_19
    subst l_19 y_19 z_19
    obtain ⟨rfl, N_19q, e_19⟩ := hQ_19
    have N_19 := Fr.app N_18 N_19q
    refine own_go (B := T_19.setTop (mkF m 123 #[.val (.int p0), .val (.int p1), .val (.ref b_1), .val (.int ((p0 &&& (65535 : Int32)).toUInt32.toUInt16.toUInt32.toInt32))] [(.int (own_expd ((p0 &&& (65535 : Int32)).toUInt32.toUInt16.toUInt32.toInt32))), (.int (own_can ((p0 &&& (65535 : Int32)).toUInt32.toUInt16.toUInt32.toInt32)))])) (fun t k => st_19 t k) ?_
    obtain ⟨zv1, hzv1⟩ : ∃ zq : Int32, zq = (if (own_can ((p0 &&& (65535 : Int32)).toUInt32.toUInt16.toUInt32.toInt32)) = (own_expd ((p0 &&& (65535 : Int32)).toUInt32.toUInt16.toUInt32.toInt32)) then (1 : Int32) else (0 : Int32)) := ⟨_, rfl⟩
    refine own_go (B := T_19.setTop (mkF m 131 #[.val (.int p0), .val (.int p1), .val (.ref b_1), .val (.int ((p0 &&& (65535 : Int32)).toUInt32.toUInt16.toUInt32.toInt32))] [(.int zv1)])) (fun t k => ?_) ?_
    · show Steps p.tables e below (T_19.setTop (mkF m 123 #[.val (.int p0), .val (.int p1), .val (.ref b_1), .val (.int ((p0 &&& (65535 : Int32)).toUInt32.toUInt16.toUInt32.toInt32))] [(.int (own_expd ((p0 &&& (65535 : Int32)).toUInt32.toUInt16.toUInt32.toInt32))), (.int (own_can ((p0 &&& (65535 : Int32)).toUInt32.toUInt16.toUInt32.toInt32)))])) _
      by_cases hc123 : (own_can ((p0 &&& (65535 : Int32)).toUInt32.toUInt16.toUInt32.toInt32)) = (own_expd ((p0 &&& (65535 : Int32)).toUInt32.toUInt16.toUInt32.toInt32))
      · refine XS.icmpNo X_19.here hx rfl (hb hby at_123) rfl (teq hc123).2 ?_
        show Steps p.tables e below (T_19.setTop (mkF m 126 #[.val (.int p0), .val (.int p1), .val (.ref b_1), .val (.int ((p0 &&& (65535 : Int32)).toUInt32.toUInt16.toUInt32.toInt32))] [])) _
        refine XS.iconst X_19.here hx rfl (hb hby at_126) ?_
        show Steps p.tables e below (T_19.setTop (mkF m 127 #[.val (.int p0), .val (.int p1), .val (.ref b_1), .val (.int ((p0 &&& (65535 : Int32)).toUInt32.toUInt16.toUInt32.toInt32))] [(.int (1 : Int32))])) _
        refine XS.goto X_19.here hx rfl (pc0 := 127) (pc' := 131) rfl (hb hby at_127) (by decide) (by decide) ?_
        show Steps p.tables e below (T_19.setTop (mkF m 131 #[.val (.int p0), .val (.int p1), .val (.ref b_1), .val (.int ((p0 &&& (65535 : Int32)).toUInt32.toUInt16.toUInt32.toInt32))] [(.int (1 : Int32))])) _
        rw [show zv1 = (1 : Int32) from by simp only [hzv1, if_pos hc123]] at k
        exact k
      · refine XS.icmpYes X_19.here hx rfl (pc0 := 123) (pc' := 130) rfl (hb hby at_123) rfl (feq hc123).2 (by decide) (by decide) ?_
        show Steps p.tables e below (T_19.setTop (mkF m 130 #[.val (.int p0), .val (.int p1), .val (.ref b_1), .val (.int ((p0 &&& (65535 : Int32)).toUInt32.toUInt16.toUInt32.toInt32))] [])) _
        refine XS.iconst X_19.here hx rfl (hb hby at_130) ?_
        show Steps p.tables e below (T_19.setTop (mkF m 131 #[.val (.int p0), .val (.int p1), .val (.ref b_1), .val (.int ((p0 &&& (65535 : Int32)).toUInt32.toUInt16.toUInt32.toInt32))] [(.int (0 : Int32))])) _
        rw [show zv1 = (0 : Int32) from by simp only [hzv1, if_neg hc123]] at k
        exact k
    obtain ⟨fs, hr, hrun, hended, hRW⟩ := X_19.leaveW Si_18 (by rw [e_19]; exact (Nat.le_refl _)) (v := some (.int (nar .boolean zv1))) (fun h => by rw [Bd.returns] at h; cases h)
    refine ⟨_, _, ?_, hrun, hended, _, _, rfl, ?_, hRW.1, hRW.2.1, hRW.2.2.1, hRW.2.2.2.mono (by decide) (by decide)⟩
    · show Steps p.tables e below (T_19.setTop (mkF m 131 #[.val (.int p0), .val (.int p1), .val (.ref b_1), .val (.int ((p0 &&& (65535 : Int32)).toUInt32.toUInt16.toUInt32.toInt32))] [(.int zv1)])) _
      exact retN X_19 hx (t := .boolean) Bd.returns (by simp) (hb hby at_131) hr
    · show Q0 Z p0 p1 w h0 n0 _ T_19.heap _
      rw [e_19]
      exact ⟨by rw [show zv1 = (1 : Int32) from by rw [hzv1]; exact if_pos (own_law _ ⟨(c_i2c _).2.1, (c_i2c _).2.2⟩)]; rfl, N_19, trivial⟩
  · refine own_go (B := T_17.setTop (mkF m 106 #[.val (.int p0), .val (.int p1), .val (.ref b_1), .val (.int ((p0 &&& (65535 : Int32)).toUInt32.toUInt16.toUInt32.toInt32))] [])) (fun t k => ?_) ?_
    · show Steps p.tables e below (T_17.setTop (mkF m 103 #[.val (.int p0), .val (.int p1), .val (.ref b_1), .val (.int ((p0 &&& (65535 : Int32)).toUInt32.toUInt16.toUInt32.toInt32))] [(.int (p1 &&& (1 : Int32)))])) _
      refine XS.ifNo X_17.here hx rfl (hb hby at_103) rfl ((if0 _ _).trans (feq hc103).1) ?_
      exact k
    refine own_go (B := T_17.setTop (mkF m 113 #[.val (.int p0), .val (.int p1), .val (.ref b_1), .val (.int ((p0 &&& (65535 : Int32)).toUInt32.toUInt16.toUInt32.toInt32))] [(.int (((p1.toUInt32 >>> ((1 : Int32) &&& 31).toUInt32).toInt32) - (((p1.toUInt32 >>> ((1 : Int32) &&& 31).toUInt32).toInt32) / (16 : Int32)) * (16 : Int32))), (.ref b_1)])) (fun t k => ?_) ?_
    · show Steps p.tables e below (T_17.setTop (mkF m 106 #[.val (.int p0), .val (.int p1), .val (.ref b_1), .val (.int ((p0 &&& (65535 : Int32)).toUInt32.toUInt16.toUInt32.toInt32))] [])) _
      refine XS.aloadN X_17.here hx rfl (hb hby at_106) rfl rfl ?_
      show Steps p.tables e below (T_17.setTop (mkF m 107 #[.val (.int p0), .val (.int p1), .val (.ref b_1), .val (.int ((p0 &&& (65535 : Int32)).toUInt32.toUInt16.toUInt32.toInt32))] [(.ref b_1)])) _
      refine XS.iloadN X_17.here hx rfl (hb hby at_107) rfl ?_
      show Steps p.tables e below (T_17.setTop (mkF m 108 #[.val (.int p0), .val (.int p1), .val (.ref b_1), .val (.int ((p0 &&& (65535 : Int32)).toUInt32.toUInt16.toUInt32.toInt32))] [(.int p1), (.ref b_1)])) _
      refine XS.iconst X_17.here hx rfl (hb hby at_108) ?_
      show Steps p.tables e below (T_17.setTop (mkF m 109 #[.val (.int p0), .val (.int p1), .val (.ref b_1), .val (.int ((p0 &&& (65535 : Int32)).toUInt32.toUInt16.toUInt32.toInt32))] [(.int (1 : Int32)), (.int p1), (.ref b_1)])) _
      refine XS.iushr X_17.here hx rfl (hb hby at_109) rfl ?_
      show Steps p.tables e below (T_17.setTop (mkF m 110 #[.val (.int p0), .val (.int p1), .val (.ref b_1), .val (.int ((p0 &&& (65535 : Int32)).toUInt32.toUInt16.toUInt32.toInt32))] [(.int ((p1.toUInt32 >>> ((1 : Int32) &&& 31).toUInt32).toInt32)), (.ref b_1)])) _
      refine XS.bipush X_17.here hx rfl (hb hby at_110) ?_
      show Steps p.tables e below (T_17.setTop (mkF m 112 #[.val (.int p0), .val (.int p1), .val (.ref b_1), .val (.int ((p0 &&& (65535 : Int32)).toUInt32.toUInt16.toUInt32.toInt32))] [(.int (16 : Int32)), (.int ((p1.toUInt32 >>> ((1 : Int32) &&& 31).toUInt32).toInt32)), (.ref b_1)])) _
      refine XS.irem X_17.here hx rfl (hb hby at_112) rfl (by decide) ?_
      exact k
    obtain ⟨cl_20, Ar_20, q_20, S_20, M_20, H_20, G_20⟩ := id V_17
    have hin_20 : ¬ ((((p1.toUInt32 >>> ((1 : Int32) &&& 31).toUInt32).toInt32) - (((p1.toUInt32 >>> ((1 : Int32) &&& 31).toUInt32).toInt32) / (16 : Int32)) * (16 : Int32)) < 0 ∨ cl_20.slots.size ≤ ((((p1.toUInt32 >>> ((1 : Int32) &&& 31).toUInt32).toInt32) - (((p1.toUInt32 >>> ((1 : Int32) &&& 31).toUInt32).toInt32) / (16 : Int32)) * (16 : Int32))).toNatClampNeg) := inb_of S_20 (own_idx p1)
    have hat_20 : cl_20.slots[((((p1.toUInt32 >>> ((1 : Int32) &&& 31).toUInt32).toInt32) - (((p1.toUInt32 >>> ((1 : Int32) &&& 31).toUInt32).toInt32) / (16 : Int32)) * (16 : Int32))).toNatClampNeg]? = some (.int (own_sp.getD ((((p1.toUInt32 >>> ((1 : Int32) &&& 31).toUInt32).toInt32) - (((p1.toUInt32 >>> ((1 : Int32) &&& 31).toUInt32).toInt32) / (16 : Int32)) * (16 : Int32))).toNatClampNeg 0)) := H_20.at hin_20 (own_map own_sp _)
    refine own_go (B := T_17.setTop (mkF m 114 #[.val (.int p0), .val (.int p1), .val (.ref b_1), .val (.int ((p0 &&& (65535 : Int32)).toUInt32.toUInt16.toUInt32.toInt32))] [(.int (own_sp.getD ((((p1.toUInt32 >>> ((1 : Int32) &&& 31).toUInt32).toInt32) - (((p1.toUInt32 >>> ((1 : Int32) &&& 31).toUInt32).toInt32) / (16 : Int32)) * (16 : Int32))).toNatClampNeg 0))])) (fun t k => X_17.caload hx (j := (((p1.toUInt32 >>> ((1 : Int32) &&& 31).toUInt32).toInt32) - (((p1.toUInt32 >>> ((1 : Int32) &&& 31).toUInt32).toInt32) / (16 : Int32)) * (16 : Int32))) (v := (.int (own_sp.getD ((((p1.toUInt32 >>> ((1 : Int32) &&& 31).toUInt32).toInt32) - (((p1.toUInt32 >>> ((1 : Int32) &&& 31).toUInt32).toInt32) / (16 : Int32)) * (16 : Int32))).toNatClampNeg 0))) (by rw [(e_17 : _ = _)]; exact Ar_20.1) (State.isArrayOf_alike hZ.alike Ar_20.2.1) Ar_20.2.2 hin_20 hat_20 (g := (mkF m 113 #[.val (.int p0), .val (.int p1), .val (.ref b_1), .val (.int ((p0 &&& (65535 : Int32)).toUInt32.toUInt16.toUInt32.toInt32))] [(.int (((p1.toUInt32 >>> ((1 : Int32) &&& 31).toUInt32).toInt32) - (((p1.toUInt32 >>> ((1 : Int32) &&& 31).toUInt32).toInt32) / (16 : Int32)) * (16 : Int32))), (.ref b_1)])) rfl rfl (hb hby at_113) t k) ?_
    refine own_go (B := T_17.setTop (mkF m 116 #[.val (.int p0), .val (.int p1), .val (.ref b_1), .val (.int (own_sp.getD ((((p1.toUInt32 >>> ((1 : Int32) &&& 31).toUInt32).toInt32) - (((p1.toUInt32 >>> ((1 : Int32) &&& 31).toUInt32).toInt32) / (16 : Int32)) * (16 : Int32))).toNatClampNeg 0))] [(.int (own_sp.getD ((((p1.toUInt32 >>> ((1 : Int32) &&& 31).toUInt32).toInt32) - (((p1.toUInt32 >>> ((1 : Int32) &&& 31).toUInt32).toInt32) / (16 : Int32)) * (16 : Int32))).toNatClampNeg 0))])) (fun t k => ?_) ?_
    · show Steps p.tables e below (T_17.setTop (mkF m 114 #[.val (.int p0), .val (.int p1), .val (.ref b_1), .val (.int ((p0 &&& (65535 : Int32)).toUInt32.toUInt16.toUInt32.toInt32))] [(.int (own_sp.getD ((((p1.toUInt32 >>> ((1 : Int32) &&& 31).toUInt32).toInt32) - (((p1.toUInt32 >>> ((1 : Int32) &&& 31).toUInt32).toInt32) / (16 : Int32)) * (16 : Int32))).toNatClampNeg 0))])) _
      refine XS.istoreN X_17.here hx rfl (hb hby at_114) rfl (l' := #[.val (.int p0), .val (.int p1), .val (.ref b_1), .val (.int (own_sp.getD ((((p1.toUInt32 >>> ((1 : Int32) &&& 31).toUInt32).toInt32) - (((p1.toUInt32 >>> ((1 : Int32) &&& 31).toUInt32).toInt32) / (16 : Int32)) * (16 : Int32))).toNatClampNeg 0))]) rfl ?_
      show Steps p.tables e below (T_17.setTop (mkF m 115 #[.val (.int p0), .val (.int p1), .val (.ref b_1), .val (.int (own_sp.getD ((((p1.toUInt32 >>> ((1 : Int32) &&& 31).toUInt32).toInt32) - (((p1.toUInt32 >>> ((1 : Int32) &&& 31).toUInt32).toInt32) / (16 : Int32)) * (16 : Int32))).toNatClampNeg 0))] [])) _
      refine XS.iloadN X_17.here hx rfl (hb hby at_115) rfl ?_
      exact k
    obtain ⟨_, _, ⟨T_21, L_21, k_21, n_21⟩, -, Xb_21, Sb_21, -, ⟨Lc_21, hQ_21, l_21, y_21, z_21, CH_21⟩, st_21⟩ := callSS (show Stand p l e room_1 (s.setVm s.vm) m #[(.int p0), (.int p1)] below meth c T_17 _ _ _ from X_17) hx (y := (⟨"com/example/cutoff/cutoff/store/Iri", "canHold", "(C)Z"⟩ : MethodName)) hown (mvT hZ (hw _ (List.mem_of_getElem? (i := 2) rfl))) (mvT hZ (hw _ (List.mem_of_getElem? (i := 3) rfl))) (mvT hZ (hw _ (List.mem_of_getElem? (i := 4) rfl))) (mvT hZ (hw _ (List.mem_of_getElem? (i := 5) rfl))) (by decide) (backOfSH (s := s) (vm0 := s.vm) (W := 0) (rm1 l Z av0 hw [] (own_sp.getD ((((p1.toUInt32 >>> ((1 : Int32) &&& 31).toUInt32).toInt32) - (((p1.toUInt32 >>> ((1 : Int32) &&& 31).toUInt32).toInt32) / (16 : Int32)) * (16 : Int32))).toNatClampNeg 0) w h_17 n0 Z0__17 c50 hw0 hEL) hZ (hw _ (List.mem_of_getElem? (i := 5) rfl)) (hw _ (List.mem_of_getElem? (i := 4) rfl)) (by decide) (by decide) hEL c51) (g := (mkF m 116 #[.val (.int p0), .val (.int p1), .val (.ref b_1), .val (.int (own_sp.getD ((((p1.toUInt32 >>> ((1 : Int32) &&& 31).toUInt32).toInt32) - (((p1.toUInt32 >>> ((1 : Int32) &&& 31).toUInt32).toInt32) / (16 : Int32)) * (16 : Int32))).toNatClampNeg 0))] [(.int (own_sp.getD ((((p1.toUInt32 >>> ((1 : Int32) &&& 31).toUInt32).toInt32) - (((p1.toUInt32 >>> ((1 : Int32) &&& 31).toUInt32).toInt32) / (16 : Int32)) * (16 : Int32))).toNatClampNeg 0))])) rfl (by rw [hml]; rfl) (argsL := [(.int (own_sp.getD ((((p1.toUInt32 >>> ((1 : Int32) &&& 31).toUInt32).toInt32) - (((p1.toUInt32 >>> ((1 : Int32) &&& 31).toUInt32).toInt32) / (16 : Int32)) * (16 : Int32))).toNatClampNeg 0))]) (rest := []) (lenOf pd_7 rfl) rfl (by show 2 * 0 + _ ≤ _; exact Nat.le_of_eq rfl) (hb hby at_116) (fun _ _ => ⟨rfl, e_17, (by decide : 1 + 2 ≤ _), (by decide : 16 + 40 ≤ _)⟩)
    dsimp only [Pt.U, Pt.locs, Pt.cells, Pt.slots] at Xb_21 Sb_21 l_21 y_21 z_21 st_21 hQ_21 CH_21
    subst l_21 y_21 z_21
    obtain ⟨rfl, N_21q, K_21⟩ := hQ_21
    have N_21 := Fr.app N_17 N_21q
    obtain ⟨X_21, Si_21, hZ_21, hown_21⟩ := rebS (s := s) (vm0 := s.vm) ((State.WarmedH.refl s).since 0) (Nat.zero_le 0) Xb_21 Sb_21 (Nat.zero_le _) hZ hown
    have c55 : Keep h0 T_21.heap [] := c49.trans K_21 all0
    have c56 := own_stak c50 K_21
    have c57 := V_17.keep K_21 nin0
    have Z0__21 : n0 ≤ T_21.heap.size := Nat.le_trans Z0__17 K_21.1
    refine own_go (B := T_21.setTop (mkF m 119 #[.val (.int p0), .val (.int p1), .val (.ref b_1), .val (.int (own_sp.getD ((((p1.toUInt32 >>> ((1 : Int32) &&& 31).toUInt32).toInt32) - (((p1.toUInt32 >>> ((1 : Int32) &&& 31).toUInt32).toInt32) / (16 : Int32)) * (16 : Int32))).toNatClampNeg 0))] [(.int (own_can (own_sp.getD ((((p1.toUInt32 >>> ((1 : Int32) &&& 31).toUInt32).toInt32) - (((p1.toUInt32 >>> ((1 : Int32) &&& 31).toUInt32).toInt32) / (16 : Int32)) * (16 : Int32))).toNatClampNeg 0)))])) (fun t k => st_21.trans k) ?_
    refine own_go (B := T_21.setTop (mkF m 120 #[.val (.int p0), .val (.int p1), .val (.ref b_1), .val (.int (own_sp.getD ((((p1.toUInt32 >>> ((1 : Int32) &&& 31).toUInt32).toInt32) - (((p1.toUInt32 >>> ((1 : Int32) &&& 31).toUInt32).toInt32) / (16 : Int32)) * (16 : Int32))).toNatClampNeg 0))] [(.int (own_sp.getD ((((p1.toUInt32 >>> ((1 : Int32) &&& 31).toUInt32).toInt32) - (((p1.toUInt32 >>> ((1 : Int32) &&& 31).toUInt32).toInt32) / (16 : Int32)) * (16 : Int32))).toNatClampNeg 0)), (.int (own_can (own_sp.getD ((((p1.toUInt32 >>> ((1 : Int32) &&& 31).toUInt32).toInt32) - (((p1.toUInt32 >>> ((1 : Int32) &&& 31).toUInt32).toInt32) / (16 : Int32)) * (16 : Int32))).toNatClampNeg 0)))])) (fun t k => ?_) ?_
    · show Steps p.tables e below (T_21.setTop (mkF m 119 #[.val (.int p0), .val (.int p1), .val (.ref b_1), .val (.int (own_sp.getD ((((p1.toUInt32 >>> ((1 : Int32) &&& 31).toUInt32).toInt32) - (((p1.toUInt32 >>> ((1 : Int32) &&& 31).toUInt32).toInt32) / (16 : Int32)) * (16 : Int32))).toNatClampNeg 0))] [(.int (own_can (own_sp.getD ((((p1.toUInt32 >>> ((1 : Int32) &&& 31).toUInt32).toInt32) - (((p1.toUInt32 >>> ((1 : Int32) &&& 31).toUInt32).toInt32) / (16 : Int32)) * (16 : Int32))).toNatClampNeg 0)))])) _
      refine XS.iloadN X_21.here hx rfl (hb hby at_119) rfl ?_
      exact k
    obtain ⟨_, _, ⟨T_22, L_22, k_22, n_22⟩, -, X_22, ⟨Lc_22, hQ_22, l_22, y_22, z_22⟩, st_22⟩ := Jvm.LawKit.callS X_21 hx (y := (⟨"com/example/cutoff/cutoff/store/IriCanHoldPinLaw", "expected", "(C)Z"⟩ : MethodName)) hown_21 (mvT hZ_21 (hw _ (List.mem_of_getElem? (i := 59) rfl))) (mvT hZ_21 (hw _ (List.mem_of_getElem? (i := 60) rfl))) (mvT hZ_21 (hw _ (List.mem_of_getElem? (i := 61) rfl))) (mvT hZ_21 (hw _ (List.mem_of_getElem? (i := 62) rfl))) (by decide) (backOf (W := 1) (rm12 l Z av0 hw [] (own_sp.getD ((((p1.toUInt32 >>> ((1 : Int32) &&& 31).toUInt32).toInt32) - (((p1.toUInt32 >>> ((1 : Int32) &&& 31).toUInt32).toInt32) / (16 : Int32)) * (16 : Int32))).toNatClampNeg 0)  T_21.heap n0 Z0__21 ) hZ_21 (hw _ (List.mem_of_getElem? (i := 62) rfl)) (hw _ (List.mem_of_getElem? (i := 61) rfl)) (by decide) (by decide)) (g := (mkF m 120 #[.val (.int p0), .val (.int p1), .val (.ref b_1), .val (.int (own_sp.getD ((((p1.toUInt32 >>> ((1 : Int32) &&& 31).toUInt32).toInt32) - (((p1.toUInt32 >>> ((1 : Int32) &&& 31).toUInt32).toInt32) / (16 : Int32)) * (16 : Int32))).toNatClampNeg 0))] [(.int (own_sp.getD ((((p1.toUInt32 >>> ((1 : Int32) &&& 31).toUInt32).toInt32) - (((p1.toUInt32 >>> ((1 : Int32) &&& 31).toUInt32).toInt32) / (16 : Int32)) * (16 : Int32))).toNatClampNeg 0)), (.int (own_can (own_sp.getD ((((p1.toUInt32 >>> ((1 : Int32) &&& 31).toUInt32).toInt32) - (((p1.toUInt32 >>> ((1 : Int32) &&& 31).toUInt32).toInt32) / (16 : Int32)) * (16 : Int32))).toNatClampNeg 0)))])) rfl (by rw [hml]; rfl) (argsL := [(.int (own_sp.getD ((((p1.toUInt32 >>> ((1 : Int32) &&& 31).toUInt32).toInt32) - (((p1.toUInt32 >>> ((1 : Int32) &&& 31).toUInt32).toInt32) / (16 : Int32)) * (16 : Int32))).toNatClampNeg 0))]) (rest := [(.int (own_can (own_sp.getD ((((p1.toUInt32 >>> ((1 : Int32) &&& 31).toUInt32).toInt32) - (((p1.toUInt32 >>> ((1 : Int32) &&& 31).toUInt32).toInt32) / (16 : Int32)) * (16 : Int32))).toNatClampNeg 0)))]) (lenOf pd_7 rfl) rfl (by show 2 * 0 + _ ≤ _; exact Nat.le_of_eq rfl) (hb hby at_120) (fun _ _ => ⟨rfl, rfl, (by decide : 3 + 0 ≤ _), (by decide : 56 + 0 ≤ _)⟩)
    dsimp only [Pt.U, Pt.locs, Pt.cells, Pt.slots] at X_22 l_22 y_22 z_22 st_22 hQ_22
    subst l_22 y_22 z_22
    obtain ⟨rfl, N_22q, e_22⟩ := hQ_22
    have N_22 := Fr.app N_21 N_22q
    refine own_go (B := T_22.setTop (mkF m 123 #[.val (.int p0), .val (.int p1), .val (.ref b_1), .val (.int (own_sp.getD ((((p1.toUInt32 >>> ((1 : Int32) &&& 31).toUInt32).toInt32) - (((p1.toUInt32 >>> ((1 : Int32) &&& 31).toUInt32).toInt32) / (16 : Int32)) * (16 : Int32))).toNatClampNeg 0))] [(.int (own_expd (own_sp.getD ((((p1.toUInt32 >>> ((1 : Int32) &&& 31).toUInt32).toInt32) - (((p1.toUInt32 >>> ((1 : Int32) &&& 31).toUInt32).toInt32) / (16 : Int32)) * (16 : Int32))).toNatClampNeg 0))), (.int (own_can (own_sp.getD ((((p1.toUInt32 >>> ((1 : Int32) &&& 31).toUInt32).toInt32) - (((p1.toUInt32 >>> ((1 : Int32) &&& 31).toUInt32).toInt32) / (16 : Int32)) * (16 : Int32))).toNatClampNeg 0)))])) (fun t k => st_22 t k) ?_
    obtain ⟨zv2, hzv2⟩ : ∃ zq : Int32, zq = (if (own_can (own_sp.getD ((((p1.toUInt32 >>> ((1 : Int32) &&& 31).toUInt32).toInt32) - (((p1.toUInt32 >>> ((1 : Int32) &&& 31).toUInt32).toInt32) / (16 : Int32)) * (16 : Int32))).toNatClampNeg 0)) = (own_expd (own_sp.getD ((((p1.toUInt32 >>> ((1 : Int32) &&& 31).toUInt32).toInt32) - (((p1.toUInt32 >>> ((1 : Int32) &&& 31).toUInt32).toInt32) / (16 : Int32)) * (16 : Int32))).toNatClampNeg 0)) then (1 : Int32) else (0 : Int32)) := ⟨_, rfl⟩
    refine own_go (B := T_22.setTop (mkF m 131 #[.val (.int p0), .val (.int p1), .val (.ref b_1), .val (.int (own_sp.getD ((((p1.toUInt32 >>> ((1 : Int32) &&& 31).toUInt32).toInt32) - (((p1.toUInt32 >>> ((1 : Int32) &&& 31).toUInt32).toInt32) / (16 : Int32)) * (16 : Int32))).toNatClampNeg 0))] [(.int zv2)])) (fun t k => ?_) ?_
    · show Steps p.tables e below (T_22.setTop (mkF m 123 #[.val (.int p0), .val (.int p1), .val (.ref b_1), .val (.int (own_sp.getD ((((p1.toUInt32 >>> ((1 : Int32) &&& 31).toUInt32).toInt32) - (((p1.toUInt32 >>> ((1 : Int32) &&& 31).toUInt32).toInt32) / (16 : Int32)) * (16 : Int32))).toNatClampNeg 0))] [(.int (own_expd (own_sp.getD ((((p1.toUInt32 >>> ((1 : Int32) &&& 31).toUInt32).toInt32) - (((p1.toUInt32 >>> ((1 : Int32) &&& 31).toUInt32).toInt32) / (16 : Int32)) * (16 : Int32))).toNatClampNeg 0))), (.int (own_can (own_sp.getD ((((p1.toUInt32 >>> ((1 : Int32) &&& 31).toUInt32).toInt32) - (((p1.toUInt32 >>> ((1 : Int32) &&& 31).toUInt32).toInt32) / (16 : Int32)) * (16 : Int32))).toNatClampNeg 0)))])) _
      by_cases hc123 : (own_can (own_sp.getD ((((p1.toUInt32 >>> ((1 : Int32) &&& 31).toUInt32).toInt32) - (((p1.toUInt32 >>> ((1 : Int32) &&& 31).toUInt32).toInt32) / (16 : Int32)) * (16 : Int32))).toNatClampNeg 0)) = (own_expd (own_sp.getD ((((p1.toUInt32 >>> ((1 : Int32) &&& 31).toUInt32).toInt32) - (((p1.toUInt32 >>> ((1 : Int32) &&& 31).toUInt32).toInt32) / (16 : Int32)) * (16 : Int32))).toNatClampNeg 0))
      · refine XS.icmpNo X_22.here hx rfl (hb hby at_123) rfl (teq hc123).2 ?_
        show Steps p.tables e below (T_22.setTop (mkF m 126 #[.val (.int p0), .val (.int p1), .val (.ref b_1), .val (.int (own_sp.getD ((((p1.toUInt32 >>> ((1 : Int32) &&& 31).toUInt32).toInt32) - (((p1.toUInt32 >>> ((1 : Int32) &&& 31).toUInt32).toInt32) / (16 : Int32)) * (16 : Int32))).toNatClampNeg 0))] [])) _
        refine XS.iconst X_22.here hx rfl (hb hby at_126) ?_
        show Steps p.tables e below (T_22.setTop (mkF m 127 #[.val (.int p0), .val (.int p1), .val (.ref b_1), .val (.int (own_sp.getD ((((p1.toUInt32 >>> ((1 : Int32) &&& 31).toUInt32).toInt32) - (((p1.toUInt32 >>> ((1 : Int32) &&& 31).toUInt32).toInt32) / (16 : Int32)) * (16 : Int32))).toNatClampNeg 0))] [(.int (1 : Int32))])) _
        refine XS.goto X_22.here hx rfl (pc0 := 127) (pc' := 131) rfl (hb hby at_127) (by decide) (by decide) ?_
        show Steps p.tables e below (T_22.setTop (mkF m 131 #[.val (.int p0), .val (.int p1), .val (.ref b_1), .val (.int (own_sp.getD ((((p1.toUInt32 >>> ((1 : Int32) &&& 31).toUInt32).toInt32) - (((p1.toUInt32 >>> ((1 : Int32) &&& 31).toUInt32).toInt32) / (16 : Int32)) * (16 : Int32))).toNatClampNeg 0))] [(.int (1 : Int32))])) _
        rw [show zv2 = (1 : Int32) from by simp only [hzv2, if_pos hc123]] at k
        exact k
      · refine XS.icmpYes X_22.here hx rfl (pc0 := 123) (pc' := 130) rfl (hb hby at_123) rfl (feq hc123).2 (by decide) (by decide) ?_
        show Steps p.tables e below (T_22.setTop (mkF m 130 #[.val (.int p0), .val (.int p1), .val (.ref b_1), .val (.int (own_sp.getD ((((p1.toUInt32 >>> ((1 : Int32) &&& 31).toUInt32).toInt32) - (((p1.toUInt32 >>> ((1 : Int32) &&& 31).toUInt32).toInt32) / (16 : Int32)) * (16 : Int32))).toNatClampNeg 0))] [])) _
        refine XS.iconst X_22.here hx rfl (hb hby at_130) ?_
        show Steps p.tables e below (T_22.setTop (mkF m 131 #[.val (.int p0), .val (.int p1), .val (.ref b_1), .val (.int (own_sp.getD ((((p1.toUInt32 >>> ((1 : Int32) &&& 31).toUInt32).toInt32) - (((p1.toUInt32 >>> ((1 : Int32) &&& 31).toUInt32).toInt32) / (16 : Int32)) * (16 : Int32))).toNatClampNeg 0))] [(.int (0 : Int32))])) _
        rw [show zv2 = (0 : Int32) from by simp only [hzv2, if_neg hc123]] at k
        exact k
    obtain ⟨fs, hr, hrun, hended, hRW⟩ := X_22.leaveW Si_21 (by rw [e_22]; exact (Nat.le_refl _)) (v := some (.int (nar .boolean zv2))) (fun h => by rw [Bd.returns] at h; cases h)
    refine ⟨_, _, ?_, hrun, hended, _, _, rfl, ?_, hRW.1, hRW.2.1, hRW.2.2.1, hRW.2.2.2.mono (by decide) (by decide)⟩
    · show Steps p.tables e below (T_22.setTop (mkF m 131 #[.val (.int p0), .val (.int p1), .val (.ref b_1), .val (.int (own_sp.getD ((((p1.toUInt32 >>> ((1 : Int32) &&& 31).toUInt32).toInt32) - (((p1.toUInt32 >>> ((1 : Int32) &&& 31).toUInt32).toInt32) / (16 : Int32)) * (16 : Int32))).toNatClampNeg 0))] [(.int zv2)])) _
      exact retN X_22 hx (t := .boolean) Bd.returns (by simp) (hb hby at_131) hr
    · show Q0 Z p0 p1 w h0 n0 _ T_22.heap _
      rw [e_22]
      exact ⟨by rw [show zv2 = (1 : Int32) from by rw [hzv2]; exact if_pos (own_law _ (own_spR _))]; rfl, N_22, trivial⟩
set_option maxRecDepth 65536 in
set_option maxHeartbeats 40000000 in
theorem comes_1 {Post : Tables → Env → Array Value → State → Outcome → State → Prop} (hpost : ∀ tb e args s v u, (limb_1_1.after args s (.returned v) u = true ∧ limb_1_2.after args s (.returned v) u = true ∧ True) → ReturnedEndW s (.returned v) u (Jvm.fieldLocs frame_1_writes args s ++ Jvm.arrayLocs frame_1_arrays args s ++ Jvm.staticLocs frame_1_statics s) 16 1152 → Post tb e args s (.returned v) u) :
    ArmFor flags0 classFile x code maxLocals ret World_1 tables_1 room_1 Calls_1 rest_1 Pre_1 Post := by
  intro l hfl _ _ p e ha hc hk s m args below hf hA hF happ hP
  obtain ⟨hcalls, hrest, hpre⟩ := hP
  obtain ⟨-, -, -, hnamed, -, -, -, hat⟩ := (Spec.applies_iff hf).mp happ
  obtain ⟨hg, hn⟩ := and_e (Cond.before_iff.mp (show (Jvm.Cond.and given_1 narrow_1).before args s = true from hpre))
  obtain ⟨g1, g2⟩ := and_e hg
  obtain ⟨g3, g4⟩ := and_e g2
  obtain ⟨w0, w1, rfl⟩ : ∃ w0 w1 : Value, args = #[w0, w1] := by
    have hs : args.size = 2 := by simpa [Cond.value, given_1] using g1
    obtain ⟨L⟩ := args
    match L, hs with
    | [w0, w1], _ => exact ⟨w0, w1, rfl⟩
  have hw := fun d (hd : d ∈ tables_1) => atoms_spec (ws := Jvm.Cond.code x code maxLocals ret :: tables_1) hat d (List.mem_cons_of_mem _ hd)
  have hfit : Fit s := fun {y c} hc i hi => by
    obtain ⟨ha, rfl⟩ := Array.getElem?_eq_some_iff.mp hc
    have q := List.all_eq_true.mp ((Array.all_eq_true_iff_forall_mem.mp hF) _ (Array.getElem_mem ha)) i (List.mem_range.mpr hi)
    simpa [Array.getElem?_eq_getElem hi] using q
  obtain ⟨hsets, hown0⟩ := atoms_of _ (rest_1_c_eq ▸ (show rest_1_c.before _ s = true from hrest))
  have hr0 := Cond.before_iff.mp hown0
  obtain ⟨i0, ei0⟩ := is_v g3
  obtain rfl : w0 = (.int i0) := Option.some.inj ei0
  obtain ⟨i1, ei1⟩ := is_v g4
  obtain rfl : w1 = (.int i1) := Option.some.inj ei1
  obtain ⟨w, ew⟩ := is_v (Cond.before_iff.mp (hsets _ (List.mem_of_getElem? (i := 1) rfl)))
  have SC := Sta.start ew (Or.inl (hsets _ (List.mem_of_getElem? (i := 0) rfl)))
  have hcw := hsets _ (List.mem_of_getElem? (i := 2) rfl)
  have hw0 : ¬ (w = (0 : Int32)) := fun q => by
    have q1 := not_v (Cond.before_iff.mp hcw)
    rw [eq_i ew (Term.int_eval (0)) (by rw [q])] at q1
    cases q1
  have hEL : EW s #[.int i0, .int i1] own_EL := EW.cons (hw _ (List.mem_of_getElem? (i := 6) rfl)) (by decide) EW.nil
  have hheld : ∀ q ∈ own_EL, Jvm.Lit.constHeld s q.1 q.2 := by
    intro q hq
    obtain rfl : q = ("com/example/cutoff/cutoff/store/Iri", 74) := List.mem_singleton.mp hq
    exact hcalls.1 ("com/example/cutoff/cutoff/store/Iri", 74) (by simp [consts_1])
  have HH : CHv s own_EL s.vm s.heap := CHv.start hEL hheld hcw (hw _ (List.mem_of_getElem? (i := 9) rfl)) (hw _ (List.mem_of_getElem? (i := 8) rfl))
  obtain ⟨n, o, h1, h2, h3, _, L, rfl, ⟨rfl, N, -⟩, hq⟩ := rm0 l s _ hw tables_1 i0 i1 w s.heap s.heap.size (Nat.le_refl _) SC hw0 hEL HH rfl rfl p e ha hc hk s m _ below hf ((Spec.applies_iff_loose hf).mp happ).1 ⟨rfl, rfl⟩ trivial
  refine ⟨n, _, h1, h2, h3, hpost _ _ _ _ _ _ ⟨Cond.after_iff.mpr rfl, Cond.after_iff.mpr (eq_i res_at (Term.int_eval (1)) rfl), trivial⟩ ⟨hq.1, hq.2.1, hq.2.2.1, (hq.2.2.2.sift fun y hy => Or.inr (N y hy)).mono (by decide) (by decide)⟩⟩
theorem main_1_1 : Claimed_1_1 := comes_1 fun _ _ _ _ _ _ h hF => ⟨h.1, hF⟩
theorem main_1_2 : Claimed_1_2 := comes_1 fun _ _ _ _ _ _ h hF => ⟨h.2.1, hF⟩
end Jvm.Pilot.@@N@@
namespace Jvm.Pilot.@@N@@
open Jvm Jvm.ClassFile Sem Op Lib Jvm.Free Jvm.Stand Jvm.Pilot.@@N@@.Jvm.D
/-! MADE BY PROGRAM (witnessworld.py) out of the Statement's table words and the real class files: 22 classes; the members and pool entries that the words name. The judged class is class 1, her method 2. -/
namespace start1
open Jvm.ClassFile
def u (s : String) : CpInfo := .utf8 (stringToUtf16 s)
/-- a pool by its gaps: so many unusable entries, then the entry; so many at the end -/
def gap : Nat → List CpInfo → List CpInfo
  | 0, r => r
  | n + 1, r => .unusable :: gap n r
def poolList (es : List (Nat × CpInfo)) (last : Nat) : List CpInfo := es.foldr (fun e r => gap e.1 (e.2 :: r)) (gap last [])
def pool (es : List (Nat × CpInfo)) (last : Nat) : Array CpInfo := ⟨poolList es last⟩
def fileOf (pool : Array CpInfo) (this : Nat) (attrs : Array Attribute := #[]) (ms : Array MethodInfo := #[]) (fl : Nat := 33) (sup : Nat := 0) (ifs : Array Nat := #[]) (fds : Array FieldInfo := #[]) : ClassFile where
  minorVersion := 0
  majorVersion := 65
  constantPool := pool
  accessFlags := fl
  thisClass := this
  superClass := sup
  interfaces := ifs
  fields := fds
  methods := ms
  attributes := attrs
def plain (name : String) (sup : Option ClassId) : Class where
  name := name
  kind := .ordinary
  loader := none
  accessFlags := 33
  super := sup
  interfaces := #[]
  cf := none
  fields := #[]
  methods := #[]
  instanceTypes := #[]
  staticTypes := #[]
  resolved := #[]
  callSites := []
  init := .initialized
  statics := none
  mirror := none

def pool0 : Array CpInfo := pool [(5, u "<init>"), (0, u "()V"), (1, .class_ 10), (1, u "java/lang/Object")] 113

def k0m0 : Method := { name := "<init>", desc := "()V", sig := { parameters := [], returnType := none }, accessFlags := 1, code := none }
/-- java/lang/Object -/
def k0 : Class := { plain "java/lang/Object" none with
  accessFlags := 33
  interfaces := #[]
  cf := some (fileOf pool0 8 #[] #[{ accessFlags := 1, nameIndex := 5, descriptorIndex := 6, attributes := #[] }] 33 0 #[] #[])
  fields := #[]
  methods := #[k0m0]
  instanceTypes := #[]
  staticTypes := #[]
  resolved := Array.replicate 124 none
  statics := none }

def pool1 : Array CpInfo := pool [(2, .class_ 4), (1, u "java/lang/Object"), (0, u "<init>"), (0, u "()V"), (0, .integer 65535), (0, .methodref 9 10), (0, .class_ 11), (0, .nameAndType 12 13), (0, u "com/example/cutoff/cutoff/store/Iri"), (0, u "canHold"), (0, u "(C)Z"), (0, .methodref 15 16), (0, .class_ 17), (0, .nameAndType 18 13), (0, u "com/example/cutoff/cutoff/store/IriCanHoldPinLaw"), (0, u "expected"), (3, u "law"), (0, u "(II)Z")] 4

def k1m0 : Method := { name := "<init>", desc := "()V", sig := { parameters := [], returnType := none }, accessFlags := 2, code := none }
def k1c1 : Code := { maxStack := 2, maxLocals := 1, code := method_2_code, exceptionTable := #[], attributes := #[] }
def k1m1 : Method := { name := "expected", desc := "(C)Z", sig := { parameters := [.char], returnType := some .boolean }, accessFlags := 10, code := some k1c1 }
def k1c2 : Code := { maxStack := 4, maxLocals := 4, code := code, exceptionTable := #[], attributes := #[] }
def k1m2 : Method := { name := "law", desc := "(II)Z", sig := { parameters := [.int, .int], returnType := some .boolean }, accessFlags := 9, code := some k1c2 }
/-- com/example/cutoff/cutoff/store/IriCanHoldPinLaw -/
def k1 : Class := { plain "com/example/cutoff/cutoff/store/IriCanHoldPinLaw" (some 0) with
  accessFlags := 49
  interfaces := #[]
  cf := some (fileOf pool1 15 #[] #[{ accessFlags := 2, nameIndex := 5, descriptorIndex := 6, attributes := #[] }, { accessFlags := 10, nameIndex := 18, descriptorIndex := 13, attributes := #[] }, { accessFlags := 9, nameIndex := 22, descriptorIndex := 23, attributes := #[] }] 49 2 #[] #[])
  fields := #[]
  methods := #[k1m0, k1m1, k1m2]
  instanceTypes := #[]
  staticTypes := #[]
  resolved := Array.replicate 28 none
  statics := none }

def pool2 : Array CpInfo := pool [(2, .class_ 4), (1, u "java/lang/Object"), (0, u "<init>"), (0, u "()V"), (0, .class_ 8), (0, u "java/lang/Record")] 13

def k2m0 : Method := { name := "<init>", desc := "()V", sig := { parameters := [], returnType := none }, accessFlags := 4, code := none }
/-- java/lang/Record -/
def k2 : Class := { plain "java/lang/Record" (some 0) with
  accessFlags := 1057
  interfaces := #[]
  cf := some (fileOf pool2 7 #[] #[{ accessFlags := 4, nameIndex := 5, descriptorIndex := 6, attributes := #[] }] 1057 2 #[] #[])
  fields := #[]
  methods := #[k2m0]
  instanceTypes := #[]
  staticTypes := #[]
  resolved := Array.replicate 22 none
  statics := none }

def pool3 : Array CpInfo := pool [(1, .class_ 2), (0, u "java/lang/Comparable"), (0, .class_ 4), (0, u "java/lang/Object")] 7

/-- java/lang/Comparable -/
def k3 : Class := { plain "java/lang/Comparable" (some 0) with
  accessFlags := 1537
  interfaces := #[]
  cf := some (fileOf pool3 1 #[] #[] 1537 3 #[] #[])
  fields := #[]
  methods := #[]
  instanceTypes := #[]
  staticTypes := #[]
  resolved := Array.replicate 12 none
  statics := none }

def pool4 : Array CpInfo := pool [(2, .class_ 4), (1, u "com/example/cutoff/cutoff/store/Term"), (12, .class_ 18), (0, u "java/lang/Object"), (0, .class_ 20), (0, u "java/lang/Comparable")] 15

/-- com/example/cutoff/cutoff/store/Term -/
def k4 : Class := { plain "com/example/cutoff/cutoff/store/Term" (some 0) with
  accessFlags := 1537
  interfaces := #[3]
  cf := some (fileOf pool4 2 #[] #[] 1537 17 #[19] #[])
  fields := #[]
  methods := #[]
  instanceTypes := #[]
  staticTypes := #[]
  resolved := Array.replicate 36 none
  statics := none }

def pool5 : Array CpInfo := pool [(2, .class_ 4), (1, u "java/lang/Record"), (3, u "value"), (7, .class_ 18), (1, u "com/example/cutoff/cutoff/store/Iri"), (0, u "SCHEME"), (0, u "Ljava/util/regex/Pattern;"), (22, .class_ 45), (1, u "java/lang/String"), (8, u "canHold"), (0, u "(C)Z"), (17, u "Ljava/lang/String;"), (0, .string 75), (0, u "<>\"{}|^`\\"), (0, .methodref 43 77), (0, .nameAndType 78 79), (0, u "indexOf"), (0, u "(I)I"), (18, .class_ 99), (0, u "com/example/cutoff/cutoff/store/Term"), (0, u "EXCLUDED")] 29

def k5c0 : Code := { maxStack := 2, maxLocals := 1, code := prog_66_method_2_code, exceptionTable := #[], attributes := #[] }
def k5m0 : Method := { name := "canHold", desc := "(C)Z", sig := { parameters := [.char], returnType := some .boolean }, accessFlags := 8, code := some k5c0 }
/-- com/example/cutoff/cutoff/store/Iri -/
def k5 : Class := { plain "com/example/cutoff/cutoff/store/Iri" (some 2) with
  accessFlags := 49
  interfaces := #[4]
  cf := some (fileOf pool5 16 #[] #[{ accessFlags := 8, nameIndex := 54, descriptorIndex := 55, attributes := #[] }] 49 2 #[98] #[{ accessFlags := 18, nameIndex := 8, descriptorIndex := 73, attributes := #[] }, { accessFlags := 26, nameIndex := 19, descriptorIndex := 20, attributes := #[] }, { accessFlags := 26, nameIndex := 100, descriptorIndex := 73, attributes := #[] }])
  fields := #[{ name := "value", type := (.object "java/lang/String"), accessFlags := 18, slot := 0, constantValue := 0 }, { name := "SCHEME", type := (.object "java/util/regex/Pattern"), accessFlags := 26, slot := 0, constantValue := 0 }, { name := "EXCLUDED", type := (.object "java/lang/String"), accessFlags := 26, slot := 1, constantValue := 0 }]
  methods := #[k5m0]
  instanceTypes := #[(.object "java/lang/String")]
  staticTypes := #[(.object "java/util/regex/Pattern"), (.object "java/lang/String")]
  resolved := Array.replicate 130 none
  statics := none }

def pool6 : Array CpInfo := pool [(1, .class_ 2), (0, u "java/io/Serializable"), (0, .class_ 4), (0, u "java/lang/Object")] 2

/-- java/io/Serializable -/
def k6 : Class := { plain "java/io/Serializable" (some 0) with
  accessFlags := 1537
  interfaces := #[]
  cf := some (fileOf pool6 1 #[] #[] 1537 3 #[] #[])
  fields := #[]
  methods := #[]
  instanceTypes := #[]
  staticTypes := #[]
  resolved := Array.replicate 7 none
  statics := none }

def pool7 : Array CpInfo := pool [(2, .class_ 4), (1, u "java/lang/CharSequence"), (42, .class_ 48), (0, u "java/lang/CharSequence$1CodePointIterator"), (10, .class_ 60), (0, u "java/lang/CharSequence$1CharIterator"), (5, .class_ 67), (0, u "java/lang/Object")] 63

/-- java/lang/CharSequence -/
def k7 : Class := { plain "java/lang/CharSequence" (some 0) with
  accessFlags := 1537
  interfaces := #[]
  cf := some (fileOf pool7 2 #[.nestMembers #[47, 59]] #[] 1537 66 #[] #[])
  fields := #[]
  methods := #[]
  instanceTypes := #[]
  staticTypes := #[]
  resolved := Array.replicate 131 none
  statics := none }

def pool8 : Array CpInfo := pool [(1, .class_ 2), (0, u "java/lang/constant/Constable"), (0, .class_ 4), (0, u "java/lang/Object")] 6

/-- java/lang/constant/Constable -/
def k8 : Class := { plain "java/lang/constant/Constable" (some 0) with
  accessFlags := 1537
  interfaces := #[]
  cf := some (fileOf pool8 1 #[] #[] 1537 3 #[] #[])
  fields := #[]
  methods := #[]
  instanceTypes := #[]
  staticTypes := #[]
  resolved := Array.replicate 11 none
  statics := none }

def pool9 : Array CpInfo := pool [(1, .class_ 2), (0, u "java/lang/constant/ConstantDesc"), (0, .class_ 4), (0, u "java/lang/Object")] 32

/-- java/lang/constant/ConstantDesc -/
def k9 : Class := { plain "java/lang/constant/ConstantDesc" (some 0) with
  accessFlags := 1537
  interfaces := #[]
  cf := some (fileOf pool9 1 #[] #[] 1537 3 #[] #[])
  fields := #[]
  methods := #[]
  instanceTypes := #[]
  staticTypes := #[]
  resolved := Array.replicate 37 none
  statics := none }

def pool10 : Array CpInfo := pool [(2, .class_ 4), (1, u "java/lang/Object"), (0, u "<init>"), (0, u "()V"), (2, .fieldref 10 11), (0, .class_ 12), (0, .nameAndType 13 14), (0, u "java/lang/String"), (0, u "value"), (0, u "[B"), (0, .fieldref 10 16), (0, .nameAndType 17 18), (0, u "coder"), (0, u "B"), (2, u "hash"), (0, u "I"), (2, u "hashIsZero"), (0, u "Z"), (11, .fieldref 10 39), (0, .nameAndType 40 26), (0, u "COMPACT_STRINGS"), (66, .class_ 109), (1, u "java/lang/StringLatin1"), (32, u "()Z"), (191, u "()I"), (0, .methodref 10 336), (0, .nameAndType 17 337), (0, u "()B"), (154, .methodref 10 493), (0, .nameAndType 494 142), (0, u "isLatin1"), (10, .methodref 10 506), (0, .nameAndType 507 334), (0, u "length"), (67, .class_ 576), (0, u "java/lang/CharSequence"), (22, u "CASE_INSENSITIVE_ORDER"), (0, u "Ljava/util/Comparator;"), (32, .methodref 10 634), (0, .nameAndType 635 636), (0, u "indexOf"), (0, u "(II)I"), (0, .methodref 107 638), (0, .nameAndType 635 639), (0, u "([BIII)I"), (125, u "(I)I"), (335, u "serialPersistentFields"), (0, u "[Ljava/io/ObjectStreamField;"), (0, .class_ 1104), (0, u "java/lang/String$CaseInsensitiveComparator"), (1, .class_ 1107), (0, u "java/io/Serializable"), (0, .class_ 1109), (0, u "java/lang/Comparable"), (0, .class_ 1111), (0, u "java/lang/constant/Constable"), (0, .class_ 1113), (0, u "java/lang/constant/ConstantDesc"), (2, u "serialVersionUID"), (0, u "J"), (3, u "REPL"), (0, u "C"), (2, u "LATIN1"), (1, u "UTF16")] 323

def k10m0 : Method := { name := "<init>", desc := "()V", sig := { parameters := [], returnType := none }, accessFlags := 1, code := none }
def k10c1 : Code := { maxStack := 2, maxLocals := 1, code := jdk_42_method_54_code, exceptionTable := #[], attributes := #[] }
def k10m1 : Method := { name := "length", desc := "()I", sig := { parameters := [], returnType := some .int }, accessFlags := 1, code := some k10c1 }
def k10c2 : Code := { maxStack := 3, maxLocals := 2, code := jdk_42_method_79_code, exceptionTable := #[], attributes := #[] }
def k10m2 : Method := { name := "indexOf", desc := "(I)I", sig := { parameters := [.int], returnType := some .int }, accessFlags := 1, code := some k10c2 }
def k10c3 : Code := { maxStack := 4, maxLocals := 3, code := jdk_42_method_80_code, exceptionTable := #[], attributes := #[] }
def k10m3 : Method := { name := "indexOf", desc := "(II)I", sig := { parameters := [.int, .int], returnType := some .int }, accessFlags := 1, code := some k10c3 }
def k10c4 : Code := { maxStack := 1, maxLocals := 1, code := jdk_42_method_152_code, exceptionTable := #[], attributes := #[] }
def k10m4 : Method := { name := "coder", desc := "()B", sig := { parameters := [], returnType := some .byte }, accessFlags := 0, code := some k10c4 }
def k10c5 : Code := { maxStack := 1, maxLocals := 1, code := jdk_42_method_154_code, exceptionTable := #[], attributes := #[] }
def k10m5 : Method := { name := "isLatin1", desc := "()Z", sig := { parameters := [], returnType := some .boolean }, accessFlags := 0, code := some k10c5 }
/-- java/lang/String -/
def k10 : Class := { plain "java/lang/String" (some 0) with
  accessFlags := 49
  interfaces := #[6, 3, 7, 8, 9]
  cf := some (fileOf pool10 10 #[.nestMembers #[1103]] #[{ accessFlags := 1, nameIndex := 5, descriptorIndex := 6, attributes := #[] }, { accessFlags := 1, nameIndex := 507, descriptorIndex := 334, attributes := #[] }, { accessFlags := 1, nameIndex := 635, descriptorIndex := 765, attributes := #[] }, { accessFlags := 1, nameIndex := 635, descriptorIndex := 636, attributes := #[] }, { accessFlags := 0, nameIndex := 17, descriptorIndex := 337, attributes := #[] }, { accessFlags := 0, nameIndex := 494, descriptorIndex := 142, attributes := #[] }] 49 2 #[1106, 1108, 575, 1110, 1112] #[{ accessFlags := 18, nameIndex := 13, descriptorIndex := 14, attributes := #[] }, { accessFlags := 18, nameIndex := 17, descriptorIndex := 18, attributes := #[] }, { accessFlags := 2, nameIndex := 21, descriptorIndex := 22, attributes := #[] }, { accessFlags := 2, nameIndex := 25, descriptorIndex := 26, attributes := #[] }, { accessFlags := 26, nameIndex := 1116, descriptorIndex := 1117, attributes := #[] }, { accessFlags := 24, nameIndex := 40, descriptorIndex := 26, attributes := #[] }, { accessFlags := 26, nameIndex := 1101, descriptorIndex := 1102, attributes := #[] }, { accessFlags := 26, nameIndex := 1121, descriptorIndex := 1122, attributes := #[] }, { accessFlags := 25, nameIndex := 599, descriptorIndex := 600, attributes := #[] }, { accessFlags := 24, nameIndex := 1125, descriptorIndex := 18, attributes := #[] }, { accessFlags := 24, nameIndex := 1127, descriptorIndex := 18, attributes := #[] }])
  fields := #[{ name := "value", type := (.array .byte), accessFlags := 18, slot := 0, constantValue := 0 }, { name := "coder", type := .byte, accessFlags := 18, slot := 1, constantValue := 0 }, { name := "hash", type := .int, accessFlags := 2, slot := 2, constantValue := 0 }, { name := "hashIsZero", type := .boolean, accessFlags := 2, slot := 3, constantValue := 0 }, { name := "serialVersionUID", type := .long, accessFlags := 26, slot := 0, constantValue := 0 }, { name := "COMPACT_STRINGS", type := .boolean, accessFlags := 24, slot := 1, constantValue := 0 }, { name := "serialPersistentFields", type := (.array (.object "java/io/ObjectStreamField")), accessFlags := 26, slot := 2, constantValue := 0 }, { name := "REPL", type := .char, accessFlags := 26, slot := 3, constantValue := 0 }, { name := "CASE_INSENSITIVE_ORDER", type := (.object "java/util/Comparator"), accessFlags := 25, slot := 4, constantValue := 0 }, { name := "LATIN1", type := .byte, accessFlags := 24, slot := 5, constantValue := 0 }, { name := "UTF16", type := .byte, accessFlags := 24, slot := 6, constantValue := 0 }]
  methods := #[k10m0, k10m1, k10m2, k10m3, k10m4, k10m5]
  instanceTypes := #[(.array .byte), .byte, .int, .boolean]
  staticTypes := #[.long, .boolean, (.array (.object "java/io/ObjectStreamField")), .char, (.object "java/util/Comparator"), .byte, .byte]
  resolved := Array.replicate 1451 none
  statics := some 0 }

def pool11 : Array CpInfo := pool [(4, .class_ 6), (1, u "java/lang/Object"), (0, u "<init>"), (0, u "()V"), (5, .class_ 16), (1, u "java/lang/StringLatin1"), (21, .methodref 39 40), (0, .class_ 41), (0, .nameAndType 42 43), (0, u "java/lang/Math"), (0, u "min"), (0, u "(II)I"), (44, .methodref 14 89), (0, .nameAndType 90 91), (0, u "canEncode"), (0, u "(I)Z"), (0, .methodref 39 93), (0, .nameAndType 94 43), (0, u "max"), (0, .methodref 14 96), (0, .nameAndType 97 98), (0, u "indexOfChar"), (0, u "([BIII)I"), (2, u "indexOf"), (19, u "$assertionsDisabled"), (0, u "Z"), (98, .class_ 223), (1, u "java/lang/StringLatin1$LinesSpliterator"), (166, .class_ 391), (0, u "java/lang/StringLatin1$CharsSpliterator")] 3

def k11m0 : Method := { name := "<init>", desc := "()V", sig := { parameters := [], returnType := none }, accessFlags := 0, code := none }
def k11c1 : Code := { maxStack := 2, maxLocals := 1, code := jdk_43_method_4_code, exceptionTable := #[], attributes := #[] }
def k11m1 : Method := { name := "canEncode", desc := "(I)Z", sig := { parameters := [.int], returnType := some .boolean }, accessFlags := 9, code := some k11c1 }
def k11c2 : Code := { maxStack := 4, maxLocals := 4, code := jdk_43_method_22_code, exceptionTable := #[], attributes := #[] }
def k11m2 : Method := { name := "indexOf", desc := "([BIII)I", sig := { parameters := [(.array .byte), .int, .int, .int], returnType := some .int }, accessFlags := 9, code := some k11c2 }
def k11c3 : Code := { maxStack := 2, maxLocals := 6, code := jdk_43_method_23_code, exceptionTable := #[], attributes := #[] }
def k11m3 : Method := { name := "indexOfChar", desc := "([BIII)I", sig := { parameters := [(.array .byte), .int, .int, .int], returnType := some .int }, accessFlags := 10, code := some k11c3 }
/-- java/lang/StringLatin1 -/
def k11 : Class := { plain "java/lang/StringLatin1" (some 0) with
  accessFlags := 48
  interfaces := #[]
  cf := some (fileOf pool11 14 #[.nestMembers #[390, 221]] #[{ accessFlags := 0, nameIndex := 7, descriptorIndex := 8, attributes := #[] }, { accessFlags := 9, nameIndex := 90, descriptorIndex := 91, attributes := #[] }, { accessFlags := 9, nameIndex := 101, descriptorIndex := 98, attributes := #[] }, { accessFlags := 10, nameIndex := 97, descriptorIndex := 98, attributes := #[] }] 48 4 #[] #[{ accessFlags := 4120, nameIndex := 121, descriptorIndex := 122, attributes := #[] }])
  fields := #[{ name := "$assertionsDisabled", type := .boolean, accessFlags := 4120, slot := 0, constantValue := 0 }]
  methods := #[k11m0, k11m1, k11m2, k11m3]
  instanceTypes := #[]
  staticTypes := #[.boolean]
  resolved := Array.replicate 395 none
  statics := none }

def pool12 : Array CpInfo := pool [(1, .class_ 2), (0, u "java/lang/Math"), (1, .class_ 6), (1, u "java/lang/Object"), (0, u "<init>"), (0, u "()V"), (89, .class_ 100), (1, u "java/lang/Math$RandomNumberGeneratorHolder"), (71, u "negativeZeroFloatBits"), (0, u "J"), (2, u "negativeZeroDoubleBits"), (21, u "max"), (2, u "min"), (43, u "$assertionsDisabled"), (0, u "Z"), (88, u "(II)I"), (2, u "twoToTheDoubleScaleDown"), (0, u "D"), (4, u "twoToTheDoubleScaleUp"), (9, u "E"), (3, u "PI"), (2, u "TAU"), (2, u "DEGREES_TO_RADIANS"), (0, u "RADIANS_TO_DEGREES")] 94

def k12m0 : Method := { name := "<init>", desc := "()V", sig := { parameters := [], returnType := none }, accessFlags := 2, code := none }
def k12c1 : Code := { maxStack := 2, maxLocals := 2, code := jdk_29_method_65_code, exceptionTable := #[], attributes := #[] }
def k12m1 : Method := { name := "max", desc := "(II)I", sig := { parameters := [.int, .int], returnType := some .int }, accessFlags := 9, code := some k12c1 }
def k12c2 : Code := { maxStack := 2, maxLocals := 2, code := jdk_29_method_69_code, exceptionTable := #[], attributes := #[] }
def k12m2 : Method := { name := "min", desc := "(II)I", sig := { parameters := [.int, .int], returnType := some .int }, accessFlags := 9, code := some k12c2 }
/-- java/lang/Math -/
def k12 : Class := { plain "java/lang/Math" (some 0) with
  accessFlags := 49
  interfaces := #[]
  cf := some (fileOf pool12 1 #[.nestMembers #[98]] #[{ accessFlags := 2, nameIndex := 7, descriptorIndex := 8, attributes := #[] }, { accessFlags := 9, nameIndex := 198, descriptorIndex := 335, attributes := #[] }, { accessFlags := 9, nameIndex := 201, descriptorIndex := 335, attributes := #[] }] 49 4 #[] #[{ accessFlags := 25, nameIndex := 354, descriptorIndex := 339, attributes := #[] }, { accessFlags := 25, nameIndex := 358, descriptorIndex := 339, attributes := #[] }, { accessFlags := 25, nameIndex := 361, descriptorIndex := 339, attributes := #[] }, { accessFlags := 26, nameIndex := 364, descriptorIndex := 339, attributes := #[] }, { accessFlags := 26, nameIndex := 365, descriptorIndex := 339, attributes := #[] }, { accessFlags := 26, nameIndex := 172, descriptorIndex := 173, attributes := #[] }, { accessFlags := 26, nameIndex := 176, descriptorIndex := 173, attributes := #[] }, { accessFlags := 8, nameIndex := 344, descriptorIndex := 339, attributes := #[] }, { accessFlags := 8, nameIndex := 338, descriptorIndex := 339, attributes := #[] }, { accessFlags := 4120, nameIndex := 245, descriptorIndex := 246, attributes := #[] }])
  fields := #[{ name := "E", type := .double, accessFlags := 25, slot := 0, constantValue := 0 }, { name := "PI", type := .double, accessFlags := 25, slot := 1, constantValue := 0 }, { name := "TAU", type := .double, accessFlags := 25, slot := 2, constantValue := 0 }, { name := "DEGREES_TO_RADIANS", type := .double, accessFlags := 26, slot := 3, constantValue := 0 }, { name := "RADIANS_TO_DEGREES", type := .double, accessFlags := 26, slot := 4, constantValue := 0 }, { name := "negativeZeroFloatBits", type := .long, accessFlags := 26, slot := 5, constantValue := 0 }, { name := "negativeZeroDoubleBits", type := .long, accessFlags := 26, slot := 6, constantValue := 0 }, { name := "twoToTheDoubleScaleUp", type := .double, accessFlags := 8, slot := 7, constantValue := 0 }, { name := "twoToTheDoubleScaleDown", type := .double, accessFlags := 8, slot := 8, constantValue := 0 }, { name := "$assertionsDisabled", type := .boolean, accessFlags := 4120, slot := 9, constantValue := 0 }]
  methods := #[k12m0, k12m1, k12m2]
  instanceTypes := #[]
  staticTypes := #[.double, .double, .double, .double, .double, .long, .long, .double, .double, .boolean]
  resolved := Array.replicate 460 none
  statics := none }

def pool13 : Array CpInfo := pool [(2, .class_ 4), (1, u "java/lang/Object"), (0, u "<init>"), (0, u "()V"), (17, .class_ 26), (1, u "jdk/internal/util/Preconditions"), (28, .class_ 56), (0, u "jdk/internal/util/Preconditions$4"), (57, .class_ 115), (0, u "jdk/internal/util/Preconditions$1"), (7, u "SIOOBE_FORMATTER"), (0, u "Ljava/util/function/BiFunction;"), (0, .class_ 126), (0, u "jdk/internal/util/Preconditions$2"), (3, u "AIOOBE_FORMATTER"), (0, .class_ 132), (0, u "jdk/internal/util/Preconditions$3"), (3, u "IOOBE_FORMATTER")] 57

def k13m0 : Method := { name := "<init>", desc := "()V", sig := { parameters := [], returnType := none }, accessFlags := 1, code := none }
/-- jdk/internal/util/Preconditions -/
def k13 : Class := { plain "jdk/internal/util/Preconditions" (some 0) with
  accessFlags := 33
  interfaces := #[]
  cf := some (fileOf pool13 24 #[.nestMembers #[55, 131, 125, 114]] #[{ accessFlags := 1, nameIndex := 5, descriptorIndex := 6, attributes := #[] }] 33 2 #[] #[{ accessFlags := 25, nameIndex := 123, descriptorIndex := 124, attributes := #[] }, { accessFlags := 25, nameIndex := 130, descriptorIndex := 124, attributes := #[] }, { accessFlags := 25, nameIndex := 136, descriptorIndex := 124, attributes := #[] }])
  fields := #[{ name := "SIOOBE_FORMATTER", type := (.object "java/util/function/BiFunction"), accessFlags := 25, slot := 0, constantValue := 0 }, { name := "AIOOBE_FORMATTER", type := (.object "java/util/function/BiFunction"), accessFlags := 25, slot := 1, constantValue := 0 }, { name := "IOOBE_FORMATTER", type := (.object "java/util/function/BiFunction"), accessFlags := 25, slot := 2, constantValue := 0 }]
  methods := #[k13m0]
  instanceTypes := #[]
  staticTypes := #[(.object "java/util/function/BiFunction"), (.object "java/util/function/BiFunction"), (.object "java/util/function/BiFunction")]
  resolved := Array.replicate 194 none
  statics := some 1 }

def pool14 : Array CpInfo := pool [(9, u "<init>"), (6, .class_ 18), (1, u "java/lang/Object"), (0, u "()V"), (1, .class_ 23), (1, u "jdk/internal/util/ArraysSupport"), (0, u "LOG2_ARRAY_LONG_INDEX_SCALE"), (0, u "I"), (2, u "U"), (0, u "Ljdk/internal/misc/Unsafe;"), (8, u "BIG_ENDIAN"), (0, u "Z"), (8, u "LOG2_BYTE_BIT_SIZE"), (4, u "LOG2_ARRAY_INT_INDEX_SCALE"), (54, u "JLA"), (0, u "Ljdk/internal/access/JavaLangAccess;"), (11, u "LOG2_ARRAY_BOOLEAN_INDEX_SCALE"), (9, u "LOG2_ARRAY_BYTE_INDEX_SCALE"), (5, u "LOG2_ARRAY_CHAR_INDEX_SCALE"), (5, u "LOG2_ARRAY_SHORT_INDEX_SCALE"), (18, u "LOG2_ARRAY_FLOAT_INDEX_SCALE"), (24, u "LOG2_ARRAY_DOUBLE_INDEX_SCALE"), (89, u "T_BOOLEAN"), (2, u "T_CHAR"), (1, u "T_FLOAT"), (1, u "T_DOUBLE"), (1, u "T_BYTE"), (1, u "T_SHORT"), (1, u "T_INT"), (1, u "T_LONG"), (1, u "SOFT_MAX_ARRAY_LENGTH")] 83

def k14m0 : Method := { name := "<init>", desc := "()V", sig := { parameters := [], returnType := none }, accessFlags := 2, code := none }
/-- jdk/internal/util/ArraysSupport -/
def k14 : Class := { plain "jdk/internal/util/ArraysSupport" (some 0) with
  accessFlags := 33
  interfaces := #[]
  cf := some (fileOf pool14 21 #[] #[{ accessFlags := 2, nameIndex := 9, descriptorIndex := 19, attributes := #[] }] 33 16 #[] #[{ accessFlags := 24, nameIndex := 28, descriptorIndex := 29, attributes := #[] }, { accessFlags := 26, nameIndex := 38, descriptorIndex := 39, attributes := #[] }, { accessFlags := 25, nameIndex := 121, descriptorIndex := 25, attributes := #[] }, { accessFlags := 25, nameIndex := 131, descriptorIndex := 25, attributes := #[] }, { accessFlags := 25, nameIndex := 137, descriptorIndex := 25, attributes := #[] }, { accessFlags := 25, nameIndex := 143, descriptorIndex := 25, attributes := #[] }, { accessFlags := 25, nameIndex := 53, descriptorIndex := 25, attributes := #[] }, { accessFlags := 25, nameIndex := 24, descriptorIndex := 25, attributes := #[] }, { accessFlags := 25, nameIndex := 162, descriptorIndex := 25, attributes := #[] }, { accessFlags := 25, nameIndex := 187, descriptorIndex := 25, attributes := #[] }, { accessFlags := 26, nameIndex := 48, descriptorIndex := 25, attributes := #[] }, { accessFlags := 25, nameIndex := 277, descriptorIndex := 25, attributes := #[] }, { accessFlags := 25, nameIndex := 280, descriptorIndex := 25, attributes := #[] }, { accessFlags := 25, nameIndex := 282, descriptorIndex := 25, attributes := #[] }, { accessFlags := 25, nameIndex := 284, descriptorIndex := 25, attributes := #[] }, { accessFlags := 25, nameIndex := 286, descriptorIndex := 25, attributes := #[] }, { accessFlags := 25, nameIndex := 288, descriptorIndex := 25, attributes := #[] }, { accessFlags := 25, nameIndex := 290, descriptorIndex := 25, attributes := #[] }, { accessFlags := 25, nameIndex := 292, descriptorIndex := 25, attributes := #[] }, { accessFlags := 26, nameIndex := 108, descriptorIndex := 109, attributes := #[] }, { accessFlags := 25, nameIndex := 294, descriptorIndex := 25, attributes := #[] }])
  fields := #[{ name := "U", type := (.object "jdk/internal/misc/Unsafe"), accessFlags := 24, slot := 0, constantValue := 0 }, { name := "BIG_ENDIAN", type := .boolean, accessFlags := 26, slot := 1, constantValue := 0 }, { name := "LOG2_ARRAY_BOOLEAN_INDEX_SCALE", type := .int, accessFlags := 25, slot := 2, constantValue := 0 }, { name := "LOG2_ARRAY_BYTE_INDEX_SCALE", type := .int, accessFlags := 25, slot := 3, constantValue := 0 }, { name := "LOG2_ARRAY_CHAR_INDEX_SCALE", type := .int, accessFlags := 25, slot := 4, constantValue := 0 }, { name := "LOG2_ARRAY_SHORT_INDEX_SCALE", type := .int, accessFlags := 25, slot := 5, constantValue := 0 }, { name := "LOG2_ARRAY_INT_INDEX_SCALE", type := .int, accessFlags := 25, slot := 6, constantValue := 0 }, { name := "LOG2_ARRAY_LONG_INDEX_SCALE", type := .int, accessFlags := 25, slot := 7, constantValue := 0 }, { name := "LOG2_ARRAY_FLOAT_INDEX_SCALE", type := .int, accessFlags := 25, slot := 8, constantValue := 0 }, { name := "LOG2_ARRAY_DOUBLE_INDEX_SCALE", type := .int, accessFlags := 25, slot := 9, constantValue := 0 }, { name := "LOG2_BYTE_BIT_SIZE", type := .int, accessFlags := 26, slot := 10, constantValue := 0 }, { name := "T_BOOLEAN", type := .int, accessFlags := 25, slot := 11, constantValue := 0 }, { name := "T_CHAR", type := .int, accessFlags := 25, slot := 12, constantValue := 0 }, { name := "T_FLOAT", type := .int, accessFlags := 25, slot := 13, constantValue := 0 }, { name := "T_DOUBLE", type := .int, accessFlags := 25, slot := 14, constantValue := 0 }, { name := "T_BYTE", type := .int, accessFlags := 25, slot := 15, constantValue := 0 }, { name := "T_SHORT", type := .int, accessFlags := 25, slot := 16, constantValue := 0 }, { name := "T_INT", type := .int, accessFlags := 25, slot := 17, constantValue := 0 }, { name := "T_LONG", type := .int, accessFlags := 25, slot := 18, constantValue := 0 }, { name := "JLA", type := (.object "jdk/internal/access/JavaLangAccess"), accessFlags := 26, slot := 19, constantValue := 0 }, { name := "SOFT_MAX_ARRAY_LENGTH", type := .int, accessFlags := 25, slot := 20, constantValue := 0 }]
  methods := #[k14m0]
  instanceTypes := #[]
  staticTypes := #[(.object "jdk/internal/misc/Unsafe"), .boolean, .int, .int, .int, .int, .int, .int, .int, .int, .int, .int, .int, .int, .int, .int, .int, .int, .int, (.object "jdk/internal/access/JavaLangAccess"), .int]
  resolved := Array.replicate 378 none
  statics := none }

def pool15 : Array CpInfo := pool [(1, u "java/lang/Cloneable"), (0, .class_ 1), (0, u "java/lang/Object"), (0, .class_ 3)] 3

/-- java/lang/Cloneable -/
def k15 : Class := { plain "java/lang/Cloneable" (some 0) with
  accessFlags := 1537
  interfaces := #[]
  cf := some (fileOf pool15 2 #[] #[] 1537 4 #[] #[])
  fields := #[]
  methods := #[]
  instanceTypes := #[]
  staticTypes := #[]
  resolved := Array.replicate 8 none
  statics := none }

/-- the primitive byte -/
def k16 : Class := { plain "byte" none with kind := .primitive 'B', accessFlags := 0x411 }
/-- [B -/
def k17 : Class := { plain "[B" (some 0) with kind := .array 16 .byte, interfaces := #[15, 6], accessFlags := 1041 }

/-- the primitive char -/
def k18 : Class := { plain "char" none with kind := .primitive 'C', accessFlags := 0x411 }
/-- [C -/
def k19 : Class := { plain "[C" (some 0) with kind := .array 18 .char, interfaces := #[15, 6], accessFlags := 1041 }

/-- the primitive int -/
def k20 : Class := { plain "int" none with kind := .primitive 'I', accessFlags := 0x411 }
/-- [I -/
def k21 : Class := { plain "[I" (some 0) with kind := .array 20 .int, interfaces := #[15, 6], accessFlags := 1041 }

def heap : Heap := #[{ cls := 10, slots := #[.long 0, .int 1, .null, .int 0, .null, .int 0, .int 0], vm := .statics 10 },
  { cls := 13, slots := #[.null, .null, .null], vm := .statics 13 }]
def classes : Array Class := #[k0, k1, k2, k3, k4, k5, k6, k7, k8, k9, k10, k11, k12, k13, k14, k15, k16, k17, k18, k19, k20, k21]
def interned : List (Array UInt16 × Addr) := []
def slotsUsed : Nat := 10
def theMethod : MethodId := ⟨1, 2⟩
def args0 : Array Value := #[.int 65, .int 2]
def aboutOver (below : List Frame) : State where
  vm := { classes := classes, interned := interned.toArray }
  heap := heap
  slotsUsed := slotsUsed
  threads := #[{ frames := .invoking theMethod args0 :: below }]
def below0 : List Frame := [.native { method := ⟨0, 0⟩, args := #[] }]
def about1 : State := aboutOver below0
def p0 : Program := .bare "" "" ""
def e0 : Env := launch0.env 0 0 0
theorem w_frames : about1.frames = Frame.invoking theMethod args0 :: below0 := rfl
set_option maxRecDepth 65536 in
theorem w_args : argsFit about1.vm theMethod args0 = true := by decide +kernel
set_option maxRecDepth 65536 in
theorem w_heap : heapFits about1 = true := by decide +kernel
set_option maxRecDepth 65536 in
theorem w_runnable : about1.curStatus? = some .runnable := by decide +kernel
set_option maxRecDepth 65536 in
theorem w_alone : about1.alone = true := by decide +kernel
set_option maxRecDepth 65536 in
theorem w_named : about1.methodNamed? x = some theMethod := by decide +kernel
set_option maxRecDepth 65536 in
theorem w_hears : about1.hears theMethod below0 = true := by decide +kernel
set_option maxRecDepth 65536 in
theorem w_ripe : about1.ripe theMethod args0 below0 = true := by decide +kernel
theorem w_running : about1.status = .running := rfl
set_option maxRecDepth 65536 in
theorem w_room : about1.hasRoom e0.platform room_1 = true :=
  launch0.hasRoom_least _ room_1 (by decide +kernel) (by decide +kernel) (by decide +kernel) (by decide +kernel) (by decide +kernel) (by decide +kernel)
theorem allAtoms_all (ts : List Jvm.Cond) (a : Array Jvm.Value) (st : Jvm.State) : (allAtoms ts).before a st = ts.all (fun c => c.before a st) := by
  induction ts with
  | nil => rfl
  | cons c t ih =>
    show (Jvm.Cond.and c (allAtoms t)).before a st = _
    rw [Jvm.Cond.before_and, ih, List.all_cons]
def words1 : List Jvm.Cond := Jvm.Cond.code x code maxLocals ret :: tables_1
/-- a 'code' word, met by the world's own term for the bytes: nothing is compared byte by byte -/
theorem code_word {y : MethodName} {bytes : ByteArray} {mx : Nat} {rt : Option FieldType} {a : Array Value} {s : State} {m : MethodId} {meth : Method} {c : Code} (h1 : s.methodNamed? y = some m) (h2 : s.vm.method? m = some meth) (h3 : meth.code = some c) (h4 : c.code = bytes)
    (h5 : (c.maxLocals == mx && c.exceptionTable.isEmpty && decide (c.maxStack ≤ mostOperands) && decide (meth.sig.returnType = rt) && !meth.locks && decide (parseMethodDescriptor y.desc = some meth.sig)) = true) : (Jvm.Cond.code y bytes mx rt).before a s = true := by
  simp only [Bool.and_eq_true, beq_iff_eq, Bool.not_eq_true', decide_eq_true_eq] at h5
  obtain ⟨⟨⟨⟨⟨g1, g2⟩, g3⟩, g4⟩, g5⟩, g6⟩ := h5
  simp [Cond.before, Cond.holds, Cond.value, h1, h2, h3, h4, g1, g2, g3, g4, g5, g6]
def isCode : Jvm.Cond → Bool
  | .code _ _ _ _ => true
  | _ => false
theorem all_split {L : List Jvm.Cond} {P : Jvm.Cond → Bool} (h1 : L.all (fun c => isCode c || P c) = true) (h2 : ∀ c ∈ L.filter isCode, P c = true) : L.all P = true := by
  refine List.all_eq_true.mpr fun c hc => ?_
  have h := List.all_eq_true.mp h1 c hc
  rcases Bool.eq_false_or_eq_true (isCode c) with hi | hi
  · exact h2 c (List.mem_filter.mpr ⟨hc, hi⟩)
  · simpa [hi] using h
set_option maxRecDepth 65536 in
theorem w_c0 : (Jvm.Cond.code x code maxLocals ret).before args0 about1 = true := code_word (m := ⟨1, 2⟩) (meth := k1m2) (c := k1c2) (by decide +kernel) rfl rfl rfl (by decide +kernel)
set_option maxRecDepth 65536 in
theorem w_c1 : (Jvm.Cond.code ({ cls := "com/example/cutoff/cutoff/store/Iri", name := "canHold", desc := "(C)Z" } : Jvm.MethodName) prog_66_method_2_code (1 : Nat) (Option.some Jvm.ClassFile.FieldType.boolean)).before args0 about1 = true := code_word (m := ⟨5, 0⟩) (meth := k5m0) (c := k5c0) (by decide +kernel) rfl rfl rfl (by decide +kernel)
set_option maxRecDepth 65536 in
theorem w_c2 : (Jvm.Cond.code ({ cls := "java/lang/String", name := "indexOf", desc := "(I)I" } : Jvm.MethodName) jdk_42_method_79_code (2 : Nat) (Option.some Jvm.ClassFile.FieldType.int)).before args0 about1 = true := code_word (m := ⟨10, 2⟩) (meth := k10m2) (c := k10c2) (by decide +kernel) rfl rfl rfl (by decide +kernel)
set_option maxRecDepth 65536 in
theorem w_c3 : (Jvm.Cond.code ({ cls := "java/lang/String", name := "indexOf", desc := "(II)I" } : Jvm.MethodName) jdk_42_method_80_code (3 : Nat) (Option.some Jvm.ClassFile.FieldType.int)).before args0 about1 = true := code_word (m := ⟨10, 3⟩) (meth := k10m3) (c := k10c3) (by decide +kernel) rfl rfl rfl (by decide +kernel)
set_option maxRecDepth 65536 in
theorem w_c4 : (Jvm.Cond.code ({ cls := "java/lang/String", name := "isLatin1", desc := "()Z" } : Jvm.MethodName) jdk_42_method_154_code (1 : Nat) (Option.some Jvm.ClassFile.FieldType.boolean)).before args0 about1 = true := code_word (m := ⟨10, 5⟩) (meth := k10m5) (c := k10c5) (by decide +kernel) rfl rfl rfl (by decide +kernel)
set_option maxRecDepth 65536 in
theorem w_c5 : (Jvm.Cond.code ({ cls := "java/lang/String", name := "length", desc := "()I" } : Jvm.MethodName) jdk_42_method_54_code (1 : Nat) (Option.some Jvm.ClassFile.FieldType.int)).before args0 about1 = true := code_word (m := ⟨10, 1⟩) (meth := k10m1) (c := k10c1) (by decide +kernel) rfl rfl rfl (by decide +kernel)
set_option maxRecDepth 65536 in
theorem w_c6 : (Jvm.Cond.code ({ cls := "java/lang/String", name := "coder", desc := "()B" } : Jvm.MethodName) jdk_42_method_152_code (1 : Nat) (Option.some Jvm.ClassFile.FieldType.byte)).before args0 about1 = true := code_word (m := ⟨10, 4⟩) (meth := k10m4) (c := k10c4) (by decide +kernel) rfl rfl rfl (by decide +kernel)
set_option maxRecDepth 65536 in
theorem w_c7 : (Jvm.Cond.code ({ cls := "java/lang/StringLatin1", name := "indexOf", desc := "([BIII)I" } : Jvm.MethodName) jdk_43_method_22_code (4 : Nat) (Option.some Jvm.ClassFile.FieldType.int)).before args0 about1 = true := code_word (m := ⟨11, 2⟩) (meth := k11m2) (c := k11c2) (by decide +kernel) rfl rfl rfl (by decide +kernel)
set_option maxRecDepth 65536 in
theorem w_c8 : (Jvm.Cond.code ({ cls := "java/lang/StringLatin1", name := "canEncode", desc := "(I)Z" } : Jvm.MethodName) jdk_43_method_4_code (1 : Nat) (Option.some Jvm.ClassFile.FieldType.boolean)).before args0 about1 = true := code_word (m := ⟨11, 1⟩) (meth := k11m1) (c := k11c1) (by decide +kernel) rfl rfl rfl (by decide +kernel)
set_option maxRecDepth 65536 in
theorem w_c9 : (Jvm.Cond.code ({ cls := "java/lang/Math", name := "max", desc := "(II)I" } : Jvm.MethodName) jdk_29_method_65_code (2 : Nat) (Option.some Jvm.ClassFile.FieldType.int)).before args0 about1 = true := code_word (m := ⟨12, 1⟩) (meth := k12m1) (c := k12c1) (by decide +kernel) rfl rfl rfl (by decide +kernel)
set_option maxRecDepth 65536 in
theorem w_c10 : (Jvm.Cond.code ({ cls := "java/lang/Math", name := "min", desc := "(II)I" } : Jvm.MethodName) jdk_29_method_69_code (2 : Nat) (Option.some Jvm.ClassFile.FieldType.int)).before args0 about1 = true := code_word (m := ⟨12, 2⟩) (meth := k12m2) (c := k12c2) (by decide +kernel) rfl rfl rfl (by decide +kernel)
set_option maxRecDepth 65536 in
theorem w_c11 : (Jvm.Cond.code ({ cls := "java/lang/StringLatin1", name := "indexOfChar", desc := "([BIII)I" } : Jvm.MethodName) jdk_43_method_23_code (6 : Nat) (Option.some Jvm.ClassFile.FieldType.int)).before args0 about1 = true := code_word (m := ⟨11, 3⟩) (meth := k11m3) (c := k11c3) (by decide +kernel) rfl rfl rfl (by decide +kernel)
set_option maxRecDepth 65536 in
theorem w_c12 : (Jvm.Cond.code ({ cls := "com/example/cutoff/cutoff/store/IriCanHoldPinLaw", name := "expected", desc := "(C)Z" } : Jvm.MethodName) method_2_code (1 : Nat) (Option.some Jvm.ClassFile.FieldType.boolean)).before args0 about1 = true := code_word (m := ⟨1, 1⟩) (meth := k1m1) (c := k1c1) (by decide +kernel) rfl rfl rfl (by decide +kernel)
def codes1 : List Jvm.Cond := [Jvm.Cond.code x code maxLocals ret, Jvm.Cond.code ({ cls := "com/example/cutoff/cutoff/store/Iri", name := "canHold", desc := "(C)Z" } : Jvm.MethodName) prog_66_method_2_code (1 : Nat) (Option.some Jvm.ClassFile.FieldType.boolean), Jvm.Cond.code ({ cls := "java/lang/String", name := "indexOf", desc := "(I)I" } : Jvm.MethodName) jdk_42_method_79_code (2 : Nat) (Option.some Jvm.ClassFile.FieldType.int), Jvm.Cond.code ({ cls := "java/lang/String", name := "indexOf", desc := "(II)I" } : Jvm.MethodName) jdk_42_method_80_code (3 : Nat) (Option.some Jvm.ClassFile.FieldType.int), Jvm.Cond.code ({ cls := "java/lang/String", name := "isLatin1", desc := "()Z" } : Jvm.MethodName) jdk_42_method_154_code (1 : Nat) (Option.some Jvm.ClassFile.FieldType.boolean), Jvm.Cond.code ({ cls := "java/lang/String", name := "length", desc := "()I" } : Jvm.MethodName) jdk_42_method_54_code (1 : Nat) (Option.some Jvm.ClassFile.FieldType.int), Jvm.Cond.code ({ cls := "java/lang/String", name := "coder", desc := "()B" } : Jvm.MethodName) jdk_42_method_152_code (1 : Nat) (Option.some Jvm.ClassFile.FieldType.byte), Jvm.Cond.code ({ cls := "java/lang/StringLatin1", name := "indexOf", desc := "([BIII)I" } : Jvm.MethodName) jdk_43_method_22_code (4 : Nat) (Option.some Jvm.ClassFile.FieldType.int), Jvm.Cond.code ({ cls := "java/lang/StringLatin1", name := "canEncode", desc := "(I)Z" } : Jvm.MethodName) jdk_43_method_4_code (1 : Nat) (Option.some Jvm.ClassFile.FieldType.boolean), Jvm.Cond.code ({ cls := "java/lang/Math", name := "max", desc := "(II)I" } : Jvm.MethodName) jdk_29_method_65_code (2 : Nat) (Option.some Jvm.ClassFile.FieldType.int), Jvm.Cond.code ({ cls := "java/lang/Math", name := "min", desc := "(II)I" } : Jvm.MethodName) jdk_29_method_69_code (2 : Nat) (Option.some Jvm.ClassFile.FieldType.int), Jvm.Cond.code ({ cls := "java/lang/StringLatin1", name := "indexOfChar", desc := "([BIII)I" } : Jvm.MethodName) jdk_43_method_23_code (6 : Nat) (Option.some Jvm.ClassFile.FieldType.int), Jvm.Cond.code ({ cls := "com/example/cutoff/cutoff/store/IriCanHoldPinLaw", name := "expected", desc := "(C)Z" } : Jvm.MethodName) method_2_code (1 : Nat) (Option.some Jvm.ClassFile.FieldType.boolean)]
set_option maxRecDepth 65536 in
theorem codes_eq : words1.filter isCode = codes1 := rfl
theorem w_codes : ∀ c ∈ words1.filter isCode, c.before args0 about1 = true := by
  rw [codes_eq]
  intro c hc
  simp only [codes1, List.mem_cons, List.not_mem_nil, or_false] at hc
  rcases hc with rfl | rfl | rfl | rfl | rfl | rfl | rfl | rfl | rfl | rfl | rfl | rfl | rfl
  · exact w_c0
  · exact w_c1
  · exact w_c2
  · exact w_c3
  · exact w_c4
  · exact w_c5
  · exact w_c6
  · exact w_c7
  · exact w_c8
  · exact w_c9
  · exact w_c10
  · exact w_c11
  · exact w_c12
set_option maxRecDepth 65536 in
theorem w_t1 : (words1.take 24).all (fun c => isCode c || c.before args0 about1) = true := by decide +kernel
set_option maxRecDepth 65536 in
theorem w_t2 : ((words1.drop 24).take 24).all (fun c => isCode c || c.before args0 about1) = true := by decide +kernel
set_option maxRecDepth 65536 in
theorem w_t3 : ((words1.drop 24).drop 24).all (fun c => isCode c || c.before args0 about1) = true := by decide +kernel
theorem w_tables : (allAtoms (Jvm.Cond.code x code maxLocals ret :: tables_1)).before args0 about1 = true := by
  rw [allAtoms_all]
  show words1.all (fun c => c.before args0 about1) = true
  refine all_split ?_ w_codes
  rw [← List.take_append_drop 24 words1, List.all_append, w_t1, ← List.take_append_drop 24 (words1.drop 24), List.all_append, w_t2, w_t3]
  rfl
set_option maxRecDepth 65536 in
theorem w_rest : rest_1_c.before args0 about1 = true := by decide +kernel
set_option maxRecDepth 65536 in
theorem w_case : (Jvm.Cond.and given_1 narrow_1).before args0 about1 = true := by decide +kernel
set_option maxRecDepth 65536 in
theorem w_consts : constsHeld consts_1 about1 := Jvm.Lit.constsHeldB_iff.mp (by decide +kernel)
theorem w_applies : (headSpec (Jvm.Cond.code x code maxLocals ret :: tables_1) room_1).applies x e0.platform about1 = true :=
  (Spec.applies_iff w_frames).mpr ⟨w_running, w_runnable, w_alone, w_named, w_hears, w_ripe, w_room, w_tables⟩
theorem atStart : AtStart classFile x code maxLocals ret World_1 tables_1 room_1 Calls_1 rest_1 Pre_1 launch0 p0 e0 about1 theMethod args0 below0 :=
  ⟨lists_1, trivial, launch0.admits_env _ _ _, launch0.least_env, fairChoices_fair.cas, fairChoices_fair.clock, w_frames, w_args, w_heap, w_applies, ⟨w_consts, trivial⟩, w_rest, w_case⟩
end start1
theorem witness_1 : WitnessClaimed_1 := ⟨start1.p0, start1.e0, start1.about1, start1.theMethod, start1.args0, start1.below0, start1.atStart⟩
end Jvm.Pilot.@@N@@
