import JvmDerived
import JvmDerived.Pilot.@@N@@Statement
import JvmDerived.Pilot.@@N@@Code
set_option linter.unusedVariables false
set_option linter.unusedSimpArgs false
@@BLOCK:NumsL.lean.txt@@
namespace Jvm.RoadKit
open Sem ClassFile Op Lib Jvm.Stand Jvm.Free Jvm.LawKit
section New
variable {p : Program} {l : Launch} {e : Env} {R : Room} {s : State} {m : MethodId} {args : Array Value} {below : List Frame} {meth : Method} {c : Code} {T : State} {locs : List Loc} {cells slots : Nat}
theorem retI (X : Stand p l e R s m args below meth c T locs cells slots) (hx : p.tables.exec = Jvm.exec) {pc : Nat} {Ls : Array Slot} {z : Int32} {rest : List Value} (hret : meth.sig.returnType = some .int) (hd : decode c.code pc = .ok (.ireturn, 1)) {fs : List Frame}
    (hl : ∀ (f : JFrame) (acts : List Action), f.method = m → f.locked = none → f.entered = [] → (doReturn e (T.setTop f) acts (some (.int z))).1 = T.setFrames fs) : Steps p.tables e below (T.setTop (mkF m pc Ls (.int z :: rest))) (T.setFrames fs) := by
  have hm' : T.vm.method? m = some meth := X.method'
  have hn : narrow .int (.int z) = .int z := rfl
  show Steps p.tables e below (T.setTop { method := m, pc := pc, locals := Ls, stack := _ :: rest, locked := none }) _
  jvm_step X.here [X.here.top, hx, hd, hm', hret, hn]
  first | (intro acts; rw [hl _ acts rfl rfl rfl]) | rw [hl _ _ rfl rfl rfl]
  exact Steps.refl _
end New
end Jvm.RoadKit
namespace Jvm.Pilot.@@N@@
open Jvm Jvm.ClassFile Sem Op Lib Jvm.Free Jvm.Stand Jvm.LawKit Jvm.RoadKit Bundle Jvm.Pilot.@@N@@.Jvm.D
theorem og {tb : Tables} {e : Env} {below : List Frame} {A B : State} {P : State → Outcome → Prop} (st : ∀ t, Steps tb e below B t → Steps tb e below A t) (h : ∃ s₂ o, Steps tb e below B s₂ ∧ P s₂ o) : ∃ s₂ o, Steps tb e below A s₂ ∧ P s₂ o := by
  obtain ⟨s₂, o, h1, h2⟩ := h
  exact ⟨s₂, o, st _ h1, h2⟩
theorem ow {av0 : Array Value} {Z : State} (hw : ∀ d ∈ tables_1, d.before av0 Z = true) (i : Nat) {d : Jvm.Cond} (h : tables_1[i]? = some d) : d.before av0 Z = true := hw d (List.mem_of_getElem? h)
theorem own_gj {tb : Tables} {e : Env} {below : List Frame} {A B : State} {P : State → Heap → List Loc → Prop} {F : State → State} (st : ∀ t, Steps tb e below B t → Steps tb e below A t) (h : ∃ T' h' L', P T' h' L' ∧ ∀ t, Steps tb e below (F T') t → Steps tb e below B t) : ∃ T' h' L', P T' h' L' ∧ ∀ t, Steps tb e below (F T') t → Steps tb e below A t := by
  obtain ⟨T', h', L', h1, h2⟩ := h
  exact ⟨T', h', L', h1, fun t k => st t (h2 t k)⟩
theorem own_stake {Z : State} {h h' : Heap} {C n d D : String} {v : Value} {a : Addr} (F : Sta Z h C n d v) (K : Keep h h' [a]) (E : Exa Z h a D) : Sta Z h' C n d v := by
  obtain ⟨cf, i, k, f, st, cell, h1, h2, h3, h4, h5, h6, h7⟩ := F
  refine ⟨cf, i, k, f, st, cell, h1, h2, h3, h4, K.2.1 _ _ h5 (fun q => ?_), h6, h7⟩
  obtain rfl := List.mem_singleton.mp q
  obtain ⟨c2, k2, e1, -, -, e4, -⟩ := E
  cases e1.symm.trans h5
  rw [e4] at h6; cases h6
theorem own_stak {Z : State} {h h' : Heap} {C n d : String} {v : Value} (F : Sta Z h C n d v) (K : Keep h h' []) : Sta Z h' C n d v := by
  obtain ⟨cf, i, k, f, st, cell, h1, h2, h3, h4, h5, r⟩ := F
  exact ⟨cf, i, k, f, st, cell, h1, h2, h3, h4, K.2.1 _ _ h5 nin0, r⟩
theorem gs {tb : Tables} {e : Env} {below : List Frame} {A B : State} {P : State → List Loc → UInt64 → Prop} {F : State → UInt64 → State} (st : ∀ t, Steps tb e below B t → Steps tb e below A t) (h : ∃ T' L' R, P T' L' R ∧ ∀ t, Steps tb e below (F T' R) t → Steps tb e below B t) : ∃ T' L' R, P T' L' R ∧ ∀ t, Steps tb e below (F T' R) t → Steps tb e below A t := by
  obtain ⟨T', L', R, hP, k⟩ := h
  exact ⟨T', L', R, hP, fun t q => st t (k t q)⟩
theorem own_dup2 {tb : Tables} [Ours tb] {e : Env} {below : List Frame} {T target : State} {m : MethodId} {c : Code} {g : JFrame} (h : At T m c below) (hx : tb.exec = Jvm.exec) (hg : g.method = m) {x y : Value} {rest : List Value} (hd : decode c.code g.pc = .ok (.dup2, 1)) (hs : g.stack = x :: y :: rest) (h1 : x.category = 1) (h2 : y.category = 1)
    (hr : Steps tb e below (T.setTop { g with pc := g.pc + 1, stack := x :: y :: x :: y :: rest }) target) : Steps tb e below (T.setTop g) target := by
  subst hg
  jvm_step h [h.top, hx, hd, hs, h1, h2]
  exact hr
abbrev own_m1 : MethodName := ⟨"com/example/ballast/ballast/placement/CuttingPlanesMoveWallsPinLaw", "law", "(JIIIII)Z"⟩
abbrev own_m2 : MethodName := ⟨"java/lang/Math", "min", "(II)I"⟩
abbrev own_m3 : MethodName := ⟨"java/lang/Math", "max", "(II)I"⟩
abbrev own_m4 : MethodName := ⟨"com/example/ballast/ballast/placement/CuttingPlanes", "<init>", "([D[D)V"⟩
abbrev own_m5 : MethodName := ⟨"java/lang/Object", "<init>", "()V"⟩
abbrev own_m6 : MethodName := ⟨"java/util/ArrayList", "<init>", "()V"⟩
abbrev own_m7 : MethodName := ⟨"java/util/AbstractList", "<init>", "()V"⟩
abbrev own_m8 : MethodName := ⟨"java/util/AbstractCollection", "<init>", "()V"⟩
abbrev own_m9 : MethodName := ⟨"com/example/ballast/ballast/placement/CuttingPlanes", "addColumn", "([DD)V"⟩
abbrev own_m10 : MethodName := ⟨"java/util/ArrayList", "size", "()I"⟩
abbrev own_m11 : MethodName := ⟨"java/util/ArrayList", "add", "(Ljava/lang/Object;)Z"⟩
abbrev own_m12 : MethodName := ⟨"java/util/ArrayList", "add", "(Ljava/lang/Object;[Ljava/lang/Object;I)V"⟩
abbrev own_m13 : MethodName := ⟨"java/util/ArrayList", "grow", "()[Ljava/lang/Object;"⟩
abbrev own_m14 : MethodName := ⟨"java/util/ArrayList", "grow", "(I)[Ljava/lang/Object;"⟩
abbrev own_m15 : MethodName := ⟨"com/example/ballast/ballast/placement/CuttingPlanes", "add", "(D[D)V"⟩
abbrev own_m16 : MethodName := ⟨"com/example/ballast/ballast/placement/CuttingPlanes", "start", "()V"⟩
abbrev own_m17 : MethodName := ⟨"java/util/ArrayList", "get", "(I)Ljava/lang/Object;"⟩
abbrev own_m18 : MethodName := ⟨"java/util/Objects", "checkIndex", "(II)I"⟩
abbrev own_m19 : MethodName := ⟨"jdk/internal/util/Preconditions", "checkIndex", "(IILjava/util/function/BiFunction;)I"⟩
abbrev own_m20 : MethodName := ⟨"java/util/ArrayList", "elementData", "(I)Ljava/lang/Object;"⟩
abbrev own_m21 : MethodName := ⟨"com/example/ballast/ballast/placement/CuttingPlanes", "moveWalls", "(IDD)V"⟩
abbrev own_m22 : MethodName := ⟨"com/example/ballast/ballast/placement/CuttingPlanes", "solve", "()D"⟩
abbrev own_m23 : MethodName := ⟨"com/example/ballast/ballast/placement/CuttingPlanes", "updateMultipliers", "()V"⟩
abbrev own_m24 : MethodName := ⟨"com/example/ballast/ballast/placement/CuttingPlanes", "dot", "([DI)D"⟩
abbrev own_m25 : MethodName := ⟨"com/example/ballast/ballast/placement/CuttingPlanes", "point", "()[D"⟩
abbrev own_m26 : MethodName := ⟨"java/util/Arrays", "copyOfRange", "([DII)[D"⟩
abbrev own_m27 : MethodName := ⟨"java/util/Arrays", "copyOfRangeDouble", "([DII)[D"⟩
abbrev own_m28 : MethodName := ⟨"java/util/Arrays", "checkLength", "(II)V"⟩
abbrev own_m29 : MethodName := ⟨"com/example/ballast/ballast/placement/CuttingPlanesMoveWallsPinLaw", "atWall", "(DIDD)Z"⟩
abbrev own_m30 : MethodName := ⟨"java/util/List", "size", "()I"⟩
abbrev own_m31 : MethodName := ⟨"java/util/List", "add", "(Ljava/lang/Object;)Z"⟩
abbrev own_m32 : MethodName := ⟨"java/util/List", "get", "(I)Ljava/lang/Object;"⟩
abbrev own_m33 : MethodName := ⟨"java/lang/System", "arraycopy", "(Ljava/lang/Object;ILjava/lang/Object;II)V"⟩
abbrev oU : Slot := .unset
abbrev oS : Slot := .second
abbrev oD (x : UInt64) : Slot := .val (.double x)
abbrev oT : Slot := .val (.double 4472406533629990549)
set_option maxRecDepth 65536
set_option maxHeartbeats 40000000
def own_maxi (a b : Int32) : Int32 := if a < b then b else a
def own_mini (a b : Int32) : Int32 := if b < a then b else a
theorem own_sel {Z s : State} {a0 args : Array Value} {y : MethodName} {n : Nat} (hZ : Z.Warmed39 s.vm) (wi : (Jvm.Cond.instantiable y.cls n).before a0 Z = true) (hp : s.PrivateAt y) (hi : (Jvm.Cond.instanceMethod y).before args s = true) (hy : y.cls ≠ "java/lang/invoke/MethodHandle" ∧ y.cls ≠ "java/lang/invoke/VarHandle") : (Jvm.Cond.selects y.cls y y).before args s = true := by
  obtain ⟨c, k, h1, h2, h3, h4, -⟩ := Cond.instantiable_spec wi
  obtain ⟨k', h2', e⟩ := hZ.alike.2.2 _ _ h2
  have h5 := (Bool.or_eq_false_iff.mp h4).1
  exact selects_self_of_private (by rw [hZ.alike.findClass]; exact h1) h2' (by rw [e]; exact h5) hp hi hy
theorem d1_0 : decode jdk_29_method_69_code 0 = .ok (.iload_n 0, 1) := by decide +kernel
theorem d1_1 : decode jdk_29_method_69_code 1 = .ok (.iload_n 1, 1) := by decide +kernel
theorem d1_2 : decode jdk_29_method_69_code 2 = .ok (.if_icmp .gt 7, 3) := by decide +kernel
theorem d1_5 : decode jdk_29_method_69_code 5 = .ok (.iload_n 0, 1) := by decide +kernel
theorem d1_6 : decode jdk_29_method_69_code 6 = .ok (.goto 4, 3) := by decide +kernel
theorem d1_9 : decode jdk_29_method_69_code 9 = .ok (.iload_n 1, 1) := by decide +kernel
theorem d1_10 : decode jdk_29_method_69_code 10 = .ok (.ireturn, 1) := by decide +kernel
theorem ef_mini (m : MethodId) (p0 : Int32) (p1 : Int32) : entryFrame m #[(.int p0), (.int p1)] 2 = mkF m 0 #[iv p0, iv p1] [] := by first | (simp [entryFrame, mkF, argsToLocals, Value.category]; done) | rfl
def Qmini (Z : State) (p0 : Int32) (p1 : Int32) (h0 : Heap) (n0 : Nat) (v : Option Value) (h : Heap) (L : List Loc) : Prop := v = some (.int (own_mini p0 p1)) ∧ Fr n0 L ∧ h = h0
theorem rmmini (l : Launch) (Z : State) (av0 : Array Value) (hw : ∀ d ∈ tables_1, d.before av0 Z = true) (ws : List Jvm.Cond) (p0 : Int32) (p1 : Int32) (h0 : Heap) (n0 : Nat) (Z0 : n0 ≤ h0.size) :
    MetFree l own_m2 (head1 (Jvm.Cond.code own_m2 jdk_29_method_69_code 2 (some .int) :: ws) ({ frames := 0, cells := 0, slots := 0, locals := 0 } : Room)) (fun a U => a = #[(.int p0), (.int p1)] ∧ Z.Warmed39 U.vm ∧ U.heap = h0) (fun _ _ _ _ _ => True) (fun _ U o U' => ∃ v L, o = .returned v ∧ Qmini Z p0 p1 h0 n0 v U'.heap L ∧ FrameEnd U o U' L ({ frames := 0, cells := 0, slots := 0, locals := 0 } : Room).cells ({ frames := 0, cells := 0, slots := 0, locals := 0 } : Room).slots) := by
  refine MetFree.of_bodySF (Jvm.Free.JP.mathPlain rfl (by decide +kernel)) hisR ?_
  intro p e s m args below meth c s₁ Bd hml0 hP hK
  obtain ⟨rfl, hZ, hh⟩ := hP
  have hx := Bd.exec
  have hby := Bd.bytes
  have hml : c.maxLocals = 2 := hml0
  have hown : s.vm.findClass "java/lang/Math" = some m.cls := findClass_of_methodNamed Bd.named
  have X0 : Stand p l e ({ frames := 0, cells := 0, slots := 0, locals := 0 } : Room) s m #[(.int p0), (.int p1)] below meth c s₁ [] 0 0 := Stand.of_body Bd
  have e0 : s₁.heap = h0 := by rw [← hh, Bd.state]; rfl
  have N0 := Fr.nil n0
  have K0 : Keep h0 h0 [] := Keep.refl h0 []
  refine og (B := s₁.setTop (mkF m 0 #[iv p0, iv p1] [])) (fun t k => castTop (ef_mini m p0 p1) k) ?_
  refine og (B := s₁.setTop (mkF m 2 #[iv p0, iv p1] [(.int p1), (.int p0)])) (fun t k => ?_) ?_
  · refine XS.iloadN X0.here hx rfl (hb hby d1_0) rfl ?_
    refine XS.iloadN X0.here hx rfl (hb hby d1_1) rfl ?_
    exact k
  obtain ⟨zv1, hzv1⟩ : ∃ zq : Int32, zq = (if p1 < p0 then p1 else p0) := ⟨_, rfl⟩
  refine og (B := s₁.setTop (mkF m 10 #[iv p0, iv p1] [(.int zv1)])) (fun t k => ?_) ?_
  · show Steps p.tables e below (s₁.setTop (mkF m 2 #[iv p0, iv p1] [(.int p1), (.int p0)])) _
    by_cases hc2 : p1 < p0
    · refine XS.icmpYes X0.here hx rfl (pc0 := 2) (pc' := 9) rfl (hb hby d1_2) rfl (tlt hc2).2.2.1 (by decide) (by decide) ?_
      show Steps p.tables e below (s₁.setTop (mkF m 9 #[iv p0, iv p1] [])) _
      refine XS.iloadN X0.here hx rfl (hb hby d1_9) rfl ?_
      show Steps p.tables e below (s₁.setTop (mkF m 10 #[iv p0, iv p1] [(.int p1)])) _
      rw [show zv1 = p1 from by simp only [hzv1, if_pos hc2]] at k
      exact k
    · refine XS.icmpNo X0.here hx rfl (hb hby d1_2) rfl (flt hc2).2.2.1 ?_
      show Steps p.tables e below (s₁.setTop (mkF m 5 #[iv p0, iv p1] [])) _
      refine XS.iloadN X0.here hx rfl (hb hby d1_5) rfl ?_
      show Steps p.tables e below (s₁.setTop (mkF m 6 #[iv p0, iv p1] [(.int p0)])) _
      refine XS.goto X0.here hx rfl (pc0 := 6) (pc' := 10) rfl (hb hby d1_6) (by decide) (by decide) ?_
      show Steps p.tables e below (s₁.setTop (mkF m 10 #[iv p0, iv p1] [(.int p0)])) _
      rw [show zv1 = p0 from by simp only [hzv1, if_neg hc2]] at k
      exact k
  obtain ⟨fs, hr, hrun, hended, hW, hsame⟩ := X0.leave (v := some (.int zv1)) (fun h => by rw [Bd.returns] at h; cases h)
  refine ⟨_, _, ?_, hrun, hended, _, _, rfl, ?_, ⟨_, rfl⟩, hW, hsame.mono (by decide) (by decide)⟩
  · show Steps p.tables e below (s₁.setTop (mkF m 10 #[iv p0, iv p1] [(.int zv1)])) _
    exact retI X0 hx Bd.returns (hb hby d1_10) hr
  · show Qmini Z p0 p1 h0 n0 _ s₁.heap _
    rw [e0]
    exact ⟨by rw [hzv1]; rfl, N0, rfl⟩
theorem d2_0 : decode jdk_29_method_65_code 0 = .ok (.iload_n 0, 1) := by decide +kernel
theorem d2_1 : decode jdk_29_method_65_code 1 = .ok (.iload_n 1, 1) := by decide +kernel
theorem d2_2 : decode jdk_29_method_65_code 2 = .ok (.if_icmp .lt 7, 3) := by decide +kernel
theorem d2_5 : decode jdk_29_method_65_code 5 = .ok (.iload_n 0, 1) := by decide +kernel
theorem d2_6 : decode jdk_29_method_65_code 6 = .ok (.goto 4, 3) := by decide +kernel
theorem d2_9 : decode jdk_29_method_65_code 9 = .ok (.iload_n 1, 1) := by decide +kernel
theorem d2_10 : decode jdk_29_method_65_code 10 = .ok (.ireturn, 1) := by decide +kernel
theorem ef_maxi (m : MethodId) (p0 : Int32) (p1 : Int32) : entryFrame m #[(.int p0), (.int p1)] 2 = mkF m 0 #[iv p0, iv p1] [] := by first | (simp [entryFrame, mkF, argsToLocals, Value.category]; done) | rfl
def Qmaxi (Z : State) (p0 : Int32) (p1 : Int32) (h0 : Heap) (n0 : Nat) (v : Option Value) (h : Heap) (L : List Loc) : Prop := v = some (.int (own_maxi p0 p1)) ∧ Fr n0 L ∧ h = h0
theorem rmmaxi (l : Launch) (Z : State) (av0 : Array Value) (hw : ∀ d ∈ tables_1, d.before av0 Z = true) (ws : List Jvm.Cond) (p0 : Int32) (p1 : Int32) (h0 : Heap) (n0 : Nat) (Z0 : n0 ≤ h0.size) :
    MetFree l own_m3 (head1 (Jvm.Cond.code own_m3 jdk_29_method_65_code 2 (some .int) :: ws) ({ frames := 0, cells := 0, slots := 0, locals := 0 } : Room)) (fun a U => a = #[(.int p0), (.int p1)] ∧ Z.Warmed39 U.vm ∧ U.heap = h0) (fun _ _ _ _ _ => True) (fun _ U o U' => ∃ v L, o = .returned v ∧ Qmaxi Z p0 p1 h0 n0 v U'.heap L ∧ FrameEnd U o U' L ({ frames := 0, cells := 0, slots := 0, locals := 0 } : Room).cells ({ frames := 0, cells := 0, slots := 0, locals := 0 } : Room).slots) := by
  refine MetFree.of_bodySF (Jvm.Free.JP.mathPlain rfl (by decide +kernel)) hisR ?_
  intro p e s m args below meth c s₁ Bd hml0 hP hK
  obtain ⟨rfl, hZ, hh⟩ := hP
  have hx := Bd.exec
  have hby := Bd.bytes
  have hml : c.maxLocals = 2 := hml0
  have hown : s.vm.findClass "java/lang/Math" = some m.cls := findClass_of_methodNamed Bd.named
  have X0 : Stand p l e ({ frames := 0, cells := 0, slots := 0, locals := 0 } : Room) s m #[(.int p0), (.int p1)] below meth c s₁ [] 0 0 := Stand.of_body Bd
  have e0 : s₁.heap = h0 := by rw [← hh, Bd.state]; rfl
  have N0 := Fr.nil n0
  have K0 : Keep h0 h0 [] := Keep.refl h0 []
  refine og (B := s₁.setTop (mkF m 0 #[iv p0, iv p1] [])) (fun t k => castTop (ef_maxi m p0 p1) k) ?_
  refine og (B := s₁.setTop (mkF m 2 #[iv p0, iv p1] [(.int p1), (.int p0)])) (fun t k => ?_) ?_
  · refine XS.iloadN X0.here hx rfl (hb hby d2_0) rfl ?_
    refine XS.iloadN X0.here hx rfl (hb hby d2_1) rfl ?_
    exact k
  obtain ⟨zv1, hzv1⟩ : ∃ zq : Int32, zq = (if p0 < p1 then p1 else p0) := ⟨_, rfl⟩
  refine og (B := s₁.setTop (mkF m 10 #[iv p0, iv p1] [(.int zv1)])) (fun t k => ?_) ?_
  · show Steps p.tables e below (s₁.setTop (mkF m 2 #[iv p0, iv p1] [(.int p1), (.int p0)])) _
    by_cases hc2 : p0 < p1
    · refine XS.icmpYes X0.here hx rfl (pc0 := 2) (pc' := 9) rfl (hb hby d2_2) rfl (tlt hc2).1 (by decide) (by decide) ?_
      show Steps p.tables e below (s₁.setTop (mkF m 9 #[iv p0, iv p1] [])) _
      refine XS.iloadN X0.here hx rfl (hb hby d2_9) rfl ?_
      show Steps p.tables e below (s₁.setTop (mkF m 10 #[iv p0, iv p1] [(.int p1)])) _
      rw [show zv1 = p1 from by simp only [hzv1, if_pos hc2]] at k
      exact k
    · refine XS.icmpNo X0.here hx rfl (hb hby d2_2) rfl (flt hc2).1 ?_
      show Steps p.tables e below (s₁.setTop (mkF m 5 #[iv p0, iv p1] [])) _
      refine XS.iloadN X0.here hx rfl (hb hby d2_5) rfl ?_
      show Steps p.tables e below (s₁.setTop (mkF m 6 #[iv p0, iv p1] [(.int p0)])) _
      refine XS.goto X0.here hx rfl (pc0 := 6) (pc' := 10) rfl (hb hby d2_6) (by decide) (by decide) ?_
      show Steps p.tables e below (s₁.setTop (mkF m 10 #[iv p0, iv p1] [(.int p0)])) _
      rw [show zv1 = p0 from by simp only [hzv1, if_neg hc2]] at k
      exact k
  obtain ⟨fs, hr, hrun, hended, hW, hsame⟩ := X0.leave (v := some (.int zv1)) (fun h => by rw [Bd.returns] at h; cases h)
  refine ⟨_, _, ?_, hrun, hended, _, _, rfl, ?_, ⟨_, rfl⟩, hW, hsame.mono (by decide) (by decide)⟩
  · show Steps p.tables e below (s₁.setTop (mkF m 10 #[iv p0, iv p1] [(.int zv1)])) _
    exact retI X0 hx Bd.returns (hb hby d2_10) hr
  · show Qmaxi Z p0 p1 h0 n0 _ s₁.heap _
    rw [e0]
    exact ⟨by rw [hzv1]; rfl, N0, rfl⟩
theorem d7_0 : decode jdk_22_method_1_code 0 = .ok (.aload_n 0, 1) := by decide +kernel
theorem d7_1 : decode jdk_22_method_1_code 1 = .ok (.invokespecial 1, 3) := by decide +kernel
theorem d7_4 : decode jdk_22_method_1_code 4 = .ok (.return_, 1) := by decide +kernel
theorem pn_7 : plainName "java/util/AbstractCollection" = true := by first | (simp [plainName, overriddenIn]; done) | decide +kernel
theorem ef_aci (m : MethodId) (a0 : Addr) : entryFrame m #[(.ref a0)] 1 = mkF m 0 #[rv a0] [] := by first | (simp [entryFrame, mkF, argsToLocals, Value.category]; done) | rfl
def Qaci (Z : State) (a0 : Addr) (h0 : Heap) (n0 : Nat) (v : Option Value) (h : Heap) (L : List Loc) : Prop := v = none ∧ Fr n0 L ∧ h = h0
theorem rmaci (l : Launch) (Z : State) (av0 : Array Value) (hw : ∀ d ∈ tables_1, d.before av0 Z = true) (ws : List Jvm.Cond) (a0 : Addr) (h0 : Heap) (n0 : Nat) (Z0 : n0 ≤ h0.size) :
    MetFree l own_m8 (head1 (Jvm.Cond.code own_m8 jdk_22_method_1_code 1 none :: ws) ({ frames := 1, cells := 0, slots := 0, locals := 12 } : Room)) (fun a U => a = #[(.ref a0)] ∧ Z.Warmed39 U.vm ∧ U.heap = h0) (fun _ _ _ _ _ => True) (fun _ U o U' => ∃ v L, o = .returned v ∧ Qaci Z a0 h0 n0 v U'.heap L ∧ FrameEnd U o U' L ({ frames := 1, cells := 0, slots := 0, locals := 12 } : Room).cells ({ frames := 1, cells := 0, slots := 0, locals := 12 } : Room).slots) := by
  refine MetFree.of_bodySF (plainFor_of_name pn_7) hisR ?_
  intro p e s m args below meth c s₁ Bd hml0 hP hK
  obtain ⟨rfl, hZ, hh⟩ := hP
  have hx := Bd.exec
  have hby := Bd.bytes
  have hml : c.maxLocals = 1 := hml0
  have hown : s.vm.findClass "java/util/AbstractCollection" = some m.cls := findClass_of_methodNamed Bd.named
  have hnm := (name_of_methodNamed Bd.named Bd.method).1
  have X0 : Stand p l e ({ frames := 1, cells := 0, slots := 0, locals := 12 } : Room) s m #[(.ref a0)] below meth c s₁ [] 0 0 := Stand.of_body Bd
  have e0 : s₁.heap = h0 := by rw [← hh, Bd.state]; rfl
  have N0 := Fr.nil n0
  have K0 : Keep h0 h0 [] := Keep.refl h0 []
  refine og (B := s₁.setTop (mkF m 0 #[rv a0] [])) (fun t k => castTop (ef_aci m a0) k) ?_
  refine og (B := s₁.setTop (mkF m 1 #[rv a0] [(.ref a0)])) (fun t k => ?_) ?_
  · refine XS.aloadN X0.here hx rfl (hb hby d7_0) rfl rfl ?_
    exact k
  obtain ⟨T_1, X_1, e_1, st_1⟩ := initO X0 hx hZ hown (ow hw 35 rfl) (ow hw 15 rfl) (ow hw 16 rfl) e0 (g := (mkF m 1 #[rv a0] [(.ref a0)])) rfl (by rw [hml]; rfl) rfl (hb hby d7_1) (by decide) (W := 0) (by show 2 * 0 + _ ≤ _; exact Nat.le_of_eq rfl) (by decide)
  refine og (fun t k => st_1 t k) ?_
  obtain ⟨fs, hr, hrun, hended, hW, hsame⟩ := X_1.leave (v := none) (fun _ => rfl)
  refine ⟨_, _, ?_, hrun, hended, _, _, rfl, ?_, ⟨_, rfl⟩, hW, hsame.mono (by decide) (by decide)⟩
  · show Steps p.tables e below (T_1.setTop (mkF m 4 #[rv a0] [])) _
    exact X_1.returnOut hx Bd.returns (hb hby d7_4) hr
  · show Qaci Z a0 h0 n0 _ T_1.heap _
    rw [e_1]
    exact ⟨rfl, N0, rfl⟩
theorem d6_0 : decode jdk_39_method_1_code 0 = .ok (.aload_n 0, 1) := by decide +kernel
theorem d6_1 : decode jdk_39_method_1_code 1 = .ok (.invokespecial 1, 3) := by decide +kernel
theorem d6_4 : decode jdk_39_method_1_code 4 = .ok (.aload_n 0, 1) := by decide +kernel
theorem d6_5 : decode jdk_39_method_1_code 5 = .ok (.iconst 0, 1) := by decide +kernel
theorem d6_6 : decode jdk_39_method_1_code 6 = .ok (.putfield 7, 3) := by decide +kernel
theorem d6_9 : decode jdk_39_method_1_code 9 = .ok (.return_, 1) := by decide +kernel
theorem pn_6 : plainName "java/util/AbstractList" = true := by first | (simp [plainName, overriddenIn]; done) | decide +kernel
theorem ef_abi (m : MethodId) (a0 : Addr) : entryFrame m #[(.ref a0)] 1 = mkF m 0 #[rv a0] [] := by first | (simp [entryFrame, mkF, argsToLocals, Value.category]; done) | rfl
theorem pd_0 : parseMethodDescriptor "()V" = some ⟨[], none⟩ := by decide +kernel
def Qabi (Z : State) (a0 : Addr) (u0 : Value) (u1 : Value) (u2 : Value) (h0 : Heap) (n0 : Nat) (v : Option Value) (h : Heap) (L : List Loc) : Prop := v = none ∧ Fr n0 L ∧ Keep h0 h [a0] ∧ Fld Z h a0 "java/util/AbstractList" "modCount" "I" (.int (0 : Int32)) ∧ Fld Z h a0 "java/util/ArrayList" "elementData" "[Ljava/lang/Object;" u1 ∧ Fld Z h a0 "java/util/ArrayList" "size" "I" u2
theorem rmabi (l : Launch) (Z : State) (av0 : Array Value) (hw : ∀ d ∈ tables_1, d.before av0 Z = true) (ws : List Jvm.Cond) (a0 : Addr) (u0 : Value) (u1 : Value) (u2 : Value) (h0 : Heap) (n0 : Nat) (Z0 : n0 ≤ h0.size) (E_a0 : Exa Z h0 a0 "java/util/ArrayList") (F_modCount_a0 : Fld Z h0 a0 "java/util/AbstractList" "modCount" "I" u0) (F_elementData_a0 : Fld Z h0 a0 "java/util/ArrayList" "elementData" "[Ljava/lang/Object;" u1) (F_size_a0 : Fld Z h0 a0 "java/util/ArrayList" "size" "I" u2) (g_a0 : n0 ≤ a0) :
    MetFree l own_m7 (head1 (Jvm.Cond.code own_m7 jdk_39_method_1_code 1 none :: ws) ({ frames := 2, cells := 0, slots := 0, locals := 24 } : Room)) (fun a U => a = #[(.ref a0)] ∧ Z.Warmed39 U.vm ∧ U.heap = h0) (fun _ _ _ _ _ => True) (fun _ U o U' => ∃ v L, o = .returned v ∧ Qabi Z a0 u0 u1 u2 h0 n0 v U'.heap L ∧ FrameEnd U o U' L ({ frames := 2, cells := 0, slots := 0, locals := 24 } : Room).cells ({ frames := 2, cells := 0, slots := 0, locals := 24 } : Room).slots) := by
  refine MetFree.of_bodySF (plainFor_of_name pn_6) hisR ?_
  intro p e s m args below meth c s₁ Bd hml0 hP hK
  obtain ⟨rfl, hZ, hh⟩ := hP
  have hx := Bd.exec
  have hby := Bd.bytes
  have hml : c.maxLocals = 1 := hml0
  have hown : s.vm.findClass "java/util/AbstractList" = some m.cls := findClass_of_methodNamed Bd.named
  have hnm := (name_of_methodNamed Bd.named Bd.method).1
  have X0 : Stand p l e ({ frames := 2, cells := 0, slots := 0, locals := 24 } : Room) s m #[(.ref a0)] below meth c s₁ [] 0 0 := Stand.of_body Bd
  have e0 : s₁.heap = h0 := by rw [← hh, Bd.state]; rfl
  have N0 := Fr.nil n0
  have K0 : Keep h0 h0 [a0] := Keep.refl h0 [a0]
  refine og (B := s₁.setTop (mkF m 0 #[rv a0] [])) (fun t k => castTop (ef_abi m a0) k) ?_
  refine og (B := s₁.setTop (mkF m 1 #[rv a0] [(.ref a0)])) (fun t k => ?_) ?_
  · refine XS.aloadN X0.here hx rfl (hb hby d6_0) rfl rfl ?_
    exact k
  obtain ⟨_, _, ⟨T_1, L_1, k_1, n_1⟩, -, X_1, ⟨Lc_1, hQ_1, l_1, y_1, z_1⟩, st_1⟩ := X0.specialBack hx (y := own_m8) rfl hown (mvT hZ (ow hw 29 rfl)) (mvT hZ (ow hw 30 rfl)) (mvT hZ (ow hw 34 rfl)) (by decide) (backOf (W := 0) (rmaci l Z av0 hw [] a0  h0 n0 Z0 ) hZ (ow hw 34 rfl) (ow hw 33 rfl) (by decide) (by decide)) (g := (mkF m 1 #[rv a0] [(.ref a0)])) rfl (by rw [hml]; rfl) (Steps.refl _) (a := a0) (argsL := []) (rest := []) (lenOf pd_0 rfl) rfl (by show 2 * 0 + _ ≤ _; exact Nat.le_of_eq rfl) (hb hby d6_1) (fun _ _ => ⟨rfl, e0, (by decide : 0 + 0 ≤ _), (by decide : 0 + 0 ≤ _)⟩)
  dsimp only [Pt.U, Pt.locs, Pt.cells, Pt.slots] at X_1 l_1 y_1 z_1 st_1 hQ_1
  subst l_1 y_1 z_1
  obtain ⟨rfl, N_1q, e_1⟩ := hQ_1
  have N_1 := Fr.app N0 N_1q
  refine og (fun t k => st_1.trans k) ?_
  refine og (B := T_1.setTop (mkF m 6 #[rv a0] [(.int 0), (.ref a0)])) (fun t k => ?_) ?_
  · refine XS.aloadN X_1.here hx rfl (hb hby d6_4) rfl rfl ?_
    refine XS.iconst X_1.here hx rfl (hb hby d6_5) ?_
    exact k
  obtain ⟨T_2, h_2, X_2, e_2, W_2, st_2⟩ := putF X_1 hx hZ hown (host := "") (Or.inl (ow hw 36 rfl)) Via.refl e_1 F_modCount_a0 E_a0 (Or.inl (ow hw 37 rfl)) (ow hw 18 rfl) (ty := .int) (by decide) rfl rfl (g := (mkF m 6 #[rv a0] [(.int 0), (.ref a0)])) rfl rfl (hb hby d6_6)
  have c1 := K0.wr W_2 (Or.inl (List.mem_of_getElem? (i := 0) rfl))
  have c2 := E_a0.wr W_2
  have c3 := F_modCount_a0.same W_2
  have c4 := F_elementData_a0.other W_2 (Or.inr (slot_ne (Or.inl (ow hw 40 rfl)) (Or.inl (ow hw 37 rfl)) (by decide) (t := (.array (.object "java/lang/Object"))) (t' := .int) (by decide) (by decide)))
  have c5 := F_size_a0.other W_2 (Or.inr (slot_ne (Or.inl (ow hw 68 rfl)) (Or.inl (ow hw 37 rfl)) (by decide) (t := .int) (t' := .int) (by decide) (by decide)))
  have N_2 := Fr.snoc X_2 N_1 g_a0
  have Z0__2 : n0 ≤ h_2.size := by rw [W_2.size]; exact Z0
  refine og (fun t k => st_2 t k) ?_
  obtain ⟨fs, hr, hrun, hended, hW, hsame⟩ := X_2.leave (v := none) (fun _ => rfl)
  refine ⟨_, _, ?_, hrun, hended, _, _, rfl, ?_, ⟨_, rfl⟩, hW, hsame.mono (by decide) (by decide)⟩
  · show Steps p.tables e below (T_2.setTop (mkF m 9 #[rv a0] [])) _
    exact X_2.returnOut hx Bd.returns (hb hby d6_9) hr
  · show Qabi Z a0 u0 u1 u2 h0 n0 _ T_2.heap _
    rw [e_2]
    exact ⟨rfl, N_2, c1, c3, c4, c5⟩
theorem d5_0 : decode jdk_38_method_2_code 0 = .ok (.aload_n 0, 1) := by decide +kernel
theorem d5_1 : decode jdk_38_method_2_code 1 = .ok (.invokespecial 1, 3) := by decide +kernel
theorem d5_4 : decode jdk_38_method_2_code 4 = .ok (.aload_n 0, 1) := by decide +kernel
theorem d5_5 : decode jdk_38_method_2_code 5 = .ok (.getstatic 39, 3) := by decide +kernel
theorem d5_8 : decode jdk_38_method_2_code 8 = .ok (.putfield 9, 3) := by decide +kernel
theorem d5_11 : decode jdk_38_method_2_code 11 = .ok (.return_, 1) := by decide +kernel
theorem pn_5 : plainName "java/util/ArrayList" = true := by first | (simp [plainName, overriddenIn]; done) | decide +kernel
theorem ef_ali (m : MethodId) (a0 : Addr) : entryFrame m #[(.ref a0)] 1 = mkF m 0 #[rv a0] [] := by first | (simp [entryFrame, mkF, argsToLocals, Value.category]; done) | rfl
def Qali (Z : State) (a0 : Addr) (u0 : Value) (u1 : Value) (u2 : Value) (de : Addr) (h0 : Heap) (n0 : Nat) (v : Option Value) (h : Heap) (L : List Loc) : Prop := v = none ∧ Fr n0 L ∧ Keep h0 h [a0] ∧ Fld Z h a0 "java/util/AbstractList" "modCount" "I" (.int (0 : Int32)) ∧ Fld Z h a0 "java/util/ArrayList" "elementData" "[Ljava/lang/Object;" (.ref de) ∧ Fld Z h a0 "java/util/ArrayList" "size" "I" u2
theorem rmali (l : Launch) (Z : State) (av0 : Array Value) (hw : ∀ d ∈ tables_1, d.before av0 Z = true) (ws : List Jvm.Cond) (a0 : Addr) (u0 : Value) (u1 : Value) (u2 : Value) (de : Addr) (h0 : Heap) (n0 : Nat) (Z0 : n0 ≤ h0.size) (E_a0 : Exa Z h0 a0 "java/util/ArrayList") (F_modCount_a0 : Fld Z h0 a0 "java/util/AbstractList" "modCount" "I" u0) (F_elementData_a0 : Fld Z h0 a0 "java/util/ArrayList" "elementData" "[Ljava/lang/Object;" u1) (F_size_a0 : Fld Z h0 a0 "java/util/ArrayList" "size" "I" u2) (g_a0 : n0 ≤ a0) (S_DEFAULTCAPACITY_EMPTY_ELEMENTDATA : Sta Z h0 "java/util/ArrayList" "DEFAULTCAPACITY_EMPTY_ELEMENTDATA" "[Ljava/lang/Object;" (.ref de)) :
    MetFree l own_m6 (head1 (Jvm.Cond.code own_m6 jdk_38_method_2_code 1 none :: ws) ({ frames := 3, cells := 0, slots := 0, locals := 36 } : Room)) (fun a U => a = #[(.ref a0)] ∧ Z.Warmed39 U.vm ∧ U.heap = h0) (fun _ _ _ _ _ => True) (fun _ U o U' => ∃ v L, o = .returned v ∧ Qali Z a0 u0 u1 u2 de h0 n0 v U'.heap L ∧ FrameEnd U o U' L ({ frames := 3, cells := 0, slots := 0, locals := 36 } : Room).cells ({ frames := 3, cells := 0, slots := 0, locals := 36 } : Room).slots) := by
  refine MetFree.of_bodySF (plainFor_of_name pn_5) hisR ?_
  intro p e s m args below meth c s₁ Bd hml0 hP hK
  obtain ⟨rfl, hZ, hh⟩ := hP
  have hx := Bd.exec
  have hby := Bd.bytes
  have hml : c.maxLocals = 1 := hml0
  have hown : s.vm.findClass "java/util/ArrayList" = some m.cls := findClass_of_methodNamed Bd.named
  have hnm := (name_of_methodNamed Bd.named Bd.method).1
  have X0 : Stand p l e ({ frames := 3, cells := 0, slots := 0, locals := 36 } : Room) s m #[(.ref a0)] below meth c s₁ [] 0 0 := Stand.of_body Bd
  have e0 : s₁.heap = h0 := by rw [← hh, Bd.state]; rfl
  have N0 := Fr.nil n0
  have K0 : Keep h0 h0 [a0] := Keep.refl h0 [a0]
  refine og (B := s₁.setTop (mkF m 0 #[rv a0] [])) (fun t k => castTop (ef_ali m a0) k) ?_
  refine og (B := s₁.setTop (mkF m 1 #[rv a0] [(.ref a0)])) (fun t k => ?_) ?_
  · refine XS.aloadN X0.here hx rfl (hb hby d5_0) rfl rfl ?_
    exact k
  obtain ⟨_, _, ⟨T_1, L_1, k_1, n_1⟩, -, X_1, ⟨Lc_1, hQ_1, l_1, y_1, z_1⟩, st_1⟩ := X0.specialBack hx (y := own_m7) rfl hown (mvT hZ (ow hw 23 rfl)) (mvT hZ (ow hw 24 rfl)) (mvT hZ (ow hw 28 rfl)) (by decide) (backOf (W := 0) (rmabi l Z av0 hw [] a0 u0 u1 u2 h0 n0 Z0 E_a0 F_modCount_a0 F_elementData_a0 F_size_a0 g_a0) hZ (ow hw 28 rfl) (ow hw 27 rfl) (by decide) (by decide)) (g := (mkF m 1 #[rv a0] [(.ref a0)])) rfl (by rw [hml]; rfl) (Steps.refl _) (a := a0) (argsL := []) (rest := []) (lenOf pd_0 rfl) rfl (by show 2 * 0 + _ ≤ _; exact Nat.le_of_eq rfl) (hb hby d5_1) (fun _ _ => ⟨rfl, e0, (by decide : 0 + 0 ≤ _), (by decide : 0 + 0 ≤ _)⟩)
  dsimp only [Pt.U, Pt.locs, Pt.cells, Pt.slots] at X_1 l_1 y_1 z_1 st_1 hQ_1
  subst l_1 y_1 z_1
  obtain ⟨rfl, N_1q, K_1, Fm_1, Fe_1, Fs_1⟩ := hQ_1
  have N_1 := Fr.app N0 N_1q
  have c1 := K0.trans K_1 (allS (Or.inl (List.mem_of_getElem? (i := 0) rfl)) all0)
  have c2 := E_a0.keep K_1
  have c3 := own_stake S_DEFAULTCAPACITY_EMPTY_ELEMENTDATA K_1 E_a0
  have Z0__1 : n0 ≤ T_1.heap.size := Nat.le_trans Z0 K_1.1
  refine og (fun t k => st_1.trans k) ?_
  refine og (B := T_1.setTop (mkF m 5 #[rv a0] [(.ref a0)])) (fun t k => ?_) ?_
  · refine XS.aloadN X_1.here hx rfl (hb hby d5_4) rfl rfl ?_
    exact k
  obtain ⟨T_2, X_2, e_2, st_2⟩ := getS2 X_1 hx hZ hown (host := "") (Or.inl (ow hw 38 rfl)) Via.refl rfl c3 (g := (mkF m 5 #[rv a0] [(.ref a0)])) rfl (hb hby d5_5)
  refine og (fun t k => st_2 t k) ?_
  obtain ⟨T_3, h_3, X_3, e_3, W_3, st_3⟩ := putF X_2 hx hZ hown (host := "") (Or.inl (ow hw 39 rfl)) Via.refl e_2 Fe_1 c2 (Or.inl (ow hw 40 rfl)) (ow hw 18 rfl) (ty := (.array (.object "java/lang/Object"))) (by decide) rfl rfl (g := (mkF m 8 #[rv a0] [(.ref de), (.ref a0)])) rfl rfl (hb hby d5_8)
  have c4 := c1.wr W_3 (Or.inl (List.mem_of_getElem? (i := 0) rfl))
  have c5 := c2.wr W_3
  have c6 := c3.wr W_3
  have c7 := Fm_1.other W_3 (Or.inr (slot_ne (Or.inl (ow hw 37 rfl)) (Or.inl (ow hw 40 rfl)) (by decide) (t := .int) (t' := (.array (.object "java/lang/Object"))) (by decide) (by decide)))
  have c8 := Fe_1.same W_3
  have c9 := Fs_1.other W_3 (Or.inr (slot_ne (Or.inl (ow hw 68 rfl)) (Or.inl (ow hw 40 rfl)) (by decide) (t := .int) (t' := (.array (.object "java/lang/Object"))) (by decide) (by decide)))
  have N_3 := Fr.snoc X_3 N_1 g_a0
  have Z0__3 : n0 ≤ h_3.size := by rw [W_3.size]; exact Z0__1
  refine og (fun t k => st_3 t k) ?_
  obtain ⟨fs, hr, hrun, hended, hW, hsame⟩ := X_3.leave (v := none) (fun _ => rfl)
  refine ⟨_, _, ?_, hrun, hended, _, _, rfl, ?_, ⟨_, rfl⟩, hW, hsame.mono (by decide) (by decide)⟩
  · show Steps p.tables e below (T_3.setTop (mkF m 11 #[rv a0] [])) _
    exact X_3.returnOut hx Bd.returns (hb hby d5_11) hr
  · show Qali Z a0 u0 u1 u2 de h0 n0 _ T_3.heap _
    rw [e_3]
    exact ⟨rfl, N_3, c4, c7, c8, c9⟩
theorem d9_0 : decode jdk_38_method_8_code 0 = .ok (.aload_n 0, 1) := by decide +kernel
theorem d9_1 : decode jdk_38_method_8_code 1 = .ok (.getfield 48, 3) := by decide +kernel
theorem d9_4 : decode jdk_38_method_8_code 4 = .ok (.ireturn, 1) := by decide +kernel
theorem pn_9 : plainName "java/util/ArrayList" = true := by first | (simp [plainName, overriddenIn]; done) | decide +kernel
theorem ef_alz (m : MethodId) (a0 : Addr) : entryFrame m #[(.ref a0)] 1 = mkF m 0 #[rv a0] [] := by first | (simp [entryFrame, mkF, argsToLocals, Value.category]; done) | rfl
def Qalz (Z : State) (a0 : Addr) (z0 : Int32) (h0 : Heap) (n0 : Nat) (v : Option Value) (h : Heap) (L : List Loc) : Prop := v = some (.int z0) ∧ Fr n0 L ∧ h = h0
theorem rmalz (l : Launch) (Z : State) (av0 : Array Value) (hw : ∀ d ∈ tables_1, d.before av0 Z = true) (ws : List Jvm.Cond) (a0 : Addr) (z0 : Int32) (h0 : Heap) (n0 : Nat) (Z0 : n0 ≤ h0.size) (F_size_a0 : Fld Z h0 a0 "java/util/ArrayList" "size" "I" (.int z0)) :
    MetFree l own_m10 (head1 (Jvm.Cond.code own_m10 jdk_38_method_8_code 1 (some .int) :: ws) ({ frames := 0, cells := 0, slots := 0, locals := 0 } : Room)) (fun a U => a = #[(.ref a0)] ∧ Z.Warmed39 U.vm ∧ U.heap = h0) (fun _ _ _ _ _ => True) (fun _ U o U' => ∃ v L, o = .returned v ∧ Qalz Z a0 z0 h0 n0 v U'.heap L ∧ FrameEnd U o U' L ({ frames := 0, cells := 0, slots := 0, locals := 0 } : Room).cells ({ frames := 0, cells := 0, slots := 0, locals := 0 } : Room).slots) := by
  refine MetFree.of_bodySF (plainFor_of_name pn_9) hisR ?_
  intro p e s m args below meth c s₁ Bd hml0 hP hK
  obtain ⟨rfl, hZ, hh⟩ := hP
  have hx := Bd.exec
  have hby := Bd.bytes
  have hml : c.maxLocals = 1 := hml0
  have hown : s.vm.findClass "java/util/ArrayList" = some m.cls := findClass_of_methodNamed Bd.named
  have X0 : Stand p l e ({ frames := 0, cells := 0, slots := 0, locals := 0 } : Room) s m #[(.ref a0)] below meth c s₁ [] 0 0 := Stand.of_body Bd
  have e0 : s₁.heap = h0 := by rw [← hh, Bd.state]; rfl
  have N0 := Fr.nil n0
  have K0 : Keep h0 h0 [] := Keep.refl h0 []
  refine og (B := s₁.setTop (mkF m 0 #[rv a0] [])) (fun t k => castTop (ef_alz m a0) k) ?_
  refine og (B := s₁.setTop (mkF m 1 #[rv a0] [(.ref a0)])) (fun t k => ?_) ?_
  · refine XS.aloadN X0.here hx rfl (hb hby d9_0) rfl rfl ?_
    exact k
  obtain ⟨T_1, X_1, e_1, st_1⟩ := getF X0 hx hZ hown (host := "") (Or.inl (ow hw 67 rfl)) Via.refl e0 F_size_a0 (g := (mkF m 1 #[rv a0] [(.ref a0)])) rfl rfl (hb hby d9_1)
  refine og (fun t k => st_1 t k) ?_
  obtain ⟨fs, hr, hrun, hended, hW, hsame⟩ := X_1.leave (v := some (.int z0)) (fun h => by rw [Bd.returns] at h; cases h)
  refine ⟨_, _, ?_, hrun, hended, _, _, rfl, ?_, ⟨_, rfl⟩, hW, hsame.mono (by decide) (by decide)⟩
  · show Steps p.tables e below (T_1.setTop (mkF m 4 #[rv a0] [(.int z0)])) _
    exact retI X_1 hx Bd.returns (hb hby d9_4) hr
  · show Qalz Z a0 z0 h0 n0 _ T_1.heap _
    rw [e_1]
    exact ⟨rfl, N0, rfl⟩
theorem d13_0 : decode jdk_38_method_6_code 0 = .ok (.aload_n 0, 1) := by decide +kernel
theorem d13_1 : decode jdk_38_method_6_code 1 = .ok (.getfield 9, 3) := by decide +kernel
theorem d13_4 : decode jdk_38_method_6_code 4 = .ok (.arraylength, 1) := by decide +kernel
theorem d13_5 : decode jdk_38_method_6_code 5 = .ok (.istore_n 2, 1) := by decide +kernel
theorem d13_6 : decode jdk_38_method_6_code 6 = .ok (.iload_n 2, 1) := by decide +kernel
theorem d13_7 : decode jdk_38_method_6_code 7 = .ok (.ifCond .gt 13, 3) := by decide +kernel
theorem d13_10 : decode jdk_38_method_6_code 10 = .ok (.aload_n 0, 1) := by decide +kernel
theorem d13_11 : decode jdk_38_method_6_code 11 = .ok (.getfield 9, 3) := by decide +kernel
theorem d13_14 : decode jdk_38_method_6_code 14 = .ok (.getstatic 39, 3) := by decide +kernel
theorem d13_17 : decode jdk_38_method_6_code 17 = .ok (.if_acmp .eq 28, 3) := by decide +kernel
theorem d13_45 : decode jdk_38_method_6_code 45 = .ok (.aload_n 0, 1) := by decide +kernel
theorem d13_46 : decode jdk_38_method_6_code 46 = .ok (.bipush 10, 2) := by decide +kernel
theorem d13_48 : decode jdk_38_method_6_code 48 = .ok (.iload_n 1, 1) := by decide +kernel
theorem d13_49 : decode jdk_38_method_6_code 49 = .ok (.invokestatic 79, 3) := by decide +kernel
theorem d13_52 : decode jdk_38_method_6_code 52 = .ok (.anewarray 7, 3) := by decide +kernel
theorem d13_55 : decode jdk_38_method_6_code 55 = .ok (.dup_x1, 1) := by decide +kernel
theorem d13_56 : decode jdk_38_method_6_code 56 = .ok (.putfield 9, 3) := by decide +kernel
theorem d13_59 : decode jdk_38_method_6_code 59 = .ok (.areturn, 1) := by decide +kernel
theorem pn_13 : plainName "java/util/ArrayList" = true := by first | (simp [plainName, overriddenIn]; done) | decide +kernel
theorem ef_gr1 (m : MethodId) (a0 : Addr) : entryFrame m #[(.ref a0), (.int 1)] 4 = mkF m 0 #[rv a0, iv 1, oU, oU] [] := by first | (simp [entryFrame, mkF, argsToLocals, Value.category]; done) | rfl
theorem pd_1 : parseMethodDescriptor "(II)I" = some ⟨[.int, .int], some .int⟩ := by decide +kernel
def Qgr1 (Z : State) (a0 : Addr) (u0 : Value) (u2 : Value) (de : Addr) (kd : ClassId) (h0 : Heap) (n0 : Nat) (v : Option Value) (h : Heap) (L : List Loc) : Prop := ∃ (b : Addr) (kb : ClassId), v = some (.ref b) ∧ Fr n0 L ∧ Keep h0 h [a0] ∧ h0.size ≤ b ∧ Arv Z h b kb (.object "java/lang/Object") (10 : Int32) [.null, .null, .null, .null, .null] .null ∧ Ovr Z kb "java/lang/Object" ∧ Fld Z h a0 "java/util/AbstractList" "modCount" "I" u0 ∧ Fld Z h a0 "java/util/ArrayList" "elementData" "[Ljava/lang/Object;" (.ref b) ∧ Fld Z h a0 "java/util/ArrayList" "size" "I" u2
theorem rmgr1 (l : Launch) (Z : State) (av0 : Array Value) (hw : ∀ d ∈ tables_1, d.before av0 Z = true) (ws : List Jvm.Cond) (a0 : Addr) (u0 : Value) (u2 : Value) (de : Addr) (kd : ClassId) (h0 : Heap) (n0 : Nat) (Z0 : n0 ≤ h0.size) (E_a0 : Exa Z h0 a0 "java/util/ArrayList") (F_modCount_a0 : Fld Z h0 a0 "java/util/AbstractList" "modCount" "I" u0) (F_elementData_a0 : Fld Z h0 a0 "java/util/ArrayList" "elementData" "[Ljava/lang/Object;" (.ref de)) (F_size_a0 : Fld Z h0 a0 "java/util/ArrayList" "size" "I" u2) (g_a0 : n0 ≤ a0) (S_DEFAULTCAPACITY_EMPTY_ELEMENTDATA : Sta Z h0 "java/util/ArrayList" "DEFAULTCAPACITY_EMPTY_ELEMENTDATA" "[Ljava/lang/Object;" (.ref de)) (VD : Arv Z h0 de kd (.object "java/lang/Object") (0 : Int32) [] .null) :
    MetFree l own_m14 (head1 (Jvm.Cond.code own_m14 jdk_38_method_6_code 4 (some (.array (.object "java/lang/Object"))) :: ws) ({ frames := 1, cells := 1, slots := 10, locals := 14 } : Room)) (fun a U => a = #[(.ref a0), (.int 1)] ∧ Z.Warmed39 U.vm ∧ U.heap = h0) (fun _ _ _ _ _ => True) (fun _ U o U' => ∃ v L, o = .returned v ∧ Qgr1 Z a0 u0 u2 de kd h0 n0 v U'.heap L ∧ FrameEnd U o U' L ({ frames := 1, cells := 1, slots := 10, locals := 14 } : Room).cells ({ frames := 1, cells := 1, slots := 10, locals := 14 } : Room).slots) := by
  refine MetFree.of_bodySF (plainFor_of_name pn_13) hisR ?_
  intro p e s m args below meth c s₁ Bd hml0 hP hK
  obtain ⟨rfl, hZ, hh⟩ := hP
  have hx := Bd.exec
  have hby := Bd.bytes
  have hml : c.maxLocals = 4 := hml0
  have hown : s.vm.findClass "java/util/ArrayList" = some m.cls := findClass_of_methodNamed Bd.named
  have X0 : Stand p l e ({ frames := 1, cells := 1, slots := 10, locals := 14 } : Room) s m #[(.ref a0), (.int 1)] below meth c s₁ [] 0 0 := Stand.of_body Bd
  have e0 : s₁.heap = h0 := by rw [← hh, Bd.state]; rfl
  have N0 := Fr.nil n0
  have K0 : Keep h0 h0 [a0] := Keep.refl h0 [a0]
  refine og (B := s₁.setTop (mkF m 0 #[rv a0, iv 1, oU, oU] [])) (fun t k => castTop (ef_gr1 m a0) k) ?_
  refine og (B := s₁.setTop (mkF m 1 #[rv a0, iv 1, oU, oU] [(.ref a0)])) (fun t k => ?_) ?_
  · refine XS.aloadN X0.here hx rfl (hb hby d13_0) rfl rfl ?_
    exact k
  obtain ⟨T_1, X_1, e_1, st_1⟩ := getF X0 hx hZ hown (host := "") (Or.inl (ow hw 39 rfl)) Via.refl e0 F_elementData_a0 (g := (mkF m 1 #[rv a0, iv 1, oU, oU] [(.ref a0)])) rfl rfl (hb hby d13_1)
  refine og (fun t k => st_1 t k) ?_
  obtain ⟨cl_2, Ar_2, -, S_2, M_2, -, -⟩ := id VD
  refine og (B := T_1.setTop (mkF m 5 #[rv a0, iv 1, oU, oU] [(.int 0)])) (fun t k => X_1.arraylength hx (by rw [(e_1 : _ = _)]; exact Ar_2.1) (State.isArrayOf_alike hZ.alike Ar_2.2.1) (g := (mkF m 4 #[rv a0, iv 1, oU, oU] [(.ref de)])) rfl rfl (hb hby d13_4) t (by rw [len_of S_2 M_2]; exact k)) ?_
  refine og (B := T_1.setTop (mkF m 7 #[rv a0, iv 1, iv 0, oU] [(.int 0)])) (fun t k => ?_) ?_
  · refine XS.istoreN X_1.here hx rfl (hb hby d13_5) rfl (l' := #[rv a0, iv 1, iv 0, oU]) rfl ?_
    refine XS.iloadN X_1.here hx rfl (hb hby d13_6) rfl ?_
    exact k
  refine og (B := T_1.setTop (mkF m 10 #[rv a0, iv 1, iv 0, oU] [])) (fun t k => ?_) ?_
  · refine XS.ifNo X_1.here hx rfl (hb hby d13_7) rfl ((if0 _ _).trans (flt (by decide : ¬ ((0 : Int32) < (0 : Int32)))).2.2.1) ?_
    exact k
  refine og (B := T_1.setTop (mkF m 11 #[rv a0, iv 1, iv 0, oU] [(.ref a0)])) (fun t k => ?_) ?_
  · refine XS.aloadN X_1.here hx rfl (hb hby d13_10) rfl rfl ?_
    exact k
  obtain ⟨T_3, X_3, e_3, st_3⟩ := getF X_1 hx hZ hown (host := "") (Or.inl (ow hw 39 rfl)) Via.refl e_1 F_elementData_a0 (g := (mkF m 11 #[rv a0, iv 1, iv 0, oU] [(.ref a0)])) rfl rfl (hb hby d13_11)
  refine og (fun t k => st_3 t k) ?_
  obtain ⟨T_4, X_4, e_4, st_4⟩ := getS2 X_3 hx hZ hown (host := "") (Or.inl (ow hw 38 rfl)) Via.refl e_3 S_DEFAULTCAPACITY_EMPTY_ELEMENTDATA (g := (mkF m 14 #[rv a0, iv 1, iv 0, oU] [(.ref de)])) rfl (hb hby d13_14)
  refine og (fun t k => st_4 t k) ?_
  refine og (B := T_4.setTop (mkF m 45 #[rv a0, iv 1, iv 0, oU] [])) (fun t k => ?_) ?_
  · refine Jvm.RoadKit.acmp (g := (mkF m 17 #[rv a0, iv 1, iv 0, oU] [(.ref de), (.ref de)])) X_4 hx rfl rfl rfl (pc0 := 17) (pc' := 45) (same := true) rfl (hb hby d13_17) rfl (decide_eq_true rfl) (by decide) (by decide) ?_
    exact k
  refine og (B := T_4.setTop (mkF m 49 #[rv a0, iv 1, iv 0, oU] [(.int 1), (.int 10), (.ref a0)])) (fun t k => ?_) ?_
  · refine XS.aloadN X_4.here hx rfl (hb hby d13_45) rfl rfl ?_
    refine XS.bipush X_4.here hx rfl (hb hby d13_46) ?_
    refine XS.iloadN X_4.here hx rfl (hb hby d13_48) rfl ?_
    exact k
  obtain ⟨_, _, ⟨T_5, L_5, k_5, n_5⟩, -, X_5, ⟨Lc_5, hQ_5, l_5, y_5, z_5⟩, st_5⟩ := Jvm.LawKit.callS X_4 hx (y := own_m3) hown (mvT hZ (ow hw 94 rfl)) (mvT hZ (ow hw 5 rfl)) (mvT hZ (ow hw 2 rfl)) (mvT hZ (ow hw 6 rfl)) (by decide) (backOf (W := 1) (rmmaxi l Z av0 hw [] (10 : Int32) (1 : Int32)  h0 n0 Z0 ) hZ (ow hw 6 rfl) (ow hw 2 rfl) (by decide) (by decide)) (g := (mkF m 49 #[rv a0, iv 1, iv 0, oU] [(.int 1), (.int 10), (.ref a0)])) rfl (by rw [hml]; rfl) (argsL := [(.int 10), (.int 1)]) (rest := [(.ref a0)]) (lenOf pd_1 rfl) rfl (by show 2 * 0 + _ ≤ _; exact Nat.le_of_eq rfl) (hb hby d13_49) (fun _ _ => ⟨rfl, e_4, (by decide : 0 + 0 ≤ _), (by decide : 0 + 0 ≤ _)⟩)
  dsimp only [Pt.U, Pt.locs, Pt.cells, Pt.slots] at X_5 l_5 y_5 z_5 st_5 hQ_5
  subst l_5 y_5 z_5
  obtain ⟨hv_5, N_5q, e_5⟩ := hQ_5
  have N_5 := Fr.app N0 N_5q
  rw [show own_maxi (10 : Int32) (1 : Int32) = (10 : Int32) from by decide] at hv_5
  subst hv_5
  refine og (fun t k => st_5 t k) ?_
  obtain ⟨T_6, h_6, k_6, X_6, e_6, E_6, A_6, O_6, st_6⟩ := newR X_5 hx hZ hown (ow hw 95 rfl) (ow hw 96 rfl) e_5 (g := (mkF m 52 #[rv a0, iv 1, iv 0, oU] [(.int 10), (.ref a0)])) rfl (hb hby d13_52) rfl (by decide) (cap := 10) (by decide) (by decide) (by decide) (by decide)
  obtain ⟨b_6, g_6⟩ : ∃ z, z = h0.size := ⟨_, rfl⟩
  rw [← g_6] at A_6 st_6
  have g_b_6 : n0 ≤ b_6 := Nat.le_trans Z0 (Nat.le_of_eq g_6.symm)
  have sz_b_6 : h0.size ≤ b_6 := Nat.le_trans K0.1 (Nat.le_of_eq g_6.symm)
  have lt_a0_b_6 : a0 < b_6 := Nat.lt_of_lt_of_le (E_a0).lt (Nat.le_of_eq g_6.symm)
  have ne_a0_b_6 := Nat.ne_of_lt lt_a0_b_6
  have lt_de_b_6 : de < b_6 := Nat.lt_of_lt_of_le (VD).lt (Nat.le_of_eq g_6.symm)
  have ne_de_b_6 := Nat.ne_of_lt lt_de_b_6
  have c1 := K0.ext E_6
  have c2 := E_a0.ext E_6
  have c3 := F_modCount_a0.ext E_6
  have c4 := F_elementData_a0.ext E_6
  have c5 := F_size_a0.ext E_6
  have c6 := S_DEFAULTCAPACITY_EMPTY_ELEMENTDATA.ext E_6
  have c7 := VD.ext E_6
  have Z0__6 : n0 ≤ h_6.size := Nat.le_trans Z0 E_6.1
  have V_b_6 : Arv Z h_6 b_6 k_6 (.object "java/lang/Object") (10 : Int32) [.null, .null, .null, .null, .null] .null := (Arv.new A_6 (by decide)).pad (pad_rep [] .null 5)
  refine og (fun t k => st_6 t k) ?_
  refine og (B := T_6.setTop (mkF m 56 #[rv a0, iv 1, iv 0, oU] [(.ref b_6), (.ref a0), (.ref b_6)])) (fun t k => ?_) ?_
  · refine XS.dupX1 X_6.here hx rfl (hb hby d13_55) rfl rfl rfl ?_
    exact k
  obtain ⟨T_7, h_7, X_7, e_7, W_7, st_7⟩ := putF X_6 hx hZ hown (host := "") (Or.inl (ow hw 39 rfl)) Via.refl e_6 c4 c2 (Or.inl (ow hw 40 rfl)) (ow hw 18 rfl) (ty := (.array (.object "java/lang/Object"))) (by decide) rfl rfl (g := (mkF m 56 #[rv a0, iv 1, iv 0, oU] [(.ref b_6), (.ref a0), (.ref b_6)])) rfl rfl (hb hby d13_56)
  have c8 := c1.wr W_7 (Or.inl (List.mem_of_getElem? (i := 0) rfl))
  have c9 := c2.wr W_7
  have c10 := c3.other W_7 (Or.inr (slot_ne (Or.inl (ow hw 37 rfl)) (Or.inl (ow hw 40 rfl)) (by decide) (t := .int) (t' := (.array (.object "java/lang/Object"))) (by decide) (by decide)))
  have c11 := c4.same W_7
  have c12 := c5.other W_7 (Or.inr (slot_ne (Or.inl (ow hw 68 rfl)) (Or.inl (ow hw 40 rfl)) (by decide) (t := .int) (t' := (.array (.object "java/lang/Object"))) (by decide) (by decide)))
  have c13 := c6.wr W_7
  have c14 := V_b_6.other W_7 (Ne.symm ne_a0_b_6)
  have N_7 := Fr.snoc X_7 N_5 g_a0
  have Z0__7 : n0 ≤ h_7.size := by rw [W_7.size]; exact Z0__6
  refine og (fun t k => st_7 t k) ?_
  obtain ⟨fs, hr, hrun, hended, hW, hsame⟩ := X_7.leave (v := some (.ref b_6)) (fun h => by rw [Bd.returns] at h; cases h)
  refine ⟨_, _, ?_, hrun, hended, _, _, rfl, ?_, ⟨_, rfl⟩, hW, hsame.mono (by decide) (by decide)⟩
  · show Steps p.tables e below (T_7.setTop (mkF m 59 #[rv a0, iv 1, iv 0, oU] [(.ref b_6)])) _
    jvm_step X_7.here [X_7.here.top, hx, (hb hby d13_59), X_7.method', Bd.returns, Value.isRef, FieldType.isReference]
    first | (intro acts; rw [hr _ acts rfl rfl rfl]) | rw [hr _ _ rfl rfl rfl]
    exact Steps.refl _
  · show Qgr1 Z a0 u0 u2 de kd h0 n0 _ T_7.heap _
    rw [e_7]
    exact ⟨b_6, k_6, rfl, N_7, c8, sz_b_6, c14, O_6, c10, c11, c12⟩
theorem d12_0 : decode jdk_38_method_7_code 0 = .ok (.aload_n 0, 1) := by decide +kernel
theorem d12_1 : decode jdk_38_method_7_code 1 = .ok (.aload_n 0, 1) := by decide +kernel
theorem d12_2 : decode jdk_38_method_7_code 2 = .ok (.getfield 48, 3) := by decide +kernel
theorem d12_5 : decode jdk_38_method_7_code 5 = .ok (.iconst 1, 1) := by decide +kernel
theorem d12_6 : decode jdk_38_method_7_code 6 = .ok (.iadd, 1) := by decide +kernel
theorem d12_7 : decode jdk_38_method_7_code 7 = .ok (.invokevirtual 69, 3) := by decide +kernel
theorem d12_10 : decode jdk_38_method_7_code 10 = .ok (.areturn, 1) := by decide +kernel
theorem pn_12 : plainName "java/util/ArrayList" = true := by first | (simp [plainName, overriddenIn]; done) | decide +kernel
theorem ef_gr0 (m : MethodId) (a0 : Addr) : entryFrame m #[(.ref a0)] 1 = mkF m 0 #[rv a0] [] := by first | (simp [entryFrame, mkF, argsToLocals, Value.category]; done) | rfl
theorem pd_2 : parseMethodDescriptor "(I)[Ljava/lang/Object;" = some ⟨[.int], some (.array (.object "java/lang/Object"))⟩ := by decide +kernel
def Qgr0 (Z : State) (a0 : Addr) (u0 : Value) (de : Addr) (kd : ClassId) (h0 : Heap) (n0 : Nat) (v : Option Value) (h : Heap) (L : List Loc) : Prop := ∃ (b : Addr) (kb : ClassId), v = some (.ref b) ∧ Fr n0 L ∧ Keep h0 h [a0] ∧ h0.size ≤ b ∧ Arv Z h b kb (.object "java/lang/Object") (10 : Int32) [.null, .null, .null, .null, .null] .null ∧ Ovr Z kb "java/lang/Object" ∧ Fld Z h a0 "java/util/AbstractList" "modCount" "I" u0 ∧ Fld Z h a0 "java/util/ArrayList" "elementData" "[Ljava/lang/Object;" (.ref b) ∧ Fld Z h a0 "java/util/ArrayList" "size" "I" (.int 0)
theorem rmgr0 (l : Launch) (Z : State) (av0 : Array Value) (hw : ∀ d ∈ tables_1, d.before av0 Z = true) (ws : List Jvm.Cond) (a0 : Addr) (u0 : Value) (de : Addr) (kd : ClassId) (h0 : Heap) (n0 : Nat) (Z0 : n0 ≤ h0.size) (E_a0 : Exa Z h0 a0 "java/util/ArrayList") (F_modCount_a0 : Fld Z h0 a0 "java/util/AbstractList" "modCount" "I" u0) (F_elementData_a0 : Fld Z h0 a0 "java/util/ArrayList" "elementData" "[Ljava/lang/Object;" (.ref de)) (F_size_a0 : Fld Z h0 a0 "java/util/ArrayList" "size" "I" (.int 0)) (g_a0 : n0 ≤ a0) (S_DEFAULTCAPACITY_EMPTY_ELEMENTDATA : Sta Z h0 "java/util/ArrayList" "DEFAULTCAPACITY_EMPTY_ELEMENTDATA" "[Ljava/lang/Object;" (.ref de)) (VD : Arv Z h0 de kd (.object "java/lang/Object") (0 : Int32) [] .null) :
    MetFree l own_m13 (head1 (Jvm.Cond.code own_m13 jdk_38_method_7_code 1 (some (.array (.object "java/lang/Object"))) :: ws) ({ frames := 2, cells := 1, slots := 10, locals := 29 } : Room)) (fun a U => a = #[(.ref a0)] ∧ Z.Warmed39 U.vm ∧ U.heap = h0) (fun _ _ _ _ _ => True) (fun _ U o U' => ∃ v L, o = .returned v ∧ Qgr0 Z a0 u0 de kd h0 n0 v U'.heap L ∧ FrameEnd U o U' L ({ frames := 2, cells := 1, slots := 10, locals := 29 } : Room).cells ({ frames := 2, cells := 1, slots := 10, locals := 29 } : Room).slots) := by
  refine MetFree.of_bodySF (plainFor_of_name pn_12) hisR ?_
  intro p e s m args below meth c s₁ Bd hml0 hP hK
  obtain ⟨rfl, hZ, hh⟩ := hP
  have hx := Bd.exec
  have hby := Bd.bytes
  have hml : c.maxLocals = 1 := hml0
  have hown : s.vm.findClass "java/util/ArrayList" = some m.cls := findClass_of_methodNamed Bd.named
  have X0 : Stand p l e ({ frames := 2, cells := 1, slots := 10, locals := 29 } : Room) s m #[(.ref a0)] below meth c s₁ [] 0 0 := Stand.of_body Bd
  have e0 : s₁.heap = h0 := by rw [← hh, Bd.state]; rfl
  have N0 := Fr.nil n0
  have K0 : Keep h0 h0 [a0] := Keep.refl h0 [a0]
  refine og (B := s₁.setTop (mkF m 0 #[rv a0] [])) (fun t k => castTop (ef_gr0 m a0) k) ?_
  refine og (B := s₁.setTop (mkF m 2 #[rv a0] [(.ref a0), (.ref a0)])) (fun t k => ?_) ?_
  · refine XS.aloadN X0.here hx rfl (hb hby d12_0) rfl rfl ?_
    refine XS.aloadN X0.here hx rfl (hb hby d12_1) rfl rfl ?_
    exact k
  obtain ⟨T_1, X_1, e_1, st_1⟩ := getF X0 hx hZ hown (host := "") (Or.inl (ow hw 67 rfl)) Via.refl e0 F_size_a0 (g := (mkF m 2 #[rv a0] [(.ref a0), (.ref a0)])) rfl rfl (hb hby d12_2)
  refine og (fun t k => st_1 t k) ?_
  refine og (B := T_1.setTop (mkF m 7 #[rv a0] [(.int 1), (.ref a0)])) (fun t k => ?_) ?_
  · refine XS.iconst X_1.here hx rfl (hb hby d12_5) ?_
    refine XS.iadd X_1.here hx rfl (hb hby d12_6) rfl ?_
    exact k
  have lt_2 := (E_a0).lt
  have kk_2 := K0
  obtain ⟨cq_2, q_2a, q_2b⟩ := (E_a0).cell
  obtain ⟨_, _, ⟨T_2, L_2, k_2, n_2⟩, -, X_2, ⟨Lc_2, hQ_2, l_2, y_2, z_2⟩, st_2⟩ := X_1.privateBack hx (y := own_m14) hown (mvT hZ (ow hw 89 rfl)) (mvT hZ (ow hw 90 rfl)) (mvT hZ (ow hw 92 rfl)) (Cond.privateMethod_at (mvP hZ (ow hw 91 rfl) (args := #[]))) (mvT hZ (ow hw 93 rfl)) (by decide) (backOf (W := 0) (rmgr1 l Z av0 hw [] a0 u0 (.int 0) de kd h0 n0 Z0 E_a0 F_modCount_a0 F_elementData_a0 F_size_a0 g_a0 S_DEFAULTCAPACITY_EMPTY_ELEMENTDATA VD) hZ (ow hw 93 rfl) (ow hw 19 rfl) (by decide) (by decide)) (g := (mkF m 7 #[rv a0] [(.int 1), (.ref a0)])) rfl (by rw [hml]; rfl) (Steps.refl _) (a := a0) (by rw [(e_1 : _ = _)]; exact q_2a) q_2b (argsL := [(.int 1)]) (rest := []) (lenOf pd_2 rfl) rfl (by show 2 * 0 + _ ≤ _; exact Nat.le_of_eq rfl) (hb hby d12_7) (fun _ _ => ⟨rfl, e_1, (by decide : 0 + 1 ≤ _), (by decide : 0 + 10 ≤ _)⟩)
  dsimp only [Pt.U, Pt.locs, Pt.cells, Pt.slots] at X_2 l_2 y_2 z_2 st_2 hQ_2
  subst l_2 y_2 z_2
  obtain ⟨b_2, ke_2, rfl, N_2q, K_2, szq_2, VE_2, OE_2, Fm_2, Fe_2, Fs_2⟩ := hQ_2
  have N_2 := Fr.app N0 N_2q
  have c1 := K0.trans K_2 (allS (Or.inl (List.mem_of_getElem? (i := 0) rfl)) all0)
  have c2 := E_a0.keep K_2
  have c3 := own_stake S_DEFAULTCAPACITY_EMPTY_ELEMENTDATA K_2 E_a0
  have Z0__2 : n0 ≤ T_2.heap.size := Nat.le_trans Z0 K_2.1
  have sz_b_2 : h0.size ≤ b_2 := Nat.le_trans kk_2.1 szq_2
  refine og (fun t k => st_2.trans k) ?_
  obtain ⟨fs, hr, hrun, hended, hW, hsame⟩ := X_2.leave (v := some (.ref b_2)) (fun h => by rw [Bd.returns] at h; cases h)
  refine ⟨_, _, ?_, hrun, hended, _, _, rfl, ?_, ⟨_, rfl⟩, hW, hsame.mono (by decide) (by decide)⟩
  · show Steps p.tables e below (T_2.setTop (mkF m 10 #[rv a0] [(.ref b_2)])) _
    jvm_step X_2.here [X_2.here.top, hx, (hb hby d12_10), X_2.method', Bd.returns, Value.isRef, FieldType.isReference]
    first | (intro acts; rw [hr _ acts rfl rfl rfl]) | rw [hr _ _ rfl rfl rfl]
    exact Steps.refl _
  · show Qgr0 Z a0 u0 de kd h0 n0 _ T_2.heap _
    exact ⟨b_2, ke_2, rfl, N_2, c1, sz_b_2, VE_2, OE_2, Fm_2, Fe_2, Fs_2⟩
theorem d11_0 : decode jdk_38_method_24_code 0 = .ok (.iload_n 3, 1) := by decide +kernel
theorem d11_1 : decode jdk_38_method_24_code 1 = .ok (.aload_n 2, 1) := by decide +kernel
theorem d11_2 : decode jdk_38_method_24_code 2 = .ok (.arraylength, 1) := by decide +kernel
theorem d11_3 : decode jdk_38_method_24_code 3 = .ok (.if_icmp .ne 8, 3) := by decide +kernel
theorem d11_6 : decode jdk_38_method_24_code 6 = .ok (.aload_n 0, 1) := by decide +kernel
theorem d11_7 : decode jdk_38_method_24_code 7 = .ok (.invokevirtual 129, 3) := by decide +kernel
theorem d11_10 : decode jdk_38_method_24_code 10 = .ok (.astore_n 2, 1) := by decide +kernel
theorem d11_11 : decode jdk_38_method_24_code 11 = .ok (.aload_n 2, 1) := by decide +kernel
theorem d11_12 : decode jdk_38_method_24_code 12 = .ok (.iload_n 3, 1) := by decide +kernel
theorem d11_13 : decode jdk_38_method_24_code 13 = .ok (.aload_n 1, 1) := by decide +kernel
theorem d11_14 : decode jdk_38_method_24_code 14 = .ok (.aastore, 1) := by decide +kernel
theorem d11_15 : decode jdk_38_method_24_code 15 = .ok (.aload_n 0, 1) := by decide +kernel
theorem d11_16 : decode jdk_38_method_24_code 16 = .ok (.iload_n 3, 1) := by decide +kernel
theorem d11_17 : decode jdk_38_method_24_code 17 = .ok (.iconst 1, 1) := by decide +kernel
theorem d11_18 : decode jdk_38_method_24_code 18 = .ok (.iadd, 1) := by decide +kernel
theorem d11_19 : decode jdk_38_method_24_code 19 = .ok (.putfield 48, 3) := by decide +kernel
theorem d11_22 : decode jdk_38_method_24_code 22 = .ok (.return_, 1) := by decide +kernel
theorem pn_11 : plainName "java/util/ArrayList" = true := by first | (simp [plainName, overriddenIn]; done) | decide +kernel
theorem ef_ad0 (m : MethodId) (a0 : Addr) (a1 : Addr) (de : Addr) : entryFrame m #[(.ref a0), (.ref a1), (.ref de), (.int 0)] 4 = mkF m 0 #[rv a0, rv a1, rv de, iv 0] [] := by first | (simp [entryFrame, mkF, argsToLocals, Value.category]; done) | rfl
theorem pd_3 : parseMethodDescriptor "()[Ljava/lang/Object;" = some ⟨[], some (.array (.object "java/lang/Object"))⟩ := by decide +kernel
def Qad0 (Z : State) (a0 : Addr) (a1 : Addr) (de : Addr) (u0 : Value) (kd : ClassId) (h0 : Heap) (n0 : Nat) (v : Option Value) (h : Heap) (L : List Loc) : Prop := ∃ (b : Addr) (kb : ClassId), v = none ∧ Fr n0 L ∧ Keep h0 h [a0] ∧ h0.size ≤ b ∧ Arv Z h b kb (.object "java/lang/Object") (10 : Int32) [(.ref a1), .null, .null, .null, .null] .null ∧ Ovr Z kb "java/lang/Object" ∧ Fld Z h a0 "java/util/AbstractList" "modCount" "I" u0 ∧ Fld Z h a0 "java/util/ArrayList" "elementData" "[Ljava/lang/Object;" (.ref b) ∧ Fld Z h a0 "java/util/ArrayList" "size" "I" (.int 1)
theorem rmad0 (l : Launch) (Z : State) (av0 : Array Value) (hw : ∀ d ∈ tables_1, d.before av0 Z = true) (ws : List Jvm.Cond) (a0 : Addr) (a1 : Addr) (de : Addr) (u0 : Value) (kd : ClassId) (h0 : Heap) (n0 : Nat) (Z0 : n0 ≤ h0.size) (E_a0 : Exa Z h0 a0 "java/util/ArrayList") (F_modCount_a0 : Fld Z h0 a0 "java/util/AbstractList" "modCount" "I" u0) (F_elementData_a0 : Fld Z h0 a0 "java/util/ArrayList" "elementData" "[Ljava/lang/Object;" (.ref de)) (F_size_a0 : Fld Z h0 a0 "java/util/ArrayList" "size" "I" (.int 0)) (g_a0 : n0 ≤ a0) (E_a1 : Exa Z h0 a1 "[D") (S_DEFAULTCAPACITY_EMPTY_ELEMENTDATA : Sta Z h0 "java/util/ArrayList" "DEFAULTCAPACITY_EMPTY_ELEMENTDATA" "[Ljava/lang/Object;" (.ref de)) (VD : Arv Z h0 de kd (.object "java/lang/Object") (0 : Int32) [] .null) :
    MetFree l own_m12 (head1 (Jvm.Cond.code own_m12 jdk_38_method_24_code 4 none :: ws) ({ frames := 3, cells := 1, slots := 10, locals := 41 } : Room)) (fun a U => a = #[(.ref a0), (.ref a1), (.ref de), (.int 0)] ∧ Z.Warmed39 U.vm ∧ U.heap = h0) (fun _ _ _ _ _ => True) (fun _ U o U' => ∃ v L, o = .returned v ∧ Qad0 Z a0 a1 de u0 kd h0 n0 v U'.heap L ∧ FrameEnd U o U' L ({ frames := 3, cells := 1, slots := 10, locals := 41 } : Room).cells ({ frames := 3, cells := 1, slots := 10, locals := 41 } : Room).slots) := by
  refine MetFree.of_bodySF (plainFor_of_name pn_11) hisR ?_
  intro p e s m args below meth c s₁ Bd hml0 hP hK
  obtain ⟨rfl, hZ, hh⟩ := hP
  have hx := Bd.exec
  have hby := Bd.bytes
  have hml : c.maxLocals = 4 := hml0
  have hown : s.vm.findClass "java/util/ArrayList" = some m.cls := findClass_of_methodNamed Bd.named
  have X0 : Stand p l e ({ frames := 3, cells := 1, slots := 10, locals := 41 } : Room) s m #[(.ref a0), (.ref a1), (.ref de), (.int 0)] below meth c s₁ [] 0 0 := Stand.of_body Bd
  have e0 : s₁.heap = h0 := by rw [← hh, Bd.state]; rfl
  have N0 := Fr.nil n0
  have K0 : Keep h0 h0 [a0] := Keep.refl h0 [a0]
  refine og (B := s₁.setTop (mkF m 0 #[rv a0, rv a1, rv de, iv 0] [])) (fun t k => castTop (ef_ad0 m a0 a1 de) k) ?_
  refine og (B := s₁.setTop (mkF m 2 #[rv a0, rv a1, rv de, iv 0] [(.ref de), (.int 0)])) (fun t k => ?_) ?_
  · refine XS.iloadN X0.here hx rfl (hb hby d11_0) rfl ?_
    refine XS.aloadN X0.here hx rfl (hb hby d11_1) rfl rfl ?_
    exact k
  obtain ⟨cl_1, Ar_1, -, S_1, M_1, -, -⟩ := id VD
  refine og (B := s₁.setTop (mkF m 3 #[rv a0, rv a1, rv de, iv 0] [(.int 0), (.int 0)])) (fun t k => X0.arraylength hx (by rw [(e0 : _ = _)]; exact Ar_1.1) (State.isArrayOf_alike hZ.alike Ar_1.2.1) (g := (mkF m 2 #[rv a0, rv a1, rv de, iv 0] [(.ref de), (.int 0)])) rfl rfl (hb hby d11_2) t (by rw [len_of S_1 M_1]; exact k)) ?_
  refine og (B := s₁.setTop (mkF m 6 #[rv a0, rv a1, rv de, iv 0] [])) (fun t k => ?_) ?_
  · refine XS.icmpNo X0.here hx rfl (hb hby d11_3) rfl (teq (by decide : (0 : Int32) = (0 : Int32))).2 ?_
    exact k
  refine og (B := s₁.setTop (mkF m 7 #[rv a0, rv a1, rv de, iv 0] [(.ref a0)])) (fun t k => ?_) ?_
  · refine XS.aloadN X0.here hx rfl (hb hby d11_6) rfl rfl ?_
    exact k
  have lt_2 := (E_a0).lt
  have lu_2 := (E_a1).lt
  have kk_2 := K0
  obtain ⟨cq_2, q_2a, q_2b⟩ := (E_a0).cell
  obtain ⟨_, _, ⟨T_2, L_2, k_2, n_2⟩, -, X_2, ⟨Lc_2, hQ_2, l_2, y_2, z_2⟩, st_2⟩ := X0.privateBack hx (y := own_m13) hown (mvT hZ (ow hw 84 rfl)) (mvT hZ (ow hw 85 rfl)) (mvT hZ (ow hw 87 rfl)) (Cond.privateMethod_at (mvP hZ (ow hw 86 rfl) (args := #[]))) (mvT hZ (ow hw 88 rfl)) (by decide) (backOf (W := 0) (rmgr0 l Z av0 hw [] a0 u0 de kd h0 n0 Z0 E_a0 F_modCount_a0 F_elementData_a0 F_size_a0 g_a0 S_DEFAULTCAPACITY_EMPTY_ELEMENTDATA VD) hZ (ow hw 88 rfl) (ow hw 19 rfl) (by decide) (by decide)) (g := (mkF m 7 #[rv a0, rv a1, rv de, iv 0] [(.ref a0)])) rfl (by rw [hml]; rfl) (Steps.refl _) (a := a0) (by rw [(e0 : _ = _)]; exact q_2a) q_2b (argsL := []) (rest := []) (lenOf pd_3 rfl) rfl (by show 2 * 0 + _ ≤ _; exact Nat.le_of_eq rfl) (hb hby d11_7) (fun _ _ => ⟨rfl, e0, (by decide : 0 + 1 ≤ _), (by decide : 0 + 10 ≤ _)⟩)
  dsimp only [Pt.U, Pt.locs, Pt.cells, Pt.slots] at X_2 l_2 y_2 z_2 st_2 hQ_2
  subst l_2 y_2 z_2
  obtain ⟨b_2, ke_2, rfl, N_2q, K_2, szq_2, VE_2, OE_2, Fm_2, Fe_2, Fs_2⟩ := hQ_2
  have N_2 := Fr.app N0 N_2q
  have c1 := K0.trans K_2 (allS (Or.inl (List.mem_of_getElem? (i := 0) rfl)) all0)
  have c2 := E_a0.keep K_2
  have c3 := E_a1.keep K_2
  have c4 := own_stake S_DEFAULTCAPACITY_EMPTY_ELEMENTDATA K_2 E_a0
  have Z0__2 : n0 ≤ T_2.heap.size := Nat.le_trans Z0 K_2.1
  have sz_b_2 : h0.size ≤ b_2 := Nat.le_trans kk_2.1 szq_2
  have g_b_2 : n0 ≤ b_2 := Nat.le_trans Z0 sz_b_2
  have nq_2 : a0 ≠ b_2 := Nat.ne_of_lt (Nat.lt_of_lt_of_le lt_2 szq_2)
  have nr_2 : a1 ≠ b_2 := Nat.ne_of_lt (Nat.lt_of_lt_of_le lu_2 szq_2)
  refine og (fun t k => st_2.trans k) ?_
  refine og (B := T_2.setTop (mkF m 14 #[rv a0, rv a1, rv b_2, iv 0] [(.ref a1), (.int 0), (.ref b_2)])) (fun t k => ?_) ?_
  · refine XS.astoreN X_2.here hx rfl (hb hby d11_10) rfl rfl (l' := #[rv a0, rv a1, rv b_2, iv 0]) rfl ?_
    refine XS.aloadN X_2.here hx rfl (hb hby d11_11) rfl rfl ?_
    refine XS.iloadN X_2.here hx rfl (hb hby d11_12) rfl ?_
    refine XS.aloadN X_2.here hx rfl (hb hby d11_13) rfl rfl ?_
    exact k
  obtain ⟨cl_3, Ar_3, q_3, S_3, M_3, H_3, G_3⟩ := id VE_2
  have hin_3 : ¬ ((0 : Int32) < 0 ∨ cl_3.slots.size ≤ ((0 : Int32)).toNatClampNeg) := inb_of S_3 ⟨by decide, by decide⟩
  obtain ⟨T_3, h_3, X_3, e_3, W_3, st_3⟩ := stR X_2 hx hZ rfl Ar_3 (j := (0 : Int32)) hin_3 rfl (Sto.ofV Ar_3 q_3 OE_2 (Ins.of_exa c3 (ow hw 97 rfl))) (g := (mkF m 14 #[rv a0, rv a1, rv b_2, iv 0] [(.ref a1), (.int 0), (.ref b_2)])) rfl rfl (hb hby d11_14)
  have c5 := c1.wr W_3 (Or.inr sz_b_2)
  have c6 := c2.wr W_3
  have c7 := c3.wr W_3
  have c8 := c4.wr W_3
  have c9 := Fm_2.other W_3 (Or.inl nq_2)
  have c10 := Fe_2.other W_3 (Or.inl nq_2)
  have c11 := Fs_2.other W_3 (Or.inl nq_2)
  have V_3 : Arv Z h_3 b_2 ke_2 (.object "java/lang/Object") (10 : Int32) [(.ref a1), .null, .null, .null, .null] .null := Arv.set Ar_3 q_3 S_3 M_3 H_3 G_3 rfl W_3 0 rfl (Nat.le_of_ble_eq_true rfl)
  have N_3 := Fr.snoc X_3 N_2 g_b_2
  have Z0__3 : n0 ≤ h_3.size := by rw [W_3.size]; exact Z0__2
  refine og (fun t k => st_3 t k) ?_
  refine og (B := T_3.setTop (mkF m 19 #[rv a0, rv a1, rv b_2, iv 0] [(.int 1), (.ref a0)])) (fun t k => ?_) ?_
  · refine XS.aloadN X_3.here hx rfl (hb hby d11_15) rfl rfl ?_
    refine XS.iloadN X_3.here hx rfl (hb hby d11_16) rfl ?_
    refine XS.iconst X_3.here hx rfl (hb hby d11_17) ?_
    refine XS.iadd X_3.here hx rfl (hb hby d11_18) rfl ?_
    exact k
  obtain ⟨T_4, h_4, X_4, e_4, W_4, st_4⟩ := putF X_3 hx hZ hown (host := "") (Or.inl (ow hw 67 rfl)) Via.refl e_3 c11 c6 (Or.inl (ow hw 68 rfl)) (ow hw 18 rfl) (ty := .int) (by decide) rfl rfl (g := (mkF m 19 #[rv a0, rv a1, rv b_2, iv 0] [(.int 1), (.ref a0)])) rfl rfl (hb hby d11_19)
  have c12 := c5.wr W_4 (Or.inl (List.mem_of_getElem? (i := 0) rfl))
  have c13 := c6.wr W_4
  have c14 := c7.wr W_4
  have c15 := c8.wr W_4
  have c16 := V_3.other W_4 (Ne.symm nq_2)
  have c17 := c9.other W_4 (Or.inr (slot_ne (Or.inl (ow hw 37 rfl)) (Or.inl (ow hw 68 rfl)) (by decide) (t := .int) (t' := .int) (by decide) (by decide)))
  have c18 := c10.other W_4 (Or.inr (slot_ne (Or.inl (ow hw 40 rfl)) (Or.inl (ow hw 68 rfl)) (by decide) (t := (.array (.object "java/lang/Object"))) (t' := .int) (by decide) (by decide)))
  have c19 := c11.same W_4
  have N_4 := Fr.snoc X_4 N_3 g_a0
  have Z0__4 : n0 ≤ h_4.size := by rw [W_4.size]; exact Z0__3
  refine og (fun t k => st_4 t k) ?_
  obtain ⟨fs, hr, hrun, hended, hW, hsame⟩ := X_4.leave (v := none) (fun _ => rfl)
  refine ⟨_, _, ?_, hrun, hended, _, _, rfl, ?_, ⟨_, rfl⟩, hW, hsame.mono (by decide) (by decide)⟩
  · show Steps p.tables e below (T_4.setTop (mkF m 22 #[rv a0, rv a1, rv b_2, iv 0] [])) _
    exact X_4.returnOut hx Bd.returns (hb hby d11_22) hr
  · show Qad0 Z a0 a1 de u0 kd h0 n0 _ T_4.heap _
    rw [e_4]
    exact ⟨b_2, ke_2, rfl, N_4, c12, sz_b_2, c16, OE_2, c17, c18, c19⟩
theorem ef_ad1 (m : MethodId) (a0 : Addr) (a1 : Addr) (a2 : Addr) : entryFrame m #[(.ref a0), (.ref a1), (.ref a2), (.int 1)] 4 = mkF m 0 #[rv a0, rv a1, rv a2, iv 1] [] := by first | (simp [entryFrame, mkF, argsToLocals, Value.category]; done) | rfl
def Qad1 (Z : State) (a0 : Addr) (a1 : Addr) (a2 : Addr) (u0 : Value) (ke : ClassId) (ca0 : Addr) (h0 : Heap) (n0 : Nat) (v : Option Value) (h : Heap) (L : List Loc) : Prop := v = none ∧ Fr n0 L ∧ Keep h0 h [a0, a2] ∧ Arv Z h a2 ke (.object "java/lang/Object") (10 : Int32) [(.ref ca0), (.ref a1), .null, .null, .null] .null ∧ Fld Z h a0 "java/util/AbstractList" "modCount" "I" u0 ∧ Fld Z h a0 "java/util/ArrayList" "elementData" "[Ljava/lang/Object;" (.ref a2) ∧ Fld Z h a0 "java/util/ArrayList" "size" "I" (.int (2 : Int32))
theorem rmad1 (l : Launch) (Z : State) (av0 : Array Value) (hw : ∀ d ∈ tables_1, d.before av0 Z = true) (ws : List Jvm.Cond) (a0 : Addr) (a1 : Addr) (a2 : Addr) (u0 : Value) (ke : ClassId) (ca0 : Addr) (h0 : Heap) (n0 : Nat) (Z0 : n0 ≤ h0.size) (E_a0 : Exa Z h0 a0 "java/util/ArrayList") (F_modCount_a0 : Fld Z h0 a0 "java/util/AbstractList" "modCount" "I" u0) (F_elementData_a0 : Fld Z h0 a0 "java/util/ArrayList" "elementData" "[Ljava/lang/Object;" (.ref a2)) (F_size_a0 : Fld Z h0 a0 "java/util/ArrayList" "size" "I" (.int 1)) (g_a0 : n0 ≤ a0) (g_a2 : n0 ≤ a2) (E_a1 : Exa Z h0 a1 "[D") (VE : Arv Z h0 a2 ke (.object "java/lang/Object") (10 : Int32) [(.ref ca0), .null, .null, .null, .null] .null) (OE : Ovr Z ke "java/lang/Object") (ne02 : a0 ≠ a2) :
    MetFree l own_m12 (head1 (Jvm.Cond.code own_m12 jdk_38_method_24_code 4 none :: ws) ({ frames := 0, cells := 0, slots := 0, locals := 0 } : Room)) (fun a U => a = #[(.ref a0), (.ref a1), (.ref a2), (.int 1)] ∧ Z.Warmed39 U.vm ∧ U.heap = h0) (fun _ _ _ _ _ => True) (fun _ U o U' => ∃ v L, o = .returned v ∧ Qad1 Z a0 a1 a2 u0 ke ca0 h0 n0 v U'.heap L ∧ FrameEnd U o U' L ({ frames := 0, cells := 0, slots := 0, locals := 0 } : Room).cells ({ frames := 0, cells := 0, slots := 0, locals := 0 } : Room).slots) := by
  refine MetFree.of_bodySF (plainFor_of_name pn_11) hisR ?_
  intro p e s m args below meth c s₁ Bd hml0 hP hK
  obtain ⟨rfl, hZ, hh⟩ := hP
  have hx := Bd.exec
  have hby := Bd.bytes
  have hml : c.maxLocals = 4 := hml0
  have hown : s.vm.findClass "java/util/ArrayList" = some m.cls := findClass_of_methodNamed Bd.named
  have X0 : Stand p l e ({ frames := 0, cells := 0, slots := 0, locals := 0 } : Room) s m #[(.ref a0), (.ref a1), (.ref a2), (.int 1)] below meth c s₁ [] 0 0 := Stand.of_body Bd
  have e0 : s₁.heap = h0 := by rw [← hh, Bd.state]; rfl
  have N0 := Fr.nil n0
  have K0 : Keep h0 h0 [a0, a2] := Keep.refl h0 [a0, a2]
  refine og (B := s₁.setTop (mkF m 0 #[rv a0, rv a1, rv a2, iv 1] [])) (fun t k => castTop (ef_ad1 m a0 a1 a2) k) ?_
  refine og (B := s₁.setTop (mkF m 2 #[rv a0, rv a1, rv a2, iv 1] [(.ref a2), (.int 1)])) (fun t k => ?_) ?_
  · refine XS.iloadN X0.here hx rfl (hb hby d11_0) rfl ?_
    refine XS.aloadN X0.here hx rfl (hb hby d11_1) rfl rfl ?_
    exact k
  obtain ⟨cl_1, Ar_1, -, S_1, M_1, -, -⟩ := id VE
  refine og (B := s₁.setTop (mkF m 3 #[rv a0, rv a1, rv a2, iv 1] [(.int 10), (.int 1)])) (fun t k => X0.arraylength hx (by rw [(e0 : _ = _)]; exact Ar_1.1) (State.isArrayOf_alike hZ.alike Ar_1.2.1) (g := (mkF m 2 #[rv a0, rv a1, rv a2, iv 1] [(.ref a2), (.int 1)])) rfl rfl (hb hby d11_2) t (by rw [len_of S_1 M_1]; exact k)) ?_
  refine og (B := s₁.setTop (mkF m 11 #[rv a0, rv a1, rv a2, iv 1] [])) (fun t k => ?_) ?_
  · refine XS.icmpYes X0.here hx rfl (pc0 := 3) (pc' := 11) rfl (hb hby d11_3) rfl (feq (by decide : ¬ ((1 : Int32) = (10 : Int32)))).2 (by decide) (by decide) ?_
    exact k
  refine og (B := s₁.setTop (mkF m 14 #[rv a0, rv a1, rv a2, iv 1] [(.ref a1), (.int 1), (.ref a2)])) (fun t k => ?_) ?_
  · refine XS.aloadN X0.here hx rfl (hb hby d11_11) rfl rfl ?_
    refine XS.iloadN X0.here hx rfl (hb hby d11_12) rfl ?_
    refine XS.aloadN X0.here hx rfl (hb hby d11_13) rfl rfl ?_
    exact k
  obtain ⟨cl_2, Ar_2, q_2, S_2, M_2, H_2, G_2⟩ := id VE
  have hin_2 : ¬ ((1 : Int32) < 0 ∨ cl_2.slots.size ≤ ((1 : Int32)).toNatClampNeg) := inb_of S_2 ⟨by decide, by decide⟩
  obtain ⟨T_2, h_2, X_2, e_2, W_2, st_2⟩ := stR X0 hx hZ e0 Ar_2 (j := (1 : Int32)) hin_2 rfl (Sto.ofV Ar_2 q_2 OE (Ins.of_exa E_a1 (ow hw 97 rfl))) (g := (mkF m 14 #[rv a0, rv a1, rv a2, iv 1] [(.ref a1), (.int 1), (.ref a2)])) rfl rfl (hb hby d11_14)
  have c1 := K0.wr W_2 (Or.inl (List.mem_of_getElem? (i := 1) rfl))
  have c2 := E_a0.wr W_2
  have c3 := F_modCount_a0.other W_2 (Or.inl ne02)
  have c4 := F_elementData_a0.other W_2 (Or.inl ne02)
  have c5 := F_size_a0.other W_2 (Or.inl ne02)
  have c6 := E_a1.wr W_2
  have V_2 : Arv Z h_2 a2 ke (.object "java/lang/Object") (10 : Int32) [(.ref ca0), (.ref a1), .null, .null, .null] .null := Arv.set Ar_2 q_2 S_2 M_2 H_2 G_2 rfl W_2 1 rfl (Nat.le_of_ble_eq_true rfl)
  have N_2 := Fr.snoc X_2 N0 g_a2
  have Z0__2 : n0 ≤ h_2.size := by rw [W_2.size]; exact Z0
  refine og (fun t k => st_2 t k) ?_
  refine og (B := T_2.setTop (mkF m 19 #[rv a0, rv a1, rv a2, iv 1] [(.int 2), (.ref a0)])) (fun t k => ?_) ?_
  · refine XS.aloadN X_2.here hx rfl (hb hby d11_15) rfl rfl ?_
    refine XS.iloadN X_2.here hx rfl (hb hby d11_16) rfl ?_
    refine XS.iconst X_2.here hx rfl (hb hby d11_17) ?_
    refine XS.iadd X_2.here hx rfl (hb hby d11_18) rfl ?_
    exact k
  obtain ⟨T_3, h_3, X_3, e_3, W_3, st_3⟩ := putF X_2 hx hZ hown (host := "") (Or.inl (ow hw 67 rfl)) Via.refl e_2 c5 c2 (Or.inl (ow hw 68 rfl)) (ow hw 18 rfl) (ty := .int) (by decide) rfl rfl (g := (mkF m 19 #[rv a0, rv a1, rv a2, iv 1] [(.int 2), (.ref a0)])) rfl rfl (hb hby d11_19)
  have c7 := c1.wr W_3 (Or.inl (List.mem_of_getElem? (i := 0) rfl))
  have c8 := c2.wr W_3
  have c9 := c3.other W_3 (Or.inr (slot_ne (Or.inl (ow hw 37 rfl)) (Or.inl (ow hw 68 rfl)) (by decide) (t := .int) (t' := .int) (by decide) (by decide)))
  have c10 := c4.other W_3 (Or.inr (slot_ne (Or.inl (ow hw 40 rfl)) (Or.inl (ow hw 68 rfl)) (by decide) (t := (.array (.object "java/lang/Object"))) (t' := .int) (by decide) (by decide)))
  have c11 := c5.same W_3
  have c12 := c6.wr W_3
  have c13 := V_2.other W_3 (Ne.symm ne02)
  have N_3 := Fr.snoc X_3 N_2 g_a0
  have Z0__3 : n0 ≤ h_3.size := by rw [W_3.size]; exact Z0__2
  refine og (fun t k => st_3 t k) ?_
  obtain ⟨fs, hr, hrun, hended, hW, hsame⟩ := X_3.leave (v := none) (fun _ => rfl)
  refine ⟨_, _, ?_, hrun, hended, _, _, rfl, ?_, ⟨_, rfl⟩, hW, hsame.mono (by decide) (by decide)⟩
  · show Steps p.tables e below (T_3.setTop (mkF m 22 #[rv a0, rv a1, rv a2, iv 1] [])) _
    exact X_3.returnOut hx Bd.returns (hb hby d11_22) hr
  · show Qad1 Z a0 a1 a2 u0 ke ca0 h0 n0 _ T_3.heap _
    rw [e_3]
    exact ⟨rfl, N_3, c7, c13, c9, c10, c11⟩
theorem ef_ad2 (m : MethodId) (a0 : Addr) (a1 : Addr) (a2 : Addr) : entryFrame m #[(.ref a0), (.ref a1), (.ref a2), (.int 2)] 4 = mkF m 0 #[rv a0, rv a1, rv a2, iv 2] [] := by first | (simp [entryFrame, mkF, argsToLocals, Value.category]; done) | rfl
def Qad2 (Z : State) (a0 : Addr) (a1 : Addr) (a2 : Addr) (u0 : Value) (ke : ClassId) (ca0 : Addr) (ca1 : Addr) (h0 : Heap) (n0 : Nat) (v : Option Value) (h : Heap) (L : List Loc) : Prop := v = none ∧ Fr n0 L ∧ Keep h0 h [a0, a2] ∧ Arv Z h a2 ke (.object "java/lang/Object") (10 : Int32) [(.ref ca0), (.ref ca1), (.ref a1), .null, .null] .null ∧ Fld Z h a0 "java/util/AbstractList" "modCount" "I" u0 ∧ Fld Z h a0 "java/util/ArrayList" "elementData" "[Ljava/lang/Object;" (.ref a2) ∧ Fld Z h a0 "java/util/ArrayList" "size" "I" (.int (3 : Int32))
theorem rmad2 (l : Launch) (Z : State) (av0 : Array Value) (hw : ∀ d ∈ tables_1, d.before av0 Z = true) (ws : List Jvm.Cond) (a0 : Addr) (a1 : Addr) (a2 : Addr) (u0 : Value) (ke : ClassId) (ca0 : Addr) (ca1 : Addr) (h0 : Heap) (n0 : Nat) (Z0 : n0 ≤ h0.size) (E_a0 : Exa Z h0 a0 "java/util/ArrayList") (F_modCount_a0 : Fld Z h0 a0 "java/util/AbstractList" "modCount" "I" u0) (F_elementData_a0 : Fld Z h0 a0 "java/util/ArrayList" "elementData" "[Ljava/lang/Object;" (.ref a2)) (F_size_a0 : Fld Z h0 a0 "java/util/ArrayList" "size" "I" (.int 2)) (g_a0 : n0 ≤ a0) (g_a2 : n0 ≤ a2) (E_a1 : Exa Z h0 a1 "[D") (VE : Arv Z h0 a2 ke (.object "java/lang/Object") (10 : Int32) [(.ref ca0), (.ref ca1), .null, .null, .null] .null) (OE : Ovr Z ke "java/lang/Object") (ne02 : a0 ≠ a2) :
    MetFree l own_m12 (head1 (Jvm.Cond.code own_m12 jdk_38_method_24_code 4 none :: ws) ({ frames := 0, cells := 0, slots := 0, locals := 0 } : Room)) (fun a U => a = #[(.ref a0), (.ref a1), (.ref a2), (.int 2)] ∧ Z.Warmed39 U.vm ∧ U.heap = h0) (fun _ _ _ _ _ => True) (fun _ U o U' => ∃ v L, o = .returned v ∧ Qad2 Z a0 a1 a2 u0 ke ca0 ca1 h0 n0 v U'.heap L ∧ FrameEnd U o U' L ({ frames := 0, cells := 0, slots := 0, locals := 0 } : Room).cells ({ frames := 0, cells := 0, slots := 0, locals := 0 } : Room).slots) := by
  refine MetFree.of_bodySF (plainFor_of_name pn_11) hisR ?_
  intro p e s m args below meth c s₁ Bd hml0 hP hK
  obtain ⟨rfl, hZ, hh⟩ := hP
  have hx := Bd.exec
  have hby := Bd.bytes
  have hml : c.maxLocals = 4 := hml0
  have hown : s.vm.findClass "java/util/ArrayList" = some m.cls := findClass_of_methodNamed Bd.named
  have X0 : Stand p l e ({ frames := 0, cells := 0, slots := 0, locals := 0 } : Room) s m #[(.ref a0), (.ref a1), (.ref a2), (.int 2)] below meth c s₁ [] 0 0 := Stand.of_body Bd
  have e0 : s₁.heap = h0 := by rw [← hh, Bd.state]; rfl
  have N0 := Fr.nil n0
  have K0 : Keep h0 h0 [a0, a2] := Keep.refl h0 [a0, a2]
  refine og (B := s₁.setTop (mkF m 0 #[rv a0, rv a1, rv a2, iv 2] [])) (fun t k => castTop (ef_ad2 m a0 a1 a2) k) ?_
  refine og (B := s₁.setTop (mkF m 2 #[rv a0, rv a1, rv a2, iv 2] [(.ref a2), (.int 2)])) (fun t k => ?_) ?_
  · refine XS.iloadN X0.here hx rfl (hb hby d11_0) rfl ?_
    refine XS.aloadN X0.here hx rfl (hb hby d11_1) rfl rfl ?_
    exact k
  obtain ⟨cl_1, Ar_1, -, S_1, M_1, -, -⟩ := id VE
  refine og (B := s₁.setTop (mkF m 3 #[rv a0, rv a1, rv a2, iv 2] [(.int 10), (.int 2)])) (fun t k => X0.arraylength hx (by rw [(e0 : _ = _)]; exact Ar_1.1) (State.isArrayOf_alike hZ.alike Ar_1.2.1) (g := (mkF m 2 #[rv a0, rv a1, rv a2, iv 2] [(.ref a2), (.int 2)])) rfl rfl (hb hby d11_2) t (by rw [len_of S_1 M_1]; exact k)) ?_
  refine og (B := s₁.setTop (mkF m 11 #[rv a0, rv a1, rv a2, iv 2] [])) (fun t k => ?_) ?_
  · refine XS.icmpYes X0.here hx rfl (pc0 := 3) (pc' := 11) rfl (hb hby d11_3) rfl (feq (by decide : ¬ ((2 : Int32) = (10 : Int32)))).2 (by decide) (by decide) ?_
    exact k
  refine og (B := s₁.setTop (mkF m 14 #[rv a0, rv a1, rv a2, iv 2] [(.ref a1), (.int 2), (.ref a2)])) (fun t k => ?_) ?_
  · refine XS.aloadN X0.here hx rfl (hb hby d11_11) rfl rfl ?_
    refine XS.iloadN X0.here hx rfl (hb hby d11_12) rfl ?_
    refine XS.aloadN X0.here hx rfl (hb hby d11_13) rfl rfl ?_
    exact k
  obtain ⟨cl_2, Ar_2, q_2, S_2, M_2, H_2, G_2⟩ := id VE
  have hin_2 : ¬ ((2 : Int32) < 0 ∨ cl_2.slots.size ≤ ((2 : Int32)).toNatClampNeg) := inb_of S_2 ⟨by decide, by decide⟩
  obtain ⟨T_2, h_2, X_2, e_2, W_2, st_2⟩ := stR X0 hx hZ e0 Ar_2 (j := (2 : Int32)) hin_2 rfl (Sto.ofV Ar_2 q_2 OE (Ins.of_exa E_a1 (ow hw 97 rfl))) (g := (mkF m 14 #[rv a0, rv a1, rv a2, iv 2] [(.ref a1), (.int 2), (.ref a2)])) rfl rfl (hb hby d11_14)
  have c1 := K0.wr W_2 (Or.inl (List.mem_of_getElem? (i := 1) rfl))
  have c2 := E_a0.wr W_2
  have c3 := F_modCount_a0.other W_2 (Or.inl ne02)
  have c4 := F_elementData_a0.other W_2 (Or.inl ne02)
  have c5 := F_size_a0.other W_2 (Or.inl ne02)
  have c6 := E_a1.wr W_2
  have V_2 : Arv Z h_2 a2 ke (.object "java/lang/Object") (10 : Int32) [(.ref ca0), (.ref ca1), (.ref a1), .null, .null] .null := Arv.set Ar_2 q_2 S_2 M_2 H_2 G_2 rfl W_2 2 rfl (Nat.le_of_ble_eq_true rfl)
  have N_2 := Fr.snoc X_2 N0 g_a2
  have Z0__2 : n0 ≤ h_2.size := by rw [W_2.size]; exact Z0
  refine og (fun t k => st_2 t k) ?_
  refine og (B := T_2.setTop (mkF m 19 #[rv a0, rv a1, rv a2, iv 2] [(.int 3), (.ref a0)])) (fun t k => ?_) ?_
  · refine XS.aloadN X_2.here hx rfl (hb hby d11_15) rfl rfl ?_
    refine XS.iloadN X_2.here hx rfl (hb hby d11_16) rfl ?_
    refine XS.iconst X_2.here hx rfl (hb hby d11_17) ?_
    refine XS.iadd X_2.here hx rfl (hb hby d11_18) rfl ?_
    exact k
  obtain ⟨T_3, h_3, X_3, e_3, W_3, st_3⟩ := putF X_2 hx hZ hown (host := "") (Or.inl (ow hw 67 rfl)) Via.refl e_2 c5 c2 (Or.inl (ow hw 68 rfl)) (ow hw 18 rfl) (ty := .int) (by decide) rfl rfl (g := (mkF m 19 #[rv a0, rv a1, rv a2, iv 2] [(.int 3), (.ref a0)])) rfl rfl (hb hby d11_19)
  have c7 := c1.wr W_3 (Or.inl (List.mem_of_getElem? (i := 0) rfl))
  have c8 := c2.wr W_3
  have c9 := c3.other W_3 (Or.inr (slot_ne (Or.inl (ow hw 37 rfl)) (Or.inl (ow hw 68 rfl)) (by decide) (t := .int) (t' := .int) (by decide) (by decide)))
  have c10 := c4.other W_3 (Or.inr (slot_ne (Or.inl (ow hw 40 rfl)) (Or.inl (ow hw 68 rfl)) (by decide) (t := (.array (.object "java/lang/Object"))) (t' := .int) (by decide) (by decide)))
  have c11 := c5.same W_3
  have c12 := c6.wr W_3
  have c13 := V_2.other W_3 (Ne.symm ne02)
  have N_3 := Fr.snoc X_3 N_2 g_a0
  have Z0__3 : n0 ≤ h_3.size := by rw [W_3.size]; exact Z0__2
  refine og (fun t k => st_3 t k) ?_
  obtain ⟨fs, hr, hrun, hended, hW, hsame⟩ := X_3.leave (v := none) (fun _ => rfl)
  refine ⟨_, _, ?_, hrun, hended, _, _, rfl, ?_, ⟨_, rfl⟩, hW, hsame.mono (by decide) (by decide)⟩
  · show Steps p.tables e below (T_3.setTop (mkF m 22 #[rv a0, rv a1, rv a2, iv 2] [])) _
    exact X_3.returnOut hx Bd.returns (hb hby d11_22) hr
  · show Qad2 Z a0 a1 a2 u0 ke ca0 ca1 h0 n0 _ T_3.heap _
    rw [e_3]
    exact ⟨rfl, N_3, c7, c13, c9, c10, c11⟩
theorem ef_ad3 (m : MethodId) (a0 : Addr) (a1 : Addr) (a2 : Addr) : entryFrame m #[(.ref a0), (.ref a1), (.ref a2), (.int 3)] 4 = mkF m 0 #[rv a0, rv a1, rv a2, iv 3] [] := by first | (simp [entryFrame, mkF, argsToLocals, Value.category]; done) | rfl
def Qad3 (Z : State) (a0 : Addr) (a1 : Addr) (a2 : Addr) (u0 : Value) (ke : ClassId) (ca0 : Addr) (ca1 : Addr) (ca2 : Addr) (h0 : Heap) (n0 : Nat) (v : Option Value) (h : Heap) (L : List Loc) : Prop := v = none ∧ Fr n0 L ∧ Keep h0 h [a0, a2] ∧ Arv Z h a2 ke (.object "java/lang/Object") (10 : Int32) [(.ref ca0), (.ref ca1), (.ref ca2), (.ref a1), .null] .null ∧ Fld Z h a0 "java/util/AbstractList" "modCount" "I" u0 ∧ Fld Z h a0 "java/util/ArrayList" "elementData" "[Ljava/lang/Object;" (.ref a2) ∧ Fld Z h a0 "java/util/ArrayList" "size" "I" (.int (4 : Int32))
theorem rmad3 (l : Launch) (Z : State) (av0 : Array Value) (hw : ∀ d ∈ tables_1, d.before av0 Z = true) (ws : List Jvm.Cond) (a0 : Addr) (a1 : Addr) (a2 : Addr) (u0 : Value) (ke : ClassId) (ca0 : Addr) (ca1 : Addr) (ca2 : Addr) (h0 : Heap) (n0 : Nat) (Z0 : n0 ≤ h0.size) (E_a0 : Exa Z h0 a0 "java/util/ArrayList") (F_modCount_a0 : Fld Z h0 a0 "java/util/AbstractList" "modCount" "I" u0) (F_elementData_a0 : Fld Z h0 a0 "java/util/ArrayList" "elementData" "[Ljava/lang/Object;" (.ref a2)) (F_size_a0 : Fld Z h0 a0 "java/util/ArrayList" "size" "I" (.int 3)) (g_a0 : n0 ≤ a0) (g_a2 : n0 ≤ a2) (E_a1 : Exa Z h0 a1 "[D") (VE : Arv Z h0 a2 ke (.object "java/lang/Object") (10 : Int32) [(.ref ca0), (.ref ca1), (.ref ca2), .null, .null] .null) (OE : Ovr Z ke "java/lang/Object") (ne02 : a0 ≠ a2) :
    MetFree l own_m12 (head1 (Jvm.Cond.code own_m12 jdk_38_method_24_code 4 none :: ws) ({ frames := 0, cells := 0, slots := 0, locals := 0 } : Room)) (fun a U => a = #[(.ref a0), (.ref a1), (.ref a2), (.int 3)] ∧ Z.Warmed39 U.vm ∧ U.heap = h0) (fun _ _ _ _ _ => True) (fun _ U o U' => ∃ v L, o = .returned v ∧ Qad3 Z a0 a1 a2 u0 ke ca0 ca1 ca2 h0 n0 v U'.heap L ∧ FrameEnd U o U' L ({ frames := 0, cells := 0, slots := 0, locals := 0 } : Room).cells ({ frames := 0, cells := 0, slots := 0, locals := 0 } : Room).slots) := by
  refine MetFree.of_bodySF (plainFor_of_name pn_11) hisR ?_
  intro p e s m args below meth c s₁ Bd hml0 hP hK
  obtain ⟨rfl, hZ, hh⟩ := hP
  have hx := Bd.exec
  have hby := Bd.bytes
  have hml : c.maxLocals = 4 := hml0
  have hown : s.vm.findClass "java/util/ArrayList" = some m.cls := findClass_of_methodNamed Bd.named
  have X0 : Stand p l e ({ frames := 0, cells := 0, slots := 0, locals := 0 } : Room) s m #[(.ref a0), (.ref a1), (.ref a2), (.int 3)] below meth c s₁ [] 0 0 := Stand.of_body Bd
  have e0 : s₁.heap = h0 := by rw [← hh, Bd.state]; rfl
  have N0 := Fr.nil n0
  have K0 : Keep h0 h0 [a0, a2] := Keep.refl h0 [a0, a2]
  refine og (B := s₁.setTop (mkF m 0 #[rv a0, rv a1, rv a2, iv 3] [])) (fun t k => castTop (ef_ad3 m a0 a1 a2) k) ?_
  refine og (B := s₁.setTop (mkF m 2 #[rv a0, rv a1, rv a2, iv 3] [(.ref a2), (.int 3)])) (fun t k => ?_) ?_
  · refine XS.iloadN X0.here hx rfl (hb hby d11_0) rfl ?_
    refine XS.aloadN X0.here hx rfl (hb hby d11_1) rfl rfl ?_
    exact k
  obtain ⟨cl_1, Ar_1, -, S_1, M_1, -, -⟩ := id VE
  refine og (B := s₁.setTop (mkF m 3 #[rv a0, rv a1, rv a2, iv 3] [(.int 10), (.int 3)])) (fun t k => X0.arraylength hx (by rw [(e0 : _ = _)]; exact Ar_1.1) (State.isArrayOf_alike hZ.alike Ar_1.2.1) (g := (mkF m 2 #[rv a0, rv a1, rv a2, iv 3] [(.ref a2), (.int 3)])) rfl rfl (hb hby d11_2) t (by rw [len_of S_1 M_1]; exact k)) ?_
  refine og (B := s₁.setTop (mkF m 11 #[rv a0, rv a1, rv a2, iv 3] [])) (fun t k => ?_) ?_
  · refine XS.icmpYes X0.here hx rfl (pc0 := 3) (pc' := 11) rfl (hb hby d11_3) rfl (feq (by decide : ¬ ((3 : Int32) = (10 : Int32)))).2 (by decide) (by decide) ?_
    exact k
  refine og (B := s₁.setTop (mkF m 14 #[rv a0, rv a1, rv a2, iv 3] [(.ref a1), (.int 3), (.ref a2)])) (fun t k => ?_) ?_
  · refine XS.aloadN X0.here hx rfl (hb hby d11_11) rfl rfl ?_
    refine XS.iloadN X0.here hx rfl (hb hby d11_12) rfl ?_
    refine XS.aloadN X0.here hx rfl (hb hby d11_13) rfl rfl ?_
    exact k
  obtain ⟨cl_2, Ar_2, q_2, S_2, M_2, H_2, G_2⟩ := id VE
  have hin_2 : ¬ ((3 : Int32) < 0 ∨ cl_2.slots.size ≤ ((3 : Int32)).toNatClampNeg) := inb_of S_2 ⟨by decide, by decide⟩
  obtain ⟨T_2, h_2, X_2, e_2, W_2, st_2⟩ := stR X0 hx hZ e0 Ar_2 (j := (3 : Int32)) hin_2 rfl (Sto.ofV Ar_2 q_2 OE (Ins.of_exa E_a1 (ow hw 97 rfl))) (g := (mkF m 14 #[rv a0, rv a1, rv a2, iv 3] [(.ref a1), (.int 3), (.ref a2)])) rfl rfl (hb hby d11_14)
  have c1 := K0.wr W_2 (Or.inl (List.mem_of_getElem? (i := 1) rfl))
  have c2 := E_a0.wr W_2
  have c3 := F_modCount_a0.other W_2 (Or.inl ne02)
  have c4 := F_elementData_a0.other W_2 (Or.inl ne02)
  have c5 := F_size_a0.other W_2 (Or.inl ne02)
  have c6 := E_a1.wr W_2
  have V_2 : Arv Z h_2 a2 ke (.object "java/lang/Object") (10 : Int32) [(.ref ca0), (.ref ca1), (.ref ca2), (.ref a1), .null] .null := Arv.set Ar_2 q_2 S_2 M_2 H_2 G_2 rfl W_2 3 rfl (Nat.le_of_ble_eq_true rfl)
  have N_2 := Fr.snoc X_2 N0 g_a2
  have Z0__2 : n0 ≤ h_2.size := by rw [W_2.size]; exact Z0
  refine og (fun t k => st_2 t k) ?_
  refine og (B := T_2.setTop (mkF m 19 #[rv a0, rv a1, rv a2, iv 3] [(.int 4), (.ref a0)])) (fun t k => ?_) ?_
  · refine XS.aloadN X_2.here hx rfl (hb hby d11_15) rfl rfl ?_
    refine XS.iloadN X_2.here hx rfl (hb hby d11_16) rfl ?_
    refine XS.iconst X_2.here hx rfl (hb hby d11_17) ?_
    refine XS.iadd X_2.here hx rfl (hb hby d11_18) rfl ?_
    exact k
  obtain ⟨T_3, h_3, X_3, e_3, W_3, st_3⟩ := putF X_2 hx hZ hown (host := "") (Or.inl (ow hw 67 rfl)) Via.refl e_2 c5 c2 (Or.inl (ow hw 68 rfl)) (ow hw 18 rfl) (ty := .int) (by decide) rfl rfl (g := (mkF m 19 #[rv a0, rv a1, rv a2, iv 3] [(.int 4), (.ref a0)])) rfl rfl (hb hby d11_19)
  have c7 := c1.wr W_3 (Or.inl (List.mem_of_getElem? (i := 0) rfl))
  have c8 := c2.wr W_3
  have c9 := c3.other W_3 (Or.inr (slot_ne (Or.inl (ow hw 37 rfl)) (Or.inl (ow hw 68 rfl)) (by decide) (t := .int) (t' := .int) (by decide) (by decide)))
  have c10 := c4.other W_3 (Or.inr (slot_ne (Or.inl (ow hw 40 rfl)) (Or.inl (ow hw 68 rfl)) (by decide) (t := (.array (.object "java/lang/Object"))) (t' := .int) (by decide) (by decide)))
  have c11 := c5.same W_3
  have c12 := c6.wr W_3
  have c13 := V_2.other W_3 (Ne.symm ne02)
  have N_3 := Fr.snoc X_3 N_2 g_a0
  have Z0__3 : n0 ≤ h_3.size := by rw [W_3.size]; exact Z0__2
  refine og (fun t k => st_3 t k) ?_
  obtain ⟨fs, hr, hrun, hended, hW, hsame⟩ := X_3.leave (v := none) (fun _ => rfl)
  refine ⟨_, _, ?_, hrun, hended, _, _, rfl, ?_, ⟨_, rfl⟩, hW, hsame.mono (by decide) (by decide)⟩
  · show Steps p.tables e below (T_3.setTop (mkF m 22 #[rv a0, rv a1, rv a2, iv 3] [])) _
    exact X_3.returnOut hx Bd.returns (hb hby d11_22) hr
  · show Qad3 Z a0 a1 a2 u0 ke ca0 ca1 ca2 h0 n0 _ T_3.heap _
    rw [e_3]
    exact ⟨rfl, N_3, c7, c13, c9, c10, c11⟩
theorem ef_ad4 (m : MethodId) (a0 : Addr) (a1 : Addr) (a2 : Addr) : entryFrame m #[(.ref a0), (.ref a1), (.ref a2), (.int 4)] 4 = mkF m 0 #[rv a0, rv a1, rv a2, iv 4] [] := by first | (simp [entryFrame, mkF, argsToLocals, Value.category]; done) | rfl
def Qad4 (Z : State) (a0 : Addr) (a1 : Addr) (a2 : Addr) (u0 : Value) (ke : ClassId) (ca0 : Addr) (ca1 : Addr) (ca2 : Addr) (ca3 : Addr) (h0 : Heap) (n0 : Nat) (v : Option Value) (h : Heap) (L : List Loc) : Prop := v = none ∧ Fr n0 L ∧ Keep h0 h [a0, a2] ∧ Arv Z h a2 ke (.object "java/lang/Object") (10 : Int32) [(.ref ca0), (.ref ca1), (.ref ca2), (.ref ca3), (.ref a1)] .null ∧ Fld Z h a0 "java/util/AbstractList" "modCount" "I" u0 ∧ Fld Z h a0 "java/util/ArrayList" "elementData" "[Ljava/lang/Object;" (.ref a2) ∧ Fld Z h a0 "java/util/ArrayList" "size" "I" (.int (5 : Int32))
theorem rmad4 (l : Launch) (Z : State) (av0 : Array Value) (hw : ∀ d ∈ tables_1, d.before av0 Z = true) (ws : List Jvm.Cond) (a0 : Addr) (a1 : Addr) (a2 : Addr) (u0 : Value) (ke : ClassId) (ca0 : Addr) (ca1 : Addr) (ca2 : Addr) (ca3 : Addr) (h0 : Heap) (n0 : Nat) (Z0 : n0 ≤ h0.size) (E_a0 : Exa Z h0 a0 "java/util/ArrayList") (F_modCount_a0 : Fld Z h0 a0 "java/util/AbstractList" "modCount" "I" u0) (F_elementData_a0 : Fld Z h0 a0 "java/util/ArrayList" "elementData" "[Ljava/lang/Object;" (.ref a2)) (F_size_a0 : Fld Z h0 a0 "java/util/ArrayList" "size" "I" (.int 4)) (g_a0 : n0 ≤ a0) (g_a2 : n0 ≤ a2) (E_a1 : Exa Z h0 a1 "[D") (VE : Arv Z h0 a2 ke (.object "java/lang/Object") (10 : Int32) [(.ref ca0), (.ref ca1), (.ref ca2), (.ref ca3), .null] .null) (OE : Ovr Z ke "java/lang/Object") (ne02 : a0 ≠ a2) :
    MetFree l own_m12 (head1 (Jvm.Cond.code own_m12 jdk_38_method_24_code 4 none :: ws) ({ frames := 0, cells := 0, slots := 0, locals := 0 } : Room)) (fun a U => a = #[(.ref a0), (.ref a1), (.ref a2), (.int 4)] ∧ Z.Warmed39 U.vm ∧ U.heap = h0) (fun _ _ _ _ _ => True) (fun _ U o U' => ∃ v L, o = .returned v ∧ Qad4 Z a0 a1 a2 u0 ke ca0 ca1 ca2 ca3 h0 n0 v U'.heap L ∧ FrameEnd U o U' L ({ frames := 0, cells := 0, slots := 0, locals := 0 } : Room).cells ({ frames := 0, cells := 0, slots := 0, locals := 0 } : Room).slots) := by
  refine MetFree.of_bodySF (plainFor_of_name pn_11) hisR ?_
  intro p e s m args below meth c s₁ Bd hml0 hP hK
  obtain ⟨rfl, hZ, hh⟩ := hP
  have hx := Bd.exec
  have hby := Bd.bytes
  have hml : c.maxLocals = 4 := hml0
  have hown : s.vm.findClass "java/util/ArrayList" = some m.cls := findClass_of_methodNamed Bd.named
  have X0 : Stand p l e ({ frames := 0, cells := 0, slots := 0, locals := 0 } : Room) s m #[(.ref a0), (.ref a1), (.ref a2), (.int 4)] below meth c s₁ [] 0 0 := Stand.of_body Bd
  have e0 : s₁.heap = h0 := by rw [← hh, Bd.state]; rfl
  have N0 := Fr.nil n0
  have K0 : Keep h0 h0 [a0, a2] := Keep.refl h0 [a0, a2]
  refine og (B := s₁.setTop (mkF m 0 #[rv a0, rv a1, rv a2, iv 4] [])) (fun t k => castTop (ef_ad4 m a0 a1 a2) k) ?_
  refine og (B := s₁.setTop (mkF m 2 #[rv a0, rv a1, rv a2, iv 4] [(.ref a2), (.int 4)])) (fun t k => ?_) ?_
  · refine XS.iloadN X0.here hx rfl (hb hby d11_0) rfl ?_
    refine XS.aloadN X0.here hx rfl (hb hby d11_1) rfl rfl ?_
    exact k
  obtain ⟨cl_1, Ar_1, -, S_1, M_1, -, -⟩ := id VE
  refine og (B := s₁.setTop (mkF m 3 #[rv a0, rv a1, rv a2, iv 4] [(.int 10), (.int 4)])) (fun t k => X0.arraylength hx (by rw [(e0 : _ = _)]; exact Ar_1.1) (State.isArrayOf_alike hZ.alike Ar_1.2.1) (g := (mkF m 2 #[rv a0, rv a1, rv a2, iv 4] [(.ref a2), (.int 4)])) rfl rfl (hb hby d11_2) t (by rw [len_of S_1 M_1]; exact k)) ?_
  refine og (B := s₁.setTop (mkF m 11 #[rv a0, rv a1, rv a2, iv 4] [])) (fun t k => ?_) ?_
  · refine XS.icmpYes X0.here hx rfl (pc0 := 3) (pc' := 11) rfl (hb hby d11_3) rfl (feq (by decide : ¬ ((4 : Int32) = (10 : Int32)))).2 (by decide) (by decide) ?_
    exact k
  refine og (B := s₁.setTop (mkF m 14 #[rv a0, rv a1, rv a2, iv 4] [(.ref a1), (.int 4), (.ref a2)])) (fun t k => ?_) ?_
  · refine XS.aloadN X0.here hx rfl (hb hby d11_11) rfl rfl ?_
    refine XS.iloadN X0.here hx rfl (hb hby d11_12) rfl ?_
    refine XS.aloadN X0.here hx rfl (hb hby d11_13) rfl rfl ?_
    exact k
  obtain ⟨cl_2, Ar_2, q_2, S_2, M_2, H_2, G_2⟩ := id VE
  have hin_2 : ¬ ((4 : Int32) < 0 ∨ cl_2.slots.size ≤ ((4 : Int32)).toNatClampNeg) := inb_of S_2 ⟨by decide, by decide⟩
  obtain ⟨T_2, h_2, X_2, e_2, W_2, st_2⟩ := stR X0 hx hZ e0 Ar_2 (j := (4 : Int32)) hin_2 rfl (Sto.ofV Ar_2 q_2 OE (Ins.of_exa E_a1 (ow hw 97 rfl))) (g := (mkF m 14 #[rv a0, rv a1, rv a2, iv 4] [(.ref a1), (.int 4), (.ref a2)])) rfl rfl (hb hby d11_14)
  have c1 := K0.wr W_2 (Or.inl (List.mem_of_getElem? (i := 1) rfl))
  have c2 := E_a0.wr W_2
  have c3 := F_modCount_a0.other W_2 (Or.inl ne02)
  have c4 := F_elementData_a0.other W_2 (Or.inl ne02)
  have c5 := F_size_a0.other W_2 (Or.inl ne02)
  have c6 := E_a1.wr W_2
  have V_2 : Arv Z h_2 a2 ke (.object "java/lang/Object") (10 : Int32) [(.ref ca0), (.ref ca1), (.ref ca2), (.ref ca3), (.ref a1)] .null := Arv.set Ar_2 q_2 S_2 M_2 H_2 G_2 rfl W_2 4 rfl (Nat.le_of_ble_eq_true rfl)
  have N_2 := Fr.snoc X_2 N0 g_a2
  have Z0__2 : n0 ≤ h_2.size := by rw [W_2.size]; exact Z0
  refine og (fun t k => st_2 t k) ?_
  refine og (B := T_2.setTop (mkF m 19 #[rv a0, rv a1, rv a2, iv 4] [(.int 5), (.ref a0)])) (fun t k => ?_) ?_
  · refine XS.aloadN X_2.here hx rfl (hb hby d11_15) rfl rfl ?_
    refine XS.iloadN X_2.here hx rfl (hb hby d11_16) rfl ?_
    refine XS.iconst X_2.here hx rfl (hb hby d11_17) ?_
    refine XS.iadd X_2.here hx rfl (hb hby d11_18) rfl ?_
    exact k
  obtain ⟨T_3, h_3, X_3, e_3, W_3, st_3⟩ := putF X_2 hx hZ hown (host := "") (Or.inl (ow hw 67 rfl)) Via.refl e_2 c5 c2 (Or.inl (ow hw 68 rfl)) (ow hw 18 rfl) (ty := .int) (by decide) rfl rfl (g := (mkF m 19 #[rv a0, rv a1, rv a2, iv 4] [(.int 5), (.ref a0)])) rfl rfl (hb hby d11_19)
  have c7 := c1.wr W_3 (Or.inl (List.mem_of_getElem? (i := 0) rfl))
  have c8 := c2.wr W_3
  have c9 := c3.other W_3 (Or.inr (slot_ne (Or.inl (ow hw 37 rfl)) (Or.inl (ow hw 68 rfl)) (by decide) (t := .int) (t' := .int) (by decide) (by decide)))
  have c10 := c4.other W_3 (Or.inr (slot_ne (Or.inl (ow hw 40 rfl)) (Or.inl (ow hw 68 rfl)) (by decide) (t := (.array (.object "java/lang/Object"))) (t' := .int) (by decide) (by decide)))
  have c11 := c5.same W_3
  have c12 := c6.wr W_3
  have c13 := V_2.other W_3 (Ne.symm ne02)
  have N_3 := Fr.snoc X_3 N_2 g_a0
  have Z0__3 : n0 ≤ h_3.size := by rw [W_3.size]; exact Z0__2
  refine og (fun t k => st_3 t k) ?_
  obtain ⟨fs, hr, hrun, hended, hW, hsame⟩ := X_3.leave (v := none) (fun _ => rfl)
  refine ⟨_, _, ?_, hrun, hended, _, _, rfl, ?_, ⟨_, rfl⟩, hW, hsame.mono (by decide) (by decide)⟩
  · show Steps p.tables e below (T_3.setTop (mkF m 22 #[rv a0, rv a1, rv a2, iv 4] [])) _
    exact X_3.returnOut hx Bd.returns (hb hby d11_22) hr
  · show Qad4 Z a0 a1 a2 u0 ke ca0 ca1 ca2 ca3 h0 n0 _ T_3.heap _
    rw [e_3]
    exact ⟨rfl, N_3, c7, c13, c9, c10, c11⟩
theorem d10_0 : decode jdk_38_method_25_code 0 = .ok (.aload_n 0, 1) := by decide +kernel
theorem d10_1 : decode jdk_38_method_25_code 1 = .ok (.dup, 1) := by decide +kernel
theorem d10_2 : decode jdk_38_method_25_code 2 = .ok (.getfield 63, 3) := by decide +kernel
theorem d10_5 : decode jdk_38_method_25_code 5 = .ok (.iconst 1, 1) := by decide +kernel
theorem d10_6 : decode jdk_38_method_25_code 6 = .ok (.iadd, 1) := by decide +kernel
theorem d10_7 : decode jdk_38_method_25_code 7 = .ok (.putfield 63, 3) := by decide +kernel
theorem d10_10 : decode jdk_38_method_25_code 10 = .ok (.aload_n 0, 1) := by decide +kernel
theorem d10_11 : decode jdk_38_method_25_code 11 = .ok (.aload_n 1, 1) := by decide +kernel
theorem d10_12 : decode jdk_38_method_25_code 12 = .ok (.aload_n 0, 1) := by decide +kernel
theorem d10_13 : decode jdk_38_method_25_code 13 = .ok (.getfield 9, 3) := by decide +kernel
theorem d10_16 : decode jdk_38_method_25_code 16 = .ok (.aload_n 0, 1) := by decide +kernel
theorem d10_17 : decode jdk_38_method_25_code 17 = .ok (.getfield 48, 3) := by decide +kernel
theorem d10_20 : decode jdk_38_method_25_code 20 = .ok (.invokevirtual 131, 3) := by decide +kernel
theorem d10_23 : decode jdk_38_method_25_code 23 = .ok (.iconst 1, 1) := by decide +kernel
theorem d10_24 : decode jdk_38_method_25_code 24 = .ok (.ireturn, 1) := by decide +kernel
theorem pn_10 : plainName "java/util/ArrayList" = true := by first | (simp [plainName, overriddenIn]; done) | decide +kernel
theorem ef_aa0 (m : MethodId) (a0 : Addr) (a1 : Addr) : entryFrame m #[(.ref a0), (.ref a1)] 2 = mkF m 0 #[rv a0, rv a1] [] := by first | (simp [entryFrame, mkF, argsToLocals, Value.category]; done) | rfl
theorem pd_4 : parseMethodDescriptor "(Ljava/lang/Object;[Ljava/lang/Object;I)V" = some ⟨[(.object "java/lang/Object"), (.array (.object "java/lang/Object")), .int], none⟩ := by decide +kernel
def Qaa0 (Z : State) (a0 : Addr) (a1 : Addr) (ed : Addr) (kd : ClassId) (h0 : Heap) (n0 : Nat) (v : Option Value) (h : Heap) (L : List Loc) : Prop := ∃ (b : Addr) (kb : ClassId), v = some (.int 1) ∧ Fr n0 L ∧ Keep h0 h [a0] ∧ h0.size ≤ b ∧ Arv Z h b kb (.object "java/lang/Object") (10 : Int32) [(.ref a1), .null, .null, .null, .null] .null ∧ Ovr Z kb "java/lang/Object" ∧ Fld Z h a0 "java/util/AbstractList" "modCount" "I" (.int 1) ∧ Fld Z h a0 "java/util/ArrayList" "elementData" "[Ljava/lang/Object;" (.ref b) ∧ Fld Z h a0 "java/util/ArrayList" "size" "I" (.int 1)
theorem rmaa0 (l : Launch) (Z : State) (av0 : Array Value) (hw : ∀ d ∈ tables_1, d.before av0 Z = true) (ws : List Jvm.Cond) (a0 : Addr) (a1 : Addr) (ed : Addr) (kd : ClassId) (h0 : Heap) (n0 : Nat) (Z0 : n0 ≤ h0.size) (E_a0 : Exa Z h0 a0 "java/util/ArrayList") (F_modCount_a0 : Fld Z h0 a0 "java/util/AbstractList" "modCount" "I" (.int 0)) (F_elementData_a0 : Fld Z h0 a0 "java/util/ArrayList" "elementData" "[Ljava/lang/Object;" (.ref ed)) (F_size_a0 : Fld Z h0 a0 "java/util/ArrayList" "size" "I" (.int 0)) (g_a0 : n0 ≤ a0) (E_a1 : Exa Z h0 a1 "[D") (S_DEFAULTCAPACITY_EMPTY_ELEMENTDATA : Sta Z h0 "java/util/ArrayList" "DEFAULTCAPACITY_EMPTY_ELEMENTDATA" "[Ljava/lang/Object;" (.ref ed)) (VD : Arv Z h0 ed kd (.object "java/lang/Object") (0 : Int32) [] .null) (n_ed : ed ≠ a0) :
    MetFree l own_m11 (head1 (Jvm.Cond.code own_m11 jdk_38_method_25_code 2 (some .boolean) :: ws) ({ frames := 4, cells := 1, slots := 10, locals := 56 } : Room)) (fun a U => a = #[(.ref a0), (.ref a1)] ∧ Z.Warmed39 U.vm ∧ U.heap = h0) (fun _ _ _ _ _ => True) (fun _ U o U' => ∃ v L, o = .returned v ∧ Qaa0 Z a0 a1 ed kd h0 n0 v U'.heap L ∧ FrameEnd U o U' L ({ frames := 4, cells := 1, slots := 10, locals := 56 } : Room).cells ({ frames := 4, cells := 1, slots := 10, locals := 56 } : Room).slots) := by
  refine MetFree.of_bodySF (plainFor_of_name pn_10) hisR ?_
  intro p e s m args below meth c s₁ Bd hml0 hP hK
  obtain ⟨rfl, hZ, hh⟩ := hP
  have hx := Bd.exec
  have hby := Bd.bytes
  have hml : c.maxLocals = 2 := hml0
  have hown : s.vm.findClass "java/util/ArrayList" = some m.cls := findClass_of_methodNamed Bd.named
  have X0 : Stand p l e ({ frames := 4, cells := 1, slots := 10, locals := 56 } : Room) s m #[(.ref a0), (.ref a1)] below meth c s₁ [] 0 0 := Stand.of_body Bd
  have e0 : s₁.heap = h0 := by rw [← hh, Bd.state]; rfl
  have N0 := Fr.nil n0
  have K0 : Keep h0 h0 [a0] := Keep.refl h0 [a0]
  refine og (B := s₁.setTop (mkF m 0 #[rv a0, rv a1] [])) (fun t k => castTop (ef_aa0 m a0 a1) k) ?_
  refine og (B := s₁.setTop (mkF m 2 #[rv a0, rv a1] [(.ref a0), (.ref a0)])) (fun t k => ?_) ?_
  · refine XS.aloadN X0.here hx rfl (hb hby d10_0) rfl rfl ?_
    refine XS.dup X0.here hx rfl (hb hby d10_1) rfl rfl ?_
    exact k
  obtain ⟨T_1, X_1, e_1, st_1⟩ := getF X0 hx hZ hown (host := "") (Or.inl (ow hw 77 rfl)) (Via.of (ow hw 78 rfl)) e0 F_modCount_a0 (g := (mkF m 2 #[rv a0, rv a1] [(.ref a0), (.ref a0)])) rfl rfl (hb hby d10_2)
  refine og (fun t k => st_1 t k) ?_
  refine og (B := T_1.setTop (mkF m 7 #[rv a0, rv a1] [(.int 1), (.ref a0)])) (fun t k => ?_) ?_
  · refine XS.iconst X_1.here hx rfl (hb hby d10_5) ?_
    refine XS.iadd X_1.here hx rfl (hb hby d10_6) rfl ?_
    exact k
  obtain ⟨T_2, h_2, X_2, e_2, W_2, st_2⟩ := putF X_1 hx hZ hown (host := "") (Or.inl (ow hw 77 rfl)) (Via.of (ow hw 78 rfl)) e_1 F_modCount_a0 E_a0 (Or.inl (ow hw 37 rfl)) (ow hw 18 rfl) (ty := .int) (by decide) rfl rfl (g := (mkF m 7 #[rv a0, rv a1] [(.int 1), (.ref a0)])) rfl rfl (hb hby d10_7)
  have c1 := K0.wr W_2 (Or.inl (List.mem_of_getElem? (i := 0) rfl))
  have c2 := E_a0.wr W_2
  have c3 := F_modCount_a0.same W_2
  have c4 := F_elementData_a0.other W_2 (Or.inr (slot_ne (Or.inl (ow hw 40 rfl)) (Or.inl (ow hw 37 rfl)) (by decide) (t := (.array (.object "java/lang/Object"))) (t' := .int) (by decide) (by decide)))
  have c5 := F_size_a0.other W_2 (Or.inr (slot_ne (Or.inl (ow hw 68 rfl)) (Or.inl (ow hw 37 rfl)) (by decide) (t := .int) (t' := .int) (by decide) (by decide)))
  have c6 := E_a1.wr W_2
  have c7 := S_DEFAULTCAPACITY_EMPTY_ELEMENTDATA.wr W_2
  have c8 := VD.other W_2 n_ed
  have N_2 := Fr.snoc X_2 N0 g_a0
  have Z0__2 : n0 ≤ h_2.size := by rw [W_2.size]; exact Z0
  refine og (fun t k => st_2 t k) ?_
  refine og (B := T_2.setTop (mkF m 13 #[rv a0, rv a1] [(.ref a0), (.ref a1), (.ref a0)])) (fun t k => ?_) ?_
  · refine XS.aloadN X_2.here hx rfl (hb hby d10_10) rfl rfl ?_
    refine XS.aloadN X_2.here hx rfl (hb hby d10_11) rfl rfl ?_
    refine XS.aloadN X_2.here hx rfl (hb hby d10_12) rfl rfl ?_
    exact k
  obtain ⟨T_3, X_3, e_3, st_3⟩ := getF X_2 hx hZ hown (host := "") (Or.inl (ow hw 39 rfl)) Via.refl e_2 c4 (g := (mkF m 13 #[rv a0, rv a1] [(.ref a0), (.ref a1), (.ref a0)])) rfl rfl (hb hby d10_13)
  refine og (fun t k => st_3 t k) ?_
  refine og (B := T_3.setTop (mkF m 17 #[rv a0, rv a1] [(.ref a0), (.ref ed), (.ref a1), (.ref a0)])) (fun t k => ?_) ?_
  · refine XS.aloadN X_3.here hx rfl (hb hby d10_16) rfl rfl ?_
    exact k
  obtain ⟨T_4, X_4, e_4, st_4⟩ := getF X_3 hx hZ hown (host := "") (Or.inl (ow hw 67 rfl)) Via.refl e_3 c5 (g := (mkF m 17 #[rv a0, rv a1] [(.ref a0), (.ref ed), (.ref a1), (.ref a0)])) rfl rfl (hb hby d10_17)
  refine og (fun t k => st_4 t k) ?_
  have kk_5 := c1
  obtain ⟨cq_5, q_5a, q_5b⟩ := (c2).cell
  obtain ⟨_, _, ⟨T_5, L_5, k_5, n_5⟩, -, X_5, ⟨Lc_5, hQ_5, l_5, y_5, z_5⟩, st_5⟩ := X_4.privateBack hx (y := own_m12) hown (mvT hZ (ow hw 79 rfl)) (mvT hZ (ow hw 80 rfl)) (mvT hZ (ow hw 82 rfl)) (Cond.privateMethod_at (mvP hZ (ow hw 81 rfl) (args := #[]))) (mvT hZ (ow hw 83 rfl)) (by decide) (backOf (W := 0) (rmad0 l Z av0 hw [] a0 a1 ed (.int 1) kd h_2 n0 Z0__2 c2 c3 c4 c5 g_a0 c6 c7 c8) hZ (ow hw 83 rfl) (ow hw 19 rfl) (by decide) (by decide)) (g := (mkF m 20 #[rv a0, rv a1] [(.int 0), (.ref ed), (.ref a1), (.ref a0)])) rfl (by rw [hml]; rfl) (Steps.refl _) (a := a0) (by rw [(e_4 : _ = _)]; exact q_5a) q_5b (argsL := [(.ref a1), (.ref ed), (.int 0)]) (rest := []) (lenOf pd_4 rfl) rfl (by show 2 * 0 + _ ≤ _; exact Nat.le_of_eq rfl) (hb hby d10_20) (fun _ _ => ⟨rfl, e_4, (by decide : 0 + 1 ≤ _), (by decide : 0 + 10 ≤ _)⟩)
  dsimp only [Pt.U, Pt.locs, Pt.cells, Pt.slots] at X_5 l_5 y_5 z_5 st_5 hQ_5
  subst l_5 y_5 z_5
  obtain ⟨b_5, ke_5, rfl, N_5q, K_5, szq_5, VE_5, OE_5, Fm_5, Fe_5, Fs_5⟩ := hQ_5
  have N_5 := Fr.app N_2 N_5q
  have c9 := c1.trans K_5 (allS (Or.inl (List.mem_of_getElem? (i := 0) rfl)) all0)
  have c10 := c2.keep K_5
  have c11 := c6.keep K_5
  have c12 := own_stake c7 K_5 c2
  have c13 := c8.keep K_5 (ninS n_ed nin0)
  have Z0__5 : n0 ≤ T_5.heap.size := Nat.le_trans Z0__2 K_5.1
  have sz_b_5 : h0.size ≤ b_5 := Nat.le_trans kk_5.1 szq_5
  refine og (fun t k => st_5.trans k) ?_
  refine og (B := T_5.setTop (mkF m 24 #[rv a0, rv a1] [(.int 1)])) (fun t k => ?_) ?_
  · refine XS.iconst X_5.here hx rfl (hb hby d10_23) ?_
    exact k
  obtain ⟨fs, hr, hrun, hended, hW, hsame⟩ := X_5.leave (v := some (.int 1)) (fun h => by rw [Bd.returns] at h; cases h)
  refine ⟨_, _, ?_, hrun, hended, _, _, rfl, ?_, ⟨_, rfl⟩, hW, hsame.mono (by decide) (by decide)⟩
  · show Steps p.tables e below (T_5.setTop (mkF m 24 #[rv a0, rv a1] [(.int 1)])) _
    exact retN X_5 hx (t := .boolean) Bd.returns (by simp) (hb hby d10_24) hr
  · show Qaa0 Z a0 a1 ed kd h0 n0 _ T_5.heap _
    exact ⟨b_5, ke_5, rfl, N_5, c9, sz_b_5, VE_5, OE_5, Fm_5, Fe_5, Fs_5⟩
theorem ef_aa1 (m : MethodId) (a0 : Addr) (a1 : Addr) : entryFrame m #[(.ref a0), (.ref a1)] 2 = mkF m 0 #[rv a0, rv a1] [] := by first | (simp [entryFrame, mkF, argsToLocals, Value.category]; done) | rfl
def Qaa1 (Z : State) (a0 : Addr) (a1 : Addr) (ed : Addr) (ke : ClassId) (ca0 : Addr) (h0 : Heap) (n0 : Nat) (v : Option Value) (h : Heap) (L : List Loc) : Prop := v = some (.int 1) ∧ Fr n0 L ∧ Keep h0 h [a0, ed] ∧ Arv Z h ed ke (.object "java/lang/Object") (10 : Int32) [(.ref ca0), (.ref a1), .null, .null, .null] .null ∧ Fld Z h a0 "java/util/AbstractList" "modCount" "I" (.int (2 : Int32)) ∧ Fld Z h a0 "java/util/ArrayList" "elementData" "[Ljava/lang/Object;" (.ref ed) ∧ Fld Z h a0 "java/util/ArrayList" "size" "I" (.int (2 : Int32))
theorem rmaa1 (l : Launch) (Z : State) (av0 : Array Value) (hw : ∀ d ∈ tables_1, d.before av0 Z = true) (ws : List Jvm.Cond) (a0 : Addr) (a1 : Addr) (ed : Addr) (ke : ClassId) (ca0 : Addr) (h0 : Heap) (n0 : Nat) (Z0 : n0 ≤ h0.size) (E_a0 : Exa Z h0 a0 "java/util/ArrayList") (F_modCount_a0 : Fld Z h0 a0 "java/util/AbstractList" "modCount" "I" (.int 1)) (F_elementData_a0 : Fld Z h0 a0 "java/util/ArrayList" "elementData" "[Ljava/lang/Object;" (.ref ed)) (F_size_a0 : Fld Z h0 a0 "java/util/ArrayList" "size" "I" (.int 1)) (g_a0 : n0 ≤ a0) (E_a1 : Exa Z h0 a1 "[D") (g_ed : n0 ≤ ed) (VE : Arv Z h0 ed ke (.object "java/lang/Object") (10 : Int32) [(.ref ca0), .null, .null, .null, .null] .null) (OE : Ovr Z ke "java/lang/Object") (ne02 : a0 ≠ ed) :
    MetFree l own_m11 (head1 (Jvm.Cond.code own_m11 jdk_38_method_25_code 2 (some .boolean) :: ws) ({ frames := 1, cells := 0, slots := 0, locals := 15 } : Room)) (fun a U => a = #[(.ref a0), (.ref a1)] ∧ Z.Warmed39 U.vm ∧ U.heap = h0) (fun _ _ _ _ _ => True) (fun _ U o U' => ∃ v L, o = .returned v ∧ Qaa1 Z a0 a1 ed ke ca0 h0 n0 v U'.heap L ∧ FrameEnd U o U' L ({ frames := 1, cells := 0, slots := 0, locals := 15 } : Room).cells ({ frames := 1, cells := 0, slots := 0, locals := 15 } : Room).slots) := by
  refine MetFree.of_bodySF (plainFor_of_name pn_10) hisR ?_
  intro p e s m args below meth c s₁ Bd hml0 hP hK
  obtain ⟨rfl, hZ, hh⟩ := hP
  have hx := Bd.exec
  have hby := Bd.bytes
  have hml : c.maxLocals = 2 := hml0
  have hown : s.vm.findClass "java/util/ArrayList" = some m.cls := findClass_of_methodNamed Bd.named
  have X0 : Stand p l e ({ frames := 1, cells := 0, slots := 0, locals := 15 } : Room) s m #[(.ref a0), (.ref a1)] below meth c s₁ [] 0 0 := Stand.of_body Bd
  have e0 : s₁.heap = h0 := by rw [← hh, Bd.state]; rfl
  have N0 := Fr.nil n0
  have K0 : Keep h0 h0 [a0, ed] := Keep.refl h0 [a0, ed]
  refine og (B := s₁.setTop (mkF m 0 #[rv a0, rv a1] [])) (fun t k => castTop (ef_aa1 m a0 a1) k) ?_
  refine og (B := s₁.setTop (mkF m 2 #[rv a0, rv a1] [(.ref a0), (.ref a0)])) (fun t k => ?_) ?_
  · refine XS.aloadN X0.here hx rfl (hb hby d10_0) rfl rfl ?_
    refine XS.dup X0.here hx rfl (hb hby d10_1) rfl rfl ?_
    exact k
  obtain ⟨T_1, X_1, e_1, st_1⟩ := getF X0 hx hZ hown (host := "") (Or.inl (ow hw 77 rfl)) (Via.of (ow hw 78 rfl)) e0 F_modCount_a0 (g := (mkF m 2 #[rv a0, rv a1] [(.ref a0), (.ref a0)])) rfl rfl (hb hby d10_2)
  refine og (fun t k => st_1 t k) ?_
  refine og (B := T_1.setTop (mkF m 7 #[rv a0, rv a1] [(.int 2), (.ref a0)])) (fun t k => ?_) ?_
  · refine XS.iconst X_1.here hx rfl (hb hby d10_5) ?_
    refine XS.iadd X_1.here hx rfl (hb hby d10_6) rfl ?_
    exact k
  obtain ⟨T_2, h_2, X_2, e_2, W_2, st_2⟩ := putF X_1 hx hZ hown (host := "") (Or.inl (ow hw 77 rfl)) (Via.of (ow hw 78 rfl)) e_1 F_modCount_a0 E_a0 (Or.inl (ow hw 37 rfl)) (ow hw 18 rfl) (ty := .int) (by decide) rfl rfl (g := (mkF m 7 #[rv a0, rv a1] [(.int 2), (.ref a0)])) rfl rfl (hb hby d10_7)
  have c1 := K0.wr W_2 (Or.inl (List.mem_of_getElem? (i := 0) rfl))
  have c2 := E_a0.wr W_2
  have c3 := F_modCount_a0.same W_2
  have c4 := F_elementData_a0.other W_2 (Or.inr (slot_ne (Or.inl (ow hw 40 rfl)) (Or.inl (ow hw 37 rfl)) (by decide) (t := (.array (.object "java/lang/Object"))) (t' := .int) (by decide) (by decide)))
  have c5 := F_size_a0.other W_2 (Or.inr (slot_ne (Or.inl (ow hw 68 rfl)) (Or.inl (ow hw 37 rfl)) (by decide) (t := .int) (t' := .int) (by decide) (by decide)))
  have c6 := E_a1.wr W_2
  have c7 := VE.other W_2 (Ne.symm ne02)
  have N_2 := Fr.snoc X_2 N0 g_a0
  have Z0__2 : n0 ≤ h_2.size := by rw [W_2.size]; exact Z0
  refine og (fun t k => st_2 t k) ?_
  refine og (B := T_2.setTop (mkF m 13 #[rv a0, rv a1] [(.ref a0), (.ref a1), (.ref a0)])) (fun t k => ?_) ?_
  · refine XS.aloadN X_2.here hx rfl (hb hby d10_10) rfl rfl ?_
    refine XS.aloadN X_2.here hx rfl (hb hby d10_11) rfl rfl ?_
    refine XS.aloadN X_2.here hx rfl (hb hby d10_12) rfl rfl ?_
    exact k
  obtain ⟨T_3, X_3, e_3, st_3⟩ := getF X_2 hx hZ hown (host := "") (Or.inl (ow hw 39 rfl)) Via.refl e_2 c4 (g := (mkF m 13 #[rv a0, rv a1] [(.ref a0), (.ref a1), (.ref a0)])) rfl rfl (hb hby d10_13)
  refine og (fun t k => st_3 t k) ?_
  refine og (B := T_3.setTop (mkF m 17 #[rv a0, rv a1] [(.ref a0), (.ref ed), (.ref a1), (.ref a0)])) (fun t k => ?_) ?_
  · refine XS.aloadN X_3.here hx rfl (hb hby d10_16) rfl rfl ?_
    exact k
  obtain ⟨T_4, X_4, e_4, st_4⟩ := getF X_3 hx hZ hown (host := "") (Or.inl (ow hw 67 rfl)) Via.refl e_3 c5 (g := (mkF m 17 #[rv a0, rv a1] [(.ref a0), (.ref ed), (.ref a1), (.ref a0)])) rfl rfl (hb hby d10_17)
  refine og (fun t k => st_4 t k) ?_
  obtain ⟨cq_5, q_5a, q_5b⟩ := (c2).cell
  obtain ⟨_, _, ⟨T_5, L_5, k_5, n_5⟩, -, X_5, ⟨Lc_5, hQ_5, l_5, y_5, z_5⟩, st_5⟩ := X_4.privateBack hx (y := own_m12) hown (mvT hZ (ow hw 79 rfl)) (mvT hZ (ow hw 80 rfl)) (mvT hZ (ow hw 82 rfl)) (Cond.privateMethod_at (mvP hZ (ow hw 81 rfl) (args := #[]))) (mvT hZ (ow hw 83 rfl)) (by decide) (backOf (W := 0) (rmad1 l Z av0 hw [] a0 a1 ed (.int (2 : Int32)) ke ca0 h_2 n0 Z0__2 c2 c3 c4 c5 g_a0 g_ed c6 c7 OE ne02) hZ (ow hw 83 rfl) (ow hw 19 rfl) (by decide) (by decide)) (g := (mkF m 20 #[rv a0, rv a1] [(.int 1), (.ref ed), (.ref a1), (.ref a0)])) rfl (by rw [hml]; rfl) (Steps.refl _) (a := a0) (by rw [(e_4 : _ = _)]; exact q_5a) q_5b (argsL := [(.ref a1), (.ref ed), (.int 1)]) (rest := []) (lenOf pd_4 rfl) rfl (by show 2 * 0 + _ ≤ _; exact Nat.le_of_eq rfl) (hb hby d10_20) (fun _ _ => ⟨rfl, e_4, (by decide : 0 + 0 ≤ _), (by decide : 0 + 0 ≤ _)⟩)
  dsimp only [Pt.U, Pt.locs, Pt.cells, Pt.slots] at X_5 l_5 y_5 z_5 st_5 hQ_5
  subst l_5 y_5 z_5
  obtain ⟨rfl, N_5q, K_5, VE_5, Fm_5, Fe_5, Fs_5⟩ := hQ_5
  have N_5 := Fr.app N_2 N_5q
  have c8 := c1.trans K_5 (allS (Or.inl (List.mem_of_getElem? (i := 0) rfl)) (allS (Or.inl (List.mem_of_getElem? (i := 1) rfl)) all0))
  have c9 := c2.keep K_5
  have c10 := c6.keep K_5
  have Z0__5 : n0 ≤ T_5.heap.size := Nat.le_trans Z0__2 K_5.1
  refine og (fun t k => st_5.trans k) ?_
  refine og (B := T_5.setTop (mkF m 24 #[rv a0, rv a1] [(.int 1)])) (fun t k => ?_) ?_
  · refine XS.iconst X_5.here hx rfl (hb hby d10_23) ?_
    exact k
  obtain ⟨fs, hr, hrun, hended, hW, hsame⟩ := X_5.leave (v := some (.int 1)) (fun h => by rw [Bd.returns] at h; cases h)
  refine ⟨_, _, ?_, hrun, hended, _, _, rfl, ?_, ⟨_, rfl⟩, hW, hsame.mono (by decide) (by decide)⟩
  · show Steps p.tables e below (T_5.setTop (mkF m 24 #[rv a0, rv a1] [(.int 1)])) _
    exact retN X_5 hx (t := .boolean) Bd.returns (by simp) (hb hby d10_24) hr
  · show Qaa1 Z a0 a1 ed ke ca0 h0 n0 _ T_5.heap _
    exact ⟨rfl, N_5, c8, VE_5, Fm_5, Fe_5, Fs_5⟩
theorem ef_aa2 (m : MethodId) (a0 : Addr) (a1 : Addr) : entryFrame m #[(.ref a0), (.ref a1)] 2 = mkF m 0 #[rv a0, rv a1] [] := by first | (simp [entryFrame, mkF, argsToLocals, Value.category]; done) | rfl
def Qaa2 (Z : State) (a0 : Addr) (a1 : Addr) (ed : Addr) (ke : ClassId) (ca0 : Addr) (ca1 : Addr) (h0 : Heap) (n0 : Nat) (v : Option Value) (h : Heap) (L : List Loc) : Prop := v = some (.int 1) ∧ Fr n0 L ∧ Keep h0 h [a0, ed] ∧ Arv Z h ed ke (.object "java/lang/Object") (10 : Int32) [(.ref ca0), (.ref ca1), (.ref a1), .null, .null] .null ∧ Fld Z h a0 "java/util/AbstractList" "modCount" "I" (.int (3 : Int32)) ∧ Fld Z h a0 "java/util/ArrayList" "elementData" "[Ljava/lang/Object;" (.ref ed) ∧ Fld Z h a0 "java/util/ArrayList" "size" "I" (.int (3 : Int32))
theorem rmaa2 (l : Launch) (Z : State) (av0 : Array Value) (hw : ∀ d ∈ tables_1, d.before av0 Z = true) (ws : List Jvm.Cond) (a0 : Addr) (a1 : Addr) (ed : Addr) (ke : ClassId) (ca0 : Addr) (ca1 : Addr) (h0 : Heap) (n0 : Nat) (Z0 : n0 ≤ h0.size) (E_a0 : Exa Z h0 a0 "java/util/ArrayList") (F_modCount_a0 : Fld Z h0 a0 "java/util/AbstractList" "modCount" "I" (.int 2)) (F_elementData_a0 : Fld Z h0 a0 "java/util/ArrayList" "elementData" "[Ljava/lang/Object;" (.ref ed)) (F_size_a0 : Fld Z h0 a0 "java/util/ArrayList" "size" "I" (.int 2)) (g_a0 : n0 ≤ a0) (E_a1 : Exa Z h0 a1 "[D") (g_ed : n0 ≤ ed) (VE : Arv Z h0 ed ke (.object "java/lang/Object") (10 : Int32) [(.ref ca0), (.ref ca1), .null, .null, .null] .null) (OE : Ovr Z ke "java/lang/Object") (ne02 : a0 ≠ ed) :
    MetFree l own_m11 (head1 (Jvm.Cond.code own_m11 jdk_38_method_25_code 2 (some .boolean) :: ws) ({ frames := 1, cells := 0, slots := 0, locals := 15 } : Room)) (fun a U => a = #[(.ref a0), (.ref a1)] ∧ Z.Warmed39 U.vm ∧ U.heap = h0) (fun _ _ _ _ _ => True) (fun _ U o U' => ∃ v L, o = .returned v ∧ Qaa2 Z a0 a1 ed ke ca0 ca1 h0 n0 v U'.heap L ∧ FrameEnd U o U' L ({ frames := 1, cells := 0, slots := 0, locals := 15 } : Room).cells ({ frames := 1, cells := 0, slots := 0, locals := 15 } : Room).slots) := by
  refine MetFree.of_bodySF (plainFor_of_name pn_10) hisR ?_
  intro p e s m args below meth c s₁ Bd hml0 hP hK
  obtain ⟨rfl, hZ, hh⟩ := hP
  have hx := Bd.exec
  have hby := Bd.bytes
  have hml : c.maxLocals = 2 := hml0
  have hown : s.vm.findClass "java/util/ArrayList" = some m.cls := findClass_of_methodNamed Bd.named
  have X0 : Stand p l e ({ frames := 1, cells := 0, slots := 0, locals := 15 } : Room) s m #[(.ref a0), (.ref a1)] below meth c s₁ [] 0 0 := Stand.of_body Bd
  have e0 : s₁.heap = h0 := by rw [← hh, Bd.state]; rfl
  have N0 := Fr.nil n0
  have K0 : Keep h0 h0 [a0, ed] := Keep.refl h0 [a0, ed]
  refine og (B := s₁.setTop (mkF m 0 #[rv a0, rv a1] [])) (fun t k => castTop (ef_aa2 m a0 a1) k) ?_
  refine og (B := s₁.setTop (mkF m 2 #[rv a0, rv a1] [(.ref a0), (.ref a0)])) (fun t k => ?_) ?_
  · refine XS.aloadN X0.here hx rfl (hb hby d10_0) rfl rfl ?_
    refine XS.dup X0.here hx rfl (hb hby d10_1) rfl rfl ?_
    exact k
  obtain ⟨T_1, X_1, e_1, st_1⟩ := getF X0 hx hZ hown (host := "") (Or.inl (ow hw 77 rfl)) (Via.of (ow hw 78 rfl)) e0 F_modCount_a0 (g := (mkF m 2 #[rv a0, rv a1] [(.ref a0), (.ref a0)])) rfl rfl (hb hby d10_2)
  refine og (fun t k => st_1 t k) ?_
  refine og (B := T_1.setTop (mkF m 7 #[rv a0, rv a1] [(.int 3), (.ref a0)])) (fun t k => ?_) ?_
  · refine XS.iconst X_1.here hx rfl (hb hby d10_5) ?_
    refine XS.iadd X_1.here hx rfl (hb hby d10_6) rfl ?_
    exact k
  obtain ⟨T_2, h_2, X_2, e_2, W_2, st_2⟩ := putF X_1 hx hZ hown (host := "") (Or.inl (ow hw 77 rfl)) (Via.of (ow hw 78 rfl)) e_1 F_modCount_a0 E_a0 (Or.inl (ow hw 37 rfl)) (ow hw 18 rfl) (ty := .int) (by decide) rfl rfl (g := (mkF m 7 #[rv a0, rv a1] [(.int 3), (.ref a0)])) rfl rfl (hb hby d10_7)
  have c1 := K0.wr W_2 (Or.inl (List.mem_of_getElem? (i := 0) rfl))
  have c2 := E_a0.wr W_2
  have c3 := F_modCount_a0.same W_2
  have c4 := F_elementData_a0.other W_2 (Or.inr (slot_ne (Or.inl (ow hw 40 rfl)) (Or.inl (ow hw 37 rfl)) (by decide) (t := (.array (.object "java/lang/Object"))) (t' := .int) (by decide) (by decide)))
  have c5 := F_size_a0.other W_2 (Or.inr (slot_ne (Or.inl (ow hw 68 rfl)) (Or.inl (ow hw 37 rfl)) (by decide) (t := .int) (t' := .int) (by decide) (by decide)))
  have c6 := E_a1.wr W_2
  have c7 := VE.other W_2 (Ne.symm ne02)
  have N_2 := Fr.snoc X_2 N0 g_a0
  have Z0__2 : n0 ≤ h_2.size := by rw [W_2.size]; exact Z0
  refine og (fun t k => st_2 t k) ?_
  refine og (B := T_2.setTop (mkF m 13 #[rv a0, rv a1] [(.ref a0), (.ref a1), (.ref a0)])) (fun t k => ?_) ?_
  · refine XS.aloadN X_2.here hx rfl (hb hby d10_10) rfl rfl ?_
    refine XS.aloadN X_2.here hx rfl (hb hby d10_11) rfl rfl ?_
    refine XS.aloadN X_2.here hx rfl (hb hby d10_12) rfl rfl ?_
    exact k
  obtain ⟨T_3, X_3, e_3, st_3⟩ := getF X_2 hx hZ hown (host := "") (Or.inl (ow hw 39 rfl)) Via.refl e_2 c4 (g := (mkF m 13 #[rv a0, rv a1] [(.ref a0), (.ref a1), (.ref a0)])) rfl rfl (hb hby d10_13)
  refine og (fun t k => st_3 t k) ?_
  refine og (B := T_3.setTop (mkF m 17 #[rv a0, rv a1] [(.ref a0), (.ref ed), (.ref a1), (.ref a0)])) (fun t k => ?_) ?_
  · refine XS.aloadN X_3.here hx rfl (hb hby d10_16) rfl rfl ?_
    exact k
  obtain ⟨T_4, X_4, e_4, st_4⟩ := getF X_3 hx hZ hown (host := "") (Or.inl (ow hw 67 rfl)) Via.refl e_3 c5 (g := (mkF m 17 #[rv a0, rv a1] [(.ref a0), (.ref ed), (.ref a1), (.ref a0)])) rfl rfl (hb hby d10_17)
  refine og (fun t k => st_4 t k) ?_
  obtain ⟨cq_5, q_5a, q_5b⟩ := (c2).cell
  obtain ⟨_, _, ⟨T_5, L_5, k_5, n_5⟩, -, X_5, ⟨Lc_5, hQ_5, l_5, y_5, z_5⟩, st_5⟩ := X_4.privateBack hx (y := own_m12) hown (mvT hZ (ow hw 79 rfl)) (mvT hZ (ow hw 80 rfl)) (mvT hZ (ow hw 82 rfl)) (Cond.privateMethod_at (mvP hZ (ow hw 81 rfl) (args := #[]))) (mvT hZ (ow hw 83 rfl)) (by decide) (backOf (W := 0) (rmad2 l Z av0 hw [] a0 a1 ed (.int (3 : Int32)) ke ca0 ca1 h_2 n0 Z0__2 c2 c3 c4 c5 g_a0 g_ed c6 c7 OE ne02) hZ (ow hw 83 rfl) (ow hw 19 rfl) (by decide) (by decide)) (g := (mkF m 20 #[rv a0, rv a1] [(.int 2), (.ref ed), (.ref a1), (.ref a0)])) rfl (by rw [hml]; rfl) (Steps.refl _) (a := a0) (by rw [(e_4 : _ = _)]; exact q_5a) q_5b (argsL := [(.ref a1), (.ref ed), (.int 2)]) (rest := []) (lenOf pd_4 rfl) rfl (by show 2 * 0 + _ ≤ _; exact Nat.le_of_eq rfl) (hb hby d10_20) (fun _ _ => ⟨rfl, e_4, (by decide : 0 + 0 ≤ _), (by decide : 0 + 0 ≤ _)⟩)
  dsimp only [Pt.U, Pt.locs, Pt.cells, Pt.slots] at X_5 l_5 y_5 z_5 st_5 hQ_5
  subst l_5 y_5 z_5
  obtain ⟨rfl, N_5q, K_5, VE_5, Fm_5, Fe_5, Fs_5⟩ := hQ_5
  have N_5 := Fr.app N_2 N_5q
  have c8 := c1.trans K_5 (allS (Or.inl (List.mem_of_getElem? (i := 0) rfl)) (allS (Or.inl (List.mem_of_getElem? (i := 1) rfl)) all0))
  have c9 := c2.keep K_5
  have c10 := c6.keep K_5
  have Z0__5 : n0 ≤ T_5.heap.size := Nat.le_trans Z0__2 K_5.1
  refine og (fun t k => st_5.trans k) ?_
  refine og (B := T_5.setTop (mkF m 24 #[rv a0, rv a1] [(.int 1)])) (fun t k => ?_) ?_
  · refine XS.iconst X_5.here hx rfl (hb hby d10_23) ?_
    exact k
  obtain ⟨fs, hr, hrun, hended, hW, hsame⟩ := X_5.leave (v := some (.int 1)) (fun h => by rw [Bd.returns] at h; cases h)
  refine ⟨_, _, ?_, hrun, hended, _, _, rfl, ?_, ⟨_, rfl⟩, hW, hsame.mono (by decide) (by decide)⟩
  · show Steps p.tables e below (T_5.setTop (mkF m 24 #[rv a0, rv a1] [(.int 1)])) _
    exact retN X_5 hx (t := .boolean) Bd.returns (by simp) (hb hby d10_24) hr
  · show Qaa2 Z a0 a1 ed ke ca0 ca1 h0 n0 _ T_5.heap _
    exact ⟨rfl, N_5, c8, VE_5, Fm_5, Fe_5, Fs_5⟩
theorem ef_aa3 (m : MethodId) (a0 : Addr) (a1 : Addr) : entryFrame m #[(.ref a0), (.ref a1)] 2 = mkF m 0 #[rv a0, rv a1] [] := by first | (simp [entryFrame, mkF, argsToLocals, Value.category]; done) | rfl
def Qaa3 (Z : State) (a0 : Addr) (a1 : Addr) (ed : Addr) (ke : ClassId) (ca0 : Addr) (ca1 : Addr) (ca2 : Addr) (h0 : Heap) (n0 : Nat) (v : Option Value) (h : Heap) (L : List Loc) : Prop := v = some (.int 1) ∧ Fr n0 L ∧ Keep h0 h [a0, ed] ∧ Arv Z h ed ke (.object "java/lang/Object") (10 : Int32) [(.ref ca0), (.ref ca1), (.ref ca2), (.ref a1), .null] .null ∧ Fld Z h a0 "java/util/AbstractList" "modCount" "I" (.int (4 : Int32)) ∧ Fld Z h a0 "java/util/ArrayList" "elementData" "[Ljava/lang/Object;" (.ref ed) ∧ Fld Z h a0 "java/util/ArrayList" "size" "I" (.int (4 : Int32))
theorem rmaa3 (l : Launch) (Z : State) (av0 : Array Value) (hw : ∀ d ∈ tables_1, d.before av0 Z = true) (ws : List Jvm.Cond) (a0 : Addr) (a1 : Addr) (ed : Addr) (ke : ClassId) (ca0 : Addr) (ca1 : Addr) (ca2 : Addr) (h0 : Heap) (n0 : Nat) (Z0 : n0 ≤ h0.size) (E_a0 : Exa Z h0 a0 "java/util/ArrayList") (F_modCount_a0 : Fld Z h0 a0 "java/util/AbstractList" "modCount" "I" (.int 3)) (F_elementData_a0 : Fld Z h0 a0 "java/util/ArrayList" "elementData" "[Ljava/lang/Object;" (.ref ed)) (F_size_a0 : Fld Z h0 a0 "java/util/ArrayList" "size" "I" (.int 3)) (g_a0 : n0 ≤ a0) (E_a1 : Exa Z h0 a1 "[D") (g_ed : n0 ≤ ed) (VE : Arv Z h0 ed ke (.object "java/lang/Object") (10 : Int32) [(.ref ca0), (.ref ca1), (.ref ca2), .null, .null] .null) (OE : Ovr Z ke "java/lang/Object") (ne02 : a0 ≠ ed) :
    MetFree l own_m11 (head1 (Jvm.Cond.code own_m11 jdk_38_method_25_code 2 (some .boolean) :: ws) ({ frames := 1, cells := 0, slots := 0, locals := 15 } : Room)) (fun a U => a = #[(.ref a0), (.ref a1)] ∧ Z.Warmed39 U.vm ∧ U.heap = h0) (fun _ _ _ _ _ => True) (fun _ U o U' => ∃ v L, o = .returned v ∧ Qaa3 Z a0 a1 ed ke ca0 ca1 ca2 h0 n0 v U'.heap L ∧ FrameEnd U o U' L ({ frames := 1, cells := 0, slots := 0, locals := 15 } : Room).cells ({ frames := 1, cells := 0, slots := 0, locals := 15 } : Room).slots) := by
  refine MetFree.of_bodySF (plainFor_of_name pn_10) hisR ?_
  intro p e s m args below meth c s₁ Bd hml0 hP hK
  obtain ⟨rfl, hZ, hh⟩ := hP
  have hx := Bd.exec
  have hby := Bd.bytes
  have hml : c.maxLocals = 2 := hml0
  have hown : s.vm.findClass "java/util/ArrayList" = some m.cls := findClass_of_methodNamed Bd.named
  have X0 : Stand p l e ({ frames := 1, cells := 0, slots := 0, locals := 15 } : Room) s m #[(.ref a0), (.ref a1)] below meth c s₁ [] 0 0 := Stand.of_body Bd
  have e0 : s₁.heap = h0 := by rw [← hh, Bd.state]; rfl
  have N0 := Fr.nil n0
  have K0 : Keep h0 h0 [a0, ed] := Keep.refl h0 [a0, ed]
  refine og (B := s₁.setTop (mkF m 0 #[rv a0, rv a1] [])) (fun t k => castTop (ef_aa3 m a0 a1) k) ?_
  refine og (B := s₁.setTop (mkF m 2 #[rv a0, rv a1] [(.ref a0), (.ref a0)])) (fun t k => ?_) ?_
  · refine XS.aloadN X0.here hx rfl (hb hby d10_0) rfl rfl ?_
    refine XS.dup X0.here hx rfl (hb hby d10_1) rfl rfl ?_
    exact k
  obtain ⟨T_1, X_1, e_1, st_1⟩ := getF X0 hx hZ hown (host := "") (Or.inl (ow hw 77 rfl)) (Via.of (ow hw 78 rfl)) e0 F_modCount_a0 (g := (mkF m 2 #[rv a0, rv a1] [(.ref a0), (.ref a0)])) rfl rfl (hb hby d10_2)
  refine og (fun t k => st_1 t k) ?_
  refine og (B := T_1.setTop (mkF m 7 #[rv a0, rv a1] [(.int 4), (.ref a0)])) (fun t k => ?_) ?_
  · refine XS.iconst X_1.here hx rfl (hb hby d10_5) ?_
    refine XS.iadd X_1.here hx rfl (hb hby d10_6) rfl ?_
    exact k
  obtain ⟨T_2, h_2, X_2, e_2, W_2, st_2⟩ := putF X_1 hx hZ hown (host := "") (Or.inl (ow hw 77 rfl)) (Via.of (ow hw 78 rfl)) e_1 F_modCount_a0 E_a0 (Or.inl (ow hw 37 rfl)) (ow hw 18 rfl) (ty := .int) (by decide) rfl rfl (g := (mkF m 7 #[rv a0, rv a1] [(.int 4), (.ref a0)])) rfl rfl (hb hby d10_7)
  have c1 := K0.wr W_2 (Or.inl (List.mem_of_getElem? (i := 0) rfl))
  have c2 := E_a0.wr W_2
  have c3 := F_modCount_a0.same W_2
  have c4 := F_elementData_a0.other W_2 (Or.inr (slot_ne (Or.inl (ow hw 40 rfl)) (Or.inl (ow hw 37 rfl)) (by decide) (t := (.array (.object "java/lang/Object"))) (t' := .int) (by decide) (by decide)))
  have c5 := F_size_a0.other W_2 (Or.inr (slot_ne (Or.inl (ow hw 68 rfl)) (Or.inl (ow hw 37 rfl)) (by decide) (t := .int) (t' := .int) (by decide) (by decide)))
  have c6 := E_a1.wr W_2
  have c7 := VE.other W_2 (Ne.symm ne02)
  have N_2 := Fr.snoc X_2 N0 g_a0
  have Z0__2 : n0 ≤ h_2.size := by rw [W_2.size]; exact Z0
  refine og (fun t k => st_2 t k) ?_
  refine og (B := T_2.setTop (mkF m 13 #[rv a0, rv a1] [(.ref a0), (.ref a1), (.ref a0)])) (fun t k => ?_) ?_
  · refine XS.aloadN X_2.here hx rfl (hb hby d10_10) rfl rfl ?_
    refine XS.aloadN X_2.here hx rfl (hb hby d10_11) rfl rfl ?_
    refine XS.aloadN X_2.here hx rfl (hb hby d10_12) rfl rfl ?_
    exact k
  obtain ⟨T_3, X_3, e_3, st_3⟩ := getF X_2 hx hZ hown (host := "") (Or.inl (ow hw 39 rfl)) Via.refl e_2 c4 (g := (mkF m 13 #[rv a0, rv a1] [(.ref a0), (.ref a1), (.ref a0)])) rfl rfl (hb hby d10_13)
  refine og (fun t k => st_3 t k) ?_
  refine og (B := T_3.setTop (mkF m 17 #[rv a0, rv a1] [(.ref a0), (.ref ed), (.ref a1), (.ref a0)])) (fun t k => ?_) ?_
  · refine XS.aloadN X_3.here hx rfl (hb hby d10_16) rfl rfl ?_
    exact k
  obtain ⟨T_4, X_4, e_4, st_4⟩ := getF X_3 hx hZ hown (host := "") (Or.inl (ow hw 67 rfl)) Via.refl e_3 c5 (g := (mkF m 17 #[rv a0, rv a1] [(.ref a0), (.ref ed), (.ref a1), (.ref a0)])) rfl rfl (hb hby d10_17)
  refine og (fun t k => st_4 t k) ?_
  obtain ⟨cq_5, q_5a, q_5b⟩ := (c2).cell
  obtain ⟨_, _, ⟨T_5, L_5, k_5, n_5⟩, -, X_5, ⟨Lc_5, hQ_5, l_5, y_5, z_5⟩, st_5⟩ := X_4.privateBack hx (y := own_m12) hown (mvT hZ (ow hw 79 rfl)) (mvT hZ (ow hw 80 rfl)) (mvT hZ (ow hw 82 rfl)) (Cond.privateMethod_at (mvP hZ (ow hw 81 rfl) (args := #[]))) (mvT hZ (ow hw 83 rfl)) (by decide) (backOf (W := 0) (rmad3 l Z av0 hw [] a0 a1 ed (.int (4 : Int32)) ke ca0 ca1 ca2 h_2 n0 Z0__2 c2 c3 c4 c5 g_a0 g_ed c6 c7 OE ne02) hZ (ow hw 83 rfl) (ow hw 19 rfl) (by decide) (by decide)) (g := (mkF m 20 #[rv a0, rv a1] [(.int 3), (.ref ed), (.ref a1), (.ref a0)])) rfl (by rw [hml]; rfl) (Steps.refl _) (a := a0) (by rw [(e_4 : _ = _)]; exact q_5a) q_5b (argsL := [(.ref a1), (.ref ed), (.int 3)]) (rest := []) (lenOf pd_4 rfl) rfl (by show 2 * 0 + _ ≤ _; exact Nat.le_of_eq rfl) (hb hby d10_20) (fun _ _ => ⟨rfl, e_4, (by decide : 0 + 0 ≤ _), (by decide : 0 + 0 ≤ _)⟩)
  dsimp only [Pt.U, Pt.locs, Pt.cells, Pt.slots] at X_5 l_5 y_5 z_5 st_5 hQ_5
  subst l_5 y_5 z_5
  obtain ⟨rfl, N_5q, K_5, VE_5, Fm_5, Fe_5, Fs_5⟩ := hQ_5
  have N_5 := Fr.app N_2 N_5q
  have c8 := c1.trans K_5 (allS (Or.inl (List.mem_of_getElem? (i := 0) rfl)) (allS (Or.inl (List.mem_of_getElem? (i := 1) rfl)) all0))
  have c9 := c2.keep K_5
  have c10 := c6.keep K_5
  have Z0__5 : n0 ≤ T_5.heap.size := Nat.le_trans Z0__2 K_5.1
  refine og (fun t k => st_5.trans k) ?_
  refine og (B := T_5.setTop (mkF m 24 #[rv a0, rv a1] [(.int 1)])) (fun t k => ?_) ?_
  · refine XS.iconst X_5.here hx rfl (hb hby d10_23) ?_
    exact k
  obtain ⟨fs, hr, hrun, hended, hW, hsame⟩ := X_5.leave (v := some (.int 1)) (fun h => by rw [Bd.returns] at h; cases h)
  refine ⟨_, _, ?_, hrun, hended, _, _, rfl, ?_, ⟨_, rfl⟩, hW, hsame.mono (by decide) (by decide)⟩
  · show Steps p.tables e below (T_5.setTop (mkF m 24 #[rv a0, rv a1] [(.int 1)])) _
    exact retN X_5 hx (t := .boolean) Bd.returns (by simp) (hb hby d10_24) hr
  · show Qaa3 Z a0 a1 ed ke ca0 ca1 ca2 h0 n0 _ T_5.heap _
    exact ⟨rfl, N_5, c8, VE_5, Fm_5, Fe_5, Fs_5⟩
theorem ef_aa4 (m : MethodId) (a0 : Addr) (a1 : Addr) : entryFrame m #[(.ref a0), (.ref a1)] 2 = mkF m 0 #[rv a0, rv a1] [] := by first | (simp [entryFrame, mkF, argsToLocals, Value.category]; done) | rfl
def Qaa4 (Z : State) (a0 : Addr) (a1 : Addr) (ed : Addr) (ke : ClassId) (ca0 : Addr) (ca1 : Addr) (ca2 : Addr) (ca3 : Addr) (h0 : Heap) (n0 : Nat) (v : Option Value) (h : Heap) (L : List Loc) : Prop := v = some (.int 1) ∧ Fr n0 L ∧ Keep h0 h [a0, ed] ∧ Arv Z h ed ke (.object "java/lang/Object") (10 : Int32) [(.ref ca0), (.ref ca1), (.ref ca2), (.ref ca3), (.ref a1)] .null ∧ Fld Z h a0 "java/util/AbstractList" "modCount" "I" (.int (5 : Int32)) ∧ Fld Z h a0 "java/util/ArrayList" "elementData" "[Ljava/lang/Object;" (.ref ed) ∧ Fld Z h a0 "java/util/ArrayList" "size" "I" (.int (5 : Int32))
theorem rmaa4 (l : Launch) (Z : State) (av0 : Array Value) (hw : ∀ d ∈ tables_1, d.before av0 Z = true) (ws : List Jvm.Cond) (a0 : Addr) (a1 : Addr) (ed : Addr) (ke : ClassId) (ca0 : Addr) (ca1 : Addr) (ca2 : Addr) (ca3 : Addr) (h0 : Heap) (n0 : Nat) (Z0 : n0 ≤ h0.size) (E_a0 : Exa Z h0 a0 "java/util/ArrayList") (F_modCount_a0 : Fld Z h0 a0 "java/util/AbstractList" "modCount" "I" (.int 4)) (F_elementData_a0 : Fld Z h0 a0 "java/util/ArrayList" "elementData" "[Ljava/lang/Object;" (.ref ed)) (F_size_a0 : Fld Z h0 a0 "java/util/ArrayList" "size" "I" (.int 4)) (g_a0 : n0 ≤ a0) (E_a1 : Exa Z h0 a1 "[D") (g_ed : n0 ≤ ed) (VE : Arv Z h0 ed ke (.object "java/lang/Object") (10 : Int32) [(.ref ca0), (.ref ca1), (.ref ca2), (.ref ca3), .null] .null) (OE : Ovr Z ke "java/lang/Object") (ne02 : a0 ≠ ed) :
    MetFree l own_m11 (head1 (Jvm.Cond.code own_m11 jdk_38_method_25_code 2 (some .boolean) :: ws) ({ frames := 1, cells := 0, slots := 0, locals := 15 } : Room)) (fun a U => a = #[(.ref a0), (.ref a1)] ∧ Z.Warmed39 U.vm ∧ U.heap = h0) (fun _ _ _ _ _ => True) (fun _ U o U' => ∃ v L, o = .returned v ∧ Qaa4 Z a0 a1 ed ke ca0 ca1 ca2 ca3 h0 n0 v U'.heap L ∧ FrameEnd U o U' L ({ frames := 1, cells := 0, slots := 0, locals := 15 } : Room).cells ({ frames := 1, cells := 0, slots := 0, locals := 15 } : Room).slots) := by
  refine MetFree.of_bodySF (plainFor_of_name pn_10) hisR ?_
  intro p e s m args below meth c s₁ Bd hml0 hP hK
  obtain ⟨rfl, hZ, hh⟩ := hP
  have hx := Bd.exec
  have hby := Bd.bytes
  have hml : c.maxLocals = 2 := hml0
  have hown : s.vm.findClass "java/util/ArrayList" = some m.cls := findClass_of_methodNamed Bd.named
  have X0 : Stand p l e ({ frames := 1, cells := 0, slots := 0, locals := 15 } : Room) s m #[(.ref a0), (.ref a1)] below meth c s₁ [] 0 0 := Stand.of_body Bd
  have e0 : s₁.heap = h0 := by rw [← hh, Bd.state]; rfl
  have N0 := Fr.nil n0
  have K0 : Keep h0 h0 [a0, ed] := Keep.refl h0 [a0, ed]
  refine og (B := s₁.setTop (mkF m 0 #[rv a0, rv a1] [])) (fun t k => castTop (ef_aa4 m a0 a1) k) ?_
  refine og (B := s₁.setTop (mkF m 2 #[rv a0, rv a1] [(.ref a0), (.ref a0)])) (fun t k => ?_) ?_
  · refine XS.aloadN X0.here hx rfl (hb hby d10_0) rfl rfl ?_
    refine XS.dup X0.here hx rfl (hb hby d10_1) rfl rfl ?_
    exact k
  obtain ⟨T_1, X_1, e_1, st_1⟩ := getF X0 hx hZ hown (host := "") (Or.inl (ow hw 77 rfl)) (Via.of (ow hw 78 rfl)) e0 F_modCount_a0 (g := (mkF m 2 #[rv a0, rv a1] [(.ref a0), (.ref a0)])) rfl rfl (hb hby d10_2)
  refine og (fun t k => st_1 t k) ?_
  refine og (B := T_1.setTop (mkF m 7 #[rv a0, rv a1] [(.int 5), (.ref a0)])) (fun t k => ?_) ?_
  · refine XS.iconst X_1.here hx rfl (hb hby d10_5) ?_
    refine XS.iadd X_1.here hx rfl (hb hby d10_6) rfl ?_
    exact k
  obtain ⟨T_2, h_2, X_2, e_2, W_2, st_2⟩ := putF X_1 hx hZ hown (host := "") (Or.inl (ow hw 77 rfl)) (Via.of (ow hw 78 rfl)) e_1 F_modCount_a0 E_a0 (Or.inl (ow hw 37 rfl)) (ow hw 18 rfl) (ty := .int) (by decide) rfl rfl (g := (mkF m 7 #[rv a0, rv a1] [(.int 5), (.ref a0)])) rfl rfl (hb hby d10_7)
  have c1 := K0.wr W_2 (Or.inl (List.mem_of_getElem? (i := 0) rfl))
  have c2 := E_a0.wr W_2
  have c3 := F_modCount_a0.same W_2
  have c4 := F_elementData_a0.other W_2 (Or.inr (slot_ne (Or.inl (ow hw 40 rfl)) (Or.inl (ow hw 37 rfl)) (by decide) (t := (.array (.object "java/lang/Object"))) (t' := .int) (by decide) (by decide)))
  have c5 := F_size_a0.other W_2 (Or.inr (slot_ne (Or.inl (ow hw 68 rfl)) (Or.inl (ow hw 37 rfl)) (by decide) (t := .int) (t' := .int) (by decide) (by decide)))
  have c6 := E_a1.wr W_2
  have c7 := VE.other W_2 (Ne.symm ne02)
  have N_2 := Fr.snoc X_2 N0 g_a0
  have Z0__2 : n0 ≤ h_2.size := by rw [W_2.size]; exact Z0
  refine og (fun t k => st_2 t k) ?_
  refine og (B := T_2.setTop (mkF m 13 #[rv a0, rv a1] [(.ref a0), (.ref a1), (.ref a0)])) (fun t k => ?_) ?_
  · refine XS.aloadN X_2.here hx rfl (hb hby d10_10) rfl rfl ?_
    refine XS.aloadN X_2.here hx rfl (hb hby d10_11) rfl rfl ?_
    refine XS.aloadN X_2.here hx rfl (hb hby d10_12) rfl rfl ?_
    exact k
  obtain ⟨T_3, X_3, e_3, st_3⟩ := getF X_2 hx hZ hown (host := "") (Or.inl (ow hw 39 rfl)) Via.refl e_2 c4 (g := (mkF m 13 #[rv a0, rv a1] [(.ref a0), (.ref a1), (.ref a0)])) rfl rfl (hb hby d10_13)
  refine og (fun t k => st_3 t k) ?_
  refine og (B := T_3.setTop (mkF m 17 #[rv a0, rv a1] [(.ref a0), (.ref ed), (.ref a1), (.ref a0)])) (fun t k => ?_) ?_
  · refine XS.aloadN X_3.here hx rfl (hb hby d10_16) rfl rfl ?_
    exact k
  obtain ⟨T_4, X_4, e_4, st_4⟩ := getF X_3 hx hZ hown (host := "") (Or.inl (ow hw 67 rfl)) Via.refl e_3 c5 (g := (mkF m 17 #[rv a0, rv a1] [(.ref a0), (.ref ed), (.ref a1), (.ref a0)])) rfl rfl (hb hby d10_17)
  refine og (fun t k => st_4 t k) ?_
  obtain ⟨cq_5, q_5a, q_5b⟩ := (c2).cell
  obtain ⟨_, _, ⟨T_5, L_5, k_5, n_5⟩, -, X_5, ⟨Lc_5, hQ_5, l_5, y_5, z_5⟩, st_5⟩ := X_4.privateBack hx (y := own_m12) hown (mvT hZ (ow hw 79 rfl)) (mvT hZ (ow hw 80 rfl)) (mvT hZ (ow hw 82 rfl)) (Cond.privateMethod_at (mvP hZ (ow hw 81 rfl) (args := #[]))) (mvT hZ (ow hw 83 rfl)) (by decide) (backOf (W := 0) (rmad4 l Z av0 hw [] a0 a1 ed (.int (5 : Int32)) ke ca0 ca1 ca2 ca3 h_2 n0 Z0__2 c2 c3 c4 c5 g_a0 g_ed c6 c7 OE ne02) hZ (ow hw 83 rfl) (ow hw 19 rfl) (by decide) (by decide)) (g := (mkF m 20 #[rv a0, rv a1] [(.int 4), (.ref ed), (.ref a1), (.ref a0)])) rfl (by rw [hml]; rfl) (Steps.refl _) (a := a0) (by rw [(e_4 : _ = _)]; exact q_5a) q_5b (argsL := [(.ref a1), (.ref ed), (.int 4)]) (rest := []) (lenOf pd_4 rfl) rfl (by show 2 * 0 + _ ≤ _; exact Nat.le_of_eq rfl) (hb hby d10_20) (fun _ _ => ⟨rfl, e_4, (by decide : 0 + 0 ≤ _), (by decide : 0 + 0 ≤ _)⟩)
  dsimp only [Pt.U, Pt.locs, Pt.cells, Pt.slots] at X_5 l_5 y_5 z_5 st_5 hQ_5
  subst l_5 y_5 z_5
  obtain ⟨rfl, N_5q, K_5, VE_5, Fm_5, Fe_5, Fs_5⟩ := hQ_5
  have N_5 := Fr.app N_2 N_5q
  have c8 := c1.trans K_5 (allS (Or.inl (List.mem_of_getElem? (i := 0) rfl)) (allS (Or.inl (List.mem_of_getElem? (i := 1) rfl)) all0))
  have c9 := c2.keep K_5
  have c10 := c6.keep K_5
  have Z0__5 : n0 ≤ T_5.heap.size := Nat.le_trans Z0__2 K_5.1
  refine og (fun t k => st_5.trans k) ?_
  refine og (B := T_5.setTop (mkF m 24 #[rv a0, rv a1] [(.int 1)])) (fun t k => ?_) ?_
  · refine XS.iconst X_5.here hx rfl (hb hby d10_23) ?_
    exact k
  obtain ⟨fs, hr, hrun, hended, hW, hsame⟩ := X_5.leave (v := some (.int 1)) (fun h => by rw [Bd.returns] at h; cases h)
  refine ⟨_, _, ?_, hrun, hended, _, _, rfl, ?_, ⟨_, rfl⟩, hW, hsame.mono (by decide) (by decide)⟩
  · show Steps p.tables e below (T_5.setTop (mkF m 24 #[rv a0, rv a1] [(.int 1)])) _
    exact retN X_5 hx (t := .boolean) Bd.returns (by simp) (hb hby d10_24) hr
  · show Qaa4 Z a0 a1 ed ke ca0 ca1 ca2 ca3 h0 n0 _ T_5.heap _
    exact ⟨rfl, N_5, c8, VE_5, Fm_5, Fe_5, Fs_5⟩
theorem d8_0 : decode prog_36_method_7_code 0 = .ok (.aload_n 0, 1) := by decide +kernel
theorem d8_1 : decode prog_36_method_7_code 1 = .ok (.getfield 10, 3) := by decide +kernel
theorem d8_4 : decode prog_36_method_7_code 4 = .ok (.invokeinterface 59 1, 5) := by decide +kernel
theorem d8_9 : decode prog_36_method_7_code 9 = .ok (.istore 4, 2) := by decide +kernel
theorem d8_11 : decode prog_36_method_7_code 11 = .ok (.iload 4, 2) := by decide +kernel
theorem d8_13 : decode prog_36_method_7_code 13 = .ok (.aload_n 0, 1) := by decide +kernel
theorem d8_14 : decode prog_36_method_7_code 14 = .ok (.getfield 16, 3) := by decide +kernel
theorem d8_17 : decode prog_36_method_7_code 17 = .ok (.arraylength, 1) := by decide +kernel
theorem d8_18 : decode prog_36_method_7_code 18 = .ok (.if_icmp .ne 33, 3) := by decide +kernel
theorem d8_51 : decode prog_36_method_7_code 51 = .ok (.aload_n 0, 1) := by decide +kernel
theorem d8_52 : decode prog_36_method_7_code 52 = .ok (.getfield 10, 3) := by decide +kernel
theorem d8_55 : decode prog_36_method_7_code 55 = .ok (.aload_n 1, 1) := by decide +kernel
theorem d8_56 : decode prog_36_method_7_code 56 = .ok (.invokeinterface 121 2, 5) := by decide +kernel
theorem d8_61 : decode prog_36_method_7_code 61 = .ok (.pop, 1) := by decide +kernel
theorem d8_62 : decode prog_36_method_7_code 62 = .ok (.aload_n 0, 1) := by decide +kernel
theorem d8_63 : decode prog_36_method_7_code 63 = .ok (.getfield 16, 3) := by decide +kernel
theorem d8_66 : decode prog_36_method_7_code 66 = .ok (.iload 4, 2) := by decide +kernel
theorem d8_68 : decode prog_36_method_7_code 68 = .ok (.dload_n 2, 1) := by decide +kernel
theorem d8_69 : decode prog_36_method_7_code 69 = .ok (.dastore, 1) := by decide +kernel
theorem d8_70 : decode prog_36_method_7_code 70 = .ok (.aload_n 0, 1) := by decide +kernel
theorem d8_71 : decode prog_36_method_7_code 71 = .ok (.getfield 20, 3) := by decide +kernel
theorem d8_74 : decode prog_36_method_7_code 74 = .ok (.iload 4, 2) := by decide +kernel
theorem d8_76 : decode prog_36_method_7_code 76 = .ok (.iconst (-1), 1) := by decide +kernel
theorem d8_77 : decode prog_36_method_7_code 77 = .ok (.iastore, 1) := by decide +kernel
theorem d8_78 : decode prog_36_method_7_code 78 = .ok (.return_, 1) := by decide +kernel
theorem pn_8 : plainName "com/example/ballast/ballast/placement/CuttingPlanes" = true := by first | (simp [plainName, overriddenIn]; done) | decide +kernel
theorem ef_ac0 (m : MethodId) (a0 : Addr) (a1 : Addr) (x2 : UInt64) : entryFrame m #[(.ref a0), (.ref a1), (.double x2)] 5 = mkF m 0 #[rv a0, rv a1, oD x2, oS, oU] [] := by first | (simp [entryFrame, mkF, argsToLocals, Value.category]; done) | rfl
theorem pd_5 : parseMethodDescriptor "()I" = some ⟨[], some .int⟩ := by decide +kernel
theorem pd_6 : parseMethodDescriptor "(Ljava/lang/Object;)Z" = some ⟨[(.object "java/lang/Object")], some .boolean⟩ := by decide +kernel
def Qac0 (Z : State) (a0 : Addr) (a1 : Addr) (x2 : UInt64) (al : Addr) (va : Addr) (ro : Addr) (ed : Addr) (ka : ClassId) (kr : ClassId) (kd : ClassId) (h0 : Heap) (n0 : Nat) (v : Option Value) (h : Heap) (L : List Loc) : Prop := ∃ (b : Addr) (kb : ClassId), v = none ∧ Fr n0 L ∧ Keep h0 h [al, va, ro] ∧ h0.size ≤ b ∧ Arv Z h b kb (.object "java/lang/Object") (10 : Int32) [(.ref a1), .null, .null, .null, .null] .null ∧ Ovr Z kb "java/lang/Object" ∧ Fld Z h al "java/util/AbstractList" "modCount" "I" (.int (1 : Int32)) ∧ Fld Z h al "java/util/ArrayList" "elementData" "[Ljava/lang/Object;" (.ref b) ∧ Fld Z h al "java/util/ArrayList" "size" "I" (.int (1 : Int32)) ∧ Arv Z h va ka .double (16 : Int32) [(.double x2), (.double 0), (.double 0), (.double 0), (.double 0)] (.double 0) ∧ Arv Z h ro kr .int (16 : Int32) [(.int (-1)), (.int 0), (.int 0), (.int 0), (.int 0)] (.int (0 : Int32))
theorem rmac0 (l : Launch) (Z : State) (av0 : Array Value) (hw : ∀ d ∈ tables_1, d.before av0 Z = true) (ws : List Jvm.Cond) (a0 : Addr) (a1 : Addr) (x2 : UInt64) (al : Addr) (va : Addr) (ro : Addr) (ed : Addr) (ka : ClassId) (kr : ClassId) (kd : ClassId) (h0 : Heap) (n0 : Nat) (Z0 : n0 ≤ h0.size) (E_a0 : Exa Z h0 a0 "com/example/ballast/ballast/placement/CuttingPlanes") (F_columns_a0 : Fld Z h0 a0 "com/example/ballast/ballast/placement/CuttingPlanes" "columns" "Ljava/util/List;" (.ref al)) (F_values_a0 : Fld Z h0 a0 "com/example/ballast/ballast/placement/CuttingPlanes" "values" "[D" (.ref va)) (F_rowOf_a0 : Fld Z h0 a0 "com/example/ballast/ballast/placement/CuttingPlanes" "rowOf" "[I" (.ref ro)) (E_al : Exa Z h0 al "java/util/ArrayList") (F_modCount_al : Fld Z h0 al "java/util/AbstractList" "modCount" "I" (.int 0)) (F_elementData_al : Fld Z h0 al "java/util/ArrayList" "elementData" "[Ljava/lang/Object;" (.ref ed)) (F_size_al : Fld Z h0 al "java/util/ArrayList" "size" "I" (.int 0)) (g_al : n0 ≤ al) (g_va : n0 ≤ va) (g_ro : n0 ≤ ro) (E_a1 : Exa Z h0 a1 "[D") (VA : Arv Z h0 va ka .double (16 : Int32) [(.double 0), (.double 0), (.double 0), (.double 0), (.double 0)] (.double 0)) (VR : Arv Z h0 ro kr .int (16 : Int32) [(.int 0), (.int 0), (.int 0), (.int 0), (.int 0)] (.int (0 : Int32))) (S_DEFAULTCAPACITY_EMPTY_ELEMENTDATA : Sta Z h0 "java/util/ArrayList" "DEFAULTCAPACITY_EMPTY_ELEMENTDATA" "[Ljava/lang/Object;" (.ref ed)) (VD : Arv Z h0 ed kd (.object "java/lang/Object") (0 : Int32) [] .null) (n_ed : ed ≠ al) (n_a0_al : a0 ≠ al) (n_a0_va : a0 ≠ va) (n_a0_ro : a0 ≠ ro) (n_al_va : al ≠ va) (n_al_ro : al ≠ ro) (n_va_ro : va ≠ ro) :
    MetFree l own_m9 (head1 (Jvm.Cond.code own_m9 prog_36_method_7_code 5 none :: ws) ({ frames := 5, cells := 1, slots := 10, locals := 69 } : Room)) (fun a U => a = #[(.ref a0), (.ref a1), (.double x2)] ∧ Z.Warmed39 U.vm ∧ U.heap = h0) (fun _ _ _ _ _ => True) (fun _ U o U' => ∃ v L, o = .returned v ∧ Qac0 Z a0 a1 x2 al va ro ed ka kr kd h0 n0 v U'.heap L ∧ FrameEnd U o U' L ({ frames := 5, cells := 1, slots := 10, locals := 69 } : Room).cells ({ frames := 5, cells := 1, slots := 10, locals := 69 } : Room).slots) := by
  refine MetFree.of_bodySF (plainFor_of_name pn_8) hisR ?_
  intro p e s m args below meth c s₁ Bd hml0 hP hK
  obtain ⟨rfl, hZ, hh⟩ := hP
  have hx := Bd.exec
  have hby := Bd.bytes
  have hml : c.maxLocals = 5 := hml0
  have hown : s.vm.findClass "com/example/ballast/ballast/placement/CuttingPlanes" = some m.cls := findClass_of_methodNamed Bd.named
  have X0 : Stand p l e ({ frames := 5, cells := 1, slots := 10, locals := 69 } : Room) s m #[(.ref a0), (.ref a1), (.double x2)] below meth c s₁ [] 0 0 := Stand.of_body Bd
  have e0 : s₁.heap = h0 := by rw [← hh, Bd.state]; rfl
  have N0 := Fr.nil n0
  have K0 : Keep h0 h0 [al, va, ro] := Keep.refl h0 [al, va, ro]
  refine og (B := s₁.setTop (mkF m 0 #[rv a0, rv a1, oD x2, oS, oU] [])) (fun t k => castTop (ef_ac0 m a0 a1 x2) k) ?_
  refine og (B := s₁.setTop (mkF m 1 #[rv a0, rv a1, oD x2, oS, oU] [(.ref a0)])) (fun t k => ?_) ?_
  · refine XS.aloadN X0.here hx rfl (hb hby d8_0) rfl rfl ?_
    exact k
  obtain ⟨T_1, X_1, e_1, st_1⟩ := getF X0 hx hZ hown (host := "") (Or.inl (ow hw 41 rfl)) Via.refl e0 F_columns_a0 (g := (mkF m 1 #[rv a0, rv a1, oD x2, oS, oU] [(.ref a0)])) rfl rfl (hb hby d8_1)
  refine og (fun t k => st_1 t k) ?_
  obtain ⟨cq_2, kq_2, q_2a, q_2b, q_2c⟩ := isOf hZ e_1 E_al
  obtain ⟨_, _, ⟨T_2, L_2, k_2, n_2⟩, -, X_2, ⟨Lc_2, hQ_2, l_2, y_2, z_2⟩, st_2⟩ := X_1.interfaceBack hx (xi := own_m30) (y := own_m10) hown (mvT hZ (ow hw 58 rfl)) (mvT hZ (ow hw 59 rfl)) (mvT hZ (ow hw 60 rfl)) (mvT hZ (ow hw 61 rfl)) (mvT hZ (ow hw 62 rfl)) (mvT hZ (ow hw 63 rfl)) (mvT hZ (ow hw 64 rfl)) (mvT hZ (ow hw 65 rfl)) (by decide) (backOf (W := 0) (rmalz l Z av0 hw [] al (0 : Int32) h0 n0 Z0 F_size_al) hZ (ow hw 66 rfl) (ow hw 19 rfl) (by decide) (by decide)) q_2a q_2b q_2c (g := (mkF m 4 #[rv a0, rv a1, oD x2, oS, oU] [(.ref al)])) rfl (by rw [hml]; rfl) (Steps.refl _) (argsL := []) (rest := []) (lenOf pd_5 rfl) rfl (by show 2 * 0 + _ ≤ _; exact Nat.le_of_eq rfl) (hb hby d8_4) (fun _ _ => ⟨rfl, e_1, (by decide : 0 + 0 ≤ _), (by decide : 0 + 0 ≤ _)⟩)
  dsimp only [Pt.U, Pt.locs, Pt.cells, Pt.slots] at X_2 l_2 y_2 z_2 st_2 hQ_2
  subst l_2 y_2 z_2
  obtain ⟨rfl, N_2q, e_2⟩ := hQ_2
  have N_2 := Fr.app N0 N_2q
  refine og (fun t k => st_2.trans k) ?_
  refine og (B := T_2.setTop (mkF m 14 #[rv a0, rv a1, oD x2, oS, iv 0] [(.ref a0), (.int 0)])) (fun t k => ?_) ?_
  · refine XS.istore X_2.here hx rfl (hb hby d8_9) rfl (l' := #[rv a0, rv a1, oD x2, oS, iv 0]) rfl ?_
    refine XS.iload X_2.here hx rfl (hb hby d8_11) rfl ?_
    refine XS.aloadN X_2.here hx rfl (hb hby d8_13) rfl rfl ?_
    exact k
  obtain ⟨T_3, X_3, e_3, st_3⟩ := getF X_2 hx hZ hown (host := "") (Or.inl (ow hw 43 rfl)) Via.refl e_2 F_values_a0 (g := (mkF m 14 #[rv a0, rv a1, oD x2, oS, iv 0] [(.ref a0), (.int 0)])) rfl rfl (hb hby d8_14)
  refine og (fun t k => st_3 t k) ?_
  obtain ⟨cl_4, Ar_4, -, S_4, M_4, -, -⟩ := id VA
  refine og (B := T_3.setTop (mkF m 18 #[rv a0, rv a1, oD x2, oS, iv 0] [(.int 16), (.int 0)])) (fun t k => X_3.arraylength hx (by rw [(e_3 : _ = _)]; exact Ar_4.1) (State.isArrayOf_alike hZ.alike Ar_4.2.1) (g := (mkF m 17 #[rv a0, rv a1, oD x2, oS, iv 0] [(.ref va), (.int 0)])) rfl rfl (hb hby d8_17) t (by rw [len_of S_4 M_4]; exact k)) ?_
  refine og (B := T_3.setTop (mkF m 51 #[rv a0, rv a1, oD x2, oS, iv 0] [])) (fun t k => ?_) ?_
  · refine XS.icmpYes X_3.here hx rfl (pc0 := 18) (pc' := 51) rfl (hb hby d8_18) rfl (feq (by decide : ¬ ((0 : Int32) = (16 : Int32)))).2 (by decide) (by decide) ?_
    exact k
  refine og (B := T_3.setTop (mkF m 52 #[rv a0, rv a1, oD x2, oS, iv 0] [(.ref a0)])) (fun t k => ?_) ?_
  · refine XS.aloadN X_3.here hx rfl (hb hby d8_51) rfl rfl ?_
    exact k
  obtain ⟨T_5, X_5, e_5, st_5⟩ := getF X_3 hx hZ hown (host := "") (Or.inl (ow hw 41 rfl)) Via.refl e_3 F_columns_a0 (g := (mkF m 52 #[rv a0, rv a1, oD x2, oS, iv 0] [(.ref a0)])) rfl rfl (hb hby d8_52)
  refine og (fun t k => st_5 t k) ?_
  refine og (B := T_5.setTop (mkF m 56 #[rv a0, rv a1, oD x2, oS, iv 0] [(.ref a1), (.ref al)])) (fun t k => ?_) ?_
  · refine XS.aloadN X_5.here hx rfl (hb hby d8_55) rfl rfl ?_
    exact k
  have kk_6 := K0
  have lt_va_6 := (VA).lt
  have lt_ro_6 := (VR).lt
  have lt_al_6 := (E_al).lt
  obtain ⟨cq_6, kq_6, q_6a, q_6b, q_6c⟩ := isOf hZ e_5 E_al
  obtain ⟨_, _, ⟨T_6, L_6, k_6, n_6⟩, -, X_6, ⟨Lc_6, hQ_6, l_6, y_6, z_6⟩, st_6⟩ := X_5.interfaceBack hx (xi := own_m31) (y := own_m11) hown (mvT hZ (ow hw 69 rfl)) (mvT hZ (ow hw 70 rfl)) (mvT hZ (ow hw 71 rfl)) (mvT hZ (ow hw 72 rfl)) (mvT hZ (ow hw 73 rfl)) (mvT hZ (ow hw 74 rfl)) (mvT hZ (ow hw 75 rfl)) (mvT hZ (ow hw 65 rfl)) (by decide) (backOf (W := 0) (rmaa0 l Z av0 hw [] al a1 ed kd h0 n0 Z0 E_al F_modCount_al F_elementData_al F_size_al g_al E_a1 S_DEFAULTCAPACITY_EMPTY_ELEMENTDATA VD n_ed) hZ (ow hw 76 rfl) (ow hw 19 rfl) (by decide) (by decide)) q_6a q_6b q_6c (g := (mkF m 56 #[rv a0, rv a1, oD x2, oS, iv 0] [(.ref a1), (.ref al)])) rfl (by rw [hml]; rfl) (Steps.refl _) (argsL := [(.ref a1)]) (rest := []) (lenOf pd_6 rfl) rfl (by show 2 * 0 + _ ≤ _; exact Nat.le_of_eq rfl) (hb hby d8_56) (fun _ _ => ⟨rfl, e_5, (by decide : 0 + 1 ≤ _), (by decide : 0 + 10 ≤ _)⟩)
  dsimp only [Pt.U, Pt.locs, Pt.cells, Pt.slots] at X_6 l_6 y_6 z_6 st_6 hQ_6
  subst l_6 y_6 z_6
  obtain ⟨b_6, ke_6, rfl, N_6q, K_6, szq_6, VE_6, OE_6, Fm_6, Fe_6, Fs_6⟩ := hQ_6
  have N_6 := Fr.app N_2 N_6q
  have c1 := K0.trans K_6 (allS (Or.inl (List.mem_of_getElem? (i := 0) rfl)) all0)
  have c2 := E_a0.keep K_6
  have c3 := F_columns_a0.keep K_6 (ninS n_a0_al nin0)
  have c4 := F_values_a0.keep K_6 (ninS n_a0_al nin0)
  have c5 := F_rowOf_a0.keep K_6 (ninS n_a0_al nin0)
  have c6 := E_al.keep K_6
  have c7 := E_a1.keep K_6
  have c8 := own_stake S_DEFAULTCAPACITY_EMPTY_ELEMENTDATA K_6 E_al
  have c9 := VD.keep K_6 (ninS n_ed nin0)
  have c10 := VA.keep K_6 (ninS (Ne.symm n_al_va) nin0)
  have c11 := VR.keep K_6 (ninS (Ne.symm n_al_ro) nin0)
  have Z0__6 : n0 ≤ T_6.heap.size := Nat.le_trans Z0 K_6.1
  have sz_b_6 : h0.size ≤ b_6 := Nat.le_trans kk_6.1 szq_6
  have nx_va_6 : va ≠ b_6 := Nat.ne_of_lt (Nat.lt_of_lt_of_le lt_va_6 szq_6)
  have nx_ro_6 : ro ≠ b_6 := Nat.ne_of_lt (Nat.lt_of_lt_of_le lt_ro_6 szq_6)
  have nx_al_6 : al ≠ b_6 := Nat.ne_of_lt (Nat.lt_of_lt_of_le lt_al_6 szq_6)
  refine og (fun t k => st_6.trans k) ?_
  refine og (B := T_6.setTop (mkF m 63 #[rv a0, rv a1, oD x2, oS, iv 0] [(.ref a0)])) (fun t k => ?_) ?_
  · refine XS.pop X_6.here hx rfl (hb hby d8_61) rfl rfl ?_
    refine XS.aloadN X_6.here hx rfl (hb hby d8_62) rfl rfl ?_
    exact k
  obtain ⟨T_7, X_7, e_7, st_7⟩ := getF X_6 hx hZ hown (host := "") (Or.inl (ow hw 43 rfl)) Via.refl rfl c4 (g := (mkF m 63 #[rv a0, rv a1, oD x2, oS, iv 0] [(.ref a0)])) rfl rfl (hb hby d8_63)
  refine og (fun t k => st_7 t k) ?_
  refine og (B := T_7.setTop (mkF m 69 #[rv a0, rv a1, oD x2, oS, iv 0] [(.double x2), (.int 0), (.ref va)])) (fun t k => ?_) ?_
  · refine XS.iload X_7.here hx rfl (hb hby d8_66) rfl ?_
    refine XS.dloadN X_7.here hx rfl (hb hby d8_68) rfl ?_
    exact k
  obtain ⟨cl_8, Ar_8, q_8, S_8, M_8, H_8, G_8⟩ := id c10
  have hin_8 : ¬ ((0 : Int32) < 0 ∨ cl_8.slots.size ≤ ((0 : Int32)).toNatClampNeg) := inb_of S_8 ⟨by decide, by decide⟩
  obtain ⟨T_8, h_8, X_8, e_8, W_8, st_8⟩ := stD X_7 hx hZ e_7 Ar_8 (j := (0 : Int32)) hin_8 (g := (mkF m 69 #[rv a0, rv a1, oD x2, oS, iv 0] [(.double x2), (.int 0), (.ref va)])) rfl rfl (hb hby d8_69)
  have c12 := c1.wr W_8 (Or.inl (List.mem_of_getElem? (i := 1) rfl))
  have c13 := c2.wr W_8
  have c14 := c3.other W_8 (Or.inl n_a0_va)
  have c15 := c4.other W_8 (Or.inl n_a0_va)
  have c16 := c5.other W_8 (Or.inl n_a0_va)
  have c17 := c6.wr W_8
  have c18 := c7.wr W_8
  have c19 := c8.wr W_8
  have c20 := c11.other W_8 (Ne.symm n_va_ro)
  have c21 := VE_6.other W_8 (Ne.symm nx_va_6)
  have c22 := Fm_6.other W_8 (Or.inl n_al_va)
  have c23 := Fe_6.other W_8 (Or.inl n_al_va)
  have c24 := Fs_6.other W_8 (Or.inl n_al_va)
  have V_8 : Arv Z h_8 va ka .double (16 : Int32) [(.double x2), (.double 0), (.double 0), (.double 0), (.double 0)] (.double 0) := Arv.set Ar_8 q_8 S_8 M_8 H_8 G_8 rfl W_8 0 rfl (Nat.le_of_ble_eq_true rfl)
  have N_8 := Fr.snoc X_8 N_6 g_va
  have Z0__8 : n0 ≤ h_8.size := by rw [W_8.size]; exact Z0__6
  refine og (fun t k => st_8 t k) ?_
  refine og (B := T_8.setTop (mkF m 71 #[rv a0, rv a1, oD x2, oS, iv 0] [(.ref a0)])) (fun t k => ?_) ?_
  · refine XS.aloadN X_8.here hx rfl (hb hby d8_70) rfl rfl ?_
    exact k
  obtain ⟨T_9, X_9, e_9, st_9⟩ := getF X_8 hx hZ hown (host := "") (Or.inl (ow hw 46 rfl)) Via.refl e_8 c16 (g := (mkF m 71 #[rv a0, rv a1, oD x2, oS, iv 0] [(.ref a0)])) rfl rfl (hb hby d8_71)
  refine og (fun t k => st_9 t k) ?_
  refine og (B := T_9.setTop (mkF m 77 #[rv a0, rv a1, oD x2, oS, iv 0] [(.int (-1)), (.int 0), (.ref ro)])) (fun t k => ?_) ?_
  · refine XS.iload X_9.here hx rfl (hb hby d8_74) rfl ?_
    refine XS.iconst X_9.here hx rfl (hb hby d8_76) ?_
    exact k
  obtain ⟨cl_10, Ar_10, q_10, S_10, M_10, H_10, G_10⟩ := id c20
  have hin_10 : ¬ ((0 : Int32) < 0 ∨ cl_10.slots.size ≤ ((0 : Int32)).toNatClampNeg) := inb_of S_10 ⟨by decide, by decide⟩
  obtain ⟨T_10, h_10, X_10, e_10, W_10, st_10⟩ := stI X_9 hx hZ e_9 Ar_10 (j := (0 : Int32)) hin_10 (g := (mkF m 77 #[rv a0, rv a1, oD x2, oS, iv 0] [(.int (-1)), (.int 0), (.ref ro)])) rfl rfl (hb hby d8_77)
  have c25 := c12.wr W_10 (Or.inl (List.mem_of_getElem? (i := 2) rfl))
  have c26 := c13.wr W_10
  have c27 := c14.other W_10 (Or.inl n_a0_ro)
  have c28 := c15.other W_10 (Or.inl n_a0_ro)
  have c29 := c16.other W_10 (Or.inl n_a0_ro)
  have c30 := c17.wr W_10
  have c31 := c18.wr W_10
  have c32 := c19.wr W_10
  have c33 := V_8.other W_10 n_va_ro
  have c34 := c21.other W_10 (Ne.symm nx_ro_6)
  have c35 := c22.other W_10 (Or.inl n_al_ro)
  have c36 := c23.other W_10 (Or.inl n_al_ro)
  have c37 := c24.other W_10 (Or.inl n_al_ro)
  have V_10 : Arv Z h_10 ro kr .int (16 : Int32) [(.int (-1)), (.int 0), (.int 0), (.int 0), (.int 0)] (.int (0 : Int32)) := Arv.set Ar_10 q_10 S_10 M_10 H_10 G_10 rfl W_10 0 rfl (Nat.le_of_ble_eq_true rfl)
  have N_10 := Fr.snoc X_10 N_8 g_ro
  have Z0__10 : n0 ≤ h_10.size := by rw [W_10.size]; exact Z0__8
  refine og (fun t k => st_10 t k) ?_
  obtain ⟨fs, hr, hrun, hended, hW, hsame⟩ := X_10.leave (v := none) (fun _ => rfl)
  refine ⟨_, _, ?_, hrun, hended, _, _, rfl, ?_, ⟨_, rfl⟩, hW, hsame.mono (by decide) (by decide)⟩
  · show Steps p.tables e below (T_10.setTop (mkF m 78 #[rv a0, rv a1, oD x2, oS, iv 0] [])) _
    exact X_10.returnOut hx Bd.returns (hb hby d8_78) hr
  · show Qac0 Z a0 a1 x2 al va ro ed ka kr kd h0 n0 _ T_10.heap _
    rw [e_10]
    exact ⟨b_6, ke_6, rfl, N_10, c25, sz_b_6, c34, OE_6, c35, c36, c37, c33, V_10⟩
theorem ef_ac1 (m : MethodId) (a0 : Addr) (a1 : Addr) (x2 : UInt64) : entryFrame m #[(.ref a0), (.ref a1), (.double x2)] 5 = mkF m 0 #[rv a0, rv a1, oD x2, oS, oU] [] := by first | (simp [entryFrame, mkF, argsToLocals, Value.category]; done) | rfl
def Qac1 (Z : State) (a0 : Addr) (a1 : Addr) (x2 : UInt64) (al : Addr) (va : Addr) (ro : Addr) (ed : Addr) (ka : ClassId) (kr : ClassId) (kd : ClassId) (w0 : UInt64) (ca0 : Addr) (h0 : Heap) (n0 : Nat) (v : Option Value) (h : Heap) (L : List Loc) : Prop := v = none ∧ Fr n0 L ∧ Keep h0 h [al, va, ro, ed] ∧ Arv Z h ed kd (.object "java/lang/Object") (10 : Int32) [(.ref ca0), (.ref a1), .null, .null, .null] .null ∧ Fld Z h al "java/util/AbstractList" "modCount" "I" (.int (2 : Int32)) ∧ Fld Z h al "java/util/ArrayList" "elementData" "[Ljava/lang/Object;" (.ref ed) ∧ Fld Z h al "java/util/ArrayList" "size" "I" (.int (2 : Int32)) ∧ Arv Z h va ka .double (16 : Int32) [(.double w0), (.double x2), (.double 0), (.double 0), (.double 0)] (.double 0) ∧ Arv Z h ro kr .int (16 : Int32) [(.int (-1)), (.int (-1)), (.int 0), (.int 0), (.int 0)] (.int (0 : Int32))
theorem rmac1 (l : Launch) (Z : State) (av0 : Array Value) (hw : ∀ d ∈ tables_1, d.before av0 Z = true) (ws : List Jvm.Cond) (a0 : Addr) (a1 : Addr) (x2 : UInt64) (al : Addr) (va : Addr) (ro : Addr) (ed : Addr) (ka : ClassId) (kr : ClassId) (kd : ClassId) (w0 : UInt64) (ca0 : Addr) (h0 : Heap) (n0 : Nat) (Z0 : n0 ≤ h0.size) (E_a0 : Exa Z h0 a0 "com/example/ballast/ballast/placement/CuttingPlanes") (F_columns_a0 : Fld Z h0 a0 "com/example/ballast/ballast/placement/CuttingPlanes" "columns" "Ljava/util/List;" (.ref al)) (F_values_a0 : Fld Z h0 a0 "com/example/ballast/ballast/placement/CuttingPlanes" "values" "[D" (.ref va)) (F_rowOf_a0 : Fld Z h0 a0 "com/example/ballast/ballast/placement/CuttingPlanes" "rowOf" "[I" (.ref ro)) (E_al : Exa Z h0 al "java/util/ArrayList") (F_modCount_al : Fld Z h0 al "java/util/AbstractList" "modCount" "I" (.int 1)) (F_elementData_al : Fld Z h0 al "java/util/ArrayList" "elementData" "[Ljava/lang/Object;" (.ref ed)) (F_size_al : Fld Z h0 al "java/util/ArrayList" "size" "I" (.int 1)) (g_al : n0 ≤ al) (g_va : n0 ≤ va) (g_ro : n0 ≤ ro) (E_a1 : Exa Z h0 a1 "[D") (VA : Arv Z h0 va ka .double (16 : Int32) [(.double w0), (.double 0), (.double 0), (.double 0), (.double 0)] (.double 0)) (VR : Arv Z h0 ro kr .int (16 : Int32) [(.int (-1)), (.int 0), (.int 0), (.int 0), (.int 0)] (.int (0 : Int32))) (g_ed : n0 ≤ ed) (VE : Arv Z h0 ed kd (.object "java/lang/Object") (10 : Int32) [(.ref ca0), .null, .null, .null, .null] .null) (OE : Ovr Z kd "java/lang/Object") (n_a0_al : a0 ≠ al) (n_a0_va : a0 ≠ va) (n_a0_ro : a0 ≠ ro) (n_a0_ed : a0 ≠ ed) (n_al_va : al ≠ va) (n_al_ro : al ≠ ro) (n_al_ed : al ≠ ed) (n_va_ro : va ≠ ro) (n_va_ed : va ≠ ed) (n_ro_ed : ro ≠ ed) :
    MetFree l own_m9 (head1 (Jvm.Cond.code own_m9 prog_36_method_7_code 5 none :: ws) ({ frames := 2, cells := 0, slots := 0, locals := 28 } : Room)) (fun a U => a = #[(.ref a0), (.ref a1), (.double x2)] ∧ Z.Warmed39 U.vm ∧ U.heap = h0) (fun _ _ _ _ _ => True) (fun _ U o U' => ∃ v L, o = .returned v ∧ Qac1 Z a0 a1 x2 al va ro ed ka kr kd w0 ca0 h0 n0 v U'.heap L ∧ FrameEnd U o U' L ({ frames := 2, cells := 0, slots := 0, locals := 28 } : Room).cells ({ frames := 2, cells := 0, slots := 0, locals := 28 } : Room).slots) := by
  refine MetFree.of_bodySF (plainFor_of_name pn_8) hisR ?_
  intro p e s m args below meth c s₁ Bd hml0 hP hK
  obtain ⟨rfl, hZ, hh⟩ := hP
  have hx := Bd.exec
  have hby := Bd.bytes
  have hml : c.maxLocals = 5 := hml0
  have hown : s.vm.findClass "com/example/ballast/ballast/placement/CuttingPlanes" = some m.cls := findClass_of_methodNamed Bd.named
  have X0 : Stand p l e ({ frames := 2, cells := 0, slots := 0, locals := 28 } : Room) s m #[(.ref a0), (.ref a1), (.double x2)] below meth c s₁ [] 0 0 := Stand.of_body Bd
  have e0 : s₁.heap = h0 := by rw [← hh, Bd.state]; rfl
  have N0 := Fr.nil n0
  have K0 : Keep h0 h0 [al, va, ro, ed] := Keep.refl h0 [al, va, ro, ed]
  refine og (B := s₁.setTop (mkF m 0 #[rv a0, rv a1, oD x2, oS, oU] [])) (fun t k => castTop (ef_ac1 m a0 a1 x2) k) ?_
  refine og (B := s₁.setTop (mkF m 1 #[rv a0, rv a1, oD x2, oS, oU] [(.ref a0)])) (fun t k => ?_) ?_
  · refine XS.aloadN X0.here hx rfl (hb hby d8_0) rfl rfl ?_
    exact k
  obtain ⟨T_1, X_1, e_1, st_1⟩ := getF X0 hx hZ hown (host := "") (Or.inl (ow hw 41 rfl)) Via.refl e0 F_columns_a0 (g := (mkF m 1 #[rv a0, rv a1, oD x2, oS, oU] [(.ref a0)])) rfl rfl (hb hby d8_1)
  refine og (fun t k => st_1 t k) ?_
  obtain ⟨cq_2, kq_2, q_2a, q_2b, q_2c⟩ := isOf hZ e_1 E_al
  obtain ⟨_, _, ⟨T_2, L_2, k_2, n_2⟩, -, X_2, ⟨Lc_2, hQ_2, l_2, y_2, z_2⟩, st_2⟩ := X_1.interfaceBack hx (xi := own_m30) (y := own_m10) hown (mvT hZ (ow hw 58 rfl)) (mvT hZ (ow hw 59 rfl)) (mvT hZ (ow hw 60 rfl)) (mvT hZ (ow hw 61 rfl)) (mvT hZ (ow hw 62 rfl)) (mvT hZ (ow hw 63 rfl)) (mvT hZ (ow hw 64 rfl)) (mvT hZ (ow hw 65 rfl)) (by decide) (backOf (W := 0) (rmalz l Z av0 hw [] al (1 : Int32) h0 n0 Z0 F_size_al) hZ (ow hw 66 rfl) (ow hw 19 rfl) (by decide) (by decide)) q_2a q_2b q_2c (g := (mkF m 4 #[rv a0, rv a1, oD x2, oS, oU] [(.ref al)])) rfl (by rw [hml]; rfl) (Steps.refl _) (argsL := []) (rest := []) (lenOf pd_5 rfl) rfl (by show 2 * 0 + _ ≤ _; exact Nat.le_of_eq rfl) (hb hby d8_4) (fun _ _ => ⟨rfl, e_1, (by decide : 0 + 0 ≤ _), (by decide : 0 + 0 ≤ _)⟩)
  dsimp only [Pt.U, Pt.locs, Pt.cells, Pt.slots] at X_2 l_2 y_2 z_2 st_2 hQ_2
  subst l_2 y_2 z_2
  obtain ⟨rfl, N_2q, e_2⟩ := hQ_2
  have N_2 := Fr.app N0 N_2q
  refine og (fun t k => st_2.trans k) ?_
  refine og (B := T_2.setTop (mkF m 14 #[rv a0, rv a1, oD x2, oS, iv 1] [(.ref a0), (.int 1)])) (fun t k => ?_) ?_
  · refine XS.istore X_2.here hx rfl (hb hby d8_9) rfl (l' := #[rv a0, rv a1, oD x2, oS, iv 1]) rfl ?_
    refine XS.iload X_2.here hx rfl (hb hby d8_11) rfl ?_
    refine XS.aloadN X_2.here hx rfl (hb hby d8_13) rfl rfl ?_
    exact k
  obtain ⟨T_3, X_3, e_3, st_3⟩ := getF X_2 hx hZ hown (host := "") (Or.inl (ow hw 43 rfl)) Via.refl e_2 F_values_a0 (g := (mkF m 14 #[rv a0, rv a1, oD x2, oS, iv 1] [(.ref a0), (.int 1)])) rfl rfl (hb hby d8_14)
  refine og (fun t k => st_3 t k) ?_
  obtain ⟨cl_4, Ar_4, -, S_4, M_4, -, -⟩ := id VA
  refine og (B := T_3.setTop (mkF m 18 #[rv a0, rv a1, oD x2, oS, iv 1] [(.int 16), (.int 1)])) (fun t k => X_3.arraylength hx (by rw [(e_3 : _ = _)]; exact Ar_4.1) (State.isArrayOf_alike hZ.alike Ar_4.2.1) (g := (mkF m 17 #[rv a0, rv a1, oD x2, oS, iv 1] [(.ref va), (.int 1)])) rfl rfl (hb hby d8_17) t (by rw [len_of S_4 M_4]; exact k)) ?_
  refine og (B := T_3.setTop (mkF m 51 #[rv a0, rv a1, oD x2, oS, iv 1] [])) (fun t k => ?_) ?_
  · refine XS.icmpYes X_3.here hx rfl (pc0 := 18) (pc' := 51) rfl (hb hby d8_18) rfl (feq (by decide : ¬ ((1 : Int32) = (16 : Int32)))).2 (by decide) (by decide) ?_
    exact k
  refine og (B := T_3.setTop (mkF m 52 #[rv a0, rv a1, oD x2, oS, iv 1] [(.ref a0)])) (fun t k => ?_) ?_
  · refine XS.aloadN X_3.here hx rfl (hb hby d8_51) rfl rfl ?_
    exact k
  obtain ⟨T_5, X_5, e_5, st_5⟩ := getF X_3 hx hZ hown (host := "") (Or.inl (ow hw 41 rfl)) Via.refl e_3 F_columns_a0 (g := (mkF m 52 #[rv a0, rv a1, oD x2, oS, iv 1] [(.ref a0)])) rfl rfl (hb hby d8_52)
  refine og (fun t k => st_5 t k) ?_
  refine og (B := T_5.setTop (mkF m 56 #[rv a0, rv a1, oD x2, oS, iv 1] [(.ref a1), (.ref al)])) (fun t k => ?_) ?_
  · refine XS.aloadN X_5.here hx rfl (hb hby d8_55) rfl rfl ?_
    exact k
  obtain ⟨cq_6, kq_6, q_6a, q_6b, q_6c⟩ := isOf hZ e_5 E_al
  obtain ⟨_, _, ⟨T_6, L_6, k_6, n_6⟩, -, X_6, ⟨Lc_6, hQ_6, l_6, y_6, z_6⟩, st_6⟩ := X_5.interfaceBack hx (xi := own_m31) (y := own_m11) hown (mvT hZ (ow hw 69 rfl)) (mvT hZ (ow hw 70 rfl)) (mvT hZ (ow hw 71 rfl)) (mvT hZ (ow hw 72 rfl)) (mvT hZ (ow hw 73 rfl)) (mvT hZ (ow hw 74 rfl)) (mvT hZ (ow hw 75 rfl)) (mvT hZ (ow hw 65 rfl)) (by decide) (backOf (W := 0) (rmaa1 l Z av0 hw [] al a1 ed kd ca0 h0 n0 Z0 E_al F_modCount_al F_elementData_al F_size_al g_al E_a1 g_ed VE OE n_al_ed) hZ (ow hw 76 rfl) (ow hw 19 rfl) (by decide) (by decide)) q_6a q_6b q_6c (g := (mkF m 56 #[rv a0, rv a1, oD x2, oS, iv 1] [(.ref a1), (.ref al)])) rfl (by rw [hml]; rfl) (Steps.refl _) (argsL := [(.ref a1)]) (rest := []) (lenOf pd_6 rfl) rfl (by show 2 * 0 + _ ≤ _; exact Nat.le_of_eq rfl) (hb hby d8_56) (fun _ _ => ⟨rfl, e_5, (by decide : 0 + 0 ≤ _), (by decide : 0 + 0 ≤ _)⟩)
  dsimp only [Pt.U, Pt.locs, Pt.cells, Pt.slots] at X_6 l_6 y_6 z_6 st_6 hQ_6
  subst l_6 y_6 z_6
  obtain ⟨rfl, N_6q, K_6, VE_6, Fm_6, Fe_6, Fs_6⟩ := hQ_6
  have N_6 := Fr.app N_2 N_6q
  have c1 := K0.trans K_6 (allS (Or.inl (List.mem_of_getElem? (i := 0) rfl)) (allS (Or.inl (List.mem_of_getElem? (i := 3) rfl)) all0))
  have c2 := E_a0.keep K_6
  have c3 := F_columns_a0.keep K_6 (ninS n_a0_al (ninS n_a0_ed nin0))
  have c4 := F_values_a0.keep K_6 (ninS n_a0_al (ninS n_a0_ed nin0))
  have c5 := F_rowOf_a0.keep K_6 (ninS n_a0_al (ninS n_a0_ed nin0))
  have c6 := E_al.keep K_6
  have c7 := E_a1.keep K_6
  have c8 := VA.keep K_6 (ninS (Ne.symm n_al_va) (ninS n_va_ed nin0))
  have c9 := VR.keep K_6 (ninS (Ne.symm n_al_ro) (ninS n_ro_ed nin0))
  have Z0__6 : n0 ≤ T_6.heap.size := Nat.le_trans Z0 K_6.1
  refine og (fun t k => st_6.trans k) ?_
  refine og (B := T_6.setTop (mkF m 63 #[rv a0, rv a1, oD x2, oS, iv 1] [(.ref a0)])) (fun t k => ?_) ?_
  · refine XS.pop X_6.here hx rfl (hb hby d8_61) rfl rfl ?_
    refine XS.aloadN X_6.here hx rfl (hb hby d8_62) rfl rfl ?_
    exact k
  obtain ⟨T_7, X_7, e_7, st_7⟩ := getF X_6 hx hZ hown (host := "") (Or.inl (ow hw 43 rfl)) Via.refl rfl c4 (g := (mkF m 63 #[rv a0, rv a1, oD x2, oS, iv 1] [(.ref a0)])) rfl rfl (hb hby d8_63)
  refine og (fun t k => st_7 t k) ?_
  refine og (B := T_7.setTop (mkF m 69 #[rv a0, rv a1, oD x2, oS, iv 1] [(.double x2), (.int 1), (.ref va)])) (fun t k => ?_) ?_
  · refine XS.iload X_7.here hx rfl (hb hby d8_66) rfl ?_
    refine XS.dloadN X_7.here hx rfl (hb hby d8_68) rfl ?_
    exact k
  obtain ⟨cl_8, Ar_8, q_8, S_8, M_8, H_8, G_8⟩ := id c8
  have hin_8 : ¬ ((1 : Int32) < 0 ∨ cl_8.slots.size ≤ ((1 : Int32)).toNatClampNeg) := inb_of S_8 ⟨by decide, by decide⟩
  obtain ⟨T_8, h_8, X_8, e_8, W_8, st_8⟩ := stD X_7 hx hZ e_7 Ar_8 (j := (1 : Int32)) hin_8 (g := (mkF m 69 #[rv a0, rv a1, oD x2, oS, iv 1] [(.double x2), (.int 1), (.ref va)])) rfl rfl (hb hby d8_69)
  have c10 := c1.wr W_8 (Or.inl (List.mem_of_getElem? (i := 1) rfl))
  have c11 := c2.wr W_8
  have c12 := c3.other W_8 (Or.inl n_a0_va)
  have c13 := c4.other W_8 (Or.inl n_a0_va)
  have c14 := c5.other W_8 (Or.inl n_a0_va)
  have c15 := c6.wr W_8
  have c16 := c7.wr W_8
  have c17 := c9.other W_8 (Ne.symm n_va_ro)
  have c18 := VE_6.other W_8 (Ne.symm n_va_ed)
  have c19 := Fm_6.other W_8 (Or.inl n_al_va)
  have c20 := Fe_6.other W_8 (Or.inl n_al_va)
  have c21 := Fs_6.other W_8 (Or.inl n_al_va)
  have V_8 : Arv Z h_8 va ka .double (16 : Int32) [(.double w0), (.double x2), (.double 0), (.double 0), (.double 0)] (.double 0) := Arv.set Ar_8 q_8 S_8 M_8 H_8 G_8 rfl W_8 1 rfl (Nat.le_of_ble_eq_true rfl)
  have N_8 := Fr.snoc X_8 N_6 g_va
  have Z0__8 : n0 ≤ h_8.size := by rw [W_8.size]; exact Z0__6
  refine og (fun t k => st_8 t k) ?_
  refine og (B := T_8.setTop (mkF m 71 #[rv a0, rv a1, oD x2, oS, iv 1] [(.ref a0)])) (fun t k => ?_) ?_
  · refine XS.aloadN X_8.here hx rfl (hb hby d8_70) rfl rfl ?_
    exact k
  obtain ⟨T_9, X_9, e_9, st_9⟩ := getF X_8 hx hZ hown (host := "") (Or.inl (ow hw 46 rfl)) Via.refl e_8 c14 (g := (mkF m 71 #[rv a0, rv a1, oD x2, oS, iv 1] [(.ref a0)])) rfl rfl (hb hby d8_71)
  refine og (fun t k => st_9 t k) ?_
  refine og (B := T_9.setTop (mkF m 77 #[rv a0, rv a1, oD x2, oS, iv 1] [(.int (-1)), (.int 1), (.ref ro)])) (fun t k => ?_) ?_
  · refine XS.iload X_9.here hx rfl (hb hby d8_74) rfl ?_
    refine XS.iconst X_9.here hx rfl (hb hby d8_76) ?_
    exact k
  obtain ⟨cl_10, Ar_10, q_10, S_10, M_10, H_10, G_10⟩ := id c17
  have hin_10 : ¬ ((1 : Int32) < 0 ∨ cl_10.slots.size ≤ ((1 : Int32)).toNatClampNeg) := inb_of S_10 ⟨by decide, by decide⟩
  obtain ⟨T_10, h_10, X_10, e_10, W_10, st_10⟩ := stI X_9 hx hZ e_9 Ar_10 (j := (1 : Int32)) hin_10 (g := (mkF m 77 #[rv a0, rv a1, oD x2, oS, iv 1] [(.int (-1)), (.int 1), (.ref ro)])) rfl rfl (hb hby d8_77)
  have c22 := c10.wr W_10 (Or.inl (List.mem_of_getElem? (i := 2) rfl))
  have c23 := c11.wr W_10
  have c24 := c12.other W_10 (Or.inl n_a0_ro)
  have c25 := c13.other W_10 (Or.inl n_a0_ro)
  have c26 := c14.other W_10 (Or.inl n_a0_ro)
  have c27 := c15.wr W_10
  have c28 := c16.wr W_10
  have c29 := V_8.other W_10 n_va_ro
  have c30 := c18.other W_10 (Ne.symm n_ro_ed)
  have c31 := c19.other W_10 (Or.inl n_al_ro)
  have c32 := c20.other W_10 (Or.inl n_al_ro)
  have c33 := c21.other W_10 (Or.inl n_al_ro)
  have V_10 : Arv Z h_10 ro kr .int (16 : Int32) [(.int (-1)), (.int (-1)), (.int 0), (.int 0), (.int 0)] (.int (0 : Int32)) := Arv.set Ar_10 q_10 S_10 M_10 H_10 G_10 rfl W_10 1 rfl (Nat.le_of_ble_eq_true rfl)
  have N_10 := Fr.snoc X_10 N_8 g_ro
  have Z0__10 : n0 ≤ h_10.size := by rw [W_10.size]; exact Z0__8
  refine og (fun t k => st_10 t k) ?_
  obtain ⟨fs, hr, hrun, hended, hW, hsame⟩ := X_10.leave (v := none) (fun _ => rfl)
  refine ⟨_, _, ?_, hrun, hended, _, _, rfl, ?_, ⟨_, rfl⟩, hW, hsame.mono (by decide) (by decide)⟩
  · show Steps p.tables e below (T_10.setTop (mkF m 78 #[rv a0, rv a1, oD x2, oS, iv 1] [])) _
    exact X_10.returnOut hx Bd.returns (hb hby d8_78) hr
  · show Qac1 Z a0 a1 x2 al va ro ed ka kr kd w0 ca0 h0 n0 _ T_10.heap _
    rw [e_10]
    exact ⟨rfl, N_10, c22, c30, c31, c32, c33, c29, V_10⟩
theorem ef_ac2 (m : MethodId) (a0 : Addr) (a1 : Addr) (x2 : UInt64) : entryFrame m #[(.ref a0), (.ref a1), (.double x2)] 5 = mkF m 0 #[rv a0, rv a1, oD x2, oS, oU] [] := by first | (simp [entryFrame, mkF, argsToLocals, Value.category]; done) | rfl
def Qac2 (Z : State) (a0 : Addr) (a1 : Addr) (x2 : UInt64) (al : Addr) (va : Addr) (ro : Addr) (ed : Addr) (ka : ClassId) (kr : ClassId) (kd : ClassId) (w0 : UInt64) (w1 : UInt64) (ca0 : Addr) (ca1 : Addr) (h0 : Heap) (n0 : Nat) (v : Option Value) (h : Heap) (L : List Loc) : Prop := v = none ∧ Fr n0 L ∧ Keep h0 h [al, va, ro, ed] ∧ Arv Z h ed kd (.object "java/lang/Object") (10 : Int32) [(.ref ca0), (.ref ca1), (.ref a1), .null, .null] .null ∧ Fld Z h al "java/util/AbstractList" "modCount" "I" (.int (3 : Int32)) ∧ Fld Z h al "java/util/ArrayList" "elementData" "[Ljava/lang/Object;" (.ref ed) ∧ Fld Z h al "java/util/ArrayList" "size" "I" (.int (3 : Int32)) ∧ Arv Z h va ka .double (16 : Int32) [(.double w0), (.double w1), (.double x2), (.double 0), (.double 0)] (.double 0) ∧ Arv Z h ro kr .int (16 : Int32) [(.int (-1)), (.int (-1)), (.int (-1)), (.int 0), (.int 0)] (.int (0 : Int32))
theorem rmac2 (l : Launch) (Z : State) (av0 : Array Value) (hw : ∀ d ∈ tables_1, d.before av0 Z = true) (ws : List Jvm.Cond) (a0 : Addr) (a1 : Addr) (x2 : UInt64) (al : Addr) (va : Addr) (ro : Addr) (ed : Addr) (ka : ClassId) (kr : ClassId) (kd : ClassId) (w0 : UInt64) (w1 : UInt64) (ca0 : Addr) (ca1 : Addr) (h0 : Heap) (n0 : Nat) (Z0 : n0 ≤ h0.size) (E_a0 : Exa Z h0 a0 "com/example/ballast/ballast/placement/CuttingPlanes") (F_columns_a0 : Fld Z h0 a0 "com/example/ballast/ballast/placement/CuttingPlanes" "columns" "Ljava/util/List;" (.ref al)) (F_values_a0 : Fld Z h0 a0 "com/example/ballast/ballast/placement/CuttingPlanes" "values" "[D" (.ref va)) (F_rowOf_a0 : Fld Z h0 a0 "com/example/ballast/ballast/placement/CuttingPlanes" "rowOf" "[I" (.ref ro)) (E_al : Exa Z h0 al "java/util/ArrayList") (F_modCount_al : Fld Z h0 al "java/util/AbstractList" "modCount" "I" (.int 2)) (F_elementData_al : Fld Z h0 al "java/util/ArrayList" "elementData" "[Ljava/lang/Object;" (.ref ed)) (F_size_al : Fld Z h0 al "java/util/ArrayList" "size" "I" (.int 2)) (g_al : n0 ≤ al) (g_va : n0 ≤ va) (g_ro : n0 ≤ ro) (E_a1 : Exa Z h0 a1 "[D") (VA : Arv Z h0 va ka .double (16 : Int32) [(.double w0), (.double w1), (.double 0), (.double 0), (.double 0)] (.double 0)) (VR : Arv Z h0 ro kr .int (16 : Int32) [(.int (-1)), (.int (-1)), (.int 0), (.int 0), (.int 0)] (.int (0 : Int32))) (g_ed : n0 ≤ ed) (VE : Arv Z h0 ed kd (.object "java/lang/Object") (10 : Int32) [(.ref ca0), (.ref ca1), .null, .null, .null] .null) (OE : Ovr Z kd "java/lang/Object") (n_a0_al : a0 ≠ al) (n_a0_va : a0 ≠ va) (n_a0_ro : a0 ≠ ro) (n_a0_ed : a0 ≠ ed) (n_al_va : al ≠ va) (n_al_ro : al ≠ ro) (n_al_ed : al ≠ ed) (n_va_ro : va ≠ ro) (n_va_ed : va ≠ ed) (n_ro_ed : ro ≠ ed) :
    MetFree l own_m9 (head1 (Jvm.Cond.code own_m9 prog_36_method_7_code 5 none :: ws) ({ frames := 2, cells := 0, slots := 0, locals := 28 } : Room)) (fun a U => a = #[(.ref a0), (.ref a1), (.double x2)] ∧ Z.Warmed39 U.vm ∧ U.heap = h0) (fun _ _ _ _ _ => True) (fun _ U o U' => ∃ v L, o = .returned v ∧ Qac2 Z a0 a1 x2 al va ro ed ka kr kd w0 w1 ca0 ca1 h0 n0 v U'.heap L ∧ FrameEnd U o U' L ({ frames := 2, cells := 0, slots := 0, locals := 28 } : Room).cells ({ frames := 2, cells := 0, slots := 0, locals := 28 } : Room).slots) := by
  refine MetFree.of_bodySF (plainFor_of_name pn_8) hisR ?_
  intro p e s m args below meth c s₁ Bd hml0 hP hK
  obtain ⟨rfl, hZ, hh⟩ := hP
  have hx := Bd.exec
  have hby := Bd.bytes
  have hml : c.maxLocals = 5 := hml0
  have hown : s.vm.findClass "com/example/ballast/ballast/placement/CuttingPlanes" = some m.cls := findClass_of_methodNamed Bd.named
  have X0 : Stand p l e ({ frames := 2, cells := 0, slots := 0, locals := 28 } : Room) s m #[(.ref a0), (.ref a1), (.double x2)] below meth c s₁ [] 0 0 := Stand.of_body Bd
  have e0 : s₁.heap = h0 := by rw [← hh, Bd.state]; rfl
  have N0 := Fr.nil n0
  have K0 : Keep h0 h0 [al, va, ro, ed] := Keep.refl h0 [al, va, ro, ed]
  refine og (B := s₁.setTop (mkF m 0 #[rv a0, rv a1, oD x2, oS, oU] [])) (fun t k => castTop (ef_ac2 m a0 a1 x2) k) ?_
  refine og (B := s₁.setTop (mkF m 1 #[rv a0, rv a1, oD x2, oS, oU] [(.ref a0)])) (fun t k => ?_) ?_
  · refine XS.aloadN X0.here hx rfl (hb hby d8_0) rfl rfl ?_
    exact k
  obtain ⟨T_1, X_1, e_1, st_1⟩ := getF X0 hx hZ hown (host := "") (Or.inl (ow hw 41 rfl)) Via.refl e0 F_columns_a0 (g := (mkF m 1 #[rv a0, rv a1, oD x2, oS, oU] [(.ref a0)])) rfl rfl (hb hby d8_1)
  refine og (fun t k => st_1 t k) ?_
  obtain ⟨cq_2, kq_2, q_2a, q_2b, q_2c⟩ := isOf hZ e_1 E_al
  obtain ⟨_, _, ⟨T_2, L_2, k_2, n_2⟩, -, X_2, ⟨Lc_2, hQ_2, l_2, y_2, z_2⟩, st_2⟩ := X_1.interfaceBack hx (xi := own_m30) (y := own_m10) hown (mvT hZ (ow hw 58 rfl)) (mvT hZ (ow hw 59 rfl)) (mvT hZ (ow hw 60 rfl)) (mvT hZ (ow hw 61 rfl)) (mvT hZ (ow hw 62 rfl)) (mvT hZ (ow hw 63 rfl)) (mvT hZ (ow hw 64 rfl)) (mvT hZ (ow hw 65 rfl)) (by decide) (backOf (W := 0) (rmalz l Z av0 hw [] al (2 : Int32) h0 n0 Z0 F_size_al) hZ (ow hw 66 rfl) (ow hw 19 rfl) (by decide) (by decide)) q_2a q_2b q_2c (g := (mkF m 4 #[rv a0, rv a1, oD x2, oS, oU] [(.ref al)])) rfl (by rw [hml]; rfl) (Steps.refl _) (argsL := []) (rest := []) (lenOf pd_5 rfl) rfl (by show 2 * 0 + _ ≤ _; exact Nat.le_of_eq rfl) (hb hby d8_4) (fun _ _ => ⟨rfl, e_1, (by decide : 0 + 0 ≤ _), (by decide : 0 + 0 ≤ _)⟩)
  dsimp only [Pt.U, Pt.locs, Pt.cells, Pt.slots] at X_2 l_2 y_2 z_2 st_2 hQ_2
  subst l_2 y_2 z_2
  obtain ⟨rfl, N_2q, e_2⟩ := hQ_2
  have N_2 := Fr.app N0 N_2q
  refine og (fun t k => st_2.trans k) ?_
  refine og (B := T_2.setTop (mkF m 14 #[rv a0, rv a1, oD x2, oS, iv 2] [(.ref a0), (.int 2)])) (fun t k => ?_) ?_
  · refine XS.istore X_2.here hx rfl (hb hby d8_9) rfl (l' := #[rv a0, rv a1, oD x2, oS, iv 2]) rfl ?_
    refine XS.iload X_2.here hx rfl (hb hby d8_11) rfl ?_
    refine XS.aloadN X_2.here hx rfl (hb hby d8_13) rfl rfl ?_
    exact k
  obtain ⟨T_3, X_3, e_3, st_3⟩ := getF X_2 hx hZ hown (host := "") (Or.inl (ow hw 43 rfl)) Via.refl e_2 F_values_a0 (g := (mkF m 14 #[rv a0, rv a1, oD x2, oS, iv 2] [(.ref a0), (.int 2)])) rfl rfl (hb hby d8_14)
  refine og (fun t k => st_3 t k) ?_
  obtain ⟨cl_4, Ar_4, -, S_4, M_4, -, -⟩ := id VA
  refine og (B := T_3.setTop (mkF m 18 #[rv a0, rv a1, oD x2, oS, iv 2] [(.int 16), (.int 2)])) (fun t k => X_3.arraylength hx (by rw [(e_3 : _ = _)]; exact Ar_4.1) (State.isArrayOf_alike hZ.alike Ar_4.2.1) (g := (mkF m 17 #[rv a0, rv a1, oD x2, oS, iv 2] [(.ref va), (.int 2)])) rfl rfl (hb hby d8_17) t (by rw [len_of S_4 M_4]; exact k)) ?_
  refine og (B := T_3.setTop (mkF m 51 #[rv a0, rv a1, oD x2, oS, iv 2] [])) (fun t k => ?_) ?_
  · refine XS.icmpYes X_3.here hx rfl (pc0 := 18) (pc' := 51) rfl (hb hby d8_18) rfl (feq (by decide : ¬ ((2 : Int32) = (16 : Int32)))).2 (by decide) (by decide) ?_
    exact k
  refine og (B := T_3.setTop (mkF m 52 #[rv a0, rv a1, oD x2, oS, iv 2] [(.ref a0)])) (fun t k => ?_) ?_
  · refine XS.aloadN X_3.here hx rfl (hb hby d8_51) rfl rfl ?_
    exact k
  obtain ⟨T_5, X_5, e_5, st_5⟩ := getF X_3 hx hZ hown (host := "") (Or.inl (ow hw 41 rfl)) Via.refl e_3 F_columns_a0 (g := (mkF m 52 #[rv a0, rv a1, oD x2, oS, iv 2] [(.ref a0)])) rfl rfl (hb hby d8_52)
  refine og (fun t k => st_5 t k) ?_
  refine og (B := T_5.setTop (mkF m 56 #[rv a0, rv a1, oD x2, oS, iv 2] [(.ref a1), (.ref al)])) (fun t k => ?_) ?_
  · refine XS.aloadN X_5.here hx rfl (hb hby d8_55) rfl rfl ?_
    exact k
  obtain ⟨cq_6, kq_6, q_6a, q_6b, q_6c⟩ := isOf hZ e_5 E_al
  obtain ⟨_, _, ⟨T_6, L_6, k_6, n_6⟩, -, X_6, ⟨Lc_6, hQ_6, l_6, y_6, z_6⟩, st_6⟩ := X_5.interfaceBack hx (xi := own_m31) (y := own_m11) hown (mvT hZ (ow hw 69 rfl)) (mvT hZ (ow hw 70 rfl)) (mvT hZ (ow hw 71 rfl)) (mvT hZ (ow hw 72 rfl)) (mvT hZ (ow hw 73 rfl)) (mvT hZ (ow hw 74 rfl)) (mvT hZ (ow hw 75 rfl)) (mvT hZ (ow hw 65 rfl)) (by decide) (backOf (W := 0) (rmaa2 l Z av0 hw [] al a1 ed kd ca0 ca1 h0 n0 Z0 E_al F_modCount_al F_elementData_al F_size_al g_al E_a1 g_ed VE OE n_al_ed) hZ (ow hw 76 rfl) (ow hw 19 rfl) (by decide) (by decide)) q_6a q_6b q_6c (g := (mkF m 56 #[rv a0, rv a1, oD x2, oS, iv 2] [(.ref a1), (.ref al)])) rfl (by rw [hml]; rfl) (Steps.refl _) (argsL := [(.ref a1)]) (rest := []) (lenOf pd_6 rfl) rfl (by show 2 * 0 + _ ≤ _; exact Nat.le_of_eq rfl) (hb hby d8_56) (fun _ _ => ⟨rfl, e_5, (by decide : 0 + 0 ≤ _), (by decide : 0 + 0 ≤ _)⟩)
  dsimp only [Pt.U, Pt.locs, Pt.cells, Pt.slots] at X_6 l_6 y_6 z_6 st_6 hQ_6
  subst l_6 y_6 z_6
  obtain ⟨rfl, N_6q, K_6, VE_6, Fm_6, Fe_6, Fs_6⟩ := hQ_6
  have N_6 := Fr.app N_2 N_6q
  have c1 := K0.trans K_6 (allS (Or.inl (List.mem_of_getElem? (i := 0) rfl)) (allS (Or.inl (List.mem_of_getElem? (i := 3) rfl)) all0))
  have c2 := E_a0.keep K_6
  have c3 := F_columns_a0.keep K_6 (ninS n_a0_al (ninS n_a0_ed nin0))
  have c4 := F_values_a0.keep K_6 (ninS n_a0_al (ninS n_a0_ed nin0))
  have c5 := F_rowOf_a0.keep K_6 (ninS n_a0_al (ninS n_a0_ed nin0))
  have c6 := E_al.keep K_6
  have c7 := E_a1.keep K_6
  have c8 := VA.keep K_6 (ninS (Ne.symm n_al_va) (ninS n_va_ed nin0))
  have c9 := VR.keep K_6 (ninS (Ne.symm n_al_ro) (ninS n_ro_ed nin0))
  have Z0__6 : n0 ≤ T_6.heap.size := Nat.le_trans Z0 K_6.1
  refine og (fun t k => st_6.trans k) ?_
  refine og (B := T_6.setTop (mkF m 63 #[rv a0, rv a1, oD x2, oS, iv 2] [(.ref a0)])) (fun t k => ?_) ?_
  · refine XS.pop X_6.here hx rfl (hb hby d8_61) rfl rfl ?_
    refine XS.aloadN X_6.here hx rfl (hb hby d8_62) rfl rfl ?_
    exact k
  obtain ⟨T_7, X_7, e_7, st_7⟩ := getF X_6 hx hZ hown (host := "") (Or.inl (ow hw 43 rfl)) Via.refl rfl c4 (g := (mkF m 63 #[rv a0, rv a1, oD x2, oS, iv 2] [(.ref a0)])) rfl rfl (hb hby d8_63)
  refine og (fun t k => st_7 t k) ?_
  refine og (B := T_7.setTop (mkF m 69 #[rv a0, rv a1, oD x2, oS, iv 2] [(.double x2), (.int 2), (.ref va)])) (fun t k => ?_) ?_
  · refine XS.iload X_7.here hx rfl (hb hby d8_66) rfl ?_
    refine XS.dloadN X_7.here hx rfl (hb hby d8_68) rfl ?_
    exact k
  obtain ⟨cl_8, Ar_8, q_8, S_8, M_8, H_8, G_8⟩ := id c8
  have hin_8 : ¬ ((2 : Int32) < 0 ∨ cl_8.slots.size ≤ ((2 : Int32)).toNatClampNeg) := inb_of S_8 ⟨by decide, by decide⟩
  obtain ⟨T_8, h_8, X_8, e_8, W_8, st_8⟩ := stD X_7 hx hZ e_7 Ar_8 (j := (2 : Int32)) hin_8 (g := (mkF m 69 #[rv a0, rv a1, oD x2, oS, iv 2] [(.double x2), (.int 2), (.ref va)])) rfl rfl (hb hby d8_69)
  have c10 := c1.wr W_8 (Or.inl (List.mem_of_getElem? (i := 1) rfl))
  have c11 := c2.wr W_8
  have c12 := c3.other W_8 (Or.inl n_a0_va)
  have c13 := c4.other W_8 (Or.inl n_a0_va)
  have c14 := c5.other W_8 (Or.inl n_a0_va)
  have c15 := c6.wr W_8
  have c16 := c7.wr W_8
  have c17 := c9.other W_8 (Ne.symm n_va_ro)
  have c18 := VE_6.other W_8 (Ne.symm n_va_ed)
  have c19 := Fm_6.other W_8 (Or.inl n_al_va)
  have c20 := Fe_6.other W_8 (Or.inl n_al_va)
  have c21 := Fs_6.other W_8 (Or.inl n_al_va)
  have V_8 : Arv Z h_8 va ka .double (16 : Int32) [(.double w0), (.double w1), (.double x2), (.double 0), (.double 0)] (.double 0) := Arv.set Ar_8 q_8 S_8 M_8 H_8 G_8 rfl W_8 2 rfl (Nat.le_of_ble_eq_true rfl)
  have N_8 := Fr.snoc X_8 N_6 g_va
  have Z0__8 : n0 ≤ h_8.size := by rw [W_8.size]; exact Z0__6
  refine og (fun t k => st_8 t k) ?_
  refine og (B := T_8.setTop (mkF m 71 #[rv a0, rv a1, oD x2, oS, iv 2] [(.ref a0)])) (fun t k => ?_) ?_
  · refine XS.aloadN X_8.here hx rfl (hb hby d8_70) rfl rfl ?_
    exact k
  obtain ⟨T_9, X_9, e_9, st_9⟩ := getF X_8 hx hZ hown (host := "") (Or.inl (ow hw 46 rfl)) Via.refl e_8 c14 (g := (mkF m 71 #[rv a0, rv a1, oD x2, oS, iv 2] [(.ref a0)])) rfl rfl (hb hby d8_71)
  refine og (fun t k => st_9 t k) ?_
  refine og (B := T_9.setTop (mkF m 77 #[rv a0, rv a1, oD x2, oS, iv 2] [(.int (-1)), (.int 2), (.ref ro)])) (fun t k => ?_) ?_
  · refine XS.iload X_9.here hx rfl (hb hby d8_74) rfl ?_
    refine XS.iconst X_9.here hx rfl (hb hby d8_76) ?_
    exact k
  obtain ⟨cl_10, Ar_10, q_10, S_10, M_10, H_10, G_10⟩ := id c17
  have hin_10 : ¬ ((2 : Int32) < 0 ∨ cl_10.slots.size ≤ ((2 : Int32)).toNatClampNeg) := inb_of S_10 ⟨by decide, by decide⟩
  obtain ⟨T_10, h_10, X_10, e_10, W_10, st_10⟩ := stI X_9 hx hZ e_9 Ar_10 (j := (2 : Int32)) hin_10 (g := (mkF m 77 #[rv a0, rv a1, oD x2, oS, iv 2] [(.int (-1)), (.int 2), (.ref ro)])) rfl rfl (hb hby d8_77)
  have c22 := c10.wr W_10 (Or.inl (List.mem_of_getElem? (i := 2) rfl))
  have c23 := c11.wr W_10
  have c24 := c12.other W_10 (Or.inl n_a0_ro)
  have c25 := c13.other W_10 (Or.inl n_a0_ro)
  have c26 := c14.other W_10 (Or.inl n_a0_ro)
  have c27 := c15.wr W_10
  have c28 := c16.wr W_10
  have c29 := V_8.other W_10 n_va_ro
  have c30 := c18.other W_10 (Ne.symm n_ro_ed)
  have c31 := c19.other W_10 (Or.inl n_al_ro)
  have c32 := c20.other W_10 (Or.inl n_al_ro)
  have c33 := c21.other W_10 (Or.inl n_al_ro)
  have V_10 : Arv Z h_10 ro kr .int (16 : Int32) [(.int (-1)), (.int (-1)), (.int (-1)), (.int 0), (.int 0)] (.int (0 : Int32)) := Arv.set Ar_10 q_10 S_10 M_10 H_10 G_10 rfl W_10 2 rfl (Nat.le_of_ble_eq_true rfl)
  have N_10 := Fr.snoc X_10 N_8 g_ro
  have Z0__10 : n0 ≤ h_10.size := by rw [W_10.size]; exact Z0__8
  refine og (fun t k => st_10 t k) ?_
  obtain ⟨fs, hr, hrun, hended, hW, hsame⟩ := X_10.leave (v := none) (fun _ => rfl)
  refine ⟨_, _, ?_, hrun, hended, _, _, rfl, ?_, ⟨_, rfl⟩, hW, hsame.mono (by decide) (by decide)⟩
  · show Steps p.tables e below (T_10.setTop (mkF m 78 #[rv a0, rv a1, oD x2, oS, iv 2] [])) _
    exact X_10.returnOut hx Bd.returns (hb hby d8_78) hr
  · show Qac2 Z a0 a1 x2 al va ro ed ka kr kd w0 w1 ca0 ca1 h0 n0 _ T_10.heap _
    rw [e_10]
    exact ⟨rfl, N_10, c22, c30, c31, c32, c33, c29, V_10⟩
theorem ef_ac3 (m : MethodId) (a0 : Addr) (a1 : Addr) (x2 : UInt64) : entryFrame m #[(.ref a0), (.ref a1), (.double x2)] 5 = mkF m 0 #[rv a0, rv a1, oD x2, oS, oU] [] := by first | (simp [entryFrame, mkF, argsToLocals, Value.category]; done) | rfl
def Qac3 (Z : State) (a0 : Addr) (a1 : Addr) (x2 : UInt64) (al : Addr) (va : Addr) (ro : Addr) (ed : Addr) (ka : ClassId) (kr : ClassId) (kd : ClassId) (w0 : UInt64) (w1 : UInt64) (w2 : UInt64) (ca0 : Addr) (ca1 : Addr) (ca2 : Addr) (h0 : Heap) (n0 : Nat) (v : Option Value) (h : Heap) (L : List Loc) : Prop := v = none ∧ Fr n0 L ∧ Keep h0 h [al, va, ro, ed] ∧ Arv Z h ed kd (.object "java/lang/Object") (10 : Int32) [(.ref ca0), (.ref ca1), (.ref ca2), (.ref a1), .null] .null ∧ Fld Z h al "java/util/AbstractList" "modCount" "I" (.int (4 : Int32)) ∧ Fld Z h al "java/util/ArrayList" "elementData" "[Ljava/lang/Object;" (.ref ed) ∧ Fld Z h al "java/util/ArrayList" "size" "I" (.int (4 : Int32)) ∧ Arv Z h va ka .double (16 : Int32) [(.double w0), (.double w1), (.double w2), (.double x2), (.double 0)] (.double 0) ∧ Arv Z h ro kr .int (16 : Int32) [(.int (-1)), (.int (-1)), (.int (-1)), (.int (-1)), (.int 0)] (.int (0 : Int32))
theorem rmac3 (l : Launch) (Z : State) (av0 : Array Value) (hw : ∀ d ∈ tables_1, d.before av0 Z = true) (ws : List Jvm.Cond) (a0 : Addr) (a1 : Addr) (x2 : UInt64) (al : Addr) (va : Addr) (ro : Addr) (ed : Addr) (ka : ClassId) (kr : ClassId) (kd : ClassId) (w0 : UInt64) (w1 : UInt64) (w2 : UInt64) (ca0 : Addr) (ca1 : Addr) (ca2 : Addr) (h0 : Heap) (n0 : Nat) (Z0 : n0 ≤ h0.size) (E_a0 : Exa Z h0 a0 "com/example/ballast/ballast/placement/CuttingPlanes") (F_columns_a0 : Fld Z h0 a0 "com/example/ballast/ballast/placement/CuttingPlanes" "columns" "Ljava/util/List;" (.ref al)) (F_values_a0 : Fld Z h0 a0 "com/example/ballast/ballast/placement/CuttingPlanes" "values" "[D" (.ref va)) (F_rowOf_a0 : Fld Z h0 a0 "com/example/ballast/ballast/placement/CuttingPlanes" "rowOf" "[I" (.ref ro)) (E_al : Exa Z h0 al "java/util/ArrayList") (F_modCount_al : Fld Z h0 al "java/util/AbstractList" "modCount" "I" (.int 3)) (F_elementData_al : Fld Z h0 al "java/util/ArrayList" "elementData" "[Ljava/lang/Object;" (.ref ed)) (F_size_al : Fld Z h0 al "java/util/ArrayList" "size" "I" (.int 3)) (g_al : n0 ≤ al) (g_va : n0 ≤ va) (g_ro : n0 ≤ ro) (E_a1 : Exa Z h0 a1 "[D") (VA : Arv Z h0 va ka .double (16 : Int32) [(.double w0), (.double w1), (.double w2), (.double 0), (.double 0)] (.double 0)) (VR : Arv Z h0 ro kr .int (16 : Int32) [(.int (-1)), (.int (-1)), (.int (-1)), (.int 0), (.int 0)] (.int (0 : Int32))) (g_ed : n0 ≤ ed) (VE : Arv Z h0 ed kd (.object "java/lang/Object") (10 : Int32) [(.ref ca0), (.ref ca1), (.ref ca2), .null, .null] .null) (OE : Ovr Z kd "java/lang/Object") (n_a0_al : a0 ≠ al) (n_a0_va : a0 ≠ va) (n_a0_ro : a0 ≠ ro) (n_a0_ed : a0 ≠ ed) (n_al_va : al ≠ va) (n_al_ro : al ≠ ro) (n_al_ed : al ≠ ed) (n_va_ro : va ≠ ro) (n_va_ed : va ≠ ed) (n_ro_ed : ro ≠ ed) :
    MetFree l own_m9 (head1 (Jvm.Cond.code own_m9 prog_36_method_7_code 5 none :: ws) ({ frames := 2, cells := 0, slots := 0, locals := 28 } : Room)) (fun a U => a = #[(.ref a0), (.ref a1), (.double x2)] ∧ Z.Warmed39 U.vm ∧ U.heap = h0) (fun _ _ _ _ _ => True) (fun _ U o U' => ∃ v L, o = .returned v ∧ Qac3 Z a0 a1 x2 al va ro ed ka kr kd w0 w1 w2 ca0 ca1 ca2 h0 n0 v U'.heap L ∧ FrameEnd U o U' L ({ frames := 2, cells := 0, slots := 0, locals := 28 } : Room).cells ({ frames := 2, cells := 0, slots := 0, locals := 28 } : Room).slots) := by
  refine MetFree.of_bodySF (plainFor_of_name pn_8) hisR ?_
  intro p e s m args below meth c s₁ Bd hml0 hP hK
  obtain ⟨rfl, hZ, hh⟩ := hP
  have hx := Bd.exec
  have hby := Bd.bytes
  have hml : c.maxLocals = 5 := hml0
  have hown : s.vm.findClass "com/example/ballast/ballast/placement/CuttingPlanes" = some m.cls := findClass_of_methodNamed Bd.named
  have X0 : Stand p l e ({ frames := 2, cells := 0, slots := 0, locals := 28 } : Room) s m #[(.ref a0), (.ref a1), (.double x2)] below meth c s₁ [] 0 0 := Stand.of_body Bd
  have e0 : s₁.heap = h0 := by rw [← hh, Bd.state]; rfl
  have N0 := Fr.nil n0
  have K0 : Keep h0 h0 [al, va, ro, ed] := Keep.refl h0 [al, va, ro, ed]
  refine og (B := s₁.setTop (mkF m 0 #[rv a0, rv a1, oD x2, oS, oU] [])) (fun t k => castTop (ef_ac3 m a0 a1 x2) k) ?_
  refine og (B := s₁.setTop (mkF m 1 #[rv a0, rv a1, oD x2, oS, oU] [(.ref a0)])) (fun t k => ?_) ?_
  · refine XS.aloadN X0.here hx rfl (hb hby d8_0) rfl rfl ?_
    exact k
  obtain ⟨T_1, X_1, e_1, st_1⟩ := getF X0 hx hZ hown (host := "") (Or.inl (ow hw 41 rfl)) Via.refl e0 F_columns_a0 (g := (mkF m 1 #[rv a0, rv a1, oD x2, oS, oU] [(.ref a0)])) rfl rfl (hb hby d8_1)
  refine og (fun t k => st_1 t k) ?_
  obtain ⟨cq_2, kq_2, q_2a, q_2b, q_2c⟩ := isOf hZ e_1 E_al
  obtain ⟨_, _, ⟨T_2, L_2, k_2, n_2⟩, -, X_2, ⟨Lc_2, hQ_2, l_2, y_2, z_2⟩, st_2⟩ := X_1.interfaceBack hx (xi := own_m30) (y := own_m10) hown (mvT hZ (ow hw 58 rfl)) (mvT hZ (ow hw 59 rfl)) (mvT hZ (ow hw 60 rfl)) (mvT hZ (ow hw 61 rfl)) (mvT hZ (ow hw 62 rfl)) (mvT hZ (ow hw 63 rfl)) (mvT hZ (ow hw 64 rfl)) (mvT hZ (ow hw 65 rfl)) (by decide) (backOf (W := 0) (rmalz l Z av0 hw [] al (3 : Int32) h0 n0 Z0 F_size_al) hZ (ow hw 66 rfl) (ow hw 19 rfl) (by decide) (by decide)) q_2a q_2b q_2c (g := (mkF m 4 #[rv a0, rv a1, oD x2, oS, oU] [(.ref al)])) rfl (by rw [hml]; rfl) (Steps.refl _) (argsL := []) (rest := []) (lenOf pd_5 rfl) rfl (by show 2 * 0 + _ ≤ _; exact Nat.le_of_eq rfl) (hb hby d8_4) (fun _ _ => ⟨rfl, e_1, (by decide : 0 + 0 ≤ _), (by decide : 0 + 0 ≤ _)⟩)
  dsimp only [Pt.U, Pt.locs, Pt.cells, Pt.slots] at X_2 l_2 y_2 z_2 st_2 hQ_2
  subst l_2 y_2 z_2
  obtain ⟨rfl, N_2q, e_2⟩ := hQ_2
  have N_2 := Fr.app N0 N_2q
  refine og (fun t k => st_2.trans k) ?_
  refine og (B := T_2.setTop (mkF m 14 #[rv a0, rv a1, oD x2, oS, iv 3] [(.ref a0), (.int 3)])) (fun t k => ?_) ?_
  · refine XS.istore X_2.here hx rfl (hb hby d8_9) rfl (l' := #[rv a0, rv a1, oD x2, oS, iv 3]) rfl ?_
    refine XS.iload X_2.here hx rfl (hb hby d8_11) rfl ?_
    refine XS.aloadN X_2.here hx rfl (hb hby d8_13) rfl rfl ?_
    exact k
  obtain ⟨T_3, X_3, e_3, st_3⟩ := getF X_2 hx hZ hown (host := "") (Or.inl (ow hw 43 rfl)) Via.refl e_2 F_values_a0 (g := (mkF m 14 #[rv a0, rv a1, oD x2, oS, iv 3] [(.ref a0), (.int 3)])) rfl rfl (hb hby d8_14)
  refine og (fun t k => st_3 t k) ?_
  obtain ⟨cl_4, Ar_4, -, S_4, M_4, -, -⟩ := id VA
  refine og (B := T_3.setTop (mkF m 18 #[rv a0, rv a1, oD x2, oS, iv 3] [(.int 16), (.int 3)])) (fun t k => X_3.arraylength hx (by rw [(e_3 : _ = _)]; exact Ar_4.1) (State.isArrayOf_alike hZ.alike Ar_4.2.1) (g := (mkF m 17 #[rv a0, rv a1, oD x2, oS, iv 3] [(.ref va), (.int 3)])) rfl rfl (hb hby d8_17) t (by rw [len_of S_4 M_4]; exact k)) ?_
  refine og (B := T_3.setTop (mkF m 51 #[rv a0, rv a1, oD x2, oS, iv 3] [])) (fun t k => ?_) ?_
  · refine XS.icmpYes X_3.here hx rfl (pc0 := 18) (pc' := 51) rfl (hb hby d8_18) rfl (feq (by decide : ¬ ((3 : Int32) = (16 : Int32)))).2 (by decide) (by decide) ?_
    exact k
  refine og (B := T_3.setTop (mkF m 52 #[rv a0, rv a1, oD x2, oS, iv 3] [(.ref a0)])) (fun t k => ?_) ?_
  · refine XS.aloadN X_3.here hx rfl (hb hby d8_51) rfl rfl ?_
    exact k
  obtain ⟨T_5, X_5, e_5, st_5⟩ := getF X_3 hx hZ hown (host := "") (Or.inl (ow hw 41 rfl)) Via.refl e_3 F_columns_a0 (g := (mkF m 52 #[rv a0, rv a1, oD x2, oS, iv 3] [(.ref a0)])) rfl rfl (hb hby d8_52)
  refine og (fun t k => st_5 t k) ?_
  refine og (B := T_5.setTop (mkF m 56 #[rv a0, rv a1, oD x2, oS, iv 3] [(.ref a1), (.ref al)])) (fun t k => ?_) ?_
  · refine XS.aloadN X_5.here hx rfl (hb hby d8_55) rfl rfl ?_
    exact k
  obtain ⟨cq_6, kq_6, q_6a, q_6b, q_6c⟩ := isOf hZ e_5 E_al
  obtain ⟨_, _, ⟨T_6, L_6, k_6, n_6⟩, -, X_6, ⟨Lc_6, hQ_6, l_6, y_6, z_6⟩, st_6⟩ := X_5.interfaceBack hx (xi := own_m31) (y := own_m11) hown (mvT hZ (ow hw 69 rfl)) (mvT hZ (ow hw 70 rfl)) (mvT hZ (ow hw 71 rfl)) (mvT hZ (ow hw 72 rfl)) (mvT hZ (ow hw 73 rfl)) (mvT hZ (ow hw 74 rfl)) (mvT hZ (ow hw 75 rfl)) (mvT hZ (ow hw 65 rfl)) (by decide) (backOf (W := 0) (rmaa3 l Z av0 hw [] al a1 ed kd ca0 ca1 ca2 h0 n0 Z0 E_al F_modCount_al F_elementData_al F_size_al g_al E_a1 g_ed VE OE n_al_ed) hZ (ow hw 76 rfl) (ow hw 19 rfl) (by decide) (by decide)) q_6a q_6b q_6c (g := (mkF m 56 #[rv a0, rv a1, oD x2, oS, iv 3] [(.ref a1), (.ref al)])) rfl (by rw [hml]; rfl) (Steps.refl _) (argsL := [(.ref a1)]) (rest := []) (lenOf pd_6 rfl) rfl (by show 2 * 0 + _ ≤ _; exact Nat.le_of_eq rfl) (hb hby d8_56) (fun _ _ => ⟨rfl, e_5, (by decide : 0 + 0 ≤ _), (by decide : 0 + 0 ≤ _)⟩)
  dsimp only [Pt.U, Pt.locs, Pt.cells, Pt.slots] at X_6 l_6 y_6 z_6 st_6 hQ_6
  subst l_6 y_6 z_6
  obtain ⟨rfl, N_6q, K_6, VE_6, Fm_6, Fe_6, Fs_6⟩ := hQ_6
  have N_6 := Fr.app N_2 N_6q
  have c1 := K0.trans K_6 (allS (Or.inl (List.mem_of_getElem? (i := 0) rfl)) (allS (Or.inl (List.mem_of_getElem? (i := 3) rfl)) all0))
  have c2 := E_a0.keep K_6
  have c3 := F_columns_a0.keep K_6 (ninS n_a0_al (ninS n_a0_ed nin0))
  have c4 := F_values_a0.keep K_6 (ninS n_a0_al (ninS n_a0_ed nin0))
  have c5 := F_rowOf_a0.keep K_6 (ninS n_a0_al (ninS n_a0_ed nin0))
  have c6 := E_al.keep K_6
  have c7 := E_a1.keep K_6
  have c8 := VA.keep K_6 (ninS (Ne.symm n_al_va) (ninS n_va_ed nin0))
  have c9 := VR.keep K_6 (ninS (Ne.symm n_al_ro) (ninS n_ro_ed nin0))
  have Z0__6 : n0 ≤ T_6.heap.size := Nat.le_trans Z0 K_6.1
  refine og (fun t k => st_6.trans k) ?_
  refine og (B := T_6.setTop (mkF m 63 #[rv a0, rv a1, oD x2, oS, iv 3] [(.ref a0)])) (fun t k => ?_) ?_
  · refine XS.pop X_6.here hx rfl (hb hby d8_61) rfl rfl ?_
    refine XS.aloadN X_6.here hx rfl (hb hby d8_62) rfl rfl ?_
    exact k
  obtain ⟨T_7, X_7, e_7, st_7⟩ := getF X_6 hx hZ hown (host := "") (Or.inl (ow hw 43 rfl)) Via.refl rfl c4 (g := (mkF m 63 #[rv a0, rv a1, oD x2, oS, iv 3] [(.ref a0)])) rfl rfl (hb hby d8_63)
  refine og (fun t k => st_7 t k) ?_
  refine og (B := T_7.setTop (mkF m 69 #[rv a0, rv a1, oD x2, oS, iv 3] [(.double x2), (.int 3), (.ref va)])) (fun t k => ?_) ?_
  · refine XS.iload X_7.here hx rfl (hb hby d8_66) rfl ?_
    refine XS.dloadN X_7.here hx rfl (hb hby d8_68) rfl ?_
    exact k
  obtain ⟨cl_8, Ar_8, q_8, S_8, M_8, H_8, G_8⟩ := id c8
  have hin_8 : ¬ ((3 : Int32) < 0 ∨ cl_8.slots.size ≤ ((3 : Int32)).toNatClampNeg) := inb_of S_8 ⟨by decide, by decide⟩
  obtain ⟨T_8, h_8, X_8, e_8, W_8, st_8⟩ := stD X_7 hx hZ e_7 Ar_8 (j := (3 : Int32)) hin_8 (g := (mkF m 69 #[rv a0, rv a1, oD x2, oS, iv 3] [(.double x2), (.int 3), (.ref va)])) rfl rfl (hb hby d8_69)
  have c10 := c1.wr W_8 (Or.inl (List.mem_of_getElem? (i := 1) rfl))
  have c11 := c2.wr W_8
  have c12 := c3.other W_8 (Or.inl n_a0_va)
  have c13 := c4.other W_8 (Or.inl n_a0_va)
  have c14 := c5.other W_8 (Or.inl n_a0_va)
  have c15 := c6.wr W_8
  have c16 := c7.wr W_8
  have c17 := c9.other W_8 (Ne.symm n_va_ro)
  have c18 := VE_6.other W_8 (Ne.symm n_va_ed)
  have c19 := Fm_6.other W_8 (Or.inl n_al_va)
  have c20 := Fe_6.other W_8 (Or.inl n_al_va)
  have c21 := Fs_6.other W_8 (Or.inl n_al_va)
  have V_8 : Arv Z h_8 va ka .double (16 : Int32) [(.double w0), (.double w1), (.double w2), (.double x2), (.double 0)] (.double 0) := Arv.set Ar_8 q_8 S_8 M_8 H_8 G_8 rfl W_8 3 rfl (Nat.le_of_ble_eq_true rfl)
  have N_8 := Fr.snoc X_8 N_6 g_va
  have Z0__8 : n0 ≤ h_8.size := by rw [W_8.size]; exact Z0__6
  refine og (fun t k => st_8 t k) ?_
  refine og (B := T_8.setTop (mkF m 71 #[rv a0, rv a1, oD x2, oS, iv 3] [(.ref a0)])) (fun t k => ?_) ?_
  · refine XS.aloadN X_8.here hx rfl (hb hby d8_70) rfl rfl ?_
    exact k
  obtain ⟨T_9, X_9, e_9, st_9⟩ := getF X_8 hx hZ hown (host := "") (Or.inl (ow hw 46 rfl)) Via.refl e_8 c14 (g := (mkF m 71 #[rv a0, rv a1, oD x2, oS, iv 3] [(.ref a0)])) rfl rfl (hb hby d8_71)
  refine og (fun t k => st_9 t k) ?_
  refine og (B := T_9.setTop (mkF m 77 #[rv a0, rv a1, oD x2, oS, iv 3] [(.int (-1)), (.int 3), (.ref ro)])) (fun t k => ?_) ?_
  · refine XS.iload X_9.here hx rfl (hb hby d8_74) rfl ?_
    refine XS.iconst X_9.here hx rfl (hb hby d8_76) ?_
    exact k
  obtain ⟨cl_10, Ar_10, q_10, S_10, M_10, H_10, G_10⟩ := id c17
  have hin_10 : ¬ ((3 : Int32) < 0 ∨ cl_10.slots.size ≤ ((3 : Int32)).toNatClampNeg) := inb_of S_10 ⟨by decide, by decide⟩
  obtain ⟨T_10, h_10, X_10, e_10, W_10, st_10⟩ := stI X_9 hx hZ e_9 Ar_10 (j := (3 : Int32)) hin_10 (g := (mkF m 77 #[rv a0, rv a1, oD x2, oS, iv 3] [(.int (-1)), (.int 3), (.ref ro)])) rfl rfl (hb hby d8_77)
  have c22 := c10.wr W_10 (Or.inl (List.mem_of_getElem? (i := 2) rfl))
  have c23 := c11.wr W_10
  have c24 := c12.other W_10 (Or.inl n_a0_ro)
  have c25 := c13.other W_10 (Or.inl n_a0_ro)
  have c26 := c14.other W_10 (Or.inl n_a0_ro)
  have c27 := c15.wr W_10
  have c28 := c16.wr W_10
  have c29 := V_8.other W_10 n_va_ro
  have c30 := c18.other W_10 (Ne.symm n_ro_ed)
  have c31 := c19.other W_10 (Or.inl n_al_ro)
  have c32 := c20.other W_10 (Or.inl n_al_ro)
  have c33 := c21.other W_10 (Or.inl n_al_ro)
  have V_10 : Arv Z h_10 ro kr .int (16 : Int32) [(.int (-1)), (.int (-1)), (.int (-1)), (.int (-1)), (.int 0)] (.int (0 : Int32)) := Arv.set Ar_10 q_10 S_10 M_10 H_10 G_10 rfl W_10 3 rfl (Nat.le_of_ble_eq_true rfl)
  have N_10 := Fr.snoc X_10 N_8 g_ro
  have Z0__10 : n0 ≤ h_10.size := by rw [W_10.size]; exact Z0__8
  refine og (fun t k => st_10 t k) ?_
  obtain ⟨fs, hr, hrun, hended, hW, hsame⟩ := X_10.leave (v := none) (fun _ => rfl)
  refine ⟨_, _, ?_, hrun, hended, _, _, rfl, ?_, ⟨_, rfl⟩, hW, hsame.mono (by decide) (by decide)⟩
  · show Steps p.tables e below (T_10.setTop (mkF m 78 #[rv a0, rv a1, oD x2, oS, iv 3] [])) _
    exact X_10.returnOut hx Bd.returns (hb hby d8_78) hr
  · show Qac3 Z a0 a1 x2 al va ro ed ka kr kd w0 w1 w2 ca0 ca1 ca2 h0 n0 _ T_10.heap _
    rw [e_10]
    exact ⟨rfl, N_10, c22, c30, c31, c32, c33, c29, V_10⟩
theorem ef_ac4 (m : MethodId) (a0 : Addr) (a1 : Addr) (x2 : UInt64) : entryFrame m #[(.ref a0), (.ref a1), (.double x2)] 5 = mkF m 0 #[rv a0, rv a1, oD x2, oS, oU] [] := by first | (simp [entryFrame, mkF, argsToLocals, Value.category]; done) | rfl
def Qac4 (Z : State) (a0 : Addr) (a1 : Addr) (x2 : UInt64) (al : Addr) (va : Addr) (ro : Addr) (ed : Addr) (ka : ClassId) (kr : ClassId) (kd : ClassId) (w0 : UInt64) (w1 : UInt64) (w2 : UInt64) (w3 : UInt64) (ca0 : Addr) (ca1 : Addr) (ca2 : Addr) (ca3 : Addr) (h0 : Heap) (n0 : Nat) (v : Option Value) (h : Heap) (L : List Loc) : Prop := v = none ∧ Fr n0 L ∧ Keep h0 h [al, va, ro, ed] ∧ Arv Z h ed kd (.object "java/lang/Object") (10 : Int32) [(.ref ca0), (.ref ca1), (.ref ca2), (.ref ca3), (.ref a1)] .null ∧ Fld Z h al "java/util/AbstractList" "modCount" "I" (.int (5 : Int32)) ∧ Fld Z h al "java/util/ArrayList" "elementData" "[Ljava/lang/Object;" (.ref ed) ∧ Fld Z h al "java/util/ArrayList" "size" "I" (.int (5 : Int32)) ∧ Arv Z h va ka .double (16 : Int32) [(.double w0), (.double w1), (.double w2), (.double w3), (.double x2)] (.double 0) ∧ Arv Z h ro kr .int (16 : Int32) [(.int (-1)), (.int (-1)), (.int (-1)), (.int (-1)), (.int (-1))] (.int (0 : Int32))
theorem rmac4 (l : Launch) (Z : State) (av0 : Array Value) (hw : ∀ d ∈ tables_1, d.before av0 Z = true) (ws : List Jvm.Cond) (a0 : Addr) (a1 : Addr) (x2 : UInt64) (al : Addr) (va : Addr) (ro : Addr) (ed : Addr) (ka : ClassId) (kr : ClassId) (kd : ClassId) (w0 : UInt64) (w1 : UInt64) (w2 : UInt64) (w3 : UInt64) (ca0 : Addr) (ca1 : Addr) (ca2 : Addr) (ca3 : Addr) (h0 : Heap) (n0 : Nat) (Z0 : n0 ≤ h0.size) (E_a0 : Exa Z h0 a0 "com/example/ballast/ballast/placement/CuttingPlanes") (F_columns_a0 : Fld Z h0 a0 "com/example/ballast/ballast/placement/CuttingPlanes" "columns" "Ljava/util/List;" (.ref al)) (F_values_a0 : Fld Z h0 a0 "com/example/ballast/ballast/placement/CuttingPlanes" "values" "[D" (.ref va)) (F_rowOf_a0 : Fld Z h0 a0 "com/example/ballast/ballast/placement/CuttingPlanes" "rowOf" "[I" (.ref ro)) (E_al : Exa Z h0 al "java/util/ArrayList") (F_modCount_al : Fld Z h0 al "java/util/AbstractList" "modCount" "I" (.int 4)) (F_elementData_al : Fld Z h0 al "java/util/ArrayList" "elementData" "[Ljava/lang/Object;" (.ref ed)) (F_size_al : Fld Z h0 al "java/util/ArrayList" "size" "I" (.int 4)) (g_al : n0 ≤ al) (g_va : n0 ≤ va) (g_ro : n0 ≤ ro) (E_a1 : Exa Z h0 a1 "[D") (VA : Arv Z h0 va ka .double (16 : Int32) [(.double w0), (.double w1), (.double w2), (.double w3), (.double 0)] (.double 0)) (VR : Arv Z h0 ro kr .int (16 : Int32) [(.int (-1)), (.int (-1)), (.int (-1)), (.int (-1)), (.int 0)] (.int (0 : Int32))) (g_ed : n0 ≤ ed) (VE : Arv Z h0 ed kd (.object "java/lang/Object") (10 : Int32) [(.ref ca0), (.ref ca1), (.ref ca2), (.ref ca3), .null] .null) (OE : Ovr Z kd "java/lang/Object") (n_a0_al : a0 ≠ al) (n_a0_va : a0 ≠ va) (n_a0_ro : a0 ≠ ro) (n_a0_ed : a0 ≠ ed) (n_al_va : al ≠ va) (n_al_ro : al ≠ ro) (n_al_ed : al ≠ ed) (n_va_ro : va ≠ ro) (n_va_ed : va ≠ ed) (n_ro_ed : ro ≠ ed) :
    MetFree l own_m9 (head1 (Jvm.Cond.code own_m9 prog_36_method_7_code 5 none :: ws) ({ frames := 2, cells := 0, slots := 0, locals := 28 } : Room)) (fun a U => a = #[(.ref a0), (.ref a1), (.double x2)] ∧ Z.Warmed39 U.vm ∧ U.heap = h0) (fun _ _ _ _ _ => True) (fun _ U o U' => ∃ v L, o = .returned v ∧ Qac4 Z a0 a1 x2 al va ro ed ka kr kd w0 w1 w2 w3 ca0 ca1 ca2 ca3 h0 n0 v U'.heap L ∧ FrameEnd U o U' L ({ frames := 2, cells := 0, slots := 0, locals := 28 } : Room).cells ({ frames := 2, cells := 0, slots := 0, locals := 28 } : Room).slots) := by
  refine MetFree.of_bodySF (plainFor_of_name pn_8) hisR ?_
  intro p e s m args below meth c s₁ Bd hml0 hP hK
  obtain ⟨rfl, hZ, hh⟩ := hP
  have hx := Bd.exec
  have hby := Bd.bytes
  have hml : c.maxLocals = 5 := hml0
  have hown : s.vm.findClass "com/example/ballast/ballast/placement/CuttingPlanes" = some m.cls := findClass_of_methodNamed Bd.named
  have X0 : Stand p l e ({ frames := 2, cells := 0, slots := 0, locals := 28 } : Room) s m #[(.ref a0), (.ref a1), (.double x2)] below meth c s₁ [] 0 0 := Stand.of_body Bd
  have e0 : s₁.heap = h0 := by rw [← hh, Bd.state]; rfl
  have N0 := Fr.nil n0
  have K0 : Keep h0 h0 [al, va, ro, ed] := Keep.refl h0 [al, va, ro, ed]
  refine og (B := s₁.setTop (mkF m 0 #[rv a0, rv a1, oD x2, oS, oU] [])) (fun t k => castTop (ef_ac4 m a0 a1 x2) k) ?_
  refine og (B := s₁.setTop (mkF m 1 #[rv a0, rv a1, oD x2, oS, oU] [(.ref a0)])) (fun t k => ?_) ?_
  · refine XS.aloadN X0.here hx rfl (hb hby d8_0) rfl rfl ?_
    exact k
  obtain ⟨T_1, X_1, e_1, st_1⟩ := getF X0 hx hZ hown (host := "") (Or.inl (ow hw 41 rfl)) Via.refl e0 F_columns_a0 (g := (mkF m 1 #[rv a0, rv a1, oD x2, oS, oU] [(.ref a0)])) rfl rfl (hb hby d8_1)
  refine og (fun t k => st_1 t k) ?_
  obtain ⟨cq_2, kq_2, q_2a, q_2b, q_2c⟩ := isOf hZ e_1 E_al
  obtain ⟨_, _, ⟨T_2, L_2, k_2, n_2⟩, -, X_2, ⟨Lc_2, hQ_2, l_2, y_2, z_2⟩, st_2⟩ := X_1.interfaceBack hx (xi := own_m30) (y := own_m10) hown (mvT hZ (ow hw 58 rfl)) (mvT hZ (ow hw 59 rfl)) (mvT hZ (ow hw 60 rfl)) (mvT hZ (ow hw 61 rfl)) (mvT hZ (ow hw 62 rfl)) (mvT hZ (ow hw 63 rfl)) (mvT hZ (ow hw 64 rfl)) (mvT hZ (ow hw 65 rfl)) (by decide) (backOf (W := 0) (rmalz l Z av0 hw [] al (4 : Int32) h0 n0 Z0 F_size_al) hZ (ow hw 66 rfl) (ow hw 19 rfl) (by decide) (by decide)) q_2a q_2b q_2c (g := (mkF m 4 #[rv a0, rv a1, oD x2, oS, oU] [(.ref al)])) rfl (by rw [hml]; rfl) (Steps.refl _) (argsL := []) (rest := []) (lenOf pd_5 rfl) rfl (by show 2 * 0 + _ ≤ _; exact Nat.le_of_eq rfl) (hb hby d8_4) (fun _ _ => ⟨rfl, e_1, (by decide : 0 + 0 ≤ _), (by decide : 0 + 0 ≤ _)⟩)
  dsimp only [Pt.U, Pt.locs, Pt.cells, Pt.slots] at X_2 l_2 y_2 z_2 st_2 hQ_2
  subst l_2 y_2 z_2
  obtain ⟨rfl, N_2q, e_2⟩ := hQ_2
  have N_2 := Fr.app N0 N_2q
  refine og (fun t k => st_2.trans k) ?_
  refine og (B := T_2.setTop (mkF m 14 #[rv a0, rv a1, oD x2, oS, iv 4] [(.ref a0), (.int 4)])) (fun t k => ?_) ?_
  · refine XS.istore X_2.here hx rfl (hb hby d8_9) rfl (l' := #[rv a0, rv a1, oD x2, oS, iv 4]) rfl ?_
    refine XS.iload X_2.here hx rfl (hb hby d8_11) rfl ?_
    refine XS.aloadN X_2.here hx rfl (hb hby d8_13) rfl rfl ?_
    exact k
  obtain ⟨T_3, X_3, e_3, st_3⟩ := getF X_2 hx hZ hown (host := "") (Or.inl (ow hw 43 rfl)) Via.refl e_2 F_values_a0 (g := (mkF m 14 #[rv a0, rv a1, oD x2, oS, iv 4] [(.ref a0), (.int 4)])) rfl rfl (hb hby d8_14)
  refine og (fun t k => st_3 t k) ?_
  obtain ⟨cl_4, Ar_4, -, S_4, M_4, -, -⟩ := id VA
  refine og (B := T_3.setTop (mkF m 18 #[rv a0, rv a1, oD x2, oS, iv 4] [(.int 16), (.int 4)])) (fun t k => X_3.arraylength hx (by rw [(e_3 : _ = _)]; exact Ar_4.1) (State.isArrayOf_alike hZ.alike Ar_4.2.1) (g := (mkF m 17 #[rv a0, rv a1, oD x2, oS, iv 4] [(.ref va), (.int 4)])) rfl rfl (hb hby d8_17) t (by rw [len_of S_4 M_4]; exact k)) ?_
  refine og (B := T_3.setTop (mkF m 51 #[rv a0, rv a1, oD x2, oS, iv 4] [])) (fun t k => ?_) ?_
  · refine XS.icmpYes X_3.here hx rfl (pc0 := 18) (pc' := 51) rfl (hb hby d8_18) rfl (feq (by decide : ¬ ((4 : Int32) = (16 : Int32)))).2 (by decide) (by decide) ?_
    exact k
  refine og (B := T_3.setTop (mkF m 52 #[rv a0, rv a1, oD x2, oS, iv 4] [(.ref a0)])) (fun t k => ?_) ?_
  · refine XS.aloadN X_3.here hx rfl (hb hby d8_51) rfl rfl ?_
    exact k
  obtain ⟨T_5, X_5, e_5, st_5⟩ := getF X_3 hx hZ hown (host := "") (Or.inl (ow hw 41 rfl)) Via.refl e_3 F_columns_a0 (g := (mkF m 52 #[rv a0, rv a1, oD x2, oS, iv 4] [(.ref a0)])) rfl rfl (hb hby d8_52)
  refine og (fun t k => st_5 t k) ?_
  refine og (B := T_5.setTop (mkF m 56 #[rv a0, rv a1, oD x2, oS, iv 4] [(.ref a1), (.ref al)])) (fun t k => ?_) ?_
  · refine XS.aloadN X_5.here hx rfl (hb hby d8_55) rfl rfl ?_
    exact k
  obtain ⟨cq_6, kq_6, q_6a, q_6b, q_6c⟩ := isOf hZ e_5 E_al
  obtain ⟨_, _, ⟨T_6, L_6, k_6, n_6⟩, -, X_6, ⟨Lc_6, hQ_6, l_6, y_6, z_6⟩, st_6⟩ := X_5.interfaceBack hx (xi := own_m31) (y := own_m11) hown (mvT hZ (ow hw 69 rfl)) (mvT hZ (ow hw 70 rfl)) (mvT hZ (ow hw 71 rfl)) (mvT hZ (ow hw 72 rfl)) (mvT hZ (ow hw 73 rfl)) (mvT hZ (ow hw 74 rfl)) (mvT hZ (ow hw 75 rfl)) (mvT hZ (ow hw 65 rfl)) (by decide) (backOf (W := 0) (rmaa4 l Z av0 hw [] al a1 ed kd ca0 ca1 ca2 ca3 h0 n0 Z0 E_al F_modCount_al F_elementData_al F_size_al g_al E_a1 g_ed VE OE n_al_ed) hZ (ow hw 76 rfl) (ow hw 19 rfl) (by decide) (by decide)) q_6a q_6b q_6c (g := (mkF m 56 #[rv a0, rv a1, oD x2, oS, iv 4] [(.ref a1), (.ref al)])) rfl (by rw [hml]; rfl) (Steps.refl _) (argsL := [(.ref a1)]) (rest := []) (lenOf pd_6 rfl) rfl (by show 2 * 0 + _ ≤ _; exact Nat.le_of_eq rfl) (hb hby d8_56) (fun _ _ => ⟨rfl, e_5, (by decide : 0 + 0 ≤ _), (by decide : 0 + 0 ≤ _)⟩)
  dsimp only [Pt.U, Pt.locs, Pt.cells, Pt.slots] at X_6 l_6 y_6 z_6 st_6 hQ_6
  subst l_6 y_6 z_6
  obtain ⟨rfl, N_6q, K_6, VE_6, Fm_6, Fe_6, Fs_6⟩ := hQ_6
  have N_6 := Fr.app N_2 N_6q
  have c1 := K0.trans K_6 (allS (Or.inl (List.mem_of_getElem? (i := 0) rfl)) (allS (Or.inl (List.mem_of_getElem? (i := 3) rfl)) all0))
  have c2 := E_a0.keep K_6
  have c3 := F_columns_a0.keep K_6 (ninS n_a0_al (ninS n_a0_ed nin0))
  have c4 := F_values_a0.keep K_6 (ninS n_a0_al (ninS n_a0_ed nin0))
  have c5 := F_rowOf_a0.keep K_6 (ninS n_a0_al (ninS n_a0_ed nin0))
  have c6 := E_al.keep K_6
  have c7 := E_a1.keep K_6
  have c8 := VA.keep K_6 (ninS (Ne.symm n_al_va) (ninS n_va_ed nin0))
  have c9 := VR.keep K_6 (ninS (Ne.symm n_al_ro) (ninS n_ro_ed nin0))
  have Z0__6 : n0 ≤ T_6.heap.size := Nat.le_trans Z0 K_6.1
  refine og (fun t k => st_6.trans k) ?_
  refine og (B := T_6.setTop (mkF m 63 #[rv a0, rv a1, oD x2, oS, iv 4] [(.ref a0)])) (fun t k => ?_) ?_
  · refine XS.pop X_6.here hx rfl (hb hby d8_61) rfl rfl ?_
    refine XS.aloadN X_6.here hx rfl (hb hby d8_62) rfl rfl ?_
    exact k
  obtain ⟨T_7, X_7, e_7, st_7⟩ := getF X_6 hx hZ hown (host := "") (Or.inl (ow hw 43 rfl)) Via.refl rfl c4 (g := (mkF m 63 #[rv a0, rv a1, oD x2, oS, iv 4] [(.ref a0)])) rfl rfl (hb hby d8_63)
  refine og (fun t k => st_7 t k) ?_
  refine og (B := T_7.setTop (mkF m 69 #[rv a0, rv a1, oD x2, oS, iv 4] [(.double x2), (.int 4), (.ref va)])) (fun t k => ?_) ?_
  · refine XS.iload X_7.here hx rfl (hb hby d8_66) rfl ?_
    refine XS.dloadN X_7.here hx rfl (hb hby d8_68) rfl ?_
    exact k
  obtain ⟨cl_8, Ar_8, q_8, S_8, M_8, H_8, G_8⟩ := id c8
  have hin_8 : ¬ ((4 : Int32) < 0 ∨ cl_8.slots.size ≤ ((4 : Int32)).toNatClampNeg) := inb_of S_8 ⟨by decide, by decide⟩
  obtain ⟨T_8, h_8, X_8, e_8, W_8, st_8⟩ := stD X_7 hx hZ e_7 Ar_8 (j := (4 : Int32)) hin_8 (g := (mkF m 69 #[rv a0, rv a1, oD x2, oS, iv 4] [(.double x2), (.int 4), (.ref va)])) rfl rfl (hb hby d8_69)
  have c10 := c1.wr W_8 (Or.inl (List.mem_of_getElem? (i := 1) rfl))
  have c11 := c2.wr W_8
  have c12 := c3.other W_8 (Or.inl n_a0_va)
  have c13 := c4.other W_8 (Or.inl n_a0_va)
  have c14 := c5.other W_8 (Or.inl n_a0_va)
  have c15 := c6.wr W_8
  have c16 := c7.wr W_8
  have c17 := c9.other W_8 (Ne.symm n_va_ro)
  have c18 := VE_6.other W_8 (Ne.symm n_va_ed)
  have c19 := Fm_6.other W_8 (Or.inl n_al_va)
  have c20 := Fe_6.other W_8 (Or.inl n_al_va)
  have c21 := Fs_6.other W_8 (Or.inl n_al_va)
  have V_8 : Arv Z h_8 va ka .double (16 : Int32) [(.double w0), (.double w1), (.double w2), (.double w3), (.double x2)] (.double 0) := Arv.set Ar_8 q_8 S_8 M_8 H_8 G_8 rfl W_8 4 rfl (Nat.le_of_ble_eq_true rfl)
  have N_8 := Fr.snoc X_8 N_6 g_va
  have Z0__8 : n0 ≤ h_8.size := by rw [W_8.size]; exact Z0__6
  refine og (fun t k => st_8 t k) ?_
  refine og (B := T_8.setTop (mkF m 71 #[rv a0, rv a1, oD x2, oS, iv 4] [(.ref a0)])) (fun t k => ?_) ?_
  · refine XS.aloadN X_8.here hx rfl (hb hby d8_70) rfl rfl ?_
    exact k
  obtain ⟨T_9, X_9, e_9, st_9⟩ := getF X_8 hx hZ hown (host := "") (Or.inl (ow hw 46 rfl)) Via.refl e_8 c14 (g := (mkF m 71 #[rv a0, rv a1, oD x2, oS, iv 4] [(.ref a0)])) rfl rfl (hb hby d8_71)
  refine og (fun t k => st_9 t k) ?_
  refine og (B := T_9.setTop (mkF m 77 #[rv a0, rv a1, oD x2, oS, iv 4] [(.int (-1)), (.int 4), (.ref ro)])) (fun t k => ?_) ?_
  · refine XS.iload X_9.here hx rfl (hb hby d8_74) rfl ?_
    refine XS.iconst X_9.here hx rfl (hb hby d8_76) ?_
    exact k
  obtain ⟨cl_10, Ar_10, q_10, S_10, M_10, H_10, G_10⟩ := id c17
  have hin_10 : ¬ ((4 : Int32) < 0 ∨ cl_10.slots.size ≤ ((4 : Int32)).toNatClampNeg) := inb_of S_10 ⟨by decide, by decide⟩
  obtain ⟨T_10, h_10, X_10, e_10, W_10, st_10⟩ := stI X_9 hx hZ e_9 Ar_10 (j := (4 : Int32)) hin_10 (g := (mkF m 77 #[rv a0, rv a1, oD x2, oS, iv 4] [(.int (-1)), (.int 4), (.ref ro)])) rfl rfl (hb hby d8_77)
  have c22 := c10.wr W_10 (Or.inl (List.mem_of_getElem? (i := 2) rfl))
  have c23 := c11.wr W_10
  have c24 := c12.other W_10 (Or.inl n_a0_ro)
  have c25 := c13.other W_10 (Or.inl n_a0_ro)
  have c26 := c14.other W_10 (Or.inl n_a0_ro)
  have c27 := c15.wr W_10
  have c28 := c16.wr W_10
  have c29 := V_8.other W_10 n_va_ro
  have c30 := c18.other W_10 (Ne.symm n_ro_ed)
  have c31 := c19.other W_10 (Or.inl n_al_ro)
  have c32 := c20.other W_10 (Or.inl n_al_ro)
  have c33 := c21.other W_10 (Or.inl n_al_ro)
  have V_10 : Arv Z h_10 ro kr .int (16 : Int32) [(.int (-1)), (.int (-1)), (.int (-1)), (.int (-1)), (.int (-1))] (.int (0 : Int32)) := Arv.set Ar_10 q_10 S_10 M_10 H_10 G_10 rfl W_10 4 rfl (Nat.le_of_ble_eq_true rfl)
  have N_10 := Fr.snoc X_10 N_8 g_ro
  have Z0__10 : n0 ≤ h_10.size := by rw [W_10.size]; exact Z0__8
  refine og (fun t k => st_10 t k) ?_
  obtain ⟨fs, hr, hrun, hended, hW, hsame⟩ := X_10.leave (v := none) (fun _ => rfl)
  refine ⟨_, _, ?_, hrun, hended, _, _, rfl, ?_, ⟨_, rfl⟩, hW, hsame.mono (by decide) (by decide)⟩
  · show Steps p.tables e below (T_10.setTop (mkF m 78 #[rv a0, rv a1, oD x2, oS, iv 4] [])) _
    exact X_10.returnOut hx Bd.returns (hb hby d8_78) hr
  · show Qac4 Z a0 a1 x2 al va ro ed ka kr kd w0 w1 w2 w3 ca0 ca1 ca2 ca3 h0 n0 _ T_10.heap _
    rw [e_10]
    exact ⟨rfl, N_10, c22, c30, c31, c32, c33, c29, V_10⟩
theorem d3_0 : decode prog_36_method_1_code 0 = .ok (.aload_n 0, 1) := by decide +kernel
theorem d3_1 : decode prog_36_method_1_code 1 = .ok (.invokespecial 1, 3) := by decide +kernel
theorem d3_4 : decode prog_36_method_1_code 4 = .ok (.aload_n 0, 1) := by decide +kernel
theorem d3_5 : decode prog_36_method_1_code 5 = .ok (.new 7, 3) := by decide +kernel
theorem d3_8 : decode prog_36_method_1_code 8 = .ok (.dup, 1) := by decide +kernel
theorem d3_9 : decode prog_36_method_1_code 9 = .ok (.invokespecial 9, 3) := by decide +kernel
theorem d3_12 : decode prog_36_method_1_code 12 = .ok (.putfield 10, 3) := by decide +kernel
theorem d3_15 : decode prog_36_method_1_code 15 = .ok (.aload_n 0, 1) := by decide +kernel
theorem d3_16 : decode prog_36_method_1_code 16 = .ok (.bipush 16, 2) := by decide +kernel
theorem d3_18 : decode prog_36_method_1_code 18 = .ok (.newarray .double, 2) := by decide +kernel
theorem d3_20 : decode prog_36_method_1_code 20 = .ok (.putfield 16, 3) := by decide +kernel
theorem d3_23 : decode prog_36_method_1_code 23 = .ok (.aload_n 0, 1) := by decide +kernel
theorem d3_24 : decode prog_36_method_1_code 24 = .ok (.bipush 16, 2) := by decide +kernel
theorem d3_26 : decode prog_36_method_1_code 26 = .ok (.newarray .int, 2) := by decide +kernel
theorem d3_28 : decode prog_36_method_1_code 28 = .ok (.putfield 20, 3) := by decide +kernel
theorem d3_31 : decode prog_36_method_1_code 31 = .ok (.aload_n 0, 1) := by decide +kernel
theorem d3_32 : decode prog_36_method_1_code 32 = .ok (.aload_n 1, 1) := by decide +kernel
theorem d3_33 : decode prog_36_method_1_code 33 = .ok (.arraylength, 1) := by decide +kernel
theorem d3_34 : decode prog_36_method_1_code 34 = .ok (.putfield 24, 3) := by decide +kernel
theorem d3_37 : decode prog_36_method_1_code 37 = .ok (.aload_n 0, 1) := by decide +kernel
theorem d3_38 : decode prog_36_method_1_code 38 = .ok (.aload_n 0, 1) := by decide +kernel
theorem d3_39 : decode prog_36_method_1_code 39 = .ok (.getfield 24, 3) := by decide +kernel
theorem d3_42 : decode prog_36_method_1_code 42 = .ok (.iconst 1, 1) := by decide +kernel
theorem d3_43 : decode prog_36_method_1_code 43 = .ok (.iadd, 1) := by decide +kernel
theorem d3_44 : decode prog_36_method_1_code 44 = .ok (.putfield 28, 3) := by decide +kernel
theorem d3_47 : decode prog_36_method_1_code 47 = .ok (.aload_n 0, 1) := by decide +kernel
theorem d3_48 : decode prog_36_method_1_code 48 = .ok (.aload_n 0, 1) := by decide +kernel
theorem d3_49 : decode prog_36_method_1_code 49 = .ok (.getfield 28, 3) := by decide +kernel
theorem d3_52 : decode prog_36_method_1_code 52 = .ok (.newarray .int, 2) := by decide +kernel
theorem d3_54 : decode prog_36_method_1_code 54 = .ok (.putfield 31, 3) := by decide +kernel
theorem d3_57 : decode prog_36_method_1_code 57 = .ok (.iconst 0, 1) := by decide +kernel
theorem d3_58 : decode prog_36_method_1_code 58 = .ok (.istore_n 3, 1) := by decide +kernel
theorem d3_59 : decode prog_36_method_1_code 59 = .ok (.iload_n 3, 1) := by decide +kernel
theorem d3_60 : decode prog_36_method_1_code 60 = .ok (.aload_n 0, 1) := by decide +kernel
theorem d3_61 : decode prog_36_method_1_code 61 = .ok (.getfield 24, 3) := by decide +kernel
theorem d3_64 : decode prog_36_method_1_code 64 = .ok (.if_icmp .ge 60, 3) := by decide +kernel
theorem d3_67 : decode prog_36_method_1_code 67 = .ok (.aload_n 0, 1) := by decide +kernel
theorem d3_68 : decode prog_36_method_1_code 68 = .ok (.getfield 28, 3) := by decide +kernel
theorem d3_71 : decode prog_36_method_1_code 71 = .ok (.newarray .double, 2) := by decide +kernel
theorem d3_73 : decode prog_36_method_1_code 73 = .ok (.astore 4, 2) := by decide +kernel
theorem d3_75 : decode prog_36_method_1_code 75 = .ok (.aload 4, 2) := by decide +kernel
theorem d3_77 : decode prog_36_method_1_code 77 = .ok (.iload_n 3, 1) := by decide +kernel
theorem d3_78 : decode prog_36_method_1_code 78 = .ok (.iconst 1, 1) := by decide +kernel
theorem d3_79 : decode prog_36_method_1_code 79 = .ok (.iadd, 1) := by decide +kernel
theorem d3_80 : decode prog_36_method_1_code 80 = .ok (.dconst 1, 1) := by decide +kernel
theorem d3_81 : decode prog_36_method_1_code 81 = .ok (.dastore, 1) := by decide +kernel
theorem d3_82 : decode prog_36_method_1_code 82 = .ok (.aload_n 0, 1) := by decide +kernel
theorem d3_83 : decode prog_36_method_1_code 83 = .ok (.aload 4, 2) := by decide +kernel
theorem d3_85 : decode prog_36_method_1_code 85 = .ok (.aload_n 1, 1) := by decide +kernel
theorem d3_86 : decode prog_36_method_1_code 86 = .ok (.iload_n 3, 1) := by decide +kernel
theorem d3_87 : decode prog_36_method_1_code 87 = .ok (.daload, 1) := by decide +kernel
theorem d3_88 : decode prog_36_method_1_code 88 = .ok (.invokevirtual 34, 3) := by decide +kernel
theorem d3_91 : decode prog_36_method_1_code 91 = .ok (.aload_n 0, 1) := by decide +kernel
theorem d3_92 : decode prog_36_method_1_code 92 = .ok (.getfield 28, 3) := by decide +kernel
theorem d3_95 : decode prog_36_method_1_code 95 = .ok (.newarray .double, 2) := by decide +kernel
theorem d3_97 : decode prog_36_method_1_code 97 = .ok (.astore 5, 2) := by decide +kernel
theorem d3_99 : decode prog_36_method_1_code 99 = .ok (.aload 5, 2) := by decide +kernel
theorem d3_101 : decode prog_36_method_1_code 101 = .ok (.iload_n 3, 1) := by decide +kernel
theorem d3_102 : decode prog_36_method_1_code 102 = .ok (.iconst 1, 1) := by decide +kernel
theorem d3_103 : decode prog_36_method_1_code 103 = .ok (.iadd, 1) := by decide +kernel
theorem d3_104 : decode prog_36_method_1_code 104 = .ok (.ldc2_w 38, 3) := by decide +kernel
theorem d3_107 : decode prog_36_method_1_code 107 = .ok (.dastore, 1) := by decide +kernel
theorem d3_108 : decode prog_36_method_1_code 108 = .ok (.aload_n 0, 1) := by decide +kernel
theorem d3_109 : decode prog_36_method_1_code 109 = .ok (.aload 5, 2) := by decide +kernel
theorem d3_111 : decode prog_36_method_1_code 111 = .ok (.aload_n 2, 1) := by decide +kernel
theorem d3_112 : decode prog_36_method_1_code 112 = .ok (.iload_n 3, 1) := by decide +kernel
theorem d3_113 : decode prog_36_method_1_code 113 = .ok (.daload, 1) := by decide +kernel
theorem d3_114 : decode prog_36_method_1_code 114 = .ok (.dneg, 1) := by decide +kernel
theorem d3_115 : decode prog_36_method_1_code 115 = .ok (.invokevirtual 34, 3) := by decide +kernel
theorem d3_118 : decode prog_36_method_1_code 118 = .ok (.iinc 3 1, 3) := by decide +kernel
theorem d3_121 : decode prog_36_method_1_code 121 = .ok (.goto (-62), 3) := by decide +kernel
theorem d3_124 : decode prog_36_method_1_code 124 = .ok (.return_, 1) := by decide +kernel
theorem pn_3 : plainName "com/example/ballast/ballast/placement/CuttingPlanes" = true := by first | (simp [plainName, overriddenIn]; done) | decide +kernel
theorem ef_cpi (m : MethodId) (a0 : Addr) (a1 : Addr) (a2 : Addr) : entryFrame m #[(.ref a0), (.ref a1), (.ref a2)] 6 = mkF m 0 #[rv a0, rv a1, rv a2, oU, oU, oU] [] := by first | (simp [entryFrame, mkF, argsToLocals, Value.category]; done) | rfl
theorem pd_7 : parseMethodDescriptor "([DD)V" = some ⟨[(.array .double), .double], none⟩ := by decide +kernel
def Qcpi (Z : State) (a0 : Addr) (a1 : Addr) (a2 : Addr) (u0 : Value) (u1 : Value) (u2 : Value) (u3 : Value) (u4 : Value) (u5 : Value) (u6 : Value) (u7 : Value) (u8 : Value) (de : Addr) (kd : ClassId) (kl : ClassId) (kh : ClassId) (lo0 : UInt64) (lo1 : UInt64) (hi0 : UInt64) (hi1 : UInt64) (h0 : Heap) (n0 : Nat) (v : Option Value) (h : Heap) (L : List Loc) : Prop := ∃ (al va ro ba ca0 ed ca1 ca2 ca3 : Addr) (kd ka kr kq kc0 kc1 kc2 kc3 : ClassId), v = none ∧ Fr n0 L ∧ Keep h0 h [a0] ∧ h0.size ≤ al ∧ al < va ∧ va < ro ∧ ro < ba ∧ ba < ca0 ∧ ca0 < ed ∧ ed < ca1 ∧ ca1 < ca2 ∧ ca2 < ca3 ∧ Fld Z h a0 "com/example/ballast/ballast/placement/CuttingPlanes" "columns" "Ljava/util/List;" (.ref al) ∧ Fld Z h a0 "com/example/ballast/ballast/placement/CuttingPlanes" "values" "[D" (.ref va) ∧ Fld Z h a0 "com/example/ballast/ballast/placement/CuttingPlanes" "rowOf" "[I" (.ref ro) ∧ Fld Z h a0 "com/example/ballast/ballast/placement/CuttingPlanes" "dimensions" "I" (.int 2) ∧ Fld Z h a0 "com/example/ballast/ballast/placement/CuttingPlanes" "rows" "I" (.int 3) ∧ Fld Z h a0 "com/example/ballast/ballast/placement/CuttingPlanes" "basis" "[I" (.ref ba) ∧ Fld Z h a0 "com/example/ballast/ballast/placement/CuttingPlanes" "inverse" "[[D" u6 ∧ Fld Z h a0 "com/example/ballast/ballast/placement/CuttingPlanes" "basic" "[D" u7 ∧ Fld Z h a0 "com/example/ballast/ballast/placement/CuttingPlanes" "multipliers" "[D" u8 ∧ Exa Z h al "java/util/ArrayList" ∧ Fld Z h al "java/util/AbstractList" "modCount" "I" (.int (4 : Int32)) ∧ Fld Z h al "java/util/ArrayList" "elementData" "[Ljava/lang/Object;" (.ref ed) ∧ Fld Z h al "java/util/ArrayList" "size" "I" (.int (4 : Int32)) ∧ Arv Z h ed kd (.object "java/lang/Object") (10 : Int32) [(.ref ca0), (.ref ca1), (.ref ca2), (.ref ca3), .null] .null ∧ Ovr Z kd "java/lang/Object" ∧ Arv Z h va ka .double (16 : Int32) [(.double lo0), (.double (FP.dneg hi0)), (.double lo1), (.double (FP.dneg hi1)), (.double 0)] (.double 0) ∧ Arv Z h ro kr .int (16 : Int32) [(.int (-1)), (.int (-1)), (.int (-1)), (.int (-1)), (.int 0)] (.int (0 : Int32)) ∧ Arv Z h ba kq .int (3 : Int32) [(.int 0), (.int 0), (.int 0)] (.int (0 : Int32)) ∧ Exa Z h ca0 "[D" ∧ Arv Z h ca0 kc0 .double (3 : Int32) [(.double 0), (.double 4607182418800017408), (.double 0)] (.double 0) ∧ Exa Z h ca1 "[D" ∧ Arv Z h ca1 kc1 .double (3 : Int32) [(.double 0), (.double 13830554455654793216), (.double 0)] (.double 0) ∧ Exa Z h ca2 "[D" ∧ Arv Z h ca2 kc2 .double (3 : Int32) [(.double 0), (.double 0), (.double 4607182418800017408)] (.double 0) ∧ Exa Z h ca3 "[D" ∧ Arv Z h ca3 kc3 .double (3 : Int32) [(.double 0), (.double 0), (.double 13830554455654793216)] (.double 0)
theorem rmcpi (l : Launch) (Z : State) (av0 : Array Value) (hw : ∀ d ∈ tables_1, d.before av0 Z = true) (ws : List Jvm.Cond) (a0 : Addr) (a1 : Addr) (a2 : Addr) (u0 : Value) (u1 : Value) (u2 : Value) (u3 : Value) (u4 : Value) (u5 : Value) (u6 : Value) (u7 : Value) (u8 : Value) (de : Addr) (kd : ClassId) (kl : ClassId) (kh : ClassId) (lo0 : UInt64) (lo1 : UInt64) (hi0 : UInt64) (hi1 : UInt64) (h0 : Heap) (n0 : Nat) (Z0 : n0 ≤ h0.size) (E_a0 : Exa Z h0 a0 "com/example/ballast/ballast/placement/CuttingPlanes") (F_columns_a0 : Fld Z h0 a0 "com/example/ballast/ballast/placement/CuttingPlanes" "columns" "Ljava/util/List;" u0) (F_values_a0 : Fld Z h0 a0 "com/example/ballast/ballast/placement/CuttingPlanes" "values" "[D" u1) (F_rowOf_a0 : Fld Z h0 a0 "com/example/ballast/ballast/placement/CuttingPlanes" "rowOf" "[I" u2) (F_dimensions_a0 : Fld Z h0 a0 "com/example/ballast/ballast/placement/CuttingPlanes" "dimensions" "I" u3) (F_rows_a0 : Fld Z h0 a0 "com/example/ballast/ballast/placement/CuttingPlanes" "rows" "I" u4) (F_basis_a0 : Fld Z h0 a0 "com/example/ballast/ballast/placement/CuttingPlanes" "basis" "[I" u5) (F_inverse_a0 : Fld Z h0 a0 "com/example/ballast/ballast/placement/CuttingPlanes" "inverse" "[[D" u6) (F_basic_a0 : Fld Z h0 a0 "com/example/ballast/ballast/placement/CuttingPlanes" "basic" "[D" u7) (F_multipliers_a0 : Fld Z h0 a0 "com/example/ballast/ballast/placement/CuttingPlanes" "multipliers" "[D" u8) (g_a0 : n0 ≤ a0) (S_DEFAULTCAPACITY_EMPTY_ELEMENTDATA : Sta Z h0 "java/util/ArrayList" "DEFAULTCAPACITY_EMPTY_ELEMENTDATA" "[Ljava/lang/Object;" (.ref de)) (VD : Arv Z h0 de kd (.object "java/lang/Object") (0 : Int32) [] .null) (VL : Arv Z h0 a1 kl .double (2 : Int32) [(.double lo0), (.double lo1)] (.double 0)) (VH : Arv Z h0 a2 kh .double (2 : Int32) [(.double hi0), (.double hi1)] (.double 0)) (n1 : a1 ≠ a0) (n2 : a2 ≠ a0) (nd : de ≠ a0) :
    MetFree l own_m4 (head1 (Jvm.Cond.code own_m4 prog_36_method_1_code 6 none :: ws) ({ frames := 6, cells := 9, slots := 60, locals := 85 } : Room)) (fun a U => a = #[(.ref a0), (.ref a1), (.ref a2)] ∧ Z.Warmed39 U.vm ∧ U.heap = h0) (fun _ _ _ _ _ => True) (fun _ U o U' => ∃ v L, o = .returned v ∧ Qcpi Z a0 a1 a2 u0 u1 u2 u3 u4 u5 u6 u7 u8 de kd kl kh lo0 lo1 hi0 hi1 h0 n0 v U'.heap L ∧ FrameEnd U o U' L ({ frames := 6, cells := 9, slots := 60, locals := 85 } : Room).cells ({ frames := 6, cells := 9, slots := 60, locals := 85 } : Room).slots) := by
  refine MetFree.of_bodySF (plainFor_of_name pn_3) hisR ?_
  intro p e s m args below meth c s₁ Bd hml0 hP hK
  obtain ⟨rfl, hZ, hh⟩ := hP
  have hx := Bd.exec
  have hby := Bd.bytes
  have hml : c.maxLocals = 6 := hml0
  have hown : s.vm.findClass "com/example/ballast/ballast/placement/CuttingPlanes" = some m.cls := findClass_of_methodNamed Bd.named
  have hnm := (name_of_methodNamed Bd.named Bd.method).1
  have X0 : Stand p l e ({ frames := 6, cells := 9, slots := 60, locals := 85 } : Room) s m #[(.ref a0), (.ref a1), (.ref a2)] below meth c s₁ [] 0 0 := Stand.of_body Bd
  have e0 : s₁.heap = h0 := by rw [← hh, Bd.state]; rfl
  have N0 := Fr.nil n0
  have K0 : Keep h0 h0 [a0] := Keep.refl h0 [a0]
  refine og (B := s₁.setTop (mkF m 0 #[rv a0, rv a1, rv a2, oU, oU, oU] [])) (fun t k => castTop (ef_cpi m a0 a1 a2) k) ?_
  refine og (B := s₁.setTop (mkF m 1 #[rv a0, rv a1, rv a2, oU, oU, oU] [(.ref a0)])) (fun t k => ?_) ?_
  · refine XS.aloadN X0.here hx rfl (hb hby d3_0) rfl rfl ?_
    exact k
  obtain ⟨T_1, X_1, e_1, st_1⟩ := initO X0 hx hZ hown (ow hw 14 rfl) (ow hw 15 rfl) (ow hw 16 rfl) e0 (g := (mkF m 1 #[rv a0, rv a1, rv a2, oU, oU, oU] [(.ref a0)])) rfl (by rw [hml]; rfl) rfl (hb hby d3_1) (by decide) (W := 0) (by show 2 * 0 + _ ≤ _; exact Nat.le_of_eq rfl) (by decide)
  refine og (fun t k => st_1 t k) ?_
  refine og (B := T_1.setTop (mkF m 5 #[rv a0, rv a1, rv a2, oU, oU, oU] [(.ref a0)])) (fun t k => ?_) ?_
  · refine XS.aloadN X_1.here hx rfl (hb hby d3_4) rfl rfl ?_
    exact k
  obtain ⟨T_2, h_2, X_2, e_2, E_2, A_2, D_2, -, st_2⟩ := newO X_1 hx hZ hown (ow hw 17 rfl) (ow hw 18 rfl) (ow hw 19 rfl) e_1 (g := (mkF m 5 #[rv a0, rv a1, rv a2, oU, oU, oU] [(.ref a0)])) rfl (hb hby d3_5) (by decide) (by decide)
  obtain ⟨b_2, g_2⟩ : ∃ z, z = h0.size := ⟨_, rfl⟩
  rw [← g_2] at A_2 D_2 st_2
  have g_b_2 : n0 ≤ b_2 := Nat.le_trans Z0 (Nat.le_of_eq g_2.symm)
  have sz_b_2 : h0.size ≤ b_2 := Nat.le_trans K0.1 (Nat.le_of_eq g_2.symm)
  have lt_a0_b_2 : a0 < b_2 := Nat.lt_of_lt_of_le (E_a0).lt (Nat.le_of_eq g_2.symm)
  have ne_a0_b_2 := Nat.ne_of_lt lt_a0_b_2
  have lt_de_b_2 : de < b_2 := Nat.lt_of_lt_of_le (VD).lt (Nat.le_of_eq g_2.symm)
  have ne_de_b_2 := Nat.ne_of_lt lt_de_b_2
  have lt_a1_b_2 : a1 < b_2 := Nat.lt_of_lt_of_le (VL).lt (Nat.le_of_eq g_2.symm)
  have ne_a1_b_2 := Nat.ne_of_lt lt_a1_b_2
  have lt_a2_b_2 : a2 < b_2 := Nat.lt_of_lt_of_le (VH).lt (Nat.le_of_eq g_2.symm)
  have ne_a2_b_2 := Nat.ne_of_lt lt_a2_b_2
  have c1 := K0.ext E_2
  have c2 := E_a0.ext E_2
  have c3 := F_columns_a0.ext E_2
  have c4 := F_values_a0.ext E_2
  have c5 := F_rowOf_a0.ext E_2
  have c6 := F_dimensions_a0.ext E_2
  have c7 := F_rows_a0.ext E_2
  have c8 := F_basis_a0.ext E_2
  have c9 := F_inverse_a0.ext E_2
  have c10 := F_basic_a0.ext E_2
  have c11 := F_multipliers_a0.ext E_2
  have c12 := S_DEFAULTCAPACITY_EMPTY_ELEMENTDATA.ext E_2
  have c13 := VD.ext E_2
  have c14 := VL.ext E_2
  have c15 := VH.ext E_2
  have Z0__2 : n0 ≤ h_2.size := Nat.le_trans Z0 E_2.1
  have F_modCount_b_2 : Fld Z h_2 b_2 "java/util/AbstractList" "modCount" "I" (.int 0) := D_2 (Or.inl (ow hw 37 rfl)) (ty := .int) (by decide)
  have F_elementData_b_2 : Fld Z h_2 b_2 "java/util/ArrayList" "elementData" "[Ljava/lang/Object;" .null := D_2 (Or.inl (ow hw 40 rfl)) (ty := (.array (.object "java/lang/Object"))) (by decide)
  have F_size_b_2 : Fld Z h_2 b_2 "java/util/ArrayList" "size" "I" (.int 0) := D_2 (Or.inl (ow hw 68 rfl)) (ty := .int) (by decide)
  refine og (fun t k => st_2 t k) ?_
  refine og (B := T_2.setTop (mkF m 9 #[rv a0, rv a1, rv a2, oU, oU, oU] [(.ref b_2), (.ref b_2), (.ref a0)])) (fun t k => ?_) ?_
  · refine XS.dup X_2.here hx rfl (hb hby d3_8) rfl rfl ?_
    exact k
  obtain ⟨_, _, ⟨T_3, L_3, k_3, n_3⟩, -, X_3, ⟨Lc_3, hQ_3, l_3, y_3, z_3⟩, st_3⟩ := X_2.specialBack hx (y := own_m6) rfl hown (mvT hZ (ow hw 20 rfl)) (mvT hZ (ow hw 21 rfl)) (mvT hZ (ow hw 22 rfl)) (by decide) (backOf (W := 2) (rmali l Z av0 hw [] b_2 (.int 0) .null (.int 0) de h_2 n0 Z0__2 A_2 F_modCount_b_2 F_elementData_b_2 F_size_b_2 g_b_2 c12) hZ (ow hw 22 rfl) (ow hw 19 rfl) (by decide) (by decide)) (g := (mkF m 9 #[rv a0, rv a1, rv a2, oU, oU, oU] [(.ref b_2), (.ref b_2), (.ref a0)])) rfl (by rw [hml]; rfl) (Steps.refl _) (a := b_2) (argsL := []) (rest := [(.ref b_2), (.ref a0)]) (lenOf pd_0 rfl) rfl (by show 2 * 0 + _ ≤ _; exact Nat.le_of_eq rfl) (hb hby d3_9) (fun _ _ => ⟨rfl, e_2, (by decide : 1 + 0 ≤ _), (by decide : 3 + 0 ≤ _)⟩)
  dsimp only [Pt.U, Pt.locs, Pt.cells, Pt.slots] at X_3 l_3 y_3 z_3 st_3 hQ_3
  subst l_3 y_3 z_3
  obtain ⟨rfl, N_3q, K_3, Fm_3, Fe_3, Fs_3⟩ := hQ_3
  have N_3 := Fr.app N0 N_3q
  have c16 := c1.trans K_3 (allS (Or.inr sz_b_2) all0)
  have c17 := c2.keep K_3
  have c18 := c3.keep K_3 (ninS ne_a0_b_2 nin0)
  have c19 := c4.keep K_3 (ninS ne_a0_b_2 nin0)
  have c20 := c5.keep K_3 (ninS ne_a0_b_2 nin0)
  have c21 := c6.keep K_3 (ninS ne_a0_b_2 nin0)
  have c22 := c7.keep K_3 (ninS ne_a0_b_2 nin0)
  have c23 := c8.keep K_3 (ninS ne_a0_b_2 nin0)
  have c24 := c9.keep K_3 (ninS ne_a0_b_2 nin0)
  have c25 := c10.keep K_3 (ninS ne_a0_b_2 nin0)
  have c26 := c11.keep K_3 (ninS ne_a0_b_2 nin0)
  have c27 := own_stake c12 K_3 A_2
  have c28 := c13.keep K_3 (ninS ne_de_b_2 nin0)
  have c29 := c14.keep K_3 (ninS ne_a1_b_2 nin0)
  have c30 := c15.keep K_3 (ninS ne_a2_b_2 nin0)
  have c31 := A_2.keep K_3
  have Z0__3 : n0 ≤ T_3.heap.size := Nat.le_trans Z0__2 K_3.1
  refine og (fun t k => st_3.trans k) ?_
  obtain ⟨T_4, h_4, X_4, e_4, W_4, st_4⟩ := putF X_3 hx hZ hown (host := "") (Or.inl (ow hw 41 rfl)) Via.refl rfl c18 c17 (Or.inr ⟨(ow hw 42 rfl), rfl, hnm⟩) (ow hw 8 rfl) (ty := (.object "java/util/List")) (by decide) rfl rfl (g := (mkF m 12 #[rv a0, rv a1, rv a2, oU, oU, oU] [(.ref b_2), (.ref a0)])) rfl rfl (hb hby d3_12)
  have c32 := c16.wr W_4 (Or.inl (List.mem_of_getElem? (i := 0) rfl))
  have c33 := c17.wr W_4
  have c34 := c18.same W_4
  have c35 := c19.other W_4 (Or.inr (slot_ne (Or.inl (ow hw 44 rfl)) (Or.inr (ow hw 42 rfl)) (by decide) (t := (.array .double)) (t' := (.object "java/util/List")) (by decide) (by decide)))
  have c36 := c20.other W_4 (Or.inr (slot_ne (Or.inl (ow hw 47 rfl)) (Or.inr (ow hw 42 rfl)) (by decide) (t := (.array .int)) (t' := (.object "java/util/List")) (by decide) (by decide)))
  have c37 := c21.other W_4 (Or.inr (slot_ne (Or.inr (ow hw 49 rfl)) (Or.inr (ow hw 42 rfl)) (by decide) (t := .int) (t' := (.object "java/util/List")) (by decide) (by decide)))
  have c38 := c22.other W_4 (Or.inr (slot_ne (Or.inr (ow hw 51 rfl)) (Or.inr (ow hw 42 rfl)) (by decide) (t := .int) (t' := (.object "java/util/List")) (by decide) (by decide)))
  have c39 := c23.other W_4 (Or.inr (slot_ne (Or.inr (ow hw 53 rfl)) (Or.inr (ow hw 42 rfl)) (by decide) (t := (.array .int)) (t' := (.object "java/util/List")) (by decide) (by decide)))
  have c40 := c24.other W_4 (Or.inr (slot_ne (Or.inl (ow hw 105 rfl)) (Or.inr (ow hw 42 rfl)) (by decide) (t := (.array (.array .double))) (t' := (.object "java/util/List")) (by decide) (by decide)))
  have c41 := c25.other W_4 (Or.inr (slot_ne (Or.inl (ow hw 134 rfl)) (Or.inr (ow hw 42 rfl)) (by decide) (t := (.array .double)) (t' := (.object "java/util/List")) (by decide) (by decide)))
  have c42 := c26.other W_4 (Or.inr (slot_ne (Or.inl (ow hw 152 rfl)) (Or.inr (ow hw 42 rfl)) (by decide) (t := (.array .double)) (t' := (.object "java/util/List")) (by decide) (by decide)))
  have c43 := c27.wr W_4
  have c44 := c28.other W_4 nd
  have c45 := c29.other W_4 n1
  have c46 := c30.other W_4 n2
  have c47 := c31.wr W_4
  have c48 := Fm_3.other W_4 (Or.inl (Ne.symm ne_a0_b_2))
  have c49 := Fe_3.other W_4 (Or.inl (Ne.symm ne_a0_b_2))
  have c50 := Fs_3.other W_4 (Or.inl (Ne.symm ne_a0_b_2))
  have N_4 := Fr.snoc X_4 N_3 g_a0
  have Z0__4 : n0 ≤ h_4.size := by rw [W_4.size]; exact Z0__3
  refine og (fun t k => st_4 t k) ?_
  refine og (B := T_4.setTop (mkF m 18 #[rv a0, rv a1, rv a2, oU, oU, oU] [(.int 16), (.ref a0)])) (fun t k => ?_) ?_
  · refine XS.aloadN X_4.here hx rfl (hb hby d3_15) rfl rfl ?_
    refine XS.bipush X_4.here hx rfl (hb hby d3_16) ?_
    exact k
  obtain ⟨T_5, h_5, k_5, X_5, e_5, E_5, A_5, Q_5, st_5⟩ := newPE X_4 hx hZ (ow hw 10 rfl) e_4 (g := (mkF m 18 #[rv a0, rv a1, rv a2, oU, oU, oU] [(.int 16), (.ref a0)])) rfl (hb hby d3_18) rfl (by decide) (cap := 16) (by decide) (by decide) (by decide) (by decide) (ad := "[D") (by decide)
  obtain ⟨b_5, g_5⟩ : ∃ z, z = h_4.size := ⟨_, rfl⟩
  rw [← g_5] at A_5 Q_5 st_5
  have g_b_5 : n0 ≤ b_5 := Nat.le_trans Z0__4 (Nat.le_of_eq g_5.symm)
  have sz_b_5 : h0.size ≤ b_5 := Nat.le_trans c32.1 (Nat.le_of_eq g_5.symm)
  have lt_a0_b_5 : a0 < b_5 := Nat.lt_of_lt_of_le (c33).lt (Nat.le_of_eq g_5.symm)
  have ne_a0_b_5 := Nat.ne_of_lt lt_a0_b_5
  have lt_de_b_5 : de < b_5 := Nat.lt_of_lt_of_le (c44).lt (Nat.le_of_eq g_5.symm)
  have ne_de_b_5 := Nat.ne_of_lt lt_de_b_5
  have lt_a1_b_5 : a1 < b_5 := Nat.lt_of_lt_of_le (c45).lt (Nat.le_of_eq g_5.symm)
  have ne_a1_b_5 := Nat.ne_of_lt lt_a1_b_5
  have lt_a2_b_5 : a2 < b_5 := Nat.lt_of_lt_of_le (c46).lt (Nat.le_of_eq g_5.symm)
  have ne_a2_b_5 := Nat.ne_of_lt lt_a2_b_5
  have lt_b_2_b_5 : b_2 < b_5 := Nat.lt_of_lt_of_le (c47).lt (Nat.le_of_eq g_5.symm)
  have ne_b_2_b_5 := Nat.ne_of_lt lt_b_2_b_5
  have c51 := c32.ext E_5
  have c52 := c33.ext E_5
  have c53 := c34.ext E_5
  have c54 := c35.ext E_5
  have c55 := c36.ext E_5
  have c56 := c37.ext E_5
  have c57 := c38.ext E_5
  have c58 := c39.ext E_5
  have c59 := c40.ext E_5
  have c60 := c41.ext E_5
  have c61 := c42.ext E_5
  have c62 := c43.ext E_5
  have c63 := c44.ext E_5
  have c64 := c45.ext E_5
  have c65 := c46.ext E_5
  have c66 := c47.ext E_5
  have c67 := c48.ext E_5
  have c68 := c49.ext E_5
  have c69 := c50.ext E_5
  have Z0__5 : n0 ≤ h_5.size := Nat.le_trans Z0__4 E_5.1
  have V_b_5 : Arv Z h_5 b_5 k_5 .double (16 : Int32) [(.double 0), (.double 0), (.double 0), (.double 0), (.double 0)] (.double 0) := (Arv.new A_5 (by decide)).pad (pad_rep [] (.double 0) 5)
  refine og (fun t k => st_5 t k) ?_
  obtain ⟨T_6, h_6, X_6, e_6, W_6, st_6⟩ := putF X_5 hx hZ hown (host := "") (Or.inl (ow hw 43 rfl)) Via.refl e_5 c54 c52 (Or.inl (ow hw 44 rfl)) (ow hw 8 rfl) (ty := (.array .double)) (by decide) rfl rfl (g := (mkF m 20 #[rv a0, rv a1, rv a2, oU, oU, oU] [(.ref b_5), (.ref a0)])) rfl rfl (hb hby d3_20)
  have c70 := c51.wr W_6 (Or.inl (List.mem_of_getElem? (i := 0) rfl))
  have c71 := c52.wr W_6
  have c72 := c53.other W_6 (Or.inr (slot_ne (Or.inr (ow hw 42 rfl)) (Or.inl (ow hw 44 rfl)) (by decide) (t := (.object "java/util/List")) (t' := (.array .double)) (by decide) (by decide)))
  have c73 := c54.same W_6
  have c74 := c55.other W_6 (Or.inr (slot_ne (Or.inl (ow hw 47 rfl)) (Or.inl (ow hw 44 rfl)) (by decide) (t := (.array .int)) (t' := (.array .double)) (by decide) (by decide)))
  have c75 := c56.other W_6 (Or.inr (slot_ne (Or.inr (ow hw 49 rfl)) (Or.inl (ow hw 44 rfl)) (by decide) (t := .int) (t' := (.array .double)) (by decide) (by decide)))
  have c76 := c57.other W_6 (Or.inr (slot_ne (Or.inr (ow hw 51 rfl)) (Or.inl (ow hw 44 rfl)) (by decide) (t := .int) (t' := (.array .double)) (by decide) (by decide)))
  have c77 := c58.other W_6 (Or.inr (slot_ne (Or.inr (ow hw 53 rfl)) (Or.inl (ow hw 44 rfl)) (by decide) (t := (.array .int)) (t' := (.array .double)) (by decide) (by decide)))
  have c78 := c59.other W_6 (Or.inr (slot_ne (Or.inl (ow hw 105 rfl)) (Or.inl (ow hw 44 rfl)) (by decide) (t := (.array (.array .double))) (t' := (.array .double)) (by decide) (by decide)))
  have c79 := c60.other W_6 (Or.inr (slot_ne (Or.inl (ow hw 134 rfl)) (Or.inl (ow hw 44 rfl)) (by decide) (t := (.array .double)) (t' := (.array .double)) (by decide) (by decide)))
  have c80 := c61.other W_6 (Or.inr (slot_ne (Or.inl (ow hw 152 rfl)) (Or.inl (ow hw 44 rfl)) (by decide) (t := (.array .double)) (t' := (.array .double)) (by decide) (by decide)))
  have c81 := c62.wr W_6
  have c82 := c63.other W_6 nd
  have c83 := c64.other W_6 n1
  have c84 := c65.other W_6 n2
  have c85 := c66.wr W_6
  have c86 := c67.other W_6 (Or.inl (Ne.symm ne_a0_b_2))
  have c87 := c68.other W_6 (Or.inl (Ne.symm ne_a0_b_2))
  have c88 := c69.other W_6 (Or.inl (Ne.symm ne_a0_b_2))
  have c89 := Q_5.wr W_6
  have c90 := V_b_5.other W_6 (Ne.symm ne_a0_b_5)
  have N_6 := Fr.snoc X_6 N_4 g_a0
  have Z0__6 : n0 ≤ h_6.size := by rw [W_6.size]; exact Z0__5
  refine og (fun t k => st_6 t k) ?_
  refine og (B := T_6.setTop (mkF m 26 #[rv a0, rv a1, rv a2, oU, oU, oU] [(.int 16), (.ref a0)])) (fun t k => ?_) ?_
  · refine XS.aloadN X_6.here hx rfl (hb hby d3_23) rfl rfl ?_
    refine XS.bipush X_6.here hx rfl (hb hby d3_24) ?_
    exact k
  obtain ⟨T_7, h_7, k_7, X_7, e_7, E_7, A_7, Q_7, st_7⟩ := newPE X_6 hx hZ (ow hw 45 rfl) e_6 (g := (mkF m 26 #[rv a0, rv a1, rv a2, oU, oU, oU] [(.int 16), (.ref a0)])) rfl (hb hby d3_26) rfl (by decide) (cap := 16) (by decide) (by decide) (by decide) (by decide) (ad := "[I") (by decide)
  obtain ⟨b_7, g_7⟩ : ∃ z, z = h_6.size := ⟨_, rfl⟩
  rw [← g_7] at A_7 Q_7 st_7
  have g_b_7 : n0 ≤ b_7 := Nat.le_trans Z0__6 (Nat.le_of_eq g_7.symm)
  have sz_b_7 : h0.size ≤ b_7 := Nat.le_trans c70.1 (Nat.le_of_eq g_7.symm)
  have lt_a0_b_7 : a0 < b_7 := Nat.lt_of_lt_of_le (c71).lt (Nat.le_of_eq g_7.symm)
  have ne_a0_b_7 := Nat.ne_of_lt lt_a0_b_7
  have lt_de_b_7 : de < b_7 := Nat.lt_of_lt_of_le (c82).lt (Nat.le_of_eq g_7.symm)
  have ne_de_b_7 := Nat.ne_of_lt lt_de_b_7
  have lt_a1_b_7 : a1 < b_7 := Nat.lt_of_lt_of_le (c83).lt (Nat.le_of_eq g_7.symm)
  have ne_a1_b_7 := Nat.ne_of_lt lt_a1_b_7
  have lt_a2_b_7 : a2 < b_7 := Nat.lt_of_lt_of_le (c84).lt (Nat.le_of_eq g_7.symm)
  have ne_a2_b_7 := Nat.ne_of_lt lt_a2_b_7
  have lt_b_2_b_7 : b_2 < b_7 := Nat.lt_of_lt_of_le (c85).lt (Nat.le_of_eq g_7.symm)
  have ne_b_2_b_7 := Nat.ne_of_lt lt_b_2_b_7
  have lt_b_5_b_7 : b_5 < b_7 := Nat.lt_of_lt_of_le (c89).lt (Nat.le_of_eq g_7.symm)
  have ne_b_5_b_7 := Nat.ne_of_lt lt_b_5_b_7
  have c91 := c70.ext E_7
  have c92 := c71.ext E_7
  have c93 := c72.ext E_7
  have c94 := c73.ext E_7
  have c95 := c74.ext E_7
  have c96 := c75.ext E_7
  have c97 := c76.ext E_7
  have c98 := c77.ext E_7
  have c99 := c78.ext E_7
  have c100 := c79.ext E_7
  have c101 := c80.ext E_7
  have c102 := c81.ext E_7
  have c103 := c82.ext E_7
  have c104 := c83.ext E_7
  have c105 := c84.ext E_7
  have c106 := c85.ext E_7
  have c107 := c86.ext E_7
  have c108 := c87.ext E_7
  have c109 := c88.ext E_7
  have c110 := c89.ext E_7
  have c111 := c90.ext E_7
  have Z0__7 : n0 ≤ h_7.size := Nat.le_trans Z0__6 E_7.1
  have V_b_7 : Arv Z h_7 b_7 k_7 .int (16 : Int32) [(.int (0 : Int32)), (.int (0 : Int32)), (.int (0 : Int32)), (.int (0 : Int32)), (.int (0 : Int32))] (.int (0 : Int32)) := (Arv.new A_7 (by decide)).pad (pad_rep [] (.int (0 : Int32)) 5)
  refine og (fun t k => st_7 t k) ?_
  obtain ⟨T_8, h_8, X_8, e_8, W_8, st_8⟩ := putF X_7 hx hZ hown (host := "") (Or.inl (ow hw 46 rfl)) Via.refl e_7 c95 c92 (Or.inl (ow hw 47 rfl)) (ow hw 8 rfl) (ty := (.array .int)) (by decide) rfl rfl (g := (mkF m 28 #[rv a0, rv a1, rv a2, oU, oU, oU] [(.ref b_7), (.ref a0)])) rfl rfl (hb hby d3_28)
  have c112 := c91.wr W_8 (Or.inl (List.mem_of_getElem? (i := 0) rfl))
  have c113 := c92.wr W_8
  have c114 := c93.other W_8 (Or.inr (slot_ne (Or.inr (ow hw 42 rfl)) (Or.inl (ow hw 47 rfl)) (by decide) (t := (.object "java/util/List")) (t' := (.array .int)) (by decide) (by decide)))
  have c115 := c94.other W_8 (Or.inr (slot_ne (Or.inl (ow hw 44 rfl)) (Or.inl (ow hw 47 rfl)) (by decide) (t := (.array .double)) (t' := (.array .int)) (by decide) (by decide)))
  have c116 := c95.same W_8
  have c117 := c96.other W_8 (Or.inr (slot_ne (Or.inr (ow hw 49 rfl)) (Or.inl (ow hw 47 rfl)) (by decide) (t := .int) (t' := (.array .int)) (by decide) (by decide)))
  have c118 := c97.other W_8 (Or.inr (slot_ne (Or.inr (ow hw 51 rfl)) (Or.inl (ow hw 47 rfl)) (by decide) (t := .int) (t' := (.array .int)) (by decide) (by decide)))
  have c119 := c98.other W_8 (Or.inr (slot_ne (Or.inr (ow hw 53 rfl)) (Or.inl (ow hw 47 rfl)) (by decide) (t := (.array .int)) (t' := (.array .int)) (by decide) (by decide)))
  have c120 := c99.other W_8 (Or.inr (slot_ne (Or.inl (ow hw 105 rfl)) (Or.inl (ow hw 47 rfl)) (by decide) (t := (.array (.array .double))) (t' := (.array .int)) (by decide) (by decide)))
  have c121 := c100.other W_8 (Or.inr (slot_ne (Or.inl (ow hw 134 rfl)) (Or.inl (ow hw 47 rfl)) (by decide) (t := (.array .double)) (t' := (.array .int)) (by decide) (by decide)))
  have c122 := c101.other W_8 (Or.inr (slot_ne (Or.inl (ow hw 152 rfl)) (Or.inl (ow hw 47 rfl)) (by decide) (t := (.array .double)) (t' := (.array .int)) (by decide) (by decide)))
  have c123 := c102.wr W_8
  have c124 := c103.other W_8 nd
  have c125 := c104.other W_8 n1
  have c126 := c105.other W_8 n2
  have c127 := c106.wr W_8
  have c128 := c107.other W_8 (Or.inl (Ne.symm ne_a0_b_2))
  have c129 := c108.other W_8 (Or.inl (Ne.symm ne_a0_b_2))
  have c130 := c109.other W_8 (Or.inl (Ne.symm ne_a0_b_2))
  have c131 := c110.wr W_8
  have c132 := c111.other W_8 (Ne.symm ne_a0_b_5)
  have c133 := V_b_7.other W_8 (Ne.symm ne_a0_b_7)
  have N_8 := Fr.snoc X_8 N_6 g_a0
  have Z0__8 : n0 ≤ h_8.size := by rw [W_8.size]; exact Z0__7
  refine og (fun t k => st_8 t k) ?_
  refine og (B := T_8.setTop (mkF m 33 #[rv a0, rv a1, rv a2, oU, oU, oU] [(.ref a1), (.ref a0)])) (fun t k => ?_) ?_
  · refine XS.aloadN X_8.here hx rfl (hb hby d3_31) rfl rfl ?_
    refine XS.aloadN X_8.here hx rfl (hb hby d3_32) rfl rfl ?_
    exact k
  obtain ⟨cl_9, Ar_9, -, S_9, M_9, -, -⟩ := id c125
  refine og (B := T_8.setTop (mkF m 34 #[rv a0, rv a1, rv a2, oU, oU, oU] [(.int 2), (.ref a0)])) (fun t k => X_8.arraylength hx (by rw [(e_8 : _ = _)]; exact Ar_9.1) (State.isArrayOf_alike hZ.alike Ar_9.2.1) (g := (mkF m 33 #[rv a0, rv a1, rv a2, oU, oU, oU] [(.ref a1), (.ref a0)])) rfl rfl (hb hby d3_33) t (by rw [len_of S_9 M_9]; exact k)) ?_
  obtain ⟨T_10, h_10, X_10, e_10, W_10, st_10⟩ := putF X_8 hx hZ hown (host := "") (Or.inl (ow hw 48 rfl)) Via.refl e_8 c117 c113 (Or.inr ⟨(ow hw 49 rfl), rfl, hnm⟩) (ow hw 8 rfl) (ty := .int) (by decide) rfl rfl (g := (mkF m 34 #[rv a0, rv a1, rv a2, oU, oU, oU] [(.int 2), (.ref a0)])) rfl rfl (hb hby d3_34)
  have c134 := c112.wr W_10 (Or.inl (List.mem_of_getElem? (i := 0) rfl))
  have c135 := c113.wr W_10
  have c136 := c114.other W_10 (Or.inr (slot_ne (Or.inr (ow hw 42 rfl)) (Or.inr (ow hw 49 rfl)) (by decide) (t := (.object "java/util/List")) (t' := .int) (by decide) (by decide)))
  have c137 := c115.other W_10 (Or.inr (slot_ne (Or.inl (ow hw 44 rfl)) (Or.inr (ow hw 49 rfl)) (by decide) (t := (.array .double)) (t' := .int) (by decide) (by decide)))
  have c138 := c116.other W_10 (Or.inr (slot_ne (Or.inl (ow hw 47 rfl)) (Or.inr (ow hw 49 rfl)) (by decide) (t := (.array .int)) (t' := .int) (by decide) (by decide)))
  have c139 := c117.same W_10
  have c140 := c118.other W_10 (Or.inr (slot_ne (Or.inr (ow hw 51 rfl)) (Or.inr (ow hw 49 rfl)) (by decide) (t := .int) (t' := .int) (by decide) (by decide)))
  have c141 := c119.other W_10 (Or.inr (slot_ne (Or.inr (ow hw 53 rfl)) (Or.inr (ow hw 49 rfl)) (by decide) (t := (.array .int)) (t' := .int) (by decide) (by decide)))
  have c142 := c120.other W_10 (Or.inr (slot_ne (Or.inl (ow hw 105 rfl)) (Or.inr (ow hw 49 rfl)) (by decide) (t := (.array (.array .double))) (t' := .int) (by decide) (by decide)))
  have c143 := c121.other W_10 (Or.inr (slot_ne (Or.inl (ow hw 134 rfl)) (Or.inr (ow hw 49 rfl)) (by decide) (t := (.array .double)) (t' := .int) (by decide) (by decide)))
  have c144 := c122.other W_10 (Or.inr (slot_ne (Or.inl (ow hw 152 rfl)) (Or.inr (ow hw 49 rfl)) (by decide) (t := (.array .double)) (t' := .int) (by decide) (by decide)))
  have c145 := c123.wr W_10
  have c146 := c124.other W_10 nd
  have c147 := c125.other W_10 n1
  have c148 := c126.other W_10 n2
  have c149 := c127.wr W_10
  have c150 := c128.other W_10 (Or.inl (Ne.symm ne_a0_b_2))
  have c151 := c129.other W_10 (Or.inl (Ne.symm ne_a0_b_2))
  have c152 := c130.other W_10 (Or.inl (Ne.symm ne_a0_b_2))
  have c153 := c131.wr W_10
  have c154 := c132.other W_10 (Ne.symm ne_a0_b_5)
  have c155 := c133.other W_10 (Ne.symm ne_a0_b_7)
  have N_10 := Fr.snoc X_10 N_8 g_a0
  have Z0__10 : n0 ≤ h_10.size := by rw [W_10.size]; exact Z0__8
  refine og (fun t k => st_10 t k) ?_
  refine og (B := T_10.setTop (mkF m 39 #[rv a0, rv a1, rv a2, oU, oU, oU] [(.ref a0), (.ref a0)])) (fun t k => ?_) ?_
  · refine XS.aloadN X_10.here hx rfl (hb hby d3_37) rfl rfl ?_
    refine XS.aloadN X_10.here hx rfl (hb hby d3_38) rfl rfl ?_
    exact k
  obtain ⟨T_11, X_11, e_11, st_11⟩ := getF X_10 hx hZ hown (host := "") (Or.inl (ow hw 48 rfl)) Via.refl e_10 c139 (g := (mkF m 39 #[rv a0, rv a1, rv a2, oU, oU, oU] [(.ref a0), (.ref a0)])) rfl rfl (hb hby d3_39)
  refine og (fun t k => st_11 t k) ?_
  refine og (B := T_11.setTop (mkF m 44 #[rv a0, rv a1, rv a2, oU, oU, oU] [(.int 3), (.ref a0)])) (fun t k => ?_) ?_
  · refine XS.iconst X_11.here hx rfl (hb hby d3_42) ?_
    refine XS.iadd X_11.here hx rfl (hb hby d3_43) rfl ?_
    exact k
  obtain ⟨T_12, h_12, X_12, e_12, W_12, st_12⟩ := putF X_11 hx hZ hown (host := "") (Or.inl (ow hw 50 rfl)) Via.refl e_11 c140 c135 (Or.inr ⟨(ow hw 51 rfl), rfl, hnm⟩) (ow hw 8 rfl) (ty := .int) (by decide) rfl rfl (g := (mkF m 44 #[rv a0, rv a1, rv a2, oU, oU, oU] [(.int 3), (.ref a0)])) rfl rfl (hb hby d3_44)
  have c156 := c134.wr W_12 (Or.inl (List.mem_of_getElem? (i := 0) rfl))
  have c157 := c135.wr W_12
  have c158 := c136.other W_12 (Or.inr (slot_ne (Or.inr (ow hw 42 rfl)) (Or.inr (ow hw 51 rfl)) (by decide) (t := (.object "java/util/List")) (t' := .int) (by decide) (by decide)))
  have c159 := c137.other W_12 (Or.inr (slot_ne (Or.inl (ow hw 44 rfl)) (Or.inr (ow hw 51 rfl)) (by decide) (t := (.array .double)) (t' := .int) (by decide) (by decide)))
  have c160 := c138.other W_12 (Or.inr (slot_ne (Or.inl (ow hw 47 rfl)) (Or.inr (ow hw 51 rfl)) (by decide) (t := (.array .int)) (t' := .int) (by decide) (by decide)))
  have c161 := c139.other W_12 (Or.inr (slot_ne (Or.inr (ow hw 49 rfl)) (Or.inr (ow hw 51 rfl)) (by decide) (t := .int) (t' := .int) (by decide) (by decide)))
  have c162 := c140.same W_12
  have c163 := c141.other W_12 (Or.inr (slot_ne (Or.inr (ow hw 53 rfl)) (Or.inr (ow hw 51 rfl)) (by decide) (t := (.array .int)) (t' := .int) (by decide) (by decide)))
  have c164 := c142.other W_12 (Or.inr (slot_ne (Or.inl (ow hw 105 rfl)) (Or.inr (ow hw 51 rfl)) (by decide) (t := (.array (.array .double))) (t' := .int) (by decide) (by decide)))
  have c165 := c143.other W_12 (Or.inr (slot_ne (Or.inl (ow hw 134 rfl)) (Or.inr (ow hw 51 rfl)) (by decide) (t := (.array .double)) (t' := .int) (by decide) (by decide)))
  have c166 := c144.other W_12 (Or.inr (slot_ne (Or.inl (ow hw 152 rfl)) (Or.inr (ow hw 51 rfl)) (by decide) (t := (.array .double)) (t' := .int) (by decide) (by decide)))
  have c167 := c145.wr W_12
  have c168 := c146.other W_12 nd
  have c169 := c147.other W_12 n1
  have c170 := c148.other W_12 n2
  have c171 := c149.wr W_12
  have c172 := c150.other W_12 (Or.inl (Ne.symm ne_a0_b_2))
  have c173 := c151.other W_12 (Or.inl (Ne.symm ne_a0_b_2))
  have c174 := c152.other W_12 (Or.inl (Ne.symm ne_a0_b_2))
  have c175 := c153.wr W_12
  have c176 := c154.other W_12 (Ne.symm ne_a0_b_5)
  have c177 := c155.other W_12 (Ne.symm ne_a0_b_7)
  have N_12 := Fr.snoc X_12 N_10 g_a0
  have Z0__12 : n0 ≤ h_12.size := by rw [W_12.size]; exact Z0__10
  refine og (fun t k => st_12 t k) ?_
  refine og (B := T_12.setTop (mkF m 49 #[rv a0, rv a1, rv a2, oU, oU, oU] [(.ref a0), (.ref a0)])) (fun t k => ?_) ?_
  · refine XS.aloadN X_12.here hx rfl (hb hby d3_47) rfl rfl ?_
    refine XS.aloadN X_12.here hx rfl (hb hby d3_48) rfl rfl ?_
    exact k
  obtain ⟨T_13, X_13, e_13, st_13⟩ := getF X_12 hx hZ hown (host := "") (Or.inl (ow hw 50 rfl)) Via.refl e_12 c162 (g := (mkF m 49 #[rv a0, rv a1, rv a2, oU, oU, oU] [(.ref a0), (.ref a0)])) rfl rfl (hb hby d3_49)
  refine og (fun t k => st_13 t k) ?_
  obtain ⟨T_14, h_14, k_14, X_14, e_14, E_14, A_14, st_14⟩ := newP X_13 hx hZ (ow hw 45 rfl) e_13 (g := (mkF m 52 #[rv a0, rv a1, rv a2, oU, oU, oU] [(.int 3), (.ref a0)])) rfl (hb hby d3_52) rfl (by decide) (cap := 3) (by decide) (by decide) (by decide) (by decide)
  obtain ⟨b_14, g_14⟩ : ∃ z, z = h_12.size := ⟨_, rfl⟩
  rw [← g_14] at A_14 st_14
  have g_b_14 : n0 ≤ b_14 := Nat.le_trans Z0__12 (Nat.le_of_eq g_14.symm)
  have sz_b_14 : h0.size ≤ b_14 := Nat.le_trans c156.1 (Nat.le_of_eq g_14.symm)
  have lt_a0_b_14 : a0 < b_14 := Nat.lt_of_lt_of_le (c157).lt (Nat.le_of_eq g_14.symm)
  have ne_a0_b_14 := Nat.ne_of_lt lt_a0_b_14
  have lt_de_b_14 : de < b_14 := Nat.lt_of_lt_of_le (c168).lt (Nat.le_of_eq g_14.symm)
  have ne_de_b_14 := Nat.ne_of_lt lt_de_b_14
  have lt_a1_b_14 : a1 < b_14 := Nat.lt_of_lt_of_le (c169).lt (Nat.le_of_eq g_14.symm)
  have ne_a1_b_14 := Nat.ne_of_lt lt_a1_b_14
  have lt_a2_b_14 : a2 < b_14 := Nat.lt_of_lt_of_le (c170).lt (Nat.le_of_eq g_14.symm)
  have ne_a2_b_14 := Nat.ne_of_lt lt_a2_b_14
  have lt_b_2_b_14 : b_2 < b_14 := Nat.lt_of_lt_of_le (c171).lt (Nat.le_of_eq g_14.symm)
  have ne_b_2_b_14 := Nat.ne_of_lt lt_b_2_b_14
  have lt_b_5_b_14 : b_5 < b_14 := Nat.lt_of_lt_of_le (c175).lt (Nat.le_of_eq g_14.symm)
  have ne_b_5_b_14 := Nat.ne_of_lt lt_b_5_b_14
  have lt_b_7_b_14 : b_7 < b_14 := Nat.lt_of_lt_of_le (c177).lt (Nat.le_of_eq g_14.symm)
  have ne_b_7_b_14 := Nat.ne_of_lt lt_b_7_b_14
  have c178 := c156.ext E_14
  have c179 := c157.ext E_14
  have c180 := c158.ext E_14
  have c181 := c159.ext E_14
  have c182 := c160.ext E_14
  have c183 := c161.ext E_14
  have c184 := c162.ext E_14
  have c185 := c163.ext E_14
  have c186 := c164.ext E_14
  have c187 := c165.ext E_14
  have c188 := c166.ext E_14
  have c189 := c167.ext E_14
  have c190 := c168.ext E_14
  have c191 := c169.ext E_14
  have c192 := c170.ext E_14
  have c193 := c171.ext E_14
  have c194 := c172.ext E_14
  have c195 := c173.ext E_14
  have c196 := c174.ext E_14
  have c197 := c175.ext E_14
  have c198 := c176.ext E_14
  have c199 := c177.ext E_14
  have Z0__14 : n0 ≤ h_14.size := Nat.le_trans Z0__12 E_14.1
  have V_b_14 : Arv Z h_14 b_14 k_14 .int (3 : Int32) [(.int (0 : Int32)), (.int (0 : Int32)), (.int (0 : Int32))] (.int (0 : Int32)) := (Arv.new A_14 (by decide)).pad (pad_rep [] (.int (0 : Int32)) 3)
  refine og (fun t k => st_14 t k) ?_
  obtain ⟨T_15, h_15, X_15, e_15, W_15, st_15⟩ := putF X_14 hx hZ hown (host := "") (Or.inl (ow hw 52 rfl)) Via.refl e_14 c185 c179 (Or.inr ⟨(ow hw 53 rfl), rfl, hnm⟩) (ow hw 8 rfl) (ty := (.array .int)) (by decide) rfl rfl (g := (mkF m 54 #[rv a0, rv a1, rv a2, oU, oU, oU] [(.ref b_14), (.ref a0)])) rfl rfl (hb hby d3_54)
  have c200 := c178.wr W_15 (Or.inl (List.mem_of_getElem? (i := 0) rfl))
  have c201 := c179.wr W_15
  have c202 := c180.other W_15 (Or.inr (slot_ne (Or.inr (ow hw 42 rfl)) (Or.inr (ow hw 53 rfl)) (by decide) (t := (.object "java/util/List")) (t' := (.array .int)) (by decide) (by decide)))
  have c203 := c181.other W_15 (Or.inr (slot_ne (Or.inl (ow hw 44 rfl)) (Or.inr (ow hw 53 rfl)) (by decide) (t := (.array .double)) (t' := (.array .int)) (by decide) (by decide)))
  have c204 := c182.other W_15 (Or.inr (slot_ne (Or.inl (ow hw 47 rfl)) (Or.inr (ow hw 53 rfl)) (by decide) (t := (.array .int)) (t' := (.array .int)) (by decide) (by decide)))
  have c205 := c183.other W_15 (Or.inr (slot_ne (Or.inr (ow hw 49 rfl)) (Or.inr (ow hw 53 rfl)) (by decide) (t := .int) (t' := (.array .int)) (by decide) (by decide)))
  have c206 := c184.other W_15 (Or.inr (slot_ne (Or.inr (ow hw 51 rfl)) (Or.inr (ow hw 53 rfl)) (by decide) (t := .int) (t' := (.array .int)) (by decide) (by decide)))
  have c207 := c185.same W_15
  have c208 := c186.other W_15 (Or.inr (slot_ne (Or.inl (ow hw 105 rfl)) (Or.inr (ow hw 53 rfl)) (by decide) (t := (.array (.array .double))) (t' := (.array .int)) (by decide) (by decide)))
  have c209 := c187.other W_15 (Or.inr (slot_ne (Or.inl (ow hw 134 rfl)) (Or.inr (ow hw 53 rfl)) (by decide) (t := (.array .double)) (t' := (.array .int)) (by decide) (by decide)))
  have c210 := c188.other W_15 (Or.inr (slot_ne (Or.inl (ow hw 152 rfl)) (Or.inr (ow hw 53 rfl)) (by decide) (t := (.array .double)) (t' := (.array .int)) (by decide) (by decide)))
  have c211 := c189.wr W_15
  have c212 := c190.other W_15 nd
  have c213 := c191.other W_15 n1
  have c214 := c192.other W_15 n2
  have c215 := c193.wr W_15
  have c216 := c194.other W_15 (Or.inl (Ne.symm ne_a0_b_2))
  have c217 := c195.other W_15 (Or.inl (Ne.symm ne_a0_b_2))
  have c218 := c196.other W_15 (Or.inl (Ne.symm ne_a0_b_2))
  have c219 := c197.wr W_15
  have c220 := c198.other W_15 (Ne.symm ne_a0_b_5)
  have c221 := c199.other W_15 (Ne.symm ne_a0_b_7)
  have c222 := V_b_14.other W_15 (Ne.symm ne_a0_b_14)
  have N_15 := Fr.snoc X_15 N_12 g_a0
  have Z0__15 : n0 ≤ h_15.size := by rw [W_15.size]; exact Z0__14
  refine og (fun t k => st_15 t k) ?_
  refine og (B := T_15.setTop (mkF m 61 #[rv a0, rv a1, rv a2, iv 0, oU, oU] [(.ref a0), (.int 0)])) (fun t k => ?_) ?_
  · refine XS.iconst X_15.here hx rfl (hb hby d3_57) ?_
    refine XS.istoreN X_15.here hx rfl (hb hby d3_58) rfl (l' := #[rv a0, rv a1, rv a2, iv 0, oU, oU]) rfl ?_
    refine XS.iloadN X_15.here hx rfl (hb hby d3_59) rfl ?_
    refine XS.aloadN X_15.here hx rfl (hb hby d3_60) rfl rfl ?_
    exact k
  obtain ⟨T_16, X_16, e_16, st_16⟩ := getF X_15 hx hZ hown (host := "") (Or.inl (ow hw 48 rfl)) Via.refl e_15 c205 (g := (mkF m 61 #[rv a0, rv a1, rv a2, iv 0, oU, oU] [(.ref a0), (.int 0)])) rfl rfl (hb hby d3_61)
  refine og (fun t k => st_16 t k) ?_
  refine og (B := T_16.setTop (mkF m 67 #[rv a0, rv a1, rv a2, iv 0, oU, oU] [])) (fun t k => ?_) ?_
  · refine XS.icmpNo X_16.here hx rfl (hb hby d3_64) rfl (tlt (by decide : (0 : Int32) < (2 : Int32))).2.1 ?_
    exact k
  refine og (B := T_16.setTop (mkF m 68 #[rv a0, rv a1, rv a2, iv 0, oU, oU] [(.ref a0)])) (fun t k => ?_) ?_
  · refine XS.aloadN X_16.here hx rfl (hb hby d3_67) rfl rfl ?_
    exact k
  obtain ⟨T_17, X_17, e_17, st_17⟩ := getF X_16 hx hZ hown (host := "") (Or.inl (ow hw 50 rfl)) Via.refl e_16 c206 (g := (mkF m 68 #[rv a0, rv a1, rv a2, iv 0, oU, oU] [(.ref a0)])) rfl rfl (hb hby d3_68)
  refine og (fun t k => st_17 t k) ?_
  obtain ⟨T_18, h_18, k_18, X_18, e_18, E_18, A_18, Q_18, st_18⟩ := newPE X_17 hx hZ (ow hw 10 rfl) e_17 (g := (mkF m 71 #[rv a0, rv a1, rv a2, iv 0, oU, oU] [(.int 3)])) rfl (hb hby d3_71) rfl (by decide) (cap := 3) (by decide) (by decide) (by decide) (by decide) (ad := "[D") (by decide)
  obtain ⟨b_18, g_18⟩ : ∃ z, z = h_15.size := ⟨_, rfl⟩
  rw [← g_18] at A_18 Q_18 st_18
  have g_b_18 : n0 ≤ b_18 := Nat.le_trans Z0__15 (Nat.le_of_eq g_18.symm)
  have sz_b_18 : h0.size ≤ b_18 := Nat.le_trans c200.1 (Nat.le_of_eq g_18.symm)
  have lt_a0_b_18 : a0 < b_18 := Nat.lt_of_lt_of_le (c201).lt (Nat.le_of_eq g_18.symm)
  have ne_a0_b_18 := Nat.ne_of_lt lt_a0_b_18
  have lt_de_b_18 : de < b_18 := Nat.lt_of_lt_of_le (c212).lt (Nat.le_of_eq g_18.symm)
  have ne_de_b_18 := Nat.ne_of_lt lt_de_b_18
  have lt_a1_b_18 : a1 < b_18 := Nat.lt_of_lt_of_le (c213).lt (Nat.le_of_eq g_18.symm)
  have ne_a1_b_18 := Nat.ne_of_lt lt_a1_b_18
  have lt_a2_b_18 : a2 < b_18 := Nat.lt_of_lt_of_le (c214).lt (Nat.le_of_eq g_18.symm)
  have ne_a2_b_18 := Nat.ne_of_lt lt_a2_b_18
  have lt_b_2_b_18 : b_2 < b_18 := Nat.lt_of_lt_of_le (c215).lt (Nat.le_of_eq g_18.symm)
  have ne_b_2_b_18 := Nat.ne_of_lt lt_b_2_b_18
  have lt_b_5_b_18 : b_5 < b_18 := Nat.lt_of_lt_of_le (c219).lt (Nat.le_of_eq g_18.symm)
  have ne_b_5_b_18 := Nat.ne_of_lt lt_b_5_b_18
  have lt_b_7_b_18 : b_7 < b_18 := Nat.lt_of_lt_of_le (c221).lt (Nat.le_of_eq g_18.symm)
  have ne_b_7_b_18 := Nat.ne_of_lt lt_b_7_b_18
  have lt_b_14_b_18 : b_14 < b_18 := Nat.lt_of_lt_of_le (c222).lt (Nat.le_of_eq g_18.symm)
  have ne_b_14_b_18 := Nat.ne_of_lt lt_b_14_b_18
  have c223 := c200.ext E_18
  have c224 := c201.ext E_18
  have c225 := c202.ext E_18
  have c226 := c203.ext E_18
  have c227 := c204.ext E_18
  have c228 := c205.ext E_18
  have c229 := c206.ext E_18
  have c230 := c207.ext E_18
  have c231 := c208.ext E_18
  have c232 := c209.ext E_18
  have c233 := c210.ext E_18
  have c234 := c211.ext E_18
  have c235 := c212.ext E_18
  have c236 := c213.ext E_18
  have c237 := c214.ext E_18
  have c238 := c215.ext E_18
  have c239 := c216.ext E_18
  have c240 := c217.ext E_18
  have c241 := c218.ext E_18
  have c242 := c219.ext E_18
  have c243 := c220.ext E_18
  have c244 := c221.ext E_18
  have c245 := c222.ext E_18
  have Z0__18 : n0 ≤ h_18.size := Nat.le_trans Z0__15 E_18.1
  have V_b_18 : Arv Z h_18 b_18 k_18 .double (3 : Int32) [(.double 0), (.double 0), (.double 0)] (.double 0) := (Arv.new A_18 (by decide)).pad (pad_rep [] (.double 0) 3)
  refine og (fun t k => st_18 t k) ?_
  refine og (B := T_18.setTop (mkF m 81 #[rv a0, rv a1, rv a2, iv 0, rv b_18, oU] [(.double 4607182418800017408), (.int 1), (.ref b_18)])) (fun t k => ?_) ?_
  · refine XS.astore X_18.here hx rfl (hb hby d3_73) rfl rfl (l' := #[rv a0, rv a1, rv a2, iv 0, rv b_18, oU]) rfl ?_
    refine XS.aload X_18.here hx rfl (hb hby d3_75) rfl rfl ?_
    refine XS.iloadN X_18.here hx rfl (hb hby d3_77) rfl ?_
    refine XS.iconst X_18.here hx rfl (hb hby d3_78) ?_
    refine XS.iadd X_18.here hx rfl (hb hby d3_79) rfl ?_
    refine XS.dconst1 X_18.here hx rfl (v := 4607182418800017408) (hb hby d3_80) rfl ?_
    exact k
  obtain ⟨cl_19, Ar_19, q_19, S_19, M_19, H_19, G_19⟩ := id V_b_18
  have hin_19 : ¬ ((1 : Int32) < 0 ∨ cl_19.slots.size ≤ ((1 : Int32)).toNatClampNeg) := inb_of S_19 ⟨by decide, by decide⟩
  obtain ⟨T_19, h_19, X_19, e_19, W_19, st_19⟩ := stD X_18 hx hZ e_18 Ar_19 (j := (1 : Int32)) hin_19 (g := (mkF m 81 #[rv a0, rv a1, rv a2, iv 0, rv b_18, oU] [(.double 4607182418800017408), (.int 1), (.ref b_18)])) rfl rfl (hb hby d3_81)
  have c246 := c223.wr W_19 (Or.inr sz_b_18)
  have c247 := c224.wr W_19
  have c248 := c225.other W_19 (Or.inl ne_a0_b_18)
  have c249 := c226.other W_19 (Or.inl ne_a0_b_18)
  have c250 := c227.other W_19 (Or.inl ne_a0_b_18)
  have c251 := c228.other W_19 (Or.inl ne_a0_b_18)
  have c252 := c229.other W_19 (Or.inl ne_a0_b_18)
  have c253 := c230.other W_19 (Or.inl ne_a0_b_18)
  have c254 := c231.other W_19 (Or.inl ne_a0_b_18)
  have c255 := c232.other W_19 (Or.inl ne_a0_b_18)
  have c256 := c233.other W_19 (Or.inl ne_a0_b_18)
  have c257 := c234.wr W_19
  have c258 := c235.other W_19 ne_de_b_18
  have c259 := c236.other W_19 ne_a1_b_18
  have c260 := c237.other W_19 ne_a2_b_18
  have c261 := c238.wr W_19
  have c262 := c239.other W_19 (Or.inl ne_b_2_b_18)
  have c263 := c240.other W_19 (Or.inl ne_b_2_b_18)
  have c264 := c241.other W_19 (Or.inl ne_b_2_b_18)
  have c265 := c242.wr W_19
  have c266 := c243.other W_19 ne_b_5_b_18
  have c267 := c244.other W_19 ne_b_7_b_18
  have c268 := c245.other W_19 ne_b_14_b_18
  have c269 := Q_18.wr W_19
  have V_19 : Arv Z h_19 b_18 k_18 .double (3 : Int32) [(.double 0), (.double 4607182418800017408), (.double 0)] (.double 0) := Arv.set Ar_19 q_19 S_19 M_19 H_19 G_19 rfl W_19 1 rfl (Nat.le_of_ble_eq_true rfl)
  have N_19 := Fr.snoc X_19 N_15 g_b_18
  have Z0__19 : n0 ≤ h_19.size := by rw [W_19.size]; exact Z0__18
  refine og (fun t k => st_19 t k) ?_
  refine og (B := T_19.setTop (mkF m 87 #[rv a0, rv a1, rv a2, iv 0, rv b_18, oU] [(.int 0), (.ref a1), (.ref b_18), (.ref a0)])) (fun t k => ?_) ?_
  · refine XS.aloadN X_19.here hx rfl (hb hby d3_82) rfl rfl ?_
    refine XS.aload X_19.here hx rfl (hb hby d3_83) rfl rfl ?_
    refine XS.aloadN X_19.here hx rfl (hb hby d3_85) rfl rfl ?_
    refine XS.iloadN X_19.here hx rfl (hb hby d3_86) rfl ?_
    exact k
  obtain ⟨cl_20, Ar_20, q_20, S_20, M_20, H_20, G_20⟩ := id c259
  have hin_20 : ¬ ((0 : Int32) < 0 ∨ cl_20.slots.size ≤ ((0 : Int32)).toNatClampNeg) := inb_of S_20 ⟨by decide, by decide⟩
  have hat_20 : cl_20.slots[((0 : Int32)).toNatClampNeg]? = some (.double lo0) := H_20.at hin_20 rfl
  refine og (B := T_19.setTop (mkF m 88 #[rv a0, rv a1, rv a2, iv 0, rv b_18, oU] [(.double lo0), (.ref b_18), (.ref a0)])) (fun t k => X_19.daload hx (j := (0 : Int32)) (v := (.double lo0)) (by rw [(e_19 : _ = _)]; exact Ar_20.1) (State.isArrayOf_alike hZ.alike Ar_20.2.1) Ar_20.2.2 hin_20 hat_20 (g := (mkF m 87 #[rv a0, rv a1, rv a2, iv 0, rv b_18, oU] [(.int 0), (.ref a1), (.ref b_18), (.ref a0)])) rfl rfl (hb hby d3_87) t k) ?_
  have kk_21 := c246
  have lo_21_a0 := (c247).lt
  have lo_21_a1 := (c259).lt
  have lo_21_a2 := (c260).lt
  have lo_21_b_14 := (c268).lt
  have lo_21_b_18 := (c269).lt
  have lo_21_b_2 := (c261).lt
  have lo_21_b_5 := (c265).lt
  have lo_21_b_7 := (c267).lt
  have lo_21_de := (c258).lt
  obtain ⟨cq_21, q_21a, q_21b⟩ := (c247).cell
  obtain ⟨_, _, ⟨T_21, L_21, k_21, n_21⟩, -, X_21, ⟨Lc_21, hQ_21, l_21, y_21, z_21⟩, st_21⟩ := X_19.privateBack hx (y := own_m9) hown (mvT hZ (ow hw 54 rfl)) (mvT hZ (ow hw 55 rfl)) (own_sel hZ (ow hw 8 rfl) (Cond.privateMethod_at (mvP hZ (ow hw 56 rfl) (args := #[]))) (mvT hZ (ow hw 55 rfl)) (by decide)) (Cond.privateMethod_at (mvP hZ (ow hw 56 rfl) (args := #[]))) (mvT hZ (ow hw 57 rfl)) (by decide) (backOf (W := 0) (rmac0 l Z av0 hw [] a0 b_18 lo0 b_2 b_5 b_7 de k_5 k_7 kd h_19 n0 Z0__19 c247 c248 c249 c250 c261 c262 c263 c264 g_b_2 g_b_5 g_b_7 c269 c266 c267 c257 c258 ne_de_b_2 ne_a0_b_2 ne_a0_b_5 ne_a0_b_7 ne_b_2_b_5 ne_b_2_b_7 ne_b_5_b_7) hZ (ow hw 57 rfl) (ow hw 9 rfl) (by decide) (by decide)) (g := (mkF m 88 #[rv a0, rv a1, rv a2, iv 0, rv b_18, oU] [(.double lo0), (.ref b_18), (.ref a0)])) rfl (by rw [hml]; rfl) (Steps.refl _) (a := a0) (by rw [(e_19 : _ = _)]; exact q_21a) q_21b (argsL := [(.ref b_18), (.double lo0)]) (rest := []) (lenOf pd_7 rfl) rfl (by show 2 * 0 + _ ≤ _; exact Nat.le_of_eq rfl) (hb hby d3_88) (fun _ _ => ⟨rfl, e_19, (by decide : 5 + 1 ≤ _), (by decide : 41 + 10 ≤ _)⟩)
  dsimp only [Pt.U, Pt.locs, Pt.cells, Pt.slots] at X_21 l_21 y_21 z_21 st_21 hQ_21
  subst l_21 y_21 z_21
  obtain ⟨b_21, ke_21, rfl, N_21q, K_21, szq_21, VE_21, OE_21, Fm_21, Fe_21, Fs_21, VA_21, VR_21⟩ := hQ_21
  have N_21 := Fr.app N_19 N_21q
  have c270 := c246.trans K_21 (allS (Or.inr sz_b_2) (allS (Or.inr sz_b_5) (allS (Or.inr sz_b_7) all0)))
  have c271 := c247.keep K_21
  have c272 := c248.keep K_21 (ninS ne_a0_b_2 (ninS ne_a0_b_5 (ninS ne_a0_b_7 nin0)))
  have c273 := c249.keep K_21 (ninS ne_a0_b_2 (ninS ne_a0_b_5 (ninS ne_a0_b_7 nin0)))
  have c274 := c250.keep K_21 (ninS ne_a0_b_2 (ninS ne_a0_b_5 (ninS ne_a0_b_7 nin0)))
  have c275 := c251.keep K_21 (ninS ne_a0_b_2 (ninS ne_a0_b_5 (ninS ne_a0_b_7 nin0)))
  have c276 := c252.keep K_21 (ninS ne_a0_b_2 (ninS ne_a0_b_5 (ninS ne_a0_b_7 nin0)))
  have c277 := c253.keep K_21 (ninS ne_a0_b_2 (ninS ne_a0_b_5 (ninS ne_a0_b_7 nin0)))
  have c278 := c254.keep K_21 (ninS ne_a0_b_2 (ninS ne_a0_b_5 (ninS ne_a0_b_7 nin0)))
  have c279 := c255.keep K_21 (ninS ne_a0_b_2 (ninS ne_a0_b_5 (ninS ne_a0_b_7 nin0)))
  have c280 := c256.keep K_21 (ninS ne_a0_b_2 (ninS ne_a0_b_5 (ninS ne_a0_b_7 nin0)))
  have c281 := c258.keep K_21 (ninS ne_de_b_2 (ninS ne_de_b_5 (ninS ne_de_b_7 nin0)))
  have c282 := c259.keep K_21 (ninS ne_a1_b_2 (ninS ne_a1_b_5 (ninS ne_a1_b_7 nin0)))
  have c283 := c260.keep K_21 (ninS ne_a2_b_2 (ninS ne_a2_b_5 (ninS ne_a2_b_7 nin0)))
  have c284 := c261.keep K_21
  have c285 := c265.keep K_21
  have c286 := c268.keep K_21 (ninS (Ne.symm ne_b_2_b_14) (ninS (Ne.symm ne_b_5_b_14) (ninS (Ne.symm ne_b_7_b_14) nin0)))
  have c287 := c269.keep K_21
  have c288 := V_19.keep K_21 (ninS (Ne.symm ne_b_2_b_18) (ninS (Ne.symm ne_b_5_b_18) (ninS (Ne.symm ne_b_7_b_18) nin0)))
  have Z0__21 : n0 ≤ T_21.heap.size := Nat.le_trans Z0__19 K_21.1
  have sz_b_21 : h0.size ≤ b_21 := Nat.le_trans kk_21.1 szq_21
  have g_b_21 : n0 ≤ b_21 := Nat.le_trans Z0 sz_b_21
  have lt_a0_b_21 := Nat.lt_of_lt_of_le lo_21_a0 szq_21
  have ne_a0_b_21 := Nat.ne_of_lt lt_a0_b_21
  have lt_a1_b_21 := Nat.lt_of_lt_of_le lo_21_a1 szq_21
  have ne_a1_b_21 := Nat.ne_of_lt lt_a1_b_21
  have lt_a2_b_21 := Nat.lt_of_lt_of_le lo_21_a2 szq_21
  have ne_a2_b_21 := Nat.ne_of_lt lt_a2_b_21
  have lt_b_14_b_21 := Nat.lt_of_lt_of_le lo_21_b_14 szq_21
  have ne_b_14_b_21 := Nat.ne_of_lt lt_b_14_b_21
  have lt_b_18_b_21 := Nat.lt_of_lt_of_le lo_21_b_18 szq_21
  have ne_b_18_b_21 := Nat.ne_of_lt lt_b_18_b_21
  have lt_b_2_b_21 := Nat.lt_of_lt_of_le lo_21_b_2 szq_21
  have ne_b_2_b_21 := Nat.ne_of_lt lt_b_2_b_21
  have lt_b_5_b_21 := Nat.lt_of_lt_of_le lo_21_b_5 szq_21
  have ne_b_5_b_21 := Nat.ne_of_lt lt_b_5_b_21
  have lt_b_7_b_21 := Nat.lt_of_lt_of_le lo_21_b_7 szq_21
  have ne_b_7_b_21 := Nat.ne_of_lt lt_b_7_b_21
  have lt_de_b_21 := Nat.lt_of_lt_of_le lo_21_de szq_21
  have ne_de_b_21 := Nat.ne_of_lt lt_de_b_21
  refine og (fun t k => st_21.trans k) ?_
  refine og (B := T_21.setTop (mkF m 92 #[rv a0, rv a1, rv a2, iv 0, rv b_18, oU] [(.ref a0)])) (fun t k => ?_) ?_
  · refine XS.aloadN X_21.here hx rfl (hb hby d3_91) rfl rfl ?_
    exact k
  obtain ⟨T_22, X_22, e_22, st_22⟩ := getF X_21 hx hZ hown (host := "") (Or.inl (ow hw 50 rfl)) Via.refl rfl c276 (g := (mkF m 92 #[rv a0, rv a1, rv a2, iv 0, rv b_18, oU] [(.ref a0)])) rfl rfl (hb hby d3_92)
  refine og (fun t k => st_22 t k) ?_
  obtain ⟨T_23, h_23, k_23, X_23, e_23, E_23, A_23, Q_23, st_23⟩ := newPE X_22 hx hZ (ow hw 10 rfl) e_22 (g := (mkF m 95 #[rv a0, rv a1, rv a2, iv 0, rv b_18, oU] [(.int 3)])) rfl (hb hby d3_95) rfl (by decide) (cap := 3) (by decide) (by decide) (by decide) (by decide) (ad := "[D") (by decide)
  obtain ⟨b_23, g_23⟩ : ∃ z, z = T_21.heap.size := ⟨_, rfl⟩
  rw [← g_23] at A_23 Q_23 st_23
  have g_b_23 : n0 ≤ b_23 := Nat.le_trans Z0__21 (Nat.le_of_eq g_23.symm)
  have sz_b_23 : h0.size ≤ b_23 := Nat.le_trans c270.1 (Nat.le_of_eq g_23.symm)
  have lt_a0_b_23 : a0 < b_23 := Nat.lt_of_lt_of_le (c271).lt (Nat.le_of_eq g_23.symm)
  have ne_a0_b_23 := Nat.ne_of_lt lt_a0_b_23
  have lt_de_b_23 : de < b_23 := Nat.lt_of_lt_of_le (c281).lt (Nat.le_of_eq g_23.symm)
  have ne_de_b_23 := Nat.ne_of_lt lt_de_b_23
  have lt_a1_b_23 : a1 < b_23 := Nat.lt_of_lt_of_le (c282).lt (Nat.le_of_eq g_23.symm)
  have ne_a1_b_23 := Nat.ne_of_lt lt_a1_b_23
  have lt_a2_b_23 : a2 < b_23 := Nat.lt_of_lt_of_le (c283).lt (Nat.le_of_eq g_23.symm)
  have ne_a2_b_23 := Nat.ne_of_lt lt_a2_b_23
  have lt_b_2_b_23 : b_2 < b_23 := Nat.lt_of_lt_of_le (c284).lt (Nat.le_of_eq g_23.symm)
  have ne_b_2_b_23 := Nat.ne_of_lt lt_b_2_b_23
  have lt_b_5_b_23 : b_5 < b_23 := Nat.lt_of_lt_of_le (c285).lt (Nat.le_of_eq g_23.symm)
  have ne_b_5_b_23 := Nat.ne_of_lt lt_b_5_b_23
  have lt_b_14_b_23 : b_14 < b_23 := Nat.lt_of_lt_of_le (c286).lt (Nat.le_of_eq g_23.symm)
  have ne_b_14_b_23 := Nat.ne_of_lt lt_b_14_b_23
  have lt_b_18_b_23 : b_18 < b_23 := Nat.lt_of_lt_of_le (c287).lt (Nat.le_of_eq g_23.symm)
  have ne_b_18_b_23 := Nat.ne_of_lt lt_b_18_b_23
  have lt_b_21_b_23 : b_21 < b_23 := Nat.lt_of_lt_of_le (VE_21).lt (Nat.le_of_eq g_23.symm)
  have ne_b_21_b_23 := Nat.ne_of_lt lt_b_21_b_23
  have lt_b_7_b_23 : b_7 < b_23 := Nat.lt_of_lt_of_le (VR_21).lt (Nat.le_of_eq g_23.symm)
  have ne_b_7_b_23 := Nat.ne_of_lt lt_b_7_b_23
  have c289 := c270.ext E_23
  have c290 := c271.ext E_23
  have c291 := c272.ext E_23
  have c292 := c273.ext E_23
  have c293 := c274.ext E_23
  have c294 := c275.ext E_23
  have c295 := c276.ext E_23
  have c296 := c277.ext E_23
  have c297 := c278.ext E_23
  have c298 := c279.ext E_23
  have c299 := c280.ext E_23
  have c300 := c281.ext E_23
  have c301 := c282.ext E_23
  have c302 := c283.ext E_23
  have c303 := c284.ext E_23
  have c304 := c285.ext E_23
  have c305 := c286.ext E_23
  have c306 := c287.ext E_23
  have c307 := c288.ext E_23
  have c308 := VE_21.ext E_23
  have c309 := VA_21.ext E_23
  have c310 := VR_21.ext E_23
  have c311 := Fm_21.ext E_23
  have c312 := Fe_21.ext E_23
  have c313 := Fs_21.ext E_23
  have Z0__23 : n0 ≤ h_23.size := Nat.le_trans Z0__21 E_23.1
  have V_b_23 : Arv Z h_23 b_23 k_23 .double (3 : Int32) [(.double 0), (.double 0), (.double 0)] (.double 0) := (Arv.new A_23 (by decide)).pad (pad_rep [] (.double 0) 3)
  refine og (fun t k => st_23 t k) ?_
  refine og (B := T_23.setTop (mkF m 107 #[rv a0, rv a1, rv a2, iv 0, rv b_18, rv b_23] [(.double 13830554455654793216), (.int 1), (.ref b_23)])) (fun t k => ?_) ?_
  · refine XS.astore X_23.here hx rfl (hb hby d3_97) rfl rfl (l' := #[rv a0, rv a1, rv a2, iv 0, rv b_18, rv b_23]) rfl ?_
    refine XS.aload X_23.here hx rfl (hb hby d3_99) rfl rfl ?_
    refine XS.iloadN X_23.here hx rfl (hb hby d3_101) rfl ?_
    refine XS.iconst X_23.here hx rfl (hb hby d3_102) ?_
    refine XS.iadd X_23.here hx rfl (hb hby d3_103) rfl ?_
    refine X_23.ldc2DoubleC hx hown (mvT hZ (ow hw 98 rfl)) (g := (mkF m 104 #[rv a0, rv a1, rv a2, iv 0, rv b_18, rv b_23] [(.int 1), (.ref b_23)])) rfl (hb hby d3_104) _ ?_
    exact k
  obtain ⟨cl_24, Ar_24, q_24, S_24, M_24, H_24, G_24⟩ := id V_b_23
  have hin_24 : ¬ ((1 : Int32) < 0 ∨ cl_24.slots.size ≤ ((1 : Int32)).toNatClampNeg) := inb_of S_24 ⟨by decide, by decide⟩
  obtain ⟨T_24, h_24, X_24, e_24, W_24, st_24⟩ := stD X_23 hx hZ e_23 Ar_24 (j := (1 : Int32)) hin_24 (g := (mkF m 107 #[rv a0, rv a1, rv a2, iv 0, rv b_18, rv b_23] [(.double 13830554455654793216), (.int 1), (.ref b_23)])) rfl rfl (hb hby d3_107)
  have c314 := c289.wr W_24 (Or.inr sz_b_23)
  have c315 := c290.wr W_24
  have c316 := c291.other W_24 (Or.inl ne_a0_b_23)
  have c317 := c292.other W_24 (Or.inl ne_a0_b_23)
  have c318 := c293.other W_24 (Or.inl ne_a0_b_23)
  have c319 := c294.other W_24 (Or.inl ne_a0_b_23)
  have c320 := c295.other W_24 (Or.inl ne_a0_b_23)
  have c321 := c296.other W_24 (Or.inl ne_a0_b_23)
  have c322 := c297.other W_24 (Or.inl ne_a0_b_23)
  have c323 := c298.other W_24 (Or.inl ne_a0_b_23)
  have c324 := c299.other W_24 (Or.inl ne_a0_b_23)
  have c325 := c300.other W_24 ne_de_b_23
  have c326 := c301.other W_24 ne_a1_b_23
  have c327 := c302.other W_24 ne_a2_b_23
  have c328 := c303.wr W_24
  have c329 := c304.wr W_24
  have c330 := c305.other W_24 ne_b_14_b_23
  have c331 := c306.wr W_24
  have c332 := c307.other W_24 ne_b_18_b_23
  have c333 := c308.other W_24 ne_b_21_b_23
  have c334 := c309.other W_24 ne_b_5_b_23
  have c335 := c310.other W_24 ne_b_7_b_23
  have c336 := c311.other W_24 (Or.inl ne_b_2_b_23)
  have c337 := c312.other W_24 (Or.inl ne_b_2_b_23)
  have c338 := c313.other W_24 (Or.inl ne_b_2_b_23)
  have c339 := Q_23.wr W_24
  have V_24 : Arv Z h_24 b_23 k_23 .double (3 : Int32) [(.double 0), (.double 13830554455654793216), (.double 0)] (.double 0) := Arv.set Ar_24 q_24 S_24 M_24 H_24 G_24 rfl W_24 1 rfl (Nat.le_of_ble_eq_true rfl)
  have N_24 := Fr.snoc X_24 N_21 g_b_23
  have Z0__24 : n0 ≤ h_24.size := by rw [W_24.size]; exact Z0__23
  refine og (fun t k => st_24 t k) ?_
  refine og (B := T_24.setTop (mkF m 113 #[rv a0, rv a1, rv a2, iv 0, rv b_18, rv b_23] [(.int 0), (.ref a2), (.ref b_23), (.ref a0)])) (fun t k => ?_) ?_
  · refine XS.aloadN X_24.here hx rfl (hb hby d3_108) rfl rfl ?_
    refine XS.aload X_24.here hx rfl (hb hby d3_109) rfl rfl ?_
    refine XS.aloadN X_24.here hx rfl (hb hby d3_111) rfl rfl ?_
    refine XS.iloadN X_24.here hx rfl (hb hby d3_112) rfl ?_
    exact k
  obtain ⟨cl_25, Ar_25, q_25, S_25, M_25, H_25, G_25⟩ := id c327
  have hin_25 : ¬ ((0 : Int32) < 0 ∨ cl_25.slots.size ≤ ((0 : Int32)).toNatClampNeg) := inb_of S_25 ⟨by decide, by decide⟩
  have hat_25 : cl_25.slots[((0 : Int32)).toNatClampNeg]? = some (.double hi0) := H_25.at hin_25 rfl
  refine og (B := T_24.setTop (mkF m 114 #[rv a0, rv a1, rv a2, iv 0, rv b_18, rv b_23] [(.double hi0), (.ref b_23), (.ref a0)])) (fun t k => X_24.daload hx (j := (0 : Int32)) (v := (.double hi0)) (by rw [(e_24 : _ = _)]; exact Ar_25.1) (State.isArrayOf_alike hZ.alike Ar_25.2.1) Ar_25.2.2 hin_25 hat_25 (g := (mkF m 113 #[rv a0, rv a1, rv a2, iv 0, rv b_18, rv b_23] [(.int 0), (.ref a2), (.ref b_23), (.ref a0)])) rfl rfl (hb hby d3_113) t k) ?_
  refine og (B := T_24.setTop (mkF m 115 #[rv a0, rv a1, rv a2, iv 0, rv b_18, rv b_23] [(.double (FP.dneg hi0)), (.ref b_23), (.ref a0)])) (fun t k => ?_) ?_
  · refine XS.dnegS X_24.here hx rfl (hb hby d3_114) rfl rfl ?_
    exact k
  obtain ⟨cq_26, q_26a, q_26b⟩ := (c315).cell
  obtain ⟨_, _, ⟨T_26, L_26, k_26, n_26⟩, -, X_26, ⟨Lc_26, hQ_26, l_26, y_26, z_26⟩, st_26⟩ := X_24.privateBack hx (y := own_m9) hown (mvT hZ (ow hw 54 rfl)) (mvT hZ (ow hw 55 rfl)) (own_sel hZ (ow hw 8 rfl) (Cond.privateMethod_at (mvP hZ (ow hw 56 rfl) (args := #[]))) (mvT hZ (ow hw 55 rfl)) (by decide)) (Cond.privateMethod_at (mvP hZ (ow hw 56 rfl) (args := #[]))) (mvT hZ (ow hw 57 rfl)) (by decide) (backOf (W := 0) (rmac1 l Z av0 hw [] a0 b_23 (FP.dneg hi0) b_2 b_5 b_7 b_21 k_5 k_7 ke_21 lo0 b_18 h_24 n0 Z0__24 c315 c316 c317 c318 c328 c336 c337 c338 g_b_2 g_b_5 g_b_7 c339 c334 c335 g_b_21 c333 OE_21 ne_a0_b_2 ne_a0_b_5 ne_a0_b_7 ne_a0_b_21 ne_b_2_b_5 ne_b_2_b_7 ne_b_2_b_21 ne_b_5_b_7 ne_b_5_b_21 ne_b_7_b_21) hZ (ow hw 57 rfl) (ow hw 9 rfl) (by decide) (by decide)) (g := (mkF m 115 #[rv a0, rv a1, rv a2, iv 0, rv b_18, rv b_23] [(.double (FP.dneg hi0)), (.ref b_23), (.ref a0)])) rfl (by rw [hml]; rfl) (Steps.refl _) (a := a0) (by rw [(e_24 : _ = _)]; exact q_26a) q_26b (argsL := [(.ref b_23), (.double (FP.dneg hi0))]) (rest := []) (lenOf pd_7 rfl) rfl (by show 2 * 0 + _ ≤ _; exact Nat.le_of_eq rfl) (hb hby d3_115) (fun _ _ => ⟨rfl, e_24, (by decide : 7 + 0 ≤ _), (by decide : 54 + 0 ≤ _)⟩)
  dsimp only [Pt.U, Pt.locs, Pt.cells, Pt.slots] at X_26 l_26 y_26 z_26 st_26 hQ_26
  subst l_26 y_26 z_26
  obtain ⟨rfl, N_26q, K_26, VE_26, Fm_26, Fe_26, Fs_26, VA_26, VR_26⟩ := hQ_26
  have N_26 := Fr.app N_24 N_26q
  have c340 := c314.trans K_26 (allS (Or.inr sz_b_2) (allS (Or.inr sz_b_5) (allS (Or.inr sz_b_7) (allS (Or.inr sz_b_21) all0))))
  have c341 := c315.keep K_26
  have c342 := c316.keep K_26 (ninS ne_a0_b_2 (ninS ne_a0_b_5 (ninS ne_a0_b_7 (ninS ne_a0_b_21 nin0))))
  have c343 := c317.keep K_26 (ninS ne_a0_b_2 (ninS ne_a0_b_5 (ninS ne_a0_b_7 (ninS ne_a0_b_21 nin0))))
  have c344 := c318.keep K_26 (ninS ne_a0_b_2 (ninS ne_a0_b_5 (ninS ne_a0_b_7 (ninS ne_a0_b_21 nin0))))
  have c345 := c319.keep K_26 (ninS ne_a0_b_2 (ninS ne_a0_b_5 (ninS ne_a0_b_7 (ninS ne_a0_b_21 nin0))))
  have c346 := c320.keep K_26 (ninS ne_a0_b_2 (ninS ne_a0_b_5 (ninS ne_a0_b_7 (ninS ne_a0_b_21 nin0))))
  have c347 := c321.keep K_26 (ninS ne_a0_b_2 (ninS ne_a0_b_5 (ninS ne_a0_b_7 (ninS ne_a0_b_21 nin0))))
  have c348 := c322.keep K_26 (ninS ne_a0_b_2 (ninS ne_a0_b_5 (ninS ne_a0_b_7 (ninS ne_a0_b_21 nin0))))
  have c349 := c323.keep K_26 (ninS ne_a0_b_2 (ninS ne_a0_b_5 (ninS ne_a0_b_7 (ninS ne_a0_b_21 nin0))))
  have c350 := c324.keep K_26 (ninS ne_a0_b_2 (ninS ne_a0_b_5 (ninS ne_a0_b_7 (ninS ne_a0_b_21 nin0))))
  have c351 := c325.keep K_26 (ninS ne_de_b_2 (ninS ne_de_b_5 (ninS ne_de_b_7 (ninS ne_de_b_21 nin0))))
  have c352 := c326.keep K_26 (ninS ne_a1_b_2 (ninS ne_a1_b_5 (ninS ne_a1_b_7 (ninS ne_a1_b_21 nin0))))
  have c353 := c327.keep K_26 (ninS ne_a2_b_2 (ninS ne_a2_b_5 (ninS ne_a2_b_7 (ninS ne_a2_b_21 nin0))))
  have c354 := c328.keep K_26
  have c355 := c329.keep K_26
  have c356 := c330.keep K_26 (ninS (Ne.symm ne_b_2_b_14) (ninS (Ne.symm ne_b_5_b_14) (ninS (Ne.symm ne_b_7_b_14) (ninS ne_b_14_b_21 nin0))))
  have c357 := c331.keep K_26
  have c358 := c332.keep K_26 (ninS (Ne.symm ne_b_2_b_18) (ninS (Ne.symm ne_b_5_b_18) (ninS (Ne.symm ne_b_7_b_18) (ninS ne_b_18_b_21 nin0))))
  have c359 := c339.keep K_26
  have c360 := V_24.keep K_26 (ninS (Ne.symm ne_b_2_b_23) (ninS (Ne.symm ne_b_5_b_23) (ninS (Ne.symm ne_b_7_b_23) (ninS (Ne.symm ne_b_21_b_23) nin0))))
  have Z0__26 : n0 ≤ T_26.heap.size := Nat.le_trans Z0__24 K_26.1
  refine og (fun t k => st_26.trans k) ?_
  refine og (B := T_26.setTop (mkF m 61 #[rv a0, rv a1, rv a2, iv 1, rv b_18, rv b_23] [(.ref a0), (.int 1)])) (fun t k => ?_) ?_
  · refine XS.iinc X_26.here hx rfl (hb hby d3_118) rfl (l' := #[rv a0, rv a1, rv a2, iv 1, rv b_18, rv b_23]) rfl ?_
    refine XS.goto X_26.here hx rfl (pc0 := 121) (pc' := 59) rfl (hb hby d3_121) (by decide) (by decide) ?_
    refine XS.iloadN X_26.here hx rfl (hb hby d3_59) rfl ?_
    refine XS.aloadN X_26.here hx rfl (hb hby d3_60) rfl rfl ?_
    exact k
  obtain ⟨T_27, X_27, e_27, st_27⟩ := getF X_26 hx hZ hown (host := "") (Or.inl (ow hw 48 rfl)) Via.refl rfl c345 (g := (mkF m 61 #[rv a0, rv a1, rv a2, iv 1, rv b_18, rv b_23] [(.ref a0), (.int 1)])) rfl rfl (hb hby d3_61)
  refine og (fun t k => st_27 t k) ?_
  refine og (B := T_27.setTop (mkF m 67 #[rv a0, rv a1, rv a2, iv 1, rv b_18, rv b_23] [])) (fun t k => ?_) ?_
  · refine XS.icmpNo X_27.here hx rfl (hb hby d3_64) rfl (tlt (by decide : (1 : Int32) < (2 : Int32))).2.1 ?_
    exact k
  refine og (B := T_27.setTop (mkF m 68 #[rv a0, rv a1, rv a2, iv 1, rv b_18, rv b_23] [(.ref a0)])) (fun t k => ?_) ?_
  · refine XS.aloadN X_27.here hx rfl (hb hby d3_67) rfl rfl ?_
    exact k
  obtain ⟨T_28, X_28, e_28, st_28⟩ := getF X_27 hx hZ hown (host := "") (Or.inl (ow hw 50 rfl)) Via.refl e_27 c346 (g := (mkF m 68 #[rv a0, rv a1, rv a2, iv 1, rv b_18, rv b_23] [(.ref a0)])) rfl rfl (hb hby d3_68)
  refine og (fun t k => st_28 t k) ?_
  obtain ⟨T_29, h_29, k_29, X_29, e_29, E_29, A_29, Q_29, st_29⟩ := newPE X_28 hx hZ (ow hw 10 rfl) e_28 (g := (mkF m 71 #[rv a0, rv a1, rv a2, iv 1, rv b_18, rv b_23] [(.int 3)])) rfl (hb hby d3_71) rfl (by decide) (cap := 3) (by decide) (by decide) (by decide) (by decide) (ad := "[D") (by decide)
  obtain ⟨b_29, g_29⟩ : ∃ z, z = T_26.heap.size := ⟨_, rfl⟩
  rw [← g_29] at A_29 Q_29 st_29
  have g_b_29 : n0 ≤ b_29 := Nat.le_trans Z0__26 (Nat.le_of_eq g_29.symm)
  have sz_b_29 : h0.size ≤ b_29 := Nat.le_trans c340.1 (Nat.le_of_eq g_29.symm)
  have lt_a0_b_29 : a0 < b_29 := Nat.lt_of_lt_of_le (c341).lt (Nat.le_of_eq g_29.symm)
  have ne_a0_b_29 := Nat.ne_of_lt lt_a0_b_29
  have lt_de_b_29 : de < b_29 := Nat.lt_of_lt_of_le (c351).lt (Nat.le_of_eq g_29.symm)
  have ne_de_b_29 := Nat.ne_of_lt lt_de_b_29
  have lt_a1_b_29 : a1 < b_29 := Nat.lt_of_lt_of_le (c352).lt (Nat.le_of_eq g_29.symm)
  have ne_a1_b_29 := Nat.ne_of_lt lt_a1_b_29
  have lt_a2_b_29 : a2 < b_29 := Nat.lt_of_lt_of_le (c353).lt (Nat.le_of_eq g_29.symm)
  have ne_a2_b_29 := Nat.ne_of_lt lt_a2_b_29
  have lt_b_2_b_29 : b_2 < b_29 := Nat.lt_of_lt_of_le (c354).lt (Nat.le_of_eq g_29.symm)
  have ne_b_2_b_29 := Nat.ne_of_lt lt_b_2_b_29
  have lt_b_5_b_29 : b_5 < b_29 := Nat.lt_of_lt_of_le (c355).lt (Nat.le_of_eq g_29.symm)
  have ne_b_5_b_29 := Nat.ne_of_lt lt_b_5_b_29
  have lt_b_14_b_29 : b_14 < b_29 := Nat.lt_of_lt_of_le (c356).lt (Nat.le_of_eq g_29.symm)
  have ne_b_14_b_29 := Nat.ne_of_lt lt_b_14_b_29
  have lt_b_18_b_29 : b_18 < b_29 := Nat.lt_of_lt_of_le (c357).lt (Nat.le_of_eq g_29.symm)
  have ne_b_18_b_29 := Nat.ne_of_lt lt_b_18_b_29
  have lt_b_23_b_29 : b_23 < b_29 := Nat.lt_of_lt_of_le (c359).lt (Nat.le_of_eq g_29.symm)
  have ne_b_23_b_29 := Nat.ne_of_lt lt_b_23_b_29
  have lt_b_21_b_29 : b_21 < b_29 := Nat.lt_of_lt_of_le (VE_26).lt (Nat.le_of_eq g_29.symm)
  have ne_b_21_b_29 := Nat.ne_of_lt lt_b_21_b_29
  have lt_b_7_b_29 : b_7 < b_29 := Nat.lt_of_lt_of_le (VR_26).lt (Nat.le_of_eq g_29.symm)
  have ne_b_7_b_29 := Nat.ne_of_lt lt_b_7_b_29
  have c361 := c340.ext E_29
  have c362 := c341.ext E_29
  have c363 := c342.ext E_29
  have c364 := c343.ext E_29
  have c365 := c344.ext E_29
  have c366 := c345.ext E_29
  have c367 := c346.ext E_29
  have c368 := c347.ext E_29
  have c369 := c348.ext E_29
  have c370 := c349.ext E_29
  have c371 := c350.ext E_29
  have c372 := c351.ext E_29
  have c373 := c352.ext E_29
  have c374 := c353.ext E_29
  have c375 := c354.ext E_29
  have c376 := c355.ext E_29
  have c377 := c356.ext E_29
  have c378 := c357.ext E_29
  have c379 := c358.ext E_29
  have c380 := c359.ext E_29
  have c381 := c360.ext E_29
  have c382 := VE_26.ext E_29
  have c383 := VA_26.ext E_29
  have c384 := VR_26.ext E_29
  have c385 := Fm_26.ext E_29
  have c386 := Fe_26.ext E_29
  have c387 := Fs_26.ext E_29
  have Z0__29 : n0 ≤ h_29.size := Nat.le_trans Z0__26 E_29.1
  have V_b_29 : Arv Z h_29 b_29 k_29 .double (3 : Int32) [(.double 0), (.double 0), (.double 0)] (.double 0) := (Arv.new A_29 (by decide)).pad (pad_rep [] (.double 0) 3)
  refine og (fun t k => st_29 t k) ?_
  refine og (B := T_29.setTop (mkF m 81 #[rv a0, rv a1, rv a2, iv 1, rv b_29, rv b_23] [(.double 4607182418800017408), (.int 2), (.ref b_29)])) (fun t k => ?_) ?_
  · refine XS.astore X_29.here hx rfl (hb hby d3_73) rfl rfl (l' := #[rv a0, rv a1, rv a2, iv 1, rv b_29, rv b_23]) rfl ?_
    refine XS.aload X_29.here hx rfl (hb hby d3_75) rfl rfl ?_
    refine XS.iloadN X_29.here hx rfl (hb hby d3_77) rfl ?_
    refine XS.iconst X_29.here hx rfl (hb hby d3_78) ?_
    refine XS.iadd X_29.here hx rfl (hb hby d3_79) rfl ?_
    refine XS.dconst1 X_29.here hx rfl (v := 4607182418800017408) (hb hby d3_80) rfl ?_
    exact k
  obtain ⟨cl_30, Ar_30, q_30, S_30, M_30, H_30, G_30⟩ := id V_b_29
  have hin_30 : ¬ ((2 : Int32) < 0 ∨ cl_30.slots.size ≤ ((2 : Int32)).toNatClampNeg) := inb_of S_30 ⟨by decide, by decide⟩
  obtain ⟨T_30, h_30, X_30, e_30, W_30, st_30⟩ := stD X_29 hx hZ e_29 Ar_30 (j := (2 : Int32)) hin_30 (g := (mkF m 81 #[rv a0, rv a1, rv a2, iv 1, rv b_29, rv b_23] [(.double 4607182418800017408), (.int 2), (.ref b_29)])) rfl rfl (hb hby d3_81)
  have c388 := c361.wr W_30 (Or.inr sz_b_29)
  have c389 := c362.wr W_30
  have c390 := c363.other W_30 (Or.inl ne_a0_b_29)
  have c391 := c364.other W_30 (Or.inl ne_a0_b_29)
  have c392 := c365.other W_30 (Or.inl ne_a0_b_29)
  have c393 := c366.other W_30 (Or.inl ne_a0_b_29)
  have c394 := c367.other W_30 (Or.inl ne_a0_b_29)
  have c395 := c368.other W_30 (Or.inl ne_a0_b_29)
  have c396 := c369.other W_30 (Or.inl ne_a0_b_29)
  have c397 := c370.other W_30 (Or.inl ne_a0_b_29)
  have c398 := c371.other W_30 (Or.inl ne_a0_b_29)
  have c399 := c372.other W_30 ne_de_b_29
  have c400 := c373.other W_30 ne_a1_b_29
  have c401 := c374.other W_30 ne_a2_b_29
  have c402 := c375.wr W_30
  have c403 := c376.wr W_30
  have c404 := c377.other W_30 ne_b_14_b_29
  have c405 := c378.wr W_30
  have c406 := c379.other W_30 ne_b_18_b_29
  have c407 := c380.wr W_30
  have c408 := c381.other W_30 ne_b_23_b_29
  have c409 := c382.other W_30 ne_b_21_b_29
  have c410 := c383.other W_30 ne_b_5_b_29
  have c411 := c384.other W_30 ne_b_7_b_29
  have c412 := c385.other W_30 (Or.inl ne_b_2_b_29)
  have c413 := c386.other W_30 (Or.inl ne_b_2_b_29)
  have c414 := c387.other W_30 (Or.inl ne_b_2_b_29)
  have c415 := Q_29.wr W_30
  have V_30 : Arv Z h_30 b_29 k_29 .double (3 : Int32) [(.double 0), (.double 0), (.double 4607182418800017408)] (.double 0) := Arv.set Ar_30 q_30 S_30 M_30 H_30 G_30 rfl W_30 2 rfl (Nat.le_of_ble_eq_true rfl)
  have N_30 := Fr.snoc X_30 N_26 g_b_29
  have Z0__30 : n0 ≤ h_30.size := by rw [W_30.size]; exact Z0__29
  refine og (fun t k => st_30 t k) ?_
  refine og (B := T_30.setTop (mkF m 87 #[rv a0, rv a1, rv a2, iv 1, rv b_29, rv b_23] [(.int 1), (.ref a1), (.ref b_29), (.ref a0)])) (fun t k => ?_) ?_
  · refine XS.aloadN X_30.here hx rfl (hb hby d3_82) rfl rfl ?_
    refine XS.aload X_30.here hx rfl (hb hby d3_83) rfl rfl ?_
    refine XS.aloadN X_30.here hx rfl (hb hby d3_85) rfl rfl ?_
    refine XS.iloadN X_30.here hx rfl (hb hby d3_86) rfl ?_
    exact k
  obtain ⟨cl_31, Ar_31, q_31, S_31, M_31, H_31, G_31⟩ := id c400
  have hin_31 : ¬ ((1 : Int32) < 0 ∨ cl_31.slots.size ≤ ((1 : Int32)).toNatClampNeg) := inb_of S_31 ⟨by decide, by decide⟩
  have hat_31 : cl_31.slots[((1 : Int32)).toNatClampNeg]? = some (.double lo1) := H_31.at hin_31 rfl
  refine og (B := T_30.setTop (mkF m 88 #[rv a0, rv a1, rv a2, iv 1, rv b_29, rv b_23] [(.double lo1), (.ref b_29), (.ref a0)])) (fun t k => X_30.daload hx (j := (1 : Int32)) (v := (.double lo1)) (by rw [(e_30 : _ = _)]; exact Ar_31.1) (State.isArrayOf_alike hZ.alike Ar_31.2.1) Ar_31.2.2 hin_31 hat_31 (g := (mkF m 87 #[rv a0, rv a1, rv a2, iv 1, rv b_29, rv b_23] [(.int 1), (.ref a1), (.ref b_29), (.ref a0)])) rfl rfl (hb hby d3_87) t k) ?_
  obtain ⟨cq_32, q_32a, q_32b⟩ := (c389).cell
  obtain ⟨_, _, ⟨T_32, L_32, k_32, n_32⟩, -, X_32, ⟨Lc_32, hQ_32, l_32, y_32, z_32⟩, st_32⟩ := X_30.privateBack hx (y := own_m9) hown (mvT hZ (ow hw 54 rfl)) (mvT hZ (ow hw 55 rfl)) (own_sel hZ (ow hw 8 rfl) (Cond.privateMethod_at (mvP hZ (ow hw 56 rfl) (args := #[]))) (mvT hZ (ow hw 55 rfl)) (by decide)) (Cond.privateMethod_at (mvP hZ (ow hw 56 rfl) (args := #[]))) (mvT hZ (ow hw 57 rfl)) (by decide) (backOf (W := 0) (rmac2 l Z av0 hw [] a0 b_29 lo1 b_2 b_5 b_7 b_21 k_5 k_7 ke_21 lo0 (FP.dneg hi0) b_18 b_23 h_30 n0 Z0__30 c389 c390 c391 c392 c402 c412 c413 c414 g_b_2 g_b_5 g_b_7 c415 c410 c411 g_b_21 c409 OE_21 ne_a0_b_2 ne_a0_b_5 ne_a0_b_7 ne_a0_b_21 ne_b_2_b_5 ne_b_2_b_7 ne_b_2_b_21 ne_b_5_b_7 ne_b_5_b_21 ne_b_7_b_21) hZ (ow hw 57 rfl) (ow hw 9 rfl) (by decide) (by decide)) (g := (mkF m 88 #[rv a0, rv a1, rv a2, iv 1, rv b_29, rv b_23] [(.double lo1), (.ref b_29), (.ref a0)])) rfl (by rw [hml]; rfl) (Steps.refl _) (a := a0) (by rw [(e_30 : _ = _)]; exact q_32a) q_32b (argsL := [(.ref b_29), (.double lo1)]) (rest := []) (lenOf pd_7 rfl) rfl (by show 2 * 0 + _ ≤ _; exact Nat.le_of_eq rfl) (hb hby d3_88) (fun _ _ => ⟨rfl, e_30, (by decide : 8 + 0 ≤ _), (by decide : 57 + 0 ≤ _)⟩)
  dsimp only [Pt.U, Pt.locs, Pt.cells, Pt.slots] at X_32 l_32 y_32 z_32 st_32 hQ_32
  subst l_32 y_32 z_32
  obtain ⟨rfl, N_32q, K_32, VE_32, Fm_32, Fe_32, Fs_32, VA_32, VR_32⟩ := hQ_32
  have N_32 := Fr.app N_30 N_32q
  have c416 := c388.trans K_32 (allS (Or.inr sz_b_2) (allS (Or.inr sz_b_5) (allS (Or.inr sz_b_7) (allS (Or.inr sz_b_21) all0))))
  have c417 := c389.keep K_32
  have c418 := c390.keep K_32 (ninS ne_a0_b_2 (ninS ne_a0_b_5 (ninS ne_a0_b_7 (ninS ne_a0_b_21 nin0))))
  have c419 := c391.keep K_32 (ninS ne_a0_b_2 (ninS ne_a0_b_5 (ninS ne_a0_b_7 (ninS ne_a0_b_21 nin0))))
  have c420 := c392.keep K_32 (ninS ne_a0_b_2 (ninS ne_a0_b_5 (ninS ne_a0_b_7 (ninS ne_a0_b_21 nin0))))
  have c421 := c393.keep K_32 (ninS ne_a0_b_2 (ninS ne_a0_b_5 (ninS ne_a0_b_7 (ninS ne_a0_b_21 nin0))))
  have c422 := c394.keep K_32 (ninS ne_a0_b_2 (ninS ne_a0_b_5 (ninS ne_a0_b_7 (ninS ne_a0_b_21 nin0))))
  have c423 := c395.keep K_32 (ninS ne_a0_b_2 (ninS ne_a0_b_5 (ninS ne_a0_b_7 (ninS ne_a0_b_21 nin0))))
  have c424 := c396.keep K_32 (ninS ne_a0_b_2 (ninS ne_a0_b_5 (ninS ne_a0_b_7 (ninS ne_a0_b_21 nin0))))
  have c425 := c397.keep K_32 (ninS ne_a0_b_2 (ninS ne_a0_b_5 (ninS ne_a0_b_7 (ninS ne_a0_b_21 nin0))))
  have c426 := c398.keep K_32 (ninS ne_a0_b_2 (ninS ne_a0_b_5 (ninS ne_a0_b_7 (ninS ne_a0_b_21 nin0))))
  have c427 := c399.keep K_32 (ninS ne_de_b_2 (ninS ne_de_b_5 (ninS ne_de_b_7 (ninS ne_de_b_21 nin0))))
  have c428 := c400.keep K_32 (ninS ne_a1_b_2 (ninS ne_a1_b_5 (ninS ne_a1_b_7 (ninS ne_a1_b_21 nin0))))
  have c429 := c401.keep K_32 (ninS ne_a2_b_2 (ninS ne_a2_b_5 (ninS ne_a2_b_7 (ninS ne_a2_b_21 nin0))))
  have c430 := c402.keep K_32
  have c431 := c403.keep K_32
  have c432 := c404.keep K_32 (ninS (Ne.symm ne_b_2_b_14) (ninS (Ne.symm ne_b_5_b_14) (ninS (Ne.symm ne_b_7_b_14) (ninS ne_b_14_b_21 nin0))))
  have c433 := c405.keep K_32
  have c434 := c406.keep K_32 (ninS (Ne.symm ne_b_2_b_18) (ninS (Ne.symm ne_b_5_b_18) (ninS (Ne.symm ne_b_7_b_18) (ninS ne_b_18_b_21 nin0))))
  have c435 := c407.keep K_32
  have c436 := c408.keep K_32 (ninS (Ne.symm ne_b_2_b_23) (ninS (Ne.symm ne_b_5_b_23) (ninS (Ne.symm ne_b_7_b_23) (ninS (Ne.symm ne_b_21_b_23) nin0))))
  have c437 := c415.keep K_32
  have c438 := V_30.keep K_32 (ninS (Ne.symm ne_b_2_b_29) (ninS (Ne.symm ne_b_5_b_29) (ninS (Ne.symm ne_b_7_b_29) (ninS (Ne.symm ne_b_21_b_29) nin0))))
  have Z0__32 : n0 ≤ T_32.heap.size := Nat.le_trans Z0__30 K_32.1
  refine og (fun t k => st_32.trans k) ?_
  refine og (B := T_32.setTop (mkF m 92 #[rv a0, rv a1, rv a2, iv 1, rv b_29, rv b_23] [(.ref a0)])) (fun t k => ?_) ?_
  · refine XS.aloadN X_32.here hx rfl (hb hby d3_91) rfl rfl ?_
    exact k
  obtain ⟨T_33, X_33, e_33, st_33⟩ := getF X_32 hx hZ hown (host := "") (Or.inl (ow hw 50 rfl)) Via.refl rfl c422 (g := (mkF m 92 #[rv a0, rv a1, rv a2, iv 1, rv b_29, rv b_23] [(.ref a0)])) rfl rfl (hb hby d3_92)
  refine og (fun t k => st_33 t k) ?_
  obtain ⟨T_34, h_34, k_34, X_34, e_34, E_34, A_34, Q_34, st_34⟩ := newPE X_33 hx hZ (ow hw 10 rfl) e_33 (g := (mkF m 95 #[rv a0, rv a1, rv a2, iv 1, rv b_29, rv b_23] [(.int 3)])) rfl (hb hby d3_95) rfl (by decide) (cap := 3) (by decide) (by decide) (by decide) (by decide) (ad := "[D") (by decide)
  obtain ⟨b_34, g_34⟩ : ∃ z, z = T_32.heap.size := ⟨_, rfl⟩
  rw [← g_34] at A_34 Q_34 st_34
  have g_b_34 : n0 ≤ b_34 := Nat.le_trans Z0__32 (Nat.le_of_eq g_34.symm)
  have sz_b_34 : h0.size ≤ b_34 := Nat.le_trans c416.1 (Nat.le_of_eq g_34.symm)
  have lt_a0_b_34 : a0 < b_34 := Nat.lt_of_lt_of_le (c417).lt (Nat.le_of_eq g_34.symm)
  have ne_a0_b_34 := Nat.ne_of_lt lt_a0_b_34
  have lt_de_b_34 : de < b_34 := Nat.lt_of_lt_of_le (c427).lt (Nat.le_of_eq g_34.symm)
  have ne_de_b_34 := Nat.ne_of_lt lt_de_b_34
  have lt_a1_b_34 : a1 < b_34 := Nat.lt_of_lt_of_le (c428).lt (Nat.le_of_eq g_34.symm)
  have ne_a1_b_34 := Nat.ne_of_lt lt_a1_b_34
  have lt_a2_b_34 : a2 < b_34 := Nat.lt_of_lt_of_le (c429).lt (Nat.le_of_eq g_34.symm)
  have ne_a2_b_34 := Nat.ne_of_lt lt_a2_b_34
  have lt_b_2_b_34 : b_2 < b_34 := Nat.lt_of_lt_of_le (c430).lt (Nat.le_of_eq g_34.symm)
  have ne_b_2_b_34 := Nat.ne_of_lt lt_b_2_b_34
  have lt_b_5_b_34 : b_5 < b_34 := Nat.lt_of_lt_of_le (c431).lt (Nat.le_of_eq g_34.symm)
  have ne_b_5_b_34 := Nat.ne_of_lt lt_b_5_b_34
  have lt_b_14_b_34 : b_14 < b_34 := Nat.lt_of_lt_of_le (c432).lt (Nat.le_of_eq g_34.symm)
  have ne_b_14_b_34 := Nat.ne_of_lt lt_b_14_b_34
  have lt_b_18_b_34 : b_18 < b_34 := Nat.lt_of_lt_of_le (c433).lt (Nat.le_of_eq g_34.symm)
  have ne_b_18_b_34 := Nat.ne_of_lt lt_b_18_b_34
  have lt_b_23_b_34 : b_23 < b_34 := Nat.lt_of_lt_of_le (c435).lt (Nat.le_of_eq g_34.symm)
  have ne_b_23_b_34 := Nat.ne_of_lt lt_b_23_b_34
  have lt_b_29_b_34 : b_29 < b_34 := Nat.lt_of_lt_of_le (c437).lt (Nat.le_of_eq g_34.symm)
  have ne_b_29_b_34 := Nat.ne_of_lt lt_b_29_b_34
  have lt_b_21_b_34 : b_21 < b_34 := Nat.lt_of_lt_of_le (VE_32).lt (Nat.le_of_eq g_34.symm)
  have ne_b_21_b_34 := Nat.ne_of_lt lt_b_21_b_34
  have lt_b_7_b_34 : b_7 < b_34 := Nat.lt_of_lt_of_le (VR_32).lt (Nat.le_of_eq g_34.symm)
  have ne_b_7_b_34 := Nat.ne_of_lt lt_b_7_b_34
  have c439 := c416.ext E_34
  have c440 := c417.ext E_34
  have c441 := c418.ext E_34
  have c442 := c419.ext E_34
  have c443 := c420.ext E_34
  have c444 := c421.ext E_34
  have c445 := c422.ext E_34
  have c446 := c423.ext E_34
  have c447 := c424.ext E_34
  have c448 := c425.ext E_34
  have c449 := c426.ext E_34
  have c450 := c427.ext E_34
  have c451 := c428.ext E_34
  have c452 := c429.ext E_34
  have c453 := c430.ext E_34
  have c454 := c431.ext E_34
  have c455 := c432.ext E_34
  have c456 := c433.ext E_34
  have c457 := c434.ext E_34
  have c458 := c435.ext E_34
  have c459 := c436.ext E_34
  have c460 := c437.ext E_34
  have c461 := c438.ext E_34
  have c462 := VE_32.ext E_34
  have c463 := VA_32.ext E_34
  have c464 := VR_32.ext E_34
  have c465 := Fm_32.ext E_34
  have c466 := Fe_32.ext E_34
  have c467 := Fs_32.ext E_34
  have Z0__34 : n0 ≤ h_34.size := Nat.le_trans Z0__32 E_34.1
  have V_b_34 : Arv Z h_34 b_34 k_34 .double (3 : Int32) [(.double 0), (.double 0), (.double 0)] (.double 0) := (Arv.new A_34 (by decide)).pad (pad_rep [] (.double 0) 3)
  refine og (fun t k => st_34 t k) ?_
  refine og (B := T_34.setTop (mkF m 107 #[rv a0, rv a1, rv a2, iv 1, rv b_29, rv b_34] [(.double 13830554455654793216), (.int 2), (.ref b_34)])) (fun t k => ?_) ?_
  · refine XS.astore X_34.here hx rfl (hb hby d3_97) rfl rfl (l' := #[rv a0, rv a1, rv a2, iv 1, rv b_29, rv b_34]) rfl ?_
    refine XS.aload X_34.here hx rfl (hb hby d3_99) rfl rfl ?_
    refine XS.iloadN X_34.here hx rfl (hb hby d3_101) rfl ?_
    refine XS.iconst X_34.here hx rfl (hb hby d3_102) ?_
    refine XS.iadd X_34.here hx rfl (hb hby d3_103) rfl ?_
    refine X_34.ldc2DoubleC hx hown (mvT hZ (ow hw 98 rfl)) (g := (mkF m 104 #[rv a0, rv a1, rv a2, iv 1, rv b_29, rv b_34] [(.int 2), (.ref b_34)])) rfl (hb hby d3_104) _ ?_
    exact k
  obtain ⟨cl_35, Ar_35, q_35, S_35, M_35, H_35, G_35⟩ := id V_b_34
  have hin_35 : ¬ ((2 : Int32) < 0 ∨ cl_35.slots.size ≤ ((2 : Int32)).toNatClampNeg) := inb_of S_35 ⟨by decide, by decide⟩
  obtain ⟨T_35, h_35, X_35, e_35, W_35, st_35⟩ := stD X_34 hx hZ e_34 Ar_35 (j := (2 : Int32)) hin_35 (g := (mkF m 107 #[rv a0, rv a1, rv a2, iv 1, rv b_29, rv b_34] [(.double 13830554455654793216), (.int 2), (.ref b_34)])) rfl rfl (hb hby d3_107)
  have c468 := c439.wr W_35 (Or.inr sz_b_34)
  have c469 := c440.wr W_35
  have c470 := c441.other W_35 (Or.inl ne_a0_b_34)
  have c471 := c442.other W_35 (Or.inl ne_a0_b_34)
  have c472 := c443.other W_35 (Or.inl ne_a0_b_34)
  have c473 := c444.other W_35 (Or.inl ne_a0_b_34)
  have c474 := c445.other W_35 (Or.inl ne_a0_b_34)
  have c475 := c446.other W_35 (Or.inl ne_a0_b_34)
  have c476 := c447.other W_35 (Or.inl ne_a0_b_34)
  have c477 := c448.other W_35 (Or.inl ne_a0_b_34)
  have c478 := c449.other W_35 (Or.inl ne_a0_b_34)
  have c479 := c450.other W_35 ne_de_b_34
  have c480 := c451.other W_35 ne_a1_b_34
  have c481 := c452.other W_35 ne_a2_b_34
  have c482 := c453.wr W_35
  have c483 := c454.wr W_35
  have c484 := c455.other W_35 ne_b_14_b_34
  have c485 := c456.wr W_35
  have c486 := c457.other W_35 ne_b_18_b_34
  have c487 := c458.wr W_35
  have c488 := c459.other W_35 ne_b_23_b_34
  have c489 := c460.wr W_35
  have c490 := c461.other W_35 ne_b_29_b_34
  have c491 := c462.other W_35 ne_b_21_b_34
  have c492 := c463.other W_35 ne_b_5_b_34
  have c493 := c464.other W_35 ne_b_7_b_34
  have c494 := c465.other W_35 (Or.inl ne_b_2_b_34)
  have c495 := c466.other W_35 (Or.inl ne_b_2_b_34)
  have c496 := c467.other W_35 (Or.inl ne_b_2_b_34)
  have c497 := Q_34.wr W_35
  have V_35 : Arv Z h_35 b_34 k_34 .double (3 : Int32) [(.double 0), (.double 0), (.double 13830554455654793216)] (.double 0) := Arv.set Ar_35 q_35 S_35 M_35 H_35 G_35 rfl W_35 2 rfl (Nat.le_of_ble_eq_true rfl)
  have N_35 := Fr.snoc X_35 N_32 g_b_34
  have Z0__35 : n0 ≤ h_35.size := by rw [W_35.size]; exact Z0__34
  refine og (fun t k => st_35 t k) ?_
  refine og (B := T_35.setTop (mkF m 113 #[rv a0, rv a1, rv a2, iv 1, rv b_29, rv b_34] [(.int 1), (.ref a2), (.ref b_34), (.ref a0)])) (fun t k => ?_) ?_
  · refine XS.aloadN X_35.here hx rfl (hb hby d3_108) rfl rfl ?_
    refine XS.aload X_35.here hx rfl (hb hby d3_109) rfl rfl ?_
    refine XS.aloadN X_35.here hx rfl (hb hby d3_111) rfl rfl ?_
    refine XS.iloadN X_35.here hx rfl (hb hby d3_112) rfl ?_
    exact k
  obtain ⟨cl_36, Ar_36, q_36, S_36, M_36, H_36, G_36⟩ := id c481
  have hin_36 : ¬ ((1 : Int32) < 0 ∨ cl_36.slots.size ≤ ((1 : Int32)).toNatClampNeg) := inb_of S_36 ⟨by decide, by decide⟩
  have hat_36 : cl_36.slots[((1 : Int32)).toNatClampNeg]? = some (.double hi1) := H_36.at hin_36 rfl
  refine og (B := T_35.setTop (mkF m 114 #[rv a0, rv a1, rv a2, iv 1, rv b_29, rv b_34] [(.double hi1), (.ref b_34), (.ref a0)])) (fun t k => X_35.daload hx (j := (1 : Int32)) (v := (.double hi1)) (by rw [(e_35 : _ = _)]; exact Ar_36.1) (State.isArrayOf_alike hZ.alike Ar_36.2.1) Ar_36.2.2 hin_36 hat_36 (g := (mkF m 113 #[rv a0, rv a1, rv a2, iv 1, rv b_29, rv b_34] [(.int 1), (.ref a2), (.ref b_34), (.ref a0)])) rfl rfl (hb hby d3_113) t k) ?_
  refine og (B := T_35.setTop (mkF m 115 #[rv a0, rv a1, rv a2, iv 1, rv b_29, rv b_34] [(.double (FP.dneg hi1)), (.ref b_34), (.ref a0)])) (fun t k => ?_) ?_
  · refine XS.dnegS X_35.here hx rfl (hb hby d3_114) rfl rfl ?_
    exact k
  obtain ⟨cq_37, q_37a, q_37b⟩ := (c469).cell
  obtain ⟨_, _, ⟨T_37, L_37, k_37, n_37⟩, -, X_37, ⟨Lc_37, hQ_37, l_37, y_37, z_37⟩, st_37⟩ := X_35.privateBack hx (y := own_m9) hown (mvT hZ (ow hw 54 rfl)) (mvT hZ (ow hw 55 rfl)) (own_sel hZ (ow hw 8 rfl) (Cond.privateMethod_at (mvP hZ (ow hw 56 rfl) (args := #[]))) (mvT hZ (ow hw 55 rfl)) (by decide)) (Cond.privateMethod_at (mvP hZ (ow hw 56 rfl) (args := #[]))) (mvT hZ (ow hw 57 rfl)) (by decide) (backOf (W := 0) (rmac3 l Z av0 hw [] a0 b_34 (FP.dneg hi1) b_2 b_5 b_7 b_21 k_5 k_7 ke_21 lo0 (FP.dneg hi0) lo1 b_18 b_23 b_29 h_35 n0 Z0__35 c469 c470 c471 c472 c482 c494 c495 c496 g_b_2 g_b_5 g_b_7 c497 c492 c493 g_b_21 c491 OE_21 ne_a0_b_2 ne_a0_b_5 ne_a0_b_7 ne_a0_b_21 ne_b_2_b_5 ne_b_2_b_7 ne_b_2_b_21 ne_b_5_b_7 ne_b_5_b_21 ne_b_7_b_21) hZ (ow hw 57 rfl) (ow hw 9 rfl) (by decide) (by decide)) (g := (mkF m 115 #[rv a0, rv a1, rv a2, iv 1, rv b_29, rv b_34] [(.double (FP.dneg hi1)), (.ref b_34), (.ref a0)])) rfl (by rw [hml]; rfl) (Steps.refl _) (a := a0) (by rw [(e_35 : _ = _)]; exact q_37a) q_37b (argsL := [(.ref b_34), (.double (FP.dneg hi1))]) (rest := []) (lenOf pd_7 rfl) rfl (by show 2 * 0 + _ ≤ _; exact Nat.le_of_eq rfl) (hb hby d3_115) (fun _ _ => ⟨rfl, e_35, (by decide : 9 + 0 ≤ _), (by decide : 60 + 0 ≤ _)⟩)
  dsimp only [Pt.U, Pt.locs, Pt.cells, Pt.slots] at X_37 l_37 y_37 z_37 st_37 hQ_37
  subst l_37 y_37 z_37
  obtain ⟨rfl, N_37q, K_37, VE_37, Fm_37, Fe_37, Fs_37, VA_37, VR_37⟩ := hQ_37
  have N_37 := Fr.app N_35 N_37q
  have c498 := c468.trans K_37 (allS (Or.inr sz_b_2) (allS (Or.inr sz_b_5) (allS (Or.inr sz_b_7) (allS (Or.inr sz_b_21) all0))))
  have c499 := c469.keep K_37
  have c500 := c470.keep K_37 (ninS ne_a0_b_2 (ninS ne_a0_b_5 (ninS ne_a0_b_7 (ninS ne_a0_b_21 nin0))))
  have c501 := c471.keep K_37 (ninS ne_a0_b_2 (ninS ne_a0_b_5 (ninS ne_a0_b_7 (ninS ne_a0_b_21 nin0))))
  have c502 := c472.keep K_37 (ninS ne_a0_b_2 (ninS ne_a0_b_5 (ninS ne_a0_b_7 (ninS ne_a0_b_21 nin0))))
  have c503 := c473.keep K_37 (ninS ne_a0_b_2 (ninS ne_a0_b_5 (ninS ne_a0_b_7 (ninS ne_a0_b_21 nin0))))
  have c504 := c474.keep K_37 (ninS ne_a0_b_2 (ninS ne_a0_b_5 (ninS ne_a0_b_7 (ninS ne_a0_b_21 nin0))))
  have c505 := c475.keep K_37 (ninS ne_a0_b_2 (ninS ne_a0_b_5 (ninS ne_a0_b_7 (ninS ne_a0_b_21 nin0))))
  have c506 := c476.keep K_37 (ninS ne_a0_b_2 (ninS ne_a0_b_5 (ninS ne_a0_b_7 (ninS ne_a0_b_21 nin0))))
  have c507 := c477.keep K_37 (ninS ne_a0_b_2 (ninS ne_a0_b_5 (ninS ne_a0_b_7 (ninS ne_a0_b_21 nin0))))
  have c508 := c478.keep K_37 (ninS ne_a0_b_2 (ninS ne_a0_b_5 (ninS ne_a0_b_7 (ninS ne_a0_b_21 nin0))))
  have c509 := c479.keep K_37 (ninS ne_de_b_2 (ninS ne_de_b_5 (ninS ne_de_b_7 (ninS ne_de_b_21 nin0))))
  have c510 := c480.keep K_37 (ninS ne_a1_b_2 (ninS ne_a1_b_5 (ninS ne_a1_b_7 (ninS ne_a1_b_21 nin0))))
  have c511 := c481.keep K_37 (ninS ne_a2_b_2 (ninS ne_a2_b_5 (ninS ne_a2_b_7 (ninS ne_a2_b_21 nin0))))
  have c512 := c482.keep K_37
  have c513 := c483.keep K_37
  have c514 := c484.keep K_37 (ninS (Ne.symm ne_b_2_b_14) (ninS (Ne.symm ne_b_5_b_14) (ninS (Ne.symm ne_b_7_b_14) (ninS ne_b_14_b_21 nin0))))
  have c515 := c485.keep K_37
  have c516 := c486.keep K_37 (ninS (Ne.symm ne_b_2_b_18) (ninS (Ne.symm ne_b_5_b_18) (ninS (Ne.symm ne_b_7_b_18) (ninS ne_b_18_b_21 nin0))))
  have c517 := c487.keep K_37
  have c518 := c488.keep K_37 (ninS (Ne.symm ne_b_2_b_23) (ninS (Ne.symm ne_b_5_b_23) (ninS (Ne.symm ne_b_7_b_23) (ninS (Ne.symm ne_b_21_b_23) nin0))))
  have c519 := c489.keep K_37
  have c520 := c490.keep K_37 (ninS (Ne.symm ne_b_2_b_29) (ninS (Ne.symm ne_b_5_b_29) (ninS (Ne.symm ne_b_7_b_29) (ninS (Ne.symm ne_b_21_b_29) nin0))))
  have c521 := c497.keep K_37
  have c522 := V_35.keep K_37 (ninS (Ne.symm ne_b_2_b_34) (ninS (Ne.symm ne_b_5_b_34) (ninS (Ne.symm ne_b_7_b_34) (ninS (Ne.symm ne_b_21_b_34) nin0))))
  have Z0__37 : n0 ≤ T_37.heap.size := Nat.le_trans Z0__35 K_37.1
  refine og (fun t k => st_37.trans k) ?_
  refine og (B := T_37.setTop (mkF m 61 #[rv a0, rv a1, rv a2, iv 2, rv b_29, rv b_34] [(.ref a0), (.int 2)])) (fun t k => ?_) ?_
  · refine XS.iinc X_37.here hx rfl (hb hby d3_118) rfl (l' := #[rv a0, rv a1, rv a2, iv 2, rv b_29, rv b_34]) rfl ?_
    refine XS.goto X_37.here hx rfl (pc0 := 121) (pc' := 59) rfl (hb hby d3_121) (by decide) (by decide) ?_
    refine XS.iloadN X_37.here hx rfl (hb hby d3_59) rfl ?_
    refine XS.aloadN X_37.here hx rfl (hb hby d3_60) rfl rfl ?_
    exact k
  obtain ⟨T_38, X_38, e_38, st_38⟩ := getF X_37 hx hZ hown (host := "") (Or.inl (ow hw 48 rfl)) Via.refl rfl c503 (g := (mkF m 61 #[rv a0, rv a1, rv a2, iv 2, rv b_29, rv b_34] [(.ref a0), (.int 2)])) rfl rfl (hb hby d3_61)
  refine og (fun t k => st_38 t k) ?_
  refine og (B := T_38.setTop (mkF m 124 #[rv a0, rv a1, rv a2, iv 2, rv b_29, rv b_34] [])) (fun t k => ?_) ?_
  · refine XS.icmpYes X_38.here hx rfl (pc0 := 64) (pc' := 124) rfl (hb hby d3_64) rfl (flt (by decide : ¬ ((2 : Int32) < (2 : Int32)))).2.1 (by decide) (by decide) ?_
    exact k
  obtain ⟨fs, hr, hrun, hended, hW, hsame⟩ := X_38.leave (v := none) (fun _ => rfl)
  refine ⟨_, _, ?_, hrun, hended, _, _, rfl, ?_, ⟨_, rfl⟩, hW, hsame.mono (by decide) (by decide)⟩
  · show Steps p.tables e below (T_38.setTop (mkF m 124 #[rv a0, rv a1, rv a2, iv 2, rv b_29, rv b_34] [])) _
    exact X_38.returnOut hx Bd.returns (hb hby d3_124) hr
  · show Qcpi Z a0 a1 a2 u0 u1 u2 u3 u4 u5 u6 u7 u8 de kd kl kh lo0 lo1 hi0 hi1 h0 n0 _ T_38.heap _
    rw [e_38]
    exact ⟨b_2, b_5, b_7, b_14, b_18, b_21, b_23, b_29, b_34, ke_21, k_5, k_7, k_14, k_18, k_23, k_29, k_34, rfl, N_37, c498, sz_b_2, lt_b_2_b_5, lt_b_5_b_7, lt_b_7_b_14, lt_b_14_b_18, lt_b_18_b_21, lt_b_21_b_23, lt_b_23_b_29, lt_b_29_b_34, c500, c501, c502, c503, c504, c505, c506, c507, c508, c512, Fm_37, Fe_37, Fs_37, VE_37, OE_21, VA_37, VR_37, c514, c515, c516, c517, c518, c519, c520, c521, c522⟩
theorem d18_0 : decode jdk_41_method_11_code 0 = .ok (.iload_n 0, 1) := by decide +kernel
theorem d18_1 : decode jdk_41_method_11_code 1 = .ok (.ifCond .lt 8, 3) := by decide +kernel
theorem d18_4 : decode jdk_41_method_11_code 4 = .ok (.iload_n 0, 1) := by decide +kernel
theorem d18_5 : decode jdk_41_method_11_code 5 = .ok (.iload_n 1, 1) := by decide +kernel
theorem d18_6 : decode jdk_41_method_11_code 6 = .ok (.if_icmp .lt 10, 3) := by decide +kernel
theorem d18_16 : decode jdk_41_method_11_code 16 = .ok (.iload_n 0, 1) := by decide +kernel
theorem d18_17 : decode jdk_41_method_11_code 17 = .ok (.ireturn, 1) := by decide +kernel
theorem pn_18 : plainName "jdk/internal/util/Preconditions" = true := by first | (simp [plainName, overriddenIn]; done) | decide +kernel
theorem ef_pck (m : MethodId) (p0 : Int32) : entryFrame m #[(.int p0), (.int 5), .null] 3 = mkF m 0 #[iv p0, iv 5, .val .null] [] := by first | (simp [entryFrame, mkF, argsToLocals, Value.category]; done) | rfl
def Qpck (Z : State) (p0 : Int32) (h0 : Heap) (n0 : Nat) (v : Option Value) (h : Heap) (L : List Loc) : Prop := v = some (.int p0) ∧ Fr n0 L ∧ h = h0
theorem rmpck (l : Launch) (Z : State) (av0 : Array Value) (hw : ∀ d ∈ tables_1, d.before av0 Z = true) (ws : List Jvm.Cond) (p0 : Int32) (h0 : Heap) (n0 : Nat) (Z0 : n0 ≤ h0.size) (hi0 : ¬ (p0 < (0 : Int32))) (hi1 : p0 < (5 : Int32)) :
    MetFree l own_m19 (head1 (Jvm.Cond.code own_m19 jdk_41_method_11_code 3 (some .int) :: ws) ({ frames := 0, cells := 0, slots := 0, locals := 0 } : Room)) (fun a U => a = #[(.int p0), (.int 5), .null] ∧ Z.Warmed39 U.vm ∧ U.heap = h0) (fun _ _ _ _ _ => True) (fun _ U o U' => ∃ v L, o = .returned v ∧ Qpck Z p0 h0 n0 v U'.heap L ∧ FrameEnd U o U' L ({ frames := 0, cells := 0, slots := 0, locals := 0 } : Room).cells ({ frames := 0, cells := 0, slots := 0, locals := 0 } : Room).slots) := by
  refine MetFree.of_bodySF (plainFor_of_name pn_18) hisR ?_
  intro p e s m args below meth c s₁ Bd hml0 hP hK
  obtain ⟨rfl, hZ, hh⟩ := hP
  have hx := Bd.exec
  have hby := Bd.bytes
  have hml : c.maxLocals = 3 := hml0
  have hown : s.vm.findClass "jdk/internal/util/Preconditions" = some m.cls := findClass_of_methodNamed Bd.named
  have X0 : Stand p l e ({ frames := 0, cells := 0, slots := 0, locals := 0 } : Room) s m #[(.int p0), (.int 5), .null] below meth c s₁ [] 0 0 := Stand.of_body Bd
  have e0 : s₁.heap = h0 := by rw [← hh, Bd.state]; rfl
  have N0 := Fr.nil n0
  have K0 : Keep h0 h0 [] := Keep.refl h0 []
  refine og (B := s₁.setTop (mkF m 0 #[iv p0, iv 5, .val .null] [])) (fun t k => castTop (ef_pck m p0) k) ?_
  refine og (B := s₁.setTop (mkF m 1 #[iv p0, iv 5, .val .null] [(.int p0)])) (fun t k => ?_) ?_
  · refine XS.iloadN X0.here hx rfl (hb hby d18_0) rfl ?_
    exact k
  refine og (B := s₁.setTop (mkF m 4 #[iv p0, iv 5, .val .null] [])) (fun t k => ?_) ?_
  · refine XS.ifNo X0.here hx rfl (hb hby d18_1) rfl ((if0 _ _).trans (flt hi0).1) ?_
    exact k
  refine og (B := s₁.setTop (mkF m 6 #[iv p0, iv 5, .val .null] [(.int 5), (.int p0)])) (fun t k => ?_) ?_
  · refine XS.iloadN X0.here hx rfl (hb hby d18_4) rfl ?_
    refine XS.iloadN X0.here hx rfl (hb hby d18_5) rfl ?_
    exact k
  refine og (B := s₁.setTop (mkF m 16 #[iv p0, iv 5, .val .null] [])) (fun t k => ?_) ?_
  · refine XS.icmpYes X0.here hx rfl (pc0 := 6) (pc' := 16) rfl (hb hby d18_6) rfl (tlt hi1).1 (by decide) (by decide) ?_
    exact k
  refine og (B := s₁.setTop (mkF m 17 #[iv p0, iv 5, .val .null] [(.int p0)])) (fun t k => ?_) ?_
  · refine XS.iloadN X0.here hx rfl (hb hby d18_16) rfl ?_
    exact k
  obtain ⟨fs, hr, hrun, hended, hW, hsame⟩ := X0.leave (v := some (.int p0)) (fun h => by rw [Bd.returns] at h; cases h)
  refine ⟨_, _, ?_, hrun, hended, _, _, rfl, ?_, ⟨_, rfl⟩, hW, hsame.mono (by decide) (by decide)⟩
  · show Steps p.tables e below (s₁.setTop (mkF m 17 #[iv p0, iv 5, .val .null] [(.int p0)])) _
    exact retI X0 hx Bd.returns (hb hby d18_17) hr
  · show Qpck Z p0 h0 n0 _ s₁.heap _
    rw [e0]
    exact ⟨rfl, N0, rfl⟩
theorem d17_0 : decode jdk_31_method_17_code 0 = .ok (.iload_n 0, 1) := by decide +kernel
theorem d17_1 : decode jdk_31_method_17_code 1 = .ok (.iload_n 1, 1) := by decide +kernel
theorem d17_2 : decode jdk_31_method_17_code 2 = .ok (.aconst_null, 1) := by decide +kernel
theorem d17_3 : decode jdk_31_method_17_code 3 = .ok (.invokestatic 105, 3) := by decide +kernel
theorem d17_6 : decode jdk_31_method_17_code 6 = .ok (.ireturn, 1) := by decide +kernel
theorem pn_17 : plainName "java/util/Objects" = true := by first | (simp [plainName, overriddenIn]; done) | decide +kernel
theorem ef_ock (m : MethodId) (p0 : Int32) : entryFrame m #[(.int p0), (.int 5)] 2 = mkF m 0 #[iv p0, iv 5] [] := by first | (simp [entryFrame, mkF, argsToLocals, Value.category]; done) | rfl
theorem pd_8 : parseMethodDescriptor "(IILjava/util/function/BiFunction;)I" = some ⟨[.int, .int, (.object "java/util/function/BiFunction")], some .int⟩ := by decide +kernel
def Qock (Z : State) (p0 : Int32) (h0 : Heap) (n0 : Nat) (v : Option Value) (h : Heap) (L : List Loc) : Prop := v = some (.int p0) ∧ Fr n0 L ∧ h = h0
theorem rmock (l : Launch) (Z : State) (av0 : Array Value) (hw : ∀ d ∈ tables_1, d.before av0 Z = true) (ws : List Jvm.Cond) (p0 : Int32) (h0 : Heap) (n0 : Nat) (Z0 : n0 ≤ h0.size) (hi0 : ¬ (p0 < (0 : Int32))) (hi1 : p0 < (5 : Int32)) :
    MetFree l own_m18 (head1 (Jvm.Cond.code own_m18 jdk_31_method_17_code 2 (some .int) :: ws) ({ frames := 1, cells := 0, slots := 0, locals := 14 } : Room)) (fun a U => a = #[(.int p0), (.int 5)] ∧ Z.Warmed39 U.vm ∧ U.heap = h0) (fun _ _ _ _ _ => True) (fun _ U o U' => ∃ v L, o = .returned v ∧ Qock Z p0 h0 n0 v U'.heap L ∧ FrameEnd U o U' L ({ frames := 1, cells := 0, slots := 0, locals := 14 } : Room).cells ({ frames := 1, cells := 0, slots := 0, locals := 14 } : Room).slots) := by
  refine MetFree.of_bodySF (plainFor_of_name pn_17) hisR ?_
  intro p e s m args below meth c s₁ Bd hml0 hP hK
  obtain ⟨rfl, hZ, hh⟩ := hP
  have hx := Bd.exec
  have hby := Bd.bytes
  have hml : c.maxLocals = 2 := hml0
  have hown : s.vm.findClass "java/util/Objects" = some m.cls := findClass_of_methodNamed Bd.named
  have X0 : Stand p l e ({ frames := 1, cells := 0, slots := 0, locals := 14 } : Room) s m #[(.int p0), (.int 5)] below meth c s₁ [] 0 0 := Stand.of_body Bd
  have e0 : s₁.heap = h0 := by rw [← hh, Bd.state]; rfl
  have N0 := Fr.nil n0
  have K0 : Keep h0 h0 [] := Keep.refl h0 []
  refine og (B := s₁.setTop (mkF m 0 #[iv p0, iv 5] [])) (fun t k => castTop (ef_ock m p0) k) ?_
  refine og (B := s₁.setTop (mkF m 3 #[iv p0, iv 5] [.null, (.int 5), (.int p0)])) (fun t k => ?_) ?_
  · refine XS.iloadN X0.here hx rfl (hb hby d17_0) rfl ?_
    refine XS.iloadN X0.here hx rfl (hb hby d17_1) rfl ?_
    refine XS.aconstNull X0.here hx rfl (hb hby d17_2) ?_
    exact k
  obtain ⟨_, _, ⟨T_1, L_1, k_1, n_1⟩, -, X_1, ⟨Lc_1, hQ_1, l_1, y_1, z_1⟩, st_1⟩ := Jvm.LawKit.callS X0 hx (y := own_m19) hown (mvT hZ (ow hw 122 rfl)) (mvT hZ (ow hw 123 rfl)) (mvT hZ (ow hw 124 rfl)) (mvT hZ (ow hw 125 rfl)) (by decide) (backOf (W := 0) (rmpck l Z av0 hw [] p0  h0 n0 Z0 hi0 hi1) hZ (ow hw 125 rfl) (ow hw 124 rfl) (by decide) (by decide)) (g := (mkF m 3 #[iv p0, iv 5] [.null, (.int 5), (.int p0)])) rfl (by rw [hml]; rfl) (argsL := [(.int p0), (.int 5), .null]) (rest := []) (lenOf pd_8 rfl) rfl (by show 2 * 0 + _ ≤ _; exact Nat.le_of_eq rfl) (hb hby d17_3) (fun _ _ => ⟨rfl, e0, (by decide : 0 + 0 ≤ _), (by decide : 0 + 0 ≤ _)⟩)
  dsimp only [Pt.U, Pt.locs, Pt.cells, Pt.slots] at X_1 l_1 y_1 z_1 st_1 hQ_1
  subst l_1 y_1 z_1
  obtain ⟨rfl, N_1q, e_1⟩ := hQ_1
  have N_1 := Fr.app N0 N_1q
  refine og (fun t k => st_1 t k) ?_
  obtain ⟨fs, hr, hrun, hended, hW, hsame⟩ := X_1.leave (v := some (.int p0)) (fun h => by rw [Bd.returns] at h; cases h)
  refine ⟨_, _, ?_, hrun, hended, _, _, rfl, ?_, ⟨_, rfl⟩, hW, hsame.mono (by decide) (by decide)⟩
  · show Steps p.tables e below (T_1.setTop (mkF m 6 #[iv p0, iv 5] [(.int p0)])) _
    exact retI X_1 hx Bd.returns (hb hby d17_6) hr
  · show Qock Z p0 h0 n0 _ T_1.heap _
    rw [e_1]
    exact ⟨rfl, N_1, rfl⟩
theorem d19_0 : decode jdk_38_method_18_code 0 = .ok (.aload_n 0, 1) := by decide +kernel
theorem d19_1 : decode jdk_38_method_18_code 1 = .ok (.getfield 9, 3) := by decide +kernel
theorem d19_4 : decode jdk_38_method_18_code 4 = .ok (.iload_n 1, 1) := by decide +kernel
theorem d19_5 : decode jdk_38_method_18_code 5 = .ok (.aaload, 1) := by decide +kernel
theorem d19_6 : decode jdk_38_method_18_code 6 = .ok (.areturn, 1) := by decide +kernel
theorem pn_19 : plainName "java/util/ArrayList" = true := by first | (simp [plainName, overriddenIn]; done) | decide +kernel
theorem ef_edb (m : MethodId) (a0 : Addr) (p1 : Int32) : entryFrame m #[(.ref a0), (.int p1)] 2 = mkF m 0 #[rv a0, iv p1] [] := by first | (simp [entryFrame, mkF, argsToLocals, Value.category]; done) | rfl
def Qedb (Z : State) (a0 : Addr) (p1 : Int32) (ed : Addr) (kd : ClassId) (ca0 : Addr) (ca1 : Addr) (ca2 : Addr) (ca3 : Addr) (ca4 : Addr) (cx : Addr) (h0 : Heap) (n0 : Nat) (v : Option Value) (h : Heap) (L : List Loc) : Prop := v = some (.ref cx) ∧ Fr n0 L ∧ h = h0
theorem rmedb (l : Launch) (Z : State) (av0 : Array Value) (hw : ∀ d ∈ tables_1, d.before av0 Z = true) (ws : List Jvm.Cond) (a0 : Addr) (p1 : Int32) (ed : Addr) (kd : ClassId) (ca0 : Addr) (ca1 : Addr) (ca2 : Addr) (ca3 : Addr) (ca4 : Addr) (cx : Addr) (h0 : Heap) (n0 : Nat) (Z0 : n0 ≤ h0.size) (F_elementData_a0 : Fld Z h0 a0 "java/util/ArrayList" "elementData" "[Ljava/lang/Object;" (.ref ed)) (VE : Arv Z h0 ed kd (.object "java/lang/Object") (10 : Int32) [(.ref ca0), (.ref ca1), (.ref ca2), (.ref ca3), (.ref ca4)] .null) (hib : ¬ p1 < (0 : Int32) ∧ p1 < (10 : Int32)) (hgv : ([(.ref ca0), (.ref ca1), (.ref ca2), (.ref ca3), (.ref ca4)] : List Value).getD (p1).toNatClampNeg .null = (.ref cx)) :
    MetFree l own_m20 (head1 (Jvm.Cond.code own_m20 jdk_38_method_18_code 2 (some (.object "java/lang/Object")) :: ws) ({ frames := 0, cells := 0, slots := 0, locals := 0 } : Room)) (fun a U => a = #[(.ref a0), (.int p1)] ∧ Z.Warmed39 U.vm ∧ U.heap = h0) (fun _ _ _ _ _ => True) (fun _ U o U' => ∃ v L, o = .returned v ∧ Qedb Z a0 p1 ed kd ca0 ca1 ca2 ca3 ca4 cx h0 n0 v U'.heap L ∧ FrameEnd U o U' L ({ frames := 0, cells := 0, slots := 0, locals := 0 } : Room).cells ({ frames := 0, cells := 0, slots := 0, locals := 0 } : Room).slots) := by
  refine MetFree.of_bodySF (plainFor_of_name pn_19) hisR ?_
  intro p e s m args below meth c s₁ Bd hml0 hP hK
  obtain ⟨rfl, hZ, hh⟩ := hP
  have hx := Bd.exec
  have hby := Bd.bytes
  have hml : c.maxLocals = 2 := hml0
  have hown : s.vm.findClass "java/util/ArrayList" = some m.cls := findClass_of_methodNamed Bd.named
  have X0 : Stand p l e ({ frames := 0, cells := 0, slots := 0, locals := 0 } : Room) s m #[(.ref a0), (.int p1)] below meth c s₁ [] 0 0 := Stand.of_body Bd
  have e0 : s₁.heap = h0 := by rw [← hh, Bd.state]; rfl
  have N0 := Fr.nil n0
  have K0 : Keep h0 h0 [] := Keep.refl h0 []
  refine og (B := s₁.setTop (mkF m 0 #[rv a0, iv p1] [])) (fun t k => castTop (ef_edb m a0 p1) k) ?_
  refine og (B := s₁.setTop (mkF m 1 #[rv a0, iv p1] [(.ref a0)])) (fun t k => ?_) ?_
  · refine XS.aloadN X0.here hx rfl (hb hby d19_0) rfl rfl ?_
    exact k
  obtain ⟨T_1, X_1, e_1, st_1⟩ := getF X0 hx hZ hown (host := "") (Or.inl (ow hw 39 rfl)) Via.refl e0 F_elementData_a0 (g := (mkF m 1 #[rv a0, iv p1] [(.ref a0)])) rfl rfl (hb hby d19_1)
  refine og (fun t k => st_1 t k) ?_
  refine og (B := T_1.setTop (mkF m 5 #[rv a0, iv p1] [(.int p1), (.ref ed)])) (fun t k => ?_) ?_
  · refine XS.iloadN X_1.here hx rfl (hb hby d19_4) rfl ?_
    exact k
  obtain ⟨cl_2, Ar_2, q_2, S_2, M_2, H_2, G_2⟩ := id VE
  have hin_2 : ¬ (p1 < 0 ∨ cl_2.slots.size ≤ (p1).toNatClampNeg) := inb_of S_2 hib
  have hat_2 : cl_2.slots[(p1).toNatClampNeg]? = some (.ref cx) := H_2.at hin_2 hgv
  refine og (B := T_1.setTop (mkF m 6 #[rv a0, iv p1] [(.ref cx)])) (fun t k => X_1.aaload hx (j := p1) (v := (.ref cx)) (by rw [(e_1 : _ = _)]; exact Ar_2.1) (State.isArrayOf_alike hZ.alike Ar_2.2.1) rfl Ar_2.2.2 hin_2 hat_2 (g := (mkF m 5 #[rv a0, iv p1] [(.int p1), (.ref ed)])) rfl rfl (hb hby d19_5) t k) ?_
  obtain ⟨fs, hr, hrun, hended, hW, hsame⟩ := X_1.leave (v := some (.ref cx)) (fun h => by rw [Bd.returns] at h; cases h)
  refine ⟨_, _, ?_, hrun, hended, _, _, rfl, ?_, ⟨_, rfl⟩, hW, hsame.mono (by decide) (by decide)⟩
  · show Steps p.tables e below (T_1.setTop (mkF m 6 #[rv a0, iv p1] [(.ref cx)])) _
    jvm_step X_1.here [X_1.here.top, hx, (hb hby d19_6), X_1.method', Bd.returns, Value.isRef, FieldType.isReference]
    first | (intro acts; rw [hr _ acts rfl rfl rfl]) | rw [hr _ _ rfl rfl rfl]
    exact Steps.refl _
  · show Qedb Z a0 p1 ed kd ca0 ca1 ca2 ca3 ca4 cx h0 n0 _ T_1.heap _
    rw [e_1]
    exact ⟨rfl, N0, rfl⟩
theorem d16_0 : decode jdk_38_method_20_code 0 = .ok (.iload_n 1, 1) := by decide +kernel
theorem d16_1 : decode jdk_38_method_20_code 1 = .ok (.aload_n 0, 1) := by decide +kernel
theorem d16_2 : decode jdk_38_method_20_code 2 = .ok (.getfield 48, 3) := by decide +kernel
theorem d16_5 : decode jdk_38_method_20_code 5 = .ok (.invokestatic 118, 3) := by decide +kernel
theorem d16_8 : decode jdk_38_method_20_code 8 = .ok (.pop, 1) := by decide +kernel
theorem d16_9 : decode jdk_38_method_20_code 9 = .ok (.aload_n 0, 1) := by decide +kernel
theorem d16_10 : decode jdk_38_method_20_code 10 = .ok (.iload_n 1, 1) := by decide +kernel
theorem d16_11 : decode jdk_38_method_20_code 11 = .ok (.invokevirtual 123, 3) := by decide +kernel
theorem d16_14 : decode jdk_38_method_20_code 14 = .ok (.areturn, 1) := by decide +kernel
theorem pn_16 : plainName "java/util/ArrayList" = true := by first | (simp [plainName, overriddenIn]; done) | decide +kernel
theorem ef_get (m : MethodId) (a0 : Addr) (p1 : Int32) : entryFrame m #[(.ref a0), (.int p1)] 2 = mkF m 0 #[rv a0, iv p1] [] := by first | (simp [entryFrame, mkF, argsToLocals, Value.category]; done) | rfl
theorem pd_9 : parseMethodDescriptor "(I)Ljava/lang/Object;" = some ⟨[.int], some (.object "java/lang/Object")⟩ := by decide +kernel
def Qget (Z : State) (a0 : Addr) (p1 : Int32) (ed : Addr) (kd : ClassId) (ca0 : Addr) (ca1 : Addr) (ca2 : Addr) (ca3 : Addr) (ca4 : Addr) (cx : Addr) (h0 : Heap) (n0 : Nat) (v : Option Value) (h : Heap) (L : List Loc) : Prop := v = some (.ref cx) ∧ Fr n0 L ∧ h = h0
theorem rmget (l : Launch) (Z : State) (av0 : Array Value) (hw : ∀ d ∈ tables_1, d.before av0 Z = true) (ws : List Jvm.Cond) (a0 : Addr) (p1 : Int32) (ed : Addr) (kd : ClassId) (ca0 : Addr) (ca1 : Addr) (ca2 : Addr) (ca3 : Addr) (ca4 : Addr) (cx : Addr) (h0 : Heap) (n0 : Nat) (Z0 : n0 ≤ h0.size) (E_a0 : Exa Z h0 a0 "java/util/ArrayList") (F_elementData_a0 : Fld Z h0 a0 "java/util/ArrayList" "elementData" "[Ljava/lang/Object;" (.ref ed)) (F_size_a0 : Fld Z h0 a0 "java/util/ArrayList" "size" "I" (.int 5)) (VE : Arv Z h0 ed kd (.object "java/lang/Object") (10 : Int32) [(.ref ca0), (.ref ca1), (.ref ca2), (.ref ca3), (.ref ca4)] .null) (hi0 : ¬ (p1 < (0 : Int32))) (hi1 : p1 < (5 : Int32)) (hib : ¬ p1 < (0 : Int32) ∧ p1 < (10 : Int32)) (hgv : ([(.ref ca0), (.ref ca1), (.ref ca2), (.ref ca3), (.ref ca4)] : List Value).getD (p1).toNatClampNeg .null = (.ref cx)) :
    MetFree l own_m17 (head1 (Jvm.Cond.code own_m17 jdk_38_method_20_code 2 (some (.object "java/lang/Object")) :: ws) ({ frames := 2, cells := 0, slots := 0, locals := 27 } : Room)) (fun a U => a = #[(.ref a0), (.int p1)] ∧ Z.Warmed39 U.vm ∧ U.heap = h0) (fun _ _ _ _ _ => True) (fun _ U o U' => ∃ v L, o = .returned v ∧ Qget Z a0 p1 ed kd ca0 ca1 ca2 ca3 ca4 cx h0 n0 v U'.heap L ∧ FrameEnd U o U' L ({ frames := 2, cells := 0, slots := 0, locals := 27 } : Room).cells ({ frames := 2, cells := 0, slots := 0, locals := 27 } : Room).slots) := by
  refine MetFree.of_bodySF (plainFor_of_name pn_16) hisR ?_
  intro p e s m args below meth c s₁ Bd hml0 hP hK
  obtain ⟨rfl, hZ, hh⟩ := hP
  have hx := Bd.exec
  have hby := Bd.bytes
  have hml : c.maxLocals = 2 := hml0
  have hown : s.vm.findClass "java/util/ArrayList" = some m.cls := findClass_of_methodNamed Bd.named
  have X0 : Stand p l e ({ frames := 2, cells := 0, slots := 0, locals := 27 } : Room) s m #[(.ref a0), (.int p1)] below meth c s₁ [] 0 0 := Stand.of_body Bd
  have e0 : s₁.heap = h0 := by rw [← hh, Bd.state]; rfl
  have N0 := Fr.nil n0
  have K0 : Keep h0 h0 [] := Keep.refl h0 []
  refine og (B := s₁.setTop (mkF m 0 #[rv a0, iv p1] [])) (fun t k => castTop (ef_get m a0 p1) k) ?_
  refine og (B := s₁.setTop (mkF m 2 #[rv a0, iv p1] [(.ref a0), (.int p1)])) (fun t k => ?_) ?_
  · refine XS.iloadN X0.here hx rfl (hb hby d16_0) rfl ?_
    refine XS.aloadN X0.here hx rfl (hb hby d16_1) rfl rfl ?_
    exact k
  obtain ⟨T_1, X_1, e_1, st_1⟩ := getF X0 hx hZ hown (host := "") (Or.inl (ow hw 67 rfl)) Via.refl e0 F_size_a0 (g := (mkF m 2 #[rv a0, iv p1] [(.ref a0), (.int p1)])) rfl rfl (hb hby d16_2)
  refine og (fun t k => st_1 t k) ?_
  obtain ⟨_, _, ⟨T_2, L_2, k_2, n_2⟩, -, X_2, ⟨Lc_2, hQ_2, l_2, y_2, z_2⟩, st_2⟩ := Jvm.LawKit.callS X_1 hx (y := own_m18) hown (mvT hZ (ow hw 118 rfl)) (mvT hZ (ow hw 119 rfl)) (mvT hZ (ow hw 120 rfl)) (mvT hZ (ow hw 121 rfl)) (by decide) (backOf (W := 0) (rmock l Z av0 hw [] p1  h0 n0 Z0 hi0 hi1) hZ (ow hw 121 rfl) (ow hw 120 rfl) (by decide) (by decide)) (g := (mkF m 5 #[rv a0, iv p1] [(.int 5), (.int p1)])) rfl (by rw [hml]; rfl) (argsL := [(.int p1), (.int 5)]) (rest := []) (lenOf pd_1 rfl) rfl (by show 2 * 0 + _ ≤ _; exact Nat.le_of_eq rfl) (hb hby d16_5) (fun _ _ => ⟨rfl, e_1, (by decide : 0 + 0 ≤ _), (by decide : 0 + 0 ≤ _)⟩)
  dsimp only [Pt.U, Pt.locs, Pt.cells, Pt.slots] at X_2 l_2 y_2 z_2 st_2 hQ_2
  subst l_2 y_2 z_2
  obtain ⟨rfl, N_2q, e_2⟩ := hQ_2
  have N_2 := Fr.app N0 N_2q
  refine og (fun t k => st_2 t k) ?_
  refine og (B := T_2.setTop (mkF m 11 #[rv a0, iv p1] [(.int p1), (.ref a0)])) (fun t k => ?_) ?_
  · refine XS.pop X_2.here hx rfl (hb hby d16_8) rfl rfl ?_
    refine XS.aloadN X_2.here hx rfl (hb hby d16_9) rfl rfl ?_
    refine XS.iloadN X_2.here hx rfl (hb hby d16_10) rfl ?_
    exact k
  obtain ⟨cq_3, kq_3, q_3a, q_3b, q_3c⟩ := isOf hZ e_2 E_a0
  obtain ⟨_, _, ⟨T_3, L_3, k_3, n_3⟩, -, X_3, ⟨Lc_3, hQ_3, l_3, y_3, z_3⟩, st_3⟩ := X_2.virtualBack hx (y := own_m20) (z := own_m20) hown (mvT hZ (ow hw 126 rfl)) (mvT hZ (ow hw 127 rfl)) (notFace_of_selects (args := #[]) (mvT hZ (ow hw 129 rfl))) (mvT hZ (ow hw 129 rfl)) (mvT hZ (ow hw 128 rfl)) (by decide) (backOf (W := 0) (rmedb l Z av0 hw [] a0 p1 ed kd ca0 ca1 ca2 ca3 ca4 cx h0 n0 Z0 F_elementData_a0 VE hib hgv) hZ (ow hw 130 rfl) (ow hw 19 rfl) (by decide) (by decide)) q_3a q_3c (g := (mkF m 11 #[rv a0, iv p1] [(.int p1), (.ref a0)])) rfl (by rw [hml]; rfl) (Steps.refl _) (argsL := [(.int p1)]) (rest := []) (lenOf pd_9 rfl) rfl (by show 2 * 0 + _ ≤ _; exact Nat.le_of_eq rfl) (hb hby d16_11) (fun _ _ => ⟨rfl, e_2, (by decide : 0 + 0 ≤ _), (by decide : 0 + 0 ≤ _)⟩)
  dsimp only [Pt.U, Pt.locs, Pt.cells, Pt.slots] at X_3 l_3 y_3 z_3 st_3 hQ_3
  subst l_3 y_3 z_3
  obtain ⟨rfl, N_3q, e_3⟩ := hQ_3
  have N_3 := Fr.app N_2 N_3q
  refine og (fun t k => st_3.trans k) ?_
  obtain ⟨fs, hr, hrun, hended, hW, hsame⟩ := X_3.leave (v := some (.ref cx)) (fun h => by rw [Bd.returns] at h; cases h)
  refine ⟨_, _, ?_, hrun, hended, _, _, rfl, ?_, ⟨_, rfl⟩, hW, hsame.mono (by decide) (by decide)⟩
  · show Steps p.tables e below (T_3.setTop (mkF m 14 #[rv a0, iv p1] [(.ref cx)])) _
    jvm_step X_3.here [X_3.here.top, hx, (hb hby d16_14), X_3.method', Bd.returns, Value.isRef, FieldType.isReference]
    first | (intro acts; rw [hr _ acts rfl rfl rfl]) | rw [hr _ _ rfl rfl rfl]
    exact Steps.refl _
  · show Qget Z a0 p1 ed kd ca0 ca1 ca2 ca3 ca4 cx h0 n0 _ T_3.heap _
    rw [e_3]
    exact ⟨rfl, N_3, rfl⟩
theorem own_st {c : Prop} [Decidable c] {z b B0 B1 : Int32} {g G0 G1 : UInt64} (h1 : z = (if c then (0 : Int32) else (1 : Int32))) (h2 : b = (if z = (0 : Int32) then B1 else B0)) (h3 : g = (if z = (0 : Int32) then G1 else G0)) : (c → b = B1 ∧ g = G1) ∧ (¬ c → b = B0 ∧ g = G0) := by
  refine ⟨fun h => ?_, fun h => ?_⟩
  · rw [if_pos h] at h1; subst h1; exact ⟨h2, h3⟩
  · rw [if_neg h] at h1; subst h1; exact ⟨h2, h3⟩
theorem own_or {α : Type} {c : Prop} [Decidable c] {z a b : α} (h : z = (if c then a else b)) : z = a ∨ z = b := by
  by_cases hc : c
  · rw [if_pos hc] at h; exact Or.inl h
  · rw [if_neg hc] at h; exact Or.inr h
def own_rl (b1 b2 : Int32) : List Value := (([(.int (-1)), (.int (-1)), (.int (-1)), (.int (-1)), (.int 0)] : List Value).set (b1).toNatClampNeg (.int 1)).set (b2).toNatClampNeg (.int 2)
theorem own_ib {b x y : Int32} (h : b = x ∨ b = y) (hx : ¬ x < (0 : Int32) ∧ x < (16 : Int32)) (hy : ¬ y < (0 : Int32) ∧ y < (16 : Int32)) : ¬ b < (0 : Int32) ∧ b < (16 : Int32) := by
  rcases h with rfl | rfl
  · exact hx
  · exact hy
theorem own_i5 {b x y : Int32} {n : Nat} (h : b = x ∨ b = y) (hx : (x).toNatClampNeg < n) (hy : (y).toNatClampNeg < n) : (b).toNatClampNeg < n := by
  rcases h with rfl | rfl
  · exact hx
  · exact hy
theorem d15_0 : decode prog_36_method_8_code 0 = .ok (.iconst 2, 1) := by decide +kernel
theorem d15_1 : decode prog_36_method_8_code 1 = .ok (.aload_n 0, 1) := by decide +kernel
theorem d15_2 : decode prog_36_method_8_code 2 = .ok (.getfield 24, 3) := by decide +kernel
theorem d15_5 : decode prog_36_method_8_code 5 = .ok (.imul, 1) := by decide +kernel
theorem d15_6 : decode prog_36_method_8_code 6 = .ok (.istore_n 1, 1) := by decide +kernel
theorem d15_7 : decode prog_36_method_8_code 7 = .ok (.aload_n 0, 1) := by decide +kernel
theorem d15_8 : decode prog_36_method_8_code 8 = .ok (.getfield 10, 3) := by decide +kernel
theorem d15_11 : decode prog_36_method_8_code 11 = .ok (.iload_n 1, 1) := by decide +kernel
theorem d15_12 : decode prog_36_method_8_code 12 = .ok (.invokeinterface 72 2, 5) := by decide +kernel
theorem d15_17 : decode prog_36_method_8_code 17 = .ok (.checkcast 76, 3) := by decide +kernel
theorem d15_20 : decode prog_36_method_8_code 20 = .ok (.astore_n 2, 1) := by decide +kernel
theorem d15_21 : decode prog_36_method_8_code 21 = .ok (.aload_n 0, 1) := by decide +kernel
theorem d15_22 : decode prog_36_method_8_code 22 = .ok (.getfield 31, 3) := by decide +kernel
theorem d15_25 : decode prog_36_method_8_code 25 = .ok (.iconst 0, 1) := by decide +kernel
theorem d15_26 : decode prog_36_method_8_code 26 = .ok (.iload_n 1, 1) := by decide +kernel
theorem d15_27 : decode prog_36_method_8_code 27 = .ok (.iastore, 1) := by decide +kernel
theorem d15_28 : decode prog_36_method_8_code 28 = .ok (.aload_n 0, 1) := by decide +kernel
theorem d15_29 : decode prog_36_method_8_code 29 = .ok (.aload_n 0, 1) := by decide +kernel
theorem d15_30 : decode prog_36_method_8_code 30 = .ok (.getfield 28, 3) := by decide +kernel
theorem d15_33 : decode prog_36_method_8_code 33 = .ok (.newarray .double, 2) := by decide +kernel
theorem d15_35 : decode prog_36_method_8_code 35 = .ok (.putfield 85, 3) := by decide +kernel
theorem d15_38 : decode prog_36_method_8_code 38 = .ok (.aload_n 0, 1) := by decide +kernel
theorem d15_39 : decode prog_36_method_8_code 39 = .ok (.getfield 85, 3) := by decide +kernel
theorem d15_42 : decode prog_36_method_8_code 42 = .ok (.iconst 0, 1) := by decide +kernel
theorem d15_43 : decode prog_36_method_8_code 43 = .ok (.dconst 1, 1) := by decide +kernel
theorem d15_44 : decode prog_36_method_8_code 44 = .ok (.dastore, 1) := by decide +kernel
theorem d15_45 : decode prog_36_method_8_code 45 = .ok (.aload_n 0, 1) := by decide +kernel
theorem d15_46 : decode prog_36_method_8_code 46 = .ok (.aload_n 0, 1) := by decide +kernel
theorem d15_47 : decode prog_36_method_8_code 47 = .ok (.getfield 28, 3) := by decide +kernel
theorem d15_50 : decode prog_36_method_8_code 50 = .ok (.aload_n 0, 1) := by decide +kernel
theorem d15_51 : decode prog_36_method_8_code 51 = .ok (.getfield 28, 3) := by decide +kernel
theorem d15_54 : decode prog_36_method_8_code 54 = .ok (.multianewarray 125 2, 4) := by decide +kernel
theorem d15_58 : decode prog_36_method_8_code 58 = .ok (.putfield 40, 3) := by decide +kernel
theorem d15_61 : decode prog_36_method_8_code 61 = .ok (.aload_n 0, 1) := by decide +kernel
theorem d15_62 : decode prog_36_method_8_code 62 = .ok (.getfield 40, 3) := by decide +kernel
theorem d15_65 : decode prog_36_method_8_code 65 = .ok (.iconst 0, 1) := by decide +kernel
theorem d15_66 : decode prog_36_method_8_code 66 = .ok (.aaload, 1) := by decide +kernel
theorem d15_67 : decode prog_36_method_8_code 67 = .ok (.iconst 0, 1) := by decide +kernel
theorem d15_68 : decode prog_36_method_8_code 68 = .ok (.dconst 1, 1) := by decide +kernel
theorem d15_69 : decode prog_36_method_8_code 69 = .ok (.dastore, 1) := by decide +kernel
theorem d15_70 : decode prog_36_method_8_code 70 = .ok (.iconst 0, 1) := by decide +kernel
theorem d15_71 : decode prog_36_method_8_code 71 = .ok (.istore_n 3, 1) := by decide +kernel
theorem d15_72 : decode prog_36_method_8_code 72 = .ok (.iload_n 3, 1) := by decide +kernel
theorem d15_73 : decode prog_36_method_8_code 73 = .ok (.aload_n 0, 1) := by decide +kernel
theorem d15_74 : decode prog_36_method_8_code 74 = .ok (.getfield 24, 3) := by decide +kernel
theorem d15_77 : decode prog_36_method_8_code 77 = .ok (.if_icmp .ge 111, 3) := by decide +kernel
theorem d15_80 : decode prog_36_method_8_code 80 = .ok (.iload_n 3, 1) := by decide +kernel
theorem d15_81 : decode prog_36_method_8_code 81 = .ok (.iconst 1, 1) := by decide +kernel
theorem d15_82 : decode prog_36_method_8_code 82 = .ok (.iadd, 1) := by decide +kernel
theorem d15_83 : decode prog_36_method_8_code 83 = .ok (.istore 4, 2) := by decide +kernel
theorem d15_85 : decode prog_36_method_8_code 85 = .ok (.aload_n 2, 1) := by decide +kernel
theorem d15_86 : decode prog_36_method_8_code 86 = .ok (.iload 4, 2) := by decide +kernel
theorem d15_88 : decode prog_36_method_8_code 88 = .ok (.daload, 1) := by decide +kernel
theorem d15_89 : decode prog_36_method_8_code 89 = .ok (.dconst 0, 1) := by decide +kernel
theorem d15_90 : decode prog_36_method_8_code 90 = .ok (.dcmp .g, 1) := by decide +kernel
theorem d15_91 : decode prog_36_method_8_code 91 = .ok (.ifCond .gt 7, 3) := by decide +kernel
theorem d15_94 : decode prog_36_method_8_code 94 = .ok (.iconst 1, 1) := by decide +kernel
theorem d15_95 : decode prog_36_method_8_code 95 = .ok (.goto 4, 3) := by decide +kernel
theorem d15_98 : decode prog_36_method_8_code 98 = .ok (.iconst 0, 1) := by decide +kernel
theorem d15_99 : decode prog_36_method_8_code 99 = .ok (.istore 5, 2) := by decide +kernel
theorem d15_101 : decode prog_36_method_8_code 101 = .ok (.aload_n 0, 1) := by decide +kernel
theorem d15_102 : decode prog_36_method_8_code 102 = .ok (.getfield 31, 3) := by decide +kernel
theorem d15_105 : decode prog_36_method_8_code 105 = .ok (.iload 4, 2) := by decide +kernel
theorem d15_107 : decode prog_36_method_8_code 107 = .ok (.iload 5, 2) := by decide +kernel
theorem d15_109 : decode prog_36_method_8_code 109 = .ok (.ifCond .eq 9, 3) := by decide +kernel
theorem d15_112 : decode prog_36_method_8_code 112 = .ok (.iconst 2, 1) := by decide +kernel
theorem d15_113 : decode prog_36_method_8_code 113 = .ok (.iload_n 3, 1) := by decide +kernel
theorem d15_114 : decode prog_36_method_8_code 114 = .ok (.imul, 1) := by decide +kernel
theorem d15_115 : decode prog_36_method_8_code 115 = .ok (.goto 8, 3) := by decide +kernel
theorem d15_118 : decode prog_36_method_8_code 118 = .ok (.iconst 2, 1) := by decide +kernel
theorem d15_119 : decode prog_36_method_8_code 119 = .ok (.iload_n 3, 1) := by decide +kernel
theorem d15_120 : decode prog_36_method_8_code 120 = .ok (.imul, 1) := by decide +kernel
theorem d15_121 : decode prog_36_method_8_code 121 = .ok (.iconst 1, 1) := by decide +kernel
theorem d15_122 : decode prog_36_method_8_code 122 = .ok (.iadd, 1) := by decide +kernel
theorem d15_123 : decode prog_36_method_8_code 123 = .ok (.iastore, 1) := by decide +kernel
theorem d15_124 : decode prog_36_method_8_code 124 = .ok (.iload 5, 2) := by decide +kernel
theorem d15_126 : decode prog_36_method_8_code 126 = .ok (.ifCond .eq 7, 3) := by decide +kernel
theorem d15_129 : decode prog_36_method_8_code 129 = .ok (.dconst 1, 1) := by decide +kernel
theorem d15_130 : decode prog_36_method_8_code 130 = .ok (.goto 6, 3) := by decide +kernel
theorem d15_133 : decode prog_36_method_8_code 133 = .ok (.ldc2_w 38, 3) := by decide +kernel
theorem d15_136 : decode prog_36_method_8_code 136 = .ok (.dstore 6, 2) := by decide +kernel
theorem d15_138 : decode prog_36_method_8_code 138 = .ok (.aload_n 0, 1) := by decide +kernel
theorem d15_139 : decode prog_36_method_8_code 139 = .ok (.getfield 85, 3) := by decide +kernel
theorem d15_142 : decode prog_36_method_8_code 142 = .ok (.iload 4, 2) := by decide +kernel
theorem d15_144 : decode prog_36_method_8_code 144 = .ok (.aload_n 2, 1) := by decide +kernel
theorem d15_145 : decode prog_36_method_8_code 145 = .ok (.iload 4, 2) := by decide +kernel
theorem d15_147 : decode prog_36_method_8_code 147 = .ok (.daload, 1) := by decide +kernel
theorem d15_148 : decode prog_36_method_8_code 148 = .ok (.dneg, 1) := by decide +kernel
theorem d15_149 : decode prog_36_method_8_code 149 = .ok (.dload 6, 2) := by decide +kernel
theorem d15_151 : decode prog_36_method_8_code 151 = .ok (.dmul, 1) := by decide +kernel
theorem d15_152 : decode prog_36_method_8_code 152 = .ok (.dastore, 1) := by decide +kernel
theorem d15_153 : decode prog_36_method_8_code 153 = .ok (.aload_n 0, 1) := by decide +kernel
theorem d15_154 : decode prog_36_method_8_code 154 = .ok (.getfield 40, 3) := by decide +kernel
theorem d15_157 : decode prog_36_method_8_code 157 = .ok (.iload 4, 2) := by decide +kernel
theorem d15_159 : decode prog_36_method_8_code 159 = .ok (.aaload, 1) := by decide +kernel
theorem d15_160 : decode prog_36_method_8_code 160 = .ok (.iconst 0, 1) := by decide +kernel
theorem d15_161 : decode prog_36_method_8_code 161 = .ok (.aload_n 2, 1) := by decide +kernel
theorem d15_162 : decode prog_36_method_8_code 162 = .ok (.iload 4, 2) := by decide +kernel
theorem d15_164 : decode prog_36_method_8_code 164 = .ok (.daload, 1) := by decide +kernel
theorem d15_165 : decode prog_36_method_8_code 165 = .ok (.dneg, 1) := by decide +kernel
theorem d15_166 : decode prog_36_method_8_code 166 = .ok (.dload 6, 2) := by decide +kernel
theorem d15_168 : decode prog_36_method_8_code 168 = .ok (.dmul, 1) := by decide +kernel
theorem d15_169 : decode prog_36_method_8_code 169 = .ok (.dastore, 1) := by decide +kernel
theorem d15_170 : decode prog_36_method_8_code 170 = .ok (.aload_n 0, 1) := by decide +kernel
theorem d15_171 : decode prog_36_method_8_code 171 = .ok (.getfield 40, 3) := by decide +kernel
theorem d15_174 : decode prog_36_method_8_code 174 = .ok (.iload 4, 2) := by decide +kernel
theorem d15_176 : decode prog_36_method_8_code 176 = .ok (.aaload, 1) := by decide +kernel
theorem d15_177 : decode prog_36_method_8_code 177 = .ok (.iload 4, 2) := by decide +kernel
theorem d15_179 : decode prog_36_method_8_code 179 = .ok (.dload 6, 2) := by decide +kernel
theorem d15_181 : decode prog_36_method_8_code 181 = .ok (.dastore, 1) := by decide +kernel
theorem d15_182 : decode prog_36_method_8_code 182 = .ok (.iinc 3 1, 3) := by decide +kernel
theorem d15_185 : decode prog_36_method_8_code 185 = .ok (.goto (-113), 3) := by decide +kernel
theorem d15_188 : decode prog_36_method_8_code 188 = .ok (.iconst 0, 1) := by decide +kernel
theorem d15_189 : decode prog_36_method_8_code 189 = .ok (.istore_n 3, 1) := by decide +kernel
theorem d15_190 : decode prog_36_method_8_code 190 = .ok (.iload_n 3, 1) := by decide +kernel
theorem d15_191 : decode prog_36_method_8_code 191 = .ok (.aload_n 0, 1) := by decide +kernel
theorem d15_192 : decode prog_36_method_8_code 192 = .ok (.getfield 28, 3) := by decide +kernel
theorem d15_195 : decode prog_36_method_8_code 195 = .ok (.if_icmp .ge 21, 3) := by decide +kernel
theorem d15_198 : decode prog_36_method_8_code 198 = .ok (.aload_n 0, 1) := by decide +kernel
theorem d15_199 : decode prog_36_method_8_code 199 = .ok (.getfield 20, 3) := by decide +kernel
theorem d15_202 : decode prog_36_method_8_code 202 = .ok (.aload_n 0, 1) := by decide +kernel
theorem d15_203 : decode prog_36_method_8_code 203 = .ok (.getfield 31, 3) := by decide +kernel
theorem d15_206 : decode prog_36_method_8_code 206 = .ok (.iload_n 3, 1) := by decide +kernel
theorem d15_207 : decode prog_36_method_8_code 207 = .ok (.iaload, 1) := by decide +kernel
theorem d15_208 : decode prog_36_method_8_code 208 = .ok (.iload_n 3, 1) := by decide +kernel
theorem d15_209 : decode prog_36_method_8_code 209 = .ok (.iastore, 1) := by decide +kernel
theorem d15_210 : decode prog_36_method_8_code 210 = .ok (.iinc 3 1, 3) := by decide +kernel
theorem d15_213 : decode prog_36_method_8_code 213 = .ok (.goto (-23), 3) := by decide +kernel
theorem d15_216 : decode prog_36_method_8_code 216 = .ok (.return_, 1) := by decide +kernel
theorem pn_15 : plainName "com/example/ballast/ballast/placement/CuttingPlanes" = true := by first | (simp [plainName, overriddenIn]; done) | decide +kernel
theorem ef_sta (m : MethodId) (a0 : Addr) : entryFrame m #[(.ref a0)] 8 = mkF m 0 #[rv a0, oU, oU, oU, oU, oU, oU, oU] [] := by first | (simp [entryFrame, mkF, argsToLocals, Value.category]; done) | rfl
def Qsta (Z : State) (a0 : Addr) (al : Addr) (va : Addr) (ro : Addr) (ba : Addr) (ca0 : Addr) (ed : Addr) (ca1 : Addr) (ca2 : Addr) (ca3 : Addr) (ca4 : Addr) (kd : ClassId) (kr : ClassId) (kq : ClassId) (kc4 : ClassId) (cd0 : UInt64) (cd1 : UInt64) (u7 : Value) (u8 : Value) (h0 : Heap) (n0 : Nat) (v : Option Value) (h : Heap) (L : List Loc) : Prop := ∃ (iv_ y0 y1 y2 : Addr) (ki kj : ClassId) (b1 b2 : Int32) (g0 g1 : UInt64), v = none ∧ Fr n0 L ∧ Keep h0 h [a0, ro, ba] ∧ h0.size ≤ iv_ ∧ iv_ < y0 ∧ y0 < y1 ∧ y1 < y2 ∧ (((0 : Int32) < (cmpValue (FP.dcmp cd0 0) .g) → b1 = 1 ∧ g0 = 13830554455654793216) ∧ (¬ ((0 : Int32) < (cmpValue (FP.dcmp cd0 0) .g)) → b1 = 0 ∧ g0 = 4607182418800017408)) ∧ (((0 : Int32) < (cmpValue (FP.dcmp cd1 0) .g) → b2 = 3 ∧ g1 = 13830554455654793216) ∧ (¬ ((0 : Int32) < (cmpValue (FP.dcmp cd1 0) .g)) → b2 = 2 ∧ g1 = 4607182418800017408)) ∧ Fld Z h a0 "com/example/ballast/ballast/placement/CuttingPlanes" "columns" "Ljava/util/List;" (.ref al) ∧ Fld Z h a0 "com/example/ballast/ballast/placement/CuttingPlanes" "values" "[D" (.ref va) ∧ Fld Z h a0 "com/example/ballast/ballast/placement/CuttingPlanes" "rowOf" "[I" (.ref ro) ∧ Fld Z h a0 "com/example/ballast/ballast/placement/CuttingPlanes" "dimensions" "I" (.int 2) ∧ Fld Z h a0 "com/example/ballast/ballast/placement/CuttingPlanes" "rows" "I" (.int 3) ∧ Fld Z h a0 "com/example/ballast/ballast/placement/CuttingPlanes" "basis" "[I" (.ref ba) ∧ Fld Z h a0 "com/example/ballast/ballast/placement/CuttingPlanes" "inverse" "[[D" (.ref iv_) ∧ Fld Z h a0 "com/example/ballast/ballast/placement/CuttingPlanes" "multipliers" "[D" u8 ∧ Arv Z h ro kr .int (16 : Int32) (own_rl b1 b2) (.int (0 : Int32)) ∧ Arv Z h ba kq .int (3 : Int32) [(.int 4), (.int b1), (.int b2)] (.int (0 : Int32)) ∧ Arv Z h iv_ ki (.array .double) (3 : Int32) [(.ref y0), (.ref y1), (.ref y2)] .null ∧ Arv Z h y0 kj .double (3 : Int32) [(.double 4607182418800017408), (.double 0), (.double 0)] (.double 0) ∧ Arv Z h y1 kj .double (3 : Int32) [(.double (FP.dmul (FP.dneg cd0) g0)), (.double g0), (.double 0)] (.double 0) ∧ Arv Z h y2 kj .double (3 : Int32) [(.double (FP.dmul (FP.dneg cd1) g1)), (.double 0), (.double g1)] (.double 0)
theorem rmsta (l : Launch) (Z : State) (av0 : Array Value) (hw : ∀ d ∈ tables_1, d.before av0 Z = true) (ws : List Jvm.Cond) (a0 : Addr) (al : Addr) (va : Addr) (ro : Addr) (ba : Addr) (ca0 : Addr) (ed : Addr) (ca1 : Addr) (ca2 : Addr) (ca3 : Addr) (ca4 : Addr) (kd : ClassId) (kr : ClassId) (kq : ClassId) (kc4 : ClassId) (cd0 : UInt64) (cd1 : UInt64) (u7 : Value) (u8 : Value) (h0 : Heap) (n0 : Nat) (Z0 : n0 ≤ h0.size) (E_a0 : Exa Z h0 a0 "com/example/ballast/ballast/placement/CuttingPlanes") (P0 : Fld Z h0 a0 "com/example/ballast/ballast/placement/CuttingPlanes" "columns" "Ljava/util/List;" (.ref al)) (P1 : Fld Z h0 a0 "com/example/ballast/ballast/placement/CuttingPlanes" "values" "[D" (.ref va)) (P2 : Fld Z h0 a0 "com/example/ballast/ballast/placement/CuttingPlanes" "rowOf" "[I" (.ref ro)) (P3 : Fld Z h0 a0 "com/example/ballast/ballast/placement/CuttingPlanes" "dimensions" "I" (.int 2)) (P4 : Fld Z h0 a0 "com/example/ballast/ballast/placement/CuttingPlanes" "rows" "I" (.int 3)) (P5 : Fld Z h0 a0 "com/example/ballast/ballast/placement/CuttingPlanes" "basis" "[I" (.ref ba)) (P6 : Fld Z h0 a0 "com/example/ballast/ballast/placement/CuttingPlanes" "inverse" "[[D" .null) (P7 : Fld Z h0 a0 "com/example/ballast/ballast/placement/CuttingPlanes" "basic" "[D" u7) (P8 : Fld Z h0 a0 "com/example/ballast/ballast/placement/CuttingPlanes" "multipliers" "[D" u8) (P9 : Exa Z h0 al "java/util/ArrayList") (P11 : Fld Z h0 al "java/util/ArrayList" "elementData" "[Ljava/lang/Object;" (.ref ed)) (P12 : Fld Z h0 al "java/util/ArrayList" "size" "I" (.int (5 : Int32))) (P13 : Arv Z h0 ed kd (.object "java/lang/Object") (10 : Int32) [(.ref ca0), (.ref ca1), (.ref ca2), (.ref ca3), (.ref ca4)] .null) (P16 : Arv Z h0 ro kr .int (16 : Int32) [(.int (-1)), (.int (-1)), (.int (-1)), (.int (-1)), (.int (-1))] (.int (0 : Int32))) (P17 : Arv Z h0 ba kq .int (3 : Int32) [(.int 0), (.int 0), (.int 0)] (.int (0 : Int32))) (P26 : Exa Z h0 ca4 "[D") (P27 : Arv Z h0 ca4 kc4 .double (3 : Int32) [(.double 4607182418800017408), (.double cd0), (.double cd1)] (.double 0)) (g_a0 : n0 ≤ a0) (lt_a0_ro : a0 < ro) (lt_ro_ba : ro < ba) (lt_ba_ca4 : ba < ca4) (hn0 : ∀ z : UInt64, z = 13830554455654793216 ∨ z = 4607182418800017408 → Jvm.Free.Fl.NoNaN64 (FP.dmul (FP.dneg cd0) z)) (hn1 : ∀ z : UInt64, z = 13830554455654793216 ∨ z = 4607182418800017408 → Jvm.Free.Fl.NoNaN64 (FP.dmul (FP.dneg cd1) z)) :
    MetFree l own_m16 (head1 (Jvm.Cond.code own_m16 prog_36_method_8_code 8 none :: ws) ({ frames := 3, cells := 5, slots := 15, locals := 40 } : Room)) (fun a U => a = #[(.ref a0)] ∧ Z.Warmed39 U.vm ∧ U.heap = h0) (fun _ _ _ _ _ => True) (fun _ U o U' => ∃ v L, o = .returned v ∧ Qsta Z a0 al va ro ba ca0 ed ca1 ca2 ca3 ca4 kd kr kq kc4 cd0 cd1 u7 u8 h0 n0 v U'.heap L ∧ FrameEnd U o U' L ({ frames := 3, cells := 5, slots := 15, locals := 40 } : Room).cells ({ frames := 3, cells := 5, slots := 15, locals := 40 } : Room).slots) := by
  refine MetFree.of_bodySF (plainFor_of_name pn_15) hisR ?_
  intro p e s m args below meth c s₁ Bd hml0 hP hK
  obtain ⟨rfl, hZ, hh⟩ := hP
  have hx := Bd.exec
  have hby := Bd.bytes
  have hml : c.maxLocals = 8 := hml0
  have hown : s.vm.findClass "com/example/ballast/ballast/placement/CuttingPlanes" = some m.cls := findClass_of_methodNamed Bd.named
  have X0 : Stand p l e ({ frames := 3, cells := 5, slots := 15, locals := 40 } : Room) s m #[(.ref a0)] below meth c s₁ [] 0 0 := Stand.of_body Bd
  have e0 : s₁.heap = h0 := by rw [← hh, Bd.state]; rfl
  have N0 := Fr.nil n0
  have g_ro : n0 ≤ ro := Nat.le_trans g_a0 (Nat.le_of_lt lt_a0_ro)
  have ne_a0_ro := Nat.ne_of_lt lt_a0_ro
  have g_ba : n0 ≤ ba := Nat.le_trans g_ro (Nat.le_of_lt lt_ro_ba)
  have lt_a0_ba := Nat.lt_trans lt_a0_ro lt_ro_ba
  have ne_a0_ba := Nat.ne_of_lt lt_a0_ba
  have ne_ro_ba := Nat.ne_of_lt lt_ro_ba
  have g_ca4 : n0 ≤ ca4 := Nat.le_trans g_ba (Nat.le_of_lt lt_ba_ca4)
  have lt_a0_ca4 := Nat.lt_trans lt_a0_ba lt_ba_ca4
  have ne_a0_ca4 := Nat.ne_of_lt lt_a0_ca4
  have lt_ro_ca4 := Nat.lt_trans lt_ro_ba lt_ba_ca4
  have ne_ro_ca4 := Nat.ne_of_lt lt_ro_ca4
  have ne_ba_ca4 := Nat.ne_of_lt lt_ba_ca4
  have K0 : Keep h0 h0 [a0, ro, ba] := Keep.refl h0 [a0, ro, ba]
  refine og (B := s₁.setTop (mkF m 0 #[rv a0, oU, oU, oU, oU, oU, oU, oU] [])) (fun t k => castTop (ef_sta m a0) k) ?_
  refine og (B := s₁.setTop (mkF m 2 #[rv a0, oU, oU, oU, oU, oU, oU, oU] [(.ref a0), (.int 2)])) (fun t k => ?_) ?_
  · refine XS.iconst X0.here hx rfl (hb hby d15_0) ?_
    refine XS.aloadN X0.here hx rfl (hb hby d15_1) rfl rfl ?_
    exact k
  obtain ⟨T_1, X_1, e_1, st_1⟩ := getF X0 hx hZ hown (host := "") (Or.inl (ow hw 48 rfl)) Via.refl e0 P3 (g := (mkF m 2 #[rv a0, oU, oU, oU, oU, oU, oU, oU] [(.ref a0), (.int 2)])) rfl rfl (hb hby d15_2)
  refine og (fun t k => st_1 t k) ?_
  refine og (B := T_1.setTop (mkF m 8 #[rv a0, iv 4, oU, oU, oU, oU, oU, oU] [(.ref a0)])) (fun t k => ?_) ?_
  · refine XS.imul X_1.here hx rfl (hb hby d15_5) rfl ?_
    refine XS.istoreN X_1.here hx rfl (hb hby d15_6) rfl (l' := #[rv a0, iv 4, oU, oU, oU, oU, oU, oU]) rfl ?_
    refine XS.aloadN X_1.here hx rfl (hb hby d15_7) rfl rfl ?_
    exact k
  obtain ⟨T_2, X_2, e_2, st_2⟩ := getF X_1 hx hZ hown (host := "") (Or.inl (ow hw 41 rfl)) Via.refl e_1 P0 (g := (mkF m 8 #[rv a0, iv 4, oU, oU, oU, oU, oU, oU] [(.ref a0)])) rfl rfl (hb hby d15_8)
  refine og (fun t k => st_2 t k) ?_
  refine og (B := T_2.setTop (mkF m 12 #[rv a0, iv 4, oU, oU, oU, oU, oU, oU] [(.int 4), (.ref al)])) (fun t k => ?_) ?_
  · refine XS.iloadN X_2.here hx rfl (hb hby d15_11) rfl ?_
    exact k
  obtain ⟨cq_3, kq_3, q_3a, q_3b, q_3c⟩ := isOf hZ e_2 P9
  obtain ⟨_, _, ⟨T_3, L_3, k_3, n_3⟩, -, X_3, ⟨Lc_3, hQ_3, l_3, y_3, z_3⟩, st_3⟩ := X_2.interfaceBack hx (xi := own_m32) (y := own_m17) hown (mvT hZ (ow hw 110 rfl)) (mvT hZ (ow hw 111 rfl)) (mvT hZ (ow hw 112 rfl)) (mvT hZ (ow hw 113 rfl)) (mvT hZ (ow hw 114 rfl)) (mvT hZ (ow hw 115 rfl)) (mvT hZ (ow hw 116 rfl)) (mvT hZ (ow hw 65 rfl)) (by decide) (backOf (W := 0) (rmget l Z av0 hw [] al (4 : Int32) ed kd ca0 ca1 ca2 ca3 ca4 ca4 h0 n0 Z0 P9 P11 P12 P13 (by decide) (by decide) ⟨by decide, by decide⟩ rfl) hZ (ow hw 117 rfl) (ow hw 19 rfl) (by decide) (by decide)) q_3a q_3b q_3c (g := (mkF m 12 #[rv a0, iv 4, oU, oU, oU, oU, oU, oU] [(.int 4), (.ref al)])) rfl (by rw [hml]; rfl) (Steps.refl _) (argsL := [(.int 4)]) (rest := []) (lenOf pd_9 rfl) rfl (by show 2 * 0 + _ ≤ _; exact Nat.le_of_eq rfl) (hb hby d15_12) (fun _ _ => ⟨rfl, e_2, (by decide : 0 + 0 ≤ _), (by decide : 0 + 0 ≤ _)⟩)
  dsimp only [Pt.U, Pt.locs, Pt.cells, Pt.slots] at X_3 l_3 y_3 z_3 st_3 hQ_3
  subst l_3 y_3 z_3
  obtain ⟨rfl, N_3q, e_3⟩ := hQ_3
  have N_3 := Fr.app N0 N_3q
  refine og (fun t k => st_3.trans k) ?_
  obtain ⟨T_4, X_4, e_4, st_4⟩ := castY X_3 hx hZ hown (ow hw 131 rfl) e_3 (Ins.self P26) (g := (mkF m 17 #[rv a0, iv 4, oU, oU, oU, oU, oU, oU] [(.ref ca4)])) rfl rfl (hb hby d15_17)
  refine og (fun t k => st_4 t k) ?_
  refine og (B := T_4.setTop (mkF m 22 #[rv a0, iv 4, rv ca4, oU, oU, oU, oU, oU] [(.ref a0)])) (fun t k => ?_) ?_
  · refine XS.astoreN X_4.here hx rfl (hb hby d15_20) rfl rfl (l' := #[rv a0, iv 4, rv ca4, oU, oU, oU, oU, oU]) rfl ?_
    refine XS.aloadN X_4.here hx rfl (hb hby d15_21) rfl rfl ?_
    exact k
  obtain ⟨T_5, X_5, e_5, st_5⟩ := getF X_4 hx hZ hown (host := "") (Or.inl (ow hw 52 rfl)) Via.refl e_4 P5 (g := (mkF m 22 #[rv a0, iv 4, rv ca4, oU, oU, oU, oU, oU] [(.ref a0)])) rfl rfl (hb hby d15_22)
  refine og (fun t k => st_5 t k) ?_
  refine og (B := T_5.setTop (mkF m 27 #[rv a0, iv 4, rv ca4, oU, oU, oU, oU, oU] [(.int 4), (.int 0), (.ref ba)])) (fun t k => ?_) ?_
  · refine XS.iconst X_5.here hx rfl (hb hby d15_25) ?_
    refine XS.iloadN X_5.here hx rfl (hb hby d15_26) rfl ?_
    exact k
  obtain ⟨cl_6, Ar_6, q_6, S_6, M_6, H_6, G_6⟩ := id P17
  have hin_6 : ¬ ((0 : Int32) < 0 ∨ cl_6.slots.size ≤ ((0 : Int32)).toNatClampNeg) := inb_of S_6 ⟨by decide, by decide⟩
  obtain ⟨T_6, h_6, X_6, e_6, W_6, st_6⟩ := stI X_5 hx hZ e_5 Ar_6 (j := (0 : Int32)) hin_6 (g := (mkF m 27 #[rv a0, iv 4, rv ca4, oU, oU, oU, oU, oU] [(.int 4), (.int 0), (.ref ba)])) rfl rfl (hb hby d15_27)
  have c1 := K0.wr W_6 (Or.inl (List.mem_of_getElem? (i := 2) rfl))
  have c2 := E_a0.wr W_6
  have c3 := P0.other W_6 (Or.inl ne_a0_ba)
  have c4 := P1.other W_6 (Or.inl ne_a0_ba)
  have c5 := P2.other W_6 (Or.inl ne_a0_ba)
  have c6 := P3.other W_6 (Or.inl ne_a0_ba)
  have c7 := P4.other W_6 (Or.inl ne_a0_ba)
  have c8 := P5.other W_6 (Or.inl ne_a0_ba)
  have c9 := P6.other W_6 (Or.inl ne_a0_ba)
  have c10 := P7.other W_6 (Or.inl ne_a0_ba)
  have c11 := P8.other W_6 (Or.inl ne_a0_ba)
  have c12 := P16.other W_6 ne_ro_ba
  have c13 := P26.wr W_6
  have c14 := P27.other W_6 (Ne.symm ne_ba_ca4)
  have V_6 : Arv Z h_6 ba kq .int (3 : Int32) [(.int 4), (.int 0), (.int 0)] (.int (0 : Int32)) := Arv.set Ar_6 q_6 S_6 M_6 H_6 G_6 rfl W_6 0 rfl (Nat.le_of_ble_eq_true rfl)
  have N_6 := Fr.snoc X_6 N_3 g_ba
  have Z0__6 : n0 ≤ h_6.size := by rw [W_6.size]; exact Z0
  refine og (fun t k => st_6 t k) ?_
  refine og (B := T_6.setTop (mkF m 30 #[rv a0, iv 4, rv ca4, oU, oU, oU, oU, oU] [(.ref a0), (.ref a0)])) (fun t k => ?_) ?_
  · refine XS.aloadN X_6.here hx rfl (hb hby d15_28) rfl rfl ?_
    refine XS.aloadN X_6.here hx rfl (hb hby d15_29) rfl rfl ?_
    exact k
  obtain ⟨T_7, X_7, e_7, st_7⟩ := getF X_6 hx hZ hown (host := "") (Or.inl (ow hw 50 rfl)) Via.refl e_6 c7 (g := (mkF m 30 #[rv a0, iv 4, rv ca4, oU, oU, oU, oU, oU] [(.ref a0), (.ref a0)])) rfl rfl (hb hby d15_30)
  refine og (fun t k => st_7 t k) ?_
  obtain ⟨T_8, h_8, k_8, X_8, e_8, E_8, A_8, Q_8, st_8⟩ := newPE X_7 hx hZ (ow hw 10 rfl) e_7 (g := (mkF m 33 #[rv a0, iv 4, rv ca4, oU, oU, oU, oU, oU] [(.int 3), (.ref a0)])) rfl (hb hby d15_33) rfl (by decide) (cap := 3) (by decide) (by decide) (by decide) (by decide) (ad := "[D") (by decide)
  obtain ⟨b_8, g_8⟩ : ∃ z, z = h_6.size := ⟨_, rfl⟩
  rw [← g_8] at A_8 Q_8 st_8
  have g_b_8 : n0 ≤ b_8 := Nat.le_trans Z0__6 (Nat.le_of_eq g_8.symm)
  have sz_b_8 : h0.size ≤ b_8 := Nat.le_trans c1.1 (Nat.le_of_eq g_8.symm)
  have lt_a0_b_8 : a0 < b_8 := Nat.lt_of_lt_of_le (c2).lt (Nat.le_of_eq g_8.symm)
  have ne_a0_b_8 := Nat.ne_of_lt lt_a0_b_8
  have lt_ro_b_8 : ro < b_8 := Nat.lt_of_lt_of_le (c12).lt (Nat.le_of_eq g_8.symm)
  have ne_ro_b_8 := Nat.ne_of_lt lt_ro_b_8
  have lt_ba_b_8 : ba < b_8 := Nat.lt_of_lt_of_le (V_6).lt (Nat.le_of_eq g_8.symm)
  have ne_ba_b_8 := Nat.ne_of_lt lt_ba_b_8
  have lt_ca4_b_8 : ca4 < b_8 := Nat.lt_of_lt_of_le (c13).lt (Nat.le_of_eq g_8.symm)
  have ne_ca4_b_8 := Nat.ne_of_lt lt_ca4_b_8
  have c15 := c1.ext E_8
  have c16 := c2.ext E_8
  have c17 := c3.ext E_8
  have c18 := c4.ext E_8
  have c19 := c5.ext E_8
  have c20 := c6.ext E_8
  have c21 := c7.ext E_8
  have c22 := c8.ext E_8
  have c23 := c9.ext E_8
  have c24 := c10.ext E_8
  have c25 := c11.ext E_8
  have c26 := c12.ext E_8
  have c27 := V_6.ext E_8
  have c28 := c13.ext E_8
  have c29 := c14.ext E_8
  have Z0__8 : n0 ≤ h_8.size := Nat.le_trans Z0__6 E_8.1
  have V_b_8 : Arv Z h_8 b_8 k_8 .double (3 : Int32) [(.double 0), (.double 0), (.double 0)] (.double 0) := (Arv.new A_8 (by decide)).pad (pad_rep [] (.double 0) 3)
  refine og (fun t k => st_8 t k) ?_
  obtain ⟨T_9, h_9, X_9, e_9, W_9, st_9⟩ := putF X_8 hx hZ hown (host := "") (Or.inl (ow hw 133 rfl)) Via.refl e_8 c24 c16 (Or.inl (ow hw 134 rfl)) (ow hw 8 rfl) (ty := (.array .double)) (by decide) rfl rfl (g := (mkF m 35 #[rv a0, iv 4, rv ca4, oU, oU, oU, oU, oU] [(.ref b_8), (.ref a0)])) rfl rfl (hb hby d15_35)
  have c30 := c15.wr W_9 (Or.inl (List.mem_of_getElem? (i := 0) rfl))
  have c31 := c16.wr W_9
  have c32 := c17.other W_9 (Or.inr (slot_ne (Or.inr (ow hw 42 rfl)) (Or.inl (ow hw 134 rfl)) (by decide) (t := (.object "java/util/List")) (t' := (.array .double)) (by decide) (by decide)))
  have c33 := c18.other W_9 (Or.inr (slot_ne (Or.inl (ow hw 44 rfl)) (Or.inl (ow hw 134 rfl)) (by decide) (t := (.array .double)) (t' := (.array .double)) (by decide) (by decide)))
  have c34 := c19.other W_9 (Or.inr (slot_ne (Or.inl (ow hw 47 rfl)) (Or.inl (ow hw 134 rfl)) (by decide) (t := (.array .int)) (t' := (.array .double)) (by decide) (by decide)))
  have c35 := c20.other W_9 (Or.inr (slot_ne (Or.inr (ow hw 49 rfl)) (Or.inl (ow hw 134 rfl)) (by decide) (t := .int) (t' := (.array .double)) (by decide) (by decide)))
  have c36 := c21.other W_9 (Or.inr (slot_ne (Or.inr (ow hw 51 rfl)) (Or.inl (ow hw 134 rfl)) (by decide) (t := .int) (t' := (.array .double)) (by decide) (by decide)))
  have c37 := c22.other W_9 (Or.inr (slot_ne (Or.inr (ow hw 53 rfl)) (Or.inl (ow hw 134 rfl)) (by decide) (t := (.array .int)) (t' := (.array .double)) (by decide) (by decide)))
  have c38 := c23.other W_9 (Or.inr (slot_ne (Or.inl (ow hw 105 rfl)) (Or.inl (ow hw 134 rfl)) (by decide) (t := (.array (.array .double))) (t' := (.array .double)) (by decide) (by decide)))
  have c39 := c24.same W_9
  have c40 := c25.other W_9 (Or.inr (slot_ne (Or.inl (ow hw 152 rfl)) (Or.inl (ow hw 134 rfl)) (by decide) (t := (.array .double)) (t' := (.array .double)) (by decide) (by decide)))
  have c41 := c26.other W_9 (Ne.symm ne_a0_ro)
  have c42 := c27.other W_9 (Ne.symm ne_a0_ba)
  have c43 := c28.wr W_9
  have c44 := c29.other W_9 (Ne.symm ne_a0_ca4)
  have c45 := Q_8.wr W_9
  have c46 := V_b_8.other W_9 (Ne.symm ne_a0_b_8)
  have N_9 := Fr.snoc X_9 N_6 g_a0
  have Z0__9 : n0 ≤ h_9.size := by rw [W_9.size]; exact Z0__8
  refine og (fun t k => st_9 t k) ?_
  refine og (B := T_9.setTop (mkF m 39 #[rv a0, iv 4, rv ca4, oU, oU, oU, oU, oU] [(.ref a0)])) (fun t k => ?_) ?_
  · refine XS.aloadN X_9.here hx rfl (hb hby d15_38) rfl rfl ?_
    exact k
  obtain ⟨T_10, X_10, e_10, st_10⟩ := getF X_9 hx hZ hown (host := "") (Or.inl (ow hw 133 rfl)) Via.refl e_9 c39 (g := (mkF m 39 #[rv a0, iv 4, rv ca4, oU, oU, oU, oU, oU] [(.ref a0)])) rfl rfl (hb hby d15_39)
  refine og (fun t k => st_10 t k) ?_
  refine og (B := T_10.setTop (mkF m 44 #[rv a0, iv 4, rv ca4, oU, oU, oU, oU, oU] [(.double 4607182418800017408), (.int 0), (.ref b_8)])) (fun t k => ?_) ?_
  · refine XS.iconst X_10.here hx rfl (hb hby d15_42) ?_
    refine XS.dconst1 X_10.here hx rfl (v := 4607182418800017408) (hb hby d15_43) rfl ?_
    exact k
  obtain ⟨cl_11, Ar_11, q_11, S_11, M_11, H_11, G_11⟩ := id c46
  have hin_11 : ¬ ((0 : Int32) < 0 ∨ cl_11.slots.size ≤ ((0 : Int32)).toNatClampNeg) := inb_of S_11 ⟨by decide, by decide⟩
  obtain ⟨T_11, h_11, X_11, e_11, W_11, st_11⟩ := stD X_10 hx hZ e_10 Ar_11 (j := (0 : Int32)) hin_11 (g := (mkF m 44 #[rv a0, iv 4, rv ca4, oU, oU, oU, oU, oU] [(.double 4607182418800017408), (.int 0), (.ref b_8)])) rfl rfl (hb hby d15_44)
  have c47 := c30.wr W_11 (Or.inr sz_b_8)
  have c48 := c31.wr W_11
  have c49 := c32.other W_11 (Or.inl ne_a0_b_8)
  have c50 := c33.other W_11 (Or.inl ne_a0_b_8)
  have c51 := c34.other W_11 (Or.inl ne_a0_b_8)
  have c52 := c35.other W_11 (Or.inl ne_a0_b_8)
  have c53 := c36.other W_11 (Or.inl ne_a0_b_8)
  have c54 := c37.other W_11 (Or.inl ne_a0_b_8)
  have c55 := c38.other W_11 (Or.inl ne_a0_b_8)
  have c56 := c39.other W_11 (Or.inl ne_a0_b_8)
  have c57 := c40.other W_11 (Or.inl ne_a0_b_8)
  have c58 := c41.other W_11 ne_ro_b_8
  have c59 := c42.other W_11 ne_ba_b_8
  have c60 := c43.wr W_11
  have c61 := c44.other W_11 ne_ca4_b_8
  have c62 := c45.wr W_11
  have V_11 : Arv Z h_11 b_8 k_8 .double (3 : Int32) [(.double 4607182418800017408), (.double 0), (.double 0)] (.double 0) := Arv.set Ar_11 q_11 S_11 M_11 H_11 G_11 rfl W_11 0 rfl (Nat.le_of_ble_eq_true rfl)
  have N_11 := Fr.snoc X_11 N_9 g_b_8
  have Z0__11 : n0 ≤ h_11.size := by rw [W_11.size]; exact Z0__9
  refine og (fun t k => st_11 t k) ?_
  refine og (B := T_11.setTop (mkF m 47 #[rv a0, iv 4, rv ca4, oU, oU, oU, oU, oU] [(.ref a0), (.ref a0)])) (fun t k => ?_) ?_
  · refine XS.aloadN X_11.here hx rfl (hb hby d15_45) rfl rfl ?_
    refine XS.aloadN X_11.here hx rfl (hb hby d15_46) rfl rfl ?_
    exact k
  obtain ⟨T_12, X_12, e_12, st_12⟩ := getF X_11 hx hZ hown (host := "") (Or.inl (ow hw 50 rfl)) Via.refl e_11 c53 (g := (mkF m 47 #[rv a0, iv 4, rv ca4, oU, oU, oU, oU, oU] [(.ref a0), (.ref a0)])) rfl rfl (hb hby d15_47)
  refine og (fun t k => st_12 t k) ?_
  refine og (B := T_12.setTop (mkF m 51 #[rv a0, iv 4, rv ca4, oU, oU, oU, oU, oU] [(.ref a0), (.int 3), (.ref a0)])) (fun t k => ?_) ?_
  · refine XS.aloadN X_12.here hx rfl (hb hby d15_50) rfl rfl ?_
    exact k
  obtain ⟨T_13, X_13, e_13, st_13⟩ := getF X_12 hx hZ hown (host := "") (Or.inl (ow hw 50 rfl)) Via.refl e_12 c53 (g := (mkF m 51 #[rv a0, iv 4, rv ca4, oU, oU, oU, oU, oU] [(.ref a0), (.int 3), (.ref a0)])) rfl rfl (hb hby d15_51)
  refine og (fun t k => st_13 t k) ?_
  obtain ⟨T_14, h_14, k_14, kc_14, X_14, e_14, E_14, A_14, O_14, Q_14, R_14, st_14⟩ := gridM X_13 hx hZ hown (C := "[D") (ad := "[[D") (ty := .double) (by decide) (by decide) (ow hw 135 rfl) (ow hw 136 rfl) (ow hw 10 rfl) e_13 (g := (mkF m 54 #[rv a0, iv 4, rv ca4, oU, oU, oU, oU, oU] [(.int 3), (.int 3), (.ref a0)])) rfl (hb hby d15_54) rfl (by decide) (by decide) (N := 3) (by decide) (xs := [h_11.size + 1 + 0, h_11.size + 1 + 1, h_11.size + 1 + 2]) rfl (cap := 3) (by decide) (by decide) (by decide) rfl rfl (by decide) (by decide)
  obtain ⟨B_14_0, D_14_0⟩ := R_14 0 _ rfl
  obtain ⟨B_14_1, D_14_1⟩ := R_14 1 _ rfl
  obtain ⟨B_14_2, D_14_2⟩ := R_14 2 _ rfl
  obtain ⟨y_14_2, g_14_2⟩ : ∃ z, z = h_11.size + 1 + 2 := ⟨_, rfl⟩
  rw [← g_14_2] at A_14 B_14_2 D_14_2
  obtain ⟨y_14_1, g_14_1⟩ : ∃ z, z = h_11.size + 1 + 1 := ⟨_, rfl⟩
  rw [← g_14_1] at A_14 B_14_1 D_14_1
  obtain ⟨y_14_0, g_14_0⟩ : ∃ z, z = h_11.size + 1 + 0 := ⟨_, rfl⟩
  rw [← g_14_0] at A_14 B_14_0 D_14_0
  obtain ⟨b_14, g_14⟩ : ∃ z, z = h_11.size := ⟨_, rfl⟩
  rw [← g_14] at A_14 Q_14 st_14
  have g_b_14 : n0 ≤ b_14 := Nat.le_trans Z0__11 (Nat.le_of_eq g_14.symm)
  have sz_b_14 : h0.size ≤ b_14 := Nat.le_trans c47.1 (Nat.le_of_eq g_14.symm)
  have lt_a0_b_14 : a0 < b_14 := Nat.lt_of_lt_of_le (c48).lt (Nat.le_of_eq g_14.symm)
  have ne_a0_b_14 := Nat.ne_of_lt lt_a0_b_14
  have lt_ro_b_14 : ro < b_14 := Nat.lt_of_lt_of_le (c58).lt (Nat.le_of_eq g_14.symm)
  have ne_ro_b_14 := Nat.ne_of_lt lt_ro_b_14
  have lt_ba_b_14 : ba < b_14 := Nat.lt_of_lt_of_le (c59).lt (Nat.le_of_eq g_14.symm)
  have ne_ba_b_14 := Nat.ne_of_lt lt_ba_b_14
  have lt_ca4_b_14 : ca4 < b_14 := Nat.lt_of_lt_of_le (c60).lt (Nat.le_of_eq g_14.symm)
  have ne_ca4_b_14 := Nat.ne_of_lt lt_ca4_b_14
  have lt_b_8_b_14 : b_8 < b_14 := Nat.lt_of_lt_of_le (c62).lt (Nat.le_of_eq g_14.symm)
  have ne_b_8_b_14 := Nat.ne_of_lt lt_b_8_b_14
  have lt_b_14_y_14_0 : b_14 < y_14_0 := by omega
  have ne_b_14_y_14_0 := Nat.ne_of_lt lt_b_14_y_14_0
  have g_y_14_0 : n0 ≤ y_14_0 := Nat.le_trans g_b_14 (Nat.le_of_lt lt_b_14_y_14_0)
  have sz_y_14_0 : h0.size ≤ y_14_0 := Nat.le_trans sz_b_14 (Nat.le_of_lt lt_b_14_y_14_0)
  have lt_a0_y_14_0 := Nat.lt_trans lt_a0_b_14 lt_b_14_y_14_0
  have ne_a0_y_14_0 := Nat.ne_of_lt lt_a0_y_14_0
  have lt_ro_y_14_0 := Nat.lt_trans lt_ro_b_14 lt_b_14_y_14_0
  have ne_ro_y_14_0 := Nat.ne_of_lt lt_ro_y_14_0
  have lt_ba_y_14_0 := Nat.lt_trans lt_ba_b_14 lt_b_14_y_14_0
  have ne_ba_y_14_0 := Nat.ne_of_lt lt_ba_y_14_0
  have lt_ca4_y_14_0 := Nat.lt_trans lt_ca4_b_14 lt_b_14_y_14_0
  have ne_ca4_y_14_0 := Nat.ne_of_lt lt_ca4_y_14_0
  have lt_b_8_y_14_0 := Nat.lt_trans lt_b_8_b_14 lt_b_14_y_14_0
  have ne_b_8_y_14_0 := Nat.ne_of_lt lt_b_8_y_14_0
  have lt_b_14_y_14_1 : b_14 < y_14_1 := by omega
  have ne_b_14_y_14_1 := Nat.ne_of_lt lt_b_14_y_14_1
  have g_y_14_1 : n0 ≤ y_14_1 := Nat.le_trans g_b_14 (Nat.le_of_lt lt_b_14_y_14_1)
  have sz_y_14_1 : h0.size ≤ y_14_1 := Nat.le_trans sz_b_14 (Nat.le_of_lt lt_b_14_y_14_1)
  have lt_a0_y_14_1 := Nat.lt_trans lt_a0_b_14 lt_b_14_y_14_1
  have ne_a0_y_14_1 := Nat.ne_of_lt lt_a0_y_14_1
  have lt_ro_y_14_1 := Nat.lt_trans lt_ro_b_14 lt_b_14_y_14_1
  have ne_ro_y_14_1 := Nat.ne_of_lt lt_ro_y_14_1
  have lt_ba_y_14_1 := Nat.lt_trans lt_ba_b_14 lt_b_14_y_14_1
  have ne_ba_y_14_1 := Nat.ne_of_lt lt_ba_y_14_1
  have lt_ca4_y_14_1 := Nat.lt_trans lt_ca4_b_14 lt_b_14_y_14_1
  have ne_ca4_y_14_1 := Nat.ne_of_lt lt_ca4_y_14_1
  have lt_b_8_y_14_1 := Nat.lt_trans lt_b_8_b_14 lt_b_14_y_14_1
  have ne_b_8_y_14_1 := Nat.ne_of_lt lt_b_8_y_14_1
  have lt_y_14_0_y_14_1 : y_14_0 < y_14_1 := by omega
  have ne_y_14_0_y_14_1 := Nat.ne_of_lt lt_y_14_0_y_14_1
  have lt_b_14_y_14_2 : b_14 < y_14_2 := by omega
  have ne_b_14_y_14_2 := Nat.ne_of_lt lt_b_14_y_14_2
  have g_y_14_2 : n0 ≤ y_14_2 := Nat.le_trans g_b_14 (Nat.le_of_lt lt_b_14_y_14_2)
  have sz_y_14_2 : h0.size ≤ y_14_2 := Nat.le_trans sz_b_14 (Nat.le_of_lt lt_b_14_y_14_2)
  have lt_a0_y_14_2 := Nat.lt_trans lt_a0_b_14 lt_b_14_y_14_2
  have ne_a0_y_14_2 := Nat.ne_of_lt lt_a0_y_14_2
  have lt_ro_y_14_2 := Nat.lt_trans lt_ro_b_14 lt_b_14_y_14_2
  have ne_ro_y_14_2 := Nat.ne_of_lt lt_ro_y_14_2
  have lt_ba_y_14_2 := Nat.lt_trans lt_ba_b_14 lt_b_14_y_14_2
  have ne_ba_y_14_2 := Nat.ne_of_lt lt_ba_y_14_2
  have lt_ca4_y_14_2 := Nat.lt_trans lt_ca4_b_14 lt_b_14_y_14_2
  have ne_ca4_y_14_2 := Nat.ne_of_lt lt_ca4_y_14_2
  have lt_b_8_y_14_2 := Nat.lt_trans lt_b_8_b_14 lt_b_14_y_14_2
  have ne_b_8_y_14_2 := Nat.ne_of_lt lt_b_8_y_14_2
  have lt_y_14_0_y_14_2 : y_14_0 < y_14_2 := by omega
  have ne_y_14_0_y_14_2 := Nat.ne_of_lt lt_y_14_0_y_14_2
  have lt_y_14_1_y_14_2 : y_14_1 < y_14_2 := by omega
  have ne_y_14_1_y_14_2 := Nat.ne_of_lt lt_y_14_1_y_14_2
  have c63 := c47.ext E_14
  have c64 := c48.ext E_14
  have c65 := c49.ext E_14
  have c66 := c50.ext E_14
  have c67 := c51.ext E_14
  have c68 := c52.ext E_14
  have c69 := c53.ext E_14
  have c70 := c54.ext E_14
  have c71 := c55.ext E_14
  have c72 := c56.ext E_14
  have c73 := c57.ext E_14
  have c74 := c58.ext E_14
  have c75 := c59.ext E_14
  have c76 := c60.ext E_14
  have c77 := c61.ext E_14
  have c78 := c62.ext E_14
  have c79 := V_11.ext E_14
  have Z0__14 : n0 ≤ h_14.size := Nat.le_trans Z0__11 E_14.1
  have A_14v : Arv Z h_14 b_14 k_14 (.array .double) (3 : Int32) [(.ref y_14_0), (.ref y_14_1), (.ref y_14_2)] .null := A_14
  have V_y_14_0 : Arv Z h_14 y_14_0 kc_14 .double (3 : Int32) [(.double 0), (.double 0), (.double 0)] (.double 0) := (Arv.new B_14_0 (by decide)).pad (pad_rep [] (.double 0) 3)
  have V_y_14_1 : Arv Z h_14 y_14_1 kc_14 .double (3 : Int32) [(.double 0), (.double 0), (.double 0)] (.double 0) := (Arv.new B_14_1 (by decide)).pad (pad_rep [] (.double 0) 3)
  have V_y_14_2 : Arv Z h_14 y_14_2 kc_14 .double (3 : Int32) [(.double 0), (.double 0), (.double 0)] (.double 0) := (Arv.new B_14_2 (by decide)).pad (pad_rep [] (.double 0) 3)
  refine og (fun t k => st_14 t k) ?_
  obtain ⟨T_15, h_15, X_15, e_15, W_15, st_15⟩ := putF X_14 hx hZ hown (host := "") (Or.inl (ow hw 104 rfl)) Via.refl e_14 c71 c64 (Or.inl (ow hw 105 rfl)) (ow hw 8 rfl) (ty := (.array (.array .double))) (by decide) rfl rfl (g := (mkF m 58 #[rv a0, iv 4, rv ca4, oU, oU, oU, oU, oU] [(.ref b_14), (.ref a0)])) rfl rfl (hb hby d15_58)
  have c80 := c63.wr W_15 (Or.inl (List.mem_of_getElem? (i := 0) rfl))
  have c81 := c64.wr W_15
  have c82 := c65.other W_15 (Or.inr (slot_ne (Or.inr (ow hw 42 rfl)) (Or.inl (ow hw 105 rfl)) (by decide) (t := (.object "java/util/List")) (t' := (.array (.array .double))) (by decide) (by decide)))
  have c83 := c66.other W_15 (Or.inr (slot_ne (Or.inl (ow hw 44 rfl)) (Or.inl (ow hw 105 rfl)) (by decide) (t := (.array .double)) (t' := (.array (.array .double))) (by decide) (by decide)))
  have c84 := c67.other W_15 (Or.inr (slot_ne (Or.inl (ow hw 47 rfl)) (Or.inl (ow hw 105 rfl)) (by decide) (t := (.array .int)) (t' := (.array (.array .double))) (by decide) (by decide)))
  have c85 := c68.other W_15 (Or.inr (slot_ne (Or.inr (ow hw 49 rfl)) (Or.inl (ow hw 105 rfl)) (by decide) (t := .int) (t' := (.array (.array .double))) (by decide) (by decide)))
  have c86 := c69.other W_15 (Or.inr (slot_ne (Or.inr (ow hw 51 rfl)) (Or.inl (ow hw 105 rfl)) (by decide) (t := .int) (t' := (.array (.array .double))) (by decide) (by decide)))
  have c87 := c70.other W_15 (Or.inr (slot_ne (Or.inr (ow hw 53 rfl)) (Or.inl (ow hw 105 rfl)) (by decide) (t := (.array .int)) (t' := (.array (.array .double))) (by decide) (by decide)))
  have c88 := c71.same W_15
  have c89 := c72.other W_15 (Or.inr (slot_ne (Or.inl (ow hw 134 rfl)) (Or.inl (ow hw 105 rfl)) (by decide) (t := (.array .double)) (t' := (.array (.array .double))) (by decide) (by decide)))
  have c90 := c73.other W_15 (Or.inr (slot_ne (Or.inl (ow hw 152 rfl)) (Or.inl (ow hw 105 rfl)) (by decide) (t := (.array .double)) (t' := (.array (.array .double))) (by decide) (by decide)))
  have c91 := c74.other W_15 (Ne.symm ne_a0_ro)
  have c92 := c75.other W_15 (Ne.symm ne_a0_ba)
  have c93 := c76.wr W_15
  have c94 := c77.other W_15 (Ne.symm ne_a0_ca4)
  have c95 := c78.wr W_15
  have c96 := c79.other W_15 (Ne.symm ne_a0_b_8)
  have c97 := A_14v.other W_15 (Ne.symm ne_a0_b_14)
  have c98 := Q_14.wr W_15
  have c99 := V_y_14_0.other W_15 (Ne.symm ne_a0_y_14_0)
  have c100 := D_14_0.wr W_15
  have c101 := V_y_14_1.other W_15 (Ne.symm ne_a0_y_14_1)
  have c102 := D_14_1.wr W_15
  have c103 := V_y_14_2.other W_15 (Ne.symm ne_a0_y_14_2)
  have c104 := D_14_2.wr W_15
  have N_15 := Fr.snoc X_15 N_11 g_a0
  have Z0__15 : n0 ≤ h_15.size := by rw [W_15.size]; exact Z0__14
  refine og (fun t k => st_15 t k) ?_
  refine og (B := T_15.setTop (mkF m 62 #[rv a0, iv 4, rv ca4, oU, oU, oU, oU, oU] [(.ref a0)])) (fun t k => ?_) ?_
  · refine XS.aloadN X_15.here hx rfl (hb hby d15_61) rfl rfl ?_
    exact k
  obtain ⟨T_16, X_16, e_16, st_16⟩ := getF X_15 hx hZ hown (host := "") (Or.inl (ow hw 104 rfl)) Via.refl e_15 c88 (g := (mkF m 62 #[rv a0, iv 4, rv ca4, oU, oU, oU, oU, oU] [(.ref a0)])) rfl rfl (hb hby d15_62)
  refine og (fun t k => st_16 t k) ?_
  refine og (B := T_16.setTop (mkF m 66 #[rv a0, iv 4, rv ca4, oU, oU, oU, oU, oU] [(.int 0), (.ref b_14)])) (fun t k => ?_) ?_
  · refine XS.iconst X_16.here hx rfl (hb hby d15_65) ?_
    exact k
  obtain ⟨cl_17, Ar_17, q_17, S_17, M_17, H_17, G_17⟩ := id c97
  have hin_17 : ¬ ((0 : Int32) < 0 ∨ cl_17.slots.size ≤ ((0 : Int32)).toNatClampNeg) := inb_of S_17 ⟨by decide, by decide⟩
  have hat_17 : cl_17.slots[((0 : Int32)).toNatClampNeg]? = some (.ref y_14_0) := H_17.at hin_17 rfl
  refine og (B := T_16.setTop (mkF m 67 #[rv a0, iv 4, rv ca4, oU, oU, oU, oU, oU] [(.ref y_14_0)])) (fun t k => X_16.aaload hx (j := (0 : Int32)) (v := (.ref y_14_0)) (by rw [(e_16 : _ = _)]; exact Ar_17.1) (State.isArrayOf_alike hZ.alike Ar_17.2.1) rfl Ar_17.2.2 hin_17 hat_17 (g := (mkF m 66 #[rv a0, iv 4, rv ca4, oU, oU, oU, oU, oU] [(.int 0), (.ref b_14)])) rfl rfl (hb hby d15_66) t k) ?_
  refine og (B := T_16.setTop (mkF m 69 #[rv a0, iv 4, rv ca4, oU, oU, oU, oU, oU] [(.double 4607182418800017408), (.int 0), (.ref y_14_0)])) (fun t k => ?_) ?_
  · refine XS.iconst X_16.here hx rfl (hb hby d15_67) ?_
    refine XS.dconst1 X_16.here hx rfl (v := 4607182418800017408) (hb hby d15_68) rfl ?_
    exact k
  obtain ⟨cl_18, Ar_18, q_18, S_18, M_18, H_18, G_18⟩ := id c99
  have hin_18 : ¬ ((0 : Int32) < 0 ∨ cl_18.slots.size ≤ ((0 : Int32)).toNatClampNeg) := inb_of S_18 ⟨by decide, by decide⟩
  obtain ⟨T_18, h_18, X_18, e_18, W_18, st_18⟩ := stD X_16 hx hZ e_16 Ar_18 (j := (0 : Int32)) hin_18 (g := (mkF m 69 #[rv a0, iv 4, rv ca4, oU, oU, oU, oU, oU] [(.double 4607182418800017408), (.int 0), (.ref y_14_0)])) rfl rfl (hb hby d15_69)
  have c105 := c80.wr W_18 (Or.inr sz_y_14_0)
  have c106 := c81.wr W_18
  have c107 := c82.other W_18 (Or.inl ne_a0_y_14_0)
  have c108 := c83.other W_18 (Or.inl ne_a0_y_14_0)
  have c109 := c84.other W_18 (Or.inl ne_a0_y_14_0)
  have c110 := c85.other W_18 (Or.inl ne_a0_y_14_0)
  have c111 := c86.other W_18 (Or.inl ne_a0_y_14_0)
  have c112 := c87.other W_18 (Or.inl ne_a0_y_14_0)
  have c113 := c88.other W_18 (Or.inl ne_a0_y_14_0)
  have c114 := c89.other W_18 (Or.inl ne_a0_y_14_0)
  have c115 := c90.other W_18 (Or.inl ne_a0_y_14_0)
  have c116 := c91.other W_18 ne_ro_y_14_0
  have c117 := c92.other W_18 ne_ba_y_14_0
  have c118 := c93.wr W_18
  have c119 := c94.other W_18 ne_ca4_y_14_0
  have c120 := c95.wr W_18
  have c121 := c96.other W_18 ne_b_8_y_14_0
  have c122 := c97.other W_18 ne_b_14_y_14_0
  have c123 := c98.wr W_18
  have c124 := c100.wr W_18
  have c125 := c101.other W_18 (Ne.symm ne_y_14_0_y_14_1)
  have c126 := c102.wr W_18
  have c127 := c103.other W_18 (Ne.symm ne_y_14_0_y_14_2)
  have c128 := c104.wr W_18
  have V_18 : Arv Z h_18 y_14_0 kc_14 .double (3 : Int32) [(.double 4607182418800017408), (.double 0), (.double 0)] (.double 0) := Arv.set Ar_18 q_18 S_18 M_18 H_18 G_18 rfl W_18 0 rfl (Nat.le_of_ble_eq_true rfl)
  have N_18 := Fr.snoc X_18 N_15 g_y_14_0
  have Z0__18 : n0 ≤ h_18.size := by rw [W_18.size]; exact Z0__15
  refine og (fun t k => st_18 t k) ?_
  refine og (B := T_18.setTop (mkF m 74 #[rv a0, iv 4, rv ca4, iv 0, oU, oU, oU, oU] [(.ref a0), (.int 0)])) (fun t k => ?_) ?_
  · refine XS.iconst X_18.here hx rfl (hb hby d15_70) ?_
    refine XS.istoreN X_18.here hx rfl (hb hby d15_71) rfl (l' := #[rv a0, iv 4, rv ca4, iv 0, oU, oU, oU, oU]) rfl ?_
    refine XS.iloadN X_18.here hx rfl (hb hby d15_72) rfl ?_
    refine XS.aloadN X_18.here hx rfl (hb hby d15_73) rfl rfl ?_
    exact k
  obtain ⟨T_19, X_19, e_19, st_19⟩ := getF X_18 hx hZ hown (host := "") (Or.inl (ow hw 48 rfl)) Via.refl e_18 c110 (g := (mkF m 74 #[rv a0, iv 4, rv ca4, iv 0, oU, oU, oU, oU] [(.ref a0), (.int 0)])) rfl rfl (hb hby d15_74)
  refine og (fun t k => st_19 t k) ?_
  refine og (B := T_19.setTop (mkF m 80 #[rv a0, iv 4, rv ca4, iv 0, oU, oU, oU, oU] [])) (fun t k => ?_) ?_
  · refine XS.icmpNo X_19.here hx rfl (hb hby d15_77) rfl (tlt (by decide : (0 : Int32) < (2 : Int32))).2.1 ?_
    exact k
  refine og (B := T_19.setTop (mkF m 88 #[rv a0, iv 4, rv ca4, iv 0, iv 1, oU, oU, oU] [(.int 1), (.ref ca4)])) (fun t k => ?_) ?_
  · refine XS.iloadN X_19.here hx rfl (hb hby d15_80) rfl ?_
    refine XS.iconst X_19.here hx rfl (hb hby d15_81) ?_
    refine XS.iadd X_19.here hx rfl (hb hby d15_82) rfl ?_
    refine XS.istore X_19.here hx rfl (hb hby d15_83) rfl (l' := #[rv a0, iv 4, rv ca4, iv 0, iv 1, oU, oU, oU]) rfl ?_
    refine XS.aloadN X_19.here hx rfl (hb hby d15_85) rfl rfl ?_
    refine XS.iload X_19.here hx rfl (hb hby d15_86) rfl ?_
    exact k
  obtain ⟨cl_20, Ar_20, q_20, S_20, M_20, H_20, G_20⟩ := id c119
  have hin_20 : ¬ ((1 : Int32) < 0 ∨ cl_20.slots.size ≤ ((1 : Int32)).toNatClampNeg) := inb_of S_20 ⟨by decide, by decide⟩
  have hat_20 : cl_20.slots[((1 : Int32)).toNatClampNeg]? = some (.double cd0) := H_20.at hin_20 rfl
  refine og (B := T_19.setTop (mkF m 89 #[rv a0, iv 4, rv ca4, iv 0, iv 1, oU, oU, oU] [(.double cd0)])) (fun t k => X_19.daload hx (j := (1 : Int32)) (v := (.double cd0)) (by rw [(e_19 : _ = _)]; exact Ar_20.1) (State.isArrayOf_alike hZ.alike Ar_20.2.1) Ar_20.2.2 hin_20 hat_20 (g := (mkF m 88 #[rv a0, iv 4, rv ca4, iv 0, iv 1, oU, oU, oU] [(.int 1), (.ref ca4)])) rfl rfl (hb hby d15_88) t k) ?_
  refine og (B := T_19.setTop (mkF m 91 #[rv a0, iv 4, rv ca4, iv 0, iv 1, oU, oU, oU] [(.int (cmpValue (FP.dcmp cd0 0) .g))])) (fun t k => ?_) ?_
  · refine XS.dconst0 X_19.here hx rfl (v := 0) (hb hby d15_89) rfl ?_
    refine XS.dcmpS X_19.here hx rfl (hb hby d15_90) rfl rfl ?_
    exact k
  obtain ⟨zv1, hzv1⟩ : ∃ zq : Int32, zq = (if (0 : Int32) < (cmpValue (FP.dcmp cd0 0) .g) then (0 : Int32) else (1 : Int32)) := ⟨_, rfl⟩
  refine og (B := T_19.setTop (mkF m 99 #[rv a0, iv 4, rv ca4, iv 0, iv 1, oU, oU, oU] [(.int zv1)])) (fun t k => ?_) ?_
  · show Steps p.tables e below (T_19.setTop (mkF m 91 #[rv a0, iv 4, rv ca4, iv 0, iv 1, oU, oU, oU] [(.int (cmpValue (FP.dcmp cd0 0) .g))])) _
    by_cases hc91 : (0 : Int32) < (cmpValue (FP.dcmp cd0 0) .g)
    · refine XS.ifYes X_19.here hx rfl (pc0 := 91) (pc' := 98) rfl (hb hby d15_91) rfl ((if0 _ _).trans (tlt hc91).2.2.1) (by decide) (by decide) ?_
      show Steps p.tables e below (T_19.setTop (mkF m 98 #[rv a0, iv 4, rv ca4, iv 0, iv 1, oU, oU, oU] [])) _
      refine XS.iconst X_19.here hx rfl (hb hby d15_98) ?_
      show Steps p.tables e below (T_19.setTop (mkF m 99 #[rv a0, iv 4, rv ca4, iv 0, iv 1, oU, oU, oU] [(.int 0)])) _
      rw [show zv1 = (0 : Int32) from by simp only [hzv1, if_pos hc91]] at k
      exact k
    · refine XS.ifNo X_19.here hx rfl (hb hby d15_91) rfl ((if0 _ _).trans (flt hc91).2.2.1) ?_
      show Steps p.tables e below (T_19.setTop (mkF m 94 #[rv a0, iv 4, rv ca4, iv 0, iv 1, oU, oU, oU] [])) _
      refine XS.iconst X_19.here hx rfl (hb hby d15_94) ?_
      show Steps p.tables e below (T_19.setTop (mkF m 95 #[rv a0, iv 4, rv ca4, iv 0, iv 1, oU, oU, oU] [(.int 1)])) _
      refine XS.goto X_19.here hx rfl (pc0 := 95) (pc' := 99) rfl (hb hby d15_95) (by decide) (by decide) ?_
      show Steps p.tables e below (T_19.setTop (mkF m 99 #[rv a0, iv 4, rv ca4, iv 0, iv 1, oU, oU, oU] [(.int 1)])) _
      rw [show zv1 = (1 : Int32) from by simp only [hzv1, if_neg hc91]] at k
      exact k
  refine og (B := T_19.setTop (mkF m 102 #[rv a0, iv 4, rv ca4, iv 0, iv 1, iv zv1, oU, oU] [(.ref a0)])) (fun t k => ?_) ?_
  · refine XS.istore X_19.here hx rfl (hb hby d15_99) rfl (l' := #[rv a0, iv 4, rv ca4, iv 0, iv 1, iv zv1, oU, oU]) rfl ?_
    refine XS.aloadN X_19.here hx rfl (hb hby d15_101) rfl rfl ?_
    exact k
  obtain ⟨T_21, X_21, e_21, st_21⟩ := getF X_19 hx hZ hown (host := "") (Or.inl (ow hw 52 rfl)) Via.refl e_19 c112 (g := (mkF m 102 #[rv a0, iv 4, rv ca4, iv 0, iv 1, iv zv1, oU, oU] [(.ref a0)])) rfl rfl (hb hby d15_102)
  refine og (fun t k => st_21 t k) ?_
  refine og (B := T_21.setTop (mkF m 109 #[rv a0, iv 4, rv ca4, iv 0, iv 1, iv zv1, oU, oU] [(.int zv1), (.int 1), (.ref ba)])) (fun t k => ?_) ?_
  · refine XS.iload X_21.here hx rfl (hb hby d15_105) rfl ?_
    refine XS.iload X_21.here hx rfl (hb hby d15_107) rfl ?_
    exact k
  obtain ⟨zv2, hzv2⟩ : ∃ zq : Int32, zq = (if zv1 = (0 : Int32) then (1 : Int32) else (0 : Int32)) := ⟨_, rfl⟩
  refine og (B := T_21.setTop (mkF m 123 #[rv a0, iv 4, rv ca4, iv 0, iv 1, iv zv1, oU, oU] [(.int zv2), (.int 1), (.ref ba)])) (fun t k => ?_) ?_
  · show Steps p.tables e below (T_21.setTop (mkF m 109 #[rv a0, iv 4, rv ca4, iv 0, iv 1, iv zv1, oU, oU] [(.int zv1), (.int 1), (.ref ba)])) _
    by_cases hc109 : zv1 = (0 : Int32)
    · refine XS.ifYes X_21.here hx rfl (pc0 := 109) (pc' := 118) rfl (hb hby d15_109) rfl ((if0 _ _).trans (teq hc109).1) (by decide) (by decide) ?_
      show Steps p.tables e below (T_21.setTop (mkF m 118 #[rv a0, iv 4, rv ca4, iv 0, iv 1, iv zv1, oU, oU] [(.int 1), (.ref ba)])) _
      refine XS.iconst X_21.here hx rfl (hb hby d15_118) ?_
      show Steps p.tables e below (T_21.setTop (mkF m 119 #[rv a0, iv 4, rv ca4, iv 0, iv 1, iv zv1, oU, oU] [(.int 2), (.int 1), (.ref ba)])) _
      refine XS.iloadN X_21.here hx rfl (hb hby d15_119) rfl ?_
      show Steps p.tables e below (T_21.setTop (mkF m 120 #[rv a0, iv 4, rv ca4, iv 0, iv 1, iv zv1, oU, oU] [(.int 0), (.int 2), (.int 1), (.ref ba)])) _
      refine XS.imul X_21.here hx rfl (hb hby d15_120) rfl ?_
      show Steps p.tables e below (T_21.setTop (mkF m 121 #[rv a0, iv 4, rv ca4, iv 0, iv 1, iv zv1, oU, oU] [(.int 0), (.int 1), (.ref ba)])) _
      refine XS.iconst X_21.here hx rfl (hb hby d15_121) ?_
      show Steps p.tables e below (T_21.setTop (mkF m 122 #[rv a0, iv 4, rv ca4, iv 0, iv 1, iv zv1, oU, oU] [(.int 1), (.int 0), (.int 1), (.ref ba)])) _
      refine XS.iadd X_21.here hx rfl (hb hby d15_122) rfl ?_
      show Steps p.tables e below (T_21.setTop (mkF m 123 #[rv a0, iv 4, rv ca4, iv 0, iv 1, iv zv1, oU, oU] [(.int 1), (.int 1), (.ref ba)])) _
      rw [show zv2 = (1 : Int32) from by simp only [hzv2, if_pos hc109]] at k
      exact k
    · refine XS.ifNo X_21.here hx rfl (hb hby d15_109) rfl ((if0 _ _).trans (feq hc109).1) ?_
      show Steps p.tables e below (T_21.setTop (mkF m 112 #[rv a0, iv 4, rv ca4, iv 0, iv 1, iv zv1, oU, oU] [(.int 1), (.ref ba)])) _
      refine XS.iconst X_21.here hx rfl (hb hby d15_112) ?_
      show Steps p.tables e below (T_21.setTop (mkF m 113 #[rv a0, iv 4, rv ca4, iv 0, iv 1, iv zv1, oU, oU] [(.int 2), (.int 1), (.ref ba)])) _
      refine XS.iloadN X_21.here hx rfl (hb hby d15_113) rfl ?_
      show Steps p.tables e below (T_21.setTop (mkF m 114 #[rv a0, iv 4, rv ca4, iv 0, iv 1, iv zv1, oU, oU] [(.int 0), (.int 2), (.int 1), (.ref ba)])) _
      refine XS.imul X_21.here hx rfl (hb hby d15_114) rfl ?_
      show Steps p.tables e below (T_21.setTop (mkF m 115 #[rv a0, iv 4, rv ca4, iv 0, iv 1, iv zv1, oU, oU] [(.int 0), (.int 1), (.ref ba)])) _
      refine XS.goto X_21.here hx rfl (pc0 := 115) (pc' := 123) rfl (hb hby d15_115) (by decide) (by decide) ?_
      show Steps p.tables e below (T_21.setTop (mkF m 123 #[rv a0, iv 4, rv ca4, iv 0, iv 1, iv zv1, oU, oU] [(.int 0), (.int 1), (.ref ba)])) _
      rw [show zv2 = (0 : Int32) from by simp only [hzv2, if_neg hc109]] at k
      exact k
  obtain ⟨cl_22, Ar_22, q_22, S_22, M_22, H_22, G_22⟩ := id c117
  have hin_22 : ¬ ((1 : Int32) < 0 ∨ cl_22.slots.size ≤ ((1 : Int32)).toNatClampNeg) := inb_of S_22 ⟨by decide, by decide⟩
  obtain ⟨T_22, h_22, X_22, e_22, W_22, st_22⟩ := stI X_21 hx hZ e_21 Ar_22 (j := (1 : Int32)) hin_22 (g := (mkF m 123 #[rv a0, iv 4, rv ca4, iv 0, iv 1, iv zv1, oU, oU] [(.int zv2), (.int 1), (.ref ba)])) rfl rfl (hb hby d15_123)
  have c129 := c105.wr W_22 (Or.inl (List.mem_of_getElem? (i := 2) rfl))
  have c130 := c106.wr W_22
  have c131 := c107.other W_22 (Or.inl ne_a0_ba)
  have c132 := c108.other W_22 (Or.inl ne_a0_ba)
  have c133 := c109.other W_22 (Or.inl ne_a0_ba)
  have c134 := c110.other W_22 (Or.inl ne_a0_ba)
  have c135 := c111.other W_22 (Or.inl ne_a0_ba)
  have c136 := c112.other W_22 (Or.inl ne_a0_ba)
  have c137 := c113.other W_22 (Or.inl ne_a0_ba)
  have c138 := c114.other W_22 (Or.inl ne_a0_ba)
  have c139 := c115.other W_22 (Or.inl ne_a0_ba)
  have c140 := c116.other W_22 ne_ro_ba
  have c141 := c118.wr W_22
  have c142 := c119.other W_22 (Ne.symm ne_ba_ca4)
  have c143 := c120.wr W_22
  have c144 := c121.other W_22 (Ne.symm ne_ba_b_8)
  have c145 := c122.other W_22 (Ne.symm ne_ba_b_14)
  have c146 := c123.wr W_22
  have c147 := V_18.other W_22 (Ne.symm ne_ba_y_14_0)
  have c148 := c124.wr W_22
  have c149 := c125.other W_22 (Ne.symm ne_ba_y_14_1)
  have c150 := c126.wr W_22
  have c151 := c127.other W_22 (Ne.symm ne_ba_y_14_2)
  have c152 := c128.wr W_22
  have V_22 : Arv Z h_22 ba kq .int (3 : Int32) [(.int 4), (.int zv2), (.int 0)] (.int (0 : Int32)) := Arv.set Ar_22 q_22 S_22 M_22 H_22 G_22 rfl W_22 1 rfl (Nat.le_of_ble_eq_true rfl)
  have N_22 := Fr.snoc X_22 N_18 g_ba
  have Z0__22 : n0 ≤ h_22.size := by rw [W_22.size]; exact Z0__18
  refine og (fun t k => st_22 t k) ?_
  refine og (B := T_22.setTop (mkF m 126 #[rv a0, iv 4, rv ca4, iv 0, iv 1, iv zv1, oU, oU] [(.int zv1)])) (fun t k => ?_) ?_
  · refine XS.iload X_22.here hx rfl (hb hby d15_124) rfl ?_
    exact k
  obtain ⟨zv3, hzv3⟩ : ∃ zq : UInt64, zq = (if zv1 = (0 : Int32) then 13830554455654793216 else 4607182418800017408) := ⟨_, rfl⟩
  refine og (B := T_22.setTop (mkF m 136 #[rv a0, iv 4, rv ca4, iv 0, iv 1, iv zv1, oU, oU] [(.double zv3)])) (fun t k => ?_) ?_
  · show Steps p.tables e below (T_22.setTop (mkF m 126 #[rv a0, iv 4, rv ca4, iv 0, iv 1, iv zv1, oU, oU] [(.int zv1)])) _
    by_cases hc126 : zv1 = (0 : Int32)
    · refine XS.ifYes X_22.here hx rfl (pc0 := 126) (pc' := 133) rfl (hb hby d15_126) rfl ((if0 _ _).trans (teq hc126).1) (by decide) (by decide) ?_
      show Steps p.tables e below (T_22.setTop (mkF m 133 #[rv a0, iv 4, rv ca4, iv 0, iv 1, iv zv1, oU, oU] [])) _
      refine X_22.ldc2DoubleC hx hown (mvT hZ (ow hw 98 rfl)) (g := (mkF m 133 #[rv a0, iv 4, rv ca4, iv 0, iv 1, iv zv1, oU, oU] [])) rfl (hb hby d15_133) _ ?_
      show Steps p.tables e below (T_22.setTop (mkF m 136 #[rv a0, iv 4, rv ca4, iv 0, iv 1, iv zv1, oU, oU] [(.double 13830554455654793216)])) _
      rw [show zv3 = 13830554455654793216 from by simp only [hzv3, if_pos hc126]] at k
      exact k
    · refine XS.ifNo X_22.here hx rfl (hb hby d15_126) rfl ((if0 _ _).trans (feq hc126).1) ?_
      show Steps p.tables e below (T_22.setTop (mkF m 129 #[rv a0, iv 4, rv ca4, iv 0, iv 1, iv zv1, oU, oU] [])) _
      refine XS.dconst1 X_22.here hx rfl (v := 4607182418800017408) (hb hby d15_129) rfl ?_
      show Steps p.tables e below (T_22.setTop (mkF m 130 #[rv a0, iv 4, rv ca4, iv 0, iv 1, iv zv1, oU, oU] [(.double 4607182418800017408)])) _
      refine XS.goto X_22.here hx rfl (pc0 := 130) (pc' := 136) rfl (hb hby d15_130) (by decide) (by decide) ?_
      show Steps p.tables e below (T_22.setTop (mkF m 136 #[rv a0, iv 4, rv ca4, iv 0, iv 1, iv zv1, oU, oU] [(.double 4607182418800017408)])) _
      rw [show zv3 = 4607182418800017408 from by simp only [hzv3, if_neg hc126]] at k
      exact k
  refine og (B := T_22.setTop (mkF m 139 #[rv a0, iv 4, rv ca4, iv 0, iv 1, iv zv1, oD zv3, oS] [(.ref a0)])) (fun t k => ?_) ?_
  · refine XS.dstore X_22.here hx rfl (hb hby d15_136) rfl (l' := #[rv a0, iv 4, rv ca4, iv 0, iv 1, iv zv1, oD zv3, oS]) rfl ?_
    refine XS.aloadN X_22.here hx rfl (hb hby d15_138) rfl rfl ?_
    exact k
  obtain ⟨T_23, X_23, e_23, st_23⟩ := getF X_22 hx hZ hown (host := "") (Or.inl (ow hw 133 rfl)) Via.refl e_22 c138 (g := (mkF m 139 #[rv a0, iv 4, rv ca4, iv 0, iv 1, iv zv1, oD zv3, oS] [(.ref a0)])) rfl rfl (hb hby d15_139)
  refine og (fun t k => st_23 t k) ?_
  refine og (B := T_23.setTop (mkF m 147 #[rv a0, iv 4, rv ca4, iv 0, iv 1, iv zv1, oD zv3, oS] [(.int 1), (.ref ca4), (.int 1), (.ref b_8)])) (fun t k => ?_) ?_
  · refine XS.iload X_23.here hx rfl (hb hby d15_142) rfl ?_
    refine XS.aloadN X_23.here hx rfl (hb hby d15_144) rfl rfl ?_
    refine XS.iload X_23.here hx rfl (hb hby d15_145) rfl ?_
    exact k
  obtain ⟨cl_24, Ar_24, q_24, S_24, M_24, H_24, G_24⟩ := id c142
  have hin_24 : ¬ ((1 : Int32) < 0 ∨ cl_24.slots.size ≤ ((1 : Int32)).toNatClampNeg) := inb_of S_24 ⟨by decide, by decide⟩
  have hat_24 : cl_24.slots[((1 : Int32)).toNatClampNeg]? = some (.double cd0) := H_24.at hin_24 rfl
  refine og (B := T_23.setTop (mkF m 148 #[rv a0, iv 4, rv ca4, iv 0, iv 1, iv zv1, oD zv3, oS] [(.double cd0), (.int 1), (.ref b_8)])) (fun t k => X_23.daload hx (j := (1 : Int32)) (v := (.double cd0)) (by rw [(e_23 : _ = _)]; exact Ar_24.1) (State.isArrayOf_alike hZ.alike Ar_24.2.1) Ar_24.2.2 hin_24 hat_24 (g := (mkF m 147 #[rv a0, iv 4, rv ca4, iv 0, iv 1, iv zv1, oD zv3, oS] [(.int 1), (.ref ca4), (.int 1), (.ref b_8)])) rfl rfl (hb hby d15_147) t k) ?_
  refine og (B := T_23.setTop (mkF m 152 #[rv a0, iv 4, rv ca4, iv 0, iv 1, iv zv1, oD zv3, oS] [(.double (FP.dmul (FP.dneg cd0) zv3)), (.int 1), (.ref b_8)])) (fun t k => ?_) ?_
  · refine XS.dnegS X_23.here hx rfl (hb hby d15_148) rfl rfl ?_
    refine XS.dload X_23.here hx rfl (hb hby d15_149) rfl ?_
    refine XS.dmulS X_23.here hx rfl (hb hby d15_151) rfl (hn0 _ (own_or hzv3)) rfl ?_
    exact k
  obtain ⟨cl_25, Ar_25, q_25, S_25, M_25, H_25, G_25⟩ := id c144
  have hin_25 : ¬ ((1 : Int32) < 0 ∨ cl_25.slots.size ≤ ((1 : Int32)).toNatClampNeg) := inb_of S_25 ⟨by decide, by decide⟩
  obtain ⟨T_25, h_25, X_25, e_25, W_25, st_25⟩ := stD X_23 hx hZ e_23 Ar_25 (j := (1 : Int32)) hin_25 (g := (mkF m 152 #[rv a0, iv 4, rv ca4, iv 0, iv 1, iv zv1, oD zv3, oS] [(.double (FP.dmul (FP.dneg cd0) zv3)), (.int 1), (.ref b_8)])) rfl rfl (hb hby d15_152)
  have c153 := c129.wr W_25 (Or.inr sz_b_8)
  have c154 := c130.wr W_25
  have c155 := c131.other W_25 (Or.inl ne_a0_b_8)
  have c156 := c132.other W_25 (Or.inl ne_a0_b_8)
  have c157 := c133.other W_25 (Or.inl ne_a0_b_8)
  have c158 := c134.other W_25 (Or.inl ne_a0_b_8)
  have c159 := c135.other W_25 (Or.inl ne_a0_b_8)
  have c160 := c136.other W_25 (Or.inl ne_a0_b_8)
  have c161 := c137.other W_25 (Or.inl ne_a0_b_8)
  have c162 := c138.other W_25 (Or.inl ne_a0_b_8)
  have c163 := c139.other W_25 (Or.inl ne_a0_b_8)
  have c164 := c140.other W_25 ne_ro_b_8
  have c165 := V_22.other W_25 ne_ba_b_8
  have c166 := c141.wr W_25
  have c167 := c142.other W_25 ne_ca4_b_8
  have c168 := c143.wr W_25
  have c169 := c145.other W_25 (Ne.symm ne_b_8_b_14)
  have c170 := c146.wr W_25
  have c171 := c147.other W_25 (Ne.symm ne_b_8_y_14_0)
  have c172 := c148.wr W_25
  have c173 := c149.other W_25 (Ne.symm ne_b_8_y_14_1)
  have c174 := c150.wr W_25
  have c175 := c151.other W_25 (Ne.symm ne_b_8_y_14_2)
  have c176 := c152.wr W_25
  have V_25 : Arv Z h_25 b_8 k_8 .double (3 : Int32) [(.double 4607182418800017408), (.double (FP.dmul (FP.dneg cd0) zv3)), (.double 0)] (.double 0) := Arv.set Ar_25 q_25 S_25 M_25 H_25 G_25 rfl W_25 1 rfl (Nat.le_of_ble_eq_true rfl)
  have N_25 := Fr.snoc X_25 N_22 g_b_8
  have Z0__25 : n0 ≤ h_25.size := by rw [W_25.size]; exact Z0__22
  refine og (fun t k => st_25 t k) ?_
  refine og (B := T_25.setTop (mkF m 154 #[rv a0, iv 4, rv ca4, iv 0, iv 1, iv zv1, oD zv3, oS] [(.ref a0)])) (fun t k => ?_) ?_
  · refine XS.aloadN X_25.here hx rfl (hb hby d15_153) rfl rfl ?_
    exact k
  obtain ⟨T_26, X_26, e_26, st_26⟩ := getF X_25 hx hZ hown (host := "") (Or.inl (ow hw 104 rfl)) Via.refl e_25 c161 (g := (mkF m 154 #[rv a0, iv 4, rv ca4, iv 0, iv 1, iv zv1, oD zv3, oS] [(.ref a0)])) rfl rfl (hb hby d15_154)
  refine og (fun t k => st_26 t k) ?_
  refine og (B := T_26.setTop (mkF m 159 #[rv a0, iv 4, rv ca4, iv 0, iv 1, iv zv1, oD zv3, oS] [(.int 1), (.ref b_14)])) (fun t k => ?_) ?_
  · refine XS.iload X_26.here hx rfl (hb hby d15_157) rfl ?_
    exact k
  obtain ⟨cl_27, Ar_27, q_27, S_27, M_27, H_27, G_27⟩ := id c169
  have hin_27 : ¬ ((1 : Int32) < 0 ∨ cl_27.slots.size ≤ ((1 : Int32)).toNatClampNeg) := inb_of S_27 ⟨by decide, by decide⟩
  have hat_27 : cl_27.slots[((1 : Int32)).toNatClampNeg]? = some (.ref y_14_1) := H_27.at hin_27 rfl
  refine og (B := T_26.setTop (mkF m 160 #[rv a0, iv 4, rv ca4, iv 0, iv 1, iv zv1, oD zv3, oS] [(.ref y_14_1)])) (fun t k => X_26.aaload hx (j := (1 : Int32)) (v := (.ref y_14_1)) (by rw [(e_26 : _ = _)]; exact Ar_27.1) (State.isArrayOf_alike hZ.alike Ar_27.2.1) rfl Ar_27.2.2 hin_27 hat_27 (g := (mkF m 159 #[rv a0, iv 4, rv ca4, iv 0, iv 1, iv zv1, oD zv3, oS] [(.int 1), (.ref b_14)])) rfl rfl (hb hby d15_159) t k) ?_
  refine og (B := T_26.setTop (mkF m 164 #[rv a0, iv 4, rv ca4, iv 0, iv 1, iv zv1, oD zv3, oS] [(.int 1), (.ref ca4), (.int 0), (.ref y_14_1)])) (fun t k => ?_) ?_
  · refine XS.iconst X_26.here hx rfl (hb hby d15_160) ?_
    refine XS.aloadN X_26.here hx rfl (hb hby d15_161) rfl rfl ?_
    refine XS.iload X_26.here hx rfl (hb hby d15_162) rfl ?_
    exact k
  obtain ⟨cl_28, Ar_28, q_28, S_28, M_28, H_28, G_28⟩ := id c167
  have hin_28 : ¬ ((1 : Int32) < 0 ∨ cl_28.slots.size ≤ ((1 : Int32)).toNatClampNeg) := inb_of S_28 ⟨by decide, by decide⟩
  have hat_28 : cl_28.slots[((1 : Int32)).toNatClampNeg]? = some (.double cd0) := H_28.at hin_28 rfl
  refine og (B := T_26.setTop (mkF m 165 #[rv a0, iv 4, rv ca4, iv 0, iv 1, iv zv1, oD zv3, oS] [(.double cd0), (.int 0), (.ref y_14_1)])) (fun t k => X_26.daload hx (j := (1 : Int32)) (v := (.double cd0)) (by rw [(e_26 : _ = _)]; exact Ar_28.1) (State.isArrayOf_alike hZ.alike Ar_28.2.1) Ar_28.2.2 hin_28 hat_28 (g := (mkF m 164 #[rv a0, iv 4, rv ca4, iv 0, iv 1, iv zv1, oD zv3, oS] [(.int 1), (.ref ca4), (.int 0), (.ref y_14_1)])) rfl rfl (hb hby d15_164) t k) ?_
  refine og (B := T_26.setTop (mkF m 169 #[rv a0, iv 4, rv ca4, iv 0, iv 1, iv zv1, oD zv3, oS] [(.double (FP.dmul (FP.dneg cd0) zv3)), (.int 0), (.ref y_14_1)])) (fun t k => ?_) ?_
  · refine XS.dnegS X_26.here hx rfl (hb hby d15_165) rfl rfl ?_
    refine XS.dload X_26.here hx rfl (hb hby d15_166) rfl ?_
    refine XS.dmulS X_26.here hx rfl (hb hby d15_168) rfl (hn0 _ (own_or hzv3)) rfl ?_
    exact k
  obtain ⟨cl_29, Ar_29, q_29, S_29, M_29, H_29, G_29⟩ := id c173
  have hin_29 : ¬ ((0 : Int32) < 0 ∨ cl_29.slots.size ≤ ((0 : Int32)).toNatClampNeg) := inb_of S_29 ⟨by decide, by decide⟩
  obtain ⟨T_29, h_29, X_29, e_29, W_29, st_29⟩ := stD X_26 hx hZ e_26 Ar_29 (j := (0 : Int32)) hin_29 (g := (mkF m 169 #[rv a0, iv 4, rv ca4, iv 0, iv 1, iv zv1, oD zv3, oS] [(.double (FP.dmul (FP.dneg cd0) zv3)), (.int 0), (.ref y_14_1)])) rfl rfl (hb hby d15_169)
  have c177 := c153.wr W_29 (Or.inr sz_y_14_1)
  have c178 := c154.wr W_29
  have c179 := c155.other W_29 (Or.inl ne_a0_y_14_1)
  have c180 := c156.other W_29 (Or.inl ne_a0_y_14_1)
  have c181 := c157.other W_29 (Or.inl ne_a0_y_14_1)
  have c182 := c158.other W_29 (Or.inl ne_a0_y_14_1)
  have c183 := c159.other W_29 (Or.inl ne_a0_y_14_1)
  have c184 := c160.other W_29 (Or.inl ne_a0_y_14_1)
  have c185 := c161.other W_29 (Or.inl ne_a0_y_14_1)
  have c186 := c162.other W_29 (Or.inl ne_a0_y_14_1)
  have c187 := c163.other W_29 (Or.inl ne_a0_y_14_1)
  have c188 := c164.other W_29 ne_ro_y_14_1
  have c189 := c165.other W_29 ne_ba_y_14_1
  have c190 := c166.wr W_29
  have c191 := c167.other W_29 ne_ca4_y_14_1
  have c192 := c168.wr W_29
  have c193 := V_25.other W_29 ne_b_8_y_14_1
  have c194 := c169.other W_29 ne_b_14_y_14_1
  have c195 := c170.wr W_29
  have c196 := c171.other W_29 ne_y_14_0_y_14_1
  have c197 := c172.wr W_29
  have c198 := c174.wr W_29
  have c199 := c175.other W_29 (Ne.symm ne_y_14_1_y_14_2)
  have c200 := c176.wr W_29
  have V_29 : Arv Z h_29 y_14_1 kc_14 .double (3 : Int32) [(.double (FP.dmul (FP.dneg cd0) zv3)), (.double 0), (.double 0)] (.double 0) := Arv.set Ar_29 q_29 S_29 M_29 H_29 G_29 rfl W_29 0 rfl (Nat.le_of_ble_eq_true rfl)
  have N_29 := Fr.snoc X_29 N_25 g_y_14_1
  have Z0__29 : n0 ≤ h_29.size := by rw [W_29.size]; exact Z0__25
  refine og (fun t k => st_29 t k) ?_
  refine og (B := T_29.setTop (mkF m 171 #[rv a0, iv 4, rv ca4, iv 0, iv 1, iv zv1, oD zv3, oS] [(.ref a0)])) (fun t k => ?_) ?_
  · refine XS.aloadN X_29.here hx rfl (hb hby d15_170) rfl rfl ?_
    exact k
  obtain ⟨T_30, X_30, e_30, st_30⟩ := getF X_29 hx hZ hown (host := "") (Or.inl (ow hw 104 rfl)) Via.refl e_29 c185 (g := (mkF m 171 #[rv a0, iv 4, rv ca4, iv 0, iv 1, iv zv1, oD zv3, oS] [(.ref a0)])) rfl rfl (hb hby d15_171)
  refine og (fun t k => st_30 t k) ?_
  refine og (B := T_30.setTop (mkF m 176 #[rv a0, iv 4, rv ca4, iv 0, iv 1, iv zv1, oD zv3, oS] [(.int 1), (.ref b_14)])) (fun t k => ?_) ?_
  · refine XS.iload X_30.here hx rfl (hb hby d15_174) rfl ?_
    exact k
  obtain ⟨cl_31, Ar_31, q_31, S_31, M_31, H_31, G_31⟩ := id c194
  have hin_31 : ¬ ((1 : Int32) < 0 ∨ cl_31.slots.size ≤ ((1 : Int32)).toNatClampNeg) := inb_of S_31 ⟨by decide, by decide⟩
  have hat_31 : cl_31.slots[((1 : Int32)).toNatClampNeg]? = some (.ref y_14_1) := H_31.at hin_31 rfl
  refine og (B := T_30.setTop (mkF m 177 #[rv a0, iv 4, rv ca4, iv 0, iv 1, iv zv1, oD zv3, oS] [(.ref y_14_1)])) (fun t k => X_30.aaload hx (j := (1 : Int32)) (v := (.ref y_14_1)) (by rw [(e_30 : _ = _)]; exact Ar_31.1) (State.isArrayOf_alike hZ.alike Ar_31.2.1) rfl Ar_31.2.2 hin_31 hat_31 (g := (mkF m 176 #[rv a0, iv 4, rv ca4, iv 0, iv 1, iv zv1, oD zv3, oS] [(.int 1), (.ref b_14)])) rfl rfl (hb hby d15_176) t k) ?_
  refine og (B := T_30.setTop (mkF m 181 #[rv a0, iv 4, rv ca4, iv 0, iv 1, iv zv1, oD zv3, oS] [(.double zv3), (.int 1), (.ref y_14_1)])) (fun t k => ?_) ?_
  · refine XS.iload X_30.here hx rfl (hb hby d15_177) rfl ?_
    refine XS.dload X_30.here hx rfl (hb hby d15_179) rfl ?_
    exact k
  obtain ⟨cl_32, Ar_32, q_32, S_32, M_32, H_32, G_32⟩ := id V_29
  have hin_32 : ¬ ((1 : Int32) < 0 ∨ cl_32.slots.size ≤ ((1 : Int32)).toNatClampNeg) := inb_of S_32 ⟨by decide, by decide⟩
  obtain ⟨T_32, h_32, X_32, e_32, W_32, st_32⟩ := stD X_30 hx hZ e_30 Ar_32 (j := (1 : Int32)) hin_32 (g := (mkF m 181 #[rv a0, iv 4, rv ca4, iv 0, iv 1, iv zv1, oD zv3, oS] [(.double zv3), (.int 1), (.ref y_14_1)])) rfl rfl (hb hby d15_181)
  have c201 := c177.wr W_32 (Or.inr sz_y_14_1)
  have c202 := c178.wr W_32
  have c203 := c179.other W_32 (Or.inl ne_a0_y_14_1)
  have c204 := c180.other W_32 (Or.inl ne_a0_y_14_1)
  have c205 := c181.other W_32 (Or.inl ne_a0_y_14_1)
  have c206 := c182.other W_32 (Or.inl ne_a0_y_14_1)
  have c207 := c183.other W_32 (Or.inl ne_a0_y_14_1)
  have c208 := c184.other W_32 (Or.inl ne_a0_y_14_1)
  have c209 := c185.other W_32 (Or.inl ne_a0_y_14_1)
  have c210 := c186.other W_32 (Or.inl ne_a0_y_14_1)
  have c211 := c187.other W_32 (Or.inl ne_a0_y_14_1)
  have c212 := c188.other W_32 ne_ro_y_14_1
  have c213 := c189.other W_32 ne_ba_y_14_1
  have c214 := c190.wr W_32
  have c215 := c191.other W_32 ne_ca4_y_14_1
  have c216 := c192.wr W_32
  have c217 := c193.other W_32 ne_b_8_y_14_1
  have c218 := c194.other W_32 ne_b_14_y_14_1
  have c219 := c195.wr W_32
  have c220 := c196.other W_32 ne_y_14_0_y_14_1
  have c221 := c197.wr W_32
  have c222 := c198.wr W_32
  have c223 := c199.other W_32 (Ne.symm ne_y_14_1_y_14_2)
  have c224 := c200.wr W_32
  have V_32 : Arv Z h_32 y_14_1 kc_14 .double (3 : Int32) [(.double (FP.dmul (FP.dneg cd0) zv3)), (.double zv3), (.double 0)] (.double 0) := Arv.set Ar_32 q_32 S_32 M_32 H_32 G_32 rfl W_32 1 rfl (Nat.le_of_ble_eq_true rfl)
  have N_32 := Fr.snoc X_32 N_29 g_y_14_1
  have Z0__32 : n0 ≤ h_32.size := by rw [W_32.size]; exact Z0__29
  refine og (fun t k => st_32 t k) ?_
  refine og (B := T_32.setTop (mkF m 74 #[rv a0, iv 4, rv ca4, iv 1, iv 1, iv zv1, oD zv3, oS] [(.ref a0), (.int 1)])) (fun t k => ?_) ?_
  · refine XS.iinc X_32.here hx rfl (hb hby d15_182) rfl (l' := #[rv a0, iv 4, rv ca4, iv 1, iv 1, iv zv1, oD zv3, oS]) rfl ?_
    refine XS.goto X_32.here hx rfl (pc0 := 185) (pc' := 72) rfl (hb hby d15_185) (by decide) (by decide) ?_
    refine XS.iloadN X_32.here hx rfl (hb hby d15_72) rfl ?_
    refine XS.aloadN X_32.here hx rfl (hb hby d15_73) rfl rfl ?_
    exact k
  obtain ⟨T_33, X_33, e_33, st_33⟩ := getF X_32 hx hZ hown (host := "") (Or.inl (ow hw 48 rfl)) Via.refl e_32 c206 (g := (mkF m 74 #[rv a0, iv 4, rv ca4, iv 1, iv 1, iv zv1, oD zv3, oS] [(.ref a0), (.int 1)])) rfl rfl (hb hby d15_74)
  refine og (fun t k => st_33 t k) ?_
  refine og (B := T_33.setTop (mkF m 80 #[rv a0, iv 4, rv ca4, iv 1, iv 1, iv zv1, oD zv3, oS] [])) (fun t k => ?_) ?_
  · refine XS.icmpNo X_33.here hx rfl (hb hby d15_77) rfl (tlt (by decide : (1 : Int32) < (2 : Int32))).2.1 ?_
    exact k
  refine og (B := T_33.setTop (mkF m 88 #[rv a0, iv 4, rv ca4, iv 1, iv 2, iv zv1, oD zv3, oS] [(.int 2), (.ref ca4)])) (fun t k => ?_) ?_
  · refine XS.iloadN X_33.here hx rfl (hb hby d15_80) rfl ?_
    refine XS.iconst X_33.here hx rfl (hb hby d15_81) ?_
    refine XS.iadd X_33.here hx rfl (hb hby d15_82) rfl ?_
    refine XS.istore X_33.here hx rfl (hb hby d15_83) rfl (l' := #[rv a0, iv 4, rv ca4, iv 1, iv 2, iv zv1, oD zv3, oS]) rfl ?_
    refine XS.aloadN X_33.here hx rfl (hb hby d15_85) rfl rfl ?_
    refine XS.iload X_33.here hx rfl (hb hby d15_86) rfl ?_
    exact k
  obtain ⟨cl_34, Ar_34, q_34, S_34, M_34, H_34, G_34⟩ := id c215
  have hin_34 : ¬ ((2 : Int32) < 0 ∨ cl_34.slots.size ≤ ((2 : Int32)).toNatClampNeg) := inb_of S_34 ⟨by decide, by decide⟩
  have hat_34 : cl_34.slots[((2 : Int32)).toNatClampNeg]? = some (.double cd1) := H_34.at hin_34 rfl
  refine og (B := T_33.setTop (mkF m 89 #[rv a0, iv 4, rv ca4, iv 1, iv 2, iv zv1, oD zv3, oS] [(.double cd1)])) (fun t k => X_33.daload hx (j := (2 : Int32)) (v := (.double cd1)) (by rw [(e_33 : _ = _)]; exact Ar_34.1) (State.isArrayOf_alike hZ.alike Ar_34.2.1) Ar_34.2.2 hin_34 hat_34 (g := (mkF m 88 #[rv a0, iv 4, rv ca4, iv 1, iv 2, iv zv1, oD zv3, oS] [(.int 2), (.ref ca4)])) rfl rfl (hb hby d15_88) t k) ?_
  refine og (B := T_33.setTop (mkF m 91 #[rv a0, iv 4, rv ca4, iv 1, iv 2, iv zv1, oD zv3, oS] [(.int (cmpValue (FP.dcmp cd1 0) .g))])) (fun t k => ?_) ?_
  · refine XS.dconst0 X_33.here hx rfl (v := 0) (hb hby d15_89) rfl ?_
    refine XS.dcmpS X_33.here hx rfl (hb hby d15_90) rfl rfl ?_
    exact k
  obtain ⟨zv4, hzv4⟩ : ∃ zq : Int32, zq = (if (0 : Int32) < (cmpValue (FP.dcmp cd1 0) .g) then (0 : Int32) else (1 : Int32)) := ⟨_, rfl⟩
  refine og (B := T_33.setTop (mkF m 99 #[rv a0, iv 4, rv ca4, iv 1, iv 2, iv zv1, oD zv3, oS] [(.int zv4)])) (fun t k => ?_) ?_
  · show Steps p.tables e below (T_33.setTop (mkF m 91 #[rv a0, iv 4, rv ca4, iv 1, iv 2, iv zv1, oD zv3, oS] [(.int (cmpValue (FP.dcmp cd1 0) .g))])) _
    by_cases hc91 : (0 : Int32) < (cmpValue (FP.dcmp cd1 0) .g)
    · refine XS.ifYes X_33.here hx rfl (pc0 := 91) (pc' := 98) rfl (hb hby d15_91) rfl ((if0 _ _).trans (tlt hc91).2.2.1) (by decide) (by decide) ?_
      show Steps p.tables e below (T_33.setTop (mkF m 98 #[rv a0, iv 4, rv ca4, iv 1, iv 2, iv zv1, oD zv3, oS] [])) _
      refine XS.iconst X_33.here hx rfl (hb hby d15_98) ?_
      show Steps p.tables e below (T_33.setTop (mkF m 99 #[rv a0, iv 4, rv ca4, iv 1, iv 2, iv zv1, oD zv3, oS] [(.int 0)])) _
      rw [show zv4 = (0 : Int32) from by simp only [hzv4, if_pos hc91]] at k
      exact k
    · refine XS.ifNo X_33.here hx rfl (hb hby d15_91) rfl ((if0 _ _).trans (flt hc91).2.2.1) ?_
      show Steps p.tables e below (T_33.setTop (mkF m 94 #[rv a0, iv 4, rv ca4, iv 1, iv 2, iv zv1, oD zv3, oS] [])) _
      refine XS.iconst X_33.here hx rfl (hb hby d15_94) ?_
      show Steps p.tables e below (T_33.setTop (mkF m 95 #[rv a0, iv 4, rv ca4, iv 1, iv 2, iv zv1, oD zv3, oS] [(.int 1)])) _
      refine XS.goto X_33.here hx rfl (pc0 := 95) (pc' := 99) rfl (hb hby d15_95) (by decide) (by decide) ?_
      show Steps p.tables e below (T_33.setTop (mkF m 99 #[rv a0, iv 4, rv ca4, iv 1, iv 2, iv zv1, oD zv3, oS] [(.int 1)])) _
      rw [show zv4 = (1 : Int32) from by simp only [hzv4, if_neg hc91]] at k
      exact k
  refine og (B := T_33.setTop (mkF m 102 #[rv a0, iv 4, rv ca4, iv 1, iv 2, iv zv4, oD zv3, oS] [(.ref a0)])) (fun t k => ?_) ?_
  · refine XS.istore X_33.here hx rfl (hb hby d15_99) rfl (l' := #[rv a0, iv 4, rv ca4, iv 1, iv 2, iv zv4, oD zv3, oS]) rfl ?_
    refine XS.aloadN X_33.here hx rfl (hb hby d15_101) rfl rfl ?_
    exact k
  obtain ⟨T_35, X_35, e_35, st_35⟩ := getF X_33 hx hZ hown (host := "") (Or.inl (ow hw 52 rfl)) Via.refl e_33 c208 (g := (mkF m 102 #[rv a0, iv 4, rv ca4, iv 1, iv 2, iv zv4, oD zv3, oS] [(.ref a0)])) rfl rfl (hb hby d15_102)
  refine og (fun t k => st_35 t k) ?_
  refine og (B := T_35.setTop (mkF m 109 #[rv a0, iv 4, rv ca4, iv 1, iv 2, iv zv4, oD zv3, oS] [(.int zv4), (.int 2), (.ref ba)])) (fun t k => ?_) ?_
  · refine XS.iload X_35.here hx rfl (hb hby d15_105) rfl ?_
    refine XS.iload X_35.here hx rfl (hb hby d15_107) rfl ?_
    exact k
  obtain ⟨zv5, hzv5⟩ : ∃ zq : Int32, zq = (if zv4 = (0 : Int32) then (3 : Int32) else (2 : Int32)) := ⟨_, rfl⟩
  refine og (B := T_35.setTop (mkF m 123 #[rv a0, iv 4, rv ca4, iv 1, iv 2, iv zv4, oD zv3, oS] [(.int zv5), (.int 2), (.ref ba)])) (fun t k => ?_) ?_
  · show Steps p.tables e below (T_35.setTop (mkF m 109 #[rv a0, iv 4, rv ca4, iv 1, iv 2, iv zv4, oD zv3, oS] [(.int zv4), (.int 2), (.ref ba)])) _
    by_cases hc109 : zv4 = (0 : Int32)
    · refine XS.ifYes X_35.here hx rfl (pc0 := 109) (pc' := 118) rfl (hb hby d15_109) rfl ((if0 _ _).trans (teq hc109).1) (by decide) (by decide) ?_
      show Steps p.tables e below (T_35.setTop (mkF m 118 #[rv a0, iv 4, rv ca4, iv 1, iv 2, iv zv4, oD zv3, oS] [(.int 2), (.ref ba)])) _
      refine XS.iconst X_35.here hx rfl (hb hby d15_118) ?_
      show Steps p.tables e below (T_35.setTop (mkF m 119 #[rv a0, iv 4, rv ca4, iv 1, iv 2, iv zv4, oD zv3, oS] [(.int 2), (.int 2), (.ref ba)])) _
      refine XS.iloadN X_35.here hx rfl (hb hby d15_119) rfl ?_
      show Steps p.tables e below (T_35.setTop (mkF m 120 #[rv a0, iv 4, rv ca4, iv 1, iv 2, iv zv4, oD zv3, oS] [(.int 1), (.int 2), (.int 2), (.ref ba)])) _
      refine XS.imul X_35.here hx rfl (hb hby d15_120) rfl ?_
      show Steps p.tables e below (T_35.setTop (mkF m 121 #[rv a0, iv 4, rv ca4, iv 1, iv 2, iv zv4, oD zv3, oS] [(.int 2), (.int 2), (.ref ba)])) _
      refine XS.iconst X_35.here hx rfl (hb hby d15_121) ?_
      show Steps p.tables e below (T_35.setTop (mkF m 122 #[rv a0, iv 4, rv ca4, iv 1, iv 2, iv zv4, oD zv3, oS] [(.int 1), (.int 2), (.int 2), (.ref ba)])) _
      refine XS.iadd X_35.here hx rfl (hb hby d15_122) rfl ?_
      show Steps p.tables e below (T_35.setTop (mkF m 123 #[rv a0, iv 4, rv ca4, iv 1, iv 2, iv zv4, oD zv3, oS] [(.int 3), (.int 2), (.ref ba)])) _
      rw [show zv5 = (3 : Int32) from by simp only [hzv5, if_pos hc109]] at k
      exact k
    · refine XS.ifNo X_35.here hx rfl (hb hby d15_109) rfl ((if0 _ _).trans (feq hc109).1) ?_
      show Steps p.tables e below (T_35.setTop (mkF m 112 #[rv a0, iv 4, rv ca4, iv 1, iv 2, iv zv4, oD zv3, oS] [(.int 2), (.ref ba)])) _
      refine XS.iconst X_35.here hx rfl (hb hby d15_112) ?_
      show Steps p.tables e below (T_35.setTop (mkF m 113 #[rv a0, iv 4, rv ca4, iv 1, iv 2, iv zv4, oD zv3, oS] [(.int 2), (.int 2), (.ref ba)])) _
      refine XS.iloadN X_35.here hx rfl (hb hby d15_113) rfl ?_
      show Steps p.tables e below (T_35.setTop (mkF m 114 #[rv a0, iv 4, rv ca4, iv 1, iv 2, iv zv4, oD zv3, oS] [(.int 1), (.int 2), (.int 2), (.ref ba)])) _
      refine XS.imul X_35.here hx rfl (hb hby d15_114) rfl ?_
      show Steps p.tables e below (T_35.setTop (mkF m 115 #[rv a0, iv 4, rv ca4, iv 1, iv 2, iv zv4, oD zv3, oS] [(.int 2), (.int 2), (.ref ba)])) _
      refine XS.goto X_35.here hx rfl (pc0 := 115) (pc' := 123) rfl (hb hby d15_115) (by decide) (by decide) ?_
      show Steps p.tables e below (T_35.setTop (mkF m 123 #[rv a0, iv 4, rv ca4, iv 1, iv 2, iv zv4, oD zv3, oS] [(.int 2), (.int 2), (.ref ba)])) _
      rw [show zv5 = (2 : Int32) from by simp only [hzv5, if_neg hc109]] at k
      exact k
  obtain ⟨cl_36, Ar_36, q_36, S_36, M_36, H_36, G_36⟩ := id c213
  have hin_36 : ¬ ((2 : Int32) < 0 ∨ cl_36.slots.size ≤ ((2 : Int32)).toNatClampNeg) := inb_of S_36 ⟨by decide, by decide⟩
  obtain ⟨T_36, h_36, X_36, e_36, W_36, st_36⟩ := stI X_35 hx hZ e_35 Ar_36 (j := (2 : Int32)) hin_36 (g := (mkF m 123 #[rv a0, iv 4, rv ca4, iv 1, iv 2, iv zv4, oD zv3, oS] [(.int zv5), (.int 2), (.ref ba)])) rfl rfl (hb hby d15_123)
  have c225 := c201.wr W_36 (Or.inl (List.mem_of_getElem? (i := 2) rfl))
  have c226 := c202.wr W_36
  have c227 := c203.other W_36 (Or.inl ne_a0_ba)
  have c228 := c204.other W_36 (Or.inl ne_a0_ba)
  have c229 := c205.other W_36 (Or.inl ne_a0_ba)
  have c230 := c206.other W_36 (Or.inl ne_a0_ba)
  have c231 := c207.other W_36 (Or.inl ne_a0_ba)
  have c232 := c208.other W_36 (Or.inl ne_a0_ba)
  have c233 := c209.other W_36 (Or.inl ne_a0_ba)
  have c234 := c210.other W_36 (Or.inl ne_a0_ba)
  have c235 := c211.other W_36 (Or.inl ne_a0_ba)
  have c236 := c212.other W_36 ne_ro_ba
  have c237 := c214.wr W_36
  have c238 := c215.other W_36 (Ne.symm ne_ba_ca4)
  have c239 := c216.wr W_36
  have c240 := c217.other W_36 (Ne.symm ne_ba_b_8)
  have c241 := c218.other W_36 (Ne.symm ne_ba_b_14)
  have c242 := c219.wr W_36
  have c243 := c220.other W_36 (Ne.symm ne_ba_y_14_0)
  have c244 := c221.wr W_36
  have c245 := V_32.other W_36 (Ne.symm ne_ba_y_14_1)
  have c246 := c222.wr W_36
  have c247 := c223.other W_36 (Ne.symm ne_ba_y_14_2)
  have c248 := c224.wr W_36
  have V_36 : Arv Z h_36 ba kq .int (3 : Int32) [(.int 4), (.int zv2), (.int zv5)] (.int (0 : Int32)) := Arv.set Ar_36 q_36 S_36 M_36 H_36 G_36 rfl W_36 2 rfl (Nat.le_of_ble_eq_true rfl)
  have N_36 := Fr.snoc X_36 N_32 g_ba
  have Z0__36 : n0 ≤ h_36.size := by rw [W_36.size]; exact Z0__32
  refine og (fun t k => st_36 t k) ?_
  refine og (B := T_36.setTop (mkF m 126 #[rv a0, iv 4, rv ca4, iv 1, iv 2, iv zv4, oD zv3, oS] [(.int zv4)])) (fun t k => ?_) ?_
  · refine XS.iload X_36.here hx rfl (hb hby d15_124) rfl ?_
    exact k
  obtain ⟨zv6, hzv6⟩ : ∃ zq : UInt64, zq = (if zv4 = (0 : Int32) then 13830554455654793216 else 4607182418800017408) := ⟨_, rfl⟩
  refine og (B := T_36.setTop (mkF m 136 #[rv a0, iv 4, rv ca4, iv 1, iv 2, iv zv4, oD zv3, oS] [(.double zv6)])) (fun t k => ?_) ?_
  · show Steps p.tables e below (T_36.setTop (mkF m 126 #[rv a0, iv 4, rv ca4, iv 1, iv 2, iv zv4, oD zv3, oS] [(.int zv4)])) _
    by_cases hc126 : zv4 = (0 : Int32)
    · refine XS.ifYes X_36.here hx rfl (pc0 := 126) (pc' := 133) rfl (hb hby d15_126) rfl ((if0 _ _).trans (teq hc126).1) (by decide) (by decide) ?_
      show Steps p.tables e below (T_36.setTop (mkF m 133 #[rv a0, iv 4, rv ca4, iv 1, iv 2, iv zv4, oD zv3, oS] [])) _
      refine X_36.ldc2DoubleC hx hown (mvT hZ (ow hw 98 rfl)) (g := (mkF m 133 #[rv a0, iv 4, rv ca4, iv 1, iv 2, iv zv4, oD zv3, oS] [])) rfl (hb hby d15_133) _ ?_
      show Steps p.tables e below (T_36.setTop (mkF m 136 #[rv a0, iv 4, rv ca4, iv 1, iv 2, iv zv4, oD zv3, oS] [(.double 13830554455654793216)])) _
      rw [show zv6 = 13830554455654793216 from by simp only [hzv6, if_pos hc126]] at k
      exact k
    · refine XS.ifNo X_36.here hx rfl (hb hby d15_126) rfl ((if0 _ _).trans (feq hc126).1) ?_
      show Steps p.tables e below (T_36.setTop (mkF m 129 #[rv a0, iv 4, rv ca4, iv 1, iv 2, iv zv4, oD zv3, oS] [])) _
      refine XS.dconst1 X_36.here hx rfl (v := 4607182418800017408) (hb hby d15_129) rfl ?_
      show Steps p.tables e below (T_36.setTop (mkF m 130 #[rv a0, iv 4, rv ca4, iv 1, iv 2, iv zv4, oD zv3, oS] [(.double 4607182418800017408)])) _
      refine XS.goto X_36.here hx rfl (pc0 := 130) (pc' := 136) rfl (hb hby d15_130) (by decide) (by decide) ?_
      show Steps p.tables e below (T_36.setTop (mkF m 136 #[rv a0, iv 4, rv ca4, iv 1, iv 2, iv zv4, oD zv3, oS] [(.double 4607182418800017408)])) _
      rw [show zv6 = 4607182418800017408 from by simp only [hzv6, if_neg hc126]] at k
      exact k
  refine og (B := T_36.setTop (mkF m 139 #[rv a0, iv 4, rv ca4, iv 1, iv 2, iv zv4, oD zv6, oS] [(.ref a0)])) (fun t k => ?_) ?_
  · refine XS.dstore X_36.here hx rfl (hb hby d15_136) rfl (l' := #[rv a0, iv 4, rv ca4, iv 1, iv 2, iv zv4, oD zv6, oS]) rfl ?_
    refine XS.aloadN X_36.here hx rfl (hb hby d15_138) rfl rfl ?_
    exact k
  obtain ⟨T_37, X_37, e_37, st_37⟩ := getF X_36 hx hZ hown (host := "") (Or.inl (ow hw 133 rfl)) Via.refl e_36 c234 (g := (mkF m 139 #[rv a0, iv 4, rv ca4, iv 1, iv 2, iv zv4, oD zv6, oS] [(.ref a0)])) rfl rfl (hb hby d15_139)
  refine og (fun t k => st_37 t k) ?_
  refine og (B := T_37.setTop (mkF m 147 #[rv a0, iv 4, rv ca4, iv 1, iv 2, iv zv4, oD zv6, oS] [(.int 2), (.ref ca4), (.int 2), (.ref b_8)])) (fun t k => ?_) ?_
  · refine XS.iload X_37.here hx rfl (hb hby d15_142) rfl ?_
    refine XS.aloadN X_37.here hx rfl (hb hby d15_144) rfl rfl ?_
    refine XS.iload X_37.here hx rfl (hb hby d15_145) rfl ?_
    exact k
  obtain ⟨cl_38, Ar_38, q_38, S_38, M_38, H_38, G_38⟩ := id c238
  have hin_38 : ¬ ((2 : Int32) < 0 ∨ cl_38.slots.size ≤ ((2 : Int32)).toNatClampNeg) := inb_of S_38 ⟨by decide, by decide⟩
  have hat_38 : cl_38.slots[((2 : Int32)).toNatClampNeg]? = some (.double cd1) := H_38.at hin_38 rfl
  refine og (B := T_37.setTop (mkF m 148 #[rv a0, iv 4, rv ca4, iv 1, iv 2, iv zv4, oD zv6, oS] [(.double cd1), (.int 2), (.ref b_8)])) (fun t k => X_37.daload hx (j := (2 : Int32)) (v := (.double cd1)) (by rw [(e_37 : _ = _)]; exact Ar_38.1) (State.isArrayOf_alike hZ.alike Ar_38.2.1) Ar_38.2.2 hin_38 hat_38 (g := (mkF m 147 #[rv a0, iv 4, rv ca4, iv 1, iv 2, iv zv4, oD zv6, oS] [(.int 2), (.ref ca4), (.int 2), (.ref b_8)])) rfl rfl (hb hby d15_147) t k) ?_
  refine og (B := T_37.setTop (mkF m 152 #[rv a0, iv 4, rv ca4, iv 1, iv 2, iv zv4, oD zv6, oS] [(.double (FP.dmul (FP.dneg cd1) zv6)), (.int 2), (.ref b_8)])) (fun t k => ?_) ?_
  · refine XS.dnegS X_37.here hx rfl (hb hby d15_148) rfl rfl ?_
    refine XS.dload X_37.here hx rfl (hb hby d15_149) rfl ?_
    refine XS.dmulS X_37.here hx rfl (hb hby d15_151) rfl (hn1 _ (own_or hzv6)) rfl ?_
    exact k
  obtain ⟨cl_39, Ar_39, q_39, S_39, M_39, H_39, G_39⟩ := id c240
  have hin_39 : ¬ ((2 : Int32) < 0 ∨ cl_39.slots.size ≤ ((2 : Int32)).toNatClampNeg) := inb_of S_39 ⟨by decide, by decide⟩
  obtain ⟨T_39, h_39, X_39, e_39, W_39, st_39⟩ := stD X_37 hx hZ e_37 Ar_39 (j := (2 : Int32)) hin_39 (g := (mkF m 152 #[rv a0, iv 4, rv ca4, iv 1, iv 2, iv zv4, oD zv6, oS] [(.double (FP.dmul (FP.dneg cd1) zv6)), (.int 2), (.ref b_8)])) rfl rfl (hb hby d15_152)
  have c249 := c225.wr W_39 (Or.inr sz_b_8)
  have c250 := c226.wr W_39
  have c251 := c227.other W_39 (Or.inl ne_a0_b_8)
  have c252 := c228.other W_39 (Or.inl ne_a0_b_8)
  have c253 := c229.other W_39 (Or.inl ne_a0_b_8)
  have c254 := c230.other W_39 (Or.inl ne_a0_b_8)
  have c255 := c231.other W_39 (Or.inl ne_a0_b_8)
  have c256 := c232.other W_39 (Or.inl ne_a0_b_8)
  have c257 := c233.other W_39 (Or.inl ne_a0_b_8)
  have c258 := c234.other W_39 (Or.inl ne_a0_b_8)
  have c259 := c235.other W_39 (Or.inl ne_a0_b_8)
  have c260 := c236.other W_39 ne_ro_b_8
  have c261 := V_36.other W_39 ne_ba_b_8
  have c262 := c237.wr W_39
  have c263 := c238.other W_39 ne_ca4_b_8
  have c264 := c239.wr W_39
  have c265 := c241.other W_39 (Ne.symm ne_b_8_b_14)
  have c266 := c242.wr W_39
  have c267 := c243.other W_39 (Ne.symm ne_b_8_y_14_0)
  have c268 := c244.wr W_39
  have c269 := c245.other W_39 (Ne.symm ne_b_8_y_14_1)
  have c270 := c246.wr W_39
  have c271 := c247.other W_39 (Ne.symm ne_b_8_y_14_2)
  have c272 := c248.wr W_39
  have V_39 : Arv Z h_39 b_8 k_8 .double (3 : Int32) [(.double 4607182418800017408), (.double (FP.dmul (FP.dneg cd0) zv3)), (.double (FP.dmul (FP.dneg cd1) zv6))] (.double 0) := Arv.set Ar_39 q_39 S_39 M_39 H_39 G_39 rfl W_39 2 rfl (Nat.le_of_ble_eq_true rfl)
  have N_39 := Fr.snoc X_39 N_36 g_b_8
  have Z0__39 : n0 ≤ h_39.size := by rw [W_39.size]; exact Z0__36
  refine og (fun t k => st_39 t k) ?_
  refine og (B := T_39.setTop (mkF m 154 #[rv a0, iv 4, rv ca4, iv 1, iv 2, iv zv4, oD zv6, oS] [(.ref a0)])) (fun t k => ?_) ?_
  · refine XS.aloadN X_39.here hx rfl (hb hby d15_153) rfl rfl ?_
    exact k
  obtain ⟨T_40, X_40, e_40, st_40⟩ := getF X_39 hx hZ hown (host := "") (Or.inl (ow hw 104 rfl)) Via.refl e_39 c257 (g := (mkF m 154 #[rv a0, iv 4, rv ca4, iv 1, iv 2, iv zv4, oD zv6, oS] [(.ref a0)])) rfl rfl (hb hby d15_154)
  refine og (fun t k => st_40 t k) ?_
  refine og (B := T_40.setTop (mkF m 159 #[rv a0, iv 4, rv ca4, iv 1, iv 2, iv zv4, oD zv6, oS] [(.int 2), (.ref b_14)])) (fun t k => ?_) ?_
  · refine XS.iload X_40.here hx rfl (hb hby d15_157) rfl ?_
    exact k
  obtain ⟨cl_41, Ar_41, q_41, S_41, M_41, H_41, G_41⟩ := id c265
  have hin_41 : ¬ ((2 : Int32) < 0 ∨ cl_41.slots.size ≤ ((2 : Int32)).toNatClampNeg) := inb_of S_41 ⟨by decide, by decide⟩
  have hat_41 : cl_41.slots[((2 : Int32)).toNatClampNeg]? = some (.ref y_14_2) := H_41.at hin_41 rfl
  refine og (B := T_40.setTop (mkF m 160 #[rv a0, iv 4, rv ca4, iv 1, iv 2, iv zv4, oD zv6, oS] [(.ref y_14_2)])) (fun t k => X_40.aaload hx (j := (2 : Int32)) (v := (.ref y_14_2)) (by rw [(e_40 : _ = _)]; exact Ar_41.1) (State.isArrayOf_alike hZ.alike Ar_41.2.1) rfl Ar_41.2.2 hin_41 hat_41 (g := (mkF m 159 #[rv a0, iv 4, rv ca4, iv 1, iv 2, iv zv4, oD zv6, oS] [(.int 2), (.ref b_14)])) rfl rfl (hb hby d15_159) t k) ?_
  refine og (B := T_40.setTop (mkF m 164 #[rv a0, iv 4, rv ca4, iv 1, iv 2, iv zv4, oD zv6, oS] [(.int 2), (.ref ca4), (.int 0), (.ref y_14_2)])) (fun t k => ?_) ?_
  · refine XS.iconst X_40.here hx rfl (hb hby d15_160) ?_
    refine XS.aloadN X_40.here hx rfl (hb hby d15_161) rfl rfl ?_
    refine XS.iload X_40.here hx rfl (hb hby d15_162) rfl ?_
    exact k
  obtain ⟨cl_42, Ar_42, q_42, S_42, M_42, H_42, G_42⟩ := id c263
  have hin_42 : ¬ ((2 : Int32) < 0 ∨ cl_42.slots.size ≤ ((2 : Int32)).toNatClampNeg) := inb_of S_42 ⟨by decide, by decide⟩
  have hat_42 : cl_42.slots[((2 : Int32)).toNatClampNeg]? = some (.double cd1) := H_42.at hin_42 rfl
  refine og (B := T_40.setTop (mkF m 165 #[rv a0, iv 4, rv ca4, iv 1, iv 2, iv zv4, oD zv6, oS] [(.double cd1), (.int 0), (.ref y_14_2)])) (fun t k => X_40.daload hx (j := (2 : Int32)) (v := (.double cd1)) (by rw [(e_40 : _ = _)]; exact Ar_42.1) (State.isArrayOf_alike hZ.alike Ar_42.2.1) Ar_42.2.2 hin_42 hat_42 (g := (mkF m 164 #[rv a0, iv 4, rv ca4, iv 1, iv 2, iv zv4, oD zv6, oS] [(.int 2), (.ref ca4), (.int 0), (.ref y_14_2)])) rfl rfl (hb hby d15_164) t k) ?_
  refine og (B := T_40.setTop (mkF m 169 #[rv a0, iv 4, rv ca4, iv 1, iv 2, iv zv4, oD zv6, oS] [(.double (FP.dmul (FP.dneg cd1) zv6)), (.int 0), (.ref y_14_2)])) (fun t k => ?_) ?_
  · refine XS.dnegS X_40.here hx rfl (hb hby d15_165) rfl rfl ?_
    refine XS.dload X_40.here hx rfl (hb hby d15_166) rfl ?_
    refine XS.dmulS X_40.here hx rfl (hb hby d15_168) rfl (hn1 _ (own_or hzv6)) rfl ?_
    exact k
  obtain ⟨cl_43, Ar_43, q_43, S_43, M_43, H_43, G_43⟩ := id c271
  have hin_43 : ¬ ((0 : Int32) < 0 ∨ cl_43.slots.size ≤ ((0 : Int32)).toNatClampNeg) := inb_of S_43 ⟨by decide, by decide⟩
  obtain ⟨T_43, h_43, X_43, e_43, W_43, st_43⟩ := stD X_40 hx hZ e_40 Ar_43 (j := (0 : Int32)) hin_43 (g := (mkF m 169 #[rv a0, iv 4, rv ca4, iv 1, iv 2, iv zv4, oD zv6, oS] [(.double (FP.dmul (FP.dneg cd1) zv6)), (.int 0), (.ref y_14_2)])) rfl rfl (hb hby d15_169)
  have c273 := c249.wr W_43 (Or.inr sz_y_14_2)
  have c274 := c250.wr W_43
  have c275 := c251.other W_43 (Or.inl ne_a0_y_14_2)
  have c276 := c252.other W_43 (Or.inl ne_a0_y_14_2)
  have c277 := c253.other W_43 (Or.inl ne_a0_y_14_2)
  have c278 := c254.other W_43 (Or.inl ne_a0_y_14_2)
  have c279 := c255.other W_43 (Or.inl ne_a0_y_14_2)
  have c280 := c256.other W_43 (Or.inl ne_a0_y_14_2)
  have c281 := c257.other W_43 (Or.inl ne_a0_y_14_2)
  have c282 := c258.other W_43 (Or.inl ne_a0_y_14_2)
  have c283 := c259.other W_43 (Or.inl ne_a0_y_14_2)
  have c284 := c260.other W_43 ne_ro_y_14_2
  have c285 := c261.other W_43 ne_ba_y_14_2
  have c286 := c262.wr W_43
  have c287 := c263.other W_43 ne_ca4_y_14_2
  have c288 := c264.wr W_43
  have c289 := V_39.other W_43 ne_b_8_y_14_2
  have c290 := c265.other W_43 ne_b_14_y_14_2
  have c291 := c266.wr W_43
  have c292 := c267.other W_43 ne_y_14_0_y_14_2
  have c293 := c268.wr W_43
  have c294 := c269.other W_43 ne_y_14_1_y_14_2
  have c295 := c270.wr W_43
  have c296 := c272.wr W_43
  have V_43 : Arv Z h_43 y_14_2 kc_14 .double (3 : Int32) [(.double (FP.dmul (FP.dneg cd1) zv6)), (.double 0), (.double 0)] (.double 0) := Arv.set Ar_43 q_43 S_43 M_43 H_43 G_43 rfl W_43 0 rfl (Nat.le_of_ble_eq_true rfl)
  have N_43 := Fr.snoc X_43 N_39 g_y_14_2
  have Z0__43 : n0 ≤ h_43.size := by rw [W_43.size]; exact Z0__39
  refine og (fun t k => st_43 t k) ?_
  refine og (B := T_43.setTop (mkF m 171 #[rv a0, iv 4, rv ca4, iv 1, iv 2, iv zv4, oD zv6, oS] [(.ref a0)])) (fun t k => ?_) ?_
  · refine XS.aloadN X_43.here hx rfl (hb hby d15_170) rfl rfl ?_
    exact k
  obtain ⟨T_44, X_44, e_44, st_44⟩ := getF X_43 hx hZ hown (host := "") (Or.inl (ow hw 104 rfl)) Via.refl e_43 c281 (g := (mkF m 171 #[rv a0, iv 4, rv ca4, iv 1, iv 2, iv zv4, oD zv6, oS] [(.ref a0)])) rfl rfl (hb hby d15_171)
  refine og (fun t k => st_44 t k) ?_
  refine og (B := T_44.setTop (mkF m 176 #[rv a0, iv 4, rv ca4, iv 1, iv 2, iv zv4, oD zv6, oS] [(.int 2), (.ref b_14)])) (fun t k => ?_) ?_
  · refine XS.iload X_44.here hx rfl (hb hby d15_174) rfl ?_
    exact k
  obtain ⟨cl_45, Ar_45, q_45, S_45, M_45, H_45, G_45⟩ := id c290
  have hin_45 : ¬ ((2 : Int32) < 0 ∨ cl_45.slots.size ≤ ((2 : Int32)).toNatClampNeg) := inb_of S_45 ⟨by decide, by decide⟩
  have hat_45 : cl_45.slots[((2 : Int32)).toNatClampNeg]? = some (.ref y_14_2) := H_45.at hin_45 rfl
  refine og (B := T_44.setTop (mkF m 177 #[rv a0, iv 4, rv ca4, iv 1, iv 2, iv zv4, oD zv6, oS] [(.ref y_14_2)])) (fun t k => X_44.aaload hx (j := (2 : Int32)) (v := (.ref y_14_2)) (by rw [(e_44 : _ = _)]; exact Ar_45.1) (State.isArrayOf_alike hZ.alike Ar_45.2.1) rfl Ar_45.2.2 hin_45 hat_45 (g := (mkF m 176 #[rv a0, iv 4, rv ca4, iv 1, iv 2, iv zv4, oD zv6, oS] [(.int 2), (.ref b_14)])) rfl rfl (hb hby d15_176) t k) ?_
  refine og (B := T_44.setTop (mkF m 181 #[rv a0, iv 4, rv ca4, iv 1, iv 2, iv zv4, oD zv6, oS] [(.double zv6), (.int 2), (.ref y_14_2)])) (fun t k => ?_) ?_
  · refine XS.iload X_44.here hx rfl (hb hby d15_177) rfl ?_
    refine XS.dload X_44.here hx rfl (hb hby d15_179) rfl ?_
    exact k
  obtain ⟨cl_46, Ar_46, q_46, S_46, M_46, H_46, G_46⟩ := id V_43
  have hin_46 : ¬ ((2 : Int32) < 0 ∨ cl_46.slots.size ≤ ((2 : Int32)).toNatClampNeg) := inb_of S_46 ⟨by decide, by decide⟩
  obtain ⟨T_46, h_46, X_46, e_46, W_46, st_46⟩ := stD X_44 hx hZ e_44 Ar_46 (j := (2 : Int32)) hin_46 (g := (mkF m 181 #[rv a0, iv 4, rv ca4, iv 1, iv 2, iv zv4, oD zv6, oS] [(.double zv6), (.int 2), (.ref y_14_2)])) rfl rfl (hb hby d15_181)
  have c297 := c273.wr W_46 (Or.inr sz_y_14_2)
  have c298 := c274.wr W_46
  have c299 := c275.other W_46 (Or.inl ne_a0_y_14_2)
  have c300 := c276.other W_46 (Or.inl ne_a0_y_14_2)
  have c301 := c277.other W_46 (Or.inl ne_a0_y_14_2)
  have c302 := c278.other W_46 (Or.inl ne_a0_y_14_2)
  have c303 := c279.other W_46 (Or.inl ne_a0_y_14_2)
  have c304 := c280.other W_46 (Or.inl ne_a0_y_14_2)
  have c305 := c281.other W_46 (Or.inl ne_a0_y_14_2)
  have c306 := c282.other W_46 (Or.inl ne_a0_y_14_2)
  have c307 := c283.other W_46 (Or.inl ne_a0_y_14_2)
  have c308 := c284.other W_46 ne_ro_y_14_2
  have c309 := c285.other W_46 ne_ba_y_14_2
  have c310 := c286.wr W_46
  have c311 := c287.other W_46 ne_ca4_y_14_2
  have c312 := c288.wr W_46
  have c313 := c289.other W_46 ne_b_8_y_14_2
  have c314 := c290.other W_46 ne_b_14_y_14_2
  have c315 := c291.wr W_46
  have c316 := c292.other W_46 ne_y_14_0_y_14_2
  have c317 := c293.wr W_46
  have c318 := c294.other W_46 ne_y_14_1_y_14_2
  have c319 := c295.wr W_46
  have c320 := c296.wr W_46
  have V_46 : Arv Z h_46 y_14_2 kc_14 .double (3 : Int32) [(.double (FP.dmul (FP.dneg cd1) zv6)), (.double 0), (.double zv6)] (.double 0) := Arv.set Ar_46 q_46 S_46 M_46 H_46 G_46 rfl W_46 2 rfl (Nat.le_of_ble_eq_true rfl)
  have N_46 := Fr.snoc X_46 N_43 g_y_14_2
  have Z0__46 : n0 ≤ h_46.size := by rw [W_46.size]; exact Z0__43
  refine og (fun t k => st_46 t k) ?_
  refine og (B := T_46.setTop (mkF m 74 #[rv a0, iv 4, rv ca4, iv 2, iv 2, iv zv4, oD zv6, oS] [(.ref a0), (.int 2)])) (fun t k => ?_) ?_
  · refine XS.iinc X_46.here hx rfl (hb hby d15_182) rfl (l' := #[rv a0, iv 4, rv ca4, iv 2, iv 2, iv zv4, oD zv6, oS]) rfl ?_
    refine XS.goto X_46.here hx rfl (pc0 := 185) (pc' := 72) rfl (hb hby d15_185) (by decide) (by decide) ?_
    refine XS.iloadN X_46.here hx rfl (hb hby d15_72) rfl ?_
    refine XS.aloadN X_46.here hx rfl (hb hby d15_73) rfl rfl ?_
    exact k
  obtain ⟨T_47, X_47, e_47, st_47⟩ := getF X_46 hx hZ hown (host := "") (Or.inl (ow hw 48 rfl)) Via.refl e_46 c302 (g := (mkF m 74 #[rv a0, iv 4, rv ca4, iv 2, iv 2, iv zv4, oD zv6, oS] [(.ref a0), (.int 2)])) rfl rfl (hb hby d15_74)
  refine og (fun t k => st_47 t k) ?_
  refine og (B := T_47.setTop (mkF m 188 #[rv a0, iv 4, rv ca4, iv 2, iv 2, iv zv4, oD zv6, oS] [])) (fun t k => ?_) ?_
  · refine XS.icmpYes X_47.here hx rfl (pc0 := 77) (pc' := 188) rfl (hb hby d15_77) rfl (flt (by decide : ¬ ((2 : Int32) < (2 : Int32)))).2.1 (by decide) (by decide) ?_
    exact k
  refine og (B := T_47.setTop (mkF m 192 #[rv a0, iv 4, rv ca4, iv 0, iv 2, iv zv4, oD zv6, oS] [(.ref a0), (.int 0)])) (fun t k => ?_) ?_
  · refine XS.iconst X_47.here hx rfl (hb hby d15_188) ?_
    refine XS.istoreN X_47.here hx rfl (hb hby d15_189) rfl (l' := #[rv a0, iv 4, rv ca4, iv 0, iv 2, iv zv4, oD zv6, oS]) rfl ?_
    refine XS.iloadN X_47.here hx rfl (hb hby d15_190) rfl ?_
    refine XS.aloadN X_47.here hx rfl (hb hby d15_191) rfl rfl ?_
    exact k
  have sg0 := own_st hzv1 hzv2 hzv3
  have sg1 := own_st hzv4 hzv5 hzv6
  obtain ⟨T_48, X_48, e_48, st_48⟩ := getF X_47 hx hZ hown (host := "") (Or.inl (ow hw 50 rfl)) Via.refl e_47 c303 (g := (mkF m 192 #[rv a0, iv 4, rv ca4, iv 0, iv 2, iv zv4, oD zv6, oS] [(.ref a0), (.int 0)])) rfl rfl (hb hby d15_192)
  refine og (fun t k => st_48 t k) ?_
  refine og (B := T_48.setTop (mkF m 198 #[rv a0, iv 4, rv ca4, iv 0, iv 2, iv zv4, oD zv6, oS] [])) (fun t k => ?_) ?_
  · refine XS.icmpNo X_48.here hx rfl (hb hby d15_195) rfl (tlt (by decide : (0 : Int32) < (3 : Int32))).2.1 ?_
    exact k
  refine og (B := T_48.setTop (mkF m 199 #[rv a0, iv 4, rv ca4, iv 0, iv 2, iv zv4, oD zv6, oS] [(.ref a0)])) (fun t k => ?_) ?_
  · refine XS.aloadN X_48.here hx rfl (hb hby d15_198) rfl rfl ?_
    exact k
  obtain ⟨T_49, X_49, e_49, st_49⟩ := getF X_48 hx hZ hown (host := "") (Or.inl (ow hw 46 rfl)) Via.refl e_48 c301 (g := (mkF m 199 #[rv a0, iv 4, rv ca4, iv 0, iv 2, iv zv4, oD zv6, oS] [(.ref a0)])) rfl rfl (hb hby d15_199)
  refine og (fun t k => st_49 t k) ?_
  refine og (B := T_49.setTop (mkF m 203 #[rv a0, iv 4, rv ca4, iv 0, iv 2, iv zv4, oD zv6, oS] [(.ref a0), (.ref ro)])) (fun t k => ?_) ?_
  · refine XS.aloadN X_49.here hx rfl (hb hby d15_202) rfl rfl ?_
    exact k
  obtain ⟨T_50, X_50, e_50, st_50⟩ := getF X_49 hx hZ hown (host := "") (Or.inl (ow hw 52 rfl)) Via.refl e_49 c304 (g := (mkF m 203 #[rv a0, iv 4, rv ca4, iv 0, iv 2, iv zv4, oD zv6, oS] [(.ref a0), (.ref ro)])) rfl rfl (hb hby d15_203)
  refine og (fun t k => st_50 t k) ?_
  refine og (B := T_50.setTop (mkF m 207 #[rv a0, iv 4, rv ca4, iv 0, iv 2, iv zv4, oD zv6, oS] [(.int 0), (.ref ba), (.ref ro)])) (fun t k => ?_) ?_
  · refine XS.iloadN X_50.here hx rfl (hb hby d15_206) rfl ?_
    exact k
  obtain ⟨cl_51, Ar_51, q_51, S_51, M_51, H_51, G_51⟩ := id c309
  have hin_51 : ¬ ((0 : Int32) < 0 ∨ cl_51.slots.size ≤ ((0 : Int32)).toNatClampNeg) := inb_of S_51 ⟨by decide, by decide⟩
  have hat_51 : cl_51.slots[((0 : Int32)).toNatClampNeg]? = some (.int 4) := H_51.at hin_51 rfl
  refine og (B := T_50.setTop (mkF m 208 #[rv a0, iv 4, rv ca4, iv 0, iv 2, iv zv4, oD zv6, oS] [(.int 4), (.ref ro)])) (fun t k => X_50.iaload hx (j := (0 : Int32)) (v := (.int 4)) (by rw [(e_50 : _ = _)]; exact Ar_51.1) (State.isArrayOf_alike hZ.alike Ar_51.2.1) Ar_51.2.2 hin_51 hat_51 (g := (mkF m 207 #[rv a0, iv 4, rv ca4, iv 0, iv 2, iv zv4, oD zv6, oS] [(.int 0), (.ref ba), (.ref ro)])) rfl rfl (hb hby d15_207) t k) ?_
  refine og (B := T_50.setTop (mkF m 209 #[rv a0, iv 4, rv ca4, iv 0, iv 2, iv zv4, oD zv6, oS] [(.int 0), (.int 4), (.ref ro)])) (fun t k => ?_) ?_
  · refine XS.iloadN X_50.here hx rfl (hb hby d15_208) rfl ?_
    exact k
  obtain ⟨cl_52, Ar_52, q_52, S_52, M_52, H_52, G_52⟩ := id c308
  have hin_52 : ¬ ((4 : Int32) < 0 ∨ cl_52.slots.size ≤ ((4 : Int32)).toNatClampNeg) := inb_of S_52 ⟨by decide, by decide⟩
  obtain ⟨T_52, h_52, X_52, e_52, W_52, st_52⟩ := stI X_50 hx hZ e_50 Ar_52 (j := (4 : Int32)) hin_52 (g := (mkF m 209 #[rv a0, iv 4, rv ca4, iv 0, iv 2, iv zv4, oD zv6, oS] [(.int 0), (.int 4), (.ref ro)])) rfl rfl (hb hby d15_209)
  have c321 := c297.wr W_52 (Or.inl (List.mem_of_getElem? (i := 1) rfl))
  have c322 := c298.wr W_52
  have c323 := c299.other W_52 (Or.inl ne_a0_ro)
  have c324 := c300.other W_52 (Or.inl ne_a0_ro)
  have c325 := c301.other W_52 (Or.inl ne_a0_ro)
  have c326 := c302.other W_52 (Or.inl ne_a0_ro)
  have c327 := c303.other W_52 (Or.inl ne_a0_ro)
  have c328 := c304.other W_52 (Or.inl ne_a0_ro)
  have c329 := c305.other W_52 (Or.inl ne_a0_ro)
  have c330 := c306.other W_52 (Or.inl ne_a0_ro)
  have c331 := c307.other W_52 (Or.inl ne_a0_ro)
  have c332 := c309.other W_52 (Ne.symm ne_ro_ba)
  have c333 := c310.wr W_52
  have c334 := c311.other W_52 (Ne.symm ne_ro_ca4)
  have c335 := c312.wr W_52
  have c336 := c313.other W_52 (Ne.symm ne_ro_b_8)
  have c337 := c314.other W_52 (Ne.symm ne_ro_b_14)
  have c338 := c315.wr W_52
  have c339 := c316.other W_52 (Ne.symm ne_ro_y_14_0)
  have c340 := c317.wr W_52
  have c341 := c318.other W_52 (Ne.symm ne_ro_y_14_1)
  have c342 := c319.wr W_52
  have c343 := V_46.other W_52 (Ne.symm ne_ro_y_14_2)
  have c344 := c320.wr W_52
  have V_52 : Arv Z h_52 ro kr .int (16 : Int32) [(.int (-1)), (.int (-1)), (.int (-1)), (.int (-1)), (.int 0)] (.int (0 : Int32)) := Arv.set Ar_52 q_52 S_52 M_52 H_52 G_52 rfl W_52 4 rfl (Nat.le_of_ble_eq_true rfl)
  have N_52 := Fr.snoc X_52 N_46 g_ro
  have Z0__52 : n0 ≤ h_52.size := by rw [W_52.size]; exact Z0__46
  refine og (fun t k => st_52 t k) ?_
  refine og (B := T_52.setTop (mkF m 192 #[rv a0, iv 4, rv ca4, iv 1, iv 2, iv zv4, oD zv6, oS] [(.ref a0), (.int 1)])) (fun t k => ?_) ?_
  · refine XS.iinc X_52.here hx rfl (hb hby d15_210) rfl (l' := #[rv a0, iv 4, rv ca4, iv 1, iv 2, iv zv4, oD zv6, oS]) rfl ?_
    refine XS.goto X_52.here hx rfl (pc0 := 213) (pc' := 190) rfl (hb hby d15_213) (by decide) (by decide) ?_
    refine XS.iloadN X_52.here hx rfl (hb hby d15_190) rfl ?_
    refine XS.aloadN X_52.here hx rfl (hb hby d15_191) rfl rfl ?_
    exact k
  obtain ⟨T_53, X_53, e_53, st_53⟩ := getF X_52 hx hZ hown (host := "") (Or.inl (ow hw 50 rfl)) Via.refl e_52 c327 (g := (mkF m 192 #[rv a0, iv 4, rv ca4, iv 1, iv 2, iv zv4, oD zv6, oS] [(.ref a0), (.int 1)])) rfl rfl (hb hby d15_192)
  refine og (fun t k => st_53 t k) ?_
  refine og (B := T_53.setTop (mkF m 198 #[rv a0, iv 4, rv ca4, iv 1, iv 2, iv zv4, oD zv6, oS] [])) (fun t k => ?_) ?_
  · refine XS.icmpNo X_53.here hx rfl (hb hby d15_195) rfl (tlt (by decide : (1 : Int32) < (3 : Int32))).2.1 ?_
    exact k
  refine og (B := T_53.setTop (mkF m 199 #[rv a0, iv 4, rv ca4, iv 1, iv 2, iv zv4, oD zv6, oS] [(.ref a0)])) (fun t k => ?_) ?_
  · refine XS.aloadN X_53.here hx rfl (hb hby d15_198) rfl rfl ?_
    exact k
  obtain ⟨T_54, X_54, e_54, st_54⟩ := getF X_53 hx hZ hown (host := "") (Or.inl (ow hw 46 rfl)) Via.refl e_53 c325 (g := (mkF m 199 #[rv a0, iv 4, rv ca4, iv 1, iv 2, iv zv4, oD zv6, oS] [(.ref a0)])) rfl rfl (hb hby d15_199)
  refine og (fun t k => st_54 t k) ?_
  refine og (B := T_54.setTop (mkF m 203 #[rv a0, iv 4, rv ca4, iv 1, iv 2, iv zv4, oD zv6, oS] [(.ref a0), (.ref ro)])) (fun t k => ?_) ?_
  · refine XS.aloadN X_54.here hx rfl (hb hby d15_202) rfl rfl ?_
    exact k
  obtain ⟨T_55, X_55, e_55, st_55⟩ := getF X_54 hx hZ hown (host := "") (Or.inl (ow hw 52 rfl)) Via.refl e_54 c328 (g := (mkF m 203 #[rv a0, iv 4, rv ca4, iv 1, iv 2, iv zv4, oD zv6, oS] [(.ref a0), (.ref ro)])) rfl rfl (hb hby d15_203)
  refine og (fun t k => st_55 t k) ?_
  refine og (B := T_55.setTop (mkF m 207 #[rv a0, iv 4, rv ca4, iv 1, iv 2, iv zv4, oD zv6, oS] [(.int 1), (.ref ba), (.ref ro)])) (fun t k => ?_) ?_
  · refine XS.iloadN X_55.here hx rfl (hb hby d15_206) rfl ?_
    exact k
  obtain ⟨cl_56, Ar_56, q_56, S_56, M_56, H_56, G_56⟩ := id c332
  have hin_56 : ¬ ((1 : Int32) < 0 ∨ cl_56.slots.size ≤ ((1 : Int32)).toNatClampNeg) := inb_of S_56 ⟨by decide, by decide⟩
  have hat_56 : cl_56.slots[((1 : Int32)).toNatClampNeg]? = some (.int zv2) := H_56.at hin_56 rfl
  refine og (B := T_55.setTop (mkF m 208 #[rv a0, iv 4, rv ca4, iv 1, iv 2, iv zv4, oD zv6, oS] [(.int zv2), (.ref ro)])) (fun t k => X_55.iaload hx (j := (1 : Int32)) (v := (.int zv2)) (by rw [(e_55 : _ = _)]; exact Ar_56.1) (State.isArrayOf_alike hZ.alike Ar_56.2.1) Ar_56.2.2 hin_56 hat_56 (g := (mkF m 207 #[rv a0, iv 4, rv ca4, iv 1, iv 2, iv zv4, oD zv6, oS] [(.int 1), (.ref ba), (.ref ro)])) rfl rfl (hb hby d15_207) t k) ?_
  refine og (B := T_55.setTop (mkF m 209 #[rv a0, iv 4, rv ca4, iv 1, iv 2, iv zv4, oD zv6, oS] [(.int 1), (.int zv2), (.ref ro)])) (fun t k => ?_) ?_
  · refine XS.iloadN X_55.here hx rfl (hb hby d15_208) rfl ?_
    exact k
  obtain ⟨cl_57, Ar_57, q_57, S_57, M_57, H_57, G_57⟩ := id V_52
  have hin_57 : ¬ (zv2 < 0 ∨ cl_57.slots.size ≤ (zv2).toNatClampNeg) := inb_of S_57 (own_ib (own_or hzv2) (by decide) (by decide))
  obtain ⟨T_57, h_57, X_57, e_57, W_57, st_57⟩ := stI X_55 hx hZ e_55 Ar_57 (j := zv2) hin_57 (g := (mkF m 209 #[rv a0, iv 4, rv ca4, iv 1, iv 2, iv zv4, oD zv6, oS] [(.int 1), (.int zv2), (.ref ro)])) rfl rfl (hb hby d15_209)
  have c345 := c321.wr W_57 (Or.inl (List.mem_of_getElem? (i := 1) rfl))
  have c346 := c322.wr W_57
  have c347 := c323.other W_57 (Or.inl ne_a0_ro)
  have c348 := c324.other W_57 (Or.inl ne_a0_ro)
  have c349 := c325.other W_57 (Or.inl ne_a0_ro)
  have c350 := c326.other W_57 (Or.inl ne_a0_ro)
  have c351 := c327.other W_57 (Or.inl ne_a0_ro)
  have c352 := c328.other W_57 (Or.inl ne_a0_ro)
  have c353 := c329.other W_57 (Or.inl ne_a0_ro)
  have c354 := c330.other W_57 (Or.inl ne_a0_ro)
  have c355 := c331.other W_57 (Or.inl ne_a0_ro)
  have c356 := c332.other W_57 (Ne.symm ne_ro_ba)
  have c357 := c333.wr W_57
  have c358 := c334.other W_57 (Ne.symm ne_ro_ca4)
  have c359 := c335.wr W_57
  have c360 := c336.other W_57 (Ne.symm ne_ro_b_8)
  have c361 := c337.other W_57 (Ne.symm ne_ro_b_14)
  have c362 := c338.wr W_57
  have c363 := c339.other W_57 (Ne.symm ne_ro_y_14_0)
  have c364 := c340.wr W_57
  have c365 := c341.other W_57 (Ne.symm ne_ro_y_14_1)
  have c366 := c342.wr W_57
  have c367 := c343.other W_57 (Ne.symm ne_ro_y_14_2)
  have c368 := c344.wr W_57
  have V_57 : Arv Z h_57 ro kr .int (16 : Int32) (([(.int (-1)), (.int (-1)), (.int (-1)), (.int (-1)), (.int 0)] : List Value).set (zv2).toNatClampNeg (.int 1)) (.int (0 : Int32)) := Arv.set Ar_57 q_57 S_57 M_57 H_57 G_57 rfl W_57 (zv2).toNatClampNeg rfl (by exact own_i5 (n := 5) (own_or hzv2) (by decide) (by decide))
  have N_57 := Fr.snoc X_57 N_52 g_ro
  have Z0__57 : n0 ≤ h_57.size := by rw [W_57.size]; exact Z0__52
  refine og (fun t k => st_57 t k) ?_
  refine og (B := T_57.setTop (mkF m 192 #[rv a0, iv 4, rv ca4, iv 2, iv 2, iv zv4, oD zv6, oS] [(.ref a0), (.int 2)])) (fun t k => ?_) ?_
  · refine XS.iinc X_57.here hx rfl (hb hby d15_210) rfl (l' := #[rv a0, iv 4, rv ca4, iv 2, iv 2, iv zv4, oD zv6, oS]) rfl ?_
    refine XS.goto X_57.here hx rfl (pc0 := 213) (pc' := 190) rfl (hb hby d15_213) (by decide) (by decide) ?_
    refine XS.iloadN X_57.here hx rfl (hb hby d15_190) rfl ?_
    refine XS.aloadN X_57.here hx rfl (hb hby d15_191) rfl rfl ?_
    exact k
  obtain ⟨T_58, X_58, e_58, st_58⟩ := getF X_57 hx hZ hown (host := "") (Or.inl (ow hw 50 rfl)) Via.refl e_57 c351 (g := (mkF m 192 #[rv a0, iv 4, rv ca4, iv 2, iv 2, iv zv4, oD zv6, oS] [(.ref a0), (.int 2)])) rfl rfl (hb hby d15_192)
  refine og (fun t k => st_58 t k) ?_
  refine og (B := T_58.setTop (mkF m 198 #[rv a0, iv 4, rv ca4, iv 2, iv 2, iv zv4, oD zv6, oS] [])) (fun t k => ?_) ?_
  · refine XS.icmpNo X_58.here hx rfl (hb hby d15_195) rfl (tlt (by decide : (2 : Int32) < (3 : Int32))).2.1 ?_
    exact k
  refine og (B := T_58.setTop (mkF m 199 #[rv a0, iv 4, rv ca4, iv 2, iv 2, iv zv4, oD zv6, oS] [(.ref a0)])) (fun t k => ?_) ?_
  · refine XS.aloadN X_58.here hx rfl (hb hby d15_198) rfl rfl ?_
    exact k
  obtain ⟨T_59, X_59, e_59, st_59⟩ := getF X_58 hx hZ hown (host := "") (Or.inl (ow hw 46 rfl)) Via.refl e_58 c349 (g := (mkF m 199 #[rv a0, iv 4, rv ca4, iv 2, iv 2, iv zv4, oD zv6, oS] [(.ref a0)])) rfl rfl (hb hby d15_199)
  refine og (fun t k => st_59 t k) ?_
  refine og (B := T_59.setTop (mkF m 203 #[rv a0, iv 4, rv ca4, iv 2, iv 2, iv zv4, oD zv6, oS] [(.ref a0), (.ref ro)])) (fun t k => ?_) ?_
  · refine XS.aloadN X_59.here hx rfl (hb hby d15_202) rfl rfl ?_
    exact k
  obtain ⟨T_60, X_60, e_60, st_60⟩ := getF X_59 hx hZ hown (host := "") (Or.inl (ow hw 52 rfl)) Via.refl e_59 c352 (g := (mkF m 203 #[rv a0, iv 4, rv ca4, iv 2, iv 2, iv zv4, oD zv6, oS] [(.ref a0), (.ref ro)])) rfl rfl (hb hby d15_203)
  refine og (fun t k => st_60 t k) ?_
  refine og (B := T_60.setTop (mkF m 207 #[rv a0, iv 4, rv ca4, iv 2, iv 2, iv zv4, oD zv6, oS] [(.int 2), (.ref ba), (.ref ro)])) (fun t k => ?_) ?_
  · refine XS.iloadN X_60.here hx rfl (hb hby d15_206) rfl ?_
    exact k
  obtain ⟨cl_61, Ar_61, q_61, S_61, M_61, H_61, G_61⟩ := id c356
  have hin_61 : ¬ ((2 : Int32) < 0 ∨ cl_61.slots.size ≤ ((2 : Int32)).toNatClampNeg) := inb_of S_61 ⟨by decide, by decide⟩
  have hat_61 : cl_61.slots[((2 : Int32)).toNatClampNeg]? = some (.int zv5) := H_61.at hin_61 rfl
  refine og (B := T_60.setTop (mkF m 208 #[rv a0, iv 4, rv ca4, iv 2, iv 2, iv zv4, oD zv6, oS] [(.int zv5), (.ref ro)])) (fun t k => X_60.iaload hx (j := (2 : Int32)) (v := (.int zv5)) (by rw [(e_60 : _ = _)]; exact Ar_61.1) (State.isArrayOf_alike hZ.alike Ar_61.2.1) Ar_61.2.2 hin_61 hat_61 (g := (mkF m 207 #[rv a0, iv 4, rv ca4, iv 2, iv 2, iv zv4, oD zv6, oS] [(.int 2), (.ref ba), (.ref ro)])) rfl rfl (hb hby d15_207) t k) ?_
  refine og (B := T_60.setTop (mkF m 209 #[rv a0, iv 4, rv ca4, iv 2, iv 2, iv zv4, oD zv6, oS] [(.int 2), (.int zv5), (.ref ro)])) (fun t k => ?_) ?_
  · refine XS.iloadN X_60.here hx rfl (hb hby d15_208) rfl ?_
    exact k
  obtain ⟨cl_62, Ar_62, q_62, S_62, M_62, H_62, G_62⟩ := id V_57
  have hin_62 : ¬ (zv5 < 0 ∨ cl_62.slots.size ≤ (zv5).toNatClampNeg) := inb_of S_62 (own_ib (own_or hzv5) (by decide) (by decide))
  obtain ⟨T_62, h_62, X_62, e_62, W_62, st_62⟩ := stI X_60 hx hZ e_60 Ar_62 (j := zv5) hin_62 (g := (mkF m 209 #[rv a0, iv 4, rv ca4, iv 2, iv 2, iv zv4, oD zv6, oS] [(.int 2), (.int zv5), (.ref ro)])) rfl rfl (hb hby d15_209)
  have c369 := c345.wr W_62 (Or.inl (List.mem_of_getElem? (i := 1) rfl))
  have c370 := c346.wr W_62
  have c371 := c347.other W_62 (Or.inl ne_a0_ro)
  have c372 := c348.other W_62 (Or.inl ne_a0_ro)
  have c373 := c349.other W_62 (Or.inl ne_a0_ro)
  have c374 := c350.other W_62 (Or.inl ne_a0_ro)
  have c375 := c351.other W_62 (Or.inl ne_a0_ro)
  have c376 := c352.other W_62 (Or.inl ne_a0_ro)
  have c377 := c353.other W_62 (Or.inl ne_a0_ro)
  have c378 := c354.other W_62 (Or.inl ne_a0_ro)
  have c379 := c355.other W_62 (Or.inl ne_a0_ro)
  have c380 := c356.other W_62 (Ne.symm ne_ro_ba)
  have c381 := c357.wr W_62
  have c382 := c358.other W_62 (Ne.symm ne_ro_ca4)
  have c383 := c359.wr W_62
  have c384 := c360.other W_62 (Ne.symm ne_ro_b_8)
  have c385 := c361.other W_62 (Ne.symm ne_ro_b_14)
  have c386 := c362.wr W_62
  have c387 := c363.other W_62 (Ne.symm ne_ro_y_14_0)
  have c388 := c364.wr W_62
  have c389 := c365.other W_62 (Ne.symm ne_ro_y_14_1)
  have c390 := c366.wr W_62
  have c391 := c367.other W_62 (Ne.symm ne_ro_y_14_2)
  have c392 := c368.wr W_62
  have V_62 : Arv Z h_62 ro kr .int (16 : Int32) ((([(.int (-1)), (.int (-1)), (.int (-1)), (.int (-1)), (.int 0)] : List Value).set (zv2).toNatClampNeg (.int 1)).set (zv5).toNatClampNeg (.int 2)) (.int (0 : Int32)) := Arv.set Ar_62 q_62 S_62 M_62 H_62 G_62 rfl W_62 (zv5).toNatClampNeg rfl (by rw [List.length_set]; exact own_i5 (n := 5) (own_or hzv5) (by decide) (by decide))
  have N_62 := Fr.snoc X_62 N_57 g_ro
  have Z0__62 : n0 ≤ h_62.size := by rw [W_62.size]; exact Z0__57
  refine og (fun t k => st_62 t k) ?_
  refine og (B := T_62.setTop (mkF m 192 #[rv a0, iv 4, rv ca4, iv 3, iv 2, iv zv4, oD zv6, oS] [(.ref a0), (.int 3)])) (fun t k => ?_) ?_
  · refine XS.iinc X_62.here hx rfl (hb hby d15_210) rfl (l' := #[rv a0, iv 4, rv ca4, iv 3, iv 2, iv zv4, oD zv6, oS]) rfl ?_
    refine XS.goto X_62.here hx rfl (pc0 := 213) (pc' := 190) rfl (hb hby d15_213) (by decide) (by decide) ?_
    refine XS.iloadN X_62.here hx rfl (hb hby d15_190) rfl ?_
    refine XS.aloadN X_62.here hx rfl (hb hby d15_191) rfl rfl ?_
    exact k
  obtain ⟨T_63, X_63, e_63, st_63⟩ := getF X_62 hx hZ hown (host := "") (Or.inl (ow hw 50 rfl)) Via.refl e_62 c375 (g := (mkF m 192 #[rv a0, iv 4, rv ca4, iv 3, iv 2, iv zv4, oD zv6, oS] [(.ref a0), (.int 3)])) rfl rfl (hb hby d15_192)
  refine og (fun t k => st_63 t k) ?_
  refine og (B := T_63.setTop (mkF m 216 #[rv a0, iv 4, rv ca4, iv 3, iv 2, iv zv4, oD zv6, oS] [])) (fun t k => ?_) ?_
  · refine XS.icmpYes X_63.here hx rfl (pc0 := 195) (pc' := 216) rfl (hb hby d15_195) rfl (flt (by decide : ¬ ((3 : Int32) < (3 : Int32)))).2.1 (by decide) (by decide) ?_
    exact k
  obtain ⟨fs, hr, hrun, hended, hW, hsame⟩ := X_63.leave (v := none) (fun _ => rfl)
  refine ⟨_, _, ?_, hrun, hended, _, _, rfl, ?_, ⟨_, rfl⟩, hW, hsame.mono (by decide) (by decide)⟩
  · show Steps p.tables e below (T_63.setTop (mkF m 216 #[rv a0, iv 4, rv ca4, iv 3, iv 2, iv zv4, oD zv6, oS] [])) _
    exact X_63.returnOut hx Bd.returns (hb hby d15_216) hr
  · show Qsta Z a0 al va ro ba ca0 ed ca1 ca2 ca3 ca4 kd kr kq kc4 cd0 cd1 u7 u8 h0 n0 _ T_63.heap _
    rw [e_63]
    exact ⟨b_14, y_14_0, y_14_1, y_14_2, k_14, kc_14, zv2, zv5, zv3, zv6, rfl, N_62, c369, sz_b_14, lt_b_14_y_14_0, lt_y_14_0_y_14_1, lt_y_14_1_y_14_2, sg0, sg1, c371, c372, c373, c374, c375, c376, c377, c379, V_62, c380, c385, c387, c389, c391⟩
theorem d14_0 : decode prog_36_method_2_code 0 = .ok (.aload_n 0, 1) := by decide +kernel
theorem d14_1 : decode prog_36_method_2_code 1 = .ok (.getfield 28, 3) := by decide +kernel
theorem d14_4 : decode prog_36_method_2_code 4 = .ok (.newarray .double, 2) := by decide +kernel
theorem d14_6 : decode prog_36_method_2_code 6 = .ok (.astore 4, 2) := by decide +kernel
theorem d14_8 : decode prog_36_method_2_code 8 = .ok (.aload 4, 2) := by decide +kernel
theorem d14_10 : decode prog_36_method_2_code 10 = .ok (.iconst 0, 1) := by decide +kernel
theorem d14_11 : decode prog_36_method_2_code 11 = .ok (.dconst 1, 1) := by decide +kernel
theorem d14_12 : decode prog_36_method_2_code 12 = .ok (.dastore, 1) := by decide +kernel
theorem d14_13 : decode prog_36_method_2_code 13 = .ok (.iconst 0, 1) := by decide +kernel
theorem d14_14 : decode prog_36_method_2_code 14 = .ok (.istore 5, 2) := by decide +kernel
theorem d14_16 : decode prog_36_method_2_code 16 = .ok (.iload 5, 2) := by decide +kernel
theorem d14_18 : decode prog_36_method_2_code 18 = .ok (.aload_n 0, 1) := by decide +kernel
theorem d14_19 : decode prog_36_method_2_code 19 = .ok (.getfield 24, 3) := by decide +kernel
theorem d14_22 : decode prog_36_method_2_code 22 = .ok (.if_icmp .ge 21, 3) := by decide +kernel
theorem d14_25 : decode prog_36_method_2_code 25 = .ok (.aload 4, 2) := by decide +kernel
theorem d14_27 : decode prog_36_method_2_code 27 = .ok (.iload 5, 2) := by decide +kernel
theorem d14_29 : decode prog_36_method_2_code 29 = .ok (.iconst 1, 1) := by decide +kernel
theorem d14_30 : decode prog_36_method_2_code 30 = .ok (.iadd, 1) := by decide +kernel
theorem d14_31 : decode prog_36_method_2_code 31 = .ok (.aload_n 3, 1) := by decide +kernel
theorem d14_32 : decode prog_36_method_2_code 32 = .ok (.iload 5, 2) := by decide +kernel
theorem d14_34 : decode prog_36_method_2_code 34 = .ok (.daload, 1) := by decide +kernel
theorem d14_35 : decode prog_36_method_2_code 35 = .ok (.dneg, 1) := by decide +kernel
theorem d14_36 : decode prog_36_method_2_code 36 = .ok (.dastore, 1) := by decide +kernel
theorem d14_37 : decode prog_36_method_2_code 37 = .ok (.iinc 5 1, 3) := by decide +kernel
theorem d14_40 : decode prog_36_method_2_code 40 = .ok (.goto (-24), 3) := by decide +kernel
theorem d14_43 : decode prog_36_method_2_code 43 = .ok (.aload_n 0, 1) := by decide +kernel
theorem d14_44 : decode prog_36_method_2_code 44 = .ok (.aload 4, 2) := by decide +kernel
theorem d14_46 : decode prog_36_method_2_code 46 = .ok (.dload_n 1, 1) := by decide +kernel
theorem d14_47 : decode prog_36_method_2_code 47 = .ok (.invokevirtual 34, 3) := by decide +kernel
theorem d14_50 : decode prog_36_method_2_code 50 = .ok (.aload_n 0, 1) := by decide +kernel
theorem d14_51 : decode prog_36_method_2_code 51 = .ok (.getfield 40, 3) := by decide +kernel
theorem d14_54 : decode prog_36_method_2_code 54 = .ok (.ifnonnull 7, 3) := by decide +kernel
theorem d14_57 : decode prog_36_method_2_code 57 = .ok (.aload_n 0, 1) := by decide +kernel
theorem d14_58 : decode prog_36_method_2_code 58 = .ok (.invokevirtual 44, 3) := by decide +kernel
theorem d14_61 : decode prog_36_method_2_code 61 = .ok (.return_, 1) := by decide +kernel
theorem pn_14 : plainName "com/example/ballast/ballast/placement/CuttingPlanes" = true := by first | (simp [plainName, overriddenIn]; done) | decide +kernel
theorem ef_cad (m : MethodId) (a0 : Addr) (x1 : UInt64) (a3 : Addr) : entryFrame m #[(.ref a0), (.double x1), (.ref a3)] 6 = mkF m 0 #[rv a0, oD x1, oS, rv a3, oU, oU] [] := by first | (simp [entryFrame, mkF, argsToLocals, Value.category]; done) | rfl
def Qcad (Z : State) (a0 : Addr) (x1 : UInt64) (a3 : Addr) (al : Addr) (va : Addr) (ro : Addr) (ba : Addr) (ca0 : Addr) (ed : Addr) (ca1 : Addr) (ca2 : Addr) (ca3 : Addr) (kd : ClassId) (ka : ClassId) (kr : ClassId) (kq : ClassId) (ks : ClassId) (w0 : UInt64) (w1 : UInt64) (w2 : UInt64) (w3 : UInt64) (sl0 : UInt64) (sl1 : UInt64) (u7 : Value) (u8 : Value) (h0 : Heap) (n0 : Nat) (v : Option Value) (h : Heap) (L : List Loc) : Prop := ∃ (ca4 iv_ y0 y1 y2 : Addr) (kc4 ki kj : ClassId) (b1 b2 : Int32) (g0 g1 : UInt64), v = none ∧ Fr n0 L ∧ Keep h0 h [a0, al, va, ro, ba, ed] ∧ h0.size ≤ ca4 ∧ ca4 < iv_ ∧ iv_ < y0 ∧ y0 < y1 ∧ y1 < y2 ∧ (((0 : Int32) < (cmpValue (FP.dcmp (FP.dneg sl0) 0) .g) → b1 = 1 ∧ g0 = 13830554455654793216) ∧ (¬ ((0 : Int32) < (cmpValue (FP.dcmp (FP.dneg sl0) 0) .g)) → b1 = 0 ∧ g0 = 4607182418800017408)) ∧ (((0 : Int32) < (cmpValue (FP.dcmp (FP.dneg sl1) 0) .g) → b2 = 3 ∧ g1 = 13830554455654793216) ∧ (¬ ((0 : Int32) < (cmpValue (FP.dcmp (FP.dneg sl1) 0) .g)) → b2 = 2 ∧ g1 = 4607182418800017408)) ∧ Fld Z h a0 "com/example/ballast/ballast/placement/CuttingPlanes" "columns" "Ljava/util/List;" (.ref al) ∧ Fld Z h a0 "com/example/ballast/ballast/placement/CuttingPlanes" "values" "[D" (.ref va) ∧ Fld Z h a0 "com/example/ballast/ballast/placement/CuttingPlanes" "rowOf" "[I" (.ref ro) ∧ Fld Z h a0 "com/example/ballast/ballast/placement/CuttingPlanes" "dimensions" "I" (.int 2) ∧ Fld Z h a0 "com/example/ballast/ballast/placement/CuttingPlanes" "rows" "I" (.int 3) ∧ Fld Z h a0 "com/example/ballast/ballast/placement/CuttingPlanes" "basis" "[I" (.ref ba) ∧ Fld Z h a0 "com/example/ballast/ballast/placement/CuttingPlanes" "inverse" "[[D" (.ref iv_) ∧ Fld Z h a0 "com/example/ballast/ballast/placement/CuttingPlanes" "multipliers" "[D" u8 ∧ Arv Z h ro kr .int (16 : Int32) (own_rl b1 b2) (.int (0 : Int32)) ∧ Arv Z h ba kq .int (3 : Int32) [(.int 4), (.int b1), (.int b2)] (.int (0 : Int32)) ∧ Arv Z h iv_ ki (.array .double) (3 : Int32) [(.ref y0), (.ref y1), (.ref y2)] .null ∧ Arv Z h y0 kj .double (3 : Int32) [(.double 4607182418800017408), (.double 0), (.double 0)] (.double 0) ∧ Arv Z h y1 kj .double (3 : Int32) [(.double (FP.dmul (FP.dneg (FP.dneg sl0)) g0)), (.double g0), (.double 0)] (.double 0) ∧ Arv Z h y2 kj .double (3 : Int32) [(.double (FP.dmul (FP.dneg (FP.dneg sl1)) g1)), (.double 0), (.double g1)] (.double 0) ∧ Fld Z h al "java/util/ArrayList" "elementData" "[Ljava/lang/Object;" (.ref ed) ∧ Fld Z h al "java/util/ArrayList" "size" "I" (.int 5) ∧ Arv Z h ed kd (.object "java/lang/Object") (10 : Int32) [(.ref ca0), (.ref ca1), (.ref ca2), (.ref ca3), (.ref ca4)] .null ∧ Arv Z h va ka .double (16 : Int32) [(.double w0), (.double w1), (.double w2), (.double w3), (.double x1)] (.double 0) ∧ Exa Z h ca4 "[D" ∧ Arv Z h ca4 kc4 .double (3 : Int32) [(.double 4607182418800017408), (.double (FP.dneg sl0)), (.double (FP.dneg sl1))] (.double 0)
theorem rmcad (l : Launch) (Z : State) (av0 : Array Value) (hw : ∀ d ∈ tables_1, d.before av0 Z = true) (ws : List Jvm.Cond) (a0 : Addr) (x1 : UInt64) (a3 : Addr) (al : Addr) (va : Addr) (ro : Addr) (ba : Addr) (ca0 : Addr) (ed : Addr) (ca1 : Addr) (ca2 : Addr) (ca3 : Addr) (kd : ClassId) (ka : ClassId) (kr : ClassId) (kq : ClassId) (ks : ClassId) (w0 : UInt64) (w1 : UInt64) (w2 : UInt64) (w3 : UInt64) (sl0 : UInt64) (sl1 : UInt64) (u7 : Value) (u8 : Value) (h0 : Heap) (n0 : Nat) (Z0 : n0 ≤ h0.size) (E_a0 : Exa Z h0 a0 "com/example/ballast/ballast/placement/CuttingPlanes") (P0 : Fld Z h0 a0 "com/example/ballast/ballast/placement/CuttingPlanes" "columns" "Ljava/util/List;" (.ref al)) (P1 : Fld Z h0 a0 "com/example/ballast/ballast/placement/CuttingPlanes" "values" "[D" (.ref va)) (P2 : Fld Z h0 a0 "com/example/ballast/ballast/placement/CuttingPlanes" "rowOf" "[I" (.ref ro)) (P3 : Fld Z h0 a0 "com/example/ballast/ballast/placement/CuttingPlanes" "dimensions" "I" (.int 2)) (P4 : Fld Z h0 a0 "com/example/ballast/ballast/placement/CuttingPlanes" "rows" "I" (.int 3)) (P5 : Fld Z h0 a0 "com/example/ballast/ballast/placement/CuttingPlanes" "basis" "[I" (.ref ba)) (P6 : Fld Z h0 a0 "com/example/ballast/ballast/placement/CuttingPlanes" "inverse" "[[D" .null) (P7 : Fld Z h0 a0 "com/example/ballast/ballast/placement/CuttingPlanes" "basic" "[D" u7) (P8 : Fld Z h0 a0 "com/example/ballast/ballast/placement/CuttingPlanes" "multipliers" "[D" u8) (P9 : Exa Z h0 al "java/util/ArrayList") (P10 : Fld Z h0 al "java/util/AbstractList" "modCount" "I" (.int (4 : Int32))) (P11 : Fld Z h0 al "java/util/ArrayList" "elementData" "[Ljava/lang/Object;" (.ref ed)) (P12 : Fld Z h0 al "java/util/ArrayList" "size" "I" (.int (4 : Int32))) (P13 : Arv Z h0 ed kd (.object "java/lang/Object") (10 : Int32) [(.ref ca0), (.ref ca1), (.ref ca2), (.ref ca3), .null] .null) (P14 : Ovr Z kd "java/lang/Object") (P15 : Arv Z h0 va ka .double (16 : Int32) [(.double w0), (.double w1), (.double w2), (.double w3), (.double 0)] (.double 0)) (P16 : Arv Z h0 ro kr .int (16 : Int32) [(.int (-1)), (.int (-1)), (.int (-1)), (.int (-1)), (.int 0)] (.int (0 : Int32))) (P17 : Arv Z h0 ba kq .int (3 : Int32) [(.int 0), (.int 0), (.int 0)] (.int (0 : Int32))) (g_a0 : n0 ≤ a0) (lt_a0_al : a0 < al) (lt_al_va : al < va) (lt_va_ro : va < ro) (lt_ro_ba : ro < ba) (lt_ba_ca0 : ba < ca0) (lt_ca0_ed : ca0 < ed) (lt_ed_ca1 : ed < ca1) (lt_ca1_ca2 : ca1 < ca2) (lt_ca2_ca3 : ca2 < ca3) (VS : Arv Z h0 a3 ks .double (2 : Int32) [(.double sl0), (.double sl1)] (.double 0)) (hn0 : ∀ z : UInt64, z = 13830554455654793216 ∨ z = 4607182418800017408 → Jvm.Free.Fl.NoNaN64 (FP.dmul (FP.dneg (FP.dneg sl0)) z)) (hn1 : ∀ z : UInt64, z = 13830554455654793216 ∨ z = 4607182418800017408 → Jvm.Free.Fl.NoNaN64 (FP.dmul (FP.dneg (FP.dneg sl1)) z)) :
    MetFree l own_m15 (head1 (Jvm.Cond.code own_m15 prog_36_method_2_code 6 none :: ws) ({ frames := 4, cells := 6, slots := 18, locals := 59 } : Room)) (fun a U => a = #[(.ref a0), (.double x1), (.ref a3)] ∧ Z.Warmed39 U.vm ∧ U.heap = h0) (fun _ _ _ _ _ => True) (fun _ U o U' => ∃ v L, o = .returned v ∧ Qcad Z a0 x1 a3 al va ro ba ca0 ed ca1 ca2 ca3 kd ka kr kq ks w0 w1 w2 w3 sl0 sl1 u7 u8 h0 n0 v U'.heap L ∧ FrameEnd U o U' L ({ frames := 4, cells := 6, slots := 18, locals := 59 } : Room).cells ({ frames := 4, cells := 6, slots := 18, locals := 59 } : Room).slots) := by
  refine MetFree.of_bodySF (plainFor_of_name pn_14) hisR ?_
  intro p e s m args below meth c s₁ Bd hml0 hP hK
  obtain ⟨rfl, hZ, hh⟩ := hP
  have hx := Bd.exec
  have hby := Bd.bytes
  have hml : c.maxLocals = 6 := hml0
  have hown : s.vm.findClass "com/example/ballast/ballast/placement/CuttingPlanes" = some m.cls := findClass_of_methodNamed Bd.named
  have X0 : Stand p l e ({ frames := 4, cells := 6, slots := 18, locals := 59 } : Room) s m #[(.ref a0), (.double x1), (.ref a3)] below meth c s₁ [] 0 0 := Stand.of_body Bd
  have e0 : s₁.heap = h0 := by rw [← hh, Bd.state]; rfl
  have N0 := Fr.nil n0
  have g_al : n0 ≤ al := Nat.le_trans g_a0 (Nat.le_of_lt lt_a0_al)
  have ne_a0_al := Nat.ne_of_lt lt_a0_al
  have g_va : n0 ≤ va := Nat.le_trans g_al (Nat.le_of_lt lt_al_va)
  have lt_a0_va := Nat.lt_trans lt_a0_al lt_al_va
  have ne_a0_va := Nat.ne_of_lt lt_a0_va
  have ne_al_va := Nat.ne_of_lt lt_al_va
  have g_ro : n0 ≤ ro := Nat.le_trans g_va (Nat.le_of_lt lt_va_ro)
  have lt_a0_ro := Nat.lt_trans lt_a0_va lt_va_ro
  have ne_a0_ro := Nat.ne_of_lt lt_a0_ro
  have lt_al_ro := Nat.lt_trans lt_al_va lt_va_ro
  have ne_al_ro := Nat.ne_of_lt lt_al_ro
  have ne_va_ro := Nat.ne_of_lt lt_va_ro
  have g_ba : n0 ≤ ba := Nat.le_trans g_ro (Nat.le_of_lt lt_ro_ba)
  have lt_a0_ba := Nat.lt_trans lt_a0_ro lt_ro_ba
  have ne_a0_ba := Nat.ne_of_lt lt_a0_ba
  have lt_al_ba := Nat.lt_trans lt_al_ro lt_ro_ba
  have ne_al_ba := Nat.ne_of_lt lt_al_ba
  have lt_va_ba := Nat.lt_trans lt_va_ro lt_ro_ba
  have ne_va_ba := Nat.ne_of_lt lt_va_ba
  have ne_ro_ba := Nat.ne_of_lt lt_ro_ba
  have g_ca0 : n0 ≤ ca0 := Nat.le_trans g_ba (Nat.le_of_lt lt_ba_ca0)
  have lt_a0_ca0 := Nat.lt_trans lt_a0_ba lt_ba_ca0
  have ne_a0_ca0 := Nat.ne_of_lt lt_a0_ca0
  have lt_al_ca0 := Nat.lt_trans lt_al_ba lt_ba_ca0
  have ne_al_ca0 := Nat.ne_of_lt lt_al_ca0
  have lt_va_ca0 := Nat.lt_trans lt_va_ba lt_ba_ca0
  have ne_va_ca0 := Nat.ne_of_lt lt_va_ca0
  have lt_ro_ca0 := Nat.lt_trans lt_ro_ba lt_ba_ca0
  have ne_ro_ca0 := Nat.ne_of_lt lt_ro_ca0
  have ne_ba_ca0 := Nat.ne_of_lt lt_ba_ca0
  have g_ed : n0 ≤ ed := Nat.le_trans g_ca0 (Nat.le_of_lt lt_ca0_ed)
  have lt_a0_ed := Nat.lt_trans lt_a0_ca0 lt_ca0_ed
  have ne_a0_ed := Nat.ne_of_lt lt_a0_ed
  have lt_al_ed := Nat.lt_trans lt_al_ca0 lt_ca0_ed
  have ne_al_ed := Nat.ne_of_lt lt_al_ed
  have lt_va_ed := Nat.lt_trans lt_va_ca0 lt_ca0_ed
  have ne_va_ed := Nat.ne_of_lt lt_va_ed
  have lt_ro_ed := Nat.lt_trans lt_ro_ca0 lt_ca0_ed
  have ne_ro_ed := Nat.ne_of_lt lt_ro_ed
  have lt_ba_ed := Nat.lt_trans lt_ba_ca0 lt_ca0_ed
  have ne_ba_ed := Nat.ne_of_lt lt_ba_ed
  have ne_ca0_ed := Nat.ne_of_lt lt_ca0_ed
  have g_ca1 : n0 ≤ ca1 := Nat.le_trans g_ed (Nat.le_of_lt lt_ed_ca1)
  have lt_a0_ca1 := Nat.lt_trans lt_a0_ed lt_ed_ca1
  have ne_a0_ca1 := Nat.ne_of_lt lt_a0_ca1
  have lt_al_ca1 := Nat.lt_trans lt_al_ed lt_ed_ca1
  have ne_al_ca1 := Nat.ne_of_lt lt_al_ca1
  have lt_va_ca1 := Nat.lt_trans lt_va_ed lt_ed_ca1
  have ne_va_ca1 := Nat.ne_of_lt lt_va_ca1
  have lt_ro_ca1 := Nat.lt_trans lt_ro_ed lt_ed_ca1
  have ne_ro_ca1 := Nat.ne_of_lt lt_ro_ca1
  have lt_ba_ca1 := Nat.lt_trans lt_ba_ed lt_ed_ca1
  have ne_ba_ca1 := Nat.ne_of_lt lt_ba_ca1
  have lt_ca0_ca1 := Nat.lt_trans lt_ca0_ed lt_ed_ca1
  have ne_ca0_ca1 := Nat.ne_of_lt lt_ca0_ca1
  have ne_ed_ca1 := Nat.ne_of_lt lt_ed_ca1
  have g_ca2 : n0 ≤ ca2 := Nat.le_trans g_ca1 (Nat.le_of_lt lt_ca1_ca2)
  have lt_a0_ca2 := Nat.lt_trans lt_a0_ca1 lt_ca1_ca2
  have ne_a0_ca2 := Nat.ne_of_lt lt_a0_ca2
  have lt_al_ca2 := Nat.lt_trans lt_al_ca1 lt_ca1_ca2
  have ne_al_ca2 := Nat.ne_of_lt lt_al_ca2
  have lt_va_ca2 := Nat.lt_trans lt_va_ca1 lt_ca1_ca2
  have ne_va_ca2 := Nat.ne_of_lt lt_va_ca2
  have lt_ro_ca2 := Nat.lt_trans lt_ro_ca1 lt_ca1_ca2
  have ne_ro_ca2 := Nat.ne_of_lt lt_ro_ca2
  have lt_ba_ca2 := Nat.lt_trans lt_ba_ca1 lt_ca1_ca2
  have ne_ba_ca2 := Nat.ne_of_lt lt_ba_ca2
  have lt_ca0_ca2 := Nat.lt_trans lt_ca0_ca1 lt_ca1_ca2
  have ne_ca0_ca2 := Nat.ne_of_lt lt_ca0_ca2
  have lt_ed_ca2 := Nat.lt_trans lt_ed_ca1 lt_ca1_ca2
  have ne_ed_ca2 := Nat.ne_of_lt lt_ed_ca2
  have ne_ca1_ca2 := Nat.ne_of_lt lt_ca1_ca2
  have g_ca3 : n0 ≤ ca3 := Nat.le_trans g_ca2 (Nat.le_of_lt lt_ca2_ca3)
  have lt_a0_ca3 := Nat.lt_trans lt_a0_ca2 lt_ca2_ca3
  have ne_a0_ca3 := Nat.ne_of_lt lt_a0_ca3
  have lt_al_ca3 := Nat.lt_trans lt_al_ca2 lt_ca2_ca3
  have ne_al_ca3 := Nat.ne_of_lt lt_al_ca3
  have lt_va_ca3 := Nat.lt_trans lt_va_ca2 lt_ca2_ca3
  have ne_va_ca3 := Nat.ne_of_lt lt_va_ca3
  have lt_ro_ca3 := Nat.lt_trans lt_ro_ca2 lt_ca2_ca3
  have ne_ro_ca3 := Nat.ne_of_lt lt_ro_ca3
  have lt_ba_ca3 := Nat.lt_trans lt_ba_ca2 lt_ca2_ca3
  have ne_ba_ca3 := Nat.ne_of_lt lt_ba_ca3
  have lt_ca0_ca3 := Nat.lt_trans lt_ca0_ca2 lt_ca2_ca3
  have ne_ca0_ca3 := Nat.ne_of_lt lt_ca0_ca3
  have lt_ed_ca3 := Nat.lt_trans lt_ed_ca2 lt_ca2_ca3
  have ne_ed_ca3 := Nat.ne_of_lt lt_ed_ca3
  have lt_ca1_ca3 := Nat.lt_trans lt_ca1_ca2 lt_ca2_ca3
  have ne_ca1_ca3 := Nat.ne_of_lt lt_ca1_ca3
  have ne_ca2_ca3 := Nat.ne_of_lt lt_ca2_ca3
  have K0 : Keep h0 h0 [a0, al, va, ro, ba, ed] := Keep.refl h0 [a0, al, va, ro, ba, ed]
  refine og (B := s₁.setTop (mkF m 0 #[rv a0, oD x1, oS, rv a3, oU, oU] [])) (fun t k => castTop (ef_cad m a0 x1 a3) k) ?_
  refine og (B := s₁.setTop (mkF m 1 #[rv a0, oD x1, oS, rv a3, oU, oU] [(.ref a0)])) (fun t k => ?_) ?_
  · refine XS.aloadN X0.here hx rfl (hb hby d14_0) rfl rfl ?_
    exact k
  obtain ⟨T_1, X_1, e_1, st_1⟩ := getF X0 hx hZ hown (host := "") (Or.inl (ow hw 50 rfl)) Via.refl e0 P4 (g := (mkF m 1 #[rv a0, oD x1, oS, rv a3, oU, oU] [(.ref a0)])) rfl rfl (hb hby d14_1)
  refine og (fun t k => st_1 t k) ?_
  obtain ⟨T_2, h_2, k_2, X_2, e_2, E_2, A_2, Q_2, st_2⟩ := newPE X_1 hx hZ (ow hw 10 rfl) e_1 (g := (mkF m 4 #[rv a0, oD x1, oS, rv a3, oU, oU] [(.int 3)])) rfl (hb hby d14_4) rfl (by decide) (cap := 3) (by decide) (by decide) (by decide) (by decide) (ad := "[D") (by decide)
  obtain ⟨b_2, g_2⟩ : ∃ z, z = h0.size := ⟨_, rfl⟩
  rw [← g_2] at A_2 Q_2 st_2
  have g_b_2 : n0 ≤ b_2 := Nat.le_trans Z0 (Nat.le_of_eq g_2.symm)
  have sz_b_2 : h0.size ≤ b_2 := Nat.le_trans K0.1 (Nat.le_of_eq g_2.symm)
  have lt_a0_b_2 : a0 < b_2 := Nat.lt_of_lt_of_le (E_a0).lt (Nat.le_of_eq g_2.symm)
  have ne_a0_b_2 := Nat.ne_of_lt lt_a0_b_2
  have lt_al_b_2 : al < b_2 := Nat.lt_of_lt_of_le (P9).lt (Nat.le_of_eq g_2.symm)
  have ne_al_b_2 := Nat.ne_of_lt lt_al_b_2
  have lt_ed_b_2 : ed < b_2 := Nat.lt_of_lt_of_le (P13).lt (Nat.le_of_eq g_2.symm)
  have ne_ed_b_2 := Nat.ne_of_lt lt_ed_b_2
  have lt_va_b_2 : va < b_2 := Nat.lt_of_lt_of_le (P15).lt (Nat.le_of_eq g_2.symm)
  have ne_va_b_2 := Nat.ne_of_lt lt_va_b_2
  have lt_ro_b_2 : ro < b_2 := Nat.lt_of_lt_of_le (P16).lt (Nat.le_of_eq g_2.symm)
  have ne_ro_b_2 := Nat.ne_of_lt lt_ro_b_2
  have lt_ba_b_2 : ba < b_2 := Nat.lt_of_lt_of_le (P17).lt (Nat.le_of_eq g_2.symm)
  have ne_ba_b_2 := Nat.ne_of_lt lt_ba_b_2
  have lt_a3_b_2 : a3 < b_2 := Nat.lt_of_lt_of_le (VS).lt (Nat.le_of_eq g_2.symm)
  have ne_a3_b_2 := Nat.ne_of_lt lt_a3_b_2
  have c1 := K0.ext E_2
  have c2 := E_a0.ext E_2
  have c3 := P0.ext E_2
  have c4 := P1.ext E_2
  have c5 := P2.ext E_2
  have c6 := P3.ext E_2
  have c7 := P4.ext E_2
  have c8 := P5.ext E_2
  have c9 := P6.ext E_2
  have c10 := P7.ext E_2
  have c11 := P8.ext E_2
  have c12 := P9.ext E_2
  have c13 := P10.ext E_2
  have c14 := P11.ext E_2
  have c15 := P12.ext E_2
  have c16 := P13.ext E_2
  have c17 := P15.ext E_2
  have c18 := P16.ext E_2
  have c19 := P17.ext E_2
  have c20 := VS.ext E_2
  have Z0__2 : n0 ≤ h_2.size := Nat.le_trans Z0 E_2.1
  have V_b_2 : Arv Z h_2 b_2 k_2 .double (3 : Int32) [(.double 0), (.double 0), (.double 0)] (.double 0) := (Arv.new A_2 (by decide)).pad (pad_rep [] (.double 0) 3)
  refine og (fun t k => st_2 t k) ?_
  refine og (B := T_2.setTop (mkF m 12 #[rv a0, oD x1, oS, rv a3, rv b_2, oU] [(.double 4607182418800017408), (.int 0), (.ref b_2)])) (fun t k => ?_) ?_
  · refine XS.astore X_2.here hx rfl (hb hby d14_6) rfl rfl (l' := #[rv a0, oD x1, oS, rv a3, rv b_2, oU]) rfl ?_
    refine XS.aload X_2.here hx rfl (hb hby d14_8) rfl rfl ?_
    refine XS.iconst X_2.here hx rfl (hb hby d14_10) ?_
    refine XS.dconst1 X_2.here hx rfl (v := 4607182418800017408) (hb hby d14_11) rfl ?_
    exact k
  obtain ⟨cl_3, Ar_3, q_3, S_3, M_3, H_3, G_3⟩ := id V_b_2
  have hin_3 : ¬ ((0 : Int32) < 0 ∨ cl_3.slots.size ≤ ((0 : Int32)).toNatClampNeg) := inb_of S_3 ⟨by decide, by decide⟩
  obtain ⟨T_3, h_3, X_3, e_3, W_3, st_3⟩ := stD X_2 hx hZ e_2 Ar_3 (j := (0 : Int32)) hin_3 (g := (mkF m 12 #[rv a0, oD x1, oS, rv a3, rv b_2, oU] [(.double 4607182418800017408), (.int 0), (.ref b_2)])) rfl rfl (hb hby d14_12)
  have c21 := c1.wr W_3 (Or.inr sz_b_2)
  have c22 := c2.wr W_3
  have c23 := c3.other W_3 (Or.inl ne_a0_b_2)
  have c24 := c4.other W_3 (Or.inl ne_a0_b_2)
  have c25 := c5.other W_3 (Or.inl ne_a0_b_2)
  have c26 := c6.other W_3 (Or.inl ne_a0_b_2)
  have c27 := c7.other W_3 (Or.inl ne_a0_b_2)
  have c28 := c8.other W_3 (Or.inl ne_a0_b_2)
  have c29 := c9.other W_3 (Or.inl ne_a0_b_2)
  have c30 := c10.other W_3 (Or.inl ne_a0_b_2)
  have c31 := c11.other W_3 (Or.inl ne_a0_b_2)
  have c32 := c12.wr W_3
  have c33 := c13.other W_3 (Or.inl ne_al_b_2)
  have c34 := c14.other W_3 (Or.inl ne_al_b_2)
  have c35 := c15.other W_3 (Or.inl ne_al_b_2)
  have c36 := c16.other W_3 ne_ed_b_2
  have c37 := c17.other W_3 ne_va_b_2
  have c38 := c18.other W_3 ne_ro_b_2
  have c39 := c19.other W_3 ne_ba_b_2
  have c40 := c20.other W_3 ne_a3_b_2
  have c41 := Q_2.wr W_3
  have V_3 : Arv Z h_3 b_2 k_2 .double (3 : Int32) [(.double 4607182418800017408), (.double 0), (.double 0)] (.double 0) := Arv.set Ar_3 q_3 S_3 M_3 H_3 G_3 rfl W_3 0 rfl (Nat.le_of_ble_eq_true rfl)
  have N_3 := Fr.snoc X_3 N0 g_b_2
  have Z0__3 : n0 ≤ h_3.size := by rw [W_3.size]; exact Z0__2
  refine og (fun t k => st_3 t k) ?_
  refine og (B := T_3.setTop (mkF m 19 #[rv a0, oD x1, oS, rv a3, rv b_2, iv 0] [(.ref a0), (.int 0)])) (fun t k => ?_) ?_
  · refine XS.iconst X_3.here hx rfl (hb hby d14_13) ?_
    refine XS.istore X_3.here hx rfl (hb hby d14_14) rfl (l' := #[rv a0, oD x1, oS, rv a3, rv b_2, iv 0]) rfl ?_
    refine XS.iload X_3.here hx rfl (hb hby d14_16) rfl ?_
    refine XS.aloadN X_3.here hx rfl (hb hby d14_18) rfl rfl ?_
    exact k
  obtain ⟨T_4, X_4, e_4, st_4⟩ := getF X_3 hx hZ hown (host := "") (Or.inl (ow hw 48 rfl)) Via.refl e_3 c26 (g := (mkF m 19 #[rv a0, oD x1, oS, rv a3, rv b_2, iv 0] [(.ref a0), (.int 0)])) rfl rfl (hb hby d14_19)
  refine og (fun t k => st_4 t k) ?_
  refine og (B := T_4.setTop (mkF m 25 #[rv a0, oD x1, oS, rv a3, rv b_2, iv 0] [])) (fun t k => ?_) ?_
  · refine XS.icmpNo X_4.here hx rfl (hb hby d14_22) rfl (tlt (by decide : (0 : Int32) < (2 : Int32))).2.1 ?_
    exact k
  refine og (B := T_4.setTop (mkF m 34 #[rv a0, oD x1, oS, rv a3, rv b_2, iv 0] [(.int 0), (.ref a3), (.int 1), (.ref b_2)])) (fun t k => ?_) ?_
  · refine XS.aload X_4.here hx rfl (hb hby d14_25) rfl rfl ?_
    refine XS.iload X_4.here hx rfl (hb hby d14_27) rfl ?_
    refine XS.iconst X_4.here hx rfl (hb hby d14_29) ?_
    refine XS.iadd X_4.here hx rfl (hb hby d14_30) rfl ?_
    refine XS.aloadN X_4.here hx rfl (hb hby d14_31) rfl rfl ?_
    refine XS.iload X_4.here hx rfl (hb hby d14_32) rfl ?_
    exact k
  obtain ⟨cl_5, Ar_5, q_5, S_5, M_5, H_5, G_5⟩ := id c40
  have hin_5 : ¬ ((0 : Int32) < 0 ∨ cl_5.slots.size ≤ ((0 : Int32)).toNatClampNeg) := inb_of S_5 ⟨by decide, by decide⟩
  have hat_5 : cl_5.slots[((0 : Int32)).toNatClampNeg]? = some (.double sl0) := H_5.at hin_5 rfl
  refine og (B := T_4.setTop (mkF m 35 #[rv a0, oD x1, oS, rv a3, rv b_2, iv 0] [(.double sl0), (.int 1), (.ref b_2)])) (fun t k => X_4.daload hx (j := (0 : Int32)) (v := (.double sl0)) (by rw [(e_4 : _ = _)]; exact Ar_5.1) (State.isArrayOf_alike hZ.alike Ar_5.2.1) Ar_5.2.2 hin_5 hat_5 (g := (mkF m 34 #[rv a0, oD x1, oS, rv a3, rv b_2, iv 0] [(.int 0), (.ref a3), (.int 1), (.ref b_2)])) rfl rfl (hb hby d14_34) t k) ?_
  refine og (B := T_4.setTop (mkF m 36 #[rv a0, oD x1, oS, rv a3, rv b_2, iv 0] [(.double (FP.dneg sl0)), (.int 1), (.ref b_2)])) (fun t k => ?_) ?_
  · refine XS.dnegS X_4.here hx rfl (hb hby d14_35) rfl rfl ?_
    exact k
  obtain ⟨cl_6, Ar_6, q_6, S_6, M_6, H_6, G_6⟩ := id V_3
  have hin_6 : ¬ ((1 : Int32) < 0 ∨ cl_6.slots.size ≤ ((1 : Int32)).toNatClampNeg) := inb_of S_6 ⟨by decide, by decide⟩
  obtain ⟨T_6, h_6, X_6, e_6, W_6, st_6⟩ := stD X_4 hx hZ e_4 Ar_6 (j := (1 : Int32)) hin_6 (g := (mkF m 36 #[rv a0, oD x1, oS, rv a3, rv b_2, iv 0] [(.double (FP.dneg sl0)), (.int 1), (.ref b_2)])) rfl rfl (hb hby d14_36)
  have c42 := c21.wr W_6 (Or.inr sz_b_2)
  have c43 := c22.wr W_6
  have c44 := c23.other W_6 (Or.inl ne_a0_b_2)
  have c45 := c24.other W_6 (Or.inl ne_a0_b_2)
  have c46 := c25.other W_6 (Or.inl ne_a0_b_2)
  have c47 := c26.other W_6 (Or.inl ne_a0_b_2)
  have c48 := c27.other W_6 (Or.inl ne_a0_b_2)
  have c49 := c28.other W_6 (Or.inl ne_a0_b_2)
  have c50 := c29.other W_6 (Or.inl ne_a0_b_2)
  have c51 := c30.other W_6 (Or.inl ne_a0_b_2)
  have c52 := c31.other W_6 (Or.inl ne_a0_b_2)
  have c53 := c32.wr W_6
  have c54 := c33.other W_6 (Or.inl ne_al_b_2)
  have c55 := c34.other W_6 (Or.inl ne_al_b_2)
  have c56 := c35.other W_6 (Or.inl ne_al_b_2)
  have c57 := c36.other W_6 ne_ed_b_2
  have c58 := c37.other W_6 ne_va_b_2
  have c59 := c38.other W_6 ne_ro_b_2
  have c60 := c39.other W_6 ne_ba_b_2
  have c61 := c40.other W_6 ne_a3_b_2
  have c62 := c41.wr W_6
  have V_6 : Arv Z h_6 b_2 k_2 .double (3 : Int32) [(.double 4607182418800017408), (.double (FP.dneg sl0)), (.double 0)] (.double 0) := Arv.set Ar_6 q_6 S_6 M_6 H_6 G_6 rfl W_6 1 rfl (Nat.le_of_ble_eq_true rfl)
  have N_6 := Fr.snoc X_6 N_3 g_b_2
  have Z0__6 : n0 ≤ h_6.size := by rw [W_6.size]; exact Z0__3
  refine og (fun t k => st_6 t k) ?_
  refine og (B := T_6.setTop (mkF m 19 #[rv a0, oD x1, oS, rv a3, rv b_2, iv 1] [(.ref a0), (.int 1)])) (fun t k => ?_) ?_
  · refine XS.iinc X_6.here hx rfl (hb hby d14_37) rfl (l' := #[rv a0, oD x1, oS, rv a3, rv b_2, iv 1]) rfl ?_
    refine XS.goto X_6.here hx rfl (pc0 := 40) (pc' := 16) rfl (hb hby d14_40) (by decide) (by decide) ?_
    refine XS.iload X_6.here hx rfl (hb hby d14_16) rfl ?_
    refine XS.aloadN X_6.here hx rfl (hb hby d14_18) rfl rfl ?_
    exact k
  obtain ⟨T_7, X_7, e_7, st_7⟩ := getF X_6 hx hZ hown (host := "") (Or.inl (ow hw 48 rfl)) Via.refl e_6 c47 (g := (mkF m 19 #[rv a0, oD x1, oS, rv a3, rv b_2, iv 1] [(.ref a0), (.int 1)])) rfl rfl (hb hby d14_19)
  refine og (fun t k => st_7 t k) ?_
  refine og (B := T_7.setTop (mkF m 25 #[rv a0, oD x1, oS, rv a3, rv b_2, iv 1] [])) (fun t k => ?_) ?_
  · refine XS.icmpNo X_7.here hx rfl (hb hby d14_22) rfl (tlt (by decide : (1 : Int32) < (2 : Int32))).2.1 ?_
    exact k
  refine og (B := T_7.setTop (mkF m 34 #[rv a0, oD x1, oS, rv a3, rv b_2, iv 1] [(.int 1), (.ref a3), (.int 2), (.ref b_2)])) (fun t k => ?_) ?_
  · refine XS.aload X_7.here hx rfl (hb hby d14_25) rfl rfl ?_
    refine XS.iload X_7.here hx rfl (hb hby d14_27) rfl ?_
    refine XS.iconst X_7.here hx rfl (hb hby d14_29) ?_
    refine XS.iadd X_7.here hx rfl (hb hby d14_30) rfl ?_
    refine XS.aloadN X_7.here hx rfl (hb hby d14_31) rfl rfl ?_
    refine XS.iload X_7.here hx rfl (hb hby d14_32) rfl ?_
    exact k
  obtain ⟨cl_8, Ar_8, q_8, S_8, M_8, H_8, G_8⟩ := id c61
  have hin_8 : ¬ ((1 : Int32) < 0 ∨ cl_8.slots.size ≤ ((1 : Int32)).toNatClampNeg) := inb_of S_8 ⟨by decide, by decide⟩
  have hat_8 : cl_8.slots[((1 : Int32)).toNatClampNeg]? = some (.double sl1) := H_8.at hin_8 rfl
  refine og (B := T_7.setTop (mkF m 35 #[rv a0, oD x1, oS, rv a3, rv b_2, iv 1] [(.double sl1), (.int 2), (.ref b_2)])) (fun t k => X_7.daload hx (j := (1 : Int32)) (v := (.double sl1)) (by rw [(e_7 : _ = _)]; exact Ar_8.1) (State.isArrayOf_alike hZ.alike Ar_8.2.1) Ar_8.2.2 hin_8 hat_8 (g := (mkF m 34 #[rv a0, oD x1, oS, rv a3, rv b_2, iv 1] [(.int 1), (.ref a3), (.int 2), (.ref b_2)])) rfl rfl (hb hby d14_34) t k) ?_
  refine og (B := T_7.setTop (mkF m 36 #[rv a0, oD x1, oS, rv a3, rv b_2, iv 1] [(.double (FP.dneg sl1)), (.int 2), (.ref b_2)])) (fun t k => ?_) ?_
  · refine XS.dnegS X_7.here hx rfl (hb hby d14_35) rfl rfl ?_
    exact k
  obtain ⟨cl_9, Ar_9, q_9, S_9, M_9, H_9, G_9⟩ := id V_6
  have hin_9 : ¬ ((2 : Int32) < 0 ∨ cl_9.slots.size ≤ ((2 : Int32)).toNatClampNeg) := inb_of S_9 ⟨by decide, by decide⟩
  obtain ⟨T_9, h_9, X_9, e_9, W_9, st_9⟩ := stD X_7 hx hZ e_7 Ar_9 (j := (2 : Int32)) hin_9 (g := (mkF m 36 #[rv a0, oD x1, oS, rv a3, rv b_2, iv 1] [(.double (FP.dneg sl1)), (.int 2), (.ref b_2)])) rfl rfl (hb hby d14_36)
  have c63 := c42.wr W_9 (Or.inr sz_b_2)
  have c64 := c43.wr W_9
  have c65 := c44.other W_9 (Or.inl ne_a0_b_2)
  have c66 := c45.other W_9 (Or.inl ne_a0_b_2)
  have c67 := c46.other W_9 (Or.inl ne_a0_b_2)
  have c68 := c47.other W_9 (Or.inl ne_a0_b_2)
  have c69 := c48.other W_9 (Or.inl ne_a0_b_2)
  have c70 := c49.other W_9 (Or.inl ne_a0_b_2)
  have c71 := c50.other W_9 (Or.inl ne_a0_b_2)
  have c72 := c51.other W_9 (Or.inl ne_a0_b_2)
  have c73 := c52.other W_9 (Or.inl ne_a0_b_2)
  have c74 := c53.wr W_9
  have c75 := c54.other W_9 (Or.inl ne_al_b_2)
  have c76 := c55.other W_9 (Or.inl ne_al_b_2)
  have c77 := c56.other W_9 (Or.inl ne_al_b_2)
  have c78 := c57.other W_9 ne_ed_b_2
  have c79 := c58.other W_9 ne_va_b_2
  have c80 := c59.other W_9 ne_ro_b_2
  have c81 := c60.other W_9 ne_ba_b_2
  have c82 := c61.other W_9 ne_a3_b_2
  have c83 := c62.wr W_9
  have V_9 : Arv Z h_9 b_2 k_2 .double (3 : Int32) [(.double 4607182418800017408), (.double (FP.dneg sl0)), (.double (FP.dneg sl1))] (.double 0) := Arv.set Ar_9 q_9 S_9 M_9 H_9 G_9 rfl W_9 2 rfl (Nat.le_of_ble_eq_true rfl)
  have N_9 := Fr.snoc X_9 N_6 g_b_2
  have Z0__9 : n0 ≤ h_9.size := by rw [W_9.size]; exact Z0__6
  refine og (fun t k => st_9 t k) ?_
  refine og (B := T_9.setTop (mkF m 19 #[rv a0, oD x1, oS, rv a3, rv b_2, iv 2] [(.ref a0), (.int 2)])) (fun t k => ?_) ?_
  · refine XS.iinc X_9.here hx rfl (hb hby d14_37) rfl (l' := #[rv a0, oD x1, oS, rv a3, rv b_2, iv 2]) rfl ?_
    refine XS.goto X_9.here hx rfl (pc0 := 40) (pc' := 16) rfl (hb hby d14_40) (by decide) (by decide) ?_
    refine XS.iload X_9.here hx rfl (hb hby d14_16) rfl ?_
    refine XS.aloadN X_9.here hx rfl (hb hby d14_18) rfl rfl ?_
    exact k
  obtain ⟨T_10, X_10, e_10, st_10⟩ := getF X_9 hx hZ hown (host := "") (Or.inl (ow hw 48 rfl)) Via.refl e_9 c68 (g := (mkF m 19 #[rv a0, oD x1, oS, rv a3, rv b_2, iv 2] [(.ref a0), (.int 2)])) rfl rfl (hb hby d14_19)
  refine og (fun t k => st_10 t k) ?_
  refine og (B := T_10.setTop (mkF m 43 #[rv a0, oD x1, oS, rv a3, rv b_2, iv 2] [])) (fun t k => ?_) ?_
  · refine XS.icmpYes X_10.here hx rfl (pc0 := 22) (pc' := 43) rfl (hb hby d14_22) rfl (flt (by decide : ¬ ((2 : Int32) < (2 : Int32)))).2.1 (by decide) (by decide) ?_
    exact k
  refine og (B := T_10.setTop (mkF m 47 #[rv a0, oD x1, oS, rv a3, rv b_2, iv 2] [(.double x1), (.ref b_2), (.ref a0)])) (fun t k => ?_) ?_
  · refine XS.aloadN X_10.here hx rfl (hb hby d14_43) rfl rfl ?_
    refine XS.aload X_10.here hx rfl (hb hby d14_44) rfl rfl ?_
    refine XS.dloadN X_10.here hx rfl (hb hby d14_46) rfl ?_
    exact k
  obtain ⟨cq_11, q_11a, q_11b⟩ := (c64).cell
  obtain ⟨_, _, ⟨T_11, L_11, k_11, n_11⟩, -, X_11, ⟨Lc_11, hQ_11, l_11, y_11, z_11⟩, st_11⟩ := X_10.privateBack hx (y := own_m9) hown (mvT hZ (ow hw 54 rfl)) (mvT hZ (ow hw 55 rfl)) (own_sel hZ (ow hw 8 rfl) (Cond.privateMethod_at (mvP hZ (ow hw 56 rfl) (args := #[]))) (mvT hZ (ow hw 55 rfl)) (by decide)) (Cond.privateMethod_at (mvP hZ (ow hw 56 rfl) (args := #[]))) (mvT hZ (ow hw 57 rfl)) (by decide) (backOf (W := 0) (rmac4 l Z av0 hw [] a0 b_2 x1 al va ro ed ka kr kd w0 w1 w2 w3 ca0 ca1 ca2 ca3 h_9 n0 Z0__9 c64 c65 c66 c67 c74 c75 c76 c77 g_al g_va g_ro c83 c79 c80 g_ed c78 P14 ne_a0_al ne_a0_va ne_a0_ro ne_a0_ed ne_al_va ne_al_ro ne_al_ed ne_va_ro ne_va_ed ne_ro_ed) hZ (ow hw 57 rfl) (ow hw 9 rfl) (by decide) (by decide)) (g := (mkF m 47 #[rv a0, oD x1, oS, rv a3, rv b_2, iv 2] [(.double x1), (.ref b_2), (.ref a0)])) rfl (by rw [hml]; rfl) (Steps.refl _) (a := a0) (by rw [(e_10 : _ = _)]; exact q_11a) q_11b (argsL := [(.ref b_2), (.double x1)]) (rest := []) (lenOf pd_7 rfl) rfl (by show 2 * 0 + _ ≤ _; exact Nat.le_of_eq rfl) (hb hby d14_47) (fun _ _ => ⟨rfl, e_10, (by decide : 1 + 0 ≤ _), (by decide : 3 + 0 ≤ _)⟩)
  dsimp only [Pt.U, Pt.locs, Pt.cells, Pt.slots] at X_11 l_11 y_11 z_11 st_11 hQ_11
  subst l_11 y_11 z_11
  obtain ⟨rfl, N_11q, K_11, VE_11, Fm_11, Fe_11, Fs_11, VA_11, VR_11⟩ := hQ_11
  have N_11 := Fr.app N_9 N_11q
  have c84 := c63.trans K_11 (allS (Or.inl (List.mem_of_getElem? (i := 1) rfl)) (allS (Or.inl (List.mem_of_getElem? (i := 2) rfl)) (allS (Or.inl (List.mem_of_getElem? (i := 3) rfl)) (allS (Or.inl (List.mem_of_getElem? (i := 5) rfl)) all0))))
  have c85 := c64.keep K_11
  have c86 := c65.keep K_11 (ninS ne_a0_al (ninS ne_a0_va (ninS ne_a0_ro (ninS ne_a0_ed nin0))))
  have c87 := c66.keep K_11 (ninS ne_a0_al (ninS ne_a0_va (ninS ne_a0_ro (ninS ne_a0_ed nin0))))
  have c88 := c67.keep K_11 (ninS ne_a0_al (ninS ne_a0_va (ninS ne_a0_ro (ninS ne_a0_ed nin0))))
  have c89 := c68.keep K_11 (ninS ne_a0_al (ninS ne_a0_va (ninS ne_a0_ro (ninS ne_a0_ed nin0))))
  have c90 := c69.keep K_11 (ninS ne_a0_al (ninS ne_a0_va (ninS ne_a0_ro (ninS ne_a0_ed nin0))))
  have c91 := c70.keep K_11 (ninS ne_a0_al (ninS ne_a0_va (ninS ne_a0_ro (ninS ne_a0_ed nin0))))
  have c92 := c71.keep K_11 (ninS ne_a0_al (ninS ne_a0_va (ninS ne_a0_ro (ninS ne_a0_ed nin0))))
  have c93 := c72.keep K_11 (ninS ne_a0_al (ninS ne_a0_va (ninS ne_a0_ro (ninS ne_a0_ed nin0))))
  have c94 := c73.keep K_11 (ninS ne_a0_al (ninS ne_a0_va (ninS ne_a0_ro (ninS ne_a0_ed nin0))))
  have c95 := c74.keep K_11
  have c96 := c81.keep K_11 (ninS (Ne.symm ne_al_ba) (ninS (Ne.symm ne_va_ba) (ninS (Ne.symm ne_ro_ba) (ninS ne_ba_ed nin0))))
  have c97 := c83.keep K_11
  have c98 := V_9.keep K_11 (ninS (Ne.symm ne_al_b_2) (ninS (Ne.symm ne_va_b_2) (ninS (Ne.symm ne_ro_b_2) (ninS (Ne.symm ne_ed_b_2) nin0))))
  have Z0__11 : n0 ≤ T_11.heap.size := Nat.le_trans Z0__9 K_11.1
  refine og (fun t k => st_11.trans k) ?_
  refine og (B := T_11.setTop (mkF m 51 #[rv a0, oD x1, oS, rv a3, rv b_2, iv 2] [(.ref a0)])) (fun t k => ?_) ?_
  · refine XS.aloadN X_11.here hx rfl (hb hby d14_50) rfl rfl ?_
    exact k
  obtain ⟨T_12, X_12, e_12, st_12⟩ := getF X_11 hx hZ hown (host := "") (Or.inl (ow hw 104 rfl)) Via.refl rfl c92 (g := (mkF m 51 #[rv a0, oD x1, oS, rv a3, rv b_2, iv 2] [(.ref a0)])) rfl rfl (hb hby d14_51)
  refine og (fun t k => st_12 t k) ?_
  refine og (B := T_12.setTop (mkF m 57 #[rv a0, oD x1, oS, rv a3, rv b_2, iv 2] [])) (fun t k => ?_) ?_
  · refine XS.ifnonnullNo X_12.here hx rfl (hb hby d14_54) rfl ?_
    exact k
  refine og (B := T_12.setTop (mkF m 58 #[rv a0, oD x1, oS, rv a3, rv b_2, iv 2] [(.ref a0)])) (fun t k => ?_) ?_
  · refine XS.aloadN X_12.here hx rfl (hb hby d14_57) rfl rfl ?_
    exact k
  have kk_13 := (c98).lt
  obtain ⟨cq_13, q_13a, q_13b⟩ := (c85).cell
  obtain ⟨_, _, ⟨T_13, L_13, k_13, n_13⟩, -, X_13, ⟨Lc_13, hQ_13, l_13, y_13, z_13⟩, st_13⟩ := X_12.privateBack hx (y := own_m16) hown (mvT hZ (ow hw 106 rfl)) (mvT hZ (ow hw 107 rfl)) (own_sel hZ (ow hw 8 rfl) (Cond.privateMethod_at (mvP hZ (ow hw 108 rfl) (args := #[]))) (mvT hZ (ow hw 107 rfl)) (by decide)) (Cond.privateMethod_at (mvP hZ (ow hw 108 rfl) (args := #[]))) (mvT hZ (ow hw 109 rfl)) (by decide) (backOf (W := 0) (rmsta l Z av0 hw [] a0 al va ro ba ca0 ed ca1 ca2 ca3 b_2 kd kr kq k_2 (FP.dneg sl0) (FP.dneg sl1) u7 u8 T_11.heap n0 Z0__11 c85 c86 c87 c88 c89 c90 c91 c92 c93 c94 c95 Fe_11 Fs_11 VE_11 VR_11 c96 c97 c98 g_a0 lt_a0_ro lt_ro_ba lt_ba_b_2 hn0 hn1) hZ (ow hw 109 rfl) (ow hw 9 rfl) (by decide) (by decide)) (g := (mkF m 58 #[rv a0, oD x1, oS, rv a3, rv b_2, iv 2] [(.ref a0)])) rfl (by rw [hml]; rfl) (Steps.refl _) (a := a0) (by rw [(e_12 : _ = _)]; exact q_13a) q_13b (argsL := []) (rest := []) (lenOf pd_0 rfl) rfl (by show 2 * 0 + _ ≤ _; exact Nat.le_of_eq rfl) (hb hby d14_58) (fun _ _ => ⟨rfl, e_12, (by decide : 1 + 5 ≤ _), (by decide : 3 + 15 ≤ _)⟩)
  dsimp only [Pt.U, Pt.locs, Pt.cells, Pt.slots] at X_13 l_13 y_13 z_13 st_13 hQ_13
  subst l_13 y_13 z_13
  obtain ⟨b_13, y_13_0, y_13_1, y_13_2, ki_13, kj_13, bq_13_1, bq_13_2, gq_13_0, gq_13_1, rfl, N_13q, K_13, szq_13, l0_13, l1_13, l2_13, sa_13, sb_13, Q_13_0, Q_13_1, Q_13_2, Q_13_3, Q_13_4, Q_13_5, Q_13_6, Q_13_7, Q_13_8, Q_13_9, Q_13_10, Q_13_11, Q_13_12, Q_13_13⟩ := hQ_13
  have N_13 := Fr.app N_11 N_13q
  have c99 := c84.trans K_13 (allS (Or.inl (List.mem_of_getElem? (i := 0) rfl)) (allS (Or.inl (List.mem_of_getElem? (i := 3) rfl)) (allS (Or.inl (List.mem_of_getElem? (i := 4) rfl)) all0)))
  have c100 := c85.keep K_13
  have c101 := c95.keep K_13
  have c102 := c97.keep K_13
  have c103 := c98.keep K_13 (ninS (Ne.symm ne_a0_b_2) (ninS (Ne.symm ne_ro_b_2) (ninS (Ne.symm ne_ba_b_2) nin0)))
  have c104 := VE_11.keep K_13 (ninS (Ne.symm ne_a0_ed) (ninS (Ne.symm ne_ro_ed) (ninS (Ne.symm ne_ba_ed) nin0)))
  have c105 := VA_11.keep K_13 (ninS (Ne.symm ne_a0_va) (ninS ne_va_ro (ninS ne_va_ba nin0)))
  have c106 := Fm_11.keep K_13 (ninS (Ne.symm ne_a0_al) (ninS ne_al_ro (ninS ne_al_ba nin0)))
  have c107 := Fe_11.keep K_13 (ninS (Ne.symm ne_a0_al) (ninS ne_al_ro (ninS ne_al_ba nin0)))
  have c108 := Fs_11.keep K_13 (ninS (Ne.symm ne_a0_al) (ninS ne_al_ro (ninS ne_al_ba nin0)))
  have Z0__13 : n0 ≤ T_13.heap.size := Nat.le_trans Z0__11 K_13.1
  have l9_13 := Nat.lt_of_lt_of_le kk_13 szq_13
  refine og (fun t k => st_13.trans k) ?_
  obtain ⟨fs, hr, hrun, hended, hW, hsame⟩ := X_13.leave (v := none) (fun _ => rfl)
  refine ⟨_, _, ?_, hrun, hended, _, _, rfl, ?_, ⟨_, rfl⟩, hW, hsame.mono (by decide) (by decide)⟩
  · show Steps p.tables e below (T_13.setTop (mkF m 61 #[rv a0, oD x1, oS, rv a3, rv b_2, iv 2] [])) _
    exact X_13.returnOut hx Bd.returns (hb hby d14_61) hr
  · show Qcad Z a0 x1 a3 al va ro ba ca0 ed ca1 ca2 ca3 kd ka kr kq ks w0 w1 w2 w3 sl0 sl1 u7 u8 h0 n0 _ T_13.heap _
    exact ⟨b_2, b_13, y_13_0, y_13_1, y_13_2, k_2, ki_13, kj_13, bq_13_1, bq_13_2, gq_13_0, gq_13_1, rfl, N_13, c99, sz_b_2, l9_13, l0_13, l1_13, l2_13, sa_13, sb_13, Q_13_0, Q_13_1, Q_13_2, Q_13_3, Q_13_4, Q_13_5, Q_13_6, Q_13_7, Q_13_8, Q_13_9, Q_13_10, Q_13_11, Q_13_12, Q_13_13, c107, c108, c104, c105, c102, c103⟩
theorem d20_0 : decode prog_36_method_4_code 0 = .ok (.aload_n 0, 1) := by decide +kernel
theorem d20_1 : decode prog_36_method_4_code 1 = .ok (.getfield 16, 3) := by decide +kernel
theorem d20_4 : decode prog_36_method_4_code 4 = .ok (.iconst 2, 1) := by decide +kernel
theorem d20_5 : decode prog_36_method_4_code 5 = .ok (.iload_n 1, 1) := by decide +kernel
theorem d20_6 : decode prog_36_method_4_code 6 = .ok (.imul, 1) := by decide +kernel
theorem d20_7 : decode prog_36_method_4_code 7 = .ok (.dload_n 2, 1) := by decide +kernel
theorem d20_8 : decode prog_36_method_4_code 8 = .ok (.dastore, 1) := by decide +kernel
theorem d20_9 : decode prog_36_method_4_code 9 = .ok (.aload_n 0, 1) := by decide +kernel
theorem d20_10 : decode prog_36_method_4_code 10 = .ok (.getfield 16, 3) := by decide +kernel
theorem d20_13 : decode prog_36_method_4_code 13 = .ok (.iconst 2, 1) := by decide +kernel
theorem d20_14 : decode prog_36_method_4_code 14 = .ok (.iload_n 1, 1) := by decide +kernel
theorem d20_15 : decode prog_36_method_4_code 15 = .ok (.imul, 1) := by decide +kernel
theorem d20_16 : decode prog_36_method_4_code 16 = .ok (.iconst 1, 1) := by decide +kernel
theorem d20_17 : decode prog_36_method_4_code 17 = .ok (.iadd, 1) := by decide +kernel
theorem d20_18 : decode prog_36_method_4_code 18 = .ok (.dload 4, 2) := by decide +kernel
theorem d20_20 : decode prog_36_method_4_code 20 = .ok (.dneg, 1) := by decide +kernel
theorem d20_21 : decode prog_36_method_4_code 21 = .ok (.dastore, 1) := by decide +kernel
theorem d20_22 : decode prog_36_method_4_code 22 = .ok (.return_, 1) := by decide +kernel
theorem pn_20 : plainName "com/example/ballast/ballast/placement/CuttingPlanes" = true := by first | (simp [plainName, overriddenIn]; done) | decide +kernel
theorem ef_mw0 (m : MethodId) (a0 : Addr) (x2 : UInt64) (x3 : UInt64) : entryFrame m #[(.ref a0), (.int 0), (.double x2), (.double x3)] 6 = mkF m 0 #[rv a0, iv 0, oD x2, oS, oD x3, oS] [] := by first | (simp [entryFrame, mkF, argsToLocals, Value.category]; done) | rfl
def Qmw0 (Z : State) (a0 : Addr) (x2 : UInt64) (x3 : UInt64) (va : Addr) (ka : ClassId) (w0 : UInt64) (w1 : UInt64) (w2 : UInt64) (w3 : UInt64) (w4 : UInt64) (h0 : Heap) (n0 : Nat) (v : Option Value) (h : Heap) (L : List Loc) : Prop := v = none ∧ Fr n0 L ∧ Keep h0 h [va] ∧ Arv Z h va ka .double (16 : Int32) [(.double x2), (.double (FP.dneg x3)), (.double w2), (.double w3), (.double w4)] (.double 0)
theorem rmmw0 (l : Launch) (Z : State) (av0 : Array Value) (hw : ∀ d ∈ tables_1, d.before av0 Z = true) (ws : List Jvm.Cond) (a0 : Addr) (x2 : UInt64) (x3 : UInt64) (va : Addr) (ka : ClassId) (w0 : UInt64) (w1 : UInt64) (w2 : UInt64) (w3 : UInt64) (w4 : UInt64) (h0 : Heap) (n0 : Nat) (Z0 : n0 ≤ h0.size) (F_values_a0 : Fld Z h0 a0 "com/example/ballast/ballast/placement/CuttingPlanes" "values" "[D" (.ref va)) (VA : Arv Z h0 va ka .double (16 : Int32) [(.double w0), (.double w1), (.double w2), (.double w3), (.double w4)] (.double 0)) (g_va : n0 ≤ va) (nav : a0 ≠ va) :
    MetFree l own_m21 (head1 (Jvm.Cond.code own_m21 prog_36_method_4_code 6 none :: ws) ({ frames := 0, cells := 0, slots := 0, locals := 0 } : Room)) (fun a U => a = #[(.ref a0), (.int 0), (.double x2), (.double x3)] ∧ Z.Warmed39 U.vm ∧ U.heap = h0) (fun _ _ _ _ _ => True) (fun _ U o U' => ∃ v L, o = .returned v ∧ Qmw0 Z a0 x2 x3 va ka w0 w1 w2 w3 w4 h0 n0 v U'.heap L ∧ FrameEnd U o U' L ({ frames := 0, cells := 0, slots := 0, locals := 0 } : Room).cells ({ frames := 0, cells := 0, slots := 0, locals := 0 } : Room).slots) := by
  refine MetFree.of_bodySF (plainFor_of_name pn_20) hisR ?_
  intro p e s m args below meth c s₁ Bd hml0 hP hK
  obtain ⟨rfl, hZ, hh⟩ := hP
  have hx := Bd.exec
  have hby := Bd.bytes
  have hml : c.maxLocals = 6 := hml0
  have hown : s.vm.findClass "com/example/ballast/ballast/placement/CuttingPlanes" = some m.cls := findClass_of_methodNamed Bd.named
  have X0 : Stand p l e ({ frames := 0, cells := 0, slots := 0, locals := 0 } : Room) s m #[(.ref a0), (.int 0), (.double x2), (.double x3)] below meth c s₁ [] 0 0 := Stand.of_body Bd
  have e0 : s₁.heap = h0 := by rw [← hh, Bd.state]; rfl
  have N0 := Fr.nil n0
  have K0 : Keep h0 h0 [va] := Keep.refl h0 [va]
  refine og (B := s₁.setTop (mkF m 0 #[rv a0, iv 0, oD x2, oS, oD x3, oS] [])) (fun t k => castTop (ef_mw0 m a0 x2 x3) k) ?_
  refine og (B := s₁.setTop (mkF m 1 #[rv a0, iv 0, oD x2, oS, oD x3, oS] [(.ref a0)])) (fun t k => ?_) ?_
  · refine XS.aloadN X0.here hx rfl (hb hby d20_0) rfl rfl ?_
    exact k
  obtain ⟨T_1, X_1, e_1, st_1⟩ := getF X0 hx hZ hown (host := "") (Or.inl (ow hw 43 rfl)) Via.refl e0 F_values_a0 (g := (mkF m 1 #[rv a0, iv 0, oD x2, oS, oD x3, oS] [(.ref a0)])) rfl rfl (hb hby d20_1)
  refine og (fun t k => st_1 t k) ?_
  refine og (B := T_1.setTop (mkF m 8 #[rv a0, iv 0, oD x2, oS, oD x3, oS] [(.double x2), (.int 0), (.ref va)])) (fun t k => ?_) ?_
  · refine XS.iconst X_1.here hx rfl (hb hby d20_4) ?_
    refine XS.iloadN X_1.here hx rfl (hb hby d20_5) rfl ?_
    refine XS.imul X_1.here hx rfl (hb hby d20_6) rfl ?_
    refine XS.dloadN X_1.here hx rfl (hb hby d20_7) rfl ?_
    exact k
  obtain ⟨cl_2, Ar_2, q_2, S_2, M_2, H_2, G_2⟩ := id VA
  have hin_2 : ¬ ((0 : Int32) < 0 ∨ cl_2.slots.size ≤ ((0 : Int32)).toNatClampNeg) := inb_of S_2 ⟨by decide, by decide⟩
  obtain ⟨T_2, h_2, X_2, e_2, W_2, st_2⟩ := stD X_1 hx hZ e_1 Ar_2 (j := (0 : Int32)) hin_2 (g := (mkF m 8 #[rv a0, iv 0, oD x2, oS, oD x3, oS] [(.double x2), (.int 0), (.ref va)])) rfl rfl (hb hby d20_8)
  have c1 := K0.wr W_2 (Or.inl (List.mem_of_getElem? (i := 0) rfl))
  have c2 := F_values_a0.other W_2 (Or.inl nav)
  have V_2 : Arv Z h_2 va ka .double (16 : Int32) [(.double x2), (.double w1), (.double w2), (.double w3), (.double w4)] (.double 0) := Arv.set Ar_2 q_2 S_2 M_2 H_2 G_2 rfl W_2 0 rfl (Nat.le_of_ble_eq_true rfl)
  have N_2 := Fr.snoc X_2 N0 g_va
  have Z0__2 : n0 ≤ h_2.size := by rw [W_2.size]; exact Z0
  refine og (fun t k => st_2 t k) ?_
  refine og (B := T_2.setTop (mkF m 10 #[rv a0, iv 0, oD x2, oS, oD x3, oS] [(.ref a0)])) (fun t k => ?_) ?_
  · refine XS.aloadN X_2.here hx rfl (hb hby d20_9) rfl rfl ?_
    exact k
  obtain ⟨T_3, X_3, e_3, st_3⟩ := getF X_2 hx hZ hown (host := "") (Or.inl (ow hw 43 rfl)) Via.refl e_2 c2 (g := (mkF m 10 #[rv a0, iv 0, oD x2, oS, oD x3, oS] [(.ref a0)])) rfl rfl (hb hby d20_10)
  refine og (fun t k => st_3 t k) ?_
  refine og (B := T_3.setTop (mkF m 21 #[rv a0, iv 0, oD x2, oS, oD x3, oS] [(.double (FP.dneg x3)), (.int 1), (.ref va)])) (fun t k => ?_) ?_
  · refine XS.iconst X_3.here hx rfl (hb hby d20_13) ?_
    refine XS.iloadN X_3.here hx rfl (hb hby d20_14) rfl ?_
    refine XS.imul X_3.here hx rfl (hb hby d20_15) rfl ?_
    refine XS.iconst X_3.here hx rfl (hb hby d20_16) ?_
    refine XS.iadd X_3.here hx rfl (hb hby d20_17) rfl ?_
    refine XS.dload X_3.here hx rfl (hb hby d20_18) rfl ?_
    refine XS.dnegS X_3.here hx rfl (hb hby d20_20) rfl rfl ?_
    exact k
  obtain ⟨cl_4, Ar_4, q_4, S_4, M_4, H_4, G_4⟩ := id V_2
  have hin_4 : ¬ ((1 : Int32) < 0 ∨ cl_4.slots.size ≤ ((1 : Int32)).toNatClampNeg) := inb_of S_4 ⟨by decide, by decide⟩
  obtain ⟨T_4, h_4, X_4, e_4, W_4, st_4⟩ := stD X_3 hx hZ e_3 Ar_4 (j := (1 : Int32)) hin_4 (g := (mkF m 21 #[rv a0, iv 0, oD x2, oS, oD x3, oS] [(.double (FP.dneg x3)), (.int 1), (.ref va)])) rfl rfl (hb hby d20_21)
  have c3 := c1.wr W_4 (Or.inl (List.mem_of_getElem? (i := 0) rfl))
  have c4 := c2.other W_4 (Or.inl nav)
  have V_4 : Arv Z h_4 va ka .double (16 : Int32) [(.double x2), (.double (FP.dneg x3)), (.double w2), (.double w3), (.double w4)] (.double 0) := Arv.set Ar_4 q_4 S_4 M_4 H_4 G_4 rfl W_4 1 rfl (Nat.le_of_ble_eq_true rfl)
  have N_4 := Fr.snoc X_4 N_2 g_va
  have Z0__4 : n0 ≤ h_4.size := by rw [W_4.size]; exact Z0__2
  refine og (fun t k => st_4 t k) ?_
  obtain ⟨fs, hr, hrun, hended, hW, hsame⟩ := X_4.leave (v := none) (fun _ => rfl)
  refine ⟨_, _, ?_, hrun, hended, _, _, rfl, ?_, ⟨_, rfl⟩, hW, hsame.mono (by decide) (by decide)⟩
  · show Steps p.tables e below (T_4.setTop (mkF m 22 #[rv a0, iv 0, oD x2, oS, oD x3, oS] [])) _
    exact X_4.returnOut hx Bd.returns (hb hby d20_22) hr
  · show Qmw0 Z a0 x2 x3 va ka w0 w1 w2 w3 w4 h0 n0 _ T_4.heap _
    rw [e_4]
    exact ⟨rfl, N_4, c3, V_4⟩
theorem ef_mw1 (m : MethodId) (a0 : Addr) (x2 : UInt64) (x3 : UInt64) : entryFrame m #[(.ref a0), (.int 1), (.double x2), (.double x3)] 6 = mkF m 0 #[rv a0, iv 1, oD x2, oS, oD x3, oS] [] := by first | (simp [entryFrame, mkF, argsToLocals, Value.category]; done) | rfl
def Qmw1 (Z : State) (a0 : Addr) (x2 : UInt64) (x3 : UInt64) (va : Addr) (ka : ClassId) (w0 : UInt64) (w1 : UInt64) (w2 : UInt64) (w3 : UInt64) (w4 : UInt64) (h0 : Heap) (n0 : Nat) (v : Option Value) (h : Heap) (L : List Loc) : Prop := v = none ∧ Fr n0 L ∧ Keep h0 h [va] ∧ Arv Z h va ka .double (16 : Int32) [(.double w0), (.double w1), (.double x2), (.double (FP.dneg x3)), (.double w4)] (.double 0)
theorem rmmw1 (l : Launch) (Z : State) (av0 : Array Value) (hw : ∀ d ∈ tables_1, d.before av0 Z = true) (ws : List Jvm.Cond) (a0 : Addr) (x2 : UInt64) (x3 : UInt64) (va : Addr) (ka : ClassId) (w0 : UInt64) (w1 : UInt64) (w2 : UInt64) (w3 : UInt64) (w4 : UInt64) (h0 : Heap) (n0 : Nat) (Z0 : n0 ≤ h0.size) (F_values_a0 : Fld Z h0 a0 "com/example/ballast/ballast/placement/CuttingPlanes" "values" "[D" (.ref va)) (VA : Arv Z h0 va ka .double (16 : Int32) [(.double w0), (.double w1), (.double w2), (.double w3), (.double w4)] (.double 0)) (g_va : n0 ≤ va) (nav : a0 ≠ va) :
    MetFree l own_m21 (head1 (Jvm.Cond.code own_m21 prog_36_method_4_code 6 none :: ws) ({ frames := 0, cells := 0, slots := 0, locals := 0 } : Room)) (fun a U => a = #[(.ref a0), (.int 1), (.double x2), (.double x3)] ∧ Z.Warmed39 U.vm ∧ U.heap = h0) (fun _ _ _ _ _ => True) (fun _ U o U' => ∃ v L, o = .returned v ∧ Qmw1 Z a0 x2 x3 va ka w0 w1 w2 w3 w4 h0 n0 v U'.heap L ∧ FrameEnd U o U' L ({ frames := 0, cells := 0, slots := 0, locals := 0 } : Room).cells ({ frames := 0, cells := 0, slots := 0, locals := 0 } : Room).slots) := by
  refine MetFree.of_bodySF (plainFor_of_name pn_20) hisR ?_
  intro p e s m args below meth c s₁ Bd hml0 hP hK
  obtain ⟨rfl, hZ, hh⟩ := hP
  have hx := Bd.exec
  have hby := Bd.bytes
  have hml : c.maxLocals = 6 := hml0
  have hown : s.vm.findClass "com/example/ballast/ballast/placement/CuttingPlanes" = some m.cls := findClass_of_methodNamed Bd.named
  have X0 : Stand p l e ({ frames := 0, cells := 0, slots := 0, locals := 0 } : Room) s m #[(.ref a0), (.int 1), (.double x2), (.double x3)] below meth c s₁ [] 0 0 := Stand.of_body Bd
  have e0 : s₁.heap = h0 := by rw [← hh, Bd.state]; rfl
  have N0 := Fr.nil n0
  have K0 : Keep h0 h0 [va] := Keep.refl h0 [va]
  refine og (B := s₁.setTop (mkF m 0 #[rv a0, iv 1, oD x2, oS, oD x3, oS] [])) (fun t k => castTop (ef_mw1 m a0 x2 x3) k) ?_
  refine og (B := s₁.setTop (mkF m 1 #[rv a0, iv 1, oD x2, oS, oD x3, oS] [(.ref a0)])) (fun t k => ?_) ?_
  · refine XS.aloadN X0.here hx rfl (hb hby d20_0) rfl rfl ?_
    exact k
  obtain ⟨T_1, X_1, e_1, st_1⟩ := getF X0 hx hZ hown (host := "") (Or.inl (ow hw 43 rfl)) Via.refl e0 F_values_a0 (g := (mkF m 1 #[rv a0, iv 1, oD x2, oS, oD x3, oS] [(.ref a0)])) rfl rfl (hb hby d20_1)
  refine og (fun t k => st_1 t k) ?_
  refine og (B := T_1.setTop (mkF m 8 #[rv a0, iv 1, oD x2, oS, oD x3, oS] [(.double x2), (.int 2), (.ref va)])) (fun t k => ?_) ?_
  · refine XS.iconst X_1.here hx rfl (hb hby d20_4) ?_
    refine XS.iloadN X_1.here hx rfl (hb hby d20_5) rfl ?_
    refine XS.imul X_1.here hx rfl (hb hby d20_6) rfl ?_
    refine XS.dloadN X_1.here hx rfl (hb hby d20_7) rfl ?_
    exact k
  obtain ⟨cl_2, Ar_2, q_2, S_2, M_2, H_2, G_2⟩ := id VA
  have hin_2 : ¬ ((2 : Int32) < 0 ∨ cl_2.slots.size ≤ ((2 : Int32)).toNatClampNeg) := inb_of S_2 ⟨by decide, by decide⟩
  obtain ⟨T_2, h_2, X_2, e_2, W_2, st_2⟩ := stD X_1 hx hZ e_1 Ar_2 (j := (2 : Int32)) hin_2 (g := (mkF m 8 #[rv a0, iv 1, oD x2, oS, oD x3, oS] [(.double x2), (.int 2), (.ref va)])) rfl rfl (hb hby d20_8)
  have c1 := K0.wr W_2 (Or.inl (List.mem_of_getElem? (i := 0) rfl))
  have c2 := F_values_a0.other W_2 (Or.inl nav)
  have V_2 : Arv Z h_2 va ka .double (16 : Int32) [(.double w0), (.double w1), (.double x2), (.double w3), (.double w4)] (.double 0) := Arv.set Ar_2 q_2 S_2 M_2 H_2 G_2 rfl W_2 2 rfl (Nat.le_of_ble_eq_true rfl)
  have N_2 := Fr.snoc X_2 N0 g_va
  have Z0__2 : n0 ≤ h_2.size := by rw [W_2.size]; exact Z0
  refine og (fun t k => st_2 t k) ?_
  refine og (B := T_2.setTop (mkF m 10 #[rv a0, iv 1, oD x2, oS, oD x3, oS] [(.ref a0)])) (fun t k => ?_) ?_
  · refine XS.aloadN X_2.here hx rfl (hb hby d20_9) rfl rfl ?_
    exact k
  obtain ⟨T_3, X_3, e_3, st_3⟩ := getF X_2 hx hZ hown (host := "") (Or.inl (ow hw 43 rfl)) Via.refl e_2 c2 (g := (mkF m 10 #[rv a0, iv 1, oD x2, oS, oD x3, oS] [(.ref a0)])) rfl rfl (hb hby d20_10)
  refine og (fun t k => st_3 t k) ?_
  refine og (B := T_3.setTop (mkF m 21 #[rv a0, iv 1, oD x2, oS, oD x3, oS] [(.double (FP.dneg x3)), (.int 3), (.ref va)])) (fun t k => ?_) ?_
  · refine XS.iconst X_3.here hx rfl (hb hby d20_13) ?_
    refine XS.iloadN X_3.here hx rfl (hb hby d20_14) rfl ?_
    refine XS.imul X_3.here hx rfl (hb hby d20_15) rfl ?_
    refine XS.iconst X_3.here hx rfl (hb hby d20_16) ?_
    refine XS.iadd X_3.here hx rfl (hb hby d20_17) rfl ?_
    refine XS.dload X_3.here hx rfl (hb hby d20_18) rfl ?_
    refine XS.dnegS X_3.here hx rfl (hb hby d20_20) rfl rfl ?_
    exact k
  obtain ⟨cl_4, Ar_4, q_4, S_4, M_4, H_4, G_4⟩ := id V_2
  have hin_4 : ¬ ((3 : Int32) < 0 ∨ cl_4.slots.size ≤ ((3 : Int32)).toNatClampNeg) := inb_of S_4 ⟨by decide, by decide⟩
  obtain ⟨T_4, h_4, X_4, e_4, W_4, st_4⟩ := stD X_3 hx hZ e_3 Ar_4 (j := (3 : Int32)) hin_4 (g := (mkF m 21 #[rv a0, iv 1, oD x2, oS, oD x3, oS] [(.double (FP.dneg x3)), (.int 3), (.ref va)])) rfl rfl (hb hby d20_21)
  have c3 := c1.wr W_4 (Or.inl (List.mem_of_getElem? (i := 0) rfl))
  have c4 := c2.other W_4 (Or.inl nav)
  have V_4 : Arv Z h_4 va ka .double (16 : Int32) [(.double w0), (.double w1), (.double x2), (.double (FP.dneg x3)), (.double w4)] (.double 0) := Arv.set Ar_4 q_4 S_4 M_4 H_4 G_4 rfl W_4 3 rfl (Nat.le_of_ble_eq_true rfl)
  have N_4 := Fr.snoc X_4 N_2 g_va
  have Z0__4 : n0 ≤ h_4.size := by rw [W_4.size]; exact Z0__2
  refine og (fun t k => st_4 t k) ?_
  obtain ⟨fs, hr, hrun, hended, hW, hsame⟩ := X_4.leave (v := none) (fun _ => rfl)
  refine ⟨_, _, ?_, hrun, hended, _, _, rfl, ?_, ⟨_, rfl⟩, hW, hsame.mono (by decide) (by decide)⟩
  · show Steps p.tables e below (T_4.setTop (mkF m 22 #[rv a0, iv 1, oD x2, oS, oD x3, oS] [])) _
    exact X_4.returnOut hx Bd.returns (hb hby d20_22) hr
  · show Qmw1 Z a0 x2 x3 va ka w0 w1 w2 w3 w4 h0 n0 _ T_4.heap _
    rw [e_4]
    exact ⟨rfl, N_4, c3, V_4⟩
theorem own_n0 : Jvm.Free.Fl.NoNaN64 0 := by unfold Jvm.Free.Fl.NoNaN64; decide
def own_d1 (a x : UInt64) : UInt64 := FP.dadd 0 (FP.dmul a x)
def own_d2 (a x b y : UInt64) : UInt64 := FP.dadd (own_d1 a x) (FP.dmul b y)
def own_d3 (a x b y c z : UInt64) : UInt64 := FP.dadd (own_d2 a x b y) (FP.dmul c z)
theorem d22_0 : decode prog_36_method_9_code 0 = .ok (.aload_n 0, 1) := by decide +kernel
theorem d22_1 : decode prog_36_method_9_code 1 = .ok (.aload_n 0, 1) := by decide +kernel
theorem d22_2 : decode prog_36_method_9_code 2 = .ok (.getfield 28, 3) := by decide +kernel
theorem d22_5 : decode prog_36_method_9_code 5 = .ok (.newarray .double, 2) := by decide +kernel
theorem d22_7 : decode prog_36_method_9_code 7 = .ok (.putfield 65, 3) := by decide +kernel
theorem d22_10 : decode prog_36_method_9_code 10 = .ok (.iconst 0, 1) := by decide +kernel
theorem d22_11 : decode prog_36_method_9_code 11 = .ok (.istore_n 1, 1) := by decide +kernel
theorem d22_12 : decode prog_36_method_9_code 12 = .ok (.iload_n 1, 1) := by decide +kernel
theorem d22_13 : decode prog_36_method_9_code 13 = .ok (.aload_n 0, 1) := by decide +kernel
theorem d22_14 : decode prog_36_method_9_code 14 = .ok (.getfield 28, 3) := by decide +kernel
theorem d22_17 : decode prog_36_method_9_code 17 = .ok (.if_icmp .ge 60, 3) := by decide +kernel
theorem d22_20 : decode prog_36_method_9_code 20 = .ok (.aload_n 0, 1) := by decide +kernel
theorem d22_21 : decode prog_36_method_9_code 21 = .ok (.getfield 16, 3) := by decide +kernel
theorem d22_24 : decode prog_36_method_9_code 24 = .ok (.aload_n 0, 1) := by decide +kernel
theorem d22_25 : decode prog_36_method_9_code 25 = .ok (.getfield 31, 3) := by decide +kernel
theorem d22_28 : decode prog_36_method_9_code 28 = .ok (.iload_n 1, 1) := by decide +kernel
theorem d22_29 : decode prog_36_method_9_code 29 = .ok (.iaload, 1) := by decide +kernel
theorem d22_30 : decode prog_36_method_9_code 30 = .ok (.daload, 1) := by decide +kernel
theorem d22_31 : decode prog_36_method_9_code 31 = .ok (.dstore_n 2, 1) := by decide +kernel
theorem d22_32 : decode prog_36_method_9_code 32 = .ok (.iconst 0, 1) := by decide +kernel
theorem d22_33 : decode prog_36_method_9_code 33 = .ok (.istore 4, 2) := by decide +kernel
theorem d22_35 : decode prog_36_method_9_code 35 = .ok (.iload 4, 2) := by decide +kernel
theorem d22_37 : decode prog_36_method_9_code 37 = .ok (.aload_n 0, 1) := by decide +kernel
theorem d22_38 : decode prog_36_method_9_code 38 = .ok (.getfield 28, 3) := by decide +kernel
theorem d22_41 : decode prog_36_method_9_code 41 = .ok (.if_icmp .ge 30, 3) := by decide +kernel
theorem d22_44 : decode prog_36_method_9_code 44 = .ok (.aload_n 0, 1) := by decide +kernel
theorem d22_45 : decode prog_36_method_9_code 45 = .ok (.getfield 65, 3) := by decide +kernel
theorem d22_48 : decode prog_36_method_9_code 48 = .ok (.iload 4, 2) := by decide +kernel
theorem d22_50 : decode prog_36_method_9_code 50 = .ok (.dup2, 1) := by decide +kernel
theorem d22_51 : decode prog_36_method_9_code 51 = .ok (.daload, 1) := by decide +kernel
theorem d22_52 : decode prog_36_method_9_code 52 = .ok (.dload_n 2, 1) := by decide +kernel
theorem d22_53 : decode prog_36_method_9_code 53 = .ok (.aload_n 0, 1) := by decide +kernel
theorem d22_54 : decode prog_36_method_9_code 54 = .ok (.getfield 40, 3) := by decide +kernel
theorem d22_57 : decode prog_36_method_9_code 57 = .ok (.iload_n 1, 1) := by decide +kernel
theorem d22_58 : decode prog_36_method_9_code 58 = .ok (.aaload, 1) := by decide +kernel
theorem d22_59 : decode prog_36_method_9_code 59 = .ok (.iload 4, 2) := by decide +kernel
theorem d22_61 : decode prog_36_method_9_code 61 = .ok (.daload, 1) := by decide +kernel
theorem d22_62 : decode prog_36_method_9_code 62 = .ok (.dmul, 1) := by decide +kernel
theorem d22_63 : decode prog_36_method_9_code 63 = .ok (.dadd, 1) := by decide +kernel
theorem d22_64 : decode prog_36_method_9_code 64 = .ok (.dastore, 1) := by decide +kernel
theorem d22_65 : decode prog_36_method_9_code 65 = .ok (.iinc 4 1, 3) := by decide +kernel
theorem d22_68 : decode prog_36_method_9_code 68 = .ok (.goto (-33), 3) := by decide +kernel
theorem d22_71 : decode prog_36_method_9_code 71 = .ok (.iinc 1 1, 3) := by decide +kernel
theorem d22_74 : decode prog_36_method_9_code 74 = .ok (.goto (-62), 3) := by decide +kernel
theorem d22_77 : decode prog_36_method_9_code 77 = .ok (.return_, 1) := by decide +kernel
theorem pn_22 : plainName "com/example/ballast/ballast/placement/CuttingPlanes" = true := by first | (simp [plainName, overriddenIn]; done) | decide +kernel
theorem ef_upm (m : MethodId) (a0 : Addr) : entryFrame m #[(.ref a0)] 5 = mkF m 0 #[rv a0, oU, oU, oU, oU] [] := by first | (simp [entryFrame, mkF, argsToLocals, Value.category]; done) | rfl
def Qupm (Z : State) (a0 : Addr) (al : Addr) (va : Addr) (ro : Addr) (ba : Addr) (iv_ : Addr) (y0 : Addr) (y1 : Addr) (y2 : Addr) (ka : ClassId) (kq : ClassId) (ki : ClassId) (kj : ClassId) (w0 : UInt64) (w1 : UInt64) (w2 : UInt64) (w3 : UInt64) (w4 : UInt64) (v1 : UInt64) (v2 : UInt64) (i00 : UInt64) (i01 : UInt64) (i02 : UInt64) (i10 : UInt64) (i11 : UInt64) (i12 : UInt64) (i20 : UInt64) (i21 : UInt64) (i22 : UInt64) (b1 : Int32) (b2 : Int32) (u8 : Value) (h0 : Heap) (n0 : Nat) (v : Option Value) (h : Heap) (L : List Loc) : Prop := ∃ (mu : Addr) (km : ClassId), v = none ∧ Fr n0 L ∧ Keep h0 h [a0] ∧ h0.size ≤ mu ∧ Fld Z h a0 "com/example/ballast/ballast/placement/CuttingPlanes" "columns" "Ljava/util/List;" (.ref al) ∧ Fld Z h a0 "com/example/ballast/ballast/placement/CuttingPlanes" "values" "[D" (.ref va) ∧ Fld Z h a0 "com/example/ballast/ballast/placement/CuttingPlanes" "rowOf" "[I" (.ref ro) ∧ Fld Z h a0 "com/example/ballast/ballast/placement/CuttingPlanes" "dimensions" "I" (.int 2) ∧ Fld Z h a0 "com/example/ballast/ballast/placement/CuttingPlanes" "rows" "I" (.int 3) ∧ Fld Z h a0 "com/example/ballast/ballast/placement/CuttingPlanes" "basis" "[I" (.ref ba) ∧ Fld Z h a0 "com/example/ballast/ballast/placement/CuttingPlanes" "inverse" "[[D" (.ref iv_) ∧ Fld Z h a0 "com/example/ballast/ballast/placement/CuttingPlanes" "multipliers" "[D" (.ref mu) ∧ Arv Z h mu km .double (3 : Int32) [(.double (own_d3 w4 i00 v1 i10 v2 i20)), (.double (own_d3 w4 i01 v1 i11 v2 i21)), (.double (own_d3 w4 i02 v1 i12 v2 i22))] (.double 0)
theorem rmupm (l : Launch) (Z : State) (av0 : Array Value) (hw : ∀ d ∈ tables_1, d.before av0 Z = true) (ws : List Jvm.Cond) (a0 : Addr) (al : Addr) (va : Addr) (ro : Addr) (ba : Addr) (iv_ : Addr) (y0 : Addr) (y1 : Addr) (y2 : Addr) (ka : ClassId) (kq : ClassId) (ki : ClassId) (kj : ClassId) (w0 : UInt64) (w1 : UInt64) (w2 : UInt64) (w3 : UInt64) (w4 : UInt64) (v1 : UInt64) (v2 : UInt64) (i00 : UInt64) (i01 : UInt64) (i02 : UInt64) (i10 : UInt64) (i11 : UInt64) (i12 : UInt64) (i20 : UInt64) (i21 : UInt64) (i22 : UInt64) (b1 : Int32) (b2 : Int32) (u8 : Value) (h0 : Heap) (n0 : Nat) (Z0 : n0 ≤ h0.size) (E_a0 : Exa Z h0 a0 "com/example/ballast/ballast/placement/CuttingPlanes") (F_columns_a0 : Fld Z h0 a0 "com/example/ballast/ballast/placement/CuttingPlanes" "columns" "Ljava/util/List;" (.ref al)) (F_values_a0 : Fld Z h0 a0 "com/example/ballast/ballast/placement/CuttingPlanes" "values" "[D" (.ref va)) (F_rowOf_a0 : Fld Z h0 a0 "com/example/ballast/ballast/placement/CuttingPlanes" "rowOf" "[I" (.ref ro)) (F_dimensions_a0 : Fld Z h0 a0 "com/example/ballast/ballast/placement/CuttingPlanes" "dimensions" "I" (.int 2)) (F_rows_a0 : Fld Z h0 a0 "com/example/ballast/ballast/placement/CuttingPlanes" "rows" "I" (.int 3)) (F_basis_a0 : Fld Z h0 a0 "com/example/ballast/ballast/placement/CuttingPlanes" "basis" "[I" (.ref ba)) (F_inverse_a0 : Fld Z h0 a0 "com/example/ballast/ballast/placement/CuttingPlanes" "inverse" "[[D" (.ref iv_)) (F_multipliers_a0 : Fld Z h0 a0 "com/example/ballast/ballast/placement/CuttingPlanes" "multipliers" "[D" u8) (g_a0 : n0 ≤ a0) (VA : Arv Z h0 va ka .double (16 : Int32) [(.double w0), (.double w1), (.double w2), (.double w3), (.double w4)] (.double 0)) (VB : Arv Z h0 ba kq .int (3 : Int32) [(.int 4), (.int b1), (.int b2)] (.int (0 : Int32))) (VI : Arv Z h0 iv_ ki (.array .double) (3 : Int32) [(.ref y0), (.ref y1), (.ref y2)] .null) (VY0 : Arv Z h0 y0 kj .double (3 : Int32) [(.double i00), (.double i01), (.double i02)] (.double 0)) (VY1 : Arv Z h0 y1 kj .double (3 : Int32) [(.double i10), (.double i11), (.double i12)] (.double 0)) (VY2 : Arv Z h0 y2 kj .double (3 : Int32) [(.double i20), (.double i21), (.double i22)] (.double 0)) (n_va : va ≠ a0) (n_ba : ba ≠ a0) (n_iv_ : iv_ ≠ a0) (n_y0 : y0 ≠ a0) (n_y1 : y1 ≠ a0) (n_y2 : y2 ≠ a0) (hb1 : ¬ b1 < (0 : Int32) ∧ b1 < (16 : Int32)) (hv1 : ([(.double w0), (.double w1), (.double w2), (.double w3), (.double w4)] : List Value).getD (b1).toNatClampNeg (.double 0) = (.double v1)) (hb2 : ¬ b2 < (0 : Int32) ∧ b2 < (16 : Int32)) (hv2 : ([(.double w0), (.double w1), (.double w2), (.double w3), (.double w4)] : List Value).getD (b2).toNatClampNeg (.double 0) = (.double v2)) (hf00 : Jvm.Free.Fl.Fin64 (FP.dmul w4 i00)) (hf01 : Jvm.Free.Fl.Fin64 (FP.dmul w4 i01)) (hf02 : Jvm.Free.Fl.Fin64 (FP.dmul w4 i02)) (hf10 : Jvm.Free.Fl.Fin64 (FP.dmul v1 i10)) (hf11 : Jvm.Free.Fl.Fin64 (FP.dmul v1 i11)) (hf12 : Jvm.Free.Fl.Fin64 (FP.dmul v1 i12)) (hf20 : Jvm.Free.Fl.Fin64 (FP.dmul v2 i20)) (hf21 : Jvm.Free.Fl.Fin64 (FP.dmul v2 i21)) (hf22 : Jvm.Free.Fl.Fin64 (FP.dmul v2 i22)) :
    MetFree l own_m23 (head1 (Jvm.Cond.code own_m23 prog_36_method_9_code 5 none :: ws) ({ frames := 0, cells := 1, slots := 3, locals := 0 } : Room)) (fun a U => a = #[(.ref a0)] ∧ Z.Warmed39 U.vm ∧ U.heap = h0) (fun _ _ _ _ _ => True) (fun _ U o U' => ∃ v L, o = .returned v ∧ Qupm Z a0 al va ro ba iv_ y0 y1 y2 ka kq ki kj w0 w1 w2 w3 w4 v1 v2 i00 i01 i02 i10 i11 i12 i20 i21 i22 b1 b2 u8 h0 n0 v U'.heap L ∧ FrameEnd U o U' L ({ frames := 0, cells := 1, slots := 3, locals := 0 } : Room).cells ({ frames := 0, cells := 1, slots := 3, locals := 0 } : Room).slots) := by
  refine MetFree.of_bodySF (plainFor_of_name pn_22) hisR ?_
  intro p e s m args below meth c s₁ Bd hml0 hP hK
  obtain ⟨rfl, hZ, hh⟩ := hP
  have hx := Bd.exec
  have hby := Bd.bytes
  have hml : c.maxLocals = 5 := hml0
  have hown : s.vm.findClass "com/example/ballast/ballast/placement/CuttingPlanes" = some m.cls := findClass_of_methodNamed Bd.named
  have X0 : Stand p l e ({ frames := 0, cells := 1, slots := 3, locals := 0 } : Room) s m #[(.ref a0)] below meth c s₁ [] 0 0 := Stand.of_body Bd
  have e0 : s₁.heap = h0 := by rw [← hh, Bd.state]; rfl
  have N0 := Fr.nil n0
  have nn00 : Jvm.Free.Fl.NoNaN64 (own_d1 w4 i00) := Jvm.Free.Fl.dadd_out own_n0 hf00
  have nn10 : Jvm.Free.Fl.NoNaN64 (own_d2 w4 i00 v1 i10) := Jvm.Free.Fl.dadd_out nn00 hf10
  have nn01 : Jvm.Free.Fl.NoNaN64 (own_d1 w4 i01) := Jvm.Free.Fl.dadd_out own_n0 hf01
  have nn11 : Jvm.Free.Fl.NoNaN64 (own_d2 w4 i01 v1 i11) := Jvm.Free.Fl.dadd_out nn01 hf11
  have nn02 : Jvm.Free.Fl.NoNaN64 (own_d1 w4 i02) := Jvm.Free.Fl.dadd_out own_n0 hf02
  have nn12 : Jvm.Free.Fl.NoNaN64 (own_d2 w4 i02 v1 i12) := Jvm.Free.Fl.dadd_out nn02 hf12
  have K0 : Keep h0 h0 [a0] := Keep.refl h0 [a0]
  refine og (B := s₁.setTop (mkF m 0 #[rv a0, oU, oU, oU, oU] [])) (fun t k => castTop (ef_upm m a0) k) ?_
  refine og (B := s₁.setTop (mkF m 2 #[rv a0, oU, oU, oU, oU] [(.ref a0), (.ref a0)])) (fun t k => ?_) ?_
  · refine XS.aloadN X0.here hx rfl (hb hby d22_0) rfl rfl ?_
    refine XS.aloadN X0.here hx rfl (hb hby d22_1) rfl rfl ?_
    exact k
  obtain ⟨T_1, X_1, e_1, st_1⟩ := getF X0 hx hZ hown (host := "") (Or.inl (ow hw 50 rfl)) Via.refl e0 F_rows_a0 (g := (mkF m 2 #[rv a0, oU, oU, oU, oU] [(.ref a0), (.ref a0)])) rfl rfl (hb hby d22_2)
  refine og (fun t k => st_1 t k) ?_
  obtain ⟨T_2, h_2, k_2, X_2, e_2, E_2, A_2, Q_2, st_2⟩ := newPE X_1 hx hZ (ow hw 10 rfl) e_1 (g := (mkF m 5 #[rv a0, oU, oU, oU, oU] [(.int 3), (.ref a0)])) rfl (hb hby d22_5) rfl (by decide) (cap := 3) (by decide) (by decide) (by decide) (by decide) (ad := "[D") (by decide)
  obtain ⟨b_2, g_2⟩ : ∃ z, z = h0.size := ⟨_, rfl⟩
  rw [← g_2] at A_2 Q_2 st_2
  have g_b_2 : n0 ≤ b_2 := Nat.le_trans Z0 (Nat.le_of_eq g_2.symm)
  have sz_b_2 : h0.size ≤ b_2 := Nat.le_trans K0.1 (Nat.le_of_eq g_2.symm)
  have lt_a0_b_2 : a0 < b_2 := Nat.lt_of_lt_of_le (E_a0).lt (Nat.le_of_eq g_2.symm)
  have ne_a0_b_2 := Nat.ne_of_lt lt_a0_b_2
  have lt_va_b_2 : va < b_2 := Nat.lt_of_lt_of_le (VA).lt (Nat.le_of_eq g_2.symm)
  have ne_va_b_2 := Nat.ne_of_lt lt_va_b_2
  have lt_ba_b_2 : ba < b_2 := Nat.lt_of_lt_of_le (VB).lt (Nat.le_of_eq g_2.symm)
  have ne_ba_b_2 := Nat.ne_of_lt lt_ba_b_2
  have lt_iv__b_2 : iv_ < b_2 := Nat.lt_of_lt_of_le (VI).lt (Nat.le_of_eq g_2.symm)
  have ne_iv__b_2 := Nat.ne_of_lt lt_iv__b_2
  have lt_y0_b_2 : y0 < b_2 := Nat.lt_of_lt_of_le (VY0).lt (Nat.le_of_eq g_2.symm)
  have ne_y0_b_2 := Nat.ne_of_lt lt_y0_b_2
  have lt_y1_b_2 : y1 < b_2 := Nat.lt_of_lt_of_le (VY1).lt (Nat.le_of_eq g_2.symm)
  have ne_y1_b_2 := Nat.ne_of_lt lt_y1_b_2
  have lt_y2_b_2 : y2 < b_2 := Nat.lt_of_lt_of_le (VY2).lt (Nat.le_of_eq g_2.symm)
  have ne_y2_b_2 := Nat.ne_of_lt lt_y2_b_2
  have c1 := K0.ext E_2
  have c2 := E_a0.ext E_2
  have c3 := F_columns_a0.ext E_2
  have c4 := F_values_a0.ext E_2
  have c5 := F_rowOf_a0.ext E_2
  have c6 := F_dimensions_a0.ext E_2
  have c7 := F_rows_a0.ext E_2
  have c8 := F_basis_a0.ext E_2
  have c9 := F_inverse_a0.ext E_2
  have c10 := F_multipliers_a0.ext E_2
  have c11 := VA.ext E_2
  have c12 := VB.ext E_2
  have c13 := VI.ext E_2
  have c14 := VY0.ext E_2
  have c15 := VY1.ext E_2
  have c16 := VY2.ext E_2
  have Z0__2 : n0 ≤ h_2.size := Nat.le_trans Z0 E_2.1
  have V_b_2 : Arv Z h_2 b_2 k_2 .double (3 : Int32) [(.double 0), (.double 0), (.double 0)] (.double 0) := (Arv.new A_2 (by decide)).pad (pad_rep [] (.double 0) 3)
  refine og (fun t k => st_2 t k) ?_
  obtain ⟨T_3, h_3, X_3, e_3, W_3, st_3⟩ := putF X_2 hx hZ hown (host := "") (Or.inl (ow hw 151 rfl)) Via.refl e_2 c10 c2 (Or.inl (ow hw 152 rfl)) (ow hw 8 rfl) (ty := (.array .double)) (by decide) rfl rfl (g := (mkF m 7 #[rv a0, oU, oU, oU, oU] [(.ref b_2), (.ref a0)])) rfl rfl (hb hby d22_7)
  have c17 := c1.wr W_3 (Or.inl (List.mem_of_getElem? (i := 0) rfl))
  have c18 := c2.wr W_3
  have c19 := c3.other W_3 (Or.inr (slot_ne (Or.inr (ow hw 42 rfl)) (Or.inl (ow hw 152 rfl)) (by decide) (t := (.object "java/util/List")) (t' := (.array .double)) (by decide) (by decide)))
  have c20 := c4.other W_3 (Or.inr (slot_ne (Or.inl (ow hw 44 rfl)) (Or.inl (ow hw 152 rfl)) (by decide) (t := (.array .double)) (t' := (.array .double)) (by decide) (by decide)))
  have c21 := c5.other W_3 (Or.inr (slot_ne (Or.inl (ow hw 47 rfl)) (Or.inl (ow hw 152 rfl)) (by decide) (t := (.array .int)) (t' := (.array .double)) (by decide) (by decide)))
  have c22 := c6.other W_3 (Or.inr (slot_ne (Or.inr (ow hw 49 rfl)) (Or.inl (ow hw 152 rfl)) (by decide) (t := .int) (t' := (.array .double)) (by decide) (by decide)))
  have c23 := c7.other W_3 (Or.inr (slot_ne (Or.inr (ow hw 51 rfl)) (Or.inl (ow hw 152 rfl)) (by decide) (t := .int) (t' := (.array .double)) (by decide) (by decide)))
  have c24 := c8.other W_3 (Or.inr (slot_ne (Or.inr (ow hw 53 rfl)) (Or.inl (ow hw 152 rfl)) (by decide) (t := (.array .int)) (t' := (.array .double)) (by decide) (by decide)))
  have c25 := c9.other W_3 (Or.inr (slot_ne (Or.inl (ow hw 105 rfl)) (Or.inl (ow hw 152 rfl)) (by decide) (t := (.array (.array .double))) (t' := (.array .double)) (by decide) (by decide)))
  have c26 := c10.same W_3
  have c27 := c11.other W_3 n_va
  have c28 := c12.other W_3 n_ba
  have c29 := c13.other W_3 n_iv_
  have c30 := c14.other W_3 n_y0
  have c31 := c15.other W_3 n_y1
  have c32 := c16.other W_3 n_y2
  have c33 := Q_2.wr W_3
  have c34 := V_b_2.other W_3 (Ne.symm ne_a0_b_2)
  have N_3 := Fr.snoc X_3 N0 g_a0
  have Z0__3 : n0 ≤ h_3.size := by rw [W_3.size]; exact Z0__2
  refine og (fun t k => st_3 t k) ?_
  refine og (B := T_3.setTop (mkF m 14 #[rv a0, iv 0, oU, oU, oU] [(.ref a0), (.int 0)])) (fun t k => ?_) ?_
  · refine XS.iconst X_3.here hx rfl (hb hby d22_10) ?_
    refine XS.istoreN X_3.here hx rfl (hb hby d22_11) rfl (l' := #[rv a0, iv 0, oU, oU, oU]) rfl ?_
    refine XS.iloadN X_3.here hx rfl (hb hby d22_12) rfl ?_
    refine XS.aloadN X_3.here hx rfl (hb hby d22_13) rfl rfl ?_
    exact k
  obtain ⟨T_4, X_4, e_4, st_4⟩ := getF X_3 hx hZ hown (host := "") (Or.inl (ow hw 50 rfl)) Via.refl e_3 c23 (g := (mkF m 14 #[rv a0, iv 0, oU, oU, oU] [(.ref a0), (.int 0)])) rfl rfl (hb hby d22_14)
  refine og (fun t k => st_4 t k) ?_
  refine og (B := T_4.setTop (mkF m 20 #[rv a0, iv 0, oU, oU, oU] [])) (fun t k => ?_) ?_
  · refine XS.icmpNo X_4.here hx rfl (hb hby d22_17) rfl (tlt (by decide : (0 : Int32) < (3 : Int32))).2.1 ?_
    exact k
  refine og (B := T_4.setTop (mkF m 21 #[rv a0, iv 0, oU, oU, oU] [(.ref a0)])) (fun t k => ?_) ?_
  · refine XS.aloadN X_4.here hx rfl (hb hby d22_20) rfl rfl ?_
    exact k
  obtain ⟨T_5, X_5, e_5, st_5⟩ := getF X_4 hx hZ hown (host := "") (Or.inl (ow hw 43 rfl)) Via.refl e_4 c20 (g := (mkF m 21 #[rv a0, iv 0, oU, oU, oU] [(.ref a0)])) rfl rfl (hb hby d22_21)
  refine og (fun t k => st_5 t k) ?_
  refine og (B := T_5.setTop (mkF m 25 #[rv a0, iv 0, oU, oU, oU] [(.ref a0), (.ref va)])) (fun t k => ?_) ?_
  · refine XS.aloadN X_5.here hx rfl (hb hby d22_24) rfl rfl ?_
    exact k
  obtain ⟨T_6, X_6, e_6, st_6⟩ := getF X_5 hx hZ hown (host := "") (Or.inl (ow hw 52 rfl)) Via.refl e_5 c24 (g := (mkF m 25 #[rv a0, iv 0, oU, oU, oU] [(.ref a0), (.ref va)])) rfl rfl (hb hby d22_25)
  refine og (fun t k => st_6 t k) ?_
  refine og (B := T_6.setTop (mkF m 29 #[rv a0, iv 0, oU, oU, oU] [(.int 0), (.ref ba), (.ref va)])) (fun t k => ?_) ?_
  · refine XS.iloadN X_6.here hx rfl (hb hby d22_28) rfl ?_
    exact k
  obtain ⟨cl_7, Ar_7, q_7, S_7, M_7, H_7, G_7⟩ := id c28
  have hin_7 : ¬ ((0 : Int32) < 0 ∨ cl_7.slots.size ≤ ((0 : Int32)).toNatClampNeg) := inb_of S_7 ⟨by decide, by decide⟩
  have hat_7 : cl_7.slots[((0 : Int32)).toNatClampNeg]? = some (.int 4) := H_7.at hin_7 rfl
  refine og (B := T_6.setTop (mkF m 30 #[rv a0, iv 0, oU, oU, oU] [(.int 4), (.ref va)])) (fun t k => X_6.iaload hx (j := (0 : Int32)) (v := (.int 4)) (by rw [(e_6 : _ = _)]; exact Ar_7.1) (State.isArrayOf_alike hZ.alike Ar_7.2.1) Ar_7.2.2 hin_7 hat_7 (g := (mkF m 29 #[rv a0, iv 0, oU, oU, oU] [(.int 0), (.ref ba), (.ref va)])) rfl rfl (hb hby d22_29) t k) ?_
  obtain ⟨cl_8, Ar_8, q_8, S_8, M_8, H_8, G_8⟩ := id c27
  have hin_8 : ¬ ((4 : Int32) < 0 ∨ cl_8.slots.size ≤ ((4 : Int32)).toNatClampNeg) := inb_of S_8 ⟨by decide, by decide⟩
  have hat_8 : cl_8.slots[((4 : Int32)).toNatClampNeg]? = some (.double w4) := H_8.at hin_8 rfl
  refine og (B := T_6.setTop (mkF m 31 #[rv a0, iv 0, oU, oU, oU] [(.double w4)])) (fun t k => X_6.daload hx (j := (4 : Int32)) (v := (.double w4)) (by rw [(e_6 : _ = _)]; exact Ar_8.1) (State.isArrayOf_alike hZ.alike Ar_8.2.1) Ar_8.2.2 hin_8 hat_8 (g := (mkF m 30 #[rv a0, iv 0, oU, oU, oU] [(.int 4), (.ref va)])) rfl rfl (hb hby d22_30) t k) ?_
  refine og (B := T_6.setTop (mkF m 38 #[rv a0, iv 0, oD w4, oS, iv 0] [(.ref a0), (.int 0)])) (fun t k => ?_) ?_
  · refine XS.dstoreN X_6.here hx rfl (hb hby d22_31) rfl (l' := #[rv a0, iv 0, oD w4, oS, oU]) rfl ?_
    refine XS.iconst X_6.here hx rfl (hb hby d22_32) ?_
    refine XS.istore X_6.here hx rfl (hb hby d22_33) rfl (l' := #[rv a0, iv 0, oD w4, oS, iv 0]) rfl ?_
    refine XS.iload X_6.here hx rfl (hb hby d22_35) rfl ?_
    refine XS.aloadN X_6.here hx rfl (hb hby d22_37) rfl rfl ?_
    exact k
  obtain ⟨T_9, X_9, e_9, st_9⟩ := getF X_6 hx hZ hown (host := "") (Or.inl (ow hw 50 rfl)) Via.refl e_6 c23 (g := (mkF m 38 #[rv a0, iv 0, oD w4, oS, iv 0] [(.ref a0), (.int 0)])) rfl rfl (hb hby d22_38)
  refine og (fun t k => st_9 t k) ?_
  refine og (B := T_9.setTop (mkF m 44 #[rv a0, iv 0, oD w4, oS, iv 0] [])) (fun t k => ?_) ?_
  · refine XS.icmpNo X_9.here hx rfl (hb hby d22_41) rfl (tlt (by decide : (0 : Int32) < (3 : Int32))).2.1 ?_
    exact k
  refine og (B := T_9.setTop (mkF m 45 #[rv a0, iv 0, oD w4, oS, iv 0] [(.ref a0)])) (fun t k => ?_) ?_
  · refine XS.aloadN X_9.here hx rfl (hb hby d22_44) rfl rfl ?_
    exact k
  obtain ⟨T_10, X_10, e_10, st_10⟩ := getF X_9 hx hZ hown (host := "") (Or.inl (ow hw 151 rfl)) Via.refl e_9 c26 (g := (mkF m 45 #[rv a0, iv 0, oD w4, oS, iv 0] [(.ref a0)])) rfl rfl (hb hby d22_45)
  refine og (fun t k => st_10 t k) ?_
  refine og (B := T_10.setTop (mkF m 51 #[rv a0, iv 0, oD w4, oS, iv 0] [(.int 0), (.ref b_2), (.int 0), (.ref b_2)])) (fun t k => ?_) ?_
  · refine XS.iload X_10.here hx rfl (hb hby d22_48) rfl ?_
    refine own_dup2 X_10.here hx rfl (hb hby d22_50) rfl rfl rfl ?_
    exact k
  obtain ⟨cl_11, Ar_11, q_11, S_11, M_11, H_11, G_11⟩ := id c34
  have hin_11 : ¬ ((0 : Int32) < 0 ∨ cl_11.slots.size ≤ ((0 : Int32)).toNatClampNeg) := inb_of S_11 ⟨by decide, by decide⟩
  have hat_11 : cl_11.slots[((0 : Int32)).toNatClampNeg]? = some (.double 0) := H_11.at hin_11 rfl
  refine og (B := T_10.setTop (mkF m 52 #[rv a0, iv 0, oD w4, oS, iv 0] [(.double 0), (.int 0), (.ref b_2)])) (fun t k => X_10.daload hx (j := (0 : Int32)) (v := (.double 0)) (by rw [(e_10 : _ = _)]; exact Ar_11.1) (State.isArrayOf_alike hZ.alike Ar_11.2.1) Ar_11.2.2 hin_11 hat_11 (g := (mkF m 51 #[rv a0, iv 0, oD w4, oS, iv 0] [(.int 0), (.ref b_2), (.int 0), (.ref b_2)])) rfl rfl (hb hby d22_51) t k) ?_
  refine og (B := T_10.setTop (mkF m 54 #[rv a0, iv 0, oD w4, oS, iv 0] [(.ref a0), (.double w4), (.double 0), (.int 0), (.ref b_2)])) (fun t k => ?_) ?_
  · refine XS.dloadN X_10.here hx rfl (hb hby d22_52) rfl ?_
    refine XS.aloadN X_10.here hx rfl (hb hby d22_53) rfl rfl ?_
    exact k
  obtain ⟨T_12, X_12, e_12, st_12⟩ := getF X_10 hx hZ hown (host := "") (Or.inl (ow hw 104 rfl)) Via.refl e_10 c25 (g := (mkF m 54 #[rv a0, iv 0, oD w4, oS, iv 0] [(.ref a0), (.double w4), (.double 0), (.int 0), (.ref b_2)])) rfl rfl (hb hby d22_54)
  refine og (fun t k => st_12 t k) ?_
  refine og (B := T_12.setTop (mkF m 58 #[rv a0, iv 0, oD w4, oS, iv 0] [(.int 0), (.ref iv_), (.double w4), (.double 0), (.int 0), (.ref b_2)])) (fun t k => ?_) ?_
  · refine XS.iloadN X_12.here hx rfl (hb hby d22_57) rfl ?_
    exact k
  obtain ⟨cl_13, Ar_13, q_13, S_13, M_13, H_13, G_13⟩ := id c29
  have hin_13 : ¬ ((0 : Int32) < 0 ∨ cl_13.slots.size ≤ ((0 : Int32)).toNatClampNeg) := inb_of S_13 ⟨by decide, by decide⟩
  have hat_13 : cl_13.slots[((0 : Int32)).toNatClampNeg]? = some (.ref y0) := H_13.at hin_13 rfl
  refine og (B := T_12.setTop (mkF m 59 #[rv a0, iv 0, oD w4, oS, iv 0] [(.ref y0), (.double w4), (.double 0), (.int 0), (.ref b_2)])) (fun t k => X_12.aaload hx (j := (0 : Int32)) (v := (.ref y0)) (by rw [(e_12 : _ = _)]; exact Ar_13.1) (State.isArrayOf_alike hZ.alike Ar_13.2.1) rfl Ar_13.2.2 hin_13 hat_13 (g := (mkF m 58 #[rv a0, iv 0, oD w4, oS, iv 0] [(.int 0), (.ref iv_), (.double w4), (.double 0), (.int 0), (.ref b_2)])) rfl rfl (hb hby d22_58) t k) ?_
  refine og (B := T_12.setTop (mkF m 61 #[rv a0, iv 0, oD w4, oS, iv 0] [(.int 0), (.ref y0), (.double w4), (.double 0), (.int 0), (.ref b_2)])) (fun t k => ?_) ?_
  · refine XS.iload X_12.here hx rfl (hb hby d22_59) rfl ?_
    exact k
  obtain ⟨cl_14, Ar_14, q_14, S_14, M_14, H_14, G_14⟩ := id c30
  have hin_14 : ¬ ((0 : Int32) < 0 ∨ cl_14.slots.size ≤ ((0 : Int32)).toNatClampNeg) := inb_of S_14 ⟨by decide, by decide⟩
  have hat_14 : cl_14.slots[((0 : Int32)).toNatClampNeg]? = some (.double i00) := H_14.at hin_14 rfl
  refine og (B := T_12.setTop (mkF m 62 #[rv a0, iv 0, oD w4, oS, iv 0] [(.double i00), (.double w4), (.double 0), (.int 0), (.ref b_2)])) (fun t k => X_12.daload hx (j := (0 : Int32)) (v := (.double i00)) (by rw [(e_12 : _ = _)]; exact Ar_14.1) (State.isArrayOf_alike hZ.alike Ar_14.2.1) Ar_14.2.2 hin_14 hat_14 (g := (mkF m 61 #[rv a0, iv 0, oD w4, oS, iv 0] [(.int 0), (.ref y0), (.double w4), (.double 0), (.int 0), (.ref b_2)])) rfl rfl (hb hby d22_61) t k) ?_
  refine og (B := T_12.setTop (mkF m 64 #[rv a0, iv 0, oD w4, oS, iv 0] [(.double (own_d1 w4 i00)), (.int 0), (.ref b_2)])) (fun t k => ?_) ?_
  · refine XS.dmulS X_12.here hx rfl (hb hby d22_62) rfl hf00.noNaN rfl ?_
    refine XS.daddS X_12.here hx rfl (hb hby d22_63) rfl (Jvm.Free.Fl.dadd_out own_n0 hf00) rfl ?_
    exact k
  obtain ⟨cl_15, Ar_15, q_15, S_15, M_15, H_15, G_15⟩ := id c34
  have hin_15 : ¬ ((0 : Int32) < 0 ∨ cl_15.slots.size ≤ ((0 : Int32)).toNatClampNeg) := inb_of S_15 ⟨by decide, by decide⟩
  obtain ⟨T_15, h_15, X_15, e_15, W_15, st_15⟩ := stD X_12 hx hZ e_12 Ar_15 (j := (0 : Int32)) hin_15 (g := (mkF m 64 #[rv a0, iv 0, oD w4, oS, iv 0] [(.double (own_d1 w4 i00)), (.int 0), (.ref b_2)])) rfl rfl (hb hby d22_64)
  have c35 := c17.wr W_15 (Or.inr sz_b_2)
  have c36 := c18.wr W_15
  have c37 := c19.other W_15 (Or.inl ne_a0_b_2)
  have c38 := c20.other W_15 (Or.inl ne_a0_b_2)
  have c39 := c21.other W_15 (Or.inl ne_a0_b_2)
  have c40 := c22.other W_15 (Or.inl ne_a0_b_2)
  have c41 := c23.other W_15 (Or.inl ne_a0_b_2)
  have c42 := c24.other W_15 (Or.inl ne_a0_b_2)
  have c43 := c25.other W_15 (Or.inl ne_a0_b_2)
  have c44 := c26.other W_15 (Or.inl ne_a0_b_2)
  have c45 := c27.other W_15 ne_va_b_2
  have c46 := c28.other W_15 ne_ba_b_2
  have c47 := c29.other W_15 ne_iv__b_2
  have c48 := c30.other W_15 ne_y0_b_2
  have c49 := c31.other W_15 ne_y1_b_2
  have c50 := c32.other W_15 ne_y2_b_2
  have c51 := c33.wr W_15
  have V_15 : Arv Z h_15 b_2 k_2 .double (3 : Int32) [(.double (own_d1 w4 i00)), (.double 0), (.double 0)] (.double 0) := Arv.set Ar_15 q_15 S_15 M_15 H_15 G_15 rfl W_15 0 rfl (Nat.le_of_ble_eq_true rfl)
  have N_15 := Fr.snoc X_15 N_3 g_b_2
  have Z0__15 : n0 ≤ h_15.size := by rw [W_15.size]; exact Z0__3
  refine og (fun t k => st_15 t k) ?_
  refine og (B := T_15.setTop (mkF m 38 #[rv a0, iv 0, oD w4, oS, iv 1] [(.ref a0), (.int 1)])) (fun t k => ?_) ?_
  · refine XS.iinc X_15.here hx rfl (hb hby d22_65) rfl (l' := #[rv a0, iv 0, oD w4, oS, iv 1]) rfl ?_
    refine XS.goto X_15.here hx rfl (pc0 := 68) (pc' := 35) rfl (hb hby d22_68) (by decide) (by decide) ?_
    refine XS.iload X_15.here hx rfl (hb hby d22_35) rfl ?_
    refine XS.aloadN X_15.here hx rfl (hb hby d22_37) rfl rfl ?_
    exact k
  obtain ⟨T_16, X_16, e_16, st_16⟩ := getF X_15 hx hZ hown (host := "") (Or.inl (ow hw 50 rfl)) Via.refl e_15 c41 (g := (mkF m 38 #[rv a0, iv 0, oD w4, oS, iv 1] [(.ref a0), (.int 1)])) rfl rfl (hb hby d22_38)
  refine og (fun t k => st_16 t k) ?_
  refine og (B := T_16.setTop (mkF m 44 #[rv a0, iv 0, oD w4, oS, iv 1] [])) (fun t k => ?_) ?_
  · refine XS.icmpNo X_16.here hx rfl (hb hby d22_41) rfl (tlt (by decide : (1 : Int32) < (3 : Int32))).2.1 ?_
    exact k
  refine og (B := T_16.setTop (mkF m 45 #[rv a0, iv 0, oD w4, oS, iv 1] [(.ref a0)])) (fun t k => ?_) ?_
  · refine XS.aloadN X_16.here hx rfl (hb hby d22_44) rfl rfl ?_
    exact k
  obtain ⟨T_17, X_17, e_17, st_17⟩ := getF X_16 hx hZ hown (host := "") (Or.inl (ow hw 151 rfl)) Via.refl e_16 c44 (g := (mkF m 45 #[rv a0, iv 0, oD w4, oS, iv 1] [(.ref a0)])) rfl rfl (hb hby d22_45)
  refine og (fun t k => st_17 t k) ?_
  refine og (B := T_17.setTop (mkF m 51 #[rv a0, iv 0, oD w4, oS, iv 1] [(.int 1), (.ref b_2), (.int 1), (.ref b_2)])) (fun t k => ?_) ?_
  · refine XS.iload X_17.here hx rfl (hb hby d22_48) rfl ?_
    refine own_dup2 X_17.here hx rfl (hb hby d22_50) rfl rfl rfl ?_
    exact k
  obtain ⟨cl_18, Ar_18, q_18, S_18, M_18, H_18, G_18⟩ := id V_15
  have hin_18 : ¬ ((1 : Int32) < 0 ∨ cl_18.slots.size ≤ ((1 : Int32)).toNatClampNeg) := inb_of S_18 ⟨by decide, by decide⟩
  have hat_18 : cl_18.slots[((1 : Int32)).toNatClampNeg]? = some (.double 0) := H_18.at hin_18 rfl
  refine og (B := T_17.setTop (mkF m 52 #[rv a0, iv 0, oD w4, oS, iv 1] [(.double 0), (.int 1), (.ref b_2)])) (fun t k => X_17.daload hx (j := (1 : Int32)) (v := (.double 0)) (by rw [(e_17 : _ = _)]; exact Ar_18.1) (State.isArrayOf_alike hZ.alike Ar_18.2.1) Ar_18.2.2 hin_18 hat_18 (g := (mkF m 51 #[rv a0, iv 0, oD w4, oS, iv 1] [(.int 1), (.ref b_2), (.int 1), (.ref b_2)])) rfl rfl (hb hby d22_51) t k) ?_
  refine og (B := T_17.setTop (mkF m 54 #[rv a0, iv 0, oD w4, oS, iv 1] [(.ref a0), (.double w4), (.double 0), (.int 1), (.ref b_2)])) (fun t k => ?_) ?_
  · refine XS.dloadN X_17.here hx rfl (hb hby d22_52) rfl ?_
    refine XS.aloadN X_17.here hx rfl (hb hby d22_53) rfl rfl ?_
    exact k
  obtain ⟨T_19, X_19, e_19, st_19⟩ := getF X_17 hx hZ hown (host := "") (Or.inl (ow hw 104 rfl)) Via.refl e_17 c43 (g := (mkF m 54 #[rv a0, iv 0, oD w4, oS, iv 1] [(.ref a0), (.double w4), (.double 0), (.int 1), (.ref b_2)])) rfl rfl (hb hby d22_54)
  refine og (fun t k => st_19 t k) ?_
  refine og (B := T_19.setTop (mkF m 58 #[rv a0, iv 0, oD w4, oS, iv 1] [(.int 0), (.ref iv_), (.double w4), (.double 0), (.int 1), (.ref b_2)])) (fun t k => ?_) ?_
  · refine XS.iloadN X_19.here hx rfl (hb hby d22_57) rfl ?_
    exact k
  obtain ⟨cl_20, Ar_20, q_20, S_20, M_20, H_20, G_20⟩ := id c47
  have hin_20 : ¬ ((0 : Int32) < 0 ∨ cl_20.slots.size ≤ ((0 : Int32)).toNatClampNeg) := inb_of S_20 ⟨by decide, by decide⟩
  have hat_20 : cl_20.slots[((0 : Int32)).toNatClampNeg]? = some (.ref y0) := H_20.at hin_20 rfl
  refine og (B := T_19.setTop (mkF m 59 #[rv a0, iv 0, oD w4, oS, iv 1] [(.ref y0), (.double w4), (.double 0), (.int 1), (.ref b_2)])) (fun t k => X_19.aaload hx (j := (0 : Int32)) (v := (.ref y0)) (by rw [(e_19 : _ = _)]; exact Ar_20.1) (State.isArrayOf_alike hZ.alike Ar_20.2.1) rfl Ar_20.2.2 hin_20 hat_20 (g := (mkF m 58 #[rv a0, iv 0, oD w4, oS, iv 1] [(.int 0), (.ref iv_), (.double w4), (.double 0), (.int 1), (.ref b_2)])) rfl rfl (hb hby d22_58) t k) ?_
  refine og (B := T_19.setTop (mkF m 61 #[rv a0, iv 0, oD w4, oS, iv 1] [(.int 1), (.ref y0), (.double w4), (.double 0), (.int 1), (.ref b_2)])) (fun t k => ?_) ?_
  · refine XS.iload X_19.here hx rfl (hb hby d22_59) rfl ?_
    exact k
  obtain ⟨cl_21, Ar_21, q_21, S_21, M_21, H_21, G_21⟩ := id c48
  have hin_21 : ¬ ((1 : Int32) < 0 ∨ cl_21.slots.size ≤ ((1 : Int32)).toNatClampNeg) := inb_of S_21 ⟨by decide, by decide⟩
  have hat_21 : cl_21.slots[((1 : Int32)).toNatClampNeg]? = some (.double i01) := H_21.at hin_21 rfl
  refine og (B := T_19.setTop (mkF m 62 #[rv a0, iv 0, oD w4, oS, iv 1] [(.double i01), (.double w4), (.double 0), (.int 1), (.ref b_2)])) (fun t k => X_19.daload hx (j := (1 : Int32)) (v := (.double i01)) (by rw [(e_19 : _ = _)]; exact Ar_21.1) (State.isArrayOf_alike hZ.alike Ar_21.2.1) Ar_21.2.2 hin_21 hat_21 (g := (mkF m 61 #[rv a0, iv 0, oD w4, oS, iv 1] [(.int 1), (.ref y0), (.double w4), (.double 0), (.int 1), (.ref b_2)])) rfl rfl (hb hby d22_61) t k) ?_
  refine og (B := T_19.setTop (mkF m 64 #[rv a0, iv 0, oD w4, oS, iv 1] [(.double (own_d1 w4 i01)), (.int 1), (.ref b_2)])) (fun t k => ?_) ?_
  · refine XS.dmulS X_19.here hx rfl (hb hby d22_62) rfl hf01.noNaN rfl ?_
    refine XS.daddS X_19.here hx rfl (hb hby d22_63) rfl (Jvm.Free.Fl.dadd_out own_n0 hf01) rfl ?_
    exact k
  obtain ⟨cl_22, Ar_22, q_22, S_22, M_22, H_22, G_22⟩ := id V_15
  have hin_22 : ¬ ((1 : Int32) < 0 ∨ cl_22.slots.size ≤ ((1 : Int32)).toNatClampNeg) := inb_of S_22 ⟨by decide, by decide⟩
  obtain ⟨T_22, h_22, X_22, e_22, W_22, st_22⟩ := stD X_19 hx hZ e_19 Ar_22 (j := (1 : Int32)) hin_22 (g := (mkF m 64 #[rv a0, iv 0, oD w4, oS, iv 1] [(.double (own_d1 w4 i01)), (.int 1), (.ref b_2)])) rfl rfl (hb hby d22_64)
  have c52 := c35.wr W_22 (Or.inr sz_b_2)
  have c53 := c36.wr W_22
  have c54 := c37.other W_22 (Or.inl ne_a0_b_2)
  have c55 := c38.other W_22 (Or.inl ne_a0_b_2)
  have c56 := c39.other W_22 (Or.inl ne_a0_b_2)
  have c57 := c40.other W_22 (Or.inl ne_a0_b_2)
  have c58 := c41.other W_22 (Or.inl ne_a0_b_2)
  have c59 := c42.other W_22 (Or.inl ne_a0_b_2)
  have c60 := c43.other W_22 (Or.inl ne_a0_b_2)
  have c61 := c44.other W_22 (Or.inl ne_a0_b_2)
  have c62 := c45.other W_22 ne_va_b_2
  have c63 := c46.other W_22 ne_ba_b_2
  have c64 := c47.other W_22 ne_iv__b_2
  have c65 := c48.other W_22 ne_y0_b_2
  have c66 := c49.other W_22 ne_y1_b_2
  have c67 := c50.other W_22 ne_y2_b_2
  have c68 := c51.wr W_22
  have V_22 : Arv Z h_22 b_2 k_2 .double (3 : Int32) [(.double (own_d1 w4 i00)), (.double (own_d1 w4 i01)), (.double 0)] (.double 0) := Arv.set Ar_22 q_22 S_22 M_22 H_22 G_22 rfl W_22 1 rfl (Nat.le_of_ble_eq_true rfl)
  have N_22 := Fr.snoc X_22 N_15 g_b_2
  have Z0__22 : n0 ≤ h_22.size := by rw [W_22.size]; exact Z0__15
  refine og (fun t k => st_22 t k) ?_
  refine og (B := T_22.setTop (mkF m 38 #[rv a0, iv 0, oD w4, oS, iv 2] [(.ref a0), (.int 2)])) (fun t k => ?_) ?_
  · refine XS.iinc X_22.here hx rfl (hb hby d22_65) rfl (l' := #[rv a0, iv 0, oD w4, oS, iv 2]) rfl ?_
    refine XS.goto X_22.here hx rfl (pc0 := 68) (pc' := 35) rfl (hb hby d22_68) (by decide) (by decide) ?_
    refine XS.iload X_22.here hx rfl (hb hby d22_35) rfl ?_
    refine XS.aloadN X_22.here hx rfl (hb hby d22_37) rfl rfl ?_
    exact k
  obtain ⟨T_23, X_23, e_23, st_23⟩ := getF X_22 hx hZ hown (host := "") (Or.inl (ow hw 50 rfl)) Via.refl e_22 c58 (g := (mkF m 38 #[rv a0, iv 0, oD w4, oS, iv 2] [(.ref a0), (.int 2)])) rfl rfl (hb hby d22_38)
  refine og (fun t k => st_23 t k) ?_
  refine og (B := T_23.setTop (mkF m 44 #[rv a0, iv 0, oD w4, oS, iv 2] [])) (fun t k => ?_) ?_
  · refine XS.icmpNo X_23.here hx rfl (hb hby d22_41) rfl (tlt (by decide : (2 : Int32) < (3 : Int32))).2.1 ?_
    exact k
  refine og (B := T_23.setTop (mkF m 45 #[rv a0, iv 0, oD w4, oS, iv 2] [(.ref a0)])) (fun t k => ?_) ?_
  · refine XS.aloadN X_23.here hx rfl (hb hby d22_44) rfl rfl ?_
    exact k
  obtain ⟨T_24, X_24, e_24, st_24⟩ := getF X_23 hx hZ hown (host := "") (Or.inl (ow hw 151 rfl)) Via.refl e_23 c61 (g := (mkF m 45 #[rv a0, iv 0, oD w4, oS, iv 2] [(.ref a0)])) rfl rfl (hb hby d22_45)
  refine og (fun t k => st_24 t k) ?_
  refine og (B := T_24.setTop (mkF m 51 #[rv a0, iv 0, oD w4, oS, iv 2] [(.int 2), (.ref b_2), (.int 2), (.ref b_2)])) (fun t k => ?_) ?_
  · refine XS.iload X_24.here hx rfl (hb hby d22_48) rfl ?_
    refine own_dup2 X_24.here hx rfl (hb hby d22_50) rfl rfl rfl ?_
    exact k
  obtain ⟨cl_25, Ar_25, q_25, S_25, M_25, H_25, G_25⟩ := id V_22
  have hin_25 : ¬ ((2 : Int32) < 0 ∨ cl_25.slots.size ≤ ((2 : Int32)).toNatClampNeg) := inb_of S_25 ⟨by decide, by decide⟩
  have hat_25 : cl_25.slots[((2 : Int32)).toNatClampNeg]? = some (.double 0) := H_25.at hin_25 rfl
  refine og (B := T_24.setTop (mkF m 52 #[rv a0, iv 0, oD w4, oS, iv 2] [(.double 0), (.int 2), (.ref b_2)])) (fun t k => X_24.daload hx (j := (2 : Int32)) (v := (.double 0)) (by rw [(e_24 : _ = _)]; exact Ar_25.1) (State.isArrayOf_alike hZ.alike Ar_25.2.1) Ar_25.2.2 hin_25 hat_25 (g := (mkF m 51 #[rv a0, iv 0, oD w4, oS, iv 2] [(.int 2), (.ref b_2), (.int 2), (.ref b_2)])) rfl rfl (hb hby d22_51) t k) ?_
  refine og (B := T_24.setTop (mkF m 54 #[rv a0, iv 0, oD w4, oS, iv 2] [(.ref a0), (.double w4), (.double 0), (.int 2), (.ref b_2)])) (fun t k => ?_) ?_
  · refine XS.dloadN X_24.here hx rfl (hb hby d22_52) rfl ?_
    refine XS.aloadN X_24.here hx rfl (hb hby d22_53) rfl rfl ?_
    exact k
  obtain ⟨T_26, X_26, e_26, st_26⟩ := getF X_24 hx hZ hown (host := "") (Or.inl (ow hw 104 rfl)) Via.refl e_24 c60 (g := (mkF m 54 #[rv a0, iv 0, oD w4, oS, iv 2] [(.ref a0), (.double w4), (.double 0), (.int 2), (.ref b_2)])) rfl rfl (hb hby d22_54)
  refine og (fun t k => st_26 t k) ?_
  refine og (B := T_26.setTop (mkF m 58 #[rv a0, iv 0, oD w4, oS, iv 2] [(.int 0), (.ref iv_), (.double w4), (.double 0), (.int 2), (.ref b_2)])) (fun t k => ?_) ?_
  · refine XS.iloadN X_26.here hx rfl (hb hby d22_57) rfl ?_
    exact k
  obtain ⟨cl_27, Ar_27, q_27, S_27, M_27, H_27, G_27⟩ := id c64
  have hin_27 : ¬ ((0 : Int32) < 0 ∨ cl_27.slots.size ≤ ((0 : Int32)).toNatClampNeg) := inb_of S_27 ⟨by decide, by decide⟩
  have hat_27 : cl_27.slots[((0 : Int32)).toNatClampNeg]? = some (.ref y0) := H_27.at hin_27 rfl
  refine og (B := T_26.setTop (mkF m 59 #[rv a0, iv 0, oD w4, oS, iv 2] [(.ref y0), (.double w4), (.double 0), (.int 2), (.ref b_2)])) (fun t k => X_26.aaload hx (j := (0 : Int32)) (v := (.ref y0)) (by rw [(e_26 : _ = _)]; exact Ar_27.1) (State.isArrayOf_alike hZ.alike Ar_27.2.1) rfl Ar_27.2.2 hin_27 hat_27 (g := (mkF m 58 #[rv a0, iv 0, oD w4, oS, iv 2] [(.int 0), (.ref iv_), (.double w4), (.double 0), (.int 2), (.ref b_2)])) rfl rfl (hb hby d22_58) t k) ?_
  refine og (B := T_26.setTop (mkF m 61 #[rv a0, iv 0, oD w4, oS, iv 2] [(.int 2), (.ref y0), (.double w4), (.double 0), (.int 2), (.ref b_2)])) (fun t k => ?_) ?_
  · refine XS.iload X_26.here hx rfl (hb hby d22_59) rfl ?_
    exact k
  obtain ⟨cl_28, Ar_28, q_28, S_28, M_28, H_28, G_28⟩ := id c65
  have hin_28 : ¬ ((2 : Int32) < 0 ∨ cl_28.slots.size ≤ ((2 : Int32)).toNatClampNeg) := inb_of S_28 ⟨by decide, by decide⟩
  have hat_28 : cl_28.slots[((2 : Int32)).toNatClampNeg]? = some (.double i02) := H_28.at hin_28 rfl
  refine og (B := T_26.setTop (mkF m 62 #[rv a0, iv 0, oD w4, oS, iv 2] [(.double i02), (.double w4), (.double 0), (.int 2), (.ref b_2)])) (fun t k => X_26.daload hx (j := (2 : Int32)) (v := (.double i02)) (by rw [(e_26 : _ = _)]; exact Ar_28.1) (State.isArrayOf_alike hZ.alike Ar_28.2.1) Ar_28.2.2 hin_28 hat_28 (g := (mkF m 61 #[rv a0, iv 0, oD w4, oS, iv 2] [(.int 2), (.ref y0), (.double w4), (.double 0), (.int 2), (.ref b_2)])) rfl rfl (hb hby d22_61) t k) ?_
  refine og (B := T_26.setTop (mkF m 64 #[rv a0, iv 0, oD w4, oS, iv 2] [(.double (own_d1 w4 i02)), (.int 2), (.ref b_2)])) (fun t k => ?_) ?_
  · refine XS.dmulS X_26.here hx rfl (hb hby d22_62) rfl hf02.noNaN rfl ?_
    refine XS.daddS X_26.here hx rfl (hb hby d22_63) rfl (Jvm.Free.Fl.dadd_out own_n0 hf02) rfl ?_
    exact k
  obtain ⟨cl_29, Ar_29, q_29, S_29, M_29, H_29, G_29⟩ := id V_22
  have hin_29 : ¬ ((2 : Int32) < 0 ∨ cl_29.slots.size ≤ ((2 : Int32)).toNatClampNeg) := inb_of S_29 ⟨by decide, by decide⟩
  obtain ⟨T_29, h_29, X_29, e_29, W_29, st_29⟩ := stD X_26 hx hZ e_26 Ar_29 (j := (2 : Int32)) hin_29 (g := (mkF m 64 #[rv a0, iv 0, oD w4, oS, iv 2] [(.double (own_d1 w4 i02)), (.int 2), (.ref b_2)])) rfl rfl (hb hby d22_64)
  have c69 := c52.wr W_29 (Or.inr sz_b_2)
  have c70 := c53.wr W_29
  have c71 := c54.other W_29 (Or.inl ne_a0_b_2)
  have c72 := c55.other W_29 (Or.inl ne_a0_b_2)
  have c73 := c56.other W_29 (Or.inl ne_a0_b_2)
  have c74 := c57.other W_29 (Or.inl ne_a0_b_2)
  have c75 := c58.other W_29 (Or.inl ne_a0_b_2)
  have c76 := c59.other W_29 (Or.inl ne_a0_b_2)
  have c77 := c60.other W_29 (Or.inl ne_a0_b_2)
  have c78 := c61.other W_29 (Or.inl ne_a0_b_2)
  have c79 := c62.other W_29 ne_va_b_2
  have c80 := c63.other W_29 ne_ba_b_2
  have c81 := c64.other W_29 ne_iv__b_2
  have c82 := c65.other W_29 ne_y0_b_2
  have c83 := c66.other W_29 ne_y1_b_2
  have c84 := c67.other W_29 ne_y2_b_2
  have c85 := c68.wr W_29
  have V_29 : Arv Z h_29 b_2 k_2 .double (3 : Int32) [(.double (own_d1 w4 i00)), (.double (own_d1 w4 i01)), (.double (own_d1 w4 i02))] (.double 0) := Arv.set Ar_29 q_29 S_29 M_29 H_29 G_29 rfl W_29 2 rfl (Nat.le_of_ble_eq_true rfl)
  have N_29 := Fr.snoc X_29 N_22 g_b_2
  have Z0__29 : n0 ≤ h_29.size := by rw [W_29.size]; exact Z0__22
  refine og (fun t k => st_29 t k) ?_
  refine og (B := T_29.setTop (mkF m 38 #[rv a0, iv 0, oD w4, oS, iv 3] [(.ref a0), (.int 3)])) (fun t k => ?_) ?_
  · refine XS.iinc X_29.here hx rfl (hb hby d22_65) rfl (l' := #[rv a0, iv 0, oD w4, oS, iv 3]) rfl ?_
    refine XS.goto X_29.here hx rfl (pc0 := 68) (pc' := 35) rfl (hb hby d22_68) (by decide) (by decide) ?_
    refine XS.iload X_29.here hx rfl (hb hby d22_35) rfl ?_
    refine XS.aloadN X_29.here hx rfl (hb hby d22_37) rfl rfl ?_
    exact k
  obtain ⟨T_30, X_30, e_30, st_30⟩ := getF X_29 hx hZ hown (host := "") (Or.inl (ow hw 50 rfl)) Via.refl e_29 c75 (g := (mkF m 38 #[rv a0, iv 0, oD w4, oS, iv 3] [(.ref a0), (.int 3)])) rfl rfl (hb hby d22_38)
  refine og (fun t k => st_30 t k) ?_
  refine og (B := T_30.setTop (mkF m 71 #[rv a0, iv 0, oD w4, oS, iv 3] [])) (fun t k => ?_) ?_
  · refine XS.icmpYes X_30.here hx rfl (pc0 := 41) (pc' := 71) rfl (hb hby d22_41) rfl (flt (by decide : ¬ ((3 : Int32) < (3 : Int32)))).2.1 (by decide) (by decide) ?_
    exact k
  refine og (B := T_30.setTop (mkF m 14 #[rv a0, iv 1, oD w4, oS, iv 3] [(.ref a0), (.int 1)])) (fun t k => ?_) ?_
  · refine XS.iinc X_30.here hx rfl (hb hby d22_71) rfl (l' := #[rv a0, iv 1, oD w4, oS, iv 3]) rfl ?_
    refine XS.goto X_30.here hx rfl (pc0 := 74) (pc' := 12) rfl (hb hby d22_74) (by decide) (by decide) ?_
    refine XS.iloadN X_30.here hx rfl (hb hby d22_12) rfl ?_
    refine XS.aloadN X_30.here hx rfl (hb hby d22_13) rfl rfl ?_
    exact k
  obtain ⟨T_31, X_31, e_31, st_31⟩ := getF X_30 hx hZ hown (host := "") (Or.inl (ow hw 50 rfl)) Via.refl e_30 c75 (g := (mkF m 14 #[rv a0, iv 1, oD w4, oS, iv 3] [(.ref a0), (.int 1)])) rfl rfl (hb hby d22_14)
  refine og (fun t k => st_31 t k) ?_
  refine og (B := T_31.setTop (mkF m 20 #[rv a0, iv 1, oD w4, oS, iv 3] [])) (fun t k => ?_) ?_
  · refine XS.icmpNo X_31.here hx rfl (hb hby d22_17) rfl (tlt (by decide : (1 : Int32) < (3 : Int32))).2.1 ?_
    exact k
  refine og (B := T_31.setTop (mkF m 21 #[rv a0, iv 1, oD w4, oS, iv 3] [(.ref a0)])) (fun t k => ?_) ?_
  · refine XS.aloadN X_31.here hx rfl (hb hby d22_20) rfl rfl ?_
    exact k
  obtain ⟨T_32, X_32, e_32, st_32⟩ := getF X_31 hx hZ hown (host := "") (Or.inl (ow hw 43 rfl)) Via.refl e_31 c72 (g := (mkF m 21 #[rv a0, iv 1, oD w4, oS, iv 3] [(.ref a0)])) rfl rfl (hb hby d22_21)
  refine og (fun t k => st_32 t k) ?_
  refine og (B := T_32.setTop (mkF m 25 #[rv a0, iv 1, oD w4, oS, iv 3] [(.ref a0), (.ref va)])) (fun t k => ?_) ?_
  · refine XS.aloadN X_32.here hx rfl (hb hby d22_24) rfl rfl ?_
    exact k
  obtain ⟨T_33, X_33, e_33, st_33⟩ := getF X_32 hx hZ hown (host := "") (Or.inl (ow hw 52 rfl)) Via.refl e_32 c76 (g := (mkF m 25 #[rv a0, iv 1, oD w4, oS, iv 3] [(.ref a0), (.ref va)])) rfl rfl (hb hby d22_25)
  refine og (fun t k => st_33 t k) ?_
  refine og (B := T_33.setTop (mkF m 29 #[rv a0, iv 1, oD w4, oS, iv 3] [(.int 1), (.ref ba), (.ref va)])) (fun t k => ?_) ?_
  · refine XS.iloadN X_33.here hx rfl (hb hby d22_28) rfl ?_
    exact k
  obtain ⟨cl_34, Ar_34, q_34, S_34, M_34, H_34, G_34⟩ := id c80
  have hin_34 : ¬ ((1 : Int32) < 0 ∨ cl_34.slots.size ≤ ((1 : Int32)).toNatClampNeg) := inb_of S_34 ⟨by decide, by decide⟩
  have hat_34 : cl_34.slots[((1 : Int32)).toNatClampNeg]? = some (.int b1) := H_34.at hin_34 rfl
  refine og (B := T_33.setTop (mkF m 30 #[rv a0, iv 1, oD w4, oS, iv 3] [(.int b1), (.ref va)])) (fun t k => X_33.iaload hx (j := (1 : Int32)) (v := (.int b1)) (by rw [(e_33 : _ = _)]; exact Ar_34.1) (State.isArrayOf_alike hZ.alike Ar_34.2.1) Ar_34.2.2 hin_34 hat_34 (g := (mkF m 29 #[rv a0, iv 1, oD w4, oS, iv 3] [(.int 1), (.ref ba), (.ref va)])) rfl rfl (hb hby d22_29) t k) ?_
  obtain ⟨cl_35, Ar_35, q_35, S_35, M_35, H_35, G_35⟩ := id c79
  have hin_35 : ¬ (b1 < 0 ∨ cl_35.slots.size ≤ (b1).toNatClampNeg) := inb_of S_35 hb1
  have hat_35 : cl_35.slots[(b1).toNatClampNeg]? = some (.double v1) := H_35.at hin_35 hv1
  refine og (B := T_33.setTop (mkF m 31 #[rv a0, iv 1, oD w4, oS, iv 3] [(.double v1)])) (fun t k => X_33.daload hx (j := b1) (v := (.double v1)) (by rw [(e_33 : _ = _)]; exact Ar_35.1) (State.isArrayOf_alike hZ.alike Ar_35.2.1) Ar_35.2.2 hin_35 hat_35 (g := (mkF m 30 #[rv a0, iv 1, oD w4, oS, iv 3] [(.int b1), (.ref va)])) rfl rfl (hb hby d22_30) t k) ?_
  refine og (B := T_33.setTop (mkF m 38 #[rv a0, iv 1, oD v1, oS, iv 0] [(.ref a0), (.int 0)])) (fun t k => ?_) ?_
  · refine XS.dstoreN X_33.here hx rfl (hb hby d22_31) rfl (l' := #[rv a0, iv 1, oD v1, oS, iv 3]) rfl ?_
    refine XS.iconst X_33.here hx rfl (hb hby d22_32) ?_
    refine XS.istore X_33.here hx rfl (hb hby d22_33) rfl (l' := #[rv a0, iv 1, oD v1, oS, iv 0]) rfl ?_
    refine XS.iload X_33.here hx rfl (hb hby d22_35) rfl ?_
    refine XS.aloadN X_33.here hx rfl (hb hby d22_37) rfl rfl ?_
    exact k
  obtain ⟨T_36, X_36, e_36, st_36⟩ := getF X_33 hx hZ hown (host := "") (Or.inl (ow hw 50 rfl)) Via.refl e_33 c75 (g := (mkF m 38 #[rv a0, iv 1, oD v1, oS, iv 0] [(.ref a0), (.int 0)])) rfl rfl (hb hby d22_38)
  refine og (fun t k => st_36 t k) ?_
  refine og (B := T_36.setTop (mkF m 44 #[rv a0, iv 1, oD v1, oS, iv 0] [])) (fun t k => ?_) ?_
  · refine XS.icmpNo X_36.here hx rfl (hb hby d22_41) rfl (tlt (by decide : (0 : Int32) < (3 : Int32))).2.1 ?_
    exact k
  refine og (B := T_36.setTop (mkF m 45 #[rv a0, iv 1, oD v1, oS, iv 0] [(.ref a0)])) (fun t k => ?_) ?_
  · refine XS.aloadN X_36.here hx rfl (hb hby d22_44) rfl rfl ?_
    exact k
  obtain ⟨T_37, X_37, e_37, st_37⟩ := getF X_36 hx hZ hown (host := "") (Or.inl (ow hw 151 rfl)) Via.refl e_36 c78 (g := (mkF m 45 #[rv a0, iv 1, oD v1, oS, iv 0] [(.ref a0)])) rfl rfl (hb hby d22_45)
  refine og (fun t k => st_37 t k) ?_
  refine og (B := T_37.setTop (mkF m 51 #[rv a0, iv 1, oD v1, oS, iv 0] [(.int 0), (.ref b_2), (.int 0), (.ref b_2)])) (fun t k => ?_) ?_
  · refine XS.iload X_37.here hx rfl (hb hby d22_48) rfl ?_
    refine own_dup2 X_37.here hx rfl (hb hby d22_50) rfl rfl rfl ?_
    exact k
  obtain ⟨cl_38, Ar_38, q_38, S_38, M_38, H_38, G_38⟩ := id V_29
  have hin_38 : ¬ ((0 : Int32) < 0 ∨ cl_38.slots.size ≤ ((0 : Int32)).toNatClampNeg) := inb_of S_38 ⟨by decide, by decide⟩
  have hat_38 : cl_38.slots[((0 : Int32)).toNatClampNeg]? = some (.double (own_d1 w4 i00)) := H_38.at hin_38 rfl
  refine og (B := T_37.setTop (mkF m 52 #[rv a0, iv 1, oD v1, oS, iv 0] [(.double (own_d1 w4 i00)), (.int 0), (.ref b_2)])) (fun t k => X_37.daload hx (j := (0 : Int32)) (v := (.double (own_d1 w4 i00))) (by rw [(e_37 : _ = _)]; exact Ar_38.1) (State.isArrayOf_alike hZ.alike Ar_38.2.1) Ar_38.2.2 hin_38 hat_38 (g := (mkF m 51 #[rv a0, iv 1, oD v1, oS, iv 0] [(.int 0), (.ref b_2), (.int 0), (.ref b_2)])) rfl rfl (hb hby d22_51) t k) ?_
  refine og (B := T_37.setTop (mkF m 54 #[rv a0, iv 1, oD v1, oS, iv 0] [(.ref a0), (.double v1), (.double (own_d1 w4 i00)), (.int 0), (.ref b_2)])) (fun t k => ?_) ?_
  · refine XS.dloadN X_37.here hx rfl (hb hby d22_52) rfl ?_
    refine XS.aloadN X_37.here hx rfl (hb hby d22_53) rfl rfl ?_
    exact k
  obtain ⟨T_39, X_39, e_39, st_39⟩ := getF X_37 hx hZ hown (host := "") (Or.inl (ow hw 104 rfl)) Via.refl e_37 c77 (g := (mkF m 54 #[rv a0, iv 1, oD v1, oS, iv 0] [(.ref a0), (.double v1), (.double (own_d1 w4 i00)), (.int 0), (.ref b_2)])) rfl rfl (hb hby d22_54)
  refine og (fun t k => st_39 t k) ?_
  refine og (B := T_39.setTop (mkF m 58 #[rv a0, iv 1, oD v1, oS, iv 0] [(.int 1), (.ref iv_), (.double v1), (.double (own_d1 w4 i00)), (.int 0), (.ref b_2)])) (fun t k => ?_) ?_
  · refine XS.iloadN X_39.here hx rfl (hb hby d22_57) rfl ?_
    exact k
  obtain ⟨cl_40, Ar_40, q_40, S_40, M_40, H_40, G_40⟩ := id c81
  have hin_40 : ¬ ((1 : Int32) < 0 ∨ cl_40.slots.size ≤ ((1 : Int32)).toNatClampNeg) := inb_of S_40 ⟨by decide, by decide⟩
  have hat_40 : cl_40.slots[((1 : Int32)).toNatClampNeg]? = some (.ref y1) := H_40.at hin_40 rfl
  refine og (B := T_39.setTop (mkF m 59 #[rv a0, iv 1, oD v1, oS, iv 0] [(.ref y1), (.double v1), (.double (own_d1 w4 i00)), (.int 0), (.ref b_2)])) (fun t k => X_39.aaload hx (j := (1 : Int32)) (v := (.ref y1)) (by rw [(e_39 : _ = _)]; exact Ar_40.1) (State.isArrayOf_alike hZ.alike Ar_40.2.1) rfl Ar_40.2.2 hin_40 hat_40 (g := (mkF m 58 #[rv a0, iv 1, oD v1, oS, iv 0] [(.int 1), (.ref iv_), (.double v1), (.double (own_d1 w4 i00)), (.int 0), (.ref b_2)])) rfl rfl (hb hby d22_58) t k) ?_
  refine og (B := T_39.setTop (mkF m 61 #[rv a0, iv 1, oD v1, oS, iv 0] [(.int 0), (.ref y1), (.double v1), (.double (own_d1 w4 i00)), (.int 0), (.ref b_2)])) (fun t k => ?_) ?_
  · refine XS.iload X_39.here hx rfl (hb hby d22_59) rfl ?_
    exact k
  obtain ⟨cl_41, Ar_41, q_41, S_41, M_41, H_41, G_41⟩ := id c83
  have hin_41 : ¬ ((0 : Int32) < 0 ∨ cl_41.slots.size ≤ ((0 : Int32)).toNatClampNeg) := inb_of S_41 ⟨by decide, by decide⟩
  have hat_41 : cl_41.slots[((0 : Int32)).toNatClampNeg]? = some (.double i10) := H_41.at hin_41 rfl
  refine og (B := T_39.setTop (mkF m 62 #[rv a0, iv 1, oD v1, oS, iv 0] [(.double i10), (.double v1), (.double (own_d1 w4 i00)), (.int 0), (.ref b_2)])) (fun t k => X_39.daload hx (j := (0 : Int32)) (v := (.double i10)) (by rw [(e_39 : _ = _)]; exact Ar_41.1) (State.isArrayOf_alike hZ.alike Ar_41.2.1) Ar_41.2.2 hin_41 hat_41 (g := (mkF m 61 #[rv a0, iv 1, oD v1, oS, iv 0] [(.int 0), (.ref y1), (.double v1), (.double (own_d1 w4 i00)), (.int 0), (.ref b_2)])) rfl rfl (hb hby d22_61) t k) ?_
  refine og (B := T_39.setTop (mkF m 64 #[rv a0, iv 1, oD v1, oS, iv 0] [(.double (own_d2 w4 i00 v1 i10)), (.int 0), (.ref b_2)])) (fun t k => ?_) ?_
  · refine XS.dmulS X_39.here hx rfl (hb hby d22_62) rfl hf10.noNaN rfl ?_
    refine XS.daddS X_39.here hx rfl (hb hby d22_63) rfl (Jvm.Free.Fl.dadd_out nn00 hf10) rfl ?_
    exact k
  obtain ⟨cl_42, Ar_42, q_42, S_42, M_42, H_42, G_42⟩ := id V_29
  have hin_42 : ¬ ((0 : Int32) < 0 ∨ cl_42.slots.size ≤ ((0 : Int32)).toNatClampNeg) := inb_of S_42 ⟨by decide, by decide⟩
  obtain ⟨T_42, h_42, X_42, e_42, W_42, st_42⟩ := stD X_39 hx hZ e_39 Ar_42 (j := (0 : Int32)) hin_42 (g := (mkF m 64 #[rv a0, iv 1, oD v1, oS, iv 0] [(.double (own_d2 w4 i00 v1 i10)), (.int 0), (.ref b_2)])) rfl rfl (hb hby d22_64)
  have c86 := c69.wr W_42 (Or.inr sz_b_2)
  have c87 := c70.wr W_42
  have c88 := c71.other W_42 (Or.inl ne_a0_b_2)
  have c89 := c72.other W_42 (Or.inl ne_a0_b_2)
  have c90 := c73.other W_42 (Or.inl ne_a0_b_2)
  have c91 := c74.other W_42 (Or.inl ne_a0_b_2)
  have c92 := c75.other W_42 (Or.inl ne_a0_b_2)
  have c93 := c76.other W_42 (Or.inl ne_a0_b_2)
  have c94 := c77.other W_42 (Or.inl ne_a0_b_2)
  have c95 := c78.other W_42 (Or.inl ne_a0_b_2)
  have c96 := c79.other W_42 ne_va_b_2
  have c97 := c80.other W_42 ne_ba_b_2
  have c98 := c81.other W_42 ne_iv__b_2
  have c99 := c82.other W_42 ne_y0_b_2
  have c100 := c83.other W_42 ne_y1_b_2
  have c101 := c84.other W_42 ne_y2_b_2
  have c102 := c85.wr W_42
  have V_42 : Arv Z h_42 b_2 k_2 .double (3 : Int32) [(.double (own_d2 w4 i00 v1 i10)), (.double (own_d1 w4 i01)), (.double (own_d1 w4 i02))] (.double 0) := Arv.set Ar_42 q_42 S_42 M_42 H_42 G_42 rfl W_42 0 rfl (Nat.le_of_ble_eq_true rfl)
  have N_42 := Fr.snoc X_42 N_29 g_b_2
  have Z0__42 : n0 ≤ h_42.size := by rw [W_42.size]; exact Z0__29
  refine og (fun t k => st_42 t k) ?_
  refine og (B := T_42.setTop (mkF m 38 #[rv a0, iv 1, oD v1, oS, iv 1] [(.ref a0), (.int 1)])) (fun t k => ?_) ?_
  · refine XS.iinc X_42.here hx rfl (hb hby d22_65) rfl (l' := #[rv a0, iv 1, oD v1, oS, iv 1]) rfl ?_
    refine XS.goto X_42.here hx rfl (pc0 := 68) (pc' := 35) rfl (hb hby d22_68) (by decide) (by decide) ?_
    refine XS.iload X_42.here hx rfl (hb hby d22_35) rfl ?_
    refine XS.aloadN X_42.here hx rfl (hb hby d22_37) rfl rfl ?_
    exact k
  obtain ⟨T_43, X_43, e_43, st_43⟩ := getF X_42 hx hZ hown (host := "") (Or.inl (ow hw 50 rfl)) Via.refl e_42 c92 (g := (mkF m 38 #[rv a0, iv 1, oD v1, oS, iv 1] [(.ref a0), (.int 1)])) rfl rfl (hb hby d22_38)
  refine og (fun t k => st_43 t k) ?_
  refine og (B := T_43.setTop (mkF m 44 #[rv a0, iv 1, oD v1, oS, iv 1] [])) (fun t k => ?_) ?_
  · refine XS.icmpNo X_43.here hx rfl (hb hby d22_41) rfl (tlt (by decide : (1 : Int32) < (3 : Int32))).2.1 ?_
    exact k
  refine og (B := T_43.setTop (mkF m 45 #[rv a0, iv 1, oD v1, oS, iv 1] [(.ref a0)])) (fun t k => ?_) ?_
  · refine XS.aloadN X_43.here hx rfl (hb hby d22_44) rfl rfl ?_
    exact k
  obtain ⟨T_44, X_44, e_44, st_44⟩ := getF X_43 hx hZ hown (host := "") (Or.inl (ow hw 151 rfl)) Via.refl e_43 c95 (g := (mkF m 45 #[rv a0, iv 1, oD v1, oS, iv 1] [(.ref a0)])) rfl rfl (hb hby d22_45)
  refine og (fun t k => st_44 t k) ?_
  refine og (B := T_44.setTop (mkF m 51 #[rv a0, iv 1, oD v1, oS, iv 1] [(.int 1), (.ref b_2), (.int 1), (.ref b_2)])) (fun t k => ?_) ?_
  · refine XS.iload X_44.here hx rfl (hb hby d22_48) rfl ?_
    refine own_dup2 X_44.here hx rfl (hb hby d22_50) rfl rfl rfl ?_
    exact k
  obtain ⟨cl_45, Ar_45, q_45, S_45, M_45, H_45, G_45⟩ := id V_42
  have hin_45 : ¬ ((1 : Int32) < 0 ∨ cl_45.slots.size ≤ ((1 : Int32)).toNatClampNeg) := inb_of S_45 ⟨by decide, by decide⟩
  have hat_45 : cl_45.slots[((1 : Int32)).toNatClampNeg]? = some (.double (own_d1 w4 i01)) := H_45.at hin_45 rfl
  refine og (B := T_44.setTop (mkF m 52 #[rv a0, iv 1, oD v1, oS, iv 1] [(.double (own_d1 w4 i01)), (.int 1), (.ref b_2)])) (fun t k => X_44.daload hx (j := (1 : Int32)) (v := (.double (own_d1 w4 i01))) (by rw [(e_44 : _ = _)]; exact Ar_45.1) (State.isArrayOf_alike hZ.alike Ar_45.2.1) Ar_45.2.2 hin_45 hat_45 (g := (mkF m 51 #[rv a0, iv 1, oD v1, oS, iv 1] [(.int 1), (.ref b_2), (.int 1), (.ref b_2)])) rfl rfl (hb hby d22_51) t k) ?_
  refine og (B := T_44.setTop (mkF m 54 #[rv a0, iv 1, oD v1, oS, iv 1] [(.ref a0), (.double v1), (.double (own_d1 w4 i01)), (.int 1), (.ref b_2)])) (fun t k => ?_) ?_
  · refine XS.dloadN X_44.here hx rfl (hb hby d22_52) rfl ?_
    refine XS.aloadN X_44.here hx rfl (hb hby d22_53) rfl rfl ?_
    exact k
  obtain ⟨T_46, X_46, e_46, st_46⟩ := getF X_44 hx hZ hown (host := "") (Or.inl (ow hw 104 rfl)) Via.refl e_44 c94 (g := (mkF m 54 #[rv a0, iv 1, oD v1, oS, iv 1] [(.ref a0), (.double v1), (.double (own_d1 w4 i01)), (.int 1), (.ref b_2)])) rfl rfl (hb hby d22_54)
  refine og (fun t k => st_46 t k) ?_
  refine og (B := T_46.setTop (mkF m 58 #[rv a0, iv 1, oD v1, oS, iv 1] [(.int 1), (.ref iv_), (.double v1), (.double (own_d1 w4 i01)), (.int 1), (.ref b_2)])) (fun t k => ?_) ?_
  · refine XS.iloadN X_46.here hx rfl (hb hby d22_57) rfl ?_
    exact k
  obtain ⟨cl_47, Ar_47, q_47, S_47, M_47, H_47, G_47⟩ := id c98
  have hin_47 : ¬ ((1 : Int32) < 0 ∨ cl_47.slots.size ≤ ((1 : Int32)).toNatClampNeg) := inb_of S_47 ⟨by decide, by decide⟩
  have hat_47 : cl_47.slots[((1 : Int32)).toNatClampNeg]? = some (.ref y1) := H_47.at hin_47 rfl
  refine og (B := T_46.setTop (mkF m 59 #[rv a0, iv 1, oD v1, oS, iv 1] [(.ref y1), (.double v1), (.double (own_d1 w4 i01)), (.int 1), (.ref b_2)])) (fun t k => X_46.aaload hx (j := (1 : Int32)) (v := (.ref y1)) (by rw [(e_46 : _ = _)]; exact Ar_47.1) (State.isArrayOf_alike hZ.alike Ar_47.2.1) rfl Ar_47.2.2 hin_47 hat_47 (g := (mkF m 58 #[rv a0, iv 1, oD v1, oS, iv 1] [(.int 1), (.ref iv_), (.double v1), (.double (own_d1 w4 i01)), (.int 1), (.ref b_2)])) rfl rfl (hb hby d22_58) t k) ?_
  refine og (B := T_46.setTop (mkF m 61 #[rv a0, iv 1, oD v1, oS, iv 1] [(.int 1), (.ref y1), (.double v1), (.double (own_d1 w4 i01)), (.int 1), (.ref b_2)])) (fun t k => ?_) ?_
  · refine XS.iload X_46.here hx rfl (hb hby d22_59) rfl ?_
    exact k
  obtain ⟨cl_48, Ar_48, q_48, S_48, M_48, H_48, G_48⟩ := id c100
  have hin_48 : ¬ ((1 : Int32) < 0 ∨ cl_48.slots.size ≤ ((1 : Int32)).toNatClampNeg) := inb_of S_48 ⟨by decide, by decide⟩
  have hat_48 : cl_48.slots[((1 : Int32)).toNatClampNeg]? = some (.double i11) := H_48.at hin_48 rfl
  refine og (B := T_46.setTop (mkF m 62 #[rv a0, iv 1, oD v1, oS, iv 1] [(.double i11), (.double v1), (.double (own_d1 w4 i01)), (.int 1), (.ref b_2)])) (fun t k => X_46.daload hx (j := (1 : Int32)) (v := (.double i11)) (by rw [(e_46 : _ = _)]; exact Ar_48.1) (State.isArrayOf_alike hZ.alike Ar_48.2.1) Ar_48.2.2 hin_48 hat_48 (g := (mkF m 61 #[rv a0, iv 1, oD v1, oS, iv 1] [(.int 1), (.ref y1), (.double v1), (.double (own_d1 w4 i01)), (.int 1), (.ref b_2)])) rfl rfl (hb hby d22_61) t k) ?_
  refine og (B := T_46.setTop (mkF m 64 #[rv a0, iv 1, oD v1, oS, iv 1] [(.double (own_d2 w4 i01 v1 i11)), (.int 1), (.ref b_2)])) (fun t k => ?_) ?_
  · refine XS.dmulS X_46.here hx rfl (hb hby d22_62) rfl hf11.noNaN rfl ?_
    refine XS.daddS X_46.here hx rfl (hb hby d22_63) rfl (Jvm.Free.Fl.dadd_out nn01 hf11) rfl ?_
    exact k
  obtain ⟨cl_49, Ar_49, q_49, S_49, M_49, H_49, G_49⟩ := id V_42
  have hin_49 : ¬ ((1 : Int32) < 0 ∨ cl_49.slots.size ≤ ((1 : Int32)).toNatClampNeg) := inb_of S_49 ⟨by decide, by decide⟩
  obtain ⟨T_49, h_49, X_49, e_49, W_49, st_49⟩ := stD X_46 hx hZ e_46 Ar_49 (j := (1 : Int32)) hin_49 (g := (mkF m 64 #[rv a0, iv 1, oD v1, oS, iv 1] [(.double (own_d2 w4 i01 v1 i11)), (.int 1), (.ref b_2)])) rfl rfl (hb hby d22_64)
  have c103 := c86.wr W_49 (Or.inr sz_b_2)
  have c104 := c87.wr W_49
  have c105 := c88.other W_49 (Or.inl ne_a0_b_2)
  have c106 := c89.other W_49 (Or.inl ne_a0_b_2)
  have c107 := c90.other W_49 (Or.inl ne_a0_b_2)
  have c108 := c91.other W_49 (Or.inl ne_a0_b_2)
  have c109 := c92.other W_49 (Or.inl ne_a0_b_2)
  have c110 := c93.other W_49 (Or.inl ne_a0_b_2)
  have c111 := c94.other W_49 (Or.inl ne_a0_b_2)
  have c112 := c95.other W_49 (Or.inl ne_a0_b_2)
  have c113 := c96.other W_49 ne_va_b_2
  have c114 := c97.other W_49 ne_ba_b_2
  have c115 := c98.other W_49 ne_iv__b_2
  have c116 := c99.other W_49 ne_y0_b_2
  have c117 := c100.other W_49 ne_y1_b_2
  have c118 := c101.other W_49 ne_y2_b_2
  have c119 := c102.wr W_49
  have V_49 : Arv Z h_49 b_2 k_2 .double (3 : Int32) [(.double (own_d2 w4 i00 v1 i10)), (.double (own_d2 w4 i01 v1 i11)), (.double (own_d1 w4 i02))] (.double 0) := Arv.set Ar_49 q_49 S_49 M_49 H_49 G_49 rfl W_49 1 rfl (Nat.le_of_ble_eq_true rfl)
  have N_49 := Fr.snoc X_49 N_42 g_b_2
  have Z0__49 : n0 ≤ h_49.size := by rw [W_49.size]; exact Z0__42
  refine og (fun t k => st_49 t k) ?_
  refine og (B := T_49.setTop (mkF m 38 #[rv a0, iv 1, oD v1, oS, iv 2] [(.ref a0), (.int 2)])) (fun t k => ?_) ?_
  · refine XS.iinc X_49.here hx rfl (hb hby d22_65) rfl (l' := #[rv a0, iv 1, oD v1, oS, iv 2]) rfl ?_
    refine XS.goto X_49.here hx rfl (pc0 := 68) (pc' := 35) rfl (hb hby d22_68) (by decide) (by decide) ?_
    refine XS.iload X_49.here hx rfl (hb hby d22_35) rfl ?_
    refine XS.aloadN X_49.here hx rfl (hb hby d22_37) rfl rfl ?_
    exact k
  obtain ⟨T_50, X_50, e_50, st_50⟩ := getF X_49 hx hZ hown (host := "") (Or.inl (ow hw 50 rfl)) Via.refl e_49 c109 (g := (mkF m 38 #[rv a0, iv 1, oD v1, oS, iv 2] [(.ref a0), (.int 2)])) rfl rfl (hb hby d22_38)
  refine og (fun t k => st_50 t k) ?_
  refine og (B := T_50.setTop (mkF m 44 #[rv a0, iv 1, oD v1, oS, iv 2] [])) (fun t k => ?_) ?_
  · refine XS.icmpNo X_50.here hx rfl (hb hby d22_41) rfl (tlt (by decide : (2 : Int32) < (3 : Int32))).2.1 ?_
    exact k
  refine og (B := T_50.setTop (mkF m 45 #[rv a0, iv 1, oD v1, oS, iv 2] [(.ref a0)])) (fun t k => ?_) ?_
  · refine XS.aloadN X_50.here hx rfl (hb hby d22_44) rfl rfl ?_
    exact k
  obtain ⟨T_51, X_51, e_51, st_51⟩ := getF X_50 hx hZ hown (host := "") (Or.inl (ow hw 151 rfl)) Via.refl e_50 c112 (g := (mkF m 45 #[rv a0, iv 1, oD v1, oS, iv 2] [(.ref a0)])) rfl rfl (hb hby d22_45)
  refine og (fun t k => st_51 t k) ?_
  refine og (B := T_51.setTop (mkF m 51 #[rv a0, iv 1, oD v1, oS, iv 2] [(.int 2), (.ref b_2), (.int 2), (.ref b_2)])) (fun t k => ?_) ?_
  · refine XS.iload X_51.here hx rfl (hb hby d22_48) rfl ?_
    refine own_dup2 X_51.here hx rfl (hb hby d22_50) rfl rfl rfl ?_
    exact k
  obtain ⟨cl_52, Ar_52, q_52, S_52, M_52, H_52, G_52⟩ := id V_49
  have hin_52 : ¬ ((2 : Int32) < 0 ∨ cl_52.slots.size ≤ ((2 : Int32)).toNatClampNeg) := inb_of S_52 ⟨by decide, by decide⟩
  have hat_52 : cl_52.slots[((2 : Int32)).toNatClampNeg]? = some (.double (own_d1 w4 i02)) := H_52.at hin_52 rfl
  refine og (B := T_51.setTop (mkF m 52 #[rv a0, iv 1, oD v1, oS, iv 2] [(.double (own_d1 w4 i02)), (.int 2), (.ref b_2)])) (fun t k => X_51.daload hx (j := (2 : Int32)) (v := (.double (own_d1 w4 i02))) (by rw [(e_51 : _ = _)]; exact Ar_52.1) (State.isArrayOf_alike hZ.alike Ar_52.2.1) Ar_52.2.2 hin_52 hat_52 (g := (mkF m 51 #[rv a0, iv 1, oD v1, oS, iv 2] [(.int 2), (.ref b_2), (.int 2), (.ref b_2)])) rfl rfl (hb hby d22_51) t k) ?_
  refine og (B := T_51.setTop (mkF m 54 #[rv a0, iv 1, oD v1, oS, iv 2] [(.ref a0), (.double v1), (.double (own_d1 w4 i02)), (.int 2), (.ref b_2)])) (fun t k => ?_) ?_
  · refine XS.dloadN X_51.here hx rfl (hb hby d22_52) rfl ?_
    refine XS.aloadN X_51.here hx rfl (hb hby d22_53) rfl rfl ?_
    exact k
  obtain ⟨T_53, X_53, e_53, st_53⟩ := getF X_51 hx hZ hown (host := "") (Or.inl (ow hw 104 rfl)) Via.refl e_51 c111 (g := (mkF m 54 #[rv a0, iv 1, oD v1, oS, iv 2] [(.ref a0), (.double v1), (.double (own_d1 w4 i02)), (.int 2), (.ref b_2)])) rfl rfl (hb hby d22_54)
  refine og (fun t k => st_53 t k) ?_
  refine og (B := T_53.setTop (mkF m 58 #[rv a0, iv 1, oD v1, oS, iv 2] [(.int 1), (.ref iv_), (.double v1), (.double (own_d1 w4 i02)), (.int 2), (.ref b_2)])) (fun t k => ?_) ?_
  · refine XS.iloadN X_53.here hx rfl (hb hby d22_57) rfl ?_
    exact k
  obtain ⟨cl_54, Ar_54, q_54, S_54, M_54, H_54, G_54⟩ := id c115
  have hin_54 : ¬ ((1 : Int32) < 0 ∨ cl_54.slots.size ≤ ((1 : Int32)).toNatClampNeg) := inb_of S_54 ⟨by decide, by decide⟩
  have hat_54 : cl_54.slots[((1 : Int32)).toNatClampNeg]? = some (.ref y1) := H_54.at hin_54 rfl
  refine og (B := T_53.setTop (mkF m 59 #[rv a0, iv 1, oD v1, oS, iv 2] [(.ref y1), (.double v1), (.double (own_d1 w4 i02)), (.int 2), (.ref b_2)])) (fun t k => X_53.aaload hx (j := (1 : Int32)) (v := (.ref y1)) (by rw [(e_53 : _ = _)]; exact Ar_54.1) (State.isArrayOf_alike hZ.alike Ar_54.2.1) rfl Ar_54.2.2 hin_54 hat_54 (g := (mkF m 58 #[rv a0, iv 1, oD v1, oS, iv 2] [(.int 1), (.ref iv_), (.double v1), (.double (own_d1 w4 i02)), (.int 2), (.ref b_2)])) rfl rfl (hb hby d22_58) t k) ?_
  refine og (B := T_53.setTop (mkF m 61 #[rv a0, iv 1, oD v1, oS, iv 2] [(.int 2), (.ref y1), (.double v1), (.double (own_d1 w4 i02)), (.int 2), (.ref b_2)])) (fun t k => ?_) ?_
  · refine XS.iload X_53.here hx rfl (hb hby d22_59) rfl ?_
    exact k
  obtain ⟨cl_55, Ar_55, q_55, S_55, M_55, H_55, G_55⟩ := id c117
  have hin_55 : ¬ ((2 : Int32) < 0 ∨ cl_55.slots.size ≤ ((2 : Int32)).toNatClampNeg) := inb_of S_55 ⟨by decide, by decide⟩
  have hat_55 : cl_55.slots[((2 : Int32)).toNatClampNeg]? = some (.double i12) := H_55.at hin_55 rfl
  refine og (B := T_53.setTop (mkF m 62 #[rv a0, iv 1, oD v1, oS, iv 2] [(.double i12), (.double v1), (.double (own_d1 w4 i02)), (.int 2), (.ref b_2)])) (fun t k => X_53.daload hx (j := (2 : Int32)) (v := (.double i12)) (by rw [(e_53 : _ = _)]; exact Ar_55.1) (State.isArrayOf_alike hZ.alike Ar_55.2.1) Ar_55.2.2 hin_55 hat_55 (g := (mkF m 61 #[rv a0, iv 1, oD v1, oS, iv 2] [(.int 2), (.ref y1), (.double v1), (.double (own_d1 w4 i02)), (.int 2), (.ref b_2)])) rfl rfl (hb hby d22_61) t k) ?_
  refine og (B := T_53.setTop (mkF m 64 #[rv a0, iv 1, oD v1, oS, iv 2] [(.double (own_d2 w4 i02 v1 i12)), (.int 2), (.ref b_2)])) (fun t k => ?_) ?_
  · refine XS.dmulS X_53.here hx rfl (hb hby d22_62) rfl hf12.noNaN rfl ?_
    refine XS.daddS X_53.here hx rfl (hb hby d22_63) rfl (Jvm.Free.Fl.dadd_out nn02 hf12) rfl ?_
    exact k
  obtain ⟨cl_56, Ar_56, q_56, S_56, M_56, H_56, G_56⟩ := id V_49
  have hin_56 : ¬ ((2 : Int32) < 0 ∨ cl_56.slots.size ≤ ((2 : Int32)).toNatClampNeg) := inb_of S_56 ⟨by decide, by decide⟩
  obtain ⟨T_56, h_56, X_56, e_56, W_56, st_56⟩ := stD X_53 hx hZ e_53 Ar_56 (j := (2 : Int32)) hin_56 (g := (mkF m 64 #[rv a0, iv 1, oD v1, oS, iv 2] [(.double (own_d2 w4 i02 v1 i12)), (.int 2), (.ref b_2)])) rfl rfl (hb hby d22_64)
  have c120 := c103.wr W_56 (Or.inr sz_b_2)
  have c121 := c104.wr W_56
  have c122 := c105.other W_56 (Or.inl ne_a0_b_2)
  have c123 := c106.other W_56 (Or.inl ne_a0_b_2)
  have c124 := c107.other W_56 (Or.inl ne_a0_b_2)
  have c125 := c108.other W_56 (Or.inl ne_a0_b_2)
  have c126 := c109.other W_56 (Or.inl ne_a0_b_2)
  have c127 := c110.other W_56 (Or.inl ne_a0_b_2)
  have c128 := c111.other W_56 (Or.inl ne_a0_b_2)
  have c129 := c112.other W_56 (Or.inl ne_a0_b_2)
  have c130 := c113.other W_56 ne_va_b_2
  have c131 := c114.other W_56 ne_ba_b_2
  have c132 := c115.other W_56 ne_iv__b_2
  have c133 := c116.other W_56 ne_y0_b_2
  have c134 := c117.other W_56 ne_y1_b_2
  have c135 := c118.other W_56 ne_y2_b_2
  have c136 := c119.wr W_56
  have V_56 : Arv Z h_56 b_2 k_2 .double (3 : Int32) [(.double (own_d2 w4 i00 v1 i10)), (.double (own_d2 w4 i01 v1 i11)), (.double (own_d2 w4 i02 v1 i12))] (.double 0) := Arv.set Ar_56 q_56 S_56 M_56 H_56 G_56 rfl W_56 2 rfl (Nat.le_of_ble_eq_true rfl)
  have N_56 := Fr.snoc X_56 N_49 g_b_2
  have Z0__56 : n0 ≤ h_56.size := by rw [W_56.size]; exact Z0__49
  refine og (fun t k => st_56 t k) ?_
  refine og (B := T_56.setTop (mkF m 38 #[rv a0, iv 1, oD v1, oS, iv 3] [(.ref a0), (.int 3)])) (fun t k => ?_) ?_
  · refine XS.iinc X_56.here hx rfl (hb hby d22_65) rfl (l' := #[rv a0, iv 1, oD v1, oS, iv 3]) rfl ?_
    refine XS.goto X_56.here hx rfl (pc0 := 68) (pc' := 35) rfl (hb hby d22_68) (by decide) (by decide) ?_
    refine XS.iload X_56.here hx rfl (hb hby d22_35) rfl ?_
    refine XS.aloadN X_56.here hx rfl (hb hby d22_37) rfl rfl ?_
    exact k
  obtain ⟨T_57, X_57, e_57, st_57⟩ := getF X_56 hx hZ hown (host := "") (Or.inl (ow hw 50 rfl)) Via.refl e_56 c126 (g := (mkF m 38 #[rv a0, iv 1, oD v1, oS, iv 3] [(.ref a0), (.int 3)])) rfl rfl (hb hby d22_38)
  refine og (fun t k => st_57 t k) ?_
  refine og (B := T_57.setTop (mkF m 71 #[rv a0, iv 1, oD v1, oS, iv 3] [])) (fun t k => ?_) ?_
  · refine XS.icmpYes X_57.here hx rfl (pc0 := 41) (pc' := 71) rfl (hb hby d22_41) rfl (flt (by decide : ¬ ((3 : Int32) < (3 : Int32)))).2.1 (by decide) (by decide) ?_
    exact k
  refine og (B := T_57.setTop (mkF m 14 #[rv a0, iv 2, oD v1, oS, iv 3] [(.ref a0), (.int 2)])) (fun t k => ?_) ?_
  · refine XS.iinc X_57.here hx rfl (hb hby d22_71) rfl (l' := #[rv a0, iv 2, oD v1, oS, iv 3]) rfl ?_
    refine XS.goto X_57.here hx rfl (pc0 := 74) (pc' := 12) rfl (hb hby d22_74) (by decide) (by decide) ?_
    refine XS.iloadN X_57.here hx rfl (hb hby d22_12) rfl ?_
    refine XS.aloadN X_57.here hx rfl (hb hby d22_13) rfl rfl ?_
    exact k
  obtain ⟨T_58, X_58, e_58, st_58⟩ := getF X_57 hx hZ hown (host := "") (Or.inl (ow hw 50 rfl)) Via.refl e_57 c126 (g := (mkF m 14 #[rv a0, iv 2, oD v1, oS, iv 3] [(.ref a0), (.int 2)])) rfl rfl (hb hby d22_14)
  refine og (fun t k => st_58 t k) ?_
  refine og (B := T_58.setTop (mkF m 20 #[rv a0, iv 2, oD v1, oS, iv 3] [])) (fun t k => ?_) ?_
  · refine XS.icmpNo X_58.here hx rfl (hb hby d22_17) rfl (tlt (by decide : (2 : Int32) < (3 : Int32))).2.1 ?_
    exact k
  refine og (B := T_58.setTop (mkF m 21 #[rv a0, iv 2, oD v1, oS, iv 3] [(.ref a0)])) (fun t k => ?_) ?_
  · refine XS.aloadN X_58.here hx rfl (hb hby d22_20) rfl rfl ?_
    exact k
  obtain ⟨T_59, X_59, e_59, st_59⟩ := getF X_58 hx hZ hown (host := "") (Or.inl (ow hw 43 rfl)) Via.refl e_58 c123 (g := (mkF m 21 #[rv a0, iv 2, oD v1, oS, iv 3] [(.ref a0)])) rfl rfl (hb hby d22_21)
  refine og (fun t k => st_59 t k) ?_
  refine og (B := T_59.setTop (mkF m 25 #[rv a0, iv 2, oD v1, oS, iv 3] [(.ref a0), (.ref va)])) (fun t k => ?_) ?_
  · refine XS.aloadN X_59.here hx rfl (hb hby d22_24) rfl rfl ?_
    exact k
  obtain ⟨T_60, X_60, e_60, st_60⟩ := getF X_59 hx hZ hown (host := "") (Or.inl (ow hw 52 rfl)) Via.refl e_59 c127 (g := (mkF m 25 #[rv a0, iv 2, oD v1, oS, iv 3] [(.ref a0), (.ref va)])) rfl rfl (hb hby d22_25)
  refine og (fun t k => st_60 t k) ?_
  refine og (B := T_60.setTop (mkF m 29 #[rv a0, iv 2, oD v1, oS, iv 3] [(.int 2), (.ref ba), (.ref va)])) (fun t k => ?_) ?_
  · refine XS.iloadN X_60.here hx rfl (hb hby d22_28) rfl ?_
    exact k
  obtain ⟨cl_61, Ar_61, q_61, S_61, M_61, H_61, G_61⟩ := id c131
  have hin_61 : ¬ ((2 : Int32) < 0 ∨ cl_61.slots.size ≤ ((2 : Int32)).toNatClampNeg) := inb_of S_61 ⟨by decide, by decide⟩
  have hat_61 : cl_61.slots[((2 : Int32)).toNatClampNeg]? = some (.int b2) := H_61.at hin_61 rfl
  refine og (B := T_60.setTop (mkF m 30 #[rv a0, iv 2, oD v1, oS, iv 3] [(.int b2), (.ref va)])) (fun t k => X_60.iaload hx (j := (2 : Int32)) (v := (.int b2)) (by rw [(e_60 : _ = _)]; exact Ar_61.1) (State.isArrayOf_alike hZ.alike Ar_61.2.1) Ar_61.2.2 hin_61 hat_61 (g := (mkF m 29 #[rv a0, iv 2, oD v1, oS, iv 3] [(.int 2), (.ref ba), (.ref va)])) rfl rfl (hb hby d22_29) t k) ?_
  obtain ⟨cl_62, Ar_62, q_62, S_62, M_62, H_62, G_62⟩ := id c130
  have hin_62 : ¬ (b2 < 0 ∨ cl_62.slots.size ≤ (b2).toNatClampNeg) := inb_of S_62 hb2
  have hat_62 : cl_62.slots[(b2).toNatClampNeg]? = some (.double v2) := H_62.at hin_62 hv2
  refine og (B := T_60.setTop (mkF m 31 #[rv a0, iv 2, oD v1, oS, iv 3] [(.double v2)])) (fun t k => X_60.daload hx (j := b2) (v := (.double v2)) (by rw [(e_60 : _ = _)]; exact Ar_62.1) (State.isArrayOf_alike hZ.alike Ar_62.2.1) Ar_62.2.2 hin_62 hat_62 (g := (mkF m 30 #[rv a0, iv 2, oD v1, oS, iv 3] [(.int b2), (.ref va)])) rfl rfl (hb hby d22_30) t k) ?_
  refine og (B := T_60.setTop (mkF m 38 #[rv a0, iv 2, oD v2, oS, iv 0] [(.ref a0), (.int 0)])) (fun t k => ?_) ?_
  · refine XS.dstoreN X_60.here hx rfl (hb hby d22_31) rfl (l' := #[rv a0, iv 2, oD v2, oS, iv 3]) rfl ?_
    refine XS.iconst X_60.here hx rfl (hb hby d22_32) ?_
    refine XS.istore X_60.here hx rfl (hb hby d22_33) rfl (l' := #[rv a0, iv 2, oD v2, oS, iv 0]) rfl ?_
    refine XS.iload X_60.here hx rfl (hb hby d22_35) rfl ?_
    refine XS.aloadN X_60.here hx rfl (hb hby d22_37) rfl rfl ?_
    exact k
  obtain ⟨T_63, X_63, e_63, st_63⟩ := getF X_60 hx hZ hown (host := "") (Or.inl (ow hw 50 rfl)) Via.refl e_60 c126 (g := (mkF m 38 #[rv a0, iv 2, oD v2, oS, iv 0] [(.ref a0), (.int 0)])) rfl rfl (hb hby d22_38)
  refine og (fun t k => st_63 t k) ?_
  refine og (B := T_63.setTop (mkF m 44 #[rv a0, iv 2, oD v2, oS, iv 0] [])) (fun t k => ?_) ?_
  · refine XS.icmpNo X_63.here hx rfl (hb hby d22_41) rfl (tlt (by decide : (0 : Int32) < (3 : Int32))).2.1 ?_
    exact k
  refine og (B := T_63.setTop (mkF m 45 #[rv a0, iv 2, oD v2, oS, iv 0] [(.ref a0)])) (fun t k => ?_) ?_
  · refine XS.aloadN X_63.here hx rfl (hb hby d22_44) rfl rfl ?_
    exact k
  obtain ⟨T_64, X_64, e_64, st_64⟩ := getF X_63 hx hZ hown (host := "") (Or.inl (ow hw 151 rfl)) Via.refl e_63 c129 (g := (mkF m 45 #[rv a0, iv 2, oD v2, oS, iv 0] [(.ref a0)])) rfl rfl (hb hby d22_45)
  refine og (fun t k => st_64 t k) ?_
  refine og (B := T_64.setTop (mkF m 51 #[rv a0, iv 2, oD v2, oS, iv 0] [(.int 0), (.ref b_2), (.int 0), (.ref b_2)])) (fun t k => ?_) ?_
  · refine XS.iload X_64.here hx rfl (hb hby d22_48) rfl ?_
    refine own_dup2 X_64.here hx rfl (hb hby d22_50) rfl rfl rfl ?_
    exact k
  obtain ⟨cl_65, Ar_65, q_65, S_65, M_65, H_65, G_65⟩ := id V_56
  have hin_65 : ¬ ((0 : Int32) < 0 ∨ cl_65.slots.size ≤ ((0 : Int32)).toNatClampNeg) := inb_of S_65 ⟨by decide, by decide⟩
  have hat_65 : cl_65.slots[((0 : Int32)).toNatClampNeg]? = some (.double (own_d2 w4 i00 v1 i10)) := H_65.at hin_65 rfl
  refine og (B := T_64.setTop (mkF m 52 #[rv a0, iv 2, oD v2, oS, iv 0] [(.double (own_d2 w4 i00 v1 i10)), (.int 0), (.ref b_2)])) (fun t k => X_64.daload hx (j := (0 : Int32)) (v := (.double (own_d2 w4 i00 v1 i10))) (by rw [(e_64 : _ = _)]; exact Ar_65.1) (State.isArrayOf_alike hZ.alike Ar_65.2.1) Ar_65.2.2 hin_65 hat_65 (g := (mkF m 51 #[rv a0, iv 2, oD v2, oS, iv 0] [(.int 0), (.ref b_2), (.int 0), (.ref b_2)])) rfl rfl (hb hby d22_51) t k) ?_
  refine og (B := T_64.setTop (mkF m 54 #[rv a0, iv 2, oD v2, oS, iv 0] [(.ref a0), (.double v2), (.double (own_d2 w4 i00 v1 i10)), (.int 0), (.ref b_2)])) (fun t k => ?_) ?_
  · refine XS.dloadN X_64.here hx rfl (hb hby d22_52) rfl ?_
    refine XS.aloadN X_64.here hx rfl (hb hby d22_53) rfl rfl ?_
    exact k
  obtain ⟨T_66, X_66, e_66, st_66⟩ := getF X_64 hx hZ hown (host := "") (Or.inl (ow hw 104 rfl)) Via.refl e_64 c128 (g := (mkF m 54 #[rv a0, iv 2, oD v2, oS, iv 0] [(.ref a0), (.double v2), (.double (own_d2 w4 i00 v1 i10)), (.int 0), (.ref b_2)])) rfl rfl (hb hby d22_54)
  refine og (fun t k => st_66 t k) ?_
  refine og (B := T_66.setTop (mkF m 58 #[rv a0, iv 2, oD v2, oS, iv 0] [(.int 2), (.ref iv_), (.double v2), (.double (own_d2 w4 i00 v1 i10)), (.int 0), (.ref b_2)])) (fun t k => ?_) ?_
  · refine XS.iloadN X_66.here hx rfl (hb hby d22_57) rfl ?_
    exact k
  obtain ⟨cl_67, Ar_67, q_67, S_67, M_67, H_67, G_67⟩ := id c132
  have hin_67 : ¬ ((2 : Int32) < 0 ∨ cl_67.slots.size ≤ ((2 : Int32)).toNatClampNeg) := inb_of S_67 ⟨by decide, by decide⟩
  have hat_67 : cl_67.slots[((2 : Int32)).toNatClampNeg]? = some (.ref y2) := H_67.at hin_67 rfl
  refine og (B := T_66.setTop (mkF m 59 #[rv a0, iv 2, oD v2, oS, iv 0] [(.ref y2), (.double v2), (.double (own_d2 w4 i00 v1 i10)), (.int 0), (.ref b_2)])) (fun t k => X_66.aaload hx (j := (2 : Int32)) (v := (.ref y2)) (by rw [(e_66 : _ = _)]; exact Ar_67.1) (State.isArrayOf_alike hZ.alike Ar_67.2.1) rfl Ar_67.2.2 hin_67 hat_67 (g := (mkF m 58 #[rv a0, iv 2, oD v2, oS, iv 0] [(.int 2), (.ref iv_), (.double v2), (.double (own_d2 w4 i00 v1 i10)), (.int 0), (.ref b_2)])) rfl rfl (hb hby d22_58) t k) ?_
  refine og (B := T_66.setTop (mkF m 61 #[rv a0, iv 2, oD v2, oS, iv 0] [(.int 0), (.ref y2), (.double v2), (.double (own_d2 w4 i00 v1 i10)), (.int 0), (.ref b_2)])) (fun t k => ?_) ?_
  · refine XS.iload X_66.here hx rfl (hb hby d22_59) rfl ?_
    exact k
  obtain ⟨cl_68, Ar_68, q_68, S_68, M_68, H_68, G_68⟩ := id c135
  have hin_68 : ¬ ((0 : Int32) < 0 ∨ cl_68.slots.size ≤ ((0 : Int32)).toNatClampNeg) := inb_of S_68 ⟨by decide, by decide⟩
  have hat_68 : cl_68.slots[((0 : Int32)).toNatClampNeg]? = some (.double i20) := H_68.at hin_68 rfl
  refine og (B := T_66.setTop (mkF m 62 #[rv a0, iv 2, oD v2, oS, iv 0] [(.double i20), (.double v2), (.double (own_d2 w4 i00 v1 i10)), (.int 0), (.ref b_2)])) (fun t k => X_66.daload hx (j := (0 : Int32)) (v := (.double i20)) (by rw [(e_66 : _ = _)]; exact Ar_68.1) (State.isArrayOf_alike hZ.alike Ar_68.2.1) Ar_68.2.2 hin_68 hat_68 (g := (mkF m 61 #[rv a0, iv 2, oD v2, oS, iv 0] [(.int 0), (.ref y2), (.double v2), (.double (own_d2 w4 i00 v1 i10)), (.int 0), (.ref b_2)])) rfl rfl (hb hby d22_61) t k) ?_
  refine og (B := T_66.setTop (mkF m 64 #[rv a0, iv 2, oD v2, oS, iv 0] [(.double (own_d3 w4 i00 v1 i10 v2 i20)), (.int 0), (.ref b_2)])) (fun t k => ?_) ?_
  · refine XS.dmulS X_66.here hx rfl (hb hby d22_62) rfl hf20.noNaN rfl ?_
    refine XS.daddS X_66.here hx rfl (hb hby d22_63) rfl (Jvm.Free.Fl.dadd_out nn10 hf20) rfl ?_
    exact k
  obtain ⟨cl_69, Ar_69, q_69, S_69, M_69, H_69, G_69⟩ := id V_56
  have hin_69 : ¬ ((0 : Int32) < 0 ∨ cl_69.slots.size ≤ ((0 : Int32)).toNatClampNeg) := inb_of S_69 ⟨by decide, by decide⟩
  obtain ⟨T_69, h_69, X_69, e_69, W_69, st_69⟩ := stD X_66 hx hZ e_66 Ar_69 (j := (0 : Int32)) hin_69 (g := (mkF m 64 #[rv a0, iv 2, oD v2, oS, iv 0] [(.double (own_d3 w4 i00 v1 i10 v2 i20)), (.int 0), (.ref b_2)])) rfl rfl (hb hby d22_64)
  have c137 := c120.wr W_69 (Or.inr sz_b_2)
  have c138 := c121.wr W_69
  have c139 := c122.other W_69 (Or.inl ne_a0_b_2)
  have c140 := c123.other W_69 (Or.inl ne_a0_b_2)
  have c141 := c124.other W_69 (Or.inl ne_a0_b_2)
  have c142 := c125.other W_69 (Or.inl ne_a0_b_2)
  have c143 := c126.other W_69 (Or.inl ne_a0_b_2)
  have c144 := c127.other W_69 (Or.inl ne_a0_b_2)
  have c145 := c128.other W_69 (Or.inl ne_a0_b_2)
  have c146 := c129.other W_69 (Or.inl ne_a0_b_2)
  have c147 := c130.other W_69 ne_va_b_2
  have c148 := c131.other W_69 ne_ba_b_2
  have c149 := c132.other W_69 ne_iv__b_2
  have c150 := c133.other W_69 ne_y0_b_2
  have c151 := c134.other W_69 ne_y1_b_2
  have c152 := c135.other W_69 ne_y2_b_2
  have c153 := c136.wr W_69
  have V_69 : Arv Z h_69 b_2 k_2 .double (3 : Int32) [(.double (own_d3 w4 i00 v1 i10 v2 i20)), (.double (own_d2 w4 i01 v1 i11)), (.double (own_d2 w4 i02 v1 i12))] (.double 0) := Arv.set Ar_69 q_69 S_69 M_69 H_69 G_69 rfl W_69 0 rfl (Nat.le_of_ble_eq_true rfl)
  have N_69 := Fr.snoc X_69 N_56 g_b_2
  have Z0__69 : n0 ≤ h_69.size := by rw [W_69.size]; exact Z0__56
  refine og (fun t k => st_69 t k) ?_
  refine og (B := T_69.setTop (mkF m 38 #[rv a0, iv 2, oD v2, oS, iv 1] [(.ref a0), (.int 1)])) (fun t k => ?_) ?_
  · refine XS.iinc X_69.here hx rfl (hb hby d22_65) rfl (l' := #[rv a0, iv 2, oD v2, oS, iv 1]) rfl ?_
    refine XS.goto X_69.here hx rfl (pc0 := 68) (pc' := 35) rfl (hb hby d22_68) (by decide) (by decide) ?_
    refine XS.iload X_69.here hx rfl (hb hby d22_35) rfl ?_
    refine XS.aloadN X_69.here hx rfl (hb hby d22_37) rfl rfl ?_
    exact k
  obtain ⟨T_70, X_70, e_70, st_70⟩ := getF X_69 hx hZ hown (host := "") (Or.inl (ow hw 50 rfl)) Via.refl e_69 c143 (g := (mkF m 38 #[rv a0, iv 2, oD v2, oS, iv 1] [(.ref a0), (.int 1)])) rfl rfl (hb hby d22_38)
  refine og (fun t k => st_70 t k) ?_
  refine og (B := T_70.setTop (mkF m 44 #[rv a0, iv 2, oD v2, oS, iv 1] [])) (fun t k => ?_) ?_
  · refine XS.icmpNo X_70.here hx rfl (hb hby d22_41) rfl (tlt (by decide : (1 : Int32) < (3 : Int32))).2.1 ?_
    exact k
  refine og (B := T_70.setTop (mkF m 45 #[rv a0, iv 2, oD v2, oS, iv 1] [(.ref a0)])) (fun t k => ?_) ?_
  · refine XS.aloadN X_70.here hx rfl (hb hby d22_44) rfl rfl ?_
    exact k
  obtain ⟨T_71, X_71, e_71, st_71⟩ := getF X_70 hx hZ hown (host := "") (Or.inl (ow hw 151 rfl)) Via.refl e_70 c146 (g := (mkF m 45 #[rv a0, iv 2, oD v2, oS, iv 1] [(.ref a0)])) rfl rfl (hb hby d22_45)
  refine og (fun t k => st_71 t k) ?_
  refine og (B := T_71.setTop (mkF m 51 #[rv a0, iv 2, oD v2, oS, iv 1] [(.int 1), (.ref b_2), (.int 1), (.ref b_2)])) (fun t k => ?_) ?_
  · refine XS.iload X_71.here hx rfl (hb hby d22_48) rfl ?_
    refine own_dup2 X_71.here hx rfl (hb hby d22_50) rfl rfl rfl ?_
    exact k
  obtain ⟨cl_72, Ar_72, q_72, S_72, M_72, H_72, G_72⟩ := id V_69
  have hin_72 : ¬ ((1 : Int32) < 0 ∨ cl_72.slots.size ≤ ((1 : Int32)).toNatClampNeg) := inb_of S_72 ⟨by decide, by decide⟩
  have hat_72 : cl_72.slots[((1 : Int32)).toNatClampNeg]? = some (.double (own_d2 w4 i01 v1 i11)) := H_72.at hin_72 rfl
  refine og (B := T_71.setTop (mkF m 52 #[rv a0, iv 2, oD v2, oS, iv 1] [(.double (own_d2 w4 i01 v1 i11)), (.int 1), (.ref b_2)])) (fun t k => X_71.daload hx (j := (1 : Int32)) (v := (.double (own_d2 w4 i01 v1 i11))) (by rw [(e_71 : _ = _)]; exact Ar_72.1) (State.isArrayOf_alike hZ.alike Ar_72.2.1) Ar_72.2.2 hin_72 hat_72 (g := (mkF m 51 #[rv a0, iv 2, oD v2, oS, iv 1] [(.int 1), (.ref b_2), (.int 1), (.ref b_2)])) rfl rfl (hb hby d22_51) t k) ?_
  refine og (B := T_71.setTop (mkF m 54 #[rv a0, iv 2, oD v2, oS, iv 1] [(.ref a0), (.double v2), (.double (own_d2 w4 i01 v1 i11)), (.int 1), (.ref b_2)])) (fun t k => ?_) ?_
  · refine XS.dloadN X_71.here hx rfl (hb hby d22_52) rfl ?_
    refine XS.aloadN X_71.here hx rfl (hb hby d22_53) rfl rfl ?_
    exact k
  obtain ⟨T_73, X_73, e_73, st_73⟩ := getF X_71 hx hZ hown (host := "") (Or.inl (ow hw 104 rfl)) Via.refl e_71 c145 (g := (mkF m 54 #[rv a0, iv 2, oD v2, oS, iv 1] [(.ref a0), (.double v2), (.double (own_d2 w4 i01 v1 i11)), (.int 1), (.ref b_2)])) rfl rfl (hb hby d22_54)
  refine og (fun t k => st_73 t k) ?_
  refine og (B := T_73.setTop (mkF m 58 #[rv a0, iv 2, oD v2, oS, iv 1] [(.int 2), (.ref iv_), (.double v2), (.double (own_d2 w4 i01 v1 i11)), (.int 1), (.ref b_2)])) (fun t k => ?_) ?_
  · refine XS.iloadN X_73.here hx rfl (hb hby d22_57) rfl ?_
    exact k
  obtain ⟨cl_74, Ar_74, q_74, S_74, M_74, H_74, G_74⟩ := id c149
  have hin_74 : ¬ ((2 : Int32) < 0 ∨ cl_74.slots.size ≤ ((2 : Int32)).toNatClampNeg) := inb_of S_74 ⟨by decide, by decide⟩
  have hat_74 : cl_74.slots[((2 : Int32)).toNatClampNeg]? = some (.ref y2) := H_74.at hin_74 rfl
  refine og (B := T_73.setTop (mkF m 59 #[rv a0, iv 2, oD v2, oS, iv 1] [(.ref y2), (.double v2), (.double (own_d2 w4 i01 v1 i11)), (.int 1), (.ref b_2)])) (fun t k => X_73.aaload hx (j := (2 : Int32)) (v := (.ref y2)) (by rw [(e_73 : _ = _)]; exact Ar_74.1) (State.isArrayOf_alike hZ.alike Ar_74.2.1) rfl Ar_74.2.2 hin_74 hat_74 (g := (mkF m 58 #[rv a0, iv 2, oD v2, oS, iv 1] [(.int 2), (.ref iv_), (.double v2), (.double (own_d2 w4 i01 v1 i11)), (.int 1), (.ref b_2)])) rfl rfl (hb hby d22_58) t k) ?_
  refine og (B := T_73.setTop (mkF m 61 #[rv a0, iv 2, oD v2, oS, iv 1] [(.int 1), (.ref y2), (.double v2), (.double (own_d2 w4 i01 v1 i11)), (.int 1), (.ref b_2)])) (fun t k => ?_) ?_
  · refine XS.iload X_73.here hx rfl (hb hby d22_59) rfl ?_
    exact k
  obtain ⟨cl_75, Ar_75, q_75, S_75, M_75, H_75, G_75⟩ := id c152
  have hin_75 : ¬ ((1 : Int32) < 0 ∨ cl_75.slots.size ≤ ((1 : Int32)).toNatClampNeg) := inb_of S_75 ⟨by decide, by decide⟩
  have hat_75 : cl_75.slots[((1 : Int32)).toNatClampNeg]? = some (.double i21) := H_75.at hin_75 rfl
  refine og (B := T_73.setTop (mkF m 62 #[rv a0, iv 2, oD v2, oS, iv 1] [(.double i21), (.double v2), (.double (own_d2 w4 i01 v1 i11)), (.int 1), (.ref b_2)])) (fun t k => X_73.daload hx (j := (1 : Int32)) (v := (.double i21)) (by rw [(e_73 : _ = _)]; exact Ar_75.1) (State.isArrayOf_alike hZ.alike Ar_75.2.1) Ar_75.2.2 hin_75 hat_75 (g := (mkF m 61 #[rv a0, iv 2, oD v2, oS, iv 1] [(.int 1), (.ref y2), (.double v2), (.double (own_d2 w4 i01 v1 i11)), (.int 1), (.ref b_2)])) rfl rfl (hb hby d22_61) t k) ?_
  refine og (B := T_73.setTop (mkF m 64 #[rv a0, iv 2, oD v2, oS, iv 1] [(.double (own_d3 w4 i01 v1 i11 v2 i21)), (.int 1), (.ref b_2)])) (fun t k => ?_) ?_
  · refine XS.dmulS X_73.here hx rfl (hb hby d22_62) rfl hf21.noNaN rfl ?_
    refine XS.daddS X_73.here hx rfl (hb hby d22_63) rfl (Jvm.Free.Fl.dadd_out nn11 hf21) rfl ?_
    exact k
  obtain ⟨cl_76, Ar_76, q_76, S_76, M_76, H_76, G_76⟩ := id V_69
  have hin_76 : ¬ ((1 : Int32) < 0 ∨ cl_76.slots.size ≤ ((1 : Int32)).toNatClampNeg) := inb_of S_76 ⟨by decide, by decide⟩
  obtain ⟨T_76, h_76, X_76, e_76, W_76, st_76⟩ := stD X_73 hx hZ e_73 Ar_76 (j := (1 : Int32)) hin_76 (g := (mkF m 64 #[rv a0, iv 2, oD v2, oS, iv 1] [(.double (own_d3 w4 i01 v1 i11 v2 i21)), (.int 1), (.ref b_2)])) rfl rfl (hb hby d22_64)
  have c154 := c137.wr W_76 (Or.inr sz_b_2)
  have c155 := c138.wr W_76
  have c156 := c139.other W_76 (Or.inl ne_a0_b_2)
  have c157 := c140.other W_76 (Or.inl ne_a0_b_2)
  have c158 := c141.other W_76 (Or.inl ne_a0_b_2)
  have c159 := c142.other W_76 (Or.inl ne_a0_b_2)
  have c160 := c143.other W_76 (Or.inl ne_a0_b_2)
  have c161 := c144.other W_76 (Or.inl ne_a0_b_2)
  have c162 := c145.other W_76 (Or.inl ne_a0_b_2)
  have c163 := c146.other W_76 (Or.inl ne_a0_b_2)
  have c164 := c147.other W_76 ne_va_b_2
  have c165 := c148.other W_76 ne_ba_b_2
  have c166 := c149.other W_76 ne_iv__b_2
  have c167 := c150.other W_76 ne_y0_b_2
  have c168 := c151.other W_76 ne_y1_b_2
  have c169 := c152.other W_76 ne_y2_b_2
  have c170 := c153.wr W_76
  have V_76 : Arv Z h_76 b_2 k_2 .double (3 : Int32) [(.double (own_d3 w4 i00 v1 i10 v2 i20)), (.double (own_d3 w4 i01 v1 i11 v2 i21)), (.double (own_d2 w4 i02 v1 i12))] (.double 0) := Arv.set Ar_76 q_76 S_76 M_76 H_76 G_76 rfl W_76 1 rfl (Nat.le_of_ble_eq_true rfl)
  have N_76 := Fr.snoc X_76 N_69 g_b_2
  have Z0__76 : n0 ≤ h_76.size := by rw [W_76.size]; exact Z0__69
  refine og (fun t k => st_76 t k) ?_
  refine og (B := T_76.setTop (mkF m 38 #[rv a0, iv 2, oD v2, oS, iv 2] [(.ref a0), (.int 2)])) (fun t k => ?_) ?_
  · refine XS.iinc X_76.here hx rfl (hb hby d22_65) rfl (l' := #[rv a0, iv 2, oD v2, oS, iv 2]) rfl ?_
    refine XS.goto X_76.here hx rfl (pc0 := 68) (pc' := 35) rfl (hb hby d22_68) (by decide) (by decide) ?_
    refine XS.iload X_76.here hx rfl (hb hby d22_35) rfl ?_
    refine XS.aloadN X_76.here hx rfl (hb hby d22_37) rfl rfl ?_
    exact k
  obtain ⟨T_77, X_77, e_77, st_77⟩ := getF X_76 hx hZ hown (host := "") (Or.inl (ow hw 50 rfl)) Via.refl e_76 c160 (g := (mkF m 38 #[rv a0, iv 2, oD v2, oS, iv 2] [(.ref a0), (.int 2)])) rfl rfl (hb hby d22_38)
  refine og (fun t k => st_77 t k) ?_
  refine og (B := T_77.setTop (mkF m 44 #[rv a0, iv 2, oD v2, oS, iv 2] [])) (fun t k => ?_) ?_
  · refine XS.icmpNo X_77.here hx rfl (hb hby d22_41) rfl (tlt (by decide : (2 : Int32) < (3 : Int32))).2.1 ?_
    exact k
  refine og (B := T_77.setTop (mkF m 45 #[rv a0, iv 2, oD v2, oS, iv 2] [(.ref a0)])) (fun t k => ?_) ?_
  · refine XS.aloadN X_77.here hx rfl (hb hby d22_44) rfl rfl ?_
    exact k
  obtain ⟨T_78, X_78, e_78, st_78⟩ := getF X_77 hx hZ hown (host := "") (Or.inl (ow hw 151 rfl)) Via.refl e_77 c163 (g := (mkF m 45 #[rv a0, iv 2, oD v2, oS, iv 2] [(.ref a0)])) rfl rfl (hb hby d22_45)
  refine og (fun t k => st_78 t k) ?_
  refine og (B := T_78.setTop (mkF m 51 #[rv a0, iv 2, oD v2, oS, iv 2] [(.int 2), (.ref b_2), (.int 2), (.ref b_2)])) (fun t k => ?_) ?_
  · refine XS.iload X_78.here hx rfl (hb hby d22_48) rfl ?_
    refine own_dup2 X_78.here hx rfl (hb hby d22_50) rfl rfl rfl ?_
    exact k
  obtain ⟨cl_79, Ar_79, q_79, S_79, M_79, H_79, G_79⟩ := id V_76
  have hin_79 : ¬ ((2 : Int32) < 0 ∨ cl_79.slots.size ≤ ((2 : Int32)).toNatClampNeg) := inb_of S_79 ⟨by decide, by decide⟩
  have hat_79 : cl_79.slots[((2 : Int32)).toNatClampNeg]? = some (.double (own_d2 w4 i02 v1 i12)) := H_79.at hin_79 rfl
  refine og (B := T_78.setTop (mkF m 52 #[rv a0, iv 2, oD v2, oS, iv 2] [(.double (own_d2 w4 i02 v1 i12)), (.int 2), (.ref b_2)])) (fun t k => X_78.daload hx (j := (2 : Int32)) (v := (.double (own_d2 w4 i02 v1 i12))) (by rw [(e_78 : _ = _)]; exact Ar_79.1) (State.isArrayOf_alike hZ.alike Ar_79.2.1) Ar_79.2.2 hin_79 hat_79 (g := (mkF m 51 #[rv a0, iv 2, oD v2, oS, iv 2] [(.int 2), (.ref b_2), (.int 2), (.ref b_2)])) rfl rfl (hb hby d22_51) t k) ?_
  refine og (B := T_78.setTop (mkF m 54 #[rv a0, iv 2, oD v2, oS, iv 2] [(.ref a0), (.double v2), (.double (own_d2 w4 i02 v1 i12)), (.int 2), (.ref b_2)])) (fun t k => ?_) ?_
  · refine XS.dloadN X_78.here hx rfl (hb hby d22_52) rfl ?_
    refine XS.aloadN X_78.here hx rfl (hb hby d22_53) rfl rfl ?_
    exact k
  obtain ⟨T_80, X_80, e_80, st_80⟩ := getF X_78 hx hZ hown (host := "") (Or.inl (ow hw 104 rfl)) Via.refl e_78 c162 (g := (mkF m 54 #[rv a0, iv 2, oD v2, oS, iv 2] [(.ref a0), (.double v2), (.double (own_d2 w4 i02 v1 i12)), (.int 2), (.ref b_2)])) rfl rfl (hb hby d22_54)
  refine og (fun t k => st_80 t k) ?_
  refine og (B := T_80.setTop (mkF m 58 #[rv a0, iv 2, oD v2, oS, iv 2] [(.int 2), (.ref iv_), (.double v2), (.double (own_d2 w4 i02 v1 i12)), (.int 2), (.ref b_2)])) (fun t k => ?_) ?_
  · refine XS.iloadN X_80.here hx rfl (hb hby d22_57) rfl ?_
    exact k
  obtain ⟨cl_81, Ar_81, q_81, S_81, M_81, H_81, G_81⟩ := id c166
  have hin_81 : ¬ ((2 : Int32) < 0 ∨ cl_81.slots.size ≤ ((2 : Int32)).toNatClampNeg) := inb_of S_81 ⟨by decide, by decide⟩
  have hat_81 : cl_81.slots[((2 : Int32)).toNatClampNeg]? = some (.ref y2) := H_81.at hin_81 rfl
  refine og (B := T_80.setTop (mkF m 59 #[rv a0, iv 2, oD v2, oS, iv 2] [(.ref y2), (.double v2), (.double (own_d2 w4 i02 v1 i12)), (.int 2), (.ref b_2)])) (fun t k => X_80.aaload hx (j := (2 : Int32)) (v := (.ref y2)) (by rw [(e_80 : _ = _)]; exact Ar_81.1) (State.isArrayOf_alike hZ.alike Ar_81.2.1) rfl Ar_81.2.2 hin_81 hat_81 (g := (mkF m 58 #[rv a0, iv 2, oD v2, oS, iv 2] [(.int 2), (.ref iv_), (.double v2), (.double (own_d2 w4 i02 v1 i12)), (.int 2), (.ref b_2)])) rfl rfl (hb hby d22_58) t k) ?_
  refine og (B := T_80.setTop (mkF m 61 #[rv a0, iv 2, oD v2, oS, iv 2] [(.int 2), (.ref y2), (.double v2), (.double (own_d2 w4 i02 v1 i12)), (.int 2), (.ref b_2)])) (fun t k => ?_) ?_
  · refine XS.iload X_80.here hx rfl (hb hby d22_59) rfl ?_
    exact k
  obtain ⟨cl_82, Ar_82, q_82, S_82, M_82, H_82, G_82⟩ := id c169
  have hin_82 : ¬ ((2 : Int32) < 0 ∨ cl_82.slots.size ≤ ((2 : Int32)).toNatClampNeg) := inb_of S_82 ⟨by decide, by decide⟩
  have hat_82 : cl_82.slots[((2 : Int32)).toNatClampNeg]? = some (.double i22) := H_82.at hin_82 rfl
  refine og (B := T_80.setTop (mkF m 62 #[rv a0, iv 2, oD v2, oS, iv 2] [(.double i22), (.double v2), (.double (own_d2 w4 i02 v1 i12)), (.int 2), (.ref b_2)])) (fun t k => X_80.daload hx (j := (2 : Int32)) (v := (.double i22)) (by rw [(e_80 : _ = _)]; exact Ar_82.1) (State.isArrayOf_alike hZ.alike Ar_82.2.1) Ar_82.2.2 hin_82 hat_82 (g := (mkF m 61 #[rv a0, iv 2, oD v2, oS, iv 2] [(.int 2), (.ref y2), (.double v2), (.double (own_d2 w4 i02 v1 i12)), (.int 2), (.ref b_2)])) rfl rfl (hb hby d22_61) t k) ?_
  refine og (B := T_80.setTop (mkF m 64 #[rv a0, iv 2, oD v2, oS, iv 2] [(.double (own_d3 w4 i02 v1 i12 v2 i22)), (.int 2), (.ref b_2)])) (fun t k => ?_) ?_
  · refine XS.dmulS X_80.here hx rfl (hb hby d22_62) rfl hf22.noNaN rfl ?_
    refine XS.daddS X_80.here hx rfl (hb hby d22_63) rfl (Jvm.Free.Fl.dadd_out nn12 hf22) rfl ?_
    exact k
  obtain ⟨cl_83, Ar_83, q_83, S_83, M_83, H_83, G_83⟩ := id V_76
  have hin_83 : ¬ ((2 : Int32) < 0 ∨ cl_83.slots.size ≤ ((2 : Int32)).toNatClampNeg) := inb_of S_83 ⟨by decide, by decide⟩
  obtain ⟨T_83, h_83, X_83, e_83, W_83, st_83⟩ := stD X_80 hx hZ e_80 Ar_83 (j := (2 : Int32)) hin_83 (g := (mkF m 64 #[rv a0, iv 2, oD v2, oS, iv 2] [(.double (own_d3 w4 i02 v1 i12 v2 i22)), (.int 2), (.ref b_2)])) rfl rfl (hb hby d22_64)
  have c171 := c154.wr W_83 (Or.inr sz_b_2)
  have c172 := c155.wr W_83
  have c173 := c156.other W_83 (Or.inl ne_a0_b_2)
  have c174 := c157.other W_83 (Or.inl ne_a0_b_2)
  have c175 := c158.other W_83 (Or.inl ne_a0_b_2)
  have c176 := c159.other W_83 (Or.inl ne_a0_b_2)
  have c177 := c160.other W_83 (Or.inl ne_a0_b_2)
  have c178 := c161.other W_83 (Or.inl ne_a0_b_2)
  have c179 := c162.other W_83 (Or.inl ne_a0_b_2)
  have c180 := c163.other W_83 (Or.inl ne_a0_b_2)
  have c181 := c164.other W_83 ne_va_b_2
  have c182 := c165.other W_83 ne_ba_b_2
  have c183 := c166.other W_83 ne_iv__b_2
  have c184 := c167.other W_83 ne_y0_b_2
  have c185 := c168.other W_83 ne_y1_b_2
  have c186 := c169.other W_83 ne_y2_b_2
  have c187 := c170.wr W_83
  have V_83 : Arv Z h_83 b_2 k_2 .double (3 : Int32) [(.double (own_d3 w4 i00 v1 i10 v2 i20)), (.double (own_d3 w4 i01 v1 i11 v2 i21)), (.double (own_d3 w4 i02 v1 i12 v2 i22))] (.double 0) := Arv.set Ar_83 q_83 S_83 M_83 H_83 G_83 rfl W_83 2 rfl (Nat.le_of_ble_eq_true rfl)
  have N_83 := Fr.snoc X_83 N_76 g_b_2
  have Z0__83 : n0 ≤ h_83.size := by rw [W_83.size]; exact Z0__76
  refine og (fun t k => st_83 t k) ?_
  refine og (B := T_83.setTop (mkF m 38 #[rv a0, iv 2, oD v2, oS, iv 3] [(.ref a0), (.int 3)])) (fun t k => ?_) ?_
  · refine XS.iinc X_83.here hx rfl (hb hby d22_65) rfl (l' := #[rv a0, iv 2, oD v2, oS, iv 3]) rfl ?_
    refine XS.goto X_83.here hx rfl (pc0 := 68) (pc' := 35) rfl (hb hby d22_68) (by decide) (by decide) ?_
    refine XS.iload X_83.here hx rfl (hb hby d22_35) rfl ?_
    refine XS.aloadN X_83.here hx rfl (hb hby d22_37) rfl rfl ?_
    exact k
  obtain ⟨T_84, X_84, e_84, st_84⟩ := getF X_83 hx hZ hown (host := "") (Or.inl (ow hw 50 rfl)) Via.refl e_83 c177 (g := (mkF m 38 #[rv a0, iv 2, oD v2, oS, iv 3] [(.ref a0), (.int 3)])) rfl rfl (hb hby d22_38)
  refine og (fun t k => st_84 t k) ?_
  refine og (B := T_84.setTop (mkF m 71 #[rv a0, iv 2, oD v2, oS, iv 3] [])) (fun t k => ?_) ?_
  · refine XS.icmpYes X_84.here hx rfl (pc0 := 41) (pc' := 71) rfl (hb hby d22_41) rfl (flt (by decide : ¬ ((3 : Int32) < (3 : Int32)))).2.1 (by decide) (by decide) ?_
    exact k
  refine og (B := T_84.setTop (mkF m 14 #[rv a0, iv 3, oD v2, oS, iv 3] [(.ref a0), (.int 3)])) (fun t k => ?_) ?_
  · refine XS.iinc X_84.here hx rfl (hb hby d22_71) rfl (l' := #[rv a0, iv 3, oD v2, oS, iv 3]) rfl ?_
    refine XS.goto X_84.here hx rfl (pc0 := 74) (pc' := 12) rfl (hb hby d22_74) (by decide) (by decide) ?_
    refine XS.iloadN X_84.here hx rfl (hb hby d22_12) rfl ?_
    refine XS.aloadN X_84.here hx rfl (hb hby d22_13) rfl rfl ?_
    exact k
  obtain ⟨T_85, X_85, e_85, st_85⟩ := getF X_84 hx hZ hown (host := "") (Or.inl (ow hw 50 rfl)) Via.refl e_84 c177 (g := (mkF m 14 #[rv a0, iv 3, oD v2, oS, iv 3] [(.ref a0), (.int 3)])) rfl rfl (hb hby d22_14)
  refine og (fun t k => st_85 t k) ?_
  refine og (B := T_85.setTop (mkF m 77 #[rv a0, iv 3, oD v2, oS, iv 3] [])) (fun t k => ?_) ?_
  · refine XS.icmpYes X_85.here hx rfl (pc0 := 17) (pc' := 77) rfl (hb hby d22_17) rfl (flt (by decide : ¬ ((3 : Int32) < (3 : Int32)))).2.1 (by decide) (by decide) ?_
    exact k
  obtain ⟨fs, hr, hrun, hended, hW, hsame⟩ := X_85.leave (v := none) (fun _ => rfl)
  refine ⟨_, _, ?_, hrun, hended, _, _, rfl, ?_, ⟨_, rfl⟩, hW, hsame.mono (by decide) (by decide)⟩
  · show Steps p.tables e below (T_85.setTop (mkF m 77 #[rv a0, iv 3, oD v2, oS, iv 3] [])) _
    exact X_85.returnOut hx Bd.returns (hb hby d22_77) hr
  · show Qupm Z a0 al va ro ba iv_ y0 y1 y2 ka kq ki kj w0 w1 w2 w3 w4 v1 v2 i00 i01 i02 i10 i11 i12 i20 i21 i22 b1 b2 u8 h0 n0 _ T_85.heap _
    rw [e_85]
    exact ⟨b_2, k_2, rfl, N_83, c171, sz_b_2, c173, c174, c175, c176, c177, c178, c179, c180, V_83⟩
theorem d23_0 : decode prog_36_method_12_code 0 = .ok (.aload_n 0, 1) := by decide +kernel
theorem d23_1 : decode prog_36_method_12_code 1 = .ok (.getfield 10, 3) := by decide +kernel
theorem d23_4 : decode prog_36_method_12_code 4 = .ok (.iload_n 2, 1) := by decide +kernel
theorem d23_5 : decode prog_36_method_12_code 5 = .ok (.invokeinterface 72 2, 5) := by decide +kernel
theorem d23_10 : decode prog_36_method_12_code 10 = .ok (.checkcast 76, 3) := by decide +kernel
theorem d23_13 : decode prog_36_method_12_code 13 = .ok (.astore_n 3, 1) := by decide +kernel
theorem d23_14 : decode prog_36_method_12_code 14 = .ok (.dconst 0, 1) := by decide +kernel
theorem d23_15 : decode prog_36_method_12_code 15 = .ok (.dstore 4, 2) := by decide +kernel
theorem d23_17 : decode prog_36_method_12_code 17 = .ok (.iconst 0, 1) := by decide +kernel
theorem d23_18 : decode prog_36_method_12_code 18 = .ok (.istore 6, 2) := by decide +kernel
theorem d23_20 : decode prog_36_method_12_code 20 = .ok (.iload 6, 2) := by decide +kernel
theorem d23_22 : decode prog_36_method_12_code 22 = .ok (.aload_n 0, 1) := by decide +kernel
theorem d23_23 : decode prog_36_method_12_code 23 = .ok (.getfield 28, 3) := by decide +kernel
theorem d23_26 : decode prog_36_method_12_code 26 = .ok (.if_icmp .ge 23, 3) := by decide +kernel
theorem d23_29 : decode prog_36_method_12_code 29 = .ok (.dload 4, 2) := by decide +kernel
theorem d23_31 : decode prog_36_method_12_code 31 = .ok (.aload_n 1, 1) := by decide +kernel
theorem d23_32 : decode prog_36_method_12_code 32 = .ok (.iload 6, 2) := by decide +kernel
theorem d23_34 : decode prog_36_method_12_code 34 = .ok (.daload, 1) := by decide +kernel
theorem d23_35 : decode prog_36_method_12_code 35 = .ok (.aload_n 3, 1) := by decide +kernel
theorem d23_36 : decode prog_36_method_12_code 36 = .ok (.iload 6, 2) := by decide +kernel
theorem d23_38 : decode prog_36_method_12_code 38 = .ok (.daload, 1) := by decide +kernel
theorem d23_39 : decode prog_36_method_12_code 39 = .ok (.dmul, 1) := by decide +kernel
theorem d23_40 : decode prog_36_method_12_code 40 = .ok (.dadd, 1) := by decide +kernel
theorem d23_41 : decode prog_36_method_12_code 41 = .ok (.dstore 4, 2) := by decide +kernel
theorem d23_43 : decode prog_36_method_12_code 43 = .ok (.iinc 6 1, 3) := by decide +kernel
theorem d23_46 : decode prog_36_method_12_code 46 = .ok (.goto (-26), 3) := by decide +kernel
theorem d23_49 : decode prog_36_method_12_code 49 = .ok (.dload 4, 2) := by decide +kernel
theorem d23_51 : decode prog_36_method_12_code 51 = .ok (.dreturn, 1) := by decide +kernel
theorem pn_23 : plainName "com/example/ballast/ballast/placement/CuttingPlanes" = true := by first | (simp [plainName, overriddenIn]; done) | decide +kernel
theorem ef_dot (m : MethodId) (a0 : Addr) (a1 : Addr) (p2 : Int32) : entryFrame m #[(.ref a0), (.ref a1), (.int p2)] 7 = mkF m 0 #[rv a0, rv a1, iv p2, oU, oU, oU, oU] [] := by first | (simp [entryFrame, mkF, argsToLocals, Value.category]; done) | rfl
def Qdot (Z : State) (a0 : Addr) (a1 : Addr) (p2 : Int32) (al : Addr) (ed : Addr) (ca0 : Addr) (ca1 : Addr) (ca2 : Addr) (ca3 : Addr) (ca4 : Addr) (cx : Addr) (kd : ClassId) (kc : ClassId) (km : ClassId) (m0 : UInt64) (m1 : UInt64) (m2 : UInt64) (en0 : UInt64) (en1 : UInt64) (en2 : UInt64) (h0 : Heap) (n0 : Nat) (v : Option Value) (h : Heap) (L : List Loc) : Prop := v = some (.double (own_d3 m0 en0 m1 en1 m2 en2)) ∧ Fr n0 L ∧ h = h0
theorem rmdot (l : Launch) (Z : State) (av0 : Array Value) (hw : ∀ d ∈ tables_1, d.before av0 Z = true) (ws : List Jvm.Cond) (a0 : Addr) (a1 : Addr) (p2 : Int32) (al : Addr) (ed : Addr) (ca0 : Addr) (ca1 : Addr) (ca2 : Addr) (ca3 : Addr) (ca4 : Addr) (cx : Addr) (kd : ClassId) (kc : ClassId) (km : ClassId) (m0 : UInt64) (m1 : UInt64) (m2 : UInt64) (en0 : UInt64) (en1 : UInt64) (en2 : UInt64) (h0 : Heap) (n0 : Nat) (Z0 : n0 ≤ h0.size) (E_a0 : Exa Z h0 a0 "com/example/ballast/ballast/placement/CuttingPlanes") (F_columns_a0 : Fld Z h0 a0 "com/example/ballast/ballast/placement/CuttingPlanes" "columns" "Ljava/util/List;" (.ref al)) (F_rows_a0 : Fld Z h0 a0 "com/example/ballast/ballast/placement/CuttingPlanes" "rows" "I" (.int 3)) (E_al : Exa Z h0 al "java/util/ArrayList") (F_elementData_al : Fld Z h0 al "java/util/ArrayList" "elementData" "[Ljava/lang/Object;" (.ref ed)) (F_size_al : Fld Z h0 al "java/util/ArrayList" "size" "I" (.int 5)) (VE : Arv Z h0 ed kd (.object "java/lang/Object") (10 : Int32) [(.ref ca0), (.ref ca1), (.ref ca2), (.ref ca3), (.ref ca4)] .null) (E_cx : Exa Z h0 cx "[D") (VC : Arv Z h0 cx kc .double (3 : Int32) [(.double en0), (.double en1), (.double en2)] (.double 0)) (VM_ : Arv Z h0 a1 km .double (3 : Int32) [(.double m0), (.double m1), (.double m2)] (.double 0)) (hf0 : Jvm.Free.Fl.Fin64 (FP.dmul m0 en0)) (hf1 : Jvm.Free.Fl.Fin64 (FP.dmul m1 en1)) (hf2 : Jvm.Free.Fl.Fin64 (FP.dmul m2 en2)) (hi0 : ¬ (p2 < (0 : Int32))) (hi1 : p2 < (5 : Int32)) (hib : ¬ p2 < (0 : Int32) ∧ p2 < (10 : Int32)) (hgv : ([(.ref ca0), (.ref ca1), (.ref ca2), (.ref ca3), (.ref ca4)] : List Value).getD (p2).toNatClampNeg .null = (.ref cx)) :
    MetFree l own_m24 (head1 (Jvm.Cond.code own_m24 prog_36_method_12_code 7 (some .double) :: ws) ({ frames := 3, cells := 0, slots := 0, locals := 40 } : Room)) (fun a U => a = #[(.ref a0), (.ref a1), (.int p2)] ∧ Z.Warmed39 U.vm ∧ U.heap = h0) (fun _ _ _ _ _ => True) (fun _ U o U' => ∃ v L, o = .returned v ∧ Qdot Z a0 a1 p2 al ed ca0 ca1 ca2 ca3 ca4 cx kd kc km m0 m1 m2 en0 en1 en2 h0 n0 v U'.heap L ∧ FrameEnd U o U' L ({ frames := 3, cells := 0, slots := 0, locals := 40 } : Room).cells ({ frames := 3, cells := 0, slots := 0, locals := 40 } : Room).slots) := by
  refine MetFree.of_bodySF (plainFor_of_name pn_23) hisR ?_
  intro p e s m args below meth c s₁ Bd hml0 hP hK
  obtain ⟨rfl, hZ, hh⟩ := hP
  have hx := Bd.exec
  have hby := Bd.bytes
  have hml : c.maxLocals = 7 := hml0
  have hown : s.vm.findClass "com/example/ballast/ballast/placement/CuttingPlanes" = some m.cls := findClass_of_methodNamed Bd.named
  have X0 : Stand p l e ({ frames := 3, cells := 0, slots := 0, locals := 40 } : Room) s m #[(.ref a0), (.ref a1), (.int p2)] below meth c s₁ [] 0 0 := Stand.of_body Bd
  have e0 : s₁.heap = h0 := by rw [← hh, Bd.state]; rfl
  have N0 := Fr.nil n0
  have nn0 : Jvm.Free.Fl.NoNaN64 (own_d1 m0 en0) := Jvm.Free.Fl.dadd_out own_n0 hf0
  have nn1 : Jvm.Free.Fl.NoNaN64 (own_d2 m0 en0 m1 en1) := Jvm.Free.Fl.dadd_out nn0 hf1
  have K0 : Keep h0 h0 [] := Keep.refl h0 []
  refine og (B := s₁.setTop (mkF m 0 #[rv a0, rv a1, iv p2, oU, oU, oU, oU] [])) (fun t k => castTop (ef_dot m a0 a1 p2) k) ?_
  refine og (B := s₁.setTop (mkF m 1 #[rv a0, rv a1, iv p2, oU, oU, oU, oU] [(.ref a0)])) (fun t k => ?_) ?_
  · refine XS.aloadN X0.here hx rfl (hb hby d23_0) rfl rfl ?_
    exact k
  obtain ⟨T_1, X_1, e_1, st_1⟩ := getF X0 hx hZ hown (host := "") (Or.inl (ow hw 41 rfl)) Via.refl e0 F_columns_a0 (g := (mkF m 1 #[rv a0, rv a1, iv p2, oU, oU, oU, oU] [(.ref a0)])) rfl rfl (hb hby d23_1)
  refine og (fun t k => st_1 t k) ?_
  refine og (B := T_1.setTop (mkF m 5 #[rv a0, rv a1, iv p2, oU, oU, oU, oU] [(.int p2), (.ref al)])) (fun t k => ?_) ?_
  · refine XS.iloadN X_1.here hx rfl (hb hby d23_4) rfl ?_
    exact k
  obtain ⟨cq_2, kq_2, q_2a, q_2b, q_2c⟩ := isOf hZ e_1 E_al
  obtain ⟨_, _, ⟨T_2, L_2, k_2, n_2⟩, -, X_2, ⟨Lc_2, hQ_2, l_2, y_2, z_2⟩, st_2⟩ := X_1.interfaceBack hx (xi := own_m32) (y := own_m17) hown (mvT hZ (ow hw 110 rfl)) (mvT hZ (ow hw 111 rfl)) (mvT hZ (ow hw 112 rfl)) (mvT hZ (ow hw 113 rfl)) (mvT hZ (ow hw 114 rfl)) (mvT hZ (ow hw 115 rfl)) (mvT hZ (ow hw 116 rfl)) (mvT hZ (ow hw 65 rfl)) (by decide) (backOf (W := 0) (rmget l Z av0 hw [] al p2 ed kd ca0 ca1 ca2 ca3 ca4 cx h0 n0 Z0 E_al F_elementData_al F_size_al VE hi0 hi1 hib hgv) hZ (ow hw 117 rfl) (ow hw 19 rfl) (by decide) (by decide)) q_2a q_2b q_2c (g := (mkF m 5 #[rv a0, rv a1, iv p2, oU, oU, oU, oU] [(.int p2), (.ref al)])) rfl (by rw [hml]; rfl) (Steps.refl _) (argsL := [(.int p2)]) (rest := []) (lenOf pd_9 rfl) rfl (by show 2 * 0 + _ ≤ _; exact Nat.le_of_eq rfl) (hb hby d23_5) (fun _ _ => ⟨rfl, e_1, (by decide : 0 + 0 ≤ _), (by decide : 0 + 0 ≤ _)⟩)
  dsimp only [Pt.U, Pt.locs, Pt.cells, Pt.slots] at X_2 l_2 y_2 z_2 st_2 hQ_2
  subst l_2 y_2 z_2
  obtain ⟨rfl, N_2q, e_2⟩ := hQ_2
  have N_2 := Fr.app N0 N_2q
  refine og (fun t k => st_2.trans k) ?_
  obtain ⟨T_3, X_3, e_3, st_3⟩ := castY X_2 hx hZ hown (ow hw 131 rfl) e_2 (Ins.self E_cx) (g := (mkF m 10 #[rv a0, rv a1, iv p2, oU, oU, oU, oU] [(.ref cx)])) rfl rfl (hb hby d23_10)
  refine og (fun t k => st_3 t k) ?_
  refine og (B := T_3.setTop (mkF m 23 #[rv a0, rv a1, iv p2, rv cx, oD 0, oS, iv 0] [(.ref a0), (.int 0)])) (fun t k => ?_) ?_
  · refine XS.astoreN X_3.here hx rfl (hb hby d23_13) rfl rfl (l' := #[rv a0, rv a1, iv p2, rv cx, oU, oU, oU]) rfl ?_
    refine XS.dconst0 X_3.here hx rfl (v := 0) (hb hby d23_14) rfl ?_
    refine XS.dstore X_3.here hx rfl (hb hby d23_15) rfl (l' := #[rv a0, rv a1, iv p2, rv cx, oD 0, oS, oU]) rfl ?_
    refine XS.iconst X_3.here hx rfl (hb hby d23_17) ?_
    refine XS.istore X_3.here hx rfl (hb hby d23_18) rfl (l' := #[rv a0, rv a1, iv p2, rv cx, oD 0, oS, iv 0]) rfl ?_
    refine XS.iload X_3.here hx rfl (hb hby d23_20) rfl ?_
    refine XS.aloadN X_3.here hx rfl (hb hby d23_22) rfl rfl ?_
    exact k
  obtain ⟨T_4, X_4, e_4, st_4⟩ := getF X_3 hx hZ hown (host := "") (Or.inl (ow hw 50 rfl)) Via.refl e_3 F_rows_a0 (g := (mkF m 23 #[rv a0, rv a1, iv p2, rv cx, oD 0, oS, iv 0] [(.ref a0), (.int 0)])) rfl rfl (hb hby d23_23)
  refine og (fun t k => st_4 t k) ?_
  refine og (B := T_4.setTop (mkF m 29 #[rv a0, rv a1, iv p2, rv cx, oD 0, oS, iv 0] [])) (fun t k => ?_) ?_
  · refine XS.icmpNo X_4.here hx rfl (hb hby d23_26) rfl (tlt (by decide : (0 : Int32) < (3 : Int32))).2.1 ?_
    exact k
  refine og (B := T_4.setTop (mkF m 34 #[rv a0, rv a1, iv p2, rv cx, oD 0, oS, iv 0] [(.int 0), (.ref a1), (.double 0)])) (fun t k => ?_) ?_
  · refine XS.dload X_4.here hx rfl (hb hby d23_29) rfl ?_
    refine XS.aloadN X_4.here hx rfl (hb hby d23_31) rfl rfl ?_
    refine XS.iload X_4.here hx rfl (hb hby d23_32) rfl ?_
    exact k
  obtain ⟨cl_5, Ar_5, q_5, S_5, M_5, H_5, G_5⟩ := id VM_
  have hin_5 : ¬ ((0 : Int32) < 0 ∨ cl_5.slots.size ≤ ((0 : Int32)).toNatClampNeg) := inb_of S_5 ⟨by decide, by decide⟩
  have hat_5 : cl_5.slots[((0 : Int32)).toNatClampNeg]? = some (.double m0) := H_5.at hin_5 rfl
  refine og (B := T_4.setTop (mkF m 35 #[rv a0, rv a1, iv p2, rv cx, oD 0, oS, iv 0] [(.double m0), (.double 0)])) (fun t k => X_4.daload hx (j := (0 : Int32)) (v := (.double m0)) (by rw [(e_4 : _ = _)]; exact Ar_5.1) (State.isArrayOf_alike hZ.alike Ar_5.2.1) Ar_5.2.2 hin_5 hat_5 (g := (mkF m 34 #[rv a0, rv a1, iv p2, rv cx, oD 0, oS, iv 0] [(.int 0), (.ref a1), (.double 0)])) rfl rfl (hb hby d23_34) t k) ?_
  refine og (B := T_4.setTop (mkF m 38 #[rv a0, rv a1, iv p2, rv cx, oD 0, oS, iv 0] [(.int 0), (.ref cx), (.double m0), (.double 0)])) (fun t k => ?_) ?_
  · refine XS.aloadN X_4.here hx rfl (hb hby d23_35) rfl rfl ?_
    refine XS.iload X_4.here hx rfl (hb hby d23_36) rfl ?_
    exact k
  obtain ⟨cl_6, Ar_6, q_6, S_6, M_6, H_6, G_6⟩ := id VC
  have hin_6 : ¬ ((0 : Int32) < 0 ∨ cl_6.slots.size ≤ ((0 : Int32)).toNatClampNeg) := inb_of S_6 ⟨by decide, by decide⟩
  have hat_6 : cl_6.slots[((0 : Int32)).toNatClampNeg]? = some (.double en0) := H_6.at hin_6 rfl
  refine og (B := T_4.setTop (mkF m 39 #[rv a0, rv a1, iv p2, rv cx, oD 0, oS, iv 0] [(.double en0), (.double m0), (.double 0)])) (fun t k => X_4.daload hx (j := (0 : Int32)) (v := (.double en0)) (by rw [(e_4 : _ = _)]; exact Ar_6.1) (State.isArrayOf_alike hZ.alike Ar_6.2.1) Ar_6.2.2 hin_6 hat_6 (g := (mkF m 38 #[rv a0, rv a1, iv p2, rv cx, oD 0, oS, iv 0] [(.int 0), (.ref cx), (.double m0), (.double 0)])) rfl rfl (hb hby d23_38) t k) ?_
  refine og (B := T_4.setTop (mkF m 23 #[rv a0, rv a1, iv p2, rv cx, oD (own_d1 m0 en0), oS, iv 1] [(.ref a0), (.int 1)])) (fun t k => ?_) ?_
  · refine XS.dmulS X_4.here hx rfl (hb hby d23_39) rfl hf0.noNaN rfl ?_
    refine XS.daddS X_4.here hx rfl (hb hby d23_40) rfl (Jvm.Free.Fl.dadd_out own_n0 hf0) rfl ?_
    refine XS.dstore X_4.here hx rfl (hb hby d23_41) rfl (l' := #[rv a0, rv a1, iv p2, rv cx, oD (own_d1 m0 en0), oS, iv 0]) rfl ?_
    refine XS.iinc X_4.here hx rfl (hb hby d23_43) rfl (l' := #[rv a0, rv a1, iv p2, rv cx, oD (own_d1 m0 en0), oS, iv 1]) rfl ?_
    refine XS.goto X_4.here hx rfl (pc0 := 46) (pc' := 20) rfl (hb hby d23_46) (by decide) (by decide) ?_
    refine XS.iload X_4.here hx rfl (hb hby d23_20) rfl ?_
    refine XS.aloadN X_4.here hx rfl (hb hby d23_22) rfl rfl ?_
    exact k
  obtain ⟨T_7, X_7, e_7, st_7⟩ := getF X_4 hx hZ hown (host := "") (Or.inl (ow hw 50 rfl)) Via.refl e_4 F_rows_a0 (g := (mkF m 23 #[rv a0, rv a1, iv p2, rv cx, oD (own_d1 m0 en0), oS, iv 1] [(.ref a0), (.int 1)])) rfl rfl (hb hby d23_23)
  refine og (fun t k => st_7 t k) ?_
  refine og (B := T_7.setTop (mkF m 29 #[rv a0, rv a1, iv p2, rv cx, oD (own_d1 m0 en0), oS, iv 1] [])) (fun t k => ?_) ?_
  · refine XS.icmpNo X_7.here hx rfl (hb hby d23_26) rfl (tlt (by decide : (1 : Int32) < (3 : Int32))).2.1 ?_
    exact k
  refine og (B := T_7.setTop (mkF m 34 #[rv a0, rv a1, iv p2, rv cx, oD (own_d1 m0 en0), oS, iv 1] [(.int 1), (.ref a1), (.double (own_d1 m0 en0))])) (fun t k => ?_) ?_
  · refine XS.dload X_7.here hx rfl (hb hby d23_29) rfl ?_
    refine XS.aloadN X_7.here hx rfl (hb hby d23_31) rfl rfl ?_
    refine XS.iload X_7.here hx rfl (hb hby d23_32) rfl ?_
    exact k
  obtain ⟨cl_8, Ar_8, q_8, S_8, M_8, H_8, G_8⟩ := id VM_
  have hin_8 : ¬ ((1 : Int32) < 0 ∨ cl_8.slots.size ≤ ((1 : Int32)).toNatClampNeg) := inb_of S_8 ⟨by decide, by decide⟩
  have hat_8 : cl_8.slots[((1 : Int32)).toNatClampNeg]? = some (.double m1) := H_8.at hin_8 rfl
  refine og (B := T_7.setTop (mkF m 35 #[rv a0, rv a1, iv p2, rv cx, oD (own_d1 m0 en0), oS, iv 1] [(.double m1), (.double (own_d1 m0 en0))])) (fun t k => X_7.daload hx (j := (1 : Int32)) (v := (.double m1)) (by rw [(e_7 : _ = _)]; exact Ar_8.1) (State.isArrayOf_alike hZ.alike Ar_8.2.1) Ar_8.2.2 hin_8 hat_8 (g := (mkF m 34 #[rv a0, rv a1, iv p2, rv cx, oD (own_d1 m0 en0), oS, iv 1] [(.int 1), (.ref a1), (.double (own_d1 m0 en0))])) rfl rfl (hb hby d23_34) t k) ?_
  refine og (B := T_7.setTop (mkF m 38 #[rv a0, rv a1, iv p2, rv cx, oD (own_d1 m0 en0), oS, iv 1] [(.int 1), (.ref cx), (.double m1), (.double (own_d1 m0 en0))])) (fun t k => ?_) ?_
  · refine XS.aloadN X_7.here hx rfl (hb hby d23_35) rfl rfl ?_
    refine XS.iload X_7.here hx rfl (hb hby d23_36) rfl ?_
    exact k
  obtain ⟨cl_9, Ar_9, q_9, S_9, M_9, H_9, G_9⟩ := id VC
  have hin_9 : ¬ ((1 : Int32) < 0 ∨ cl_9.slots.size ≤ ((1 : Int32)).toNatClampNeg) := inb_of S_9 ⟨by decide, by decide⟩
  have hat_9 : cl_9.slots[((1 : Int32)).toNatClampNeg]? = some (.double en1) := H_9.at hin_9 rfl
  refine og (B := T_7.setTop (mkF m 39 #[rv a0, rv a1, iv p2, rv cx, oD (own_d1 m0 en0), oS, iv 1] [(.double en1), (.double m1), (.double (own_d1 m0 en0))])) (fun t k => X_7.daload hx (j := (1 : Int32)) (v := (.double en1)) (by rw [(e_7 : _ = _)]; exact Ar_9.1) (State.isArrayOf_alike hZ.alike Ar_9.2.1) Ar_9.2.2 hin_9 hat_9 (g := (mkF m 38 #[rv a0, rv a1, iv p2, rv cx, oD (own_d1 m0 en0), oS, iv 1] [(.int 1), (.ref cx), (.double m1), (.double (own_d1 m0 en0))])) rfl rfl (hb hby d23_38) t k) ?_
  refine og (B := T_7.setTop (mkF m 23 #[rv a0, rv a1, iv p2, rv cx, oD (own_d2 m0 en0 m1 en1), oS, iv 2] [(.ref a0), (.int 2)])) (fun t k => ?_) ?_
  · refine XS.dmulS X_7.here hx rfl (hb hby d23_39) rfl hf1.noNaN rfl ?_
    refine XS.daddS X_7.here hx rfl (hb hby d23_40) rfl (Jvm.Free.Fl.dadd_out nn0 hf1) rfl ?_
    refine XS.dstore X_7.here hx rfl (hb hby d23_41) rfl (l' := #[rv a0, rv a1, iv p2, rv cx, oD (own_d2 m0 en0 m1 en1), oS, iv 1]) rfl ?_
    refine XS.iinc X_7.here hx rfl (hb hby d23_43) rfl (l' := #[rv a0, rv a1, iv p2, rv cx, oD (own_d2 m0 en0 m1 en1), oS, iv 2]) rfl ?_
    refine XS.goto X_7.here hx rfl (pc0 := 46) (pc' := 20) rfl (hb hby d23_46) (by decide) (by decide) ?_
    refine XS.iload X_7.here hx rfl (hb hby d23_20) rfl ?_
    refine XS.aloadN X_7.here hx rfl (hb hby d23_22) rfl rfl ?_
    exact k
  obtain ⟨T_10, X_10, e_10, st_10⟩ := getF X_7 hx hZ hown (host := "") (Or.inl (ow hw 50 rfl)) Via.refl e_7 F_rows_a0 (g := (mkF m 23 #[rv a0, rv a1, iv p2, rv cx, oD (own_d2 m0 en0 m1 en1), oS, iv 2] [(.ref a0), (.int 2)])) rfl rfl (hb hby d23_23)
  refine og (fun t k => st_10 t k) ?_
  refine og (B := T_10.setTop (mkF m 29 #[rv a0, rv a1, iv p2, rv cx, oD (own_d2 m0 en0 m1 en1), oS, iv 2] [])) (fun t k => ?_) ?_
  · refine XS.icmpNo X_10.here hx rfl (hb hby d23_26) rfl (tlt (by decide : (2 : Int32) < (3 : Int32))).2.1 ?_
    exact k
  refine og (B := T_10.setTop (mkF m 34 #[rv a0, rv a1, iv p2, rv cx, oD (own_d2 m0 en0 m1 en1), oS, iv 2] [(.int 2), (.ref a1), (.double (own_d2 m0 en0 m1 en1))])) (fun t k => ?_) ?_
  · refine XS.dload X_10.here hx rfl (hb hby d23_29) rfl ?_
    refine XS.aloadN X_10.here hx rfl (hb hby d23_31) rfl rfl ?_
    refine XS.iload X_10.here hx rfl (hb hby d23_32) rfl ?_
    exact k
  obtain ⟨cl_11, Ar_11, q_11, S_11, M_11, H_11, G_11⟩ := id VM_
  have hin_11 : ¬ ((2 : Int32) < 0 ∨ cl_11.slots.size ≤ ((2 : Int32)).toNatClampNeg) := inb_of S_11 ⟨by decide, by decide⟩
  have hat_11 : cl_11.slots[((2 : Int32)).toNatClampNeg]? = some (.double m2) := H_11.at hin_11 rfl
  refine og (B := T_10.setTop (mkF m 35 #[rv a0, rv a1, iv p2, rv cx, oD (own_d2 m0 en0 m1 en1), oS, iv 2] [(.double m2), (.double (own_d2 m0 en0 m1 en1))])) (fun t k => X_10.daload hx (j := (2 : Int32)) (v := (.double m2)) (by rw [(e_10 : _ = _)]; exact Ar_11.1) (State.isArrayOf_alike hZ.alike Ar_11.2.1) Ar_11.2.2 hin_11 hat_11 (g := (mkF m 34 #[rv a0, rv a1, iv p2, rv cx, oD (own_d2 m0 en0 m1 en1), oS, iv 2] [(.int 2), (.ref a1), (.double (own_d2 m0 en0 m1 en1))])) rfl rfl (hb hby d23_34) t k) ?_
  refine og (B := T_10.setTop (mkF m 38 #[rv a0, rv a1, iv p2, rv cx, oD (own_d2 m0 en0 m1 en1), oS, iv 2] [(.int 2), (.ref cx), (.double m2), (.double (own_d2 m0 en0 m1 en1))])) (fun t k => ?_) ?_
  · refine XS.aloadN X_10.here hx rfl (hb hby d23_35) rfl rfl ?_
    refine XS.iload X_10.here hx rfl (hb hby d23_36) rfl ?_
    exact k
  obtain ⟨cl_12, Ar_12, q_12, S_12, M_12, H_12, G_12⟩ := id VC
  have hin_12 : ¬ ((2 : Int32) < 0 ∨ cl_12.slots.size ≤ ((2 : Int32)).toNatClampNeg) := inb_of S_12 ⟨by decide, by decide⟩
  have hat_12 : cl_12.slots[((2 : Int32)).toNatClampNeg]? = some (.double en2) := H_12.at hin_12 rfl
  refine og (B := T_10.setTop (mkF m 39 #[rv a0, rv a1, iv p2, rv cx, oD (own_d2 m0 en0 m1 en1), oS, iv 2] [(.double en2), (.double m2), (.double (own_d2 m0 en0 m1 en1))])) (fun t k => X_10.daload hx (j := (2 : Int32)) (v := (.double en2)) (by rw [(e_10 : _ = _)]; exact Ar_12.1) (State.isArrayOf_alike hZ.alike Ar_12.2.1) Ar_12.2.2 hin_12 hat_12 (g := (mkF m 38 #[rv a0, rv a1, iv p2, rv cx, oD (own_d2 m0 en0 m1 en1), oS, iv 2] [(.int 2), (.ref cx), (.double m2), (.double (own_d2 m0 en0 m1 en1))])) rfl rfl (hb hby d23_38) t k) ?_
  refine og (B := T_10.setTop (mkF m 23 #[rv a0, rv a1, iv p2, rv cx, oD (own_d3 m0 en0 m1 en1 m2 en2), oS, iv 3] [(.ref a0), (.int 3)])) (fun t k => ?_) ?_
  · refine XS.dmulS X_10.here hx rfl (hb hby d23_39) rfl hf2.noNaN rfl ?_
    refine XS.daddS X_10.here hx rfl (hb hby d23_40) rfl (Jvm.Free.Fl.dadd_out nn1 hf2) rfl ?_
    refine XS.dstore X_10.here hx rfl (hb hby d23_41) rfl (l' := #[rv a0, rv a1, iv p2, rv cx, oD (own_d3 m0 en0 m1 en1 m2 en2), oS, iv 2]) rfl ?_
    refine XS.iinc X_10.here hx rfl (hb hby d23_43) rfl (l' := #[rv a0, rv a1, iv p2, rv cx, oD (own_d3 m0 en0 m1 en1 m2 en2), oS, iv 3]) rfl ?_
    refine XS.goto X_10.here hx rfl (pc0 := 46) (pc' := 20) rfl (hb hby d23_46) (by decide) (by decide) ?_
    refine XS.iload X_10.here hx rfl (hb hby d23_20) rfl ?_
    refine XS.aloadN X_10.here hx rfl (hb hby d23_22) rfl rfl ?_
    exact k
  obtain ⟨T_13, X_13, e_13, st_13⟩ := getF X_10 hx hZ hown (host := "") (Or.inl (ow hw 50 rfl)) Via.refl e_10 F_rows_a0 (g := (mkF m 23 #[rv a0, rv a1, iv p2, rv cx, oD (own_d3 m0 en0 m1 en1 m2 en2), oS, iv 3] [(.ref a0), (.int 3)])) rfl rfl (hb hby d23_23)
  refine og (fun t k => st_13 t k) ?_
  refine og (B := T_13.setTop (mkF m 49 #[rv a0, rv a1, iv p2, rv cx, oD (own_d3 m0 en0 m1 en1 m2 en2), oS, iv 3] [])) (fun t k => ?_) ?_
  · refine XS.icmpYes X_13.here hx rfl (pc0 := 26) (pc' := 49) rfl (hb hby d23_26) rfl (flt (by decide : ¬ ((3 : Int32) < (3 : Int32)))).2.1 (by decide) (by decide) ?_
    exact k
  refine og (B := T_13.setTop (mkF m 51 #[rv a0, rv a1, iv p2, rv cx, oD (own_d3 m0 en0 m1 en1 m2 en2), oS, iv 3] [(.double (own_d3 m0 en0 m1 en1 m2 en2))])) (fun t k => ?_) ?_
  · refine XS.dload X_13.here hx rfl (hb hby d23_49) rfl ?_
    exact k
  obtain ⟨fs, hr, hrun, hended, hW, hsame⟩ := X_13.leave (v := some (.double (own_d3 m0 en0 m1 en1 m2 en2))) (fun h => by rw [Bd.returns] at h; cases h)
  refine ⟨_, _, ?_, hrun, hended, _, _, rfl, ?_, ⟨_, rfl⟩, hW, hsame.mono (by decide) (by decide)⟩
  · show Steps p.tables e below (T_13.setTop (mkF m 51 #[rv a0, rv a1, iv p2, rv cx, oD (own_d3 m0 en0 m1 en1 m2 en2), oS, iv 3] [(.double (own_d3 m0 en0 m1 en1 m2 en2))])) _
    jvm_step X_13.here [X_13.here.top, hx, (hb hby d23_51), X_13.method', Bd.returns, narrow]
    first | (intro acts; rw [hr _ acts rfl rfl rfl]) | rw [hr _ _ rfl rfl rfl]
    exact Steps.refl _
  · show Qdot Z a0 a1 p2 al ed ca0 ca1 ca2 ca3 ca4 cx kd kc km m0 m1 m2 en0 en1 en2 h0 n0 _ T_13.heap _
    rw [e_13]
    exact ⟨rfl, N_2, rfl⟩
theorem d27_0 : decode jdk_65_method_131_code 0 = .ok (.iload_n 1, 1) := by decide +kernel
theorem d27_1 : decode jdk_65_method_131_code 1 = .ok (.iload_n 0, 1) := by decide +kernel
theorem d27_2 : decode jdk_65_method_131_code 2 = .ok (.if_icmp .ge 35, 3) := by decide +kernel
theorem d27_37 : decode jdk_65_method_131_code 37 = .ok (.return_, 1) := by decide +kernel
theorem pn_27 : plainName "java/util/Arrays" = true := by first | (simp [plainName, overriddenIn]; done) | decide +kernel
theorem ef_ckl (m : MethodId)  : entryFrame m #[(.int 1), (.int 3)] 2 = mkF m 0 #[iv 1, iv 3] [] := by first | (simp [entryFrame, mkF, argsToLocals, Value.category]; done) | rfl
def Qckl (Z : State)  (h0 : Heap) (n0 : Nat) (v : Option Value) (h : Heap) (L : List Loc) : Prop := v = none ∧ Fr n0 L ∧ h = h0
theorem rmckl (l : Launch) (Z : State) (av0 : Array Value) (hw : ∀ d ∈ tables_1, d.before av0 Z = true) (ws : List Jvm.Cond)  (h0 : Heap) (n0 : Nat) (Z0 : n0 ≤ h0.size) :
    MetFree l own_m28 (head1 (Jvm.Cond.code own_m28 jdk_65_method_131_code 2 none :: ws) ({ frames := 0, cells := 0, slots := 0, locals := 0 } : Room)) (fun a U => a = #[(.int 1), (.int 3)] ∧ Z.Warmed39 U.vm ∧ U.heap = h0) (fun _ _ _ _ _ => True) (fun _ U o U' => ∃ v L, o = .returned v ∧ Qckl Z  h0 n0 v U'.heap L ∧ FrameEnd U o U' L ({ frames := 0, cells := 0, slots := 0, locals := 0 } : Room).cells ({ frames := 0, cells := 0, slots := 0, locals := 0 } : Room).slots) := by
  refine MetFree.of_bodySF (plainFor_of_name pn_27) hisR ?_
  intro p e s m args below meth c s₁ Bd hml0 hP hK
  obtain ⟨rfl, hZ, hh⟩ := hP
  have hx := Bd.exec
  have hby := Bd.bytes
  have hml : c.maxLocals = 2 := hml0
  have hown : s.vm.findClass "java/util/Arrays" = some m.cls := findClass_of_methodNamed Bd.named
  have X0 : Stand p l e ({ frames := 0, cells := 0, slots := 0, locals := 0 } : Room) s m #[(.int 1), (.int 3)] below meth c s₁ [] 0 0 := Stand.of_body Bd
  have e0 : s₁.heap = h0 := by rw [← hh, Bd.state]; rfl
  have N0 := Fr.nil n0
  have K0 : Keep h0 h0 [] := Keep.refl h0 []
  refine og (B := s₁.setTop (mkF m 0 #[iv 1, iv 3] [])) (fun t k => castTop (ef_ckl m ) k) ?_
  refine og (B := s₁.setTop (mkF m 2 #[iv 1, iv 3] [(.int 1), (.int 3)])) (fun t k => ?_) ?_
  · refine XS.iloadN X0.here hx rfl (hb hby d27_0) rfl ?_
    refine XS.iloadN X0.here hx rfl (hb hby d27_1) rfl ?_
    exact k
  refine og (B := s₁.setTop (mkF m 37 #[iv 1, iv 3] [])) (fun t k => ?_) ?_
  · refine XS.icmpYes X0.here hx rfl (pc0 := 2) (pc' := 37) rfl (hb hby d27_2) rfl (flt (by decide : ¬ ((3 : Int32) < (1 : Int32)))).2.1 (by decide) (by decide) ?_
    exact k
  obtain ⟨fs, hr, hrun, hended, hW, hsame⟩ := X0.leave (v := none) (fun _ => rfl)
  refine ⟨_, _, ?_, hrun, hended, _, _, rfl, ?_, ⟨_, rfl⟩, hW, hsame.mono (by decide) (by decide)⟩
  · show Steps p.tables e below (s₁.setTop (mkF m 37 #[iv 1, iv 3] [])) _
    exact X0.returnOut hx Bd.returns (hb hby d27_37) hr
  · show Qckl Z  h0 n0 _ s₁.heap _
    rw [e0]
    exact ⟨rfl, N0, rfl⟩
theorem d26_0 : decode jdk_65_method_145_code 0 = .ok (.iload_n 1, 1) := by decide +kernel
theorem d26_1 : decode jdk_65_method_145_code 1 = .ok (.iload_n 2, 1) := by decide +kernel
theorem d26_2 : decode jdk_65_method_145_code 2 = .ok (.invokestatic 343, 3) := by decide +kernel
theorem d26_5 : decode jdk_65_method_145_code 5 = .ok (.iload_n 2, 1) := by decide +kernel
theorem d26_6 : decode jdk_65_method_145_code 6 = .ok (.iload_n 1, 1) := by decide +kernel
theorem d26_7 : decode jdk_65_method_145_code 7 = .ok (.isub, 1) := by decide +kernel
theorem d26_8 : decode jdk_65_method_145_code 8 = .ok (.istore_n 3, 1) := by decide +kernel
theorem d26_9 : decode jdk_65_method_145_code 9 = .ok (.iload_n 3, 1) := by decide +kernel
theorem d26_10 : decode jdk_65_method_145_code 10 = .ok (.newarray .double, 2) := by decide +kernel
theorem d26_12 : decode jdk_65_method_145_code 12 = .ok (.astore 4, 2) := by decide +kernel
theorem d26_14 : decode jdk_65_method_145_code 14 = .ok (.aload_n 0, 1) := by decide +kernel
theorem d26_15 : decode jdk_65_method_145_code 15 = .ok (.iload_n 1, 1) := by decide +kernel
theorem d26_16 : decode jdk_65_method_145_code 16 = .ok (.aload 4, 2) := by decide +kernel
theorem d26_18 : decode jdk_65_method_145_code 18 = .ok (.iconst 0, 1) := by decide +kernel
theorem d26_19 : decode jdk_65_method_145_code 19 = .ok (.aload_n 0, 1) := by decide +kernel
theorem d26_20 : decode jdk_65_method_145_code 20 = .ok (.arraylength, 1) := by decide +kernel
theorem d26_21 : decode jdk_65_method_145_code 21 = .ok (.iload_n 1, 1) := by decide +kernel
theorem d26_22 : decode jdk_65_method_145_code 22 = .ok (.isub, 1) := by decide +kernel
theorem d26_23 : decode jdk_65_method_145_code 23 = .ok (.iload_n 3, 1) := by decide +kernel
theorem d26_24 : decode jdk_65_method_145_code 24 = .ok (.invokestatic 304, 3) := by decide +kernel
theorem d26_27 : decode jdk_65_method_145_code 27 = .ok (.invokestatic 150, 3) := by decide +kernel
theorem d26_30 : decode jdk_65_method_145_code 30 = .ok (.aload 4, 2) := by decide +kernel
theorem d26_32 : decode jdk_65_method_145_code 32 = .ok (.areturn, 1) := by decide +kernel
theorem pn_26 : plainName "java/util/Arrays" = true := by first | (simp [plainName, overriddenIn]; done) | decide +kernel
theorem ef_crd (m : MethodId) (a0 : Addr) : entryFrame m #[(.ref a0), (.int 1), (.int 3)] 5 = mkF m 0 #[rv a0, iv 1, iv 3, oU, oU] [] := by first | (simp [entryFrame, mkF, argsToLocals, Value.category]; done) | rfl
theorem pd_10 : parseMethodDescriptor "(II)V" = some ⟨[.int, .int], none⟩ := by decide +kernel
def Qcrd (Z : State) (a0 : Addr) (km : ClassId) (m0 : UInt64) (m1 : UInt64) (m2 : UInt64) (h0 : Heap) (n0 : Nat) (v : Option Value) (h : Heap) (L : List Loc) : Prop := ∃ (b : Addr) (kb : ClassId), v = some (.ref b) ∧ Fr n0 L ∧ Keep h0 h [] ∧ h0.size ≤ b ∧ Arv Z h b kb .double (2 : Int32) [(.double m1), (.double m2)] (.double 0)
theorem rmcrd (l : Launch) (Z : State) (av0 : Array Value) (hw : ∀ d ∈ tables_1, d.before av0 Z = true) (ws : List Jvm.Cond) (a0 : Addr) (km : ClassId) (m0 : UInt64) (m1 : UInt64) (m2 : UInt64) (h0 : Heap) (n0 : Nat) (Z0 : n0 ≤ h0.size) (VM_ : Arv Z h0 a0 km .double (3 : Int32) [(.double m0), (.double m1), (.double m2)] (.double 0)) :
    MetFree l own_m27 (head1 (Jvm.Cond.code own_m27 jdk_65_method_145_code 5 (some (.array .double)) :: ws) ({ frames := 1, cells := 1, slots := 2, locals := 18 } : Room)) (fun a U => a = #[(.ref a0), (.int 1), (.int 3)] ∧ Z.Warmed39 U.vm ∧ U.heap = h0) (fun _ _ _ _ _ => True) (fun _ U o U' => ∃ v L, o = .returned v ∧ Qcrd Z a0 km m0 m1 m2 h0 n0 v U'.heap L ∧ FrameEnd U o U' L ({ frames := 1, cells := 1, slots := 2, locals := 18 } : Room).cells ({ frames := 1, cells := 1, slots := 2, locals := 18 } : Room).slots) := by
  refine MetFree.of_bodySF (plainFor_of_name pn_26) hisR ?_
  intro p e s m args below meth c s₁ Bd hml0 hP hK
  obtain ⟨rfl, hZ, hh⟩ := hP
  have hx := Bd.exec
  have hby := Bd.bytes
  have hml : c.maxLocals = 5 := hml0
  have hown : s.vm.findClass "java/util/Arrays" = some m.cls := findClass_of_methodNamed Bd.named
  have X0 : Stand p l e ({ frames := 1, cells := 1, slots := 2, locals := 18 } : Room) s m #[(.ref a0), (.int 1), (.int 3)] below meth c s₁ [] 0 0 := Stand.of_body Bd
  have e0 : s₁.heap = h0 := by rw [← hh, Bd.state]; rfl
  have N0 := Fr.nil n0
  have K0 : Keep h0 h0 [] := Keep.refl h0 []
  refine og (B := s₁.setTop (mkF m 0 #[rv a0, iv 1, iv 3, oU, oU] [])) (fun t k => castTop (ef_crd m a0) k) ?_
  refine og (B := s₁.setTop (mkF m 2 #[rv a0, iv 1, iv 3, oU, oU] [(.int 3), (.int 1)])) (fun t k => ?_) ?_
  · refine XS.iloadN X0.here hx rfl (hb hby d26_0) rfl ?_
    refine XS.iloadN X0.here hx rfl (hb hby d26_1) rfl ?_
    exact k
  obtain ⟨_, _, ⟨T_1, L_1, k_1, n_1⟩, -, X_1, ⟨Lc_1, hQ_1, l_1, y_1, z_1⟩, st_1⟩ := Jvm.LawKit.callS X0 hx (y := own_m28) hown (mvT hZ (ow hw 170 rfl)) (mvT hZ (ow hw 171 rfl)) (mvT hZ (ow hw 165 rfl)) (mvT hZ (ow hw 172 rfl)) (by decide) (backOf (W := 0) (rmckl l Z av0 hw []   h0 n0 Z0 ) hZ (ow hw 172 rfl) (ow hw 165 rfl) (by decide) (by decide)) (g := (mkF m 2 #[rv a0, iv 1, iv 3, oU, oU] [(.int 3), (.int 1)])) rfl (by rw [hml]; rfl) (argsL := [(.int 1), (.int 3)]) (rest := []) (lenOf pd_10 rfl) rfl (by show 2 * 0 + _ ≤ _; exact Nat.le_of_eq rfl) (hb hby d26_2) (fun _ _ => ⟨rfl, e0, (by decide : 0 + 0 ≤ _), (by decide : 0 + 0 ≤ _)⟩)
  dsimp only [Pt.U, Pt.locs, Pt.cells, Pt.slots] at X_1 l_1 y_1 z_1 st_1 hQ_1
  subst l_1 y_1 z_1
  obtain ⟨rfl, N_1q, e_1⟩ := hQ_1
  have N_1 := Fr.app N0 N_1q
  refine og (fun t k => st_1 t k) ?_
  refine og (B := T_1.setTop (mkF m 10 #[rv a0, iv 1, iv 3, iv 2, oU] [(.int 2)])) (fun t k => ?_) ?_
  · refine XS.iloadN X_1.here hx rfl (hb hby d26_5) rfl ?_
    refine XS.iloadN X_1.here hx rfl (hb hby d26_6) rfl ?_
    refine XS.isub X_1.here hx rfl (hb hby d26_7) rfl ?_
    refine XS.istoreN X_1.here hx rfl (hb hby d26_8) rfl (l' := #[rv a0, iv 1, iv 3, iv 2, oU]) rfl ?_
    refine XS.iloadN X_1.here hx rfl (hb hby d26_9) rfl ?_
    exact k
  obtain ⟨T_2, h_2, k_2, X_2, e_2, E_2, A_2, Q_2, st_2⟩ := newPE X_1 hx hZ (ow hw 10 rfl) e_1 (g := (mkF m 10 #[rv a0, iv 1, iv 3, iv 2, oU] [(.int 2)])) rfl (hb hby d26_10) rfl (by decide) (cap := 2) (by decide) (by decide) (by decide) (by decide) (ad := "[D") (by decide)
  obtain ⟨b_2, g_2⟩ : ∃ z, z = h0.size := ⟨_, rfl⟩
  rw [← g_2] at A_2 Q_2 st_2
  have g_b_2 : n0 ≤ b_2 := Nat.le_trans Z0 (Nat.le_of_eq g_2.symm)
  have sz_b_2 : h0.size ≤ b_2 := Nat.le_trans K0.1 (Nat.le_of_eq g_2.symm)
  have lt_a0_b_2 : a0 < b_2 := Nat.lt_of_lt_of_le (VM_).lt (Nat.le_of_eq g_2.symm)
  have ne_a0_b_2 := Nat.ne_of_lt lt_a0_b_2
  have c1 := K0.ext E_2
  have c2 := VM_.ext E_2
  have Z0__2 : n0 ≤ h_2.size := Nat.le_trans Z0 E_2.1
  have V_b_2 : Arv Z h_2 b_2 k_2 .double (2 : Int32) [(.double 0), (.double 0)] (.double 0) := (Arv.new A_2 (by decide)).pad (pad_rep [] (.double 0) 2)
  refine og (fun t k => st_2 t k) ?_
  refine og (B := T_2.setTop (mkF m 20 #[rv a0, iv 1, iv 3, iv 2, rv b_2] [(.ref a0), (.int 0), (.ref b_2), (.int 1), (.ref a0)])) (fun t k => ?_) ?_
  · refine XS.astore X_2.here hx rfl (hb hby d26_12) rfl rfl (l' := #[rv a0, iv 1, iv 3, iv 2, rv b_2]) rfl ?_
    refine XS.aloadN X_2.here hx rfl (hb hby d26_14) rfl rfl ?_
    refine XS.iloadN X_2.here hx rfl (hb hby d26_15) rfl ?_
    refine XS.aload X_2.here hx rfl (hb hby d26_16) rfl rfl ?_
    refine XS.iconst X_2.here hx rfl (hb hby d26_18) ?_
    refine XS.aloadN X_2.here hx rfl (hb hby d26_19) rfl rfl ?_
    exact k
  obtain ⟨cl_3, Ar_3, -, S_3, M_3, -, -⟩ := id c2
  refine og (B := T_2.setTop (mkF m 21 #[rv a0, iv 1, iv 3, iv 2, rv b_2] [(.int 3), (.int 0), (.ref b_2), (.int 1), (.ref a0)])) (fun t k => X_2.arraylength hx (by rw [(e_2 : _ = _)]; exact Ar_3.1) (State.isArrayOf_alike hZ.alike Ar_3.2.1) (g := (mkF m 20 #[rv a0, iv 1, iv 3, iv 2, rv b_2] [(.ref a0), (.int 0), (.ref b_2), (.int 1), (.ref a0)])) rfl rfl (hb hby d26_20) t (by rw [len_of S_3 M_3]; exact k)) ?_
  refine og (B := T_2.setTop (mkF m 24 #[rv a0, iv 1, iv 3, iv 2, rv b_2] [(.int 2), (.int 2), (.int 0), (.ref b_2), (.int 1), (.ref a0)])) (fun t k => ?_) ?_
  · refine XS.iloadN X_2.here hx rfl (hb hby d26_21) rfl ?_
    refine XS.isub X_2.here hx rfl (hb hby d26_22) rfl ?_
    refine XS.iloadN X_2.here hx rfl (hb hby d26_23) rfl ?_
    exact k
  obtain ⟨_, _, ⟨T_4, L_4, k_4, n_4⟩, -, X_4, ⟨Lc_4, hQ_4, l_4, y_4, z_4⟩, st_4⟩ := Jvm.LawKit.callS X_2 hx (y := own_m2) hown (mvT hZ (ow hw 173 rfl)) (mvT hZ (ow hw 1 rfl)) (mvT hZ (ow hw 2 rfl)) (mvT hZ (ow hw 3 rfl)) (by decide) (backOf (W := 4) (rmmini l Z av0 hw [] (2 : Int32) (2 : Int32)  h_2 n0 Z0__2 ) hZ (ow hw 3 rfl) (ow hw 2 rfl) (by decide) (by decide)) (g := (mkF m 24 #[rv a0, iv 1, iv 3, iv 2, rv b_2] [(.int 2), (.int 2), (.int 0), (.ref b_2), (.int 1), (.ref a0)])) rfl (by rw [hml]; rfl) (argsL := [(.int 2), (.int 2)]) (rest := [(.int 0), (.ref b_2), (.int 1), (.ref a0)]) (lenOf pd_1 rfl) rfl (by show 2 * 0 + _ ≤ _; exact Nat.le_of_eq rfl) (hb hby d26_24) (fun _ _ => ⟨rfl, e_2, (by decide : 1 + 0 ≤ _), (by decide : 2 + 0 ≤ _)⟩)
  dsimp only [Pt.U, Pt.locs, Pt.cells, Pt.slots] at X_4 l_4 y_4 z_4 st_4 hQ_4
  subst l_4 y_4 z_4
  obtain ⟨hv_4, N_4q, e_4⟩ := hQ_4
  have N_4 := Fr.app N_1 N_4q
  rw [show own_mini (2 : Int32) (2 : Int32) = (2 : Int32) from by decide] at hv_4
  subst hv_4
  refine og (fun t k => st_4 t k) ?_
  obtain ⟨T_5, h_5, L_5, X_5, e_5, N_5, K_5, V_5, st_5⟩ := cpA X_4 hx hZ hown (ow hw 174 rfl) (ow hw 177 rfl) (ow hw 175 rfl) (ow hw 176 rfl) e_4 c2 V_b_2 (Or.inl ⟨rfl, rfl⟩) (by decide) (by decide) (by decide) (by decide) (by decide) rfl (by decide) N_4 g_b_2 (g := (mkF m 27 #[rv a0, iv 1, iv 3, iv 2, rv b_2] [(.int 2), (.int 0), (.ref b_2), (.int 1), (.ref a0)])) rfl (by rw [hml]; rfl) rfl (hb hby d26_27) (by decide) (W := 0) (by show 2 * 0 + _ ≤ _; exact Nat.le_of_eq rfl) (by decide)
  have c3 := c1.trans K_5 (allS (Or.inr sz_b_2) all0)
  have c4 := c2.keep K_5 (ninS ne_a0_b_2 nin0)
  have c5 := Q_2.keep K_5
  have Z0__5 : n0 ≤ h_5.size := Nat.le_trans Z0__2 K_5.1
  have V_b_2__5 : Arv Z h_5 b_2 k_2 .double (2 : Int32) [(.double m1), (.double m2)] (.double 0) := V_5
  refine og (fun t k => st_5 t k) ?_
  refine og (B := T_5.setTop (mkF m 32 #[rv a0, iv 1, iv 3, iv 2, rv b_2] [(.ref b_2)])) (fun t k => ?_) ?_
  · refine XS.aload X_5.here hx rfl (hb hby d26_30) rfl rfl ?_
    exact k
  obtain ⟨fs, hr, hrun, hended, hW, hsame⟩ := X_5.leave (v := some (.ref b_2)) (fun h => by rw [Bd.returns] at h; cases h)
  refine ⟨_, _, ?_, hrun, hended, _, _, rfl, ?_, ⟨_, rfl⟩, hW, hsame.mono (by decide) (by decide)⟩
  · show Steps p.tables e below (T_5.setTop (mkF m 32 #[rv a0, iv 1, iv 3, iv 2, rv b_2] [(.ref b_2)])) _
    jvm_step X_5.here [X_5.here.top, hx, (hb hby d26_32), X_5.method', Bd.returns, Value.isRef, FieldType.isReference]
    first | (intro acts; rw [hr _ acts rfl rfl rfl]) | rw [hr _ _ rfl rfl rfl]
    exact Steps.refl _
  · show Qcrd Z a0 km m0 m1 m2 h0 n0 _ T_5.heap _
    rw [e_5]
    exact ⟨b_2, k_2, rfl, N_5, c3, sz_b_2, V_b_2__5⟩
theorem d25_0 : decode jdk_65_method_144_code 0 = .ok (.iload_n 1, 1) := by decide +kernel
theorem d25_1 : decode jdk_65_method_144_code 1 = .ok (.ifCond .ne 9, 3) := by decide +kernel
theorem d25_10 : decode jdk_65_method_144_code 10 = .ok (.aload_n 0, 1) := by decide +kernel
theorem d25_11 : decode jdk_65_method_144_code 11 = .ok (.iload_n 1, 1) := by decide +kernel
theorem d25_12 : decode jdk_65_method_144_code 12 = .ok (.iload_n 2, 1) := by decide +kernel
theorem d25_13 : decode jdk_65_method_144_code 13 = .ok (.invokestatic 367, 3) := by decide +kernel
theorem d25_16 : decode jdk_65_method_144_code 16 = .ok (.areturn, 1) := by decide +kernel
theorem pn_25 : plainName "java/util/Arrays" = true := by first | (simp [plainName, overriddenIn]; done) | decide +kernel
theorem ef_cor (m : MethodId) (a0 : Addr) : entryFrame m #[(.ref a0), (.int 1), (.int 3)] 3 = mkF m 0 #[rv a0, iv 1, iv 3] [] := by first | (simp [entryFrame, mkF, argsToLocals, Value.category]; done) | rfl
theorem pd_11 : parseMethodDescriptor "([DII)[D" = some ⟨[(.array .double), .int, .int], some (.array .double)⟩ := by decide +kernel
def Qcor (Z : State) (a0 : Addr) (km : ClassId) (m0 : UInt64) (m1 : UInt64) (m2 : UInt64) (h0 : Heap) (n0 : Nat) (v : Option Value) (h : Heap) (L : List Loc) : Prop := ∃ (b : Addr) (kb : ClassId), v = some (.ref b) ∧ Fr n0 L ∧ Keep h0 h [] ∧ h0.size ≤ b ∧ Arv Z h b kb .double (2 : Int32) [(.double m1), (.double m2)] (.double 0)
theorem rmcor (l : Launch) (Z : State) (av0 : Array Value) (hw : ∀ d ∈ tables_1, d.before av0 Z = true) (ws : List Jvm.Cond) (a0 : Addr) (km : ClassId) (m0 : UInt64) (m1 : UInt64) (m2 : UInt64) (h0 : Heap) (n0 : Nat) (Z0 : n0 ≤ h0.size) (VM_ : Arv Z h0 a0 km .double (3 : Int32) [(.double m0), (.double m1), (.double m2)] (.double 0)) :
    MetFree l own_m26 (head1 (Jvm.Cond.code own_m26 jdk_65_method_144_code 3 (some (.array .double)) :: ws) ({ frames := 2, cells := 1, slots := 2, locals := 34 } : Room)) (fun a U => a = #[(.ref a0), (.int 1), (.int 3)] ∧ Z.Warmed39 U.vm ∧ U.heap = h0) (fun _ _ _ _ _ => True) (fun _ U o U' => ∃ v L, o = .returned v ∧ Qcor Z a0 km m0 m1 m2 h0 n0 v U'.heap L ∧ FrameEnd U o U' L ({ frames := 2, cells := 1, slots := 2, locals := 34 } : Room).cells ({ frames := 2, cells := 1, slots := 2, locals := 34 } : Room).slots) := by
  refine MetFree.of_bodySF (plainFor_of_name pn_25) hisR ?_
  intro p e s m args below meth c s₁ Bd hml0 hP hK
  obtain ⟨rfl, hZ, hh⟩ := hP
  have hx := Bd.exec
  have hby := Bd.bytes
  have hml : c.maxLocals = 3 := hml0
  have hown : s.vm.findClass "java/util/Arrays" = some m.cls := findClass_of_methodNamed Bd.named
  have X0 : Stand p l e ({ frames := 2, cells := 1, slots := 2, locals := 34 } : Room) s m #[(.ref a0), (.int 1), (.int 3)] below meth c s₁ [] 0 0 := Stand.of_body Bd
  have e0 : s₁.heap = h0 := by rw [← hh, Bd.state]; rfl
  have N0 := Fr.nil n0
  have K0 : Keep h0 h0 [] := Keep.refl h0 []
  refine og (B := s₁.setTop (mkF m 0 #[rv a0, iv 1, iv 3] [])) (fun t k => castTop (ef_cor m a0) k) ?_
  refine og (B := s₁.setTop (mkF m 1 #[rv a0, iv 1, iv 3] [(.int 1)])) (fun t k => ?_) ?_
  · refine XS.iloadN X0.here hx rfl (hb hby d25_0) rfl ?_
    exact k
  refine og (B := s₁.setTop (mkF m 10 #[rv a0, iv 1, iv 3] [])) (fun t k => ?_) ?_
  · refine XS.ifYes X0.here hx rfl (pc0 := 1) (pc' := 10) rfl (hb hby d25_1) rfl ((if0 _ _).trans (feq (by decide : ¬ ((1 : Int32) = (0 : Int32)))).2) (by decide) (by decide) ?_
    exact k
  refine og (B := s₁.setTop (mkF m 13 #[rv a0, iv 1, iv 3] [(.int 3), (.int 1), (.ref a0)])) (fun t k => ?_) ?_
  · refine XS.aloadN X0.here hx rfl (hb hby d25_10) rfl rfl ?_
    refine XS.iloadN X0.here hx rfl (hb hby d25_11) rfl ?_
    refine XS.iloadN X0.here hx rfl (hb hby d25_12) rfl ?_
    exact k
  have kk_1 := K0
  obtain ⟨_, _, ⟨T_1, L_1, k_1, n_1⟩, -, X_1, ⟨Lc_1, hQ_1, l_1, y_1, z_1⟩, st_1⟩ := Jvm.LawKit.callS X0 hx (y := own_m27) hown (mvT hZ (ow hw 167 rfl)) (mvT hZ (ow hw 168 rfl)) (mvT hZ (ow hw 165 rfl)) (mvT hZ (ow hw 169 rfl)) (by decide) (backOf (W := 0) (rmcrd l Z av0 hw [] a0 km m0 m1 m2 h0 n0 Z0 VM_) hZ (ow hw 169 rfl) (ow hw 165 rfl) (by decide) (by decide)) (g := (mkF m 13 #[rv a0, iv 1, iv 3] [(.int 3), (.int 1), (.ref a0)])) rfl (by rw [hml]; rfl) (argsL := [(.ref a0), (.int 1), (.int 3)]) (rest := []) (lenOf pd_11 rfl) rfl (by show 2 * 0 + _ ≤ _; exact Nat.le_of_eq rfl) (hb hby d25_13) (fun _ _ => ⟨rfl, e0, (by decide : 0 + 1 ≤ _), (by decide : 0 + 2 ≤ _)⟩)
  dsimp only [Pt.U, Pt.locs, Pt.cells, Pt.slots] at X_1 l_1 y_1 z_1 st_1 hQ_1
  subst l_1 y_1 z_1
  obtain ⟨b_1, kb_1, rfl, N_1q, K_1, szq_1, VN_1⟩ := hQ_1
  have N_1 := Fr.app N0 N_1q
  have c1 := K0.trans K_1 all0
  have c2 := VM_.keep K_1 nin0
  have Z0__1 : n0 ≤ T_1.heap.size := Nat.le_trans Z0 K_1.1
  have sz_b_1 : h0.size ≤ b_1 := Nat.le_trans kk_1.1 szq_1
  refine og (fun t k => st_1 t k) ?_
  obtain ⟨fs, hr, hrun, hended, hW, hsame⟩ := X_1.leave (v := some (.ref b_1)) (fun h => by rw [Bd.returns] at h; cases h)
  refine ⟨_, _, ?_, hrun, hended, _, _, rfl, ?_, ⟨_, rfl⟩, hW, hsame.mono (by decide) (by decide)⟩
  · show Steps p.tables e below (T_1.setTop (mkF m 16 #[rv a0, iv 1, iv 3] [(.ref b_1)])) _
    jvm_step X_1.here [X_1.here.top, hx, (hb hby d25_16), X_1.method', Bd.returns, Value.isRef, FieldType.isReference]
    first | (intro acts; rw [hr _ acts rfl rfl rfl]) | rw [hr _ _ rfl rfl rfl]
    exact Steps.refl _
  · show Qcor Z a0 km m0 m1 m2 h0 n0 _ T_1.heap _
    exact ⟨b_1, kb_1, rfl, N_1, c1, sz_b_1, VN_1⟩
theorem d24_0 : decode prog_36_method_5_code 0 = .ok (.aload_n 0, 1) := by decide +kernel
theorem d24_1 : decode prog_36_method_5_code 1 = .ok (.getfield 65, 3) := by decide +kernel
theorem d24_4 : decode prog_36_method_5_code 4 = .ok (.iconst 1, 1) := by decide +kernel
theorem d24_5 : decode prog_36_method_5_code 5 = .ok (.aload_n 0, 1) := by decide +kernel
theorem d24_6 : decode prog_36_method_5_code 6 = .ok (.getfield 28, 3) := by decide +kernel
theorem d24_9 : decode prog_36_method_5_code 9 = .ok (.invokestatic 108, 3) := by decide +kernel
theorem d24_12 : decode prog_36_method_5_code 12 = .ok (.areturn, 1) := by decide +kernel
theorem pn_24 : plainName "com/example/ballast/ballast/placement/CuttingPlanes" = true := by first | (simp [plainName, overriddenIn]; done) | decide +kernel
theorem ef_pnt (m : MethodId) (a0 : Addr) : entryFrame m #[(.ref a0)] 1 = mkF m 0 #[rv a0] [] := by first | (simp [entryFrame, mkF, argsToLocals, Value.category]; done) | rfl
def Qpnt (Z : State) (a0 : Addr) (mu : Addr) (km : ClassId) (m0 : UInt64) (m1 : UInt64) (m2 : UInt64) (h0 : Heap) (n0 : Nat) (v : Option Value) (h : Heap) (L : List Loc) : Prop := ∃ (b : Addr) (kb : ClassId), v = some (.ref b) ∧ Fr n0 L ∧ Keep h0 h [] ∧ h0.size ≤ b ∧ Arv Z h b kb .double (2 : Int32) [(.double m1), (.double m2)] (.double 0)
theorem rmpnt (l : Launch) (Z : State) (av0 : Array Value) (hw : ∀ d ∈ tables_1, d.before av0 Z = true) (ws : List Jvm.Cond) (a0 : Addr) (mu : Addr) (km : ClassId) (m0 : UInt64) (m1 : UInt64) (m2 : UInt64) (h0 : Heap) (n0 : Nat) (Z0 : n0 ≤ h0.size) (F_multipliers_a0 : Fld Z h0 a0 "com/example/ballast/ballast/placement/CuttingPlanes" "multipliers" "[D" (.ref mu)) (F_rows_a0 : Fld Z h0 a0 "com/example/ballast/ballast/placement/CuttingPlanes" "rows" "I" (.int 3)) (VM_ : Arv Z h0 mu km .double (3 : Int32) [(.double m0), (.double m1), (.double m2)] (.double 0)) :
    MetFree l own_m25 (head1 (Jvm.Cond.code own_m25 prog_36_method_5_code 1 (some (.array .double)) :: ws) ({ frames := 3, cells := 1, slots := 2, locals := 48 } : Room)) (fun a U => a = #[(.ref a0)] ∧ Z.Warmed39 U.vm ∧ U.heap = h0) (fun _ _ _ _ _ => True) (fun _ U o U' => ∃ v L, o = .returned v ∧ Qpnt Z a0 mu km m0 m1 m2 h0 n0 v U'.heap L ∧ FrameEnd U o U' L ({ frames := 3, cells := 1, slots := 2, locals := 48 } : Room).cells ({ frames := 3, cells := 1, slots := 2, locals := 48 } : Room).slots) := by
  refine MetFree.of_bodySF (plainFor_of_name pn_24) hisR ?_
  intro p e s m args below meth c s₁ Bd hml0 hP hK
  obtain ⟨rfl, hZ, hh⟩ := hP
  have hx := Bd.exec
  have hby := Bd.bytes
  have hml : c.maxLocals = 1 := hml0
  have hown : s.vm.findClass "com/example/ballast/ballast/placement/CuttingPlanes" = some m.cls := findClass_of_methodNamed Bd.named
  have X0 : Stand p l e ({ frames := 3, cells := 1, slots := 2, locals := 48 } : Room) s m #[(.ref a0)] below meth c s₁ [] 0 0 := Stand.of_body Bd
  have e0 : s₁.heap = h0 := by rw [← hh, Bd.state]; rfl
  have N0 := Fr.nil n0
  have K0 : Keep h0 h0 [] := Keep.refl h0 []
  refine og (B := s₁.setTop (mkF m 0 #[rv a0] [])) (fun t k => castTop (ef_pnt m a0) k) ?_
  refine og (B := s₁.setTop (mkF m 1 #[rv a0] [(.ref a0)])) (fun t k => ?_) ?_
  · refine XS.aloadN X0.here hx rfl (hb hby d24_0) rfl rfl ?_
    exact k
  obtain ⟨T_1, X_1, e_1, st_1⟩ := getF X0 hx hZ hown (host := "") (Or.inl (ow hw 151 rfl)) Via.refl e0 F_multipliers_a0 (g := (mkF m 1 #[rv a0] [(.ref a0)])) rfl rfl (hb hby d24_1)
  refine og (fun t k => st_1 t k) ?_
  refine og (B := T_1.setTop (mkF m 6 #[rv a0] [(.ref a0), (.int 1), (.ref mu)])) (fun t k => ?_) ?_
  · refine XS.iconst X_1.here hx rfl (hb hby d24_4) ?_
    refine XS.aloadN X_1.here hx rfl (hb hby d24_5) rfl rfl ?_
    exact k
  obtain ⟨T_2, X_2, e_2, st_2⟩ := getF X_1 hx hZ hown (host := "") (Or.inl (ow hw 50 rfl)) Via.refl e_1 F_rows_a0 (g := (mkF m 6 #[rv a0] [(.ref a0), (.int 1), (.ref mu)])) rfl rfl (hb hby d24_6)
  refine og (fun t k => st_2 t k) ?_
  have kk_3 := K0
  obtain ⟨_, _, ⟨T_3, L_3, k_3, n_3⟩, -, X_3, ⟨Lc_3, hQ_3, l_3, y_3, z_3⟩, st_3⟩ := Jvm.LawKit.callS X_2 hx (y := own_m26) hown (mvT hZ (ow hw 163 rfl)) (mvT hZ (ow hw 164 rfl)) (mvT hZ (ow hw 165 rfl)) (mvT hZ (ow hw 166 rfl)) (by decide) (backOf (W := 0) (rmcor l Z av0 hw [] mu km m0 m1 m2 h0 n0 Z0 VM_) hZ (ow hw 166 rfl) (ow hw 165 rfl) (by decide) (by decide)) (g := (mkF m 9 #[rv a0] [(.int 3), (.int 1), (.ref mu)])) rfl (by rw [hml]; rfl) (argsL := [(.ref mu), (.int 1), (.int 3)]) (rest := []) (lenOf pd_11 rfl) rfl (by show 2 * 0 + _ ≤ _; exact Nat.le_of_eq rfl) (hb hby d24_9) (fun _ _ => ⟨rfl, e_2, (by decide : 0 + 1 ≤ _), (by decide : 0 + 2 ≤ _)⟩)
  dsimp only [Pt.U, Pt.locs, Pt.cells, Pt.slots] at X_3 l_3 y_3 z_3 st_3 hQ_3
  subst l_3 y_3 z_3
  obtain ⟨b_3, kb_3, rfl, N_3q, K_3, szq_3, VN_3⟩ := hQ_3
  have N_3 := Fr.app N0 N_3q
  have c1 := K0.trans K_3 all0
  have c2 := F_multipliers_a0.keep K_3 nin0
  have c3 := F_rows_a0.keep K_3 nin0
  have c4 := VM_.keep K_3 nin0
  have Z0__3 : n0 ≤ T_3.heap.size := Nat.le_trans Z0 K_3.1
  have sz_b_3 : h0.size ≤ b_3 := Nat.le_trans kk_3.1 szq_3
  refine og (fun t k => st_3 t k) ?_
  obtain ⟨fs, hr, hrun, hended, hW, hsame⟩ := X_3.leave (v := some (.ref b_3)) (fun h => by rw [Bd.returns] at h; cases h)
  refine ⟨_, _, ?_, hrun, hended, _, _, rfl, ?_, ⟨_, rfl⟩, hW, hsame.mono (by decide) (by decide)⟩
  · show Steps p.tables e below (T_3.setTop (mkF m 12 #[rv a0] [(.ref b_3)])) _
    jvm_step X_3.here [X_3.here.top, hx, (hb hby d24_12), X_3.method', Bd.returns, Value.isRef, FieldType.isReference]
    first | (intro acts; rw [hr _ acts rfl rfl rfl]) | rw [hr _ _ rfl rfl rfl]
    exact Steps.refl _
  · show Qpnt Z a0 mu km m0 m1 m2 h0 n0 _ T_3.heap _
    exact ⟨b_3, kb_3, rfl, N_3, c1, sz_b_3, VN_3⟩
theorem d28_0 : decode method_3_code 0 = .ok (.iload_n 2, 1) := by decide +kernel
theorem d28_1 : decode method_3_code 1 = .ok (.ifCond .le 15, 3) := by decide +kernel
theorem d28_4 : decode method_3_code 4 = .ok (.dload_n 0, 1) := by decide +kernel
theorem d28_5 : decode method_3_code 5 = .ok (.dload_n 3, 1) := by decide +kernel
theorem d28_6 : decode method_3_code 6 = .ok (.dcmp .l, 1) := by decide +kernel
theorem d28_7 : decode method_3_code 7 = .ok (.ifCond .ne 7, 3) := by decide +kernel
theorem d28_10 : decode method_3_code 10 = .ok (.iconst 1, 1) := by decide +kernel
theorem d28_11 : decode method_3_code 11 = .ok (.goto 4, 3) := by decide +kernel
theorem d28_14 : decode method_3_code 14 = .ok (.iconst 0, 1) := by decide +kernel
theorem d28_15 : decode method_3_code 15 = .ok (.ireturn, 1) := by decide +kernel
theorem d28_16 : decode method_3_code 16 = .ok (.iload_n 2, 1) := by decide +kernel
theorem d28_17 : decode method_3_code 17 = .ok (.ifCond .ge 16, 3) := by decide +kernel
theorem d28_20 : decode method_3_code 20 = .ok (.dload_n 0, 1) := by decide +kernel
theorem d28_21 : decode method_3_code 21 = .ok (.dload 5, 2) := by decide +kernel
theorem d28_23 : decode method_3_code 23 = .ok (.dcmp .l, 1) := by decide +kernel
theorem d28_24 : decode method_3_code 24 = .ok (.ifCond .ne 7, 3) := by decide +kernel
theorem d28_27 : decode method_3_code 27 = .ok (.iconst 1, 1) := by decide +kernel
theorem d28_28 : decode method_3_code 28 = .ok (.goto 4, 3) := by decide +kernel
theorem d28_31 : decode method_3_code 31 = .ok (.iconst 0, 1) := by decide +kernel
theorem d28_32 : decode method_3_code 32 = .ok (.ireturn, 1) := by decide +kernel
theorem d28_33 : decode method_3_code 33 = .ok (.dload_n 0, 1) := by decide +kernel
theorem d28_34 : decode method_3_code 34 = .ok (.dload_n 3, 1) := by decide +kernel
theorem d28_35 : decode method_3_code 35 = .ok (.dcmp .l, 1) := by decide +kernel
theorem d28_36 : decode method_3_code 36 = .ok (.ifCond .eq 10, 3) := by decide +kernel
theorem d28_39 : decode method_3_code 39 = .ok (.dload_n 0, 1) := by decide +kernel
theorem d28_40 : decode method_3_code 40 = .ok (.dload 5, 2) := by decide +kernel
theorem d28_42 : decode method_3_code 42 = .ok (.dcmp .l, 1) := by decide +kernel
theorem d28_43 : decode method_3_code 43 = .ok (.ifCond .ne 7, 3) := by decide +kernel
theorem d28_46 : decode method_3_code 46 = .ok (.iconst 1, 1) := by decide +kernel
theorem d28_47 : decode method_3_code 47 = .ok (.goto 4, 3) := by decide +kernel
theorem d28_50 : decode method_3_code 50 = .ok (.iconst 0, 1) := by decide +kernel
theorem d28_51 : decode method_3_code 51 = .ok (.ireturn, 1) := by decide +kernel
theorem pn_28 : plainName "com/example/ballast/ballast/placement/CuttingPlanesMoveWallsPinLaw" = true := by first | (simp [plainName, overriddenIn]; done) | decide +kernel
theorem ef_aw (m : MethodId) (x0 : UInt64) (p1 : Int32) (x2 : UInt64) (x3 : UInt64) : entryFrame m #[(.double x0), (.int p1), (.double x2), (.double x3)] 7 = mkF m 0 #[oD x0, oS, iv p1, oD x2, oS, oD x3, oS] [] := by first | (simp [entryFrame, mkF, argsToLocals, Value.category]; done) | rfl
def own_aw (x0 : UInt64) (p1 : Int32) (x2 x3 : UInt64) : Int32 := (if (0 : Int32) < p1 then (if (cmpValue (FP.dcmp x0 x2) .l) = (0 : Int32) then (1 : Int32) else (0 : Int32)) else (if p1 < (0 : Int32) then (if (cmpValue (FP.dcmp x0 x3) .l) = (0 : Int32) then (1 : Int32) else (0 : Int32)) else (if (cmpValue (FP.dcmp x0 x2) .l) = (0 : Int32) then (1 : Int32) else (if (cmpValue (FP.dcmp x0 x3) .l) = (0 : Int32) then (1 : Int32) else (0 : Int32)))))
def Qaw (Z : State) (x0 : UInt64) (p1 : Int32) (x2 : UInt64) (x3 : UInt64) (h0 : Heap) (n0 : Nat) (v : Option Value) (h : Heap) (L : List Loc) : Prop := v = some (.int (own_aw x0 p1 x2 x3)) ∧ Fr n0 L ∧ h = h0
theorem rmaw (l : Launch) (Z : State) (av0 : Array Value) (hw : ∀ d ∈ tables_1, d.before av0 Z = true) (ws : List Jvm.Cond) (x0 : UInt64) (p1 : Int32) (x2 : UInt64) (x3 : UInt64) (h0 : Heap) (n0 : Nat) (Z0 : n0 ≤ h0.size) :
    MetFree l own_m29 (head1 (Jvm.Cond.code own_m29 method_3_code 7 (some .boolean) :: ws) ({ frames := 0, cells := 0, slots := 0, locals := 0 } : Room)) (fun a U => a = #[(.double x0), (.int p1), (.double x2), (.double x3)] ∧ Z.Warmed39 U.vm ∧ U.heap = h0) (fun _ _ _ _ _ => True) (fun _ U o U' => ∃ v L, o = .returned v ∧ Qaw Z x0 p1 x2 x3 h0 n0 v U'.heap L ∧ FrameEnd U o U' L ({ frames := 0, cells := 0, slots := 0, locals := 0 } : Room).cells ({ frames := 0, cells := 0, slots := 0, locals := 0 } : Room).slots) := by
  refine MetFree.of_bodySF (plainFor_of_name pn_28) hisR ?_
  intro p e s m args below meth c s₁ Bd hml0 hP hK
  obtain ⟨rfl, hZ, hh⟩ := hP
  have hx := Bd.exec
  have hby := Bd.bytes
  have hml : c.maxLocals = 7 := hml0
  have hown : s.vm.findClass "com/example/ballast/ballast/placement/CuttingPlanesMoveWallsPinLaw" = some m.cls := findClass_of_methodNamed Bd.named
  have X0 : Stand p l e ({ frames := 0, cells := 0, slots := 0, locals := 0 } : Room) s m #[(.double x0), (.int p1), (.double x2), (.double x3)] below meth c s₁ [] 0 0 := Stand.of_body Bd
  have e0 : s₁.heap = h0 := by rw [← hh, Bd.state]; rfl
  have N0 := Fr.nil n0
  have K0 : Keep h0 h0 [] := Keep.refl h0 []
  refine og (B := s₁.setTop (mkF m 0 #[oD x0, oS, iv p1, oD x2, oS, oD x3, oS] [])) (fun t k => castTop (ef_aw m x0 p1 x2 x3) k) ?_
  refine og (B := s₁.setTop (mkF m 1 #[oD x0, oS, iv p1, oD x2, oS, oD x3, oS] [(.int p1)])) (fun t k => ?_) ?_
  · refine XS.iloadN X0.here hx rfl (hb hby d28_0) rfl ?_
    exact k
  by_cases hc1 : (0 : Int32) < p1
  · refine og (B := s₁.setTop (mkF m 4 #[oD x0, oS, iv p1, oD x2, oS, oD x3, oS] [])) (fun t k => ?_) ?_
    · refine XS.ifNo X0.here hx rfl (hb hby d28_1) rfl ((if0 _ _).trans (tlt hc1).2.2.2) ?_
      exact k
    refine og (B := s₁.setTop (mkF m 7 #[oD x0, oS, iv p1, oD x2, oS, oD x3, oS] [(.int (cmpValue (FP.dcmp x0 x2) .l))])) (fun t k => ?_) ?_
    · refine XS.dloadN X0.here hx rfl (hb hby d28_4) rfl ?_
      refine XS.dloadN X0.here hx rfl (hb hby d28_5) rfl ?_
      refine XS.dcmpS X0.here hx rfl (hb hby d28_6) rfl rfl ?_
      exact k
    by_cases hc7 : (cmpValue (FP.dcmp x0 x2) .l) = (0 : Int32)
    · refine og (B := s₁.setTop (mkF m 10 #[oD x0, oS, iv p1, oD x2, oS, oD x3, oS] [])) (fun t k => ?_) ?_
      · refine XS.ifNo X0.here hx rfl (hb hby d28_7) rfl ((if0 _ _).trans (teq hc7).2) ?_
        exact k
      refine og (B := s₁.setTop (mkF m 15 #[oD x0, oS, iv p1, oD x2, oS, oD x3, oS] [(.int 1)])) (fun t k => ?_) ?_
      · refine XS.iconst X0.here hx rfl (hb hby d28_10) ?_
        refine XS.goto X0.here hx rfl (pc0 := 11) (pc' := 15) rfl (hb hby d28_11) (by decide) (by decide) ?_
        exact k
      obtain ⟨fs, hr, hrun, hended, hW, hsame⟩ := X0.leave (v := some (.int 1)) (fun h => by rw [Bd.returns] at h; cases h)
      refine ⟨_, _, ?_, hrun, hended, _, _, rfl, ?_, ⟨_, rfl⟩, hW, hsame.mono (by decide) (by decide)⟩
      · show Steps p.tables e below (s₁.setTop (mkF m 15 #[oD x0, oS, iv p1, oD x2, oS, oD x3, oS] [(.int 1)])) _
        exact retN X0 hx (t := .boolean) Bd.returns (by simp) (hb hby d28_15) hr
      · show Qaw Z x0 p1 x2 x3 h0 n0 _ s₁.heap _
        rw [e0]
        exact ⟨by simp only [own_aw, if_pos hc1, if_pos hc7], N0, rfl⟩
    · refine og (B := s₁.setTop (mkF m 14 #[oD x0, oS, iv p1, oD x2, oS, oD x3, oS] [])) (fun t k => ?_) ?_
      · refine XS.ifYes X0.here hx rfl (pc0 := 7) (pc' := 14) rfl (hb hby d28_7) rfl ((if0 _ _).trans (feq hc7).2) (by decide) (by decide) ?_
        exact k
      refine og (B := s₁.setTop (mkF m 15 #[oD x0, oS, iv p1, oD x2, oS, oD x3, oS] [(.int 0)])) (fun t k => ?_) ?_
      · refine XS.iconst X0.here hx rfl (hb hby d28_14) ?_
        exact k
      obtain ⟨fs, hr, hrun, hended, hW, hsame⟩ := X0.leave (v := some (.int 0)) (fun h => by rw [Bd.returns] at h; cases h)
      refine ⟨_, _, ?_, hrun, hended, _, _, rfl, ?_, ⟨_, rfl⟩, hW, hsame.mono (by decide) (by decide)⟩
      · show Steps p.tables e below (s₁.setTop (mkF m 15 #[oD x0, oS, iv p1, oD x2, oS, oD x3, oS] [(.int 0)])) _
        exact retN X0 hx (t := .boolean) Bd.returns (by simp) (hb hby d28_15) hr
      · show Qaw Z x0 p1 x2 x3 h0 n0 _ s₁.heap _
        rw [e0]
        exact ⟨by simp only [own_aw, if_pos hc1, if_neg hc7], N0, rfl⟩
  · refine og (B := s₁.setTop (mkF m 16 #[oD x0, oS, iv p1, oD x2, oS, oD x3, oS] [])) (fun t k => ?_) ?_
    · refine XS.ifYes X0.here hx rfl (pc0 := 1) (pc' := 16) rfl (hb hby d28_1) rfl ((if0 _ _).trans (flt hc1).2.2.2) (by decide) (by decide) ?_
      exact k
    refine og (B := s₁.setTop (mkF m 17 #[oD x0, oS, iv p1, oD x2, oS, oD x3, oS] [(.int p1)])) (fun t k => ?_) ?_
    · refine XS.iloadN X0.here hx rfl (hb hby d28_16) rfl ?_
      exact k
    by_cases hc17 : p1 < (0 : Int32)
    · refine og (B := s₁.setTop (mkF m 20 #[oD x0, oS, iv p1, oD x2, oS, oD x3, oS] [])) (fun t k => ?_) ?_
      · refine XS.ifNo X0.here hx rfl (hb hby d28_17) rfl ((if0 _ _).trans (tlt hc17).2.1) ?_
        exact k
      refine og (B := s₁.setTop (mkF m 24 #[oD x0, oS, iv p1, oD x2, oS, oD x3, oS] [(.int (cmpValue (FP.dcmp x0 x3) .l))])) (fun t k => ?_) ?_
      · refine XS.dloadN X0.here hx rfl (hb hby d28_20) rfl ?_
        refine XS.dload X0.here hx rfl (hb hby d28_21) rfl ?_
        refine XS.dcmpS X0.here hx rfl (hb hby d28_23) rfl rfl ?_
        exact k
      by_cases hc24 : (cmpValue (FP.dcmp x0 x3) .l) = (0 : Int32)
      · refine og (B := s₁.setTop (mkF m 27 #[oD x0, oS, iv p1, oD x2, oS, oD x3, oS] [])) (fun t k => ?_) ?_
        · refine XS.ifNo X0.here hx rfl (hb hby d28_24) rfl ((if0 _ _).trans (teq hc24).2) ?_
          exact k
        refine og (B := s₁.setTop (mkF m 32 #[oD x0, oS, iv p1, oD x2, oS, oD x3, oS] [(.int 1)])) (fun t k => ?_) ?_
        · refine XS.iconst X0.here hx rfl (hb hby d28_27) ?_
          refine XS.goto X0.here hx rfl (pc0 := 28) (pc' := 32) rfl (hb hby d28_28) (by decide) (by decide) ?_
          exact k
        obtain ⟨fs, hr, hrun, hended, hW, hsame⟩ := X0.leave (v := some (.int 1)) (fun h => by rw [Bd.returns] at h; cases h)
        refine ⟨_, _, ?_, hrun, hended, _, _, rfl, ?_, ⟨_, rfl⟩, hW, hsame.mono (by decide) (by decide)⟩
        · show Steps p.tables e below (s₁.setTop (mkF m 32 #[oD x0, oS, iv p1, oD x2, oS, oD x3, oS] [(.int 1)])) _
          exact retN X0 hx (t := .boolean) Bd.returns (by simp) (hb hby d28_32) hr
        · show Qaw Z x0 p1 x2 x3 h0 n0 _ s₁.heap _
          rw [e0]
          exact ⟨by simp only [own_aw, if_neg hc1, if_pos hc17, if_pos hc24], N0, rfl⟩
      · refine og (B := s₁.setTop (mkF m 31 #[oD x0, oS, iv p1, oD x2, oS, oD x3, oS] [])) (fun t k => ?_) ?_
        · refine XS.ifYes X0.here hx rfl (pc0 := 24) (pc' := 31) rfl (hb hby d28_24) rfl ((if0 _ _).trans (feq hc24).2) (by decide) (by decide) ?_
          exact k
        refine og (B := s₁.setTop (mkF m 32 #[oD x0, oS, iv p1, oD x2, oS, oD x3, oS] [(.int 0)])) (fun t k => ?_) ?_
        · refine XS.iconst X0.here hx rfl (hb hby d28_31) ?_
          exact k
        obtain ⟨fs, hr, hrun, hended, hW, hsame⟩ := X0.leave (v := some (.int 0)) (fun h => by rw [Bd.returns] at h; cases h)
        refine ⟨_, _, ?_, hrun, hended, _, _, rfl, ?_, ⟨_, rfl⟩, hW, hsame.mono (by decide) (by decide)⟩
        · show Steps p.tables e below (s₁.setTop (mkF m 32 #[oD x0, oS, iv p1, oD x2, oS, oD x3, oS] [(.int 0)])) _
          exact retN X0 hx (t := .boolean) Bd.returns (by simp) (hb hby d28_32) hr
        · show Qaw Z x0 p1 x2 x3 h0 n0 _ s₁.heap _
          rw [e0]
          exact ⟨by simp only [own_aw, if_neg hc1, if_pos hc17, if_neg hc24], N0, rfl⟩
    · refine og (B := s₁.setTop (mkF m 33 #[oD x0, oS, iv p1, oD x2, oS, oD x3, oS] [])) (fun t k => ?_) ?_
      · refine XS.ifYes X0.here hx rfl (pc0 := 17) (pc' := 33) rfl (hb hby d28_17) rfl ((if0 _ _).trans (flt hc17).2.1) (by decide) (by decide) ?_
        exact k
      refine og (B := s₁.setTop (mkF m 36 #[oD x0, oS, iv p1, oD x2, oS, oD x3, oS] [(.int (cmpValue (FP.dcmp x0 x2) .l))])) (fun t k => ?_) ?_
      · refine XS.dloadN X0.here hx rfl (hb hby d28_33) rfl ?_
        refine XS.dloadN X0.here hx rfl (hb hby d28_34) rfl ?_
        refine XS.dcmpS X0.here hx rfl (hb hby d28_35) rfl rfl ?_
        exact k
      by_cases hc36 : (cmpValue (FP.dcmp x0 x2) .l) = (0 : Int32)
      · refine og (B := s₁.setTop (mkF m 46 #[oD x0, oS, iv p1, oD x2, oS, oD x3, oS] [])) (fun t k => ?_) ?_
        · refine XS.ifYes X0.here hx rfl (pc0 := 36) (pc' := 46) rfl (hb hby d28_36) rfl ((if0 _ _).trans (teq hc36).1) (by decide) (by decide) ?_
          exact k
        refine og (B := s₁.setTop (mkF m 51 #[oD x0, oS, iv p1, oD x2, oS, oD x3, oS] [(.int 1)])) (fun t k => ?_) ?_
        · refine XS.iconst X0.here hx rfl (hb hby d28_46) ?_
          refine XS.goto X0.here hx rfl (pc0 := 47) (pc' := 51) rfl (hb hby d28_47) (by decide) (by decide) ?_
          exact k
        obtain ⟨fs, hr, hrun, hended, hW, hsame⟩ := X0.leave (v := some (.int 1)) (fun h => by rw [Bd.returns] at h; cases h)
        refine ⟨_, _, ?_, hrun, hended, _, _, rfl, ?_, ⟨_, rfl⟩, hW, hsame.mono (by decide) (by decide)⟩
        · show Steps p.tables e below (s₁.setTop (mkF m 51 #[oD x0, oS, iv p1, oD x2, oS, oD x3, oS] [(.int 1)])) _
          exact retN X0 hx (t := .boolean) Bd.returns (by simp) (hb hby d28_51) hr
        · show Qaw Z x0 p1 x2 x3 h0 n0 _ s₁.heap _
          rw [e0]
          exact ⟨by simp only [own_aw, if_neg hc1, if_neg hc17, if_pos hc36], N0, rfl⟩
      · refine og (B := s₁.setTop (mkF m 39 #[oD x0, oS, iv p1, oD x2, oS, oD x3, oS] [])) (fun t k => ?_) ?_
        · refine XS.ifNo X0.here hx rfl (hb hby d28_36) rfl ((if0 _ _).trans (feq hc36).1) ?_
          exact k
        refine og (B := s₁.setTop (mkF m 43 #[oD x0, oS, iv p1, oD x2, oS, oD x3, oS] [(.int (cmpValue (FP.dcmp x0 x3) .l))])) (fun t k => ?_) ?_
        · refine XS.dloadN X0.here hx rfl (hb hby d28_39) rfl ?_
          refine XS.dload X0.here hx rfl (hb hby d28_40) rfl ?_
          refine XS.dcmpS X0.here hx rfl (hb hby d28_42) rfl rfl ?_
          exact k
        by_cases hc43 : (cmpValue (FP.dcmp x0 x3) .l) = (0 : Int32)
        · refine og (B := s₁.setTop (mkF m 46 #[oD x0, oS, iv p1, oD x2, oS, oD x3, oS] [])) (fun t k => ?_) ?_
          · refine XS.ifNo X0.here hx rfl (hb hby d28_43) rfl ((if0 _ _).trans (teq hc43).2) ?_
            exact k
          refine og (B := s₁.setTop (mkF m 51 #[oD x0, oS, iv p1, oD x2, oS, oD x3, oS] [(.int 1)])) (fun t k => ?_) ?_
          · refine XS.iconst X0.here hx rfl (hb hby d28_46) ?_
            refine XS.goto X0.here hx rfl (pc0 := 47) (pc' := 51) rfl (hb hby d28_47) (by decide) (by decide) ?_
            exact k
          obtain ⟨fs, hr, hrun, hended, hW, hsame⟩ := X0.leave (v := some (.int 1)) (fun h => by rw [Bd.returns] at h; cases h)
          refine ⟨_, _, ?_, hrun, hended, _, _, rfl, ?_, ⟨_, rfl⟩, hW, hsame.mono (by decide) (by decide)⟩
          · show Steps p.tables e below (s₁.setTop (mkF m 51 #[oD x0, oS, iv p1, oD x2, oS, oD x3, oS] [(.int 1)])) _
            exact retN X0 hx (t := .boolean) Bd.returns (by simp) (hb hby d28_51) hr
          · show Qaw Z x0 p1 x2 x3 h0 n0 _ s₁.heap _
            rw [e0]
            exact ⟨by simp only [own_aw, if_neg hc1, if_neg hc17, if_neg hc36, if_pos hc43], N0, rfl⟩
        · refine og (B := s₁.setTop (mkF m 50 #[oD x0, oS, iv p1, oD x2, oS, oD x3, oS] [])) (fun t k => ?_) ?_
          · refine XS.ifYes X0.here hx rfl (pc0 := 43) (pc' := 50) rfl (hb hby d28_43) rfl ((if0 _ _).trans (feq hc43).2) (by decide) (by decide) ?_
            exact k
          refine og (B := s₁.setTop (mkF m 51 #[oD x0, oS, iv p1, oD x2, oS, oD x3, oS] [(.int 0)])) (fun t k => ?_) ?_
          · refine XS.iconst X0.here hx rfl (hb hby d28_50) ?_
            exact k
          obtain ⟨fs, hr, hrun, hended, hW, hsame⟩ := X0.leave (v := some (.int 0)) (fun h => by rw [Bd.returns] at h; cases h)
          refine ⟨_, _, ?_, hrun, hended, _, _, rfl, ?_, ⟨_, rfl⟩, hW, hsame.mono (by decide) (by decide)⟩
          · show Steps p.tables e below (s₁.setTop (mkF m 51 #[oD x0, oS, iv p1, oD x2, oS, oD x3, oS] [(.int 0)])) _
            exact retN X0 hx (t := .boolean) Bd.returns (by simp) (hb hby d28_51) hr
          · show Qaw Z x0 p1 x2 x3 h0 n0 _ s₁.heap _
            rw [e0]
            exact ⟨by simp only [own_aw, if_neg hc1, if_neg hc17, if_neg hc36, if_neg hc43], N0, rfl⟩
def own_pk (b : Int32) (x y : UInt64) : UInt64 := if b = 0 then x else if b = 2 then x else y
def own_f9 (c v1 t0 g0 v2 t1 g1 : UInt64) : Prop := Jvm.Free.Fl.Fin64 (FP.dmul c 4607182418800017408) ∧ Jvm.Free.Fl.Fin64 (FP.dmul c 0) ∧ Jvm.Free.Fl.Fin64 (FP.dmul c 0) ∧ Jvm.Free.Fl.Fin64 (FP.dmul v1 t0) ∧ Jvm.Free.Fl.Fin64 (FP.dmul v1 g0) ∧ Jvm.Free.Fl.Fin64 (FP.dmul v1 0) ∧ Jvm.Free.Fl.Fin64 (FP.dmul v2 t1) ∧ Jvm.Free.Fl.Fin64 (FP.dmul v2 0) ∧ Jvm.Free.Fl.Fin64 (FP.dmul v2 g1)
def own_nw (m0 m1 m2 o1 n1 o2 n2 : UInt64) : Prop := Jvm.Free.Fl.Fin64 (FP.dmul m0 0) ∧ Jvm.Free.Fl.Fin64 (FP.dmul m1 n1) ∧ Jvm.Free.Fl.Fin64 (FP.dmul m2 0) ∧ Jvm.Free.Fl.Fin64 (FP.dmul m1 0) ∧ Jvm.Free.Fl.Fin64 (FP.dmul m2 n2) ∧ Jvm.Free.Fl.NoNaN64 (FP.dsub o1 (own_d3 m0 0 m1 n1 m2 0)) ∧ ¬ ((0 : Int32) < (cmpValue (FP.dcmp (FP.dsub o1 (own_d3 m0 0 m1 n1 m2 0)) 4472406533629990549) .l)) ∧ Jvm.Free.Fl.NoNaN64 (FP.dsub o2 (own_d3 m0 0 m1 0 m2 n2)) ∧ ¬ ((0 : Int32) < (cmpValue (FP.dcmp (FP.dsub o2 (own_d3 m0 0 m1 0 m2 n2)) 4472406533629990549) .l))
theorem own_b0 : ¬ ((0 : Int32) < (cmpValue (FP.dcmp 0 4472406533629990549) .l)) := by decide +kernel
theorem d21_0 : decode prog_36_method_3_code 0 = .ok (.aload_n 0, 1) := by decide +kernel
theorem d21_1 : decode prog_36_method_3_code 1 = .ok (.getfield 40, 3) := by decide +kernel
theorem d21_4 : decode prog_36_method_3_code 4 = .ok (.ifnonnull 13, 3) := by decide +kernel
theorem d21_17 : decode prog_36_method_3_code 17 = .ok (.iconst 0, 1) := by decide +kernel
theorem d21_18 : decode prog_36_method_3_code 18 = .ok (.istore_n 1, 1) := by decide +kernel
theorem d21_19 : decode prog_36_method_3_code 19 = .ok (.iconst 0, 1) := by decide +kernel
theorem d21_20 : decode prog_36_method_3_code 20 = .ok (.istore_n 2, 1) := by decide +kernel
theorem d21_21 : decode prog_36_method_3_code 21 = .ok (.iload_n 2, 1) := by decide +kernel
theorem d21_22 : decode prog_36_method_3_code 22 = .ok (.bipush 20, 2) := by decide +kernel
theorem d21_24 : decode prog_36_method_3_code 24 = .ok (.aload_n 0, 1) := by decide +kernel
theorem d21_25 : decode prog_36_method_3_code 25 = .ok (.getfield 28, 3) := by decide +kernel
theorem d21_28 : decode prog_36_method_3_code 28 = .ok (.imul, 1) := by decide +kernel
theorem d21_29 : decode prog_36_method_3_code 29 = .ok (.if_icmp .ge 338, 3) := by decide +kernel
theorem d21_32 : decode prog_36_method_3_code 32 = .ok (.aload_n 0, 1) := by decide +kernel
theorem d21_33 : decode prog_36_method_3_code 33 = .ok (.invokevirtual 54, 3) := by decide +kernel
theorem d21_36 : decode prog_36_method_3_code 36 = .ok (.iload_n 1, 1) := by decide +kernel
theorem d21_37 : decode prog_36_method_3_code 37 = .ok (.aload_n 0, 1) := by decide +kernel
theorem d21_38 : decode prog_36_method_3_code 38 = .ok (.getfield 28, 3) := by decide +kernel
theorem d21_41 : decode prog_36_method_3_code 41 = .ok (.if_icmp .le 7, 3) := by decide +kernel
theorem d21_48 : decode prog_36_method_3_code 48 = .ok (.iconst 0, 1) := by decide +kernel
theorem d21_49 : decode prog_36_method_3_code 49 = .ok (.istore_n 3, 1) := by decide +kernel
theorem d21_50 : decode prog_36_method_3_code 50 = .ok (.iconst (-1), 1) := by decide +kernel
theorem d21_51 : decode prog_36_method_3_code 51 = .ok (.istore 4, 2) := by decide +kernel
theorem d21_53 : decode prog_36_method_3_code 53 = .ok (.ldc2_w 57, 3) := by decide +kernel
theorem d21_56 : decode prog_36_method_3_code 56 = .ok (.dstore 5, 2) := by decide +kernel
theorem d21_58 : decode prog_36_method_3_code 58 = .ok (.iconst 0, 1) := by decide +kernel
theorem d21_59 : decode prog_36_method_3_code 59 = .ok (.istore 7, 2) := by decide +kernel
theorem d21_61 : decode prog_36_method_3_code 61 = .ok (.iload 7, 2) := by decide +kernel
theorem d21_63 : decode prog_36_method_3_code 63 = .ok (.aload_n 0, 1) := by decide +kernel
theorem d21_64 : decode prog_36_method_3_code 64 = .ok (.getfield 10, 3) := by decide +kernel
theorem d21_67 : decode prog_36_method_3_code 67 = .ok (.invokeinterface 59 1, 5) := by decide +kernel
theorem d21_72 : decode prog_36_method_3_code 72 = .ok (.if_icmp .ge 68, 3) := by decide +kernel
theorem d21_75 : decode prog_36_method_3_code 75 = .ok (.iload_n 3, 1) := by decide +kernel
theorem d21_76 : decode prog_36_method_3_code 76 = .ok (.ifCond .eq 8, 3) := by decide +kernel
theorem d21_84 : decode prog_36_method_3_code 84 = .ok (.aload_n 0, 1) := by decide +kernel
theorem d21_85 : decode prog_36_method_3_code 85 = .ok (.getfield 20, 3) := by decide +kernel
theorem d21_88 : decode prog_36_method_3_code 88 = .ok (.iload 7, 2) := by decide +kernel
theorem d21_90 : decode prog_36_method_3_code 90 = .ok (.iaload, 1) := by decide +kernel
theorem d21_91 : decode prog_36_method_3_code 91 = .ok (.ifCond .lt 7, 3) := by decide +kernel
theorem d21_94 : decode prog_36_method_3_code 94 = .ok (.dconst 0, 1) := by decide +kernel
theorem d21_95 : decode prog_36_method_3_code 95 = .ok (.goto 21, 3) := by decide +kernel
theorem d21_98 : decode prog_36_method_3_code 98 = .ok (.aload_n 0, 1) := by decide +kernel
theorem d21_99 : decode prog_36_method_3_code 99 = .ok (.getfield 16, 3) := by decide +kernel
theorem d21_102 : decode prog_36_method_3_code 102 = .ok (.iload 7, 2) := by decide +kernel
theorem d21_104 : decode prog_36_method_3_code 104 = .ok (.daload, 1) := by decide +kernel
theorem d21_105 : decode prog_36_method_3_code 105 = .ok (.aload_n 0, 1) := by decide +kernel
theorem d21_106 : decode prog_36_method_3_code 106 = .ok (.aload_n 0, 1) := by decide +kernel
theorem d21_107 : decode prog_36_method_3_code 107 = .ok (.getfield 65, 3) := by decide +kernel
theorem d21_110 : decode prog_36_method_3_code 110 = .ok (.iload 7, 2) := by decide +kernel
theorem d21_112 : decode prog_36_method_3_code 112 = .ok (.invokevirtual 68, 3) := by decide +kernel
theorem d21_115 : decode prog_36_method_3_code 115 = .ok (.dsub, 1) := by decide +kernel
theorem d21_116 : decode prog_36_method_3_code 116 = .ok (.dstore 8, 2) := by decide +kernel
theorem d21_118 : decode prog_36_method_3_code 118 = .ok (.dload 8, 2) := by decide +kernel
theorem d21_120 : decode prog_36_method_3_code 120 = .ok (.dload 5, 2) := by decide +kernel
theorem d21_122 : decode prog_36_method_3_code 122 = .ok (.dcmp .l, 1) := by decide +kernel
theorem d21_123 : decode prog_36_method_3_code 123 = .ok (.ifCond .le 11, 3) := by decide +kernel
theorem d21_134 : decode prog_36_method_3_code 134 = .ok (.iinc 7 1, 3) := by decide +kernel
theorem d21_137 : decode prog_36_method_3_code 137 = .ok (.goto (-76), 3) := by decide +kernel
theorem d21_140 : decode prog_36_method_3_code 140 = .ok (.iload 4, 2) := by decide +kernel
theorem d21_142 : decode prog_36_method_3_code 142 = .ok (.ifCond .ge 10, 3) := by decide +kernel
theorem d21_145 : decode prog_36_method_3_code 145 = .ok (.aload_n 0, 1) := by decide +kernel
theorem d21_146 : decode prog_36_method_3_code 146 = .ok (.getfield 65, 3) := by decide +kernel
theorem d21_149 : decode prog_36_method_3_code 149 = .ok (.iconst 0, 1) := by decide +kernel
theorem d21_150 : decode prog_36_method_3_code 150 = .ok (.daload, 1) := by decide +kernel
theorem d21_151 : decode prog_36_method_3_code 151 = .ok (.dreturn, 1) := by decide +kernel
theorem pn_21 : plainName "com/example/ballast/ballast/placement/CuttingPlanes" = true := by first | (simp [plainName, overriddenIn]; done) | decide +kernel
theorem ef_slv (m : MethodId) (a0 : Addr) : entryFrame m #[(.ref a0)] 14 = mkF m 0 #[rv a0, oU, oU, oU, oU, oU, oU, oU, oU, oU, oU, oU, oU, oU] [] := by first | (simp [entryFrame, mkF, argsToLocals, Value.category]; done) | rfl
theorem pd_12 : parseMethodDescriptor "([DI)D" = some ⟨[(.array .double), .int], some .double⟩ := by decide +kernel
def Qslv (Z : State) (a0 : Addr) (al : Addr) (va : Addr) (ro : Addr) (ba : Addr) (ca0 : Addr) (ed : Addr) (ca1 : Addr) (ca2 : Addr) (ca3 : Addr) (ca4 : Addr) (iv_ : Addr) (y0 : Addr) (y1 : Addr) (y2 : Addr) (kd : ClassId) (ka : ClassId) (kr : ClassId) (kq : ClassId) (ki : ClassId) (kj : ClassId) (kc0 : ClassId) (kc1 : ClassId) (kc2 : ClassId) (kc3 : ClassId) (w0 : UInt64) (w1 : UInt64) (w2 : UInt64) (w3 : UInt64) (w4 : UInt64) (t0 : UInt64) (g0 : UInt64) (t1 : UInt64) (g1 : UInt64) (b1 : Int32) (b2 : Int32) (u8 : Value) (h0 : Heap) (n0 : Nat) (v : Option Value) (h : Heap) (L : List Loc) : Prop := ∃ (mu : Addr) (km : ClassId), v = some (.double (own_d3 w4 4607182418800017408 (own_pk b1 w0 w1) t0 (own_pk b2 w2 w3) t1)) ∧ Fr n0 L ∧ Keep h0 h [a0] ∧ h0.size ≤ mu ∧ Fld Z h a0 "com/example/ballast/ballast/placement/CuttingPlanes" "multipliers" "[D" (.ref mu) ∧ Fld Z h a0 "com/example/ballast/ballast/placement/CuttingPlanes" "rows" "I" (.int 3) ∧ Arv Z h mu km .double (3 : Int32) [(.double (own_d3 w4 4607182418800017408 (own_pk b1 w0 w1) t0 (own_pk b2 w2 w3) t1)), (.double (own_d3 w4 0 (own_pk b1 w0 w1) g0 (own_pk b2 w2 w3) 0)), (.double (own_d3 w4 0 (own_pk b1 w0 w1) 0 (own_pk b2 w2 w3) g1))] (.double 0)
theorem rmslv (l : Launch) (Z : State) (av0 : Array Value) (hw : ∀ d ∈ tables_1, d.before av0 Z = true) (ws : List Jvm.Cond) (a0 : Addr) (al : Addr) (va : Addr) (ro : Addr) (ba : Addr) (ca0 : Addr) (ed : Addr) (ca1 : Addr) (ca2 : Addr) (ca3 : Addr) (ca4 : Addr) (iv_ : Addr) (y0 : Addr) (y1 : Addr) (y2 : Addr) (kd : ClassId) (ka : ClassId) (kr : ClassId) (kq : ClassId) (ki : ClassId) (kj : ClassId) (kc0 : ClassId) (kc1 : ClassId) (kc2 : ClassId) (kc3 : ClassId) (w0 : UInt64) (w1 : UInt64) (w2 : UInt64) (w3 : UInt64) (w4 : UInt64) (t0 : UInt64) (g0 : UInt64) (t1 : UInt64) (g1 : UInt64) (b1 : Int32) (b2 : Int32) (u8 : Value) (h0 : Heap) (n0 : Nat) (Z0 : n0 ≤ h0.size) (E_a0 : Exa Z h0 a0 "com/example/ballast/ballast/placement/CuttingPlanes") (F_columns_a0 : Fld Z h0 a0 "com/example/ballast/ballast/placement/CuttingPlanes" "columns" "Ljava/util/List;" (.ref al)) (F_values_a0 : Fld Z h0 a0 "com/example/ballast/ballast/placement/CuttingPlanes" "values" "[D" (.ref va)) (F_rowOf_a0 : Fld Z h0 a0 "com/example/ballast/ballast/placement/CuttingPlanes" "rowOf" "[I" (.ref ro)) (F_dimensions_a0 : Fld Z h0 a0 "com/example/ballast/ballast/placement/CuttingPlanes" "dimensions" "I" (.int 2)) (F_rows_a0 : Fld Z h0 a0 "com/example/ballast/ballast/placement/CuttingPlanes" "rows" "I" (.int 3)) (F_basis_a0 : Fld Z h0 a0 "com/example/ballast/ballast/placement/CuttingPlanes" "basis" "[I" (.ref ba)) (F_inverse_a0 : Fld Z h0 a0 "com/example/ballast/ballast/placement/CuttingPlanes" "inverse" "[[D" (.ref iv_)) (F_multipliers_a0 : Fld Z h0 a0 "com/example/ballast/ballast/placement/CuttingPlanes" "multipliers" "[D" u8) (E_al : Exa Z h0 al "java/util/ArrayList") (F_elementData_al : Fld Z h0 al "java/util/ArrayList" "elementData" "[Ljava/lang/Object;" (.ref ed)) (F_size_al : Fld Z h0 al "java/util/ArrayList" "size" "I" (.int 5)) (VE : Arv Z h0 ed kd (.object "java/lang/Object") (10 : Int32) [(.ref ca0), (.ref ca1), (.ref ca2), (.ref ca3), (.ref ca4)] .null) (VA : Arv Z h0 va ka .double (16 : Int32) [(.double w0), (.double w1), (.double w2), (.double w3), (.double w4)] (.double 0)) (VR : Arv Z h0 ro kr .int (16 : Int32) (own_rl b1 b2) (.int (0 : Int32))) (VB : Arv Z h0 ba kq .int (3 : Int32) [(.int 4), (.int b1), (.int b2)] (.int (0 : Int32))) (VI : Arv Z h0 iv_ ki (.array .double) (3 : Int32) [(.ref y0), (.ref y1), (.ref y2)] .null) (VY0 : Arv Z h0 y0 kj .double (3 : Int32) [(.double 4607182418800017408), (.double 0), (.double 0)] (.double 0)) (VY1 : Arv Z h0 y1 kj .double (3 : Int32) [(.double t0), (.double g0), (.double 0)] (.double 0)) (VY2 : Arv Z h0 y2 kj .double (3 : Int32) [(.double t1), (.double 0), (.double g1)] (.double 0)) (E_ca0 : Exa Z h0 ca0 "[D") (VC0 : Arv Z h0 ca0 kc0 .double (3 : Int32) [(.double 0), (.double 4607182418800017408), (.double 0)] (.double 0)) (E_ca1 : Exa Z h0 ca1 "[D") (VC1 : Arv Z h0 ca1 kc1 .double (3 : Int32) [(.double 0), (.double 13830554455654793216), (.double 0)] (.double 0)) (E_ca2 : Exa Z h0 ca2 "[D") (VC2 : Arv Z h0 ca2 kc2 .double (3 : Int32) [(.double 0), (.double 0), (.double 4607182418800017408)] (.double 0)) (E_ca3 : Exa Z h0 ca3 "[D") (VC3 : Arv Z h0 ca3 kc3 .double (3 : Int32) [(.double 0), (.double 0), (.double 13830554455654793216)] (.double 0)) (g_a0 : n0 ≤ a0) (lt_a0_al : a0 < al) (lt_al_va : al < va) (lt_va_ro : va < ro) (lt_ro_ba : ro < ba) (lt_ba_ca0 : ba < ca0) (lt_ca0_ed : ca0 < ed) (lt_ed_ca1 : ed < ca1) (lt_ca1_ca2 : ca1 < ca2) (lt_ca2_ca3 : ca2 < ca3) (lt_ca3_ca4 : ca3 < ca4) (lt_ca4_iv_ : ca4 < iv_) (lt_iv__y0 : iv_ < y0) (lt_y0_y1 : y0 < y1) (lt_y1_y2 : y1 < y2) (hc1 : b1 = 0 ∨ b1 = 1) (hc2 : b2 = 2 ∨ b2 = 3) (h9 : own_f9 w4 (own_pk b1 w0 w1) t0 g0 (own_pk b2 w2 w3) t1 g1) (hWq : own_nw (own_d3 w4 4607182418800017408 (own_pk b1 w0 w1) t0 (own_pk b2 w2 w3) t1) (own_d3 w4 0 (own_pk b1 w0 w1) g0 (own_pk b2 w2 w3) 0) (own_d3 w4 0 (own_pk b1 w0 w1) 0 (own_pk b2 w2 w3) g1) (own_pk b1 w1 w0) (own_pk b1 13830554455654793216 4607182418800017408) (own_pk b2 w3 w2) (own_pk b2 13830554455654793216 4607182418800017408)) :
    MetFree l own_m22 (head1 (Jvm.Cond.code own_m22 prog_36_method_3_code 14 (some .double) :: ws) ({ frames := 4, cells := 1, slots := 3, locals := 60 } : Room)) (fun a U => a = #[(.ref a0)] ∧ Z.Warmed39 U.vm ∧ U.heap = h0) (fun _ _ _ _ _ => True) (fun _ U o U' => ∃ v L, o = .returned v ∧ Qslv Z a0 al va ro ba ca0 ed ca1 ca2 ca3 ca4 iv_ y0 y1 y2 kd ka kr kq ki kj kc0 kc1 kc2 kc3 w0 w1 w2 w3 w4 t0 g0 t1 g1 b1 b2 u8 h0 n0 v U'.heap L ∧ FrameEnd U o U' L ({ frames := 4, cells := 1, slots := 3, locals := 60 } : Room).cells ({ frames := 4, cells := 1, slots := 3, locals := 60 } : Room).slots) := by
  refine MetFree.of_bodySF (plainFor_of_name pn_21) hisR ?_
  intro p e s m args below meth c s₁ Bd hml0 hP hK
  obtain ⟨rfl, hZ, hh⟩ := hP
  have hx := Bd.exec
  have hby := Bd.bytes
  have hml : c.maxLocals = 14 := hml0
  have hown : s.vm.findClass "com/example/ballast/ballast/placement/CuttingPlanes" = some m.cls := findClass_of_methodNamed Bd.named
  have X0 : Stand p l e ({ frames := 4, cells := 1, slots := 3, locals := 60 } : Room) s m #[(.ref a0)] below meth c s₁ [] 0 0 := Stand.of_body Bd
  have e0 : s₁.heap = h0 := by rw [← hh, Bd.state]; rfl
  have N0 := Fr.nil n0
  have ne_a0_al := Nat.ne_of_lt lt_a0_al
  have lt_a0_va := Nat.lt_trans lt_a0_al lt_al_va
  have ne_a0_va := Nat.ne_of_lt lt_a0_va
  have lt_a0_ro := Nat.lt_trans lt_a0_va lt_va_ro
  have ne_a0_ro := Nat.ne_of_lt lt_a0_ro
  have lt_a0_ba := Nat.lt_trans lt_a0_ro lt_ro_ba
  have ne_a0_ba := Nat.ne_of_lt lt_a0_ba
  have lt_a0_ca0 := Nat.lt_trans lt_a0_ba lt_ba_ca0
  have ne_a0_ca0 := Nat.ne_of_lt lt_a0_ca0
  have lt_a0_ed := Nat.lt_trans lt_a0_ca0 lt_ca0_ed
  have ne_a0_ed := Nat.ne_of_lt lt_a0_ed
  have lt_a0_ca1 := Nat.lt_trans lt_a0_ed lt_ed_ca1
  have ne_a0_ca1 := Nat.ne_of_lt lt_a0_ca1
  have lt_a0_ca2 := Nat.lt_trans lt_a0_ca1 lt_ca1_ca2
  have ne_a0_ca2 := Nat.ne_of_lt lt_a0_ca2
  have lt_a0_ca3 := Nat.lt_trans lt_a0_ca2 lt_ca2_ca3
  have ne_a0_ca3 := Nat.ne_of_lt lt_a0_ca3
  have lt_a0_ca4 := Nat.lt_trans lt_a0_ca3 lt_ca3_ca4
  have ne_a0_ca4 := Nat.ne_of_lt lt_a0_ca4
  have lt_a0_iv_ := Nat.lt_trans lt_a0_ca4 lt_ca4_iv_
  have ne_a0_iv_ := Nat.ne_of_lt lt_a0_iv_
  have lt_a0_y0 := Nat.lt_trans lt_a0_iv_ lt_iv__y0
  have ne_a0_y0 := Nat.ne_of_lt lt_a0_y0
  have lt_a0_y1 := Nat.lt_trans lt_a0_y0 lt_y0_y1
  have ne_a0_y1 := Nat.ne_of_lt lt_a0_y1
  have lt_a0_y2 := Nat.lt_trans lt_a0_y1 lt_y1_y2
  have ne_a0_y2 := Nat.ne_of_lt lt_a0_y2
  obtain ⟨hf00, hf01, hf02, hf10, hf11, hf12, hf20, hf21, hf22⟩ := h9
  have K0 : Keep h0 h0 [a0] := Keep.refl h0 [a0]
  refine og (B := s₁.setTop (mkF m 0 #[rv a0, oU, oU, oU, oU, oU, oU, oU, oU, oU, oU, oU, oU, oU] [])) (fun t k => castTop (ef_slv m a0) k) ?_
  refine og (B := s₁.setTop (mkF m 1 #[rv a0, oU, oU, oU, oU, oU, oU, oU, oU, oU, oU, oU, oU, oU] [(.ref a0)])) (fun t k => ?_) ?_
  · refine XS.aloadN X0.here hx rfl (hb hby d21_0) rfl rfl ?_
    exact k
  obtain ⟨T_1, X_1, e_1, st_1⟩ := getF X0 hx hZ hown (host := "") (Or.inl (ow hw 104 rfl)) Via.refl e0 F_inverse_a0 (g := (mkF m 1 #[rv a0, oU, oU, oU, oU, oU, oU, oU, oU, oU, oU, oU, oU, oU] [(.ref a0)])) rfl rfl (hb hby d21_1)
  refine og (fun t k => st_1 t k) ?_
  refine og (B := T_1.setTop (mkF m 17 #[rv a0, oU, oU, oU, oU, oU, oU, oU, oU, oU, oU, oU, oU, oU] [])) (fun t k => ?_) ?_
  · refine XS.ifnonnullYes X_1.here hx rfl (pc0 := 4) (pc' := 17) rfl (hb hby d21_4) rfl (by decide) (by decide) ?_
    exact k
  refine og (B := T_1.setTop (mkF m 25 #[rv a0, iv 0, iv 0, oU, oU, oU, oU, oU, oU, oU, oU, oU, oU, oU] [(.ref a0), (.int 20), (.int 0)])) (fun t k => ?_) ?_
  · refine XS.iconst X_1.here hx rfl (hb hby d21_17) ?_
    refine XS.istoreN X_1.here hx rfl (hb hby d21_18) rfl (l' := #[rv a0, iv 0, oU, oU, oU, oU, oU, oU, oU, oU, oU, oU, oU, oU]) rfl ?_
    refine XS.iconst X_1.here hx rfl (hb hby d21_19) ?_
    refine XS.istoreN X_1.here hx rfl (hb hby d21_20) rfl (l' := #[rv a0, iv 0, iv 0, oU, oU, oU, oU, oU, oU, oU, oU, oU, oU, oU]) rfl ?_
    refine XS.iloadN X_1.here hx rfl (hb hby d21_21) rfl ?_
    refine XS.bipush X_1.here hx rfl (hb hby d21_22) ?_
    refine XS.aloadN X_1.here hx rfl (hb hby d21_24) rfl rfl ?_
    exact k
  obtain ⟨T_2, X_2, e_2, st_2⟩ := getF X_1 hx hZ hown (host := "") (Or.inl (ow hw 50 rfl)) Via.refl e_1 F_rows_a0 (g := (mkF m 25 #[rv a0, iv 0, iv 0, oU, oU, oU, oU, oU, oU, oU, oU, oU, oU, oU] [(.ref a0), (.int 20), (.int 0)])) rfl rfl (hb hby d21_25)
  refine og (fun t k => st_2 t k) ?_
  refine og (B := T_2.setTop (mkF m 29 #[rv a0, iv 0, iv 0, oU, oU, oU, oU, oU, oU, oU, oU, oU, oU, oU] [(.int 60), (.int 0)])) (fun t k => ?_) ?_
  · refine XS.imul X_2.here hx rfl (hb hby d21_28) rfl ?_
    exact k
  refine og (B := T_2.setTop (mkF m 32 #[rv a0, iv 0, iv 0, oU, oU, oU, oU, oU, oU, oU, oU, oU, oU, oU] [])) (fun t k => ?_) ?_
  · refine XS.icmpNo X_2.here hx rfl (hb hby d21_29) rfl (tlt (by decide : (0 : Int32) < (60 : Int32))).2.1 ?_
    exact k
  refine og (B := T_2.setTop (mkF m 33 #[rv a0, iv 0, iv 0, oU, oU, oU, oU, oU, oU, oU, oU, oU, oU, oU] [(.ref a0)])) (fun t k => ?_) ?_
  · refine XS.aloadN X_2.here hx rfl (hb hby d21_32) rfl rfl ?_
    exact k
  have kk_3 := K0
  obtain ⟨cq_3, q_3a, q_3b⟩ := (E_a0).cell
  obtain ⟨_, _, ⟨T_3, L_3, k_3, n_3⟩, -, X_3, ⟨Lc_3, hQ_3, l_3, y_3, z_3⟩, st_3⟩ := X_2.privateBack hx (y := own_m23) hown (mvT hZ (ow hw 147 rfl)) (mvT hZ (ow hw 148 rfl)) (own_sel hZ (ow hw 8 rfl) (Cond.privateMethod_at (mvP hZ (ow hw 149 rfl) (args := #[]))) (mvT hZ (ow hw 148 rfl)) (by decide)) (Cond.privateMethod_at (mvP hZ (ow hw 149 rfl) (args := #[]))) (mvT hZ (ow hw 150 rfl)) (by decide) (backOf (W := 0) (rmupm l Z av0 hw [] a0 al va ro ba iv_ y0 y1 y2 ka kq ki kj w0 w1 w2 w3 w4 (own_pk b1 w0 w1) (own_pk b2 w2 w3) 4607182418800017408 0 0 t0 g0 0 t1 0 g1 b1 b2 u8 h0 n0 Z0 E_a0 F_columns_a0 F_values_a0 F_rowOf_a0 F_dimensions_a0 F_rows_a0 F_basis_a0 F_inverse_a0 F_multipliers_a0 g_a0 VA VB VI VY0 VY1 VY2 (Ne.symm ne_a0_va) (Ne.symm ne_a0_ba) (Ne.symm ne_a0_iv_) (Ne.symm ne_a0_y0) (Ne.symm ne_a0_y1) (Ne.symm ne_a0_y2) (by rcases hc1 with rfl | rfl <;> exact ⟨by decide, by decide⟩) (by rcases hc1 with rfl | rfl <;> rfl) (by rcases hc2 with rfl | rfl <;> exact ⟨by decide, by decide⟩) (by rcases hc2 with rfl | rfl <;> rfl) hf00 hf01 hf02 hf10 hf11 hf12 hf20 hf21 hf22) hZ (ow hw 150 rfl) (ow hw 9 rfl) (by decide) (by decide)) (g := (mkF m 33 #[rv a0, iv 0, iv 0, oU, oU, oU, oU, oU, oU, oU, oU, oU, oU, oU] [(.ref a0)])) rfl (by rw [hml]; rfl) (Steps.refl _) (a := a0) (by rw [(e_2 : _ = _)]; exact q_3a) q_3b (argsL := []) (rest := []) (lenOf pd_0 rfl) rfl (by show 2 * 0 + _ ≤ _; exact Nat.le_of_eq rfl) (hb hby d21_33) (fun _ _ => ⟨rfl, e_2, (by decide : 0 + 1 ≤ _), (by decide : 0 + 3 ≤ _)⟩)
  dsimp only [Pt.U, Pt.locs, Pt.cells, Pt.slots] at X_3 l_3 y_3 z_3 st_3 hQ_3
  subst l_3 y_3 z_3
  obtain ⟨mu_3, km_3, rfl, N_3q, K_3, szq_3, Q_3_0, Q_3_1, Q_3_2, Q_3_3, Q_3_4, Q_3_5, Q_3_6, Qm_3, VM_3⟩ := hQ_3
  have N_3 := Fr.app N0 N_3q
  have c1 := K0.trans K_3 (allS (Or.inl (List.mem_of_getElem? (i := 0) rfl)) all0)
  have c2 := E_a0.keep K_3
  have c3 := E_al.keep K_3
  have c4 := F_elementData_al.keep K_3 (ninS (Ne.symm ne_a0_al) nin0)
  have c5 := F_size_al.keep K_3 (ninS (Ne.symm ne_a0_al) nin0)
  have c6 := E_ca0.keep K_3
  have c7 := E_ca1.keep K_3
  have c8 := E_ca2.keep K_3
  have c9 := E_ca3.keep K_3
  have c10 := VE.keep K_3 (ninS (Ne.symm ne_a0_ed) nin0)
  have c11 := VA.keep K_3 (ninS (Ne.symm ne_a0_va) nin0)
  have c12 := VR.keep K_3 (ninS (Ne.symm ne_a0_ro) nin0)
  have c13 := VB.keep K_3 (ninS (Ne.symm ne_a0_ba) nin0)
  have c14 := VI.keep K_3 (ninS (Ne.symm ne_a0_iv_) nin0)
  have c15 := VY0.keep K_3 (ninS (Ne.symm ne_a0_y0) nin0)
  have c16 := VY1.keep K_3 (ninS (Ne.symm ne_a0_y1) nin0)
  have c17 := VY2.keep K_3 (ninS (Ne.symm ne_a0_y2) nin0)
  have c18 := VC0.keep K_3 (ninS (Ne.symm ne_a0_ca0) nin0)
  have c19 := VC1.keep K_3 (ninS (Ne.symm ne_a0_ca1) nin0)
  have c20 := VC2.keep K_3 (ninS (Ne.symm ne_a0_ca2) nin0)
  have c21 := VC3.keep K_3 (ninS (Ne.symm ne_a0_ca3) nin0)
  have Z0__3 : n0 ≤ T_3.heap.size := Nat.le_trans Z0 K_3.1
  obtain ⟨m_3_0, em_3_0⟩ : ∃ z, z = (own_d3 w4 4607182418800017408 (own_pk b1 w0 w1) t0 (own_pk b2 w2 w3) t1) := ⟨_, rfl⟩
  obtain ⟨m_3_1, em_3_1⟩ : ∃ z, z = (own_d3 w4 0 (own_pk b1 w0 w1) g0 (own_pk b2 w2 w3) 0) := ⟨_, rfl⟩
  obtain ⟨m_3_2, em_3_2⟩ : ∃ z, z = (own_d3 w4 0 (own_pk b1 w0 w1) 0 (own_pk b2 w2 w3) g1) := ⟨_, rfl⟩
  rw [← em_3_0, ← em_3_1, ← em_3_2] at VM_3 hWq
  have sz_mu_3 : h0.size ≤ mu_3 := Nat.le_trans kk_3.1 szq_3
  refine og (fun t k => st_3.trans k) ?_
  refine og (B := T_3.setTop (mkF m 38 #[rv a0, iv 0, iv 0, oU, oU, oU, oU, oU, oU, oU, oU, oU, oU, oU] [(.ref a0), (.int 0)])) (fun t k => ?_) ?_
  · refine XS.iloadN X_3.here hx rfl (hb hby d21_36) rfl ?_
    refine XS.aloadN X_3.here hx rfl (hb hby d21_37) rfl rfl ?_
    exact k
  obtain ⟨T_4, X_4, e_4, st_4⟩ := getF X_3 hx hZ hown (host := "") (Or.inl (ow hw 50 rfl)) Via.refl rfl Q_3_4 (g := (mkF m 38 #[rv a0, iv 0, iv 0, oU, oU, oU, oU, oU, oU, oU, oU, oU, oU, oU] [(.ref a0), (.int 0)])) rfl rfl (hb hby d21_38)
  refine og (fun t k => st_4 t k) ?_
  refine og (B := T_4.setTop (mkF m 48 #[rv a0, iv 0, iv 0, oU, oU, oU, oU, oU, oU, oU, oU, oU, oU, oU] [])) (fun t k => ?_) ?_
  · refine XS.icmpYes X_4.here hx rfl (pc0 := 41) (pc' := 48) rfl (hb hby d21_41) rfl (flt (by decide : ¬ ((3 : Int32) < (0 : Int32)))).2.2.2 (by decide) (by decide) ?_
    exact k
  refine og (B := T_4.setTop (mkF m 64 #[rv a0, iv 0, iv 0, iv 0, iv (-1), oT, oS, iv 0, oU, oU, oU, oU, oU, oU] [(.ref a0), (.int 0)])) (fun t k => ?_) ?_
  · refine XS.iconst X_4.here hx rfl (hb hby d21_48) ?_
    refine XS.istoreN X_4.here hx rfl (hb hby d21_49) rfl (l' := #[rv a0, iv 0, iv 0, iv 0, oU, oU, oU, oU, oU, oU, oU, oU, oU, oU]) rfl ?_
    refine XS.iconst X_4.here hx rfl (hb hby d21_50) ?_
    refine XS.istore X_4.here hx rfl (hb hby d21_51) rfl (l' := #[rv a0, iv 0, iv 0, iv 0, iv (-1), oU, oU, oU, oU, oU, oU, oU, oU, oU]) rfl ?_
    refine X_4.ldc2DoubleC hx hown (mvT hZ (ow hw 153 rfl)) (g := (mkF m 53 #[rv a0, iv 0, iv 0, iv 0, iv (-1), oU, oU, oU, oU, oU, oU, oU, oU, oU] [])) rfl (hb hby d21_53) _ ?_
    refine XS.dstore X_4.here hx rfl (hb hby d21_56) rfl (l' := #[rv a0, iv 0, iv 0, iv 0, iv (-1), oT, oS, oU, oU, oU, oU, oU, oU, oU]) rfl ?_
    refine XS.iconst X_4.here hx rfl (hb hby d21_58) ?_
    refine XS.istore X_4.here hx rfl (hb hby d21_59) rfl (l' := #[rv a0, iv 0, iv 0, iv 0, iv (-1), oT, oS, iv 0, oU, oU, oU, oU, oU, oU]) rfl ?_
    refine XS.iload X_4.here hx rfl (hb hby d21_61) rfl ?_
    refine XS.aloadN X_4.here hx rfl (hb hby d21_63) rfl rfl ?_
    exact k
  obtain ⟨T_5, X_5, e_5, st_5⟩ := getF X_4 hx hZ hown (host := "") (Or.inl (ow hw 41 rfl)) Via.refl e_4 Q_3_0 (g := (mkF m 64 #[rv a0, iv 0, iv 0, iv 0, iv (-1), oT, oS, iv 0, oU, oU, oU, oU, oU, oU] [(.ref a0), (.int 0)])) rfl rfl (hb hby d21_64)
  refine og (fun t k => st_5 t k) ?_
  obtain ⟨cq_6, kq_6, q_6a, q_6b, q_6c⟩ := isOf hZ e_5 c3
  obtain ⟨_, _, ⟨T_6, L_6, k_6, n_6⟩, -, X_6, ⟨Lc_6, hQ_6, l_6, y_6, z_6⟩, st_6⟩ := X_5.interfaceBack hx (xi := own_m30) (y := own_m10) hown (mvT hZ (ow hw 58 rfl)) (mvT hZ (ow hw 59 rfl)) (mvT hZ (ow hw 60 rfl)) (mvT hZ (ow hw 61 rfl)) (mvT hZ (ow hw 62 rfl)) (mvT hZ (ow hw 63 rfl)) (mvT hZ (ow hw 64 rfl)) (mvT hZ (ow hw 65 rfl)) (by decide) (backOf (W := 1) (rmalz l Z av0 hw [] al (5 : Int32) T_3.heap n0 Z0__3 c5) hZ (ow hw 66 rfl) (ow hw 19 rfl) (by decide) (by decide)) q_6a q_6b q_6c (g := (mkF m 67 #[rv a0, iv 0, iv 0, iv 0, iv (-1), oT, oS, iv 0, oU, oU, oU, oU, oU, oU] [(.ref al), (.int 0)])) rfl (by rw [hml]; rfl) (Steps.refl _) (argsL := []) (rest := [(.int 0)]) (lenOf pd_5 rfl) rfl (by show 2 * 0 + _ ≤ _; exact Nat.le_of_eq rfl) (hb hby d21_67) (fun _ _ => ⟨rfl, e_5, (by decide : 1 + 0 ≤ _), (by decide : 3 + 0 ≤ _)⟩)
  dsimp only [Pt.U, Pt.locs, Pt.cells, Pt.slots] at X_6 l_6 y_6 z_6 st_6 hQ_6
  subst l_6 y_6 z_6
  obtain ⟨rfl, N_6q, e_6⟩ := hQ_6
  have N_6 := Fr.app N_3 N_6q
  refine og (fun t k => st_6.trans k) ?_
  refine og (B := T_6.setTop (mkF m 75 #[rv a0, iv 0, iv 0, iv 0, iv (-1), oT, oS, iv 0, oU, oU, oU, oU, oU, oU] [])) (fun t k => ?_) ?_
  · refine XS.icmpNo X_6.here hx rfl (hb hby d21_72) rfl (tlt (by decide : (0 : Int32) < (5 : Int32))).2.1 ?_
    exact k
  refine og (B := T_6.setTop (mkF m 76 #[rv a0, iv 0, iv 0, iv 0, iv (-1), oT, oS, iv 0, oU, oU, oU, oU, oU, oU] [(.int 0)])) (fun t k => ?_) ?_
  · refine XS.iloadN X_6.here hx rfl (hb hby d21_75) rfl ?_
    exact k
  refine og (B := T_6.setTop (mkF m 84 #[rv a0, iv 0, iv 0, iv 0, iv (-1), oT, oS, iv 0, oU, oU, oU, oU, oU, oU] [])) (fun t k => ?_) ?_
  · refine XS.ifYes X_6.here hx rfl (pc0 := 76) (pc' := 84) rfl (hb hby d21_76) rfl ((if0 _ _).trans (teq (by decide : (0 : Int32) = (0 : Int32))).1) (by decide) (by decide) ?_
    exact k
  refine og (B := T_6.setTop (mkF m 85 #[rv a0, iv 0, iv 0, iv 0, iv (-1), oT, oS, iv 0, oU, oU, oU, oU, oU, oU] [(.ref a0)])) (fun t k => ?_) ?_
  · refine XS.aloadN X_6.here hx rfl (hb hby d21_84) rfl rfl ?_
    exact k
  obtain ⟨T_7, L_7, R_7, ⟨X_7, e_7, N_7, hR_7⟩, st_7⟩ : ∃ (T' : State) (L' : List Loc) (R : UInt64), (Stand p l e ({ frames := 4, cells := 1, slots := 3, locals := 60 } : Room) s m #[(.ref a0)] below meth c T' L' 1 3 ∧ T'.heap = T_3.heap ∧ Fr n0 L' ∧ ¬ ((0 : Int32) < (cmpValue (FP.dcmp R 4472406533629990549) .l))) ∧ ∀ t, Steps p.tables e below (T'.setTop (mkF m 116 #[rv a0, iv 0, iv 0, iv 0, iv (-1), oT, oS, iv 0, oU, oU, oU, oU, oU, oU] [(.double R)])) t → Steps p.tables e below (T_6.setTop (mkF m 85 #[rv a0, iv 0, iv 0, iv 0, iv (-1), oT, oS, iv 0, oU, oU, oU, oU, oU, oU] [(.ref a0)])) t := by
    rcases hc1 with hc1 | hc1
    · obtain ⟨T_8, X_8, e_8, st_8⟩ := getF X_6 hx hZ hown (host := "") (Or.inl (ow hw 46 rfl)) Via.refl e_6 Q_3_2 (g := (mkF m 85 #[rv a0, iv 0, iv 0, iv 0, iv (-1), oT, oS, iv 0, oU, oU, oU, oU, oU, oU] [(.ref a0)])) rfl rfl (hb hby d21_85)
      refine gs (fun t k => st_8 t k) ?_
      refine gs (B := T_8.setTop (mkF m 90 #[rv a0, iv 0, iv 0, iv 0, iv (-1), oT, oS, iv 0, oU, oU, oU, oU, oU, oU] [(.int 0), (.ref ro)])) (fun t k => ?_) ?_
      · refine XS.iload X_8.here hx rfl (hb hby d21_88) rfl ?_
        exact k
      obtain ⟨cl_9, Ar_9, q_9, S_9, M_9, H_9, G_9⟩ := id c12
      have hin_9 : ¬ ((0 : Int32) < 0 ∨ cl_9.slots.size ≤ ((0 : Int32)).toNatClampNeg) := inb_of S_9 ⟨by decide, by decide⟩
      have hat_9 : cl_9.slots[((0 : Int32)).toNatClampNeg]? = some (.int 1) := H_9.at hin_9 (by subst hc1; rcases hc2 with rfl | rfl <;> rfl)
      refine gs (B := T_8.setTop (mkF m 91 #[rv a0, iv 0, iv 0, iv 0, iv (-1), oT, oS, iv 0, oU, oU, oU, oU, oU, oU] [(.int 1)])) (fun t k => X_8.iaload hx (j := (0 : Int32)) (v := (.int 1)) (by rw [(e_8 : _ = _)]; exact Ar_9.1) (State.isArrayOf_alike hZ.alike Ar_9.2.1) Ar_9.2.2 hin_9 hat_9 (g := (mkF m 90 #[rv a0, iv 0, iv 0, iv 0, iv (-1), oT, oS, iv 0, oU, oU, oU, oU, oU, oU] [(.int 0), (.ref ro)])) rfl rfl (hb hby d21_90) t k) ?_
      refine gs (B := T_8.setTop (mkF m 94 #[rv a0, iv 0, iv 0, iv 0, iv (-1), oT, oS, iv 0, oU, oU, oU, oU, oU, oU] [])) (fun t k => ?_) ?_
      · refine XS.ifNo X_8.here hx rfl (hb hby d21_91) rfl ((if0 _ _).trans (flt (by decide : ¬ ((1 : Int32) < (0 : Int32)))).1) ?_
        exact k
      refine gs (B := T_8.setTop (mkF m 116 #[rv a0, iv 0, iv 0, iv 0, iv (-1), oT, oS, iv 0, oU, oU, oU, oU, oU, oU] [(.double 0)])) (fun t k => ?_) ?_
      · refine XS.dconst0 X_8.here hx rfl (v := 0) (hb hby d21_94) rfl ?_
        refine XS.goto X_8.here hx rfl (pc0 := 95) (pc' := 116) rfl (hb hby d21_95) (by decide) (by decide) ?_
        exact k
      exact ⟨T_8, _, 0, ⟨X_8, e_8, N_6, own_b0⟩, fun t k => k⟩
    · obtain ⟨hw0, hw1, hw2, hw3, hw4, hw5, hw6, hw7, hw8⟩ : own_nw m_3_0 m_3_1 m_3_2 w0 4607182418800017408 (own_pk b2 w3 w2) (own_pk b2 13830554455654793216 4607182418800017408) := by subst hc1; exact hWq
      obtain ⟨T_10, X_10, e_10, st_10⟩ := getF X_6 hx hZ hown (host := "") (Or.inl (ow hw 46 rfl)) Via.refl e_6 Q_3_2 (g := (mkF m 85 #[rv a0, iv 0, iv 0, iv 0, iv (-1), oT, oS, iv 0, oU, oU, oU, oU, oU, oU] [(.ref a0)])) rfl rfl (hb hby d21_85)
      refine gs (fun t k => st_10 t k) ?_
      refine gs (B := T_10.setTop (mkF m 90 #[rv a0, iv 0, iv 0, iv 0, iv (-1), oT, oS, iv 0, oU, oU, oU, oU, oU, oU] [(.int 0), (.ref ro)])) (fun t k => ?_) ?_
      · refine XS.iload X_10.here hx rfl (hb hby d21_88) rfl ?_
        exact k
      obtain ⟨cl_11, Ar_11, q_11, S_11, M_11, H_11, G_11⟩ := id c12
      have hin_11 : ¬ ((0 : Int32) < 0 ∨ cl_11.slots.size ≤ ((0 : Int32)).toNatClampNeg) := inb_of S_11 ⟨by decide, by decide⟩
      have hat_11 : cl_11.slots[((0 : Int32)).toNatClampNeg]? = some (.int (-1)) := H_11.at hin_11 (by subst hc1; rcases hc2 with rfl | rfl <;> rfl)
      refine gs (B := T_10.setTop (mkF m 91 #[rv a0, iv 0, iv 0, iv 0, iv (-1), oT, oS, iv 0, oU, oU, oU, oU, oU, oU] [(.int (-1))])) (fun t k => X_10.iaload hx (j := (0 : Int32)) (v := (.int (-1))) (by rw [(e_10 : _ = _)]; exact Ar_11.1) (State.isArrayOf_alike hZ.alike Ar_11.2.1) Ar_11.2.2 hin_11 hat_11 (g := (mkF m 90 #[rv a0, iv 0, iv 0, iv 0, iv (-1), oT, oS, iv 0, oU, oU, oU, oU, oU, oU] [(.int 0), (.ref ro)])) rfl rfl (hb hby d21_90) t k) ?_
      refine gs (B := T_10.setTop (mkF m 98 #[rv a0, iv 0, iv 0, iv 0, iv (-1), oT, oS, iv 0, oU, oU, oU, oU, oU, oU] [])) (fun t k => ?_) ?_
      · refine XS.ifYes X_10.here hx rfl (pc0 := 91) (pc' := 98) rfl (hb hby d21_91) rfl ((if0 _ _).trans (tlt (by decide : (-1 : Int32) < (0 : Int32))).1) (by decide) (by decide) ?_
        exact k
      refine gs (B := T_10.setTop (mkF m 99 #[rv a0, iv 0, iv 0, iv 0, iv (-1), oT, oS, iv 0, oU, oU, oU, oU, oU, oU] [(.ref a0)])) (fun t k => ?_) ?_
      · refine XS.aloadN X_10.here hx rfl (hb hby d21_98) rfl rfl ?_
        exact k
      obtain ⟨T_12, X_12, e_12, st_12⟩ := getF X_10 hx hZ hown (host := "") (Or.inl (ow hw 43 rfl)) Via.refl e_10 Q_3_1 (g := (mkF m 99 #[rv a0, iv 0, iv 0, iv 0, iv (-1), oT, oS, iv 0, oU, oU, oU, oU, oU, oU] [(.ref a0)])) rfl rfl (hb hby d21_99)
      refine gs (fun t k => st_12 t k) ?_
      refine gs (B := T_12.setTop (mkF m 104 #[rv a0, iv 0, iv 0, iv 0, iv (-1), oT, oS, iv 0, oU, oU, oU, oU, oU, oU] [(.int 0), (.ref va)])) (fun t k => ?_) ?_
      · refine XS.iload X_12.here hx rfl (hb hby d21_102) rfl ?_
        exact k
      obtain ⟨cl_13, Ar_13, q_13, S_13, M_13, H_13, G_13⟩ := id c11
      have hin_13 : ¬ ((0 : Int32) < 0 ∨ cl_13.slots.size ≤ ((0 : Int32)).toNatClampNeg) := inb_of S_13 ⟨by decide, by decide⟩
      have hat_13 : cl_13.slots[((0 : Int32)).toNatClampNeg]? = some (.double w0) := H_13.at hin_13 rfl
      refine gs (B := T_12.setTop (mkF m 105 #[rv a0, iv 0, iv 0, iv 0, iv (-1), oT, oS, iv 0, oU, oU, oU, oU, oU, oU] [(.double w0)])) (fun t k => X_12.daload hx (j := (0 : Int32)) (v := (.double w0)) (by rw [(e_12 : _ = _)]; exact Ar_13.1) (State.isArrayOf_alike hZ.alike Ar_13.2.1) Ar_13.2.2 hin_13 hat_13 (g := (mkF m 104 #[rv a0, iv 0, iv 0, iv 0, iv (-1), oT, oS, iv 0, oU, oU, oU, oU, oU, oU] [(.int 0), (.ref va)])) rfl rfl (hb hby d21_104) t k) ?_
      refine gs (B := T_12.setTop (mkF m 107 #[rv a0, iv 0, iv 0, iv 0, iv (-1), oT, oS, iv 0, oU, oU, oU, oU, oU, oU] [(.ref a0), (.ref a0), (.double w0)])) (fun t k => ?_) ?_
      · refine XS.aloadN X_12.here hx rfl (hb hby d21_105) rfl rfl ?_
        refine XS.aloadN X_12.here hx rfl (hb hby d21_106) rfl rfl ?_
        exact k
      obtain ⟨T_14, X_14, e_14, st_14⟩ := getF X_12 hx hZ hown (host := "") (Or.inl (ow hw 151 rfl)) Via.refl e_12 Qm_3 (g := (mkF m 107 #[rv a0, iv 0, iv 0, iv 0, iv (-1), oT, oS, iv 0, oU, oU, oU, oU, oU, oU] [(.ref a0), (.ref a0), (.double w0)])) rfl rfl (hb hby d21_107)
      refine gs (fun t k => st_14 t k) ?_
      refine gs (B := T_14.setTop (mkF m 112 #[rv a0, iv 0, iv 0, iv 0, iv (-1), oT, oS, iv 0, oU, oU, oU, oU, oU, oU] [(.int 0), (.ref mu_3), (.ref a0), (.double w0)])) (fun t k => ?_) ?_
      · refine XS.iload X_14.here hx rfl (hb hby d21_110) rfl ?_
        exact k
      obtain ⟨cq_15, q_15a, q_15b⟩ := (c2).cell
      obtain ⟨_, _, ⟨T_15, L_15, k_15, n_15⟩, -, X_15, ⟨Lc_15, hQ_15, l_15, y_15, z_15⟩, st_15⟩ := X_14.privateBack hx (y := own_m24) hown (mvT hZ (ow hw 154 rfl)) (mvT hZ (ow hw 155 rfl)) (own_sel hZ (ow hw 8 rfl) (Cond.privateMethod_at (mvP hZ (ow hw 156 rfl) (args := #[]))) (mvT hZ (ow hw 155 rfl)) (by decide)) (Cond.privateMethod_at (mvP hZ (ow hw 156 rfl) (args := #[]))) (mvT hZ (ow hw 157 rfl)) (by decide) (backOf (W := 2) (rmdot l Z av0 hw [] a0 mu_3 (0 : Int32) al ed ca0 ca1 ca2 ca3 ca4 ca0 kd kc0 km_3 m_3_0 m_3_1 m_3_2 0 4607182418800017408 0 T_3.heap n0 Z0__3 c2 Q_3_0 Q_3_4 c3 c4 c5 c10 c6 c18 VM_3 hw0 hw1 hw2 (by decide) (by decide) ⟨by decide, by decide⟩ rfl) hZ (ow hw 157 rfl) (ow hw 9 rfl) (by decide) (by decide)) (g := (mkF m 112 #[rv a0, iv 0, iv 0, iv 0, iv (-1), oT, oS, iv 0, oU, oU, oU, oU, oU, oU] [(.int 0), (.ref mu_3), (.ref a0), (.double w0)])) rfl (by rw [hml]; rfl) (Steps.refl _) (a := a0) (by rw [(e_14 : _ = _)]; exact q_15a) q_15b (argsL := [(.ref mu_3), (.int 0)]) (rest := [(.double w0)]) (lenOf pd_12 rfl) rfl (by show 2 * 0 + _ ≤ _; exact Nat.le_of_eq rfl) (hb hby d21_112) (fun _ _ => ⟨rfl, e_14, (by decide : 1 + 0 ≤ _), (by decide : 3 + 0 ≤ _)⟩)
      dsimp only [Pt.U, Pt.locs, Pt.cells, Pt.slots] at X_15 l_15 y_15 z_15 st_15 hQ_15
      subst l_15 y_15 z_15
      obtain ⟨rfl, N_15q, e_15⟩ := hQ_15
      have N_15 := Fr.app N_6 N_15q
      refine gs (fun t k => st_15.trans k) ?_
      refine gs (B := T_15.setTop (mkF m 116 #[rv a0, iv 0, iv 0, iv 0, iv (-1), oT, oS, iv 0, oU, oU, oU, oU, oU, oU] [(.double (FP.dsub w0 (own_d3 m_3_0 0 m_3_1 4607182418800017408 m_3_2 0)))])) (fun t k => ?_) ?_
      · refine XS.dsubS X_15.here hx rfl (hb hby d21_115) rfl hw5 rfl ?_
        exact k
      exact ⟨T_15, _, (FP.dsub w0 (own_d3 m_3_0 0 m_3_1 4607182418800017408 m_3_2 0)), ⟨X_15, e_15, N_15, hw6⟩, fun t k => k⟩
  refine og (fun t k => st_7 t k) ?_
  refine og (B := T_7.setTop (mkF m 123 #[rv a0, iv 0, iv 0, iv 0, iv (-1), oT, oS, iv 0, oD R_7, oS, oU, oU, oU, oU] [(.int (cmpValue (FP.dcmp R_7 4472406533629990549) .l))])) (fun t k => ?_) ?_
  · refine XS.dstore X_7.here hx rfl (hb hby d21_116) rfl (l' := #[rv a0, iv 0, iv 0, iv 0, iv (-1), oT, oS, iv 0, oD R_7, oS, oU, oU, oU, oU]) rfl ?_
    refine XS.dload X_7.here hx rfl (hb hby d21_118) rfl ?_
    refine XS.dload X_7.here hx rfl (hb hby d21_120) rfl ?_
    refine XS.dcmpS X_7.here hx rfl (hb hby d21_122) rfl rfl ?_
    exact k
  refine og (B := T_7.setTop (mkF m 134 #[rv a0, iv 0, iv 0, iv 0, iv (-1), oT, oS, iv 0, oD R_7, oS, oU, oU, oU, oU] [])) (fun t k => ?_) ?_
  · refine XS.ifYes X_7.here hx rfl (pc0 := 123) (pc' := 134) rfl (hb hby d21_123) rfl ((if0 _ _).trans (flt hR_7).2.2.2) (by decide) (by decide) ?_
    exact k
  refine og (B := T_7.setTop (mkF m 64 #[rv a0, iv 0, iv 0, iv 0, iv (-1), oT, oS, iv 1, oD R_7, oS, oU, oU, oU, oU] [(.ref a0), (.int 1)])) (fun t k => ?_) ?_
  · refine XS.iinc X_7.here hx rfl (hb hby d21_134) rfl (l' := #[rv a0, iv 0, iv 0, iv 0, iv (-1), oT, oS, iv 1, oD R_7, oS, oU, oU, oU, oU]) rfl ?_
    refine XS.goto X_7.here hx rfl (pc0 := 137) (pc' := 61) rfl (hb hby d21_137) (by decide) (by decide) ?_
    refine XS.iload X_7.here hx rfl (hb hby d21_61) rfl ?_
    refine XS.aloadN X_7.here hx rfl (hb hby d21_63) rfl rfl ?_
    exact k
  obtain ⟨T_16, X_16, e_16, st_16⟩ := getF X_7 hx hZ hown (host := "") (Or.inl (ow hw 41 rfl)) Via.refl e_7 Q_3_0 (g := (mkF m 64 #[rv a0, iv 0, iv 0, iv 0, iv (-1), oT, oS, iv 1, oD R_7, oS, oU, oU, oU, oU] [(.ref a0), (.int 1)])) rfl rfl (hb hby d21_64)
  refine og (fun t k => st_16 t k) ?_
  obtain ⟨cq_17, kq_17, q_17a, q_17b, q_17c⟩ := isOf hZ e_16 c3
  obtain ⟨_, _, ⟨T_17, L_17, k_17, n_17⟩, -, X_17, ⟨Lc_17, hQ_17, l_17, y_17, z_17⟩, st_17⟩ := X_16.interfaceBack hx (xi := own_m30) (y := own_m10) hown (mvT hZ (ow hw 58 rfl)) (mvT hZ (ow hw 59 rfl)) (mvT hZ (ow hw 60 rfl)) (mvT hZ (ow hw 61 rfl)) (mvT hZ (ow hw 62 rfl)) (mvT hZ (ow hw 63 rfl)) (mvT hZ (ow hw 64 rfl)) (mvT hZ (ow hw 65 rfl)) (by decide) (backOf (W := 1) (rmalz l Z av0 hw [] al (5 : Int32) T_3.heap n0 Z0__3 c5) hZ (ow hw 66 rfl) (ow hw 19 rfl) (by decide) (by decide)) q_17a q_17b q_17c (g := (mkF m 67 #[rv a0, iv 0, iv 0, iv 0, iv (-1), oT, oS, iv 1, oD R_7, oS, oU, oU, oU, oU] [(.ref al), (.int 1)])) rfl (by rw [hml]; rfl) (Steps.refl _) (argsL := []) (rest := [(.int 1)]) (lenOf pd_5 rfl) rfl (by show 2 * 0 + _ ≤ _; exact Nat.le_of_eq rfl) (hb hby d21_67) (fun _ _ => ⟨rfl, e_16, (by decide : 1 + 0 ≤ _), (by decide : 3 + 0 ≤ _)⟩)
  dsimp only [Pt.U, Pt.locs, Pt.cells, Pt.slots] at X_17 l_17 y_17 z_17 st_17 hQ_17
  subst l_17 y_17 z_17
  obtain ⟨rfl, N_17q, e_17⟩ := hQ_17
  have N_17 := Fr.app N_7 N_17q
  refine og (fun t k => st_17.trans k) ?_
  refine og (B := T_17.setTop (mkF m 75 #[rv a0, iv 0, iv 0, iv 0, iv (-1), oT, oS, iv 1, oD R_7, oS, oU, oU, oU, oU] [])) (fun t k => ?_) ?_
  · refine XS.icmpNo X_17.here hx rfl (hb hby d21_72) rfl (tlt (by decide : (1 : Int32) < (5 : Int32))).2.1 ?_
    exact k
  refine og (B := T_17.setTop (mkF m 76 #[rv a0, iv 0, iv 0, iv 0, iv (-1), oT, oS, iv 1, oD R_7, oS, oU, oU, oU, oU] [(.int 0)])) (fun t k => ?_) ?_
  · refine XS.iloadN X_17.here hx rfl (hb hby d21_75) rfl ?_
    exact k
  refine og (B := T_17.setTop (mkF m 84 #[rv a0, iv 0, iv 0, iv 0, iv (-1), oT, oS, iv 1, oD R_7, oS, oU, oU, oU, oU] [])) (fun t k => ?_) ?_
  · refine XS.ifYes X_17.here hx rfl (pc0 := 76) (pc' := 84) rfl (hb hby d21_76) rfl ((if0 _ _).trans (teq (by decide : (0 : Int32) = (0 : Int32))).1) (by decide) (by decide) ?_
    exact k
  refine og (B := T_17.setTop (mkF m 85 #[rv a0, iv 0, iv 0, iv 0, iv (-1), oT, oS, iv 1, oD R_7, oS, oU, oU, oU, oU] [(.ref a0)])) (fun t k => ?_) ?_
  · refine XS.aloadN X_17.here hx rfl (hb hby d21_84) rfl rfl ?_
    exact k
  obtain ⟨T_18, L_18, R_18, ⟨X_18, e_18, N_18, hR_18⟩, st_18⟩ : ∃ (T' : State) (L' : List Loc) (R : UInt64), (Stand p l e ({ frames := 4, cells := 1, slots := 3, locals := 60 } : Room) s m #[(.ref a0)] below meth c T' L' 1 3 ∧ T'.heap = T_3.heap ∧ Fr n0 L' ∧ ¬ ((0 : Int32) < (cmpValue (FP.dcmp R 4472406533629990549) .l))) ∧ ∀ t, Steps p.tables e below (T'.setTop (mkF m 116 #[rv a0, iv 0, iv 0, iv 0, iv (-1), oT, oS, iv 1, oD R_7, oS, oU, oU, oU, oU] [(.double R)])) t → Steps p.tables e below (T_17.setTop (mkF m 85 #[rv a0, iv 0, iv 0, iv 0, iv (-1), oT, oS, iv 1, oD R_7, oS, oU, oU, oU, oU] [(.ref a0)])) t := by
    rcases hc1 with hc1 | hc1
    · obtain ⟨hw0, hw1, hw2, hw3, hw4, hw5, hw6, hw7, hw8⟩ : own_nw m_3_0 m_3_1 m_3_2 w1 13830554455654793216 (own_pk b2 w3 w2) (own_pk b2 13830554455654793216 4607182418800017408) := by subst hc1; exact hWq
      obtain ⟨T_19, X_19, e_19, st_19⟩ := getF X_17 hx hZ hown (host := "") (Or.inl (ow hw 46 rfl)) Via.refl e_17 Q_3_2 (g := (mkF m 85 #[rv a0, iv 0, iv 0, iv 0, iv (-1), oT, oS, iv 1, oD R_7, oS, oU, oU, oU, oU] [(.ref a0)])) rfl rfl (hb hby d21_85)
      refine gs (fun t k => st_19 t k) ?_
      refine gs (B := T_19.setTop (mkF m 90 #[rv a0, iv 0, iv 0, iv 0, iv (-1), oT, oS, iv 1, oD R_7, oS, oU, oU, oU, oU] [(.int 1), (.ref ro)])) (fun t k => ?_) ?_
      · refine XS.iload X_19.here hx rfl (hb hby d21_88) rfl ?_
        exact k
      obtain ⟨cl_20, Ar_20, q_20, S_20, M_20, H_20, G_20⟩ := id c12
      have hin_20 : ¬ ((1 : Int32) < 0 ∨ cl_20.slots.size ≤ ((1 : Int32)).toNatClampNeg) := inb_of S_20 ⟨by decide, by decide⟩
      have hat_20 : cl_20.slots[((1 : Int32)).toNatClampNeg]? = some (.int (-1)) := H_20.at hin_20 (by subst hc1; rcases hc2 with rfl | rfl <;> rfl)
      refine gs (B := T_19.setTop (mkF m 91 #[rv a0, iv 0, iv 0, iv 0, iv (-1), oT, oS, iv 1, oD R_7, oS, oU, oU, oU, oU] [(.int (-1))])) (fun t k => X_19.iaload hx (j := (1 : Int32)) (v := (.int (-1))) (by rw [(e_19 : _ = _)]; exact Ar_20.1) (State.isArrayOf_alike hZ.alike Ar_20.2.1) Ar_20.2.2 hin_20 hat_20 (g := (mkF m 90 #[rv a0, iv 0, iv 0, iv 0, iv (-1), oT, oS, iv 1, oD R_7, oS, oU, oU, oU, oU] [(.int 1), (.ref ro)])) rfl rfl (hb hby d21_90) t k) ?_
      refine gs (B := T_19.setTop (mkF m 98 #[rv a0, iv 0, iv 0, iv 0, iv (-1), oT, oS, iv 1, oD R_7, oS, oU, oU, oU, oU] [])) (fun t k => ?_) ?_
      · refine XS.ifYes X_19.here hx rfl (pc0 := 91) (pc' := 98) rfl (hb hby d21_91) rfl ((if0 _ _).trans (tlt (by decide : (-1 : Int32) < (0 : Int32))).1) (by decide) (by decide) ?_
        exact k
      refine gs (B := T_19.setTop (mkF m 99 #[rv a0, iv 0, iv 0, iv 0, iv (-1), oT, oS, iv 1, oD R_7, oS, oU, oU, oU, oU] [(.ref a0)])) (fun t k => ?_) ?_
      · refine XS.aloadN X_19.here hx rfl (hb hby d21_98) rfl rfl ?_
        exact k
      obtain ⟨T_21, X_21, e_21, st_21⟩ := getF X_19 hx hZ hown (host := "") (Or.inl (ow hw 43 rfl)) Via.refl e_19 Q_3_1 (g := (mkF m 99 #[rv a0, iv 0, iv 0, iv 0, iv (-1), oT, oS, iv 1, oD R_7, oS, oU, oU, oU, oU] [(.ref a0)])) rfl rfl (hb hby d21_99)
      refine gs (fun t k => st_21 t k) ?_
      refine gs (B := T_21.setTop (mkF m 104 #[rv a0, iv 0, iv 0, iv 0, iv (-1), oT, oS, iv 1, oD R_7, oS, oU, oU, oU, oU] [(.int 1), (.ref va)])) (fun t k => ?_) ?_
      · refine XS.iload X_21.here hx rfl (hb hby d21_102) rfl ?_
        exact k
      obtain ⟨cl_22, Ar_22, q_22, S_22, M_22, H_22, G_22⟩ := id c11
      have hin_22 : ¬ ((1 : Int32) < 0 ∨ cl_22.slots.size ≤ ((1 : Int32)).toNatClampNeg) := inb_of S_22 ⟨by decide, by decide⟩
      have hat_22 : cl_22.slots[((1 : Int32)).toNatClampNeg]? = some (.double w1) := H_22.at hin_22 rfl
      refine gs (B := T_21.setTop (mkF m 105 #[rv a0, iv 0, iv 0, iv 0, iv (-1), oT, oS, iv 1, oD R_7, oS, oU, oU, oU, oU] [(.double w1)])) (fun t k => X_21.daload hx (j := (1 : Int32)) (v := (.double w1)) (by rw [(e_21 : _ = _)]; exact Ar_22.1) (State.isArrayOf_alike hZ.alike Ar_22.2.1) Ar_22.2.2 hin_22 hat_22 (g := (mkF m 104 #[rv a0, iv 0, iv 0, iv 0, iv (-1), oT, oS, iv 1, oD R_7, oS, oU, oU, oU, oU] [(.int 1), (.ref va)])) rfl rfl (hb hby d21_104) t k) ?_
      refine gs (B := T_21.setTop (mkF m 107 #[rv a0, iv 0, iv 0, iv 0, iv (-1), oT, oS, iv 1, oD R_7, oS, oU, oU, oU, oU] [(.ref a0), (.ref a0), (.double w1)])) (fun t k => ?_) ?_
      · refine XS.aloadN X_21.here hx rfl (hb hby d21_105) rfl rfl ?_
        refine XS.aloadN X_21.here hx rfl (hb hby d21_106) rfl rfl ?_
        exact k
      obtain ⟨T_23, X_23, e_23, st_23⟩ := getF X_21 hx hZ hown (host := "") (Or.inl (ow hw 151 rfl)) Via.refl e_21 Qm_3 (g := (mkF m 107 #[rv a0, iv 0, iv 0, iv 0, iv (-1), oT, oS, iv 1, oD R_7, oS, oU, oU, oU, oU] [(.ref a0), (.ref a0), (.double w1)])) rfl rfl (hb hby d21_107)
      refine gs (fun t k => st_23 t k) ?_
      refine gs (B := T_23.setTop (mkF m 112 #[rv a0, iv 0, iv 0, iv 0, iv (-1), oT, oS, iv 1, oD R_7, oS, oU, oU, oU, oU] [(.int 1), (.ref mu_3), (.ref a0), (.double w1)])) (fun t k => ?_) ?_
      · refine XS.iload X_23.here hx rfl (hb hby d21_110) rfl ?_
        exact k
      obtain ⟨cq_24, q_24a, q_24b⟩ := (c2).cell
      obtain ⟨_, _, ⟨T_24, L_24, k_24, n_24⟩, -, X_24, ⟨Lc_24, hQ_24, l_24, y_24, z_24⟩, st_24⟩ := X_23.privateBack hx (y := own_m24) hown (mvT hZ (ow hw 154 rfl)) (mvT hZ (ow hw 155 rfl)) (own_sel hZ (ow hw 8 rfl) (Cond.privateMethod_at (mvP hZ (ow hw 156 rfl) (args := #[]))) (mvT hZ (ow hw 155 rfl)) (by decide)) (Cond.privateMethod_at (mvP hZ (ow hw 156 rfl) (args := #[]))) (mvT hZ (ow hw 157 rfl)) (by decide) (backOf (W := 2) (rmdot l Z av0 hw [] a0 mu_3 (1 : Int32) al ed ca0 ca1 ca2 ca3 ca4 ca1 kd kc1 km_3 m_3_0 m_3_1 m_3_2 0 13830554455654793216 0 T_3.heap n0 Z0__3 c2 Q_3_0 Q_3_4 c3 c4 c5 c10 c7 c19 VM_3 hw0 hw1 hw2 (by decide) (by decide) ⟨by decide, by decide⟩ rfl) hZ (ow hw 157 rfl) (ow hw 9 rfl) (by decide) (by decide)) (g := (mkF m 112 #[rv a0, iv 0, iv 0, iv 0, iv (-1), oT, oS, iv 1, oD R_7, oS, oU, oU, oU, oU] [(.int 1), (.ref mu_3), (.ref a0), (.double w1)])) rfl (by rw [hml]; rfl) (Steps.refl _) (a := a0) (by rw [(e_23 : _ = _)]; exact q_24a) q_24b (argsL := [(.ref mu_3), (.int 1)]) (rest := [(.double w1)]) (lenOf pd_12 rfl) rfl (by show 2 * 0 + _ ≤ _; exact Nat.le_of_eq rfl) (hb hby d21_112) (fun _ _ => ⟨rfl, e_23, (by decide : 1 + 0 ≤ _), (by decide : 3 + 0 ≤ _)⟩)
      dsimp only [Pt.U, Pt.locs, Pt.cells, Pt.slots] at X_24 l_24 y_24 z_24 st_24 hQ_24
      subst l_24 y_24 z_24
      obtain ⟨rfl, N_24q, e_24⟩ := hQ_24
      have N_24 := Fr.app N_17 N_24q
      refine gs (fun t k => st_24.trans k) ?_
      refine gs (B := T_24.setTop (mkF m 116 #[rv a0, iv 0, iv 0, iv 0, iv (-1), oT, oS, iv 1, oD R_7, oS, oU, oU, oU, oU] [(.double (FP.dsub w1 (own_d3 m_3_0 0 m_3_1 13830554455654793216 m_3_2 0)))])) (fun t k => ?_) ?_
      · refine XS.dsubS X_24.here hx rfl (hb hby d21_115) rfl hw5 rfl ?_
        exact k
      exact ⟨T_24, _, (FP.dsub w1 (own_d3 m_3_0 0 m_3_1 13830554455654793216 m_3_2 0)), ⟨X_24, e_24, N_24, hw6⟩, fun t k => k⟩
    · obtain ⟨T_25, X_25, e_25, st_25⟩ := getF X_17 hx hZ hown (host := "") (Or.inl (ow hw 46 rfl)) Via.refl e_17 Q_3_2 (g := (mkF m 85 #[rv a0, iv 0, iv 0, iv 0, iv (-1), oT, oS, iv 1, oD R_7, oS, oU, oU, oU, oU] [(.ref a0)])) rfl rfl (hb hby d21_85)
      refine gs (fun t k => st_25 t k) ?_
      refine gs (B := T_25.setTop (mkF m 90 #[rv a0, iv 0, iv 0, iv 0, iv (-1), oT, oS, iv 1, oD R_7, oS, oU, oU, oU, oU] [(.int 1), (.ref ro)])) (fun t k => ?_) ?_
      · refine XS.iload X_25.here hx rfl (hb hby d21_88) rfl ?_
        exact k
      obtain ⟨cl_26, Ar_26, q_26, S_26, M_26, H_26, G_26⟩ := id c12
      have hin_26 : ¬ ((1 : Int32) < 0 ∨ cl_26.slots.size ≤ ((1 : Int32)).toNatClampNeg) := inb_of S_26 ⟨by decide, by decide⟩
      have hat_26 : cl_26.slots[((1 : Int32)).toNatClampNeg]? = some (.int 1) := H_26.at hin_26 (by subst hc1; rcases hc2 with rfl | rfl <;> rfl)
      refine gs (B := T_25.setTop (mkF m 91 #[rv a0, iv 0, iv 0, iv 0, iv (-1), oT, oS, iv 1, oD R_7, oS, oU, oU, oU, oU] [(.int 1)])) (fun t k => X_25.iaload hx (j := (1 : Int32)) (v := (.int 1)) (by rw [(e_25 : _ = _)]; exact Ar_26.1) (State.isArrayOf_alike hZ.alike Ar_26.2.1) Ar_26.2.2 hin_26 hat_26 (g := (mkF m 90 #[rv a0, iv 0, iv 0, iv 0, iv (-1), oT, oS, iv 1, oD R_7, oS, oU, oU, oU, oU] [(.int 1), (.ref ro)])) rfl rfl (hb hby d21_90) t k) ?_
      refine gs (B := T_25.setTop (mkF m 94 #[rv a0, iv 0, iv 0, iv 0, iv (-1), oT, oS, iv 1, oD R_7, oS, oU, oU, oU, oU] [])) (fun t k => ?_) ?_
      · refine XS.ifNo X_25.here hx rfl (hb hby d21_91) rfl ((if0 _ _).trans (flt (by decide : ¬ ((1 : Int32) < (0 : Int32)))).1) ?_
        exact k
      refine gs (B := T_25.setTop (mkF m 116 #[rv a0, iv 0, iv 0, iv 0, iv (-1), oT, oS, iv 1, oD R_7, oS, oU, oU, oU, oU] [(.double 0)])) (fun t k => ?_) ?_
      · refine XS.dconst0 X_25.here hx rfl (v := 0) (hb hby d21_94) rfl ?_
        refine XS.goto X_25.here hx rfl (pc0 := 95) (pc' := 116) rfl (hb hby d21_95) (by decide) (by decide) ?_
        exact k
      exact ⟨T_25, _, 0, ⟨X_25, e_25, N_17, own_b0⟩, fun t k => k⟩
  refine og (fun t k => st_18 t k) ?_
  refine og (B := T_18.setTop (mkF m 123 #[rv a0, iv 0, iv 0, iv 0, iv (-1), oT, oS, iv 1, oD R_18, oS, oU, oU, oU, oU] [(.int (cmpValue (FP.dcmp R_18 4472406533629990549) .l))])) (fun t k => ?_) ?_
  · refine XS.dstore X_18.here hx rfl (hb hby d21_116) rfl (l' := #[rv a0, iv 0, iv 0, iv 0, iv (-1), oT, oS, iv 1, oD R_18, oS, oU, oU, oU, oU]) rfl ?_
    refine XS.dload X_18.here hx rfl (hb hby d21_118) rfl ?_
    refine XS.dload X_18.here hx rfl (hb hby d21_120) rfl ?_
    refine XS.dcmpS X_18.here hx rfl (hb hby d21_122) rfl rfl ?_
    exact k
  refine og (B := T_18.setTop (mkF m 134 #[rv a0, iv 0, iv 0, iv 0, iv (-1), oT, oS, iv 1, oD R_18, oS, oU, oU, oU, oU] [])) (fun t k => ?_) ?_
  · refine XS.ifYes X_18.here hx rfl (pc0 := 123) (pc' := 134) rfl (hb hby d21_123) rfl ((if0 _ _).trans (flt hR_18).2.2.2) (by decide) (by decide) ?_
    exact k
  refine og (B := T_18.setTop (mkF m 64 #[rv a0, iv 0, iv 0, iv 0, iv (-1), oT, oS, iv 2, oD R_18, oS, oU, oU, oU, oU] [(.ref a0), (.int 2)])) (fun t k => ?_) ?_
  · refine XS.iinc X_18.here hx rfl (hb hby d21_134) rfl (l' := #[rv a0, iv 0, iv 0, iv 0, iv (-1), oT, oS, iv 2, oD R_18, oS, oU, oU, oU, oU]) rfl ?_
    refine XS.goto X_18.here hx rfl (pc0 := 137) (pc' := 61) rfl (hb hby d21_137) (by decide) (by decide) ?_
    refine XS.iload X_18.here hx rfl (hb hby d21_61) rfl ?_
    refine XS.aloadN X_18.here hx rfl (hb hby d21_63) rfl rfl ?_
    exact k
  obtain ⟨T_27, X_27, e_27, st_27⟩ := getF X_18 hx hZ hown (host := "") (Or.inl (ow hw 41 rfl)) Via.refl e_18 Q_3_0 (g := (mkF m 64 #[rv a0, iv 0, iv 0, iv 0, iv (-1), oT, oS, iv 2, oD R_18, oS, oU, oU, oU, oU] [(.ref a0), (.int 2)])) rfl rfl (hb hby d21_64)
  refine og (fun t k => st_27 t k) ?_
  obtain ⟨cq_28, kq_28, q_28a, q_28b, q_28c⟩ := isOf hZ e_27 c3
  obtain ⟨_, _, ⟨T_28, L_28, k_28, n_28⟩, -, X_28, ⟨Lc_28, hQ_28, l_28, y_28, z_28⟩, st_28⟩ := X_27.interfaceBack hx (xi := own_m30) (y := own_m10) hown (mvT hZ (ow hw 58 rfl)) (mvT hZ (ow hw 59 rfl)) (mvT hZ (ow hw 60 rfl)) (mvT hZ (ow hw 61 rfl)) (mvT hZ (ow hw 62 rfl)) (mvT hZ (ow hw 63 rfl)) (mvT hZ (ow hw 64 rfl)) (mvT hZ (ow hw 65 rfl)) (by decide) (backOf (W := 1) (rmalz l Z av0 hw [] al (5 : Int32) T_3.heap n0 Z0__3 c5) hZ (ow hw 66 rfl) (ow hw 19 rfl) (by decide) (by decide)) q_28a q_28b q_28c (g := (mkF m 67 #[rv a0, iv 0, iv 0, iv 0, iv (-1), oT, oS, iv 2, oD R_18, oS, oU, oU, oU, oU] [(.ref al), (.int 2)])) rfl (by rw [hml]; rfl) (Steps.refl _) (argsL := []) (rest := [(.int 2)]) (lenOf pd_5 rfl) rfl (by show 2 * 0 + _ ≤ _; exact Nat.le_of_eq rfl) (hb hby d21_67) (fun _ _ => ⟨rfl, e_27, (by decide : 1 + 0 ≤ _), (by decide : 3 + 0 ≤ _)⟩)
  dsimp only [Pt.U, Pt.locs, Pt.cells, Pt.slots] at X_28 l_28 y_28 z_28 st_28 hQ_28
  subst l_28 y_28 z_28
  obtain ⟨rfl, N_28q, e_28⟩ := hQ_28
  have N_28 := Fr.app N_18 N_28q
  refine og (fun t k => st_28.trans k) ?_
  refine og (B := T_28.setTop (mkF m 75 #[rv a0, iv 0, iv 0, iv 0, iv (-1), oT, oS, iv 2, oD R_18, oS, oU, oU, oU, oU] [])) (fun t k => ?_) ?_
  · refine XS.icmpNo X_28.here hx rfl (hb hby d21_72) rfl (tlt (by decide : (2 : Int32) < (5 : Int32))).2.1 ?_
    exact k
  refine og (B := T_28.setTop (mkF m 76 #[rv a0, iv 0, iv 0, iv 0, iv (-1), oT, oS, iv 2, oD R_18, oS, oU, oU, oU, oU] [(.int 0)])) (fun t k => ?_) ?_
  · refine XS.iloadN X_28.here hx rfl (hb hby d21_75) rfl ?_
    exact k
  refine og (B := T_28.setTop (mkF m 84 #[rv a0, iv 0, iv 0, iv 0, iv (-1), oT, oS, iv 2, oD R_18, oS, oU, oU, oU, oU] [])) (fun t k => ?_) ?_
  · refine XS.ifYes X_28.here hx rfl (pc0 := 76) (pc' := 84) rfl (hb hby d21_76) rfl ((if0 _ _).trans (teq (by decide : (0 : Int32) = (0 : Int32))).1) (by decide) (by decide) ?_
    exact k
  refine og (B := T_28.setTop (mkF m 85 #[rv a0, iv 0, iv 0, iv 0, iv (-1), oT, oS, iv 2, oD R_18, oS, oU, oU, oU, oU] [(.ref a0)])) (fun t k => ?_) ?_
  · refine XS.aloadN X_28.here hx rfl (hb hby d21_84) rfl rfl ?_
    exact k
  obtain ⟨T_29, L_29, R_29, ⟨X_29, e_29, N_29, hR_29⟩, st_29⟩ : ∃ (T' : State) (L' : List Loc) (R : UInt64), (Stand p l e ({ frames := 4, cells := 1, slots := 3, locals := 60 } : Room) s m #[(.ref a0)] below meth c T' L' 1 3 ∧ T'.heap = T_3.heap ∧ Fr n0 L' ∧ ¬ ((0 : Int32) < (cmpValue (FP.dcmp R 4472406533629990549) .l))) ∧ ∀ t, Steps p.tables e below (T'.setTop (mkF m 116 #[rv a0, iv 0, iv 0, iv 0, iv (-1), oT, oS, iv 2, oD R_18, oS, oU, oU, oU, oU] [(.double R)])) t → Steps p.tables e below (T_28.setTop (mkF m 85 #[rv a0, iv 0, iv 0, iv 0, iv (-1), oT, oS, iv 2, oD R_18, oS, oU, oU, oU, oU] [(.ref a0)])) t := by
    rcases hc2 with hc2 | hc2
    · obtain ⟨T_30, X_30, e_30, st_30⟩ := getF X_28 hx hZ hown (host := "") (Or.inl (ow hw 46 rfl)) Via.refl e_28 Q_3_2 (g := (mkF m 85 #[rv a0, iv 0, iv 0, iv 0, iv (-1), oT, oS, iv 2, oD R_18, oS, oU, oU, oU, oU] [(.ref a0)])) rfl rfl (hb hby d21_85)
      refine gs (fun t k => st_30 t k) ?_
      refine gs (B := T_30.setTop (mkF m 90 #[rv a0, iv 0, iv 0, iv 0, iv (-1), oT, oS, iv 2, oD R_18, oS, oU, oU, oU, oU] [(.int 2), (.ref ro)])) (fun t k => ?_) ?_
      · refine XS.iload X_30.here hx rfl (hb hby d21_88) rfl ?_
        exact k
      obtain ⟨cl_31, Ar_31, q_31, S_31, M_31, H_31, G_31⟩ := id c12
      have hin_31 : ¬ ((2 : Int32) < 0 ∨ cl_31.slots.size ≤ ((2 : Int32)).toNatClampNeg) := inb_of S_31 ⟨by decide, by decide⟩
      have hat_31 : cl_31.slots[((2 : Int32)).toNatClampNeg]? = some (.int 2) := H_31.at hin_31 (by subst hc2; rcases hc1 with rfl | rfl <;> rfl)
      refine gs (B := T_30.setTop (mkF m 91 #[rv a0, iv 0, iv 0, iv 0, iv (-1), oT, oS, iv 2, oD R_18, oS, oU, oU, oU, oU] [(.int 2)])) (fun t k => X_30.iaload hx (j := (2 : Int32)) (v := (.int 2)) (by rw [(e_30 : _ = _)]; exact Ar_31.1) (State.isArrayOf_alike hZ.alike Ar_31.2.1) Ar_31.2.2 hin_31 hat_31 (g := (mkF m 90 #[rv a0, iv 0, iv 0, iv 0, iv (-1), oT, oS, iv 2, oD R_18, oS, oU, oU, oU, oU] [(.int 2), (.ref ro)])) rfl rfl (hb hby d21_90) t k) ?_
      refine gs (B := T_30.setTop (mkF m 94 #[rv a0, iv 0, iv 0, iv 0, iv (-1), oT, oS, iv 2, oD R_18, oS, oU, oU, oU, oU] [])) (fun t k => ?_) ?_
      · refine XS.ifNo X_30.here hx rfl (hb hby d21_91) rfl ((if0 _ _).trans (flt (by decide : ¬ ((2 : Int32) < (0 : Int32)))).1) ?_
        exact k
      refine gs (B := T_30.setTop (mkF m 116 #[rv a0, iv 0, iv 0, iv 0, iv (-1), oT, oS, iv 2, oD R_18, oS, oU, oU, oU, oU] [(.double 0)])) (fun t k => ?_) ?_
      · refine XS.dconst0 X_30.here hx rfl (v := 0) (hb hby d21_94) rfl ?_
        refine XS.goto X_30.here hx rfl (pc0 := 95) (pc' := 116) rfl (hb hby d21_95) (by decide) (by decide) ?_
        exact k
      exact ⟨T_30, _, 0, ⟨X_30, e_30, N_28, own_b0⟩, fun t k => k⟩
    · obtain ⟨hw0, hw1, hw2, hw3, hw4, hw5, hw6, hw7, hw8⟩ : own_nw m_3_0 m_3_1 m_3_2 (own_pk b1 w1 w0) (own_pk b1 13830554455654793216 4607182418800017408) w2 4607182418800017408 := by subst hc2; exact hWq
      obtain ⟨T_32, X_32, e_32, st_32⟩ := getF X_28 hx hZ hown (host := "") (Or.inl (ow hw 46 rfl)) Via.refl e_28 Q_3_2 (g := (mkF m 85 #[rv a0, iv 0, iv 0, iv 0, iv (-1), oT, oS, iv 2, oD R_18, oS, oU, oU, oU, oU] [(.ref a0)])) rfl rfl (hb hby d21_85)
      refine gs (fun t k => st_32 t k) ?_
      refine gs (B := T_32.setTop (mkF m 90 #[rv a0, iv 0, iv 0, iv 0, iv (-1), oT, oS, iv 2, oD R_18, oS, oU, oU, oU, oU] [(.int 2), (.ref ro)])) (fun t k => ?_) ?_
      · refine XS.iload X_32.here hx rfl (hb hby d21_88) rfl ?_
        exact k
      obtain ⟨cl_33, Ar_33, q_33, S_33, M_33, H_33, G_33⟩ := id c12
      have hin_33 : ¬ ((2 : Int32) < 0 ∨ cl_33.slots.size ≤ ((2 : Int32)).toNatClampNeg) := inb_of S_33 ⟨by decide, by decide⟩
      have hat_33 : cl_33.slots[((2 : Int32)).toNatClampNeg]? = some (.int (-1)) := H_33.at hin_33 (by subst hc2; rcases hc1 with rfl | rfl <;> rfl)
      refine gs (B := T_32.setTop (mkF m 91 #[rv a0, iv 0, iv 0, iv 0, iv (-1), oT, oS, iv 2, oD R_18, oS, oU, oU, oU, oU] [(.int (-1))])) (fun t k => X_32.iaload hx (j := (2 : Int32)) (v := (.int (-1))) (by rw [(e_32 : _ = _)]; exact Ar_33.1) (State.isArrayOf_alike hZ.alike Ar_33.2.1) Ar_33.2.2 hin_33 hat_33 (g := (mkF m 90 #[rv a0, iv 0, iv 0, iv 0, iv (-1), oT, oS, iv 2, oD R_18, oS, oU, oU, oU, oU] [(.int 2), (.ref ro)])) rfl rfl (hb hby d21_90) t k) ?_
      refine gs (B := T_32.setTop (mkF m 98 #[rv a0, iv 0, iv 0, iv 0, iv (-1), oT, oS, iv 2, oD R_18, oS, oU, oU, oU, oU] [])) (fun t k => ?_) ?_
      · refine XS.ifYes X_32.here hx rfl (pc0 := 91) (pc' := 98) rfl (hb hby d21_91) rfl ((if0 _ _).trans (tlt (by decide : (-1 : Int32) < (0 : Int32))).1) (by decide) (by decide) ?_
        exact k
      refine gs (B := T_32.setTop (mkF m 99 #[rv a0, iv 0, iv 0, iv 0, iv (-1), oT, oS, iv 2, oD R_18, oS, oU, oU, oU, oU] [(.ref a0)])) (fun t k => ?_) ?_
      · refine XS.aloadN X_32.here hx rfl (hb hby d21_98) rfl rfl ?_
        exact k
      obtain ⟨T_34, X_34, e_34, st_34⟩ := getF X_32 hx hZ hown (host := "") (Or.inl (ow hw 43 rfl)) Via.refl e_32 Q_3_1 (g := (mkF m 99 #[rv a0, iv 0, iv 0, iv 0, iv (-1), oT, oS, iv 2, oD R_18, oS, oU, oU, oU, oU] [(.ref a0)])) rfl rfl (hb hby d21_99)
      refine gs (fun t k => st_34 t k) ?_
      refine gs (B := T_34.setTop (mkF m 104 #[rv a0, iv 0, iv 0, iv 0, iv (-1), oT, oS, iv 2, oD R_18, oS, oU, oU, oU, oU] [(.int 2), (.ref va)])) (fun t k => ?_) ?_
      · refine XS.iload X_34.here hx rfl (hb hby d21_102) rfl ?_
        exact k
      obtain ⟨cl_35, Ar_35, q_35, S_35, M_35, H_35, G_35⟩ := id c11
      have hin_35 : ¬ ((2 : Int32) < 0 ∨ cl_35.slots.size ≤ ((2 : Int32)).toNatClampNeg) := inb_of S_35 ⟨by decide, by decide⟩
      have hat_35 : cl_35.slots[((2 : Int32)).toNatClampNeg]? = some (.double w2) := H_35.at hin_35 rfl
      refine gs (B := T_34.setTop (mkF m 105 #[rv a0, iv 0, iv 0, iv 0, iv (-1), oT, oS, iv 2, oD R_18, oS, oU, oU, oU, oU] [(.double w2)])) (fun t k => X_34.daload hx (j := (2 : Int32)) (v := (.double w2)) (by rw [(e_34 : _ = _)]; exact Ar_35.1) (State.isArrayOf_alike hZ.alike Ar_35.2.1) Ar_35.2.2 hin_35 hat_35 (g := (mkF m 104 #[rv a0, iv 0, iv 0, iv 0, iv (-1), oT, oS, iv 2, oD R_18, oS, oU, oU, oU, oU] [(.int 2), (.ref va)])) rfl rfl (hb hby d21_104) t k) ?_
      refine gs (B := T_34.setTop (mkF m 107 #[rv a0, iv 0, iv 0, iv 0, iv (-1), oT, oS, iv 2, oD R_18, oS, oU, oU, oU, oU] [(.ref a0), (.ref a0), (.double w2)])) (fun t k => ?_) ?_
      · refine XS.aloadN X_34.here hx rfl (hb hby d21_105) rfl rfl ?_
        refine XS.aloadN X_34.here hx rfl (hb hby d21_106) rfl rfl ?_
        exact k
      obtain ⟨T_36, X_36, e_36, st_36⟩ := getF X_34 hx hZ hown (host := "") (Or.inl (ow hw 151 rfl)) Via.refl e_34 Qm_3 (g := (mkF m 107 #[rv a0, iv 0, iv 0, iv 0, iv (-1), oT, oS, iv 2, oD R_18, oS, oU, oU, oU, oU] [(.ref a0), (.ref a0), (.double w2)])) rfl rfl (hb hby d21_107)
      refine gs (fun t k => st_36 t k) ?_
      refine gs (B := T_36.setTop (mkF m 112 #[rv a0, iv 0, iv 0, iv 0, iv (-1), oT, oS, iv 2, oD R_18, oS, oU, oU, oU, oU] [(.int 2), (.ref mu_3), (.ref a0), (.double w2)])) (fun t k => ?_) ?_
      · refine XS.iload X_36.here hx rfl (hb hby d21_110) rfl ?_
        exact k
      obtain ⟨cq_37, q_37a, q_37b⟩ := (c2).cell
      obtain ⟨_, _, ⟨T_37, L_37, k_37, n_37⟩, -, X_37, ⟨Lc_37, hQ_37, l_37, y_37, z_37⟩, st_37⟩ := X_36.privateBack hx (y := own_m24) hown (mvT hZ (ow hw 154 rfl)) (mvT hZ (ow hw 155 rfl)) (own_sel hZ (ow hw 8 rfl) (Cond.privateMethod_at (mvP hZ (ow hw 156 rfl) (args := #[]))) (mvT hZ (ow hw 155 rfl)) (by decide)) (Cond.privateMethod_at (mvP hZ (ow hw 156 rfl) (args := #[]))) (mvT hZ (ow hw 157 rfl)) (by decide) (backOf (W := 2) (rmdot l Z av0 hw [] a0 mu_3 (2 : Int32) al ed ca0 ca1 ca2 ca3 ca4 ca2 kd kc2 km_3 m_3_0 m_3_1 m_3_2 0 0 4607182418800017408 T_3.heap n0 Z0__3 c2 Q_3_0 Q_3_4 c3 c4 c5 c10 c8 c20 VM_3 hw0 hw3 hw4 (by decide) (by decide) ⟨by decide, by decide⟩ rfl) hZ (ow hw 157 rfl) (ow hw 9 rfl) (by decide) (by decide)) (g := (mkF m 112 #[rv a0, iv 0, iv 0, iv 0, iv (-1), oT, oS, iv 2, oD R_18, oS, oU, oU, oU, oU] [(.int 2), (.ref mu_3), (.ref a0), (.double w2)])) rfl (by rw [hml]; rfl) (Steps.refl _) (a := a0) (by rw [(e_36 : _ = _)]; exact q_37a) q_37b (argsL := [(.ref mu_3), (.int 2)]) (rest := [(.double w2)]) (lenOf pd_12 rfl) rfl (by show 2 * 0 + _ ≤ _; exact Nat.le_of_eq rfl) (hb hby d21_112) (fun _ _ => ⟨rfl, e_36, (by decide : 1 + 0 ≤ _), (by decide : 3 + 0 ≤ _)⟩)
      dsimp only [Pt.U, Pt.locs, Pt.cells, Pt.slots] at X_37 l_37 y_37 z_37 st_37 hQ_37
      subst l_37 y_37 z_37
      obtain ⟨rfl, N_37q, e_37⟩ := hQ_37
      have N_37 := Fr.app N_28 N_37q
      refine gs (fun t k => st_37.trans k) ?_
      refine gs (B := T_37.setTop (mkF m 116 #[rv a0, iv 0, iv 0, iv 0, iv (-1), oT, oS, iv 2, oD R_18, oS, oU, oU, oU, oU] [(.double (FP.dsub w2 (own_d3 m_3_0 0 m_3_1 0 m_3_2 4607182418800017408)))])) (fun t k => ?_) ?_
      · refine XS.dsubS X_37.here hx rfl (hb hby d21_115) rfl hw7 rfl ?_
        exact k
      exact ⟨T_37, _, (FP.dsub w2 (own_d3 m_3_0 0 m_3_1 0 m_3_2 4607182418800017408)), ⟨X_37, e_37, N_37, hw8⟩, fun t k => k⟩
  refine og (fun t k => st_29 t k) ?_
  refine og (B := T_29.setTop (mkF m 123 #[rv a0, iv 0, iv 0, iv 0, iv (-1), oT, oS, iv 2, oD R_29, oS, oU, oU, oU, oU] [(.int (cmpValue (FP.dcmp R_29 4472406533629990549) .l))])) (fun t k => ?_) ?_
  · refine XS.dstore X_29.here hx rfl (hb hby d21_116) rfl (l' := #[rv a0, iv 0, iv 0, iv 0, iv (-1), oT, oS, iv 2, oD R_29, oS, oU, oU, oU, oU]) rfl ?_
    refine XS.dload X_29.here hx rfl (hb hby d21_118) rfl ?_
    refine XS.dload X_29.here hx rfl (hb hby d21_120) rfl ?_
    refine XS.dcmpS X_29.here hx rfl (hb hby d21_122) rfl rfl ?_
    exact k
  refine og (B := T_29.setTop (mkF m 134 #[rv a0, iv 0, iv 0, iv 0, iv (-1), oT, oS, iv 2, oD R_29, oS, oU, oU, oU, oU] [])) (fun t k => ?_) ?_
  · refine XS.ifYes X_29.here hx rfl (pc0 := 123) (pc' := 134) rfl (hb hby d21_123) rfl ((if0 _ _).trans (flt hR_29).2.2.2) (by decide) (by decide) ?_
    exact k
  refine og (B := T_29.setTop (mkF m 64 #[rv a0, iv 0, iv 0, iv 0, iv (-1), oT, oS, iv 3, oD R_29, oS, oU, oU, oU, oU] [(.ref a0), (.int 3)])) (fun t k => ?_) ?_
  · refine XS.iinc X_29.here hx rfl (hb hby d21_134) rfl (l' := #[rv a0, iv 0, iv 0, iv 0, iv (-1), oT, oS, iv 3, oD R_29, oS, oU, oU, oU, oU]) rfl ?_
    refine XS.goto X_29.here hx rfl (pc0 := 137) (pc' := 61) rfl (hb hby d21_137) (by decide) (by decide) ?_
    refine XS.iload X_29.here hx rfl (hb hby d21_61) rfl ?_
    refine XS.aloadN X_29.here hx rfl (hb hby d21_63) rfl rfl ?_
    exact k
  obtain ⟨T_38, X_38, e_38, st_38⟩ := getF X_29 hx hZ hown (host := "") (Or.inl (ow hw 41 rfl)) Via.refl e_29 Q_3_0 (g := (mkF m 64 #[rv a0, iv 0, iv 0, iv 0, iv (-1), oT, oS, iv 3, oD R_29, oS, oU, oU, oU, oU] [(.ref a0), (.int 3)])) rfl rfl (hb hby d21_64)
  refine og (fun t k => st_38 t k) ?_
  obtain ⟨cq_39, kq_39, q_39a, q_39b, q_39c⟩ := isOf hZ e_38 c3
  obtain ⟨_, _, ⟨T_39, L_39, k_39, n_39⟩, -, X_39, ⟨Lc_39, hQ_39, l_39, y_39, z_39⟩, st_39⟩ := X_38.interfaceBack hx (xi := own_m30) (y := own_m10) hown (mvT hZ (ow hw 58 rfl)) (mvT hZ (ow hw 59 rfl)) (mvT hZ (ow hw 60 rfl)) (mvT hZ (ow hw 61 rfl)) (mvT hZ (ow hw 62 rfl)) (mvT hZ (ow hw 63 rfl)) (mvT hZ (ow hw 64 rfl)) (mvT hZ (ow hw 65 rfl)) (by decide) (backOf (W := 1) (rmalz l Z av0 hw [] al (5 : Int32) T_3.heap n0 Z0__3 c5) hZ (ow hw 66 rfl) (ow hw 19 rfl) (by decide) (by decide)) q_39a q_39b q_39c (g := (mkF m 67 #[rv a0, iv 0, iv 0, iv 0, iv (-1), oT, oS, iv 3, oD R_29, oS, oU, oU, oU, oU] [(.ref al), (.int 3)])) rfl (by rw [hml]; rfl) (Steps.refl _) (argsL := []) (rest := [(.int 3)]) (lenOf pd_5 rfl) rfl (by show 2 * 0 + _ ≤ _; exact Nat.le_of_eq rfl) (hb hby d21_67) (fun _ _ => ⟨rfl, e_38, (by decide : 1 + 0 ≤ _), (by decide : 3 + 0 ≤ _)⟩)
  dsimp only [Pt.U, Pt.locs, Pt.cells, Pt.slots] at X_39 l_39 y_39 z_39 st_39 hQ_39
  subst l_39 y_39 z_39
  obtain ⟨rfl, N_39q, e_39⟩ := hQ_39
  have N_39 := Fr.app N_29 N_39q
  refine og (fun t k => st_39.trans k) ?_
  refine og (B := T_39.setTop (mkF m 75 #[rv a0, iv 0, iv 0, iv 0, iv (-1), oT, oS, iv 3, oD R_29, oS, oU, oU, oU, oU] [])) (fun t k => ?_) ?_
  · refine XS.icmpNo X_39.here hx rfl (hb hby d21_72) rfl (tlt (by decide : (3 : Int32) < (5 : Int32))).2.1 ?_
    exact k
  refine og (B := T_39.setTop (mkF m 76 #[rv a0, iv 0, iv 0, iv 0, iv (-1), oT, oS, iv 3, oD R_29, oS, oU, oU, oU, oU] [(.int 0)])) (fun t k => ?_) ?_
  · refine XS.iloadN X_39.here hx rfl (hb hby d21_75) rfl ?_
    exact k
  refine og (B := T_39.setTop (mkF m 84 #[rv a0, iv 0, iv 0, iv 0, iv (-1), oT, oS, iv 3, oD R_29, oS, oU, oU, oU, oU] [])) (fun t k => ?_) ?_
  · refine XS.ifYes X_39.here hx rfl (pc0 := 76) (pc' := 84) rfl (hb hby d21_76) rfl ((if0 _ _).trans (teq (by decide : (0 : Int32) = (0 : Int32))).1) (by decide) (by decide) ?_
    exact k
  refine og (B := T_39.setTop (mkF m 85 #[rv a0, iv 0, iv 0, iv 0, iv (-1), oT, oS, iv 3, oD R_29, oS, oU, oU, oU, oU] [(.ref a0)])) (fun t k => ?_) ?_
  · refine XS.aloadN X_39.here hx rfl (hb hby d21_84) rfl rfl ?_
    exact k
  obtain ⟨T_40, L_40, R_40, ⟨X_40, e_40, N_40, hR_40⟩, st_40⟩ : ∃ (T' : State) (L' : List Loc) (R : UInt64), (Stand p l e ({ frames := 4, cells := 1, slots := 3, locals := 60 } : Room) s m #[(.ref a0)] below meth c T' L' 1 3 ∧ T'.heap = T_3.heap ∧ Fr n0 L' ∧ ¬ ((0 : Int32) < (cmpValue (FP.dcmp R 4472406533629990549) .l))) ∧ ∀ t, Steps p.tables e below (T'.setTop (mkF m 116 #[rv a0, iv 0, iv 0, iv 0, iv (-1), oT, oS, iv 3, oD R_29, oS, oU, oU, oU, oU] [(.double R)])) t → Steps p.tables e below (T_39.setTop (mkF m 85 #[rv a0, iv 0, iv 0, iv 0, iv (-1), oT, oS, iv 3, oD R_29, oS, oU, oU, oU, oU] [(.ref a0)])) t := by
    rcases hc2 with hc2 | hc2
    · obtain ⟨hw0, hw1, hw2, hw3, hw4, hw5, hw6, hw7, hw8⟩ : own_nw m_3_0 m_3_1 m_3_2 (own_pk b1 w1 w0) (own_pk b1 13830554455654793216 4607182418800017408) w3 13830554455654793216 := by subst hc2; exact hWq
      obtain ⟨T_41, X_41, e_41, st_41⟩ := getF X_39 hx hZ hown (host := "") (Or.inl (ow hw 46 rfl)) Via.refl e_39 Q_3_2 (g := (mkF m 85 #[rv a0, iv 0, iv 0, iv 0, iv (-1), oT, oS, iv 3, oD R_29, oS, oU, oU, oU, oU] [(.ref a0)])) rfl rfl (hb hby d21_85)
      refine gs (fun t k => st_41 t k) ?_
      refine gs (B := T_41.setTop (mkF m 90 #[rv a0, iv 0, iv 0, iv 0, iv (-1), oT, oS, iv 3, oD R_29, oS, oU, oU, oU, oU] [(.int 3), (.ref ro)])) (fun t k => ?_) ?_
      · refine XS.iload X_41.here hx rfl (hb hby d21_88) rfl ?_
        exact k
      obtain ⟨cl_42, Ar_42, q_42, S_42, M_42, H_42, G_42⟩ := id c12
      have hin_42 : ¬ ((3 : Int32) < 0 ∨ cl_42.slots.size ≤ ((3 : Int32)).toNatClampNeg) := inb_of S_42 ⟨by decide, by decide⟩
      have hat_42 : cl_42.slots[((3 : Int32)).toNatClampNeg]? = some (.int (-1)) := H_42.at hin_42 (by subst hc2; rcases hc1 with rfl | rfl <;> rfl)
      refine gs (B := T_41.setTop (mkF m 91 #[rv a0, iv 0, iv 0, iv 0, iv (-1), oT, oS, iv 3, oD R_29, oS, oU, oU, oU, oU] [(.int (-1))])) (fun t k => X_41.iaload hx (j := (3 : Int32)) (v := (.int (-1))) (by rw [(e_41 : _ = _)]; exact Ar_42.1) (State.isArrayOf_alike hZ.alike Ar_42.2.1) Ar_42.2.2 hin_42 hat_42 (g := (mkF m 90 #[rv a0, iv 0, iv 0, iv 0, iv (-1), oT, oS, iv 3, oD R_29, oS, oU, oU, oU, oU] [(.int 3), (.ref ro)])) rfl rfl (hb hby d21_90) t k) ?_
      refine gs (B := T_41.setTop (mkF m 98 #[rv a0, iv 0, iv 0, iv 0, iv (-1), oT, oS, iv 3, oD R_29, oS, oU, oU, oU, oU] [])) (fun t k => ?_) ?_
      · refine XS.ifYes X_41.here hx rfl (pc0 := 91) (pc' := 98) rfl (hb hby d21_91) rfl ((if0 _ _).trans (tlt (by decide : (-1 : Int32) < (0 : Int32))).1) (by decide) (by decide) ?_
        exact k
      refine gs (B := T_41.setTop (mkF m 99 #[rv a0, iv 0, iv 0, iv 0, iv (-1), oT, oS, iv 3, oD R_29, oS, oU, oU, oU, oU] [(.ref a0)])) (fun t k => ?_) ?_
      · refine XS.aloadN X_41.here hx rfl (hb hby d21_98) rfl rfl ?_
        exact k
      obtain ⟨T_43, X_43, e_43, st_43⟩ := getF X_41 hx hZ hown (host := "") (Or.inl (ow hw 43 rfl)) Via.refl e_41 Q_3_1 (g := (mkF m 99 #[rv a0, iv 0, iv 0, iv 0, iv (-1), oT, oS, iv 3, oD R_29, oS, oU, oU, oU, oU] [(.ref a0)])) rfl rfl (hb hby d21_99)
      refine gs (fun t k => st_43 t k) ?_
      refine gs (B := T_43.setTop (mkF m 104 #[rv a0, iv 0, iv 0, iv 0, iv (-1), oT, oS, iv 3, oD R_29, oS, oU, oU, oU, oU] [(.int 3), (.ref va)])) (fun t k => ?_) ?_
      · refine XS.iload X_43.here hx rfl (hb hby d21_102) rfl ?_
        exact k
      obtain ⟨cl_44, Ar_44, q_44, S_44, M_44, H_44, G_44⟩ := id c11
      have hin_44 : ¬ ((3 : Int32) < 0 ∨ cl_44.slots.size ≤ ((3 : Int32)).toNatClampNeg) := inb_of S_44 ⟨by decide, by decide⟩
      have hat_44 : cl_44.slots[((3 : Int32)).toNatClampNeg]? = some (.double w3) := H_44.at hin_44 rfl
      refine gs (B := T_43.setTop (mkF m 105 #[rv a0, iv 0, iv 0, iv 0, iv (-1), oT, oS, iv 3, oD R_29, oS, oU, oU, oU, oU] [(.double w3)])) (fun t k => X_43.daload hx (j := (3 : Int32)) (v := (.double w3)) (by rw [(e_43 : _ = _)]; exact Ar_44.1) (State.isArrayOf_alike hZ.alike Ar_44.2.1) Ar_44.2.2 hin_44 hat_44 (g := (mkF m 104 #[rv a0, iv 0, iv 0, iv 0, iv (-1), oT, oS, iv 3, oD R_29, oS, oU, oU, oU, oU] [(.int 3), (.ref va)])) rfl rfl (hb hby d21_104) t k) ?_
      refine gs (B := T_43.setTop (mkF m 107 #[rv a0, iv 0, iv 0, iv 0, iv (-1), oT, oS, iv 3, oD R_29, oS, oU, oU, oU, oU] [(.ref a0), (.ref a0), (.double w3)])) (fun t k => ?_) ?_
      · refine XS.aloadN X_43.here hx rfl (hb hby d21_105) rfl rfl ?_
        refine XS.aloadN X_43.here hx rfl (hb hby d21_106) rfl rfl ?_
        exact k
      obtain ⟨T_45, X_45, e_45, st_45⟩ := getF X_43 hx hZ hown (host := "") (Or.inl (ow hw 151 rfl)) Via.refl e_43 Qm_3 (g := (mkF m 107 #[rv a0, iv 0, iv 0, iv 0, iv (-1), oT, oS, iv 3, oD R_29, oS, oU, oU, oU, oU] [(.ref a0), (.ref a0), (.double w3)])) rfl rfl (hb hby d21_107)
      refine gs (fun t k => st_45 t k) ?_
      refine gs (B := T_45.setTop (mkF m 112 #[rv a0, iv 0, iv 0, iv 0, iv (-1), oT, oS, iv 3, oD R_29, oS, oU, oU, oU, oU] [(.int 3), (.ref mu_3), (.ref a0), (.double w3)])) (fun t k => ?_) ?_
      · refine XS.iload X_45.here hx rfl (hb hby d21_110) rfl ?_
        exact k
      obtain ⟨cq_46, q_46a, q_46b⟩ := (c2).cell
      obtain ⟨_, _, ⟨T_46, L_46, k_46, n_46⟩, -, X_46, ⟨Lc_46, hQ_46, l_46, y_46, z_46⟩, st_46⟩ := X_45.privateBack hx (y := own_m24) hown (mvT hZ (ow hw 154 rfl)) (mvT hZ (ow hw 155 rfl)) (own_sel hZ (ow hw 8 rfl) (Cond.privateMethod_at (mvP hZ (ow hw 156 rfl) (args := #[]))) (mvT hZ (ow hw 155 rfl)) (by decide)) (Cond.privateMethod_at (mvP hZ (ow hw 156 rfl) (args := #[]))) (mvT hZ (ow hw 157 rfl)) (by decide) (backOf (W := 2) (rmdot l Z av0 hw [] a0 mu_3 (3 : Int32) al ed ca0 ca1 ca2 ca3 ca4 ca3 kd kc3 km_3 m_3_0 m_3_1 m_3_2 0 0 13830554455654793216 T_3.heap n0 Z0__3 c2 Q_3_0 Q_3_4 c3 c4 c5 c10 c9 c21 VM_3 hw0 hw3 hw4 (by decide) (by decide) ⟨by decide, by decide⟩ rfl) hZ (ow hw 157 rfl) (ow hw 9 rfl) (by decide) (by decide)) (g := (mkF m 112 #[rv a0, iv 0, iv 0, iv 0, iv (-1), oT, oS, iv 3, oD R_29, oS, oU, oU, oU, oU] [(.int 3), (.ref mu_3), (.ref a0), (.double w3)])) rfl (by rw [hml]; rfl) (Steps.refl _) (a := a0) (by rw [(e_45 : _ = _)]; exact q_46a) q_46b (argsL := [(.ref mu_3), (.int 3)]) (rest := [(.double w3)]) (lenOf pd_12 rfl) rfl (by show 2 * 0 + _ ≤ _; exact Nat.le_of_eq rfl) (hb hby d21_112) (fun _ _ => ⟨rfl, e_45, (by decide : 1 + 0 ≤ _), (by decide : 3 + 0 ≤ _)⟩)
      dsimp only [Pt.U, Pt.locs, Pt.cells, Pt.slots] at X_46 l_46 y_46 z_46 st_46 hQ_46
      subst l_46 y_46 z_46
      obtain ⟨rfl, N_46q, e_46⟩ := hQ_46
      have N_46 := Fr.app N_39 N_46q
      refine gs (fun t k => st_46.trans k) ?_
      refine gs (B := T_46.setTop (mkF m 116 #[rv a0, iv 0, iv 0, iv 0, iv (-1), oT, oS, iv 3, oD R_29, oS, oU, oU, oU, oU] [(.double (FP.dsub w3 (own_d3 m_3_0 0 m_3_1 0 m_3_2 13830554455654793216)))])) (fun t k => ?_) ?_
      · refine XS.dsubS X_46.here hx rfl (hb hby d21_115) rfl hw7 rfl ?_
        exact k
      exact ⟨T_46, _, (FP.dsub w3 (own_d3 m_3_0 0 m_3_1 0 m_3_2 13830554455654793216)), ⟨X_46, e_46, N_46, hw8⟩, fun t k => k⟩
    · obtain ⟨T_47, X_47, e_47, st_47⟩ := getF X_39 hx hZ hown (host := "") (Or.inl (ow hw 46 rfl)) Via.refl e_39 Q_3_2 (g := (mkF m 85 #[rv a0, iv 0, iv 0, iv 0, iv (-1), oT, oS, iv 3, oD R_29, oS, oU, oU, oU, oU] [(.ref a0)])) rfl rfl (hb hby d21_85)
      refine gs (fun t k => st_47 t k) ?_
      refine gs (B := T_47.setTop (mkF m 90 #[rv a0, iv 0, iv 0, iv 0, iv (-1), oT, oS, iv 3, oD R_29, oS, oU, oU, oU, oU] [(.int 3), (.ref ro)])) (fun t k => ?_) ?_
      · refine XS.iload X_47.here hx rfl (hb hby d21_88) rfl ?_
        exact k
      obtain ⟨cl_48, Ar_48, q_48, S_48, M_48, H_48, G_48⟩ := id c12
      have hin_48 : ¬ ((3 : Int32) < 0 ∨ cl_48.slots.size ≤ ((3 : Int32)).toNatClampNeg) := inb_of S_48 ⟨by decide, by decide⟩
      have hat_48 : cl_48.slots[((3 : Int32)).toNatClampNeg]? = some (.int 2) := H_48.at hin_48 (by subst hc2; rcases hc1 with rfl | rfl <;> rfl)
      refine gs (B := T_47.setTop (mkF m 91 #[rv a0, iv 0, iv 0, iv 0, iv (-1), oT, oS, iv 3, oD R_29, oS, oU, oU, oU, oU] [(.int 2)])) (fun t k => X_47.iaload hx (j := (3 : Int32)) (v := (.int 2)) (by rw [(e_47 : _ = _)]; exact Ar_48.1) (State.isArrayOf_alike hZ.alike Ar_48.2.1) Ar_48.2.2 hin_48 hat_48 (g := (mkF m 90 #[rv a0, iv 0, iv 0, iv 0, iv (-1), oT, oS, iv 3, oD R_29, oS, oU, oU, oU, oU] [(.int 3), (.ref ro)])) rfl rfl (hb hby d21_90) t k) ?_
      refine gs (B := T_47.setTop (mkF m 94 #[rv a0, iv 0, iv 0, iv 0, iv (-1), oT, oS, iv 3, oD R_29, oS, oU, oU, oU, oU] [])) (fun t k => ?_) ?_
      · refine XS.ifNo X_47.here hx rfl (hb hby d21_91) rfl ((if0 _ _).trans (flt (by decide : ¬ ((2 : Int32) < (0 : Int32)))).1) ?_
        exact k
      refine gs (B := T_47.setTop (mkF m 116 #[rv a0, iv 0, iv 0, iv 0, iv (-1), oT, oS, iv 3, oD R_29, oS, oU, oU, oU, oU] [(.double 0)])) (fun t k => ?_) ?_
      · refine XS.dconst0 X_47.here hx rfl (v := 0) (hb hby d21_94) rfl ?_
        refine XS.goto X_47.here hx rfl (pc0 := 95) (pc' := 116) rfl (hb hby d21_95) (by decide) (by decide) ?_
        exact k
      exact ⟨T_47, _, 0, ⟨X_47, e_47, N_39, own_b0⟩, fun t k => k⟩
  refine og (fun t k => st_40 t k) ?_
  refine og (B := T_40.setTop (mkF m 123 #[rv a0, iv 0, iv 0, iv 0, iv (-1), oT, oS, iv 3, oD R_40, oS, oU, oU, oU, oU] [(.int (cmpValue (FP.dcmp R_40 4472406533629990549) .l))])) (fun t k => ?_) ?_
  · refine XS.dstore X_40.here hx rfl (hb hby d21_116) rfl (l' := #[rv a0, iv 0, iv 0, iv 0, iv (-1), oT, oS, iv 3, oD R_40, oS, oU, oU, oU, oU]) rfl ?_
    refine XS.dload X_40.here hx rfl (hb hby d21_118) rfl ?_
    refine XS.dload X_40.here hx rfl (hb hby d21_120) rfl ?_
    refine XS.dcmpS X_40.here hx rfl (hb hby d21_122) rfl rfl ?_
    exact k
  refine og (B := T_40.setTop (mkF m 134 #[rv a0, iv 0, iv 0, iv 0, iv (-1), oT, oS, iv 3, oD R_40, oS, oU, oU, oU, oU] [])) (fun t k => ?_) ?_
  · refine XS.ifYes X_40.here hx rfl (pc0 := 123) (pc' := 134) rfl (hb hby d21_123) rfl ((if0 _ _).trans (flt hR_40).2.2.2) (by decide) (by decide) ?_
    exact k
  refine og (B := T_40.setTop (mkF m 64 #[rv a0, iv 0, iv 0, iv 0, iv (-1), oT, oS, iv 4, oD R_40, oS, oU, oU, oU, oU] [(.ref a0), (.int 4)])) (fun t k => ?_) ?_
  · refine XS.iinc X_40.here hx rfl (hb hby d21_134) rfl (l' := #[rv a0, iv 0, iv 0, iv 0, iv (-1), oT, oS, iv 4, oD R_40, oS, oU, oU, oU, oU]) rfl ?_
    refine XS.goto X_40.here hx rfl (pc0 := 137) (pc' := 61) rfl (hb hby d21_137) (by decide) (by decide) ?_
    refine XS.iload X_40.here hx rfl (hb hby d21_61) rfl ?_
    refine XS.aloadN X_40.here hx rfl (hb hby d21_63) rfl rfl ?_
    exact k
  obtain ⟨T_49, X_49, e_49, st_49⟩ := getF X_40 hx hZ hown (host := "") (Or.inl (ow hw 41 rfl)) Via.refl e_40 Q_3_0 (g := (mkF m 64 #[rv a0, iv 0, iv 0, iv 0, iv (-1), oT, oS, iv 4, oD R_40, oS, oU, oU, oU, oU] [(.ref a0), (.int 4)])) rfl rfl (hb hby d21_64)
  refine og (fun t k => st_49 t k) ?_
  obtain ⟨cq_50, kq_50, q_50a, q_50b, q_50c⟩ := isOf hZ e_49 c3
  obtain ⟨_, _, ⟨T_50, L_50, k_50, n_50⟩, -, X_50, ⟨Lc_50, hQ_50, l_50, y_50, z_50⟩, st_50⟩ := X_49.interfaceBack hx (xi := own_m30) (y := own_m10) hown (mvT hZ (ow hw 58 rfl)) (mvT hZ (ow hw 59 rfl)) (mvT hZ (ow hw 60 rfl)) (mvT hZ (ow hw 61 rfl)) (mvT hZ (ow hw 62 rfl)) (mvT hZ (ow hw 63 rfl)) (mvT hZ (ow hw 64 rfl)) (mvT hZ (ow hw 65 rfl)) (by decide) (backOf (W := 1) (rmalz l Z av0 hw [] al (5 : Int32) T_3.heap n0 Z0__3 c5) hZ (ow hw 66 rfl) (ow hw 19 rfl) (by decide) (by decide)) q_50a q_50b q_50c (g := (mkF m 67 #[rv a0, iv 0, iv 0, iv 0, iv (-1), oT, oS, iv 4, oD R_40, oS, oU, oU, oU, oU] [(.ref al), (.int 4)])) rfl (by rw [hml]; rfl) (Steps.refl _) (argsL := []) (rest := [(.int 4)]) (lenOf pd_5 rfl) rfl (by show 2 * 0 + _ ≤ _; exact Nat.le_of_eq rfl) (hb hby d21_67) (fun _ _ => ⟨rfl, e_49, (by decide : 1 + 0 ≤ _), (by decide : 3 + 0 ≤ _)⟩)
  dsimp only [Pt.U, Pt.locs, Pt.cells, Pt.slots] at X_50 l_50 y_50 z_50 st_50 hQ_50
  subst l_50 y_50 z_50
  obtain ⟨rfl, N_50q, e_50⟩ := hQ_50
  have N_50 := Fr.app N_40 N_50q
  refine og (fun t k => st_50.trans k) ?_
  refine og (B := T_50.setTop (mkF m 75 #[rv a0, iv 0, iv 0, iv 0, iv (-1), oT, oS, iv 4, oD R_40, oS, oU, oU, oU, oU] [])) (fun t k => ?_) ?_
  · refine XS.icmpNo X_50.here hx rfl (hb hby d21_72) rfl (tlt (by decide : (4 : Int32) < (5 : Int32))).2.1 ?_
    exact k
  refine og (B := T_50.setTop (mkF m 76 #[rv a0, iv 0, iv 0, iv 0, iv (-1), oT, oS, iv 4, oD R_40, oS, oU, oU, oU, oU] [(.int 0)])) (fun t k => ?_) ?_
  · refine XS.iloadN X_50.here hx rfl (hb hby d21_75) rfl ?_
    exact k
  refine og (B := T_50.setTop (mkF m 84 #[rv a0, iv 0, iv 0, iv 0, iv (-1), oT, oS, iv 4, oD R_40, oS, oU, oU, oU, oU] [])) (fun t k => ?_) ?_
  · refine XS.ifYes X_50.here hx rfl (pc0 := 76) (pc' := 84) rfl (hb hby d21_76) rfl ((if0 _ _).trans (teq (by decide : (0 : Int32) = (0 : Int32))).1) (by decide) (by decide) ?_
    exact k
  refine og (B := T_50.setTop (mkF m 85 #[rv a0, iv 0, iv 0, iv 0, iv (-1), oT, oS, iv 4, oD R_40, oS, oU, oU, oU, oU] [(.ref a0)])) (fun t k => ?_) ?_
  · refine XS.aloadN X_50.here hx rfl (hb hby d21_84) rfl rfl ?_
    exact k
  obtain ⟨T_51, X_51, e_51, st_51⟩ := getF X_50 hx hZ hown (host := "") (Or.inl (ow hw 46 rfl)) Via.refl e_50 Q_3_2 (g := (mkF m 85 #[rv a0, iv 0, iv 0, iv 0, iv (-1), oT, oS, iv 4, oD R_40, oS, oU, oU, oU, oU] [(.ref a0)])) rfl rfl (hb hby d21_85)
  refine og (fun t k => st_51 t k) ?_
  refine og (B := T_51.setTop (mkF m 90 #[rv a0, iv 0, iv 0, iv 0, iv (-1), oT, oS, iv 4, oD R_40, oS, oU, oU, oU, oU] [(.int 4), (.ref ro)])) (fun t k => ?_) ?_
  · refine XS.iload X_51.here hx rfl (hb hby d21_88) rfl ?_
    exact k
  obtain ⟨cl_52, Ar_52, q_52, S_52, M_52, H_52, G_52⟩ := id c12
  have hin_52 : ¬ ((4 : Int32) < 0 ∨ cl_52.slots.size ≤ ((4 : Int32)).toNatClampNeg) := inb_of S_52 ⟨by decide, by decide⟩
  have hat_52 : cl_52.slots[((4 : Int32)).toNatClampNeg]? = some (.int 0) := H_52.at hin_52 (by rcases hc1 with rfl | rfl <;> rcases hc2 with rfl | rfl <;> rfl)
  refine og (B := T_51.setTop (mkF m 91 #[rv a0, iv 0, iv 0, iv 0, iv (-1), oT, oS, iv 4, oD R_40, oS, oU, oU, oU, oU] [(.int 0)])) (fun t k => X_51.iaload hx (j := (4 : Int32)) (v := (.int 0)) (by rw [(e_51 : _ = _)]; exact Ar_52.1) (State.isArrayOf_alike hZ.alike Ar_52.2.1) Ar_52.2.2 hin_52 hat_52 (g := (mkF m 90 #[rv a0, iv 0, iv 0, iv 0, iv (-1), oT, oS, iv 4, oD R_40, oS, oU, oU, oU, oU] [(.int 4), (.ref ro)])) rfl rfl (hb hby d21_90) t k) ?_
  refine og (B := T_51.setTop (mkF m 94 #[rv a0, iv 0, iv 0, iv 0, iv (-1), oT, oS, iv 4, oD R_40, oS, oU, oU, oU, oU] [])) (fun t k => ?_) ?_
  · refine XS.ifNo X_51.here hx rfl (hb hby d21_91) rfl ((if0 _ _).trans (flt (by decide : ¬ ((0 : Int32) < (0 : Int32)))).1) ?_
    exact k
  refine og (B := T_51.setTop (mkF m 123 #[rv a0, iv 0, iv 0, iv 0, iv (-1), oT, oS, iv 4, oD 0, oS, oU, oU, oU, oU] [(.int (cmpValue (FP.dcmp 0 4472406533629990549) .l))])) (fun t k => ?_) ?_
  · refine XS.dconst0 X_51.here hx rfl (v := 0) (hb hby d21_94) rfl ?_
    refine XS.goto X_51.here hx rfl (pc0 := 95) (pc' := 116) rfl (hb hby d21_95) (by decide) (by decide) ?_
    refine XS.dstore X_51.here hx rfl (hb hby d21_116) rfl (l' := #[rv a0, iv 0, iv 0, iv 0, iv (-1), oT, oS, iv 4, oD 0, oS, oU, oU, oU, oU]) rfl ?_
    refine XS.dload X_51.here hx rfl (hb hby d21_118) rfl ?_
    refine XS.dload X_51.here hx rfl (hb hby d21_120) rfl ?_
    refine XS.dcmpS X_51.here hx rfl (hb hby d21_122) rfl rfl ?_
    exact k
  refine og (B := T_51.setTop (mkF m 134 #[rv a0, iv 0, iv 0, iv 0, iv (-1), oT, oS, iv 4, oD 0, oS, oU, oU, oU, oU] [])) (fun t k => ?_) ?_
  · refine XS.ifYes X_51.here hx rfl (pc0 := 123) (pc' := 134) rfl (hb hby d21_123) rfl ((if0 _ _).trans (flt own_b0).2.2.2) (by decide) (by decide) ?_
    exact k
  refine og (B := T_51.setTop (mkF m 64 #[rv a0, iv 0, iv 0, iv 0, iv (-1), oT, oS, iv 5, oD 0, oS, oU, oU, oU, oU] [(.ref a0), (.int 5)])) (fun t k => ?_) ?_
  · refine XS.iinc X_51.here hx rfl (hb hby d21_134) rfl (l' := #[rv a0, iv 0, iv 0, iv 0, iv (-1), oT, oS, iv 5, oD 0, oS, oU, oU, oU, oU]) rfl ?_
    refine XS.goto X_51.here hx rfl (pc0 := 137) (pc' := 61) rfl (hb hby d21_137) (by decide) (by decide) ?_
    refine XS.iload X_51.here hx rfl (hb hby d21_61) rfl ?_
    refine XS.aloadN X_51.here hx rfl (hb hby d21_63) rfl rfl ?_
    exact k
  obtain ⟨T_53, X_53, e_53, st_53⟩ := getF X_51 hx hZ hown (host := "") (Or.inl (ow hw 41 rfl)) Via.refl e_51 Q_3_0 (g := (mkF m 64 #[rv a0, iv 0, iv 0, iv 0, iv (-1), oT, oS, iv 5, oD 0, oS, oU, oU, oU, oU] [(.ref a0), (.int 5)])) rfl rfl (hb hby d21_64)
  refine og (fun t k => st_53 t k) ?_
  obtain ⟨cq_54, kq_54, q_54a, q_54b, q_54c⟩ := isOf hZ e_53 c3
  obtain ⟨_, _, ⟨T_54, L_54, k_54, n_54⟩, -, X_54, ⟨Lc_54, hQ_54, l_54, y_54, z_54⟩, st_54⟩ := X_53.interfaceBack hx (xi := own_m30) (y := own_m10) hown (mvT hZ (ow hw 58 rfl)) (mvT hZ (ow hw 59 rfl)) (mvT hZ (ow hw 60 rfl)) (mvT hZ (ow hw 61 rfl)) (mvT hZ (ow hw 62 rfl)) (mvT hZ (ow hw 63 rfl)) (mvT hZ (ow hw 64 rfl)) (mvT hZ (ow hw 65 rfl)) (by decide) (backOf (W := 1) (rmalz l Z av0 hw [] al (5 : Int32) T_3.heap n0 Z0__3 c5) hZ (ow hw 66 rfl) (ow hw 19 rfl) (by decide) (by decide)) q_54a q_54b q_54c (g := (mkF m 67 #[rv a0, iv 0, iv 0, iv 0, iv (-1), oT, oS, iv 5, oD 0, oS, oU, oU, oU, oU] [(.ref al), (.int 5)])) rfl (by rw [hml]; rfl) (Steps.refl _) (argsL := []) (rest := [(.int 5)]) (lenOf pd_5 rfl) rfl (by show 2 * 0 + _ ≤ _; exact Nat.le_of_eq rfl) (hb hby d21_67) (fun _ _ => ⟨rfl, e_53, (by decide : 1 + 0 ≤ _), (by decide : 3 + 0 ≤ _)⟩)
  dsimp only [Pt.U, Pt.locs, Pt.cells, Pt.slots] at X_54 l_54 y_54 z_54 st_54 hQ_54
  subst l_54 y_54 z_54
  obtain ⟨rfl, N_54q, e_54⟩ := hQ_54
  have N_54 := Fr.app N_50 N_54q
  refine og (fun t k => st_54.trans k) ?_
  refine og (B := T_54.setTop (mkF m 140 #[rv a0, iv 0, iv 0, iv 0, iv (-1), oT, oS, iv 5, oD 0, oS, oU, oU, oU, oU] [])) (fun t k => ?_) ?_
  · refine XS.icmpYes X_54.here hx rfl (pc0 := 72) (pc' := 140) rfl (hb hby d21_72) rfl (flt (by decide : ¬ ((5 : Int32) < (5 : Int32)))).2.1 (by decide) (by decide) ?_
    exact k
  refine og (B := T_54.setTop (mkF m 142 #[rv a0, iv 0, iv 0, iv 0, iv (-1), oT, oS, iv 5, oD 0, oS, oU, oU, oU, oU] [(.int (-1))])) (fun t k => ?_) ?_
  · refine XS.iload X_54.here hx rfl (hb hby d21_140) rfl ?_
    exact k
  refine og (B := T_54.setTop (mkF m 145 #[rv a0, iv 0, iv 0, iv 0, iv (-1), oT, oS, iv 5, oD 0, oS, oU, oU, oU, oU] [])) (fun t k => ?_) ?_
  · refine XS.ifNo X_54.here hx rfl (hb hby d21_142) rfl ((if0 _ _).trans (tlt (by decide : (-1 : Int32) < (0 : Int32))).2.1) ?_
    exact k
  refine og (B := T_54.setTop (mkF m 146 #[rv a0, iv 0, iv 0, iv 0, iv (-1), oT, oS, iv 5, oD 0, oS, oU, oU, oU, oU] [(.ref a0)])) (fun t k => ?_) ?_
  · refine XS.aloadN X_54.here hx rfl (hb hby d21_145) rfl rfl ?_
    exact k
  obtain ⟨T_55, X_55, e_55, st_55⟩ := getF X_54 hx hZ hown (host := "") (Or.inl (ow hw 151 rfl)) Via.refl e_54 Qm_3 (g := (mkF m 146 #[rv a0, iv 0, iv 0, iv 0, iv (-1), oT, oS, iv 5, oD 0, oS, oU, oU, oU, oU] [(.ref a0)])) rfl rfl (hb hby d21_146)
  refine og (fun t k => st_55 t k) ?_
  refine og (B := T_55.setTop (mkF m 150 #[rv a0, iv 0, iv 0, iv 0, iv (-1), oT, oS, iv 5, oD 0, oS, oU, oU, oU, oU] [(.int 0), (.ref mu_3)])) (fun t k => ?_) ?_
  · refine XS.iconst X_55.here hx rfl (hb hby d21_149) ?_
    exact k
  obtain ⟨cl_56, Ar_56, q_56, S_56, M_56, H_56, G_56⟩ := id VM_3
  have hin_56 : ¬ ((0 : Int32) < 0 ∨ cl_56.slots.size ≤ ((0 : Int32)).toNatClampNeg) := inb_of S_56 ⟨by decide, by decide⟩
  have hat_56 : cl_56.slots[((0 : Int32)).toNatClampNeg]? = some (.double m_3_0) := H_56.at hin_56 rfl
  refine og (B := T_55.setTop (mkF m 151 #[rv a0, iv 0, iv 0, iv 0, iv (-1), oT, oS, iv 5, oD 0, oS, oU, oU, oU, oU] [(.double m_3_0)])) (fun t k => X_55.daload hx (j := (0 : Int32)) (v := (.double m_3_0)) (by rw [(e_55 : _ = _)]; exact Ar_56.1) (State.isArrayOf_alike hZ.alike Ar_56.2.1) Ar_56.2.2 hin_56 hat_56 (g := (mkF m 150 #[rv a0, iv 0, iv 0, iv 0, iv (-1), oT, oS, iv 5, oD 0, oS, oU, oU, oU, oU] [(.int 0), (.ref mu_3)])) rfl rfl (hb hby d21_150) t k) ?_
  obtain ⟨fs, hr, hrun, hended, hW, hsame⟩ := X_55.leave (v := some (.double m_3_0)) (fun h => by rw [Bd.returns] at h; cases h)
  refine ⟨_, _, ?_, hrun, hended, _, _, rfl, ?_, ⟨_, rfl⟩, hW, hsame.mono (by decide) (by decide)⟩
  · show Steps p.tables e below (T_55.setTop (mkF m 151 #[rv a0, iv 0, iv 0, iv 0, iv (-1), oT, oS, iv 5, oD 0, oS, oU, oU, oU, oU] [(.double m_3_0)])) _
    jvm_step X_55.here [X_55.here.top, hx, (hb hby d21_151), X_55.method', Bd.returns, narrow]
    first | (intro acts; rw [hr _ acts rfl rfl rfl]) | rw [hr _ _ rfl rfl rfl]
    exact Steps.refl _
  · show Qslv Z a0 al va ro ba ca0 ed ca1 ca2 ca3 ca4 iv_ y0 y1 y2 kd ka kr kq ki kj kc0 kc1 kc2 kc3 w0 w1 w2 w3 w4 t0 g0 t1 g1 b1 b2 u8 h0 n0 _ T_55.heap _
    rw [e_55]
    subst em_3_0 em_3_1 em_3_2
    exact ⟨mu_3, km_3, rfl, N_54, c1, sz_mu_3, Qm_3, Q_3_4, VM_3⟩
section OwnNum
open Jvm.FP Jvm.FP.Core Jvm.Free.Fl
theorem nI_fin {i : Int} {a : UInt64} (h : DInt i a) : Fin64 a := by
  refine fin64_core.mpr ?_
  unfold DInt at h
  cases hv : val64 a with
  | fin s c q => exact ⟨s, c, q, hv⟩
  | inf s => rw [hv] at h; exact h.elim
  | nan => rw [hv] at h; exact h.elim
theorem nI_zero {a : UInt64} (h : DZero a) : DInt 0 a := by
  obtain ⟨s, q, v⟩ := h
  show Whole 0 (val64 a)
  rw [v]
  show signed s (0 * 2 ^ q.toNat) = 0 * ((2 ^ (-q).toNat : Nat) : Int)
  rw [Nat.zero_mul, Int.zero_mul]
  cases s <;> rfl
theorem nI_z0 : DZero 0 := (zero_bits2 0).mpr (by decide)
theorem nI_0 : DInt 0 0 := nI_zero nI_z0
theorem nI_neg {i : Int} {a : UInt64} (h : DInt i a) : DInt (-i) (FP.dneg a) := by
  show Whole (-i) (val64 (FP.dneg a))
  rw [FP.val64_dneg]
  exact whole_negate h
theorem nI_mone : DInt (-1) 13830554455654793216 := by
  have h := nI_neg dint_one
  rwa [show FP.dneg 4607182418800017408 = 13830554455654793216 from by decide +kernel] at h
theorem nI_add {i j k : Int} {a b : UInt64} (ha : DInt i a) (hb : DInt j b) (e : k = i + j) (h : k.natAbs ≤ 9007199254740992) : DInt k (FP.dadd a b) := by
  subst e; exact dadd_int ha hb h
theorem nI_sub {i j k : Int} {a b : UInt64} (ha : DInt i a) (hb : DInt j b) (e : k = i - j) (h : k.natAbs ≤ 9007199254740992) : DInt k (FP.dsub a b) := by
  subst e; exact dsub_int ha hb h
theorem nI_mul {i j k : Int} {a b : UInt64} (ha : DInt i a) (hb : DInt j b) (e : k = i * j) (h : k.natAbs ≤ 9007199254740992) : DInt k (FP.dmul a b) := by
  subst e; exact dmul_int ha hb h
theorem nI_m0 {a : UInt64} (h : Fin64 a) : DInt 0 (FP.dmul a 0) := nI_zero (Core.dmul_zero (fin64_core.mp h) nI_z0)
theorem nI_m1 {i : Int} {c v g u : UInt64} (hc : Fin64 c) (hu : Fin64 u) (h : DInt i (FP.dmul v g)) (hi : i.natAbs ≤ 9007199254740992) : DInt i (own_d3 c 0 v g u 0) :=
  nI_add (nI_add (nI_add nI_0 (nI_m0 hc) (k := 0) rfl (by decide)) h (k := i) (by omega) hi) (nI_m0 hu) (by omega) hi
theorem nI_m2 {i : Int} {c v g u : UInt64} (hc : Fin64 c) (hu : Fin64 u) (h : DInt i (FP.dmul v g)) (hi : i.natAbs ≤ 9007199254740992) : DInt i (own_d3 c 0 u 0 v g) :=
  nI_add (nI_add (nI_add nI_0 (nI_m0 hc) (k := 0) rfl (by decide)) (nI_m0 hu) (k := 0) rfl (by decide)) h (by omega) hi
theorem nI_tol {r : Int} {x : UInt64} (h : DInt r x) (hr : r ≤ 0) : ¬ ((0 : Int32) < (cmpValue (FP.dcmp x 4472406533629990549) .l)) := by
  have h0 : FP.dcmp 0 4472406533629990549 = some .lt := by decide +kernel
  obtain ⟨-, q2, q3⟩ := Core.dcmp_lt.mp (show Core.dcmp 0 4472406533629990549 = some .lt from h0)
  have z0 := DInt_zval nI_0
  have zx := DInt_zval h
  have p1 : zval b64 (val64 x) ≤ 0 := by
    rw [zx]; exact Int.mul_nonpos_of_nonpos_of_nonneg hr (Int.natCast_nonneg _)
  have e : FP.dcmp x 4472406533629990549 = some .lt := by
    refine (Core.dcmp_lt).mpr ⟨DInt_ne_nan h, q2, ?_⟩
    rw [z0] at q3; omega
  rw [e]; decide
theorem nI_eq {i : Int} {x y : UInt64} (hx : DInt i x) (hy : DInt i y) : (cmpValue (FP.dcmp x y) .l) = (0 : Int32) := by
  have e : FP.dcmp x y = some (compare i i) := dcmp_int hx hy
  rw [e, show compare i i = Ordering.eq from by simp]; rfl
theorem nn_neg {a b : UInt64} (ha : Fin64 a) (hb : Fin64 b) : FP.dmul (FP.dneg a) (FP.dneg b) = FP.dmul a b := by
  obtain ⟨s, c, q, v⟩ := fin64_core.mp ha
  obtain ⟨t, d, r, w⟩ := fin64_core.mp hb
  show of64 (round b64 (exactProduct (val64 (FP.dneg a)) (val64 (FP.dneg b)))) = of64 (round b64 (exactProduct (val64 a) (val64 b)))
  rw [FP.val64_dneg, FP.val64_dneg, v, w]
  cases s <;> cases t <;> rfl
theorem nn_dd (a : UInt64) : FP.dneg (FP.dneg a) = a := by
  rw [FP.dneg_xor, FP.dneg_xor, UInt64.xor_assoc]; simp
theorem nn_i0 : FP.i2d 0 = 0 := by decide +kernel
theorem nn_bits {i : Int} {a b : UInt64} (ha : DInt i a) (hb : DInt i b) (h : i = 0 → a = b) : a = b := by
  by_cases hi : i = 0
  · exact h hi
  · exact dint_unique hi ha hb
theorem nn_c (c : Int32) : own_d1 (FP.i2d c) 4607182418800017408 = FP.i2d c := by
  have hc := i2d_int c
  have hb := Int32.toInt_lt c
  have hb2 := Int32.le_toInt c
  refine nn_bits (nI_add nI_0 (nI_mul hc dint_one (k := c.toInt) (by omega) (by omega)) (k := c.toInt) (by omega) (by omega)) hc (fun h => ?_)
  have : c = 0 := Int32.toInt_inj.mp (by rw [h]; rfl)
  subst this
  decide +kernel
theorem nn_lo (s : Int32) : FP.dmul (FP.dneg (FP.dneg (FP.i2d s))) 4607182418800017408 = FP.i2d s := by
  rw [nn_dd]
  have hc := i2d_int s
  have hb := Int32.toInt_lt s
  have hb2 := Int32.le_toInt s
  refine nn_bits (nI_mul hc dint_one (k := s.toInt) (by omega) (by omega)) hc (fun h => ?_)
  have : s = 0 := Int32.toInt_inj.mp (by rw [h]; rfl)
  subst this
  decide +kernel
theorem nn_hi (s : Int32) : FP.dmul (FP.dneg (FP.dneg (FP.i2d s))) 13830554455654793216 = FP.dneg (FP.i2d s) := by
  rw [nn_dd]
  have hc := i2d_int s
  have hb := Int32.toInt_lt s
  have hb2 := Int32.le_toInt s
  refine nn_bits (nI_mul hc nI_mone (k := -s.toInt) (by omega) (by omega)) (nI_neg hc) (fun h => ?_)
  have : s = 0 := Int32.toInt_inj.mp (by rw [show s.toInt = 0 by omega]; rfl)
  subst this
  decide +kernel
def own_X (s L H : Int32) : UInt64 := if s < (0 : Int32) then FP.i2d H else FP.i2d L
theorem nn_X (s L H : Int32) : Fin64 (own_X s L H) := by
  unfold own_X; split <;> exact Fl.i2d_fin _
theorem nn_Xm (s L H : Int32) : Mag64 1056 (own_X s L H) := by
  unfold own_X; split <;> exact Fl.i2d_mag _
theorem nn_Xp (s L H : Int32) : Fin64 (FP.dmul (own_X s L H) (FP.i2d s)) := (Fl.dmul_mag (nn_Xm s L H) (Fl.i2d_mag s) (by decide) (by decide)).fin (by decide)
theorem nn_sgn (s : Int32) : ((0 : Int32) < (cmpValue (FP.dcmp (FP.dneg (FP.i2d s)) 0) .g)) ↔ s < (0 : Int32) := by
  have e : FP.dcmp (FP.dneg (FP.i2d s)) 0 = some (compare (-s.toInt) 0) := dcmp_int (nI_neg (i2d_int s)) nI_0
  have q : (s < (0 : Int32)) ↔ s.toInt < 0 := by rw [Int32.lt_iff_toInt_lt]; rfl
  rw [e, q]
  rcases Int.lt_trichotomy (-s.toInt) 0 with h | h | h
  · rw [show compare (-s.toInt) 0 = .lt from (Core.compare_lt_iff _ _).mpr h]; constructor
    · intro x; exact absurd x (by decide)
    · intro x; omega
  · rw [h]; constructor
    · intro x; exact absurd x (by decide)
    · intro x; omega
  · rw [show compare (-s.toInt) 0 = .gt from (Core.compare_gt_iff _ _).mpr h]; constructor
    · intro x; omega
    · intro x; decide
/-- what a coordinate's basic wall comes to -/
def own_cr (s L H b : Int32) (g : UInt64) : Prop := ∃ i : Int, i.natAbs ≤ 2147483648 ∧
  FP.dmul (own_pk b (FP.i2d L) (FP.dneg (FP.i2d H))) (FP.dmul (FP.dneg (FP.dneg (FP.i2d s))) g) = FP.dmul (own_X s L H) (FP.i2d s) ∧
  DInt i (FP.dmul (own_pk b (FP.i2d L) (FP.dneg (FP.i2d H))) g) ∧ Fin64 (own_pk b (FP.i2d L) (FP.dneg (FP.i2d H))) ∧
  (∃ k : Int, k.natAbs ≤ 2147483648 ∧ DInt k (own_pk b (FP.dneg (FP.i2d H)) (FP.i2d L)) ∧ ∀ y, DInt i y → ∃ j : Int, j.natAbs ≤ 2147483648 ∧ DInt j (FP.dmul y (own_pk b 13830554455654793216 4607182418800017408)) ∧ k - j ≤ 0) ∧
  (∀ y, DInt i y → own_aw y s (FP.i2d L) (FP.i2d H) = 1)
theorem nn_cr {s L H b B0 B1 : Int32} {g : UInt64} (hLH : L.toInt ≤ H.toInt) (p0 : ∀ x y, own_pk B0 x y = x) (p1 : ∀ x y, own_pk B1 x y = y)
    (h : (((0 : Int32) < (cmpValue (FP.dcmp (FP.dneg (FP.i2d s)) 0) .g)) → b = B1 ∧ g = 13830554455654793216) ∧ (¬ ((0 : Int32) < (cmpValue (FP.dcmp (FP.dneg (FP.i2d s)) 0) .g)) → b = B0 ∧ g = 4607182418800017408)) : own_cr s L H b g := by
  rw [nn_sgn] at h
  have l1 := Int32.toInt_lt L
  have l2 := Int32.le_toInt L
  have l3 := Int32.toInt_lt H
  have l4 := Int32.le_toInt H
  have q : (s < (0 : Int32)) ↔ s.toInt < 0 := by rw [Int32.lt_iff_toInt_lt]; rfl
  have q' : ((0 : Int32) < s) ↔ 0 < s.toInt := by rw [Int32.lt_iff_toInt_lt]; rfl
  by_cases hs : s < (0 : Int32)
  · obtain ⟨rfl, rfl⟩ := h.1 hs
    unfold own_cr
    simp only [p1]
    have hX : own_X s L H = FP.i2d H := if_pos hs
    rw [hX, nn_hi]
    refine ⟨H.toInt, by omega, nn_neg (Fl.i2d_fin H) (Fl.i2d_fin s), ?_, nI_fin (nI_neg (i2d_int H)), ⟨L.toInt, by omega, i2d_int L, fun y hy => ⟨H.toInt, by omega, nI_mul hy dint_one (by omega) (by omega), by omega⟩⟩, fun y hy => ?_⟩
    · exact nI_mul (nI_neg (i2d_int H)) nI_mone (by omega) (by omega)
    · unfold own_aw
      rw [if_neg (fun w => by have := q'.mp w; have := q.mp hs; omega : ¬ (0 : Int32) < s), if_pos hs, if_pos (nI_eq hy (i2d_int H))]
  · obtain ⟨rfl, rfl⟩ := h.2 hs
    unfold own_cr
    simp only [p0]
    have hX : own_X s L H = FP.i2d L := if_neg hs
    rw [hX, nn_lo]
    refine ⟨L.toInt, by omega, rfl, ?_, Fl.i2d_fin L, ⟨-H.toInt, by omega, nI_neg (i2d_int H), fun y hy => ⟨-L.toInt, by omega, nI_mul hy nI_mone (by omega) (by omega), by omega⟩⟩, fun y hy => ?_⟩
    · exact nI_mul (i2d_int L) dint_one (by omega) (by omega)
    · have e := nI_eq hy (i2d_int L)
      unfold own_aw
      rw [if_neg hs, if_pos e, if_pos e]
      split <;> rfl
def own_ex (c s0 L0 H0 s1 L1 H1 : Int32) : UInt64 := FP.dadd (FP.dadd (FP.i2d c) (FP.dmul (own_X s0 L0 H0) (FP.i2d s0))) (FP.dmul (own_X s1 L1 H1) (FP.i2d s1))
theorem nn_1 (c s0 L0 H0 : Int32) : NoNaN64 (FP.dadd (FP.i2d c) (FP.dmul (own_X s0 L0 H0) (FP.i2d s0))) := Fl.dadd_out (Fl.i2d_fin c).noNaN (nn_Xp s0 L0 H0)
theorem nn_2 (c s0 L0 H0 s1 L1 H1 : Int32) : NoNaN64 (own_ex c s0 L0 H0 s1 L1 H1) := Fl.dadd_out (nn_1 c s0 L0 H0) (nn_Xp s1 L1 H1)
theorem nn_all {c s0 L0 H0 s1 L1 H1 b1 b2 : Int32} {g0 g1 : UInt64} (h1 : own_cr s0 L0 H0 b1 g0) (h2 : own_cr s1 L1 H1 b2 g1) :
    own_f9 (FP.i2d c) (own_pk b1 (FP.i2d L0) (FP.dneg (FP.i2d H0))) (FP.dmul (FP.dneg (FP.dneg (FP.i2d s0))) g0) g0 (own_pk b2 (FP.i2d L1) (FP.dneg (FP.i2d H1))) (FP.dmul (FP.dneg (FP.dneg (FP.i2d s1))) g1) g1 ∧
    own_nw (own_d3 (FP.i2d c) 4607182418800017408 (own_pk b1 (FP.i2d L0) (FP.dneg (FP.i2d H0))) (FP.dmul (FP.dneg (FP.dneg (FP.i2d s0))) g0) (own_pk b2 (FP.i2d L1) (FP.dneg (FP.i2d H1))) (FP.dmul (FP.dneg (FP.dneg (FP.i2d s1))) g1)) (own_d3 (FP.i2d c) 0 (own_pk b1 (FP.i2d L0) (FP.dneg (FP.i2d H0))) g0 (own_pk b2 (FP.i2d L1) (FP.dneg (FP.i2d H1))) 0) (own_d3 (FP.i2d c) 0 (own_pk b1 (FP.i2d L0) (FP.dneg (FP.i2d H0))) 0 (own_pk b2 (FP.i2d L1) (FP.dneg (FP.i2d H1))) g1) (own_pk b1 (FP.dneg (FP.i2d H0)) (FP.i2d L0)) (own_pk b1 13830554455654793216 4607182418800017408) (own_pk b2 (FP.dneg (FP.i2d H1)) (FP.i2d L1)) (own_pk b2 13830554455654793216 4607182418800017408) ∧
    (cmpValue (FP.dcmp (own_d3 (FP.i2d c) 4607182418800017408 (own_pk b1 (FP.i2d L0) (FP.dneg (FP.i2d H0))) (FP.dmul (FP.dneg (FP.dneg (FP.i2d s0))) g0) (own_pk b2 (FP.i2d L1) (FP.dneg (FP.i2d H1))) (FP.dmul (FP.dneg (FP.dneg (FP.i2d s1))) g1)) (own_ex c s0 L0 H0 s1 L1 H1)) .l) = (0 : Int32) ∧
    own_aw (own_d3 (FP.i2d c) 0 (own_pk b1 (FP.i2d L0) (FP.dneg (FP.i2d H0))) g0 (own_pk b2 (FP.i2d L1) (FP.dneg (FP.i2d H1))) 0) s0 (FP.i2d L0) (FP.i2d H0) = 1 ∧ own_aw (own_d3 (FP.i2d c) 0 (own_pk b1 (FP.i2d L0) (FP.dneg (FP.i2d H0))) 0 (own_pk b2 (FP.i2d L1) (FP.dneg (FP.i2d H1))) g1) s1 (FP.i2d L1) (FP.i2d H1) = 1 := by
  obtain ⟨i, a1, a2, a3, a4, ⟨k, a5, a6, a7⟩, a8⟩ := h1
  obtain ⟨j, c1, c2, c3, c4, ⟨m, c5, c6, c7⟩, c8⟩ := h2
  have hc := Fl.i2d_fin c
  have d1 := nI_m1 hc c4 a3 (by omega)
  have d2 := nI_m2 hc a4 c3 (by omega)
  have e0 : (own_d3 (FP.i2d c) 4607182418800017408 (own_pk b1 (FP.i2d L0) (FP.dneg (FP.i2d H0))) (FP.dmul (FP.dneg (FP.dneg (FP.i2d s0))) g0) (own_pk b2 (FP.i2d L1) (FP.dneg (FP.i2d H1))) (FP.dmul (FP.dneg (FP.dneg (FP.i2d s1))) g1)) = own_ex c s0 L0 H0 s1 L1 H1 := by
    show FP.dadd (FP.dadd (own_d1 _ _) (FP.dmul _ _)) (FP.dmul _ _) = _
    rw [nn_c, a2, c2]; rfl
  have f0 : Fin64 (own_d3 (FP.i2d c) 4607182418800017408 (own_pk b1 (FP.i2d L0) (FP.dneg (FP.i2d H0))) (FP.dmul (FP.dneg (FP.dneg (FP.i2d s0))) g0) (own_pk b2 (FP.i2d L1) (FP.dneg (FP.i2d H1))) (FP.dmul (FP.dneg (FP.dneg (FP.i2d s1))) g1)) := by
    rw [e0]
    have m1 := (Fl.dmul_mag (nn_Xm s0 L0 H0) (Fl.i2d_mag s0) (by decide) (by decide))
    have m2 := (Fl.dmul_mag (nn_Xm s1 L1 H1) (Fl.i2d_mag s1) (by decide) (by decide))
    have m3 := Fl.dadd_mag ((Fl.i2d_mag c).mono (by decide : 1056 ≤ 1090)) (m1.mono (by decide : _ ≤ 1090)) (by decide)
    exact (Fl.dadd_mag m3 (m2.mono (by decide : _ ≤ 1092)) (by decide)).fin (by decide)
  obtain ⟨u, u1, u2, u3⟩ := a7 _ d1
  obtain ⟨v, v1, v2, v3⟩ := c7 _ d2
  have w1 := nI_sub a6 (nI_m1 f0 (nI_fin d2) u2 (by omega)) (k := k - u) rfl (by omega)
  have w2 := nI_sub c6 (nI_m2 f0 (nI_fin d1) v2 (by omega)) (k := m - v) rfl (by omega)
  have z1 := nI_mul (i2d_int c) dint_one (k := c.toInt) (by omega) (by have := Int32.toInt_lt c; have := Int32.le_toInt c; omega)
  refine ⟨⟨nI_fin z1, nI_fin (nI_m0 hc), nI_fin (nI_m0 hc), by rw [a2]; exact nn_Xp s0 L0 H0, nI_fin a3, nI_fin (nI_m0 a4), by rw [c2]; exact nn_Xp s1 L1 H1, nI_fin (nI_m0 c4), nI_fin c3⟩, ⟨nI_fin (nI_m0 f0), nI_fin u2, nI_fin (nI_m0 (nI_fin d2)), nI_fin (nI_m0 (nI_fin d1)), nI_fin v2, (nI_fin w1).noNaN, nI_tol w1 u3, (nI_fin w2).noNaN, nI_tol w2 v3⟩, ?_, a8 _ d1, c8 _ d2⟩
  exact Jvm.RoadKit.dcmpV_eq e0 f0.noNaN .l
theorem own_mm (a b : Int32) : (own_mini a b).toInt ≤ (own_maxi a b).toInt := by
  unfold own_mini own_maxi
  by_cases h1 : b < a
  · have e1 := Int32.lt_iff_toInt_lt.mp h1
    rw [if_pos h1]
    by_cases h2 : a < b
    · rw [if_pos h2]; omega
    · rw [if_neg h2]; omega
  · rw [if_neg h1]
    by_cases h2 : a < b
    · have e2 := Int32.lt_iff_toInt_lt.mp h2
      rw [if_pos h2]; omega
    · rw [if_neg h2]; omega
end OwnNum
theorem own_hn (s : Int32) : ∀ z : UInt64, z = 13830554455654793216 ∨ z = 4607182418800017408 → Jvm.Free.Fl.NoNaN64 (FP.dmul (FP.dneg (FP.dneg (FP.i2d s))) z) := by
  rintro z (rfl | rfl)
  · rw [nn_hi]; exact (Jvm.Free.Fl.dneg_iff _).mpr (Jvm.Free.Fl.i2d_fin s).noNaN
  · rw [nn_lo]; exact (Jvm.Free.Fl.i2d_fin s).noNaN
theorem own_ob {c : Prop} [Decidable c] {b B0 B1 : Int32} {g G0 G1 : UInt64} (h : (c → b = B1 ∧ g = G1) ∧ (¬ c → b = B0 ∧ g = G0)) : b = B0 ∨ b = B1 := by
  by_cases hc : c
  · exact Or.inr (h.1 hc).1
  · exact Or.inl (h.2 hc).1
theorem nn_q1 {z : UInt64} {s L H : Int32} (h : z = (if s < (0 : Int32) then FP.i2d H else FP.i2d L)) : Jvm.Free.Fl.NoNaN64 (FP.dmul z (FP.i2d s)) := by rw [show z = own_X s L H from h]; exact (nn_Xp s L H).noNaN
theorem nn_q2 {z : UInt64} {c s L H : Int32} (h : z = (if s < (0 : Int32) then FP.i2d H else FP.i2d L)) : Jvm.Free.Fl.NoNaN64 (FP.dadd (FP.i2d c) (FP.dmul z (FP.i2d s))) := by rw [show z = own_X s L H from h]; exact nn_1 c s L H
theorem nn_q3 {z y : UInt64} {c s L H r M K : Int32} (h : z = (if s < (0 : Int32) then FP.i2d H else FP.i2d L)) (k : y = (if r < (0 : Int32) then FP.i2d K else FP.i2d M)) : Jvm.Free.Fl.NoNaN64 (FP.dadd (FP.dadd (FP.i2d c) (FP.dmul z (FP.i2d s))) (FP.dmul y (FP.i2d r))) := by rw [show z = own_X s L H from h, show y = own_X r M K from k]; exact nn_2 c s L H r M K
abbrev ka (q0 : Int64) : Int32 := ((q0 &&& (1 : Int64)).toInt32)
abbrev kb (q0 : Int64) : Int32 := ((q0 >>> ((32 : Int32) &&& 0x3f).toInt64).toInt32)
abbrev kc (q0 : Int64) : Int32 := ((q0.toInt32) >>> ((1 : Int32) &&& 31))
theorem own_k1 (k : Int64) : ka k = (0 : Int32) ∨ ka k = (1 : Int32) := by
  have h : k &&& 1 = 0 ∨ k &&& 1 = 1 := by
    have e : (k &&& 1).toBitVec = k.toBitVec &&& (1 : BitVec 64) := rfl
    have q : k.toBitVec &&& (1 : BitVec 64) = (0 : BitVec 64) ∨ k.toBitVec &&& (1 : BitVec 64) = (1 : BitVec 64) := by
      generalize k.toBitVec = b
      rcases Nat.mod_two_eq_zero_or_one b.toNat with h | h
      · left; apply BitVec.eq_of_toNat_eq; rw [BitVec.toNat_and]; show b.toNat &&& 1 = 0; rw [Nat.and_one_is_mod]; exact h
      · right; apply BitVec.eq_of_toNat_eq; rw [BitVec.toNat_and]; show b.toNat &&& 1 = 1; rw [Nat.and_one_is_mod]; exact h
    rcases q with q | q
    · left; exact Int64.toBitVec_inj.mp (e.trans q)
    · right; exact Int64.toBitVec_inj.mp (e.trans q)
  rcases h with h | h
  · left; show (k &&& 1).toInt32 = 0; rw [h]; decide
  · right; show (k &&& 1).toInt32 = 1; rw [h]; decide
theorem own_ml {x y a b : Int32} (h : x = own_mini a b) (k : y = own_maxi a b) : x.toInt ≤ y.toInt := by rw [h, k]; exact own_mm a b
theorem pn_0 : plainName "com/example/ballast/ballast/placement/CuttingPlanesMoveWallsPinLaw" = true := by first | (simp [plainName, overriddenIn]; done) | decide +kernel
theorem ef_0 (m : MethodId) (q0 : Int64) (p1 : Int32) (p2 : Int32) (p3 : Int32) (p4 : Int32) (p5 : Int32) : entryFrame m #[(.long q0), (.int p1), (.int p2), (.int p3), (.int p4), (.int p5)] maxLocals = mkF m 0 #[.val (.long q0), oS, iv p1, iv p2, iv p3, iv p4, iv p5, oU, oU, oU, oU, oU, oU, oU, oU, oU, oU, oU, oU, oU, oU, oU, oU, oU, oU, oU, oU, oU, oU, oU, oU, oU, oU, oU, oU, oU] [] := by first | (simp [entryFrame, mkF, argsToLocals, Value.category, maxLocals]; done) | rfl
theorem pd_13 : parseMethodDescriptor "([D[D)V" = some ⟨[(.array .double), (.array .double)], none⟩ := by decide +kernel
theorem pd_14 : parseMethodDescriptor "(D[D)V" = some ⟨[.double, (.array .double)], none⟩ := by decide +kernel
theorem pd_15 : parseMethodDescriptor "(IDD)V" = some ⟨[.int, .double, .double], none⟩ := by decide +kernel
theorem pd_16 : parseMethodDescriptor "()D" = some ⟨[], some .double⟩ := by decide +kernel
theorem pd_17 : parseMethodDescriptor "()[D" = some ⟨[], some (.array .double)⟩ := by decide +kernel
theorem pd_18 : parseMethodDescriptor "(DIDD)Z" = some ⟨[.double, .int, .double, .double], some .boolean⟩ := by decide +kernel
def Q0 (Z : State) (q0 : Int64) (p1 : Int32) (p2 : Int32) (p3 : Int32) (p4 : Int32) (p5 : Int32) (de : Addr) (kd : ClassId) (h0 : Heap) (n0 : Nat) (v : Option Value) (h : Heap) (L : List Loc) : Prop := v = some (.int 1) ∧ Fr n0 L ∧ True
theorem rm0 (l : Launch) (Z : State) (av0 : Array Value) (hw : ∀ d ∈ tables_1, d.before av0 Z = true) (ws : List Jvm.Cond) (q0 : Int64) (p1 : Int32) (p2 : Int32) (p3 : Int32) (p4 : Int32) (p5 : Int32) (de : Addr) (kd : ClassId) (h0 : Heap) (n0 : Nat) (Z0 : n0 ≤ h0.size) (S_DEFAULTCAPACITY_EMPTY_ELEMENTDATA : Sta Z h0 "java/util/ArrayList" "DEFAULTCAPACITY_EMPTY_ELEMENTDATA" "[Ljava/lang/Object;" (.ref de)) (VD : Arv Z h0 de kd (.object "java/lang/Object") (0 : Int32) [] .null) :
    MetFree l x (head1 (Jvm.Cond.code x code maxLocals ret :: ws) room_1) (fun a U => a = #[(.long q0), (.int p1), (.int p2), (.int p3), (.int p4), (.int p5)] ∧ Z.Warmed39 U.vm ∧ U.heap = h0) (fun _ _ _ _ _ => True) (fun _ U o U' => ∃ v L, o = .returned v ∧ Q0 Z q0 p1 p2 p3 p4 p5 de kd h0 n0 v U'.heap L ∧ FrameEnd U o U' L room_1.cells room_1.slots) := by
  refine MetFree.of_bodySF (plainFor_of_name pn_0) hisR ?_
  intro p e s m args below meth c s₁ Bd hml0 hP hK
  obtain ⟨rfl, hZ, hh⟩ := hP
  have hx := Bd.exec
  have hby := Bd.bytes
  have hml : c.maxLocals = 36 := hml0
  have hown : s.vm.findClass "com/example/ballast/ballast/placement/CuttingPlanesMoveWallsPinLaw" = some m.cls := findClass_of_methodNamed Bd.named
  have X0 : Stand p l e room_1 s m #[(.long q0), (.int p1), (.int p2), (.int p3), (.int p4), (.int p5)] below meth c s₁ [] 0 0 := Stand.of_body Bd
  have e0 : s₁.heap = h0 := by rw [← hh, Bd.state]; rfl
  have N0 := Fr.nil n0
  have K0 : Keep h0 h0 [] := Keep.refl h0 []
  refine og (B := s₁.setTop (mkF m 0 #[.val (.long q0), oS, iv p1, iv p2, iv p3, iv p4, iv p5, oU, oU, oU, oU, oU, oU, oU, oU, oU, oU, oU, oU, oU, oU, oU, oU, oU, oU, oU, oU, oU, oU, oU, oU, oU, oU, oU, oU, oU] [])) (fun t k => castTop (ef_0 m q0 p1 p2 p3 p4 p5) k) ?_
  refine og (B := s₁.setTop (mkF m 23 #[.val (.long q0), oS, iv p1, iv p2, iv p3, iv p4, iv p5, iv (ka q0), iv (kb q0), iv (kc q0), oU, oU, oU, oU, oU, oU, oU, oU, oU, oU, oU, oU, oU, oU, oU, oU, oU, oU, oU, oU, oU, oU, oU, oU, oU, oU] [(.int (kc q0)), (.int (kb q0))])) (fun t k => ?_) ?_
  · refine XS.lloadN X0.here hx rfl (hb hby at_0) rfl ?_
    refine XS.lconst X0.here hx rfl (hb hby at_1) ?_
    refine XS.land X0.here hx rfl (hb hby at_2) rfl ?_
    refine XS.l2i X0.here hx rfl (hb hby at_3) rfl ?_
    refine XS.istore X0.here hx rfl (hb hby at_4) rfl (l' := #[.val (.long q0), oS, iv p1, iv p2, iv p3, iv p4, iv p5, iv (ka q0), oU, oU, oU, oU, oU, oU, oU, oU, oU, oU, oU, oU, oU, oU, oU, oU, oU, oU, oU, oU, oU, oU, oU, oU, oU, oU, oU, oU]) rfl ?_
    refine XS.lloadN X0.here hx rfl (hb hby at_6) rfl ?_
    refine XS.bipush X0.here hx rfl (hb hby at_7) ?_
    refine XS.lshr X0.here hx rfl (hb hby at_9) rfl ?_
    refine XS.l2i X0.here hx rfl (hb hby at_10) rfl ?_
    refine XS.istore X0.here hx rfl (hb hby at_11) rfl (l' := #[.val (.long q0), oS, iv p1, iv p2, iv p3, iv p4, iv p5, iv (ka q0), iv (kb q0), oU, oU, oU, oU, oU, oU, oU, oU, oU, oU, oU, oU, oU, oU, oU, oU, oU, oU, oU, oU, oU, oU, oU, oU, oU, oU, oU]) rfl ?_
    refine XS.lloadN X0.here hx rfl (hb hby at_13) rfl ?_
    refine XS.l2i X0.here hx rfl (hb hby at_14) rfl ?_
    refine XS.iconst X0.here hx rfl (hb hby at_15) ?_
    refine XS.ishr X0.here hx rfl (hb hby at_16) rfl ?_
    refine XS.istore X0.here hx rfl (hb hby at_17) rfl (l' := #[.val (.long q0), oS, iv p1, iv p2, iv p3, iv p4, iv p5, iv (ka q0), iv (kb q0), iv (kc q0), oU, oU, oU, oU, oU, oU, oU, oU, oU, oU, oU, oU, oU, oU, oU, oU, oU, oU, oU, oU, oU, oU, oU, oU, oU, oU]) rfl ?_
    refine XS.iload X0.here hx rfl (hb hby at_19) rfl ?_
    refine XS.iload X0.here hx rfl (hb hby at_21) rfl ?_
    exact k
  obtain ⟨_, _, ⟨T_1, L_1, k_1, n_1⟩, -, X_1, ⟨Lc_1, hQ_1, l_1, y_1, z_1⟩, st_1⟩ := Jvm.LawKit.callS X0 hx (y := own_m2) hown (mvT hZ (ow hw 0 rfl)) (mvT hZ (ow hw 1 rfl)) (mvT hZ (ow hw 2 rfl)) (mvT hZ (ow hw 3 rfl)) (by decide) (backOf (W := 0) (rmmini l Z av0 hw [] (kb q0) (kc q0)  h0 n0 Z0 ) hZ (ow hw 3 rfl) (ow hw 2 rfl) (by decide) (by decide)) (g := (mkF m 23 #[.val (.long q0), oS, iv p1, iv p2, iv p3, iv p4, iv p5, iv (ka q0), iv (kb q0), iv (kc q0), oU, oU, oU, oU, oU, oU, oU, oU, oU, oU, oU, oU, oU, oU, oU, oU, oU, oU, oU, oU, oU, oU, oU, oU, oU, oU] [(.int (kc q0)), (.int (kb q0))])) rfl (by rw [hml]; rfl) (argsL := [(.int (kb q0)), (.int (kc q0))]) (rest := []) (lenOf pd_1 rfl) rfl (by show 2 * 0 + _ ≤ _; exact Nat.le_of_eq rfl) (hb hby at_23) (fun _ _ => ⟨rfl, e0, (by decide : 0 + 0 ≤ _), (by decide : 0 + 0 ≤ _)⟩)
  dsimp only [Pt.U, Pt.locs, Pt.cells, Pt.slots] at X_1 l_1 y_1 z_1 st_1 hQ_1
  subst l_1 y_1 z_1
  obtain ⟨hv_1, N_1q, e_1⟩ := hQ_1
  have N_1 := Fr.app N0 N_1q
  obtain ⟨z_1, ez_1⟩ : ∃ z, z = own_mini (kb q0) (kc q0) := ⟨_, rfl⟩
  rw [← ez_1] at hv_1
  subst hv_1
  refine og (fun t k => st_1 t k) ?_
  refine og (B := T_1.setTop (mkF m 33 #[.val (.long q0), oS, iv p1, iv p2, iv p3, iv p4, iv p5, iv (ka q0), iv (kb q0), iv (kc q0), oD (FP.i2d z_1), oS, oU, oU, oU, oU, oU, oU, oU, oU, oU, oU, oU, oU, oU, oU, oU, oU, oU, oU, oU, oU, oU, oU, oU, oU] [(.int (kc q0)), (.int (kb q0))])) (fun t k => ?_) ?_
  · refine XS.i2dS X_1.here hx rfl (hb hby at_26) rfl rfl ?_
    refine XS.dstore X_1.here hx rfl (hb hby at_27) rfl (l' := #[.val (.long q0), oS, iv p1, iv p2, iv p3, iv p4, iv p5, iv (ka q0), iv (kb q0), iv (kc q0), oD (FP.i2d z_1), oS, oU, oU, oU, oU, oU, oU, oU, oU, oU, oU, oU, oU, oU, oU, oU, oU, oU, oU, oU, oU, oU, oU, oU, oU]) rfl ?_
    refine XS.iload X_1.here hx rfl (hb hby at_29) rfl ?_
    refine XS.iload X_1.here hx rfl (hb hby at_31) rfl ?_
    exact k
  obtain ⟨_, _, ⟨T_2, L_2, k_2, n_2⟩, -, X_2, ⟨Lc_2, hQ_2, l_2, y_2, z_2⟩, st_2⟩ := Jvm.LawKit.callS X_1 hx (y := own_m3) hown (mvT hZ (ow hw 4 rfl)) (mvT hZ (ow hw 5 rfl)) (mvT hZ (ow hw 2 rfl)) (mvT hZ (ow hw 6 rfl)) (by decide) (backOf (W := 0) (rmmaxi l Z av0 hw [] (kb q0) (kc q0)  h0 n0 Z0 ) hZ (ow hw 6 rfl) (ow hw 2 rfl) (by decide) (by decide)) (g := (mkF m 33 #[.val (.long q0), oS, iv p1, iv p2, iv p3, iv p4, iv p5, iv (ka q0), iv (kb q0), iv (kc q0), oD (FP.i2d z_1), oS, oU, oU, oU, oU, oU, oU, oU, oU, oU, oU, oU, oU, oU, oU, oU, oU, oU, oU, oU, oU, oU, oU, oU, oU] [(.int (kc q0)), (.int (kb q0))])) rfl (by rw [hml]; rfl) (argsL := [(.int (kb q0)), (.int (kc q0))]) (rest := []) (lenOf pd_1 rfl) rfl (by show 2 * 0 + _ ≤ _; exact Nat.le_of_eq rfl) (hb hby at_33) (fun _ _ => ⟨rfl, e_1, (by decide : 0 + 0 ≤ _), (by decide : 0 + 0 ≤ _)⟩)
  dsimp only [Pt.U, Pt.locs, Pt.cells, Pt.slots] at X_2 l_2 y_2 z_2 st_2 hQ_2
  subst l_2 y_2 z_2
  obtain ⟨hv_2, N_2q, e_2⟩ := hQ_2
  have N_2 := Fr.app N_1 N_2q
  obtain ⟨z_2, ez_2⟩ : ∃ z, z = own_maxi (kb q0) (kc q0) := ⟨_, rfl⟩
  rw [← ez_2] at hv_2
  subst hv_2
  refine og (fun t k => st_2 t k) ?_
  refine og (B := T_2.setTop (mkF m 43 #[.val (.long q0), oS, iv p1, iv p2, iv p3, iv p4, iv p5, iv (ka q0), iv (kb q0), iv (kc q0), oD (FP.i2d z_1), oS, oD (FP.i2d z_2), oS, oU, oU, oU, oU, oU, oU, oU, oU, oU, oU, oU, oU, oU, oU, oU, oU, oU, oU, oU, oU, oU, oU] [(.int p5), (.int p4)])) (fun t k => ?_) ?_
  · refine XS.i2dS X_2.here hx rfl (hb hby at_36) rfl rfl ?_
    refine XS.dstore X_2.here hx rfl (hb hby at_37) rfl (l' := #[.val (.long q0), oS, iv p1, iv p2, iv p3, iv p4, iv p5, iv (ka q0), iv (kb q0), iv (kc q0), oD (FP.i2d z_1), oS, oD (FP.i2d z_2), oS, oU, oU, oU, oU, oU, oU, oU, oU, oU, oU, oU, oU, oU, oU, oU, oU, oU, oU, oU, oU, oU, oU]) rfl ?_
    refine XS.iload X_2.here hx rfl (hb hby at_39) rfl ?_
    refine XS.iload X_2.here hx rfl (hb hby at_41) rfl ?_
    exact k
  obtain ⟨_, _, ⟨T_3, L_3, k_3, n_3⟩, -, X_3, ⟨Lc_3, hQ_3, l_3, y_3, z_3⟩, st_3⟩ := Jvm.LawKit.callS X_2 hx (y := own_m2) hown (mvT hZ (ow hw 0 rfl)) (mvT hZ (ow hw 1 rfl)) (mvT hZ (ow hw 2 rfl)) (mvT hZ (ow hw 3 rfl)) (by decide) (backOf (W := 0) (rmmini l Z av0 hw [] p4 p5  h0 n0 Z0 ) hZ (ow hw 3 rfl) (ow hw 2 rfl) (by decide) (by decide)) (g := (mkF m 43 #[.val (.long q0), oS, iv p1, iv p2, iv p3, iv p4, iv p5, iv (ka q0), iv (kb q0), iv (kc q0), oD (FP.i2d z_1), oS, oD (FP.i2d z_2), oS, oU, oU, oU, oU, oU, oU, oU, oU, oU, oU, oU, oU, oU, oU, oU, oU, oU, oU, oU, oU, oU, oU] [(.int p5), (.int p4)])) rfl (by rw [hml]; rfl) (argsL := [(.int p4), (.int p5)]) (rest := []) (lenOf pd_1 rfl) rfl (by show 2 * 0 + _ ≤ _; exact Nat.le_of_eq rfl) (hb hby at_43) (fun _ _ => ⟨rfl, e_2, (by decide : 0 + 0 ≤ _), (by decide : 0 + 0 ≤ _)⟩)
  dsimp only [Pt.U, Pt.locs, Pt.cells, Pt.slots] at X_3 l_3 y_3 z_3 st_3 hQ_3
  subst l_3 y_3 z_3
  obtain ⟨hv_3, N_3q, e_3⟩ := hQ_3
  have N_3 := Fr.app N_2 N_3q
  obtain ⟨z_3, ez_3⟩ : ∃ z, z = own_mini p4 p5 := ⟨_, rfl⟩
  rw [← ez_3] at hv_3
  subst hv_3
  refine og (fun t k => st_3 t k) ?_
  refine og (B := T_3.setTop (mkF m 53 #[.val (.long q0), oS, iv p1, iv p2, iv p3, iv p4, iv p5, iv (ka q0), iv (kb q0), iv (kc q0), oD (FP.i2d z_1), oS, oD (FP.i2d z_2), oS, oD (FP.i2d z_3), oS, oU, oU, oU, oU, oU, oU, oU, oU, oU, oU, oU, oU, oU, oU, oU, oU, oU, oU, oU, oU] [(.int p5), (.int p4)])) (fun t k => ?_) ?_
  · refine XS.i2dS X_3.here hx rfl (hb hby at_46) rfl rfl ?_
    refine XS.dstore X_3.here hx rfl (hb hby at_47) rfl (l' := #[.val (.long q0), oS, iv p1, iv p2, iv p3, iv p4, iv p5, iv (ka q0), iv (kb q0), iv (kc q0), oD (FP.i2d z_1), oS, oD (FP.i2d z_2), oS, oD (FP.i2d z_3), oS, oU, oU, oU, oU, oU, oU, oU, oU, oU, oU, oU, oU, oU, oU, oU, oU, oU, oU, oU, oU]) rfl ?_
    refine XS.iload X_3.here hx rfl (hb hby at_49) rfl ?_
    refine XS.iload X_3.here hx rfl (hb hby at_51) rfl ?_
    exact k
  obtain ⟨_, _, ⟨T_4, L_4, k_4, n_4⟩, -, X_4, ⟨Lc_4, hQ_4, l_4, y_4, z_4⟩, st_4⟩ := Jvm.LawKit.callS X_3 hx (y := own_m3) hown (mvT hZ (ow hw 4 rfl)) (mvT hZ (ow hw 5 rfl)) (mvT hZ (ow hw 2 rfl)) (mvT hZ (ow hw 6 rfl)) (by decide) (backOf (W := 0) (rmmaxi l Z av0 hw [] p4 p5  h0 n0 Z0 ) hZ (ow hw 6 rfl) (ow hw 2 rfl) (by decide) (by decide)) (g := (mkF m 53 #[.val (.long q0), oS, iv p1, iv p2, iv p3, iv p4, iv p5, iv (ka q0), iv (kb q0), iv (kc q0), oD (FP.i2d z_1), oS, oD (FP.i2d z_2), oS, oD (FP.i2d z_3), oS, oU, oU, oU, oU, oU, oU, oU, oU, oU, oU, oU, oU, oU, oU, oU, oU, oU, oU, oU, oU] [(.int p5), (.int p4)])) rfl (by rw [hml]; rfl) (argsL := [(.int p4), (.int p5)]) (rest := []) (lenOf pd_1 rfl) rfl (by show 2 * 0 + _ ≤ _; exact Nat.le_of_eq rfl) (hb hby at_53) (fun _ _ => ⟨rfl, e_3, (by decide : 0 + 0 ≤ _), (by decide : 0 + 0 ≤ _)⟩)
  dsimp only [Pt.U, Pt.locs, Pt.cells, Pt.slots] at X_4 l_4 y_4 z_4 st_4 hQ_4
  subst l_4 y_4 z_4
  obtain ⟨hv_4, N_4q, e_4⟩ := hQ_4
  have N_4 := Fr.app N_3 N_4q
  obtain ⟨z_4, ez_4⟩ : ∃ z, z = own_maxi p4 p5 := ⟨_, rfl⟩
  rw [← ez_4] at hv_4
  subst hv_4
  refine og (fun t k => st_4 t k) ?_
  refine og (B := T_4.setTop (mkF m 59 #[.val (.long q0), oS, iv p1, iv p2, iv p3, iv p4, iv p5, iv (ka q0), iv (kb q0), iv (kc q0), oD (FP.i2d z_1), oS, oD (FP.i2d z_2), oS, oD (FP.i2d z_3), oS, oD (FP.i2d z_4), oS, oU, oU, oU, oU, oU, oU, oU, oU, oU, oU, oU, oU, oU, oU, oU, oU, oU, oU] [])) (fun t k => ?_) ?_
  · refine XS.i2dS X_4.here hx rfl (hb hby at_56) rfl rfl ?_
    refine XS.dstore X_4.here hx rfl (hb hby at_57) rfl (l' := #[.val (.long q0), oS, iv p1, iv p2, iv p3, iv p4, iv p5, iv (ka q0), iv (kb q0), iv (kc q0), oD (FP.i2d z_1), oS, oD (FP.i2d z_2), oS, oD (FP.i2d z_3), oS, oD (FP.i2d z_4), oS, oU, oU, oU, oU, oU, oU, oU, oU, oU, oU, oU, oU, oU, oU, oU, oU, oU, oU]) rfl ?_
    exact k
  obtain ⟨T_5, h_5, X_5, e_5, E_5, A_5, D_5, -, st_5⟩ := newO X_4 hx hZ hown (ow hw 7 rfl) (ow hw 8 rfl) (ow hw 9 rfl) e_4 (g := (mkF m 59 #[.val (.long q0), oS, iv p1, iv p2, iv p3, iv p4, iv p5, iv (ka q0), iv (kb q0), iv (kc q0), oD (FP.i2d z_1), oS, oD (FP.i2d z_2), oS, oD (FP.i2d z_3), oS, oD (FP.i2d z_4), oS, oU, oU, oU, oU, oU, oU, oU, oU, oU, oU, oU, oU, oU, oU, oU, oU, oU, oU] [])) rfl (hb hby at_59) (by decide) (by decide)
  obtain ⟨b_5, g_5⟩ : ∃ z, z = h0.size := ⟨_, rfl⟩
  rw [← g_5] at A_5 D_5 st_5
  have g_b_5 : n0 ≤ b_5 := Nat.le_trans Z0 (Nat.le_of_eq g_5.symm)
  have sz_b_5 : h0.size ≤ b_5 := Nat.le_trans K0.1 (Nat.le_of_eq g_5.symm)
  have lt_de_b_5 : de < b_5 := Nat.lt_of_lt_of_le (VD).lt (Nat.le_of_eq g_5.symm)
  have ne_de_b_5 := Nat.ne_of_lt lt_de_b_5
  have c1 := K0.ext E_5
  have c2 := S_DEFAULTCAPACITY_EMPTY_ELEMENTDATA.ext E_5
  have c3 := VD.ext E_5
  have Z0__5 : n0 ≤ h_5.size := Nat.le_trans Z0 E_5.1
  have F_columns_b_5 : Fld Z h_5 b_5 "com/example/ballast/ballast/placement/CuttingPlanes" "columns" "Ljava/util/List;" .null := D_5 (Or.inr (ow hw 42 rfl)) (ty := (.object "java/util/List")) (by decide)
  have F_values_b_5 : Fld Z h_5 b_5 "com/example/ballast/ballast/placement/CuttingPlanes" "values" "[D" .null := D_5 (Or.inl (ow hw 44 rfl)) (ty := (.array .double)) (by decide)
  have F_rowOf_b_5 : Fld Z h_5 b_5 "com/example/ballast/ballast/placement/CuttingPlanes" "rowOf" "[I" .null := D_5 (Or.inl (ow hw 47 rfl)) (ty := (.array .int)) (by decide)
  have F_dimensions_b_5 : Fld Z h_5 b_5 "com/example/ballast/ballast/placement/CuttingPlanes" "dimensions" "I" (.int 0) := D_5 (Or.inr (ow hw 49 rfl)) (ty := .int) (by decide)
  have F_rows_b_5 : Fld Z h_5 b_5 "com/example/ballast/ballast/placement/CuttingPlanes" "rows" "I" (.int 0) := D_5 (Or.inr (ow hw 51 rfl)) (ty := .int) (by decide)
  have F_basis_b_5 : Fld Z h_5 b_5 "com/example/ballast/ballast/placement/CuttingPlanes" "basis" "[I" .null := D_5 (Or.inr (ow hw 53 rfl)) (ty := (.array .int)) (by decide)
  have F_inverse_b_5 : Fld Z h_5 b_5 "com/example/ballast/ballast/placement/CuttingPlanes" "inverse" "[[D" .null := D_5 (Or.inl (ow hw 105 rfl)) (ty := (.array (.array .double))) (by decide)
  have F_basic_b_5 : Fld Z h_5 b_5 "com/example/ballast/ballast/placement/CuttingPlanes" "basic" "[D" .null := D_5 (Or.inl (ow hw 134 rfl)) (ty := (.array .double)) (by decide)
  have F_multipliers_b_5 : Fld Z h_5 b_5 "com/example/ballast/ballast/placement/CuttingPlanes" "multipliers" "[D" .null := D_5 (Or.inl (ow hw 152 rfl)) (ty := (.array .double)) (by decide)
  have F_sinceFactored_b_5 : Fld Z h_5 b_5 "com/example/ballast/ballast/placement/CuttingPlanes" "sinceFactored" "I" (.int 0) := D_5 (Or.inl (ow hw 184 rfl)) (ty := .int) (by decide)
  refine og (fun t k => st_5 t k) ?_
  refine og (B := T_5.setTop (mkF m 64 #[.val (.long q0), oS, iv p1, iv p2, iv p3, iv p4, iv p5, iv (ka q0), iv (kb q0), iv (kc q0), oD (FP.i2d z_1), oS, oD (FP.i2d z_2), oS, oD (FP.i2d z_3), oS, oD (FP.i2d z_4), oS, oU, oU, oU, oU, oU, oU, oU, oU, oU, oU, oU, oU, oU, oU, oU, oU, oU, oU] [(.int 2), (.ref b_5), (.ref b_5)])) (fun t k => ?_) ?_
  · refine XS.dup X_5.here hx rfl (hb hby at_62) rfl rfl ?_
    refine XS.iconst X_5.here hx rfl (hb hby at_63) ?_
    exact k
  obtain ⟨T_6, h_6, k_6, X_6, e_6, E_6, A_6, Q_6, st_6⟩ := newPE X_5 hx hZ (ow hw 10 rfl) e_5 (g := (mkF m 64 #[.val (.long q0), oS, iv p1, iv p2, iv p3, iv p4, iv p5, iv (ka q0), iv (kb q0), iv (kc q0), oD (FP.i2d z_1), oS, oD (FP.i2d z_2), oS, oD (FP.i2d z_3), oS, oD (FP.i2d z_4), oS, oU, oU, oU, oU, oU, oU, oU, oU, oU, oU, oU, oU, oU, oU, oU, oU, oU, oU] [(.int 2), (.ref b_5), (.ref b_5)])) rfl (hb hby at_64) rfl (by decide) (cap := 2) (by decide) (by decide) (by decide) (by decide) (ad := "[D") (by decide)
  obtain ⟨b_6, g_6⟩ : ∃ z, z = h_5.size := ⟨_, rfl⟩
  rw [← g_6] at A_6 Q_6 st_6
  have g_b_6 : n0 ≤ b_6 := Nat.le_trans Z0__5 (Nat.le_of_eq g_6.symm)
  have sz_b_6 : h0.size ≤ b_6 := Nat.le_trans c1.1 (Nat.le_of_eq g_6.symm)
  have lt_de_b_6 : de < b_6 := Nat.lt_of_lt_of_le (c3).lt (Nat.le_of_eq g_6.symm)
  have ne_de_b_6 := Nat.ne_of_lt lt_de_b_6
  have lt_b_5_b_6 : b_5 < b_6 := Nat.lt_of_lt_of_le (F_columns_b_5).lt (Nat.le_of_eq g_6.symm)
  have ne_b_5_b_6 := Nat.ne_of_lt lt_b_5_b_6
  have c4 := c1.ext E_6
  have c5 := c2.ext E_6
  have c6 := c3.ext E_6
  have c7 := F_columns_b_5.ext E_6
  have c8 := F_values_b_5.ext E_6
  have c9 := F_rowOf_b_5.ext E_6
  have c10 := F_dimensions_b_5.ext E_6
  have c11 := F_rows_b_5.ext E_6
  have c12 := F_basis_b_5.ext E_6
  have c13 := F_inverse_b_5.ext E_6
  have c14 := F_basic_b_5.ext E_6
  have c15 := F_multipliers_b_5.ext E_6
  have c16 := F_sinceFactored_b_5.ext E_6
  have c17 := A_5.ext E_6
  have Z0__6 : n0 ≤ h_6.size := Nat.le_trans Z0__5 E_6.1
  have V_b_6 : Arv Z h_6 b_6 k_6 .double (2 : Int32) [(.double 0), (.double 0)] (.double 0) := (Arv.new A_6 (by decide)).pad (pad_rep [] (.double 0) 2)
  refine og (fun t k => st_6 t k) ?_
  refine og (B := T_6.setTop (mkF m 70 #[.val (.long q0), oS, iv p1, iv p2, iv p3, iv p4, iv p5, iv (ka q0), iv (kb q0), iv (kc q0), oD (FP.i2d z_1), oS, oD (FP.i2d z_2), oS, oD (FP.i2d z_3), oS, oD (FP.i2d z_4), oS, oU, oU, oU, oU, oU, oU, oU, oU, oU, oU, oU, oU, oU, oU, oU, oU, oU, oU] [(.double (FP.i2d z_1)), (.int 0), (.ref b_6), (.ref b_6), (.ref b_5), (.ref b_5)])) (fun t k => ?_) ?_
  · refine XS.dup X_6.here hx rfl (hb hby at_66) rfl rfl ?_
    refine XS.iconst X_6.here hx rfl (hb hby at_67) ?_
    refine XS.dload X_6.here hx rfl (hb hby at_68) rfl ?_
    exact k
  obtain ⟨cl_7, Ar_7, q_7, S_7, M_7, H_7, G_7⟩ := id V_b_6
  have hin_7 : ¬ ((0 : Int32) < 0 ∨ cl_7.slots.size ≤ ((0 : Int32)).toNatClampNeg) := inb_of S_7 ⟨by decide, by decide⟩
  obtain ⟨T_7, h_7, X_7, e_7, W_7, st_7⟩ := stD X_6 hx hZ e_6 Ar_7 (j := (0 : Int32)) hin_7 (g := (mkF m 70 #[.val (.long q0), oS, iv p1, iv p2, iv p3, iv p4, iv p5, iv (ka q0), iv (kb q0), iv (kc q0), oD (FP.i2d z_1), oS, oD (FP.i2d z_2), oS, oD (FP.i2d z_3), oS, oD (FP.i2d z_4), oS, oU, oU, oU, oU, oU, oU, oU, oU, oU, oU, oU, oU, oU, oU, oU, oU, oU, oU] [(.double (FP.i2d z_1)), (.int 0), (.ref b_6), (.ref b_6), (.ref b_5), (.ref b_5)])) rfl rfl (hb hby at_70)
  have c18 := c4.wr W_7 (Or.inr sz_b_6)
  have c19 := c5.wr W_7
  have c20 := c6.other W_7 ne_de_b_6
  have c21 := c7.other W_7 (Or.inl ne_b_5_b_6)
  have c22 := c8.other W_7 (Or.inl ne_b_5_b_6)
  have c23 := c9.other W_7 (Or.inl ne_b_5_b_6)
  have c24 := c10.other W_7 (Or.inl ne_b_5_b_6)
  have c25 := c11.other W_7 (Or.inl ne_b_5_b_6)
  have c26 := c12.other W_7 (Or.inl ne_b_5_b_6)
  have c27 := c13.other W_7 (Or.inl ne_b_5_b_6)
  have c28 := c14.other W_7 (Or.inl ne_b_5_b_6)
  have c29 := c15.other W_7 (Or.inl ne_b_5_b_6)
  have c30 := c16.other W_7 (Or.inl ne_b_5_b_6)
  have c31 := c17.wr W_7
  have c32 := Q_6.wr W_7
  have V_7 : Arv Z h_7 b_6 k_6 .double (2 : Int32) [(.double (FP.i2d z_1)), (.double 0)] (.double 0) := Arv.set Ar_7 q_7 S_7 M_7 H_7 G_7 rfl W_7 0 rfl (Nat.le_of_ble_eq_true rfl)
  have N_7 := Fr.snoc X_7 N_4 g_b_6
  have Z0__7 : n0 ≤ h_7.size := by rw [W_7.size]; exact Z0__6
  refine og (fun t k => st_7 t k) ?_
  refine og (B := T_7.setTop (mkF m 75 #[.val (.long q0), oS, iv p1, iv p2, iv p3, iv p4, iv p5, iv (ka q0), iv (kb q0), iv (kc q0), oD (FP.i2d z_1), oS, oD (FP.i2d z_2), oS, oD (FP.i2d z_3), oS, oD (FP.i2d z_4), oS, oU, oU, oU, oU, oU, oU, oU, oU, oU, oU, oU, oU, oU, oU, oU, oU, oU, oU] [(.double (FP.i2d z_1)), (.int 1), (.ref b_6), (.ref b_6), (.ref b_5), (.ref b_5)])) (fun t k => ?_) ?_
  · refine XS.dup X_7.here hx rfl (hb hby at_71) rfl rfl ?_
    refine XS.iconst X_7.here hx rfl (hb hby at_72) ?_
    refine XS.dload X_7.here hx rfl (hb hby at_73) rfl ?_
    exact k
  obtain ⟨cl_8, Ar_8, q_8, S_8, M_8, H_8, G_8⟩ := id V_7
  have hin_8 : ¬ ((1 : Int32) < 0 ∨ cl_8.slots.size ≤ ((1 : Int32)).toNatClampNeg) := inb_of S_8 ⟨by decide, by decide⟩
  obtain ⟨T_8, h_8, X_8, e_8, W_8, st_8⟩ := stD X_7 hx hZ e_7 Ar_8 (j := (1 : Int32)) hin_8 (g := (mkF m 75 #[.val (.long q0), oS, iv p1, iv p2, iv p3, iv p4, iv p5, iv (ka q0), iv (kb q0), iv (kc q0), oD (FP.i2d z_1), oS, oD (FP.i2d z_2), oS, oD (FP.i2d z_3), oS, oD (FP.i2d z_4), oS, oU, oU, oU, oU, oU, oU, oU, oU, oU, oU, oU, oU, oU, oU, oU, oU, oU, oU] [(.double (FP.i2d z_1)), (.int 1), (.ref b_6), (.ref b_6), (.ref b_5), (.ref b_5)])) rfl rfl (hb hby at_75)
  have c33 := c18.wr W_8 (Or.inr sz_b_6)
  have c34 := c19.wr W_8
  have c35 := c20.other W_8 ne_de_b_6
  have c36 := c21.other W_8 (Or.inl ne_b_5_b_6)
  have c37 := c22.other W_8 (Or.inl ne_b_5_b_6)
  have c38 := c23.other W_8 (Or.inl ne_b_5_b_6)
  have c39 := c24.other W_8 (Or.inl ne_b_5_b_6)
  have c40 := c25.other W_8 (Or.inl ne_b_5_b_6)
  have c41 := c26.other W_8 (Or.inl ne_b_5_b_6)
  have c42 := c27.other W_8 (Or.inl ne_b_5_b_6)
  have c43 := c28.other W_8 (Or.inl ne_b_5_b_6)
  have c44 := c29.other W_8 (Or.inl ne_b_5_b_6)
  have c45 := c30.other W_8 (Or.inl ne_b_5_b_6)
  have c46 := c31.wr W_8
  have c47 := c32.wr W_8
  have V_8 : Arv Z h_8 b_6 k_6 .double (2 : Int32) [(.double (FP.i2d z_1)), (.double (FP.i2d z_1))] (.double 0) := Arv.set Ar_8 q_8 S_8 M_8 H_8 G_8 rfl W_8 1 rfl (Nat.le_of_ble_eq_true rfl)
  have N_8 := Fr.snoc X_8 N_7 g_b_6
  have Z0__8 : n0 ≤ h_8.size := by rw [W_8.size]; exact Z0__7
  refine og (fun t k => st_8 t k) ?_
  refine og (B := T_8.setTop (mkF m 77 #[.val (.long q0), oS, iv p1, iv p2, iv p3, iv p4, iv p5, iv (ka q0), iv (kb q0), iv (kc q0), oD (FP.i2d z_1), oS, oD (FP.i2d z_2), oS, oD (FP.i2d z_3), oS, oD (FP.i2d z_4), oS, oU, oU, oU, oU, oU, oU, oU, oU, oU, oU, oU, oU, oU, oU, oU, oU, oU, oU] [(.int 2), (.ref b_6), (.ref b_5), (.ref b_5)])) (fun t k => ?_) ?_
  · refine XS.iconst X_8.here hx rfl (hb hby at_76) ?_
    exact k
  obtain ⟨T_9, h_9, k_9, X_9, e_9, E_9, A_9, Q_9, st_9⟩ := newPE X_8 hx hZ (ow hw 10 rfl) e_8 (g := (mkF m 77 #[.val (.long q0), oS, iv p1, iv p2, iv p3, iv p4, iv p5, iv (ka q0), iv (kb q0), iv (kc q0), oD (FP.i2d z_1), oS, oD (FP.i2d z_2), oS, oD (FP.i2d z_3), oS, oD (FP.i2d z_4), oS, oU, oU, oU, oU, oU, oU, oU, oU, oU, oU, oU, oU, oU, oU, oU, oU, oU, oU] [(.int 2), (.ref b_6), (.ref b_5), (.ref b_5)])) rfl (hb hby at_77) rfl (by decide) (cap := 2) (by decide) (by decide) (by decide) (by decide) (ad := "[D") (by decide)
  obtain ⟨b_9, g_9⟩ : ∃ z, z = h_8.size := ⟨_, rfl⟩
  rw [← g_9] at A_9 Q_9 st_9
  have g_b_9 : n0 ≤ b_9 := Nat.le_trans Z0__8 (Nat.le_of_eq g_9.symm)
  have sz_b_9 : h0.size ≤ b_9 := Nat.le_trans c33.1 (Nat.le_of_eq g_9.symm)
  have lt_de_b_9 : de < b_9 := Nat.lt_of_lt_of_le (c35).lt (Nat.le_of_eq g_9.symm)
  have ne_de_b_9 := Nat.ne_of_lt lt_de_b_9
  have lt_b_5_b_9 : b_5 < b_9 := Nat.lt_of_lt_of_le (c36).lt (Nat.le_of_eq g_9.symm)
  have ne_b_5_b_9 := Nat.ne_of_lt lt_b_5_b_9
  have lt_b_6_b_9 : b_6 < b_9 := Nat.lt_of_lt_of_le (c47).lt (Nat.le_of_eq g_9.symm)
  have ne_b_6_b_9 := Nat.ne_of_lt lt_b_6_b_9
  have c48 := c33.ext E_9
  have c49 := c34.ext E_9
  have c50 := c35.ext E_9
  have c51 := c36.ext E_9
  have c52 := c37.ext E_9
  have c53 := c38.ext E_9
  have c54 := c39.ext E_9
  have c55 := c40.ext E_9
  have c56 := c41.ext E_9
  have c57 := c42.ext E_9
  have c58 := c43.ext E_9
  have c59 := c44.ext E_9
  have c60 := c45.ext E_9
  have c61 := c46.ext E_9
  have c62 := c47.ext E_9
  have c63 := V_8.ext E_9
  have Z0__9 : n0 ≤ h_9.size := Nat.le_trans Z0__8 E_9.1
  have V_b_9 : Arv Z h_9 b_9 k_9 .double (2 : Int32) [(.double 0), (.double 0)] (.double 0) := (Arv.new A_9 (by decide)).pad (pad_rep [] (.double 0) 2)
  refine og (fun t k => st_9 t k) ?_
  refine og (B := T_9.setTop (mkF m 83 #[.val (.long q0), oS, iv p1, iv p2, iv p3, iv p4, iv p5, iv (ka q0), iv (kb q0), iv (kc q0), oD (FP.i2d z_1), oS, oD (FP.i2d z_2), oS, oD (FP.i2d z_3), oS, oD (FP.i2d z_4), oS, oU, oU, oU, oU, oU, oU, oU, oU, oU, oU, oU, oU, oU, oU, oU, oU, oU, oU] [(.double (FP.i2d z_2)), (.int 0), (.ref b_9), (.ref b_9), (.ref b_6), (.ref b_5), (.ref b_5)])) (fun t k => ?_) ?_
  · refine XS.dup X_9.here hx rfl (hb hby at_79) rfl rfl ?_
    refine XS.iconst X_9.here hx rfl (hb hby at_80) ?_
    refine XS.dload X_9.here hx rfl (hb hby at_81) rfl ?_
    exact k
  obtain ⟨cl_10, Ar_10, q_10, S_10, M_10, H_10, G_10⟩ := id V_b_9
  have hin_10 : ¬ ((0 : Int32) < 0 ∨ cl_10.slots.size ≤ ((0 : Int32)).toNatClampNeg) := inb_of S_10 ⟨by decide, by decide⟩
  obtain ⟨T_10, h_10, X_10, e_10, W_10, st_10⟩ := stD X_9 hx hZ e_9 Ar_10 (j := (0 : Int32)) hin_10 (g := (mkF m 83 #[.val (.long q0), oS, iv p1, iv p2, iv p3, iv p4, iv p5, iv (ka q0), iv (kb q0), iv (kc q0), oD (FP.i2d z_1), oS, oD (FP.i2d z_2), oS, oD (FP.i2d z_3), oS, oD (FP.i2d z_4), oS, oU, oU, oU, oU, oU, oU, oU, oU, oU, oU, oU, oU, oU, oU, oU, oU, oU, oU] [(.double (FP.i2d z_2)), (.int 0), (.ref b_9), (.ref b_9), (.ref b_6), (.ref b_5), (.ref b_5)])) rfl rfl (hb hby at_83)
  have c64 := c48.wr W_10 (Or.inr sz_b_9)
  have c65 := c49.wr W_10
  have c66 := c50.other W_10 ne_de_b_9
  have c67 := c51.other W_10 (Or.inl ne_b_5_b_9)
  have c68 := c52.other W_10 (Or.inl ne_b_5_b_9)
  have c69 := c53.other W_10 (Or.inl ne_b_5_b_9)
  have c70 := c54.other W_10 (Or.inl ne_b_5_b_9)
  have c71 := c55.other W_10 (Or.inl ne_b_5_b_9)
  have c72 := c56.other W_10 (Or.inl ne_b_5_b_9)
  have c73 := c57.other W_10 (Or.inl ne_b_5_b_9)
  have c74 := c58.other W_10 (Or.inl ne_b_5_b_9)
  have c75 := c59.other W_10 (Or.inl ne_b_5_b_9)
  have c76 := c60.other W_10 (Or.inl ne_b_5_b_9)
  have c77 := c61.wr W_10
  have c78 := c62.wr W_10
  have c79 := c63.other W_10 ne_b_6_b_9
  have c80 := Q_9.wr W_10
  have V_10 : Arv Z h_10 b_9 k_9 .double (2 : Int32) [(.double (FP.i2d z_2)), (.double 0)] (.double 0) := Arv.set Ar_10 q_10 S_10 M_10 H_10 G_10 rfl W_10 0 rfl (Nat.le_of_ble_eq_true rfl)
  have N_10 := Fr.snoc X_10 N_8 g_b_9
  have Z0__10 : n0 ≤ h_10.size := by rw [W_10.size]; exact Z0__9
  refine og (fun t k => st_10 t k) ?_
  refine og (B := T_10.setTop (mkF m 88 #[.val (.long q0), oS, iv p1, iv p2, iv p3, iv p4, iv p5, iv (ka q0), iv (kb q0), iv (kc q0), oD (FP.i2d z_1), oS, oD (FP.i2d z_2), oS, oD (FP.i2d z_3), oS, oD (FP.i2d z_4), oS, oU, oU, oU, oU, oU, oU, oU, oU, oU, oU, oU, oU, oU, oU, oU, oU, oU, oU] [(.double (FP.i2d z_2)), (.int 1), (.ref b_9), (.ref b_9), (.ref b_6), (.ref b_5), (.ref b_5)])) (fun t k => ?_) ?_
  · refine XS.dup X_10.here hx rfl (hb hby at_84) rfl rfl ?_
    refine XS.iconst X_10.here hx rfl (hb hby at_85) ?_
    refine XS.dload X_10.here hx rfl (hb hby at_86) rfl ?_
    exact k
  obtain ⟨cl_11, Ar_11, q_11, S_11, M_11, H_11, G_11⟩ := id V_10
  have hin_11 : ¬ ((1 : Int32) < 0 ∨ cl_11.slots.size ≤ ((1 : Int32)).toNatClampNeg) := inb_of S_11 ⟨by decide, by decide⟩
  obtain ⟨T_11, h_11, X_11, e_11, W_11, st_11⟩ := stD X_10 hx hZ e_10 Ar_11 (j := (1 : Int32)) hin_11 (g := (mkF m 88 #[.val (.long q0), oS, iv p1, iv p2, iv p3, iv p4, iv p5, iv (ka q0), iv (kb q0), iv (kc q0), oD (FP.i2d z_1), oS, oD (FP.i2d z_2), oS, oD (FP.i2d z_3), oS, oD (FP.i2d z_4), oS, oU, oU, oU, oU, oU, oU, oU, oU, oU, oU, oU, oU, oU, oU, oU, oU, oU, oU] [(.double (FP.i2d z_2)), (.int 1), (.ref b_9), (.ref b_9), (.ref b_6), (.ref b_5), (.ref b_5)])) rfl rfl (hb hby at_88)
  have c81 := c64.wr W_11 (Or.inr sz_b_9)
  have c82 := c65.wr W_11
  have c83 := c66.other W_11 ne_de_b_9
  have c84 := c67.other W_11 (Or.inl ne_b_5_b_9)
  have c85 := c68.other W_11 (Or.inl ne_b_5_b_9)
  have c86 := c69.other W_11 (Or.inl ne_b_5_b_9)
  have c87 := c70.other W_11 (Or.inl ne_b_5_b_9)
  have c88 := c71.other W_11 (Or.inl ne_b_5_b_9)
  have c89 := c72.other W_11 (Or.inl ne_b_5_b_9)
  have c90 := c73.other W_11 (Or.inl ne_b_5_b_9)
  have c91 := c74.other W_11 (Or.inl ne_b_5_b_9)
  have c92 := c75.other W_11 (Or.inl ne_b_5_b_9)
  have c93 := c76.other W_11 (Or.inl ne_b_5_b_9)
  have c94 := c77.wr W_11
  have c95 := c78.wr W_11
  have c96 := c79.other W_11 ne_b_6_b_9
  have c97 := c80.wr W_11
  have V_11 : Arv Z h_11 b_9 k_9 .double (2 : Int32) [(.double (FP.i2d z_2)), (.double (FP.i2d z_2))] (.double 0) := Arv.set Ar_11 q_11 S_11 M_11 H_11 G_11 rfl W_11 1 rfl (Nat.le_of_ble_eq_true rfl)
  have N_11 := Fr.snoc X_11 N_10 g_b_9
  have Z0__11 : n0 ≤ h_11.size := by rw [W_11.size]; exact Z0__10
  refine og (fun t k => st_11 t k) ?_
  have kk_12 := (c94).lt
  obtain ⟨_, _, ⟨T_12, L_12, k_12, n_12⟩, -, X_12, ⟨Lc_12, hQ_12, l_12, y_12, z_12⟩, st_12⟩ := X_11.specialBack hx (y := own_m4) rfl hown (mvT hZ (ow hw 11 rfl)) (mvT hZ (ow hw 12 rfl)) (mvT hZ (ow hw 13 rfl)) (by decide) (backOf (W := 1) (rmcpi l Z av0 hw [] b_5 b_6 b_9 .null .null .null (.int 0) (.int 0) .null .null .null .null de kd k_6 k_9 (FP.i2d z_1) (FP.i2d z_1) (FP.i2d z_2) (FP.i2d z_2) h_11 n0 Z0__11 c94 c84 c85 c86 c87 c88 c89 c90 c91 c92 g_b_5 c82 c83 c96 V_11 (Ne.symm ne_b_5_b_6) (Ne.symm ne_b_5_b_9) ne_de_b_5) hZ (ow hw 13 rfl) (ow hw 9 rfl) (by decide) (by decide)) (g := (mkF m 89 #[.val (.long q0), oS, iv p1, iv p2, iv p3, iv p4, iv p5, iv (ka q0), iv (kb q0), iv (kc q0), oD (FP.i2d z_1), oS, oD (FP.i2d z_2), oS, oD (FP.i2d z_3), oS, oD (FP.i2d z_4), oS, oU, oU, oU, oU, oU, oU, oU, oU, oU, oU, oU, oU, oU, oU, oU, oU, oU, oU] [(.ref b_9), (.ref b_6), (.ref b_5), (.ref b_5)])) rfl (by rw [hml]; rfl) (Steps.refl _) (a := b_5) (argsL := [(.ref b_6), (.ref b_9)]) (rest := [(.ref b_5)]) (lenOf pd_13 rfl) rfl (by show 2 * 0 + _ ≤ _; exact Nat.le_of_eq rfl) (hb hby at_89) (fun _ _ => ⟨rfl, e_11, (by decide : 3 + 9 ≤ _), (by decide : 14 + 60 ≤ _)⟩)
  dsimp only [Pt.U, Pt.locs, Pt.cells, Pt.slots] at X_12 l_12 y_12 z_12 st_12 hQ_12
  subst l_12 y_12 z_12
  obtain ⟨al_12, va_12, ro_12, ba_12, ca0_12, ed_12, ca1_12, ca2_12, ca3_12, kd_12, ka_12, kr_12, kq_12, kc0_12, kc1_12, kc2_12, kc3_12, rfl, N_12q, K_12, szq_12, lt_al_12_va_12, lt_va_12_ro_12, lt_ro_12_ba_12, lt_ba_12_ca0_12, lt_ca0_12_ed_12, lt_ed_12_ca1_12, lt_ca1_12_ca2_12, lt_ca2_12_ca3_12, J_12_0, J_12_1, J_12_2, J_12_3, J_12_4, J_12_5, J_12_6, J_12_7, J_12_8, J_12_9, J_12_10, J_12_11, J_12_12, J_12_13, J_12_14, J_12_15, J_12_16, J_12_17, J_12_18, J_12_19, J_12_20, J_12_21, J_12_22, J_12_23, J_12_24, J_12_25⟩ := hQ_12
  have N_12 := Fr.app N_11 N_12q
  have c98 := c81.trans K_12 (allS (Or.inr sz_b_5) all0)
  have c99 := own_stake c82 K_12 c94
  have c100 := c83.keep K_12 (ninS ne_de_b_5 nin0)
  have c101 := c94.keep K_12
  have c102 := c95.keep K_12
  have c103 := c96.keep K_12 (ninS (Ne.symm ne_b_5_b_6) nin0)
  have c104 := c97.keep K_12
  have c105 := V_11.keep K_12 (ninS (Ne.symm ne_b_5_b_9) nin0)
  have Z0__12 : n0 ≤ T_12.heap.size := Nat.le_trans Z0__11 K_12.1
  have lt_b_5_al_12 := Nat.lt_of_lt_of_le kk_12 szq_12
  have lt_b_5_va_12 := Nat.lt_trans lt_b_5_al_12 lt_al_12_va_12
  have lt_al_12_ro_12 := Nat.lt_trans lt_al_12_va_12 lt_va_12_ro_12
  have lt_b_5_ro_12 := Nat.lt_trans lt_b_5_va_12 lt_va_12_ro_12
  have lt_va_12_ba_12 := Nat.lt_trans lt_va_12_ro_12 lt_ro_12_ba_12
  have lt_al_12_ba_12 := Nat.lt_trans lt_al_12_ro_12 lt_ro_12_ba_12
  have lt_b_5_ba_12 := Nat.lt_trans lt_b_5_ro_12 lt_ro_12_ba_12
  have lt_ro_12_ca0_12 := Nat.lt_trans lt_ro_12_ba_12 lt_ba_12_ca0_12
  have lt_va_12_ca0_12 := Nat.lt_trans lt_va_12_ba_12 lt_ba_12_ca0_12
  have lt_al_12_ca0_12 := Nat.lt_trans lt_al_12_ba_12 lt_ba_12_ca0_12
  have lt_b_5_ca0_12 := Nat.lt_trans lt_b_5_ba_12 lt_ba_12_ca0_12
  have lt_ba_12_ed_12 := Nat.lt_trans lt_ba_12_ca0_12 lt_ca0_12_ed_12
  have lt_ro_12_ed_12 := Nat.lt_trans lt_ro_12_ca0_12 lt_ca0_12_ed_12
  have lt_va_12_ed_12 := Nat.lt_trans lt_va_12_ca0_12 lt_ca0_12_ed_12
  have lt_al_12_ed_12 := Nat.lt_trans lt_al_12_ca0_12 lt_ca0_12_ed_12
  have lt_b_5_ed_12 := Nat.lt_trans lt_b_5_ca0_12 lt_ca0_12_ed_12
  have lt_ca0_12_ca1_12 := Nat.lt_trans lt_ca0_12_ed_12 lt_ed_12_ca1_12
  have lt_ba_12_ca1_12 := Nat.lt_trans lt_ba_12_ed_12 lt_ed_12_ca1_12
  have lt_ro_12_ca1_12 := Nat.lt_trans lt_ro_12_ed_12 lt_ed_12_ca1_12
  have lt_va_12_ca1_12 := Nat.lt_trans lt_va_12_ed_12 lt_ed_12_ca1_12
  have lt_al_12_ca1_12 := Nat.lt_trans lt_al_12_ed_12 lt_ed_12_ca1_12
  have lt_b_5_ca1_12 := Nat.lt_trans lt_b_5_ed_12 lt_ed_12_ca1_12
  have lt_ed_12_ca2_12 := Nat.lt_trans lt_ed_12_ca1_12 lt_ca1_12_ca2_12
  have lt_ca0_12_ca2_12 := Nat.lt_trans lt_ca0_12_ca1_12 lt_ca1_12_ca2_12
  have lt_ba_12_ca2_12 := Nat.lt_trans lt_ba_12_ca1_12 lt_ca1_12_ca2_12
  have lt_ro_12_ca2_12 := Nat.lt_trans lt_ro_12_ca1_12 lt_ca1_12_ca2_12
  have lt_va_12_ca2_12 := Nat.lt_trans lt_va_12_ca1_12 lt_ca1_12_ca2_12
  have lt_al_12_ca2_12 := Nat.lt_trans lt_al_12_ca1_12 lt_ca1_12_ca2_12
  have lt_b_5_ca2_12 := Nat.lt_trans lt_b_5_ca1_12 lt_ca1_12_ca2_12
  have lt_ca1_12_ca3_12 := Nat.lt_trans lt_ca1_12_ca2_12 lt_ca2_12_ca3_12
  have lt_ed_12_ca3_12 := Nat.lt_trans lt_ed_12_ca2_12 lt_ca2_12_ca3_12
  have lt_ca0_12_ca3_12 := Nat.lt_trans lt_ca0_12_ca2_12 lt_ca2_12_ca3_12
  have lt_ba_12_ca3_12 := Nat.lt_trans lt_ba_12_ca2_12 lt_ca2_12_ca3_12
  have lt_ro_12_ca3_12 := Nat.lt_trans lt_ro_12_ca2_12 lt_ca2_12_ca3_12
  have lt_va_12_ca3_12 := Nat.lt_trans lt_va_12_ca2_12 lt_ca2_12_ca3_12
  have lt_al_12_ca3_12 := Nat.lt_trans lt_al_12_ca2_12 lt_ca2_12_ca3_12
  have lt_b_5_ca3_12 := Nat.lt_trans lt_b_5_ca2_12 lt_ca2_12_ca3_12
  have ne_b_5_va_12 := Nat.ne_of_lt lt_b_5_va_12
  have ne_b_5_ca0_12 := Nat.ne_of_lt lt_b_5_ca0_12
  have ne_b_5_ca1_12 := Nat.ne_of_lt lt_b_5_ca1_12
  have ne_b_5_ca2_12 := Nat.ne_of_lt lt_b_5_ca2_12
  have ne_b_5_ca3_12 := Nat.ne_of_lt lt_b_5_ca3_12
  have ne_al_12_va_12 := Nat.ne_of_lt lt_al_12_va_12
  have ne_al_12_ca0_12 := Nat.ne_of_lt lt_al_12_ca0_12
  have ne_al_12_ca1_12 := Nat.ne_of_lt lt_al_12_ca1_12
  have ne_al_12_ca2_12 := Nat.ne_of_lt lt_al_12_ca2_12
  have ne_al_12_ca3_12 := Nat.ne_of_lt lt_al_12_ca3_12
  have ne_va_12_ro_12 := Nat.ne_of_lt lt_va_12_ro_12
  have ne_va_12_ba_12 := Nat.ne_of_lt lt_va_12_ba_12
  have ne_va_12_ca0_12 := Nat.ne_of_lt lt_va_12_ca0_12
  have ne_va_12_ed_12 := Nat.ne_of_lt lt_va_12_ed_12
  have ne_va_12_ca1_12 := Nat.ne_of_lt lt_va_12_ca1_12
  have ne_va_12_ca2_12 := Nat.ne_of_lt lt_va_12_ca2_12
  have ne_va_12_ca3_12 := Nat.ne_of_lt lt_va_12_ca3_12
  have ne_ro_12_ca0_12 := Nat.ne_of_lt lt_ro_12_ca0_12
  have ne_ro_12_ca1_12 := Nat.ne_of_lt lt_ro_12_ca1_12
  have ne_ro_12_ca2_12 := Nat.ne_of_lt lt_ro_12_ca2_12
  have ne_ro_12_ca3_12 := Nat.ne_of_lt lt_ro_12_ca3_12
  have ne_ba_12_ca0_12 := Nat.ne_of_lt lt_ba_12_ca0_12
  have ne_ba_12_ca1_12 := Nat.ne_of_lt lt_ba_12_ca1_12
  have ne_ba_12_ca2_12 := Nat.ne_of_lt lt_ba_12_ca2_12
  have ne_ba_12_ca3_12 := Nat.ne_of_lt lt_ba_12_ca3_12
  have ne_ca0_12_ed_12 := Nat.ne_of_lt lt_ca0_12_ed_12
  have ne_ed_12_ca1_12 := Nat.ne_of_lt lt_ed_12_ca1_12
  have ne_ed_12_ca2_12 := Nat.ne_of_lt lt_ed_12_ca2_12
  have ne_ed_12_ca3_12 := Nat.ne_of_lt lt_ed_12_ca3_12
  have g_va_12 : n0 ≤ va_12 := Nat.le_trans g_b_5 (Nat.le_of_lt lt_b_5_va_12)
  have sz_al_12 : h0.size ≤ al_12 := Nat.le_trans sz_b_5 (Nat.le_of_lt lt_b_5_al_12)
  have sz_va_12 : h0.size ≤ va_12 := Nat.le_trans sz_b_5 (Nat.le_of_lt lt_b_5_va_12)
  have sz_ro_12 : h0.size ≤ ro_12 := Nat.le_trans sz_b_5 (Nat.le_of_lt lt_b_5_ro_12)
  have sz_ba_12 : h0.size ≤ ba_12 := Nat.le_trans sz_b_5 (Nat.le_of_lt lt_b_5_ba_12)
  have sz_ed_12 : h0.size ≤ ed_12 := Nat.le_trans sz_b_5 (Nat.le_of_lt lt_b_5_ed_12)
  refine og (fun t k => st_12.trans k) ?_
  refine og (B := T_12.setTop (mkF m 99 #[.val (.long q0), oS, iv p1, iv p2, iv p3, iv p4, iv p5, iv (ka q0), iv (kb q0), iv (kc q0), oD (FP.i2d z_1), oS, oD (FP.i2d z_2), oS, oD (FP.i2d z_3), oS, oD (FP.i2d z_4), oS, rv b_5, oU, oU, oU, oU, oU, oU, oU, oU, oU, oU, oU, oU, oU, oU, oU, oU, oU] [(.int 2), (.double (FP.i2d p1)), (.ref b_5)])) (fun t k => ?_) ?_
  · refine XS.astore X_12.here hx rfl (hb hby at_92) rfl rfl (l' := #[.val (.long q0), oS, iv p1, iv p2, iv p3, iv p4, iv p5, iv (ka q0), iv (kb q0), iv (kc q0), oD (FP.i2d z_1), oS, oD (FP.i2d z_2), oS, oD (FP.i2d z_3), oS, oD (FP.i2d z_4), oS, rv b_5, oU, oU, oU, oU, oU, oU, oU, oU, oU, oU, oU, oU, oU, oU, oU, oU, oU]) rfl ?_
    refine XS.aload X_12.here hx rfl (hb hby at_94) rfl rfl ?_
    refine XS.iloadN X_12.here hx rfl (hb hby at_96) rfl ?_
    refine XS.i2dS X_12.here hx rfl (hb hby at_97) rfl rfl ?_
    refine XS.iconst X_12.here hx rfl (hb hby at_98) ?_
    exact k
  obtain ⟨T_13, h_13, k_13, X_13, e_13, E_13, A_13, Q_13, st_13⟩ := newPE X_12 hx hZ (ow hw 10 rfl) rfl (g := (mkF m 99 #[.val (.long q0), oS, iv p1, iv p2, iv p3, iv p4, iv p5, iv (ka q0), iv (kb q0), iv (kc q0), oD (FP.i2d z_1), oS, oD (FP.i2d z_2), oS, oD (FP.i2d z_3), oS, oD (FP.i2d z_4), oS, rv b_5, oU, oU, oU, oU, oU, oU, oU, oU, oU, oU, oU, oU, oU, oU, oU, oU, oU] [(.int 2), (.double (FP.i2d p1)), (.ref b_5)])) rfl (hb hby at_99) rfl (by decide) (cap := 2) (by decide) (by decide) (by decide) (by decide) (ad := "[D") (by decide)
  obtain ⟨b_13, g_13⟩ : ∃ z, z = T_12.heap.size := ⟨_, rfl⟩
  rw [← g_13] at A_13 Q_13 st_13
  have g_b_13 : n0 ≤ b_13 := Nat.le_trans Z0__12 (Nat.le_of_eq g_13.symm)
  have sz_b_13 : h0.size ≤ b_13 := Nat.le_trans c98.1 (Nat.le_of_eq g_13.symm)
  have lt_b_5_b_13 : b_5 < b_13 := Nat.lt_of_lt_of_le (c101).lt (Nat.le_of_eq g_13.symm)
  have ne_b_5_b_13 := Nat.ne_of_lt lt_b_5_b_13
  have lt_al_12_b_13 : al_12 < b_13 := Nat.lt_of_lt_of_le (J_12_9).lt (Nat.le_of_eq g_13.symm)
  have ne_al_12_b_13 := Nat.ne_of_lt lt_al_12_b_13
  have lt_ed_12_b_13 : ed_12 < b_13 := Nat.lt_of_lt_of_le (J_12_13).lt (Nat.le_of_eq g_13.symm)
  have ne_ed_12_b_13 := Nat.ne_of_lt lt_ed_12_b_13
  have lt_va_12_b_13 : va_12 < b_13 := Nat.lt_of_lt_of_le (J_12_15).lt (Nat.le_of_eq g_13.symm)
  have ne_va_12_b_13 := Nat.ne_of_lt lt_va_12_b_13
  have lt_ro_12_b_13 : ro_12 < b_13 := Nat.lt_of_lt_of_le (J_12_16).lt (Nat.le_of_eq g_13.symm)
  have ne_ro_12_b_13 := Nat.ne_of_lt lt_ro_12_b_13
  have lt_ba_12_b_13 : ba_12 < b_13 := Nat.lt_of_lt_of_le (J_12_17).lt (Nat.le_of_eq g_13.symm)
  have ne_ba_12_b_13 := Nat.ne_of_lt lt_ba_12_b_13
  have lt_ca0_12_b_13 : ca0_12 < b_13 := Nat.lt_of_lt_of_le (J_12_18).lt (Nat.le_of_eq g_13.symm)
  have ne_ca0_12_b_13 := Nat.ne_of_lt lt_ca0_12_b_13
  have lt_ca1_12_b_13 : ca1_12 < b_13 := Nat.lt_of_lt_of_le (J_12_20).lt (Nat.le_of_eq g_13.symm)
  have ne_ca1_12_b_13 := Nat.ne_of_lt lt_ca1_12_b_13
  have lt_ca2_12_b_13 : ca2_12 < b_13 := Nat.lt_of_lt_of_le (J_12_22).lt (Nat.le_of_eq g_13.symm)
  have ne_ca2_12_b_13 := Nat.ne_of_lt lt_ca2_12_b_13
  have lt_ca3_12_b_13 : ca3_12 < b_13 := Nat.lt_of_lt_of_le (J_12_24).lt (Nat.le_of_eq g_13.symm)
  have ne_ca3_12_b_13 := Nat.ne_of_lt lt_ca3_12_b_13
  have c106 := c98.ext E_13
  have c107 := c101.ext E_13
  have c108 := J_12_0.ext E_13
  have c109 := J_12_1.ext E_13
  have c110 := J_12_2.ext E_13
  have c111 := J_12_3.ext E_13
  have c112 := J_12_4.ext E_13
  have c113 := J_12_5.ext E_13
  have c114 := J_12_6.ext E_13
  have c115 := J_12_7.ext E_13
  have c116 := J_12_8.ext E_13
  have c117 := J_12_9.ext E_13
  have c118 := J_12_10.ext E_13
  have c119 := J_12_11.ext E_13
  have c120 := J_12_12.ext E_13
  have c121 := J_12_13.ext E_13
  have c122 := J_12_15.ext E_13
  have c123 := J_12_16.ext E_13
  have c124 := J_12_17.ext E_13
  have c125 := J_12_18.ext E_13
  have c126 := J_12_19.ext E_13
  have c127 := J_12_20.ext E_13
  have c128 := J_12_21.ext E_13
  have c129 := J_12_22.ext E_13
  have c130 := J_12_23.ext E_13
  have c131 := J_12_24.ext E_13
  have c132 := J_12_25.ext E_13
  have Z0__13 : n0 ≤ h_13.size := Nat.le_trans Z0__12 E_13.1
  have V_b_13 : Arv Z h_13 b_13 k_13 .double (2 : Int32) [(.double 0), (.double 0)] (.double 0) := (Arv.new A_13 (by decide)).pad (pad_rep [] (.double 0) 2)
  refine og (fun t k => st_13 t k) ?_
  refine og (B := T_13.setTop (mkF m 105 #[.val (.long q0), oS, iv p1, iv p2, iv p3, iv p4, iv p5, iv (ka q0), iv (kb q0), iv (kc q0), oD (FP.i2d z_1), oS, oD (FP.i2d z_2), oS, oD (FP.i2d z_3), oS, oD (FP.i2d z_4), oS, rv b_5, oU, oU, oU, oU, oU, oU, oU, oU, oU, oU, oU, oU, oU, oU, oU, oU, oU] [(.double (FP.i2d p2)), (.int 0), (.ref b_13), (.ref b_13), (.double (FP.i2d p1)), (.ref b_5)])) (fun t k => ?_) ?_
  · refine XS.dup X_13.here hx rfl (hb hby at_101) rfl rfl ?_
    refine XS.iconst X_13.here hx rfl (hb hby at_102) ?_
    refine XS.iloadN X_13.here hx rfl (hb hby at_103) rfl ?_
    refine XS.i2dS X_13.here hx rfl (hb hby at_104) rfl rfl ?_
    exact k
  obtain ⟨cl_14, Ar_14, q_14, S_14, M_14, H_14, G_14⟩ := id V_b_13
  have hin_14 : ¬ ((0 : Int32) < 0 ∨ cl_14.slots.size ≤ ((0 : Int32)).toNatClampNeg) := inb_of S_14 ⟨by decide, by decide⟩
  obtain ⟨T_14, h_14, X_14, e_14, W_14, st_14⟩ := stD X_13 hx hZ e_13 Ar_14 (j := (0 : Int32)) hin_14 (g := (mkF m 105 #[.val (.long q0), oS, iv p1, iv p2, iv p3, iv p4, iv p5, iv (ka q0), iv (kb q0), iv (kc q0), oD (FP.i2d z_1), oS, oD (FP.i2d z_2), oS, oD (FP.i2d z_3), oS, oD (FP.i2d z_4), oS, rv b_5, oU, oU, oU, oU, oU, oU, oU, oU, oU, oU, oU, oU, oU, oU, oU, oU, oU] [(.double (FP.i2d p2)), (.int 0), (.ref b_13), (.ref b_13), (.double (FP.i2d p1)), (.ref b_5)])) rfl rfl (hb hby at_105)
  have c133 := c106.wr W_14 (Or.inr sz_b_13)
  have c134 := c107.wr W_14
  have c135 := c108.other W_14 (Or.inl ne_b_5_b_13)
  have c136 := c109.other W_14 (Or.inl ne_b_5_b_13)
  have c137 := c110.other W_14 (Or.inl ne_b_5_b_13)
  have c138 := c111.other W_14 (Or.inl ne_b_5_b_13)
  have c139 := c112.other W_14 (Or.inl ne_b_5_b_13)
  have c140 := c113.other W_14 (Or.inl ne_b_5_b_13)
  have c141 := c114.other W_14 (Or.inl ne_b_5_b_13)
  have c142 := c115.other W_14 (Or.inl ne_b_5_b_13)
  have c143 := c116.other W_14 (Or.inl ne_b_5_b_13)
  have c144 := c117.wr W_14
  have c145 := c118.other W_14 (Or.inl ne_al_12_b_13)
  have c146 := c119.other W_14 (Or.inl ne_al_12_b_13)
  have c147 := c120.other W_14 (Or.inl ne_al_12_b_13)
  have c148 := c121.other W_14 ne_ed_12_b_13
  have c149 := c122.other W_14 ne_va_12_b_13
  have c150 := c123.other W_14 ne_ro_12_b_13
  have c151 := c124.other W_14 ne_ba_12_b_13
  have c152 := c125.wr W_14
  have c153 := c126.other W_14 ne_ca0_12_b_13
  have c154 := c127.wr W_14
  have c155 := c128.other W_14 ne_ca1_12_b_13
  have c156 := c129.wr W_14
  have c157 := c130.other W_14 ne_ca2_12_b_13
  have c158 := c131.wr W_14
  have c159 := c132.other W_14 ne_ca3_12_b_13
  have c160 := Q_13.wr W_14
  have V_14 : Arv Z h_14 b_13 k_13 .double (2 : Int32) [(.double (FP.i2d p2)), (.double 0)] (.double 0) := Arv.set Ar_14 q_14 S_14 M_14 H_14 G_14 rfl W_14 0 rfl (Nat.le_of_ble_eq_true rfl)
  have N_14 := Fr.snoc X_14 N_12 g_b_13
  have Z0__14 : n0 ≤ h_14.size := by rw [W_14.size]; exact Z0__13
  refine og (fun t k => st_14 t k) ?_
  refine og (B := T_14.setTop (mkF m 111 #[.val (.long q0), oS, iv p1, iv p2, iv p3, iv p4, iv p5, iv (ka q0), iv (kb q0), iv (kc q0), oD (FP.i2d z_1), oS, oD (FP.i2d z_2), oS, oD (FP.i2d z_3), oS, oD (FP.i2d z_4), oS, rv b_5, oU, oU, oU, oU, oU, oU, oU, oU, oU, oU, oU, oU, oU, oU, oU, oU, oU] [(.double (FP.i2d p3)), (.int 1), (.ref b_13), (.ref b_13), (.double (FP.i2d p1)), (.ref b_5)])) (fun t k => ?_) ?_
  · refine XS.dup X_14.here hx rfl (hb hby at_106) rfl rfl ?_
    refine XS.iconst X_14.here hx rfl (hb hby at_107) ?_
    refine XS.iload X_14.here hx rfl (hb hby at_108) rfl ?_
    refine XS.i2dS X_14.here hx rfl (hb hby at_110) rfl rfl ?_
    exact k
  obtain ⟨cl_15, Ar_15, q_15, S_15, M_15, H_15, G_15⟩ := id V_14
  have hin_15 : ¬ ((1 : Int32) < 0 ∨ cl_15.slots.size ≤ ((1 : Int32)).toNatClampNeg) := inb_of S_15 ⟨by decide, by decide⟩
  obtain ⟨T_15, h_15, X_15, e_15, W_15, st_15⟩ := stD X_14 hx hZ e_14 Ar_15 (j := (1 : Int32)) hin_15 (g := (mkF m 111 #[.val (.long q0), oS, iv p1, iv p2, iv p3, iv p4, iv p5, iv (ka q0), iv (kb q0), iv (kc q0), oD (FP.i2d z_1), oS, oD (FP.i2d z_2), oS, oD (FP.i2d z_3), oS, oD (FP.i2d z_4), oS, rv b_5, oU, oU, oU, oU, oU, oU, oU, oU, oU, oU, oU, oU, oU, oU, oU, oU, oU] [(.double (FP.i2d p3)), (.int 1), (.ref b_13), (.ref b_13), (.double (FP.i2d p1)), (.ref b_5)])) rfl rfl (hb hby at_111)
  have c161 := c133.wr W_15 (Or.inr sz_b_13)
  have c162 := c134.wr W_15
  have c163 := c135.other W_15 (Or.inl ne_b_5_b_13)
  have c164 := c136.other W_15 (Or.inl ne_b_5_b_13)
  have c165 := c137.other W_15 (Or.inl ne_b_5_b_13)
  have c166 := c138.other W_15 (Or.inl ne_b_5_b_13)
  have c167 := c139.other W_15 (Or.inl ne_b_5_b_13)
  have c168 := c140.other W_15 (Or.inl ne_b_5_b_13)
  have c169 := c141.other W_15 (Or.inl ne_b_5_b_13)
  have c170 := c142.other W_15 (Or.inl ne_b_5_b_13)
  have c171 := c143.other W_15 (Or.inl ne_b_5_b_13)
  have c172 := c144.wr W_15
  have c173 := c145.other W_15 (Or.inl ne_al_12_b_13)
  have c174 := c146.other W_15 (Or.inl ne_al_12_b_13)
  have c175 := c147.other W_15 (Or.inl ne_al_12_b_13)
  have c176 := c148.other W_15 ne_ed_12_b_13
  have c177 := c149.other W_15 ne_va_12_b_13
  have c178 := c150.other W_15 ne_ro_12_b_13
  have c179 := c151.other W_15 ne_ba_12_b_13
  have c180 := c152.wr W_15
  have c181 := c153.other W_15 ne_ca0_12_b_13
  have c182 := c154.wr W_15
  have c183 := c155.other W_15 ne_ca1_12_b_13
  have c184 := c156.wr W_15
  have c185 := c157.other W_15 ne_ca2_12_b_13
  have c186 := c158.wr W_15
  have c187 := c159.other W_15 ne_ca3_12_b_13
  have c188 := c160.wr W_15
  have V_15 : Arv Z h_15 b_13 k_13 .double (2 : Int32) [(.double (FP.i2d p2)), (.double (FP.i2d p3))] (.double 0) := Arv.set Ar_15 q_15 S_15 M_15 H_15 G_15 rfl W_15 1 rfl (Nat.le_of_ble_eq_true rfl)
  have N_15 := Fr.snoc X_15 N_14 g_b_13
  have Z0__15 : n0 ≤ h_15.size := by rw [W_15.size]; exact Z0__14
  refine og (fun t k => st_15 t k) ?_
  have kk_16 := (c187).lt
  obtain ⟨cq_16, kq_16, q_16a, q_16b, q_16c⟩ := isOf hZ e_15 c162
  obtain ⟨_, _, ⟨T_16, L_16, k_16, n_16⟩, -, X_16, ⟨Lc_16, hQ_16, l_16, y_16, z_16⟩, st_16⟩ := X_15.virtualBack hx (y := own_m15) (z := own_m15) hown (mvT hZ (ow hw 99 rfl)) (mvT hZ (ow hw 100 rfl)) (notFace_of_selects (args := #[]) (mvT hZ (ow hw 102 rfl))) (mvT hZ (ow hw 102 rfl)) (mvT hZ (ow hw 101 rfl)) (by decide) (backOf (W := 0) (rmcad l Z av0 hw [] b_5 (FP.i2d p1) b_13 al_12 va_12 ro_12 ba_12 ca0_12 ed_12 ca1_12 ca2_12 ca3_12 kd_12 ka_12 kr_12 kq_12 k_13 (FP.i2d z_1) (FP.dneg (FP.i2d z_2)) (FP.i2d z_1) (FP.dneg (FP.i2d z_2)) (FP.i2d p2) (FP.i2d p3) .null .null h_15 n0 Z0__15 c162 c163 c164 c165 c166 c167 c168 c169 c170 c171 c172 c173 c174 c175 c176 J_12_14 c177 c178 c179 g_b_5 lt_b_5_al_12 lt_al_12_va_12 lt_va_12_ro_12 lt_ro_12_ba_12 lt_ba_12_ca0_12 lt_ca0_12_ed_12 lt_ed_12_ca1_12 lt_ca1_12_ca2_12 lt_ca2_12_ca3_12 V_15 (own_hn _) (own_hn _)) hZ (ow hw 103 rfl) (ow hw 9 rfl) (by decide) (by decide)) q_16a q_16c (g := (mkF m 112 #[.val (.long q0), oS, iv p1, iv p2, iv p3, iv p4, iv p5, iv (ka q0), iv (kb q0), iv (kc q0), oD (FP.i2d z_1), oS, oD (FP.i2d z_2), oS, oD (FP.i2d z_3), oS, oD (FP.i2d z_4), oS, rv b_5, oU, oU, oU, oU, oU, oU, oU, oU, oU, oU, oU, oU, oU, oU, oU, oU, oU] [(.ref b_13), (.double (FP.i2d p1)), (.ref b_5)])) rfl (by rw [hml]; rfl) (Steps.refl _) (argsL := [(.double (FP.i2d p1)), (.ref b_13)]) (rest := []) (lenOf pd_14 rfl) rfl (by show 2 * 0 + _ ≤ _; exact Nat.le_of_eq rfl) (hb hby at_112) (fun _ _ => ⟨rfl, e_15, (by decide : 13 + 6 ≤ _), (by decide : 76 + 18 ≤ _)⟩)
  dsimp only [Pt.U, Pt.locs, Pt.cells, Pt.slots] at X_16 l_16 y_16 z_16 st_16 hQ_16
  subst l_16 y_16 z_16
  obtain ⟨c4_16, iv_16, y_16_0, y_16_1, y_16_2, kc4_16, ki_16, kj_16, b1_16, b2_16, g0_16, g1_16, rfl, N_16q, K_16, szq_16, lt_c4_16_iv_16, lt_iv_16_y_16_0, lt_y_16_0_y_16_1, lt_y_16_1_y_16_2, sa_16, sb_16, Q_16_0, Q_16_1, Q_16_2, Q_16_3, Q_16_4, Q_16_5, Q_16_6, Q_16_7, Q_16_8, Q_16_9, Q_16_10, Q_16_11, Q_16_12, Q_16_13, Fe_16, Fs_16, VE_16, VA_16, -, -⟩ := hQ_16
  have N_16 := Fr.app N_15 N_16q
  have c189 := c161.trans K_16 (allS (Or.inr sz_b_5) (allS (Or.inr sz_al_12) (allS (Or.inr sz_va_12) (allS (Or.inr sz_ro_12) (allS (Or.inr sz_ba_12) (allS (Or.inr sz_ed_12) all0))))))
  have c190 := c162.keep K_16
  have c191 := c172.keep K_16
  have c192 := c180.keep K_16
  have c193 := c181.keep K_16 (ninS (Ne.symm ne_b_5_ca0_12) (ninS (Ne.symm ne_al_12_ca0_12) (ninS (Ne.symm ne_va_12_ca0_12) (ninS (Ne.symm ne_ro_12_ca0_12) (ninS (Ne.symm ne_ba_12_ca0_12) (ninS ne_ca0_12_ed_12 nin0))))))
  have c194 := c182.keep K_16
  have c195 := c183.keep K_16 (ninS (Ne.symm ne_b_5_ca1_12) (ninS (Ne.symm ne_al_12_ca1_12) (ninS (Ne.symm ne_va_12_ca1_12) (ninS (Ne.symm ne_ro_12_ca1_12) (ninS (Ne.symm ne_ba_12_ca1_12) (ninS (Ne.symm ne_ed_12_ca1_12) nin0))))))
  have c196 := c184.keep K_16
  have c197 := c185.keep K_16 (ninS (Ne.symm ne_b_5_ca2_12) (ninS (Ne.symm ne_al_12_ca2_12) (ninS (Ne.symm ne_va_12_ca2_12) (ninS (Ne.symm ne_ro_12_ca2_12) (ninS (Ne.symm ne_ba_12_ca2_12) (ninS (Ne.symm ne_ed_12_ca2_12) nin0))))))
  have c198 := c186.keep K_16
  have c199 := c187.keep K_16 (ninS (Ne.symm ne_b_5_ca3_12) (ninS (Ne.symm ne_al_12_ca3_12) (ninS (Ne.symm ne_va_12_ca3_12) (ninS (Ne.symm ne_ro_12_ca3_12) (ninS (Ne.symm ne_ba_12_ca3_12) (ninS (Ne.symm ne_ed_12_ca3_12) nin0))))))
  have c200 := c188.keep K_16
  have c201 := V_15.keep K_16 (ninS (Ne.symm ne_b_5_b_13) (ninS (Ne.symm ne_al_12_b_13) (ninS (Ne.symm ne_va_12_b_13) (ninS (Ne.symm ne_ro_12_b_13) (ninS (Ne.symm ne_ba_12_b_13) (ninS (Ne.symm ne_ed_12_b_13) nin0))))))
  have Z0__16 : n0 ≤ T_16.heap.size := Nat.le_trans Z0__15 K_16.1
  have lt_ca3_12_c4_16 := Nat.lt_of_lt_of_le kk_16 szq_16
  have lt_va_12_c4_16 := Nat.lt_trans lt_va_12_ca3_12 lt_ca3_12_c4_16
  have lt_va_12_iv_16 := Nat.lt_trans lt_va_12_c4_16 lt_c4_16_iv_16
  have lt_va_12_y_16_0 := Nat.lt_trans lt_va_12_iv_16 lt_iv_16_y_16_0
  have lt_va_12_y_16_1 := Nat.lt_trans lt_va_12_y_16_0 lt_y_16_0_y_16_1
  have lt_va_12_y_16_2 := Nat.lt_trans lt_va_12_y_16_1 lt_y_16_1_y_16_2
  have ne_va_12_c4_16 := Nat.ne_of_lt lt_va_12_c4_16
  have ne_va_12_iv_16 := Nat.ne_of_lt lt_va_12_iv_16
  have ne_va_12_y_16_0 := Nat.ne_of_lt lt_va_12_y_16_0
  have ne_va_12_y_16_1 := Nat.ne_of_lt lt_va_12_y_16_1
  have ne_va_12_y_16_2 := Nat.ne_of_lt lt_va_12_y_16_2
  refine og (fun t k => st_16.trans k) ?_
  refine og (B := T_16.setTop (mkF m 123 #[.val (.long q0), oS, iv p1, iv p2, iv p3, iv p4, iv p5, iv (ka q0), iv (kb q0), iv (kc q0), oD (FP.i2d z_1), oS, oD (FP.i2d z_2), oS, oD (FP.i2d z_3), oS, oD (FP.i2d z_4), oS, rv b_5, oU, oU, oU, oU, oU, oU, oU, oU, oU, oU, oU, oU, oU, oU, oU, oU, oU] [(.double (FP.i2d z_4)), (.double (FP.i2d z_3)), (.int (ka q0)), (.ref b_5)])) (fun t k => ?_) ?_
  · refine XS.aload X_16.here hx rfl (hb hby at_115) rfl rfl ?_
    refine XS.iload X_16.here hx rfl (hb hby at_117) rfl ?_
    refine XS.dload X_16.here hx rfl (hb hby at_119) rfl ?_
    refine XS.dload X_16.here hx rfl (hb hby at_121) rfl ?_
    exact k
  show ∃ s₂ o, Steps p.tables e below (T_16.setTop (mkF m 123 #[.val (.long q0), oS, iv p1, iv p2, iv p3, iv p4, iv p5, iv (ka q0), iv (kb q0), iv (kc q0), oD (FP.i2d z_1), oS, oD (FP.i2d z_2), oS, oD (FP.i2d z_3), oS, oD (FP.i2d z_4), oS, rv b_5, oU, oU, oU, oU, oU, oU, oU, oU, oU, oU, oU, oU, oU, oU, oU, oU, oU] [(.double (FP.i2d z_4)), (.double (FP.i2d z_3)), (.int (ka q0)), (.ref b_5)])) s₂ ∧ _
  rcases own_k1 q0 with hd | hd <;> rw [hd]
  · show ∃ s₂ o, Steps p.tables e below (T_16.setTop (mkF m 123 #[.val (.long q0), oS, iv p1, iv p2, iv p3, iv p4, iv p5, iv 0, iv (kb q0), iv (kc q0), oD (FP.i2d z_1), oS, oD (FP.i2d z_2), oS, oD (FP.i2d z_3), oS, oD (FP.i2d z_4), oS, rv b_5, oU, oU, oU, oU, oU, oU, oU, oU, oU, oU, oU, oU, oU, oU, oU, oU, oU] [(.double (FP.i2d z_4)), (.double (FP.i2d z_3)), (.int 0), (.ref b_5)])) s₂ ∧ _
    obtain ⟨cq_17, kq_17, q_17a, q_17b, q_17c⟩ := isOf hZ rfl c190
    obtain ⟨_, _, ⟨T_17, L_17, k_17, n_17⟩, -, X_17, ⟨Lc_17, hQ_17, l_17, y_17, z_17⟩, st_17⟩ := X_16.virtualBack hx (y := own_m21) (z := own_m21) hown (mvT hZ (ow hw 137 rfl)) (mvT hZ (ow hw 138 rfl)) (notFace_of_selects (args := #[]) (mvT hZ (ow hw 140 rfl))) (mvT hZ (ow hw 140 rfl)) (mvT hZ (ow hw 139 rfl)) (by decide) (backOf (W := 0) (rmmw0 l Z av0 hw [] b_5 (FP.i2d z_3) (FP.i2d z_4) va_12 ka_12 (FP.i2d z_1) (FP.dneg (FP.i2d z_2)) (FP.i2d z_1) (FP.dneg (FP.i2d z_2)) (FP.i2d p1) T_16.heap n0 Z0__16 Q_16_1 VA_16 g_va_12 ne_b_5_va_12) hZ (ow hw 141 rfl) (ow hw 9 rfl) (by decide) (by decide)) q_17a q_17c (g := (mkF m 123 #[.val (.long q0), oS, iv p1, iv p2, iv p3, iv p4, iv p5, iv 0, iv (kb q0), iv (kc q0), oD (FP.i2d z_1), oS, oD (FP.i2d z_2), oS, oD (FP.i2d z_3), oS, oD (FP.i2d z_4), oS, rv b_5, oU, oU, oU, oU, oU, oU, oU, oU, oU, oU, oU, oU, oU, oU, oU, oU, oU] [(.double (FP.i2d z_4)), (.double (FP.i2d z_3)), (.int 0), (.ref b_5)])) rfl (by rw [hml]; rfl) (Steps.refl _) (argsL := [(.int 0), (.double (FP.i2d z_3)), (.double (FP.i2d z_4))]) (rest := []) (lenOf pd_15 rfl) rfl (by show 2 * 0 + _ ≤ _; exact Nat.le_of_eq rfl) (hb hby at_123) (fun _ _ => ⟨rfl, rfl, (by decide : 19 + 0 ≤ _), (by decide : 94 + 0 ≤ _)⟩)
    dsimp only [Pt.U, Pt.locs, Pt.cells, Pt.slots] at X_17 l_17 y_17 z_17 st_17 hQ_17
    subst l_17 y_17 z_17
    obtain ⟨rfl, N_17q, K_17, VA_17⟩ := hQ_17
    have N_17 := Fr.app N_16 N_17q
    have c202 := c189.trans K_17 (allS (Or.inr sz_va_12) all0)
    have c203 := c190.keep K_17
    have c204 := c191.keep K_17
    have c205 := c192.keep K_17
    have c206 := c193.keep K_17 (ninS (Ne.symm ne_va_12_ca0_12) nin0)
    have c207 := c194.keep K_17
    have c208 := c195.keep K_17 (ninS (Ne.symm ne_va_12_ca1_12) nin0)
    have c209 := c196.keep K_17
    have c210 := c197.keep K_17 (ninS (Ne.symm ne_va_12_ca2_12) nin0)
    have c211 := c198.keep K_17
    have c212 := c199.keep K_17 (ninS (Ne.symm ne_va_12_ca3_12) nin0)
    have c213 := Q_16_0.keep K_17 (ninS ne_b_5_va_12 nin0)
    have c214 := Q_16_1.keep K_17 (ninS ne_b_5_va_12 nin0)
    have c215 := Q_16_2.keep K_17 (ninS ne_b_5_va_12 nin0)
    have c216 := Q_16_3.keep K_17 (ninS ne_b_5_va_12 nin0)
    have c217 := Q_16_4.keep K_17 (ninS ne_b_5_va_12 nin0)
    have c218 := Q_16_5.keep K_17 (ninS ne_b_5_va_12 nin0)
    have c219 := Q_16_6.keep K_17 (ninS ne_b_5_va_12 nin0)
    have c220 := Q_16_7.keep K_17 (ninS ne_b_5_va_12 nin0)
    have c221 := Q_16_8.keep K_17 (ninS (Ne.symm ne_va_12_ro_12) nin0)
    have c222 := Q_16_9.keep K_17 (ninS (Ne.symm ne_va_12_ba_12) nin0)
    have c223 := Q_16_10.keep K_17 (ninS (Ne.symm ne_va_12_iv_16) nin0)
    have c224 := Q_16_11.keep K_17 (ninS (Ne.symm ne_va_12_y_16_0) nin0)
    have c225 := Q_16_12.keep K_17 (ninS (Ne.symm ne_va_12_y_16_1) nin0)
    have c226 := Q_16_13.keep K_17 (ninS (Ne.symm ne_va_12_y_16_2) nin0)
    have c227 := Fe_16.keep K_17 (ninS ne_al_12_va_12 nin0)
    have c228 := Fs_16.keep K_17 (ninS ne_al_12_va_12 nin0)
    have c229 := VE_16.keep K_17 (ninS (Ne.symm ne_va_12_ed_12) nin0)
    have Z0__17 : n0 ≤ T_17.heap.size := Nat.le_trans Z0__16 K_17.1
    refine og (fun t k => st_17.trans k) ?_
    refine og (B := T_17.setTop (mkF m 128 #[.val (.long q0), oS, iv p1, iv p2, iv p3, iv p4, iv p5, iv 0, iv (kb q0), iv (kc q0), oD (FP.i2d z_1), oS, oD (FP.i2d z_2), oS, oD (FP.i2d z_3), oS, oD (FP.i2d z_4), oS, rv b_5, oU, oU, oU, oU, oU, oU, oU, oU, oU, oU, oU, oU, oU, oU, oU, oU, oU] [(.ref b_5)])) (fun t k => ?_) ?_
    · refine XS.aload X_17.here hx rfl (hb hby at_126) rfl rfl ?_
      exact k
    obtain ⟨h9, hWq, hv9, ha0, ha1⟩ := nn_all (c := p1) (nn_cr (own_ml ez_3 ez_4) (fun _ _ => rfl) (fun _ _ => rfl) sa_16) (nn_cr (own_ml ez_1 ez_2) (fun _ _ => rfl) (fun _ _ => rfl) sb_16)
    have kk_18 := (c203).lt
    obtain ⟨cq_18, kq_18, q_18a, q_18b, q_18c⟩ := isOf hZ rfl c203
    obtain ⟨_, _, ⟨T_18, L_18, k_18, n_18⟩, -, X_18, ⟨Lc_18, hQ_18, l_18, y_18, z_18⟩, st_18⟩ := X_17.virtualBack hx (y := own_m22) (z := own_m22) hown (mvT hZ (ow hw 142 rfl)) (mvT hZ (ow hw 143 rfl)) (notFace_of_selects (args := #[]) (mvT hZ (ow hw 145 rfl))) (mvT hZ (ow hw 145 rfl)) (mvT hZ (ow hw 144 rfl)) (by decide) (backOf (W := 0) (rmslv l Z av0 hw [] b_5 al_12 va_12 ro_12 ba_12 ca0_12 ed_12 ca1_12 ca2_12 ca3_12 c4_16 iv_16 y_16_0 y_16_1 y_16_2 kd_12 ka_12 kr_12 kq_12 ki_16 kj_16 kc0_12 kc1_12 kc2_12 kc3_12 (FP.i2d z_3) (FP.dneg (FP.i2d z_4)) (FP.i2d z_1) (FP.dneg (FP.i2d z_2)) (FP.i2d p1) (FP.dmul (FP.dneg (FP.dneg (FP.i2d p2))) g0_16) g0_16 (FP.dmul (FP.dneg (FP.dneg (FP.i2d p3))) g1_16) g1_16 b1_16 b2_16 .null T_17.heap n0 Z0__17 c203 c213 c214 c215 c216 c217 c218 c219 c220 c204 c227 c228 c229 VA_17 c221 c222 c223 c224 c225 c226 c205 c206 c207 c208 c209 c210 c211 c212 g_b_5 lt_b_5_al_12 lt_al_12_va_12 lt_va_12_ro_12 lt_ro_12_ba_12 lt_ba_12_ca0_12 lt_ca0_12_ed_12 lt_ed_12_ca1_12 lt_ca1_12_ca2_12 lt_ca2_12_ca3_12 lt_ca3_12_c4_16 lt_c4_16_iv_16 lt_iv_16_y_16_0 lt_y_16_0_y_16_1 lt_y_16_1_y_16_2 (own_ob sa_16) (own_ob sb_16) h9 hWq) hZ (ow hw 146 rfl) (ow hw 9 rfl) (by decide) (by decide)) q_18a q_18c (g := (mkF m 128 #[.val (.long q0), oS, iv p1, iv p2, iv p3, iv p4, iv p5, iv 0, iv (kb q0), iv (kc q0), oD (FP.i2d z_1), oS, oD (FP.i2d z_2), oS, oD (FP.i2d z_3), oS, oD (FP.i2d z_4), oS, rv b_5, oU, oU, oU, oU, oU, oU, oU, oU, oU, oU, oU, oU, oU, oU, oU, oU, oU] [(.ref b_5)])) rfl (by rw [hml]; rfl) (Steps.refl _) (argsL := []) (rest := []) (lenOf pd_16 rfl) rfl (by show 2 * 0 + _ ≤ _; exact Nat.le_of_eq rfl) (hb hby at_128) (fun _ _ => ⟨rfl, rfl, (by decide : 19 + 1 ≤ _), (by decide : 94 + 3 ≤ _)⟩)
    dsimp only [Pt.U, Pt.locs, Pt.cells, Pt.slots] at X_18 l_18 y_18 z_18 st_18 hQ_18
    subst l_18 y_18 z_18
    obtain ⟨mu_18, km_18, hv_18, N_18q, K_18, szq_18, Qm_18, Qr_18, VM_18⟩ := hQ_18
    have N_18 := Fr.app N_17 N_18q
    have c230 := c202.trans K_18 (allS (Or.inr sz_b_5) all0)
    have Z0__18 : n0 ≤ T_18.heap.size := Nat.le_trans Z0__17 K_18.1
    obtain ⟨m_18_0, em_18_0⟩ : ∃ z, z = (own_d3 (FP.i2d p1) 4607182418800017408 (own_pk b1_16 (FP.i2d z_3) (FP.dneg (FP.i2d z_4))) (FP.dmul (FP.dneg (FP.dneg (FP.i2d p2))) g0_16) (own_pk b2_16 (FP.i2d z_1) (FP.dneg (FP.i2d z_2))) (FP.dmul (FP.dneg (FP.dneg (FP.i2d p3))) g1_16)) := ⟨_, rfl⟩
    obtain ⟨m_18_1, em_18_1⟩ : ∃ z, z = (own_d3 (FP.i2d p1) 0 (own_pk b1_16 (FP.i2d z_3) (FP.dneg (FP.i2d z_4))) g0_16 (own_pk b2_16 (FP.i2d z_1) (FP.dneg (FP.i2d z_2))) 0) := ⟨_, rfl⟩
    obtain ⟨m_18_2, em_18_2⟩ : ∃ z, z = (own_d3 (FP.i2d p1) 0 (own_pk b1_16 (FP.i2d z_3) (FP.dneg (FP.i2d z_4))) 0 (own_pk b2_16 (FP.i2d z_1) (FP.dneg (FP.i2d z_2))) g1_16) := ⟨_, rfl⟩
    rw [← em_18_0] at hv9 hv_18
    rw [← em_18_0, ← em_18_1, ← em_18_2] at VM_18
    rw [← em_18_1] at ha0
    rw [← em_18_2] at ha1
    subst hv_18
    have c203q := c203.keep K_18
    refine og (fun t k => st_18.trans k) ?_
    refine og (B := T_18.setTop (mkF m 135 #[.val (.long q0), oS, iv p1, iv p2, iv p3, iv p4, iv p5, iv 0, iv (kb q0), iv (kc q0), oD (FP.i2d z_1), oS, oD (FP.i2d z_2), oS, oD (FP.i2d z_3), oS, oD (FP.i2d z_4), oS, rv b_5, oD m_18_0, oS, oU, oU, oU, oU, oU, oU, oU, oU, oU, oU, oU, oU, oU, oU, oU] [(.ref b_5)])) (fun t k => ?_) ?_
    · refine XS.dstore X_18.here hx rfl (hb hby at_131) rfl (l' := #[.val (.long q0), oS, iv p1, iv p2, iv p3, iv p4, iv p5, iv 0, iv (kb q0), iv (kc q0), oD (FP.i2d z_1), oS, oD (FP.i2d z_2), oS, oD (FP.i2d z_3), oS, oD (FP.i2d z_4), oS, rv b_5, oD m_18_0, oS, oU, oU, oU, oU, oU, oU, oU, oU, oU, oU, oU, oU, oU, oU, oU]) rfl ?_
      refine XS.aload X_18.here hx rfl (hb hby at_133) rfl rfl ?_
      exact k
    obtain ⟨cq_19, kq_19, q_19a, q_19b, q_19c⟩ := isOf hZ rfl c203q
    obtain ⟨_, _, ⟨T_19, L_19, k_19, n_19⟩, -, X_19, ⟨Lc_19, hQ_19, l_19, y_19, z_19⟩, st_19⟩ := X_18.virtualBack hx (y := own_m25) (z := own_m25) hown (mvT hZ (ow hw 158 rfl)) (mvT hZ (ow hw 159 rfl)) (notFace_of_selects (args := #[]) (mvT hZ (ow hw 161 rfl))) (mvT hZ (ow hw 161 rfl)) (mvT hZ (ow hw 160 rfl)) (by decide) (backOf (W := 0) (rmpnt l Z av0 hw [] b_5 mu_18 km_18 m_18_0 m_18_1 m_18_2 T_18.heap n0 Z0__18 Qm_18 Qr_18 VM_18) hZ (ow hw 162 rfl) (ow hw 9 rfl) (by decide) (by decide)) q_19a q_19c (g := (mkF m 135 #[.val (.long q0), oS, iv p1, iv p2, iv p3, iv p4, iv p5, iv 0, iv (kb q0), iv (kc q0), oD (FP.i2d z_1), oS, oD (FP.i2d z_2), oS, oD (FP.i2d z_3), oS, oD (FP.i2d z_4), oS, rv b_5, oD m_18_0, oS, oU, oU, oU, oU, oU, oU, oU, oU, oU, oU, oU, oU, oU, oU, oU] [(.ref b_5)])) rfl (by rw [hml]; rfl) (Steps.refl _) (argsL := []) (rest := []) (lenOf pd_17 rfl) rfl (by show 2 * 0 + _ ≤ _; exact Nat.le_of_eq rfl) (hb hby at_135) (fun _ _ => ⟨rfl, rfl, (by decide : 20 + 1 ≤ _), (by decide : 97 + 2 ≤ _)⟩)
    dsimp only [Pt.U, Pt.locs, Pt.cells, Pt.slots] at X_19 l_19 y_19 z_19 st_19 hQ_19
    subst l_19 y_19 z_19
    obtain ⟨b_19, kb_19, rfl, N_19q, K_19, szq_19, VN_19⟩ := hQ_19
    have N_19 := Fr.app N_18 N_19q
    have c231 := c230.trans K_19 all0
    have Z0__19 : n0 ≤ T_19.heap.size := Nat.le_trans Z0__18 K_19.1
    refine og (fun t k => st_19.trans k) ?_
    refine og (B := T_19.setTop (mkF m 142 #[.val (.long q0), oS, iv p1, iv p2, iv p3, iv p4, iv p5, iv 0, iv (kb q0), iv (kc q0), oD (FP.i2d z_1), oS, oD (FP.i2d z_2), oS, oD (FP.i2d z_3), oS, oD (FP.i2d z_4), oS, rv b_5, oD m_18_0, oS, rv b_19, oU, oU, oU, oU, oU, oU, oU, oU, oU, oU, oU, oU, oU, oU] [(.int 0)])) (fun t k => ?_) ?_
    · refine XS.astore X_19.here hx rfl (hb hby at_138) rfl rfl (l' := #[.val (.long q0), oS, iv p1, iv p2, iv p3, iv p4, iv p5, iv 0, iv (kb q0), iv (kc q0), oD (FP.i2d z_1), oS, oD (FP.i2d z_2), oS, oD (FP.i2d z_3), oS, oD (FP.i2d z_4), oS, rv b_5, oD m_18_0, oS, rv b_19, oU, oU, oU, oU, oU, oU, oU, oU, oU, oU, oU, oU, oU, oU]) rfl ?_
      refine XS.iload X_19.here hx rfl (hb hby at_140) rfl ?_
      exact k
    refine og (B := T_19.setTop (mkF m 145 #[.val (.long q0), oS, iv p1, iv p2, iv p3, iv p4, iv p5, iv 0, iv (kb q0), iv (kc q0), oD (FP.i2d z_1), oS, oD (FP.i2d z_2), oS, oD (FP.i2d z_3), oS, oD (FP.i2d z_4), oS, rv b_5, oD m_18_0, oS, rv b_19, oU, oU, oU, oU, oU, oU, oU, oU, oU, oU, oU, oU, oU, oU] [])) (fun t k => ?_) ?_
    · refine XS.ifNo X_19.here hx rfl (hb hby at_142) rfl ((if0 _ _).trans (teq (by decide : (0 : Int32) = (0 : Int32))).2) ?_
      exact k
    refine og (B := T_19.setTop (mkF m 156 #[.val (.long q0), oS, iv p1, iv p2, iv p3, iv p4, iv p5, iv 0, iv (kb q0), iv (kc q0), oD (FP.i2d z_1), oS, oD (FP.i2d z_2), oS, oD (FP.i2d z_3), oS, oD (FP.i2d z_4), oS, rv b_5, oD m_18_0, oS, rv b_19, oD (FP.i2d z_3), oS, oU, oU, oU, oU, oU, oU, oU, oU, oU, oU, oU, oU] [(.int 0)])) (fun t k => ?_) ?_
    · refine XS.dload X_19.here hx rfl (hb hby at_145) rfl ?_
      refine XS.goto X_19.here hx rfl (pc0 := 147) (pc' := 152) rfl (hb hby at_147) (by decide) (by decide) ?_
      refine XS.dstore X_19.here hx rfl (hb hby at_152) rfl (l' := #[.val (.long q0), oS, iv p1, iv p2, iv p3, iv p4, iv p5, iv 0, iv (kb q0), iv (kc q0), oD (FP.i2d z_1), oS, oD (FP.i2d z_2), oS, oD (FP.i2d z_3), oS, oD (FP.i2d z_4), oS, rv b_5, oD m_18_0, oS, rv b_19, oD (FP.i2d z_3), oS, oU, oU, oU, oU, oU, oU, oU, oU, oU, oU, oU, oU]) rfl ?_
      refine XS.iload X_19.here hx rfl (hb hby at_154) rfl ?_
      exact k
    refine og (B := T_19.setTop (mkF m 159 #[.val (.long q0), oS, iv p1, iv p2, iv p3, iv p4, iv p5, iv 0, iv (kb q0), iv (kc q0), oD (FP.i2d z_1), oS, oD (FP.i2d z_2), oS, oD (FP.i2d z_3), oS, oD (FP.i2d z_4), oS, rv b_5, oD m_18_0, oS, rv b_19, oD (FP.i2d z_3), oS, oU, oU, oU, oU, oU, oU, oU, oU, oU, oU, oU, oU] [])) (fun t k => ?_) ?_
    · refine XS.ifNo X_19.here hx rfl (hb hby at_156) rfl ((if0 _ _).trans (teq (by decide : (0 : Int32) = (0 : Int32))).2) ?_
      exact k
    refine og (B := T_19.setTop (mkF m 171 #[.val (.long q0), oS, iv p1, iv p2, iv p3, iv p4, iv p5, iv 0, iv (kb q0), iv (kc q0), oD (FP.i2d z_1), oS, oD (FP.i2d z_2), oS, oD (FP.i2d z_3), oS, oD (FP.i2d z_4), oS, rv b_5, oD m_18_0, oS, rv b_19, oD (FP.i2d z_3), oS, oD (FP.i2d z_4), oS, oU, oU, oU, oU, oU, oU, oU, oU, oU, oU] [(.int 1), (.int 0)])) (fun t k => ?_) ?_
    · refine XS.dload X_19.here hx rfl (hb hby at_159) rfl ?_
      refine XS.goto X_19.here hx rfl (pc0 := 161) (pc' := 166) rfl (hb hby at_161) (by decide) (by decide) ?_
      refine XS.dstore X_19.here hx rfl (hb hby at_166) rfl (l' := #[.val (.long q0), oS, iv p1, iv p2, iv p3, iv p4, iv p5, iv 0, iv (kb q0), iv (kc q0), oD (FP.i2d z_1), oS, oD (FP.i2d z_2), oS, oD (FP.i2d z_3), oS, oD (FP.i2d z_4), oS, rv b_5, oD m_18_0, oS, rv b_19, oD (FP.i2d z_3), oS, oD (FP.i2d z_4), oS, oU, oU, oU, oU, oU, oU, oU, oU, oU, oU]) rfl ?_
      refine XS.iload X_19.here hx rfl (hb hby at_168) rfl ?_
      refine XS.iconst X_19.here hx rfl (hb hby at_170) ?_
      exact k
    refine og (B := T_19.setTop (mkF m 179 #[.val (.long q0), oS, iv p1, iv p2, iv p3, iv p4, iv p5, iv 0, iv (kb q0), iv (kc q0), oD (FP.i2d z_1), oS, oD (FP.i2d z_2), oS, oD (FP.i2d z_3), oS, oD (FP.i2d z_4), oS, rv b_5, oD m_18_0, oS, rv b_19, oD (FP.i2d z_3), oS, oD (FP.i2d z_4), oS, oU, oU, oU, oU, oU, oU, oU, oU, oU, oU] [])) (fun t k => ?_) ?_
    · refine XS.icmpYes X_19.here hx rfl (pc0 := 171) (pc' := 179) rfl (hb hby at_171) rfl (feq (by decide : ¬ ((0 : Int32) = (1 : Int32)))).2 (by decide) (by decide) ?_
      exact k
    refine og (B := T_19.setTop (mkF m 186 #[.val (.long q0), oS, iv p1, iv p2, iv p3, iv p4, iv p5, iv 0, iv (kb q0), iv (kc q0), oD (FP.i2d z_1), oS, oD (FP.i2d z_2), oS, oD (FP.i2d z_3), oS, oD (FP.i2d z_4), oS, rv b_5, oD m_18_0, oS, rv b_19, oD (FP.i2d z_3), oS, oD (FP.i2d z_4), oS, oD (FP.i2d z_1), oS, oU, oU, oU, oU, oU, oU, oU, oU] [(.int 1), (.int 0)])) (fun t k => ?_) ?_
    · refine XS.dload X_19.here hx rfl (hb hby at_179) rfl ?_
      refine XS.dstore X_19.here hx rfl (hb hby at_181) rfl (l' := #[.val (.long q0), oS, iv p1, iv p2, iv p3, iv p4, iv p5, iv 0, iv (kb q0), iv (kc q0), oD (FP.i2d z_1), oS, oD (FP.i2d z_2), oS, oD (FP.i2d z_3), oS, oD (FP.i2d z_4), oS, rv b_5, oD m_18_0, oS, rv b_19, oD (FP.i2d z_3), oS, oD (FP.i2d z_4), oS, oD (FP.i2d z_1), oS, oU, oU, oU, oU, oU, oU, oU, oU]) rfl ?_
      refine XS.iload X_19.here hx rfl (hb hby at_183) rfl ?_
      refine XS.iconst X_19.here hx rfl (hb hby at_185) ?_
      exact k
    refine og (B := T_19.setTop (mkF m 194 #[.val (.long q0), oS, iv p1, iv p2, iv p3, iv p4, iv p5, iv 0, iv (kb q0), iv (kc q0), oD (FP.i2d z_1), oS, oD (FP.i2d z_2), oS, oD (FP.i2d z_3), oS, oD (FP.i2d z_4), oS, rv b_5, oD m_18_0, oS, rv b_19, oD (FP.i2d z_3), oS, oD (FP.i2d z_4), oS, oD (FP.i2d z_1), oS, oU, oU, oU, oU, oU, oU, oU, oU] [])) (fun t k => ?_) ?_
    · refine XS.icmpYes X_19.here hx rfl (pc0 := 186) (pc' := 194) rfl (hb hby at_186) rfl (feq (by decide : ¬ ((0 : Int32) = (1 : Int32)))).2 (by decide) (by decide) ?_
      exact k
    refine og (B := T_19.setTop (mkF m 199 #[.val (.long q0), oS, iv p1, iv p2, iv p3, iv p4, iv p5, iv 0, iv (kb q0), iv (kc q0), oD (FP.i2d z_1), oS, oD (FP.i2d z_2), oS, oD (FP.i2d z_3), oS, oD (FP.i2d z_4), oS, rv b_5, oD m_18_0, oS, rv b_19, oD (FP.i2d z_3), oS, oD (FP.i2d z_4), oS, oD (FP.i2d z_1), oS, oD (FP.i2d z_2), oS, oU, oU, oU, oU, oU, oU] [(.int p2)])) (fun t k => ?_) ?_
    · refine XS.dload X_19.here hx rfl (hb hby at_194) rfl ?_
      refine XS.dstore X_19.here hx rfl (hb hby at_196) rfl (l' := #[.val (.long q0), oS, iv p1, iv p2, iv p3, iv p4, iv p5, iv 0, iv (kb q0), iv (kc q0), oD (FP.i2d z_1), oS, oD (FP.i2d z_2), oS, oD (FP.i2d z_3), oS, oD (FP.i2d z_4), oS, rv b_5, oD m_18_0, oS, rv b_19, oD (FP.i2d z_3), oS, oD (FP.i2d z_4), oS, oD (FP.i2d z_1), oS, oD (FP.i2d z_2), oS, oU, oU, oU, oU, oU, oU]) rfl ?_
      refine XS.iloadN X_19.here hx rfl (hb hby at_198) rfl ?_
      exact k
    obtain ⟨zv1, hzv1⟩ : ∃ zq : UInt64, zq = (if p2 < (0 : Int32) then (FP.i2d z_4) else (FP.i2d z_3)) := ⟨_, rfl⟩
    refine og (B := T_19.setTop (mkF m 209 #[.val (.long q0), oS, iv p1, iv p2, iv p3, iv p4, iv p5, iv 0, iv (kb q0), iv (kc q0), oD (FP.i2d z_1), oS, oD (FP.i2d z_2), oS, oD (FP.i2d z_3), oS, oD (FP.i2d z_4), oS, rv b_5, oD m_18_0, oS, rv b_19, oD (FP.i2d z_3), oS, oD (FP.i2d z_4), oS, oD (FP.i2d z_1), oS, oD (FP.i2d z_2), oS, oU, oU, oU, oU, oU, oU] [(.double zv1)])) (fun t k => ?_) ?_
    · show Steps p.tables e below (T_19.setTop (mkF m 199 #[.val (.long q0), oS, iv p1, iv p2, iv p3, iv p4, iv p5, iv 0, iv (kb q0), iv (kc q0), oD (FP.i2d z_1), oS, oD (FP.i2d z_2), oS, oD (FP.i2d z_3), oS, oD (FP.i2d z_4), oS, rv b_5, oD m_18_0, oS, rv b_19, oD (FP.i2d z_3), oS, oD (FP.i2d z_4), oS, oD (FP.i2d z_1), oS, oD (FP.i2d z_2), oS, oU, oU, oU, oU, oU, oU] [(.int p2)])) _
      by_cases hc199 : p2 < (0 : Int32)
      · refine XS.ifYes X_19.here hx rfl (pc0 := 199) (pc' := 207) rfl (hb hby at_199) rfl ((if0 _ _).trans (tlt hc199).1) (by decide) (by decide) ?_
        show Steps p.tables e below (T_19.setTop (mkF m 207 #[.val (.long q0), oS, iv p1, iv p2, iv p3, iv p4, iv p5, iv 0, iv (kb q0), iv (kc q0), oD (FP.i2d z_1), oS, oD (FP.i2d z_2), oS, oD (FP.i2d z_3), oS, oD (FP.i2d z_4), oS, rv b_5, oD m_18_0, oS, rv b_19, oD (FP.i2d z_3), oS, oD (FP.i2d z_4), oS, oD (FP.i2d z_1), oS, oD (FP.i2d z_2), oS, oU, oU, oU, oU, oU, oU] [])) _
        refine XS.dload X_19.here hx rfl (hb hby at_207) rfl ?_
        show Steps p.tables e below (T_19.setTop (mkF m 209 #[.val (.long q0), oS, iv p1, iv p2, iv p3, iv p4, iv p5, iv 0, iv (kb q0), iv (kc q0), oD (FP.i2d z_1), oS, oD (FP.i2d z_2), oS, oD (FP.i2d z_3), oS, oD (FP.i2d z_4), oS, rv b_5, oD m_18_0, oS, rv b_19, oD (FP.i2d z_3), oS, oD (FP.i2d z_4), oS, oD (FP.i2d z_1), oS, oD (FP.i2d z_2), oS, oU, oU, oU, oU, oU, oU] [(.double (FP.i2d z_4))])) _
        rw [show zv1 = (FP.i2d z_4) from by simp only [hzv1, if_pos hc199]] at k
        exact k
      · refine XS.ifNo X_19.here hx rfl (hb hby at_199) rfl ((if0 _ _).trans (flt hc199).1) ?_
        show Steps p.tables e below (T_19.setTop (mkF m 202 #[.val (.long q0), oS, iv p1, iv p2, iv p3, iv p4, iv p5, iv 0, iv (kb q0), iv (kc q0), oD (FP.i2d z_1), oS, oD (FP.i2d z_2), oS, oD (FP.i2d z_3), oS, oD (FP.i2d z_4), oS, rv b_5, oD m_18_0, oS, rv b_19, oD (FP.i2d z_3), oS, oD (FP.i2d z_4), oS, oD (FP.i2d z_1), oS, oD (FP.i2d z_2), oS, oU, oU, oU, oU, oU, oU] [])) _
        refine XS.dload X_19.here hx rfl (hb hby at_202) rfl ?_
        show Steps p.tables e below (T_19.setTop (mkF m 204 #[.val (.long q0), oS, iv p1, iv p2, iv p3, iv p4, iv p5, iv 0, iv (kb q0), iv (kc q0), oD (FP.i2d z_1), oS, oD (FP.i2d z_2), oS, oD (FP.i2d z_3), oS, oD (FP.i2d z_4), oS, rv b_5, oD m_18_0, oS, rv b_19, oD (FP.i2d z_3), oS, oD (FP.i2d z_4), oS, oD (FP.i2d z_1), oS, oD (FP.i2d z_2), oS, oU, oU, oU, oU, oU, oU] [(.double (FP.i2d z_3))])) _
        refine XS.goto X_19.here hx rfl (pc0 := 204) (pc' := 209) rfl (hb hby at_204) (by decide) (by decide) ?_
        show Steps p.tables e below (T_19.setTop (mkF m 209 #[.val (.long q0), oS, iv p1, iv p2, iv p3, iv p4, iv p5, iv 0, iv (kb q0), iv (kc q0), oD (FP.i2d z_1), oS, oD (FP.i2d z_2), oS, oD (FP.i2d z_3), oS, oD (FP.i2d z_4), oS, rv b_5, oD m_18_0, oS, rv b_19, oD (FP.i2d z_3), oS, oD (FP.i2d z_4), oS, oD (FP.i2d z_1), oS, oD (FP.i2d z_2), oS, oU, oU, oU, oU, oU, oU] [(.double (FP.i2d z_3))])) _
        rw [show zv1 = (FP.i2d z_3) from by simp only [hzv1, if_neg hc199]] at k
        exact k
    refine og (B := T_19.setTop (mkF m 213 #[.val (.long q0), oS, iv p1, iv p2, iv p3, iv p4, iv p5, iv 0, iv (kb q0), iv (kc q0), oD (FP.i2d z_1), oS, oD (FP.i2d z_2), oS, oD (FP.i2d z_3), oS, oD (FP.i2d z_4), oS, rv b_5, oD m_18_0, oS, rv b_19, oD (FP.i2d z_3), oS, oD (FP.i2d z_4), oS, oD (FP.i2d z_1), oS, oD (FP.i2d z_2), oS, oD zv1, oS, oU, oU, oU, oU] [(.int p3)])) (fun t k => ?_) ?_
    · refine XS.dstore X_19.here hx rfl (hb hby at_209) rfl (l' := #[.val (.long q0), oS, iv p1, iv p2, iv p3, iv p4, iv p5, iv 0, iv (kb q0), iv (kc q0), oD (FP.i2d z_1), oS, oD (FP.i2d z_2), oS, oD (FP.i2d z_3), oS, oD (FP.i2d z_4), oS, rv b_5, oD m_18_0, oS, rv b_19, oD (FP.i2d z_3), oS, oD (FP.i2d z_4), oS, oD (FP.i2d z_1), oS, oD (FP.i2d z_2), oS, oD zv1, oS, oU, oU, oU, oU]) rfl ?_
      refine XS.iload X_19.here hx rfl (hb hby at_211) rfl ?_
      exact k
    obtain ⟨zv2, hzv2⟩ : ∃ zq : UInt64, zq = (if p3 < (0 : Int32) then (FP.i2d z_2) else (FP.i2d z_1)) := ⟨_, rfl⟩
    refine og (B := T_19.setTop (mkF m 223 #[.val (.long q0), oS, iv p1, iv p2, iv p3, iv p4, iv p5, iv 0, iv (kb q0), iv (kc q0), oD (FP.i2d z_1), oS, oD (FP.i2d z_2), oS, oD (FP.i2d z_3), oS, oD (FP.i2d z_4), oS, rv b_5, oD m_18_0, oS, rv b_19, oD (FP.i2d z_3), oS, oD (FP.i2d z_4), oS, oD (FP.i2d z_1), oS, oD (FP.i2d z_2), oS, oD zv1, oS, oU, oU, oU, oU] [(.double zv2)])) (fun t k => ?_) ?_
    · show Steps p.tables e below (T_19.setTop (mkF m 213 #[.val (.long q0), oS, iv p1, iv p2, iv p3, iv p4, iv p5, iv 0, iv (kb q0), iv (kc q0), oD (FP.i2d z_1), oS, oD (FP.i2d z_2), oS, oD (FP.i2d z_3), oS, oD (FP.i2d z_4), oS, rv b_5, oD m_18_0, oS, rv b_19, oD (FP.i2d z_3), oS, oD (FP.i2d z_4), oS, oD (FP.i2d z_1), oS, oD (FP.i2d z_2), oS, oD zv1, oS, oU, oU, oU, oU] [(.int p3)])) _
      by_cases hc213 : p3 < (0 : Int32)
      · refine XS.ifYes X_19.here hx rfl (pc0 := 213) (pc' := 221) rfl (hb hby at_213) rfl ((if0 _ _).trans (tlt hc213).1) (by decide) (by decide) ?_
        show Steps p.tables e below (T_19.setTop (mkF m 221 #[.val (.long q0), oS, iv p1, iv p2, iv p3, iv p4, iv p5, iv 0, iv (kb q0), iv (kc q0), oD (FP.i2d z_1), oS, oD (FP.i2d z_2), oS, oD (FP.i2d z_3), oS, oD (FP.i2d z_4), oS, rv b_5, oD m_18_0, oS, rv b_19, oD (FP.i2d z_3), oS, oD (FP.i2d z_4), oS, oD (FP.i2d z_1), oS, oD (FP.i2d z_2), oS, oD zv1, oS, oU, oU, oU, oU] [])) _
        refine XS.dload X_19.here hx rfl (hb hby at_221) rfl ?_
        show Steps p.tables e below (T_19.setTop (mkF m 223 #[.val (.long q0), oS, iv p1, iv p2, iv p3, iv p4, iv p5, iv 0, iv (kb q0), iv (kc q0), oD (FP.i2d z_1), oS, oD (FP.i2d z_2), oS, oD (FP.i2d z_3), oS, oD (FP.i2d z_4), oS, rv b_5, oD m_18_0, oS, rv b_19, oD (FP.i2d z_3), oS, oD (FP.i2d z_4), oS, oD (FP.i2d z_1), oS, oD (FP.i2d z_2), oS, oD zv1, oS, oU, oU, oU, oU] [(.double (FP.i2d z_2))])) _
        rw [show zv2 = (FP.i2d z_2) from by simp only [hzv2, if_pos hc213]] at k
        exact k
      · refine XS.ifNo X_19.here hx rfl (hb hby at_213) rfl ((if0 _ _).trans (flt hc213).1) ?_
        show Steps p.tables e below (T_19.setTop (mkF m 216 #[.val (.long q0), oS, iv p1, iv p2, iv p3, iv p4, iv p5, iv 0, iv (kb q0), iv (kc q0), oD (FP.i2d z_1), oS, oD (FP.i2d z_2), oS, oD (FP.i2d z_3), oS, oD (FP.i2d z_4), oS, rv b_5, oD m_18_0, oS, rv b_19, oD (FP.i2d z_3), oS, oD (FP.i2d z_4), oS, oD (FP.i2d z_1), oS, oD (FP.i2d z_2), oS, oD zv1, oS, oU, oU, oU, oU] [])) _
        refine XS.dload X_19.here hx rfl (hb hby at_216) rfl ?_
        show Steps p.tables e below (T_19.setTop (mkF m 218 #[.val (.long q0), oS, iv p1, iv p2, iv p3, iv p4, iv p5, iv 0, iv (kb q0), iv (kc q0), oD (FP.i2d z_1), oS, oD (FP.i2d z_2), oS, oD (FP.i2d z_3), oS, oD (FP.i2d z_4), oS, rv b_5, oD m_18_0, oS, rv b_19, oD (FP.i2d z_3), oS, oD (FP.i2d z_4), oS, oD (FP.i2d z_1), oS, oD (FP.i2d z_2), oS, oD zv1, oS, oU, oU, oU, oU] [(.double (FP.i2d z_1))])) _
        refine XS.goto X_19.here hx rfl (pc0 := 218) (pc' := 223) rfl (hb hby at_218) (by decide) (by decide) ?_
        show Steps p.tables e below (T_19.setTop (mkF m 223 #[.val (.long q0), oS, iv p1, iv p2, iv p3, iv p4, iv p5, iv 0, iv (kb q0), iv (kc q0), oD (FP.i2d z_1), oS, oD (FP.i2d z_2), oS, oD (FP.i2d z_3), oS, oD (FP.i2d z_4), oS, rv b_5, oD m_18_0, oS, rv b_19, oD (FP.i2d z_3), oS, oD (FP.i2d z_4), oS, oD (FP.i2d z_1), oS, oD (FP.i2d z_2), oS, oD zv1, oS, oU, oU, oU, oU] [(.double (FP.i2d z_1))])) _
        rw [show zv2 = (FP.i2d z_1) from by simp only [hzv2, if_neg hc213]] at k
        exact k
    refine og (B := T_19.setTop (mkF m 244 #[.val (.long q0), oS, iv p1, iv p2, iv p3, iv p4, iv p5, iv 0, iv (kb q0), iv (kc q0), oD (FP.i2d z_1), oS, oD (FP.i2d z_2), oS, oD (FP.i2d z_3), oS, oD (FP.i2d z_4), oS, rv b_5, oD m_18_0, oS, rv b_19, oD (FP.i2d z_3), oS, oD (FP.i2d z_4), oS, oD (FP.i2d z_1), oS, oD (FP.i2d z_2), oS, oD zv1, oS, oD zv2, oS, oD (FP.dadd (FP.dadd (FP.i2d p1) (FP.dmul zv1 (FP.i2d p2))) (FP.dmul zv2 (FP.i2d p3))), oS] [(.ref b_19)])) (fun t k => ?_) ?_
    · refine XS.dstore X_19.here hx rfl (hb hby at_223) rfl (l' := #[.val (.long q0), oS, iv p1, iv p2, iv p3, iv p4, iv p5, iv 0, iv (kb q0), iv (kc q0), oD (FP.i2d z_1), oS, oD (FP.i2d z_2), oS, oD (FP.i2d z_3), oS, oD (FP.i2d z_4), oS, rv b_5, oD m_18_0, oS, rv b_19, oD (FP.i2d z_3), oS, oD (FP.i2d z_4), oS, oD (FP.i2d z_1), oS, oD (FP.i2d z_2), oS, oD zv1, oS, oD zv2, oS, oU, oU]) rfl ?_
      refine XS.iloadN X_19.here hx rfl (hb hby at_225) rfl ?_
      refine XS.i2dS X_19.here hx rfl (hb hby at_226) rfl rfl ?_
      refine XS.dload X_19.here hx rfl (hb hby at_227) rfl ?_
      refine XS.iloadN X_19.here hx rfl (hb hby at_229) rfl ?_
      refine XS.i2dS X_19.here hx rfl (hb hby at_230) rfl rfl ?_
      refine XS.dmulS X_19.here hx rfl (hb hby at_231) rfl (nn_q1 hzv1) rfl ?_
      refine XS.daddS X_19.here hx rfl (hb hby at_232) rfl (nn_q2 hzv1) rfl ?_
      refine XS.dload X_19.here hx rfl (hb hby at_233) rfl ?_
      refine XS.iload X_19.here hx rfl (hb hby at_235) rfl ?_
      refine XS.i2dS X_19.here hx rfl (hb hby at_237) rfl rfl ?_
      refine XS.dmulS X_19.here hx rfl (hb hby at_238) rfl (nn_q1 hzv2) rfl ?_
      refine XS.daddS X_19.here hx rfl (hb hby at_239) rfl (nn_q3 hzv1 hzv2) rfl ?_
      refine XS.dstore X_19.here hx rfl (hb hby at_240) rfl (l' := #[.val (.long q0), oS, iv p1, iv p2, iv p3, iv p4, iv p5, iv 0, iv (kb q0), iv (kc q0), oD (FP.i2d z_1), oS, oD (FP.i2d z_2), oS, oD (FP.i2d z_3), oS, oD (FP.i2d z_4), oS, rv b_5, oD m_18_0, oS, rv b_19, oD (FP.i2d z_3), oS, oD (FP.i2d z_4), oS, oD (FP.i2d z_1), oS, oD (FP.i2d z_2), oS, oD zv1, oS, oD zv2, oS, oD (FP.dadd (FP.dadd (FP.i2d p1) (FP.dmul zv1 (FP.i2d p2))) (FP.dmul zv2 (FP.i2d p3))), oS]) rfl ?_
      refine XS.aload X_19.here hx rfl (hb hby at_242) rfl rfl ?_
      exact k
    have hq : (cmpValue (FP.dcmp m_18_0 (FP.dadd (FP.dadd (FP.i2d p1) (FP.dmul zv1 (FP.i2d p2))) (FP.dmul zv2 (FP.i2d p3)))) .l) = (0 : Int32) := by rw [hzv1, hzv2]; exact hv9
    have hk0 : ¬ ((own_aw m_18_1 p2 (FP.i2d z_3) (FP.i2d z_4)) = (0 : Int32)) := by rw [ha0]; decide
    have hk1 : ¬ ((own_aw m_18_2 p3 (FP.i2d z_1) (FP.i2d z_2)) = (0 : Int32)) := by rw [ha1]; decide
    obtain ⟨cl_20, Ar_20, -, S_20, M_20, -, -⟩ := id VN_19
    refine og (B := T_19.setTop (mkF m 245 #[.val (.long q0), oS, iv p1, iv p2, iv p3, iv p4, iv p5, iv 0, iv (kb q0), iv (kc q0), oD (FP.i2d z_1), oS, oD (FP.i2d z_2), oS, oD (FP.i2d z_3), oS, oD (FP.i2d z_4), oS, rv b_5, oD m_18_0, oS, rv b_19, oD (FP.i2d z_3), oS, oD (FP.i2d z_4), oS, oD (FP.i2d z_1), oS, oD (FP.i2d z_2), oS, oD zv1, oS, oD zv2, oS, oD (FP.dadd (FP.dadd (FP.i2d p1) (FP.dmul zv1 (FP.i2d p2))) (FP.dmul zv2 (FP.i2d p3))), oS] [(.int 2)])) (fun t k => X_19.arraylength hx Ar_20.1 (State.isArrayOf_alike hZ.alike Ar_20.2.1) (g := (mkF m 244 #[.val (.long q0), oS, iv p1, iv p2, iv p3, iv p4, iv p5, iv 0, iv (kb q0), iv (kc q0), oD (FP.i2d z_1), oS, oD (FP.i2d z_2), oS, oD (FP.i2d z_3), oS, oD (FP.i2d z_4), oS, rv b_5, oD m_18_0, oS, rv b_19, oD (FP.i2d z_3), oS, oD (FP.i2d z_4), oS, oD (FP.i2d z_1), oS, oD (FP.i2d z_2), oS, oD zv1, oS, oD zv2, oS, oD (FP.dadd (FP.dadd (FP.i2d p1) (FP.dmul zv1 (FP.i2d p2))) (FP.dmul zv2 (FP.i2d p3))), oS] [(.ref b_19)])) rfl rfl (hb hby at_244) t (by rw [len_of S_20 M_20]; exact k)) ?_
    refine og (B := T_19.setTop (mkF m 246 #[.val (.long q0), oS, iv p1, iv p2, iv p3, iv p4, iv p5, iv 0, iv (kb q0), iv (kc q0), oD (FP.i2d z_1), oS, oD (FP.i2d z_2), oS, oD (FP.i2d z_3), oS, oD (FP.i2d z_4), oS, rv b_5, oD m_18_0, oS, rv b_19, oD (FP.i2d z_3), oS, oD (FP.i2d z_4), oS, oD (FP.i2d z_1), oS, oD (FP.i2d z_2), oS, oD zv1, oS, oD zv2, oS, oD (FP.dadd (FP.dadd (FP.i2d p1) (FP.dmul zv1 (FP.i2d p2))) (FP.dmul zv2 (FP.i2d p3))), oS] [(.int 2), (.int 2)])) (fun t k => ?_) ?_
    · refine XS.iconst X_19.here hx rfl (hb hby at_245) ?_
      exact k
    refine og (B := T_19.setTop (mkF m 251 #[.val (.long q0), oS, iv p1, iv p2, iv p3, iv p4, iv p5, iv 0, iv (kb q0), iv (kc q0), oD (FP.i2d z_1), oS, oD (FP.i2d z_2), oS, oD (FP.i2d z_3), oS, oD (FP.i2d z_4), oS, rv b_5, oD m_18_0, oS, rv b_19, oD (FP.i2d z_3), oS, oD (FP.i2d z_4), oS, oD (FP.i2d z_1), oS, oD (FP.i2d z_2), oS, oD zv1, oS, oD zv2, oS, oD (FP.dadd (FP.dadd (FP.i2d p1) (FP.dmul zv1 (FP.i2d p2))) (FP.dmul zv2 (FP.i2d p3))), oS] [])) (fun t k => ?_) ?_
    · refine XS.icmpYes X_19.here hx rfl (pc0 := 246) (pc' := 251) rfl (hb hby at_246) rfl (teq (by decide : (2 : Int32) = (2 : Int32))).1 (by decide) (by decide) ?_
      exact k
    refine og (B := T_19.setTop (mkF m 256 #[.val (.long q0), oS, iv p1, iv p2, iv p3, iv p4, iv p5, iv 0, iv (kb q0), iv (kc q0), oD (FP.i2d z_1), oS, oD (FP.i2d z_2), oS, oD (FP.i2d z_3), oS, oD (FP.i2d z_4), oS, rv b_5, oD m_18_0, oS, rv b_19, oD (FP.i2d z_3), oS, oD (FP.i2d z_4), oS, oD (FP.i2d z_1), oS, oD (FP.i2d z_2), oS, oD zv1, oS, oD zv2, oS, oD (FP.dadd (FP.dadd (FP.i2d p1) (FP.dmul zv1 (FP.i2d p2))) (FP.dmul zv2 (FP.i2d p3))), oS] [(.int (cmpValue (FP.dcmp m_18_0 (FP.dadd (FP.dadd (FP.i2d p1) (FP.dmul zv1 (FP.i2d p2))) (FP.dmul zv2 (FP.i2d p3)))) .l))])) (fun t k => ?_) ?_
    · refine XS.dload X_19.here hx rfl (hb hby at_251) rfl ?_
      refine XS.dload X_19.here hx rfl (hb hby at_253) rfl ?_
      refine XS.dcmpS X_19.here hx rfl (hb hby at_255) rfl rfl ?_
      exact k
    refine og (B := T_19.setTop (mkF m 259 #[.val (.long q0), oS, iv p1, iv p2, iv p3, iv p4, iv p5, iv 0, iv (kb q0), iv (kc q0), oD (FP.i2d z_1), oS, oD (FP.i2d z_2), oS, oD (FP.i2d z_3), oS, oD (FP.i2d z_4), oS, rv b_5, oD m_18_0, oS, rv b_19, oD (FP.i2d z_3), oS, oD (FP.i2d z_4), oS, oD (FP.i2d z_1), oS, oD (FP.i2d z_2), oS, oD zv1, oS, oD zv2, oS, oD (FP.dadd (FP.dadd (FP.i2d p1) (FP.dmul zv1 (FP.i2d p2))) (FP.dmul zv2 (FP.i2d p3))), oS] [])) (fun t k => ?_) ?_
    · refine XS.ifNo X_19.here hx rfl (hb hby at_256) rfl ((if0 _ _).trans (teq hq).2) ?_
      exact k
    refine og (B := T_19.setTop (mkF m 262 #[.val (.long q0), oS, iv p1, iv p2, iv p3, iv p4, iv p5, iv 0, iv (kb q0), iv (kc q0), oD (FP.i2d z_1), oS, oD (FP.i2d z_2), oS, oD (FP.i2d z_3), oS, oD (FP.i2d z_4), oS, rv b_5, oD m_18_0, oS, rv b_19, oD (FP.i2d z_3), oS, oD (FP.i2d z_4), oS, oD (FP.i2d z_1), oS, oD (FP.i2d z_2), oS, oD zv1, oS, oD zv2, oS, oD (FP.dadd (FP.dadd (FP.i2d p1) (FP.dmul zv1 (FP.i2d p2))) (FP.dmul zv2 (FP.i2d p3))), oS] [(.int 0), (.ref b_19)])) (fun t k => ?_) ?_
    · refine XS.aload X_19.here hx rfl (hb hby at_259) rfl rfl ?_
      refine XS.iconst X_19.here hx rfl (hb hby at_261) ?_
      exact k
    obtain ⟨cl_21, Ar_21, q_21, S_21, M_21, H_21, G_21⟩ := id VN_19
    have hin_21 : ¬ ((0 : Int32) < 0 ∨ cl_21.slots.size ≤ ((0 : Int32)).toNatClampNeg) := inb_of S_21 ⟨by decide, by decide⟩
    have hat_21 : cl_21.slots[((0 : Int32)).toNatClampNeg]? = some (.double m_18_1) := H_21.at hin_21 rfl
    refine og (fun t k => X_19.daload hx (j := (0 : Int32)) (v := (.double m_18_1)) Ar_21.1 (State.isArrayOf_alike hZ.alike Ar_21.2.1) Ar_21.2.2 hin_21 hat_21 (g := (mkF m 262 #[.val (.long q0), oS, iv p1, iv p2, iv p3, iv p4, iv p5, iv 0, iv (kb q0), iv (kc q0), oD (FP.i2d z_1), oS, oD (FP.i2d z_2), oS, oD (FP.i2d z_3), oS, oD (FP.i2d z_4), oS, rv b_5, oD m_18_0, oS, rv b_19, oD (FP.i2d z_3), oS, oD (FP.i2d z_4), oS, oD (FP.i2d z_1), oS, oD (FP.i2d z_2), oS, oD zv1, oS, oD zv2, oS, oD (FP.dadd (FP.dadd (FP.i2d p1) (FP.dmul zv1 (FP.i2d p2))) (FP.dmul zv2 (FP.i2d p3))), oS] [(.int 0), (.ref b_19)])) rfl rfl (hb hby at_262) t k) ?_
    refine og (B := T_19.setTop (mkF m 268 #[.val (.long q0), oS, iv p1, iv p2, iv p3, iv p4, iv p5, iv 0, iv (kb q0), iv (kc q0), oD (FP.i2d z_1), oS, oD (FP.i2d z_2), oS, oD (FP.i2d z_3), oS, oD (FP.i2d z_4), oS, rv b_5, oD m_18_0, oS, rv b_19, oD (FP.i2d z_3), oS, oD (FP.i2d z_4), oS, oD (FP.i2d z_1), oS, oD (FP.i2d z_2), oS, oD zv1, oS, oD zv2, oS, oD (FP.dadd (FP.dadd (FP.i2d p1) (FP.dmul zv1 (FP.i2d p2))) (FP.dmul zv2 (FP.i2d p3))), oS] [(.double (FP.i2d z_4)), (.double (FP.i2d z_3)), (.int p2), (.double m_18_1)])) (fun t k => ?_) ?_
    · refine XS.iloadN X_19.here hx rfl (hb hby at_263) rfl ?_
      refine XS.dload X_19.here hx rfl (hb hby at_264) rfl ?_
      refine XS.dload X_19.here hx rfl (hb hby at_266) rfl ?_
      exact k
    obtain ⟨_, _, ⟨T_22, L_22, k_22, n_22⟩, -, X_22, ⟨Lc_22, hQ_22, l_22, y_22, z_22⟩, st_22⟩ := Jvm.LawKit.callS X_19 hx (y := own_m29) hown (mvT hZ (ow hw 178 rfl)) (mvT hZ (ow hw 179 rfl)) (mvT hZ (ow hw 180 rfl)) (mvT hZ (ow hw 181 rfl)) (by decide) (backOf (W := 0) (rmaw l Z av0 hw [] m_18_1 p2 (FP.i2d z_3) (FP.i2d z_4)  T_19.heap n0 Z0__19 ) hZ (ow hw 181 rfl) (ow hw 180 rfl) (by decide) (by decide)) (g := (mkF m 268 #[.val (.long q0), oS, iv p1, iv p2, iv p3, iv p4, iv p5, iv 0, iv (kb q0), iv (kc q0), oD (FP.i2d z_1), oS, oD (FP.i2d z_2), oS, oD (FP.i2d z_3), oS, oD (FP.i2d z_4), oS, rv b_5, oD m_18_0, oS, rv b_19, oD (FP.i2d z_3), oS, oD (FP.i2d z_4), oS, oD (FP.i2d z_1), oS, oD (FP.i2d z_2), oS, oD zv1, oS, oD zv2, oS, oD (FP.dadd (FP.dadd (FP.i2d p1) (FP.dmul zv1 (FP.i2d p2))) (FP.dmul zv2 (FP.i2d p3))), oS] [(.double (FP.i2d z_4)), (.double (FP.i2d z_3)), (.int p2), (.double m_18_1)])) rfl (by rw [hml]; rfl) (argsL := [(.double m_18_1), (.int p2), (.double (FP.i2d z_3)), (.double (FP.i2d z_4))]) (rest := []) (lenOf pd_18 rfl) rfl (by show 2 * 0 + _ ≤ _; exact Nat.le_of_eq rfl) (hb hby at_268) (fun _ _ => ⟨rfl, rfl, (by decide : 21 + 0 ≤ _), (by decide : 99 + 0 ≤ _)⟩)
    dsimp only [Pt.U, Pt.locs, Pt.cells, Pt.slots] at X_22 l_22 y_22 z_22 st_22 hQ_22
    subst l_22 y_22 z_22
    obtain ⟨rfl, N_22q, e_22⟩ := hQ_22
    have N_22 := Fr.app N_19 N_22q
    refine og (fun t k => st_22 t k) ?_
    refine og (B := T_22.setTop (mkF m 274 #[.val (.long q0), oS, iv p1, iv p2, iv p3, iv p4, iv p5, iv 0, iv (kb q0), iv (kc q0), oD (FP.i2d z_1), oS, oD (FP.i2d z_2), oS, oD (FP.i2d z_3), oS, oD (FP.i2d z_4), oS, rv b_5, oD m_18_0, oS, rv b_19, oD (FP.i2d z_3), oS, oD (FP.i2d z_4), oS, oD (FP.i2d z_1), oS, oD (FP.i2d z_2), oS, oD zv1, oS, oD zv2, oS, oD (FP.dadd (FP.dadd (FP.i2d p1) (FP.dmul zv1 (FP.i2d p2))) (FP.dmul zv2 (FP.i2d p3))), oS] [])) (fun t k => ?_) ?_
    · refine XS.ifNo X_22.here hx rfl (hb hby at_271) rfl ((if0 _ _).trans (feq hk0).1) ?_
      exact k
    refine og (B := T_22.setTop (mkF m 277 #[.val (.long q0), oS, iv p1, iv p2, iv p3, iv p4, iv p5, iv 0, iv (kb q0), iv (kc q0), oD (FP.i2d z_1), oS, oD (FP.i2d z_2), oS, oD (FP.i2d z_3), oS, oD (FP.i2d z_4), oS, rv b_5, oD m_18_0, oS, rv b_19, oD (FP.i2d z_3), oS, oD (FP.i2d z_4), oS, oD (FP.i2d z_1), oS, oD (FP.i2d z_2), oS, oD zv1, oS, oD zv2, oS, oD (FP.dadd (FP.dadd (FP.i2d p1) (FP.dmul zv1 (FP.i2d p2))) (FP.dmul zv2 (FP.i2d p3))), oS] [(.int 1), (.ref b_19)])) (fun t k => ?_) ?_
    · refine XS.aload X_22.here hx rfl (hb hby at_274) rfl rfl ?_
      refine XS.iconst X_22.here hx rfl (hb hby at_276) ?_
      exact k
    obtain ⟨cl_23, Ar_23, q_23, S_23, M_23, H_23, G_23⟩ := id VN_19
    have hin_23 : ¬ ((1 : Int32) < 0 ∨ cl_23.slots.size ≤ ((1 : Int32)).toNatClampNeg) := inb_of S_23 ⟨by decide, by decide⟩
    have hat_23 : cl_23.slots[((1 : Int32)).toNatClampNeg]? = some (.double m_18_2) := H_23.at hin_23 rfl
    refine og (B := T_22.setTop (mkF m 278 #[.val (.long q0), oS, iv p1, iv p2, iv p3, iv p4, iv p5, iv 0, iv (kb q0), iv (kc q0), oD (FP.i2d z_1), oS, oD (FP.i2d z_2), oS, oD (FP.i2d z_3), oS, oD (FP.i2d z_4), oS, rv b_5, oD m_18_0, oS, rv b_19, oD (FP.i2d z_3), oS, oD (FP.i2d z_4), oS, oD (FP.i2d z_1), oS, oD (FP.i2d z_2), oS, oD zv1, oS, oD zv2, oS, oD (FP.dadd (FP.dadd (FP.i2d p1) (FP.dmul zv1 (FP.i2d p2))) (FP.dmul zv2 (FP.i2d p3))), oS] [(.double m_18_2)])) (fun t k => X_22.daload hx (j := (1 : Int32)) (v := (.double m_18_2)) (by rw [(e_22 : _ = _)]; exact Ar_23.1) (State.isArrayOf_alike hZ.alike Ar_23.2.1) Ar_23.2.2 hin_23 hat_23 (g := (mkF m 277 #[.val (.long q0), oS, iv p1, iv p2, iv p3, iv p4, iv p5, iv 0, iv (kb q0), iv (kc q0), oD (FP.i2d z_1), oS, oD (FP.i2d z_2), oS, oD (FP.i2d z_3), oS, oD (FP.i2d z_4), oS, rv b_5, oD m_18_0, oS, rv b_19, oD (FP.i2d z_3), oS, oD (FP.i2d z_4), oS, oD (FP.i2d z_1), oS, oD (FP.i2d z_2), oS, oD zv1, oS, oD zv2, oS, oD (FP.dadd (FP.dadd (FP.i2d p1) (FP.dmul zv1 (FP.i2d p2))) (FP.dmul zv2 (FP.i2d p3))), oS] [(.int 1), (.ref b_19)])) rfl rfl (hb hby at_277) t k) ?_
    refine og (B := T_22.setTop (mkF m 284 #[.val (.long q0), oS, iv p1, iv p2, iv p3, iv p4, iv p5, iv 0, iv (kb q0), iv (kc q0), oD (FP.i2d z_1), oS, oD (FP.i2d z_2), oS, oD (FP.i2d z_3), oS, oD (FP.i2d z_4), oS, rv b_5, oD m_18_0, oS, rv b_19, oD (FP.i2d z_3), oS, oD (FP.i2d z_4), oS, oD (FP.i2d z_1), oS, oD (FP.i2d z_2), oS, oD zv1, oS, oD zv2, oS, oD (FP.dadd (FP.dadd (FP.i2d p1) (FP.dmul zv1 (FP.i2d p2))) (FP.dmul zv2 (FP.i2d p3))), oS] [(.double (FP.i2d z_2)), (.double (FP.i2d z_1)), (.int p3), (.double m_18_2)])) (fun t k => ?_) ?_
    · refine XS.iload X_22.here hx rfl (hb hby at_278) rfl ?_
      refine XS.dload X_22.here hx rfl (hb hby at_280) rfl ?_
      refine XS.dload X_22.here hx rfl (hb hby at_282) rfl ?_
      exact k
    obtain ⟨_, _, ⟨T_24, L_24, k_24, n_24⟩, -, X_24, ⟨Lc_24, hQ_24, l_24, y_24, z_24⟩, st_24⟩ := Jvm.LawKit.callS X_22 hx (y := own_m29) hown (mvT hZ (ow hw 178 rfl)) (mvT hZ (ow hw 179 rfl)) (mvT hZ (ow hw 180 rfl)) (mvT hZ (ow hw 181 rfl)) (by decide) (backOf (W := 0) (rmaw l Z av0 hw [] m_18_2 p3 (FP.i2d z_1) (FP.i2d z_2)  T_19.heap n0 Z0__19 ) hZ (ow hw 181 rfl) (ow hw 180 rfl) (by decide) (by decide)) (g := (mkF m 284 #[.val (.long q0), oS, iv p1, iv p2, iv p3, iv p4, iv p5, iv 0, iv (kb q0), iv (kc q0), oD (FP.i2d z_1), oS, oD (FP.i2d z_2), oS, oD (FP.i2d z_3), oS, oD (FP.i2d z_4), oS, rv b_5, oD m_18_0, oS, rv b_19, oD (FP.i2d z_3), oS, oD (FP.i2d z_4), oS, oD (FP.i2d z_1), oS, oD (FP.i2d z_2), oS, oD zv1, oS, oD zv2, oS, oD (FP.dadd (FP.dadd (FP.i2d p1) (FP.dmul zv1 (FP.i2d p2))) (FP.dmul zv2 (FP.i2d p3))), oS] [(.double (FP.i2d z_2)), (.double (FP.i2d z_1)), (.int p3), (.double m_18_2)])) rfl (by rw [hml]; rfl) (argsL := [(.double m_18_2), (.int p3), (.double (FP.i2d z_1)), (.double (FP.i2d z_2))]) (rest := []) (lenOf pd_18 rfl) rfl (by show 2 * 0 + _ ≤ _; exact Nat.le_of_eq rfl) (hb hby at_284) (fun _ _ => ⟨rfl, e_22, (by decide : 21 + 0 ≤ _), (by decide : 99 + 0 ≤ _)⟩)
    dsimp only [Pt.U, Pt.locs, Pt.cells, Pt.slots] at X_24 l_24 y_24 z_24 st_24 hQ_24
    subst l_24 y_24 z_24
    obtain ⟨rfl, N_24q, e_24⟩ := hQ_24
    have N_24 := Fr.app N_22 N_24q
    refine og (fun t k => st_24 t k) ?_
    refine og (B := T_24.setTop (mkF m 290 #[.val (.long q0), oS, iv p1, iv p2, iv p3, iv p4, iv p5, iv 0, iv (kb q0), iv (kc q0), oD (FP.i2d z_1), oS, oD (FP.i2d z_2), oS, oD (FP.i2d z_3), oS, oD (FP.i2d z_4), oS, rv b_5, oD m_18_0, oS, rv b_19, oD (FP.i2d z_3), oS, oD (FP.i2d z_4), oS, oD (FP.i2d z_1), oS, oD (FP.i2d z_2), oS, oD zv1, oS, oD zv2, oS, oD (FP.dadd (FP.dadd (FP.i2d p1) (FP.dmul zv1 (FP.i2d p2))) (FP.dmul zv2 (FP.i2d p3))), oS] [])) (fun t k => ?_) ?_
    · refine XS.ifNo X_24.here hx rfl (hb hby at_287) rfl ((if0 _ _).trans (feq hk1).1) ?_
      exact k
    refine og (B := T_24.setTop (mkF m 295 #[.val (.long q0), oS, iv p1, iv p2, iv p3, iv p4, iv p5, iv 0, iv (kb q0), iv (kc q0), oD (FP.i2d z_1), oS, oD (FP.i2d z_2), oS, oD (FP.i2d z_3), oS, oD (FP.i2d z_4), oS, rv b_5, oD m_18_0, oS, rv b_19, oD (FP.i2d z_3), oS, oD (FP.i2d z_4), oS, oD (FP.i2d z_1), oS, oD (FP.i2d z_2), oS, oD zv1, oS, oD zv2, oS, oD (FP.dadd (FP.dadd (FP.i2d p1) (FP.dmul zv1 (FP.i2d p2))) (FP.dmul zv2 (FP.i2d p3))), oS] [(.int 1)])) (fun t k => ?_) ?_
    · refine XS.iconst X_24.here hx rfl (hb hby at_290) ?_
      refine XS.goto X_24.here hx rfl (pc0 := 291) (pc' := 295) rfl (hb hby at_291) (by decide) (by decide) ?_
      exact k
    obtain ⟨fs, hr, hrun, hended, hW, hsame⟩ := X_24.leave (v := some (.int 1)) (fun h => by rw [Bd.returns] at h; cases h)
    refine ⟨_, _, ?_, hrun, hended, _, _, rfl, ?_, ⟨_, rfl⟩, hW, hsame.mono (by decide) (by decide)⟩
    · show Steps p.tables e below (T_24.setTop (mkF m 295 #[.val (.long q0), oS, iv p1, iv p2, iv p3, iv p4, iv p5, iv 0, iv (kb q0), iv (kc q0), oD (FP.i2d z_1), oS, oD (FP.i2d z_2), oS, oD (FP.i2d z_3), oS, oD (FP.i2d z_4), oS, rv b_5, oD m_18_0, oS, rv b_19, oD (FP.i2d z_3), oS, oD (FP.i2d z_4), oS, oD (FP.i2d z_1), oS, oD (FP.i2d z_2), oS, oD zv1, oS, oD zv2, oS, oD (FP.dadd (FP.dadd (FP.i2d p1) (FP.dmul zv1 (FP.i2d p2))) (FP.dmul zv2 (FP.i2d p3))), oS] [(.int 1)])) _
      exact retN X_24 hx (t := .boolean) Bd.returns (by simp) (hb hby at_295) hr
    · show Q0 Z q0 p1 p2 p3 p4 p5 de kd h0 n0 _ T_24.heap _
      rw [e_24]
      exact ⟨rfl, N_24, trivial⟩
  · show ∃ s₂ o, Steps p.tables e below (T_16.setTop (mkF m 123 #[.val (.long q0), oS, iv p1, iv p2, iv p3, iv p4, iv p5, iv 1, iv (kb q0), iv (kc q0), oD (FP.i2d z_1), oS, oD (FP.i2d z_2), oS, oD (FP.i2d z_3), oS, oD (FP.i2d z_4), oS, rv b_5, oU, oU, oU, oU, oU, oU, oU, oU, oU, oU, oU, oU, oU, oU, oU, oU, oU] [(.double (FP.i2d z_4)), (.double (FP.i2d z_3)), (.int 1), (.ref b_5)])) s₂ ∧ _
    obtain ⟨cq_25, kq_25, q_25a, q_25b, q_25c⟩ := isOf hZ rfl c190
    obtain ⟨_, _, ⟨T_25, L_25, k_25, n_25⟩, -, X_25, ⟨Lc_25, hQ_25, l_25, y_25, z_25⟩, st_25⟩ := X_16.virtualBack hx (y := own_m21) (z := own_m21) hown (mvT hZ (ow hw 137 rfl)) (mvT hZ (ow hw 138 rfl)) (notFace_of_selects (args := #[]) (mvT hZ (ow hw 140 rfl))) (mvT hZ (ow hw 140 rfl)) (mvT hZ (ow hw 139 rfl)) (by decide) (backOf (W := 0) (rmmw1 l Z av0 hw [] b_5 (FP.i2d z_3) (FP.i2d z_4) va_12 ka_12 (FP.i2d z_1) (FP.dneg (FP.i2d z_2)) (FP.i2d z_1) (FP.dneg (FP.i2d z_2)) (FP.i2d p1) T_16.heap n0 Z0__16 Q_16_1 VA_16 g_va_12 ne_b_5_va_12) hZ (ow hw 141 rfl) (ow hw 9 rfl) (by decide) (by decide)) q_25a q_25c (g := (mkF m 123 #[.val (.long q0), oS, iv p1, iv p2, iv p3, iv p4, iv p5, iv 1, iv (kb q0), iv (kc q0), oD (FP.i2d z_1), oS, oD (FP.i2d z_2), oS, oD (FP.i2d z_3), oS, oD (FP.i2d z_4), oS, rv b_5, oU, oU, oU, oU, oU, oU, oU, oU, oU, oU, oU, oU, oU, oU, oU, oU, oU] [(.double (FP.i2d z_4)), (.double (FP.i2d z_3)), (.int 1), (.ref b_5)])) rfl (by rw [hml]; rfl) (Steps.refl _) (argsL := [(.int 1), (.double (FP.i2d z_3)), (.double (FP.i2d z_4))]) (rest := []) (lenOf pd_15 rfl) rfl (by show 2 * 0 + _ ≤ _; exact Nat.le_of_eq rfl) (hb hby at_123) (fun _ _ => ⟨rfl, rfl, (by decide : 19 + 0 ≤ _), (by decide : 94 + 0 ≤ _)⟩)
    dsimp only [Pt.U, Pt.locs, Pt.cells, Pt.slots] at X_25 l_25 y_25 z_25 st_25 hQ_25
    subst l_25 y_25 z_25
    obtain ⟨rfl, N_25q, K_25, VA_25⟩ := hQ_25
    have N_25 := Fr.app N_16 N_25q
    have c232 := c189.trans K_25 (allS (Or.inr sz_va_12) all0)
    have c233 := c190.keep K_25
    have c234 := c191.keep K_25
    have c235 := c192.keep K_25
    have c236 := c193.keep K_25 (ninS (Ne.symm ne_va_12_ca0_12) nin0)
    have c237 := c194.keep K_25
    have c238 := c195.keep K_25 (ninS (Ne.symm ne_va_12_ca1_12) nin0)
    have c239 := c196.keep K_25
    have c240 := c197.keep K_25 (ninS (Ne.symm ne_va_12_ca2_12) nin0)
    have c241 := c198.keep K_25
    have c242 := c199.keep K_25 (ninS (Ne.symm ne_va_12_ca3_12) nin0)
    have c243 := Q_16_0.keep K_25 (ninS ne_b_5_va_12 nin0)
    have c244 := Q_16_1.keep K_25 (ninS ne_b_5_va_12 nin0)
    have c245 := Q_16_2.keep K_25 (ninS ne_b_5_va_12 nin0)
    have c246 := Q_16_3.keep K_25 (ninS ne_b_5_va_12 nin0)
    have c247 := Q_16_4.keep K_25 (ninS ne_b_5_va_12 nin0)
    have c248 := Q_16_5.keep K_25 (ninS ne_b_5_va_12 nin0)
    have c249 := Q_16_6.keep K_25 (ninS ne_b_5_va_12 nin0)
    have c250 := Q_16_7.keep K_25 (ninS ne_b_5_va_12 nin0)
    have c251 := Q_16_8.keep K_25 (ninS (Ne.symm ne_va_12_ro_12) nin0)
    have c252 := Q_16_9.keep K_25 (ninS (Ne.symm ne_va_12_ba_12) nin0)
    have c253 := Q_16_10.keep K_25 (ninS (Ne.symm ne_va_12_iv_16) nin0)
    have c254 := Q_16_11.keep K_25 (ninS (Ne.symm ne_va_12_y_16_0) nin0)
    have c255 := Q_16_12.keep K_25 (ninS (Ne.symm ne_va_12_y_16_1) nin0)
    have c256 := Q_16_13.keep K_25 (ninS (Ne.symm ne_va_12_y_16_2) nin0)
    have c257 := Fe_16.keep K_25 (ninS ne_al_12_va_12 nin0)
    have c258 := Fs_16.keep K_25 (ninS ne_al_12_va_12 nin0)
    have c259 := VE_16.keep K_25 (ninS (Ne.symm ne_va_12_ed_12) nin0)
    have Z0__25 : n0 ≤ T_25.heap.size := Nat.le_trans Z0__16 K_25.1
    refine og (fun t k => st_25.trans k) ?_
    refine og (B := T_25.setTop (mkF m 128 #[.val (.long q0), oS, iv p1, iv p2, iv p3, iv p4, iv p5, iv 1, iv (kb q0), iv (kc q0), oD (FP.i2d z_1), oS, oD (FP.i2d z_2), oS, oD (FP.i2d z_3), oS, oD (FP.i2d z_4), oS, rv b_5, oU, oU, oU, oU, oU, oU, oU, oU, oU, oU, oU, oU, oU, oU, oU, oU, oU] [(.ref b_5)])) (fun t k => ?_) ?_
    · refine XS.aload X_25.here hx rfl (hb hby at_126) rfl rfl ?_
      exact k
    obtain ⟨h9, hWq, hv9, ha0, ha1⟩ := nn_all (c := p1) (nn_cr (own_ml ez_1 ez_2) (fun _ _ => rfl) (fun _ _ => rfl) sa_16) (nn_cr (own_ml ez_3 ez_4) (fun _ _ => rfl) (fun _ _ => rfl) sb_16)
    have kk_26 := (c233).lt
    obtain ⟨cq_26, kq_26, q_26a, q_26b, q_26c⟩ := isOf hZ rfl c233
    obtain ⟨_, _, ⟨T_26, L_26, k_26, n_26⟩, -, X_26, ⟨Lc_26, hQ_26, l_26, y_26, z_26⟩, st_26⟩ := X_25.virtualBack hx (y := own_m22) (z := own_m22) hown (mvT hZ (ow hw 142 rfl)) (mvT hZ (ow hw 143 rfl)) (notFace_of_selects (args := #[]) (mvT hZ (ow hw 145 rfl))) (mvT hZ (ow hw 145 rfl)) (mvT hZ (ow hw 144 rfl)) (by decide) (backOf (W := 0) (rmslv l Z av0 hw [] b_5 al_12 va_12 ro_12 ba_12 ca0_12 ed_12 ca1_12 ca2_12 ca3_12 c4_16 iv_16 y_16_0 y_16_1 y_16_2 kd_12 ka_12 kr_12 kq_12 ki_16 kj_16 kc0_12 kc1_12 kc2_12 kc3_12 (FP.i2d z_1) (FP.dneg (FP.i2d z_2)) (FP.i2d z_3) (FP.dneg (FP.i2d z_4)) (FP.i2d p1) (FP.dmul (FP.dneg (FP.dneg (FP.i2d p2))) g0_16) g0_16 (FP.dmul (FP.dneg (FP.dneg (FP.i2d p3))) g1_16) g1_16 b1_16 b2_16 .null T_25.heap n0 Z0__25 c233 c243 c244 c245 c246 c247 c248 c249 c250 c234 c257 c258 c259 VA_25 c251 c252 c253 c254 c255 c256 c235 c236 c237 c238 c239 c240 c241 c242 g_b_5 lt_b_5_al_12 lt_al_12_va_12 lt_va_12_ro_12 lt_ro_12_ba_12 lt_ba_12_ca0_12 lt_ca0_12_ed_12 lt_ed_12_ca1_12 lt_ca1_12_ca2_12 lt_ca2_12_ca3_12 lt_ca3_12_c4_16 lt_c4_16_iv_16 lt_iv_16_y_16_0 lt_y_16_0_y_16_1 lt_y_16_1_y_16_2 (own_ob sa_16) (own_ob sb_16) h9 hWq) hZ (ow hw 146 rfl) (ow hw 9 rfl) (by decide) (by decide)) q_26a q_26c (g := (mkF m 128 #[.val (.long q0), oS, iv p1, iv p2, iv p3, iv p4, iv p5, iv 1, iv (kb q0), iv (kc q0), oD (FP.i2d z_1), oS, oD (FP.i2d z_2), oS, oD (FP.i2d z_3), oS, oD (FP.i2d z_4), oS, rv b_5, oU, oU, oU, oU, oU, oU, oU, oU, oU, oU, oU, oU, oU, oU, oU, oU, oU] [(.ref b_5)])) rfl (by rw [hml]; rfl) (Steps.refl _) (argsL := []) (rest := []) (lenOf pd_16 rfl) rfl (by show 2 * 0 + _ ≤ _; exact Nat.le_of_eq rfl) (hb hby at_128) (fun _ _ => ⟨rfl, rfl, (by decide : 19 + 1 ≤ _), (by decide : 94 + 3 ≤ _)⟩)
    dsimp only [Pt.U, Pt.locs, Pt.cells, Pt.slots] at X_26 l_26 y_26 z_26 st_26 hQ_26
    subst l_26 y_26 z_26
    obtain ⟨mu_26, km_26, hv_26, N_26q, K_26, szq_26, Qm_26, Qr_26, VM_26⟩ := hQ_26
    have N_26 := Fr.app N_25 N_26q
    have c260 := c232.trans K_26 (allS (Or.inr sz_b_5) all0)
    have Z0__26 : n0 ≤ T_26.heap.size := Nat.le_trans Z0__25 K_26.1
    obtain ⟨m_26_0, em_26_0⟩ : ∃ z, z = (own_d3 (FP.i2d p1) 4607182418800017408 (own_pk b1_16 (FP.i2d z_1) (FP.dneg (FP.i2d z_2))) (FP.dmul (FP.dneg (FP.dneg (FP.i2d p2))) g0_16) (own_pk b2_16 (FP.i2d z_3) (FP.dneg (FP.i2d z_4))) (FP.dmul (FP.dneg (FP.dneg (FP.i2d p3))) g1_16)) := ⟨_, rfl⟩
    obtain ⟨m_26_1, em_26_1⟩ : ∃ z, z = (own_d3 (FP.i2d p1) 0 (own_pk b1_16 (FP.i2d z_1) (FP.dneg (FP.i2d z_2))) g0_16 (own_pk b2_16 (FP.i2d z_3) (FP.dneg (FP.i2d z_4))) 0) := ⟨_, rfl⟩
    obtain ⟨m_26_2, em_26_2⟩ : ∃ z, z = (own_d3 (FP.i2d p1) 0 (own_pk b1_16 (FP.i2d z_1) (FP.dneg (FP.i2d z_2))) 0 (own_pk b2_16 (FP.i2d z_3) (FP.dneg (FP.i2d z_4))) g1_16) := ⟨_, rfl⟩
    rw [← em_26_0] at hv9 hv_26
    rw [← em_26_0, ← em_26_1, ← em_26_2] at VM_26
    rw [← em_26_1] at ha0
    rw [← em_26_2] at ha1
    subst hv_26
    have c233q := c233.keep K_26
    refine og (fun t k => st_26.trans k) ?_
    refine og (B := T_26.setTop (mkF m 135 #[.val (.long q0), oS, iv p1, iv p2, iv p3, iv p4, iv p5, iv 1, iv (kb q0), iv (kc q0), oD (FP.i2d z_1), oS, oD (FP.i2d z_2), oS, oD (FP.i2d z_3), oS, oD (FP.i2d z_4), oS, rv b_5, oD m_26_0, oS, oU, oU, oU, oU, oU, oU, oU, oU, oU, oU, oU, oU, oU, oU, oU] [(.ref b_5)])) (fun t k => ?_) ?_
    · refine XS.dstore X_26.here hx rfl (hb hby at_131) rfl (l' := #[.val (.long q0), oS, iv p1, iv p2, iv p3, iv p4, iv p5, iv 1, iv (kb q0), iv (kc q0), oD (FP.i2d z_1), oS, oD (FP.i2d z_2), oS, oD (FP.i2d z_3), oS, oD (FP.i2d z_4), oS, rv b_5, oD m_26_0, oS, oU, oU, oU, oU, oU, oU, oU, oU, oU, oU, oU, oU, oU, oU, oU]) rfl ?_
      refine XS.aload X_26.here hx rfl (hb hby at_133) rfl rfl ?_
      exact k
    obtain ⟨cq_27, kq_27, q_27a, q_27b, q_27c⟩ := isOf hZ rfl c233q
    obtain ⟨_, _, ⟨T_27, L_27, k_27, n_27⟩, -, X_27, ⟨Lc_27, hQ_27, l_27, y_27, z_27⟩, st_27⟩ := X_26.virtualBack hx (y := own_m25) (z := own_m25) hown (mvT hZ (ow hw 158 rfl)) (mvT hZ (ow hw 159 rfl)) (notFace_of_selects (args := #[]) (mvT hZ (ow hw 161 rfl))) (mvT hZ (ow hw 161 rfl)) (mvT hZ (ow hw 160 rfl)) (by decide) (backOf (W := 0) (rmpnt l Z av0 hw [] b_5 mu_26 km_26 m_26_0 m_26_1 m_26_2 T_26.heap n0 Z0__26 Qm_26 Qr_26 VM_26) hZ (ow hw 162 rfl) (ow hw 9 rfl) (by decide) (by decide)) q_27a q_27c (g := (mkF m 135 #[.val (.long q0), oS, iv p1, iv p2, iv p3, iv p4, iv p5, iv 1, iv (kb q0), iv (kc q0), oD (FP.i2d z_1), oS, oD (FP.i2d z_2), oS, oD (FP.i2d z_3), oS, oD (FP.i2d z_4), oS, rv b_5, oD m_26_0, oS, oU, oU, oU, oU, oU, oU, oU, oU, oU, oU, oU, oU, oU, oU, oU] [(.ref b_5)])) rfl (by rw [hml]; rfl) (Steps.refl _) (argsL := []) (rest := []) (lenOf pd_17 rfl) rfl (by show 2 * 0 + _ ≤ _; exact Nat.le_of_eq rfl) (hb hby at_135) (fun _ _ => ⟨rfl, rfl, (by decide : 20 + 1 ≤ _), (by decide : 97 + 2 ≤ _)⟩)
    dsimp only [Pt.U, Pt.locs, Pt.cells, Pt.slots] at X_27 l_27 y_27 z_27 st_27 hQ_27
    subst l_27 y_27 z_27
    obtain ⟨b_27, kb_27, rfl, N_27q, K_27, szq_27, VN_27⟩ := hQ_27
    have N_27 := Fr.app N_26 N_27q
    have c261 := c260.trans K_27 all0
    have Z0__27 : n0 ≤ T_27.heap.size := Nat.le_trans Z0__26 K_27.1
    refine og (fun t k => st_27.trans k) ?_
    refine og (B := T_27.setTop (mkF m 142 #[.val (.long q0), oS, iv p1, iv p2, iv p3, iv p4, iv p5, iv 1, iv (kb q0), iv (kc q0), oD (FP.i2d z_1), oS, oD (FP.i2d z_2), oS, oD (FP.i2d z_3), oS, oD (FP.i2d z_4), oS, rv b_5, oD m_26_0, oS, rv b_27, oU, oU, oU, oU, oU, oU, oU, oU, oU, oU, oU, oU, oU, oU] [(.int 1)])) (fun t k => ?_) ?_
    · refine XS.astore X_27.here hx rfl (hb hby at_138) rfl rfl (l' := #[.val (.long q0), oS, iv p1, iv p2, iv p3, iv p4, iv p5, iv 1, iv (kb q0), iv (kc q0), oD (FP.i2d z_1), oS, oD (FP.i2d z_2), oS, oD (FP.i2d z_3), oS, oD (FP.i2d z_4), oS, rv b_5, oD m_26_0, oS, rv b_27, oU, oU, oU, oU, oU, oU, oU, oU, oU, oU, oU, oU, oU, oU]) rfl ?_
      refine XS.iload X_27.here hx rfl (hb hby at_140) rfl ?_
      exact k
    refine og (B := T_27.setTop (mkF m 150 #[.val (.long q0), oS, iv p1, iv p2, iv p3, iv p4, iv p5, iv 1, iv (kb q0), iv (kc q0), oD (FP.i2d z_1), oS, oD (FP.i2d z_2), oS, oD (FP.i2d z_3), oS, oD (FP.i2d z_4), oS, rv b_5, oD m_26_0, oS, rv b_27, oU, oU, oU, oU, oU, oU, oU, oU, oU, oU, oU, oU, oU, oU] [])) (fun t k => ?_) ?_
    · refine XS.ifYes X_27.here hx rfl (pc0 := 142) (pc' := 150) rfl (hb hby at_142) rfl ((if0 _ _).trans (feq (by decide : ¬ ((1 : Int32) = (0 : Int32)))).2) (by decide) (by decide) ?_
      exact k
    refine og (B := T_27.setTop (mkF m 156 #[.val (.long q0), oS, iv p1, iv p2, iv p3, iv p4, iv p5, iv 1, iv (kb q0), iv (kc q0), oD (FP.i2d z_1), oS, oD (FP.i2d z_2), oS, oD (FP.i2d z_3), oS, oD (FP.i2d z_4), oS, rv b_5, oD m_26_0, oS, rv b_27, oD (FP.i2d z_1), oS, oU, oU, oU, oU, oU, oU, oU, oU, oU, oU, oU, oU] [(.int 1)])) (fun t k => ?_) ?_
    · refine XS.dload X_27.here hx rfl (hb hby at_150) rfl ?_
      refine XS.dstore X_27.here hx rfl (hb hby at_152) rfl (l' := #[.val (.long q0), oS, iv p1, iv p2, iv p3, iv p4, iv p5, iv 1, iv (kb q0), iv (kc q0), oD (FP.i2d z_1), oS, oD (FP.i2d z_2), oS, oD (FP.i2d z_3), oS, oD (FP.i2d z_4), oS, rv b_5, oD m_26_0, oS, rv b_27, oD (FP.i2d z_1), oS, oU, oU, oU, oU, oU, oU, oU, oU, oU, oU, oU, oU]) rfl ?_
      refine XS.iload X_27.here hx rfl (hb hby at_154) rfl ?_
      exact k
    refine og (B := T_27.setTop (mkF m 164 #[.val (.long q0), oS, iv p1, iv p2, iv p3, iv p4, iv p5, iv 1, iv (kb q0), iv (kc q0), oD (FP.i2d z_1), oS, oD (FP.i2d z_2), oS, oD (FP.i2d z_3), oS, oD (FP.i2d z_4), oS, rv b_5, oD m_26_0, oS, rv b_27, oD (FP.i2d z_1), oS, oU, oU, oU, oU, oU, oU, oU, oU, oU, oU, oU, oU] [])) (fun t k => ?_) ?_
    · refine XS.ifYes X_27.here hx rfl (pc0 := 156) (pc' := 164) rfl (hb hby at_156) rfl ((if0 _ _).trans (feq (by decide : ¬ ((1 : Int32) = (0 : Int32)))).2) (by decide) (by decide) ?_
      exact k
    refine og (B := T_27.setTop (mkF m 171 #[.val (.long q0), oS, iv p1, iv p2, iv p3, iv p4, iv p5, iv 1, iv (kb q0), iv (kc q0), oD (FP.i2d z_1), oS, oD (FP.i2d z_2), oS, oD (FP.i2d z_3), oS, oD (FP.i2d z_4), oS, rv b_5, oD m_26_0, oS, rv b_27, oD (FP.i2d z_1), oS, oD (FP.i2d z_2), oS, oU, oU, oU, oU, oU, oU, oU, oU, oU, oU] [(.int 1), (.int 1)])) (fun t k => ?_) ?_
    · refine XS.dload X_27.here hx rfl (hb hby at_164) rfl ?_
      refine XS.dstore X_27.here hx rfl (hb hby at_166) rfl (l' := #[.val (.long q0), oS, iv p1, iv p2, iv p3, iv p4, iv p5, iv 1, iv (kb q0), iv (kc q0), oD (FP.i2d z_1), oS, oD (FP.i2d z_2), oS, oD (FP.i2d z_3), oS, oD (FP.i2d z_4), oS, rv b_5, oD m_26_0, oS, rv b_27, oD (FP.i2d z_1), oS, oD (FP.i2d z_2), oS, oU, oU, oU, oU, oU, oU, oU, oU, oU, oU]) rfl ?_
      refine XS.iload X_27.here hx rfl (hb hby at_168) rfl ?_
      refine XS.iconst X_27.here hx rfl (hb hby at_170) ?_
      exact k
    refine og (B := T_27.setTop (mkF m 174 #[.val (.long q0), oS, iv p1, iv p2, iv p3, iv p4, iv p5, iv 1, iv (kb q0), iv (kc q0), oD (FP.i2d z_1), oS, oD (FP.i2d z_2), oS, oD (FP.i2d z_3), oS, oD (FP.i2d z_4), oS, rv b_5, oD m_26_0, oS, rv b_27, oD (FP.i2d z_1), oS, oD (FP.i2d z_2), oS, oU, oU, oU, oU, oU, oU, oU, oU, oU, oU] [])) (fun t k => ?_) ?_
    · refine XS.icmpNo X_27.here hx rfl (hb hby at_171) rfl (teq (by decide : (1 : Int32) = (1 : Int32))).2 ?_
      exact k
    refine og (B := T_27.setTop (mkF m 186 #[.val (.long q0), oS, iv p1, iv p2, iv p3, iv p4, iv p5, iv 1, iv (kb q0), iv (kc q0), oD (FP.i2d z_1), oS, oD (FP.i2d z_2), oS, oD (FP.i2d z_3), oS, oD (FP.i2d z_4), oS, rv b_5, oD m_26_0, oS, rv b_27, oD (FP.i2d z_1), oS, oD (FP.i2d z_2), oS, oD (FP.i2d z_3), oS, oU, oU, oU, oU, oU, oU, oU, oU] [(.int 1), (.int 1)])) (fun t k => ?_) ?_
    · refine XS.dload X_27.here hx rfl (hb hby at_174) rfl ?_
      refine XS.goto X_27.here hx rfl (pc0 := 176) (pc' := 181) rfl (hb hby at_176) (by decide) (by decide) ?_
      refine XS.dstore X_27.here hx rfl (hb hby at_181) rfl (l' := #[.val (.long q0), oS, iv p1, iv p2, iv p3, iv p4, iv p5, iv 1, iv (kb q0), iv (kc q0), oD (FP.i2d z_1), oS, oD (FP.i2d z_2), oS, oD (FP.i2d z_3), oS, oD (FP.i2d z_4), oS, rv b_5, oD m_26_0, oS, rv b_27, oD (FP.i2d z_1), oS, oD (FP.i2d z_2), oS, oD (FP.i2d z_3), oS, oU, oU, oU, oU, oU, oU, oU, oU]) rfl ?_
      refine XS.iload X_27.here hx rfl (hb hby at_183) rfl ?_
      refine XS.iconst X_27.here hx rfl (hb hby at_185) ?_
      exact k
    refine og (B := T_27.setTop (mkF m 189 #[.val (.long q0), oS, iv p1, iv p2, iv p3, iv p4, iv p5, iv 1, iv (kb q0), iv (kc q0), oD (FP.i2d z_1), oS, oD (FP.i2d z_2), oS, oD (FP.i2d z_3), oS, oD (FP.i2d z_4), oS, rv b_5, oD m_26_0, oS, rv b_27, oD (FP.i2d z_1), oS, oD (FP.i2d z_2), oS, oD (FP.i2d z_3), oS, oU, oU, oU, oU, oU, oU, oU, oU] [])) (fun t k => ?_) ?_
    · refine XS.icmpNo X_27.here hx rfl (hb hby at_186) rfl (teq (by decide : (1 : Int32) = (1 : Int32))).2 ?_
      exact k
    refine og (B := T_27.setTop (mkF m 199 #[.val (.long q0), oS, iv p1, iv p2, iv p3, iv p4, iv p5, iv 1, iv (kb q0), iv (kc q0), oD (FP.i2d z_1), oS, oD (FP.i2d z_2), oS, oD (FP.i2d z_3), oS, oD (FP.i2d z_4), oS, rv b_5, oD m_26_0, oS, rv b_27, oD (FP.i2d z_1), oS, oD (FP.i2d z_2), oS, oD (FP.i2d z_3), oS, oD (FP.i2d z_4), oS, oU, oU, oU, oU, oU, oU] [(.int p2)])) (fun t k => ?_) ?_
    · refine XS.dload X_27.here hx rfl (hb hby at_189) rfl ?_
      refine XS.goto X_27.here hx rfl (pc0 := 191) (pc' := 196) rfl (hb hby at_191) (by decide) (by decide) ?_
      refine XS.dstore X_27.here hx rfl (hb hby at_196) rfl (l' := #[.val (.long q0), oS, iv p1, iv p2, iv p3, iv p4, iv p5, iv 1, iv (kb q0), iv (kc q0), oD (FP.i2d z_1), oS, oD (FP.i2d z_2), oS, oD (FP.i2d z_3), oS, oD (FP.i2d z_4), oS, rv b_5, oD m_26_0, oS, rv b_27, oD (FP.i2d z_1), oS, oD (FP.i2d z_2), oS, oD (FP.i2d z_3), oS, oD (FP.i2d z_4), oS, oU, oU, oU, oU, oU, oU]) rfl ?_
      refine XS.iloadN X_27.here hx rfl (hb hby at_198) rfl ?_
      exact k
    obtain ⟨zv3, hzv3⟩ : ∃ zq : UInt64, zq = (if p2 < (0 : Int32) then (FP.i2d z_2) else (FP.i2d z_1)) := ⟨_, rfl⟩
    refine og (B := T_27.setTop (mkF m 209 #[.val (.long q0), oS, iv p1, iv p2, iv p3, iv p4, iv p5, iv 1, iv (kb q0), iv (kc q0), oD (FP.i2d z_1), oS, oD (FP.i2d z_2), oS, oD (FP.i2d z_3), oS, oD (FP.i2d z_4), oS, rv b_5, oD m_26_0, oS, rv b_27, oD (FP.i2d z_1), oS, oD (FP.i2d z_2), oS, oD (FP.i2d z_3), oS, oD (FP.i2d z_4), oS, oU, oU, oU, oU, oU, oU] [(.double zv3)])) (fun t k => ?_) ?_
    · show Steps p.tables e below (T_27.setTop (mkF m 199 #[.val (.long q0), oS, iv p1, iv p2, iv p3, iv p4, iv p5, iv 1, iv (kb q0), iv (kc q0), oD (FP.i2d z_1), oS, oD (FP.i2d z_2), oS, oD (FP.i2d z_3), oS, oD (FP.i2d z_4), oS, rv b_5, oD m_26_0, oS, rv b_27, oD (FP.i2d z_1), oS, oD (FP.i2d z_2), oS, oD (FP.i2d z_3), oS, oD (FP.i2d z_4), oS, oU, oU, oU, oU, oU, oU] [(.int p2)])) _
      by_cases hc199 : p2 < (0 : Int32)
      · refine XS.ifYes X_27.here hx rfl (pc0 := 199) (pc' := 207) rfl (hb hby at_199) rfl ((if0 _ _).trans (tlt hc199).1) (by decide) (by decide) ?_
        show Steps p.tables e below (T_27.setTop (mkF m 207 #[.val (.long q0), oS, iv p1, iv p2, iv p3, iv p4, iv p5, iv 1, iv (kb q0), iv (kc q0), oD (FP.i2d z_1), oS, oD (FP.i2d z_2), oS, oD (FP.i2d z_3), oS, oD (FP.i2d z_4), oS, rv b_5, oD m_26_0, oS, rv b_27, oD (FP.i2d z_1), oS, oD (FP.i2d z_2), oS, oD (FP.i2d z_3), oS, oD (FP.i2d z_4), oS, oU, oU, oU, oU, oU, oU] [])) _
        refine XS.dload X_27.here hx rfl (hb hby at_207) rfl ?_
        show Steps p.tables e below (T_27.setTop (mkF m 209 #[.val (.long q0), oS, iv p1, iv p2, iv p3, iv p4, iv p5, iv 1, iv (kb q0), iv (kc q0), oD (FP.i2d z_1), oS, oD (FP.i2d z_2), oS, oD (FP.i2d z_3), oS, oD (FP.i2d z_4), oS, rv b_5, oD m_26_0, oS, rv b_27, oD (FP.i2d z_1), oS, oD (FP.i2d z_2), oS, oD (FP.i2d z_3), oS, oD (FP.i2d z_4), oS, oU, oU, oU, oU, oU, oU] [(.double (FP.i2d z_2))])) _
        rw [show zv3 = (FP.i2d z_2) from by simp only [hzv3, if_pos hc199]] at k
        exact k
      · refine XS.ifNo X_27.here hx rfl (hb hby at_199) rfl ((if0 _ _).trans (flt hc199).1) ?_
        show Steps p.tables e below (T_27.setTop (mkF m 202 #[.val (.long q0), oS, iv p1, iv p2, iv p3, iv p4, iv p5, iv 1, iv (kb q0), iv (kc q0), oD (FP.i2d z_1), oS, oD (FP.i2d z_2), oS, oD (FP.i2d z_3), oS, oD (FP.i2d z_4), oS, rv b_5, oD m_26_0, oS, rv b_27, oD (FP.i2d z_1), oS, oD (FP.i2d z_2), oS, oD (FP.i2d z_3), oS, oD (FP.i2d z_4), oS, oU, oU, oU, oU, oU, oU] [])) _
        refine XS.dload X_27.here hx rfl (hb hby at_202) rfl ?_
        show Steps p.tables e below (T_27.setTop (mkF m 204 #[.val (.long q0), oS, iv p1, iv p2, iv p3, iv p4, iv p5, iv 1, iv (kb q0), iv (kc q0), oD (FP.i2d z_1), oS, oD (FP.i2d z_2), oS, oD (FP.i2d z_3), oS, oD (FP.i2d z_4), oS, rv b_5, oD m_26_0, oS, rv b_27, oD (FP.i2d z_1), oS, oD (FP.i2d z_2), oS, oD (FP.i2d z_3), oS, oD (FP.i2d z_4), oS, oU, oU, oU, oU, oU, oU] [(.double (FP.i2d z_1))])) _
        refine XS.goto X_27.here hx rfl (pc0 := 204) (pc' := 209) rfl (hb hby at_204) (by decide) (by decide) ?_
        show Steps p.tables e below (T_27.setTop (mkF m 209 #[.val (.long q0), oS, iv p1, iv p2, iv p3, iv p4, iv p5, iv 1, iv (kb q0), iv (kc q0), oD (FP.i2d z_1), oS, oD (FP.i2d z_2), oS, oD (FP.i2d z_3), oS, oD (FP.i2d z_4), oS, rv b_5, oD m_26_0, oS, rv b_27, oD (FP.i2d z_1), oS, oD (FP.i2d z_2), oS, oD (FP.i2d z_3), oS, oD (FP.i2d z_4), oS, oU, oU, oU, oU, oU, oU] [(.double (FP.i2d z_1))])) _
        rw [show zv3 = (FP.i2d z_1) from by simp only [hzv3, if_neg hc199]] at k
        exact k
    refine og (B := T_27.setTop (mkF m 213 #[.val (.long q0), oS, iv p1, iv p2, iv p3, iv p4, iv p5, iv 1, iv (kb q0), iv (kc q0), oD (FP.i2d z_1), oS, oD (FP.i2d z_2), oS, oD (FP.i2d z_3), oS, oD (FP.i2d z_4), oS, rv b_5, oD m_26_0, oS, rv b_27, oD (FP.i2d z_1), oS, oD (FP.i2d z_2), oS, oD (FP.i2d z_3), oS, oD (FP.i2d z_4), oS, oD zv3, oS, oU, oU, oU, oU] [(.int p3)])) (fun t k => ?_) ?_
    · refine XS.dstore X_27.here hx rfl (hb hby at_209) rfl (l' := #[.val (.long q0), oS, iv p1, iv p2, iv p3, iv p4, iv p5, iv 1, iv (kb q0), iv (kc q0), oD (FP.i2d z_1), oS, oD (FP.i2d z_2), oS, oD (FP.i2d z_3), oS, oD (FP.i2d z_4), oS, rv b_5, oD m_26_0, oS, rv b_27, oD (FP.i2d z_1), oS, oD (FP.i2d z_2), oS, oD (FP.i2d z_3), oS, oD (FP.i2d z_4), oS, oD zv3, oS, oU, oU, oU, oU]) rfl ?_
      refine XS.iload X_27.here hx rfl (hb hby at_211) rfl ?_
      exact k
    obtain ⟨zv4, hzv4⟩ : ∃ zq : UInt64, zq = (if p3 < (0 : Int32) then (FP.i2d z_4) else (FP.i2d z_3)) := ⟨_, rfl⟩
    refine og (B := T_27.setTop (mkF m 223 #[.val (.long q0), oS, iv p1, iv p2, iv p3, iv p4, iv p5, iv 1, iv (kb q0), iv (kc q0), oD (FP.i2d z_1), oS, oD (FP.i2d z_2), oS, oD (FP.i2d z_3), oS, oD (FP.i2d z_4), oS, rv b_5, oD m_26_0, oS, rv b_27, oD (FP.i2d z_1), oS, oD (FP.i2d z_2), oS, oD (FP.i2d z_3), oS, oD (FP.i2d z_4), oS, oD zv3, oS, oU, oU, oU, oU] [(.double zv4)])) (fun t k => ?_) ?_
    · show Steps p.tables e below (T_27.setTop (mkF m 213 #[.val (.long q0), oS, iv p1, iv p2, iv p3, iv p4, iv p5, iv 1, iv (kb q0), iv (kc q0), oD (FP.i2d z_1), oS, oD (FP.i2d z_2), oS, oD (FP.i2d z_3), oS, oD (FP.i2d z_4), oS, rv b_5, oD m_26_0, oS, rv b_27, oD (FP.i2d z_1), oS, oD (FP.i2d z_2), oS, oD (FP.i2d z_3), oS, oD (FP.i2d z_4), oS, oD zv3, oS, oU, oU, oU, oU] [(.int p3)])) _
      by_cases hc213 : p3 < (0 : Int32)
      · refine XS.ifYes X_27.here hx rfl (pc0 := 213) (pc' := 221) rfl (hb hby at_213) rfl ((if0 _ _).trans (tlt hc213).1) (by decide) (by decide) ?_
        show Steps p.tables e below (T_27.setTop (mkF m 221 #[.val (.long q0), oS, iv p1, iv p2, iv p3, iv p4, iv p5, iv 1, iv (kb q0), iv (kc q0), oD (FP.i2d z_1), oS, oD (FP.i2d z_2), oS, oD (FP.i2d z_3), oS, oD (FP.i2d z_4), oS, rv b_5, oD m_26_0, oS, rv b_27, oD (FP.i2d z_1), oS, oD (FP.i2d z_2), oS, oD (FP.i2d z_3), oS, oD (FP.i2d z_4), oS, oD zv3, oS, oU, oU, oU, oU] [])) _
        refine XS.dload X_27.here hx rfl (hb hby at_221) rfl ?_
        show Steps p.tables e below (T_27.setTop (mkF m 223 #[.val (.long q0), oS, iv p1, iv p2, iv p3, iv p4, iv p5, iv 1, iv (kb q0), iv (kc q0), oD (FP.i2d z_1), oS, oD (FP.i2d z_2), oS, oD (FP.i2d z_3), oS, oD (FP.i2d z_4), oS, rv b_5, oD m_26_0, oS, rv b_27, oD (FP.i2d z_1), oS, oD (FP.i2d z_2), oS, oD (FP.i2d z_3), oS, oD (FP.i2d z_4), oS, oD zv3, oS, oU, oU, oU, oU] [(.double (FP.i2d z_4))])) _
        rw [show zv4 = (FP.i2d z_4) from by simp only [hzv4, if_pos hc213]] at k
        exact k
      · refine XS.ifNo X_27.here hx rfl (hb hby at_213) rfl ((if0 _ _).trans (flt hc213).1) ?_
        show Steps p.tables e below (T_27.setTop (mkF m 216 #[.val (.long q0), oS, iv p1, iv p2, iv p3, iv p4, iv p5, iv 1, iv (kb q0), iv (kc q0), oD (FP.i2d z_1), oS, oD (FP.i2d z_2), oS, oD (FP.i2d z_3), oS, oD (FP.i2d z_4), oS, rv b_5, oD m_26_0, oS, rv b_27, oD (FP.i2d z_1), oS, oD (FP.i2d z_2), oS, oD (FP.i2d z_3), oS, oD (FP.i2d z_4), oS, oD zv3, oS, oU, oU, oU, oU] [])) _
        refine XS.dload X_27.here hx rfl (hb hby at_216) rfl ?_
        show Steps p.tables e below (T_27.setTop (mkF m 218 #[.val (.long q0), oS, iv p1, iv p2, iv p3, iv p4, iv p5, iv 1, iv (kb q0), iv (kc q0), oD (FP.i2d z_1), oS, oD (FP.i2d z_2), oS, oD (FP.i2d z_3), oS, oD (FP.i2d z_4), oS, rv b_5, oD m_26_0, oS, rv b_27, oD (FP.i2d z_1), oS, oD (FP.i2d z_2), oS, oD (FP.i2d z_3), oS, oD (FP.i2d z_4), oS, oD zv3, oS, oU, oU, oU, oU] [(.double (FP.i2d z_3))])) _
        refine XS.goto X_27.here hx rfl (pc0 := 218) (pc' := 223) rfl (hb hby at_218) (by decide) (by decide) ?_
        show Steps p.tables e below (T_27.setTop (mkF m 223 #[.val (.long q0), oS, iv p1, iv p2, iv p3, iv p4, iv p5, iv 1, iv (kb q0), iv (kc q0), oD (FP.i2d z_1), oS, oD (FP.i2d z_2), oS, oD (FP.i2d z_3), oS, oD (FP.i2d z_4), oS, rv b_5, oD m_26_0, oS, rv b_27, oD (FP.i2d z_1), oS, oD (FP.i2d z_2), oS, oD (FP.i2d z_3), oS, oD (FP.i2d z_4), oS, oD zv3, oS, oU, oU, oU, oU] [(.double (FP.i2d z_3))])) _
        rw [show zv4 = (FP.i2d z_3) from by simp only [hzv4, if_neg hc213]] at k
        exact k
    refine og (B := T_27.setTop (mkF m 244 #[.val (.long q0), oS, iv p1, iv p2, iv p3, iv p4, iv p5, iv 1, iv (kb q0), iv (kc q0), oD (FP.i2d z_1), oS, oD (FP.i2d z_2), oS, oD (FP.i2d z_3), oS, oD (FP.i2d z_4), oS, rv b_5, oD m_26_0, oS, rv b_27, oD (FP.i2d z_1), oS, oD (FP.i2d z_2), oS, oD (FP.i2d z_3), oS, oD (FP.i2d z_4), oS, oD zv3, oS, oD zv4, oS, oD (FP.dadd (FP.dadd (FP.i2d p1) (FP.dmul zv3 (FP.i2d p2))) (FP.dmul zv4 (FP.i2d p3))), oS] [(.ref b_27)])) (fun t k => ?_) ?_
    · refine XS.dstore X_27.here hx rfl (hb hby at_223) rfl (l' := #[.val (.long q0), oS, iv p1, iv p2, iv p3, iv p4, iv p5, iv 1, iv (kb q0), iv (kc q0), oD (FP.i2d z_1), oS, oD (FP.i2d z_2), oS, oD (FP.i2d z_3), oS, oD (FP.i2d z_4), oS, rv b_5, oD m_26_0, oS, rv b_27, oD (FP.i2d z_1), oS, oD (FP.i2d z_2), oS, oD (FP.i2d z_3), oS, oD (FP.i2d z_4), oS, oD zv3, oS, oD zv4, oS, oU, oU]) rfl ?_
      refine XS.iloadN X_27.here hx rfl (hb hby at_225) rfl ?_
      refine XS.i2dS X_27.here hx rfl (hb hby at_226) rfl rfl ?_
      refine XS.dload X_27.here hx rfl (hb hby at_227) rfl ?_
      refine XS.iloadN X_27.here hx rfl (hb hby at_229) rfl ?_
      refine XS.i2dS X_27.here hx rfl (hb hby at_230) rfl rfl ?_
      refine XS.dmulS X_27.here hx rfl (hb hby at_231) rfl (nn_q1 hzv3) rfl ?_
      refine XS.daddS X_27.here hx rfl (hb hby at_232) rfl (nn_q2 hzv3) rfl ?_
      refine XS.dload X_27.here hx rfl (hb hby at_233) rfl ?_
      refine XS.iload X_27.here hx rfl (hb hby at_235) rfl ?_
      refine XS.i2dS X_27.here hx rfl (hb hby at_237) rfl rfl ?_
      refine XS.dmulS X_27.here hx rfl (hb hby at_238) rfl (nn_q1 hzv4) rfl ?_
      refine XS.daddS X_27.here hx rfl (hb hby at_239) rfl (nn_q3 hzv3 hzv4) rfl ?_
      refine XS.dstore X_27.here hx rfl (hb hby at_240) rfl (l' := #[.val (.long q0), oS, iv p1, iv p2, iv p3, iv p4, iv p5, iv 1, iv (kb q0), iv (kc q0), oD (FP.i2d z_1), oS, oD (FP.i2d z_2), oS, oD (FP.i2d z_3), oS, oD (FP.i2d z_4), oS, rv b_5, oD m_26_0, oS, rv b_27, oD (FP.i2d z_1), oS, oD (FP.i2d z_2), oS, oD (FP.i2d z_3), oS, oD (FP.i2d z_4), oS, oD zv3, oS, oD zv4, oS, oD (FP.dadd (FP.dadd (FP.i2d p1) (FP.dmul zv3 (FP.i2d p2))) (FP.dmul zv4 (FP.i2d p3))), oS]) rfl ?_
      refine XS.aload X_27.here hx rfl (hb hby at_242) rfl rfl ?_
      exact k
    have hq : (cmpValue (FP.dcmp m_26_0 (FP.dadd (FP.dadd (FP.i2d p1) (FP.dmul zv3 (FP.i2d p2))) (FP.dmul zv4 (FP.i2d p3)))) .l) = (0 : Int32) := by rw [hzv3, hzv4]; exact hv9
    have hk0 : ¬ ((own_aw m_26_1 p2 (FP.i2d z_1) (FP.i2d z_2)) = (0 : Int32)) := by rw [ha0]; decide
    have hk1 : ¬ ((own_aw m_26_2 p3 (FP.i2d z_3) (FP.i2d z_4)) = (0 : Int32)) := by rw [ha1]; decide
    obtain ⟨cl_28, Ar_28, -, S_28, M_28, -, -⟩ := id VN_27
    refine og (B := T_27.setTop (mkF m 245 #[.val (.long q0), oS, iv p1, iv p2, iv p3, iv p4, iv p5, iv 1, iv (kb q0), iv (kc q0), oD (FP.i2d z_1), oS, oD (FP.i2d z_2), oS, oD (FP.i2d z_3), oS, oD (FP.i2d z_4), oS, rv b_5, oD m_26_0, oS, rv b_27, oD (FP.i2d z_1), oS, oD (FP.i2d z_2), oS, oD (FP.i2d z_3), oS, oD (FP.i2d z_4), oS, oD zv3, oS, oD zv4, oS, oD (FP.dadd (FP.dadd (FP.i2d p1) (FP.dmul zv3 (FP.i2d p2))) (FP.dmul zv4 (FP.i2d p3))), oS] [(.int 2)])) (fun t k => X_27.arraylength hx Ar_28.1 (State.isArrayOf_alike hZ.alike Ar_28.2.1) (g := (mkF m 244 #[.val (.long q0), oS, iv p1, iv p2, iv p3, iv p4, iv p5, iv 1, iv (kb q0), iv (kc q0), oD (FP.i2d z_1), oS, oD (FP.i2d z_2), oS, oD (FP.i2d z_3), oS, oD (FP.i2d z_4), oS, rv b_5, oD m_26_0, oS, rv b_27, oD (FP.i2d z_1), oS, oD (FP.i2d z_2), oS, oD (FP.i2d z_3), oS, oD (FP.i2d z_4), oS, oD zv3, oS, oD zv4, oS, oD (FP.dadd (FP.dadd (FP.i2d p1) (FP.dmul zv3 (FP.i2d p2))) (FP.dmul zv4 (FP.i2d p3))), oS] [(.ref b_27)])) rfl rfl (hb hby at_244) t (by rw [len_of S_28 M_28]; exact k)) ?_
    refine og (B := T_27.setTop (mkF m 246 #[.val (.long q0), oS, iv p1, iv p2, iv p3, iv p4, iv p5, iv 1, iv (kb q0), iv (kc q0), oD (FP.i2d z_1), oS, oD (FP.i2d z_2), oS, oD (FP.i2d z_3), oS, oD (FP.i2d z_4), oS, rv b_5, oD m_26_0, oS, rv b_27, oD (FP.i2d z_1), oS, oD (FP.i2d z_2), oS, oD (FP.i2d z_3), oS, oD (FP.i2d z_4), oS, oD zv3, oS, oD zv4, oS, oD (FP.dadd (FP.dadd (FP.i2d p1) (FP.dmul zv3 (FP.i2d p2))) (FP.dmul zv4 (FP.i2d p3))), oS] [(.int 2), (.int 2)])) (fun t k => ?_) ?_
    · refine XS.iconst X_27.here hx rfl (hb hby at_245) ?_
      exact k
    refine og (B := T_27.setTop (mkF m 251 #[.val (.long q0), oS, iv p1, iv p2, iv p3, iv p4, iv p5, iv 1, iv (kb q0), iv (kc q0), oD (FP.i2d z_1), oS, oD (FP.i2d z_2), oS, oD (FP.i2d z_3), oS, oD (FP.i2d z_4), oS, rv b_5, oD m_26_0, oS, rv b_27, oD (FP.i2d z_1), oS, oD (FP.i2d z_2), oS, oD (FP.i2d z_3), oS, oD (FP.i2d z_4), oS, oD zv3, oS, oD zv4, oS, oD (FP.dadd (FP.dadd (FP.i2d p1) (FP.dmul zv3 (FP.i2d p2))) (FP.dmul zv4 (FP.i2d p3))), oS] [])) (fun t k => ?_) ?_
    · refine XS.icmpYes X_27.here hx rfl (pc0 := 246) (pc' := 251) rfl (hb hby at_246) rfl (teq (by decide : (2 : Int32) = (2 : Int32))).1 (by decide) (by decide) ?_
      exact k
    refine og (B := T_27.setTop (mkF m 256 #[.val (.long q0), oS, iv p1, iv p2, iv p3, iv p4, iv p5, iv 1, iv (kb q0), iv (kc q0), oD (FP.i2d z_1), oS, oD (FP.i2d z_2), oS, oD (FP.i2d z_3), oS, oD (FP.i2d z_4), oS, rv b_5, oD m_26_0, oS, rv b_27, oD (FP.i2d z_1), oS, oD (FP.i2d z_2), oS, oD (FP.i2d z_3), oS, oD (FP.i2d z_4), oS, oD zv3, oS, oD zv4, oS, oD (FP.dadd (FP.dadd (FP.i2d p1) (FP.dmul zv3 (FP.i2d p2))) (FP.dmul zv4 (FP.i2d p3))), oS] [(.int (cmpValue (FP.dcmp m_26_0 (FP.dadd (FP.dadd (FP.i2d p1) (FP.dmul zv3 (FP.i2d p2))) (FP.dmul zv4 (FP.i2d p3)))) .l))])) (fun t k => ?_) ?_
    · refine XS.dload X_27.here hx rfl (hb hby at_251) rfl ?_
      refine XS.dload X_27.here hx rfl (hb hby at_253) rfl ?_
      refine XS.dcmpS X_27.here hx rfl (hb hby at_255) rfl rfl ?_
      exact k
    refine og (B := T_27.setTop (mkF m 259 #[.val (.long q0), oS, iv p1, iv p2, iv p3, iv p4, iv p5, iv 1, iv (kb q0), iv (kc q0), oD (FP.i2d z_1), oS, oD (FP.i2d z_2), oS, oD (FP.i2d z_3), oS, oD (FP.i2d z_4), oS, rv b_5, oD m_26_0, oS, rv b_27, oD (FP.i2d z_1), oS, oD (FP.i2d z_2), oS, oD (FP.i2d z_3), oS, oD (FP.i2d z_4), oS, oD zv3, oS, oD zv4, oS, oD (FP.dadd (FP.dadd (FP.i2d p1) (FP.dmul zv3 (FP.i2d p2))) (FP.dmul zv4 (FP.i2d p3))), oS] [])) (fun t k => ?_) ?_
    · refine XS.ifNo X_27.here hx rfl (hb hby at_256) rfl ((if0 _ _).trans (teq hq).2) ?_
      exact k
    refine og (B := T_27.setTop (mkF m 262 #[.val (.long q0), oS, iv p1, iv p2, iv p3, iv p4, iv p5, iv 1, iv (kb q0), iv (kc q0), oD (FP.i2d z_1), oS, oD (FP.i2d z_2), oS, oD (FP.i2d z_3), oS, oD (FP.i2d z_4), oS, rv b_5, oD m_26_0, oS, rv b_27, oD (FP.i2d z_1), oS, oD (FP.i2d z_2), oS, oD (FP.i2d z_3), oS, oD (FP.i2d z_4), oS, oD zv3, oS, oD zv4, oS, oD (FP.dadd (FP.dadd (FP.i2d p1) (FP.dmul zv3 (FP.i2d p2))) (FP.dmul zv4 (FP.i2d p3))), oS] [(.int 0), (.ref b_27)])) (fun t k => ?_) ?_
    · refine XS.aload X_27.here hx rfl (hb hby at_259) rfl rfl ?_
      refine XS.iconst X_27.here hx rfl (hb hby at_261) ?_
      exact k
    obtain ⟨cl_29, Ar_29, q_29, S_29, M_29, H_29, G_29⟩ := id VN_27
    have hin_29 : ¬ ((0 : Int32) < 0 ∨ cl_29.slots.size ≤ ((0 : Int32)).toNatClampNeg) := inb_of S_29 ⟨by decide, by decide⟩
    have hat_29 : cl_29.slots[((0 : Int32)).toNatClampNeg]? = some (.double m_26_1) := H_29.at hin_29 rfl
    refine og (fun t k => X_27.daload hx (j := (0 : Int32)) (v := (.double m_26_1)) Ar_29.1 (State.isArrayOf_alike hZ.alike Ar_29.2.1) Ar_29.2.2 hin_29 hat_29 (g := (mkF m 262 #[.val (.long q0), oS, iv p1, iv p2, iv p3, iv p4, iv p5, iv 1, iv (kb q0), iv (kc q0), oD (FP.i2d z_1), oS, oD (FP.i2d z_2), oS, oD (FP.i2d z_3), oS, oD (FP.i2d z_4), oS, rv b_5, oD m_26_0, oS, rv b_27, oD (FP.i2d z_1), oS, oD (FP.i2d z_2), oS, oD (FP.i2d z_3), oS, oD (FP.i2d z_4), oS, oD zv3, oS, oD zv4, oS, oD (FP.dadd (FP.dadd (FP.i2d p1) (FP.dmul zv3 (FP.i2d p2))) (FP.dmul zv4 (FP.i2d p3))), oS] [(.int 0), (.ref b_27)])) rfl rfl (hb hby at_262) t k) ?_
    refine og (B := T_27.setTop (mkF m 268 #[.val (.long q0), oS, iv p1, iv p2, iv p3, iv p4, iv p5, iv 1, iv (kb q0), iv (kc q0), oD (FP.i2d z_1), oS, oD (FP.i2d z_2), oS, oD (FP.i2d z_3), oS, oD (FP.i2d z_4), oS, rv b_5, oD m_26_0, oS, rv b_27, oD (FP.i2d z_1), oS, oD (FP.i2d z_2), oS, oD (FP.i2d z_3), oS, oD (FP.i2d z_4), oS, oD zv3, oS, oD zv4, oS, oD (FP.dadd (FP.dadd (FP.i2d p1) (FP.dmul zv3 (FP.i2d p2))) (FP.dmul zv4 (FP.i2d p3))), oS] [(.double (FP.i2d z_2)), (.double (FP.i2d z_1)), (.int p2), (.double m_26_1)])) (fun t k => ?_) ?_
    · refine XS.iloadN X_27.here hx rfl (hb hby at_263) rfl ?_
      refine XS.dload X_27.here hx rfl (hb hby at_264) rfl ?_
      refine XS.dload X_27.here hx rfl (hb hby at_266) rfl ?_
      exact k
    obtain ⟨_, _, ⟨T_30, L_30, k_30, n_30⟩, -, X_30, ⟨Lc_30, hQ_30, l_30, y_30, z_30⟩, st_30⟩ := Jvm.LawKit.callS X_27 hx (y := own_m29) hown (mvT hZ (ow hw 178 rfl)) (mvT hZ (ow hw 179 rfl)) (mvT hZ (ow hw 180 rfl)) (mvT hZ (ow hw 181 rfl)) (by decide) (backOf (W := 0) (rmaw l Z av0 hw [] m_26_1 p2 (FP.i2d z_1) (FP.i2d z_2)  T_27.heap n0 Z0__27 ) hZ (ow hw 181 rfl) (ow hw 180 rfl) (by decide) (by decide)) (g := (mkF m 268 #[.val (.long q0), oS, iv p1, iv p2, iv p3, iv p4, iv p5, iv 1, iv (kb q0), iv (kc q0), oD (FP.i2d z_1), oS, oD (FP.i2d z_2), oS, oD (FP.i2d z_3), oS, oD (FP.i2d z_4), oS, rv b_5, oD m_26_0, oS, rv b_27, oD (FP.i2d z_1), oS, oD (FP.i2d z_2), oS, oD (FP.i2d z_3), oS, oD (FP.i2d z_4), oS, oD zv3, oS, oD zv4, oS, oD (FP.dadd (FP.dadd (FP.i2d p1) (FP.dmul zv3 (FP.i2d p2))) (FP.dmul zv4 (FP.i2d p3))), oS] [(.double (FP.i2d z_2)), (.double (FP.i2d z_1)), (.int p2), (.double m_26_1)])) rfl (by rw [hml]; rfl) (argsL := [(.double m_26_1), (.int p2), (.double (FP.i2d z_1)), (.double (FP.i2d z_2))]) (rest := []) (lenOf pd_18 rfl) rfl (by show 2 * 0 + _ ≤ _; exact Nat.le_of_eq rfl) (hb hby at_268) (fun _ _ => ⟨rfl, rfl, (by decide : 21 + 0 ≤ _), (by decide : 99 + 0 ≤ _)⟩)
    dsimp only [Pt.U, Pt.locs, Pt.cells, Pt.slots] at X_30 l_30 y_30 z_30 st_30 hQ_30
    subst l_30 y_30 z_30
    obtain ⟨rfl, N_30q, e_30⟩ := hQ_30
    have N_30 := Fr.app N_27 N_30q
    refine og (fun t k => st_30 t k) ?_
    refine og (B := T_30.setTop (mkF m 274 #[.val (.long q0), oS, iv p1, iv p2, iv p3, iv p4, iv p5, iv 1, iv (kb q0), iv (kc q0), oD (FP.i2d z_1), oS, oD (FP.i2d z_2), oS, oD (FP.i2d z_3), oS, oD (FP.i2d z_4), oS, rv b_5, oD m_26_0, oS, rv b_27, oD (FP.i2d z_1), oS, oD (FP.i2d z_2), oS, oD (FP.i2d z_3), oS, oD (FP.i2d z_4), oS, oD zv3, oS, oD zv4, oS, oD (FP.dadd (FP.dadd (FP.i2d p1) (FP.dmul zv3 (FP.i2d p2))) (FP.dmul zv4 (FP.i2d p3))), oS] [])) (fun t k => ?_) ?_
    · refine XS.ifNo X_30.here hx rfl (hb hby at_271) rfl ((if0 _ _).trans (feq hk0).1) ?_
      exact k
    refine og (B := T_30.setTop (mkF m 277 #[.val (.long q0), oS, iv p1, iv p2, iv p3, iv p4, iv p5, iv 1, iv (kb q0), iv (kc q0), oD (FP.i2d z_1), oS, oD (FP.i2d z_2), oS, oD (FP.i2d z_3), oS, oD (FP.i2d z_4), oS, rv b_5, oD m_26_0, oS, rv b_27, oD (FP.i2d z_1), oS, oD (FP.i2d z_2), oS, oD (FP.i2d z_3), oS, oD (FP.i2d z_4), oS, oD zv3, oS, oD zv4, oS, oD (FP.dadd (FP.dadd (FP.i2d p1) (FP.dmul zv3 (FP.i2d p2))) (FP.dmul zv4 (FP.i2d p3))), oS] [(.int 1), (.ref b_27)])) (fun t k => ?_) ?_
    · refine XS.aload X_30.here hx rfl (hb hby at_274) rfl rfl ?_
      refine XS.iconst X_30.here hx rfl (hb hby at_276) ?_
      exact k
    obtain ⟨cl_31, Ar_31, q_31, S_31, M_31, H_31, G_31⟩ := id VN_27
    have hin_31 : ¬ ((1 : Int32) < 0 ∨ cl_31.slots.size ≤ ((1 : Int32)).toNatClampNeg) := inb_of S_31 ⟨by decide, by decide⟩
    have hat_31 : cl_31.slots[((1 : Int32)).toNatClampNeg]? = some (.double m_26_2) := H_31.at hin_31 rfl
    refine og (B := T_30.setTop (mkF m 278 #[.val (.long q0), oS, iv p1, iv p2, iv p3, iv p4, iv p5, iv 1, iv (kb q0), iv (kc q0), oD (FP.i2d z_1), oS, oD (FP.i2d z_2), oS, oD (FP.i2d z_3), oS, oD (FP.i2d z_4), oS, rv b_5, oD m_26_0, oS, rv b_27, oD (FP.i2d z_1), oS, oD (FP.i2d z_2), oS, oD (FP.i2d z_3), oS, oD (FP.i2d z_4), oS, oD zv3, oS, oD zv4, oS, oD (FP.dadd (FP.dadd (FP.i2d p1) (FP.dmul zv3 (FP.i2d p2))) (FP.dmul zv4 (FP.i2d p3))), oS] [(.double m_26_2)])) (fun t k => X_30.daload hx (j := (1 : Int32)) (v := (.double m_26_2)) (by rw [(e_30 : _ = _)]; exact Ar_31.1) (State.isArrayOf_alike hZ.alike Ar_31.2.1) Ar_31.2.2 hin_31 hat_31 (g := (mkF m 277 #[.val (.long q0), oS, iv p1, iv p2, iv p3, iv p4, iv p5, iv 1, iv (kb q0), iv (kc q0), oD (FP.i2d z_1), oS, oD (FP.i2d z_2), oS, oD (FP.i2d z_3), oS, oD (FP.i2d z_4), oS, rv b_5, oD m_26_0, oS, rv b_27, oD (FP.i2d z_1), oS, oD (FP.i2d z_2), oS, oD (FP.i2d z_3), oS, oD (FP.i2d z_4), oS, oD zv3, oS, oD zv4, oS, oD (FP.dadd (FP.dadd (FP.i2d p1) (FP.dmul zv3 (FP.i2d p2))) (FP.dmul zv4 (FP.i2d p3))), oS] [(.int 1), (.ref b_27)])) rfl rfl (hb hby at_277) t k) ?_
    refine og (B := T_30.setTop (mkF m 284 #[.val (.long q0), oS, iv p1, iv p2, iv p3, iv p4, iv p5, iv 1, iv (kb q0), iv (kc q0), oD (FP.i2d z_1), oS, oD (FP.i2d z_2), oS, oD (FP.i2d z_3), oS, oD (FP.i2d z_4), oS, rv b_5, oD m_26_0, oS, rv b_27, oD (FP.i2d z_1), oS, oD (FP.i2d z_2), oS, oD (FP.i2d z_3), oS, oD (FP.i2d z_4), oS, oD zv3, oS, oD zv4, oS, oD (FP.dadd (FP.dadd (FP.i2d p1) (FP.dmul zv3 (FP.i2d p2))) (FP.dmul zv4 (FP.i2d p3))), oS] [(.double (FP.i2d z_4)), (.double (FP.i2d z_3)), (.int p3), (.double m_26_2)])) (fun t k => ?_) ?_
    · refine XS.iload X_30.here hx rfl (hb hby at_278) rfl ?_
      refine XS.dload X_30.here hx rfl (hb hby at_280) rfl ?_
      refine XS.dload X_30.here hx rfl (hb hby at_282) rfl ?_
      exact k
    obtain ⟨_, _, ⟨T_32, L_32, k_32, n_32⟩, -, X_32, ⟨Lc_32, hQ_32, l_32, y_32, z_32⟩, st_32⟩ := Jvm.LawKit.callS X_30 hx (y := own_m29) hown (mvT hZ (ow hw 178 rfl)) (mvT hZ (ow hw 179 rfl)) (mvT hZ (ow hw 180 rfl)) (mvT hZ (ow hw 181 rfl)) (by decide) (backOf (W := 0) (rmaw l Z av0 hw [] m_26_2 p3 (FP.i2d z_3) (FP.i2d z_4)  T_27.heap n0 Z0__27 ) hZ (ow hw 181 rfl) (ow hw 180 rfl) (by decide) (by decide)) (g := (mkF m 284 #[.val (.long q0), oS, iv p1, iv p2, iv p3, iv p4, iv p5, iv 1, iv (kb q0), iv (kc q0), oD (FP.i2d z_1), oS, oD (FP.i2d z_2), oS, oD (FP.i2d z_3), oS, oD (FP.i2d z_4), oS, rv b_5, oD m_26_0, oS, rv b_27, oD (FP.i2d z_1), oS, oD (FP.i2d z_2), oS, oD (FP.i2d z_3), oS, oD (FP.i2d z_4), oS, oD zv3, oS, oD zv4, oS, oD (FP.dadd (FP.dadd (FP.i2d p1) (FP.dmul zv3 (FP.i2d p2))) (FP.dmul zv4 (FP.i2d p3))), oS] [(.double (FP.i2d z_4)), (.double (FP.i2d z_3)), (.int p3), (.double m_26_2)])) rfl (by rw [hml]; rfl) (argsL := [(.double m_26_2), (.int p3), (.double (FP.i2d z_3)), (.double (FP.i2d z_4))]) (rest := []) (lenOf pd_18 rfl) rfl (by show 2 * 0 + _ ≤ _; exact Nat.le_of_eq rfl) (hb hby at_284) (fun _ _ => ⟨rfl, e_30, (by decide : 21 + 0 ≤ _), (by decide : 99 + 0 ≤ _)⟩)
    dsimp only [Pt.U, Pt.locs, Pt.cells, Pt.slots] at X_32 l_32 y_32 z_32 st_32 hQ_32
    subst l_32 y_32 z_32
    obtain ⟨rfl, N_32q, e_32⟩ := hQ_32
    have N_32 := Fr.app N_30 N_32q
    refine og (fun t k => st_32 t k) ?_
    refine og (B := T_32.setTop (mkF m 290 #[.val (.long q0), oS, iv p1, iv p2, iv p3, iv p4, iv p5, iv 1, iv (kb q0), iv (kc q0), oD (FP.i2d z_1), oS, oD (FP.i2d z_2), oS, oD (FP.i2d z_3), oS, oD (FP.i2d z_4), oS, rv b_5, oD m_26_0, oS, rv b_27, oD (FP.i2d z_1), oS, oD (FP.i2d z_2), oS, oD (FP.i2d z_3), oS, oD (FP.i2d z_4), oS, oD zv3, oS, oD zv4, oS, oD (FP.dadd (FP.dadd (FP.i2d p1) (FP.dmul zv3 (FP.i2d p2))) (FP.dmul zv4 (FP.i2d p3))), oS] [])) (fun t k => ?_) ?_
    · refine XS.ifNo X_32.here hx rfl (hb hby at_287) rfl ((if0 _ _).trans (feq hk1).1) ?_
      exact k
    refine og (B := T_32.setTop (mkF m 295 #[.val (.long q0), oS, iv p1, iv p2, iv p3, iv p4, iv p5, iv 1, iv (kb q0), iv (kc q0), oD (FP.i2d z_1), oS, oD (FP.i2d z_2), oS, oD (FP.i2d z_3), oS, oD (FP.i2d z_4), oS, rv b_5, oD m_26_0, oS, rv b_27, oD (FP.i2d z_1), oS, oD (FP.i2d z_2), oS, oD (FP.i2d z_3), oS, oD (FP.i2d z_4), oS, oD zv3, oS, oD zv4, oS, oD (FP.dadd (FP.dadd (FP.i2d p1) (FP.dmul zv3 (FP.i2d p2))) (FP.dmul zv4 (FP.i2d p3))), oS] [(.int 1)])) (fun t k => ?_) ?_
    · refine XS.iconst X_32.here hx rfl (hb hby at_290) ?_
      refine XS.goto X_32.here hx rfl (pc0 := 291) (pc' := 295) rfl (hb hby at_291) (by decide) (by decide) ?_
      exact k
    obtain ⟨fs, hr, hrun, hended, hW, hsame⟩ := X_32.leave (v := some (.int 1)) (fun h => by rw [Bd.returns] at h; cases h)
    refine ⟨_, _, ?_, hrun, hended, _, _, rfl, ?_, ⟨_, rfl⟩, hW, hsame.mono (by decide) (by decide)⟩
    · show Steps p.tables e below (T_32.setTop (mkF m 295 #[.val (.long q0), oS, iv p1, iv p2, iv p3, iv p4, iv p5, iv 1, iv (kb q0), iv (kc q0), oD (FP.i2d z_1), oS, oD (FP.i2d z_2), oS, oD (FP.i2d z_3), oS, oD (FP.i2d z_4), oS, rv b_5, oD m_26_0, oS, rv b_27, oD (FP.i2d z_1), oS, oD (FP.i2d z_2), oS, oD (FP.i2d z_3), oS, oD (FP.i2d z_4), oS, oD zv3, oS, oD zv4, oS, oD (FP.dadd (FP.dadd (FP.i2d p1) (FP.dmul zv3 (FP.i2d p2))) (FP.dmul zv4 (FP.i2d p3))), oS] [(.int 1)])) _
      exact retN X_32 hx (t := .boolean) Bd.returns (by simp) (hb hby at_295) hr
    · show Q0 Z q0 p1 p2 p3 p4 p5 de kd h0 n0 _ T_32.heap _
      rw [e_32]
      exact ⟨rfl, N_32, trivial⟩
theorem own_len {args : Array Value} {s : State} {t : Term} {a : Addr} {c : Cell} {ty : FieldType} {z : Int32} (ev : t.eval args s none [] s = some (.ref a)) (A : Arr s s.heap a c ty) (h : (Term.length t).eval args s none [] s = some (.int z)) : c.slots.size < 2 ^ 31 ∧ c.slots.size.toInt32 = z := by
  have q := Arr.fin (Vm.Alike.refl _) A
  by_cases hs : c.slots.size < 2147483648
  · rw [len_f ev q hs] at h
    exact ⟨hs, Value.int.inj (Option.some.inj h)⟩
  · simp [Term.eval, ev, q, hs] at h
theorem own_eqv {args : Array Value} {s : State} {a b : Term} {v : Value} (h : (Jvm.Cond.eq a b).value args s none s [] = some true) (hb : b.eval args s none [] s = some v) : a.eval args s none [] s = some v := by
  simp only [Cond.value, hb] at h
  cases ha : a.eval args s none [] s with
  | none => simp [ha] at h
  | some x => cases x <;> cases v <;> simp [ha] at h ⊢ <;> exact h
set_option maxRecDepth 65536 in
set_option maxHeartbeats 40000000 in
theorem comes_1 {Post : Tables → Env → Array Value → State → Outcome → State → Prop} (hpost : ∀ tb e args s v u, (limb_1_1.after args s (.returned v) u = true ∧ limb_1_2.after args s (.returned v) u = true ∧ True) → FrameEnd s (.returned v) u (Jvm.fieldLocs frame_1_writes args s ++ Jvm.arrayLocs frame_1_arrays args s ++ Jvm.staticLocs frame_1_statics s) 56 320 → Post tb e args s (.returned v) u) :
    ArmFor flags0 classFile x code maxLocals ret World_1 tables_1 room_1 Calls_1 rest_1 Pre_1 Post := by
  intro l hfl _ _ p e ha hc hk s m args below hf hA hF happ hP
  obtain ⟨hcalls, hrest, hpre⟩ := hP
  obtain ⟨-, -, -, hnamed, -, -, -, hat⟩ := (Spec.applies_iff hf).mp happ
  obtain ⟨hg, hn⟩ := and_e (Cond.before_iff.mp (show (Jvm.Cond.and given_1 narrow_1).before args s = true from hpre))
  obtain ⟨g1, g2⟩ := and_e hg
  obtain ⟨g3, g4⟩ := and_e g2
  obtain ⟨g5, g6⟩ := and_e g4
  obtain ⟨g7, g8⟩ := and_e g6
  obtain ⟨g9, g10⟩ := and_e g8
  obtain ⟨g11, g12⟩ := and_e g10
  obtain ⟨w0, w1, w2, w3, w4, w5, rfl⟩ : ∃ w0 w1 w2 w3 w4 w5 : Value, args = #[w0, w1, w2, w3, w4, w5] := by
    have hs : args.size = 6 := by simpa [Cond.value, given_1] using g1
    obtain ⟨L⟩ := args
    match L, hs with
    | [w0, w1, w2, w3, w4, w5], _ => exact ⟨w0, w1, w2, w3, w4, w5, rfl⟩
  have hw := fun d (hd : d ∈ tables_1) => atoms_spec (ws := Jvm.Cond.code x code maxLocals ret :: tables_1) hat d (List.mem_cons_of_mem _ hd)
  have hfit : Fit s := fun {y c} hc i hi => by
    obtain ⟨ha, rfl⟩ := Array.getElem?_eq_some_iff.mp hc
    have q := List.all_eq_true.mp ((Array.all_eq_true_iff_forall_mem.mp hF) _ (Array.getElem_mem ha)) i (List.mem_range.mpr hi)
    simpa [Array.getElem?_eq_getElem hi] using q
  obtain ⟨hsets, hown0⟩ := atoms_of _ (rest_1_c_eq ▸ (show rest_1_c.before _ s = true from hrest))
  have hr0 := Cond.before_iff.mp hown0
  obtain ⟨i0, ei0⟩ := isL_v g3
  obtain rfl : w0 = (.long i0) := Option.some.inj ei0
  obtain ⟨i1, ei1⟩ := is_v g5
  obtain rfl : w1 = (.int i1) := Option.some.inj ei1
  obtain ⟨i2, ei2⟩ := is_v g7
  obtain rfl : w2 = (.int i2) := Option.some.inj ei2
  obtain ⟨i3, ei3⟩ := is_v g9
  obtain rfl : w3 = (.int i3) := Option.some.inj ei3
  obtain ⟨i4, ei4⟩ := is_v g11
  obtain rfl : w4 = (.int i4) := Option.some.inj ei4
  obtain ⟨i5, ei5⟩ := is_v g12
  obtain rfl : w5 = (.int i5) := Option.some.inj ei5
  obtain ⟨va, evV⟩ := exa_v (Cond.before_iff.mp (hsets _ (List.mem_of_getElem? (i := 7) rfl)))
  have SV := Sta.start evV (Or.inr ⟨(ow hw 19 rfl), (hsets _ (List.mem_of_getElem? (i := 2) rfl))⟩)
  obtain ⟨cV, AV⟩ := Arr.start evV (Cond.before_iff.mp (hsets _ (List.mem_of_getElem? (i := 6) rfl)))
  have lV := own_eqv (Cond.before_iff.mp (hsets _ (List.mem_of_getElem? (i := 8) rfl))) (Term.int_eval (0))
  have eL : cV.slots.size < 2 ^ 31 ∧ cV.slots.size.toInt32 = 0 := own_len evV AV lV
  have VV : Arv s s.heap va cV.cls (.object "java/lang/Object") (0 : Int32) [] .null := Arv.start hfit AV eL.1 eL.2 (by decide) rfl trivial
  obtain ⟨n, o, h1, h2, h3, _, L, rfl, ⟨rfl, N, -⟩, hq⟩ := rm0 l s _ hw tables_1 i0 i1 i2 i3 i4 i5 va cV.cls s.heap s.heap.size (Nat.le_refl _) SV VV p e ha hc hk s m _ below hf ((Spec.applies_iff_loose hf).mp happ).1 ⟨rfl, State.Warmed39.refl s, rfl⟩ trivial
  refine ⟨n, _, h1, h2, h3, hpost _ _ _ _ _ _ ⟨Cond.after_iff.mpr rfl, Cond.after_iff.mpr (eq_i res_at (Term.int_eval (1)) rfl), trivial⟩ ⟨hq.1, hq.2.1, (hq.2.2.sift fun y hy => Or.inr (N y hy)).mono (by decide) (by decide)⟩⟩
theorem main_1_1 : Claimed_1_1 := comes_1 fun _ _ _ _ _ _ h hF => ⟨h.1, hF⟩
theorem main_1_2 : Claimed_1_2 := comes_1 fun _ _ _ _ _ _ h hF => ⟨h.2.1, hF⟩
end Jvm.Pilot.@@N@@
namespace Jvm.Pilot.@@N@@
open Jvm Jvm.ClassFile Sem Op Lib Jvm.Free Jvm.Stand Jvm.Pilot.@@N@@.Jvm.D
/-! MADE BY PROGRAM (witnessworld.py) out of the Statement's table words and the real class files: 23 classes; the members and pool entries that the words name. The judged class is class 1, her method 1. -/
namespace start1
open Jvm.ClassFile
def u (s : String) : CpInfo := .utf8 (stringToUtf16 s)
/-- a pool by its gaps: so many unusable entries, then the entry; so many at the end -/
def gap : Nat → List CpInfo → List CpInfo
  | 0, r => r
  | n + 1, r => .unusable :: gap n r
def poolList (es : List (Nat × CpInfo)) (last : Nat) : List CpInfo := es.foldr (fun e r => gap e.1 (e.2 :: r)) (gap last [])
def pool (es : List (Nat × CpInfo)) (last : Nat) : Array CpInfo := ⟨poolList es last⟩
def fileOf (pool : Array CpInfo) (this : Nat) (attrs : Array Attribute := #[]) (ms : Array MethodInfo := #[]) (fl : Nat := 33) (sup : Nat := 0) (ifs : Array Nat := #[]) (fds : Array FieldInfo := #[]) : ClassFile where
  minorVersion := 0
  majorVersion := 65
  constantPool := pool
  accessFlags := fl
  thisClass := this
  superClass := sup
  interfaces := ifs
  fields := fds
  methods := ms
  attributes := attrs
def plain (name : String) (sup : Option ClassId) : Class where
  name := name
  kind := .ordinary
  loader := none
  accessFlags := 33
  super := sup
  interfaces := #[]
  cf := none
  fields := #[]
  methods := #[]
  instanceTypes := #[]
  staticTypes := #[]
  resolved := #[]
  callSites := []
  init := .initialized
  statics := none
  mirror := none

def pool0 : Array CpInfo := pool [(5, u "<init>"), (0, u "()V"), (1, .class_ 10), (1, u "java/lang/Object")] 113

def k0c0 : Code := { maxStack := 0, maxLocals := 1, code := object_method_1_code, exceptionTable := #[], attributes := #[] }
def k0m0 : Method := { name := "<init>", desc := "()V", sig := { parameters := [], returnType := none }, accessFlags := 1, code := some k0c0 }
/-- java/lang/Object -/
def k0 : Class := { plain "java/lang/Object" none with
  accessFlags := 33
  interfaces := #[]
  cf := some (fileOf pool0 8 #[] #[{ accessFlags := 1, nameIndex := 5, descriptorIndex := 6, attributes := #[] }] 33 0 #[] #[])
  fields := #[]
  methods := #[k0m0]
  instanceTypes := #[]
  staticTypes := #[]
  resolved := Array.replicate 124 none
  statics := none }

def pool1 : Array CpInfo := pool [(2, .class_ 4), (1, u "java/lang/Object"), (0, u "<init>"), (0, u "()V"), (0, .methodref 8 9), (0, .class_ 10), (0, .nameAndType 11 12), (0, u "java/lang/Math"), (0, u "min"), (0, u "(II)I"), (0, .methodref 8 14), (0, .nameAndType 15 12), (0, u "max"), (0, .class_ 17), (0, u "com/example/ballast/ballast/placement/CuttingPlanes"), (0, .methodref 16 19), (0, .nameAndType 5 20), (0, u "([D[D)V"), (0, .methodref 16 22), (0, .nameAndType 23 24), (0, u "add"), (0, u "(D[D)V"), (0, .methodref 16 26), (0, .nameAndType 27 28), (0, u "moveWalls"), (0, u "(IDD)V"), (0, .methodref 16 30), (0, .nameAndType 31 32), (0, u "solve"), (0, u "()D"), (0, .methodref 16 34), (0, .nameAndType 35 36), (0, u "point"), (0, u "()[D"), (0, .methodref 38 39), (0, .class_ 40), (0, .nameAndType 41 42), (0, u "com/example/ballast/ballast/placement/CuttingPlanesMoveWallsPinLaw"), (0, u "atWall"), (0, u "(DIDD)Z"), (2, u "law"), (0, u "(JIIIII)Z")] 5

def k1m0 : Method := { name := "<init>", desc := "()V", sig := { parameters := [], returnType := none }, accessFlags := 1, code := none }
def k1c1 : Code := { maxStack := 8, maxLocals := 36, code := code, exceptionTable := #[], attributes := #[] }
def k1m1 : Method := { name := "law", desc := "(JIIIII)Z", sig := { parameters := [.long, .int, .int, .int, .int, .int], returnType := some .boolean }, accessFlags := 9, code := some k1c1 }
def k1c2 : Code := { maxStack := 4, maxLocals := 7, code := method_3_code, exceptionTable := #[], attributes := #[] }
def k1m2 : Method := { name := "atWall", desc := "(DIDD)Z", sig := { parameters := [.double, .int, .double, .double], returnType := some .boolean }, accessFlags := 10, code := some k1c2 }
/-- com/example/ballast/ballast/placement/CuttingPlanesMoveWallsPinLaw -/
def k1 : Class := { plain "com/example/ballast/ballast/placement/CuttingPlanesMoveWallsPinLaw" (some 0) with
  accessFlags := 49
  interfaces := #[]
  cf := some (fileOf pool1 38 #[] #[{ accessFlags := 1, nameIndex := 5, descriptorIndex := 6, attributes := #[] }, { accessFlags := 9, nameIndex := 45, descriptorIndex := 46, attributes := #[] }, { accessFlags := 10, nameIndex := 41, descriptorIndex := 42, attributes := #[] }] 49 2 #[] #[])
  fields := #[]
  methods := #[k1m0, k1m1, k1m2]
  instanceTypes := #[]
  staticTypes := #[]
  resolved := Array.replicate 52 none
  statics := none }

def pool2 : Array CpInfo := pool [(1, .class_ 2), (0, u "java/lang/Math"), (1, .class_ 6), (1, u "java/lang/Object"), (0, u "<init>"), (0, u "()V"), (89, .class_ 100), (1, u "java/lang/Math$RandomNumberGeneratorHolder"), (71, u "negativeZeroFloatBits"), (0, u "J"), (2, u "negativeZeroDoubleBits"), (21, u "max"), (2, u "min"), (43, u "$assertionsDisabled"), (0, u "Z"), (88, u "(II)I"), (2, u "twoToTheDoubleScaleDown"), (0, u "D"), (4, u "twoToTheDoubleScaleUp"), (9, u "E"), (3, u "PI"), (2, u "TAU"), (2, u "DEGREES_TO_RADIANS"), (0, u "RADIANS_TO_DEGREES")] 94

def k2m0 : Method := { name := "<init>", desc := "()V", sig := { parameters := [], returnType := none }, accessFlags := 2, code := none }
def k2c1 : Code := { maxStack := 2, maxLocals := 2, code := jdk_29_method_65_code, exceptionTable := #[], attributes := #[] }
def k2m1 : Method := { name := "max", desc := "(II)I", sig := { parameters := [.int, .int], returnType := some .int }, accessFlags := 9, code := some k2c1 }
def k2c2 : Code := { maxStack := 2, maxLocals := 2, code := jdk_29_method_69_code, exceptionTable := #[], attributes := #[] }
def k2m2 : Method := { name := "min", desc := "(II)I", sig := { parameters := [.int, .int], returnType := some .int }, accessFlags := 9, code := some k2c2 }
/-- java/lang/Math -/
def k2 : Class := { plain "java/lang/Math" (some 0) with
  accessFlags := 49
  interfaces := #[]
  cf := some (fileOf pool2 1 #[.nestMembers #[98]] #[{ accessFlags := 2, nameIndex := 7, descriptorIndex := 8, attributes := #[] }, { accessFlags := 9, nameIndex := 198, descriptorIndex := 335, attributes := #[] }, { accessFlags := 9, nameIndex := 201, descriptorIndex := 335, attributes := #[] }] 49 4 #[] #[{ accessFlags := 25, nameIndex := 354, descriptorIndex := 339, attributes := #[] }, { accessFlags := 25, nameIndex := 358, descriptorIndex := 339, attributes := #[] }, { accessFlags := 25, nameIndex := 361, descriptorIndex := 339, attributes := #[] }, { accessFlags := 26, nameIndex := 364, descriptorIndex := 339, attributes := #[] }, { accessFlags := 26, nameIndex := 365, descriptorIndex := 339, attributes := #[] }, { accessFlags := 26, nameIndex := 172, descriptorIndex := 173, attributes := #[] }, { accessFlags := 26, nameIndex := 176, descriptorIndex := 173, attributes := #[] }, { accessFlags := 8, nameIndex := 344, descriptorIndex := 339, attributes := #[] }, { accessFlags := 8, nameIndex := 338, descriptorIndex := 339, attributes := #[] }, { accessFlags := 4120, nameIndex := 245, descriptorIndex := 246, attributes := #[] }])
  fields := #[{ name := "E", type := .double, accessFlags := 25, slot := 0, constantValue := 0 }, { name := "PI", type := .double, accessFlags := 25, slot := 1, constantValue := 0 }, { name := "TAU", type := .double, accessFlags := 25, slot := 2, constantValue := 0 }, { name := "DEGREES_TO_RADIANS", type := .double, accessFlags := 26, slot := 3, constantValue := 0 }, { name := "RADIANS_TO_DEGREES", type := .double, accessFlags := 26, slot := 4, constantValue := 0 }, { name := "negativeZeroFloatBits", type := .long, accessFlags := 26, slot := 5, constantValue := 0 }, { name := "negativeZeroDoubleBits", type := .long, accessFlags := 26, slot := 6, constantValue := 0 }, { name := "twoToTheDoubleScaleUp", type := .double, accessFlags := 8, slot := 7, constantValue := 0 }, { name := "twoToTheDoubleScaleDown", type := .double, accessFlags := 8, slot := 8, constantValue := 0 }, { name := "$assertionsDisabled", type := .boolean, accessFlags := 4120, slot := 9, constantValue := 0 }]
  methods := #[k2m0, k2m1, k2m2]
  instanceTypes := #[]
  staticTypes := #[.double, .double, .double, .double, .double, .long, .long, .double, .double, .boolean]
  resolved := Array.replicate 460 none
  statics := none }

def pool3 : Array CpInfo := pool [(1, .methodref 2 3), (0, .class_ 4), (0, .nameAndType 5 6), (0, u "java/lang/Object"), (0, u "<init>"), (0, u "()V"), (0, .class_ 8), (0, u "java/util/ArrayList"), (0, .methodref 7 3), (0, .fieldref 11 12), (0, .class_ 13), (0, .nameAndType 14 15), (0, u "com/example/ballast/ballast/placement/CuttingPlanes"), (0, u "columns"), (0, u "Ljava/util/List;"), (0, .fieldref 11 17), (0, .nameAndType 18 19), (0, u "values"), (0, u "[D"), (0, .fieldref 11 21), (0, .nameAndType 22 23), (0, u "rowOf"), (0, u "[I"), (0, .fieldref 11 25), (0, .nameAndType 26 27), (0, u "dimensions"), (0, u "I"), (0, .fieldref 11 29), (0, .nameAndType 30 27), (0, u "rows"), (0, .fieldref 11 32), (0, .nameAndType 33 23), (0, u "basis"), (0, .methodref 11 35), (0, .nameAndType 36 37), (0, u "addColumn"), (0, u "([DD)V"), (0, .double 13830554455654793216), (1, .fieldref 11 41), (0, .nameAndType 42 43), (0, u "inverse"), (0, u "[[D"), (0, .methodref 11 45), (0, .nameAndType 46 6), (0, u "start"), (7, .methodref 11 55), (0, .nameAndType 56 6), (0, u "updateMultipliers"), (0, .double 4472406533629990549), (1, .interfaceMethodref 60 61), (0, .class_ 62), (0, .nameAndType 63 64), (0, u "java/util/List"), (0, u "size"), (0, u "()I"), (0, .fieldref 11 66), (0, .nameAndType 67 19), (0, u "multipliers"), (0, .methodref 11 69), (0, .nameAndType 70 71), (0, u "dot"), (0, u "([DI)D"), (0, .interfaceMethodref 60 73), (0, .nameAndType 74 75), (0, u "get"), (0, u "(I)Ljava/lang/Object;"), (0, .class_ 19), (6, .double 9218868437227405312), (1, .fieldref 11 86), (0, .nameAndType 87 19), (0, u "basic"), (14, .fieldref 11 103), (0, .nameAndType 104 27), (0, u "sinceFactored"), (3, .methodref 109 110), (0, .class_ 111), (0, .nameAndType 112 113), (0, u "java/util/Arrays"), (0, u "copyOfRange"), (0, u "([DII)[D"), (7, .interfaceMethodref 60 122), (0, .nameAndType 123 124), (0, u "add"), (0, u "(Ljava/lang/Object;)Z"), (0, .class_ 43), (0, u "TOLERANCE"), (0, u "D"), (1, u "PIVOTS_PER_ROW"), (1, u "REFACTOR"), (3, u "([D[D)V"), (3, u "(D[D)V"), (0, u "solve"), (0, u "()D"), (0, u "moveWalls"), (0, u "(IDD)V"), (0, u "point"), (0, u "()[D")] 4

def k3c0 : Code := { maxStack := 4, maxLocals := 6, code := prog_36_method_1_code, exceptionTable := #[], attributes := #[] }
def k3m0 : Method := { name := "<init>", desc := "([D[D)V", sig := { parameters := [(.array .double), (.array .double)], returnType := none }, accessFlags := 0, code := some k3c0 }
def k3c1 : Code := { maxStack := 4, maxLocals := 6, code := prog_36_method_2_code, exceptionTable := #[], attributes := #[] }
def k3m1 : Method := { name := "add", desc := "(D[D)V", sig := { parameters := [.double, (.array .double)], returnType := none }, accessFlags := 0, code := some k3c1 }
def k3c2 : Code := { maxStack := 8, maxLocals := 14, code := prog_36_method_3_code, exceptionTable := #[], attributes := #[] }
def k3m2 : Method := { name := "solve", desc := "()D", sig := { parameters := [], returnType := some .double }, accessFlags := 0, code := some k3c2 }
def k3c3 : Code := { maxStack := 4, maxLocals := 6, code := prog_36_method_4_code, exceptionTable := #[], attributes := #[] }
def k3m3 : Method := { name := "moveWalls", desc := "(IDD)V", sig := { parameters := [.int, .double, .double], returnType := none }, accessFlags := 0, code := some k3c3 }
def k3c4 : Code := { maxStack := 3, maxLocals := 1, code := prog_36_method_5_code, exceptionTable := #[], attributes := #[] }
def k3m4 : Method := { name := "point", desc := "()[D", sig := { parameters := [], returnType := some (.array .double) }, accessFlags := 0, code := some k3c4 }
def k3c5 : Code := { maxStack := 4, maxLocals := 5, code := prog_36_method_7_code, exceptionTable := #[], attributes := #[] }
def k3m5 : Method := { name := "addColumn", desc := "([DD)V", sig := { parameters := [(.array .double), .double], returnType := none }, accessFlags := 2, code := some k3c5 }
def k3c6 : Code := { maxStack := 6, maxLocals := 8, code := prog_36_method_8_code, exceptionTable := #[], attributes := #[] }
def k3m6 : Method := { name := "start", desc := "()V", sig := { parameters := [], returnType := none }, accessFlags := 2, code := some k3c6 }
def k3c7 : Code := { maxStack := 8, maxLocals := 5, code := prog_36_method_9_code, exceptionTable := #[], attributes := #[] }
def k3m7 : Method := { name := "updateMultipliers", desc := "()V", sig := { parameters := [], returnType := none }, accessFlags := 2, code := some k3c7 }
def k3c8 : Code := { maxStack := 6, maxLocals := 7, code := prog_36_method_12_code, exceptionTable := #[], attributes := #[] }
def k3m8 : Method := { name := "dot", desc := "([DI)D", sig := { parameters := [(.array .double), .int], returnType := some .double }, accessFlags := 2, code := some k3c8 }
/-- com/example/ballast/ballast/placement/CuttingPlanes -/
def k3 : Class := { plain "com/example/ballast/ballast/placement/CuttingPlanes" (some 0) with
  accessFlags := 48
  interfaces := #[]
  cf := some (fileOf pool3 11 #[] #[{ accessFlags := 0, nameIndex := 5, descriptorIndex := 135, attributes := #[] }, { accessFlags := 0, nameIndex := 123, descriptorIndex := 139, attributes := #[] }, { accessFlags := 0, nameIndex := 140, descriptorIndex := 141, attributes := #[] }, { accessFlags := 0, nameIndex := 142, descriptorIndex := 143, attributes := #[] }, { accessFlags := 0, nameIndex := 144, descriptorIndex := 145, attributes := #[] }, { accessFlags := 2, nameIndex := 36, descriptorIndex := 37, attributes := #[] }, { accessFlags := 2, nameIndex := 46, descriptorIndex := 6, attributes := #[] }, { accessFlags := 2, nameIndex := 56, descriptorIndex := 6, attributes := #[] }, { accessFlags := 2, nameIndex := 70, descriptorIndex := 71, attributes := #[] }] 48 2 #[] #[{ accessFlags := 26, nameIndex := 126, descriptorIndex := 127, attributes := #[] }, { accessFlags := 26, nameIndex := 129, descriptorIndex := 27, attributes := #[] }, { accessFlags := 26, nameIndex := 131, descriptorIndex := 27, attributes := #[] }, { accessFlags := 18, nameIndex := 26, descriptorIndex := 27, attributes := #[] }, { accessFlags := 18, nameIndex := 30, descriptorIndex := 27, attributes := #[] }, { accessFlags := 18, nameIndex := 14, descriptorIndex := 15, attributes := #[] }, { accessFlags := 2, nameIndex := 18, descriptorIndex := 19, attributes := #[] }, { accessFlags := 2, nameIndex := 22, descriptorIndex := 23, attributes := #[] }, { accessFlags := 18, nameIndex := 33, descriptorIndex := 23, attributes := #[] }, { accessFlags := 2, nameIndex := 42, descriptorIndex := 43, attributes := #[] }, { accessFlags := 2, nameIndex := 87, descriptorIndex := 19, attributes := #[] }, { accessFlags := 2, nameIndex := 67, descriptorIndex := 19, attributes := #[] }, { accessFlags := 2, nameIndex := 104, descriptorIndex := 27, attributes := #[] }])
  fields := #[{ name := "TOLERANCE", type := .double, accessFlags := 26, slot := 0, constantValue := 0 }, { name := "PIVOTS_PER_ROW", type := .int, accessFlags := 26, slot := 1, constantValue := 0 }, { name := "REFACTOR", type := .int, accessFlags := 26, slot := 2, constantValue := 0 }, { name := "dimensions", type := .int, accessFlags := 18, slot := 0, constantValue := 0 }, { name := "rows", type := .int, accessFlags := 18, slot := 1, constantValue := 0 }, { name := "columns", type := (.object "java/util/List"), accessFlags := 18, slot := 2, constantValue := 0 }, { name := "values", type := (.array .double), accessFlags := 2, slot := 3, constantValue := 0 }, { name := "rowOf", type := (.array .int), accessFlags := 2, slot := 4, constantValue := 0 }, { name := "basis", type := (.array .int), accessFlags := 18, slot := 5, constantValue := 0 }, { name := "inverse", type := (.array (.array .double)), accessFlags := 2, slot := 6, constantValue := 0 }, { name := "basic", type := (.array .double), accessFlags := 2, slot := 7, constantValue := 0 }, { name := "multipliers", type := (.array .double), accessFlags := 2, slot := 8, constantValue := 0 }, { name := "sinceFactored", type := .int, accessFlags := 2, slot := 9, constantValue := 0 }]
  methods := #[k3m0, k3m1, k3m2, k3m3, k3m4, k3m5, k3m6, k3m7, k3m8]
  instanceTypes := #[.int, .int, (.object "java/util/List"), (.array .double), (.array .int), (.array .int), (.array (.array .double)), (.array .double), (.array .double), .int]
  staticTypes := #[.double, .int, .int]
  resolved := Array.replicate 150 none
  statics := none }

def pool4 : Array CpInfo := pool [(8, .class_ 10), (1, u "java/lang/Iterable"), (24, .class_ 36), (0, u "java/lang/Object")] 25

/-- java/lang/Iterable -/
def k4 : Class := { plain "java/lang/Iterable" (some 0) with
  accessFlags := 1537
  interfaces := #[]
  cf := some (fileOf pool4 8 #[] #[] 1537 35 #[] #[])
  fields := #[]
  methods := #[]
  instanceTypes := #[]
  staticTypes := #[]
  resolved := Array.replicate 62 none
  statics := none }

def pool5 : Array CpInfo := pool [(10, .class_ 12), (1, u "java/util/Collection"), (47, .class_ 61), (0, u "java/lang/Object"), (0, .class_ 63), (0, u "java/lang/Iterable")] 51

/-- java/util/Collection -/
def k5 : Class := { plain "java/util/Collection" (some 0) with
  accessFlags := 1537
  interfaces := #[4]
  cf := some (fileOf pool5 10 #[] #[] 1537 60 #[62] #[])
  fields := #[]
  methods := #[]
  instanceTypes := #[]
  staticTypes := #[]
  resolved := Array.replicate 115 none
  statics := none }

def pool6 : Array CpInfo := pool [(1, .methodref 2 3), (0, .class_ 4), (0, .nameAndType 5 6), (0, u "java/lang/Object"), (0, u "<init>"), (0, u "()V"), (1, .class_ 10), (1, u "java/util/AbstractCollection"), (66, .class_ 78), (0, u "java/util/Collection")] 81

def k6c0 : Code := { maxStack := 1, maxLocals := 1, code := jdk_22_method_1_code, exceptionTable := #[], attributes := #[] }
def k6m0 : Method := { name := "<init>", desc := "()V", sig := { parameters := [], returnType := none }, accessFlags := 4, code := some k6c0 }
/-- java/util/AbstractCollection -/
def k6 : Class := { plain "java/util/AbstractCollection" (some 0) with
  accessFlags := 1057
  interfaces := #[5]
  cf := some (fileOf pool6 8 #[] #[{ accessFlags := 4, nameIndex := 5, descriptorIndex := 6, attributes := #[] }] 1057 2 #[77] #[])
  fields := #[]
  methods := #[k6m0]
  instanceTypes := #[]
  staticTypes := #[]
  resolved := Array.replicate 160 none
  statics := none }

def pool7 : Array CpInfo := pool [(8, .class_ 10), (1, u "java/util/SequencedCollection"), (15, .class_ 27), (0, u "java/lang/Object"), (0, .class_ 29), (0, u "java/util/Collection")] 27

/-- java/util/SequencedCollection -/
def k7 : Class := { plain "java/util/SequencedCollection" (some 0) with
  accessFlags := 1537
  interfaces := #[5]
  cf := some (fileOf pool7 8 #[] #[] 1537 26 #[28] #[])
  fields := #[]
  methods := #[]
  instanceTypes := #[]
  staticTypes := #[]
  resolved := Array.replicate 57 none
  statics := none }

def pool8 : Array CpInfo := pool [(8, .class_ 10), (1, u "java/util/List"), (49, u "add"), (3, u "(Ljava/lang/Object;)Z"), (10, u "get"), (0, u "(I)Ljava/lang/Object;"), (2, u "size"), (0, u "()I"), (22, .class_ 104), (0, u "java/lang/Object"), (15, .class_ 121), (0, u "java/util/SequencedCollection")] 129

def k8m0 : Method := { name := "size", desc := "()I", sig := { parameters := [], returnType := some .int }, accessFlags := 1025, code := none }
def k8m1 : Method := { name := "add", desc := "(Ljava/lang/Object;)Z", sig := { parameters := [(.object "java/lang/Object")], returnType := some .boolean }, accessFlags := 1025, code := none }
def k8m2 : Method := { name := "get", desc := "(I)Ljava/lang/Object;", sig := { parameters := [.int], returnType := some (.object "java/lang/Object") }, accessFlags := 1025, code := none }
/-- java/util/List -/
def k8 : Class := { plain "java/util/List" (some 0) with
  accessFlags := 1537
  interfaces := #[7]
  cf := some (fileOf pool8 8 #[] #[{ accessFlags := 1025, nameIndex := 79, descriptorIndex := 80, attributes := #[] }, { accessFlags := 1025, nameIndex := 60, descriptorIndex := 64, attributes := #[] }, { accessFlags := 1025, nameIndex := 75, descriptorIndex := 76, attributes := #[] }] 1537 103 #[120] #[])
  fields := #[]
  methods := #[k8m0, k8m1, k8m2]
  instanceTypes := #[]
  staticTypes := #[]
  resolved := Array.replicate 251 none
  statics := none }

def pool9 : Array CpInfo := pool [(1, .methodref 2 3), (0, .class_ 4), (0, .nameAndType 5 6), (0, u "java/util/AbstractCollection"), (0, u "<init>"), (0, u "()V"), (0, .fieldref 8 9), (0, .class_ 10), (0, .nameAndType 11 12), (0, u "java/util/AbstractList"), (0, u "modCount"), (0, u "I"), (64, .class_ 78), (0, u "java/util/AbstractList$Itr"), (3, .class_ 83), (0, u "java/util/AbstractList$ListItr"), (9, .class_ 94), (0, u "java/util/AbstractList$RandomAccessSubList"), (3, .class_ 99), (0, u "java/util/AbstractList$SubList"), (33, .class_ 134), (0, u "java/util/List"), (73, .class_ 209), (0, u "java/util/AbstractList$SubList$1"), (0, .class_ 211), (0, u "java/util/AbstractList$RandomAccessSpliterator")] 6

def k9c0 : Code := { maxStack := 2, maxLocals := 1, code := jdk_39_method_1_code, exceptionTable := #[], attributes := #[] }
def k9m0 : Method := { name := "<init>", desc := "()V", sig := { parameters := [], returnType := none }, accessFlags := 4, code := some k9c0 }
/-- java/util/AbstractList -/
def k9 : Class := { plain "java/util/AbstractList" (some 6) with
  accessFlags := 1057
  interfaces := #[8]
  cf := some (fileOf pool9 8 #[.nestMembers #[93, 98, 208, 210, 82, 77]] #[{ accessFlags := 4, nameIndex := 5, descriptorIndex := 6, attributes := #[] }] 1057 2 #[133] #[{ accessFlags := 132, nameIndex := 11, descriptorIndex := 12, attributes := #[] }])
  fields := #[{ name := "modCount", type := .int, accessFlags := 132, slot := 0, constantValue := 0 }]
  methods := #[k9m0]
  instanceTypes := #[.int]
  staticTypes := #[]
  resolved := Array.replicate 218 none
  statics := none }

def pool10 : Array CpInfo := pool [(1, .class_ 2), (0, u "java/util/RandomAccess"), (0, .class_ 4), (0, u "java/lang/Object")] 2

/-- java/util/RandomAccess -/
def k10 : Class := { plain "java/util/RandomAccess" (some 0) with
  accessFlags := 1537
  interfaces := #[]
  cf := some (fileOf pool10 1 #[] #[] 1537 3 #[] #[])
  fields := #[]
  methods := #[]
  instanceTypes := #[]
  staticTypes := #[]
  resolved := Array.replicate 7 none
  statics := none }

def pool11 : Array CpInfo := pool [(1, .class_ 2), (0, u "java/lang/Cloneable"), (0, .class_ 4), (0, u "java/lang/Object")] 2

/-- java/lang/Cloneable -/
def k11 : Class := { plain "java/lang/Cloneable" (some 0) with
  accessFlags := 1537
  interfaces := #[]
  cf := some (fileOf pool11 1 #[] #[] 1537 3 #[] #[])
  fields := #[]
  methods := #[]
  instanceTypes := #[]
  staticTypes := #[]
  resolved := Array.replicate 7 none
  statics := none }

def pool12 : Array CpInfo := pool [(1, .class_ 2), (0, u "java/io/Serializable"), (0, .class_ 4), (0, u "java/lang/Object")] 2

/-- java/io/Serializable -/
def k12 : Class := { plain "java/io/Serializable" (some 0) with
  accessFlags := 1537
  interfaces := #[]
  cf := some (fileOf pool12 1 #[] #[] 1537 3 #[] #[])
  fields := #[]
  methods := #[]
  instanceTypes := #[]
  staticTypes := #[]
  resolved := Array.replicate 7 none
  statics := none }

def pool13 : Array CpInfo := pool [(1, .methodref 2 3), (0, .class_ 4), (0, .nameAndType 5 6), (0, u "java/util/AbstractList"), (0, u "<init>"), (0, u "()V"), (0, .class_ 8), (0, u "java/lang/Object"), (0, .fieldref 10 11), (0, .class_ 12), (0, .nameAndType 13 14), (0, u "java/util/ArrayList"), (0, u "elementData"), (0, u "[Ljava/lang/Object;"), (2, u "EMPTY_ELEMENTDATA"), (21, .fieldref 10 40), (0, .nameAndType 41 14), (0, u "DEFAULTCAPACITY_EMPTY_ELEMENTDATA"), (5, u "()[Ljava/lang/Object;"), (0, .fieldref 10 49), (0, .nameAndType 50 51), (0, u "size"), (0, u "I"), (11, .fieldref 10 64), (0, .nameAndType 65 51), (0, u "modCount"), (3, .methodref 10 70), (0, .nameAndType 71 72), (0, u "grow"), (0, u "(I)[Ljava/lang/Object;"), (6, .methodref 80 81), (0, .class_ 82), (0, .nameAndType 83 84), (0, u "java/lang/Math"), (0, u "max"), (0, u "(II)I"), (11, u "(Ljava/lang/Object;)Z"), (21, .methodref 119 120), (0, .class_ 121), (0, .nameAndType 122 84), (0, u "java/util/Objects"), (0, u "checkIndex"), (0, .methodref 10 124), (0, .nameAndType 13 125), (0, u "(I)Ljava/lang/Object;"), (3, .methodref 10 130), (0, .nameAndType 71 47), (0, .methodref 10 132), (0, .nameAndType 133 134), (0, u "add"), (0, u "(Ljava/lang/Object;[Ljava/lang/Object;I)V"), (13, .class_ 149), (0, u "java/util/List"), (36, u "()I"), (75, .class_ 263), (0, u "java/util/ArrayList$ListItr"), (3, .class_ 268), (0, u "java/util/ArrayList$Itr"), (7, .class_ 277), (0, u "java/util/ArrayList$SubList"), (12, .class_ 291), (0, u "java/util/ArrayList$ArrayListSpliterator"), (37, .class_ 330), (0, u "java/util/RandomAccess"), (0, .class_ 332), (0, u "java/lang/Cloneable"), (0, .class_ 334), (0, u "java/io/Serializable"), (0, u "serialVersionUID"), (0, u "J"), (3, u "DEFAULT_CAPACITY"), (40, u "get"), (118, .class_ 501), (0, u "java/util/ArrayList$SubList$2"), (0, .class_ 503), (0, u "java/util/ArrayList$SubList$1")] 5

def k13c0 : Code := { maxStack := 2, maxLocals := 1, code := jdk_38_method_2_code, exceptionTable := #[], attributes := #[] }
def k13m0 : Method := { name := "<init>", desc := "()V", sig := { parameters := [], returnType := none }, accessFlags := 1, code := some k13c0 }
def k13c1 : Code := { maxStack := 4, maxLocals := 4, code := jdk_38_method_6_code, exceptionTable := #[], attributes := #[] }
def k13m1 : Method := { name := "grow", desc := "(I)[Ljava/lang/Object;", sig := { parameters := [.int], returnType := some (.array (.object "java/lang/Object")) }, accessFlags := 2, code := some k13c1 }
def k13c2 : Code := { maxStack := 3, maxLocals := 1, code := jdk_38_method_7_code, exceptionTable := #[], attributes := #[] }
def k13m2 : Method := { name := "grow", desc := "()[Ljava/lang/Object;", sig := { parameters := [], returnType := some (.array (.object "java/lang/Object")) }, accessFlags := 2, code := some k13c2 }
def k13c3 : Code := { maxStack := 1, maxLocals := 1, code := jdk_38_method_8_code, exceptionTable := #[], attributes := #[] }
def k13m3 : Method := { name := "size", desc := "()I", sig := { parameters := [], returnType := some .int }, accessFlags := 1, code := some k13c3 }
def k13c4 : Code := { maxStack := 2, maxLocals := 2, code := jdk_38_method_18_code, exceptionTable := #[], attributes := #[] }
def k13m4 : Method := { name := "elementData", desc := "(I)Ljava/lang/Object;", sig := { parameters := [.int], returnType := some (.object "java/lang/Object") }, accessFlags := 0, code := some k13c4 }
def k13c5 : Code := { maxStack := 2, maxLocals := 2, code := jdk_38_method_20_code, exceptionTable := #[], attributes := #[] }
def k13m5 : Method := { name := "get", desc := "(I)Ljava/lang/Object;", sig := { parameters := [.int], returnType := some (.object "java/lang/Object") }, accessFlags := 1, code := some k13c5 }
def k13c6 : Code := { maxStack := 3, maxLocals := 4, code := jdk_38_method_24_code, exceptionTable := #[], attributes := #[] }
def k13m6 : Method := { name := "add", desc := "(Ljava/lang/Object;[Ljava/lang/Object;I)V", sig := { parameters := [(.object "java/lang/Object"), (.array (.object "java/lang/Object")), .int], returnType := none }, accessFlags := 2, code := some k13c6 }
def k13c7 : Code := { maxStack := 4, maxLocals := 2, code := jdk_38_method_25_code, exceptionTable := #[], attributes := #[] }
def k13m7 : Method := { name := "add", desc := "(Ljava/lang/Object;)Z", sig := { parameters := [(.object "java/lang/Object")], returnType := some .boolean }, accessFlags := 1, code := some k13c7 }
/-- java/util/ArrayList -/
def k13 : Class := { plain "java/util/ArrayList" (some 9) with
  accessFlags := 33
  interfaces := #[8, 10, 11, 12]
  cf := some (fileOf pool13 10 #[.nestMembers #[290, 276, 500, 502, 262, 267]] #[{ accessFlags := 1, nameIndex := 5, descriptorIndex := 6, attributes := #[] }, { accessFlags := 2, nameIndex := 71, descriptorIndex := 72, attributes := #[] }, { accessFlags := 2, nameIndex := 71, descriptorIndex := 47, attributes := #[] }, { accessFlags := 1, nameIndex := 50, descriptorIndex := 186, attributes := #[] }, { accessFlags := 0, nameIndex := 13, descriptorIndex := 125, attributes := #[] }, { accessFlags := 1, nameIndex := 381, descriptorIndex := 125, attributes := #[] }, { accessFlags := 2, nameIndex := 133, descriptorIndex := 134, attributes := #[] }, { accessFlags := 1, nameIndex := 133, descriptorIndex := 96, attributes := #[] }] 33 2 #[148, 329, 331, 333] #[{ accessFlags := 26, nameIndex := 335, descriptorIndex := 336, attributes := #[] }, { accessFlags := 26, nameIndex := 340, descriptorIndex := 51, attributes := #[] }, { accessFlags := 26, nameIndex := 17, descriptorIndex := 14, attributes := #[] }, { accessFlags := 26, nameIndex := 41, descriptorIndex := 14, attributes := #[] }, { accessFlags := 128, nameIndex := 13, descriptorIndex := 14, attributes := #[] }, { accessFlags := 2, nameIndex := 50, descriptorIndex := 51, attributes := #[] }])
  fields := #[{ name := "serialVersionUID", type := .long, accessFlags := 26, slot := 0, constantValue := 0 }, { name := "DEFAULT_CAPACITY", type := .int, accessFlags := 26, slot := 1, constantValue := 0 }, { name := "EMPTY_ELEMENTDATA", type := (.array (.object "java/lang/Object")), accessFlags := 26, slot := 2, constantValue := 0 }, { name := "DEFAULTCAPACITY_EMPTY_ELEMENTDATA", type := (.array (.object "java/lang/Object")), accessFlags := 26, slot := 3, constantValue := 0 }, { name := "elementData", type := (.array (.object "java/lang/Object")), accessFlags := 128, slot := 1, constantValue := 0 }, { name := "size", type := .int, accessFlags := 2, slot := 2, constantValue := 0 }]
  methods := #[k13m0, k13m1, k13m2, k13m3, k13m4, k13m5, k13m6, k13m7]
  instanceTypes := #[.int, (.array (.object "java/lang/Object")), .int]
  staticTypes := #[.long, .int, (.array (.object "java/lang/Object")), (.array (.object "java/lang/Object"))]
  resolved := Array.replicate 509 none
  statics := some 0 }

def pool14 : Array CpInfo := pool [(2, .class_ 4), (1, u "java/lang/Object"), (0, u "<init>"), (0, u "()V"), (35, .class_ 44), (1, u "java/util/Objects"), (60, .methodref 106 107), (0, .class_ 108), (0, .nameAndType 109 110), (0, u "jdk/internal/util/Preconditions"), (0, u "checkIndex"), (0, u "(IILjava/util/function/BiFunction;)I"), (60, u "(II)I")] 12

def k14m0 : Method := { name := "<init>", desc := "()V", sig := { parameters := [], returnType := none }, accessFlags := 2, code := none }
def k14c1 : Code := { maxStack := 3, maxLocals := 2, code := jdk_31_method_17_code, exceptionTable := #[], attributes := #[] }
def k14m1 : Method := { name := "checkIndex", desc := "(II)I", sig := { parameters := [.int, .int], returnType := some .int }, accessFlags := 9, code := some k14c1 }
/-- java/util/Objects -/
def k14 : Class := { plain "java/util/Objects" (some 0) with
  accessFlags := 49
  interfaces := #[]
  cf := some (fileOf pool14 42 #[] #[{ accessFlags := 2, nameIndex := 5, descriptorIndex := 6, attributes := #[] }, { accessFlags := 9, nameIndex := 109, descriptorIndex := 171, attributes := #[] }] 49 2 #[] #[])
  fields := #[]
  methods := #[k14m0, k14m1]
  instanceTypes := #[]
  staticTypes := #[]
  resolved := Array.replicate 184 none
  statics := none }

def pool15 : Array CpInfo := pool [(2, .class_ 4), (1, u "java/lang/Object"), (0, u "<init>"), (0, u "()V"), (17, .class_ 26), (1, u "jdk/internal/util/Preconditions"), (6, u "checkIndex"), (21, .class_ 56), (0, u "jdk/internal/util/Preconditions$4"), (57, .class_ 115), (0, u "jdk/internal/util/Preconditions$1"), (7, u "SIOOBE_FORMATTER"), (0, u "Ljava/util/function/BiFunction;"), (0, .class_ 126), (0, u "jdk/internal/util/Preconditions$2"), (3, u "AIOOBE_FORMATTER"), (0, .class_ 132), (0, u "jdk/internal/util/Preconditions$3"), (3, u "IOOBE_FORMATTER"), (41, u "(IILjava/util/function/BiFunction;)I")] 15

def k15m0 : Method := { name := "<init>", desc := "()V", sig := { parameters := [], returnType := none }, accessFlags := 1, code := none }
def k15c1 : Code := { maxStack := 3, maxLocals := 3, code := jdk_41_method_11_code, exceptionTable := #[], attributes := #[] }
def k15m1 : Method := { name := "checkIndex", desc := "(IILjava/util/function/BiFunction;)I", sig := { parameters := [.int, .int, (.object "java/util/function/BiFunction")], returnType := some .int }, accessFlags := 9, code := some k15c1 }
/-- jdk/internal/util/Preconditions -/
def k15 : Class := { plain "jdk/internal/util/Preconditions" (some 0) with
  accessFlags := 33
  interfaces := #[]
  cf := some (fileOf pool15 24 #[.nestMembers #[55, 131, 125, 114]] #[{ accessFlags := 1, nameIndex := 5, descriptorIndex := 6, attributes := #[] }, { accessFlags := 9, nameIndex := 33, descriptorIndex := 178, attributes := #[] }] 33 2 #[] #[{ accessFlags := 25, nameIndex := 123, descriptorIndex := 124, attributes := #[] }, { accessFlags := 25, nameIndex := 130, descriptorIndex := 124, attributes := #[] }, { accessFlags := 25, nameIndex := 136, descriptorIndex := 124, attributes := #[] }])
  fields := #[{ name := "SIOOBE_FORMATTER", type := (.object "java/util/function/BiFunction"), accessFlags := 25, slot := 0, constantValue := 0 }, { name := "AIOOBE_FORMATTER", type := (.object "java/util/function/BiFunction"), accessFlags := 25, slot := 1, constantValue := 0 }, { name := "IOOBE_FORMATTER", type := (.object "java/util/function/BiFunction"), accessFlags := 25, slot := 2, constantValue := 0 }]
  methods := #[k15m0, k15m1]
  instanceTypes := #[]
  staticTypes := #[(.object "java/util/function/BiFunction"), (.object "java/util/function/BiFunction"), (.object "java/util/function/BiFunction")]
  resolved := Array.replicate 194 none
  statics := none }

def pool16 : Array CpInfo := pool [(2, .class_ 4), (1, u "java/lang/Object"), (0, u "<init>"), (0, u "()V"), (7, .class_ 16), (1, u "java/util/Arrays"), (57, .class_ 76), (1, u "java/util/Arrays$NaturalOrder"), (36, .class_ 115), (1, u "java/util/Arrays$LegacyMergeSort"), (1, u "Z"), (21, u "copyOfRange"), (10, .methodref 151 152), (0, .class_ 153), (0, .nameAndType 154 155), (0, u "java/lang/System"), (0, u "arraycopy"), (0, u "(Ljava/lang/Object;ILjava/lang/Object;II)V"), (148, .methodref 305 306), (0, .class_ 307), (0, .nameAndType 308 309), (0, u "java/lang/Math"), (0, u "min"), (0, u "(II)I"), (33, .methodref 14 344), (0, .nameAndType 345 346), (0, u "checkLength"), (0, u "(II)V"), (20, .methodref 14 368), (0, .nameAndType 369 370), (0, u "copyOfRangeDouble"), (0, u "([DII)[D"), (4, .class_ 376), (0, u "java/util/Arrays$ArrayList"), (68, u "$assertionsDisabled"), (269, u "MIN_ARRAY_SORT_GRAN"), (0, u "I"), (2, u "INSERTIONSORT_THRESHOLD"), (255, .class_ 976), (0, u "java/util/Arrays$ArrayItr")] 52

def k16m0 : Method := { name := "<init>", desc := "()V", sig := { parameters := [], returnType := none }, accessFlags := 2, code := none }
def k16c1 : Code := { maxStack := 4, maxLocals := 2, code := jdk_65_method_131_code, exceptionTable := #[], attributes := #[] }
def k16m1 : Method := { name := "checkLength", desc := "(II)V", sig := { parameters := [.int, .int], returnType := none }, accessFlags := 10, code := some k16c1 }
def k16c2 : Code := { maxStack := 3, maxLocals := 3, code := jdk_65_method_144_code, exceptionTable := #[], attributes := #[] }
def k16m2 : Method := { name := "copyOfRange", desc := "([DII)[D", sig := { parameters := [(.array .double), .int, .int], returnType := some (.array .double) }, accessFlags := 9, code := some k16c2 }
def k16c3 : Code := { maxStack := 6, maxLocals := 5, code := jdk_65_method_145_code, exceptionTable := #[], attributes := #[] }
def k16m3 : Method := { name := "copyOfRangeDouble", desc := "([DII)[D", sig := { parameters := [(.array .double), .int, .int], returnType := some (.array .double) }, accessFlags := 10, code := some k16c3 }
/-- java/util/Arrays -/
def k16 : Class := { plain "java/util/Arrays" (some 0) with
  accessFlags := 49
  interfaces := #[]
  cf := some (fileOf pool16 14 #[.nestMembers #[975, 375, 113, 74]] #[{ accessFlags := 2, nameIndex := 5, descriptorIndex := 6, attributes := #[] }, { accessFlags := 10, nameIndex := 345, descriptorIndex := 346, attributes := #[] }, { accessFlags := 9, nameIndex := 139, descriptorIndex := 370, attributes := #[] }, { accessFlags := 10, nameIndex := 369, descriptorIndex := 370, attributes := #[] }] 49 2 #[] #[{ accessFlags := 26, nameIndex := 715, descriptorIndex := 716, attributes := #[] }, { accessFlags := 26, nameIndex := 719, descriptorIndex := 716, attributes := #[] }, { accessFlags := 4120, nameIndex := 445, descriptorIndex := 117, attributes := #[] }])
  fields := #[{ name := "MIN_ARRAY_SORT_GRAN", type := .int, accessFlags := 26, slot := 0, constantValue := 0 }, { name := "INSERTIONSORT_THRESHOLD", type := .int, accessFlags := 26, slot := 1, constantValue := 0 }, { name := "$assertionsDisabled", type := .boolean, accessFlags := 4120, slot := 2, constantValue := 0 }]
  methods := #[k16m0, k16m1, k16m2, k16m3]
  instanceTypes := #[]
  staticTypes := #[.int, .int, .boolean]
  resolved := Array.replicate 1029 none
  statics := none }

def pool17 : Array CpInfo := pool [(2, .class_ 4), (1, u "java/lang/Object"), (0, u "<init>"), (0, u "()V"), (1, .class_ 10), (1, u "java/lang/System"), (0, u "allowSecurityManager"), (0, u "I"), (16, u "cons"), (0, u "Ljava/io/Console;"), (77, .class_ 110), (1, u "java/lang/System$CallersHolder"), (43, u "initialErrStream"), (0, u "Ljava/io/PrintStream;"), (19, u "security"), (0, u "Ljava/lang/SecurityManager;"), (31, .class_ 209), (0, u "java/lang/System$1"), (7, u "props"), (0, u "Ljava/util/Properties;"), (2, u "lineSeparator"), (0, u "Ljava/lang/String;"), (96, .class_ 321), (1, u "java/lang/System$LoggerFinder"), (5, .class_ 328), (0, u "java/lang/System$Logger"), (67, u "err"), (2, u "out"), (91, u "notSupportedJnuEncoding"), (15, u "in"), (17, u "initialIn"), (0, u "Ljava/io/InputStream;"), (35, u "bootLayer"), (0, u "Ljava/lang/ModuleLayer;"), (99, .class_ 664), (0, u "java/lang/System$2"), (9, u "NEVER"), (2, u "MAYBE"), (49, u "arraycopy"), (0, u "(Ljava/lang/Object;ILjava/lang/Object;II)V"), (72, .class_ 802), (0, u "java/lang/System$Logger$Level")] 31

def k17m0 : Method := { name := "<init>", desc := "()V", sig := { parameters := [], returnType := none }, accessFlags := 2, code := none }
def k17m1 : Method := { name := "arraycopy", desc := "(Ljava/lang/Object;ILjava/lang/Object;II)V", sig := { parameters := [(.object "java/lang/Object"), .int, (.object "java/lang/Object"), .int, .int], returnType := none }, accessFlags := 265, code := none }
/-- java/lang/System -/
def k17 : Class := { plain "java/lang/System" (some 0) with
  accessFlags := 49
  interfaces := #[]
  cf := some (fileOf pool17 8 #[.nestMembers #[319, 327, 801, 108, 663, 208]] #[{ accessFlags := 2, nameIndex := 5, descriptorIndex := 6, attributes := #[] }, { accessFlags := 265, nameIndex := 727, descriptorIndex := 728, attributes := #[] }] 49 2 #[] #[{ accessFlags := 25, nameIndex := 507, descriptorIndex := 526, attributes := #[] }, { accessFlags := 25, nameIndex := 399, descriptorIndex := 155, attributes := #[] }, { accessFlags := 25, nameIndex := 396, descriptorIndex := 155, attributes := #[] }, { accessFlags := 10, nameIndex := 525, descriptorIndex := 526, attributes := #[] }, { accessFlags := 26, nameIndex := 674, descriptorIndex := 12, attributes := #[] }, { accessFlags := 26, nameIndex := 677, descriptorIndex := 12, attributes := #[] }, { accessFlags := 10, nameIndex := 11, descriptorIndex := 12, attributes := #[] }, { accessFlags := 74, nameIndex := 175, descriptorIndex := 176, attributes := #[] }, { accessFlags := 10, nameIndex := 491, descriptorIndex := 222, attributes := #[] }, { accessFlags := 74, nameIndex := 29, descriptorIndex := 30, attributes := #[] }, { accessFlags := 74, nameIndex := 154, descriptorIndex := 155, attributes := #[] }, { accessFlags := 10, nameIndex := 217, descriptorIndex := 218, attributes := #[] }, { accessFlags := 10, nameIndex := 221, descriptorIndex := 222, attributes := #[] }, { accessFlags := 8, nameIndex := 562, descriptorIndex := 563, attributes := #[] }])
  fields := #[{ name := "in", type := (.object "java/io/InputStream"), accessFlags := 25, slot := 0, constantValue := 0 }, { name := "out", type := (.object "java/io/PrintStream"), accessFlags := 25, slot := 1, constantValue := 0 }, { name := "err", type := (.object "java/io/PrintStream"), accessFlags := 25, slot := 2, constantValue := 0 }, { name := "initialIn", type := (.object "java/io/InputStream"), accessFlags := 10, slot := 3, constantValue := 0 }, { name := "NEVER", type := .int, accessFlags := 26, slot := 4, constantValue := 0 }, { name := "MAYBE", type := .int, accessFlags := 26, slot := 5, constantValue := 0 }, { name := "allowSecurityManager", type := .int, accessFlags := 10, slot := 6, constantValue := 0 }, { name := "security", type := (.object "java/lang/SecurityManager"), accessFlags := 74, slot := 7, constantValue := 0 }, { name := "notSupportedJnuEncoding", type := (.object "java/lang/String"), accessFlags := 10, slot := 8, constantValue := 0 }, { name := "cons", type := (.object "java/io/Console"), accessFlags := 74, slot := 9, constantValue := 0 }, { name := "initialErrStream", type := (.object "java/io/PrintStream"), accessFlags := 74, slot := 10, constantValue := 0 }, { name := "props", type := (.object "java/util/Properties"), accessFlags := 10, slot := 11, constantValue := 0 }, { name := "lineSeparator", type := (.object "java/lang/String"), accessFlags := 10, slot := 12, constantValue := 0 }, { name := "bootLayer", type := (.object "java/lang/ModuleLayer"), accessFlags := 8, slot := 13, constantValue := 0 }]
  methods := #[k17m0, k17m1]
  instanceTypes := #[]
  staticTypes := #[(.object "java/io/InputStream"), (.object "java/io/PrintStream"), (.object "java/io/PrintStream"), (.object "java/io/InputStream"), .int, .int, .int, (.object "java/lang/SecurityManager"), (.object "java/lang/String"), (.object "java/io/Console"), (.object "java/io/PrintStream"), (.object "java/util/Properties"), (.object "java/lang/String"), (.object "java/lang/ModuleLayer")]
  resolved := Array.replicate 834 none
  statics := none }

/-- the primitive byte -/
def k18 : Class := { plain "byte" none with kind := .primitive 'B', accessFlags := 0x411 }
/-- [B -/
def k19 : Class := { plain "[B" (some 0) with kind := .array 18 .byte, interfaces := #[11, 12], accessFlags := 1041 }

/-- the primitive int -/
def k20 : Class := { plain "int" none with kind := .primitive 'I', accessFlags := 0x411 }
/-- [I -/
def k21 : Class := { plain "[I" (some 0) with kind := .array 20 .int, interfaces := #[11, 12], accessFlags := 1041 }

/-- [Ljava/lang/Object; -/
def k22 : Class := { plain "[Ljava/lang/Object;" (some 0) with kind := .array 0 (.object "java/lang/Object"), interfaces := #[11, 12], accessFlags := 1041 }

/-- the primitive double -/
def k23 : Class := { plain "double" none with kind := .primitive 'D', accessFlags := 0x411 }
/-- [D -/
def k24 : Class := { plain "[D" (some 0) with kind := .array 23 .double, interfaces := #[11, 12], accessFlags := 1041 }
/-- [[D -/
def k25 : Class := { plain "[[D" (some 0) with kind := .array 24 (.array .double), interfaces := #[11, 12], accessFlags := 1041 }
def heap : Heap := #[{ cls := 13, slots := #[.long 0, .int 0, .ref 1, .ref 2], vm := .statics 13 },
  { cls := 22, slots := #[], vm := .none },
  { cls := 22, slots := #[], vm := .none }]
def classes : Array Class := #[k0, k1, k2, k3, k4, k5, k6, k7, k8, k9, k10, k11, k12, k13, k14, k15, k16, k17, k18, k19, k20, k21, k22, k23, k24, k25]
def interned : List (Array UInt16 × Addr) := []
def slotsUsed : Nat := 4
def theMethod : MethodId := ⟨1, 1⟩
def args0 : Array Value := #[.long 4294967297, .int 3, .int 2, .int 5, .int 1, .int 4]
def aboutOver (below : List Frame) : State where
  vm := { classes := classes, interned := interned.toArray }
  heap := heap
  slotsUsed := slotsUsed
  threads := #[{ frames := .invoking theMethod args0 :: below }]
def below0 : List Frame := [.native { method := ⟨0, 0⟩, args := #[] }]
def about1 : State := aboutOver below0
def p0 : Program := .bare "" "" ""
def e0 : Env := launch0.env 0 0 0
theorem w_frames : about1.frames = Frame.invoking theMethod args0 :: below0 := rfl
set_option maxRecDepth 65536 in
theorem w_args : argsFit about1.vm theMethod args0 = true := by decide +kernel
set_option maxRecDepth 65536 in
theorem w_heap : heapFits about1 = true := by decide +kernel
set_option maxRecDepth 65536 in
theorem w_runnable : about1.curStatus? = some .runnable := by decide +kernel
set_option maxRecDepth 65536 in
theorem w_alone : about1.alone = true := by decide +kernel
set_option maxRecDepth 65536 in
theorem w_named : about1.methodNamed? x = some theMethod := by decide +kernel
set_option maxRecDepth 65536 in
theorem w_hears : about1.hears theMethod below0 = true := by decide +kernel
set_option maxRecDepth 65536 in
theorem w_ripe : about1.ripe theMethod args0 below0 = true := by decide +kernel
theorem w_running : about1.status = .running := rfl
set_option maxRecDepth 65536 in
theorem w_room : about1.hasRoom e0.platform room_1 = true :=
  launch0.hasRoom_least _ room_1 (by decide +kernel) (by decide +kernel) (by decide +kernel) (by decide +kernel) (by decide +kernel) (by decide +kernel)
theorem allAtoms_all (ts : List Jvm.Cond) (a : Array Jvm.Value) (st : Jvm.State) : (allAtoms ts).before a st = ts.all (fun c => c.before a st) := by
  induction ts with
  | nil => rfl
  | cons c t ih =>
    show (Jvm.Cond.and c (allAtoms t)).before a st = _
    rw [Jvm.Cond.before_and, ih, List.all_cons]
def words1 : List Jvm.Cond := Jvm.Cond.code x code maxLocals ret :: tables_1
/-- a 'code' word, met by the world's own term for the bytes: nothing is compared byte by byte -/
theorem code_word {y : MethodName} {bytes : ByteArray} {mx : Nat} {rt : Option FieldType} {a : Array Value} {s : State} {m : MethodId} {meth : Method} {c : Code} (h1 : s.methodNamed? y = some m) (h2 : s.vm.method? m = some meth) (h3 : meth.code = some c) (h4 : c.code = bytes)
    (h5 : (c.maxLocals == mx && c.exceptionTable.isEmpty && decide (c.maxStack ≤ mostOperands) && decide (meth.sig.returnType = rt) && !meth.locks && decide (parseMethodDescriptor y.desc = some meth.sig)) = true) : (Jvm.Cond.code y bytes mx rt).before a s = true := by
  simp only [Bool.and_eq_true, beq_iff_eq, Bool.not_eq_true', decide_eq_true_eq] at h5
  obtain ⟨⟨⟨⟨⟨g1, g2⟩, g3⟩, g4⟩, g5⟩, g6⟩ := h5
  simp [Cond.before, Cond.holds, Cond.value, h1, h2, h3, h4, g1, g2, g3, g4, g5, g6]
def isCode : Jvm.Cond → Bool
  | .code _ _ _ _ => true
  | _ => false
theorem all_split {L : List Jvm.Cond} {P : Jvm.Cond → Bool} (h1 : L.all (fun c => isCode c || P c) = true) (h2 : ∀ c ∈ L.filter isCode, P c = true) : L.all P = true := by
  refine List.all_eq_true.mpr fun c hc => ?_
  have h := List.all_eq_true.mp h1 c hc
  rcases Bool.eq_false_or_eq_true (isCode c) with hi | hi
  · exact h2 c (List.mem_filter.mpr ⟨hc, hi⟩)
  · simpa [hi] using h
set_option maxRecDepth 65536 in
theorem w_c0 : (Jvm.Cond.code x code maxLocals ret).before args0 about1 = true := code_word (m := ⟨1, 1⟩) (meth := k1m1) (c := k1c1) (by decide +kernel) rfl rfl rfl (by decide +kernel)
set_option maxRecDepth 65536 in
theorem w_c1 : (Jvm.Cond.code ({ cls := "java/lang/Math", name := "min", desc := "(II)I" } : Jvm.MethodName) jdk_29_method_69_code (2 : Nat) (Option.some Jvm.ClassFile.FieldType.int)).before args0 about1 = true := code_word (m := ⟨2, 2⟩) (meth := k2m2) (c := k2c2) (by decide +kernel) rfl rfl rfl (by decide +kernel)
set_option maxRecDepth 65536 in
theorem w_c2 : (Jvm.Cond.code ({ cls := "java/lang/Math", name := "max", desc := "(II)I" } : Jvm.MethodName) jdk_29_method_65_code (2 : Nat) (Option.some Jvm.ClassFile.FieldType.int)).before args0 about1 = true := code_word (m := ⟨2, 1⟩) (meth := k2m1) (c := k2c1) (by decide +kernel) rfl rfl rfl (by decide +kernel)
set_option maxRecDepth 65536 in
theorem w_c3 : (Jvm.Cond.code ({ cls := "com/example/ballast/ballast/placement/CuttingPlanes", name := "<init>", desc := "([D[D)V" } : Jvm.MethodName) prog_36_method_1_code (6 : Nat) (Option.none : Option Jvm.ClassFile.FieldType)).before args0 about1 = true := code_word (m := ⟨3, 0⟩) (meth := k3m0) (c := k3c0) (by decide +kernel) rfl rfl rfl (by decide +kernel)
set_option maxRecDepth 65536 in
theorem w_c4 : (Jvm.Cond.code ({ cls := "java/lang/Object", name := "<init>", desc := "()V" } : Jvm.MethodName) object_method_1_code (1 : Nat) (Option.none : Option Jvm.ClassFile.FieldType)).before args0 about1 = true := code_word (m := ⟨0, 0⟩) (meth := k0m0) (c := k0c0) (by decide +kernel) rfl rfl rfl (by decide +kernel)
set_option maxRecDepth 65536 in
theorem w_c5 : (Jvm.Cond.code ({ cls := "java/util/ArrayList", name := "<init>", desc := "()V" } : Jvm.MethodName) jdk_38_method_2_code (1 : Nat) (Option.none : Option Jvm.ClassFile.FieldType)).before args0 about1 = true := code_word (m := ⟨13, 0⟩) (meth := k13m0) (c := k13c0) (by decide +kernel) rfl rfl rfl (by decide +kernel)
set_option maxRecDepth 65536 in
theorem w_c6 : (Jvm.Cond.code ({ cls := "java/util/AbstractList", name := "<init>", desc := "()V" } : Jvm.MethodName) jdk_39_method_1_code (1 : Nat) (Option.none : Option Jvm.ClassFile.FieldType)).before args0 about1 = true := code_word (m := ⟨9, 0⟩) (meth := k9m0) (c := k9c0) (by decide +kernel) rfl rfl rfl (by decide +kernel)
set_option maxRecDepth 65536 in
theorem w_c7 : (Jvm.Cond.code ({ cls := "java/util/AbstractCollection", name := "<init>", desc := "()V" } : Jvm.MethodName) jdk_22_method_1_code (1 : Nat) (Option.none : Option Jvm.ClassFile.FieldType)).before args0 about1 = true := code_word (m := ⟨6, 0⟩) (meth := k6m0) (c := k6c0) (by decide +kernel) rfl rfl rfl (by decide +kernel)
set_option maxRecDepth 65536 in
theorem w_c8 : (Jvm.Cond.code ({ cls := "com/example/ballast/ballast/placement/CuttingPlanes", name := "addColumn", desc := "([DD)V" } : Jvm.MethodName) prog_36_method_7_code (5 : Nat) (Option.none : Option Jvm.ClassFile.FieldType)).before args0 about1 = true := code_word (m := ⟨3, 5⟩) (meth := k3m5) (c := k3c5) (by decide +kernel) rfl rfl rfl (by decide +kernel)
set_option maxRecDepth 65536 in
theorem w_c9 : (Jvm.Cond.code ({ cls := "java/util/ArrayList", name := "size", desc := "()I" } : Jvm.MethodName) jdk_38_method_8_code (1 : Nat) (Option.some Jvm.ClassFile.FieldType.int)).before args0 about1 = true := code_word (m := ⟨13, 3⟩) (meth := k13m3) (c := k13c3) (by decide +kernel) rfl rfl rfl (by decide +kernel)
set_option maxRecDepth 65536 in
theorem w_c10 : (Jvm.Cond.code ({ cls := "java/util/ArrayList", name := "add", desc := "(Ljava/lang/Object;)Z" } : Jvm.MethodName) jdk_38_method_25_code (2 : Nat) (Option.some Jvm.ClassFile.FieldType.boolean)).before args0 about1 = true := code_word (m := ⟨13, 7⟩) (meth := k13m7) (c := k13c7) (by decide +kernel) rfl rfl rfl (by decide +kernel)
set_option maxRecDepth 65536 in
theorem w_c11 : (Jvm.Cond.code ({ cls := "java/util/ArrayList", name := "add", desc := "(Ljava/lang/Object;[Ljava/lang/Object;I)V" } : Jvm.MethodName) jdk_38_method_24_code (4 : Nat) (Option.none : Option Jvm.ClassFile.FieldType)).before args0 about1 = true := code_word (m := ⟨13, 6⟩) (meth := k13m6) (c := k13c6) (by decide +kernel) rfl rfl rfl (by decide +kernel)
set_option maxRecDepth 65536 in
theorem w_c12 : (Jvm.Cond.code ({ cls := "java/util/ArrayList", name := "grow", desc := "()[Ljava/lang/Object;" } : Jvm.MethodName) jdk_38_method_7_code (1 : Nat) (Option.some (Jvm.ClassFile.FieldType.array (Jvm.ClassFile.FieldType.object "java/lang/Object")))).before args0 about1 = true := code_word (m := ⟨13, 2⟩) (meth := k13m2) (c := k13c2) (by decide +kernel) rfl rfl rfl (by decide +kernel)
set_option maxRecDepth 65536 in
theorem w_c13 : (Jvm.Cond.code ({ cls := "java/util/ArrayList", name := "grow", desc := "(I)[Ljava/lang/Object;" } : Jvm.MethodName) jdk_38_method_6_code (4 : Nat) (Option.some (Jvm.ClassFile.FieldType.array (Jvm.ClassFile.FieldType.object "java/lang/Object")))).before args0 about1 = true := code_word (m := ⟨13, 1⟩) (meth := k13m1) (c := k13c1) (by decide +kernel) rfl rfl rfl (by decide +kernel)
set_option maxRecDepth 65536 in
theorem w_c14 : (Jvm.Cond.code ({ cls := "com/example/ballast/ballast/placement/CuttingPlanes", name := "add", desc := "(D[D)V" } : Jvm.MethodName) prog_36_method_2_code (6 : Nat) (Option.none : Option Jvm.ClassFile.FieldType)).before args0 about1 = true := code_word (m := ⟨3, 1⟩) (meth := k3m1) (c := k3c1) (by decide +kernel) rfl rfl rfl (by decide +kernel)
set_option maxRecDepth 65536 in
theorem w_c15 : (Jvm.Cond.code ({ cls := "com/example/ballast/ballast/placement/CuttingPlanes", name := "start", desc := "()V" } : Jvm.MethodName) prog_36_method_8_code (8 : Nat) (Option.none : Option Jvm.ClassFile.FieldType)).before args0 about1 = true := code_word (m := ⟨3, 6⟩) (meth := k3m6) (c := k3c6) (by decide +kernel) rfl rfl rfl (by decide +kernel)
set_option maxRecDepth 65536 in
theorem w_c16 : (Jvm.Cond.code ({ cls := "java/util/ArrayList", name := "get", desc := "(I)Ljava/lang/Object;" } : Jvm.MethodName) jdk_38_method_20_code (2 : Nat) (Option.some (Jvm.ClassFile.FieldType.object "java/lang/Object"))).before args0 about1 = true := code_word (m := ⟨13, 5⟩) (meth := k13m5) (c := k13c5) (by decide +kernel) rfl rfl rfl (by decide +kernel)
set_option maxRecDepth 65536 in
theorem w_c17 : (Jvm.Cond.code ({ cls := "java/util/Objects", name := "checkIndex", desc := "(II)I" } : Jvm.MethodName) jdk_31_method_17_code (2 : Nat) (Option.some Jvm.ClassFile.FieldType.int)).before args0 about1 = true := code_word (m := ⟨14, 1⟩) (meth := k14m1) (c := k14c1) (by decide +kernel) rfl rfl rfl (by decide +kernel)
set_option maxRecDepth 65536 in
theorem w_c18 : (Jvm.Cond.code ({ cls := "jdk/internal/util/Preconditions", name := "checkIndex", desc := "(IILjava/util/function/BiFunction;)I" } : Jvm.MethodName) jdk_41_method_11_code (3 : Nat) (Option.some Jvm.ClassFile.FieldType.int)).before args0 about1 = true := code_word (m := ⟨15, 1⟩) (meth := k15m1) (c := k15c1) (by decide +kernel) rfl rfl rfl (by decide +kernel)
set_option maxRecDepth 65536 in
theorem w_c19 : (Jvm.Cond.code ({ cls := "java/util/ArrayList", name := "elementData", desc := "(I)Ljava/lang/Object;" } : Jvm.MethodName) jdk_38_method_18_code (2 : Nat) (Option.some (Jvm.ClassFile.FieldType.object "java/lang/Object"))).before args0 about1 = true := code_word (m := ⟨13, 4⟩) (meth := k13m4) (c := k13c4) (by decide +kernel) rfl rfl rfl (by decide +kernel)
set_option maxRecDepth 65536 in
theorem w_c20 : (Jvm.Cond.code ({ cls := "com/example/ballast/ballast/placement/CuttingPlanes", name := "moveWalls", desc := "(IDD)V" } : Jvm.MethodName) prog_36_method_4_code (6 : Nat) (Option.none : Option Jvm.ClassFile.FieldType)).before args0 about1 = true := code_word (m := ⟨3, 3⟩) (meth := k3m3) (c := k3c3) (by decide +kernel) rfl rfl rfl (by decide +kernel)
set_option maxRecDepth 65536 in
theorem w_c21 : (Jvm.Cond.code ({ cls := "com/example/ballast/ballast/placement/CuttingPlanes", name := "solve", desc := "()D" } : Jvm.MethodName) prog_36_method_3_code (14 : Nat) (Option.some Jvm.ClassFile.FieldType.double)).before args0 about1 = true := code_word (m := ⟨3, 2⟩) (meth := k3m2) (c := k3c2) (by decide +kernel) rfl rfl rfl (by decide +kernel)
set_option maxRecDepth 65536 in
theorem w_c22 : (Jvm.Cond.code ({ cls := "com/example/ballast/ballast/placement/CuttingPlanes", name := "updateMultipliers", desc := "()V" } : Jvm.MethodName) prog_36_method_9_code (5 : Nat) (Option.none : Option Jvm.ClassFile.FieldType)).before args0 about1 = true := code_word (m := ⟨3, 7⟩) (meth := k3m7) (c := k3c7) (by decide +kernel) rfl rfl rfl (by decide +kernel)
set_option maxRecDepth 65536 in
theorem w_c23 : (Jvm.Cond.code ({ cls := "com/example/ballast/ballast/placement/CuttingPlanes", name := "dot", desc := "([DI)D" } : Jvm.MethodName) prog_36_method_12_code (7 : Nat) (Option.some Jvm.ClassFile.FieldType.double)).before args0 about1 = true := code_word (m := ⟨3, 8⟩) (meth := k3m8) (c := k3c8) (by decide +kernel) rfl rfl rfl (by decide +kernel)
set_option maxRecDepth 65536 in
theorem w_c24 : (Jvm.Cond.code ({ cls := "com/example/ballast/ballast/placement/CuttingPlanes", name := "point", desc := "()[D" } : Jvm.MethodName) prog_36_method_5_code (1 : Nat) (Option.some (Jvm.ClassFile.FieldType.array Jvm.ClassFile.FieldType.double))).before args0 about1 = true := code_word (m := ⟨3, 4⟩) (meth := k3m4) (c := k3c4) (by decide +kernel) rfl rfl rfl (by decide +kernel)
set_option maxRecDepth 65536 in
theorem w_c25 : (Jvm.Cond.code ({ cls := "java/util/Arrays", name := "copyOfRange", desc := "([DII)[D" } : Jvm.MethodName) jdk_65_method_144_code (3 : Nat) (Option.some (Jvm.ClassFile.FieldType.array Jvm.ClassFile.FieldType.double))).before args0 about1 = true := code_word (m := ⟨16, 2⟩) (meth := k16m2) (c := k16c2) (by decide +kernel) rfl rfl rfl (by decide +kernel)
set_option maxRecDepth 65536 in
theorem w_c26 : (Jvm.Cond.code ({ cls := "java/util/Arrays", name := "copyOfRangeDouble", desc := "([DII)[D" } : Jvm.MethodName) jdk_65_method_145_code (5 : Nat) (Option.some (Jvm.ClassFile.FieldType.array Jvm.ClassFile.FieldType.double))).before args0 about1 = true := code_word (m := ⟨16, 3⟩) (meth := k16m3) (c := k16c3) (by decide +kernel) rfl rfl rfl (by decide +kernel)
set_option maxRecDepth 65536 in
theorem w_c27 : (Jvm.Cond.code ({ cls := "java/util/Arrays", name := "checkLength", desc := "(II)V" } : Jvm.MethodName) jdk_65_method_131_code (2 : Nat) (Option.none : Option Jvm.ClassFile.FieldType)).before args0 about1 = true := code_word (m := ⟨16, 1⟩) (meth := k16m1) (c := k16c1) (by decide +kernel) rfl rfl rfl (by decide +kernel)
set_option maxRecDepth 65536 in
theorem w_c28 : (Jvm.Cond.code ({ cls := "com/example/ballast/ballast/placement/CuttingPlanesMoveWallsPinLaw", name := "atWall", desc := "(DIDD)Z" } : Jvm.MethodName) method_3_code (7 : Nat) (Option.some Jvm.ClassFile.FieldType.boolean)).before args0 about1 = true := code_word (m := ⟨1, 2⟩) (meth := k1m2) (c := k1c2) (by decide +kernel) rfl rfl rfl (by decide +kernel)
def codes1 : List Jvm.Cond := [Jvm.Cond.code x code maxLocals ret, Jvm.Cond.code ({ cls := "java/lang/Math", name := "min", desc := "(II)I" } : Jvm.MethodName) jdk_29_method_69_code (2 : Nat) (Option.some Jvm.ClassFile.FieldType.int), Jvm.Cond.code ({ cls := "java/lang/Math", name := "max", desc := "(II)I" } : Jvm.MethodName) jdk_29_method_65_code (2 : Nat) (Option.some Jvm.ClassFile.FieldType.int), Jvm.Cond.code ({ cls := "com/example/ballast/ballast/placement/CuttingPlanes", name := "<init>", desc := "([D[D)V" } : Jvm.MethodName) prog_36_method_1_code (6 : Nat) (Option.none : Option Jvm.ClassFile.FieldType), Jvm.Cond.code ({ cls := "java/lang/Object", name := "<init>", desc := "()V" } : Jvm.MethodName) object_method_1_code (1 : Nat) (Option.none : Option Jvm.ClassFile.FieldType), Jvm.Cond.code ({ cls := "java/util/ArrayList", name := "<init>", desc := "()V" } : Jvm.MethodName) jdk_38_method_2_code (1 : Nat) (Option.none : Option Jvm.ClassFile.FieldType), Jvm.Cond.code ({ cls := "java/util/AbstractList", name := "<init>", desc := "()V" } : Jvm.MethodName) jdk_39_method_1_code (1 : Nat) (Option.none : Option Jvm.ClassFile.FieldType), Jvm.Cond.code ({ cls := "java/util/AbstractCollection", name := "<init>", desc := "()V" } : Jvm.MethodName) jdk_22_method_1_code (1 : Nat) (Option.none : Option Jvm.ClassFile.FieldType), Jvm.Cond.code ({ cls := "com/example/ballast/ballast/placement/CuttingPlanes", name := "addColumn", desc := "([DD)V" } : Jvm.MethodName) prog_36_method_7_code (5 : Nat) (Option.none : Option Jvm.ClassFile.FieldType), Jvm.Cond.code ({ cls := "java/util/ArrayList", name := "size", desc := "()I" } : Jvm.MethodName) jdk_38_method_8_code (1 : Nat) (Option.some Jvm.ClassFile.FieldType.int), Jvm.Cond.code ({ cls := "java/util/ArrayList", name := "add", desc := "(Ljava/lang/Object;)Z" } : Jvm.MethodName) jdk_38_method_25_code (2 : Nat) (Option.some Jvm.ClassFile.FieldType.boolean), Jvm.Cond.code ({ cls := "java/util/ArrayList", name := "add", desc := "(Ljava/lang/Object;[Ljava/lang/Object;I)V" } : Jvm.MethodName) jdk_38_method_24_code (4 : Nat) (Option.none : Option Jvm.ClassFile.FieldType), Jvm.Cond.code ({ cls := "java/util/ArrayList", name := "grow", desc := "()[Ljava/lang/Object;" } : Jvm.MethodName) jdk_38_method_7_code (1 : Nat) (Option.some (Jvm.ClassFile.FieldType.array (Jvm.ClassFile.FieldType.object "java/lang/Object"))), Jvm.Cond.code ({ cls := "java/util/ArrayList", name := "grow", desc := "(I)[Ljava/lang/Object;" } : Jvm.MethodName) jdk_38_method_6_code (4 : Nat) (Option.some (Jvm.ClassFile.FieldType.array (Jvm.ClassFile.FieldType.object "java/lang/Object"))), Jvm.Cond.code ({ cls := "com/example/ballast/ballast/placement/CuttingPlanes", name := "add", desc := "(D[D)V" } : Jvm.MethodName) prog_36_method_2_code (6 : Nat) (Option.none : Option Jvm.ClassFile.FieldType), Jvm.Cond.code ({ cls := "com/example/ballast/ballast/placement/CuttingPlanes", name := "start", desc := "()V" } : Jvm.MethodName) prog_36_method_8_code (8 : Nat) (Option.none : Option Jvm.ClassFile.FieldType), Jvm.Cond.code ({ cls := "java/util/ArrayList", name := "get", desc := "(I)Ljava/lang/Object;" } : Jvm.MethodName) jdk_38_method_20_code (2 : Nat) (Option.some (Jvm.ClassFile.FieldType.object "java/lang/Object")), Jvm.Cond.code ({ cls := "java/util/Objects", name := "checkIndex", desc := "(II)I" } : Jvm.MethodName) jdk_31_method_17_code (2 : Nat) (Option.some Jvm.ClassFile.FieldType.int), Jvm.Cond.code ({ cls := "jdk/internal/util/Preconditions", name := "checkIndex", desc := "(IILjava/util/function/BiFunction;)I" } : Jvm.MethodName) jdk_41_method_11_code (3 : Nat) (Option.some Jvm.ClassFile.FieldType.int), Jvm.Cond.code ({ cls := "java/util/ArrayList", name := "elementData", desc := "(I)Ljava/lang/Object;" } : Jvm.MethodName) jdk_38_method_18_code (2 : Nat) (Option.some (Jvm.ClassFile.FieldType.object "java/lang/Object")), Jvm.Cond.code ({ cls := "com/example/ballast/ballast/placement/CuttingPlanes", name := "moveWalls", desc := "(IDD)V" } : Jvm.MethodName) prog_36_method_4_code (6 : Nat) (Option.none : Option Jvm.ClassFile.FieldType), Jvm.Cond.code ({ cls := "com/example/ballast/ballast/placement/CuttingPlanes", name := "solve", desc := "()D" } : Jvm.MethodName) prog_36_method_3_code (14 : Nat) (Option.some Jvm.ClassFile.FieldType.double), Jvm.Cond.code ({ cls := "com/example/ballast/ballast/placement/CuttingPlanes", name := "updateMultipliers", desc := "()V" } : Jvm.MethodName) prog_36_method_9_code (5 : Nat) (Option.none : Option Jvm.ClassFile.FieldType), Jvm.Cond.code ({ cls := "com/example/ballast/ballast/placement/CuttingPlanes", name := "dot", desc := "([DI)D" } : Jvm.MethodName) prog_36_method_12_code (7 : Nat) (Option.some Jvm.ClassFile.FieldType.double), Jvm.Cond.code ({ cls := "com/example/ballast/ballast/placement/CuttingPlanes", name := "point", desc := "()[D" } : Jvm.MethodName) prog_36_method_5_code (1 : Nat) (Option.some (Jvm.ClassFile.FieldType.array Jvm.ClassFile.FieldType.double)), Jvm.Cond.code ({ cls := "java/util/Arrays", name := "copyOfRange", desc := "([DII)[D" } : Jvm.MethodName) jdk_65_method_144_code (3 : Nat) (Option.some (Jvm.ClassFile.FieldType.array Jvm.ClassFile.FieldType.double)), Jvm.Cond.code ({ cls := "java/util/Arrays", name := "copyOfRangeDouble", desc := "([DII)[D" } : Jvm.MethodName) jdk_65_method_145_code (5 : Nat) (Option.some (Jvm.ClassFile.FieldType.array Jvm.ClassFile.FieldType.double)), Jvm.Cond.code ({ cls := "java/util/Arrays", name := "checkLength", desc := "(II)V" } : Jvm.MethodName) jdk_65_method_131_code (2 : Nat) (Option.none : Option Jvm.ClassFile.FieldType), Jvm.Cond.code ({ cls := "com/example/ballast/ballast/placement/CuttingPlanesMoveWallsPinLaw", name := "atWall", desc := "(DIDD)Z" } : Jvm.MethodName) method_3_code (7 : Nat) (Option.some Jvm.ClassFile.FieldType.boolean)]
set_option maxRecDepth 65536 in
theorem codes_eq : words1.filter isCode = codes1 := rfl
theorem w_codes : ∀ c ∈ words1.filter isCode, c.before args0 about1 = true := by
  rw [codes_eq]
  intro c hc
  simp only [codes1, List.mem_cons, List.not_mem_nil, or_false] at hc
  rcases hc with rfl | rfl | rfl | rfl | rfl | rfl | rfl | rfl | rfl | rfl | rfl | rfl | rfl | rfl | rfl | rfl | rfl | rfl | rfl | rfl | rfl | rfl | rfl | rfl | rfl | rfl | rfl | rfl | rfl
  · exact w_c0
  · exact w_c1
  · exact w_c2
  · exact w_c3
  · exact w_c4
  · exact w_c5
  · exact w_c6
  · exact w_c7
  · exact w_c8
  · exact w_c9
  · exact w_c10
  · exact w_c11
  · exact w_c12
  · exact w_c13
  · exact w_c14
  · exact w_c15
  · exact w_c16
  · exact w_c17
  · exact w_c18
  · exact w_c19
  · exact w_c20
  · exact w_c21
  · exact w_c22
  · exact w_c23
  · exact w_c24
  · exact w_c25
  · exact w_c26
  · exact w_c27
  · exact w_c28
set_option maxRecDepth 65536 in
theorem w_t1 : (words1.take 24).all (fun c => isCode c || c.before args0 about1) = true := by decide +kernel
set_option maxRecDepth 65536 in
theorem w_t2 : ((words1.drop 24).take 24).all (fun c => isCode c || c.before args0 about1) = true := by decide +kernel
set_option maxRecDepth 65536 in
theorem w_t3 : (((words1.drop 24).drop 24).take 24).all (fun c => isCode c || c.before args0 about1) = true := by decide +kernel
set_option maxRecDepth 65536 in
theorem w_t4 : ((((words1.drop 24).drop 24).drop 24).take 24).all (fun c => isCode c || c.before args0 about1) = true := by decide +kernel
set_option maxRecDepth 65536 in
theorem w_t5 : (((((words1.drop 24).drop 24).drop 24).drop 24).take 24).all (fun c => isCode c || c.before args0 about1) = true := by decide +kernel
set_option maxRecDepth 65536 in
theorem w_t6 : ((((((words1.drop 24).drop 24).drop 24).drop 24).drop 24).take 24).all (fun c => isCode c || c.before args0 about1) = true := by decide +kernel
set_option maxRecDepth 65536 in
theorem w_t7 : (((((((words1.drop 24).drop 24).drop 24).drop 24).drop 24).drop 24).take 24).all (fun c => isCode c || c.before args0 about1) = true := by decide +kernel
set_option maxRecDepth 65536 in
theorem w_t8 : (((((((words1.drop 24).drop 24).drop 24).drop 24).drop 24).drop 24).drop 24).all (fun c => isCode c || c.before args0 about1) = true := by decide +kernel
theorem w_tables : (allAtoms (Jvm.Cond.code x code maxLocals ret :: tables_1)).before args0 about1 = true := by
  rw [allAtoms_all]
  show words1.all (fun c => c.before args0 about1) = true
  refine all_split ?_ w_codes
  rw [← List.take_append_drop 24 words1, List.all_append, w_t1, ← List.take_append_drop 24 (words1.drop 24), List.all_append, w_t2, ← List.take_append_drop 24 ((words1.drop 24).drop 24), List.all_append, w_t3, ← List.take_append_drop 24 (((words1.drop 24).drop 24).drop 24), List.all_append, w_t4, ← List.take_append_drop 24 ((((words1.drop 24).drop 24).drop 24).drop 24), List.all_append, w_t5, ← List.take_append_drop 24 (((((words1.drop 24).drop 24).drop 24).drop 24).drop 24), List.all_append, w_t6, ← List.take_append_drop 24 ((((((words1.drop 24).drop 24).drop 24).drop 24).drop 24).drop 24), List.all_append, w_t7, w_t8]
  rfl
set_option maxRecDepth 65536 in
theorem w_rest : rest_1_c.before args0 about1 = true := by decide +kernel
set_option maxRecDepth 65536 in
theorem w_case : (Jvm.Cond.and given_1 narrow_1).before args0 about1 = true := by decide +kernel
theorem w_applies : (headSpec (Jvm.Cond.code x code maxLocals ret :: tables_1) room_1).applies x e0.platform about1 = true :=
  (Spec.applies_iff w_frames).mpr ⟨w_running, w_runnable, w_alone, w_named, w_hears, w_ripe, w_room, w_tables⟩
theorem atStart : AtStart classFile x code maxLocals ret World_1 tables_1 room_1 Calls_1 rest_1 Pre_1 launch0 p0 e0 about1 theMethod args0 below0 :=
  ⟨lists_1, trivial, launch0.admits_env _ _ _, launch0.least_env, fairChoices_fair.cas, fairChoices_fair.clock, w_frames, w_args, w_heap, w_applies, trivial, w_rest, w_case⟩
end start1
theorem witness_1 : WitnessClaimed_1 := ⟨start1.p0, start1.e0, start1.about1, start1.theMethod, start1.args0, start1.below0, start1.atStart⟩
end Jvm.Pilot.@@N@@
