import JvmDerived
import JvmDerived.Pilot.@@N@@Statement
import JvmDerived.Pilot.@@N@@Code
set_option linter.unusedVariables false
set_option linter.unusedSimpArgs false
@@BLOCK:NumsL.lean.txt@@
namespace Jvm.RoadKit
open Sem ClassFile Op Lib Jvm.Stand Jvm.Free Jvm.LawKit
section New
variable {p : Program} {l : Launch} {e : Env} {R : Room} {s : State} {m : MethodId} {args : Array Value} {below : List Frame} {meth : Method} {c : Code} {T : State} {locs : List Loc} {cells slots : Nat}
theorem retI (X : Stand p l e R s m args below meth c T locs cells slots) (hx : p.tables.exec = Jvm.exec) {pc : Nat} {Ls : Array Slot} {z : Int32} {rest : List Value} (hret : meth.sig.returnType = some .int) (hd : decode c.code pc = .ok (.ireturn, 1)) {fs : List Frame}
    (hl : ∀ (f : JFrame) (acts : List Action), f.method = m → f.locked = none → f.entered = [] → (doReturn e (T.setTop f) acts (some (.int z))).1 = T.setFrames fs) : Steps p.tables e below (T.setTop (mkF m pc Ls (.int z :: rest))) (T.setFrames fs) := by
  have hm' : T.vm.method? m = some meth := X.method'
  have hn : narrow .int (.int z) = .int z := rfl
  show Steps p.tables e below (T.setTop { method := m, pc := pc, locals := Ls, stack := _ :: rest, locked := none }) _
  jvm_step X.here [X.here.top, hx, hd, hm', hret, hn]
  first | (intro acts; rw [hl _ acts rfl rfl rfl]) | rw [hl _ _ rfl rfl rfl]
  exact Steps.refl _
end New
end Jvm.RoadKit
namespace Jvm.Pilot.@@N@@
open Jvm Jvm.ClassFile Sem Op Lib Jvm.Free Jvm.Stand Jvm.LawKit Jvm.RoadKit Bundle Jvm.Pilot.@@N@@.Jvm.D
theorem og {tb : Tables} {e : Env} {below : List Frame} {A B : State} {P : State → Outcome → Prop} (st : ∀ t, Steps tb e below B t → Steps tb e below A t) (h : ∃ s₂ o, Steps tb e below B s₂ ∧ P s₂ o) : ∃ s₂ o, Steps tb e below A s₂ ∧ P s₂ o := by
  obtain ⟨s₂, o, h1, h2⟩ := h
  exact ⟨s₂, o, st _ h1, h2⟩
theorem ow {av0 : Array Value} {Z : State} (hw : ∀ d ∈ tables_1, d.before av0 Z = true) (i : Nat) {d : Jvm.Cond} (h : tables_1[i]? = some d) : d.before av0 Z = true := hw d (List.mem_of_getElem? h)
theorem own_gj {tb : Tables} {e : Env} {below : List Frame} {A B : State} {P : State → Heap → List Loc → Prop} {F : State → State} (st : ∀ t, Steps tb e below B t → Steps tb e below A t) (h : ∃ T' h' L', P T' h' L' ∧ ∀ t, Steps tb e below (F T') t → Steps tb e below B t) : ∃ T' h' L', P T' h' L' ∧ ∀ t, Steps tb e below (F T') t → Steps tb e below A t := by
  obtain ⟨T', h', L', h1, h2⟩ := h
  exact ⟨T', h', L', h1, fun t k => st t (h2 t k)⟩
theorem own_stake {Z : State} {h h' : Heap} {C n d D : String} {v : Value} {a : Addr} (F : Sta Z h C n d v) (K : Keep h h' [a]) (E : Exa Z h a D) : Sta Z h' C n d v := by
  obtain ⟨cf, i, k, f, st, cell, h1, h2, h3, h4, h5, h6, h7⟩ := F
  refine ⟨cf, i, k, f, st, cell, h1, h2, h3, h4, K.2.1 _ _ h5 (fun q => ?_), h6, h7⟩
  obtain rfl := List.mem_singleton.mp q
  obtain ⟨c2, k2, e1, -, -, e4, -⟩ := E
  cases e1.symm.trans h5
  rw [e4] at h6; cases h6
theorem own_stak {Z : State} {h h' : Heap} {C n d : String} {v : Value} (F : Sta Z h C n d v) (K : Keep h h' []) : Sta Z h' C n d v := by
  obtain ⟨cf, i, k, f, st, cell, h1, h2, h3, h4, h5, r⟩ := F
  exact ⟨cf, i, k, f, st, cell, h1, h2, h3, h4, K.2.1 _ _ h5 nin0, r⟩
abbrev own_m1 : MethodName := ⟨"com/example/cutoff/cutoff/store/TextCursorAtEndPinLaw", "law", "(IIIII)Z"⟩
abbrev own_m2 : MethodName := ⟨"com/example/cutoff/cutoff/store/TextCursorAtEndPinLaw", "str", "(CCCI)Ljava/lang/String;"⟩
abbrev own_m3 : MethodName := ⟨"java/lang/String", "<init>", "([C)V"⟩
abbrev own_m4 : MethodName := ⟨"java/lang/String", "<init>", "([CIILjava/lang/Void;)V"⟩
abbrev own_m5 : MethodName := ⟨"java/lang/Object", "<init>", "()V"⟩
abbrev own_m6 : MethodName := ⟨"com/example/cutoff/cutoff/store/TextCursorAtEndPinLaw", "suffix", "(CCCII)Ljava/lang/String;"⟩
abbrev own_m7 : MethodName := ⟨"com/example/cutoff/cutoff/store/TextCursor", "<init>", "(Ljava/lang/String;Ljava/lang/String;I)V"⟩
abbrev own_m8 : MethodName := ⟨"java/lang/String", "indexOf", "(I)I"⟩
abbrev own_m9 : MethodName := ⟨"java/lang/String", "indexOf", "(II)I"⟩
abbrev own_m10 : MethodName := ⟨"java/lang/String", "isLatin1", "()Z"⟩
abbrev own_m11 : MethodName := ⟨"java/lang/String", "length", "()I"⟩
abbrev own_m12 : MethodName := ⟨"java/lang/String", "coder", "()B"⟩
abbrev own_m13 : MethodName := ⟨"java/lang/StringLatin1", "indexOf", "([BIII)I"⟩
abbrev own_m14 : MethodName := ⟨"java/lang/StringLatin1", "canEncode", "(I)Z"⟩
abbrev own_m15 : MethodName := ⟨"java/lang/Math", "max", "(II)I"⟩
abbrev own_m16 : MethodName := ⟨"java/lang/Math", "min", "(II)I"⟩
abbrev own_m17 : MethodName := ⟨"com/example/cutoff/cutoff/store/TextCursor", "atEnd", "()Z"⟩
abbrev own_m18 : MethodName := ⟨"com/example/cutoff/cutoff/store/TextCursor", "consume", "(Ljava/lang/String;)Z"⟩
abbrev own_m19 : MethodName := ⟨"com/example/cutoff/cutoff/store/TextCursor", "lookingAt", "(Ljava/lang/String;)Z"⟩
abbrev own_m20 : MethodName := ⟨"java/lang/String", "startsWith", "(Ljava/lang/String;I)Z"⟩
abbrev own_m21 : MethodName := ⟨"jdk/internal/util/ArraysSupport", "mismatch", "([BI[BII)I"⟩
abbrev own_m22 : MethodName := ⟨"com/example/cutoff/cutoff/store/TextCursor", "position", "()I"⟩
abbrev own_m23 : MethodName := ⟨"java/lang/StringUTF16", "compress", "([CII)[B"⟩
abbrev own_m24 : MethodName := ⟨"java/lang/StringUTF16", "compress", "([CI[BII)I"⟩
abbrev own_m25 : MethodName := ⟨"java/lang/StringUTF16", "coderFromArrayLen", "([BI)B"⟩
abbrev own_m26 : MethodName := ⟨"java/lang/StringLatin1", "indexOfChar", "([BIII)I"⟩
abbrev oU : Slot := .unset
set_option maxRecDepth 65536
set_option maxHeartbeats 40000000
theorem own_wS {av0 : Array Value} {Z : State} (hw : ∀ d ∈ tables_1, d.before av0 Z = true) : ∀ a ∈ Bundle.stringAtoms, a.before av0 Z = true := by
  intro a ha
  simp only [Bundle.stringAtoms, List.mem_cons, List.not_mem_nil, or_false] at ha
  rcases ha with rfl | rfl | rfl | rfl | rfl | rfl | rfl
  · exact (ow hw 7 rfl)
  · exact (ow hw 6 rfl)
  · exact (ow hw 20 rfl)
  · exact (ow hw 21 rfl)
  · exact (ow hw 22 rfl)
  · exact (ow hw 23 rfl)
  · exact (ow hw 24 rfl)
def own_EL : List (String × Nat) := [("java/lang/String", 7), ("com/example/cutoff/cutoff/store/TextCursorAtEndPinLaw", 25), ("com/example/cutoff/cutoff/store/TextCursor", 26), ("com/example/cutoff/cutoff/store/TextCursor", 28)]
def own_maxi (a b : Int32) : Int32 := if a < b then b else a
def own_mini (a b : Int32) : Int32 := if b < a then b else a
def own_byte (c : Int32) : Int32 := nar .byte (c.toInt8.toInt32)
theorem own_safe_null {Z : State} {vm : Vm} {h : Heap} {x : Addr} {EL : List (String × Nat)} (hal : Z.vm.Alike vm) (E : Exa Z h x "java/lang/String") (F : Fld Z h x "java/lang/String" "value" "[B" .null) : Safe Z EL vm h x := fun B => by
  obtain ⟨p, -, u, a, -, q, -, G, rfl | rfl⟩ := B
  · obtain ⟨cS, ⟨⟨s1, s2, s3, ⟨cv, kv, iv, s4, s4'⟩, -, s6, -, s8, -⟩, -⟩, -⟩ := G
    obtain ⟨cell, cf, k, i, f, h1, h2, -, -, -, -, h7⟩ := F
    obtain ⟨k', hi, -⟩ := State.fieldFound?_setVm (s := Z) hal h2
    have s4a : (Z.setVm vm).fieldFound? "java/lang/String" "value" "[B" = some (cv, kv, iv, q.fSV) := s4
    cases hi.symm.trans s4a
    cases (show h[q.sa]? = some q.sC from s1).symm.trans h1
    have := s8.symm.trans h7
    cases this
  · obtain ⟨cell, k, e1, e2, e3, -, -⟩ := E
    cases (show h[q.sd]? = some q.SA from G.hd).symm.trans e1
    obtain ⟨cS, -, -, f, -⟩ := G
    have f' : vm.findClass "[B" = some q.SA.cls := f
    rw [hal.findClass] at f'
    obtain ⟨k1, q1, q2⟩ := Vm.findClass_spec f'
    obtain ⟨k2, q3, q4⟩ := Vm.findClass_spec e2
    cases q1.symm.trans q3
    exact absurd (q2.symm.trans q4) (by decide)
theorem own_shr (z : Int32) : z >>> ((0 : Int32) &&& 31) = z := by
  apply Int32.toInt_inj.mp
  have := c_ishr z 0 0 (by decide)
  rw [this]; simp
theorem d14_0 : decode jdk_29_method_65_code 0 = .ok (.iload_n 0, 1) := by decide +kernel
theorem d14_1 : decode jdk_29_method_65_code 1 = .ok (.iload_n 1, 1) := by decide +kernel
theorem d14_2 : decode jdk_29_method_65_code 2 = .ok (.if_icmp .lt 7, 3) := by decide +kernel
theorem d14_5 : decode jdk_29_method_65_code 5 = .ok (.iload_n 0, 1) := by decide +kernel
theorem d14_6 : decode jdk_29_method_65_code 6 = .ok (.goto 4, 3) := by decide +kernel
theorem d14_9 : decode jdk_29_method_65_code 9 = .ok (.iload_n 1, 1) := by decide +kernel
theorem d14_10 : decode jdk_29_method_65_code 10 = .ok (.ireturn, 1) := by decide +kernel
theorem ef_14 (m : MethodId) (p0 : Int32) (p1 : Int32) : entryFrame m #[(.int p0), (.int p1)] 2 = mkF m 0 #[iv p0, iv p1] [] := by first | (simp [entryFrame, mkF, argsToLocals, Value.category]; done) | rfl
def Q14 (Z : State) (p0 : Int32) (p1 : Int32) (h0 : Heap) (n0 : Nat) (v : Option Value) (h : Heap) (L : List Loc) : Prop := v = some (.int (own_maxi p0 p1)) ∧ Fr n0 L ∧ h = h0
theorem rm14 (l : Launch) (Z : State) (av0 : Array Value) (hw : ∀ d ∈ tables_1, d.before av0 Z = true) (ws : List Jvm.Cond) (p0 : Int32) (p1 : Int32) (h0 : Heap) (n0 : Nat) (Z0 : n0 ≤ h0.size) :
    MetFree l own_m15 (head1 (Jvm.Cond.code own_m15 jdk_29_method_65_code 2 (some .int) :: ws) ({ frames := 0, cells := 0, slots := 0, locals := 0 } : Room)) (fun a U => a = #[(.int p0), (.int p1)] ∧ Z.Warmed39 U.vm ∧ U.heap = h0) (fun _ _ _ _ _ => True) (fun _ U o U' => ∃ v L, o = .returned v ∧ Q14 Z p0 p1 h0 n0 v U'.heap L ∧ FrameEnd U o U' L ({ frames := 0, cells := 0, slots := 0, locals := 0 } : Room).cells ({ frames := 0, cells := 0, slots := 0, locals := 0 } : Room).slots) := by
  refine MetFree.of_bodySF (Jvm.Free.JP.mathPlain rfl (by decide +kernel)) hisR ?_
  intro p e s m args below meth c s₁ Bd hml0 hP hK
  obtain ⟨rfl, hZ, hh⟩ := hP
  have hx := Bd.exec
  have hby := Bd.bytes
  have hml : c.maxLocals = 2 := hml0
  have hown : s.vm.findClass "java/lang/Math" = some m.cls := findClass_of_methodNamed Bd.named
  have X0 : Stand p l e ({ frames := 0, cells := 0, slots := 0, locals := 0 } : Room) s m #[(.int p0), (.int p1)] below meth c s₁ [] 0 0 := Stand.of_body Bd
  have e0 : s₁.heap = h0 := by rw [← hh, Bd.state]; rfl
  have N0 := Fr.nil n0
  have K0 : Keep h0 h0 [] := Keep.refl h0 []
  refine og (B := s₁.setTop (mkF m 0 #[iv p0, iv p1] [])) (fun t k => castTop (ef_14 m p0 p1) k) ?_
  refine og (B := s₁.setTop (mkF m 2 #[iv p0, iv p1] [(.int p1), (.int p0)])) (fun t k => ?_) ?_
  · refine XS.iloadN X0.here hx rfl (hb hby d14_0) rfl ?_
    refine XS.iloadN X0.here hx rfl (hb hby d14_1) rfl ?_
    exact k
  obtain ⟨zv1, hzv1⟩ : ∃ zq : Int32, zq = (if p0 < p1 then p1 else p0) := ⟨_, rfl⟩
  refine og (B := s₁.setTop (mkF m 10 #[iv p0, iv p1] [(.int zv1)])) (fun t k => ?_) ?_
  · show Steps p.tables e below (s₁.setTop (mkF m 2 #[iv p0, iv p1] [(.int p1), (.int p0)])) _
    by_cases hc2 : p0 < p1
    · refine XS.icmpYes X0.here hx rfl (pc0 := 2) (pc' := 9) rfl (hb hby d14_2) rfl (tlt hc2).1 (by decide) (by decide) ?_
      show Steps p.tables e below (s₁.setTop (mkF m 9 #[iv p0, iv p1] [])) _
      refine XS.iloadN X0.here hx rfl (hb hby d14_9) rfl ?_
      show Steps p.tables e below (s₁.setTop (mkF m 10 #[iv p0, iv p1] [(.int p1)])) _
      rw [show zv1 = p1 from by simp only [hzv1, if_pos hc2]] at k
      exact k
    · refine XS.icmpNo X0.here hx rfl (hb hby d14_2) rfl (flt hc2).1 ?_
      show Steps p.tables e below (s₁.setTop (mkF m 5 #[iv p0, iv p1] [])) _
      refine XS.iloadN X0.here hx rfl (hb hby d14_5) rfl ?_
      show Steps p.tables e below (s₁.setTop (mkF m 6 #[iv p0, iv p1] [(.int p0)])) _
      refine XS.goto X0.here hx rfl (pc0 := 6) (pc' := 10) rfl (hb hby d14_6) (by decide) (by decide) ?_
      show Steps p.tables e below (s₁.setTop (mkF m 10 #[iv p0, iv p1] [(.int p0)])) _
      rw [show zv1 = p0 from by simp only [hzv1, if_neg hc2]] at k
      exact k
  obtain ⟨fs, hr, hrun, hended, hW, hsame⟩ := X0.leave (v := some (.int zv1)) (fun h => by rw [Bd.returns] at h; cases h)
  refine ⟨_, _, ?_, hrun, hended, _, _, rfl, ?_, ⟨_, rfl⟩, hW, hsame.mono (by decide) (by decide)⟩
  · show Steps p.tables e below (s₁.setTop (mkF m 10 #[iv p0, iv p1] [(.int zv1)])) _
    exact retI X0 hx Bd.returns (hb hby d14_10) hr
  · show Q14 Z p0 p1 h0 n0 _ s₁.heap _
    rw [e0]
    exact ⟨by rw [hzv1]; rfl, N0, rfl⟩
theorem d15_0 : decode jdk_29_method_69_code 0 = .ok (.iload_n 0, 1) := by decide +kernel
theorem d15_1 : decode jdk_29_method_69_code 1 = .ok (.iload_n 1, 1) := by decide +kernel
theorem d15_2 : decode jdk_29_method_69_code 2 = .ok (.if_icmp .gt 7, 3) := by decide +kernel
theorem d15_5 : decode jdk_29_method_69_code 5 = .ok (.iload_n 0, 1) := by decide +kernel
theorem d15_6 : decode jdk_29_method_69_code 6 = .ok (.goto 4, 3) := by decide +kernel
theorem d15_9 : decode jdk_29_method_69_code 9 = .ok (.iload_n 1, 1) := by decide +kernel
theorem d15_10 : decode jdk_29_method_69_code 10 = .ok (.ireturn, 1) := by decide +kernel
theorem ef_15 (m : MethodId) (p0 : Int32) (p1 : Int32) : entryFrame m #[(.int p0), (.int p1)] 2 = mkF m 0 #[iv p0, iv p1] [] := by first | (simp [entryFrame, mkF, argsToLocals, Value.category]; done) | rfl
def Q15 (Z : State) (p0 : Int32) (p1 : Int32) (h0 : Heap) (n0 : Nat) (v : Option Value) (h : Heap) (L : List Loc) : Prop := v = some (.int (own_mini p0 p1)) ∧ Fr n0 L ∧ h = h0
theorem rm15 (l : Launch) (Z : State) (av0 : Array Value) (hw : ∀ d ∈ tables_1, d.before av0 Z = true) (ws : List Jvm.Cond) (p0 : Int32) (p1 : Int32) (h0 : Heap) (n0 : Nat) (Z0 : n0 ≤ h0.size) :
    MetFree l own_m16 (head1 (Jvm.Cond.code own_m16 jdk_29_method_69_code 2 (some .int) :: ws) ({ frames := 0, cells := 0, slots := 0, locals := 0 } : Room)) (fun a U => a = #[(.int p0), (.int p1)] ∧ Z.Warmed39 U.vm ∧ U.heap = h0) (fun _ _ _ _ _ => True) (fun _ U o U' => ∃ v L, o = .returned v ∧ Q15 Z p0 p1 h0 n0 v U'.heap L ∧ FrameEnd U o U' L ({ frames := 0, cells := 0, slots := 0, locals := 0 } : Room).cells ({ frames := 0, cells := 0, slots := 0, locals := 0 } : Room).slots) := by
  refine MetFree.of_bodySF (Jvm.Free.JP.mathPlain rfl (by decide +kernel)) hisR ?_
  intro p e s m args below meth c s₁ Bd hml0 hP hK
  obtain ⟨rfl, hZ, hh⟩ := hP
  have hx := Bd.exec
  have hby := Bd.bytes
  have hml : c.maxLocals = 2 := hml0
  have hown : s.vm.findClass "java/lang/Math" = some m.cls := findClass_of_methodNamed Bd.named
  have X0 : Stand p l e ({ frames := 0, cells := 0, slots := 0, locals := 0 } : Room) s m #[(.int p0), (.int p1)] below meth c s₁ [] 0 0 := Stand.of_body Bd
  have e0 : s₁.heap = h0 := by rw [← hh, Bd.state]; rfl
  have N0 := Fr.nil n0
  have K0 : Keep h0 h0 [] := Keep.refl h0 []
  refine og (B := s₁.setTop (mkF m 0 #[iv p0, iv p1] [])) (fun t k => castTop (ef_15 m p0 p1) k) ?_
  refine og (B := s₁.setTop (mkF m 2 #[iv p0, iv p1] [(.int p1), (.int p0)])) (fun t k => ?_) ?_
  · refine XS.iloadN X0.here hx rfl (hb hby d15_0) rfl ?_
    refine XS.iloadN X0.here hx rfl (hb hby d15_1) rfl ?_
    exact k
  obtain ⟨zv1, hzv1⟩ : ∃ zq : Int32, zq = (if p1 < p0 then p1 else p0) := ⟨_, rfl⟩
  refine og (B := s₁.setTop (mkF m 10 #[iv p0, iv p1] [(.int zv1)])) (fun t k => ?_) ?_
  · show Steps p.tables e below (s₁.setTop (mkF m 2 #[iv p0, iv p1] [(.int p1), (.int p0)])) _
    by_cases hc2 : p1 < p0
    · refine XS.icmpYes X0.here hx rfl (pc0 := 2) (pc' := 9) rfl (hb hby d15_2) rfl (tlt hc2).2.2.1 (by decide) (by decide) ?_
      show Steps p.tables e below (s₁.setTop (mkF m 9 #[iv p0, iv p1] [])) _
      refine XS.iloadN X0.here hx rfl (hb hby d15_9) rfl ?_
      show Steps p.tables e below (s₁.setTop (mkF m 10 #[iv p0, iv p1] [(.int p1)])) _
      rw [show zv1 = p1 from by simp only [hzv1, if_pos hc2]] at k
      exact k
    · refine XS.icmpNo X0.here hx rfl (hb hby d15_2) rfl (flt hc2).2.2.1 ?_
      show Steps p.tables e below (s₁.setTop (mkF m 5 #[iv p0, iv p1] [])) _
      refine XS.iloadN X0.here hx rfl (hb hby d15_5) rfl ?_
      show Steps p.tables e below (s₁.setTop (mkF m 6 #[iv p0, iv p1] [(.int p0)])) _
      refine XS.goto X0.here hx rfl (pc0 := 6) (pc' := 10) rfl (hb hby d15_6) (by decide) (by decide) ?_
      show Steps p.tables e below (s₁.setTop (mkF m 10 #[iv p0, iv p1] [(.int p0)])) _
      rw [show zv1 = p0 from by simp only [hzv1, if_neg hc2]] at k
      exact k
  obtain ⟨fs, hr, hrun, hended, hW, hsame⟩ := X0.leave (v := some (.int zv1)) (fun h => by rw [Bd.returns] at h; cases h)
  refine ⟨_, _, ?_, hrun, hended, _, _, rfl, ?_, ⟨_, rfl⟩, hW, hsame.mono (by decide) (by decide)⟩
  · show Steps p.tables e below (s₁.setTop (mkF m 10 #[iv p0, iv p1] [(.int zv1)])) _
    exact retI X0 hx Bd.returns (hb hby d15_10) hr
  · show Q15 Z p0 p1 h0 n0 _ s₁.heap _
    rw [e0]
    exact ⟨by rw [hzv1]; rfl, N0, rfl⟩
theorem d13_0 : decode jdk_43_method_4_code 0 = .ok (.iload_n 0, 1) := by decide +kernel
theorem d13_1 : decode jdk_43_method_4_code 1 = .ok (.ifCond .lt 14, 3) := by decide +kernel
theorem d13_4 : decode jdk_43_method_4_code 4 = .ok (.iload_n 0, 1) := by decide +kernel
theorem d13_5 : decode jdk_43_method_4_code 5 = .ok (.sipush 255, 3) := by decide +kernel
theorem d13_8 : decode jdk_43_method_4_code 8 = .ok (.if_icmp .gt 7, 3) := by decide +kernel
theorem d13_11 : decode jdk_43_method_4_code 11 = .ok (.iconst 1, 1) := by decide +kernel
theorem d13_12 : decode jdk_43_method_4_code 12 = .ok (.goto 4, 3) := by decide +kernel
theorem d13_15 : decode jdk_43_method_4_code 15 = .ok (.iconst 0, 1) := by decide +kernel
theorem d13_16 : decode jdk_43_method_4_code 16 = .ok (.ireturn, 1) := by decide +kernel
theorem pn_13 : plainName "java/lang/StringLatin1" = true := by first | (simp [plainName, overriddenIn]; done) | decide +kernel
theorem ef_13 (m : MethodId) (p0 : Int32) : entryFrame m #[(.int p0)] 1 = mkF m 0 #[iv p0] [] := by first | (simp [entryFrame, mkF, argsToLocals, Value.category]; done) | rfl
def own_enc (p0 : Int32) : Int32 := (if p0 < (0 : Int32) then (0 : Int32) else (if (255 : Int32) < p0 then (0 : Int32) else (1 : Int32)))
def Q13 (Z : State) (p0 : Int32) (h0 : Heap) (n0 : Nat) (v : Option Value) (h : Heap) (L : List Loc) : Prop := v = some (.int (own_enc p0)) ∧ Fr n0 L ∧ h = h0
theorem rm13 (l : Launch) (Z : State) (av0 : Array Value) (hw : ∀ d ∈ tables_1, d.before av0 Z = true) (ws : List Jvm.Cond) (p0 : Int32) (h0 : Heap) (n0 : Nat) (Z0 : n0 ≤ h0.size) :
    MetFree l own_m14 (head1 (Jvm.Cond.code own_m14 jdk_43_method_4_code 1 (some .boolean) :: ws) ({ frames := 0, cells := 0, slots := 0, locals := 0 } : Room)) (fun a U => a = #[(.int p0)] ∧ Z.Warmed39 U.vm ∧ U.heap = h0) (fun _ _ _ _ _ => True) (fun _ U o U' => ∃ v L, o = .returned v ∧ Q13 Z p0 h0 n0 v U'.heap L ∧ FrameEnd U o U' L ({ frames := 0, cells := 0, slots := 0, locals := 0 } : Room).cells ({ frames := 0, cells := 0, slots := 0, locals := 0 } : Room).slots) := by
  refine MetFree.of_bodySF (plainFor_of_name pn_13) hisR ?_
  intro p e s m args below meth c s₁ Bd hml0 hP hK
  obtain ⟨rfl, hZ, hh⟩ := hP
  have hx := Bd.exec
  have hby := Bd.bytes
  have hml : c.maxLocals = 1 := hml0
  have hown : s.vm.findClass "java/lang/StringLatin1" = some m.cls := findClass_of_methodNamed Bd.named
  have X0 : Stand p l e ({ frames := 0, cells := 0, slots := 0, locals := 0 } : Room) s m #[(.int p0)] below meth c s₁ [] 0 0 := Stand.of_body Bd
  have e0 : s₁.heap = h0 := by rw [← hh, Bd.state]; rfl
  have N0 := Fr.nil n0
  have K0 : Keep h0 h0 [] := Keep.refl h0 []
  refine og (B := s₁.setTop (mkF m 0 #[iv p0] [])) (fun t k => castTop (ef_13 m p0) k) ?_
  refine og (B := s₁.setTop (mkF m 1 #[iv p0] [(.int p0)])) (fun t k => ?_) ?_
  · refine XS.iloadN X0.here hx rfl (hb hby d13_0) rfl ?_
    exact k
  by_cases hc1 : p0 < (0 : Int32)
  · refine og (B := s₁.setTop (mkF m 15 #[iv p0] [])) (fun t k => ?_) ?_
    · refine XS.ifYes X0.here hx rfl (pc0 := 1) (pc' := 15) rfl (hb hby d13_1) rfl ((if0 _ _).trans (tlt hc1).1) (by decide) (by decide) ?_
      exact k
    refine og (B := s₁.setTop (mkF m 16 #[iv p0] [(.int 0)])) (fun t k => ?_) ?_
    · refine XS.iconst X0.here hx rfl (hb hby d13_15) ?_
      exact k
    obtain ⟨fs, hr, hrun, hended, hW, hsame⟩ := X0.leave (v := some (.int 0)) (fun h => by rw [Bd.returns] at h; cases h)
    refine ⟨_, _, ?_, hrun, hended, _, _, rfl, ?_, ⟨_, rfl⟩, hW, hsame.mono (by decide) (by decide)⟩
    · show Steps p.tables e below (s₁.setTop (mkF m 16 #[iv p0] [(.int 0)])) _
      exact retN X0 hx (t := .boolean) Bd.returns (by simp) (hb hby d13_16) hr
    · show Q13 Z p0 h0 n0 _ s₁.heap _
      rw [e0]
      exact ⟨by simp only [own_enc, if_pos hc1], N0, rfl⟩
  · refine og (B := s₁.setTop (mkF m 4 #[iv p0] [])) (fun t k => ?_) ?_
    · refine XS.ifNo X0.here hx rfl (hb hby d13_1) rfl ((if0 _ _).trans (flt hc1).1) ?_
      exact k
    refine og (B := s₁.setTop (mkF m 8 #[iv p0] [(.int 255), (.int p0)])) (fun t k => ?_) ?_
    · refine XS.iloadN X0.here hx rfl (hb hby d13_4) rfl ?_
      refine XS.sipush X0.here hx rfl (hb hby d13_5) ?_
      exact k
    by_cases hc8 : (255 : Int32) < p0
    · refine og (B := s₁.setTop (mkF m 15 #[iv p0] [])) (fun t k => ?_) ?_
      · refine XS.icmpYes X0.here hx rfl (pc0 := 8) (pc' := 15) rfl (hb hby d13_8) rfl (tlt hc8).2.2.1 (by decide) (by decide) ?_
        exact k
      refine og (B := s₁.setTop (mkF m 16 #[iv p0] [(.int 0)])) (fun t k => ?_) ?_
      · refine XS.iconst X0.here hx rfl (hb hby d13_15) ?_
        exact k
      obtain ⟨fs, hr, hrun, hended, hW, hsame⟩ := X0.leave (v := some (.int 0)) (fun h => by rw [Bd.returns] at h; cases h)
      refine ⟨_, _, ?_, hrun, hended, _, _, rfl, ?_, ⟨_, rfl⟩, hW, hsame.mono (by decide) (by decide)⟩
      · show Steps p.tables e below (s₁.setTop (mkF m 16 #[iv p0] [(.int 0)])) _
        exact retN X0 hx (t := .boolean) Bd.returns (by simp) (hb hby d13_16) hr
      · show Q13 Z p0 h0 n0 _ s₁.heap _
        rw [e0]
        exact ⟨by simp only [own_enc, if_neg hc1, if_pos hc8], N0, rfl⟩
    · refine og (B := s₁.setTop (mkF m 11 #[iv p0] [])) (fun t k => ?_) ?_
      · refine XS.icmpNo X0.here hx rfl (hb hby d13_8) rfl (flt hc8).2.2.1 ?_
        exact k
      refine og (B := s₁.setTop (mkF m 16 #[iv p0] [(.int 1)])) (fun t k => ?_) ?_
      · refine XS.iconst X0.here hx rfl (hb hby d13_11) ?_
        refine XS.goto X0.here hx rfl (pc0 := 12) (pc' := 16) rfl (hb hby d13_12) (by decide) (by decide) ?_
        exact k
      obtain ⟨fs, hr, hrun, hended, hW, hsame⟩ := X0.leave (v := some (.int 1)) (fun h => by rw [Bd.returns] at h; cases h)
      refine ⟨_, _, ?_, hrun, hended, _, _, rfl, ?_, ⟨_, rfl⟩, hW, hsame.mono (by decide) (by decide)⟩
      · show Steps p.tables e below (s₁.setTop (mkF m 16 #[iv p0] [(.int 1)])) _
        exact retN X0 hx (t := .boolean) Bd.returns (by simp) (hb hby d13_16) hr
      · show Q13 Z p0 h0 n0 _ s₁.heap _
        rw [e0]
        exact ⟨by simp only [own_enc, if_neg hc1, if_neg hc8], N0, rfl⟩
theorem d11_0 : decode jdk_42_method_152_code 0 = .ok (.getstatic 38, 3) := by decide +kernel
theorem d11_3 : decode jdk_42_method_152_code 3 = .ok (.ifCond .eq 10, 3) := by decide +kernel
theorem d11_6 : decode jdk_42_method_152_code 6 = .ok (.aload_n 0, 1) := by decide +kernel
theorem d11_7 : decode jdk_42_method_152_code 7 = .ok (.getfield 15, 3) := by decide +kernel
theorem d11_10 : decode jdk_42_method_152_code 10 = .ok (.goto 4, 3) := by decide +kernel
theorem d11_14 : decode jdk_42_method_152_code 14 = .ok (.ireturn, 1) := by decide +kernel
theorem pn_11 : plainName "java/lang/String" = true := by first | (simp [plainName, overriddenIn]; done) | decide +kernel
theorem ef_11 (m : MethodId) (a0 : Addr) : entryFrame m #[(.ref a0)] 1 = mkF m 0 #[rv a0] [] := by first | (simp [entryFrame, mkF, argsToLocals, Value.category]; done) | rfl
def Q11 (Z : State) (a0 : Addr) (w : Int32) (h0 : Heap) (n0 : Nat) (v : Option Value) (h : Heap) (L : List Loc) : Prop := v = some (.int 0) ∧ Fr n0 L ∧ h = h0
theorem rm11 (l : Launch) (Z : State) (av0 : Array Value) (hw : ∀ d ∈ tables_1, d.before av0 Z = true) (ws : List Jvm.Cond) (a0 : Addr) (w : Int32) (h0 : Heap) (n0 : Nat) (Z0 : n0 ≤ h0.size) (F_coder_a0 : Fld Z h0 a0 "java/lang/String" "coder" "B" (.int 0)) (S_COMPACT_STRINGS : Sta Z h0 "java/lang/String" "COMPACT_STRINGS" "Z" (.int w)) (hw0 : ¬ (w = (0 : Int32))) :
    MetFree l own_m12 (head1 (Jvm.Cond.code own_m12 jdk_42_method_152_code 1 (some .byte) :: ws) ({ frames := 0, cells := 0, slots := 0, locals := 0 } : Room)) (fun a U => a = #[(.ref a0)] ∧ Z.Warmed39 U.vm ∧ U.heap = h0) (fun _ _ _ _ _ => True) (fun _ U o U' => ∃ v L, o = .returned v ∧ Q11 Z a0 w h0 n0 v U'.heap L ∧ FrameEnd U o U' L ({ frames := 0, cells := 0, slots := 0, locals := 0 } : Room).cells ({ frames := 0, cells := 0, slots := 0, locals := 0 } : Room).slots) := by
  refine MetFree.of_bodySF (plainFor_of_name pn_11) hisR ?_
  intro p e s m args below meth c s₁ Bd hml0 hP hK
  obtain ⟨rfl, hZ, hh⟩ := hP
  have hx := Bd.exec
  have hby := Bd.bytes
  have hml : c.maxLocals = 1 := hml0
  have hown : s.vm.findClass "java/lang/String" = some m.cls := findClass_of_methodNamed Bd.named
  have X0 : Stand p l e ({ frames := 0, cells := 0, slots := 0, locals := 0 } : Room) s m #[(.ref a0)] below meth c s₁ [] 0 0 := Stand.of_body Bd
  have e0 : s₁.heap = h0 := by rw [← hh, Bd.state]; rfl
  have N0 := Fr.nil n0
  have K0 : Keep h0 h0 [] := Keep.refl h0 []
  refine og (B := s₁.setTop (mkF m 0 #[rv a0] [])) (fun t k => castTop (ef_11 m a0) k) ?_
  obtain ⟨T_1, X_1, e_1, st_1⟩ := getS2 X0 hx hZ hown (host := "") (Or.inl (ow hw 59 rfl)) Via.refl e0 S_COMPACT_STRINGS (g := (mkF m 0 #[rv a0] [])) rfl (hb hby d11_0)
  refine og (fun t k => st_1 t k) ?_
  refine og (B := T_1.setTop (mkF m 6 #[rv a0] [])) (fun t k => ?_) ?_
  · refine XS.ifNo X_1.here hx rfl (hb hby d11_3) rfl ((if0 _ _).trans (feq hw0).1) ?_
    exact k
  refine og (B := T_1.setTop (mkF m 7 #[rv a0] [(.ref a0)])) (fun t k => ?_) ?_
  · refine XS.aloadN X_1.here hx rfl (hb hby d11_6) rfl rfl ?_
    exact k
  obtain ⟨T_2, X_2, e_2, st_2⟩ := getF X_1 hx hZ hown (host := "") (Or.inl (ow hw 26 rfl)) Via.refl e_1 F_coder_a0 (g := (mkF m 7 #[rv a0] [(.ref a0)])) rfl rfl (hb hby d11_7)
  refine og (fun t k => st_2 t k) ?_
  refine og (B := T_2.setTop (mkF m 14 #[rv a0] [(.int 0)])) (fun t k => ?_) ?_
  · refine XS.goto X_2.here hx rfl (pc0 := 10) (pc' := 14) rfl (hb hby d11_10) (by decide) (by decide) ?_
    exact k
  obtain ⟨fs, hr, hrun, hended, hW, hsame⟩ := X_2.leave (v := some (.int 0)) (fun h => by rw [Bd.returns] at h; cases h)
  refine ⟨_, _, ?_, hrun, hended, _, _, rfl, ?_, ⟨_, rfl⟩, hW, hsame.mono (by decide) (by decide)⟩
  · show Steps p.tables e below (T_2.setTop (mkF m 14 #[rv a0] [(.int 0)])) _
    exact retN X_2 hx (t := .byte) Bd.returns (by simp) (hb hby d11_14) hr
  · show Q11 Z a0 w h0 n0 _ T_2.heap _
    rw [e_2]
    exact ⟨rfl, N0, rfl⟩
theorem d9_0 : decode jdk_42_method_154_code 0 = .ok (.getstatic 38, 3) := by decide +kernel
theorem d9_3 : decode jdk_42_method_154_code 3 = .ok (.ifCond .eq 14, 3) := by decide +kernel
theorem d9_6 : decode jdk_42_method_154_code 6 = .ok (.aload_n 0, 1) := by decide +kernel
theorem d9_7 : decode jdk_42_method_154_code 7 = .ok (.getfield 15, 3) := by decide +kernel
theorem d9_10 : decode jdk_42_method_154_code 10 = .ok (.ifCond .ne 7, 3) := by decide +kernel
theorem d9_13 : decode jdk_42_method_154_code 13 = .ok (.iconst 1, 1) := by decide +kernel
theorem d9_14 : decode jdk_42_method_154_code 14 = .ok (.goto 4, 3) := by decide +kernel
theorem d9_18 : decode jdk_42_method_154_code 18 = .ok (.ireturn, 1) := by decide +kernel
theorem pn_9 : plainName "java/lang/String" = true := by first | (simp [plainName, overriddenIn]; done) | decide +kernel
theorem ef_9 (m : MethodId) (a0 : Addr) : entryFrame m #[(.ref a0)] 1 = mkF m 0 #[rv a0] [] := by first | (simp [entryFrame, mkF, argsToLocals, Value.category]; done) | rfl
def Q9 (Z : State) (a0 : Addr) (w : Int32) (h0 : Heap) (n0 : Nat) (v : Option Value) (h : Heap) (L : List Loc) : Prop := v = some (.int 1) ∧ Fr n0 L ∧ h = h0
theorem rm9 (l : Launch) (Z : State) (av0 : Array Value) (hw : ∀ d ∈ tables_1, d.before av0 Z = true) (ws : List Jvm.Cond) (a0 : Addr) (w : Int32) (h0 : Heap) (n0 : Nat) (Z0 : n0 ≤ h0.size) (F_coder_a0 : Fld Z h0 a0 "java/lang/String" "coder" "B" (.int 0)) (S_COMPACT_STRINGS : Sta Z h0 "java/lang/String" "COMPACT_STRINGS" "Z" (.int w)) (hw0 : ¬ (w = (0 : Int32))) :
    MetFree l own_m10 (head1 (Jvm.Cond.code own_m10 jdk_42_method_154_code 1 (some .boolean) :: ws) ({ frames := 0, cells := 0, slots := 0, locals := 0 } : Room)) (fun a U => a = #[(.ref a0)] ∧ Z.Warmed39 U.vm ∧ U.heap = h0) (fun _ _ _ _ _ => True) (fun _ U o U' => ∃ v L, o = .returned v ∧ Q9 Z a0 w h0 n0 v U'.heap L ∧ FrameEnd U o U' L ({ frames := 0, cells := 0, slots := 0, locals := 0 } : Room).cells ({ frames := 0, cells := 0, slots := 0, locals := 0 } : Room).slots) := by
  refine MetFree.of_bodySF (plainFor_of_name pn_9) hisR ?_
  intro p e s m args below meth c s₁ Bd hml0 hP hK
  obtain ⟨rfl, hZ, hh⟩ := hP
  have hx := Bd.exec
  have hby := Bd.bytes
  have hml : c.maxLocals = 1 := hml0
  have hown : s.vm.findClass "java/lang/String" = some m.cls := findClass_of_methodNamed Bd.named
  have X0 : Stand p l e ({ frames := 0, cells := 0, slots := 0, locals := 0 } : Room) s m #[(.ref a0)] below meth c s₁ [] 0 0 := Stand.of_body Bd
  have e0 : s₁.heap = h0 := by rw [← hh, Bd.state]; rfl
  have N0 := Fr.nil n0
  have K0 : Keep h0 h0 [] := Keep.refl h0 []
  refine og (B := s₁.setTop (mkF m 0 #[rv a0] [])) (fun t k => castTop (ef_9 m a0) k) ?_
  obtain ⟨T_1, X_1, e_1, st_1⟩ := getS2 X0 hx hZ hown (host := "") (Or.inl (ow hw 59 rfl)) Via.refl e0 S_COMPACT_STRINGS (g := (mkF m 0 #[rv a0] [])) rfl (hb hby d9_0)
  refine og (fun t k => st_1 t k) ?_
  refine og (B := T_1.setTop (mkF m 6 #[rv a0] [])) (fun t k => ?_) ?_
  · refine XS.ifNo X_1.here hx rfl (hb hby d9_3) rfl ((if0 _ _).trans (feq hw0).1) ?_
    exact k
  refine og (B := T_1.setTop (mkF m 7 #[rv a0] [(.ref a0)])) (fun t k => ?_) ?_
  · refine XS.aloadN X_1.here hx rfl (hb hby d9_6) rfl rfl ?_
    exact k
  obtain ⟨T_2, X_2, e_2, st_2⟩ := getF X_1 hx hZ hown (host := "") (Or.inl (ow hw 26 rfl)) Via.refl e_1 F_coder_a0 (g := (mkF m 7 #[rv a0] [(.ref a0)])) rfl rfl (hb hby d9_7)
  refine og (fun t k => st_2 t k) ?_
  refine og (B := T_2.setTop (mkF m 13 #[rv a0] [])) (fun t k => ?_) ?_
  · refine XS.ifNo X_2.here hx rfl (hb hby d9_10) rfl ((if0 _ _).trans (teq (by decide : (0 : Int32) = (0 : Int32))).2) ?_
    exact k
  refine og (B := T_2.setTop (mkF m 18 #[rv a0] [(.int 1)])) (fun t k => ?_) ?_
  · refine XS.iconst X_2.here hx rfl (hb hby d9_13) ?_
    refine XS.goto X_2.here hx rfl (pc0 := 14) (pc' := 18) rfl (hb hby d9_14) (by decide) (by decide) ?_
    exact k
  obtain ⟨fs, hr, hrun, hended, hW, hsame⟩ := X_2.leave (v := some (.int 1)) (fun h => by rw [Bd.returns] at h; cases h)
  refine ⟨_, _, ?_, hrun, hended, _, _, rfl, ?_, ⟨_, rfl⟩, hW, hsame.mono (by decide) (by decide)⟩
  · show Steps p.tables e below (T_2.setTop (mkF m 18 #[rv a0] [(.int 1)])) _
    exact retN X_2 hx (t := .boolean) Bd.returns (by simp) (hb hby d9_18) hr
  · show Q9 Z a0 w h0 n0 _ T_2.heap _
    rw [e_2]
    exact ⟨rfl, N0, rfl⟩
theorem d10_0 : decode jdk_42_method_54_code 0 = .ok (.aload_n 0, 1) := by decide +kernel
theorem d10_1 : decode jdk_42_method_54_code 1 = .ok (.getfield 9, 3) := by decide +kernel
theorem d10_4 : decode jdk_42_method_54_code 4 = .ok (.arraylength, 1) := by decide +kernel
theorem d10_5 : decode jdk_42_method_54_code 5 = .ok (.aload_n 0, 1) := by decide +kernel
theorem d10_6 : decode jdk_42_method_54_code 6 = .ok (.invokevirtual 335, 3) := by decide +kernel
theorem d10_9 : decode jdk_42_method_54_code 9 = .ok (.ishr, 1) := by decide +kernel
theorem d10_10 : decode jdk_42_method_54_code 10 = .ok (.ireturn, 1) := by decide +kernel
theorem pn_10 : plainName "java/lang/String" = true := by first | (simp [plainName, overriddenIn]; done) | decide +kernel
theorem ef_10 (m : MethodId) (a0 : Addr) : entryFrame m #[(.ref a0)] 1 = mkF m 0 #[rv a0] [] := by first | (simp [entryFrame, mkF, argsToLocals, Value.category]; done) | rfl
theorem pd_0 : parseMethodDescriptor "()B" = some ⟨[], some .byte⟩ := by decide +kernel
def Q10 (Z : State) (a0 : Addr) (b0 : Addr) (kk : ClassId) (w : Int32) (z : Int32) (vs : List Value) (h0 : Heap) (n0 : Nat) (v : Option Value) (h : Heap) (L : List Loc) : Prop := v = some (.int z) ∧ Fr n0 L ∧ h = h0
theorem rm10 (l : Launch) (Z : State) (av0 : Array Value) (hw : ∀ d ∈ tables_1, d.before av0 Z = true) (ws : List Jvm.Cond) (a0 : Addr) (b0 : Addr) (kk : ClassId) (w : Int32) (z : Int32) (vs : List Value) (h0 : Heap) (n0 : Nat) (Z0 : n0 ≤ h0.size) (E_a0 : Exa Z h0 a0 "java/lang/String") (F_coder_a0 : Fld Z h0 a0 "java/lang/String" "coder" "B" (.int 0)) (F_value_a0 : Fld Z h0 a0 "java/lang/String" "value" "[B" (.ref b0)) (S_COMPACT_STRINGS : Sta Z h0 "java/lang/String" "COMPACT_STRINGS" "Z" (.int w)) (hw0 : ¬ (w = (0 : Int32))) (V0 : Arv Z h0 b0 kk .byte z vs (.int 0)) :
    MetFree l own_m11 (head1 (Jvm.Cond.code own_m11 jdk_42_method_54_code 1 (some .int) :: ws) ({ frames := 1, cells := 0, slots := 0, locals := 13 } : Room)) (fun a U => a = #[(.ref a0)] ∧ Z.Warmed39 U.vm ∧ U.heap = h0) (fun _ _ _ _ _ => True) (fun _ U o U' => ∃ v L, o = .returned v ∧ Q10 Z a0 b0 kk w z vs h0 n0 v U'.heap L ∧ FrameEnd U o U' L ({ frames := 1, cells := 0, slots := 0, locals := 13 } : Room).cells ({ frames := 1, cells := 0, slots := 0, locals := 13 } : Room).slots) := by
  refine MetFree.of_bodySF (plainFor_of_name pn_10) hisR ?_
  intro p e s m args below meth c s₁ Bd hml0 hP hK
  obtain ⟨rfl, hZ, hh⟩ := hP
  have hx := Bd.exec
  have hby := Bd.bytes
  have hml : c.maxLocals = 1 := hml0
  have hown : s.vm.findClass "java/lang/String" = some m.cls := findClass_of_methodNamed Bd.named
  have X0 : Stand p l e ({ frames := 1, cells := 0, slots := 0, locals := 13 } : Room) s m #[(.ref a0)] below meth c s₁ [] 0 0 := Stand.of_body Bd
  have e0 : s₁.heap = h0 := by rw [← hh, Bd.state]; rfl
  have N0 := Fr.nil n0
  have K0 : Keep h0 h0 [] := Keep.refl h0 []
  refine og (B := s₁.setTop (mkF m 0 #[rv a0] [])) (fun t k => castTop (ef_10 m a0) k) ?_
  refine og (B := s₁.setTop (mkF m 1 #[rv a0] [(.ref a0)])) (fun t k => ?_) ?_
  · refine XS.aloadN X0.here hx rfl (hb hby d10_0) rfl rfl ?_
    exact k
  obtain ⟨T_1, X_1, e_1, st_1⟩ := getF X0 hx hZ hown (host := "") (Or.inl (ow hw 25 rfl)) Via.refl e0 F_value_a0 (g := (mkF m 1 #[rv a0] [(.ref a0)])) rfl rfl (hb hby d10_1)
  refine og (fun t k => st_1 t k) ?_
  obtain ⟨cl_2, Ar_2, -, S_2, M_2, -, -⟩ := id V0
  refine og (B := T_1.setTop (mkF m 5 #[rv a0] [(.int z)])) (fun t k => X_1.arraylength hx (by rw [(e_1 : _ = _)]; exact Ar_2.1) (State.isArrayOf_alike hZ.alike Ar_2.2.1) (g := (mkF m 4 #[rv a0] [(.ref b0)])) rfl rfl (hb hby d10_4) t (by rw [len_of S_2 M_2]; exact k)) ?_
  refine og (B := T_1.setTop (mkF m 6 #[rv a0] [(.ref a0), (.int z)])) (fun t k => ?_) ?_
  · refine XS.aloadN X_1.here hx rfl (hb hby d10_5) rfl rfl ?_
    exact k
  obtain ⟨cq_3, kq_3, q_3a, q_3b, q_3c⟩ := isOf hZ e_1 E_a0
  obtain ⟨_, _, ⟨T_3, L_3, k_3, n_3⟩, -, X_3, ⟨Lc_3, hQ_3, l_3, y_3, z_3⟩, st_3⟩ := X_1.virtualBack hx (y := own_m12) (z := own_m12) hown (mvT hZ (ow hw 65 rfl)) (mvT hZ (ow hw 66 rfl)) (notFace_of_selects (args := #[]) (mvT hZ (ow hw 68 rfl))) (mvT hZ (ow hw 68 rfl)) (mvT hZ (ow hw 67 rfl)) (by decide) (backOf (W := 1) (rm11 l Z av0 hw [] a0 w h0 n0 Z0 F_coder_a0 S_COMPACT_STRINGS hw0) hZ (ow hw 69 rfl) (ow hw 7 rfl) (by decide) (by decide)) q_3a q_3c (g := (mkF m 6 #[rv a0] [(.ref a0), (.int z)])) rfl (by rw [hml]; rfl) (Steps.refl _) (argsL := []) (rest := [(.int z)]) (lenOf pd_0 rfl) rfl (by show 2 * 0 + _ ≤ _; exact Nat.le_of_eq rfl) (hb hby d10_6) (fun _ _ => ⟨rfl, e_1, (by decide : 0 + 0 ≤ _), (by decide : 0 + 0 ≤ _)⟩)
  dsimp only [Pt.U, Pt.locs, Pt.cells, Pt.slots] at X_3 l_3 y_3 z_3 st_3 hQ_3
  subst l_3 y_3 z_3
  obtain ⟨rfl, N_3q, e_3⟩ := hQ_3
  have N_3 := Fr.app N0 N_3q
  refine og (fun t k => st_3.trans k) ?_
  refine og (B := T_3.setTop (mkF m 10 #[rv a0] [(.int (z >>> ((0 : Int32) &&& 31)))])) (fun t k => ?_) ?_
  · refine XS.ishr X_3.here hx rfl (hb hby d10_9) rfl ?_
    exact k
  obtain ⟨fs, hr, hrun, hended, hW, hsame⟩ := X_3.leave (v := some (.int (z >>> ((0 : Int32) &&& 31)))) (fun h => by rw [Bd.returns] at h; cases h)
  refine ⟨_, _, ?_, hrun, hended, _, _, rfl, ?_, ⟨_, rfl⟩, hW, hsame.mono (by decide) (by decide)⟩
  · show Steps p.tables e below (T_3.setTop (mkF m 10 #[rv a0] [(.int (z >>> ((0 : Int32) &&& 31)))])) _
    exact retI X_3 hx Bd.returns (hb hby d10_10) hr
  · show Q10 Z a0 b0 kk w z vs h0 n0 _ T_3.heap _
    rw [e_3]
    exact ⟨congrArg (fun z => some (Value.int z)) (own_shr z), N_3, rfl⟩
theorem d12_0 : decode jdk_43_method_22_code 0 = .ok (.iload_n 1, 1) := by decide +kernel
theorem d12_1 : decode jdk_43_method_22_code 1 = .ok (.invokestatic 88, 3) := by decide +kernel
theorem d12_4 : decode jdk_43_method_22_code 4 = .ok (.ifCond .ne 5, 3) := by decide +kernel
theorem d12_7 : decode jdk_43_method_22_code 7 = .ok (.iconst (-1), 1) := by decide +kernel
theorem d12_8 : decode jdk_43_method_22_code 8 = .ok (.ireturn, 1) := by decide +kernel
theorem d12_9 : decode jdk_43_method_22_code 9 = .ok (.iload_n 2, 1) := by decide +kernel
theorem d12_10 : decode jdk_43_method_22_code 10 = .ok (.iconst 0, 1) := by decide +kernel
theorem d12_11 : decode jdk_43_method_22_code 11 = .ok (.invokestatic 92, 3) := by decide +kernel
theorem d12_14 : decode jdk_43_method_22_code 14 = .ok (.istore_n 2, 1) := by decide +kernel
theorem d12_15 : decode jdk_43_method_22_code 15 = .ok (.iload_n 3, 1) := by decide +kernel
theorem d12_16 : decode jdk_43_method_22_code 16 = .ok (.aload_n 0, 1) := by decide +kernel
theorem d12_17 : decode jdk_43_method_22_code 17 = .ok (.arraylength, 1) := by decide +kernel
theorem d12_18 : decode jdk_43_method_22_code 18 = .ok (.invokestatic 38, 3) := by decide +kernel
theorem d12_21 : decode jdk_43_method_22_code 21 = .ok (.istore_n 3, 1) := by decide +kernel
theorem d12_22 : decode jdk_43_method_22_code 22 = .ok (.iload_n 2, 1) := by decide +kernel
theorem d12_23 : decode jdk_43_method_22_code 23 = .ok (.iload_n 3, 1) := by decide +kernel
theorem d12_24 : decode jdk_43_method_22_code 24 = .ok (.if_icmp .lt 5, 3) := by decide +kernel
theorem d12_27 : decode jdk_43_method_22_code 27 = .ok (.iconst (-1), 1) := by decide +kernel
theorem d12_28 : decode jdk_43_method_22_code 28 = .ok (.ireturn, 1) := by decide +kernel
theorem pn_12 : plainName "java/lang/StringLatin1" = true := by first | (simp [plainName, overriddenIn]; done) | decide +kernel
theorem ef_ixl0 (m : MethodId) (a0 : Addr) (p1 : Int32) : entryFrame m #[(.ref a0), (.int p1), (.int 0), (.int 0)] 4 = mkF m 0 #[rv a0, iv p1, iv 0, iv 0] [] := by first | (simp [entryFrame, mkF, argsToLocals, Value.category]; done) | rfl
theorem pd_1 : parseMethodDescriptor "(I)Z" = some ⟨[.int], some .boolean⟩ := by decide +kernel
theorem pd_2 : parseMethodDescriptor "(II)I" = some ⟨[.int, .int], some .int⟩ := by decide +kernel
def own_ixl0  (p1 : Int32) : Int32 := (if (own_enc p1) = (0 : Int32) then (-1 : Int32) else (-1 : Int32))
def Qixl0 (Z : State) (a0 : Addr) (p1 : Int32) (kk : ClassId) (h0 : Heap) (n0 : Nat) (v : Option Value) (h : Heap) (L : List Loc) : Prop := v = some (.int (own_ixl0 p1)) ∧ Fr n0 L ∧ h = h0
theorem rmixl0 (l : Launch) (Z : State) (av0 : Array Value) (hw : ∀ d ∈ tables_1, d.before av0 Z = true) (ws : List Jvm.Cond) (a0 : Addr) (p1 : Int32) (kk : ClassId) (h0 : Heap) (n0 : Nat) (Z0 : n0 ≤ h0.size) (V0 : Arv Z h0 a0 kk .byte (0 : Int32) [] (.int 0)) :
    MetFree l own_m13 (head1 (Jvm.Cond.code own_m13 jdk_43_method_22_code 4 (some .int) :: ws) ({ frames := 1, cells := 0, slots := 0, locals := 13 } : Room)) (fun a U => a = #[(.ref a0), (.int p1), (.int 0), (.int 0)] ∧ Z.Warmed39 U.vm ∧ U.heap = h0) (fun _ _ _ _ _ => True) (fun _ U o U' => ∃ v L, o = .returned v ∧ Qixl0 Z a0 p1 kk h0 n0 v U'.heap L ∧ FrameEnd U o U' L ({ frames := 1, cells := 0, slots := 0, locals := 13 } : Room).cells ({ frames := 1, cells := 0, slots := 0, locals := 13 } : Room).slots) := by
  refine MetFree.of_bodySF (plainFor_of_name pn_12) hisR ?_
  intro p e s m args below meth c s₁ Bd hml0 hP hK
  obtain ⟨rfl, hZ, hh⟩ := hP
  have hx := Bd.exec
  have hby := Bd.bytes
  have hml : c.maxLocals = 4 := hml0
  have hown : s.vm.findClass "java/lang/StringLatin1" = some m.cls := findClass_of_methodNamed Bd.named
  have X0 : Stand p l e ({ frames := 1, cells := 0, slots := 0, locals := 13 } : Room) s m #[(.ref a0), (.int p1), (.int 0), (.int 0)] below meth c s₁ [] 0 0 := Stand.of_body Bd
  have e0 : s₁.heap = h0 := by rw [← hh, Bd.state]; rfl
  have N0 := Fr.nil n0
  have K0 : Keep h0 h0 [] := Keep.refl h0 []
  refine og (B := s₁.setTop (mkF m 0 #[rv a0, iv p1, iv 0, iv 0] [])) (fun t k => castTop (ef_ixl0 m a0 p1) k) ?_
  refine og (B := s₁.setTop (mkF m 1 #[rv a0, iv p1, iv 0, iv 0] [(.int p1)])) (fun t k => ?_) ?_
  · refine XS.iloadN X0.here hx rfl (hb hby d12_0) rfl ?_
    exact k
  obtain ⟨_, _, ⟨T_1, L_1, k_1, n_1⟩, -, X_1, ⟨Lc_1, hQ_1, l_1, y_1, z_1⟩, st_1⟩ := Jvm.LawKit.callS X0 hx (y := own_m14) hown (mvT hZ (ow hw 74 rfl)) (mvT hZ (ow hw 75 rfl)) (mvT hZ (ow hw 72 rfl)) (mvT hZ (ow hw 76 rfl)) (by decide) (backOf (W := 0) (rm13 l Z av0 hw [] p1  h0 n0 Z0 ) hZ (ow hw 76 rfl) (ow hw 72 rfl) (by decide) (by decide)) (g := (mkF m 1 #[rv a0, iv p1, iv 0, iv 0] [(.int p1)])) rfl (by rw [hml]; rfl) (argsL := [(.int p1)]) (rest := []) (lenOf pd_1 rfl) rfl (by show 2 * 0 + _ ≤ _; exact Nat.le_of_eq rfl) (hb hby d12_1) (fun _ _ => ⟨rfl, e0, (by decide : 0 + 0 ≤ _), (by decide : 0 + 0 ≤ _)⟩)
  dsimp only [Pt.U, Pt.locs, Pt.cells, Pt.slots] at X_1 l_1 y_1 z_1 st_1 hQ_1
  subst l_1 y_1 z_1
  obtain ⟨rfl, N_1q, e_1⟩ := hQ_1
  have N_1 := Fr.app N0 N_1q
  refine og (fun t k => st_1 t k) ?_
  by_cases hc4 : (own_enc p1) = (0 : Int32)
  · refine og (B := T_1.setTop (mkF m 7 #[rv a0, iv p1, iv 0, iv 0] [])) (fun t k => ?_) ?_
    · refine XS.ifNo X_1.here hx rfl (hb hby d12_4) rfl ((if0 _ _).trans (teq hc4).2) ?_
      exact k
    refine og (B := T_1.setTop (mkF m 8 #[rv a0, iv p1, iv 0, iv 0] [(.int (-1))])) (fun t k => ?_) ?_
    · refine XS.iconst X_1.here hx rfl (hb hby d12_7) ?_
      exact k
    obtain ⟨fs, hr, hrun, hended, hW, hsame⟩ := X_1.leave (v := some (.int (-1))) (fun h => by rw [Bd.returns] at h; cases h)
    refine ⟨_, _, ?_, hrun, hended, _, _, rfl, ?_, ⟨_, rfl⟩, hW, hsame.mono (by decide) (by decide)⟩
    · show Steps p.tables e below (T_1.setTop (mkF m 8 #[rv a0, iv p1, iv 0, iv 0] [(.int (-1))])) _
      exact retI X_1 hx Bd.returns (hb hby d12_8) hr
    · show Qixl0 Z a0 p1 kk h0 n0 _ T_1.heap _
      rw [e_1]
      exact ⟨by simp only [own_ixl0, if_pos hc4], N_1, rfl⟩
  · refine og (B := T_1.setTop (mkF m 9 #[rv a0, iv p1, iv 0, iv 0] [])) (fun t k => ?_) ?_
    · refine XS.ifYes X_1.here hx rfl (pc0 := 4) (pc' := 9) rfl (hb hby d12_4) rfl ((if0 _ _).trans (feq hc4).2) (by decide) (by decide) ?_
      exact k
    refine og (B := T_1.setTop (mkF m 11 #[rv a0, iv p1, iv 0, iv 0] [(.int 0), (.int 0)])) (fun t k => ?_) ?_
    · refine XS.iloadN X_1.here hx rfl (hb hby d12_9) rfl ?_
      refine XS.iconst X_1.here hx rfl (hb hby d12_10) ?_
      exact k
    obtain ⟨_, _, ⟨T_2, L_2, k_2, n_2⟩, -, X_2, ⟨Lc_2, hQ_2, l_2, y_2, z_2⟩, st_2⟩ := Jvm.LawKit.callS X_1 hx (y := own_m15) hown (mvT hZ (ow hw 77 rfl)) (mvT hZ (ow hw 78 rfl)) (mvT hZ (ow hw 79 rfl)) (mvT hZ (ow hw 80 rfl)) (by decide) (backOf (W := 0) (rm14 l Z av0 hw [] (0 : Int32) (0 : Int32)  h0 n0 Z0 ) hZ (ow hw 80 rfl) (ow hw 79 rfl) (by decide) (by decide)) (g := (mkF m 11 #[rv a0, iv p1, iv 0, iv 0] [(.int 0), (.int 0)])) rfl (by rw [hml]; rfl) (argsL := [(.int 0), (.int 0)]) (rest := []) (lenOf pd_2 rfl) rfl (by show 2 * 0 + _ ≤ _; exact Nat.le_of_eq rfl) (hb hby d12_11) (fun _ _ => ⟨rfl, e_1, (by decide : 0 + 0 ≤ _), (by decide : 0 + 0 ≤ _)⟩)
    dsimp only [Pt.U, Pt.locs, Pt.cells, Pt.slots] at X_2 l_2 y_2 z_2 st_2 hQ_2
    subst l_2 y_2 z_2
    obtain ⟨hv_2, N_2q, e_2⟩ := hQ_2
    have N_2 := Fr.app N_1 N_2q
    rw [show own_maxi (0 : Int32) (0 : Int32) = (0 : Int32) from by decide] at hv_2
    subst hv_2
    refine og (fun t k => st_2 t k) ?_
    refine og (B := T_2.setTop (mkF m 17 #[rv a0, iv p1, iv 0, iv 0] [(.ref a0), (.int 0)])) (fun t k => ?_) ?_
    · refine XS.istoreN X_2.here hx rfl (hb hby d12_14) rfl (l' := #[rv a0, iv p1, iv 0, iv 0]) rfl ?_
      refine XS.iloadN X_2.here hx rfl (hb hby d12_15) rfl ?_
      refine XS.aloadN X_2.here hx rfl (hb hby d12_16) rfl rfl ?_
      exact k
    obtain ⟨cl_3, Ar_3, -, S_3, M_3, -, -⟩ := id V0
    refine og (B := T_2.setTop (mkF m 18 #[rv a0, iv p1, iv 0, iv 0] [(.int 0), (.int 0)])) (fun t k => X_2.arraylength hx (by rw [(e_2 : _ = _)]; exact Ar_3.1) (State.isArrayOf_alike hZ.alike Ar_3.2.1) (g := (mkF m 17 #[rv a0, iv p1, iv 0, iv 0] [(.ref a0), (.int 0)])) rfl rfl (hb hby d12_17) t (by rw [len_of S_3 M_3]; exact k)) ?_
    obtain ⟨_, _, ⟨T_4, L_4, k_4, n_4⟩, -, X_4, ⟨Lc_4, hQ_4, l_4, y_4, z_4⟩, st_4⟩ := Jvm.LawKit.callS X_2 hx (y := own_m16) hown (mvT hZ (ow hw 81 rfl)) (mvT hZ (ow hw 82 rfl)) (mvT hZ (ow hw 79 rfl)) (mvT hZ (ow hw 83 rfl)) (by decide) (backOf (W := 0) (rm15 l Z av0 hw [] (0 : Int32) (0 : Int32)  h0 n0 Z0 ) hZ (ow hw 83 rfl) (ow hw 79 rfl) (by decide) (by decide)) (g := (mkF m 18 #[rv a0, iv p1, iv 0, iv 0] [(.int 0), (.int 0)])) rfl (by rw [hml]; rfl) (argsL := [(.int 0), (.int 0)]) (rest := []) (lenOf pd_2 rfl) rfl (by show 2 * 0 + _ ≤ _; exact Nat.le_of_eq rfl) (hb hby d12_18) (fun _ _ => ⟨rfl, e_2, (by decide : 0 + 0 ≤ _), (by decide : 0 + 0 ≤ _)⟩)
    dsimp only [Pt.U, Pt.locs, Pt.cells, Pt.slots] at X_4 l_4 y_4 z_4 st_4 hQ_4
    subst l_4 y_4 z_4
    obtain ⟨hv_4, N_4q, e_4⟩ := hQ_4
    have N_4 := Fr.app N_2 N_4q
    rw [show own_mini (0 : Int32) (0 : Int32) = (0 : Int32) from by decide] at hv_4
    subst hv_4
    refine og (fun t k => st_4 t k) ?_
    refine og (B := T_4.setTop (mkF m 24 #[rv a0, iv p1, iv 0, iv 0] [(.int 0), (.int 0)])) (fun t k => ?_) ?_
    · refine XS.istoreN X_4.here hx rfl (hb hby d12_21) rfl (l' := #[rv a0, iv p1, iv 0, iv 0]) rfl ?_
      refine XS.iloadN X_4.here hx rfl (hb hby d12_22) rfl ?_
      refine XS.iloadN X_4.here hx rfl (hb hby d12_23) rfl ?_
      exact k
    refine og (B := T_4.setTop (mkF m 27 #[rv a0, iv p1, iv 0, iv 0] [])) (fun t k => ?_) ?_
    · refine XS.icmpNo X_4.here hx rfl (hb hby d12_24) rfl (flt (by decide : ¬ ((0 : Int32) < (0 : Int32)))).1 ?_
      exact k
    refine og (B := T_4.setTop (mkF m 28 #[rv a0, iv p1, iv 0, iv 0] [(.int (-1))])) (fun t k => ?_) ?_
    · refine XS.iconst X_4.here hx rfl (hb hby d12_27) ?_
      exact k
    obtain ⟨fs, hr, hrun, hended, hW, hsame⟩ := X_4.leave (v := some (.int (-1))) (fun h => by rw [Bd.returns] at h; cases h)
    refine ⟨_, _, ?_, hrun, hended, _, _, rfl, ?_, ⟨_, rfl⟩, hW, hsame.mono (by decide) (by decide)⟩
    · show Steps p.tables e below (T_4.setTop (mkF m 28 #[rv a0, iv p1, iv 0, iv 0] [(.int (-1))])) _
      exact retI X_4 hx Bd.returns (hb hby d12_28) hr
    · show Qixl0 Z a0 p1 kk h0 n0 _ T_4.heap _
      rw [e_4]
      exact ⟨by simp only [own_ixl0, if_neg hc4], N_4, rfl⟩
theorem d8_0 : decode jdk_42_method_80_code 0 = .ok (.aload_n 0, 1) := by decide +kernel
theorem d8_1 : decode jdk_42_method_80_code 1 = .ok (.invokevirtual 492, 3) := by decide +kernel
theorem d8_4 : decode jdk_42_method_80_code 4 = .ok (.ifCond .eq 19, 3) := by decide +kernel
theorem d8_7 : decode jdk_42_method_80_code 7 = .ok (.aload_n 0, 1) := by decide +kernel
theorem d8_8 : decode jdk_42_method_80_code 8 = .ok (.getfield 9, 3) := by decide +kernel
theorem d8_11 : decode jdk_42_method_80_code 11 = .ok (.iload_n 1, 1) := by decide +kernel
theorem d8_12 : decode jdk_42_method_80_code 12 = .ok (.iload_n 2, 1) := by decide +kernel
theorem d8_13 : decode jdk_42_method_80_code 13 = .ok (.aload_n 0, 1) := by decide +kernel
theorem d8_14 : decode jdk_42_method_80_code 14 = .ok (.invokevirtual 505, 3) := by decide +kernel
theorem d8_17 : decode jdk_42_method_80_code 17 = .ok (.invokestatic 637, 3) := by decide +kernel
theorem d8_20 : decode jdk_42_method_80_code 20 = .ok (.goto 16, 3) := by decide +kernel
theorem d8_36 : decode jdk_42_method_80_code 36 = .ok (.ireturn, 1) := by decide +kernel
theorem pn_8 : plainName "java/lang/String" = true := by first | (simp [plainName, overriddenIn]; done) | decide +kernel
theorem ef_sxb0 (m : MethodId) (a0 : Addr) (p1 : Int32) : entryFrame m #[(.ref a0), (.int p1), (.int 0)] 3 = mkF m 0 #[rv a0, iv p1, iv 0] [] := by first | (simp [entryFrame, mkF, argsToLocals, Value.category]; done) | rfl
theorem pd_3 : parseMethodDescriptor "()Z" = some ⟨[], some .boolean⟩ := by decide +kernel
theorem pd_4 : parseMethodDescriptor "()I" = some ⟨[], some .int⟩ := by decide +kernel
theorem pd_5 : parseMethodDescriptor "([BIII)I" = some ⟨[(.array .byte), .int, .int, .int], some .int⟩ := by decide +kernel
def Qsxb0 (Z : State) (a0 : Addr) (p1 : Int32) (b0 : Addr) (kk : ClassId) (w : Int32) (h0 : Heap) (n0 : Nat) (v : Option Value) (h : Heap) (L : List Loc) : Prop := v = some (.int (own_ixl0 p1)) ∧ Fr n0 L ∧ h = h0
theorem rmsxb0 (l : Launch) (Z : State) (av0 : Array Value) (hw : ∀ d ∈ tables_1, d.before av0 Z = true) (ws : List Jvm.Cond) (a0 : Addr) (p1 : Int32) (b0 : Addr) (kk : ClassId) (w : Int32) (h0 : Heap) (n0 : Nat) (Z0 : n0 ≤ h0.size) (E_a0 : Exa Z h0 a0 "java/lang/String") (F_coder_a0 : Fld Z h0 a0 "java/lang/String" "coder" "B" (.int 0)) (F_value_a0 : Fld Z h0 a0 "java/lang/String" "value" "[B" (.ref b0)) (S_COMPACT_STRINGS : Sta Z h0 "java/lang/String" "COMPACT_STRINGS" "Z" (.int w)) (hw0 : ¬ (w = (0 : Int32))) (V0 : Arv Z h0 b0 kk .byte (0 : Int32) [] (.int 0)) :
    MetFree l own_m9 (head1 (Jvm.Cond.code own_m9 jdk_42_method_80_code 3 (some .int) :: ws) ({ frames := 2, cells := 0, slots := 0, locals := 28 } : Room)) (fun a U => a = #[(.ref a0), (.int p1), (.int 0)] ∧ Z.Warmed39 U.vm ∧ U.heap = h0) (fun _ _ _ _ _ => True) (fun _ U o U' => ∃ v L, o = .returned v ∧ Qsxb0 Z a0 p1 b0 kk w h0 n0 v U'.heap L ∧ FrameEnd U o U' L ({ frames := 2, cells := 0, slots := 0, locals := 28 } : Room).cells ({ frames := 2, cells := 0, slots := 0, locals := 28 } : Room).slots) := by
  refine MetFree.of_bodySF (plainFor_of_name pn_8) hisR ?_
  intro p e s m args below meth c s₁ Bd hml0 hP hK
  obtain ⟨rfl, hZ, hh⟩ := hP
  have hx := Bd.exec
  have hby := Bd.bytes
  have hml : c.maxLocals = 3 := hml0
  have hown : s.vm.findClass "java/lang/String" = some m.cls := findClass_of_methodNamed Bd.named
  have X0 : Stand p l e ({ frames := 2, cells := 0, slots := 0, locals := 28 } : Room) s m #[(.ref a0), (.int p1), (.int 0)] below meth c s₁ [] 0 0 := Stand.of_body Bd
  have e0 : s₁.heap = h0 := by rw [← hh, Bd.state]; rfl
  have N0 := Fr.nil n0
  have K0 : Keep h0 h0 [] := Keep.refl h0 []
  refine og (B := s₁.setTop (mkF m 0 #[rv a0, iv p1, iv 0] [])) (fun t k => castTop (ef_sxb0 m a0 p1) k) ?_
  refine og (B := s₁.setTop (mkF m 1 #[rv a0, iv p1, iv 0] [(.ref a0)])) (fun t k => ?_) ?_
  · refine XS.aloadN X0.here hx rfl (hb hby d8_0) rfl rfl ?_
    exact k
  obtain ⟨cq_1, kq_1, q_1a, q_1b, q_1c⟩ := isOf hZ e0 E_a0
  obtain ⟨_, _, ⟨T_1, L_1, k_1, n_1⟩, -, X_1, ⟨Lc_1, hQ_1, l_1, y_1, z_1⟩, st_1⟩ := X0.virtualBack hx (y := own_m10) (z := own_m10) hown (mvT hZ (ow hw 54 rfl)) (mvT hZ (ow hw 55 rfl)) (notFace_of_selects (args := #[]) (mvT hZ (ow hw 57 rfl))) (mvT hZ (ow hw 57 rfl)) (mvT hZ (ow hw 56 rfl)) (by decide) (backOf (W := 0) (rm9 l Z av0 hw [] a0 w h0 n0 Z0 F_coder_a0 S_COMPACT_STRINGS hw0) hZ (ow hw 58 rfl) (ow hw 7 rfl) (by decide) (by decide)) q_1a q_1c (g := (mkF m 1 #[rv a0, iv p1, iv 0] [(.ref a0)])) rfl (by rw [hml]; rfl) (Steps.refl _) (argsL := []) (rest := []) (lenOf pd_3 rfl) rfl (by show 2 * 0 + _ ≤ _; exact Nat.le_of_eq rfl) (hb hby d8_1) (fun _ _ => ⟨rfl, e0, (by decide : 0 + 0 ≤ _), (by decide : 0 + 0 ≤ _)⟩)
  dsimp only [Pt.U, Pt.locs, Pt.cells, Pt.slots] at X_1 l_1 y_1 z_1 st_1 hQ_1
  subst l_1 y_1 z_1
  obtain ⟨rfl, N_1q, e_1⟩ := hQ_1
  have N_1 := Fr.app N0 N_1q
  refine og (fun t k => st_1.trans k) ?_
  refine og (B := T_1.setTop (mkF m 7 #[rv a0, iv p1, iv 0] [])) (fun t k => ?_) ?_
  · refine XS.ifNo X_1.here hx rfl (hb hby d8_4) rfl ((if0 _ _).trans (feq (by decide : ¬ ((1 : Int32) = (0 : Int32)))).1) ?_
    exact k
  refine og (B := T_1.setTop (mkF m 8 #[rv a0, iv p1, iv 0] [(.ref a0)])) (fun t k => ?_) ?_
  · refine XS.aloadN X_1.here hx rfl (hb hby d8_7) rfl rfl ?_
    exact k
  obtain ⟨T_2, X_2, e_2, st_2⟩ := getF X_1 hx hZ hown (host := "") (Or.inl (ow hw 25 rfl)) Via.refl e_1 F_value_a0 (g := (mkF m 8 #[rv a0, iv p1, iv 0] [(.ref a0)])) rfl rfl (hb hby d8_8)
  refine og (fun t k => st_2 t k) ?_
  refine og (B := T_2.setTop (mkF m 14 #[rv a0, iv p1, iv 0] [(.ref a0), (.int 0), (.int p1), (.ref b0)])) (fun t k => ?_) ?_
  · refine XS.iloadN X_2.here hx rfl (hb hby d8_11) rfl ?_
    refine XS.iloadN X_2.here hx rfl (hb hby d8_12) rfl ?_
    refine XS.aloadN X_2.here hx rfl (hb hby d8_13) rfl rfl ?_
    exact k
  obtain ⟨cq_3, kq_3, q_3a, q_3b, q_3c⟩ := isOf hZ e_2 E_a0
  obtain ⟨_, _, ⟨T_3, L_3, k_3, n_3⟩, -, X_3, ⟨Lc_3, hQ_3, l_3, y_3, z_3⟩, st_3⟩ := X_2.virtualBack hx (y := own_m11) (z := own_m11) hown (mvT hZ (ow hw 60 rfl)) (mvT hZ (ow hw 61 rfl)) (notFace_of_selects (args := #[]) (mvT hZ (ow hw 63 rfl))) (mvT hZ (ow hw 63 rfl)) (mvT hZ (ow hw 62 rfl)) (by decide) (backOf (W := 3) (rm10 l Z av0 hw [] a0 b0 kk w (0 : Int32) [] h0 n0 Z0 E_a0 F_coder_a0 F_value_a0 S_COMPACT_STRINGS hw0 V0) hZ (ow hw 64 rfl) (ow hw 7 rfl) (by decide) (by decide)) q_3a q_3c (g := (mkF m 14 #[rv a0, iv p1, iv 0] [(.ref a0), (.int 0), (.int p1), (.ref b0)])) rfl (by rw [hml]; rfl) (Steps.refl _) (argsL := []) (rest := [(.int 0), (.int p1), (.ref b0)]) (lenOf pd_4 rfl) rfl (by show 2 * 0 + _ ≤ _; exact Nat.le_of_eq rfl) (hb hby d8_14) (fun _ _ => ⟨rfl, e_2, (by decide : 0 + 0 ≤ _), (by decide : 0 + 0 ≤ _)⟩)
  dsimp only [Pt.U, Pt.locs, Pt.cells, Pt.slots] at X_3 l_3 y_3 z_3 st_3 hQ_3
  subst l_3 y_3 z_3
  obtain ⟨rfl, N_3q, e_3⟩ := hQ_3
  have N_3 := Fr.app N_1 N_3q
  refine og (fun t k => st_3.trans k) ?_
  obtain ⟨_, _, ⟨T_4, L_4, k_4, n_4⟩, -, X_4, ⟨Lc_4, hQ_4, l_4, y_4, z_4⟩, st_4⟩ := Jvm.LawKit.callS X_3 hx (y := own_m13) hown (mvT hZ (ow hw 70 rfl)) (mvT hZ (ow hw 71 rfl)) (mvT hZ (ow hw 72 rfl)) (mvT hZ (ow hw 73 rfl)) (by decide) (backOf (W := 0) (rmixl0 l Z av0 hw [] b0 p1 kk h0 n0 Z0 V0) hZ (ow hw 73 rfl) (ow hw 72 rfl) (by decide) (by decide)) (g := (mkF m 17 #[rv a0, iv p1, iv 0] [(.int 0), (.int 0), (.int p1), (.ref b0)])) rfl (by rw [hml]; rfl) (argsL := [(.ref b0), (.int p1), (.int 0), (.int 0)]) (rest := []) (lenOf pd_5 rfl) rfl (by show 2 * 0 + _ ≤ _; exact Nat.le_of_eq rfl) (hb hby d8_17) (fun _ _ => ⟨rfl, e_3, (by decide : 0 + 0 ≤ _), (by decide : 0 + 0 ≤ _)⟩)
  dsimp only [Pt.U, Pt.locs, Pt.cells, Pt.slots] at X_4 l_4 y_4 z_4 st_4 hQ_4
  subst l_4 y_4 z_4
  obtain ⟨rfl, N_4q, e_4⟩ := hQ_4
  have N_4 := Fr.app N_3 N_4q
  refine og (fun t k => st_4 t k) ?_
  refine og (B := T_4.setTop (mkF m 36 #[rv a0, iv p1, iv 0] [(.int (own_ixl0 p1))])) (fun t k => ?_) ?_
  · refine XS.goto X_4.here hx rfl (pc0 := 20) (pc' := 36) rfl (hb hby d8_20) (by decide) (by decide) ?_
    exact k
  obtain ⟨fs, hr, hrun, hended, hW, hsame⟩ := X_4.leave (v := some (.int (own_ixl0 p1))) (fun h => by rw [Bd.returns] at h; cases h)
  refine ⟨_, _, ?_, hrun, hended, _, _, rfl, ?_, ⟨_, rfl⟩, hW, hsame.mono (by decide) (by decide)⟩
  · show Steps p.tables e below (T_4.setTop (mkF m 36 #[rv a0, iv p1, iv 0] [(.int (own_ixl0 p1))])) _
    exact retI X_4 hx Bd.returns (hb hby d8_36) hr
  · show Qsxb0 Z a0 p1 b0 kk w h0 n0 _ T_4.heap _
    rw [e_4]
    exact ⟨rfl, N_4, rfl⟩
theorem d7_0 : decode jdk_42_method_79_code 0 = .ok (.aload_n 0, 1) := by decide +kernel
theorem d7_1 : decode jdk_42_method_79_code 1 = .ok (.iload_n 1, 1) := by decide +kernel
theorem d7_2 : decode jdk_42_method_79_code 2 = .ok (.iconst 0, 1) := by decide +kernel
theorem d7_3 : decode jdk_42_method_79_code 3 = .ok (.invokevirtual 633, 3) := by decide +kernel
theorem d7_6 : decode jdk_42_method_79_code 6 = .ok (.ireturn, 1) := by decide +kernel
theorem pn_7 : plainName "java/lang/String" = true := by first | (simp [plainName, overriddenIn]; done) | decide +kernel
theorem ef_sxa0 (m : MethodId) (a0 : Addr) (p1 : Int32) : entryFrame m #[(.ref a0), (.int p1)] 2 = mkF m 0 #[rv a0, iv p1] [] := by first | (simp [entryFrame, mkF, argsToLocals, Value.category]; done) | rfl
def Qsxa0 (Z : State) (a0 : Addr) (p1 : Int32) (b0 : Addr) (kk : ClassId) (w : Int32) (h0 : Heap) (n0 : Nat) (v : Option Value) (h : Heap) (L : List Loc) : Prop := v = some (.int (own_ixl0 p1)) ∧ Fr n0 L ∧ h = h0
theorem rmsxa0 (l : Launch) (Z : State) (av0 : Array Value) (hw : ∀ d ∈ tables_1, d.before av0 Z = true) (ws : List Jvm.Cond) (a0 : Addr) (p1 : Int32) (b0 : Addr) (kk : ClassId) (w : Int32) (h0 : Heap) (n0 : Nat) (Z0 : n0 ≤ h0.size) (E_a0 : Exa Z h0 a0 "java/lang/String") (F_coder_a0 : Fld Z h0 a0 "java/lang/String" "coder" "B" (.int 0)) (F_value_a0 : Fld Z h0 a0 "java/lang/String" "value" "[B" (.ref b0)) (S_COMPACT_STRINGS : Sta Z h0 "java/lang/String" "COMPACT_STRINGS" "Z" (.int w)) (hw0 : ¬ (w = (0 : Int32))) (V0 : Arv Z h0 b0 kk .byte (0 : Int32) [] (.int 0)) :
    MetFree l own_m8 (head1 (Jvm.Cond.code own_m8 jdk_42_method_79_code 2 (some .int) :: ws) ({ frames := 6, cells := 0, slots := 0, locals := 150 } : Room)) (fun a U => a = #[(.ref a0), (.int p1)] ∧ Z.Warmed39 U.vm ∧ U.heap = h0) (fun _ _ _ _ _ => True) (fun _ U o U' => ∃ v L, o = .returned v ∧ Qsxa0 Z a0 p1 b0 kk w h0 n0 v U'.heap L ∧ FrameEnd U o U' L ({ frames := 6, cells := 0, slots := 0, locals := 150 } : Room).cells ({ frames := 6, cells := 0, slots := 0, locals := 150 } : Room).slots) := by
  refine MetFree.of_bodySF (plainFor_of_name pn_7) hisR ?_
  intro p e s m args below meth c s₁ Bd hml0 hP hK
  obtain ⟨rfl, hZ, hh⟩ := hP
  have hx := Bd.exec
  have hby := Bd.bytes
  have hml : c.maxLocals = 2 := hml0
  have hown : s.vm.findClass "java/lang/String" = some m.cls := findClass_of_methodNamed Bd.named
  have X0 : Stand p l e ({ frames := 6, cells := 0, slots := 0, locals := 150 } : Room) s m #[(.ref a0), (.int p1)] below meth c s₁ [] 0 0 := Stand.of_body Bd
  have e0 : s₁.heap = h0 := by rw [← hh, Bd.state]; rfl
  have N0 := Fr.nil n0
  have K0 : Keep h0 h0 [] := Keep.refl h0 []
  refine og (B := s₁.setTop (mkF m 0 #[rv a0, iv p1] [])) (fun t k => castTop (ef_sxa0 m a0 p1) k) ?_
  refine og (B := s₁.setTop (mkF m 3 #[rv a0, iv p1] [(.int 0), (.int p1), (.ref a0)])) (fun t k => ?_) ?_
  · refine XS.aloadN X0.here hx rfl (hb hby d7_0) rfl rfl ?_
    refine XS.iloadN X0.here hx rfl (hb hby d7_1) rfl ?_
    refine XS.iconst X0.here hx rfl (hb hby d7_2) ?_
    exact k
  obtain ⟨cq_1, kq_1, q_1a, q_1b, q_1c⟩ := isOf hZ e0 E_a0
  obtain ⟨_, _, ⟨T_1, L_1, k_1, n_1⟩, -, X_1, ⟨Lc_1, hQ_1, l_1, y_1, z_1⟩, st_1⟩ := X0.virtualBack hx (y := own_m9) (z := own_m9) hown (mvT hZ (ow hw 49 rfl)) (mvT hZ (ow hw 50 rfl)) (notFace_of_selects (args := #[]) (mvT hZ (ow hw 52 rfl))) (mvT hZ (ow hw 52 rfl)) (mvT hZ (ow hw 51 rfl)) (by decide) (backOf (W := 0) (rmsxb0 l Z av0 hw [] a0 p1 b0 kk w h0 n0 Z0 E_a0 F_coder_a0 F_value_a0 S_COMPACT_STRINGS hw0 V0) hZ (ow hw 53 rfl) (ow hw 7 rfl) (by decide) (by decide)) q_1a q_1c (g := (mkF m 3 #[rv a0, iv p1] [(.int 0), (.int p1), (.ref a0)])) rfl (by rw [hml]; rfl) (Steps.refl _) (argsL := [(.int p1), (.int 0)]) (rest := []) (lenOf pd_2 rfl) rfl (by show 2 * 0 + _ ≤ _; exact Nat.le_of_eq rfl) (hb hby d7_3) (fun _ _ => ⟨rfl, e0, (by decide : 0 + 0 ≤ _), (by decide : 0 + 0 ≤ _)⟩)
  dsimp only [Pt.U, Pt.locs, Pt.cells, Pt.slots] at X_1 l_1 y_1 z_1 st_1 hQ_1
  subst l_1 y_1 z_1
  obtain ⟨rfl, N_1q, e_1⟩ := hQ_1
  have N_1 := Fr.app N0 N_1q
  refine og (fun t k => st_1.trans k) ?_
  obtain ⟨fs, hr, hrun, hended, hW, hsame⟩ := X_1.leave (v := some (.int (own_ixl0 p1))) (fun h => by rw [Bd.returns] at h; cases h)
  refine ⟨_, _, ?_, hrun, hended, _, _, rfl, ?_, ⟨_, rfl⟩, hW, hsame.mono (by decide) (by decide)⟩
  · show Steps p.tables e below (T_1.setTop (mkF m 6 #[rv a0, iv p1] [(.int (own_ixl0 p1))])) _
    exact retI X_1 hx Bd.returns (hb hby d7_6) hr
  · show Qsxa0 Z a0 p1 b0 kk w h0 n0 _ T_1.heap _
    rw [e_1]
    exact ⟨rfl, N_1, rfl⟩
theorem d25_0 : decode jdk_43_method_23_code 0 = .ok (.iload_n 1, 1) := by decide +kernel
theorem d25_1 : decode jdk_43_method_23_code 1 = .ok (.i2b, 1) := by decide +kernel
theorem d25_2 : decode jdk_43_method_23_code 2 = .ok (.istore 4, 2) := by decide +kernel
theorem d25_4 : decode jdk_43_method_23_code 4 = .ok (.iload_n 2, 1) := by decide +kernel
theorem d25_5 : decode jdk_43_method_23_code 5 = .ok (.istore 5, 2) := by decide +kernel
theorem d25_7 : decode jdk_43_method_23_code 7 = .ok (.iload 5, 2) := by decide +kernel
theorem d25_9 : decode jdk_43_method_23_code 9 = .ok (.iload_n 3, 1) := by decide +kernel
theorem d25_10 : decode jdk_43_method_23_code 10 = .ok (.if_icmp .ge 21, 3) := by decide +kernel
theorem d25_13 : decode jdk_43_method_23_code 13 = .ok (.aload_n 0, 1) := by decide +kernel
theorem d25_14 : decode jdk_43_method_23_code 14 = .ok (.iload 5, 2) := by decide +kernel
theorem d25_16 : decode jdk_43_method_23_code 16 = .ok (.baload, 1) := by decide +kernel
theorem d25_17 : decode jdk_43_method_23_code 17 = .ok (.iload 4, 2) := by decide +kernel
theorem d25_19 : decode jdk_43_method_23_code 19 = .ok (.if_icmp .ne 6, 3) := by decide +kernel
theorem d25_22 : decode jdk_43_method_23_code 22 = .ok (.iload 5, 2) := by decide +kernel
theorem d25_24 : decode jdk_43_method_23_code 24 = .ok (.ireturn, 1) := by decide +kernel
theorem d25_25 : decode jdk_43_method_23_code 25 = .ok (.iinc 5 1, 3) := by decide +kernel
theorem d25_28 : decode jdk_43_method_23_code 28 = .ok (.goto (-21), 3) := by decide +kernel
theorem d25_31 : decode jdk_43_method_23_code 31 = .ok (.iconst (-1), 1) := by decide +kernel
theorem d25_32 : decode jdk_43_method_23_code 32 = .ok (.ireturn, 1) := by decide +kernel
theorem pn_25 : plainName "java/lang/StringLatin1" = true := by first | (simp [plainName, overriddenIn]; done) | decide +kernel
theorem ef_ioc1 (m : MethodId) (a0 : Addr) (p1 : Int32) : entryFrame m #[(.ref a0), (.int p1), (.int 0), (.int 1)] 6 = mkF m 0 #[rv a0, iv p1, iv 0, iv 1, oU, oU] [] := by first | (simp [entryFrame, mkF, argsToLocals, Value.category]; done) | rfl
def own_ioc1  (ee0 : Int32) (p1 : Int32) : Int32 := (if ee0 = (p1.toInt8.toInt32) then (0 : Int32) else (-1 : Int32))
def Qioc1 (Z : State) (a0 : Addr) (p1 : Int32) (kk : ClassId) (ee0 : Int32) (h0 : Heap) (n0 : Nat) (v : Option Value) (h : Heap) (L : List Loc) : Prop := v = some (.int (own_ioc1 ee0 p1)) ∧ Fr n0 L ∧ h = h0
theorem rmioc1 (l : Launch) (Z : State) (av0 : Array Value) (hw : ∀ d ∈ tables_1, d.before av0 Z = true) (ws : List Jvm.Cond) (a0 : Addr) (p1 : Int32) (kk : ClassId) (ee0 : Int32) (h0 : Heap) (n0 : Nat) (Z0 : n0 ≤ h0.size) (V0 : Arv Z h0 a0 kk .byte (1 : Int32) [(.int ee0)] (.int 0)) :
    MetFree l own_m26 (head1 (Jvm.Cond.code own_m26 jdk_43_method_23_code 6 (some .int) :: ws) ({ frames := 0, cells := 0, slots := 0, locals := 0 } : Room)) (fun a U => a = #[(.ref a0), (.int p1), (.int 0), (.int 1)] ∧ Z.Warmed39 U.vm ∧ U.heap = h0) (fun _ _ _ _ _ => True) (fun _ U o U' => ∃ v L, o = .returned v ∧ Qioc1 Z a0 p1 kk ee0 h0 n0 v U'.heap L ∧ FrameEnd U o U' L ({ frames := 0, cells := 0, slots := 0, locals := 0 } : Room).cells ({ frames := 0, cells := 0, slots := 0, locals := 0 } : Room).slots) := by
  refine MetFree.of_bodySF (plainFor_of_name pn_25) hisR ?_
  intro p e s m args below meth c s₁ Bd hml0 hP hK
  obtain ⟨rfl, hZ, hh⟩ := hP
  have hx := Bd.exec
  have hby := Bd.bytes
  have hml : c.maxLocals = 6 := hml0
  have hown : s.vm.findClass "java/lang/StringLatin1" = some m.cls := findClass_of_methodNamed Bd.named
  have X0 : Stand p l e ({ frames := 0, cells := 0, slots := 0, locals := 0 } : Room) s m #[(.ref a0), (.int p1), (.int 0), (.int 1)] below meth c s₁ [] 0 0 := Stand.of_body Bd
  have e0 : s₁.heap = h0 := by rw [← hh, Bd.state]; rfl
  have N0 := Fr.nil n0
  have K0 : Keep h0 h0 [] := Keep.refl h0 []
  refine og (B := s₁.setTop (mkF m 0 #[rv a0, iv p1, iv 0, iv 1, oU, oU] [])) (fun t k => castTop (ef_ioc1 m a0 p1) k) ?_
  refine og (B := s₁.setTop (mkF m 10 #[rv a0, iv p1, iv 0, iv 1, iv (p1.toInt8.toInt32), iv 0] [(.int 1), (.int 0)])) (fun t k => ?_) ?_
  · refine XS.iloadN X0.here hx rfl (hb hby d25_0) rfl ?_
    refine XS.i2b X0.here hx rfl (hb hby d25_1) rfl ?_
    refine XS.istore X0.here hx rfl (hb hby d25_2) rfl (l' := #[rv a0, iv p1, iv 0, iv 1, iv (p1.toInt8.toInt32), oU]) rfl ?_
    refine XS.iloadN X0.here hx rfl (hb hby d25_4) rfl ?_
    refine XS.istore X0.here hx rfl (hb hby d25_5) rfl (l' := #[rv a0, iv p1, iv 0, iv 1, iv (p1.toInt8.toInt32), iv 0]) rfl ?_
    refine XS.iload X0.here hx rfl (hb hby d25_7) rfl ?_
    refine XS.iloadN X0.here hx rfl (hb hby d25_9) rfl ?_
    exact k
  refine og (B := s₁.setTop (mkF m 13 #[rv a0, iv p1, iv 0, iv 1, iv (p1.toInt8.toInt32), iv 0] [])) (fun t k => ?_) ?_
  · refine XS.icmpNo X0.here hx rfl (hb hby d25_10) rfl (tlt (by decide : (0 : Int32) < (1 : Int32))).2.1 ?_
    exact k
  refine og (B := s₁.setTop (mkF m 16 #[rv a0, iv p1, iv 0, iv 1, iv (p1.toInt8.toInt32), iv 0] [(.int 0), (.ref a0)])) (fun t k => ?_) ?_
  · refine XS.aloadN X0.here hx rfl (hb hby d25_13) rfl rfl ?_
    refine XS.iload X0.here hx rfl (hb hby d25_14) rfl ?_
    exact k
  obtain ⟨cl_1, Ar_1, q_1, S_1, M_1, H_1, G_1⟩ := id V0
  have hin_1 : ¬ ((0 : Int32) < 0 ∨ cl_1.slots.size ≤ ((0 : Int32)).toNatClampNeg) := inb_of S_1 ⟨by decide, by decide⟩
  have hat_1 : cl_1.slots[((0 : Int32)).toNatClampNeg]? = some (.int ee0) := H_1.at hin_1 rfl
  refine og (B := s₁.setTop (mkF m 17 #[rv a0, iv p1, iv 0, iv 1, iv (p1.toInt8.toInt32), iv 0] [(.int ee0)])) (fun t k => X0.baloadBytes hx (j := (0 : Int32)) (v := (.int ee0)) (by rw [(e0 : _ = _)]; exact Ar_1.1) (State.isArrayOf_alike hZ.alike Ar_1.2.1) Ar_1.2.2 hin_1 hat_1 (g := (mkF m 16 #[rv a0, iv p1, iv 0, iv 1, iv (p1.toInt8.toInt32), iv 0] [(.int 0), (.ref a0)])) rfl rfl (hb hby d25_16) t k) ?_
  refine og (B := s₁.setTop (mkF m 19 #[rv a0, iv p1, iv 0, iv 1, iv (p1.toInt8.toInt32), iv 0] [(.int (p1.toInt8.toInt32)), (.int ee0)])) (fun t k => ?_) ?_
  · refine XS.iload X0.here hx rfl (hb hby d25_17) rfl ?_
    exact k
  by_cases hc19 : ee0 = (p1.toInt8.toInt32)
  · refine og (B := s₁.setTop (mkF m 22 #[rv a0, iv p1, iv 0, iv 1, iv (p1.toInt8.toInt32), iv 0] [])) (fun t k => ?_) ?_
    · refine XS.icmpNo X0.here hx rfl (hb hby d25_19) rfl (teq hc19).2 ?_
      exact k
    refine og (B := s₁.setTop (mkF m 24 #[rv a0, iv p1, iv 0, iv 1, iv (p1.toInt8.toInt32), iv 0] [(.int 0)])) (fun t k => ?_) ?_
    · refine XS.iload X0.here hx rfl (hb hby d25_22) rfl ?_
      exact k
    obtain ⟨fs, hr, hrun, hended, hW, hsame⟩ := X0.leave (v := some (.int 0)) (fun h => by rw [Bd.returns] at h; cases h)
    refine ⟨_, _, ?_, hrun, hended, _, _, rfl, ?_, ⟨_, rfl⟩, hW, hsame.mono (by decide) (by decide)⟩
    · show Steps p.tables e below (s₁.setTop (mkF m 24 #[rv a0, iv p1, iv 0, iv 1, iv (p1.toInt8.toInt32), iv 0] [(.int 0)])) _
      exact retI X0 hx Bd.returns (hb hby d25_24) hr
    · show Qioc1 Z a0 p1 kk ee0 h0 n0 _ s₁.heap _
      rw [e0]
      exact ⟨by simp only [own_ioc1, if_pos hc19], N0, rfl⟩
  · refine og (B := s₁.setTop (mkF m 25 #[rv a0, iv p1, iv 0, iv 1, iv (p1.toInt8.toInt32), iv 0] [])) (fun t k => ?_) ?_
    · refine XS.icmpYes X0.here hx rfl (pc0 := 19) (pc' := 25) rfl (hb hby d25_19) rfl (feq hc19).2 (by decide) (by decide) ?_
      exact k
    refine og (B := s₁.setTop (mkF m 10 #[rv a0, iv p1, iv 0, iv 1, iv (p1.toInt8.toInt32), iv 1] [(.int 1), (.int 1)])) (fun t k => ?_) ?_
    · refine XS.iinc X0.here hx rfl (hb hby d25_25) rfl (l' := #[rv a0, iv p1, iv 0, iv 1, iv (p1.toInt8.toInt32), iv 1]) rfl ?_
      refine XS.goto X0.here hx rfl (pc0 := 28) (pc' := 7) rfl (hb hby d25_28) (by decide) (by decide) ?_
      refine XS.iload X0.here hx rfl (hb hby d25_7) rfl ?_
      refine XS.iloadN X0.here hx rfl (hb hby d25_9) rfl ?_
      exact k
    refine og (B := s₁.setTop (mkF m 31 #[rv a0, iv p1, iv 0, iv 1, iv (p1.toInt8.toInt32), iv 1] [])) (fun t k => ?_) ?_
    · refine XS.icmpYes X0.here hx rfl (pc0 := 10) (pc' := 31) rfl (hb hby d25_10) rfl (flt (by decide : ¬ ((1 : Int32) < (1 : Int32)))).2.1 (by decide) (by decide) ?_
      exact k
    refine og (B := s₁.setTop (mkF m 32 #[rv a0, iv p1, iv 0, iv 1, iv (p1.toInt8.toInt32), iv 1] [(.int (-1))])) (fun t k => ?_) ?_
    · refine XS.iconst X0.here hx rfl (hb hby d25_31) ?_
      exact k
    obtain ⟨fs, hr, hrun, hended, hW, hsame⟩ := X0.leave (v := some (.int (-1))) (fun h => by rw [Bd.returns] at h; cases h)
    refine ⟨_, _, ?_, hrun, hended, _, _, rfl, ?_, ⟨_, rfl⟩, hW, hsame.mono (by decide) (by decide)⟩
    · show Steps p.tables e below (s₁.setTop (mkF m 32 #[rv a0, iv p1, iv 0, iv 1, iv (p1.toInt8.toInt32), iv 1] [(.int (-1))])) _
      exact retI X0 hx Bd.returns (hb hby d25_32) hr
    · show Qioc1 Z a0 p1 kk ee0 h0 n0 _ s₁.heap _
      rw [e0]
      exact ⟨by simp only [own_ioc1, if_neg hc19], N0, rfl⟩
theorem d12_29 : decode jdk_43_method_22_code 29 = .ok (.aload_n 0, 1) := by decide +kernel
theorem d12_30 : decode jdk_43_method_22_code 30 = .ok (.iload_n 1, 1) := by decide +kernel
theorem d12_31 : decode jdk_43_method_22_code 31 = .ok (.iload_n 2, 1) := by decide +kernel
theorem d12_32 : decode jdk_43_method_22_code 32 = .ok (.iload_n 3, 1) := by decide +kernel
theorem d12_33 : decode jdk_43_method_22_code 33 = .ok (.invokestatic 95, 3) := by decide +kernel
theorem d12_36 : decode jdk_43_method_22_code 36 = .ok (.ireturn, 1) := by decide +kernel
theorem ef_ixl1 (m : MethodId) (a0 : Addr) (p1 : Int32) : entryFrame m #[(.ref a0), (.int p1), (.int 0), (.int 1)] 4 = mkF m 0 #[rv a0, iv p1, iv 0, iv 1] [] := by first | (simp [entryFrame, mkF, argsToLocals, Value.category]; done) | rfl
def own_ixl1  (ee0 : Int32) (p1 : Int32) : Int32 := (if (own_enc p1) = (0 : Int32) then (-1 : Int32) else (own_ioc1 ee0 p1))
def Qixl1 (Z : State) (a0 : Addr) (p1 : Int32) (kk : ClassId) (ee0 : Int32) (h0 : Heap) (n0 : Nat) (v : Option Value) (h : Heap) (L : List Loc) : Prop := v = some (.int (own_ixl1 ee0 p1)) ∧ Fr n0 L ∧ h = h0
theorem rmixl1 (l : Launch) (Z : State) (av0 : Array Value) (hw : ∀ d ∈ tables_1, d.before av0 Z = true) (ws : List Jvm.Cond) (a0 : Addr) (p1 : Int32) (kk : ClassId) (ee0 : Int32) (h0 : Heap) (n0 : Nat) (Z0 : n0 ≤ h0.size) (V0 : Arv Z h0 a0 kk .byte (1 : Int32) [(.int ee0)] (.int 0)) :
    MetFree l own_m13 (head1 (Jvm.Cond.code own_m13 jdk_43_method_22_code 4 (some .int) :: ws) ({ frames := 1, cells := 0, slots := 0, locals := 17 } : Room)) (fun a U => a = #[(.ref a0), (.int p1), (.int 0), (.int 1)] ∧ Z.Warmed39 U.vm ∧ U.heap = h0) (fun _ _ _ _ _ => True) (fun _ U o U' => ∃ v L, o = .returned v ∧ Qixl1 Z a0 p1 kk ee0 h0 n0 v U'.heap L ∧ FrameEnd U o U' L ({ frames := 1, cells := 0, slots := 0, locals := 17 } : Room).cells ({ frames := 1, cells := 0, slots := 0, locals := 17 } : Room).slots) := by
  refine MetFree.of_bodySF (plainFor_of_name pn_12) hisR ?_
  intro p e s m args below meth c s₁ Bd hml0 hP hK
  obtain ⟨rfl, hZ, hh⟩ := hP
  have hx := Bd.exec
  have hby := Bd.bytes
  have hml : c.maxLocals = 4 := hml0
  have hown : s.vm.findClass "java/lang/StringLatin1" = some m.cls := findClass_of_methodNamed Bd.named
  have X0 : Stand p l e ({ frames := 1, cells := 0, slots := 0, locals := 17 } : Room) s m #[(.ref a0), (.int p1), (.int 0), (.int 1)] below meth c s₁ [] 0 0 := Stand.of_body Bd
  have e0 : s₁.heap = h0 := by rw [← hh, Bd.state]; rfl
  have N0 := Fr.nil n0
  have K0 : Keep h0 h0 [] := Keep.refl h0 []
  refine og (B := s₁.setTop (mkF m 0 #[rv a0, iv p1, iv 0, iv 1] [])) (fun t k => castTop (ef_ixl1 m a0 p1) k) ?_
  refine og (B := s₁.setTop (mkF m 1 #[rv a0, iv p1, iv 0, iv 1] [(.int p1)])) (fun t k => ?_) ?_
  · refine XS.iloadN X0.here hx rfl (hb hby d12_0) rfl ?_
    exact k
  obtain ⟨_, _, ⟨T_1, L_1, k_1, n_1⟩, -, X_1, ⟨Lc_1, hQ_1, l_1, y_1, z_1⟩, st_1⟩ := Jvm.LawKit.callS X0 hx (y := own_m14) hown (mvT hZ (ow hw 74 rfl)) (mvT hZ (ow hw 75 rfl)) (mvT hZ (ow hw 72 rfl)) (mvT hZ (ow hw 76 rfl)) (by decide) (backOf (W := 0) (rm13 l Z av0 hw [] p1  h0 n0 Z0 ) hZ (ow hw 76 rfl) (ow hw 72 rfl) (by decide) (by decide)) (g := (mkF m 1 #[rv a0, iv p1, iv 0, iv 1] [(.int p1)])) rfl (by rw [hml]; rfl) (argsL := [(.int p1)]) (rest := []) (lenOf pd_1 rfl) rfl (by show 2 * 0 + _ ≤ _; exact Nat.le_of_eq rfl) (hb hby d12_1) (fun _ _ => ⟨rfl, e0, (by decide : 0 + 0 ≤ _), (by decide : 0 + 0 ≤ _)⟩)
  dsimp only [Pt.U, Pt.locs, Pt.cells, Pt.slots] at X_1 l_1 y_1 z_1 st_1 hQ_1
  subst l_1 y_1 z_1
  obtain ⟨rfl, N_1q, e_1⟩ := hQ_1
  have N_1 := Fr.app N0 N_1q
  refine og (fun t k => st_1 t k) ?_
  by_cases hc4 : (own_enc p1) = (0 : Int32)
  · refine og (B := T_1.setTop (mkF m 7 #[rv a0, iv p1, iv 0, iv 1] [])) (fun t k => ?_) ?_
    · refine XS.ifNo X_1.here hx rfl (hb hby d12_4) rfl ((if0 _ _).trans (teq hc4).2) ?_
      exact k
    refine og (B := T_1.setTop (mkF m 8 #[rv a0, iv p1, iv 0, iv 1] [(.int (-1))])) (fun t k => ?_) ?_
    · refine XS.iconst X_1.here hx rfl (hb hby d12_7) ?_
      exact k
    obtain ⟨fs, hr, hrun, hended, hW, hsame⟩ := X_1.leave (v := some (.int (-1))) (fun h => by rw [Bd.returns] at h; cases h)
    refine ⟨_, _, ?_, hrun, hended, _, _, rfl, ?_, ⟨_, rfl⟩, hW, hsame.mono (by decide) (by decide)⟩
    · show Steps p.tables e below (T_1.setTop (mkF m 8 #[rv a0, iv p1, iv 0, iv 1] [(.int (-1))])) _
      exact retI X_1 hx Bd.returns (hb hby d12_8) hr
    · show Qixl1 Z a0 p1 kk ee0 h0 n0 _ T_1.heap _
      rw [e_1]
      exact ⟨by simp only [own_ixl1, if_pos hc4], N_1, rfl⟩
  · refine og (B := T_1.setTop (mkF m 9 #[rv a0, iv p1, iv 0, iv 1] [])) (fun t k => ?_) ?_
    · refine XS.ifYes X_1.here hx rfl (pc0 := 4) (pc' := 9) rfl (hb hby d12_4) rfl ((if0 _ _).trans (feq hc4).2) (by decide) (by decide) ?_
      exact k
    refine og (B := T_1.setTop (mkF m 11 #[rv a0, iv p1, iv 0, iv 1] [(.int 0), (.int 0)])) (fun t k => ?_) ?_
    · refine XS.iloadN X_1.here hx rfl (hb hby d12_9) rfl ?_
      refine XS.iconst X_1.here hx rfl (hb hby d12_10) ?_
      exact k
    obtain ⟨_, _, ⟨T_2, L_2, k_2, n_2⟩, -, X_2, ⟨Lc_2, hQ_2, l_2, y_2, z_2⟩, st_2⟩ := Jvm.LawKit.callS X_1 hx (y := own_m15) hown (mvT hZ (ow hw 77 rfl)) (mvT hZ (ow hw 78 rfl)) (mvT hZ (ow hw 79 rfl)) (mvT hZ (ow hw 80 rfl)) (by decide) (backOf (W := 0) (rm14 l Z av0 hw [] (0 : Int32) (0 : Int32)  h0 n0 Z0 ) hZ (ow hw 80 rfl) (ow hw 79 rfl) (by decide) (by decide)) (g := (mkF m 11 #[rv a0, iv p1, iv 0, iv 1] [(.int 0), (.int 0)])) rfl (by rw [hml]; rfl) (argsL := [(.int 0), (.int 0)]) (rest := []) (lenOf pd_2 rfl) rfl (by show 2 * 0 + _ ≤ _; exact Nat.le_of_eq rfl) (hb hby d12_11) (fun _ _ => ⟨rfl, e_1, (by decide : 0 + 0 ≤ _), (by decide : 0 + 0 ≤ _)⟩)
    dsimp only [Pt.U, Pt.locs, Pt.cells, Pt.slots] at X_2 l_2 y_2 z_2 st_2 hQ_2
    subst l_2 y_2 z_2
    obtain ⟨hv_2, N_2q, e_2⟩ := hQ_2
    have N_2 := Fr.app N_1 N_2q
    rw [show own_maxi (0 : Int32) (0 : Int32) = (0 : Int32) from by decide] at hv_2
    subst hv_2
    refine og (fun t k => st_2 t k) ?_
    refine og (B := T_2.setTop (mkF m 17 #[rv a0, iv p1, iv 0, iv 1] [(.ref a0), (.int 1)])) (fun t k => ?_) ?_
    · refine XS.istoreN X_2.here hx rfl (hb hby d12_14) rfl (l' := #[rv a0, iv p1, iv 0, iv 1]) rfl ?_
      refine XS.iloadN X_2.here hx rfl (hb hby d12_15) rfl ?_
      refine XS.aloadN X_2.here hx rfl (hb hby d12_16) rfl rfl ?_
      exact k
    obtain ⟨cl_3, Ar_3, -, S_3, M_3, -, -⟩ := id V0
    refine og (B := T_2.setTop (mkF m 18 #[rv a0, iv p1, iv 0, iv 1] [(.int 1), (.int 1)])) (fun t k => X_2.arraylength hx (by rw [(e_2 : _ = _)]; exact Ar_3.1) (State.isArrayOf_alike hZ.alike Ar_3.2.1) (g := (mkF m 17 #[rv a0, iv p1, iv 0, iv 1] [(.ref a0), (.int 1)])) rfl rfl (hb hby d12_17) t (by rw [len_of S_3 M_3]; exact k)) ?_
    obtain ⟨_, _, ⟨T_4, L_4, k_4, n_4⟩, -, X_4, ⟨Lc_4, hQ_4, l_4, y_4, z_4⟩, st_4⟩ := Jvm.LawKit.callS X_2 hx (y := own_m16) hown (mvT hZ (ow hw 81 rfl)) (mvT hZ (ow hw 82 rfl)) (mvT hZ (ow hw 79 rfl)) (mvT hZ (ow hw 83 rfl)) (by decide) (backOf (W := 0) (rm15 l Z av0 hw [] (1 : Int32) (1 : Int32)  h0 n0 Z0 ) hZ (ow hw 83 rfl) (ow hw 79 rfl) (by decide) (by decide)) (g := (mkF m 18 #[rv a0, iv p1, iv 0, iv 1] [(.int 1), (.int 1)])) rfl (by rw [hml]; rfl) (argsL := [(.int 1), (.int 1)]) (rest := []) (lenOf pd_2 rfl) rfl (by show 2 * 0 + _ ≤ _; exact Nat.le_of_eq rfl) (hb hby d12_18) (fun _ _ => ⟨rfl, e_2, (by decide : 0 + 0 ≤ _), (by decide : 0 + 0 ≤ _)⟩)
    dsimp only [Pt.U, Pt.locs, Pt.cells, Pt.slots] at X_4 l_4 y_4 z_4 st_4 hQ_4
    subst l_4 y_4 z_4
    obtain ⟨hv_4, N_4q, e_4⟩ := hQ_4
    have N_4 := Fr.app N_2 N_4q
    rw [show own_mini (1 : Int32) (1 : Int32) = (1 : Int32) from by decide] at hv_4
    subst hv_4
    refine og (fun t k => st_4 t k) ?_
    refine og (B := T_4.setTop (mkF m 24 #[rv a0, iv p1, iv 0, iv 1] [(.int 1), (.int 0)])) (fun t k => ?_) ?_
    · refine XS.istoreN X_4.here hx rfl (hb hby d12_21) rfl (l' := #[rv a0, iv p1, iv 0, iv 1]) rfl ?_
      refine XS.iloadN X_4.here hx rfl (hb hby d12_22) rfl ?_
      refine XS.iloadN X_4.here hx rfl (hb hby d12_23) rfl ?_
      exact k
    refine og (B := T_4.setTop (mkF m 29 #[rv a0, iv p1, iv 0, iv 1] [])) (fun t k => ?_) ?_
    · refine XS.icmpYes X_4.here hx rfl (pc0 := 24) (pc' := 29) rfl (hb hby d12_24) rfl (tlt (by decide : (0 : Int32) < (1 : Int32))).1 (by decide) (by decide) ?_
      exact k
    refine og (B := T_4.setTop (mkF m 33 #[rv a0, iv p1, iv 0, iv 1] [(.int 1), (.int 0), (.int p1), (.ref a0)])) (fun t k => ?_) ?_
    · refine XS.aloadN X_4.here hx rfl (hb hby d12_29) rfl rfl ?_
      refine XS.iloadN X_4.here hx rfl (hb hby d12_30) rfl ?_
      refine XS.iloadN X_4.here hx rfl (hb hby d12_31) rfl ?_
      refine XS.iloadN X_4.here hx rfl (hb hby d12_32) rfl ?_
      exact k
    obtain ⟨_, _, ⟨T_5, L_5, k_5, n_5⟩, -, X_5, ⟨Lc_5, hQ_5, l_5, y_5, z_5⟩, st_5⟩ := Jvm.LawKit.callS X_4 hx (y := own_m26) hown (mvT hZ (ow hw 129 rfl)) (mvT hZ (ow hw 130 rfl)) (mvT hZ (ow hw 72 rfl)) (mvT hZ (ow hw 131 rfl)) (by decide) (backOf (W := 0) (rmioc1 l Z av0 hw [] a0 p1 kk ee0 h0 n0 Z0 V0) hZ (ow hw 131 rfl) (ow hw 72 rfl) (by decide) (by decide)) (g := (mkF m 33 #[rv a0, iv p1, iv 0, iv 1] [(.int 1), (.int 0), (.int p1), (.ref a0)])) rfl (by rw [hml]; rfl) (argsL := [(.ref a0), (.int p1), (.int 0), (.int 1)]) (rest := []) (lenOf pd_5 rfl) rfl (by show 2 * 0 + _ ≤ _; exact Nat.le_of_eq rfl) (hb hby d12_33) (fun _ _ => ⟨rfl, e_4, (by decide : 0 + 0 ≤ _), (by decide : 0 + 0 ≤ _)⟩)
    dsimp only [Pt.U, Pt.locs, Pt.cells, Pt.slots] at X_5 l_5 y_5 z_5 st_5 hQ_5
    subst l_5 y_5 z_5
    obtain ⟨rfl, N_5q, e_5⟩ := hQ_5
    have N_5 := Fr.app N_4 N_5q
    refine og (fun t k => st_5 t k) ?_
    obtain ⟨fs, hr, hrun, hended, hW, hsame⟩ := X_5.leave (v := some (.int (own_ioc1 ee0 p1))) (fun h => by rw [Bd.returns] at h; cases h)
    refine ⟨_, _, ?_, hrun, hended, _, _, rfl, ?_, ⟨_, rfl⟩, hW, hsame.mono (by decide) (by decide)⟩
    · show Steps p.tables e below (T_5.setTop (mkF m 36 #[rv a0, iv p1, iv 0, iv 1] [(.int (own_ioc1 ee0 p1))])) _
      exact retI X_5 hx Bd.returns (hb hby d12_36) hr
    · show Qixl1 Z a0 p1 kk ee0 h0 n0 _ T_5.heap _
      rw [e_5]
      exact ⟨by simp only [own_ixl1, if_neg hc4], N_5, rfl⟩
theorem ef_sxb1 (m : MethodId) (a0 : Addr) (p1 : Int32) : entryFrame m #[(.ref a0), (.int p1), (.int 0)] 3 = mkF m 0 #[rv a0, iv p1, iv 0] [] := by first | (simp [entryFrame, mkF, argsToLocals, Value.category]; done) | rfl
def Qsxb1 (Z : State) (a0 : Addr) (p1 : Int32) (b0 : Addr) (kk : ClassId) (w : Int32) (ee0 : Int32) (h0 : Heap) (n0 : Nat) (v : Option Value) (h : Heap) (L : List Loc) : Prop := v = some (.int (own_ixl1 ee0 p1)) ∧ Fr n0 L ∧ h = h0
theorem rmsxb1 (l : Launch) (Z : State) (av0 : Array Value) (hw : ∀ d ∈ tables_1, d.before av0 Z = true) (ws : List Jvm.Cond) (a0 : Addr) (p1 : Int32) (b0 : Addr) (kk : ClassId) (w : Int32) (ee0 : Int32) (h0 : Heap) (n0 : Nat) (Z0 : n0 ≤ h0.size) (E_a0 : Exa Z h0 a0 "java/lang/String") (F_coder_a0 : Fld Z h0 a0 "java/lang/String" "coder" "B" (.int 0)) (F_value_a0 : Fld Z h0 a0 "java/lang/String" "value" "[B" (.ref b0)) (S_COMPACT_STRINGS : Sta Z h0 "java/lang/String" "COMPACT_STRINGS" "Z" (.int w)) (hw0 : ¬ (w = (0 : Int32))) (V0 : Arv Z h0 b0 kk .byte (1 : Int32) [(.int ee0)] (.int 0)) :
    MetFree l own_m9 (head1 (Jvm.Cond.code own_m9 jdk_42_method_80_code 3 (some .int) :: ws) ({ frames := 2, cells := 0, slots := 0, locals := 32 } : Room)) (fun a U => a = #[(.ref a0), (.int p1), (.int 0)] ∧ Z.Warmed39 U.vm ∧ U.heap = h0) (fun _ _ _ _ _ => True) (fun _ U o U' => ∃ v L, o = .returned v ∧ Qsxb1 Z a0 p1 b0 kk w ee0 h0 n0 v U'.heap L ∧ FrameEnd U o U' L ({ frames := 2, cells := 0, slots := 0, locals := 32 } : Room).cells ({ frames := 2, cells := 0, slots := 0, locals := 32 } : Room).slots) := by
  refine MetFree.of_bodySF (plainFor_of_name pn_8) hisR ?_
  intro p e s m args below meth c s₁ Bd hml0 hP hK
  obtain ⟨rfl, hZ, hh⟩ := hP
  have hx := Bd.exec
  have hby := Bd.bytes
  have hml : c.maxLocals = 3 := hml0
  have hown : s.vm.findClass "java/lang/String" = some m.cls := findClass_of_methodNamed Bd.named
  have X0 : Stand p l e ({ frames := 2, cells := 0, slots := 0, locals := 32 } : Room) s m #[(.ref a0), (.int p1), (.int 0)] below meth c s₁ [] 0 0 := Stand.of_body Bd
  have e0 : s₁.heap = h0 := by rw [← hh, Bd.state]; rfl
  have N0 := Fr.nil n0
  have K0 : Keep h0 h0 [] := Keep.refl h0 []
  refine og (B := s₁.setTop (mkF m 0 #[rv a0, iv p1, iv 0] [])) (fun t k => castTop (ef_sxb1 m a0 p1) k) ?_
  refine og (B := s₁.setTop (mkF m 1 #[rv a0, iv p1, iv 0] [(.ref a0)])) (fun t k => ?_) ?_
  · refine XS.aloadN X0.here hx rfl (hb hby d8_0) rfl rfl ?_
    exact k
  obtain ⟨cq_1, kq_1, q_1a, q_1b, q_1c⟩ := isOf hZ e0 E_a0
  obtain ⟨_, _, ⟨T_1, L_1, k_1, n_1⟩, -, X_1, ⟨Lc_1, hQ_1, l_1, y_1, z_1⟩, st_1⟩ := X0.virtualBack hx (y := own_m10) (z := own_m10) hown (mvT hZ (ow hw 54 rfl)) (mvT hZ (ow hw 55 rfl)) (notFace_of_selects (args := #[]) (mvT hZ (ow hw 57 rfl))) (mvT hZ (ow hw 57 rfl)) (mvT hZ (ow hw 56 rfl)) (by decide) (backOf (W := 0) (rm9 l Z av0 hw [] a0 w h0 n0 Z0 F_coder_a0 S_COMPACT_STRINGS hw0) hZ (ow hw 58 rfl) (ow hw 7 rfl) (by decide) (by decide)) q_1a q_1c (g := (mkF m 1 #[rv a0, iv p1, iv 0] [(.ref a0)])) rfl (by rw [hml]; rfl) (Steps.refl _) (argsL := []) (rest := []) (lenOf pd_3 rfl) rfl (by show 2 * 0 + _ ≤ _; exact Nat.le_of_eq rfl) (hb hby d8_1) (fun _ _ => ⟨rfl, e0, (by decide : 0 + 0 ≤ _), (by decide : 0 + 0 ≤ _)⟩)
  dsimp only [Pt.U, Pt.locs, Pt.cells, Pt.slots] at X_1 l_1 y_1 z_1 st_1 hQ_1
  subst l_1 y_1 z_1
  obtain ⟨rfl, N_1q, e_1⟩ := hQ_1
  have N_1 := Fr.app N0 N_1q
  refine og (fun t k => st_1.trans k) ?_
  refine og (B := T_1.setTop (mkF m 7 #[rv a0, iv p1, iv 0] [])) (fun t k => ?_) ?_
  · refine XS.ifNo X_1.here hx rfl (hb hby d8_4) rfl ((if0 _ _).trans (feq (by decide : ¬ ((1 : Int32) = (0 : Int32)))).1) ?_
    exact k
  refine og (B := T_1.setTop (mkF m 8 #[rv a0, iv p1, iv 0] [(.ref a0)])) (fun t k => ?_) ?_
  · refine XS.aloadN X_1.here hx rfl (hb hby d8_7) rfl rfl ?_
    exact k
  obtain ⟨T_2, X_2, e_2, st_2⟩ := getF X_1 hx hZ hown (host := "") (Or.inl (ow hw 25 rfl)) Via.refl e_1 F_value_a0 (g := (mkF m 8 #[rv a0, iv p1, iv 0] [(.ref a0)])) rfl rfl (hb hby d8_8)
  refine og (fun t k => st_2 t k) ?_
  refine og (B := T_2.setTop (mkF m 14 #[rv a0, iv p1, iv 0] [(.ref a0), (.int 0), (.int p1), (.ref b0)])) (fun t k => ?_) ?_
  · refine XS.iloadN X_2.here hx rfl (hb hby d8_11) rfl ?_
    refine XS.iloadN X_2.here hx rfl (hb hby d8_12) rfl ?_
    refine XS.aloadN X_2.here hx rfl (hb hby d8_13) rfl rfl ?_
    exact k
  obtain ⟨cq_3, kq_3, q_3a, q_3b, q_3c⟩ := isOf hZ e_2 E_a0
  obtain ⟨_, _, ⟨T_3, L_3, k_3, n_3⟩, -, X_3, ⟨Lc_3, hQ_3, l_3, y_3, z_3⟩, st_3⟩ := X_2.virtualBack hx (y := own_m11) (z := own_m11) hown (mvT hZ (ow hw 60 rfl)) (mvT hZ (ow hw 61 rfl)) (notFace_of_selects (args := #[]) (mvT hZ (ow hw 63 rfl))) (mvT hZ (ow hw 63 rfl)) (mvT hZ (ow hw 62 rfl)) (by decide) (backOf (W := 3) (rm10 l Z av0 hw [] a0 b0 kk w (1 : Int32) [(.int ee0)] h0 n0 Z0 E_a0 F_coder_a0 F_value_a0 S_COMPACT_STRINGS hw0 V0) hZ (ow hw 64 rfl) (ow hw 7 rfl) (by decide) (by decide)) q_3a q_3c (g := (mkF m 14 #[rv a0, iv p1, iv 0] [(.ref a0), (.int 0), (.int p1), (.ref b0)])) rfl (by rw [hml]; rfl) (Steps.refl _) (argsL := []) (rest := [(.int 0), (.int p1), (.ref b0)]) (lenOf pd_4 rfl) rfl (by show 2 * 0 + _ ≤ _; exact Nat.le_of_eq rfl) (hb hby d8_14) (fun _ _ => ⟨rfl, e_2, (by decide : 0 + 0 ≤ _), (by decide : 0 + 0 ≤ _)⟩)
  dsimp only [Pt.U, Pt.locs, Pt.cells, Pt.slots] at X_3 l_3 y_3 z_3 st_3 hQ_3
  subst l_3 y_3 z_3
  obtain ⟨rfl, N_3q, e_3⟩ := hQ_3
  have N_3 := Fr.app N_1 N_3q
  refine og (fun t k => st_3.trans k) ?_
  obtain ⟨_, _, ⟨T_4, L_4, k_4, n_4⟩, -, X_4, ⟨Lc_4, hQ_4, l_4, y_4, z_4⟩, st_4⟩ := Jvm.LawKit.callS X_3 hx (y := own_m13) hown (mvT hZ (ow hw 70 rfl)) (mvT hZ (ow hw 71 rfl)) (mvT hZ (ow hw 72 rfl)) (mvT hZ (ow hw 73 rfl)) (by decide) (backOf (W := 0) (rmixl1 l Z av0 hw [] b0 p1 kk ee0 h0 n0 Z0 V0) hZ (ow hw 73 rfl) (ow hw 72 rfl) (by decide) (by decide)) (g := (mkF m 17 #[rv a0, iv p1, iv 0] [(.int 1), (.int 0), (.int p1), (.ref b0)])) rfl (by rw [hml]; rfl) (argsL := [(.ref b0), (.int p1), (.int 0), (.int 1)]) (rest := []) (lenOf pd_5 rfl) rfl (by show 2 * 0 + _ ≤ _; exact Nat.le_of_eq rfl) (hb hby d8_17) (fun _ _ => ⟨rfl, e_3, (by decide : 0 + 0 ≤ _), (by decide : 0 + 0 ≤ _)⟩)
  dsimp only [Pt.U, Pt.locs, Pt.cells, Pt.slots] at X_4 l_4 y_4 z_4 st_4 hQ_4
  subst l_4 y_4 z_4
  obtain ⟨rfl, N_4q, e_4⟩ := hQ_4
  have N_4 := Fr.app N_3 N_4q
  refine og (fun t k => st_4 t k) ?_
  refine og (B := T_4.setTop (mkF m 36 #[rv a0, iv p1, iv 0] [(.int (own_ixl1 ee0 p1))])) (fun t k => ?_) ?_
  · refine XS.goto X_4.here hx rfl (pc0 := 20) (pc' := 36) rfl (hb hby d8_20) (by decide) (by decide) ?_
    exact k
  obtain ⟨fs, hr, hrun, hended, hW, hsame⟩ := X_4.leave (v := some (.int (own_ixl1 ee0 p1))) (fun h => by rw [Bd.returns] at h; cases h)
  refine ⟨_, _, ?_, hrun, hended, _, _, rfl, ?_, ⟨_, rfl⟩, hW, hsame.mono (by decide) (by decide)⟩
  · show Steps p.tables e below (T_4.setTop (mkF m 36 #[rv a0, iv p1, iv 0] [(.int (own_ixl1 ee0 p1))])) _
    exact retI X_4 hx Bd.returns (hb hby d8_36) hr
  · show Qsxb1 Z a0 p1 b0 kk w ee0 h0 n0 _ T_4.heap _
    rw [e_4]
    exact ⟨rfl, N_4, rfl⟩
theorem ef_sxa1 (m : MethodId) (a0 : Addr) (p1 : Int32) : entryFrame m #[(.ref a0), (.int p1)] 2 = mkF m 0 #[rv a0, iv p1] [] := by first | (simp [entryFrame, mkF, argsToLocals, Value.category]; done) | rfl
def Qsxa1 (Z : State) (a0 : Addr) (p1 : Int32) (b0 : Addr) (kk : ClassId) (w : Int32) (ee0 : Int32) (h0 : Heap) (n0 : Nat) (v : Option Value) (h : Heap) (L : List Loc) : Prop := v = some (.int (own_ixl1 ee0 p1)) ∧ Fr n0 L ∧ h = h0
theorem rmsxa1 (l : Launch) (Z : State) (av0 : Array Value) (hw : ∀ d ∈ tables_1, d.before av0 Z = true) (ws : List Jvm.Cond) (a0 : Addr) (p1 : Int32) (b0 : Addr) (kk : ClassId) (w : Int32) (ee0 : Int32) (h0 : Heap) (n0 : Nat) (Z0 : n0 ≤ h0.size) (E_a0 : Exa Z h0 a0 "java/lang/String") (F_coder_a0 : Fld Z h0 a0 "java/lang/String" "coder" "B" (.int 0)) (F_value_a0 : Fld Z h0 a0 "java/lang/String" "value" "[B" (.ref b0)) (S_COMPACT_STRINGS : Sta Z h0 "java/lang/String" "COMPACT_STRINGS" "Z" (.int w)) (hw0 : ¬ (w = (0 : Int32))) (V0 : Arv Z h0 b0 kk .byte (1 : Int32) [(.int ee0)] (.int 0)) :
    MetFree l own_m8 (head1 (Jvm.Cond.code own_m8 jdk_42_method_79_code 2 (some .int) :: ws) ({ frames := 6, cells := 0, slots := 0, locals := 150 } : Room)) (fun a U => a = #[(.ref a0), (.int p1)] ∧ Z.Warmed39 U.vm ∧ U.heap = h0) (fun _ _ _ _ _ => True) (fun _ U o U' => ∃ v L, o = .returned v ∧ Qsxa1 Z a0 p1 b0 kk w ee0 h0 n0 v U'.heap L ∧ FrameEnd U o U' L ({ frames := 6, cells := 0, slots := 0, locals := 150 } : Room).cells ({ frames := 6, cells := 0, slots := 0, locals := 150 } : Room).slots) := by
  refine MetFree.of_bodySF (plainFor_of_name pn_7) hisR ?_
  intro p e s m args below meth c s₁ Bd hml0 hP hK
  obtain ⟨rfl, hZ, hh⟩ := hP
  have hx := Bd.exec
  have hby := Bd.bytes
  have hml : c.maxLocals = 2 := hml0
  have hown : s.vm.findClass "java/lang/String" = some m.cls := findClass_of_methodNamed Bd.named
  have X0 : Stand p l e ({ frames := 6, cells := 0, slots := 0, locals := 150 } : Room) s m #[(.ref a0), (.int p1)] below meth c s₁ [] 0 0 := Stand.of_body Bd
  have e0 : s₁.heap = h0 := by rw [← hh, Bd.state]; rfl
  have N0 := Fr.nil n0
  have K0 : Keep h0 h0 [] := Keep.refl h0 []
  refine og (B := s₁.setTop (mkF m 0 #[rv a0, iv p1] [])) (fun t k => castTop (ef_sxa1 m a0 p1) k) ?_
  refine og (B := s₁.setTop (mkF m 3 #[rv a0, iv p1] [(.int 0), (.int p1), (.ref a0)])) (fun t k => ?_) ?_
  · refine XS.aloadN X0.here hx rfl (hb hby d7_0) rfl rfl ?_
    refine XS.iloadN X0.here hx rfl (hb hby d7_1) rfl ?_
    refine XS.iconst X0.here hx rfl (hb hby d7_2) ?_
    exact k
  obtain ⟨cq_1, kq_1, q_1a, q_1b, q_1c⟩ := isOf hZ e0 E_a0
  obtain ⟨_, _, ⟨T_1, L_1, k_1, n_1⟩, -, X_1, ⟨Lc_1, hQ_1, l_1, y_1, z_1⟩, st_1⟩ := X0.virtualBack hx (y := own_m9) (z := own_m9) hown (mvT hZ (ow hw 49 rfl)) (mvT hZ (ow hw 50 rfl)) (notFace_of_selects (args := #[]) (mvT hZ (ow hw 52 rfl))) (mvT hZ (ow hw 52 rfl)) (mvT hZ (ow hw 51 rfl)) (by decide) (backOf (W := 0) (rmsxb1 l Z av0 hw [] a0 p1 b0 kk w ee0 h0 n0 Z0 E_a0 F_coder_a0 F_value_a0 S_COMPACT_STRINGS hw0 V0) hZ (ow hw 53 rfl) (ow hw 7 rfl) (by decide) (by decide)) q_1a q_1c (g := (mkF m 3 #[rv a0, iv p1] [(.int 0), (.int p1), (.ref a0)])) rfl (by rw [hml]; rfl) (Steps.refl _) (argsL := [(.int p1), (.int 0)]) (rest := []) (lenOf pd_2 rfl) rfl (by show 2 * 0 + _ ≤ _; exact Nat.le_of_eq rfl) (hb hby d7_3) (fun _ _ => ⟨rfl, e0, (by decide : 0 + 0 ≤ _), (by decide : 0 + 0 ≤ _)⟩)
  dsimp only [Pt.U, Pt.locs, Pt.cells, Pt.slots] at X_1 l_1 y_1 z_1 st_1 hQ_1
  subst l_1 y_1 z_1
  obtain ⟨rfl, N_1q, e_1⟩ := hQ_1
  have N_1 := Fr.app N0 N_1q
  refine og (fun t k => st_1.trans k) ?_
  obtain ⟨fs, hr, hrun, hended, hW, hsame⟩ := X_1.leave (v := some (.int (own_ixl1 ee0 p1))) (fun h => by rw [Bd.returns] at h; cases h)
  refine ⟨_, _, ?_, hrun, hended, _, _, rfl, ?_, ⟨_, rfl⟩, hW, hsame.mono (by decide) (by decide)⟩
  · show Steps p.tables e below (T_1.setTop (mkF m 6 #[rv a0, iv p1] [(.int (own_ixl1 ee0 p1))])) _
    exact retI X_1 hx Bd.returns (hb hby d7_6) hr
  · show Qsxa1 Z a0 p1 b0 kk w ee0 h0 n0 _ T_1.heap _
    rw [e_1]
    exact ⟨rfl, N_1, rfl⟩
theorem ef_ioc2 (m : MethodId) (a0 : Addr) (p1 : Int32) : entryFrame m #[(.ref a0), (.int p1), (.int 0), (.int 2)] 6 = mkF m 0 #[rv a0, iv p1, iv 0, iv 2, oU, oU] [] := by first | (simp [entryFrame, mkF, argsToLocals, Value.category]; done) | rfl
def own_ioc2  (ee0 : Int32) (ee1 : Int32) (p1 : Int32) : Int32 := (if ee0 = (p1.toInt8.toInt32) then (0 : Int32) else (if ee1 = (p1.toInt8.toInt32) then (1 : Int32) else (-1 : Int32)))
def Qioc2 (Z : State) (a0 : Addr) (p1 : Int32) (kk : ClassId) (ee0 : Int32) (ee1 : Int32) (h0 : Heap) (n0 : Nat) (v : Option Value) (h : Heap) (L : List Loc) : Prop := v = some (.int (own_ioc2 ee0 ee1 p1)) ∧ Fr n0 L ∧ h = h0
theorem rmioc2 (l : Launch) (Z : State) (av0 : Array Value) (hw : ∀ d ∈ tables_1, d.before av0 Z = true) (ws : List Jvm.Cond) (a0 : Addr) (p1 : Int32) (kk : ClassId) (ee0 : Int32) (ee1 : Int32) (h0 : Heap) (n0 : Nat) (Z0 : n0 ≤ h0.size) (V0 : Arv Z h0 a0 kk .byte (2 : Int32) [(.int ee0), (.int ee1)] (.int 0)) :
    MetFree l own_m26 (head1 (Jvm.Cond.code own_m26 jdk_43_method_23_code 6 (some .int) :: ws) ({ frames := 0, cells := 0, slots := 0, locals := 0 } : Room)) (fun a U => a = #[(.ref a0), (.int p1), (.int 0), (.int 2)] ∧ Z.Warmed39 U.vm ∧ U.heap = h0) (fun _ _ _ _ _ => True) (fun _ U o U' => ∃ v L, o = .returned v ∧ Qioc2 Z a0 p1 kk ee0 ee1 h0 n0 v U'.heap L ∧ FrameEnd U o U' L ({ frames := 0, cells := 0, slots := 0, locals := 0 } : Room).cells ({ frames := 0, cells := 0, slots := 0, locals := 0 } : Room).slots) := by
  refine MetFree.of_bodySF (plainFor_of_name pn_25) hisR ?_
  intro p e s m args below meth c s₁ Bd hml0 hP hK
  obtain ⟨rfl, hZ, hh⟩ := hP
  have hx := Bd.exec
  have hby := Bd.bytes
  have hml : c.maxLocals = 6 := hml0
  have hown : s.vm.findClass "java/lang/StringLatin1" = some m.cls := findClass_of_methodNamed Bd.named
  have X0 : Stand p l e ({ frames := 0, cells := 0, slots := 0, locals := 0 } : Room) s m #[(.ref a0), (.int p1), (.int 0), (.int 2)] below meth c s₁ [] 0 0 := Stand.of_body Bd
  have e0 : s₁.heap = h0 := by rw [← hh, Bd.state]; rfl
  have N0 := Fr.nil n0
  have K0 : Keep h0 h0 [] := Keep.refl h0 []
  refine og (B := s₁.setTop (mkF m 0 #[rv a0, iv p1, iv 0, iv 2, oU, oU] [])) (fun t k => castTop (ef_ioc2 m a0 p1) k) ?_
  refine og (B := s₁.setTop (mkF m 10 #[rv a0, iv p1, iv 0, iv 2, iv (p1.toInt8.toInt32), iv 0] [(.int 2), (.int 0)])) (fun t k => ?_) ?_
  · refine XS.iloadN X0.here hx rfl (hb hby d25_0) rfl ?_
    refine XS.i2b X0.here hx rfl (hb hby d25_1) rfl ?_
    refine XS.istore X0.here hx rfl (hb hby d25_2) rfl (l' := #[rv a0, iv p1, iv 0, iv 2, iv (p1.toInt8.toInt32), oU]) rfl ?_
    refine XS.iloadN X0.here hx rfl (hb hby d25_4) rfl ?_
    refine XS.istore X0.here hx rfl (hb hby d25_5) rfl (l' := #[rv a0, iv p1, iv 0, iv 2, iv (p1.toInt8.toInt32), iv 0]) rfl ?_
    refine XS.iload X0.here hx rfl (hb hby d25_7) rfl ?_
    refine XS.iloadN X0.here hx rfl (hb hby d25_9) rfl ?_
    exact k
  refine og (B := s₁.setTop (mkF m 13 #[rv a0, iv p1, iv 0, iv 2, iv (p1.toInt8.toInt32), iv 0] [])) (fun t k => ?_) ?_
  · refine XS.icmpNo X0.here hx rfl (hb hby d25_10) rfl (tlt (by decide : (0 : Int32) < (2 : Int32))).2.1 ?_
    exact k
  refine og (B := s₁.setTop (mkF m 16 #[rv a0, iv p1, iv 0, iv 2, iv (p1.toInt8.toInt32), iv 0] [(.int 0), (.ref a0)])) (fun t k => ?_) ?_
  · refine XS.aloadN X0.here hx rfl (hb hby d25_13) rfl rfl ?_
    refine XS.iload X0.here hx rfl (hb hby d25_14) rfl ?_
    exact k
  obtain ⟨cl_1, Ar_1, q_1, S_1, M_1, H_1, G_1⟩ := id V0
  have hin_1 : ¬ ((0 : Int32) < 0 ∨ cl_1.slots.size ≤ ((0 : Int32)).toNatClampNeg) := inb_of S_1 ⟨by decide, by decide⟩
  have hat_1 : cl_1.slots[((0 : Int32)).toNatClampNeg]? = some (.int ee0) := H_1.at hin_1 rfl
  refine og (B := s₁.setTop (mkF m 17 #[rv a0, iv p1, iv 0, iv 2, iv (p1.toInt8.toInt32), iv 0] [(.int ee0)])) (fun t k => X0.baloadBytes hx (j := (0 : Int32)) (v := (.int ee0)) (by rw [(e0 : _ = _)]; exact Ar_1.1) (State.isArrayOf_alike hZ.alike Ar_1.2.1) Ar_1.2.2 hin_1 hat_1 (g := (mkF m 16 #[rv a0, iv p1, iv 0, iv 2, iv (p1.toInt8.toInt32), iv 0] [(.int 0), (.ref a0)])) rfl rfl (hb hby d25_16) t k) ?_
  refine og (B := s₁.setTop (mkF m 19 #[rv a0, iv p1, iv 0, iv 2, iv (p1.toInt8.toInt32), iv 0] [(.int (p1.toInt8.toInt32)), (.int ee0)])) (fun t k => ?_) ?_
  · refine XS.iload X0.here hx rfl (hb hby d25_17) rfl ?_
    exact k
  by_cases hc19 : ee0 = (p1.toInt8.toInt32)
  · refine og (B := s₁.setTop (mkF m 22 #[rv a0, iv p1, iv 0, iv 2, iv (p1.toInt8.toInt32), iv 0] [])) (fun t k => ?_) ?_
    · refine XS.icmpNo X0.here hx rfl (hb hby d25_19) rfl (teq hc19).2 ?_
      exact k
    refine og (B := s₁.setTop (mkF m 24 #[rv a0, iv p1, iv 0, iv 2, iv (p1.toInt8.toInt32), iv 0] [(.int 0)])) (fun t k => ?_) ?_
    · refine XS.iload X0.here hx rfl (hb hby d25_22) rfl ?_
      exact k
    obtain ⟨fs, hr, hrun, hended, hW, hsame⟩ := X0.leave (v := some (.int 0)) (fun h => by rw [Bd.returns] at h; cases h)
    refine ⟨_, _, ?_, hrun, hended, _, _, rfl, ?_, ⟨_, rfl⟩, hW, hsame.mono (by decide) (by decide)⟩
    · show Steps p.tables e below (s₁.setTop (mkF m 24 #[rv a0, iv p1, iv 0, iv 2, iv (p1.toInt8.toInt32), iv 0] [(.int 0)])) _
      exact retI X0 hx Bd.returns (hb hby d25_24) hr
    · show Qioc2 Z a0 p1 kk ee0 ee1 h0 n0 _ s₁.heap _
      rw [e0]
      exact ⟨by simp only [own_ioc2, if_pos hc19], N0, rfl⟩
  · refine og (B := s₁.setTop (mkF m 25 #[rv a0, iv p1, iv 0, iv 2, iv (p1.toInt8.toInt32), iv 0] [])) (fun t k => ?_) ?_
    · refine XS.icmpYes X0.here hx rfl (pc0 := 19) (pc' := 25) rfl (hb hby d25_19) rfl (feq hc19).2 (by decide) (by decide) ?_
      exact k
    refine og (B := s₁.setTop (mkF m 10 #[rv a0, iv p1, iv 0, iv 2, iv (p1.toInt8.toInt32), iv 1] [(.int 2), (.int 1)])) (fun t k => ?_) ?_
    · refine XS.iinc X0.here hx rfl (hb hby d25_25) rfl (l' := #[rv a0, iv p1, iv 0, iv 2, iv (p1.toInt8.toInt32), iv 1]) rfl ?_
      refine XS.goto X0.here hx rfl (pc0 := 28) (pc' := 7) rfl (hb hby d25_28) (by decide) (by decide) ?_
      refine XS.iload X0.here hx rfl (hb hby d25_7) rfl ?_
      refine XS.iloadN X0.here hx rfl (hb hby d25_9) rfl ?_
      exact k
    refine og (B := s₁.setTop (mkF m 13 #[rv a0, iv p1, iv 0, iv 2, iv (p1.toInt8.toInt32), iv 1] [])) (fun t k => ?_) ?_
    · refine XS.icmpNo X0.here hx rfl (hb hby d25_10) rfl (tlt (by decide : (1 : Int32) < (2 : Int32))).2.1 ?_
      exact k
    refine og (B := s₁.setTop (mkF m 16 #[rv a0, iv p1, iv 0, iv 2, iv (p1.toInt8.toInt32), iv 1] [(.int 1), (.ref a0)])) (fun t k => ?_) ?_
    · refine XS.aloadN X0.here hx rfl (hb hby d25_13) rfl rfl ?_
      refine XS.iload X0.here hx rfl (hb hby d25_14) rfl ?_
      exact k
    obtain ⟨cl_2, Ar_2, q_2, S_2, M_2, H_2, G_2⟩ := id V0
    have hin_2 : ¬ ((1 : Int32) < 0 ∨ cl_2.slots.size ≤ ((1 : Int32)).toNatClampNeg) := inb_of S_2 ⟨by decide, by decide⟩
    have hat_2 : cl_2.slots[((1 : Int32)).toNatClampNeg]? = some (.int ee1) := H_2.at hin_2 rfl
    refine og (B := s₁.setTop (mkF m 17 #[rv a0, iv p1, iv 0, iv 2, iv (p1.toInt8.toInt32), iv 1] [(.int ee1)])) (fun t k => X0.baloadBytes hx (j := (1 : Int32)) (v := (.int ee1)) (by rw [(e0 : _ = _)]; exact Ar_2.1) (State.isArrayOf_alike hZ.alike Ar_2.2.1) Ar_2.2.2 hin_2 hat_2 (g := (mkF m 16 #[rv a0, iv p1, iv 0, iv 2, iv (p1.toInt8.toInt32), iv 1] [(.int 1), (.ref a0)])) rfl rfl (hb hby d25_16) t k) ?_
    refine og (B := s₁.setTop (mkF m 19 #[rv a0, iv p1, iv 0, iv 2, iv (p1.toInt8.toInt32), iv 1] [(.int (p1.toInt8.toInt32)), (.int ee1)])) (fun t k => ?_) ?_
    · refine XS.iload X0.here hx rfl (hb hby d25_17) rfl ?_
      exact k
    by_cases hc19_1 : ee1 = (p1.toInt8.toInt32)
    · refine og (B := s₁.setTop (mkF m 22 #[rv a0, iv p1, iv 0, iv 2, iv (p1.toInt8.toInt32), iv 1] [])) (fun t k => ?_) ?_
      · refine XS.icmpNo X0.here hx rfl (hb hby d25_19) rfl (teq hc19_1).2 ?_
        exact k
      refine og (B := s₁.setTop (mkF m 24 #[rv a0, iv p1, iv 0, iv 2, iv (p1.toInt8.toInt32), iv 1] [(.int 1)])) (fun t k => ?_) ?_
      · refine XS.iload X0.here hx rfl (hb hby d25_22) rfl ?_
        exact k
      obtain ⟨fs, hr, hrun, hended, hW, hsame⟩ := X0.leave (v := some (.int 1)) (fun h => by rw [Bd.returns] at h; cases h)
      refine ⟨_, _, ?_, hrun, hended, _, _, rfl, ?_, ⟨_, rfl⟩, hW, hsame.mono (by decide) (by decide)⟩
      · show Steps p.tables e below (s₁.setTop (mkF m 24 #[rv a0, iv p1, iv 0, iv 2, iv (p1.toInt8.toInt32), iv 1] [(.int 1)])) _
        exact retI X0 hx Bd.returns (hb hby d25_24) hr
      · show Qioc2 Z a0 p1 kk ee0 ee1 h0 n0 _ s₁.heap _
        rw [e0]
        exact ⟨by simp only [own_ioc2, if_neg hc19, if_pos hc19_1], N0, rfl⟩
    · refine og (B := s₁.setTop (mkF m 25 #[rv a0, iv p1, iv 0, iv 2, iv (p1.toInt8.toInt32), iv 1] [])) (fun t k => ?_) ?_
      · refine XS.icmpYes X0.here hx rfl (pc0 := 19) (pc' := 25) rfl (hb hby d25_19) rfl (feq hc19_1).2 (by decide) (by decide) ?_
        exact k
      refine og (B := s₁.setTop (mkF m 10 #[rv a0, iv p1, iv 0, iv 2, iv (p1.toInt8.toInt32), iv 2] [(.int 2), (.int 2)])) (fun t k => ?_) ?_
      · refine XS.iinc X0.here hx rfl (hb hby d25_25) rfl (l' := #[rv a0, iv p1, iv 0, iv 2, iv (p1.toInt8.toInt32), iv 2]) rfl ?_
        refine XS.goto X0.here hx rfl (pc0 := 28) (pc' := 7) rfl (hb hby d25_28) (by decide) (by decide) ?_
        refine XS.iload X0.here hx rfl (hb hby d25_7) rfl ?_
        refine XS.iloadN X0.here hx rfl (hb hby d25_9) rfl ?_
        exact k
      refine og (B := s₁.setTop (mkF m 31 #[rv a0, iv p1, iv 0, iv 2, iv (p1.toInt8.toInt32), iv 2] [])) (fun t k => ?_) ?_
      · refine XS.icmpYes X0.here hx rfl (pc0 := 10) (pc' := 31) rfl (hb hby d25_10) rfl (flt (by decide : ¬ ((2 : Int32) < (2 : Int32)))).2.1 (by decide) (by decide) ?_
        exact k
      refine og (B := s₁.setTop (mkF m 32 #[rv a0, iv p1, iv 0, iv 2, iv (p1.toInt8.toInt32), iv 2] [(.int (-1))])) (fun t k => ?_) ?_
      · refine XS.iconst X0.here hx rfl (hb hby d25_31) ?_
        exact k
      obtain ⟨fs, hr, hrun, hended, hW, hsame⟩ := X0.leave (v := some (.int (-1))) (fun h => by rw [Bd.returns] at h; cases h)
      refine ⟨_, _, ?_, hrun, hended, _, _, rfl, ?_, ⟨_, rfl⟩, hW, hsame.mono (by decide) (by decide)⟩
      · show Steps p.tables e below (s₁.setTop (mkF m 32 #[rv a0, iv p1, iv 0, iv 2, iv (p1.toInt8.toInt32), iv 2] [(.int (-1))])) _
        exact retI X0 hx Bd.returns (hb hby d25_32) hr
      · show Qioc2 Z a0 p1 kk ee0 ee1 h0 n0 _ s₁.heap _
        rw [e0]
        exact ⟨by simp only [own_ioc2, if_neg hc19, if_neg hc19_1], N0, rfl⟩
theorem ef_ixl2 (m : MethodId) (a0 : Addr) (p1 : Int32) : entryFrame m #[(.ref a0), (.int p1), (.int 0), (.int 2)] 4 = mkF m 0 #[rv a0, iv p1, iv 0, iv 2] [] := by first | (simp [entryFrame, mkF, argsToLocals, Value.category]; done) | rfl
def own_ixl2  (ee0 : Int32) (ee1 : Int32) (p1 : Int32) : Int32 := (if (own_enc p1) = (0 : Int32) then (-1 : Int32) else (own_ioc2 ee0 ee1 p1))
def Qixl2 (Z : State) (a0 : Addr) (p1 : Int32) (kk : ClassId) (ee0 : Int32) (ee1 : Int32) (h0 : Heap) (n0 : Nat) (v : Option Value) (h : Heap) (L : List Loc) : Prop := v = some (.int (own_ixl2 ee0 ee1 p1)) ∧ Fr n0 L ∧ h = h0
theorem rmixl2 (l : Launch) (Z : State) (av0 : Array Value) (hw : ∀ d ∈ tables_1, d.before av0 Z = true) (ws : List Jvm.Cond) (a0 : Addr) (p1 : Int32) (kk : ClassId) (ee0 : Int32) (ee1 : Int32) (h0 : Heap) (n0 : Nat) (Z0 : n0 ≤ h0.size) (V0 : Arv Z h0 a0 kk .byte (2 : Int32) [(.int ee0), (.int ee1)] (.int 0)) :
    MetFree l own_m13 (head1 (Jvm.Cond.code own_m13 jdk_43_method_22_code 4 (some .int) :: ws) ({ frames := 1, cells := 0, slots := 0, locals := 17 } : Room)) (fun a U => a = #[(.ref a0), (.int p1), (.int 0), (.int 2)] ∧ Z.Warmed39 U.vm ∧ U.heap = h0) (fun _ _ _ _ _ => True) (fun _ U o U' => ∃ v L, o = .returned v ∧ Qixl2 Z a0 p1 kk ee0 ee1 h0 n0 v U'.heap L ∧ FrameEnd U o U' L ({ frames := 1, cells := 0, slots := 0, locals := 17 } : Room).cells ({ frames := 1, cells := 0, slots := 0, locals := 17 } : Room).slots) := by
  refine MetFree.of_bodySF (plainFor_of_name pn_12) hisR ?_
  intro p e s m args below meth c s₁ Bd hml0 hP hK
  obtain ⟨rfl, hZ, hh⟩ := hP
  have hx := Bd.exec
  have hby := Bd.bytes
  have hml : c.maxLocals = 4 := hml0
  have hown : s.vm.findClass "java/lang/StringLatin1" = some m.cls := findClass_of_methodNamed Bd.named
  have X0 : Stand p l e ({ frames := 1, cells := 0, slots := 0, locals := 17 } : Room) s m #[(.ref a0), (.int p1), (.int 0), (.int 2)] below meth c s₁ [] 0 0 := Stand.of_body Bd
  have e0 : s₁.heap = h0 := by rw [← hh, Bd.state]; rfl
  have N0 := Fr.nil n0
  have K0 : Keep h0 h0 [] := Keep.refl h0 []
  refine og (B := s₁.setTop (mkF m 0 #[rv a0, iv p1, iv 0, iv 2] [])) (fun t k => castTop (ef_ixl2 m a0 p1) k) ?_
  refine og (B := s₁.setTop (mkF m 1 #[rv a0, iv p1, iv 0, iv 2] [(.int p1)])) (fun t k => ?_) ?_
  · refine XS.iloadN X0.here hx rfl (hb hby d12_0) rfl ?_
    exact k
  obtain ⟨_, _, ⟨T_1, L_1, k_1, n_1⟩, -, X_1, ⟨Lc_1, hQ_1, l_1, y_1, z_1⟩, st_1⟩ := Jvm.LawKit.callS X0 hx (y := own_m14) hown (mvT hZ (ow hw 74 rfl)) (mvT hZ (ow hw 75 rfl)) (mvT hZ (ow hw 72 rfl)) (mvT hZ (ow hw 76 rfl)) (by decide) (backOf (W := 0) (rm13 l Z av0 hw [] p1  h0 n0 Z0 ) hZ (ow hw 76 rfl) (ow hw 72 rfl) (by decide) (by decide)) (g := (mkF m 1 #[rv a0, iv p1, iv 0, iv 2] [(.int p1)])) rfl (by rw [hml]; rfl) (argsL := [(.int p1)]) (rest := []) (lenOf pd_1 rfl) rfl (by show 2 * 0 + _ ≤ _; exact Nat.le_of_eq rfl) (hb hby d12_1) (fun _ _ => ⟨rfl, e0, (by decide : 0 + 0 ≤ _), (by decide : 0 + 0 ≤ _)⟩)
  dsimp only [Pt.U, Pt.locs, Pt.cells, Pt.slots] at X_1 l_1 y_1 z_1 st_1 hQ_1
  subst l_1 y_1 z_1
  obtain ⟨rfl, N_1q, e_1⟩ := hQ_1
  have N_1 := Fr.app N0 N_1q
  refine og (fun t k => st_1 t k) ?_
  by_cases hc4 : (own_enc p1) = (0 : Int32)
  · refine og (B := T_1.setTop (mkF m 7 #[rv a0, iv p1, iv 0, iv 2] [])) (fun t k => ?_) ?_
    · refine XS.ifNo X_1.here hx rfl (hb hby d12_4) rfl ((if0 _ _).trans (teq hc4).2) ?_
      exact k
    refine og (B := T_1.setTop (mkF m 8 #[rv a0, iv p1, iv 0, iv 2] [(.int (-1))])) (fun t k => ?_) ?_
    · refine XS.iconst X_1.here hx rfl (hb hby d12_7) ?_
      exact k
    obtain ⟨fs, hr, hrun, hended, hW, hsame⟩ := X_1.leave (v := some (.int (-1))) (fun h => by rw [Bd.returns] at h; cases h)
    refine ⟨_, _, ?_, hrun, hended, _, _, rfl, ?_, ⟨_, rfl⟩, hW, hsame.mono (by decide) (by decide)⟩
    · show Steps p.tables e below (T_1.setTop (mkF m 8 #[rv a0, iv p1, iv 0, iv 2] [(.int (-1))])) _
      exact retI X_1 hx Bd.returns (hb hby d12_8) hr
    · show Qixl2 Z a0 p1 kk ee0 ee1 h0 n0 _ T_1.heap _
      rw [e_1]
      exact ⟨by simp only [own_ixl2, if_pos hc4], N_1, rfl⟩
  · refine og (B := T_1.setTop (mkF m 9 #[rv a0, iv p1, iv 0, iv 2] [])) (fun t k => ?_) ?_
    · refine XS.ifYes X_1.here hx rfl (pc0 := 4) (pc' := 9) rfl (hb hby d12_4) rfl ((if0 _ _).trans (feq hc4).2) (by decide) (by decide) ?_
      exact k
    refine og (B := T_1.setTop (mkF m 11 #[rv a0, iv p1, iv 0, iv 2] [(.int 0), (.int 0)])) (fun t k => ?_) ?_
    · refine XS.iloadN X_1.here hx rfl (hb hby d12_9) rfl ?_
      refine XS.iconst X_1.here hx rfl (hb hby d12_10) ?_
      exact k
    obtain ⟨_, _, ⟨T_2, L_2, k_2, n_2⟩, -, X_2, ⟨Lc_2, hQ_2, l_2, y_2, z_2⟩, st_2⟩ := Jvm.LawKit.callS X_1 hx (y := own_m15) hown (mvT hZ (ow hw 77 rfl)) (mvT hZ (ow hw 78 rfl)) (mvT hZ (ow hw 79 rfl)) (mvT hZ (ow hw 80 rfl)) (by decide) (backOf (W := 0) (rm14 l Z av0 hw [] (0 : Int32) (0 : Int32)  h0 n0 Z0 ) hZ (ow hw 80 rfl) (ow hw 79 rfl) (by decide) (by decide)) (g := (mkF m 11 #[rv a0, iv p1, iv 0, iv 2] [(.int 0), (.int 0)])) rfl (by rw [hml]; rfl) (argsL := [(.int 0), (.int 0)]) (rest := []) (lenOf pd_2 rfl) rfl (by show 2 * 0 + _ ≤ _; exact Nat.le_of_eq rfl) (hb hby d12_11) (fun _ _ => ⟨rfl, e_1, (by decide : 0 + 0 ≤ _), (by decide : 0 + 0 ≤ _)⟩)
    dsimp only [Pt.U, Pt.locs, Pt.cells, Pt.slots] at X_2 l_2 y_2 z_2 st_2 hQ_2
    subst l_2 y_2 z_2
    obtain ⟨hv_2, N_2q, e_2⟩ := hQ_2
    have N_2 := Fr.app N_1 N_2q
    rw [show own_maxi (0 : Int32) (0 : Int32) = (0 : Int32) from by decide] at hv_2
    subst hv_2
    refine og (fun t k => st_2 t k) ?_
    refine og (B := T_2.setTop (mkF m 17 #[rv a0, iv p1, iv 0, iv 2] [(.ref a0), (.int 2)])) (fun t k => ?_) ?_
    · refine XS.istoreN X_2.here hx rfl (hb hby d12_14) rfl (l' := #[rv a0, iv p1, iv 0, iv 2]) rfl ?_
      refine XS.iloadN X_2.here hx rfl (hb hby d12_15) rfl ?_
      refine XS.aloadN X_2.here hx rfl (hb hby d12_16) rfl rfl ?_
      exact k
    obtain ⟨cl_3, Ar_3, -, S_3, M_3, -, -⟩ := id V0
    refine og (B := T_2.setTop (mkF m 18 #[rv a0, iv p1, iv 0, iv 2] [(.int 2), (.int 2)])) (fun t k => X_2.arraylength hx (by rw [(e_2 : _ = _)]; exact Ar_3.1) (State.isArrayOf_alike hZ.alike Ar_3.2.1) (g := (mkF m 17 #[rv a0, iv p1, iv 0, iv 2] [(.ref a0), (.int 2)])) rfl rfl (hb hby d12_17) t (by rw [len_of S_3 M_3]; exact k)) ?_
    obtain ⟨_, _, ⟨T_4, L_4, k_4, n_4⟩, -, X_4, ⟨Lc_4, hQ_4, l_4, y_4, z_4⟩, st_4⟩ := Jvm.LawKit.callS X_2 hx (y := own_m16) hown (mvT hZ (ow hw 81 rfl)) (mvT hZ (ow hw 82 rfl)) (mvT hZ (ow hw 79 rfl)) (mvT hZ (ow hw 83 rfl)) (by decide) (backOf (W := 0) (rm15 l Z av0 hw [] (2 : Int32) (2 : Int32)  h0 n0 Z0 ) hZ (ow hw 83 rfl) (ow hw 79 rfl) (by decide) (by decide)) (g := (mkF m 18 #[rv a0, iv p1, iv 0, iv 2] [(.int 2), (.int 2)])) rfl (by rw [hml]; rfl) (argsL := [(.int 2), (.int 2)]) (rest := []) (lenOf pd_2 rfl) rfl (by show 2 * 0 + _ ≤ _; exact Nat.le_of_eq rfl) (hb hby d12_18) (fun _ _ => ⟨rfl, e_2, (by decide : 0 + 0 ≤ _), (by decide : 0 + 0 ≤ _)⟩)
    dsimp only [Pt.U, Pt.locs, Pt.cells, Pt.slots] at X_4 l_4 y_4 z_4 st_4 hQ_4
    subst l_4 y_4 z_4
    obtain ⟨hv_4, N_4q, e_4⟩ := hQ_4
    have N_4 := Fr.app N_2 N_4q
    rw [show own_mini (2 : Int32) (2 : Int32) = (2 : Int32) from by decide] at hv_4
    subst hv_4
    refine og (fun t k => st_4 t k) ?_
    refine og (B := T_4.setTop (mkF m 24 #[rv a0, iv p1, iv 0, iv 2] [(.int 2), (.int 0)])) (fun t k => ?_) ?_
    · refine XS.istoreN X_4.here hx rfl (hb hby d12_21) rfl (l' := #[rv a0, iv p1, iv 0, iv 2]) rfl ?_
      refine XS.iloadN X_4.here hx rfl (hb hby d12_22) rfl ?_
      refine XS.iloadN X_4.here hx rfl (hb hby d12_23) rfl ?_
      exact k
    refine og (B := T_4.setTop (mkF m 29 #[rv a0, iv p1, iv 0, iv 2] [])) (fun t k => ?_) ?_
    · refine XS.icmpYes X_4.here hx rfl (pc0 := 24) (pc' := 29) rfl (hb hby d12_24) rfl (tlt (by decide : (0 : Int32) < (2 : Int32))).1 (by decide) (by decide) ?_
      exact k
    refine og (B := T_4.setTop (mkF m 33 #[rv a0, iv p1, iv 0, iv 2] [(.int 2), (.int 0), (.int p1), (.ref a0)])) (fun t k => ?_) ?_
    · refine XS.aloadN X_4.here hx rfl (hb hby d12_29) rfl rfl ?_
      refine XS.iloadN X_4.here hx rfl (hb hby d12_30) rfl ?_
      refine XS.iloadN X_4.here hx rfl (hb hby d12_31) rfl ?_
      refine XS.iloadN X_4.here hx rfl (hb hby d12_32) rfl ?_
      exact k
    obtain ⟨_, _, ⟨T_5, L_5, k_5, n_5⟩, -, X_5, ⟨Lc_5, hQ_5, l_5, y_5, z_5⟩, st_5⟩ := Jvm.LawKit.callS X_4 hx (y := own_m26) hown (mvT hZ (ow hw 129 rfl)) (mvT hZ (ow hw 130 rfl)) (mvT hZ (ow hw 72 rfl)) (mvT hZ (ow hw 131 rfl)) (by decide) (backOf (W := 0) (rmioc2 l Z av0 hw [] a0 p1 kk ee0 ee1 h0 n0 Z0 V0) hZ (ow hw 131 rfl) (ow hw 72 rfl) (by decide) (by decide)) (g := (mkF m 33 #[rv a0, iv p1, iv 0, iv 2] [(.int 2), (.int 0), (.int p1), (.ref a0)])) rfl (by rw [hml]; rfl) (argsL := [(.ref a0), (.int p1), (.int 0), (.int 2)]) (rest := []) (lenOf pd_5 rfl) rfl (by show 2 * 0 + _ ≤ _; exact Nat.le_of_eq rfl) (hb hby d12_33) (fun _ _ => ⟨rfl, e_4, (by decide : 0 + 0 ≤ _), (by decide : 0 + 0 ≤ _)⟩)
    dsimp only [Pt.U, Pt.locs, Pt.cells, Pt.slots] at X_5 l_5 y_5 z_5 st_5 hQ_5
    subst l_5 y_5 z_5
    obtain ⟨rfl, N_5q, e_5⟩ := hQ_5
    have N_5 := Fr.app N_4 N_5q
    refine og (fun t k => st_5 t k) ?_
    obtain ⟨fs, hr, hrun, hended, hW, hsame⟩ := X_5.leave (v := some (.int (own_ioc2 ee0 ee1 p1))) (fun h => by rw [Bd.returns] at h; cases h)
    refine ⟨_, _, ?_, hrun, hended, _, _, rfl, ?_, ⟨_, rfl⟩, hW, hsame.mono (by decide) (by decide)⟩
    · show Steps p.tables e below (T_5.setTop (mkF m 36 #[rv a0, iv p1, iv 0, iv 2] [(.int (own_ioc2 ee0 ee1 p1))])) _
      exact retI X_5 hx Bd.returns (hb hby d12_36) hr
    · show Qixl2 Z a0 p1 kk ee0 ee1 h0 n0 _ T_5.heap _
      rw [e_5]
      exact ⟨by simp only [own_ixl2, if_neg hc4], N_5, rfl⟩
theorem ef_sxb2 (m : MethodId) (a0 : Addr) (p1 : Int32) : entryFrame m #[(.ref a0), (.int p1), (.int 0)] 3 = mkF m 0 #[rv a0, iv p1, iv 0] [] := by first | (simp [entryFrame, mkF, argsToLocals, Value.category]; done) | rfl
def Qsxb2 (Z : State) (a0 : Addr) (p1 : Int32) (b0 : Addr) (kk : ClassId) (w : Int32) (ee0 : Int32) (ee1 : Int32) (h0 : Heap) (n0 : Nat) (v : Option Value) (h : Heap) (L : List Loc) : Prop := v = some (.int (own_ixl2 ee0 ee1 p1)) ∧ Fr n0 L ∧ h = h0
theorem rmsxb2 (l : Launch) (Z : State) (av0 : Array Value) (hw : ∀ d ∈ tables_1, d.before av0 Z = true) (ws : List Jvm.Cond) (a0 : Addr) (p1 : Int32) (b0 : Addr) (kk : ClassId) (w : Int32) (ee0 : Int32) (ee1 : Int32) (h0 : Heap) (n0 : Nat) (Z0 : n0 ≤ h0.size) (E_a0 : Exa Z h0 a0 "java/lang/String") (F_coder_a0 : Fld Z h0 a0 "java/lang/String" "coder" "B" (.int 0)) (F_value_a0 : Fld Z h0 a0 "java/lang/String" "value" "[B" (.ref b0)) (S_COMPACT_STRINGS : Sta Z h0 "java/lang/String" "COMPACT_STRINGS" "Z" (.int w)) (hw0 : ¬ (w = (0 : Int32))) (V0 : Arv Z h0 b0 kk .byte (2 : Int32) [(.int ee0), (.int ee1)] (.int 0)) :
    MetFree l own_m9 (head1 (Jvm.Cond.code own_m9 jdk_42_method_80_code 3 (some .int) :: ws) ({ frames := 2, cells := 0, slots := 0, locals := 32 } : Room)) (fun a U => a = #[(.ref a0), (.int p1), (.int 0)] ∧ Z.Warmed39 U.vm ∧ U.heap = h0) (fun _ _ _ _ _ => True) (fun _ U o U' => ∃ v L, o = .returned v ∧ Qsxb2 Z a0 p1 b0 kk w ee0 ee1 h0 n0 v U'.heap L ∧ FrameEnd U o U' L ({ frames := 2, cells := 0, slots := 0, locals := 32 } : Room).cells ({ frames := 2, cells := 0, slots := 0, locals := 32 } : Room).slots) := by
  refine MetFree.of_bodySF (plainFor_of_name pn_8) hisR ?_
  intro p e s m args below meth c s₁ Bd hml0 hP hK
  obtain ⟨rfl, hZ, hh⟩ := hP
  have hx := Bd.exec
  have hby := Bd.bytes
  have hml : c.maxLocals = 3 := hml0
  have hown : s.vm.findClass "java/lang/String" = some m.cls := findClass_of_methodNamed Bd.named
  have X0 : Stand p l e ({ frames := 2, cells := 0, slots := 0, locals := 32 } : Room) s m #[(.ref a0), (.int p1), (.int 0)] below meth c s₁ [] 0 0 := Stand.of_body Bd
  have e0 : s₁.heap = h0 := by rw [← hh, Bd.state]; rfl
  have N0 := Fr.nil n0
  have K0 : Keep h0 h0 [] := Keep.refl h0 []
  refine og (B := s₁.setTop (mkF m 0 #[rv a0, iv p1, iv 0] [])) (fun t k => castTop (ef_sxb2 m a0 p1) k) ?_
  refine og (B := s₁.setTop (mkF m 1 #[rv a0, iv p1, iv 0] [(.ref a0)])) (fun t k => ?_) ?_
  · refine XS.aloadN X0.here hx rfl (hb hby d8_0) rfl rfl ?_
    exact k
  obtain ⟨cq_1, kq_1, q_1a, q_1b, q_1c⟩ := isOf hZ e0 E_a0
  obtain ⟨_, _, ⟨T_1, L_1, k_1, n_1⟩, -, X_1, ⟨Lc_1, hQ_1, l_1, y_1, z_1⟩, st_1⟩ := X0.virtualBack hx (y := own_m10) (z := own_m10) hown (mvT hZ (ow hw 54 rfl)) (mvT hZ (ow hw 55 rfl)) (notFace_of_selects (args := #[]) (mvT hZ (ow hw 57 rfl))) (mvT hZ (ow hw 57 rfl)) (mvT hZ (ow hw 56 rfl)) (by decide) (backOf (W := 0) (rm9 l Z av0 hw [] a0 w h0 n0 Z0 F_coder_a0 S_COMPACT_STRINGS hw0) hZ (ow hw 58 rfl) (ow hw 7 rfl) (by decide) (by decide)) q_1a q_1c (g := (mkF m 1 #[rv a0, iv p1, iv 0] [(.ref a0)])) rfl (by rw [hml]; rfl) (Steps.refl _) (argsL := []) (rest := []) (lenOf pd_3 rfl) rfl (by show 2 * 0 + _ ≤ _; exact Nat.le_of_eq rfl) (hb hby d8_1) (fun _ _ => ⟨rfl, e0, (by decide : 0 + 0 ≤ _), (by decide : 0 + 0 ≤ _)⟩)
  dsimp only [Pt.U, Pt.locs, Pt.cells, Pt.slots] at X_1 l_1 y_1 z_1 st_1 hQ_1
  subst l_1 y_1 z_1
  obtain ⟨rfl, N_1q, e_1⟩ := hQ_1
  have N_1 := Fr.app N0 N_1q
  refine og (fun t k => st_1.trans k) ?_
  refine og (B := T_1.setTop (mkF m 7 #[rv a0, iv p1, iv 0] [])) (fun t k => ?_) ?_
  · refine XS.ifNo X_1.here hx rfl (hb hby d8_4) rfl ((if0 _ _).trans (feq (by decide : ¬ ((1 : Int32) = (0 : Int32)))).1) ?_
    exact k
  refine og (B := T_1.setTop (mkF m 8 #[rv a0, iv p1, iv 0] [(.ref a0)])) (fun t k => ?_) ?_
  · refine XS.aloadN X_1.here hx rfl (hb hby d8_7) rfl rfl ?_
    exact k
  obtain ⟨T_2, X_2, e_2, st_2⟩ := getF X_1 hx hZ hown (host := "") (Or.inl (ow hw 25 rfl)) Via.refl e_1 F_value_a0 (g := (mkF m 8 #[rv a0, iv p1, iv 0] [(.ref a0)])) rfl rfl (hb hby d8_8)
  refine og (fun t k => st_2 t k) ?_
  refine og (B := T_2.setTop (mkF m 14 #[rv a0, iv p1, iv 0] [(.ref a0), (.int 0), (.int p1), (.ref b0)])) (fun t k => ?_) ?_
  · refine XS.iloadN X_2.here hx rfl (hb hby d8_11) rfl ?_
    refine XS.iloadN X_2.here hx rfl (hb hby d8_12) rfl ?_
    refine XS.aloadN X_2.here hx rfl (hb hby d8_13) rfl rfl ?_
    exact k
  obtain ⟨cq_3, kq_3, q_3a, q_3b, q_3c⟩ := isOf hZ e_2 E_a0
  obtain ⟨_, _, ⟨T_3, L_3, k_3, n_3⟩, -, X_3, ⟨Lc_3, hQ_3, l_3, y_3, z_3⟩, st_3⟩ := X_2.virtualBack hx (y := own_m11) (z := own_m11) hown (mvT hZ (ow hw 60 rfl)) (mvT hZ (ow hw 61 rfl)) (notFace_of_selects (args := #[]) (mvT hZ (ow hw 63 rfl))) (mvT hZ (ow hw 63 rfl)) (mvT hZ (ow hw 62 rfl)) (by decide) (backOf (W := 3) (rm10 l Z av0 hw [] a0 b0 kk w (2 : Int32) [(.int ee0), (.int ee1)] h0 n0 Z0 E_a0 F_coder_a0 F_value_a0 S_COMPACT_STRINGS hw0 V0) hZ (ow hw 64 rfl) (ow hw 7 rfl) (by decide) (by decide)) q_3a q_3c (g := (mkF m 14 #[rv a0, iv p1, iv 0] [(.ref a0), (.int 0), (.int p1), (.ref b0)])) rfl (by rw [hml]; rfl) (Steps.refl _) (argsL := []) (rest := [(.int 0), (.int p1), (.ref b0)]) (lenOf pd_4 rfl) rfl (by show 2 * 0 + _ ≤ _; exact Nat.le_of_eq rfl) (hb hby d8_14) (fun _ _ => ⟨rfl, e_2, (by decide : 0 + 0 ≤ _), (by decide : 0 + 0 ≤ _)⟩)
  dsimp only [Pt.U, Pt.locs, Pt.cells, Pt.slots] at X_3 l_3 y_3 z_3 st_3 hQ_3
  subst l_3 y_3 z_3
  obtain ⟨rfl, N_3q, e_3⟩ := hQ_3
  have N_3 := Fr.app N_1 N_3q
  refine og (fun t k => st_3.trans k) ?_
  obtain ⟨_, _, ⟨T_4, L_4, k_4, n_4⟩, -, X_4, ⟨Lc_4, hQ_4, l_4, y_4, z_4⟩, st_4⟩ := Jvm.LawKit.callS X_3 hx (y := own_m13) hown (mvT hZ (ow hw 70 rfl)) (mvT hZ (ow hw 71 rfl)) (mvT hZ (ow hw 72 rfl)) (mvT hZ (ow hw 73 rfl)) (by decide) (backOf (W := 0) (rmixl2 l Z av0 hw [] b0 p1 kk ee0 ee1 h0 n0 Z0 V0) hZ (ow hw 73 rfl) (ow hw 72 rfl) (by decide) (by decide)) (g := (mkF m 17 #[rv a0, iv p1, iv 0] [(.int 2), (.int 0), (.int p1), (.ref b0)])) rfl (by rw [hml]; rfl) (argsL := [(.ref b0), (.int p1), (.int 0), (.int 2)]) (rest := []) (lenOf pd_5 rfl) rfl (by show 2 * 0 + _ ≤ _; exact Nat.le_of_eq rfl) (hb hby d8_17) (fun _ _ => ⟨rfl, e_3, (by decide : 0 + 0 ≤ _), (by decide : 0 + 0 ≤ _)⟩)
  dsimp only [Pt.U, Pt.locs, Pt.cells, Pt.slots] at X_4 l_4 y_4 z_4 st_4 hQ_4
  subst l_4 y_4 z_4
  obtain ⟨rfl, N_4q, e_4⟩ := hQ_4
  have N_4 := Fr.app N_3 N_4q
  refine og (fun t k => st_4 t k) ?_
  refine og (B := T_4.setTop (mkF m 36 #[rv a0, iv p1, iv 0] [(.int (own_ixl2 ee0 ee1 p1))])) (fun t k => ?_) ?_
  · refine XS.goto X_4.here hx rfl (pc0 := 20) (pc' := 36) rfl (hb hby d8_20) (by decide) (by decide) ?_
    exact k
  obtain ⟨fs, hr, hrun, hended, hW, hsame⟩ := X_4.leave (v := some (.int (own_ixl2 ee0 ee1 p1))) (fun h => by rw [Bd.returns] at h; cases h)
  refine ⟨_, _, ?_, hrun, hended, _, _, rfl, ?_, ⟨_, rfl⟩, hW, hsame.mono (by decide) (by decide)⟩
  · show Steps p.tables e below (T_4.setTop (mkF m 36 #[rv a0, iv p1, iv 0] [(.int (own_ixl2 ee0 ee1 p1))])) _
    exact retI X_4 hx Bd.returns (hb hby d8_36) hr
  · show Qsxb2 Z a0 p1 b0 kk w ee0 ee1 h0 n0 _ T_4.heap _
    rw [e_4]
    exact ⟨rfl, N_4, rfl⟩
theorem ef_sxa2 (m : MethodId) (a0 : Addr) (p1 : Int32) : entryFrame m #[(.ref a0), (.int p1)] 2 = mkF m 0 #[rv a0, iv p1] [] := by first | (simp [entryFrame, mkF, argsToLocals, Value.category]; done) | rfl
def Qsxa2 (Z : State) (a0 : Addr) (p1 : Int32) (b0 : Addr) (kk : ClassId) (w : Int32) (ee0 : Int32) (ee1 : Int32) (h0 : Heap) (n0 : Nat) (v : Option Value) (h : Heap) (L : List Loc) : Prop := v = some (.int (own_ixl2 ee0 ee1 p1)) ∧ Fr n0 L ∧ h = h0
theorem rmsxa2 (l : Launch) (Z : State) (av0 : Array Value) (hw : ∀ d ∈ tables_1, d.before av0 Z = true) (ws : List Jvm.Cond) (a0 : Addr) (p1 : Int32) (b0 : Addr) (kk : ClassId) (w : Int32) (ee0 : Int32) (ee1 : Int32) (h0 : Heap) (n0 : Nat) (Z0 : n0 ≤ h0.size) (E_a0 : Exa Z h0 a0 "java/lang/String") (F_coder_a0 : Fld Z h0 a0 "java/lang/String" "coder" "B" (.int 0)) (F_value_a0 : Fld Z h0 a0 "java/lang/String" "value" "[B" (.ref b0)) (S_COMPACT_STRINGS : Sta Z h0 "java/lang/String" "COMPACT_STRINGS" "Z" (.int w)) (hw0 : ¬ (w = (0 : Int32))) (V0 : Arv Z h0 b0 kk .byte (2 : Int32) [(.int ee0), (.int ee1)] (.int 0)) :
    MetFree l own_m8 (head1 (Jvm.Cond.code own_m8 jdk_42_method_79_code 2 (some .int) :: ws) ({ frames := 6, cells := 0, slots := 0, locals := 150 } : Room)) (fun a U => a = #[(.ref a0), (.int p1)] ∧ Z.Warmed39 U.vm ∧ U.heap = h0) (fun _ _ _ _ _ => True) (fun _ U o U' => ∃ v L, o = .returned v ∧ Qsxa2 Z a0 p1 b0 kk w ee0 ee1 h0 n0 v U'.heap L ∧ FrameEnd U o U' L ({ frames := 6, cells := 0, slots := 0, locals := 150 } : Room).cells ({ frames := 6, cells := 0, slots := 0, locals := 150 } : Room).slots) := by
  refine MetFree.of_bodySF (plainFor_of_name pn_7) hisR ?_
  intro p e s m args below meth c s₁ Bd hml0 hP hK
  obtain ⟨rfl, hZ, hh⟩ := hP
  have hx := Bd.exec
  have hby := Bd.bytes
  have hml : c.maxLocals = 2 := hml0
  have hown : s.vm.findClass "java/lang/String" = some m.cls := findClass_of_methodNamed Bd.named
  have X0 : Stand p l e ({ frames := 6, cells := 0, slots := 0, locals := 150 } : Room) s m #[(.ref a0), (.int p1)] below meth c s₁ [] 0 0 := Stand.of_body Bd
  have e0 : s₁.heap = h0 := by rw [← hh, Bd.state]; rfl
  have N0 := Fr.nil n0
  have K0 : Keep h0 h0 [] := Keep.refl h0 []
  refine og (B := s₁.setTop (mkF m 0 #[rv a0, iv p1] [])) (fun t k => castTop (ef_sxa2 m a0 p1) k) ?_
  refine og (B := s₁.setTop (mkF m 3 #[rv a0, iv p1] [(.int 0), (.int p1), (.ref a0)])) (fun t k => ?_) ?_
  · refine XS.aloadN X0.here hx rfl (hb hby d7_0) rfl rfl ?_
    refine XS.iloadN X0.here hx rfl (hb hby d7_1) rfl ?_
    refine XS.iconst X0.here hx rfl (hb hby d7_2) ?_
    exact k
  obtain ⟨cq_1, kq_1, q_1a, q_1b, q_1c⟩ := isOf hZ e0 E_a0
  obtain ⟨_, _, ⟨T_1, L_1, k_1, n_1⟩, -, X_1, ⟨Lc_1, hQ_1, l_1, y_1, z_1⟩, st_1⟩ := X0.virtualBack hx (y := own_m9) (z := own_m9) hown (mvT hZ (ow hw 49 rfl)) (mvT hZ (ow hw 50 rfl)) (notFace_of_selects (args := #[]) (mvT hZ (ow hw 52 rfl))) (mvT hZ (ow hw 52 rfl)) (mvT hZ (ow hw 51 rfl)) (by decide) (backOf (W := 0) (rmsxb2 l Z av0 hw [] a0 p1 b0 kk w ee0 ee1 h0 n0 Z0 E_a0 F_coder_a0 F_value_a0 S_COMPACT_STRINGS hw0 V0) hZ (ow hw 53 rfl) (ow hw 7 rfl) (by decide) (by decide)) q_1a q_1c (g := (mkF m 3 #[rv a0, iv p1] [(.int 0), (.int p1), (.ref a0)])) rfl (by rw [hml]; rfl) (Steps.refl _) (argsL := [(.int p1), (.int 0)]) (rest := []) (lenOf pd_2 rfl) rfl (by show 2 * 0 + _ ≤ _; exact Nat.le_of_eq rfl) (hb hby d7_3) (fun _ _ => ⟨rfl, e0, (by decide : 0 + 0 ≤ _), (by decide : 0 + 0 ≤ _)⟩)
  dsimp only [Pt.U, Pt.locs, Pt.cells, Pt.slots] at X_1 l_1 y_1 z_1 st_1 hQ_1
  subst l_1 y_1 z_1
  obtain ⟨rfl, N_1q, e_1⟩ := hQ_1
  have N_1 := Fr.app N0 N_1q
  refine og (fun t k => st_1.trans k) ?_
  obtain ⟨fs, hr, hrun, hended, hW, hsame⟩ := X_1.leave (v := some (.int (own_ixl2 ee0 ee1 p1))) (fun h => by rw [Bd.returns] at h; cases h)
  refine ⟨_, _, ?_, hrun, hended, _, _, rfl, ?_, ⟨_, rfl⟩, hW, hsame.mono (by decide) (by decide)⟩
  · show Steps p.tables e below (T_1.setTop (mkF m 6 #[rv a0, iv p1] [(.int (own_ixl2 ee0 ee1 p1))])) _
    exact retI X_1 hx Bd.returns (hb hby d7_6) hr
  · show Qsxa2 Z a0 p1 b0 kk w ee0 ee1 h0 n0 _ T_1.heap _
    rw [e_1]
    exact ⟨rfl, N_1, rfl⟩
theorem ef_ioc3 (m : MethodId) (a0 : Addr) (p1 : Int32) : entryFrame m #[(.ref a0), (.int p1), (.int 0), (.int 3)] 6 = mkF m 0 #[rv a0, iv p1, iv 0, iv 3, oU, oU] [] := by first | (simp [entryFrame, mkF, argsToLocals, Value.category]; done) | rfl
def own_ioc3  (ee0 : Int32) (ee1 : Int32) (ee2 : Int32) (p1 : Int32) : Int32 := (if ee0 = (p1.toInt8.toInt32) then (0 : Int32) else (if ee1 = (p1.toInt8.toInt32) then (1 : Int32) else (if ee2 = (p1.toInt8.toInt32) then (2 : Int32) else (-1 : Int32))))
def Qioc3 (Z : State) (a0 : Addr) (p1 : Int32) (kk : ClassId) (ee0 : Int32) (ee1 : Int32) (ee2 : Int32) (h0 : Heap) (n0 : Nat) (v : Option Value) (h : Heap) (L : List Loc) : Prop := v = some (.int (own_ioc3 ee0 ee1 ee2 p1)) ∧ Fr n0 L ∧ h = h0
theorem rmioc3 (l : Launch) (Z : State) (av0 : Array Value) (hw : ∀ d ∈ tables_1, d.before av0 Z = true) (ws : List Jvm.Cond) (a0 : Addr) (p1 : Int32) (kk : ClassId) (ee0 : Int32) (ee1 : Int32) (ee2 : Int32) (h0 : Heap) (n0 : Nat) (Z0 : n0 ≤ h0.size) (V0 : Arv Z h0 a0 kk .byte (3 : Int32) [(.int ee0), (.int ee1), (.int ee2)] (.int 0)) :
    MetFree l own_m26 (head1 (Jvm.Cond.code own_m26 jdk_43_method_23_code 6 (some .int) :: ws) ({ frames := 0, cells := 0, slots := 0, locals := 0 } : Room)) (fun a U => a = #[(.ref a0), (.int p1), (.int 0), (.int 3)] ∧ Z.Warmed39 U.vm ∧ U.heap = h0) (fun _ _ _ _ _ => True) (fun _ U o U' => ∃ v L, o = .returned v ∧ Qioc3 Z a0 p1 kk ee0 ee1 ee2 h0 n0 v U'.heap L ∧ FrameEnd U o U' L ({ frames := 0, cells := 0, slots := 0, locals := 0 } : Room).cells ({ frames := 0, cells := 0, slots := 0, locals := 0 } : Room).slots) := by
  refine MetFree.of_bodySF (plainFor_of_name pn_25) hisR ?_
  intro p e s m args below meth c s₁ Bd hml0 hP hK
  obtain ⟨rfl, hZ, hh⟩ := hP
  have hx := Bd.exec
  have hby := Bd.bytes
  have hml : c.maxLocals = 6 := hml0
  have hown : s.vm.findClass "java/lang/StringLatin1" = some m.cls := findClass_of_methodNamed Bd.named
  have X0 : Stand p l e ({ frames := 0, cells := 0, slots := 0, locals := 0 } : Room) s m #[(.ref a0), (.int p1), (.int 0), (.int 3)] below meth c s₁ [] 0 0 := Stand.of_body Bd
  have e0 : s₁.heap = h0 := by rw [← hh, Bd.state]; rfl
  have N0 := Fr.nil n0
  have K0 : Keep h0 h0 [] := Keep.refl h0 []
  refine og (B := s₁.setTop (mkF m 0 #[rv a0, iv p1, iv 0, iv 3, oU, oU] [])) (fun t k => castTop (ef_ioc3 m a0 p1) k) ?_
  refine og (B := s₁.setTop (mkF m 10 #[rv a0, iv p1, iv 0, iv 3, iv (p1.toInt8.toInt32), iv 0] [(.int 3), (.int 0)])) (fun t k => ?_) ?_
  · refine XS.iloadN X0.here hx rfl (hb hby d25_0) rfl ?_
    refine XS.i2b X0.here hx rfl (hb hby d25_1) rfl ?_
    refine XS.istore X0.here hx rfl (hb hby d25_2) rfl (l' := #[rv a0, iv p1, iv 0, iv 3, iv (p1.toInt8.toInt32), oU]) rfl ?_
    refine XS.iloadN X0.here hx rfl (hb hby d25_4) rfl ?_
    refine XS.istore X0.here hx rfl (hb hby d25_5) rfl (l' := #[rv a0, iv p1, iv 0, iv 3, iv (p1.toInt8.toInt32), iv 0]) rfl ?_
    refine XS.iload X0.here hx rfl (hb hby d25_7) rfl ?_
    refine XS.iloadN X0.here hx rfl (hb hby d25_9) rfl ?_
    exact k
  refine og (B := s₁.setTop (mkF m 13 #[rv a0, iv p1, iv 0, iv 3, iv (p1.toInt8.toInt32), iv 0] [])) (fun t k => ?_) ?_
  · refine XS.icmpNo X0.here hx rfl (hb hby d25_10) rfl (tlt (by decide : (0 : Int32) < (3 : Int32))).2.1 ?_
    exact k
  refine og (B := s₁.setTop (mkF m 16 #[rv a0, iv p1, iv 0, iv 3, iv (p1.toInt8.toInt32), iv 0] [(.int 0), (.ref a0)])) (fun t k => ?_) ?_
  · refine XS.aloadN X0.here hx rfl (hb hby d25_13) rfl rfl ?_
    refine XS.iload X0.here hx rfl (hb hby d25_14) rfl ?_
    exact k
  obtain ⟨cl_1, Ar_1, q_1, S_1, M_1, H_1, G_1⟩ := id V0
  have hin_1 : ¬ ((0 : Int32) < 0 ∨ cl_1.slots.size ≤ ((0 : Int32)).toNatClampNeg) := inb_of S_1 ⟨by decide, by decide⟩
  have hat_1 : cl_1.slots[((0 : Int32)).toNatClampNeg]? = some (.int ee0) := H_1.at hin_1 rfl
  refine og (B := s₁.setTop (mkF m 17 #[rv a0, iv p1, iv 0, iv 3, iv (p1.toInt8.toInt32), iv 0] [(.int ee0)])) (fun t k => X0.baloadBytes hx (j := (0 : Int32)) (v := (.int ee0)) (by rw [(e0 : _ = _)]; exact Ar_1.1) (State.isArrayOf_alike hZ.alike Ar_1.2.1) Ar_1.2.2 hin_1 hat_1 (g := (mkF m 16 #[rv a0, iv p1, iv 0, iv 3, iv (p1.toInt8.toInt32), iv 0] [(.int 0), (.ref a0)])) rfl rfl (hb hby d25_16) t k) ?_
  refine og (B := s₁.setTop (mkF m 19 #[rv a0, iv p1, iv 0, iv 3, iv (p1.toInt8.toInt32), iv 0] [(.int (p1.toInt8.toInt32)), (.int ee0)])) (fun t k => ?_) ?_
  · refine XS.iload X0.here hx rfl (hb hby d25_17) rfl ?_
    exact k
  by_cases hc19 : ee0 = (p1.toInt8.toInt32)
  · refine og (B := s₁.setTop (mkF m 22 #[rv a0, iv p1, iv 0, iv 3, iv (p1.toInt8.toInt32), iv 0] [])) (fun t k => ?_) ?_
    · refine XS.icmpNo X0.here hx rfl (hb hby d25_19) rfl (teq hc19).2 ?_
      exact k
    refine og (B := s₁.setTop (mkF m 24 #[rv a0, iv p1, iv 0, iv 3, iv (p1.toInt8.toInt32), iv 0] [(.int 0)])) (fun t k => ?_) ?_
    · refine XS.iload X0.here hx rfl (hb hby d25_22) rfl ?_
      exact k
    obtain ⟨fs, hr, hrun, hended, hW, hsame⟩ := X0.leave (v := some (.int 0)) (fun h => by rw [Bd.returns] at h; cases h)
    refine ⟨_, _, ?_, hrun, hended, _, _, rfl, ?_, ⟨_, rfl⟩, hW, hsame.mono (by decide) (by decide)⟩
    · show Steps p.tables e below (s₁.setTop (mkF m 24 #[rv a0, iv p1, iv 0, iv 3, iv (p1.toInt8.toInt32), iv 0] [(.int 0)])) _
      exact retI X0 hx Bd.returns (hb hby d25_24) hr
    · show Qioc3 Z a0 p1 kk ee0 ee1 ee2 h0 n0 _ s₁.heap _
      rw [e0]
      exact ⟨by simp only [own_ioc3, if_pos hc19], N0, rfl⟩
  · refine og (B := s₁.setTop (mkF m 25 #[rv a0, iv p1, iv 0, iv 3, iv (p1.toInt8.toInt32), iv 0] [])) (fun t k => ?_) ?_
    · refine XS.icmpYes X0.here hx rfl (pc0 := 19) (pc' := 25) rfl (hb hby d25_19) rfl (feq hc19).2 (by decide) (by decide) ?_
      exact k
    refine og (B := s₁.setTop (mkF m 10 #[rv a0, iv p1, iv 0, iv 3, iv (p1.toInt8.toInt32), iv 1] [(.int 3), (.int 1)])) (fun t k => ?_) ?_
    · refine XS.iinc X0.here hx rfl (hb hby d25_25) rfl (l' := #[rv a0, iv p1, iv 0, iv 3, iv (p1.toInt8.toInt32), iv 1]) rfl ?_
      refine XS.goto X0.here hx rfl (pc0 := 28) (pc' := 7) rfl (hb hby d25_28) (by decide) (by decide) ?_
      refine XS.iload X0.here hx rfl (hb hby d25_7) rfl ?_
      refine XS.iloadN X0.here hx rfl (hb hby d25_9) rfl ?_
      exact k
    refine og (B := s₁.setTop (mkF m 13 #[rv a0, iv p1, iv 0, iv 3, iv (p1.toInt8.toInt32), iv 1] [])) (fun t k => ?_) ?_
    · refine XS.icmpNo X0.here hx rfl (hb hby d25_10) rfl (tlt (by decide : (1 : Int32) < (3 : Int32))).2.1 ?_
      exact k
    refine og (B := s₁.setTop (mkF m 16 #[rv a0, iv p1, iv 0, iv 3, iv (p1.toInt8.toInt32), iv 1] [(.int 1), (.ref a0)])) (fun t k => ?_) ?_
    · refine XS.aloadN X0.here hx rfl (hb hby d25_13) rfl rfl ?_
      refine XS.iload X0.here hx rfl (hb hby d25_14) rfl ?_
      exact k
    obtain ⟨cl_2, Ar_2, q_2, S_2, M_2, H_2, G_2⟩ := id V0
    have hin_2 : ¬ ((1 : Int32) < 0 ∨ cl_2.slots.size ≤ ((1 : Int32)).toNatClampNeg) := inb_of S_2 ⟨by decide, by decide⟩
    have hat_2 : cl_2.slots[((1 : Int32)).toNatClampNeg]? = some (.int ee1) := H_2.at hin_2 rfl
    refine og (B := s₁.setTop (mkF m 17 #[rv a0, iv p1, iv 0, iv 3, iv (p1.toInt8.toInt32), iv 1] [(.int ee1)])) (fun t k => X0.baloadBytes hx (j := (1 : Int32)) (v := (.int ee1)) (by rw [(e0 : _ = _)]; exact Ar_2.1) (State.isArrayOf_alike hZ.alike Ar_2.2.1) Ar_2.2.2 hin_2 hat_2 (g := (mkF m 16 #[rv a0, iv p1, iv 0, iv 3, iv (p1.toInt8.toInt32), iv 1] [(.int 1), (.ref a0)])) rfl rfl (hb hby d25_16) t k) ?_
    refine og (B := s₁.setTop (mkF m 19 #[rv a0, iv p1, iv 0, iv 3, iv (p1.toInt8.toInt32), iv 1] [(.int (p1.toInt8.toInt32)), (.int ee1)])) (fun t k => ?_) ?_
    · refine XS.iload X0.here hx rfl (hb hby d25_17) rfl ?_
      exact k
    by_cases hc19_1 : ee1 = (p1.toInt8.toInt32)
    · refine og (B := s₁.setTop (mkF m 22 #[rv a0, iv p1, iv 0, iv 3, iv (p1.toInt8.toInt32), iv 1] [])) (fun t k => ?_) ?_
      · refine XS.icmpNo X0.here hx rfl (hb hby d25_19) rfl (teq hc19_1).2 ?_
        exact k
      refine og (B := s₁.setTop (mkF m 24 #[rv a0, iv p1, iv 0, iv 3, iv (p1.toInt8.toInt32), iv 1] [(.int 1)])) (fun t k => ?_) ?_
      · refine XS.iload X0.here hx rfl (hb hby d25_22) rfl ?_
        exact k
      obtain ⟨fs, hr, hrun, hended, hW, hsame⟩ := X0.leave (v := some (.int 1)) (fun h => by rw [Bd.returns] at h; cases h)
      refine ⟨_, _, ?_, hrun, hended, _, _, rfl, ?_, ⟨_, rfl⟩, hW, hsame.mono (by decide) (by decide)⟩
      · show Steps p.tables e below (s₁.setTop (mkF m 24 #[rv a0, iv p1, iv 0, iv 3, iv (p1.toInt8.toInt32), iv 1] [(.int 1)])) _
        exact retI X0 hx Bd.returns (hb hby d25_24) hr
      · show Qioc3 Z a0 p1 kk ee0 ee1 ee2 h0 n0 _ s₁.heap _
        rw [e0]
        exact ⟨by simp only [own_ioc3, if_neg hc19, if_pos hc19_1], N0, rfl⟩
    · refine og (B := s₁.setTop (mkF m 25 #[rv a0, iv p1, iv 0, iv 3, iv (p1.toInt8.toInt32), iv 1] [])) (fun t k => ?_) ?_
      · refine XS.icmpYes X0.here hx rfl (pc0 := 19) (pc' := 25) rfl (hb hby d25_19) rfl (feq hc19_1).2 (by decide) (by decide) ?_
        exact k
      refine og (B := s₁.setTop (mkF m 10 #[rv a0, iv p1, iv 0, iv 3, iv (p1.toInt8.toInt32), iv 2] [(.int 3), (.int 2)])) (fun t k => ?_) ?_
      · refine XS.iinc X0.here hx rfl (hb hby d25_25) rfl (l' := #[rv a0, iv p1, iv 0, iv 3, iv (p1.toInt8.toInt32), iv 2]) rfl ?_
        refine XS.goto X0.here hx rfl (pc0 := 28) (pc' := 7) rfl (hb hby d25_28) (by decide) (by decide) ?_
        refine XS.iload X0.here hx rfl (hb hby d25_7) rfl ?_
        refine XS.iloadN X0.here hx rfl (hb hby d25_9) rfl ?_
        exact k
      refine og (B := s₁.setTop (mkF m 13 #[rv a0, iv p1, iv 0, iv 3, iv (p1.toInt8.toInt32), iv 2] [])) (fun t k => ?_) ?_
      · refine XS.icmpNo X0.here hx rfl (hb hby d25_10) rfl (tlt (by decide : (2 : Int32) < (3 : Int32))).2.1 ?_
        exact k
      refine og (B := s₁.setTop (mkF m 16 #[rv a0, iv p1, iv 0, iv 3, iv (p1.toInt8.toInt32), iv 2] [(.int 2), (.ref a0)])) (fun t k => ?_) ?_
      · refine XS.aloadN X0.here hx rfl (hb hby d25_13) rfl rfl ?_
        refine XS.iload X0.here hx rfl (hb hby d25_14) rfl ?_
        exact k
      obtain ⟨cl_3, Ar_3, q_3, S_3, M_3, H_3, G_3⟩ := id V0
      have hin_3 : ¬ ((2 : Int32) < 0 ∨ cl_3.slots.size ≤ ((2 : Int32)).toNatClampNeg) := inb_of S_3 ⟨by decide, by decide⟩
      have hat_3 : cl_3.slots[((2 : Int32)).toNatClampNeg]? = some (.int ee2) := H_3.at hin_3 rfl
      refine og (B := s₁.setTop (mkF m 17 #[rv a0, iv p1, iv 0, iv 3, iv (p1.toInt8.toInt32), iv 2] [(.int ee2)])) (fun t k => X0.baloadBytes hx (j := (2 : Int32)) (v := (.int ee2)) (by rw [(e0 : _ = _)]; exact Ar_3.1) (State.isArrayOf_alike hZ.alike Ar_3.2.1) Ar_3.2.2 hin_3 hat_3 (g := (mkF m 16 #[rv a0, iv p1, iv 0, iv 3, iv (p1.toInt8.toInt32), iv 2] [(.int 2), (.ref a0)])) rfl rfl (hb hby d25_16) t k) ?_
      refine og (B := s₁.setTop (mkF m 19 #[rv a0, iv p1, iv 0, iv 3, iv (p1.toInt8.toInt32), iv 2] [(.int (p1.toInt8.toInt32)), (.int ee2)])) (fun t k => ?_) ?_
      · refine XS.iload X0.here hx rfl (hb hby d25_17) rfl ?_
        exact k
      by_cases hc19_2 : ee2 = (p1.toInt8.toInt32)
      · refine og (B := s₁.setTop (mkF m 22 #[rv a0, iv p1, iv 0, iv 3, iv (p1.toInt8.toInt32), iv 2] [])) (fun t k => ?_) ?_
        · refine XS.icmpNo X0.here hx rfl (hb hby d25_19) rfl (teq hc19_2).2 ?_
          exact k
        refine og (B := s₁.setTop (mkF m 24 #[rv a0, iv p1, iv 0, iv 3, iv (p1.toInt8.toInt32), iv 2] [(.int 2)])) (fun t k => ?_) ?_
        · refine XS.iload X0.here hx rfl (hb hby d25_22) rfl ?_
          exact k
        obtain ⟨fs, hr, hrun, hended, hW, hsame⟩ := X0.leave (v := some (.int 2)) (fun h => by rw [Bd.returns] at h; cases h)
        refine ⟨_, _, ?_, hrun, hended, _, _, rfl, ?_, ⟨_, rfl⟩, hW, hsame.mono (by decide) (by decide)⟩
        · show Steps p.tables e below (s₁.setTop (mkF m 24 #[rv a0, iv p1, iv 0, iv 3, iv (p1.toInt8.toInt32), iv 2] [(.int 2)])) _
          exact retI X0 hx Bd.returns (hb hby d25_24) hr
        · show Qioc3 Z a0 p1 kk ee0 ee1 ee2 h0 n0 _ s₁.heap _
          rw [e0]
          exact ⟨by simp only [own_ioc3, if_neg hc19, if_neg hc19_1, if_pos hc19_2], N0, rfl⟩
      · refine og (B := s₁.setTop (mkF m 25 #[rv a0, iv p1, iv 0, iv 3, iv (p1.toInt8.toInt32), iv 2] [])) (fun t k => ?_) ?_
        · refine XS.icmpYes X0.here hx rfl (pc0 := 19) (pc' := 25) rfl (hb hby d25_19) rfl (feq hc19_2).2 (by decide) (by decide) ?_
          exact k
        refine og (B := s₁.setTop (mkF m 10 #[rv a0, iv p1, iv 0, iv 3, iv (p1.toInt8.toInt32), iv 3] [(.int 3), (.int 3)])) (fun t k => ?_) ?_
        · refine XS.iinc X0.here hx rfl (hb hby d25_25) rfl (l' := #[rv a0, iv p1, iv 0, iv 3, iv (p1.toInt8.toInt32), iv 3]) rfl ?_
          refine XS.goto X0.here hx rfl (pc0 := 28) (pc' := 7) rfl (hb hby d25_28) (by decide) (by decide) ?_
          refine XS.iload X0.here hx rfl (hb hby d25_7) rfl ?_
          refine XS.iloadN X0.here hx rfl (hb hby d25_9) rfl ?_
          exact k
        refine og (B := s₁.setTop (mkF m 31 #[rv a0, iv p1, iv 0, iv 3, iv (p1.toInt8.toInt32), iv 3] [])) (fun t k => ?_) ?_
        · refine XS.icmpYes X0.here hx rfl (pc0 := 10) (pc' := 31) rfl (hb hby d25_10) rfl (flt (by decide : ¬ ((3 : Int32) < (3 : Int32)))).2.1 (by decide) (by decide) ?_
          exact k
        refine og (B := s₁.setTop (mkF m 32 #[rv a0, iv p1, iv 0, iv 3, iv (p1.toInt8.toInt32), iv 3] [(.int (-1))])) (fun t k => ?_) ?_
        · refine XS.iconst X0.here hx rfl (hb hby d25_31) ?_
          exact k
        obtain ⟨fs, hr, hrun, hended, hW, hsame⟩ := X0.leave (v := some (.int (-1))) (fun h => by rw [Bd.returns] at h; cases h)
        refine ⟨_, _, ?_, hrun, hended, _, _, rfl, ?_, ⟨_, rfl⟩, hW, hsame.mono (by decide) (by decide)⟩
        · show Steps p.tables e below (s₁.setTop (mkF m 32 #[rv a0, iv p1, iv 0, iv 3, iv (p1.toInt8.toInt32), iv 3] [(.int (-1))])) _
          exact retI X0 hx Bd.returns (hb hby d25_32) hr
        · show Qioc3 Z a0 p1 kk ee0 ee1 ee2 h0 n0 _ s₁.heap _
          rw [e0]
          exact ⟨by simp only [own_ioc3, if_neg hc19, if_neg hc19_1, if_neg hc19_2], N0, rfl⟩
theorem ef_ixl3 (m : MethodId) (a0 : Addr) (p1 : Int32) : entryFrame m #[(.ref a0), (.int p1), (.int 0), (.int 3)] 4 = mkF m 0 #[rv a0, iv p1, iv 0, iv 3] [] := by first | (simp [entryFrame, mkF, argsToLocals, Value.category]; done) | rfl
def own_ixl3  (ee0 : Int32) (ee1 : Int32) (ee2 : Int32) (p1 : Int32) : Int32 := (if (own_enc p1) = (0 : Int32) then (-1 : Int32) else (own_ioc3 ee0 ee1 ee2 p1))
def Qixl3 (Z : State) (a0 : Addr) (p1 : Int32) (kk : ClassId) (ee0 : Int32) (ee1 : Int32) (ee2 : Int32) (h0 : Heap) (n0 : Nat) (v : Option Value) (h : Heap) (L : List Loc) : Prop := v = some (.int (own_ixl3 ee0 ee1 ee2 p1)) ∧ Fr n0 L ∧ h = h0
theorem rmixl3 (l : Launch) (Z : State) (av0 : Array Value) (hw : ∀ d ∈ tables_1, d.before av0 Z = true) (ws : List Jvm.Cond) (a0 : Addr) (p1 : Int32) (kk : ClassId) (ee0 : Int32) (ee1 : Int32) (ee2 : Int32) (h0 : Heap) (n0 : Nat) (Z0 : n0 ≤ h0.size) (V0 : Arv Z h0 a0 kk .byte (3 : Int32) [(.int ee0), (.int ee1), (.int ee2)] (.int 0)) :
    MetFree l own_m13 (head1 (Jvm.Cond.code own_m13 jdk_43_method_22_code 4 (some .int) :: ws) ({ frames := 1, cells := 0, slots := 0, locals := 17 } : Room)) (fun a U => a = #[(.ref a0), (.int p1), (.int 0), (.int 3)] ∧ Z.Warmed39 U.vm ∧ U.heap = h0) (fun _ _ _ _ _ => True) (fun _ U o U' => ∃ v L, o = .returned v ∧ Qixl3 Z a0 p1 kk ee0 ee1 ee2 h0 n0 v U'.heap L ∧ FrameEnd U o U' L ({ frames := 1, cells := 0, slots := 0, locals := 17 } : Room).cells ({ frames := 1, cells := 0, slots := 0, locals := 17 } : Room).slots) := by
  refine MetFree.of_bodySF (plainFor_of_name pn_12) hisR ?_
  intro p e s m args below meth c s₁ Bd hml0 hP hK
  obtain ⟨rfl, hZ, hh⟩ := hP
  have hx := Bd.exec
  have hby := Bd.bytes
  have hml : c.maxLocals = 4 := hml0
  have hown : s.vm.findClass "java/lang/StringLatin1" = some m.cls := findClass_of_methodNamed Bd.named
  have X0 : Stand p l e ({ frames := 1, cells := 0, slots := 0, locals := 17 } : Room) s m #[(.ref a0), (.int p1), (.int 0), (.int 3)] below meth c s₁ [] 0 0 := Stand.of_body Bd
  have e0 : s₁.heap = h0 := by rw [← hh, Bd.state]; rfl
  have N0 := Fr.nil n0
  have K0 : Keep h0 h0 [] := Keep.refl h0 []
  refine og (B := s₁.setTop (mkF m 0 #[rv a0, iv p1, iv 0, iv 3] [])) (fun t k => castTop (ef_ixl3 m a0 p1) k) ?_
  refine og (B := s₁.setTop (mkF m 1 #[rv a0, iv p1, iv 0, iv 3] [(.int p1)])) (fun t k => ?_) ?_
  · refine XS.iloadN X0.here hx rfl (hb hby d12_0) rfl ?_
    exact k
  obtain ⟨_, _, ⟨T_1, L_1, k_1, n_1⟩, -, X_1, ⟨Lc_1, hQ_1, l_1, y_1, z_1⟩, st_1⟩ := Jvm.LawKit.callS X0 hx (y := own_m14) hown (mvT hZ (ow hw 74 rfl)) (mvT hZ (ow hw 75 rfl)) (mvT hZ (ow hw 72 rfl)) (mvT hZ (ow hw 76 rfl)) (by decide) (backOf (W := 0) (rm13 l Z av0 hw [] p1  h0 n0 Z0 ) hZ (ow hw 76 rfl) (ow hw 72 rfl) (by decide) (by decide)) (g := (mkF m 1 #[rv a0, iv p1, iv 0, iv 3] [(.int p1)])) rfl (by rw [hml]; rfl) (argsL := [(.int p1)]) (rest := []) (lenOf pd_1 rfl) rfl (by show 2 * 0 + _ ≤ _; exact Nat.le_of_eq rfl) (hb hby d12_1) (fun _ _ => ⟨rfl, e0, (by decide : 0 + 0 ≤ _), (by decide : 0 + 0 ≤ _)⟩)
  dsimp only [Pt.U, Pt.locs, Pt.cells, Pt.slots] at X_1 l_1 y_1 z_1 st_1 hQ_1
  subst l_1 y_1 z_1
  obtain ⟨rfl, N_1q, e_1⟩ := hQ_1
  have N_1 := Fr.app N0 N_1q
  refine og (fun t k => st_1 t k) ?_
  by_cases hc4 : (own_enc p1) = (0 : Int32)
  · refine og (B := T_1.setTop (mkF m 7 #[rv a0, iv p1, iv 0, iv 3] [])) (fun t k => ?_) ?_
    · refine XS.ifNo X_1.here hx rfl (hb hby d12_4) rfl ((if0 _ _).trans (teq hc4).2) ?_
      exact k
    refine og (B := T_1.setTop (mkF m 8 #[rv a0, iv p1, iv 0, iv 3] [(.int (-1))])) (fun t k => ?_) ?_
    · refine XS.iconst X_1.here hx rfl (hb hby d12_7) ?_
      exact k
    obtain ⟨fs, hr, hrun, hended, hW, hsame⟩ := X_1.leave (v := some (.int (-1))) (fun h => by rw [Bd.returns] at h; cases h)
    refine ⟨_, _, ?_, hrun, hended, _, _, rfl, ?_, ⟨_, rfl⟩, hW, hsame.mono (by decide) (by decide)⟩
    · show Steps p.tables e below (T_1.setTop (mkF m 8 #[rv a0, iv p1, iv 0, iv 3] [(.int (-1))])) _
      exact retI X_1 hx Bd.returns (hb hby d12_8) hr
    · show Qixl3 Z a0 p1 kk ee0 ee1 ee2 h0 n0 _ T_1.heap _
      rw [e_1]
      exact ⟨by simp only [own_ixl3, if_pos hc4], N_1, rfl⟩
  · refine og (B := T_1.setTop (mkF m 9 #[rv a0, iv p1, iv 0, iv 3] [])) (fun t k => ?_) ?_
    · refine XS.ifYes X_1.here hx rfl (pc0 := 4) (pc' := 9) rfl (hb hby d12_4) rfl ((if0 _ _).trans (feq hc4).2) (by decide) (by decide) ?_
      exact k
    refine og (B := T_1.setTop (mkF m 11 #[rv a0, iv p1, iv 0, iv 3] [(.int 0), (.int 0)])) (fun t k => ?_) ?_
    · refine XS.iloadN X_1.here hx rfl (hb hby d12_9) rfl ?_
      refine XS.iconst X_1.here hx rfl (hb hby d12_10) ?_
      exact k
    obtain ⟨_, _, ⟨T_2, L_2, k_2, n_2⟩, -, X_2, ⟨Lc_2, hQ_2, l_2, y_2, z_2⟩, st_2⟩ := Jvm.LawKit.callS X_1 hx (y := own_m15) hown (mvT hZ (ow hw 77 rfl)) (mvT hZ (ow hw 78 rfl)) (mvT hZ (ow hw 79 rfl)) (mvT hZ (ow hw 80 rfl)) (by decide) (backOf (W := 0) (rm14 l Z av0 hw [] (0 : Int32) (0 : Int32)  h0 n0 Z0 ) hZ (ow hw 80 rfl) (ow hw 79 rfl) (by decide) (by decide)) (g := (mkF m 11 #[rv a0, iv p1, iv 0, iv 3] [(.int 0), (.int 0)])) rfl (by rw [hml]; rfl) (argsL := [(.int 0), (.int 0)]) (rest := []) (lenOf pd_2 rfl) rfl (by show 2 * 0 + _ ≤ _; exact Nat.le_of_eq rfl) (hb hby d12_11) (fun _ _ => ⟨rfl, e_1, (by decide : 0 + 0 ≤ _), (by decide : 0 + 0 ≤ _)⟩)
    dsimp only [Pt.U, Pt.locs, Pt.cells, Pt.slots] at X_2 l_2 y_2 z_2 st_2 hQ_2
    subst l_2 y_2 z_2
    obtain ⟨hv_2, N_2q, e_2⟩ := hQ_2
    have N_2 := Fr.app N_1 N_2q
    rw [show own_maxi (0 : Int32) (0 : Int32) = (0 : Int32) from by decide] at hv_2
    subst hv_2
    refine og (fun t k => st_2 t k) ?_
    refine og (B := T_2.setTop (mkF m 17 #[rv a0, iv p1, iv 0, iv 3] [(.ref a0), (.int 3)])) (fun t k => ?_) ?_
    · refine XS.istoreN X_2.here hx rfl (hb hby d12_14) rfl (l' := #[rv a0, iv p1, iv 0, iv 3]) rfl ?_
      refine XS.iloadN X_2.here hx rfl (hb hby d12_15) rfl ?_
      refine XS.aloadN X_2.here hx rfl (hb hby d12_16) rfl rfl ?_
      exact k
    obtain ⟨cl_3, Ar_3, -, S_3, M_3, -, -⟩ := id V0
    refine og (B := T_2.setTop (mkF m 18 #[rv a0, iv p1, iv 0, iv 3] [(.int 3), (.int 3)])) (fun t k => X_2.arraylength hx (by rw [(e_2 : _ = _)]; exact Ar_3.1) (State.isArrayOf_alike hZ.alike Ar_3.2.1) (g := (mkF m 17 #[rv a0, iv p1, iv 0, iv 3] [(.ref a0), (.int 3)])) rfl rfl (hb hby d12_17) t (by rw [len_of S_3 M_3]; exact k)) ?_
    obtain ⟨_, _, ⟨T_4, L_4, k_4, n_4⟩, -, X_4, ⟨Lc_4, hQ_4, l_4, y_4, z_4⟩, st_4⟩ := Jvm.LawKit.callS X_2 hx (y := own_m16) hown (mvT hZ (ow hw 81 rfl)) (mvT hZ (ow hw 82 rfl)) (mvT hZ (ow hw 79 rfl)) (mvT hZ (ow hw 83 rfl)) (by decide) (backOf (W := 0) (rm15 l Z av0 hw [] (3 : Int32) (3 : Int32)  h0 n0 Z0 ) hZ (ow hw 83 rfl) (ow hw 79 rfl) (by decide) (by decide)) (g := (mkF m 18 #[rv a0, iv p1, iv 0, iv 3] [(.int 3), (.int 3)])) rfl (by rw [hml]; rfl) (argsL := [(.int 3), (.int 3)]) (rest := []) (lenOf pd_2 rfl) rfl (by show 2 * 0 + _ ≤ _; exact Nat.le_of_eq rfl) (hb hby d12_18) (fun _ _ => ⟨rfl, e_2, (by decide : 0 + 0 ≤ _), (by decide : 0 + 0 ≤ _)⟩)
    dsimp only [Pt.U, Pt.locs, Pt.cells, Pt.slots] at X_4 l_4 y_4 z_4 st_4 hQ_4
    subst l_4 y_4 z_4
    obtain ⟨hv_4, N_4q, e_4⟩ := hQ_4
    have N_4 := Fr.app N_2 N_4q
    rw [show own_mini (3 : Int32) (3 : Int32) = (3 : Int32) from by decide] at hv_4
    subst hv_4
    refine og (fun t k => st_4 t k) ?_
    refine og (B := T_4.setTop (mkF m 24 #[rv a0, iv p1, iv 0, iv 3] [(.int 3), (.int 0)])) (fun t k => ?_) ?_
    · refine XS.istoreN X_4.here hx rfl (hb hby d12_21) rfl (l' := #[rv a0, iv p1, iv 0, iv 3]) rfl ?_
      refine XS.iloadN X_4.here hx rfl (hb hby d12_22) rfl ?_
      refine XS.iloadN X_4.here hx rfl (hb hby d12_23) rfl ?_
      exact k
    refine og (B := T_4.setTop (mkF m 29 #[rv a0, iv p1, iv 0, iv 3] [])) (fun t k => ?_) ?_
    · refine XS.icmpYes X_4.here hx rfl (pc0 := 24) (pc' := 29) rfl (hb hby d12_24) rfl (tlt (by decide : (0 : Int32) < (3 : Int32))).1 (by decide) (by decide) ?_
      exact k
    refine og (B := T_4.setTop (mkF m 33 #[rv a0, iv p1, iv 0, iv 3] [(.int 3), (.int 0), (.int p1), (.ref a0)])) (fun t k => ?_) ?_
    · refine XS.aloadN X_4.here hx rfl (hb hby d12_29) rfl rfl ?_
      refine XS.iloadN X_4.here hx rfl (hb hby d12_30) rfl ?_
      refine XS.iloadN X_4.here hx rfl (hb hby d12_31) rfl ?_
      refine XS.iloadN X_4.here hx rfl (hb hby d12_32) rfl ?_
      exact k
    obtain ⟨_, _, ⟨T_5, L_5, k_5, n_5⟩, -, X_5, ⟨Lc_5, hQ_5, l_5, y_5, z_5⟩, st_5⟩ := Jvm.LawKit.callS X_4 hx (y := own_m26) hown (mvT hZ (ow hw 129 rfl)) (mvT hZ (ow hw 130 rfl)) (mvT hZ (ow hw 72 rfl)) (mvT hZ (ow hw 131 rfl)) (by decide) (backOf (W := 0) (rmioc3 l Z av0 hw [] a0 p1 kk ee0 ee1 ee2 h0 n0 Z0 V0) hZ (ow hw 131 rfl) (ow hw 72 rfl) (by decide) (by decide)) (g := (mkF m 33 #[rv a0, iv p1, iv 0, iv 3] [(.int 3), (.int 0), (.int p1), (.ref a0)])) rfl (by rw [hml]; rfl) (argsL := [(.ref a0), (.int p1), (.int 0), (.int 3)]) (rest := []) (lenOf pd_5 rfl) rfl (by show 2 * 0 + _ ≤ _; exact Nat.le_of_eq rfl) (hb hby d12_33) (fun _ _ => ⟨rfl, e_4, (by decide : 0 + 0 ≤ _), (by decide : 0 + 0 ≤ _)⟩)
    dsimp only [Pt.U, Pt.locs, Pt.cells, Pt.slots] at X_5 l_5 y_5 z_5 st_5 hQ_5
    subst l_5 y_5 z_5
    obtain ⟨rfl, N_5q, e_5⟩ := hQ_5
    have N_5 := Fr.app N_4 N_5q
    refine og (fun t k => st_5 t k) ?_
    obtain ⟨fs, hr, hrun, hended, hW, hsame⟩ := X_5.leave (v := some (.int (own_ioc3 ee0 ee1 ee2 p1))) (fun h => by rw [Bd.returns] at h; cases h)
    refine ⟨_, _, ?_, hrun, hended, _, _, rfl, ?_, ⟨_, rfl⟩, hW, hsame.mono (by decide) (by decide)⟩
    · show Steps p.tables e below (T_5.setTop (mkF m 36 #[rv a0, iv p1, iv 0, iv 3] [(.int (own_ioc3 ee0 ee1 ee2 p1))])) _
      exact retI X_5 hx Bd.returns (hb hby d12_36) hr
    · show Qixl3 Z a0 p1 kk ee0 ee1 ee2 h0 n0 _ T_5.heap _
      rw [e_5]
      exact ⟨by simp only [own_ixl3, if_neg hc4], N_5, rfl⟩
theorem ef_sxb3 (m : MethodId) (a0 : Addr) (p1 : Int32) : entryFrame m #[(.ref a0), (.int p1), (.int 0)] 3 = mkF m 0 #[rv a0, iv p1, iv 0] [] := by first | (simp [entryFrame, mkF, argsToLocals, Value.category]; done) | rfl
def Qsxb3 (Z : State) (a0 : Addr) (p1 : Int32) (b0 : Addr) (kk : ClassId) (w : Int32) (ee0 : Int32) (ee1 : Int32) (ee2 : Int32) (h0 : Heap) (n0 : Nat) (v : Option Value) (h : Heap) (L : List Loc) : Prop := v = some (.int (own_ixl3 ee0 ee1 ee2 p1)) ∧ Fr n0 L ∧ h = h0
theorem rmsxb3 (l : Launch) (Z : State) (av0 : Array Value) (hw : ∀ d ∈ tables_1, d.before av0 Z = true) (ws : List Jvm.Cond) (a0 : Addr) (p1 : Int32) (b0 : Addr) (kk : ClassId) (w : Int32) (ee0 : Int32) (ee1 : Int32) (ee2 : Int32) (h0 : Heap) (n0 : Nat) (Z0 : n0 ≤ h0.size) (E_a0 : Exa Z h0 a0 "java/lang/String") (F_coder_a0 : Fld Z h0 a0 "java/lang/String" "coder" "B" (.int 0)) (F_value_a0 : Fld Z h0 a0 "java/lang/String" "value" "[B" (.ref b0)) (S_COMPACT_STRINGS : Sta Z h0 "java/lang/String" "COMPACT_STRINGS" "Z" (.int w)) (hw0 : ¬ (w = (0 : Int32))) (V0 : Arv Z h0 b0 kk .byte (3 : Int32) [(.int ee0), (.int ee1), (.int ee2)] (.int 0)) :
    MetFree l own_m9 (head1 (Jvm.Cond.code own_m9 jdk_42_method_80_code 3 (some .int) :: ws) ({ frames := 2, cells := 0, slots := 0, locals := 32 } : Room)) (fun a U => a = #[(.ref a0), (.int p1), (.int 0)] ∧ Z.Warmed39 U.vm ∧ U.heap = h0) (fun _ _ _ _ _ => True) (fun _ U o U' => ∃ v L, o = .returned v ∧ Qsxb3 Z a0 p1 b0 kk w ee0 ee1 ee2 h0 n0 v U'.heap L ∧ FrameEnd U o U' L ({ frames := 2, cells := 0, slots := 0, locals := 32 } : Room).cells ({ frames := 2, cells := 0, slots := 0, locals := 32 } : Room).slots) := by
  refine MetFree.of_bodySF (plainFor_of_name pn_8) hisR ?_
  intro p e s m args below meth c s₁ Bd hml0 hP hK
  obtain ⟨rfl, hZ, hh⟩ := hP
  have hx := Bd.exec
  have hby := Bd.bytes
  have hml : c.maxLocals = 3 := hml0
  have hown : s.vm.findClass "java/lang/String" = some m.cls := findClass_of_methodNamed Bd.named
  have X0 : Stand p l e ({ frames := 2, cells := 0, slots := 0, locals := 32 } : Room) s m #[(.ref a0), (.int p1), (.int 0)] below meth c s₁ [] 0 0 := Stand.of_body Bd
  have e0 : s₁.heap = h0 := by rw [← hh, Bd.state]; rfl
  have N0 := Fr.nil n0
  have K0 : Keep h0 h0 [] := Keep.refl h0 []
  refine og (B := s₁.setTop (mkF m 0 #[rv a0, iv p1, iv 0] [])) (fun t k => castTop (ef_sxb3 m a0 p1) k) ?_
  refine og (B := s₁.setTop (mkF m 1 #[rv a0, iv p1, iv 0] [(.ref a0)])) (fun t k => ?_) ?_
  · refine XS.aloadN X0.here hx rfl (hb hby d8_0) rfl rfl ?_
    exact k
  obtain ⟨cq_1, kq_1, q_1a, q_1b, q_1c⟩ := isOf hZ e0 E_a0
  obtain ⟨_, _, ⟨T_1, L_1, k_1, n_1⟩, -, X_1, ⟨Lc_1, hQ_1, l_1, y_1, z_1⟩, st_1⟩ := X0.virtualBack hx (y := own_m10) (z := own_m10) hown (mvT hZ (ow hw 54 rfl)) (mvT hZ (ow hw 55 rfl)) (notFace_of_selects (args := #[]) (mvT hZ (ow hw 57 rfl))) (mvT hZ (ow hw 57 rfl)) (mvT hZ (ow hw 56 rfl)) (by decide) (backOf (W := 0) (rm9 l Z av0 hw [] a0 w h0 n0 Z0 F_coder_a0 S_COMPACT_STRINGS hw0) hZ (ow hw 58 rfl) (ow hw 7 rfl) (by decide) (by decide)) q_1a q_1c (g := (mkF m 1 #[rv a0, iv p1, iv 0] [(.ref a0)])) rfl (by rw [hml]; rfl) (Steps.refl _) (argsL := []) (rest := []) (lenOf pd_3 rfl) rfl (by show 2 * 0 + _ ≤ _; exact Nat.le_of_eq rfl) (hb hby d8_1) (fun _ _ => ⟨rfl, e0, (by decide : 0 + 0 ≤ _), (by decide : 0 + 0 ≤ _)⟩)
  dsimp only [Pt.U, Pt.locs, Pt.cells, Pt.slots] at X_1 l_1 y_1 z_1 st_1 hQ_1
  subst l_1 y_1 z_1
  obtain ⟨rfl, N_1q, e_1⟩ := hQ_1
  have N_1 := Fr.app N0 N_1q
  refine og (fun t k => st_1.trans k) ?_
  refine og (B := T_1.setTop (mkF m 7 #[rv a0, iv p1, iv 0] [])) (fun t k => ?_) ?_
  · refine XS.ifNo X_1.here hx rfl (hb hby d8_4) rfl ((if0 _ _).trans (feq (by decide : ¬ ((1 : Int32) = (0 : Int32)))).1) ?_
    exact k
  refine og (B := T_1.setTop (mkF m 8 #[rv a0, iv p1, iv 0] [(.ref a0)])) (fun t k => ?_) ?_
  · refine XS.aloadN X_1.here hx rfl (hb hby d8_7) rfl rfl ?_
    exact k
  obtain ⟨T_2, X_2, e_2, st_2⟩ := getF X_1 hx hZ hown (host := "") (Or.inl (ow hw 25 rfl)) Via.refl e_1 F_value_a0 (g := (mkF m 8 #[rv a0, iv p1, iv 0] [(.ref a0)])) rfl rfl (hb hby d8_8)
  refine og (fun t k => st_2 t k) ?_
  refine og (B := T_2.setTop (mkF m 14 #[rv a0, iv p1, iv 0] [(.ref a0), (.int 0), (.int p1), (.ref b0)])) (fun t k => ?_) ?_
  · refine XS.iloadN X_2.here hx rfl (hb hby d8_11) rfl ?_
    refine XS.iloadN X_2.here hx rfl (hb hby d8_12) rfl ?_
    refine XS.aloadN X_2.here hx rfl (hb hby d8_13) rfl rfl ?_
    exact k
  obtain ⟨cq_3, kq_3, q_3a, q_3b, q_3c⟩ := isOf hZ e_2 E_a0
  obtain ⟨_, _, ⟨T_3, L_3, k_3, n_3⟩, -, X_3, ⟨Lc_3, hQ_3, l_3, y_3, z_3⟩, st_3⟩ := X_2.virtualBack hx (y := own_m11) (z := own_m11) hown (mvT hZ (ow hw 60 rfl)) (mvT hZ (ow hw 61 rfl)) (notFace_of_selects (args := #[]) (mvT hZ (ow hw 63 rfl))) (mvT hZ (ow hw 63 rfl)) (mvT hZ (ow hw 62 rfl)) (by decide) (backOf (W := 3) (rm10 l Z av0 hw [] a0 b0 kk w (3 : Int32) [(.int ee0), (.int ee1), (.int ee2)] h0 n0 Z0 E_a0 F_coder_a0 F_value_a0 S_COMPACT_STRINGS hw0 V0) hZ (ow hw 64 rfl) (ow hw 7 rfl) (by decide) (by decide)) q_3a q_3c (g := (mkF m 14 #[rv a0, iv p1, iv 0] [(.ref a0), (.int 0), (.int p1), (.ref b0)])) rfl (by rw [hml]; rfl) (Steps.refl _) (argsL := []) (rest := [(.int 0), (.int p1), (.ref b0)]) (lenOf pd_4 rfl) rfl (by show 2 * 0 + _ ≤ _; exact Nat.le_of_eq rfl) (hb hby d8_14) (fun _ _ => ⟨rfl, e_2, (by decide : 0 + 0 ≤ _), (by decide : 0 + 0 ≤ _)⟩)
  dsimp only [Pt.U, Pt.locs, Pt.cells, Pt.slots] at X_3 l_3 y_3 z_3 st_3 hQ_3
  subst l_3 y_3 z_3
  obtain ⟨rfl, N_3q, e_3⟩ := hQ_3
  have N_3 := Fr.app N_1 N_3q
  refine og (fun t k => st_3.trans k) ?_
  obtain ⟨_, _, ⟨T_4, L_4, k_4, n_4⟩, -, X_4, ⟨Lc_4, hQ_4, l_4, y_4, z_4⟩, st_4⟩ := Jvm.LawKit.callS X_3 hx (y := own_m13) hown (mvT hZ (ow hw 70 rfl)) (mvT hZ (ow hw 71 rfl)) (mvT hZ (ow hw 72 rfl)) (mvT hZ (ow hw 73 rfl)) (by decide) (backOf (W := 0) (rmixl3 l Z av0 hw [] b0 p1 kk ee0 ee1 ee2 h0 n0 Z0 V0) hZ (ow hw 73 rfl) (ow hw 72 rfl) (by decide) (by decide)) (g := (mkF m 17 #[rv a0, iv p1, iv 0] [(.int 3), (.int 0), (.int p1), (.ref b0)])) rfl (by rw [hml]; rfl) (argsL := [(.ref b0), (.int p1), (.int 0), (.int 3)]) (rest := []) (lenOf pd_5 rfl) rfl (by show 2 * 0 + _ ≤ _; exact Nat.le_of_eq rfl) (hb hby d8_17) (fun _ _ => ⟨rfl, e_3, (by decide : 0 + 0 ≤ _), (by decide : 0 + 0 ≤ _)⟩)
  dsimp only [Pt.U, Pt.locs, Pt.cells, Pt.slots] at X_4 l_4 y_4 z_4 st_4 hQ_4
  subst l_4 y_4 z_4
  obtain ⟨rfl, N_4q, e_4⟩ := hQ_4
  have N_4 := Fr.app N_3 N_4q
  refine og (fun t k => st_4 t k) ?_
  refine og (B := T_4.setTop (mkF m 36 #[rv a0, iv p1, iv 0] [(.int (own_ixl3 ee0 ee1 ee2 p1))])) (fun t k => ?_) ?_
  · refine XS.goto X_4.here hx rfl (pc0 := 20) (pc' := 36) rfl (hb hby d8_20) (by decide) (by decide) ?_
    exact k
  obtain ⟨fs, hr, hrun, hended, hW, hsame⟩ := X_4.leave (v := some (.int (own_ixl3 ee0 ee1 ee2 p1))) (fun h => by rw [Bd.returns] at h; cases h)
  refine ⟨_, _, ?_, hrun, hended, _, _, rfl, ?_, ⟨_, rfl⟩, hW, hsame.mono (by decide) (by decide)⟩
  · show Steps p.tables e below (T_4.setTop (mkF m 36 #[rv a0, iv p1, iv 0] [(.int (own_ixl3 ee0 ee1 ee2 p1))])) _
    exact retI X_4 hx Bd.returns (hb hby d8_36) hr
  · show Qsxb3 Z a0 p1 b0 kk w ee0 ee1 ee2 h0 n0 _ T_4.heap _
    rw [e_4]
    exact ⟨rfl, N_4, rfl⟩
theorem ef_sxa3 (m : MethodId) (a0 : Addr) (p1 : Int32) : entryFrame m #[(.ref a0), (.int p1)] 2 = mkF m 0 #[rv a0, iv p1] [] := by first | (simp [entryFrame, mkF, argsToLocals, Value.category]; done) | rfl
def Qsxa3 (Z : State) (a0 : Addr) (p1 : Int32) (b0 : Addr) (kk : ClassId) (w : Int32) (ee0 : Int32) (ee1 : Int32) (ee2 : Int32) (h0 : Heap) (n0 : Nat) (v : Option Value) (h : Heap) (L : List Loc) : Prop := v = some (.int (own_ixl3 ee0 ee1 ee2 p1)) ∧ Fr n0 L ∧ h = h0
theorem rmsxa3 (l : Launch) (Z : State) (av0 : Array Value) (hw : ∀ d ∈ tables_1, d.before av0 Z = true) (ws : List Jvm.Cond) (a0 : Addr) (p1 : Int32) (b0 : Addr) (kk : ClassId) (w : Int32) (ee0 : Int32) (ee1 : Int32) (ee2 : Int32) (h0 : Heap) (n0 : Nat) (Z0 : n0 ≤ h0.size) (E_a0 : Exa Z h0 a0 "java/lang/String") (F_coder_a0 : Fld Z h0 a0 "java/lang/String" "coder" "B" (.int 0)) (F_value_a0 : Fld Z h0 a0 "java/lang/String" "value" "[B" (.ref b0)) (S_COMPACT_STRINGS : Sta Z h0 "java/lang/String" "COMPACT_STRINGS" "Z" (.int w)) (hw0 : ¬ (w = (0 : Int32))) (V0 : Arv Z h0 b0 kk .byte (3 : Int32) [(.int ee0), (.int ee1), (.int ee2)] (.int 0)) :
    MetFree l own_m8 (head1 (Jvm.Cond.code own_m8 jdk_42_method_79_code 2 (some .int) :: ws) ({ frames := 6, cells := 0, slots := 0, locals := 150 } : Room)) (fun a U => a = #[(.ref a0), (.int p1)] ∧ Z.Warmed39 U.vm ∧ U.heap = h0) (fun _ _ _ _ _ => True) (fun _ U o U' => ∃ v L, o = .returned v ∧ Qsxa3 Z a0 p1 b0 kk w ee0 ee1 ee2 h0 n0 v U'.heap L ∧ FrameEnd U o U' L ({ frames := 6, cells := 0, slots := 0, locals := 150 } : Room).cells ({ frames := 6, cells := 0, slots := 0, locals := 150 } : Room).slots) := by
  refine MetFree.of_bodySF (plainFor_of_name pn_7) hisR ?_
  intro p e s m args below meth c s₁ Bd hml0 hP hK
  obtain ⟨rfl, hZ, hh⟩ := hP
  have hx := Bd.exec
  have hby := Bd.bytes
  have hml : c.maxLocals = 2 := hml0
  have hown : s.vm.findClass "java/lang/String" = some m.cls := findClass_of_methodNamed Bd.named
  have X0 : Stand p l e ({ frames := 6, cells := 0, slots := 0, locals := 150 } : Room) s m #[(.ref a0), (.int p1)] below meth c s₁ [] 0 0 := Stand.of_body Bd
  have e0 : s₁.heap = h0 := by rw [← hh, Bd.state]; rfl
  have N0 := Fr.nil n0
  have K0 : Keep h0 h0 [] := Keep.refl h0 []
  refine og (B := s₁.setTop (mkF m 0 #[rv a0, iv p1] [])) (fun t k => castTop (ef_sxa3 m a0 p1) k) ?_
  refine og (B := s₁.setTop (mkF m 3 #[rv a0, iv p1] [(.int 0), (.int p1), (.ref a0)])) (fun t k => ?_) ?_
  · refine XS.aloadN X0.here hx rfl (hb hby d7_0) rfl rfl ?_
    refine XS.iloadN X0.here hx rfl (hb hby d7_1) rfl ?_
    refine XS.iconst X0.here hx rfl (hb hby d7_2) ?_
    exact k
  obtain ⟨cq_1, kq_1, q_1a, q_1b, q_1c⟩ := isOf hZ e0 E_a0
  obtain ⟨_, _, ⟨T_1, L_1, k_1, n_1⟩, -, X_1, ⟨Lc_1, hQ_1, l_1, y_1, z_1⟩, st_1⟩ := X0.virtualBack hx (y := own_m9) (z := own_m9) hown (mvT hZ (ow hw 49 rfl)) (mvT hZ (ow hw 50 rfl)) (notFace_of_selects (args := #[]) (mvT hZ (ow hw 52 rfl))) (mvT hZ (ow hw 52 rfl)) (mvT hZ (ow hw 51 rfl)) (by decide) (backOf (W := 0) (rmsxb3 l Z av0 hw [] a0 p1 b0 kk w ee0 ee1 ee2 h0 n0 Z0 E_a0 F_coder_a0 F_value_a0 S_COMPACT_STRINGS hw0 V0) hZ (ow hw 53 rfl) (ow hw 7 rfl) (by decide) (by decide)) q_1a q_1c (g := (mkF m 3 #[rv a0, iv p1] [(.int 0), (.int p1), (.ref a0)])) rfl (by rw [hml]; rfl) (Steps.refl _) (argsL := [(.int p1), (.int 0)]) (rest := []) (lenOf pd_2 rfl) rfl (by show 2 * 0 + _ ≤ _; exact Nat.le_of_eq rfl) (hb hby d7_3) (fun _ _ => ⟨rfl, e0, (by decide : 0 + 0 ≤ _), (by decide : 0 + 0 ≤ _)⟩)
  dsimp only [Pt.U, Pt.locs, Pt.cells, Pt.slots] at X_1 l_1 y_1 z_1 st_1 hQ_1
  subst l_1 y_1 z_1
  obtain ⟨rfl, N_1q, e_1⟩ := hQ_1
  have N_1 := Fr.app N0 N_1q
  refine og (fun t k => st_1.trans k) ?_
  obtain ⟨fs, hr, hrun, hended, hW, hsame⟩ := X_1.leave (v := some (.int (own_ixl3 ee0 ee1 ee2 p1))) (fun h => by rw [Bd.returns] at h; cases h)
  refine ⟨_, _, ?_, hrun, hended, _, _, rfl, ?_, ⟨_, rfl⟩, hW, hsame.mono (by decide) (by decide)⟩
  · show Steps p.tables e below (T_1.setTop (mkF m 6 #[rv a0, iv p1] [(.int (own_ixl3 ee0 ee1 ee2 p1))])) _
    exact retI X_1 hx Bd.returns (hb hby d7_6) hr
  · show Qsxa3 Z a0 p1 b0 kk w ee0 ee1 ee2 h0 n0 _ T_1.heap _
    rw [e_1]
    exact ⟨rfl, N_1, rfl⟩
theorem d23_0 : decode jdk_52_method_21_code 0 = .ok (.iconst 0, 1) := by decide +kernel
theorem d23_1 : decode jdk_52_method_21_code 1 = .ok (.istore 5, 2) := by decide +kernel
theorem d23_3 : decode jdk_52_method_21_code 3 = .ok (.iload 5, 2) := by decide +kernel
theorem d23_5 : decode jdk_52_method_21_code 5 = .ok (.iload 4, 2) := by decide +kernel
theorem d23_7 : decode jdk_52_method_21_code 7 = .ok (.if_icmp .ge 37, 3) := by decide +kernel
theorem d23_10 : decode jdk_52_method_21_code 10 = .ok (.aload_n 0, 1) := by decide +kernel
theorem d23_11 : decode jdk_52_method_21_code 11 = .ok (.iload_n 1, 1) := by decide +kernel
theorem d23_12 : decode jdk_52_method_21_code 12 = .ok (.caload, 1) := by decide +kernel
theorem d23_13 : decode jdk_52_method_21_code 13 = .ok (.istore 6, 2) := by decide +kernel
theorem d23_15 : decode jdk_52_method_21_code 15 = .ok (.iload 6, 2) := by decide +kernel
theorem d23_17 : decode jdk_52_method_21_code 17 = .ok (.sipush 255, 3) := by decide +kernel
theorem d23_20 : decode jdk_52_method_21_code 20 = .ok (.if_icmp .le 6, 3) := by decide +kernel
theorem d23_26 : decode jdk_52_method_21_code 26 = .ok (.aload_n 2, 1) := by decide +kernel
theorem d23_27 : decode jdk_52_method_21_code 27 = .ok (.iload_n 3, 1) := by decide +kernel
theorem d23_28 : decode jdk_52_method_21_code 28 = .ok (.iload 6, 2) := by decide +kernel
theorem d23_30 : decode jdk_52_method_21_code 30 = .ok (.i2b, 1) := by decide +kernel
theorem d23_31 : decode jdk_52_method_21_code 31 = .ok (.bastore, 1) := by decide +kernel
theorem d23_32 : decode jdk_52_method_21_code 32 = .ok (.iinc 1 1, 3) := by decide +kernel
theorem d23_35 : decode jdk_52_method_21_code 35 = .ok (.iinc 3 1, 3) := by decide +kernel
theorem d23_38 : decode jdk_52_method_21_code 38 = .ok (.iinc 5 1, 3) := by decide +kernel
theorem d23_41 : decode jdk_52_method_21_code 41 = .ok (.goto (-38), 3) := by decide +kernel
theorem d23_44 : decode jdk_52_method_21_code 44 = .ok (.iload 4, 2) := by decide +kernel
theorem d23_46 : decode jdk_52_method_21_code 46 = .ok (.ireturn, 1) := by decide +kernel
theorem pn_23 : plainName "java/lang/StringUTF16" = true := by first | (simp [plainName, overriddenIn]; done) | decide +kernel
theorem ef_cmp1 (m : MethodId) (a0 : Addr) (a2 : Addr) : entryFrame m #[(.ref a0), (.int 0), (.ref a2), (.int 0), (.int 1)] 7 = mkF m 0 #[rv a0, iv 0, rv a2, iv 0, iv 1, oU, oU] [] := by first | (simp [entryFrame, mkF, argsToLocals, Value.category]; done) | rfl
def Qcmp1 (Z : State) (a0 : Addr) (a2 : Addr) (kc : ClassId) (kb : ClassId) (ch0 : Int32) (h0 : Heap) (n0 : Nat) (v : Option Value) (h : Heap) (L : List Loc) : Prop := v = some (.int 1) ∧ Fr n0 L ∧ Keep h0 h [a2] ∧ Arv Z h a2 kb .byte (1 : Int32) [(.int (own_byte ch0))] (.int (0 : Int32))
theorem rmcmp1 (l : Launch) (Z : State) (av0 : Array Value) (hw : ∀ d ∈ tables_1, d.before av0 Z = true) (ws : List Jvm.Cond) (a0 : Addr) (a2 : Addr) (kc : ClassId) (kb : ClassId) (ch0 : Int32) (h0 : Heap) (n0 : Nat) (Z0 : n0 ≤ h0.size) (VC : Arv Z h0 a0 kc .char (1 : Int32) [(.int ch0)] (.int (0 : Int32))) (VB : Arv Z h0 a2 kb .byte (1 : Int32) [(.int (0 : Int32))] (.int (0 : Int32))) (g_a2 : n0 ≤ a2) (nea : a0 ≠ a2) (hp0 : ¬ ((255 : Int32) < ch0)) :
    MetFree l own_m24 (head1 (Jvm.Cond.code own_m24 jdk_52_method_21_code 7 (some .int) :: ws) ({ frames := 0, cells := 0, slots := 0, locals := 0 } : Room)) (fun a U => a = #[(.ref a0), (.int 0), (.ref a2), (.int 0), (.int 1)] ∧ Z.Warmed39 U.vm ∧ U.heap = h0) (fun _ _ _ _ _ => True) (fun _ U o U' => ∃ v L, o = .returned v ∧ Qcmp1 Z a0 a2 kc kb ch0 h0 n0 v U'.heap L ∧ FrameEnd U o U' L ({ frames := 0, cells := 0, slots := 0, locals := 0 } : Room).cells ({ frames := 0, cells := 0, slots := 0, locals := 0 } : Room).slots) := by
  refine MetFree.of_bodySF (plainFor_of_name pn_23) hisR ?_
  intro p e s m args below meth c s₁ Bd hml0 hP hK
  obtain ⟨rfl, hZ, hh⟩ := hP
  have hx := Bd.exec
  have hby := Bd.bytes
  have hml : c.maxLocals = 7 := hml0
  have hown : s.vm.findClass "java/lang/StringUTF16" = some m.cls := findClass_of_methodNamed Bd.named
  have X0 : Stand p l e ({ frames := 0, cells := 0, slots := 0, locals := 0 } : Room) s m #[(.ref a0), (.int 0), (.ref a2), (.int 0), (.int 1)] below meth c s₁ [] 0 0 := Stand.of_body Bd
  have e0 : s₁.heap = h0 := by rw [← hh, Bd.state]; rfl
  have N0 := Fr.nil n0
  have K0 : Keep h0 h0 [a2] := Keep.refl h0 [a2]
  refine og (B := s₁.setTop (mkF m 0 #[rv a0, iv 0, rv a2, iv 0, iv 1, oU, oU] [])) (fun t k => castTop (ef_cmp1 m a0 a2) k) ?_
  refine og (B := s₁.setTop (mkF m 7 #[rv a0, iv 0, rv a2, iv 0, iv 1, iv 0, oU] [(.int 1), (.int 0)])) (fun t k => ?_) ?_
  · refine XS.iconst X0.here hx rfl (hb hby d23_0) ?_
    refine XS.istore X0.here hx rfl (hb hby d23_1) rfl (l' := #[rv a0, iv 0, rv a2, iv 0, iv 1, iv 0, oU]) rfl ?_
    refine XS.iload X0.here hx rfl (hb hby d23_3) rfl ?_
    refine XS.iload X0.here hx rfl (hb hby d23_5) rfl ?_
    exact k
  refine og (B := s₁.setTop (mkF m 10 #[rv a0, iv 0, rv a2, iv 0, iv 1, iv 0, oU] [])) (fun t k => ?_) ?_
  · refine XS.icmpNo X0.here hx rfl (hb hby d23_7) rfl (tlt (by decide : (0 : Int32) < (1 : Int32))).2.1 ?_
    exact k
  refine og (B := s₁.setTop (mkF m 12 #[rv a0, iv 0, rv a2, iv 0, iv 1, iv 0, oU] [(.int 0), (.ref a0)])) (fun t k => ?_) ?_
  · refine XS.aloadN X0.here hx rfl (hb hby d23_10) rfl rfl ?_
    refine XS.iloadN X0.here hx rfl (hb hby d23_11) rfl ?_
    exact k
  obtain ⟨cl_1, Ar_1, q_1, S_1, M_1, H_1, G_1⟩ := id VC
  have hin_1 : ¬ ((0 : Int32) < 0 ∨ cl_1.slots.size ≤ ((0 : Int32)).toNatClampNeg) := inb_of S_1 ⟨by decide, by decide⟩
  have hat_1 : cl_1.slots[((0 : Int32)).toNatClampNeg]? = some (.int ch0) := H_1.at hin_1 rfl
  refine og (B := s₁.setTop (mkF m 13 #[rv a0, iv 0, rv a2, iv 0, iv 1, iv 0, oU] [(.int ch0)])) (fun t k => X0.caload hx (j := (0 : Int32)) (v := (.int ch0)) (by rw [(e0 : _ = _)]; exact Ar_1.1) (State.isArrayOf_alike hZ.alike Ar_1.2.1) Ar_1.2.2 hin_1 hat_1 (g := (mkF m 12 #[rv a0, iv 0, rv a2, iv 0, iv 1, iv 0, oU] [(.int 0), (.ref a0)])) rfl rfl (hb hby d23_12) t k) ?_
  refine og (B := s₁.setTop (mkF m 20 #[rv a0, iv 0, rv a2, iv 0, iv 1, iv 0, iv ch0] [(.int 255), (.int ch0)])) (fun t k => ?_) ?_
  · refine XS.istore X0.here hx rfl (hb hby d23_13) rfl (l' := #[rv a0, iv 0, rv a2, iv 0, iv 1, iv 0, iv ch0]) rfl ?_
    refine XS.iload X0.here hx rfl (hb hby d23_15) rfl ?_
    refine XS.sipush X0.here hx rfl (hb hby d23_17) ?_
    exact k
  refine og (B := s₁.setTop (mkF m 26 #[rv a0, iv 0, rv a2, iv 0, iv 1, iv 0, iv ch0] [])) (fun t k => ?_) ?_
  · refine XS.icmpYes X0.here hx rfl (pc0 := 20) (pc' := 26) rfl (hb hby d23_20) rfl (flt hp0).2.2.2 (by decide) (by decide) ?_
    exact k
  refine og (B := s₁.setTop (mkF m 31 #[rv a0, iv 0, rv a2, iv 0, iv 1, iv 0, iv ch0] [(.int (ch0.toInt8.toInt32)), (.int 0), (.ref a2)])) (fun t k => ?_) ?_
  · refine XS.aloadN X0.here hx rfl (hb hby d23_26) rfl rfl ?_
    refine XS.iloadN X0.here hx rfl (hb hby d23_27) rfl ?_
    refine XS.iload X0.here hx rfl (hb hby d23_28) rfl ?_
    refine XS.i2b X0.here hx rfl (hb hby d23_30) rfl ?_
    exact k
  obtain ⟨cl_2, Ar_2, q_2, S_2, M_2, H_2, G_2⟩ := id VB
  have hin_2 : ¬ ((0 : Int32) < 0 ∨ cl_2.slots.size ≤ ((0 : Int32)).toNatClampNeg) := inb_of S_2 ⟨by decide, by decide⟩
  obtain ⟨T_2, h_2, X_2, e_2, W_2, st_2⟩ := stB X0 hx hZ e0 Ar_2 (j := (0 : Int32)) hin_2 (g := (mkF m 31 #[rv a0, iv 0, rv a2, iv 0, iv 1, iv 0, iv ch0] [(.int (ch0.toInt8.toInt32)), (.int 0), (.ref a2)])) rfl rfl (hb hby d23_31)
  have c1 := K0.wr W_2 (Or.inl (List.mem_of_getElem? (i := 0) rfl))
  have c2 := VC.other W_2 nea
  have V_2 : Arv Z h_2 a2 kb .byte (1 : Int32) [(.int (nar .byte (ch0.toInt8.toInt32)))] (.int (0 : Int32)) := Arv.set Ar_2 q_2 S_2 M_2 H_2 G_2 (fits_nar_byte _) W_2 0 rfl (Nat.le_of_ble_eq_true rfl)
  have N_2 := Fr.snoc X_2 N0 g_a2
  have Z0__2 : n0 ≤ h_2.size := by rw [W_2.size]; exact Z0
  refine og (fun t k => st_2 t k) ?_
  refine og (B := T_2.setTop (mkF m 7 #[rv a0, iv 1, rv a2, iv 1, iv 1, iv 1, iv ch0] [(.int 1), (.int 1)])) (fun t k => ?_) ?_
  · refine XS.iinc X_2.here hx rfl (hb hby d23_32) rfl (l' := #[rv a0, iv 1, rv a2, iv 0, iv 1, iv 0, iv ch0]) rfl ?_
    refine XS.iinc X_2.here hx rfl (hb hby d23_35) rfl (l' := #[rv a0, iv 1, rv a2, iv 1, iv 1, iv 0, iv ch0]) rfl ?_
    refine XS.iinc X_2.here hx rfl (hb hby d23_38) rfl (l' := #[rv a0, iv 1, rv a2, iv 1, iv 1, iv 1, iv ch0]) rfl ?_
    refine XS.goto X_2.here hx rfl (pc0 := 41) (pc' := 3) rfl (hb hby d23_41) (by decide) (by decide) ?_
    refine XS.iload X_2.here hx rfl (hb hby d23_3) rfl ?_
    refine XS.iload X_2.here hx rfl (hb hby d23_5) rfl ?_
    exact k
  refine og (B := T_2.setTop (mkF m 44 #[rv a0, iv 1, rv a2, iv 1, iv 1, iv 1, iv ch0] [])) (fun t k => ?_) ?_
  · refine XS.icmpYes X_2.here hx rfl (pc0 := 7) (pc' := 44) rfl (hb hby d23_7) rfl (flt (by decide : ¬ ((1 : Int32) < (1 : Int32)))).2.1 (by decide) (by decide) ?_
    exact k
  refine og (B := T_2.setTop (mkF m 46 #[rv a0, iv 1, rv a2, iv 1, iv 1, iv 1, iv ch0] [(.int 1)])) (fun t k => ?_) ?_
  · refine XS.iload X_2.here hx rfl (hb hby d23_44) rfl ?_
    exact k
  obtain ⟨fs, hr, hrun, hended, hW, hsame⟩ := X_2.leave (v := some (.int 1)) (fun h => by rw [Bd.returns] at h; cases h)
  refine ⟨_, _, ?_, hrun, hended, _, _, rfl, ?_, ⟨_, rfl⟩, hW, hsame.mono (by decide) (by decide)⟩
  · show Steps p.tables e below (T_2.setTop (mkF m 46 #[rv a0, iv 1, rv a2, iv 1, iv 1, iv 1, iv ch0] [(.int 1)])) _
    exact retI X_2 hx Bd.returns (hb hby d23_46) hr
  · show Qcmp1 Z a0 a2 kc kb ch0 h0 n0 _ T_2.heap _
    rw [e_2]
    exact ⟨rfl, N_2, c1, V_2⟩
theorem d22_0 : decode jdk_52_method_16_code 0 = .ok (.iload_n 2, 1) := by decide +kernel
theorem d22_1 : decode jdk_52_method_16_code 1 = .ok (.newarray .byte, 2) := by decide +kernel
theorem d22_3 : decode jdk_52_method_16_code 3 = .ok (.astore_n 3, 1) := by decide +kernel
theorem d22_4 : decode jdk_52_method_16_code 4 = .ok (.aload_n 0, 1) := by decide +kernel
theorem d22_5 : decode jdk_52_method_16_code 5 = .ok (.iload_n 1, 1) := by decide +kernel
theorem d22_6 : decode jdk_52_method_16_code 6 = .ok (.aload_n 3, 1) := by decide +kernel
theorem d22_7 : decode jdk_52_method_16_code 7 = .ok (.iconst 0, 1) := by decide +kernel
theorem d22_8 : decode jdk_52_method_16_code 8 = .ok (.iload_n 2, 1) := by decide +kernel
theorem d22_9 : decode jdk_52_method_16_code 9 = .ok (.invokestatic 115, 3) := by decide +kernel
theorem d22_12 : decode jdk_52_method_16_code 12 = .ok (.istore 4, 2) := by decide +kernel
theorem d22_14 : decode jdk_52_method_16_code 14 = .ok (.iload 4, 2) := by decide +kernel
theorem d22_16 : decode jdk_52_method_16_code 16 = .ok (.iload_n 2, 1) := by decide +kernel
theorem d22_17 : decode jdk_52_method_16_code 17 = .ok (.if_icmp .eq 40, 3) := by decide +kernel
theorem d22_57 : decode jdk_52_method_16_code 57 = .ok (.aload_n 3, 1) := by decide +kernel
theorem d22_58 : decode jdk_52_method_16_code 58 = .ok (.areturn, 1) := by decide +kernel
theorem pn_22 : plainName "java/lang/StringUTF16" = true := by first | (simp [plainName, overriddenIn]; done) | decide +kernel
theorem ef_cpr1 (m : MethodId) (a0 : Addr) : entryFrame m #[(.ref a0), (.int 0), (.int 1)] 6 = mkF m 0 #[rv a0, iv 0, iv 1, oU, oU, oU] [] := by first | (simp [entryFrame, mkF, argsToLocals, Value.category]; done) | rfl
theorem pd_6 : parseMethodDescriptor "([CI[BII)I" = some ⟨[(.array .char), .int, (.array .byte), .int, .int], some .int⟩ := by decide +kernel
def Qcpr1 (Z : State) (a0 : Addr) (kc : ClassId) (ch0 : Int32) (h0 : Heap) (n0 : Nat) (v : Option Value) (h : Heap) (L : List Loc) : Prop := ∃ (b : Addr) (kb : ClassId), v = some (.ref b) ∧ Fr n0 L ∧ Keep h0 h [] ∧ h0.size ≤ b ∧ Arv Z h b kb .byte (1 : Int32) [(.int (own_byte ch0))] (.int (0 : Int32))
theorem rmcpr1 (l : Launch) (Z : State) (av0 : Array Value) (hw : ∀ d ∈ tables_1, d.before av0 Z = true) (ws : List Jvm.Cond) (a0 : Addr) (kc : ClassId) (ch0 : Int32) (h0 : Heap) (n0 : Nat) (Z0 : n0 ≤ h0.size) (VC : Arv Z h0 a0 kc .char (1 : Int32) [(.int ch0)] (.int (0 : Int32))) (hp0 : ¬ ((255 : Int32) < ch0)) :
    MetFree l own_m23 (head1 (Jvm.Cond.code own_m23 jdk_52_method_16_code 6 (some (.array .byte)) :: ws) ({ frames := 1, cells := 1, slots := 1, locals := 18 } : Room)) (fun a U => a = #[(.ref a0), (.int 0), (.int 1)] ∧ Z.Warmed39 U.vm ∧ U.heap = h0) (fun _ _ _ _ _ => True) (fun _ U o U' => ∃ v L, o = .returned v ∧ Qcpr1 Z a0 kc ch0 h0 n0 v U'.heap L ∧ FrameEnd U o U' L ({ frames := 1, cells := 1, slots := 1, locals := 18 } : Room).cells ({ frames := 1, cells := 1, slots := 1, locals := 18 } : Room).slots) := by
  refine MetFree.of_bodySF (plainFor_of_name pn_22) hisR ?_
  intro p e s m args below meth c s₁ Bd hml0 hP hK
  obtain ⟨rfl, hZ, hh⟩ := hP
  have hx := Bd.exec
  have hby := Bd.bytes
  have hml : c.maxLocals = 6 := hml0
  have hown : s.vm.findClass "java/lang/StringUTF16" = some m.cls := findClass_of_methodNamed Bd.named
  have X0 : Stand p l e ({ frames := 1, cells := 1, slots := 1, locals := 18 } : Room) s m #[(.ref a0), (.int 0), (.int 1)] below meth c s₁ [] 0 0 := Stand.of_body Bd
  have e0 : s₁.heap = h0 := by rw [← hh, Bd.state]; rfl
  have N0 := Fr.nil n0
  have K0 : Keep h0 h0 [] := Keep.refl h0 []
  refine og (B := s₁.setTop (mkF m 0 #[rv a0, iv 0, iv 1, oU, oU, oU] [])) (fun t k => castTop (ef_cpr1 m a0) k) ?_
  refine og (B := s₁.setTop (mkF m 1 #[rv a0, iv 0, iv 1, oU, oU, oU] [(.int 1)])) (fun t k => ?_) ?_
  · refine XS.iloadN X0.here hx rfl (hb hby d22_0) rfl ?_
    exact k
  obtain ⟨T_1, h_1, k_1, X_1, e_1, E_1, A_1, st_1⟩ := newP X0 hx hZ (ow hw 20 rfl) e0 (g := (mkF m 1 #[rv a0, iv 0, iv 1, oU, oU, oU] [(.int 1)])) rfl (hb hby d22_1) rfl (by decide) (cap := 1) (by decide) (by decide) (by decide) (by decide)
  obtain ⟨b_1, g_1⟩ : ∃ z, z = h0.size := ⟨_, rfl⟩
  rw [← g_1] at A_1 st_1
  have g_b_1 : n0 ≤ b_1 := Nat.le_trans Z0 (Nat.le_of_eq g_1.symm)
  have sz_b_1 : h0.size ≤ b_1 := Nat.le_trans K0.1 (Nat.le_of_eq g_1.symm)
  have ne_a0_b_1 : a0 ≠ b_1 := Nat.ne_of_lt (Nat.lt_of_lt_of_le (VC).lt (Nat.le_of_eq g_1.symm))
  have c1 := K0.ext E_1
  have c2 := VC.ext E_1
  have Z0__1 : n0 ≤ h_1.size := Nat.le_trans Z0 E_1.1
  have V_b_1 : Arv Z h_1 b_1 k_1 .byte (1 : Int32) [(.int (0 : Int32))] (.int (0 : Int32)) := (Arv.new A_1 (by decide)).pad (pad_rep [] (.int (0 : Int32)) 1)
  refine og (fun t k => st_1 t k) ?_
  refine og (B := T_1.setTop (mkF m 9 #[rv a0, iv 0, iv 1, rv b_1, oU, oU] [(.int 1), (.int 0), (.ref b_1), (.int 0), (.ref a0)])) (fun t k => ?_) ?_
  · refine XS.astoreN X_1.here hx rfl (hb hby d22_3) rfl rfl (l' := #[rv a0, iv 0, iv 1, rv b_1, oU, oU]) rfl ?_
    refine XS.aloadN X_1.here hx rfl (hb hby d22_4) rfl rfl ?_
    refine XS.iloadN X_1.here hx rfl (hb hby d22_5) rfl ?_
    refine XS.aloadN X_1.here hx rfl (hb hby d22_6) rfl rfl ?_
    refine XS.iconst X_1.here hx rfl (hb hby d22_7) ?_
    refine XS.iloadN X_1.here hx rfl (hb hby d22_8) rfl ?_
    exact k
  obtain ⟨_, _, ⟨T_2, L_2, k_2, n_2⟩, -, X_2, ⟨Lc_2, hQ_2, l_2, y_2, z_2⟩, st_2⟩ := Jvm.LawKit.callS X_1 hx (y := own_m24) hown (mvT hZ (ow hw 123 rfl)) (mvT hZ (ow hw 124 rfl)) (mvT hZ (ow hw 121 rfl)) (mvT hZ (ow hw 125 rfl)) (by decide) (backOf (W := 0) (rmcmp1 l Z av0 hw [] a0 b_1 kc k_1 ch0 h_1 n0 Z0__1 c2 V_b_1 g_b_1 ne_a0_b_1 hp0) hZ (ow hw 125 rfl) (ow hw 121 rfl) (by decide) (by decide)) (g := (mkF m 9 #[rv a0, iv 0, iv 1, rv b_1, oU, oU] [(.int 1), (.int 0), (.ref b_1), (.int 0), (.ref a0)])) rfl (by rw [hml]; rfl) (argsL := [(.ref a0), (.int 0), (.ref b_1), (.int 0), (.int 1)]) (rest := []) (lenOf pd_6 rfl) rfl (by show 2 * 0 + _ ≤ _; exact Nat.le_of_eq rfl) (hb hby d22_9) (fun _ _ => ⟨rfl, e_1, (by decide : 1 + 0 ≤ _), (by decide : 1 + 0 ≤ _)⟩)
  dsimp only [Pt.U, Pt.locs, Pt.cells, Pt.slots] at X_2 l_2 y_2 z_2 st_2 hQ_2
  subst l_2 y_2 z_2
  obtain ⟨rfl, N_2q, K_2, VN_2⟩ := hQ_2
  have N_2 := Fr.app N0 N_2q
  have c3 := c1.trans K_2 (allS (Or.inr sz_b_1) all0)
  have c4 := c2.keep K_2 (ninS ne_a0_b_1 nin0)
  have Z0__2 : n0 ≤ T_2.heap.size := Nat.le_trans Z0__1 K_2.1
  refine og (fun t k => st_2 t k) ?_
  refine og (B := T_2.setTop (mkF m 17 #[rv a0, iv 0, iv 1, rv b_1, iv 1, oU] [(.int 1), (.int 1)])) (fun t k => ?_) ?_
  · refine XS.istore X_2.here hx rfl (hb hby d22_12) rfl (l' := #[rv a0, iv 0, iv 1, rv b_1, iv 1, oU]) rfl ?_
    refine XS.iload X_2.here hx rfl (hb hby d22_14) rfl ?_
    refine XS.iloadN X_2.here hx rfl (hb hby d22_16) rfl ?_
    exact k
  refine og (B := T_2.setTop (mkF m 57 #[rv a0, iv 0, iv 1, rv b_1, iv 1, oU] [])) (fun t k => ?_) ?_
  · refine XS.icmpYes X_2.here hx rfl (pc0 := 17) (pc' := 57) rfl (hb hby d22_17) rfl (teq (by decide : (1 : Int32) = (1 : Int32))).1 (by decide) (by decide) ?_
    exact k
  refine og (B := T_2.setTop (mkF m 58 #[rv a0, iv 0, iv 1, rv b_1, iv 1, oU] [(.ref b_1)])) (fun t k => ?_) ?_
  · refine XS.aloadN X_2.here hx rfl (hb hby d22_57) rfl rfl ?_
    exact k
  obtain ⟨fs, hr, hrun, hended, hW, hsame⟩ := X_2.leave (v := some (.ref b_1)) (fun h => by rw [Bd.returns] at h; cases h)
  refine ⟨_, _, ?_, hrun, hended, _, _, rfl, ?_, ⟨_, rfl⟩, hW, hsame.mono (by decide) (by decide)⟩
  · show Steps p.tables e below (T_2.setTop (mkF m 58 #[rv a0, iv 0, iv 1, rv b_1, iv 1, oU] [(.ref b_1)])) _
    jvm_step X_2.here [X_2.here.top, hx, (hb hby d22_58), X_2.method', Bd.returns, Value.isRef, FieldType.isReference]
    first | (intro acts; rw [hr _ acts rfl rfl rfl]) | rw [hr _ _ rfl rfl rfl]
    exact Steps.refl _
  · show Qcpr1 Z a0 kc ch0 h0 n0 _ T_2.heap _
    exact ⟨b_1, k_1, rfl, N_2, c3, sz_b_1, VN_2⟩
theorem ef_cmp2 (m : MethodId) (a0 : Addr) (a2 : Addr) : entryFrame m #[(.ref a0), (.int 0), (.ref a2), (.int 0), (.int 2)] 7 = mkF m 0 #[rv a0, iv 0, rv a2, iv 0, iv 2, oU, oU] [] := by first | (simp [entryFrame, mkF, argsToLocals, Value.category]; done) | rfl
def Qcmp2 (Z : State) (a0 : Addr) (a2 : Addr) (kc : ClassId) (kb : ClassId) (ch0 : Int32) (ch1 : Int32) (h0 : Heap) (n0 : Nat) (v : Option Value) (h : Heap) (L : List Loc) : Prop := v = some (.int 2) ∧ Fr n0 L ∧ Keep h0 h [a2] ∧ Arv Z h a2 kb .byte (2 : Int32) [(.int (own_byte ch0)), (.int (own_byte ch1))] (.int (0 : Int32))
theorem rmcmp2 (l : Launch) (Z : State) (av0 : Array Value) (hw : ∀ d ∈ tables_1, d.before av0 Z = true) (ws : List Jvm.Cond) (a0 : Addr) (a2 : Addr) (kc : ClassId) (kb : ClassId) (ch0 : Int32) (ch1 : Int32) (h0 : Heap) (n0 : Nat) (Z0 : n0 ≤ h0.size) (VC : Arv Z h0 a0 kc .char (2 : Int32) [(.int ch0), (.int ch1)] (.int (0 : Int32))) (VB : Arv Z h0 a2 kb .byte (2 : Int32) [(.int (0 : Int32)), (.int (0 : Int32))] (.int (0 : Int32))) (g_a2 : n0 ≤ a2) (nea : a0 ≠ a2) (hp0 : ¬ ((255 : Int32) < ch0)) (hp1 : ¬ ((255 : Int32) < ch1)) :
    MetFree l own_m24 (head1 (Jvm.Cond.code own_m24 jdk_52_method_21_code 7 (some .int) :: ws) ({ frames := 0, cells := 0, slots := 0, locals := 0 } : Room)) (fun a U => a = #[(.ref a0), (.int 0), (.ref a2), (.int 0), (.int 2)] ∧ Z.Warmed39 U.vm ∧ U.heap = h0) (fun _ _ _ _ _ => True) (fun _ U o U' => ∃ v L, o = .returned v ∧ Qcmp2 Z a0 a2 kc kb ch0 ch1 h0 n0 v U'.heap L ∧ FrameEnd U o U' L ({ frames := 0, cells := 0, slots := 0, locals := 0 } : Room).cells ({ frames := 0, cells := 0, slots := 0, locals := 0 } : Room).slots) := by
  refine MetFree.of_bodySF (plainFor_of_name pn_23) hisR ?_
  intro p e s m args below meth c s₁ Bd hml0 hP hK
  obtain ⟨rfl, hZ, hh⟩ := hP
  have hx := Bd.exec
  have hby := Bd.bytes
  have hml : c.maxLocals = 7 := hml0
  have hown : s.vm.findClass "java/lang/StringUTF16" = some m.cls := findClass_of_methodNamed Bd.named
  have X0 : Stand p l e ({ frames := 0, cells := 0, slots := 0, locals := 0 } : Room) s m #[(.ref a0), (.int 0), (.ref a2), (.int 0), (.int 2)] below meth c s₁ [] 0 0 := Stand.of_body Bd
  have e0 : s₁.heap = h0 := by rw [← hh, Bd.state]; rfl
  have N0 := Fr.nil n0
  have K0 : Keep h0 h0 [a2] := Keep.refl h0 [a2]
  refine og (B := s₁.setTop (mkF m 0 #[rv a0, iv 0, rv a2, iv 0, iv 2, oU, oU] [])) (fun t k => castTop (ef_cmp2 m a0 a2) k) ?_
  refine og (B := s₁.setTop (mkF m 7 #[rv a0, iv 0, rv a2, iv 0, iv 2, iv 0, oU] [(.int 2), (.int 0)])) (fun t k => ?_) ?_
  · refine XS.iconst X0.here hx rfl (hb hby d23_0) ?_
    refine XS.istore X0.here hx rfl (hb hby d23_1) rfl (l' := #[rv a0, iv 0, rv a2, iv 0, iv 2, iv 0, oU]) rfl ?_
    refine XS.iload X0.here hx rfl (hb hby d23_3) rfl ?_
    refine XS.iload X0.here hx rfl (hb hby d23_5) rfl ?_
    exact k
  refine og (B := s₁.setTop (mkF m 10 #[rv a0, iv 0, rv a2, iv 0, iv 2, iv 0, oU] [])) (fun t k => ?_) ?_
  · refine XS.icmpNo X0.here hx rfl (hb hby d23_7) rfl (tlt (by decide : (0 : Int32) < (2 : Int32))).2.1 ?_
    exact k
  refine og (B := s₁.setTop (mkF m 12 #[rv a0, iv 0, rv a2, iv 0, iv 2, iv 0, oU] [(.int 0), (.ref a0)])) (fun t k => ?_) ?_
  · refine XS.aloadN X0.here hx rfl (hb hby d23_10) rfl rfl ?_
    refine XS.iloadN X0.here hx rfl (hb hby d23_11) rfl ?_
    exact k
  obtain ⟨cl_1, Ar_1, q_1, S_1, M_1, H_1, G_1⟩ := id VC
  have hin_1 : ¬ ((0 : Int32) < 0 ∨ cl_1.slots.size ≤ ((0 : Int32)).toNatClampNeg) := inb_of S_1 ⟨by decide, by decide⟩
  have hat_1 : cl_1.slots[((0 : Int32)).toNatClampNeg]? = some (.int ch0) := H_1.at hin_1 rfl
  refine og (B := s₁.setTop (mkF m 13 #[rv a0, iv 0, rv a2, iv 0, iv 2, iv 0, oU] [(.int ch0)])) (fun t k => X0.caload hx (j := (0 : Int32)) (v := (.int ch0)) (by rw [(e0 : _ = _)]; exact Ar_1.1) (State.isArrayOf_alike hZ.alike Ar_1.2.1) Ar_1.2.2 hin_1 hat_1 (g := (mkF m 12 #[rv a0, iv 0, rv a2, iv 0, iv 2, iv 0, oU] [(.int 0), (.ref a0)])) rfl rfl (hb hby d23_12) t k) ?_
  refine og (B := s₁.setTop (mkF m 20 #[rv a0, iv 0, rv a2, iv 0, iv 2, iv 0, iv ch0] [(.int 255), (.int ch0)])) (fun t k => ?_) ?_
  · refine XS.istore X0.here hx rfl (hb hby d23_13) rfl (l' := #[rv a0, iv 0, rv a2, iv 0, iv 2, iv 0, iv ch0]) rfl ?_
    refine XS.iload X0.here hx rfl (hb hby d23_15) rfl ?_
    refine XS.sipush X0.here hx rfl (hb hby d23_17) ?_
    exact k
  refine og (B := s₁.setTop (mkF m 26 #[rv a0, iv 0, rv a2, iv 0, iv 2, iv 0, iv ch0] [])) (fun t k => ?_) ?_
  · refine XS.icmpYes X0.here hx rfl (pc0 := 20) (pc' := 26) rfl (hb hby d23_20) rfl (flt hp0).2.2.2 (by decide) (by decide) ?_
    exact k
  refine og (B := s₁.setTop (mkF m 31 #[rv a0, iv 0, rv a2, iv 0, iv 2, iv 0, iv ch0] [(.int (ch0.toInt8.toInt32)), (.int 0), (.ref a2)])) (fun t k => ?_) ?_
  · refine XS.aloadN X0.here hx rfl (hb hby d23_26) rfl rfl ?_
    refine XS.iloadN X0.here hx rfl (hb hby d23_27) rfl ?_
    refine XS.iload X0.here hx rfl (hb hby d23_28) rfl ?_
    refine XS.i2b X0.here hx rfl (hb hby d23_30) rfl ?_
    exact k
  obtain ⟨cl_2, Ar_2, q_2, S_2, M_2, H_2, G_2⟩ := id VB
  have hin_2 : ¬ ((0 : Int32) < 0 ∨ cl_2.slots.size ≤ ((0 : Int32)).toNatClampNeg) := inb_of S_2 ⟨by decide, by decide⟩
  obtain ⟨T_2, h_2, X_2, e_2, W_2, st_2⟩ := stB X0 hx hZ e0 Ar_2 (j := (0 : Int32)) hin_2 (g := (mkF m 31 #[rv a0, iv 0, rv a2, iv 0, iv 2, iv 0, iv ch0] [(.int (ch0.toInt8.toInt32)), (.int 0), (.ref a2)])) rfl rfl (hb hby d23_31)
  have c1 := K0.wr W_2 (Or.inl (List.mem_of_getElem? (i := 0) rfl))
  have c2 := VC.other W_2 nea
  have V_2 : Arv Z h_2 a2 kb .byte (2 : Int32) [(.int (nar .byte (ch0.toInt8.toInt32))), (.int 0)] (.int (0 : Int32)) := Arv.set Ar_2 q_2 S_2 M_2 H_2 G_2 (fits_nar_byte _) W_2 0 rfl (Nat.le_of_ble_eq_true rfl)
  have N_2 := Fr.snoc X_2 N0 g_a2
  have Z0__2 : n0 ≤ h_2.size := by rw [W_2.size]; exact Z0
  refine og (fun t k => st_2 t k) ?_
  refine og (B := T_2.setTop (mkF m 7 #[rv a0, iv 1, rv a2, iv 1, iv 2, iv 1, iv ch0] [(.int 2), (.int 1)])) (fun t k => ?_) ?_
  · refine XS.iinc X_2.here hx rfl (hb hby d23_32) rfl (l' := #[rv a0, iv 1, rv a2, iv 0, iv 2, iv 0, iv ch0]) rfl ?_
    refine XS.iinc X_2.here hx rfl (hb hby d23_35) rfl (l' := #[rv a0, iv 1, rv a2, iv 1, iv 2, iv 0, iv ch0]) rfl ?_
    refine XS.iinc X_2.here hx rfl (hb hby d23_38) rfl (l' := #[rv a0, iv 1, rv a2, iv 1, iv 2, iv 1, iv ch0]) rfl ?_
    refine XS.goto X_2.here hx rfl (pc0 := 41) (pc' := 3) rfl (hb hby d23_41) (by decide) (by decide) ?_
    refine XS.iload X_2.here hx rfl (hb hby d23_3) rfl ?_
    refine XS.iload X_2.here hx rfl (hb hby d23_5) rfl ?_
    exact k
  refine og (B := T_2.setTop (mkF m 10 #[rv a0, iv 1, rv a2, iv 1, iv 2, iv 1, iv ch0] [])) (fun t k => ?_) ?_
  · refine XS.icmpNo X_2.here hx rfl (hb hby d23_7) rfl (tlt (by decide : (1 : Int32) < (2 : Int32))).2.1 ?_
    exact k
  refine og (B := T_2.setTop (mkF m 12 #[rv a0, iv 1, rv a2, iv 1, iv 2, iv 1, iv ch0] [(.int 1), (.ref a0)])) (fun t k => ?_) ?_
  · refine XS.aloadN X_2.here hx rfl (hb hby d23_10) rfl rfl ?_
    refine XS.iloadN X_2.here hx rfl (hb hby d23_11) rfl ?_
    exact k
  obtain ⟨cl_3, Ar_3, q_3, S_3, M_3, H_3, G_3⟩ := id c2
  have hin_3 : ¬ ((1 : Int32) < 0 ∨ cl_3.slots.size ≤ ((1 : Int32)).toNatClampNeg) := inb_of S_3 ⟨by decide, by decide⟩
  have hat_3 : cl_3.slots[((1 : Int32)).toNatClampNeg]? = some (.int ch1) := H_3.at hin_3 rfl
  refine og (B := T_2.setTop (mkF m 13 #[rv a0, iv 1, rv a2, iv 1, iv 2, iv 1, iv ch0] [(.int ch1)])) (fun t k => X_2.caload hx (j := (1 : Int32)) (v := (.int ch1)) (by rw [(e_2 : _ = _)]; exact Ar_3.1) (State.isArrayOf_alike hZ.alike Ar_3.2.1) Ar_3.2.2 hin_3 hat_3 (g := (mkF m 12 #[rv a0, iv 1, rv a2, iv 1, iv 2, iv 1, iv ch0] [(.int 1), (.ref a0)])) rfl rfl (hb hby d23_12) t k) ?_
  refine og (B := T_2.setTop (mkF m 20 #[rv a0, iv 1, rv a2, iv 1, iv 2, iv 1, iv ch1] [(.int 255), (.int ch1)])) (fun t k => ?_) ?_
  · refine XS.istore X_2.here hx rfl (hb hby d23_13) rfl (l' := #[rv a0, iv 1, rv a2, iv 1, iv 2, iv 1, iv ch1]) rfl ?_
    refine XS.iload X_2.here hx rfl (hb hby d23_15) rfl ?_
    refine XS.sipush X_2.here hx rfl (hb hby d23_17) ?_
    exact k
  refine og (B := T_2.setTop (mkF m 26 #[rv a0, iv 1, rv a2, iv 1, iv 2, iv 1, iv ch1] [])) (fun t k => ?_) ?_
  · refine XS.icmpYes X_2.here hx rfl (pc0 := 20) (pc' := 26) rfl (hb hby d23_20) rfl (flt hp1).2.2.2 (by decide) (by decide) ?_
    exact k
  refine og (B := T_2.setTop (mkF m 31 #[rv a0, iv 1, rv a2, iv 1, iv 2, iv 1, iv ch1] [(.int (ch1.toInt8.toInt32)), (.int 1), (.ref a2)])) (fun t k => ?_) ?_
  · refine XS.aloadN X_2.here hx rfl (hb hby d23_26) rfl rfl ?_
    refine XS.iloadN X_2.here hx rfl (hb hby d23_27) rfl ?_
    refine XS.iload X_2.here hx rfl (hb hby d23_28) rfl ?_
    refine XS.i2b X_2.here hx rfl (hb hby d23_30) rfl ?_
    exact k
  obtain ⟨cl_4, Ar_4, q_4, S_4, M_4, H_4, G_4⟩ := id V_2
  have hin_4 : ¬ ((1 : Int32) < 0 ∨ cl_4.slots.size ≤ ((1 : Int32)).toNatClampNeg) := inb_of S_4 ⟨by decide, by decide⟩
  obtain ⟨T_4, h_4, X_4, e_4, W_4, st_4⟩ := stB X_2 hx hZ e_2 Ar_4 (j := (1 : Int32)) hin_4 (g := (mkF m 31 #[rv a0, iv 1, rv a2, iv 1, iv 2, iv 1, iv ch1] [(.int (ch1.toInt8.toInt32)), (.int 1), (.ref a2)])) rfl rfl (hb hby d23_31)
  have c3 := c1.wr W_4 (Or.inl (List.mem_of_getElem? (i := 0) rfl))
  have c4 := c2.other W_4 nea
  have V_4 : Arv Z h_4 a2 kb .byte (2 : Int32) [(.int (nar .byte (ch0.toInt8.toInt32))), (.int (nar .byte (ch1.toInt8.toInt32)))] (.int (0 : Int32)) := Arv.set Ar_4 q_4 S_4 M_4 H_4 G_4 (fits_nar_byte _) W_4 1 rfl (Nat.le_of_ble_eq_true rfl)
  have N_4 := Fr.snoc X_4 N_2 g_a2
  have Z0__4 : n0 ≤ h_4.size := by rw [W_4.size]; exact Z0__2
  refine og (fun t k => st_4 t k) ?_
  refine og (B := T_4.setTop (mkF m 7 #[rv a0, iv 2, rv a2, iv 2, iv 2, iv 2, iv ch1] [(.int 2), (.int 2)])) (fun t k => ?_) ?_
  · refine XS.iinc X_4.here hx rfl (hb hby d23_32) rfl (l' := #[rv a0, iv 2, rv a2, iv 1, iv 2, iv 1, iv ch1]) rfl ?_
    refine XS.iinc X_4.here hx rfl (hb hby d23_35) rfl (l' := #[rv a0, iv 2, rv a2, iv 2, iv 2, iv 1, iv ch1]) rfl ?_
    refine XS.iinc X_4.here hx rfl (hb hby d23_38) rfl (l' := #[rv a0, iv 2, rv a2, iv 2, iv 2, iv 2, iv ch1]) rfl ?_
    refine XS.goto X_4.here hx rfl (pc0 := 41) (pc' := 3) rfl (hb hby d23_41) (by decide) (by decide) ?_
    refine XS.iload X_4.here hx rfl (hb hby d23_3) rfl ?_
    refine XS.iload X_4.here hx rfl (hb hby d23_5) rfl ?_
    exact k
  refine og (B := T_4.setTop (mkF m 44 #[rv a0, iv 2, rv a2, iv 2, iv 2, iv 2, iv ch1] [])) (fun t k => ?_) ?_
  · refine XS.icmpYes X_4.here hx rfl (pc0 := 7) (pc' := 44) rfl (hb hby d23_7) rfl (flt (by decide : ¬ ((2 : Int32) < (2 : Int32)))).2.1 (by decide) (by decide) ?_
    exact k
  refine og (B := T_4.setTop (mkF m 46 #[rv a0, iv 2, rv a2, iv 2, iv 2, iv 2, iv ch1] [(.int 2)])) (fun t k => ?_) ?_
  · refine XS.iload X_4.here hx rfl (hb hby d23_44) rfl ?_
    exact k
  obtain ⟨fs, hr, hrun, hended, hW, hsame⟩ := X_4.leave (v := some (.int 2)) (fun h => by rw [Bd.returns] at h; cases h)
  refine ⟨_, _, ?_, hrun, hended, _, _, rfl, ?_, ⟨_, rfl⟩, hW, hsame.mono (by decide) (by decide)⟩
  · show Steps p.tables e below (T_4.setTop (mkF m 46 #[rv a0, iv 2, rv a2, iv 2, iv 2, iv 2, iv ch1] [(.int 2)])) _
    exact retI X_4 hx Bd.returns (hb hby d23_46) hr
  · show Qcmp2 Z a0 a2 kc kb ch0 ch1 h0 n0 _ T_4.heap _
    rw [e_4]
    exact ⟨rfl, N_4, c3, V_4⟩
theorem ef_cpr2 (m : MethodId) (a0 : Addr) : entryFrame m #[(.ref a0), (.int 0), (.int 2)] 6 = mkF m 0 #[rv a0, iv 0, iv 2, oU, oU, oU] [] := by first | (simp [entryFrame, mkF, argsToLocals, Value.category]; done) | rfl
def Qcpr2 (Z : State) (a0 : Addr) (kc : ClassId) (ch0 : Int32) (ch1 : Int32) (h0 : Heap) (n0 : Nat) (v : Option Value) (h : Heap) (L : List Loc) : Prop := ∃ (b : Addr) (kb : ClassId), v = some (.ref b) ∧ Fr n0 L ∧ Keep h0 h [] ∧ h0.size ≤ b ∧ Arv Z h b kb .byte (2 : Int32) [(.int (own_byte ch0)), (.int (own_byte ch1))] (.int (0 : Int32))
theorem rmcpr2 (l : Launch) (Z : State) (av0 : Array Value) (hw : ∀ d ∈ tables_1, d.before av0 Z = true) (ws : List Jvm.Cond) (a0 : Addr) (kc : ClassId) (ch0 : Int32) (ch1 : Int32) (h0 : Heap) (n0 : Nat) (Z0 : n0 ≤ h0.size) (VC : Arv Z h0 a0 kc .char (2 : Int32) [(.int ch0), (.int ch1)] (.int (0 : Int32))) (hp0 : ¬ ((255 : Int32) < ch0)) (hp1 : ¬ ((255 : Int32) < ch1)) :
    MetFree l own_m23 (head1 (Jvm.Cond.code own_m23 jdk_52_method_16_code 6 (some (.array .byte)) :: ws) ({ frames := 1, cells := 1, slots := 2, locals := 18 } : Room)) (fun a U => a = #[(.ref a0), (.int 0), (.int 2)] ∧ Z.Warmed39 U.vm ∧ U.heap = h0) (fun _ _ _ _ _ => True) (fun _ U o U' => ∃ v L, o = .returned v ∧ Qcpr2 Z a0 kc ch0 ch1 h0 n0 v U'.heap L ∧ FrameEnd U o U' L ({ frames := 1, cells := 1, slots := 2, locals := 18 } : Room).cells ({ frames := 1, cells := 1, slots := 2, locals := 18 } : Room).slots) := by
  refine MetFree.of_bodySF (plainFor_of_name pn_22) hisR ?_
  intro p e s m args below meth c s₁ Bd hml0 hP hK
  obtain ⟨rfl, hZ, hh⟩ := hP
  have hx := Bd.exec
  have hby := Bd.bytes
  have hml : c.maxLocals = 6 := hml0
  have hown : s.vm.findClass "java/lang/StringUTF16" = some m.cls := findClass_of_methodNamed Bd.named
  have X0 : Stand p l e ({ frames := 1, cells := 1, slots := 2, locals := 18 } : Room) s m #[(.ref a0), (.int 0), (.int 2)] below meth c s₁ [] 0 0 := Stand.of_body Bd
  have e0 : s₁.heap = h0 := by rw [← hh, Bd.state]; rfl
  have N0 := Fr.nil n0
  have K0 : Keep h0 h0 [] := Keep.refl h0 []
  refine og (B := s₁.setTop (mkF m 0 #[rv a0, iv 0, iv 2, oU, oU, oU] [])) (fun t k => castTop (ef_cpr2 m a0) k) ?_
  refine og (B := s₁.setTop (mkF m 1 #[rv a0, iv 0, iv 2, oU, oU, oU] [(.int 2)])) (fun t k => ?_) ?_
  · refine XS.iloadN X0.here hx rfl (hb hby d22_0) rfl ?_
    exact k
  obtain ⟨T_1, h_1, k_1, X_1, e_1, E_1, A_1, st_1⟩ := newP X0 hx hZ (ow hw 20 rfl) e0 (g := (mkF m 1 #[rv a0, iv 0, iv 2, oU, oU, oU] [(.int 2)])) rfl (hb hby d22_1) rfl (by decide) (cap := 2) (by decide) (by decide) (by decide) (by decide)
  obtain ⟨b_1, g_1⟩ : ∃ z, z = h0.size := ⟨_, rfl⟩
  rw [← g_1] at A_1 st_1
  have g_b_1 : n0 ≤ b_1 := Nat.le_trans Z0 (Nat.le_of_eq g_1.symm)
  have sz_b_1 : h0.size ≤ b_1 := Nat.le_trans K0.1 (Nat.le_of_eq g_1.symm)
  have ne_a0_b_1 : a0 ≠ b_1 := Nat.ne_of_lt (Nat.lt_of_lt_of_le (VC).lt (Nat.le_of_eq g_1.symm))
  have c1 := K0.ext E_1
  have c2 := VC.ext E_1
  have Z0__1 : n0 ≤ h_1.size := Nat.le_trans Z0 E_1.1
  have V_b_1 : Arv Z h_1 b_1 k_1 .byte (2 : Int32) [(.int (0 : Int32)), (.int (0 : Int32))] (.int (0 : Int32)) := (Arv.new A_1 (by decide)).pad (pad_rep [] (.int (0 : Int32)) 2)
  refine og (fun t k => st_1 t k) ?_
  refine og (B := T_1.setTop (mkF m 9 #[rv a0, iv 0, iv 2, rv b_1, oU, oU] [(.int 2), (.int 0), (.ref b_1), (.int 0), (.ref a0)])) (fun t k => ?_) ?_
  · refine XS.astoreN X_1.here hx rfl (hb hby d22_3) rfl rfl (l' := #[rv a0, iv 0, iv 2, rv b_1, oU, oU]) rfl ?_
    refine XS.aloadN X_1.here hx rfl (hb hby d22_4) rfl rfl ?_
    refine XS.iloadN X_1.here hx rfl (hb hby d22_5) rfl ?_
    refine XS.aloadN X_1.here hx rfl (hb hby d22_6) rfl rfl ?_
    refine XS.iconst X_1.here hx rfl (hb hby d22_7) ?_
    refine XS.iloadN X_1.here hx rfl (hb hby d22_8) rfl ?_
    exact k
  obtain ⟨_, _, ⟨T_2, L_2, k_2, n_2⟩, -, X_2, ⟨Lc_2, hQ_2, l_2, y_2, z_2⟩, st_2⟩ := Jvm.LawKit.callS X_1 hx (y := own_m24) hown (mvT hZ (ow hw 123 rfl)) (mvT hZ (ow hw 124 rfl)) (mvT hZ (ow hw 121 rfl)) (mvT hZ (ow hw 125 rfl)) (by decide) (backOf (W := 0) (rmcmp2 l Z av0 hw [] a0 b_1 kc k_1 ch0 ch1 h_1 n0 Z0__1 c2 V_b_1 g_b_1 ne_a0_b_1 hp0 hp1) hZ (ow hw 125 rfl) (ow hw 121 rfl) (by decide) (by decide)) (g := (mkF m 9 #[rv a0, iv 0, iv 2, rv b_1, oU, oU] [(.int 2), (.int 0), (.ref b_1), (.int 0), (.ref a0)])) rfl (by rw [hml]; rfl) (argsL := [(.ref a0), (.int 0), (.ref b_1), (.int 0), (.int 2)]) (rest := []) (lenOf pd_6 rfl) rfl (by show 2 * 0 + _ ≤ _; exact Nat.le_of_eq rfl) (hb hby d22_9) (fun _ _ => ⟨rfl, e_1, (by decide : 1 + 0 ≤ _), (by decide : 2 + 0 ≤ _)⟩)
  dsimp only [Pt.U, Pt.locs, Pt.cells, Pt.slots] at X_2 l_2 y_2 z_2 st_2 hQ_2
  subst l_2 y_2 z_2
  obtain ⟨rfl, N_2q, K_2, VN_2⟩ := hQ_2
  have N_2 := Fr.app N0 N_2q
  have c3 := c1.trans K_2 (allS (Or.inr sz_b_1) all0)
  have c4 := c2.keep K_2 (ninS ne_a0_b_1 nin0)
  have Z0__2 : n0 ≤ T_2.heap.size := Nat.le_trans Z0__1 K_2.1
  refine og (fun t k => st_2 t k) ?_
  refine og (B := T_2.setTop (mkF m 17 #[rv a0, iv 0, iv 2, rv b_1, iv 2, oU] [(.int 2), (.int 2)])) (fun t k => ?_) ?_
  · refine XS.istore X_2.here hx rfl (hb hby d22_12) rfl (l' := #[rv a0, iv 0, iv 2, rv b_1, iv 2, oU]) rfl ?_
    refine XS.iload X_2.here hx rfl (hb hby d22_14) rfl ?_
    refine XS.iloadN X_2.here hx rfl (hb hby d22_16) rfl ?_
    exact k
  refine og (B := T_2.setTop (mkF m 57 #[rv a0, iv 0, iv 2, rv b_1, iv 2, oU] [])) (fun t k => ?_) ?_
  · refine XS.icmpYes X_2.here hx rfl (pc0 := 17) (pc' := 57) rfl (hb hby d22_17) rfl (teq (by decide : (2 : Int32) = (2 : Int32))).1 (by decide) (by decide) ?_
    exact k
  refine og (B := T_2.setTop (mkF m 58 #[rv a0, iv 0, iv 2, rv b_1, iv 2, oU] [(.ref b_1)])) (fun t k => ?_) ?_
  · refine XS.aloadN X_2.here hx rfl (hb hby d22_57) rfl rfl ?_
    exact k
  obtain ⟨fs, hr, hrun, hended, hW, hsame⟩ := X_2.leave (v := some (.ref b_1)) (fun h => by rw [Bd.returns] at h; cases h)
  refine ⟨_, _, ?_, hrun, hended, _, _, rfl, ?_, ⟨_, rfl⟩, hW, hsame.mono (by decide) (by decide)⟩
  · show Steps p.tables e below (T_2.setTop (mkF m 58 #[rv a0, iv 0, iv 2, rv b_1, iv 2, oU] [(.ref b_1)])) _
    jvm_step X_2.here [X_2.here.top, hx, (hb hby d22_58), X_2.method', Bd.returns, Value.isRef, FieldType.isReference]
    first | (intro acts; rw [hr _ acts rfl rfl rfl]) | rw [hr _ _ rfl rfl rfl]
    exact Steps.refl _
  · show Qcpr2 Z a0 kc ch0 ch1 h0 n0 _ T_2.heap _
    exact ⟨b_1, k_1, rfl, N_2, c3, sz_b_1, VN_2⟩
theorem ef_cmp3 (m : MethodId) (a0 : Addr) (a2 : Addr) : entryFrame m #[(.ref a0), (.int 0), (.ref a2), (.int 0), (.int 3)] 7 = mkF m 0 #[rv a0, iv 0, rv a2, iv 0, iv 3, oU, oU] [] := by first | (simp [entryFrame, mkF, argsToLocals, Value.category]; done) | rfl
def Qcmp3 (Z : State) (a0 : Addr) (a2 : Addr) (kc : ClassId) (kb : ClassId) (ch0 : Int32) (ch1 : Int32) (ch2 : Int32) (h0 : Heap) (n0 : Nat) (v : Option Value) (h : Heap) (L : List Loc) : Prop := v = some (.int 3) ∧ Fr n0 L ∧ Keep h0 h [a2] ∧ Arv Z h a2 kb .byte (3 : Int32) [(.int (own_byte ch0)), (.int (own_byte ch1)), (.int (own_byte ch2))] (.int (0 : Int32))
theorem rmcmp3 (l : Launch) (Z : State) (av0 : Array Value) (hw : ∀ d ∈ tables_1, d.before av0 Z = true) (ws : List Jvm.Cond) (a0 : Addr) (a2 : Addr) (kc : ClassId) (kb : ClassId) (ch0 : Int32) (ch1 : Int32) (ch2 : Int32) (h0 : Heap) (n0 : Nat) (Z0 : n0 ≤ h0.size) (VC : Arv Z h0 a0 kc .char (3 : Int32) [(.int ch0), (.int ch1), (.int ch2)] (.int (0 : Int32))) (VB : Arv Z h0 a2 kb .byte (3 : Int32) [(.int (0 : Int32)), (.int (0 : Int32)), (.int (0 : Int32))] (.int (0 : Int32))) (g_a2 : n0 ≤ a2) (nea : a0 ≠ a2) (hp0 : ¬ ((255 : Int32) < ch0)) (hp1 : ¬ ((255 : Int32) < ch1)) (hp2 : ¬ ((255 : Int32) < ch2)) :
    MetFree l own_m24 (head1 (Jvm.Cond.code own_m24 jdk_52_method_21_code 7 (some .int) :: ws) ({ frames := 0, cells := 0, slots := 0, locals := 0 } : Room)) (fun a U => a = #[(.ref a0), (.int 0), (.ref a2), (.int 0), (.int 3)] ∧ Z.Warmed39 U.vm ∧ U.heap = h0) (fun _ _ _ _ _ => True) (fun _ U o U' => ∃ v L, o = .returned v ∧ Qcmp3 Z a0 a2 kc kb ch0 ch1 ch2 h0 n0 v U'.heap L ∧ FrameEnd U o U' L ({ frames := 0, cells := 0, slots := 0, locals := 0 } : Room).cells ({ frames := 0, cells := 0, slots := 0, locals := 0 } : Room).slots) := by
  refine MetFree.of_bodySF (plainFor_of_name pn_23) hisR ?_
  intro p e s m args below meth c s₁ Bd hml0 hP hK
  obtain ⟨rfl, hZ, hh⟩ := hP
  have hx := Bd.exec
  have hby := Bd.bytes
  have hml : c.maxLocals = 7 := hml0
  have hown : s.vm.findClass "java/lang/StringUTF16" = some m.cls := findClass_of_methodNamed Bd.named
  have X0 : Stand p l e ({ frames := 0, cells := 0, slots := 0, locals := 0 } : Room) s m #[(.ref a0), (.int 0), (.ref a2), (.int 0), (.int 3)] below meth c s₁ [] 0 0 := Stand.of_body Bd
  have e0 : s₁.heap = h0 := by rw [← hh, Bd.state]; rfl
  have N0 := Fr.nil n0
  have K0 : Keep h0 h0 [a2] := Keep.refl h0 [a2]
  refine og (B := s₁.setTop (mkF m 0 #[rv a0, iv 0, rv a2, iv 0, iv 3, oU, oU] [])) (fun t k => castTop (ef_cmp3 m a0 a2) k) ?_
  refine og (B := s₁.setTop (mkF m 7 #[rv a0, iv 0, rv a2, iv 0, iv 3, iv 0, oU] [(.int 3), (.int 0)])) (fun t k => ?_) ?_
  · refine XS.iconst X0.here hx rfl (hb hby d23_0) ?_
    refine XS.istore X0.here hx rfl (hb hby d23_1) rfl (l' := #[rv a0, iv 0, rv a2, iv 0, iv 3, iv 0, oU]) rfl ?_
    refine XS.iload X0.here hx rfl (hb hby d23_3) rfl ?_
    refine XS.iload X0.here hx rfl (hb hby d23_5) rfl ?_
    exact k
  refine og (B := s₁.setTop (mkF m 10 #[rv a0, iv 0, rv a2, iv 0, iv 3, iv 0, oU] [])) (fun t k => ?_) ?_
  · refine XS.icmpNo X0.here hx rfl (hb hby d23_7) rfl (tlt (by decide : (0 : Int32) < (3 : Int32))).2.1 ?_
    exact k
  refine og (B := s₁.setTop (mkF m 12 #[rv a0, iv 0, rv a2, iv 0, iv 3, iv 0, oU] [(.int 0), (.ref a0)])) (fun t k => ?_) ?_
  · refine XS.aloadN X0.here hx rfl (hb hby d23_10) rfl rfl ?_
    refine XS.iloadN X0.here hx rfl (hb hby d23_11) rfl ?_
    exact k
  obtain ⟨cl_1, Ar_1, q_1, S_1, M_1, H_1, G_1⟩ := id VC
  have hin_1 : ¬ ((0 : Int32) < 0 ∨ cl_1.slots.size ≤ ((0 : Int32)).toNatClampNeg) := inb_of S_1 ⟨by decide, by decide⟩
  have hat_1 : cl_1.slots[((0 : Int32)).toNatClampNeg]? = some (.int ch0) := H_1.at hin_1 rfl
  refine og (B := s₁.setTop (mkF m 13 #[rv a0, iv 0, rv a2, iv 0, iv 3, iv 0, oU] [(.int ch0)])) (fun t k => X0.caload hx (j := (0 : Int32)) (v := (.int ch0)) (by rw [(e0 : _ = _)]; exact Ar_1.1) (State.isArrayOf_alike hZ.alike Ar_1.2.1) Ar_1.2.2 hin_1 hat_1 (g := (mkF m 12 #[rv a0, iv 0, rv a2, iv 0, iv 3, iv 0, oU] [(.int 0), (.ref a0)])) rfl rfl (hb hby d23_12) t k) ?_
  refine og (B := s₁.setTop (mkF m 20 #[rv a0, iv 0, rv a2, iv 0, iv 3, iv 0, iv ch0] [(.int 255), (.int ch0)])) (fun t k => ?_) ?_
  · refine XS.istore X0.here hx rfl (hb hby d23_13) rfl (l' := #[rv a0, iv 0, rv a2, iv 0, iv 3, iv 0, iv ch0]) rfl ?_
    refine XS.iload X0.here hx rfl (hb hby d23_15) rfl ?_
    refine XS.sipush X0.here hx rfl (hb hby d23_17) ?_
    exact k
  refine og (B := s₁.setTop (mkF m 26 #[rv a0, iv 0, rv a2, iv 0, iv 3, iv 0, iv ch0] [])) (fun t k => ?_) ?_
  · refine XS.icmpYes X0.here hx rfl (pc0 := 20) (pc' := 26) rfl (hb hby d23_20) rfl (flt hp0).2.2.2 (by decide) (by decide) ?_
    exact k
  refine og (B := s₁.setTop (mkF m 31 #[rv a0, iv 0, rv a2, iv 0, iv 3, iv 0, iv ch0] [(.int (ch0.toInt8.toInt32)), (.int 0), (.ref a2)])) (fun t k => ?_) ?_
  · refine XS.aloadN X0.here hx rfl (hb hby d23_26) rfl rfl ?_
    refine XS.iloadN X0.here hx rfl (hb hby d23_27) rfl ?_
    refine XS.iload X0.here hx rfl (hb hby d23_28) rfl ?_
    refine XS.i2b X0.here hx rfl (hb hby d23_30) rfl ?_
    exact k
  obtain ⟨cl_2, Ar_2, q_2, S_2, M_2, H_2, G_2⟩ := id VB
  have hin_2 : ¬ ((0 : Int32) < 0 ∨ cl_2.slots.size ≤ ((0 : Int32)).toNatClampNeg) := inb_of S_2 ⟨by decide, by decide⟩
  obtain ⟨T_2, h_2, X_2, e_2, W_2, st_2⟩ := stB X0 hx hZ e0 Ar_2 (j := (0 : Int32)) hin_2 (g := (mkF m 31 #[rv a0, iv 0, rv a2, iv 0, iv 3, iv 0, iv ch0] [(.int (ch0.toInt8.toInt32)), (.int 0), (.ref a2)])) rfl rfl (hb hby d23_31)
  have c1 := K0.wr W_2 (Or.inl (List.mem_of_getElem? (i := 0) rfl))
  have c2 := VC.other W_2 nea
  have V_2 : Arv Z h_2 a2 kb .byte (3 : Int32) [(.int (nar .byte (ch0.toInt8.toInt32))), (.int 0), (.int 0)] (.int (0 : Int32)) := Arv.set Ar_2 q_2 S_2 M_2 H_2 G_2 (fits_nar_byte _) W_2 0 rfl (Nat.le_of_ble_eq_true rfl)
  have N_2 := Fr.snoc X_2 N0 g_a2
  have Z0__2 : n0 ≤ h_2.size := by rw [W_2.size]; exact Z0
  refine og (fun t k => st_2 t k) ?_
  refine og (B := T_2.setTop (mkF m 7 #[rv a0, iv 1, rv a2, iv 1, iv 3, iv 1, iv ch0] [(.int 3), (.int 1)])) (fun t k => ?_) ?_
  · refine XS.iinc X_2.here hx rfl (hb hby d23_32) rfl (l' := #[rv a0, iv 1, rv a2, iv 0, iv 3, iv 0, iv ch0]) rfl ?_
    refine XS.iinc X_2.here hx rfl (hb hby d23_35) rfl (l' := #[rv a0, iv 1, rv a2, iv 1, iv 3, iv 0, iv ch0]) rfl ?_
    refine XS.iinc X_2.here hx rfl (hb hby d23_38) rfl (l' := #[rv a0, iv 1, rv a2, iv 1, iv 3, iv 1, iv ch0]) rfl ?_
    refine XS.goto X_2.here hx rfl (pc0 := 41) (pc' := 3) rfl (hb hby d23_41) (by decide) (by decide) ?_
    refine XS.iload X_2.here hx rfl (hb hby d23_3) rfl ?_
    refine XS.iload X_2.here hx rfl (hb hby d23_5) rfl ?_
    exact k
  refine og (B := T_2.setTop (mkF m 10 #[rv a0, iv 1, rv a2, iv 1, iv 3, iv 1, iv ch0] [])) (fun t k => ?_) ?_
  · refine XS.icmpNo X_2.here hx rfl (hb hby d23_7) rfl (tlt (by decide : (1 : Int32) < (3 : Int32))).2.1 ?_
    exact k
  refine og (B := T_2.setTop (mkF m 12 #[rv a0, iv 1, rv a2, iv 1, iv 3, iv 1, iv ch0] [(.int 1), (.ref a0)])) (fun t k => ?_) ?_
  · refine XS.aloadN X_2.here hx rfl (hb hby d23_10) rfl rfl ?_
    refine XS.iloadN X_2.here hx rfl (hb hby d23_11) rfl ?_
    exact k
  obtain ⟨cl_3, Ar_3, q_3, S_3, M_3, H_3, G_3⟩ := id c2
  have hin_3 : ¬ ((1 : Int32) < 0 ∨ cl_3.slots.size ≤ ((1 : Int32)).toNatClampNeg) := inb_of S_3 ⟨by decide, by decide⟩
  have hat_3 : cl_3.slots[((1 : Int32)).toNatClampNeg]? = some (.int ch1) := H_3.at hin_3 rfl
  refine og (B := T_2.setTop (mkF m 13 #[rv a0, iv 1, rv a2, iv 1, iv 3, iv 1, iv ch0] [(.int ch1)])) (fun t k => X_2.caload hx (j := (1 : Int32)) (v := (.int ch1)) (by rw [(e_2 : _ = _)]; exact Ar_3.1) (State.isArrayOf_alike hZ.alike Ar_3.2.1) Ar_3.2.2 hin_3 hat_3 (g := (mkF m 12 #[rv a0, iv 1, rv a2, iv 1, iv 3, iv 1, iv ch0] [(.int 1), (.ref a0)])) rfl rfl (hb hby d23_12) t k) ?_
  refine og (B := T_2.setTop (mkF m 20 #[rv a0, iv 1, rv a2, iv 1, iv 3, iv 1, iv ch1] [(.int 255), (.int ch1)])) (fun t k => ?_) ?_
  · refine XS.istore X_2.here hx rfl (hb hby d23_13) rfl (l' := #[rv a0, iv 1, rv a2, iv 1, iv 3, iv 1, iv ch1]) rfl ?_
    refine XS.iload X_2.here hx rfl (hb hby d23_15) rfl ?_
    refine XS.sipush X_2.here hx rfl (hb hby d23_17) ?_
    exact k
  refine og (B := T_2.setTop (mkF m 26 #[rv a0, iv 1, rv a2, iv 1, iv 3, iv 1, iv ch1] [])) (fun t k => ?_) ?_
  · refine XS.icmpYes X_2.here hx rfl (pc0 := 20) (pc' := 26) rfl (hb hby d23_20) rfl (flt hp1).2.2.2 (by decide) (by decide) ?_
    exact k
  refine og (B := T_2.setTop (mkF m 31 #[rv a0, iv 1, rv a2, iv 1, iv 3, iv 1, iv ch1] [(.int (ch1.toInt8.toInt32)), (.int 1), (.ref a2)])) (fun t k => ?_) ?_
  · refine XS.aloadN X_2.here hx rfl (hb hby d23_26) rfl rfl ?_
    refine XS.iloadN X_2.here hx rfl (hb hby d23_27) rfl ?_
    refine XS.iload X_2.here hx rfl (hb hby d23_28) rfl ?_
    refine XS.i2b X_2.here hx rfl (hb hby d23_30) rfl ?_
    exact k
  obtain ⟨cl_4, Ar_4, q_4, S_4, M_4, H_4, G_4⟩ := id V_2
  have hin_4 : ¬ ((1 : Int32) < 0 ∨ cl_4.slots.size ≤ ((1 : Int32)).toNatClampNeg) := inb_of S_4 ⟨by decide, by decide⟩
  obtain ⟨T_4, h_4, X_4, e_4, W_4, st_4⟩ := stB X_2 hx hZ e_2 Ar_4 (j := (1 : Int32)) hin_4 (g := (mkF m 31 #[rv a0, iv 1, rv a2, iv 1, iv 3, iv 1, iv ch1] [(.int (ch1.toInt8.toInt32)), (.int 1), (.ref a2)])) rfl rfl (hb hby d23_31)
  have c3 := c1.wr W_4 (Or.inl (List.mem_of_getElem? (i := 0) rfl))
  have c4 := c2.other W_4 nea
  have V_4 : Arv Z h_4 a2 kb .byte (3 : Int32) [(.int (nar .byte (ch0.toInt8.toInt32))), (.int (nar .byte (ch1.toInt8.toInt32))), (.int 0)] (.int (0 : Int32)) := Arv.set Ar_4 q_4 S_4 M_4 H_4 G_4 (fits_nar_byte _) W_4 1 rfl (Nat.le_of_ble_eq_true rfl)
  have N_4 := Fr.snoc X_4 N_2 g_a2
  have Z0__4 : n0 ≤ h_4.size := by rw [W_4.size]; exact Z0__2
  refine og (fun t k => st_4 t k) ?_
  refine og (B := T_4.setTop (mkF m 7 #[rv a0, iv 2, rv a2, iv 2, iv 3, iv 2, iv ch1] [(.int 3), (.int 2)])) (fun t k => ?_) ?_
  · refine XS.iinc X_4.here hx rfl (hb hby d23_32) rfl (l' := #[rv a0, iv 2, rv a2, iv 1, iv 3, iv 1, iv ch1]) rfl ?_
    refine XS.iinc X_4.here hx rfl (hb hby d23_35) rfl (l' := #[rv a0, iv 2, rv a2, iv 2, iv 3, iv 1, iv ch1]) rfl ?_
    refine XS.iinc X_4.here hx rfl (hb hby d23_38) rfl (l' := #[rv a0, iv 2, rv a2, iv 2, iv 3, iv 2, iv ch1]) rfl ?_
    refine XS.goto X_4.here hx rfl (pc0 := 41) (pc' := 3) rfl (hb hby d23_41) (by decide) (by decide) ?_
    refine XS.iload X_4.here hx rfl (hb hby d23_3) rfl ?_
    refine XS.iload X_4.here hx rfl (hb hby d23_5) rfl ?_
    exact k
  refine og (B := T_4.setTop (mkF m 10 #[rv a0, iv 2, rv a2, iv 2, iv 3, iv 2, iv ch1] [])) (fun t k => ?_) ?_
  · refine XS.icmpNo X_4.here hx rfl (hb hby d23_7) rfl (tlt (by decide : (2 : Int32) < (3 : Int32))).2.1 ?_
    exact k
  refine og (B := T_4.setTop (mkF m 12 #[rv a0, iv 2, rv a2, iv 2, iv 3, iv 2, iv ch1] [(.int 2), (.ref a0)])) (fun t k => ?_) ?_
  · refine XS.aloadN X_4.here hx rfl (hb hby d23_10) rfl rfl ?_
    refine XS.iloadN X_4.here hx rfl (hb hby d23_11) rfl ?_
    exact k
  obtain ⟨cl_5, Ar_5, q_5, S_5, M_5, H_5, G_5⟩ := id c4
  have hin_5 : ¬ ((2 : Int32) < 0 ∨ cl_5.slots.size ≤ ((2 : Int32)).toNatClampNeg) := inb_of S_5 ⟨by decide, by decide⟩
  have hat_5 : cl_5.slots[((2 : Int32)).toNatClampNeg]? = some (.int ch2) := H_5.at hin_5 rfl
  refine og (B := T_4.setTop (mkF m 13 #[rv a0, iv 2, rv a2, iv 2, iv 3, iv 2, iv ch1] [(.int ch2)])) (fun t k => X_4.caload hx (j := (2 : Int32)) (v := (.int ch2)) (by rw [(e_4 : _ = _)]; exact Ar_5.1) (State.isArrayOf_alike hZ.alike Ar_5.2.1) Ar_5.2.2 hin_5 hat_5 (g := (mkF m 12 #[rv a0, iv 2, rv a2, iv 2, iv 3, iv 2, iv ch1] [(.int 2), (.ref a0)])) rfl rfl (hb hby d23_12) t k) ?_
  refine og (B := T_4.setTop (mkF m 20 #[rv a0, iv 2, rv a2, iv 2, iv 3, iv 2, iv ch2] [(.int 255), (.int ch2)])) (fun t k => ?_) ?_
  · refine XS.istore X_4.here hx rfl (hb hby d23_13) rfl (l' := #[rv a0, iv 2, rv a2, iv 2, iv 3, iv 2, iv ch2]) rfl ?_
    refine XS.iload X_4.here hx rfl (hb hby d23_15) rfl ?_
    refine XS.sipush X_4.here hx rfl (hb hby d23_17) ?_
    exact k
  refine og (B := T_4.setTop (mkF m 26 #[rv a0, iv 2, rv a2, iv 2, iv 3, iv 2, iv ch2] [])) (fun t k => ?_) ?_
  · refine XS.icmpYes X_4.here hx rfl (pc0 := 20) (pc' := 26) rfl (hb hby d23_20) rfl (flt hp2).2.2.2 (by decide) (by decide) ?_
    exact k
  refine og (B := T_4.setTop (mkF m 31 #[rv a0, iv 2, rv a2, iv 2, iv 3, iv 2, iv ch2] [(.int (ch2.toInt8.toInt32)), (.int 2), (.ref a2)])) (fun t k => ?_) ?_
  · refine XS.aloadN X_4.here hx rfl (hb hby d23_26) rfl rfl ?_
    refine XS.iloadN X_4.here hx rfl (hb hby d23_27) rfl ?_
    refine XS.iload X_4.here hx rfl (hb hby d23_28) rfl ?_
    refine XS.i2b X_4.here hx rfl (hb hby d23_30) rfl ?_
    exact k
  obtain ⟨cl_6, Ar_6, q_6, S_6, M_6, H_6, G_6⟩ := id V_4
  have hin_6 : ¬ ((2 : Int32) < 0 ∨ cl_6.slots.size ≤ ((2 : Int32)).toNatClampNeg) := inb_of S_6 ⟨by decide, by decide⟩
  obtain ⟨T_6, h_6, X_6, e_6, W_6, st_6⟩ := stB X_4 hx hZ e_4 Ar_6 (j := (2 : Int32)) hin_6 (g := (mkF m 31 #[rv a0, iv 2, rv a2, iv 2, iv 3, iv 2, iv ch2] [(.int (ch2.toInt8.toInt32)), (.int 2), (.ref a2)])) rfl rfl (hb hby d23_31)
  have c5 := c3.wr W_6 (Or.inl (List.mem_of_getElem? (i := 0) rfl))
  have c6 := c4.other W_6 nea
  have V_6 : Arv Z h_6 a2 kb .byte (3 : Int32) [(.int (nar .byte (ch0.toInt8.toInt32))), (.int (nar .byte (ch1.toInt8.toInt32))), (.int (nar .byte (ch2.toInt8.toInt32)))] (.int (0 : Int32)) := Arv.set Ar_6 q_6 S_6 M_6 H_6 G_6 (fits_nar_byte _) W_6 2 rfl (Nat.le_of_ble_eq_true rfl)
  have N_6 := Fr.snoc X_6 N_4 g_a2
  have Z0__6 : n0 ≤ h_6.size := by rw [W_6.size]; exact Z0__4
  refine og (fun t k => st_6 t k) ?_
  refine og (B := T_6.setTop (mkF m 7 #[rv a0, iv 3, rv a2, iv 3, iv 3, iv 3, iv ch2] [(.int 3), (.int 3)])) (fun t k => ?_) ?_
  · refine XS.iinc X_6.here hx rfl (hb hby d23_32) rfl (l' := #[rv a0, iv 3, rv a2, iv 2, iv 3, iv 2, iv ch2]) rfl ?_
    refine XS.iinc X_6.here hx rfl (hb hby d23_35) rfl (l' := #[rv a0, iv 3, rv a2, iv 3, iv 3, iv 2, iv ch2]) rfl ?_
    refine XS.iinc X_6.here hx rfl (hb hby d23_38) rfl (l' := #[rv a0, iv 3, rv a2, iv 3, iv 3, iv 3, iv ch2]) rfl ?_
    refine XS.goto X_6.here hx rfl (pc0 := 41) (pc' := 3) rfl (hb hby d23_41) (by decide) (by decide) ?_
    refine XS.iload X_6.here hx rfl (hb hby d23_3) rfl ?_
    refine XS.iload X_6.here hx rfl (hb hby d23_5) rfl ?_
    exact k
  refine og (B := T_6.setTop (mkF m 44 #[rv a0, iv 3, rv a2, iv 3, iv 3, iv 3, iv ch2] [])) (fun t k => ?_) ?_
  · refine XS.icmpYes X_6.here hx rfl (pc0 := 7) (pc' := 44) rfl (hb hby d23_7) rfl (flt (by decide : ¬ ((3 : Int32) < (3 : Int32)))).2.1 (by decide) (by decide) ?_
    exact k
  refine og (B := T_6.setTop (mkF m 46 #[rv a0, iv 3, rv a2, iv 3, iv 3, iv 3, iv ch2] [(.int 3)])) (fun t k => ?_) ?_
  · refine XS.iload X_6.here hx rfl (hb hby d23_44) rfl ?_
    exact k
  obtain ⟨fs, hr, hrun, hended, hW, hsame⟩ := X_6.leave (v := some (.int 3)) (fun h => by rw [Bd.returns] at h; cases h)
  refine ⟨_, _, ?_, hrun, hended, _, _, rfl, ?_, ⟨_, rfl⟩, hW, hsame.mono (by decide) (by decide)⟩
  · show Steps p.tables e below (T_6.setTop (mkF m 46 #[rv a0, iv 3, rv a2, iv 3, iv 3, iv 3, iv ch2] [(.int 3)])) _
    exact retI X_6 hx Bd.returns (hb hby d23_46) hr
  · show Qcmp3 Z a0 a2 kc kb ch0 ch1 ch2 h0 n0 _ T_6.heap _
    rw [e_6]
    exact ⟨rfl, N_6, c5, V_6⟩
theorem ef_cpr3 (m : MethodId) (a0 : Addr) : entryFrame m #[(.ref a0), (.int 0), (.int 3)] 6 = mkF m 0 #[rv a0, iv 0, iv 3, oU, oU, oU] [] := by first | (simp [entryFrame, mkF, argsToLocals, Value.category]; done) | rfl
def Qcpr3 (Z : State) (a0 : Addr) (kc : ClassId) (ch0 : Int32) (ch1 : Int32) (ch2 : Int32) (h0 : Heap) (n0 : Nat) (v : Option Value) (h : Heap) (L : List Loc) : Prop := ∃ (b : Addr) (kb : ClassId), v = some (.ref b) ∧ Fr n0 L ∧ Keep h0 h [] ∧ h0.size ≤ b ∧ Arv Z h b kb .byte (3 : Int32) [(.int (own_byte ch0)), (.int (own_byte ch1)), (.int (own_byte ch2))] (.int (0 : Int32))
theorem rmcpr3 (l : Launch) (Z : State) (av0 : Array Value) (hw : ∀ d ∈ tables_1, d.before av0 Z = true) (ws : List Jvm.Cond) (a0 : Addr) (kc : ClassId) (ch0 : Int32) (ch1 : Int32) (ch2 : Int32) (h0 : Heap) (n0 : Nat) (Z0 : n0 ≤ h0.size) (VC : Arv Z h0 a0 kc .char (3 : Int32) [(.int ch0), (.int ch1), (.int ch2)] (.int (0 : Int32))) (hp0 : ¬ ((255 : Int32) < ch0)) (hp1 : ¬ ((255 : Int32) < ch1)) (hp2 : ¬ ((255 : Int32) < ch2)) :
    MetFree l own_m23 (head1 (Jvm.Cond.code own_m23 jdk_52_method_16_code 6 (some (.array .byte)) :: ws) ({ frames := 1, cells := 1, slots := 3, locals := 18 } : Room)) (fun a U => a = #[(.ref a0), (.int 0), (.int 3)] ∧ Z.Warmed39 U.vm ∧ U.heap = h0) (fun _ _ _ _ _ => True) (fun _ U o U' => ∃ v L, o = .returned v ∧ Qcpr3 Z a0 kc ch0 ch1 ch2 h0 n0 v U'.heap L ∧ FrameEnd U o U' L ({ frames := 1, cells := 1, slots := 3, locals := 18 } : Room).cells ({ frames := 1, cells := 1, slots := 3, locals := 18 } : Room).slots) := by
  refine MetFree.of_bodySF (plainFor_of_name pn_22) hisR ?_
  intro p e s m args below meth c s₁ Bd hml0 hP hK
  obtain ⟨rfl, hZ, hh⟩ := hP
  have hx := Bd.exec
  have hby := Bd.bytes
  have hml : c.maxLocals = 6 := hml0
  have hown : s.vm.findClass "java/lang/StringUTF16" = some m.cls := findClass_of_methodNamed Bd.named
  have X0 : Stand p l e ({ frames := 1, cells := 1, slots := 3, locals := 18 } : Room) s m #[(.ref a0), (.int 0), (.int 3)] below meth c s₁ [] 0 0 := Stand.of_body Bd
  have e0 : s₁.heap = h0 := by rw [← hh, Bd.state]; rfl
  have N0 := Fr.nil n0
  have K0 : Keep h0 h0 [] := Keep.refl h0 []
  refine og (B := s₁.setTop (mkF m 0 #[rv a0, iv 0, iv 3, oU, oU, oU] [])) (fun t k => castTop (ef_cpr3 m a0) k) ?_
  refine og (B := s₁.setTop (mkF m 1 #[rv a0, iv 0, iv 3, oU, oU, oU] [(.int 3)])) (fun t k => ?_) ?_
  · refine XS.iloadN X0.here hx rfl (hb hby d22_0) rfl ?_
    exact k
  obtain ⟨T_1, h_1, k_1, X_1, e_1, E_1, A_1, st_1⟩ := newP X0 hx hZ (ow hw 20 rfl) e0 (g := (mkF m 1 #[rv a0, iv 0, iv 3, oU, oU, oU] [(.int 3)])) rfl (hb hby d22_1) rfl (by decide) (cap := 3) (by decide) (by decide) (by decide) (by decide)
  obtain ⟨b_1, g_1⟩ : ∃ z, z = h0.size := ⟨_, rfl⟩
  rw [← g_1] at A_1 st_1
  have g_b_1 : n0 ≤ b_1 := Nat.le_trans Z0 (Nat.le_of_eq g_1.symm)
  have sz_b_1 : h0.size ≤ b_1 := Nat.le_trans K0.1 (Nat.le_of_eq g_1.symm)
  have ne_a0_b_1 : a0 ≠ b_1 := Nat.ne_of_lt (Nat.lt_of_lt_of_le (VC).lt (Nat.le_of_eq g_1.symm))
  have c1 := K0.ext E_1
  have c2 := VC.ext E_1
  have Z0__1 : n0 ≤ h_1.size := Nat.le_trans Z0 E_1.1
  have V_b_1 : Arv Z h_1 b_1 k_1 .byte (3 : Int32) [(.int (0 : Int32)), (.int (0 : Int32)), (.int (0 : Int32))] (.int (0 : Int32)) := (Arv.new A_1 (by decide)).pad (pad_rep [] (.int (0 : Int32)) 3)
  refine og (fun t k => st_1 t k) ?_
  refine og (B := T_1.setTop (mkF m 9 #[rv a0, iv 0, iv 3, rv b_1, oU, oU] [(.int 3), (.int 0), (.ref b_1), (.int 0), (.ref a0)])) (fun t k => ?_) ?_
  · refine XS.astoreN X_1.here hx rfl (hb hby d22_3) rfl rfl (l' := #[rv a0, iv 0, iv 3, rv b_1, oU, oU]) rfl ?_
    refine XS.aloadN X_1.here hx rfl (hb hby d22_4) rfl rfl ?_
    refine XS.iloadN X_1.here hx rfl (hb hby d22_5) rfl ?_
    refine XS.aloadN X_1.here hx rfl (hb hby d22_6) rfl rfl ?_
    refine XS.iconst X_1.here hx rfl (hb hby d22_7) ?_
    refine XS.iloadN X_1.here hx rfl (hb hby d22_8) rfl ?_
    exact k
  obtain ⟨_, _, ⟨T_2, L_2, k_2, n_2⟩, -, X_2, ⟨Lc_2, hQ_2, l_2, y_2, z_2⟩, st_2⟩ := Jvm.LawKit.callS X_1 hx (y := own_m24) hown (mvT hZ (ow hw 123 rfl)) (mvT hZ (ow hw 124 rfl)) (mvT hZ (ow hw 121 rfl)) (mvT hZ (ow hw 125 rfl)) (by decide) (backOf (W := 0) (rmcmp3 l Z av0 hw [] a0 b_1 kc k_1 ch0 ch1 ch2 h_1 n0 Z0__1 c2 V_b_1 g_b_1 ne_a0_b_1 hp0 hp1 hp2) hZ (ow hw 125 rfl) (ow hw 121 rfl) (by decide) (by decide)) (g := (mkF m 9 #[rv a0, iv 0, iv 3, rv b_1, oU, oU] [(.int 3), (.int 0), (.ref b_1), (.int 0), (.ref a0)])) rfl (by rw [hml]; rfl) (argsL := [(.ref a0), (.int 0), (.ref b_1), (.int 0), (.int 3)]) (rest := []) (lenOf pd_6 rfl) rfl (by show 2 * 0 + _ ≤ _; exact Nat.le_of_eq rfl) (hb hby d22_9) (fun _ _ => ⟨rfl, e_1, (by decide : 1 + 0 ≤ _), (by decide : 3 + 0 ≤ _)⟩)
  dsimp only [Pt.U, Pt.locs, Pt.cells, Pt.slots] at X_2 l_2 y_2 z_2 st_2 hQ_2
  subst l_2 y_2 z_2
  obtain ⟨rfl, N_2q, K_2, VN_2⟩ := hQ_2
  have N_2 := Fr.app N0 N_2q
  have c3 := c1.trans K_2 (allS (Or.inr sz_b_1) all0)
  have c4 := c2.keep K_2 (ninS ne_a0_b_1 nin0)
  have Z0__2 : n0 ≤ T_2.heap.size := Nat.le_trans Z0__1 K_2.1
  refine og (fun t k => st_2 t k) ?_
  refine og (B := T_2.setTop (mkF m 17 #[rv a0, iv 0, iv 3, rv b_1, iv 3, oU] [(.int 3), (.int 3)])) (fun t k => ?_) ?_
  · refine XS.istore X_2.here hx rfl (hb hby d22_12) rfl (l' := #[rv a0, iv 0, iv 3, rv b_1, iv 3, oU]) rfl ?_
    refine XS.iload X_2.here hx rfl (hb hby d22_14) rfl ?_
    refine XS.iloadN X_2.here hx rfl (hb hby d22_16) rfl ?_
    exact k
  refine og (B := T_2.setTop (mkF m 57 #[rv a0, iv 0, iv 3, rv b_1, iv 3, oU] [])) (fun t k => ?_) ?_
  · refine XS.icmpYes X_2.here hx rfl (pc0 := 17) (pc' := 57) rfl (hb hby d22_17) rfl (teq (by decide : (3 : Int32) = (3 : Int32))).1 (by decide) (by decide) ?_
    exact k
  refine og (B := T_2.setTop (mkF m 58 #[rv a0, iv 0, iv 3, rv b_1, iv 3, oU] [(.ref b_1)])) (fun t k => ?_) ?_
  · refine XS.aloadN X_2.here hx rfl (hb hby d22_57) rfl rfl ?_
    exact k
  obtain ⟨fs, hr, hrun, hended, hW, hsame⟩ := X_2.leave (v := some (.ref b_1)) (fun h => by rw [Bd.returns] at h; cases h)
  refine ⟨_, _, ?_, hrun, hended, _, _, rfl, ?_, ⟨_, rfl⟩, hW, hsame.mono (by decide) (by decide)⟩
  · show Steps p.tables e below (T_2.setTop (mkF m 58 #[rv a0, iv 0, iv 3, rv b_1, iv 3, oU] [(.ref b_1)])) _
    jvm_step X_2.here [X_2.here.top, hx, (hb hby d22_58), X_2.method', Bd.returns, Value.isRef, FieldType.isReference]
    first | (intro acts; rw [hr _ acts rfl rfl rfl]) | rw [hr _ _ rfl rfl rfl]
    exact Steps.refl _
  · show Qcpr3 Z a0 kc ch0 ch1 ch2 h0 n0 _ T_2.heap _
    exact ⟨b_1, k_1, rfl, N_2, c3, sz_b_1, VN_2⟩
theorem d24_0 : decode jdk_52_method_15_code 0 = .ok (.iload_n 1, 1) := by decide +kernel
theorem d24_1 : decode jdk_52_method_15_code 1 = .ok (.aload_n 0, 1) := by decide +kernel
theorem d24_2 : decode jdk_52_method_15_code 2 = .ok (.arraylength, 1) := by decide +kernel
theorem d24_3 : decode jdk_52_method_15_code 3 = .ok (.isub, 1) := by decide +kernel
theorem d24_4 : decode jdk_52_method_15_code 4 = .ok (.bipush 31, 2) := by decide +kernel
theorem d24_6 : decode jdk_52_method_15_code 6 = .ok (.iushr, 1) := by decide +kernel
theorem d24_7 : decode jdk_52_method_15_code 7 = .ok (.i2b, 1) := by decide +kernel
theorem d24_8 : decode jdk_52_method_15_code 8 = .ok (.ireturn, 1) := by decide +kernel
theorem pn_24 : plainName "java/lang/StringUTF16" = true := by first | (simp [plainName, overriddenIn]; done) | decide +kernel
theorem ef_cfa1 (m : MethodId) (a0 : Addr) : entryFrame m #[(.ref a0), (.int 1)] 2 = mkF m 0 #[rv a0, iv 1] [] := by first | (simp [entryFrame, mkF, argsToLocals, Value.category]; done) | rfl
def Qcfa1 (Z : State) (a0 : Addr) (kb : ClassId) (vs : List Value) (h0 : Heap) (n0 : Nat) (v : Option Value) (h : Heap) (L : List Loc) : Prop := v = some (.int 0) ∧ Fr n0 L ∧ h = h0
theorem rmcfa1 (l : Launch) (Z : State) (av0 : Array Value) (hw : ∀ d ∈ tables_1, d.before av0 Z = true) (ws : List Jvm.Cond) (a0 : Addr) (kb : ClassId) (vs : List Value) (h0 : Heap) (n0 : Nat) (Z0 : n0 ≤ h0.size) (V0 : Arv Z h0 a0 kb .byte (1 : Int32) vs (.int (0 : Int32))) :
    MetFree l own_m25 (head1 (Jvm.Cond.code own_m25 jdk_52_method_15_code 2 (some .byte) :: ws) ({ frames := 0, cells := 0, slots := 0, locals := 0 } : Room)) (fun a U => a = #[(.ref a0), (.int 1)] ∧ Z.Warmed39 U.vm ∧ U.heap = h0) (fun _ _ _ _ _ => True) (fun _ U o U' => ∃ v L, o = .returned v ∧ Qcfa1 Z a0 kb vs h0 n0 v U'.heap L ∧ FrameEnd U o U' L ({ frames := 0, cells := 0, slots := 0, locals := 0 } : Room).cells ({ frames := 0, cells := 0, slots := 0, locals := 0 } : Room).slots) := by
  refine MetFree.of_bodySF (plainFor_of_name pn_24) hisR ?_
  intro p e s m args below meth c s₁ Bd hml0 hP hK
  obtain ⟨rfl, hZ, hh⟩ := hP
  have hx := Bd.exec
  have hby := Bd.bytes
  have hml : c.maxLocals = 2 := hml0
  have hown : s.vm.findClass "java/lang/StringUTF16" = some m.cls := findClass_of_methodNamed Bd.named
  have X0 : Stand p l e ({ frames := 0, cells := 0, slots := 0, locals := 0 } : Room) s m #[(.ref a0), (.int 1)] below meth c s₁ [] 0 0 := Stand.of_body Bd
  have e0 : s₁.heap = h0 := by rw [← hh, Bd.state]; rfl
  have N0 := Fr.nil n0
  have K0 : Keep h0 h0 [] := Keep.refl h0 []
  refine og (B := s₁.setTop (mkF m 0 #[rv a0, iv 1] [])) (fun t k => castTop (ef_cfa1 m a0) k) ?_
  refine og (B := s₁.setTop (mkF m 2 #[rv a0, iv 1] [(.ref a0), (.int 1)])) (fun t k => ?_) ?_
  · refine XS.iloadN X0.here hx rfl (hb hby d24_0) rfl ?_
    refine XS.aloadN X0.here hx rfl (hb hby d24_1) rfl rfl ?_
    exact k
  obtain ⟨cl_1, Ar_1, -, S_1, M_1, -, -⟩ := id V0
  refine og (B := s₁.setTop (mkF m 3 #[rv a0, iv 1] [(.int 1), (.int 1)])) (fun t k => X0.arraylength hx (by rw [(e0 : _ = _)]; exact Ar_1.1) (State.isArrayOf_alike hZ.alike Ar_1.2.1) (g := (mkF m 2 #[rv a0, iv 1] [(.ref a0), (.int 1)])) rfl rfl (hb hby d24_2) t (by rw [len_of S_1 M_1]; exact k)) ?_
  refine og (B := s₁.setTop (mkF m 8 #[rv a0, iv 1] [(.int ((((0 : Int32).toUInt32 >>> ((31 : Int32) &&& 31).toUInt32).toInt32).toInt8.toInt32))])) (fun t k => ?_) ?_
  · refine XS.isub X0.here hx rfl (hb hby d24_3) rfl ?_
    refine XS.bipush X0.here hx rfl (hb hby d24_4) ?_
    refine XS.iushr X0.here hx rfl (hb hby d24_6) rfl ?_
    refine XS.i2b X0.here hx rfl (hb hby d24_7) rfl ?_
    exact k
  obtain ⟨fs, hr, hrun, hended, hW, hsame⟩ := X0.leave (v := some (.int (nar .byte ((((0 : Int32).toUInt32 >>> ((31 : Int32) &&& 31).toUInt32).toInt32).toInt8.toInt32)))) (fun h => by rw [Bd.returns] at h; cases h)
  refine ⟨_, _, ?_, hrun, hended, _, _, rfl, ?_, ⟨_, rfl⟩, hW, hsame.mono (by decide) (by decide)⟩
  · show Steps p.tables e below (s₁.setTop (mkF m 8 #[rv a0, iv 1] [(.int ((((0 : Int32).toUInt32 >>> ((31 : Int32) &&& 31).toUInt32).toInt32).toInt8.toInt32))])) _
    exact retN X0 hx (t := .byte) Bd.returns (by simp) (hb hby d24_8) hr
  · show Qcfa1 Z a0 kb vs h0 n0 _ s₁.heap _
    rw [e0]
    exact ⟨congrArg (fun z => some (Value.int z)) (by decide), N0, rfl⟩
theorem d3_0 : decode jdk_42_method_149_code 0 = .ok (.aload_n 0, 1) := by decide +kernel
theorem d3_1 : decode jdk_42_method_149_code 1 = .ok (.invokespecial 1, 3) := by decide +kernel
theorem d3_4 : decode jdk_42_method_149_code 4 = .ok (.iload_n 3, 1) := by decide +kernel
theorem d3_5 : decode jdk_42_method_149_code 5 = .ok (.ifCond .ne 22, 3) := by decide +kernel
theorem d3_27 : decode jdk_42_method_149_code 27 = .ok (.getstatic 38, 3) := by decide +kernel
theorem d3_30 : decode jdk_42_method_149_code 30 = .ok (.ifCond .eq 28, 3) := by decide +kernel
theorem d3_33 : decode jdk_42_method_149_code 33 = .ok (.aload_n 1, 1) := by decide +kernel
theorem d3_34 : decode jdk_42_method_149_code 34 = .ok (.iload_n 2, 1) := by decide +kernel
theorem d3_35 : decode jdk_42_method_149_code 35 = .ok (.iload_n 3, 1) := by decide +kernel
theorem d3_36 : decode jdk_42_method_149_code 36 = .ok (.invokestatic 177, 3) := by decide +kernel
theorem d3_39 : decode jdk_42_method_149_code 39 = .ok (.astore 5, 2) := by decide +kernel
theorem d3_41 : decode jdk_42_method_149_code 41 = .ok (.aload_n 0, 1) := by decide +kernel
theorem d3_42 : decode jdk_42_method_149_code 42 = .ok (.aload 5, 2) := by decide +kernel
theorem d3_44 : decode jdk_42_method_149_code 44 = .ok (.iload_n 3, 1) := by decide +kernel
theorem d3_45 : decode jdk_42_method_149_code 45 = .ok (.invokestatic 47, 3) := by decide +kernel
theorem d3_48 : decode jdk_42_method_149_code 48 = .ok (.putfield 15, 3) := by decide +kernel
theorem d3_51 : decode jdk_42_method_149_code 51 = .ok (.aload_n 0, 1) := by decide +kernel
theorem d3_52 : decode jdk_42_method_149_code 52 = .ok (.aload 5, 2) := by decide +kernel
theorem d3_54 : decode jdk_42_method_149_code 54 = .ok (.putfield 9, 3) := by decide +kernel
theorem d3_57 : decode jdk_42_method_149_code 57 = .ok (.return_, 1) := by decide +kernel
theorem pn_3 : plainName "java/lang/String" = true := by first | (simp [plainName, overriddenIn]; done) | decide +kernel
theorem ef_si4_1 (m : MethodId) (a0 : Addr) (a1 : Addr) : entryFrame m #[(.ref a0), (.ref a1), (.int 0), (.int 1), .null] 6 = mkF m 0 #[rv a0, rv a1, iv 0, iv 1, .val .null, oU] [] := by first | (simp [entryFrame, mkF, argsToLocals, Value.category]; done) | rfl
theorem pd_7 : parseMethodDescriptor "([CII)[B" = some ⟨[(.array .char), .int, .int], some (.array .byte)⟩ := by decide +kernel
theorem pd_8 : parseMethodDescriptor "([BI)B" = some ⟨[(.array .byte), .int], some .byte⟩ := by decide +kernel
def Qsi4_1 (Z : State) (a0 : Addr) (a1 : Addr) (u0 : Value) (u1 : Value) (kc : ClassId) (w : Int32) (ch0 : Int32) (h0 : Heap) (n0 : Nat) (v : Option Value) (h : Heap) (L : List Loc) : Prop := ∃ (b : Addr) (kb : ClassId), v = none ∧ Fr n0 L ∧ Keep h0 h [a0] ∧ Fld Z h a0 "java/lang/String" "coder" "B" (.int (0 : Int32)) ∧ Fld Z h a0 "java/lang/String" "value" "[B" (.ref b) ∧ h0.size ≤ b ∧ Arv Z h b kb .byte (1 : Int32) [(.int (own_byte ch0))] (.int (0 : Int32))
theorem rmsi4_1 (l : Launch) (Z : State) (av0 : Array Value) (hw : ∀ d ∈ tables_1, d.before av0 Z = true) (ws : List Jvm.Cond) (a0 : Addr) (a1 : Addr) (u0 : Value) (u1 : Value) (kc : ClassId) (w : Int32) (ch0 : Int32) (h0 : Heap) (n0 : Nat) (Z0 : n0 ≤ h0.size) (E_a0 : Exa Z h0 a0 "java/lang/String") (F_value_a0 : Fld Z h0 a0 "java/lang/String" "value" "[B" u0) (F_coder_a0 : Fld Z h0 a0 "java/lang/String" "coder" "B" u1) (g_a0 : n0 ≤ a0) (VC : Arv Z h0 a1 kc .char (1 : Int32) [(.int ch0)] (.int (0 : Int32))) (nea : a0 ≠ a1) (S_COMPACT_STRINGS : Sta Z h0 "java/lang/String" "COMPACT_STRINGS" "Z" (.int w)) (hw0 : ¬ (w = (0 : Int32))) (hp0 : ¬ ((255 : Int32) < ch0)) :
    MetFree l own_m4 (head1 (Jvm.Cond.code own_m4 jdk_42_method_149_code 6 none :: ws) ({ frames := 2, cells := 1, slots := 1, locals := 35 } : Room)) (fun a U => a = #[(.ref a0), (.ref a1), (.int 0), (.int 1), .null] ∧ Z.Warmed39 U.vm ∧ U.heap = h0) (fun _ _ _ _ _ => True) (fun _ U o U' => ∃ v L, o = .returned v ∧ Qsi4_1 Z a0 a1 u0 u1 kc w ch0 h0 n0 v U'.heap L ∧ FrameEnd U o U' L ({ frames := 2, cells := 1, slots := 1, locals := 35 } : Room).cells ({ frames := 2, cells := 1, slots := 1, locals := 35 } : Room).slots) := by
  refine MetFree.of_bodySF (plainFor_of_name pn_3) hisR ?_
  intro p e s m args below meth c s₁ Bd hml0 hP hK
  obtain ⟨rfl, hZ, hh⟩ := hP
  have hx := Bd.exec
  have hby := Bd.bytes
  have hml : c.maxLocals = 6 := hml0
  have hown : s.vm.findClass "java/lang/String" = some m.cls := findClass_of_methodNamed Bd.named
  have hnm := (name_of_methodNamed Bd.named Bd.method).1
  have X0 : Stand p l e ({ frames := 2, cells := 1, slots := 1, locals := 35 } : Room) s m #[(.ref a0), (.ref a1), (.int 0), (.int 1), .null] below meth c s₁ [] 0 0 := Stand.of_body Bd
  have e0 : s₁.heap = h0 := by rw [← hh, Bd.state]; rfl
  have N0 := Fr.nil n0
  have K0 : Keep h0 h0 [a0] := Keep.refl h0 [a0]
  refine og (B := s₁.setTop (mkF m 0 #[rv a0, rv a1, iv 0, iv 1, .val .null, oU] [])) (fun t k => castTop (ef_si4_1 m a0 a1) k) ?_
  refine og (B := s₁.setTop (mkF m 1 #[rv a0, rv a1, iv 0, iv 1, .val .null, oU] [(.ref a0)])) (fun t k => ?_) ?_
  · refine XS.aloadN X0.here hx rfl (hb hby d3_0) rfl rfl ?_
    exact k
  obtain ⟨T_1, X_1, e_1, st_1⟩ := initO X0 hx hZ hown (ow hw 16 rfl) (ow hw 17 rfl) (ow hw 18 rfl) e0 (g := (mkF m 1 #[rv a0, rv a1, iv 0, iv 1, .val .null, oU] [(.ref a0)])) rfl (by rw [hml]; rfl) rfl (hb hby d3_1) (by decide) (W := 0) (by show 2 * 0 + _ ≤ _; exact Nat.le_of_eq rfl) (by decide)
  refine og (fun t k => st_1 t k) ?_
  refine og (B := T_1.setTop (mkF m 5 #[rv a0, rv a1, iv 0, iv 1, .val .null, oU] [(.int 1)])) (fun t k => ?_) ?_
  · refine XS.iloadN X_1.here hx rfl (hb hby d3_4) rfl ?_
    exact k
  refine og (B := T_1.setTop (mkF m 27 #[rv a0, rv a1, iv 0, iv 1, .val .null, oU] [])) (fun t k => ?_) ?_
  · refine XS.ifYes X_1.here hx rfl (pc0 := 5) (pc' := 27) rfl (hb hby d3_5) rfl ((if0 _ _).trans (feq (by decide : ¬ ((1 : Int32) = (0 : Int32)))).2) (by decide) (by decide) ?_
    exact k
  obtain ⟨T_2, X_2, e_2, st_2⟩ := getS2 X_1 hx hZ hown (host := "") (Or.inl (ow hw 59 rfl)) Via.refl e_1 S_COMPACT_STRINGS (g := (mkF m 27 #[rv a0, rv a1, iv 0, iv 1, .val .null, oU] [])) rfl (hb hby d3_27)
  refine og (fun t k => st_2 t k) ?_
  refine og (B := T_2.setTop (mkF m 33 #[rv a0, rv a1, iv 0, iv 1, .val .null, oU] [])) (fun t k => ?_) ?_
  · refine XS.ifNo X_2.here hx rfl (hb hby d3_30) rfl ((if0 _ _).trans (feq hw0).1) ?_
    exact k
  refine og (B := T_2.setTop (mkF m 36 #[rv a0, rv a1, iv 0, iv 1, .val .null, oU] [(.int 1), (.int 0), (.ref a1)])) (fun t k => ?_) ?_
  · refine XS.aloadN X_2.here hx rfl (hb hby d3_33) rfl rfl ?_
    refine XS.iloadN X_2.here hx rfl (hb hby d3_34) rfl ?_
    refine XS.iloadN X_2.here hx rfl (hb hby d3_35) rfl ?_
    exact k
  have lt_3 := (E_a0).lt
  have kk_3 := K0
  obtain ⟨_, _, ⟨T_3, L_3, k_3, n_3⟩, -, X_3, ⟨Lc_3, hQ_3, l_3, y_3, z_3⟩, st_3⟩ := Jvm.LawKit.callS X_2 hx (y := own_m23) hown (mvT hZ (ow hw 119 rfl)) (mvT hZ (ow hw 120 rfl)) (mvT hZ (ow hw 121 rfl)) (mvT hZ (ow hw 122 rfl)) (by decide) (backOf (W := 0) (rmcpr1 l Z av0 hw [] a1 kc ch0 h0 n0 Z0 VC hp0) hZ (ow hw 122 rfl) (ow hw 121 rfl) (by decide) (by decide)) (g := (mkF m 36 #[rv a0, rv a1, iv 0, iv 1, .val .null, oU] [(.int 1), (.int 0), (.ref a1)])) rfl (by rw [hml]; rfl) (argsL := [(.ref a1), (.int 0), (.int 1)]) (rest := []) (lenOf pd_7 rfl) rfl (by show 2 * 0 + _ ≤ _; exact Nat.le_of_eq rfl) (hb hby d3_36) (fun _ _ => ⟨rfl, e_2, (by decide : 0 + 1 ≤ _), (by decide : 0 + 1 ≤ _)⟩)
  dsimp only [Pt.U, Pt.locs, Pt.cells, Pt.slots] at X_3 l_3 y_3 z_3 st_3 hQ_3
  subst l_3 y_3 z_3
  obtain ⟨b_3, kb_3, rfl, N_3q, K_3, szq_3, VN_3⟩ := hQ_3
  have N_3 := Fr.app N0 N_3q
  have c1 := K0.trans K_3 all0
  have c2 := E_a0.keep K_3
  have c3 := F_value_a0.keep K_3 nin0
  have c4 := F_coder_a0.keep K_3 nin0
  have c5 := own_stak S_COMPACT_STRINGS K_3
  have c6 := VC.keep K_3 nin0
  have Z0__3 : n0 ≤ T_3.heap.size := Nat.le_trans Z0 K_3.1
  have nq_3 : a0 ≠ b_3 := Nat.ne_of_lt (Nat.lt_of_lt_of_le lt_3 szq_3)
  have szh_3 : h0.size ≤ b_3 := Nat.le_trans kk_3.1 szq_3
  refine og (fun t k => st_3 t k) ?_
  refine og (B := T_3.setTop (mkF m 45 #[rv a0, rv a1, iv 0, iv 1, .val .null, rv b_3] [(.int 1), (.ref b_3), (.ref a0)])) (fun t k => ?_) ?_
  · refine XS.astore X_3.here hx rfl (hb hby d3_39) rfl rfl (l' := #[rv a0, rv a1, iv 0, iv 1, .val .null, rv b_3]) rfl ?_
    refine XS.aloadN X_3.here hx rfl (hb hby d3_41) rfl rfl ?_
    refine XS.aload X_3.here hx rfl (hb hby d3_42) rfl rfl ?_
    refine XS.iloadN X_3.here hx rfl (hb hby d3_44) rfl ?_
    exact k
  obtain ⟨_, _, ⟨T_4, L_4, k_4, n_4⟩, -, X_4, ⟨Lc_4, hQ_4, l_4, y_4, z_4⟩, st_4⟩ := Jvm.LawKit.callS X_3 hx (y := own_m25) hown (mvT hZ (ow hw 126 rfl)) (mvT hZ (ow hw 127 rfl)) (mvT hZ (ow hw 121 rfl)) (mvT hZ (ow hw 128 rfl)) (by decide) (backOf (W := 1) (rmcfa1 l Z av0 hw [] b_3 kb_3 [(.int (own_byte ch0))] T_3.heap n0 Z0__3 VN_3) hZ (ow hw 128 rfl) (ow hw 121 rfl) (by decide) (by decide)) (g := (mkF m 45 #[rv a0, rv a1, iv 0, iv 1, .val .null, rv b_3] [(.int 1), (.ref b_3), (.ref a0)])) rfl (by rw [hml]; rfl) (argsL := [(.ref b_3), (.int 1)]) (rest := [(.ref a0)]) (lenOf pd_8 rfl) rfl (by show 2 * 0 + _ ≤ _; exact Nat.le_of_eq rfl) (hb hby d3_45) (fun _ _ => ⟨rfl, rfl, (by decide : 1 + 0 ≤ _), (by decide : 1 + 0 ≤ _)⟩)
  dsimp only [Pt.U, Pt.locs, Pt.cells, Pt.slots] at X_4 l_4 y_4 z_4 st_4 hQ_4
  subst l_4 y_4 z_4
  obtain ⟨rfl, N_4q, e_4⟩ := hQ_4
  have N_4 := Fr.app N_3 N_4q
  refine og (fun t k => st_4 t k) ?_
  obtain ⟨T_5, h_5, X_5, e_5, W_5, st_5⟩ := putFN X_4 hx hZ hown (ow hw 26 rfl) Via.refl e_4 c4 c2 (Or.inr ⟨(ow hw 22 rfl), rfl, hnm⟩) (ow hw 6 rfl) (ty := .byte) (v' := (.int 0)) (by decide) rfl (by decide) (g := (mkF m 48 #[rv a0, rv a1, iv 0, iv 1, .val .null, rv b_3] [(.int 0), (.ref a0)])) rfl rfl (hb hby d3_48)
  have c7 := c1.wr W_5 (Or.inl (List.mem_of_getElem? (i := 0) rfl))
  have c8 := c2.wr W_5
  have c9 := c3.other W_5 (Or.inr (slot_ne (Or.inr (ow hw 21 rfl)) (Or.inr (ow hw 22 rfl)) (by decide) (t := (.array .byte)) (t' := .byte) (by decide) (by decide)))
  have c10 := c4.same W_5
  have c11 := c5.wr W_5
  have c12 := c6.other W_5 (Ne.symm nea)
  have c13 := VN_3.other W_5 (Ne.symm nq_3)
  have N_5 := Fr.snoc X_5 N_4 g_a0
  have Z0__5 : n0 ≤ h_5.size := by rw [W_5.size]; exact Z0__3
  refine og (fun t k => st_5 t k) ?_
  refine og (B := T_5.setTop (mkF m 54 #[rv a0, rv a1, iv 0, iv 1, .val .null, rv b_3] [(.ref b_3), (.ref a0)])) (fun t k => ?_) ?_
  · refine XS.aloadN X_5.here hx rfl (hb hby d3_51) rfl rfl ?_
    refine XS.aload X_5.here hx rfl (hb hby d3_52) rfl rfl ?_
    exact k
  obtain ⟨T_6, h_6, X_6, e_6, W_6, st_6⟩ := putF X_5 hx hZ hown (host := "") (Or.inl (ow hw 25 rfl)) Via.refl e_5 c9 c8 (Or.inr ⟨(ow hw 21 rfl), rfl, hnm⟩) (ow hw 6 rfl) (ty := (.array .byte)) (by decide) rfl rfl (g := (mkF m 54 #[rv a0, rv a1, iv 0, iv 1, .val .null, rv b_3] [(.ref b_3), (.ref a0)])) rfl rfl (hb hby d3_54)
  have c14 := c7.wr W_6 (Or.inl (List.mem_of_getElem? (i := 0) rfl))
  have c15 := c8.wr W_6
  have c16 := c9.same W_6
  have c17 := c10.other W_6 (Or.inr (slot_ne (Or.inr (ow hw 22 rfl)) (Or.inr (ow hw 21 rfl)) (by decide) (t := .byte) (t' := (.array .byte)) (by decide) (by decide)))
  have c18 := c11.wr W_6
  have c19 := c12.other W_6 (Ne.symm nea)
  have c20 := c13.other W_6 (Ne.symm nq_3)
  have N_6 := Fr.snoc X_6 N_5 g_a0
  have Z0__6 : n0 ≤ h_6.size := by rw [W_6.size]; exact Z0__5
  refine og (fun t k => st_6 t k) ?_
  obtain ⟨fs, hr, hrun, hended, hW, hsame⟩ := X_6.leave (v := none) (fun _ => rfl)
  refine ⟨_, _, ?_, hrun, hended, _, _, rfl, ?_, ⟨_, rfl⟩, hW, hsame.mono (by decide) (by decide)⟩
  · show Steps p.tables e below (T_6.setTop (mkF m 57 #[rv a0, rv a1, iv 0, iv 1, .val .null, rv b_3] [])) _
    exact X_6.returnOut hx Bd.returns (hb hby d3_57) hr
  · show Qsi4_1 Z a0 a1 u0 u1 kc w ch0 h0 n0 _ T_6.heap _
    rw [e_6]
    exact ⟨b_3, kb_3, rfl, N_6, c14, c17, c16, szh_3, c20⟩
theorem d2_0 : decode jdk_42_method_3_code 0 = .ok (.aload_n 0, 1) := by decide +kernel
theorem d2_1 : decode jdk_42_method_3_code 1 = .ok (.aload_n 1, 1) := by decide +kernel
theorem d2_2 : decode jdk_42_method_3_code 2 = .ok (.iconst 0, 1) := by decide +kernel
theorem d2_3 : decode jdk_42_method_3_code 3 = .ok (.aload_n 1, 1) := by decide +kernel
theorem d2_4 : decode jdk_42_method_3_code 4 = .ok (.arraylength, 1) := by decide +kernel
theorem d2_5 : decode jdk_42_method_3_code 5 = .ok (.aconst_null, 1) := by decide +kernel
theorem d2_6 : decode jdk_42_method_3_code 6 = .ok (.invokespecial 27, 3) := by decide +kernel
theorem d2_9 : decode jdk_42_method_3_code 9 = .ok (.return_, 1) := by decide +kernel
theorem pn_2 : plainName "java/lang/String" = true := by first | (simp [plainName, overriddenIn]; done) | decide +kernel
theorem ef_si1_1 (m : MethodId) (a0 : Addr) (a1 : Addr) : entryFrame m #[(.ref a0), (.ref a1)] 2 = mkF m 0 #[rv a0, rv a1] [] := by first | (simp [entryFrame, mkF, argsToLocals, Value.category]; done) | rfl
theorem pd_9 : parseMethodDescriptor "([CIILjava/lang/Void;)V" = some ⟨[(.array .char), .int, .int, (.object "java/lang/Void")], none⟩ := by decide +kernel
def Qsi1_1 (Z : State) (a0 : Addr) (a1 : Addr) (u0 : Value) (u1 : Value) (kc : ClassId) (w : Int32) (ch0 : Int32) (h0 : Heap) (n0 : Nat) (v : Option Value) (h : Heap) (L : List Loc) : Prop := ∃ (b : Addr) (kb : ClassId), v = none ∧ Fr n0 L ∧ Keep h0 h [a0] ∧ Fld Z h a0 "java/lang/String" "coder" "B" (.int (0 : Int32)) ∧ Fld Z h a0 "java/lang/String" "value" "[B" (.ref b) ∧ h0.size ≤ b ∧ Arv Z h b kb .byte (1 : Int32) [(.int (own_byte ch0))] (.int (0 : Int32))
theorem rmsi1_1 (l : Launch) (Z : State) (av0 : Array Value) (hw : ∀ d ∈ tables_1, d.before av0 Z = true) (ws : List Jvm.Cond) (a0 : Addr) (a1 : Addr) (u0 : Value) (u1 : Value) (kc : ClassId) (w : Int32) (ch0 : Int32) (h0 : Heap) (n0 : Nat) (Z0 : n0 ≤ h0.size) (E_a0 : Exa Z h0 a0 "java/lang/String") (F_value_a0 : Fld Z h0 a0 "java/lang/String" "value" "[B" u0) (F_coder_a0 : Fld Z h0 a0 "java/lang/String" "coder" "B" u1) (g_a0 : n0 ≤ a0) (VC : Arv Z h0 a1 kc .char (1 : Int32) [(.int ch0)] (.int (0 : Int32))) (nea : a0 ≠ a1) (S_COMPACT_STRINGS : Sta Z h0 "java/lang/String" "COMPACT_STRINGS" "Z" (.int w)) (hw0 : ¬ (w = (0 : Int32))) (hp0 : ¬ ((255 : Int32) < ch0)) :
    MetFree l own_m3 (head1 (Jvm.Cond.code own_m3 jdk_42_method_3_code 2 none :: ws) ({ frames := 3, cells := 1, slots := 1, locals := 52 } : Room)) (fun a U => a = #[(.ref a0), (.ref a1)] ∧ Z.Warmed39 U.vm ∧ U.heap = h0) (fun _ _ _ _ _ => True) (fun _ U o U' => ∃ v L, o = .returned v ∧ Qsi1_1 Z a0 a1 u0 u1 kc w ch0 h0 n0 v U'.heap L ∧ FrameEnd U o U' L ({ frames := 3, cells := 1, slots := 1, locals := 52 } : Room).cells ({ frames := 3, cells := 1, slots := 1, locals := 52 } : Room).slots) := by
  refine MetFree.of_bodySF (plainFor_of_name pn_2) hisR ?_
  intro p e s m args below meth c s₁ Bd hml0 hP hK
  obtain ⟨rfl, hZ, hh⟩ := hP
  have hx := Bd.exec
  have hby := Bd.bytes
  have hml : c.maxLocals = 2 := hml0
  have hown : s.vm.findClass "java/lang/String" = some m.cls := findClass_of_methodNamed Bd.named
  have hnm := (name_of_methodNamed Bd.named Bd.method).1
  have X0 : Stand p l e ({ frames := 3, cells := 1, slots := 1, locals := 52 } : Room) s m #[(.ref a0), (.ref a1)] below meth c s₁ [] 0 0 := Stand.of_body Bd
  have e0 : s₁.heap = h0 := by rw [← hh, Bd.state]; rfl
  have N0 := Fr.nil n0
  have K0 : Keep h0 h0 [a0] := Keep.refl h0 [a0]
  refine og (B := s₁.setTop (mkF m 0 #[rv a0, rv a1] [])) (fun t k => castTop (ef_si1_1 m a0 a1) k) ?_
  refine og (B := s₁.setTop (mkF m 4 #[rv a0, rv a1] [(.ref a1), (.int 0), (.ref a1), (.ref a0)])) (fun t k => ?_) ?_
  · refine XS.aloadN X0.here hx rfl (hb hby d2_0) rfl rfl ?_
    refine XS.aloadN X0.here hx rfl (hb hby d2_1) rfl rfl ?_
    refine XS.iconst X0.here hx rfl (hb hby d2_2) ?_
    refine XS.aloadN X0.here hx rfl (hb hby d2_3) rfl rfl ?_
    exact k
  obtain ⟨cl_1, Ar_1, -, S_1, M_1, -, -⟩ := id VC
  refine og (B := s₁.setTop (mkF m 5 #[rv a0, rv a1] [(.int 1), (.int 0), (.ref a1), (.ref a0)])) (fun t k => X0.arraylength hx (by rw [(e0 : _ = _)]; exact Ar_1.1) (State.isArrayOf_alike hZ.alike Ar_1.2.1) (g := (mkF m 4 #[rv a0, rv a1] [(.ref a1), (.int 0), (.ref a1), (.ref a0)])) rfl rfl (hb hby d2_4) t (by rw [len_of S_1 M_1]; exact k)) ?_
  refine og (B := s₁.setTop (mkF m 6 #[rv a0, rv a1] [.null, (.int 1), (.int 0), (.ref a1), (.ref a0)])) (fun t k => ?_) ?_
  · refine XS.aconstNull X0.here hx rfl (hb hby d2_5) ?_
    exact k
  obtain ⟨_, _, ⟨T_2, L_2, k_2, n_2⟩, -, X_2, ⟨Lc_2, hQ_2, l_2, y_2, z_2⟩, st_2⟩ := X0.specialBack hx (y := own_m4) rfl hown (mvT hZ (ow hw 12 rfl)) (mvT hZ (ow hw 13 rfl)) (mvT hZ (ow hw 15 rfl)) (by decide) (backOf (W := 0) (rmsi4_1 l Z av0 hw [] a0 a1 u0 u1 kc w ch0 h0 n0 Z0 E_a0 F_value_a0 F_coder_a0 g_a0 VC nea S_COMPACT_STRINGS hw0 hp0) hZ (ow hw 15 rfl) (ow hw 7 rfl) (by decide) (by decide)) (g := (mkF m 6 #[rv a0, rv a1] [.null, (.int 1), (.int 0), (.ref a1), (.ref a0)])) rfl (by rw [hml]; rfl) (Steps.refl _) (a := a0) (argsL := [(.ref a1), (.int 0), (.int 1), .null]) (rest := []) (lenOf pd_9 rfl) rfl (by show 2 * 0 + _ ≤ _; exact Nat.le_of_eq rfl) (hb hby d2_6) (fun _ _ => ⟨rfl, e0, (by decide : 0 + 1 ≤ _), (by decide : 0 + 1 ≤ _)⟩)
  dsimp only [Pt.U, Pt.locs, Pt.cells, Pt.slots] at X_2 l_2 y_2 z_2 st_2 hQ_2
  subst l_2 y_2 z_2
  obtain ⟨bb_2, kb_2, rfl, N_2q, K_2, Fc_2, Fv_2, szq_2, VN_2⟩ := hQ_2
  have N_2 := Fr.app N0 N_2q
  have c1 := K0.trans K_2 (allS (Or.inl (List.mem_of_getElem? (i := 0) rfl)) all0)
  have c2 := E_a0.keep K_2
  have c3 := own_stake S_COMPACT_STRINGS K_2 E_a0
  have c4 := VC.keep K_2 (ninS (Ne.symm nea) nin0)
  have Z0__2 : n0 ≤ T_2.heap.size := Nat.le_trans Z0 K_2.1
  refine og (fun t k => st_2.trans k) ?_
  obtain ⟨fs, hr, hrun, hended, hW, hsame⟩ := X_2.leave (v := none) (fun _ => rfl)
  refine ⟨_, _, ?_, hrun, hended, _, _, rfl, ?_, ⟨_, rfl⟩, hW, hsame.mono (by decide) (by decide)⟩
  · show Steps p.tables e below (T_2.setTop (mkF m 9 #[rv a0, rv a1] [])) _
    exact X_2.returnOut hx Bd.returns (hb hby d2_9) hr
  · show Qsi1_1 Z a0 a1 u0 u1 kc w ch0 h0 n0 _ T_2.heap _
    exact ⟨bb_2, kb_2, rfl, N_2, c1, Fc_2, Fv_2, szq_2, VN_2⟩
theorem ef_cfa2 (m : MethodId) (a0 : Addr) : entryFrame m #[(.ref a0), (.int 2)] 2 = mkF m 0 #[rv a0, iv 2] [] := by first | (simp [entryFrame, mkF, argsToLocals, Value.category]; done) | rfl
def Qcfa2 (Z : State) (a0 : Addr) (kb : ClassId) (vs : List Value) (h0 : Heap) (n0 : Nat) (v : Option Value) (h : Heap) (L : List Loc) : Prop := v = some (.int 0) ∧ Fr n0 L ∧ h = h0
theorem rmcfa2 (l : Launch) (Z : State) (av0 : Array Value) (hw : ∀ d ∈ tables_1, d.before av0 Z = true) (ws : List Jvm.Cond) (a0 : Addr) (kb : ClassId) (vs : List Value) (h0 : Heap) (n0 : Nat) (Z0 : n0 ≤ h0.size) (V0 : Arv Z h0 a0 kb .byte (2 : Int32) vs (.int (0 : Int32))) :
    MetFree l own_m25 (head1 (Jvm.Cond.code own_m25 jdk_52_method_15_code 2 (some .byte) :: ws) ({ frames := 0, cells := 0, slots := 0, locals := 0 } : Room)) (fun a U => a = #[(.ref a0), (.int 2)] ∧ Z.Warmed39 U.vm ∧ U.heap = h0) (fun _ _ _ _ _ => True) (fun _ U o U' => ∃ v L, o = .returned v ∧ Qcfa2 Z a0 kb vs h0 n0 v U'.heap L ∧ FrameEnd U o U' L ({ frames := 0, cells := 0, slots := 0, locals := 0 } : Room).cells ({ frames := 0, cells := 0, slots := 0, locals := 0 } : Room).slots) := by
  refine MetFree.of_bodySF (plainFor_of_name pn_24) hisR ?_
  intro p e s m args below meth c s₁ Bd hml0 hP hK
  obtain ⟨rfl, hZ, hh⟩ := hP
  have hx := Bd.exec
  have hby := Bd.bytes
  have hml : c.maxLocals = 2 := hml0
  have hown : s.vm.findClass "java/lang/StringUTF16" = some m.cls := findClass_of_methodNamed Bd.named
  have X0 : Stand p l e ({ frames := 0, cells := 0, slots := 0, locals := 0 } : Room) s m #[(.ref a0), (.int 2)] below meth c s₁ [] 0 0 := Stand.of_body Bd
  have e0 : s₁.heap = h0 := by rw [← hh, Bd.state]; rfl
  have N0 := Fr.nil n0
  have K0 : Keep h0 h0 [] := Keep.refl h0 []
  refine og (B := s₁.setTop (mkF m 0 #[rv a0, iv 2] [])) (fun t k => castTop (ef_cfa2 m a0) k) ?_
  refine og (B := s₁.setTop (mkF m 2 #[rv a0, iv 2] [(.ref a0), (.int 2)])) (fun t k => ?_) ?_
  · refine XS.iloadN X0.here hx rfl (hb hby d24_0) rfl ?_
    refine XS.aloadN X0.here hx rfl (hb hby d24_1) rfl rfl ?_
    exact k
  obtain ⟨cl_1, Ar_1, -, S_1, M_1, -, -⟩ := id V0
  refine og (B := s₁.setTop (mkF m 3 #[rv a0, iv 2] [(.int 2), (.int 2)])) (fun t k => X0.arraylength hx (by rw [(e0 : _ = _)]; exact Ar_1.1) (State.isArrayOf_alike hZ.alike Ar_1.2.1) (g := (mkF m 2 #[rv a0, iv 2] [(.ref a0), (.int 2)])) rfl rfl (hb hby d24_2) t (by rw [len_of S_1 M_1]; exact k)) ?_
  refine og (B := s₁.setTop (mkF m 8 #[rv a0, iv 2] [(.int ((((0 : Int32).toUInt32 >>> ((31 : Int32) &&& 31).toUInt32).toInt32).toInt8.toInt32))])) (fun t k => ?_) ?_
  · refine XS.isub X0.here hx rfl (hb hby d24_3) rfl ?_
    refine XS.bipush X0.here hx rfl (hb hby d24_4) ?_
    refine XS.iushr X0.here hx rfl (hb hby d24_6) rfl ?_
    refine XS.i2b X0.here hx rfl (hb hby d24_7) rfl ?_
    exact k
  obtain ⟨fs, hr, hrun, hended, hW, hsame⟩ := X0.leave (v := some (.int (nar .byte ((((0 : Int32).toUInt32 >>> ((31 : Int32) &&& 31).toUInt32).toInt32).toInt8.toInt32)))) (fun h => by rw [Bd.returns] at h; cases h)
  refine ⟨_, _, ?_, hrun, hended, _, _, rfl, ?_, ⟨_, rfl⟩, hW, hsame.mono (by decide) (by decide)⟩
  · show Steps p.tables e below (s₁.setTop (mkF m 8 #[rv a0, iv 2] [(.int ((((0 : Int32).toUInt32 >>> ((31 : Int32) &&& 31).toUInt32).toInt32).toInt8.toInt32))])) _
    exact retN X0 hx (t := .byte) Bd.returns (by simp) (hb hby d24_8) hr
  · show Qcfa2 Z a0 kb vs h0 n0 _ s₁.heap _
    rw [e0]
    exact ⟨congrArg (fun z => some (Value.int z)) (by decide), N0, rfl⟩
theorem ef_si4_2 (m : MethodId) (a0 : Addr) (a1 : Addr) : entryFrame m #[(.ref a0), (.ref a1), (.int 0), (.int 2), .null] 6 = mkF m 0 #[rv a0, rv a1, iv 0, iv 2, .val .null, oU] [] := by first | (simp [entryFrame, mkF, argsToLocals, Value.category]; done) | rfl
def Qsi4_2 (Z : State) (a0 : Addr) (a1 : Addr) (u0 : Value) (u1 : Value) (kc : ClassId) (w : Int32) (ch0 : Int32) (ch1 : Int32) (h0 : Heap) (n0 : Nat) (v : Option Value) (h : Heap) (L : List Loc) : Prop := ∃ (b : Addr) (kb : ClassId), v = none ∧ Fr n0 L ∧ Keep h0 h [a0] ∧ Fld Z h a0 "java/lang/String" "coder" "B" (.int (0 : Int32)) ∧ Fld Z h a0 "java/lang/String" "value" "[B" (.ref b) ∧ h0.size ≤ b ∧ Arv Z h b kb .byte (2 : Int32) [(.int (own_byte ch0)), (.int (own_byte ch1))] (.int (0 : Int32))
theorem rmsi4_2 (l : Launch) (Z : State) (av0 : Array Value) (hw : ∀ d ∈ tables_1, d.before av0 Z = true) (ws : List Jvm.Cond) (a0 : Addr) (a1 : Addr) (u0 : Value) (u1 : Value) (kc : ClassId) (w : Int32) (ch0 : Int32) (ch1 : Int32) (h0 : Heap) (n0 : Nat) (Z0 : n0 ≤ h0.size) (E_a0 : Exa Z h0 a0 "java/lang/String") (F_value_a0 : Fld Z h0 a0 "java/lang/String" "value" "[B" u0) (F_coder_a0 : Fld Z h0 a0 "java/lang/String" "coder" "B" u1) (g_a0 : n0 ≤ a0) (VC : Arv Z h0 a1 kc .char (2 : Int32) [(.int ch0), (.int ch1)] (.int (0 : Int32))) (nea : a0 ≠ a1) (S_COMPACT_STRINGS : Sta Z h0 "java/lang/String" "COMPACT_STRINGS" "Z" (.int w)) (hw0 : ¬ (w = (0 : Int32))) (hp0 : ¬ ((255 : Int32) < ch0)) (hp1 : ¬ ((255 : Int32) < ch1)) :
    MetFree l own_m4 (head1 (Jvm.Cond.code own_m4 jdk_42_method_149_code 6 none :: ws) ({ frames := 2, cells := 1, slots := 2, locals := 35 } : Room)) (fun a U => a = #[(.ref a0), (.ref a1), (.int 0), (.int 2), .null] ∧ Z.Warmed39 U.vm ∧ U.heap = h0) (fun _ _ _ _ _ => True) (fun _ U o U' => ∃ v L, o = .returned v ∧ Qsi4_2 Z a0 a1 u0 u1 kc w ch0 ch1 h0 n0 v U'.heap L ∧ FrameEnd U o U' L ({ frames := 2, cells := 1, slots := 2, locals := 35 } : Room).cells ({ frames := 2, cells := 1, slots := 2, locals := 35 } : Room).slots) := by
  refine MetFree.of_bodySF (plainFor_of_name pn_3) hisR ?_
  intro p e s m args below meth c s₁ Bd hml0 hP hK
  obtain ⟨rfl, hZ, hh⟩ := hP
  have hx := Bd.exec
  have hby := Bd.bytes
  have hml : c.maxLocals = 6 := hml0
  have hown : s.vm.findClass "java/lang/String" = some m.cls := findClass_of_methodNamed Bd.named
  have hnm := (name_of_methodNamed Bd.named Bd.method).1
  have X0 : Stand p l e ({ frames := 2, cells := 1, slots := 2, locals := 35 } : Room) s m #[(.ref a0), (.ref a1), (.int 0), (.int 2), .null] below meth c s₁ [] 0 0 := Stand.of_body Bd
  have e0 : s₁.heap = h0 := by rw [← hh, Bd.state]; rfl
  have N0 := Fr.nil n0
  have K0 : Keep h0 h0 [a0] := Keep.refl h0 [a0]
  refine og (B := s₁.setTop (mkF m 0 #[rv a0, rv a1, iv 0, iv 2, .val .null, oU] [])) (fun t k => castTop (ef_si4_2 m a0 a1) k) ?_
  refine og (B := s₁.setTop (mkF m 1 #[rv a0, rv a1, iv 0, iv 2, .val .null, oU] [(.ref a0)])) (fun t k => ?_) ?_
  · refine XS.aloadN X0.here hx rfl (hb hby d3_0) rfl rfl ?_
    exact k
  obtain ⟨T_1, X_1, e_1, st_1⟩ := initO X0 hx hZ hown (ow hw 16 rfl) (ow hw 17 rfl) (ow hw 18 rfl) e0 (g := (mkF m 1 #[rv a0, rv a1, iv 0, iv 2, .val .null, oU] [(.ref a0)])) rfl (by rw [hml]; rfl) rfl (hb hby d3_1) (by decide) (W := 0) (by show 2 * 0 + _ ≤ _; exact Nat.le_of_eq rfl) (by decide)
  refine og (fun t k => st_1 t k) ?_
  refine og (B := T_1.setTop (mkF m 5 #[rv a0, rv a1, iv 0, iv 2, .val .null, oU] [(.int 2)])) (fun t k => ?_) ?_
  · refine XS.iloadN X_1.here hx rfl (hb hby d3_4) rfl ?_
    exact k
  refine og (B := T_1.setTop (mkF m 27 #[rv a0, rv a1, iv 0, iv 2, .val .null, oU] [])) (fun t k => ?_) ?_
  · refine XS.ifYes X_1.here hx rfl (pc0 := 5) (pc' := 27) rfl (hb hby d3_5) rfl ((if0 _ _).trans (feq (by decide : ¬ ((2 : Int32) = (0 : Int32)))).2) (by decide) (by decide) ?_
    exact k
  obtain ⟨T_2, X_2, e_2, st_2⟩ := getS2 X_1 hx hZ hown (host := "") (Or.inl (ow hw 59 rfl)) Via.refl e_1 S_COMPACT_STRINGS (g := (mkF m 27 #[rv a0, rv a1, iv 0, iv 2, .val .null, oU] [])) rfl (hb hby d3_27)
  refine og (fun t k => st_2 t k) ?_
  refine og (B := T_2.setTop (mkF m 33 #[rv a0, rv a1, iv 0, iv 2, .val .null, oU] [])) (fun t k => ?_) ?_
  · refine XS.ifNo X_2.here hx rfl (hb hby d3_30) rfl ((if0 _ _).trans (feq hw0).1) ?_
    exact k
  refine og (B := T_2.setTop (mkF m 36 #[rv a0, rv a1, iv 0, iv 2, .val .null, oU] [(.int 2), (.int 0), (.ref a1)])) (fun t k => ?_) ?_
  · refine XS.aloadN X_2.here hx rfl (hb hby d3_33) rfl rfl ?_
    refine XS.iloadN X_2.here hx rfl (hb hby d3_34) rfl ?_
    refine XS.iloadN X_2.here hx rfl (hb hby d3_35) rfl ?_
    exact k
  have lt_3 := (E_a0).lt
  have kk_3 := K0
  obtain ⟨_, _, ⟨T_3, L_3, k_3, n_3⟩, -, X_3, ⟨Lc_3, hQ_3, l_3, y_3, z_3⟩, st_3⟩ := Jvm.LawKit.callS X_2 hx (y := own_m23) hown (mvT hZ (ow hw 119 rfl)) (mvT hZ (ow hw 120 rfl)) (mvT hZ (ow hw 121 rfl)) (mvT hZ (ow hw 122 rfl)) (by decide) (backOf (W := 0) (rmcpr2 l Z av0 hw [] a1 kc ch0 ch1 h0 n0 Z0 VC hp0 hp1) hZ (ow hw 122 rfl) (ow hw 121 rfl) (by decide) (by decide)) (g := (mkF m 36 #[rv a0, rv a1, iv 0, iv 2, .val .null, oU] [(.int 2), (.int 0), (.ref a1)])) rfl (by rw [hml]; rfl) (argsL := [(.ref a1), (.int 0), (.int 2)]) (rest := []) (lenOf pd_7 rfl) rfl (by show 2 * 0 + _ ≤ _; exact Nat.le_of_eq rfl) (hb hby d3_36) (fun _ _ => ⟨rfl, e_2, (by decide : 0 + 1 ≤ _), (by decide : 0 + 2 ≤ _)⟩)
  dsimp only [Pt.U, Pt.locs, Pt.cells, Pt.slots] at X_3 l_3 y_3 z_3 st_3 hQ_3
  subst l_3 y_3 z_3
  obtain ⟨b_3, kb_3, rfl, N_3q, K_3, szq_3, VN_3⟩ := hQ_3
  have N_3 := Fr.app N0 N_3q
  have c1 := K0.trans K_3 all0
  have c2 := E_a0.keep K_3
  have c3 := F_value_a0.keep K_3 nin0
  have c4 := F_coder_a0.keep K_3 nin0
  have c5 := own_stak S_COMPACT_STRINGS K_3
  have c6 := VC.keep K_3 nin0
  have Z0__3 : n0 ≤ T_3.heap.size := Nat.le_trans Z0 K_3.1
  have nq_3 : a0 ≠ b_3 := Nat.ne_of_lt (Nat.lt_of_lt_of_le lt_3 szq_3)
  have szh_3 : h0.size ≤ b_3 := Nat.le_trans kk_3.1 szq_3
  refine og (fun t k => st_3 t k) ?_
  refine og (B := T_3.setTop (mkF m 45 #[rv a0, rv a1, iv 0, iv 2, .val .null, rv b_3] [(.int 2), (.ref b_3), (.ref a0)])) (fun t k => ?_) ?_
  · refine XS.astore X_3.here hx rfl (hb hby d3_39) rfl rfl (l' := #[rv a0, rv a1, iv 0, iv 2, .val .null, rv b_3]) rfl ?_
    refine XS.aloadN X_3.here hx rfl (hb hby d3_41) rfl rfl ?_
    refine XS.aload X_3.here hx rfl (hb hby d3_42) rfl rfl ?_
    refine XS.iloadN X_3.here hx rfl (hb hby d3_44) rfl ?_
    exact k
  obtain ⟨_, _, ⟨T_4, L_4, k_4, n_4⟩, -, X_4, ⟨Lc_4, hQ_4, l_4, y_4, z_4⟩, st_4⟩ := Jvm.LawKit.callS X_3 hx (y := own_m25) hown (mvT hZ (ow hw 126 rfl)) (mvT hZ (ow hw 127 rfl)) (mvT hZ (ow hw 121 rfl)) (mvT hZ (ow hw 128 rfl)) (by decide) (backOf (W := 1) (rmcfa2 l Z av0 hw [] b_3 kb_3 [(.int (own_byte ch0)), (.int (own_byte ch1))] T_3.heap n0 Z0__3 VN_3) hZ (ow hw 128 rfl) (ow hw 121 rfl) (by decide) (by decide)) (g := (mkF m 45 #[rv a0, rv a1, iv 0, iv 2, .val .null, rv b_3] [(.int 2), (.ref b_3), (.ref a0)])) rfl (by rw [hml]; rfl) (argsL := [(.ref b_3), (.int 2)]) (rest := [(.ref a0)]) (lenOf pd_8 rfl) rfl (by show 2 * 0 + _ ≤ _; exact Nat.le_of_eq rfl) (hb hby d3_45) (fun _ _ => ⟨rfl, rfl, (by decide : 1 + 0 ≤ _), (by decide : 2 + 0 ≤ _)⟩)
  dsimp only [Pt.U, Pt.locs, Pt.cells, Pt.slots] at X_4 l_4 y_4 z_4 st_4 hQ_4
  subst l_4 y_4 z_4
  obtain ⟨rfl, N_4q, e_4⟩ := hQ_4
  have N_4 := Fr.app N_3 N_4q
  refine og (fun t k => st_4 t k) ?_
  obtain ⟨T_5, h_5, X_5, e_5, W_5, st_5⟩ := putFN X_4 hx hZ hown (ow hw 26 rfl) Via.refl e_4 c4 c2 (Or.inr ⟨(ow hw 22 rfl), rfl, hnm⟩) (ow hw 6 rfl) (ty := .byte) (v' := (.int 0)) (by decide) rfl (by decide) (g := (mkF m 48 #[rv a0, rv a1, iv 0, iv 2, .val .null, rv b_3] [(.int 0), (.ref a0)])) rfl rfl (hb hby d3_48)
  have c7 := c1.wr W_5 (Or.inl (List.mem_of_getElem? (i := 0) rfl))
  have c8 := c2.wr W_5
  have c9 := c3.other W_5 (Or.inr (slot_ne (Or.inr (ow hw 21 rfl)) (Or.inr (ow hw 22 rfl)) (by decide) (t := (.array .byte)) (t' := .byte) (by decide) (by decide)))
  have c10 := c4.same W_5
  have c11 := c5.wr W_5
  have c12 := c6.other W_5 (Ne.symm nea)
  have c13 := VN_3.other W_5 (Ne.symm nq_3)
  have N_5 := Fr.snoc X_5 N_4 g_a0
  have Z0__5 : n0 ≤ h_5.size := by rw [W_5.size]; exact Z0__3
  refine og (fun t k => st_5 t k) ?_
  refine og (B := T_5.setTop (mkF m 54 #[rv a0, rv a1, iv 0, iv 2, .val .null, rv b_3] [(.ref b_3), (.ref a0)])) (fun t k => ?_) ?_
  · refine XS.aloadN X_5.here hx rfl (hb hby d3_51) rfl rfl ?_
    refine XS.aload X_5.here hx rfl (hb hby d3_52) rfl rfl ?_
    exact k
  obtain ⟨T_6, h_6, X_6, e_6, W_6, st_6⟩ := putF X_5 hx hZ hown (host := "") (Or.inl (ow hw 25 rfl)) Via.refl e_5 c9 c8 (Or.inr ⟨(ow hw 21 rfl), rfl, hnm⟩) (ow hw 6 rfl) (ty := (.array .byte)) (by decide) rfl rfl (g := (mkF m 54 #[rv a0, rv a1, iv 0, iv 2, .val .null, rv b_3] [(.ref b_3), (.ref a0)])) rfl rfl (hb hby d3_54)
  have c14 := c7.wr W_6 (Or.inl (List.mem_of_getElem? (i := 0) rfl))
  have c15 := c8.wr W_6
  have c16 := c9.same W_6
  have c17 := c10.other W_6 (Or.inr (slot_ne (Or.inr (ow hw 22 rfl)) (Or.inr (ow hw 21 rfl)) (by decide) (t := .byte) (t' := (.array .byte)) (by decide) (by decide)))
  have c18 := c11.wr W_6
  have c19 := c12.other W_6 (Ne.symm nea)
  have c20 := c13.other W_6 (Ne.symm nq_3)
  have N_6 := Fr.snoc X_6 N_5 g_a0
  have Z0__6 : n0 ≤ h_6.size := by rw [W_6.size]; exact Z0__5
  refine og (fun t k => st_6 t k) ?_
  obtain ⟨fs, hr, hrun, hended, hW, hsame⟩ := X_6.leave (v := none) (fun _ => rfl)
  refine ⟨_, _, ?_, hrun, hended, _, _, rfl, ?_, ⟨_, rfl⟩, hW, hsame.mono (by decide) (by decide)⟩
  · show Steps p.tables e below (T_6.setTop (mkF m 57 #[rv a0, rv a1, iv 0, iv 2, .val .null, rv b_3] [])) _
    exact X_6.returnOut hx Bd.returns (hb hby d3_57) hr
  · show Qsi4_2 Z a0 a1 u0 u1 kc w ch0 ch1 h0 n0 _ T_6.heap _
    rw [e_6]
    exact ⟨b_3, kb_3, rfl, N_6, c14, c17, c16, szh_3, c20⟩
theorem ef_si1_2 (m : MethodId) (a0 : Addr) (a1 : Addr) : entryFrame m #[(.ref a0), (.ref a1)] 2 = mkF m 0 #[rv a0, rv a1] [] := by first | (simp [entryFrame, mkF, argsToLocals, Value.category]; done) | rfl
def Qsi1_2 (Z : State) (a0 : Addr) (a1 : Addr) (u0 : Value) (u1 : Value) (kc : ClassId) (w : Int32) (ch0 : Int32) (ch1 : Int32) (h0 : Heap) (n0 : Nat) (v : Option Value) (h : Heap) (L : List Loc) : Prop := ∃ (b : Addr) (kb : ClassId), v = none ∧ Fr n0 L ∧ Keep h0 h [a0] ∧ Fld Z h a0 "java/lang/String" "coder" "B" (.int (0 : Int32)) ∧ Fld Z h a0 "java/lang/String" "value" "[B" (.ref b) ∧ h0.size ≤ b ∧ Arv Z h b kb .byte (2 : Int32) [(.int (own_byte ch0)), (.int (own_byte ch1))] (.int (0 : Int32))
theorem rmsi1_2 (l : Launch) (Z : State) (av0 : Array Value) (hw : ∀ d ∈ tables_1, d.before av0 Z = true) (ws : List Jvm.Cond) (a0 : Addr) (a1 : Addr) (u0 : Value) (u1 : Value) (kc : ClassId) (w : Int32) (ch0 : Int32) (ch1 : Int32) (h0 : Heap) (n0 : Nat) (Z0 : n0 ≤ h0.size) (E_a0 : Exa Z h0 a0 "java/lang/String") (F_value_a0 : Fld Z h0 a0 "java/lang/String" "value" "[B" u0) (F_coder_a0 : Fld Z h0 a0 "java/lang/String" "coder" "B" u1) (g_a0 : n0 ≤ a0) (VC : Arv Z h0 a1 kc .char (2 : Int32) [(.int ch0), (.int ch1)] (.int (0 : Int32))) (nea : a0 ≠ a1) (S_COMPACT_STRINGS : Sta Z h0 "java/lang/String" "COMPACT_STRINGS" "Z" (.int w)) (hw0 : ¬ (w = (0 : Int32))) (hp0 : ¬ ((255 : Int32) < ch0)) (hp1 : ¬ ((255 : Int32) < ch1)) :
    MetFree l own_m3 (head1 (Jvm.Cond.code own_m3 jdk_42_method_3_code 2 none :: ws) ({ frames := 3, cells := 1, slots := 2, locals := 52 } : Room)) (fun a U => a = #[(.ref a0), (.ref a1)] ∧ Z.Warmed39 U.vm ∧ U.heap = h0) (fun _ _ _ _ _ => True) (fun _ U o U' => ∃ v L, o = .returned v ∧ Qsi1_2 Z a0 a1 u0 u1 kc w ch0 ch1 h0 n0 v U'.heap L ∧ FrameEnd U o U' L ({ frames := 3, cells := 1, slots := 2, locals := 52 } : Room).cells ({ frames := 3, cells := 1, slots := 2, locals := 52 } : Room).slots) := by
  refine MetFree.of_bodySF (plainFor_of_name pn_2) hisR ?_
  intro p e s m args below meth c s₁ Bd hml0 hP hK
  obtain ⟨rfl, hZ, hh⟩ := hP
  have hx := Bd.exec
  have hby := Bd.bytes
  have hml : c.maxLocals = 2 := hml0
  have hown : s.vm.findClass "java/lang/String" = some m.cls := findClass_of_methodNamed Bd.named
  have hnm := (name_of_methodNamed Bd.named Bd.method).1
  have X0 : Stand p l e ({ frames := 3, cells := 1, slots := 2, locals := 52 } : Room) s m #[(.ref a0), (.ref a1)] below meth c s₁ [] 0 0 := Stand.of_body Bd
  have e0 : s₁.heap = h0 := by rw [← hh, Bd.state]; rfl
  have N0 := Fr.nil n0
  have K0 : Keep h0 h0 [a0] := Keep.refl h0 [a0]
  refine og (B := s₁.setTop (mkF m 0 #[rv a0, rv a1] [])) (fun t k => castTop (ef_si1_2 m a0 a1) k) ?_
  refine og (B := s₁.setTop (mkF m 4 #[rv a0, rv a1] [(.ref a1), (.int 0), (.ref a1), (.ref a0)])) (fun t k => ?_) ?_
  · refine XS.aloadN X0.here hx rfl (hb hby d2_0) rfl rfl ?_
    refine XS.aloadN X0.here hx rfl (hb hby d2_1) rfl rfl ?_
    refine XS.iconst X0.here hx rfl (hb hby d2_2) ?_
    refine XS.aloadN X0.here hx rfl (hb hby d2_3) rfl rfl ?_
    exact k
  obtain ⟨cl_1, Ar_1, -, S_1, M_1, -, -⟩ := id VC
  refine og (B := s₁.setTop (mkF m 5 #[rv a0, rv a1] [(.int 2), (.int 0), (.ref a1), (.ref a0)])) (fun t k => X0.arraylength hx (by rw [(e0 : _ = _)]; exact Ar_1.1) (State.isArrayOf_alike hZ.alike Ar_1.2.1) (g := (mkF m 4 #[rv a0, rv a1] [(.ref a1), (.int 0), (.ref a1), (.ref a0)])) rfl rfl (hb hby d2_4) t (by rw [len_of S_1 M_1]; exact k)) ?_
  refine og (B := s₁.setTop (mkF m 6 #[rv a0, rv a1] [.null, (.int 2), (.int 0), (.ref a1), (.ref a0)])) (fun t k => ?_) ?_
  · refine XS.aconstNull X0.here hx rfl (hb hby d2_5) ?_
    exact k
  obtain ⟨_, _, ⟨T_2, L_2, k_2, n_2⟩, -, X_2, ⟨Lc_2, hQ_2, l_2, y_2, z_2⟩, st_2⟩ := X0.specialBack hx (y := own_m4) rfl hown (mvT hZ (ow hw 12 rfl)) (mvT hZ (ow hw 13 rfl)) (mvT hZ (ow hw 15 rfl)) (by decide) (backOf (W := 0) (rmsi4_2 l Z av0 hw [] a0 a1 u0 u1 kc w ch0 ch1 h0 n0 Z0 E_a0 F_value_a0 F_coder_a0 g_a0 VC nea S_COMPACT_STRINGS hw0 hp0 hp1) hZ (ow hw 15 rfl) (ow hw 7 rfl) (by decide) (by decide)) (g := (mkF m 6 #[rv a0, rv a1] [.null, (.int 2), (.int 0), (.ref a1), (.ref a0)])) rfl (by rw [hml]; rfl) (Steps.refl _) (a := a0) (argsL := [(.ref a1), (.int 0), (.int 2), .null]) (rest := []) (lenOf pd_9 rfl) rfl (by show 2 * 0 + _ ≤ _; exact Nat.le_of_eq rfl) (hb hby d2_6) (fun _ _ => ⟨rfl, e0, (by decide : 0 + 1 ≤ _), (by decide : 0 + 2 ≤ _)⟩)
  dsimp only [Pt.U, Pt.locs, Pt.cells, Pt.slots] at X_2 l_2 y_2 z_2 st_2 hQ_2
  subst l_2 y_2 z_2
  obtain ⟨bb_2, kb_2, rfl, N_2q, K_2, Fc_2, Fv_2, szq_2, VN_2⟩ := hQ_2
  have N_2 := Fr.app N0 N_2q
  have c1 := K0.trans K_2 (allS (Or.inl (List.mem_of_getElem? (i := 0) rfl)) all0)
  have c2 := E_a0.keep K_2
  have c3 := own_stake S_COMPACT_STRINGS K_2 E_a0
  have c4 := VC.keep K_2 (ninS (Ne.symm nea) nin0)
  have Z0__2 : n0 ≤ T_2.heap.size := Nat.le_trans Z0 K_2.1
  refine og (fun t k => st_2.trans k) ?_
  obtain ⟨fs, hr, hrun, hended, hW, hsame⟩ := X_2.leave (v := none) (fun _ => rfl)
  refine ⟨_, _, ?_, hrun, hended, _, _, rfl, ?_, ⟨_, rfl⟩, hW, hsame.mono (by decide) (by decide)⟩
  · show Steps p.tables e below (T_2.setTop (mkF m 9 #[rv a0, rv a1] [])) _
    exact X_2.returnOut hx Bd.returns (hb hby d2_9) hr
  · show Qsi1_2 Z a0 a1 u0 u1 kc w ch0 ch1 h0 n0 _ T_2.heap _
    exact ⟨bb_2, kb_2, rfl, N_2, c1, Fc_2, Fv_2, szq_2, VN_2⟩
theorem ef_cfa3 (m : MethodId) (a0 : Addr) : entryFrame m #[(.ref a0), (.int 3)] 2 = mkF m 0 #[rv a0, iv 3] [] := by first | (simp [entryFrame, mkF, argsToLocals, Value.category]; done) | rfl
def Qcfa3 (Z : State) (a0 : Addr) (kb : ClassId) (vs : List Value) (h0 : Heap) (n0 : Nat) (v : Option Value) (h : Heap) (L : List Loc) : Prop := v = some (.int 0) ∧ Fr n0 L ∧ h = h0
theorem rmcfa3 (l : Launch) (Z : State) (av0 : Array Value) (hw : ∀ d ∈ tables_1, d.before av0 Z = true) (ws : List Jvm.Cond) (a0 : Addr) (kb : ClassId) (vs : List Value) (h0 : Heap) (n0 : Nat) (Z0 : n0 ≤ h0.size) (V0 : Arv Z h0 a0 kb .byte (3 : Int32) vs (.int (0 : Int32))) :
    MetFree l own_m25 (head1 (Jvm.Cond.code own_m25 jdk_52_method_15_code 2 (some .byte) :: ws) ({ frames := 0, cells := 0, slots := 0, locals := 0 } : Room)) (fun a U => a = #[(.ref a0), (.int 3)] ∧ Z.Warmed39 U.vm ∧ U.heap = h0) (fun _ _ _ _ _ => True) (fun _ U o U' => ∃ v L, o = .returned v ∧ Qcfa3 Z a0 kb vs h0 n0 v U'.heap L ∧ FrameEnd U o U' L ({ frames := 0, cells := 0, slots := 0, locals := 0 } : Room).cells ({ frames := 0, cells := 0, slots := 0, locals := 0 } : Room).slots) := by
  refine MetFree.of_bodySF (plainFor_of_name pn_24) hisR ?_
  intro p e s m args below meth c s₁ Bd hml0 hP hK
  obtain ⟨rfl, hZ, hh⟩ := hP
  have hx := Bd.exec
  have hby := Bd.bytes
  have hml : c.maxLocals = 2 := hml0
  have hown : s.vm.findClass "java/lang/StringUTF16" = some m.cls := findClass_of_methodNamed Bd.named
  have X0 : Stand p l e ({ frames := 0, cells := 0, slots := 0, locals := 0 } : Room) s m #[(.ref a0), (.int 3)] below meth c s₁ [] 0 0 := Stand.of_body Bd
  have e0 : s₁.heap = h0 := by rw [← hh, Bd.state]; rfl
  have N0 := Fr.nil n0
  have K0 : Keep h0 h0 [] := Keep.refl h0 []
  refine og (B := s₁.setTop (mkF m 0 #[rv a0, iv 3] [])) (fun t k => castTop (ef_cfa3 m a0) k) ?_
  refine og (B := s₁.setTop (mkF m 2 #[rv a0, iv 3] [(.ref a0), (.int 3)])) (fun t k => ?_) ?_
  · refine XS.iloadN X0.here hx rfl (hb hby d24_0) rfl ?_
    refine XS.aloadN X0.here hx rfl (hb hby d24_1) rfl rfl ?_
    exact k
  obtain ⟨cl_1, Ar_1, -, S_1, M_1, -, -⟩ := id V0
  refine og (B := s₁.setTop (mkF m 3 #[rv a0, iv 3] [(.int 3), (.int 3)])) (fun t k => X0.arraylength hx (by rw [(e0 : _ = _)]; exact Ar_1.1) (State.isArrayOf_alike hZ.alike Ar_1.2.1) (g := (mkF m 2 #[rv a0, iv 3] [(.ref a0), (.int 3)])) rfl rfl (hb hby d24_2) t (by rw [len_of S_1 M_1]; exact k)) ?_
  refine og (B := s₁.setTop (mkF m 8 #[rv a0, iv 3] [(.int ((((0 : Int32).toUInt32 >>> ((31 : Int32) &&& 31).toUInt32).toInt32).toInt8.toInt32))])) (fun t k => ?_) ?_
  · refine XS.isub X0.here hx rfl (hb hby d24_3) rfl ?_
    refine XS.bipush X0.here hx rfl (hb hby d24_4) ?_
    refine XS.iushr X0.here hx rfl (hb hby d24_6) rfl ?_
    refine XS.i2b X0.here hx rfl (hb hby d24_7) rfl ?_
    exact k
  obtain ⟨fs, hr, hrun, hended, hW, hsame⟩ := X0.leave (v := some (.int (nar .byte ((((0 : Int32).toUInt32 >>> ((31 : Int32) &&& 31).toUInt32).toInt32).toInt8.toInt32)))) (fun h => by rw [Bd.returns] at h; cases h)
  refine ⟨_, _, ?_, hrun, hended, _, _, rfl, ?_, ⟨_, rfl⟩, hW, hsame.mono (by decide) (by decide)⟩
  · show Steps p.tables e below (s₁.setTop (mkF m 8 #[rv a0, iv 3] [(.int ((((0 : Int32).toUInt32 >>> ((31 : Int32) &&& 31).toUInt32).toInt32).toInt8.toInt32))])) _
    exact retN X0 hx (t := .byte) Bd.returns (by simp) (hb hby d24_8) hr
  · show Qcfa3 Z a0 kb vs h0 n0 _ s₁.heap _
    rw [e0]
    exact ⟨congrArg (fun z => some (Value.int z)) (by decide), N0, rfl⟩
theorem ef_si4_3 (m : MethodId) (a0 : Addr) (a1 : Addr) : entryFrame m #[(.ref a0), (.ref a1), (.int 0), (.int 3), .null] 6 = mkF m 0 #[rv a0, rv a1, iv 0, iv 3, .val .null, oU] [] := by first | (simp [entryFrame, mkF, argsToLocals, Value.category]; done) | rfl
def Qsi4_3 (Z : State) (a0 : Addr) (a1 : Addr) (u0 : Value) (u1 : Value) (kc : ClassId) (w : Int32) (ch0 : Int32) (ch1 : Int32) (ch2 : Int32) (h0 : Heap) (n0 : Nat) (v : Option Value) (h : Heap) (L : List Loc) : Prop := ∃ (b : Addr) (kb : ClassId), v = none ∧ Fr n0 L ∧ Keep h0 h [a0] ∧ Fld Z h a0 "java/lang/String" "coder" "B" (.int (0 : Int32)) ∧ Fld Z h a0 "java/lang/String" "value" "[B" (.ref b) ∧ h0.size ≤ b ∧ Arv Z h b kb .byte (3 : Int32) [(.int (own_byte ch0)), (.int (own_byte ch1)), (.int (own_byte ch2))] (.int (0 : Int32))
theorem rmsi4_3 (l : Launch) (Z : State) (av0 : Array Value) (hw : ∀ d ∈ tables_1, d.before av0 Z = true) (ws : List Jvm.Cond) (a0 : Addr) (a1 : Addr) (u0 : Value) (u1 : Value) (kc : ClassId) (w : Int32) (ch0 : Int32) (ch1 : Int32) (ch2 : Int32) (h0 : Heap) (n0 : Nat) (Z0 : n0 ≤ h0.size) (E_a0 : Exa Z h0 a0 "java/lang/String") (F_value_a0 : Fld Z h0 a0 "java/lang/String" "value" "[B" u0) (F_coder_a0 : Fld Z h0 a0 "java/lang/String" "coder" "B" u1) (g_a0 : n0 ≤ a0) (VC : Arv Z h0 a1 kc .char (3 : Int32) [(.int ch0), (.int ch1), (.int ch2)] (.int (0 : Int32))) (nea : a0 ≠ a1) (S_COMPACT_STRINGS : Sta Z h0 "java/lang/String" "COMPACT_STRINGS" "Z" (.int w)) (hw0 : ¬ (w = (0 : Int32))) (hp0 : ¬ ((255 : Int32) < ch0)) (hp1 : ¬ ((255 : Int32) < ch1)) (hp2 : ¬ ((255 : Int32) < ch2)) :
    MetFree l own_m4 (head1 (Jvm.Cond.code own_m4 jdk_42_method_149_code 6 none :: ws) ({ frames := 2, cells := 1, slots := 3, locals := 35 } : Room)) (fun a U => a = #[(.ref a0), (.ref a1), (.int 0), (.int 3), .null] ∧ Z.Warmed39 U.vm ∧ U.heap = h0) (fun _ _ _ _ _ => True) (fun _ U o U' => ∃ v L, o = .returned v ∧ Qsi4_3 Z a0 a1 u0 u1 kc w ch0 ch1 ch2 h0 n0 v U'.heap L ∧ FrameEnd U o U' L ({ frames := 2, cells := 1, slots := 3, locals := 35 } : Room).cells ({ frames := 2, cells := 1, slots := 3, locals := 35 } : Room).slots) := by
  refine MetFree.of_bodySF (plainFor_of_name pn_3) hisR ?_
  intro p e s m args below meth c s₁ Bd hml0 hP hK
  obtain ⟨rfl, hZ, hh⟩ := hP
  have hx := Bd.exec
  have hby := Bd.bytes
  have hml : c.maxLocals = 6 := hml0
  have hown : s.vm.findClass "java/lang/String" = some m.cls := findClass_of_methodNamed Bd.named
  have hnm := (name_of_methodNamed Bd.named Bd.method).1
  have X0 : Stand p l e ({ frames := 2, cells := 1, slots := 3, locals := 35 } : Room) s m #[(.ref a0), (.ref a1), (.int 0), (.int 3), .null] below meth c s₁ [] 0 0 := Stand.of_body Bd
  have e0 : s₁.heap = h0 := by rw [← hh, Bd.state]; rfl
  have N0 := Fr.nil n0
  have K0 : Keep h0 h0 [a0] := Keep.refl h0 [a0]
  refine og (B := s₁.setTop (mkF m 0 #[rv a0, rv a1, iv 0, iv 3, .val .null, oU] [])) (fun t k => castTop (ef_si4_3 m a0 a1) k) ?_
  refine og (B := s₁.setTop (mkF m 1 #[rv a0, rv a1, iv 0, iv 3, .val .null, oU] [(.ref a0)])) (fun t k => ?_) ?_
  · refine XS.aloadN X0.here hx rfl (hb hby d3_0) rfl rfl ?_
    exact k
  obtain ⟨T_1, X_1, e_1, st_1⟩ := initO X0 hx hZ hown (ow hw 16 rfl) (ow hw 17 rfl) (ow hw 18 rfl) e0 (g := (mkF m 1 #[rv a0, rv a1, iv 0, iv 3, .val .null, oU] [(.ref a0)])) rfl (by rw [hml]; rfl) rfl (hb hby d3_1) (by decide) (W := 0) (by show 2 * 0 + _ ≤ _; exact Nat.le_of_eq rfl) (by decide)
  refine og (fun t k => st_1 t k) ?_
  refine og (B := T_1.setTop (mkF m 5 #[rv a0, rv a1, iv 0, iv 3, .val .null, oU] [(.int 3)])) (fun t k => ?_) ?_
  · refine XS.iloadN X_1.here hx rfl (hb hby d3_4) rfl ?_
    exact k
  refine og (B := T_1.setTop (mkF m 27 #[rv a0, rv a1, iv 0, iv 3, .val .null, oU] [])) (fun t k => ?_) ?_
  · refine XS.ifYes X_1.here hx rfl (pc0 := 5) (pc' := 27) rfl (hb hby d3_5) rfl ((if0 _ _).trans (feq (by decide : ¬ ((3 : Int32) = (0 : Int32)))).2) (by decide) (by decide) ?_
    exact k
  obtain ⟨T_2, X_2, e_2, st_2⟩ := getS2 X_1 hx hZ hown (host := "") (Or.inl (ow hw 59 rfl)) Via.refl e_1 S_COMPACT_STRINGS (g := (mkF m 27 #[rv a0, rv a1, iv 0, iv 3, .val .null, oU] [])) rfl (hb hby d3_27)
  refine og (fun t k => st_2 t k) ?_
  refine og (B := T_2.setTop (mkF m 33 #[rv a0, rv a1, iv 0, iv 3, .val .null, oU] [])) (fun t k => ?_) ?_
  · refine XS.ifNo X_2.here hx rfl (hb hby d3_30) rfl ((if0 _ _).trans (feq hw0).1) ?_
    exact k
  refine og (B := T_2.setTop (mkF m 36 #[rv a0, rv a1, iv 0, iv 3, .val .null, oU] [(.int 3), (.int 0), (.ref a1)])) (fun t k => ?_) ?_
  · refine XS.aloadN X_2.here hx rfl (hb hby d3_33) rfl rfl ?_
    refine XS.iloadN X_2.here hx rfl (hb hby d3_34) rfl ?_
    refine XS.iloadN X_2.here hx rfl (hb hby d3_35) rfl ?_
    exact k
  have lt_3 := (E_a0).lt
  have kk_3 := K0
  obtain ⟨_, _, ⟨T_3, L_3, k_3, n_3⟩, -, X_3, ⟨Lc_3, hQ_3, l_3, y_3, z_3⟩, st_3⟩ := Jvm.LawKit.callS X_2 hx (y := own_m23) hown (mvT hZ (ow hw 119 rfl)) (mvT hZ (ow hw 120 rfl)) (mvT hZ (ow hw 121 rfl)) (mvT hZ (ow hw 122 rfl)) (by decide) (backOf (W := 0) (rmcpr3 l Z av0 hw [] a1 kc ch0 ch1 ch2 h0 n0 Z0 VC hp0 hp1 hp2) hZ (ow hw 122 rfl) (ow hw 121 rfl) (by decide) (by decide)) (g := (mkF m 36 #[rv a0, rv a1, iv 0, iv 3, .val .null, oU] [(.int 3), (.int 0), (.ref a1)])) rfl (by rw [hml]; rfl) (argsL := [(.ref a1), (.int 0), (.int 3)]) (rest := []) (lenOf pd_7 rfl) rfl (by show 2 * 0 + _ ≤ _; exact Nat.le_of_eq rfl) (hb hby d3_36) (fun _ _ => ⟨rfl, e_2, (by decide : 0 + 1 ≤ _), (by decide : 0 + 3 ≤ _)⟩)
  dsimp only [Pt.U, Pt.locs, Pt.cells, Pt.slots] at X_3 l_3 y_3 z_3 st_3 hQ_3
  subst l_3 y_3 z_3
  obtain ⟨b_3, kb_3, rfl, N_3q, K_3, szq_3, VN_3⟩ := hQ_3
  have N_3 := Fr.app N0 N_3q
  have c1 := K0.trans K_3 all0
  have c2 := E_a0.keep K_3
  have c3 := F_value_a0.keep K_3 nin0
  have c4 := F_coder_a0.keep K_3 nin0
  have c5 := own_stak S_COMPACT_STRINGS K_3
  have c6 := VC.keep K_3 nin0
  have Z0__3 : n0 ≤ T_3.heap.size := Nat.le_trans Z0 K_3.1
  have nq_3 : a0 ≠ b_3 := Nat.ne_of_lt (Nat.lt_of_lt_of_le lt_3 szq_3)
  have szh_3 : h0.size ≤ b_3 := Nat.le_trans kk_3.1 szq_3
  refine og (fun t k => st_3 t k) ?_
  refine og (B := T_3.setTop (mkF m 45 #[rv a0, rv a1, iv 0, iv 3, .val .null, rv b_3] [(.int 3), (.ref b_3), (.ref a0)])) (fun t k => ?_) ?_
  · refine XS.astore X_3.here hx rfl (hb hby d3_39) rfl rfl (l' := #[rv a0, rv a1, iv 0, iv 3, .val .null, rv b_3]) rfl ?_
    refine XS.aloadN X_3.here hx rfl (hb hby d3_41) rfl rfl ?_
    refine XS.aload X_3.here hx rfl (hb hby d3_42) rfl rfl ?_
    refine XS.iloadN X_3.here hx rfl (hb hby d3_44) rfl ?_
    exact k
  obtain ⟨_, _, ⟨T_4, L_4, k_4, n_4⟩, -, X_4, ⟨Lc_4, hQ_4, l_4, y_4, z_4⟩, st_4⟩ := Jvm.LawKit.callS X_3 hx (y := own_m25) hown (mvT hZ (ow hw 126 rfl)) (mvT hZ (ow hw 127 rfl)) (mvT hZ (ow hw 121 rfl)) (mvT hZ (ow hw 128 rfl)) (by decide) (backOf (W := 1) (rmcfa3 l Z av0 hw [] b_3 kb_3 [(.int (own_byte ch0)), (.int (own_byte ch1)), (.int (own_byte ch2))] T_3.heap n0 Z0__3 VN_3) hZ (ow hw 128 rfl) (ow hw 121 rfl) (by decide) (by decide)) (g := (mkF m 45 #[rv a0, rv a1, iv 0, iv 3, .val .null, rv b_3] [(.int 3), (.ref b_3), (.ref a0)])) rfl (by rw [hml]; rfl) (argsL := [(.ref b_3), (.int 3)]) (rest := [(.ref a0)]) (lenOf pd_8 rfl) rfl (by show 2 * 0 + _ ≤ _; exact Nat.le_of_eq rfl) (hb hby d3_45) (fun _ _ => ⟨rfl, rfl, (by decide : 1 + 0 ≤ _), (by decide : 3 + 0 ≤ _)⟩)
  dsimp only [Pt.U, Pt.locs, Pt.cells, Pt.slots] at X_4 l_4 y_4 z_4 st_4 hQ_4
  subst l_4 y_4 z_4
  obtain ⟨rfl, N_4q, e_4⟩ := hQ_4
  have N_4 := Fr.app N_3 N_4q
  refine og (fun t k => st_4 t k) ?_
  obtain ⟨T_5, h_5, X_5, e_5, W_5, st_5⟩ := putFN X_4 hx hZ hown (ow hw 26 rfl) Via.refl e_4 c4 c2 (Or.inr ⟨(ow hw 22 rfl), rfl, hnm⟩) (ow hw 6 rfl) (ty := .byte) (v' := (.int 0)) (by decide) rfl (by decide) (g := (mkF m 48 #[rv a0, rv a1, iv 0, iv 3, .val .null, rv b_3] [(.int 0), (.ref a0)])) rfl rfl (hb hby d3_48)
  have c7 := c1.wr W_5 (Or.inl (List.mem_of_getElem? (i := 0) rfl))
  have c8 := c2.wr W_5
  have c9 := c3.other W_5 (Or.inr (slot_ne (Or.inr (ow hw 21 rfl)) (Or.inr (ow hw 22 rfl)) (by decide) (t := (.array .byte)) (t' := .byte) (by decide) (by decide)))
  have c10 := c4.same W_5
  have c11 := c5.wr W_5
  have c12 := c6.other W_5 (Ne.symm nea)
  have c13 := VN_3.other W_5 (Ne.symm nq_3)
  have N_5 := Fr.snoc X_5 N_4 g_a0
  have Z0__5 : n0 ≤ h_5.size := by rw [W_5.size]; exact Z0__3
  refine og (fun t k => st_5 t k) ?_
  refine og (B := T_5.setTop (mkF m 54 #[rv a0, rv a1, iv 0, iv 3, .val .null, rv b_3] [(.ref b_3), (.ref a0)])) (fun t k => ?_) ?_
  · refine XS.aloadN X_5.here hx rfl (hb hby d3_51) rfl rfl ?_
    refine XS.aload X_5.here hx rfl (hb hby d3_52) rfl rfl ?_
    exact k
  obtain ⟨T_6, h_6, X_6, e_6, W_6, st_6⟩ := putF X_5 hx hZ hown (host := "") (Or.inl (ow hw 25 rfl)) Via.refl e_5 c9 c8 (Or.inr ⟨(ow hw 21 rfl), rfl, hnm⟩) (ow hw 6 rfl) (ty := (.array .byte)) (by decide) rfl rfl (g := (mkF m 54 #[rv a0, rv a1, iv 0, iv 3, .val .null, rv b_3] [(.ref b_3), (.ref a0)])) rfl rfl (hb hby d3_54)
  have c14 := c7.wr W_6 (Or.inl (List.mem_of_getElem? (i := 0) rfl))
  have c15 := c8.wr W_6
  have c16 := c9.same W_6
  have c17 := c10.other W_6 (Or.inr (slot_ne (Or.inr (ow hw 22 rfl)) (Or.inr (ow hw 21 rfl)) (by decide) (t := .byte) (t' := (.array .byte)) (by decide) (by decide)))
  have c18 := c11.wr W_6
  have c19 := c12.other W_6 (Ne.symm nea)
  have c20 := c13.other W_6 (Ne.symm nq_3)
  have N_6 := Fr.snoc X_6 N_5 g_a0
  have Z0__6 : n0 ≤ h_6.size := by rw [W_6.size]; exact Z0__5
  refine og (fun t k => st_6 t k) ?_
  obtain ⟨fs, hr, hrun, hended, hW, hsame⟩ := X_6.leave (v := none) (fun _ => rfl)
  refine ⟨_, _, ?_, hrun, hended, _, _, rfl, ?_, ⟨_, rfl⟩, hW, hsame.mono (by decide) (by decide)⟩
  · show Steps p.tables e below (T_6.setTop (mkF m 57 #[rv a0, rv a1, iv 0, iv 3, .val .null, rv b_3] [])) _
    exact X_6.returnOut hx Bd.returns (hb hby d3_57) hr
  · show Qsi4_3 Z a0 a1 u0 u1 kc w ch0 ch1 ch2 h0 n0 _ T_6.heap _
    rw [e_6]
    exact ⟨b_3, kb_3, rfl, N_6, c14, c17, c16, szh_3, c20⟩
theorem ef_si1_3 (m : MethodId) (a0 : Addr) (a1 : Addr) : entryFrame m #[(.ref a0), (.ref a1)] 2 = mkF m 0 #[rv a0, rv a1] [] := by first | (simp [entryFrame, mkF, argsToLocals, Value.category]; done) | rfl
def Qsi1_3 (Z : State) (a0 : Addr) (a1 : Addr) (u0 : Value) (u1 : Value) (kc : ClassId) (w : Int32) (ch0 : Int32) (ch1 : Int32) (ch2 : Int32) (h0 : Heap) (n0 : Nat) (v : Option Value) (h : Heap) (L : List Loc) : Prop := ∃ (b : Addr) (kb : ClassId), v = none ∧ Fr n0 L ∧ Keep h0 h [a0] ∧ Fld Z h a0 "java/lang/String" "coder" "B" (.int (0 : Int32)) ∧ Fld Z h a0 "java/lang/String" "value" "[B" (.ref b) ∧ h0.size ≤ b ∧ Arv Z h b kb .byte (3 : Int32) [(.int (own_byte ch0)), (.int (own_byte ch1)), (.int (own_byte ch2))] (.int (0 : Int32))
theorem rmsi1_3 (l : Launch) (Z : State) (av0 : Array Value) (hw : ∀ d ∈ tables_1, d.before av0 Z = true) (ws : List Jvm.Cond) (a0 : Addr) (a1 : Addr) (u0 : Value) (u1 : Value) (kc : ClassId) (w : Int32) (ch0 : Int32) (ch1 : Int32) (ch2 : Int32) (h0 : Heap) (n0 : Nat) (Z0 : n0 ≤ h0.size) (E_a0 : Exa Z h0 a0 "java/lang/String") (F_value_a0 : Fld Z h0 a0 "java/lang/String" "value" "[B" u0) (F_coder_a0 : Fld Z h0 a0 "java/lang/String" "coder" "B" u1) (g_a0 : n0 ≤ a0) (VC : Arv Z h0 a1 kc .char (3 : Int32) [(.int ch0), (.int ch1), (.int ch2)] (.int (0 : Int32))) (nea : a0 ≠ a1) (S_COMPACT_STRINGS : Sta Z h0 "java/lang/String" "COMPACT_STRINGS" "Z" (.int w)) (hw0 : ¬ (w = (0 : Int32))) (hp0 : ¬ ((255 : Int32) < ch0)) (hp1 : ¬ ((255 : Int32) < ch1)) (hp2 : ¬ ((255 : Int32) < ch2)) :
    MetFree l own_m3 (head1 (Jvm.Cond.code own_m3 jdk_42_method_3_code 2 none :: ws) ({ frames := 3, cells := 1, slots := 3, locals := 52 } : Room)) (fun a U => a = #[(.ref a0), (.ref a1)] ∧ Z.Warmed39 U.vm ∧ U.heap = h0) (fun _ _ _ _ _ => True) (fun _ U o U' => ∃ v L, o = .returned v ∧ Qsi1_3 Z a0 a1 u0 u1 kc w ch0 ch1 ch2 h0 n0 v U'.heap L ∧ FrameEnd U o U' L ({ frames := 3, cells := 1, slots := 3, locals := 52 } : Room).cells ({ frames := 3, cells := 1, slots := 3, locals := 52 } : Room).slots) := by
  refine MetFree.of_bodySF (plainFor_of_name pn_2) hisR ?_
  intro p e s m args below meth c s₁ Bd hml0 hP hK
  obtain ⟨rfl, hZ, hh⟩ := hP
  have hx := Bd.exec
  have hby := Bd.bytes
  have hml : c.maxLocals = 2 := hml0
  have hown : s.vm.findClass "java/lang/String" = some m.cls := findClass_of_methodNamed Bd.named
  have hnm := (name_of_methodNamed Bd.named Bd.method).1
  have X0 : Stand p l e ({ frames := 3, cells := 1, slots := 3, locals := 52 } : Room) s m #[(.ref a0), (.ref a1)] below meth c s₁ [] 0 0 := Stand.of_body Bd
  have e0 : s₁.heap = h0 := by rw [← hh, Bd.state]; rfl
  have N0 := Fr.nil n0
  have K0 : Keep h0 h0 [a0] := Keep.refl h0 [a0]
  refine og (B := s₁.setTop (mkF m 0 #[rv a0, rv a1] [])) (fun t k => castTop (ef_si1_3 m a0 a1) k) ?_
  refine og (B := s₁.setTop (mkF m 4 #[rv a0, rv a1] [(.ref a1), (.int 0), (.ref a1), (.ref a0)])) (fun t k => ?_) ?_
  · refine XS.aloadN X0.here hx rfl (hb hby d2_0) rfl rfl ?_
    refine XS.aloadN X0.here hx rfl (hb hby d2_1) rfl rfl ?_
    refine XS.iconst X0.here hx rfl (hb hby d2_2) ?_
    refine XS.aloadN X0.here hx rfl (hb hby d2_3) rfl rfl ?_
    exact k
  obtain ⟨cl_1, Ar_1, -, S_1, M_1, -, -⟩ := id VC
  refine og (B := s₁.setTop (mkF m 5 #[rv a0, rv a1] [(.int 3), (.int 0), (.ref a1), (.ref a0)])) (fun t k => X0.arraylength hx (by rw [(e0 : _ = _)]; exact Ar_1.1) (State.isArrayOf_alike hZ.alike Ar_1.2.1) (g := (mkF m 4 #[rv a0, rv a1] [(.ref a1), (.int 0), (.ref a1), (.ref a0)])) rfl rfl (hb hby d2_4) t (by rw [len_of S_1 M_1]; exact k)) ?_
  refine og (B := s₁.setTop (mkF m 6 #[rv a0, rv a1] [.null, (.int 3), (.int 0), (.ref a1), (.ref a0)])) (fun t k => ?_) ?_
  · refine XS.aconstNull X0.here hx rfl (hb hby d2_5) ?_
    exact k
  obtain ⟨_, _, ⟨T_2, L_2, k_2, n_2⟩, -, X_2, ⟨Lc_2, hQ_2, l_2, y_2, z_2⟩, st_2⟩ := X0.specialBack hx (y := own_m4) rfl hown (mvT hZ (ow hw 12 rfl)) (mvT hZ (ow hw 13 rfl)) (mvT hZ (ow hw 15 rfl)) (by decide) (backOf (W := 0) (rmsi4_3 l Z av0 hw [] a0 a1 u0 u1 kc w ch0 ch1 ch2 h0 n0 Z0 E_a0 F_value_a0 F_coder_a0 g_a0 VC nea S_COMPACT_STRINGS hw0 hp0 hp1 hp2) hZ (ow hw 15 rfl) (ow hw 7 rfl) (by decide) (by decide)) (g := (mkF m 6 #[rv a0, rv a1] [.null, (.int 3), (.int 0), (.ref a1), (.ref a0)])) rfl (by rw [hml]; rfl) (Steps.refl _) (a := a0) (argsL := [(.ref a1), (.int 0), (.int 3), .null]) (rest := []) (lenOf pd_9 rfl) rfl (by show 2 * 0 + _ ≤ _; exact Nat.le_of_eq rfl) (hb hby d2_6) (fun _ _ => ⟨rfl, e0, (by decide : 0 + 1 ≤ _), (by decide : 0 + 3 ≤ _)⟩)
  dsimp only [Pt.U, Pt.locs, Pt.cells, Pt.slots] at X_2 l_2 y_2 z_2 st_2 hQ_2
  subst l_2 y_2 z_2
  obtain ⟨bb_2, kb_2, rfl, N_2q, K_2, Fc_2, Fv_2, szq_2, VN_2⟩ := hQ_2
  have N_2 := Fr.app N0 N_2q
  have c1 := K0.trans K_2 (allS (Or.inl (List.mem_of_getElem? (i := 0) rfl)) all0)
  have c2 := E_a0.keep K_2
  have c3 := own_stake S_COMPACT_STRINGS K_2 E_a0
  have c4 := VC.keep K_2 (ninS (Ne.symm nea) nin0)
  have Z0__2 : n0 ≤ T_2.heap.size := Nat.le_trans Z0 K_2.1
  refine og (fun t k => st_2.trans k) ?_
  obtain ⟨fs, hr, hrun, hended, hW, hsame⟩ := X_2.leave (v := none) (fun _ => rfl)
  refine ⟨_, _, ?_, hrun, hended, _, _, rfl, ?_, ⟨_, rfl⟩, hW, hsame.mono (by decide) (by decide)⟩
  · show Steps p.tables e below (T_2.setTop (mkF m 9 #[rv a0, rv a1] [])) _
    exact X_2.returnOut hx Bd.returns (hb hby d2_9) hr
  · show Qsi1_3 Z a0 a1 u0 u1 kc w ch0 ch1 ch2 h0 n0 _ T_2.heap _
    exact ⟨bb_2, kb_2, rfl, N_2, c1, Fc_2, Fv_2, szq_2, VN_2⟩
theorem d3_8 : decode jdk_42_method_149_code 8 = .ok (.aload_n 0, 1) := by decide +kernel
theorem d3_9 : decode jdk_42_method_149_code 9 = .ok (.ldc 7, 2) := by decide +kernel
theorem d3_11 : decode jdk_42_method_149_code 11 = .ok (.getfield 9, 3) := by decide +kernel
theorem d3_14 : decode jdk_42_method_149_code 14 = .ok (.putfield 9, 3) := by decide +kernel
theorem d3_17 : decode jdk_42_method_149_code 17 = .ok (.aload_n 0, 1) := by decide +kernel
theorem d3_18 : decode jdk_42_method_149_code 18 = .ok (.ldc 7, 2) := by decide +kernel
theorem d3_20 : decode jdk_42_method_149_code 20 = .ok (.getfield 15, 3) := by decide +kernel
theorem d3_23 : decode jdk_42_method_149_code 23 = .ok (.putfield 15, 3) := by decide +kernel
theorem d3_26 : decode jdk_42_method_149_code 26 = .ok (.return_, 1) := by decide +kernel
theorem ef_si4_0 (m : MethodId) (a0 : Addr) (a1 : Addr) : entryFrame m #[(.ref a0), (.ref a1), (.int 0), (.int 0), .null] 6 = mkF m 0 #[rv a0, rv a1, iv 0, iv 0, .val .null, oU] [] := by first | (simp [entryFrame, mkF, argsToLocals, Value.category]; done) | rfl
def Qsi4_0 (Z : State) (a0 : Addr) (a1 : Addr) (u1 : Value) (kc : ClassId) (h0 : Heap) (n0 : Nat) (v : Option Value) (h : Heap) (L : List Loc) : Prop := ∃ (b : Addr) (kb : ClassId), v = none ∧ Fr n0 L ∧ Keep h0 h [a0] ∧ Fld Z h a0 "java/lang/String" "coder" "B" (.int (0 : Int32)) ∧ Fld Z h a0 "java/lang/String" "value" "[B" (.ref b) ∧ b < h.size ∧ Arv Z h b kb .byte (0 : Int32) [] (.int (0 : Int32))
theorem rmsi4_0 (l : Launch) (Z : State) (av0 : Array Value) (hw : ∀ d ∈ tables_1, d.before av0 Z = true) (ws : List Jvm.Cond) (a0 : Addr) (a1 : Addr) (u1 : Value) (kc : ClassId) (h0 : Heap) (n0 : Nat) (Z0 : n0 ≤ h0.size) (E_a0 : Exa Z h0 a0 "java/lang/String") (F_value_a0 : Fld Z h0 a0 "java/lang/String" "value" "[B" .null) (F_coder_a0 : Fld Z h0 a0 "java/lang/String" "coder" "B" u1) (g_a0 : n0 ≤ a0) (VC : Arv Z h0 a1 kc .char (0 : Int32) [] (.int (0 : Int32))) (nea : a0 ≠ a1) (hEL : EW Z av0 own_EL) :
    MetFree l own_m4 (head1 (Jvm.Cond.code own_m4 jdk_42_method_149_code 6 none :: ws) ({ frames := 1, cells := 4, slots := 8, locals := 12 } : Room)) (fun a U => a = #[(.ref a0), (.ref a1), (.int 0), (.int 0), .null] ∧ Z.Warmed39 U.vm ∧ U.heap = h0 ∧ CHv Z own_EL U.vm h0) (fun _ _ _ _ _ => True) (fun _ U o U' => ∃ v L, o = .returned v ∧ Qsi4_0 Z a0 a1 u1 kc h0 n0 v U'.heap L ∧ CHr Z own_EL U.vm U.heap U'.vm U'.heap ∧ ReturnedEndW U o U' L ({ frames := 1, cells := 4, slots := 8, locals := 12 } : Room).cells ({ frames := 1, cells := 4, slots := 8, locals := 12 } : Room).slots) := by
  refine MetFree.of_bodySF (plainFor_of_name pn_3) hisR ?_
  intro p e s m args below meth c s₁ Bd hml0 hP hK
  obtain ⟨rfl, hZ, hh, H0⟩ := hP
  have hx := Bd.exec
  have hby := Bd.bytes
  have hml : c.maxLocals = 6 := hml0
  have hown : s.vm.findClass "java/lang/String" = some m.cls := findClass_of_methodNamed Bd.named
  have hnm := (name_of_methodNamed Bd.named Bd.method).1
  have X0 : Stand p l e ({ frames := 1, cells := 4, slots := 8, locals := 12 } : Room) s m #[(.ref a0), (.ref a1), (.int 0), (.int 0), .null] below meth c s₁ [] 0 0 := Stand.of_body Bd
  have e0 : s₁.heap = h0 := by rw [← hh, Bd.state]; rfl
  have N0 := Fr.nil n0
  have H1 : CHr Z own_EL s.vm h0 s.vm h0 := ⟨H0, Nat.le_refl _, fun _ q => Or.inl q⟩
  have SF0 : Safe Z own_EL s.vm h0 a0 := own_safe_null hZ.alike E_a0 F_value_a0
  have K0 : Keep h0 h0 [a0] := Keep.refl h0 [a0]
  refine og (B := s₁.setTop (mkF m 0 #[rv a0, rv a1, iv 0, iv 0, .val .null, oU] [])) (fun t k => castTop (ef_si4_0 m a0 a1) k) ?_
  refine og (B := s₁.setTop (mkF m 1 #[rv a0, rv a1, iv 0, iv 0, .val .null, oU] [(.ref a0)])) (fun t k => ?_) ?_
  · refine XS.aloadN X0.here hx rfl (hb hby d3_0) rfl rfl ?_
    exact k
  obtain ⟨T_1, X_1, e_1, st_1⟩ := initO X0 hx hZ hown (ow hw 16 rfl) (ow hw 17 rfl) (ow hw 18 rfl) e0 (g := (mkF m 1 #[rv a0, rv a1, iv 0, iv 0, .val .null, oU] [(.ref a0)])) rfl (by rw [hml]; rfl) rfl (hb hby d3_1) (by decide) (W := 0) (by show 2 * 0 + _ ≤ _; exact Nat.le_of_eq rfl) (by decide)
  refine og (fun t k => st_1 t k) ?_
  refine og (B := T_1.setTop (mkF m 5 #[rv a0, rv a1, iv 0, iv 0, .val .null, oU] [(.int 0)])) (fun t k => ?_) ?_
  · refine XS.iloadN X_1.here hx rfl (hb hby d3_4) rfl ?_
    exact k
  refine og (B := T_1.setTop (mkF m 8 #[rv a0, rv a1, iv 0, iv 0, .val .null, oU] [])) (fun t k => ?_) ?_
  · refine XS.ifNo X_1.here hx rfl (hb hby d3_5) rfl ((if0 _ _).trans (teq (by decide : (0 : Int32) = (0 : Int32))).2) ?_
    exact k
  refine og (B := T_1.setTop (mkF m 9 #[rv a0, rv a1, iv 0, iv 0, .val .null, oU] [(.ref a0)])) (fun t k => ?_) ?_
  · refine XS.aloadN X_1.here hx rfl (hb hby d3_8) rfl rfl ?_
    exact k
  have wS_2 := own_wS hw
  obtain ⟨b_2, T_2, h_2, k1_2, d_2, kc_2, X_2, e_2, E_2, Si_2, ls_2, hZ_2, hown_2, A_2, Fc_2, Fv_2, V_2, -, -, CH_2, -, NE_2, st_2⟩ := ldcCH (s := s) (vm0 := s.vm) (show Stand p l e ({ frames := 1, cells := 4, slots := 8, locals := 12 } : Room) (s.setVm s.vm) m #[(.ref a0), (.ref a1), (.int 0), (.int 0), .null] below meth c T_1 _ _ _ from X_1) hx hZ hown (ow hw 19 rfl) wS_2 e_1 ((State.WarmedH.refl s).since 0) (Nat.zero_le _) hEL (List.mem_of_getElem? (i := 0) rfl) H1.1 (vs := []) (z := (0 : Int32)) ⟨by decide, rfl⟩ (by decide) rfl (g := (mkF m 9 #[rv a0, rv a1, iv 0, iv 0, .val .null, oU] [(.ref a0)])) rfl (hb hby d3_9) (n := 0) (by decide) (by decide) (by decide) (by decide)
  have c1 := CHr.safe CH_2 (E_a0).lt SF0
  have c2 := H1.trans CH_2
  have ne_a0_b_2 : a0 ≠ b_2 := (NE_2 _ c1).1
  have ne_a0_d_2 : a0 ≠ d_2 := (NE_2 _ c1).2
  have c3 := K0.ext E_2
  have c4 := E_a0.ext E_2
  have c5 := F_value_a0.ext E_2
  have c6 := F_coder_a0.ext E_2
  have c7 := VC.ext E_2
  have Z0__2 : n0 ≤ h_2.size := Nat.le_trans Z0 E_2.1
  refine og (fun t k => st_2 t k) ?_
  obtain ⟨T_3, X_3, e_3, st_3⟩ := getF X_2 hx hZ_2 hown_2 (host := "") (Or.inl (ow hw 25 rfl)) Via.refl e_2 Fv_2 (g := (mkF m 11 #[rv a0, rv a1, iv 0, iv 0, .val .null, oU] [(.ref b_2), (.ref a0)])) rfl rfl (hb hby d3_11)
  refine og (fun t k => st_3 t k) ?_
  obtain ⟨T_4, h_4, X_4, e_4, W_4, st_4⟩ := putF X_3 hx hZ_2 hown_2 (host := "") (Or.inl (ow hw 25 rfl)) Via.refl e_3 c5 c4 (Or.inr ⟨(ow hw 21 rfl), rfl, hnm⟩) (ow hw 6 rfl) (ty := (.array .byte)) (by decide) rfl rfl (g := (mkF m 14 #[rv a0, rv a1, iv 0, iv 0, .val .null, oU] [(.ref d_2), (.ref a0)])) rfl rfl (hb hby d3_14)
  have c8 := Safe.wr W_4 c1 c2.1 c1
  have c9 := c2.trans (CHr.wr W_4 c1 c2.1)
  have c10 := Nat.le_trans ls_2 (Nat.le_of_eq W_4.size.symm)
  have c11 := c3.wr W_4 (Or.inl (List.mem_of_getElem? (i := 0) rfl))
  have c12 := c4.wr W_4
  have c13 := c5.same W_4
  have c14 := c6.other W_4 (Or.inr (slot_ne (Or.inr (ow hw 22 rfl)) (Or.inr (ow hw 21 rfl)) (by decide) (t := .byte) (t' := (.array .byte)) (by decide) (by decide)))
  have c15 := c7.other W_4 (Ne.symm nea)
  have c16 := A_2.wr W_4
  have c17 := Fc_2.other W_4 (Or.inl (Ne.symm ne_a0_b_2))
  have c18 := Fv_2.other W_4 (Or.inl (Ne.symm ne_a0_b_2))
  have c19 := V_2.other W_4 (Ne.symm ne_a0_d_2)
  have N_4 := Fr.snoc X_4 N0 g_a0
  have Z0__4 : n0 ≤ h_4.size := by rw [W_4.size]; exact Z0__2
  refine og (fun t k => st_4 t k) ?_
  refine og (B := T_4.setTop (mkF m 18 #[rv a0, rv a1, iv 0, iv 0, .val .null, oU] [(.ref a0)])) (fun t k => ?_) ?_
  · refine XS.aloadN X_4.here hx rfl (hb hby d3_17) rfl rfl ?_
    exact k
  have wS_5 := own_wS hw
  obtain ⟨b_5, T_5, h_5, k1_5, d_5, kc_5, X_5, e_5, E_5, Si_5, ls_5, hZ_5, hown_5, A_5, Fc_5, Fv_5, V_5, -, -, CH_5, -, NE_5, st_5⟩ := ldcCH (s := s) (vm0 := T_2.vm) X_4 hx hZ_2 hown_2 (ow hw 19 rfl) wS_5 e_4 Si_2 c10 hEL (List.mem_of_getElem? (i := 0) rfl) c9.1 (vs := []) (z := (0 : Int32)) ⟨by decide, rfl⟩ (by decide) rfl (g := (mkF m 18 #[rv a0, rv a1, iv 0, iv 0, .val .null, oU] [(.ref a0)])) rfl (hb hby d3_18) (n := 0) (by decide) (by decide) (by decide) (by decide)
  have c20 := CHr.safe CH_5 (c12).lt c8
  have c21 := c9.trans CH_5
  have ne_a0_b_5 : a0 ≠ b_5 := (NE_5 _ c20).1
  have ne_a0_d_5 : a0 ≠ d_5 := (NE_5 _ c20).2
  have c22 := c11.ext E_5
  have c23 := c12.ext E_5
  have c24 := c13.ext E_5
  have c25 := c14.ext E_5
  have c26 := c15.ext E_5
  have c27 := c16.ext E_5
  have c28 := c17.ext E_5
  have c29 := c18.ext E_5
  have c30 := c19.ext E_5
  have Z0__5 : n0 ≤ h_5.size := Nat.le_trans Z0__4 E_5.1
  refine og (fun t k => st_5 t k) ?_
  obtain ⟨T_6, X_6, e_6, st_6⟩ := getF X_5 hx hZ_5 hown_5 (host := "") (Or.inl (ow hw 26 rfl)) Via.refl e_5 Fc_5 (g := (mkF m 20 #[rv a0, rv a1, iv 0, iv 0, .val .null, oU] [(.ref b_5), (.ref a0)])) rfl rfl (hb hby d3_20)
  refine og (fun t k => st_6 t k) ?_
  obtain ⟨T_7, h_7, X_7, e_7, W_7, st_7⟩ := putFN X_6 hx hZ_5 hown_5 (ow hw 26 rfl) Via.refl e_6 c25 c23 (Or.inr ⟨(ow hw 22 rfl), rfl, hnm⟩) (ow hw 6 rfl) (ty := .byte) (v' := (.int 0)) (by decide) rfl (by decide) (g := (mkF m 23 #[rv a0, rv a1, iv 0, iv 0, .val .null, oU] [(.int 0), (.ref a0)])) rfl rfl (hb hby d3_23)
  have c31 := Safe.wr W_7 c20 c21.1 c20
  have c32 := c21.trans (CHr.wr W_7 c20 c21.1)
  have c33 := Nat.le_trans ls_5 (Nat.le_of_eq W_7.size.symm)
  have c34 := c22.wr W_7 (Or.inl (List.mem_of_getElem? (i := 0) rfl))
  have c35 := c23.wr W_7
  have c36 := c24.other W_7 (Or.inr (slot_ne (Or.inr (ow hw 21 rfl)) (Or.inr (ow hw 22 rfl)) (by decide) (t := (.array .byte)) (t' := .byte) (by decide) (by decide)))
  have c37 := c25.same W_7
  have c38 := c26.other W_7 (Ne.symm nea)
  have c39 := c27.wr W_7
  have c40 := c28.other W_7 (Or.inl (Ne.symm ne_a0_b_2))
  have c41 := c29.other W_7 (Or.inl (Ne.symm ne_a0_b_2))
  have c42 := c30.other W_7 (Ne.symm ne_a0_d_2)
  have c43 := A_5.wr W_7
  have c44 := Fc_5.other W_7 (Or.inl (Ne.symm ne_a0_b_5))
  have c45 := Fv_5.other W_7 (Or.inl (Ne.symm ne_a0_b_5))
  have c46 := V_5.other W_7 (Ne.symm ne_a0_d_5)
  have N_7 := Fr.snoc X_7 N_4 g_a0
  have Z0__7 : n0 ≤ h_7.size := by rw [W_7.size]; exact Z0__5
  refine og (fun t k => st_7 t k) ?_
  obtain ⟨fs, hr, hrun, hended, hRW⟩ := X_7.leaveW Si_5 (by rw [e_7]; exact c33) (v := none) (fun _ => rfl)
  have hCH : CHr Z own_EL s.vm s.heap T_7.vm T_7.heap := by rw [hh, e_7]; exact (c32.trans (CHv.at X_7 hZ_5 hEL c32.1))
  refine ⟨_, _, ?_, hrun, hended, _, _, rfl, ?_, hCH, hRW.1, hRW.2.1, hRW.2.2.1, hRW.2.2.2.mono (by decide) (by decide)⟩
  · show Steps p.tables e below (T_7.setTop (mkF m 26 #[rv a0, rv a1, iv 0, iv 0, .val .null, oU] [])) _
    exact X_7.returnOut hx Bd.returns (hb hby d3_26) hr
  · show Qsi4_0 Z a0 a1 u1 kc h0 n0 _ T_7.heap _
    rw [e_7]
    exact ⟨d_2, kc_2, rfl, N_7, c34, c37, c36, c42.lt, c42⟩
theorem ef_si1_0 (m : MethodId) (a0 : Addr) (a1 : Addr) : entryFrame m #[(.ref a0), (.ref a1)] 2 = mkF m 0 #[rv a0, rv a1] [] := by first | (simp [entryFrame, mkF, argsToLocals, Value.category]; done) | rfl
def Qsi1_0 (Z : State) (a0 : Addr) (a1 : Addr) (u1 : Value) (kc : ClassId) (h0 : Heap) (n0 : Nat) (v : Option Value) (h : Heap) (L : List Loc) : Prop := ∃ (b : Addr) (kb : ClassId), v = none ∧ Fr n0 L ∧ Keep h0 h [a0] ∧ Fld Z h a0 "java/lang/String" "coder" "B" (.int (0 : Int32)) ∧ Fld Z h a0 "java/lang/String" "value" "[B" (.ref b) ∧ b < h.size ∧ Arv Z h b kb .byte (0 : Int32) [] (.int (0 : Int32))
theorem rmsi1_0 (l : Launch) (Z : State) (av0 : Array Value) (hw : ∀ d ∈ tables_1, d.before av0 Z = true) (ws : List Jvm.Cond) (a0 : Addr) (a1 : Addr) (u1 : Value) (kc : ClassId) (h0 : Heap) (n0 : Nat) (Z0 : n0 ≤ h0.size) (E_a0 : Exa Z h0 a0 "java/lang/String") (F_value_a0 : Fld Z h0 a0 "java/lang/String" "value" "[B" .null) (F_coder_a0 : Fld Z h0 a0 "java/lang/String" "coder" "B" u1) (g_a0 : n0 ≤ a0) (VC : Arv Z h0 a1 kc .char (0 : Int32) [] (.int (0 : Int32))) (nea : a0 ≠ a1) (hEL : EW Z av0 own_EL) :
    MetFree l own_m3 (head1 (Jvm.Cond.code own_m3 jdk_42_method_3_code 2 none :: ws) ({ frames := 2, cells := 4, slots := 8, locals := 29 } : Room)) (fun a U => a = #[(.ref a0), (.ref a1)] ∧ Z.Warmed39 U.vm ∧ U.heap = h0 ∧ CHv Z own_EL U.vm h0) (fun _ _ _ _ _ => True) (fun _ U o U' => ∃ v L, o = .returned v ∧ Qsi1_0 Z a0 a1 u1 kc h0 n0 v U'.heap L ∧ CHr Z own_EL U.vm U.heap U'.vm U'.heap ∧ ReturnedEndW U o U' L ({ frames := 2, cells := 4, slots := 8, locals := 29 } : Room).cells ({ frames := 2, cells := 4, slots := 8, locals := 29 } : Room).slots) := by
  refine MetFree.of_bodySF (plainFor_of_name pn_2) hisR ?_
  intro p e s m args below meth c s₁ Bd hml0 hP hK
  obtain ⟨rfl, hZ, hh, H0⟩ := hP
  have hx := Bd.exec
  have hby := Bd.bytes
  have hml : c.maxLocals = 2 := hml0
  have hown : s.vm.findClass "java/lang/String" = some m.cls := findClass_of_methodNamed Bd.named
  have hnm := (name_of_methodNamed Bd.named Bd.method).1
  have X0 : Stand p l e ({ frames := 2, cells := 4, slots := 8, locals := 29 } : Room) s m #[(.ref a0), (.ref a1)] below meth c s₁ [] 0 0 := Stand.of_body Bd
  have e0 : s₁.heap = h0 := by rw [← hh, Bd.state]; rfl
  have N0 := Fr.nil n0
  have H1 : CHr Z own_EL s.vm h0 s.vm h0 := ⟨H0, Nat.le_refl _, fun _ q => Or.inl q⟩
  have SF0 : Safe Z own_EL s.vm h0 a0 := own_safe_null hZ.alike E_a0 F_value_a0
  have K0 : Keep h0 h0 [a0] := Keep.refl h0 [a0]
  refine og (B := s₁.setTop (mkF m 0 #[rv a0, rv a1] [])) (fun t k => castTop (ef_si1_0 m a0 a1) k) ?_
  refine og (B := s₁.setTop (mkF m 4 #[rv a0, rv a1] [(.ref a1), (.int 0), (.ref a1), (.ref a0)])) (fun t k => ?_) ?_
  · refine XS.aloadN X0.here hx rfl (hb hby d2_0) rfl rfl ?_
    refine XS.aloadN X0.here hx rfl (hb hby d2_1) rfl rfl ?_
    refine XS.iconst X0.here hx rfl (hb hby d2_2) ?_
    refine XS.aloadN X0.here hx rfl (hb hby d2_3) rfl rfl ?_
    exact k
  obtain ⟨cl_1, Ar_1, -, S_1, M_1, -, -⟩ := id VC
  refine og (B := s₁.setTop (mkF m 5 #[rv a0, rv a1] [(.int 0), (.int 0), (.ref a1), (.ref a0)])) (fun t k => X0.arraylength hx (by rw [(e0 : _ = _)]; exact Ar_1.1) (State.isArrayOf_alike hZ.alike Ar_1.2.1) (g := (mkF m 4 #[rv a0, rv a1] [(.ref a1), (.int 0), (.ref a1), (.ref a0)])) rfl rfl (hb hby d2_4) t (by rw [len_of S_1 M_1]; exact k)) ?_
  refine og (B := s₁.setTop (mkF m 6 #[rv a0, rv a1] [.null, (.int 0), (.int 0), (.ref a1), (.ref a0)])) (fun t k => ?_) ?_
  · refine XS.aconstNull X0.here hx rfl (hb hby d2_5) ?_
    exact k
  obtain ⟨_, _, ⟨T_2, L_2, k_2, n_2⟩, -, Xb_2, Sb_2, gs_2, ⟨Lc_2, hQ_2, l_2, y_2, z_2, CH_2⟩, st_2⟩ := (show Stand p l e ({ frames := 2, cells := 4, slots := 8, locals := 29 } : Room) (s.setVm s.vm) m #[(.ref a0), (.ref a1)] below meth c s₁ _ _ _ from X0).specialBackS hx (y := own_m4) rfl hown (mvT hZ (ow hw 12 rfl)) (mvT hZ (ow hw 13 rfl)) (mvT hZ (ow hw 15 rfl)) (by decide) (backOfSH (s := s) (vm0 := s.vm) (W := 0) (rmsi4_0 l Z av0 hw [] a0 a1 u1 kc h0 n0 Z0 E_a0 F_value_a0 F_coder_a0 g_a0 VC nea hEL) hZ (ow hw 15 rfl) (ow hw 7 rfl) (by decide) (by decide) hEL H1.1) (g := (mkF m 6 #[rv a0, rv a1] [.null, (.int 0), (.int 0), (.ref a1), (.ref a0)])) rfl (by rw [hml]; rfl) (Steps.refl _) (a := a0) (argsL := [(.ref a1), (.int 0), (.int 0), .null]) (rest := []) (lenOf pd_9 rfl) rfl (by show 2 * 0 + _ ≤ _; exact Nat.le_of_eq rfl) (hb hby d2_6) (fun _ _ => ⟨rfl, e0, (by decide : 0 + 4 ≤ _), (by decide : 0 + 8 ≤ _)⟩)
  dsimp only [Pt.U, Pt.locs, Pt.cells, Pt.slots] at Xb_2 Sb_2 gs_2 l_2 y_2 z_2 st_2 hQ_2 CH_2
  subst l_2 y_2 z_2
  obtain ⟨bb_2, kb_2, rfl, N_2q, K_2, Fc_2, Fv_2, szq_2, VN_2⟩ := hQ_2
  have N_2 := Fr.app N0 N_2q
  obtain ⟨X_2, Si_2, hZ_2, hown_2⟩ := rebS (s := s) (vm0 := s.vm) ((State.WarmedH.refl s).since 0) (Nat.zero_le 0) Xb_2 Sb_2 (Nat.zero_le _) hZ hown
  have c1 := CHr.safe CH_2 (E_a0).lt SF0
  have c2 := H1.trans CH_2
  have c3 := K0.trans K_2 (allS (Or.inl (List.mem_of_getElem? (i := 0) rfl)) all0)
  have c4 := E_a0.keep K_2
  have c5 := VC.keep K_2 (ninS (Ne.symm nea) nin0)
  have Z0__2 : n0 ≤ T_2.heap.size := Nat.le_trans Z0 K_2.1
  refine og (fun t k => st_2.trans k) ?_
  obtain ⟨fs, hr, hrun, hended, hRW⟩ := X_2.leaveW Si_2 (Nat.le_refl _) (v := none) (fun _ => rfl)
  have hCH : CHr Z own_EL s.vm s.heap T_2.vm T_2.heap := by rw [hh]; exact (c2.trans (CHv.at X_2 hZ_2 hEL c2.1))
  refine ⟨_, _, ?_, hrun, hended, _, _, rfl, ?_, hCH, hRW.1, hRW.2.1, hRW.2.2.1, hRW.2.2.2.mono (by decide) (by decide)⟩
  · show Steps p.tables e below (T_2.setTop (mkF m 9 #[rv a0, rv a1] [])) _
    exact X_2.returnOut hx Bd.returns (hb hby d2_9) hr
  · show Qsi1_0 Z a0 a1 u1 kc h0 n0 _ T_2.heap _
    exact ⟨bb_2, kb_2, rfl, N_2, c3, Fc_2, Fv_2, szq_2, VN_2⟩
theorem d1_0 : decode method_2_code 0 = .ok (.iload_n 3, 1) := by decide +kernel
theorem d1_1 : decode method_2_code 1 = .ok (.ifCond .gt 14, 3) := by decide +kernel
theorem d1_4 : decode method_2_code 4 = .ok (.new 7, 3) := by decide +kernel
theorem d1_7 : decode method_2_code 7 = .ok (.dup, 1) := by decide +kernel
theorem d1_8 : decode method_2_code 8 = .ok (.iconst 0, 1) := by decide +kernel
theorem d1_9 : decode method_2_code 9 = .ok (.newarray .char, 2) := by decide +kernel
theorem d1_11 : decode method_2_code 11 = .ok (.invokespecial 9, 3) := by decide +kernel
theorem d1_14 : decode method_2_code 14 = .ok (.areturn, 1) := by decide +kernel
theorem pn_1 : plainName "com/example/cutoff/cutoff/store/TextCursorAtEndPinLaw" = true := by first | (simp [plainName, overriddenIn]; done) | decide +kernel
theorem ef_str0 (m : MethodId) (p0 : Int32) (p1 : Int32) (p2 : Int32) : entryFrame m #[(.int p0), (.int p1), (.int p2), (.int 0)] 4 = mkF m 0 #[iv p0, iv p1, iv p2, iv 0] [] := by first | (simp [entryFrame, mkF, argsToLocals, Value.category]; done) | rfl
theorem pd_10 : parseMethodDescriptor "([C)V" = some ⟨[(.array .char)], none⟩ := by decide +kernel
def Qstr0 (Z : State) (p0 : Int32) (p1 : Int32) (p2 : Int32) (h0 : Heap) (n0 : Nat) (v : Option Value) (h : Heap) (L : List Loc) : Prop := ∃ (x b : Addr) (kb : ClassId), v = some (.ref x) ∧ Fr n0 L ∧ Keep h0 h [] ∧ h0.size ≤ x ∧ Exa Z h x "java/lang/String" ∧ Fld Z h x "java/lang/String" "coder" "B" (.int (0 : Int32)) ∧ Fld Z h x "java/lang/String" "value" "[B" (.ref b) ∧ Arv Z h b kb .byte (0 : Int32) [] (.int (0 : Int32))
theorem rmstr0 (l : Launch) (Z : State) (av0 : Array Value) (hw : ∀ d ∈ tables_1, d.before av0 Z = true) (ws : List Jvm.Cond) (p0 : Int32) (p1 : Int32) (p2 : Int32) (h0 : Heap) (n0 : Nat) (Z0 : n0 ≤ h0.size) (hEL : EW Z av0 own_EL) :
    MetFree l own_m2 (head1 (Jvm.Cond.code own_m2 method_2_code 4 (some (.object "java/lang/String")) :: ws) ({ frames := 3, cells := 6, slots := 12, locals := 43 } : Room)) (fun a U => a = #[(.int p0), (.int p1), (.int p2), (.int 0)] ∧ Z.Warmed39 U.vm ∧ U.heap = h0 ∧ CHv Z own_EL U.vm h0) (fun _ _ _ _ _ => True) (fun _ U o U' => ∃ v L, o = .returned v ∧ Qstr0 Z p0 p1 p2 h0 n0 v U'.heap L ∧ CHr Z own_EL U.vm U.heap U'.vm U'.heap ∧ ReturnedEndW U o U' L ({ frames := 3, cells := 6, slots := 12, locals := 43 } : Room).cells ({ frames := 3, cells := 6, slots := 12, locals := 43 } : Room).slots) := by
  refine MetFree.of_bodySF (plainFor_of_name pn_1) hisR ?_
  intro p e s m args below meth c s₁ Bd hml0 hP hK
  obtain ⟨rfl, hZ, hh, H0⟩ := hP
  have hx := Bd.exec
  have hby := Bd.bytes
  have hml : c.maxLocals = 4 := hml0
  have hown : s.vm.findClass "com/example/cutoff/cutoff/store/TextCursorAtEndPinLaw" = some m.cls := findClass_of_methodNamed Bd.named
  have X0 : Stand p l e ({ frames := 3, cells := 6, slots := 12, locals := 43 } : Room) s m #[(.int p0), (.int p1), (.int p2), (.int 0)] below meth c s₁ [] 0 0 := Stand.of_body Bd
  have e0 : s₁.heap = h0 := by rw [← hh, Bd.state]; rfl
  have N0 := Fr.nil n0
  have H1 : CHr Z own_EL s.vm h0 s.vm h0 := ⟨H0, Nat.le_refl _, fun _ q => Or.inl q⟩
  have K0 : Keep h0 h0 [] := Keep.refl h0 []
  refine og (B := s₁.setTop (mkF m 0 #[iv p0, iv p1, iv p2, iv 0] [])) (fun t k => castTop (ef_str0 m p0 p1 p2) k) ?_
  refine og (B := s₁.setTop (mkF m 1 #[iv p0, iv p1, iv p2, iv 0] [(.int 0)])) (fun t k => ?_) ?_
  · refine XS.iloadN X0.here hx rfl (hb hby d1_0) rfl ?_
    exact k
  refine og (B := s₁.setTop (mkF m 4 #[iv p0, iv p1, iv p2, iv 0] [])) (fun t k => ?_) ?_
  · refine XS.ifNo X0.here hx rfl (hb hby d1_1) rfl ((if0 _ _).trans (flt (by decide : ¬ ((0 : Int32) < (0 : Int32)))).2.2.1) ?_
    exact k
  obtain ⟨T_1, h_1, X_1, e_1, E_1, A_1, D_1, -, st_1⟩ := newO X0 hx hZ hown (ow hw 5 rfl) (ow hw 6 rfl) (ow hw 7 rfl) e0 (g := (mkF m 4 #[iv p0, iv p1, iv p2, iv 0] [])) rfl (hb hby d1_4) (by decide) (by decide)
  obtain ⟨b_1, g_1⟩ : ∃ z, z = h0.size := ⟨_, rfl⟩
  rw [← g_1] at A_1 D_1 st_1
  have g_b_1 : n0 ≤ b_1 := Nat.le_trans Z0 (Nat.le_of_eq g_1.symm)
  have sz_b_1 : h0.size ≤ b_1 := Nat.le_trans K0.1 (Nat.le_of_eq g_1.symm)
  have sf_b_1 : Safe Z own_EL s.vm h0 b_1 := Safe.new (Nat.le_of_eq g_1.symm)
  have c1 := Safe.ext E_1 H1.1 sf_b_1
  have c2 := H1.trans (CHr.ext E_1 H1.1)
  have c3 := K0.ext E_1
  have Z0__1 : n0 ≤ h_1.size := Nat.le_trans Z0 E_1.1
  have F_value_b_1 : Fld Z h_1 b_1 "java/lang/String" "value" "[B" .null := D_1 (Or.inr (ow hw 21 rfl)) (ty := (.array .byte)) (by decide)
  have F_coder_b_1 : Fld Z h_1 b_1 "java/lang/String" "coder" "B" (.int 0) := D_1 (Or.inr (ow hw 22 rfl)) (ty := .byte) (by decide)
  refine og (fun t k => st_1 t k) ?_
  refine og (B := T_1.setTop (mkF m 9 #[iv p0, iv p1, iv p2, iv 0] [(.int 0), (.ref b_1), (.ref b_1)])) (fun t k => ?_) ?_
  · refine XS.dup X_1.here hx rfl (hb hby d1_7) rfl rfl ?_
    refine XS.iconst X_1.here hx rfl (hb hby d1_8) ?_
    exact k
  obtain ⟨T_2, h_2, k_2, X_2, e_2, E_2, A_2, st_2⟩ := newP X_1 hx hZ (ow hw 8 rfl) e_1 (g := (mkF m 9 #[iv p0, iv p1, iv p2, iv 0] [(.int 0), (.ref b_1), (.ref b_1)])) rfl (hb hby d1_9) rfl (by decide) (cap := 0) (by decide) (by decide) (by decide) (by decide)
  obtain ⟨b_2, g_2⟩ : ∃ z, z = h_1.size := ⟨_, rfl⟩
  rw [← g_2] at A_2 st_2
  have g_b_2 : n0 ≤ b_2 := Nat.le_trans Z0__1 (Nat.le_of_eq g_2.symm)
  have sz_b_2 : h0.size ≤ b_2 := Nat.le_trans c3.1 (Nat.le_of_eq g_2.symm)
  have sf_b_2 : Safe Z own_EL s.vm h_1 b_2 := Safe.new (Nat.le_of_eq g_2.symm)
  have ne_b_1_b_2 : b_1 ≠ b_2 := Nat.ne_of_lt (Nat.lt_of_lt_of_le (F_value_b_1).lt (Nat.le_of_eq g_2.symm))
  have c4 := Safe.ext E_2 c2.1 c1
  have c5 := Safe.ext E_2 c2.1 sf_b_2
  have c6 := c2.trans (CHr.ext E_2 c2.1)
  have c7 := c3.ext E_2
  have c8 := F_value_b_1.ext E_2
  have c9 := F_coder_b_1.ext E_2
  have c10 := A_1.ext E_2
  have Z0__2 : n0 ≤ h_2.size := Nat.le_trans Z0__1 E_2.1
  have V_b_2 : Arv Z h_2 b_2 k_2 .char (0 : Int32) [] (.int (0 : Int32)) := Arv.new A_2 (by decide)
  refine og (fun t k => st_2 t k) ?_
  obtain ⟨_, _, ⟨T_3, L_3, k_3, n_3⟩, -, Xb_3, Sb_3, gs_3, ⟨Lc_3, hQ_3, l_3, y_3, z_3, CH_3⟩, st_3⟩ := (show Stand p l e ({ frames := 3, cells := 6, slots := 12, locals := 43 } : Room) (s.setVm s.vm) m #[(.int p0), (.int p1), (.int p2), (.int 0)] below meth c T_2 _ _ _ from X_2).specialBackS hx (y := own_m3) rfl hown (mvT hZ (ow hw 9 rfl)) (mvT hZ (ow hw 10 rfl)) (mvT hZ (ow hw 11 rfl)) (by decide) (backOfSH (s := s) (vm0 := s.vm) (W := 1) (rmsi1_0 l Z av0 hw [] b_1 b_2 (.int (0 : Int32)) k_2 h_2 n0 Z0__2 c10 c8 c9 g_b_1 V_b_2 ne_b_1_b_2 hEL) hZ (ow hw 11 rfl) (ow hw 7 rfl) (by decide) (by decide) hEL c6.1) (g := (mkF m 11 #[iv p0, iv p1, iv p2, iv 0] [(.ref b_2), (.ref b_1), (.ref b_1)])) rfl (by rw [hml]; rfl) (Steps.refl _) (a := b_1) (argsL := [(.ref b_2)]) (rest := [(.ref b_1)]) (lenOf pd_10 rfl) rfl (by show 2 * 0 + _ ≤ _; exact Nat.le_of_eq rfl) (hb hby d1_11) (fun _ _ => ⟨rfl, e_2, (by decide : 2 + 4 ≤ _), (by decide : 4 + 8 ≤ _)⟩)
  dsimp only [Pt.U, Pt.locs, Pt.cells, Pt.slots] at Xb_3 Sb_3 gs_3 l_3 y_3 z_3 st_3 hQ_3 CH_3
  subst l_3 y_3 z_3
  obtain ⟨bb_3, kb_3, rfl, N_3q, K_3, Fc_3, Fv_3, szq_3, VN_3⟩ := hQ_3
  have N_3 := Fr.app N0 N_3q
  obtain ⟨X_3, Si_3, hZ_3, hown_3⟩ := rebS (s := s) (vm0 := s.vm) ((State.WarmedH.refl s).since 0) (Nat.zero_le 0) Xb_3 Sb_3 (Nat.zero_le _) hZ hown
  have c11 := CHr.safe CH_3 (c8).lt c4
  have c12 := CHr.safe CH_3 (V_b_2).lt c5
  have c13 := c6.trans CH_3
  have c14 := c7.trans K_3 (allS (Or.inr sz_b_1) all0)
  have c15 := c10.keep K_3
  have c16 := V_b_2.keep K_3 (ninS (Ne.symm ne_b_1_b_2) nin0)
  have Z0__3 : n0 ≤ T_3.heap.size := Nat.le_trans Z0__2 K_3.1
  refine og (fun t k => st_3.trans k) ?_
  obtain ⟨fs, hr, hrun, hended, hRW⟩ := X_3.leaveW Si_3 (Nat.le_refl _) (v := some (.ref b_1)) (fun h => by rw [Bd.returns] at h; cases h)
  have hCH : CHr Z own_EL s.vm s.heap T_3.vm T_3.heap := by rw [hh]; exact (c13.trans (CHv.at X_3 hZ_3 hEL c13.1))
  refine ⟨_, _, ?_, hrun, hended, _, _, rfl, ?_, hCH, hRW.1, hRW.2.1, hRW.2.2.1, hRW.2.2.2.mono (by decide) (by decide)⟩
  · show Steps p.tables e below (T_3.setTop (mkF m 14 #[iv p0, iv p1, iv p2, iv 0] [(.ref b_1)])) _
    jvm_step X_3.here [X_3.here.top, hx, (hb hby d1_14), X_3.method', Bd.returns, Value.isRef, FieldType.isReference]
    first | (intro acts; rw [hr _ acts rfl rfl rfl]) | rw [hr _ _ rfl rfl rfl]
    exact Steps.refl _
  · show Qstr0 Z p0 p1 p2 h0 n0 _ T_3.heap _
    exact ⟨b_1, bb_3, kb_3, rfl, N_3, c14, sz_b_1, c15, Fc_3, Fv_3, VN_3⟩
theorem d1_15 : decode method_2_code 15 = .ok (.iload_n 3, 1) := by decide +kernel
theorem d1_16 : decode method_2_code 16 = .ok (.iconst 1, 1) := by decide +kernel
theorem d1_17 : decode method_2_code 17 = .ok (.if_icmp .ne 18, 3) := by decide +kernel
theorem d1_20 : decode method_2_code 20 = .ok (.new 7, 3) := by decide +kernel
theorem d1_23 : decode method_2_code 23 = .ok (.dup, 1) := by decide +kernel
theorem d1_24 : decode method_2_code 24 = .ok (.iconst 1, 1) := by decide +kernel
theorem d1_25 : decode method_2_code 25 = .ok (.newarray .char, 2) := by decide +kernel
theorem d1_27 : decode method_2_code 27 = .ok (.dup, 1) := by decide +kernel
theorem d1_28 : decode method_2_code 28 = .ok (.iconst 0, 1) := by decide +kernel
theorem d1_29 : decode method_2_code 29 = .ok (.iload_n 0, 1) := by decide +kernel
theorem d1_30 : decode method_2_code 30 = .ok (.castore, 1) := by decide +kernel
theorem d1_31 : decode method_2_code 31 = .ok (.invokespecial 9, 3) := by decide +kernel
theorem d1_34 : decode method_2_code 34 = .ok (.areturn, 1) := by decide +kernel
theorem ef_str1 (m : MethodId) (p0 : Int32) (p1 : Int32) (p2 : Int32) : entryFrame m #[(.int p0), (.int p1), (.int p2), (.int 1)] 4 = mkF m 0 #[iv p0, iv p1, iv p2, iv 1] [] := by first | (simp [entryFrame, mkF, argsToLocals, Value.category]; done) | rfl
def Qstr1 (Z : State) (p0 : Int32) (p1 : Int32) (p2 : Int32) (w : Int32) (h0 : Heap) (n0 : Nat) (v : Option Value) (h : Heap) (L : List Loc) : Prop := ∃ (x b : Addr) (kb : ClassId), v = some (.ref x) ∧ Fr n0 L ∧ Keep h0 h [] ∧ h0.size ≤ x ∧ Exa Z h x "java/lang/String" ∧ Fld Z h x "java/lang/String" "coder" "B" (.int (0 : Int32)) ∧ Fld Z h x "java/lang/String" "value" "[B" (.ref b) ∧ Arv Z h b kb .byte (1 : Int32) [(.int (own_byte (nar .char p0)))] (.int (0 : Int32))
theorem rmstr1 (l : Launch) (Z : State) (av0 : Array Value) (hw : ∀ d ∈ tables_1, d.before av0 Z = true) (ws : List Jvm.Cond) (p0 : Int32) (p1 : Int32) (p2 : Int32) (w : Int32) (h0 : Heap) (n0 : Nat) (Z0 : n0 ≤ h0.size) (S_COMPACT_STRINGS : Sta Z h0 "java/lang/String" "COMPACT_STRINGS" "Z" (.int w)) (hw0 : ¬ (w = (0 : Int32))) (hq0 : ¬ ((255 : Int32) < (nar .char p0))) :
    MetFree l own_m2 (head1 (Jvm.Cond.code own_m2 method_2_code 4 (some (.object "java/lang/String")) :: ws) ({ frames := 4, cells := 3, slots := 6, locals := 66 } : Room)) (fun a U => a = #[(.int p0), (.int p1), (.int p2), (.int 1)] ∧ Z.Warmed39 U.vm ∧ U.heap = h0) (fun _ _ _ _ _ => True) (fun _ U o U' => ∃ v L, o = .returned v ∧ Qstr1 Z p0 p1 p2 w h0 n0 v U'.heap L ∧ FrameEnd U o U' L ({ frames := 4, cells := 3, slots := 6, locals := 66 } : Room).cells ({ frames := 4, cells := 3, slots := 6, locals := 66 } : Room).slots) := by
  refine MetFree.of_bodySF (plainFor_of_name pn_1) hisR ?_
  intro p e s m args below meth c s₁ Bd hml0 hP hK
  obtain ⟨rfl, hZ, hh⟩ := hP
  have hx := Bd.exec
  have hby := Bd.bytes
  have hml : c.maxLocals = 4 := hml0
  have hown : s.vm.findClass "com/example/cutoff/cutoff/store/TextCursorAtEndPinLaw" = some m.cls := findClass_of_methodNamed Bd.named
  have X0 : Stand p l e ({ frames := 4, cells := 3, slots := 6, locals := 66 } : Room) s m #[(.int p0), (.int p1), (.int p2), (.int 1)] below meth c s₁ [] 0 0 := Stand.of_body Bd
  have e0 : s₁.heap = h0 := by rw [← hh, Bd.state]; rfl
  have N0 := Fr.nil n0
  have K0 : Keep h0 h0 [] := Keep.refl h0 []
  refine og (B := s₁.setTop (mkF m 0 #[iv p0, iv p1, iv p2, iv 1] [])) (fun t k => castTop (ef_str1 m p0 p1 p2) k) ?_
  refine og (B := s₁.setTop (mkF m 1 #[iv p0, iv p1, iv p2, iv 1] [(.int 1)])) (fun t k => ?_) ?_
  · refine XS.iloadN X0.here hx rfl (hb hby d1_0) rfl ?_
    exact k
  refine og (B := s₁.setTop (mkF m 15 #[iv p0, iv p1, iv p2, iv 1] [])) (fun t k => ?_) ?_
  · refine XS.ifYes X0.here hx rfl (pc0 := 1) (pc' := 15) rfl (hb hby d1_1) rfl ((if0 _ _).trans (tlt (by decide : (0 : Int32) < (1 : Int32))).2.2.1) (by decide) (by decide) ?_
    exact k
  refine og (B := s₁.setTop (mkF m 17 #[iv p0, iv p1, iv p2, iv 1] [(.int 1), (.int 1)])) (fun t k => ?_) ?_
  · refine XS.iloadN X0.here hx rfl (hb hby d1_15) rfl ?_
    refine XS.iconst X0.here hx rfl (hb hby d1_16) ?_
    exact k
  refine og (B := s₁.setTop (mkF m 20 #[iv p0, iv p1, iv p2, iv 1] [])) (fun t k => ?_) ?_
  · refine XS.icmpNo X0.here hx rfl (hb hby d1_17) rfl (teq (by decide : (1 : Int32) = (1 : Int32))).2 ?_
    exact k
  obtain ⟨T_1, h_1, X_1, e_1, E_1, A_1, D_1, -, st_1⟩ := newO X0 hx hZ hown (ow hw 5 rfl) (ow hw 6 rfl) (ow hw 7 rfl) e0 (g := (mkF m 20 #[iv p0, iv p1, iv p2, iv 1] [])) rfl (hb hby d1_20) (by decide) (by decide)
  obtain ⟨b_1, g_1⟩ : ∃ z, z = h0.size := ⟨_, rfl⟩
  rw [← g_1] at A_1 D_1 st_1
  have g_b_1 : n0 ≤ b_1 := Nat.le_trans Z0 (Nat.le_of_eq g_1.symm)
  have sz_b_1 : h0.size ≤ b_1 := Nat.le_trans K0.1 (Nat.le_of_eq g_1.symm)
  have c1 := K0.ext E_1
  have c2 := S_COMPACT_STRINGS.ext E_1
  have Z0__1 : n0 ≤ h_1.size := Nat.le_trans Z0 E_1.1
  have F_value_b_1 : Fld Z h_1 b_1 "java/lang/String" "value" "[B" .null := D_1 (Or.inr (ow hw 21 rfl)) (ty := (.array .byte)) (by decide)
  have F_coder_b_1 : Fld Z h_1 b_1 "java/lang/String" "coder" "B" (.int 0) := D_1 (Or.inr (ow hw 22 rfl)) (ty := .byte) (by decide)
  refine og (fun t k => st_1 t k) ?_
  refine og (B := T_1.setTop (mkF m 25 #[iv p0, iv p1, iv p2, iv 1] [(.int 1), (.ref b_1), (.ref b_1)])) (fun t k => ?_) ?_
  · refine XS.dup X_1.here hx rfl (hb hby d1_23) rfl rfl ?_
    refine XS.iconst X_1.here hx rfl (hb hby d1_24) ?_
    exact k
  obtain ⟨T_2, h_2, k_2, X_2, e_2, E_2, A_2, st_2⟩ := newP X_1 hx hZ (ow hw 8 rfl) e_1 (g := (mkF m 25 #[iv p0, iv p1, iv p2, iv 1] [(.int 1), (.ref b_1), (.ref b_1)])) rfl (hb hby d1_25) rfl (by decide) (cap := 1) (by decide) (by decide) (by decide) (by decide)
  obtain ⟨b_2, g_2⟩ : ∃ z, z = h_1.size := ⟨_, rfl⟩
  rw [← g_2] at A_2 st_2
  have g_b_2 : n0 ≤ b_2 := Nat.le_trans Z0__1 (Nat.le_of_eq g_2.symm)
  have sz_b_2 : h0.size ≤ b_2 := Nat.le_trans c1.1 (Nat.le_of_eq g_2.symm)
  have ne_b_1_b_2 : b_1 ≠ b_2 := Nat.ne_of_lt (Nat.lt_of_lt_of_le (F_value_b_1).lt (Nat.le_of_eq g_2.symm))
  have c3 := c1.ext E_2
  have c4 := c2.ext E_2
  have c5 := F_value_b_1.ext E_2
  have c6 := F_coder_b_1.ext E_2
  have c7 := A_1.ext E_2
  have Z0__2 : n0 ≤ h_2.size := Nat.le_trans Z0__1 E_2.1
  have V_b_2 : Arv Z h_2 b_2 k_2 .char (1 : Int32) [(.int (0 : Int32))] (.int (0 : Int32)) := (Arv.new A_2 (by decide)).pad (pad_rep [] (.int (0 : Int32)) 1)
  refine og (fun t k => st_2 t k) ?_
  refine og (B := T_2.setTop (mkF m 30 #[iv p0, iv p1, iv p2, iv 1] [(.int p0), (.int 0), (.ref b_2), (.ref b_2), (.ref b_1), (.ref b_1)])) (fun t k => ?_) ?_
  · refine XS.dup X_2.here hx rfl (hb hby d1_27) rfl rfl ?_
    refine XS.iconst X_2.here hx rfl (hb hby d1_28) ?_
    refine XS.iloadN X_2.here hx rfl (hb hby d1_29) rfl ?_
    exact k
  obtain ⟨cl_3, Ar_3, q_3, S_3, M_3, H_3, G_3⟩ := id V_b_2
  have hin_3 : ¬ ((0 : Int32) < 0 ∨ cl_3.slots.size ≤ ((0 : Int32)).toNatClampNeg) := inb_of S_3 ⟨by decide, by decide⟩
  obtain ⟨T_3, h_3, X_3, e_3, W_3, st_3⟩ := stC X_2 hx hZ e_2 Ar_3 (j := (0 : Int32)) hin_3 (g := (mkF m 30 #[iv p0, iv p1, iv p2, iv 1] [(.int p0), (.int 0), (.ref b_2), (.ref b_2), (.ref b_1), (.ref b_1)])) rfl rfl (hb hby d1_30)
  have c8 := c3.wr W_3 (Or.inr sz_b_2)
  have c9 := c4.wr W_3
  have c10 := c5.other W_3 (Or.inl ne_b_1_b_2)
  have c11 := c6.other W_3 (Or.inl ne_b_1_b_2)
  have c12 := c7.wr W_3
  have V_3 : Arv Z h_3 b_2 k_2 .char (1 : Int32) [(.int (nar .char p0))] (.int (0 : Int32)) := Arv.set Ar_3 q_3 S_3 M_3 H_3 G_3 (fits_nar_char _) W_3 0 rfl (Nat.le_of_ble_eq_true rfl)
  have N_3 := Fr.snoc X_3 N0 g_b_2
  have Z0__3 : n0 ≤ h_3.size := by rw [W_3.size]; exact Z0__2
  refine og (fun t k => st_3 t k) ?_
  obtain ⟨_, _, ⟨T_4, L_4, k_4, n_4⟩, -, X_4, ⟨Lc_4, hQ_4, l_4, y_4, z_4⟩, st_4⟩ := X_3.specialBack hx (y := own_m3) rfl hown (mvT hZ (ow hw 9 rfl)) (mvT hZ (ow hw 10 rfl)) (mvT hZ (ow hw 11 rfl)) (by decide) (backOf (W := 1) (rmsi1_1 l Z av0 hw [] b_1 b_2 .null (.int (0 : Int32)) k_2 w (nar .char p0) h_3 n0 Z0__3 c12 c10 c11 g_b_1 V_3 ne_b_1_b_2 c9 hw0 hq0) hZ (ow hw 11 rfl) (ow hw 7 rfl) (by decide) (by decide)) (g := (mkF m 31 #[iv p0, iv p1, iv p2, iv 1] [(.ref b_2), (.ref b_1), (.ref b_1)])) rfl (by rw [hml]; rfl) (Steps.refl _) (a := b_1) (argsL := [(.ref b_2)]) (rest := [(.ref b_1)]) (lenOf pd_10 rfl) rfl (by show 2 * 0 + _ ≤ _; exact Nat.le_of_eq rfl) (hb hby d1_31) (fun _ _ => ⟨rfl, e_3, (by decide : 2 + 1 ≤ _), (by decide : 5 + 1 ≤ _)⟩)
  dsimp only [Pt.U, Pt.locs, Pt.cells, Pt.slots] at X_4 l_4 y_4 z_4 st_4 hQ_4
  subst l_4 y_4 z_4
  obtain ⟨bb_4, kb_4, rfl, N_4q, K_4, Fc_4, Fv_4, szq_4, VN_4⟩ := hQ_4
  have N_4 := Fr.app N_3 N_4q
  have c13 := c8.trans K_4 (allS (Or.inr sz_b_1) all0)
  have c14 := own_stake c9 K_4 c12
  have c15 := c12.keep K_4
  have c16 := V_3.keep K_4 (ninS (Ne.symm ne_b_1_b_2) nin0)
  have Z0__4 : n0 ≤ T_4.heap.size := Nat.le_trans Z0__3 K_4.1
  refine og (fun t k => st_4.trans k) ?_
  obtain ⟨fs, hr, hrun, hended, hW, hsame⟩ := X_4.leave (v := some (.ref b_1)) (fun h => by rw [Bd.returns] at h; cases h)
  refine ⟨_, _, ?_, hrun, hended, _, _, rfl, ?_, ⟨_, rfl⟩, hW, hsame.mono (by decide) (by decide)⟩
  · show Steps p.tables e below (T_4.setTop (mkF m 34 #[iv p0, iv p1, iv p2, iv 1] [(.ref b_1)])) _
    jvm_step X_4.here [X_4.here.top, hx, (hb hby d1_34), X_4.method', Bd.returns, Value.isRef, FieldType.isReference]
    first | (intro acts; rw [hr _ acts rfl rfl rfl]) | rw [hr _ _ rfl rfl rfl]
    exact Steps.refl _
  · show Qstr1 Z p0 p1 p2 w h0 n0 _ T_4.heap _
    exact ⟨b_1, bb_4, kb_4, rfl, N_4, c13, sz_b_1, c15, Fc_4, Fv_4, VN_4⟩
theorem d1_35 : decode method_2_code 35 = .ok (.iload_n 3, 1) := by decide +kernel
theorem d1_36 : decode method_2_code 36 = .ok (.iconst 2, 1) := by decide +kernel
theorem d1_37 : decode method_2_code 37 = .ok (.if_icmp .ne 22, 3) := by decide +kernel
theorem d1_40 : decode method_2_code 40 = .ok (.new 7, 3) := by decide +kernel
theorem d1_43 : decode method_2_code 43 = .ok (.dup, 1) := by decide +kernel
theorem d1_44 : decode method_2_code 44 = .ok (.iconst 2, 1) := by decide +kernel
theorem d1_45 : decode method_2_code 45 = .ok (.newarray .char, 2) := by decide +kernel
theorem d1_47 : decode method_2_code 47 = .ok (.dup, 1) := by decide +kernel
theorem d1_48 : decode method_2_code 48 = .ok (.iconst 0, 1) := by decide +kernel
theorem d1_49 : decode method_2_code 49 = .ok (.iload_n 0, 1) := by decide +kernel
theorem d1_50 : decode method_2_code 50 = .ok (.castore, 1) := by decide +kernel
theorem d1_51 : decode method_2_code 51 = .ok (.dup, 1) := by decide +kernel
theorem d1_52 : decode method_2_code 52 = .ok (.iconst 1, 1) := by decide +kernel
theorem d1_53 : decode method_2_code 53 = .ok (.iload_n 1, 1) := by decide +kernel
theorem d1_54 : decode method_2_code 54 = .ok (.castore, 1) := by decide +kernel
theorem d1_55 : decode method_2_code 55 = .ok (.invokespecial 9, 3) := by decide +kernel
theorem d1_58 : decode method_2_code 58 = .ok (.areturn, 1) := by decide +kernel
theorem ef_str2 (m : MethodId) (p0 : Int32) (p1 : Int32) (p2 : Int32) : entryFrame m #[(.int p0), (.int p1), (.int p2), (.int 2)] 4 = mkF m 0 #[iv p0, iv p1, iv p2, iv 2] [] := by first | (simp [entryFrame, mkF, argsToLocals, Value.category]; done) | rfl
def Qstr2 (Z : State) (p0 : Int32) (p1 : Int32) (p2 : Int32) (w : Int32) (h0 : Heap) (n0 : Nat) (v : Option Value) (h : Heap) (L : List Loc) : Prop := ∃ (x b : Addr) (kb : ClassId), v = some (.ref x) ∧ Fr n0 L ∧ Keep h0 h [] ∧ h0.size ≤ x ∧ Exa Z h x "java/lang/String" ∧ Fld Z h x "java/lang/String" "coder" "B" (.int (0 : Int32)) ∧ Fld Z h x "java/lang/String" "value" "[B" (.ref b) ∧ Arv Z h b kb .byte (2 : Int32) [(.int (own_byte (nar .char p0))), (.int (own_byte (nar .char p1)))] (.int (0 : Int32))
theorem rmstr2 (l : Launch) (Z : State) (av0 : Array Value) (hw : ∀ d ∈ tables_1, d.before av0 Z = true) (ws : List Jvm.Cond) (p0 : Int32) (p1 : Int32) (p2 : Int32) (w : Int32) (h0 : Heap) (n0 : Nat) (Z0 : n0 ≤ h0.size) (S_COMPACT_STRINGS : Sta Z h0 "java/lang/String" "COMPACT_STRINGS" "Z" (.int w)) (hw0 : ¬ (w = (0 : Int32))) (hq0 : ¬ ((255 : Int32) < (nar .char p0))) (hq1 : ¬ ((255 : Int32) < (nar .char p1))) :
    MetFree l own_m2 (head1 (Jvm.Cond.code own_m2 method_2_code 4 (some (.object "java/lang/String")) :: ws) ({ frames := 4, cells := 3, slots := 8, locals := 66 } : Room)) (fun a U => a = #[(.int p0), (.int p1), (.int p2), (.int 2)] ∧ Z.Warmed39 U.vm ∧ U.heap = h0) (fun _ _ _ _ _ => True) (fun _ U o U' => ∃ v L, o = .returned v ∧ Qstr2 Z p0 p1 p2 w h0 n0 v U'.heap L ∧ FrameEnd U o U' L ({ frames := 4, cells := 3, slots := 8, locals := 66 } : Room).cells ({ frames := 4, cells := 3, slots := 8, locals := 66 } : Room).slots) := by
  refine MetFree.of_bodySF (plainFor_of_name pn_1) hisR ?_
  intro p e s m args below meth c s₁ Bd hml0 hP hK
  obtain ⟨rfl, hZ, hh⟩ := hP
  have hx := Bd.exec
  have hby := Bd.bytes
  have hml : c.maxLocals = 4 := hml0
  have hown : s.vm.findClass "com/example/cutoff/cutoff/store/TextCursorAtEndPinLaw" = some m.cls := findClass_of_methodNamed Bd.named
  have X0 : Stand p l e ({ frames := 4, cells := 3, slots := 8, locals := 66 } : Room) s m #[(.int p0), (.int p1), (.int p2), (.int 2)] below meth c s₁ [] 0 0 := Stand.of_body Bd
  have e0 : s₁.heap = h0 := by rw [← hh, Bd.state]; rfl
  have N0 := Fr.nil n0
  have K0 : Keep h0 h0 [] := Keep.refl h0 []
  refine og (B := s₁.setTop (mkF m 0 #[iv p0, iv p1, iv p2, iv 2] [])) (fun t k => castTop (ef_str2 m p0 p1 p2) k) ?_
  refine og (B := s₁.setTop (mkF m 1 #[iv p0, iv p1, iv p2, iv 2] [(.int 2)])) (fun t k => ?_) ?_
  · refine XS.iloadN X0.here hx rfl (hb hby d1_0) rfl ?_
    exact k
  refine og (B := s₁.setTop (mkF m 15 #[iv p0, iv p1, iv p2, iv 2] [])) (fun t k => ?_) ?_
  · refine XS.ifYes X0.here hx rfl (pc0 := 1) (pc' := 15) rfl (hb hby d1_1) rfl ((if0 _ _).trans (tlt (by decide : (0 : Int32) < (2 : Int32))).2.2.1) (by decide) (by decide) ?_
    exact k
  refine og (B := s₁.setTop (mkF m 17 #[iv p0, iv p1, iv p2, iv 2] [(.int 1), (.int 2)])) (fun t k => ?_) ?_
  · refine XS.iloadN X0.here hx rfl (hb hby d1_15) rfl ?_
    refine XS.iconst X0.here hx rfl (hb hby d1_16) ?_
    exact k
  refine og (B := s₁.setTop (mkF m 35 #[iv p0, iv p1, iv p2, iv 2] [])) (fun t k => ?_) ?_
  · refine XS.icmpYes X0.here hx rfl (pc0 := 17) (pc' := 35) rfl (hb hby d1_17) rfl (feq (by decide : ¬ ((2 : Int32) = (1 : Int32)))).2 (by decide) (by decide) ?_
    exact k
  refine og (B := s₁.setTop (mkF m 37 #[iv p0, iv p1, iv p2, iv 2] [(.int 2), (.int 2)])) (fun t k => ?_) ?_
  · refine XS.iloadN X0.here hx rfl (hb hby d1_35) rfl ?_
    refine XS.iconst X0.here hx rfl (hb hby d1_36) ?_
    exact k
  refine og (B := s₁.setTop (mkF m 40 #[iv p0, iv p1, iv p2, iv 2] [])) (fun t k => ?_) ?_
  · refine XS.icmpNo X0.here hx rfl (hb hby d1_37) rfl (teq (by decide : (2 : Int32) = (2 : Int32))).2 ?_
    exact k
  obtain ⟨T_1, h_1, X_1, e_1, E_1, A_1, D_1, -, st_1⟩ := newO X0 hx hZ hown (ow hw 5 rfl) (ow hw 6 rfl) (ow hw 7 rfl) e0 (g := (mkF m 40 #[iv p0, iv p1, iv p2, iv 2] [])) rfl (hb hby d1_40) (by decide) (by decide)
  obtain ⟨b_1, g_1⟩ : ∃ z, z = h0.size := ⟨_, rfl⟩
  rw [← g_1] at A_1 D_1 st_1
  have g_b_1 : n0 ≤ b_1 := Nat.le_trans Z0 (Nat.le_of_eq g_1.symm)
  have sz_b_1 : h0.size ≤ b_1 := Nat.le_trans K0.1 (Nat.le_of_eq g_1.symm)
  have c1 := K0.ext E_1
  have c2 := S_COMPACT_STRINGS.ext E_1
  have Z0__1 : n0 ≤ h_1.size := Nat.le_trans Z0 E_1.1
  have F_value_b_1 : Fld Z h_1 b_1 "java/lang/String" "value" "[B" .null := D_1 (Or.inr (ow hw 21 rfl)) (ty := (.array .byte)) (by decide)
  have F_coder_b_1 : Fld Z h_1 b_1 "java/lang/String" "coder" "B" (.int 0) := D_1 (Or.inr (ow hw 22 rfl)) (ty := .byte) (by decide)
  refine og (fun t k => st_1 t k) ?_
  refine og (B := T_1.setTop (mkF m 45 #[iv p0, iv p1, iv p2, iv 2] [(.int 2), (.ref b_1), (.ref b_1)])) (fun t k => ?_) ?_
  · refine XS.dup X_1.here hx rfl (hb hby d1_43) rfl rfl ?_
    refine XS.iconst X_1.here hx rfl (hb hby d1_44) ?_
    exact k
  obtain ⟨T_2, h_2, k_2, X_2, e_2, E_2, A_2, st_2⟩ := newP X_1 hx hZ (ow hw 8 rfl) e_1 (g := (mkF m 45 #[iv p0, iv p1, iv p2, iv 2] [(.int 2), (.ref b_1), (.ref b_1)])) rfl (hb hby d1_45) rfl (by decide) (cap := 2) (by decide) (by decide) (by decide) (by decide)
  obtain ⟨b_2, g_2⟩ : ∃ z, z = h_1.size := ⟨_, rfl⟩
  rw [← g_2] at A_2 st_2
  have g_b_2 : n0 ≤ b_2 := Nat.le_trans Z0__1 (Nat.le_of_eq g_2.symm)
  have sz_b_2 : h0.size ≤ b_2 := Nat.le_trans c1.1 (Nat.le_of_eq g_2.symm)
  have ne_b_1_b_2 : b_1 ≠ b_2 := Nat.ne_of_lt (Nat.lt_of_lt_of_le (F_value_b_1).lt (Nat.le_of_eq g_2.symm))
  have c3 := c1.ext E_2
  have c4 := c2.ext E_2
  have c5 := F_value_b_1.ext E_2
  have c6 := F_coder_b_1.ext E_2
  have c7 := A_1.ext E_2
  have Z0__2 : n0 ≤ h_2.size := Nat.le_trans Z0__1 E_2.1
  have V_b_2 : Arv Z h_2 b_2 k_2 .char (2 : Int32) [(.int (0 : Int32)), (.int (0 : Int32))] (.int (0 : Int32)) := (Arv.new A_2 (by decide)).pad (pad_rep [] (.int (0 : Int32)) 2)
  refine og (fun t k => st_2 t k) ?_
  refine og (B := T_2.setTop (mkF m 50 #[iv p0, iv p1, iv p2, iv 2] [(.int p0), (.int 0), (.ref b_2), (.ref b_2), (.ref b_1), (.ref b_1)])) (fun t k => ?_) ?_
  · refine XS.dup X_2.here hx rfl (hb hby d1_47) rfl rfl ?_
    refine XS.iconst X_2.here hx rfl (hb hby d1_48) ?_
    refine XS.iloadN X_2.here hx rfl (hb hby d1_49) rfl ?_
    exact k
  obtain ⟨cl_3, Ar_3, q_3, S_3, M_3, H_3, G_3⟩ := id V_b_2
  have hin_3 : ¬ ((0 : Int32) < 0 ∨ cl_3.slots.size ≤ ((0 : Int32)).toNatClampNeg) := inb_of S_3 ⟨by decide, by decide⟩
  obtain ⟨T_3, h_3, X_3, e_3, W_3, st_3⟩ := stC X_2 hx hZ e_2 Ar_3 (j := (0 : Int32)) hin_3 (g := (mkF m 50 #[iv p0, iv p1, iv p2, iv 2] [(.int p0), (.int 0), (.ref b_2), (.ref b_2), (.ref b_1), (.ref b_1)])) rfl rfl (hb hby d1_50)
  have c8 := c3.wr W_3 (Or.inr sz_b_2)
  have c9 := c4.wr W_3
  have c10 := c5.other W_3 (Or.inl ne_b_1_b_2)
  have c11 := c6.other W_3 (Or.inl ne_b_1_b_2)
  have c12 := c7.wr W_3
  have V_3 : Arv Z h_3 b_2 k_2 .char (2 : Int32) [(.int (nar .char p0)), (.int 0)] (.int (0 : Int32)) := Arv.set Ar_3 q_3 S_3 M_3 H_3 G_3 (fits_nar_char _) W_3 0 rfl (Nat.le_of_ble_eq_true rfl)
  have N_3 := Fr.snoc X_3 N0 g_b_2
  have Z0__3 : n0 ≤ h_3.size := by rw [W_3.size]; exact Z0__2
  refine og (fun t k => st_3 t k) ?_
  refine og (B := T_3.setTop (mkF m 54 #[iv p0, iv p1, iv p2, iv 2] [(.int p1), (.int 1), (.ref b_2), (.ref b_2), (.ref b_1), (.ref b_1)])) (fun t k => ?_) ?_
  · refine XS.dup X_3.here hx rfl (hb hby d1_51) rfl rfl ?_
    refine XS.iconst X_3.here hx rfl (hb hby d1_52) ?_
    refine XS.iloadN X_3.here hx rfl (hb hby d1_53) rfl ?_
    exact k
  obtain ⟨cl_4, Ar_4, q_4, S_4, M_4, H_4, G_4⟩ := id V_3
  have hin_4 : ¬ ((1 : Int32) < 0 ∨ cl_4.slots.size ≤ ((1 : Int32)).toNatClampNeg) := inb_of S_4 ⟨by decide, by decide⟩
  obtain ⟨T_4, h_4, X_4, e_4, W_4, st_4⟩ := stC X_3 hx hZ e_3 Ar_4 (j := (1 : Int32)) hin_4 (g := (mkF m 54 #[iv p0, iv p1, iv p2, iv 2] [(.int p1), (.int 1), (.ref b_2), (.ref b_2), (.ref b_1), (.ref b_1)])) rfl rfl (hb hby d1_54)
  have c13 := c8.wr W_4 (Or.inr sz_b_2)
  have c14 := c9.wr W_4
  have c15 := c10.other W_4 (Or.inl ne_b_1_b_2)
  have c16 := c11.other W_4 (Or.inl ne_b_1_b_2)
  have c17 := c12.wr W_4
  have V_4 : Arv Z h_4 b_2 k_2 .char (2 : Int32) [(.int (nar .char p0)), (.int (nar .char p1))] (.int (0 : Int32)) := Arv.set Ar_4 q_4 S_4 M_4 H_4 G_4 (fits_nar_char _) W_4 1 rfl (Nat.le_of_ble_eq_true rfl)
  have N_4 := Fr.snoc X_4 N_3 g_b_2
  have Z0__4 : n0 ≤ h_4.size := by rw [W_4.size]; exact Z0__3
  refine og (fun t k => st_4 t k) ?_
  obtain ⟨_, _, ⟨T_5, L_5, k_5, n_5⟩, -, X_5, ⟨Lc_5, hQ_5, l_5, y_5, z_5⟩, st_5⟩ := X_4.specialBack hx (y := own_m3) rfl hown (mvT hZ (ow hw 9 rfl)) (mvT hZ (ow hw 10 rfl)) (mvT hZ (ow hw 11 rfl)) (by decide) (backOf (W := 1) (rmsi1_2 l Z av0 hw [] b_1 b_2 .null (.int (0 : Int32)) k_2 w (nar .char p0) (nar .char p1) h_4 n0 Z0__4 c17 c15 c16 g_b_1 V_4 ne_b_1_b_2 c14 hw0 hq0 hq1) hZ (ow hw 11 rfl) (ow hw 7 rfl) (by decide) (by decide)) (g := (mkF m 55 #[iv p0, iv p1, iv p2, iv 2] [(.ref b_2), (.ref b_1), (.ref b_1)])) rfl (by rw [hml]; rfl) (Steps.refl _) (a := b_1) (argsL := [(.ref b_2)]) (rest := [(.ref b_1)]) (lenOf pd_10 rfl) rfl (by show 2 * 0 + _ ≤ _; exact Nat.le_of_eq rfl) (hb hby d1_55) (fun _ _ => ⟨rfl, e_4, (by decide : 2 + 1 ≤ _), (by decide : 6 + 2 ≤ _)⟩)
  dsimp only [Pt.U, Pt.locs, Pt.cells, Pt.slots] at X_5 l_5 y_5 z_5 st_5 hQ_5
  subst l_5 y_5 z_5
  obtain ⟨bb_5, kb_5, rfl, N_5q, K_5, Fc_5, Fv_5, szq_5, VN_5⟩ := hQ_5
  have N_5 := Fr.app N_4 N_5q
  have c18 := c13.trans K_5 (allS (Or.inr sz_b_1) all0)
  have c19 := own_stake c14 K_5 c17
  have c20 := c17.keep K_5
  have c21 := V_4.keep K_5 (ninS (Ne.symm ne_b_1_b_2) nin0)
  have Z0__5 : n0 ≤ T_5.heap.size := Nat.le_trans Z0__4 K_5.1
  refine og (fun t k => st_5.trans k) ?_
  obtain ⟨fs, hr, hrun, hended, hW, hsame⟩ := X_5.leave (v := some (.ref b_1)) (fun h => by rw [Bd.returns] at h; cases h)
  refine ⟨_, _, ?_, hrun, hended, _, _, rfl, ?_, ⟨_, rfl⟩, hW, hsame.mono (by decide) (by decide)⟩
  · show Steps p.tables e below (T_5.setTop (mkF m 58 #[iv p0, iv p1, iv p2, iv 2] [(.ref b_1)])) _
    jvm_step X_5.here [X_5.here.top, hx, (hb hby d1_58), X_5.method', Bd.returns, Value.isRef, FieldType.isReference]
    first | (intro acts; rw [hr _ acts rfl rfl rfl]) | rw [hr _ _ rfl rfl rfl]
    exact Steps.refl _
  · show Qstr2 Z p0 p1 p2 w h0 n0 _ T_5.heap _
    exact ⟨b_1, bb_5, kb_5, rfl, N_5, c18, sz_b_1, c20, Fc_5, Fv_5, VN_5⟩
theorem d1_59 : decode method_2_code 59 = .ok (.new 7, 3) := by decide +kernel
theorem d1_62 : decode method_2_code 62 = .ok (.dup, 1) := by decide +kernel
theorem d1_63 : decode method_2_code 63 = .ok (.iconst 3, 1) := by decide +kernel
theorem d1_64 : decode method_2_code 64 = .ok (.newarray .char, 2) := by decide +kernel
theorem d1_66 : decode method_2_code 66 = .ok (.dup, 1) := by decide +kernel
theorem d1_67 : decode method_2_code 67 = .ok (.iconst 0, 1) := by decide +kernel
theorem d1_68 : decode method_2_code 68 = .ok (.iload_n 0, 1) := by decide +kernel
theorem d1_69 : decode method_2_code 69 = .ok (.castore, 1) := by decide +kernel
theorem d1_70 : decode method_2_code 70 = .ok (.dup, 1) := by decide +kernel
theorem d1_71 : decode method_2_code 71 = .ok (.iconst 1, 1) := by decide +kernel
theorem d1_72 : decode method_2_code 72 = .ok (.iload_n 1, 1) := by decide +kernel
theorem d1_73 : decode method_2_code 73 = .ok (.castore, 1) := by decide +kernel
theorem d1_74 : decode method_2_code 74 = .ok (.dup, 1) := by decide +kernel
theorem d1_75 : decode method_2_code 75 = .ok (.iconst 2, 1) := by decide +kernel
theorem d1_76 : decode method_2_code 76 = .ok (.iload_n 2, 1) := by decide +kernel
theorem d1_77 : decode method_2_code 77 = .ok (.castore, 1) := by decide +kernel
theorem d1_78 : decode method_2_code 78 = .ok (.invokespecial 9, 3) := by decide +kernel
theorem d1_81 : decode method_2_code 81 = .ok (.areturn, 1) := by decide +kernel
theorem ef_str3 (m : MethodId) (p0 : Int32) (p1 : Int32) (p2 : Int32) : entryFrame m #[(.int p0), (.int p1), (.int p2), (.int 3)] 4 = mkF m 0 #[iv p0, iv p1, iv p2, iv 3] [] := by first | (simp [entryFrame, mkF, argsToLocals, Value.category]; done) | rfl
def Qstr3 (Z : State) (p0 : Int32) (p1 : Int32) (p2 : Int32) (w : Int32) (h0 : Heap) (n0 : Nat) (v : Option Value) (h : Heap) (L : List Loc) : Prop := ∃ (x b : Addr) (kb : ClassId), v = some (.ref x) ∧ Fr n0 L ∧ Keep h0 h [] ∧ h0.size ≤ x ∧ Exa Z h x "java/lang/String" ∧ Fld Z h x "java/lang/String" "coder" "B" (.int (0 : Int32)) ∧ Fld Z h x "java/lang/String" "value" "[B" (.ref b) ∧ Arv Z h b kb .byte (3 : Int32) [(.int (own_byte (nar .char p0))), (.int (own_byte (nar .char p1))), (.int (own_byte (nar .char p2)))] (.int (0 : Int32))
theorem rmstr3 (l : Launch) (Z : State) (av0 : Array Value) (hw : ∀ d ∈ tables_1, d.before av0 Z = true) (ws : List Jvm.Cond) (p0 : Int32) (p1 : Int32) (p2 : Int32) (w : Int32) (h0 : Heap) (n0 : Nat) (Z0 : n0 ≤ h0.size) (S_COMPACT_STRINGS : Sta Z h0 "java/lang/String" "COMPACT_STRINGS" "Z" (.int w)) (hw0 : ¬ (w = (0 : Int32))) (hq0 : ¬ ((255 : Int32) < (nar .char p0))) (hq1 : ¬ ((255 : Int32) < (nar .char p1))) (hq2 : ¬ ((255 : Int32) < (nar .char p2))) :
    MetFree l own_m2 (head1 (Jvm.Cond.code own_m2 method_2_code 4 (some (.object "java/lang/String")) :: ws) ({ frames := 4, cells := 3, slots := 10, locals := 66 } : Room)) (fun a U => a = #[(.int p0), (.int p1), (.int p2), (.int 3)] ∧ Z.Warmed39 U.vm ∧ U.heap = h0) (fun _ _ _ _ _ => True) (fun _ U o U' => ∃ v L, o = .returned v ∧ Qstr3 Z p0 p1 p2 w h0 n0 v U'.heap L ∧ FrameEnd U o U' L ({ frames := 4, cells := 3, slots := 10, locals := 66 } : Room).cells ({ frames := 4, cells := 3, slots := 10, locals := 66 } : Room).slots) := by
  refine MetFree.of_bodySF (plainFor_of_name pn_1) hisR ?_
  intro p e s m args below meth c s₁ Bd hml0 hP hK
  obtain ⟨rfl, hZ, hh⟩ := hP
  have hx := Bd.exec
  have hby := Bd.bytes
  have hml : c.maxLocals = 4 := hml0
  have hown : s.vm.findClass "com/example/cutoff/cutoff/store/TextCursorAtEndPinLaw" = some m.cls := findClass_of_methodNamed Bd.named
  have X0 : Stand p l e ({ frames := 4, cells := 3, slots := 10, locals := 66 } : Room) s m #[(.int p0), (.int p1), (.int p2), (.int 3)] below meth c s₁ [] 0 0 := Stand.of_body Bd
  have e0 : s₁.heap = h0 := by rw [← hh, Bd.state]; rfl
  have N0 := Fr.nil n0
  have K0 : Keep h0 h0 [] := Keep.refl h0 []
  refine og (B := s₁.setTop (mkF m 0 #[iv p0, iv p1, iv p2, iv 3] [])) (fun t k => castTop (ef_str3 m p0 p1 p2) k) ?_
  refine og (B := s₁.setTop (mkF m 1 #[iv p0, iv p1, iv p2, iv 3] [(.int 3)])) (fun t k => ?_) ?_
  · refine XS.iloadN X0.here hx rfl (hb hby d1_0) rfl ?_
    exact k
  refine og (B := s₁.setTop (mkF m 15 #[iv p0, iv p1, iv p2, iv 3] [])) (fun t k => ?_) ?_
  · refine XS.ifYes X0.here hx rfl (pc0 := 1) (pc' := 15) rfl (hb hby d1_1) rfl ((if0 _ _).trans (tlt (by decide : (0 : Int32) < (3 : Int32))).2.2.1) (by decide) (by decide) ?_
    exact k
  refine og (B := s₁.setTop (mkF m 17 #[iv p0, iv p1, iv p2, iv 3] [(.int 1), (.int 3)])) (fun t k => ?_) ?_
  · refine XS.iloadN X0.here hx rfl (hb hby d1_15) rfl ?_
    refine XS.iconst X0.here hx rfl (hb hby d1_16) ?_
    exact k
  refine og (B := s₁.setTop (mkF m 35 #[iv p0, iv p1, iv p2, iv 3] [])) (fun t k => ?_) ?_
  · refine XS.icmpYes X0.here hx rfl (pc0 := 17) (pc' := 35) rfl (hb hby d1_17) rfl (feq (by decide : ¬ ((3 : Int32) = (1 : Int32)))).2 (by decide) (by decide) ?_
    exact k
  refine og (B := s₁.setTop (mkF m 37 #[iv p0, iv p1, iv p2, iv 3] [(.int 2), (.int 3)])) (fun t k => ?_) ?_
  · refine XS.iloadN X0.here hx rfl (hb hby d1_35) rfl ?_
    refine XS.iconst X0.here hx rfl (hb hby d1_36) ?_
    exact k
  refine og (B := s₁.setTop (mkF m 59 #[iv p0, iv p1, iv p2, iv 3] [])) (fun t k => ?_) ?_
  · refine XS.icmpYes X0.here hx rfl (pc0 := 37) (pc' := 59) rfl (hb hby d1_37) rfl (feq (by decide : ¬ ((3 : Int32) = (2 : Int32)))).2 (by decide) (by decide) ?_
    exact k
  obtain ⟨T_1, h_1, X_1, e_1, E_1, A_1, D_1, -, st_1⟩ := newO X0 hx hZ hown (ow hw 5 rfl) (ow hw 6 rfl) (ow hw 7 rfl) e0 (g := (mkF m 59 #[iv p0, iv p1, iv p2, iv 3] [])) rfl (hb hby d1_59) (by decide) (by decide)
  obtain ⟨b_1, g_1⟩ : ∃ z, z = h0.size := ⟨_, rfl⟩
  rw [← g_1] at A_1 D_1 st_1
  have g_b_1 : n0 ≤ b_1 := Nat.le_trans Z0 (Nat.le_of_eq g_1.symm)
  have sz_b_1 : h0.size ≤ b_1 := Nat.le_trans K0.1 (Nat.le_of_eq g_1.symm)
  have c1 := K0.ext E_1
  have c2 := S_COMPACT_STRINGS.ext E_1
  have Z0__1 : n0 ≤ h_1.size := Nat.le_trans Z0 E_1.1
  have F_value_b_1 : Fld Z h_1 b_1 "java/lang/String" "value" "[B" .null := D_1 (Or.inr (ow hw 21 rfl)) (ty := (.array .byte)) (by decide)
  have F_coder_b_1 : Fld Z h_1 b_1 "java/lang/String" "coder" "B" (.int 0) := D_1 (Or.inr (ow hw 22 rfl)) (ty := .byte) (by decide)
  refine og (fun t k => st_1 t k) ?_
  refine og (B := T_1.setTop (mkF m 64 #[iv p0, iv p1, iv p2, iv 3] [(.int 3), (.ref b_1), (.ref b_1)])) (fun t k => ?_) ?_
  · refine XS.dup X_1.here hx rfl (hb hby d1_62) rfl rfl ?_
    refine XS.iconst X_1.here hx rfl (hb hby d1_63) ?_
    exact k
  obtain ⟨T_2, h_2, k_2, X_2, e_2, E_2, A_2, st_2⟩ := newP X_1 hx hZ (ow hw 8 rfl) e_1 (g := (mkF m 64 #[iv p0, iv p1, iv p2, iv 3] [(.int 3), (.ref b_1), (.ref b_1)])) rfl (hb hby d1_64) rfl (by decide) (cap := 3) (by decide) (by decide) (by decide) (by decide)
  obtain ⟨b_2, g_2⟩ : ∃ z, z = h_1.size := ⟨_, rfl⟩
  rw [← g_2] at A_2 st_2
  have g_b_2 : n0 ≤ b_2 := Nat.le_trans Z0__1 (Nat.le_of_eq g_2.symm)
  have sz_b_2 : h0.size ≤ b_2 := Nat.le_trans c1.1 (Nat.le_of_eq g_2.symm)
  have ne_b_1_b_2 : b_1 ≠ b_2 := Nat.ne_of_lt (Nat.lt_of_lt_of_le (F_value_b_1).lt (Nat.le_of_eq g_2.symm))
  have c3 := c1.ext E_2
  have c4 := c2.ext E_2
  have c5 := F_value_b_1.ext E_2
  have c6 := F_coder_b_1.ext E_2
  have c7 := A_1.ext E_2
  have Z0__2 : n0 ≤ h_2.size := Nat.le_trans Z0__1 E_2.1
  have V_b_2 : Arv Z h_2 b_2 k_2 .char (3 : Int32) [(.int (0 : Int32)), (.int (0 : Int32)), (.int (0 : Int32))] (.int (0 : Int32)) := (Arv.new A_2 (by decide)).pad (pad_rep [] (.int (0 : Int32)) 3)
  refine og (fun t k => st_2 t k) ?_
  refine og (B := T_2.setTop (mkF m 69 #[iv p0, iv p1, iv p2, iv 3] [(.int p0), (.int 0), (.ref b_2), (.ref b_2), (.ref b_1), (.ref b_1)])) (fun t k => ?_) ?_
  · refine XS.dup X_2.here hx rfl (hb hby d1_66) rfl rfl ?_
    refine XS.iconst X_2.here hx rfl (hb hby d1_67) ?_
    refine XS.iloadN X_2.here hx rfl (hb hby d1_68) rfl ?_
    exact k
  obtain ⟨cl_3, Ar_3, q_3, S_3, M_3, H_3, G_3⟩ := id V_b_2
  have hin_3 : ¬ ((0 : Int32) < 0 ∨ cl_3.slots.size ≤ ((0 : Int32)).toNatClampNeg) := inb_of S_3 ⟨by decide, by decide⟩
  obtain ⟨T_3, h_3, X_3, e_3, W_3, st_3⟩ := stC X_2 hx hZ e_2 Ar_3 (j := (0 : Int32)) hin_3 (g := (mkF m 69 #[iv p0, iv p1, iv p2, iv 3] [(.int p0), (.int 0), (.ref b_2), (.ref b_2), (.ref b_1), (.ref b_1)])) rfl rfl (hb hby d1_69)
  have c8 := c3.wr W_3 (Or.inr sz_b_2)
  have c9 := c4.wr W_3
  have c10 := c5.other W_3 (Or.inl ne_b_1_b_2)
  have c11 := c6.other W_3 (Or.inl ne_b_1_b_2)
  have c12 := c7.wr W_3
  have V_3 : Arv Z h_3 b_2 k_2 .char (3 : Int32) [(.int (nar .char p0)), (.int 0), (.int 0)] (.int (0 : Int32)) := Arv.set Ar_3 q_3 S_3 M_3 H_3 G_3 (fits_nar_char _) W_3 0 rfl (Nat.le_of_ble_eq_true rfl)
  have N_3 := Fr.snoc X_3 N0 g_b_2
  have Z0__3 : n0 ≤ h_3.size := by rw [W_3.size]; exact Z0__2
  refine og (fun t k => st_3 t k) ?_
  refine og (B := T_3.setTop (mkF m 73 #[iv p0, iv p1, iv p2, iv 3] [(.int p1), (.int 1), (.ref b_2), (.ref b_2), (.ref b_1), (.ref b_1)])) (fun t k => ?_) ?_
  · refine XS.dup X_3.here hx rfl (hb hby d1_70) rfl rfl ?_
    refine XS.iconst X_3.here hx rfl (hb hby d1_71) ?_
    refine XS.iloadN X_3.here hx rfl (hb hby d1_72) rfl ?_
    exact k
  obtain ⟨cl_4, Ar_4, q_4, S_4, M_4, H_4, G_4⟩ := id V_3
  have hin_4 : ¬ ((1 : Int32) < 0 ∨ cl_4.slots.size ≤ ((1 : Int32)).toNatClampNeg) := inb_of S_4 ⟨by decide, by decide⟩
  obtain ⟨T_4, h_4, X_4, e_4, W_4, st_4⟩ := stC X_3 hx hZ e_3 Ar_4 (j := (1 : Int32)) hin_4 (g := (mkF m 73 #[iv p0, iv p1, iv p2, iv 3] [(.int p1), (.int 1), (.ref b_2), (.ref b_2), (.ref b_1), (.ref b_1)])) rfl rfl (hb hby d1_73)
  have c13 := c8.wr W_4 (Or.inr sz_b_2)
  have c14 := c9.wr W_4
  have c15 := c10.other W_4 (Or.inl ne_b_1_b_2)
  have c16 := c11.other W_4 (Or.inl ne_b_1_b_2)
  have c17 := c12.wr W_4
  have V_4 : Arv Z h_4 b_2 k_2 .char (3 : Int32) [(.int (nar .char p0)), (.int (nar .char p1)), (.int 0)] (.int (0 : Int32)) := Arv.set Ar_4 q_4 S_4 M_4 H_4 G_4 (fits_nar_char _) W_4 1 rfl (Nat.le_of_ble_eq_true rfl)
  have N_4 := Fr.snoc X_4 N_3 g_b_2
  have Z0__4 : n0 ≤ h_4.size := by rw [W_4.size]; exact Z0__3
  refine og (fun t k => st_4 t k) ?_
  refine og (B := T_4.setTop (mkF m 77 #[iv p0, iv p1, iv p2, iv 3] [(.int p2), (.int 2), (.ref b_2), (.ref b_2), (.ref b_1), (.ref b_1)])) (fun t k => ?_) ?_
  · refine XS.dup X_4.here hx rfl (hb hby d1_74) rfl rfl ?_
    refine XS.iconst X_4.here hx rfl (hb hby d1_75) ?_
    refine XS.iloadN X_4.here hx rfl (hb hby d1_76) rfl ?_
    exact k
  obtain ⟨cl_5, Ar_5, q_5, S_5, M_5, H_5, G_5⟩ := id V_4
  have hin_5 : ¬ ((2 : Int32) < 0 ∨ cl_5.slots.size ≤ ((2 : Int32)).toNatClampNeg) := inb_of S_5 ⟨by decide, by decide⟩
  obtain ⟨T_5, h_5, X_5, e_5, W_5, st_5⟩ := stC X_4 hx hZ e_4 Ar_5 (j := (2 : Int32)) hin_5 (g := (mkF m 77 #[iv p0, iv p1, iv p2, iv 3] [(.int p2), (.int 2), (.ref b_2), (.ref b_2), (.ref b_1), (.ref b_1)])) rfl rfl (hb hby d1_77)
  have c18 := c13.wr W_5 (Or.inr sz_b_2)
  have c19 := c14.wr W_5
  have c20 := c15.other W_5 (Or.inl ne_b_1_b_2)
  have c21 := c16.other W_5 (Or.inl ne_b_1_b_2)
  have c22 := c17.wr W_5
  have V_5 : Arv Z h_5 b_2 k_2 .char (3 : Int32) [(.int (nar .char p0)), (.int (nar .char p1)), (.int (nar .char p2))] (.int (0 : Int32)) := Arv.set Ar_5 q_5 S_5 M_5 H_5 G_5 (fits_nar_char _) W_5 2 rfl (Nat.le_of_ble_eq_true rfl)
  have N_5 := Fr.snoc X_5 N_4 g_b_2
  have Z0__5 : n0 ≤ h_5.size := by rw [W_5.size]; exact Z0__4
  refine og (fun t k => st_5 t k) ?_
  obtain ⟨_, _, ⟨T_6, L_6, k_6, n_6⟩, -, X_6, ⟨Lc_6, hQ_6, l_6, y_6, z_6⟩, st_6⟩ := X_5.specialBack hx (y := own_m3) rfl hown (mvT hZ (ow hw 9 rfl)) (mvT hZ (ow hw 10 rfl)) (mvT hZ (ow hw 11 rfl)) (by decide) (backOf (W := 1) (rmsi1_3 l Z av0 hw [] b_1 b_2 .null (.int (0 : Int32)) k_2 w (nar .char p0) (nar .char p1) (nar .char p2) h_5 n0 Z0__5 c22 c20 c21 g_b_1 V_5 ne_b_1_b_2 c19 hw0 hq0 hq1 hq2) hZ (ow hw 11 rfl) (ow hw 7 rfl) (by decide) (by decide)) (g := (mkF m 78 #[iv p0, iv p1, iv p2, iv 3] [(.ref b_2), (.ref b_1), (.ref b_1)])) rfl (by rw [hml]; rfl) (Steps.refl _) (a := b_1) (argsL := [(.ref b_2)]) (rest := [(.ref b_1)]) (lenOf pd_10 rfl) rfl (by show 2 * 0 + _ ≤ _; exact Nat.le_of_eq rfl) (hb hby d1_78) (fun _ _ => ⟨rfl, e_5, (by decide : 2 + 1 ≤ _), (by decide : 7 + 3 ≤ _)⟩)
  dsimp only [Pt.U, Pt.locs, Pt.cells, Pt.slots] at X_6 l_6 y_6 z_6 st_6 hQ_6
  subst l_6 y_6 z_6
  obtain ⟨bb_6, kb_6, rfl, N_6q, K_6, Fc_6, Fv_6, szq_6, VN_6⟩ := hQ_6
  have N_6 := Fr.app N_5 N_6q
  have c23 := c18.trans K_6 (allS (Or.inr sz_b_1) all0)
  have c24 := own_stake c19 K_6 c22
  have c25 := c22.keep K_6
  have c26 := V_5.keep K_6 (ninS (Ne.symm ne_b_1_b_2) nin0)
  have Z0__6 : n0 ≤ T_6.heap.size := Nat.le_trans Z0__5 K_6.1
  refine og (fun t k => st_6.trans k) ?_
  obtain ⟨fs, hr, hrun, hended, hW, hsame⟩ := X_6.leave (v := some (.ref b_1)) (fun h => by rw [Bd.returns] at h; cases h)
  refine ⟨_, _, ?_, hrun, hended, _, _, rfl, ?_, ⟨_, rfl⟩, hW, hsame.mono (by decide) (by decide)⟩
  · show Steps p.tables e below (T_6.setTop (mkF m 81 #[iv p0, iv p1, iv p2, iv 3] [(.ref b_1)])) _
    jvm_step X_6.here [X_6.here.top, hx, (hb hby d1_81), X_6.method', Bd.returns, Value.isRef, FieldType.isReference]
    first | (intro acts; rw [hr _ acts rfl rfl rfl]) | rw [hr _ _ rfl rfl rfl]
    exact Steps.refl _
  · show Qstr3 Z p0 p1 p2 w h0 n0 _ T_6.heap _
    exact ⟨b_1, bb_6, kb_6, rfl, N_6, c23, sz_b_1, c25, Fc_6, Fv_6, VN_6⟩
theorem d5_0 : decode method_3_code 0 = .ok (.iload_n 3, 1) := by decide +kernel
theorem d5_1 : decode method_3_code 1 = .ok (.ifCond .ne 12, 3) := by decide +kernel
theorem d5_4 : decode method_3_code 4 = .ok (.iload_n 0, 1) := by decide +kernel
theorem d5_5 : decode method_3_code 5 = .ok (.iload_n 1, 1) := by decide +kernel
theorem d5_6 : decode method_3_code 6 = .ok (.iload_n 2, 1) := by decide +kernel
theorem d5_7 : decode method_3_code 7 = .ok (.iload 4, 2) := by decide +kernel
theorem d5_9 : decode method_3_code 9 = .ok (.invokestatic 12, 3) := by decide +kernel
theorem d5_12 : decode method_3_code 12 = .ok (.areturn, 1) := by decide +kernel
theorem pn_5 : plainName "com/example/cutoff/cutoff/store/TextCursorAtEndPinLaw" = true := by first | (simp [plainName, overriddenIn]; done) | decide +kernel
theorem ef_sfx0_0 (m : MethodId) (p0 : Int32) (p1 : Int32) (p2 : Int32) : entryFrame m #[(.int p0), (.int p1), (.int p2), (.int 0), (.int 0)] 5 = mkF m 0 #[iv p0, iv p1, iv p2, iv 0, iv 0] [] := by first | (simp [entryFrame, mkF, argsToLocals, Value.category]; done) | rfl
theorem pd_11 : parseMethodDescriptor "(CCCI)Ljava/lang/String;" = some ⟨[.char, .char, .char, .int], some (.object "java/lang/String")⟩ := by decide +kernel
def Qsfx0_0 (Z : State) (p0 : Int32) (p1 : Int32) (p2 : Int32) (h0 : Heap) (n0 : Nat) (v : Option Value) (h : Heap) (L : List Loc) : Prop := ∃ (x b : Addr) (kb : ClassId), v = some (.ref x) ∧ Fr n0 L ∧ Keep h0 h [] ∧ h0.size ≤ x ∧ Exa Z h x "java/lang/String" ∧ Fld Z h x "java/lang/String" "coder" "B" (.int (0 : Int32)) ∧ Fld Z h x "java/lang/String" "value" "[B" (.ref b) ∧ Arv Z h b kb .byte (0 : Int32) [] (.int (0 : Int32))
theorem rmsfx0_0 (l : Launch) (Z : State) (av0 : Array Value) (hw : ∀ d ∈ tables_1, d.before av0 Z = true) (ws : List Jvm.Cond) (p0 : Int32) (p1 : Int32) (p2 : Int32) (h0 : Heap) (n0 : Nat) (Z0 : n0 ≤ h0.size) (hEL : EW Z av0 own_EL) :
    MetFree l own_m6 (head1 (Jvm.Cond.code own_m6 method_3_code 5 (some (.object "java/lang/String")) :: ws) ({ frames := 4, cells := 6, slots := 12, locals := 58 } : Room)) (fun a U => a = #[(.int p0), (.int p1), (.int p2), (.int 0), (.int 0)] ∧ Z.Warmed39 U.vm ∧ U.heap = h0 ∧ CHv Z own_EL U.vm h0) (fun _ _ _ _ _ => True) (fun _ U o U' => ∃ v L, o = .returned v ∧ Qsfx0_0 Z p0 p1 p2 h0 n0 v U'.heap L ∧ CHr Z own_EL U.vm U.heap U'.vm U'.heap ∧ ReturnedEndW U o U' L ({ frames := 4, cells := 6, slots := 12, locals := 58 } : Room).cells ({ frames := 4, cells := 6, slots := 12, locals := 58 } : Room).slots) := by
  refine MetFree.of_bodySF (plainFor_of_name pn_5) hisR ?_
  intro p e s m args below meth c s₁ Bd hml0 hP hK
  obtain ⟨rfl, hZ, hh, H0⟩ := hP
  have hx := Bd.exec
  have hby := Bd.bytes
  have hml : c.maxLocals = 5 := hml0
  have hown : s.vm.findClass "com/example/cutoff/cutoff/store/TextCursorAtEndPinLaw" = some m.cls := findClass_of_methodNamed Bd.named
  have X0 : Stand p l e ({ frames := 4, cells := 6, slots := 12, locals := 58 } : Room) s m #[(.int p0), (.int p1), (.int p2), (.int 0), (.int 0)] below meth c s₁ [] 0 0 := Stand.of_body Bd
  have e0 : s₁.heap = h0 := by rw [← hh, Bd.state]; rfl
  have N0 := Fr.nil n0
  have H1 : CHr Z own_EL s.vm h0 s.vm h0 := ⟨H0, Nat.le_refl _, fun _ q => Or.inl q⟩
  have K0 : Keep h0 h0 [] := Keep.refl h0 []
  refine og (B := s₁.setTop (mkF m 0 #[iv p0, iv p1, iv p2, iv 0, iv 0] [])) (fun t k => castTop (ef_sfx0_0 m p0 p1 p2) k) ?_
  refine og (B := s₁.setTop (mkF m 1 #[iv p0, iv p1, iv p2, iv 0, iv 0] [(.int 0)])) (fun t k => ?_) ?_
  · refine XS.iloadN X0.here hx rfl (hb hby d5_0) rfl ?_
    exact k
  refine og (B := s₁.setTop (mkF m 4 #[iv p0, iv p1, iv p2, iv 0, iv 0] [])) (fun t k => ?_) ?_
  · refine XS.ifNo X0.here hx rfl (hb hby d5_1) rfl ((if0 _ _).trans (teq (by decide : (0 : Int32) = (0 : Int32))).2) ?_
    exact k
  refine og (B := s₁.setTop (mkF m 9 #[iv p0, iv p1, iv p2, iv 0, iv 0] [(.int 0), (.int p2), (.int p1), (.int p0)])) (fun t k => ?_) ?_
  · refine XS.iloadN X0.here hx rfl (hb hby d5_4) rfl ?_
    refine XS.iloadN X0.here hx rfl (hb hby d5_5) rfl ?_
    refine XS.iloadN X0.here hx rfl (hb hby d5_6) rfl ?_
    refine XS.iload X0.here hx rfl (hb hby d5_7) rfl ?_
    exact k
  have kk_1 := K0
  obtain ⟨_, _, ⟨T_1, L_1, k_1, n_1⟩, -, Xb_1, Sb_1, gs_1, ⟨Lc_1, hQ_1, l_1, y_1, z_1, CH_1⟩, st_1⟩ := callSS (show Stand p l e ({ frames := 4, cells := 6, slots := 12, locals := 58 } : Room) (s.setVm s.vm) m #[(.int p0), (.int p1), (.int p2), (.int 0), (.int 0)] below meth c s₁ _ _ _ from X0) hx (y := own_m2) hown (mvT hZ (ow hw 1 rfl)) (mvT hZ (ow hw 2 rfl)) (mvT hZ (ow hw 3 rfl)) (mvT hZ (ow hw 4 rfl)) (by decide) (backOfSH (s := s) (vm0 := s.vm) (W := 0) (rmstr0 l Z av0 hw [] p0 p1 p2  h0 n0 Z0 hEL) hZ (ow hw 4 rfl) (ow hw 3 rfl) (by decide) (by decide) hEL H1.1) (g := (mkF m 9 #[iv p0, iv p1, iv p2, iv 0, iv 0] [(.int 0), (.int p2), (.int p1), (.int p0)])) rfl (by rw [hml]; rfl) (argsL := [(.int p0), (.int p1), (.int p2), (.int 0)]) (rest := []) (lenOf pd_11 rfl) rfl (by show 2 * 0 + _ ≤ _; exact Nat.le_of_eq rfl) (hb hby d5_9) (fun _ _ => ⟨rfl, e0, (by decide : 0 + 6 ≤ _), (by decide : 0 + 12 ≤ _)⟩)
  dsimp only [Pt.U, Pt.locs, Pt.cells, Pt.slots] at Xb_1 Sb_1 gs_1 l_1 y_1 z_1 st_1 hQ_1 CH_1
  subst l_1 y_1 z_1
  obtain ⟨sx_1, sb_1, sk_1, rfl, N_1q, K_1, szq_1, sE_1, sc_1, sv_1, sV_1⟩ := hQ_1
  have N_1 := Fr.app N0 N_1q
  obtain ⟨X_1, Si_1, hZ_1, hown_1⟩ := rebS (s := s) (vm0 := s.vm) ((State.WarmedH.refl s).since 0) (Nat.zero_le 0) Xb_1 Sb_1 (Nat.zero_le _) hZ hown
  have c1 := H1.trans CH_1
  have c2 := K0.trans K_1 all0
  have Z0__1 : n0 ≤ T_1.heap.size := Nat.le_trans Z0 K_1.1
  have sz_sx_1 : h0.size ≤ sx_1 := Nat.le_trans kk_1.1 szq_1
  refine og (fun t k => st_1.trans k) ?_
  obtain ⟨fs, hr, hrun, hended, hRW⟩ := X_1.leaveW Si_1 (Nat.le_refl _) (v := some (.ref sx_1)) (fun h => by rw [Bd.returns] at h; cases h)
  have hCH : CHr Z own_EL s.vm s.heap T_1.vm T_1.heap := by rw [hh]; exact (c1.trans (CHv.at X_1 hZ_1 hEL c1.1))
  refine ⟨_, _, ?_, hrun, hended, _, _, rfl, ?_, hCH, hRW.1, hRW.2.1, hRW.2.2.1, hRW.2.2.2.mono (by decide) (by decide)⟩
  · show Steps p.tables e below (T_1.setTop (mkF m 12 #[iv p0, iv p1, iv p2, iv 0, iv 0] [(.ref sx_1)])) _
    jvm_step X_1.here [X_1.here.top, hx, (hb hby d5_12), X_1.method', Bd.returns, Value.isRef, FieldType.isReference]
    first | (intro acts; rw [hr _ acts rfl rfl rfl]) | rw [hr _ _ rfl rfl rfl]
    exact Steps.refl _
  · show Qsfx0_0 Z p0 p1 p2 h0 n0 _ T_1.heap _
    exact ⟨sx_1, sb_1, sk_1, rfl, N_1, c2, sz_sx_1, sE_1, sc_1, sv_1, sV_1⟩
theorem ef_sfx0_1 (m : MethodId) (p0 : Int32) (p1 : Int32) (p2 : Int32) : entryFrame m #[(.int p0), (.int p1), (.int p2), (.int 0), (.int 1)] 5 = mkF m 0 #[iv p0, iv p1, iv p2, iv 0, iv 1] [] := by first | (simp [entryFrame, mkF, argsToLocals, Value.category]; done) | rfl
def Qsfx0_1 (Z : State) (p0 : Int32) (p1 : Int32) (p2 : Int32) (w : Int32) (h0 : Heap) (n0 : Nat) (v : Option Value) (h : Heap) (L : List Loc) : Prop := ∃ (x b : Addr) (kb : ClassId), v = some (.ref x) ∧ Fr n0 L ∧ Keep h0 h [] ∧ h0.size ≤ x ∧ Exa Z h x "java/lang/String" ∧ Fld Z h x "java/lang/String" "coder" "B" (.int (0 : Int32)) ∧ Fld Z h x "java/lang/String" "value" "[B" (.ref b) ∧ Arv Z h b kb .byte (1 : Int32) [(.int (own_byte (nar .char p0)))] (.int (0 : Int32))
theorem rmsfx0_1 (l : Launch) (Z : State) (av0 : Array Value) (hw : ∀ d ∈ tables_1, d.before av0 Z = true) (ws : List Jvm.Cond) (p0 : Int32) (p1 : Int32) (p2 : Int32) (w : Int32) (h0 : Heap) (n0 : Nat) (Z0 : n0 ≤ h0.size) (S_COMPACT_STRINGS : Sta Z h0 "java/lang/String" "COMPACT_STRINGS" "Z" (.int w)) (hw0 : ¬ (w = (0 : Int32))) (hq0 : ¬ ((255 : Int32) < (nar .char p0))) :
    MetFree l own_m6 (head1 (Jvm.Cond.code own_m6 method_3_code 5 (some (.object "java/lang/String")) :: ws) ({ frames := 5, cells := 3, slots := 6, locals := 81 } : Room)) (fun a U => a = #[(.int p0), (.int p1), (.int p2), (.int 0), (.int 1)] ∧ Z.Warmed39 U.vm ∧ U.heap = h0) (fun _ _ _ _ _ => True) (fun _ U o U' => ∃ v L, o = .returned v ∧ Qsfx0_1 Z p0 p1 p2 w h0 n0 v U'.heap L ∧ FrameEnd U o U' L ({ frames := 5, cells := 3, slots := 6, locals := 81 } : Room).cells ({ frames := 5, cells := 3, slots := 6, locals := 81 } : Room).slots) := by
  refine MetFree.of_bodySF (plainFor_of_name pn_5) hisR ?_
  intro p e s m args below meth c s₁ Bd hml0 hP hK
  obtain ⟨rfl, hZ, hh⟩ := hP
  have hx := Bd.exec
  have hby := Bd.bytes
  have hml : c.maxLocals = 5 := hml0
  have hown : s.vm.findClass "com/example/cutoff/cutoff/store/TextCursorAtEndPinLaw" = some m.cls := findClass_of_methodNamed Bd.named
  have X0 : Stand p l e ({ frames := 5, cells := 3, slots := 6, locals := 81 } : Room) s m #[(.int p0), (.int p1), (.int p2), (.int 0), (.int 1)] below meth c s₁ [] 0 0 := Stand.of_body Bd
  have e0 : s₁.heap = h0 := by rw [← hh, Bd.state]; rfl
  have N0 := Fr.nil n0
  have K0 : Keep h0 h0 [] := Keep.refl h0 []
  refine og (B := s₁.setTop (mkF m 0 #[iv p0, iv p1, iv p2, iv 0, iv 1] [])) (fun t k => castTop (ef_sfx0_1 m p0 p1 p2) k) ?_
  refine og (B := s₁.setTop (mkF m 1 #[iv p0, iv p1, iv p2, iv 0, iv 1] [(.int 0)])) (fun t k => ?_) ?_
  · refine XS.iloadN X0.here hx rfl (hb hby d5_0) rfl ?_
    exact k
  refine og (B := s₁.setTop (mkF m 4 #[iv p0, iv p1, iv p2, iv 0, iv 1] [])) (fun t k => ?_) ?_
  · refine XS.ifNo X0.here hx rfl (hb hby d5_1) rfl ((if0 _ _).trans (teq (by decide : (0 : Int32) = (0 : Int32))).2) ?_
    exact k
  refine og (B := s₁.setTop (mkF m 9 #[iv p0, iv p1, iv p2, iv 0, iv 1] [(.int 1), (.int p2), (.int p1), (.int p0)])) (fun t k => ?_) ?_
  · refine XS.iloadN X0.here hx rfl (hb hby d5_4) rfl ?_
    refine XS.iloadN X0.here hx rfl (hb hby d5_5) rfl ?_
    refine XS.iloadN X0.here hx rfl (hb hby d5_6) rfl ?_
    refine XS.iload X0.here hx rfl (hb hby d5_7) rfl ?_
    exact k
  have kk_1 := K0
  obtain ⟨_, _, ⟨T_1, L_1, k_1, n_1⟩, -, X_1, ⟨Lc_1, hQ_1, l_1, y_1, z_1⟩, st_1⟩ := Jvm.LawKit.callS X0 hx (y := own_m2) hown (mvT hZ (ow hw 1 rfl)) (mvT hZ (ow hw 2 rfl)) (mvT hZ (ow hw 3 rfl)) (mvT hZ (ow hw 4 rfl)) (by decide) (backOf (W := 0) (rmstr1 l Z av0 hw [] p0 p1 p2 w h0 n0 Z0 S_COMPACT_STRINGS hw0 hq0) hZ (ow hw 4 rfl) (ow hw 3 rfl) (by decide) (by decide)) (g := (mkF m 9 #[iv p0, iv p1, iv p2, iv 0, iv 1] [(.int 1), (.int p2), (.int p1), (.int p0)])) rfl (by rw [hml]; rfl) (argsL := [(.int p0), (.int p1), (.int p2), (.int 1)]) (rest := []) (lenOf pd_11 rfl) rfl (by show 2 * 0 + _ ≤ _; exact Nat.le_of_eq rfl) (hb hby d5_9) (fun _ _ => ⟨rfl, e0, (by decide : 0 + 3 ≤ _), (by decide : 0 + 6 ≤ _)⟩)
  dsimp only [Pt.U, Pt.locs, Pt.cells, Pt.slots] at X_1 l_1 y_1 z_1 st_1 hQ_1
  subst l_1 y_1 z_1
  obtain ⟨sx_1, sb_1, sk_1, rfl, N_1q, K_1, szq_1, sE_1, sc_1, sv_1, sV_1⟩ := hQ_1
  have N_1 := Fr.app N0 N_1q
  have c1 := K0.trans K_1 all0
  have c2 := own_stak S_COMPACT_STRINGS K_1
  have Z0__1 : n0 ≤ T_1.heap.size := Nat.le_trans Z0 K_1.1
  have sz_sx_1 : h0.size ≤ sx_1 := Nat.le_trans kk_1.1 szq_1
  refine og (fun t k => st_1 t k) ?_
  obtain ⟨fs, hr, hrun, hended, hW, hsame⟩ := X_1.leave (v := some (.ref sx_1)) (fun h => by rw [Bd.returns] at h; cases h)
  refine ⟨_, _, ?_, hrun, hended, _, _, rfl, ?_, ⟨_, rfl⟩, hW, hsame.mono (by decide) (by decide)⟩
  · show Steps p.tables e below (T_1.setTop (mkF m 12 #[iv p0, iv p1, iv p2, iv 0, iv 1] [(.ref sx_1)])) _
    jvm_step X_1.here [X_1.here.top, hx, (hb hby d5_12), X_1.method', Bd.returns, Value.isRef, FieldType.isReference]
    first | (intro acts; rw [hr _ acts rfl rfl rfl]) | rw [hr _ _ rfl rfl rfl]
    exact Steps.refl _
  · show Qsfx0_1 Z p0 p1 p2 w h0 n0 _ T_1.heap _
    exact ⟨sx_1, sb_1, sk_1, rfl, N_1, c1, sz_sx_1, sE_1, sc_1, sv_1, sV_1⟩
theorem d5_13 : decode method_3_code 13 = .ok (.iload_n 3, 1) := by decide +kernel
theorem d5_14 : decode method_3_code 14 = .ok (.iconst 1, 1) := by decide +kernel
theorem d5_15 : decode method_3_code 15 = .ok (.if_icmp .ne 15, 3) := by decide +kernel
theorem d5_18 : decode method_3_code 18 = .ok (.iload_n 1, 1) := by decide +kernel
theorem d5_19 : decode method_3_code 19 = .ok (.iload_n 2, 1) := by decide +kernel
theorem d5_20 : decode method_3_code 20 = .ok (.bipush 32, 2) := by decide +kernel
theorem d5_22 : decode method_3_code 22 = .ok (.iload 4, 2) := by decide +kernel
theorem d5_24 : decode method_3_code 24 = .ok (.iconst 1, 1) := by decide +kernel
theorem d5_25 : decode method_3_code 25 = .ok (.isub, 1) := by decide +kernel
theorem d5_26 : decode method_3_code 26 = .ok (.invokestatic 12, 3) := by decide +kernel
theorem d5_29 : decode method_3_code 29 = .ok (.areturn, 1) := by decide +kernel
theorem ef_sfx1_1 (m : MethodId) (p0 : Int32) (p1 : Int32) (p2 : Int32) : entryFrame m #[(.int p0), (.int p1), (.int p2), (.int 1), (.int 1)] 5 = mkF m 0 #[iv p0, iv p1, iv p2, iv 1, iv 1] [] := by first | (simp [entryFrame, mkF, argsToLocals, Value.category]; done) | rfl
def Qsfx1_1 (Z : State) (p0 : Int32) (p1 : Int32) (p2 : Int32) (h0 : Heap) (n0 : Nat) (v : Option Value) (h : Heap) (L : List Loc) : Prop := ∃ (x b : Addr) (kb : ClassId), v = some (.ref x) ∧ Fr n0 L ∧ Keep h0 h [] ∧ h0.size ≤ x ∧ Exa Z h x "java/lang/String" ∧ Fld Z h x "java/lang/String" "coder" "B" (.int (0 : Int32)) ∧ Fld Z h x "java/lang/String" "value" "[B" (.ref b) ∧ Arv Z h b kb .byte (0 : Int32) [] (.int (0 : Int32))
theorem rmsfx1_1 (l : Launch) (Z : State) (av0 : Array Value) (hw : ∀ d ∈ tables_1, d.before av0 Z = true) (ws : List Jvm.Cond) (p0 : Int32) (p1 : Int32) (p2 : Int32) (h0 : Heap) (n0 : Nat) (Z0 : n0 ≤ h0.size) (hEL : EW Z av0 own_EL) :
    MetFree l own_m6 (head1 (Jvm.Cond.code own_m6 method_3_code 5 (some (.object "java/lang/String")) :: ws) ({ frames := 4, cells := 6, slots := 12, locals := 58 } : Room)) (fun a U => a = #[(.int p0), (.int p1), (.int p2), (.int 1), (.int 1)] ∧ Z.Warmed39 U.vm ∧ U.heap = h0 ∧ CHv Z own_EL U.vm h0) (fun _ _ _ _ _ => True) (fun _ U o U' => ∃ v L, o = .returned v ∧ Qsfx1_1 Z p0 p1 p2 h0 n0 v U'.heap L ∧ CHr Z own_EL U.vm U.heap U'.vm U'.heap ∧ ReturnedEndW U o U' L ({ frames := 4, cells := 6, slots := 12, locals := 58 } : Room).cells ({ frames := 4, cells := 6, slots := 12, locals := 58 } : Room).slots) := by
  refine MetFree.of_bodySF (plainFor_of_name pn_5) hisR ?_
  intro p e s m args below meth c s₁ Bd hml0 hP hK
  obtain ⟨rfl, hZ, hh, H0⟩ := hP
  have hx := Bd.exec
  have hby := Bd.bytes
  have hml : c.maxLocals = 5 := hml0
  have hown : s.vm.findClass "com/example/cutoff/cutoff/store/TextCursorAtEndPinLaw" = some m.cls := findClass_of_methodNamed Bd.named
  have X0 : Stand p l e ({ frames := 4, cells := 6, slots := 12, locals := 58 } : Room) s m #[(.int p0), (.int p1), (.int p2), (.int 1), (.int 1)] below meth c s₁ [] 0 0 := Stand.of_body Bd
  have e0 : s₁.heap = h0 := by rw [← hh, Bd.state]; rfl
  have N0 := Fr.nil n0
  have H1 : CHr Z own_EL s.vm h0 s.vm h0 := ⟨H0, Nat.le_refl _, fun _ q => Or.inl q⟩
  have K0 : Keep h0 h0 [] := Keep.refl h0 []
  refine og (B := s₁.setTop (mkF m 0 #[iv p0, iv p1, iv p2, iv 1, iv 1] [])) (fun t k => castTop (ef_sfx1_1 m p0 p1 p2) k) ?_
  refine og (B := s₁.setTop (mkF m 1 #[iv p0, iv p1, iv p2, iv 1, iv 1] [(.int 1)])) (fun t k => ?_) ?_
  · refine XS.iloadN X0.here hx rfl (hb hby d5_0) rfl ?_
    exact k
  refine og (B := s₁.setTop (mkF m 13 #[iv p0, iv p1, iv p2, iv 1, iv 1] [])) (fun t k => ?_) ?_
  · refine XS.ifYes X0.here hx rfl (pc0 := 1) (pc' := 13) rfl (hb hby d5_1) rfl ((if0 _ _).trans (feq (by decide : ¬ ((1 : Int32) = (0 : Int32)))).2) (by decide) (by decide) ?_
    exact k
  refine og (B := s₁.setTop (mkF m 15 #[iv p0, iv p1, iv p2, iv 1, iv 1] [(.int 1), (.int 1)])) (fun t k => ?_) ?_
  · refine XS.iloadN X0.here hx rfl (hb hby d5_13) rfl ?_
    refine XS.iconst X0.here hx rfl (hb hby d5_14) ?_
    exact k
  refine og (B := s₁.setTop (mkF m 18 #[iv p0, iv p1, iv p2, iv 1, iv 1] [])) (fun t k => ?_) ?_
  · refine XS.icmpNo X0.here hx rfl (hb hby d5_15) rfl (teq (by decide : (1 : Int32) = (1 : Int32))).2 ?_
    exact k
  refine og (B := s₁.setTop (mkF m 26 #[iv p0, iv p1, iv p2, iv 1, iv 1] [(.int 0), (.int 32), (.int p2), (.int p1)])) (fun t k => ?_) ?_
  · refine XS.iloadN X0.here hx rfl (hb hby d5_18) rfl ?_
    refine XS.iloadN X0.here hx rfl (hb hby d5_19) rfl ?_
    refine XS.bipush X0.here hx rfl (hb hby d5_20) ?_
    refine XS.iload X0.here hx rfl (hb hby d5_22) rfl ?_
    refine XS.iconst X0.here hx rfl (hb hby d5_24) ?_
    refine XS.isub X0.here hx rfl (hb hby d5_25) rfl ?_
    exact k
  have kk_1 := K0
  obtain ⟨_, _, ⟨T_1, L_1, k_1, n_1⟩, -, Xb_1, Sb_1, gs_1, ⟨Lc_1, hQ_1, l_1, y_1, z_1, CH_1⟩, st_1⟩ := callSS (show Stand p l e ({ frames := 4, cells := 6, slots := 12, locals := 58 } : Room) (s.setVm s.vm) m #[(.int p0), (.int p1), (.int p2), (.int 1), (.int 1)] below meth c s₁ _ _ _ from X0) hx (y := own_m2) hown (mvT hZ (ow hw 1 rfl)) (mvT hZ (ow hw 2 rfl)) (mvT hZ (ow hw 3 rfl)) (mvT hZ (ow hw 4 rfl)) (by decide) (backOfSH (s := s) (vm0 := s.vm) (W := 0) (rmstr0 l Z av0 hw [] p1 p2 (32 : Int32)  h0 n0 Z0 hEL) hZ (ow hw 4 rfl) (ow hw 3 rfl) (by decide) (by decide) hEL H1.1) (g := (mkF m 26 #[iv p0, iv p1, iv p2, iv 1, iv 1] [(.int 0), (.int 32), (.int p2), (.int p1)])) rfl (by rw [hml]; rfl) (argsL := [(.int p1), (.int p2), (.int 32), (.int 0)]) (rest := []) (lenOf pd_11 rfl) rfl (by show 2 * 0 + _ ≤ _; exact Nat.le_of_eq rfl) (hb hby d5_26) (fun _ _ => ⟨rfl, e0, (by decide : 0 + 6 ≤ _), (by decide : 0 + 12 ≤ _)⟩)
  dsimp only [Pt.U, Pt.locs, Pt.cells, Pt.slots] at Xb_1 Sb_1 gs_1 l_1 y_1 z_1 st_1 hQ_1 CH_1
  subst l_1 y_1 z_1
  obtain ⟨sx_1, sb_1, sk_1, rfl, N_1q, K_1, szq_1, sE_1, sc_1, sv_1, sV_1⟩ := hQ_1
  have N_1 := Fr.app N0 N_1q
  obtain ⟨X_1, Si_1, hZ_1, hown_1⟩ := rebS (s := s) (vm0 := s.vm) ((State.WarmedH.refl s).since 0) (Nat.zero_le 0) Xb_1 Sb_1 (Nat.zero_le _) hZ hown
  have c1 := H1.trans CH_1
  have c2 := K0.trans K_1 all0
  have Z0__1 : n0 ≤ T_1.heap.size := Nat.le_trans Z0 K_1.1
  have sz_sx_1 : h0.size ≤ sx_1 := Nat.le_trans kk_1.1 szq_1
  refine og (fun t k => st_1.trans k) ?_
  obtain ⟨fs, hr, hrun, hended, hRW⟩ := X_1.leaveW Si_1 (Nat.le_refl _) (v := some (.ref sx_1)) (fun h => by rw [Bd.returns] at h; cases h)
  have hCH : CHr Z own_EL s.vm s.heap T_1.vm T_1.heap := by rw [hh]; exact (c1.trans (CHv.at X_1 hZ_1 hEL c1.1))
  refine ⟨_, _, ?_, hrun, hended, _, _, rfl, ?_, hCH, hRW.1, hRW.2.1, hRW.2.2.1, hRW.2.2.2.mono (by decide) (by decide)⟩
  · show Steps p.tables e below (T_1.setTop (mkF m 29 #[iv p0, iv p1, iv p2, iv 1, iv 1] [(.ref sx_1)])) _
    jvm_step X_1.here [X_1.here.top, hx, (hb hby d5_29), X_1.method', Bd.returns, Value.isRef, FieldType.isReference]
    first | (intro acts; rw [hr _ acts rfl rfl rfl]) | rw [hr _ _ rfl rfl rfl]
    exact Steps.refl _
  · show Qsfx1_1 Z p0 p1 p2 h0 n0 _ T_1.heap _
    exact ⟨sx_1, sb_1, sk_1, rfl, N_1, c2, sz_sx_1, sE_1, sc_1, sv_1, sV_1⟩
theorem ef_sfx0_2 (m : MethodId) (p0 : Int32) (p1 : Int32) (p2 : Int32) : entryFrame m #[(.int p0), (.int p1), (.int p2), (.int 0), (.int 2)] 5 = mkF m 0 #[iv p0, iv p1, iv p2, iv 0, iv 2] [] := by first | (simp [entryFrame, mkF, argsToLocals, Value.category]; done) | rfl
def Qsfx0_2 (Z : State) (p0 : Int32) (p1 : Int32) (p2 : Int32) (w : Int32) (h0 : Heap) (n0 : Nat) (v : Option Value) (h : Heap) (L : List Loc) : Prop := ∃ (x b : Addr) (kb : ClassId), v = some (.ref x) ∧ Fr n0 L ∧ Keep h0 h [] ∧ h0.size ≤ x ∧ Exa Z h x "java/lang/String" ∧ Fld Z h x "java/lang/String" "coder" "B" (.int (0 : Int32)) ∧ Fld Z h x "java/lang/String" "value" "[B" (.ref b) ∧ Arv Z h b kb .byte (2 : Int32) [(.int (own_byte (nar .char p0))), (.int (own_byte (nar .char p1)))] (.int (0 : Int32))
theorem rmsfx0_2 (l : Launch) (Z : State) (av0 : Array Value) (hw : ∀ d ∈ tables_1, d.before av0 Z = true) (ws : List Jvm.Cond) (p0 : Int32) (p1 : Int32) (p2 : Int32) (w : Int32) (h0 : Heap) (n0 : Nat) (Z0 : n0 ≤ h0.size) (S_COMPACT_STRINGS : Sta Z h0 "java/lang/String" "COMPACT_STRINGS" "Z" (.int w)) (hw0 : ¬ (w = (0 : Int32))) (hq0 : ¬ ((255 : Int32) < (nar .char p0))) (hq1 : ¬ ((255 : Int32) < (nar .char p1))) :
    MetFree l own_m6 (head1 (Jvm.Cond.code own_m6 method_3_code 5 (some (.object "java/lang/String")) :: ws) ({ frames := 5, cells := 3, slots := 8, locals := 81 } : Room)) (fun a U => a = #[(.int p0), (.int p1), (.int p2), (.int 0), (.int 2)] ∧ Z.Warmed39 U.vm ∧ U.heap = h0) (fun _ _ _ _ _ => True) (fun _ U o U' => ∃ v L, o = .returned v ∧ Qsfx0_2 Z p0 p1 p2 w h0 n0 v U'.heap L ∧ FrameEnd U o U' L ({ frames := 5, cells := 3, slots := 8, locals := 81 } : Room).cells ({ frames := 5, cells := 3, slots := 8, locals := 81 } : Room).slots) := by
  refine MetFree.of_bodySF (plainFor_of_name pn_5) hisR ?_
  intro p e s m args below meth c s₁ Bd hml0 hP hK
  obtain ⟨rfl, hZ, hh⟩ := hP
  have hx := Bd.exec
  have hby := Bd.bytes
  have hml : c.maxLocals = 5 := hml0
  have hown : s.vm.findClass "com/example/cutoff/cutoff/store/TextCursorAtEndPinLaw" = some m.cls := findClass_of_methodNamed Bd.named
  have X0 : Stand p l e ({ frames := 5, cells := 3, slots := 8, locals := 81 } : Room) s m #[(.int p0), (.int p1), (.int p2), (.int 0), (.int 2)] below meth c s₁ [] 0 0 := Stand.of_body Bd
  have e0 : s₁.heap = h0 := by rw [← hh, Bd.state]; rfl
  have N0 := Fr.nil n0
  have K0 : Keep h0 h0 [] := Keep.refl h0 []
  refine og (B := s₁.setTop (mkF m 0 #[iv p0, iv p1, iv p2, iv 0, iv 2] [])) (fun t k => castTop (ef_sfx0_2 m p0 p1 p2) k) ?_
  refine og (B := s₁.setTop (mkF m 1 #[iv p0, iv p1, iv p2, iv 0, iv 2] [(.int 0)])) (fun t k => ?_) ?_
  · refine XS.iloadN X0.here hx rfl (hb hby d5_0) rfl ?_
    exact k
  refine og (B := s₁.setTop (mkF m 4 #[iv p0, iv p1, iv p2, iv 0, iv 2] [])) (fun t k => ?_) ?_
  · refine XS.ifNo X0.here hx rfl (hb hby d5_1) rfl ((if0 _ _).trans (teq (by decide : (0 : Int32) = (0 : Int32))).2) ?_
    exact k
  refine og (B := s₁.setTop (mkF m 9 #[iv p0, iv p1, iv p2, iv 0, iv 2] [(.int 2), (.int p2), (.int p1), (.int p0)])) (fun t k => ?_) ?_
  · refine XS.iloadN X0.here hx rfl (hb hby d5_4) rfl ?_
    refine XS.iloadN X0.here hx rfl (hb hby d5_5) rfl ?_
    refine XS.iloadN X0.here hx rfl (hb hby d5_6) rfl ?_
    refine XS.iload X0.here hx rfl (hb hby d5_7) rfl ?_
    exact k
  have kk_1 := K0
  obtain ⟨_, _, ⟨T_1, L_1, k_1, n_1⟩, -, X_1, ⟨Lc_1, hQ_1, l_1, y_1, z_1⟩, st_1⟩ := Jvm.LawKit.callS X0 hx (y := own_m2) hown (mvT hZ (ow hw 1 rfl)) (mvT hZ (ow hw 2 rfl)) (mvT hZ (ow hw 3 rfl)) (mvT hZ (ow hw 4 rfl)) (by decide) (backOf (W := 0) (rmstr2 l Z av0 hw [] p0 p1 p2 w h0 n0 Z0 S_COMPACT_STRINGS hw0 hq0 hq1) hZ (ow hw 4 rfl) (ow hw 3 rfl) (by decide) (by decide)) (g := (mkF m 9 #[iv p0, iv p1, iv p2, iv 0, iv 2] [(.int 2), (.int p2), (.int p1), (.int p0)])) rfl (by rw [hml]; rfl) (argsL := [(.int p0), (.int p1), (.int p2), (.int 2)]) (rest := []) (lenOf pd_11 rfl) rfl (by show 2 * 0 + _ ≤ _; exact Nat.le_of_eq rfl) (hb hby d5_9) (fun _ _ => ⟨rfl, e0, (by decide : 0 + 3 ≤ _), (by decide : 0 + 8 ≤ _)⟩)
  dsimp only [Pt.U, Pt.locs, Pt.cells, Pt.slots] at X_1 l_1 y_1 z_1 st_1 hQ_1
  subst l_1 y_1 z_1
  obtain ⟨sx_1, sb_1, sk_1, rfl, N_1q, K_1, szq_1, sE_1, sc_1, sv_1, sV_1⟩ := hQ_1
  have N_1 := Fr.app N0 N_1q
  have c1 := K0.trans K_1 all0
  have c2 := own_stak S_COMPACT_STRINGS K_1
  have Z0__1 : n0 ≤ T_1.heap.size := Nat.le_trans Z0 K_1.1
  have sz_sx_1 : h0.size ≤ sx_1 := Nat.le_trans kk_1.1 szq_1
  refine og (fun t k => st_1 t k) ?_
  obtain ⟨fs, hr, hrun, hended, hW, hsame⟩ := X_1.leave (v := some (.ref sx_1)) (fun h => by rw [Bd.returns] at h; cases h)
  refine ⟨_, _, ?_, hrun, hended, _, _, rfl, ?_, ⟨_, rfl⟩, hW, hsame.mono (by decide) (by decide)⟩
  · show Steps p.tables e below (T_1.setTop (mkF m 12 #[iv p0, iv p1, iv p2, iv 0, iv 2] [(.ref sx_1)])) _
    jvm_step X_1.here [X_1.here.top, hx, (hb hby d5_12), X_1.method', Bd.returns, Value.isRef, FieldType.isReference]
    first | (intro acts; rw [hr _ acts rfl rfl rfl]) | rw [hr _ _ rfl rfl rfl]
    exact Steps.refl _
  · show Qsfx0_2 Z p0 p1 p2 w h0 n0 _ T_1.heap _
    exact ⟨sx_1, sb_1, sk_1, rfl, N_1, c1, sz_sx_1, sE_1, sc_1, sv_1, sV_1⟩
theorem ef_sfx1_2 (m : MethodId) (p0 : Int32) (p1 : Int32) (p2 : Int32) : entryFrame m #[(.int p0), (.int p1), (.int p2), (.int 1), (.int 2)] 5 = mkF m 0 #[iv p0, iv p1, iv p2, iv 1, iv 2] [] := by first | (simp [entryFrame, mkF, argsToLocals, Value.category]; done) | rfl
def Qsfx1_2 (Z : State) (p0 : Int32) (p1 : Int32) (p2 : Int32) (w : Int32) (h0 : Heap) (n0 : Nat) (v : Option Value) (h : Heap) (L : List Loc) : Prop := ∃ (x b : Addr) (kb : ClassId), v = some (.ref x) ∧ Fr n0 L ∧ Keep h0 h [] ∧ h0.size ≤ x ∧ Exa Z h x "java/lang/String" ∧ Fld Z h x "java/lang/String" "coder" "B" (.int (0 : Int32)) ∧ Fld Z h x "java/lang/String" "value" "[B" (.ref b) ∧ Arv Z h b kb .byte (1 : Int32) [(.int (own_byte (nar .char p1)))] (.int (0 : Int32))
theorem rmsfx1_2 (l : Launch) (Z : State) (av0 : Array Value) (hw : ∀ d ∈ tables_1, d.before av0 Z = true) (ws : List Jvm.Cond) (p0 : Int32) (p1 : Int32) (p2 : Int32) (w : Int32) (h0 : Heap) (n0 : Nat) (Z0 : n0 ≤ h0.size) (S_COMPACT_STRINGS : Sta Z h0 "java/lang/String" "COMPACT_STRINGS" "Z" (.int w)) (hw0 : ¬ (w = (0 : Int32))) (hq1 : ¬ ((255 : Int32) < (nar .char p1))) :
    MetFree l own_m6 (head1 (Jvm.Cond.code own_m6 method_3_code 5 (some (.object "java/lang/String")) :: ws) ({ frames := 5, cells := 3, slots := 6, locals := 81 } : Room)) (fun a U => a = #[(.int p0), (.int p1), (.int p2), (.int 1), (.int 2)] ∧ Z.Warmed39 U.vm ∧ U.heap = h0) (fun _ _ _ _ _ => True) (fun _ U o U' => ∃ v L, o = .returned v ∧ Qsfx1_2 Z p0 p1 p2 w h0 n0 v U'.heap L ∧ FrameEnd U o U' L ({ frames := 5, cells := 3, slots := 6, locals := 81 } : Room).cells ({ frames := 5, cells := 3, slots := 6, locals := 81 } : Room).slots) := by
  refine MetFree.of_bodySF (plainFor_of_name pn_5) hisR ?_
  intro p e s m args below meth c s₁ Bd hml0 hP hK
  obtain ⟨rfl, hZ, hh⟩ := hP
  have hx := Bd.exec
  have hby := Bd.bytes
  have hml : c.maxLocals = 5 := hml0
  have hown : s.vm.findClass "com/example/cutoff/cutoff/store/TextCursorAtEndPinLaw" = some m.cls := findClass_of_methodNamed Bd.named
  have X0 : Stand p l e ({ frames := 5, cells := 3, slots := 6, locals := 81 } : Room) s m #[(.int p0), (.int p1), (.int p2), (.int 1), (.int 2)] below meth c s₁ [] 0 0 := Stand.of_body Bd
  have e0 : s₁.heap = h0 := by rw [← hh, Bd.state]; rfl
  have N0 := Fr.nil n0
  have K0 : Keep h0 h0 [] := Keep.refl h0 []
  refine og (B := s₁.setTop (mkF m 0 #[iv p0, iv p1, iv p2, iv 1, iv 2] [])) (fun t k => castTop (ef_sfx1_2 m p0 p1 p2) k) ?_
  refine og (B := s₁.setTop (mkF m 1 #[iv p0, iv p1, iv p2, iv 1, iv 2] [(.int 1)])) (fun t k => ?_) ?_
  · refine XS.iloadN X0.here hx rfl (hb hby d5_0) rfl ?_
    exact k
  refine og (B := s₁.setTop (mkF m 13 #[iv p0, iv p1, iv p2, iv 1, iv 2] [])) (fun t k => ?_) ?_
  · refine XS.ifYes X0.here hx rfl (pc0 := 1) (pc' := 13) rfl (hb hby d5_1) rfl ((if0 _ _).trans (feq (by decide : ¬ ((1 : Int32) = (0 : Int32)))).2) (by decide) (by decide) ?_
    exact k
  refine og (B := s₁.setTop (mkF m 15 #[iv p0, iv p1, iv p2, iv 1, iv 2] [(.int 1), (.int 1)])) (fun t k => ?_) ?_
  · refine XS.iloadN X0.here hx rfl (hb hby d5_13) rfl ?_
    refine XS.iconst X0.here hx rfl (hb hby d5_14) ?_
    exact k
  refine og (B := s₁.setTop (mkF m 18 #[iv p0, iv p1, iv p2, iv 1, iv 2] [])) (fun t k => ?_) ?_
  · refine XS.icmpNo X0.here hx rfl (hb hby d5_15) rfl (teq (by decide : (1 : Int32) = (1 : Int32))).2 ?_
    exact k
  refine og (B := s₁.setTop (mkF m 26 #[iv p0, iv p1, iv p2, iv 1, iv 2] [(.int 1), (.int 32), (.int p2), (.int p1)])) (fun t k => ?_) ?_
  · refine XS.iloadN X0.here hx rfl (hb hby d5_18) rfl ?_
    refine XS.iloadN X0.here hx rfl (hb hby d5_19) rfl ?_
    refine XS.bipush X0.here hx rfl (hb hby d5_20) ?_
    refine XS.iload X0.here hx rfl (hb hby d5_22) rfl ?_
    refine XS.iconst X0.here hx rfl (hb hby d5_24) ?_
    refine XS.isub X0.here hx rfl (hb hby d5_25) rfl ?_
    exact k
  have kk_1 := K0
  obtain ⟨_, _, ⟨T_1, L_1, k_1, n_1⟩, -, X_1, ⟨Lc_1, hQ_1, l_1, y_1, z_1⟩, st_1⟩ := Jvm.LawKit.callS X0 hx (y := own_m2) hown (mvT hZ (ow hw 1 rfl)) (mvT hZ (ow hw 2 rfl)) (mvT hZ (ow hw 3 rfl)) (mvT hZ (ow hw 4 rfl)) (by decide) (backOf (W := 0) (rmstr1 l Z av0 hw [] p1 p2 (32 : Int32) w h0 n0 Z0 S_COMPACT_STRINGS hw0 hq1) hZ (ow hw 4 rfl) (ow hw 3 rfl) (by decide) (by decide)) (g := (mkF m 26 #[iv p0, iv p1, iv p2, iv 1, iv 2] [(.int 1), (.int 32), (.int p2), (.int p1)])) rfl (by rw [hml]; rfl) (argsL := [(.int p1), (.int p2), (.int 32), (.int 1)]) (rest := []) (lenOf pd_11 rfl) rfl (by show 2 * 0 + _ ≤ _; exact Nat.le_of_eq rfl) (hb hby d5_26) (fun _ _ => ⟨rfl, e0, (by decide : 0 + 3 ≤ _), (by decide : 0 + 6 ≤ _)⟩)
  dsimp only [Pt.U, Pt.locs, Pt.cells, Pt.slots] at X_1 l_1 y_1 z_1 st_1 hQ_1
  subst l_1 y_1 z_1
  obtain ⟨sx_1, sb_1, sk_1, rfl, N_1q, K_1, szq_1, sE_1, sc_1, sv_1, sV_1⟩ := hQ_1
  have N_1 := Fr.app N0 N_1q
  have c1 := K0.trans K_1 all0
  have c2 := own_stak S_COMPACT_STRINGS K_1
  have Z0__1 : n0 ≤ T_1.heap.size := Nat.le_trans Z0 K_1.1
  have sz_sx_1 : h0.size ≤ sx_1 := Nat.le_trans kk_1.1 szq_1
  refine og (fun t k => st_1 t k) ?_
  obtain ⟨fs, hr, hrun, hended, hW, hsame⟩ := X_1.leave (v := some (.ref sx_1)) (fun h => by rw [Bd.returns] at h; cases h)
  refine ⟨_, _, ?_, hrun, hended, _, _, rfl, ?_, ⟨_, rfl⟩, hW, hsame.mono (by decide) (by decide)⟩
  · show Steps p.tables e below (T_1.setTop (mkF m 29 #[iv p0, iv p1, iv p2, iv 1, iv 2] [(.ref sx_1)])) _
    jvm_step X_1.here [X_1.here.top, hx, (hb hby d5_29), X_1.method', Bd.returns, Value.isRef, FieldType.isReference]
    first | (intro acts; rw [hr _ acts rfl rfl rfl]) | rw [hr _ _ rfl rfl rfl]
    exact Steps.refl _
  · show Qsfx1_2 Z p0 p1 p2 w h0 n0 _ T_1.heap _
    exact ⟨sx_1, sb_1, sk_1, rfl, N_1, c1, sz_sx_1, sE_1, sc_1, sv_1, sV_1⟩
theorem d5_30 : decode method_3_code 30 = .ok (.iload_n 3, 1) := by decide +kernel
theorem d5_31 : decode method_3_code 31 = .ok (.iconst 2, 1) := by decide +kernel
theorem d5_32 : decode method_3_code 32 = .ok (.if_icmp .ne 16, 3) := by decide +kernel
theorem d5_35 : decode method_3_code 35 = .ok (.iload_n 2, 1) := by decide +kernel
theorem d5_36 : decode method_3_code 36 = .ok (.bipush 32, 2) := by decide +kernel
theorem d5_38 : decode method_3_code 38 = .ok (.bipush 32, 2) := by decide +kernel
theorem d5_40 : decode method_3_code 40 = .ok (.iload 4, 2) := by decide +kernel
theorem d5_42 : decode method_3_code 42 = .ok (.iconst 2, 1) := by decide +kernel
theorem d5_43 : decode method_3_code 43 = .ok (.isub, 1) := by decide +kernel
theorem d5_44 : decode method_3_code 44 = .ok (.invokestatic 12, 3) := by decide +kernel
theorem d5_47 : decode method_3_code 47 = .ok (.areturn, 1) := by decide +kernel
theorem ef_sfx2_2 (m : MethodId) (p0 : Int32) (p1 : Int32) (p2 : Int32) : entryFrame m #[(.int p0), (.int p1), (.int p2), (.int 2), (.int 2)] 5 = mkF m 0 #[iv p0, iv p1, iv p2, iv 2, iv 2] [] := by first | (simp [entryFrame, mkF, argsToLocals, Value.category]; done) | rfl
def Qsfx2_2 (Z : State) (p0 : Int32) (p1 : Int32) (p2 : Int32) (h0 : Heap) (n0 : Nat) (v : Option Value) (h : Heap) (L : List Loc) : Prop := ∃ (x b : Addr) (kb : ClassId), v = some (.ref x) ∧ Fr n0 L ∧ Keep h0 h [] ∧ h0.size ≤ x ∧ Exa Z h x "java/lang/String" ∧ Fld Z h x "java/lang/String" "coder" "B" (.int (0 : Int32)) ∧ Fld Z h x "java/lang/String" "value" "[B" (.ref b) ∧ Arv Z h b kb .byte (0 : Int32) [] (.int (0 : Int32))
theorem rmsfx2_2 (l : Launch) (Z : State) (av0 : Array Value) (hw : ∀ d ∈ tables_1, d.before av0 Z = true) (ws : List Jvm.Cond) (p0 : Int32) (p1 : Int32) (p2 : Int32) (h0 : Heap) (n0 : Nat) (Z0 : n0 ≤ h0.size) (hEL : EW Z av0 own_EL) :
    MetFree l own_m6 (head1 (Jvm.Cond.code own_m6 method_3_code 5 (some (.object "java/lang/String")) :: ws) ({ frames := 4, cells := 6, slots := 12, locals := 58 } : Room)) (fun a U => a = #[(.int p0), (.int p1), (.int p2), (.int 2), (.int 2)] ∧ Z.Warmed39 U.vm ∧ U.heap = h0 ∧ CHv Z own_EL U.vm h0) (fun _ _ _ _ _ => True) (fun _ U o U' => ∃ v L, o = .returned v ∧ Qsfx2_2 Z p0 p1 p2 h0 n0 v U'.heap L ∧ CHr Z own_EL U.vm U.heap U'.vm U'.heap ∧ ReturnedEndW U o U' L ({ frames := 4, cells := 6, slots := 12, locals := 58 } : Room).cells ({ frames := 4, cells := 6, slots := 12, locals := 58 } : Room).slots) := by
  refine MetFree.of_bodySF (plainFor_of_name pn_5) hisR ?_
  intro p e s m args below meth c s₁ Bd hml0 hP hK
  obtain ⟨rfl, hZ, hh, H0⟩ := hP
  have hx := Bd.exec
  have hby := Bd.bytes
  have hml : c.maxLocals = 5 := hml0
  have hown : s.vm.findClass "com/example/cutoff/cutoff/store/TextCursorAtEndPinLaw" = some m.cls := findClass_of_methodNamed Bd.named
  have X0 : Stand p l e ({ frames := 4, cells := 6, slots := 12, locals := 58 } : Room) s m #[(.int p0), (.int p1), (.int p2), (.int 2), (.int 2)] below meth c s₁ [] 0 0 := Stand.of_body Bd
  have e0 : s₁.heap = h0 := by rw [← hh, Bd.state]; rfl
  have N0 := Fr.nil n0
  have H1 : CHr Z own_EL s.vm h0 s.vm h0 := ⟨H0, Nat.le_refl _, fun _ q => Or.inl q⟩
  have K0 : Keep h0 h0 [] := Keep.refl h0 []
  refine og (B := s₁.setTop (mkF m 0 #[iv p0, iv p1, iv p2, iv 2, iv 2] [])) (fun t k => castTop (ef_sfx2_2 m p0 p1 p2) k) ?_
  refine og (B := s₁.setTop (mkF m 1 #[iv p0, iv p1, iv p2, iv 2, iv 2] [(.int 2)])) (fun t k => ?_) ?_
  · refine XS.iloadN X0.here hx rfl (hb hby d5_0) rfl ?_
    exact k
  refine og (B := s₁.setTop (mkF m 13 #[iv p0, iv p1, iv p2, iv 2, iv 2] [])) (fun t k => ?_) ?_
  · refine XS.ifYes X0.here hx rfl (pc0 := 1) (pc' := 13) rfl (hb hby d5_1) rfl ((if0 _ _).trans (feq (by decide : ¬ ((2 : Int32) = (0 : Int32)))).2) (by decide) (by decide) ?_
    exact k
  refine og (B := s₁.setTop (mkF m 15 #[iv p0, iv p1, iv p2, iv 2, iv 2] [(.int 1), (.int 2)])) (fun t k => ?_) ?_
  · refine XS.iloadN X0.here hx rfl (hb hby d5_13) rfl ?_
    refine XS.iconst X0.here hx rfl (hb hby d5_14) ?_
    exact k
  refine og (B := s₁.setTop (mkF m 30 #[iv p0, iv p1, iv p2, iv 2, iv 2] [])) (fun t k => ?_) ?_
  · refine XS.icmpYes X0.here hx rfl (pc0 := 15) (pc' := 30) rfl (hb hby d5_15) rfl (feq (by decide : ¬ ((2 : Int32) = (1 : Int32)))).2 (by decide) (by decide) ?_
    exact k
  refine og (B := s₁.setTop (mkF m 32 #[iv p0, iv p1, iv p2, iv 2, iv 2] [(.int 2), (.int 2)])) (fun t k => ?_) ?_
  · refine XS.iloadN X0.here hx rfl (hb hby d5_30) rfl ?_
    refine XS.iconst X0.here hx rfl (hb hby d5_31) ?_
    exact k
  refine og (B := s₁.setTop (mkF m 35 #[iv p0, iv p1, iv p2, iv 2, iv 2] [])) (fun t k => ?_) ?_
  · refine XS.icmpNo X0.here hx rfl (hb hby d5_32) rfl (teq (by decide : (2 : Int32) = (2 : Int32))).2 ?_
    exact k
  refine og (B := s₁.setTop (mkF m 44 #[iv p0, iv p1, iv p2, iv 2, iv 2] [(.int 0), (.int 32), (.int 32), (.int p2)])) (fun t k => ?_) ?_
  · refine XS.iloadN X0.here hx rfl (hb hby d5_35) rfl ?_
    refine XS.bipush X0.here hx rfl (hb hby d5_36) ?_
    refine XS.bipush X0.here hx rfl (hb hby d5_38) ?_
    refine XS.iload X0.here hx rfl (hb hby d5_40) rfl ?_
    refine XS.iconst X0.here hx rfl (hb hby d5_42) ?_
    refine XS.isub X0.here hx rfl (hb hby d5_43) rfl ?_
    exact k
  have kk_1 := K0
  obtain ⟨_, _, ⟨T_1, L_1, k_1, n_1⟩, -, Xb_1, Sb_1, gs_1, ⟨Lc_1, hQ_1, l_1, y_1, z_1, CH_1⟩, st_1⟩ := callSS (show Stand p l e ({ frames := 4, cells := 6, slots := 12, locals := 58 } : Room) (s.setVm s.vm) m #[(.int p0), (.int p1), (.int p2), (.int 2), (.int 2)] below meth c s₁ _ _ _ from X0) hx (y := own_m2) hown (mvT hZ (ow hw 1 rfl)) (mvT hZ (ow hw 2 rfl)) (mvT hZ (ow hw 3 rfl)) (mvT hZ (ow hw 4 rfl)) (by decide) (backOfSH (s := s) (vm0 := s.vm) (W := 0) (rmstr0 l Z av0 hw [] p2 (32 : Int32) (32 : Int32)  h0 n0 Z0 hEL) hZ (ow hw 4 rfl) (ow hw 3 rfl) (by decide) (by decide) hEL H1.1) (g := (mkF m 44 #[iv p0, iv p1, iv p2, iv 2, iv 2] [(.int 0), (.int 32), (.int 32), (.int p2)])) rfl (by rw [hml]; rfl) (argsL := [(.int p2), (.int 32), (.int 32), (.int 0)]) (rest := []) (lenOf pd_11 rfl) rfl (by show 2 * 0 + _ ≤ _; exact Nat.le_of_eq rfl) (hb hby d5_44) (fun _ _ => ⟨rfl, e0, (by decide : 0 + 6 ≤ _), (by decide : 0 + 12 ≤ _)⟩)
  dsimp only [Pt.U, Pt.locs, Pt.cells, Pt.slots] at Xb_1 Sb_1 gs_1 l_1 y_1 z_1 st_1 hQ_1 CH_1
  subst l_1 y_1 z_1
  obtain ⟨sx_1, sb_1, sk_1, rfl, N_1q, K_1, szq_1, sE_1, sc_1, sv_1, sV_1⟩ := hQ_1
  have N_1 := Fr.app N0 N_1q
  obtain ⟨X_1, Si_1, hZ_1, hown_1⟩ := rebS (s := s) (vm0 := s.vm) ((State.WarmedH.refl s).since 0) (Nat.zero_le 0) Xb_1 Sb_1 (Nat.zero_le _) hZ hown
  have c1 := H1.trans CH_1
  have c2 := K0.trans K_1 all0
  have Z0__1 : n0 ≤ T_1.heap.size := Nat.le_trans Z0 K_1.1
  have sz_sx_1 : h0.size ≤ sx_1 := Nat.le_trans kk_1.1 szq_1
  refine og (fun t k => st_1.trans k) ?_
  obtain ⟨fs, hr, hrun, hended, hRW⟩ := X_1.leaveW Si_1 (Nat.le_refl _) (v := some (.ref sx_1)) (fun h => by rw [Bd.returns] at h; cases h)
  have hCH : CHr Z own_EL s.vm s.heap T_1.vm T_1.heap := by rw [hh]; exact (c1.trans (CHv.at X_1 hZ_1 hEL c1.1))
  refine ⟨_, _, ?_, hrun, hended, _, _, rfl, ?_, hCH, hRW.1, hRW.2.1, hRW.2.2.1, hRW.2.2.2.mono (by decide) (by decide)⟩
  · show Steps p.tables e below (T_1.setTop (mkF m 47 #[iv p0, iv p1, iv p2, iv 2, iv 2] [(.ref sx_1)])) _
    jvm_step X_1.here [X_1.here.top, hx, (hb hby d5_47), X_1.method', Bd.returns, Value.isRef, FieldType.isReference]
    first | (intro acts; rw [hr _ acts rfl rfl rfl]) | rw [hr _ _ rfl rfl rfl]
    exact Steps.refl _
  · show Qsfx2_2 Z p0 p1 p2 h0 n0 _ T_1.heap _
    exact ⟨sx_1, sb_1, sk_1, rfl, N_1, c2, sz_sx_1, sE_1, sc_1, sv_1, sV_1⟩
theorem ef_sfx0_3 (m : MethodId) (p0 : Int32) (p1 : Int32) (p2 : Int32) : entryFrame m #[(.int p0), (.int p1), (.int p2), (.int 0), (.int 3)] 5 = mkF m 0 #[iv p0, iv p1, iv p2, iv 0, iv 3] [] := by first | (simp [entryFrame, mkF, argsToLocals, Value.category]; done) | rfl
def Qsfx0_3 (Z : State) (p0 : Int32) (p1 : Int32) (p2 : Int32) (w : Int32) (h0 : Heap) (n0 : Nat) (v : Option Value) (h : Heap) (L : List Loc) : Prop := ∃ (x b : Addr) (kb : ClassId), v = some (.ref x) ∧ Fr n0 L ∧ Keep h0 h [] ∧ h0.size ≤ x ∧ Exa Z h x "java/lang/String" ∧ Fld Z h x "java/lang/String" "coder" "B" (.int (0 : Int32)) ∧ Fld Z h x "java/lang/String" "value" "[B" (.ref b) ∧ Arv Z h b kb .byte (3 : Int32) [(.int (own_byte (nar .char p0))), (.int (own_byte (nar .char p1))), (.int (own_byte (nar .char p2)))] (.int (0 : Int32))
theorem rmsfx0_3 (l : Launch) (Z : State) (av0 : Array Value) (hw : ∀ d ∈ tables_1, d.before av0 Z = true) (ws : List Jvm.Cond) (p0 : Int32) (p1 : Int32) (p2 : Int32) (w : Int32) (h0 : Heap) (n0 : Nat) (Z0 : n0 ≤ h0.size) (S_COMPACT_STRINGS : Sta Z h0 "java/lang/String" "COMPACT_STRINGS" "Z" (.int w)) (hw0 : ¬ (w = (0 : Int32))) (hq0 : ¬ ((255 : Int32) < (nar .char p0))) (hq1 : ¬ ((255 : Int32) < (nar .char p1))) (hq2 : ¬ ((255 : Int32) < (nar .char p2))) :
    MetFree l own_m6 (head1 (Jvm.Cond.code own_m6 method_3_code 5 (some (.object "java/lang/String")) :: ws) ({ frames := 5, cells := 3, slots := 10, locals := 81 } : Room)) (fun a U => a = #[(.int p0), (.int p1), (.int p2), (.int 0), (.int 3)] ∧ Z.Warmed39 U.vm ∧ U.heap = h0) (fun _ _ _ _ _ => True) (fun _ U o U' => ∃ v L, o = .returned v ∧ Qsfx0_3 Z p0 p1 p2 w h0 n0 v U'.heap L ∧ FrameEnd U o U' L ({ frames := 5, cells := 3, slots := 10, locals := 81 } : Room).cells ({ frames := 5, cells := 3, slots := 10, locals := 81 } : Room).slots) := by
  refine MetFree.of_bodySF (plainFor_of_name pn_5) hisR ?_
  intro p e s m args below meth c s₁ Bd hml0 hP hK
  obtain ⟨rfl, hZ, hh⟩ := hP
  have hx := Bd.exec
  have hby := Bd.bytes
  have hml : c.maxLocals = 5 := hml0
  have hown : s.vm.findClass "com/example/cutoff/cutoff/store/TextCursorAtEndPinLaw" = some m.cls := findClass_of_methodNamed Bd.named
  have X0 : Stand p l e ({ frames := 5, cells := 3, slots := 10, locals := 81 } : Room) s m #[(.int p0), (.int p1), (.int p2), (.int 0), (.int 3)] below meth c s₁ [] 0 0 := Stand.of_body Bd
  have e0 : s₁.heap = h0 := by rw [← hh, Bd.state]; rfl
  have N0 := Fr.nil n0
  have K0 : Keep h0 h0 [] := Keep.refl h0 []
  refine og (B := s₁.setTop (mkF m 0 #[iv p0, iv p1, iv p2, iv 0, iv 3] [])) (fun t k => castTop (ef_sfx0_3 m p0 p1 p2) k) ?_
  refine og (B := s₁.setTop (mkF m 1 #[iv p0, iv p1, iv p2, iv 0, iv 3] [(.int 0)])) (fun t k => ?_) ?_
  · refine XS.iloadN X0.here hx rfl (hb hby d5_0) rfl ?_
    exact k
  refine og (B := s₁.setTop (mkF m 4 #[iv p0, iv p1, iv p2, iv 0, iv 3] [])) (fun t k => ?_) ?_
  · refine XS.ifNo X0.here hx rfl (hb hby d5_1) rfl ((if0 _ _).trans (teq (by decide : (0 : Int32) = (0 : Int32))).2) ?_
    exact k
  refine og (B := s₁.setTop (mkF m 9 #[iv p0, iv p1, iv p2, iv 0, iv 3] [(.int 3), (.int p2), (.int p1), (.int p0)])) (fun t k => ?_) ?_
  · refine XS.iloadN X0.here hx rfl (hb hby d5_4) rfl ?_
    refine XS.iloadN X0.here hx rfl (hb hby d5_5) rfl ?_
    refine XS.iloadN X0.here hx rfl (hb hby d5_6) rfl ?_
    refine XS.iload X0.here hx rfl (hb hby d5_7) rfl ?_
    exact k
  have kk_1 := K0
  obtain ⟨_, _, ⟨T_1, L_1, k_1, n_1⟩, -, X_1, ⟨Lc_1, hQ_1, l_1, y_1, z_1⟩, st_1⟩ := Jvm.LawKit.callS X0 hx (y := own_m2) hown (mvT hZ (ow hw 1 rfl)) (mvT hZ (ow hw 2 rfl)) (mvT hZ (ow hw 3 rfl)) (mvT hZ (ow hw 4 rfl)) (by decide) (backOf (W := 0) (rmstr3 l Z av0 hw [] p0 p1 p2 w h0 n0 Z0 S_COMPACT_STRINGS hw0 hq0 hq1 hq2) hZ (ow hw 4 rfl) (ow hw 3 rfl) (by decide) (by decide)) (g := (mkF m 9 #[iv p0, iv p1, iv p2, iv 0, iv 3] [(.int 3), (.int p2), (.int p1), (.int p0)])) rfl (by rw [hml]; rfl) (argsL := [(.int p0), (.int p1), (.int p2), (.int 3)]) (rest := []) (lenOf pd_11 rfl) rfl (by show 2 * 0 + _ ≤ _; exact Nat.le_of_eq rfl) (hb hby d5_9) (fun _ _ => ⟨rfl, e0, (by decide : 0 + 3 ≤ _), (by decide : 0 + 10 ≤ _)⟩)
  dsimp only [Pt.U, Pt.locs, Pt.cells, Pt.slots] at X_1 l_1 y_1 z_1 st_1 hQ_1
  subst l_1 y_1 z_1
  obtain ⟨sx_1, sb_1, sk_1, rfl, N_1q, K_1, szq_1, sE_1, sc_1, sv_1, sV_1⟩ := hQ_1
  have N_1 := Fr.app N0 N_1q
  have c1 := K0.trans K_1 all0
  have c2 := own_stak S_COMPACT_STRINGS K_1
  have Z0__1 : n0 ≤ T_1.heap.size := Nat.le_trans Z0 K_1.1
  have sz_sx_1 : h0.size ≤ sx_1 := Nat.le_trans kk_1.1 szq_1
  refine og (fun t k => st_1 t k) ?_
  obtain ⟨fs, hr, hrun, hended, hW, hsame⟩ := X_1.leave (v := some (.ref sx_1)) (fun h => by rw [Bd.returns] at h; cases h)
  refine ⟨_, _, ?_, hrun, hended, _, _, rfl, ?_, ⟨_, rfl⟩, hW, hsame.mono (by decide) (by decide)⟩
  · show Steps p.tables e below (T_1.setTop (mkF m 12 #[iv p0, iv p1, iv p2, iv 0, iv 3] [(.ref sx_1)])) _
    jvm_step X_1.here [X_1.here.top, hx, (hb hby d5_12), X_1.method', Bd.returns, Value.isRef, FieldType.isReference]
    first | (intro acts; rw [hr _ acts rfl rfl rfl]) | rw [hr _ _ rfl rfl rfl]
    exact Steps.refl _
  · show Qsfx0_3 Z p0 p1 p2 w h0 n0 _ T_1.heap _
    exact ⟨sx_1, sb_1, sk_1, rfl, N_1, c1, sz_sx_1, sE_1, sc_1, sv_1, sV_1⟩
theorem ef_sfx1_3 (m : MethodId) (p0 : Int32) (p1 : Int32) (p2 : Int32) : entryFrame m #[(.int p0), (.int p1), (.int p2), (.int 1), (.int 3)] 5 = mkF m 0 #[iv p0, iv p1, iv p2, iv 1, iv 3] [] := by first | (simp [entryFrame, mkF, argsToLocals, Value.category]; done) | rfl
def Qsfx1_3 (Z : State) (p0 : Int32) (p1 : Int32) (p2 : Int32) (w : Int32) (h0 : Heap) (n0 : Nat) (v : Option Value) (h : Heap) (L : List Loc) : Prop := ∃ (x b : Addr) (kb : ClassId), v = some (.ref x) ∧ Fr n0 L ∧ Keep h0 h [] ∧ h0.size ≤ x ∧ Exa Z h x "java/lang/String" ∧ Fld Z h x "java/lang/String" "coder" "B" (.int (0 : Int32)) ∧ Fld Z h x "java/lang/String" "value" "[B" (.ref b) ∧ Arv Z h b kb .byte (2 : Int32) [(.int (own_byte (nar .char p1))), (.int (own_byte (nar .char p2)))] (.int (0 : Int32))
theorem rmsfx1_3 (l : Launch) (Z : State) (av0 : Array Value) (hw : ∀ d ∈ tables_1, d.before av0 Z = true) (ws : List Jvm.Cond) (p0 : Int32) (p1 : Int32) (p2 : Int32) (w : Int32) (h0 : Heap) (n0 : Nat) (Z0 : n0 ≤ h0.size) (S_COMPACT_STRINGS : Sta Z h0 "java/lang/String" "COMPACT_STRINGS" "Z" (.int w)) (hw0 : ¬ (w = (0 : Int32))) (hq1 : ¬ ((255 : Int32) < (nar .char p1))) (hq2 : ¬ ((255 : Int32) < (nar .char p2))) :
    MetFree l own_m6 (head1 (Jvm.Cond.code own_m6 method_3_code 5 (some (.object "java/lang/String")) :: ws) ({ frames := 5, cells := 3, slots := 8, locals := 81 } : Room)) (fun a U => a = #[(.int p0), (.int p1), (.int p2), (.int 1), (.int 3)] ∧ Z.Warmed39 U.vm ∧ U.heap = h0) (fun _ _ _ _ _ => True) (fun _ U o U' => ∃ v L, o = .returned v ∧ Qsfx1_3 Z p0 p1 p2 w h0 n0 v U'.heap L ∧ FrameEnd U o U' L ({ frames := 5, cells := 3, slots := 8, locals := 81 } : Room).cells ({ frames := 5, cells := 3, slots := 8, locals := 81 } : Room).slots) := by
  refine MetFree.of_bodySF (plainFor_of_name pn_5) hisR ?_
  intro p e s m args below meth c s₁ Bd hml0 hP hK
  obtain ⟨rfl, hZ, hh⟩ := hP
  have hx := Bd.exec
  have hby := Bd.bytes
  have hml : c.maxLocals = 5 := hml0
  have hown : s.vm.findClass "com/example/cutoff/cutoff/store/TextCursorAtEndPinLaw" = some m.cls := findClass_of_methodNamed Bd.named
  have X0 : Stand p l e ({ frames := 5, cells := 3, slots := 8, locals := 81 } : Room) s m #[(.int p0), (.int p1), (.int p2), (.int 1), (.int 3)] below meth c s₁ [] 0 0 := Stand.of_body Bd
  have e0 : s₁.heap = h0 := by rw [← hh, Bd.state]; rfl
  have N0 := Fr.nil n0
  have K0 : Keep h0 h0 [] := Keep.refl h0 []
  refine og (B := s₁.setTop (mkF m 0 #[iv p0, iv p1, iv p2, iv 1, iv 3] [])) (fun t k => castTop (ef_sfx1_3 m p0 p1 p2) k) ?_
  refine og (B := s₁.setTop (mkF m 1 #[iv p0, iv p1, iv p2, iv 1, iv 3] [(.int 1)])) (fun t k => ?_) ?_
  · refine XS.iloadN X0.here hx rfl (hb hby d5_0) rfl ?_
    exact k
  refine og (B := s₁.setTop (mkF m 13 #[iv p0, iv p1, iv p2, iv 1, iv 3] [])) (fun t k => ?_) ?_
  · refine XS.ifYes X0.here hx rfl (pc0 := 1) (pc' := 13) rfl (hb hby d5_1) rfl ((if0 _ _).trans (feq (by decide : ¬ ((1 : Int32) = (0 : Int32)))).2) (by decide) (by decide) ?_
    exact k
  refine og (B := s₁.setTop (mkF m 15 #[iv p0, iv p1, iv p2, iv 1, iv 3] [(.int 1), (.int 1)])) (fun t k => ?_) ?_
  · refine XS.iloadN X0.here hx rfl (hb hby d5_13) rfl ?_
    refine XS.iconst X0.here hx rfl (hb hby d5_14) ?_
    exact k
  refine og (B := s₁.setTop (mkF m 18 #[iv p0, iv p1, iv p2, iv 1, iv 3] [])) (fun t k => ?_) ?_
  · refine XS.icmpNo X0.here hx rfl (hb hby d5_15) rfl (teq (by decide : (1 : Int32) = (1 : Int32))).2 ?_
    exact k
  refine og (B := s₁.setTop (mkF m 26 #[iv p0, iv p1, iv p2, iv 1, iv 3] [(.int 2), (.int 32), (.int p2), (.int p1)])) (fun t k => ?_) ?_
  · refine XS.iloadN X0.here hx rfl (hb hby d5_18) rfl ?_
    refine XS.iloadN X0.here hx rfl (hb hby d5_19) rfl ?_
    refine XS.bipush X0.here hx rfl (hb hby d5_20) ?_
    refine XS.iload X0.here hx rfl (hb hby d5_22) rfl ?_
    refine XS.iconst X0.here hx rfl (hb hby d5_24) ?_
    refine XS.isub X0.here hx rfl (hb hby d5_25) rfl ?_
    exact k
  have kk_1 := K0
  obtain ⟨_, _, ⟨T_1, L_1, k_1, n_1⟩, -, X_1, ⟨Lc_1, hQ_1, l_1, y_1, z_1⟩, st_1⟩ := Jvm.LawKit.callS X0 hx (y := own_m2) hown (mvT hZ (ow hw 1 rfl)) (mvT hZ (ow hw 2 rfl)) (mvT hZ (ow hw 3 rfl)) (mvT hZ (ow hw 4 rfl)) (by decide) (backOf (W := 0) (rmstr2 l Z av0 hw [] p1 p2 (32 : Int32) w h0 n0 Z0 S_COMPACT_STRINGS hw0 hq1 hq2) hZ (ow hw 4 rfl) (ow hw 3 rfl) (by decide) (by decide)) (g := (mkF m 26 #[iv p0, iv p1, iv p2, iv 1, iv 3] [(.int 2), (.int 32), (.int p2), (.int p1)])) rfl (by rw [hml]; rfl) (argsL := [(.int p1), (.int p2), (.int 32), (.int 2)]) (rest := []) (lenOf pd_11 rfl) rfl (by show 2 * 0 + _ ≤ _; exact Nat.le_of_eq rfl) (hb hby d5_26) (fun _ _ => ⟨rfl, e0, (by decide : 0 + 3 ≤ _), (by decide : 0 + 8 ≤ _)⟩)
  dsimp only [Pt.U, Pt.locs, Pt.cells, Pt.slots] at X_1 l_1 y_1 z_1 st_1 hQ_1
  subst l_1 y_1 z_1
  obtain ⟨sx_1, sb_1, sk_1, rfl, N_1q, K_1, szq_1, sE_1, sc_1, sv_1, sV_1⟩ := hQ_1
  have N_1 := Fr.app N0 N_1q
  have c1 := K0.trans K_1 all0
  have c2 := own_stak S_COMPACT_STRINGS K_1
  have Z0__1 : n0 ≤ T_1.heap.size := Nat.le_trans Z0 K_1.1
  have sz_sx_1 : h0.size ≤ sx_1 := Nat.le_trans kk_1.1 szq_1
  refine og (fun t k => st_1 t k) ?_
  obtain ⟨fs, hr, hrun, hended, hW, hsame⟩ := X_1.leave (v := some (.ref sx_1)) (fun h => by rw [Bd.returns] at h; cases h)
  refine ⟨_, _, ?_, hrun, hended, _, _, rfl, ?_, ⟨_, rfl⟩, hW, hsame.mono (by decide) (by decide)⟩
  · show Steps p.tables e below (T_1.setTop (mkF m 29 #[iv p0, iv p1, iv p2, iv 1, iv 3] [(.ref sx_1)])) _
    jvm_step X_1.here [X_1.here.top, hx, (hb hby d5_29), X_1.method', Bd.returns, Value.isRef, FieldType.isReference]
    first | (intro acts; rw [hr _ acts rfl rfl rfl]) | rw [hr _ _ rfl rfl rfl]
    exact Steps.refl _
  · show Qsfx1_3 Z p0 p1 p2 w h0 n0 _ T_1.heap _
    exact ⟨sx_1, sb_1, sk_1, rfl, N_1, c1, sz_sx_1, sE_1, sc_1, sv_1, sV_1⟩
theorem ef_sfx2_3 (m : MethodId) (p0 : Int32) (p1 : Int32) (p2 : Int32) : entryFrame m #[(.int p0), (.int p1), (.int p2), (.int 2), (.int 3)] 5 = mkF m 0 #[iv p0, iv p1, iv p2, iv 2, iv 3] [] := by first | (simp [entryFrame, mkF, argsToLocals, Value.category]; done) | rfl
def Qsfx2_3 (Z : State) (p0 : Int32) (p1 : Int32) (p2 : Int32) (w : Int32) (h0 : Heap) (n0 : Nat) (v : Option Value) (h : Heap) (L : List Loc) : Prop := ∃ (x b : Addr) (kb : ClassId), v = some (.ref x) ∧ Fr n0 L ∧ Keep h0 h [] ∧ h0.size ≤ x ∧ Exa Z h x "java/lang/String" ∧ Fld Z h x "java/lang/String" "coder" "B" (.int (0 : Int32)) ∧ Fld Z h x "java/lang/String" "value" "[B" (.ref b) ∧ Arv Z h b kb .byte (1 : Int32) [(.int (own_byte (nar .char p2)))] (.int (0 : Int32))
theorem rmsfx2_3 (l : Launch) (Z : State) (av0 : Array Value) (hw : ∀ d ∈ tables_1, d.before av0 Z = true) (ws : List Jvm.Cond) (p0 : Int32) (p1 : Int32) (p2 : Int32) (w : Int32) (h0 : Heap) (n0 : Nat) (Z0 : n0 ≤ h0.size) (S_COMPACT_STRINGS : Sta Z h0 "java/lang/String" "COMPACT_STRINGS" "Z" (.int w)) (hw0 : ¬ (w = (0 : Int32))) (hq2 : ¬ ((255 : Int32) < (nar .char p2))) :
    MetFree l own_m6 (head1 (Jvm.Cond.code own_m6 method_3_code 5 (some (.object "java/lang/String")) :: ws) ({ frames := 5, cells := 3, slots := 6, locals := 81 } : Room)) (fun a U => a = #[(.int p0), (.int p1), (.int p2), (.int 2), (.int 3)] ∧ Z.Warmed39 U.vm ∧ U.heap = h0) (fun _ _ _ _ _ => True) (fun _ U o U' => ∃ v L, o = .returned v ∧ Qsfx2_3 Z p0 p1 p2 w h0 n0 v U'.heap L ∧ FrameEnd U o U' L ({ frames := 5, cells := 3, slots := 6, locals := 81 } : Room).cells ({ frames := 5, cells := 3, slots := 6, locals := 81 } : Room).slots) := by
  refine MetFree.of_bodySF (plainFor_of_name pn_5) hisR ?_
  intro p e s m args below meth c s₁ Bd hml0 hP hK
  obtain ⟨rfl, hZ, hh⟩ := hP
  have hx := Bd.exec
  have hby := Bd.bytes
  have hml : c.maxLocals = 5 := hml0
  have hown : s.vm.findClass "com/example/cutoff/cutoff/store/TextCursorAtEndPinLaw" = some m.cls := findClass_of_methodNamed Bd.named
  have X0 : Stand p l e ({ frames := 5, cells := 3, slots := 6, locals := 81 } : Room) s m #[(.int p0), (.int p1), (.int p2), (.int 2), (.int 3)] below meth c s₁ [] 0 0 := Stand.of_body Bd
  have e0 : s₁.heap = h0 := by rw [← hh, Bd.state]; rfl
  have N0 := Fr.nil n0
  have K0 : Keep h0 h0 [] := Keep.refl h0 []
  refine og (B := s₁.setTop (mkF m 0 #[iv p0, iv p1, iv p2, iv 2, iv 3] [])) (fun t k => castTop (ef_sfx2_3 m p0 p1 p2) k) ?_
  refine og (B := s₁.setTop (mkF m 1 #[iv p0, iv p1, iv p2, iv 2, iv 3] [(.int 2)])) (fun t k => ?_) ?_
  · refine XS.iloadN X0.here hx rfl (hb hby d5_0) rfl ?_
    exact k
  refine og (B := s₁.setTop (mkF m 13 #[iv p0, iv p1, iv p2, iv 2, iv 3] [])) (fun t k => ?_) ?_
  · refine XS.ifYes X0.here hx rfl (pc0 := 1) (pc' := 13) rfl (hb hby d5_1) rfl ((if0 _ _).trans (feq (by decide : ¬ ((2 : Int32) = (0 : Int32)))).2) (by decide) (by decide) ?_
    exact k
  refine og (B := s₁.setTop (mkF m 15 #[iv p0, iv p1, iv p2, iv 2, iv 3] [(.int 1), (.int 2)])) (fun t k => ?_) ?_
  · refine XS.iloadN X0.here hx rfl (hb hby d5_13) rfl ?_
    refine XS.iconst X0.here hx rfl (hb hby d5_14) ?_
    exact k
  refine og (B := s₁.setTop (mkF m 30 #[iv p0, iv p1, iv p2, iv 2, iv 3] [])) (fun t k => ?_) ?_
  · refine XS.icmpYes X0.here hx rfl (pc0 := 15) (pc' := 30) rfl (hb hby d5_15) rfl (feq (by decide : ¬ ((2 : Int32) = (1 : Int32)))).2 (by decide) (by decide) ?_
    exact k
  refine og (B := s₁.setTop (mkF m 32 #[iv p0, iv p1, iv p2, iv 2, iv 3] [(.int 2), (.int 2)])) (fun t k => ?_) ?_
  · refine XS.iloadN X0.here hx rfl (hb hby d5_30) rfl ?_
    refine XS.iconst X0.here hx rfl (hb hby d5_31) ?_
    exact k
  refine og (B := s₁.setTop (mkF m 35 #[iv p0, iv p1, iv p2, iv 2, iv 3] [])) (fun t k => ?_) ?_
  · refine XS.icmpNo X0.here hx rfl (hb hby d5_32) rfl (teq (by decide : (2 : Int32) = (2 : Int32))).2 ?_
    exact k
  refine og (B := s₁.setTop (mkF m 44 #[iv p0, iv p1, iv p2, iv 2, iv 3] [(.int 1), (.int 32), (.int 32), (.int p2)])) (fun t k => ?_) ?_
  · refine XS.iloadN X0.here hx rfl (hb hby d5_35) rfl ?_
    refine XS.bipush X0.here hx rfl (hb hby d5_36) ?_
    refine XS.bipush X0.here hx rfl (hb hby d5_38) ?_
    refine XS.iload X0.here hx rfl (hb hby d5_40) rfl ?_
    refine XS.iconst X0.here hx rfl (hb hby d5_42) ?_
    refine XS.isub X0.here hx rfl (hb hby d5_43) rfl ?_
    exact k
  have kk_1 := K0
  obtain ⟨_, _, ⟨T_1, L_1, k_1, n_1⟩, -, X_1, ⟨Lc_1, hQ_1, l_1, y_1, z_1⟩, st_1⟩ := Jvm.LawKit.callS X0 hx (y := own_m2) hown (mvT hZ (ow hw 1 rfl)) (mvT hZ (ow hw 2 rfl)) (mvT hZ (ow hw 3 rfl)) (mvT hZ (ow hw 4 rfl)) (by decide) (backOf (W := 0) (rmstr1 l Z av0 hw [] p2 (32 : Int32) (32 : Int32) w h0 n0 Z0 S_COMPACT_STRINGS hw0 hq2) hZ (ow hw 4 rfl) (ow hw 3 rfl) (by decide) (by decide)) (g := (mkF m 44 #[iv p0, iv p1, iv p2, iv 2, iv 3] [(.int 1), (.int 32), (.int 32), (.int p2)])) rfl (by rw [hml]; rfl) (argsL := [(.int p2), (.int 32), (.int 32), (.int 1)]) (rest := []) (lenOf pd_11 rfl) rfl (by show 2 * 0 + _ ≤ _; exact Nat.le_of_eq rfl) (hb hby d5_44) (fun _ _ => ⟨rfl, e0, (by decide : 0 + 3 ≤ _), (by decide : 0 + 6 ≤ _)⟩)
  dsimp only [Pt.U, Pt.locs, Pt.cells, Pt.slots] at X_1 l_1 y_1 z_1 st_1 hQ_1
  subst l_1 y_1 z_1
  obtain ⟨sx_1, sb_1, sk_1, rfl, N_1q, K_1, szq_1, sE_1, sc_1, sv_1, sV_1⟩ := hQ_1
  have N_1 := Fr.app N0 N_1q
  have c1 := K0.trans K_1 all0
  have c2 := own_stak S_COMPACT_STRINGS K_1
  have Z0__1 : n0 ≤ T_1.heap.size := Nat.le_trans Z0 K_1.1
  have sz_sx_1 : h0.size ≤ sx_1 := Nat.le_trans kk_1.1 szq_1
  refine og (fun t k => st_1 t k) ?_
  obtain ⟨fs, hr, hrun, hended, hW, hsame⟩ := X_1.leave (v := some (.ref sx_1)) (fun h => by rw [Bd.returns] at h; cases h)
  refine ⟨_, _, ?_, hrun, hended, _, _, rfl, ?_, ⟨_, rfl⟩, hW, hsame.mono (by decide) (by decide)⟩
  · show Steps p.tables e below (T_1.setTop (mkF m 47 #[iv p0, iv p1, iv p2, iv 2, iv 3] [(.ref sx_1)])) _
    jvm_step X_1.here [X_1.here.top, hx, (hb hby d5_47), X_1.method', Bd.returns, Value.isRef, FieldType.isReference]
    first | (intro acts; rw [hr _ acts rfl rfl rfl]) | rw [hr _ _ rfl rfl rfl]
    exact Steps.refl _
  · show Qsfx2_3 Z p0 p1 p2 w h0 n0 _ T_1.heap _
    exact ⟨sx_1, sb_1, sk_1, rfl, N_1, c1, sz_sx_1, sE_1, sc_1, sv_1, sV_1⟩
theorem d5_48 : decode method_3_code 48 = .ok (.bipush 32, 2) := by decide +kernel
theorem d5_50 : decode method_3_code 50 = .ok (.bipush 32, 2) := by decide +kernel
theorem d5_52 : decode method_3_code 52 = .ok (.bipush 32, 2) := by decide +kernel
theorem d5_54 : decode method_3_code 54 = .ok (.iconst 0, 1) := by decide +kernel
theorem d5_55 : decode method_3_code 55 = .ok (.invokestatic 12, 3) := by decide +kernel
theorem d5_58 : decode method_3_code 58 = .ok (.areturn, 1) := by decide +kernel
theorem ef_sfx3_3 (m : MethodId) (p0 : Int32) (p1 : Int32) (p2 : Int32) : entryFrame m #[(.int p0), (.int p1), (.int p2), (.int 3), (.int 3)] 5 = mkF m 0 #[iv p0, iv p1, iv p2, iv 3, iv 3] [] := by first | (simp [entryFrame, mkF, argsToLocals, Value.category]; done) | rfl
def Qsfx3_3 (Z : State) (p0 : Int32) (p1 : Int32) (p2 : Int32) (h0 : Heap) (n0 : Nat) (v : Option Value) (h : Heap) (L : List Loc) : Prop := ∃ (x b : Addr) (kb : ClassId), v = some (.ref x) ∧ Fr n0 L ∧ Keep h0 h [] ∧ h0.size ≤ x ∧ Exa Z h x "java/lang/String" ∧ Fld Z h x "java/lang/String" "coder" "B" (.int (0 : Int32)) ∧ Fld Z h x "java/lang/String" "value" "[B" (.ref b) ∧ Arv Z h b kb .byte (0 : Int32) [] (.int (0 : Int32))
theorem rmsfx3_3 (l : Launch) (Z : State) (av0 : Array Value) (hw : ∀ d ∈ tables_1, d.before av0 Z = true) (ws : List Jvm.Cond) (p0 : Int32) (p1 : Int32) (p2 : Int32) (h0 : Heap) (n0 : Nat) (Z0 : n0 ≤ h0.size) (hEL : EW Z av0 own_EL) :
    MetFree l own_m6 (head1 (Jvm.Cond.code own_m6 method_3_code 5 (some (.object "java/lang/String")) :: ws) ({ frames := 4, cells := 6, slots := 12, locals := 58 } : Room)) (fun a U => a = #[(.int p0), (.int p1), (.int p2), (.int 3), (.int 3)] ∧ Z.Warmed39 U.vm ∧ U.heap = h0 ∧ CHv Z own_EL U.vm h0) (fun _ _ _ _ _ => True) (fun _ U o U' => ∃ v L, o = .returned v ∧ Qsfx3_3 Z p0 p1 p2 h0 n0 v U'.heap L ∧ CHr Z own_EL U.vm U.heap U'.vm U'.heap ∧ ReturnedEndW U o U' L ({ frames := 4, cells := 6, slots := 12, locals := 58 } : Room).cells ({ frames := 4, cells := 6, slots := 12, locals := 58 } : Room).slots) := by
  refine MetFree.of_bodySF (plainFor_of_name pn_5) hisR ?_
  intro p e s m args below meth c s₁ Bd hml0 hP hK
  obtain ⟨rfl, hZ, hh, H0⟩ := hP
  have hx := Bd.exec
  have hby := Bd.bytes
  have hml : c.maxLocals = 5 := hml0
  have hown : s.vm.findClass "com/example/cutoff/cutoff/store/TextCursorAtEndPinLaw" = some m.cls := findClass_of_methodNamed Bd.named
  have X0 : Stand p l e ({ frames := 4, cells := 6, slots := 12, locals := 58 } : Room) s m #[(.int p0), (.int p1), (.int p2), (.int 3), (.int 3)] below meth c s₁ [] 0 0 := Stand.of_body Bd
  have e0 : s₁.heap = h0 := by rw [← hh, Bd.state]; rfl
  have N0 := Fr.nil n0
  have H1 : CHr Z own_EL s.vm h0 s.vm h0 := ⟨H0, Nat.le_refl _, fun _ q => Or.inl q⟩
  have K0 : Keep h0 h0 [] := Keep.refl h0 []
  refine og (B := s₁.setTop (mkF m 0 #[iv p0, iv p1, iv p2, iv 3, iv 3] [])) (fun t k => castTop (ef_sfx3_3 m p0 p1 p2) k) ?_
  refine og (B := s₁.setTop (mkF m 1 #[iv p0, iv p1, iv p2, iv 3, iv 3] [(.int 3)])) (fun t k => ?_) ?_
  · refine XS.iloadN X0.here hx rfl (hb hby d5_0) rfl ?_
    exact k
  refine og (B := s₁.setTop (mkF m 13 #[iv p0, iv p1, iv p2, iv 3, iv 3] [])) (fun t k => ?_) ?_
  · refine XS.ifYes X0.here hx rfl (pc0 := 1) (pc' := 13) rfl (hb hby d5_1) rfl ((if0 _ _).trans (feq (by decide : ¬ ((3 : Int32) = (0 : Int32)))).2) (by decide) (by decide) ?_
    exact k
  refine og (B := s₁.setTop (mkF m 15 #[iv p0, iv p1, iv p2, iv 3, iv 3] [(.int 1), (.int 3)])) (fun t k => ?_) ?_
  · refine XS.iloadN X0.here hx rfl (hb hby d5_13) rfl ?_
    refine XS.iconst X0.here hx rfl (hb hby d5_14) ?_
    exact k
  refine og (B := s₁.setTop (mkF m 30 #[iv p0, iv p1, iv p2, iv 3, iv 3] [])) (fun t k => ?_) ?_
  · refine XS.icmpYes X0.here hx rfl (pc0 := 15) (pc' := 30) rfl (hb hby d5_15) rfl (feq (by decide : ¬ ((3 : Int32) = (1 : Int32)))).2 (by decide) (by decide) ?_
    exact k
  refine og (B := s₁.setTop (mkF m 32 #[iv p0, iv p1, iv p2, iv 3, iv 3] [(.int 2), (.int 3)])) (fun t k => ?_) ?_
  · refine XS.iloadN X0.here hx rfl (hb hby d5_30) rfl ?_
    refine XS.iconst X0.here hx rfl (hb hby d5_31) ?_
    exact k
  refine og (B := s₁.setTop (mkF m 48 #[iv p0, iv p1, iv p2, iv 3, iv 3] [])) (fun t k => ?_) ?_
  · refine XS.icmpYes X0.here hx rfl (pc0 := 32) (pc' := 48) rfl (hb hby d5_32) rfl (feq (by decide : ¬ ((3 : Int32) = (2 : Int32)))).2 (by decide) (by decide) ?_
    exact k
  refine og (B := s₁.setTop (mkF m 55 #[iv p0, iv p1, iv p2, iv 3, iv 3] [(.int 0), (.int 32), (.int 32), (.int 32)])) (fun t k => ?_) ?_
  · refine XS.bipush X0.here hx rfl (hb hby d5_48) ?_
    refine XS.bipush X0.here hx rfl (hb hby d5_50) ?_
    refine XS.bipush X0.here hx rfl (hb hby d5_52) ?_
    refine XS.iconst X0.here hx rfl (hb hby d5_54) ?_
    exact k
  have kk_1 := K0
  obtain ⟨_, _, ⟨T_1, L_1, k_1, n_1⟩, -, Xb_1, Sb_1, gs_1, ⟨Lc_1, hQ_1, l_1, y_1, z_1, CH_1⟩, st_1⟩ := callSS (show Stand p l e ({ frames := 4, cells := 6, slots := 12, locals := 58 } : Room) (s.setVm s.vm) m #[(.int p0), (.int p1), (.int p2), (.int 3), (.int 3)] below meth c s₁ _ _ _ from X0) hx (y := own_m2) hown (mvT hZ (ow hw 1 rfl)) (mvT hZ (ow hw 2 rfl)) (mvT hZ (ow hw 3 rfl)) (mvT hZ (ow hw 4 rfl)) (by decide) (backOfSH (s := s) (vm0 := s.vm) (W := 0) (rmstr0 l Z av0 hw [] (32 : Int32) (32 : Int32) (32 : Int32)  h0 n0 Z0 hEL) hZ (ow hw 4 rfl) (ow hw 3 rfl) (by decide) (by decide) hEL H1.1) (g := (mkF m 55 #[iv p0, iv p1, iv p2, iv 3, iv 3] [(.int 0), (.int 32), (.int 32), (.int 32)])) rfl (by rw [hml]; rfl) (argsL := [(.int 32), (.int 32), (.int 32), (.int 0)]) (rest := []) (lenOf pd_11 rfl) rfl (by show 2 * 0 + _ ≤ _; exact Nat.le_of_eq rfl) (hb hby d5_55) (fun _ _ => ⟨rfl, e0, (by decide : 0 + 6 ≤ _), (by decide : 0 + 12 ≤ _)⟩)
  dsimp only [Pt.U, Pt.locs, Pt.cells, Pt.slots] at Xb_1 Sb_1 gs_1 l_1 y_1 z_1 st_1 hQ_1 CH_1
  subst l_1 y_1 z_1
  obtain ⟨sx_1, sb_1, sk_1, rfl, N_1q, K_1, szq_1, sE_1, sc_1, sv_1, sV_1⟩ := hQ_1
  have N_1 := Fr.app N0 N_1q
  obtain ⟨X_1, Si_1, hZ_1, hown_1⟩ := rebS (s := s) (vm0 := s.vm) ((State.WarmedH.refl s).since 0) (Nat.zero_le 0) Xb_1 Sb_1 (Nat.zero_le _) hZ hown
  have c1 := H1.trans CH_1
  have c2 := K0.trans K_1 all0
  have Z0__1 : n0 ≤ T_1.heap.size := Nat.le_trans Z0 K_1.1
  have sz_sx_1 : h0.size ≤ sx_1 := Nat.le_trans kk_1.1 szq_1
  refine og (fun t k => st_1.trans k) ?_
  obtain ⟨fs, hr, hrun, hended, hRW⟩ := X_1.leaveW Si_1 (Nat.le_refl _) (v := some (.ref sx_1)) (fun h => by rw [Bd.returns] at h; cases h)
  have hCH : CHr Z own_EL s.vm s.heap T_1.vm T_1.heap := by rw [hh]; exact (c1.trans (CHv.at X_1 hZ_1 hEL c1.1))
  refine ⟨_, _, ?_, hrun, hended, _, _, rfl, ?_, hCH, hRW.1, hRW.2.1, hRW.2.2.1, hRW.2.2.2.mono (by decide) (by decide)⟩
  · show Steps p.tables e below (T_1.setTop (mkF m 58 #[iv p0, iv p1, iv p2, iv 3, iv 3] [(.ref sx_1)])) _
    jvm_step X_1.here [X_1.here.top, hx, (hb hby d5_58), X_1.method', Bd.returns, Value.isRef, FieldType.isReference]
    first | (intro acts; rw [hr _ acts rfl rfl rfl]) | rw [hr _ _ rfl rfl rfl]
    exact Steps.refl _
  · show Qsfx3_3 Z p0 p1 p2 h0 n0 _ T_1.heap _
    exact ⟨sx_1, sb_1, sk_1, rfl, N_1, c2, sz_sx_1, sE_1, sc_1, sv_1, sV_1⟩
theorem d6_0 : decode prog_74_method_1_code 0 = .ok (.aload_n 0, 1) := by decide +kernel
theorem d6_1 : decode prog_74_method_1_code 1 = .ok (.invokespecial 1, 3) := by decide +kernel
theorem d6_4 : decode prog_74_method_1_code 4 = .ok (.aload_n 0, 1) := by decide +kernel
theorem d6_5 : decode prog_74_method_1_code 5 = .ok (.aload_n 1, 1) := by decide +kernel
theorem d6_6 : decode prog_74_method_1_code 6 = .ok (.putfield 7, 3) := by decide +kernel
theorem d6_9 : decode prog_74_method_1_code 9 = .ok (.aload_n 0, 1) := by decide +kernel
theorem d6_10 : decode prog_74_method_1_code 10 = .ok (.aload_n 2, 1) := by decide +kernel
theorem d6_11 : decode prog_74_method_1_code 11 = .ok (.putfield 13, 3) := by decide +kernel
theorem d6_14 : decode prog_74_method_1_code 14 = .ok (.aload_n 0, 1) := by decide +kernel
theorem d6_15 : decode prog_74_method_1_code 15 = .ok (.iload_n 3, 1) := by decide +kernel
theorem d6_16 : decode prog_74_method_1_code 16 = .ok (.putfield 16, 3) := by decide +kernel
theorem d6_19 : decode prog_74_method_1_code 19 = .ok (.aload_n 0, 1) := by decide +kernel
theorem d6_20 : decode prog_74_method_1_code 20 = .ok (.aload_n 2, 1) := by decide +kernel
theorem d6_21 : decode prog_74_method_1_code 21 = .ok (.bipush 10, 2) := by decide +kernel
theorem d6_23 : decode prog_74_method_1_code 23 = .ok (.invokevirtual 20, 3) := by decide +kernel
theorem d6_26 : decode prog_74_method_1_code 26 = .ok (.ifCond .ge 17, 3) := by decide +kernel
theorem d6_29 : decode prog_74_method_1_code 29 = .ok (.aload_n 2, 1) := by decide +kernel
theorem d6_30 : decode prog_74_method_1_code 30 = .ok (.bipush 13, 2) := by decide +kernel
theorem d6_32 : decode prog_74_method_1_code 32 = .ok (.invokevirtual 20, 3) := by decide +kernel
theorem d6_35 : decode prog_74_method_1_code 35 = .ok (.ifCond .ge 8, 3) := by decide +kernel
theorem d6_38 : decode prog_74_method_1_code 38 = .ok (.ldc 26, 2) := by decide +kernel
theorem d6_40 : decode prog_74_method_1_code 40 = .ok (.goto 5, 3) := by decide +kernel
theorem d6_43 : decode prog_74_method_1_code 43 = .ok (.ldc 28, 2) := by decide +kernel
theorem d6_45 : decode prog_74_method_1_code 45 = .ok (.putfield 30, 3) := by decide +kernel
theorem d6_48 : decode prog_74_method_1_code 48 = .ok (.return_, 1) := by decide +kernel
theorem pn_6 : plainName "com/example/cutoff/cutoff/store/TextCursor" = true := by first | (simp [plainName, overriddenIn]; done) | decide +kernel
theorem ef_tc (m : MethodId) (a0 : Addr) (a1 : Addr) (a2 : Addr) : entryFrame m #[(.ref a0), (.ref a1), (.ref a2), (.int 1)] 4 = mkF m 0 #[rv a0, rv a1, rv a2, iv 1] [] := by first | (simp [entryFrame, mkF, argsToLocals, Value.category]; done) | rfl
theorem pd_12 : parseMethodDescriptor "(I)I" = some ⟨[.int], some .int⟩ := by decide +kernel
def Qtc (Z : State) (a0 : Addr) (a1 : Addr) (a2 : Addr) (u0 : Value) (u1 : Value) (u2 : Value) (u3 : Value) (b2 : Addr) (kk : ClassId) (w : Int32) (z : Int32) (vs : List Value) (rr : Int32 → Int32) (h0 : Heap) (n0 : Nat) (v : Option Value) (h : Heap) (L : List Loc) : Prop := v = none ∧ Fr n0 L ∧ Keep h0 h [a0] ∧ Fld Z h a0 "com/example/cutoff/cutoff/store/TextCursor" "text" "Ljava/lang/String;" (.ref a2) ∧ Fld Z h a0 "com/example/cutoff/cutoff/store/TextCursor" "position" "I" (.int (0 : Int32))
theorem rmtc (l : Launch) (Z : State) (av0 : Array Value) (hw : ∀ d ∈ tables_1, d.before av0 Z = true) (ws : List Jvm.Cond) (a0 : Addr) (a1 : Addr) (a2 : Addr) (u0 : Value) (u1 : Value) (u2 : Value) (u3 : Value) (b2 : Addr) (kk : ClassId) (w : Int32) (z : Int32) (vs : List Value) (rr : Int32 → Int32) (h0 : Heap) (n0 : Nat) (Z0 : n0 ≤ h0.size) (E_a0 : Exa Z h0 a0 "com/example/cutoff/cutoff/store/TextCursor") (F_source_a0 : Fld Z h0 a0 "com/example/cutoff/cutoff/store/TextCursor" "source" "Ljava/lang/String;" u0) (F_text_a0 : Fld Z h0 a0 "com/example/cutoff/cutoff/store/TextCursor" "text" "Ljava/lang/String;" u1) (F_firstLine_a0 : Fld Z h0 a0 "com/example/cutoff/cutoff/store/TextCursor" "firstLine" "I" u2) (F_end_a0 : Fld Z h0 a0 "com/example/cutoff/cutoff/store/TextCursor" "end" "Ljava/lang/String;" u3) (F_position_a0 : Fld Z h0 a0 "com/example/cutoff/cutoff/store/TextCursor" "position" "I" (.int 0)) (g_a0 : n0 ≤ a0) (E_a2 : Exa Z h0 a2 "java/lang/String") (F_coder_a2 : Fld Z h0 a2 "java/lang/String" "coder" "B" (.int 0)) (F_value_a2 : Fld Z h0 a2 "java/lang/String" "value" "[B" (.ref b2)) (S_COMPACT_STRINGS : Sta Z h0 "java/lang/String" "COMPACT_STRINGS" "Z" (.int w)) (hw0 : ¬ (w = (0 : Int32))) (V0 : Arv Z h0 b2 kk .byte z vs (.int 0)) (nea2 : a2 ≠ a0) (neb2 : b2 ≠ a0) (hEL : EW Z av0 own_EL) (hI : ∀ (h' : Heap) (c : Int32), n0 ≤ h'.size → Exa Z h' a2 "java/lang/String" → Fld Z h' a2 "java/lang/String" "coder" "B" (.int (0 : Int32)) → Fld Z h' a2 "java/lang/String" "value" "[B" (.ref b2) → Sta Z h' "java/lang/String" "COMPACT_STRINGS" "Z" (.int w) → Arv Z h' b2 kk .byte z vs (.int 0) → MetFree l own_m8 (head1 [Jvm.Cond.code own_m8 jdk_42_method_79_code 2 (some .int)] ({ frames := 6, cells := 0, slots := 0, locals := 150 } : Room)) (fun a U => a = #[(.ref a2), (.int c)] ∧ Z.Warmed39 U.vm ∧ U.heap = h') (fun _ _ _ _ _ => True) (fun _ U o U' => ∃ v L, o = .returned v ∧ (v = some (.int (rr c)) ∧ Fr n0 L ∧ U'.heap = h') ∧ FrameEnd U o U' L ({ frames := 6, cells := 0, slots := 0, locals := 150 } : Room).cells ({ frames := 6, cells := 0, slots := 0, locals := 150 } : Room).slots)) :
    MetFree l own_m7 (head1 (Jvm.Cond.code own_m7 prog_74_method_1_code 4 none :: ws) ({ frames := 7, cells := 2, slots := 80, locals := 164 } : Room)) (fun a U => a = #[(.ref a0), (.ref a1), (.ref a2), (.int 1)] ∧ Z.Warmed39 U.vm ∧ U.heap = h0 ∧ CHv Z own_EL U.vm h0) (fun _ _ _ _ _ => True) (fun _ U o U' => ∃ v L, o = .returned v ∧ Qtc Z a0 a1 a2 u0 u1 u2 u3 b2 kk w z vs rr h0 n0 v U'.heap L ∧ CHr Z own_EL U.vm U.heap U'.vm U'.heap ∧ ReturnedEndW U o U' L ({ frames := 7, cells := 2, slots := 80, locals := 164 } : Room).cells ({ frames := 7, cells := 2, slots := 80, locals := 164 } : Room).slots) := by
  refine MetFree.of_bodySF (plainFor_of_name pn_6) hisR ?_
  intro p e s m args below meth c s₁ Bd hml0 hP hK
  obtain ⟨rfl, hZ, hh, H0⟩ := hP
  have hx := Bd.exec
  have hby := Bd.bytes
  have hml : c.maxLocals = 4 := hml0
  have hown : s.vm.findClass "com/example/cutoff/cutoff/store/TextCursor" = some m.cls := findClass_of_methodNamed Bd.named
  have hnm := (name_of_methodNamed Bd.named Bd.method).1
  have X0 : Stand p l e ({ frames := 7, cells := 2, slots := 80, locals := 164 } : Room) s m #[(.ref a0), (.ref a1), (.ref a2), (.int 1)] below meth c s₁ [] 0 0 := Stand.of_body Bd
  have e0 : s₁.heap = h0 := by rw [← hh, Bd.state]; rfl
  have N0 := Fr.nil n0
  have H1 : CHr Z own_EL s.vm h0 s.vm h0 := ⟨H0, Nat.le_refl _, fun _ q => Or.inl q⟩
  have K0 : Keep h0 h0 [a0] := Keep.refl h0 [a0]
  refine og (B := s₁.setTop (mkF m 0 #[rv a0, rv a1, rv a2, iv 1] [])) (fun t k => castTop (ef_tc m a0 a1 a2) k) ?_
  refine og (B := s₁.setTop (mkF m 1 #[rv a0, rv a1, rv a2, iv 1] [(.ref a0)])) (fun t k => ?_) ?_
  · refine XS.aloadN X0.here hx rfl (hb hby d6_0) rfl rfl ?_
    exact k
  obtain ⟨T_1, X_1, e_1, st_1⟩ := initO X0 hx hZ hown (ow hw 37 rfl) (ow hw 17 rfl) (ow hw 18 rfl) e0 (g := (mkF m 1 #[rv a0, rv a1, rv a2, iv 1] [(.ref a0)])) rfl (by rw [hml]; rfl) rfl (hb hby d6_1) (by decide) (W := 0) (by show 2 * 0 + _ ≤ _; exact Nat.le_of_eq rfl) (by decide)
  refine og (fun t k => st_1 t k) ?_
  refine og (B := T_1.setTop (mkF m 6 #[rv a0, rv a1, rv a2, iv 1] [(.ref a1), (.ref a0)])) (fun t k => ?_) ?_
  · refine XS.aloadN X_1.here hx rfl (hb hby d6_4) rfl rfl ?_
    refine XS.aloadN X_1.here hx rfl (hb hby d6_5) rfl rfl ?_
    exact k
  obtain ⟨T_2, h_2, X_2, e_2, W_2, st_2⟩ := putF X_1 hx hZ hown (host := "") (Or.inl (ow hw 38 rfl)) Via.refl e_1 F_source_a0 E_a0 (Or.inr ⟨(ow hw 39 rfl), rfl, hnm⟩) (ow hw 31 rfl) (ty := (.object "java/lang/String")) (by decide) rfl rfl (g := (mkF m 6 #[rv a0, rv a1, rv a2, iv 1] [(.ref a1), (.ref a0)])) rfl rfl (hb hby d6_6)
  have c1 := H1.trans (CHr.wr W_2 (Safe.exa hZ.alike E_a0 (by decide) (by decide)) H1.1)
  have c2 := K0.wr W_2 (Or.inl (List.mem_of_getElem? (i := 0) rfl))
  have c3 := E_a0.wr W_2
  have c4 := F_source_a0.same W_2
  have c5 := F_text_a0.other W_2 (Or.inr (slot_ne (Or.inr (ow hw 41 rfl)) (Or.inr (ow hw 39 rfl)) (by decide) (t := (.object "java/lang/String")) (t' := (.object "java/lang/String")) (by decide) (by decide)))
  have c6 := F_firstLine_a0.other W_2 (Or.inr (slot_ne (Or.inr (ow hw 43 rfl)) (Or.inr (ow hw 39 rfl)) (by decide) (t := .int) (t' := (.object "java/lang/String")) (by decide) (by decide)))
  have c7 := F_end_a0.other W_2 (Or.inr (slot_ne (Or.inr (ow hw 86 rfl)) (Or.inr (ow hw 39 rfl)) (by decide) (t := (.object "java/lang/String")) (t' := (.object "java/lang/String")) (by decide) (by decide)))
  have c8 := F_position_a0.other W_2 (Or.inr (slot_ne (Or.inl (ow hw 93 rfl)) (Or.inr (ow hw 39 rfl)) (by decide) (t := .int) (t' := (.object "java/lang/String")) (by decide) (by decide)))
  have c9 := E_a2.wr W_2
  have c10 := F_coder_a2.other W_2 (Or.inl nea2)
  have c11 := F_value_a2.other W_2 (Or.inl nea2)
  have c12 := S_COMPACT_STRINGS.wr W_2
  have c13 := V0.other W_2 neb2
  have N_2 := Fr.snoc X_2 N0 g_a0
  have Z0__2 : n0 ≤ h_2.size := by rw [W_2.size]; exact Z0
  refine og (fun t k => st_2 t k) ?_
  refine og (B := T_2.setTop (mkF m 11 #[rv a0, rv a1, rv a2, iv 1] [(.ref a2), (.ref a0)])) (fun t k => ?_) ?_
  · refine XS.aloadN X_2.here hx rfl (hb hby d6_9) rfl rfl ?_
    refine XS.aloadN X_2.here hx rfl (hb hby d6_10) rfl rfl ?_
    exact k
  obtain ⟨T_3, h_3, X_3, e_3, W_3, st_3⟩ := putF X_2 hx hZ hown (host := "") (Or.inl (ow hw 40 rfl)) Via.refl e_2 c5 c3 (Or.inr ⟨(ow hw 41 rfl), rfl, hnm⟩) (ow hw 31 rfl) (ty := (.object "java/lang/String")) (by decide) rfl rfl (g := (mkF m 11 #[rv a0, rv a1, rv a2, iv 1] [(.ref a2), (.ref a0)])) rfl rfl (hb hby d6_11)
  have c14 := c1.trans (CHr.wr W_3 (Safe.exa hZ.alike c3 (by decide) (by decide)) c1.1)
  have c15 := c2.wr W_3 (Or.inl (List.mem_of_getElem? (i := 0) rfl))
  have c16 := c3.wr W_3
  have c17 := c4.other W_3 (Or.inr (slot_ne (Or.inr (ow hw 39 rfl)) (Or.inr (ow hw 41 rfl)) (by decide) (t := (.object "java/lang/String")) (t' := (.object "java/lang/String")) (by decide) (by decide)))
  have c18 := c5.same W_3
  have c19 := c6.other W_3 (Or.inr (slot_ne (Or.inr (ow hw 43 rfl)) (Or.inr (ow hw 41 rfl)) (by decide) (t := .int) (t' := (.object "java/lang/String")) (by decide) (by decide)))
  have c20 := c7.other W_3 (Or.inr (slot_ne (Or.inr (ow hw 86 rfl)) (Or.inr (ow hw 41 rfl)) (by decide) (t := (.object "java/lang/String")) (t' := (.object "java/lang/String")) (by decide) (by decide)))
  have c21 := c8.other W_3 (Or.inr (slot_ne (Or.inl (ow hw 93 rfl)) (Or.inr (ow hw 41 rfl)) (by decide) (t := .int) (t' := (.object "java/lang/String")) (by decide) (by decide)))
  have c22 := c9.wr W_3
  have c23 := c10.other W_3 (Or.inl nea2)
  have c24 := c11.other W_3 (Or.inl nea2)
  have c25 := c12.wr W_3
  have c26 := c13.other W_3 neb2
  have N_3 := Fr.snoc X_3 N_2 g_a0
  have Z0__3 : n0 ≤ h_3.size := by rw [W_3.size]; exact Z0__2
  refine og (fun t k => st_3 t k) ?_
  refine og (B := T_3.setTop (mkF m 16 #[rv a0, rv a1, rv a2, iv 1] [(.int 1), (.ref a0)])) (fun t k => ?_) ?_
  · refine XS.aloadN X_3.here hx rfl (hb hby d6_14) rfl rfl ?_
    refine XS.iloadN X_3.here hx rfl (hb hby d6_15) rfl ?_
    exact k
  obtain ⟨T_4, h_4, X_4, e_4, W_4, st_4⟩ := putF X_3 hx hZ hown (host := "") (Or.inl (ow hw 42 rfl)) Via.refl e_3 c19 c16 (Or.inr ⟨(ow hw 43 rfl), rfl, hnm⟩) (ow hw 31 rfl) (ty := .int) (by decide) rfl rfl (g := (mkF m 16 #[rv a0, rv a1, rv a2, iv 1] [(.int 1), (.ref a0)])) rfl rfl (hb hby d6_16)
  have c27 := c14.trans (CHr.wr W_4 (Safe.exa hZ.alike c16 (by decide) (by decide)) c14.1)
  have c28 := c15.wr W_4 (Or.inl (List.mem_of_getElem? (i := 0) rfl))
  have c29 := c16.wr W_4
  have c30 := c17.other W_4 (Or.inr (slot_ne (Or.inr (ow hw 39 rfl)) (Or.inr (ow hw 43 rfl)) (by decide) (t := (.object "java/lang/String")) (t' := .int) (by decide) (by decide)))
  have c31 := c18.other W_4 (Or.inr (slot_ne (Or.inr (ow hw 41 rfl)) (Or.inr (ow hw 43 rfl)) (by decide) (t := (.object "java/lang/String")) (t' := .int) (by decide) (by decide)))
  have c32 := c19.same W_4
  have c33 := c20.other W_4 (Or.inr (slot_ne (Or.inr (ow hw 86 rfl)) (Or.inr (ow hw 43 rfl)) (by decide) (t := (.object "java/lang/String")) (t' := .int) (by decide) (by decide)))
  have c34 := c21.other W_4 (Or.inr (slot_ne (Or.inl (ow hw 93 rfl)) (Or.inr (ow hw 43 rfl)) (by decide) (t := .int) (t' := .int) (by decide) (by decide)))
  have c35 := c22.wr W_4
  have c36 := c23.other W_4 (Or.inl nea2)
  have c37 := c24.other W_4 (Or.inl nea2)
  have c38 := c25.wr W_4
  have c39 := c26.other W_4 neb2
  have N_4 := Fr.snoc X_4 N_3 g_a0
  have Z0__4 : n0 ≤ h_4.size := by rw [W_4.size]; exact Z0__3
  refine og (fun t k => st_4 t k) ?_
  refine og (B := T_4.setTop (mkF m 23 #[rv a0, rv a1, rv a2, iv 1] [(.int 10), (.ref a2), (.ref a0)])) (fun t k => ?_) ?_
  · refine XS.aloadN X_4.here hx rfl (hb hby d6_19) rfl rfl ?_
    refine XS.aloadN X_4.here hx rfl (hb hby d6_20) rfl rfl ?_
    refine XS.bipush X_4.here hx rfl (hb hby d6_21) ?_
    exact k
  obtain ⟨cq_5, kq_5, q_5a, q_5b, q_5c⟩ := isOf hZ e_4 c35
  obtain ⟨_, _, ⟨T_5, L_5, k_5, n_5⟩, -, X_5, ⟨Lc_5, hQ_5, l_5, y_5, z_5⟩, st_5⟩ := X_4.virtualBack hx (y := own_m8) (z := own_m8) hown (mvT hZ (ow hw 44 rfl)) (mvT hZ (ow hw 45 rfl)) (notFace_of_selects (args := #[]) (mvT hZ (ow hw 47 rfl))) (mvT hZ (ow hw 47 rfl)) (mvT hZ (ow hw 46 rfl)) (by decide) (backOf (rm := ({ frames := 6, cells := 0, slots := 0, locals := 150 } : Room)) (Q := fun v h L => v = some (.int (rr (10 : Int32))) ∧ Fr n0 L ∧ h = h_4) (W := 1) (hI h_4 (10 : Int32) Z0__4 c35 c36 c37 c38 c39) hZ (ow hw 48 rfl) (ow hw 7 rfl) (by decide) (by decide)) q_5a q_5c (g := (mkF m 23 #[rv a0, rv a1, rv a2, iv 1] [(.int 10), (.ref a2), (.ref a0)])) rfl (by rw [hml]; rfl) (Steps.refl _) (argsL := [(.int 10)]) (rest := [(.ref a0)]) (lenOf pd_12 rfl) rfl (by show 2 * 0 + _ ≤ _; exact Nat.le_of_eq rfl) (hb hby d6_23) (fun _ _ => ⟨rfl, e_4, (by decide : 0 + 0 ≤ _), (by decide : 0 + 0 ≤ _)⟩)
  dsimp only [Pt.U, Pt.locs, Pt.cells, Pt.slots] at X_5 l_5 y_5 z_5 st_5 hQ_5
  subst l_5 y_5 z_5
  obtain ⟨rfl, N_5q, e_5⟩ := hQ_5
  have N_5 := Fr.app N_4 N_5q
  refine og (fun t k => st_5.trans k) ?_
  by_cases hc26 : (rr (10 : Int32)) < (0 : Int32)
  · refine og (B := T_5.setTop (mkF m 29 #[rv a0, rv a1, rv a2, iv 1] [(.ref a0)])) (fun t k => ?_) ?_
    · refine XS.ifNo X_5.here hx rfl (hb hby d6_26) rfl ((if0 _ _).trans (tlt hc26).2.1) ?_
      exact k
    refine og (B := T_5.setTop (mkF m 32 #[rv a0, rv a1, rv a2, iv 1] [(.int 13), (.ref a2), (.ref a0)])) (fun t k => ?_) ?_
    · refine XS.aloadN X_5.here hx rfl (hb hby d6_29) rfl rfl ?_
      refine XS.bipush X_5.here hx rfl (hb hby d6_30) ?_
      exact k
    obtain ⟨cq_6, kq_6, q_6a, q_6b, q_6c⟩ := isOf hZ e_5 c35
    obtain ⟨_, _, ⟨T_6, L_6, k_6, n_6⟩, -, X_6, ⟨Lc_6, hQ_6, l_6, y_6, z_6⟩, st_6⟩ := X_5.virtualBack hx (y := own_m8) (z := own_m8) hown (mvT hZ (ow hw 44 rfl)) (mvT hZ (ow hw 45 rfl)) (notFace_of_selects (args := #[]) (mvT hZ (ow hw 47 rfl))) (mvT hZ (ow hw 47 rfl)) (mvT hZ (ow hw 46 rfl)) (by decide) (backOf (rm := ({ frames := 6, cells := 0, slots := 0, locals := 150 } : Room)) (Q := fun v h L => v = some (.int (rr (13 : Int32))) ∧ Fr n0 L ∧ h = h_4) (W := 1) (hI h_4 (13 : Int32) Z0__4 c35 c36 c37 c38 c39) hZ (ow hw 48 rfl) (ow hw 7 rfl) (by decide) (by decide)) q_6a q_6c (g := (mkF m 32 #[rv a0, rv a1, rv a2, iv 1] [(.int 13), (.ref a2), (.ref a0)])) rfl (by rw [hml]; rfl) (Steps.refl _) (argsL := [(.int 13)]) (rest := [(.ref a0)]) (lenOf pd_12 rfl) rfl (by show 2 * 0 + _ ≤ _; exact Nat.le_of_eq rfl) (hb hby d6_32) (fun _ _ => ⟨rfl, e_5, (by decide : 0 + 0 ≤ _), (by decide : 0 + 0 ≤ _)⟩)
    dsimp only [Pt.U, Pt.locs, Pt.cells, Pt.slots] at X_6 l_6 y_6 z_6 st_6 hQ_6
    subst l_6 y_6 z_6
    obtain ⟨rfl, N_6q, e_6⟩ := hQ_6
    have N_6 := Fr.app N_5 N_6q
    refine og (fun t k => st_6.trans k) ?_
    by_cases hc35 : (rr (13 : Int32)) < (0 : Int32)
    · refine og (B := T_6.setTop (mkF m 38 #[rv a0, rv a1, rv a2, iv 1] [(.ref a0)])) (fun t k => ?_) ?_
      · refine XS.ifNo X_6.here hx rfl (hb hby d6_35) rfl ((if0 _ _).trans (tlt hc35).2.1) ?_
        exact k
      have wS_7 := own_wS hw
      obtain ⟨b_7, T_7, h_7, k1_7, d_7, kc_7, X_7, e_7, E_7, Si_7, ls_7, hZ_7, hown_7, A_7, Fc_7, Fv_7, V_7, -, -, CH_7, -, NE_7, st_7⟩ := ldcCH (s := s) (vm0 := s.vm) (show Stand p l e ({ frames := 7, cells := 2, slots := 80, locals := 164 } : Room) (s.setVm s.vm) m #[(.ref a0), (.ref a1), (.ref a2), (.int 1)] below meth c T_6 _ _ _ from X_6) hx hZ hown (ow hw 84 rfl) wS_7 e_6 ((State.WarmedH.refl s).since 0) (Nat.zero_le _) hEL (List.mem_of_getElem? (i := 2) rfl) c27.1 (vs := [(.int (116 : Int32)), (.int (104 : Int32)), (.int (101 : Int32)), (.int (32 : Int32)), (.int (101 : Int32)), (.int (110 : Int32)), (.int (100 : Int32)), (.int (32 : Int32)), (.int (111 : Int32)), (.int (102 : Int32)), (.int (32 : Int32)), (.int (116 : Int32)), (.int (104 : Int32)), (.int (101 : Int32)), (.int (32 : Int32)), (.int (108 : Int32)), (.int (105 : Int32)), (.int (110 : Int32)), (.int (101 : Int32))]) (z := (19 : Int32)) ⟨by decide, rfl⟩ (by decide) rfl (g := (mkF m 38 #[rv a0, rv a1, rv a2, iv 1] [(.ref a0)])) rfl (hb hby d6_38) (n := 76) (by decide) (by decide) (by decide) (by decide)
      have c40 := c27.trans CH_7
      have c41 := c28.ext E_7
      have c42 := c29.ext E_7
      have c43 := c30.ext E_7
      have c44 := c31.ext E_7
      have c45 := c32.ext E_7
      have c46 := c33.ext E_7
      have c47 := c34.ext E_7
      have c48 := c35.ext E_7
      have c49 := c36.ext E_7
      have c50 := c37.ext E_7
      have c51 := c38.ext E_7
      have c52 := c39.ext E_7
      have Z0__7 : n0 ≤ h_7.size := Nat.le_trans Z0__4 E_7.1
      refine og (fun t k => st_7 t k) ?_
      refine og (B := T_7.setTop (mkF m 45 #[rv a0, rv a1, rv a2, iv 1] [(.ref b_7), (.ref a0)])) (fun t k => ?_) ?_
      · refine XS.goto X_7.here hx rfl (pc0 := 40) (pc' := 45) rfl (hb hby d6_40) (by decide) (by decide) ?_
        exact k
      obtain ⟨T_8, h_8, X_8, e_8, W_8, st_8⟩ := putF X_7 hx hZ_7 hown_7 (host := "") (Or.inl (ow hw 85 rfl)) Via.refl e_7 c46 c42 (Or.inr ⟨(ow hw 86 rfl), rfl, hnm⟩) (ow hw 31 rfl) (ty := (.object "java/lang/String")) (by decide) rfl rfl (g := (mkF m 45 #[rv a0, rv a1, rv a2, iv 1] [(.ref b_7), (.ref a0)])) rfl rfl (hb hby d6_45)
      have c53 := c40.trans (CHr.wr W_8 (Safe.exa hZ_7.alike c42 (by decide) (by decide)) c40.1)
      have c54 := Nat.le_trans ls_7 (Nat.le_of_eq W_8.size.symm)
      have c55 := c41.wr W_8 (Or.inl (List.mem_of_getElem? (i := 0) rfl))
      have c56 := c42.wr W_8
      have c57 := c43.other W_8 (Or.inr (slot_ne (Or.inr (ow hw 39 rfl)) (Or.inr (ow hw 86 rfl)) (by decide) (t := (.object "java/lang/String")) (t' := (.object "java/lang/String")) (by decide) (by decide)))
      have c58 := c44.other W_8 (Or.inr (slot_ne (Or.inr (ow hw 41 rfl)) (Or.inr (ow hw 86 rfl)) (by decide) (t := (.object "java/lang/String")) (t' := (.object "java/lang/String")) (by decide) (by decide)))
      have c59 := c45.other W_8 (Or.inr (slot_ne (Or.inr (ow hw 43 rfl)) (Or.inr (ow hw 86 rfl)) (by decide) (t := .int) (t' := (.object "java/lang/String")) (by decide) (by decide)))
      have c60 := c46.same W_8
      have c61 := c47.other W_8 (Or.inr (slot_ne (Or.inl (ow hw 93 rfl)) (Or.inr (ow hw 86 rfl)) (by decide) (t := .int) (t' := (.object "java/lang/String")) (by decide) (by decide)))
      have c62 := c48.wr W_8
      have c63 := c49.other W_8 (Or.inl nea2)
      have c64 := c50.other W_8 (Or.inl nea2)
      have c65 := c51.wr W_8
      have c66 := c52.other W_8 neb2
      have c67 := A_7.wr W_8
      have N_8 := Fr.snoc X_8 N_6 g_a0
      have Z0__8 : n0 ≤ h_8.size := by rw [W_8.size]; exact Z0__7
      refine og (fun t k => st_8 t k) ?_
      obtain ⟨fs, hr, hrun, hended, hRW⟩ := X_8.leaveW Si_7 (by rw [e_8]; exact c54) (v := none) (fun _ => rfl)
      have hCH : CHr Z own_EL s.vm s.heap T_8.vm T_8.heap := by rw [hh, e_8]; exact (c53.trans (CHv.at X_8 hZ_7 hEL c53.1))
      refine ⟨_, _, ?_, hrun, hended, _, _, rfl, ?_, hCH, hRW.1, hRW.2.1, hRW.2.2.1, hRW.2.2.2.mono (by decide) (by decide)⟩
      · show Steps p.tables e below (T_8.setTop (mkF m 48 #[rv a0, rv a1, rv a2, iv 1] [])) _
        exact X_8.returnOut hx Bd.returns (hb hby d6_48) hr
      · show Qtc Z a0 a1 a2 u0 u1 u2 u3 b2 kk w z vs rr h0 n0 _ T_8.heap _
        rw [e_8]
        exact ⟨rfl, N_8, c55, c58, c61⟩
    · refine og (B := T_6.setTop (mkF m 43 #[rv a0, rv a1, rv a2, iv 1] [(.ref a0)])) (fun t k => ?_) ?_
      · refine XS.ifYes X_6.here hx rfl (pc0 := 35) (pc' := 43) rfl (hb hby d6_35) rfl ((if0 _ _).trans (flt hc35).2.1) (by decide) (by decide) ?_
        exact k
      have wS_9 := own_wS hw
      obtain ⟨b_9, T_9, h_9, k1_9, d_9, kc_9, X_9, e_9, E_9, Si_9, ls_9, hZ_9, hown_9, A_9, Fc_9, Fv_9, V_9, -, -, CH_9, -, NE_9, st_9⟩ := ldcCH (s := s) (vm0 := s.vm) (show Stand p l e ({ frames := 7, cells := 2, slots := 80, locals := 164 } : Room) (s.setVm s.vm) m #[(.ref a0), (.ref a1), (.ref a2), (.int 1)] below meth c T_6 _ _ _ from X_6) hx hZ hown (ow hw 132 rfl) wS_9 e_6 ((State.WarmedH.refl s).since 0) (Nat.zero_le _) hEL (List.mem_of_getElem? (i := 3) rfl) c27.1 (vs := [(.int (116 : Int32)), (.int (104 : Int32)), (.int (101 : Int32)), (.int (32 : Int32)), (.int (101 : Int32)), (.int (110 : Int32)), (.int (100 : Int32)), (.int (32 : Int32)), (.int (111 : Int32)), (.int (102 : Int32)), (.int (32 : Int32)), (.int (116 : Int32)), (.int (104 : Int32)), (.int (101 : Int32)), (.int (32 : Int32)), (.int (116 : Int32)), (.int (101 : Int32)), (.int (120 : Int32)), (.int (116 : Int32))]) (z := (19 : Int32)) ⟨by decide, rfl⟩ (by decide) rfl (g := (mkF m 43 #[rv a0, rv a1, rv a2, iv 1] [(.ref a0)])) rfl (hb hby d6_43) (n := 76) (by decide) (by decide) (by decide) (by decide)
      have c68 := c27.trans CH_9
      have c69 := c28.ext E_9
      have c70 := c29.ext E_9
      have c71 := c30.ext E_9
      have c72 := c31.ext E_9
      have c73 := c32.ext E_9
      have c74 := c33.ext E_9
      have c75 := c34.ext E_9
      have c76 := c35.ext E_9
      have c77 := c36.ext E_9
      have c78 := c37.ext E_9
      have c79 := c38.ext E_9
      have c80 := c39.ext E_9
      have Z0__9 : n0 ≤ h_9.size := Nat.le_trans Z0__4 E_9.1
      refine og (fun t k => st_9 t k) ?_
      obtain ⟨T_10, h_10, X_10, e_10, W_10, st_10⟩ := putF X_9 hx hZ_9 hown_9 (host := "") (Or.inl (ow hw 85 rfl)) Via.refl e_9 c74 c70 (Or.inr ⟨(ow hw 86 rfl), rfl, hnm⟩) (ow hw 31 rfl) (ty := (.object "java/lang/String")) (by decide) rfl rfl (g := (mkF m 45 #[rv a0, rv a1, rv a2, iv 1] [(.ref b_9), (.ref a0)])) rfl rfl (hb hby d6_45)
      have c81 := c68.trans (CHr.wr W_10 (Safe.exa hZ_9.alike c70 (by decide) (by decide)) c68.1)
      have c82 := Nat.le_trans ls_9 (Nat.le_of_eq W_10.size.symm)
      have c83 := c69.wr W_10 (Or.inl (List.mem_of_getElem? (i := 0) rfl))
      have c84 := c70.wr W_10
      have c85 := c71.other W_10 (Or.inr (slot_ne (Or.inr (ow hw 39 rfl)) (Or.inr (ow hw 86 rfl)) (by decide) (t := (.object "java/lang/String")) (t' := (.object "java/lang/String")) (by decide) (by decide)))
      have c86 := c72.other W_10 (Or.inr (slot_ne (Or.inr (ow hw 41 rfl)) (Or.inr (ow hw 86 rfl)) (by decide) (t := (.object "java/lang/String")) (t' := (.object "java/lang/String")) (by decide) (by decide)))
      have c87 := c73.other W_10 (Or.inr (slot_ne (Or.inr (ow hw 43 rfl)) (Or.inr (ow hw 86 rfl)) (by decide) (t := .int) (t' := (.object "java/lang/String")) (by decide) (by decide)))
      have c88 := c74.same W_10
      have c89 := c75.other W_10 (Or.inr (slot_ne (Or.inl (ow hw 93 rfl)) (Or.inr (ow hw 86 rfl)) (by decide) (t := .int) (t' := (.object "java/lang/String")) (by decide) (by decide)))
      have c90 := c76.wr W_10
      have c91 := c77.other W_10 (Or.inl nea2)
      have c92 := c78.other W_10 (Or.inl nea2)
      have c93 := c79.wr W_10
      have c94 := c80.other W_10 neb2
      have c95 := A_9.wr W_10
      have N_10 := Fr.snoc X_10 N_6 g_a0
      have Z0__10 : n0 ≤ h_10.size := by rw [W_10.size]; exact Z0__9
      refine og (fun t k => st_10 t k) ?_
      obtain ⟨fs, hr, hrun, hended, hRW⟩ := X_10.leaveW Si_9 (by rw [e_10]; exact c82) (v := none) (fun _ => rfl)
      have hCH : CHr Z own_EL s.vm s.heap T_10.vm T_10.heap := by rw [hh, e_10]; exact (c81.trans (CHv.at X_10 hZ_9 hEL c81.1))
      refine ⟨_, _, ?_, hrun, hended, _, _, rfl, ?_, hCH, hRW.1, hRW.2.1, hRW.2.2.1, hRW.2.2.2.mono (by decide) (by decide)⟩
      · show Steps p.tables e below (T_10.setTop (mkF m 48 #[rv a0, rv a1, rv a2, iv 1] [])) _
        exact X_10.returnOut hx Bd.returns (hb hby d6_48) hr
      · show Qtc Z a0 a1 a2 u0 u1 u2 u3 b2 kk w z vs rr h0 n0 _ T_10.heap _
        rw [e_10]
        exact ⟨rfl, N_10, c83, c86, c89⟩
  · refine og (B := T_5.setTop (mkF m 43 #[rv a0, rv a1, rv a2, iv 1] [(.ref a0)])) (fun t k => ?_) ?_
    · refine XS.ifYes X_5.here hx rfl (pc0 := 26) (pc' := 43) rfl (hb hby d6_26) rfl ((if0 _ _).trans (flt hc26).2.1) (by decide) (by decide) ?_
      exact k
    have wS_11 := own_wS hw
    obtain ⟨b_11, T_11, h_11, k1_11, d_11, kc_11, X_11, e_11, E_11, Si_11, ls_11, hZ_11, hown_11, A_11, Fc_11, Fv_11, V_11, -, -, CH_11, -, NE_11, st_11⟩ := ldcCH (s := s) (vm0 := s.vm) (show Stand p l e ({ frames := 7, cells := 2, slots := 80, locals := 164 } : Room) (s.setVm s.vm) m #[(.ref a0), (.ref a1), (.ref a2), (.int 1)] below meth c T_5 _ _ _ from X_5) hx hZ hown (ow hw 132 rfl) wS_11 e_5 ((State.WarmedH.refl s).since 0) (Nat.zero_le _) hEL (List.mem_of_getElem? (i := 3) rfl) c27.1 (vs := [(.int (116 : Int32)), (.int (104 : Int32)), (.int (101 : Int32)), (.int (32 : Int32)), (.int (101 : Int32)), (.int (110 : Int32)), (.int (100 : Int32)), (.int (32 : Int32)), (.int (111 : Int32)), (.int (102 : Int32)), (.int (32 : Int32)), (.int (116 : Int32)), (.int (104 : Int32)), (.int (101 : Int32)), (.int (32 : Int32)), (.int (116 : Int32)), (.int (101 : Int32)), (.int (120 : Int32)), (.int (116 : Int32))]) (z := (19 : Int32)) ⟨by decide, rfl⟩ (by decide) rfl (g := (mkF m 43 #[rv a0, rv a1, rv a2, iv 1] [(.ref a0)])) rfl (hb hby d6_43) (n := 76) (by decide) (by decide) (by decide) (by decide)
    have c96 := c27.trans CH_11
    have c97 := c28.ext E_11
    have c98 := c29.ext E_11
    have c99 := c30.ext E_11
    have c100 := c31.ext E_11
    have c101 := c32.ext E_11
    have c102 := c33.ext E_11
    have c103 := c34.ext E_11
    have c104 := c35.ext E_11
    have c105 := c36.ext E_11
    have c106 := c37.ext E_11
    have c107 := c38.ext E_11
    have c108 := c39.ext E_11
    have Z0__11 : n0 ≤ h_11.size := Nat.le_trans Z0__4 E_11.1
    refine og (fun t k => st_11 t k) ?_
    obtain ⟨T_12, h_12, X_12, e_12, W_12, st_12⟩ := putF X_11 hx hZ_11 hown_11 (host := "") (Or.inl (ow hw 85 rfl)) Via.refl e_11 c102 c98 (Or.inr ⟨(ow hw 86 rfl), rfl, hnm⟩) (ow hw 31 rfl) (ty := (.object "java/lang/String")) (by decide) rfl rfl (g := (mkF m 45 #[rv a0, rv a1, rv a2, iv 1] [(.ref b_11), (.ref a0)])) rfl rfl (hb hby d6_45)
    have c109 := c96.trans (CHr.wr W_12 (Safe.exa hZ_11.alike c98 (by decide) (by decide)) c96.1)
    have c110 := Nat.le_trans ls_11 (Nat.le_of_eq W_12.size.symm)
    have c111 := c97.wr W_12 (Or.inl (List.mem_of_getElem? (i := 0) rfl))
    have c112 := c98.wr W_12
    have c113 := c99.other W_12 (Or.inr (slot_ne (Or.inr (ow hw 39 rfl)) (Or.inr (ow hw 86 rfl)) (by decide) (t := (.object "java/lang/String")) (t' := (.object "java/lang/String")) (by decide) (by decide)))
    have c114 := c100.other W_12 (Or.inr (slot_ne (Or.inr (ow hw 41 rfl)) (Or.inr (ow hw 86 rfl)) (by decide) (t := (.object "java/lang/String")) (t' := (.object "java/lang/String")) (by decide) (by decide)))
    have c115 := c101.other W_12 (Or.inr (slot_ne (Or.inr (ow hw 43 rfl)) (Or.inr (ow hw 86 rfl)) (by decide) (t := .int) (t' := (.object "java/lang/String")) (by decide) (by decide)))
    have c116 := c102.same W_12
    have c117 := c103.other W_12 (Or.inr (slot_ne (Or.inl (ow hw 93 rfl)) (Or.inr (ow hw 86 rfl)) (by decide) (t := .int) (t' := (.object "java/lang/String")) (by decide) (by decide)))
    have c118 := c104.wr W_12
    have c119 := c105.other W_12 (Or.inl nea2)
    have c120 := c106.other W_12 (Or.inl nea2)
    have c121 := c107.wr W_12
    have c122 := c108.other W_12 neb2
    have c123 := A_11.wr W_12
    have N_12 := Fr.snoc X_12 N_5 g_a0
    have Z0__12 : n0 ≤ h_12.size := by rw [W_12.size]; exact Z0__11
    refine og (fun t k => st_12 t k) ?_
    obtain ⟨fs, hr, hrun, hended, hRW⟩ := X_12.leaveW Si_11 (by rw [e_12]; exact c110) (v := none) (fun _ => rfl)
    have hCH : CHr Z own_EL s.vm s.heap T_12.vm T_12.heap := by rw [hh, e_12]; exact (c109.trans (CHv.at X_12 hZ_11 hEL c109.1))
    refine ⟨_, _, ?_, hrun, hended, _, _, rfl, ?_, hCH, hRW.1, hRW.2.1, hRW.2.2.1, hRW.2.2.2.mono (by decide) (by decide)⟩
    · show Steps p.tables e below (T_12.setTop (mkF m 48 #[rv a0, rv a1, rv a2, iv 1] [])) _
      exact X_12.returnOut hx Bd.returns (hb hby d6_48) hr
    · show Qtc Z a0 a1 a2 u0 u1 u2 u3 b2 kk w z vs rr h0 n0 _ T_12.heap _
      rw [e_12]
      exact ⟨rfl, N_12, c111, c114, c117⟩
def own_ge (p z : Int32) : Int32 := if p < z then (0 : Int32) else (1 : Int32)
theorem d16_0 : decode prog_74_method_3_code 0 = .ok (.aload_n 0, 1) := by decide +kernel
theorem d16_1 : decode prog_74_method_3_code 1 = .ok (.getfield 33, 3) := by decide +kernel
theorem d16_4 : decode prog_74_method_3_code 4 = .ok (.aload_n 0, 1) := by decide +kernel
theorem d16_5 : decode prog_74_method_3_code 5 = .ok (.getfield 13, 3) := by decide +kernel
theorem d16_8 : decode prog_74_method_3_code 8 = .ok (.invokevirtual 36, 3) := by decide +kernel
theorem d16_11 : decode prog_74_method_3_code 11 = .ok (.if_icmp .lt 7, 3) := by decide +kernel
theorem d16_14 : decode prog_74_method_3_code 14 = .ok (.iconst 1, 1) := by decide +kernel
theorem d16_15 : decode prog_74_method_3_code 15 = .ok (.goto 4, 3) := by decide +kernel
theorem d16_18 : decode prog_74_method_3_code 18 = .ok (.iconst 0, 1) := by decide +kernel
theorem d16_19 : decode prog_74_method_3_code 19 = .ok (.ireturn, 1) := by decide +kernel
theorem pn_16 : plainName "com/example/cutoff/cutoff/store/TextCursor" = true := by first | (simp [plainName, overriddenIn]; done) | decide +kernel
theorem ef_16 (m : MethodId) (a0 : Addr) : entryFrame m #[(.ref a0)] 1 = mkF m 0 #[rv a0] [] := by first | (simp [entryFrame, mkF, argsToLocals, Value.category]; done) | rfl
def Q16 (Z : State) (a0 : Addr) (pp : Int32) (t0 : Addr) (b0 : Addr) (kk : ClassId) (w : Int32) (z : Int32) (vs : List Value) (h0 : Heap) (n0 : Nat) (v : Option Value) (h : Heap) (L : List Loc) : Prop := v = some (.int (own_ge pp z)) ∧ Fr n0 L ∧ h = h0
theorem rm16 (l : Launch) (Z : State) (av0 : Array Value) (hw : ∀ d ∈ tables_1, d.before av0 Z = true) (ws : List Jvm.Cond) (a0 : Addr) (pp : Int32) (t0 : Addr) (b0 : Addr) (kk : ClassId) (w : Int32) (z : Int32) (vs : List Value) (h0 : Heap) (n0 : Nat) (Z0 : n0 ≤ h0.size) (F_position_a0 : Fld Z h0 a0 "com/example/cutoff/cutoff/store/TextCursor" "position" "I" (.int pp)) (F_text_a0 : Fld Z h0 a0 "com/example/cutoff/cutoff/store/TextCursor" "text" "Ljava/lang/String;" (.ref t0)) (E_t0 : Exa Z h0 t0 "java/lang/String") (F_coder_t0 : Fld Z h0 t0 "java/lang/String" "coder" "B" (.int 0)) (F_value_t0 : Fld Z h0 t0 "java/lang/String" "value" "[B" (.ref b0)) (S_COMPACT_STRINGS : Sta Z h0 "java/lang/String" "COMPACT_STRINGS" "Z" (.int w)) (hw0 : ¬ (w = (0 : Int32))) (V0 : Arv Z h0 b0 kk .byte z vs (.int 0)) :
    MetFree l own_m17 (head1 (Jvm.Cond.code own_m17 prog_74_method_3_code 1 (some .boolean) :: ws) ({ frames := 2, cells := 0, slots := 0, locals := 26 } : Room)) (fun a U => a = #[(.ref a0)] ∧ Z.Warmed39 U.vm ∧ U.heap = h0) (fun _ _ _ _ _ => True) (fun _ U o U' => ∃ v L, o = .returned v ∧ Q16 Z a0 pp t0 b0 kk w z vs h0 n0 v U'.heap L ∧ FrameEnd U o U' L ({ frames := 2, cells := 0, slots := 0, locals := 26 } : Room).cells ({ frames := 2, cells := 0, slots := 0, locals := 26 } : Room).slots) := by
  refine MetFree.of_bodySF (plainFor_of_name pn_16) hisR ?_
  intro p e s m args below meth c s₁ Bd hml0 hP hK
  obtain ⟨rfl, hZ, hh⟩ := hP
  have hx := Bd.exec
  have hby := Bd.bytes
  have hml : c.maxLocals = 1 := hml0
  have hown : s.vm.findClass "com/example/cutoff/cutoff/store/TextCursor" = some m.cls := findClass_of_methodNamed Bd.named
  have X0 : Stand p l e ({ frames := 2, cells := 0, slots := 0, locals := 26 } : Room) s m #[(.ref a0)] below meth c s₁ [] 0 0 := Stand.of_body Bd
  have e0 : s₁.heap = h0 := by rw [← hh, Bd.state]; rfl
  have N0 := Fr.nil n0
  have K0 : Keep h0 h0 [] := Keep.refl h0 []
  refine og (B := s₁.setTop (mkF m 0 #[rv a0] [])) (fun t k => castTop (ef_16 m a0) k) ?_
  refine og (B := s₁.setTop (mkF m 1 #[rv a0] [(.ref a0)])) (fun t k => ?_) ?_
  · refine XS.aloadN X0.here hx rfl (hb hby d16_0) rfl rfl ?_
    exact k
  obtain ⟨T_1, X_1, e_1, st_1⟩ := getF X0 hx hZ hown (host := "") (Or.inl (ow hw 92 rfl)) Via.refl e0 F_position_a0 (g := (mkF m 1 #[rv a0] [(.ref a0)])) rfl rfl (hb hby d16_1)
  refine og (fun t k => st_1 t k) ?_
  refine og (B := T_1.setTop (mkF m 5 #[rv a0] [(.ref a0), (.int pp)])) (fun t k => ?_) ?_
  · refine XS.aloadN X_1.here hx rfl (hb hby d16_4) rfl rfl ?_
    exact k
  obtain ⟨T_2, X_2, e_2, st_2⟩ := getF X_1 hx hZ hown (host := "") (Or.inl (ow hw 40 rfl)) Via.refl e_1 F_text_a0 (g := (mkF m 5 #[rv a0] [(.ref a0), (.int pp)])) rfl rfl (hb hby d16_5)
  refine og (fun t k => st_2 t k) ?_
  obtain ⟨cq_3, kq_3, q_3a, q_3b, q_3c⟩ := isOf hZ e_2 E_t0
  obtain ⟨_, _, ⟨T_3, L_3, k_3, n_3⟩, -, X_3, ⟨Lc_3, hQ_3, l_3, y_3, z_3⟩, st_3⟩ := X_2.virtualBack hx (y := own_m11) (z := own_m11) hown (mvT hZ (ow hw 94 rfl)) (mvT hZ (ow hw 61 rfl)) (notFace_of_selects (args := #[]) (mvT hZ (ow hw 63 rfl))) (mvT hZ (ow hw 63 rfl)) (mvT hZ (ow hw 62 rfl)) (by decide) (backOf (W := 1) (rm10 l Z av0 hw [] t0 b0 kk w z vs h0 n0 Z0 E_t0 F_coder_t0 F_value_t0 S_COMPACT_STRINGS hw0 V0) hZ (ow hw 64 rfl) (ow hw 7 rfl) (by decide) (by decide)) q_3a q_3c (g := (mkF m 8 #[rv a0] [(.ref t0), (.int pp)])) rfl (by rw [hml]; rfl) (Steps.refl _) (argsL := []) (rest := [(.int pp)]) (lenOf pd_4 rfl) rfl (by show 2 * 0 + _ ≤ _; exact Nat.le_of_eq rfl) (hb hby d16_8) (fun _ _ => ⟨rfl, e_2, (by decide : 0 + 0 ≤ _), (by decide : 0 + 0 ≤ _)⟩)
  dsimp only [Pt.U, Pt.locs, Pt.cells, Pt.slots] at X_3 l_3 y_3 z_3 st_3 hQ_3
  subst l_3 y_3 z_3
  obtain ⟨rfl, N_3q, e_3⟩ := hQ_3
  have N_3 := Fr.app N0 N_3q
  refine og (fun t k => st_3.trans k) ?_
  by_cases hc11 : pp < z
  · refine og (B := T_3.setTop (mkF m 18 #[rv a0] [])) (fun t k => ?_) ?_
    · refine XS.icmpYes X_3.here hx rfl (pc0 := 11) (pc' := 18) rfl (hb hby d16_11) rfl (tlt hc11).1 (by decide) (by decide) ?_
      exact k
    refine og (B := T_3.setTop (mkF m 19 #[rv a0] [(.int 0)])) (fun t k => ?_) ?_
    · refine XS.iconst X_3.here hx rfl (hb hby d16_18) ?_
      exact k
    obtain ⟨fs, hr, hrun, hended, hW, hsame⟩ := X_3.leave (v := some (.int 0)) (fun h => by rw [Bd.returns] at h; cases h)
    refine ⟨_, _, ?_, hrun, hended, _, _, rfl, ?_, ⟨_, rfl⟩, hW, hsame.mono (by decide) (by decide)⟩
    · show Steps p.tables e below (T_3.setTop (mkF m 19 #[rv a0] [(.int 0)])) _
      exact retN X_3 hx (t := .boolean) Bd.returns (by simp) (hb hby d16_19) hr
    · show Q16 Z a0 pp t0 b0 kk w z vs h0 n0 _ T_3.heap _
      rw [e_3]
      exact ⟨by simp only [own_ge, if_neg hw0, if_pos hc11], N_3, rfl⟩
  · refine og (B := T_3.setTop (mkF m 14 #[rv a0] [])) (fun t k => ?_) ?_
    · refine XS.icmpNo X_3.here hx rfl (hb hby d16_11) rfl (flt hc11).1 ?_
      exact k
    refine og (B := T_3.setTop (mkF m 19 #[rv a0] [(.int 1)])) (fun t k => ?_) ?_
    · refine XS.iconst X_3.here hx rfl (hb hby d16_14) ?_
      refine XS.goto X_3.here hx rfl (pc0 := 15) (pc' := 19) rfl (hb hby d16_15) (by decide) (by decide) ?_
      exact k
    obtain ⟨fs, hr, hrun, hended, hW, hsame⟩ := X_3.leave (v := some (.int 1)) (fun h => by rw [Bd.returns] at h; cases h)
    refine ⟨_, _, ?_, hrun, hended, _, _, rfl, ?_, ⟨_, rfl⟩, hW, hsame.mono (by decide) (by decide)⟩
    · show Steps p.tables e below (T_3.setTop (mkF m 19 #[rv a0] [(.int 1)])) _
      exact retN X_3 hx (t := .boolean) Bd.returns (by simp) (hb hby d16_19) hr
    · show Q16 Z a0 pp t0 b0 kk w z vs h0 n0 _ T_3.heap _
      rw [e_3]
      exact ⟨by simp only [own_ge, if_neg hw0, if_neg hc11], N_3, rfl⟩
theorem d21_0 : decode prog_74_method_2_code 0 = .ok (.aload_n 0, 1) := by decide +kernel
theorem d21_1 : decode prog_74_method_2_code 1 = .ok (.getfield 33, 3) := by decide +kernel
theorem d21_4 : decode prog_74_method_2_code 4 = .ok (.ireturn, 1) := by decide +kernel
theorem pn_21 : plainName "com/example/cutoff/cutoff/store/TextCursor" = true := by first | (simp [plainName, overriddenIn]; done) | decide +kernel
theorem ef_21 (m : MethodId) (a0 : Addr) : entryFrame m #[(.ref a0)] 1 = mkF m 0 #[rv a0] [] := by first | (simp [entryFrame, mkF, argsToLocals, Value.category]; done) | rfl
def Q21 (Z : State) (a0 : Addr) (pp : Int32) (h0 : Heap) (n0 : Nat) (v : Option Value) (h : Heap) (L : List Loc) : Prop := v = some (.int pp) ∧ Fr n0 L ∧ h = h0
theorem rm21 (l : Launch) (Z : State) (av0 : Array Value) (hw : ∀ d ∈ tables_1, d.before av0 Z = true) (ws : List Jvm.Cond) (a0 : Addr) (pp : Int32) (h0 : Heap) (n0 : Nat) (Z0 : n0 ≤ h0.size) (F_position_a0 : Fld Z h0 a0 "com/example/cutoff/cutoff/store/TextCursor" "position" "I" (.int pp)) :
    MetFree l own_m22 (head1 (Jvm.Cond.code own_m22 prog_74_method_2_code 1 (some .int) :: ws) ({ frames := 0, cells := 0, slots := 0, locals := 0 } : Room)) (fun a U => a = #[(.ref a0)] ∧ Z.Warmed39 U.vm ∧ U.heap = h0) (fun _ _ _ _ _ => True) (fun _ U o U' => ∃ v L, o = .returned v ∧ Q21 Z a0 pp h0 n0 v U'.heap L ∧ FrameEnd U o U' L ({ frames := 0, cells := 0, slots := 0, locals := 0 } : Room).cells ({ frames := 0, cells := 0, slots := 0, locals := 0 } : Room).slots) := by
  refine MetFree.of_bodySF (plainFor_of_name pn_21) hisR ?_
  intro p e s m args below meth c s₁ Bd hml0 hP hK
  obtain ⟨rfl, hZ, hh⟩ := hP
  have hx := Bd.exec
  have hby := Bd.bytes
  have hml : c.maxLocals = 1 := hml0
  have hown : s.vm.findClass "com/example/cutoff/cutoff/store/TextCursor" = some m.cls := findClass_of_methodNamed Bd.named
  have X0 : Stand p l e ({ frames := 0, cells := 0, slots := 0, locals := 0 } : Room) s m #[(.ref a0)] below meth c s₁ [] 0 0 := Stand.of_body Bd
  have e0 : s₁.heap = h0 := by rw [← hh, Bd.state]; rfl
  have N0 := Fr.nil n0
  have K0 : Keep h0 h0 [] := Keep.refl h0 []
  refine og (B := s₁.setTop (mkF m 0 #[rv a0] [])) (fun t k => castTop (ef_21 m a0) k) ?_
  refine og (B := s₁.setTop (mkF m 1 #[rv a0] [(.ref a0)])) (fun t k => ?_) ?_
  · refine XS.aloadN X0.here hx rfl (hb hby d21_0) rfl rfl ?_
    exact k
  obtain ⟨T_1, X_1, e_1, st_1⟩ := getF X0 hx hZ hown (host := "") (Or.inl (ow hw 92 rfl)) Via.refl e0 F_position_a0 (g := (mkF m 1 #[rv a0] [(.ref a0)])) rfl rfl (hb hby d21_1)
  refine og (fun t k => st_1 t k) ?_
  obtain ⟨fs, hr, hrun, hended, hW, hsame⟩ := X_1.leave (v := some (.int pp)) (fun h => by rw [Bd.returns] at h; cases h)
  refine ⟨_, _, ?_, hrun, hended, _, _, rfl, ?_, ⟨_, rfl⟩, hW, hsame.mono (by decide) (by decide)⟩
  · show Steps p.tables e below (T_1.setTop (mkF m 4 #[rv a0] [(.int pp)])) _
    exact retI X_1 hx Bd.returns (hb hby d21_4) hr
  · show Q21 Z a0 pp h0 n0 _ T_1.heap _
    rw [e_1]
    exact ⟨rfl, N0, rfl⟩
theorem d20_0 : decode jdk_48_method_14_code 0 = .ok (.iconst 0, 1) := by decide +kernel
theorem d20_1 : decode jdk_48_method_14_code 1 = .ok (.istore 5, 2) := by decide +kernel
theorem d20_3 : decode jdk_48_method_14_code 3 = .ok (.iload 4, 2) := by decide +kernel
theorem d20_5 : decode jdk_48_method_14_code 5 = .ok (.bipush 7, 2) := by decide +kernel
theorem d20_7 : decode jdk_48_method_14_code 7 = .ok (.if_icmp .le 63, 3) := by decide +kernel
theorem d20_70 : decode jdk_48_method_14_code 70 = .ok (.iload 5, 2) := by decide +kernel
theorem d20_72 : decode jdk_48_method_14_code 72 = .ok (.iload 4, 2) := by decide +kernel
theorem d20_74 : decode jdk_48_method_14_code 74 = .ok (.if_icmp .ge 27, 3) := by decide +kernel
theorem d20_101 : decode jdk_48_method_14_code 101 = .ok (.iconst (-1), 1) := by decide +kernel
theorem d20_102 : decode jdk_48_method_14_code 102 = .ok (.ireturn, 1) := by decide +kernel
theorem pn_20 : plainName "jdk/internal/util/ArraysSupport" = true := by first | (simp [plainName, overriddenIn]; done) | decide +kernel
theorem ef_mm0 (m : MethodId) (a0 : Addr) (p1 : Int32) (a2 : Addr) : entryFrame m #[(.ref a0), (.int p1), (.ref a2), (.int 0), (.int 0)] 8 = mkF m 0 #[rv a0, iv p1, rv a2, iv 0, iv 0, oU, oU, oU] [] := by first | (simp [entryFrame, mkF, argsToLocals, Value.category]; done) | rfl
def Qmm0 (Z : State) (a0 : Addr) (p1 : Int32) (a2 : Addr) (k0 : ClassId) (k1 : ClassId) (z0 : Int32) (vs0 : List Value) (h0 : Heap) (n0 : Nat) (v : Option Value) (h : Heap) (L : List Loc) : Prop := v = some (.int (-1)) ∧ Fr n0 L ∧ h = h0
theorem rmmm0 (l : Launch) (Z : State) (av0 : Array Value) (hw : ∀ d ∈ tables_1, d.before av0 Z = true) (ws : List Jvm.Cond) (a0 : Addr) (p1 : Int32) (a2 : Addr) (k0 : ClassId) (k1 : ClassId) (z0 : Int32) (vs0 : List Value) (h0 : Heap) (n0 : Nat) (Z0 : n0 ≤ h0.size) (V0 : Arv Z h0 a0 k0 .byte z0 vs0 (.int 0)) (V1 : Arv Z h0 a2 k1 .byte (0 : Int32) [] (.int 0)) :
    MetFree l own_m21 (head1 (Jvm.Cond.code own_m21 jdk_48_method_14_code 8 (some .int) :: ws) ({ frames := 0, cells := 0, slots := 0, locals := 0 } : Room)) (fun a U => a = #[(.ref a0), (.int p1), (.ref a2), (.int 0), (.int 0)] ∧ Z.Warmed39 U.vm ∧ U.heap = h0) (fun _ _ _ _ _ => True) (fun _ U o U' => ∃ v L, o = .returned v ∧ Qmm0 Z a0 p1 a2 k0 k1 z0 vs0 h0 n0 v U'.heap L ∧ FrameEnd U o U' L ({ frames := 0, cells := 0, slots := 0, locals := 0 } : Room).cells ({ frames := 0, cells := 0, slots := 0, locals := 0 } : Room).slots) := by
  refine MetFree.of_bodySF (plainFor_of_name pn_20) hisR ?_
  intro p e s m args below meth c s₁ Bd hml0 hP hK
  obtain ⟨rfl, hZ, hh⟩ := hP
  have hx := Bd.exec
  have hby := Bd.bytes
  have hml : c.maxLocals = 8 := hml0
  have hown : s.vm.findClass "jdk/internal/util/ArraysSupport" = some m.cls := findClass_of_methodNamed Bd.named
  have X0 : Stand p l e ({ frames := 0, cells := 0, slots := 0, locals := 0 } : Room) s m #[(.ref a0), (.int p1), (.ref a2), (.int 0), (.int 0)] below meth c s₁ [] 0 0 := Stand.of_body Bd
  have e0 : s₁.heap = h0 := by rw [← hh, Bd.state]; rfl
  have N0 := Fr.nil n0
  have K0 : Keep h0 h0 [] := Keep.refl h0 []
  refine og (B := s₁.setTop (mkF m 0 #[rv a0, iv p1, rv a2, iv 0, iv 0, oU, oU, oU] [])) (fun t k => castTop (ef_mm0 m a0 p1 a2) k) ?_
  refine og (B := s₁.setTop (mkF m 7 #[rv a0, iv p1, rv a2, iv 0, iv 0, iv 0, oU, oU] [(.int 7), (.int 0)])) (fun t k => ?_) ?_
  · refine XS.iconst X0.here hx rfl (hb hby d20_0) ?_
    refine XS.istore X0.here hx rfl (hb hby d20_1) rfl (l' := #[rv a0, iv p1, rv a2, iv 0, iv 0, iv 0, oU, oU]) rfl ?_
    refine XS.iload X0.here hx rfl (hb hby d20_3) rfl ?_
    refine XS.bipush X0.here hx rfl (hb hby d20_5) ?_
    exact k
  refine og (B := s₁.setTop (mkF m 70 #[rv a0, iv p1, rv a2, iv 0, iv 0, iv 0, oU, oU] [])) (fun t k => ?_) ?_
  · refine XS.icmpYes X0.here hx rfl (pc0 := 7) (pc' := 70) rfl (hb hby d20_7) rfl (flt (by decide : ¬ ((7 : Int32) < (0 : Int32)))).2.2.2 (by decide) (by decide) ?_
    exact k
  refine og (B := s₁.setTop (mkF m 74 #[rv a0, iv p1, rv a2, iv 0, iv 0, iv 0, oU, oU] [(.int 0), (.int 0)])) (fun t k => ?_) ?_
  · refine XS.iload X0.here hx rfl (hb hby d20_70) rfl ?_
    refine XS.iload X0.here hx rfl (hb hby d20_72) rfl ?_
    exact k
  refine og (B := s₁.setTop (mkF m 101 #[rv a0, iv p1, rv a2, iv 0, iv 0, iv 0, oU, oU] [])) (fun t k => ?_) ?_
  · refine XS.icmpYes X0.here hx rfl (pc0 := 74) (pc' := 101) rfl (hb hby d20_74) rfl (flt (by decide : ¬ ((0 : Int32) < (0 : Int32)))).2.1 (by decide) (by decide) ?_
    exact k
  refine og (B := s₁.setTop (mkF m 102 #[rv a0, iv p1, rv a2, iv 0, iv 0, iv 0, oU, oU] [(.int (-1))])) (fun t k => ?_) ?_
  · refine XS.iconst X0.here hx rfl (hb hby d20_101) ?_
    exact k
  obtain ⟨fs, hr, hrun, hended, hW, hsame⟩ := X0.leave (v := some (.int (-1))) (fun h => by rw [Bd.returns] at h; cases h)
  refine ⟨_, _, ?_, hrun, hended, _, _, rfl, ?_, ⟨_, rfl⟩, hW, hsame.mono (by decide) (by decide)⟩
  · show Steps p.tables e below (s₁.setTop (mkF m 102 #[rv a0, iv p1, rv a2, iv 0, iv 0, iv 0, oU, oU] [(.int (-1))])) _
    exact retI X0 hx Bd.returns (hb hby d20_102) hr
  · show Qmm0 Z a0 p1 a2 k0 k1 z0 vs0 h0 n0 _ s₁.heap _
    rw [e0]
    exact ⟨rfl, N0, rfl⟩
theorem d20_77 : decode jdk_48_method_14_code 77 = .ok (.aload_n 0, 1) := by decide +kernel
theorem d20_78 : decode jdk_48_method_14_code 78 = .ok (.iload_n 1, 1) := by decide +kernel
theorem d20_79 : decode jdk_48_method_14_code 79 = .ok (.iload 5, 2) := by decide +kernel
theorem d20_81 : decode jdk_48_method_14_code 81 = .ok (.iadd, 1) := by decide +kernel
theorem d20_82 : decode jdk_48_method_14_code 82 = .ok (.baload, 1) := by decide +kernel
theorem d20_83 : decode jdk_48_method_14_code 83 = .ok (.aload_n 2, 1) := by decide +kernel
theorem d20_84 : decode jdk_48_method_14_code 84 = .ok (.iload_n 3, 1) := by decide +kernel
theorem d20_85 : decode jdk_48_method_14_code 85 = .ok (.iload 5, 2) := by decide +kernel
theorem d20_87 : decode jdk_48_method_14_code 87 = .ok (.iadd, 1) := by decide +kernel
theorem d20_88 : decode jdk_48_method_14_code 88 = .ok (.baload, 1) := by decide +kernel
theorem d20_89 : decode jdk_48_method_14_code 89 = .ok (.if_icmp .eq 6, 3) := by decide +kernel
theorem d20_95 : decode jdk_48_method_14_code 95 = .ok (.iinc 5 1, 3) := by decide +kernel
theorem d20_98 : decode jdk_48_method_14_code 98 = .ok (.goto (-28), 3) := by decide +kernel
theorem ef_mm1 (m : MethodId) (a0 : Addr) (p1 : Int32) (a2 : Addr) : entryFrame m #[(.ref a0), (.int p1), (.ref a2), (.int 0), (.int 1)] 8 = mkF m 0 #[rv a0, iv p1, rv a2, iv 0, iv 1, oU, oU, oU] [] := by first | (simp [entryFrame, mkF, argsToLocals, Value.category]; done) | rfl
def Qmm1 (Z : State) (a0 : Addr) (p1 : Int32) (a2 : Addr) (k0 : ClassId) (k1 : ClassId) (z0 : Int32) (vs0 : List Value) (ee0 : Int32) (h0 : Heap) (n0 : Nat) (v : Option Value) (h : Heap) (L : List Loc) : Prop := v = some (.int (-1)) ∧ Fr n0 L ∧ h = h0
theorem rmmm1 (l : Launch) (Z : State) (av0 : Array Value) (hw : ∀ d ∈ tables_1, d.before av0 Z = true) (ws : List Jvm.Cond) (a0 : Addr) (p1 : Int32) (a2 : Addr) (k0 : ClassId) (k1 : ClassId) (z0 : Int32) (vs0 : List Value) (ee0 : Int32) (h0 : Heap) (n0 : Nat) (Z0 : n0 ≤ h0.size) (V0 : Arv Z h0 a0 k0 .byte z0 vs0 (.int 0)) (V1 : Arv Z h0 a2 k1 .byte (1 : Int32) [(.int ee0)] (.int 0)) (hb0 : ¬ (p1 + (0 : Int32)) < (0 : Int32) ∧ (p1 + (0 : Int32)) < z0) (hv0 : vs0.getD (p1 + (0 : Int32)).toNatClampNeg (.int 0) = .int ee0) :
    MetFree l own_m21 (head1 (Jvm.Cond.code own_m21 jdk_48_method_14_code 8 (some .int) :: ws) ({ frames := 0, cells := 0, slots := 0, locals := 0 } : Room)) (fun a U => a = #[(.ref a0), (.int p1), (.ref a2), (.int 0), (.int 1)] ∧ Z.Warmed39 U.vm ∧ U.heap = h0) (fun _ _ _ _ _ => True) (fun _ U o U' => ∃ v L, o = .returned v ∧ Qmm1 Z a0 p1 a2 k0 k1 z0 vs0 ee0 h0 n0 v U'.heap L ∧ FrameEnd U o U' L ({ frames := 0, cells := 0, slots := 0, locals := 0 } : Room).cells ({ frames := 0, cells := 0, slots := 0, locals := 0 } : Room).slots) := by
  refine MetFree.of_bodySF (plainFor_of_name pn_20) hisR ?_
  intro p e s m args below meth c s₁ Bd hml0 hP hK
  obtain ⟨rfl, hZ, hh⟩ := hP
  have hx := Bd.exec
  have hby := Bd.bytes
  have hml : c.maxLocals = 8 := hml0
  have hown : s.vm.findClass "jdk/internal/util/ArraysSupport" = some m.cls := findClass_of_methodNamed Bd.named
  have X0 : Stand p l e ({ frames := 0, cells := 0, slots := 0, locals := 0 } : Room) s m #[(.ref a0), (.int p1), (.ref a2), (.int 0), (.int 1)] below meth c s₁ [] 0 0 := Stand.of_body Bd
  have e0 : s₁.heap = h0 := by rw [← hh, Bd.state]; rfl
  have N0 := Fr.nil n0
  have K0 : Keep h0 h0 [] := Keep.refl h0 []
  refine og (B := s₁.setTop (mkF m 0 #[rv a0, iv p1, rv a2, iv 0, iv 1, oU, oU, oU] [])) (fun t k => castTop (ef_mm1 m a0 p1 a2) k) ?_
  refine og (B := s₁.setTop (mkF m 7 #[rv a0, iv p1, rv a2, iv 0, iv 1, iv 0, oU, oU] [(.int 7), (.int 1)])) (fun t k => ?_) ?_
  · refine XS.iconst X0.here hx rfl (hb hby d20_0) ?_
    refine XS.istore X0.here hx rfl (hb hby d20_1) rfl (l' := #[rv a0, iv p1, rv a2, iv 0, iv 1, iv 0, oU, oU]) rfl ?_
    refine XS.iload X0.here hx rfl (hb hby d20_3) rfl ?_
    refine XS.bipush X0.here hx rfl (hb hby d20_5) ?_
    exact k
  refine og (B := s₁.setTop (mkF m 70 #[rv a0, iv p1, rv a2, iv 0, iv 1, iv 0, oU, oU] [])) (fun t k => ?_) ?_
  · refine XS.icmpYes X0.here hx rfl (pc0 := 7) (pc' := 70) rfl (hb hby d20_7) rfl (flt (by decide : ¬ ((7 : Int32) < (1 : Int32)))).2.2.2 (by decide) (by decide) ?_
    exact k
  refine og (B := s₁.setTop (mkF m 74 #[rv a0, iv p1, rv a2, iv 0, iv 1, iv 0, oU, oU] [(.int 1), (.int 0)])) (fun t k => ?_) ?_
  · refine XS.iload X0.here hx rfl (hb hby d20_70) rfl ?_
    refine XS.iload X0.here hx rfl (hb hby d20_72) rfl ?_
    exact k
  refine og (B := s₁.setTop (mkF m 77 #[rv a0, iv p1, rv a2, iv 0, iv 1, iv 0, oU, oU] [])) (fun t k => ?_) ?_
  · refine XS.icmpNo X0.here hx rfl (hb hby d20_74) rfl (tlt (by decide : (0 : Int32) < (1 : Int32))).2.1 ?_
    exact k
  refine og (B := s₁.setTop (mkF m 82 #[rv a0, iv p1, rv a2, iv 0, iv 1, iv 0, oU, oU] [(.int (p1 + (0 : Int32))), (.ref a0)])) (fun t k => ?_) ?_
  · refine XS.aloadN X0.here hx rfl (hb hby d20_77) rfl rfl ?_
    refine XS.iloadN X0.here hx rfl (hb hby d20_78) rfl ?_
    refine XS.iload X0.here hx rfl (hb hby d20_79) rfl ?_
    refine XS.iadd X0.here hx rfl (hb hby d20_81) rfl ?_
    exact k
  obtain ⟨cl_1, Ar_1, q_1, S_1, M_1, H_1, G_1⟩ := id V0
  have hin_1 : ¬ ((p1 + (0 : Int32)) < 0 ∨ cl_1.slots.size ≤ ((p1 + (0 : Int32))).toNatClampNeg) := inb_of S_1 hb0
  have hat_1 : cl_1.slots[((p1 + (0 : Int32))).toNatClampNeg]? = some (.int ee0) := H_1.at hin_1 hv0
  refine og (B := s₁.setTop (mkF m 83 #[rv a0, iv p1, rv a2, iv 0, iv 1, iv 0, oU, oU] [(.int ee0)])) (fun t k => X0.baloadBytes hx (j := (p1 + (0 : Int32))) (v := (.int ee0)) (by rw [(e0 : _ = _)]; exact Ar_1.1) (State.isArrayOf_alike hZ.alike Ar_1.2.1) Ar_1.2.2 hin_1 hat_1 (g := (mkF m 82 #[rv a0, iv p1, rv a2, iv 0, iv 1, iv 0, oU, oU] [(.int (p1 + (0 : Int32))), (.ref a0)])) rfl rfl (hb hby d20_82) t k) ?_
  refine og (B := s₁.setTop (mkF m 88 #[rv a0, iv p1, rv a2, iv 0, iv 1, iv 0, oU, oU] [(.int 0), (.ref a2), (.int ee0)])) (fun t k => ?_) ?_
  · refine XS.aloadN X0.here hx rfl (hb hby d20_83) rfl rfl ?_
    refine XS.iloadN X0.here hx rfl (hb hby d20_84) rfl ?_
    refine XS.iload X0.here hx rfl (hb hby d20_85) rfl ?_
    refine XS.iadd X0.here hx rfl (hb hby d20_87) rfl ?_
    exact k
  obtain ⟨cl_2, Ar_2, q_2, S_2, M_2, H_2, G_2⟩ := id V1
  have hin_2 : ¬ ((0 : Int32) < 0 ∨ cl_2.slots.size ≤ ((0 : Int32)).toNatClampNeg) := inb_of S_2 ⟨by decide, by decide⟩
  have hat_2 : cl_2.slots[((0 : Int32)).toNatClampNeg]? = some (.int ee0) := H_2.at hin_2 rfl
  refine og (B := s₁.setTop (mkF m 89 #[rv a0, iv p1, rv a2, iv 0, iv 1, iv 0, oU, oU] [(.int ee0), (.int ee0)])) (fun t k => X0.baloadBytes hx (j := (0 : Int32)) (v := (.int ee0)) (by rw [(e0 : _ = _)]; exact Ar_2.1) (State.isArrayOf_alike hZ.alike Ar_2.2.1) Ar_2.2.2 hin_2 hat_2 (g := (mkF m 88 #[rv a0, iv p1, rv a2, iv 0, iv 1, iv 0, oU, oU] [(.int 0), (.ref a2), (.int ee0)])) rfl rfl (hb hby d20_88) t k) ?_
  refine og (B := s₁.setTop (mkF m 95 #[rv a0, iv p1, rv a2, iv 0, iv 1, iv 0, oU, oU] [])) (fun t k => ?_) ?_
  · refine XS.icmpYes X0.here hx rfl (pc0 := 89) (pc' := 95) rfl (hb hby d20_89) rfl (teq (rfl : ee0 = ee0)).1 (by decide) (by decide) ?_
    exact k
  refine og (B := s₁.setTop (mkF m 74 #[rv a0, iv p1, rv a2, iv 0, iv 1, iv 1, oU, oU] [(.int 1), (.int 1)])) (fun t k => ?_) ?_
  · refine XS.iinc X0.here hx rfl (hb hby d20_95) rfl (l' := #[rv a0, iv p1, rv a2, iv 0, iv 1, iv 1, oU, oU]) rfl ?_
    refine XS.goto X0.here hx rfl (pc0 := 98) (pc' := 70) rfl (hb hby d20_98) (by decide) (by decide) ?_
    refine XS.iload X0.here hx rfl (hb hby d20_70) rfl ?_
    refine XS.iload X0.here hx rfl (hb hby d20_72) rfl ?_
    exact k
  refine og (B := s₁.setTop (mkF m 101 #[rv a0, iv p1, rv a2, iv 0, iv 1, iv 1, oU, oU] [])) (fun t k => ?_) ?_
  · refine XS.icmpYes X0.here hx rfl (pc0 := 74) (pc' := 101) rfl (hb hby d20_74) rfl (flt (by decide : ¬ ((1 : Int32) < (1 : Int32)))).2.1 (by decide) (by decide) ?_
    exact k
  refine og (B := s₁.setTop (mkF m 102 #[rv a0, iv p1, rv a2, iv 0, iv 1, iv 1, oU, oU] [(.int (-1))])) (fun t k => ?_) ?_
  · refine XS.iconst X0.here hx rfl (hb hby d20_101) ?_
    exact k
  obtain ⟨fs, hr, hrun, hended, hW, hsame⟩ := X0.leave (v := some (.int (-1))) (fun h => by rw [Bd.returns] at h; cases h)
  refine ⟨_, _, ?_, hrun, hended, _, _, rfl, ?_, ⟨_, rfl⟩, hW, hsame.mono (by decide) (by decide)⟩
  · show Steps p.tables e below (s₁.setTop (mkF m 102 #[rv a0, iv p1, rv a2, iv 0, iv 1, iv 1, oU, oU] [(.int (-1))])) _
    exact retI X0 hx Bd.returns (hb hby d20_102) hr
  · show Qmm1 Z a0 p1 a2 k0 k1 z0 vs0 ee0 h0 n0 _ s₁.heap _
    rw [e0]
    exact ⟨rfl, N0, rfl⟩
theorem ef_mm2 (m : MethodId) (a0 : Addr) (p1 : Int32) (a2 : Addr) : entryFrame m #[(.ref a0), (.int p1), (.ref a2), (.int 0), (.int 2)] 8 = mkF m 0 #[rv a0, iv p1, rv a2, iv 0, iv 2, oU, oU, oU] [] := by first | (simp [entryFrame, mkF, argsToLocals, Value.category]; done) | rfl
def Qmm2 (Z : State) (a0 : Addr) (p1 : Int32) (a2 : Addr) (k0 : ClassId) (k1 : ClassId) (z0 : Int32) (vs0 : List Value) (ee0 : Int32) (ee1 : Int32) (h0 : Heap) (n0 : Nat) (v : Option Value) (h : Heap) (L : List Loc) : Prop := v = some (.int (-1)) ∧ Fr n0 L ∧ h = h0
theorem rmmm2 (l : Launch) (Z : State) (av0 : Array Value) (hw : ∀ d ∈ tables_1, d.before av0 Z = true) (ws : List Jvm.Cond) (a0 : Addr) (p1 : Int32) (a2 : Addr) (k0 : ClassId) (k1 : ClassId) (z0 : Int32) (vs0 : List Value) (ee0 : Int32) (ee1 : Int32) (h0 : Heap) (n0 : Nat) (Z0 : n0 ≤ h0.size) (V0 : Arv Z h0 a0 k0 .byte z0 vs0 (.int 0)) (V1 : Arv Z h0 a2 k1 .byte (2 : Int32) [(.int ee0), (.int ee1)] (.int 0)) (hb0 : ¬ (p1 + (0 : Int32)) < (0 : Int32) ∧ (p1 + (0 : Int32)) < z0) (hb1 : ¬ (p1 + (1 : Int32)) < (0 : Int32) ∧ (p1 + (1 : Int32)) < z0) (hv0 : vs0.getD (p1 + (0 : Int32)).toNatClampNeg (.int 0) = .int ee0) (hv1 : vs0.getD (p1 + (1 : Int32)).toNatClampNeg (.int 0) = .int ee1) :
    MetFree l own_m21 (head1 (Jvm.Cond.code own_m21 jdk_48_method_14_code 8 (some .int) :: ws) ({ frames := 0, cells := 0, slots := 0, locals := 0 } : Room)) (fun a U => a = #[(.ref a0), (.int p1), (.ref a2), (.int 0), (.int 2)] ∧ Z.Warmed39 U.vm ∧ U.heap = h0) (fun _ _ _ _ _ => True) (fun _ U o U' => ∃ v L, o = .returned v ∧ Qmm2 Z a0 p1 a2 k0 k1 z0 vs0 ee0 ee1 h0 n0 v U'.heap L ∧ FrameEnd U o U' L ({ frames := 0, cells := 0, slots := 0, locals := 0 } : Room).cells ({ frames := 0, cells := 0, slots := 0, locals := 0 } : Room).slots) := by
  refine MetFree.of_bodySF (plainFor_of_name pn_20) hisR ?_
  intro p e s m args below meth c s₁ Bd hml0 hP hK
  obtain ⟨rfl, hZ, hh⟩ := hP
  have hx := Bd.exec
  have hby := Bd.bytes
  have hml : c.maxLocals = 8 := hml0
  have hown : s.vm.findClass "jdk/internal/util/ArraysSupport" = some m.cls := findClass_of_methodNamed Bd.named
  have X0 : Stand p l e ({ frames := 0, cells := 0, slots := 0, locals := 0 } : Room) s m #[(.ref a0), (.int p1), (.ref a2), (.int 0), (.int 2)] below meth c s₁ [] 0 0 := Stand.of_body Bd
  have e0 : s₁.heap = h0 := by rw [← hh, Bd.state]; rfl
  have N0 := Fr.nil n0
  have K0 : Keep h0 h0 [] := Keep.refl h0 []
  refine og (B := s₁.setTop (mkF m 0 #[rv a0, iv p1, rv a2, iv 0, iv 2, oU, oU, oU] [])) (fun t k => castTop (ef_mm2 m a0 p1 a2) k) ?_
  refine og (B := s₁.setTop (mkF m 7 #[rv a0, iv p1, rv a2, iv 0, iv 2, iv 0, oU, oU] [(.int 7), (.int 2)])) (fun t k => ?_) ?_
  · refine XS.iconst X0.here hx rfl (hb hby d20_0) ?_
    refine XS.istore X0.here hx rfl (hb hby d20_1) rfl (l' := #[rv a0, iv p1, rv a2, iv 0, iv 2, iv 0, oU, oU]) rfl ?_
    refine XS.iload X0.here hx rfl (hb hby d20_3) rfl ?_
    refine XS.bipush X0.here hx rfl (hb hby d20_5) ?_
    exact k
  refine og (B := s₁.setTop (mkF m 70 #[rv a0, iv p1, rv a2, iv 0, iv 2, iv 0, oU, oU] [])) (fun t k => ?_) ?_
  · refine XS.icmpYes X0.here hx rfl (pc0 := 7) (pc' := 70) rfl (hb hby d20_7) rfl (flt (by decide : ¬ ((7 : Int32) < (2 : Int32)))).2.2.2 (by decide) (by decide) ?_
    exact k
  refine og (B := s₁.setTop (mkF m 74 #[rv a0, iv p1, rv a2, iv 0, iv 2, iv 0, oU, oU] [(.int 2), (.int 0)])) (fun t k => ?_) ?_
  · refine XS.iload X0.here hx rfl (hb hby d20_70) rfl ?_
    refine XS.iload X0.here hx rfl (hb hby d20_72) rfl ?_
    exact k
  refine og (B := s₁.setTop (mkF m 77 #[rv a0, iv p1, rv a2, iv 0, iv 2, iv 0, oU, oU] [])) (fun t k => ?_) ?_
  · refine XS.icmpNo X0.here hx rfl (hb hby d20_74) rfl (tlt (by decide : (0 : Int32) < (2 : Int32))).2.1 ?_
    exact k
  refine og (B := s₁.setTop (mkF m 82 #[rv a0, iv p1, rv a2, iv 0, iv 2, iv 0, oU, oU] [(.int (p1 + (0 : Int32))), (.ref a0)])) (fun t k => ?_) ?_
  · refine XS.aloadN X0.here hx rfl (hb hby d20_77) rfl rfl ?_
    refine XS.iloadN X0.here hx rfl (hb hby d20_78) rfl ?_
    refine XS.iload X0.here hx rfl (hb hby d20_79) rfl ?_
    refine XS.iadd X0.here hx rfl (hb hby d20_81) rfl ?_
    exact k
  obtain ⟨cl_1, Ar_1, q_1, S_1, M_1, H_1, G_1⟩ := id V0
  have hin_1 : ¬ ((p1 + (0 : Int32)) < 0 ∨ cl_1.slots.size ≤ ((p1 + (0 : Int32))).toNatClampNeg) := inb_of S_1 hb0
  have hat_1 : cl_1.slots[((p1 + (0 : Int32))).toNatClampNeg]? = some (.int ee0) := H_1.at hin_1 hv0
  refine og (B := s₁.setTop (mkF m 83 #[rv a0, iv p1, rv a2, iv 0, iv 2, iv 0, oU, oU] [(.int ee0)])) (fun t k => X0.baloadBytes hx (j := (p1 + (0 : Int32))) (v := (.int ee0)) (by rw [(e0 : _ = _)]; exact Ar_1.1) (State.isArrayOf_alike hZ.alike Ar_1.2.1) Ar_1.2.2 hin_1 hat_1 (g := (mkF m 82 #[rv a0, iv p1, rv a2, iv 0, iv 2, iv 0, oU, oU] [(.int (p1 + (0 : Int32))), (.ref a0)])) rfl rfl (hb hby d20_82) t k) ?_
  refine og (B := s₁.setTop (mkF m 88 #[rv a0, iv p1, rv a2, iv 0, iv 2, iv 0, oU, oU] [(.int 0), (.ref a2), (.int ee0)])) (fun t k => ?_) ?_
  · refine XS.aloadN X0.here hx rfl (hb hby d20_83) rfl rfl ?_
    refine XS.iloadN X0.here hx rfl (hb hby d20_84) rfl ?_
    refine XS.iload X0.here hx rfl (hb hby d20_85) rfl ?_
    refine XS.iadd X0.here hx rfl (hb hby d20_87) rfl ?_
    exact k
  obtain ⟨cl_2, Ar_2, q_2, S_2, M_2, H_2, G_2⟩ := id V1
  have hin_2 : ¬ ((0 : Int32) < 0 ∨ cl_2.slots.size ≤ ((0 : Int32)).toNatClampNeg) := inb_of S_2 ⟨by decide, by decide⟩
  have hat_2 : cl_2.slots[((0 : Int32)).toNatClampNeg]? = some (.int ee0) := H_2.at hin_2 rfl
  refine og (B := s₁.setTop (mkF m 89 #[rv a0, iv p1, rv a2, iv 0, iv 2, iv 0, oU, oU] [(.int ee0), (.int ee0)])) (fun t k => X0.baloadBytes hx (j := (0 : Int32)) (v := (.int ee0)) (by rw [(e0 : _ = _)]; exact Ar_2.1) (State.isArrayOf_alike hZ.alike Ar_2.2.1) Ar_2.2.2 hin_2 hat_2 (g := (mkF m 88 #[rv a0, iv p1, rv a2, iv 0, iv 2, iv 0, oU, oU] [(.int 0), (.ref a2), (.int ee0)])) rfl rfl (hb hby d20_88) t k) ?_
  refine og (B := s₁.setTop (mkF m 95 #[rv a0, iv p1, rv a2, iv 0, iv 2, iv 0, oU, oU] [])) (fun t k => ?_) ?_
  · refine XS.icmpYes X0.here hx rfl (pc0 := 89) (pc' := 95) rfl (hb hby d20_89) rfl (teq (rfl : ee0 = ee0)).1 (by decide) (by decide) ?_
    exact k
  refine og (B := s₁.setTop (mkF m 74 #[rv a0, iv p1, rv a2, iv 0, iv 2, iv 1, oU, oU] [(.int 2), (.int 1)])) (fun t k => ?_) ?_
  · refine XS.iinc X0.here hx rfl (hb hby d20_95) rfl (l' := #[rv a0, iv p1, rv a2, iv 0, iv 2, iv 1, oU, oU]) rfl ?_
    refine XS.goto X0.here hx rfl (pc0 := 98) (pc' := 70) rfl (hb hby d20_98) (by decide) (by decide) ?_
    refine XS.iload X0.here hx rfl (hb hby d20_70) rfl ?_
    refine XS.iload X0.here hx rfl (hb hby d20_72) rfl ?_
    exact k
  refine og (B := s₁.setTop (mkF m 77 #[rv a0, iv p1, rv a2, iv 0, iv 2, iv 1, oU, oU] [])) (fun t k => ?_) ?_
  · refine XS.icmpNo X0.here hx rfl (hb hby d20_74) rfl (tlt (by decide : (1 : Int32) < (2 : Int32))).2.1 ?_
    exact k
  refine og (B := s₁.setTop (mkF m 82 #[rv a0, iv p1, rv a2, iv 0, iv 2, iv 1, oU, oU] [(.int (p1 + (1 : Int32))), (.ref a0)])) (fun t k => ?_) ?_
  · refine XS.aloadN X0.here hx rfl (hb hby d20_77) rfl rfl ?_
    refine XS.iloadN X0.here hx rfl (hb hby d20_78) rfl ?_
    refine XS.iload X0.here hx rfl (hb hby d20_79) rfl ?_
    refine XS.iadd X0.here hx rfl (hb hby d20_81) rfl ?_
    exact k
  obtain ⟨cl_3, Ar_3, q_3, S_3, M_3, H_3, G_3⟩ := id V0
  have hin_3 : ¬ ((p1 + (1 : Int32)) < 0 ∨ cl_3.slots.size ≤ ((p1 + (1 : Int32))).toNatClampNeg) := inb_of S_3 hb1
  have hat_3 : cl_3.slots[((p1 + (1 : Int32))).toNatClampNeg]? = some (.int ee1) := H_3.at hin_3 hv1
  refine og (B := s₁.setTop (mkF m 83 #[rv a0, iv p1, rv a2, iv 0, iv 2, iv 1, oU, oU] [(.int ee1)])) (fun t k => X0.baloadBytes hx (j := (p1 + (1 : Int32))) (v := (.int ee1)) (by rw [(e0 : _ = _)]; exact Ar_3.1) (State.isArrayOf_alike hZ.alike Ar_3.2.1) Ar_3.2.2 hin_3 hat_3 (g := (mkF m 82 #[rv a0, iv p1, rv a2, iv 0, iv 2, iv 1, oU, oU] [(.int (p1 + (1 : Int32))), (.ref a0)])) rfl rfl (hb hby d20_82) t k) ?_
  refine og (B := s₁.setTop (mkF m 88 #[rv a0, iv p1, rv a2, iv 0, iv 2, iv 1, oU, oU] [(.int 1), (.ref a2), (.int ee1)])) (fun t k => ?_) ?_
  · refine XS.aloadN X0.here hx rfl (hb hby d20_83) rfl rfl ?_
    refine XS.iloadN X0.here hx rfl (hb hby d20_84) rfl ?_
    refine XS.iload X0.here hx rfl (hb hby d20_85) rfl ?_
    refine XS.iadd X0.here hx rfl (hb hby d20_87) rfl ?_
    exact k
  obtain ⟨cl_4, Ar_4, q_4, S_4, M_4, H_4, G_4⟩ := id V1
  have hin_4 : ¬ ((1 : Int32) < 0 ∨ cl_4.slots.size ≤ ((1 : Int32)).toNatClampNeg) := inb_of S_4 ⟨by decide, by decide⟩
  have hat_4 : cl_4.slots[((1 : Int32)).toNatClampNeg]? = some (.int ee1) := H_4.at hin_4 rfl
  refine og (B := s₁.setTop (mkF m 89 #[rv a0, iv p1, rv a2, iv 0, iv 2, iv 1, oU, oU] [(.int ee1), (.int ee1)])) (fun t k => X0.baloadBytes hx (j := (1 : Int32)) (v := (.int ee1)) (by rw [(e0 : _ = _)]; exact Ar_4.1) (State.isArrayOf_alike hZ.alike Ar_4.2.1) Ar_4.2.2 hin_4 hat_4 (g := (mkF m 88 #[rv a0, iv p1, rv a2, iv 0, iv 2, iv 1, oU, oU] [(.int 1), (.ref a2), (.int ee1)])) rfl rfl (hb hby d20_88) t k) ?_
  refine og (B := s₁.setTop (mkF m 95 #[rv a0, iv p1, rv a2, iv 0, iv 2, iv 1, oU, oU] [])) (fun t k => ?_) ?_
  · refine XS.icmpYes X0.here hx rfl (pc0 := 89) (pc' := 95) rfl (hb hby d20_89) rfl (teq (rfl : ee1 = ee1)).1 (by decide) (by decide) ?_
    exact k
  refine og (B := s₁.setTop (mkF m 74 #[rv a0, iv p1, rv a2, iv 0, iv 2, iv 2, oU, oU] [(.int 2), (.int 2)])) (fun t k => ?_) ?_
  · refine XS.iinc X0.here hx rfl (hb hby d20_95) rfl (l' := #[rv a0, iv p1, rv a2, iv 0, iv 2, iv 2, oU, oU]) rfl ?_
    refine XS.goto X0.here hx rfl (pc0 := 98) (pc' := 70) rfl (hb hby d20_98) (by decide) (by decide) ?_
    refine XS.iload X0.here hx rfl (hb hby d20_70) rfl ?_
    refine XS.iload X0.here hx rfl (hb hby d20_72) rfl ?_
    exact k
  refine og (B := s₁.setTop (mkF m 101 #[rv a0, iv p1, rv a2, iv 0, iv 2, iv 2, oU, oU] [])) (fun t k => ?_) ?_
  · refine XS.icmpYes X0.here hx rfl (pc0 := 74) (pc' := 101) rfl (hb hby d20_74) rfl (flt (by decide : ¬ ((2 : Int32) < (2 : Int32)))).2.1 (by decide) (by decide) ?_
    exact k
  refine og (B := s₁.setTop (mkF m 102 #[rv a0, iv p1, rv a2, iv 0, iv 2, iv 2, oU, oU] [(.int (-1))])) (fun t k => ?_) ?_
  · refine XS.iconst X0.here hx rfl (hb hby d20_101) ?_
    exact k
  obtain ⟨fs, hr, hrun, hended, hW, hsame⟩ := X0.leave (v := some (.int (-1))) (fun h => by rw [Bd.returns] at h; cases h)
  refine ⟨_, _, ?_, hrun, hended, _, _, rfl, ?_, ⟨_, rfl⟩, hW, hsame.mono (by decide) (by decide)⟩
  · show Steps p.tables e below (s₁.setTop (mkF m 102 #[rv a0, iv p1, rv a2, iv 0, iv 2, iv 2, oU, oU] [(.int (-1))])) _
    exact retI X0 hx Bd.returns (hb hby d20_102) hr
  · show Qmm2 Z a0 p1 a2 k0 k1 z0 vs0 ee0 ee1 h0 n0 _ s₁.heap _
    rw [e0]
    exact ⟨rfl, N0, rfl⟩
theorem ef_mm3 (m : MethodId) (a0 : Addr) (p1 : Int32) (a2 : Addr) : entryFrame m #[(.ref a0), (.int p1), (.ref a2), (.int 0), (.int 3)] 8 = mkF m 0 #[rv a0, iv p1, rv a2, iv 0, iv 3, oU, oU, oU] [] := by first | (simp [entryFrame, mkF, argsToLocals, Value.category]; done) | rfl
def Qmm3 (Z : State) (a0 : Addr) (p1 : Int32) (a2 : Addr) (k0 : ClassId) (k1 : ClassId) (z0 : Int32) (vs0 : List Value) (ee0 : Int32) (ee1 : Int32) (ee2 : Int32) (h0 : Heap) (n0 : Nat) (v : Option Value) (h : Heap) (L : List Loc) : Prop := v = some (.int (-1)) ∧ Fr n0 L ∧ h = h0
theorem rmmm3 (l : Launch) (Z : State) (av0 : Array Value) (hw : ∀ d ∈ tables_1, d.before av0 Z = true) (ws : List Jvm.Cond) (a0 : Addr) (p1 : Int32) (a2 : Addr) (k0 : ClassId) (k1 : ClassId) (z0 : Int32) (vs0 : List Value) (ee0 : Int32) (ee1 : Int32) (ee2 : Int32) (h0 : Heap) (n0 : Nat) (Z0 : n0 ≤ h0.size) (V0 : Arv Z h0 a0 k0 .byte z0 vs0 (.int 0)) (V1 : Arv Z h0 a2 k1 .byte (3 : Int32) [(.int ee0), (.int ee1), (.int ee2)] (.int 0)) (hb0 : ¬ (p1 + (0 : Int32)) < (0 : Int32) ∧ (p1 + (0 : Int32)) < z0) (hb1 : ¬ (p1 + (1 : Int32)) < (0 : Int32) ∧ (p1 + (1 : Int32)) < z0) (hb2 : ¬ (p1 + (2 : Int32)) < (0 : Int32) ∧ (p1 + (2 : Int32)) < z0) (hv0 : vs0.getD (p1 + (0 : Int32)).toNatClampNeg (.int 0) = .int ee0) (hv1 : vs0.getD (p1 + (1 : Int32)).toNatClampNeg (.int 0) = .int ee1) (hv2 : vs0.getD (p1 + (2 : Int32)).toNatClampNeg (.int 0) = .int ee2) :
    MetFree l own_m21 (head1 (Jvm.Cond.code own_m21 jdk_48_method_14_code 8 (some .int) :: ws) ({ frames := 0, cells := 0, slots := 0, locals := 0 } : Room)) (fun a U => a = #[(.ref a0), (.int p1), (.ref a2), (.int 0), (.int 3)] ∧ Z.Warmed39 U.vm ∧ U.heap = h0) (fun _ _ _ _ _ => True) (fun _ U o U' => ∃ v L, o = .returned v ∧ Qmm3 Z a0 p1 a2 k0 k1 z0 vs0 ee0 ee1 ee2 h0 n0 v U'.heap L ∧ FrameEnd U o U' L ({ frames := 0, cells := 0, slots := 0, locals := 0 } : Room).cells ({ frames := 0, cells := 0, slots := 0, locals := 0 } : Room).slots) := by
  refine MetFree.of_bodySF (plainFor_of_name pn_20) hisR ?_
  intro p e s m args below meth c s₁ Bd hml0 hP hK
  obtain ⟨rfl, hZ, hh⟩ := hP
  have hx := Bd.exec
  have hby := Bd.bytes
  have hml : c.maxLocals = 8 := hml0
  have hown : s.vm.findClass "jdk/internal/util/ArraysSupport" = some m.cls := findClass_of_methodNamed Bd.named
  have X0 : Stand p l e ({ frames := 0, cells := 0, slots := 0, locals := 0 } : Room) s m #[(.ref a0), (.int p1), (.ref a2), (.int 0), (.int 3)] below meth c s₁ [] 0 0 := Stand.of_body Bd
  have e0 : s₁.heap = h0 := by rw [← hh, Bd.state]; rfl
  have N0 := Fr.nil n0
  have K0 : Keep h0 h0 [] := Keep.refl h0 []
  refine og (B := s₁.setTop (mkF m 0 #[rv a0, iv p1, rv a2, iv 0, iv 3, oU, oU, oU] [])) (fun t k => castTop (ef_mm3 m a0 p1 a2) k) ?_
  refine og (B := s₁.setTop (mkF m 7 #[rv a0, iv p1, rv a2, iv 0, iv 3, iv 0, oU, oU] [(.int 7), (.int 3)])) (fun t k => ?_) ?_
  · refine XS.iconst X0.here hx rfl (hb hby d20_0) ?_
    refine XS.istore X0.here hx rfl (hb hby d20_1) rfl (l' := #[rv a0, iv p1, rv a2, iv 0, iv 3, iv 0, oU, oU]) rfl ?_
    refine XS.iload X0.here hx rfl (hb hby d20_3) rfl ?_
    refine XS.bipush X0.here hx rfl (hb hby d20_5) ?_
    exact k
  refine og (B := s₁.setTop (mkF m 70 #[rv a0, iv p1, rv a2, iv 0, iv 3, iv 0, oU, oU] [])) (fun t k => ?_) ?_
  · refine XS.icmpYes X0.here hx rfl (pc0 := 7) (pc' := 70) rfl (hb hby d20_7) rfl (flt (by decide : ¬ ((7 : Int32) < (3 : Int32)))).2.2.2 (by decide) (by decide) ?_
    exact k
  refine og (B := s₁.setTop (mkF m 74 #[rv a0, iv p1, rv a2, iv 0, iv 3, iv 0, oU, oU] [(.int 3), (.int 0)])) (fun t k => ?_) ?_
  · refine XS.iload X0.here hx rfl (hb hby d20_70) rfl ?_
    refine XS.iload X0.here hx rfl (hb hby d20_72) rfl ?_
    exact k
  refine og (B := s₁.setTop (mkF m 77 #[rv a0, iv p1, rv a2, iv 0, iv 3, iv 0, oU, oU] [])) (fun t k => ?_) ?_
  · refine XS.icmpNo X0.here hx rfl (hb hby d20_74) rfl (tlt (by decide : (0 : Int32) < (3 : Int32))).2.1 ?_
    exact k
  refine og (B := s₁.setTop (mkF m 82 #[rv a0, iv p1, rv a2, iv 0, iv 3, iv 0, oU, oU] [(.int (p1 + (0 : Int32))), (.ref a0)])) (fun t k => ?_) ?_
  · refine XS.aloadN X0.here hx rfl (hb hby d20_77) rfl rfl ?_
    refine XS.iloadN X0.here hx rfl (hb hby d20_78) rfl ?_
    refine XS.iload X0.here hx rfl (hb hby d20_79) rfl ?_
    refine XS.iadd X0.here hx rfl (hb hby d20_81) rfl ?_
    exact k
  obtain ⟨cl_1, Ar_1, q_1, S_1, M_1, H_1, G_1⟩ := id V0
  have hin_1 : ¬ ((p1 + (0 : Int32)) < 0 ∨ cl_1.slots.size ≤ ((p1 + (0 : Int32))).toNatClampNeg) := inb_of S_1 hb0
  have hat_1 : cl_1.slots[((p1 + (0 : Int32))).toNatClampNeg]? = some (.int ee0) := H_1.at hin_1 hv0
  refine og (B := s₁.setTop (mkF m 83 #[rv a0, iv p1, rv a2, iv 0, iv 3, iv 0, oU, oU] [(.int ee0)])) (fun t k => X0.baloadBytes hx (j := (p1 + (0 : Int32))) (v := (.int ee0)) (by rw [(e0 : _ = _)]; exact Ar_1.1) (State.isArrayOf_alike hZ.alike Ar_1.2.1) Ar_1.2.2 hin_1 hat_1 (g := (mkF m 82 #[rv a0, iv p1, rv a2, iv 0, iv 3, iv 0, oU, oU] [(.int (p1 + (0 : Int32))), (.ref a0)])) rfl rfl (hb hby d20_82) t k) ?_
  refine og (B := s₁.setTop (mkF m 88 #[rv a0, iv p1, rv a2, iv 0, iv 3, iv 0, oU, oU] [(.int 0), (.ref a2), (.int ee0)])) (fun t k => ?_) ?_
  · refine XS.aloadN X0.here hx rfl (hb hby d20_83) rfl rfl ?_
    refine XS.iloadN X0.here hx rfl (hb hby d20_84) rfl ?_
    refine XS.iload X0.here hx rfl (hb hby d20_85) rfl ?_
    refine XS.iadd X0.here hx rfl (hb hby d20_87) rfl ?_
    exact k
  obtain ⟨cl_2, Ar_2, q_2, S_2, M_2, H_2, G_2⟩ := id V1
  have hin_2 : ¬ ((0 : Int32) < 0 ∨ cl_2.slots.size ≤ ((0 : Int32)).toNatClampNeg) := inb_of S_2 ⟨by decide, by decide⟩
  have hat_2 : cl_2.slots[((0 : Int32)).toNatClampNeg]? = some (.int ee0) := H_2.at hin_2 rfl
  refine og (B := s₁.setTop (mkF m 89 #[rv a0, iv p1, rv a2, iv 0, iv 3, iv 0, oU, oU] [(.int ee0), (.int ee0)])) (fun t k => X0.baloadBytes hx (j := (0 : Int32)) (v := (.int ee0)) (by rw [(e0 : _ = _)]; exact Ar_2.1) (State.isArrayOf_alike hZ.alike Ar_2.2.1) Ar_2.2.2 hin_2 hat_2 (g := (mkF m 88 #[rv a0, iv p1, rv a2, iv 0, iv 3, iv 0, oU, oU] [(.int 0), (.ref a2), (.int ee0)])) rfl rfl (hb hby d20_88) t k) ?_
  refine og (B := s₁.setTop (mkF m 95 #[rv a0, iv p1, rv a2, iv 0, iv 3, iv 0, oU, oU] [])) (fun t k => ?_) ?_
  · refine XS.icmpYes X0.here hx rfl (pc0 := 89) (pc' := 95) rfl (hb hby d20_89) rfl (teq (rfl : ee0 = ee0)).1 (by decide) (by decide) ?_
    exact k
  refine og (B := s₁.setTop (mkF m 74 #[rv a0, iv p1, rv a2, iv 0, iv 3, iv 1, oU, oU] [(.int 3), (.int 1)])) (fun t k => ?_) ?_
  · refine XS.iinc X0.here hx rfl (hb hby d20_95) rfl (l' := #[rv a0, iv p1, rv a2, iv 0, iv 3, iv 1, oU, oU]) rfl ?_
    refine XS.goto X0.here hx rfl (pc0 := 98) (pc' := 70) rfl (hb hby d20_98) (by decide) (by decide) ?_
    refine XS.iload X0.here hx rfl (hb hby d20_70) rfl ?_
    refine XS.iload X0.here hx rfl (hb hby d20_72) rfl ?_
    exact k
  refine og (B := s₁.setTop (mkF m 77 #[rv a0, iv p1, rv a2, iv 0, iv 3, iv 1, oU, oU] [])) (fun t k => ?_) ?_
  · refine XS.icmpNo X0.here hx rfl (hb hby d20_74) rfl (tlt (by decide : (1 : Int32) < (3 : Int32))).2.1 ?_
    exact k
  refine og (B := s₁.setTop (mkF m 82 #[rv a0, iv p1, rv a2, iv 0, iv 3, iv 1, oU, oU] [(.int (p1 + (1 : Int32))), (.ref a0)])) (fun t k => ?_) ?_
  · refine XS.aloadN X0.here hx rfl (hb hby d20_77) rfl rfl ?_
    refine XS.iloadN X0.here hx rfl (hb hby d20_78) rfl ?_
    refine XS.iload X0.here hx rfl (hb hby d20_79) rfl ?_
    refine XS.iadd X0.here hx rfl (hb hby d20_81) rfl ?_
    exact k
  obtain ⟨cl_3, Ar_3, q_3, S_3, M_3, H_3, G_3⟩ := id V0
  have hin_3 : ¬ ((p1 + (1 : Int32)) < 0 ∨ cl_3.slots.size ≤ ((p1 + (1 : Int32))).toNatClampNeg) := inb_of S_3 hb1
  have hat_3 : cl_3.slots[((p1 + (1 : Int32))).toNatClampNeg]? = some (.int ee1) := H_3.at hin_3 hv1
  refine og (B := s₁.setTop (mkF m 83 #[rv a0, iv p1, rv a2, iv 0, iv 3, iv 1, oU, oU] [(.int ee1)])) (fun t k => X0.baloadBytes hx (j := (p1 + (1 : Int32))) (v := (.int ee1)) (by rw [(e0 : _ = _)]; exact Ar_3.1) (State.isArrayOf_alike hZ.alike Ar_3.2.1) Ar_3.2.2 hin_3 hat_3 (g := (mkF m 82 #[rv a0, iv p1, rv a2, iv 0, iv 3, iv 1, oU, oU] [(.int (p1 + (1 : Int32))), (.ref a0)])) rfl rfl (hb hby d20_82) t k) ?_
  refine og (B := s₁.setTop (mkF m 88 #[rv a0, iv p1, rv a2, iv 0, iv 3, iv 1, oU, oU] [(.int 1), (.ref a2), (.int ee1)])) (fun t k => ?_) ?_
  · refine XS.aloadN X0.here hx rfl (hb hby d20_83) rfl rfl ?_
    refine XS.iloadN X0.here hx rfl (hb hby d20_84) rfl ?_
    refine XS.iload X0.here hx rfl (hb hby d20_85) rfl ?_
    refine XS.iadd X0.here hx rfl (hb hby d20_87) rfl ?_
    exact k
  obtain ⟨cl_4, Ar_4, q_4, S_4, M_4, H_4, G_4⟩ := id V1
  have hin_4 : ¬ ((1 : Int32) < 0 ∨ cl_4.slots.size ≤ ((1 : Int32)).toNatClampNeg) := inb_of S_4 ⟨by decide, by decide⟩
  have hat_4 : cl_4.slots[((1 : Int32)).toNatClampNeg]? = some (.int ee1) := H_4.at hin_4 rfl
  refine og (B := s₁.setTop (mkF m 89 #[rv a0, iv p1, rv a2, iv 0, iv 3, iv 1, oU, oU] [(.int ee1), (.int ee1)])) (fun t k => X0.baloadBytes hx (j := (1 : Int32)) (v := (.int ee1)) (by rw [(e0 : _ = _)]; exact Ar_4.1) (State.isArrayOf_alike hZ.alike Ar_4.2.1) Ar_4.2.2 hin_4 hat_4 (g := (mkF m 88 #[rv a0, iv p1, rv a2, iv 0, iv 3, iv 1, oU, oU] [(.int 1), (.ref a2), (.int ee1)])) rfl rfl (hb hby d20_88) t k) ?_
  refine og (B := s₁.setTop (mkF m 95 #[rv a0, iv p1, rv a2, iv 0, iv 3, iv 1, oU, oU] [])) (fun t k => ?_) ?_
  · refine XS.icmpYes X0.here hx rfl (pc0 := 89) (pc' := 95) rfl (hb hby d20_89) rfl (teq (rfl : ee1 = ee1)).1 (by decide) (by decide) ?_
    exact k
  refine og (B := s₁.setTop (mkF m 74 #[rv a0, iv p1, rv a2, iv 0, iv 3, iv 2, oU, oU] [(.int 3), (.int 2)])) (fun t k => ?_) ?_
  · refine XS.iinc X0.here hx rfl (hb hby d20_95) rfl (l' := #[rv a0, iv p1, rv a2, iv 0, iv 3, iv 2, oU, oU]) rfl ?_
    refine XS.goto X0.here hx rfl (pc0 := 98) (pc' := 70) rfl (hb hby d20_98) (by decide) (by decide) ?_
    refine XS.iload X0.here hx rfl (hb hby d20_70) rfl ?_
    refine XS.iload X0.here hx rfl (hb hby d20_72) rfl ?_
    exact k
  refine og (B := s₁.setTop (mkF m 77 #[rv a0, iv p1, rv a2, iv 0, iv 3, iv 2, oU, oU] [])) (fun t k => ?_) ?_
  · refine XS.icmpNo X0.here hx rfl (hb hby d20_74) rfl (tlt (by decide : (2 : Int32) < (3 : Int32))).2.1 ?_
    exact k
  refine og (B := s₁.setTop (mkF m 82 #[rv a0, iv p1, rv a2, iv 0, iv 3, iv 2, oU, oU] [(.int (p1 + (2 : Int32))), (.ref a0)])) (fun t k => ?_) ?_
  · refine XS.aloadN X0.here hx rfl (hb hby d20_77) rfl rfl ?_
    refine XS.iloadN X0.here hx rfl (hb hby d20_78) rfl ?_
    refine XS.iload X0.here hx rfl (hb hby d20_79) rfl ?_
    refine XS.iadd X0.here hx rfl (hb hby d20_81) rfl ?_
    exact k
  obtain ⟨cl_5, Ar_5, q_5, S_5, M_5, H_5, G_5⟩ := id V0
  have hin_5 : ¬ ((p1 + (2 : Int32)) < 0 ∨ cl_5.slots.size ≤ ((p1 + (2 : Int32))).toNatClampNeg) := inb_of S_5 hb2
  have hat_5 : cl_5.slots[((p1 + (2 : Int32))).toNatClampNeg]? = some (.int ee2) := H_5.at hin_5 hv2
  refine og (B := s₁.setTop (mkF m 83 #[rv a0, iv p1, rv a2, iv 0, iv 3, iv 2, oU, oU] [(.int ee2)])) (fun t k => X0.baloadBytes hx (j := (p1 + (2 : Int32))) (v := (.int ee2)) (by rw [(e0 : _ = _)]; exact Ar_5.1) (State.isArrayOf_alike hZ.alike Ar_5.2.1) Ar_5.2.2 hin_5 hat_5 (g := (mkF m 82 #[rv a0, iv p1, rv a2, iv 0, iv 3, iv 2, oU, oU] [(.int (p1 + (2 : Int32))), (.ref a0)])) rfl rfl (hb hby d20_82) t k) ?_
  refine og (B := s₁.setTop (mkF m 88 #[rv a0, iv p1, rv a2, iv 0, iv 3, iv 2, oU, oU] [(.int 2), (.ref a2), (.int ee2)])) (fun t k => ?_) ?_
  · refine XS.aloadN X0.here hx rfl (hb hby d20_83) rfl rfl ?_
    refine XS.iloadN X0.here hx rfl (hb hby d20_84) rfl ?_
    refine XS.iload X0.here hx rfl (hb hby d20_85) rfl ?_
    refine XS.iadd X0.here hx rfl (hb hby d20_87) rfl ?_
    exact k
  obtain ⟨cl_6, Ar_6, q_6, S_6, M_6, H_6, G_6⟩ := id V1
  have hin_6 : ¬ ((2 : Int32) < 0 ∨ cl_6.slots.size ≤ ((2 : Int32)).toNatClampNeg) := inb_of S_6 ⟨by decide, by decide⟩
  have hat_6 : cl_6.slots[((2 : Int32)).toNatClampNeg]? = some (.int ee2) := H_6.at hin_6 rfl
  refine og (B := s₁.setTop (mkF m 89 #[rv a0, iv p1, rv a2, iv 0, iv 3, iv 2, oU, oU] [(.int ee2), (.int ee2)])) (fun t k => X0.baloadBytes hx (j := (2 : Int32)) (v := (.int ee2)) (by rw [(e0 : _ = _)]; exact Ar_6.1) (State.isArrayOf_alike hZ.alike Ar_6.2.1) Ar_6.2.2 hin_6 hat_6 (g := (mkF m 88 #[rv a0, iv p1, rv a2, iv 0, iv 3, iv 2, oU, oU] [(.int 2), (.ref a2), (.int ee2)])) rfl rfl (hb hby d20_88) t k) ?_
  refine og (B := s₁.setTop (mkF m 95 #[rv a0, iv p1, rv a2, iv 0, iv 3, iv 2, oU, oU] [])) (fun t k => ?_) ?_
  · refine XS.icmpYes X0.here hx rfl (pc0 := 89) (pc' := 95) rfl (hb hby d20_89) rfl (teq (rfl : ee2 = ee2)).1 (by decide) (by decide) ?_
    exact k
  refine og (B := s₁.setTop (mkF m 74 #[rv a0, iv p1, rv a2, iv 0, iv 3, iv 3, oU, oU] [(.int 3), (.int 3)])) (fun t k => ?_) ?_
  · refine XS.iinc X0.here hx rfl (hb hby d20_95) rfl (l' := #[rv a0, iv p1, rv a2, iv 0, iv 3, iv 3, oU, oU]) rfl ?_
    refine XS.goto X0.here hx rfl (pc0 := 98) (pc' := 70) rfl (hb hby d20_98) (by decide) (by decide) ?_
    refine XS.iload X0.here hx rfl (hb hby d20_70) rfl ?_
    refine XS.iload X0.here hx rfl (hb hby d20_72) rfl ?_
    exact k
  refine og (B := s₁.setTop (mkF m 101 #[rv a0, iv p1, rv a2, iv 0, iv 3, iv 3, oU, oU] [])) (fun t k => ?_) ?_
  · refine XS.icmpYes X0.here hx rfl (pc0 := 74) (pc' := 101) rfl (hb hby d20_74) rfl (flt (by decide : ¬ ((3 : Int32) < (3 : Int32)))).2.1 (by decide) (by decide) ?_
    exact k
  refine og (B := s₁.setTop (mkF m 102 #[rv a0, iv p1, rv a2, iv 0, iv 3, iv 3, oU, oU] [(.int (-1))])) (fun t k => ?_) ?_
  · refine XS.iconst X0.here hx rfl (hb hby d20_101) ?_
    exact k
  obtain ⟨fs, hr, hrun, hended, hW, hsame⟩ := X0.leave (v := some (.int (-1))) (fun h => by rw [Bd.returns] at h; cases h)
  refine ⟨_, _, ?_, hrun, hended, _, _, rfl, ?_, ⟨_, rfl⟩, hW, hsame.mono (by decide) (by decide)⟩
  · show Steps p.tables e below (s₁.setTop (mkF m 102 #[rv a0, iv p1, rv a2, iv 0, iv 3, iv 3, oU, oU] [(.int (-1))])) _
    exact retI X0 hx Bd.returns (hb hby d20_102) hr
  · show Qmm3 Z a0 p1 a2 k0 k1 z0 vs0 ee0 ee1 ee2 h0 n0 _ s₁.heap _
    rw [e0]
    exact ⟨rfl, N0, rfl⟩
theorem d19_0 : decode jdk_42_method_75_code 0 = .ok (.iload_n 2, 1) := by decide +kernel
theorem d19_1 : decode jdk_42_method_75_code 1 = .ok (.ifCond .lt 16, 3) := by decide +kernel
theorem d19_4 : decode jdk_42_method_75_code 4 = .ok (.iload_n 2, 1) := by decide +kernel
theorem d19_5 : decode jdk_42_method_75_code 5 = .ok (.aload_n 0, 1) := by decide +kernel
theorem d19_6 : decode jdk_42_method_75_code 6 = .ok (.invokevirtual 505, 3) := by decide +kernel
theorem d19_9 : decode jdk_42_method_75_code 9 = .ok (.aload_n 1, 1) := by decide +kernel
theorem d19_10 : decode jdk_42_method_75_code 10 = .ok (.invokevirtual 505, 3) := by decide +kernel
theorem d19_13 : decode jdk_42_method_75_code 13 = .ok (.isub, 1) := by decide +kernel
theorem d19_14 : decode jdk_42_method_75_code 14 = .ok (.if_icmp .le 5, 3) := by decide +kernel
theorem d19_19 : decode jdk_42_method_75_code 19 = .ok (.aload_n 0, 1) := by decide +kernel
theorem d19_20 : decode jdk_42_method_75_code 20 = .ok (.getfield 9, 3) := by decide +kernel
theorem d19_23 : decode jdk_42_method_75_code 23 = .ok (.astore_n 3, 1) := by decide +kernel
theorem d19_24 : decode jdk_42_method_75_code 24 = .ok (.aload_n 1, 1) := by decide +kernel
theorem d19_25 : decode jdk_42_method_75_code 25 = .ok (.getfield 9, 3) := by decide +kernel
theorem d19_28 : decode jdk_42_method_75_code 28 = .ok (.astore 4, 2) := by decide +kernel
theorem d19_30 : decode jdk_42_method_75_code 30 = .ok (.iconst 0, 1) := by decide +kernel
theorem d19_31 : decode jdk_42_method_75_code 31 = .ok (.istore 5, 2) := by decide +kernel
theorem d19_33 : decode jdk_42_method_75_code 33 = .ok (.aload 4, 2) := by decide +kernel
theorem d19_35 : decode jdk_42_method_75_code 35 = .ok (.arraylength, 1) := by decide +kernel
theorem d19_36 : decode jdk_42_method_75_code 36 = .ok (.istore 6, 2) := by decide +kernel
theorem d19_38 : decode jdk_42_method_75_code 38 = .ok (.aload_n 0, 1) := by decide +kernel
theorem d19_39 : decode jdk_42_method_75_code 39 = .ok (.invokevirtual 335, 3) := by decide +kernel
theorem d19_42 : decode jdk_42_method_75_code 42 = .ok (.istore 7, 2) := by decide +kernel
theorem d19_44 : decode jdk_42_method_75_code 44 = .ok (.iload 7, 2) := by decide +kernel
theorem d19_46 : decode jdk_42_method_75_code 46 = .ok (.aload_n 1, 1) := by decide +kernel
theorem d19_47 : decode jdk_42_method_75_code 47 = .ok (.invokevirtual 335, 3) := by decide +kernel
theorem d19_50 : decode jdk_42_method_75_code 50 = .ok (.if_icmp .ne 32, 3) := by decide +kernel
theorem d19_53 : decode jdk_42_method_75_code 53 = .ok (.iload 7, 2) := by decide +kernel
theorem d19_55 : decode jdk_42_method_75_code 55 = .ok (.iconst 1, 1) := by decide +kernel
theorem d19_56 : decode jdk_42_method_75_code 56 = .ok (.if_icmp .ne 7, 3) := by decide +kernel
theorem d19_63 : decode jdk_42_method_75_code 63 = .ok (.aload_n 3, 1) := by decide +kernel
theorem d19_64 : decode jdk_42_method_75_code 64 = .ok (.iload_n 2, 1) := by decide +kernel
theorem d19_65 : decode jdk_42_method_75_code 65 = .ok (.aload 4, 2) := by decide +kernel
theorem d19_67 : decode jdk_42_method_75_code 67 = .ok (.iconst 0, 1) := by decide +kernel
theorem d19_68 : decode jdk_42_method_75_code 68 = .ok (.iload 6, 2) := by decide +kernel
theorem d19_70 : decode jdk_42_method_75_code 70 = .ok (.invokestatic 607, 3) := by decide +kernel
theorem d19_73 : decode jdk_42_method_75_code 73 = .ok (.ifCond .ge 7, 3) := by decide +kernel
theorem d19_76 : decode jdk_42_method_75_code 76 = .ok (.iconst 1, 1) := by decide +kernel
theorem d19_77 : decode jdk_42_method_75_code 77 = .ok (.goto 4, 3) := by decide +kernel
theorem d19_81 : decode jdk_42_method_75_code 81 = .ok (.ireturn, 1) := by decide +kernel
theorem pn_19 : plainName "java/lang/String" = true := by first | (simp [plainName, overriddenIn]; done) | decide +kernel
theorem ef_sw (m : MethodId) (a0 : Addr) (a1 : Addr) (p2 : Int32) : entryFrame m #[(.ref a0), (.ref a1), (.int p2)] 8 = mkF m 0 #[rv a0, rv a1, iv p2, oU, oU, oU, oU, oU] [] := by first | (simp [entryFrame, mkF, argsToLocals, Value.category]; done) | rfl
theorem pd_13 : parseMethodDescriptor "([BI[BII)I" = some ⟨[(.array .byte), .int, (.array .byte), .int, .int], some .int⟩ := by decide +kernel
def Qsw (Z : State) (a0 : Addr) (a1 : Addr) (p2 : Int32) (b0 : Addr) (b1 : Addr) (k0 : ClassId) (k1 : ClassId) (w : Int32) (z0 : Int32) (z1 : Int32) (vs0 : List Value) (vs1 : List Value) (h0 : Heap) (n0 : Nat) (v : Option Value) (h : Heap) (L : List Loc) : Prop := v = some (.int 1) ∧ Fr n0 L ∧ h = h0
theorem rmsw (l : Launch) (Z : State) (av0 : Array Value) (hw : ∀ d ∈ tables_1, d.before av0 Z = true) (ws : List Jvm.Cond) (a0 : Addr) (a1 : Addr) (p2 : Int32) (b0 : Addr) (b1 : Addr) (k0 : ClassId) (k1 : ClassId) (w : Int32) (z0 : Int32) (z1 : Int32) (vs0 : List Value) (vs1 : List Value) (h0 : Heap) (n0 : Nat) (Z0 : n0 ≤ h0.size) (E_a0 : Exa Z h0 a0 "java/lang/String") (F_coder_a0 : Fld Z h0 a0 "java/lang/String" "coder" "B" (.int 0)) (F_value_a0 : Fld Z h0 a0 "java/lang/String" "value" "[B" (.ref b0)) (E_a1 : Exa Z h0 a1 "java/lang/String") (F_coder_a1 : Fld Z h0 a1 "java/lang/String" "coder" "B" (.int 0)) (F_value_a1 : Fld Z h0 a1 "java/lang/String" "value" "[B" (.ref b1)) (S_COMPACT_STRINGS : Sta Z h0 "java/lang/String" "COMPACT_STRINGS" "Z" (.int w)) (hw0 : ¬ (w = (0 : Int32))) (V0 : Arv Z h0 b0 k0 .byte z0 vs0 (.int 0)) (V1 : Arv Z h0 b1 k1 .byte z1 vs1 (.int 0)) (hof : ¬ (p2 < (0 : Int32))) (hle : ¬ ((z0 - z1) < p2)) (hM : MetFree l own_m21 (head1 [Jvm.Cond.code own_m21 jdk_48_method_14_code 8 (some .int)] ({ frames := 0, cells := 0, slots := 0, locals := 0 } : Room)) (fun a U => a = #[(.ref b0), (.int p2), (.ref b1), (.int (0 : Int32)), (.int z1)] ∧ Z.Warmed39 U.vm ∧ U.heap = h0) (fun _ _ _ _ _ => True) (fun _ U o U' => ∃ v L, o = .returned v ∧ (v = some (.int (-1 : Int32)) ∧ Fr n0 L ∧ U'.heap = h0) ∧ FrameEnd U o U' L ({ frames := 0, cells := 0, slots := 0, locals := 0 } : Room).cells ({ frames := 0, cells := 0, slots := 0, locals := 0 } : Room).slots)) :
    MetFree l own_m20 (head1 (Jvm.Cond.code own_m20 jdk_42_method_75_code 8 (some .boolean) :: ws) ({ frames := 2, cells := 0, slots := 0, locals := 27 } : Room)) (fun a U => a = #[(.ref a0), (.ref a1), (.int p2)] ∧ Z.Warmed39 U.vm ∧ U.heap = h0) (fun _ _ _ _ _ => True) (fun _ U o U' => ∃ v L, o = .returned v ∧ Qsw Z a0 a1 p2 b0 b1 k0 k1 w z0 z1 vs0 vs1 h0 n0 v U'.heap L ∧ FrameEnd U o U' L ({ frames := 2, cells := 0, slots := 0, locals := 27 } : Room).cells ({ frames := 2, cells := 0, slots := 0, locals := 27 } : Room).slots) := by
  refine MetFree.of_bodySF (plainFor_of_name pn_19) hisR ?_
  intro p e s m args below meth c s₁ Bd hml0 hP hK
  obtain ⟨rfl, hZ, hh⟩ := hP
  have hx := Bd.exec
  have hby := Bd.bytes
  have hml : c.maxLocals = 8 := hml0
  have hown : s.vm.findClass "java/lang/String" = some m.cls := findClass_of_methodNamed Bd.named
  have X0 : Stand p l e ({ frames := 2, cells := 0, slots := 0, locals := 27 } : Room) s m #[(.ref a0), (.ref a1), (.int p2)] below meth c s₁ [] 0 0 := Stand.of_body Bd
  have e0 : s₁.heap = h0 := by rw [← hh, Bd.state]; rfl
  have N0 := Fr.nil n0
  have K0 : Keep h0 h0 [] := Keep.refl h0 []
  refine og (B := s₁.setTop (mkF m 0 #[rv a0, rv a1, iv p2, oU, oU, oU, oU, oU] [])) (fun t k => castTop (ef_sw m a0 a1 p2) k) ?_
  refine og (B := s₁.setTop (mkF m 1 #[rv a0, rv a1, iv p2, oU, oU, oU, oU, oU] [(.int p2)])) (fun t k => ?_) ?_
  · refine XS.iloadN X0.here hx rfl (hb hby d19_0) rfl ?_
    exact k
  refine og (B := s₁.setTop (mkF m 4 #[rv a0, rv a1, iv p2, oU, oU, oU, oU, oU] [])) (fun t k => ?_) ?_
  · refine XS.ifNo X0.here hx rfl (hb hby d19_1) rfl ((if0 _ _).trans (flt hof).1) ?_
    exact k
  refine og (B := s₁.setTop (mkF m 6 #[rv a0, rv a1, iv p2, oU, oU, oU, oU, oU] [(.ref a0), (.int p2)])) (fun t k => ?_) ?_
  · refine XS.iloadN X0.here hx rfl (hb hby d19_4) rfl ?_
    refine XS.aloadN X0.here hx rfl (hb hby d19_5) rfl rfl ?_
    exact k
  obtain ⟨cq_1, kq_1, q_1a, q_1b, q_1c⟩ := isOf hZ e0 E_a0
  obtain ⟨_, _, ⟨T_1, L_1, k_1, n_1⟩, -, X_1, ⟨Lc_1, hQ_1, l_1, y_1, z_1⟩, st_1⟩ := X0.virtualBack hx (y := own_m11) (z := own_m11) hown (mvT hZ (ow hw 60 rfl)) (mvT hZ (ow hw 61 rfl)) (notFace_of_selects (args := #[]) (mvT hZ (ow hw 63 rfl))) (mvT hZ (ow hw 63 rfl)) (mvT hZ (ow hw 62 rfl)) (by decide) (backOf (W := 1) (rm10 l Z av0 hw [] a0 b0 k0 w z0 vs0 h0 n0 Z0 E_a0 F_coder_a0 F_value_a0 S_COMPACT_STRINGS hw0 V0) hZ (ow hw 64 rfl) (ow hw 7 rfl) (by decide) (by decide)) q_1a q_1c (g := (mkF m 6 #[rv a0, rv a1, iv p2, oU, oU, oU, oU, oU] [(.ref a0), (.int p2)])) rfl (by rw [hml]; rfl) (Steps.refl _) (argsL := []) (rest := [(.int p2)]) (lenOf pd_4 rfl) rfl (by show 2 * 0 + _ ≤ _; exact Nat.le_of_eq rfl) (hb hby d19_6) (fun _ _ => ⟨rfl, e0, (by decide : 0 + 0 ≤ _), (by decide : 0 + 0 ≤ _)⟩)
  dsimp only [Pt.U, Pt.locs, Pt.cells, Pt.slots] at X_1 l_1 y_1 z_1 st_1 hQ_1
  subst l_1 y_1 z_1
  obtain ⟨rfl, N_1q, e_1⟩ := hQ_1
  have N_1 := Fr.app N0 N_1q
  refine og (fun t k => st_1.trans k) ?_
  refine og (B := T_1.setTop (mkF m 10 #[rv a0, rv a1, iv p2, oU, oU, oU, oU, oU] [(.ref a1), (.int z0), (.int p2)])) (fun t k => ?_) ?_
  · refine XS.aloadN X_1.here hx rfl (hb hby d19_9) rfl rfl ?_
    exact k
  obtain ⟨cq_2, kq_2, q_2a, q_2b, q_2c⟩ := isOf hZ e_1 E_a1
  obtain ⟨_, _, ⟨T_2, L_2, k_2, n_2⟩, -, X_2, ⟨Lc_2, hQ_2, l_2, y_2, z_2⟩, st_2⟩ := X_1.virtualBack hx (y := own_m11) (z := own_m11) hown (mvT hZ (ow hw 60 rfl)) (mvT hZ (ow hw 61 rfl)) (notFace_of_selects (args := #[]) (mvT hZ (ow hw 63 rfl))) (mvT hZ (ow hw 63 rfl)) (mvT hZ (ow hw 62 rfl)) (by decide) (backOf (W := 2) (rm10 l Z av0 hw [] a1 b1 k1 w z1 vs1 h0 n0 Z0 E_a1 F_coder_a1 F_value_a1 S_COMPACT_STRINGS hw0 V1) hZ (ow hw 64 rfl) (ow hw 7 rfl) (by decide) (by decide)) q_2a q_2c (g := (mkF m 10 #[rv a0, rv a1, iv p2, oU, oU, oU, oU, oU] [(.ref a1), (.int z0), (.int p2)])) rfl (by rw [hml]; rfl) (Steps.refl _) (argsL := []) (rest := [(.int z0), (.int p2)]) (lenOf pd_4 rfl) rfl (by show 2 * 0 + _ ≤ _; exact Nat.le_of_eq rfl) (hb hby d19_10) (fun _ _ => ⟨rfl, e_1, (by decide : 0 + 0 ≤ _), (by decide : 0 + 0 ≤ _)⟩)
  dsimp only [Pt.U, Pt.locs, Pt.cells, Pt.slots] at X_2 l_2 y_2 z_2 st_2 hQ_2
  subst l_2 y_2 z_2
  obtain ⟨rfl, N_2q, e_2⟩ := hQ_2
  have N_2 := Fr.app N_1 N_2q
  refine og (fun t k => st_2.trans k) ?_
  refine og (B := T_2.setTop (mkF m 14 #[rv a0, rv a1, iv p2, oU, oU, oU, oU, oU] [(.int (z0 - z1)), (.int p2)])) (fun t k => ?_) ?_
  · refine XS.isub X_2.here hx rfl (hb hby d19_13) rfl ?_
    exact k
  refine og (B := T_2.setTop (mkF m 19 #[rv a0, rv a1, iv p2, oU, oU, oU, oU, oU] [])) (fun t k => ?_) ?_
  · refine XS.icmpYes X_2.here hx rfl (pc0 := 14) (pc' := 19) rfl (hb hby d19_14) rfl (flt hle).2.2.2 (by decide) (by decide) ?_
    exact k
  refine og (B := T_2.setTop (mkF m 20 #[rv a0, rv a1, iv p2, oU, oU, oU, oU, oU] [(.ref a0)])) (fun t k => ?_) ?_
  · refine XS.aloadN X_2.here hx rfl (hb hby d19_19) rfl rfl ?_
    exact k
  obtain ⟨T_3, X_3, e_3, st_3⟩ := getF X_2 hx hZ hown (host := "") (Or.inl (ow hw 25 rfl)) Via.refl e_2 F_value_a0 (g := (mkF m 20 #[rv a0, rv a1, iv p2, oU, oU, oU, oU, oU] [(.ref a0)])) rfl rfl (hb hby d19_20)
  refine og (fun t k => st_3 t k) ?_
  refine og (B := T_3.setTop (mkF m 25 #[rv a0, rv a1, iv p2, rv b0, oU, oU, oU, oU] [(.ref a1)])) (fun t k => ?_) ?_
  · refine XS.astoreN X_3.here hx rfl (hb hby d19_23) rfl rfl (l' := #[rv a0, rv a1, iv p2, rv b0, oU, oU, oU, oU]) rfl ?_
    refine XS.aloadN X_3.here hx rfl (hb hby d19_24) rfl rfl ?_
    exact k
  obtain ⟨T_4, X_4, e_4, st_4⟩ := getF X_3 hx hZ hown (host := "") (Or.inl (ow hw 25 rfl)) Via.refl e_3 F_value_a1 (g := (mkF m 25 #[rv a0, rv a1, iv p2, rv b0, oU, oU, oU, oU] [(.ref a1)])) rfl rfl (hb hby d19_25)
  refine og (fun t k => st_4 t k) ?_
  refine og (B := T_4.setTop (mkF m 35 #[rv a0, rv a1, iv p2, rv b0, rv b1, iv 0, oU, oU] [(.ref b1)])) (fun t k => ?_) ?_
  · refine XS.astore X_4.here hx rfl (hb hby d19_28) rfl rfl (l' := #[rv a0, rv a1, iv p2, rv b0, rv b1, oU, oU, oU]) rfl ?_
    refine XS.iconst X_4.here hx rfl (hb hby d19_30) ?_
    refine XS.istore X_4.here hx rfl (hb hby d19_31) rfl (l' := #[rv a0, rv a1, iv p2, rv b0, rv b1, iv 0, oU, oU]) rfl ?_
    refine XS.aload X_4.here hx rfl (hb hby d19_33) rfl rfl ?_
    exact k
  obtain ⟨cl_5, Ar_5, -, S_5, M_5, -, -⟩ := id V1
  refine og (B := T_4.setTop (mkF m 36 #[rv a0, rv a1, iv p2, rv b0, rv b1, iv 0, oU, oU] [(.int z1)])) (fun t k => X_4.arraylength hx (by rw [(e_4 : _ = _)]; exact Ar_5.1) (State.isArrayOf_alike hZ.alike Ar_5.2.1) (g := (mkF m 35 #[rv a0, rv a1, iv p2, rv b0, rv b1, iv 0, oU, oU] [(.ref b1)])) rfl rfl (hb hby d19_35) t (by rw [len_of S_5 M_5]; exact k)) ?_
  refine og (B := T_4.setTop (mkF m 39 #[rv a0, rv a1, iv p2, rv b0, rv b1, iv 0, iv z1, oU] [(.ref a0)])) (fun t k => ?_) ?_
  · refine XS.istore X_4.here hx rfl (hb hby d19_36) rfl (l' := #[rv a0, rv a1, iv p2, rv b0, rv b1, iv 0, iv z1, oU]) rfl ?_
    refine XS.aloadN X_4.here hx rfl (hb hby d19_38) rfl rfl ?_
    exact k
  obtain ⟨cq_6, kq_6, q_6a, q_6b, q_6c⟩ := isOf hZ e_4 E_a0
  obtain ⟨_, _, ⟨T_6, L_6, k_6, n_6⟩, -, X_6, ⟨Lc_6, hQ_6, l_6, y_6, z_6⟩, st_6⟩ := X_4.virtualBack hx (y := own_m12) (z := own_m12) hown (mvT hZ (ow hw 65 rfl)) (mvT hZ (ow hw 66 rfl)) (notFace_of_selects (args := #[]) (mvT hZ (ow hw 68 rfl))) (mvT hZ (ow hw 68 rfl)) (mvT hZ (ow hw 67 rfl)) (by decide) (backOf (W := 0) (rm11 l Z av0 hw [] a0 w h0 n0 Z0 F_coder_a0 S_COMPACT_STRINGS hw0) hZ (ow hw 69 rfl) (ow hw 7 rfl) (by decide) (by decide)) q_6a q_6c (g := (mkF m 39 #[rv a0, rv a1, iv p2, rv b0, rv b1, iv 0, iv z1, oU] [(.ref a0)])) rfl (by rw [hml]; rfl) (Steps.refl _) (argsL := []) (rest := []) (lenOf pd_0 rfl) rfl (by show 2 * 0 + _ ≤ _; exact Nat.le_of_eq rfl) (hb hby d19_39) (fun _ _ => ⟨rfl, e_4, (by decide : 0 + 0 ≤ _), (by decide : 0 + 0 ≤ _)⟩)
  dsimp only [Pt.U, Pt.locs, Pt.cells, Pt.slots] at X_6 l_6 y_6 z_6 st_6 hQ_6
  subst l_6 y_6 z_6
  obtain ⟨rfl, N_6q, e_6⟩ := hQ_6
  have N_6 := Fr.app N_2 N_6q
  refine og (fun t k => st_6.trans k) ?_
  refine og (B := T_6.setTop (mkF m 47 #[rv a0, rv a1, iv p2, rv b0, rv b1, iv 0, iv z1, iv 0] [(.ref a1), (.int 0)])) (fun t k => ?_) ?_
  · refine XS.istore X_6.here hx rfl (hb hby d19_42) rfl (l' := #[rv a0, rv a1, iv p2, rv b0, rv b1, iv 0, iv z1, iv 0]) rfl ?_
    refine XS.iload X_6.here hx rfl (hb hby d19_44) rfl ?_
    refine XS.aloadN X_6.here hx rfl (hb hby d19_46) rfl rfl ?_
    exact k
  obtain ⟨cq_7, kq_7, q_7a, q_7b, q_7c⟩ := isOf hZ e_6 E_a1
  obtain ⟨_, _, ⟨T_7, L_7, k_7, n_7⟩, -, X_7, ⟨Lc_7, hQ_7, l_7, y_7, z_7⟩, st_7⟩ := X_6.virtualBack hx (y := own_m12) (z := own_m12) hown (mvT hZ (ow hw 65 rfl)) (mvT hZ (ow hw 66 rfl)) (notFace_of_selects (args := #[]) (mvT hZ (ow hw 68 rfl))) (mvT hZ (ow hw 68 rfl)) (mvT hZ (ow hw 67 rfl)) (by decide) (backOf (W := 1) (rm11 l Z av0 hw [] a1 w h0 n0 Z0 F_coder_a1 S_COMPACT_STRINGS hw0) hZ (ow hw 69 rfl) (ow hw 7 rfl) (by decide) (by decide)) q_7a q_7c (g := (mkF m 47 #[rv a0, rv a1, iv p2, rv b0, rv b1, iv 0, iv z1, iv 0] [(.ref a1), (.int 0)])) rfl (by rw [hml]; rfl) (Steps.refl _) (argsL := []) (rest := [(.int 0)]) (lenOf pd_0 rfl) rfl (by show 2 * 0 + _ ≤ _; exact Nat.le_of_eq rfl) (hb hby d19_47) (fun _ _ => ⟨rfl, e_6, (by decide : 0 + 0 ≤ _), (by decide : 0 + 0 ≤ _)⟩)
  dsimp only [Pt.U, Pt.locs, Pt.cells, Pt.slots] at X_7 l_7 y_7 z_7 st_7 hQ_7
  subst l_7 y_7 z_7
  obtain ⟨rfl, N_7q, e_7⟩ := hQ_7
  have N_7 := Fr.app N_6 N_7q
  refine og (fun t k => st_7.trans k) ?_
  refine og (B := T_7.setTop (mkF m 53 #[rv a0, rv a1, iv p2, rv b0, rv b1, iv 0, iv z1, iv 0] [])) (fun t k => ?_) ?_
  · refine XS.icmpNo X_7.here hx rfl (hb hby d19_50) rfl (teq (by decide : (0 : Int32) = (0 : Int32))).2 ?_
    exact k
  refine og (B := T_7.setTop (mkF m 56 #[rv a0, rv a1, iv p2, rv b0, rv b1, iv 0, iv z1, iv 0] [(.int 1), (.int 0)])) (fun t k => ?_) ?_
  · refine XS.iload X_7.here hx rfl (hb hby d19_53) rfl ?_
    refine XS.iconst X_7.here hx rfl (hb hby d19_55) ?_
    exact k
  refine og (B := T_7.setTop (mkF m 63 #[rv a0, rv a1, iv p2, rv b0, rv b1, iv 0, iv z1, iv 0] [])) (fun t k => ?_) ?_
  · refine XS.icmpYes X_7.here hx rfl (pc0 := 56) (pc' := 63) rfl (hb hby d19_56) rfl (feq (by decide : ¬ ((0 : Int32) = (1 : Int32)))).2 (by decide) (by decide) ?_
    exact k
  refine og (B := T_7.setTop (mkF m 70 #[rv a0, rv a1, iv p2, rv b0, rv b1, iv 0, iv z1, iv 0] [(.int z1), (.int 0), (.ref b1), (.int p2), (.ref b0)])) (fun t k => ?_) ?_
  · refine XS.aloadN X_7.here hx rfl (hb hby d19_63) rfl rfl ?_
    refine XS.iloadN X_7.here hx rfl (hb hby d19_64) rfl ?_
    refine XS.aload X_7.here hx rfl (hb hby d19_65) rfl rfl ?_
    refine XS.iconst X_7.here hx rfl (hb hby d19_67) ?_
    refine XS.iload X_7.here hx rfl (hb hby d19_68) rfl ?_
    exact k
  obtain ⟨_, _, ⟨T_8, L_8, k_8, n_8⟩, -, X_8, ⟨Lc_8, hQ_8, l_8, y_8, z_8⟩, st_8⟩ := Jvm.LawKit.callS X_7 hx (y := own_m21) hown (mvT hZ (ow hw 110 rfl)) (mvT hZ (ow hw 111 rfl)) (mvT hZ (ow hw 112 rfl)) (mvT hZ (ow hw 113 rfl)) (by decide) (backOf (rm := ({ frames := 0, cells := 0, slots := 0, locals := 0 } : Room)) (Q := fun v h L => v = some (.int (-1 : Int32)) ∧ Fr n0 L ∧ h = h0) (W := 0) hM hZ (ow hw 113 rfl) (ow hw 112 rfl) (by decide) (by decide)) (g := (mkF m 70 #[rv a0, rv a1, iv p2, rv b0, rv b1, iv 0, iv z1, iv 0] [(.int z1), (.int 0), (.ref b1), (.int p2), (.ref b0)])) rfl (by rw [hml]; rfl) (argsL := [(.ref b0), (.int p2), (.ref b1), (.int 0), (.int z1)]) (rest := []) (lenOf pd_13 rfl) rfl (by show 2 * 0 + _ ≤ _; exact Nat.le_of_eq rfl) (hb hby d19_70) (fun _ _ => ⟨rfl, e_7, (by decide : 0 + 0 ≤ _), (by decide : 0 + 0 ≤ _)⟩)
  dsimp only [Pt.U, Pt.locs, Pt.cells, Pt.slots] at X_8 l_8 y_8 z_8 st_8 hQ_8
  subst l_8 y_8 z_8
  obtain ⟨rfl, N_8q, e_8⟩ := hQ_8
  have N_8 := Fr.app N_7 N_8q
  refine og (fun t k => st_8 t k) ?_
  refine og (B := T_8.setTop (mkF m 76 #[rv a0, rv a1, iv p2, rv b0, rv b1, iv 0, iv z1, iv 0] [])) (fun t k => ?_) ?_
  · refine XS.ifNo X_8.here hx rfl (hb hby d19_73) rfl ((if0 _ _).trans (tlt (by decide : (-1 : Int32) < (0 : Int32))).2.1) ?_
    exact k
  refine og (B := T_8.setTop (mkF m 81 #[rv a0, rv a1, iv p2, rv b0, rv b1, iv 0, iv z1, iv 0] [(.int 1)])) (fun t k => ?_) ?_
  · refine XS.iconst X_8.here hx rfl (hb hby d19_76) ?_
    refine XS.goto X_8.here hx rfl (pc0 := 77) (pc' := 81) rfl (hb hby d19_77) (by decide) (by decide) ?_
    exact k
  obtain ⟨fs, hr, hrun, hended, hW, hsame⟩ := X_8.leave (v := some (.int 1)) (fun h => by rw [Bd.returns] at h; cases h)
  refine ⟨_, _, ?_, hrun, hended, _, _, rfl, ?_, ⟨_, rfl⟩, hW, hsame.mono (by decide) (by decide)⟩
  · show Steps p.tables e below (T_8.setTop (mkF m 81 #[rv a0, rv a1, iv p2, rv b0, rv b1, iv 0, iv z1, iv 0] [(.int 1)])) _
    exact retN X_8 hx (t := .boolean) Bd.returns (by simp) (hb hby d19_81) hr
  · show Qsw Z a0 a1 p2 b0 b1 k0 k1 w z0 z1 vs0 vs1 h0 n0 _ T_8.heap _
    rw [e_8]
    exact ⟨rfl, N_8, rfl⟩
theorem d18_0 : decode prog_74_method_4_code 0 = .ok (.aload_n 0, 1) := by decide +kernel
theorem d18_1 : decode prog_74_method_4_code 1 = .ok (.getfield 13, 3) := by decide +kernel
theorem d18_4 : decode prog_74_method_4_code 4 = .ok (.aload_n 1, 1) := by decide +kernel
theorem d18_5 : decode prog_74_method_4_code 5 = .ok (.aload_n 0, 1) := by decide +kernel
theorem d18_6 : decode prog_74_method_4_code 6 = .ok (.getfield 33, 3) := by decide +kernel
theorem d18_9 : decode prog_74_method_4_code 9 = .ok (.invokevirtual 40, 3) := by decide +kernel
theorem d18_12 : decode prog_74_method_4_code 12 = .ok (.ireturn, 1) := by decide +kernel
theorem pn_18 : plainName "com/example/cutoff/cutoff/store/TextCursor" = true := by first | (simp [plainName, overriddenIn]; done) | decide +kernel
theorem ef_la (m : MethodId) (a0 : Addr) (a1 : Addr) : entryFrame m #[(.ref a0), (.ref a1)] 2 = mkF m 0 #[rv a0, rv a1] [] := by first | (simp [entryFrame, mkF, argsToLocals, Value.category]; done) | rfl
theorem pd_14 : parseMethodDescriptor "(Ljava/lang/String;I)Z" = some ⟨[(.object "java/lang/String"), .int], some .boolean⟩ := by decide +kernel
def Qla (Z : State) (a0 : Addr) (a1 : Addr) (t0 : Addr) (pp : Int32) (b0 : Addr) (b1 : Addr) (k0 : ClassId) (k1 : ClassId) (w : Int32) (z0 : Int32) (z1 : Int32) (vs0 : List Value) (vs1 : List Value) (h0 : Heap) (n0 : Nat) (v : Option Value) (h : Heap) (L : List Loc) : Prop := v = some (.int 1) ∧ Fr n0 L ∧ h = h0
theorem rmla (l : Launch) (Z : State) (av0 : Array Value) (hw : ∀ d ∈ tables_1, d.before av0 Z = true) (ws : List Jvm.Cond) (a0 : Addr) (a1 : Addr) (t0 : Addr) (pp : Int32) (b0 : Addr) (b1 : Addr) (k0 : ClassId) (k1 : ClassId) (w : Int32) (z0 : Int32) (z1 : Int32) (vs0 : List Value) (vs1 : List Value) (h0 : Heap) (n0 : Nat) (Z0 : n0 ≤ h0.size) (E_a0 : Exa Z h0 a0 "com/example/cutoff/cutoff/store/TextCursor") (F_text_a0 : Fld Z h0 a0 "com/example/cutoff/cutoff/store/TextCursor" "text" "Ljava/lang/String;" (.ref t0)) (F_position_a0 : Fld Z h0 a0 "com/example/cutoff/cutoff/store/TextCursor" "position" "I" (.int pp)) (g_a0 : n0 ≤ a0) (E_t0 : Exa Z h0 t0 "java/lang/String") (F_coder_t0 : Fld Z h0 t0 "java/lang/String" "coder" "B" (.int 0)) (F_value_t0 : Fld Z h0 t0 "java/lang/String" "value" "[B" (.ref b0)) (E_a1 : Exa Z h0 a1 "java/lang/String") (F_coder_a1 : Fld Z h0 a1 "java/lang/String" "coder" "B" (.int 0)) (F_value_a1 : Fld Z h0 a1 "java/lang/String" "value" "[B" (.ref b1)) (S_COMPACT_STRINGS : Sta Z h0 "java/lang/String" "COMPACT_STRINGS" "Z" (.int w)) (hw0 : ¬ (w = (0 : Int32))) (V0 : Arv Z h0 b0 k0 .byte z0 vs0 (.int 0)) (V1 : Arv Z h0 b1 k1 .byte z1 vs1 (.int 0)) (ne1 : a1 ≠ a0) (ne2 : b1 ≠ a0) (hof : ¬ (pp < (0 : Int32))) (hle : ¬ ((z0 - z1) < pp)) (hM : MetFree l own_m21 (head1 [Jvm.Cond.code own_m21 jdk_48_method_14_code 8 (some .int)] ({ frames := 0, cells := 0, slots := 0, locals := 0 } : Room)) (fun a U => a = #[(.ref b0), (.int pp), (.ref b1), (.int (0 : Int32)), (.int z1)] ∧ Z.Warmed39 U.vm ∧ U.heap = h0) (fun _ _ _ _ _ => True) (fun _ U o U' => ∃ v L, o = .returned v ∧ (v = some (.int (-1 : Int32)) ∧ Fr n0 L ∧ U'.heap = h0) ∧ FrameEnd U o U' L ({ frames := 0, cells := 0, slots := 0, locals := 0 } : Room).cells ({ frames := 0, cells := 0, slots := 0, locals := 0 } : Room).slots)) :
    MetFree l own_m19 (head1 (Jvm.Cond.code own_m19 prog_74_method_4_code 2 (some .boolean) :: ws) ({ frames := 3, cells := 0, slots := 0, locals := 46 } : Room)) (fun a U => a = #[(.ref a0), (.ref a1)] ∧ Z.Warmed39 U.vm ∧ U.heap = h0) (fun _ _ _ _ _ => True) (fun _ U o U' => ∃ v L, o = .returned v ∧ Qla Z a0 a1 t0 pp b0 b1 k0 k1 w z0 z1 vs0 vs1 h0 n0 v U'.heap L ∧ FrameEnd U o U' L ({ frames := 3, cells := 0, slots := 0, locals := 46 } : Room).cells ({ frames := 3, cells := 0, slots := 0, locals := 46 } : Room).slots) := by
  refine MetFree.of_bodySF (plainFor_of_name pn_18) hisR ?_
  intro p e s m args below meth c s₁ Bd hml0 hP hK
  obtain ⟨rfl, hZ, hh⟩ := hP
  have hx := Bd.exec
  have hby := Bd.bytes
  have hml : c.maxLocals = 2 := hml0
  have hown : s.vm.findClass "com/example/cutoff/cutoff/store/TextCursor" = some m.cls := findClass_of_methodNamed Bd.named
  have X0 : Stand p l e ({ frames := 3, cells := 0, slots := 0, locals := 46 } : Room) s m #[(.ref a0), (.ref a1)] below meth c s₁ [] 0 0 := Stand.of_body Bd
  have e0 : s₁.heap = h0 := by rw [← hh, Bd.state]; rfl
  have N0 := Fr.nil n0
  have K0 : Keep h0 h0 [] := Keep.refl h0 []
  refine og (B := s₁.setTop (mkF m 0 #[rv a0, rv a1] [])) (fun t k => castTop (ef_la m a0 a1) k) ?_
  refine og (B := s₁.setTop (mkF m 1 #[rv a0, rv a1] [(.ref a0)])) (fun t k => ?_) ?_
  · refine XS.aloadN X0.here hx rfl (hb hby d18_0) rfl rfl ?_
    exact k
  obtain ⟨T_1, X_1, e_1, st_1⟩ := getF X0 hx hZ hown (host := "") (Or.inl (ow hw 40 rfl)) Via.refl e0 F_text_a0 (g := (mkF m 1 #[rv a0, rv a1] [(.ref a0)])) rfl rfl (hb hby d18_1)
  refine og (fun t k => st_1 t k) ?_
  refine og (B := T_1.setTop (mkF m 6 #[rv a0, rv a1] [(.ref a0), (.ref a1), (.ref t0)])) (fun t k => ?_) ?_
  · refine XS.aloadN X_1.here hx rfl (hb hby d18_4) rfl rfl ?_
    refine XS.aloadN X_1.here hx rfl (hb hby d18_5) rfl rfl ?_
    exact k
  obtain ⟨T_2, X_2, e_2, st_2⟩ := getF X_1 hx hZ hown (host := "") (Or.inl (ow hw 92 rfl)) Via.refl e_1 F_position_a0 (g := (mkF m 6 #[rv a0, rv a1] [(.ref a0), (.ref a1), (.ref t0)])) rfl rfl (hb hby d18_6)
  refine og (fun t k => st_2 t k) ?_
  obtain ⟨cq_3, kq_3, q_3a, q_3b, q_3c⟩ := isOf hZ e_2 E_t0
  obtain ⟨_, _, ⟨T_3, L_3, k_3, n_3⟩, -, X_3, ⟨Lc_3, hQ_3, l_3, y_3, z_3⟩, st_3⟩ := X_2.virtualBack hx (y := own_m20) (z := own_m20) hown (mvT hZ (ow hw 105 rfl)) (mvT hZ (ow hw 106 rfl)) (notFace_of_selects (args := #[]) (mvT hZ (ow hw 108 rfl))) (mvT hZ (ow hw 108 rfl)) (mvT hZ (ow hw 107 rfl)) (by decide) (backOf (W := 0) (rmsw l Z av0 hw [] t0 a1 pp b0 b1 k0 k1 w z0 z1 vs0 vs1 h0 n0 Z0 E_t0 F_coder_t0 F_value_t0 E_a1 F_coder_a1 F_value_a1 S_COMPACT_STRINGS hw0 V0 V1 hof hle hM) hZ (ow hw 109 rfl) (ow hw 7 rfl) (by decide) (by decide)) q_3a q_3c (g := (mkF m 9 #[rv a0, rv a1] [(.int pp), (.ref a1), (.ref t0)])) rfl (by rw [hml]; rfl) (Steps.refl _) (argsL := [(.ref a1), (.int pp)]) (rest := []) (lenOf pd_14 rfl) rfl (by show 2 * 0 + _ ≤ _; exact Nat.le_of_eq rfl) (hb hby d18_9) (fun _ _ => ⟨rfl, e_2, (by decide : 0 + 0 ≤ _), (by decide : 0 + 0 ≤ _)⟩)
  dsimp only [Pt.U, Pt.locs, Pt.cells, Pt.slots] at X_3 l_3 y_3 z_3 st_3 hQ_3
  subst l_3 y_3 z_3
  obtain ⟨rfl, N_3q, e_3⟩ := hQ_3
  have N_3 := Fr.app N0 N_3q
  refine og (fun t k => st_3.trans k) ?_
  obtain ⟨fs, hr, hrun, hended, hW, hsame⟩ := X_3.leave (v := some (.int 1)) (fun h => by rw [Bd.returns] at h; cases h)
  refine ⟨_, _, ?_, hrun, hended, _, _, rfl, ?_, ⟨_, rfl⟩, hW, hsame.mono (by decide) (by decide)⟩
  · show Steps p.tables e below (T_3.setTop (mkF m 12 #[rv a0, rv a1] [(.int 1)])) _
    exact retN X_3 hx (t := .boolean) Bd.returns (by simp) (hb hby d18_12) hr
  · show Qla Z a0 a1 t0 pp b0 b1 k0 k1 w z0 z1 vs0 vs1 h0 n0 _ T_3.heap _
    rw [e_3]
    exact ⟨rfl, N_3, rfl⟩
theorem d17_0 : decode prog_74_method_5_code 0 = .ok (.aload_n 0, 1) := by decide +kernel
theorem d17_1 : decode prog_74_method_5_code 1 = .ok (.aload_n 1, 1) := by decide +kernel
theorem d17_2 : decode prog_74_method_5_code 2 = .ok (.invokevirtual 44, 3) := by decide +kernel
theorem d17_5 : decode prog_74_method_5_code 5 = .ok (.istore_n 2, 1) := by decide +kernel
theorem d17_6 : decode prog_74_method_5_code 6 = .ok (.iload_n 2, 1) := by decide +kernel
theorem d17_7 : decode prog_74_method_5_code 7 = .ok (.ifCond .eq 16, 3) := by decide +kernel
theorem d17_10 : decode prog_74_method_5_code 10 = .ok (.aload_n 0, 1) := by decide +kernel
theorem d17_11 : decode prog_74_method_5_code 11 = .ok (.dup, 1) := by decide +kernel
theorem d17_12 : decode prog_74_method_5_code 12 = .ok (.getfield 33, 3) := by decide +kernel
theorem d17_15 : decode prog_74_method_5_code 15 = .ok (.aload_n 1, 1) := by decide +kernel
theorem d17_16 : decode prog_74_method_5_code 16 = .ok (.invokevirtual 36, 3) := by decide +kernel
theorem d17_19 : decode prog_74_method_5_code 19 = .ok (.iadd, 1) := by decide +kernel
theorem d17_20 : decode prog_74_method_5_code 20 = .ok (.putfield 33, 3) := by decide +kernel
theorem d17_23 : decode prog_74_method_5_code 23 = .ok (.iload_n 2, 1) := by decide +kernel
theorem d17_24 : decode prog_74_method_5_code 24 = .ok (.ireturn, 1) := by decide +kernel
theorem pn_17 : plainName "com/example/cutoff/cutoff/store/TextCursor" = true := by first | (simp [plainName, overriddenIn]; done) | decide +kernel
theorem ef_co (m : MethodId) (a0 : Addr) (a1 : Addr) : entryFrame m #[(.ref a0), (.ref a1)] 3 = mkF m 0 #[rv a0, rv a1, oU] [] := by first | (simp [entryFrame, mkF, argsToLocals, Value.category]; done) | rfl
theorem pd_15 : parseMethodDescriptor "(Ljava/lang/String;)Z" = some ⟨[(.object "java/lang/String")], some .boolean⟩ := by decide +kernel
def Qco (Z : State) (a0 : Addr) (a1 : Addr) (t0 : Addr) (pp : Int32) (b0 : Addr) (b1 : Addr) (k0 : ClassId) (k1 : ClassId) (w : Int32) (z0 : Int32) (z1 : Int32) (vs0 : List Value) (vs1 : List Value) (h0 : Heap) (n0 : Nat) (v : Option Value) (h : Heap) (L : List Loc) : Prop := v = some (.int 1) ∧ Fr n0 L ∧ Keep h0 h [a0] ∧ Fld Z h a0 "com/example/cutoff/cutoff/store/TextCursor" "position" "I" (.int (pp + z1)) ∧ Fld Z h a0 "com/example/cutoff/cutoff/store/TextCursor" "text" "Ljava/lang/String;" (.ref t0)
theorem rmco (l : Launch) (Z : State) (av0 : Array Value) (hw : ∀ d ∈ tables_1, d.before av0 Z = true) (ws : List Jvm.Cond) (a0 : Addr) (a1 : Addr) (t0 : Addr) (pp : Int32) (b0 : Addr) (b1 : Addr) (k0 : ClassId) (k1 : ClassId) (w : Int32) (z0 : Int32) (z1 : Int32) (vs0 : List Value) (vs1 : List Value) (h0 : Heap) (n0 : Nat) (Z0 : n0 ≤ h0.size) (E_a0 : Exa Z h0 a0 "com/example/cutoff/cutoff/store/TextCursor") (F_text_a0 : Fld Z h0 a0 "com/example/cutoff/cutoff/store/TextCursor" "text" "Ljava/lang/String;" (.ref t0)) (F_position_a0 : Fld Z h0 a0 "com/example/cutoff/cutoff/store/TextCursor" "position" "I" (.int pp)) (g_a0 : n0 ≤ a0) (E_t0 : Exa Z h0 t0 "java/lang/String") (F_coder_t0 : Fld Z h0 t0 "java/lang/String" "coder" "B" (.int 0)) (F_value_t0 : Fld Z h0 t0 "java/lang/String" "value" "[B" (.ref b0)) (E_a1 : Exa Z h0 a1 "java/lang/String") (F_coder_a1 : Fld Z h0 a1 "java/lang/String" "coder" "B" (.int 0)) (F_value_a1 : Fld Z h0 a1 "java/lang/String" "value" "[B" (.ref b1)) (S_COMPACT_STRINGS : Sta Z h0 "java/lang/String" "COMPACT_STRINGS" "Z" (.int w)) (hw0 : ¬ (w = (0 : Int32))) (V0 : Arv Z h0 b0 k0 .byte z0 vs0 (.int 0)) (V1 : Arv Z h0 b1 k1 .byte z1 vs1 (.int 0)) (ne1 : a1 ≠ a0) (ne2 : b1 ≠ a0) (hof : ¬ (pp < (0 : Int32))) (hle : ¬ ((z0 - z1) < pp)) (hM : MetFree l own_m21 (head1 [Jvm.Cond.code own_m21 jdk_48_method_14_code 8 (some .int)] ({ frames := 0, cells := 0, slots := 0, locals := 0 } : Room)) (fun a U => a = #[(.ref b0), (.int pp), (.ref b1), (.int (0 : Int32)), (.int z1)] ∧ Z.Warmed39 U.vm ∧ U.heap = h0) (fun _ _ _ _ _ => True) (fun _ U o U' => ∃ v L, o = .returned v ∧ (v = some (.int (-1 : Int32)) ∧ Fr n0 L ∧ U'.heap = h0) ∧ FrameEnd U o U' L ({ frames := 0, cells := 0, slots := 0, locals := 0 } : Room).cells ({ frames := 0, cells := 0, slots := 0, locals := 0 } : Room).slots)) :
    MetFree l own_m18 (head1 (Jvm.Cond.code own_m18 prog_74_method_5_code 3 (some .boolean) :: ws) ({ frames := 4, cells := 0, slots := 0, locals := 59 } : Room)) (fun a U => a = #[(.ref a0), (.ref a1)] ∧ Z.Warmed39 U.vm ∧ U.heap = h0) (fun _ _ _ _ _ => True) (fun _ U o U' => ∃ v L, o = .returned v ∧ Qco Z a0 a1 t0 pp b0 b1 k0 k1 w z0 z1 vs0 vs1 h0 n0 v U'.heap L ∧ FrameEnd U o U' L ({ frames := 4, cells := 0, slots := 0, locals := 59 } : Room).cells ({ frames := 4, cells := 0, slots := 0, locals := 59 } : Room).slots) := by
  refine MetFree.of_bodySF (plainFor_of_name pn_17) hisR ?_
  intro p e s m args below meth c s₁ Bd hml0 hP hK
  obtain ⟨rfl, hZ, hh⟩ := hP
  have hx := Bd.exec
  have hby := Bd.bytes
  have hml : c.maxLocals = 3 := hml0
  have hown : s.vm.findClass "com/example/cutoff/cutoff/store/TextCursor" = some m.cls := findClass_of_methodNamed Bd.named
  have X0 : Stand p l e ({ frames := 4, cells := 0, slots := 0, locals := 59 } : Room) s m #[(.ref a0), (.ref a1)] below meth c s₁ [] 0 0 := Stand.of_body Bd
  have e0 : s₁.heap = h0 := by rw [← hh, Bd.state]; rfl
  have N0 := Fr.nil n0
  have K0 : Keep h0 h0 [a0] := Keep.refl h0 [a0]
  refine og (B := s₁.setTop (mkF m 0 #[rv a0, rv a1, oU] [])) (fun t k => castTop (ef_co m a0 a1) k) ?_
  refine og (B := s₁.setTop (mkF m 2 #[rv a0, rv a1, oU] [(.ref a1), (.ref a0)])) (fun t k => ?_) ?_
  · refine XS.aloadN X0.here hx rfl (hb hby d17_0) rfl rfl ?_
    refine XS.aloadN X0.here hx rfl (hb hby d17_1) rfl rfl ?_
    exact k
  obtain ⟨cq_1, kq_1, q_1a, q_1b, q_1c⟩ := isOf hZ e0 E_a0
  obtain ⟨_, _, ⟨T_1, L_1, k_1, n_1⟩, -, X_1, ⟨Lc_1, hQ_1, l_1, y_1, z_1⟩, st_1⟩ := X0.virtualBack hx (y := own_m19) (z := own_m19) hown (mvT hZ (ow hw 100 rfl)) (mvT hZ (ow hw 101 rfl)) (notFace_of_selects (args := #[]) (mvT hZ (ow hw 103 rfl))) (mvT hZ (ow hw 103 rfl)) (mvT hZ (ow hw 102 rfl)) (by decide) (backOf (W := 0) (rmla l Z av0 hw [] a0 a1 t0 pp b0 b1 k0 k1 w z0 z1 vs0 vs1 h0 n0 Z0 E_a0 F_text_a0 F_position_a0 g_a0 E_t0 F_coder_t0 F_value_t0 E_a1 F_coder_a1 F_value_a1 S_COMPACT_STRINGS hw0 V0 V1 ne1 ne2 hof hle hM) hZ (ow hw 104 rfl) (ow hw 32 rfl) (by decide) (by decide)) q_1a q_1c (g := (mkF m 2 #[rv a0, rv a1, oU] [(.ref a1), (.ref a0)])) rfl (by rw [hml]; rfl) (Steps.refl _) (argsL := [(.ref a1)]) (rest := []) (lenOf pd_15 rfl) rfl (by show 2 * 0 + _ ≤ _; exact Nat.le_of_eq rfl) (hb hby d17_2) (fun _ _ => ⟨rfl, e0, (by decide : 0 + 0 ≤ _), (by decide : 0 + 0 ≤ _)⟩)
  dsimp only [Pt.U, Pt.locs, Pt.cells, Pt.slots] at X_1 l_1 y_1 z_1 st_1 hQ_1
  subst l_1 y_1 z_1
  obtain ⟨rfl, N_1q, e_1⟩ := hQ_1
  have N_1 := Fr.app N0 N_1q
  refine og (fun t k => st_1.trans k) ?_
  refine og (B := T_1.setTop (mkF m 7 #[rv a0, rv a1, iv 1] [(.int 1)])) (fun t k => ?_) ?_
  · refine XS.istoreN X_1.here hx rfl (hb hby d17_5) rfl (l' := #[rv a0, rv a1, iv 1]) rfl ?_
    refine XS.iloadN X_1.here hx rfl (hb hby d17_6) rfl ?_
    exact k
  refine og (B := T_1.setTop (mkF m 10 #[rv a0, rv a1, iv 1] [])) (fun t k => ?_) ?_
  · refine XS.ifNo X_1.here hx rfl (hb hby d17_7) rfl ((if0 _ _).trans (feq (by decide : ¬ ((1 : Int32) = (0 : Int32)))).1) ?_
    exact k
  refine og (B := T_1.setTop (mkF m 12 #[rv a0, rv a1, iv 1] [(.ref a0), (.ref a0)])) (fun t k => ?_) ?_
  · refine XS.aloadN X_1.here hx rfl (hb hby d17_10) rfl rfl ?_
    refine XS.dup X_1.here hx rfl (hb hby d17_11) rfl rfl ?_
    exact k
  obtain ⟨T_2, X_2, e_2, st_2⟩ := getF X_1 hx hZ hown (host := "") (Or.inl (ow hw 92 rfl)) Via.refl e_1 F_position_a0 (g := (mkF m 12 #[rv a0, rv a1, iv 1] [(.ref a0), (.ref a0)])) rfl rfl (hb hby d17_12)
  refine og (fun t k => st_2 t k) ?_
  refine og (B := T_2.setTop (mkF m 16 #[rv a0, rv a1, iv 1] [(.ref a1), (.int pp), (.ref a0)])) (fun t k => ?_) ?_
  · refine XS.aloadN X_2.here hx rfl (hb hby d17_15) rfl rfl ?_
    exact k
  obtain ⟨cq_3, kq_3, q_3a, q_3b, q_3c⟩ := isOf hZ e_2 E_a1
  obtain ⟨_, _, ⟨T_3, L_3, k_3, n_3⟩, -, X_3, ⟨Lc_3, hQ_3, l_3, y_3, z_3⟩, st_3⟩ := X_2.virtualBack hx (y := own_m11) (z := own_m11) hown (mvT hZ (ow hw 94 rfl)) (mvT hZ (ow hw 61 rfl)) (notFace_of_selects (args := #[]) (mvT hZ (ow hw 63 rfl))) (mvT hZ (ow hw 63 rfl)) (mvT hZ (ow hw 62 rfl)) (by decide) (backOf (W := 2) (rm10 l Z av0 hw [] a1 b1 k1 w z1 vs1 h0 n0 Z0 E_a1 F_coder_a1 F_value_a1 S_COMPACT_STRINGS hw0 V1) hZ (ow hw 64 rfl) (ow hw 7 rfl) (by decide) (by decide)) q_3a q_3c (g := (mkF m 16 #[rv a0, rv a1, iv 1] [(.ref a1), (.int pp), (.ref a0)])) rfl (by rw [hml]; rfl) (Steps.refl _) (argsL := []) (rest := [(.int pp), (.ref a0)]) (lenOf pd_4 rfl) rfl (by show 2 * 0 + _ ≤ _; exact Nat.le_of_eq rfl) (hb hby d17_16) (fun _ _ => ⟨rfl, e_2, (by decide : 0 + 0 ≤ _), (by decide : 0 + 0 ≤ _)⟩)
  dsimp only [Pt.U, Pt.locs, Pt.cells, Pt.slots] at X_3 l_3 y_3 z_3 st_3 hQ_3
  subst l_3 y_3 z_3
  obtain ⟨rfl, N_3q, e_3⟩ := hQ_3
  have N_3 := Fr.app N_1 N_3q
  refine og (fun t k => st_3.trans k) ?_
  refine og (B := T_3.setTop (mkF m 20 #[rv a0, rv a1, iv 1] [(.int (pp + z1)), (.ref a0)])) (fun t k => ?_) ?_
  · refine XS.iadd X_3.here hx rfl (hb hby d17_19) rfl ?_
    exact k
  obtain ⟨T_4, h_4, X_4, e_4, W_4, st_4⟩ := putF X_3 hx hZ hown (host := "") (Or.inl (ow hw 92 rfl)) Via.refl e_3 F_position_a0 E_a0 (Or.inl (ow hw 93 rfl)) (ow hw 31 rfl) (ty := .int) (by decide) rfl rfl (g := (mkF m 20 #[rv a0, rv a1, iv 1] [(.int (pp + z1)), (.ref a0)])) rfl rfl (hb hby d17_20)
  have c1 := K0.wr W_4 (Or.inl (List.mem_of_getElem? (i := 0) rfl))
  have c2 := E_a0.wr W_4
  have c3 := F_text_a0.other W_4 (Or.inr (slot_ne (Or.inr (ow hw 41 rfl)) (Or.inl (ow hw 93 rfl)) (by decide) (t := (.object "java/lang/String")) (t' := .int) (by decide) (by decide)))
  have c4 := F_position_a0.same W_4
  have c5 := E_t0.wr W_4
  have c6 := E_a1.wr W_4
  have c7 := F_coder_a1.other W_4 (Or.inl ne1)
  have c8 := F_value_a1.other W_4 (Or.inl ne1)
  have c9 := S_COMPACT_STRINGS.wr W_4
  have c10 := V1.other W_4 ne2
  have N_4 := Fr.snoc X_4 N_3 g_a0
  have Z0__4 : n0 ≤ h_4.size := by rw [W_4.size]; exact Z0
  refine og (fun t k => st_4 t k) ?_
  refine og (B := T_4.setTop (mkF m 24 #[rv a0, rv a1, iv 1] [(.int 1)])) (fun t k => ?_) ?_
  · refine XS.iloadN X_4.here hx rfl (hb hby d17_23) rfl ?_
    exact k
  obtain ⟨fs, hr, hrun, hended, hW, hsame⟩ := X_4.leave (v := some (.int 1)) (fun h => by rw [Bd.returns] at h; cases h)
  refine ⟨_, _, ?_, hrun, hended, _, _, rfl, ?_, ⟨_, rfl⟩, hW, hsame.mono (by decide) (by decide)⟩
  · show Steps p.tables e below (T_4.setTop (mkF m 24 #[rv a0, rv a1, iv 1] [(.int 1)])) _
    exact retN X_4 hx (t := .boolean) Bd.returns (by simp) (hb hby d17_24) hr
  · show Qco Z a0 a1 t0 pp b0 b1 k0 k1 w z0 z1 vs0 vs1 h0 n0 _ T_4.heap _
    rw [e_4]
    exact ⟨rfl, N_4, c1, c4, c3⟩
theorem own_remv (x y : Int32) (d : Int) (hy : y.toInt = d) (hd : 0 < d) (hx : 0 ≤ x.toInt) : (x - (x / y) * y).toInt = x.toInt % d := by
  have hn : y ≠ -1 := fun q => by rw [q] at hy; have : (-1 : Int32).toInt = -1 := rfl; omega
  have h1 := (c_idiv x y d hy hn).1 hx
  have h2 : 0 ≤ x.toInt / d := Int.ediv_nonneg hx (by omega)
  have h3 := Int.mul_ediv_add_emod x.toInt d
  have h4 := Int.emod_nonneg x.toInt (by omega : d ≠ 0)
  have h5 := Int.emod_lt_of_pos x.toInt (by omega : 0 < d)
  have h6 := x.toInt_lt
  have h7 : (x / y).toInt * y.toInt = d * (x.toInt / d) := by rw [h1, hy, Int.mul_comm]
  have h8 : 0 ≤ d * (x.toInt / d) := Int.mul_nonneg (by omega) h2
  have h9 : ((x / y) * y).toInt = d * (x.toInt / d) := by rw [Jvm.Kit.i32_mul (by rw [h7]; omega) (by rw [h7]; omega), h7]
  rw [Jvm.Kit.i32_sub (by omega) (by omega), h9]; omega
theorem own_and3 (x : Int32) : x &&& 3 = 0 ∨ x &&& 3 = 1 ∨ x &&& 3 = 2 ∨ x &&& 3 = 3 := by
  have h := Jvm.Kit.i32_mask x 3 (k := 2) (by decide) (by decide)
  have e : ∀ k : Int32, (x &&& 3).toInt = k.toInt → x &&& 3 = k := fun k q => Int32.toInt_inj.mp q
  have : (x &&& 3).toInt = 0 ∨ (x &&& 3).toInt = 1 ∨ (x &&& 3).toInt = 2 ∨ (x &&& 3).toInt = 3 := by omega
  rcases this with q | q | q | q
  · exact Or.inl (e 0 q)
  · exact Or.inr (Or.inl (e 1 q))
  · exact Or.inr (Or.inr (Or.inl (e 2 q)))
  · exact Or.inr (Or.inr (Or.inr (e 3 q)))
theorem own_nz (p0 : Int32) : ((p0 &&& (3 : Int32)) + (1 : Int32)) ≠ (0 : Int32) := by
  rcases own_and3 p0 with h | h | h | h <;> rw [h] <;> decide
theorem own_nk (p0 p1 : Int32) : (((p1 &&& (2147483647 : Int32)) - ((p1 &&& (2147483647 : Int32)) / ((p0 &&& (3 : Int32)) + (1 : Int32))) * ((p0 &&& (3 : Int32)) + (1 : Int32))) = (0 : Int32) ∧ (p0 &&& (3 : Int32)) = (0 : Int32)) ∨ (((p1 &&& (2147483647 : Int32)) - ((p1 &&& (2147483647 : Int32)) / ((p0 &&& (3 : Int32)) + (1 : Int32))) * ((p0 &&& (3 : Int32)) + (1 : Int32))) = (0 : Int32) ∧ (p0 &&& (3 : Int32)) = (1 : Int32)) ∨ (((p1 &&& (2147483647 : Int32)) - ((p1 &&& (2147483647 : Int32)) / ((p0 &&& (3 : Int32)) + (1 : Int32))) * ((p0 &&& (3 : Int32)) + (1 : Int32))) = (1 : Int32) ∧ (p0 &&& (3 : Int32)) = (1 : Int32)) ∨ (((p1 &&& (2147483647 : Int32)) - ((p1 &&& (2147483647 : Int32)) / ((p0 &&& (3 : Int32)) + (1 : Int32))) * ((p0 &&& (3 : Int32)) + (1 : Int32))) = (0 : Int32) ∧ (p0 &&& (3 : Int32)) = (2 : Int32)) ∨ (((p1 &&& (2147483647 : Int32)) - ((p1 &&& (2147483647 : Int32)) / ((p0 &&& (3 : Int32)) + (1 : Int32))) * ((p0 &&& (3 : Int32)) + (1 : Int32))) = (1 : Int32) ∧ (p0 &&& (3 : Int32)) = (2 : Int32)) ∨ (((p1 &&& (2147483647 : Int32)) - ((p1 &&& (2147483647 : Int32)) / ((p0 &&& (3 : Int32)) + (1 : Int32))) * ((p0 &&& (3 : Int32)) + (1 : Int32))) = (2 : Int32) ∧ (p0 &&& (3 : Int32)) = (2 : Int32)) ∨ (((p1 &&& (2147483647 : Int32)) - ((p1 &&& (2147483647 : Int32)) / ((p0 &&& (3 : Int32)) + (1 : Int32))) * ((p0 &&& (3 : Int32)) + (1 : Int32))) = (0 : Int32) ∧ (p0 &&& (3 : Int32)) = (3 : Int32)) ∨ (((p1 &&& (2147483647 : Int32)) - ((p1 &&& (2147483647 : Int32)) / ((p0 &&& (3 : Int32)) + (1 : Int32))) * ((p0 &&& (3 : Int32)) + (1 : Int32))) = (1 : Int32) ∧ (p0 &&& (3 : Int32)) = (3 : Int32)) ∨ (((p1 &&& (2147483647 : Int32)) - ((p1 &&& (2147483647 : Int32)) / ((p0 &&& (3 : Int32)) + (1 : Int32))) * ((p0 &&& (3 : Int32)) + (1 : Int32))) = (2 : Int32) ∧ (p0 &&& (3 : Int32)) = (3 : Int32)) ∨ (((p1 &&& (2147483647 : Int32)) - ((p1 &&& (2147483647 : Int32)) / ((p0 &&& (3 : Int32)) + (1 : Int32))) * ((p0 &&& (3 : Int32)) + (1 : Int32))) = (3 : Int32) ∧ (p0 &&& (3 : Int32)) = (3 : Int32)) := by
  have hm : 0 ≤ (p1 &&& (2147483647 : Int32)).toInt := by
    have := Jvm.Kit.i32_mask p1 2147483647 (k := 31) (by decide) (by decide); omega
  have e : ∀ x k : Int32, x.toInt = k.toInt → x = k := fun x k q => Int32.toInt_inj.mp q
  rcases own_and3 p0 with h | h | h | h <;> rw [h]
  · have r := own_remv (p1 &&& (2147483647 : Int32)) ((0 : Int32) + (1 : Int32)) 1 rfl (by decide) hm
    have c : ((p1 &&& (2147483647 : Int32)) - ((p1 &&& (2147483647 : Int32)) / ((0 : Int32) + (1 : Int32))) * ((0 : Int32) + (1 : Int32))).toInt = 0 := by omega
    have q := c
    · exact (Or.inl ⟨e _ 0 q, rfl⟩)
  · have r := own_remv (p1 &&& (2147483647 : Int32)) ((1 : Int32) + (1 : Int32)) 2 rfl (by decide) hm
    have c : ((p1 &&& (2147483647 : Int32)) - ((p1 &&& (2147483647 : Int32)) / ((1 : Int32) + (1 : Int32))) * ((1 : Int32) + (1 : Int32))).toInt = 0 ∨ ((p1 &&& (2147483647 : Int32)) - ((p1 &&& (2147483647 : Int32)) / ((1 : Int32) + (1 : Int32))) * ((1 : Int32) + (1 : Int32))).toInt = 1 := by omega
    rcases c with q | q
    · exact (Or.inr (Or.inl ⟨e _ 0 q, rfl⟩))
    · exact (Or.inr (Or.inr (Or.inl ⟨e _ 1 q, rfl⟩)))
  · have r := own_remv (p1 &&& (2147483647 : Int32)) ((2 : Int32) + (1 : Int32)) 3 rfl (by decide) hm
    have c : ((p1 &&& (2147483647 : Int32)) - ((p1 &&& (2147483647 : Int32)) / ((2 : Int32) + (1 : Int32))) * ((2 : Int32) + (1 : Int32))).toInt = 0 ∨ ((p1 &&& (2147483647 : Int32)) - ((p1 &&& (2147483647 : Int32)) / ((2 : Int32) + (1 : Int32))) * ((2 : Int32) + (1 : Int32))).toInt = 1 ∨ ((p1 &&& (2147483647 : Int32)) - ((p1 &&& (2147483647 : Int32)) / ((2 : Int32) + (1 : Int32))) * ((2 : Int32) + (1 : Int32))).toInt = 2 := by omega
    rcases c with q | q | q
    · exact (Or.inr (Or.inr (Or.inr (Or.inl ⟨e _ 0 q, rfl⟩))))
    · exact (Or.inr (Or.inr (Or.inr (Or.inr (Or.inl ⟨e _ 1 q, rfl⟩)))))
    · exact (Or.inr (Or.inr (Or.inr (Or.inr (Or.inr (Or.inl ⟨e _ 2 q, rfl⟩))))))
  · have r := own_remv (p1 &&& (2147483647 : Int32)) ((3 : Int32) + (1 : Int32)) 4 rfl (by decide) hm
    have c : ((p1 &&& (2147483647 : Int32)) - ((p1 &&& (2147483647 : Int32)) / ((3 : Int32) + (1 : Int32))) * ((3 : Int32) + (1 : Int32))).toInt = 0 ∨ ((p1 &&& (2147483647 : Int32)) - ((p1 &&& (2147483647 : Int32)) / ((3 : Int32) + (1 : Int32))) * ((3 : Int32) + (1 : Int32))).toInt = 1 ∨ ((p1 &&& (2147483647 : Int32)) - ((p1 &&& (2147483647 : Int32)) / ((3 : Int32) + (1 : Int32))) * ((3 : Int32) + (1 : Int32))).toInt = 2 ∨ ((p1 &&& (2147483647 : Int32)) - ((p1 &&& (2147483647 : Int32)) / ((3 : Int32) + (1 : Int32))) * ((3 : Int32) + (1 : Int32))).toInt = 3 := by omega
    rcases c with q | q | q | q
    · exact (Or.inr (Or.inr (Or.inr (Or.inr (Or.inr (Or.inr (Or.inl ⟨e _ 0 q, rfl⟩)))))))
    · exact (Or.inr (Or.inr (Or.inr (Or.inr (Or.inr (Or.inr (Or.inr (Or.inl ⟨e _ 1 q, rfl⟩))))))))
    · exact (Or.inr (Or.inr (Or.inr (Or.inr (Or.inr (Or.inr (Or.inr (Or.inr (Or.inl ⟨e _ 2 q, rfl⟩)))))))))
    · exact (Or.inr (Or.inr (Or.inr (Or.inr (Or.inr (Or.inr (Or.inr (Or.inr (Or.inr ⟨e _ 3 q, rfl⟩)))))))))
theorem own_chr (y x : Int32) (h : x = ((y &&& (255 : Int32)).toUInt32.toUInt16.toUInt32.toInt32)) : ¬ ((255 : Int32) < nar .char x) := by
  have h1 := Jvm.Kit.i32_mask y 255 (k := 8) (by decide) (by decide)
  have h2 := c_i2c (y &&& 255)
  have h3 := c_i2c x
  have e : nar .char x = x.toUInt32.toUInt16.toUInt32.toInt32 := rfl
  rw [← h] at h2
  rw [e, Int32.lt_iff_toInt_lt]
  have : (255 : Int32).toInt = 255 := rfl
  omega
theorem pn_0 : plainName "com/example/cutoff/cutoff/store/TextCursorAtEndPinLaw" = true := by first | (simp [plainName, overriddenIn]; done) | decide +kernel
theorem ef_0 (m : MethodId) (p0 : Int32) (p1 : Int32) (p2 : Int32) (p3 : Int32) (p4 : Int32) : entryFrame m #[(.int p0), (.int p1), (.int p2), (.int p3), (.int p4)] maxLocals = mkF m 0 #[iv p0, iv p1, iv p2, iv p3, iv p4, oU, oU, oU, oU, oU, oU, oU, oU, oU, oU, oU, oU, oU, oU, oU, oU] [] := by first | (simp [entryFrame, mkF, argsToLocals, Value.category, maxLocals]; done) | rfl
theorem pd_16 : parseMethodDescriptor "(CCCII)Ljava/lang/String;" = some ⟨[.char, .char, .char, .int, .int], some (.object "java/lang/String")⟩ := by decide +kernel
theorem pd_17 : parseMethodDescriptor "(Ljava/lang/String;Ljava/lang/String;I)V" = some ⟨[(.object "java/lang/String"), (.object "java/lang/String"), .int], none⟩ := by decide +kernel
def Q0 (Z : State) (p0 : Int32) (p1 : Int32) (p2 : Int32) (p3 : Int32) (p4 : Int32) (w : Int32) (h0 : Heap) (n0 : Nat) (v : Option Value) (h : Heap) (L : List Loc) : Prop := v = some (.int 1) ∧ Fr n0 L ∧ True
theorem rm0 (l : Launch) (Z : State) (av0 : Array Value) (hw : ∀ d ∈ tables_1, d.before av0 Z = true) (ws : List Jvm.Cond) (p0 : Int32) (p1 : Int32) (p2 : Int32) (p3 : Int32) (p4 : Int32) (w : Int32) (h0 : Heap) (n0 : Nat) (Z0 : n0 ≤ h0.size) (S_COMPACT_STRINGS : Sta Z h0 "java/lang/String" "COMPACT_STRINGS" "Z" (.int w)) (hw0 : ¬ (w = (0 : Int32))) (hEL : EW Z av0 own_EL) (HH : CHv Z own_EL Z.vm Z.heap) (hh0 : Z.heap = h0) (hn0 : n0 = h0.size) :
    MetFree l x (head1 (Jvm.Cond.code x code maxLocals ret :: ws) room_1) (fun a U => a = #[(.int p0), (.int p1), (.int p2), (.int p3), (.int p4)] ∧ U = Z) (fun _ _ _ _ _ => True) (fun _ U o U' => ∃ v L, o = .returned v ∧ Q0 Z p0 p1 p2 p3 p4 w h0 n0 v U'.heap L ∧ ReturnedEndW U o U' L room_1.cells room_1.slots) := by
  refine MetFree.of_bodySF (plainFor_of_name pn_0) hisR ?_
  intro p e s m args below meth c s₁ Bd hml0 hP hK
  obtain ⟨rfl, hUZ⟩ := hP
  have hZ : Z.Warmed39 s.vm := by rw [hUZ]; exact State.Warmed39.refl Z
  have hh : s.heap = h0 := by rw [hUZ]; exact hh0
  have hns : n0 = s.heap.size := by rw [hn0, hh]
  have hkeep : ∀ (b : Addr) (cl : Cell), Z.heap[b]? = some cl → s.heap[b]? = some cl := by rw [hUZ]; exact fun _ _ q => q
  have I0 : IB Z s.vm [] := by rw [hUZ]; exact IB.start
  have hx := Bd.exec
  have hby := Bd.bytes
  have hml : c.maxLocals = 21 := hml0
  have hown : s.vm.findClass "com/example/cutoff/cutoff/store/TextCursorAtEndPinLaw" = some m.cls := findClass_of_methodNamed Bd.named
  have X0 : Stand p l e room_1 s m #[(.int p0), (.int p1), (.int p2), (.int p3), (.int p4)] below meth c s₁ [] 0 0 := Stand.of_body Bd
  have e0 : s₁.heap = h0 := by rw [← hh, Bd.state]; rfl
  have H0 : CHv Z own_EL s.vm h0 := by rw [hUZ, ← hh0]; exact HH
  have N0 := Fr.nil n0
  have H1 : CHr Z own_EL s.vm h0 s.vm h0 := ⟨H0, Nat.le_refl _, fun _ q => Or.inl q⟩
  have K0 : Keep h0 h0 [] := Keep.refl h0 []
  refine og (B := s₁.setTop (mkF m 0 #[iv p0, iv p1, iv p2, iv p3, iv p4, oU, oU, oU, oU, oU, oU, oU, oU, oU, oU, oU, oU, oU, oU, oU, oU] [])) (fun t k => castTop (ef_0 m p0 p1 p2 p3 p4) k) ?_
  refine og (B := s₁.setTop (mkF m 49 #[iv p0, iv p1, iv p2, iv p3, iv p4, iv (p0 &&& (3 : Int32)), iv ((p1 &&& (2147483647 : Int32)) - ((p1 &&& (2147483647 : Int32)) / ((p0 &&& (3 : Int32)) + (1 : Int32))) * ((p0 &&& (3 : Int32)) + (1 : Int32))), iv ((p2 &&& (255 : Int32)).toUInt32.toUInt16.toUInt32.toInt32), iv ((p3 &&& (255 : Int32)).toUInt32.toUInt16.toUInt32.toInt32), iv ((p4 &&& (255 : Int32)).toUInt32.toUInt16.toUInt32.toInt32), oU, oU, oU, oU, oU, oU, oU, oU, oU, oU, oU] [(.int (p0 &&& (3 : Int32))), (.int ((p4 &&& (255 : Int32)).toUInt32.toUInt16.toUInt32.toInt32)), (.int ((p3 &&& (255 : Int32)).toUInt32.toUInt16.toUInt32.toInt32)), (.int ((p2 &&& (255 : Int32)).toUInt32.toUInt16.toUInt32.toInt32))])) (fun t k => ?_) ?_
  · refine XS.iloadN X0.here hx rfl (hb hby at_0) rfl ?_
    refine XS.iconst X0.here hx rfl (hb hby at_1) ?_
    refine XS.iand X0.here hx rfl (hb hby at_2) rfl ?_
    refine XS.istore X0.here hx rfl (hb hby at_3) rfl (l' := #[iv p0, iv p1, iv p2, iv p3, iv p4, iv (p0 &&& (3 : Int32)), oU, oU, oU, oU, oU, oU, oU, oU, oU, oU, oU, oU, oU, oU, oU]) rfl ?_
    refine XS.iloadN X0.here hx rfl (hb hby at_5) rfl ?_
    refine X0.ldcInt hx hown (mvT hZ (ow hw 0 rfl)) (g := (mkF m 6 #[iv p0, iv p1, iv p2, iv p3, iv p4, iv (p0 &&& (3 : Int32)), oU, oU, oU, oU, oU, oU, oU, oU, oU, oU, oU, oU, oU, oU, oU] [(.int p1)])) rfl (hb hby at_6) _ ?_
    refine XS.iand X0.here hx rfl (hb hby at_8) rfl ?_
    refine XS.iload X0.here hx rfl (hb hby at_9) rfl ?_
    refine XS.iconst X0.here hx rfl (hb hby at_11) ?_
    refine XS.iadd X0.here hx rfl (hb hby at_12) rfl ?_
    refine XS.irem X0.here hx rfl (hb hby at_13) rfl (own_nz p0) ?_
    refine XS.istore X0.here hx rfl (hb hby at_14) rfl (l' := #[iv p0, iv p1, iv p2, iv p3, iv p4, iv (p0 &&& (3 : Int32)), iv ((p1 &&& (2147483647 : Int32)) - ((p1 &&& (2147483647 : Int32)) / ((p0 &&& (3 : Int32)) + (1 : Int32))) * ((p0 &&& (3 : Int32)) + (1 : Int32))), oU, oU, oU, oU, oU, oU, oU, oU, oU, oU, oU, oU, oU, oU]) rfl ?_
    refine XS.iloadN X0.here hx rfl (hb hby at_16) rfl ?_
    refine XS.sipush X0.here hx rfl (hb hby at_17) ?_
    refine XS.iand X0.here hx rfl (hb hby at_20) rfl ?_
    refine XS.i2c X0.here hx rfl (hb hby at_21) rfl ?_
    refine XS.istore X0.here hx rfl (hb hby at_22) rfl (l' := #[iv p0, iv p1, iv p2, iv p3, iv p4, iv (p0 &&& (3 : Int32)), iv ((p1 &&& (2147483647 : Int32)) - ((p1 &&& (2147483647 : Int32)) / ((p0 &&& (3 : Int32)) + (1 : Int32))) * ((p0 &&& (3 : Int32)) + (1 : Int32))), iv ((p2 &&& (255 : Int32)).toUInt32.toUInt16.toUInt32.toInt32), oU, oU, oU, oU, oU, oU, oU, oU, oU, oU, oU, oU, oU]) rfl ?_
    refine XS.iloadN X0.here hx rfl (hb hby at_24) rfl ?_
    refine XS.sipush X0.here hx rfl (hb hby at_25) ?_
    refine XS.iand X0.here hx rfl (hb hby at_28) rfl ?_
    refine XS.i2c X0.here hx rfl (hb hby at_29) rfl ?_
    refine XS.istore X0.here hx rfl (hb hby at_30) rfl (l' := #[iv p0, iv p1, iv p2, iv p3, iv p4, iv (p0 &&& (3 : Int32)), iv ((p1 &&& (2147483647 : Int32)) - ((p1 &&& (2147483647 : Int32)) / ((p0 &&& (3 : Int32)) + (1 : Int32))) * ((p0 &&& (3 : Int32)) + (1 : Int32))), iv ((p2 &&& (255 : Int32)).toUInt32.toUInt16.toUInt32.toInt32), iv ((p3 &&& (255 : Int32)).toUInt32.toUInt16.toUInt32.toInt32), oU, oU, oU, oU, oU, oU, oU, oU, oU, oU, oU, oU]) rfl ?_
    refine XS.iload X0.here hx rfl (hb hby at_32) rfl ?_
    refine XS.sipush X0.here hx rfl (hb hby at_34) ?_
    refine XS.iand X0.here hx rfl (hb hby at_37) rfl ?_
    refine XS.i2c X0.here hx rfl (hb hby at_38) rfl ?_
    refine XS.istore X0.here hx rfl (hb hby at_39) rfl (l' := #[iv p0, iv p1, iv p2, iv p3, iv p4, iv (p0 &&& (3 : Int32)), iv ((p1 &&& (2147483647 : Int32)) - ((p1 &&& (2147483647 : Int32)) / ((p0 &&& (3 : Int32)) + (1 : Int32))) * ((p0 &&& (3 : Int32)) + (1 : Int32))), iv ((p2 &&& (255 : Int32)).toUInt32.toUInt16.toUInt32.toInt32), iv ((p3 &&& (255 : Int32)).toUInt32.toUInt16.toUInt32.toInt32), iv ((p4 &&& (255 : Int32)).toUInt32.toUInt16.toUInt32.toInt32), oU, oU, oU, oU, oU, oU, oU, oU, oU, oU, oU]) rfl ?_
    refine XS.iload X0.here hx rfl (hb hby at_41) rfl ?_
    refine XS.iload X0.here hx rfl (hb hby at_43) rfl ?_
    refine XS.iload X0.here hx rfl (hb hby at_45) rfl ?_
    refine XS.iload X0.here hx rfl (hb hby at_47) rfl ?_
    exact k
  obtain ⟨x0, hx0⟩ : ∃ c : Int32, c = ((p2 &&& (255 : Int32)).toUInt32.toUInt16.toUInt32.toInt32) := ⟨_, rfl⟩
  rw [← hx0]
  have hxq0 := own_chr p2 x0 hx0
  obtain ⟨x1, hx1⟩ : ∃ c : Int32, c = ((p3 &&& (255 : Int32)).toUInt32.toUInt16.toUInt32.toInt32) := ⟨_, rfl⟩
  rw [← hx1]
  have hxq1 := own_chr p3 x1 hx1
  obtain ⟨x2, hx2⟩ : ∃ c : Int32, c = ((p4 &&& (255 : Int32)).toUInt32.toUInt16.toUInt32.toInt32) := ⟨_, rfl⟩
  rw [← hx2]
  have hxq2 := own_chr p4 x2 hx2
  rcases own_nk p0 p1 with ⟨g2, g1⟩ | ⟨g2, g1⟩ | ⟨g2, g1⟩ | ⟨g2, g1⟩ | ⟨g2, g1⟩ | ⟨g2, g1⟩ | ⟨g2, g1⟩ | ⟨g2, g1⟩ | ⟨g2, g1⟩ | ⟨g2, g1⟩ <;> rw [g2, g1]
  · show ∃ s₂ o, Steps p.tables e below (s₁.setTop (mkF m 49 #[iv p0, iv p1, iv p2, iv p3, iv p4, iv 0, iv 0, iv x0, iv x1, iv x2, oU, oU, oU, oU, oU, oU, oU, oU, oU, oU, oU] [(.int 0), (.int x2), (.int x1), (.int x0)])) s₂ ∧ _
    have kk_1 := K0
    obtain ⟨_, _, ⟨T_1, L_1, k_1, n_1⟩, -, Xb_1, Sb_1, gs_1, ⟨Lc_1, hQ_1, l_1, y_1, z_1, CH_1⟩, st_1⟩ := callSS (show Stand p l e room_1 (s.setVm s.vm) m #[(.int p0), (.int p1), (.int p2), (.int p3), (.int p4)] below meth c s₁ _ _ _ from X0) hx (y := own_m2) hown (mvT hZ (ow hw 1 rfl)) (mvT hZ (ow hw 2 rfl)) (mvT hZ (ow hw 3 rfl)) (mvT hZ (ow hw 4 rfl)) (by decide) (backOfSH (s := s) (vm0 := s.vm) (W := 0) (rmstr0 l Z av0 hw [] x0 x1 x2  h0 n0 Z0 hEL) hZ (ow hw 4 rfl) (ow hw 3 rfl) (by decide) (by decide) hEL H1.1) (g := (mkF m 49 #[iv p0, iv p1, iv p2, iv p3, iv p4, iv 0, iv 0, iv x0, iv x1, iv x2, oU, oU, oU, oU, oU, oU, oU, oU, oU, oU, oU] [(.int 0), (.int x2), (.int x1), (.int x0)])) rfl (by rw [hml]; rfl) (argsL := [(.int x0), (.int x1), (.int x2), (.int 0)]) (rest := []) (lenOf pd_11 rfl) rfl (by show 2 * 0 + _ ≤ _; exact Nat.le_of_eq rfl) (hb hby at_49) (fun _ _ => ⟨rfl, e0, (by decide : 0 + 6 ≤ _), (by decide : 0 + 12 ≤ _)⟩)
    dsimp only [Pt.U, Pt.locs, Pt.cells, Pt.slots] at Xb_1 Sb_1 gs_1 l_1 y_1 z_1 st_1 hQ_1 CH_1
    subst l_1 y_1 z_1
    obtain ⟨sx_1, sb_1, sk_1, rfl, N_1q, K_1, szq_1, sE_1, sc_1, sv_1, sV_1⟩ := hQ_1
    have N_1 := Fr.app N0 N_1q
    obtain ⟨X_1, Si_1, hZ_1, hown_1⟩ := rebS (s := s) (vm0 := s.vm) ((State.WarmedH.refl s).since 0) (Nat.zero_le 0) Xb_1 Sb_1 (Nat.zero_le _) hZ hown
    have c1 := H1.trans CH_1
    have c2 := K0.trans K_1 all0
    have c3 := own_stak S_COMPACT_STRINGS K_1
    have Z0__1 : n0 ≤ T_1.heap.size := Nat.le_trans Z0 K_1.1
    have sz_sx_1 : h0.size ≤ sx_1 := Nat.le_trans kk_1.1 szq_1
    refine og (fun t k => st_1.trans k) ?_
    refine og (B := T_1.setTop (mkF m 62 #[iv p0, iv p1, iv p2, iv p3, iv p4, iv 0, iv 0, iv x0, iv x1, iv x2, rv sx_1, oU, oU, oU, oU, oU, oU, oU, oU, oU, oU] [(.int 0), (.int x2), (.int x1), (.int x0)])) (fun t k => ?_) ?_
    · refine XS.astore X_1.here hx rfl (hb hby at_52) rfl rfl (l' := #[iv p0, iv p1, iv p2, iv p3, iv p4, iv 0, iv 0, iv x0, iv x1, iv x2, rv sx_1, oU, oU, oU, oU, oU, oU, oU, oU, oU, oU]) rfl ?_
      refine XS.iload X_1.here hx rfl (hb hby at_54) rfl ?_
      refine XS.iload X_1.here hx rfl (hb hby at_56) rfl ?_
      refine XS.iload X_1.here hx rfl (hb hby at_58) rfl ?_
      refine XS.iload X_1.here hx rfl (hb hby at_60) rfl ?_
      exact k
    have kk_2 := c2
    obtain ⟨_, _, ⟨T_2, L_2, k_2, n_2⟩, -, Xb_2, Sb_2, gs_2, ⟨Lc_2, hQ_2, l_2, y_2, z_2, CH_2⟩, st_2⟩ := callSS X_1 hx (y := own_m2) hown_1 (mvT hZ_1 (ow hw 1 rfl)) (mvT hZ_1 (ow hw 2 rfl)) (mvT hZ_1 (ow hw 3 rfl)) (mvT hZ_1 (ow hw 4 rfl)) (by decide) (backOfSH (s := s) (vm0 := T_1.vm) (W := 0) (rmstr0 l Z av0 hw [] x0 x1 x2  T_1.heap n0 Z0__1 hEL) hZ_1 (ow hw 4 rfl) (ow hw 3 rfl) (by decide) (by decide) hEL c1.1) (g := (mkF m 62 #[iv p0, iv p1, iv p2, iv p3, iv p4, iv 0, iv 0, iv x0, iv x1, iv x2, rv sx_1, oU, oU, oU, oU, oU, oU, oU, oU, oU, oU] [(.int 0), (.int x2), (.int x1), (.int x0)])) rfl (by rw [hml]; rfl) (argsL := [(.int x0), (.int x1), (.int x2), (.int 0)]) (rest := []) (lenOf pd_11 rfl) rfl (by show 2 * 0 + _ ≤ _; exact Nat.le_of_eq rfl) (hb hby at_62) (fun _ _ => ⟨rfl, rfl, (by decide : 6 + 6 ≤ _), (by decide : 12 + 12 ≤ _)⟩)
    dsimp only [Pt.U, Pt.locs, Pt.cells, Pt.slots] at Xb_2 Sb_2 gs_2 l_2 y_2 z_2 st_2 hQ_2 CH_2
    subst l_2 y_2 z_2
    obtain ⟨sx_2, sb_2, sk_2, rfl, N_2q, K_2, szq_2, sE_2, sc_2, sv_2, sV_2⟩ := hQ_2
    have N_2 := Fr.app N_1 N_2q
    obtain ⟨X_2, Si_2, hZ_2, hown_2⟩ := rebS (s := s) (vm0 := T_1.vm) Si_1 (Nat.le_refl _) Xb_2 Sb_2 (Nat.le_trans (Nat.le_refl _) K_2.1) hZ_1 hown_1
    have c4 := c1.trans CH_2
    have c5 := Nat.le_trans (Nat.le_refl _) K_2.1
    have c6 := c2.trans K_2 all0
    have c7 := own_stak c3 K_2
    have c8 := sE_1.keep K_2
    have c9 := sc_1.keep K_2 nin0
    have c10 := sv_1.keep K_2 nin0
    have c11 := sV_1.keep K_2 nin0
    have Z0__2 : n0 ≤ T_2.heap.size := Nat.le_trans Z0__1 K_2.1
    have sz_sx_2 : h0.size ≤ sx_2 := Nat.le_trans kk_2.1 szq_2
    refine og (fun t k => st_2.trans k) ?_
    refine og (B := T_2.setTop (mkF m 77 #[iv p0, iv p1, iv p2, iv p3, iv p4, iv 0, iv 0, iv x0, iv x1, iv x2, rv sx_1, rv sx_2, oU, oU, oU, oU, oU, oU, oU, oU, oU] [(.int 0), (.int 0), (.int x2), (.int x1), (.int x0)])) (fun t k => ?_) ?_
    · refine XS.astore X_2.here hx rfl (hb hby at_65) rfl rfl (l' := #[iv p0, iv p1, iv p2, iv p3, iv p4, iv 0, iv 0, iv x0, iv x1, iv x2, rv sx_1, rv sx_2, oU, oU, oU, oU, oU, oU, oU, oU, oU]) rfl ?_
      refine XS.iload X_2.here hx rfl (hb hby at_67) rfl ?_
      refine XS.iload X_2.here hx rfl (hb hby at_69) rfl ?_
      refine XS.iload X_2.here hx rfl (hb hby at_71) rfl ?_
      refine XS.iload X_2.here hx rfl (hb hby at_73) rfl ?_
      refine XS.iload X_2.here hx rfl (hb hby at_75) rfl ?_
      exact k
    have kk_3 := c6
    obtain ⟨_, _, ⟨T_3, L_3, k_3, n_3⟩, -, Xb_3, Sb_3, gs_3, ⟨Lc_3, hQ_3, l_3, y_3, z_3, CH_3⟩, st_3⟩ := callSS X_2 hx (y := own_m6) hown_2 (mvT hZ_2 (ow hw 27 rfl)) (mvT hZ_2 (ow hw 28 rfl)) (mvT hZ_2 (ow hw 3 rfl)) (mvT hZ_2 (ow hw 29 rfl)) (by decide) (backOfSH (s := s) (vm0 := T_2.vm) (W := 0) (rmsfx0_0 l Z av0 hw [] x0 x1 x2  T_2.heap n0 Z0__2 hEL) hZ_2 (ow hw 29 rfl) (ow hw 3 rfl) (by decide) (by decide) hEL c4.1) (g := (mkF m 77 #[iv p0, iv p1, iv p2, iv p3, iv p4, iv 0, iv 0, iv x0, iv x1, iv x2, rv sx_1, rv sx_2, oU, oU, oU, oU, oU, oU, oU, oU, oU] [(.int 0), (.int 0), (.int x2), (.int x1), (.int x0)])) rfl (by rw [hml]; rfl) (argsL := [(.int x0), (.int x1), (.int x2), (.int 0), (.int 0)]) (rest := []) (lenOf pd_16 rfl) rfl (by show 2 * 0 + _ ≤ _; exact Nat.le_of_eq rfl) (hb hby at_77) (fun _ _ => ⟨rfl, rfl, (by decide : 12 + 6 ≤ _), (by decide : 24 + 12 ≤ _)⟩)
    dsimp only [Pt.U, Pt.locs, Pt.cells, Pt.slots] at Xb_3 Sb_3 gs_3 l_3 y_3 z_3 st_3 hQ_3 CH_3
    subst l_3 y_3 z_3
    obtain ⟨sx_3, sb_3, sk_3, rfl, N_3q, K_3, szq_3, sE_3, sc_3, sv_3, sV_3⟩ := hQ_3
    have N_3 := Fr.app N_2 N_3q
    obtain ⟨X_3, Si_3, hZ_3, hown_3⟩ := rebS (s := s) (vm0 := T_2.vm) Si_2 (Nat.le_refl _) Xb_3 Sb_3 (Nat.le_trans (Nat.le_refl _) K_3.1) hZ_2 hown_2
    have c12 := c4.trans CH_3
    have c13 := Nat.le_trans (Nat.le_refl _) K_3.1
    have c14 := c6.trans K_3 all0
    have c15 := own_stak c7 K_3
    have c16 := c8.keep K_3
    have c17 := c9.keep K_3 nin0
    have c18 := c10.keep K_3 nin0
    have c19 := c11.keep K_3 nin0
    have c20 := sE_2.keep K_3
    have c21 := sc_2.keep K_3 nin0
    have c22 := sv_2.keep K_3 nin0
    have c23 := sV_2.keep K_3 nin0
    have Z0__3 : n0 ≤ T_3.heap.size := Nat.le_trans Z0__2 K_3.1
    have sz_sx_3 : h0.size ≤ sx_3 := Nat.le_trans kk_3.1 szq_3
    refine og (fun t k => st_3.trans k) ?_
    refine og (B := T_3.setTop (mkF m 82 #[iv p0, iv p1, iv p2, iv p3, iv p4, iv 0, iv 0, iv x0, iv x1, iv x2, rv sx_1, rv sx_2, rv sx_3, oU, oU, oU, oU, oU, oU, oU, oU] [])) (fun t k => ?_) ?_
    · refine XS.astore X_3.here hx rfl (hb hby at_80) rfl rfl (l' := #[iv p0, iv p1, iv p2, iv p3, iv p4, iv 0, iv 0, iv x0, iv x1, iv x2, rv sx_1, rv sx_2, rv sx_3, oU, oU, oU, oU, oU, oU, oU, oU]) rfl ?_
      exact k
    obtain ⟨T_4, h_4, X_4, e_4, E_4, A_4, D_4, -, st_4⟩ := newO X_3 hx hZ_3 hown_3 (ow hw 30 rfl) (ow hw 31 rfl) (ow hw 32 rfl) rfl (g := (mkF m 82 #[iv p0, iv p1, iv p2, iv p3, iv p4, iv 0, iv 0, iv x0, iv x1, iv x2, rv sx_1, rv sx_2, rv sx_3, oU, oU, oU, oU, oU, oU, oU, oU] [])) rfl (hb hby at_82) (by decide) (by decide)
    obtain ⟨b_4, g_4⟩ : ∃ z, z = T_3.heap.size := ⟨_, rfl⟩
    rw [← g_4] at A_4 D_4 st_4
    have g_b_4 : n0 ≤ b_4 := Nat.le_trans Z0__3 (Nat.le_of_eq g_4.symm)
    have sz_b_4 : h0.size ≤ b_4 := Nat.le_trans c14.1 (Nat.le_of_eq g_4.symm)
    have sf_b_4 : Safe Z own_EL T_3.vm T_3.heap b_4 := Safe.new (Nat.le_of_eq g_4.symm)
    have ne_sx_1_b_4 : sx_1 ≠ b_4 := Nat.ne_of_lt (Nat.lt_of_lt_of_le (c16).lt (Nat.le_of_eq g_4.symm))
    have ne_sb_1_b_4 : sb_1 ≠ b_4 := Nat.ne_of_lt (Nat.lt_of_lt_of_le (c19).lt (Nat.le_of_eq g_4.symm))
    have ne_sx_2_b_4 : sx_2 ≠ b_4 := Nat.ne_of_lt (Nat.lt_of_lt_of_le (c20).lt (Nat.le_of_eq g_4.symm))
    have ne_sb_2_b_4 : sb_2 ≠ b_4 := Nat.ne_of_lt (Nat.lt_of_lt_of_le (c23).lt (Nat.le_of_eq g_4.symm))
    have ne_sx_3_b_4 : sx_3 ≠ b_4 := Nat.ne_of_lt (Nat.lt_of_lt_of_le (sE_3).lt (Nat.le_of_eq g_4.symm))
    have ne_sb_3_b_4 : sb_3 ≠ b_4 := Nat.ne_of_lt (Nat.lt_of_lt_of_le (sV_3).lt (Nat.le_of_eq g_4.symm))
    have c24 := Safe.ext E_4 c12.1 sf_b_4
    have c25 := c12.trans (CHr.ext E_4 c12.1)
    have c26 := Nat.le_trans (Nat.le_refl _) E_4.1
    have c27 := c14.ext E_4
    have c28 := c15.ext E_4
    have c29 := c16.ext E_4
    have c30 := c17.ext E_4
    have c31 := c18.ext E_4
    have c32 := c19.ext E_4
    have c33 := c20.ext E_4
    have c34 := c21.ext E_4
    have c35 := c22.ext E_4
    have c36 := c23.ext E_4
    have c37 := sE_3.ext E_4
    have c38 := sc_3.ext E_4
    have c39 := sv_3.ext E_4
    have c40 := sV_3.ext E_4
    have Z0__4 : n0 ≤ h_4.size := Nat.le_trans Z0__3 E_4.1
    have F_source_b_4 : Fld Z h_4 b_4 "com/example/cutoff/cutoff/store/TextCursor" "source" "Ljava/lang/String;" .null := D_4 (Or.inr (ow hw 39 rfl)) (ty := (.object "java/lang/String")) (by decide)
    have F_text_b_4 : Fld Z h_4 b_4 "com/example/cutoff/cutoff/store/TextCursor" "text" "Ljava/lang/String;" .null := D_4 (Or.inr (ow hw 41 rfl)) (ty := (.object "java/lang/String")) (by decide)
    have F_firstLine_b_4 : Fld Z h_4 b_4 "com/example/cutoff/cutoff/store/TextCursor" "firstLine" "I" (.int 0) := D_4 (Or.inr (ow hw 43 rfl)) (ty := .int) (by decide)
    have F_end_b_4 : Fld Z h_4 b_4 "com/example/cutoff/cutoff/store/TextCursor" "end" "Ljava/lang/String;" .null := D_4 (Or.inr (ow hw 86 rfl)) (ty := (.object "java/lang/String")) (by decide)
    have F_position_b_4 : Fld Z h_4 b_4 "com/example/cutoff/cutoff/store/TextCursor" "position" "I" (.int 0) := D_4 (Or.inl (ow hw 93 rfl)) (ty := .int) (by decide)
    refine og (fun t k => st_4 t k) ?_
    refine og (B := T_4.setTop (mkF m 86 #[iv p0, iv p1, iv p2, iv p3, iv p4, iv 0, iv 0, iv x0, iv x1, iv x2, rv sx_1, rv sx_2, rv sx_3, oU, oU, oU, oU, oU, oU, oU, oU] [(.ref b_4), (.ref b_4)])) (fun t k => ?_) ?_
    · refine XS.dup X_4.here hx rfl (hb hby at_85) rfl rfl ?_
      exact k
    have wS_5 := own_wS hw
    obtain ⟨b_5, T_5, h_5, k1_5, d_5, kc_5, X_5, e_5, E_5, Si_5, ls_5, hZ_5, hown_5, A_5, Fc_5, Fv_5, V_5, -, -, CH_5, -, NE_5, st_5⟩ := ldcCH (s := s) (vm0 := T_3.vm) X_4 hx hZ_3 hown_3 (ow hw 33 rfl) wS_5 e_4 Si_3 c26 hEL (List.mem_of_getElem? (i := 1) rfl) c25.1 (vs := [(.int (115 : Int32))]) (z := (1 : Int32)) ⟨by decide, rfl⟩ (by decide) rfl (g := (mkF m 86 #[iv p0, iv p1, iv p2, iv p3, iv p4, iv 0, iv 0, iv x0, iv x1, iv x2, rv sx_1, rv sx_2, rv sx_3, oU, oU, oU, oU, oU, oU, oU, oU] [(.ref b_4), (.ref b_4)])) rfl (hb hby at_86) (n := 4) (by decide) (by decide) (by decide) (by decide)
    have c41 := CHr.safe CH_5 (F_source_b_4).lt c24
    have c42 := c25.trans CH_5
    have ne_b_4_b_5 : b_4 ≠ b_5 := (NE_5 _ c41).1
    have ne_b_4_d_5 : b_4 ≠ d_5 := (NE_5 _ c41).2
    have c43 := c27.ext E_5
    have c44 := c28.ext E_5
    have c45 := c29.ext E_5
    have c46 := c30.ext E_5
    have c47 := c31.ext E_5
    have c48 := c32.ext E_5
    have c49 := c33.ext E_5
    have c50 := c34.ext E_5
    have c51 := c35.ext E_5
    have c52 := c36.ext E_5
    have c53 := c37.ext E_5
    have c54 := c38.ext E_5
    have c55 := c39.ext E_5
    have c56 := c40.ext E_5
    have c57 := F_source_b_4.ext E_5
    have c58 := F_text_b_4.ext E_5
    have c59 := F_firstLine_b_4.ext E_5
    have c60 := F_end_b_4.ext E_5
    have c61 := F_position_b_4.ext E_5
    have c62 := A_4.ext E_5
    have Z0__5 : n0 ≤ h_5.size := Nat.le_trans Z0__4 E_5.1
    refine og (fun t k => st_5 t k) ?_
    refine og (B := T_5.setTop (mkF m 91 #[iv p0, iv p1, iv p2, iv p3, iv p4, iv 0, iv 0, iv x0, iv x1, iv x2, rv sx_1, rv sx_2, rv sx_3, oU, oU, oU, oU, oU, oU, oU, oU] [(.int 1), (.ref sx_1), (.ref b_5), (.ref b_4), (.ref b_4)])) (fun t k => ?_) ?_
    · refine XS.aload X_5.here hx rfl (hb hby at_88) rfl rfl ?_
      refine XS.iconst X_5.here hx rfl (hb hby at_90) ?_
      exact k
    obtain ⟨_, _, ⟨T_6, L_6, k_6, n_6⟩, -, Xb_6, Sb_6, gs_6, ⟨Lc_6, hQ_6, l_6, y_6, z_6, CH_6⟩, st_6⟩ := X_5.specialBackS hx (y := own_m7) rfl hown_5 (mvT hZ_5 (ow hw 34 rfl)) (mvT hZ_5 (ow hw 35 rfl)) (mvT hZ_5 (ow hw 36 rfl)) (by decide) (backOfSH (s := s) (vm0 := T_5.vm) (W := 1) (rmtc l Z av0 hw [] b_4 b_5 sx_1 .null .null (.int 0) .null sb_1 sk_1 w (0 : Int32) [] (fun c => own_ixl0  c) h_5 n0 Z0__5 c62 c57 c58 c59 c60 c61 g_b_4 c45 c46 c47 c44 hw0 c48 ne_sx_1_b_4 ne_sb_1_b_4 hEL (fun h' c z e f1 f2 s v => rmsxa0 l Z av0 hw [] sx_1 c sb_1 sk_1 w  h' n0 z e f1 f2 s hw0 v)) hZ_5 (ow hw 36 rfl) (ow hw 32 rfl) (by decide) (by decide) hEL c42.1) (g := (mkF m 91 #[iv p0, iv p1, iv p2, iv p3, iv p4, iv 0, iv 0, iv x0, iv x1, iv x2, rv sx_1, rv sx_2, rv sx_3, oU, oU, oU, oU, oU, oU, oU, oU] [(.int 1), (.ref sx_1), (.ref b_5), (.ref b_4), (.ref b_4)])) rfl (by rw [hml]; rfl) (Steps.refl _) (a := b_4) (argsL := [(.ref b_5), (.ref sx_1), (.int 1)]) (rest := [(.ref b_4)]) (lenOf pd_17 rfl) rfl (by show 2 * 0 + _ ≤ _; exact Nat.le_of_eq rfl) (hb hby at_91) (fun _ _ => ⟨rfl, e_5, (by decide : 21 + 2 ≤ _), (by decide : 49 + 80 ≤ _)⟩)
    dsimp only [Pt.U, Pt.locs, Pt.cells, Pt.slots] at Xb_6 Sb_6 gs_6 l_6 y_6 z_6 st_6 hQ_6 CH_6
    subst l_6 y_6 z_6
    obtain ⟨rfl, N_6q, K_6, Ft_6, Fp_6⟩ := hQ_6
    have N_6 := Fr.app N_3 N_6q
    obtain ⟨X_6, Si_6, hZ_6, hown_6⟩ := rebS (s := s) (vm0 := T_5.vm) Si_5 (Nat.le_refl _) Xb_6 Sb_6 (Nat.le_trans ls_5 K_6.1) hZ_5 hown_5
    have c63 := CHr.safe CH_6 (c57).lt c41
    have c64 := c42.trans CH_6
    have c65 := Nat.le_trans ls_5 K_6.1
    have c66 := c43.trans K_6 (allS (Or.inr sz_b_4) all0)
    have c67 := own_stake c44 K_6 c62
    have c68 := c45.keep K_6
    have c69 := c46.keep K_6 (ninS ne_sx_1_b_4 nin0)
    have c70 := c47.keep K_6 (ninS ne_sx_1_b_4 nin0)
    have c71 := c48.keep K_6 (ninS ne_sb_1_b_4 nin0)
    have c72 := c49.keep K_6
    have c73 := c50.keep K_6 (ninS ne_sx_2_b_4 nin0)
    have c74 := c51.keep K_6 (ninS ne_sx_2_b_4 nin0)
    have c75 := c52.keep K_6 (ninS ne_sb_2_b_4 nin0)
    have c76 := c53.keep K_6
    have c77 := c54.keep K_6 (ninS ne_sx_3_b_4 nin0)
    have c78 := c55.keep K_6 (ninS ne_sx_3_b_4 nin0)
    have c79 := c56.keep K_6 (ninS ne_sb_3_b_4 nin0)
    have c80 := c62.keep K_6
    have Z0__6 : n0 ≤ T_6.heap.size := Nat.le_trans Z0__5 K_6.1
    refine og (fun t k => st_6.trans k) ?_
    refine og (B := T_6.setTop (mkF m 98 #[iv p0, iv p1, iv p2, iv p3, iv p4, iv 0, iv 0, iv x0, iv x1, iv x2, rv sx_1, rv sx_2, rv sx_3, rv b_4, oU, oU, oU, oU, oU, oU, oU] [(.ref b_4)])) (fun t k => ?_) ?_
    · refine XS.astore X_6.here hx rfl (hb hby at_94) rfl rfl (l' := #[iv p0, iv p1, iv p2, iv p3, iv p4, iv 0, iv 0, iv x0, iv x1, iv x2, rv sx_1, rv sx_2, rv sx_3, rv b_4, oU, oU, oU, oU, oU, oU, oU]) rfl ?_
      refine XS.aload X_6.here hx rfl (hb hby at_96) rfl rfl ?_
      exact k
    obtain ⟨cq_7, kq_7, q_7a, q_7b, q_7c⟩ := isOf hZ_6 rfl c80
    obtain ⟨_, _, ⟨T_7, L_7, k_7, n_7⟩, -, X_7, ⟨Lc_7, hQ_7, l_7, y_7, z_7⟩, st_7⟩ := X_6.virtualBack hx (y := own_m17) (z := own_m17) hown_6 (mvT hZ_6 (ow hw 87 rfl)) (mvT hZ_6 (ow hw 88 rfl)) (notFace_of_selects (args := #[]) (mvT hZ_6 (ow hw 90 rfl))) (mvT hZ_6 (ow hw 90 rfl)) (mvT hZ_6 (ow hw 89 rfl)) (by decide) (backOf (W := 0) (rm16 l Z av0 hw [] b_4 (0 : Int32) sx_1 sb_1 sk_1 w (0 : Int32) [] T_6.heap n0 Z0__6 Fp_6 Ft_6 c68 c69 c70 c67 hw0 c71) hZ_6 (ow hw 91 rfl) (ow hw 32 rfl) (by decide) (by decide)) q_7a q_7c (g := (mkF m 98 #[iv p0, iv p1, iv p2, iv p3, iv p4, iv 0, iv 0, iv x0, iv x1, iv x2, rv sx_1, rv sx_2, rv sx_3, rv b_4, oU, oU, oU, oU, oU, oU, oU] [(.ref b_4)])) rfl (by rw [hml]; rfl) (Steps.refl _) (argsL := []) (rest := []) (lenOf pd_3 rfl) rfl (by show 2 * 0 + _ ≤ _; exact Nat.le_of_eq rfl) (hb hby at_98) (fun _ _ => ⟨rfl, rfl, (by decide : 23 + 0 ≤ _), (by decide : 129 + 0 ≤ _)⟩)
    dsimp only [Pt.U, Pt.locs, Pt.cells, Pt.slots] at X_7 l_7 y_7 z_7 st_7 hQ_7
    subst l_7 y_7 z_7
    obtain ⟨hv_7, N_7q, e_7⟩ := hQ_7
    have N_7 := Fr.app N_6 N_7q
    rw [show own_ge (0 : Int32) (0 : Int32) = (1 : Int32) from by decide] at hv_7
    subst hv_7
    refine og (fun t k => st_7.trans k) ?_
    refine og (B := T_7.setTop (mkF m 107 #[iv p0, iv p1, iv p2, iv p3, iv p4, iv 0, iv 0, iv x0, iv x1, iv x2, rv sx_1, rv sx_2, rv sx_3, rv b_4, iv 1, oU, oU, oU, oU, oU, oU] [(.ref sx_2), (.ref b_4)])) (fun t k => ?_) ?_
    · refine XS.istore X_7.here hx rfl (hb hby at_101) rfl (l' := #[iv p0, iv p1, iv p2, iv p3, iv p4, iv 0, iv 0, iv x0, iv x1, iv x2, rv sx_1, rv sx_2, rv sx_3, rv b_4, iv 1, oU, oU, oU, oU, oU, oU]) rfl ?_
      refine XS.aload X_7.here hx rfl (hb hby at_103) rfl rfl ?_
      refine XS.aload X_7.here hx rfl (hb hby at_105) rfl rfl ?_
      exact k
    obtain ⟨cq_8, kq_8, q_8a, q_8b, q_8c⟩ := isOf hZ_6 e_7 c80
    obtain ⟨_, _, ⟨T_8, L_8, k_8, n_8⟩, -, X_8, ⟨Lc_8, hQ_8, l_8, y_8, z_8⟩, st_8⟩ := X_7.virtualBack hx (y := own_m18) (z := own_m18) hown_6 (mvT hZ_6 (ow hw 95 rfl)) (mvT hZ_6 (ow hw 96 rfl)) (notFace_of_selects (args := #[]) (mvT hZ_6 (ow hw 98 rfl))) (mvT hZ_6 (ow hw 98 rfl)) (mvT hZ_6 (ow hw 97 rfl)) (by decide) (backOf (W := 0) (rmco l Z av0 hw [] b_4 sx_2 sx_1 (0 : Int32) sb_1 sb_2 sk_1 sk_2 w (0 : Int32) (0 : Int32) [] [] T_6.heap n0 Z0__6 c80 Ft_6 Fp_6 g_b_4 c68 c69 c70 c72 c73 c74 c67 hw0 c71 c75 ne_sx_2_b_4 ne_sb_2_b_4 (by decide) (by decide) (rmmm0 l Z av0 hw [] sb_1 (0 : Int32) sb_2 sk_1 sk_2 (0 : Int32) []  T_6.heap n0 Z0__6 c71 c75 )) hZ_6 (ow hw 99 rfl) (ow hw 32 rfl) (by decide) (by decide)) q_8a q_8c (g := (mkF m 107 #[iv p0, iv p1, iv p2, iv p3, iv p4, iv 0, iv 0, iv x0, iv x1, iv x2, rv sx_1, rv sx_2, rv sx_3, rv b_4, iv 1, oU, oU, oU, oU, oU, oU] [(.ref sx_2), (.ref b_4)])) rfl (by rw [hml]; rfl) (Steps.refl _) (argsL := [(.ref sx_2)]) (rest := []) (lenOf pd_15 rfl) rfl (by show 2 * 0 + _ ≤ _; exact Nat.le_of_eq rfl) (hb hby at_107) (fun _ _ => ⟨rfl, e_7, (by decide : 23 + 0 ≤ _), (by decide : 129 + 0 ≤ _)⟩)
    dsimp only [Pt.U, Pt.locs, Pt.cells, Pt.slots] at X_8 l_8 y_8 z_8 st_8 hQ_8
    subst l_8 y_8 z_8
    obtain ⟨rfl, N_8q, K_8, Fp_8, Ft_8⟩ := hQ_8
    have N_8 := Fr.app N_7 N_8q
    have c81 := Safe.keep K_8 (allS c63 all0) c64.1 c63
    have c82 := c64.trans (CHr.keep K_8 (allS c63 all0) c64.1)
    have c83 := Nat.le_trans (Nat.le_refl _) K_8.1
    have c84 := c66.trans K_8 (allS (Or.inr sz_b_4) all0)
    have c85 := own_stake c67 K_8 c80
    have c86 := c68.keep K_8
    have c87 := c69.keep K_8 (ninS ne_sx_1_b_4 nin0)
    have c88 := c70.keep K_8 (ninS ne_sx_1_b_4 nin0)
    have c89 := c71.keep K_8 (ninS ne_sb_1_b_4 nin0)
    have c90 := c72.keep K_8
    have c91 := c73.keep K_8 (ninS ne_sx_2_b_4 nin0)
    have c92 := c74.keep K_8 (ninS ne_sx_2_b_4 nin0)
    have c93 := c75.keep K_8 (ninS ne_sb_2_b_4 nin0)
    have c94 := c76.keep K_8
    have c95 := c77.keep K_8 (ninS ne_sx_3_b_4 nin0)
    have c96 := c78.keep K_8 (ninS ne_sx_3_b_4 nin0)
    have c97 := c79.keep K_8 (ninS ne_sb_3_b_4 nin0)
    have c98 := c80.keep K_8
    have Z0__8 : n0 ≤ T_8.heap.size := Nat.le_trans Z0__6 K_8.1
    have Fq_8 : Fld Z T_8.heap b_4 "com/example/cutoff/cutoff/store/TextCursor" "position" "I" (.int (0 : Int32)) := Fp_8
    refine og (fun t k => st_8.trans k) ?_
    refine og (B := T_8.setTop (mkF m 114 #[iv p0, iv p1, iv p2, iv p3, iv p4, iv 0, iv 0, iv x0, iv x1, iv x2, rv sx_1, rv sx_2, rv sx_3, rv b_4, iv 1, iv 1, oU, oU, oU, oU, oU] [(.ref b_4)])) (fun t k => ?_) ?_
    · refine XS.istore X_8.here hx rfl (hb hby at_110) rfl (l' := #[iv p0, iv p1, iv p2, iv p3, iv p4, iv 0, iv 0, iv x0, iv x1, iv x2, rv sx_1, rv sx_2, rv sx_3, rv b_4, iv 1, iv 1, oU, oU, oU, oU, oU]) rfl ?_
      refine XS.aload X_8.here hx rfl (hb hby at_112) rfl rfl ?_
      exact k
    obtain ⟨cq_9, kq_9, q_9a, q_9b, q_9c⟩ := isOf hZ_6 rfl c98
    obtain ⟨_, _, ⟨T_9, L_9, k_9, n_9⟩, -, X_9, ⟨Lc_9, hQ_9, l_9, y_9, z_9⟩, st_9⟩ := X_8.virtualBack hx (y := own_m22) (z := own_m22) hown_6 (mvT hZ_6 (ow hw 114 rfl)) (mvT hZ_6 (ow hw 115 rfl)) (notFace_of_selects (args := #[]) (mvT hZ_6 (ow hw 117 rfl))) (mvT hZ_6 (ow hw 117 rfl)) (mvT hZ_6 (ow hw 116 rfl)) (by decide) (backOf (W := 0) (rm21 l Z av0 hw [] b_4 (0 : Int32) T_8.heap n0 Z0__8 Fq_8) hZ_6 (ow hw 118 rfl) (ow hw 32 rfl) (by decide) (by decide)) q_9a q_9c (g := (mkF m 114 #[iv p0, iv p1, iv p2, iv p3, iv p4, iv 0, iv 0, iv x0, iv x1, iv x2, rv sx_1, rv sx_2, rv sx_3, rv b_4, iv 1, iv 1, oU, oU, oU, oU, oU] [(.ref b_4)])) rfl (by rw [hml]; rfl) (Steps.refl _) (argsL := []) (rest := []) (lenOf pd_4 rfl) rfl (by show 2 * 0 + _ ≤ _; exact Nat.le_of_eq rfl) (hb hby at_114) (fun _ _ => ⟨rfl, rfl, (by decide : 23 + 0 ≤ _), (by decide : 129 + 0 ≤ _)⟩)
    dsimp only [Pt.U, Pt.locs, Pt.cells, Pt.slots] at X_9 l_9 y_9 z_9 st_9 hQ_9
    subst l_9 y_9 z_9
    obtain ⟨rfl, N_9q, e_9⟩ := hQ_9
    have N_9 := Fr.app N_8 N_9q
    refine og (fun t k => st_9.trans k) ?_
    refine og (B := T_9.setTop (mkF m 121 #[iv p0, iv p1, iv p2, iv p3, iv p4, iv 0, iv 0, iv x0, iv x1, iv x2, rv sx_1, rv sx_2, rv sx_3, rv b_4, iv 1, iv 1, iv 0, oU, oU, oU, oU] [(.ref b_4)])) (fun t k => ?_) ?_
    · refine XS.istore X_9.here hx rfl (hb hby at_117) rfl (l' := #[iv p0, iv p1, iv p2, iv p3, iv p4, iv 0, iv 0, iv x0, iv x1, iv x2, rv sx_1, rv sx_2, rv sx_3, rv b_4, iv 1, iv 1, iv 0, oU, oU, oU, oU]) rfl ?_
      refine XS.aload X_9.here hx rfl (hb hby at_119) rfl rfl ?_
      exact k
    obtain ⟨cq_10, kq_10, q_10a, q_10b, q_10c⟩ := isOf hZ_6 e_9 c98
    obtain ⟨_, _, ⟨T_10, L_10, k_10, n_10⟩, -, X_10, ⟨Lc_10, hQ_10, l_10, y_10, z_10⟩, st_10⟩ := X_9.virtualBack hx (y := own_m17) (z := own_m17) hown_6 (mvT hZ_6 (ow hw 87 rfl)) (mvT hZ_6 (ow hw 88 rfl)) (notFace_of_selects (args := #[]) (mvT hZ_6 (ow hw 90 rfl))) (mvT hZ_6 (ow hw 90 rfl)) (mvT hZ_6 (ow hw 89 rfl)) (by decide) (backOf (W := 0) (rm16 l Z av0 hw [] b_4 (0 : Int32) sx_1 sb_1 sk_1 w (0 : Int32) [] T_8.heap n0 Z0__8 Fq_8 Ft_8 c86 c87 c88 c85 hw0 c89) hZ_6 (ow hw 91 rfl) (ow hw 32 rfl) (by decide) (by decide)) q_10a q_10c (g := (mkF m 121 #[iv p0, iv p1, iv p2, iv p3, iv p4, iv 0, iv 0, iv x0, iv x1, iv x2, rv sx_1, rv sx_2, rv sx_3, rv b_4, iv 1, iv 1, iv 0, oU, oU, oU, oU] [(.ref b_4)])) rfl (by rw [hml]; rfl) (Steps.refl _) (argsL := []) (rest := []) (lenOf pd_3 rfl) rfl (by show 2 * 0 + _ ≤ _; exact Nat.le_of_eq rfl) (hb hby at_121) (fun _ _ => ⟨rfl, e_9, (by decide : 23 + 0 ≤ _), (by decide : 129 + 0 ≤ _)⟩)
    dsimp only [Pt.U, Pt.locs, Pt.cells, Pt.slots] at X_10 l_10 y_10 z_10 st_10 hQ_10
    subst l_10 y_10 z_10
    obtain ⟨hv_10, N_10q, e_10⟩ := hQ_10
    have N_10 := Fr.app N_9 N_10q
    rw [show own_ge (0 : Int32) (0 : Int32) = (1 : Int32) from by decide] at hv_10
    subst hv_10
    refine og (fun t k => st_10.trans k) ?_
    refine og (B := T_10.setTop (mkF m 130 #[iv p0, iv p1, iv p2, iv p3, iv p4, iv 0, iv 0, iv x0, iv x1, iv x2, rv sx_1, rv sx_2, rv sx_3, rv b_4, iv 1, iv 1, iv 0, iv 1, oU, oU, oU] [(.ref sx_3), (.ref b_4)])) (fun t k => ?_) ?_
    · refine XS.istore X_10.here hx rfl (hb hby at_124) rfl (l' := #[iv p0, iv p1, iv p2, iv p3, iv p4, iv 0, iv 0, iv x0, iv x1, iv x2, rv sx_1, rv sx_2, rv sx_3, rv b_4, iv 1, iv 1, iv 0, iv 1, oU, oU, oU]) rfl ?_
      refine XS.aload X_10.here hx rfl (hb hby at_126) rfl rfl ?_
      refine XS.aload X_10.here hx rfl (hb hby at_128) rfl rfl ?_
      exact k
    obtain ⟨cq_11, kq_11, q_11a, q_11b, q_11c⟩ := isOf hZ_6 e_10 c98
    obtain ⟨_, _, ⟨T_11, L_11, k_11, n_11⟩, -, X_11, ⟨Lc_11, hQ_11, l_11, y_11, z_11⟩, st_11⟩ := X_10.virtualBack hx (y := own_m18) (z := own_m18) hown_6 (mvT hZ_6 (ow hw 95 rfl)) (mvT hZ_6 (ow hw 96 rfl)) (notFace_of_selects (args := #[]) (mvT hZ_6 (ow hw 98 rfl))) (mvT hZ_6 (ow hw 98 rfl)) (mvT hZ_6 (ow hw 97 rfl)) (by decide) (backOf (W := 0) (rmco l Z av0 hw [] b_4 sx_3 sx_1 (0 : Int32) sb_1 sb_3 sk_1 sk_3 w (0 : Int32) (0 : Int32) [] [] T_8.heap n0 Z0__8 c98 Ft_8 Fq_8 g_b_4 c86 c87 c88 c94 c95 c96 c85 hw0 c89 c97 ne_sx_3_b_4 ne_sb_3_b_4 (by decide) (by decide) (rmmm0 l Z av0 hw [] sb_1 (0 : Int32) sb_3 sk_1 sk_3 (0 : Int32) []  T_8.heap n0 Z0__8 c89 c97 )) hZ_6 (ow hw 99 rfl) (ow hw 32 rfl) (by decide) (by decide)) q_11a q_11c (g := (mkF m 130 #[iv p0, iv p1, iv p2, iv p3, iv p4, iv 0, iv 0, iv x0, iv x1, iv x2, rv sx_1, rv sx_2, rv sx_3, rv b_4, iv 1, iv 1, iv 0, iv 1, oU, oU, oU] [(.ref sx_3), (.ref b_4)])) rfl (by rw [hml]; rfl) (Steps.refl _) (argsL := [(.ref sx_3)]) (rest := []) (lenOf pd_15 rfl) rfl (by show 2 * 0 + _ ≤ _; exact Nat.le_of_eq rfl) (hb hby at_130) (fun _ _ => ⟨rfl, e_10, (by decide : 23 + 0 ≤ _), (by decide : 129 + 0 ≤ _)⟩)
    dsimp only [Pt.U, Pt.locs, Pt.cells, Pt.slots] at X_11 l_11 y_11 z_11 st_11 hQ_11
    subst l_11 y_11 z_11
    obtain ⟨rfl, N_11q, K_11, Fp_11, Ft_11⟩ := hQ_11
    have N_11 := Fr.app N_10 N_11q
    have c99 := Safe.keep K_11 (allS c81 all0) c82.1 c81
    have c100 := c82.trans (CHr.keep K_11 (allS c81 all0) c82.1)
    have c101 := Nat.le_trans c83 K_11.1
    have c102 := c84.trans K_11 (allS (Or.inr sz_b_4) all0)
    have c103 := own_stake c85 K_11 c98
    have c104 := c86.keep K_11
    have c105 := c87.keep K_11 (ninS ne_sx_1_b_4 nin0)
    have c106 := c88.keep K_11 (ninS ne_sx_1_b_4 nin0)
    have c107 := c89.keep K_11 (ninS ne_sb_1_b_4 nin0)
    have c108 := c90.keep K_11
    have c109 := c91.keep K_11 (ninS ne_sx_2_b_4 nin0)
    have c110 := c92.keep K_11 (ninS ne_sx_2_b_4 nin0)
    have c111 := c93.keep K_11 (ninS ne_sb_2_b_4 nin0)
    have c112 := c94.keep K_11
    have c113 := c95.keep K_11 (ninS ne_sx_3_b_4 nin0)
    have c114 := c96.keep K_11 (ninS ne_sx_3_b_4 nin0)
    have c115 := c97.keep K_11 (ninS ne_sb_3_b_4 nin0)
    have c116 := c98.keep K_11
    have Z0__11 : n0 ≤ T_11.heap.size := Nat.le_trans Z0__8 K_11.1
    have Fq_11 : Fld Z T_11.heap b_4 "com/example/cutoff/cutoff/store/TextCursor" "position" "I" (.int (0 : Int32)) := Fp_11
    refine og (fun t k => st_11.trans k) ?_
    refine og (B := T_11.setTop (mkF m 137 #[iv p0, iv p1, iv p2, iv p3, iv p4, iv 0, iv 0, iv x0, iv x1, iv x2, rv sx_1, rv sx_2, rv sx_3, rv b_4, iv 1, iv 1, iv 0, iv 1, iv 1, oU, oU] [(.ref b_4)])) (fun t k => ?_) ?_
    · refine XS.istore X_11.here hx rfl (hb hby at_133) rfl (l' := #[iv p0, iv p1, iv p2, iv p3, iv p4, iv 0, iv 0, iv x0, iv x1, iv x2, rv sx_1, rv sx_2, rv sx_3, rv b_4, iv 1, iv 1, iv 0, iv 1, iv 1, oU, oU]) rfl ?_
      refine XS.aload X_11.here hx rfl (hb hby at_135) rfl rfl ?_
      exact k
    obtain ⟨cq_12, kq_12, q_12a, q_12b, q_12c⟩ := isOf hZ_6 rfl c116
    obtain ⟨_, _, ⟨T_12, L_12, k_12, n_12⟩, -, X_12, ⟨Lc_12, hQ_12, l_12, y_12, z_12⟩, st_12⟩ := X_11.virtualBack hx (y := own_m22) (z := own_m22) hown_6 (mvT hZ_6 (ow hw 114 rfl)) (mvT hZ_6 (ow hw 115 rfl)) (notFace_of_selects (args := #[]) (mvT hZ_6 (ow hw 117 rfl))) (mvT hZ_6 (ow hw 117 rfl)) (mvT hZ_6 (ow hw 116 rfl)) (by decide) (backOf (W := 0) (rm21 l Z av0 hw [] b_4 (0 : Int32) T_11.heap n0 Z0__11 Fq_11) hZ_6 (ow hw 118 rfl) (ow hw 32 rfl) (by decide) (by decide)) q_12a q_12c (g := (mkF m 137 #[iv p0, iv p1, iv p2, iv p3, iv p4, iv 0, iv 0, iv x0, iv x1, iv x2, rv sx_1, rv sx_2, rv sx_3, rv b_4, iv 1, iv 1, iv 0, iv 1, iv 1, oU, oU] [(.ref b_4)])) rfl (by rw [hml]; rfl) (Steps.refl _) (argsL := []) (rest := []) (lenOf pd_4 rfl) rfl (by show 2 * 0 + _ ≤ _; exact Nat.le_of_eq rfl) (hb hby at_137) (fun _ _ => ⟨rfl, rfl, (by decide : 23 + 0 ≤ _), (by decide : 129 + 0 ≤ _)⟩)
    dsimp only [Pt.U, Pt.locs, Pt.cells, Pt.slots] at X_12 l_12 y_12 z_12 st_12 hQ_12
    subst l_12 y_12 z_12
    obtain ⟨rfl, N_12q, e_12⟩ := hQ_12
    have N_12 := Fr.app N_11 N_12q
    refine og (fun t k => st_12.trans k) ?_
    refine og (B := T_12.setTop (mkF m 144 #[iv p0, iv p1, iv p2, iv p3, iv p4, iv 0, iv 0, iv x0, iv x1, iv x2, rv sx_1, rv sx_2, rv sx_3, rv b_4, iv 1, iv 1, iv 0, iv 1, iv 1, iv 0, oU] [(.ref b_4)])) (fun t k => ?_) ?_
    · refine XS.istore X_12.here hx rfl (hb hby at_140) rfl (l' := #[iv p0, iv p1, iv p2, iv p3, iv p4, iv 0, iv 0, iv x0, iv x1, iv x2, rv sx_1, rv sx_2, rv sx_3, rv b_4, iv 1, iv 1, iv 0, iv 1, iv 1, iv 0, oU]) rfl ?_
      refine XS.aload X_12.here hx rfl (hb hby at_142) rfl rfl ?_
      exact k
    obtain ⟨cq_13, kq_13, q_13a, q_13b, q_13c⟩ := isOf hZ_6 e_12 c116
    obtain ⟨_, _, ⟨T_13, L_13, k_13, n_13⟩, -, X_13, ⟨Lc_13, hQ_13, l_13, y_13, z_13⟩, st_13⟩ := X_12.virtualBack hx (y := own_m17) (z := own_m17) hown_6 (mvT hZ_6 (ow hw 87 rfl)) (mvT hZ_6 (ow hw 88 rfl)) (notFace_of_selects (args := #[]) (mvT hZ_6 (ow hw 90 rfl))) (mvT hZ_6 (ow hw 90 rfl)) (mvT hZ_6 (ow hw 89 rfl)) (by decide) (backOf (W := 0) (rm16 l Z av0 hw [] b_4 (0 : Int32) sx_1 sb_1 sk_1 w (0 : Int32) [] T_11.heap n0 Z0__11 Fq_11 Ft_11 c104 c105 c106 c103 hw0 c107) hZ_6 (ow hw 91 rfl) (ow hw 32 rfl) (by decide) (by decide)) q_13a q_13c (g := (mkF m 144 #[iv p0, iv p1, iv p2, iv p3, iv p4, iv 0, iv 0, iv x0, iv x1, iv x2, rv sx_1, rv sx_2, rv sx_3, rv b_4, iv 1, iv 1, iv 0, iv 1, iv 1, iv 0, oU] [(.ref b_4)])) rfl (by rw [hml]; rfl) (Steps.refl _) (argsL := []) (rest := []) (lenOf pd_3 rfl) rfl (by show 2 * 0 + _ ≤ _; exact Nat.le_of_eq rfl) (hb hby at_144) (fun _ _ => ⟨rfl, e_12, (by decide : 23 + 0 ≤ _), (by decide : 129 + 0 ≤ _)⟩)
    dsimp only [Pt.U, Pt.locs, Pt.cells, Pt.slots] at X_13 l_13 y_13 z_13 st_13 hQ_13
    subst l_13 y_13 z_13
    obtain ⟨hv_13, N_13q, e_13⟩ := hQ_13
    have N_13 := Fr.app N_12 N_13q
    rw [show own_ge (0 : Int32) (0 : Int32) = (1 : Int32) from by decide] at hv_13
    subst hv_13
    refine og (fun t k => st_13.trans k) ?_
    refine og (B := T_13.setTop (mkF m 153 #[iv p0, iv p1, iv p2, iv p3, iv p4, iv 0, iv 0, iv x0, iv x1, iv x2, rv sx_1, rv sx_2, rv sx_3, rv b_4, iv 1, iv 1, iv 0, iv 1, iv 1, iv 0, iv 1] [(.int 0), (.int 1)])) (fun t k => ?_) ?_
    · refine XS.istore X_13.here hx rfl (hb hby at_147) rfl (l' := #[iv p0, iv p1, iv p2, iv p3, iv p4, iv 0, iv 0, iv x0, iv x1, iv x2, rv sx_1, rv sx_2, rv sx_3, rv b_4, iv 1, iv 1, iv 0, iv 1, iv 1, iv 0, iv 1]) rfl ?_
      refine XS.iload X_13.here hx rfl (hb hby at_149) rfl ?_
      refine XS.iload X_13.here hx rfl (hb hby at_151) rfl ?_
      exact k
    refine og (B := T_13.setTop (mkF m 156 #[iv p0, iv p1, iv p2, iv p3, iv p4, iv 0, iv 0, iv x0, iv x1, iv x2, rv sx_1, rv sx_2, rv sx_3, rv b_4, iv 1, iv 1, iv 0, iv 1, iv 1, iv 0, iv 1] [(.int 1)])) (fun t k => ?_) ?_
    · refine XS.ifNo X_13.here hx rfl (hb hby at_153) rfl ((if0 _ _).trans (teq (by decide : (0 : Int32) = (0 : Int32))).2) ?_
      exact k
    refine og (B := T_13.setTop (mkF m 161 #[iv p0, iv p1, iv p2, iv p3, iv p4, iv 0, iv 0, iv x0, iv x1, iv x2, rv sx_1, rv sx_2, rv sx_3, rv b_4, iv 1, iv 1, iv 0, iv 1, iv 1, iv 0, iv 1] [(.int 1), (.int 1)])) (fun t k => ?_) ?_
    · refine XS.iconst X_13.here hx rfl (hb hby at_156) ?_
      refine XS.goto X_13.here hx rfl (pc0 := 157) (pc' := 161) rfl (hb hby at_157) (by decide) (by decide) ?_
      exact k
    refine og (B := T_13.setTop (mkF m 164 #[iv p0, iv p1, iv p2, iv p3, iv p4, iv 0, iv 0, iv x0, iv x1, iv x2, rv sx_1, rv sx_2, rv sx_3, rv b_4, iv 1, iv 1, iv 0, iv 1, iv 1, iv 0, iv 1] [])) (fun t k => ?_) ?_
    · refine XS.icmpNo X_13.here hx rfl (hb hby at_161) rfl (teq (by decide : (1 : Int32) = (1 : Int32))).2 ?_
      exact k
    refine og (B := T_13.setTop (mkF m 166 #[iv p0, iv p1, iv p2, iv p3, iv p4, iv 0, iv 0, iv x0, iv x1, iv x2, rv sx_1, rv sx_2, rv sx_3, rv b_4, iv 1, iv 1, iv 0, iv 1, iv 1, iv 0, iv 1] [(.int 1)])) (fun t k => ?_) ?_
    · refine XS.iload X_13.here hx rfl (hb hby at_164) rfl ?_
      exact k
    refine og (B := T_13.setTop (mkF m 169 #[iv p0, iv p1, iv p2, iv p3, iv p4, iv 0, iv 0, iv x0, iv x1, iv x2, rv sx_1, rv sx_2, rv sx_3, rv b_4, iv 1, iv 1, iv 0, iv 1, iv 1, iv 0, iv 1] [])) (fun t k => ?_) ?_
    · refine XS.ifNo X_13.here hx rfl (hb hby at_166) rfl ((if0 _ _).trans (feq (by decide : ¬ ((1 : Int32) = (0 : Int32)))).1) ?_
      exact k
    refine og (B := T_13.setTop (mkF m 173 #[iv p0, iv p1, iv p2, iv p3, iv p4, iv 0, iv 0, iv x0, iv x1, iv x2, rv sx_1, rv sx_2, rv sx_3, rv b_4, iv 1, iv 1, iv 0, iv 1, iv 1, iv 0, iv 1] [(.int 0), (.int 0)])) (fun t k => ?_) ?_
    · refine XS.iload X_13.here hx rfl (hb hby at_169) rfl ?_
      refine XS.iload X_13.here hx rfl (hb hby at_171) rfl ?_
      exact k
    refine og (B := T_13.setTop (mkF m 176 #[iv p0, iv p1, iv p2, iv p3, iv p4, iv 0, iv 0, iv x0, iv x1, iv x2, rv sx_1, rv sx_2, rv sx_3, rv b_4, iv 1, iv 1, iv 0, iv 1, iv 1, iv 0, iv 1] [])) (fun t k => ?_) ?_
    · refine XS.icmpNo X_13.here hx rfl (hb hby at_173) rfl (teq (by decide : (0 : Int32) = (0 : Int32))).2 ?_
      exact k
    refine og (B := T_13.setTop (mkF m 182 #[iv p0, iv p1, iv p2, iv p3, iv p4, iv 0, iv 0, iv x0, iv x1, iv x2, rv sx_1, rv sx_2, rv sx_3, rv b_4, iv 1, iv 1, iv 0, iv 1, iv 1, iv 0, iv 1] [(.int 0), (.int 0), (.int 1)])) (fun t k => ?_) ?_
    · refine XS.iload X_13.here hx rfl (hb hby at_176) rfl ?_
      refine XS.iload X_13.here hx rfl (hb hby at_178) rfl ?_
      refine XS.iload X_13.here hx rfl (hb hby at_180) rfl ?_
      exact k
    refine og (B := T_13.setTop (mkF m 185 #[iv p0, iv p1, iv p2, iv p3, iv p4, iv 0, iv 0, iv x0, iv x1, iv x2, rv sx_1, rv sx_2, rv sx_3, rv b_4, iv 1, iv 1, iv 0, iv 1, iv 1, iv 0, iv 1] [(.int 1)])) (fun t k => ?_) ?_
    · refine XS.icmpNo X_13.here hx rfl (hb hby at_182) rfl (teq (by decide : (0 : Int32) = (0 : Int32))).2 ?_
      exact k
    refine og (B := T_13.setTop (mkF m 190 #[iv p0, iv p1, iv p2, iv p3, iv p4, iv 0, iv 0, iv x0, iv x1, iv x2, rv sx_1, rv sx_2, rv sx_3, rv b_4, iv 1, iv 1, iv 0, iv 1, iv 1, iv 0, iv 1] [(.int 1), (.int 1)])) (fun t k => ?_) ?_
    · refine XS.iconst X_13.here hx rfl (hb hby at_185) ?_
      refine XS.goto X_13.here hx rfl (pc0 := 186) (pc' := 190) rfl (hb hby at_186) (by decide) (by decide) ?_
      exact k
    refine og (B := T_13.setTop (mkF m 193 #[iv p0, iv p1, iv p2, iv p3, iv p4, iv 0, iv 0, iv x0, iv x1, iv x2, rv sx_1, rv sx_2, rv sx_3, rv b_4, iv 1, iv 1, iv 0, iv 1, iv 1, iv 0, iv 1] [])) (fun t k => ?_) ?_
    · refine XS.icmpNo X_13.here hx rfl (hb hby at_190) rfl (teq (by decide : (1 : Int32) = (1 : Int32))).2 ?_
      exact k
    refine og (B := T_13.setTop (mkF m 195 #[iv p0, iv p1, iv p2, iv p3, iv p4, iv 0, iv 0, iv x0, iv x1, iv x2, rv sx_1, rv sx_2, rv sx_3, rv b_4, iv 1, iv 1, iv 0, iv 1, iv 1, iv 0, iv 1] [(.int 1)])) (fun t k => ?_) ?_
    · refine XS.iload X_13.here hx rfl (hb hby at_193) rfl ?_
      exact k
    refine og (B := T_13.setTop (mkF m 198 #[iv p0, iv p1, iv p2, iv p3, iv p4, iv 0, iv 0, iv x0, iv x1, iv x2, rv sx_1, rv sx_2, rv sx_3, rv b_4, iv 1, iv 1, iv 0, iv 1, iv 1, iv 0, iv 1] [])) (fun t k => ?_) ?_
    · refine XS.ifNo X_13.here hx rfl (hb hby at_195) rfl ((if0 _ _).trans (feq (by decide : ¬ ((1 : Int32) = (0 : Int32)))).1) ?_
      exact k
    refine og (B := T_13.setTop (mkF m 202 #[iv p0, iv p1, iv p2, iv p3, iv p4, iv 0, iv 0, iv x0, iv x1, iv x2, rv sx_1, rv sx_2, rv sx_3, rv b_4, iv 1, iv 1, iv 0, iv 1, iv 1, iv 0, iv 1] [(.int 0), (.int 0)])) (fun t k => ?_) ?_
    · refine XS.iload X_13.here hx rfl (hb hby at_198) rfl ?_
      refine XS.iload X_13.here hx rfl (hb hby at_200) rfl ?_
      exact k
    refine og (B := T_13.setTop (mkF m 205 #[iv p0, iv p1, iv p2, iv p3, iv p4, iv 0, iv 0, iv x0, iv x1, iv x2, rv sx_1, rv sx_2, rv sx_3, rv b_4, iv 1, iv 1, iv 0, iv 1, iv 1, iv 0, iv 1] [])) (fun t k => ?_) ?_
    · refine XS.icmpNo X_13.here hx rfl (hb hby at_202) rfl (teq (by decide : (0 : Int32) = (0 : Int32))).2 ?_
      exact k
    refine og (B := T_13.setTop (mkF m 207 #[iv p0, iv p1, iv p2, iv p3, iv p4, iv 0, iv 0, iv x0, iv x1, iv x2, rv sx_1, rv sx_2, rv sx_3, rv b_4, iv 1, iv 1, iv 0, iv 1, iv 1, iv 0, iv 1] [(.int 1)])) (fun t k => ?_) ?_
    · refine XS.iload X_13.here hx rfl (hb hby at_205) rfl ?_
      exact k
    refine og (B := T_13.setTop (mkF m 210 #[iv p0, iv p1, iv p2, iv p3, iv p4, iv 0, iv 0, iv x0, iv x1, iv x2, rv sx_1, rv sx_2, rv sx_3, rv b_4, iv 1, iv 1, iv 0, iv 1, iv 1, iv 0, iv 1] [])) (fun t k => ?_) ?_
    · refine XS.ifNo X_13.here hx rfl (hb hby at_207) rfl ((if0 _ _).trans (feq (by decide : ¬ ((1 : Int32) = (0 : Int32)))).1) ?_
      exact k
    refine og (B := T_13.setTop (mkF m 215 #[iv p0, iv p1, iv p2, iv p3, iv p4, iv 0, iv 0, iv x0, iv x1, iv x2, rv sx_1, rv sx_2, rv sx_3, rv b_4, iv 1, iv 1, iv 0, iv 1, iv 1, iv 0, iv 1] [(.int 1)])) (fun t k => ?_) ?_
    · refine XS.iconst X_13.here hx rfl (hb hby at_210) ?_
      refine XS.goto X_13.here hx rfl (pc0 := 211) (pc' := 215) rfl (hb hby at_211) (by decide) (by decide) ?_
      exact k
    obtain ⟨fs, hr, hrun, hended, hRW⟩ := X_13.leaveW Si_6 (by rw [e_13]; exact c101) (v := some (.int 1)) (fun h => by rw [Bd.returns] at h; cases h)
    refine ⟨_, _, ?_, hrun, hended, _, _, rfl, ?_, hRW.1, hRW.2.1, hRW.2.2.1, hRW.2.2.2.mono (by decide) (by decide)⟩
    · show Steps p.tables e below (T_13.setTop (mkF m 215 #[iv p0, iv p1, iv p2, iv p3, iv p4, iv 0, iv 0, iv x0, iv x1, iv x2, rv sx_1, rv sx_2, rv sx_3, rv b_4, iv 1, iv 1, iv 0, iv 1, iv 1, iv 0, iv 1] [(.int 1)])) _
      exact retN X_13 hx (t := .boolean) Bd.returns (by simp) (hb hby at_215) hr
    · show Q0 Z p0 p1 p2 p3 p4 w h0 n0 _ T_13.heap _
      rw [e_13]
      exact ⟨rfl, N_13, trivial⟩
  · show ∃ s₂ o, Steps p.tables e below (s₁.setTop (mkF m 49 #[iv p0, iv p1, iv p2, iv p3, iv p4, iv 1, iv 0, iv x0, iv x1, iv x2, oU, oU, oU, oU, oU, oU, oU, oU, oU, oU, oU] [(.int 1), (.int x2), (.int x1), (.int x0)])) s₂ ∧ _
    have kk_14 := K0
    obtain ⟨_, _, ⟨T_14, L_14, k_14, n_14⟩, -, X_14, ⟨Lc_14, hQ_14, l_14, y_14, z_14⟩, st_14⟩ := Jvm.LawKit.callS X0 hx (y := own_m2) hown (mvT hZ (ow hw 1 rfl)) (mvT hZ (ow hw 2 rfl)) (mvT hZ (ow hw 3 rfl)) (mvT hZ (ow hw 4 rfl)) (by decide) (backOf (W := 0) (rmstr1 l Z av0 hw [] x0 x1 x2 w h0 n0 Z0 S_COMPACT_STRINGS hw0 hxq0) hZ (ow hw 4 rfl) (ow hw 3 rfl) (by decide) (by decide)) (g := (mkF m 49 #[iv p0, iv p1, iv p2, iv p3, iv p4, iv 1, iv 0, iv x0, iv x1, iv x2, oU, oU, oU, oU, oU, oU, oU, oU, oU, oU, oU] [(.int 1), (.int x2), (.int x1), (.int x0)])) rfl (by rw [hml]; rfl) (argsL := [(.int x0), (.int x1), (.int x2), (.int 1)]) (rest := []) (lenOf pd_11 rfl) rfl (by show 2 * 0 + _ ≤ _; exact Nat.le_of_eq rfl) (hb hby at_49) (fun _ _ => ⟨rfl, e0, (by decide : 0 + 3 ≤ _), (by decide : 0 + 6 ≤ _)⟩)
    dsimp only [Pt.U, Pt.locs, Pt.cells, Pt.slots] at X_14 l_14 y_14 z_14 st_14 hQ_14
    subst l_14 y_14 z_14
    obtain ⟨sx_14, sb_14, sk_14, rfl, N_14q, K_14, szq_14, sE_14, sc_14, sv_14, sV_14⟩ := hQ_14
    have N_14 := Fr.app N0 N_14q
    have c117 := H1.trans (CHr.keep K_14 all0 H1.1)
    have c118 := K0.trans K_14 all0
    have c119 := own_stak S_COMPACT_STRINGS K_14
    have Z0__14 : n0 ≤ T_14.heap.size := Nat.le_trans Z0 K_14.1
    have sz_sx_14 : h0.size ≤ sx_14 := Nat.le_trans kk_14.1 szq_14
    refine og (fun t k => st_14 t k) ?_
    refine og (B := T_14.setTop (mkF m 62 #[iv p0, iv p1, iv p2, iv p3, iv p4, iv 1, iv 0, iv x0, iv x1, iv x2, rv sx_14, oU, oU, oU, oU, oU, oU, oU, oU, oU, oU] [(.int 0), (.int x2), (.int x1), (.int x0)])) (fun t k => ?_) ?_
    · refine XS.astore X_14.here hx rfl (hb hby at_52) rfl rfl (l' := #[iv p0, iv p1, iv p2, iv p3, iv p4, iv 1, iv 0, iv x0, iv x1, iv x2, rv sx_14, oU, oU, oU, oU, oU, oU, oU, oU, oU, oU]) rfl ?_
      refine XS.iload X_14.here hx rfl (hb hby at_54) rfl ?_
      refine XS.iload X_14.here hx rfl (hb hby at_56) rfl ?_
      refine XS.iload X_14.here hx rfl (hb hby at_58) rfl ?_
      refine XS.iload X_14.here hx rfl (hb hby at_60) rfl ?_
      exact k
    have kk_15 := c118
    obtain ⟨_, _, ⟨T_15, L_15, k_15, n_15⟩, -, Xb_15, Sb_15, gs_15, ⟨Lc_15, hQ_15, l_15, y_15, z_15, CH_15⟩, st_15⟩ := callSS (show Stand p l e room_1 (s.setVm s.vm) m #[(.int p0), (.int p1), (.int p2), (.int p3), (.int p4)] below meth c T_14 _ _ _ from X_14) hx (y := own_m2) hown (mvT hZ (ow hw 1 rfl)) (mvT hZ (ow hw 2 rfl)) (mvT hZ (ow hw 3 rfl)) (mvT hZ (ow hw 4 rfl)) (by decide) (backOfSH (s := s) (vm0 := s.vm) (W := 0) (rmstr0 l Z av0 hw [] x0 x1 x2  T_14.heap n0 Z0__14 hEL) hZ (ow hw 4 rfl) (ow hw 3 rfl) (by decide) (by decide) hEL c117.1) (g := (mkF m 62 #[iv p0, iv p1, iv p2, iv p3, iv p4, iv 1, iv 0, iv x0, iv x1, iv x2, rv sx_14, oU, oU, oU, oU, oU, oU, oU, oU, oU, oU] [(.int 0), (.int x2), (.int x1), (.int x0)])) rfl (by rw [hml]; rfl) (argsL := [(.int x0), (.int x1), (.int x2), (.int 0)]) (rest := []) (lenOf pd_11 rfl) rfl (by show 2 * 0 + _ ≤ _; exact Nat.le_of_eq rfl) (hb hby at_62) (fun _ _ => ⟨rfl, rfl, (by decide : 3 + 6 ≤ _), (by decide : 6 + 12 ≤ _)⟩)
    dsimp only [Pt.U, Pt.locs, Pt.cells, Pt.slots] at Xb_15 Sb_15 gs_15 l_15 y_15 z_15 st_15 hQ_15 CH_15
    subst l_15 y_15 z_15
    obtain ⟨sx_15, sb_15, sk_15, rfl, N_15q, K_15, szq_15, sE_15, sc_15, sv_15, sV_15⟩ := hQ_15
    have N_15 := Fr.app N_14 N_15q
    obtain ⟨X_15, Si_15, hZ_15, hown_15⟩ := rebS (s := s) (vm0 := s.vm) ((State.WarmedH.refl s).since 0) (Nat.zero_le 0) Xb_15 Sb_15 (Nat.zero_le _) hZ hown
    have c120 := c117.trans CH_15
    have c121 := c118.trans K_15 all0
    have c122 := own_stak c119 K_15
    have c123 := sE_14.keep K_15
    have c124 := sc_14.keep K_15 nin0
    have c125 := sv_14.keep K_15 nin0
    have c126 := sV_14.keep K_15 nin0
    have Z0__15 : n0 ≤ T_15.heap.size := Nat.le_trans Z0__14 K_15.1
    have sz_sx_15 : h0.size ≤ sx_15 := Nat.le_trans kk_15.1 szq_15
    refine og (fun t k => st_15.trans k) ?_
    refine og (B := T_15.setTop (mkF m 77 #[iv p0, iv p1, iv p2, iv p3, iv p4, iv 1, iv 0, iv x0, iv x1, iv x2, rv sx_14, rv sx_15, oU, oU, oU, oU, oU, oU, oU, oU, oU] [(.int 1), (.int 0), (.int x2), (.int x1), (.int x0)])) (fun t k => ?_) ?_
    · refine XS.astore X_15.here hx rfl (hb hby at_65) rfl rfl (l' := #[iv p0, iv p1, iv p2, iv p3, iv p4, iv 1, iv 0, iv x0, iv x1, iv x2, rv sx_14, rv sx_15, oU, oU, oU, oU, oU, oU, oU, oU, oU]) rfl ?_
      refine XS.iload X_15.here hx rfl (hb hby at_67) rfl ?_
      refine XS.iload X_15.here hx rfl (hb hby at_69) rfl ?_
      refine XS.iload X_15.here hx rfl (hb hby at_71) rfl ?_
      refine XS.iload X_15.here hx rfl (hb hby at_73) rfl ?_
      refine XS.iload X_15.here hx rfl (hb hby at_75) rfl ?_
      exact k
    have kk_16 := c121
    obtain ⟨_, _, ⟨T_16, L_16, k_16, n_16⟩, -, X_16, ⟨Lc_16, hQ_16, l_16, y_16, z_16⟩, st_16⟩ := Jvm.LawKit.callS X_15 hx (y := own_m6) hown_15 (mvT hZ_15 (ow hw 27 rfl)) (mvT hZ_15 (ow hw 28 rfl)) (mvT hZ_15 (ow hw 3 rfl)) (mvT hZ_15 (ow hw 29 rfl)) (by decide) (backOf (W := 0) (rmsfx0_1 l Z av0 hw [] x0 x1 x2 w T_15.heap n0 Z0__15 c122 hw0 hxq0) hZ_15 (ow hw 29 rfl) (ow hw 3 rfl) (by decide) (by decide)) (g := (mkF m 77 #[iv p0, iv p1, iv p2, iv p3, iv p4, iv 1, iv 0, iv x0, iv x1, iv x2, rv sx_14, rv sx_15, oU, oU, oU, oU, oU, oU, oU, oU, oU] [(.int 1), (.int 0), (.int x2), (.int x1), (.int x0)])) rfl (by rw [hml]; rfl) (argsL := [(.int x0), (.int x1), (.int x2), (.int 0), (.int 1)]) (rest := []) (lenOf pd_16 rfl) rfl (by show 2 * 0 + _ ≤ _; exact Nat.le_of_eq rfl) (hb hby at_77) (fun _ _ => ⟨rfl, rfl, (by decide : 9 + 3 ≤ _), (by decide : 18 + 6 ≤ _)⟩)
    dsimp only [Pt.U, Pt.locs, Pt.cells, Pt.slots] at X_16 l_16 y_16 z_16 st_16 hQ_16
    subst l_16 y_16 z_16
    obtain ⟨sx_16, sb_16, sk_16, rfl, N_16q, K_16, szq_16, sE_16, sc_16, sv_16, sV_16⟩ := hQ_16
    have N_16 := Fr.app N_15 N_16q
    have c127 := c120.trans (CHr.keep K_16 all0 c120.1)
    have c128 := Nat.le_trans (Nat.le_refl _) K_16.1
    have c129 := c121.trans K_16 all0
    have c130 := own_stak c122 K_16
    have c131 := c123.keep K_16
    have c132 := c124.keep K_16 nin0
    have c133 := c125.keep K_16 nin0
    have c134 := c126.keep K_16 nin0
    have c135 := sE_15.keep K_16
    have c136 := sc_15.keep K_16 nin0
    have c137 := sv_15.keep K_16 nin0
    have c138 := sV_15.keep K_16 nin0
    have Z0__16 : n0 ≤ T_16.heap.size := Nat.le_trans Z0__15 K_16.1
    have sz_sx_16 : h0.size ≤ sx_16 := Nat.le_trans kk_16.1 szq_16
    refine og (fun t k => st_16 t k) ?_
    refine og (B := T_16.setTop (mkF m 82 #[iv p0, iv p1, iv p2, iv p3, iv p4, iv 1, iv 0, iv x0, iv x1, iv x2, rv sx_14, rv sx_15, rv sx_16, oU, oU, oU, oU, oU, oU, oU, oU] [])) (fun t k => ?_) ?_
    · refine XS.astore X_16.here hx rfl (hb hby at_80) rfl rfl (l' := #[iv p0, iv p1, iv p2, iv p3, iv p4, iv 1, iv 0, iv x0, iv x1, iv x2, rv sx_14, rv sx_15, rv sx_16, oU, oU, oU, oU, oU, oU, oU, oU]) rfl ?_
      exact k
    obtain ⟨T_17, h_17, X_17, e_17, E_17, A_17, D_17, -, st_17⟩ := newO X_16 hx hZ_15 hown_15 (ow hw 30 rfl) (ow hw 31 rfl) (ow hw 32 rfl) rfl (g := (mkF m 82 #[iv p0, iv p1, iv p2, iv p3, iv p4, iv 1, iv 0, iv x0, iv x1, iv x2, rv sx_14, rv sx_15, rv sx_16, oU, oU, oU, oU, oU, oU, oU, oU] [])) rfl (hb hby at_82) (by decide) (by decide)
    obtain ⟨b_17, g_17⟩ : ∃ z, z = T_16.heap.size := ⟨_, rfl⟩
    rw [← g_17] at A_17 D_17 st_17
    have g_b_17 : n0 ≤ b_17 := Nat.le_trans Z0__16 (Nat.le_of_eq g_17.symm)
    have sz_b_17 : h0.size ≤ b_17 := Nat.le_trans c129.1 (Nat.le_of_eq g_17.symm)
    have sf_b_17 : Safe Z own_EL T_15.vm T_16.heap b_17 := Safe.new (Nat.le_of_eq g_17.symm)
    have ne_sx_14_b_17 : sx_14 ≠ b_17 := Nat.ne_of_lt (Nat.lt_of_lt_of_le (c131).lt (Nat.le_of_eq g_17.symm))
    have ne_sb_14_b_17 : sb_14 ≠ b_17 := Nat.ne_of_lt (Nat.lt_of_lt_of_le (c134).lt (Nat.le_of_eq g_17.symm))
    have ne_sx_15_b_17 : sx_15 ≠ b_17 := Nat.ne_of_lt (Nat.lt_of_lt_of_le (c135).lt (Nat.le_of_eq g_17.symm))
    have ne_sb_15_b_17 : sb_15 ≠ b_17 := Nat.ne_of_lt (Nat.lt_of_lt_of_le (c138).lt (Nat.le_of_eq g_17.symm))
    have ne_sx_16_b_17 : sx_16 ≠ b_17 := Nat.ne_of_lt (Nat.lt_of_lt_of_le (sE_16).lt (Nat.le_of_eq g_17.symm))
    have ne_sb_16_b_17 : sb_16 ≠ b_17 := Nat.ne_of_lt (Nat.lt_of_lt_of_le (sV_16).lt (Nat.le_of_eq g_17.symm))
    have c139 := Safe.ext E_17 c127.1 sf_b_17
    have c140 := c127.trans (CHr.ext E_17 c127.1)
    have c141 := Nat.le_trans c128 E_17.1
    have c142 := c129.ext E_17
    have c143 := c130.ext E_17
    have c144 := c131.ext E_17
    have c145 := c132.ext E_17
    have c146 := c133.ext E_17
    have c147 := c134.ext E_17
    have c148 := c135.ext E_17
    have c149 := c136.ext E_17
    have c150 := c137.ext E_17
    have c151 := c138.ext E_17
    have c152 := sE_16.ext E_17
    have c153 := sc_16.ext E_17
    have c154 := sv_16.ext E_17
    have c155 := sV_16.ext E_17
    have Z0__17 : n0 ≤ h_17.size := Nat.le_trans Z0__16 E_17.1
    have F_source_b_17 : Fld Z h_17 b_17 "com/example/cutoff/cutoff/store/TextCursor" "source" "Ljava/lang/String;" .null := D_17 (Or.inr (ow hw 39 rfl)) (ty := (.object "java/lang/String")) (by decide)
    have F_text_b_17 : Fld Z h_17 b_17 "com/example/cutoff/cutoff/store/TextCursor" "text" "Ljava/lang/String;" .null := D_17 (Or.inr (ow hw 41 rfl)) (ty := (.object "java/lang/String")) (by decide)
    have F_firstLine_b_17 : Fld Z h_17 b_17 "com/example/cutoff/cutoff/store/TextCursor" "firstLine" "I" (.int 0) := D_17 (Or.inr (ow hw 43 rfl)) (ty := .int) (by decide)
    have F_end_b_17 : Fld Z h_17 b_17 "com/example/cutoff/cutoff/store/TextCursor" "end" "Ljava/lang/String;" .null := D_17 (Or.inr (ow hw 86 rfl)) (ty := (.object "java/lang/String")) (by decide)
    have F_position_b_17 : Fld Z h_17 b_17 "com/example/cutoff/cutoff/store/TextCursor" "position" "I" (.int 0) := D_17 (Or.inl (ow hw 93 rfl)) (ty := .int) (by decide)
    refine og (fun t k => st_17 t k) ?_
    refine og (B := T_17.setTop (mkF m 86 #[iv p0, iv p1, iv p2, iv p3, iv p4, iv 1, iv 0, iv x0, iv x1, iv x2, rv sx_14, rv sx_15, rv sx_16, oU, oU, oU, oU, oU, oU, oU, oU] [(.ref b_17), (.ref b_17)])) (fun t k => ?_) ?_
    · refine XS.dup X_17.here hx rfl (hb hby at_85) rfl rfl ?_
      exact k
    have wS_18 := own_wS hw
    obtain ⟨b_18, T_18, h_18, k1_18, d_18, kc_18, X_18, e_18, E_18, Si_18, ls_18, hZ_18, hown_18, A_18, Fc_18, Fv_18, V_18, -, -, CH_18, -, NE_18, st_18⟩ := ldcCH (s := s) (vm0 := T_15.vm) X_17 hx hZ_15 hown_15 (ow hw 33 rfl) wS_18 e_17 Si_15 c141 hEL (List.mem_of_getElem? (i := 1) rfl) c140.1 (vs := [(.int (115 : Int32))]) (z := (1 : Int32)) ⟨by decide, rfl⟩ (by decide) rfl (g := (mkF m 86 #[iv p0, iv p1, iv p2, iv p3, iv p4, iv 1, iv 0, iv x0, iv x1, iv x2, rv sx_14, rv sx_15, rv sx_16, oU, oU, oU, oU, oU, oU, oU, oU] [(.ref b_17), (.ref b_17)])) rfl (hb hby at_86) (n := 4) (by decide) (by decide) (by decide) (by decide)
    have c156 := CHr.safe CH_18 (F_source_b_17).lt c139
    have c157 := c140.trans CH_18
    have ne_b_17_b_18 : b_17 ≠ b_18 := (NE_18 _ c156).1
    have ne_b_17_d_18 : b_17 ≠ d_18 := (NE_18 _ c156).2
    have c158 := c142.ext E_18
    have c159 := c143.ext E_18
    have c160 := c144.ext E_18
    have c161 := c145.ext E_18
    have c162 := c146.ext E_18
    have c163 := c147.ext E_18
    have c164 := c148.ext E_18
    have c165 := c149.ext E_18
    have c166 := c150.ext E_18
    have c167 := c151.ext E_18
    have c168 := c152.ext E_18
    have c169 := c153.ext E_18
    have c170 := c154.ext E_18
    have c171 := c155.ext E_18
    have c172 := F_source_b_17.ext E_18
    have c173 := F_text_b_17.ext E_18
    have c174 := F_firstLine_b_17.ext E_18
    have c175 := F_end_b_17.ext E_18
    have c176 := F_position_b_17.ext E_18
    have c177 := A_17.ext E_18
    have Z0__18 : n0 ≤ h_18.size := Nat.le_trans Z0__17 E_18.1
    refine og (fun t k => st_18 t k) ?_
    refine og (B := T_18.setTop (mkF m 91 #[iv p0, iv p1, iv p2, iv p3, iv p4, iv 1, iv 0, iv x0, iv x1, iv x2, rv sx_14, rv sx_15, rv sx_16, oU, oU, oU, oU, oU, oU, oU, oU] [(.int 1), (.ref sx_14), (.ref b_18), (.ref b_17), (.ref b_17)])) (fun t k => ?_) ?_
    · refine XS.aload X_18.here hx rfl (hb hby at_88) rfl rfl ?_
      refine XS.iconst X_18.here hx rfl (hb hby at_90) ?_
      exact k
    obtain ⟨_, _, ⟨T_19, L_19, k_19, n_19⟩, -, Xb_19, Sb_19, gs_19, ⟨Lc_19, hQ_19, l_19, y_19, z_19, CH_19⟩, st_19⟩ := X_18.specialBackS hx (y := own_m7) rfl hown_18 (mvT hZ_18 (ow hw 34 rfl)) (mvT hZ_18 (ow hw 35 rfl)) (mvT hZ_18 (ow hw 36 rfl)) (by decide) (backOfSH (s := s) (vm0 := T_18.vm) (W := 1) (rmtc l Z av0 hw [] b_17 b_18 sx_14 .null .null (.int 0) .null sb_14 sk_14 w (1 : Int32) [(.int (own_byte (nar .char x0)))] (fun c => own_ixl1 (own_byte (nar .char x0)) c) h_18 n0 Z0__18 c177 c172 c173 c174 c175 c176 g_b_17 c160 c161 c162 c159 hw0 c163 ne_sx_14_b_17 ne_sb_14_b_17 hEL (fun h' c z e f1 f2 s v => rmsxa1 l Z av0 hw [] sx_14 c sb_14 sk_14 w (own_byte (nar .char x0)) h' n0 z e f1 f2 s hw0 v)) hZ_18 (ow hw 36 rfl) (ow hw 32 rfl) (by decide) (by decide) hEL c157.1) (g := (mkF m 91 #[iv p0, iv p1, iv p2, iv p3, iv p4, iv 1, iv 0, iv x0, iv x1, iv x2, rv sx_14, rv sx_15, rv sx_16, oU, oU, oU, oU, oU, oU, oU, oU] [(.int 1), (.ref sx_14), (.ref b_18), (.ref b_17), (.ref b_17)])) rfl (by rw [hml]; rfl) (Steps.refl _) (a := b_17) (argsL := [(.ref b_18), (.ref sx_14), (.int 1)]) (rest := [(.ref b_17)]) (lenOf pd_17 rfl) rfl (by show 2 * 0 + _ ≤ _; exact Nat.le_of_eq rfl) (hb hby at_91) (fun _ _ => ⟨rfl, e_18, (by decide : 15 + 2 ≤ _), (by decide : 37 + 80 ≤ _)⟩)
    dsimp only [Pt.U, Pt.locs, Pt.cells, Pt.slots] at Xb_19 Sb_19 gs_19 l_19 y_19 z_19 st_19 hQ_19 CH_19
    subst l_19 y_19 z_19
    obtain ⟨rfl, N_19q, K_19, Ft_19, Fp_19⟩ := hQ_19
    have N_19 := Fr.app N_16 N_19q
    obtain ⟨X_19, Si_19, hZ_19, hown_19⟩ := rebS (s := s) (vm0 := T_18.vm) Si_18 (Nat.le_refl _) Xb_19 Sb_19 (Nat.le_trans ls_18 K_19.1) hZ_18 hown_18
    have c178 := CHr.safe CH_19 (c172).lt c156
    have c179 := c157.trans CH_19
    have c180 := Nat.le_trans ls_18 K_19.1
    have c181 := c158.trans K_19 (allS (Or.inr sz_b_17) all0)
    have c182 := own_stake c159 K_19 c177
    have c183 := c160.keep K_19
    have c184 := c161.keep K_19 (ninS ne_sx_14_b_17 nin0)
    have c185 := c162.keep K_19 (ninS ne_sx_14_b_17 nin0)
    have c186 := c163.keep K_19 (ninS ne_sb_14_b_17 nin0)
    have c187 := c164.keep K_19
    have c188 := c165.keep K_19 (ninS ne_sx_15_b_17 nin0)
    have c189 := c166.keep K_19 (ninS ne_sx_15_b_17 nin0)
    have c190 := c167.keep K_19 (ninS ne_sb_15_b_17 nin0)
    have c191 := c168.keep K_19
    have c192 := c169.keep K_19 (ninS ne_sx_16_b_17 nin0)
    have c193 := c170.keep K_19 (ninS ne_sx_16_b_17 nin0)
    have c194 := c171.keep K_19 (ninS ne_sb_16_b_17 nin0)
    have c195 := c177.keep K_19
    have Z0__19 : n0 ≤ T_19.heap.size := Nat.le_trans Z0__18 K_19.1
    refine og (fun t k => st_19.trans k) ?_
    refine og (B := T_19.setTop (mkF m 98 #[iv p0, iv p1, iv p2, iv p3, iv p4, iv 1, iv 0, iv x0, iv x1, iv x2, rv sx_14, rv sx_15, rv sx_16, rv b_17, oU, oU, oU, oU, oU, oU, oU] [(.ref b_17)])) (fun t k => ?_) ?_
    · refine XS.astore X_19.here hx rfl (hb hby at_94) rfl rfl (l' := #[iv p0, iv p1, iv p2, iv p3, iv p4, iv 1, iv 0, iv x0, iv x1, iv x2, rv sx_14, rv sx_15, rv sx_16, rv b_17, oU, oU, oU, oU, oU, oU, oU]) rfl ?_
      refine XS.aload X_19.here hx rfl (hb hby at_96) rfl rfl ?_
      exact k
    obtain ⟨cq_20, kq_20, q_20a, q_20b, q_20c⟩ := isOf hZ_19 rfl c195
    obtain ⟨_, _, ⟨T_20, L_20, k_20, n_20⟩, -, X_20, ⟨Lc_20, hQ_20, l_20, y_20, z_20⟩, st_20⟩ := X_19.virtualBack hx (y := own_m17) (z := own_m17) hown_19 (mvT hZ_19 (ow hw 87 rfl)) (mvT hZ_19 (ow hw 88 rfl)) (notFace_of_selects (args := #[]) (mvT hZ_19 (ow hw 90 rfl))) (mvT hZ_19 (ow hw 90 rfl)) (mvT hZ_19 (ow hw 89 rfl)) (by decide) (backOf (W := 0) (rm16 l Z av0 hw [] b_17 (0 : Int32) sx_14 sb_14 sk_14 w (1 : Int32) [(.int (own_byte (nar .char x0)))] T_19.heap n0 Z0__19 Fp_19 Ft_19 c183 c184 c185 c182 hw0 c186) hZ_19 (ow hw 91 rfl) (ow hw 32 rfl) (by decide) (by decide)) q_20a q_20c (g := (mkF m 98 #[iv p0, iv p1, iv p2, iv p3, iv p4, iv 1, iv 0, iv x0, iv x1, iv x2, rv sx_14, rv sx_15, rv sx_16, rv b_17, oU, oU, oU, oU, oU, oU, oU] [(.ref b_17)])) rfl (by rw [hml]; rfl) (Steps.refl _) (argsL := []) (rest := []) (lenOf pd_3 rfl) rfl (by show 2 * 0 + _ ≤ _; exact Nat.le_of_eq rfl) (hb hby at_98) (fun _ _ => ⟨rfl, rfl, (by decide : 17 + 0 ≤ _), (by decide : 117 + 0 ≤ _)⟩)
    dsimp only [Pt.U, Pt.locs, Pt.cells, Pt.slots] at X_20 l_20 y_20 z_20 st_20 hQ_20
    subst l_20 y_20 z_20
    obtain ⟨hv_20, N_20q, e_20⟩ := hQ_20
    have N_20 := Fr.app N_19 N_20q
    rw [show own_ge (0 : Int32) (1 : Int32) = (0 : Int32) from by decide] at hv_20
    subst hv_20
    refine og (fun t k => st_20.trans k) ?_
    refine og (B := T_20.setTop (mkF m 107 #[iv p0, iv p1, iv p2, iv p3, iv p4, iv 1, iv 0, iv x0, iv x1, iv x2, rv sx_14, rv sx_15, rv sx_16, rv b_17, iv 0, oU, oU, oU, oU, oU, oU] [(.ref sx_15), (.ref b_17)])) (fun t k => ?_) ?_
    · refine XS.istore X_20.here hx rfl (hb hby at_101) rfl (l' := #[iv p0, iv p1, iv p2, iv p3, iv p4, iv 1, iv 0, iv x0, iv x1, iv x2, rv sx_14, rv sx_15, rv sx_16, rv b_17, iv 0, oU, oU, oU, oU, oU, oU]) rfl ?_
      refine XS.aload X_20.here hx rfl (hb hby at_103) rfl rfl ?_
      refine XS.aload X_20.here hx rfl (hb hby at_105) rfl rfl ?_
      exact k
    obtain ⟨cq_21, kq_21, q_21a, q_21b, q_21c⟩ := isOf hZ_19 e_20 c195
    obtain ⟨_, _, ⟨T_21, L_21, k_21, n_21⟩, -, X_21, ⟨Lc_21, hQ_21, l_21, y_21, z_21⟩, st_21⟩ := X_20.virtualBack hx (y := own_m18) (z := own_m18) hown_19 (mvT hZ_19 (ow hw 95 rfl)) (mvT hZ_19 (ow hw 96 rfl)) (notFace_of_selects (args := #[]) (mvT hZ_19 (ow hw 98 rfl))) (mvT hZ_19 (ow hw 98 rfl)) (mvT hZ_19 (ow hw 97 rfl)) (by decide) (backOf (W := 0) (rmco l Z av0 hw [] b_17 sx_15 sx_14 (0 : Int32) sb_14 sb_15 sk_14 sk_15 w (1 : Int32) (0 : Int32) [(.int (own_byte (nar .char x0)))] [] T_19.heap n0 Z0__19 c195 Ft_19 Fp_19 g_b_17 c183 c184 c185 c187 c188 c189 c182 hw0 c186 c190 ne_sx_15_b_17 ne_sb_15_b_17 (by decide) (by decide) (rmmm0 l Z av0 hw [] sb_14 (0 : Int32) sb_15 sk_14 sk_15 (1 : Int32) [(.int (own_byte (nar .char x0)))]  T_19.heap n0 Z0__19 c186 c190 )) hZ_19 (ow hw 99 rfl) (ow hw 32 rfl) (by decide) (by decide)) q_21a q_21c (g := (mkF m 107 #[iv p0, iv p1, iv p2, iv p3, iv p4, iv 1, iv 0, iv x0, iv x1, iv x2, rv sx_14, rv sx_15, rv sx_16, rv b_17, iv 0, oU, oU, oU, oU, oU, oU] [(.ref sx_15), (.ref b_17)])) rfl (by rw [hml]; rfl) (Steps.refl _) (argsL := [(.ref sx_15)]) (rest := []) (lenOf pd_15 rfl) rfl (by show 2 * 0 + _ ≤ _; exact Nat.le_of_eq rfl) (hb hby at_107) (fun _ _ => ⟨rfl, e_20, (by decide : 17 + 0 ≤ _), (by decide : 117 + 0 ≤ _)⟩)
    dsimp only [Pt.U, Pt.locs, Pt.cells, Pt.slots] at X_21 l_21 y_21 z_21 st_21 hQ_21
    subst l_21 y_21 z_21
    obtain ⟨rfl, N_21q, K_21, Fp_21, Ft_21⟩ := hQ_21
    have N_21 := Fr.app N_20 N_21q
    have c196 := Safe.keep K_21 (allS c178 all0) c179.1 c178
    have c197 := c179.trans (CHr.keep K_21 (allS c178 all0) c179.1)
    have c198 := Nat.le_trans (Nat.le_refl _) K_21.1
    have c199 := c181.trans K_21 (allS (Or.inr sz_b_17) all0)
    have c200 := own_stake c182 K_21 c195
    have c201 := c183.keep K_21
    have c202 := c184.keep K_21 (ninS ne_sx_14_b_17 nin0)
    have c203 := c185.keep K_21 (ninS ne_sx_14_b_17 nin0)
    have c204 := c186.keep K_21 (ninS ne_sb_14_b_17 nin0)
    have c205 := c187.keep K_21
    have c206 := c188.keep K_21 (ninS ne_sx_15_b_17 nin0)
    have c207 := c189.keep K_21 (ninS ne_sx_15_b_17 nin0)
    have c208 := c190.keep K_21 (ninS ne_sb_15_b_17 nin0)
    have c209 := c191.keep K_21
    have c210 := c192.keep K_21 (ninS ne_sx_16_b_17 nin0)
    have c211 := c193.keep K_21 (ninS ne_sx_16_b_17 nin0)
    have c212 := c194.keep K_21 (ninS ne_sb_16_b_17 nin0)
    have c213 := c195.keep K_21
    have Z0__21 : n0 ≤ T_21.heap.size := Nat.le_trans Z0__19 K_21.1
    have Fq_21 : Fld Z T_21.heap b_17 "com/example/cutoff/cutoff/store/TextCursor" "position" "I" (.int (0 : Int32)) := Fp_21
    refine og (fun t k => st_21.trans k) ?_
    refine og (B := T_21.setTop (mkF m 114 #[iv p0, iv p1, iv p2, iv p3, iv p4, iv 1, iv 0, iv x0, iv x1, iv x2, rv sx_14, rv sx_15, rv sx_16, rv b_17, iv 0, iv 1, oU, oU, oU, oU, oU] [(.ref b_17)])) (fun t k => ?_) ?_
    · refine XS.istore X_21.here hx rfl (hb hby at_110) rfl (l' := #[iv p0, iv p1, iv p2, iv p3, iv p4, iv 1, iv 0, iv x0, iv x1, iv x2, rv sx_14, rv sx_15, rv sx_16, rv b_17, iv 0, iv 1, oU, oU, oU, oU, oU]) rfl ?_
      refine XS.aload X_21.here hx rfl (hb hby at_112) rfl rfl ?_
      exact k
    obtain ⟨cq_22, kq_22, q_22a, q_22b, q_22c⟩ := isOf hZ_19 rfl c213
    obtain ⟨_, _, ⟨T_22, L_22, k_22, n_22⟩, -, X_22, ⟨Lc_22, hQ_22, l_22, y_22, z_22⟩, st_22⟩ := X_21.virtualBack hx (y := own_m22) (z := own_m22) hown_19 (mvT hZ_19 (ow hw 114 rfl)) (mvT hZ_19 (ow hw 115 rfl)) (notFace_of_selects (args := #[]) (mvT hZ_19 (ow hw 117 rfl))) (mvT hZ_19 (ow hw 117 rfl)) (mvT hZ_19 (ow hw 116 rfl)) (by decide) (backOf (W := 0) (rm21 l Z av0 hw [] b_17 (0 : Int32) T_21.heap n0 Z0__21 Fq_21) hZ_19 (ow hw 118 rfl) (ow hw 32 rfl) (by decide) (by decide)) q_22a q_22c (g := (mkF m 114 #[iv p0, iv p1, iv p2, iv p3, iv p4, iv 1, iv 0, iv x0, iv x1, iv x2, rv sx_14, rv sx_15, rv sx_16, rv b_17, iv 0, iv 1, oU, oU, oU, oU, oU] [(.ref b_17)])) rfl (by rw [hml]; rfl) (Steps.refl _) (argsL := []) (rest := []) (lenOf pd_4 rfl) rfl (by show 2 * 0 + _ ≤ _; exact Nat.le_of_eq rfl) (hb hby at_114) (fun _ _ => ⟨rfl, rfl, (by decide : 17 + 0 ≤ _), (by decide : 117 + 0 ≤ _)⟩)
    dsimp only [Pt.U, Pt.locs, Pt.cells, Pt.slots] at X_22 l_22 y_22 z_22 st_22 hQ_22
    subst l_22 y_22 z_22
    obtain ⟨rfl, N_22q, e_22⟩ := hQ_22
    have N_22 := Fr.app N_21 N_22q
    refine og (fun t k => st_22.trans k) ?_
    refine og (B := T_22.setTop (mkF m 121 #[iv p0, iv p1, iv p2, iv p3, iv p4, iv 1, iv 0, iv x0, iv x1, iv x2, rv sx_14, rv sx_15, rv sx_16, rv b_17, iv 0, iv 1, iv 0, oU, oU, oU, oU] [(.ref b_17)])) (fun t k => ?_) ?_
    · refine XS.istore X_22.here hx rfl (hb hby at_117) rfl (l' := #[iv p0, iv p1, iv p2, iv p3, iv p4, iv 1, iv 0, iv x0, iv x1, iv x2, rv sx_14, rv sx_15, rv sx_16, rv b_17, iv 0, iv 1, iv 0, oU, oU, oU, oU]) rfl ?_
      refine XS.aload X_22.here hx rfl (hb hby at_119) rfl rfl ?_
      exact k
    obtain ⟨cq_23, kq_23, q_23a, q_23b, q_23c⟩ := isOf hZ_19 e_22 c213
    obtain ⟨_, _, ⟨T_23, L_23, k_23, n_23⟩, -, X_23, ⟨Lc_23, hQ_23, l_23, y_23, z_23⟩, st_23⟩ := X_22.virtualBack hx (y := own_m17) (z := own_m17) hown_19 (mvT hZ_19 (ow hw 87 rfl)) (mvT hZ_19 (ow hw 88 rfl)) (notFace_of_selects (args := #[]) (mvT hZ_19 (ow hw 90 rfl))) (mvT hZ_19 (ow hw 90 rfl)) (mvT hZ_19 (ow hw 89 rfl)) (by decide) (backOf (W := 0) (rm16 l Z av0 hw [] b_17 (0 : Int32) sx_14 sb_14 sk_14 w (1 : Int32) [(.int (own_byte (nar .char x0)))] T_21.heap n0 Z0__21 Fq_21 Ft_21 c201 c202 c203 c200 hw0 c204) hZ_19 (ow hw 91 rfl) (ow hw 32 rfl) (by decide) (by decide)) q_23a q_23c (g := (mkF m 121 #[iv p0, iv p1, iv p2, iv p3, iv p4, iv 1, iv 0, iv x0, iv x1, iv x2, rv sx_14, rv sx_15, rv sx_16, rv b_17, iv 0, iv 1, iv 0, oU, oU, oU, oU] [(.ref b_17)])) rfl (by rw [hml]; rfl) (Steps.refl _) (argsL := []) (rest := []) (lenOf pd_3 rfl) rfl (by show 2 * 0 + _ ≤ _; exact Nat.le_of_eq rfl) (hb hby at_121) (fun _ _ => ⟨rfl, e_22, (by decide : 17 + 0 ≤ _), (by decide : 117 + 0 ≤ _)⟩)
    dsimp only [Pt.U, Pt.locs, Pt.cells, Pt.slots] at X_23 l_23 y_23 z_23 st_23 hQ_23
    subst l_23 y_23 z_23
    obtain ⟨hv_23, N_23q, e_23⟩ := hQ_23
    have N_23 := Fr.app N_22 N_23q
    rw [show own_ge (0 : Int32) (1 : Int32) = (0 : Int32) from by decide] at hv_23
    subst hv_23
    refine og (fun t k => st_23.trans k) ?_
    refine og (B := T_23.setTop (mkF m 130 #[iv p0, iv p1, iv p2, iv p3, iv p4, iv 1, iv 0, iv x0, iv x1, iv x2, rv sx_14, rv sx_15, rv sx_16, rv b_17, iv 0, iv 1, iv 0, iv 0, oU, oU, oU] [(.ref sx_16), (.ref b_17)])) (fun t k => ?_) ?_
    · refine XS.istore X_23.here hx rfl (hb hby at_124) rfl (l' := #[iv p0, iv p1, iv p2, iv p3, iv p4, iv 1, iv 0, iv x0, iv x1, iv x2, rv sx_14, rv sx_15, rv sx_16, rv b_17, iv 0, iv 1, iv 0, iv 0, oU, oU, oU]) rfl ?_
      refine XS.aload X_23.here hx rfl (hb hby at_126) rfl rfl ?_
      refine XS.aload X_23.here hx rfl (hb hby at_128) rfl rfl ?_
      exact k
    obtain ⟨cq_24, kq_24, q_24a, q_24b, q_24c⟩ := isOf hZ_19 e_23 c213
    obtain ⟨_, _, ⟨T_24, L_24, k_24, n_24⟩, -, X_24, ⟨Lc_24, hQ_24, l_24, y_24, z_24⟩, st_24⟩ := X_23.virtualBack hx (y := own_m18) (z := own_m18) hown_19 (mvT hZ_19 (ow hw 95 rfl)) (mvT hZ_19 (ow hw 96 rfl)) (notFace_of_selects (args := #[]) (mvT hZ_19 (ow hw 98 rfl))) (mvT hZ_19 (ow hw 98 rfl)) (mvT hZ_19 (ow hw 97 rfl)) (by decide) (backOf (W := 0) (rmco l Z av0 hw [] b_17 sx_16 sx_14 (0 : Int32) sb_14 sb_16 sk_14 sk_16 w (1 : Int32) (1 : Int32) [(.int (own_byte (nar .char x0)))] [(.int (own_byte (nar .char x0)))] T_21.heap n0 Z0__21 c213 Ft_21 Fq_21 g_b_17 c201 c202 c203 c209 c210 c211 c200 hw0 c204 c212 ne_sx_16_b_17 ne_sb_16_b_17 (by decide) (by decide) (rmmm1 l Z av0 hw [] sb_14 (0 : Int32) sb_16 sk_14 sk_16 (1 : Int32) [(.int (own_byte (nar .char x0)))] (own_byte (nar .char x0)) T_21.heap n0 Z0__21 c204 c212 (by decide) rfl)) hZ_19 (ow hw 99 rfl) (ow hw 32 rfl) (by decide) (by decide)) q_24a q_24c (g := (mkF m 130 #[iv p0, iv p1, iv p2, iv p3, iv p4, iv 1, iv 0, iv x0, iv x1, iv x2, rv sx_14, rv sx_15, rv sx_16, rv b_17, iv 0, iv 1, iv 0, iv 0, oU, oU, oU] [(.ref sx_16), (.ref b_17)])) rfl (by rw [hml]; rfl) (Steps.refl _) (argsL := [(.ref sx_16)]) (rest := []) (lenOf pd_15 rfl) rfl (by show 2 * 0 + _ ≤ _; exact Nat.le_of_eq rfl) (hb hby at_130) (fun _ _ => ⟨rfl, e_23, (by decide : 17 + 0 ≤ _), (by decide : 117 + 0 ≤ _)⟩)
    dsimp only [Pt.U, Pt.locs, Pt.cells, Pt.slots] at X_24 l_24 y_24 z_24 st_24 hQ_24
    subst l_24 y_24 z_24
    obtain ⟨rfl, N_24q, K_24, Fp_24, Ft_24⟩ := hQ_24
    have N_24 := Fr.app N_23 N_24q
    have c214 := Safe.keep K_24 (allS c196 all0) c197.1 c196
    have c215 := c197.trans (CHr.keep K_24 (allS c196 all0) c197.1)
    have c216 := Nat.le_trans c198 K_24.1
    have c217 := c199.trans K_24 (allS (Or.inr sz_b_17) all0)
    have c218 := own_stake c200 K_24 c213
    have c219 := c201.keep K_24
    have c220 := c202.keep K_24 (ninS ne_sx_14_b_17 nin0)
    have c221 := c203.keep K_24 (ninS ne_sx_14_b_17 nin0)
    have c222 := c204.keep K_24 (ninS ne_sb_14_b_17 nin0)
    have c223 := c205.keep K_24
    have c224 := c206.keep K_24 (ninS ne_sx_15_b_17 nin0)
    have c225 := c207.keep K_24 (ninS ne_sx_15_b_17 nin0)
    have c226 := c208.keep K_24 (ninS ne_sb_15_b_17 nin0)
    have c227 := c209.keep K_24
    have c228 := c210.keep K_24 (ninS ne_sx_16_b_17 nin0)
    have c229 := c211.keep K_24 (ninS ne_sx_16_b_17 nin0)
    have c230 := c212.keep K_24 (ninS ne_sb_16_b_17 nin0)
    have c231 := c213.keep K_24
    have Z0__24 : n0 ≤ T_24.heap.size := Nat.le_trans Z0__21 K_24.1
    have Fq_24 : Fld Z T_24.heap b_17 "com/example/cutoff/cutoff/store/TextCursor" "position" "I" (.int (1 : Int32)) := Fp_24
    refine og (fun t k => st_24.trans k) ?_
    refine og (B := T_24.setTop (mkF m 137 #[iv p0, iv p1, iv p2, iv p3, iv p4, iv 1, iv 0, iv x0, iv x1, iv x2, rv sx_14, rv sx_15, rv sx_16, rv b_17, iv 0, iv 1, iv 0, iv 0, iv 1, oU, oU] [(.ref b_17)])) (fun t k => ?_) ?_
    · refine XS.istore X_24.here hx rfl (hb hby at_133) rfl (l' := #[iv p0, iv p1, iv p2, iv p3, iv p4, iv 1, iv 0, iv x0, iv x1, iv x2, rv sx_14, rv sx_15, rv sx_16, rv b_17, iv 0, iv 1, iv 0, iv 0, iv 1, oU, oU]) rfl ?_
      refine XS.aload X_24.here hx rfl (hb hby at_135) rfl rfl ?_
      exact k
    obtain ⟨cq_25, kq_25, q_25a, q_25b, q_25c⟩ := isOf hZ_19 rfl c231
    obtain ⟨_, _, ⟨T_25, L_25, k_25, n_25⟩, -, X_25, ⟨Lc_25, hQ_25, l_25, y_25, z_25⟩, st_25⟩ := X_24.virtualBack hx (y := own_m22) (z := own_m22) hown_19 (mvT hZ_19 (ow hw 114 rfl)) (mvT hZ_19 (ow hw 115 rfl)) (notFace_of_selects (args := #[]) (mvT hZ_19 (ow hw 117 rfl))) (mvT hZ_19 (ow hw 117 rfl)) (mvT hZ_19 (ow hw 116 rfl)) (by decide) (backOf (W := 0) (rm21 l Z av0 hw [] b_17 (1 : Int32) T_24.heap n0 Z0__24 Fq_24) hZ_19 (ow hw 118 rfl) (ow hw 32 rfl) (by decide) (by decide)) q_25a q_25c (g := (mkF m 137 #[iv p0, iv p1, iv p2, iv p3, iv p4, iv 1, iv 0, iv x0, iv x1, iv x2, rv sx_14, rv sx_15, rv sx_16, rv b_17, iv 0, iv 1, iv 0, iv 0, iv 1, oU, oU] [(.ref b_17)])) rfl (by rw [hml]; rfl) (Steps.refl _) (argsL := []) (rest := []) (lenOf pd_4 rfl) rfl (by show 2 * 0 + _ ≤ _; exact Nat.le_of_eq rfl) (hb hby at_137) (fun _ _ => ⟨rfl, rfl, (by decide : 17 + 0 ≤ _), (by decide : 117 + 0 ≤ _)⟩)
    dsimp only [Pt.U, Pt.locs, Pt.cells, Pt.slots] at X_25 l_25 y_25 z_25 st_25 hQ_25
    subst l_25 y_25 z_25
    obtain ⟨rfl, N_25q, e_25⟩ := hQ_25
    have N_25 := Fr.app N_24 N_25q
    refine og (fun t k => st_25.trans k) ?_
    refine og (B := T_25.setTop (mkF m 144 #[iv p0, iv p1, iv p2, iv p3, iv p4, iv 1, iv 0, iv x0, iv x1, iv x2, rv sx_14, rv sx_15, rv sx_16, rv b_17, iv 0, iv 1, iv 0, iv 0, iv 1, iv 1, oU] [(.ref b_17)])) (fun t k => ?_) ?_
    · refine XS.istore X_25.here hx rfl (hb hby at_140) rfl (l' := #[iv p0, iv p1, iv p2, iv p3, iv p4, iv 1, iv 0, iv x0, iv x1, iv x2, rv sx_14, rv sx_15, rv sx_16, rv b_17, iv 0, iv 1, iv 0, iv 0, iv 1, iv 1, oU]) rfl ?_
      refine XS.aload X_25.here hx rfl (hb hby at_142) rfl rfl ?_
      exact k
    obtain ⟨cq_26, kq_26, q_26a, q_26b, q_26c⟩ := isOf hZ_19 e_25 c231
    obtain ⟨_, _, ⟨T_26, L_26, k_26, n_26⟩, -, X_26, ⟨Lc_26, hQ_26, l_26, y_26, z_26⟩, st_26⟩ := X_25.virtualBack hx (y := own_m17) (z := own_m17) hown_19 (mvT hZ_19 (ow hw 87 rfl)) (mvT hZ_19 (ow hw 88 rfl)) (notFace_of_selects (args := #[]) (mvT hZ_19 (ow hw 90 rfl))) (mvT hZ_19 (ow hw 90 rfl)) (mvT hZ_19 (ow hw 89 rfl)) (by decide) (backOf (W := 0) (rm16 l Z av0 hw [] b_17 (1 : Int32) sx_14 sb_14 sk_14 w (1 : Int32) [(.int (own_byte (nar .char x0)))] T_24.heap n0 Z0__24 Fq_24 Ft_24 c219 c220 c221 c218 hw0 c222) hZ_19 (ow hw 91 rfl) (ow hw 32 rfl) (by decide) (by decide)) q_26a q_26c (g := (mkF m 144 #[iv p0, iv p1, iv p2, iv p3, iv p4, iv 1, iv 0, iv x0, iv x1, iv x2, rv sx_14, rv sx_15, rv sx_16, rv b_17, iv 0, iv 1, iv 0, iv 0, iv 1, iv 1, oU] [(.ref b_17)])) rfl (by rw [hml]; rfl) (Steps.refl _) (argsL := []) (rest := []) (lenOf pd_3 rfl) rfl (by show 2 * 0 + _ ≤ _; exact Nat.le_of_eq rfl) (hb hby at_144) (fun _ _ => ⟨rfl, e_25, (by decide : 17 + 0 ≤ _), (by decide : 117 + 0 ≤ _)⟩)
    dsimp only [Pt.U, Pt.locs, Pt.cells, Pt.slots] at X_26 l_26 y_26 z_26 st_26 hQ_26
    subst l_26 y_26 z_26
    obtain ⟨hv_26, N_26q, e_26⟩ := hQ_26
    have N_26 := Fr.app N_25 N_26q
    rw [show own_ge (1 : Int32) (1 : Int32) = (1 : Int32) from by decide] at hv_26
    subst hv_26
    refine og (fun t k => st_26.trans k) ?_
    refine og (B := T_26.setTop (mkF m 153 #[iv p0, iv p1, iv p2, iv p3, iv p4, iv 1, iv 0, iv x0, iv x1, iv x2, rv sx_14, rv sx_15, rv sx_16, rv b_17, iv 0, iv 1, iv 0, iv 0, iv 1, iv 1, iv 1] [(.int 1), (.int 0)])) (fun t k => ?_) ?_
    · refine XS.istore X_26.here hx rfl (hb hby at_147) rfl (l' := #[iv p0, iv p1, iv p2, iv p3, iv p4, iv 1, iv 0, iv x0, iv x1, iv x2, rv sx_14, rv sx_15, rv sx_16, rv b_17, iv 0, iv 1, iv 0, iv 0, iv 1, iv 1, iv 1]) rfl ?_
      refine XS.iload X_26.here hx rfl (hb hby at_149) rfl ?_
      refine XS.iload X_26.here hx rfl (hb hby at_151) rfl ?_
      exact k
    refine og (B := T_26.setTop (mkF m 160 #[iv p0, iv p1, iv p2, iv p3, iv p4, iv 1, iv 0, iv x0, iv x1, iv x2, rv sx_14, rv sx_15, rv sx_16, rv b_17, iv 0, iv 1, iv 0, iv 0, iv 1, iv 1, iv 1] [(.int 0)])) (fun t k => ?_) ?_
    · refine XS.ifYes X_26.here hx rfl (pc0 := 153) (pc' := 160) rfl (hb hby at_153) rfl ((if0 _ _).trans (feq (by decide : ¬ ((1 : Int32) = (0 : Int32)))).2) (by decide) (by decide) ?_
      exact k
    refine og (B := T_26.setTop (mkF m 161 #[iv p0, iv p1, iv p2, iv p3, iv p4, iv 1, iv 0, iv x0, iv x1, iv x2, rv sx_14, rv sx_15, rv sx_16, rv b_17, iv 0, iv 1, iv 0, iv 0, iv 1, iv 1, iv 1] [(.int 0), (.int 0)])) (fun t k => ?_) ?_
    · refine XS.iconst X_26.here hx rfl (hb hby at_160) ?_
      exact k
    refine og (B := T_26.setTop (mkF m 164 #[iv p0, iv p1, iv p2, iv p3, iv p4, iv 1, iv 0, iv x0, iv x1, iv x2, rv sx_14, rv sx_15, rv sx_16, rv b_17, iv 0, iv 1, iv 0, iv 0, iv 1, iv 1, iv 1] [])) (fun t k => ?_) ?_
    · refine XS.icmpNo X_26.here hx rfl (hb hby at_161) rfl (teq (by decide : (0 : Int32) = (0 : Int32))).2 ?_
      exact k
    refine og (B := T_26.setTop (mkF m 166 #[iv p0, iv p1, iv p2, iv p3, iv p4, iv 1, iv 0, iv x0, iv x1, iv x2, rv sx_14, rv sx_15, rv sx_16, rv b_17, iv 0, iv 1, iv 0, iv 0, iv 1, iv 1, iv 1] [(.int 1)])) (fun t k => ?_) ?_
    · refine XS.iload X_26.here hx rfl (hb hby at_164) rfl ?_
      exact k
    refine og (B := T_26.setTop (mkF m 169 #[iv p0, iv p1, iv p2, iv p3, iv p4, iv 1, iv 0, iv x0, iv x1, iv x2, rv sx_14, rv sx_15, rv sx_16, rv b_17, iv 0, iv 1, iv 0, iv 0, iv 1, iv 1, iv 1] [])) (fun t k => ?_) ?_
    · refine XS.ifNo X_26.here hx rfl (hb hby at_166) rfl ((if0 _ _).trans (feq (by decide : ¬ ((1 : Int32) = (0 : Int32)))).1) ?_
      exact k
    refine og (B := T_26.setTop (mkF m 173 #[iv p0, iv p1, iv p2, iv p3, iv p4, iv 1, iv 0, iv x0, iv x1, iv x2, rv sx_14, rv sx_15, rv sx_16, rv b_17, iv 0, iv 1, iv 0, iv 0, iv 1, iv 1, iv 1] [(.int 0), (.int 0)])) (fun t k => ?_) ?_
    · refine XS.iload X_26.here hx rfl (hb hby at_169) rfl ?_
      refine XS.iload X_26.here hx rfl (hb hby at_171) rfl ?_
      exact k
    refine og (B := T_26.setTop (mkF m 176 #[iv p0, iv p1, iv p2, iv p3, iv p4, iv 1, iv 0, iv x0, iv x1, iv x2, rv sx_14, rv sx_15, rv sx_16, rv b_17, iv 0, iv 1, iv 0, iv 0, iv 1, iv 1, iv 1] [])) (fun t k => ?_) ?_
    · refine XS.icmpNo X_26.here hx rfl (hb hby at_173) rfl (teq (by decide : (0 : Int32) = (0 : Int32))).2 ?_
      exact k
    refine og (B := T_26.setTop (mkF m 182 #[iv p0, iv p1, iv p2, iv p3, iv p4, iv 1, iv 0, iv x0, iv x1, iv x2, rv sx_14, rv sx_15, rv sx_16, rv b_17, iv 0, iv 1, iv 0, iv 0, iv 1, iv 1, iv 1] [(.int 1), (.int 0), (.int 0)])) (fun t k => ?_) ?_
    · refine XS.iload X_26.here hx rfl (hb hby at_176) rfl ?_
      refine XS.iload X_26.here hx rfl (hb hby at_178) rfl ?_
      refine XS.iload X_26.here hx rfl (hb hby at_180) rfl ?_
      exact k
    refine og (B := T_26.setTop (mkF m 189 #[iv p0, iv p1, iv p2, iv p3, iv p4, iv 1, iv 0, iv x0, iv x1, iv x2, rv sx_14, rv sx_15, rv sx_16, rv b_17, iv 0, iv 1, iv 0, iv 0, iv 1, iv 1, iv 1] [(.int 0)])) (fun t k => ?_) ?_
    · refine XS.icmpYes X_26.here hx rfl (pc0 := 182) (pc' := 189) rfl (hb hby at_182) rfl (feq (by decide : ¬ ((0 : Int32) = (1 : Int32)))).2 (by decide) (by decide) ?_
      exact k
    refine og (B := T_26.setTop (mkF m 190 #[iv p0, iv p1, iv p2, iv p3, iv p4, iv 1, iv 0, iv x0, iv x1, iv x2, rv sx_14, rv sx_15, rv sx_16, rv b_17, iv 0, iv 1, iv 0, iv 0, iv 1, iv 1, iv 1] [(.int 0), (.int 0)])) (fun t k => ?_) ?_
    · refine XS.iconst X_26.here hx rfl (hb hby at_189) ?_
      exact k
    refine og (B := T_26.setTop (mkF m 193 #[iv p0, iv p1, iv p2, iv p3, iv p4, iv 1, iv 0, iv x0, iv x1, iv x2, rv sx_14, rv sx_15, rv sx_16, rv b_17, iv 0, iv 1, iv 0, iv 0, iv 1, iv 1, iv 1] [])) (fun t k => ?_) ?_
    · refine XS.icmpNo X_26.here hx rfl (hb hby at_190) rfl (teq (by decide : (0 : Int32) = (0 : Int32))).2 ?_
      exact k
    refine og (B := T_26.setTop (mkF m 195 #[iv p0, iv p1, iv p2, iv p3, iv p4, iv 1, iv 0, iv x0, iv x1, iv x2, rv sx_14, rv sx_15, rv sx_16, rv b_17, iv 0, iv 1, iv 0, iv 0, iv 1, iv 1, iv 1] [(.int 1)])) (fun t k => ?_) ?_
    · refine XS.iload X_26.here hx rfl (hb hby at_193) rfl ?_
      exact k
    refine og (B := T_26.setTop (mkF m 198 #[iv p0, iv p1, iv p2, iv p3, iv p4, iv 1, iv 0, iv x0, iv x1, iv x2, rv sx_14, rv sx_15, rv sx_16, rv b_17, iv 0, iv 1, iv 0, iv 0, iv 1, iv 1, iv 1] [])) (fun t k => ?_) ?_
    · refine XS.ifNo X_26.here hx rfl (hb hby at_195) rfl ((if0 _ _).trans (feq (by decide : ¬ ((1 : Int32) = (0 : Int32)))).1) ?_
      exact k
    refine og (B := T_26.setTop (mkF m 202 #[iv p0, iv p1, iv p2, iv p3, iv p4, iv 1, iv 0, iv x0, iv x1, iv x2, rv sx_14, rv sx_15, rv sx_16, rv b_17, iv 0, iv 1, iv 0, iv 0, iv 1, iv 1, iv 1] [(.int 1), (.int 1)])) (fun t k => ?_) ?_
    · refine XS.iload X_26.here hx rfl (hb hby at_198) rfl ?_
      refine XS.iload X_26.here hx rfl (hb hby at_200) rfl ?_
      exact k
    refine og (B := T_26.setTop (mkF m 205 #[iv p0, iv p1, iv p2, iv p3, iv p4, iv 1, iv 0, iv x0, iv x1, iv x2, rv sx_14, rv sx_15, rv sx_16, rv b_17, iv 0, iv 1, iv 0, iv 0, iv 1, iv 1, iv 1] [])) (fun t k => ?_) ?_
    · refine XS.icmpNo X_26.here hx rfl (hb hby at_202) rfl (teq (by decide : (1 : Int32) = (1 : Int32))).2 ?_
      exact k
    refine og (B := T_26.setTop (mkF m 207 #[iv p0, iv p1, iv p2, iv p3, iv p4, iv 1, iv 0, iv x0, iv x1, iv x2, rv sx_14, rv sx_15, rv sx_16, rv b_17, iv 0, iv 1, iv 0, iv 0, iv 1, iv 1, iv 1] [(.int 1)])) (fun t k => ?_) ?_
    · refine XS.iload X_26.here hx rfl (hb hby at_205) rfl ?_
      exact k
    refine og (B := T_26.setTop (mkF m 210 #[iv p0, iv p1, iv p2, iv p3, iv p4, iv 1, iv 0, iv x0, iv x1, iv x2, rv sx_14, rv sx_15, rv sx_16, rv b_17, iv 0, iv 1, iv 0, iv 0, iv 1, iv 1, iv 1] [])) (fun t k => ?_) ?_
    · refine XS.ifNo X_26.here hx rfl (hb hby at_207) rfl ((if0 _ _).trans (feq (by decide : ¬ ((1 : Int32) = (0 : Int32)))).1) ?_
      exact k
    refine og (B := T_26.setTop (mkF m 215 #[iv p0, iv p1, iv p2, iv p3, iv p4, iv 1, iv 0, iv x0, iv x1, iv x2, rv sx_14, rv sx_15, rv sx_16, rv b_17, iv 0, iv 1, iv 0, iv 0, iv 1, iv 1, iv 1] [(.int 1)])) (fun t k => ?_) ?_
    · refine XS.iconst X_26.here hx rfl (hb hby at_210) ?_
      refine XS.goto X_26.here hx rfl (pc0 := 211) (pc' := 215) rfl (hb hby at_211) (by decide) (by decide) ?_
      exact k
    obtain ⟨fs, hr, hrun, hended, hRW⟩ := X_26.leaveW Si_19 (by rw [e_26]; exact c216) (v := some (.int 1)) (fun h => by rw [Bd.returns] at h; cases h)
    refine ⟨_, _, ?_, hrun, hended, _, _, rfl, ?_, hRW.1, hRW.2.1, hRW.2.2.1, hRW.2.2.2.mono (by decide) (by decide)⟩
    · show Steps p.tables e below (T_26.setTop (mkF m 215 #[iv p0, iv p1, iv p2, iv p3, iv p4, iv 1, iv 0, iv x0, iv x1, iv x2, rv sx_14, rv sx_15, rv sx_16, rv b_17, iv 0, iv 1, iv 0, iv 0, iv 1, iv 1, iv 1] [(.int 1)])) _
      exact retN X_26 hx (t := .boolean) Bd.returns (by simp) (hb hby at_215) hr
    · show Q0 Z p0 p1 p2 p3 p4 w h0 n0 _ T_26.heap _
      rw [e_26]
      exact ⟨rfl, N_26, trivial⟩
  · show ∃ s₂ o, Steps p.tables e below (s₁.setTop (mkF m 49 #[iv p0, iv p1, iv p2, iv p3, iv p4, iv 1, iv 1, iv x0, iv x1, iv x2, oU, oU, oU, oU, oU, oU, oU, oU, oU, oU, oU] [(.int 1), (.int x2), (.int x1), (.int x0)])) s₂ ∧ _
    have kk_27 := K0
    obtain ⟨_, _, ⟨T_27, L_27, k_27, n_27⟩, -, X_27, ⟨Lc_27, hQ_27, l_27, y_27, z_27⟩, st_27⟩ := Jvm.LawKit.callS X0 hx (y := own_m2) hown (mvT hZ (ow hw 1 rfl)) (mvT hZ (ow hw 2 rfl)) (mvT hZ (ow hw 3 rfl)) (mvT hZ (ow hw 4 rfl)) (by decide) (backOf (W := 0) (rmstr1 l Z av0 hw [] x0 x1 x2 w h0 n0 Z0 S_COMPACT_STRINGS hw0 hxq0) hZ (ow hw 4 rfl) (ow hw 3 rfl) (by decide) (by decide)) (g := (mkF m 49 #[iv p0, iv p1, iv p2, iv p3, iv p4, iv 1, iv 1, iv x0, iv x1, iv x2, oU, oU, oU, oU, oU, oU, oU, oU, oU, oU, oU] [(.int 1), (.int x2), (.int x1), (.int x0)])) rfl (by rw [hml]; rfl) (argsL := [(.int x0), (.int x1), (.int x2), (.int 1)]) (rest := []) (lenOf pd_11 rfl) rfl (by show 2 * 0 + _ ≤ _; exact Nat.le_of_eq rfl) (hb hby at_49) (fun _ _ => ⟨rfl, e0, (by decide : 0 + 3 ≤ _), (by decide : 0 + 6 ≤ _)⟩)
    dsimp only [Pt.U, Pt.locs, Pt.cells, Pt.slots] at X_27 l_27 y_27 z_27 st_27 hQ_27
    subst l_27 y_27 z_27
    obtain ⟨sx_27, sb_27, sk_27, rfl, N_27q, K_27, szq_27, sE_27, sc_27, sv_27, sV_27⟩ := hQ_27
    have N_27 := Fr.app N0 N_27q
    have c232 := H1.trans (CHr.keep K_27 all0 H1.1)
    have c233 := K0.trans K_27 all0
    have c234 := own_stak S_COMPACT_STRINGS K_27
    have Z0__27 : n0 ≤ T_27.heap.size := Nat.le_trans Z0 K_27.1
    have sz_sx_27 : h0.size ≤ sx_27 := Nat.le_trans kk_27.1 szq_27
    refine og (fun t k => st_27 t k) ?_
    refine og (B := T_27.setTop (mkF m 62 #[iv p0, iv p1, iv p2, iv p3, iv p4, iv 1, iv 1, iv x0, iv x1, iv x2, rv sx_27, oU, oU, oU, oU, oU, oU, oU, oU, oU, oU] [(.int 1), (.int x2), (.int x1), (.int x0)])) (fun t k => ?_) ?_
    · refine XS.astore X_27.here hx rfl (hb hby at_52) rfl rfl (l' := #[iv p0, iv p1, iv p2, iv p3, iv p4, iv 1, iv 1, iv x0, iv x1, iv x2, rv sx_27, oU, oU, oU, oU, oU, oU, oU, oU, oU, oU]) rfl ?_
      refine XS.iload X_27.here hx rfl (hb hby at_54) rfl ?_
      refine XS.iload X_27.here hx rfl (hb hby at_56) rfl ?_
      refine XS.iload X_27.here hx rfl (hb hby at_58) rfl ?_
      refine XS.iload X_27.here hx rfl (hb hby at_60) rfl ?_
      exact k
    have kk_28 := c233
    obtain ⟨_, _, ⟨T_28, L_28, k_28, n_28⟩, -, X_28, ⟨Lc_28, hQ_28, l_28, y_28, z_28⟩, st_28⟩ := Jvm.LawKit.callS X_27 hx (y := own_m2) hown (mvT hZ (ow hw 1 rfl)) (mvT hZ (ow hw 2 rfl)) (mvT hZ (ow hw 3 rfl)) (mvT hZ (ow hw 4 rfl)) (by decide) (backOf (W := 0) (rmstr1 l Z av0 hw [] x0 x1 x2 w T_27.heap n0 Z0__27 c234 hw0 hxq0) hZ (ow hw 4 rfl) (ow hw 3 rfl) (by decide) (by decide)) (g := (mkF m 62 #[iv p0, iv p1, iv p2, iv p3, iv p4, iv 1, iv 1, iv x0, iv x1, iv x2, rv sx_27, oU, oU, oU, oU, oU, oU, oU, oU, oU, oU] [(.int 1), (.int x2), (.int x1), (.int x0)])) rfl (by rw [hml]; rfl) (argsL := [(.int x0), (.int x1), (.int x2), (.int 1)]) (rest := []) (lenOf pd_11 rfl) rfl (by show 2 * 0 + _ ≤ _; exact Nat.le_of_eq rfl) (hb hby at_62) (fun _ _ => ⟨rfl, rfl, (by decide : 3 + 3 ≤ _), (by decide : 6 + 6 ≤ _)⟩)
    dsimp only [Pt.U, Pt.locs, Pt.cells, Pt.slots] at X_28 l_28 y_28 z_28 st_28 hQ_28
    subst l_28 y_28 z_28
    obtain ⟨sx_28, sb_28, sk_28, rfl, N_28q, K_28, szq_28, sE_28, sc_28, sv_28, sV_28⟩ := hQ_28
    have N_28 := Fr.app N_27 N_28q
    have c235 := c232.trans (CHr.keep K_28 all0 c232.1)
    have c236 := c233.trans K_28 all0
    have c237 := own_stak c234 K_28
    have c238 := sE_27.keep K_28
    have c239 := sc_27.keep K_28 nin0
    have c240 := sv_27.keep K_28 nin0
    have c241 := sV_27.keep K_28 nin0
    have Z0__28 : n0 ≤ T_28.heap.size := Nat.le_trans Z0__27 K_28.1
    have sz_sx_28 : h0.size ≤ sx_28 := Nat.le_trans kk_28.1 szq_28
    refine og (fun t k => st_28 t k) ?_
    refine og (B := T_28.setTop (mkF m 77 #[iv p0, iv p1, iv p2, iv p3, iv p4, iv 1, iv 1, iv x0, iv x1, iv x2, rv sx_27, rv sx_28, oU, oU, oU, oU, oU, oU, oU, oU, oU] [(.int 1), (.int 1), (.int x2), (.int x1), (.int x0)])) (fun t k => ?_) ?_
    · refine XS.astore X_28.here hx rfl (hb hby at_65) rfl rfl (l' := #[iv p0, iv p1, iv p2, iv p3, iv p4, iv 1, iv 1, iv x0, iv x1, iv x2, rv sx_27, rv sx_28, oU, oU, oU, oU, oU, oU, oU, oU, oU]) rfl ?_
      refine XS.iload X_28.here hx rfl (hb hby at_67) rfl ?_
      refine XS.iload X_28.here hx rfl (hb hby at_69) rfl ?_
      refine XS.iload X_28.here hx rfl (hb hby at_71) rfl ?_
      refine XS.iload X_28.here hx rfl (hb hby at_73) rfl ?_
      refine XS.iload X_28.here hx rfl (hb hby at_75) rfl ?_
      exact k
    have kk_29 := c236
    obtain ⟨_, _, ⟨T_29, L_29, k_29, n_29⟩, -, Xb_29, Sb_29, gs_29, ⟨Lc_29, hQ_29, l_29, y_29, z_29, CH_29⟩, st_29⟩ := callSS (show Stand p l e room_1 (s.setVm s.vm) m #[(.int p0), (.int p1), (.int p2), (.int p3), (.int p4)] below meth c T_28 _ _ _ from X_28) hx (y := own_m6) hown (mvT hZ (ow hw 27 rfl)) (mvT hZ (ow hw 28 rfl)) (mvT hZ (ow hw 3 rfl)) (mvT hZ (ow hw 29 rfl)) (by decide) (backOfSH (s := s) (vm0 := s.vm) (W := 0) (rmsfx1_1 l Z av0 hw [] x0 x1 x2  T_28.heap n0 Z0__28 hEL) hZ (ow hw 29 rfl) (ow hw 3 rfl) (by decide) (by decide) hEL c235.1) (g := (mkF m 77 #[iv p0, iv p1, iv p2, iv p3, iv p4, iv 1, iv 1, iv x0, iv x1, iv x2, rv sx_27, rv sx_28, oU, oU, oU, oU, oU, oU, oU, oU, oU] [(.int 1), (.int 1), (.int x2), (.int x1), (.int x0)])) rfl (by rw [hml]; rfl) (argsL := [(.int x0), (.int x1), (.int x2), (.int 1), (.int 1)]) (rest := []) (lenOf pd_16 rfl) rfl (by show 2 * 0 + _ ≤ _; exact Nat.le_of_eq rfl) (hb hby at_77) (fun _ _ => ⟨rfl, rfl, (by decide : 6 + 6 ≤ _), (by decide : 12 + 12 ≤ _)⟩)
    dsimp only [Pt.U, Pt.locs, Pt.cells, Pt.slots] at Xb_29 Sb_29 gs_29 l_29 y_29 z_29 st_29 hQ_29 CH_29
    subst l_29 y_29 z_29
    obtain ⟨sx_29, sb_29, sk_29, rfl, N_29q, K_29, szq_29, sE_29, sc_29, sv_29, sV_29⟩ := hQ_29
    have N_29 := Fr.app N_28 N_29q
    obtain ⟨X_29, Si_29, hZ_29, hown_29⟩ := rebS (s := s) (vm0 := s.vm) ((State.WarmedH.refl s).since 0) (Nat.zero_le 0) Xb_29 Sb_29 (Nat.zero_le _) hZ hown
    have c242 := c235.trans CH_29
    have c243 := c236.trans K_29 all0
    have c244 := own_stak c237 K_29
    have c245 := c238.keep K_29
    have c246 := c239.keep K_29 nin0
    have c247 := c240.keep K_29 nin0
    have c248 := c241.keep K_29 nin0
    have c249 := sE_28.keep K_29
    have c250 := sc_28.keep K_29 nin0
    have c251 := sv_28.keep K_29 nin0
    have c252 := sV_28.keep K_29 nin0
    have Z0__29 : n0 ≤ T_29.heap.size := Nat.le_trans Z0__28 K_29.1
    have sz_sx_29 : h0.size ≤ sx_29 := Nat.le_trans kk_29.1 szq_29
    refine og (fun t k => st_29.trans k) ?_
    refine og (B := T_29.setTop (mkF m 82 #[iv p0, iv p1, iv p2, iv p3, iv p4, iv 1, iv 1, iv x0, iv x1, iv x2, rv sx_27, rv sx_28, rv sx_29, oU, oU, oU, oU, oU, oU, oU, oU] [])) (fun t k => ?_) ?_
    · refine XS.astore X_29.here hx rfl (hb hby at_80) rfl rfl (l' := #[iv p0, iv p1, iv p2, iv p3, iv p4, iv 1, iv 1, iv x0, iv x1, iv x2, rv sx_27, rv sx_28, rv sx_29, oU, oU, oU, oU, oU, oU, oU, oU]) rfl ?_
      exact k
    obtain ⟨T_30, h_30, X_30, e_30, E_30, A_30, D_30, -, st_30⟩ := newO X_29 hx hZ_29 hown_29 (ow hw 30 rfl) (ow hw 31 rfl) (ow hw 32 rfl) rfl (g := (mkF m 82 #[iv p0, iv p1, iv p2, iv p3, iv p4, iv 1, iv 1, iv x0, iv x1, iv x2, rv sx_27, rv sx_28, rv sx_29, oU, oU, oU, oU, oU, oU, oU, oU] [])) rfl (hb hby at_82) (by decide) (by decide)
    obtain ⟨b_30, g_30⟩ : ∃ z, z = T_29.heap.size := ⟨_, rfl⟩
    rw [← g_30] at A_30 D_30 st_30
    have g_b_30 : n0 ≤ b_30 := Nat.le_trans Z0__29 (Nat.le_of_eq g_30.symm)
    have sz_b_30 : h0.size ≤ b_30 := Nat.le_trans c243.1 (Nat.le_of_eq g_30.symm)
    have sf_b_30 : Safe Z own_EL T_29.vm T_29.heap b_30 := Safe.new (Nat.le_of_eq g_30.symm)
    have ne_sx_27_b_30 : sx_27 ≠ b_30 := Nat.ne_of_lt (Nat.lt_of_lt_of_le (c245).lt (Nat.le_of_eq g_30.symm))
    have ne_sb_27_b_30 : sb_27 ≠ b_30 := Nat.ne_of_lt (Nat.lt_of_lt_of_le (c248).lt (Nat.le_of_eq g_30.symm))
    have ne_sx_28_b_30 : sx_28 ≠ b_30 := Nat.ne_of_lt (Nat.lt_of_lt_of_le (c249).lt (Nat.le_of_eq g_30.symm))
    have ne_sb_28_b_30 : sb_28 ≠ b_30 := Nat.ne_of_lt (Nat.lt_of_lt_of_le (c252).lt (Nat.le_of_eq g_30.symm))
    have ne_sx_29_b_30 : sx_29 ≠ b_30 := Nat.ne_of_lt (Nat.lt_of_lt_of_le (sE_29).lt (Nat.le_of_eq g_30.symm))
    have ne_sb_29_b_30 : sb_29 ≠ b_30 := Nat.ne_of_lt (Nat.lt_of_lt_of_le (sV_29).lt (Nat.le_of_eq g_30.symm))
    have c253 := Safe.ext E_30 c242.1 sf_b_30
    have c254 := c242.trans (CHr.ext E_30 c242.1)
    have c255 := Nat.le_trans (Nat.le_refl _) E_30.1
    have c256 := c243.ext E_30
    have c257 := c244.ext E_30
    have c258 := c245.ext E_30
    have c259 := c246.ext E_30
    have c260 := c247.ext E_30
    have c261 := c248.ext E_30
    have c262 := c249.ext E_30
    have c263 := c250.ext E_30
    have c264 := c251.ext E_30
    have c265 := c252.ext E_30
    have c266 := sE_29.ext E_30
    have c267 := sc_29.ext E_30
    have c268 := sv_29.ext E_30
    have c269 := sV_29.ext E_30
    have Z0__30 : n0 ≤ h_30.size := Nat.le_trans Z0__29 E_30.1
    have F_source_b_30 : Fld Z h_30 b_30 "com/example/cutoff/cutoff/store/TextCursor" "source" "Ljava/lang/String;" .null := D_30 (Or.inr (ow hw 39 rfl)) (ty := (.object "java/lang/String")) (by decide)
    have F_text_b_30 : Fld Z h_30 b_30 "com/example/cutoff/cutoff/store/TextCursor" "text" "Ljava/lang/String;" .null := D_30 (Or.inr (ow hw 41 rfl)) (ty := (.object "java/lang/String")) (by decide)
    have F_firstLine_b_30 : Fld Z h_30 b_30 "com/example/cutoff/cutoff/store/TextCursor" "firstLine" "I" (.int 0) := D_30 (Or.inr (ow hw 43 rfl)) (ty := .int) (by decide)
    have F_end_b_30 : Fld Z h_30 b_30 "com/example/cutoff/cutoff/store/TextCursor" "end" "Ljava/lang/String;" .null := D_30 (Or.inr (ow hw 86 rfl)) (ty := (.object "java/lang/String")) (by decide)
    have F_position_b_30 : Fld Z h_30 b_30 "com/example/cutoff/cutoff/store/TextCursor" "position" "I" (.int 0) := D_30 (Or.inl (ow hw 93 rfl)) (ty := .int) (by decide)
    refine og (fun t k => st_30 t k) ?_
    refine og (B := T_30.setTop (mkF m 86 #[iv p0, iv p1, iv p2, iv p3, iv p4, iv 1, iv 1, iv x0, iv x1, iv x2, rv sx_27, rv sx_28, rv sx_29, oU, oU, oU, oU, oU, oU, oU, oU] [(.ref b_30), (.ref b_30)])) (fun t k => ?_) ?_
    · refine XS.dup X_30.here hx rfl (hb hby at_85) rfl rfl ?_
      exact k
    have wS_31 := own_wS hw
    obtain ⟨b_31, T_31, h_31, k1_31, d_31, kc_31, X_31, e_31, E_31, Si_31, ls_31, hZ_31, hown_31, A_31, Fc_31, Fv_31, V_31, -, -, CH_31, -, NE_31, st_31⟩ := ldcCH (s := s) (vm0 := T_29.vm) X_30 hx hZ_29 hown_29 (ow hw 33 rfl) wS_31 e_30 Si_29 c255 hEL (List.mem_of_getElem? (i := 1) rfl) c254.1 (vs := [(.int (115 : Int32))]) (z := (1 : Int32)) ⟨by decide, rfl⟩ (by decide) rfl (g := (mkF m 86 #[iv p0, iv p1, iv p2, iv p3, iv p4, iv 1, iv 1, iv x0, iv x1, iv x2, rv sx_27, rv sx_28, rv sx_29, oU, oU, oU, oU, oU, oU, oU, oU] [(.ref b_30), (.ref b_30)])) rfl (hb hby at_86) (n := 4) (by decide) (by decide) (by decide) (by decide)
    have c270 := CHr.safe CH_31 (F_source_b_30).lt c253
    have c271 := c254.trans CH_31
    have ne_b_30_b_31 : b_30 ≠ b_31 := (NE_31 _ c270).1
    have ne_b_30_d_31 : b_30 ≠ d_31 := (NE_31 _ c270).2
    have c272 := c256.ext E_31
    have c273 := c257.ext E_31
    have c274 := c258.ext E_31
    have c275 := c259.ext E_31
    have c276 := c260.ext E_31
    have c277 := c261.ext E_31
    have c278 := c262.ext E_31
    have c279 := c263.ext E_31
    have c280 := c264.ext E_31
    have c281 := c265.ext E_31
    have c282 := c266.ext E_31
    have c283 := c267.ext E_31
    have c284 := c268.ext E_31
    have c285 := c269.ext E_31
    have c286 := F_source_b_30.ext E_31
    have c287 := F_text_b_30.ext E_31
    have c288 := F_firstLine_b_30.ext E_31
    have c289 := F_end_b_30.ext E_31
    have c290 := F_position_b_30.ext E_31
    have c291 := A_30.ext E_31
    have Z0__31 : n0 ≤ h_31.size := Nat.le_trans Z0__30 E_31.1
    refine og (fun t k => st_31 t k) ?_
    refine og (B := T_31.setTop (mkF m 91 #[iv p0, iv p1, iv p2, iv p3, iv p4, iv 1, iv 1, iv x0, iv x1, iv x2, rv sx_27, rv sx_28, rv sx_29, oU, oU, oU, oU, oU, oU, oU, oU] [(.int 1), (.ref sx_27), (.ref b_31), (.ref b_30), (.ref b_30)])) (fun t k => ?_) ?_
    · refine XS.aload X_31.here hx rfl (hb hby at_88) rfl rfl ?_
      refine XS.iconst X_31.here hx rfl (hb hby at_90) ?_
      exact k
    obtain ⟨_, _, ⟨T_32, L_32, k_32, n_32⟩, -, Xb_32, Sb_32, gs_32, ⟨Lc_32, hQ_32, l_32, y_32, z_32, CH_32⟩, st_32⟩ := X_31.specialBackS hx (y := own_m7) rfl hown_31 (mvT hZ_31 (ow hw 34 rfl)) (mvT hZ_31 (ow hw 35 rfl)) (mvT hZ_31 (ow hw 36 rfl)) (by decide) (backOfSH (s := s) (vm0 := T_31.vm) (W := 1) (rmtc l Z av0 hw [] b_30 b_31 sx_27 .null .null (.int 0) .null sb_27 sk_27 w (1 : Int32) [(.int (own_byte (nar .char x0)))] (fun c => own_ixl1 (own_byte (nar .char x0)) c) h_31 n0 Z0__31 c291 c286 c287 c288 c289 c290 g_b_30 c274 c275 c276 c273 hw0 c277 ne_sx_27_b_30 ne_sb_27_b_30 hEL (fun h' c z e f1 f2 s v => rmsxa1 l Z av0 hw [] sx_27 c sb_27 sk_27 w (own_byte (nar .char x0)) h' n0 z e f1 f2 s hw0 v)) hZ_31 (ow hw 36 rfl) (ow hw 32 rfl) (by decide) (by decide) hEL c271.1) (g := (mkF m 91 #[iv p0, iv p1, iv p2, iv p3, iv p4, iv 1, iv 1, iv x0, iv x1, iv x2, rv sx_27, rv sx_28, rv sx_29, oU, oU, oU, oU, oU, oU, oU, oU] [(.int 1), (.ref sx_27), (.ref b_31), (.ref b_30), (.ref b_30)])) rfl (by rw [hml]; rfl) (Steps.refl _) (a := b_30) (argsL := [(.ref b_31), (.ref sx_27), (.int 1)]) (rest := [(.ref b_30)]) (lenOf pd_17 rfl) rfl (by show 2 * 0 + _ ≤ _; exact Nat.le_of_eq rfl) (hb hby at_91) (fun _ _ => ⟨rfl, e_31, (by decide : 15 + 2 ≤ _), (by decide : 37 + 80 ≤ _)⟩)
    dsimp only [Pt.U, Pt.locs, Pt.cells, Pt.slots] at Xb_32 Sb_32 gs_32 l_32 y_32 z_32 st_32 hQ_32 CH_32
    subst l_32 y_32 z_32
    obtain ⟨rfl, N_32q, K_32, Ft_32, Fp_32⟩ := hQ_32
    have N_32 := Fr.app N_29 N_32q
    obtain ⟨X_32, Si_32, hZ_32, hown_32⟩ := rebS (s := s) (vm0 := T_31.vm) Si_31 (Nat.le_refl _) Xb_32 Sb_32 (Nat.le_trans ls_31 K_32.1) hZ_31 hown_31
    have c292 := CHr.safe CH_32 (c286).lt c270
    have c293 := c271.trans CH_32
    have c294 := Nat.le_trans ls_31 K_32.1
    have c295 := c272.trans K_32 (allS (Or.inr sz_b_30) all0)
    have c296 := own_stake c273 K_32 c291
    have c297 := c274.keep K_32
    have c298 := c275.keep K_32 (ninS ne_sx_27_b_30 nin0)
    have c299 := c276.keep K_32 (ninS ne_sx_27_b_30 nin0)
    have c300 := c277.keep K_32 (ninS ne_sb_27_b_30 nin0)
    have c301 := c278.keep K_32
    have c302 := c279.keep K_32 (ninS ne_sx_28_b_30 nin0)
    have c303 := c280.keep K_32 (ninS ne_sx_28_b_30 nin0)
    have c304 := c281.keep K_32 (ninS ne_sb_28_b_30 nin0)
    have c305 := c282.keep K_32
    have c306 := c283.keep K_32 (ninS ne_sx_29_b_30 nin0)
    have c307 := c284.keep K_32 (ninS ne_sx_29_b_30 nin0)
    have c308 := c285.keep K_32 (ninS ne_sb_29_b_30 nin0)
    have c309 := c291.keep K_32
    have Z0__32 : n0 ≤ T_32.heap.size := Nat.le_trans Z0__31 K_32.1
    refine og (fun t k => st_32.trans k) ?_
    refine og (B := T_32.setTop (mkF m 98 #[iv p0, iv p1, iv p2, iv p3, iv p4, iv 1, iv 1, iv x0, iv x1, iv x2, rv sx_27, rv sx_28, rv sx_29, rv b_30, oU, oU, oU, oU, oU, oU, oU] [(.ref b_30)])) (fun t k => ?_) ?_
    · refine XS.astore X_32.here hx rfl (hb hby at_94) rfl rfl (l' := #[iv p0, iv p1, iv p2, iv p3, iv p4, iv 1, iv 1, iv x0, iv x1, iv x2, rv sx_27, rv sx_28, rv sx_29, rv b_30, oU, oU, oU, oU, oU, oU, oU]) rfl ?_
      refine XS.aload X_32.here hx rfl (hb hby at_96) rfl rfl ?_
      exact k
    obtain ⟨cq_33, kq_33, q_33a, q_33b, q_33c⟩ := isOf hZ_32 rfl c309
    obtain ⟨_, _, ⟨T_33, L_33, k_33, n_33⟩, -, X_33, ⟨Lc_33, hQ_33, l_33, y_33, z_33⟩, st_33⟩ := X_32.virtualBack hx (y := own_m17) (z := own_m17) hown_32 (mvT hZ_32 (ow hw 87 rfl)) (mvT hZ_32 (ow hw 88 rfl)) (notFace_of_selects (args := #[]) (mvT hZ_32 (ow hw 90 rfl))) (mvT hZ_32 (ow hw 90 rfl)) (mvT hZ_32 (ow hw 89 rfl)) (by decide) (backOf (W := 0) (rm16 l Z av0 hw [] b_30 (0 : Int32) sx_27 sb_27 sk_27 w (1 : Int32) [(.int (own_byte (nar .char x0)))] T_32.heap n0 Z0__32 Fp_32 Ft_32 c297 c298 c299 c296 hw0 c300) hZ_32 (ow hw 91 rfl) (ow hw 32 rfl) (by decide) (by decide)) q_33a q_33c (g := (mkF m 98 #[iv p0, iv p1, iv p2, iv p3, iv p4, iv 1, iv 1, iv x0, iv x1, iv x2, rv sx_27, rv sx_28, rv sx_29, rv b_30, oU, oU, oU, oU, oU, oU, oU] [(.ref b_30)])) rfl (by rw [hml]; rfl) (Steps.refl _) (argsL := []) (rest := []) (lenOf pd_3 rfl) rfl (by show 2 * 0 + _ ≤ _; exact Nat.le_of_eq rfl) (hb hby at_98) (fun _ _ => ⟨rfl, rfl, (by decide : 17 + 0 ≤ _), (by decide : 117 + 0 ≤ _)⟩)
    dsimp only [Pt.U, Pt.locs, Pt.cells, Pt.slots] at X_33 l_33 y_33 z_33 st_33 hQ_33
    subst l_33 y_33 z_33
    obtain ⟨hv_33, N_33q, e_33⟩ := hQ_33
    have N_33 := Fr.app N_32 N_33q
    rw [show own_ge (0 : Int32) (1 : Int32) = (0 : Int32) from by decide] at hv_33
    subst hv_33
    refine og (fun t k => st_33.trans k) ?_
    refine og (B := T_33.setTop (mkF m 107 #[iv p0, iv p1, iv p2, iv p3, iv p4, iv 1, iv 1, iv x0, iv x1, iv x2, rv sx_27, rv sx_28, rv sx_29, rv b_30, iv 0, oU, oU, oU, oU, oU, oU] [(.ref sx_28), (.ref b_30)])) (fun t k => ?_) ?_
    · refine XS.istore X_33.here hx rfl (hb hby at_101) rfl (l' := #[iv p0, iv p1, iv p2, iv p3, iv p4, iv 1, iv 1, iv x0, iv x1, iv x2, rv sx_27, rv sx_28, rv sx_29, rv b_30, iv 0, oU, oU, oU, oU, oU, oU]) rfl ?_
      refine XS.aload X_33.here hx rfl (hb hby at_103) rfl rfl ?_
      refine XS.aload X_33.here hx rfl (hb hby at_105) rfl rfl ?_
      exact k
    obtain ⟨cq_34, kq_34, q_34a, q_34b, q_34c⟩ := isOf hZ_32 e_33 c309
    obtain ⟨_, _, ⟨T_34, L_34, k_34, n_34⟩, -, X_34, ⟨Lc_34, hQ_34, l_34, y_34, z_34⟩, st_34⟩ := X_33.virtualBack hx (y := own_m18) (z := own_m18) hown_32 (mvT hZ_32 (ow hw 95 rfl)) (mvT hZ_32 (ow hw 96 rfl)) (notFace_of_selects (args := #[]) (mvT hZ_32 (ow hw 98 rfl))) (mvT hZ_32 (ow hw 98 rfl)) (mvT hZ_32 (ow hw 97 rfl)) (by decide) (backOf (W := 0) (rmco l Z av0 hw [] b_30 sx_28 sx_27 (0 : Int32) sb_27 sb_28 sk_27 sk_28 w (1 : Int32) (1 : Int32) [(.int (own_byte (nar .char x0)))] [(.int (own_byte (nar .char x0)))] T_32.heap n0 Z0__32 c309 Ft_32 Fp_32 g_b_30 c297 c298 c299 c301 c302 c303 c296 hw0 c300 c304 ne_sx_28_b_30 ne_sb_28_b_30 (by decide) (by decide) (rmmm1 l Z av0 hw [] sb_27 (0 : Int32) sb_28 sk_27 sk_28 (1 : Int32) [(.int (own_byte (nar .char x0)))] (own_byte (nar .char x0)) T_32.heap n0 Z0__32 c300 c304 (by decide) rfl)) hZ_32 (ow hw 99 rfl) (ow hw 32 rfl) (by decide) (by decide)) q_34a q_34c (g := (mkF m 107 #[iv p0, iv p1, iv p2, iv p3, iv p4, iv 1, iv 1, iv x0, iv x1, iv x2, rv sx_27, rv sx_28, rv sx_29, rv b_30, iv 0, oU, oU, oU, oU, oU, oU] [(.ref sx_28), (.ref b_30)])) rfl (by rw [hml]; rfl) (Steps.refl _) (argsL := [(.ref sx_28)]) (rest := []) (lenOf pd_15 rfl) rfl (by show 2 * 0 + _ ≤ _; exact Nat.le_of_eq rfl) (hb hby at_107) (fun _ _ => ⟨rfl, e_33, (by decide : 17 + 0 ≤ _), (by decide : 117 + 0 ≤ _)⟩)
    dsimp only [Pt.U, Pt.locs, Pt.cells, Pt.slots] at X_34 l_34 y_34 z_34 st_34 hQ_34
    subst l_34 y_34 z_34
    obtain ⟨rfl, N_34q, K_34, Fp_34, Ft_34⟩ := hQ_34
    have N_34 := Fr.app N_33 N_34q
    have c310 := Safe.keep K_34 (allS c292 all0) c293.1 c292
    have c311 := c293.trans (CHr.keep K_34 (allS c292 all0) c293.1)
    have c312 := Nat.le_trans (Nat.le_refl _) K_34.1
    have c313 := c295.trans K_34 (allS (Or.inr sz_b_30) all0)
    have c314 := own_stake c296 K_34 c309
    have c315 := c297.keep K_34
    have c316 := c298.keep K_34 (ninS ne_sx_27_b_30 nin0)
    have c317 := c299.keep K_34 (ninS ne_sx_27_b_30 nin0)
    have c318 := c300.keep K_34 (ninS ne_sb_27_b_30 nin0)
    have c319 := c301.keep K_34
    have c320 := c302.keep K_34 (ninS ne_sx_28_b_30 nin0)
    have c321 := c303.keep K_34 (ninS ne_sx_28_b_30 nin0)
    have c322 := c304.keep K_34 (ninS ne_sb_28_b_30 nin0)
    have c323 := c305.keep K_34
    have c324 := c306.keep K_34 (ninS ne_sx_29_b_30 nin0)
    have c325 := c307.keep K_34 (ninS ne_sx_29_b_30 nin0)
    have c326 := c308.keep K_34 (ninS ne_sb_29_b_30 nin0)
    have c327 := c309.keep K_34
    have Z0__34 : n0 ≤ T_34.heap.size := Nat.le_trans Z0__32 K_34.1
    have Fq_34 : Fld Z T_34.heap b_30 "com/example/cutoff/cutoff/store/TextCursor" "position" "I" (.int (1 : Int32)) := Fp_34
    refine og (fun t k => st_34.trans k) ?_
    refine og (B := T_34.setTop (mkF m 114 #[iv p0, iv p1, iv p2, iv p3, iv p4, iv 1, iv 1, iv x0, iv x1, iv x2, rv sx_27, rv sx_28, rv sx_29, rv b_30, iv 0, iv 1, oU, oU, oU, oU, oU] [(.ref b_30)])) (fun t k => ?_) ?_
    · refine XS.istore X_34.here hx rfl (hb hby at_110) rfl (l' := #[iv p0, iv p1, iv p2, iv p3, iv p4, iv 1, iv 1, iv x0, iv x1, iv x2, rv sx_27, rv sx_28, rv sx_29, rv b_30, iv 0, iv 1, oU, oU, oU, oU, oU]) rfl ?_
      refine XS.aload X_34.here hx rfl (hb hby at_112) rfl rfl ?_
      exact k
    obtain ⟨cq_35, kq_35, q_35a, q_35b, q_35c⟩ := isOf hZ_32 rfl c327
    obtain ⟨_, _, ⟨T_35, L_35, k_35, n_35⟩, -, X_35, ⟨Lc_35, hQ_35, l_35, y_35, z_35⟩, st_35⟩ := X_34.virtualBack hx (y := own_m22) (z := own_m22) hown_32 (mvT hZ_32 (ow hw 114 rfl)) (mvT hZ_32 (ow hw 115 rfl)) (notFace_of_selects (args := #[]) (mvT hZ_32 (ow hw 117 rfl))) (mvT hZ_32 (ow hw 117 rfl)) (mvT hZ_32 (ow hw 116 rfl)) (by decide) (backOf (W := 0) (rm21 l Z av0 hw [] b_30 (1 : Int32) T_34.heap n0 Z0__34 Fq_34) hZ_32 (ow hw 118 rfl) (ow hw 32 rfl) (by decide) (by decide)) q_35a q_35c (g := (mkF m 114 #[iv p0, iv p1, iv p2, iv p3, iv p4, iv 1, iv 1, iv x0, iv x1, iv x2, rv sx_27, rv sx_28, rv sx_29, rv b_30, iv 0, iv 1, oU, oU, oU, oU, oU] [(.ref b_30)])) rfl (by rw [hml]; rfl) (Steps.refl _) (argsL := []) (rest := []) (lenOf pd_4 rfl) rfl (by show 2 * 0 + _ ≤ _; exact Nat.le_of_eq rfl) (hb hby at_114) (fun _ _ => ⟨rfl, rfl, (by decide : 17 + 0 ≤ _), (by decide : 117 + 0 ≤ _)⟩)
    dsimp only [Pt.U, Pt.locs, Pt.cells, Pt.slots] at X_35 l_35 y_35 z_35 st_35 hQ_35
    subst l_35 y_35 z_35
    obtain ⟨rfl, N_35q, e_35⟩ := hQ_35
    have N_35 := Fr.app N_34 N_35q
    refine og (fun t k => st_35.trans k) ?_
    refine og (B := T_35.setTop (mkF m 121 #[iv p0, iv p1, iv p2, iv p3, iv p4, iv 1, iv 1, iv x0, iv x1, iv x2, rv sx_27, rv sx_28, rv sx_29, rv b_30, iv 0, iv 1, iv 1, oU, oU, oU, oU] [(.ref b_30)])) (fun t k => ?_) ?_
    · refine XS.istore X_35.here hx rfl (hb hby at_117) rfl (l' := #[iv p0, iv p1, iv p2, iv p3, iv p4, iv 1, iv 1, iv x0, iv x1, iv x2, rv sx_27, rv sx_28, rv sx_29, rv b_30, iv 0, iv 1, iv 1, oU, oU, oU, oU]) rfl ?_
      refine XS.aload X_35.here hx rfl (hb hby at_119) rfl rfl ?_
      exact k
    obtain ⟨cq_36, kq_36, q_36a, q_36b, q_36c⟩ := isOf hZ_32 e_35 c327
    obtain ⟨_, _, ⟨T_36, L_36, k_36, n_36⟩, -, X_36, ⟨Lc_36, hQ_36, l_36, y_36, z_36⟩, st_36⟩ := X_35.virtualBack hx (y := own_m17) (z := own_m17) hown_32 (mvT hZ_32 (ow hw 87 rfl)) (mvT hZ_32 (ow hw 88 rfl)) (notFace_of_selects (args := #[]) (mvT hZ_32 (ow hw 90 rfl))) (mvT hZ_32 (ow hw 90 rfl)) (mvT hZ_32 (ow hw 89 rfl)) (by decide) (backOf (W := 0) (rm16 l Z av0 hw [] b_30 (1 : Int32) sx_27 sb_27 sk_27 w (1 : Int32) [(.int (own_byte (nar .char x0)))] T_34.heap n0 Z0__34 Fq_34 Ft_34 c315 c316 c317 c314 hw0 c318) hZ_32 (ow hw 91 rfl) (ow hw 32 rfl) (by decide) (by decide)) q_36a q_36c (g := (mkF m 121 #[iv p0, iv p1, iv p2, iv p3, iv p4, iv 1, iv 1, iv x0, iv x1, iv x2, rv sx_27, rv sx_28, rv sx_29, rv b_30, iv 0, iv 1, iv 1, oU, oU, oU, oU] [(.ref b_30)])) rfl (by rw [hml]; rfl) (Steps.refl _) (argsL := []) (rest := []) (lenOf pd_3 rfl) rfl (by show 2 * 0 + _ ≤ _; exact Nat.le_of_eq rfl) (hb hby at_121) (fun _ _ => ⟨rfl, e_35, (by decide : 17 + 0 ≤ _), (by decide : 117 + 0 ≤ _)⟩)
    dsimp only [Pt.U, Pt.locs, Pt.cells, Pt.slots] at X_36 l_36 y_36 z_36 st_36 hQ_36
    subst l_36 y_36 z_36
    obtain ⟨hv_36, N_36q, e_36⟩ := hQ_36
    have N_36 := Fr.app N_35 N_36q
    rw [show own_ge (1 : Int32) (1 : Int32) = (1 : Int32) from by decide] at hv_36
    subst hv_36
    refine og (fun t k => st_36.trans k) ?_
    refine og (B := T_36.setTop (mkF m 130 #[iv p0, iv p1, iv p2, iv p3, iv p4, iv 1, iv 1, iv x0, iv x1, iv x2, rv sx_27, rv sx_28, rv sx_29, rv b_30, iv 0, iv 1, iv 1, iv 1, oU, oU, oU] [(.ref sx_29), (.ref b_30)])) (fun t k => ?_) ?_
    · refine XS.istore X_36.here hx rfl (hb hby at_124) rfl (l' := #[iv p0, iv p1, iv p2, iv p3, iv p4, iv 1, iv 1, iv x0, iv x1, iv x2, rv sx_27, rv sx_28, rv sx_29, rv b_30, iv 0, iv 1, iv 1, iv 1, oU, oU, oU]) rfl ?_
      refine XS.aload X_36.here hx rfl (hb hby at_126) rfl rfl ?_
      refine XS.aload X_36.here hx rfl (hb hby at_128) rfl rfl ?_
      exact k
    obtain ⟨cq_37, kq_37, q_37a, q_37b, q_37c⟩ := isOf hZ_32 e_36 c327
    obtain ⟨_, _, ⟨T_37, L_37, k_37, n_37⟩, -, X_37, ⟨Lc_37, hQ_37, l_37, y_37, z_37⟩, st_37⟩ := X_36.virtualBack hx (y := own_m18) (z := own_m18) hown_32 (mvT hZ_32 (ow hw 95 rfl)) (mvT hZ_32 (ow hw 96 rfl)) (notFace_of_selects (args := #[]) (mvT hZ_32 (ow hw 98 rfl))) (mvT hZ_32 (ow hw 98 rfl)) (mvT hZ_32 (ow hw 97 rfl)) (by decide) (backOf (W := 0) (rmco l Z av0 hw [] b_30 sx_29 sx_27 (1 : Int32) sb_27 sb_29 sk_27 sk_29 w (1 : Int32) (0 : Int32) [(.int (own_byte (nar .char x0)))] [] T_34.heap n0 Z0__34 c327 Ft_34 Fq_34 g_b_30 c315 c316 c317 c323 c324 c325 c314 hw0 c318 c326 ne_sx_29_b_30 ne_sb_29_b_30 (by decide) (by decide) (rmmm0 l Z av0 hw [] sb_27 (1 : Int32) sb_29 sk_27 sk_29 (1 : Int32) [(.int (own_byte (nar .char x0)))]  T_34.heap n0 Z0__34 c318 c326 )) hZ_32 (ow hw 99 rfl) (ow hw 32 rfl) (by decide) (by decide)) q_37a q_37c (g := (mkF m 130 #[iv p0, iv p1, iv p2, iv p3, iv p4, iv 1, iv 1, iv x0, iv x1, iv x2, rv sx_27, rv sx_28, rv sx_29, rv b_30, iv 0, iv 1, iv 1, iv 1, oU, oU, oU] [(.ref sx_29), (.ref b_30)])) rfl (by rw [hml]; rfl) (Steps.refl _) (argsL := [(.ref sx_29)]) (rest := []) (lenOf pd_15 rfl) rfl (by show 2 * 0 + _ ≤ _; exact Nat.le_of_eq rfl) (hb hby at_130) (fun _ _ => ⟨rfl, e_36, (by decide : 17 + 0 ≤ _), (by decide : 117 + 0 ≤ _)⟩)
    dsimp only [Pt.U, Pt.locs, Pt.cells, Pt.slots] at X_37 l_37 y_37 z_37 st_37 hQ_37
    subst l_37 y_37 z_37
    obtain ⟨rfl, N_37q, K_37, Fp_37, Ft_37⟩ := hQ_37
    have N_37 := Fr.app N_36 N_37q
    have c328 := Safe.keep K_37 (allS c310 all0) c311.1 c310
    have c329 := c311.trans (CHr.keep K_37 (allS c310 all0) c311.1)
    have c330 := Nat.le_trans c312 K_37.1
    have c331 := c313.trans K_37 (allS (Or.inr sz_b_30) all0)
    have c332 := own_stake c314 K_37 c327
    have c333 := c315.keep K_37
    have c334 := c316.keep K_37 (ninS ne_sx_27_b_30 nin0)
    have c335 := c317.keep K_37 (ninS ne_sx_27_b_30 nin0)
    have c336 := c318.keep K_37 (ninS ne_sb_27_b_30 nin0)
    have c337 := c319.keep K_37
    have c338 := c320.keep K_37 (ninS ne_sx_28_b_30 nin0)
    have c339 := c321.keep K_37 (ninS ne_sx_28_b_30 nin0)
    have c340 := c322.keep K_37 (ninS ne_sb_28_b_30 nin0)
    have c341 := c323.keep K_37
    have c342 := c324.keep K_37 (ninS ne_sx_29_b_30 nin0)
    have c343 := c325.keep K_37 (ninS ne_sx_29_b_30 nin0)
    have c344 := c326.keep K_37 (ninS ne_sb_29_b_30 nin0)
    have c345 := c327.keep K_37
    have Z0__37 : n0 ≤ T_37.heap.size := Nat.le_trans Z0__34 K_37.1
    have Fq_37 : Fld Z T_37.heap b_30 "com/example/cutoff/cutoff/store/TextCursor" "position" "I" (.int (1 : Int32)) := Fp_37
    refine og (fun t k => st_37.trans k) ?_
    refine og (B := T_37.setTop (mkF m 137 #[iv p0, iv p1, iv p2, iv p3, iv p4, iv 1, iv 1, iv x0, iv x1, iv x2, rv sx_27, rv sx_28, rv sx_29, rv b_30, iv 0, iv 1, iv 1, iv 1, iv 1, oU, oU] [(.ref b_30)])) (fun t k => ?_) ?_
    · refine XS.istore X_37.here hx rfl (hb hby at_133) rfl (l' := #[iv p0, iv p1, iv p2, iv p3, iv p4, iv 1, iv 1, iv x0, iv x1, iv x2, rv sx_27, rv sx_28, rv sx_29, rv b_30, iv 0, iv 1, iv 1, iv 1, iv 1, oU, oU]) rfl ?_
      refine XS.aload X_37.here hx rfl (hb hby at_135) rfl rfl ?_
      exact k
    obtain ⟨cq_38, kq_38, q_38a, q_38b, q_38c⟩ := isOf hZ_32 rfl c345
    obtain ⟨_, _, ⟨T_38, L_38, k_38, n_38⟩, -, X_38, ⟨Lc_38, hQ_38, l_38, y_38, z_38⟩, st_38⟩ := X_37.virtualBack hx (y := own_m22) (z := own_m22) hown_32 (mvT hZ_32 (ow hw 114 rfl)) (mvT hZ_32 (ow hw 115 rfl)) (notFace_of_selects (args := #[]) (mvT hZ_32 (ow hw 117 rfl))) (mvT hZ_32 (ow hw 117 rfl)) (mvT hZ_32 (ow hw 116 rfl)) (by decide) (backOf (W := 0) (rm21 l Z av0 hw [] b_30 (1 : Int32) T_37.heap n0 Z0__37 Fq_37) hZ_32 (ow hw 118 rfl) (ow hw 32 rfl) (by decide) (by decide)) q_38a q_38c (g := (mkF m 137 #[iv p0, iv p1, iv p2, iv p3, iv p4, iv 1, iv 1, iv x0, iv x1, iv x2, rv sx_27, rv sx_28, rv sx_29, rv b_30, iv 0, iv 1, iv 1, iv 1, iv 1, oU, oU] [(.ref b_30)])) rfl (by rw [hml]; rfl) (Steps.refl _) (argsL := []) (rest := []) (lenOf pd_4 rfl) rfl (by show 2 * 0 + _ ≤ _; exact Nat.le_of_eq rfl) (hb hby at_137) (fun _ _ => ⟨rfl, rfl, (by decide : 17 + 0 ≤ _), (by decide : 117 + 0 ≤ _)⟩)
    dsimp only [Pt.U, Pt.locs, Pt.cells, Pt.slots] at X_38 l_38 y_38 z_38 st_38 hQ_38
    subst l_38 y_38 z_38
    obtain ⟨rfl, N_38q, e_38⟩ := hQ_38
    have N_38 := Fr.app N_37 N_38q
    refine og (fun t k => st_38.trans k) ?_
    refine og (B := T_38.setTop (mkF m 144 #[iv p0, iv p1, iv p2, iv p3, iv p4, iv 1, iv 1, iv x0, iv x1, iv x2, rv sx_27, rv sx_28, rv sx_29, rv b_30, iv 0, iv 1, iv 1, iv 1, iv 1, iv 1, oU] [(.ref b_30)])) (fun t k => ?_) ?_
    · refine XS.istore X_38.here hx rfl (hb hby at_140) rfl (l' := #[iv p0, iv p1, iv p2, iv p3, iv p4, iv 1, iv 1, iv x0, iv x1, iv x2, rv sx_27, rv sx_28, rv sx_29, rv b_30, iv 0, iv 1, iv 1, iv 1, iv 1, iv 1, oU]) rfl ?_
      refine XS.aload X_38.here hx rfl (hb hby at_142) rfl rfl ?_
      exact k
    obtain ⟨cq_39, kq_39, q_39a, q_39b, q_39c⟩ := isOf hZ_32 e_38 c345
    obtain ⟨_, _, ⟨T_39, L_39, k_39, n_39⟩, -, X_39, ⟨Lc_39, hQ_39, l_39, y_39, z_39⟩, st_39⟩ := X_38.virtualBack hx (y := own_m17) (z := own_m17) hown_32 (mvT hZ_32 (ow hw 87 rfl)) (mvT hZ_32 (ow hw 88 rfl)) (notFace_of_selects (args := #[]) (mvT hZ_32 (ow hw 90 rfl))) (mvT hZ_32 (ow hw 90 rfl)) (mvT hZ_32 (ow hw 89 rfl)) (by decide) (backOf (W := 0) (rm16 l Z av0 hw [] b_30 (1 : Int32) sx_27 sb_27 sk_27 w (1 : Int32) [(.int (own_byte (nar .char x0)))] T_37.heap n0 Z0__37 Fq_37 Ft_37 c333 c334 c335 c332 hw0 c336) hZ_32 (ow hw 91 rfl) (ow hw 32 rfl) (by decide) (by decide)) q_39a q_39c (g := (mkF m 144 #[iv p0, iv p1, iv p2, iv p3, iv p4, iv 1, iv 1, iv x0, iv x1, iv x2, rv sx_27, rv sx_28, rv sx_29, rv b_30, iv 0, iv 1, iv 1, iv 1, iv 1, iv 1, oU] [(.ref b_30)])) rfl (by rw [hml]; rfl) (Steps.refl _) (argsL := []) (rest := []) (lenOf pd_3 rfl) rfl (by show 2 * 0 + _ ≤ _; exact Nat.le_of_eq rfl) (hb hby at_144) (fun _ _ => ⟨rfl, e_38, (by decide : 17 + 0 ≤ _), (by decide : 117 + 0 ≤ _)⟩)
    dsimp only [Pt.U, Pt.locs, Pt.cells, Pt.slots] at X_39 l_39 y_39 z_39 st_39 hQ_39
    subst l_39 y_39 z_39
    obtain ⟨hv_39, N_39q, e_39⟩ := hQ_39
    have N_39 := Fr.app N_38 N_39q
    rw [show own_ge (1 : Int32) (1 : Int32) = (1 : Int32) from by decide] at hv_39
    subst hv_39
    refine og (fun t k => st_39.trans k) ?_
    refine og (B := T_39.setTop (mkF m 153 #[iv p0, iv p1, iv p2, iv p3, iv p4, iv 1, iv 1, iv x0, iv x1, iv x2, rv sx_27, rv sx_28, rv sx_29, rv b_30, iv 0, iv 1, iv 1, iv 1, iv 1, iv 1, iv 1] [(.int 1), (.int 0)])) (fun t k => ?_) ?_
    · refine XS.istore X_39.here hx rfl (hb hby at_147) rfl (l' := #[iv p0, iv p1, iv p2, iv p3, iv p4, iv 1, iv 1, iv x0, iv x1, iv x2, rv sx_27, rv sx_28, rv sx_29, rv b_30, iv 0, iv 1, iv 1, iv 1, iv 1, iv 1, iv 1]) rfl ?_
      refine XS.iload X_39.here hx rfl (hb hby at_149) rfl ?_
      refine XS.iload X_39.here hx rfl (hb hby at_151) rfl ?_
      exact k
    refine og (B := T_39.setTop (mkF m 160 #[iv p0, iv p1, iv p2, iv p3, iv p4, iv 1, iv 1, iv x0, iv x1, iv x2, rv sx_27, rv sx_28, rv sx_29, rv b_30, iv 0, iv 1, iv 1, iv 1, iv 1, iv 1, iv 1] [(.int 0)])) (fun t k => ?_) ?_
    · refine XS.ifYes X_39.here hx rfl (pc0 := 153) (pc' := 160) rfl (hb hby at_153) rfl ((if0 _ _).trans (feq (by decide : ¬ ((1 : Int32) = (0 : Int32)))).2) (by decide) (by decide) ?_
      exact k
    refine og (B := T_39.setTop (mkF m 161 #[iv p0, iv p1, iv p2, iv p3, iv p4, iv 1, iv 1, iv x0, iv x1, iv x2, rv sx_27, rv sx_28, rv sx_29, rv b_30, iv 0, iv 1, iv 1, iv 1, iv 1, iv 1, iv 1] [(.int 0), (.int 0)])) (fun t k => ?_) ?_
    · refine XS.iconst X_39.here hx rfl (hb hby at_160) ?_
      exact k
    refine og (B := T_39.setTop (mkF m 164 #[iv p0, iv p1, iv p2, iv p3, iv p4, iv 1, iv 1, iv x0, iv x1, iv x2, rv sx_27, rv sx_28, rv sx_29, rv b_30, iv 0, iv 1, iv 1, iv 1, iv 1, iv 1, iv 1] [])) (fun t k => ?_) ?_
    · refine XS.icmpNo X_39.here hx rfl (hb hby at_161) rfl (teq (by decide : (0 : Int32) = (0 : Int32))).2 ?_
      exact k
    refine og (B := T_39.setTop (mkF m 166 #[iv p0, iv p1, iv p2, iv p3, iv p4, iv 1, iv 1, iv x0, iv x1, iv x2, rv sx_27, rv sx_28, rv sx_29, rv b_30, iv 0, iv 1, iv 1, iv 1, iv 1, iv 1, iv 1] [(.int 1)])) (fun t k => ?_) ?_
    · refine XS.iload X_39.here hx rfl (hb hby at_164) rfl ?_
      exact k
    refine og (B := T_39.setTop (mkF m 169 #[iv p0, iv p1, iv p2, iv p3, iv p4, iv 1, iv 1, iv x0, iv x1, iv x2, rv sx_27, rv sx_28, rv sx_29, rv b_30, iv 0, iv 1, iv 1, iv 1, iv 1, iv 1, iv 1] [])) (fun t k => ?_) ?_
    · refine XS.ifNo X_39.here hx rfl (hb hby at_166) rfl ((if0 _ _).trans (feq (by decide : ¬ ((1 : Int32) = (0 : Int32)))).1) ?_
      exact k
    refine og (B := T_39.setTop (mkF m 173 #[iv p0, iv p1, iv p2, iv p3, iv p4, iv 1, iv 1, iv x0, iv x1, iv x2, rv sx_27, rv sx_28, rv sx_29, rv b_30, iv 0, iv 1, iv 1, iv 1, iv 1, iv 1, iv 1] [(.int 1), (.int 1)])) (fun t k => ?_) ?_
    · refine XS.iload X_39.here hx rfl (hb hby at_169) rfl ?_
      refine XS.iload X_39.here hx rfl (hb hby at_171) rfl ?_
      exact k
    refine og (B := T_39.setTop (mkF m 176 #[iv p0, iv p1, iv p2, iv p3, iv p4, iv 1, iv 1, iv x0, iv x1, iv x2, rv sx_27, rv sx_28, rv sx_29, rv b_30, iv 0, iv 1, iv 1, iv 1, iv 1, iv 1, iv 1] [])) (fun t k => ?_) ?_
    · refine XS.icmpNo X_39.here hx rfl (hb hby at_173) rfl (teq (by decide : (1 : Int32) = (1 : Int32))).2 ?_
      exact k
    refine og (B := T_39.setTop (mkF m 182 #[iv p0, iv p1, iv p2, iv p3, iv p4, iv 1, iv 1, iv x0, iv x1, iv x2, rv sx_27, rv sx_28, rv sx_29, rv b_30, iv 0, iv 1, iv 1, iv 1, iv 1, iv 1, iv 1] [(.int 1), (.int 1), (.int 1)])) (fun t k => ?_) ?_
    · refine XS.iload X_39.here hx rfl (hb hby at_176) rfl ?_
      refine XS.iload X_39.here hx rfl (hb hby at_178) rfl ?_
      refine XS.iload X_39.here hx rfl (hb hby at_180) rfl ?_
      exact k
    refine og (B := T_39.setTop (mkF m 185 #[iv p0, iv p1, iv p2, iv p3, iv p4, iv 1, iv 1, iv x0, iv x1, iv x2, rv sx_27, rv sx_28, rv sx_29, rv b_30, iv 0, iv 1, iv 1, iv 1, iv 1, iv 1, iv 1] [(.int 1)])) (fun t k => ?_) ?_
    · refine XS.icmpNo X_39.here hx rfl (hb hby at_182) rfl (teq (by decide : (1 : Int32) = (1 : Int32))).2 ?_
      exact k
    refine og (B := T_39.setTop (mkF m 190 #[iv p0, iv p1, iv p2, iv p3, iv p4, iv 1, iv 1, iv x0, iv x1, iv x2, rv sx_27, rv sx_28, rv sx_29, rv b_30, iv 0, iv 1, iv 1, iv 1, iv 1, iv 1, iv 1] [(.int 1), (.int 1)])) (fun t k => ?_) ?_
    · refine XS.iconst X_39.here hx rfl (hb hby at_185) ?_
      refine XS.goto X_39.here hx rfl (pc0 := 186) (pc' := 190) rfl (hb hby at_186) (by decide) (by decide) ?_
      exact k
    refine og (B := T_39.setTop (mkF m 193 #[iv p0, iv p1, iv p2, iv p3, iv p4, iv 1, iv 1, iv x0, iv x1, iv x2, rv sx_27, rv sx_28, rv sx_29, rv b_30, iv 0, iv 1, iv 1, iv 1, iv 1, iv 1, iv 1] [])) (fun t k => ?_) ?_
    · refine XS.icmpNo X_39.here hx rfl (hb hby at_190) rfl (teq (by decide : (1 : Int32) = (1 : Int32))).2 ?_
      exact k
    refine og (B := T_39.setTop (mkF m 195 #[iv p0, iv p1, iv p2, iv p3, iv p4, iv 1, iv 1, iv x0, iv x1, iv x2, rv sx_27, rv sx_28, rv sx_29, rv b_30, iv 0, iv 1, iv 1, iv 1, iv 1, iv 1, iv 1] [(.int 1)])) (fun t k => ?_) ?_
    · refine XS.iload X_39.here hx rfl (hb hby at_193) rfl ?_
      exact k
    refine og (B := T_39.setTop (mkF m 198 #[iv p0, iv p1, iv p2, iv p3, iv p4, iv 1, iv 1, iv x0, iv x1, iv x2, rv sx_27, rv sx_28, rv sx_29, rv b_30, iv 0, iv 1, iv 1, iv 1, iv 1, iv 1, iv 1] [])) (fun t k => ?_) ?_
    · refine XS.ifNo X_39.here hx rfl (hb hby at_195) rfl ((if0 _ _).trans (feq (by decide : ¬ ((1 : Int32) = (0 : Int32)))).1) ?_
      exact k
    refine og (B := T_39.setTop (mkF m 202 #[iv p0, iv p1, iv p2, iv p3, iv p4, iv 1, iv 1, iv x0, iv x1, iv x2, rv sx_27, rv sx_28, rv sx_29, rv b_30, iv 0, iv 1, iv 1, iv 1, iv 1, iv 1, iv 1] [(.int 1), (.int 1)])) (fun t k => ?_) ?_
    · refine XS.iload X_39.here hx rfl (hb hby at_198) rfl ?_
      refine XS.iload X_39.here hx rfl (hb hby at_200) rfl ?_
      exact k
    refine og (B := T_39.setTop (mkF m 205 #[iv p0, iv p1, iv p2, iv p3, iv p4, iv 1, iv 1, iv x0, iv x1, iv x2, rv sx_27, rv sx_28, rv sx_29, rv b_30, iv 0, iv 1, iv 1, iv 1, iv 1, iv 1, iv 1] [])) (fun t k => ?_) ?_
    · refine XS.icmpNo X_39.here hx rfl (hb hby at_202) rfl (teq (by decide : (1 : Int32) = (1 : Int32))).2 ?_
      exact k
    refine og (B := T_39.setTop (mkF m 207 #[iv p0, iv p1, iv p2, iv p3, iv p4, iv 1, iv 1, iv x0, iv x1, iv x2, rv sx_27, rv sx_28, rv sx_29, rv b_30, iv 0, iv 1, iv 1, iv 1, iv 1, iv 1, iv 1] [(.int 1)])) (fun t k => ?_) ?_
    · refine XS.iload X_39.here hx rfl (hb hby at_205) rfl ?_
      exact k
    refine og (B := T_39.setTop (mkF m 210 #[iv p0, iv p1, iv p2, iv p3, iv p4, iv 1, iv 1, iv x0, iv x1, iv x2, rv sx_27, rv sx_28, rv sx_29, rv b_30, iv 0, iv 1, iv 1, iv 1, iv 1, iv 1, iv 1] [])) (fun t k => ?_) ?_
    · refine XS.ifNo X_39.here hx rfl (hb hby at_207) rfl ((if0 _ _).trans (feq (by decide : ¬ ((1 : Int32) = (0 : Int32)))).1) ?_
      exact k
    refine og (B := T_39.setTop (mkF m 215 #[iv p0, iv p1, iv p2, iv p3, iv p4, iv 1, iv 1, iv x0, iv x1, iv x2, rv sx_27, rv sx_28, rv sx_29, rv b_30, iv 0, iv 1, iv 1, iv 1, iv 1, iv 1, iv 1] [(.int 1)])) (fun t k => ?_) ?_
    · refine XS.iconst X_39.here hx rfl (hb hby at_210) ?_
      refine XS.goto X_39.here hx rfl (pc0 := 211) (pc' := 215) rfl (hb hby at_211) (by decide) (by decide) ?_
      exact k
    obtain ⟨fs, hr, hrun, hended, hRW⟩ := X_39.leaveW Si_32 (by rw [e_39]; exact c330) (v := some (.int 1)) (fun h => by rw [Bd.returns] at h; cases h)
    refine ⟨_, _, ?_, hrun, hended, _, _, rfl, ?_, hRW.1, hRW.2.1, hRW.2.2.1, hRW.2.2.2.mono (by decide) (by decide)⟩
    · show Steps p.tables e below (T_39.setTop (mkF m 215 #[iv p0, iv p1, iv p2, iv p3, iv p4, iv 1, iv 1, iv x0, iv x1, iv x2, rv sx_27, rv sx_28, rv sx_29, rv b_30, iv 0, iv 1, iv 1, iv 1, iv 1, iv 1, iv 1] [(.int 1)])) _
      exact retN X_39 hx (t := .boolean) Bd.returns (by simp) (hb hby at_215) hr
    · show Q0 Z p0 p1 p2 p3 p4 w h0 n0 _ T_39.heap _
      rw [e_39]
      exact ⟨rfl, N_39, trivial⟩
  · show ∃ s₂ o, Steps p.tables e below (s₁.setTop (mkF m 49 #[iv p0, iv p1, iv p2, iv p3, iv p4, iv 2, iv 0, iv x0, iv x1, iv x2, oU, oU, oU, oU, oU, oU, oU, oU, oU, oU, oU] [(.int 2), (.int x2), (.int x1), (.int x0)])) s₂ ∧ _
    have kk_40 := K0
    obtain ⟨_, _, ⟨T_40, L_40, k_40, n_40⟩, -, X_40, ⟨Lc_40, hQ_40, l_40, y_40, z_40⟩, st_40⟩ := Jvm.LawKit.callS X0 hx (y := own_m2) hown (mvT hZ (ow hw 1 rfl)) (mvT hZ (ow hw 2 rfl)) (mvT hZ (ow hw 3 rfl)) (mvT hZ (ow hw 4 rfl)) (by decide) (backOf (W := 0) (rmstr2 l Z av0 hw [] x0 x1 x2 w h0 n0 Z0 S_COMPACT_STRINGS hw0 hxq0 hxq1) hZ (ow hw 4 rfl) (ow hw 3 rfl) (by decide) (by decide)) (g := (mkF m 49 #[iv p0, iv p1, iv p2, iv p3, iv p4, iv 2, iv 0, iv x0, iv x1, iv x2, oU, oU, oU, oU, oU, oU, oU, oU, oU, oU, oU] [(.int 2), (.int x2), (.int x1), (.int x0)])) rfl (by rw [hml]; rfl) (argsL := [(.int x0), (.int x1), (.int x2), (.int 2)]) (rest := []) (lenOf pd_11 rfl) rfl (by show 2 * 0 + _ ≤ _; exact Nat.le_of_eq rfl) (hb hby at_49) (fun _ _ => ⟨rfl, e0, (by decide : 0 + 3 ≤ _), (by decide : 0 + 8 ≤ _)⟩)
    dsimp only [Pt.U, Pt.locs, Pt.cells, Pt.slots] at X_40 l_40 y_40 z_40 st_40 hQ_40
    subst l_40 y_40 z_40
    obtain ⟨sx_40, sb_40, sk_40, rfl, N_40q, K_40, szq_40, sE_40, sc_40, sv_40, sV_40⟩ := hQ_40
    have N_40 := Fr.app N0 N_40q
    have c346 := H1.trans (CHr.keep K_40 all0 H1.1)
    have c347 := K0.trans K_40 all0
    have c348 := own_stak S_COMPACT_STRINGS K_40
    have Z0__40 : n0 ≤ T_40.heap.size := Nat.le_trans Z0 K_40.1
    have sz_sx_40 : h0.size ≤ sx_40 := Nat.le_trans kk_40.1 szq_40
    refine og (fun t k => st_40 t k) ?_
    refine og (B := T_40.setTop (mkF m 62 #[iv p0, iv p1, iv p2, iv p3, iv p4, iv 2, iv 0, iv x0, iv x1, iv x2, rv sx_40, oU, oU, oU, oU, oU, oU, oU, oU, oU, oU] [(.int 0), (.int x2), (.int x1), (.int x0)])) (fun t k => ?_) ?_
    · refine XS.astore X_40.here hx rfl (hb hby at_52) rfl rfl (l' := #[iv p0, iv p1, iv p2, iv p3, iv p4, iv 2, iv 0, iv x0, iv x1, iv x2, rv sx_40, oU, oU, oU, oU, oU, oU, oU, oU, oU, oU]) rfl ?_
      refine XS.iload X_40.here hx rfl (hb hby at_54) rfl ?_
      refine XS.iload X_40.here hx rfl (hb hby at_56) rfl ?_
      refine XS.iload X_40.here hx rfl (hb hby at_58) rfl ?_
      refine XS.iload X_40.here hx rfl (hb hby at_60) rfl ?_
      exact k
    have kk_41 := c347
    obtain ⟨_, _, ⟨T_41, L_41, k_41, n_41⟩, -, Xb_41, Sb_41, gs_41, ⟨Lc_41, hQ_41, l_41, y_41, z_41, CH_41⟩, st_41⟩ := callSS (show Stand p l e room_1 (s.setVm s.vm) m #[(.int p0), (.int p1), (.int p2), (.int p3), (.int p4)] below meth c T_40 _ _ _ from X_40) hx (y := own_m2) hown (mvT hZ (ow hw 1 rfl)) (mvT hZ (ow hw 2 rfl)) (mvT hZ (ow hw 3 rfl)) (mvT hZ (ow hw 4 rfl)) (by decide) (backOfSH (s := s) (vm0 := s.vm) (W := 0) (rmstr0 l Z av0 hw [] x0 x1 x2  T_40.heap n0 Z0__40 hEL) hZ (ow hw 4 rfl) (ow hw 3 rfl) (by decide) (by decide) hEL c346.1) (g := (mkF m 62 #[iv p0, iv p1, iv p2, iv p3, iv p4, iv 2, iv 0, iv x0, iv x1, iv x2, rv sx_40, oU, oU, oU, oU, oU, oU, oU, oU, oU, oU] [(.int 0), (.int x2), (.int x1), (.int x0)])) rfl (by rw [hml]; rfl) (argsL := [(.int x0), (.int x1), (.int x2), (.int 0)]) (rest := []) (lenOf pd_11 rfl) rfl (by show 2 * 0 + _ ≤ _; exact Nat.le_of_eq rfl) (hb hby at_62) (fun _ _ => ⟨rfl, rfl, (by decide : 3 + 6 ≤ _), (by decide : 8 + 12 ≤ _)⟩)
    dsimp only [Pt.U, Pt.locs, Pt.cells, Pt.slots] at Xb_41 Sb_41 gs_41 l_41 y_41 z_41 st_41 hQ_41 CH_41
    subst l_41 y_41 z_41
    obtain ⟨sx_41, sb_41, sk_41, rfl, N_41q, K_41, szq_41, sE_41, sc_41, sv_41, sV_41⟩ := hQ_41
    have N_41 := Fr.app N_40 N_41q
    obtain ⟨X_41, Si_41, hZ_41, hown_41⟩ := rebS (s := s) (vm0 := s.vm) ((State.WarmedH.refl s).since 0) (Nat.zero_le 0) Xb_41 Sb_41 (Nat.zero_le _) hZ hown
    have c349 := c346.trans CH_41
    have c350 := c347.trans K_41 all0
    have c351 := own_stak c348 K_41
    have c352 := sE_40.keep K_41
    have c353 := sc_40.keep K_41 nin0
    have c354 := sv_40.keep K_41 nin0
    have c355 := sV_40.keep K_41 nin0
    have Z0__41 : n0 ≤ T_41.heap.size := Nat.le_trans Z0__40 K_41.1
    have sz_sx_41 : h0.size ≤ sx_41 := Nat.le_trans kk_41.1 szq_41
    refine og (fun t k => st_41.trans k) ?_
    refine og (B := T_41.setTop (mkF m 77 #[iv p0, iv p1, iv p2, iv p3, iv p4, iv 2, iv 0, iv x0, iv x1, iv x2, rv sx_40, rv sx_41, oU, oU, oU, oU, oU, oU, oU, oU, oU] [(.int 2), (.int 0), (.int x2), (.int x1), (.int x0)])) (fun t k => ?_) ?_
    · refine XS.astore X_41.here hx rfl (hb hby at_65) rfl rfl (l' := #[iv p0, iv p1, iv p2, iv p3, iv p4, iv 2, iv 0, iv x0, iv x1, iv x2, rv sx_40, rv sx_41, oU, oU, oU, oU, oU, oU, oU, oU, oU]) rfl ?_
      refine XS.iload X_41.here hx rfl (hb hby at_67) rfl ?_
      refine XS.iload X_41.here hx rfl (hb hby at_69) rfl ?_
      refine XS.iload X_41.here hx rfl (hb hby at_71) rfl ?_
      refine XS.iload X_41.here hx rfl (hb hby at_73) rfl ?_
      refine XS.iload X_41.here hx rfl (hb hby at_75) rfl ?_
      exact k
    have kk_42 := c350
    obtain ⟨_, _, ⟨T_42, L_42, k_42, n_42⟩, -, X_42, ⟨Lc_42, hQ_42, l_42, y_42, z_42⟩, st_42⟩ := Jvm.LawKit.callS X_41 hx (y := own_m6) hown_41 (mvT hZ_41 (ow hw 27 rfl)) (mvT hZ_41 (ow hw 28 rfl)) (mvT hZ_41 (ow hw 3 rfl)) (mvT hZ_41 (ow hw 29 rfl)) (by decide) (backOf (W := 0) (rmsfx0_2 l Z av0 hw [] x0 x1 x2 w T_41.heap n0 Z0__41 c351 hw0 hxq0 hxq1) hZ_41 (ow hw 29 rfl) (ow hw 3 rfl) (by decide) (by decide)) (g := (mkF m 77 #[iv p0, iv p1, iv p2, iv p3, iv p4, iv 2, iv 0, iv x0, iv x1, iv x2, rv sx_40, rv sx_41, oU, oU, oU, oU, oU, oU, oU, oU, oU] [(.int 2), (.int 0), (.int x2), (.int x1), (.int x0)])) rfl (by rw [hml]; rfl) (argsL := [(.int x0), (.int x1), (.int x2), (.int 0), (.int 2)]) (rest := []) (lenOf pd_16 rfl) rfl (by show 2 * 0 + _ ≤ _; exact Nat.le_of_eq rfl) (hb hby at_77) (fun _ _ => ⟨rfl, rfl, (by decide : 9 + 3 ≤ _), (by decide : 20 + 8 ≤ _)⟩)
    dsimp only [Pt.U, Pt.locs, Pt.cells, Pt.slots] at X_42 l_42 y_42 z_42 st_42 hQ_42
    subst l_42 y_42 z_42
    obtain ⟨sx_42, sb_42, sk_42, rfl, N_42q, K_42, szq_42, sE_42, sc_42, sv_42, sV_42⟩ := hQ_42
    have N_42 := Fr.app N_41 N_42q
    have c356 := c349.trans (CHr.keep K_42 all0 c349.1)
    have c357 := Nat.le_trans (Nat.le_refl _) K_42.1
    have c358 := c350.trans K_42 all0
    have c359 := own_stak c351 K_42
    have c360 := c352.keep K_42
    have c361 := c353.keep K_42 nin0
    have c362 := c354.keep K_42 nin0
    have c363 := c355.keep K_42 nin0
    have c364 := sE_41.keep K_42
    have c365 := sc_41.keep K_42 nin0
    have c366 := sv_41.keep K_42 nin0
    have c367 := sV_41.keep K_42 nin0
    have Z0__42 : n0 ≤ T_42.heap.size := Nat.le_trans Z0__41 K_42.1
    have sz_sx_42 : h0.size ≤ sx_42 := Nat.le_trans kk_42.1 szq_42
    refine og (fun t k => st_42 t k) ?_
    refine og (B := T_42.setTop (mkF m 82 #[iv p0, iv p1, iv p2, iv p3, iv p4, iv 2, iv 0, iv x0, iv x1, iv x2, rv sx_40, rv sx_41, rv sx_42, oU, oU, oU, oU, oU, oU, oU, oU] [])) (fun t k => ?_) ?_
    · refine XS.astore X_42.here hx rfl (hb hby at_80) rfl rfl (l' := #[iv p0, iv p1, iv p2, iv p3, iv p4, iv 2, iv 0, iv x0, iv x1, iv x2, rv sx_40, rv sx_41, rv sx_42, oU, oU, oU, oU, oU, oU, oU, oU]) rfl ?_
      exact k
    obtain ⟨T_43, h_43, X_43, e_43, E_43, A_43, D_43, -, st_43⟩ := newO X_42 hx hZ_41 hown_41 (ow hw 30 rfl) (ow hw 31 rfl) (ow hw 32 rfl) rfl (g := (mkF m 82 #[iv p0, iv p1, iv p2, iv p3, iv p4, iv 2, iv 0, iv x0, iv x1, iv x2, rv sx_40, rv sx_41, rv sx_42, oU, oU, oU, oU, oU, oU, oU, oU] [])) rfl (hb hby at_82) (by decide) (by decide)
    obtain ⟨b_43, g_43⟩ : ∃ z, z = T_42.heap.size := ⟨_, rfl⟩
    rw [← g_43] at A_43 D_43 st_43
    have g_b_43 : n0 ≤ b_43 := Nat.le_trans Z0__42 (Nat.le_of_eq g_43.symm)
    have sz_b_43 : h0.size ≤ b_43 := Nat.le_trans c358.1 (Nat.le_of_eq g_43.symm)
    have sf_b_43 : Safe Z own_EL T_41.vm T_42.heap b_43 := Safe.new (Nat.le_of_eq g_43.symm)
    have ne_sx_40_b_43 : sx_40 ≠ b_43 := Nat.ne_of_lt (Nat.lt_of_lt_of_le (c360).lt (Nat.le_of_eq g_43.symm))
    have ne_sb_40_b_43 : sb_40 ≠ b_43 := Nat.ne_of_lt (Nat.lt_of_lt_of_le (c363).lt (Nat.le_of_eq g_43.symm))
    have ne_sx_41_b_43 : sx_41 ≠ b_43 := Nat.ne_of_lt (Nat.lt_of_lt_of_le (c364).lt (Nat.le_of_eq g_43.symm))
    have ne_sb_41_b_43 : sb_41 ≠ b_43 := Nat.ne_of_lt (Nat.lt_of_lt_of_le (c367).lt (Nat.le_of_eq g_43.symm))
    have ne_sx_42_b_43 : sx_42 ≠ b_43 := Nat.ne_of_lt (Nat.lt_of_lt_of_le (sE_42).lt (Nat.le_of_eq g_43.symm))
    have ne_sb_42_b_43 : sb_42 ≠ b_43 := Nat.ne_of_lt (Nat.lt_of_lt_of_le (sV_42).lt (Nat.le_of_eq g_43.symm))
    have c368 := Safe.ext E_43 c356.1 sf_b_43
    have c369 := c356.trans (CHr.ext E_43 c356.1)
    have c370 := Nat.le_trans c357 E_43.1
    have c371 := c358.ext E_43
    have c372 := c359.ext E_43
    have c373 := c360.ext E_43
    have c374 := c361.ext E_43
    have c375 := c362.ext E_43
    have c376 := c363.ext E_43
    have c377 := c364.ext E_43
    have c378 := c365.ext E_43
    have c379 := c366.ext E_43
    have c380 := c367.ext E_43
    have c381 := sE_42.ext E_43
    have c382 := sc_42.ext E_43
    have c383 := sv_42.ext E_43
    have c384 := sV_42.ext E_43
    have Z0__43 : n0 ≤ h_43.size := Nat.le_trans Z0__42 E_43.1
    have F_source_b_43 : Fld Z h_43 b_43 "com/example/cutoff/cutoff/store/TextCursor" "source" "Ljava/lang/String;" .null := D_43 (Or.inr (ow hw 39 rfl)) (ty := (.object "java/lang/String")) (by decide)
    have F_text_b_43 : Fld Z h_43 b_43 "com/example/cutoff/cutoff/store/TextCursor" "text" "Ljava/lang/String;" .null := D_43 (Or.inr (ow hw 41 rfl)) (ty := (.object "java/lang/String")) (by decide)
    have F_firstLine_b_43 : Fld Z h_43 b_43 "com/example/cutoff/cutoff/store/TextCursor" "firstLine" "I" (.int 0) := D_43 (Or.inr (ow hw 43 rfl)) (ty := .int) (by decide)
    have F_end_b_43 : Fld Z h_43 b_43 "com/example/cutoff/cutoff/store/TextCursor" "end" "Ljava/lang/String;" .null := D_43 (Or.inr (ow hw 86 rfl)) (ty := (.object "java/lang/String")) (by decide)
    have F_position_b_43 : Fld Z h_43 b_43 "com/example/cutoff/cutoff/store/TextCursor" "position" "I" (.int 0) := D_43 (Or.inl (ow hw 93 rfl)) (ty := .int) (by decide)
    refine og (fun t k => st_43 t k) ?_
    refine og (B := T_43.setTop (mkF m 86 #[iv p0, iv p1, iv p2, iv p3, iv p4, iv 2, iv 0, iv x0, iv x1, iv x2, rv sx_40, rv sx_41, rv sx_42, oU, oU, oU, oU, oU, oU, oU, oU] [(.ref b_43), (.ref b_43)])) (fun t k => ?_) ?_
    · refine XS.dup X_43.here hx rfl (hb hby at_85) rfl rfl ?_
      exact k
    have wS_44 := own_wS hw
    obtain ⟨b_44, T_44, h_44, k1_44, d_44, kc_44, X_44, e_44, E_44, Si_44, ls_44, hZ_44, hown_44, A_44, Fc_44, Fv_44, V_44, -, -, CH_44, -, NE_44, st_44⟩ := ldcCH (s := s) (vm0 := T_41.vm) X_43 hx hZ_41 hown_41 (ow hw 33 rfl) wS_44 e_43 Si_41 c370 hEL (List.mem_of_getElem? (i := 1) rfl) c369.1 (vs := [(.int (115 : Int32))]) (z := (1 : Int32)) ⟨by decide, rfl⟩ (by decide) rfl (g := (mkF m 86 #[iv p0, iv p1, iv p2, iv p3, iv p4, iv 2, iv 0, iv x0, iv x1, iv x2, rv sx_40, rv sx_41, rv sx_42, oU, oU, oU, oU, oU, oU, oU, oU] [(.ref b_43), (.ref b_43)])) rfl (hb hby at_86) (n := 4) (by decide) (by decide) (by decide) (by decide)
    have c385 := CHr.safe CH_44 (F_source_b_43).lt c368
    have c386 := c369.trans CH_44
    have ne_b_43_b_44 : b_43 ≠ b_44 := (NE_44 _ c385).1
    have ne_b_43_d_44 : b_43 ≠ d_44 := (NE_44 _ c385).2
    have c387 := c371.ext E_44
    have c388 := c372.ext E_44
    have c389 := c373.ext E_44
    have c390 := c374.ext E_44
    have c391 := c375.ext E_44
    have c392 := c376.ext E_44
    have c393 := c377.ext E_44
    have c394 := c378.ext E_44
    have c395 := c379.ext E_44
    have c396 := c380.ext E_44
    have c397 := c381.ext E_44
    have c398 := c382.ext E_44
    have c399 := c383.ext E_44
    have c400 := c384.ext E_44
    have c401 := F_source_b_43.ext E_44
    have c402 := F_text_b_43.ext E_44
    have c403 := F_firstLine_b_43.ext E_44
    have c404 := F_end_b_43.ext E_44
    have c405 := F_position_b_43.ext E_44
    have c406 := A_43.ext E_44
    have Z0__44 : n0 ≤ h_44.size := Nat.le_trans Z0__43 E_44.1
    refine og (fun t k => st_44 t k) ?_
    refine og (B := T_44.setTop (mkF m 91 #[iv p0, iv p1, iv p2, iv p3, iv p4, iv 2, iv 0, iv x0, iv x1, iv x2, rv sx_40, rv sx_41, rv sx_42, oU, oU, oU, oU, oU, oU, oU, oU] [(.int 1), (.ref sx_40), (.ref b_44), (.ref b_43), (.ref b_43)])) (fun t k => ?_) ?_
    · refine XS.aload X_44.here hx rfl (hb hby at_88) rfl rfl ?_
      refine XS.iconst X_44.here hx rfl (hb hby at_90) ?_
      exact k
    obtain ⟨_, _, ⟨T_45, L_45, k_45, n_45⟩, -, Xb_45, Sb_45, gs_45, ⟨Lc_45, hQ_45, l_45, y_45, z_45, CH_45⟩, st_45⟩ := X_44.specialBackS hx (y := own_m7) rfl hown_44 (mvT hZ_44 (ow hw 34 rfl)) (mvT hZ_44 (ow hw 35 rfl)) (mvT hZ_44 (ow hw 36 rfl)) (by decide) (backOfSH (s := s) (vm0 := T_44.vm) (W := 1) (rmtc l Z av0 hw [] b_43 b_44 sx_40 .null .null (.int 0) .null sb_40 sk_40 w (2 : Int32) [(.int (own_byte (nar .char x0))), (.int (own_byte (nar .char x1)))] (fun c => own_ixl2 (own_byte (nar .char x0)) (own_byte (nar .char x1)) c) h_44 n0 Z0__44 c406 c401 c402 c403 c404 c405 g_b_43 c389 c390 c391 c388 hw0 c392 ne_sx_40_b_43 ne_sb_40_b_43 hEL (fun h' c z e f1 f2 s v => rmsxa2 l Z av0 hw [] sx_40 c sb_40 sk_40 w (own_byte (nar .char x0)) (own_byte (nar .char x1)) h' n0 z e f1 f2 s hw0 v)) hZ_44 (ow hw 36 rfl) (ow hw 32 rfl) (by decide) (by decide) hEL c386.1) (g := (mkF m 91 #[iv p0, iv p1, iv p2, iv p3, iv p4, iv 2, iv 0, iv x0, iv x1, iv x2, rv sx_40, rv sx_41, rv sx_42, oU, oU, oU, oU, oU, oU, oU, oU] [(.int 1), (.ref sx_40), (.ref b_44), (.ref b_43), (.ref b_43)])) rfl (by rw [hml]; rfl) (Steps.refl _) (a := b_43) (argsL := [(.ref b_44), (.ref sx_40), (.int 1)]) (rest := [(.ref b_43)]) (lenOf pd_17 rfl) rfl (by show 2 * 0 + _ ≤ _; exact Nat.le_of_eq rfl) (hb hby at_91) (fun _ _ => ⟨rfl, e_44, (by decide : 15 + 2 ≤ _), (by decide : 41 + 80 ≤ _)⟩)
    dsimp only [Pt.U, Pt.locs, Pt.cells, Pt.slots] at Xb_45 Sb_45 gs_45 l_45 y_45 z_45 st_45 hQ_45 CH_45
    subst l_45 y_45 z_45
    obtain ⟨rfl, N_45q, K_45, Ft_45, Fp_45⟩ := hQ_45
    have N_45 := Fr.app N_42 N_45q
    obtain ⟨X_45, Si_45, hZ_45, hown_45⟩ := rebS (s := s) (vm0 := T_44.vm) Si_44 (Nat.le_refl _) Xb_45 Sb_45 (Nat.le_trans ls_44 K_45.1) hZ_44 hown_44
    have c407 := CHr.safe CH_45 (c401).lt c385
    have c408 := c386.trans CH_45
    have c409 := Nat.le_trans ls_44 K_45.1
    have c410 := c387.trans K_45 (allS (Or.inr sz_b_43) all0)
    have c411 := own_stake c388 K_45 c406
    have c412 := c389.keep K_45
    have c413 := c390.keep K_45 (ninS ne_sx_40_b_43 nin0)
    have c414 := c391.keep K_45 (ninS ne_sx_40_b_43 nin0)
    have c415 := c392.keep K_45 (ninS ne_sb_40_b_43 nin0)
    have c416 := c393.keep K_45
    have c417 := c394.keep K_45 (ninS ne_sx_41_b_43 nin0)
    have c418 := c395.keep K_45 (ninS ne_sx_41_b_43 nin0)
    have c419 := c396.keep K_45 (ninS ne_sb_41_b_43 nin0)
    have c420 := c397.keep K_45
    have c421 := c398.keep K_45 (ninS ne_sx_42_b_43 nin0)
    have c422 := c399.keep K_45 (ninS ne_sx_42_b_43 nin0)
    have c423 := c400.keep K_45 (ninS ne_sb_42_b_43 nin0)
    have c424 := c406.keep K_45
    have Z0__45 : n0 ≤ T_45.heap.size := Nat.le_trans Z0__44 K_45.1
    refine og (fun t k => st_45.trans k) ?_
    refine og (B := T_45.setTop (mkF m 98 #[iv p0, iv p1, iv p2, iv p3, iv p4, iv 2, iv 0, iv x0, iv x1, iv x2, rv sx_40, rv sx_41, rv sx_42, rv b_43, oU, oU, oU, oU, oU, oU, oU] [(.ref b_43)])) (fun t k => ?_) ?_
    · refine XS.astore X_45.here hx rfl (hb hby at_94) rfl rfl (l' := #[iv p0, iv p1, iv p2, iv p3, iv p4, iv 2, iv 0, iv x0, iv x1, iv x2, rv sx_40, rv sx_41, rv sx_42, rv b_43, oU, oU, oU, oU, oU, oU, oU]) rfl ?_
      refine XS.aload X_45.here hx rfl (hb hby at_96) rfl rfl ?_
      exact k
    obtain ⟨cq_46, kq_46, q_46a, q_46b, q_46c⟩ := isOf hZ_45 rfl c424
    obtain ⟨_, _, ⟨T_46, L_46, k_46, n_46⟩, -, X_46, ⟨Lc_46, hQ_46, l_46, y_46, z_46⟩, st_46⟩ := X_45.virtualBack hx (y := own_m17) (z := own_m17) hown_45 (mvT hZ_45 (ow hw 87 rfl)) (mvT hZ_45 (ow hw 88 rfl)) (notFace_of_selects (args := #[]) (mvT hZ_45 (ow hw 90 rfl))) (mvT hZ_45 (ow hw 90 rfl)) (mvT hZ_45 (ow hw 89 rfl)) (by decide) (backOf (W := 0) (rm16 l Z av0 hw [] b_43 (0 : Int32) sx_40 sb_40 sk_40 w (2 : Int32) [(.int (own_byte (nar .char x0))), (.int (own_byte (nar .char x1)))] T_45.heap n0 Z0__45 Fp_45 Ft_45 c412 c413 c414 c411 hw0 c415) hZ_45 (ow hw 91 rfl) (ow hw 32 rfl) (by decide) (by decide)) q_46a q_46c (g := (mkF m 98 #[iv p0, iv p1, iv p2, iv p3, iv p4, iv 2, iv 0, iv x0, iv x1, iv x2, rv sx_40, rv sx_41, rv sx_42, rv b_43, oU, oU, oU, oU, oU, oU, oU] [(.ref b_43)])) rfl (by rw [hml]; rfl) (Steps.refl _) (argsL := []) (rest := []) (lenOf pd_3 rfl) rfl (by show 2 * 0 + _ ≤ _; exact Nat.le_of_eq rfl) (hb hby at_98) (fun _ _ => ⟨rfl, rfl, (by decide : 17 + 0 ≤ _), (by decide : 121 + 0 ≤ _)⟩)
    dsimp only [Pt.U, Pt.locs, Pt.cells, Pt.slots] at X_46 l_46 y_46 z_46 st_46 hQ_46
    subst l_46 y_46 z_46
    obtain ⟨hv_46, N_46q, e_46⟩ := hQ_46
    have N_46 := Fr.app N_45 N_46q
    rw [show own_ge (0 : Int32) (2 : Int32) = (0 : Int32) from by decide] at hv_46
    subst hv_46
    refine og (fun t k => st_46.trans k) ?_
    refine og (B := T_46.setTop (mkF m 107 #[iv p0, iv p1, iv p2, iv p3, iv p4, iv 2, iv 0, iv x0, iv x1, iv x2, rv sx_40, rv sx_41, rv sx_42, rv b_43, iv 0, oU, oU, oU, oU, oU, oU] [(.ref sx_41), (.ref b_43)])) (fun t k => ?_) ?_
    · refine XS.istore X_46.here hx rfl (hb hby at_101) rfl (l' := #[iv p0, iv p1, iv p2, iv p3, iv p4, iv 2, iv 0, iv x0, iv x1, iv x2, rv sx_40, rv sx_41, rv sx_42, rv b_43, iv 0, oU, oU, oU, oU, oU, oU]) rfl ?_
      refine XS.aload X_46.here hx rfl (hb hby at_103) rfl rfl ?_
      refine XS.aload X_46.here hx rfl (hb hby at_105) rfl rfl ?_
      exact k
    obtain ⟨cq_47, kq_47, q_47a, q_47b, q_47c⟩ := isOf hZ_45 e_46 c424
    obtain ⟨_, _, ⟨T_47, L_47, k_47, n_47⟩, -, X_47, ⟨Lc_47, hQ_47, l_47, y_47, z_47⟩, st_47⟩ := X_46.virtualBack hx (y := own_m18) (z := own_m18) hown_45 (mvT hZ_45 (ow hw 95 rfl)) (mvT hZ_45 (ow hw 96 rfl)) (notFace_of_selects (args := #[]) (mvT hZ_45 (ow hw 98 rfl))) (mvT hZ_45 (ow hw 98 rfl)) (mvT hZ_45 (ow hw 97 rfl)) (by decide) (backOf (W := 0) (rmco l Z av0 hw [] b_43 sx_41 sx_40 (0 : Int32) sb_40 sb_41 sk_40 sk_41 w (2 : Int32) (0 : Int32) [(.int (own_byte (nar .char x0))), (.int (own_byte (nar .char x1)))] [] T_45.heap n0 Z0__45 c424 Ft_45 Fp_45 g_b_43 c412 c413 c414 c416 c417 c418 c411 hw0 c415 c419 ne_sx_41_b_43 ne_sb_41_b_43 (by decide) (by decide) (rmmm0 l Z av0 hw [] sb_40 (0 : Int32) sb_41 sk_40 sk_41 (2 : Int32) [(.int (own_byte (nar .char x0))), (.int (own_byte (nar .char x1)))]  T_45.heap n0 Z0__45 c415 c419 )) hZ_45 (ow hw 99 rfl) (ow hw 32 rfl) (by decide) (by decide)) q_47a q_47c (g := (mkF m 107 #[iv p0, iv p1, iv p2, iv p3, iv p4, iv 2, iv 0, iv x0, iv x1, iv x2, rv sx_40, rv sx_41, rv sx_42, rv b_43, iv 0, oU, oU, oU, oU, oU, oU] [(.ref sx_41), (.ref b_43)])) rfl (by rw [hml]; rfl) (Steps.refl _) (argsL := [(.ref sx_41)]) (rest := []) (lenOf pd_15 rfl) rfl (by show 2 * 0 + _ ≤ _; exact Nat.le_of_eq rfl) (hb hby at_107) (fun _ _ => ⟨rfl, e_46, (by decide : 17 + 0 ≤ _), (by decide : 121 + 0 ≤ _)⟩)
    dsimp only [Pt.U, Pt.locs, Pt.cells, Pt.slots] at X_47 l_47 y_47 z_47 st_47 hQ_47
    subst l_47 y_47 z_47
    obtain ⟨rfl, N_47q, K_47, Fp_47, Ft_47⟩ := hQ_47
    have N_47 := Fr.app N_46 N_47q
    have c425 := Safe.keep K_47 (allS c407 all0) c408.1 c407
    have c426 := c408.trans (CHr.keep K_47 (allS c407 all0) c408.1)
    have c427 := Nat.le_trans (Nat.le_refl _) K_47.1
    have c428 := c410.trans K_47 (allS (Or.inr sz_b_43) all0)
    have c429 := own_stake c411 K_47 c424
    have c430 := c412.keep K_47
    have c431 := c413.keep K_47 (ninS ne_sx_40_b_43 nin0)
    have c432 := c414.keep K_47 (ninS ne_sx_40_b_43 nin0)
    have c433 := c415.keep K_47 (ninS ne_sb_40_b_43 nin0)
    have c434 := c416.keep K_47
    have c435 := c417.keep K_47 (ninS ne_sx_41_b_43 nin0)
    have c436 := c418.keep K_47 (ninS ne_sx_41_b_43 nin0)
    have c437 := c419.keep K_47 (ninS ne_sb_41_b_43 nin0)
    have c438 := c420.keep K_47
    have c439 := c421.keep K_47 (ninS ne_sx_42_b_43 nin0)
    have c440 := c422.keep K_47 (ninS ne_sx_42_b_43 nin0)
    have c441 := c423.keep K_47 (ninS ne_sb_42_b_43 nin0)
    have c442 := c424.keep K_47
    have Z0__47 : n0 ≤ T_47.heap.size := Nat.le_trans Z0__45 K_47.1
    have Fq_47 : Fld Z T_47.heap b_43 "com/example/cutoff/cutoff/store/TextCursor" "position" "I" (.int (0 : Int32)) := Fp_47
    refine og (fun t k => st_47.trans k) ?_
    refine og (B := T_47.setTop (mkF m 114 #[iv p0, iv p1, iv p2, iv p3, iv p4, iv 2, iv 0, iv x0, iv x1, iv x2, rv sx_40, rv sx_41, rv sx_42, rv b_43, iv 0, iv 1, oU, oU, oU, oU, oU] [(.ref b_43)])) (fun t k => ?_) ?_
    · refine XS.istore X_47.here hx rfl (hb hby at_110) rfl (l' := #[iv p0, iv p1, iv p2, iv p3, iv p4, iv 2, iv 0, iv x0, iv x1, iv x2, rv sx_40, rv sx_41, rv sx_42, rv b_43, iv 0, iv 1, oU, oU, oU, oU, oU]) rfl ?_
      refine XS.aload X_47.here hx rfl (hb hby at_112) rfl rfl ?_
      exact k
    obtain ⟨cq_48, kq_48, q_48a, q_48b, q_48c⟩ := isOf hZ_45 rfl c442
    obtain ⟨_, _, ⟨T_48, L_48, k_48, n_48⟩, -, X_48, ⟨Lc_48, hQ_48, l_48, y_48, z_48⟩, st_48⟩ := X_47.virtualBack hx (y := own_m22) (z := own_m22) hown_45 (mvT hZ_45 (ow hw 114 rfl)) (mvT hZ_45 (ow hw 115 rfl)) (notFace_of_selects (args := #[]) (mvT hZ_45 (ow hw 117 rfl))) (mvT hZ_45 (ow hw 117 rfl)) (mvT hZ_45 (ow hw 116 rfl)) (by decide) (backOf (W := 0) (rm21 l Z av0 hw [] b_43 (0 : Int32) T_47.heap n0 Z0__47 Fq_47) hZ_45 (ow hw 118 rfl) (ow hw 32 rfl) (by decide) (by decide)) q_48a q_48c (g := (mkF m 114 #[iv p0, iv p1, iv p2, iv p3, iv p4, iv 2, iv 0, iv x0, iv x1, iv x2, rv sx_40, rv sx_41, rv sx_42, rv b_43, iv 0, iv 1, oU, oU, oU, oU, oU] [(.ref b_43)])) rfl (by rw [hml]; rfl) (Steps.refl _) (argsL := []) (rest := []) (lenOf pd_4 rfl) rfl (by show 2 * 0 + _ ≤ _; exact Nat.le_of_eq rfl) (hb hby at_114) (fun _ _ => ⟨rfl, rfl, (by decide : 17 + 0 ≤ _), (by decide : 121 + 0 ≤ _)⟩)
    dsimp only [Pt.U, Pt.locs, Pt.cells, Pt.slots] at X_48 l_48 y_48 z_48 st_48 hQ_48
    subst l_48 y_48 z_48
    obtain ⟨rfl, N_48q, e_48⟩ := hQ_48
    have N_48 := Fr.app N_47 N_48q
    refine og (fun t k => st_48.trans k) ?_
    refine og (B := T_48.setTop (mkF m 121 #[iv p0, iv p1, iv p2, iv p3, iv p4, iv 2, iv 0, iv x0, iv x1, iv x2, rv sx_40, rv sx_41, rv sx_42, rv b_43, iv 0, iv 1, iv 0, oU, oU, oU, oU] [(.ref b_43)])) (fun t k => ?_) ?_
    · refine XS.istore X_48.here hx rfl (hb hby at_117) rfl (l' := #[iv p0, iv p1, iv p2, iv p3, iv p4, iv 2, iv 0, iv x0, iv x1, iv x2, rv sx_40, rv sx_41, rv sx_42, rv b_43, iv 0, iv 1, iv 0, oU, oU, oU, oU]) rfl ?_
      refine XS.aload X_48.here hx rfl (hb hby at_119) rfl rfl ?_
      exact k
    obtain ⟨cq_49, kq_49, q_49a, q_49b, q_49c⟩ := isOf hZ_45 e_48 c442
    obtain ⟨_, _, ⟨T_49, L_49, k_49, n_49⟩, -, X_49, ⟨Lc_49, hQ_49, l_49, y_49, z_49⟩, st_49⟩ := X_48.virtualBack hx (y := own_m17) (z := own_m17) hown_45 (mvT hZ_45 (ow hw 87 rfl)) (mvT hZ_45 (ow hw 88 rfl)) (notFace_of_selects (args := #[]) (mvT hZ_45 (ow hw 90 rfl))) (mvT hZ_45 (ow hw 90 rfl)) (mvT hZ_45 (ow hw 89 rfl)) (by decide) (backOf (W := 0) (rm16 l Z av0 hw [] b_43 (0 : Int32) sx_40 sb_40 sk_40 w (2 : Int32) [(.int (own_byte (nar .char x0))), (.int (own_byte (nar .char x1)))] T_47.heap n0 Z0__47 Fq_47 Ft_47 c430 c431 c432 c429 hw0 c433) hZ_45 (ow hw 91 rfl) (ow hw 32 rfl) (by decide) (by decide)) q_49a q_49c (g := (mkF m 121 #[iv p0, iv p1, iv p2, iv p3, iv p4, iv 2, iv 0, iv x0, iv x1, iv x2, rv sx_40, rv sx_41, rv sx_42, rv b_43, iv 0, iv 1, iv 0, oU, oU, oU, oU] [(.ref b_43)])) rfl (by rw [hml]; rfl) (Steps.refl _) (argsL := []) (rest := []) (lenOf pd_3 rfl) rfl (by show 2 * 0 + _ ≤ _; exact Nat.le_of_eq rfl) (hb hby at_121) (fun _ _ => ⟨rfl, e_48, (by decide : 17 + 0 ≤ _), (by decide : 121 + 0 ≤ _)⟩)
    dsimp only [Pt.U, Pt.locs, Pt.cells, Pt.slots] at X_49 l_49 y_49 z_49 st_49 hQ_49
    subst l_49 y_49 z_49
    obtain ⟨hv_49, N_49q, e_49⟩ := hQ_49
    have N_49 := Fr.app N_48 N_49q
    rw [show own_ge (0 : Int32) (2 : Int32) = (0 : Int32) from by decide] at hv_49
    subst hv_49
    refine og (fun t k => st_49.trans k) ?_
    refine og (B := T_49.setTop (mkF m 130 #[iv p0, iv p1, iv p2, iv p3, iv p4, iv 2, iv 0, iv x0, iv x1, iv x2, rv sx_40, rv sx_41, rv sx_42, rv b_43, iv 0, iv 1, iv 0, iv 0, oU, oU, oU] [(.ref sx_42), (.ref b_43)])) (fun t k => ?_) ?_
    · refine XS.istore X_49.here hx rfl (hb hby at_124) rfl (l' := #[iv p0, iv p1, iv p2, iv p3, iv p4, iv 2, iv 0, iv x0, iv x1, iv x2, rv sx_40, rv sx_41, rv sx_42, rv b_43, iv 0, iv 1, iv 0, iv 0, oU, oU, oU]) rfl ?_
      refine XS.aload X_49.here hx rfl (hb hby at_126) rfl rfl ?_
      refine XS.aload X_49.here hx rfl (hb hby at_128) rfl rfl ?_
      exact k
    obtain ⟨cq_50, kq_50, q_50a, q_50b, q_50c⟩ := isOf hZ_45 e_49 c442
    obtain ⟨_, _, ⟨T_50, L_50, k_50, n_50⟩, -, X_50, ⟨Lc_50, hQ_50, l_50, y_50, z_50⟩, st_50⟩ := X_49.virtualBack hx (y := own_m18) (z := own_m18) hown_45 (mvT hZ_45 (ow hw 95 rfl)) (mvT hZ_45 (ow hw 96 rfl)) (notFace_of_selects (args := #[]) (mvT hZ_45 (ow hw 98 rfl))) (mvT hZ_45 (ow hw 98 rfl)) (mvT hZ_45 (ow hw 97 rfl)) (by decide) (backOf (W := 0) (rmco l Z av0 hw [] b_43 sx_42 sx_40 (0 : Int32) sb_40 sb_42 sk_40 sk_42 w (2 : Int32) (2 : Int32) [(.int (own_byte (nar .char x0))), (.int (own_byte (nar .char x1)))] [(.int (own_byte (nar .char x0))), (.int (own_byte (nar .char x1)))] T_47.heap n0 Z0__47 c442 Ft_47 Fq_47 g_b_43 c430 c431 c432 c438 c439 c440 c429 hw0 c433 c441 ne_sx_42_b_43 ne_sb_42_b_43 (by decide) (by decide) (rmmm2 l Z av0 hw [] sb_40 (0 : Int32) sb_42 sk_40 sk_42 (2 : Int32) [(.int (own_byte (nar .char x0))), (.int (own_byte (nar .char x1)))] (own_byte (nar .char x0)) (own_byte (nar .char x1)) T_47.heap n0 Z0__47 c433 c441 (by decide) (by decide) rfl rfl)) hZ_45 (ow hw 99 rfl) (ow hw 32 rfl) (by decide) (by decide)) q_50a q_50c (g := (mkF m 130 #[iv p0, iv p1, iv p2, iv p3, iv p4, iv 2, iv 0, iv x0, iv x1, iv x2, rv sx_40, rv sx_41, rv sx_42, rv b_43, iv 0, iv 1, iv 0, iv 0, oU, oU, oU] [(.ref sx_42), (.ref b_43)])) rfl (by rw [hml]; rfl) (Steps.refl _) (argsL := [(.ref sx_42)]) (rest := []) (lenOf pd_15 rfl) rfl (by show 2 * 0 + _ ≤ _; exact Nat.le_of_eq rfl) (hb hby at_130) (fun _ _ => ⟨rfl, e_49, (by decide : 17 + 0 ≤ _), (by decide : 121 + 0 ≤ _)⟩)
    dsimp only [Pt.U, Pt.locs, Pt.cells, Pt.slots] at X_50 l_50 y_50 z_50 st_50 hQ_50
    subst l_50 y_50 z_50
    obtain ⟨rfl, N_50q, K_50, Fp_50, Ft_50⟩ := hQ_50
    have N_50 := Fr.app N_49 N_50q
    have c443 := Safe.keep K_50 (allS c425 all0) c426.1 c425
    have c444 := c426.trans (CHr.keep K_50 (allS c425 all0) c426.1)
    have c445 := Nat.le_trans c427 K_50.1
    have c446 := c428.trans K_50 (allS (Or.inr sz_b_43) all0)
    have c447 := own_stake c429 K_50 c442
    have c448 := c430.keep K_50
    have c449 := c431.keep K_50 (ninS ne_sx_40_b_43 nin0)
    have c450 := c432.keep K_50 (ninS ne_sx_40_b_43 nin0)
    have c451 := c433.keep K_50 (ninS ne_sb_40_b_43 nin0)
    have c452 := c434.keep K_50
    have c453 := c435.keep K_50 (ninS ne_sx_41_b_43 nin0)
    have c454 := c436.keep K_50 (ninS ne_sx_41_b_43 nin0)
    have c455 := c437.keep K_50 (ninS ne_sb_41_b_43 nin0)
    have c456 := c438.keep K_50
    have c457 := c439.keep K_50 (ninS ne_sx_42_b_43 nin0)
    have c458 := c440.keep K_50 (ninS ne_sx_42_b_43 nin0)
    have c459 := c441.keep K_50 (ninS ne_sb_42_b_43 nin0)
    have c460 := c442.keep K_50
    have Z0__50 : n0 ≤ T_50.heap.size := Nat.le_trans Z0__47 K_50.1
    have Fq_50 : Fld Z T_50.heap b_43 "com/example/cutoff/cutoff/store/TextCursor" "position" "I" (.int (2 : Int32)) := Fp_50
    refine og (fun t k => st_50.trans k) ?_
    refine og (B := T_50.setTop (mkF m 137 #[iv p0, iv p1, iv p2, iv p3, iv p4, iv 2, iv 0, iv x0, iv x1, iv x2, rv sx_40, rv sx_41, rv sx_42, rv b_43, iv 0, iv 1, iv 0, iv 0, iv 1, oU, oU] [(.ref b_43)])) (fun t k => ?_) ?_
    · refine XS.istore X_50.here hx rfl (hb hby at_133) rfl (l' := #[iv p0, iv p1, iv p2, iv p3, iv p4, iv 2, iv 0, iv x0, iv x1, iv x2, rv sx_40, rv sx_41, rv sx_42, rv b_43, iv 0, iv 1, iv 0, iv 0, iv 1, oU, oU]) rfl ?_
      refine XS.aload X_50.here hx rfl (hb hby at_135) rfl rfl ?_
      exact k
    obtain ⟨cq_51, kq_51, q_51a, q_51b, q_51c⟩ := isOf hZ_45 rfl c460
    obtain ⟨_, _, ⟨T_51, L_51, k_51, n_51⟩, -, X_51, ⟨Lc_51, hQ_51, l_51, y_51, z_51⟩, st_51⟩ := X_50.virtualBack hx (y := own_m22) (z := own_m22) hown_45 (mvT hZ_45 (ow hw 114 rfl)) (mvT hZ_45 (ow hw 115 rfl)) (notFace_of_selects (args := #[]) (mvT hZ_45 (ow hw 117 rfl))) (mvT hZ_45 (ow hw 117 rfl)) (mvT hZ_45 (ow hw 116 rfl)) (by decide) (backOf (W := 0) (rm21 l Z av0 hw [] b_43 (2 : Int32) T_50.heap n0 Z0__50 Fq_50) hZ_45 (ow hw 118 rfl) (ow hw 32 rfl) (by decide) (by decide)) q_51a q_51c (g := (mkF m 137 #[iv p0, iv p1, iv p2, iv p3, iv p4, iv 2, iv 0, iv x0, iv x1, iv x2, rv sx_40, rv sx_41, rv sx_42, rv b_43, iv 0, iv 1, iv 0, iv 0, iv 1, oU, oU] [(.ref b_43)])) rfl (by rw [hml]; rfl) (Steps.refl _) (argsL := []) (rest := []) (lenOf pd_4 rfl) rfl (by show 2 * 0 + _ ≤ _; exact Nat.le_of_eq rfl) (hb hby at_137) (fun _ _ => ⟨rfl, rfl, (by decide : 17 + 0 ≤ _), (by decide : 121 + 0 ≤ _)⟩)
    dsimp only [Pt.U, Pt.locs, Pt.cells, Pt.slots] at X_51 l_51 y_51 z_51 st_51 hQ_51
    subst l_51 y_51 z_51
    obtain ⟨rfl, N_51q, e_51⟩ := hQ_51
    have N_51 := Fr.app N_50 N_51q
    refine og (fun t k => st_51.trans k) ?_
    refine og (B := T_51.setTop (mkF m 144 #[iv p0, iv p1, iv p2, iv p3, iv p4, iv 2, iv 0, iv x0, iv x1, iv x2, rv sx_40, rv sx_41, rv sx_42, rv b_43, iv 0, iv 1, iv 0, iv 0, iv 1, iv 2, oU] [(.ref b_43)])) (fun t k => ?_) ?_
    · refine XS.istore X_51.here hx rfl (hb hby at_140) rfl (l' := #[iv p0, iv p1, iv p2, iv p3, iv p4, iv 2, iv 0, iv x0, iv x1, iv x2, rv sx_40, rv sx_41, rv sx_42, rv b_43, iv 0, iv 1, iv 0, iv 0, iv 1, iv 2, oU]) rfl ?_
      refine XS.aload X_51.here hx rfl (hb hby at_142) rfl rfl ?_
      exact k
    obtain ⟨cq_52, kq_52, q_52a, q_52b, q_52c⟩ := isOf hZ_45 e_51 c460
    obtain ⟨_, _, ⟨T_52, L_52, k_52, n_52⟩, -, X_52, ⟨Lc_52, hQ_52, l_52, y_52, z_52⟩, st_52⟩ := X_51.virtualBack hx (y := own_m17) (z := own_m17) hown_45 (mvT hZ_45 (ow hw 87 rfl)) (mvT hZ_45 (ow hw 88 rfl)) (notFace_of_selects (args := #[]) (mvT hZ_45 (ow hw 90 rfl))) (mvT hZ_45 (ow hw 90 rfl)) (mvT hZ_45 (ow hw 89 rfl)) (by decide) (backOf (W := 0) (rm16 l Z av0 hw [] b_43 (2 : Int32) sx_40 sb_40 sk_40 w (2 : Int32) [(.int (own_byte (nar .char x0))), (.int (own_byte (nar .char x1)))] T_50.heap n0 Z0__50 Fq_50 Ft_50 c448 c449 c450 c447 hw0 c451) hZ_45 (ow hw 91 rfl) (ow hw 32 rfl) (by decide) (by decide)) q_52a q_52c (g := (mkF m 144 #[iv p0, iv p1, iv p2, iv p3, iv p4, iv 2, iv 0, iv x0, iv x1, iv x2, rv sx_40, rv sx_41, rv sx_42, rv b_43, iv 0, iv 1, iv 0, iv 0, iv 1, iv 2, oU] [(.ref b_43)])) rfl (by rw [hml]; rfl) (Steps.refl _) (argsL := []) (rest := []) (lenOf pd_3 rfl) rfl (by show 2 * 0 + _ ≤ _; exact Nat.le_of_eq rfl) (hb hby at_144) (fun _ _ => ⟨rfl, e_51, (by decide : 17 + 0 ≤ _), (by decide : 121 + 0 ≤ _)⟩)
    dsimp only [Pt.U, Pt.locs, Pt.cells, Pt.slots] at X_52 l_52 y_52 z_52 st_52 hQ_52
    subst l_52 y_52 z_52
    obtain ⟨hv_52, N_52q, e_52⟩ := hQ_52
    have N_52 := Fr.app N_51 N_52q
    rw [show own_ge (2 : Int32) (2 : Int32) = (1 : Int32) from by decide] at hv_52
    subst hv_52
    refine og (fun t k => st_52.trans k) ?_
    refine og (B := T_52.setTop (mkF m 153 #[iv p0, iv p1, iv p2, iv p3, iv p4, iv 2, iv 0, iv x0, iv x1, iv x2, rv sx_40, rv sx_41, rv sx_42, rv b_43, iv 0, iv 1, iv 0, iv 0, iv 1, iv 2, iv 1] [(.int 2), (.int 0)])) (fun t k => ?_) ?_
    · refine XS.istore X_52.here hx rfl (hb hby at_147) rfl (l' := #[iv p0, iv p1, iv p2, iv p3, iv p4, iv 2, iv 0, iv x0, iv x1, iv x2, rv sx_40, rv sx_41, rv sx_42, rv b_43, iv 0, iv 1, iv 0, iv 0, iv 1, iv 2, iv 1]) rfl ?_
      refine XS.iload X_52.here hx rfl (hb hby at_149) rfl ?_
      refine XS.iload X_52.here hx rfl (hb hby at_151) rfl ?_
      exact k
    refine og (B := T_52.setTop (mkF m 160 #[iv p0, iv p1, iv p2, iv p3, iv p4, iv 2, iv 0, iv x0, iv x1, iv x2, rv sx_40, rv sx_41, rv sx_42, rv b_43, iv 0, iv 1, iv 0, iv 0, iv 1, iv 2, iv 1] [(.int 0)])) (fun t k => ?_) ?_
    · refine XS.ifYes X_52.here hx rfl (pc0 := 153) (pc' := 160) rfl (hb hby at_153) rfl ((if0 _ _).trans (feq (by decide : ¬ ((2 : Int32) = (0 : Int32)))).2) (by decide) (by decide) ?_
      exact k
    refine og (B := T_52.setTop (mkF m 161 #[iv p0, iv p1, iv p2, iv p3, iv p4, iv 2, iv 0, iv x0, iv x1, iv x2, rv sx_40, rv sx_41, rv sx_42, rv b_43, iv 0, iv 1, iv 0, iv 0, iv 1, iv 2, iv 1] [(.int 0), (.int 0)])) (fun t k => ?_) ?_
    · refine XS.iconst X_52.here hx rfl (hb hby at_160) ?_
      exact k
    refine og (B := T_52.setTop (mkF m 164 #[iv p0, iv p1, iv p2, iv p3, iv p4, iv 2, iv 0, iv x0, iv x1, iv x2, rv sx_40, rv sx_41, rv sx_42, rv b_43, iv 0, iv 1, iv 0, iv 0, iv 1, iv 2, iv 1] [])) (fun t k => ?_) ?_
    · refine XS.icmpNo X_52.here hx rfl (hb hby at_161) rfl (teq (by decide : (0 : Int32) = (0 : Int32))).2 ?_
      exact k
    refine og (B := T_52.setTop (mkF m 166 #[iv p0, iv p1, iv p2, iv p3, iv p4, iv 2, iv 0, iv x0, iv x1, iv x2, rv sx_40, rv sx_41, rv sx_42, rv b_43, iv 0, iv 1, iv 0, iv 0, iv 1, iv 2, iv 1] [(.int 1)])) (fun t k => ?_) ?_
    · refine XS.iload X_52.here hx rfl (hb hby at_164) rfl ?_
      exact k
    refine og (B := T_52.setTop (mkF m 169 #[iv p0, iv p1, iv p2, iv p3, iv p4, iv 2, iv 0, iv x0, iv x1, iv x2, rv sx_40, rv sx_41, rv sx_42, rv b_43, iv 0, iv 1, iv 0, iv 0, iv 1, iv 2, iv 1] [])) (fun t k => ?_) ?_
    · refine XS.ifNo X_52.here hx rfl (hb hby at_166) rfl ((if0 _ _).trans (feq (by decide : ¬ ((1 : Int32) = (0 : Int32)))).1) ?_
      exact k
    refine og (B := T_52.setTop (mkF m 173 #[iv p0, iv p1, iv p2, iv p3, iv p4, iv 2, iv 0, iv x0, iv x1, iv x2, rv sx_40, rv sx_41, rv sx_42, rv b_43, iv 0, iv 1, iv 0, iv 0, iv 1, iv 2, iv 1] [(.int 0), (.int 0)])) (fun t k => ?_) ?_
    · refine XS.iload X_52.here hx rfl (hb hby at_169) rfl ?_
      refine XS.iload X_52.here hx rfl (hb hby at_171) rfl ?_
      exact k
    refine og (B := T_52.setTop (mkF m 176 #[iv p0, iv p1, iv p2, iv p3, iv p4, iv 2, iv 0, iv x0, iv x1, iv x2, rv sx_40, rv sx_41, rv sx_42, rv b_43, iv 0, iv 1, iv 0, iv 0, iv 1, iv 2, iv 1] [])) (fun t k => ?_) ?_
    · refine XS.icmpNo X_52.here hx rfl (hb hby at_173) rfl (teq (by decide : (0 : Int32) = (0 : Int32))).2 ?_
      exact k
    refine og (B := T_52.setTop (mkF m 182 #[iv p0, iv p1, iv p2, iv p3, iv p4, iv 2, iv 0, iv x0, iv x1, iv x2, rv sx_40, rv sx_41, rv sx_42, rv b_43, iv 0, iv 1, iv 0, iv 0, iv 1, iv 2, iv 1] [(.int 2), (.int 0), (.int 0)])) (fun t k => ?_) ?_
    · refine XS.iload X_52.here hx rfl (hb hby at_176) rfl ?_
      refine XS.iload X_52.here hx rfl (hb hby at_178) rfl ?_
      refine XS.iload X_52.here hx rfl (hb hby at_180) rfl ?_
      exact k
    refine og (B := T_52.setTop (mkF m 189 #[iv p0, iv p1, iv p2, iv p3, iv p4, iv 2, iv 0, iv x0, iv x1, iv x2, rv sx_40, rv sx_41, rv sx_42, rv b_43, iv 0, iv 1, iv 0, iv 0, iv 1, iv 2, iv 1] [(.int 0)])) (fun t k => ?_) ?_
    · refine XS.icmpYes X_52.here hx rfl (pc0 := 182) (pc' := 189) rfl (hb hby at_182) rfl (feq (by decide : ¬ ((0 : Int32) = (2 : Int32)))).2 (by decide) (by decide) ?_
      exact k
    refine og (B := T_52.setTop (mkF m 190 #[iv p0, iv p1, iv p2, iv p3, iv p4, iv 2, iv 0, iv x0, iv x1, iv x2, rv sx_40, rv sx_41, rv sx_42, rv b_43, iv 0, iv 1, iv 0, iv 0, iv 1, iv 2, iv 1] [(.int 0), (.int 0)])) (fun t k => ?_) ?_
    · refine XS.iconst X_52.here hx rfl (hb hby at_189) ?_
      exact k
    refine og (B := T_52.setTop (mkF m 193 #[iv p0, iv p1, iv p2, iv p3, iv p4, iv 2, iv 0, iv x0, iv x1, iv x2, rv sx_40, rv sx_41, rv sx_42, rv b_43, iv 0, iv 1, iv 0, iv 0, iv 1, iv 2, iv 1] [])) (fun t k => ?_) ?_
    · refine XS.icmpNo X_52.here hx rfl (hb hby at_190) rfl (teq (by decide : (0 : Int32) = (0 : Int32))).2 ?_
      exact k
    refine og (B := T_52.setTop (mkF m 195 #[iv p0, iv p1, iv p2, iv p3, iv p4, iv 2, iv 0, iv x0, iv x1, iv x2, rv sx_40, rv sx_41, rv sx_42, rv b_43, iv 0, iv 1, iv 0, iv 0, iv 1, iv 2, iv 1] [(.int 1)])) (fun t k => ?_) ?_
    · refine XS.iload X_52.here hx rfl (hb hby at_193) rfl ?_
      exact k
    refine og (B := T_52.setTop (mkF m 198 #[iv p0, iv p1, iv p2, iv p3, iv p4, iv 2, iv 0, iv x0, iv x1, iv x2, rv sx_40, rv sx_41, rv sx_42, rv b_43, iv 0, iv 1, iv 0, iv 0, iv 1, iv 2, iv 1] [])) (fun t k => ?_) ?_
    · refine XS.ifNo X_52.here hx rfl (hb hby at_195) rfl ((if0 _ _).trans (feq (by decide : ¬ ((1 : Int32) = (0 : Int32)))).1) ?_
      exact k
    refine og (B := T_52.setTop (mkF m 202 #[iv p0, iv p1, iv p2, iv p3, iv p4, iv 2, iv 0, iv x0, iv x1, iv x2, rv sx_40, rv sx_41, rv sx_42, rv b_43, iv 0, iv 1, iv 0, iv 0, iv 1, iv 2, iv 1] [(.int 2), (.int 2)])) (fun t k => ?_) ?_
    · refine XS.iload X_52.here hx rfl (hb hby at_198) rfl ?_
      refine XS.iload X_52.here hx rfl (hb hby at_200) rfl ?_
      exact k
    refine og (B := T_52.setTop (mkF m 205 #[iv p0, iv p1, iv p2, iv p3, iv p4, iv 2, iv 0, iv x0, iv x1, iv x2, rv sx_40, rv sx_41, rv sx_42, rv b_43, iv 0, iv 1, iv 0, iv 0, iv 1, iv 2, iv 1] [])) (fun t k => ?_) ?_
    · refine XS.icmpNo X_52.here hx rfl (hb hby at_202) rfl (teq (by decide : (2 : Int32) = (2 : Int32))).2 ?_
      exact k
    refine og (B := T_52.setTop (mkF m 207 #[iv p0, iv p1, iv p2, iv p3, iv p4, iv 2, iv 0, iv x0, iv x1, iv x2, rv sx_40, rv sx_41, rv sx_42, rv b_43, iv 0, iv 1, iv 0, iv 0, iv 1, iv 2, iv 1] [(.int 1)])) (fun t k => ?_) ?_
    · refine XS.iload X_52.here hx rfl (hb hby at_205) rfl ?_
      exact k
    refine og (B := T_52.setTop (mkF m 210 #[iv p0, iv p1, iv p2, iv p3, iv p4, iv 2, iv 0, iv x0, iv x1, iv x2, rv sx_40, rv sx_41, rv sx_42, rv b_43, iv 0, iv 1, iv 0, iv 0, iv 1, iv 2, iv 1] [])) (fun t k => ?_) ?_
    · refine XS.ifNo X_52.here hx rfl (hb hby at_207) rfl ((if0 _ _).trans (feq (by decide : ¬ ((1 : Int32) = (0 : Int32)))).1) ?_
      exact k
    refine og (B := T_52.setTop (mkF m 215 #[iv p0, iv p1, iv p2, iv p3, iv p4, iv 2, iv 0, iv x0, iv x1, iv x2, rv sx_40, rv sx_41, rv sx_42, rv b_43, iv 0, iv 1, iv 0, iv 0, iv 1, iv 2, iv 1] [(.int 1)])) (fun t k => ?_) ?_
    · refine XS.iconst X_52.here hx rfl (hb hby at_210) ?_
      refine XS.goto X_52.here hx rfl (pc0 := 211) (pc' := 215) rfl (hb hby at_211) (by decide) (by decide) ?_
      exact k
    obtain ⟨fs, hr, hrun, hended, hRW⟩ := X_52.leaveW Si_45 (by rw [e_52]; exact c445) (v := some (.int 1)) (fun h => by rw [Bd.returns] at h; cases h)
    refine ⟨_, _, ?_, hrun, hended, _, _, rfl, ?_, hRW.1, hRW.2.1, hRW.2.2.1, hRW.2.2.2.mono (by decide) (by decide)⟩
    · show Steps p.tables e below (T_52.setTop (mkF m 215 #[iv p0, iv p1, iv p2, iv p3, iv p4, iv 2, iv 0, iv x0, iv x1, iv x2, rv sx_40, rv sx_41, rv sx_42, rv b_43, iv 0, iv 1, iv 0, iv 0, iv 1, iv 2, iv 1] [(.int 1)])) _
      exact retN X_52 hx (t := .boolean) Bd.returns (by simp) (hb hby at_215) hr
    · show Q0 Z p0 p1 p2 p3 p4 w h0 n0 _ T_52.heap _
      rw [e_52]
      exact ⟨rfl, N_52, trivial⟩
  · show ∃ s₂ o, Steps p.tables e below (s₁.setTop (mkF m 49 #[iv p0, iv p1, iv p2, iv p3, iv p4, iv 2, iv 1, iv x0, iv x1, iv x2, oU, oU, oU, oU, oU, oU, oU, oU, oU, oU, oU] [(.int 2), (.int x2), (.int x1), (.int x0)])) s₂ ∧ _
    have kk_53 := K0
    obtain ⟨_, _, ⟨T_53, L_53, k_53, n_53⟩, -, X_53, ⟨Lc_53, hQ_53, l_53, y_53, z_53⟩, st_53⟩ := Jvm.LawKit.callS X0 hx (y := own_m2) hown (mvT hZ (ow hw 1 rfl)) (mvT hZ (ow hw 2 rfl)) (mvT hZ (ow hw 3 rfl)) (mvT hZ (ow hw 4 rfl)) (by decide) (backOf (W := 0) (rmstr2 l Z av0 hw [] x0 x1 x2 w h0 n0 Z0 S_COMPACT_STRINGS hw0 hxq0 hxq1) hZ (ow hw 4 rfl) (ow hw 3 rfl) (by decide) (by decide)) (g := (mkF m 49 #[iv p0, iv p1, iv p2, iv p3, iv p4, iv 2, iv 1, iv x0, iv x1, iv x2, oU, oU, oU, oU, oU, oU, oU, oU, oU, oU, oU] [(.int 2), (.int x2), (.int x1), (.int x0)])) rfl (by rw [hml]; rfl) (argsL := [(.int x0), (.int x1), (.int x2), (.int 2)]) (rest := []) (lenOf pd_11 rfl) rfl (by show 2 * 0 + _ ≤ _; exact Nat.le_of_eq rfl) (hb hby at_49) (fun _ _ => ⟨rfl, e0, (by decide : 0 + 3 ≤ _), (by decide : 0 + 8 ≤ _)⟩)
    dsimp only [Pt.U, Pt.locs, Pt.cells, Pt.slots] at X_53 l_53 y_53 z_53 st_53 hQ_53
    subst l_53 y_53 z_53
    obtain ⟨sx_53, sb_53, sk_53, rfl, N_53q, K_53, szq_53, sE_53, sc_53, sv_53, sV_53⟩ := hQ_53
    have N_53 := Fr.app N0 N_53q
    have c461 := H1.trans (CHr.keep K_53 all0 H1.1)
    have c462 := K0.trans K_53 all0
    have c463 := own_stak S_COMPACT_STRINGS K_53
    have Z0__53 : n0 ≤ T_53.heap.size := Nat.le_trans Z0 K_53.1
    have sz_sx_53 : h0.size ≤ sx_53 := Nat.le_trans kk_53.1 szq_53
    refine og (fun t k => st_53 t k) ?_
    refine og (B := T_53.setTop (mkF m 62 #[iv p0, iv p1, iv p2, iv p3, iv p4, iv 2, iv 1, iv x0, iv x1, iv x2, rv sx_53, oU, oU, oU, oU, oU, oU, oU, oU, oU, oU] [(.int 1), (.int x2), (.int x1), (.int x0)])) (fun t k => ?_) ?_
    · refine XS.astore X_53.here hx rfl (hb hby at_52) rfl rfl (l' := #[iv p0, iv p1, iv p2, iv p3, iv p4, iv 2, iv 1, iv x0, iv x1, iv x2, rv sx_53, oU, oU, oU, oU, oU, oU, oU, oU, oU, oU]) rfl ?_
      refine XS.iload X_53.here hx rfl (hb hby at_54) rfl ?_
      refine XS.iload X_53.here hx rfl (hb hby at_56) rfl ?_
      refine XS.iload X_53.here hx rfl (hb hby at_58) rfl ?_
      refine XS.iload X_53.here hx rfl (hb hby at_60) rfl ?_
      exact k
    have kk_54 := c462
    obtain ⟨_, _, ⟨T_54, L_54, k_54, n_54⟩, -, X_54, ⟨Lc_54, hQ_54, l_54, y_54, z_54⟩, st_54⟩ := Jvm.LawKit.callS X_53 hx (y := own_m2) hown (mvT hZ (ow hw 1 rfl)) (mvT hZ (ow hw 2 rfl)) (mvT hZ (ow hw 3 rfl)) (mvT hZ (ow hw 4 rfl)) (by decide) (backOf (W := 0) (rmstr1 l Z av0 hw [] x0 x1 x2 w T_53.heap n0 Z0__53 c463 hw0 hxq0) hZ (ow hw 4 rfl) (ow hw 3 rfl) (by decide) (by decide)) (g := (mkF m 62 #[iv p0, iv p1, iv p2, iv p3, iv p4, iv 2, iv 1, iv x0, iv x1, iv x2, rv sx_53, oU, oU, oU, oU, oU, oU, oU, oU, oU, oU] [(.int 1), (.int x2), (.int x1), (.int x0)])) rfl (by rw [hml]; rfl) (argsL := [(.int x0), (.int x1), (.int x2), (.int 1)]) (rest := []) (lenOf pd_11 rfl) rfl (by show 2 * 0 + _ ≤ _; exact Nat.le_of_eq rfl) (hb hby at_62) (fun _ _ => ⟨rfl, rfl, (by decide : 3 + 3 ≤ _), (by decide : 8 + 6 ≤ _)⟩)
    dsimp only [Pt.U, Pt.locs, Pt.cells, Pt.slots] at X_54 l_54 y_54 z_54 st_54 hQ_54
    subst l_54 y_54 z_54
    obtain ⟨sx_54, sb_54, sk_54, rfl, N_54q, K_54, szq_54, sE_54, sc_54, sv_54, sV_54⟩ := hQ_54
    have N_54 := Fr.app N_53 N_54q
    have c464 := c461.trans (CHr.keep K_54 all0 c461.1)
    have c465 := c462.trans K_54 all0
    have c466 := own_stak c463 K_54
    have c467 := sE_53.keep K_54
    have c468 := sc_53.keep K_54 nin0
    have c469 := sv_53.keep K_54 nin0
    have c470 := sV_53.keep K_54 nin0
    have Z0__54 : n0 ≤ T_54.heap.size := Nat.le_trans Z0__53 K_54.1
    have sz_sx_54 : h0.size ≤ sx_54 := Nat.le_trans kk_54.1 szq_54
    refine og (fun t k => st_54 t k) ?_
    refine og (B := T_54.setTop (mkF m 77 #[iv p0, iv p1, iv p2, iv p3, iv p4, iv 2, iv 1, iv x0, iv x1, iv x2, rv sx_53, rv sx_54, oU, oU, oU, oU, oU, oU, oU, oU, oU] [(.int 2), (.int 1), (.int x2), (.int x1), (.int x0)])) (fun t k => ?_) ?_
    · refine XS.astore X_54.here hx rfl (hb hby at_65) rfl rfl (l' := #[iv p0, iv p1, iv p2, iv p3, iv p4, iv 2, iv 1, iv x0, iv x1, iv x2, rv sx_53, rv sx_54, oU, oU, oU, oU, oU, oU, oU, oU, oU]) rfl ?_
      refine XS.iload X_54.here hx rfl (hb hby at_67) rfl ?_
      refine XS.iload X_54.here hx rfl (hb hby at_69) rfl ?_
      refine XS.iload X_54.here hx rfl (hb hby at_71) rfl ?_
      refine XS.iload X_54.here hx rfl (hb hby at_73) rfl ?_
      refine XS.iload X_54.here hx rfl (hb hby at_75) rfl ?_
      exact k
    have kk_55 := c465
    obtain ⟨_, _, ⟨T_55, L_55, k_55, n_55⟩, -, X_55, ⟨Lc_55, hQ_55, l_55, y_55, z_55⟩, st_55⟩ := Jvm.LawKit.callS X_54 hx (y := own_m6) hown (mvT hZ (ow hw 27 rfl)) (mvT hZ (ow hw 28 rfl)) (mvT hZ (ow hw 3 rfl)) (mvT hZ (ow hw 29 rfl)) (by decide) (backOf (W := 0) (rmsfx1_2 l Z av0 hw [] x0 x1 x2 w T_54.heap n0 Z0__54 c466 hw0 hxq1) hZ (ow hw 29 rfl) (ow hw 3 rfl) (by decide) (by decide)) (g := (mkF m 77 #[iv p0, iv p1, iv p2, iv p3, iv p4, iv 2, iv 1, iv x0, iv x1, iv x2, rv sx_53, rv sx_54, oU, oU, oU, oU, oU, oU, oU, oU, oU] [(.int 2), (.int 1), (.int x2), (.int x1), (.int x0)])) rfl (by rw [hml]; rfl) (argsL := [(.int x0), (.int x1), (.int x2), (.int 1), (.int 2)]) (rest := []) (lenOf pd_16 rfl) rfl (by show 2 * 0 + _ ≤ _; exact Nat.le_of_eq rfl) (hb hby at_77) (fun _ _ => ⟨rfl, rfl, (by decide : 6 + 3 ≤ _), (by decide : 14 + 6 ≤ _)⟩)
    dsimp only [Pt.U, Pt.locs, Pt.cells, Pt.slots] at X_55 l_55 y_55 z_55 st_55 hQ_55
    subst l_55 y_55 z_55
    obtain ⟨sx_55, sb_55, sk_55, rfl, N_55q, K_55, szq_55, sE_55, sc_55, sv_55, sV_55⟩ := hQ_55
    have N_55 := Fr.app N_54 N_55q
    have c471 := c464.trans (CHr.keep K_55 all0 c464.1)
    have c472 := c465.trans K_55 all0
    have c473 := own_stak c466 K_55
    have c474 := c467.keep K_55
    have c475 := c468.keep K_55 nin0
    have c476 := c469.keep K_55 nin0
    have c477 := c470.keep K_55 nin0
    have c478 := sE_54.keep K_55
    have c479 := sc_54.keep K_55 nin0
    have c480 := sv_54.keep K_55 nin0
    have c481 := sV_54.keep K_55 nin0
    have Z0__55 : n0 ≤ T_55.heap.size := Nat.le_trans Z0__54 K_55.1
    have sz_sx_55 : h0.size ≤ sx_55 := Nat.le_trans kk_55.1 szq_55
    refine og (fun t k => st_55 t k) ?_
    refine og (B := T_55.setTop (mkF m 82 #[iv p0, iv p1, iv p2, iv p3, iv p4, iv 2, iv 1, iv x0, iv x1, iv x2, rv sx_53, rv sx_54, rv sx_55, oU, oU, oU, oU, oU, oU, oU, oU] [])) (fun t k => ?_) ?_
    · refine XS.astore X_55.here hx rfl (hb hby at_80) rfl rfl (l' := #[iv p0, iv p1, iv p2, iv p3, iv p4, iv 2, iv 1, iv x0, iv x1, iv x2, rv sx_53, rv sx_54, rv sx_55, oU, oU, oU, oU, oU, oU, oU, oU]) rfl ?_
      exact k
    obtain ⟨T_56, h_56, X_56, e_56, E_56, A_56, D_56, -, st_56⟩ := newO X_55 hx hZ hown (ow hw 30 rfl) (ow hw 31 rfl) (ow hw 32 rfl) rfl (g := (mkF m 82 #[iv p0, iv p1, iv p2, iv p3, iv p4, iv 2, iv 1, iv x0, iv x1, iv x2, rv sx_53, rv sx_54, rv sx_55, oU, oU, oU, oU, oU, oU, oU, oU] [])) rfl (hb hby at_82) (by decide) (by decide)
    obtain ⟨b_56, g_56⟩ : ∃ z, z = T_55.heap.size := ⟨_, rfl⟩
    rw [← g_56] at A_56 D_56 st_56
    have g_b_56 : n0 ≤ b_56 := Nat.le_trans Z0__55 (Nat.le_of_eq g_56.symm)
    have sz_b_56 : h0.size ≤ b_56 := Nat.le_trans c472.1 (Nat.le_of_eq g_56.symm)
    have sf_b_56 : Safe Z own_EL s.vm T_55.heap b_56 := Safe.new (Nat.le_of_eq g_56.symm)
    have ne_sx_53_b_56 : sx_53 ≠ b_56 := Nat.ne_of_lt (Nat.lt_of_lt_of_le (c474).lt (Nat.le_of_eq g_56.symm))
    have ne_sb_53_b_56 : sb_53 ≠ b_56 := Nat.ne_of_lt (Nat.lt_of_lt_of_le (c477).lt (Nat.le_of_eq g_56.symm))
    have ne_sx_54_b_56 : sx_54 ≠ b_56 := Nat.ne_of_lt (Nat.lt_of_lt_of_le (c478).lt (Nat.le_of_eq g_56.symm))
    have ne_sb_54_b_56 : sb_54 ≠ b_56 := Nat.ne_of_lt (Nat.lt_of_lt_of_le (c481).lt (Nat.le_of_eq g_56.symm))
    have ne_sx_55_b_56 : sx_55 ≠ b_56 := Nat.ne_of_lt (Nat.lt_of_lt_of_le (sE_55).lt (Nat.le_of_eq g_56.symm))
    have ne_sb_55_b_56 : sb_55 ≠ b_56 := Nat.ne_of_lt (Nat.lt_of_lt_of_le (sV_55).lt (Nat.le_of_eq g_56.symm))
    have c482 := Safe.ext E_56 c471.1 sf_b_56
    have c483 := c471.trans (CHr.ext E_56 c471.1)
    have c484 := c472.ext E_56
    have c485 := c473.ext E_56
    have c486 := c474.ext E_56
    have c487 := c475.ext E_56
    have c488 := c476.ext E_56
    have c489 := c477.ext E_56
    have c490 := c478.ext E_56
    have c491 := c479.ext E_56
    have c492 := c480.ext E_56
    have c493 := c481.ext E_56
    have c494 := sE_55.ext E_56
    have c495 := sc_55.ext E_56
    have c496 := sv_55.ext E_56
    have c497 := sV_55.ext E_56
    have Z0__56 : n0 ≤ h_56.size := Nat.le_trans Z0__55 E_56.1
    have F_source_b_56 : Fld Z h_56 b_56 "com/example/cutoff/cutoff/store/TextCursor" "source" "Ljava/lang/String;" .null := D_56 (Or.inr (ow hw 39 rfl)) (ty := (.object "java/lang/String")) (by decide)
    have F_text_b_56 : Fld Z h_56 b_56 "com/example/cutoff/cutoff/store/TextCursor" "text" "Ljava/lang/String;" .null := D_56 (Or.inr (ow hw 41 rfl)) (ty := (.object "java/lang/String")) (by decide)
    have F_firstLine_b_56 : Fld Z h_56 b_56 "com/example/cutoff/cutoff/store/TextCursor" "firstLine" "I" (.int 0) := D_56 (Or.inr (ow hw 43 rfl)) (ty := .int) (by decide)
    have F_end_b_56 : Fld Z h_56 b_56 "com/example/cutoff/cutoff/store/TextCursor" "end" "Ljava/lang/String;" .null := D_56 (Or.inr (ow hw 86 rfl)) (ty := (.object "java/lang/String")) (by decide)
    have F_position_b_56 : Fld Z h_56 b_56 "com/example/cutoff/cutoff/store/TextCursor" "position" "I" (.int 0) := D_56 (Or.inl (ow hw 93 rfl)) (ty := .int) (by decide)
    refine og (fun t k => st_56 t k) ?_
    refine og (B := T_56.setTop (mkF m 86 #[iv p0, iv p1, iv p2, iv p3, iv p4, iv 2, iv 1, iv x0, iv x1, iv x2, rv sx_53, rv sx_54, rv sx_55, oU, oU, oU, oU, oU, oU, oU, oU] [(.ref b_56), (.ref b_56)])) (fun t k => ?_) ?_
    · refine XS.dup X_56.here hx rfl (hb hby at_85) rfl rfl ?_
      exact k
    have wS_57 := own_wS hw
    obtain ⟨b_57, T_57, h_57, k1_57, d_57, kc_57, X_57, e_57, E_57, Si_57, ls_57, hZ_57, hown_57, A_57, Fc_57, Fv_57, V_57, -, -, CH_57, -, NE_57, st_57⟩ := ldcCH (s := s) (vm0 := s.vm) (show Stand p l e room_1 (s.setVm s.vm) m #[(.int p0), (.int p1), (.int p2), (.int p3), (.int p4)] below meth c T_56 _ _ _ from X_56) hx hZ hown (ow hw 33 rfl) wS_57 e_56 ((State.WarmedH.refl s).since 0) (Nat.zero_le _) hEL (List.mem_of_getElem? (i := 1) rfl) c483.1 (vs := [(.int (115 : Int32))]) (z := (1 : Int32)) ⟨by decide, rfl⟩ (by decide) rfl (g := (mkF m 86 #[iv p0, iv p1, iv p2, iv p3, iv p4, iv 2, iv 1, iv x0, iv x1, iv x2, rv sx_53, rv sx_54, rv sx_55, oU, oU, oU, oU, oU, oU, oU, oU] [(.ref b_56), (.ref b_56)])) rfl (hb hby at_86) (n := 4) (by decide) (by decide) (by decide) (by decide)
    have c498 := CHr.safe CH_57 (F_source_b_56).lt c482
    have c499 := c483.trans CH_57
    have ne_b_56_b_57 : b_56 ≠ b_57 := (NE_57 _ c498).1
    have ne_b_56_d_57 : b_56 ≠ d_57 := (NE_57 _ c498).2
    have c500 := c484.ext E_57
    have c501 := c485.ext E_57
    have c502 := c486.ext E_57
    have c503 := c487.ext E_57
    have c504 := c488.ext E_57
    have c505 := c489.ext E_57
    have c506 := c490.ext E_57
    have c507 := c491.ext E_57
    have c508 := c492.ext E_57
    have c509 := c493.ext E_57
    have c510 := c494.ext E_57
    have c511 := c495.ext E_57
    have c512 := c496.ext E_57
    have c513 := c497.ext E_57
    have c514 := F_source_b_56.ext E_57
    have c515 := F_text_b_56.ext E_57
    have c516 := F_firstLine_b_56.ext E_57
    have c517 := F_end_b_56.ext E_57
    have c518 := F_position_b_56.ext E_57
    have c519 := A_56.ext E_57
    have Z0__57 : n0 ≤ h_57.size := Nat.le_trans Z0__56 E_57.1
    refine og (fun t k => st_57 t k) ?_
    refine og (B := T_57.setTop (mkF m 91 #[iv p0, iv p1, iv p2, iv p3, iv p4, iv 2, iv 1, iv x0, iv x1, iv x2, rv sx_53, rv sx_54, rv sx_55, oU, oU, oU, oU, oU, oU, oU, oU] [(.int 1), (.ref sx_53), (.ref b_57), (.ref b_56), (.ref b_56)])) (fun t k => ?_) ?_
    · refine XS.aload X_57.here hx rfl (hb hby at_88) rfl rfl ?_
      refine XS.iconst X_57.here hx rfl (hb hby at_90) ?_
      exact k
    obtain ⟨_, _, ⟨T_58, L_58, k_58, n_58⟩, -, Xb_58, Sb_58, gs_58, ⟨Lc_58, hQ_58, l_58, y_58, z_58, CH_58⟩, st_58⟩ := X_57.specialBackS hx (y := own_m7) rfl hown_57 (mvT hZ_57 (ow hw 34 rfl)) (mvT hZ_57 (ow hw 35 rfl)) (mvT hZ_57 (ow hw 36 rfl)) (by decide) (backOfSH (s := s) (vm0 := T_57.vm) (W := 1) (rmtc l Z av0 hw [] b_56 b_57 sx_53 .null .null (.int 0) .null sb_53 sk_53 w (2 : Int32) [(.int (own_byte (nar .char x0))), (.int (own_byte (nar .char x1)))] (fun c => own_ixl2 (own_byte (nar .char x0)) (own_byte (nar .char x1)) c) h_57 n0 Z0__57 c519 c514 c515 c516 c517 c518 g_b_56 c502 c503 c504 c501 hw0 c505 ne_sx_53_b_56 ne_sb_53_b_56 hEL (fun h' c z e f1 f2 s v => rmsxa2 l Z av0 hw [] sx_53 c sb_53 sk_53 w (own_byte (nar .char x0)) (own_byte (nar .char x1)) h' n0 z e f1 f2 s hw0 v)) hZ_57 (ow hw 36 rfl) (ow hw 32 rfl) (by decide) (by decide) hEL c499.1) (g := (mkF m 91 #[iv p0, iv p1, iv p2, iv p3, iv p4, iv 2, iv 1, iv x0, iv x1, iv x2, rv sx_53, rv sx_54, rv sx_55, oU, oU, oU, oU, oU, oU, oU, oU] [(.int 1), (.ref sx_53), (.ref b_57), (.ref b_56), (.ref b_56)])) rfl (by rw [hml]; rfl) (Steps.refl _) (a := b_56) (argsL := [(.ref b_57), (.ref sx_53), (.int 1)]) (rest := [(.ref b_56)]) (lenOf pd_17 rfl) rfl (by show 2 * 0 + _ ≤ _; exact Nat.le_of_eq rfl) (hb hby at_91) (fun _ _ => ⟨rfl, e_57, (by decide : 12 + 2 ≤ _), (by decide : 33 + 80 ≤ _)⟩)
    dsimp only [Pt.U, Pt.locs, Pt.cells, Pt.slots] at Xb_58 Sb_58 gs_58 l_58 y_58 z_58 st_58 hQ_58 CH_58
    subst l_58 y_58 z_58
    obtain ⟨rfl, N_58q, K_58, Ft_58, Fp_58⟩ := hQ_58
    have N_58 := Fr.app N_55 N_58q
    obtain ⟨X_58, Si_58, hZ_58, hown_58⟩ := rebS (s := s) (vm0 := T_57.vm) Si_57 (Nat.le_refl _) Xb_58 Sb_58 (Nat.le_trans ls_57 K_58.1) hZ_57 hown_57
    have c520 := CHr.safe CH_58 (c514).lt c498
    have c521 := c499.trans CH_58
    have c522 := Nat.le_trans ls_57 K_58.1
    have c523 := c500.trans K_58 (allS (Or.inr sz_b_56) all0)
    have c524 := own_stake c501 K_58 c519
    have c525 := c502.keep K_58
    have c526 := c503.keep K_58 (ninS ne_sx_53_b_56 nin0)
    have c527 := c504.keep K_58 (ninS ne_sx_53_b_56 nin0)
    have c528 := c505.keep K_58 (ninS ne_sb_53_b_56 nin0)
    have c529 := c506.keep K_58
    have c530 := c507.keep K_58 (ninS ne_sx_54_b_56 nin0)
    have c531 := c508.keep K_58 (ninS ne_sx_54_b_56 nin0)
    have c532 := c509.keep K_58 (ninS ne_sb_54_b_56 nin0)
    have c533 := c510.keep K_58
    have c534 := c511.keep K_58 (ninS ne_sx_55_b_56 nin0)
    have c535 := c512.keep K_58 (ninS ne_sx_55_b_56 nin0)
    have c536 := c513.keep K_58 (ninS ne_sb_55_b_56 nin0)
    have c537 := c519.keep K_58
    have Z0__58 : n0 ≤ T_58.heap.size := Nat.le_trans Z0__57 K_58.1
    refine og (fun t k => st_58.trans k) ?_
    refine og (B := T_58.setTop (mkF m 98 #[iv p0, iv p1, iv p2, iv p3, iv p4, iv 2, iv 1, iv x0, iv x1, iv x2, rv sx_53, rv sx_54, rv sx_55, rv b_56, oU, oU, oU, oU, oU, oU, oU] [(.ref b_56)])) (fun t k => ?_) ?_
    · refine XS.astore X_58.here hx rfl (hb hby at_94) rfl rfl (l' := #[iv p0, iv p1, iv p2, iv p3, iv p4, iv 2, iv 1, iv x0, iv x1, iv x2, rv sx_53, rv sx_54, rv sx_55, rv b_56, oU, oU, oU, oU, oU, oU, oU]) rfl ?_
      refine XS.aload X_58.here hx rfl (hb hby at_96) rfl rfl ?_
      exact k
    obtain ⟨cq_59, kq_59, q_59a, q_59b, q_59c⟩ := isOf hZ_58 rfl c537
    obtain ⟨_, _, ⟨T_59, L_59, k_59, n_59⟩, -, X_59, ⟨Lc_59, hQ_59, l_59, y_59, z_59⟩, st_59⟩ := X_58.virtualBack hx (y := own_m17) (z := own_m17) hown_58 (mvT hZ_58 (ow hw 87 rfl)) (mvT hZ_58 (ow hw 88 rfl)) (notFace_of_selects (args := #[]) (mvT hZ_58 (ow hw 90 rfl))) (mvT hZ_58 (ow hw 90 rfl)) (mvT hZ_58 (ow hw 89 rfl)) (by decide) (backOf (W := 0) (rm16 l Z av0 hw [] b_56 (0 : Int32) sx_53 sb_53 sk_53 w (2 : Int32) [(.int (own_byte (nar .char x0))), (.int (own_byte (nar .char x1)))] T_58.heap n0 Z0__58 Fp_58 Ft_58 c525 c526 c527 c524 hw0 c528) hZ_58 (ow hw 91 rfl) (ow hw 32 rfl) (by decide) (by decide)) q_59a q_59c (g := (mkF m 98 #[iv p0, iv p1, iv p2, iv p3, iv p4, iv 2, iv 1, iv x0, iv x1, iv x2, rv sx_53, rv sx_54, rv sx_55, rv b_56, oU, oU, oU, oU, oU, oU, oU] [(.ref b_56)])) rfl (by rw [hml]; rfl) (Steps.refl _) (argsL := []) (rest := []) (lenOf pd_3 rfl) rfl (by show 2 * 0 + _ ≤ _; exact Nat.le_of_eq rfl) (hb hby at_98) (fun _ _ => ⟨rfl, rfl, (by decide : 14 + 0 ≤ _), (by decide : 113 + 0 ≤ _)⟩)
    dsimp only [Pt.U, Pt.locs, Pt.cells, Pt.slots] at X_59 l_59 y_59 z_59 st_59 hQ_59
    subst l_59 y_59 z_59
    obtain ⟨hv_59, N_59q, e_59⟩ := hQ_59
    have N_59 := Fr.app N_58 N_59q
    rw [show own_ge (0 : Int32) (2 : Int32) = (0 : Int32) from by decide] at hv_59
    subst hv_59
    refine og (fun t k => st_59.trans k) ?_
    refine og (B := T_59.setTop (mkF m 107 #[iv p0, iv p1, iv p2, iv p3, iv p4, iv 2, iv 1, iv x0, iv x1, iv x2, rv sx_53, rv sx_54, rv sx_55, rv b_56, iv 0, oU, oU, oU, oU, oU, oU] [(.ref sx_54), (.ref b_56)])) (fun t k => ?_) ?_
    · refine XS.istore X_59.here hx rfl (hb hby at_101) rfl (l' := #[iv p0, iv p1, iv p2, iv p3, iv p4, iv 2, iv 1, iv x0, iv x1, iv x2, rv sx_53, rv sx_54, rv sx_55, rv b_56, iv 0, oU, oU, oU, oU, oU, oU]) rfl ?_
      refine XS.aload X_59.here hx rfl (hb hby at_103) rfl rfl ?_
      refine XS.aload X_59.here hx rfl (hb hby at_105) rfl rfl ?_
      exact k
    obtain ⟨cq_60, kq_60, q_60a, q_60b, q_60c⟩ := isOf hZ_58 e_59 c537
    obtain ⟨_, _, ⟨T_60, L_60, k_60, n_60⟩, -, X_60, ⟨Lc_60, hQ_60, l_60, y_60, z_60⟩, st_60⟩ := X_59.virtualBack hx (y := own_m18) (z := own_m18) hown_58 (mvT hZ_58 (ow hw 95 rfl)) (mvT hZ_58 (ow hw 96 rfl)) (notFace_of_selects (args := #[]) (mvT hZ_58 (ow hw 98 rfl))) (mvT hZ_58 (ow hw 98 rfl)) (mvT hZ_58 (ow hw 97 rfl)) (by decide) (backOf (W := 0) (rmco l Z av0 hw [] b_56 sx_54 sx_53 (0 : Int32) sb_53 sb_54 sk_53 sk_54 w (2 : Int32) (1 : Int32) [(.int (own_byte (nar .char x0))), (.int (own_byte (nar .char x1)))] [(.int (own_byte (nar .char x0)))] T_58.heap n0 Z0__58 c537 Ft_58 Fp_58 g_b_56 c525 c526 c527 c529 c530 c531 c524 hw0 c528 c532 ne_sx_54_b_56 ne_sb_54_b_56 (by decide) (by decide) (rmmm1 l Z av0 hw [] sb_53 (0 : Int32) sb_54 sk_53 sk_54 (2 : Int32) [(.int (own_byte (nar .char x0))), (.int (own_byte (nar .char x1)))] (own_byte (nar .char x0)) T_58.heap n0 Z0__58 c528 c532 (by decide) rfl)) hZ_58 (ow hw 99 rfl) (ow hw 32 rfl) (by decide) (by decide)) q_60a q_60c (g := (mkF m 107 #[iv p0, iv p1, iv p2, iv p3, iv p4, iv 2, iv 1, iv x0, iv x1, iv x2, rv sx_53, rv sx_54, rv sx_55, rv b_56, iv 0, oU, oU, oU, oU, oU, oU] [(.ref sx_54), (.ref b_56)])) rfl (by rw [hml]; rfl) (Steps.refl _) (argsL := [(.ref sx_54)]) (rest := []) (lenOf pd_15 rfl) rfl (by show 2 * 0 + _ ≤ _; exact Nat.le_of_eq rfl) (hb hby at_107) (fun _ _ => ⟨rfl, e_59, (by decide : 14 + 0 ≤ _), (by decide : 113 + 0 ≤ _)⟩)
    dsimp only [Pt.U, Pt.locs, Pt.cells, Pt.slots] at X_60 l_60 y_60 z_60 st_60 hQ_60
    subst l_60 y_60 z_60
    obtain ⟨rfl, N_60q, K_60, Fp_60, Ft_60⟩ := hQ_60
    have N_60 := Fr.app N_59 N_60q
    have c538 := Safe.keep K_60 (allS c520 all0) c521.1 c520
    have c539 := c521.trans (CHr.keep K_60 (allS c520 all0) c521.1)
    have c540 := Nat.le_trans (Nat.le_refl _) K_60.1
    have c541 := c523.trans K_60 (allS (Or.inr sz_b_56) all0)
    have c542 := own_stake c524 K_60 c537
    have c543 := c525.keep K_60
    have c544 := c526.keep K_60 (ninS ne_sx_53_b_56 nin0)
    have c545 := c527.keep K_60 (ninS ne_sx_53_b_56 nin0)
    have c546 := c528.keep K_60 (ninS ne_sb_53_b_56 nin0)
    have c547 := c529.keep K_60
    have c548 := c530.keep K_60 (ninS ne_sx_54_b_56 nin0)
    have c549 := c531.keep K_60 (ninS ne_sx_54_b_56 nin0)
    have c550 := c532.keep K_60 (ninS ne_sb_54_b_56 nin0)
    have c551 := c533.keep K_60
    have c552 := c534.keep K_60 (ninS ne_sx_55_b_56 nin0)
    have c553 := c535.keep K_60 (ninS ne_sx_55_b_56 nin0)
    have c554 := c536.keep K_60 (ninS ne_sb_55_b_56 nin0)
    have c555 := c537.keep K_60
    have Z0__60 : n0 ≤ T_60.heap.size := Nat.le_trans Z0__58 K_60.1
    have Fq_60 : Fld Z T_60.heap b_56 "com/example/cutoff/cutoff/store/TextCursor" "position" "I" (.int (1 : Int32)) := Fp_60
    refine og (fun t k => st_60.trans k) ?_
    refine og (B := T_60.setTop (mkF m 114 #[iv p0, iv p1, iv p2, iv p3, iv p4, iv 2, iv 1, iv x0, iv x1, iv x2, rv sx_53, rv sx_54, rv sx_55, rv b_56, iv 0, iv 1, oU, oU, oU, oU, oU] [(.ref b_56)])) (fun t k => ?_) ?_
    · refine XS.istore X_60.here hx rfl (hb hby at_110) rfl (l' := #[iv p0, iv p1, iv p2, iv p3, iv p4, iv 2, iv 1, iv x0, iv x1, iv x2, rv sx_53, rv sx_54, rv sx_55, rv b_56, iv 0, iv 1, oU, oU, oU, oU, oU]) rfl ?_
      refine XS.aload X_60.here hx rfl (hb hby at_112) rfl rfl ?_
      exact k
    obtain ⟨cq_61, kq_61, q_61a, q_61b, q_61c⟩ := isOf hZ_58 rfl c555
    obtain ⟨_, _, ⟨T_61, L_61, k_61, n_61⟩, -, X_61, ⟨Lc_61, hQ_61, l_61, y_61, z_61⟩, st_61⟩ := X_60.virtualBack hx (y := own_m22) (z := own_m22) hown_58 (mvT hZ_58 (ow hw 114 rfl)) (mvT hZ_58 (ow hw 115 rfl)) (notFace_of_selects (args := #[]) (mvT hZ_58 (ow hw 117 rfl))) (mvT hZ_58 (ow hw 117 rfl)) (mvT hZ_58 (ow hw 116 rfl)) (by decide) (backOf (W := 0) (rm21 l Z av0 hw [] b_56 (1 : Int32) T_60.heap n0 Z0__60 Fq_60) hZ_58 (ow hw 118 rfl) (ow hw 32 rfl) (by decide) (by decide)) q_61a q_61c (g := (mkF m 114 #[iv p0, iv p1, iv p2, iv p3, iv p4, iv 2, iv 1, iv x0, iv x1, iv x2, rv sx_53, rv sx_54, rv sx_55, rv b_56, iv 0, iv 1, oU, oU, oU, oU, oU] [(.ref b_56)])) rfl (by rw [hml]; rfl) (Steps.refl _) (argsL := []) (rest := []) (lenOf pd_4 rfl) rfl (by show 2 * 0 + _ ≤ _; exact Nat.le_of_eq rfl) (hb hby at_114) (fun _ _ => ⟨rfl, rfl, (by decide : 14 + 0 ≤ _), (by decide : 113 + 0 ≤ _)⟩)
    dsimp only [Pt.U, Pt.locs, Pt.cells, Pt.slots] at X_61 l_61 y_61 z_61 st_61 hQ_61
    subst l_61 y_61 z_61
    obtain ⟨rfl, N_61q, e_61⟩ := hQ_61
    have N_61 := Fr.app N_60 N_61q
    refine og (fun t k => st_61.trans k) ?_
    refine og (B := T_61.setTop (mkF m 121 #[iv p0, iv p1, iv p2, iv p3, iv p4, iv 2, iv 1, iv x0, iv x1, iv x2, rv sx_53, rv sx_54, rv sx_55, rv b_56, iv 0, iv 1, iv 1, oU, oU, oU, oU] [(.ref b_56)])) (fun t k => ?_) ?_
    · refine XS.istore X_61.here hx rfl (hb hby at_117) rfl (l' := #[iv p0, iv p1, iv p2, iv p3, iv p4, iv 2, iv 1, iv x0, iv x1, iv x2, rv sx_53, rv sx_54, rv sx_55, rv b_56, iv 0, iv 1, iv 1, oU, oU, oU, oU]) rfl ?_
      refine XS.aload X_61.here hx rfl (hb hby at_119) rfl rfl ?_
      exact k
    obtain ⟨cq_62, kq_62, q_62a, q_62b, q_62c⟩ := isOf hZ_58 e_61 c555
    obtain ⟨_, _, ⟨T_62, L_62, k_62, n_62⟩, -, X_62, ⟨Lc_62, hQ_62, l_62, y_62, z_62⟩, st_62⟩ := X_61.virtualBack hx (y := own_m17) (z := own_m17) hown_58 (mvT hZ_58 (ow hw 87 rfl)) (mvT hZ_58 (ow hw 88 rfl)) (notFace_of_selects (args := #[]) (mvT hZ_58 (ow hw 90 rfl))) (mvT hZ_58 (ow hw 90 rfl)) (mvT hZ_58 (ow hw 89 rfl)) (by decide) (backOf (W := 0) (rm16 l Z av0 hw [] b_56 (1 : Int32) sx_53 sb_53 sk_53 w (2 : Int32) [(.int (own_byte (nar .char x0))), (.int (own_byte (nar .char x1)))] T_60.heap n0 Z0__60 Fq_60 Ft_60 c543 c544 c545 c542 hw0 c546) hZ_58 (ow hw 91 rfl) (ow hw 32 rfl) (by decide) (by decide)) q_62a q_62c (g := (mkF m 121 #[iv p0, iv p1, iv p2, iv p3, iv p4, iv 2, iv 1, iv x0, iv x1, iv x2, rv sx_53, rv sx_54, rv sx_55, rv b_56, iv 0, iv 1, iv 1, oU, oU, oU, oU] [(.ref b_56)])) rfl (by rw [hml]; rfl) (Steps.refl _) (argsL := []) (rest := []) (lenOf pd_3 rfl) rfl (by show 2 * 0 + _ ≤ _; exact Nat.le_of_eq rfl) (hb hby at_121) (fun _ _ => ⟨rfl, e_61, (by decide : 14 + 0 ≤ _), (by decide : 113 + 0 ≤ _)⟩)
    dsimp only [Pt.U, Pt.locs, Pt.cells, Pt.slots] at X_62 l_62 y_62 z_62 st_62 hQ_62
    subst l_62 y_62 z_62
    obtain ⟨hv_62, N_62q, e_62⟩ := hQ_62
    have N_62 := Fr.app N_61 N_62q
    rw [show own_ge (1 : Int32) (2 : Int32) = (0 : Int32) from by decide] at hv_62
    subst hv_62
    refine og (fun t k => st_62.trans k) ?_
    refine og (B := T_62.setTop (mkF m 130 #[iv p0, iv p1, iv p2, iv p3, iv p4, iv 2, iv 1, iv x0, iv x1, iv x2, rv sx_53, rv sx_54, rv sx_55, rv b_56, iv 0, iv 1, iv 1, iv 0, oU, oU, oU] [(.ref sx_55), (.ref b_56)])) (fun t k => ?_) ?_
    · refine XS.istore X_62.here hx rfl (hb hby at_124) rfl (l' := #[iv p0, iv p1, iv p2, iv p3, iv p4, iv 2, iv 1, iv x0, iv x1, iv x2, rv sx_53, rv sx_54, rv sx_55, rv b_56, iv 0, iv 1, iv 1, iv 0, oU, oU, oU]) rfl ?_
      refine XS.aload X_62.here hx rfl (hb hby at_126) rfl rfl ?_
      refine XS.aload X_62.here hx rfl (hb hby at_128) rfl rfl ?_
      exact k
    obtain ⟨cq_63, kq_63, q_63a, q_63b, q_63c⟩ := isOf hZ_58 e_62 c555
    obtain ⟨_, _, ⟨T_63, L_63, k_63, n_63⟩, -, X_63, ⟨Lc_63, hQ_63, l_63, y_63, z_63⟩, st_63⟩ := X_62.virtualBack hx (y := own_m18) (z := own_m18) hown_58 (mvT hZ_58 (ow hw 95 rfl)) (mvT hZ_58 (ow hw 96 rfl)) (notFace_of_selects (args := #[]) (mvT hZ_58 (ow hw 98 rfl))) (mvT hZ_58 (ow hw 98 rfl)) (mvT hZ_58 (ow hw 97 rfl)) (by decide) (backOf (W := 0) (rmco l Z av0 hw [] b_56 sx_55 sx_53 (1 : Int32) sb_53 sb_55 sk_53 sk_55 w (2 : Int32) (1 : Int32) [(.int (own_byte (nar .char x0))), (.int (own_byte (nar .char x1)))] [(.int (own_byte (nar .char x1)))] T_60.heap n0 Z0__60 c555 Ft_60 Fq_60 g_b_56 c543 c544 c545 c551 c552 c553 c542 hw0 c546 c554 ne_sx_55_b_56 ne_sb_55_b_56 (by decide) (by decide) (rmmm1 l Z av0 hw [] sb_53 (1 : Int32) sb_55 sk_53 sk_55 (2 : Int32) [(.int (own_byte (nar .char x0))), (.int (own_byte (nar .char x1)))] (own_byte (nar .char x1)) T_60.heap n0 Z0__60 c546 c554 (by decide) rfl)) hZ_58 (ow hw 99 rfl) (ow hw 32 rfl) (by decide) (by decide)) q_63a q_63c (g := (mkF m 130 #[iv p0, iv p1, iv p2, iv p3, iv p4, iv 2, iv 1, iv x0, iv x1, iv x2, rv sx_53, rv sx_54, rv sx_55, rv b_56, iv 0, iv 1, iv 1, iv 0, oU, oU, oU] [(.ref sx_55), (.ref b_56)])) rfl (by rw [hml]; rfl) (Steps.refl _) (argsL := [(.ref sx_55)]) (rest := []) (lenOf pd_15 rfl) rfl (by show 2 * 0 + _ ≤ _; exact Nat.le_of_eq rfl) (hb hby at_130) (fun _ _ => ⟨rfl, e_62, (by decide : 14 + 0 ≤ _), (by decide : 113 + 0 ≤ _)⟩)
    dsimp only [Pt.U, Pt.locs, Pt.cells, Pt.slots] at X_63 l_63 y_63 z_63 st_63 hQ_63
    subst l_63 y_63 z_63
    obtain ⟨rfl, N_63q, K_63, Fp_63, Ft_63⟩ := hQ_63
    have N_63 := Fr.app N_62 N_63q
    have c556 := Safe.keep K_63 (allS c538 all0) c539.1 c538
    have c557 := c539.trans (CHr.keep K_63 (allS c538 all0) c539.1)
    have c558 := Nat.le_trans c540 K_63.1
    have c559 := c541.trans K_63 (allS (Or.inr sz_b_56) all0)
    have c560 := own_stake c542 K_63 c555
    have c561 := c543.keep K_63
    have c562 := c544.keep K_63 (ninS ne_sx_53_b_56 nin0)
    have c563 := c545.keep K_63 (ninS ne_sx_53_b_56 nin0)
    have c564 := c546.keep K_63 (ninS ne_sb_53_b_56 nin0)
    have c565 := c547.keep K_63
    have c566 := c548.keep K_63 (ninS ne_sx_54_b_56 nin0)
    have c567 := c549.keep K_63 (ninS ne_sx_54_b_56 nin0)
    have c568 := c550.keep K_63 (ninS ne_sb_54_b_56 nin0)
    have c569 := c551.keep K_63
    have c570 := c552.keep K_63 (ninS ne_sx_55_b_56 nin0)
    have c571 := c553.keep K_63 (ninS ne_sx_55_b_56 nin0)
    have c572 := c554.keep K_63 (ninS ne_sb_55_b_56 nin0)
    have c573 := c555.keep K_63
    have Z0__63 : n0 ≤ T_63.heap.size := Nat.le_trans Z0__60 K_63.1
    have Fq_63 : Fld Z T_63.heap b_56 "com/example/cutoff/cutoff/store/TextCursor" "position" "I" (.int (2 : Int32)) := Fp_63
    refine og (fun t k => st_63.trans k) ?_
    refine og (B := T_63.setTop (mkF m 137 #[iv p0, iv p1, iv p2, iv p3, iv p4, iv 2, iv 1, iv x0, iv x1, iv x2, rv sx_53, rv sx_54, rv sx_55, rv b_56, iv 0, iv 1, iv 1, iv 0, iv 1, oU, oU] [(.ref b_56)])) (fun t k => ?_) ?_
    · refine XS.istore X_63.here hx rfl (hb hby at_133) rfl (l' := #[iv p0, iv p1, iv p2, iv p3, iv p4, iv 2, iv 1, iv x0, iv x1, iv x2, rv sx_53, rv sx_54, rv sx_55, rv b_56, iv 0, iv 1, iv 1, iv 0, iv 1, oU, oU]) rfl ?_
      refine XS.aload X_63.here hx rfl (hb hby at_135) rfl rfl ?_
      exact k
    obtain ⟨cq_64, kq_64, q_64a, q_64b, q_64c⟩ := isOf hZ_58 rfl c573
    obtain ⟨_, _, ⟨T_64, L_64, k_64, n_64⟩, -, X_64, ⟨Lc_64, hQ_64, l_64, y_64, z_64⟩, st_64⟩ := X_63.virtualBack hx (y := own_m22) (z := own_m22) hown_58 (mvT hZ_58 (ow hw 114 rfl)) (mvT hZ_58 (ow hw 115 rfl)) (notFace_of_selects (args := #[]) (mvT hZ_58 (ow hw 117 rfl))) (mvT hZ_58 (ow hw 117 rfl)) (mvT hZ_58 (ow hw 116 rfl)) (by decide) (backOf (W := 0) (rm21 l Z av0 hw [] b_56 (2 : Int32) T_63.heap n0 Z0__63 Fq_63) hZ_58 (ow hw 118 rfl) (ow hw 32 rfl) (by decide) (by decide)) q_64a q_64c (g := (mkF m 137 #[iv p0, iv p1, iv p2, iv p3, iv p4, iv 2, iv 1, iv x0, iv x1, iv x2, rv sx_53, rv sx_54, rv sx_55, rv b_56, iv 0, iv 1, iv 1, iv 0, iv 1, oU, oU] [(.ref b_56)])) rfl (by rw [hml]; rfl) (Steps.refl _) (argsL := []) (rest := []) (lenOf pd_4 rfl) rfl (by show 2 * 0 + _ ≤ _; exact Nat.le_of_eq rfl) (hb hby at_137) (fun _ _ => ⟨rfl, rfl, (by decide : 14 + 0 ≤ _), (by decide : 113 + 0 ≤ _)⟩)
    dsimp only [Pt.U, Pt.locs, Pt.cells, Pt.slots] at X_64 l_64 y_64 z_64 st_64 hQ_64
    subst l_64 y_64 z_64
    obtain ⟨rfl, N_64q, e_64⟩ := hQ_64
    have N_64 := Fr.app N_63 N_64q
    refine og (fun t k => st_64.trans k) ?_
    refine og (B := T_64.setTop (mkF m 144 #[iv p0, iv p1, iv p2, iv p3, iv p4, iv 2, iv 1, iv x0, iv x1, iv x2, rv sx_53, rv sx_54, rv sx_55, rv b_56, iv 0, iv 1, iv 1, iv 0, iv 1, iv 2, oU] [(.ref b_56)])) (fun t k => ?_) ?_
    · refine XS.istore X_64.here hx rfl (hb hby at_140) rfl (l' := #[iv p0, iv p1, iv p2, iv p3, iv p4, iv 2, iv 1, iv x0, iv x1, iv x2, rv sx_53, rv sx_54, rv sx_55, rv b_56, iv 0, iv 1, iv 1, iv 0, iv 1, iv 2, oU]) rfl ?_
      refine XS.aload X_64.here hx rfl (hb hby at_142) rfl rfl ?_
      exact k
    obtain ⟨cq_65, kq_65, q_65a, q_65b, q_65c⟩ := isOf hZ_58 e_64 c573
    obtain ⟨_, _, ⟨T_65, L_65, k_65, n_65⟩, -, X_65, ⟨Lc_65, hQ_65, l_65, y_65, z_65⟩, st_65⟩ := X_64.virtualBack hx (y := own_m17) (z := own_m17) hown_58 (mvT hZ_58 (ow hw 87 rfl)) (mvT hZ_58 (ow hw 88 rfl)) (notFace_of_selects (args := #[]) (mvT hZ_58 (ow hw 90 rfl))) (mvT hZ_58 (ow hw 90 rfl)) (mvT hZ_58 (ow hw 89 rfl)) (by decide) (backOf (W := 0) (rm16 l Z av0 hw [] b_56 (2 : Int32) sx_53 sb_53 sk_53 w (2 : Int32) [(.int (own_byte (nar .char x0))), (.int (own_byte (nar .char x1)))] T_63.heap n0 Z0__63 Fq_63 Ft_63 c561 c562 c563 c560 hw0 c564) hZ_58 (ow hw 91 rfl) (ow hw 32 rfl) (by decide) (by decide)) q_65a q_65c (g := (mkF m 144 #[iv p0, iv p1, iv p2, iv p3, iv p4, iv 2, iv 1, iv x0, iv x1, iv x2, rv sx_53, rv sx_54, rv sx_55, rv b_56, iv 0, iv 1, iv 1, iv 0, iv 1, iv 2, oU] [(.ref b_56)])) rfl (by rw [hml]; rfl) (Steps.refl _) (argsL := []) (rest := []) (lenOf pd_3 rfl) rfl (by show 2 * 0 + _ ≤ _; exact Nat.le_of_eq rfl) (hb hby at_144) (fun _ _ => ⟨rfl, e_64, (by decide : 14 + 0 ≤ _), (by decide : 113 + 0 ≤ _)⟩)
    dsimp only [Pt.U, Pt.locs, Pt.cells, Pt.slots] at X_65 l_65 y_65 z_65 st_65 hQ_65
    subst l_65 y_65 z_65
    obtain ⟨hv_65, N_65q, e_65⟩ := hQ_65
    have N_65 := Fr.app N_64 N_65q
    rw [show own_ge (2 : Int32) (2 : Int32) = (1 : Int32) from by decide] at hv_65
    subst hv_65
    refine og (fun t k => st_65.trans k) ?_
    refine og (B := T_65.setTop (mkF m 153 #[iv p0, iv p1, iv p2, iv p3, iv p4, iv 2, iv 1, iv x0, iv x1, iv x2, rv sx_53, rv sx_54, rv sx_55, rv b_56, iv 0, iv 1, iv 1, iv 0, iv 1, iv 2, iv 1] [(.int 2), (.int 0)])) (fun t k => ?_) ?_
    · refine XS.istore X_65.here hx rfl (hb hby at_147) rfl (l' := #[iv p0, iv p1, iv p2, iv p3, iv p4, iv 2, iv 1, iv x0, iv x1, iv x2, rv sx_53, rv sx_54, rv sx_55, rv b_56, iv 0, iv 1, iv 1, iv 0, iv 1, iv 2, iv 1]) rfl ?_
      refine XS.iload X_65.here hx rfl (hb hby at_149) rfl ?_
      refine XS.iload X_65.here hx rfl (hb hby at_151) rfl ?_
      exact k
    refine og (B := T_65.setTop (mkF m 160 #[iv p0, iv p1, iv p2, iv p3, iv p4, iv 2, iv 1, iv x0, iv x1, iv x2, rv sx_53, rv sx_54, rv sx_55, rv b_56, iv 0, iv 1, iv 1, iv 0, iv 1, iv 2, iv 1] [(.int 0)])) (fun t k => ?_) ?_
    · refine XS.ifYes X_65.here hx rfl (pc0 := 153) (pc' := 160) rfl (hb hby at_153) rfl ((if0 _ _).trans (feq (by decide : ¬ ((2 : Int32) = (0 : Int32)))).2) (by decide) (by decide) ?_
      exact k
    refine og (B := T_65.setTop (mkF m 161 #[iv p0, iv p1, iv p2, iv p3, iv p4, iv 2, iv 1, iv x0, iv x1, iv x2, rv sx_53, rv sx_54, rv sx_55, rv b_56, iv 0, iv 1, iv 1, iv 0, iv 1, iv 2, iv 1] [(.int 0), (.int 0)])) (fun t k => ?_) ?_
    · refine XS.iconst X_65.here hx rfl (hb hby at_160) ?_
      exact k
    refine og (B := T_65.setTop (mkF m 164 #[iv p0, iv p1, iv p2, iv p3, iv p4, iv 2, iv 1, iv x0, iv x1, iv x2, rv sx_53, rv sx_54, rv sx_55, rv b_56, iv 0, iv 1, iv 1, iv 0, iv 1, iv 2, iv 1] [])) (fun t k => ?_) ?_
    · refine XS.icmpNo X_65.here hx rfl (hb hby at_161) rfl (teq (by decide : (0 : Int32) = (0 : Int32))).2 ?_
      exact k
    refine og (B := T_65.setTop (mkF m 166 #[iv p0, iv p1, iv p2, iv p3, iv p4, iv 2, iv 1, iv x0, iv x1, iv x2, rv sx_53, rv sx_54, rv sx_55, rv b_56, iv 0, iv 1, iv 1, iv 0, iv 1, iv 2, iv 1] [(.int 1)])) (fun t k => ?_) ?_
    · refine XS.iload X_65.here hx rfl (hb hby at_164) rfl ?_
      exact k
    refine og (B := T_65.setTop (mkF m 169 #[iv p0, iv p1, iv p2, iv p3, iv p4, iv 2, iv 1, iv x0, iv x1, iv x2, rv sx_53, rv sx_54, rv sx_55, rv b_56, iv 0, iv 1, iv 1, iv 0, iv 1, iv 2, iv 1] [])) (fun t k => ?_) ?_
    · refine XS.ifNo X_65.here hx rfl (hb hby at_166) rfl ((if0 _ _).trans (feq (by decide : ¬ ((1 : Int32) = (0 : Int32)))).1) ?_
      exact k
    refine og (B := T_65.setTop (mkF m 173 #[iv p0, iv p1, iv p2, iv p3, iv p4, iv 2, iv 1, iv x0, iv x1, iv x2, rv sx_53, rv sx_54, rv sx_55, rv b_56, iv 0, iv 1, iv 1, iv 0, iv 1, iv 2, iv 1] [(.int 1), (.int 1)])) (fun t k => ?_) ?_
    · refine XS.iload X_65.here hx rfl (hb hby at_169) rfl ?_
      refine XS.iload X_65.here hx rfl (hb hby at_171) rfl ?_
      exact k
    refine og (B := T_65.setTop (mkF m 176 #[iv p0, iv p1, iv p2, iv p3, iv p4, iv 2, iv 1, iv x0, iv x1, iv x2, rv sx_53, rv sx_54, rv sx_55, rv b_56, iv 0, iv 1, iv 1, iv 0, iv 1, iv 2, iv 1] [])) (fun t k => ?_) ?_
    · refine XS.icmpNo X_65.here hx rfl (hb hby at_173) rfl (teq (by decide : (1 : Int32) = (1 : Int32))).2 ?_
      exact k
    refine og (B := T_65.setTop (mkF m 182 #[iv p0, iv p1, iv p2, iv p3, iv p4, iv 2, iv 1, iv x0, iv x1, iv x2, rv sx_53, rv sx_54, rv sx_55, rv b_56, iv 0, iv 1, iv 1, iv 0, iv 1, iv 2, iv 1] [(.int 2), (.int 1), (.int 0)])) (fun t k => ?_) ?_
    · refine XS.iload X_65.here hx rfl (hb hby at_176) rfl ?_
      refine XS.iload X_65.here hx rfl (hb hby at_178) rfl ?_
      refine XS.iload X_65.here hx rfl (hb hby at_180) rfl ?_
      exact k
    refine og (B := T_65.setTop (mkF m 189 #[iv p0, iv p1, iv p2, iv p3, iv p4, iv 2, iv 1, iv x0, iv x1, iv x2, rv sx_53, rv sx_54, rv sx_55, rv b_56, iv 0, iv 1, iv 1, iv 0, iv 1, iv 2, iv 1] [(.int 0)])) (fun t k => ?_) ?_
    · refine XS.icmpYes X_65.here hx rfl (pc0 := 182) (pc' := 189) rfl (hb hby at_182) rfl (feq (by decide : ¬ ((1 : Int32) = (2 : Int32)))).2 (by decide) (by decide) ?_
      exact k
    refine og (B := T_65.setTop (mkF m 190 #[iv p0, iv p1, iv p2, iv p3, iv p4, iv 2, iv 1, iv x0, iv x1, iv x2, rv sx_53, rv sx_54, rv sx_55, rv b_56, iv 0, iv 1, iv 1, iv 0, iv 1, iv 2, iv 1] [(.int 0), (.int 0)])) (fun t k => ?_) ?_
    · refine XS.iconst X_65.here hx rfl (hb hby at_189) ?_
      exact k
    refine og (B := T_65.setTop (mkF m 193 #[iv p0, iv p1, iv p2, iv p3, iv p4, iv 2, iv 1, iv x0, iv x1, iv x2, rv sx_53, rv sx_54, rv sx_55, rv b_56, iv 0, iv 1, iv 1, iv 0, iv 1, iv 2, iv 1] [])) (fun t k => ?_) ?_
    · refine XS.icmpNo X_65.here hx rfl (hb hby at_190) rfl (teq (by decide : (0 : Int32) = (0 : Int32))).2 ?_
      exact k
    refine og (B := T_65.setTop (mkF m 195 #[iv p0, iv p1, iv p2, iv p3, iv p4, iv 2, iv 1, iv x0, iv x1, iv x2, rv sx_53, rv sx_54, rv sx_55, rv b_56, iv 0, iv 1, iv 1, iv 0, iv 1, iv 2, iv 1] [(.int 1)])) (fun t k => ?_) ?_
    · refine XS.iload X_65.here hx rfl (hb hby at_193) rfl ?_
      exact k
    refine og (B := T_65.setTop (mkF m 198 #[iv p0, iv p1, iv p2, iv p3, iv p4, iv 2, iv 1, iv x0, iv x1, iv x2, rv sx_53, rv sx_54, rv sx_55, rv b_56, iv 0, iv 1, iv 1, iv 0, iv 1, iv 2, iv 1] [])) (fun t k => ?_) ?_
    · refine XS.ifNo X_65.here hx rfl (hb hby at_195) rfl ((if0 _ _).trans (feq (by decide : ¬ ((1 : Int32) = (0 : Int32)))).1) ?_
      exact k
    refine og (B := T_65.setTop (mkF m 202 #[iv p0, iv p1, iv p2, iv p3, iv p4, iv 2, iv 1, iv x0, iv x1, iv x2, rv sx_53, rv sx_54, rv sx_55, rv b_56, iv 0, iv 1, iv 1, iv 0, iv 1, iv 2, iv 1] [(.int 2), (.int 2)])) (fun t k => ?_) ?_
    · refine XS.iload X_65.here hx rfl (hb hby at_198) rfl ?_
      refine XS.iload X_65.here hx rfl (hb hby at_200) rfl ?_
      exact k
    refine og (B := T_65.setTop (mkF m 205 #[iv p0, iv p1, iv p2, iv p3, iv p4, iv 2, iv 1, iv x0, iv x1, iv x2, rv sx_53, rv sx_54, rv sx_55, rv b_56, iv 0, iv 1, iv 1, iv 0, iv 1, iv 2, iv 1] [])) (fun t k => ?_) ?_
    · refine XS.icmpNo X_65.here hx rfl (hb hby at_202) rfl (teq (by decide : (2 : Int32) = (2 : Int32))).2 ?_
      exact k
    refine og (B := T_65.setTop (mkF m 207 #[iv p0, iv p1, iv p2, iv p3, iv p4, iv 2, iv 1, iv x0, iv x1, iv x2, rv sx_53, rv sx_54, rv sx_55, rv b_56, iv 0, iv 1, iv 1, iv 0, iv 1, iv 2, iv 1] [(.int 1)])) (fun t k => ?_) ?_
    · refine XS.iload X_65.here hx rfl (hb hby at_205) rfl ?_
      exact k
    refine og (B := T_65.setTop (mkF m 210 #[iv p0, iv p1, iv p2, iv p3, iv p4, iv 2, iv 1, iv x0, iv x1, iv x2, rv sx_53, rv sx_54, rv sx_55, rv b_56, iv 0, iv 1, iv 1, iv 0, iv 1, iv 2, iv 1] [])) (fun t k => ?_) ?_
    · refine XS.ifNo X_65.here hx rfl (hb hby at_207) rfl ((if0 _ _).trans (feq (by decide : ¬ ((1 : Int32) = (0 : Int32)))).1) ?_
      exact k
    refine og (B := T_65.setTop (mkF m 215 #[iv p0, iv p1, iv p2, iv p3, iv p4, iv 2, iv 1, iv x0, iv x1, iv x2, rv sx_53, rv sx_54, rv sx_55, rv b_56, iv 0, iv 1, iv 1, iv 0, iv 1, iv 2, iv 1] [(.int 1)])) (fun t k => ?_) ?_
    · refine XS.iconst X_65.here hx rfl (hb hby at_210) ?_
      refine XS.goto X_65.here hx rfl (pc0 := 211) (pc' := 215) rfl (hb hby at_211) (by decide) (by decide) ?_
      exact k
    obtain ⟨fs, hr, hrun, hended, hRW⟩ := X_65.leaveW Si_58 (by rw [e_65]; exact c558) (v := some (.int 1)) (fun h => by rw [Bd.returns] at h; cases h)
    refine ⟨_, _, ?_, hrun, hended, _, _, rfl, ?_, hRW.1, hRW.2.1, hRW.2.2.1, hRW.2.2.2.mono (by decide) (by decide)⟩
    · show Steps p.tables e below (T_65.setTop (mkF m 215 #[iv p0, iv p1, iv p2, iv p3, iv p4, iv 2, iv 1, iv x0, iv x1, iv x2, rv sx_53, rv sx_54, rv sx_55, rv b_56, iv 0, iv 1, iv 1, iv 0, iv 1, iv 2, iv 1] [(.int 1)])) _
      exact retN X_65 hx (t := .boolean) Bd.returns (by simp) (hb hby at_215) hr
    · show Q0 Z p0 p1 p2 p3 p4 w h0 n0 _ T_65.heap _
      rw [e_65]
      exact ⟨rfl, N_65, trivial⟩
  · show ∃ s₂ o, Steps p.tables e below (s₁.setTop (mkF m 49 #[iv p0, iv p1, iv p2, iv p3, iv p4, iv 2, iv 2, iv x0, iv x1, iv x2, oU, oU, oU, oU, oU, oU, oU, oU, oU, oU, oU] [(.int 2), (.int x2), (.int x1), (.int x0)])) s₂ ∧ _
    have kk_66 := K0
    obtain ⟨_, _, ⟨T_66, L_66, k_66, n_66⟩, -, X_66, ⟨Lc_66, hQ_66, l_66, y_66, z_66⟩, st_66⟩ := Jvm.LawKit.callS X0 hx (y := own_m2) hown (mvT hZ (ow hw 1 rfl)) (mvT hZ (ow hw 2 rfl)) (mvT hZ (ow hw 3 rfl)) (mvT hZ (ow hw 4 rfl)) (by decide) (backOf (W := 0) (rmstr2 l Z av0 hw [] x0 x1 x2 w h0 n0 Z0 S_COMPACT_STRINGS hw0 hxq0 hxq1) hZ (ow hw 4 rfl) (ow hw 3 rfl) (by decide) (by decide)) (g := (mkF m 49 #[iv p0, iv p1, iv p2, iv p3, iv p4, iv 2, iv 2, iv x0, iv x1, iv x2, oU, oU, oU, oU, oU, oU, oU, oU, oU, oU, oU] [(.int 2), (.int x2), (.int x1), (.int x0)])) rfl (by rw [hml]; rfl) (argsL := [(.int x0), (.int x1), (.int x2), (.int 2)]) (rest := []) (lenOf pd_11 rfl) rfl (by show 2 * 0 + _ ≤ _; exact Nat.le_of_eq rfl) (hb hby at_49) (fun _ _ => ⟨rfl, e0, (by decide : 0 + 3 ≤ _), (by decide : 0 + 8 ≤ _)⟩)
    dsimp only [Pt.U, Pt.locs, Pt.cells, Pt.slots] at X_66 l_66 y_66 z_66 st_66 hQ_66
    subst l_66 y_66 z_66
    obtain ⟨sx_66, sb_66, sk_66, rfl, N_66q, K_66, szq_66, sE_66, sc_66, sv_66, sV_66⟩ := hQ_66
    have N_66 := Fr.app N0 N_66q
    have c574 := H1.trans (CHr.keep K_66 all0 H1.1)
    have c575 := K0.trans K_66 all0
    have c576 := own_stak S_COMPACT_STRINGS K_66
    have Z0__66 : n0 ≤ T_66.heap.size := Nat.le_trans Z0 K_66.1
    have sz_sx_66 : h0.size ≤ sx_66 := Nat.le_trans kk_66.1 szq_66
    refine og (fun t k => st_66 t k) ?_
    refine og (B := T_66.setTop (mkF m 62 #[iv p0, iv p1, iv p2, iv p3, iv p4, iv 2, iv 2, iv x0, iv x1, iv x2, rv sx_66, oU, oU, oU, oU, oU, oU, oU, oU, oU, oU] [(.int 2), (.int x2), (.int x1), (.int x0)])) (fun t k => ?_) ?_
    · refine XS.astore X_66.here hx rfl (hb hby at_52) rfl rfl (l' := #[iv p0, iv p1, iv p2, iv p3, iv p4, iv 2, iv 2, iv x0, iv x1, iv x2, rv sx_66, oU, oU, oU, oU, oU, oU, oU, oU, oU, oU]) rfl ?_
      refine XS.iload X_66.here hx rfl (hb hby at_54) rfl ?_
      refine XS.iload X_66.here hx rfl (hb hby at_56) rfl ?_
      refine XS.iload X_66.here hx rfl (hb hby at_58) rfl ?_
      refine XS.iload X_66.here hx rfl (hb hby at_60) rfl ?_
      exact k
    have kk_67 := c575
    obtain ⟨_, _, ⟨T_67, L_67, k_67, n_67⟩, -, X_67, ⟨Lc_67, hQ_67, l_67, y_67, z_67⟩, st_67⟩ := Jvm.LawKit.callS X_66 hx (y := own_m2) hown (mvT hZ (ow hw 1 rfl)) (mvT hZ (ow hw 2 rfl)) (mvT hZ (ow hw 3 rfl)) (mvT hZ (ow hw 4 rfl)) (by decide) (backOf (W := 0) (rmstr2 l Z av0 hw [] x0 x1 x2 w T_66.heap n0 Z0__66 c576 hw0 hxq0 hxq1) hZ (ow hw 4 rfl) (ow hw 3 rfl) (by decide) (by decide)) (g := (mkF m 62 #[iv p0, iv p1, iv p2, iv p3, iv p4, iv 2, iv 2, iv x0, iv x1, iv x2, rv sx_66, oU, oU, oU, oU, oU, oU, oU, oU, oU, oU] [(.int 2), (.int x2), (.int x1), (.int x0)])) rfl (by rw [hml]; rfl) (argsL := [(.int x0), (.int x1), (.int x2), (.int 2)]) (rest := []) (lenOf pd_11 rfl) rfl (by show 2 * 0 + _ ≤ _; exact Nat.le_of_eq rfl) (hb hby at_62) (fun _ _ => ⟨rfl, rfl, (by decide : 3 + 3 ≤ _), (by decide : 8 + 8 ≤ _)⟩)
    dsimp only [Pt.U, Pt.locs, Pt.cells, Pt.slots] at X_67 l_67 y_67 z_67 st_67 hQ_67
    subst l_67 y_67 z_67
    obtain ⟨sx_67, sb_67, sk_67, rfl, N_67q, K_67, szq_67, sE_67, sc_67, sv_67, sV_67⟩ := hQ_67
    have N_67 := Fr.app N_66 N_67q
    have c577 := c574.trans (CHr.keep K_67 all0 c574.1)
    have c578 := c575.trans K_67 all0
    have c579 := own_stak c576 K_67
    have c580 := sE_66.keep K_67
    have c581 := sc_66.keep K_67 nin0
    have c582 := sv_66.keep K_67 nin0
    have c583 := sV_66.keep K_67 nin0
    have Z0__67 : n0 ≤ T_67.heap.size := Nat.le_trans Z0__66 K_67.1
    have sz_sx_67 : h0.size ≤ sx_67 := Nat.le_trans kk_67.1 szq_67
    refine og (fun t k => st_67 t k) ?_
    refine og (B := T_67.setTop (mkF m 77 #[iv p0, iv p1, iv p2, iv p3, iv p4, iv 2, iv 2, iv x0, iv x1, iv x2, rv sx_66, rv sx_67, oU, oU, oU, oU, oU, oU, oU, oU, oU] [(.int 2), (.int 2), (.int x2), (.int x1), (.int x0)])) (fun t k => ?_) ?_
    · refine XS.astore X_67.here hx rfl (hb hby at_65) rfl rfl (l' := #[iv p0, iv p1, iv p2, iv p3, iv p4, iv 2, iv 2, iv x0, iv x1, iv x2, rv sx_66, rv sx_67, oU, oU, oU, oU, oU, oU, oU, oU, oU]) rfl ?_
      refine XS.iload X_67.here hx rfl (hb hby at_67) rfl ?_
      refine XS.iload X_67.here hx rfl (hb hby at_69) rfl ?_
      refine XS.iload X_67.here hx rfl (hb hby at_71) rfl ?_
      refine XS.iload X_67.here hx rfl (hb hby at_73) rfl ?_
      refine XS.iload X_67.here hx rfl (hb hby at_75) rfl ?_
      exact k
    have kk_68 := c578
    obtain ⟨_, _, ⟨T_68, L_68, k_68, n_68⟩, -, Xb_68, Sb_68, gs_68, ⟨Lc_68, hQ_68, l_68, y_68, z_68, CH_68⟩, st_68⟩ := callSS (show Stand p l e room_1 (s.setVm s.vm) m #[(.int p0), (.int p1), (.int p2), (.int p3), (.int p4)] below meth c T_67 _ _ _ from X_67) hx (y := own_m6) hown (mvT hZ (ow hw 27 rfl)) (mvT hZ (ow hw 28 rfl)) (mvT hZ (ow hw 3 rfl)) (mvT hZ (ow hw 29 rfl)) (by decide) (backOfSH (s := s) (vm0 := s.vm) (W := 0) (rmsfx2_2 l Z av0 hw [] x0 x1 x2  T_67.heap n0 Z0__67 hEL) hZ (ow hw 29 rfl) (ow hw 3 rfl) (by decide) (by decide) hEL c577.1) (g := (mkF m 77 #[iv p0, iv p1, iv p2, iv p3, iv p4, iv 2, iv 2, iv x0, iv x1, iv x2, rv sx_66, rv sx_67, oU, oU, oU, oU, oU, oU, oU, oU, oU] [(.int 2), (.int 2), (.int x2), (.int x1), (.int x0)])) rfl (by rw [hml]; rfl) (argsL := [(.int x0), (.int x1), (.int x2), (.int 2), (.int 2)]) (rest := []) (lenOf pd_16 rfl) rfl (by show 2 * 0 + _ ≤ _; exact Nat.le_of_eq rfl) (hb hby at_77) (fun _ _ => ⟨rfl, rfl, (by decide : 6 + 6 ≤ _), (by decide : 16 + 12 ≤ _)⟩)
    dsimp only [Pt.U, Pt.locs, Pt.cells, Pt.slots] at Xb_68 Sb_68 gs_68 l_68 y_68 z_68 st_68 hQ_68 CH_68
    subst l_68 y_68 z_68
    obtain ⟨sx_68, sb_68, sk_68, rfl, N_68q, K_68, szq_68, sE_68, sc_68, sv_68, sV_68⟩ := hQ_68
    have N_68 := Fr.app N_67 N_68q
    obtain ⟨X_68, Si_68, hZ_68, hown_68⟩ := rebS (s := s) (vm0 := s.vm) ((State.WarmedH.refl s).since 0) (Nat.zero_le 0) Xb_68 Sb_68 (Nat.zero_le _) hZ hown
    have c584 := c577.trans CH_68
    have c585 := c578.trans K_68 all0
    have c586 := own_stak c579 K_68
    have c587 := c580.keep K_68
    have c588 := c581.keep K_68 nin0
    have c589 := c582.keep K_68 nin0
    have c590 := c583.keep K_68 nin0
    have c591 := sE_67.keep K_68
    have c592 := sc_67.keep K_68 nin0
    have c593 := sv_67.keep K_68 nin0
    have c594 := sV_67.keep K_68 nin0
    have Z0__68 : n0 ≤ T_68.heap.size := Nat.le_trans Z0__67 K_68.1
    have sz_sx_68 : h0.size ≤ sx_68 := Nat.le_trans kk_68.1 szq_68
    refine og (fun t k => st_68.trans k) ?_
    refine og (B := T_68.setTop (mkF m 82 #[iv p0, iv p1, iv p2, iv p3, iv p4, iv 2, iv 2, iv x0, iv x1, iv x2, rv sx_66, rv sx_67, rv sx_68, oU, oU, oU, oU, oU, oU, oU, oU] [])) (fun t k => ?_) ?_
    · refine XS.astore X_68.here hx rfl (hb hby at_80) rfl rfl (l' := #[iv p0, iv p1, iv p2, iv p3, iv p4, iv 2, iv 2, iv x0, iv x1, iv x2, rv sx_66, rv sx_67, rv sx_68, oU, oU, oU, oU, oU, oU, oU, oU]) rfl ?_
      exact k
    obtain ⟨T_69, h_69, X_69, e_69, E_69, A_69, D_69, -, st_69⟩ := newO X_68 hx hZ_68 hown_68 (ow hw 30 rfl) (ow hw 31 rfl) (ow hw 32 rfl) rfl (g := (mkF m 82 #[iv p0, iv p1, iv p2, iv p3, iv p4, iv 2, iv 2, iv x0, iv x1, iv x2, rv sx_66, rv sx_67, rv sx_68, oU, oU, oU, oU, oU, oU, oU, oU] [])) rfl (hb hby at_82) (by decide) (by decide)
    obtain ⟨b_69, g_69⟩ : ∃ z, z = T_68.heap.size := ⟨_, rfl⟩
    rw [← g_69] at A_69 D_69 st_69
    have g_b_69 : n0 ≤ b_69 := Nat.le_trans Z0__68 (Nat.le_of_eq g_69.symm)
    have sz_b_69 : h0.size ≤ b_69 := Nat.le_trans c585.1 (Nat.le_of_eq g_69.symm)
    have sf_b_69 : Safe Z own_EL T_68.vm T_68.heap b_69 := Safe.new (Nat.le_of_eq g_69.symm)
    have ne_sx_66_b_69 : sx_66 ≠ b_69 := Nat.ne_of_lt (Nat.lt_of_lt_of_le (c587).lt (Nat.le_of_eq g_69.symm))
    have ne_sb_66_b_69 : sb_66 ≠ b_69 := Nat.ne_of_lt (Nat.lt_of_lt_of_le (c590).lt (Nat.le_of_eq g_69.symm))
    have ne_sx_67_b_69 : sx_67 ≠ b_69 := Nat.ne_of_lt (Nat.lt_of_lt_of_le (c591).lt (Nat.le_of_eq g_69.symm))
    have ne_sb_67_b_69 : sb_67 ≠ b_69 := Nat.ne_of_lt (Nat.lt_of_lt_of_le (c594).lt (Nat.le_of_eq g_69.symm))
    have ne_sx_68_b_69 : sx_68 ≠ b_69 := Nat.ne_of_lt (Nat.lt_of_lt_of_le (sE_68).lt (Nat.le_of_eq g_69.symm))
    have ne_sb_68_b_69 : sb_68 ≠ b_69 := Nat.ne_of_lt (Nat.lt_of_lt_of_le (sV_68).lt (Nat.le_of_eq g_69.symm))
    have c595 := Safe.ext E_69 c584.1 sf_b_69
    have c596 := c584.trans (CHr.ext E_69 c584.1)
    have c597 := Nat.le_trans (Nat.le_refl _) E_69.1
    have c598 := c585.ext E_69
    have c599 := c586.ext E_69
    have c600 := c587.ext E_69
    have c601 := c588.ext E_69
    have c602 := c589.ext E_69
    have c603 := c590.ext E_69
    have c604 := c591.ext E_69
    have c605 := c592.ext E_69
    have c606 := c593.ext E_69
    have c607 := c594.ext E_69
    have c608 := sE_68.ext E_69
    have c609 := sc_68.ext E_69
    have c610 := sv_68.ext E_69
    have c611 := sV_68.ext E_69
    have Z0__69 : n0 ≤ h_69.size := Nat.le_trans Z0__68 E_69.1
    have F_source_b_69 : Fld Z h_69 b_69 "com/example/cutoff/cutoff/store/TextCursor" "source" "Ljava/lang/String;" .null := D_69 (Or.inr (ow hw 39 rfl)) (ty := (.object "java/lang/String")) (by decide)
    have F_text_b_69 : Fld Z h_69 b_69 "com/example/cutoff/cutoff/store/TextCursor" "text" "Ljava/lang/String;" .null := D_69 (Or.inr (ow hw 41 rfl)) (ty := (.object "java/lang/String")) (by decide)
    have F_firstLine_b_69 : Fld Z h_69 b_69 "com/example/cutoff/cutoff/store/TextCursor" "firstLine" "I" (.int 0) := D_69 (Or.inr (ow hw 43 rfl)) (ty := .int) (by decide)
    have F_end_b_69 : Fld Z h_69 b_69 "com/example/cutoff/cutoff/store/TextCursor" "end" "Ljava/lang/String;" .null := D_69 (Or.inr (ow hw 86 rfl)) (ty := (.object "java/lang/String")) (by decide)
    have F_position_b_69 : Fld Z h_69 b_69 "com/example/cutoff/cutoff/store/TextCursor" "position" "I" (.int 0) := D_69 (Or.inl (ow hw 93 rfl)) (ty := .int) (by decide)
    refine og (fun t k => st_69 t k) ?_
    refine og (B := T_69.setTop (mkF m 86 #[iv p0, iv p1, iv p2, iv p3, iv p4, iv 2, iv 2, iv x0, iv x1, iv x2, rv sx_66, rv sx_67, rv sx_68, oU, oU, oU, oU, oU, oU, oU, oU] [(.ref b_69), (.ref b_69)])) (fun t k => ?_) ?_
    · refine XS.dup X_69.here hx rfl (hb hby at_85) rfl rfl ?_
      exact k
    have wS_70 := own_wS hw
    obtain ⟨b_70, T_70, h_70, k1_70, d_70, kc_70, X_70, e_70, E_70, Si_70, ls_70, hZ_70, hown_70, A_70, Fc_70, Fv_70, V_70, -, -, CH_70, -, NE_70, st_70⟩ := ldcCH (s := s) (vm0 := T_68.vm) X_69 hx hZ_68 hown_68 (ow hw 33 rfl) wS_70 e_69 Si_68 c597 hEL (List.mem_of_getElem? (i := 1) rfl) c596.1 (vs := [(.int (115 : Int32))]) (z := (1 : Int32)) ⟨by decide, rfl⟩ (by decide) rfl (g := (mkF m 86 #[iv p0, iv p1, iv p2, iv p3, iv p4, iv 2, iv 2, iv x0, iv x1, iv x2, rv sx_66, rv sx_67, rv sx_68, oU, oU, oU, oU, oU, oU, oU, oU] [(.ref b_69), (.ref b_69)])) rfl (hb hby at_86) (n := 4) (by decide) (by decide) (by decide) (by decide)
    have c612 := CHr.safe CH_70 (F_source_b_69).lt c595
    have c613 := c596.trans CH_70
    have ne_b_69_b_70 : b_69 ≠ b_70 := (NE_70 _ c612).1
    have ne_b_69_d_70 : b_69 ≠ d_70 := (NE_70 _ c612).2
    have c614 := c598.ext E_70
    have c615 := c599.ext E_70
    have c616 := c600.ext E_70
    have c617 := c601.ext E_70
    have c618 := c602.ext E_70
    have c619 := c603.ext E_70
    have c620 := c604.ext E_70
    have c621 := c605.ext E_70
    have c622 := c606.ext E_70
    have c623 := c607.ext E_70
    have c624 := c608.ext E_70
    have c625 := c609.ext E_70
    have c626 := c610.ext E_70
    have c627 := c611.ext E_70
    have c628 := F_source_b_69.ext E_70
    have c629 := F_text_b_69.ext E_70
    have c630 := F_firstLine_b_69.ext E_70
    have c631 := F_end_b_69.ext E_70
    have c632 := F_position_b_69.ext E_70
    have c633 := A_69.ext E_70
    have Z0__70 : n0 ≤ h_70.size := Nat.le_trans Z0__69 E_70.1
    refine og (fun t k => st_70 t k) ?_
    refine og (B := T_70.setTop (mkF m 91 #[iv p0, iv p1, iv p2, iv p3, iv p4, iv 2, iv 2, iv x0, iv x1, iv x2, rv sx_66, rv sx_67, rv sx_68, oU, oU, oU, oU, oU, oU, oU, oU] [(.int 1), (.ref sx_66), (.ref b_70), (.ref b_69), (.ref b_69)])) (fun t k => ?_) ?_
    · refine XS.aload X_70.here hx rfl (hb hby at_88) rfl rfl ?_
      refine XS.iconst X_70.here hx rfl (hb hby at_90) ?_
      exact k
    obtain ⟨_, _, ⟨T_71, L_71, k_71, n_71⟩, -, Xb_71, Sb_71, gs_71, ⟨Lc_71, hQ_71, l_71, y_71, z_71, CH_71⟩, st_71⟩ := X_70.specialBackS hx (y := own_m7) rfl hown_70 (mvT hZ_70 (ow hw 34 rfl)) (mvT hZ_70 (ow hw 35 rfl)) (mvT hZ_70 (ow hw 36 rfl)) (by decide) (backOfSH (s := s) (vm0 := T_70.vm) (W := 1) (rmtc l Z av0 hw [] b_69 b_70 sx_66 .null .null (.int 0) .null sb_66 sk_66 w (2 : Int32) [(.int (own_byte (nar .char x0))), (.int (own_byte (nar .char x1)))] (fun c => own_ixl2 (own_byte (nar .char x0)) (own_byte (nar .char x1)) c) h_70 n0 Z0__70 c633 c628 c629 c630 c631 c632 g_b_69 c616 c617 c618 c615 hw0 c619 ne_sx_66_b_69 ne_sb_66_b_69 hEL (fun h' c z e f1 f2 s v => rmsxa2 l Z av0 hw [] sx_66 c sb_66 sk_66 w (own_byte (nar .char x0)) (own_byte (nar .char x1)) h' n0 z e f1 f2 s hw0 v)) hZ_70 (ow hw 36 rfl) (ow hw 32 rfl) (by decide) (by decide) hEL c613.1) (g := (mkF m 91 #[iv p0, iv p1, iv p2, iv p3, iv p4, iv 2, iv 2, iv x0, iv x1, iv x2, rv sx_66, rv sx_67, rv sx_68, oU, oU, oU, oU, oU, oU, oU, oU] [(.int 1), (.ref sx_66), (.ref b_70), (.ref b_69), (.ref b_69)])) rfl (by rw [hml]; rfl) (Steps.refl _) (a := b_69) (argsL := [(.ref b_70), (.ref sx_66), (.int 1)]) (rest := [(.ref b_69)]) (lenOf pd_17 rfl) rfl (by show 2 * 0 + _ ≤ _; exact Nat.le_of_eq rfl) (hb hby at_91) (fun _ _ => ⟨rfl, e_70, (by decide : 15 + 2 ≤ _), (by decide : 41 + 80 ≤ _)⟩)
    dsimp only [Pt.U, Pt.locs, Pt.cells, Pt.slots] at Xb_71 Sb_71 gs_71 l_71 y_71 z_71 st_71 hQ_71 CH_71
    subst l_71 y_71 z_71
    obtain ⟨rfl, N_71q, K_71, Ft_71, Fp_71⟩ := hQ_71
    have N_71 := Fr.app N_68 N_71q
    obtain ⟨X_71, Si_71, hZ_71, hown_71⟩ := rebS (s := s) (vm0 := T_70.vm) Si_70 (Nat.le_refl _) Xb_71 Sb_71 (Nat.le_trans ls_70 K_71.1) hZ_70 hown_70
    have c634 := CHr.safe CH_71 (c628).lt c612
    have c635 := c613.trans CH_71
    have c636 := Nat.le_trans ls_70 K_71.1
    have c637 := c614.trans K_71 (allS (Or.inr sz_b_69) all0)
    have c638 := own_stake c615 K_71 c633
    have c639 := c616.keep K_71
    have c640 := c617.keep K_71 (ninS ne_sx_66_b_69 nin0)
    have c641 := c618.keep K_71 (ninS ne_sx_66_b_69 nin0)
    have c642 := c619.keep K_71 (ninS ne_sb_66_b_69 nin0)
    have c643 := c620.keep K_71
    have c644 := c621.keep K_71 (ninS ne_sx_67_b_69 nin0)
    have c645 := c622.keep K_71 (ninS ne_sx_67_b_69 nin0)
    have c646 := c623.keep K_71 (ninS ne_sb_67_b_69 nin0)
    have c647 := c624.keep K_71
    have c648 := c625.keep K_71 (ninS ne_sx_68_b_69 nin0)
    have c649 := c626.keep K_71 (ninS ne_sx_68_b_69 nin0)
    have c650 := c627.keep K_71 (ninS ne_sb_68_b_69 nin0)
    have c651 := c633.keep K_71
    have Z0__71 : n0 ≤ T_71.heap.size := Nat.le_trans Z0__70 K_71.1
    refine og (fun t k => st_71.trans k) ?_
    refine og (B := T_71.setTop (mkF m 98 #[iv p0, iv p1, iv p2, iv p3, iv p4, iv 2, iv 2, iv x0, iv x1, iv x2, rv sx_66, rv sx_67, rv sx_68, rv b_69, oU, oU, oU, oU, oU, oU, oU] [(.ref b_69)])) (fun t k => ?_) ?_
    · refine XS.astore X_71.here hx rfl (hb hby at_94) rfl rfl (l' := #[iv p0, iv p1, iv p2, iv p3, iv p4, iv 2, iv 2, iv x0, iv x1, iv x2, rv sx_66, rv sx_67, rv sx_68, rv b_69, oU, oU, oU, oU, oU, oU, oU]) rfl ?_
      refine XS.aload X_71.here hx rfl (hb hby at_96) rfl rfl ?_
      exact k
    obtain ⟨cq_72, kq_72, q_72a, q_72b, q_72c⟩ := isOf hZ_71 rfl c651
    obtain ⟨_, _, ⟨T_72, L_72, k_72, n_72⟩, -, X_72, ⟨Lc_72, hQ_72, l_72, y_72, z_72⟩, st_72⟩ := X_71.virtualBack hx (y := own_m17) (z := own_m17) hown_71 (mvT hZ_71 (ow hw 87 rfl)) (mvT hZ_71 (ow hw 88 rfl)) (notFace_of_selects (args := #[]) (mvT hZ_71 (ow hw 90 rfl))) (mvT hZ_71 (ow hw 90 rfl)) (mvT hZ_71 (ow hw 89 rfl)) (by decide) (backOf (W := 0) (rm16 l Z av0 hw [] b_69 (0 : Int32) sx_66 sb_66 sk_66 w (2 : Int32) [(.int (own_byte (nar .char x0))), (.int (own_byte (nar .char x1)))] T_71.heap n0 Z0__71 Fp_71 Ft_71 c639 c640 c641 c638 hw0 c642) hZ_71 (ow hw 91 rfl) (ow hw 32 rfl) (by decide) (by decide)) q_72a q_72c (g := (mkF m 98 #[iv p0, iv p1, iv p2, iv p3, iv p4, iv 2, iv 2, iv x0, iv x1, iv x2, rv sx_66, rv sx_67, rv sx_68, rv b_69, oU, oU, oU, oU, oU, oU, oU] [(.ref b_69)])) rfl (by rw [hml]; rfl) (Steps.refl _) (argsL := []) (rest := []) (lenOf pd_3 rfl) rfl (by show 2 * 0 + _ ≤ _; exact Nat.le_of_eq rfl) (hb hby at_98) (fun _ _ => ⟨rfl, rfl, (by decide : 17 + 0 ≤ _), (by decide : 121 + 0 ≤ _)⟩)
    dsimp only [Pt.U, Pt.locs, Pt.cells, Pt.slots] at X_72 l_72 y_72 z_72 st_72 hQ_72
    subst l_72 y_72 z_72
    obtain ⟨hv_72, N_72q, e_72⟩ := hQ_72
    have N_72 := Fr.app N_71 N_72q
    rw [show own_ge (0 : Int32) (2 : Int32) = (0 : Int32) from by decide] at hv_72
    subst hv_72
    refine og (fun t k => st_72.trans k) ?_
    refine og (B := T_72.setTop (mkF m 107 #[iv p0, iv p1, iv p2, iv p3, iv p4, iv 2, iv 2, iv x0, iv x1, iv x2, rv sx_66, rv sx_67, rv sx_68, rv b_69, iv 0, oU, oU, oU, oU, oU, oU] [(.ref sx_67), (.ref b_69)])) (fun t k => ?_) ?_
    · refine XS.istore X_72.here hx rfl (hb hby at_101) rfl (l' := #[iv p0, iv p1, iv p2, iv p3, iv p4, iv 2, iv 2, iv x0, iv x1, iv x2, rv sx_66, rv sx_67, rv sx_68, rv b_69, iv 0, oU, oU, oU, oU, oU, oU]) rfl ?_
      refine XS.aload X_72.here hx rfl (hb hby at_103) rfl rfl ?_
      refine XS.aload X_72.here hx rfl (hb hby at_105) rfl rfl ?_
      exact k
    obtain ⟨cq_73, kq_73, q_73a, q_73b, q_73c⟩ := isOf hZ_71 e_72 c651
    obtain ⟨_, _, ⟨T_73, L_73, k_73, n_73⟩, -, X_73, ⟨Lc_73, hQ_73, l_73, y_73, z_73⟩, st_73⟩ := X_72.virtualBack hx (y := own_m18) (z := own_m18) hown_71 (mvT hZ_71 (ow hw 95 rfl)) (mvT hZ_71 (ow hw 96 rfl)) (notFace_of_selects (args := #[]) (mvT hZ_71 (ow hw 98 rfl))) (mvT hZ_71 (ow hw 98 rfl)) (mvT hZ_71 (ow hw 97 rfl)) (by decide) (backOf (W := 0) (rmco l Z av0 hw [] b_69 sx_67 sx_66 (0 : Int32) sb_66 sb_67 sk_66 sk_67 w (2 : Int32) (2 : Int32) [(.int (own_byte (nar .char x0))), (.int (own_byte (nar .char x1)))] [(.int (own_byte (nar .char x0))), (.int (own_byte (nar .char x1)))] T_71.heap n0 Z0__71 c651 Ft_71 Fp_71 g_b_69 c639 c640 c641 c643 c644 c645 c638 hw0 c642 c646 ne_sx_67_b_69 ne_sb_67_b_69 (by decide) (by decide) (rmmm2 l Z av0 hw [] sb_66 (0 : Int32) sb_67 sk_66 sk_67 (2 : Int32) [(.int (own_byte (nar .char x0))), (.int (own_byte (nar .char x1)))] (own_byte (nar .char x0)) (own_byte (nar .char x1)) T_71.heap n0 Z0__71 c642 c646 (by decide) (by decide) rfl rfl)) hZ_71 (ow hw 99 rfl) (ow hw 32 rfl) (by decide) (by decide)) q_73a q_73c (g := (mkF m 107 #[iv p0, iv p1, iv p2, iv p3, iv p4, iv 2, iv 2, iv x0, iv x1, iv x2, rv sx_66, rv sx_67, rv sx_68, rv b_69, iv 0, oU, oU, oU, oU, oU, oU] [(.ref sx_67), (.ref b_69)])) rfl (by rw [hml]; rfl) (Steps.refl _) (argsL := [(.ref sx_67)]) (rest := []) (lenOf pd_15 rfl) rfl (by show 2 * 0 + _ ≤ _; exact Nat.le_of_eq rfl) (hb hby at_107) (fun _ _ => ⟨rfl, e_72, (by decide : 17 + 0 ≤ _), (by decide : 121 + 0 ≤ _)⟩)
    dsimp only [Pt.U, Pt.locs, Pt.cells, Pt.slots] at X_73 l_73 y_73 z_73 st_73 hQ_73
    subst l_73 y_73 z_73
    obtain ⟨rfl, N_73q, K_73, Fp_73, Ft_73⟩ := hQ_73
    have N_73 := Fr.app N_72 N_73q
    have c652 := Safe.keep K_73 (allS c634 all0) c635.1 c634
    have c653 := c635.trans (CHr.keep K_73 (allS c634 all0) c635.1)
    have c654 := Nat.le_trans (Nat.le_refl _) K_73.1
    have c655 := c637.trans K_73 (allS (Or.inr sz_b_69) all0)
    have c656 := own_stake c638 K_73 c651
    have c657 := c639.keep K_73
    have c658 := c640.keep K_73 (ninS ne_sx_66_b_69 nin0)
    have c659 := c641.keep K_73 (ninS ne_sx_66_b_69 nin0)
    have c660 := c642.keep K_73 (ninS ne_sb_66_b_69 nin0)
    have c661 := c643.keep K_73
    have c662 := c644.keep K_73 (ninS ne_sx_67_b_69 nin0)
    have c663 := c645.keep K_73 (ninS ne_sx_67_b_69 nin0)
    have c664 := c646.keep K_73 (ninS ne_sb_67_b_69 nin0)
    have c665 := c647.keep K_73
    have c666 := c648.keep K_73 (ninS ne_sx_68_b_69 nin0)
    have c667 := c649.keep K_73 (ninS ne_sx_68_b_69 nin0)
    have c668 := c650.keep K_73 (ninS ne_sb_68_b_69 nin0)
    have c669 := c651.keep K_73
    have Z0__73 : n0 ≤ T_73.heap.size := Nat.le_trans Z0__71 K_73.1
    have Fq_73 : Fld Z T_73.heap b_69 "com/example/cutoff/cutoff/store/TextCursor" "position" "I" (.int (2 : Int32)) := Fp_73
    refine og (fun t k => st_73.trans k) ?_
    refine og (B := T_73.setTop (mkF m 114 #[iv p0, iv p1, iv p2, iv p3, iv p4, iv 2, iv 2, iv x0, iv x1, iv x2, rv sx_66, rv sx_67, rv sx_68, rv b_69, iv 0, iv 1, oU, oU, oU, oU, oU] [(.ref b_69)])) (fun t k => ?_) ?_
    · refine XS.istore X_73.here hx rfl (hb hby at_110) rfl (l' := #[iv p0, iv p1, iv p2, iv p3, iv p4, iv 2, iv 2, iv x0, iv x1, iv x2, rv sx_66, rv sx_67, rv sx_68, rv b_69, iv 0, iv 1, oU, oU, oU, oU, oU]) rfl ?_
      refine XS.aload X_73.here hx rfl (hb hby at_112) rfl rfl ?_
      exact k
    obtain ⟨cq_74, kq_74, q_74a, q_74b, q_74c⟩ := isOf hZ_71 rfl c669
    obtain ⟨_, _, ⟨T_74, L_74, k_74, n_74⟩, -, X_74, ⟨Lc_74, hQ_74, l_74, y_74, z_74⟩, st_74⟩ := X_73.virtualBack hx (y := own_m22) (z := own_m22) hown_71 (mvT hZ_71 (ow hw 114 rfl)) (mvT hZ_71 (ow hw 115 rfl)) (notFace_of_selects (args := #[]) (mvT hZ_71 (ow hw 117 rfl))) (mvT hZ_71 (ow hw 117 rfl)) (mvT hZ_71 (ow hw 116 rfl)) (by decide) (backOf (W := 0) (rm21 l Z av0 hw [] b_69 (2 : Int32) T_73.heap n0 Z0__73 Fq_73) hZ_71 (ow hw 118 rfl) (ow hw 32 rfl) (by decide) (by decide)) q_74a q_74c (g := (mkF m 114 #[iv p0, iv p1, iv p2, iv p3, iv p4, iv 2, iv 2, iv x0, iv x1, iv x2, rv sx_66, rv sx_67, rv sx_68, rv b_69, iv 0, iv 1, oU, oU, oU, oU, oU] [(.ref b_69)])) rfl (by rw [hml]; rfl) (Steps.refl _) (argsL := []) (rest := []) (lenOf pd_4 rfl) rfl (by show 2 * 0 + _ ≤ _; exact Nat.le_of_eq rfl) (hb hby at_114) (fun _ _ => ⟨rfl, rfl, (by decide : 17 + 0 ≤ _), (by decide : 121 + 0 ≤ _)⟩)
    dsimp only [Pt.U, Pt.locs, Pt.cells, Pt.slots] at X_74 l_74 y_74 z_74 st_74 hQ_74
    subst l_74 y_74 z_74
    obtain ⟨rfl, N_74q, e_74⟩ := hQ_74
    have N_74 := Fr.app N_73 N_74q
    refine og (fun t k => st_74.trans k) ?_
    refine og (B := T_74.setTop (mkF m 121 #[iv p0, iv p1, iv p2, iv p3, iv p4, iv 2, iv 2, iv x0, iv x1, iv x2, rv sx_66, rv sx_67, rv sx_68, rv b_69, iv 0, iv 1, iv 2, oU, oU, oU, oU] [(.ref b_69)])) (fun t k => ?_) ?_
    · refine XS.istore X_74.here hx rfl (hb hby at_117) rfl (l' := #[iv p0, iv p1, iv p2, iv p3, iv p4, iv 2, iv 2, iv x0, iv x1, iv x2, rv sx_66, rv sx_67, rv sx_68, rv b_69, iv 0, iv 1, iv 2, oU, oU, oU, oU]) rfl ?_
      refine XS.aload X_74.here hx rfl (hb hby at_119) rfl rfl ?_
      exact k
    obtain ⟨cq_75, kq_75, q_75a, q_75b, q_75c⟩ := isOf hZ_71 e_74 c669
    obtain ⟨_, _, ⟨T_75, L_75, k_75, n_75⟩, -, X_75, ⟨Lc_75, hQ_75, l_75, y_75, z_75⟩, st_75⟩ := X_74.virtualBack hx (y := own_m17) (z := own_m17) hown_71 (mvT hZ_71 (ow hw 87 rfl)) (mvT hZ_71 (ow hw 88 rfl)) (notFace_of_selects (args := #[]) (mvT hZ_71 (ow hw 90 rfl))) (mvT hZ_71 (ow hw 90 rfl)) (mvT hZ_71 (ow hw 89 rfl)) (by decide) (backOf (W := 0) (rm16 l Z av0 hw [] b_69 (2 : Int32) sx_66 sb_66 sk_66 w (2 : Int32) [(.int (own_byte (nar .char x0))), (.int (own_byte (nar .char x1)))] T_73.heap n0 Z0__73 Fq_73 Ft_73 c657 c658 c659 c656 hw0 c660) hZ_71 (ow hw 91 rfl) (ow hw 32 rfl) (by decide) (by decide)) q_75a q_75c (g := (mkF m 121 #[iv p0, iv p1, iv p2, iv p3, iv p4, iv 2, iv 2, iv x0, iv x1, iv x2, rv sx_66, rv sx_67, rv sx_68, rv b_69, iv 0, iv 1, iv 2, oU, oU, oU, oU] [(.ref b_69)])) rfl (by rw [hml]; rfl) (Steps.refl _) (argsL := []) (rest := []) (lenOf pd_3 rfl) rfl (by show 2 * 0 + _ ≤ _; exact Nat.le_of_eq rfl) (hb hby at_121) (fun _ _ => ⟨rfl, e_74, (by decide : 17 + 0 ≤ _), (by decide : 121 + 0 ≤ _)⟩)
    dsimp only [Pt.U, Pt.locs, Pt.cells, Pt.slots] at X_75 l_75 y_75 z_75 st_75 hQ_75
    subst l_75 y_75 z_75
    obtain ⟨hv_75, N_75q, e_75⟩ := hQ_75
    have N_75 := Fr.app N_74 N_75q
    rw [show own_ge (2 : Int32) (2 : Int32) = (1 : Int32) from by decide] at hv_75
    subst hv_75
    refine og (fun t k => st_75.trans k) ?_
    refine og (B := T_75.setTop (mkF m 130 #[iv p0, iv p1, iv p2, iv p3, iv p4, iv 2, iv 2, iv x0, iv x1, iv x2, rv sx_66, rv sx_67, rv sx_68, rv b_69, iv 0, iv 1, iv 2, iv 1, oU, oU, oU] [(.ref sx_68), (.ref b_69)])) (fun t k => ?_) ?_
    · refine XS.istore X_75.here hx rfl (hb hby at_124) rfl (l' := #[iv p0, iv p1, iv p2, iv p3, iv p4, iv 2, iv 2, iv x0, iv x1, iv x2, rv sx_66, rv sx_67, rv sx_68, rv b_69, iv 0, iv 1, iv 2, iv 1, oU, oU, oU]) rfl ?_
      refine XS.aload X_75.here hx rfl (hb hby at_126) rfl rfl ?_
      refine XS.aload X_75.here hx rfl (hb hby at_128) rfl rfl ?_
      exact k
    obtain ⟨cq_76, kq_76, q_76a, q_76b, q_76c⟩ := isOf hZ_71 e_75 c669
    obtain ⟨_, _, ⟨T_76, L_76, k_76, n_76⟩, -, X_76, ⟨Lc_76, hQ_76, l_76, y_76, z_76⟩, st_76⟩ := X_75.virtualBack hx (y := own_m18) (z := own_m18) hown_71 (mvT hZ_71 (ow hw 95 rfl)) (mvT hZ_71 (ow hw 96 rfl)) (notFace_of_selects (args := #[]) (mvT hZ_71 (ow hw 98 rfl))) (mvT hZ_71 (ow hw 98 rfl)) (mvT hZ_71 (ow hw 97 rfl)) (by decide) (backOf (W := 0) (rmco l Z av0 hw [] b_69 sx_68 sx_66 (2 : Int32) sb_66 sb_68 sk_66 sk_68 w (2 : Int32) (0 : Int32) [(.int (own_byte (nar .char x0))), (.int (own_byte (nar .char x1)))] [] T_73.heap n0 Z0__73 c669 Ft_73 Fq_73 g_b_69 c657 c658 c659 c665 c666 c667 c656 hw0 c660 c668 ne_sx_68_b_69 ne_sb_68_b_69 (by decide) (by decide) (rmmm0 l Z av0 hw [] sb_66 (2 : Int32) sb_68 sk_66 sk_68 (2 : Int32) [(.int (own_byte (nar .char x0))), (.int (own_byte (nar .char x1)))]  T_73.heap n0 Z0__73 c660 c668 )) hZ_71 (ow hw 99 rfl) (ow hw 32 rfl) (by decide) (by decide)) q_76a q_76c (g := (mkF m 130 #[iv p0, iv p1, iv p2, iv p3, iv p4, iv 2, iv 2, iv x0, iv x1, iv x2, rv sx_66, rv sx_67, rv sx_68, rv b_69, iv 0, iv 1, iv 2, iv 1, oU, oU, oU] [(.ref sx_68), (.ref b_69)])) rfl (by rw [hml]; rfl) (Steps.refl _) (argsL := [(.ref sx_68)]) (rest := []) (lenOf pd_15 rfl) rfl (by show 2 * 0 + _ ≤ _; exact Nat.le_of_eq rfl) (hb hby at_130) (fun _ _ => ⟨rfl, e_75, (by decide : 17 + 0 ≤ _), (by decide : 121 + 0 ≤ _)⟩)
    dsimp only [Pt.U, Pt.locs, Pt.cells, Pt.slots] at X_76 l_76 y_76 z_76 st_76 hQ_76
    subst l_76 y_76 z_76
    obtain ⟨rfl, N_76q, K_76, Fp_76, Ft_76⟩ := hQ_76
    have N_76 := Fr.app N_75 N_76q
    have c670 := Safe.keep K_76 (allS c652 all0) c653.1 c652
    have c671 := c653.trans (CHr.keep K_76 (allS c652 all0) c653.1)
    have c672 := Nat.le_trans c654 K_76.1
    have c673 := c655.trans K_76 (allS (Or.inr sz_b_69) all0)
    have c674 := own_stake c656 K_76 c669
    have c675 := c657.keep K_76
    have c676 := c658.keep K_76 (ninS ne_sx_66_b_69 nin0)
    have c677 := c659.keep K_76 (ninS ne_sx_66_b_69 nin0)
    have c678 := c660.keep K_76 (ninS ne_sb_66_b_69 nin0)
    have c679 := c661.keep K_76
    have c680 := c662.keep K_76 (ninS ne_sx_67_b_69 nin0)
    have c681 := c663.keep K_76 (ninS ne_sx_67_b_69 nin0)
    have c682 := c664.keep K_76 (ninS ne_sb_67_b_69 nin0)
    have c683 := c665.keep K_76
    have c684 := c666.keep K_76 (ninS ne_sx_68_b_69 nin0)
    have c685 := c667.keep K_76 (ninS ne_sx_68_b_69 nin0)
    have c686 := c668.keep K_76 (ninS ne_sb_68_b_69 nin0)
    have c687 := c669.keep K_76
    have Z0__76 : n0 ≤ T_76.heap.size := Nat.le_trans Z0__73 K_76.1
    have Fq_76 : Fld Z T_76.heap b_69 "com/example/cutoff/cutoff/store/TextCursor" "position" "I" (.int (2 : Int32)) := Fp_76
    refine og (fun t k => st_76.trans k) ?_
    refine og (B := T_76.setTop (mkF m 137 #[iv p0, iv p1, iv p2, iv p3, iv p4, iv 2, iv 2, iv x0, iv x1, iv x2, rv sx_66, rv sx_67, rv sx_68, rv b_69, iv 0, iv 1, iv 2, iv 1, iv 1, oU, oU] [(.ref b_69)])) (fun t k => ?_) ?_
    · refine XS.istore X_76.here hx rfl (hb hby at_133) rfl (l' := #[iv p0, iv p1, iv p2, iv p3, iv p4, iv 2, iv 2, iv x0, iv x1, iv x2, rv sx_66, rv sx_67, rv sx_68, rv b_69, iv 0, iv 1, iv 2, iv 1, iv 1, oU, oU]) rfl ?_
      refine XS.aload X_76.here hx rfl (hb hby at_135) rfl rfl ?_
      exact k
    obtain ⟨cq_77, kq_77, q_77a, q_77b, q_77c⟩ := isOf hZ_71 rfl c687
    obtain ⟨_, _, ⟨T_77, L_77, k_77, n_77⟩, -, X_77, ⟨Lc_77, hQ_77, l_77, y_77, z_77⟩, st_77⟩ := X_76.virtualBack hx (y := own_m22) (z := own_m22) hown_71 (mvT hZ_71 (ow hw 114 rfl)) (mvT hZ_71 (ow hw 115 rfl)) (notFace_of_selects (args := #[]) (mvT hZ_71 (ow hw 117 rfl))) (mvT hZ_71 (ow hw 117 rfl)) (mvT hZ_71 (ow hw 116 rfl)) (by decide) (backOf (W := 0) (rm21 l Z av0 hw [] b_69 (2 : Int32) T_76.heap n0 Z0__76 Fq_76) hZ_71 (ow hw 118 rfl) (ow hw 32 rfl) (by decide) (by decide)) q_77a q_77c (g := (mkF m 137 #[iv p0, iv p1, iv p2, iv p3, iv p4, iv 2, iv 2, iv x0, iv x1, iv x2, rv sx_66, rv sx_67, rv sx_68, rv b_69, iv 0, iv 1, iv 2, iv 1, iv 1, oU, oU] [(.ref b_69)])) rfl (by rw [hml]; rfl) (Steps.refl _) (argsL := []) (rest := []) (lenOf pd_4 rfl) rfl (by show 2 * 0 + _ ≤ _; exact Nat.le_of_eq rfl) (hb hby at_137) (fun _ _ => ⟨rfl, rfl, (by decide : 17 + 0 ≤ _), (by decide : 121 + 0 ≤ _)⟩)
    dsimp only [Pt.U, Pt.locs, Pt.cells, Pt.slots] at X_77 l_77 y_77 z_77 st_77 hQ_77
    subst l_77 y_77 z_77
    obtain ⟨rfl, N_77q, e_77⟩ := hQ_77
    have N_77 := Fr.app N_76 N_77q
    refine og (fun t k => st_77.trans k) ?_
    refine og (B := T_77.setTop (mkF m 144 #[iv p0, iv p1, iv p2, iv p3, iv p4, iv 2, iv 2, iv x0, iv x1, iv x2, rv sx_66, rv sx_67, rv sx_68, rv b_69, iv 0, iv 1, iv 2, iv 1, iv 1, iv 2, oU] [(.ref b_69)])) (fun t k => ?_) ?_
    · refine XS.istore X_77.here hx rfl (hb hby at_140) rfl (l' := #[iv p0, iv p1, iv p2, iv p3, iv p4, iv 2, iv 2, iv x0, iv x1, iv x2, rv sx_66, rv sx_67, rv sx_68, rv b_69, iv 0, iv 1, iv 2, iv 1, iv 1, iv 2, oU]) rfl ?_
      refine XS.aload X_77.here hx rfl (hb hby at_142) rfl rfl ?_
      exact k
    obtain ⟨cq_78, kq_78, q_78a, q_78b, q_78c⟩ := isOf hZ_71 e_77 c687
    obtain ⟨_, _, ⟨T_78, L_78, k_78, n_78⟩, -, X_78, ⟨Lc_78, hQ_78, l_78, y_78, z_78⟩, st_78⟩ := X_77.virtualBack hx (y := own_m17) (z := own_m17) hown_71 (mvT hZ_71 (ow hw 87 rfl)) (mvT hZ_71 (ow hw 88 rfl)) (notFace_of_selects (args := #[]) (mvT hZ_71 (ow hw 90 rfl))) (mvT hZ_71 (ow hw 90 rfl)) (mvT hZ_71 (ow hw 89 rfl)) (by decide) (backOf (W := 0) (rm16 l Z av0 hw [] b_69 (2 : Int32) sx_66 sb_66 sk_66 w (2 : Int32) [(.int (own_byte (nar .char x0))), (.int (own_byte (nar .char x1)))] T_76.heap n0 Z0__76 Fq_76 Ft_76 c675 c676 c677 c674 hw0 c678) hZ_71 (ow hw 91 rfl) (ow hw 32 rfl) (by decide) (by decide)) q_78a q_78c (g := (mkF m 144 #[iv p0, iv p1, iv p2, iv p3, iv p4, iv 2, iv 2, iv x0, iv x1, iv x2, rv sx_66, rv sx_67, rv sx_68, rv b_69, iv 0, iv 1, iv 2, iv 1, iv 1, iv 2, oU] [(.ref b_69)])) rfl (by rw [hml]; rfl) (Steps.refl _) (argsL := []) (rest := []) (lenOf pd_3 rfl) rfl (by show 2 * 0 + _ ≤ _; exact Nat.le_of_eq rfl) (hb hby at_144) (fun _ _ => ⟨rfl, e_77, (by decide : 17 + 0 ≤ _), (by decide : 121 + 0 ≤ _)⟩)
    dsimp only [Pt.U, Pt.locs, Pt.cells, Pt.slots] at X_78 l_78 y_78 z_78 st_78 hQ_78
    subst l_78 y_78 z_78
    obtain ⟨hv_78, N_78q, e_78⟩ := hQ_78
    have N_78 := Fr.app N_77 N_78q
    rw [show own_ge (2 : Int32) (2 : Int32) = (1 : Int32) from by decide] at hv_78
    subst hv_78
    refine og (fun t k => st_78.trans k) ?_
    refine og (B := T_78.setTop (mkF m 153 #[iv p0, iv p1, iv p2, iv p3, iv p4, iv 2, iv 2, iv x0, iv x1, iv x2, rv sx_66, rv sx_67, rv sx_68, rv b_69, iv 0, iv 1, iv 2, iv 1, iv 1, iv 2, iv 1] [(.int 2), (.int 0)])) (fun t k => ?_) ?_
    · refine XS.istore X_78.here hx rfl (hb hby at_147) rfl (l' := #[iv p0, iv p1, iv p2, iv p3, iv p4, iv 2, iv 2, iv x0, iv x1, iv x2, rv sx_66, rv sx_67, rv sx_68, rv b_69, iv 0, iv 1, iv 2, iv 1, iv 1, iv 2, iv 1]) rfl ?_
      refine XS.iload X_78.here hx rfl (hb hby at_149) rfl ?_
      refine XS.iload X_78.here hx rfl (hb hby at_151) rfl ?_
      exact k
    refine og (B := T_78.setTop (mkF m 160 #[iv p0, iv p1, iv p2, iv p3, iv p4, iv 2, iv 2, iv x0, iv x1, iv x2, rv sx_66, rv sx_67, rv sx_68, rv b_69, iv 0, iv 1, iv 2, iv 1, iv 1, iv 2, iv 1] [(.int 0)])) (fun t k => ?_) ?_
    · refine XS.ifYes X_78.here hx rfl (pc0 := 153) (pc' := 160) rfl (hb hby at_153) rfl ((if0 _ _).trans (feq (by decide : ¬ ((2 : Int32) = (0 : Int32)))).2) (by decide) (by decide) ?_
      exact k
    refine og (B := T_78.setTop (mkF m 161 #[iv p0, iv p1, iv p2, iv p3, iv p4, iv 2, iv 2, iv x0, iv x1, iv x2, rv sx_66, rv sx_67, rv sx_68, rv b_69, iv 0, iv 1, iv 2, iv 1, iv 1, iv 2, iv 1] [(.int 0), (.int 0)])) (fun t k => ?_) ?_
    · refine XS.iconst X_78.here hx rfl (hb hby at_160) ?_
      exact k
    refine og (B := T_78.setTop (mkF m 164 #[iv p0, iv p1, iv p2, iv p3, iv p4, iv 2, iv 2, iv x0, iv x1, iv x2, rv sx_66, rv sx_67, rv sx_68, rv b_69, iv 0, iv 1, iv 2, iv 1, iv 1, iv 2, iv 1] [])) (fun t k => ?_) ?_
    · refine XS.icmpNo X_78.here hx rfl (hb hby at_161) rfl (teq (by decide : (0 : Int32) = (0 : Int32))).2 ?_
      exact k
    refine og (B := T_78.setTop (mkF m 166 #[iv p0, iv p1, iv p2, iv p3, iv p4, iv 2, iv 2, iv x0, iv x1, iv x2, rv sx_66, rv sx_67, rv sx_68, rv b_69, iv 0, iv 1, iv 2, iv 1, iv 1, iv 2, iv 1] [(.int 1)])) (fun t k => ?_) ?_
    · refine XS.iload X_78.here hx rfl (hb hby at_164) rfl ?_
      exact k
    refine og (B := T_78.setTop (mkF m 169 #[iv p0, iv p1, iv p2, iv p3, iv p4, iv 2, iv 2, iv x0, iv x1, iv x2, rv sx_66, rv sx_67, rv sx_68, rv b_69, iv 0, iv 1, iv 2, iv 1, iv 1, iv 2, iv 1] [])) (fun t k => ?_) ?_
    · refine XS.ifNo X_78.here hx rfl (hb hby at_166) rfl ((if0 _ _).trans (feq (by decide : ¬ ((1 : Int32) = (0 : Int32)))).1) ?_
      exact k
    refine og (B := T_78.setTop (mkF m 173 #[iv p0, iv p1, iv p2, iv p3, iv p4, iv 2, iv 2, iv x0, iv x1, iv x2, rv sx_66, rv sx_67, rv sx_68, rv b_69, iv 0, iv 1, iv 2, iv 1, iv 1, iv 2, iv 1] [(.int 2), (.int 2)])) (fun t k => ?_) ?_
    · refine XS.iload X_78.here hx rfl (hb hby at_169) rfl ?_
      refine XS.iload X_78.here hx rfl (hb hby at_171) rfl ?_
      exact k
    refine og (B := T_78.setTop (mkF m 176 #[iv p0, iv p1, iv p2, iv p3, iv p4, iv 2, iv 2, iv x0, iv x1, iv x2, rv sx_66, rv sx_67, rv sx_68, rv b_69, iv 0, iv 1, iv 2, iv 1, iv 1, iv 2, iv 1] [])) (fun t k => ?_) ?_
    · refine XS.icmpNo X_78.here hx rfl (hb hby at_173) rfl (teq (by decide : (2 : Int32) = (2 : Int32))).2 ?_
      exact k
    refine og (B := T_78.setTop (mkF m 182 #[iv p0, iv p1, iv p2, iv p3, iv p4, iv 2, iv 2, iv x0, iv x1, iv x2, rv sx_66, rv sx_67, rv sx_68, rv b_69, iv 0, iv 1, iv 2, iv 1, iv 1, iv 2, iv 1] [(.int 2), (.int 2), (.int 1)])) (fun t k => ?_) ?_
    · refine XS.iload X_78.here hx rfl (hb hby at_176) rfl ?_
      refine XS.iload X_78.here hx rfl (hb hby at_178) rfl ?_
      refine XS.iload X_78.here hx rfl (hb hby at_180) rfl ?_
      exact k
    refine og (B := T_78.setTop (mkF m 185 #[iv p0, iv p1, iv p2, iv p3, iv p4, iv 2, iv 2, iv x0, iv x1, iv x2, rv sx_66, rv sx_67, rv sx_68, rv b_69, iv 0, iv 1, iv 2, iv 1, iv 1, iv 2, iv 1] [(.int 1)])) (fun t k => ?_) ?_
    · refine XS.icmpNo X_78.here hx rfl (hb hby at_182) rfl (teq (by decide : (2 : Int32) = (2 : Int32))).2 ?_
      exact k
    refine og (B := T_78.setTop (mkF m 190 #[iv p0, iv p1, iv p2, iv p3, iv p4, iv 2, iv 2, iv x0, iv x1, iv x2, rv sx_66, rv sx_67, rv sx_68, rv b_69, iv 0, iv 1, iv 2, iv 1, iv 1, iv 2, iv 1] [(.int 1), (.int 1)])) (fun t k => ?_) ?_
    · refine XS.iconst X_78.here hx rfl (hb hby at_185) ?_
      refine XS.goto X_78.here hx rfl (pc0 := 186) (pc' := 190) rfl (hb hby at_186) (by decide) (by decide) ?_
      exact k
    refine og (B := T_78.setTop (mkF m 193 #[iv p0, iv p1, iv p2, iv p3, iv p4, iv 2, iv 2, iv x0, iv x1, iv x2, rv sx_66, rv sx_67, rv sx_68, rv b_69, iv 0, iv 1, iv 2, iv 1, iv 1, iv 2, iv 1] [])) (fun t k => ?_) ?_
    · refine XS.icmpNo X_78.here hx rfl (hb hby at_190) rfl (teq (by decide : (1 : Int32) = (1 : Int32))).2 ?_
      exact k
    refine og (B := T_78.setTop (mkF m 195 #[iv p0, iv p1, iv p2, iv p3, iv p4, iv 2, iv 2, iv x0, iv x1, iv x2, rv sx_66, rv sx_67, rv sx_68, rv b_69, iv 0, iv 1, iv 2, iv 1, iv 1, iv 2, iv 1] [(.int 1)])) (fun t k => ?_) ?_
    · refine XS.iload X_78.here hx rfl (hb hby at_193) rfl ?_
      exact k
    refine og (B := T_78.setTop (mkF m 198 #[iv p0, iv p1, iv p2, iv p3, iv p4, iv 2, iv 2, iv x0, iv x1, iv x2, rv sx_66, rv sx_67, rv sx_68, rv b_69, iv 0, iv 1, iv 2, iv 1, iv 1, iv 2, iv 1] [])) (fun t k => ?_) ?_
    · refine XS.ifNo X_78.here hx rfl (hb hby at_195) rfl ((if0 _ _).trans (feq (by decide : ¬ ((1 : Int32) = (0 : Int32)))).1) ?_
      exact k
    refine og (B := T_78.setTop (mkF m 202 #[iv p0, iv p1, iv p2, iv p3, iv p4, iv 2, iv 2, iv x0, iv x1, iv x2, rv sx_66, rv sx_67, rv sx_68, rv b_69, iv 0, iv 1, iv 2, iv 1, iv 1, iv 2, iv 1] [(.int 2), (.int 2)])) (fun t k => ?_) ?_
    · refine XS.iload X_78.here hx rfl (hb hby at_198) rfl ?_
      refine XS.iload X_78.here hx rfl (hb hby at_200) rfl ?_
      exact k
    refine og (B := T_78.setTop (mkF m 205 #[iv p0, iv p1, iv p2, iv p3, iv p4, iv 2, iv 2, iv x0, iv x1, iv x2, rv sx_66, rv sx_67, rv sx_68, rv b_69, iv 0, iv 1, iv 2, iv 1, iv 1, iv 2, iv 1] [])) (fun t k => ?_) ?_
    · refine XS.icmpNo X_78.here hx rfl (hb hby at_202) rfl (teq (by decide : (2 : Int32) = (2 : Int32))).2 ?_
      exact k
    refine og (B := T_78.setTop (mkF m 207 #[iv p0, iv p1, iv p2, iv p3, iv p4, iv 2, iv 2, iv x0, iv x1, iv x2, rv sx_66, rv sx_67, rv sx_68, rv b_69, iv 0, iv 1, iv 2, iv 1, iv 1, iv 2, iv 1] [(.int 1)])) (fun t k => ?_) ?_
    · refine XS.iload X_78.here hx rfl (hb hby at_205) rfl ?_
      exact k
    refine og (B := T_78.setTop (mkF m 210 #[iv p0, iv p1, iv p2, iv p3, iv p4, iv 2, iv 2, iv x0, iv x1, iv x2, rv sx_66, rv sx_67, rv sx_68, rv b_69, iv 0, iv 1, iv 2, iv 1, iv 1, iv 2, iv 1] [])) (fun t k => ?_) ?_
    · refine XS.ifNo X_78.here hx rfl (hb hby at_207) rfl ((if0 _ _).trans (feq (by decide : ¬ ((1 : Int32) = (0 : Int32)))).1) ?_
      exact k
    refine og (B := T_78.setTop (mkF m 215 #[iv p0, iv p1, iv p2, iv p3, iv p4, iv 2, iv 2, iv x0, iv x1, iv x2, rv sx_66, rv sx_67, rv sx_68, rv b_69, iv 0, iv 1, iv 2, iv 1, iv 1, iv 2, iv 1] [(.int 1)])) (fun t k => ?_) ?_
    · refine XS.iconst X_78.here hx rfl (hb hby at_210) ?_
      refine XS.goto X_78.here hx rfl (pc0 := 211) (pc' := 215) rfl (hb hby at_211) (by decide) (by decide) ?_
      exact k
    obtain ⟨fs, hr, hrun, hended, hRW⟩ := X_78.leaveW Si_71 (by rw [e_78]; exact c672) (v := some (.int 1)) (fun h => by rw [Bd.returns] at h; cases h)
    refine ⟨_, _, ?_, hrun, hended, _, _, rfl, ?_, hRW.1, hRW.2.1, hRW.2.2.1, hRW.2.2.2.mono (by decide) (by decide)⟩
    · show Steps p.tables e below (T_78.setTop (mkF m 215 #[iv p0, iv p1, iv p2, iv p3, iv p4, iv 2, iv 2, iv x0, iv x1, iv x2, rv sx_66, rv sx_67, rv sx_68, rv b_69, iv 0, iv 1, iv 2, iv 1, iv 1, iv 2, iv 1] [(.int 1)])) _
      exact retN X_78 hx (t := .boolean) Bd.returns (by simp) (hb hby at_215) hr
    · show Q0 Z p0 p1 p2 p3 p4 w h0 n0 _ T_78.heap _
      rw [e_78]
      exact ⟨rfl, N_78, trivial⟩
  · show ∃ s₂ o, Steps p.tables e below (s₁.setTop (mkF m 49 #[iv p0, iv p1, iv p2, iv p3, iv p4, iv 3, iv 0, iv x0, iv x1, iv x2, oU, oU, oU, oU, oU, oU, oU, oU, oU, oU, oU] [(.int 3), (.int x2), (.int x1), (.int x0)])) s₂ ∧ _
    have kk_79 := K0
    obtain ⟨_, _, ⟨T_79, L_79, k_79, n_79⟩, -, X_79, ⟨Lc_79, hQ_79, l_79, y_79, z_79⟩, st_79⟩ := Jvm.LawKit.callS X0 hx (y := own_m2) hown (mvT hZ (ow hw 1 rfl)) (mvT hZ (ow hw 2 rfl)) (mvT hZ (ow hw 3 rfl)) (mvT hZ (ow hw 4 rfl)) (by decide) (backOf (W := 0) (rmstr3 l Z av0 hw [] x0 x1 x2 w h0 n0 Z0 S_COMPACT_STRINGS hw0 hxq0 hxq1 hxq2) hZ (ow hw 4 rfl) (ow hw 3 rfl) (by decide) (by decide)) (g := (mkF m 49 #[iv p0, iv p1, iv p2, iv p3, iv p4, iv 3, iv 0, iv x0, iv x1, iv x2, oU, oU, oU, oU, oU, oU, oU, oU, oU, oU, oU] [(.int 3), (.int x2), (.int x1), (.int x0)])) rfl (by rw [hml]; rfl) (argsL := [(.int x0), (.int x1), (.int x2), (.int 3)]) (rest := []) (lenOf pd_11 rfl) rfl (by show 2 * 0 + _ ≤ _; exact Nat.le_of_eq rfl) (hb hby at_49) (fun _ _ => ⟨rfl, e0, (by decide : 0 + 3 ≤ _), (by decide : 0 + 10 ≤ _)⟩)
    dsimp only [Pt.U, Pt.locs, Pt.cells, Pt.slots] at X_79 l_79 y_79 z_79 st_79 hQ_79
    subst l_79 y_79 z_79
    obtain ⟨sx_79, sb_79, sk_79, rfl, N_79q, K_79, szq_79, sE_79, sc_79, sv_79, sV_79⟩ := hQ_79
    have N_79 := Fr.app N0 N_79q
    have c688 := H1.trans (CHr.keep K_79 all0 H1.1)
    have c689 := K0.trans K_79 all0
    have c690 := own_stak S_COMPACT_STRINGS K_79
    have Z0__79 : n0 ≤ T_79.heap.size := Nat.le_trans Z0 K_79.1
    have sz_sx_79 : h0.size ≤ sx_79 := Nat.le_trans kk_79.1 szq_79
    refine og (fun t k => st_79 t k) ?_
    refine og (B := T_79.setTop (mkF m 62 #[iv p0, iv p1, iv p2, iv p3, iv p4, iv 3, iv 0, iv x0, iv x1, iv x2, rv sx_79, oU, oU, oU, oU, oU, oU, oU, oU, oU, oU] [(.int 0), (.int x2), (.int x1), (.int x0)])) (fun t k => ?_) ?_
    · refine XS.astore X_79.here hx rfl (hb hby at_52) rfl rfl (l' := #[iv p0, iv p1, iv p2, iv p3, iv p4, iv 3, iv 0, iv x0, iv x1, iv x2, rv sx_79, oU, oU, oU, oU, oU, oU, oU, oU, oU, oU]) rfl ?_
      refine XS.iload X_79.here hx rfl (hb hby at_54) rfl ?_
      refine XS.iload X_79.here hx rfl (hb hby at_56) rfl ?_
      refine XS.iload X_79.here hx rfl (hb hby at_58) rfl ?_
      refine XS.iload X_79.here hx rfl (hb hby at_60) rfl ?_
      exact k
    have kk_80 := c689
    obtain ⟨_, _, ⟨T_80, L_80, k_80, n_80⟩, -, Xb_80, Sb_80, gs_80, ⟨Lc_80, hQ_80, l_80, y_80, z_80, CH_80⟩, st_80⟩ := callSS (show Stand p l e room_1 (s.setVm s.vm) m #[(.int p0), (.int p1), (.int p2), (.int p3), (.int p4)] below meth c T_79 _ _ _ from X_79) hx (y := own_m2) hown (mvT hZ (ow hw 1 rfl)) (mvT hZ (ow hw 2 rfl)) (mvT hZ (ow hw 3 rfl)) (mvT hZ (ow hw 4 rfl)) (by decide) (backOfSH (s := s) (vm0 := s.vm) (W := 0) (rmstr0 l Z av0 hw [] x0 x1 x2  T_79.heap n0 Z0__79 hEL) hZ (ow hw 4 rfl) (ow hw 3 rfl) (by decide) (by decide) hEL c688.1) (g := (mkF m 62 #[iv p0, iv p1, iv p2, iv p3, iv p4, iv 3, iv 0, iv x0, iv x1, iv x2, rv sx_79, oU, oU, oU, oU, oU, oU, oU, oU, oU, oU] [(.int 0), (.int x2), (.int x1), (.int x0)])) rfl (by rw [hml]; rfl) (argsL := [(.int x0), (.int x1), (.int x2), (.int 0)]) (rest := []) (lenOf pd_11 rfl) rfl (by show 2 * 0 + _ ≤ _; exact Nat.le_of_eq rfl) (hb hby at_62) (fun _ _ => ⟨rfl, rfl, (by decide : 3 + 6 ≤ _), (by decide : 10 + 12 ≤ _)⟩)
    dsimp only [Pt.U, Pt.locs, Pt.cells, Pt.slots] at Xb_80 Sb_80 gs_80 l_80 y_80 z_80 st_80 hQ_80 CH_80
    subst l_80 y_80 z_80
    obtain ⟨sx_80, sb_80, sk_80, rfl, N_80q, K_80, szq_80, sE_80, sc_80, sv_80, sV_80⟩ := hQ_80
    have N_80 := Fr.app N_79 N_80q
    obtain ⟨X_80, Si_80, hZ_80, hown_80⟩ := rebS (s := s) (vm0 := s.vm) ((State.WarmedH.refl s).since 0) (Nat.zero_le 0) Xb_80 Sb_80 (Nat.zero_le _) hZ hown
    have c691 := c688.trans CH_80
    have c692 := c689.trans K_80 all0
    have c693 := own_stak c690 K_80
    have c694 := sE_79.keep K_80
    have c695 := sc_79.keep K_80 nin0
    have c696 := sv_79.keep K_80 nin0
    have c697 := sV_79.keep K_80 nin0
    have Z0__80 : n0 ≤ T_80.heap.size := Nat.le_trans Z0__79 K_80.1
    have sz_sx_80 : h0.size ≤ sx_80 := Nat.le_trans kk_80.1 szq_80
    refine og (fun t k => st_80.trans k) ?_
    refine og (B := T_80.setTop (mkF m 77 #[iv p0, iv p1, iv p2, iv p3, iv p4, iv 3, iv 0, iv x0, iv x1, iv x2, rv sx_79, rv sx_80, oU, oU, oU, oU, oU, oU, oU, oU, oU] [(.int 3), (.int 0), (.int x2), (.int x1), (.int x0)])) (fun t k => ?_) ?_
    · refine XS.astore X_80.here hx rfl (hb hby at_65) rfl rfl (l' := #[iv p0, iv p1, iv p2, iv p3, iv p4, iv 3, iv 0, iv x0, iv x1, iv x2, rv sx_79, rv sx_80, oU, oU, oU, oU, oU, oU, oU, oU, oU]) rfl ?_
      refine XS.iload X_80.here hx rfl (hb hby at_67) rfl ?_
      refine XS.iload X_80.here hx rfl (hb hby at_69) rfl ?_
      refine XS.iload X_80.here hx rfl (hb hby at_71) rfl ?_
      refine XS.iload X_80.here hx rfl (hb hby at_73) rfl ?_
      refine XS.iload X_80.here hx rfl (hb hby at_75) rfl ?_
      exact k
    have kk_81 := c692
    obtain ⟨_, _, ⟨T_81, L_81, k_81, n_81⟩, -, X_81, ⟨Lc_81, hQ_81, l_81, y_81, z_81⟩, st_81⟩ := Jvm.LawKit.callS X_80 hx (y := own_m6) hown_80 (mvT hZ_80 (ow hw 27 rfl)) (mvT hZ_80 (ow hw 28 rfl)) (mvT hZ_80 (ow hw 3 rfl)) (mvT hZ_80 (ow hw 29 rfl)) (by decide) (backOf (W := 0) (rmsfx0_3 l Z av0 hw [] x0 x1 x2 w T_80.heap n0 Z0__80 c693 hw0 hxq0 hxq1 hxq2) hZ_80 (ow hw 29 rfl) (ow hw 3 rfl) (by decide) (by decide)) (g := (mkF m 77 #[iv p0, iv p1, iv p2, iv p3, iv p4, iv 3, iv 0, iv x0, iv x1, iv x2, rv sx_79, rv sx_80, oU, oU, oU, oU, oU, oU, oU, oU, oU] [(.int 3), (.int 0), (.int x2), (.int x1), (.int x0)])) rfl (by rw [hml]; rfl) (argsL := [(.int x0), (.int x1), (.int x2), (.int 0), (.int 3)]) (rest := []) (lenOf pd_16 rfl) rfl (by show 2 * 0 + _ ≤ _; exact Nat.le_of_eq rfl) (hb hby at_77) (fun _ _ => ⟨rfl, rfl, (by decide : 9 + 3 ≤ _), (by decide : 22 + 10 ≤ _)⟩)
    dsimp only [Pt.U, Pt.locs, Pt.cells, Pt.slots] at X_81 l_81 y_81 z_81 st_81 hQ_81
    subst l_81 y_81 z_81
    obtain ⟨sx_81, sb_81, sk_81, rfl, N_81q, K_81, szq_81, sE_81, sc_81, sv_81, sV_81⟩ := hQ_81
    have N_81 := Fr.app N_80 N_81q
    have c698 := c691.trans (CHr.keep K_81 all0 c691.1)
    have c699 := Nat.le_trans (Nat.le_refl _) K_81.1
    have c700 := c692.trans K_81 all0
    have c701 := own_stak c693 K_81
    have c702 := c694.keep K_81
    have c703 := c695.keep K_81 nin0
    have c704 := c696.keep K_81 nin0
    have c705 := c697.keep K_81 nin0
    have c706 := sE_80.keep K_81
    have c707 := sc_80.keep K_81 nin0
    have c708 := sv_80.keep K_81 nin0
    have c709 := sV_80.keep K_81 nin0
    have Z0__81 : n0 ≤ T_81.heap.size := Nat.le_trans Z0__80 K_81.1
    have sz_sx_81 : h0.size ≤ sx_81 := Nat.le_trans kk_81.1 szq_81
    refine og (fun t k => st_81 t k) ?_
    refine og (B := T_81.setTop (mkF m 82 #[iv p0, iv p1, iv p2, iv p3, iv p4, iv 3, iv 0, iv x0, iv x1, iv x2, rv sx_79, rv sx_80, rv sx_81, oU, oU, oU, oU, oU, oU, oU, oU] [])) (fun t k => ?_) ?_
    · refine XS.astore X_81.here hx rfl (hb hby at_80) rfl rfl (l' := #[iv p0, iv p1, iv p2, iv p3, iv p4, iv 3, iv 0, iv x0, iv x1, iv x2, rv sx_79, rv sx_80, rv sx_81, oU, oU, oU, oU, oU, oU, oU, oU]) rfl ?_
      exact k
    obtain ⟨T_82, h_82, X_82, e_82, E_82, A_82, D_82, -, st_82⟩ := newO X_81 hx hZ_80 hown_80 (ow hw 30 rfl) (ow hw 31 rfl) (ow hw 32 rfl) rfl (g := (mkF m 82 #[iv p0, iv p1, iv p2, iv p3, iv p4, iv 3, iv 0, iv x0, iv x1, iv x2, rv sx_79, rv sx_80, rv sx_81, oU, oU, oU, oU, oU, oU, oU, oU] [])) rfl (hb hby at_82) (by decide) (by decide)
    obtain ⟨b_82, g_82⟩ : ∃ z, z = T_81.heap.size := ⟨_, rfl⟩
    rw [← g_82] at A_82 D_82 st_82
    have g_b_82 : n0 ≤ b_82 := Nat.le_trans Z0__81 (Nat.le_of_eq g_82.symm)
    have sz_b_82 : h0.size ≤ b_82 := Nat.le_trans c700.1 (Nat.le_of_eq g_82.symm)
    have sf_b_82 : Safe Z own_EL T_80.vm T_81.heap b_82 := Safe.new (Nat.le_of_eq g_82.symm)
    have ne_sx_79_b_82 : sx_79 ≠ b_82 := Nat.ne_of_lt (Nat.lt_of_lt_of_le (c702).lt (Nat.le_of_eq g_82.symm))
    have ne_sb_79_b_82 : sb_79 ≠ b_82 := Nat.ne_of_lt (Nat.lt_of_lt_of_le (c705).lt (Nat.le_of_eq g_82.symm))
    have ne_sx_80_b_82 : sx_80 ≠ b_82 := Nat.ne_of_lt (Nat.lt_of_lt_of_le (c706).lt (Nat.le_of_eq g_82.symm))
    have ne_sb_80_b_82 : sb_80 ≠ b_82 := Nat.ne_of_lt (Nat.lt_of_lt_of_le (c709).lt (Nat.le_of_eq g_82.symm))
    have ne_sx_81_b_82 : sx_81 ≠ b_82 := Nat.ne_of_lt (Nat.lt_of_lt_of_le (sE_81).lt (Nat.le_of_eq g_82.symm))
    have ne_sb_81_b_82 : sb_81 ≠ b_82 := Nat.ne_of_lt (Nat.lt_of_lt_of_le (sV_81).lt (Nat.le_of_eq g_82.symm))
    have c710 := Safe.ext E_82 c698.1 sf_b_82
    have c711 := c698.trans (CHr.ext E_82 c698.1)
    have c712 := Nat.le_trans c699 E_82.1
    have c713 := c700.ext E_82
    have c714 := c701.ext E_82
    have c715 := c702.ext E_82
    have c716 := c703.ext E_82
    have c717 := c704.ext E_82
    have c718 := c705.ext E_82
    have c719 := c706.ext E_82
    have c720 := c707.ext E_82
    have c721 := c708.ext E_82
    have c722 := c709.ext E_82
    have c723 := sE_81.ext E_82
    have c724 := sc_81.ext E_82
    have c725 := sv_81.ext E_82
    have c726 := sV_81.ext E_82
    have Z0__82 : n0 ≤ h_82.size := Nat.le_trans Z0__81 E_82.1
    have F_source_b_82 : Fld Z h_82 b_82 "com/example/cutoff/cutoff/store/TextCursor" "source" "Ljava/lang/String;" .null := D_82 (Or.inr (ow hw 39 rfl)) (ty := (.object "java/lang/String")) (by decide)
    have F_text_b_82 : Fld Z h_82 b_82 "com/example/cutoff/cutoff/store/TextCursor" "text" "Ljava/lang/String;" .null := D_82 (Or.inr (ow hw 41 rfl)) (ty := (.object "java/lang/String")) (by decide)
    have F_firstLine_b_82 : Fld Z h_82 b_82 "com/example/cutoff/cutoff/store/TextCursor" "firstLine" "I" (.int 0) := D_82 (Or.inr (ow hw 43 rfl)) (ty := .int) (by decide)
    have F_end_b_82 : Fld Z h_82 b_82 "com/example/cutoff/cutoff/store/TextCursor" "end" "Ljava/lang/String;" .null := D_82 (Or.inr (ow hw 86 rfl)) (ty := (.object "java/lang/String")) (by decide)
    have F_position_b_82 : Fld Z h_82 b_82 "com/example/cutoff/cutoff/store/TextCursor" "position" "I" (.int 0) := D_82 (Or.inl (ow hw 93 rfl)) (ty := .int) (by decide)
    refine og (fun t k => st_82 t k) ?_
    refine og (B := T_82.setTop (mkF m 86 #[iv p0, iv p1, iv p2, iv p3, iv p4, iv 3, iv 0, iv x0, iv x1, iv x2, rv sx_79, rv sx_80, rv sx_81, oU, oU, oU, oU, oU, oU, oU, oU] [(.ref b_82), (.ref b_82)])) (fun t k => ?_) ?_
    · refine XS.dup X_82.here hx rfl (hb hby at_85) rfl rfl ?_
      exact k
    have wS_83 := own_wS hw
    obtain ⟨b_83, T_83, h_83, k1_83, d_83, kc_83, X_83, e_83, E_83, Si_83, ls_83, hZ_83, hown_83, A_83, Fc_83, Fv_83, V_83, -, -, CH_83, -, NE_83, st_83⟩ := ldcCH (s := s) (vm0 := T_80.vm) X_82 hx hZ_80 hown_80 (ow hw 33 rfl) wS_83 e_82 Si_80 c712 hEL (List.mem_of_getElem? (i := 1) rfl) c711.1 (vs := [(.int (115 : Int32))]) (z := (1 : Int32)) ⟨by decide, rfl⟩ (by decide) rfl (g := (mkF m 86 #[iv p0, iv p1, iv p2, iv p3, iv p4, iv 3, iv 0, iv x0, iv x1, iv x2, rv sx_79, rv sx_80, rv sx_81, oU, oU, oU, oU, oU, oU, oU, oU] [(.ref b_82), (.ref b_82)])) rfl (hb hby at_86) (n := 4) (by decide) (by decide) (by decide) (by decide)
    have c727 := CHr.safe CH_83 (F_source_b_82).lt c710
    have c728 := c711.trans CH_83
    have ne_b_82_b_83 : b_82 ≠ b_83 := (NE_83 _ c727).1
    have ne_b_82_d_83 : b_82 ≠ d_83 := (NE_83 _ c727).2
    have c729 := c713.ext E_83
    have c730 := c714.ext E_83
    have c731 := c715.ext E_83
    have c732 := c716.ext E_83
    have c733 := c717.ext E_83
    have c734 := c718.ext E_83
    have c735 := c719.ext E_83
    have c736 := c720.ext E_83
    have c737 := c721.ext E_83
    have c738 := c722.ext E_83
    have c739 := c723.ext E_83
    have c740 := c724.ext E_83
    have c741 := c725.ext E_83
    have c742 := c726.ext E_83
    have c743 := F_source_b_82.ext E_83
    have c744 := F_text_b_82.ext E_83
    have c745 := F_firstLine_b_82.ext E_83
    have c746 := F_end_b_82.ext E_83
    have c747 := F_position_b_82.ext E_83
    have c748 := A_82.ext E_83
    have Z0__83 : n0 ≤ h_83.size := Nat.le_trans Z0__82 E_83.1
    refine og (fun t k => st_83 t k) ?_
    refine og (B := T_83.setTop (mkF m 91 #[iv p0, iv p1, iv p2, iv p3, iv p4, iv 3, iv 0, iv x0, iv x1, iv x2, rv sx_79, rv sx_80, rv sx_81, oU, oU, oU, oU, oU, oU, oU, oU] [(.int 1), (.ref sx_79), (.ref b_83), (.ref b_82), (.ref b_82)])) (fun t k => ?_) ?_
    · refine XS.aload X_83.here hx rfl (hb hby at_88) rfl rfl ?_
      refine XS.iconst X_83.here hx rfl (hb hby at_90) ?_
      exact k
    obtain ⟨_, _, ⟨T_84, L_84, k_84, n_84⟩, -, Xb_84, Sb_84, gs_84, ⟨Lc_84, hQ_84, l_84, y_84, z_84, CH_84⟩, st_84⟩ := X_83.specialBackS hx (y := own_m7) rfl hown_83 (mvT hZ_83 (ow hw 34 rfl)) (mvT hZ_83 (ow hw 35 rfl)) (mvT hZ_83 (ow hw 36 rfl)) (by decide) (backOfSH (s := s) (vm0 := T_83.vm) (W := 1) (rmtc l Z av0 hw [] b_82 b_83 sx_79 .null .null (.int 0) .null sb_79 sk_79 w (3 : Int32) [(.int (own_byte (nar .char x0))), (.int (own_byte (nar .char x1))), (.int (own_byte (nar .char x2)))] (fun c => own_ixl3 (own_byte (nar .char x0)) (own_byte (nar .char x1)) (own_byte (nar .char x2)) c) h_83 n0 Z0__83 c748 c743 c744 c745 c746 c747 g_b_82 c731 c732 c733 c730 hw0 c734 ne_sx_79_b_82 ne_sb_79_b_82 hEL (fun h' c z e f1 f2 s v => rmsxa3 l Z av0 hw [] sx_79 c sb_79 sk_79 w (own_byte (nar .char x0)) (own_byte (nar .char x1)) (own_byte (nar .char x2)) h' n0 z e f1 f2 s hw0 v)) hZ_83 (ow hw 36 rfl) (ow hw 32 rfl) (by decide) (by decide) hEL c728.1) (g := (mkF m 91 #[iv p0, iv p1, iv p2, iv p3, iv p4, iv 3, iv 0, iv x0, iv x1, iv x2, rv sx_79, rv sx_80, rv sx_81, oU, oU, oU, oU, oU, oU, oU, oU] [(.int 1), (.ref sx_79), (.ref b_83), (.ref b_82), (.ref b_82)])) rfl (by rw [hml]; rfl) (Steps.refl _) (a := b_82) (argsL := [(.ref b_83), (.ref sx_79), (.int 1)]) (rest := [(.ref b_82)]) (lenOf pd_17 rfl) rfl (by show 2 * 0 + _ ≤ _; exact Nat.le_of_eq rfl) (hb hby at_91) (fun _ _ => ⟨rfl, e_83, (by decide : 15 + 2 ≤ _), (by decide : 45 + 80 ≤ _)⟩)
    dsimp only [Pt.U, Pt.locs, Pt.cells, Pt.slots] at Xb_84 Sb_84 gs_84 l_84 y_84 z_84 st_84 hQ_84 CH_84
    subst l_84 y_84 z_84
    obtain ⟨rfl, N_84q, K_84, Ft_84, Fp_84⟩ := hQ_84
    have N_84 := Fr.app N_81 N_84q
    obtain ⟨X_84, Si_84, hZ_84, hown_84⟩ := rebS (s := s) (vm0 := T_83.vm) Si_83 (Nat.le_refl _) Xb_84 Sb_84 (Nat.le_trans ls_83 K_84.1) hZ_83 hown_83
    have c749 := CHr.safe CH_84 (c743).lt c727
    have c750 := c728.trans CH_84
    have c751 := Nat.le_trans ls_83 K_84.1
    have c752 := c729.trans K_84 (allS (Or.inr sz_b_82) all0)
    have c753 := own_stake c730 K_84 c748
    have c754 := c731.keep K_84
    have c755 := c732.keep K_84 (ninS ne_sx_79_b_82 nin0)
    have c756 := c733.keep K_84 (ninS ne_sx_79_b_82 nin0)
    have c757 := c734.keep K_84 (ninS ne_sb_79_b_82 nin0)
    have c758 := c735.keep K_84
    have c759 := c736.keep K_84 (ninS ne_sx_80_b_82 nin0)
    have c760 := c737.keep K_84 (ninS ne_sx_80_b_82 nin0)
    have c761 := c738.keep K_84 (ninS ne_sb_80_b_82 nin0)
    have c762 := c739.keep K_84
    have c763 := c740.keep K_84 (ninS ne_sx_81_b_82 nin0)
    have c764 := c741.keep K_84 (ninS ne_sx_81_b_82 nin0)
    have c765 := c742.keep K_84 (ninS ne_sb_81_b_82 nin0)
    have c766 := c748.keep K_84
    have Z0__84 : n0 ≤ T_84.heap.size := Nat.le_trans Z0__83 K_84.1
    refine og (fun t k => st_84.trans k) ?_
    refine og (B := T_84.setTop (mkF m 98 #[iv p0, iv p1, iv p2, iv p3, iv p4, iv 3, iv 0, iv x0, iv x1, iv x2, rv sx_79, rv sx_80, rv sx_81, rv b_82, oU, oU, oU, oU, oU, oU, oU] [(.ref b_82)])) (fun t k => ?_) ?_
    · refine XS.astore X_84.here hx rfl (hb hby at_94) rfl rfl (l' := #[iv p0, iv p1, iv p2, iv p3, iv p4, iv 3, iv 0, iv x0, iv x1, iv x2, rv sx_79, rv sx_80, rv sx_81, rv b_82, oU, oU, oU, oU, oU, oU, oU]) rfl ?_
      refine XS.aload X_84.here hx rfl (hb hby at_96) rfl rfl ?_
      exact k
    obtain ⟨cq_85, kq_85, q_85a, q_85b, q_85c⟩ := isOf hZ_84 rfl c766
    obtain ⟨_, _, ⟨T_85, L_85, k_85, n_85⟩, -, X_85, ⟨Lc_85, hQ_85, l_85, y_85, z_85⟩, st_85⟩ := X_84.virtualBack hx (y := own_m17) (z := own_m17) hown_84 (mvT hZ_84 (ow hw 87 rfl)) (mvT hZ_84 (ow hw 88 rfl)) (notFace_of_selects (args := #[]) (mvT hZ_84 (ow hw 90 rfl))) (mvT hZ_84 (ow hw 90 rfl)) (mvT hZ_84 (ow hw 89 rfl)) (by decide) (backOf (W := 0) (rm16 l Z av0 hw [] b_82 (0 : Int32) sx_79 sb_79 sk_79 w (3 : Int32) [(.int (own_byte (nar .char x0))), (.int (own_byte (nar .char x1))), (.int (own_byte (nar .char x2)))] T_84.heap n0 Z0__84 Fp_84 Ft_84 c754 c755 c756 c753 hw0 c757) hZ_84 (ow hw 91 rfl) (ow hw 32 rfl) (by decide) (by decide)) q_85a q_85c (g := (mkF m 98 #[iv p0, iv p1, iv p2, iv p3, iv p4, iv 3, iv 0, iv x0, iv x1, iv x2, rv sx_79, rv sx_80, rv sx_81, rv b_82, oU, oU, oU, oU, oU, oU, oU] [(.ref b_82)])) rfl (by rw [hml]; rfl) (Steps.refl _) (argsL := []) (rest := []) (lenOf pd_3 rfl) rfl (by show 2 * 0 + _ ≤ _; exact Nat.le_of_eq rfl) (hb hby at_98) (fun _ _ => ⟨rfl, rfl, (by decide : 17 + 0 ≤ _), (by decide : 125 + 0 ≤ _)⟩)
    dsimp only [Pt.U, Pt.locs, Pt.cells, Pt.slots] at X_85 l_85 y_85 z_85 st_85 hQ_85
    subst l_85 y_85 z_85
    obtain ⟨hv_85, N_85q, e_85⟩ := hQ_85
    have N_85 := Fr.app N_84 N_85q
    rw [show own_ge (0 : Int32) (3 : Int32) = (0 : Int32) from by decide] at hv_85
    subst hv_85
    refine og (fun t k => st_85.trans k) ?_
    refine og (B := T_85.setTop (mkF m 107 #[iv p0, iv p1, iv p2, iv p3, iv p4, iv 3, iv 0, iv x0, iv x1, iv x2, rv sx_79, rv sx_80, rv sx_81, rv b_82, iv 0, oU, oU, oU, oU, oU, oU] [(.ref sx_80), (.ref b_82)])) (fun t k => ?_) ?_
    · refine XS.istore X_85.here hx rfl (hb hby at_101) rfl (l' := #[iv p0, iv p1, iv p2, iv p3, iv p4, iv 3, iv 0, iv x0, iv x1, iv x2, rv sx_79, rv sx_80, rv sx_81, rv b_82, iv 0, oU, oU, oU, oU, oU, oU]) rfl ?_
      refine XS.aload X_85.here hx rfl (hb hby at_103) rfl rfl ?_
      refine XS.aload X_85.here hx rfl (hb hby at_105) rfl rfl ?_
      exact k
    obtain ⟨cq_86, kq_86, q_86a, q_86b, q_86c⟩ := isOf hZ_84 e_85 c766
    obtain ⟨_, _, ⟨T_86, L_86, k_86, n_86⟩, -, X_86, ⟨Lc_86, hQ_86, l_86, y_86, z_86⟩, st_86⟩ := X_85.virtualBack hx (y := own_m18) (z := own_m18) hown_84 (mvT hZ_84 (ow hw 95 rfl)) (mvT hZ_84 (ow hw 96 rfl)) (notFace_of_selects (args := #[]) (mvT hZ_84 (ow hw 98 rfl))) (mvT hZ_84 (ow hw 98 rfl)) (mvT hZ_84 (ow hw 97 rfl)) (by decide) (backOf (W := 0) (rmco l Z av0 hw [] b_82 sx_80 sx_79 (0 : Int32) sb_79 sb_80 sk_79 sk_80 w (3 : Int32) (0 : Int32) [(.int (own_byte (nar .char x0))), (.int (own_byte (nar .char x1))), (.int (own_byte (nar .char x2)))] [] T_84.heap n0 Z0__84 c766 Ft_84 Fp_84 g_b_82 c754 c755 c756 c758 c759 c760 c753 hw0 c757 c761 ne_sx_80_b_82 ne_sb_80_b_82 (by decide) (by decide) (rmmm0 l Z av0 hw [] sb_79 (0 : Int32) sb_80 sk_79 sk_80 (3 : Int32) [(.int (own_byte (nar .char x0))), (.int (own_byte (nar .char x1))), (.int (own_byte (nar .char x2)))]  T_84.heap n0 Z0__84 c757 c761 )) hZ_84 (ow hw 99 rfl) (ow hw 32 rfl) (by decide) (by decide)) q_86a q_86c (g := (mkF m 107 #[iv p0, iv p1, iv p2, iv p3, iv p4, iv 3, iv 0, iv x0, iv x1, iv x2, rv sx_79, rv sx_80, rv sx_81, rv b_82, iv 0, oU, oU, oU, oU, oU, oU] [(.ref sx_80), (.ref b_82)])) rfl (by rw [hml]; rfl) (Steps.refl _) (argsL := [(.ref sx_80)]) (rest := []) (lenOf pd_15 rfl) rfl (by show 2 * 0 + _ ≤ _; exact Nat.le_of_eq rfl) (hb hby at_107) (fun _ _ => ⟨rfl, e_85, (by decide : 17 + 0 ≤ _), (by decide : 125 + 0 ≤ _)⟩)
    dsimp only [Pt.U, Pt.locs, Pt.cells, Pt.slots] at X_86 l_86 y_86 z_86 st_86 hQ_86
    subst l_86 y_86 z_86
    obtain ⟨rfl, N_86q, K_86, Fp_86, Ft_86⟩ := hQ_86
    have N_86 := Fr.app N_85 N_86q
    have c767 := Safe.keep K_86 (allS c749 all0) c750.1 c749
    have c768 := c750.trans (CHr.keep K_86 (allS c749 all0) c750.1)
    have c769 := Nat.le_trans (Nat.le_refl _) K_86.1
    have c770 := c752.trans K_86 (allS (Or.inr sz_b_82) all0)
    have c771 := own_stake c753 K_86 c766
    have c772 := c754.keep K_86
    have c773 := c755.keep K_86 (ninS ne_sx_79_b_82 nin0)
    have c774 := c756.keep K_86 (ninS ne_sx_79_b_82 nin0)
    have c775 := c757.keep K_86 (ninS ne_sb_79_b_82 nin0)
    have c776 := c758.keep K_86
    have c777 := c759.keep K_86 (ninS ne_sx_80_b_82 nin0)
    have c778 := c760.keep K_86 (ninS ne_sx_80_b_82 nin0)
    have c779 := c761.keep K_86 (ninS ne_sb_80_b_82 nin0)
    have c780 := c762.keep K_86
    have c781 := c763.keep K_86 (ninS ne_sx_81_b_82 nin0)
    have c782 := c764.keep K_86 (ninS ne_sx_81_b_82 nin0)
    have c783 := c765.keep K_86 (ninS ne_sb_81_b_82 nin0)
    have c784 := c766.keep K_86
    have Z0__86 : n0 ≤ T_86.heap.size := Nat.le_trans Z0__84 K_86.1
    have Fq_86 : Fld Z T_86.heap b_82 "com/example/cutoff/cutoff/store/TextCursor" "position" "I" (.int (0 : Int32)) := Fp_86
    refine og (fun t k => st_86.trans k) ?_
    refine og (B := T_86.setTop (mkF m 114 #[iv p0, iv p1, iv p2, iv p3, iv p4, iv 3, iv 0, iv x0, iv x1, iv x2, rv sx_79, rv sx_80, rv sx_81, rv b_82, iv 0, iv 1, oU, oU, oU, oU, oU] [(.ref b_82)])) (fun t k => ?_) ?_
    · refine XS.istore X_86.here hx rfl (hb hby at_110) rfl (l' := #[iv p0, iv p1, iv p2, iv p3, iv p4, iv 3, iv 0, iv x0, iv x1, iv x2, rv sx_79, rv sx_80, rv sx_81, rv b_82, iv 0, iv 1, oU, oU, oU, oU, oU]) rfl ?_
      refine XS.aload X_86.here hx rfl (hb hby at_112) rfl rfl ?_
      exact k
    obtain ⟨cq_87, kq_87, q_87a, q_87b, q_87c⟩ := isOf hZ_84 rfl c784
    obtain ⟨_, _, ⟨T_87, L_87, k_87, n_87⟩, -, X_87, ⟨Lc_87, hQ_87, l_87, y_87, z_87⟩, st_87⟩ := X_86.virtualBack hx (y := own_m22) (z := own_m22) hown_84 (mvT hZ_84 (ow hw 114 rfl)) (mvT hZ_84 (ow hw 115 rfl)) (notFace_of_selects (args := #[]) (mvT hZ_84 (ow hw 117 rfl))) (mvT hZ_84 (ow hw 117 rfl)) (mvT hZ_84 (ow hw 116 rfl)) (by decide) (backOf (W := 0) (rm21 l Z av0 hw [] b_82 (0 : Int32) T_86.heap n0 Z0__86 Fq_86) hZ_84 (ow hw 118 rfl) (ow hw 32 rfl) (by decide) (by decide)) q_87a q_87c (g := (mkF m 114 #[iv p0, iv p1, iv p2, iv p3, iv p4, iv 3, iv 0, iv x0, iv x1, iv x2, rv sx_79, rv sx_80, rv sx_81, rv b_82, iv 0, iv 1, oU, oU, oU, oU, oU] [(.ref b_82)])) rfl (by rw [hml]; rfl) (Steps.refl _) (argsL := []) (rest := []) (lenOf pd_4 rfl) rfl (by show 2 * 0 + _ ≤ _; exact Nat.le_of_eq rfl) (hb hby at_114) (fun _ _ => ⟨rfl, rfl, (by decide : 17 + 0 ≤ _), (by decide : 125 + 0 ≤ _)⟩)
    dsimp only [Pt.U, Pt.locs, Pt.cells, Pt.slots] at X_87 l_87 y_87 z_87 st_87 hQ_87
    subst l_87 y_87 z_87
    obtain ⟨rfl, N_87q, e_87⟩ := hQ_87
    have N_87 := Fr.app N_86 N_87q
    refine og (fun t k => st_87.trans k) ?_
    refine og (B := T_87.setTop (mkF m 121 #[iv p0, iv p1, iv p2, iv p3, iv p4, iv 3, iv 0, iv x0, iv x1, iv x2, rv sx_79, rv sx_80, rv sx_81, rv b_82, iv 0, iv 1, iv 0, oU, oU, oU, oU] [(.ref b_82)])) (fun t k => ?_) ?_
    · refine XS.istore X_87.here hx rfl (hb hby at_117) rfl (l' := #[iv p0, iv p1, iv p2, iv p3, iv p4, iv 3, iv 0, iv x0, iv x1, iv x2, rv sx_79, rv sx_80, rv sx_81, rv b_82, iv 0, iv 1, iv 0, oU, oU, oU, oU]) rfl ?_
      refine XS.aload X_87.here hx rfl (hb hby at_119) rfl rfl ?_
      exact k
    obtain ⟨cq_88, kq_88, q_88a, q_88b, q_88c⟩ := isOf hZ_84 e_87 c784
    obtain ⟨_, _, ⟨T_88, L_88, k_88, n_88⟩, -, X_88, ⟨Lc_88, hQ_88, l_88, y_88, z_88⟩, st_88⟩ := X_87.virtualBack hx (y := own_m17) (z := own_m17) hown_84 (mvT hZ_84 (ow hw 87 rfl)) (mvT hZ_84 (ow hw 88 rfl)) (notFace_of_selects (args := #[]) (mvT hZ_84 (ow hw 90 rfl))) (mvT hZ_84 (ow hw 90 rfl)) (mvT hZ_84 (ow hw 89 rfl)) (by decide) (backOf (W := 0) (rm16 l Z av0 hw [] b_82 (0 : Int32) sx_79 sb_79 sk_79 w (3 : Int32) [(.int (own_byte (nar .char x0))), (.int (own_byte (nar .char x1))), (.int (own_byte (nar .char x2)))] T_86.heap n0 Z0__86 Fq_86 Ft_86 c772 c773 c774 c771 hw0 c775) hZ_84 (ow hw 91 rfl) (ow hw 32 rfl) (by decide) (by decide)) q_88a q_88c (g := (mkF m 121 #[iv p0, iv p1, iv p2, iv p3, iv p4, iv 3, iv 0, iv x0, iv x1, iv x2, rv sx_79, rv sx_80, rv sx_81, rv b_82, iv 0, iv 1, iv 0, oU, oU, oU, oU] [(.ref b_82)])) rfl (by rw [hml]; rfl) (Steps.refl _) (argsL := []) (rest := []) (lenOf pd_3 rfl) rfl (by show 2 * 0 + _ ≤ _; exact Nat.le_of_eq rfl) (hb hby at_121) (fun _ _ => ⟨rfl, e_87, (by decide : 17 + 0 ≤ _), (by decide : 125 + 0 ≤ _)⟩)
    dsimp only [Pt.U, Pt.locs, Pt.cells, Pt.slots] at X_88 l_88 y_88 z_88 st_88 hQ_88
    subst l_88 y_88 z_88
    obtain ⟨hv_88, N_88q, e_88⟩ := hQ_88
    have N_88 := Fr.app N_87 N_88q
    rw [show own_ge (0 : Int32) (3 : Int32) = (0 : Int32) from by decide] at hv_88
    subst hv_88
    refine og (fun t k => st_88.trans k) ?_
    refine og (B := T_88.setTop (mkF m 130 #[iv p0, iv p1, iv p2, iv p3, iv p4, iv 3, iv 0, iv x0, iv x1, iv x2, rv sx_79, rv sx_80, rv sx_81, rv b_82, iv 0, iv 1, iv 0, iv 0, oU, oU, oU] [(.ref sx_81), (.ref b_82)])) (fun t k => ?_) ?_
    · refine XS.istore X_88.here hx rfl (hb hby at_124) rfl (l' := #[iv p0, iv p1, iv p2, iv p3, iv p4, iv 3, iv 0, iv x0, iv x1, iv x2, rv sx_79, rv sx_80, rv sx_81, rv b_82, iv 0, iv 1, iv 0, iv 0, oU, oU, oU]) rfl ?_
      refine XS.aload X_88.here hx rfl (hb hby at_126) rfl rfl ?_
      refine XS.aload X_88.here hx rfl (hb hby at_128) rfl rfl ?_
      exact k
    obtain ⟨cq_89, kq_89, q_89a, q_89b, q_89c⟩ := isOf hZ_84 e_88 c784
    obtain ⟨_, _, ⟨T_89, L_89, k_89, n_89⟩, -, X_89, ⟨Lc_89, hQ_89, l_89, y_89, z_89⟩, st_89⟩ := X_88.virtualBack hx (y := own_m18) (z := own_m18) hown_84 (mvT hZ_84 (ow hw 95 rfl)) (mvT hZ_84 (ow hw 96 rfl)) (notFace_of_selects (args := #[]) (mvT hZ_84 (ow hw 98 rfl))) (mvT hZ_84 (ow hw 98 rfl)) (mvT hZ_84 (ow hw 97 rfl)) (by decide) (backOf (W := 0) (rmco l Z av0 hw [] b_82 sx_81 sx_79 (0 : Int32) sb_79 sb_81 sk_79 sk_81 w (3 : Int32) (3 : Int32) [(.int (own_byte (nar .char x0))), (.int (own_byte (nar .char x1))), (.int (own_byte (nar .char x2)))] [(.int (own_byte (nar .char x0))), (.int (own_byte (nar .char x1))), (.int (own_byte (nar .char x2)))] T_86.heap n0 Z0__86 c784 Ft_86 Fq_86 g_b_82 c772 c773 c774 c780 c781 c782 c771 hw0 c775 c783 ne_sx_81_b_82 ne_sb_81_b_82 (by decide) (by decide) (rmmm3 l Z av0 hw [] sb_79 (0 : Int32) sb_81 sk_79 sk_81 (3 : Int32) [(.int (own_byte (nar .char x0))), (.int (own_byte (nar .char x1))), (.int (own_byte (nar .char x2)))] (own_byte (nar .char x0)) (own_byte (nar .char x1)) (own_byte (nar .char x2)) T_86.heap n0 Z0__86 c775 c783 (by decide) (by decide) (by decide) rfl rfl rfl)) hZ_84 (ow hw 99 rfl) (ow hw 32 rfl) (by decide) (by decide)) q_89a q_89c (g := (mkF m 130 #[iv p0, iv p1, iv p2, iv p3, iv p4, iv 3, iv 0, iv x0, iv x1, iv x2, rv sx_79, rv sx_80, rv sx_81, rv b_82, iv 0, iv 1, iv 0, iv 0, oU, oU, oU] [(.ref sx_81), (.ref b_82)])) rfl (by rw [hml]; rfl) (Steps.refl _) (argsL := [(.ref sx_81)]) (rest := []) (lenOf pd_15 rfl) rfl (by show 2 * 0 + _ ≤ _; exact Nat.le_of_eq rfl) (hb hby at_130) (fun _ _ => ⟨rfl, e_88, (by decide : 17 + 0 ≤ _), (by decide : 125 + 0 ≤ _)⟩)
    dsimp only [Pt.U, Pt.locs, Pt.cells, Pt.slots] at X_89 l_89 y_89 z_89 st_89 hQ_89
    subst l_89 y_89 z_89
    obtain ⟨rfl, N_89q, K_89, Fp_89, Ft_89⟩ := hQ_89
    have N_89 := Fr.app N_88 N_89q
    have c785 := Safe.keep K_89 (allS c767 all0) c768.1 c767
    have c786 := c768.trans (CHr.keep K_89 (allS c767 all0) c768.1)
    have c787 := Nat.le_trans c769 K_89.1
    have c788 := c770.trans K_89 (allS (Or.inr sz_b_82) all0)
    have c789 := own_stake c771 K_89 c784
    have c790 := c772.keep K_89
    have c791 := c773.keep K_89 (ninS ne_sx_79_b_82 nin0)
    have c792 := c774.keep K_89 (ninS ne_sx_79_b_82 nin0)
    have c793 := c775.keep K_89 (ninS ne_sb_79_b_82 nin0)
    have c794 := c776.keep K_89
    have c795 := c777.keep K_89 (ninS ne_sx_80_b_82 nin0)
    have c796 := c778.keep K_89 (ninS ne_sx_80_b_82 nin0)
    have c797 := c779.keep K_89 (ninS ne_sb_80_b_82 nin0)
    have c798 := c780.keep K_89
    have c799 := c781.keep K_89 (ninS ne_sx_81_b_82 nin0)
    have c800 := c782.keep K_89 (ninS ne_sx_81_b_82 nin0)
    have c801 := c783.keep K_89 (ninS ne_sb_81_b_82 nin0)
    have c802 := c784.keep K_89
    have Z0__89 : n0 ≤ T_89.heap.size := Nat.le_trans Z0__86 K_89.1
    have Fq_89 : Fld Z T_89.heap b_82 "com/example/cutoff/cutoff/store/TextCursor" "position" "I" (.int (3 : Int32)) := Fp_89
    refine og (fun t k => st_89.trans k) ?_
    refine og (B := T_89.setTop (mkF m 137 #[iv p0, iv p1, iv p2, iv p3, iv p4, iv 3, iv 0, iv x0, iv x1, iv x2, rv sx_79, rv sx_80, rv sx_81, rv b_82, iv 0, iv 1, iv 0, iv 0, iv 1, oU, oU] [(.ref b_82)])) (fun t k => ?_) ?_
    · refine XS.istore X_89.here hx rfl (hb hby at_133) rfl (l' := #[iv p0, iv p1, iv p2, iv p3, iv p4, iv 3, iv 0, iv x0, iv x1, iv x2, rv sx_79, rv sx_80, rv sx_81, rv b_82, iv 0, iv 1, iv 0, iv 0, iv 1, oU, oU]) rfl ?_
      refine XS.aload X_89.here hx rfl (hb hby at_135) rfl rfl ?_
      exact k
    obtain ⟨cq_90, kq_90, q_90a, q_90b, q_90c⟩ := isOf hZ_84 rfl c802
    obtain ⟨_, _, ⟨T_90, L_90, k_90, n_90⟩, -, X_90, ⟨Lc_90, hQ_90, l_90, y_90, z_90⟩, st_90⟩ := X_89.virtualBack hx (y := own_m22) (z := own_m22) hown_84 (mvT hZ_84 (ow hw 114 rfl)) (mvT hZ_84 (ow hw 115 rfl)) (notFace_of_selects (args := #[]) (mvT hZ_84 (ow hw 117 rfl))) (mvT hZ_84 (ow hw 117 rfl)) (mvT hZ_84 (ow hw 116 rfl)) (by decide) (backOf (W := 0) (rm21 l Z av0 hw [] b_82 (3 : Int32) T_89.heap n0 Z0__89 Fq_89) hZ_84 (ow hw 118 rfl) (ow hw 32 rfl) (by decide) (by decide)) q_90a q_90c (g := (mkF m 137 #[iv p0, iv p1, iv p2, iv p3, iv p4, iv 3, iv 0, iv x0, iv x1, iv x2, rv sx_79, rv sx_80, rv sx_81, rv b_82, iv 0, iv 1, iv 0, iv 0, iv 1, oU, oU] [(.ref b_82)])) rfl (by rw [hml]; rfl) (Steps.refl _) (argsL := []) (rest := []) (lenOf pd_4 rfl) rfl (by show 2 * 0 + _ ≤ _; exact Nat.le_of_eq rfl) (hb hby at_137) (fun _ _ => ⟨rfl, rfl, (by decide : 17 + 0 ≤ _), (by decide : 125 + 0 ≤ _)⟩)
    dsimp only [Pt.U, Pt.locs, Pt.cells, Pt.slots] at X_90 l_90 y_90 z_90 st_90 hQ_90
    subst l_90 y_90 z_90
    obtain ⟨rfl, N_90q, e_90⟩ := hQ_90
    have N_90 := Fr.app N_89 N_90q
    refine og (fun t k => st_90.trans k) ?_
    refine og (B := T_90.setTop (mkF m 144 #[iv p0, iv p1, iv p2, iv p3, iv p4, iv 3, iv 0, iv x0, iv x1, iv x2, rv sx_79, rv sx_80, rv sx_81, rv b_82, iv 0, iv 1, iv 0, iv 0, iv 1, iv 3, oU] [(.ref b_82)])) (fun t k => ?_) ?_
    · refine XS.istore X_90.here hx rfl (hb hby at_140) rfl (l' := #[iv p0, iv p1, iv p2, iv p3, iv p4, iv 3, iv 0, iv x0, iv x1, iv x2, rv sx_79, rv sx_80, rv sx_81, rv b_82, iv 0, iv 1, iv 0, iv 0, iv 1, iv 3, oU]) rfl ?_
      refine XS.aload X_90.here hx rfl (hb hby at_142) rfl rfl ?_
      exact k
    obtain ⟨cq_91, kq_91, q_91a, q_91b, q_91c⟩ := isOf hZ_84 e_90 c802
    obtain ⟨_, _, ⟨T_91, L_91, k_91, n_91⟩, -, X_91, ⟨Lc_91, hQ_91, l_91, y_91, z_91⟩, st_91⟩ := X_90.virtualBack hx (y := own_m17) (z := own_m17) hown_84 (mvT hZ_84 (ow hw 87 rfl)) (mvT hZ_84 (ow hw 88 rfl)) (notFace_of_selects (args := #[]) (mvT hZ_84 (ow hw 90 rfl))) (mvT hZ_84 (ow hw 90 rfl)) (mvT hZ_84 (ow hw 89 rfl)) (by decide) (backOf (W := 0) (rm16 l Z av0 hw [] b_82 (3 : Int32) sx_79 sb_79 sk_79 w (3 : Int32) [(.int (own_byte (nar .char x0))), (.int (own_byte (nar .char x1))), (.int (own_byte (nar .char x2)))] T_89.heap n0 Z0__89 Fq_89 Ft_89 c790 c791 c792 c789 hw0 c793) hZ_84 (ow hw 91 rfl) (ow hw 32 rfl) (by decide) (by decide)) q_91a q_91c (g := (mkF m 144 #[iv p0, iv p1, iv p2, iv p3, iv p4, iv 3, iv 0, iv x0, iv x1, iv x2, rv sx_79, rv sx_80, rv sx_81, rv b_82, iv 0, iv 1, iv 0, iv 0, iv 1, iv 3, oU] [(.ref b_82)])) rfl (by rw [hml]; rfl) (Steps.refl _) (argsL := []) (rest := []) (lenOf pd_3 rfl) rfl (by show 2 * 0 + _ ≤ _; exact Nat.le_of_eq rfl) (hb hby at_144) (fun _ _ => ⟨rfl, e_90, (by decide : 17 + 0 ≤ _), (by decide : 125 + 0 ≤ _)⟩)
    dsimp only [Pt.U, Pt.locs, Pt.cells, Pt.slots] at X_91 l_91 y_91 z_91 st_91 hQ_91
    subst l_91 y_91 z_91
    obtain ⟨hv_91, N_91q, e_91⟩ := hQ_91
    have N_91 := Fr.app N_90 N_91q
    rw [show own_ge (3 : Int32) (3 : Int32) = (1 : Int32) from by decide] at hv_91
    subst hv_91
    refine og (fun t k => st_91.trans k) ?_
    refine og (B := T_91.setTop (mkF m 153 #[iv p0, iv p1, iv p2, iv p3, iv p4, iv 3, iv 0, iv x0, iv x1, iv x2, rv sx_79, rv sx_80, rv sx_81, rv b_82, iv 0, iv 1, iv 0, iv 0, iv 1, iv 3, iv 1] [(.int 3), (.int 0)])) (fun t k => ?_) ?_
    · refine XS.istore X_91.here hx rfl (hb hby at_147) rfl (l' := #[iv p0, iv p1, iv p2, iv p3, iv p4, iv 3, iv 0, iv x0, iv x1, iv x2, rv sx_79, rv sx_80, rv sx_81, rv b_82, iv 0, iv 1, iv 0, iv 0, iv 1, iv 3, iv 1]) rfl ?_
      refine XS.iload X_91.here hx rfl (hb hby at_149) rfl ?_
      refine XS.iload X_91.here hx rfl (hb hby at_151) rfl ?_
      exact k
    refine og (B := T_91.setTop (mkF m 160 #[iv p0, iv p1, iv p2, iv p3, iv p4, iv 3, iv 0, iv x0, iv x1, iv x2, rv sx_79, rv sx_80, rv sx_81, rv b_82, iv 0, iv 1, iv 0, iv 0, iv 1, iv 3, iv 1] [(.int 0)])) (fun t k => ?_) ?_
    · refine XS.ifYes X_91.here hx rfl (pc0 := 153) (pc' := 160) rfl (hb hby at_153) rfl ((if0 _ _).trans (feq (by decide : ¬ ((3 : Int32) = (0 : Int32)))).2) (by decide) (by decide) ?_
      exact k
    refine og (B := T_91.setTop (mkF m 161 #[iv p0, iv p1, iv p2, iv p3, iv p4, iv 3, iv 0, iv x0, iv x1, iv x2, rv sx_79, rv sx_80, rv sx_81, rv b_82, iv 0, iv 1, iv 0, iv 0, iv 1, iv 3, iv 1] [(.int 0), (.int 0)])) (fun t k => ?_) ?_
    · refine XS.iconst X_91.here hx rfl (hb hby at_160) ?_
      exact k
    refine og (B := T_91.setTop (mkF m 164 #[iv p0, iv p1, iv p2, iv p3, iv p4, iv 3, iv 0, iv x0, iv x1, iv x2, rv sx_79, rv sx_80, rv sx_81, rv b_82, iv 0, iv 1, iv 0, iv 0, iv 1, iv 3, iv 1] [])) (fun t k => ?_) ?_
    · refine XS.icmpNo X_91.here hx rfl (hb hby at_161) rfl (teq (by decide : (0 : Int32) = (0 : Int32))).2 ?_
      exact k
    refine og (B := T_91.setTop (mkF m 166 #[iv p0, iv p1, iv p2, iv p3, iv p4, iv 3, iv 0, iv x0, iv x1, iv x2, rv sx_79, rv sx_80, rv sx_81, rv b_82, iv 0, iv 1, iv 0, iv 0, iv 1, iv 3, iv 1] [(.int 1)])) (fun t k => ?_) ?_
    · refine XS.iload X_91.here hx rfl (hb hby at_164) rfl ?_
      exact k
    refine og (B := T_91.setTop (mkF m 169 #[iv p0, iv p1, iv p2, iv p3, iv p4, iv 3, iv 0, iv x0, iv x1, iv x2, rv sx_79, rv sx_80, rv sx_81, rv b_82, iv 0, iv 1, iv 0, iv 0, iv 1, iv 3, iv 1] [])) (fun t k => ?_) ?_
    · refine XS.ifNo X_91.here hx rfl (hb hby at_166) rfl ((if0 _ _).trans (feq (by decide : ¬ ((1 : Int32) = (0 : Int32)))).1) ?_
      exact k
    refine og (B := T_91.setTop (mkF m 173 #[iv p0, iv p1, iv p2, iv p3, iv p4, iv 3, iv 0, iv x0, iv x1, iv x2, rv sx_79, rv sx_80, rv sx_81, rv b_82, iv 0, iv 1, iv 0, iv 0, iv 1, iv 3, iv 1] [(.int 0), (.int 0)])) (fun t k => ?_) ?_
    · refine XS.iload X_91.here hx rfl (hb hby at_169) rfl ?_
      refine XS.iload X_91.here hx rfl (hb hby at_171) rfl ?_
      exact k
    refine og (B := T_91.setTop (mkF m 176 #[iv p0, iv p1, iv p2, iv p3, iv p4, iv 3, iv 0, iv x0, iv x1, iv x2, rv sx_79, rv sx_80, rv sx_81, rv b_82, iv 0, iv 1, iv 0, iv 0, iv 1, iv 3, iv 1] [])) (fun t k => ?_) ?_
    · refine XS.icmpNo X_91.here hx rfl (hb hby at_173) rfl (teq (by decide : (0 : Int32) = (0 : Int32))).2 ?_
      exact k
    refine og (B := T_91.setTop (mkF m 182 #[iv p0, iv p1, iv p2, iv p3, iv p4, iv 3, iv 0, iv x0, iv x1, iv x2, rv sx_79, rv sx_80, rv sx_81, rv b_82, iv 0, iv 1, iv 0, iv 0, iv 1, iv 3, iv 1] [(.int 3), (.int 0), (.int 0)])) (fun t k => ?_) ?_
    · refine XS.iload X_91.here hx rfl (hb hby at_176) rfl ?_
      refine XS.iload X_91.here hx rfl (hb hby at_178) rfl ?_
      refine XS.iload X_91.here hx rfl (hb hby at_180) rfl ?_
      exact k
    refine og (B := T_91.setTop (mkF m 189 #[iv p0, iv p1, iv p2, iv p3, iv p4, iv 3, iv 0, iv x0, iv x1, iv x2, rv sx_79, rv sx_80, rv sx_81, rv b_82, iv 0, iv 1, iv 0, iv 0, iv 1, iv 3, iv 1] [(.int 0)])) (fun t k => ?_) ?_
    · refine XS.icmpYes X_91.here hx rfl (pc0 := 182) (pc' := 189) rfl (hb hby at_182) rfl (feq (by decide : ¬ ((0 : Int32) = (3 : Int32)))).2 (by decide) (by decide) ?_
      exact k
    refine og (B := T_91.setTop (mkF m 190 #[iv p0, iv p1, iv p2, iv p3, iv p4, iv 3, iv 0, iv x0, iv x1, iv x2, rv sx_79, rv sx_80, rv sx_81, rv b_82, iv 0, iv 1, iv 0, iv 0, iv 1, iv 3, iv 1] [(.int 0), (.int 0)])) (fun t k => ?_) ?_
    · refine XS.iconst X_91.here hx rfl (hb hby at_189) ?_
      exact k
    refine og (B := T_91.setTop (mkF m 193 #[iv p0, iv p1, iv p2, iv p3, iv p4, iv 3, iv 0, iv x0, iv x1, iv x2, rv sx_79, rv sx_80, rv sx_81, rv b_82, iv 0, iv 1, iv 0, iv 0, iv 1, iv 3, iv 1] [])) (fun t k => ?_) ?_
    · refine XS.icmpNo X_91.here hx rfl (hb hby at_190) rfl (teq (by decide : (0 : Int32) = (0 : Int32))).2 ?_
      exact k
    refine og (B := T_91.setTop (mkF m 195 #[iv p0, iv p1, iv p2, iv p3, iv p4, iv 3, iv 0, iv x0, iv x1, iv x2, rv sx_79, rv sx_80, rv sx_81, rv b_82, iv 0, iv 1, iv 0, iv 0, iv 1, iv 3, iv 1] [(.int 1)])) (fun t k => ?_) ?_
    · refine XS.iload X_91.here hx rfl (hb hby at_193) rfl ?_
      exact k
    refine og (B := T_91.setTop (mkF m 198 #[iv p0, iv p1, iv p2, iv p3, iv p4, iv 3, iv 0, iv x0, iv x1, iv x2, rv sx_79, rv sx_80, rv sx_81, rv b_82, iv 0, iv 1, iv 0, iv 0, iv 1, iv 3, iv 1] [])) (fun t k => ?_) ?_
    · refine XS.ifNo X_91.here hx rfl (hb hby at_195) rfl ((if0 _ _).trans (feq (by decide : ¬ ((1 : Int32) = (0 : Int32)))).1) ?_
      exact k
    refine og (B := T_91.setTop (mkF m 202 #[iv p0, iv p1, iv p2, iv p3, iv p4, iv 3, iv 0, iv x0, iv x1, iv x2, rv sx_79, rv sx_80, rv sx_81, rv b_82, iv 0, iv 1, iv 0, iv 0, iv 1, iv 3, iv 1] [(.int 3), (.int 3)])) (fun t k => ?_) ?_
    · refine XS.iload X_91.here hx rfl (hb hby at_198) rfl ?_
      refine XS.iload X_91.here hx rfl (hb hby at_200) rfl ?_
      exact k
    refine og (B := T_91.setTop (mkF m 205 #[iv p0, iv p1, iv p2, iv p3, iv p4, iv 3, iv 0, iv x0, iv x1, iv x2, rv sx_79, rv sx_80, rv sx_81, rv b_82, iv 0, iv 1, iv 0, iv 0, iv 1, iv 3, iv 1] [])) (fun t k => ?_) ?_
    · refine XS.icmpNo X_91.here hx rfl (hb hby at_202) rfl (teq (by decide : (3 : Int32) = (3 : Int32))).2 ?_
      exact k
    refine og (B := T_91.setTop (mkF m 207 #[iv p0, iv p1, iv p2, iv p3, iv p4, iv 3, iv 0, iv x0, iv x1, iv x2, rv sx_79, rv sx_80, rv sx_81, rv b_82, iv 0, iv 1, iv 0, iv 0, iv 1, iv 3, iv 1] [(.int 1)])) (fun t k => ?_) ?_
    · refine XS.iload X_91.here hx rfl (hb hby at_205) rfl ?_
      exact k
    refine og (B := T_91.setTop (mkF m 210 #[iv p0, iv p1, iv p2, iv p3, iv p4, iv 3, iv 0, iv x0, iv x1, iv x2, rv sx_79, rv sx_80, rv sx_81, rv b_82, iv 0, iv 1, iv 0, iv 0, iv 1, iv 3, iv 1] [])) (fun t k => ?_) ?_
    · refine XS.ifNo X_91.here hx rfl (hb hby at_207) rfl ((if0 _ _).trans (feq (by decide : ¬ ((1 : Int32) = (0 : Int32)))).1) ?_
      exact k
    refine og (B := T_91.setTop (mkF m 215 #[iv p0, iv p1, iv p2, iv p3, iv p4, iv 3, iv 0, iv x0, iv x1, iv x2, rv sx_79, rv sx_80, rv sx_81, rv b_82, iv 0, iv 1, iv 0, iv 0, iv 1, iv 3, iv 1] [(.int 1)])) (fun t k => ?_) ?_
    · refine XS.iconst X_91.here hx rfl (hb hby at_210) ?_
      refine XS.goto X_91.here hx rfl (pc0 := 211) (pc' := 215) rfl (hb hby at_211) (by decide) (by decide) ?_
      exact k
    obtain ⟨fs, hr, hrun, hended, hRW⟩ := X_91.leaveW Si_84 (by rw [e_91]; exact c787) (v := some (.int 1)) (fun h => by rw [Bd.returns] at h; cases h)
    refine ⟨_, _, ?_, hrun, hended, _, _, rfl, ?_, hRW.1, hRW.2.1, hRW.2.2.1, hRW.2.2.2.mono (by decide) (by decide)⟩
    · show Steps p.tables e below (T_91.setTop (mkF m 215 #[iv p0, iv p1, iv p2, iv p3, iv p4, iv 3, iv 0, iv x0, iv x1, iv x2, rv sx_79, rv sx_80, rv sx_81, rv b_82, iv 0, iv 1, iv 0, iv 0, iv 1, iv 3, iv 1] [(.int 1)])) _
      exact retN X_91 hx (t := .boolean) Bd.returns (by simp) (hb hby at_215) hr
    · show Q0 Z p0 p1 p2 p3 p4 w h0 n0 _ T_91.heap _
      rw [e_91]
      exact ⟨rfl, N_91, trivial⟩
  · show ∃ s₂ o, Steps p.tables e below (s₁.setTop (mkF m 49 #[iv p0, iv p1, iv p2, iv p3, iv p4, iv 3, iv 1, iv x0, iv x1, iv x2, oU, oU, oU, oU, oU, oU, oU, oU, oU, oU, oU] [(.int 3), (.int x2), (.int x1), (.int x0)])) s₂ ∧ _
    have kk_92 := K0
    obtain ⟨_, _, ⟨T_92, L_92, k_92, n_92⟩, -, X_92, ⟨Lc_92, hQ_92, l_92, y_92, z_92⟩, st_92⟩ := Jvm.LawKit.callS X0 hx (y := own_m2) hown (mvT hZ (ow hw 1 rfl)) (mvT hZ (ow hw 2 rfl)) (mvT hZ (ow hw 3 rfl)) (mvT hZ (ow hw 4 rfl)) (by decide) (backOf (W := 0) (rmstr3 l Z av0 hw [] x0 x1 x2 w h0 n0 Z0 S_COMPACT_STRINGS hw0 hxq0 hxq1 hxq2) hZ (ow hw 4 rfl) (ow hw 3 rfl) (by decide) (by decide)) (g := (mkF m 49 #[iv p0, iv p1, iv p2, iv p3, iv p4, iv 3, iv 1, iv x0, iv x1, iv x2, oU, oU, oU, oU, oU, oU, oU, oU, oU, oU, oU] [(.int 3), (.int x2), (.int x1), (.int x0)])) rfl (by rw [hml]; rfl) (argsL := [(.int x0), (.int x1), (.int x2), (.int 3)]) (rest := []) (lenOf pd_11 rfl) rfl (by show 2 * 0 + _ ≤ _; exact Nat.le_of_eq rfl) (hb hby at_49) (fun _ _ => ⟨rfl, e0, (by decide : 0 + 3 ≤ _), (by decide : 0 + 10 ≤ _)⟩)
    dsimp only [Pt.U, Pt.locs, Pt.cells, Pt.slots] at X_92 l_92 y_92 z_92 st_92 hQ_92
    subst l_92 y_92 z_92
    obtain ⟨sx_92, sb_92, sk_92, rfl, N_92q, K_92, szq_92, sE_92, sc_92, sv_92, sV_92⟩ := hQ_92
    have N_92 := Fr.app N0 N_92q
    have c803 := H1.trans (CHr.keep K_92 all0 H1.1)
    have c804 := K0.trans K_92 all0
    have c805 := own_stak S_COMPACT_STRINGS K_92
    have Z0__92 : n0 ≤ T_92.heap.size := Nat.le_trans Z0 K_92.1
    have sz_sx_92 : h0.size ≤ sx_92 := Nat.le_trans kk_92.1 szq_92
    refine og (fun t k => st_92 t k) ?_
    refine og (B := T_92.setTop (mkF m 62 #[iv p0, iv p1, iv p2, iv p3, iv p4, iv 3, iv 1, iv x0, iv x1, iv x2, rv sx_92, oU, oU, oU, oU, oU, oU, oU, oU, oU, oU] [(.int 1), (.int x2), (.int x1), (.int x0)])) (fun t k => ?_) ?_
    · refine XS.astore X_92.here hx rfl (hb hby at_52) rfl rfl (l' := #[iv p0, iv p1, iv p2, iv p3, iv p4, iv 3, iv 1, iv x0, iv x1, iv x2, rv sx_92, oU, oU, oU, oU, oU, oU, oU, oU, oU, oU]) rfl ?_
      refine XS.iload X_92.here hx rfl (hb hby at_54) rfl ?_
      refine XS.iload X_92.here hx rfl (hb hby at_56) rfl ?_
      refine XS.iload X_92.here hx rfl (hb hby at_58) rfl ?_
      refine XS.iload X_92.here hx rfl (hb hby at_60) rfl ?_
      exact k
    have kk_93 := c804
    obtain ⟨_, _, ⟨T_93, L_93, k_93, n_93⟩, -, X_93, ⟨Lc_93, hQ_93, l_93, y_93, z_93⟩, st_93⟩ := Jvm.LawKit.callS X_92 hx (y := own_m2) hown (mvT hZ (ow hw 1 rfl)) (mvT hZ (ow hw 2 rfl)) (mvT hZ (ow hw 3 rfl)) (mvT hZ (ow hw 4 rfl)) (by decide) (backOf (W := 0) (rmstr1 l Z av0 hw [] x0 x1 x2 w T_92.heap n0 Z0__92 c805 hw0 hxq0) hZ (ow hw 4 rfl) (ow hw 3 rfl) (by decide) (by decide)) (g := (mkF m 62 #[iv p0, iv p1, iv p2, iv p3, iv p4, iv 3, iv 1, iv x0, iv x1, iv x2, rv sx_92, oU, oU, oU, oU, oU, oU, oU, oU, oU, oU] [(.int 1), (.int x2), (.int x1), (.int x0)])) rfl (by rw [hml]; rfl) (argsL := [(.int x0), (.int x1), (.int x2), (.int 1)]) (rest := []) (lenOf pd_11 rfl) rfl (by show 2 * 0 + _ ≤ _; exact Nat.le_of_eq rfl) (hb hby at_62) (fun _ _ => ⟨rfl, rfl, (by decide : 3 + 3 ≤ _), (by decide : 10 + 6 ≤ _)⟩)
    dsimp only [Pt.U, Pt.locs, Pt.cells, Pt.slots] at X_93 l_93 y_93 z_93 st_93 hQ_93
    subst l_93 y_93 z_93
    obtain ⟨sx_93, sb_93, sk_93, rfl, N_93q, K_93, szq_93, sE_93, sc_93, sv_93, sV_93⟩ := hQ_93
    have N_93 := Fr.app N_92 N_93q
    have c806 := c803.trans (CHr.keep K_93 all0 c803.1)
    have c807 := c804.trans K_93 all0
    have c808 := own_stak c805 K_93
    have c809 := sE_92.keep K_93
    have c810 := sc_92.keep K_93 nin0
    have c811 := sv_92.keep K_93 nin0
    have c812 := sV_92.keep K_93 nin0
    have Z0__93 : n0 ≤ T_93.heap.size := Nat.le_trans Z0__92 K_93.1
    have sz_sx_93 : h0.size ≤ sx_93 := Nat.le_trans kk_93.1 szq_93
    refine og (fun t k => st_93 t k) ?_
    refine og (B := T_93.setTop (mkF m 77 #[iv p0, iv p1, iv p2, iv p3, iv p4, iv 3, iv 1, iv x0, iv x1, iv x2, rv sx_92, rv sx_93, oU, oU, oU, oU, oU, oU, oU, oU, oU] [(.int 3), (.int 1), (.int x2), (.int x1), (.int x0)])) (fun t k => ?_) ?_
    · refine XS.astore X_93.here hx rfl (hb hby at_65) rfl rfl (l' := #[iv p0, iv p1, iv p2, iv p3, iv p4, iv 3, iv 1, iv x0, iv x1, iv x2, rv sx_92, rv sx_93, oU, oU, oU, oU, oU, oU, oU, oU, oU]) rfl ?_
      refine XS.iload X_93.here hx rfl (hb hby at_67) rfl ?_
      refine XS.iload X_93.here hx rfl (hb hby at_69) rfl ?_
      refine XS.iload X_93.here hx rfl (hb hby at_71) rfl ?_
      refine XS.iload X_93.here hx rfl (hb hby at_73) rfl ?_
      refine XS.iload X_93.here hx rfl (hb hby at_75) rfl ?_
      exact k
    have kk_94 := c807
    obtain ⟨_, _, ⟨T_94, L_94, k_94, n_94⟩, -, X_94, ⟨Lc_94, hQ_94, l_94, y_94, z_94⟩, st_94⟩ := Jvm.LawKit.callS X_93 hx (y := own_m6) hown (mvT hZ (ow hw 27 rfl)) (mvT hZ (ow hw 28 rfl)) (mvT hZ (ow hw 3 rfl)) (mvT hZ (ow hw 29 rfl)) (by decide) (backOf (W := 0) (rmsfx1_3 l Z av0 hw [] x0 x1 x2 w T_93.heap n0 Z0__93 c808 hw0 hxq1 hxq2) hZ (ow hw 29 rfl) (ow hw 3 rfl) (by decide) (by decide)) (g := (mkF m 77 #[iv p0, iv p1, iv p2, iv p3, iv p4, iv 3, iv 1, iv x0, iv x1, iv x2, rv sx_92, rv sx_93, oU, oU, oU, oU, oU, oU, oU, oU, oU] [(.int 3), (.int 1), (.int x2), (.int x1), (.int x0)])) rfl (by rw [hml]; rfl) (argsL := [(.int x0), (.int x1), (.int x2), (.int 1), (.int 3)]) (rest := []) (lenOf pd_16 rfl) rfl (by show 2 * 0 + _ ≤ _; exact Nat.le_of_eq rfl) (hb hby at_77) (fun _ _ => ⟨rfl, rfl, (by decide : 6 + 3 ≤ _), (by decide : 16 + 8 ≤ _)⟩)
    dsimp only [Pt.U, Pt.locs, Pt.cells, Pt.slots] at X_94 l_94 y_94 z_94 st_94 hQ_94
    subst l_94 y_94 z_94
    obtain ⟨sx_94, sb_94, sk_94, rfl, N_94q, K_94, szq_94, sE_94, sc_94, sv_94, sV_94⟩ := hQ_94
    have N_94 := Fr.app N_93 N_94q
    have c813 := c806.trans (CHr.keep K_94 all0 c806.1)
    have c814 := c807.trans K_94 all0
    have c815 := own_stak c808 K_94
    have c816 := c809.keep K_94
    have c817 := c810.keep K_94 nin0
    have c818 := c811.keep K_94 nin0
    have c819 := c812.keep K_94 nin0
    have c820 := sE_93.keep K_94
    have c821 := sc_93.keep K_94 nin0
    have c822 := sv_93.keep K_94 nin0
    have c823 := sV_93.keep K_94 nin0
    have Z0__94 : n0 ≤ T_94.heap.size := Nat.le_trans Z0__93 K_94.1
    have sz_sx_94 : h0.size ≤ sx_94 := Nat.le_trans kk_94.1 szq_94
    refine og (fun t k => st_94 t k) ?_
    refine og (B := T_94.setTop (mkF m 82 #[iv p0, iv p1, iv p2, iv p3, iv p4, iv 3, iv 1, iv x0, iv x1, iv x2, rv sx_92, rv sx_93, rv sx_94, oU, oU, oU, oU, oU, oU, oU, oU] [])) (fun t k => ?_) ?_
    · refine XS.astore X_94.here hx rfl (hb hby at_80) rfl rfl (l' := #[iv p0, iv p1, iv p2, iv p3, iv p4, iv 3, iv 1, iv x0, iv x1, iv x2, rv sx_92, rv sx_93, rv sx_94, oU, oU, oU, oU, oU, oU, oU, oU]) rfl ?_
      exact k
    obtain ⟨T_95, h_95, X_95, e_95, E_95, A_95, D_95, -, st_95⟩ := newO X_94 hx hZ hown (ow hw 30 rfl) (ow hw 31 rfl) (ow hw 32 rfl) rfl (g := (mkF m 82 #[iv p0, iv p1, iv p2, iv p3, iv p4, iv 3, iv 1, iv x0, iv x1, iv x2, rv sx_92, rv sx_93, rv sx_94, oU, oU, oU, oU, oU, oU, oU, oU] [])) rfl (hb hby at_82) (by decide) (by decide)
    obtain ⟨b_95, g_95⟩ : ∃ z, z = T_94.heap.size := ⟨_, rfl⟩
    rw [← g_95] at A_95 D_95 st_95
    have g_b_95 : n0 ≤ b_95 := Nat.le_trans Z0__94 (Nat.le_of_eq g_95.symm)
    have sz_b_95 : h0.size ≤ b_95 := Nat.le_trans c814.1 (Nat.le_of_eq g_95.symm)
    have sf_b_95 : Safe Z own_EL s.vm T_94.heap b_95 := Safe.new (Nat.le_of_eq g_95.symm)
    have ne_sx_92_b_95 : sx_92 ≠ b_95 := Nat.ne_of_lt (Nat.lt_of_lt_of_le (c816).lt (Nat.le_of_eq g_95.symm))
    have ne_sb_92_b_95 : sb_92 ≠ b_95 := Nat.ne_of_lt (Nat.lt_of_lt_of_le (c819).lt (Nat.le_of_eq g_95.symm))
    have ne_sx_93_b_95 : sx_93 ≠ b_95 := Nat.ne_of_lt (Nat.lt_of_lt_of_le (c820).lt (Nat.le_of_eq g_95.symm))
    have ne_sb_93_b_95 : sb_93 ≠ b_95 := Nat.ne_of_lt (Nat.lt_of_lt_of_le (c823).lt (Nat.le_of_eq g_95.symm))
    have ne_sx_94_b_95 : sx_94 ≠ b_95 := Nat.ne_of_lt (Nat.lt_of_lt_of_le (sE_94).lt (Nat.le_of_eq g_95.symm))
    have ne_sb_94_b_95 : sb_94 ≠ b_95 := Nat.ne_of_lt (Nat.lt_of_lt_of_le (sV_94).lt (Nat.le_of_eq g_95.symm))
    have c824 := Safe.ext E_95 c813.1 sf_b_95
    have c825 := c813.trans (CHr.ext E_95 c813.1)
    have c826 := c814.ext E_95
    have c827 := c815.ext E_95
    have c828 := c816.ext E_95
    have c829 := c817.ext E_95
    have c830 := c818.ext E_95
    have c831 := c819.ext E_95
    have c832 := c820.ext E_95
    have c833 := c821.ext E_95
    have c834 := c822.ext E_95
    have c835 := c823.ext E_95
    have c836 := sE_94.ext E_95
    have c837 := sc_94.ext E_95
    have c838 := sv_94.ext E_95
    have c839 := sV_94.ext E_95
    have Z0__95 : n0 ≤ h_95.size := Nat.le_trans Z0__94 E_95.1
    have F_source_b_95 : Fld Z h_95 b_95 "com/example/cutoff/cutoff/store/TextCursor" "source" "Ljava/lang/String;" .null := D_95 (Or.inr (ow hw 39 rfl)) (ty := (.object "java/lang/String")) (by decide)
    have F_text_b_95 : Fld Z h_95 b_95 "com/example/cutoff/cutoff/store/TextCursor" "text" "Ljava/lang/String;" .null := D_95 (Or.inr (ow hw 41 rfl)) (ty := (.object "java/lang/String")) (by decide)
    have F_firstLine_b_95 : Fld Z h_95 b_95 "com/example/cutoff/cutoff/store/TextCursor" "firstLine" "I" (.int 0) := D_95 (Or.inr (ow hw 43 rfl)) (ty := .int) (by decide)
    have F_end_b_95 : Fld Z h_95 b_95 "com/example/cutoff/cutoff/store/TextCursor" "end" "Ljava/lang/String;" .null := D_95 (Or.inr (ow hw 86 rfl)) (ty := (.object "java/lang/String")) (by decide)
    have F_position_b_95 : Fld Z h_95 b_95 "com/example/cutoff/cutoff/store/TextCursor" "position" "I" (.int 0) := D_95 (Or.inl (ow hw 93 rfl)) (ty := .int) (by decide)
    refine og (fun t k => st_95 t k) ?_
    refine og (B := T_95.setTop (mkF m 86 #[iv p0, iv p1, iv p2, iv p3, iv p4, iv 3, iv 1, iv x0, iv x1, iv x2, rv sx_92, rv sx_93, rv sx_94, oU, oU, oU, oU, oU, oU, oU, oU] [(.ref b_95), (.ref b_95)])) (fun t k => ?_) ?_
    · refine XS.dup X_95.here hx rfl (hb hby at_85) rfl rfl ?_
      exact k
    have wS_96 := own_wS hw
    obtain ⟨b_96, T_96, h_96, k1_96, d_96, kc_96, X_96, e_96, E_96, Si_96, ls_96, hZ_96, hown_96, A_96, Fc_96, Fv_96, V_96, -, -, CH_96, -, NE_96, st_96⟩ := ldcCH (s := s) (vm0 := s.vm) (show Stand p l e room_1 (s.setVm s.vm) m #[(.int p0), (.int p1), (.int p2), (.int p3), (.int p4)] below meth c T_95 _ _ _ from X_95) hx hZ hown (ow hw 33 rfl) wS_96 e_95 ((State.WarmedH.refl s).since 0) (Nat.zero_le _) hEL (List.mem_of_getElem? (i := 1) rfl) c825.1 (vs := [(.int (115 : Int32))]) (z := (1 : Int32)) ⟨by decide, rfl⟩ (by decide) rfl (g := (mkF m 86 #[iv p0, iv p1, iv p2, iv p3, iv p4, iv 3, iv 1, iv x0, iv x1, iv x2, rv sx_92, rv sx_93, rv sx_94, oU, oU, oU, oU, oU, oU, oU, oU] [(.ref b_95), (.ref b_95)])) rfl (hb hby at_86) (n := 4) (by decide) (by decide) (by decide) (by decide)
    have c840 := CHr.safe CH_96 (F_source_b_95).lt c824
    have c841 := c825.trans CH_96
    have ne_b_95_b_96 : b_95 ≠ b_96 := (NE_96 _ c840).1
    have ne_b_95_d_96 : b_95 ≠ d_96 := (NE_96 _ c840).2
    have c842 := c826.ext E_96
    have c843 := c827.ext E_96
    have c844 := c828.ext E_96
    have c845 := c829.ext E_96
    have c846 := c830.ext E_96
    have c847 := c831.ext E_96
    have c848 := c832.ext E_96
    have c849 := c833.ext E_96
    have c850 := c834.ext E_96
    have c851 := c835.ext E_96
    have c852 := c836.ext E_96
    have c853 := c837.ext E_96
    have c854 := c838.ext E_96
    have c855 := c839.ext E_96
    have c856 := F_source_b_95.ext E_96
    have c857 := F_text_b_95.ext E_96
    have c858 := F_firstLine_b_95.ext E_96
    have c859 := F_end_b_95.ext E_96
    have c860 := F_position_b_95.ext E_96
    have c861 := A_95.ext E_96
    have Z0__96 : n0 ≤ h_96.size := Nat.le_trans Z0__95 E_96.1
    refine og (fun t k => st_96 t k) ?_
    refine og (B := T_96.setTop (mkF m 91 #[iv p0, iv p1, iv p2, iv p3, iv p4, iv 3, iv 1, iv x0, iv x1, iv x2, rv sx_92, rv sx_93, rv sx_94, oU, oU, oU, oU, oU, oU, oU, oU] [(.int 1), (.ref sx_92), (.ref b_96), (.ref b_95), (.ref b_95)])) (fun t k => ?_) ?_
    · refine XS.aload X_96.here hx rfl (hb hby at_88) rfl rfl ?_
      refine XS.iconst X_96.here hx rfl (hb hby at_90) ?_
      exact k
    obtain ⟨_, _, ⟨T_97, L_97, k_97, n_97⟩, -, Xb_97, Sb_97, gs_97, ⟨Lc_97, hQ_97, l_97, y_97, z_97, CH_97⟩, st_97⟩ := X_96.specialBackS hx (y := own_m7) rfl hown_96 (mvT hZ_96 (ow hw 34 rfl)) (mvT hZ_96 (ow hw 35 rfl)) (mvT hZ_96 (ow hw 36 rfl)) (by decide) (backOfSH (s := s) (vm0 := T_96.vm) (W := 1) (rmtc l Z av0 hw [] b_95 b_96 sx_92 .null .null (.int 0) .null sb_92 sk_92 w (3 : Int32) [(.int (own_byte (nar .char x0))), (.int (own_byte (nar .char x1))), (.int (own_byte (nar .char x2)))] (fun c => own_ixl3 (own_byte (nar .char x0)) (own_byte (nar .char x1)) (own_byte (nar .char x2)) c) h_96 n0 Z0__96 c861 c856 c857 c858 c859 c860 g_b_95 c844 c845 c846 c843 hw0 c847 ne_sx_92_b_95 ne_sb_92_b_95 hEL (fun h' c z e f1 f2 s v => rmsxa3 l Z av0 hw [] sx_92 c sb_92 sk_92 w (own_byte (nar .char x0)) (own_byte (nar .char x1)) (own_byte (nar .char x2)) h' n0 z e f1 f2 s hw0 v)) hZ_96 (ow hw 36 rfl) (ow hw 32 rfl) (by decide) (by decide) hEL c841.1) (g := (mkF m 91 #[iv p0, iv p1, iv p2, iv p3, iv p4, iv 3, iv 1, iv x0, iv x1, iv x2, rv sx_92, rv sx_93, rv sx_94, oU, oU, oU, oU, oU, oU, oU, oU] [(.int 1), (.ref sx_92), (.ref b_96), (.ref b_95), (.ref b_95)])) rfl (by rw [hml]; rfl) (Steps.refl _) (a := b_95) (argsL := [(.ref b_96), (.ref sx_92), (.int 1)]) (rest := [(.ref b_95)]) (lenOf pd_17 rfl) rfl (by show 2 * 0 + _ ≤ _; exact Nat.le_of_eq rfl) (hb hby at_91) (fun _ _ => ⟨rfl, e_96, (by decide : 12 + 2 ≤ _), (by decide : 37 + 80 ≤ _)⟩)
    dsimp only [Pt.U, Pt.locs, Pt.cells, Pt.slots] at Xb_97 Sb_97 gs_97 l_97 y_97 z_97 st_97 hQ_97 CH_97
    subst l_97 y_97 z_97
    obtain ⟨rfl, N_97q, K_97, Ft_97, Fp_97⟩ := hQ_97
    have N_97 := Fr.app N_94 N_97q
    obtain ⟨X_97, Si_97, hZ_97, hown_97⟩ := rebS (s := s) (vm0 := T_96.vm) Si_96 (Nat.le_refl _) Xb_97 Sb_97 (Nat.le_trans ls_96 K_97.1) hZ_96 hown_96
    have c862 := CHr.safe CH_97 (c856).lt c840
    have c863 := c841.trans CH_97
    have c864 := Nat.le_trans ls_96 K_97.1
    have c865 := c842.trans K_97 (allS (Or.inr sz_b_95) all0)
    have c866 := own_stake c843 K_97 c861
    have c867 := c844.keep K_97
    have c868 := c845.keep K_97 (ninS ne_sx_92_b_95 nin0)
    have c869 := c846.keep K_97 (ninS ne_sx_92_b_95 nin0)
    have c870 := c847.keep K_97 (ninS ne_sb_92_b_95 nin0)
    have c871 := c848.keep K_97
    have c872 := c849.keep K_97 (ninS ne_sx_93_b_95 nin0)
    have c873 := c850.keep K_97 (ninS ne_sx_93_b_95 nin0)
    have c874 := c851.keep K_97 (ninS ne_sb_93_b_95 nin0)
    have c875 := c852.keep K_97
    have c876 := c853.keep K_97 (ninS ne_sx_94_b_95 nin0)
    have c877 := c854.keep K_97 (ninS ne_sx_94_b_95 nin0)
    have c878 := c855.keep K_97 (ninS ne_sb_94_b_95 nin0)
    have c879 := c861.keep K_97
    have Z0__97 : n0 ≤ T_97.heap.size := Nat.le_trans Z0__96 K_97.1
    refine og (fun t k => st_97.trans k) ?_
    refine og (B := T_97.setTop (mkF m 98 #[iv p0, iv p1, iv p2, iv p3, iv p4, iv 3, iv 1, iv x0, iv x1, iv x2, rv sx_92, rv sx_93, rv sx_94, rv b_95, oU, oU, oU, oU, oU, oU, oU] [(.ref b_95)])) (fun t k => ?_) ?_
    · refine XS.astore X_97.here hx rfl (hb hby at_94) rfl rfl (l' := #[iv p0, iv p1, iv p2, iv p3, iv p4, iv 3, iv 1, iv x0, iv x1, iv x2, rv sx_92, rv sx_93, rv sx_94, rv b_95, oU, oU, oU, oU, oU, oU, oU]) rfl ?_
      refine XS.aload X_97.here hx rfl (hb hby at_96) rfl rfl ?_
      exact k
    obtain ⟨cq_98, kq_98, q_98a, q_98b, q_98c⟩ := isOf hZ_97 rfl c879
    obtain ⟨_, _, ⟨T_98, L_98, k_98, n_98⟩, -, X_98, ⟨Lc_98, hQ_98, l_98, y_98, z_98⟩, st_98⟩ := X_97.virtualBack hx (y := own_m17) (z := own_m17) hown_97 (mvT hZ_97 (ow hw 87 rfl)) (mvT hZ_97 (ow hw 88 rfl)) (notFace_of_selects (args := #[]) (mvT hZ_97 (ow hw 90 rfl))) (mvT hZ_97 (ow hw 90 rfl)) (mvT hZ_97 (ow hw 89 rfl)) (by decide) (backOf (W := 0) (rm16 l Z av0 hw [] b_95 (0 : Int32) sx_92 sb_92 sk_92 w (3 : Int32) [(.int (own_byte (nar .char x0))), (.int (own_byte (nar .char x1))), (.int (own_byte (nar .char x2)))] T_97.heap n0 Z0__97 Fp_97 Ft_97 c867 c868 c869 c866 hw0 c870) hZ_97 (ow hw 91 rfl) (ow hw 32 rfl) (by decide) (by decide)) q_98a q_98c (g := (mkF m 98 #[iv p0, iv p1, iv p2, iv p3, iv p4, iv 3, iv 1, iv x0, iv x1, iv x2, rv sx_92, rv sx_93, rv sx_94, rv b_95, oU, oU, oU, oU, oU, oU, oU] [(.ref b_95)])) rfl (by rw [hml]; rfl) (Steps.refl _) (argsL := []) (rest := []) (lenOf pd_3 rfl) rfl (by show 2 * 0 + _ ≤ _; exact Nat.le_of_eq rfl) (hb hby at_98) (fun _ _ => ⟨rfl, rfl, (by decide : 14 + 0 ≤ _), (by decide : 117 + 0 ≤ _)⟩)
    dsimp only [Pt.U, Pt.locs, Pt.cells, Pt.slots] at X_98 l_98 y_98 z_98 st_98 hQ_98
    subst l_98 y_98 z_98
    obtain ⟨hv_98, N_98q, e_98⟩ := hQ_98
    have N_98 := Fr.app N_97 N_98q
    rw [show own_ge (0 : Int32) (3 : Int32) = (0 : Int32) from by decide] at hv_98
    subst hv_98
    refine og (fun t k => st_98.trans k) ?_
    refine og (B := T_98.setTop (mkF m 107 #[iv p0, iv p1, iv p2, iv p3, iv p4, iv 3, iv 1, iv x0, iv x1, iv x2, rv sx_92, rv sx_93, rv sx_94, rv b_95, iv 0, oU, oU, oU, oU, oU, oU] [(.ref sx_93), (.ref b_95)])) (fun t k => ?_) ?_
    · refine XS.istore X_98.here hx rfl (hb hby at_101) rfl (l' := #[iv p0, iv p1, iv p2, iv p3, iv p4, iv 3, iv 1, iv x0, iv x1, iv x2, rv sx_92, rv sx_93, rv sx_94, rv b_95, iv 0, oU, oU, oU, oU, oU, oU]) rfl ?_
      refine XS.aload X_98.here hx rfl (hb hby at_103) rfl rfl ?_
      refine XS.aload X_98.here hx rfl (hb hby at_105) rfl rfl ?_
      exact k
    obtain ⟨cq_99, kq_99, q_99a, q_99b, q_99c⟩ := isOf hZ_97 e_98 c879
    obtain ⟨_, _, ⟨T_99, L_99, k_99, n_99⟩, -, X_99, ⟨Lc_99, hQ_99, l_99, y_99, z_99⟩, st_99⟩ := X_98.virtualBack hx (y := own_m18) (z := own_m18) hown_97 (mvT hZ_97 (ow hw 95 rfl)) (mvT hZ_97 (ow hw 96 rfl)) (notFace_of_selects (args := #[]) (mvT hZ_97 (ow hw 98 rfl))) (mvT hZ_97 (ow hw 98 rfl)) (mvT hZ_97 (ow hw 97 rfl)) (by decide) (backOf (W := 0) (rmco l Z av0 hw [] b_95 sx_93 sx_92 (0 : Int32) sb_92 sb_93 sk_92 sk_93 w (3 : Int32) (1 : Int32) [(.int (own_byte (nar .char x0))), (.int (own_byte (nar .char x1))), (.int (own_byte (nar .char x2)))] [(.int (own_byte (nar .char x0)))] T_97.heap n0 Z0__97 c879 Ft_97 Fp_97 g_b_95 c867 c868 c869 c871 c872 c873 c866 hw0 c870 c874 ne_sx_93_b_95 ne_sb_93_b_95 (by decide) (by decide) (rmmm1 l Z av0 hw [] sb_92 (0 : Int32) sb_93 sk_92 sk_93 (3 : Int32) [(.int (own_byte (nar .char x0))), (.int (own_byte (nar .char x1))), (.int (own_byte (nar .char x2)))] (own_byte (nar .char x0)) T_97.heap n0 Z0__97 c870 c874 (by decide) rfl)) hZ_97 (ow hw 99 rfl) (ow hw 32 rfl) (by decide) (by decide)) q_99a q_99c (g := (mkF m 107 #[iv p0, iv p1, iv p2, iv p3, iv p4, iv 3, iv 1, iv x0, iv x1, iv x2, rv sx_92, rv sx_93, rv sx_94, rv b_95, iv 0, oU, oU, oU, oU, oU, oU] [(.ref sx_93), (.ref b_95)])) rfl (by rw [hml]; rfl) (Steps.refl _) (argsL := [(.ref sx_93)]) (rest := []) (lenOf pd_15 rfl) rfl (by show 2 * 0 + _ ≤ _; exact Nat.le_of_eq rfl) (hb hby at_107) (fun _ _ => ⟨rfl, e_98, (by decide : 14 + 0 ≤ _), (by decide : 117 + 0 ≤ _)⟩)
    dsimp only [Pt.U, Pt.locs, Pt.cells, Pt.slots] at X_99 l_99 y_99 z_99 st_99 hQ_99
    subst l_99 y_99 z_99
    obtain ⟨rfl, N_99q, K_99, Fp_99, Ft_99⟩ := hQ_99
    have N_99 := Fr.app N_98 N_99q
    have c880 := Safe.keep K_99 (allS c862 all0) c863.1 c862
    have c881 := c863.trans (CHr.keep K_99 (allS c862 all0) c863.1)
    have c882 := Nat.le_trans (Nat.le_refl _) K_99.1
    have c883 := c865.trans K_99 (allS (Or.inr sz_b_95) all0)
    have c884 := own_stake c866 K_99 c879
    have c885 := c867.keep K_99
    have c886 := c868.keep K_99 (ninS ne_sx_92_b_95 nin0)
    have c887 := c869.keep K_99 (ninS ne_sx_92_b_95 nin0)
    have c888 := c870.keep K_99 (ninS ne_sb_92_b_95 nin0)
    have c889 := c871.keep K_99
    have c890 := c872.keep K_99 (ninS ne_sx_93_b_95 nin0)
    have c891 := c873.keep K_99 (ninS ne_sx_93_b_95 nin0)
    have c892 := c874.keep K_99 (ninS ne_sb_93_b_95 nin0)
    have c893 := c875.keep K_99
    have c894 := c876.keep K_99 (ninS ne_sx_94_b_95 nin0)
    have c895 := c877.keep K_99 (ninS ne_sx_94_b_95 nin0)
    have c896 := c878.keep K_99 (ninS ne_sb_94_b_95 nin0)
    have c897 := c879.keep K_99
    have Z0__99 : n0 ≤ T_99.heap.size := Nat.le_trans Z0__97 K_99.1
    have Fq_99 : Fld Z T_99.heap b_95 "com/example/cutoff/cutoff/store/TextCursor" "position" "I" (.int (1 : Int32)) := Fp_99
    refine og (fun t k => st_99.trans k) ?_
    refine og (B := T_99.setTop (mkF m 114 #[iv p0, iv p1, iv p2, iv p3, iv p4, iv 3, iv 1, iv x0, iv x1, iv x2, rv sx_92, rv sx_93, rv sx_94, rv b_95, iv 0, iv 1, oU, oU, oU, oU, oU] [(.ref b_95)])) (fun t k => ?_) ?_
    · refine XS.istore X_99.here hx rfl (hb hby at_110) rfl (l' := #[iv p0, iv p1, iv p2, iv p3, iv p4, iv 3, iv 1, iv x0, iv x1, iv x2, rv sx_92, rv sx_93, rv sx_94, rv b_95, iv 0, iv 1, oU, oU, oU, oU, oU]) rfl ?_
      refine XS.aload X_99.here hx rfl (hb hby at_112) rfl rfl ?_
      exact k
    obtain ⟨cq_100, kq_100, q_100a, q_100b, q_100c⟩ := isOf hZ_97 rfl c897
    obtain ⟨_, _, ⟨T_100, L_100, k_100, n_100⟩, -, X_100, ⟨Lc_100, hQ_100, l_100, y_100, z_100⟩, st_100⟩ := X_99.virtualBack hx (y := own_m22) (z := own_m22) hown_97 (mvT hZ_97 (ow hw 114 rfl)) (mvT hZ_97 (ow hw 115 rfl)) (notFace_of_selects (args := #[]) (mvT hZ_97 (ow hw 117 rfl))) (mvT hZ_97 (ow hw 117 rfl)) (mvT hZ_97 (ow hw 116 rfl)) (by decide) (backOf (W := 0) (rm21 l Z av0 hw [] b_95 (1 : Int32) T_99.heap n0 Z0__99 Fq_99) hZ_97 (ow hw 118 rfl) (ow hw 32 rfl) (by decide) (by decide)) q_100a q_100c (g := (mkF m 114 #[iv p0, iv p1, iv p2, iv p3, iv p4, iv 3, iv 1, iv x0, iv x1, iv x2, rv sx_92, rv sx_93, rv sx_94, rv b_95, iv 0, iv 1, oU, oU, oU, oU, oU] [(.ref b_95)])) rfl (by rw [hml]; rfl) (Steps.refl _) (argsL := []) (rest := []) (lenOf pd_4 rfl) rfl (by show 2 * 0 + _ ≤ _; exact Nat.le_of_eq rfl) (hb hby at_114) (fun _ _ => ⟨rfl, rfl, (by decide : 14 + 0 ≤ _), (by decide : 117 + 0 ≤ _)⟩)
    dsimp only [Pt.U, Pt.locs, Pt.cells, Pt.slots] at X_100 l_100 y_100 z_100 st_100 hQ_100
    subst l_100 y_100 z_100
    obtain ⟨rfl, N_100q, e_100⟩ := hQ_100
    have N_100 := Fr.app N_99 N_100q
    refine og (fun t k => st_100.trans k) ?_
    refine og (B := T_100.setTop (mkF m 121 #[iv p0, iv p1, iv p2, iv p3, iv p4, iv 3, iv 1, iv x0, iv x1, iv x2, rv sx_92, rv sx_93, rv sx_94, rv b_95, iv 0, iv 1, iv 1, oU, oU, oU, oU] [(.ref b_95)])) (fun t k => ?_) ?_
    · refine XS.istore X_100.here hx rfl (hb hby at_117) rfl (l' := #[iv p0, iv p1, iv p2, iv p3, iv p4, iv 3, iv 1, iv x0, iv x1, iv x2, rv sx_92, rv sx_93, rv sx_94, rv b_95, iv 0, iv 1, iv 1, oU, oU, oU, oU]) rfl ?_
      refine XS.aload X_100.here hx rfl (hb hby at_119) rfl rfl ?_
      exact k
    obtain ⟨cq_101, kq_101, q_101a, q_101b, q_101c⟩ := isOf hZ_97 e_100 c897
    obtain ⟨_, _, ⟨T_101, L_101, k_101, n_101⟩, -, X_101, ⟨Lc_101, hQ_101, l_101, y_101, z_101⟩, st_101⟩ := X_100.virtualBack hx (y := own_m17) (z := own_m17) hown_97 (mvT hZ_97 (ow hw 87 rfl)) (mvT hZ_97 (ow hw 88 rfl)) (notFace_of_selects (args := #[]) (mvT hZ_97 (ow hw 90 rfl))) (mvT hZ_97 (ow hw 90 rfl)) (mvT hZ_97 (ow hw 89 rfl)) (by decide) (backOf (W := 0) (rm16 l Z av0 hw [] b_95 (1 : Int32) sx_92 sb_92 sk_92 w (3 : Int32) [(.int (own_byte (nar .char x0))), (.int (own_byte (nar .char x1))), (.int (own_byte (nar .char x2)))] T_99.heap n0 Z0__99 Fq_99 Ft_99 c885 c886 c887 c884 hw0 c888) hZ_97 (ow hw 91 rfl) (ow hw 32 rfl) (by decide) (by decide)) q_101a q_101c (g := (mkF m 121 #[iv p0, iv p1, iv p2, iv p3, iv p4, iv 3, iv 1, iv x0, iv x1, iv x2, rv sx_92, rv sx_93, rv sx_94, rv b_95, iv 0, iv 1, iv 1, oU, oU, oU, oU] [(.ref b_95)])) rfl (by rw [hml]; rfl) (Steps.refl _) (argsL := []) (rest := []) (lenOf pd_3 rfl) rfl (by show 2 * 0 + _ ≤ _; exact Nat.le_of_eq rfl) (hb hby at_121) (fun _ _ => ⟨rfl, e_100, (by decide : 14 + 0 ≤ _), (by decide : 117 + 0 ≤ _)⟩)
    dsimp only [Pt.U, Pt.locs, Pt.cells, Pt.slots] at X_101 l_101 y_101 z_101 st_101 hQ_101
    subst l_101 y_101 z_101
    obtain ⟨hv_101, N_101q, e_101⟩ := hQ_101
    have N_101 := Fr.app N_100 N_101q
    rw [show own_ge (1 : Int32) (3 : Int32) = (0 : Int32) from by decide] at hv_101
    subst hv_101
    refine og (fun t k => st_101.trans k) ?_
    refine og (B := T_101.setTop (mkF m 130 #[iv p0, iv p1, iv p2, iv p3, iv p4, iv 3, iv 1, iv x0, iv x1, iv x2, rv sx_92, rv sx_93, rv sx_94, rv b_95, iv 0, iv 1, iv 1, iv 0, oU, oU, oU] [(.ref sx_94), (.ref b_95)])) (fun t k => ?_) ?_
    · refine XS.istore X_101.here hx rfl (hb hby at_124) rfl (l' := #[iv p0, iv p1, iv p2, iv p3, iv p4, iv 3, iv 1, iv x0, iv x1, iv x2, rv sx_92, rv sx_93, rv sx_94, rv b_95, iv 0, iv 1, iv 1, iv 0, oU, oU, oU]) rfl ?_
      refine XS.aload X_101.here hx rfl (hb hby at_126) rfl rfl ?_
      refine XS.aload X_101.here hx rfl (hb hby at_128) rfl rfl ?_
      exact k
    obtain ⟨cq_102, kq_102, q_102a, q_102b, q_102c⟩ := isOf hZ_97 e_101 c897
    obtain ⟨_, _, ⟨T_102, L_102, k_102, n_102⟩, -, X_102, ⟨Lc_102, hQ_102, l_102, y_102, z_102⟩, st_102⟩ := X_101.virtualBack hx (y := own_m18) (z := own_m18) hown_97 (mvT hZ_97 (ow hw 95 rfl)) (mvT hZ_97 (ow hw 96 rfl)) (notFace_of_selects (args := #[]) (mvT hZ_97 (ow hw 98 rfl))) (mvT hZ_97 (ow hw 98 rfl)) (mvT hZ_97 (ow hw 97 rfl)) (by decide) (backOf (W := 0) (rmco l Z av0 hw [] b_95 sx_94 sx_92 (1 : Int32) sb_92 sb_94 sk_92 sk_94 w (3 : Int32) (2 : Int32) [(.int (own_byte (nar .char x0))), (.int (own_byte (nar .char x1))), (.int (own_byte (nar .char x2)))] [(.int (own_byte (nar .char x1))), (.int (own_byte (nar .char x2)))] T_99.heap n0 Z0__99 c897 Ft_99 Fq_99 g_b_95 c885 c886 c887 c893 c894 c895 c884 hw0 c888 c896 ne_sx_94_b_95 ne_sb_94_b_95 (by decide) (by decide) (rmmm2 l Z av0 hw [] sb_92 (1 : Int32) sb_94 sk_92 sk_94 (3 : Int32) [(.int (own_byte (nar .char x0))), (.int (own_byte (nar .char x1))), (.int (own_byte (nar .char x2)))] (own_byte (nar .char x1)) (own_byte (nar .char x2)) T_99.heap n0 Z0__99 c888 c896 (by decide) (by decide) rfl rfl)) hZ_97 (ow hw 99 rfl) (ow hw 32 rfl) (by decide) (by decide)) q_102a q_102c (g := (mkF m 130 #[iv p0, iv p1, iv p2, iv p3, iv p4, iv 3, iv 1, iv x0, iv x1, iv x2, rv sx_92, rv sx_93, rv sx_94, rv b_95, iv 0, iv 1, iv 1, iv 0, oU, oU, oU] [(.ref sx_94), (.ref b_95)])) rfl (by rw [hml]; rfl) (Steps.refl _) (argsL := [(.ref sx_94)]) (rest := []) (lenOf pd_15 rfl) rfl (by show 2 * 0 + _ ≤ _; exact Nat.le_of_eq rfl) (hb hby at_130) (fun _ _ => ⟨rfl, e_101, (by decide : 14 + 0 ≤ _), (by decide : 117 + 0 ≤ _)⟩)
    dsimp only [Pt.U, Pt.locs, Pt.cells, Pt.slots] at X_102 l_102 y_102 z_102 st_102 hQ_102
    subst l_102 y_102 z_102
    obtain ⟨rfl, N_102q, K_102, Fp_102, Ft_102⟩ := hQ_102
    have N_102 := Fr.app N_101 N_102q
    have c898 := Safe.keep K_102 (allS c880 all0) c881.1 c880
    have c899 := c881.trans (CHr.keep K_102 (allS c880 all0) c881.1)
    have c900 := Nat.le_trans c882 K_102.1
    have c901 := c883.trans K_102 (allS (Or.inr sz_b_95) all0)
    have c902 := own_stake c884 K_102 c897
    have c903 := c885.keep K_102
    have c904 := c886.keep K_102 (ninS ne_sx_92_b_95 nin0)
    have c905 := c887.keep K_102 (ninS ne_sx_92_b_95 nin0)
    have c906 := c888.keep K_102 (ninS ne_sb_92_b_95 nin0)
    have c907 := c889.keep K_102
    have c908 := c890.keep K_102 (ninS ne_sx_93_b_95 nin0)
    have c909 := c891.keep K_102 (ninS ne_sx_93_b_95 nin0)
    have c910 := c892.keep K_102 (ninS ne_sb_93_b_95 nin0)
    have c911 := c893.keep K_102
    have c912 := c894.keep K_102 (ninS ne_sx_94_b_95 nin0)
    have c913 := c895.keep K_102 (ninS ne_sx_94_b_95 nin0)
    have c914 := c896.keep K_102 (ninS ne_sb_94_b_95 nin0)
    have c915 := c897.keep K_102
    have Z0__102 : n0 ≤ T_102.heap.size := Nat.le_trans Z0__99 K_102.1
    have Fq_102 : Fld Z T_102.heap b_95 "com/example/cutoff/cutoff/store/TextCursor" "position" "I" (.int (3 : Int32)) := Fp_102
    refine og (fun t k => st_102.trans k) ?_
    refine og (B := T_102.setTop (mkF m 137 #[iv p0, iv p1, iv p2, iv p3, iv p4, iv 3, iv 1, iv x0, iv x1, iv x2, rv sx_92, rv sx_93, rv sx_94, rv b_95, iv 0, iv 1, iv 1, iv 0, iv 1, oU, oU] [(.ref b_95)])) (fun t k => ?_) ?_
    · refine XS.istore X_102.here hx rfl (hb hby at_133) rfl (l' := #[iv p0, iv p1, iv p2, iv p3, iv p4, iv 3, iv 1, iv x0, iv x1, iv x2, rv sx_92, rv sx_93, rv sx_94, rv b_95, iv 0, iv 1, iv 1, iv 0, iv 1, oU, oU]) rfl ?_
      refine XS.aload X_102.here hx rfl (hb hby at_135) rfl rfl ?_
      exact k
    obtain ⟨cq_103, kq_103, q_103a, q_103b, q_103c⟩ := isOf hZ_97 rfl c915
    obtain ⟨_, _, ⟨T_103, L_103, k_103, n_103⟩, -, X_103, ⟨Lc_103, hQ_103, l_103, y_103, z_103⟩, st_103⟩ := X_102.virtualBack hx (y := own_m22) (z := own_m22) hown_97 (mvT hZ_97 (ow hw 114 rfl)) (mvT hZ_97 (ow hw 115 rfl)) (notFace_of_selects (args := #[]) (mvT hZ_97 (ow hw 117 rfl))) (mvT hZ_97 (ow hw 117 rfl)) (mvT hZ_97 (ow hw 116 rfl)) (by decide) (backOf (W := 0) (rm21 l Z av0 hw [] b_95 (3 : Int32) T_102.heap n0 Z0__102 Fq_102) hZ_97 (ow hw 118 rfl) (ow hw 32 rfl) (by decide) (by decide)) q_103a q_103c (g := (mkF m 137 #[iv p0, iv p1, iv p2, iv p3, iv p4, iv 3, iv 1, iv x0, iv x1, iv x2, rv sx_92, rv sx_93, rv sx_94, rv b_95, iv 0, iv 1, iv 1, iv 0, iv 1, oU, oU] [(.ref b_95)])) rfl (by rw [hml]; rfl) (Steps.refl _) (argsL := []) (rest := []) (lenOf pd_4 rfl) rfl (by show 2 * 0 + _ ≤ _; exact Nat.le_of_eq rfl) (hb hby at_137) (fun _ _ => ⟨rfl, rfl, (by decide : 14 + 0 ≤ _), (by decide : 117 + 0 ≤ _)⟩)
    dsimp only [Pt.U, Pt.locs, Pt.cells, Pt.slots] at X_103 l_103 y_103 z_103 st_103 hQ_103
    subst l_103 y_103 z_103
    obtain ⟨rfl, N_103q, e_103⟩ := hQ_103
    have N_103 := Fr.app N_102 N_103q
    refine og (fun t k => st_103.trans k) ?_
    refine og (B := T_103.setTop (mkF m 144 #[iv p0, iv p1, iv p2, iv p3, iv p4, iv 3, iv 1, iv x0, iv x1, iv x2, rv sx_92, rv sx_93, rv sx_94, rv b_95, iv 0, iv 1, iv 1, iv 0, iv 1, iv 3, oU] [(.ref b_95)])) (fun t k => ?_) ?_
    · refine XS.istore X_103.here hx rfl (hb hby at_140) rfl (l' := #[iv p0, iv p1, iv p2, iv p3, iv p4, iv 3, iv 1, iv x0, iv x1, iv x2, rv sx_92, rv sx_93, rv sx_94, rv b_95, iv 0, iv 1, iv 1, iv 0, iv 1, iv 3, oU]) rfl ?_
      refine XS.aload X_103.here hx rfl (hb hby at_142) rfl rfl ?_
      exact k
    obtain ⟨cq_104, kq_104, q_104a, q_104b, q_104c⟩ := isOf hZ_97 e_103 c915
    obtain ⟨_, _, ⟨T_104, L_104, k_104, n_104⟩, -, X_104, ⟨Lc_104, hQ_104, l_104, y_104, z_104⟩, st_104⟩ := X_103.virtualBack hx (y := own_m17) (z := own_m17) hown_97 (mvT hZ_97 (ow hw 87 rfl)) (mvT hZ_97 (ow hw 88 rfl)) (notFace_of_selects (args := #[]) (mvT hZ_97 (ow hw 90 rfl))) (mvT hZ_97 (ow hw 90 rfl)) (mvT hZ_97 (ow hw 89 rfl)) (by decide) (backOf (W := 0) (rm16 l Z av0 hw [] b_95 (3 : Int32) sx_92 sb_92 sk_92 w (3 : Int32) [(.int (own_byte (nar .char x0))), (.int (own_byte (nar .char x1))), (.int (own_byte (nar .char x2)))] T_102.heap n0 Z0__102 Fq_102 Ft_102 c903 c904 c905 c902 hw0 c906) hZ_97 (ow hw 91 rfl) (ow hw 32 rfl) (by decide) (by decide)) q_104a q_104c (g := (mkF m 144 #[iv p0, iv p1, iv p2, iv p3, iv p4, iv 3, iv 1, iv x0, iv x1, iv x2, rv sx_92, rv sx_93, rv sx_94, rv b_95, iv 0, iv 1, iv 1, iv 0, iv 1, iv 3, oU] [(.ref b_95)])) rfl (by rw [hml]; rfl) (Steps.refl _) (argsL := []) (rest := []) (lenOf pd_3 rfl) rfl (by show 2 * 0 + _ ≤ _; exact Nat.le_of_eq rfl) (hb hby at_144) (fun _ _ => ⟨rfl, e_103, (by decide : 14 + 0 ≤ _), (by decide : 117 + 0 ≤ _)⟩)
    dsimp only [Pt.U, Pt.locs, Pt.cells, Pt.slots] at X_104 l_104 y_104 z_104 st_104 hQ_104
    subst l_104 y_104 z_104
    obtain ⟨hv_104, N_104q, e_104⟩ := hQ_104
    have N_104 := Fr.app N_103 N_104q
    rw [show own_ge (3 : Int32) (3 : Int32) = (1 : Int32) from by decide] at hv_104
    subst hv_104
    refine og (fun t k => st_104.trans k) ?_
    refine og (B := T_104.setTop (mkF m 153 #[iv p0, iv p1, iv p2, iv p3, iv p4, iv 3, iv 1, iv x0, iv x1, iv x2, rv sx_92, rv sx_93, rv sx_94, rv b_95, iv 0, iv 1, iv 1, iv 0, iv 1, iv 3, iv 1] [(.int 3), (.int 0)])) (fun t k => ?_) ?_
    · refine XS.istore X_104.here hx rfl (hb hby at_147) rfl (l' := #[iv p0, iv p1, iv p2, iv p3, iv p4, iv 3, iv 1, iv x0, iv x1, iv x2, rv sx_92, rv sx_93, rv sx_94, rv b_95, iv 0, iv 1, iv 1, iv 0, iv 1, iv 3, iv 1]) rfl ?_
      refine XS.iload X_104.here hx rfl (hb hby at_149) rfl ?_
      refine XS.iload X_104.here hx rfl (hb hby at_151) rfl ?_
      exact k
    refine og (B := T_104.setTop (mkF m 160 #[iv p0, iv p1, iv p2, iv p3, iv p4, iv 3, iv 1, iv x0, iv x1, iv x2, rv sx_92, rv sx_93, rv sx_94, rv b_95, iv 0, iv 1, iv 1, iv 0, iv 1, iv 3, iv 1] [(.int 0)])) (fun t k => ?_) ?_
    · refine XS.ifYes X_104.here hx rfl (pc0 := 153) (pc' := 160) rfl (hb hby at_153) rfl ((if0 _ _).trans (feq (by decide : ¬ ((3 : Int32) = (0 : Int32)))).2) (by decide) (by decide) ?_
      exact k
    refine og (B := T_104.setTop (mkF m 161 #[iv p0, iv p1, iv p2, iv p3, iv p4, iv 3, iv 1, iv x0, iv x1, iv x2, rv sx_92, rv sx_93, rv sx_94, rv b_95, iv 0, iv 1, iv 1, iv 0, iv 1, iv 3, iv 1] [(.int 0), (.int 0)])) (fun t k => ?_) ?_
    · refine XS.iconst X_104.here hx rfl (hb hby at_160) ?_
      exact k
    refine og (B := T_104.setTop (mkF m 164 #[iv p0, iv p1, iv p2, iv p3, iv p4, iv 3, iv 1, iv x0, iv x1, iv x2, rv sx_92, rv sx_93, rv sx_94, rv b_95, iv 0, iv 1, iv 1, iv 0, iv 1, iv 3, iv 1] [])) (fun t k => ?_) ?_
    · refine XS.icmpNo X_104.here hx rfl (hb hby at_161) rfl (teq (by decide : (0 : Int32) = (0 : Int32))).2 ?_
      exact k
    refine og (B := T_104.setTop (mkF m 166 #[iv p0, iv p1, iv p2, iv p3, iv p4, iv 3, iv 1, iv x0, iv x1, iv x2, rv sx_92, rv sx_93, rv sx_94, rv b_95, iv 0, iv 1, iv 1, iv 0, iv 1, iv 3, iv 1] [(.int 1)])) (fun t k => ?_) ?_
    · refine XS.iload X_104.here hx rfl (hb hby at_164) rfl ?_
      exact k
    refine og (B := T_104.setTop (mkF m 169 #[iv p0, iv p1, iv p2, iv p3, iv p4, iv 3, iv 1, iv x0, iv x1, iv x2, rv sx_92, rv sx_93, rv sx_94, rv b_95, iv 0, iv 1, iv 1, iv 0, iv 1, iv 3, iv 1] [])) (fun t k => ?_) ?_
    · refine XS.ifNo X_104.here hx rfl (hb hby at_166) rfl ((if0 _ _).trans (feq (by decide : ¬ ((1 : Int32) = (0 : Int32)))).1) ?_
      exact k
    refine og (B := T_104.setTop (mkF m 173 #[iv p0, iv p1, iv p2, iv p3, iv p4, iv 3, iv 1, iv x0, iv x1, iv x2, rv sx_92, rv sx_93, rv sx_94, rv b_95, iv 0, iv 1, iv 1, iv 0, iv 1, iv 3, iv 1] [(.int 1), (.int 1)])) (fun t k => ?_) ?_
    · refine XS.iload X_104.here hx rfl (hb hby at_169) rfl ?_
      refine XS.iload X_104.here hx rfl (hb hby at_171) rfl ?_
      exact k
    refine og (B := T_104.setTop (mkF m 176 #[iv p0, iv p1, iv p2, iv p3, iv p4, iv 3, iv 1, iv x0, iv x1, iv x2, rv sx_92, rv sx_93, rv sx_94, rv b_95, iv 0, iv 1, iv 1, iv 0, iv 1, iv 3, iv 1] [])) (fun t k => ?_) ?_
    · refine XS.icmpNo X_104.here hx rfl (hb hby at_173) rfl (teq (by decide : (1 : Int32) = (1 : Int32))).2 ?_
      exact k
    refine og (B := T_104.setTop (mkF m 182 #[iv p0, iv p1, iv p2, iv p3, iv p4, iv 3, iv 1, iv x0, iv x1, iv x2, rv sx_92, rv sx_93, rv sx_94, rv b_95, iv 0, iv 1, iv 1, iv 0, iv 1, iv 3, iv 1] [(.int 3), (.int 1), (.int 0)])) (fun t k => ?_) ?_
    · refine XS.iload X_104.here hx rfl (hb hby at_176) rfl ?_
      refine XS.iload X_104.here hx rfl (hb hby at_178) rfl ?_
      refine XS.iload X_104.here hx rfl (hb hby at_180) rfl ?_
      exact k
    refine og (B := T_104.setTop (mkF m 189 #[iv p0, iv p1, iv p2, iv p3, iv p4, iv 3, iv 1, iv x0, iv x1, iv x2, rv sx_92, rv sx_93, rv sx_94, rv b_95, iv 0, iv 1, iv 1, iv 0, iv 1, iv 3, iv 1] [(.int 0)])) (fun t k => ?_) ?_
    · refine XS.icmpYes X_104.here hx rfl (pc0 := 182) (pc' := 189) rfl (hb hby at_182) rfl (feq (by decide : ¬ ((1 : Int32) = (3 : Int32)))).2 (by decide) (by decide) ?_
      exact k
    refine og (B := T_104.setTop (mkF m 190 #[iv p0, iv p1, iv p2, iv p3, iv p4, iv 3, iv 1, iv x0, iv x1, iv x2, rv sx_92, rv sx_93, rv sx_94, rv b_95, iv 0, iv 1, iv 1, iv 0, iv 1, iv 3, iv 1] [(.int 0), (.int 0)])) (fun t k => ?_) ?_
    · refine XS.iconst X_104.here hx rfl (hb hby at_189) ?_
      exact k
    refine og (B := T_104.setTop (mkF m 193 #[iv p0, iv p1, iv p2, iv p3, iv p4, iv 3, iv 1, iv x0, iv x1, iv x2, rv sx_92, rv sx_93, rv sx_94, rv b_95, iv 0, iv 1, iv 1, iv 0, iv 1, iv 3, iv 1] [])) (fun t k => ?_) ?_
    · refine XS.icmpNo X_104.here hx rfl (hb hby at_190) rfl (teq (by decide : (0 : Int32) = (0 : Int32))).2 ?_
      exact k
    refine og (B := T_104.setTop (mkF m 195 #[iv p0, iv p1, iv p2, iv p3, iv p4, iv 3, iv 1, iv x0, iv x1, iv x2, rv sx_92, rv sx_93, rv sx_94, rv b_95, iv 0, iv 1, iv 1, iv 0, iv 1, iv 3, iv 1] [(.int 1)])) (fun t k => ?_) ?_
    · refine XS.iload X_104.here hx rfl (hb hby at_193) rfl ?_
      exact k
    refine og (B := T_104.setTop (mkF m 198 #[iv p0, iv p1, iv p2, iv p3, iv p4, iv 3, iv 1, iv x0, iv x1, iv x2, rv sx_92, rv sx_93, rv sx_94, rv b_95, iv 0, iv 1, iv 1, iv 0, iv 1, iv 3, iv 1] [])) (fun t k => ?_) ?_
    · refine XS.ifNo X_104.here hx rfl (hb hby at_195) rfl ((if0 _ _).trans (feq (by decide : ¬ ((1 : Int32) = (0 : Int32)))).1) ?_
      exact k
    refine og (B := T_104.setTop (mkF m 202 #[iv p0, iv p1, iv p2, iv p3, iv p4, iv 3, iv 1, iv x0, iv x1, iv x2, rv sx_92, rv sx_93, rv sx_94, rv b_95, iv 0, iv 1, iv 1, iv 0, iv 1, iv 3, iv 1] [(.int 3), (.int 3)])) (fun t k => ?_) ?_
    · refine XS.iload X_104.here hx rfl (hb hby at_198) rfl ?_
      refine XS.iload X_104.here hx rfl (hb hby at_200) rfl ?_
      exact k
    refine og (B := T_104.setTop (mkF m 205 #[iv p0, iv p1, iv p2, iv p3, iv p4, iv 3, iv 1, iv x0, iv x1, iv x2, rv sx_92, rv sx_93, rv sx_94, rv b_95, iv 0, iv 1, iv 1, iv 0, iv 1, iv 3, iv 1] [])) (fun t k => ?_) ?_
    · refine XS.icmpNo X_104.here hx rfl (hb hby at_202) rfl (teq (by decide : (3 : Int32) = (3 : Int32))).2 ?_
      exact k
    refine og (B := T_104.setTop (mkF m 207 #[iv p0, iv p1, iv p2, iv p3, iv p4, iv 3, iv 1, iv x0, iv x1, iv x2, rv sx_92, rv sx_93, rv sx_94, rv b_95, iv 0, iv 1, iv 1, iv 0, iv 1, iv 3, iv 1] [(.int 1)])) (fun t k => ?_) ?_
    · refine XS.iload X_104.here hx rfl (hb hby at_205) rfl ?_
      exact k
    refine og (B := T_104.setTop (mkF m 210 #[iv p0, iv p1, iv p2, iv p3, iv p4, iv 3, iv 1, iv x0, iv x1, iv x2, rv sx_92, rv sx_93, rv sx_94, rv b_95, iv 0, iv 1, iv 1, iv 0, iv 1, iv 3, iv 1] [])) (fun t k => ?_) ?_
    · refine XS.ifNo X_104.here hx rfl (hb hby at_207) rfl ((if0 _ _).trans (feq (by decide : ¬ ((1 : Int32) = (0 : Int32)))).1) ?_
      exact k
    refine og (B := T_104.setTop (mkF m 215 #[iv p0, iv p1, iv p2, iv p3, iv p4, iv 3, iv 1, iv x0, iv x1, iv x2, rv sx_92, rv sx_93, rv sx_94, rv b_95, iv 0, iv 1, iv 1, iv 0, iv 1, iv 3, iv 1] [(.int 1)])) (fun t k => ?_) ?_
    · refine XS.iconst X_104.here hx rfl (hb hby at_210) ?_
      refine XS.goto X_104.here hx rfl (pc0 := 211) (pc' := 215) rfl (hb hby at_211) (by decide) (by decide) ?_
      exact k
    obtain ⟨fs, hr, hrun, hended, hRW⟩ := X_104.leaveW Si_97 (by rw [e_104]; exact c900) (v := some (.int 1)) (fun h => by rw [Bd.returns] at h; cases h)
    refine ⟨_, _, ?_, hrun, hended, _, _, rfl, ?_, hRW.1, hRW.2.1, hRW.2.2.1, hRW.2.2.2.mono (by decide) (by decide)⟩
    · show Steps p.tables e below (T_104.setTop (mkF m 215 #[iv p0, iv p1, iv p2, iv p3, iv p4, iv 3, iv 1, iv x0, iv x1, iv x2, rv sx_92, rv sx_93, rv sx_94, rv b_95, iv 0, iv 1, iv 1, iv 0, iv 1, iv 3, iv 1] [(.int 1)])) _
      exact retN X_104 hx (t := .boolean) Bd.returns (by simp) (hb hby at_215) hr
    · show Q0 Z p0 p1 p2 p3 p4 w h0 n0 _ T_104.heap _
      rw [e_104]
      exact ⟨rfl, N_104, trivial⟩
  · show ∃ s₂ o, Steps p.tables e below (s₁.setTop (mkF m 49 #[iv p0, iv p1, iv p2, iv p3, iv p4, iv 3, iv 2, iv x0, iv x1, iv x2, oU, oU, oU, oU, oU, oU, oU, oU, oU, oU, oU] [(.int 3), (.int x2), (.int x1), (.int x0)])) s₂ ∧ _
    have kk_105 := K0
    obtain ⟨_, _, ⟨T_105, L_105, k_105, n_105⟩, -, X_105, ⟨Lc_105, hQ_105, l_105, y_105, z_105⟩, st_105⟩ := Jvm.LawKit.callS X0 hx (y := own_m2) hown (mvT hZ (ow hw 1 rfl)) (mvT hZ (ow hw 2 rfl)) (mvT hZ (ow hw 3 rfl)) (mvT hZ (ow hw 4 rfl)) (by decide) (backOf (W := 0) (rmstr3 l Z av0 hw [] x0 x1 x2 w h0 n0 Z0 S_COMPACT_STRINGS hw0 hxq0 hxq1 hxq2) hZ (ow hw 4 rfl) (ow hw 3 rfl) (by decide) (by decide)) (g := (mkF m 49 #[iv p0, iv p1, iv p2, iv p3, iv p4, iv 3, iv 2, iv x0, iv x1, iv x2, oU, oU, oU, oU, oU, oU, oU, oU, oU, oU, oU] [(.int 3), (.int x2), (.int x1), (.int x0)])) rfl (by rw [hml]; rfl) (argsL := [(.int x0), (.int x1), (.int x2), (.int 3)]) (rest := []) (lenOf pd_11 rfl) rfl (by show 2 * 0 + _ ≤ _; exact Nat.le_of_eq rfl) (hb hby at_49) (fun _ _ => ⟨rfl, e0, (by decide : 0 + 3 ≤ _), (by decide : 0 + 10 ≤ _)⟩)
    dsimp only [Pt.U, Pt.locs, Pt.cells, Pt.slots] at X_105 l_105 y_105 z_105 st_105 hQ_105
    subst l_105 y_105 z_105
    obtain ⟨sx_105, sb_105, sk_105, rfl, N_105q, K_105, szq_105, sE_105, sc_105, sv_105, sV_105⟩ := hQ_105
    have N_105 := Fr.app N0 N_105q
    have c916 := H1.trans (CHr.keep K_105 all0 H1.1)
    have c917 := K0.trans K_105 all0
    have c918 := own_stak S_COMPACT_STRINGS K_105
    have Z0__105 : n0 ≤ T_105.heap.size := Nat.le_trans Z0 K_105.1
    have sz_sx_105 : h0.size ≤ sx_105 := Nat.le_trans kk_105.1 szq_105
    refine og (fun t k => st_105 t k) ?_
    refine og (B := T_105.setTop (mkF m 62 #[iv p0, iv p1, iv p2, iv p3, iv p4, iv 3, iv 2, iv x0, iv x1, iv x2, rv sx_105, oU, oU, oU, oU, oU, oU, oU, oU, oU, oU] [(.int 2), (.int x2), (.int x1), (.int x0)])) (fun t k => ?_) ?_
    · refine XS.astore X_105.here hx rfl (hb hby at_52) rfl rfl (l' := #[iv p0, iv p1, iv p2, iv p3, iv p4, iv 3, iv 2, iv x0, iv x1, iv x2, rv sx_105, oU, oU, oU, oU, oU, oU, oU, oU, oU, oU]) rfl ?_
      refine XS.iload X_105.here hx rfl (hb hby at_54) rfl ?_
      refine XS.iload X_105.here hx rfl (hb hby at_56) rfl ?_
      refine XS.iload X_105.here hx rfl (hb hby at_58) rfl ?_
      refine XS.iload X_105.here hx rfl (hb hby at_60) rfl ?_
      exact k
    have kk_106 := c917
    obtain ⟨_, _, ⟨T_106, L_106, k_106, n_106⟩, -, X_106, ⟨Lc_106, hQ_106, l_106, y_106, z_106⟩, st_106⟩ := Jvm.LawKit.callS X_105 hx (y := own_m2) hown (mvT hZ (ow hw 1 rfl)) (mvT hZ (ow hw 2 rfl)) (mvT hZ (ow hw 3 rfl)) (mvT hZ (ow hw 4 rfl)) (by decide) (backOf (W := 0) (rmstr2 l Z av0 hw [] x0 x1 x2 w T_105.heap n0 Z0__105 c918 hw0 hxq0 hxq1) hZ (ow hw 4 rfl) (ow hw 3 rfl) (by decide) (by decide)) (g := (mkF m 62 #[iv p0, iv p1, iv p2, iv p3, iv p4, iv 3, iv 2, iv x0, iv x1, iv x2, rv sx_105, oU, oU, oU, oU, oU, oU, oU, oU, oU, oU] [(.int 2), (.int x2), (.int x1), (.int x0)])) rfl (by rw [hml]; rfl) (argsL := [(.int x0), (.int x1), (.int x2), (.int 2)]) (rest := []) (lenOf pd_11 rfl) rfl (by show 2 * 0 + _ ≤ _; exact Nat.le_of_eq rfl) (hb hby at_62) (fun _ _ => ⟨rfl, rfl, (by decide : 3 + 3 ≤ _), (by decide : 10 + 8 ≤ _)⟩)
    dsimp only [Pt.U, Pt.locs, Pt.cells, Pt.slots] at X_106 l_106 y_106 z_106 st_106 hQ_106
    subst l_106 y_106 z_106
    obtain ⟨sx_106, sb_106, sk_106, rfl, N_106q, K_106, szq_106, sE_106, sc_106, sv_106, sV_106⟩ := hQ_106
    have N_106 := Fr.app N_105 N_106q
    have c919 := c916.trans (CHr.keep K_106 all0 c916.1)
    have c920 := c917.trans K_106 all0
    have c921 := own_stak c918 K_106
    have c922 := sE_105.keep K_106
    have c923 := sc_105.keep K_106 nin0
    have c924 := sv_105.keep K_106 nin0
    have c925 := sV_105.keep K_106 nin0
    have Z0__106 : n0 ≤ T_106.heap.size := Nat.le_trans Z0__105 K_106.1
    have sz_sx_106 : h0.size ≤ sx_106 := Nat.le_trans kk_106.1 szq_106
    refine og (fun t k => st_106 t k) ?_
    refine og (B := T_106.setTop (mkF m 77 #[iv p0, iv p1, iv p2, iv p3, iv p4, iv 3, iv 2, iv x0, iv x1, iv x2, rv sx_105, rv sx_106, oU, oU, oU, oU, oU, oU, oU, oU, oU] [(.int 3), (.int 2), (.int x2), (.int x1), (.int x0)])) (fun t k => ?_) ?_
    · refine XS.astore X_106.here hx rfl (hb hby at_65) rfl rfl (l' := #[iv p0, iv p1, iv p2, iv p3, iv p4, iv 3, iv 2, iv x0, iv x1, iv x2, rv sx_105, rv sx_106, oU, oU, oU, oU, oU, oU, oU, oU, oU]) rfl ?_
      refine XS.iload X_106.here hx rfl (hb hby at_67) rfl ?_
      refine XS.iload X_106.here hx rfl (hb hby at_69) rfl ?_
      refine XS.iload X_106.here hx rfl (hb hby at_71) rfl ?_
      refine XS.iload X_106.here hx rfl (hb hby at_73) rfl ?_
      refine XS.iload X_106.here hx rfl (hb hby at_75) rfl ?_
      exact k
    have kk_107 := c920
    obtain ⟨_, _, ⟨T_107, L_107, k_107, n_107⟩, -, X_107, ⟨Lc_107, hQ_107, l_107, y_107, z_107⟩, st_107⟩ := Jvm.LawKit.callS X_106 hx (y := own_m6) hown (mvT hZ (ow hw 27 rfl)) (mvT hZ (ow hw 28 rfl)) (mvT hZ (ow hw 3 rfl)) (mvT hZ (ow hw 29 rfl)) (by decide) (backOf (W := 0) (rmsfx2_3 l Z av0 hw [] x0 x1 x2 w T_106.heap n0 Z0__106 c921 hw0 hxq2) hZ (ow hw 29 rfl) (ow hw 3 rfl) (by decide) (by decide)) (g := (mkF m 77 #[iv p0, iv p1, iv p2, iv p3, iv p4, iv 3, iv 2, iv x0, iv x1, iv x2, rv sx_105, rv sx_106, oU, oU, oU, oU, oU, oU, oU, oU, oU] [(.int 3), (.int 2), (.int x2), (.int x1), (.int x0)])) rfl (by rw [hml]; rfl) (argsL := [(.int x0), (.int x1), (.int x2), (.int 2), (.int 3)]) (rest := []) (lenOf pd_16 rfl) rfl (by show 2 * 0 + _ ≤ _; exact Nat.le_of_eq rfl) (hb hby at_77) (fun _ _ => ⟨rfl, rfl, (by decide : 6 + 3 ≤ _), (by decide : 18 + 6 ≤ _)⟩)
    dsimp only [Pt.U, Pt.locs, Pt.cells, Pt.slots] at X_107 l_107 y_107 z_107 st_107 hQ_107
    subst l_107 y_107 z_107
    obtain ⟨sx_107, sb_107, sk_107, rfl, N_107q, K_107, szq_107, sE_107, sc_107, sv_107, sV_107⟩ := hQ_107
    have N_107 := Fr.app N_106 N_107q
    have c926 := c919.trans (CHr.keep K_107 all0 c919.1)
    have c927 := c920.trans K_107 all0
    have c928 := own_stak c921 K_107
    have c929 := c922.keep K_107
    have c930 := c923.keep K_107 nin0
    have c931 := c924.keep K_107 nin0
    have c932 := c925.keep K_107 nin0
    have c933 := sE_106.keep K_107
    have c934 := sc_106.keep K_107 nin0
    have c935 := sv_106.keep K_107 nin0
    have c936 := sV_106.keep K_107 nin0
    have Z0__107 : n0 ≤ T_107.heap.size := Nat.le_trans Z0__106 K_107.1
    have sz_sx_107 : h0.size ≤ sx_107 := Nat.le_trans kk_107.1 szq_107
    refine og (fun t k => st_107 t k) ?_
    refine og (B := T_107.setTop (mkF m 82 #[iv p0, iv p1, iv p2, iv p3, iv p4, iv 3, iv 2, iv x0, iv x1, iv x2, rv sx_105, rv sx_106, rv sx_107, oU, oU, oU, oU, oU, oU, oU, oU] [])) (fun t k => ?_) ?_
    · refine XS.astore X_107.here hx rfl (hb hby at_80) rfl rfl (l' := #[iv p0, iv p1, iv p2, iv p3, iv p4, iv 3, iv 2, iv x0, iv x1, iv x2, rv sx_105, rv sx_106, rv sx_107, oU, oU, oU, oU, oU, oU, oU, oU]) rfl ?_
      exact k
    obtain ⟨T_108, h_108, X_108, e_108, E_108, A_108, D_108, -, st_108⟩ := newO X_107 hx hZ hown (ow hw 30 rfl) (ow hw 31 rfl) (ow hw 32 rfl) rfl (g := (mkF m 82 #[iv p0, iv p1, iv p2, iv p3, iv p4, iv 3, iv 2, iv x0, iv x1, iv x2, rv sx_105, rv sx_106, rv sx_107, oU, oU, oU, oU, oU, oU, oU, oU] [])) rfl (hb hby at_82) (by decide) (by decide)
    obtain ⟨b_108, g_108⟩ : ∃ z, z = T_107.heap.size := ⟨_, rfl⟩
    rw [← g_108] at A_108 D_108 st_108
    have g_b_108 : n0 ≤ b_108 := Nat.le_trans Z0__107 (Nat.le_of_eq g_108.symm)
    have sz_b_108 : h0.size ≤ b_108 := Nat.le_trans c927.1 (Nat.le_of_eq g_108.symm)
    have sf_b_108 : Safe Z own_EL s.vm T_107.heap b_108 := Safe.new (Nat.le_of_eq g_108.symm)
    have ne_sx_105_b_108 : sx_105 ≠ b_108 := Nat.ne_of_lt (Nat.lt_of_lt_of_le (c929).lt (Nat.le_of_eq g_108.symm))
    have ne_sb_105_b_108 : sb_105 ≠ b_108 := Nat.ne_of_lt (Nat.lt_of_lt_of_le (c932).lt (Nat.le_of_eq g_108.symm))
    have ne_sx_106_b_108 : sx_106 ≠ b_108 := Nat.ne_of_lt (Nat.lt_of_lt_of_le (c933).lt (Nat.le_of_eq g_108.symm))
    have ne_sb_106_b_108 : sb_106 ≠ b_108 := Nat.ne_of_lt (Nat.lt_of_lt_of_le (c936).lt (Nat.le_of_eq g_108.symm))
    have ne_sx_107_b_108 : sx_107 ≠ b_108 := Nat.ne_of_lt (Nat.lt_of_lt_of_le (sE_107).lt (Nat.le_of_eq g_108.symm))
    have ne_sb_107_b_108 : sb_107 ≠ b_108 := Nat.ne_of_lt (Nat.lt_of_lt_of_le (sV_107).lt (Nat.le_of_eq g_108.symm))
    have c937 := Safe.ext E_108 c926.1 sf_b_108
    have c938 := c926.trans (CHr.ext E_108 c926.1)
    have c939 := c927.ext E_108
    have c940 := c928.ext E_108
    have c941 := c929.ext E_108
    have c942 := c930.ext E_108
    have c943 := c931.ext E_108
    have c944 := c932.ext E_108
    have c945 := c933.ext E_108
    have c946 := c934.ext E_108
    have c947 := c935.ext E_108
    have c948 := c936.ext E_108
    have c949 := sE_107.ext E_108
    have c950 := sc_107.ext E_108
    have c951 := sv_107.ext E_108
    have c952 := sV_107.ext E_108
    have Z0__108 : n0 ≤ h_108.size := Nat.le_trans Z0__107 E_108.1
    have F_source_b_108 : Fld Z h_108 b_108 "com/example/cutoff/cutoff/store/TextCursor" "source" "Ljava/lang/String;" .null := D_108 (Or.inr (ow hw 39 rfl)) (ty := (.object "java/lang/String")) (by decide)
    have F_text_b_108 : Fld Z h_108 b_108 "com/example/cutoff/cutoff/store/TextCursor" "text" "Ljava/lang/String;" .null := D_108 (Or.inr (ow hw 41 rfl)) (ty := (.object "java/lang/String")) (by decide)
    have F_firstLine_b_108 : Fld Z h_108 b_108 "com/example/cutoff/cutoff/store/TextCursor" "firstLine" "I" (.int 0) := D_108 (Or.inr (ow hw 43 rfl)) (ty := .int) (by decide)
    have F_end_b_108 : Fld Z h_108 b_108 "com/example/cutoff/cutoff/store/TextCursor" "end" "Ljava/lang/String;" .null := D_108 (Or.inr (ow hw 86 rfl)) (ty := (.object "java/lang/String")) (by decide)
    have F_position_b_108 : Fld Z h_108 b_108 "com/example/cutoff/cutoff/store/TextCursor" "position" "I" (.int 0) := D_108 (Or.inl (ow hw 93 rfl)) (ty := .int) (by decide)
    refine og (fun t k => st_108 t k) ?_
    refine og (B := T_108.setTop (mkF m 86 #[iv p0, iv p1, iv p2, iv p3, iv p4, iv 3, iv 2, iv x0, iv x1, iv x2, rv sx_105, rv sx_106, rv sx_107, oU, oU, oU, oU, oU, oU, oU, oU] [(.ref b_108), (.ref b_108)])) (fun t k => ?_) ?_
    · refine XS.dup X_108.here hx rfl (hb hby at_85) rfl rfl ?_
      exact k
    have wS_109 := own_wS hw
    obtain ⟨b_109, T_109, h_109, k1_109, d_109, kc_109, X_109, e_109, E_109, Si_109, ls_109, hZ_109, hown_109, A_109, Fc_109, Fv_109, V_109, -, -, CH_109, -, NE_109, st_109⟩ := ldcCH (s := s) (vm0 := s.vm) (show Stand p l e room_1 (s.setVm s.vm) m #[(.int p0), (.int p1), (.int p2), (.int p3), (.int p4)] below meth c T_108 _ _ _ from X_108) hx hZ hown (ow hw 33 rfl) wS_109 e_108 ((State.WarmedH.refl s).since 0) (Nat.zero_le _) hEL (List.mem_of_getElem? (i := 1) rfl) c938.1 (vs := [(.int (115 : Int32))]) (z := (1 : Int32)) ⟨by decide, rfl⟩ (by decide) rfl (g := (mkF m 86 #[iv p0, iv p1, iv p2, iv p3, iv p4, iv 3, iv 2, iv x0, iv x1, iv x2, rv sx_105, rv sx_106, rv sx_107, oU, oU, oU, oU, oU, oU, oU, oU] [(.ref b_108), (.ref b_108)])) rfl (hb hby at_86) (n := 4) (by decide) (by decide) (by decide) (by decide)
    have c953 := CHr.safe CH_109 (F_source_b_108).lt c937
    have c954 := c938.trans CH_109
    have ne_b_108_b_109 : b_108 ≠ b_109 := (NE_109 _ c953).1
    have ne_b_108_d_109 : b_108 ≠ d_109 := (NE_109 _ c953).2
    have c955 := c939.ext E_109
    have c956 := c940.ext E_109
    have c957 := c941.ext E_109
    have c958 := c942.ext E_109
    have c959 := c943.ext E_109
    have c960 := c944.ext E_109
    have c961 := c945.ext E_109
    have c962 := c946.ext E_109
    have c963 := c947.ext E_109
    have c964 := c948.ext E_109
    have c965 := c949.ext E_109
    have c966 := c950.ext E_109
    have c967 := c951.ext E_109
    have c968 := c952.ext E_109
    have c969 := F_source_b_108.ext E_109
    have c970 := F_text_b_108.ext E_109
    have c971 := F_firstLine_b_108.ext E_109
    have c972 := F_end_b_108.ext E_109
    have c973 := F_position_b_108.ext E_109
    have c974 := A_108.ext E_109
    have Z0__109 : n0 ≤ h_109.size := Nat.le_trans Z0__108 E_109.1
    refine og (fun t k => st_109 t k) ?_
    refine og (B := T_109.setTop (mkF m 91 #[iv p0, iv p1, iv p2, iv p3, iv p4, iv 3, iv 2, iv x0, iv x1, iv x2, rv sx_105, rv sx_106, rv sx_107, oU, oU, oU, oU, oU, oU, oU, oU] [(.int 1), (.ref sx_105), (.ref b_109), (.ref b_108), (.ref b_108)])) (fun t k => ?_) ?_
    · refine XS.aload X_109.here hx rfl (hb hby at_88) rfl rfl ?_
      refine XS.iconst X_109.here hx rfl (hb hby at_90) ?_
      exact k
    obtain ⟨_, _, ⟨T_110, L_110, k_110, n_110⟩, -, Xb_110, Sb_110, gs_110, ⟨Lc_110, hQ_110, l_110, y_110, z_110, CH_110⟩, st_110⟩ := X_109.specialBackS hx (y := own_m7) rfl hown_109 (mvT hZ_109 (ow hw 34 rfl)) (mvT hZ_109 (ow hw 35 rfl)) (mvT hZ_109 (ow hw 36 rfl)) (by decide) (backOfSH (s := s) (vm0 := T_109.vm) (W := 1) (rmtc l Z av0 hw [] b_108 b_109 sx_105 .null .null (.int 0) .null sb_105 sk_105 w (3 : Int32) [(.int (own_byte (nar .char x0))), (.int (own_byte (nar .char x1))), (.int (own_byte (nar .char x2)))] (fun c => own_ixl3 (own_byte (nar .char x0)) (own_byte (nar .char x1)) (own_byte (nar .char x2)) c) h_109 n0 Z0__109 c974 c969 c970 c971 c972 c973 g_b_108 c957 c958 c959 c956 hw0 c960 ne_sx_105_b_108 ne_sb_105_b_108 hEL (fun h' c z e f1 f2 s v => rmsxa3 l Z av0 hw [] sx_105 c sb_105 sk_105 w (own_byte (nar .char x0)) (own_byte (nar .char x1)) (own_byte (nar .char x2)) h' n0 z e f1 f2 s hw0 v)) hZ_109 (ow hw 36 rfl) (ow hw 32 rfl) (by decide) (by decide) hEL c954.1) (g := (mkF m 91 #[iv p0, iv p1, iv p2, iv p3, iv p4, iv 3, iv 2, iv x0, iv x1, iv x2, rv sx_105, rv sx_106, rv sx_107, oU, oU, oU, oU, oU, oU, oU, oU] [(.int 1), (.ref sx_105), (.ref b_109), (.ref b_108), (.ref b_108)])) rfl (by rw [hml]; rfl) (Steps.refl _) (a := b_108) (argsL := [(.ref b_109), (.ref sx_105), (.int 1)]) (rest := [(.ref b_108)]) (lenOf pd_17 rfl) rfl (by show 2 * 0 + _ ≤ _; exact Nat.le_of_eq rfl) (hb hby at_91) (fun _ _ => ⟨rfl, e_109, (by decide : 12 + 2 ≤ _), (by decide : 37 + 80 ≤ _)⟩)
    dsimp only [Pt.U, Pt.locs, Pt.cells, Pt.slots] at Xb_110 Sb_110 gs_110 l_110 y_110 z_110 st_110 hQ_110 CH_110
    subst l_110 y_110 z_110
    obtain ⟨rfl, N_110q, K_110, Ft_110, Fp_110⟩ := hQ_110
    have N_110 := Fr.app N_107 N_110q
    obtain ⟨X_110, Si_110, hZ_110, hown_110⟩ := rebS (s := s) (vm0 := T_109.vm) Si_109 (Nat.le_refl _) Xb_110 Sb_110 (Nat.le_trans ls_109 K_110.1) hZ_109 hown_109
    have c975 := CHr.safe CH_110 (c969).lt c953
    have c976 := c954.trans CH_110
    have c977 := Nat.le_trans ls_109 K_110.1
    have c978 := c955.trans K_110 (allS (Or.inr sz_b_108) all0)
    have c979 := own_stake c956 K_110 c974
    have c980 := c957.keep K_110
    have c981 := c958.keep K_110 (ninS ne_sx_105_b_108 nin0)
    have c982 := c959.keep K_110 (ninS ne_sx_105_b_108 nin0)
    have c983 := c960.keep K_110 (ninS ne_sb_105_b_108 nin0)
    have c984 := c961.keep K_110
    have c985 := c962.keep K_110 (ninS ne_sx_106_b_108 nin0)
    have c986 := c963.keep K_110 (ninS ne_sx_106_b_108 nin0)
    have c987 := c964.keep K_110 (ninS ne_sb_106_b_108 nin0)
    have c988 := c965.keep K_110
    have c989 := c966.keep K_110 (ninS ne_sx_107_b_108 nin0)
    have c990 := c967.keep K_110 (ninS ne_sx_107_b_108 nin0)
    have c991 := c968.keep K_110 (ninS ne_sb_107_b_108 nin0)
    have c992 := c974.keep K_110
    have Z0__110 : n0 ≤ T_110.heap.size := Nat.le_trans Z0__109 K_110.1
    refine og (fun t k => st_110.trans k) ?_
    refine og (B := T_110.setTop (mkF m 98 #[iv p0, iv p1, iv p2, iv p3, iv p4, iv 3, iv 2, iv x0, iv x1, iv x2, rv sx_105, rv sx_106, rv sx_107, rv b_108, oU, oU, oU, oU, oU, oU, oU] [(.ref b_108)])) (fun t k => ?_) ?_
    · refine XS.astore X_110.here hx rfl (hb hby at_94) rfl rfl (l' := #[iv p0, iv p1, iv p2, iv p3, iv p4, iv 3, iv 2, iv x0, iv x1, iv x2, rv sx_105, rv sx_106, rv sx_107, rv b_108, oU, oU, oU, oU, oU, oU, oU]) rfl ?_
      refine XS.aload X_110.here hx rfl (hb hby at_96) rfl rfl ?_
      exact k
    obtain ⟨cq_111, kq_111, q_111a, q_111b, q_111c⟩ := isOf hZ_110 rfl c992
    obtain ⟨_, _, ⟨T_111, L_111, k_111, n_111⟩, -, X_111, ⟨Lc_111, hQ_111, l_111, y_111, z_111⟩, st_111⟩ := X_110.virtualBack hx (y := own_m17) (z := own_m17) hown_110 (mvT hZ_110 (ow hw 87 rfl)) (mvT hZ_110 (ow hw 88 rfl)) (notFace_of_selects (args := #[]) (mvT hZ_110 (ow hw 90 rfl))) (mvT hZ_110 (ow hw 90 rfl)) (mvT hZ_110 (ow hw 89 rfl)) (by decide) (backOf (W := 0) (rm16 l Z av0 hw [] b_108 (0 : Int32) sx_105 sb_105 sk_105 w (3 : Int32) [(.int (own_byte (nar .char x0))), (.int (own_byte (nar .char x1))), (.int (own_byte (nar .char x2)))] T_110.heap n0 Z0__110 Fp_110 Ft_110 c980 c981 c982 c979 hw0 c983) hZ_110 (ow hw 91 rfl) (ow hw 32 rfl) (by decide) (by decide)) q_111a q_111c (g := (mkF m 98 #[iv p0, iv p1, iv p2, iv p3, iv p4, iv 3, iv 2, iv x0, iv x1, iv x2, rv sx_105, rv sx_106, rv sx_107, rv b_108, oU, oU, oU, oU, oU, oU, oU] [(.ref b_108)])) rfl (by rw [hml]; rfl) (Steps.refl _) (argsL := []) (rest := []) (lenOf pd_3 rfl) rfl (by show 2 * 0 + _ ≤ _; exact Nat.le_of_eq rfl) (hb hby at_98) (fun _ _ => ⟨rfl, rfl, (by decide : 14 + 0 ≤ _), (by decide : 117 + 0 ≤ _)⟩)
    dsimp only [Pt.U, Pt.locs, Pt.cells, Pt.slots] at X_111 l_111 y_111 z_111 st_111 hQ_111
    subst l_111 y_111 z_111
    obtain ⟨hv_111, N_111q, e_111⟩ := hQ_111
    have N_111 := Fr.app N_110 N_111q
    rw [show own_ge (0 : Int32) (3 : Int32) = (0 : Int32) from by decide] at hv_111
    subst hv_111
    refine og (fun t k => st_111.trans k) ?_
    refine og (B := T_111.setTop (mkF m 107 #[iv p0, iv p1, iv p2, iv p3, iv p4, iv 3, iv 2, iv x0, iv x1, iv x2, rv sx_105, rv sx_106, rv sx_107, rv b_108, iv 0, oU, oU, oU, oU, oU, oU] [(.ref sx_106), (.ref b_108)])) (fun t k => ?_) ?_
    · refine XS.istore X_111.here hx rfl (hb hby at_101) rfl (l' := #[iv p0, iv p1, iv p2, iv p3, iv p4, iv 3, iv 2, iv x0, iv x1, iv x2, rv sx_105, rv sx_106, rv sx_107, rv b_108, iv 0, oU, oU, oU, oU, oU, oU]) rfl ?_
      refine XS.aload X_111.here hx rfl (hb hby at_103) rfl rfl ?_
      refine XS.aload X_111.here hx rfl (hb hby at_105) rfl rfl ?_
      exact k
    obtain ⟨cq_112, kq_112, q_112a, q_112b, q_112c⟩ := isOf hZ_110 e_111 c992
    obtain ⟨_, _, ⟨T_112, L_112, k_112, n_112⟩, -, X_112, ⟨Lc_112, hQ_112, l_112, y_112, z_112⟩, st_112⟩ := X_111.virtualBack hx (y := own_m18) (z := own_m18) hown_110 (mvT hZ_110 (ow hw 95 rfl)) (mvT hZ_110 (ow hw 96 rfl)) (notFace_of_selects (args := #[]) (mvT hZ_110 (ow hw 98 rfl))) (mvT hZ_110 (ow hw 98 rfl)) (mvT hZ_110 (ow hw 97 rfl)) (by decide) (backOf (W := 0) (rmco l Z av0 hw [] b_108 sx_106 sx_105 (0 : Int32) sb_105 sb_106 sk_105 sk_106 w (3 : Int32) (2 : Int32) [(.int (own_byte (nar .char x0))), (.int (own_byte (nar .char x1))), (.int (own_byte (nar .char x2)))] [(.int (own_byte (nar .char x0))), (.int (own_byte (nar .char x1)))] T_110.heap n0 Z0__110 c992 Ft_110 Fp_110 g_b_108 c980 c981 c982 c984 c985 c986 c979 hw0 c983 c987 ne_sx_106_b_108 ne_sb_106_b_108 (by decide) (by decide) (rmmm2 l Z av0 hw [] sb_105 (0 : Int32) sb_106 sk_105 sk_106 (3 : Int32) [(.int (own_byte (nar .char x0))), (.int (own_byte (nar .char x1))), (.int (own_byte (nar .char x2)))] (own_byte (nar .char x0)) (own_byte (nar .char x1)) T_110.heap n0 Z0__110 c983 c987 (by decide) (by decide) rfl rfl)) hZ_110 (ow hw 99 rfl) (ow hw 32 rfl) (by decide) (by decide)) q_112a q_112c (g := (mkF m 107 #[iv p0, iv p1, iv p2, iv p3, iv p4, iv 3, iv 2, iv x0, iv x1, iv x2, rv sx_105, rv sx_106, rv sx_107, rv b_108, iv 0, oU, oU, oU, oU, oU, oU] [(.ref sx_106), (.ref b_108)])) rfl (by rw [hml]; rfl) (Steps.refl _) (argsL := [(.ref sx_106)]) (rest := []) (lenOf pd_15 rfl) rfl (by show 2 * 0 + _ ≤ _; exact Nat.le_of_eq rfl) (hb hby at_107) (fun _ _ => ⟨rfl, e_111, (by decide : 14 + 0 ≤ _), (by decide : 117 + 0 ≤ _)⟩)
    dsimp only [Pt.U, Pt.locs, Pt.cells, Pt.slots] at X_112 l_112 y_112 z_112 st_112 hQ_112
    subst l_112 y_112 z_112
    obtain ⟨rfl, N_112q, K_112, Fp_112, Ft_112⟩ := hQ_112
    have N_112 := Fr.app N_111 N_112q
    have c993 := Safe.keep K_112 (allS c975 all0) c976.1 c975
    have c994 := c976.trans (CHr.keep K_112 (allS c975 all0) c976.1)
    have c995 := Nat.le_trans (Nat.le_refl _) K_112.1
    have c996 := c978.trans K_112 (allS (Or.inr sz_b_108) all0)
    have c997 := own_stake c979 K_112 c992
    have c998 := c980.keep K_112
    have c999 := c981.keep K_112 (ninS ne_sx_105_b_108 nin0)
    have c1000 := c982.keep K_112 (ninS ne_sx_105_b_108 nin0)
    have c1001 := c983.keep K_112 (ninS ne_sb_105_b_108 nin0)
    have c1002 := c984.keep K_112
    have c1003 := c985.keep K_112 (ninS ne_sx_106_b_108 nin0)
    have c1004 := c986.keep K_112 (ninS ne_sx_106_b_108 nin0)
    have c1005 := c987.keep K_112 (ninS ne_sb_106_b_108 nin0)
    have c1006 := c988.keep K_112
    have c1007 := c989.keep K_112 (ninS ne_sx_107_b_108 nin0)
    have c1008 := c990.keep K_112 (ninS ne_sx_107_b_108 nin0)
    have c1009 := c991.keep K_112 (ninS ne_sb_107_b_108 nin0)
    have c1010 := c992.keep K_112
    have Z0__112 : n0 ≤ T_112.heap.size := Nat.le_trans Z0__110 K_112.1
    have Fq_112 : Fld Z T_112.heap b_108 "com/example/cutoff/cutoff/store/TextCursor" "position" "I" (.int (2 : Int32)) := Fp_112
    refine og (fun t k => st_112.trans k) ?_
    refine og (B := T_112.setTop (mkF m 114 #[iv p0, iv p1, iv p2, iv p3, iv p4, iv 3, iv 2, iv x0, iv x1, iv x2, rv sx_105, rv sx_106, rv sx_107, rv b_108, iv 0, iv 1, oU, oU, oU, oU, oU] [(.ref b_108)])) (fun t k => ?_) ?_
    · refine XS.istore X_112.here hx rfl (hb hby at_110) rfl (l' := #[iv p0, iv p1, iv p2, iv p3, iv p4, iv 3, iv 2, iv x0, iv x1, iv x2, rv sx_105, rv sx_106, rv sx_107, rv b_108, iv 0, iv 1, oU, oU, oU, oU, oU]) rfl ?_
      refine XS.aload X_112.here hx rfl (hb hby at_112) rfl rfl ?_
      exact k
    obtain ⟨cq_113, kq_113, q_113a, q_113b, q_113c⟩ := isOf hZ_110 rfl c1010
    obtain ⟨_, _, ⟨T_113, L_113, k_113, n_113⟩, -, X_113, ⟨Lc_113, hQ_113, l_113, y_113, z_113⟩, st_113⟩ := X_112.virtualBack hx (y := own_m22) (z := own_m22) hown_110 (mvT hZ_110 (ow hw 114 rfl)) (mvT hZ_110 (ow hw 115 rfl)) (notFace_of_selects (args := #[]) (mvT hZ_110 (ow hw 117 rfl))) (mvT hZ_110 (ow hw 117 rfl)) (mvT hZ_110 (ow hw 116 rfl)) (by decide) (backOf (W := 0) (rm21 l Z av0 hw [] b_108 (2 : Int32) T_112.heap n0 Z0__112 Fq_112) hZ_110 (ow hw 118 rfl) (ow hw 32 rfl) (by decide) (by decide)) q_113a q_113c (g := (mkF m 114 #[iv p0, iv p1, iv p2, iv p3, iv p4, iv 3, iv 2, iv x0, iv x1, iv x2, rv sx_105, rv sx_106, rv sx_107, rv b_108, iv 0, iv 1, oU, oU, oU, oU, oU] [(.ref b_108)])) rfl (by rw [hml]; rfl) (Steps.refl _) (argsL := []) (rest := []) (lenOf pd_4 rfl) rfl (by show 2 * 0 + _ ≤ _; exact Nat.le_of_eq rfl) (hb hby at_114) (fun _ _ => ⟨rfl, rfl, (by decide : 14 + 0 ≤ _), (by decide : 117 + 0 ≤ _)⟩)
    dsimp only [Pt.U, Pt.locs, Pt.cells, Pt.slots] at X_113 l_113 y_113 z_113 st_113 hQ_113
    subst l_113 y_113 z_113
    obtain ⟨rfl, N_113q, e_113⟩ := hQ_113
    have N_113 := Fr.app N_112 N_113q
    refine og (fun t k => st_113.trans k) ?_
    refine og (B := T_113.setTop (mkF m 121 #[iv p0, iv p1, iv p2, iv p3, iv p4, iv 3, iv 2, iv x0, iv x1, iv x2, rv sx_105, rv sx_106, rv sx_107, rv b_108, iv 0, iv 1, iv 2, oU, oU, oU, oU] [(.ref b_108)])) (fun t k => ?_) ?_
    · refine XS.istore X_113.here hx rfl (hb hby at_117) rfl (l' := #[iv p0, iv p1, iv p2, iv p3, iv p4, iv 3, iv 2, iv x0, iv x1, iv x2, rv sx_105, rv sx_106, rv sx_107, rv b_108, iv 0, iv 1, iv 2, oU, oU, oU, oU]) rfl ?_
      refine XS.aload X_113.here hx rfl (hb hby at_119) rfl rfl ?_
      exact k
    obtain ⟨cq_114, kq_114, q_114a, q_114b, q_114c⟩ := isOf hZ_110 e_113 c1010
    obtain ⟨_, _, ⟨T_114, L_114, k_114, n_114⟩, -, X_114, ⟨Lc_114, hQ_114, l_114, y_114, z_114⟩, st_114⟩ := X_113.virtualBack hx (y := own_m17) (z := own_m17) hown_110 (mvT hZ_110 (ow hw 87 rfl)) (mvT hZ_110 (ow hw 88 rfl)) (notFace_of_selects (args := #[]) (mvT hZ_110 (ow hw 90 rfl))) (mvT hZ_110 (ow hw 90 rfl)) (mvT hZ_110 (ow hw 89 rfl)) (by decide) (backOf (W := 0) (rm16 l Z av0 hw [] b_108 (2 : Int32) sx_105 sb_105 sk_105 w (3 : Int32) [(.int (own_byte (nar .char x0))), (.int (own_byte (nar .char x1))), (.int (own_byte (nar .char x2)))] T_112.heap n0 Z0__112 Fq_112 Ft_112 c998 c999 c1000 c997 hw0 c1001) hZ_110 (ow hw 91 rfl) (ow hw 32 rfl) (by decide) (by decide)) q_114a q_114c (g := (mkF m 121 #[iv p0, iv p1, iv p2, iv p3, iv p4, iv 3, iv 2, iv x0, iv x1, iv x2, rv sx_105, rv sx_106, rv sx_107, rv b_108, iv 0, iv 1, iv 2, oU, oU, oU, oU] [(.ref b_108)])) rfl (by rw [hml]; rfl) (Steps.refl _) (argsL := []) (rest := []) (lenOf pd_3 rfl) rfl (by show 2 * 0 + _ ≤ _; exact Nat.le_of_eq rfl) (hb hby at_121) (fun _ _ => ⟨rfl, e_113, (by decide : 14 + 0 ≤ _), (by decide : 117 + 0 ≤ _)⟩)
    dsimp only [Pt.U, Pt.locs, Pt.cells, Pt.slots] at X_114 l_114 y_114 z_114 st_114 hQ_114
    subst l_114 y_114 z_114
    obtain ⟨hv_114, N_114q, e_114⟩ := hQ_114
    have N_114 := Fr.app N_113 N_114q
    rw [show own_ge (2 : Int32) (3 : Int32) = (0 : Int32) from by decide] at hv_114
    subst hv_114
    refine og (fun t k => st_114.trans k) ?_
    refine og (B := T_114.setTop (mkF m 130 #[iv p0, iv p1, iv p2, iv p3, iv p4, iv 3, iv 2, iv x0, iv x1, iv x2, rv sx_105, rv sx_106, rv sx_107, rv b_108, iv 0, iv 1, iv 2, iv 0, oU, oU, oU] [(.ref sx_107), (.ref b_108)])) (fun t k => ?_) ?_
    · refine XS.istore X_114.here hx rfl (hb hby at_124) rfl (l' := #[iv p0, iv p1, iv p2, iv p3, iv p4, iv 3, iv 2, iv x0, iv x1, iv x2, rv sx_105, rv sx_106, rv sx_107, rv b_108, iv 0, iv 1, iv 2, iv 0, oU, oU, oU]) rfl ?_
      refine XS.aload X_114.here hx rfl (hb hby at_126) rfl rfl ?_
      refine XS.aload X_114.here hx rfl (hb hby at_128) rfl rfl ?_
      exact k
    obtain ⟨cq_115, kq_115, q_115a, q_115b, q_115c⟩ := isOf hZ_110 e_114 c1010
    obtain ⟨_, _, ⟨T_115, L_115, k_115, n_115⟩, -, X_115, ⟨Lc_115, hQ_115, l_115, y_115, z_115⟩, st_115⟩ := X_114.virtualBack hx (y := own_m18) (z := own_m18) hown_110 (mvT hZ_110 (ow hw 95 rfl)) (mvT hZ_110 (ow hw 96 rfl)) (notFace_of_selects (args := #[]) (mvT hZ_110 (ow hw 98 rfl))) (mvT hZ_110 (ow hw 98 rfl)) (mvT hZ_110 (ow hw 97 rfl)) (by decide) (backOf (W := 0) (rmco l Z av0 hw [] b_108 sx_107 sx_105 (2 : Int32) sb_105 sb_107 sk_105 sk_107 w (3 : Int32) (1 : Int32) [(.int (own_byte (nar .char x0))), (.int (own_byte (nar .char x1))), (.int (own_byte (nar .char x2)))] [(.int (own_byte (nar .char x2)))] T_112.heap n0 Z0__112 c1010 Ft_112 Fq_112 g_b_108 c998 c999 c1000 c1006 c1007 c1008 c997 hw0 c1001 c1009 ne_sx_107_b_108 ne_sb_107_b_108 (by decide) (by decide) (rmmm1 l Z av0 hw [] sb_105 (2 : Int32) sb_107 sk_105 sk_107 (3 : Int32) [(.int (own_byte (nar .char x0))), (.int (own_byte (nar .char x1))), (.int (own_byte (nar .char x2)))] (own_byte (nar .char x2)) T_112.heap n0 Z0__112 c1001 c1009 (by decide) rfl)) hZ_110 (ow hw 99 rfl) (ow hw 32 rfl) (by decide) (by decide)) q_115a q_115c (g := (mkF m 130 #[iv p0, iv p1, iv p2, iv p3, iv p4, iv 3, iv 2, iv x0, iv x1, iv x2, rv sx_105, rv sx_106, rv sx_107, rv b_108, iv 0, iv 1, iv 2, iv 0, oU, oU, oU] [(.ref sx_107), (.ref b_108)])) rfl (by rw [hml]; rfl) (Steps.refl _) (argsL := [(.ref sx_107)]) (rest := []) (lenOf pd_15 rfl) rfl (by show 2 * 0 + _ ≤ _; exact Nat.le_of_eq rfl) (hb hby at_130) (fun _ _ => ⟨rfl, e_114, (by decide : 14 + 0 ≤ _), (by decide : 117 + 0 ≤ _)⟩)
    dsimp only [Pt.U, Pt.locs, Pt.cells, Pt.slots] at X_115 l_115 y_115 z_115 st_115 hQ_115
    subst l_115 y_115 z_115
    obtain ⟨rfl, N_115q, K_115, Fp_115, Ft_115⟩ := hQ_115
    have N_115 := Fr.app N_114 N_115q
    have c1011 := Safe.keep K_115 (allS c993 all0) c994.1 c993
    have c1012 := c994.trans (CHr.keep K_115 (allS c993 all0) c994.1)
    have c1013 := Nat.le_trans c995 K_115.1
    have c1014 := c996.trans K_115 (allS (Or.inr sz_b_108) all0)
    have c1015 := own_stake c997 K_115 c1010
    have c1016 := c998.keep K_115
    have c1017 := c999.keep K_115 (ninS ne_sx_105_b_108 nin0)
    have c1018 := c1000.keep K_115 (ninS ne_sx_105_b_108 nin0)
    have c1019 := c1001.keep K_115 (ninS ne_sb_105_b_108 nin0)
    have c1020 := c1002.keep K_115
    have c1021 := c1003.keep K_115 (ninS ne_sx_106_b_108 nin0)
    have c1022 := c1004.keep K_115 (ninS ne_sx_106_b_108 nin0)
    have c1023 := c1005.keep K_115 (ninS ne_sb_106_b_108 nin0)
    have c1024 := c1006.keep K_115
    have c1025 := c1007.keep K_115 (ninS ne_sx_107_b_108 nin0)
    have c1026 := c1008.keep K_115 (ninS ne_sx_107_b_108 nin0)
    have c1027 := c1009.keep K_115 (ninS ne_sb_107_b_108 nin0)
    have c1028 := c1010.keep K_115
    have Z0__115 : n0 ≤ T_115.heap.size := Nat.le_trans Z0__112 K_115.1
    have Fq_115 : Fld Z T_115.heap b_108 "com/example/cutoff/cutoff/store/TextCursor" "position" "I" (.int (3 : Int32)) := Fp_115
    refine og (fun t k => st_115.trans k) ?_
    refine og (B := T_115.setTop (mkF m 137 #[iv p0, iv p1, iv p2, iv p3, iv p4, iv 3, iv 2, iv x0, iv x1, iv x2, rv sx_105, rv sx_106, rv sx_107, rv b_108, iv 0, iv 1, iv 2, iv 0, iv 1, oU, oU] [(.ref b_108)])) (fun t k => ?_) ?_
    · refine XS.istore X_115.here hx rfl (hb hby at_133) rfl (l' := #[iv p0, iv p1, iv p2, iv p3, iv p4, iv 3, iv 2, iv x0, iv x1, iv x2, rv sx_105, rv sx_106, rv sx_107, rv b_108, iv 0, iv 1, iv 2, iv 0, iv 1, oU, oU]) rfl ?_
      refine XS.aload X_115.here hx rfl (hb hby at_135) rfl rfl ?_
      exact k
    obtain ⟨cq_116, kq_116, q_116a, q_116b, q_116c⟩ := isOf hZ_110 rfl c1028
    obtain ⟨_, _, ⟨T_116, L_116, k_116, n_116⟩, -, X_116, ⟨Lc_116, hQ_116, l_116, y_116, z_116⟩, st_116⟩ := X_115.virtualBack hx (y := own_m22) (z := own_m22) hown_110 (mvT hZ_110 (ow hw 114 rfl)) (mvT hZ_110 (ow hw 115 rfl)) (notFace_of_selects (args := #[]) (mvT hZ_110 (ow hw 117 rfl))) (mvT hZ_110 (ow hw 117 rfl)) (mvT hZ_110 (ow hw 116 rfl)) (by decide) (backOf (W := 0) (rm21 l Z av0 hw [] b_108 (3 : Int32) T_115.heap n0 Z0__115 Fq_115) hZ_110 (ow hw 118 rfl) (ow hw 32 rfl) (by decide) (by decide)) q_116a q_116c (g := (mkF m 137 #[iv p0, iv p1, iv p2, iv p3, iv p4, iv 3, iv 2, iv x0, iv x1, iv x2, rv sx_105, rv sx_106, rv sx_107, rv b_108, iv 0, iv 1, iv 2, iv 0, iv 1, oU, oU] [(.ref b_108)])) rfl (by rw [hml]; rfl) (Steps.refl _) (argsL := []) (rest := []) (lenOf pd_4 rfl) rfl (by show 2 * 0 + _ ≤ _; exact Nat.le_of_eq rfl) (hb hby at_137) (fun _ _ => ⟨rfl, rfl, (by decide : 14 + 0 ≤ _), (by decide : 117 + 0 ≤ _)⟩)
    dsimp only [Pt.U, Pt.locs, Pt.cells, Pt.slots] at X_116 l_116 y_116 z_116 st_116 hQ_116
    subst l_116 y_116 z_116
    obtain ⟨rfl, N_116q, e_116⟩ := hQ_116
    have N_116 := Fr.app N_115 N_116q
    refine og (fun t k => st_116.trans k) ?_
    refine og (B := T_116.setTop (mkF m 144 #[iv p0, iv p1, iv p2, iv p3, iv p4, iv 3, iv 2, iv x0, iv x1, iv x2, rv sx_105, rv sx_106, rv sx_107, rv b_108, iv 0, iv 1, iv 2, iv 0, iv 1, iv 3, oU] [(.ref b_108)])) (fun t k => ?_) ?_
    · refine XS.istore X_116.here hx rfl (hb hby at_140) rfl (l' := #[iv p0, iv p1, iv p2, iv p3, iv p4, iv 3, iv 2, iv x0, iv x1, iv x2, rv sx_105, rv sx_106, rv sx_107, rv b_108, iv 0, iv 1, iv 2, iv 0, iv 1, iv 3, oU]) rfl ?_
      refine XS.aload X_116.here hx rfl (hb hby at_142) rfl rfl ?_
      exact k
    obtain ⟨cq_117, kq_117, q_117a, q_117b, q_117c⟩ := isOf hZ_110 e_116 c1028
    obtain ⟨_, _, ⟨T_117, L_117, k_117, n_117⟩, -, X_117, ⟨Lc_117, hQ_117, l_117, y_117, z_117⟩, st_117⟩ := X_116.virtualBack hx (y := own_m17) (z := own_m17) hown_110 (mvT hZ_110 (ow hw 87 rfl)) (mvT hZ_110 (ow hw 88 rfl)) (notFace_of_selects (args := #[]) (mvT hZ_110 (ow hw 90 rfl))) (mvT hZ_110 (ow hw 90 rfl)) (mvT hZ_110 (ow hw 89 rfl)) (by decide) (backOf (W := 0) (rm16 l Z av0 hw [] b_108 (3 : Int32) sx_105 sb_105 sk_105 w (3 : Int32) [(.int (own_byte (nar .char x0))), (.int (own_byte (nar .char x1))), (.int (own_byte (nar .char x2)))] T_115.heap n0 Z0__115 Fq_115 Ft_115 c1016 c1017 c1018 c1015 hw0 c1019) hZ_110 (ow hw 91 rfl) (ow hw 32 rfl) (by decide) (by decide)) q_117a q_117c (g := (mkF m 144 #[iv p0, iv p1, iv p2, iv p3, iv p4, iv 3, iv 2, iv x0, iv x1, iv x2, rv sx_105, rv sx_106, rv sx_107, rv b_108, iv 0, iv 1, iv 2, iv 0, iv 1, iv 3, oU] [(.ref b_108)])) rfl (by rw [hml]; rfl) (Steps.refl _) (argsL := []) (rest := []) (lenOf pd_3 rfl) rfl (by show 2 * 0 + _ ≤ _; exact Nat.le_of_eq rfl) (hb hby at_144) (fun _ _ => ⟨rfl, e_116, (by decide : 14 + 0 ≤ _), (by decide : 117 + 0 ≤ _)⟩)
    dsimp only [Pt.U, Pt.locs, Pt.cells, Pt.slots] at X_117 l_117 y_117 z_117 st_117 hQ_117
    subst l_117 y_117 z_117
    obtain ⟨hv_117, N_117q, e_117⟩ := hQ_117
    have N_117 := Fr.app N_116 N_117q
    rw [show own_ge (3 : Int32) (3 : Int32) = (1 : Int32) from by decide] at hv_117
    subst hv_117
    refine og (fun t k => st_117.trans k) ?_
    refine og (B := T_117.setTop (mkF m 153 #[iv p0, iv p1, iv p2, iv p3, iv p4, iv 3, iv 2, iv x0, iv x1, iv x2, rv sx_105, rv sx_106, rv sx_107, rv b_108, iv 0, iv 1, iv 2, iv 0, iv 1, iv 3, iv 1] [(.int 3), (.int 0)])) (fun t k => ?_) ?_
    · refine XS.istore X_117.here hx rfl (hb hby at_147) rfl (l' := #[iv p0, iv p1, iv p2, iv p3, iv p4, iv 3, iv 2, iv x0, iv x1, iv x2, rv sx_105, rv sx_106, rv sx_107, rv b_108, iv 0, iv 1, iv 2, iv 0, iv 1, iv 3, iv 1]) rfl ?_
      refine XS.iload X_117.here hx rfl (hb hby at_149) rfl ?_
      refine XS.iload X_117.here hx rfl (hb hby at_151) rfl ?_
      exact k
    refine og (B := T_117.setTop (mkF m 160 #[iv p0, iv p1, iv p2, iv p3, iv p4, iv 3, iv 2, iv x0, iv x1, iv x2, rv sx_105, rv sx_106, rv sx_107, rv b_108, iv 0, iv 1, iv 2, iv 0, iv 1, iv 3, iv 1] [(.int 0)])) (fun t k => ?_) ?_
    · refine XS.ifYes X_117.here hx rfl (pc0 := 153) (pc' := 160) rfl (hb hby at_153) rfl ((if0 _ _).trans (feq (by decide : ¬ ((3 : Int32) = (0 : Int32)))).2) (by decide) (by decide) ?_
      exact k
    refine og (B := T_117.setTop (mkF m 161 #[iv p0, iv p1, iv p2, iv p3, iv p4, iv 3, iv 2, iv x0, iv x1, iv x2, rv sx_105, rv sx_106, rv sx_107, rv b_108, iv 0, iv 1, iv 2, iv 0, iv 1, iv 3, iv 1] [(.int 0), (.int 0)])) (fun t k => ?_) ?_
    · refine XS.iconst X_117.here hx rfl (hb hby at_160) ?_
      exact k
    refine og (B := T_117.setTop (mkF m 164 #[iv p0, iv p1, iv p2, iv p3, iv p4, iv 3, iv 2, iv x0, iv x1, iv x2, rv sx_105, rv sx_106, rv sx_107, rv b_108, iv 0, iv 1, iv 2, iv 0, iv 1, iv 3, iv 1] [])) (fun t k => ?_) ?_
    · refine XS.icmpNo X_117.here hx rfl (hb hby at_161) rfl (teq (by decide : (0 : Int32) = (0 : Int32))).2 ?_
      exact k
    refine og (B := T_117.setTop (mkF m 166 #[iv p0, iv p1, iv p2, iv p3, iv p4, iv 3, iv 2, iv x0, iv x1, iv x2, rv sx_105, rv sx_106, rv sx_107, rv b_108, iv 0, iv 1, iv 2, iv 0, iv 1, iv 3, iv 1] [(.int 1)])) (fun t k => ?_) ?_
    · refine XS.iload X_117.here hx rfl (hb hby at_164) rfl ?_
      exact k
    refine og (B := T_117.setTop (mkF m 169 #[iv p0, iv p1, iv p2, iv p3, iv p4, iv 3, iv 2, iv x0, iv x1, iv x2, rv sx_105, rv sx_106, rv sx_107, rv b_108, iv 0, iv 1, iv 2, iv 0, iv 1, iv 3, iv 1] [])) (fun t k => ?_) ?_
    · refine XS.ifNo X_117.here hx rfl (hb hby at_166) rfl ((if0 _ _).trans (feq (by decide : ¬ ((1 : Int32) = (0 : Int32)))).1) ?_
      exact k
    refine og (B := T_117.setTop (mkF m 173 #[iv p0, iv p1, iv p2, iv p3, iv p4, iv 3, iv 2, iv x0, iv x1, iv x2, rv sx_105, rv sx_106, rv sx_107, rv b_108, iv 0, iv 1, iv 2, iv 0, iv 1, iv 3, iv 1] [(.int 2), (.int 2)])) (fun t k => ?_) ?_
    · refine XS.iload X_117.here hx rfl (hb hby at_169) rfl ?_
      refine XS.iload X_117.here hx rfl (hb hby at_171) rfl ?_
      exact k
    refine og (B := T_117.setTop (mkF m 176 #[iv p0, iv p1, iv p2, iv p3, iv p4, iv 3, iv 2, iv x0, iv x1, iv x2, rv sx_105, rv sx_106, rv sx_107, rv b_108, iv 0, iv 1, iv 2, iv 0, iv 1, iv 3, iv 1] [])) (fun t k => ?_) ?_
    · refine XS.icmpNo X_117.here hx rfl (hb hby at_173) rfl (teq (by decide : (2 : Int32) = (2 : Int32))).2 ?_
      exact k
    refine og (B := T_117.setTop (mkF m 182 #[iv p0, iv p1, iv p2, iv p3, iv p4, iv 3, iv 2, iv x0, iv x1, iv x2, rv sx_105, rv sx_106, rv sx_107, rv b_108, iv 0, iv 1, iv 2, iv 0, iv 1, iv 3, iv 1] [(.int 3), (.int 2), (.int 0)])) (fun t k => ?_) ?_
    · refine XS.iload X_117.here hx rfl (hb hby at_176) rfl ?_
      refine XS.iload X_117.here hx rfl (hb hby at_178) rfl ?_
      refine XS.iload X_117.here hx rfl (hb hby at_180) rfl ?_
      exact k
    refine og (B := T_117.setTop (mkF m 189 #[iv p0, iv p1, iv p2, iv p3, iv p4, iv 3, iv 2, iv x0, iv x1, iv x2, rv sx_105, rv sx_106, rv sx_107, rv b_108, iv 0, iv 1, iv 2, iv 0, iv 1, iv 3, iv 1] [(.int 0)])) (fun t k => ?_) ?_
    · refine XS.icmpYes X_117.here hx rfl (pc0 := 182) (pc' := 189) rfl (hb hby at_182) rfl (feq (by decide : ¬ ((2 : Int32) = (3 : Int32)))).2 (by decide) (by decide) ?_
      exact k
    refine og (B := T_117.setTop (mkF m 190 #[iv p0, iv p1, iv p2, iv p3, iv p4, iv 3, iv 2, iv x0, iv x1, iv x2, rv sx_105, rv sx_106, rv sx_107, rv b_108, iv 0, iv 1, iv 2, iv 0, iv 1, iv 3, iv 1] [(.int 0), (.int 0)])) (fun t k => ?_) ?_
    · refine XS.iconst X_117.here hx rfl (hb hby at_189) ?_
      exact k
    refine og (B := T_117.setTop (mkF m 193 #[iv p0, iv p1, iv p2, iv p3, iv p4, iv 3, iv 2, iv x0, iv x1, iv x2, rv sx_105, rv sx_106, rv sx_107, rv b_108, iv 0, iv 1, iv 2, iv 0, iv 1, iv 3, iv 1] [])) (fun t k => ?_) ?_
    · refine XS.icmpNo X_117.here hx rfl (hb hby at_190) rfl (teq (by decide : (0 : Int32) = (0 : Int32))).2 ?_
      exact k
    refine og (B := T_117.setTop (mkF m 195 #[iv p0, iv p1, iv p2, iv p3, iv p4, iv 3, iv 2, iv x0, iv x1, iv x2, rv sx_105, rv sx_106, rv sx_107, rv b_108, iv 0, iv 1, iv 2, iv 0, iv 1, iv 3, iv 1] [(.int 1)])) (fun t k => ?_) ?_
    · refine XS.iload X_117.here hx rfl (hb hby at_193) rfl ?_
      exact k
    refine og (B := T_117.setTop (mkF m 198 #[iv p0, iv p1, iv p2, iv p3, iv p4, iv 3, iv 2, iv x0, iv x1, iv x2, rv sx_105, rv sx_106, rv sx_107, rv b_108, iv 0, iv 1, iv 2, iv 0, iv 1, iv 3, iv 1] [])) (fun t k => ?_) ?_
    · refine XS.ifNo X_117.here hx rfl (hb hby at_195) rfl ((if0 _ _).trans (feq (by decide : ¬ ((1 : Int32) = (0 : Int32)))).1) ?_
      exact k
    refine og (B := T_117.setTop (mkF m 202 #[iv p0, iv p1, iv p2, iv p3, iv p4, iv 3, iv 2, iv x0, iv x1, iv x2, rv sx_105, rv sx_106, rv sx_107, rv b_108, iv 0, iv 1, iv 2, iv 0, iv 1, iv 3, iv 1] [(.int 3), (.int 3)])) (fun t k => ?_) ?_
    · refine XS.iload X_117.here hx rfl (hb hby at_198) rfl ?_
      refine XS.iload X_117.here hx rfl (hb hby at_200) rfl ?_
      exact k
    refine og (B := T_117.setTop (mkF m 205 #[iv p0, iv p1, iv p2, iv p3, iv p4, iv 3, iv 2, iv x0, iv x1, iv x2, rv sx_105, rv sx_106, rv sx_107, rv b_108, iv 0, iv 1, iv 2, iv 0, iv 1, iv 3, iv 1] [])) (fun t k => ?_) ?_
    · refine XS.icmpNo X_117.here hx rfl (hb hby at_202) rfl (teq (by decide : (3 : Int32) = (3 : Int32))).2 ?_
      exact k
    refine og (B := T_117.setTop (mkF m 207 #[iv p0, iv p1, iv p2, iv p3, iv p4, iv 3, iv 2, iv x0, iv x1, iv x2, rv sx_105, rv sx_106, rv sx_107, rv b_108, iv 0, iv 1, iv 2, iv 0, iv 1, iv 3, iv 1] [(.int 1)])) (fun t k => ?_) ?_
    · refine XS.iload X_117.here hx rfl (hb hby at_205) rfl ?_
      exact k
    refine og (B := T_117.setTop (mkF m 210 #[iv p0, iv p1, iv p2, iv p3, iv p4, iv 3, iv 2, iv x0, iv x1, iv x2, rv sx_105, rv sx_106, rv sx_107, rv b_108, iv 0, iv 1, iv 2, iv 0, iv 1, iv 3, iv 1] [])) (fun t k => ?_) ?_
    · refine XS.ifNo X_117.here hx rfl (hb hby at_207) rfl ((if0 _ _).trans (feq (by decide : ¬ ((1 : Int32) = (0 : Int32)))).1) ?_
      exact k
    refine og (B := T_117.setTop (mkF m 215 #[iv p0, iv p1, iv p2, iv p3, iv p4, iv 3, iv 2, iv x0, iv x1, iv x2, rv sx_105, rv sx_106, rv sx_107, rv b_108, iv 0, iv 1, iv 2, iv 0, iv 1, iv 3, iv 1] [(.int 1)])) (fun t k => ?_) ?_
    · refine XS.iconst X_117.here hx rfl (hb hby at_210) ?_
      refine XS.goto X_117.here hx rfl (pc0 := 211) (pc' := 215) rfl (hb hby at_211) (by decide) (by decide) ?_
      exact k
    obtain ⟨fs, hr, hrun, hended, hRW⟩ := X_117.leaveW Si_110 (by rw [e_117]; exact c1013) (v := some (.int 1)) (fun h => by rw [Bd.returns] at h; cases h)
    refine ⟨_, _, ?_, hrun, hended, _, _, rfl, ?_, hRW.1, hRW.2.1, hRW.2.2.1, hRW.2.2.2.mono (by decide) (by decide)⟩
    · show Steps p.tables e below (T_117.setTop (mkF m 215 #[iv p0, iv p1, iv p2, iv p3, iv p4, iv 3, iv 2, iv x0, iv x1, iv x2, rv sx_105, rv sx_106, rv sx_107, rv b_108, iv 0, iv 1, iv 2, iv 0, iv 1, iv 3, iv 1] [(.int 1)])) _
      exact retN X_117 hx (t := .boolean) Bd.returns (by simp) (hb hby at_215) hr
    · show Q0 Z p0 p1 p2 p3 p4 w h0 n0 _ T_117.heap _
      rw [e_117]
      exact ⟨rfl, N_117, trivial⟩
  · show ∃ s₂ o, Steps p.tables e below (s₁.setTop (mkF m 49 #[iv p0, iv p1, iv p2, iv p3, iv p4, iv 3, iv 3, iv x0, iv x1, iv x2, oU, oU, oU, oU, oU, oU, oU, oU, oU, oU, oU] [(.int 3), (.int x2), (.int x1), (.int x0)])) s₂ ∧ _
    have kk_118 := K0
    obtain ⟨_, _, ⟨T_118, L_118, k_118, n_118⟩, -, X_118, ⟨Lc_118, hQ_118, l_118, y_118, z_118⟩, st_118⟩ := Jvm.LawKit.callS X0 hx (y := own_m2) hown (mvT hZ (ow hw 1 rfl)) (mvT hZ (ow hw 2 rfl)) (mvT hZ (ow hw 3 rfl)) (mvT hZ (ow hw 4 rfl)) (by decide) (backOf (W := 0) (rmstr3 l Z av0 hw [] x0 x1 x2 w h0 n0 Z0 S_COMPACT_STRINGS hw0 hxq0 hxq1 hxq2) hZ (ow hw 4 rfl) (ow hw 3 rfl) (by decide) (by decide)) (g := (mkF m 49 #[iv p0, iv p1, iv p2, iv p3, iv p4, iv 3, iv 3, iv x0, iv x1, iv x2, oU, oU, oU, oU, oU, oU, oU, oU, oU, oU, oU] [(.int 3), (.int x2), (.int x1), (.int x0)])) rfl (by rw [hml]; rfl) (argsL := [(.int x0), (.int x1), (.int x2), (.int 3)]) (rest := []) (lenOf pd_11 rfl) rfl (by show 2 * 0 + _ ≤ _; exact Nat.le_of_eq rfl) (hb hby at_49) (fun _ _ => ⟨rfl, e0, (by decide : 0 + 3 ≤ _), (by decide : 0 + 10 ≤ _)⟩)
    dsimp only [Pt.U, Pt.locs, Pt.cells, Pt.slots] at X_118 l_118 y_118 z_118 st_118 hQ_118
    subst l_118 y_118 z_118
    obtain ⟨sx_118, sb_118, sk_118, rfl, N_118q, K_118, szq_118, sE_118, sc_118, sv_118, sV_118⟩ := hQ_118
    have N_118 := Fr.app N0 N_118q
    have c1029 := H1.trans (CHr.keep K_118 all0 H1.1)
    have c1030 := K0.trans K_118 all0
    have c1031 := own_stak S_COMPACT_STRINGS K_118
    have Z0__118 : n0 ≤ T_118.heap.size := Nat.le_trans Z0 K_118.1
    have sz_sx_118 : h0.size ≤ sx_118 := Nat.le_trans kk_118.1 szq_118
    refine og (fun t k => st_118 t k) ?_
    refine og (B := T_118.setTop (mkF m 62 #[iv p0, iv p1, iv p2, iv p3, iv p4, iv 3, iv 3, iv x0, iv x1, iv x2, rv sx_118, oU, oU, oU, oU, oU, oU, oU, oU, oU, oU] [(.int 3), (.int x2), (.int x1), (.int x0)])) (fun t k => ?_) ?_
    · refine XS.astore X_118.here hx rfl (hb hby at_52) rfl rfl (l' := #[iv p0, iv p1, iv p2, iv p3, iv p4, iv 3, iv 3, iv x0, iv x1, iv x2, rv sx_118, oU, oU, oU, oU, oU, oU, oU, oU, oU, oU]) rfl ?_
      refine XS.iload X_118.here hx rfl (hb hby at_54) rfl ?_
      refine XS.iload X_118.here hx rfl (hb hby at_56) rfl ?_
      refine XS.iload X_118.here hx rfl (hb hby at_58) rfl ?_
      refine XS.iload X_118.here hx rfl (hb hby at_60) rfl ?_
      exact k
    have kk_119 := c1030
    obtain ⟨_, _, ⟨T_119, L_119, k_119, n_119⟩, -, X_119, ⟨Lc_119, hQ_119, l_119, y_119, z_119⟩, st_119⟩ := Jvm.LawKit.callS X_118 hx (y := own_m2) hown (mvT hZ (ow hw 1 rfl)) (mvT hZ (ow hw 2 rfl)) (mvT hZ (ow hw 3 rfl)) (mvT hZ (ow hw 4 rfl)) (by decide) (backOf (W := 0) (rmstr3 l Z av0 hw [] x0 x1 x2 w T_118.heap n0 Z0__118 c1031 hw0 hxq0 hxq1 hxq2) hZ (ow hw 4 rfl) (ow hw 3 rfl) (by decide) (by decide)) (g := (mkF m 62 #[iv p0, iv p1, iv p2, iv p3, iv p4, iv 3, iv 3, iv x0, iv x1, iv x2, rv sx_118, oU, oU, oU, oU, oU, oU, oU, oU, oU, oU] [(.int 3), (.int x2), (.int x1), (.int x0)])) rfl (by rw [hml]; rfl) (argsL := [(.int x0), (.int x1), (.int x2), (.int 3)]) (rest := []) (lenOf pd_11 rfl) rfl (by show 2 * 0 + _ ≤ _; exact Nat.le_of_eq rfl) (hb hby at_62) (fun _ _ => ⟨rfl, rfl, (by decide : 3 + 3 ≤ _), (by decide : 10 + 10 ≤ _)⟩)
    dsimp only [Pt.U, Pt.locs, Pt.cells, Pt.slots] at X_119 l_119 y_119 z_119 st_119 hQ_119
    subst l_119 y_119 z_119
    obtain ⟨sx_119, sb_119, sk_119, rfl, N_119q, K_119, szq_119, sE_119, sc_119, sv_119, sV_119⟩ := hQ_119
    have N_119 := Fr.app N_118 N_119q
    have c1032 := c1029.trans (CHr.keep K_119 all0 c1029.1)
    have c1033 := c1030.trans K_119 all0
    have c1034 := own_stak c1031 K_119
    have c1035 := sE_118.keep K_119
    have c1036 := sc_118.keep K_119 nin0
    have c1037 := sv_118.keep K_119 nin0
    have c1038 := sV_118.keep K_119 nin0
    have Z0__119 : n0 ≤ T_119.heap.size := Nat.le_trans Z0__118 K_119.1
    have sz_sx_119 : h0.size ≤ sx_119 := Nat.le_trans kk_119.1 szq_119
    refine og (fun t k => st_119 t k) ?_
    refine og (B := T_119.setTop (mkF m 77 #[iv p0, iv p1, iv p2, iv p3, iv p4, iv 3, iv 3, iv x0, iv x1, iv x2, rv sx_118, rv sx_119, oU, oU, oU, oU, oU, oU, oU, oU, oU] [(.int 3), (.int 3), (.int x2), (.int x1), (.int x0)])) (fun t k => ?_) ?_
    · refine XS.astore X_119.here hx rfl (hb hby at_65) rfl rfl (l' := #[iv p0, iv p1, iv p2, iv p3, iv p4, iv 3, iv 3, iv x0, iv x1, iv x2, rv sx_118, rv sx_119, oU, oU, oU, oU, oU, oU, oU, oU, oU]) rfl ?_
      refine XS.iload X_119.here hx rfl (hb hby at_67) rfl ?_
      refine XS.iload X_119.here hx rfl (hb hby at_69) rfl ?_
      refine XS.iload X_119.here hx rfl (hb hby at_71) rfl ?_
      refine XS.iload X_119.here hx rfl (hb hby at_73) rfl ?_
      refine XS.iload X_119.here hx rfl (hb hby at_75) rfl ?_
      exact k
    have kk_120 := c1033
    obtain ⟨_, _, ⟨T_120, L_120, k_120, n_120⟩, -, Xb_120, Sb_120, gs_120, ⟨Lc_120, hQ_120, l_120, y_120, z_120, CH_120⟩, st_120⟩ := callSS (show Stand p l e room_1 (s.setVm s.vm) m #[(.int p0), (.int p1), (.int p2), (.int p3), (.int p4)] below meth c T_119 _ _ _ from X_119) hx (y := own_m6) hown (mvT hZ (ow hw 27 rfl)) (mvT hZ (ow hw 28 rfl)) (mvT hZ (ow hw 3 rfl)) (mvT hZ (ow hw 29 rfl)) (by decide) (backOfSH (s := s) (vm0 := s.vm) (W := 0) (rmsfx3_3 l Z av0 hw [] x0 x1 x2  T_119.heap n0 Z0__119 hEL) hZ (ow hw 29 rfl) (ow hw 3 rfl) (by decide) (by decide) hEL c1032.1) (g := (mkF m 77 #[iv p0, iv p1, iv p2, iv p3, iv p4, iv 3, iv 3, iv x0, iv x1, iv x2, rv sx_118, rv sx_119, oU, oU, oU, oU, oU, oU, oU, oU, oU] [(.int 3), (.int 3), (.int x2), (.int x1), (.int x0)])) rfl (by rw [hml]; rfl) (argsL := [(.int x0), (.int x1), (.int x2), (.int 3), (.int 3)]) (rest := []) (lenOf pd_16 rfl) rfl (by show 2 * 0 + _ ≤ _; exact Nat.le_of_eq rfl) (hb hby at_77) (fun _ _ => ⟨rfl, rfl, (by decide : 6 + 6 ≤ _), (by decide : 20 + 12 ≤ _)⟩)
    dsimp only [Pt.U, Pt.locs, Pt.cells, Pt.slots] at Xb_120 Sb_120 gs_120 l_120 y_120 z_120 st_120 hQ_120 CH_120
    subst l_120 y_120 z_120
    obtain ⟨sx_120, sb_120, sk_120, rfl, N_120q, K_120, szq_120, sE_120, sc_120, sv_120, sV_120⟩ := hQ_120
    have N_120 := Fr.app N_119 N_120q
    obtain ⟨X_120, Si_120, hZ_120, hown_120⟩ := rebS (s := s) (vm0 := s.vm) ((State.WarmedH.refl s).since 0) (Nat.zero_le 0) Xb_120 Sb_120 (Nat.zero_le _) hZ hown
    have c1039 := c1032.trans CH_120
    have c1040 := c1033.trans K_120 all0
    have c1041 := own_stak c1034 K_120
    have c1042 := c1035.keep K_120
    have c1043 := c1036.keep K_120 nin0
    have c1044 := c1037.keep K_120 nin0
    have c1045 := c1038.keep K_120 nin0
    have c1046 := sE_119.keep K_120
    have c1047 := sc_119.keep K_120 nin0
    have c1048 := sv_119.keep K_120 nin0
    have c1049 := sV_119.keep K_120 nin0
    have Z0__120 : n0 ≤ T_120.heap.size := Nat.le_trans Z0__119 K_120.1
    have sz_sx_120 : h0.size ≤ sx_120 := Nat.le_trans kk_120.1 szq_120
    refine og (fun t k => st_120.trans k) ?_
    refine og (B := T_120.setTop (mkF m 82 #[iv p0, iv p1, iv p2, iv p3, iv p4, iv 3, iv 3, iv x0, iv x1, iv x2, rv sx_118, rv sx_119, rv sx_120, oU, oU, oU, oU, oU, oU, oU, oU] [])) (fun t k => ?_) ?_
    · refine XS.astore X_120.here hx rfl (hb hby at_80) rfl rfl (l' := #[iv p0, iv p1, iv p2, iv p3, iv p4, iv 3, iv 3, iv x0, iv x1, iv x2, rv sx_118, rv sx_119, rv sx_120, oU, oU, oU, oU, oU, oU, oU, oU]) rfl ?_
      exact k
    obtain ⟨T_121, h_121, X_121, e_121, E_121, A_121, D_121, -, st_121⟩ := newO X_120 hx hZ_120 hown_120 (ow hw 30 rfl) (ow hw 31 rfl) (ow hw 32 rfl) rfl (g := (mkF m 82 #[iv p0, iv p1, iv p2, iv p3, iv p4, iv 3, iv 3, iv x0, iv x1, iv x2, rv sx_118, rv sx_119, rv sx_120, oU, oU, oU, oU, oU, oU, oU, oU] [])) rfl (hb hby at_82) (by decide) (by decide)
    obtain ⟨b_121, g_121⟩ : ∃ z, z = T_120.heap.size := ⟨_, rfl⟩
    rw [← g_121] at A_121 D_121 st_121
    have g_b_121 : n0 ≤ b_121 := Nat.le_trans Z0__120 (Nat.le_of_eq g_121.symm)
    have sz_b_121 : h0.size ≤ b_121 := Nat.le_trans c1040.1 (Nat.le_of_eq g_121.symm)
    have sf_b_121 : Safe Z own_EL T_120.vm T_120.heap b_121 := Safe.new (Nat.le_of_eq g_121.symm)
    have ne_sx_118_b_121 : sx_118 ≠ b_121 := Nat.ne_of_lt (Nat.lt_of_lt_of_le (c1042).lt (Nat.le_of_eq g_121.symm))
    have ne_sb_118_b_121 : sb_118 ≠ b_121 := Nat.ne_of_lt (Nat.lt_of_lt_of_le (c1045).lt (Nat.le_of_eq g_121.symm))
    have ne_sx_119_b_121 : sx_119 ≠ b_121 := Nat.ne_of_lt (Nat.lt_of_lt_of_le (c1046).lt (Nat.le_of_eq g_121.symm))
    have ne_sb_119_b_121 : sb_119 ≠ b_121 := Nat.ne_of_lt (Nat.lt_of_lt_of_le (c1049).lt (Nat.le_of_eq g_121.symm))
    have ne_sx_120_b_121 : sx_120 ≠ b_121 := Nat.ne_of_lt (Nat.lt_of_lt_of_le (sE_120).lt (Nat.le_of_eq g_121.symm))
    have ne_sb_120_b_121 : sb_120 ≠ b_121 := Nat.ne_of_lt (Nat.lt_of_lt_of_le (sV_120).lt (Nat.le_of_eq g_121.symm))
    have c1050 := Safe.ext E_121 c1039.1 sf_b_121
    have c1051 := c1039.trans (CHr.ext E_121 c1039.1)
    have c1052 := Nat.le_trans (Nat.le_refl _) E_121.1
    have c1053 := c1040.ext E_121
    have c1054 := c1041.ext E_121
    have c1055 := c1042.ext E_121
    have c1056 := c1043.ext E_121
    have c1057 := c1044.ext E_121
    have c1058 := c1045.ext E_121
    have c1059 := c1046.ext E_121
    have c1060 := c1047.ext E_121
    have c1061 := c1048.ext E_121
    have c1062 := c1049.ext E_121
    have c1063 := sE_120.ext E_121
    have c1064 := sc_120.ext E_121
    have c1065 := sv_120.ext E_121
    have c1066 := sV_120.ext E_121
    have Z0__121 : n0 ≤ h_121.size := Nat.le_trans Z0__120 E_121.1
    have F_source_b_121 : Fld Z h_121 b_121 "com/example/cutoff/cutoff/store/TextCursor" "source" "Ljava/lang/String;" .null := D_121 (Or.inr (ow hw 39 rfl)) (ty := (.object "java/lang/String")) (by decide)
    have F_text_b_121 : Fld Z h_121 b_121 "com/example/cutoff/cutoff/store/TextCursor" "text" "Ljava/lang/String;" .null := D_121 (Or.inr (ow hw 41 rfl)) (ty := (.object "java/lang/String")) (by decide)
    have F_firstLine_b_121 : Fld Z h_121 b_121 "com/example/cutoff/cutoff/store/TextCursor" "firstLine" "I" (.int 0) := D_121 (Or.inr (ow hw 43 rfl)) (ty := .int) (by decide)
    have F_end_b_121 : Fld Z h_121 b_121 "com/example/cutoff/cutoff/store/TextCursor" "end" "Ljava/lang/String;" .null := D_121 (Or.inr (ow hw 86 rfl)) (ty := (.object "java/lang/String")) (by decide)
    have F_position_b_121 : Fld Z h_121 b_121 "com/example/cutoff/cutoff/store/TextCursor" "position" "I" (.int 0) := D_121 (Or.inl (ow hw 93 rfl)) (ty := .int) (by decide)
    refine og (fun t k => st_121 t k) ?_
    refine og (B := T_121.setTop (mkF m 86 #[iv p0, iv p1, iv p2, iv p3, iv p4, iv 3, iv 3, iv x0, iv x1, iv x2, rv sx_118, rv sx_119, rv sx_120, oU, oU, oU, oU, oU, oU, oU, oU] [(.ref b_121), (.ref b_121)])) (fun t k => ?_) ?_
    · refine XS.dup X_121.here hx rfl (hb hby at_85) rfl rfl ?_
      exact k
    have wS_122 := own_wS hw
    obtain ⟨b_122, T_122, h_122, k1_122, d_122, kc_122, X_122, e_122, E_122, Si_122, ls_122, hZ_122, hown_122, A_122, Fc_122, Fv_122, V_122, -, -, CH_122, -, NE_122, st_122⟩ := ldcCH (s := s) (vm0 := T_120.vm) X_121 hx hZ_120 hown_120 (ow hw 33 rfl) wS_122 e_121 Si_120 c1052 hEL (List.mem_of_getElem? (i := 1) rfl) c1051.1 (vs := [(.int (115 : Int32))]) (z := (1 : Int32)) ⟨by decide, rfl⟩ (by decide) rfl (g := (mkF m 86 #[iv p0, iv p1, iv p2, iv p3, iv p4, iv 3, iv 3, iv x0, iv x1, iv x2, rv sx_118, rv sx_119, rv sx_120, oU, oU, oU, oU, oU, oU, oU, oU] [(.ref b_121), (.ref b_121)])) rfl (hb hby at_86) (n := 4) (by decide) (by decide) (by decide) (by decide)
    have c1067 := CHr.safe CH_122 (F_source_b_121).lt c1050
    have c1068 := c1051.trans CH_122
    have ne_b_121_b_122 : b_121 ≠ b_122 := (NE_122 _ c1067).1
    have ne_b_121_d_122 : b_121 ≠ d_122 := (NE_122 _ c1067).2
    have c1069 := c1053.ext E_122
    have c1070 := c1054.ext E_122
    have c1071 := c1055.ext E_122
    have c1072 := c1056.ext E_122
    have c1073 := c1057.ext E_122
    have c1074 := c1058.ext E_122
    have c1075 := c1059.ext E_122
    have c1076 := c1060.ext E_122
    have c1077 := c1061.ext E_122
    have c1078 := c1062.ext E_122
    have c1079 := c1063.ext E_122
    have c1080 := c1064.ext E_122
    have c1081 := c1065.ext E_122
    have c1082 := c1066.ext E_122
    have c1083 := F_source_b_121.ext E_122
    have c1084 := F_text_b_121.ext E_122
    have c1085 := F_firstLine_b_121.ext E_122
    have c1086 := F_end_b_121.ext E_122
    have c1087 := F_position_b_121.ext E_122
    have c1088 := A_121.ext E_122
    have Z0__122 : n0 ≤ h_122.size := Nat.le_trans Z0__121 E_122.1
    refine og (fun t k => st_122 t k) ?_
    refine og (B := T_122.setTop (mkF m 91 #[iv p0, iv p1, iv p2, iv p3, iv p4, iv 3, iv 3, iv x0, iv x1, iv x2, rv sx_118, rv sx_119, rv sx_120, oU, oU, oU, oU, oU, oU, oU, oU] [(.int 1), (.ref sx_118), (.ref b_122), (.ref b_121), (.ref b_121)])) (fun t k => ?_) ?_
    · refine XS.aload X_122.here hx rfl (hb hby at_88) rfl rfl ?_
      refine XS.iconst X_122.here hx rfl (hb hby at_90) ?_
      exact k
    obtain ⟨_, _, ⟨T_123, L_123, k_123, n_123⟩, -, Xb_123, Sb_123, gs_123, ⟨Lc_123, hQ_123, l_123, y_123, z_123, CH_123⟩, st_123⟩ := X_122.specialBackS hx (y := own_m7) rfl hown_122 (mvT hZ_122 (ow hw 34 rfl)) (mvT hZ_122 (ow hw 35 rfl)) (mvT hZ_122 (ow hw 36 rfl)) (by decide) (backOfSH (s := s) (vm0 := T_122.vm) (W := 1) (rmtc l Z av0 hw [] b_121 b_122 sx_118 .null .null (.int 0) .null sb_118 sk_118 w (3 : Int32) [(.int (own_byte (nar .char x0))), (.int (own_byte (nar .char x1))), (.int (own_byte (nar .char x2)))] (fun c => own_ixl3 (own_byte (nar .char x0)) (own_byte (nar .char x1)) (own_byte (nar .char x2)) c) h_122 n0 Z0__122 c1088 c1083 c1084 c1085 c1086 c1087 g_b_121 c1071 c1072 c1073 c1070 hw0 c1074 ne_sx_118_b_121 ne_sb_118_b_121 hEL (fun h' c z e f1 f2 s v => rmsxa3 l Z av0 hw [] sx_118 c sb_118 sk_118 w (own_byte (nar .char x0)) (own_byte (nar .char x1)) (own_byte (nar .char x2)) h' n0 z e f1 f2 s hw0 v)) hZ_122 (ow hw 36 rfl) (ow hw 32 rfl) (by decide) (by decide) hEL c1068.1) (g := (mkF m 91 #[iv p0, iv p1, iv p2, iv p3, iv p4, iv 3, iv 3, iv x0, iv x1, iv x2, rv sx_118, rv sx_119, rv sx_120, oU, oU, oU, oU, oU, oU, oU, oU] [(.int 1), (.ref sx_118), (.ref b_122), (.ref b_121), (.ref b_121)])) rfl (by rw [hml]; rfl) (Steps.refl _) (a := b_121) (argsL := [(.ref b_122), (.ref sx_118), (.int 1)]) (rest := [(.ref b_121)]) (lenOf pd_17 rfl) rfl (by show 2 * 0 + _ ≤ _; exact Nat.le_of_eq rfl) (hb hby at_91) (fun _ _ => ⟨rfl, e_122, (by decide : 15 + 2 ≤ _), (by decide : 45 + 80 ≤ _)⟩)
    dsimp only [Pt.U, Pt.locs, Pt.cells, Pt.slots] at Xb_123 Sb_123 gs_123 l_123 y_123 z_123 st_123 hQ_123 CH_123
    subst l_123 y_123 z_123
    obtain ⟨rfl, N_123q, K_123, Ft_123, Fp_123⟩ := hQ_123
    have N_123 := Fr.app N_120 N_123q
    obtain ⟨X_123, Si_123, hZ_123, hown_123⟩ := rebS (s := s) (vm0 := T_122.vm) Si_122 (Nat.le_refl _) Xb_123 Sb_123 (Nat.le_trans ls_122 K_123.1) hZ_122 hown_122
    have c1089 := CHr.safe CH_123 (c1083).lt c1067
    have c1090 := c1068.trans CH_123
    have c1091 := Nat.le_trans ls_122 K_123.1
    have c1092 := c1069.trans K_123 (allS (Or.inr sz_b_121) all0)
    have c1093 := own_stake c1070 K_123 c1088
    have c1094 := c1071.keep K_123
    have c1095 := c1072.keep K_123 (ninS ne_sx_118_b_121 nin0)
    have c1096 := c1073.keep K_123 (ninS ne_sx_118_b_121 nin0)
    have c1097 := c1074.keep K_123 (ninS ne_sb_118_b_121 nin0)
    have c1098 := c1075.keep K_123
    have c1099 := c1076.keep K_123 (ninS ne_sx_119_b_121 nin0)
    have c1100 := c1077.keep K_123 (ninS ne_sx_119_b_121 nin0)
    have c1101 := c1078.keep K_123 (ninS ne_sb_119_b_121 nin0)
    have c1102 := c1079.keep K_123
    have c1103 := c1080.keep K_123 (ninS ne_sx_120_b_121 nin0)
    have c1104 := c1081.keep K_123 (ninS ne_sx_120_b_121 nin0)
    have c1105 := c1082.keep K_123 (ninS ne_sb_120_b_121 nin0)
    have c1106 := c1088.keep K_123
    have Z0__123 : n0 ≤ T_123.heap.size := Nat.le_trans Z0__122 K_123.1
    refine og (fun t k => st_123.trans k) ?_
    refine og (B := T_123.setTop (mkF m 98 #[iv p0, iv p1, iv p2, iv p3, iv p4, iv 3, iv 3, iv x0, iv x1, iv x2, rv sx_118, rv sx_119, rv sx_120, rv b_121, oU, oU, oU, oU, oU, oU, oU] [(.ref b_121)])) (fun t k => ?_) ?_
    · refine XS.astore X_123.here hx rfl (hb hby at_94) rfl rfl (l' := #[iv p0, iv p1, iv p2, iv p3, iv p4, iv 3, iv 3, iv x0, iv x1, iv x2, rv sx_118, rv sx_119, rv sx_120, rv b_121, oU, oU, oU, oU, oU, oU, oU]) rfl ?_
      refine XS.aload X_123.here hx rfl (hb hby at_96) rfl rfl ?_
      exact k
    obtain ⟨cq_124, kq_124, q_124a, q_124b, q_124c⟩ := isOf hZ_123 rfl c1106
    obtain ⟨_, _, ⟨T_124, L_124, k_124, n_124⟩, -, X_124, ⟨Lc_124, hQ_124, l_124, y_124, z_124⟩, st_124⟩ := X_123.virtualBack hx (y := own_m17) (z := own_m17) hown_123 (mvT hZ_123 (ow hw 87 rfl)) (mvT hZ_123 (ow hw 88 rfl)) (notFace_of_selects (args := #[]) (mvT hZ_123 (ow hw 90 rfl))) (mvT hZ_123 (ow hw 90 rfl)) (mvT hZ_123 (ow hw 89 rfl)) (by decide) (backOf (W := 0) (rm16 l Z av0 hw [] b_121 (0 : Int32) sx_118 sb_118 sk_118 w (3 : Int32) [(.int (own_byte (nar .char x0))), (.int (own_byte (nar .char x1))), (.int (own_byte (nar .char x2)))] T_123.heap n0 Z0__123 Fp_123 Ft_123 c1094 c1095 c1096 c1093 hw0 c1097) hZ_123 (ow hw 91 rfl) (ow hw 32 rfl) (by decide) (by decide)) q_124a q_124c (g := (mkF m 98 #[iv p0, iv p1, iv p2, iv p3, iv p4, iv 3, iv 3, iv x0, iv x1, iv x2, rv sx_118, rv sx_119, rv sx_120, rv b_121, oU, oU, oU, oU, oU, oU, oU] [(.ref b_121)])) rfl (by rw [hml]; rfl) (Steps.refl _) (argsL := []) (rest := []) (lenOf pd_3 rfl) rfl (by show 2 * 0 + _ ≤ _; exact Nat.le_of_eq rfl) (hb hby at_98) (fun _ _ => ⟨rfl, rfl, (by decide : 17 + 0 ≤ _), (by decide : 125 + 0 ≤ _)⟩)
    dsimp only [Pt.U, Pt.locs, Pt.cells, Pt.slots] at X_124 l_124 y_124 z_124 st_124 hQ_124
    subst l_124 y_124 z_124
    obtain ⟨hv_124, N_124q, e_124⟩ := hQ_124
    have N_124 := Fr.app N_123 N_124q
    rw [show own_ge (0 : Int32) (3 : Int32) = (0 : Int32) from by decide] at hv_124
    subst hv_124
    refine og (fun t k => st_124.trans k) ?_
    refine og (B := T_124.setTop (mkF m 107 #[iv p0, iv p1, iv p2, iv p3, iv p4, iv 3, iv 3, iv x0, iv x1, iv x2, rv sx_118, rv sx_119, rv sx_120, rv b_121, iv 0, oU, oU, oU, oU, oU, oU] [(.ref sx_119), (.ref b_121)])) (fun t k => ?_) ?_
    · refine XS.istore X_124.here hx rfl (hb hby at_101) rfl (l' := #[iv p0, iv p1, iv p2, iv p3, iv p4, iv 3, iv 3, iv x0, iv x1, iv x2, rv sx_118, rv sx_119, rv sx_120, rv b_121, iv 0, oU, oU, oU, oU, oU, oU]) rfl ?_
      refine XS.aload X_124.here hx rfl (hb hby at_103) rfl rfl ?_
      refine XS.aload X_124.here hx rfl (hb hby at_105) rfl rfl ?_
      exact k
    obtain ⟨cq_125, kq_125, q_125a, q_125b, q_125c⟩ := isOf hZ_123 e_124 c1106
    obtain ⟨_, _, ⟨T_125, L_125, k_125, n_125⟩, -, X_125, ⟨Lc_125, hQ_125, l_125, y_125, z_125⟩, st_125⟩ := X_124.virtualBack hx (y := own_m18) (z := own_m18) hown_123 (mvT hZ_123 (ow hw 95 rfl)) (mvT hZ_123 (ow hw 96 rfl)) (notFace_of_selects (args := #[]) (mvT hZ_123 (ow hw 98 rfl))) (mvT hZ_123 (ow hw 98 rfl)) (mvT hZ_123 (ow hw 97 rfl)) (by decide) (backOf (W := 0) (rmco l Z av0 hw [] b_121 sx_119 sx_118 (0 : Int32) sb_118 sb_119 sk_118 sk_119 w (3 : Int32) (3 : Int32) [(.int (own_byte (nar .char x0))), (.int (own_byte (nar .char x1))), (.int (own_byte (nar .char x2)))] [(.int (own_byte (nar .char x0))), (.int (own_byte (nar .char x1))), (.int (own_byte (nar .char x2)))] T_123.heap n0 Z0__123 c1106 Ft_123 Fp_123 g_b_121 c1094 c1095 c1096 c1098 c1099 c1100 c1093 hw0 c1097 c1101 ne_sx_119_b_121 ne_sb_119_b_121 (by decide) (by decide) (rmmm3 l Z av0 hw [] sb_118 (0 : Int32) sb_119 sk_118 sk_119 (3 : Int32) [(.int (own_byte (nar .char x0))), (.int (own_byte (nar .char x1))), (.int (own_byte (nar .char x2)))] (own_byte (nar .char x0)) (own_byte (nar .char x1)) (own_byte (nar .char x2)) T_123.heap n0 Z0__123 c1097 c1101 (by decide) (by decide) (by decide) rfl rfl rfl)) hZ_123 (ow hw 99 rfl) (ow hw 32 rfl) (by decide) (by decide)) q_125a q_125c (g := (mkF m 107 #[iv p0, iv p1, iv p2, iv p3, iv p4, iv 3, iv 3, iv x0, iv x1, iv x2, rv sx_118, rv sx_119, rv sx_120, rv b_121, iv 0, oU, oU, oU, oU, oU, oU] [(.ref sx_119), (.ref b_121)])) rfl (by rw [hml]; rfl) (Steps.refl _) (argsL := [(.ref sx_119)]) (rest := []) (lenOf pd_15 rfl) rfl (by show 2 * 0 + _ ≤ _; exact Nat.le_of_eq rfl) (hb hby at_107) (fun _ _ => ⟨rfl, e_124, (by decide : 17 + 0 ≤ _), (by decide : 125 + 0 ≤ _)⟩)
    dsimp only [Pt.U, Pt.locs, Pt.cells, Pt.slots] at X_125 l_125 y_125 z_125 st_125 hQ_125
    subst l_125 y_125 z_125
    obtain ⟨rfl, N_125q, K_125, Fp_125, Ft_125⟩ := hQ_125
    have N_125 := Fr.app N_124 N_125q
    have c1107 := Safe.keep K_125 (allS c1089 all0) c1090.1 c1089
    have c1108 := c1090.trans (CHr.keep K_125 (allS c1089 all0) c1090.1)
    have c1109 := Nat.le_trans (Nat.le_refl _) K_125.1
    have c1110 := c1092.trans K_125 (allS (Or.inr sz_b_121) all0)
    have c1111 := own_stake c1093 K_125 c1106
    have c1112 := c1094.keep K_125
    have c1113 := c1095.keep K_125 (ninS ne_sx_118_b_121 nin0)
    have c1114 := c1096.keep K_125 (ninS ne_sx_118_b_121 nin0)
    have c1115 := c1097.keep K_125 (ninS ne_sb_118_b_121 nin0)
    have c1116 := c1098.keep K_125
    have c1117 := c1099.keep K_125 (ninS ne_sx_119_b_121 nin0)
    have c1118 := c1100.keep K_125 (ninS ne_sx_119_b_121 nin0)
    have c1119 := c1101.keep K_125 (ninS ne_sb_119_b_121 nin0)
    have c1120 := c1102.keep K_125
    have c1121 := c1103.keep K_125 (ninS ne_sx_120_b_121 nin0)
    have c1122 := c1104.keep K_125 (ninS ne_sx_120_b_121 nin0)
    have c1123 := c1105.keep K_125 (ninS ne_sb_120_b_121 nin0)
    have c1124 := c1106.keep K_125
    have Z0__125 : n0 ≤ T_125.heap.size := Nat.le_trans Z0__123 K_125.1
    have Fq_125 : Fld Z T_125.heap b_121 "com/example/cutoff/cutoff/store/TextCursor" "position" "I" (.int (3 : Int32)) := Fp_125
    refine og (fun t k => st_125.trans k) ?_
    refine og (B := T_125.setTop (mkF m 114 #[iv p0, iv p1, iv p2, iv p3, iv p4, iv 3, iv 3, iv x0, iv x1, iv x2, rv sx_118, rv sx_119, rv sx_120, rv b_121, iv 0, iv 1, oU, oU, oU, oU, oU] [(.ref b_121)])) (fun t k => ?_) ?_
    · refine XS.istore X_125.here hx rfl (hb hby at_110) rfl (l' := #[iv p0, iv p1, iv p2, iv p3, iv p4, iv 3, iv 3, iv x0, iv x1, iv x2, rv sx_118, rv sx_119, rv sx_120, rv b_121, iv 0, iv 1, oU, oU, oU, oU, oU]) rfl ?_
      refine XS.aload X_125.here hx rfl (hb hby at_112) rfl rfl ?_
      exact k
    obtain ⟨cq_126, kq_126, q_126a, q_126b, q_126c⟩ := isOf hZ_123 rfl c1124
    obtain ⟨_, _, ⟨T_126, L_126, k_126, n_126⟩, -, X_126, ⟨Lc_126, hQ_126, l_126, y_126, z_126⟩, st_126⟩ := X_125.virtualBack hx (y := own_m22) (z := own_m22) hown_123 (mvT hZ_123 (ow hw 114 rfl)) (mvT hZ_123 (ow hw 115 rfl)) (notFace_of_selects (args := #[]) (mvT hZ_123 (ow hw 117 rfl))) (mvT hZ_123 (ow hw 117 rfl)) (mvT hZ_123 (ow hw 116 rfl)) (by decide) (backOf (W := 0) (rm21 l Z av0 hw [] b_121 (3 : Int32) T_125.heap n0 Z0__125 Fq_125) hZ_123 (ow hw 118 rfl) (ow hw 32 rfl) (by decide) (by decide)) q_126a q_126c (g := (mkF m 114 #[iv p0, iv p1, iv p2, iv p3, iv p4, iv 3, iv 3, iv x0, iv x1, iv x2, rv sx_118, rv sx_119, rv sx_120, rv b_121, iv 0, iv 1, oU, oU, oU, oU, oU] [(.ref b_121)])) rfl (by rw [hml]; rfl) (Steps.refl _) (argsL := []) (rest := []) (lenOf pd_4 rfl) rfl (by show 2 * 0 + _ ≤ _; exact Nat.le_of_eq rfl) (hb hby at_114) (fun _ _ => ⟨rfl, rfl, (by decide : 17 + 0 ≤ _), (by decide : 125 + 0 ≤ _)⟩)
    dsimp only [Pt.U, Pt.locs, Pt.cells, Pt.slots] at X_126 l_126 y_126 z_126 st_126 hQ_126
    subst l_126 y_126 z_126
    obtain ⟨rfl, N_126q, e_126⟩ := hQ_126
    have N_126 := Fr.app N_125 N_126q
    refine og (fun t k => st_126.trans k) ?_
    refine og (B := T_126.setTop (mkF m 121 #[iv p0, iv p1, iv p2, iv p3, iv p4, iv 3, iv 3, iv x0, iv x1, iv x2, rv sx_118, rv sx_119, rv sx_120, rv b_121, iv 0, iv 1, iv 3, oU, oU, oU, oU] [(.ref b_121)])) (fun t k => ?_) ?_
    · refine XS.istore X_126.here hx rfl (hb hby at_117) rfl (l' := #[iv p0, iv p1, iv p2, iv p3, iv p4, iv 3, iv 3, iv x0, iv x1, iv x2, rv sx_118, rv sx_119, rv sx_120, rv b_121, iv 0, iv 1, iv 3, oU, oU, oU, oU]) rfl ?_
      refine XS.aload X_126.here hx rfl (hb hby at_119) rfl rfl ?_
      exact k
    obtain ⟨cq_127, kq_127, q_127a, q_127b, q_127c⟩ := isOf hZ_123 e_126 c1124
    obtain ⟨_, _, ⟨T_127, L_127, k_127, n_127⟩, -, X_127, ⟨Lc_127, hQ_127, l_127, y_127, z_127⟩, st_127⟩ := X_126.virtualBack hx (y := own_m17) (z := own_m17) hown_123 (mvT hZ_123 (ow hw 87 rfl)) (mvT hZ_123 (ow hw 88 rfl)) (notFace_of_selects (args := #[]) (mvT hZ_123 (ow hw 90 rfl))) (mvT hZ_123 (ow hw 90 rfl)) (mvT hZ_123 (ow hw 89 rfl)) (by decide) (backOf (W := 0) (rm16 l Z av0 hw [] b_121 (3 : Int32) sx_118 sb_118 sk_118 w (3 : Int32) [(.int (own_byte (nar .char x0))), (.int (own_byte (nar .char x1))), (.int (own_byte (nar .char x2)))] T_125.heap n0 Z0__125 Fq_125 Ft_125 c1112 c1113 c1114 c1111 hw0 c1115) hZ_123 (ow hw 91 rfl) (ow hw 32 rfl) (by decide) (by decide)) q_127a q_127c (g := (mkF m 121 #[iv p0, iv p1, iv p2, iv p3, iv p4, iv 3, iv 3, iv x0, iv x1, iv x2, rv sx_118, rv sx_119, rv sx_120, rv b_121, iv 0, iv 1, iv 3, oU, oU, oU, oU] [(.ref b_121)])) rfl (by rw [hml]; rfl) (Steps.refl _) (argsL := []) (rest := []) (lenOf pd_3 rfl) rfl (by show 2 * 0 + _ ≤ _; exact Nat.le_of_eq rfl) (hb hby at_121) (fun _ _ => ⟨rfl, e_126, (by decide : 17 + 0 ≤ _), (by decide : 125 + 0 ≤ _)⟩)
    dsimp only [Pt.U, Pt.locs, Pt.cells, Pt.slots] at X_127 l_127 y_127 z_127 st_127 hQ_127
    subst l_127 y_127 z_127
    obtain ⟨hv_127, N_127q, e_127⟩ := hQ_127
    have N_127 := Fr.app N_126 N_127q
    rw [show own_ge (3 : Int32) (3 : Int32) = (1 : Int32) from by decide] at hv_127
    subst hv_127
    refine og (fun t k => st_127.trans k) ?_
    refine og (B := T_127.setTop (mkF m 130 #[iv p0, iv p1, iv p2, iv p3, iv p4, iv 3, iv 3, iv x0, iv x1, iv x2, rv sx_118, rv sx_119, rv sx_120, rv b_121, iv 0, iv 1, iv 3, iv 1, oU, oU, oU] [(.ref sx_120), (.ref b_121)])) (fun t k => ?_) ?_
    · refine XS.istore X_127.here hx rfl (hb hby at_124) rfl (l' := #[iv p0, iv p1, iv p2, iv p3, iv p4, iv 3, iv 3, iv x0, iv x1, iv x2, rv sx_118, rv sx_119, rv sx_120, rv b_121, iv 0, iv 1, iv 3, iv 1, oU, oU, oU]) rfl ?_
      refine XS.aload X_127.here hx rfl (hb hby at_126) rfl rfl ?_
      refine XS.aload X_127.here hx rfl (hb hby at_128) rfl rfl ?_
      exact k
    obtain ⟨cq_128, kq_128, q_128a, q_128b, q_128c⟩ := isOf hZ_123 e_127 c1124
    obtain ⟨_, _, ⟨T_128, L_128, k_128, n_128⟩, -, X_128, ⟨Lc_128, hQ_128, l_128, y_128, z_128⟩, st_128⟩ := X_127.virtualBack hx (y := own_m18) (z := own_m18) hown_123 (mvT hZ_123 (ow hw 95 rfl)) (mvT hZ_123 (ow hw 96 rfl)) (notFace_of_selects (args := #[]) (mvT hZ_123 (ow hw 98 rfl))) (mvT hZ_123 (ow hw 98 rfl)) (mvT hZ_123 (ow hw 97 rfl)) (by decide) (backOf (W := 0) (rmco l Z av0 hw [] b_121 sx_120 sx_118 (3 : Int32) sb_118 sb_120 sk_118 sk_120 w (3 : Int32) (0 : Int32) [(.int (own_byte (nar .char x0))), (.int (own_byte (nar .char x1))), (.int (own_byte (nar .char x2)))] [] T_125.heap n0 Z0__125 c1124 Ft_125 Fq_125 g_b_121 c1112 c1113 c1114 c1120 c1121 c1122 c1111 hw0 c1115 c1123 ne_sx_120_b_121 ne_sb_120_b_121 (by decide) (by decide) (rmmm0 l Z av0 hw [] sb_118 (3 : Int32) sb_120 sk_118 sk_120 (3 : Int32) [(.int (own_byte (nar .char x0))), (.int (own_byte (nar .char x1))), (.int (own_byte (nar .char x2)))]  T_125.heap n0 Z0__125 c1115 c1123 )) hZ_123 (ow hw 99 rfl) (ow hw 32 rfl) (by decide) (by decide)) q_128a q_128c (g := (mkF m 130 #[iv p0, iv p1, iv p2, iv p3, iv p4, iv 3, iv 3, iv x0, iv x1, iv x2, rv sx_118, rv sx_119, rv sx_120, rv b_121, iv 0, iv 1, iv 3, iv 1, oU, oU, oU] [(.ref sx_120), (.ref b_121)])) rfl (by rw [hml]; rfl) (Steps.refl _) (argsL := [(.ref sx_120)]) (rest := []) (lenOf pd_15 rfl) rfl (by show 2 * 0 + _ ≤ _; exact Nat.le_of_eq rfl) (hb hby at_130) (fun _ _ => ⟨rfl, e_127, (by decide : 17 + 0 ≤ _), (by decide : 125 + 0 ≤ _)⟩)
    dsimp only [Pt.U, Pt.locs, Pt.cells, Pt.slots] at X_128 l_128 y_128 z_128 st_128 hQ_128
    subst l_128 y_128 z_128
    obtain ⟨rfl, N_128q, K_128, Fp_128, Ft_128⟩ := hQ_128
    have N_128 := Fr.app N_127 N_128q
    have c1125 := Safe.keep K_128 (allS c1107 all0) c1108.1 c1107
    have c1126 := c1108.trans (CHr.keep K_128 (allS c1107 all0) c1108.1)
    have c1127 := Nat.le_trans c1109 K_128.1
    have c1128 := c1110.trans K_128 (allS (Or.inr sz_b_121) all0)
    have c1129 := own_stake c1111 K_128 c1124
    have c1130 := c1112.keep K_128
    have c1131 := c1113.keep K_128 (ninS ne_sx_118_b_121 nin0)
    have c1132 := c1114.keep K_128 (ninS ne_sx_118_b_121 nin0)
    have c1133 := c1115.keep K_128 (ninS ne_sb_118_b_121 nin0)
    have c1134 := c1116.keep K_128
    have c1135 := c1117.keep K_128 (ninS ne_sx_119_b_121 nin0)
    have c1136 := c1118.keep K_128 (ninS ne_sx_119_b_121 nin0)
    have c1137 := c1119.keep K_128 (ninS ne_sb_119_b_121 nin0)
    have c1138 := c1120.keep K_128
    have c1139 := c1121.keep K_128 (ninS ne_sx_120_b_121 nin0)
    have c1140 := c1122.keep K_128 (ninS ne_sx_120_b_121 nin0)
    have c1141 := c1123.keep K_128 (ninS ne_sb_120_b_121 nin0)
    have c1142 := c1124.keep K_128
    have Z0__128 : n0 ≤ T_128.heap.size := Nat.le_trans Z0__125 K_128.1
    have Fq_128 : Fld Z T_128.heap b_121 "com/example/cutoff/cutoff/store/TextCursor" "position" "I" (.int (3 : Int32)) := Fp_128
    refine og (fun t k => st_128.trans k) ?_
    refine og (B := T_128.setTop (mkF m 137 #[iv p0, iv p1, iv p2, iv p3, iv p4, iv 3, iv 3, iv x0, iv x1, iv x2, rv sx_118, rv sx_119, rv sx_120, rv b_121, iv 0, iv 1, iv 3, iv 1, iv 1, oU, oU] [(.ref b_121)])) (fun t k => ?_) ?_
    · refine XS.istore X_128.here hx rfl (hb hby at_133) rfl (l' := #[iv p0, iv p1, iv p2, iv p3, iv p4, iv 3, iv 3, iv x0, iv x1, iv x2, rv sx_118, rv sx_119, rv sx_120, rv b_121, iv 0, iv 1, iv 3, iv 1, iv 1, oU, oU]) rfl ?_
      refine XS.aload X_128.here hx rfl (hb hby at_135) rfl rfl ?_
      exact k
    obtain ⟨cq_129, kq_129, q_129a, q_129b, q_129c⟩ := isOf hZ_123 rfl c1142
    obtain ⟨_, _, ⟨T_129, L_129, k_129, n_129⟩, -, X_129, ⟨Lc_129, hQ_129, l_129, y_129, z_129⟩, st_129⟩ := X_128.virtualBack hx (y := own_m22) (z := own_m22) hown_123 (mvT hZ_123 (ow hw 114 rfl)) (mvT hZ_123 (ow hw 115 rfl)) (notFace_of_selects (args := #[]) (mvT hZ_123 (ow hw 117 rfl))) (mvT hZ_123 (ow hw 117 rfl)) (mvT hZ_123 (ow hw 116 rfl)) (by decide) (backOf (W := 0) (rm21 l Z av0 hw [] b_121 (3 : Int32) T_128.heap n0 Z0__128 Fq_128) hZ_123 (ow hw 118 rfl) (ow hw 32 rfl) (by decide) (by decide)) q_129a q_129c (g := (mkF m 137 #[iv p0, iv p1, iv p2, iv p3, iv p4, iv 3, iv 3, iv x0, iv x1, iv x2, rv sx_118, rv sx_119, rv sx_120, rv b_121, iv 0, iv 1, iv 3, iv 1, iv 1, oU, oU] [(.ref b_121)])) rfl (by rw [hml]; rfl) (Steps.refl _) (argsL := []) (rest := []) (lenOf pd_4 rfl) rfl (by show 2 * 0 + _ ≤ _; exact Nat.le_of_eq rfl) (hb hby at_137) (fun _ _ => ⟨rfl, rfl, (by decide : 17 + 0 ≤ _), (by decide : 125 + 0 ≤ _)⟩)
    dsimp only [Pt.U, Pt.locs, Pt.cells, Pt.slots] at X_129 l_129 y_129 z_129 st_129 hQ_129
    subst l_129 y_129 z_129
    obtain ⟨rfl, N_129q, e_129⟩ := hQ_129
    have N_129 := Fr.app N_128 N_129q
    refine og (fun t k => st_129.trans k) ?_
    refine og (B := T_129.setTop (mkF m 144 #[iv p0, iv p1, iv p2, iv p3, iv p4, iv 3, iv 3, iv x0, iv x1, iv x2, rv sx_118, rv sx_119, rv sx_120, rv b_121, iv 0, iv 1, iv 3, iv 1, iv 1, iv 3, oU] [(.ref b_121)])) (fun t k => ?_) ?_
    · refine XS.istore X_129.here hx rfl (hb hby at_140) rfl (l' := #[iv p0, iv p1, iv p2, iv p3, iv p4, iv 3, iv 3, iv x0, iv x1, iv x2, rv sx_118, rv sx_119, rv sx_120, rv b_121, iv 0, iv 1, iv 3, iv 1, iv 1, iv 3, oU]) rfl ?_
      refine XS.aload X_129.here hx rfl (hb hby at_142) rfl rfl ?_
      exact k
    obtain ⟨cq_130, kq_130, q_130a, q_130b, q_130c⟩ := isOf hZ_123 e_129 c1142
    obtain ⟨_, _, ⟨T_130, L_130, k_130, n_130⟩, -, X_130, ⟨Lc_130, hQ_130, l_130, y_130, z_130⟩, st_130⟩ := X_129.virtualBack hx (y := own_m17) (z := own_m17) hown_123 (mvT hZ_123 (ow hw 87 rfl)) (mvT hZ_123 (ow hw 88 rfl)) (notFace_of_selects (args := #[]) (mvT hZ_123 (ow hw 90 rfl))) (mvT hZ_123 (ow hw 90 rfl)) (mvT hZ_123 (ow hw 89 rfl)) (by decide) (backOf (W := 0) (rm16 l Z av0 hw [] b_121 (3 : Int32) sx_118 sb_118 sk_118 w (3 : Int32) [(.int (own_byte (nar .char x0))), (.int (own_byte (nar .char x1))), (.int (own_byte (nar .char x2)))] T_128.heap n0 Z0__128 Fq_128 Ft_128 c1130 c1131 c1132 c1129 hw0 c1133) hZ_123 (ow hw 91 rfl) (ow hw 32 rfl) (by decide) (by decide)) q_130a q_130c (g := (mkF m 144 #[iv p0, iv p1, iv p2, iv p3, iv p4, iv 3, iv 3, iv x0, iv x1, iv x2, rv sx_118, rv sx_119, rv sx_120, rv b_121, iv 0, iv 1, iv 3, iv 1, iv 1, iv 3, oU] [(.ref b_121)])) rfl (by rw [hml]; rfl) (Steps.refl _) (argsL := []) (rest := []) (lenOf pd_3 rfl) rfl (by show 2 * 0 + _ ≤ _; exact Nat.le_of_eq rfl) (hb hby at_144) (fun _ _ => ⟨rfl, e_129, (by decide : 17 + 0 ≤ _), (by decide : 125 + 0 ≤ _)⟩)
    dsimp only [Pt.U, Pt.locs, Pt.cells, Pt.slots] at X_130 l_130 y_130 z_130 st_130 hQ_130
    subst l_130 y_130 z_130
    obtain ⟨hv_130, N_130q, e_130⟩ := hQ_130
    have N_130 := Fr.app N_129 N_130q
    rw [show own_ge (3 : Int32) (3 : Int32) = (1 : Int32) from by decide] at hv_130
    subst hv_130
    refine og (fun t k => st_130.trans k) ?_
    refine og (B := T_130.setTop (mkF m 153 #[iv p0, iv p1, iv p2, iv p3, iv p4, iv 3, iv 3, iv x0, iv x1, iv x2, rv sx_118, rv sx_119, rv sx_120, rv b_121, iv 0, iv 1, iv 3, iv 1, iv 1, iv 3, iv 1] [(.int 3), (.int 0)])) (fun t k => ?_) ?_
    · refine XS.istore X_130.here hx rfl (hb hby at_147) rfl (l' := #[iv p0, iv p1, iv p2, iv p3, iv p4, iv 3, iv 3, iv x0, iv x1, iv x2, rv sx_118, rv sx_119, rv sx_120, rv b_121, iv 0, iv 1, iv 3, iv 1, iv 1, iv 3, iv 1]) rfl ?_
      refine XS.iload X_130.here hx rfl (hb hby at_149) rfl ?_
      refine XS.iload X_130.here hx rfl (hb hby at_151) rfl ?_
      exact k
    refine og (B := T_130.setTop (mkF m 160 #[iv p0, iv p1, iv p2, iv p3, iv p4, iv 3, iv 3, iv x0, iv x1, iv x2, rv sx_118, rv sx_119, rv sx_120, rv b_121, iv 0, iv 1, iv 3, iv 1, iv 1, iv 3, iv 1] [(.int 0)])) (fun t k => ?_) ?_
    · refine XS.ifYes X_130.here hx rfl (pc0 := 153) (pc' := 160) rfl (hb hby at_153) rfl ((if0 _ _).trans (feq (by decide : ¬ ((3 : Int32) = (0 : Int32)))).2) (by decide) (by decide) ?_
      exact k
    refine og (B := T_130.setTop (mkF m 161 #[iv p0, iv p1, iv p2, iv p3, iv p4, iv 3, iv 3, iv x0, iv x1, iv x2, rv sx_118, rv sx_119, rv sx_120, rv b_121, iv 0, iv 1, iv 3, iv 1, iv 1, iv 3, iv 1] [(.int 0), (.int 0)])) (fun t k => ?_) ?_
    · refine XS.iconst X_130.here hx rfl (hb hby at_160) ?_
      exact k
    refine og (B := T_130.setTop (mkF m 164 #[iv p0, iv p1, iv p2, iv p3, iv p4, iv 3, iv 3, iv x0, iv x1, iv x2, rv sx_118, rv sx_119, rv sx_120, rv b_121, iv 0, iv 1, iv 3, iv 1, iv 1, iv 3, iv 1] [])) (fun t k => ?_) ?_
    · refine XS.icmpNo X_130.here hx rfl (hb hby at_161) rfl (teq (by decide : (0 : Int32) = (0 : Int32))).2 ?_
      exact k
    refine og (B := T_130.setTop (mkF m 166 #[iv p0, iv p1, iv p2, iv p3, iv p4, iv 3, iv 3, iv x0, iv x1, iv x2, rv sx_118, rv sx_119, rv sx_120, rv b_121, iv 0, iv 1, iv 3, iv 1, iv 1, iv 3, iv 1] [(.int 1)])) (fun t k => ?_) ?_
    · refine XS.iload X_130.here hx rfl (hb hby at_164) rfl ?_
      exact k
    refine og (B := T_130.setTop (mkF m 169 #[iv p0, iv p1, iv p2, iv p3, iv p4, iv 3, iv 3, iv x0, iv x1, iv x2, rv sx_118, rv sx_119, rv sx_120, rv b_121, iv 0, iv 1, iv 3, iv 1, iv 1, iv 3, iv 1] [])) (fun t k => ?_) ?_
    · refine XS.ifNo X_130.here hx rfl (hb hby at_166) rfl ((if0 _ _).trans (feq (by decide : ¬ ((1 : Int32) = (0 : Int32)))).1) ?_
      exact k
    refine og (B := T_130.setTop (mkF m 173 #[iv p0, iv p1, iv p2, iv p3, iv p4, iv 3, iv 3, iv x0, iv x1, iv x2, rv sx_118, rv sx_119, rv sx_120, rv b_121, iv 0, iv 1, iv 3, iv 1, iv 1, iv 3, iv 1] [(.int 3), (.int 3)])) (fun t k => ?_) ?_
    · refine XS.iload X_130.here hx rfl (hb hby at_169) rfl ?_
      refine XS.iload X_130.here hx rfl (hb hby at_171) rfl ?_
      exact k
    refine og (B := T_130.setTop (mkF m 176 #[iv p0, iv p1, iv p2, iv p3, iv p4, iv 3, iv 3, iv x0, iv x1, iv x2, rv sx_118, rv sx_119, rv sx_120, rv b_121, iv 0, iv 1, iv 3, iv 1, iv 1, iv 3, iv 1] [])) (fun t k => ?_) ?_
    · refine XS.icmpNo X_130.here hx rfl (hb hby at_173) rfl (teq (by decide : (3 : Int32) = (3 : Int32))).2 ?_
      exact k
    refine og (B := T_130.setTop (mkF m 182 #[iv p0, iv p1, iv p2, iv p3, iv p4, iv 3, iv 3, iv x0, iv x1, iv x2, rv sx_118, rv sx_119, rv sx_120, rv b_121, iv 0, iv 1, iv 3, iv 1, iv 1, iv 3, iv 1] [(.int 3), (.int 3), (.int 1)])) (fun t k => ?_) ?_
    · refine XS.iload X_130.here hx rfl (hb hby at_176) rfl ?_
      refine XS.iload X_130.here hx rfl (hb hby at_178) rfl ?_
      refine XS.iload X_130.here hx rfl (hb hby at_180) rfl ?_
      exact k
    refine og (B := T_130.setTop (mkF m 185 #[iv p0, iv p1, iv p2, iv p3, iv p4, iv 3, iv 3, iv x0, iv x1, iv x2, rv sx_118, rv sx_119, rv sx_120, rv b_121, iv 0, iv 1, iv 3, iv 1, iv 1, iv 3, iv 1] [(.int 1)])) (fun t k => ?_) ?_
    · refine XS.icmpNo X_130.here hx rfl (hb hby at_182) rfl (teq (by decide : (3 : Int32) = (3 : Int32))).2 ?_
      exact k
    refine og (B := T_130.setTop (mkF m 190 #[iv p0, iv p1, iv p2, iv p3, iv p4, iv 3, iv 3, iv x0, iv x1, iv x2, rv sx_118, rv sx_119, rv sx_120, rv b_121, iv 0, iv 1, iv 3, iv 1, iv 1, iv 3, iv 1] [(.int 1), (.int 1)])) (fun t k => ?_) ?_
    · refine XS.iconst X_130.here hx rfl (hb hby at_185) ?_
      refine XS.goto X_130.here hx rfl (pc0 := 186) (pc' := 190) rfl (hb hby at_186) (by decide) (by decide) ?_
      exact k
    refine og (B := T_130.setTop (mkF m 193 #[iv p0, iv p1, iv p2, iv p3, iv p4, iv 3, iv 3, iv x0, iv x1, iv x2, rv sx_118, rv sx_119, rv sx_120, rv b_121, iv 0, iv 1, iv 3, iv 1, iv 1, iv 3, iv 1] [])) (fun t k => ?_) ?_
    · refine XS.icmpNo X_130.here hx rfl (hb hby at_190) rfl (teq (by decide : (1 : Int32) = (1 : Int32))).2 ?_
      exact k
    refine og (B := T_130.setTop (mkF m 195 #[iv p0, iv p1, iv p2, iv p3, iv p4, iv 3, iv 3, iv x0, iv x1, iv x2, rv sx_118, rv sx_119, rv sx_120, rv b_121, iv 0, iv 1, iv 3, iv 1, iv 1, iv 3, iv 1] [(.int 1)])) (fun t k => ?_) ?_
    · refine XS.iload X_130.here hx rfl (hb hby at_193) rfl ?_
      exact k
    refine og (B := T_130.setTop (mkF m 198 #[iv p0, iv p1, iv p2, iv p3, iv p4, iv 3, iv 3, iv x0, iv x1, iv x2, rv sx_118, rv sx_119, rv sx_120, rv b_121, iv 0, iv 1, iv 3, iv 1, iv 1, iv 3, iv 1] [])) (fun t k => ?_) ?_
    · refine XS.ifNo X_130.here hx rfl (hb hby at_195) rfl ((if0 _ _).trans (feq (by decide : ¬ ((1 : Int32) = (0 : Int32)))).1) ?_
      exact k
    refine og (B := T_130.setTop (mkF m 202 #[iv p0, iv p1, iv p2, iv p3, iv p4, iv 3, iv 3, iv x0, iv x1, iv x2, rv sx_118, rv sx_119, rv sx_120, rv b_121, iv 0, iv 1, iv 3, iv 1, iv 1, iv 3, iv 1] [(.int 3), (.int 3)])) (fun t k => ?_) ?_
    · refine XS.iload X_130.here hx rfl (hb hby at_198) rfl ?_
      refine XS.iload X_130.here hx rfl (hb hby at_200) rfl ?_
      exact k
    refine og (B := T_130.setTop (mkF m 205 #[iv p0, iv p1, iv p2, iv p3, iv p4, iv 3, iv 3, iv x0, iv x1, iv x2, rv sx_118, rv sx_119, rv sx_120, rv b_121, iv 0, iv 1, iv 3, iv 1, iv 1, iv 3, iv 1] [])) (fun t k => ?_) ?_
    · refine XS.icmpNo X_130.here hx rfl (hb hby at_202) rfl (teq (by decide : (3 : Int32) = (3 : Int32))).2 ?_
      exact k
    refine og (B := T_130.setTop (mkF m 207 #[iv p0, iv p1, iv p2, iv p3, iv p4, iv 3, iv 3, iv x0, iv x1, iv x2, rv sx_118, rv sx_119, rv sx_120, rv b_121, iv 0, iv 1, iv 3, iv 1, iv 1, iv 3, iv 1] [(.int 1)])) (fun t k => ?_) ?_
    · refine XS.iload X_130.here hx rfl (hb hby at_205) rfl ?_
      exact k
    refine og (B := T_130.setTop (mkF m 210 #[iv p0, iv p1, iv p2, iv p3, iv p4, iv 3, iv 3, iv x0, iv x1, iv x2, rv sx_118, rv sx_119, rv sx_120, rv b_121, iv 0, iv 1, iv 3, iv 1, iv 1, iv 3, iv 1] [])) (fun t k => ?_) ?_
    · refine XS.ifNo X_130.here hx rfl (hb hby at_207) rfl ((if0 _ _).trans (feq (by decide : ¬ ((1 : Int32) = (0 : Int32)))).1) ?_
      exact k
    refine og (B := T_130.setTop (mkF m 215 #[iv p0, iv p1, iv p2, iv p3, iv p4, iv 3, iv 3, iv x0, iv x1, iv x2, rv sx_118, rv sx_119, rv sx_120, rv b_121, iv 0, iv 1, iv 3, iv 1, iv 1, iv 3, iv 1] [(.int 1)])) (fun t k => ?_) ?_
    · refine XS.iconst X_130.here hx rfl (hb hby at_210) ?_
      refine XS.goto X_130.here hx rfl (pc0 := 211) (pc' := 215) rfl (hb hby at_211) (by decide) (by decide) ?_
      exact k
    obtain ⟨fs, hr, hrun, hended, hRW⟩ := X_130.leaveW Si_123 (by rw [e_130]; exact c1127) (v := some (.int 1)) (fun h => by rw [Bd.returns] at h; cases h)
    refine ⟨_, _, ?_, hrun, hended, _, _, rfl, ?_, hRW.1, hRW.2.1, hRW.2.2.1, hRW.2.2.2.mono (by decide) (by decide)⟩
    · show Steps p.tables e below (T_130.setTop (mkF m 215 #[iv p0, iv p1, iv p2, iv p3, iv p4, iv 3, iv 3, iv x0, iv x1, iv x2, rv sx_118, rv sx_119, rv sx_120, rv b_121, iv 0, iv 1, iv 3, iv 1, iv 1, iv 3, iv 1] [(.int 1)])) _
      exact retN X_130 hx (t := .boolean) Bd.returns (by simp) (hb hby at_215) hr
    · show Q0 Z p0 p1 p2 p3 p4 w h0 n0 _ T_130.heap _
      rw [e_130]
      exact ⟨rfl, N_130, trivial⟩
set_option maxRecDepth 65536 in
set_option maxHeartbeats 40000000 in
theorem comes_1 {Post : Tables → Env → Array Value → State → Outcome → State → Prop} (hpost : ∀ tb e args s v u, (limb_1_1.after args s (.returned v) u = true ∧ limb_1_2.after args s (.returned v) u = true ∧ True) → ReturnedEndW s (.returned v) u (Jvm.fieldLocs frame_1_writes args s ++ Jvm.arrayLocs frame_1_arrays args s ++ Jvm.staticLocs frame_1_statics s) 40 4288 → Post tb e args s (.returned v) u) :
    ArmFor flags0 classFile x code maxLocals ret World_1 tables_1 room_1 Calls_1 rest_1 Pre_1 Post := by
  intro l hfl _ _ p e ha hc hk s m args below hf hA hF happ hP
  obtain ⟨hcalls, hrest, hpre⟩ := hP
  obtain ⟨-, -, -, hnamed, -, -, -, hat⟩ := (Spec.applies_iff hf).mp happ
  obtain ⟨hg, hn⟩ := and_e (Cond.before_iff.mp (show (Jvm.Cond.and given_1 narrow_1).before args s = true from hpre))
  obtain ⟨g1, g2⟩ := and_e hg
  obtain ⟨g3, g4⟩ := and_e g2
  obtain ⟨g5, g6⟩ := and_e g4
  obtain ⟨g7, g8⟩ := and_e g6
  obtain ⟨g9, g10⟩ := and_e g8
  obtain ⟨w0, w1, w2, w3, w4, rfl⟩ : ∃ w0 w1 w2 w3 w4 : Value, args = #[w0, w1, w2, w3, w4] := by
    have hs : args.size = 5 := by simpa [Cond.value, given_1] using g1
    obtain ⟨L⟩ := args
    match L, hs with
    | [w0, w1, w2, w3, w4], _ => exact ⟨w0, w1, w2, w3, w4, rfl⟩
  have hw := fun d (hd : d ∈ tables_1) => atoms_spec (ws := Jvm.Cond.code x code maxLocals ret :: tables_1) hat d (List.mem_cons_of_mem _ hd)
  have hfit : Fit s := fun {y c} hc i hi => by
    obtain ⟨ha, rfl⟩ := Array.getElem?_eq_some_iff.mp hc
    have q := List.all_eq_true.mp ((Array.all_eq_true_iff_forall_mem.mp hF) _ (Array.getElem_mem ha)) i (List.mem_range.mpr hi)
    simpa [Array.getElem?_eq_getElem hi] using q
  obtain ⟨hsets, hown0⟩ := atoms_of _ (rest_1_c_eq ▸ (show rest_1_c.before _ s = true from hrest))
  have hr0 := Cond.before_iff.mp hown0
  obtain ⟨i0, ei0⟩ := is_v g3
  obtain rfl : w0 = (.int i0) := Option.some.inj ei0
  obtain ⟨i1, ei1⟩ := is_v g5
  obtain rfl : w1 = (.int i1) := Option.some.inj ei1
  obtain ⟨i2, ei2⟩ := is_v g7
  obtain rfl : w2 = (.int i2) := Option.some.inj ei2
  obtain ⟨i3, ei3⟩ := is_v g9
  obtain rfl : w3 = (.int i3) := Option.some.inj ei3
  obtain ⟨i4, ei4⟩ := is_v g10
  obtain rfl : w4 = (.int i4) := Option.some.inj ei4
  obtain ⟨w, ew⟩ := is_v (Cond.before_iff.mp (hsets _ (List.mem_of_getElem? (i := 1) rfl)))
  have SC := Sta.start ew (Or.inl (hsets _ (List.mem_of_getElem? (i := 0) rfl)))
  have hcw := hsets _ (List.mem_of_getElem? (i := 2) rfl)
  have hw0 : ¬ (w = (0 : Int32)) := fun q => by
    have q1 := not_v (Cond.before_iff.mp hcw)
    rw [eq_i ew (Term.int_eval (0)) (by rw [q])] at q1
    cases q1
  have hEL : EW s #[.int i0, .int i1, .int i2, .int i3, .int i4] own_EL := (EW.cons (ow hw 19 rfl) (by decide) (EW.cons (ow hw 33 rfl) (by decide) (EW.cons (ow hw 84 rfl) (by decide) (EW.cons (ow hw 132 rfl) (by decide) EW.nil))))
  have hheld : ∀ q ∈ own_EL, Jvm.Lit.constHeld s q.1 q.2 := by
    intro q hq
    simp only [own_EL, List.mem_cons, List.not_mem_nil, or_false] at hq
    rcases hq with rfl | rfl | rfl | rfl
    · exact hcalls.1 ("java/lang/String", 7) (by simp [consts_1])
    · exact hcalls.1 ("com/example/cutoff/cutoff/store/TextCursorAtEndPinLaw", 25) (by simp [consts_1])
    · exact hcalls.1 ("com/example/cutoff/cutoff/store/TextCursor", 26) (by simp [consts_1])
    · exact hcalls.1 ("com/example/cutoff/cutoff/store/TextCursor", 28) (by simp [consts_1])
  have HH : CHv s own_EL s.vm s.heap := CHv.start hEL hheld hcw (ow hw 20 rfl) (ow hw 6 rfl)
  obtain ⟨n, o, h1, h2, h3, _, L, rfl, ⟨rfl, N, -⟩, hq⟩ := rm0 l s _ hw tables_1 i0 i1 i2 i3 i4 w s.heap s.heap.size (Nat.le_refl _) SC hw0 hEL HH rfl rfl p e ha hc hk s m _ below hf ((Spec.applies_iff_loose hf).mp happ).1 ⟨rfl, rfl⟩ trivial
  refine ⟨n, _, h1, h2, h3, hpost _ _ _ _ _ _ ⟨Cond.after_iff.mpr rfl, Cond.after_iff.mpr (eq_i res_at (Term.int_eval (1)) rfl), trivial⟩ ⟨hq.1, hq.2.1, hq.2.2.1, (hq.2.2.2.sift fun y hy => Or.inr (N y hy)).mono (by decide) (by decide)⟩⟩
theorem main_1_1 : Claimed_1_1 := comes_1 fun _ _ _ _ _ _ h hF => ⟨h.1, hF⟩
theorem main_1_2 : Claimed_1_2 := comes_1 fun _ _ _ _ _ _ h hF => ⟨h.2.1, hF⟩
end Jvm.Pilot.@@N@@
namespace Jvm.Pilot.@@N@@
open Jvm Jvm.ClassFile Sem Op Lib Jvm.Free Jvm.Stand Jvm.Pilot.@@N@@.Jvm.D
/-! MADE BY PROGRAM (witnessworld.py) out of the Statement's table words and the real class files: 21 classes; the members and pool entries that the words name. The judged class is class 1, her method 3. -/
namespace start1
open Jvm.ClassFile
def u (s : String) : CpInfo := .utf8 (stringToUtf16 s)
/-- a pool by its gaps: so many unusable entries, then the entry; so many at the end -/
def gap : Nat → List CpInfo → List CpInfo
  | 0, r => r
  | n + 1, r => .unusable :: gap n r
def poolList (es : List (Nat × CpInfo)) (last : Nat) : List CpInfo := es.foldr (fun e r => gap e.1 (e.2 :: r)) (gap last [])
def pool (es : List (Nat × CpInfo)) (last : Nat) : Array CpInfo := ⟨poolList es last⟩
def fileOf (pool : Array CpInfo) (this : Nat) (attrs : Array Attribute := #[]) (ms : Array MethodInfo := #[]) (fl : Nat := 33) (sup : Nat := 0) (ifs : Array Nat := #[]) (fds : Array FieldInfo := #[]) : ClassFile where
  minorVersion := 0
  majorVersion := 65
  constantPool := pool
  accessFlags := fl
  thisClass := this
  superClass := sup
  interfaces := ifs
  fields := fds
  methods := ms
  attributes := attrs
def plain (name : String) (sup : Option ClassId) : Class where
  name := name
  kind := .ordinary
  loader := none
  accessFlags := 33
  super := sup
  interfaces := #[]
  cf := none
  fields := #[]
  methods := #[]
  instanceTypes := #[]
  staticTypes := #[]
  resolved := #[]
  callSites := []
  init := .initialized
  statics := none
  mirror := none

def pool0 : Array CpInfo := pool [(5, u "<init>"), (0, u "()V"), (1, .class_ 10), (1, u "java/lang/Object")] 113

def k0c0 : Code := { maxStack := 0, maxLocals := 1, code := object_method_1_code, exceptionTable := #[], attributes := #[] }
def k0m0 : Method := { name := "<init>", desc := "()V", sig := { parameters := [], returnType := none }, accessFlags := 1, code := some k0c0 }
/-- java/lang/Object -/
def k0 : Class := { plain "java/lang/Object" none with
  accessFlags := 33
  interfaces := #[]
  cf := some (fileOf pool0 8 #[] #[{ accessFlags := 1, nameIndex := 5, descriptorIndex := 6, attributes := #[] }] 33 0 #[] #[])
  fields := #[]
  methods := #[k0m0]
  instanceTypes := #[]
  staticTypes := #[]
  resolved := Array.replicate 124 none
  statics := none }

def pool1 : Array CpInfo := pool [(2, .class_ 4), (1, u "java/lang/Object"), (0, u "<init>"), (0, u "()V"), (0, .class_ 8), (0, u "java/lang/String"), (0, .methodref 7 10), (0, .nameAndType 5 11), (0, u "([C)V"), (0, .methodref 13 14), (0, .class_ 15), (0, .nameAndType 16 17), (0, u "com/example/cutoff/cutoff/store/TextCursorAtEndPinLaw"), (0, u "str"), (0, u "(CCCI)Ljava/lang/String;"), (0, .integer 2147483647), (0, .methodref 13 20), (0, .nameAndType 21 22), (0, u "suffix"), (0, u "(CCCII)Ljava/lang/String;"), (0, .class_ 24), (0, u "com/example/cutoff/cutoff/store/TextCursor"), (0, .string 26), (0, u "s"), (0, .methodref 23 28), (0, .nameAndType 5 29), (0, u "(Ljava/lang/String;Ljava/lang/String;I)V"), (0, .methodref 23 31), (0, .nameAndType 32 33), (0, u "atEnd"), (0, u "()Z"), (0, .methodref 23 35), (0, .nameAndType 36 37), (0, u "consume"), (0, u "(Ljava/lang/String;)Z"), (0, .methodref 23 39), (0, .nameAndType 40 41), (0, u "position"), (0, u "()I"), (3, u "law"), (0, u "(IIIII)Z")] 2

def k1m0 : Method := { name := "<init>", desc := "()V", sig := { parameters := [], returnType := none }, accessFlags := 1, code := none }
def k1c1 : Code := { maxStack := 6, maxLocals := 4, code := method_2_code, exceptionTable := #[], attributes := #[] }
def k1m1 : Method := { name := "str", desc := "(CCCI)Ljava/lang/String;", sig := { parameters := [.char, .char, .char, .int], returnType := some (.object "java/lang/String") }, accessFlags := 10, code := some k1c1 }
def k1c2 : Code := { maxStack := 5, maxLocals := 5, code := method_3_code, exceptionTable := #[], attributes := #[] }
def k1m2 : Method := { name := "suffix", desc := "(CCCII)Ljava/lang/String;", sig := { parameters := [.char, .char, .char, .int, .int], returnType := some (.object "java/lang/String") }, accessFlags := 10, code := some k1c2 }
def k1c3 : Code := { maxStack := 5, maxLocals := 21, code := code, exceptionTable := #[], attributes := #[] }
def k1m3 : Method := { name := "law", desc := "(IIIII)Z", sig := { parameters := [.int, .int, .int, .int, .int], returnType := some .boolean }, accessFlags := 9, code := some k1c3 }
/-- com/example/cutoff/cutoff/store/TextCursorAtEndPinLaw -/
def k1 : Class := { plain "com/example/cutoff/cutoff/store/TextCursorAtEndPinLaw" (some 0) with
  accessFlags := 49
  interfaces := #[]
  cf := some (fileOf pool1 13 #[] #[{ accessFlags := 1, nameIndex := 5, descriptorIndex := 6, attributes := #[] }, { accessFlags := 10, nameIndex := 16, descriptorIndex := 17, attributes := #[] }, { accessFlags := 10, nameIndex := 21, descriptorIndex := 22, attributes := #[] }, { accessFlags := 9, nameIndex := 45, descriptorIndex := 46, attributes := #[] }] 49 2 #[] #[])
  fields := #[]
  methods := #[k1m0, k1m1, k1m2, k1m3]
  instanceTypes := #[]
  staticTypes := #[]
  resolved := Array.replicate 49 none
  statics := none }

def pool2 : Array CpInfo := pool [(1, .class_ 2), (0, u "java/io/Serializable"), (0, .class_ 4), (0, u "java/lang/Object")] 2

/-- java/io/Serializable -/
def k2 : Class := { plain "java/io/Serializable" (some 0) with
  accessFlags := 1537
  interfaces := #[]
  cf := some (fileOf pool2 1 #[] #[] 1537 3 #[] #[])
  fields := #[]
  methods := #[]
  instanceTypes := #[]
  staticTypes := #[]
  resolved := Array.replicate 7 none
  statics := none }

def pool3 : Array CpInfo := pool [(1, .class_ 2), (0, u "java/lang/Comparable"), (0, .class_ 4), (0, u "java/lang/Object")] 7

/-- java/lang/Comparable -/
def k3 : Class := { plain "java/lang/Comparable" (some 0) with
  accessFlags := 1537
  interfaces := #[]
  cf := some (fileOf pool3 1 #[] #[] 1537 3 #[] #[])
  fields := #[]
  methods := #[]
  instanceTypes := #[]
  staticTypes := #[]
  resolved := Array.replicate 12 none
  statics := none }

def pool4 : Array CpInfo := pool [(2, .class_ 4), (1, u "java/lang/CharSequence"), (42, .class_ 48), (0, u "java/lang/CharSequence$1CodePointIterator"), (10, .class_ 60), (0, u "java/lang/CharSequence$1CharIterator"), (5, .class_ 67), (0, u "java/lang/Object")] 63

/-- java/lang/CharSequence -/
def k4 : Class := { plain "java/lang/CharSequence" (some 0) with
  accessFlags := 1537
  interfaces := #[]
  cf := some (fileOf pool4 2 #[.nestMembers #[47, 59]] #[] 1537 66 #[] #[])
  fields := #[]
  methods := #[]
  instanceTypes := #[]
  staticTypes := #[]
  resolved := Array.replicate 131 none
  statics := none }

def pool5 : Array CpInfo := pool [(1, .class_ 2), (0, u "java/lang/constant/Constable"), (0, .class_ 4), (0, u "java/lang/Object")] 6

/-- java/lang/constant/Constable -/
def k5 : Class := { plain "java/lang/constant/Constable" (some 0) with
  accessFlags := 1537
  interfaces := #[]
  cf := some (fileOf pool5 1 #[] #[] 1537 3 #[] #[])
  fields := #[]
  methods := #[]
  instanceTypes := #[]
  staticTypes := #[]
  resolved := Array.replicate 11 none
  statics := none }

def pool6 : Array CpInfo := pool [(1, .class_ 2), (0, u "java/lang/constant/ConstantDesc"), (0, .class_ 4), (0, u "java/lang/Object")] 32

/-- java/lang/constant/ConstantDesc -/
def k6 : Class := { plain "java/lang/constant/ConstantDesc" (some 0) with
  accessFlags := 1537
  interfaces := #[]
  cf := some (fileOf pool6 1 #[] #[] 1537 3 #[] #[])
  fields := #[]
  methods := #[]
  instanceTypes := #[]
  staticTypes := #[]
  resolved := Array.replicate 37 none
  statics := none }

def pool7 : Array CpInfo := pool [(1, .methodref 2 3), (0, .class_ 4), (0, .nameAndType 5 6), (0, u "java/lang/Object"), (0, u "<init>"), (0, u "()V"), (0, .string 8), (0, u ""), (0, .fieldref 10 11), (0, .class_ 12), (0, .nameAndType 13 14), (0, u "java/lang/String"), (0, u "value"), (0, u "[B"), (0, .fieldref 10 16), (0, .nameAndType 17 18), (0, u "coder"), (0, u "B"), (2, u "hash"), (0, u "I"), (2, u "hashIsZero"), (0, u "Z"), (0, .methodref 10 28), (0, .nameAndType 5 29), (0, u "([CIILjava/lang/Void;)V"), (8, .fieldref 10 39), (0, .nameAndType 40 26), (0, u "COMPACT_STRINGS"), (1, .class_ 44), (1, u "java/lang/StringUTF16"), (0, u "compress"), (1, .methodref 42 48), (0, .nameAndType 49 50), (0, u "coderFromArrayLen"), (0, u "([BI)B"), (56, .class_ 109), (1, u "java/lang/StringLatin1"), (32, u "()Z"), (34, .methodref 42 178), (0, .nameAndType 45 179), (0, u "([CII)[B"), (154, u "()I"), (0, .methodref 10 336), (0, .nameAndType 17 337), (0, u "()B"), (38, u "([BI[BII)I"), (115, .methodref 10 493), (0, .nameAndType 494 142), (0, u "isLatin1"), (10, .methodref 10 506), (0, .nameAndType 507 334), (0, u "length"), (51, .class_ 561), (1, u "jdk/internal/util/ArraysSupport"), (0, u "mismatch"), (12, .class_ 576), (0, u "java/lang/CharSequence"), (22, u "CASE_INSENSITIVE_ORDER"), (0, u "Ljava/util/Comparator;"), (6, .methodref 559 608), (0, .nameAndType 562 376), (17, u "startsWith"), (0, u "(Ljava/lang/String;I)Z"), (5, .methodref 10 634), (0, .nameAndType 635 636), (0, u "indexOf"), (0, u "(II)I"), (0, .methodref 107 638), (0, .nameAndType 635 639), (0, u "([BIII)I"), (125, u "(I)I"), (244, u "([C)V"), (90, u "serialPersistentFields"), (0, u "[Ljava/io/ObjectStreamField;"), (0, .class_ 1104), (0, u "java/lang/String$CaseInsensitiveComparator"), (1, .class_ 1107), (0, u "java/io/Serializable"), (0, .class_ 1109), (0, u "java/lang/Comparable"), (0, .class_ 1111), (0, u "java/lang/constant/Constable"), (0, .class_ 1113), (0, u "java/lang/constant/ConstantDesc"), (2, u "serialVersionUID"), (0, u "J"), (3, u "REPL"), (0, u "C"), (2, u "LATIN1"), (1, u "UTF16")] 323

def k7m0 : Method := { name := "<init>", desc := "()V", sig := { parameters := [], returnType := none }, accessFlags := 1, code := none }
def k7c1 : Code := { maxStack := 5, maxLocals := 2, code := jdk_42_method_3_code, exceptionTable := #[], attributes := #[] }
def k7m1 : Method := { name := "<init>", desc := "([C)V", sig := { parameters := [(.array .char)], returnType := none }, accessFlags := 1, code := some k7c1 }
def k7c2 : Code := { maxStack := 2, maxLocals := 1, code := jdk_42_method_54_code, exceptionTable := #[], attributes := #[] }
def k7m2 : Method := { name := "length", desc := "()I", sig := { parameters := [], returnType := some .int }, accessFlags := 1, code := some k7c2 }
def k7c3 : Code := { maxStack := 5, maxLocals := 8, code := jdk_42_method_75_code, exceptionTable := #[], attributes := #[] }
def k7m3 : Method := { name := "startsWith", desc := "(Ljava/lang/String;I)Z", sig := { parameters := [(.object "java/lang/String"), .int], returnType := some .boolean }, accessFlags := 1, code := some k7c3 }
def k7c4 : Code := { maxStack := 3, maxLocals := 2, code := jdk_42_method_79_code, exceptionTable := #[], attributes := #[] }
def k7m4 : Method := { name := "indexOf", desc := "(I)I", sig := { parameters := [.int], returnType := some .int }, accessFlags := 1, code := some k7c4 }
def k7c5 : Code := { maxStack := 4, maxLocals := 3, code := jdk_42_method_80_code, exceptionTable := #[], attributes := #[] }
def k7m5 : Method := { name := "indexOf", desc := "(II)I", sig := { parameters := [.int, .int], returnType := some .int }, accessFlags := 1, code := some k7c5 }
def k7c6 : Code := { maxStack := 4, maxLocals := 6, code := jdk_42_method_149_code, exceptionTable := #[], attributes := #[] }
def k7m6 : Method := { name := "<init>", desc := "([CIILjava/lang/Void;)V", sig := { parameters := [(.array .char), .int, .int, (.object "java/lang/Void")], returnType := none }, accessFlags := 2, code := some k7c6 }
def k7c7 : Code := { maxStack := 1, maxLocals := 1, code := jdk_42_method_152_code, exceptionTable := #[], attributes := #[] }
def k7m7 : Method := { name := "coder", desc := "()B", sig := { parameters := [], returnType := some .byte }, accessFlags := 0, code := some k7c7 }
def k7c8 : Code := { maxStack := 1, maxLocals := 1, code := jdk_42_method_154_code, exceptionTable := #[], attributes := #[] }
def k7m8 : Method := { name := "isLatin1", desc := "()Z", sig := { parameters := [], returnType := some .boolean }, accessFlags := 0, code := some k7c8 }
/-- java/lang/String -/
def k7 : Class := { plain "java/lang/String" (some 0) with
  accessFlags := 49
  interfaces := #[2, 3, 4, 5, 6]
  cf := some (fileOf pool7 10 #[.nestMembers #[1103]] #[{ accessFlags := 1, nameIndex := 5, descriptorIndex := 6, attributes := #[] }, { accessFlags := 1, nameIndex := 5, descriptorIndex := 1010, attributes := #[] }, { accessFlags := 1, nameIndex := 507, descriptorIndex := 334, attributes := #[] }, { accessFlags := 1, nameIndex := 626, descriptorIndex := 627, attributes := #[] }, { accessFlags := 1, nameIndex := 635, descriptorIndex := 765, attributes := #[] }, { accessFlags := 1, nameIndex := 635, descriptorIndex := 636, attributes := #[] }, { accessFlags := 2, nameIndex := 5, descriptorIndex := 29, attributes := #[] }, { accessFlags := 0, nameIndex := 17, descriptorIndex := 337, attributes := #[] }, { accessFlags := 0, nameIndex := 494, descriptorIndex := 142, attributes := #[] }] 49 2 #[1106, 1108, 575, 1110, 1112] #[{ accessFlags := 18, nameIndex := 13, descriptorIndex := 14, attributes := #[] }, { accessFlags := 18, nameIndex := 17, descriptorIndex := 18, attributes := #[] }, { accessFlags := 2, nameIndex := 21, descriptorIndex := 22, attributes := #[] }, { accessFlags := 2, nameIndex := 25, descriptorIndex := 26, attributes := #[] }, { accessFlags := 26, nameIndex := 1116, descriptorIndex := 1117, attributes := #[] }, { accessFlags := 24, nameIndex := 40, descriptorIndex := 26, attributes := #[] }, { accessFlags := 26, nameIndex := 1101, descriptorIndex := 1102, attributes := #[] }, { accessFlags := 26, nameIndex := 1121, descriptorIndex := 1122, attributes := #[] }, { accessFlags := 25, nameIndex := 599, descriptorIndex := 600, attributes := #[] }, { accessFlags := 24, nameIndex := 1125, descriptorIndex := 18, attributes := #[] }, { accessFlags := 24, nameIndex := 1127, descriptorIndex := 18, attributes := #[] }])
  fields := #[{ name := "value", type := (.array .byte), accessFlags := 18, slot := 0, constantValue := 0 }, { name := "coder", type := .byte, accessFlags := 18, slot := 1, constantValue := 0 }, { name := "hash", type := .int, accessFlags := 2, slot := 2, constantValue := 0 }, { name := "hashIsZero", type := .boolean, accessFlags := 2, slot := 3, constantValue := 0 }, { name := "serialVersionUID", type := .long, accessFlags := 26, slot := 0, constantValue := 0 }, { name := "COMPACT_STRINGS", type := .boolean, accessFlags := 24, slot := 1, constantValue := 0 }, { name := "serialPersistentFields", type := (.array (.object "java/io/ObjectStreamField")), accessFlags := 26, slot := 2, constantValue := 0 }, { name := "REPL", type := .char, accessFlags := 26, slot := 3, constantValue := 0 }, { name := "CASE_INSENSITIVE_ORDER", type := (.object "java/util/Comparator"), accessFlags := 25, slot := 4, constantValue := 0 }, { name := "LATIN1", type := .byte, accessFlags := 24, slot := 5, constantValue := 0 }, { name := "UTF16", type := .byte, accessFlags := 24, slot := 6, constantValue := 0 }]
  methods := #[k7m0, k7m1, k7m2, k7m3, k7m4, k7m5, k7m6, k7m7, k7m8]
  instanceTypes := #[(.array .byte), .byte, .int, .boolean]
  staticTypes := #[.long, .boolean, (.array (.object "java/io/ObjectStreamField")), .char, (.object "java/util/Comparator"), .byte, .byte]
  resolved := Array.replicate 1451 none
  statics := some 0 }

def pool8 : Array CpInfo := pool [(1, .methodref 2 3), (0, .class_ 4), (0, .nameAndType 5 6), (0, u "java/lang/Object"), (0, u "<init>"), (0, u "()V"), (0, .fieldref 8 9), (0, .class_ 10), (0, .nameAndType 11 12), (0, u "com/example/cutoff/cutoff/store/TextCursor"), (0, u "source"), (0, u "Ljava/lang/String;"), (0, .fieldref 8 14), (0, .nameAndType 15 12), (0, u "text"), (0, .fieldref 8 17), (0, .nameAndType 18 19), (0, u "firstLine"), (0, u "I"), (0, .methodref 21 22), (0, .class_ 23), (0, .nameAndType 24 25), (0, u "java/lang/String"), (0, u "indexOf"), (0, u "(I)I"), (0, .string 27), (0, u "the end of the line"), (0, .string 29), (0, u "the end of the text"), (0, .fieldref 8 31), (0, .nameAndType 32 12), (0, u "end"), (0, .fieldref 8 34), (0, .nameAndType 35 19), (0, u "position"), (0, .methodref 21 37), (0, .nameAndType 38 39), (0, u "length"), (0, u "()I"), (0, .methodref 21 41), (0, .nameAndType 42 43), (0, u "startsWith"), (0, u "(Ljava/lang/String;I)Z"), (0, .methodref 8 45), (0, .nameAndType 46 47), (0, u "lookingAt"), (0, u "(Ljava/lang/String;)Z"), (18, u "()Z"), (6, u "consume"), (24, u "atEnd"), (55, u "Ljava/util/regex/Pattern;"), (15, u "WORD"), (60, u "HEX_DIGITS"), (39, u "ESCAPE_LETTERS"), (1, u "ESCAPED_CHARS"), (0, u "(Ljava/lang/String;Ljava/lang/String;I)V")] 61

def k8c0 : Code := { maxStack := 3, maxLocals := 4, code := prog_74_method_1_code, exceptionTable := #[], attributes := #[] }
def k8m0 : Method := { name := "<init>", desc := "(Ljava/lang/String;Ljava/lang/String;I)V", sig := { parameters := [(.object "java/lang/String"), (.object "java/lang/String"), .int], returnType := none }, accessFlags := 1, code := some k8c0 }
def k8c1 : Code := { maxStack := 1, maxLocals := 1, code := prog_74_method_2_code, exceptionTable := #[], attributes := #[] }
def k8m1 : Method := { name := "position", desc := "()I", sig := { parameters := [], returnType := some .int }, accessFlags := 1, code := some k8c1 }
def k8c2 : Code := { maxStack := 2, maxLocals := 1, code := prog_74_method_3_code, exceptionTable := #[], attributes := #[] }
def k8m2 : Method := { name := "atEnd", desc := "()Z", sig := { parameters := [], returnType := some .boolean }, accessFlags := 1, code := some k8c2 }
def k8c3 : Code := { maxStack := 3, maxLocals := 2, code := prog_74_method_4_code, exceptionTable := #[], attributes := #[] }
def k8m3 : Method := { name := "lookingAt", desc := "(Ljava/lang/String;)Z", sig := { parameters := [(.object "java/lang/String")], returnType := some .boolean }, accessFlags := 1, code := some k8c3 }
def k8c4 : Code := { maxStack := 3, maxLocals := 3, code := prog_74_method_5_code, exceptionTable := #[], attributes := #[] }
def k8m4 : Method := { name := "consume", desc := "(Ljava/lang/String;)Z", sig := { parameters := [(.object "java/lang/String")], returnType := some .boolean }, accessFlags := 1, code := some k8c4 }
/-- com/example/cutoff/cutoff/store/TextCursor -/
def k8 : Class := { plain "com/example/cutoff/cutoff/store/TextCursor" (some 0) with
  accessFlags := 49
  interfaces := #[]
  cf := some (fileOf pool8 8 #[] #[{ accessFlags := 1, nameIndex := 5, descriptorIndex := 274, attributes := #[] }, { accessFlags := 1, nameIndex := 35, descriptorIndex := 39, attributes := #[] }, { accessFlags := 1, nameIndex := 98, descriptorIndex := 66, attributes := #[] }, { accessFlags := 1, nameIndex := 46, descriptorIndex := 47, attributes := #[] }, { accessFlags := 1, nameIndex := 73, descriptorIndex := 47, attributes := #[] }] 49 2 #[] #[{ accessFlags := 26, nameIndex := 231, descriptorIndex := 154, attributes := #[] }, { accessFlags := 26, nameIndex := 170, descriptorIndex := 154, attributes := #[] }, { accessFlags := 26, nameIndex := 271, descriptorIndex := 12, attributes := #[] }, { accessFlags := 26, nameIndex := 273, descriptorIndex := 12, attributes := #[] }, { accessFlags := 18, nameIndex := 11, descriptorIndex := 12, attributes := #[] }, { accessFlags := 18, nameIndex := 15, descriptorIndex := 12, attributes := #[] }, { accessFlags := 18, nameIndex := 18, descriptorIndex := 19, attributes := #[] }, { accessFlags := 18, nameIndex := 32, descriptorIndex := 12, attributes := #[] }, { accessFlags := 2, nameIndex := 35, descriptorIndex := 19, attributes := #[] }])
  fields := #[{ name := "HEX_DIGITS", type := (.object "java/util/regex/Pattern"), accessFlags := 26, slot := 0, constantValue := 0 }, { name := "WORD", type := (.object "java/util/regex/Pattern"), accessFlags := 26, slot := 1, constantValue := 0 }, { name := "ESCAPE_LETTERS", type := (.object "java/lang/String"), accessFlags := 26, slot := 2, constantValue := 0 }, { name := "ESCAPED_CHARS", type := (.object "java/lang/String"), accessFlags := 26, slot := 3, constantValue := 0 }, { name := "source", type := (.object "java/lang/String"), accessFlags := 18, slot := 0, constantValue := 0 }, { name := "text", type := (.object "java/lang/String"), accessFlags := 18, slot := 1, constantValue := 0 }, { name := "firstLine", type := .int, accessFlags := 18, slot := 2, constantValue := 0 }, { name := "end", type := (.object "java/lang/String"), accessFlags := 18, slot := 3, constantValue := 0 }, { name := "position", type := .int, accessFlags := 2, slot := 4, constantValue := 0 }]
  methods := #[k8m0, k8m1, k8m2, k8m3, k8m4]
  instanceTypes := #[(.object "java/lang/String"), (.object "java/lang/String"), .int, (.object "java/lang/String"), .int]
  staticTypes := #[(.object "java/util/regex/Pattern"), (.object "java/util/regex/Pattern"), (.object "java/lang/String"), (.object "java/lang/String")]
  resolved := Array.replicate 336 none
  statics := none }

def pool9 : Array CpInfo := pool [(4, .class_ 6), (1, u "java/lang/Object"), (0, u "<init>"), (0, u "()V"), (5, .class_ 16), (1, u "java/lang/StringLatin1"), (21, .methodref 39 40), (0, .class_ 41), (0, .nameAndType 42 43), (0, u "java/lang/Math"), (0, u "min"), (0, u "(II)I"), (44, .methodref 14 89), (0, .nameAndType 90 91), (0, u "canEncode"), (0, u "(I)Z"), (0, .methodref 39 93), (0, .nameAndType 94 43), (0, u "max"), (0, .methodref 14 96), (0, .nameAndType 97 98), (0, u "indexOfChar"), (0, u "([BIII)I"), (2, u "indexOf"), (19, u "$assertionsDisabled"), (0, u "Z"), (98, .class_ 223), (1, u "java/lang/StringLatin1$LinesSpliterator"), (166, .class_ 391), (0, u "java/lang/StringLatin1$CharsSpliterator")] 3

def k9m0 : Method := { name := "<init>", desc := "()V", sig := { parameters := [], returnType := none }, accessFlags := 0, code := none }
def k9c1 : Code := { maxStack := 2, maxLocals := 1, code := jdk_43_method_4_code, exceptionTable := #[], attributes := #[] }
def k9m1 : Method := { name := "canEncode", desc := "(I)Z", sig := { parameters := [.int], returnType := some .boolean }, accessFlags := 9, code := some k9c1 }
def k9c2 : Code := { maxStack := 4, maxLocals := 4, code := jdk_43_method_22_code, exceptionTable := #[], attributes := #[] }
def k9m2 : Method := { name := "indexOf", desc := "([BIII)I", sig := { parameters := [(.array .byte), .int, .int, .int], returnType := some .int }, accessFlags := 9, code := some k9c2 }
def k9c3 : Code := { maxStack := 2, maxLocals := 6, code := jdk_43_method_23_code, exceptionTable := #[], attributes := #[] }
def k9m3 : Method := { name := "indexOfChar", desc := "([BIII)I", sig := { parameters := [(.array .byte), .int, .int, .int], returnType := some .int }, accessFlags := 10, code := some k9c3 }
/-- java/lang/StringLatin1 -/
def k9 : Class := { plain "java/lang/StringLatin1" (some 0) with
  accessFlags := 48
  interfaces := #[]
  cf := some (fileOf pool9 14 #[.nestMembers #[390, 221]] #[{ accessFlags := 0, nameIndex := 7, descriptorIndex := 8, attributes := #[] }, { accessFlags := 9, nameIndex := 90, descriptorIndex := 91, attributes := #[] }, { accessFlags := 9, nameIndex := 101, descriptorIndex := 98, attributes := #[] }, { accessFlags := 10, nameIndex := 97, descriptorIndex := 98, attributes := #[] }] 48 4 #[] #[{ accessFlags := 4120, nameIndex := 121, descriptorIndex := 122, attributes := #[] }])
  fields := #[{ name := "$assertionsDisabled", type := .boolean, accessFlags := 4120, slot := 0, constantValue := 0 }]
  methods := #[k9m0, k9m1, k9m2, k9m3]
  instanceTypes := #[]
  staticTypes := #[.boolean]
  resolved := Array.replicate 395 none
  statics := none }

def pool10 : Array CpInfo := pool [(1, .class_ 2), (0, u "java/lang/Math"), (1, .class_ 6), (1, u "java/lang/Object"), (0, u "<init>"), (0, u "()V"), (89, .class_ 100), (1, u "java/lang/Math$RandomNumberGeneratorHolder"), (71, u "negativeZeroFloatBits"), (0, u "J"), (2, u "negativeZeroDoubleBits"), (21, u "max"), (2, u "min"), (43, u "$assertionsDisabled"), (0, u "Z"), (88, u "(II)I"), (2, u "twoToTheDoubleScaleDown"), (0, u "D"), (4, u "twoToTheDoubleScaleUp"), (9, u "E"), (3, u "PI"), (2, u "TAU"), (2, u "DEGREES_TO_RADIANS"), (0, u "RADIANS_TO_DEGREES")] 94

def k10m0 : Method := { name := "<init>", desc := "()V", sig := { parameters := [], returnType := none }, accessFlags := 2, code := none }
def k10c1 : Code := { maxStack := 2, maxLocals := 2, code := jdk_29_method_65_code, exceptionTable := #[], attributes := #[] }
def k10m1 : Method := { name := "max", desc := "(II)I", sig := { parameters := [.int, .int], returnType := some .int }, accessFlags := 9, code := some k10c1 }
def k10c2 : Code := { maxStack := 2, maxLocals := 2, code := jdk_29_method_69_code, exceptionTable := #[], attributes := #[] }
def k10m2 : Method := { name := "min", desc := "(II)I", sig := { parameters := [.int, .int], returnType := some .int }, accessFlags := 9, code := some k10c2 }
/-- java/lang/Math -/
def k10 : Class := { plain "java/lang/Math" (some 0) with
  accessFlags := 49
  interfaces := #[]
  cf := some (fileOf pool10 1 #[.nestMembers #[98]] #[{ accessFlags := 2, nameIndex := 7, descriptorIndex := 8, attributes := #[] }, { accessFlags := 9, nameIndex := 198, descriptorIndex := 335, attributes := #[] }, { accessFlags := 9, nameIndex := 201, descriptorIndex := 335, attributes := #[] }] 49 4 #[] #[{ accessFlags := 25, nameIndex := 354, descriptorIndex := 339, attributes := #[] }, { accessFlags := 25, nameIndex := 358, descriptorIndex := 339, attributes := #[] }, { accessFlags := 25, nameIndex := 361, descriptorIndex := 339, attributes := #[] }, { accessFlags := 26, nameIndex := 364, descriptorIndex := 339, attributes := #[] }, { accessFlags := 26, nameIndex := 365, descriptorIndex := 339, attributes := #[] }, { accessFlags := 26, nameIndex := 172, descriptorIndex := 173, attributes := #[] }, { accessFlags := 26, nameIndex := 176, descriptorIndex := 173, attributes := #[] }, { accessFlags := 8, nameIndex := 344, descriptorIndex := 339, attributes := #[] }, { accessFlags := 8, nameIndex := 338, descriptorIndex := 339, attributes := #[] }, { accessFlags := 4120, nameIndex := 245, descriptorIndex := 246, attributes := #[] }])
  fields := #[{ name := "E", type := .double, accessFlags := 25, slot := 0, constantValue := 0 }, { name := "PI", type := .double, accessFlags := 25, slot := 1, constantValue := 0 }, { name := "TAU", type := .double, accessFlags := 25, slot := 2, constantValue := 0 }, { name := "DEGREES_TO_RADIANS", type := .double, accessFlags := 26, slot := 3, constantValue := 0 }, { name := "RADIANS_TO_DEGREES", type := .double, accessFlags := 26, slot := 4, constantValue := 0 }, { name := "negativeZeroFloatBits", type := .long, accessFlags := 26, slot := 5, constantValue := 0 }, { name := "negativeZeroDoubleBits", type := .long, accessFlags := 26, slot := 6, constantValue := 0 }, { name := "twoToTheDoubleScaleUp", type := .double, accessFlags := 8, slot := 7, constantValue := 0 }, { name := "twoToTheDoubleScaleDown", type := .double, accessFlags := 8, slot := 8, constantValue := 0 }, { name := "$assertionsDisabled", type := .boolean, accessFlags := 4120, slot := 9, constantValue := 0 }]
  methods := #[k10m0, k10m1, k10m2]
  instanceTypes := #[]
  staticTypes := #[.double, .double, .double, .double, .double, .long, .long, .double, .double, .boolean]
  resolved := Array.replicate 460 none
  statics := none }

def pool11 : Array CpInfo := pool [(9, u "<init>"), (6, .class_ 18), (1, u "java/lang/Object"), (0, u "()V"), (1, .class_ 23), (1, u "jdk/internal/util/ArraysSupport"), (0, u "LOG2_ARRAY_LONG_INDEX_SCALE"), (0, u "I"), (2, u "U"), (0, u "Ljdk/internal/misc/Unsafe;"), (8, u "BIG_ENDIAN"), (0, u "Z"), (8, u "LOG2_BYTE_BIT_SIZE"), (4, u "LOG2_ARRAY_INT_INDEX_SCALE"), (54, u "JLA"), (0, u "Ljdk/internal/access/JavaLangAccess;"), (11, u "LOG2_ARRAY_BOOLEAN_INDEX_SCALE"), (9, u "LOG2_ARRAY_BYTE_INDEX_SCALE"), (5, u "LOG2_ARRAY_CHAR_INDEX_SCALE"), (5, u "LOG2_ARRAY_SHORT_INDEX_SCALE"), (5, u "mismatch"), (12, u "LOG2_ARRAY_FLOAT_INDEX_SCALE"), (24, u "LOG2_ARRAY_DOUBLE_INDEX_SCALE"), (89, u "T_BOOLEAN"), (2, u "T_CHAR"), (1, u "T_FLOAT"), (1, u "T_DOUBLE"), (1, u "T_BYTE"), (1, u "T_SHORT"), (1, u "T_INT"), (1, u "T_LONG"), (1, u "SOFT_MAX_ARRAY_LENGTH"), (42, u "([BI[BII)I")] 40

def k11m0 : Method := { name := "<init>", desc := "()V", sig := { parameters := [], returnType := none }, accessFlags := 2, code := none }
def k11c1 : Code := { maxStack := 8, maxLocals := 8, code := jdk_48_method_14_code, exceptionTable := #[], attributes := #[] }
def k11m1 : Method := { name := "mismatch", desc := "([BI[BII)I", sig := { parameters := [(.array .byte), .int, (.array .byte), .int, .int], returnType := some .int }, accessFlags := 9, code := some k11c1 }
/-- jdk/internal/util/ArraysSupport -/
def k11 : Class := { plain "jdk/internal/util/ArraysSupport" (some 0) with
  accessFlags := 33
  interfaces := #[]
  cf := some (fileOf pool11 21 #[] #[{ accessFlags := 2, nameIndex := 9, descriptorIndex := 19, attributes := #[] }, { accessFlags := 9, nameIndex := 149, descriptorIndex := 337, attributes := #[] }] 33 16 #[] #[{ accessFlags := 24, nameIndex := 28, descriptorIndex := 29, attributes := #[] }, { accessFlags := 26, nameIndex := 38, descriptorIndex := 39, attributes := #[] }, { accessFlags := 25, nameIndex := 121, descriptorIndex := 25, attributes := #[] }, { accessFlags := 25, nameIndex := 131, descriptorIndex := 25, attributes := #[] }, { accessFlags := 25, nameIndex := 137, descriptorIndex := 25, attributes := #[] }, { accessFlags := 25, nameIndex := 143, descriptorIndex := 25, attributes := #[] }, { accessFlags := 25, nameIndex := 53, descriptorIndex := 25, attributes := #[] }, { accessFlags := 25, nameIndex := 24, descriptorIndex := 25, attributes := #[] }, { accessFlags := 25, nameIndex := 162, descriptorIndex := 25, attributes := #[] }, { accessFlags := 25, nameIndex := 187, descriptorIndex := 25, attributes := #[] }, { accessFlags := 26, nameIndex := 48, descriptorIndex := 25, attributes := #[] }, { accessFlags := 25, nameIndex := 277, descriptorIndex := 25, attributes := #[] }, { accessFlags := 25, nameIndex := 280, descriptorIndex := 25, attributes := #[] }, { accessFlags := 25, nameIndex := 282, descriptorIndex := 25, attributes := #[] }, { accessFlags := 25, nameIndex := 284, descriptorIndex := 25, attributes := #[] }, { accessFlags := 25, nameIndex := 286, descriptorIndex := 25, attributes := #[] }, { accessFlags := 25, nameIndex := 288, descriptorIndex := 25, attributes := #[] }, { accessFlags := 25, nameIndex := 290, descriptorIndex := 25, attributes := #[] }, { accessFlags := 25, nameIndex := 292, descriptorIndex := 25, attributes := #[] }, { accessFlags := 26, nameIndex := 108, descriptorIndex := 109, attributes := #[] }, { accessFlags := 25, nameIndex := 294, descriptorIndex := 25, attributes := #[] }])
  fields := #[{ name := "U", type := (.object "jdk/internal/misc/Unsafe"), accessFlags := 24, slot := 0, constantValue := 0 }, { name := "BIG_ENDIAN", type := .boolean, accessFlags := 26, slot := 1, constantValue := 0 }, { name := "LOG2_ARRAY_BOOLEAN_INDEX_SCALE", type := .int, accessFlags := 25, slot := 2, constantValue := 0 }, { name := "LOG2_ARRAY_BYTE_INDEX_SCALE", type := .int, accessFlags := 25, slot := 3, constantValue := 0 }, { name := "LOG2_ARRAY_CHAR_INDEX_SCALE", type := .int, accessFlags := 25, slot := 4, constantValue := 0 }, { name := "LOG2_ARRAY_SHORT_INDEX_SCALE", type := .int, accessFlags := 25, slot := 5, constantValue := 0 }, { name := "LOG2_ARRAY_INT_INDEX_SCALE", type := .int, accessFlags := 25, slot := 6, constantValue := 0 }, { name := "LOG2_ARRAY_LONG_INDEX_SCALE", type := .int, accessFlags := 25, slot := 7, constantValue := 0 }, { name := "LOG2_ARRAY_FLOAT_INDEX_SCALE", type := .int, accessFlags := 25, slot := 8, constantValue := 0 }, { name := "LOG2_ARRAY_DOUBLE_INDEX_SCALE", type := .int, accessFlags := 25, slot := 9, constantValue := 0 }, { name := "LOG2_BYTE_BIT_SIZE", type := .int, accessFlags := 26, slot := 10, constantValue := 0 }, { name := "T_BOOLEAN", type := .int, accessFlags := 25, slot := 11, constantValue := 0 }, { name := "T_CHAR", type := .int, accessFlags := 25, slot := 12, constantValue := 0 }, { name := "T_FLOAT", type := .int, accessFlags := 25, slot := 13, constantValue := 0 }, { name := "T_DOUBLE", type := .int, accessFlags := 25, slot := 14, constantValue := 0 }, { name := "T_BYTE", type := .int, accessFlags := 25, slot := 15, constantValue := 0 }, { name := "T_SHORT", type := .int, accessFlags := 25, slot := 16, constantValue := 0 }, { name := "T_INT", type := .int, accessFlags := 25, slot := 17, constantValue := 0 }, { name := "T_LONG", type := .int, accessFlags := 25, slot := 18, constantValue := 0 }, { name := "JLA", type := (.object "jdk/internal/access/JavaLangAccess"), accessFlags := 26, slot := 19, constantValue := 0 }, { name := "SOFT_MAX_ARRAY_LENGTH", type := .int, accessFlags := 25, slot := 20, constantValue := 0 }]
  methods := #[k11m0, k11m1]
  instanceTypes := #[]
  staticTypes := #[(.object "jdk/internal/misc/Unsafe"), .boolean, .int, .int, .int, .int, .int, .int, .int, .int, .int, .int, .int, .int, .int, .int, .int, .int, .int, (.object "jdk/internal/access/JavaLangAccess"), .int]
  resolved := Array.replicate 378 none
  statics := none }

def pool12 : Array CpInfo := pool [(6, .class_ 8), (1, u "java/lang/Object"), (0, u "<init>"), (0, u "()V"), (1, .class_ 14), (1, u "java/lang/StringUTF16"), (31, u "$assertionsDisabled"), (0, u "Z"), (13, u "HI_BYTE_SHIFT"), (0, u "I"), (2, u "LO_BYTE_SHIFT"), (49, .methodref 12 116), (0, .nameAndType 117 118), (0, u "compress"), (0, u "([CI[BII)I"), (3, u "([CII)[B"), (138, u "coderFromArrayLen"), (0, u "([BI)B"), (106, .class_ 371), (1, u "java/lang/StringUTF16$LinesSpliterator"), (58, u "MAX_LENGTH"), (196, .class_ 628), (0, u "java/lang/StringUTF16$CodePointsSpliterator"), (0, .class_ 630), (0, u "java/lang/StringUTF16$CharsSpliterator")] 4

def k12m0 : Method := { name := "<init>", desc := "()V", sig := { parameters := [], returnType := none }, accessFlags := 0, code := none }
def k12c1 : Code := { maxStack := 2, maxLocals := 2, code := jdk_52_method_15_code, exceptionTable := #[], attributes := #[] }
def k12m1 : Method := { name := "coderFromArrayLen", desc := "([BI)B", sig := { parameters := [(.array .byte), .int], returnType := some .byte }, accessFlags := 8, code := some k12c1 }
def k12c2 : Code := { maxStack := 5, maxLocals := 6, code := jdk_52_method_16_code, exceptionTable := #[], attributes := #[] }
def k12m2 : Method := { name := "compress", desc := "([CII)[B", sig := { parameters := [(.array .char), .int, .int], returnType := some (.array .byte) }, accessFlags := 9, code := some k12c2 }
def k12c3 : Code := { maxStack := 3, maxLocals := 7, code := jdk_52_method_21_code, exceptionTable := #[], attributes := #[] }
def k12m3 : Method := { name := "compress", desc := "([CI[BII)I", sig := { parameters := [(.array .char), .int, (.array .byte), .int, .int], returnType := some .int }, accessFlags := 9, code := some k12c3 }
/-- java/lang/StringUTF16 -/
def k12 : Class := { plain "java/lang/StringUTF16" (some 0) with
  accessFlags := 48
  interfaces := #[]
  cf := some (fileOf pool12 12 #[.nestMembers #[627, 629, 369]] #[{ accessFlags := 0, nameIndex := 9, descriptorIndex := 10, attributes := #[] }, { accessFlags := 8, nameIndex := 261, descriptorIndex := 262, attributes := #[] }, { accessFlags := 9, nameIndex := 117, descriptorIndex := 122, attributes := #[] }, { accessFlags := 9, nameIndex := 117, descriptorIndex := 118, attributes := #[] }] 48 6 #[] #[{ accessFlags := 26, nameIndex := 61, descriptorIndex := 62, attributes := #[] }, { accessFlags := 26, nameIndex := 65, descriptorIndex := 62, attributes := #[] }, { accessFlags := 24, nameIndex := 430, descriptorIndex := 62, attributes := #[] }, { accessFlags := 4120, nameIndex := 46, descriptorIndex := 47, attributes := #[] }])
  fields := #[{ name := "HI_BYTE_SHIFT", type := .int, accessFlags := 26, slot := 0, constantValue := 0 }, { name := "LO_BYTE_SHIFT", type := .int, accessFlags := 26, slot := 1, constantValue := 0 }, { name := "MAX_LENGTH", type := .int, accessFlags := 24, slot := 2, constantValue := 0 }, { name := "$assertionsDisabled", type := .boolean, accessFlags := 4120, slot := 3, constantValue := 0 }]
  methods := #[k12m0, k12m1, k12m2, k12m3]
  instanceTypes := #[]
  staticTypes := #[.int, .int, .int, .boolean]
  resolved := Array.replicate 635 none
  statics := none }

def pool13 : Array CpInfo := pool [(2, .class_ 4), (1, u "java/lang/Object"), (0, u "<init>"), (0, u "()V"), (17, .class_ 26), (1, u "jdk/internal/util/Preconditions"), (28, .class_ 56), (0, u "jdk/internal/util/Preconditions$4"), (57, .class_ 115), (0, u "jdk/internal/util/Preconditions$1"), (7, u "SIOOBE_FORMATTER"), (0, u "Ljava/util/function/BiFunction;"), (0, .class_ 126), (0, u "jdk/internal/util/Preconditions$2"), (3, u "AIOOBE_FORMATTER"), (0, .class_ 132), (0, u "jdk/internal/util/Preconditions$3"), (3, u "IOOBE_FORMATTER")] 57

def k13m0 : Method := { name := "<init>", desc := "()V", sig := { parameters := [], returnType := none }, accessFlags := 1, code := none }
/-- jdk/internal/util/Preconditions -/
def k13 : Class := { plain "jdk/internal/util/Preconditions" (some 0) with
  accessFlags := 33
  interfaces := #[]
  cf := some (fileOf pool13 24 #[.nestMembers #[55, 131, 125, 114]] #[{ accessFlags := 1, nameIndex := 5, descriptorIndex := 6, attributes := #[] }] 33 2 #[] #[{ accessFlags := 25, nameIndex := 123, descriptorIndex := 124, attributes := #[] }, { accessFlags := 25, nameIndex := 130, descriptorIndex := 124, attributes := #[] }, { accessFlags := 25, nameIndex := 136, descriptorIndex := 124, attributes := #[] }])
  fields := #[{ name := "SIOOBE_FORMATTER", type := (.object "java/util/function/BiFunction"), accessFlags := 25, slot := 0, constantValue := 0 }, { name := "AIOOBE_FORMATTER", type := (.object "java/util/function/BiFunction"), accessFlags := 25, slot := 1, constantValue := 0 }, { name := "IOOBE_FORMATTER", type := (.object "java/util/function/BiFunction"), accessFlags := 25, slot := 2, constantValue := 0 }]
  methods := #[k13m0]
  instanceTypes := #[]
  staticTypes := #[(.object "java/util/function/BiFunction"), (.object "java/util/function/BiFunction"), (.object "java/util/function/BiFunction")]
  resolved := Array.replicate 194 none
  statics := some 1 }

def pool14 : Array CpInfo := pool [(1, u "java/lang/Cloneable"), (0, .class_ 1), (0, u "java/lang/Object"), (0, .class_ 3)] 3

/-- java/lang/Cloneable -/
def k14 : Class := { plain "java/lang/Cloneable" (some 0) with
  accessFlags := 1537
  interfaces := #[]
  cf := some (fileOf pool14 2 #[] #[] 1537 4 #[] #[])
  fields := #[]
  methods := #[]
  instanceTypes := #[]
  staticTypes := #[]
  resolved := Array.replicate 8 none
  statics := none }

/-- the primitive byte -/
def k15 : Class := { plain "byte" none with kind := .primitive 'B', accessFlags := 0x411 }
/-- [B -/
def k16 : Class := { plain "[B" (some 0) with kind := .array 15 .byte, interfaces := #[14, 2], accessFlags := 1041 }

/-- the primitive char -/
def k17 : Class := { plain "char" none with kind := .primitive 'C', accessFlags := 0x411 }
/-- [C -/
def k18 : Class := { plain "[C" (some 0) with kind := .array 17 .char, interfaces := #[14, 2], accessFlags := 1041 }

/-- the primitive int -/
def k19 : Class := { plain "int" none with kind := .primitive 'I', accessFlags := 0x411 }
/-- [I -/
def k20 : Class := { plain "[I" (some 0) with kind := .array 19 .int, interfaces := #[14, 2], accessFlags := 1041 }

def heap : Heap := #[{ cls := 7, slots := #[.long 0, .int 1, .null, .int 0, .null, .int 0, .int 0], vm := .statics 7 },
  { cls := 13, slots := #[.null, .null, .null], vm := .statics 13 }]
def classes : Array Class := #[k0, k1, k2, k3, k4, k5, k6, k7, k8, k9, k10, k11, k12, k13, k14, k15, k16, k17, k18, k19, k20]
def interned : List (Array UInt16 × Addr) := []
def slotsUsed : Nat := 10
def theMethod : MethodId := ⟨1, 3⟩
def args0 : Array Value := #[.int 2, .int 1, .int 65, .int 66, .int 67]
def aboutOver (below : List Frame) : State where
  vm := { classes := classes, interned := interned.toArray }
  heap := heap
  slotsUsed := slotsUsed
  threads := #[{ frames := .invoking theMethod args0 :: below }]
def below0 : List Frame := [.native { method := ⟨0, 0⟩, args := #[] }]
def about1 : State := aboutOver below0
def p0 : Program := .bare "" "" ""
def e0 : Env := launch0.env 0 0 0
theorem w_frames : about1.frames = Frame.invoking theMethod args0 :: below0 := rfl
set_option maxRecDepth 65536 in
theorem w_args : argsFit about1.vm theMethod args0 = true := by decide +kernel
set_option maxRecDepth 65536 in
theorem w_heap : heapFits about1 = true := by decide +kernel
set_option maxRecDepth 65536 in
theorem w_runnable : about1.curStatus? = some .runnable := by decide +kernel
set_option maxRecDepth 65536 in
theorem w_alone : about1.alone = true := by decide +kernel
set_option maxRecDepth 65536 in
theorem w_named : about1.methodNamed? x = some theMethod := by decide +kernel
set_option maxRecDepth 65536 in
theorem w_hears : about1.hears theMethod below0 = true := by decide +kernel
set_option maxRecDepth 65536 in
theorem w_ripe : about1.ripe theMethod args0 below0 = true := by decide +kernel
theorem w_running : about1.status = .running := rfl
set_option maxRecDepth 65536 in
theorem w_room : about1.hasRoom e0.platform room_1 = true :=
  launch0.hasRoom_least _ room_1 (by decide +kernel) (by decide +kernel) (by decide +kernel) (by decide +kernel) (by decide +kernel) (by decide +kernel)
theorem allAtoms_all (ts : List Jvm.Cond) (a : Array Jvm.Value) (st : Jvm.State) : (allAtoms ts).before a st = ts.all (fun c => c.before a st) := by
  induction ts with
  | nil => rfl
  | cons c t ih =>
    show (Jvm.Cond.and c (allAtoms t)).before a st = _
    rw [Jvm.Cond.before_and, ih, List.all_cons]
def words1 : List Jvm.Cond := Jvm.Cond.code x code maxLocals ret :: tables_1
/-- a 'code' word, met by the world's own term for the bytes: nothing is compared byte by byte -/
theorem code_word {y : MethodName} {bytes : ByteArray} {mx : Nat} {rt : Option FieldType} {a : Array Value} {s : State} {m : MethodId} {meth : Method} {c : Code} (h1 : s.methodNamed? y = some m) (h2 : s.vm.method? m = some meth) (h3 : meth.code = some c) (h4 : c.code = bytes)
    (h5 : (c.maxLocals == mx && c.exceptionTable.isEmpty && decide (c.maxStack ≤ mostOperands) && decide (meth.sig.returnType = rt) && !meth.locks && decide (parseMethodDescriptor y.desc = some meth.sig)) = true) : (Jvm.Cond.code y bytes mx rt).before a s = true := by
  simp only [Bool.and_eq_true, beq_iff_eq, Bool.not_eq_true', decide_eq_true_eq] at h5
  obtain ⟨⟨⟨⟨⟨g1, g2⟩, g3⟩, g4⟩, g5⟩, g6⟩ := h5
  simp [Cond.before, Cond.holds, Cond.value, h1, h2, h3, h4, g1, g2, g3, g4, g5, g6]
def isCode : Jvm.Cond → Bool
  | .code _ _ _ _ => true
  | _ => false
theorem all_split {L : List Jvm.Cond} {P : Jvm.Cond → Bool} (h1 : L.all (fun c => isCode c || P c) = true) (h2 : ∀ c ∈ L.filter isCode, P c = true) : L.all P = true := by
  refine List.all_eq_true.mpr fun c hc => ?_
  have h := List.all_eq_true.mp h1 c hc
  rcases Bool.eq_false_or_eq_true (isCode c) with hi | hi
  · exact h2 c (List.mem_filter.mpr ⟨hc, hi⟩)
  · simpa [hi] using h
set_option maxRecDepth 65536 in
theorem w_c0 : (Jvm.Cond.code x code maxLocals ret).before args0 about1 = true := code_word (m := ⟨1, 3⟩) (meth := k1m3) (c := k1c3) (by decide +kernel) rfl rfl rfl (by decide +kernel)
set_option maxRecDepth 65536 in
theorem w_c1 : (Jvm.Cond.code ({ cls := "com/example/cutoff/cutoff/store/TextCursorAtEndPinLaw", name := "str", desc := "(CCCI)Ljava/lang/String;" } : Jvm.MethodName) method_2_code (4 : Nat) (Option.some (Jvm.ClassFile.FieldType.object "java/lang/String"))).before args0 about1 = true := code_word (m := ⟨1, 1⟩) (meth := k1m1) (c := k1c1) (by decide +kernel) rfl rfl rfl (by decide +kernel)
set_option maxRecDepth 65536 in
theorem w_c2 : (Jvm.Cond.code ({ cls := "java/lang/String", name := "<init>", desc := "([C)V" } : Jvm.MethodName) jdk_42_method_3_code (2 : Nat) (Option.none : Option Jvm.ClassFile.FieldType)).before args0 about1 = true := code_word (m := ⟨7, 1⟩) (meth := k7m1) (c := k7c1) (by decide +kernel) rfl rfl rfl (by decide +kernel)
set_option maxRecDepth 65536 in
theorem w_c3 : (Jvm.Cond.code ({ cls := "java/lang/String", name := "<init>", desc := "([CIILjava/lang/Void;)V" } : Jvm.MethodName) jdk_42_method_149_code (6 : Nat) (Option.none : Option Jvm.ClassFile.FieldType)).before args0 about1 = true := code_word (m := ⟨7, 6⟩) (meth := k7m6) (c := k7c6) (by decide +kernel) rfl rfl rfl (by decide +kernel)
set_option maxRecDepth 65536 in
theorem w_c4 : (Jvm.Cond.code ({ cls := "java/lang/Object", name := "<init>", desc := "()V" } : Jvm.MethodName) object_method_1_code (1 : Nat) (Option.none : Option Jvm.ClassFile.FieldType)).before args0 about1 = true := code_word (m := ⟨0, 0⟩) (meth := k0m0) (c := k0c0) (by decide +kernel) rfl rfl rfl (by decide +kernel)
set_option maxRecDepth 65536 in
theorem w_c5 : (Jvm.Cond.code ({ cls := "com/example/cutoff/cutoff/store/TextCursorAtEndPinLaw", name := "suffix", desc := "(CCCII)Ljava/lang/String;" } : Jvm.MethodName) method_3_code (5 : Nat) (Option.some (Jvm.ClassFile.FieldType.object "java/lang/String"))).before args0 about1 = true := code_word (m := ⟨1, 2⟩) (meth := k1m2) (c := k1c2) (by decide +kernel) rfl rfl rfl (by decide +kernel)
set_option maxRecDepth 65536 in
theorem w_c6 : (Jvm.Cond.code ({ cls := "com/example/cutoff/cutoff/store/TextCursor", name := "<init>", desc := "(Ljava/lang/String;Ljava/lang/String;I)V" } : Jvm.MethodName) prog_74_method_1_code (4 : Nat) (Option.none : Option Jvm.ClassFile.FieldType)).before args0 about1 = true := code_word (m := ⟨8, 0⟩) (meth := k8m0) (c := k8c0) (by decide +kernel) rfl rfl rfl (by decide +kernel)
set_option maxRecDepth 65536 in
theorem w_c7 : (Jvm.Cond.code ({ cls := "java/lang/String", name := "indexOf", desc := "(I)I" } : Jvm.MethodName) jdk_42_method_79_code (2 : Nat) (Option.some Jvm.ClassFile.FieldType.int)).before args0 about1 = true := code_word (m := ⟨7, 4⟩) (meth := k7m4) (c := k7c4) (by decide +kernel) rfl rfl rfl (by decide +kernel)
set_option maxRecDepth 65536 in
theorem w_c8 : (Jvm.Cond.code ({ cls := "java/lang/String", name := "indexOf", desc := "(II)I" } : Jvm.MethodName) jdk_42_method_80_code (3 : Nat) (Option.some Jvm.ClassFile.FieldType.int)).before args0 about1 = true := code_word (m := ⟨7, 5⟩) (meth := k7m5) (c := k7c5) (by decide +kernel) rfl rfl rfl (by decide +kernel)
set_option maxRecDepth 65536 in
theorem w_c9 : (Jvm.Cond.code ({ cls := "java/lang/String", name := "isLatin1", desc := "()Z" } : Jvm.MethodName) jdk_42_method_154_code (1 : Nat) (Option.some Jvm.ClassFile.FieldType.boolean)).before args0 about1 = true := code_word (m := ⟨7, 8⟩) (meth := k7m8) (c := k7c8) (by decide +kernel) rfl rfl rfl (by decide +kernel)
set_option maxRecDepth 65536 in
theorem w_c10 : (Jvm.Cond.code ({ cls := "java/lang/String", name := "length", desc := "()I" } : Jvm.MethodName) jdk_42_method_54_code (1 : Nat) (Option.some Jvm.ClassFile.FieldType.int)).before args0 about1 = true := code_word (m := ⟨7, 2⟩) (meth := k7m2) (c := k7c2) (by decide +kernel) rfl rfl rfl (by decide +kernel)
set_option maxRecDepth 65536 in
theorem w_c11 : (Jvm.Cond.code ({ cls := "java/lang/String", name := "coder", desc := "()B" } : Jvm.MethodName) jdk_42_method_152_code (1 : Nat) (Option.some Jvm.ClassFile.FieldType.byte)).before args0 about1 = true := code_word (m := ⟨7, 7⟩) (meth := k7m7) (c := k7c7) (by decide +kernel) rfl rfl rfl (by decide +kernel)
set_option maxRecDepth 65536 in
theorem w_c12 : (Jvm.Cond.code ({ cls := "java/lang/StringLatin1", name := "indexOf", desc := "([BIII)I" } : Jvm.MethodName) jdk_43_method_22_code (4 : Nat) (Option.some Jvm.ClassFile.FieldType.int)).before args0 about1 = true := code_word (m := ⟨9, 2⟩) (meth := k9m2) (c := k9c2) (by decide +kernel) rfl rfl rfl (by decide +kernel)
set_option maxRecDepth 65536 in
theorem w_c13 : (Jvm.Cond.code ({ cls := "java/lang/StringLatin1", name := "canEncode", desc := "(I)Z" } : Jvm.MethodName) jdk_43_method_4_code (1 : Nat) (Option.some Jvm.ClassFile.FieldType.boolean)).before args0 about1 = true := code_word (m := ⟨9, 1⟩) (meth := k9m1) (c := k9c1) (by decide +kernel) rfl rfl rfl (by decide +kernel)
set_option maxRecDepth 65536 in
theorem w_c14 : (Jvm.Cond.code ({ cls := "java/lang/Math", name := "max", desc := "(II)I" } : Jvm.MethodName) jdk_29_method_65_code (2 : Nat) (Option.some Jvm.ClassFile.FieldType.int)).before args0 about1 = true := code_word (m := ⟨10, 1⟩) (meth := k10m1) (c := k10c1) (by decide +kernel) rfl rfl rfl (by decide +kernel)
set_option maxRecDepth 65536 in
theorem w_c15 : (Jvm.Cond.code ({ cls := "java/lang/Math", name := "min", desc := "(II)I" } : Jvm.MethodName) jdk_29_method_69_code (2 : Nat) (Option.some Jvm.ClassFile.FieldType.int)).before args0 about1 = true := code_word (m := ⟨10, 2⟩) (meth := k10m2) (c := k10c2) (by decide +kernel) rfl rfl rfl (by decide +kernel)
set_option maxRecDepth 65536 in
theorem w_c16 : (Jvm.Cond.code ({ cls := "com/example/cutoff/cutoff/store/TextCursor", name := "atEnd", desc := "()Z" } : Jvm.MethodName) prog_74_method_3_code (1 : Nat) (Option.some Jvm.ClassFile.FieldType.boolean)).before args0 about1 = true := code_word (m := ⟨8, 2⟩) (meth := k8m2) (c := k8c2) (by decide +kernel) rfl rfl rfl (by decide +kernel)
set_option maxRecDepth 65536 in
theorem w_c17 : (Jvm.Cond.code ({ cls := "com/example/cutoff/cutoff/store/TextCursor", name := "consume", desc := "(Ljava/lang/String;)Z" } : Jvm.MethodName) prog_74_method_5_code (3 : Nat) (Option.some Jvm.ClassFile.FieldType.boolean)).before args0 about1 = true := code_word (m := ⟨8, 4⟩) (meth := k8m4) (c := k8c4) (by decide +kernel) rfl rfl rfl (by decide +kernel)
set_option maxRecDepth 65536 in
theorem w_c18 : (Jvm.Cond.code ({ cls := "com/example/cutoff/cutoff/store/TextCursor", name := "lookingAt", desc := "(Ljava/lang/String;)Z" } : Jvm.MethodName) prog_74_method_4_code (2 : Nat) (Option.some Jvm.ClassFile.FieldType.boolean)).before args0 about1 = true := code_word (m := ⟨8, 3⟩) (meth := k8m3) (c := k8c3) (by decide +kernel) rfl rfl rfl (by decide +kernel)
set_option maxRecDepth 65536 in
theorem w_c19 : (Jvm.Cond.code ({ cls := "java/lang/String", name := "startsWith", desc := "(Ljava/lang/String;I)Z" } : Jvm.MethodName) jdk_42_method_75_code (8 : Nat) (Option.some Jvm.ClassFile.FieldType.boolean)).before args0 about1 = true := code_word (m := ⟨7, 3⟩) (meth := k7m3) (c := k7c3) (by decide +kernel) rfl rfl rfl (by decide +kernel)
set_option maxRecDepth 65536 in
theorem w_c20 : (Jvm.Cond.code ({ cls := "jdk/internal/util/ArraysSupport", name := "mismatch", desc := "([BI[BII)I" } : Jvm.MethodName) jdk_48_method_14_code (8 : Nat) (Option.some Jvm.ClassFile.FieldType.int)).before args0 about1 = true := code_word (m := ⟨11, 1⟩) (meth := k11m1) (c := k11c1) (by decide +kernel) rfl rfl rfl (by decide +kernel)
set_option maxRecDepth 65536 in
theorem w_c21 : (Jvm.Cond.code ({ cls := "com/example/cutoff/cutoff/store/TextCursor", name := "position", desc := "()I" } : Jvm.MethodName) prog_74_method_2_code (1 : Nat) (Option.some Jvm.ClassFile.FieldType.int)).before args0 about1 = true := code_word (m := ⟨8, 1⟩) (meth := k8m1) (c := k8c1) (by decide +kernel) rfl rfl rfl (by decide +kernel)
set_option maxRecDepth 65536 in
theorem w_c22 : (Jvm.Cond.code ({ cls := "java/lang/StringUTF16", name := "compress", desc := "([CII)[B" } : Jvm.MethodName) jdk_52_method_16_code (6 : Nat) (Option.some (Jvm.ClassFile.FieldType.array Jvm.ClassFile.FieldType.byte))).before args0 about1 = true := code_word (m := ⟨12, 2⟩) (meth := k12m2) (c := k12c2) (by decide +kernel) rfl rfl rfl (by decide +kernel)
set_option maxRecDepth 65536 in
theorem w_c23 : (Jvm.Cond.code ({ cls := "java/lang/StringUTF16", name := "compress", desc := "([CI[BII)I" } : Jvm.MethodName) jdk_52_method_21_code (7 : Nat) (Option.some Jvm.ClassFile.FieldType.int)).before args0 about1 = true := code_word (m := ⟨12, 3⟩) (meth := k12m3) (c := k12c3) (by decide +kernel) rfl rfl rfl (by decide +kernel)
set_option maxRecDepth 65536 in
theorem w_c24 : (Jvm.Cond.code ({ cls := "java/lang/StringUTF16", name := "coderFromArrayLen", desc := "([BI)B" } : Jvm.MethodName) jdk_52_method_15_code (2 : Nat) (Option.some Jvm.ClassFile.FieldType.byte)).before args0 about1 = true := code_word (m := ⟨12, 1⟩) (meth := k12m1) (c := k12c1) (by decide +kernel) rfl rfl rfl (by decide +kernel)
set_option maxRecDepth 65536 in
theorem w_c25 : (Jvm.Cond.code ({ cls := "java/lang/StringLatin1", name := "indexOfChar", desc := "([BIII)I" } : Jvm.MethodName) jdk_43_method_23_code (6 : Nat) (Option.some Jvm.ClassFile.FieldType.int)).before args0 about1 = true := code_word (m := ⟨9, 3⟩) (meth := k9m3) (c := k9c3) (by decide +kernel) rfl rfl rfl (by decide +kernel)
def codes1 : List Jvm.Cond := [Jvm.Cond.code x code maxLocals ret, Jvm.Cond.code ({ cls := "com/example/cutoff/cutoff/store/TextCursorAtEndPinLaw", name := "str", desc := "(CCCI)Ljava/lang/String;" } : Jvm.MethodName) method_2_code (4 : Nat) (Option.some (Jvm.ClassFile.FieldType.object "java/lang/String")), Jvm.Cond.code ({ cls := "java/lang/String", name := "<init>", desc := "([C)V" } : Jvm.MethodName) jdk_42_method_3_code (2 : Nat) (Option.none : Option Jvm.ClassFile.FieldType), Jvm.Cond.code ({ cls := "java/lang/String", name := "<init>", desc := "([CIILjava/lang/Void;)V" } : Jvm.MethodName) jdk_42_method_149_code (6 : Nat) (Option.none : Option Jvm.ClassFile.FieldType), Jvm.Cond.code ({ cls := "java/lang/Object", name := "<init>", desc := "()V" } : Jvm.MethodName) object_method_1_code (1 : Nat) (Option.none : Option Jvm.ClassFile.FieldType), Jvm.Cond.code ({ cls := "com/example/cutoff/cutoff/store/TextCursorAtEndPinLaw", name := "suffix", desc := "(CCCII)Ljava/lang/String;" } : Jvm.MethodName) method_3_code (5 : Nat) (Option.some (Jvm.ClassFile.FieldType.object "java/lang/String")), Jvm.Cond.code ({ cls := "com/example/cutoff/cutoff/store/TextCursor", name := "<init>", desc := "(Ljava/lang/String;Ljava/lang/String;I)V" } : Jvm.MethodName) prog_74_method_1_code (4 : Nat) (Option.none : Option Jvm.ClassFile.FieldType), Jvm.Cond.code ({ cls := "java/lang/String", name := "indexOf", desc := "(I)I" } : Jvm.MethodName) jdk_42_method_79_code (2 : Nat) (Option.some Jvm.ClassFile.FieldType.int), Jvm.Cond.code ({ cls := "java/lang/String", name := "indexOf", desc := "(II)I" } : Jvm.MethodName) jdk_42_method_80_code (3 : Nat) (Option.some Jvm.ClassFile.FieldType.int), Jvm.Cond.code ({ cls := "java/lang/String", name := "isLatin1", desc := "()Z" } : Jvm.MethodName) jdk_42_method_154_code (1 : Nat) (Option.some Jvm.ClassFile.FieldType.boolean), Jvm.Cond.code ({ cls := "java/lang/String", name := "length", desc := "()I" } : Jvm.MethodName) jdk_42_method_54_code (1 : Nat) (Option.some Jvm.ClassFile.FieldType.int), Jvm.Cond.code ({ cls := "java/lang/String", name := "coder", desc := "()B" } : Jvm.MethodName) jdk_42_method_152_code (1 : Nat) (Option.some Jvm.ClassFile.FieldType.byte), Jvm.Cond.code ({ cls := "java/lang/StringLatin1", name := "indexOf", desc := "([BIII)I" } : Jvm.MethodName) jdk_43_method_22_code (4 : Nat) (Option.some Jvm.ClassFile.FieldType.int), Jvm.Cond.code ({ cls := "java/lang/StringLatin1", name := "canEncode", desc := "(I)Z" } : Jvm.MethodName) jdk_43_method_4_code (1 : Nat) (Option.some Jvm.ClassFile.FieldType.boolean), Jvm.Cond.code ({ cls := "java/lang/Math", name := "max", desc := "(II)I" } : Jvm.MethodName) jdk_29_method_65_code (2 : Nat) (Option.some Jvm.ClassFile.FieldType.int), Jvm.Cond.code ({ cls := "java/lang/Math", name := "min", desc := "(II)I" } : Jvm.MethodName) jdk_29_method_69_code (2 : Nat) (Option.some Jvm.ClassFile.FieldType.int), Jvm.Cond.code ({ cls := "com/example/cutoff/cutoff/store/TextCursor", name := "atEnd", desc := "()Z" } : Jvm.MethodName) prog_74_method_3_code (1 : Nat) (Option.some Jvm.ClassFile.FieldType.boolean), Jvm.Cond.code ({ cls := "com/example/cutoff/cutoff/store/TextCursor", name := "consume", desc := "(Ljava/lang/String;)Z" } : Jvm.MethodName) prog_74_method_5_code (3 : Nat) (Option.some Jvm.ClassFile.FieldType.boolean), Jvm.Cond.code ({ cls := "com/example/cutoff/cutoff/store/TextCursor", name := "lookingAt", desc := "(Ljava/lang/String;)Z" } : Jvm.MethodName) prog_74_method_4_code (2 : Nat) (Option.some Jvm.ClassFile.FieldType.boolean), Jvm.Cond.code ({ cls := "java/lang/String", name := "startsWith", desc := "(Ljava/lang/String;I)Z" } : Jvm.MethodName) jdk_42_method_75_code (8 : Nat) (Option.some Jvm.ClassFile.FieldType.boolean), Jvm.Cond.code ({ cls := "jdk/internal/util/ArraysSupport", name := "mismatch", desc := "([BI[BII)I" } : Jvm.MethodName) jdk_48_method_14_code (8 : Nat) (Option.some Jvm.ClassFile.FieldType.int), Jvm.Cond.code ({ cls := "com/example/cutoff/cutoff/store/TextCursor", name := "position", desc := "()I" } : Jvm.MethodName) prog_74_method_2_code (1 : Nat) (Option.some Jvm.ClassFile.FieldType.int), Jvm.Cond.code ({ cls := "java/lang/StringUTF16", name := "compress", desc := "([CII)[B" } : Jvm.MethodName) jdk_52_method_16_code (6 : Nat) (Option.some (Jvm.ClassFile.FieldType.array Jvm.ClassFile.FieldType.byte)), Jvm.Cond.code ({ cls := "java/lang/StringUTF16", name := "compress", desc := "([CI[BII)I" } : Jvm.MethodName) jdk_52_method_21_code (7 : Nat) (Option.some Jvm.ClassFile.FieldType.int), Jvm.Cond.code ({ cls := "java/lang/StringUTF16", name := "coderFromArrayLen", desc := "([BI)B" } : Jvm.MethodName) jdk_52_method_15_code (2 : Nat) (Option.some Jvm.ClassFile.FieldType.byte), Jvm.Cond.code ({ cls := "java/lang/StringLatin1", name := "indexOfChar", desc := "([BIII)I" } : Jvm.MethodName) jdk_43_method_23_code (6 : Nat) (Option.some Jvm.ClassFile.FieldType.int)]
set_option maxRecDepth 65536 in
theorem codes_eq : words1.filter isCode = codes1 := rfl
theorem w_codes : ∀ c ∈ words1.filter isCode, c.before args0 about1 = true := by
  rw [codes_eq]
  intro c hc
  simp only [codes1, List.mem_cons, List.not_mem_nil, or_false] at hc
  rcases hc with rfl | rfl | rfl | rfl | rfl | rfl | rfl | rfl | rfl | rfl | rfl | rfl | rfl | rfl | rfl | rfl | rfl | rfl | rfl | rfl | rfl | rfl | rfl | rfl | rfl | rfl
  · exact w_c0
  · exact w_c1
  · exact w_c2
  · exact w_c3
  · exact w_c4
  · exact w_c5
  · exact w_c6
  · exact w_c7
  · exact w_c8
  · exact w_c9
  · exact w_c10
  · exact w_c11
  · exact w_c12
  · exact w_c13
  · exact w_c14
  · exact w_c15
  · exact w_c16
  · exact w_c17
  · exact w_c18
  · exact w_c19
  · exact w_c20
  · exact w_c21
  · exact w_c22
  · exact w_c23
  · exact w_c24
  · exact w_c25
set_option maxRecDepth 65536 in
theorem w_t1 : (words1.take 24).all (fun c => isCode c || c.before args0 about1) = true := by decide +kernel
set_option maxRecDepth 65536 in
theorem w_t2 : ((words1.drop 24).take 24).all (fun c => isCode c || c.before args0 about1) = true := by decide +kernel
set_option maxRecDepth 65536 in
theorem w_t3 : (((words1.drop 24).drop 24).take 24).all (fun c => isCode c || c.before args0 about1) = true := by decide +kernel
set_option maxRecDepth 65536 in
theorem w_t4 : ((((words1.drop 24).drop 24).drop 24).take 24).all (fun c => isCode c || c.before args0 about1) = true := by decide +kernel
set_option maxRecDepth 65536 in
theorem w_t5 : (((((words1.drop 24).drop 24).drop 24).drop 24).take 24).all (fun c => isCode c || c.before args0 about1) = true := by decide +kernel
set_option maxRecDepth 65536 in
theorem w_t6 : (((((words1.drop 24).drop 24).drop 24).drop 24).drop 24).all (fun c => isCode c || c.before args0 about1) = true := by decide +kernel
theorem w_tables : (allAtoms (Jvm.Cond.code x code maxLocals ret :: tables_1)).before args0 about1 = true := by
  rw [allAtoms_all]
  show words1.all (fun c => c.before args0 about1) = true
  refine all_split ?_ w_codes
  rw [← List.take_append_drop 24 words1, List.all_append, w_t1, ← List.take_append_drop 24 (words1.drop 24), List.all_append, w_t2, ← List.take_append_drop 24 ((words1.drop 24).drop 24), List.all_append, w_t3, ← List.take_append_drop 24 (((words1.drop 24).drop 24).drop 24), List.all_append, w_t4, ← List.take_append_drop 24 ((((words1.drop 24).drop 24).drop 24).drop 24), List.all_append, w_t5, w_t6]
  rfl
set_option maxRecDepth 65536 in
theorem w_rest : rest_1_c.before args0 about1 = true := by decide +kernel
set_option maxRecDepth 65536 in
theorem w_case : (Jvm.Cond.and given_1 narrow_1).before args0 about1 = true := by decide +kernel
set_option maxRecDepth 65536 in
theorem w_consts : constsHeld consts_1 about1 := Jvm.Lit.constsHeldB_iff.mp (by decide +kernel)
theorem w_applies : (headSpec (Jvm.Cond.code x code maxLocals ret :: tables_1) room_1).applies x e0.platform about1 = true :=
  (Spec.applies_iff w_frames).mpr ⟨w_running, w_runnable, w_alone, w_named, w_hears, w_ripe, w_room, w_tables⟩
theorem atStart : AtStart classFile x code maxLocals ret World_1 tables_1 room_1 Calls_1 rest_1 Pre_1 launch0 p0 e0 about1 theMethod args0 below0 :=
  ⟨lists_1, trivial, launch0.admits_env _ _ _, launch0.least_env, fairChoices_fair.cas, fairChoices_fair.clock, w_frames, w_args, w_heap, w_applies, ⟨w_consts, trivial⟩, w_rest, w_case⟩
end start1
theorem witness_1 : WitnessClaimed_1 := ⟨start1.p0, start1.e0, start1.about1, start1.theMethod, start1.args0, start1.below0, start1.atStart⟩
end Jvm.Pilot.@@N@@
