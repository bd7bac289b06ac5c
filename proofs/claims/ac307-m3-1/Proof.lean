import JvmDerived
import JvmDerived.Pilot.@@N@@Statement
import JvmDerived.Pilot.@@N@@Code
set_option linter.unusedVariables false
set_option linter.unusedSimpArgs false
@@BLOCK:NumsL.lean.txt@@
@@BLOCK:LamKit.lean.txt@@
namespace Jvm.RoadKit
open Sem ClassFile Op Lib Jvm.Stand Jvm.Free Jvm.LawKit
section New
variable {p : Program} {l : Launch} {e : Env} {R : Room} {s : State} {m : MethodId} {args : Array Value} {below : List Frame} {meth : Method} {c : Code} {T : State} {locs : List Loc} {cells slots : Nat}
theorem retI (X : Stand p l e R s m args below meth c T locs cells slots) (hx : p.tables.exec = Jvm.exec) {pc : Nat} {Ls : Array Slot} {z : Int32} {rest : List Value} (hret : meth.sig.returnType = some .int) (hd : decode c.code pc = .ok (.ireturn, 1)) {fs : List Frame}
    (hl : ∀ (f : JFrame) (acts : List Action), f.method = m → f.locked = none → f.entered = [] → (doReturn e (T.setTop f) acts (some (.int z))).1 = T.setFrames fs) : Steps p.tables e below (T.setTop (mkF m pc Ls (.int z :: rest))) (T.setFrames fs) := by
  have hm' : T.vm.method? m = some meth := X.method'
  have hn : narrow .int (.int z) = .int z := rfl
  show Steps p.tables e below (T.setTop { method := m, pc := pc, locals := Ls, stack := _ :: rest, locked := none }) _
  jvm_step X.here [X.here.top, hx, hd, hm', hret, hn]
  first | (intro acts; rw [hl _ acts rfl rfl rfl]) | rw [hl _ _ rfl rfl rfl]
  exact Steps.refl _
end New
end Jvm.RoadKit
namespace Jvm.Pilot.@@N@@
open Jvm Jvm.ClassFile Sem Op Lib Jvm.Free Jvm.Stand Jvm.LawKit Jvm.RoadKit Bundle Jvm.Pilot.@@N@@.Jvm.D
theorem own_go {tb : Tables} {e : Env} {below : List Frame} {A B : State} {P : State → Outcome → Prop} (st : ∀ t, Steps tb e below B t → Steps tb e below A t) (h : ∃ s₂ o, Steps tb e below B s₂ ∧ P s₂ o) : ∃ s₂ o, Steps tb e below A s₂ ∧ P s₂ o := by
  obtain ⟨s₂, o, h1, h2⟩ := h
  exact ⟨s₂, o, st _ h1, h2⟩
theorem own_w {av0 : Array Value} {Z : State} (hw : ∀ d ∈ tables_1, d.before av0 Z = true) (i : Nat) {d : Jvm.Cond} (h : tables_1[i]? = some d) : d.before av0 Z = true := hw d (List.mem_of_getElem? h)
theorem own_gj {tb : Tables} {e : Env} {below : List Frame} {A B : State} {P : State → Heap → List Loc → Prop} {F : State → State} (st : ∀ t, Steps tb e below B t → Steps tb e below A t) (h : ∃ T' h' L', P T' h' L' ∧ ∀ t, Steps tb e below (F T') t → Steps tb e below B t) : ∃ T' h' L', P T' h' L' ∧ ∀ t, Steps tb e below (F T') t → Steps tb e below A t := by
  obtain ⟨T', h', L', h1, h2⟩ := h
  exact ⟨T', h', L', h1, fun t k => st t (h2 t k)⟩
theorem own_stake {Z : State} {h h' : Heap} {C n d D : String} {v : Value} {a : Addr} (F : Sta Z h C n d v) (K : Keep h h' [a]) (E : Exa Z h a D) : Sta Z h' C n d v := by
  obtain ⟨cf, i, k, f, st, cell, h1, h2, h3, h4, h5, h6, h7⟩ := F
  refine ⟨cf, i, k, f, st, cell, h1, h2, h3, h4, K.2.1 _ _ h5 (fun q => ?_), h6, h7⟩
  obtain rfl := List.mem_singleton.mp q
  obtain ⟨c2, k2, e1, -, -, e4, -⟩ := E
  cases e1.symm.trans h5
  rw [e4] at h6; cases h6
theorem own_stak {Z : State} {h h' : Heap} {C n d : String} {v : Value} (F : Sta Z h C n d v) (K : Keep h h' []) : Sta Z h' C n d v := by
  obtain ⟨cf, i, k, f, st, cell, h1, h2, h3, h4, h5, r⟩ := F
  exact ⟨cf, i, k, f, st, cell, h1, h2, h3, h4, K.2.1 _ _ h5 nin0, r⟩
theorem own_eqv {args : Array Value} {s : State} {a b : Term} {v : Value} (h : (Jvm.Cond.eq a b).value args s none s [] = some true) (hb : b.eval args s none [] s = some v) : a.eval args s none [] s = some v := by
  simp only [Cond.value, hb] at h
  cases ha : a.eval args s none [] s with
  | none => simp [ha] at h
  | some x => cases x <;> cases v <;> simp [ha] at h ⊢ <;> exact h
abbrev own_m1 : MethodName := ⟨"com/example/stackwright/stackwright/CapacityAlternativeNumberedPinLaw", "law", "(IIII)Z"⟩
abbrev own_m2 : MethodName := ⟨"com/example/stackwright/stackwright/CapacityAlternativeNumberedPinLaw", "draw", "(I)C"⟩
abbrev own_m3 : MethodName := ⟨"java/lang/String", "<init>", "([C)V"⟩
abbrev own_m4 : MethodName := ⟨"java/lang/String", "<init>", "([CIILjava/lang/Void;)V"⟩
abbrev own_m5 : MethodName := ⟨"java/lang/Object", "<init>", "()V"⟩
abbrev own_m6 : MethodName := ⟨"com/example/stackwright/stackwright/CapacityAlternative", "numbered", "(Ljava/lang/String;)Lcom/example/stackwright/stackwright/CapacityAlternative;"⟩
abbrev own_m7 : MethodName := ⟨"com/example/stackwright/stackwright/CapacityAlternative", "values", "()[Lcom/example/stackwright/stackwright/CapacityAlternative;"⟩
abbrev own_m8 : MethodName := ⟨"com/example/stackwright/stackwright/CsvNames", "named", "([Ljava/lang/Object;Ljava/util/function/Function;Ljava/lang/String;)Ljava/lang/Object;"⟩
abbrev own_m9 : MethodName := ⟨"com/example/stackwright/stackwright/CapacityAlternative", "number", "()Ljava/lang/String;"⟩
abbrev own_m10 : MethodName := ⟨"java/lang/String", "equals", "(Ljava/lang/Object;)Z"⟩
abbrev own_m11 : MethodName := ⟨"java/lang/StringLatin1", "equals", "([B[B)Z"⟩
abbrev own_m12 : MethodName := ⟨"java/lang/StringUTF16", "compress", "([CII)[B"⟩
abbrev own_m13 : MethodName := ⟨"java/lang/StringUTF16", "compress", "([CI[BII)I"⟩
abbrev own_m14 : MethodName := ⟨"java/lang/StringUTF16", "coderFromArrayLen", "([BI)B"⟩
abbrev oU : Slot := .unset
set_option maxRecDepth 65536
set_option maxHeartbeats 40000000
theorem own_wS {av0 : Array Value} {Z : State} (hw : ∀ d ∈ tables_1, d.before av0 Z = true) : ∀ a ∈ Bundle.stringAtoms, a.before av0 Z = true := by
  intro a ha
  simp only [Bundle.stringAtoms, List.mem_cons, List.not_mem_nil, or_false] at ha
  rcases ha with rfl | rfl | rfl | rfl | rfl | rfl | rfl
  · exact (own_w hw 6 rfl)
  · exact (own_w hw 5 rfl)
  · exact (own_w hw 19 rfl)
  · exact (own_w hw 20 rfl)
  · exact (own_w hw 21 rfl)
  · exact (own_w hw 22 rfl)
  · exact (own_w hw 23 rfl)
def own_EL : List (String × Nat) := [("java/lang/String", 7)]
def own_byte (c : Int32) : Int32 := nar .byte (c.toInt8.toInt32)
def own_e (c e : Int32) : Int32 := if c = e then (1 : Int32) else (0 : Int32)
def own_e2 (c e : Int32) : Int32 := if own_e c e = (0 : Int32) then (0 : Int32) else (1 : Int32)
def own_pick (s0 s1 s2 : Addr) (r0 r1 r2 : Int32) : Value := if r0 = (0 : Int32) then if r1 = (0 : Int32) then if r2 = (0 : Int32) then .null else .ref s2 else .ref s1 else .ref s0
theorem own_safe_null {Z : State} {vm : Vm} {h : Heap} {x : Addr} {EL : List (String × Nat)} (hal : Z.vm.Alike vm) (E : Exa Z h x "java/lang/String") (F : Fld Z h x "java/lang/String" "value" "[B" .null) : Safe Z EL vm h x := fun B => by
  obtain ⟨p, -, u, a, -, q, -, G, rfl | rfl⟩ := B
  · obtain ⟨cS, ⟨⟨s1, s2, s3, ⟨cv, kv, iv, s4, s4'⟩, -, s6, -, s8, -⟩, -⟩, -⟩ := G
    obtain ⟨cell, cf, k, i, f, h1, h2, -, -, -, -, h7⟩ := F
    obtain ⟨k', hi, -⟩ := State.fieldFound?_setVm (s := Z) hal h2
    have s4a : (Z.setVm vm).fieldFound? "java/lang/String" "value" "[B" = some (cv, kv, iv, q.fSV) := s4
    cases hi.symm.trans s4a
    cases (show h[q.sa]? = some q.sC from s1).symm.trans h1
    have := s8.symm.trans h7
    cases this
  · obtain ⟨cell, k, e1, e2, e3, -, -⟩ := E
    cases (show h[q.sd]? = some q.SA from G.hd).symm.trans e1
    obtain ⟨cS, -, -, f, -⟩ := G
    have f' : vm.findClass "[B" = some q.SA.cls := f
    rw [hal.findClass] at f'
    obtain ⟨k1, q1, q2⟩ := Vm.findClass_spec f'
    obtain ⟨k2, q3, q4⟩ := Vm.findClass_spec e2
    cases q1.symm.trans q3
    exact absurd (q2.symm.trans q4) (by decide)
theorem own_shr (z : Int32) : z >>> ((0 : Int32) &&& 31) = z := by
  apply Int32.toInt_inj.mp
  have := c_ishr z 0 0 (by decide)
  rw [this]; simp
theorem d1_0 : decode method_2_code 0 = .ok (.iload_n 0, 1) := by decide +kernel
theorem d1_1 : decode method_2_code 1 = .ok (.iconst 1, 1) := by decide +kernel
theorem d1_2 : decode method_2_code 2 = .ok (.iand, 1) := by decide +kernel
theorem d1_3 : decode method_2_code 3 = .ok (.ifCond .eq 14, 3) := by decide +kernel
theorem d1_6 : decode method_2_code 6 = .ok (.bipush 48, 2) := by decide +kernel
theorem d1_8 : decode method_2_code 8 = .ok (.iload_n 0, 1) := by decide +kernel
theorem d1_9 : decode method_2_code 9 = .ok (.iconst 1, 1) := by decide +kernel
theorem d1_10 : decode method_2_code 10 = .ok (.iushr, 1) := by decide +kernel
theorem d1_11 : decode method_2_code 11 = .ok (.bipush 7, 2) := by decide +kernel
theorem d1_13 : decode method_2_code 13 = .ok (.iand, 1) := by decide +kernel
theorem d1_14 : decode method_2_code 14 = .ok (.iadd, 1) := by decide +kernel
theorem d1_15 : decode method_2_code 15 = .ok (.i2c, 1) := by decide +kernel
theorem d1_16 : decode method_2_code 16 = .ok (.ireturn, 1) := by decide +kernel
theorem d1_17 : decode method_2_code 17 = .ok (.iload_n 0, 1) := by decide +kernel
theorem d1_18 : decode method_2_code 18 = .ok (.iconst 1, 1) := by decide +kernel
theorem d1_19 : decode method_2_code 19 = .ok (.iushr, 1) := by decide +kernel
theorem d1_20 : decode method_2_code 20 = .ok (.sipush 255, 3) := by decide +kernel
theorem d1_23 : decode method_2_code 23 = .ok (.iand, 1) := by decide +kernel
theorem d1_24 : decode method_2_code 24 = .ok (.i2c, 1) := by decide +kernel
theorem d1_25 : decode method_2_code 25 = .ok (.ireturn, 1) := by decide +kernel
theorem pn_1 : plainName "com/example/stackwright/stackwright/CapacityAlternativeNumberedPinLaw" = true := by first | (simp [plainName, overriddenIn]; done) | decide +kernel
theorem ef_1 (m : MethodId) (p0 : Int32) : entryFrame m #[(.int p0)] 1 = mkF m 0 #[iv p0] [] := by first | (simp [entryFrame, mkF, argsToLocals, Value.category]; done) | rfl
def own_draw (p0 : Int32) : Int32 := (if (p0 &&& (1 : Int32)) = (0 : Int32) then (nar .char ((((p0.toUInt32 >>> ((1 : Int32) &&& 31).toUInt32).toInt32) &&& (255 : Int32)).toUInt32.toUInt16.toUInt32.toInt32)) else (nar .char (((48 : Int32) + (((p0.toUInt32 >>> ((1 : Int32) &&& 31).toUInt32).toInt32) &&& (7 : Int32))).toUInt32.toUInt16.toUInt32.toInt32)))
def Q1 (Z : State) (p0 : Int32) (h0 : Heap) (n0 : Nat) (v : Option Value) (h : Heap) (L : List Loc) : Prop := v = some (.int (own_draw p0)) ∧ Fr n0 L ∧ h = h0
theorem rm1 (l : Launch) (Z : State) (av0 : Array Value) (hw : ∀ d ∈ tables_1, d.before av0 Z = true) (ws : List Jvm.Cond) (p0 : Int32) (h0 : Heap) (n0 : Nat) (Z0 : n0 ≤ h0.size) :
    MetFree l own_m2 (head1 (Jvm.Cond.code own_m2 method_2_code 1 (some .char) :: ws) ({ frames := 0, cells := 0, slots := 0, locals := 0 } : Room)) (fun a U => a = #[(.int p0)] ∧ Z.Warmed39 U.vm ∧ U.heap = h0) (fun _ _ _ _ _ => True) (fun _ U o U' => ∃ v L, o = .returned v ∧ Q1 Z p0 h0 n0 v U'.heap L ∧ FrameEnd U o U' L ({ frames := 0, cells := 0, slots := 0, locals := 0 } : Room).cells ({ frames := 0, cells := 0, slots := 0, locals := 0 } : Room).slots) := by
  refine MetFree.of_bodySF (plainFor_of_name pn_1) hisR ?_
  intro p e s m args below meth c s₁ Bd hml0 hP hK
  obtain ⟨rfl, hZ, hh⟩ := hP
  have hx := Bd.exec
  have hby := Bd.bytes
  have hml : c.maxLocals = 1 := hml0
  have hown : s.vm.findClass "com/example/stackwright/stackwright/CapacityAlternativeNumberedPinLaw" = some m.cls := findClass_of_methodNamed Bd.named
  have X0 : Stand p l e ({ frames := 0, cells := 0, slots := 0, locals := 0 } : Room) s m #[(.int p0)] below meth c s₁ [] 0 0 := Stand.of_body Bd
  have e0 : s₁.heap = h0 := by rw [← hh, Bd.state]; rfl
  have N0 := Fr.nil n0
  have K0 : Keep h0 h0 [] := Keep.refl h0 []
  refine own_go (B := s₁.setTop (mkF m 0 #[iv p0] [])) (fun t k => castTop (ef_1 m p0) k) ?_
  refine own_go (B := s₁.setTop (mkF m 3 #[iv p0] [(.int (p0 &&& (1 : Int32)))])) (fun t k => ?_) ?_
  · refine XS.iloadN X0.here hx rfl (hb hby d1_0) rfl ?_
    refine XS.iconst X0.here hx rfl (hb hby d1_1) ?_
    refine XS.iand X0.here hx rfl (hb hby d1_2) rfl ?_
    exact k
  by_cases hc3 : (p0 &&& (1 : Int32)) = (0 : Int32)
  · refine own_go (B := s₁.setTop (mkF m 17 #[iv p0] [])) (fun t k => ?_) ?_
    · refine XS.ifYes X0.here hx rfl (pc0 := 3) (pc' := 17) rfl (hb hby d1_3) rfl ((if0 _ _).trans (teq hc3).1) (by decide) (by decide) ?_
      exact k
    refine own_go (B := s₁.setTop (mkF m 25 #[iv p0] [(.int ((((p0.toUInt32 >>> ((1 : Int32) &&& 31).toUInt32).toInt32) &&& (255 : Int32)).toUInt32.toUInt16.toUInt32.toInt32))])) (fun t k => ?_) ?_
    · refine XS.iloadN X0.here hx rfl (hb hby d1_17) rfl ?_
      refine XS.iconst X0.here hx rfl (hb hby d1_18) ?_
      refine XS.iushr X0.here hx rfl (hb hby d1_19) rfl ?_
      refine XS.sipush X0.here hx rfl (hb hby d1_20) ?_
      refine XS.iand X0.here hx rfl (hb hby d1_23) rfl ?_
      refine XS.i2c X0.here hx rfl (hb hby d1_24) rfl ?_
      exact k
    obtain ⟨fs, hr, hrun, hended, hW, hsame⟩ := X0.leave (v := some (.int (nar .char ((((p0.toUInt32 >>> ((1 : Int32) &&& 31).toUInt32).toInt32) &&& (255 : Int32)).toUInt32.toUInt16.toUInt32.toInt32)))) (fun h => by rw [Bd.returns] at h; cases h)
    refine ⟨_, _, ?_, hrun, hended, _, _, rfl, ?_, ⟨_, rfl⟩, hW, hsame.mono (by decide) (by decide)⟩
    · show Steps p.tables e below (s₁.setTop (mkF m 25 #[iv p0] [(.int ((((p0.toUInt32 >>> ((1 : Int32) &&& 31).toUInt32).toInt32) &&& (255 : Int32)).toUInt32.toUInt16.toUInt32.toInt32))])) _
      exact retN X0 hx (t := .char) Bd.returns (by simp) (hb hby d1_25) hr
    · show Q1 Z p0 h0 n0 _ s₁.heap _
      rw [e0]
      exact ⟨by simp only [own_draw, if_pos hc3], N0, rfl⟩
  · refine own_go (B := s₁.setTop (mkF m 6 #[iv p0] [])) (fun t k => ?_) ?_
    · refine XS.ifNo X0.here hx rfl (hb hby d1_3) rfl ((if0 _ _).trans (feq hc3).1) ?_
      exact k
    refine own_go (B := s₁.setTop (mkF m 16 #[iv p0] [(.int (((48 : Int32) + (((p0.toUInt32 >>> ((1 : Int32) &&& 31).toUInt32).toInt32) &&& (7 : Int32))).toUInt32.toUInt16.toUInt32.toInt32))])) (fun t k => ?_) ?_
    · refine XS.bipush X0.here hx rfl (hb hby d1_6) ?_
      refine XS.iloadN X0.here hx rfl (hb hby d1_8) rfl ?_
      refine XS.iconst X0.here hx rfl (hb hby d1_9) ?_
      refine XS.iushr X0.here hx rfl (hb hby d1_10) rfl ?_
      refine XS.bipush X0.here hx rfl (hb hby d1_11) ?_
      refine XS.iand X0.here hx rfl (hb hby d1_13) rfl ?_
      refine XS.iadd X0.here hx rfl (hb hby d1_14) rfl ?_
      refine XS.i2c X0.here hx rfl (hb hby d1_15) rfl ?_
      exact k
    obtain ⟨fs, hr, hrun, hended, hW, hsame⟩ := X0.leave (v := some (.int (nar .char (((48 : Int32) + (((p0.toUInt32 >>> ((1 : Int32) &&& 31).toUInt32).toInt32) &&& (7 : Int32))).toUInt32.toUInt16.toUInt32.toInt32)))) (fun h => by rw [Bd.returns] at h; cases h)
    refine ⟨_, _, ?_, hrun, hended, _, _, rfl, ?_, ⟨_, rfl⟩, hW, hsame.mono (by decide) (by decide)⟩
    · show Steps p.tables e below (s₁.setTop (mkF m 16 #[iv p0] [(.int (((48 : Int32) + (((p0.toUInt32 >>> ((1 : Int32) &&& 31).toUInt32).toInt32) &&& (7 : Int32))).toUInt32.toUInt16.toUInt32.toInt32))])) _
      exact retN X0 hx (t := .char) Bd.returns (by simp) (hb hby d1_16) hr
    · show Q1 Z p0 h0 n0 _ s₁.heap _
      rw [e0]
      exact ⟨by simp only [own_draw, if_neg hc3], N0, rfl⟩
theorem d8_0 : decode prog_3_method_4_code 0 = .ok (.aload_n 0, 1) := by decide +kernel
theorem d8_1 : decode prog_3_method_4_code 1 = .ok (.getfield 32, 3) := by decide +kernel
theorem d8_4 : decode prog_3_method_4_code 4 = .ok (.areturn, 1) := by decide +kernel
theorem pn_8 : plainName "com/example/stackwright/stackwright/CapacityAlternative" = true := by first | (simp [plainName, overriddenIn]; done) | decide +kernel
theorem ef_num (m : MethodId) (a0 : Addr) : entryFrame m #[(.ref a0)] 1 = mkF m 0 #[rv a0] [] := by first | (simp [entryFrame, mkF, argsToLocals, Value.category]; done) | rfl
def Qnum (Z : State) (a0 : Addr) (t0 : Addr) (h0 : Heap) (n0 : Nat) (v : Option Value) (h : Heap) (L : List Loc) : Prop := v = some (.ref t0) ∧ Fr n0 L ∧ h = h0
theorem rmnum (l : Launch) (Z : State) (av0 : Array Value) (hw : ∀ d ∈ tables_1, d.before av0 Z = true) (ws : List Jvm.Cond) (a0 : Addr) (t0 : Addr) (h0 : Heap) (n0 : Nat) (Z0 : n0 ≤ h0.size) (F_number_a0 : Fld Z h0 a0 "com/example/stackwright/stackwright/CapacityAlternative" "number" "Ljava/lang/String;" (.ref t0)) :
    MetFree l own_m9 (head1 (Jvm.Cond.code own_m9 prog_3_method_4_code 1 (some (.object "java/lang/String")) :: ws) ({ frames := 0, cells := 0, slots := 0, locals := 0 } : Room)) (fun a U => a = #[(.ref a0)] ∧ Z.Warmed39 U.vm ∧ U.heap = h0) (fun _ _ _ _ _ => True) (fun _ U o U' => ∃ v L, o = .returned v ∧ Qnum Z a0 t0 h0 n0 v U'.heap L ∧ FrameEnd U o U' L ({ frames := 0, cells := 0, slots := 0, locals := 0 } : Room).cells ({ frames := 0, cells := 0, slots := 0, locals := 0 } : Room).slots) := by
  refine MetFree.of_bodySF (plainFor_of_name pn_8) hisR ?_
  intro p e s m args below meth c s₁ Bd hml0 hP hK
  obtain ⟨rfl, hZ, hh⟩ := hP
  have hx := Bd.exec
  have hby := Bd.bytes
  have hml : c.maxLocals = 1 := hml0
  have hown : s.vm.findClass "com/example/stackwright/stackwright/CapacityAlternative" = some m.cls := findClass_of_methodNamed Bd.named
  have X0 : Stand p l e ({ frames := 0, cells := 0, slots := 0, locals := 0 } : Room) s m #[(.ref a0)] below meth c s₁ [] 0 0 := Stand.of_body Bd
  have e0 : s₁.heap = h0 := by rw [← hh, Bd.state]; rfl
  have N0 := Fr.nil n0
  have K0 : Keep h0 h0 [] := Keep.refl h0 []
  refine own_go (B := s₁.setTop (mkF m 0 #[rv a0] [])) (fun t k => castTop (ef_num m a0) k) ?_
  refine own_go (B := s₁.setTop (mkF m 1 #[rv a0] [(.ref a0)])) (fun t k => ?_) ?_
  · refine XS.aloadN X0.here hx rfl (hb hby d8_0) rfl rfl ?_
    exact k
  obtain ⟨T_1, X_1, e_1, st_1⟩ := getF X0 hx hZ hown (host := "") (Or.inl (own_w hw 62 rfl)) Via.refl e0 F_number_a0 (g := (mkF m 1 #[rv a0] [(.ref a0)])) rfl rfl (hb hby d8_1)
  refine own_go (fun t k => st_1 t k) ?_
  obtain ⟨fs, hr, hrun, hended, hW, hsame⟩ := X_1.leave (v := some (.ref t0)) (fun h => by rw [Bd.returns] at h; cases h)
  refine ⟨_, _, ?_, hrun, hended, _, _, rfl, ?_, ⟨_, rfl⟩, hW, hsame.mono (by decide) (by decide)⟩
  · show Steps p.tables e below (T_1.setTop (mkF m 4 #[rv a0] [(.ref t0)])) _
    jvm_step X_1.here [X_1.here.top, hx, (hb hby d8_4), X_1.method', Bd.returns, Value.isRef, FieldType.isReference]
    first | (intro acts; rw [hr _ acts rfl rfl rfl]) | rw [hr _ _ rfl rfl rfl]
    exact Steps.refl _
  · show Qnum Z a0 t0 h0 n0 _ T_1.heap _
    rw [e_1]
    exact ⟨rfl, N0, rfl⟩
abbrev own_CA : String := "com/example/stackwright/stackwright/CapacityAlternative"
abbrev own_CV : String := "com/example/stackwright/stackwright/CsvNames"
abbrev own_mN : MethodName := own_m6
abbrev own_mM : MethodName := own_m9
abbrev own_xi : MethodName := ⟨"java/util/function/Function", "apply", "(Ljava/lang/Object;)Ljava/lang/Object;"⟩
abbrev own_mB : ByteArray := prog_3_method_4_code
abbrev own_sg : Jvm.Lambda.Shape := (Jvm.Lambda.Shape.mk "java/util/function/Function" "apply" (Jvm.ClassFile.MethodDescriptor.mk ([(Jvm.ClassFile.FieldType.object "java/lang/Object")] : List Jvm.ClassFile.FieldType) (Option.some (Jvm.ClassFile.FieldType.object "java/lang/Object"))) ([] : List Jvm.ClassFile.FieldType) (5 : Nat) "com/example/stackwright/stackwright/CapacityAlternative" "number" (Jvm.ClassFile.MethodDescriptor.mk ([] : List Jvm.ClassFile.FieldType) (Option.some (Jvm.ClassFile.FieldType.object "java/lang/String"))) false (Jvm.ClassFile.MethodDescriptor.mk ([(Jvm.ClassFile.FieldType.object "com/example/stackwright/stackwright/CapacityAlternative")] : List Jvm.ClassFile.FieldType) (Option.some (Jvm.ClassFile.FieldType.object "java/lang/String"))))
def own_fc : ByteArray := ⟨#[0x2b, 0xc0, 0x00, 0x0e, 0xb6, 0x00, 0x12, 0xb0]⟩
theorem own_f0 : decode own_fc 0 = .ok (.aload_n 1, 1) := by decide +kernel
theorem own_f1 : decode own_fc 1 = .ok (.checkcast 14, 3) := by decide +kernel
theorem own_f4 : decode own_fc 4 = .ok (.invokevirtual 18, 3) := by decide +kernel
theorem own_f7 : decode own_fc 7 = .ok (.areturn, 1) := by decide +kernel
theorem own_fok : Jvm.LamKit.fwdOK own_sg own_CA own_fc 2 (some (.object "java/lang/Object")) 18 14 = true := by decide +kernel
def own_LS (Z : State) (f : Addr) : Prop := ∃ (m0 : MethodId) (k : Class) (i0 p0 : Nat), Z.methodNamed? own_mN = some m0 ∧ Z.vm.classes[m0.cls]? = some k ∧ (k.callSites.find? fun y => y.1 == m0.idx && y.2.1 == 3) = some (i0, p0, .constant f)
theorem own_lam {Z : State} {a0 : Array Value} (w : (Jvm.Cond.lambdaSite own_mN 3 40 own_sg).before a0 Z = true) : ∃ (f : Addr) (cK : ClassId), own_LS Z f ∧ Jvm.LamKit.Made Z own_CA own_sg cK ∧ Jvm.LamKit.FnAt Z.heap f cK := by
  obtain ⟨cK, one, hat⟩ := Cond.lambdaSite_spec w
  obtain ⟨mD, kD, cfD, i0, p0, lk, hmD, hkD, -, -, -, hfind, hmade, hcan, hl⟩ := State.lambdaAt?_spec hat
  obtain ⟨kD', hkD', hnameD⟩ := className_of_methodNamed hmD
  cases hkD.symm.trans hkD'
  rcases hl with ⟨a, cell, rfl, -, -, hcell, hcls, hvm, -⟩ | ⟨-, -, hne⟩
  · exact ⟨a, cK, ⟨mD, kD, i0, p0, hmD, hkD, hfind⟩, ⟨mD.cls, kD, hkD, hnameD, hmade, hcan⟩, ⟨cell, hcell, hcls, hvm⟩⟩
  · exact absurd rfl hne
theorem own_fnk {h h' : Heap} {f : Addr} {cK : ClassId} {ws : List Addr} (F : Jvm.LamKit.FnAt h f cK) (K : Keep h h' ws) : Jvm.LamKit.FnAt h' f cK := by
  obtain ⟨cell, h1, h2, h3⟩ := F
  obtain ⟨c', q1, q2, q3, -⟩ := K.2.2 _ _ h1
  exact ⟨c', q1, by rw [q2]; exact h2, by rw [q3]; exact h3⟩
theorem own_nmd {Z U : State} (hal : Z.vm.Alike U.vm) (x : MethodName) : U.methodNamed? x = Z.methodNamed? x := State.methodNamed?_setVm (s := Z) hal x
theorem own_fnx {xi : MethodName} {cF : ClassId} {mk : MethodId} {U U' : State} (hal : U.vm.Alike U'.vm) (h : Jvm.Free.HMW.FnX xi cF mk U) : Jvm.Free.HMW.FnX xi cF mk U' := by
  obtain ⟨kF, methK, h1, h2, h3, h4, h5⟩ := h
  obtain ⟨kF', h1', -⟩ := hal.2.2 _ _ h1
  refine ⟨kF', methK, h1', by rw [hal.method?]; exact h2, h3, h4, fun r0 r hn hr => ?_⟩
  rw [own_nmd hal] at hn
  rw [hal.method?] at hr
  obtain ⟨a1, a2, a3⟩ := h5 r0 r hn hr
  refine ⟨by rw [hal.assignable]; exact a1, by rw [hal.selectMethod]; exact a2, ?_⟩
  simp only [hal.superclasses, hal.declaredIn]
  exact a3
theorem own_cR {Z U : State} (hU : Z.Warmed39 U.vm) {c i d : Nat} (h : Z.vm.classReady c i d) : U.vm.classReady c i d := by
  obtain ⟨k, hk, hr⟩ := h
  obtain ⟨k', hk', -, -, hres, -⟩ := hU.2.2.2 _ _ hk
  refine ⟨k', hk', ?_⟩
  rcases hres i with q | ⟨q, -⟩
  · rw [q]; exact hr
  · rw [hr] at q; cases q
theorem own_mR {Z U : State} (hU : Z.Warmed39 U.vm) {c i : Nat} {d : MethodId} (h : Z.vm.methodReady c i d) : U.vm.methodReady c i d := by
  obtain ⟨k, hk, hr⟩ := h
  obtain ⟨k', hk', -, -, hres, -⟩ := hU.2.2.2 _ _ hk
  refine ⟨k', hk', ?_⟩
  rcases hres i with q | ⟨q, -⟩
  · rw [q]; exact hr
  · rw [hr] at q; cases q
section Lam
variable {p : Program} {l : Launch} {e : Env} {R : Room} {s : State} {m : MethodId} {args : Array Value} {below : List Frame} {meth : Method} {c : Code} {T : State} {locs : List Loc} {cells slots : Nat} {Z : State}
theorem own_site (X : Stand p l e R s m args below meth c T locs cells slots) (hx : p.tables.exec = Jvm.exec) (hZ : Z.Warmed39 s.vm) (hn : s.methodNamed? own_mN = some m) {f : Addr} (LS : own_LS Z f) {g : JFrame} (hg : g.method = m) (hpc : g.pc = 3) (hsize : g.locals.size = c.maxLocals)
    (hd : decode c.code g.pc = .ok (.invokedynamic 40, 5)) (hwords : 2 * g.monitorRoom + (g.stack.map fun v => v.category).sum + 3072 ≤ R.locals) : ∀ target, Steps p.tables e below (T.setTop { g with pc := g.pc + 5, stack := .ref f :: g.stack }) target → Steps p.tables e below (T.setTop g) target := by
  intro target h
  obtain ⟨m0, k, i0, p0, h1, h2, h3⟩ := LS
  rw [own_nmd hZ.alike, h1] at hn
  cases hn
  obtain ⟨k', hk', he⟩ := hZ.alike.2.2 _ _ h2
  have hq : e.platform.lambdaLinkWords = 3072 := by rw [X.admits.platform]
  exact X.lambdaConstant hx hg hsize hd hk' (by rw [he, hpc]; exact h3) (by rw [hq]; exact hwords) h
theorem own_castN (X : Stand p l e R s m args below meth c T locs cells slots) (hx : p.tables.exec = Jvm.exec) {index : Nat} {g : JFrame} (hg : g.method = m) {rest : List Value} (hs : g.stack = .null :: rest) (hd : decode c.code g.pc = .ok (.checkcast index, 3)) : ∀ target, Steps p.tables e below (T.setTop { g with pc := g.pc + 3 }) target → Steps p.tables e below (T.setTop g) target := X.checkcastNull hx hg hs hd
theorem own_apply {av0 : Array Value} {h : Heap} {n0 : Nat} (X : Stand p l e R s m args below meth c T locs cells slots) (hx : p.tables.exec = Jvm.exec) (hZ : Z.Warmed39 s.vm) (hw : ∀ d ∈ tables_1, d.before av0 Z = true) (hown : s.vm.findClass own_CV = some m.cls)
    {cK : ClassId} {f a t : Addr} (LM : Jvm.LamKit.Made Z own_CA own_sg cK) (eT : T.heap = h) (LF : Jvm.LamKit.FnAt h f cK) (E : Exa Z h a own_CA) (F : Fld Z h a own_CA "number" "Ljava/lang/String;" (.ref t)) (Z0 : n0 ≤ h.size) (hfr : 2 ≤ R.frames) (hlo : 33 ≤ R.locals) (hcl : cells ≤ R.cells) (hsl : slots ≤ R.slots)
    {g : JFrame} (hg : g.method = m) (hsize : g.locals.size = c.maxLocals) (hs : g.stack = [.ref a, .ref f]) (hmo : g.monitorRoom = 0) (hd : decode c.code g.pc = .ok (.invokeinterface 48 2, 5)) :
    ∃ (T' : State) (L : List Loc), Stand p l e R s m args below meth c T' (locs ++ L) cells slots ∧ Fr n0 L ∧ T'.heap = h ∧ ∀ target, Steps p.tables e below (T'.setTop { g with pc := g.pc + 5, stack := [.ref t] }) target → Steps p.tables e below (T.setTop g) target := by
  obtain ⟨d, dk, hdk, hdn, hmade, hcan⟩ := id LM
  obtain ⟨kK, tk, file, methk, ck, toy, tm, nt, hkK, hpn, hfile, hidx, hnt, hmk, hck, hbytes, hml, hlk, hfl, hret, htoy, htk, hlook, hready, hclsR⟩ := Jvm.LamKit.made_static own_fok hdk hdn hmade
  have hitf : tk.isInterface = false := by
    obtain ⟨-, -, -, tk2, -, -, -, -, t2, -, -, -, -, -, -, -, -, -, -, -, -, -, ht2, htk2, -, -, -, -, -, -, hi2, -⟩ := Lambda.isMade_spec hmade
    cases htoy.symm.trans ht2
    cases htk.symm.trans htk2
    exact hi2
  have hcd : (Jvm.Cond.code own_mM own_mB 1 (some (.object "java/lang/String"))).before av0 Z = true := (own_w hw 61 rfl)
  obtain ⟨tN, hnN⟩ := Cond.code_named hcd
  have hts : MethodDescriptor.toString own_sg.implDesc = "()Ljava/lang/String;" := by decide +kernel
  rw [hts] at hlook
  have et : tm = tN := Except.ok.inj (hlook.symm.trans (Jvm.Free.Fw.look_of_named hnN (by decide) _ _ htoy htk))
  subst et
  obtain ⟨cell, kc, hc1, hc2, hc3, hc4, -⟩ := id E
  obtain rfl : toy = cell.cls := Option.some.inj (htoy.symm.trans hc2)
  have hns : ∀ q, cell.vm ≠ .statics q := fun q e1 => by rw [e1] at hc4; cases hc4
  have hfn : Jvm.Free.HMW.FnX own_xi cK ⟨cK, 1⟩ s := own_fnx hZ.alike (Jvm.LamKit.madeSelects LM own_fok (args := av0) (xi := own_xi) (own_w hw 57 rfl) ⟨rfl, rfl, by decide +kernel⟩)
  have hK := Jvm.Free.Fw.cap0p1cVR (l := l) (p := p) (e := e) hx (Rm := R) (R' := { frames := 1, cells := 0, slots := 0, locals := 20 }) (below' := below) (s' := s) (sargs' := args) (cK := cK) (mi := 18) (ci1 := 14) (cT1 := cell.cls) (cB := cell.cls) (y := own_mM) (methk := methk) (ck := ck) (len := 5) (W := 0)
    (by rw [hbytes]; exact own_f0) (by rw [hbytes]; exact own_f1) (by rw [hbytes]; exact own_f4) (by rw [hbytes]; exact own_f7)
    (fun U hWU => by
      have hU : Z.Warmed39 U.vm := wtrans hZ hWU
      obtain ⟨kK', hkK', heK⟩ := hU.alike.2.2 _ _ hkK
      obtain ⟨tk', htk', heT⟩ := hU.alike.2.2 _ _ htk
      refine ⟨⟨by rw [hU.alike.method?]; exact hmk, hck, hlk, State.plainMethod.of_name (fun k' hk' => by cases hkK'.symm.trans hk'; rw [heK]; exact hpn), hml, hret⟩, own_cR hU hclsR, ?_⟩
      exact Jvm.Free.Fw.VirtualAt.of_made X.admits (y := own_mM) (ci := 14) (nt := nt) hkK' (by rw [heK]; exact hfile) hidx (own_mR hU hready) (own_cR hU hclsR) (by rw [hU.alike.findClass]; exact htoy) htk' (by rw [heT]; exact hitf) (by rw [own_nmd hU.alike]; exact hnN) (by decide)
        (mv hU hcd) (mv hU (own_w hw 60 rfl)) (mv hU (own_w hw 59 rfl)) (sig := ⟨[], some (.object "java/lang/String")⟩) (by decide +kernel) rfl)
    (fun U g' a' hWU => backOf (rm := ({ frames := 0, cells := 0, slots := 0, locals := 0 } : Room)) (Q := fun v h' L => v = some (.ref t) ∧ Fr n0 L ∧ h' = h) (as' := #[.ref a]) (rmnum l Z av0 hw [] a t h n0 Z0 F) (show Z.Warmed39 U.vm from wtrans hZ hWU) hcd (own_w hw 28 rfl) (by decide) (by decide))
    (fun A a' v B _ hp => by
      obtain ⟨L, ⟨rfl, -⟩, -⟩ := hp
      exact ⟨_, rfl, rfl⟩)
    (by show 1 + 1 ≤ R.frames; omega) (by show 0 + (2 + 11) + 20 ≤ R.locals; omega)
  obtain ⟨fc, hf1, hf2, hf3⟩ := LF
  obtain ⟨v, vm1, ⟨T', L', c', n'⟩, hW1, X', ⟨ra, U0, U1, L1, c1, n1, q1, q2, q3, ⟨L2, ⟨rfl, hN, hh⟩, b1, b2, b3⟩, q5, q6, q7, q8, q9⟩, st⟩ := X.fnAt hx (own := own_CV) (index := 48) (count := 2) (xi := own_xi) hown
    (fun w hq => by
      simp only [Jvm.Free.Fn.fnW, List.mem_cons, List.not_mem_nil, or_false] at hq
      rcases hq with rfl | rfl | rfl
      · exact mv hZ (own_w hw 55 rfl)
      · exact mv hZ (own_w hw 56 rfl)
      · exact mv hZ (own_w hw 57 rfl)) (by decide) hfn hK (fun _ _ => rfl) (b := f) ⟨fc, by rw [eT]; exact hf1, hf2, by rw [hf3]; rfl⟩ (g := g) hg hsize (Steps.refl _) (argsL := [.ref a]) (rest := [])
    (fun sig hsg => by rw [show parseMethodDescriptor own_xi.desc = some ⟨[.object "java/lang/Object"], some (.object "java/lang/Object")⟩ from by decide +kernel] at hsg; rw [← Option.some.inj hsg]; rfl) hs (by rw [hmo]; exact Nat.le_refl _) hd
    (fun vm1 hW1 => by
      have hU : Z.Warmed39 vm1 := wtrans (U := T.setVm vm1) hZ hW1
      obtain ⟨ks, hks, -⟩ := hU.alike.2.2 _ _ hc3
      exact ⟨f, a, cell, rfl, by show T.heap[a]? = _; rw [eT]; exact hc1, rfl, hns, Or.inr ⟨a, cell, ks, ks, rfl, by show T.heap[a]? = _; rw [eT]; exact hc1, hns, hks, hks, Vm.assignable_self _ _⟩, by show cells + 0 ≤ _; exact hcl, by show slots + 0 ≤ _; exact hsl,
        fun U0 e1 e2 => ⟨rfl, by show U0.heap = h; rw [e2]; exact eT, Nat.le_refl _, Nat.le_refl _⟩⟩)
  dsimp only [Pt.U, Pt.locs, Pt.cells, Pt.slots] at X' st hh b1 b2 b3 q5 q6 q7 q8 q9
  subst b1 b2 b3 q7 q8 q9
  exact ⟨T', _, X', hN, by rw [q5]; exact hh, fun target k => st.trans k⟩
end Lam
theorem d6_0 : decode prog_3_method_1_code 0 = .ok (.getstatic 13, 3) := by decide +kernel
theorem d6_3 : decode prog_3_method_1_code 3 = .ok (.invokevirtual 17, 3) := by decide +kernel
theorem d6_6 : decode prog_3_method_1_code 6 = .ok (.checkcast 18, 3) := by decide +kernel
theorem d6_9 : decode prog_3_method_1_code 9 = .ok (.areturn, 1) := by decide +kernel
theorem pn_6 : plainName "com/example/stackwright/stackwright/CapacityAlternative" = true := by first | (simp [plainName, overriddenIn]; done) | decide +kernel
theorem ef_vals (m : MethodId)  : entryFrame m #[] 0 = mkF m 0 #[] [] := by first | (simp [entryFrame, mkF, argsToLocals, Value.category]; done) | rfl
def Qvals (Z : State) (s0 : Addr) (s1 : Addr) (s2 : Addr) (va : Addr) (kk : ClassId) (h0 : Heap) (n0 : Nat) (v : Option Value) (h : Heap) (L : List Loc) : Prop := ∃ b : Addr, v = some (.ref b) ∧ Fr n0 L ∧ Keep h0 h [] ∧ h0.size ≤ b ∧ Arv Z h b kk (.object "com/example/stackwright/stackwright/CapacityAlternative") (3 : Int32) [(.ref s0), (.ref s1), (.ref s2)] .null
theorem rmvals (l : Launch) (Z : State) (av0 : Array Value) (hw : ∀ d ∈ tables_1, d.before av0 Z = true) (ws : List Jvm.Cond) (s0 : Addr) (s1 : Addr) (s2 : Addr) (va : Addr) (kk : ClassId) (h0 : Heap) (n0 : Nat) (Z0 : n0 ≤ h0.size) (SV : Sta Z h0 "com/example/stackwright/stackwright/CapacityAlternative" "$VALUES" "[Lcom/example/stackwright/stackwright/CapacityAlternative;" (.ref va)) (VV : Arv Z h0 va kk (.object "com/example/stackwright/stackwright/CapacityAlternative") (3 : Int32) [(.ref s0), (.ref s1), (.ref s2)] .null) (EV : Exa Z h0 va "[Lcom/example/stackwright/stackwright/CapacityAlternative;") :
    MetFree l own_m7 (head1 (Jvm.Cond.code own_m7 prog_3_method_1_code 0 (some (.array (.object "com/example/stackwright/stackwright/CapacityAlternative"))) :: ws) ({ frames := 1, cells := 1, slots := 3, locals := 14 } : Room)) (fun a U => a = #[] ∧ Z.Warmed39 U.vm ∧ U.heap = h0) (fun _ _ _ _ _ => True) (fun _ U o U' => ∃ v L, o = .returned v ∧ Qvals Z s0 s1 s2 va kk h0 n0 v U'.heap L ∧ FrameEnd U o U' L ({ frames := 1, cells := 1, slots := 3, locals := 14 } : Room).cells ({ frames := 1, cells := 1, slots := 3, locals := 14 } : Room).slots) := by
  refine MetFree.of_bodySF (plainFor_of_name pn_6) hisR ?_
  intro p e s m args below meth c s₁ Bd hml0 hP hK
  obtain ⟨rfl, hZ, hh⟩ := hP
  have hx := Bd.exec
  have hby := Bd.bytes
  have hml : c.maxLocals = 0 := hml0
  have hown : s.vm.findClass "com/example/stackwright/stackwright/CapacityAlternative" = some m.cls := findClass_of_methodNamed Bd.named
  have X0 : Stand p l e ({ frames := 1, cells := 1, slots := 3, locals := 14 } : Room) s m #[] below meth c s₁ [] 0 0 := Stand.of_body Bd
  have e0 : s₁.heap = h0 := by rw [← hh, Bd.state]; rfl
  have N0 := Fr.nil n0
  have K0 : Keep h0 h0 [] := Keep.refl h0 []
  refine own_go (B := s₁.setTop (mkF m 0 #[] [])) (fun t k => castTop (ef_vals m ) k) ?_
  obtain ⟨T_1, X_1, e_1, st_1⟩ := getS2 X0 hx hZ hown (host := "") (Or.inl (own_w hw 33 rfl)) Via.refl e0 SV (g := (mkF m 0 #[] [])) rfl (hb hby d6_0)
  refine own_go (fun t k => st_1 t k) ?_
  obtain ⟨T_2, h_2, X_2, e_2, E_2, V_2, A_2, st_2⟩ := cloneH X_1 hx hZ hown (own_w hw 35 rfl) (own_w hw 36 rfl) (own_w hw 40 rfl) (own_w hw 38 rfl) (own_w hw 39 rfl) (own_w hw 41 rfl) e_1 VV.arh EV (g := (mkF m 3 #[] [(.ref va)])) rfl (by rw [hml]; rfl) rfl (hb hby d6_3) (by decide) (W := 0) (cap := 3) (by show 2 * 0 + _ ≤ _; exact Nat.le_of_eq rfl) (by decide) (by decide) (by decide) (by decide)
  obtain ⟨b_2, g_2⟩ : ∃ z, z = h0.size := ⟨_, rfl⟩
  rw [← g_2] at V_2 A_2 st_2
  have g_b_2 : n0 ≤ b_2 := Nat.le_trans Z0 (Nat.le_of_eq g_2.symm)
  have sz_b_2 : h0.size ≤ b_2 := Nat.le_trans K0.1 (Nat.le_of_eq g_2.symm)
  have ne_va_b_2 : va ≠ b_2 := Nat.ne_of_lt (Nat.lt_of_lt_of_le (VV).lt (Nat.le_of_eq g_2.symm))
  have c1 := K0.ext E_2
  have c2 := SV.ext E_2
  have c3 := VV.ext E_2
  have c4 := EV.ext E_2
  have Z0__2 : n0 ≤ h_2.size := Nat.le_trans Z0 E_2.1
  have V_b_2 : Arv Z h_2 b_2 kk (.object "com/example/stackwright/stackwright/CapacityAlternative") (3 : Int32) [(.ref s0), (.ref s1), (.ref s2)] .null := V_2
  refine own_go (fun t k => st_2 t k) ?_
  obtain ⟨T_3, X_3, e_3, st_3⟩ := castY X_2 hx hZ hown (own_w hw 46 rfl) e_2 (Ins.self A_2) (g := (mkF m 6 #[] [(.ref b_2)])) rfl rfl (hb hby d6_6)
  refine own_go (fun t k => st_3 t k) ?_
  obtain ⟨fs, hr, hrun, hended, hW, hsame⟩ := X_3.leave (v := some (.ref b_2)) (fun h => by rw [Bd.returns] at h; cases h)
  refine ⟨_, _, ?_, hrun, hended, _, _, rfl, ?_, ⟨_, rfl⟩, hW, hsame.mono (by decide) (by decide)⟩
  · show Steps p.tables e below (T_3.setTop (mkF m 9 #[] [(.ref b_2)])) _
    jvm_step X_3.here [X_3.here.top, hx, (hb hby d6_9), X_3.method', Bd.returns, Value.isRef, FieldType.isReference]
    first | (intro acts; rw [hr _ acts rfl rfl rfl]) | rw [hr _ _ rfl rfl rfl]
    exact Steps.refl _
  · show Qvals Z s0 s1 s2 va kk h0 n0 _ T_3.heap _
    rw [e_3]
    exact ⟨b_2, rfl, N0, c1, sz_b_2, V_b_2⟩
theorem d10_0 : decode jdk_43_method_13_code 0 = .ok (.aload_n 0, 1) := by decide +kernel
theorem d10_1 : decode jdk_43_method_13_code 1 = .ok (.arraylength, 1) := by decide +kernel
theorem d10_2 : decode jdk_43_method_13_code 2 = .ok (.aload_n 1, 1) := by decide +kernel
theorem d10_3 : decode jdk_43_method_13_code 3 = .ok (.arraylength, 1) := by decide +kernel
theorem d10_4 : decode jdk_43_method_13_code 4 = .ok (.if_icmp .ne 30, 3) := by decide +kernel
theorem d10_7 : decode jdk_43_method_13_code 7 = .ok (.iconst 0, 1) := by decide +kernel
theorem d10_8 : decode jdk_43_method_13_code 8 = .ok (.istore_n 2, 1) := by decide +kernel
theorem d10_9 : decode jdk_43_method_13_code 9 = .ok (.iload_n 2, 1) := by decide +kernel
theorem d10_10 : decode jdk_43_method_13_code 10 = .ok (.aload_n 0, 1) := by decide +kernel
theorem d10_11 : decode jdk_43_method_13_code 11 = .ok (.arraylength, 1) := by decide +kernel
theorem d10_12 : decode jdk_43_method_13_code 12 = .ok (.if_icmp .ge 20, 3) := by decide +kernel
theorem d10_15 : decode jdk_43_method_13_code 15 = .ok (.aload_n 0, 1) := by decide +kernel
theorem d10_16 : decode jdk_43_method_13_code 16 = .ok (.iload_n 2, 1) := by decide +kernel
theorem d10_17 : decode jdk_43_method_13_code 17 = .ok (.baload, 1) := by decide +kernel
theorem d10_18 : decode jdk_43_method_13_code 18 = .ok (.aload_n 1, 1) := by decide +kernel
theorem d10_19 : decode jdk_43_method_13_code 19 = .ok (.iload_n 2, 1) := by decide +kernel
theorem d10_20 : decode jdk_43_method_13_code 20 = .ok (.baload, 1) := by decide +kernel
theorem d10_21 : decode jdk_43_method_13_code 21 = .ok (.if_icmp .eq 5, 3) := by decide +kernel
theorem d10_24 : decode jdk_43_method_13_code 24 = .ok (.iconst 0, 1) := by decide +kernel
theorem d10_25 : decode jdk_43_method_13_code 25 = .ok (.ireturn, 1) := by decide +kernel
theorem d10_26 : decode jdk_43_method_13_code 26 = .ok (.iinc 2 1, 3) := by decide +kernel
theorem d10_29 : decode jdk_43_method_13_code 29 = .ok (.goto (-20), 3) := by decide +kernel
theorem d10_32 : decode jdk_43_method_13_code 32 = .ok (.iconst 1, 1) := by decide +kernel
theorem d10_33 : decode jdk_43_method_13_code 33 = .ok (.ireturn, 1) := by decide +kernel
theorem pn_10 : plainName "java/lang/StringLatin1" = true := by first | (simp [plainName, overriddenIn]; done) | decide +kernel
theorem ef_L1 (m : MethodId) (a0 : Addr) (a1 : Addr) : entryFrame m #[(.ref a0), (.ref a1)] 3 = mkF m 0 #[rv a0, rv a1, oU] [] := by first | (simp [entryFrame, mkF, argsToLocals, Value.category]; done) | rfl
def QL1 (Z : State) (a0 : Addr) (a1 : Addr) (k0 : ClassId) (k1 : ClassId) (cc : Int32) (ee : Int32) (h0 : Heap) (n0 : Nat) (v : Option Value) (h : Heap) (L : List Loc) : Prop := v = some (.int (own_e cc ee)) ∧ Fr n0 L ∧ h = h0
theorem rmL1 (l : Launch) (Z : State) (av0 : Array Value) (hw : ∀ d ∈ tables_1, d.before av0 Z = true) (ws : List Jvm.Cond) (a0 : Addr) (a1 : Addr) (k0 : ClassId) (k1 : ClassId) (cc : Int32) (ee : Int32) (h0 : Heap) (n0 : Nat) (Z0 : n0 ≤ h0.size) (V0 : Arv Z h0 a0 k0 .byte (1 : Int32) [(.int cc)] (.int 0)) (V1 : Arv Z h0 a1 k1 .byte (1 : Int32) [(.int ee)] (.int 0)) :
    MetFree l own_m11 (head1 (Jvm.Cond.code own_m11 jdk_43_method_13_code 3 (some .boolean) :: ws) ({ frames := 0, cells := 0, slots := 0, locals := 0 } : Room)) (fun a U => a = #[(.ref a0), (.ref a1)] ∧ Z.Warmed39 U.vm ∧ U.heap = h0) (fun _ _ _ _ _ => True) (fun _ U o U' => ∃ v L, o = .returned v ∧ QL1 Z a0 a1 k0 k1 cc ee h0 n0 v U'.heap L ∧ FrameEnd U o U' L ({ frames := 0, cells := 0, slots := 0, locals := 0 } : Room).cells ({ frames := 0, cells := 0, slots := 0, locals := 0 } : Room).slots) := by
  refine MetFree.of_bodySF (plainFor_of_name pn_10) hisR ?_
  intro p e s m args below meth c s₁ Bd hml0 hP hK
  obtain ⟨rfl, hZ, hh⟩ := hP
  have hx := Bd.exec
  have hby := Bd.bytes
  have hml : c.maxLocals = 3 := hml0
  have hown : s.vm.findClass "java/lang/StringLatin1" = some m.cls := findClass_of_methodNamed Bd.named
  have X0 : Stand p l e ({ frames := 0, cells := 0, slots := 0, locals := 0 } : Room) s m #[(.ref a0), (.ref a1)] below meth c s₁ [] 0 0 := Stand.of_body Bd
  have e0 : s₁.heap = h0 := by rw [← hh, Bd.state]; rfl
  have N0 := Fr.nil n0
  have K0 : Keep h0 h0 [] := Keep.refl h0 []
  refine own_go (B := s₁.setTop (mkF m 0 #[rv a0, rv a1, oU] [])) (fun t k => castTop (ef_L1 m a0 a1) k) ?_
  refine own_go (B := s₁.setTop (mkF m 1 #[rv a0, rv a1, oU] [(.ref a0)])) (fun t k => ?_) ?_
  · refine XS.aloadN X0.here hx rfl (hb hby d10_0) rfl rfl ?_
    exact k
  obtain ⟨cl_1, Ar_1, -, S_1, M_1, -, -⟩ := id V0
  refine own_go (B := s₁.setTop (mkF m 2 #[rv a0, rv a1, oU] [(.int 1)])) (fun t k => X0.arraylength hx (by rw [(e0 : _ = _)]; exact Ar_1.1) (State.isArrayOf_alike hZ.alike Ar_1.2.1) (g := (mkF m 1 #[rv a0, rv a1, oU] [(.ref a0)])) rfl rfl (hb hby d10_1) t (by rw [len_of S_1 M_1]; exact k)) ?_
  refine own_go (B := s₁.setTop (mkF m 3 #[rv a0, rv a1, oU] [(.ref a1), (.int 1)])) (fun t k => ?_) ?_
  · refine XS.aloadN X0.here hx rfl (hb hby d10_2) rfl rfl ?_
    exact k
  obtain ⟨cl_2, Ar_2, -, S_2, M_2, -, -⟩ := id V1
  refine own_go (B := s₁.setTop (mkF m 4 #[rv a0, rv a1, oU] [(.int 1), (.int 1)])) (fun t k => X0.arraylength hx (by rw [(e0 : _ = _)]; exact Ar_2.1) (State.isArrayOf_alike hZ.alike Ar_2.2.1) (g := (mkF m 3 #[rv a0, rv a1, oU] [(.ref a1), (.int 1)])) rfl rfl (hb hby d10_3) t (by rw [len_of S_2 M_2]; exact k)) ?_
  refine own_go (B := s₁.setTop (mkF m 7 #[rv a0, rv a1, oU] [])) (fun t k => ?_) ?_
  · refine XS.icmpNo X0.here hx rfl (hb hby d10_4) rfl (teq (by decide : (1 : Int32) = (1 : Int32))).2 ?_
    exact k
  refine own_go (B := s₁.setTop (mkF m 11 #[rv a0, rv a1, iv 0] [(.ref a0), (.int 0)])) (fun t k => ?_) ?_
  · refine XS.iconst X0.here hx rfl (hb hby d10_7) ?_
    refine XS.istoreN X0.here hx rfl (hb hby d10_8) rfl (l' := #[rv a0, rv a1, iv 0]) rfl ?_
    refine XS.iloadN X0.here hx rfl (hb hby d10_9) rfl ?_
    refine XS.aloadN X0.here hx rfl (hb hby d10_10) rfl rfl ?_
    exact k
  obtain ⟨cl_3, Ar_3, -, S_3, M_3, -, -⟩ := id V0
  refine own_go (B := s₁.setTop (mkF m 12 #[rv a0, rv a1, iv 0] [(.int 1), (.int 0)])) (fun t k => X0.arraylength hx (by rw [(e0 : _ = _)]; exact Ar_3.1) (State.isArrayOf_alike hZ.alike Ar_3.2.1) (g := (mkF m 11 #[rv a0, rv a1, iv 0] [(.ref a0), (.int 0)])) rfl rfl (hb hby d10_11) t (by rw [len_of S_3 M_3]; exact k)) ?_
  refine own_go (B := s₁.setTop (mkF m 15 #[rv a0, rv a1, iv 0] [])) (fun t k => ?_) ?_
  · refine XS.icmpNo X0.here hx rfl (hb hby d10_12) rfl (tlt (by decide : (0 : Int32) < (1 : Int32))).2.1 ?_
    exact k
  refine own_go (B := s₁.setTop (mkF m 17 #[rv a0, rv a1, iv 0] [(.int 0), (.ref a0)])) (fun t k => ?_) ?_
  · refine XS.aloadN X0.here hx rfl (hb hby d10_15) rfl rfl ?_
    refine XS.iloadN X0.here hx rfl (hb hby d10_16) rfl ?_
    exact k
  obtain ⟨cl_4, Ar_4, q_4, S_4, M_4, H_4, G_4⟩ := id V0
  have hin_4 : ¬ ((0 : Int32) < 0 ∨ cl_4.slots.size ≤ ((0 : Int32)).toNatClampNeg) := inb_of S_4 ⟨by decide, by decide⟩
  have hat_4 : cl_4.slots[((0 : Int32)).toNatClampNeg]? = some (.int cc) := H_4.at hin_4 rfl
  refine own_go (B := s₁.setTop (mkF m 18 #[rv a0, rv a1, iv 0] [(.int cc)])) (fun t k => X0.baloadBytes hx (j := (0 : Int32)) (v := (.int cc)) (by rw [(e0 : _ = _)]; exact Ar_4.1) (State.isArrayOf_alike hZ.alike Ar_4.2.1) Ar_4.2.2 hin_4 hat_4 (g := (mkF m 17 #[rv a0, rv a1, iv 0] [(.int 0), (.ref a0)])) rfl rfl (hb hby d10_17) t k) ?_
  refine own_go (B := s₁.setTop (mkF m 20 #[rv a0, rv a1, iv 0] [(.int 0), (.ref a1), (.int cc)])) (fun t k => ?_) ?_
  · refine XS.aloadN X0.here hx rfl (hb hby d10_18) rfl rfl ?_
    refine XS.iloadN X0.here hx rfl (hb hby d10_19) rfl ?_
    exact k
  obtain ⟨cl_5, Ar_5, q_5, S_5, M_5, H_5, G_5⟩ := id V1
  have hin_5 : ¬ ((0 : Int32) < 0 ∨ cl_5.slots.size ≤ ((0 : Int32)).toNatClampNeg) := inb_of S_5 ⟨by decide, by decide⟩
  have hat_5 : cl_5.slots[((0 : Int32)).toNatClampNeg]? = some (.int ee) := H_5.at hin_5 rfl
  refine own_go (B := s₁.setTop (mkF m 21 #[rv a0, rv a1, iv 0] [(.int ee), (.int cc)])) (fun t k => X0.baloadBytes hx (j := (0 : Int32)) (v := (.int ee)) (by rw [(e0 : _ = _)]; exact Ar_5.1) (State.isArrayOf_alike hZ.alike Ar_5.2.1) Ar_5.2.2 hin_5 hat_5 (g := (mkF m 20 #[rv a0, rv a1, iv 0] [(.int 0), (.ref a1), (.int cc)])) rfl rfl (hb hby d10_20) t k) ?_
  by_cases hc21 : cc = ee
  · refine own_go (B := s₁.setTop (mkF m 26 #[rv a0, rv a1, iv 0] [])) (fun t k => ?_) ?_
    · refine XS.icmpYes X0.here hx rfl (pc0 := 21) (pc' := 26) rfl (hb hby d10_21) rfl (teq hc21).1 (by decide) (by decide) ?_
      exact k
    refine own_go (B := s₁.setTop (mkF m 11 #[rv a0, rv a1, iv 1] [(.ref a0), (.int 1)])) (fun t k => ?_) ?_
    · refine XS.iinc X0.here hx rfl (hb hby d10_26) rfl (l' := #[rv a0, rv a1, iv 1]) rfl ?_
      refine XS.goto X0.here hx rfl (pc0 := 29) (pc' := 9) rfl (hb hby d10_29) (by decide) (by decide) ?_
      refine XS.iloadN X0.here hx rfl (hb hby d10_9) rfl ?_
      refine XS.aloadN X0.here hx rfl (hb hby d10_10) rfl rfl ?_
      exact k
    obtain ⟨cl_6, Ar_6, -, S_6, M_6, -, -⟩ := id V0
    refine own_go (B := s₁.setTop (mkF m 12 #[rv a0, rv a1, iv 1] [(.int 1), (.int 1)])) (fun t k => X0.arraylength hx (by rw [(e0 : _ = _)]; exact Ar_6.1) (State.isArrayOf_alike hZ.alike Ar_6.2.1) (g := (mkF m 11 #[rv a0, rv a1, iv 1] [(.ref a0), (.int 1)])) rfl rfl (hb hby d10_11) t (by rw [len_of S_6 M_6]; exact k)) ?_
    refine own_go (B := s₁.setTop (mkF m 32 #[rv a0, rv a1, iv 1] [])) (fun t k => ?_) ?_
    · refine XS.icmpYes X0.here hx rfl (pc0 := 12) (pc' := 32) rfl (hb hby d10_12) rfl (flt (by decide : ¬ ((1 : Int32) < (1 : Int32)))).2.1 (by decide) (by decide) ?_
      exact k
    refine own_go (B := s₁.setTop (mkF m 33 #[rv a0, rv a1, iv 1] [(.int 1)])) (fun t k => ?_) ?_
    · refine XS.iconst X0.here hx rfl (hb hby d10_32) ?_
      exact k
    obtain ⟨fs, hr, hrun, hended, hW, hsame⟩ := X0.leave (v := some (.int 1)) (fun h => by rw [Bd.returns] at h; cases h)
    refine ⟨_, _, ?_, hrun, hended, _, _, rfl, ?_, ⟨_, rfl⟩, hW, hsame.mono (by decide) (by decide)⟩
    · show Steps p.tables e below (s₁.setTop (mkF m 33 #[rv a0, rv a1, iv 1] [(.int 1)])) _
      exact retN X0 hx (t := .boolean) Bd.returns (by simp) (hb hby d10_33) hr
    · show QL1 Z a0 a1 k0 k1 cc ee h0 n0 _ s₁.heap _
      rw [e0]
      exact ⟨by simp only [own_e, if_pos hc21], N0, rfl⟩
  · refine own_go (B := s₁.setTop (mkF m 24 #[rv a0, rv a1, iv 0] [])) (fun t k => ?_) ?_
    · refine XS.icmpNo X0.here hx rfl (hb hby d10_21) rfl (feq hc21).1 ?_
      exact k
    refine own_go (B := s₁.setTop (mkF m 25 #[rv a0, rv a1, iv 0] [(.int 0)])) (fun t k => ?_) ?_
    · refine XS.iconst X0.here hx rfl (hb hby d10_24) ?_
      exact k
    obtain ⟨fs, hr, hrun, hended, hW, hsame⟩ := X0.leave (v := some (.int 0)) (fun h => by rw [Bd.returns] at h; cases h)
    refine ⟨_, _, ?_, hrun, hended, _, _, rfl, ?_, ⟨_, rfl⟩, hW, hsame.mono (by decide) (by decide)⟩
    · show Steps p.tables e below (s₁.setTop (mkF m 25 #[rv a0, rv a1, iv 0] [(.int 0)])) _
      exact retN X0 hx (t := .boolean) Bd.returns (by simp) (hb hby d10_25) hr
    · show QL1 Z a0 a1 k0 k1 cc ee h0 n0 _ s₁.heap _
      rw [e0]
      exact ⟨by simp only [own_e, if_neg hc21], N0, rfl⟩
theorem d10_34 : decode jdk_43_method_13_code 34 = .ok (.iconst 0, 1) := by decide +kernel
theorem d10_35 : decode jdk_43_method_13_code 35 = .ok (.ireturn, 1) := by decide +kernel
theorem ef_LN (m : MethodId) (a0 : Addr) (a1 : Addr) : entryFrame m #[(.ref a0), (.ref a1)] 3 = mkF m 0 #[rv a0, rv a1, oU] [] := by first | (simp [entryFrame, mkF, argsToLocals, Value.category]; done) | rfl
def QLN (Z : State) (a0 : Addr) (a1 : Addr) (k0 : ClassId) (k1 : ClassId) (cc : Int32) (z : Int32) (vs : List Value) (h0 : Heap) (n0 : Nat) (v : Option Value) (h : Heap) (L : List Loc) : Prop := v = some (.int 0) ∧ Fr n0 L ∧ h = h0
theorem rmLN (l : Launch) (Z : State) (av0 : Array Value) (hw : ∀ d ∈ tables_1, d.before av0 Z = true) (ws : List Jvm.Cond) (a0 : Addr) (a1 : Addr) (k0 : ClassId) (k1 : ClassId) (cc : Int32) (z : Int32) (vs : List Value) (h0 : Heap) (n0 : Nat) (Z0 : n0 ≤ h0.size) (V0 : Arv Z h0 a0 k0 .byte (1 : Int32) [(.int cc)] (.int 0)) (V1 : Arv Z h0 a1 k1 .byte z vs (.int 0)) (hz : ¬ ((1 : Int32) = z)) :
    MetFree l own_m11 (head1 (Jvm.Cond.code own_m11 jdk_43_method_13_code 3 (some .boolean) :: ws) ({ frames := 0, cells := 0, slots := 0, locals := 0 } : Room)) (fun a U => a = #[(.ref a0), (.ref a1)] ∧ Z.Warmed39 U.vm ∧ U.heap = h0) (fun _ _ _ _ _ => True) (fun _ U o U' => ∃ v L, o = .returned v ∧ QLN Z a0 a1 k0 k1 cc z vs h0 n0 v U'.heap L ∧ FrameEnd U o U' L ({ frames := 0, cells := 0, slots := 0, locals := 0 } : Room).cells ({ frames := 0, cells := 0, slots := 0, locals := 0 } : Room).slots) := by
  refine MetFree.of_bodySF (plainFor_of_name pn_10) hisR ?_
  intro p e s m args below meth c s₁ Bd hml0 hP hK
  obtain ⟨rfl, hZ, hh⟩ := hP
  have hx := Bd.exec
  have hby := Bd.bytes
  have hml : c.maxLocals = 3 := hml0
  have hown : s.vm.findClass "java/lang/StringLatin1" = some m.cls := findClass_of_methodNamed Bd.named
  have X0 : Stand p l e ({ frames := 0, cells := 0, slots := 0, locals := 0 } : Room) s m #[(.ref a0), (.ref a1)] below meth c s₁ [] 0 0 := Stand.of_body Bd
  have e0 : s₁.heap = h0 := by rw [← hh, Bd.state]; rfl
  have N0 := Fr.nil n0
  have K0 : Keep h0 h0 [] := Keep.refl h0 []
  refine own_go (B := s₁.setTop (mkF m 0 #[rv a0, rv a1, oU] [])) (fun t k => castTop (ef_LN m a0 a1) k) ?_
  refine own_go (B := s₁.setTop (mkF m 1 #[rv a0, rv a1, oU] [(.ref a0)])) (fun t k => ?_) ?_
  · refine XS.aloadN X0.here hx rfl (hb hby d10_0) rfl rfl ?_
    exact k
  obtain ⟨cl_1, Ar_1, -, S_1, M_1, -, -⟩ := id V0
  refine own_go (B := s₁.setTop (mkF m 2 #[rv a0, rv a1, oU] [(.int 1)])) (fun t k => X0.arraylength hx (by rw [(e0 : _ = _)]; exact Ar_1.1) (State.isArrayOf_alike hZ.alike Ar_1.2.1) (g := (mkF m 1 #[rv a0, rv a1, oU] [(.ref a0)])) rfl rfl (hb hby d10_1) t (by rw [len_of S_1 M_1]; exact k)) ?_
  refine own_go (B := s₁.setTop (mkF m 3 #[rv a0, rv a1, oU] [(.ref a1), (.int 1)])) (fun t k => ?_) ?_
  · refine XS.aloadN X0.here hx rfl (hb hby d10_2) rfl rfl ?_
    exact k
  obtain ⟨cl_2, Ar_2, -, S_2, M_2, -, -⟩ := id V1
  refine own_go (B := s₁.setTop (mkF m 4 #[rv a0, rv a1, oU] [(.int z), (.int 1)])) (fun t k => X0.arraylength hx (by rw [(e0 : _ = _)]; exact Ar_2.1) (State.isArrayOf_alike hZ.alike Ar_2.2.1) (g := (mkF m 3 #[rv a0, rv a1, oU] [(.ref a1), (.int 1)])) rfl rfl (hb hby d10_3) t (by rw [len_of S_2 M_2]; exact k)) ?_
  refine own_go (B := s₁.setTop (mkF m 34 #[rv a0, rv a1, oU] [])) (fun t k => ?_) ?_
  · refine XS.icmpYes X0.here hx rfl (pc0 := 4) (pc' := 34) rfl (hb hby d10_4) rfl (feq hz).2 (by decide) (by decide) ?_
    exact k
  refine own_go (B := s₁.setTop (mkF m 35 #[rv a0, rv a1, oU] [(.int 0)])) (fun t k => ?_) ?_
  · refine XS.iconst X0.here hx rfl (hb hby d10_34) ?_
    exact k
  obtain ⟨fs, hr, hrun, hended, hW, hsame⟩ := X0.leave (v := some (.int 0)) (fun h => by rw [Bd.returns] at h; cases h)
  refine ⟨_, _, ?_, hrun, hended, _, _, rfl, ?_, ⟨_, rfl⟩, hW, hsame.mono (by decide) (by decide)⟩
  · show Steps p.tables e below (s₁.setTop (mkF m 35 #[rv a0, rv a1, oU] [(.int 0)])) _
    exact retN X0 hx (t := .boolean) Bd.returns (by simp) (hb hby d10_35) hr
  · show QLN Z a0 a1 k0 k1 cc z vs h0 n0 _ s₁.heap _
    rw [e0]
    exact ⟨rfl, N0, rfl⟩
theorem d9_0 : decode jdk_42_method_66_code 0 = .ok (.aload_n 0, 1) := by decide +kernel
theorem d9_1 : decode jdk_42_method_66_code 1 = .ok (.aload_n 1, 1) := by decide +kernel
theorem d9_2 : decode jdk_42_method_66_code 2 = .ok (.if_acmp .ne 5, 3) := by decide +kernel
theorem d9_7 : decode jdk_42_method_66_code 7 = .ok (.aload_n 1, 1) := by decide +kernel
theorem d9_8 : decode jdk_42_method_66_code 8 = .ok (.instanceof 10, 3) := by decide +kernel
theorem d9_11 : decode jdk_42_method_66_code 11 = .ok (.ifCond .eq 43, 3) := by decide +kernel
theorem d9_14 : decode jdk_42_method_66_code 14 = .ok (.aload_n 1, 1) := by decide +kernel
theorem d9_15 : decode jdk_42_method_66_code 15 = .ok (.checkcast 10, 3) := by decide +kernel
theorem d9_18 : decode jdk_42_method_66_code 18 = .ok (.astore_n 2, 1) := by decide +kernel
theorem d9_19 : decode jdk_42_method_66_code 19 = .ok (.getstatic 38, 3) := by decide +kernel
theorem d9_22 : decode jdk_42_method_66_code 22 = .ok (.ifCond .eq 14, 3) := by decide +kernel
theorem d9_25 : decode jdk_42_method_66_code 25 = .ok (.aload_n 0, 1) := by decide +kernel
theorem d9_26 : decode jdk_42_method_66_code 26 = .ok (.getfield 15, 3) := by decide +kernel
theorem d9_29 : decode jdk_42_method_66_code 29 = .ok (.aload_n 2, 1) := by decide +kernel
theorem d9_30 : decode jdk_42_method_66_code 30 = .ok (.getfield 15, 3) := by decide +kernel
theorem d9_33 : decode jdk_42_method_66_code 33 = .ok (.if_icmp .ne 21, 3) := by decide +kernel
theorem d9_36 : decode jdk_42_method_66_code 36 = .ok (.aload_n 0, 1) := by decide +kernel
theorem d9_37 : decode jdk_42_method_66_code 37 = .ok (.getfield 9, 3) := by decide +kernel
theorem d9_40 : decode jdk_42_method_66_code 40 = .ok (.aload_n 2, 1) := by decide +kernel
theorem d9_41 : decode jdk_42_method_66_code 41 = .ok (.getfield 9, 3) := by decide +kernel
theorem d9_44 : decode jdk_42_method_66_code 44 = .ok (.invokestatic 541, 3) := by decide +kernel
theorem d9_47 : decode jdk_42_method_66_code 47 = .ok (.ifCond .eq 7, 3) := by decide +kernel
theorem d9_50 : decode jdk_42_method_66_code 50 = .ok (.iconst 1, 1) := by decide +kernel
theorem d9_51 : decode jdk_42_method_66_code 51 = .ok (.goto 4, 3) := by decide +kernel
theorem d9_54 : decode jdk_42_method_66_code 54 = .ok (.iconst 0, 1) := by decide +kernel
theorem d9_55 : decode jdk_42_method_66_code 55 = .ok (.ireturn, 1) := by decide +kernel
theorem pn_9 : plainName "java/lang/String" = true := by first | (simp [plainName, overriddenIn]; done) | decide +kernel
theorem ef_E1 (m : MethodId) (a0 : Addr) (a1 : Addr) : entryFrame m #[(.ref a0), (.ref a1)] 3 = mkF m 0 #[rv a0, rv a1, oU] [] := by first | (simp [entryFrame, mkF, argsToLocals, Value.category]; done) | rfl
theorem pd_0 : parseMethodDescriptor "([B[B)Z" = some ⟨[(.array .byte), (.array .byte)], some .boolean⟩ := by decide +kernel
def QE1 (Z : State) (a0 : Addr) (a1 : Addr) (b0 : Addr) (b1 : Addr) (k0 : ClassId) (k1 : ClassId) (w : Int32) (cc : Int32) (ee : Int32) (h0 : Heap) (n0 : Nat) (v : Option Value) (h : Heap) (L : List Loc) : Prop := v = some (.int (own_e2 cc ee)) ∧ Fr n0 L ∧ h = h0
theorem rmE1 (l : Launch) (Z : State) (av0 : Array Value) (hw : ∀ d ∈ tables_1, d.before av0 Z = true) (ws : List Jvm.Cond) (a0 : Addr) (a1 : Addr) (b0 : Addr) (b1 : Addr) (k0 : ClassId) (k1 : ClassId) (w : Int32) (cc : Int32) (ee : Int32) (h0 : Heap) (n0 : Nat) (Z0 : n0 ≤ h0.size) (E_a0 : Exa Z h0 a0 "java/lang/String") (F_coder_a0 : Fld Z h0 a0 "java/lang/String" "coder" "B" (.int 0)) (F_value_a0 : Fld Z h0 a0 "java/lang/String" "value" "[B" (.ref b0)) (E_a1 : Exa Z h0 a1 "java/lang/String") (F_coder_a1 : Fld Z h0 a1 "java/lang/String" "coder" "B" (.int 0)) (F_value_a1 : Fld Z h0 a1 "java/lang/String" "value" "[B" (.ref b1)) (V0 : Arv Z h0 b0 k0 .byte (1 : Int32) [(.int cc)] (.int 0)) (V1 : Arv Z h0 b1 k1 .byte (1 : Int32) [(.int ee)] (.int 0)) (S_COMPACT_STRINGS : Sta Z h0 "java/lang/String" "COMPACT_STRINGS" "Z" (.int w)) (hw0 : ¬ (w = (0 : Int32))) (hne : ¬ (a0 = a1)) :
    MetFree l own_m10 (head1 (Jvm.Cond.code own_m10 jdk_42_method_66_code 3 (some .boolean) :: ws) ({ frames := 1, cells := 0, slots := 0, locals := 20 } : Room)) (fun a U => a = #[(.ref a0), (.ref a1)] ∧ Z.Warmed39 U.vm ∧ U.heap = h0) (fun _ _ _ _ _ => True) (fun _ U o U' => ∃ v L, o = .returned v ∧ QE1 Z a0 a1 b0 b1 k0 k1 w cc ee h0 n0 v U'.heap L ∧ FrameEnd U o U' L ({ frames := 1, cells := 0, slots := 0, locals := 20 } : Room).cells ({ frames := 1, cells := 0, slots := 0, locals := 20 } : Room).slots) := by
  refine MetFree.of_bodySF (plainFor_of_name pn_9) hisR ?_
  intro p e s m args below meth c s₁ Bd hml0 hP hK
  obtain ⟨rfl, hZ, hh⟩ := hP
  have hx := Bd.exec
  have hby := Bd.bytes
  have hml : c.maxLocals = 3 := hml0
  have hown : s.vm.findClass "java/lang/String" = some m.cls := findClass_of_methodNamed Bd.named
  have X0 : Stand p l e ({ frames := 1, cells := 0, slots := 0, locals := 20 } : Room) s m #[(.ref a0), (.ref a1)] below meth c s₁ [] 0 0 := Stand.of_body Bd
  have e0 : s₁.heap = h0 := by rw [← hh, Bd.state]; rfl
  have N0 := Fr.nil n0
  have K0 : Keep h0 h0 [] := Keep.refl h0 []
  refine own_go (B := s₁.setTop (mkF m 0 #[rv a0, rv a1, oU] [])) (fun t k => castTop (ef_E1 m a0 a1) k) ?_
  refine own_go (B := s₁.setTop (mkF m 2 #[rv a0, rv a1, oU] [(.ref a1), (.ref a0)])) (fun t k => ?_) ?_
  · refine XS.aloadN X0.here hx rfl (hb hby d9_0) rfl rfl ?_
    refine XS.aloadN X0.here hx rfl (hb hby d9_1) rfl rfl ?_
    exact k
  refine own_go (B := s₁.setTop (mkF m 7 #[rv a0, rv a1, oU] [])) (fun t k => ?_) ?_
  · refine Jvm.RoadKit.acmp (g := (mkF m 2 #[rv a0, rv a1, oU] [(.ref a1), (.ref a0)])) X0 hx rfl rfl rfl (pc0 := 2) (pc' := 7) (same := false) rfl (hb hby d9_2) rfl (decide_eq_false fun q => hne (Value.ref.inj q)) (by decide) (by decide) ?_
    exact k
  refine own_go (B := s₁.setTop (mkF m 8 #[rv a0, rv a1, oU] [(.ref a1)])) (fun t k => ?_) ?_
  · refine XS.aloadN X0.here hx rfl (hb hby d9_7) rfl rfl ?_
    exact k
  obtain ⟨T_1, X_1, e_1, st_1⟩ := instY X0 hx hZ hown (own_w hw 70 rfl) e0 (Ins.self E_a1) (g := (mkF m 8 #[rv a0, rv a1, oU] [(.ref a1)])) rfl rfl (hb hby d9_8)
  refine own_go (fun t k => st_1 t k) ?_
  refine own_go (B := T_1.setTop (mkF m 14 #[rv a0, rv a1, oU] [])) (fun t k => ?_) ?_
  · refine XS.ifNo X_1.here hx rfl (hb hby d9_11) rfl ((if0 _ _).trans (feq (by decide : ¬ ((1 : Int32) = (0 : Int32)))).1) ?_
    exact k
  refine own_go (B := T_1.setTop (mkF m 15 #[rv a0, rv a1, oU] [(.ref a1)])) (fun t k => ?_) ?_
  · refine XS.aloadN X_1.here hx rfl (hb hby d9_14) rfl rfl ?_
    exact k
  obtain ⟨T_2, X_2, e_2, st_2⟩ := castY X_1 hx hZ hown (own_w hw 70 rfl) e_1 (Ins.self E_a1) (g := (mkF m 15 #[rv a0, rv a1, oU] [(.ref a1)])) rfl rfl (hb hby d9_15)
  refine own_go (fun t k => st_2 t k) ?_
  refine own_go (B := T_2.setTop (mkF m 19 #[rv a0, rv a1, rv a1] [])) (fun t k => ?_) ?_
  · refine XS.astoreN X_2.here hx rfl (hb hby d9_18) rfl rfl (l' := #[rv a0, rv a1, rv a1]) rfl ?_
    exact k
  obtain ⟨T_3, X_3, e_3, st_3⟩ := getS2 X_2 hx hZ hown (host := "") (Or.inl (own_w hw 71 rfl)) Via.refl e_2 S_COMPACT_STRINGS (g := (mkF m 19 #[rv a0, rv a1, rv a1] [])) rfl (hb hby d9_19)
  refine own_go (fun t k => st_3 t k) ?_
  refine own_go (B := T_3.setTop (mkF m 25 #[rv a0, rv a1, rv a1] [])) (fun t k => ?_) ?_
  · refine XS.ifNo X_3.here hx rfl (hb hby d9_22) rfl ((if0 _ _).trans (feq hw0).1) ?_
    exact k
  refine own_go (B := T_3.setTop (mkF m 26 #[rv a0, rv a1, rv a1] [(.ref a0)])) (fun t k => ?_) ?_
  · refine XS.aloadN X_3.here hx rfl (hb hby d9_25) rfl rfl ?_
    exact k
  obtain ⟨T_4, X_4, e_4, st_4⟩ := getF X_3 hx hZ hown (host := "") (Or.inl (own_w hw 25 rfl)) Via.refl e_3 F_coder_a0 (g := (mkF m 26 #[rv a0, rv a1, rv a1] [(.ref a0)])) rfl rfl (hb hby d9_26)
  refine own_go (fun t k => st_4 t k) ?_
  refine own_go (B := T_4.setTop (mkF m 30 #[rv a0, rv a1, rv a1] [(.ref a1), (.int 0)])) (fun t k => ?_) ?_
  · refine XS.aloadN X_4.here hx rfl (hb hby d9_29) rfl rfl ?_
    exact k
  obtain ⟨T_5, X_5, e_5, st_5⟩ := getF X_4 hx hZ hown (host := "") (Or.inl (own_w hw 25 rfl)) Via.refl e_4 F_coder_a1 (g := (mkF m 30 #[rv a0, rv a1, rv a1] [(.ref a1), (.int 0)])) rfl rfl (hb hby d9_30)
  refine own_go (fun t k => st_5 t k) ?_
  refine own_go (B := T_5.setTop (mkF m 36 #[rv a0, rv a1, rv a1] [])) (fun t k => ?_) ?_
  · refine XS.icmpNo X_5.here hx rfl (hb hby d9_33) rfl (teq (by decide : (0 : Int32) = (0 : Int32))).2 ?_
    exact k
  refine own_go (B := T_5.setTop (mkF m 37 #[rv a0, rv a1, rv a1] [(.ref a0)])) (fun t k => ?_) ?_
  · refine XS.aloadN X_5.here hx rfl (hb hby d9_36) rfl rfl ?_
    exact k
  obtain ⟨T_6, X_6, e_6, st_6⟩ := getF X_5 hx hZ hown (host := "") (Or.inl (own_w hw 24 rfl)) Via.refl e_5 F_value_a0 (g := (mkF m 37 #[rv a0, rv a1, rv a1] [(.ref a0)])) rfl rfl (hb hby d9_37)
  refine own_go (fun t k => st_6 t k) ?_
  refine own_go (B := T_6.setTop (mkF m 41 #[rv a0, rv a1, rv a1] [(.ref a1), (.ref b0)])) (fun t k => ?_) ?_
  · refine XS.aloadN X_6.here hx rfl (hb hby d9_40) rfl rfl ?_
    exact k
  obtain ⟨T_7, X_7, e_7, st_7⟩ := getF X_6 hx hZ hown (host := "") (Or.inl (own_w hw 24 rfl)) Via.refl e_6 F_value_a1 (g := (mkF m 41 #[rv a0, rv a1, rv a1] [(.ref a1), (.ref b0)])) rfl rfl (hb hby d9_41)
  refine own_go (fun t k => st_7 t k) ?_
  obtain ⟨_, _, ⟨T_8, L_8, k_8, n_8⟩, -, X_8, ⟨Lc_8, hQ_8, l_8, y_8, z_8⟩, st_8⟩ := Jvm.LawKit.callS X_7 hx (y := own_m11) hown (mvT hZ (own_w hw 72 rfl)) (mvT hZ (own_w hw 73 rfl)) (mvT hZ (own_w hw 74 rfl)) (mvT hZ (own_w hw 75 rfl)) (by decide) (backOf (W := 0) (rmL1 l Z av0 hw [] b0 b1 k0 k1 cc ee h0 n0 Z0 V0 V1) hZ (own_w hw 75 rfl) (own_w hw 74 rfl) (by decide) (by decide)) (g := (mkF m 44 #[rv a0, rv a1, rv a1] [(.ref b1), (.ref b0)])) rfl (by rw [hml]; rfl) (argsL := [(.ref b0), (.ref b1)]) (rest := []) (lenOf pd_0 rfl) rfl (by show 2 * 0 + _ ≤ _; exact Nat.le_of_eq rfl) (hb hby d9_44) (fun _ _ => ⟨rfl, e_7, (by decide : 0 + 0 ≤ _), (by decide : 0 + 0 ≤ _)⟩)
  dsimp only [Pt.U, Pt.locs, Pt.cells, Pt.slots] at X_8 l_8 y_8 z_8 st_8 hQ_8
  subst l_8 y_8 z_8
  obtain ⟨rfl, N_8q, e_8⟩ := hQ_8
  have N_8 := Fr.app N0 N_8q
  refine own_go (fun t k => st_8 t k) ?_
  by_cases hc47 : (own_e cc ee) = (0 : Int32)
  · refine own_go (B := T_8.setTop (mkF m 54 #[rv a0, rv a1, rv a1] [])) (fun t k => ?_) ?_
    · refine XS.ifYes X_8.here hx rfl (pc0 := 47) (pc' := 54) rfl (hb hby d9_47) rfl ((if0 _ _).trans (teq hc47).1) (by decide) (by decide) ?_
      exact k
    refine own_go (B := T_8.setTop (mkF m 55 #[rv a0, rv a1, rv a1] [(.int 0)])) (fun t k => ?_) ?_
    · refine XS.iconst X_8.here hx rfl (hb hby d9_54) ?_
      exact k
    obtain ⟨fs, hr, hrun, hended, hW, hsame⟩ := X_8.leave (v := some (.int 0)) (fun h => by rw [Bd.returns] at h; cases h)
    refine ⟨_, _, ?_, hrun, hended, _, _, rfl, ?_, ⟨_, rfl⟩, hW, hsame.mono (by decide) (by decide)⟩
    · show Steps p.tables e below (T_8.setTop (mkF m 55 #[rv a0, rv a1, rv a1] [(.int 0)])) _
      exact retN X_8 hx (t := .boolean) Bd.returns (by simp) (hb hby d9_55) hr
    · show QE1 Z a0 a1 b0 b1 k0 k1 w cc ee h0 n0 _ T_8.heap _
      rw [e_8]
      exact ⟨by simp only [own_e2, if_pos hc47], N_8, rfl⟩
  · refine own_go (B := T_8.setTop (mkF m 50 #[rv a0, rv a1, rv a1] [])) (fun t k => ?_) ?_
    · refine XS.ifNo X_8.here hx rfl (hb hby d9_47) rfl ((if0 _ _).trans (feq hc47).1) ?_
      exact k
    refine own_go (B := T_8.setTop (mkF m 55 #[rv a0, rv a1, rv a1] [(.int 1)])) (fun t k => ?_) ?_
    · refine XS.iconst X_8.here hx rfl (hb hby d9_50) ?_
      refine XS.goto X_8.here hx rfl (pc0 := 51) (pc' := 55) rfl (hb hby d9_51) (by decide) (by decide) ?_
      exact k
    obtain ⟨fs, hr, hrun, hended, hW, hsame⟩ := X_8.leave (v := some (.int 1)) (fun h => by rw [Bd.returns] at h; cases h)
    refine ⟨_, _, ?_, hrun, hended, _, _, rfl, ?_, ⟨_, rfl⟩, hW, hsame.mono (by decide) (by decide)⟩
    · show Steps p.tables e below (T_8.setTop (mkF m 55 #[rv a0, rv a1, rv a1] [(.int 1)])) _
      exact retN X_8 hx (t := .boolean) Bd.returns (by simp) (hb hby d9_55) hr
    · show QE1 Z a0 a1 b0 b1 k0 k1 w cc ee h0 n0 _ T_8.heap _
      rw [e_8]
      exact ⟨by simp only [own_e2, if_neg hc47], N_8, rfl⟩
theorem ef_EN (m : MethodId) (a0 : Addr) (a1 : Addr) : entryFrame m #[(.ref a0), (.ref a1)] 3 = mkF m 0 #[rv a0, rv a1, oU] [] := by first | (simp [entryFrame, mkF, argsToLocals, Value.category]; done) | rfl
def QEN (Z : State) (a0 : Addr) (a1 : Addr) (b0 : Addr) (b1 : Addr) (k0 : ClassId) (k1 : ClassId) (w : Int32) (cc : Int32) (z : Int32) (vs : List Value) (h0 : Heap) (n0 : Nat) (v : Option Value) (h : Heap) (L : List Loc) : Prop := v = some (.int 0) ∧ Fr n0 L ∧ h = h0
theorem rmEN (l : Launch) (Z : State) (av0 : Array Value) (hw : ∀ d ∈ tables_1, d.before av0 Z = true) (ws : List Jvm.Cond) (a0 : Addr) (a1 : Addr) (b0 : Addr) (b1 : Addr) (k0 : ClassId) (k1 : ClassId) (w : Int32) (cc : Int32) (z : Int32) (vs : List Value) (h0 : Heap) (n0 : Nat) (Z0 : n0 ≤ h0.size) (E_a0 : Exa Z h0 a0 "java/lang/String") (F_coder_a0 : Fld Z h0 a0 "java/lang/String" "coder" "B" (.int 0)) (F_value_a0 : Fld Z h0 a0 "java/lang/String" "value" "[B" (.ref b0)) (E_a1 : Exa Z h0 a1 "java/lang/String") (F_coder_a1 : Fld Z h0 a1 "java/lang/String" "coder" "B" (.int 0)) (F_value_a1 : Fld Z h0 a1 "java/lang/String" "value" "[B" (.ref b1)) (V0 : Arv Z h0 b0 k0 .byte (1 : Int32) [(.int cc)] (.int 0)) (V1 : Arv Z h0 b1 k1 .byte z vs (.int 0)) (S_COMPACT_STRINGS : Sta Z h0 "java/lang/String" "COMPACT_STRINGS" "Z" (.int w)) (hw0 : ¬ (w = (0 : Int32))) (hne : ¬ (a0 = a1)) (hz : ¬ ((1 : Int32) = z)) :
    MetFree l own_m10 (head1 (Jvm.Cond.code own_m10 jdk_42_method_66_code 3 (some .boolean) :: ws) ({ frames := 1, cells := 0, slots := 0, locals := 20 } : Room)) (fun a U => a = #[(.ref a0), (.ref a1)] ∧ Z.Warmed39 U.vm ∧ U.heap = h0) (fun _ _ _ _ _ => True) (fun _ U o U' => ∃ v L, o = .returned v ∧ QEN Z a0 a1 b0 b1 k0 k1 w cc z vs h0 n0 v U'.heap L ∧ FrameEnd U o U' L ({ frames := 1, cells := 0, slots := 0, locals := 20 } : Room).cells ({ frames := 1, cells := 0, slots := 0, locals := 20 } : Room).slots) := by
  refine MetFree.of_bodySF (plainFor_of_name pn_9) hisR ?_
  intro p e s m args below meth c s₁ Bd hml0 hP hK
  obtain ⟨rfl, hZ, hh⟩ := hP
  have hx := Bd.exec
  have hby := Bd.bytes
  have hml : c.maxLocals = 3 := hml0
  have hown : s.vm.findClass "java/lang/String" = some m.cls := findClass_of_methodNamed Bd.named
  have X0 : Stand p l e ({ frames := 1, cells := 0, slots := 0, locals := 20 } : Room) s m #[(.ref a0), (.ref a1)] below meth c s₁ [] 0 0 := Stand.of_body Bd
  have e0 : s₁.heap = h0 := by rw [← hh, Bd.state]; rfl
  have N0 := Fr.nil n0
  have K0 : Keep h0 h0 [] := Keep.refl h0 []
  refine own_go (B := s₁.setTop (mkF m 0 #[rv a0, rv a1, oU] [])) (fun t k => castTop (ef_EN m a0 a1) k) ?_
  refine own_go (B := s₁.setTop (mkF m 2 #[rv a0, rv a1, oU] [(.ref a1), (.ref a0)])) (fun t k => ?_) ?_
  · refine XS.aloadN X0.here hx rfl (hb hby d9_0) rfl rfl ?_
    refine XS.aloadN X0.here hx rfl (hb hby d9_1) rfl rfl ?_
    exact k
  refine own_go (B := s₁.setTop (mkF m 7 #[rv a0, rv a1, oU] [])) (fun t k => ?_) ?_
  · refine Jvm.RoadKit.acmp (g := (mkF m 2 #[rv a0, rv a1, oU] [(.ref a1), (.ref a0)])) X0 hx rfl rfl rfl (pc0 := 2) (pc' := 7) (same := false) rfl (hb hby d9_2) rfl (decide_eq_false fun q => hne (Value.ref.inj q)) (by decide) (by decide) ?_
    exact k
  refine own_go (B := s₁.setTop (mkF m 8 #[rv a0, rv a1, oU] [(.ref a1)])) (fun t k => ?_) ?_
  · refine XS.aloadN X0.here hx rfl (hb hby d9_7) rfl rfl ?_
    exact k
  obtain ⟨T_1, X_1, e_1, st_1⟩ := instY X0 hx hZ hown (own_w hw 70 rfl) e0 (Ins.self E_a1) (g := (mkF m 8 #[rv a0, rv a1, oU] [(.ref a1)])) rfl rfl (hb hby d9_8)
  refine own_go (fun t k => st_1 t k) ?_
  refine own_go (B := T_1.setTop (mkF m 14 #[rv a0, rv a1, oU] [])) (fun t k => ?_) ?_
  · refine XS.ifNo X_1.here hx rfl (hb hby d9_11) rfl ((if0 _ _).trans (feq (by decide : ¬ ((1 : Int32) = (0 : Int32)))).1) ?_
    exact k
  refine own_go (B := T_1.setTop (mkF m 15 #[rv a0, rv a1, oU] [(.ref a1)])) (fun t k => ?_) ?_
  · refine XS.aloadN X_1.here hx rfl (hb hby d9_14) rfl rfl ?_
    exact k
  obtain ⟨T_2, X_2, e_2, st_2⟩ := castY X_1 hx hZ hown (own_w hw 70 rfl) e_1 (Ins.self E_a1) (g := (mkF m 15 #[rv a0, rv a1, oU] [(.ref a1)])) rfl rfl (hb hby d9_15)
  refine own_go (fun t k => st_2 t k) ?_
  refine own_go (B := T_2.setTop (mkF m 19 #[rv a0, rv a1, rv a1] [])) (fun t k => ?_) ?_
  · refine XS.astoreN X_2.here hx rfl (hb hby d9_18) rfl rfl (l' := #[rv a0, rv a1, rv a1]) rfl ?_
    exact k
  obtain ⟨T_3, X_3, e_3, st_3⟩ := getS2 X_2 hx hZ hown (host := "") (Or.inl (own_w hw 71 rfl)) Via.refl e_2 S_COMPACT_STRINGS (g := (mkF m 19 #[rv a0, rv a1, rv a1] [])) rfl (hb hby d9_19)
  refine own_go (fun t k => st_3 t k) ?_
  refine own_go (B := T_3.setTop (mkF m 25 #[rv a0, rv a1, rv a1] [])) (fun t k => ?_) ?_
  · refine XS.ifNo X_3.here hx rfl (hb hby d9_22) rfl ((if0 _ _).trans (feq hw0).1) ?_
    exact k
  refine own_go (B := T_3.setTop (mkF m 26 #[rv a0, rv a1, rv a1] [(.ref a0)])) (fun t k => ?_) ?_
  · refine XS.aloadN X_3.here hx rfl (hb hby d9_25) rfl rfl ?_
    exact k
  obtain ⟨T_4, X_4, e_4, st_4⟩ := getF X_3 hx hZ hown (host := "") (Or.inl (own_w hw 25 rfl)) Via.refl e_3 F_coder_a0 (g := (mkF m 26 #[rv a0, rv a1, rv a1] [(.ref a0)])) rfl rfl (hb hby d9_26)
  refine own_go (fun t k => st_4 t k) ?_
  refine own_go (B := T_4.setTop (mkF m 30 #[rv a0, rv a1, rv a1] [(.ref a1), (.int 0)])) (fun t k => ?_) ?_
  · refine XS.aloadN X_4.here hx rfl (hb hby d9_29) rfl rfl ?_
    exact k
  obtain ⟨T_5, X_5, e_5, st_5⟩ := getF X_4 hx hZ hown (host := "") (Or.inl (own_w hw 25 rfl)) Via.refl e_4 F_coder_a1 (g := (mkF m 30 #[rv a0, rv a1, rv a1] [(.ref a1), (.int 0)])) rfl rfl (hb hby d9_30)
  refine own_go (fun t k => st_5 t k) ?_
  refine own_go (B := T_5.setTop (mkF m 36 #[rv a0, rv a1, rv a1] [])) (fun t k => ?_) ?_
  · refine XS.icmpNo X_5.here hx rfl (hb hby d9_33) rfl (teq (by decide : (0 : Int32) = (0 : Int32))).2 ?_
    exact k
  refine own_go (B := T_5.setTop (mkF m 37 #[rv a0, rv a1, rv a1] [(.ref a0)])) (fun t k => ?_) ?_
  · refine XS.aloadN X_5.here hx rfl (hb hby d9_36) rfl rfl ?_
    exact k
  obtain ⟨T_6, X_6, e_6, st_6⟩ := getF X_5 hx hZ hown (host := "") (Or.inl (own_w hw 24 rfl)) Via.refl e_5 F_value_a0 (g := (mkF m 37 #[rv a0, rv a1, rv a1] [(.ref a0)])) rfl rfl (hb hby d9_37)
  refine own_go (fun t k => st_6 t k) ?_
  refine own_go (B := T_6.setTop (mkF m 41 #[rv a0, rv a1, rv a1] [(.ref a1), (.ref b0)])) (fun t k => ?_) ?_
  · refine XS.aloadN X_6.here hx rfl (hb hby d9_40) rfl rfl ?_
    exact k
  obtain ⟨T_7, X_7, e_7, st_7⟩ := getF X_6 hx hZ hown (host := "") (Or.inl (own_w hw 24 rfl)) Via.refl e_6 F_value_a1 (g := (mkF m 41 #[rv a0, rv a1, rv a1] [(.ref a1), (.ref b0)])) rfl rfl (hb hby d9_41)
  refine own_go (fun t k => st_7 t k) ?_
  obtain ⟨_, _, ⟨T_8, L_8, k_8, n_8⟩, -, X_8, ⟨Lc_8, hQ_8, l_8, y_8, z_8⟩, st_8⟩ := Jvm.LawKit.callS X_7 hx (y := own_m11) hown (mvT hZ (own_w hw 72 rfl)) (mvT hZ (own_w hw 73 rfl)) (mvT hZ (own_w hw 74 rfl)) (mvT hZ (own_w hw 75 rfl)) (by decide) (backOf (W := 0) (rmLN l Z av0 hw [] b0 b1 k0 k1 cc z vs h0 n0 Z0 V0 V1 hz) hZ (own_w hw 75 rfl) (own_w hw 74 rfl) (by decide) (by decide)) (g := (mkF m 44 #[rv a0, rv a1, rv a1] [(.ref b1), (.ref b0)])) rfl (by rw [hml]; rfl) (argsL := [(.ref b0), (.ref b1)]) (rest := []) (lenOf pd_0 rfl) rfl (by show 2 * 0 + _ ≤ _; exact Nat.le_of_eq rfl) (hb hby d9_44) (fun _ _ => ⟨rfl, e_7, (by decide : 0 + 0 ≤ _), (by decide : 0 + 0 ≤ _)⟩)
  dsimp only [Pt.U, Pt.locs, Pt.cells, Pt.slots] at X_8 l_8 y_8 z_8 st_8 hQ_8
  subst l_8 y_8 z_8
  obtain ⟨rfl, N_8q, e_8⟩ := hQ_8
  have N_8 := Fr.app N0 N_8q
  refine own_go (fun t k => st_8 t k) ?_
  refine own_go (B := T_8.setTop (mkF m 54 #[rv a0, rv a1, rv a1] [])) (fun t k => ?_) ?_
  · refine XS.ifYes X_8.here hx rfl (pc0 := 47) (pc' := 54) rfl (hb hby d9_47) rfl ((if0 _ _).trans (teq (by decide : (0 : Int32) = (0 : Int32))).1) (by decide) (by decide) ?_
    exact k
  refine own_go (B := T_8.setTop (mkF m 55 #[rv a0, rv a1, rv a1] [(.int 0)])) (fun t k => ?_) ?_
  · refine XS.iconst X_8.here hx rfl (hb hby d9_54) ?_
    exact k
  obtain ⟨fs, hr, hrun, hended, hW, hsame⟩ := X_8.leave (v := some (.int 0)) (fun h => by rw [Bd.returns] at h; cases h)
  refine ⟨_, _, ?_, hrun, hended, _, _, rfl, ?_, ⟨_, rfl⟩, hW, hsame.mono (by decide) (by decide)⟩
  · show Steps p.tables e below (T_8.setTop (mkF m 55 #[rv a0, rv a1, rv a1] [(.int 0)])) _
    exact retN X_8 hx (t := .boolean) Bd.returns (by simp) (hb hby d9_55) hr
  · show QEN Z a0 a1 b0 b1 k0 k1 w cc z vs h0 n0 _ T_8.heap _
    rw [e_8]
    exact ⟨rfl, N_8, rfl⟩
theorem d7_0 : decode prog_20_method_3_code 0 = .ok (.aload_n 0, 1) := by decide +kernel
theorem d7_1 : decode prog_20_method_3_code 1 = .ok (.astore_n 3, 1) := by decide +kernel
theorem d7_2 : decode prog_20_method_3_code 2 = .ok (.aload_n 3, 1) := by decide +kernel
theorem d7_3 : decode prog_20_method_3_code 3 = .ok (.arraylength, 1) := by decide +kernel
theorem d7_4 : decode prog_20_method_3_code 4 = .ok (.istore 4, 2) := by decide +kernel
theorem d7_6 : decode prog_20_method_3_code 6 = .ok (.iconst 0, 1) := by decide +kernel
theorem d7_7 : decode prog_20_method_3_code 7 = .ok (.istore 5, 2) := by decide +kernel
theorem d7_9 : decode prog_20_method_3_code 9 = .ok (.iload 5, 2) := by decide +kernel
theorem d7_11 : decode prog_20_method_3_code 11 = .ok (.iload 4, 2) := by decide +kernel
theorem d7_13 : decode prog_20_method_3_code 13 = .ok (.if_icmp .ge 36, 3) := by decide +kernel
theorem d7_16 : decode prog_20_method_3_code 16 = .ok (.aload_n 3, 1) := by decide +kernel
theorem d7_17 : decode prog_20_method_3_code 17 = .ok (.iload 5, 2) := by decide +kernel
theorem d7_19 : decode prog_20_method_3_code 19 = .ok (.aaload, 1) := by decide +kernel
theorem d7_20 : decode prog_20_method_3_code 20 = .ok (.astore 6, 2) := by decide +kernel
theorem d7_22 : decode prog_20_method_3_code 22 = .ok (.aload_n 1, 1) := by decide +kernel
theorem d7_23 : decode prog_20_method_3_code 23 = .ok (.aload 6, 2) := by decide +kernel
theorem d7_25 : decode prog_20_method_3_code 25 = .ok (.invokeinterface 48 2, 5) := by decide +kernel
theorem d7_30 : decode prog_20_method_3_code 30 = .ok (.checkcast 37, 3) := by decide +kernel
theorem d7_33 : decode prog_20_method_3_code 33 = .ok (.aload_n 2, 1) := by decide +kernel
theorem d7_34 : decode prog_20_method_3_code 34 = .ok (.invokevirtual 54, 3) := by decide +kernel
theorem d7_37 : decode prog_20_method_3_code 37 = .ok (.ifCond .eq 6, 3) := by decide +kernel
theorem d7_40 : decode prog_20_method_3_code 40 = .ok (.aload 6, 2) := by decide +kernel
theorem d7_42 : decode prog_20_method_3_code 42 = .ok (.areturn, 1) := by decide +kernel
theorem d7_43 : decode prog_20_method_3_code 43 = .ok (.iinc 5 1, 3) := by decide +kernel
theorem d7_46 : decode prog_20_method_3_code 46 = .ok (.goto (-37), 3) := by decide +kernel
theorem d7_49 : decode prog_20_method_3_code 49 = .ok (.aconst_null, 1) := by decide +kernel
theorem d7_50 : decode prog_20_method_3_code 50 = .ok (.areturn, 1) := by decide +kernel
theorem pn_7 : plainName "com/example/stackwright/stackwright/CsvNames" = true := by first | (simp [plainName, overriddenIn]; done) | decide +kernel
theorem ef_nam (m : MethodId) (a0 : Addr) (a1 : Addr) (a2 : Addr) : entryFrame m #[(.ref a0), (.ref a1), (.ref a2)] 7 = mkF m 0 #[rv a0, rv a1, rv a2, oU, oU, oU, oU] [] := by first | (simp [entryFrame, mkF, argsToLocals, Value.category]; done) | rfl
theorem pd_1 : parseMethodDescriptor "(Ljava/lang/Object;)Z" = some ⟨[(.object "java/lang/Object")], some .boolean⟩ := by decide +kernel
def Qnam (Z : State) (a0 : Addr) (a1 : Addr) (a2 : Addr) (kk : ClassId) (s0 : Addr) (s1 : Addr) (s2 : Addr) (t0 : Addr) (t1 : Addr) (t2 : Addr) (cK : ClassId) (r0 : Int32) (r1 : Int32) (r2 : Int32) (h0 : Heap) (n0 : Nat) (v : Option Value) (h : Heap) (L : List Loc) : Prop := v = some (own_pick s0 s1 s2 r0 r1 r2) ∧ Fr n0 L ∧ h = h0
theorem rmnam (l : Launch) (Z : State) (av0 : Array Value) (hw : ∀ d ∈ tables_1, d.before av0 Z = true) (ws : List Jvm.Cond) (a0 : Addr) (a1 : Addr) (a2 : Addr) (kk : ClassId) (s0 : Addr) (s1 : Addr) (s2 : Addr) (t0 : Addr) (t1 : Addr) (t2 : Addr) (cK : ClassId) (r0 : Int32) (r1 : Int32) (r2 : Int32) (h0 : Heap) (n0 : Nat) (Z0 : n0 ≤ h0.size) (VV : Arv Z h0 a0 kk (.object "com/example/stackwright/stackwright/CapacityAlternative") (3 : Int32) [(.ref s0), (.ref s1), (.ref s2)] .null) (E0 : Exa Z h0 s0 "com/example/stackwright/stackwright/CapacityAlternative") (E1 : Exa Z h0 s1 "com/example/stackwright/stackwright/CapacityAlternative") (E2 : Exa Z h0 s2 "com/example/stackwright/stackwright/CapacityAlternative") (NN0 : Fld Z h0 s0 "com/example/stackwright/stackwright/CapacityAlternative" "number" "Ljava/lang/String;" (.ref t0)) (NN1 : Fld Z h0 s1 "com/example/stackwright/stackwright/CapacityAlternative" "number" "Ljava/lang/String;" (.ref t1)) (NN2 : Fld Z h0 s2 "com/example/stackwright/stackwright/CapacityAlternative" "number" "Ljava/lang/String;" (.ref t2)) (D0 : Exa Z h0 t0 "java/lang/String") (D1 : Exa Z h0 t1 "java/lang/String") (D2 : Exa Z h0 t2 "java/lang/String") (LM : Jvm.LamKit.Made Z own_CA own_sg cK) (LF : Jvm.LamKit.FnAt h0 a1 cK) (hq0 : MetFree l own_m10 (head1 [Jvm.Cond.code own_m10 jdk_42_method_66_code 3 (some .boolean)] ({ frames := 1, cells := 0, slots := 0, locals := 20 } : Room)) (fun a U => a = #[(.ref t0), (.ref a2)] ∧ Z.Warmed39 U.vm ∧ U.heap = h0) (fun _ _ _ _ _ => True) (fun _ U o U' => ∃ v L, o = .returned v ∧ (v = some (.int r0) ∧ Fr n0 L ∧ U'.heap = h0) ∧ FrameEnd U o U' L ({ frames := 1, cells := 0, slots := 0, locals := 20 } : Room).cells ({ frames := 1, cells := 0, slots := 0, locals := 20 } : Room).slots)) (hq1 : MetFree l own_m10 (head1 [Jvm.Cond.code own_m10 jdk_42_method_66_code 3 (some .boolean)] ({ frames := 1, cells := 0, slots := 0, locals := 20 } : Room)) (fun a U => a = #[(.ref t1), (.ref a2)] ∧ Z.Warmed39 U.vm ∧ U.heap = h0) (fun _ _ _ _ _ => True) (fun _ U o U' => ∃ v L, o = .returned v ∧ (v = some (.int r1) ∧ Fr n0 L ∧ U'.heap = h0) ∧ FrameEnd U o U' L ({ frames := 1, cells := 0, slots := 0, locals := 20 } : Room).cells ({ frames := 1, cells := 0, slots := 0, locals := 20 } : Room).slots)) (hq2 : MetFree l own_m10 (head1 [Jvm.Cond.code own_m10 jdk_42_method_66_code 3 (some .boolean)] ({ frames := 1, cells := 0, slots := 0, locals := 20 } : Room)) (fun a U => a = #[(.ref t2), (.ref a2)] ∧ Z.Warmed39 U.vm ∧ U.heap = h0) (fun _ _ _ _ _ => True) (fun _ U o U' => ∃ v L, o = .returned v ∧ (v = some (.int r2) ∧ Fr n0 L ∧ U'.heap = h0) ∧ FrameEnd U o U' L ({ frames := 1, cells := 0, slots := 0, locals := 20 } : Room).cells ({ frames := 1, cells := 0, slots := 0, locals := 20 } : Room).slots)) :
    MetFree l own_m8 (head1 (Jvm.Cond.code own_m8 prog_20_method_3_code 7 (some (.object "java/lang/Object")) :: ws) ({ frames := 2, cells := 0, slots := 0, locals := 34 } : Room)) (fun a U => a = #[(.ref a0), (.ref a1), (.ref a2)] ∧ Z.Warmed39 U.vm ∧ U.heap = h0) (fun _ _ _ _ _ => True) (fun _ U o U' => ∃ v L, o = .returned v ∧ Qnam Z a0 a1 a2 kk s0 s1 s2 t0 t1 t2 cK r0 r1 r2 h0 n0 v U'.heap L ∧ FrameEnd U o U' L ({ frames := 2, cells := 0, slots := 0, locals := 34 } : Room).cells ({ frames := 2, cells := 0, slots := 0, locals := 34 } : Room).slots) := by
  refine MetFree.of_bodySF (plainFor_of_name pn_7) hisR ?_
  intro p e s m args below meth c s₁ Bd hml0 hP hK
  obtain ⟨rfl, hZ, hh⟩ := hP
  have hx := Bd.exec
  have hby := Bd.bytes
  have hml : c.maxLocals = 7 := hml0
  have hown : s.vm.findClass "com/example/stackwright/stackwright/CsvNames" = some m.cls := findClass_of_methodNamed Bd.named
  have X0 : Stand p l e ({ frames := 2, cells := 0, slots := 0, locals := 34 } : Room) s m #[(.ref a0), (.ref a1), (.ref a2)] below meth c s₁ [] 0 0 := Stand.of_body Bd
  have e0 : s₁.heap = h0 := by rw [← hh, Bd.state]; rfl
  have N0 := Fr.nil n0
  have K0 : Keep h0 h0 [] := Keep.refl h0 []
  refine own_go (B := s₁.setTop (mkF m 0 #[rv a0, rv a1, rv a2, oU, oU, oU, oU] [])) (fun t k => castTop (ef_nam m a0 a1 a2) k) ?_
  refine own_go (B := s₁.setTop (mkF m 3 #[rv a0, rv a1, rv a2, rv a0, oU, oU, oU] [(.ref a0)])) (fun t k => ?_) ?_
  · refine XS.aloadN X0.here hx rfl (hb hby d7_0) rfl rfl ?_
    refine XS.astoreN X0.here hx rfl (hb hby d7_1) rfl rfl (l' := #[rv a0, rv a1, rv a2, rv a0, oU, oU, oU]) rfl ?_
    refine XS.aloadN X0.here hx rfl (hb hby d7_2) rfl rfl ?_
    exact k
  obtain ⟨cl_1, Ar_1, -, S_1, M_1, -, -⟩ := id VV
  refine own_go (B := s₁.setTop (mkF m 4 #[rv a0, rv a1, rv a2, rv a0, oU, oU, oU] [(.int 3)])) (fun t k => X0.arraylength hx (by rw [(e0 : _ = _)]; exact Ar_1.1) (State.isArrayOf_alike hZ.alike Ar_1.2.1) (g := (mkF m 3 #[rv a0, rv a1, rv a2, rv a0, oU, oU, oU] [(.ref a0)])) rfl rfl (hb hby d7_3) t (by rw [len_of S_1 M_1]; exact k)) ?_
  refine own_go (B := s₁.setTop (mkF m 13 #[rv a0, rv a1, rv a2, rv a0, iv 3, iv 0, oU] [(.int 3), (.int 0)])) (fun t k => ?_) ?_
  · refine XS.istore X0.here hx rfl (hb hby d7_4) rfl (l' := #[rv a0, rv a1, rv a2, rv a0, iv 3, oU, oU]) rfl ?_
    refine XS.iconst X0.here hx rfl (hb hby d7_6) ?_
    refine XS.istore X0.here hx rfl (hb hby d7_7) rfl (l' := #[rv a0, rv a1, rv a2, rv a0, iv 3, iv 0, oU]) rfl ?_
    refine XS.iload X0.here hx rfl (hb hby d7_9) rfl ?_
    refine XS.iload X0.here hx rfl (hb hby d7_11) rfl ?_
    exact k
  refine own_go (B := s₁.setTop (mkF m 16 #[rv a0, rv a1, rv a2, rv a0, iv 3, iv 0, oU] [])) (fun t k => ?_) ?_
  · refine XS.icmpNo X0.here hx rfl (hb hby d7_13) rfl (tlt (by decide : (0 : Int32) < (3 : Int32))).2.1 ?_
    exact k
  refine own_go (B := s₁.setTop (mkF m 19 #[rv a0, rv a1, rv a2, rv a0, iv 3, iv 0, oU] [(.int 0), (.ref a0)])) (fun t k => ?_) ?_
  · refine XS.aloadN X0.here hx rfl (hb hby d7_16) rfl rfl ?_
    refine XS.iload X0.here hx rfl (hb hby d7_17) rfl ?_
    exact k
  obtain ⟨cl_2, Ar_2, q_2, S_2, M_2, H_2, G_2⟩ := id VV
  have hin_2 : ¬ ((0 : Int32) < 0 ∨ cl_2.slots.size ≤ ((0 : Int32)).toNatClampNeg) := inb_of S_2 ⟨by decide, by decide⟩
  have hat_2 : cl_2.slots[((0 : Int32)).toNatClampNeg]? = some (.ref s0) := H_2.at hin_2 rfl
  refine own_go (B := s₁.setTop (mkF m 20 #[rv a0, rv a1, rv a2, rv a0, iv 3, iv 0, oU] [(.ref s0)])) (fun t k => X0.aaload hx (j := (0 : Int32)) (v := (.ref s0)) (by rw [(e0 : _ = _)]; exact Ar_2.1) (State.isArrayOf_alike hZ.alike Ar_2.2.1) rfl Ar_2.2.2 hin_2 hat_2 (g := (mkF m 19 #[rv a0, rv a1, rv a2, rv a0, iv 3, iv 0, oU] [(.int 0), (.ref a0)])) rfl rfl (hb hby d7_19) t k) ?_
  refine own_go (B := s₁.setTop (mkF m 25 #[rv a0, rv a1, rv a2, rv a0, iv 3, iv 0, rv s0] [(.ref s0), (.ref a1)])) (fun t k => ?_) ?_
  · refine XS.astore X0.here hx rfl (hb hby d7_20) rfl rfl (l' := #[rv a0, rv a1, rv a2, rv a0, iv 3, iv 0, rv s0]) rfl ?_
    refine XS.aloadN X0.here hx rfl (hb hby d7_22) rfl rfl ?_
    refine XS.aload X0.here hx rfl (hb hby d7_23) rfl rfl ?_
    exact k
  obtain ⟨T_3, L_3, X_3, N_3q, e_3, st_3⟩ := own_apply X0 hx hZ hw hown LM e0 LF E0 NN0 Z0 (by decide) (by decide) (by decide) (by decide) (g := (mkF m 25 #[rv a0, rv a1, rv a2, rv a0, iv 3, iv 0, rv s0] [(.ref s0), (.ref a1)])) rfl (by rw [hml]; rfl) rfl rfl (hb hby d7_25)
  have N_3 := Fr.app N0 N_3q
  refine own_go (fun t k => st_3 t k) ?_
  obtain ⟨T_4, X_4, e_4, st_4⟩ := castY X_3 hx hZ hown (own_w hw 64 rfl) e_3 (Ins.self D0) (g := (mkF m 30 #[rv a0, rv a1, rv a2, rv a0, iv 3, iv 0, rv s0] [(.ref t0)])) rfl rfl (hb hby d7_30)
  refine own_go (fun t k => st_4 t k) ?_
  refine own_go (B := T_4.setTop (mkF m 34 #[rv a0, rv a1, rv a2, rv a0, iv 3, iv 0, rv s0] [(.ref a2), (.ref t0)])) (fun t k => ?_) ?_
  · refine XS.aloadN X_4.here hx rfl (hb hby d7_33) rfl rfl ?_
    exact k
  obtain ⟨cq_5, kq_5, q_5a, q_5b, q_5c⟩ := isOf hZ e_4 D0
  obtain ⟨_, _, ⟨T_5, L_5, k_5, n_5⟩, -, X_5, ⟨Lc_5, hQ_5, l_5, y_5, z_5⟩, st_5⟩ := X_4.virtualBack hx (y := own_m10) (z := own_m10) hown (mvT hZ (own_w hw 65 rfl)) (mvT hZ (own_w hw 66 rfl)) (notFace_of_selects (args := #[]) (mvT hZ (own_w hw 68 rfl))) (mvT hZ (own_w hw 68 rfl)) (mvT hZ (own_w hw 67 rfl)) (by decide) (backOf (rm := ({ frames := 1, cells := 0, slots := 0, locals := 20 } : Room)) (Q := fun v h L => v = some (.int r0) ∧ Fr n0 L ∧ h = h0) (W := 0) hq0 hZ (own_w hw 69 rfl) (own_w hw 6 rfl) (by decide) (by decide)) q_5a q_5c (g := (mkF m 34 #[rv a0, rv a1, rv a2, rv a0, iv 3, iv 0, rv s0] [(.ref a2), (.ref t0)])) rfl (by rw [hml]; rfl) (Steps.refl _) (argsL := [(.ref a2)]) (rest := []) (lenOf pd_1 rfl) rfl (by show 2 * 0 + _ ≤ _; exact Nat.le_of_eq rfl) (hb hby d7_34) (fun _ _ => ⟨rfl, e_4, (by decide : 0 + 0 ≤ _), (by decide : 0 + 0 ≤ _)⟩)
  dsimp only [Pt.U, Pt.locs, Pt.cells, Pt.slots] at X_5 l_5 y_5 z_5 st_5 hQ_5
  subst l_5 y_5 z_5
  obtain ⟨rfl, N_5q, e_5⟩ := hQ_5
  have N_5 := Fr.app N_3 N_5q
  refine own_go (fun t k => st_5.trans k) ?_
  by_cases hc37 : r0 = (0 : Int32)
  · refine own_go (B := T_5.setTop (mkF m 43 #[rv a0, rv a1, rv a2, rv a0, iv 3, iv 0, rv s0] [])) (fun t k => ?_) ?_
    · refine XS.ifYes X_5.here hx rfl (pc0 := 37) (pc' := 43) rfl (hb hby d7_37) rfl ((if0 _ _).trans (teq hc37).1) (by decide) (by decide) ?_
      exact k
    refine own_go (B := T_5.setTop (mkF m 13 #[rv a0, rv a1, rv a2, rv a0, iv 3, iv 1, rv s0] [(.int 3), (.int 1)])) (fun t k => ?_) ?_
    · refine XS.iinc X_5.here hx rfl (hb hby d7_43) rfl (l' := #[rv a0, rv a1, rv a2, rv a0, iv 3, iv 1, rv s0]) rfl ?_
      refine XS.goto X_5.here hx rfl (pc0 := 46) (pc' := 9) rfl (hb hby d7_46) (by decide) (by decide) ?_
      refine XS.iload X_5.here hx rfl (hb hby d7_9) rfl ?_
      refine XS.iload X_5.here hx rfl (hb hby d7_11) rfl ?_
      exact k
    refine own_go (B := T_5.setTop (mkF m 16 #[rv a0, rv a1, rv a2, rv a0, iv 3, iv 1, rv s0] [])) (fun t k => ?_) ?_
    · refine XS.icmpNo X_5.here hx rfl (hb hby d7_13) rfl (tlt (by decide : (1 : Int32) < (3 : Int32))).2.1 ?_
      exact k
    refine own_go (B := T_5.setTop (mkF m 19 #[rv a0, rv a1, rv a2, rv a0, iv 3, iv 1, rv s0] [(.int 1), (.ref a0)])) (fun t k => ?_) ?_
    · refine XS.aloadN X_5.here hx rfl (hb hby d7_16) rfl rfl ?_
      refine XS.iload X_5.here hx rfl (hb hby d7_17) rfl ?_
      exact k
    obtain ⟨cl_6, Ar_6, q_6, S_6, M_6, H_6, G_6⟩ := id VV
    have hin_6 : ¬ ((1 : Int32) < 0 ∨ cl_6.slots.size ≤ ((1 : Int32)).toNatClampNeg) := inb_of S_6 ⟨by decide, by decide⟩
    have hat_6 : cl_6.slots[((1 : Int32)).toNatClampNeg]? = some (.ref s1) := H_6.at hin_6 rfl
    refine own_go (B := T_5.setTop (mkF m 20 #[rv a0, rv a1, rv a2, rv a0, iv 3, iv 1, rv s0] [(.ref s1)])) (fun t k => X_5.aaload hx (j := (1 : Int32)) (v := (.ref s1)) (by rw [(e_5 : _ = _)]; exact Ar_6.1) (State.isArrayOf_alike hZ.alike Ar_6.2.1) rfl Ar_6.2.2 hin_6 hat_6 (g := (mkF m 19 #[rv a0, rv a1, rv a2, rv a0, iv 3, iv 1, rv s0] [(.int 1), (.ref a0)])) rfl rfl (hb hby d7_19) t k) ?_
    refine own_go (B := T_5.setTop (mkF m 25 #[rv a0, rv a1, rv a2, rv a0, iv 3, iv 1, rv s1] [(.ref s1), (.ref a1)])) (fun t k => ?_) ?_
    · refine XS.astore X_5.here hx rfl (hb hby d7_20) rfl rfl (l' := #[rv a0, rv a1, rv a2, rv a0, iv 3, iv 1, rv s1]) rfl ?_
      refine XS.aloadN X_5.here hx rfl (hb hby d7_22) rfl rfl ?_
      refine XS.aload X_5.here hx rfl (hb hby d7_23) rfl rfl ?_
      exact k
    obtain ⟨T_7, L_7, X_7, N_7q, e_7, st_7⟩ := own_apply X_5 hx hZ hw hown LM e_5 LF E1 NN1 Z0 (by decide) (by decide) (by decide) (by decide) (g := (mkF m 25 #[rv a0, rv a1, rv a2, rv a0, iv 3, iv 1, rv s1] [(.ref s1), (.ref a1)])) rfl (by rw [hml]; rfl) rfl rfl (hb hby d7_25)
    have N_7 := Fr.app N_5 N_7q
    refine own_go (fun t k => st_7 t k) ?_
    obtain ⟨T_8, X_8, e_8, st_8⟩ := castY X_7 hx hZ hown (own_w hw 64 rfl) e_7 (Ins.self D1) (g := (mkF m 30 #[rv a0, rv a1, rv a2, rv a0, iv 3, iv 1, rv s1] [(.ref t1)])) rfl rfl (hb hby d7_30)
    refine own_go (fun t k => st_8 t k) ?_
    refine own_go (B := T_8.setTop (mkF m 34 #[rv a0, rv a1, rv a2, rv a0, iv 3, iv 1, rv s1] [(.ref a2), (.ref t1)])) (fun t k => ?_) ?_
    · refine XS.aloadN X_8.here hx rfl (hb hby d7_33) rfl rfl ?_
      exact k
    obtain ⟨cq_9, kq_9, q_9a, q_9b, q_9c⟩ := isOf hZ e_8 D1
    obtain ⟨_, _, ⟨T_9, L_9, k_9, n_9⟩, -, X_9, ⟨Lc_9, hQ_9, l_9, y_9, z_9⟩, st_9⟩ := X_8.virtualBack hx (y := own_m10) (z := own_m10) hown (mvT hZ (own_w hw 65 rfl)) (mvT hZ (own_w hw 66 rfl)) (notFace_of_selects (args := #[]) (mvT hZ (own_w hw 68 rfl))) (mvT hZ (own_w hw 68 rfl)) (mvT hZ (own_w hw 67 rfl)) (by decide) (backOf (rm := ({ frames := 1, cells := 0, slots := 0, locals := 20 } : Room)) (Q := fun v h L => v = some (.int r1) ∧ Fr n0 L ∧ h = h0) (W := 0) hq1 hZ (own_w hw 69 rfl) (own_w hw 6 rfl) (by decide) (by decide)) q_9a q_9c (g := (mkF m 34 #[rv a0, rv a1, rv a2, rv a0, iv 3, iv 1, rv s1] [(.ref a2), (.ref t1)])) rfl (by rw [hml]; rfl) (Steps.refl _) (argsL := [(.ref a2)]) (rest := []) (lenOf pd_1 rfl) rfl (by show 2 * 0 + _ ≤ _; exact Nat.le_of_eq rfl) (hb hby d7_34) (fun _ _ => ⟨rfl, e_8, (by decide : 0 + 0 ≤ _), (by decide : 0 + 0 ≤ _)⟩)
    dsimp only [Pt.U, Pt.locs, Pt.cells, Pt.slots] at X_9 l_9 y_9 z_9 st_9 hQ_9
    subst l_9 y_9 z_9
    obtain ⟨rfl, N_9q, e_9⟩ := hQ_9
    have N_9 := Fr.app N_7 N_9q
    refine own_go (fun t k => st_9.trans k) ?_
    by_cases hc37_1 : r1 = (0 : Int32)
    · refine own_go (B := T_9.setTop (mkF m 43 #[rv a0, rv a1, rv a2, rv a0, iv 3, iv 1, rv s1] [])) (fun t k => ?_) ?_
      · refine XS.ifYes X_9.here hx rfl (pc0 := 37) (pc' := 43) rfl (hb hby d7_37) rfl ((if0 _ _).trans (teq hc37_1).1) (by decide) (by decide) ?_
        exact k
      refine own_go (B := T_9.setTop (mkF m 13 #[rv a0, rv a1, rv a2, rv a0, iv 3, iv 2, rv s1] [(.int 3), (.int 2)])) (fun t k => ?_) ?_
      · refine XS.iinc X_9.here hx rfl (hb hby d7_43) rfl (l' := #[rv a0, rv a1, rv a2, rv a0, iv 3, iv 2, rv s1]) rfl ?_
        refine XS.goto X_9.here hx rfl (pc0 := 46) (pc' := 9) rfl (hb hby d7_46) (by decide) (by decide) ?_
        refine XS.iload X_9.here hx rfl (hb hby d7_9) rfl ?_
        refine XS.iload X_9.here hx rfl (hb hby d7_11) rfl ?_
        exact k
      refine own_go (B := T_9.setTop (mkF m 16 #[rv a0, rv a1, rv a2, rv a0, iv 3, iv 2, rv s1] [])) (fun t k => ?_) ?_
      · refine XS.icmpNo X_9.here hx rfl (hb hby d7_13) rfl (tlt (by decide : (2 : Int32) < (3 : Int32))).2.1 ?_
        exact k
      refine own_go (B := T_9.setTop (mkF m 19 #[rv a0, rv a1, rv a2, rv a0, iv 3, iv 2, rv s1] [(.int 2), (.ref a0)])) (fun t k => ?_) ?_
      · refine XS.aloadN X_9.here hx rfl (hb hby d7_16) rfl rfl ?_
        refine XS.iload X_9.here hx rfl (hb hby d7_17) rfl ?_
        exact k
      obtain ⟨cl_10, Ar_10, q_10, S_10, M_10, H_10, G_10⟩ := id VV
      have hin_10 : ¬ ((2 : Int32) < 0 ∨ cl_10.slots.size ≤ ((2 : Int32)).toNatClampNeg) := inb_of S_10 ⟨by decide, by decide⟩
      have hat_10 : cl_10.slots[((2 : Int32)).toNatClampNeg]? = some (.ref s2) := H_10.at hin_10 rfl
      refine own_go (B := T_9.setTop (mkF m 20 #[rv a0, rv a1, rv a2, rv a0, iv 3, iv 2, rv s1] [(.ref s2)])) (fun t k => X_9.aaload hx (j := (2 : Int32)) (v := (.ref s2)) (by rw [(e_9 : _ = _)]; exact Ar_10.1) (State.isArrayOf_alike hZ.alike Ar_10.2.1) rfl Ar_10.2.2 hin_10 hat_10 (g := (mkF m 19 #[rv a0, rv a1, rv a2, rv a0, iv 3, iv 2, rv s1] [(.int 2), (.ref a0)])) rfl rfl (hb hby d7_19) t k) ?_
      refine own_go (B := T_9.setTop (mkF m 25 #[rv a0, rv a1, rv a2, rv a0, iv 3, iv 2, rv s2] [(.ref s2), (.ref a1)])) (fun t k => ?_) ?_
      · refine XS.astore X_9.here hx rfl (hb hby d7_20) rfl rfl (l' := #[rv a0, rv a1, rv a2, rv a0, iv 3, iv 2, rv s2]) rfl ?_
        refine XS.aloadN X_9.here hx rfl (hb hby d7_22) rfl rfl ?_
        refine XS.aload X_9.here hx rfl (hb hby d7_23) rfl rfl ?_
        exact k
      obtain ⟨T_11, L_11, X_11, N_11q, e_11, st_11⟩ := own_apply X_9 hx hZ hw hown LM e_9 LF E2 NN2 Z0 (by decide) (by decide) (by decide) (by decide) (g := (mkF m 25 #[rv a0, rv a1, rv a2, rv a0, iv 3, iv 2, rv s2] [(.ref s2), (.ref a1)])) rfl (by rw [hml]; rfl) rfl rfl (hb hby d7_25)
      have N_11 := Fr.app N_9 N_11q
      refine own_go (fun t k => st_11 t k) ?_
      obtain ⟨T_12, X_12, e_12, st_12⟩ := castY X_11 hx hZ hown (own_w hw 64 rfl) e_11 (Ins.self D2) (g := (mkF m 30 #[rv a0, rv a1, rv a2, rv a0, iv 3, iv 2, rv s2] [(.ref t2)])) rfl rfl (hb hby d7_30)
      refine own_go (fun t k => st_12 t k) ?_
      refine own_go (B := T_12.setTop (mkF m 34 #[rv a0, rv a1, rv a2, rv a0, iv 3, iv 2, rv s2] [(.ref a2), (.ref t2)])) (fun t k => ?_) ?_
      · refine XS.aloadN X_12.here hx rfl (hb hby d7_33) rfl rfl ?_
        exact k
      obtain ⟨cq_13, kq_13, q_13a, q_13b, q_13c⟩ := isOf hZ e_12 D2
      obtain ⟨_, _, ⟨T_13, L_13, k_13, n_13⟩, -, X_13, ⟨Lc_13, hQ_13, l_13, y_13, z_13⟩, st_13⟩ := X_12.virtualBack hx (y := own_m10) (z := own_m10) hown (mvT hZ (own_w hw 65 rfl)) (mvT hZ (own_w hw 66 rfl)) (notFace_of_selects (args := #[]) (mvT hZ (own_w hw 68 rfl))) (mvT hZ (own_w hw 68 rfl)) (mvT hZ (own_w hw 67 rfl)) (by decide) (backOf (rm := ({ frames := 1, cells := 0, slots := 0, locals := 20 } : Room)) (Q := fun v h L => v = some (.int r2) ∧ Fr n0 L ∧ h = h0) (W := 0) hq2 hZ (own_w hw 69 rfl) (own_w hw 6 rfl) (by decide) (by decide)) q_13a q_13c (g := (mkF m 34 #[rv a0, rv a1, rv a2, rv a0, iv 3, iv 2, rv s2] [(.ref a2), (.ref t2)])) rfl (by rw [hml]; rfl) (Steps.refl _) (argsL := [(.ref a2)]) (rest := []) (lenOf pd_1 rfl) rfl (by show 2 * 0 + _ ≤ _; exact Nat.le_of_eq rfl) (hb hby d7_34) (fun _ _ => ⟨rfl, e_12, (by decide : 0 + 0 ≤ _), (by decide : 0 + 0 ≤ _)⟩)
      dsimp only [Pt.U, Pt.locs, Pt.cells, Pt.slots] at X_13 l_13 y_13 z_13 st_13 hQ_13
      subst l_13 y_13 z_13
      obtain ⟨rfl, N_13q, e_13⟩ := hQ_13
      have N_13 := Fr.app N_11 N_13q
      refine own_go (fun t k => st_13.trans k) ?_
      by_cases hc37_2 : r2 = (0 : Int32)
      · refine own_go (B := T_13.setTop (mkF m 43 #[rv a0, rv a1, rv a2, rv a0, iv 3, iv 2, rv s2] [])) (fun t k => ?_) ?_
        · refine XS.ifYes X_13.here hx rfl (pc0 := 37) (pc' := 43) rfl (hb hby d7_37) rfl ((if0 _ _).trans (teq hc37_2).1) (by decide) (by decide) ?_
          exact k
        refine own_go (B := T_13.setTop (mkF m 13 #[rv a0, rv a1, rv a2, rv a0, iv 3, iv 3, rv s2] [(.int 3), (.int 3)])) (fun t k => ?_) ?_
        · refine XS.iinc X_13.here hx rfl (hb hby d7_43) rfl (l' := #[rv a0, rv a1, rv a2, rv a0, iv 3, iv 3, rv s2]) rfl ?_
          refine XS.goto X_13.here hx rfl (pc0 := 46) (pc' := 9) rfl (hb hby d7_46) (by decide) (by decide) ?_
          refine XS.iload X_13.here hx rfl (hb hby d7_9) rfl ?_
          refine XS.iload X_13.here hx rfl (hb hby d7_11) rfl ?_
          exact k
        refine own_go (B := T_13.setTop (mkF m 49 #[rv a0, rv a1, rv a2, rv a0, iv 3, iv 3, rv s2] [])) (fun t k => ?_) ?_
        · refine XS.icmpYes X_13.here hx rfl (pc0 := 13) (pc' := 49) rfl (hb hby d7_13) rfl (flt (by decide : ¬ ((3 : Int32) < (3 : Int32)))).2.1 (by decide) (by decide) ?_
          exact k
        refine own_go (B := T_13.setTop (mkF m 50 #[rv a0, rv a1, rv a2, rv a0, iv 3, iv 3, rv s2] [.null])) (fun t k => ?_) ?_
        · refine XS.aconstNull X_13.here hx rfl (hb hby d7_49) ?_
          exact k
        obtain ⟨fs, hr, hrun, hended, hW, hsame⟩ := X_13.leave (v := some .null) (fun h => by rw [Bd.returns] at h; cases h)
        refine ⟨_, _, ?_, hrun, hended, _, _, rfl, ?_, ⟨_, rfl⟩, hW, hsame.mono (by decide) (by decide)⟩
        · show Steps p.tables e below (T_13.setTop (mkF m 50 #[rv a0, rv a1, rv a2, rv a0, iv 3, iv 3, rv s2] [.null])) _
          jvm_step X_13.here [X_13.here.top, hx, (hb hby d7_50), X_13.method', Bd.returns, Value.isRef, FieldType.isReference]
          first | (intro acts; rw [hr _ acts rfl rfl rfl]) | rw [hr _ _ rfl rfl rfl]
          exact Steps.refl _
        · show Qnam Z a0 a1 a2 kk s0 s1 s2 t0 t1 t2 cK r0 r1 r2 h0 n0 _ T_13.heap _
          rw [e_13]
          exact ⟨by simp only [own_pick, if_pos hc37, if_pos hc37_1, if_pos hc37_2], N_13, rfl⟩
      · refine own_go (B := T_13.setTop (mkF m 40 #[rv a0, rv a1, rv a2, rv a0, iv 3, iv 2, rv s2] [])) (fun t k => ?_) ?_
        · refine XS.ifNo X_13.here hx rfl (hb hby d7_37) rfl ((if0 _ _).trans (feq hc37_2).1) ?_
          exact k
        refine own_go (B := T_13.setTop (mkF m 42 #[rv a0, rv a1, rv a2, rv a0, iv 3, iv 2, rv s2] [(.ref s2)])) (fun t k => ?_) ?_
        · refine XS.aload X_13.here hx rfl (hb hby d7_40) rfl rfl ?_
          exact k
        obtain ⟨fs, hr, hrun, hended, hW, hsame⟩ := X_13.leave (v := some (.ref s2)) (fun h => by rw [Bd.returns] at h; cases h)
        refine ⟨_, _, ?_, hrun, hended, _, _, rfl, ?_, ⟨_, rfl⟩, hW, hsame.mono (by decide) (by decide)⟩
        · show Steps p.tables e below (T_13.setTop (mkF m 42 #[rv a0, rv a1, rv a2, rv a0, iv 3, iv 2, rv s2] [(.ref s2)])) _
          jvm_step X_13.here [X_13.here.top, hx, (hb hby d7_42), X_13.method', Bd.returns, Value.isRef, FieldType.isReference]
          first | (intro acts; rw [hr _ acts rfl rfl rfl]) | rw [hr _ _ rfl rfl rfl]
          exact Steps.refl _
        · show Qnam Z a0 a1 a2 kk s0 s1 s2 t0 t1 t2 cK r0 r1 r2 h0 n0 _ T_13.heap _
          rw [e_13]
          exact ⟨by simp only [own_pick, if_pos hc37, if_pos hc37_1, if_neg hc37_2], N_13, rfl⟩
    · refine own_go (B := T_9.setTop (mkF m 40 #[rv a0, rv a1, rv a2, rv a0, iv 3, iv 1, rv s1] [])) (fun t k => ?_) ?_
      · refine XS.ifNo X_9.here hx rfl (hb hby d7_37) rfl ((if0 _ _).trans (feq hc37_1).1) ?_
        exact k
      refine own_go (B := T_9.setTop (mkF m 42 #[rv a0, rv a1, rv a2, rv a0, iv 3, iv 1, rv s1] [(.ref s1)])) (fun t k => ?_) ?_
      · refine XS.aload X_9.here hx rfl (hb hby d7_40) rfl rfl ?_
        exact k
      obtain ⟨fs, hr, hrun, hended, hW, hsame⟩ := X_9.leave (v := some (.ref s1)) (fun h => by rw [Bd.returns] at h; cases h)
      refine ⟨_, _, ?_, hrun, hended, _, _, rfl, ?_, ⟨_, rfl⟩, hW, hsame.mono (by decide) (by decide)⟩
      · show Steps p.tables e below (T_9.setTop (mkF m 42 #[rv a0, rv a1, rv a2, rv a0, iv 3, iv 1, rv s1] [(.ref s1)])) _
        jvm_step X_9.here [X_9.here.top, hx, (hb hby d7_42), X_9.method', Bd.returns, Value.isRef, FieldType.isReference]
        first | (intro acts; rw [hr _ acts rfl rfl rfl]) | rw [hr _ _ rfl rfl rfl]
        exact Steps.refl _
      · show Qnam Z a0 a1 a2 kk s0 s1 s2 t0 t1 t2 cK r0 r1 r2 h0 n0 _ T_9.heap _
        rw [e_9]
        exact ⟨by simp only [own_pick, if_pos hc37, if_neg hc37_1], N_9, rfl⟩
  · refine own_go (B := T_5.setTop (mkF m 40 #[rv a0, rv a1, rv a2, rv a0, iv 3, iv 0, rv s0] [])) (fun t k => ?_) ?_
    · refine XS.ifNo X_5.here hx rfl (hb hby d7_37) rfl ((if0 _ _).trans (feq hc37).1) ?_
      exact k
    refine own_go (B := T_5.setTop (mkF m 42 #[rv a0, rv a1, rv a2, rv a0, iv 3, iv 0, rv s0] [(.ref s0)])) (fun t k => ?_) ?_
    · refine XS.aload X_5.here hx rfl (hb hby d7_40) rfl rfl ?_
      exact k
    obtain ⟨fs, hr, hrun, hended, hW, hsame⟩ := X_5.leave (v := some (.ref s0)) (fun h => by rw [Bd.returns] at h; cases h)
    refine ⟨_, _, ?_, hrun, hended, _, _, rfl, ?_, ⟨_, rfl⟩, hW, hsame.mono (by decide) (by decide)⟩
    · show Steps p.tables e below (T_5.setTop (mkF m 42 #[rv a0, rv a1, rv a2, rv a0, iv 3, iv 0, rv s0] [(.ref s0)])) _
      jvm_step X_5.here [X_5.here.top, hx, (hb hby d7_42), X_5.method', Bd.returns, Value.isRef, FieldType.isReference]
      first | (intro acts; rw [hr _ acts rfl rfl rfl]) | rw [hr _ _ rfl rfl rfl]
      exact Steps.refl _
    · show Qnam Z a0 a1 a2 kk s0 s1 s2 t0 t1 t2 cK r0 r1 r2 h0 n0 _ T_5.heap _
      rw [e_5]
      exact ⟨by simp only [own_pick, if_neg hc37], N_5, rfl⟩
theorem own_pk (s0 s1 s2 : Addr) (r0 r1 r2 : Int32) : own_pick s0 s1 s2 r0 r1 r2 = .null ∨ own_pick s0 s1 s2 r0 r1 r2 = .ref s0 ∨ own_pick s0 s1 s2 r0 r1 r2 = .ref s1 ∨ own_pick s0 s1 s2 r0 r1 r2 = .ref s2 := by
  unfold own_pick
  by_cases h0 : r0 = (0 : Int32)
  · by_cases h1 : r1 = (0 : Int32)
    · by_cases h2 : r2 = (0 : Int32) <;> simp [h0, h1, h2]
    · simp [h0, h1]
  · simp [h0]
theorem d5_0 : decode prog_3_method_5_code 0 = .ok (.invokestatic 36, 3) := by decide +kernel
theorem d5_3 : decode prog_3_method_5_code 3 = .ok (.invokedynamic 40, 5) := by decide +kernel
theorem d5_8 : decode prog_3_method_5_code 8 = .ok (.aload_n 0, 1) := by decide +kernel
theorem d5_9 : decode prog_3_method_5_code 9 = .ok (.invokestatic 44, 3) := by decide +kernel
theorem d5_12 : decode prog_3_method_5_code 12 = .ok (.checkcast 1, 3) := by decide +kernel
theorem d5_15 : decode prog_3_method_5_code 15 = .ok (.areturn, 1) := by decide +kernel
theorem pn_5 : plainName "com/example/stackwright/stackwright/CapacityAlternative" = true := by first | (simp [plainName, overriddenIn]; done) | decide +kernel
theorem ef_nbd (m : MethodId) (a0 : Addr) : entryFrame m #[(.ref a0)] 1 = mkF m 0 #[rv a0] [] := by first | (simp [entryFrame, mkF, argsToLocals, Value.category]; done) | rfl
theorem pd_2 : parseMethodDescriptor "()[Lcom/example/stackwright/stackwright/CapacityAlternative;" = some ⟨[], some (.array (.object "com/example/stackwright/stackwright/CapacityAlternative"))⟩ := by decide +kernel
theorem pd_3 : parseMethodDescriptor "([Ljava/lang/Object;Ljava/util/function/Function;Ljava/lang/String;)Ljava/lang/Object;" = some ⟨[(.array (.object "java/lang/Object")), (.object "java/util/function/Function"), (.object "java/lang/String")], some (.object "java/lang/Object")⟩ := by decide +kernel
def Qnbd (Z : State) (a0 : Addr) (va : Addr) (kk : ClassId) (s0 : Addr) (s1 : Addr) (s2 : Addr) (t0 : Addr) (t1 : Addr) (t2 : Addr) (cK : ClassId) (ff : Addr) (r0 : Int32) (r1 : Int32) (r2 : Int32) (h0 : Heap) (n0 : Nat) (v : Option Value) (h : Heap) (L : List Loc) : Prop := v = some (own_pick s0 s1 s2 r0 r1 r2) ∧ Fr n0 L ∧ Keep h0 h []
theorem rmnbd (l : Launch) (Z : State) (av0 : Array Value) (hw : ∀ d ∈ tables_1, d.before av0 Z = true) (ws : List Jvm.Cond) (a0 : Addr) (va : Addr) (kk : ClassId) (s0 : Addr) (s1 : Addr) (s2 : Addr) (t0 : Addr) (t1 : Addr) (t2 : Addr) (cK : ClassId) (ff : Addr) (r0 : Int32) (r1 : Int32) (r2 : Int32) (h0 : Heap) (n0 : Nat) (Z0 : n0 ≤ h0.size) (SV : Sta Z h0 "com/example/stackwright/stackwright/CapacityAlternative" "$VALUES" "[Lcom/example/stackwright/stackwright/CapacityAlternative;" (.ref va)) (VV : Arv Z h0 va kk (.object "com/example/stackwright/stackwright/CapacityAlternative") (3 : Int32) [(.ref s0), (.ref s1), (.ref s2)] .null) (EV : Exa Z h0 va "[Lcom/example/stackwright/stackwright/CapacityAlternative;") (E0 : Exa Z h0 s0 "com/example/stackwright/stackwright/CapacityAlternative") (E1 : Exa Z h0 s1 "com/example/stackwright/stackwright/CapacityAlternative") (E2 : Exa Z h0 s2 "com/example/stackwright/stackwright/CapacityAlternative") (NN0 : Fld Z h0 s0 "com/example/stackwright/stackwright/CapacityAlternative" "number" "Ljava/lang/String;" (.ref t0)) (NN1 : Fld Z h0 s1 "com/example/stackwright/stackwright/CapacityAlternative" "number" "Ljava/lang/String;" (.ref t1)) (NN2 : Fld Z h0 s2 "com/example/stackwright/stackwright/CapacityAlternative" "number" "Ljava/lang/String;" (.ref t2)) (D0 : Exa Z h0 t0 "java/lang/String") (D1 : Exa Z h0 t1 "java/lang/String") (D2 : Exa Z h0 t2 "java/lang/String") (LS : own_LS Z ff) (LM : Jvm.LamKit.Made Z own_CA own_sg cK) (LF : Jvm.LamKit.FnAt h0 ff cK) (hq0 : ∀ h' : Heap, Keep h0 h' [] → n0 ≤ h'.size → MetFree l own_m10 (head1 [Jvm.Cond.code own_m10 jdk_42_method_66_code 3 (some .boolean)] ({ frames := 1, cells := 0, slots := 0, locals := 20 } : Room)) (fun a U => a = #[(.ref t0), (.ref a0)] ∧ Z.Warmed39 U.vm ∧ U.heap = h') (fun _ _ _ _ _ => True) (fun _ U o U' => ∃ v L, o = .returned v ∧ (v = some (.int r0) ∧ Fr n0 L ∧ U'.heap = h') ∧ FrameEnd U o U' L ({ frames := 1, cells := 0, slots := 0, locals := 20 } : Room).cells ({ frames := 1, cells := 0, slots := 0, locals := 20 } : Room).slots)) (hq1 : ∀ h' : Heap, Keep h0 h' [] → n0 ≤ h'.size → MetFree l own_m10 (head1 [Jvm.Cond.code own_m10 jdk_42_method_66_code 3 (some .boolean)] ({ frames := 1, cells := 0, slots := 0, locals := 20 } : Room)) (fun a U => a = #[(.ref t1), (.ref a0)] ∧ Z.Warmed39 U.vm ∧ U.heap = h') (fun _ _ _ _ _ => True) (fun _ U o U' => ∃ v L, o = .returned v ∧ (v = some (.int r1) ∧ Fr n0 L ∧ U'.heap = h') ∧ FrameEnd U o U' L ({ frames := 1, cells := 0, slots := 0, locals := 20 } : Room).cells ({ frames := 1, cells := 0, slots := 0, locals := 20 } : Room).slots)) (hq2 : ∀ h' : Heap, Keep h0 h' [] → n0 ≤ h'.size → MetFree l own_m10 (head1 [Jvm.Cond.code own_m10 jdk_42_method_66_code 3 (some .boolean)] ({ frames := 1, cells := 0, slots := 0, locals := 20 } : Room)) (fun a U => a = #[(.ref t2), (.ref a0)] ∧ Z.Warmed39 U.vm ∧ U.heap = h') (fun _ _ _ _ _ => True) (fun _ U o U' => ∃ v L, o = .returned v ∧ (v = some (.int r2) ∧ Fr n0 L ∧ U'.heap = h') ∧ FrameEnd U o U' L ({ frames := 1, cells := 0, slots := 0, locals := 20 } : Room).cells ({ frames := 1, cells := 0, slots := 0, locals := 20 } : Room).slots)) :
    MetFree l own_m6 (head1 (Jvm.Cond.code own_m6 prog_3_method_5_code 1 (some (.object "com/example/stackwright/stackwright/CapacityAlternative")) :: ws) ({ frames := 3, cells := 1, slots := 3, locals := 3073 } : Room)) (fun a U => a = #[(.ref a0)] ∧ Z.Warmed39 U.vm ∧ U.heap = h0) (fun _ _ _ _ _ => True) (fun _ U o U' => ∃ v L, o = .returned v ∧ Qnbd Z a0 va kk s0 s1 s2 t0 t1 t2 cK ff r0 r1 r2 h0 n0 v U'.heap L ∧ FrameEnd U o U' L ({ frames := 3, cells := 1, slots := 3, locals := 3073 } : Room).cells ({ frames := 3, cells := 1, slots := 3, locals := 3073 } : Room).slots) := by
  refine MetFree.of_bodySF (plainFor_of_name pn_5) hisR ?_
  intro p e s m args below meth c s₁ Bd hml0 hP hK
  obtain ⟨rfl, hZ, hh⟩ := hP
  have hx := Bd.exec
  have hby := Bd.bytes
  have hml : c.maxLocals = 1 := hml0
  have hown : s.vm.findClass "com/example/stackwright/stackwright/CapacityAlternative" = some m.cls := findClass_of_methodNamed Bd.named
  have X0 : Stand p l e ({ frames := 3, cells := 1, slots := 3, locals := 3073 } : Room) s m #[(.ref a0)] below meth c s₁ [] 0 0 := Stand.of_body Bd
  have e0 : s₁.heap = h0 := by rw [← hh, Bd.state]; rfl
  have N0 := Fr.nil n0
  have K0 : Keep h0 h0 [] := Keep.refl h0 []
  refine own_go (B := s₁.setTop (mkF m 0 #[rv a0] [])) (fun t k => castTop (ef_nbd m a0) k) ?_
  obtain ⟨_, _, ⟨T_1, L_1, k_1, n_1⟩, -, X_1, ⟨Lc_1, hQ_1, l_1, y_1, z_1⟩, st_1⟩ := Jvm.LawKit.callS X0 hx (y := own_m7) hown (mvT hZ (own_w hw 30 rfl)) (mvT hZ (own_w hw 31 rfl)) (mvT hZ (own_w hw 28 rfl)) (mvT hZ (own_w hw 32 rfl)) (by decide) (backOf (W := 0) (rmvals l Z av0 hw []  s0 s1 s2 va kk h0 n0 Z0 SV VV EV) hZ (own_w hw 32 rfl) (own_w hw 28 rfl) (by decide) (by decide)) (g := (mkF m 0 #[rv a0] [])) rfl (by rw [hml]; rfl) (argsL := []) (rest := []) (lenOf pd_2 rfl) rfl (by show 2 * 0 + _ ≤ _; exact Nat.le_of_eq rfl) (hb hby d5_0) (fun _ _ => ⟨rfl, e0, (by decide : 0 + 1 ≤ _), (by decide : 0 + 3 ≤ _)⟩)
  dsimp only [Pt.U, Pt.locs, Pt.cells, Pt.slots] at X_1 l_1 y_1 z_1 st_1 hQ_1
  subst l_1 y_1 z_1
  obtain ⟨b_1, rfl, N_1q, K_1, szq_1, V_1⟩ := hQ_1
  have N_1 := Fr.app N0 N_1q
  have c1 := K0.trans K_1 all0
  have c2 := own_stak SV K_1
  have c3 := VV.keep K_1 nin0
  have c4 := EV.keep K_1
  have Z0__1 : n0 ≤ T_1.heap.size := Nat.le_trans Z0 K_1.1
  refine own_go (fun t k => st_1 t k) ?_
  refine own_go (B := T_1.setTop (mkF m 8 #[rv a0] [(.ref ff), (.ref b_1)])) (fun t k => own_site X_1 hx hZ Bd.named LS (g := (mkF m 3 #[rv a0] [(.ref b_1)])) rfl rfl (by rw [hml]; rfl) (hb hby d5_3) (Nat.le_of_ble_eq_true rfl) t k) ?_
  refine own_go (B := T_1.setTop (mkF m 9 #[rv a0] [(.ref a0), (.ref ff), (.ref b_1)])) (fun t k => ?_) ?_
  · refine XS.aloadN X_1.here hx rfl (hb hby d5_8) rfl rfl ?_
    exact k
  obtain ⟨_, _, ⟨T_2, L_2, k_2, n_2⟩, -, X_2, ⟨Lc_2, hQ_2, l_2, y_2, z_2⟩, st_2⟩ := Jvm.LawKit.callS X_1 hx (y := own_m8) hown (mvT hZ (own_w hw 51 rfl)) (mvT hZ (own_w hw 52 rfl)) (mvT hZ (own_w hw 53 rfl)) (mvT hZ (own_w hw 54 rfl)) (by decide) (backOf (W := 0) (rmnam l Z av0 hw [] b_1 ff a0 kk s0 s1 s2 t0 t1 t2 cK r0 r1 r2 T_1.heap n0 Z0__1 V_1 (E0.keep c1) (E1.keep c1) (E2.keep c1) (NN0.keep c1 nin0) (NN1.keep c1 nin0) (NN2.keep c1 nin0) (D0.keep c1) (D1.keep c1) (D2.keep c1) LM (own_fnk LF c1) (hq0 T_1.heap c1 Z0__1) (hq1 T_1.heap c1 Z0__1) (hq2 T_1.heap c1 Z0__1)) hZ (own_w hw 54 rfl) (own_w hw 53 rfl) (by decide) (by decide)) (g := (mkF m 9 #[rv a0] [(.ref a0), (.ref ff), (.ref b_1)])) rfl (by rw [hml]; rfl) (argsL := [(.ref b_1), (.ref ff), (.ref a0)]) (rest := []) (lenOf pd_3 rfl) rfl (by show 2 * 0 + _ ≤ _; exact Nat.le_of_eq rfl) (hb hby d5_9) (fun _ _ => ⟨rfl, rfl, (by decide : 1 + 0 ≤ _), (by decide : 3 + 0 ≤ _)⟩)
  dsimp only [Pt.U, Pt.locs, Pt.cells, Pt.slots] at X_2 l_2 y_2 z_2 st_2 hQ_2
  subst l_2 y_2 z_2
  obtain ⟨rfl, N_2q, e_2⟩ := hQ_2
  have N_2 := Fr.app N_1 N_2q
  refine own_go (fun t k => st_2 t k) ?_
  rcases own_pk s0 s1 s2 r0 r1 r2 with hpk | hpk | hpk | hpk <;> rw [hpk]
  · show ∃ s₂ o, Steps p.tables e below (T_2.setTop (mkF m 12 #[rv a0] [.null])) s₂ ∧ _
    refine own_go (fun t k => own_castN X_2 hx (g := (mkF m 12 #[rv a0] [.null])) rfl rfl (hb hby d5_12) t k) ?_
    obtain ⟨fs, hr, hrun, hended, hW, hsame⟩ := X_2.leave (v := some .null) (fun h => by rw [Bd.returns] at h; cases h)
    refine ⟨_, _, ?_, hrun, hended, _, _, rfl, ?_, ⟨_, rfl⟩, hW, hsame.mono (by decide) (by decide)⟩
    · show Steps p.tables e below (T_2.setTop (mkF m 15 #[rv a0] [.null])) _
      jvm_step X_2.here [X_2.here.top, hx, (hb hby d5_15), X_2.method', Bd.returns, Value.isRef, FieldType.isReference]
      first | (intro acts; rw [hr _ acts rfl rfl rfl]) | rw [hr _ _ rfl rfl rfl]
      exact Steps.refl _
    · show Qnbd Z a0 va kk s0 s1 s2 t0 t1 t2 cK ff r0 r1 r2 h0 n0 _ T_2.heap _
      rw [e_2]
      exact ⟨by rw [hpk], N_2, c1⟩
  · show ∃ s₂ o, Steps p.tables e below (T_2.setTop (mkF m 12 #[rv a0] [(.ref s0)])) s₂ ∧ _
    obtain ⟨T_3, X_3, e_3, st_3⟩ := castY X_2 hx hZ hown (own_w hw 87 rfl) e_2 (Ins.self (E0.keep c1)) (g := (mkF m 12 #[rv a0] [(.ref s0)])) rfl rfl (hb hby d5_12)
    refine own_go (fun t k => st_3 t k) ?_
    obtain ⟨fs, hr, hrun, hended, hW, hsame⟩ := X_3.leave (v := some (.ref s0)) (fun h => by rw [Bd.returns] at h; cases h)
    refine ⟨_, _, ?_, hrun, hended, _, _, rfl, ?_, ⟨_, rfl⟩, hW, hsame.mono (by decide) (by decide)⟩
    · show Steps p.tables e below (T_3.setTop (mkF m 15 #[rv a0] [(.ref s0)])) _
      jvm_step X_3.here [X_3.here.top, hx, (hb hby d5_15), X_3.method', Bd.returns, Value.isRef, FieldType.isReference]
      first | (intro acts; rw [hr _ acts rfl rfl rfl]) | rw [hr _ _ rfl rfl rfl]
      exact Steps.refl _
    · show Qnbd Z a0 va kk s0 s1 s2 t0 t1 t2 cK ff r0 r1 r2 h0 n0 _ T_3.heap _
      rw [e_3]
      exact ⟨by rw [hpk], N_2, c1⟩
  · show ∃ s₂ o, Steps p.tables e below (T_2.setTop (mkF m 12 #[rv a0] [(.ref s1)])) s₂ ∧ _
    obtain ⟨T_4, X_4, e_4, st_4⟩ := castY X_2 hx hZ hown (own_w hw 87 rfl) e_2 (Ins.self (E1.keep c1)) (g := (mkF m 12 #[rv a0] [(.ref s1)])) rfl rfl (hb hby d5_12)
    refine own_go (fun t k => st_4 t k) ?_
    obtain ⟨fs, hr, hrun, hended, hW, hsame⟩ := X_4.leave (v := some (.ref s1)) (fun h => by rw [Bd.returns] at h; cases h)
    refine ⟨_, _, ?_, hrun, hended, _, _, rfl, ?_, ⟨_, rfl⟩, hW, hsame.mono (by decide) (by decide)⟩
    · show Steps p.tables e below (T_4.setTop (mkF m 15 #[rv a0] [(.ref s1)])) _
      jvm_step X_4.here [X_4.here.top, hx, (hb hby d5_15), X_4.method', Bd.returns, Value.isRef, FieldType.isReference]
      first | (intro acts; rw [hr _ acts rfl rfl rfl]) | rw [hr _ _ rfl rfl rfl]
      exact Steps.refl _
    · show Qnbd Z a0 va kk s0 s1 s2 t0 t1 t2 cK ff r0 r1 r2 h0 n0 _ T_4.heap _
      rw [e_4]
      exact ⟨by rw [hpk], N_2, c1⟩
  · show ∃ s₂ o, Steps p.tables e below (T_2.setTop (mkF m 12 #[rv a0] [(.ref s2)])) s₂ ∧ _
    obtain ⟨T_5, X_5, e_5, st_5⟩ := castY X_2 hx hZ hown (own_w hw 87 rfl) e_2 (Ins.self (E2.keep c1)) (g := (mkF m 12 #[rv a0] [(.ref s2)])) rfl rfl (hb hby d5_12)
    refine own_go (fun t k => st_5 t k) ?_
    obtain ⟨fs, hr, hrun, hended, hW, hsame⟩ := X_5.leave (v := some (.ref s2)) (fun h => by rw [Bd.returns] at h; cases h)
    refine ⟨_, _, ?_, hrun, hended, _, _, rfl, ?_, ⟨_, rfl⟩, hW, hsame.mono (by decide) (by decide)⟩
    · show Steps p.tables e below (T_5.setTop (mkF m 15 #[rv a0] [(.ref s2)])) _
      jvm_step X_5.here [X_5.here.top, hx, (hb hby d5_15), X_5.method', Bd.returns, Value.isRef, FieldType.isReference]
      first | (intro acts; rw [hr _ acts rfl rfl rfl]) | rw [hr _ _ rfl rfl rfl]
      exact Steps.refl _
    · show Qnbd Z a0 va kk s0 s1 s2 t0 t1 t2 cK ff r0 r1 r2 h0 n0 _ T_5.heap _
      rw [e_5]
      exact ⟨by rw [hpk], N_2, c1⟩
theorem d12_0 : decode jdk_52_method_21_code 0 = .ok (.iconst 0, 1) := by decide +kernel
theorem d12_1 : decode jdk_52_method_21_code 1 = .ok (.istore 5, 2) := by decide +kernel
theorem d12_3 : decode jdk_52_method_21_code 3 = .ok (.iload 5, 2) := by decide +kernel
theorem d12_5 : decode jdk_52_method_21_code 5 = .ok (.iload 4, 2) := by decide +kernel
theorem d12_7 : decode jdk_52_method_21_code 7 = .ok (.if_icmp .ge 37, 3) := by decide +kernel
theorem d12_10 : decode jdk_52_method_21_code 10 = .ok (.aload_n 0, 1) := by decide +kernel
theorem d12_11 : decode jdk_52_method_21_code 11 = .ok (.iload_n 1, 1) := by decide +kernel
theorem d12_12 : decode jdk_52_method_21_code 12 = .ok (.caload, 1) := by decide +kernel
theorem d12_13 : decode jdk_52_method_21_code 13 = .ok (.istore 6, 2) := by decide +kernel
theorem d12_15 : decode jdk_52_method_21_code 15 = .ok (.iload 6, 2) := by decide +kernel
theorem d12_17 : decode jdk_52_method_21_code 17 = .ok (.sipush 255, 3) := by decide +kernel
theorem d12_20 : decode jdk_52_method_21_code 20 = .ok (.if_icmp .le 6, 3) := by decide +kernel
theorem d12_26 : decode jdk_52_method_21_code 26 = .ok (.aload_n 2, 1) := by decide +kernel
theorem d12_27 : decode jdk_52_method_21_code 27 = .ok (.iload_n 3, 1) := by decide +kernel
theorem d12_28 : decode jdk_52_method_21_code 28 = .ok (.iload 6, 2) := by decide +kernel
theorem d12_30 : decode jdk_52_method_21_code 30 = .ok (.i2b, 1) := by decide +kernel
theorem d12_31 : decode jdk_52_method_21_code 31 = .ok (.bastore, 1) := by decide +kernel
theorem d12_32 : decode jdk_52_method_21_code 32 = .ok (.iinc 1 1, 3) := by decide +kernel
theorem d12_35 : decode jdk_52_method_21_code 35 = .ok (.iinc 3 1, 3) := by decide +kernel
theorem d12_38 : decode jdk_52_method_21_code 38 = .ok (.iinc 5 1, 3) := by decide +kernel
theorem d12_41 : decode jdk_52_method_21_code 41 = .ok (.goto (-38), 3) := by decide +kernel
theorem d12_44 : decode jdk_52_method_21_code 44 = .ok (.iload 4, 2) := by decide +kernel
theorem d12_46 : decode jdk_52_method_21_code 46 = .ok (.ireturn, 1) := by decide +kernel
theorem pn_12 : plainName "java/lang/StringUTF16" = true := by first | (simp [plainName, overriddenIn]; done) | decide +kernel
theorem ef_cmp1 (m : MethodId) (a0 : Addr) (a2 : Addr) : entryFrame m #[(.ref a0), (.int 0), (.ref a2), (.int 0), (.int 1)] 7 = mkF m 0 #[rv a0, iv 0, rv a2, iv 0, iv 1, oU, oU] [] := by first | (simp [entryFrame, mkF, argsToLocals, Value.category]; done) | rfl
def Qcmp1 (Z : State) (a0 : Addr) (a2 : Addr) (kc : ClassId) (kb : ClassId) (ch0 : Int32) (h0 : Heap) (n0 : Nat) (v : Option Value) (h : Heap) (L : List Loc) : Prop := v = some (.int 1) ∧ Fr n0 L ∧ Keep h0 h [a2] ∧ Arv Z h a2 kb .byte (1 : Int32) [(.int (own_byte ch0))] (.int (0 : Int32))
theorem rmcmp1 (l : Launch) (Z : State) (av0 : Array Value) (hw : ∀ d ∈ tables_1, d.before av0 Z = true) (ws : List Jvm.Cond) (a0 : Addr) (a2 : Addr) (kc : ClassId) (kb : ClassId) (ch0 : Int32) (h0 : Heap) (n0 : Nat) (Z0 : n0 ≤ h0.size) (VC : Arv Z h0 a0 kc .char (1 : Int32) [(.int ch0)] (.int (0 : Int32))) (VB : Arv Z h0 a2 kb .byte (1 : Int32) [(.int (0 : Int32))] (.int (0 : Int32))) (g_a2 : n0 ≤ a2) (nea : a0 ≠ a2) (hp0 : ¬ ((255 : Int32) < ch0)) :
    MetFree l own_m13 (head1 (Jvm.Cond.code own_m13 jdk_52_method_21_code 7 (some .int) :: ws) ({ frames := 0, cells := 0, slots := 0, locals := 0 } : Room)) (fun a U => a = #[(.ref a0), (.int 0), (.ref a2), (.int 0), (.int 1)] ∧ Z.Warmed39 U.vm ∧ U.heap = h0) (fun _ _ _ _ _ => True) (fun _ U o U' => ∃ v L, o = .returned v ∧ Qcmp1 Z a0 a2 kc kb ch0 h0 n0 v U'.heap L ∧ FrameEnd U o U' L ({ frames := 0, cells := 0, slots := 0, locals := 0 } : Room).cells ({ frames := 0, cells := 0, slots := 0, locals := 0 } : Room).slots) := by
  refine MetFree.of_bodySF (plainFor_of_name pn_12) hisR ?_
  intro p e s m args below meth c s₁ Bd hml0 hP hK
  obtain ⟨rfl, hZ, hh⟩ := hP
  have hx := Bd.exec
  have hby := Bd.bytes
  have hml : c.maxLocals = 7 := hml0
  have hown : s.vm.findClass "java/lang/StringUTF16" = some m.cls := findClass_of_methodNamed Bd.named
  have X0 : Stand p l e ({ frames := 0, cells := 0, slots := 0, locals := 0 } : Room) s m #[(.ref a0), (.int 0), (.ref a2), (.int 0), (.int 1)] below meth c s₁ [] 0 0 := Stand.of_body Bd
  have e0 : s₁.heap = h0 := by rw [← hh, Bd.state]; rfl
  have N0 := Fr.nil n0
  have K0 : Keep h0 h0 [a2] := Keep.refl h0 [a2]
  refine own_go (B := s₁.setTop (mkF m 0 #[rv a0, iv 0, rv a2, iv 0, iv 1, oU, oU] [])) (fun t k => castTop (ef_cmp1 m a0 a2) k) ?_
  refine own_go (B := s₁.setTop (mkF m 7 #[rv a0, iv 0, rv a2, iv 0, iv 1, iv 0, oU] [(.int 1), (.int 0)])) (fun t k => ?_) ?_
  · refine XS.iconst X0.here hx rfl (hb hby d12_0) ?_
    refine XS.istore X0.here hx rfl (hb hby d12_1) rfl (l' := #[rv a0, iv 0, rv a2, iv 0, iv 1, iv 0, oU]) rfl ?_
    refine XS.iload X0.here hx rfl (hb hby d12_3) rfl ?_
    refine XS.iload X0.here hx rfl (hb hby d12_5) rfl ?_
    exact k
  refine own_go (B := s₁.setTop (mkF m 10 #[rv a0, iv 0, rv a2, iv 0, iv 1, iv 0, oU] [])) (fun t k => ?_) ?_
  · refine XS.icmpNo X0.here hx rfl (hb hby d12_7) rfl (tlt (by decide : (0 : Int32) < (1 : Int32))).2.1 ?_
    exact k
  refine own_go (B := s₁.setTop (mkF m 12 #[rv a0, iv 0, rv a2, iv 0, iv 1, iv 0, oU] [(.int 0), (.ref a0)])) (fun t k => ?_) ?_
  · refine XS.aloadN X0.here hx rfl (hb hby d12_10) rfl rfl ?_
    refine XS.iloadN X0.here hx rfl (hb hby d12_11) rfl ?_
    exact k
  obtain ⟨cl_1, Ar_1, q_1, S_1, M_1, H_1, G_1⟩ := id VC
  have hin_1 : ¬ ((0 : Int32) < 0 ∨ cl_1.slots.size ≤ ((0 : Int32)).toNatClampNeg) := inb_of S_1 ⟨by decide, by decide⟩
  have hat_1 : cl_1.slots[((0 : Int32)).toNatClampNeg]? = some (.int ch0) := H_1.at hin_1 rfl
  refine own_go (B := s₁.setTop (mkF m 13 #[rv a0, iv 0, rv a2, iv 0, iv 1, iv 0, oU] [(.int ch0)])) (fun t k => X0.caload hx (j := (0 : Int32)) (v := (.int ch0)) (by rw [(e0 : _ = _)]; exact Ar_1.1) (State.isArrayOf_alike hZ.alike Ar_1.2.1) Ar_1.2.2 hin_1 hat_1 (g := (mkF m 12 #[rv a0, iv 0, rv a2, iv 0, iv 1, iv 0, oU] [(.int 0), (.ref a0)])) rfl rfl (hb hby d12_12) t k) ?_
  refine own_go (B := s₁.setTop (mkF m 20 #[rv a0, iv 0, rv a2, iv 0, iv 1, iv 0, iv ch0] [(.int 255), (.int ch0)])) (fun t k => ?_) ?_
  · refine XS.istore X0.here hx rfl (hb hby d12_13) rfl (l' := #[rv a0, iv 0, rv a2, iv 0, iv 1, iv 0, iv ch0]) rfl ?_
    refine XS.iload X0.here hx rfl (hb hby d12_15) rfl ?_
    refine XS.sipush X0.here hx rfl (hb hby d12_17) ?_
    exact k
  refine own_go (B := s₁.setTop (mkF m 26 #[rv a0, iv 0, rv a2, iv 0, iv 1, iv 0, iv ch0] [])) (fun t k => ?_) ?_
  · refine XS.icmpYes X0.here hx rfl (pc0 := 20) (pc' := 26) rfl (hb hby d12_20) rfl (flt hp0).2.2.2 (by decide) (by decide) ?_
    exact k
  refine own_go (B := s₁.setTop (mkF m 31 #[rv a0, iv 0, rv a2, iv 0, iv 1, iv 0, iv ch0] [(.int (ch0.toInt8.toInt32)), (.int 0), (.ref a2)])) (fun t k => ?_) ?_
  · refine XS.aloadN X0.here hx rfl (hb hby d12_26) rfl rfl ?_
    refine XS.iloadN X0.here hx rfl (hb hby d12_27) rfl ?_
    refine XS.iload X0.here hx rfl (hb hby d12_28) rfl ?_
    refine XS.i2b X0.here hx rfl (hb hby d12_30) rfl ?_
    exact k
  obtain ⟨cl_2, Ar_2, q_2, S_2, M_2, H_2, G_2⟩ := id VB
  have hin_2 : ¬ ((0 : Int32) < 0 ∨ cl_2.slots.size ≤ ((0 : Int32)).toNatClampNeg) := inb_of S_2 ⟨by decide, by decide⟩
  obtain ⟨T_2, h_2, X_2, e_2, W_2, st_2⟩ := stB X0 hx hZ e0 Ar_2 (j := (0 : Int32)) hin_2 (g := (mkF m 31 #[rv a0, iv 0, rv a2, iv 0, iv 1, iv 0, iv ch0] [(.int (ch0.toInt8.toInt32)), (.int 0), (.ref a2)])) rfl rfl (hb hby d12_31)
  have c1 := K0.wr W_2 (Or.inl (List.mem_of_getElem? (i := 0) rfl))
  have c2 := VC.other W_2 nea
  have V_2 : Arv Z h_2 a2 kb .byte (1 : Int32) [(.int (nar .byte (ch0.toInt8.toInt32)))] (.int (0 : Int32)) := Arv.set Ar_2 q_2 S_2 M_2 H_2 G_2 (fits_nar_byte _) W_2 0 rfl (Nat.le_of_ble_eq_true rfl)
  have N_2 := Fr.snoc X_2 N0 g_a2
  have Z0__2 : n0 ≤ h_2.size := by rw [W_2.size]; exact Z0
  refine own_go (fun t k => st_2 t k) ?_
  refine own_go (B := T_2.setTop (mkF m 7 #[rv a0, iv 1, rv a2, iv 1, iv 1, iv 1, iv ch0] [(.int 1), (.int 1)])) (fun t k => ?_) ?_
  · refine XS.iinc X_2.here hx rfl (hb hby d12_32) rfl (l' := #[rv a0, iv 1, rv a2, iv 0, iv 1, iv 0, iv ch0]) rfl ?_
    refine XS.iinc X_2.here hx rfl (hb hby d12_35) rfl (l' := #[rv a0, iv 1, rv a2, iv 1, iv 1, iv 0, iv ch0]) rfl ?_
    refine XS.iinc X_2.here hx rfl (hb hby d12_38) rfl (l' := #[rv a0, iv 1, rv a2, iv 1, iv 1, iv 1, iv ch0]) rfl ?_
    refine XS.goto X_2.here hx rfl (pc0 := 41) (pc' := 3) rfl (hb hby d12_41) (by decide) (by decide) ?_
    refine XS.iload X_2.here hx rfl (hb hby d12_3) rfl ?_
    refine XS.iload X_2.here hx rfl (hb hby d12_5) rfl ?_
    exact k
  refine own_go (B := T_2.setTop (mkF m 44 #[rv a0, iv 1, rv a2, iv 1, iv 1, iv 1, iv ch0] [])) (fun t k => ?_) ?_
  · refine XS.icmpYes X_2.here hx rfl (pc0 := 7) (pc' := 44) rfl (hb hby d12_7) rfl (flt (by decide : ¬ ((1 : Int32) < (1 : Int32)))).2.1 (by decide) (by decide) ?_
    exact k
  refine own_go (B := T_2.setTop (mkF m 46 #[rv a0, iv 1, rv a2, iv 1, iv 1, iv 1, iv ch0] [(.int 1)])) (fun t k => ?_) ?_
  · refine XS.iload X_2.here hx rfl (hb hby d12_44) rfl ?_
    exact k
  obtain ⟨fs, hr, hrun, hended, hW, hsame⟩ := X_2.leave (v := some (.int 1)) (fun h => by rw [Bd.returns] at h; cases h)
  refine ⟨_, _, ?_, hrun, hended, _, _, rfl, ?_, ⟨_, rfl⟩, hW, hsame.mono (by decide) (by decide)⟩
  · show Steps p.tables e below (T_2.setTop (mkF m 46 #[rv a0, iv 1, rv a2, iv 1, iv 1, iv 1, iv ch0] [(.int 1)])) _
    exact retI X_2 hx Bd.returns (hb hby d12_46) hr
  · show Qcmp1 Z a0 a2 kc kb ch0 h0 n0 _ T_2.heap _
    rw [e_2]
    exact ⟨rfl, N_2, c1, V_2⟩
theorem d11_0 : decode jdk_52_method_16_code 0 = .ok (.iload_n 2, 1) := by decide +kernel
theorem d11_1 : decode jdk_52_method_16_code 1 = .ok (.newarray .byte, 2) := by decide +kernel
theorem d11_3 : decode jdk_52_method_16_code 3 = .ok (.astore_n 3, 1) := by decide +kernel
theorem d11_4 : decode jdk_52_method_16_code 4 = .ok (.aload_n 0, 1) := by decide +kernel
theorem d11_5 : decode jdk_52_method_16_code 5 = .ok (.iload_n 1, 1) := by decide +kernel
theorem d11_6 : decode jdk_52_method_16_code 6 = .ok (.aload_n 3, 1) := by decide +kernel
theorem d11_7 : decode jdk_52_method_16_code 7 = .ok (.iconst 0, 1) := by decide +kernel
theorem d11_8 : decode jdk_52_method_16_code 8 = .ok (.iload_n 2, 1) := by decide +kernel
theorem d11_9 : decode jdk_52_method_16_code 9 = .ok (.invokestatic 115, 3) := by decide +kernel
theorem d11_12 : decode jdk_52_method_16_code 12 = .ok (.istore 4, 2) := by decide +kernel
theorem d11_14 : decode jdk_52_method_16_code 14 = .ok (.iload 4, 2) := by decide +kernel
theorem d11_16 : decode jdk_52_method_16_code 16 = .ok (.iload_n 2, 1) := by decide +kernel
theorem d11_17 : decode jdk_52_method_16_code 17 = .ok (.if_icmp .eq 40, 3) := by decide +kernel
theorem d11_57 : decode jdk_52_method_16_code 57 = .ok (.aload_n 3, 1) := by decide +kernel
theorem d11_58 : decode jdk_52_method_16_code 58 = .ok (.areturn, 1) := by decide +kernel
theorem pn_11 : plainName "java/lang/StringUTF16" = true := by first | (simp [plainName, overriddenIn]; done) | decide +kernel
theorem ef_cpr1 (m : MethodId) (a0 : Addr) : entryFrame m #[(.ref a0), (.int 0), (.int 1)] 6 = mkF m 0 #[rv a0, iv 0, iv 1, oU, oU, oU] [] := by first | (simp [entryFrame, mkF, argsToLocals, Value.category]; done) | rfl
theorem pd_4 : parseMethodDescriptor "([CI[BII)I" = some ⟨[(.array .char), .int, (.array .byte), .int, .int], some .int⟩ := by decide +kernel
def Qcpr1 (Z : State) (a0 : Addr) (kc : ClassId) (ch0 : Int32) (h0 : Heap) (n0 : Nat) (v : Option Value) (h : Heap) (L : List Loc) : Prop := ∃ (b : Addr) (kb : ClassId), v = some (.ref b) ∧ Fr n0 L ∧ Keep h0 h [] ∧ h0.size ≤ b ∧ Arv Z h b kb .byte (1 : Int32) [(.int (own_byte ch0))] (.int (0 : Int32))
theorem rmcpr1 (l : Launch) (Z : State) (av0 : Array Value) (hw : ∀ d ∈ tables_1, d.before av0 Z = true) (ws : List Jvm.Cond) (a0 : Addr) (kc : ClassId) (ch0 : Int32) (h0 : Heap) (n0 : Nat) (Z0 : n0 ≤ h0.size) (VC : Arv Z h0 a0 kc .char (1 : Int32) [(.int ch0)] (.int (0 : Int32))) (hp0 : ¬ ((255 : Int32) < ch0)) :
    MetFree l own_m12 (head1 (Jvm.Cond.code own_m12 jdk_52_method_16_code 6 (some (.array .byte)) :: ws) ({ frames := 1, cells := 1, slots := 1, locals := 18 } : Room)) (fun a U => a = #[(.ref a0), (.int 0), (.int 1)] ∧ Z.Warmed39 U.vm ∧ U.heap = h0) (fun _ _ _ _ _ => True) (fun _ U o U' => ∃ v L, o = .returned v ∧ Qcpr1 Z a0 kc ch0 h0 n0 v U'.heap L ∧ FrameEnd U o U' L ({ frames := 1, cells := 1, slots := 1, locals := 18 } : Room).cells ({ frames := 1, cells := 1, slots := 1, locals := 18 } : Room).slots) := by
  refine MetFree.of_bodySF (plainFor_of_name pn_11) hisR ?_
  intro p e s m args below meth c s₁ Bd hml0 hP hK
  obtain ⟨rfl, hZ, hh⟩ := hP
  have hx := Bd.exec
  have hby := Bd.bytes
  have hml : c.maxLocals = 6 := hml0
  have hown : s.vm.findClass "java/lang/StringUTF16" = some m.cls := findClass_of_methodNamed Bd.named
  have X0 : Stand p l e ({ frames := 1, cells := 1, slots := 1, locals := 18 } : Room) s m #[(.ref a0), (.int 0), (.int 1)] below meth c s₁ [] 0 0 := Stand.of_body Bd
  have e0 : s₁.heap = h0 := by rw [← hh, Bd.state]; rfl
  have N0 := Fr.nil n0
  have K0 : Keep h0 h0 [] := Keep.refl h0 []
  refine own_go (B := s₁.setTop (mkF m 0 #[rv a0, iv 0, iv 1, oU, oU, oU] [])) (fun t k => castTop (ef_cpr1 m a0) k) ?_
  refine own_go (B := s₁.setTop (mkF m 1 #[rv a0, iv 0, iv 1, oU, oU, oU] [(.int 1)])) (fun t k => ?_) ?_
  · refine XS.iloadN X0.here hx rfl (hb hby d11_0) rfl ?_
    exact k
  obtain ⟨T_1, h_1, k_1, X_1, e_1, E_1, A_1, st_1⟩ := newP X0 hx hZ (own_w hw 19 rfl) e0 (g := (mkF m 1 #[rv a0, iv 0, iv 1, oU, oU, oU] [(.int 1)])) rfl (hb hby d11_1) rfl (by decide) (cap := 1) (by decide) (by decide) (by decide) (by decide)
  obtain ⟨b_1, g_1⟩ : ∃ z, z = h0.size := ⟨_, rfl⟩
  rw [← g_1] at A_1 st_1
  have g_b_1 : n0 ≤ b_1 := Nat.le_trans Z0 (Nat.le_of_eq g_1.symm)
  have sz_b_1 : h0.size ≤ b_1 := Nat.le_trans K0.1 (Nat.le_of_eq g_1.symm)
  have ne_a0_b_1 : a0 ≠ b_1 := Nat.ne_of_lt (Nat.lt_of_lt_of_le (VC).lt (Nat.le_of_eq g_1.symm))
  have c1 := K0.ext E_1
  have c2 := VC.ext E_1
  have Z0__1 : n0 ≤ h_1.size := Nat.le_trans Z0 E_1.1
  have V_b_1 : Arv Z h_1 b_1 k_1 .byte (1 : Int32) [(.int (0 : Int32))] (.int (0 : Int32)) := (Arv.new A_1 (by decide)).pad (pad_rep [] (.int (0 : Int32)) 1)
  refine own_go (fun t k => st_1 t k) ?_
  refine own_go (B := T_1.setTop (mkF m 9 #[rv a0, iv 0, iv 1, rv b_1, oU, oU] [(.int 1), (.int 0), (.ref b_1), (.int 0), (.ref a0)])) (fun t k => ?_) ?_
  · refine XS.astoreN X_1.here hx rfl (hb hby d11_3) rfl rfl (l' := #[rv a0, iv 0, iv 1, rv b_1, oU, oU]) rfl ?_
    refine XS.aloadN X_1.here hx rfl (hb hby d11_4) rfl rfl ?_
    refine XS.iloadN X_1.here hx rfl (hb hby d11_5) rfl ?_
    refine XS.aloadN X_1.here hx rfl (hb hby d11_6) rfl rfl ?_
    refine XS.iconst X_1.here hx rfl (hb hby d11_7) ?_
    refine XS.iloadN X_1.here hx rfl (hb hby d11_8) rfl ?_
    exact k
  obtain ⟨_, _, ⟨T_2, L_2, k_2, n_2⟩, -, X_2, ⟨Lc_2, hQ_2, l_2, y_2, z_2⟩, st_2⟩ := Jvm.LawKit.callS X_1 hx (y := own_m13) hown (mvT hZ (own_w hw 80 rfl)) (mvT hZ (own_w hw 81 rfl)) (mvT hZ (own_w hw 78 rfl)) (mvT hZ (own_w hw 82 rfl)) (by decide) (backOf (W := 0) (rmcmp1 l Z av0 hw [] a0 b_1 kc k_1 ch0 h_1 n0 Z0__1 c2 V_b_1 g_b_1 ne_a0_b_1 hp0) hZ (own_w hw 82 rfl) (own_w hw 78 rfl) (by decide) (by decide)) (g := (mkF m 9 #[rv a0, iv 0, iv 1, rv b_1, oU, oU] [(.int 1), (.int 0), (.ref b_1), (.int 0), (.ref a0)])) rfl (by rw [hml]; rfl) (argsL := [(.ref a0), (.int 0), (.ref b_1), (.int 0), (.int 1)]) (rest := []) (lenOf pd_4 rfl) rfl (by show 2 * 0 + _ ≤ _; exact Nat.le_of_eq rfl) (hb hby d11_9) (fun _ _ => ⟨rfl, e_1, (by decide : 1 + 0 ≤ _), (by decide : 1 + 0 ≤ _)⟩)
  dsimp only [Pt.U, Pt.locs, Pt.cells, Pt.slots] at X_2 l_2 y_2 z_2 st_2 hQ_2
  subst l_2 y_2 z_2
  obtain ⟨rfl, N_2q, K_2, VN_2⟩ := hQ_2
  have N_2 := Fr.app N0 N_2q
  have c3 := c1.trans K_2 (allS (Or.inr sz_b_1) all0)
  have c4 := c2.keep K_2 (ninS ne_a0_b_1 nin0)
  have Z0__2 : n0 ≤ T_2.heap.size := Nat.le_trans Z0__1 K_2.1
  refine own_go (fun t k => st_2 t k) ?_
  refine own_go (B := T_2.setTop (mkF m 17 #[rv a0, iv 0, iv 1, rv b_1, iv 1, oU] [(.int 1), (.int 1)])) (fun t k => ?_) ?_
  · refine XS.istore X_2.here hx rfl (hb hby d11_12) rfl (l' := #[rv a0, iv 0, iv 1, rv b_1, iv 1, oU]) rfl ?_
    refine XS.iload X_2.here hx rfl (hb hby d11_14) rfl ?_
    refine XS.iloadN X_2.here hx rfl (hb hby d11_16) rfl ?_
    exact k
  refine own_go (B := T_2.setTop (mkF m 57 #[rv a0, iv 0, iv 1, rv b_1, iv 1, oU] [])) (fun t k => ?_) ?_
  · refine XS.icmpYes X_2.here hx rfl (pc0 := 17) (pc' := 57) rfl (hb hby d11_17) rfl (teq (by decide : (1 : Int32) = (1 : Int32))).1 (by decide) (by decide) ?_
    exact k
  refine own_go (B := T_2.setTop (mkF m 58 #[rv a0, iv 0, iv 1, rv b_1, iv 1, oU] [(.ref b_1)])) (fun t k => ?_) ?_
  · refine XS.aloadN X_2.here hx rfl (hb hby d11_57) rfl rfl ?_
    exact k
  obtain ⟨fs, hr, hrun, hended, hW, hsame⟩ := X_2.leave (v := some (.ref b_1)) (fun h => by rw [Bd.returns] at h; cases h)
  refine ⟨_, _, ?_, hrun, hended, _, _, rfl, ?_, ⟨_, rfl⟩, hW, hsame.mono (by decide) (by decide)⟩
  · show Steps p.tables e below (T_2.setTop (mkF m 58 #[rv a0, iv 0, iv 1, rv b_1, iv 1, oU] [(.ref b_1)])) _
    jvm_step X_2.here [X_2.here.top, hx, (hb hby d11_58), X_2.method', Bd.returns, Value.isRef, FieldType.isReference]
    first | (intro acts; rw [hr _ acts rfl rfl rfl]) | rw [hr _ _ rfl rfl rfl]
    exact Steps.refl _
  · show Qcpr1 Z a0 kc ch0 h0 n0 _ T_2.heap _
    exact ⟨b_1, k_1, rfl, N_2, c3, sz_b_1, VN_2⟩
theorem ef_cmp2 (m : MethodId) (a0 : Addr) (a2 : Addr) : entryFrame m #[(.ref a0), (.int 0), (.ref a2), (.int 0), (.int 2)] 7 = mkF m 0 #[rv a0, iv 0, rv a2, iv 0, iv 2, oU, oU] [] := by first | (simp [entryFrame, mkF, argsToLocals, Value.category]; done) | rfl
def Qcmp2 (Z : State) (a0 : Addr) (a2 : Addr) (kc : ClassId) (kb : ClassId) (ch0 : Int32) (ch1 : Int32) (h0 : Heap) (n0 : Nat) (v : Option Value) (h : Heap) (L : List Loc) : Prop := v = some (.int 2) ∧ Fr n0 L ∧ Keep h0 h [a2] ∧ Arv Z h a2 kb .byte (2 : Int32) [(.int (own_byte ch0)), (.int (own_byte ch1))] (.int (0 : Int32))
theorem rmcmp2 (l : Launch) (Z : State) (av0 : Array Value) (hw : ∀ d ∈ tables_1, d.before av0 Z = true) (ws : List Jvm.Cond) (a0 : Addr) (a2 : Addr) (kc : ClassId) (kb : ClassId) (ch0 : Int32) (ch1 : Int32) (h0 : Heap) (n0 : Nat) (Z0 : n0 ≤ h0.size) (VC : Arv Z h0 a0 kc .char (2 : Int32) [(.int ch0), (.int ch1)] (.int (0 : Int32))) (VB : Arv Z h0 a2 kb .byte (2 : Int32) [(.int (0 : Int32)), (.int (0 : Int32))] (.int (0 : Int32))) (g_a2 : n0 ≤ a2) (nea : a0 ≠ a2) (hp0 : ¬ ((255 : Int32) < ch0)) (hp1 : ¬ ((255 : Int32) < ch1)) :
    MetFree l own_m13 (head1 (Jvm.Cond.code own_m13 jdk_52_method_21_code 7 (some .int) :: ws) ({ frames := 0, cells := 0, slots := 0, locals := 0 } : Room)) (fun a U => a = #[(.ref a0), (.int 0), (.ref a2), (.int 0), (.int 2)] ∧ Z.Warmed39 U.vm ∧ U.heap = h0) (fun _ _ _ _ _ => True) (fun _ U o U' => ∃ v L, o = .returned v ∧ Qcmp2 Z a0 a2 kc kb ch0 ch1 h0 n0 v U'.heap L ∧ FrameEnd U o U' L ({ frames := 0, cells := 0, slots := 0, locals := 0 } : Room).cells ({ frames := 0, cells := 0, slots := 0, locals := 0 } : Room).slots) := by
  refine MetFree.of_bodySF (plainFor_of_name pn_12) hisR ?_
  intro p e s m args below meth c s₁ Bd hml0 hP hK
  obtain ⟨rfl, hZ, hh⟩ := hP
  have hx := Bd.exec
  have hby := Bd.bytes
  have hml : c.maxLocals = 7 := hml0
  have hown : s.vm.findClass "java/lang/StringUTF16" = some m.cls := findClass_of_methodNamed Bd.named
  have X0 : Stand p l e ({ frames := 0, cells := 0, slots := 0, locals := 0 } : Room) s m #[(.ref a0), (.int 0), (.ref a2), (.int 0), (.int 2)] below meth c s₁ [] 0 0 := Stand.of_body Bd
  have e0 : s₁.heap = h0 := by rw [← hh, Bd.state]; rfl
  have N0 := Fr.nil n0
  have K0 : Keep h0 h0 [a2] := Keep.refl h0 [a2]
  refine own_go (B := s₁.setTop (mkF m 0 #[rv a0, iv 0, rv a2, iv 0, iv 2, oU, oU] [])) (fun t k => castTop (ef_cmp2 m a0 a2) k) ?_
  refine own_go (B := s₁.setTop (mkF m 7 #[rv a0, iv 0, rv a2, iv 0, iv 2, iv 0, oU] [(.int 2), (.int 0)])) (fun t k => ?_) ?_
  · refine XS.iconst X0.here hx rfl (hb hby d12_0) ?_
    refine XS.istore X0.here hx rfl (hb hby d12_1) rfl (l' := #[rv a0, iv 0, rv a2, iv 0, iv 2, iv 0, oU]) rfl ?_
    refine XS.iload X0.here hx rfl (hb hby d12_3) rfl ?_
    refine XS.iload X0.here hx rfl (hb hby d12_5) rfl ?_
    exact k
  refine own_go (B := s₁.setTop (mkF m 10 #[rv a0, iv 0, rv a2, iv 0, iv 2, iv 0, oU] [])) (fun t k => ?_) ?_
  · refine XS.icmpNo X0.here hx rfl (hb hby d12_7) rfl (tlt (by decide : (0 : Int32) < (2 : Int32))).2.1 ?_
    exact k
  refine own_go (B := s₁.setTop (mkF m 12 #[rv a0, iv 0, rv a2, iv 0, iv 2, iv 0, oU] [(.int 0), (.ref a0)])) (fun t k => ?_) ?_
  · refine XS.aloadN X0.here hx rfl (hb hby d12_10) rfl rfl ?_
    refine XS.iloadN X0.here hx rfl (hb hby d12_11) rfl ?_
    exact k
  obtain ⟨cl_1, Ar_1, q_1, S_1, M_1, H_1, G_1⟩ := id VC
  have hin_1 : ¬ ((0 : Int32) < 0 ∨ cl_1.slots.size ≤ ((0 : Int32)).toNatClampNeg) := inb_of S_1 ⟨by decide, by decide⟩
  have hat_1 : cl_1.slots[((0 : Int32)).toNatClampNeg]? = some (.int ch0) := H_1.at hin_1 rfl
  refine own_go (B := s₁.setTop (mkF m 13 #[rv a0, iv 0, rv a2, iv 0, iv 2, iv 0, oU] [(.int ch0)])) (fun t k => X0.caload hx (j := (0 : Int32)) (v := (.int ch0)) (by rw [(e0 : _ = _)]; exact Ar_1.1) (State.isArrayOf_alike hZ.alike Ar_1.2.1) Ar_1.2.2 hin_1 hat_1 (g := (mkF m 12 #[rv a0, iv 0, rv a2, iv 0, iv 2, iv 0, oU] [(.int 0), (.ref a0)])) rfl rfl (hb hby d12_12) t k) ?_
  refine own_go (B := s₁.setTop (mkF m 20 #[rv a0, iv 0, rv a2, iv 0, iv 2, iv 0, iv ch0] [(.int 255), (.int ch0)])) (fun t k => ?_) ?_
  · refine XS.istore X0.here hx rfl (hb hby d12_13) rfl (l' := #[rv a0, iv 0, rv a2, iv 0, iv 2, iv 0, iv ch0]) rfl ?_
    refine XS.iload X0.here hx rfl (hb hby d12_15) rfl ?_
    refine XS.sipush X0.here hx rfl (hb hby d12_17) ?_
    exact k
  refine own_go (B := s₁.setTop (mkF m 26 #[rv a0, iv 0, rv a2, iv 0, iv 2, iv 0, iv ch0] [])) (fun t k => ?_) ?_
  · refine XS.icmpYes X0.here hx rfl (pc0 := 20) (pc' := 26) rfl (hb hby d12_20) rfl (flt hp0).2.2.2 (by decide) (by decide) ?_
    exact k
  refine own_go (B := s₁.setTop (mkF m 31 #[rv a0, iv 0, rv a2, iv 0, iv 2, iv 0, iv ch0] [(.int (ch0.toInt8.toInt32)), (.int 0), (.ref a2)])) (fun t k => ?_) ?_
  · refine XS.aloadN X0.here hx rfl (hb hby d12_26) rfl rfl ?_
    refine XS.iloadN X0.here hx rfl (hb hby d12_27) rfl ?_
    refine XS.iload X0.here hx rfl (hb hby d12_28) rfl ?_
    refine XS.i2b X0.here hx rfl (hb hby d12_30) rfl ?_
    exact k
  obtain ⟨cl_2, Ar_2, q_2, S_2, M_2, H_2, G_2⟩ := id VB
  have hin_2 : ¬ ((0 : Int32) < 0 ∨ cl_2.slots.size ≤ ((0 : Int32)).toNatClampNeg) := inb_of S_2 ⟨by decide, by decide⟩
  obtain ⟨T_2, h_2, X_2, e_2, W_2, st_2⟩ := stB X0 hx hZ e0 Ar_2 (j := (0 : Int32)) hin_2 (g := (mkF m 31 #[rv a0, iv 0, rv a2, iv 0, iv 2, iv 0, iv ch0] [(.int (ch0.toInt8.toInt32)), (.int 0), (.ref a2)])) rfl rfl (hb hby d12_31)
  have c1 := K0.wr W_2 (Or.inl (List.mem_of_getElem? (i := 0) rfl))
  have c2 := VC.other W_2 nea
  have V_2 : Arv Z h_2 a2 kb .byte (2 : Int32) [(.int (nar .byte (ch0.toInt8.toInt32))), (.int 0)] (.int (0 : Int32)) := Arv.set Ar_2 q_2 S_2 M_2 H_2 G_2 (fits_nar_byte _) W_2 0 rfl (Nat.le_of_ble_eq_true rfl)
  have N_2 := Fr.snoc X_2 N0 g_a2
  have Z0__2 : n0 ≤ h_2.size := by rw [W_2.size]; exact Z0
  refine own_go (fun t k => st_2 t k) ?_
  refine own_go (B := T_2.setTop (mkF m 7 #[rv a0, iv 1, rv a2, iv 1, iv 2, iv 1, iv ch0] [(.int 2), (.int 1)])) (fun t k => ?_) ?_
  · refine XS.iinc X_2.here hx rfl (hb hby d12_32) rfl (l' := #[rv a0, iv 1, rv a2, iv 0, iv 2, iv 0, iv ch0]) rfl ?_
    refine XS.iinc X_2.here hx rfl (hb hby d12_35) rfl (l' := #[rv a0, iv 1, rv a2, iv 1, iv 2, iv 0, iv ch0]) rfl ?_
    refine XS.iinc X_2.here hx rfl (hb hby d12_38) rfl (l' := #[rv a0, iv 1, rv a2, iv 1, iv 2, iv 1, iv ch0]) rfl ?_
    refine XS.goto X_2.here hx rfl (pc0 := 41) (pc' := 3) rfl (hb hby d12_41) (by decide) (by decide) ?_
    refine XS.iload X_2.here hx rfl (hb hby d12_3) rfl ?_
    refine XS.iload X_2.here hx rfl (hb hby d12_5) rfl ?_
    exact k
  refine own_go (B := T_2.setTop (mkF m 10 #[rv a0, iv 1, rv a2, iv 1, iv 2, iv 1, iv ch0] [])) (fun t k => ?_) ?_
  · refine XS.icmpNo X_2.here hx rfl (hb hby d12_7) rfl (tlt (by decide : (1 : Int32) < (2 : Int32))).2.1 ?_
    exact k
  refine own_go (B := T_2.setTop (mkF m 12 #[rv a0, iv 1, rv a2, iv 1, iv 2, iv 1, iv ch0] [(.int 1), (.ref a0)])) (fun t k => ?_) ?_
  · refine XS.aloadN X_2.here hx rfl (hb hby d12_10) rfl rfl ?_
    refine XS.iloadN X_2.here hx rfl (hb hby d12_11) rfl ?_
    exact k
  obtain ⟨cl_3, Ar_3, q_3, S_3, M_3, H_3, G_3⟩ := id c2
  have hin_3 : ¬ ((1 : Int32) < 0 ∨ cl_3.slots.size ≤ ((1 : Int32)).toNatClampNeg) := inb_of S_3 ⟨by decide, by decide⟩
  have hat_3 : cl_3.slots[((1 : Int32)).toNatClampNeg]? = some (.int ch1) := H_3.at hin_3 rfl
  refine own_go (B := T_2.setTop (mkF m 13 #[rv a0, iv 1, rv a2, iv 1, iv 2, iv 1, iv ch0] [(.int ch1)])) (fun t k => X_2.caload hx (j := (1 : Int32)) (v := (.int ch1)) (by rw [(e_2 : _ = _)]; exact Ar_3.1) (State.isArrayOf_alike hZ.alike Ar_3.2.1) Ar_3.2.2 hin_3 hat_3 (g := (mkF m 12 #[rv a0, iv 1, rv a2, iv 1, iv 2, iv 1, iv ch0] [(.int 1), (.ref a0)])) rfl rfl (hb hby d12_12) t k) ?_
  refine own_go (B := T_2.setTop (mkF m 20 #[rv a0, iv 1, rv a2, iv 1, iv 2, iv 1, iv ch1] [(.int 255), (.int ch1)])) (fun t k => ?_) ?_
  · refine XS.istore X_2.here hx rfl (hb hby d12_13) rfl (l' := #[rv a0, iv 1, rv a2, iv 1, iv 2, iv 1, iv ch1]) rfl ?_
    refine XS.iload X_2.here hx rfl (hb hby d12_15) rfl ?_
    refine XS.sipush X_2.here hx rfl (hb hby d12_17) ?_
    exact k
  refine own_go (B := T_2.setTop (mkF m 26 #[rv a0, iv 1, rv a2, iv 1, iv 2, iv 1, iv ch1] [])) (fun t k => ?_) ?_
  · refine XS.icmpYes X_2.here hx rfl (pc0 := 20) (pc' := 26) rfl (hb hby d12_20) rfl (flt hp1).2.2.2 (by decide) (by decide) ?_
    exact k
  refine own_go (B := T_2.setTop (mkF m 31 #[rv a0, iv 1, rv a2, iv 1, iv 2, iv 1, iv ch1] [(.int (ch1.toInt8.toInt32)), (.int 1), (.ref a2)])) (fun t k => ?_) ?_
  · refine XS.aloadN X_2.here hx rfl (hb hby d12_26) rfl rfl ?_
    refine XS.iloadN X_2.here hx rfl (hb hby d12_27) rfl ?_
    refine XS.iload X_2.here hx rfl (hb hby d12_28) rfl ?_
    refine XS.i2b X_2.here hx rfl (hb hby d12_30) rfl ?_
    exact k
  obtain ⟨cl_4, Ar_4, q_4, S_4, M_4, H_4, G_4⟩ := id V_2
  have hin_4 : ¬ ((1 : Int32) < 0 ∨ cl_4.slots.size ≤ ((1 : Int32)).toNatClampNeg) := inb_of S_4 ⟨by decide, by decide⟩
  obtain ⟨T_4, h_4, X_4, e_4, W_4, st_4⟩ := stB X_2 hx hZ e_2 Ar_4 (j := (1 : Int32)) hin_4 (g := (mkF m 31 #[rv a0, iv 1, rv a2, iv 1, iv 2, iv 1, iv ch1] [(.int (ch1.toInt8.toInt32)), (.int 1), (.ref a2)])) rfl rfl (hb hby d12_31)
  have c3 := c1.wr W_4 (Or.inl (List.mem_of_getElem? (i := 0) rfl))
  have c4 := c2.other W_4 nea
  have V_4 : Arv Z h_4 a2 kb .byte (2 : Int32) [(.int (nar .byte (ch0.toInt8.toInt32))), (.int (nar .byte (ch1.toInt8.toInt32)))] (.int (0 : Int32)) := Arv.set Ar_4 q_4 S_4 M_4 H_4 G_4 (fits_nar_byte _) W_4 1 rfl (Nat.le_of_ble_eq_true rfl)
  have N_4 := Fr.snoc X_4 N_2 g_a2
  have Z0__4 : n0 ≤ h_4.size := by rw [W_4.size]; exact Z0__2
  refine own_go (fun t k => st_4 t k) ?_
  refine own_go (B := T_4.setTop (mkF m 7 #[rv a0, iv 2, rv a2, iv 2, iv 2, iv 2, iv ch1] [(.int 2), (.int 2)])) (fun t k => ?_) ?_
  · refine XS.iinc X_4.here hx rfl (hb hby d12_32) rfl (l' := #[rv a0, iv 2, rv a2, iv 1, iv 2, iv 1, iv ch1]) rfl ?_
    refine XS.iinc X_4.here hx rfl (hb hby d12_35) rfl (l' := #[rv a0, iv 2, rv a2, iv 2, iv 2, iv 1, iv ch1]) rfl ?_
    refine XS.iinc X_4.here hx rfl (hb hby d12_38) rfl (l' := #[rv a0, iv 2, rv a2, iv 2, iv 2, iv 2, iv ch1]) rfl ?_
    refine XS.goto X_4.here hx rfl (pc0 := 41) (pc' := 3) rfl (hb hby d12_41) (by decide) (by decide) ?_
    refine XS.iload X_4.here hx rfl (hb hby d12_3) rfl ?_
    refine XS.iload X_4.here hx rfl (hb hby d12_5) rfl ?_
    exact k
  refine own_go (B := T_4.setTop (mkF m 44 #[rv a0, iv 2, rv a2, iv 2, iv 2, iv 2, iv ch1] [])) (fun t k => ?_) ?_
  · refine XS.icmpYes X_4.here hx rfl (pc0 := 7) (pc' := 44) rfl (hb hby d12_7) rfl (flt (by decide : ¬ ((2 : Int32) < (2 : Int32)))).2.1 (by decide) (by decide) ?_
    exact k
  refine own_go (B := T_4.setTop (mkF m 46 #[rv a0, iv 2, rv a2, iv 2, iv 2, iv 2, iv ch1] [(.int 2)])) (fun t k => ?_) ?_
  · refine XS.iload X_4.here hx rfl (hb hby d12_44) rfl ?_
    exact k
  obtain ⟨fs, hr, hrun, hended, hW, hsame⟩ := X_4.leave (v := some (.int 2)) (fun h => by rw [Bd.returns] at h; cases h)
  refine ⟨_, _, ?_, hrun, hended, _, _, rfl, ?_, ⟨_, rfl⟩, hW, hsame.mono (by decide) (by decide)⟩
  · show Steps p.tables e below (T_4.setTop (mkF m 46 #[rv a0, iv 2, rv a2, iv 2, iv 2, iv 2, iv ch1] [(.int 2)])) _
    exact retI X_4 hx Bd.returns (hb hby d12_46) hr
  · show Qcmp2 Z a0 a2 kc kb ch0 ch1 h0 n0 _ T_4.heap _
    rw [e_4]
    exact ⟨rfl, N_4, c3, V_4⟩
theorem ef_cpr2 (m : MethodId) (a0 : Addr) : entryFrame m #[(.ref a0), (.int 0), (.int 2)] 6 = mkF m 0 #[rv a0, iv 0, iv 2, oU, oU, oU] [] := by first | (simp [entryFrame, mkF, argsToLocals, Value.category]; done) | rfl
def Qcpr2 (Z : State) (a0 : Addr) (kc : ClassId) (ch0 : Int32) (ch1 : Int32) (h0 : Heap) (n0 : Nat) (v : Option Value) (h : Heap) (L : List Loc) : Prop := ∃ (b : Addr) (kb : ClassId), v = some (.ref b) ∧ Fr n0 L ∧ Keep h0 h [] ∧ h0.size ≤ b ∧ Arv Z h b kb .byte (2 : Int32) [(.int (own_byte ch0)), (.int (own_byte ch1))] (.int (0 : Int32))
theorem rmcpr2 (l : Launch) (Z : State) (av0 : Array Value) (hw : ∀ d ∈ tables_1, d.before av0 Z = true) (ws : List Jvm.Cond) (a0 : Addr) (kc : ClassId) (ch0 : Int32) (ch1 : Int32) (h0 : Heap) (n0 : Nat) (Z0 : n0 ≤ h0.size) (VC : Arv Z h0 a0 kc .char (2 : Int32) [(.int ch0), (.int ch1)] (.int (0 : Int32))) (hp0 : ¬ ((255 : Int32) < ch0)) (hp1 : ¬ ((255 : Int32) < ch1)) :
    MetFree l own_m12 (head1 (Jvm.Cond.code own_m12 jdk_52_method_16_code 6 (some (.array .byte)) :: ws) ({ frames := 1, cells := 1, slots := 2, locals := 18 } : Room)) (fun a U => a = #[(.ref a0), (.int 0), (.int 2)] ∧ Z.Warmed39 U.vm ∧ U.heap = h0) (fun _ _ _ _ _ => True) (fun _ U o U' => ∃ v L, o = .returned v ∧ Qcpr2 Z a0 kc ch0 ch1 h0 n0 v U'.heap L ∧ FrameEnd U o U' L ({ frames := 1, cells := 1, slots := 2, locals := 18 } : Room).cells ({ frames := 1, cells := 1, slots := 2, locals := 18 } : Room).slots) := by
  refine MetFree.of_bodySF (plainFor_of_name pn_11) hisR ?_
  intro p e s m args below meth c s₁ Bd hml0 hP hK
  obtain ⟨rfl, hZ, hh⟩ := hP
  have hx := Bd.exec
  have hby := Bd.bytes
  have hml : c.maxLocals = 6 := hml0
  have hown : s.vm.findClass "java/lang/StringUTF16" = some m.cls := findClass_of_methodNamed Bd.named
  have X0 : Stand p l e ({ frames := 1, cells := 1, slots := 2, locals := 18 } : Room) s m #[(.ref a0), (.int 0), (.int 2)] below meth c s₁ [] 0 0 := Stand.of_body Bd
  have e0 : s₁.heap = h0 := by rw [← hh, Bd.state]; rfl
  have N0 := Fr.nil n0
  have K0 : Keep h0 h0 [] := Keep.refl h0 []
  refine own_go (B := s₁.setTop (mkF m 0 #[rv a0, iv 0, iv 2, oU, oU, oU] [])) (fun t k => castTop (ef_cpr2 m a0) k) ?_
  refine own_go (B := s₁.setTop (mkF m 1 #[rv a0, iv 0, iv 2, oU, oU, oU] [(.int 2)])) (fun t k => ?_) ?_
  · refine XS.iloadN X0.here hx rfl (hb hby d11_0) rfl ?_
    exact k
  obtain ⟨T_1, h_1, k_1, X_1, e_1, E_1, A_1, st_1⟩ := newP X0 hx hZ (own_w hw 19 rfl) e0 (g := (mkF m 1 #[rv a0, iv 0, iv 2, oU, oU, oU] [(.int 2)])) rfl (hb hby d11_1) rfl (by decide) (cap := 2) (by decide) (by decide) (by decide) (by decide)
  obtain ⟨b_1, g_1⟩ : ∃ z, z = h0.size := ⟨_, rfl⟩
  rw [← g_1] at A_1 st_1
  have g_b_1 : n0 ≤ b_1 := Nat.le_trans Z0 (Nat.le_of_eq g_1.symm)
  have sz_b_1 : h0.size ≤ b_1 := Nat.le_trans K0.1 (Nat.le_of_eq g_1.symm)
  have ne_a0_b_1 : a0 ≠ b_1 := Nat.ne_of_lt (Nat.lt_of_lt_of_le (VC).lt (Nat.le_of_eq g_1.symm))
  have c1 := K0.ext E_1
  have c2 := VC.ext E_1
  have Z0__1 : n0 ≤ h_1.size := Nat.le_trans Z0 E_1.1
  have V_b_1 : Arv Z h_1 b_1 k_1 .byte (2 : Int32) [(.int (0 : Int32)), (.int (0 : Int32))] (.int (0 : Int32)) := (Arv.new A_1 (by decide)).pad (pad_rep [] (.int (0 : Int32)) 2)
  refine own_go (fun t k => st_1 t k) ?_
  refine own_go (B := T_1.setTop (mkF m 9 #[rv a0, iv 0, iv 2, rv b_1, oU, oU] [(.int 2), (.int 0), (.ref b_1), (.int 0), (.ref a0)])) (fun t k => ?_) ?_
  · refine XS.astoreN X_1.here hx rfl (hb hby d11_3) rfl rfl (l' := #[rv a0, iv 0, iv 2, rv b_1, oU, oU]) rfl ?_
    refine XS.aloadN X_1.here hx rfl (hb hby d11_4) rfl rfl ?_
    refine XS.iloadN X_1.here hx rfl (hb hby d11_5) rfl ?_
    refine XS.aloadN X_1.here hx rfl (hb hby d11_6) rfl rfl ?_
    refine XS.iconst X_1.here hx rfl (hb hby d11_7) ?_
    refine XS.iloadN X_1.here hx rfl (hb hby d11_8) rfl ?_
    exact k
  obtain ⟨_, _, ⟨T_2, L_2, k_2, n_2⟩, -, X_2, ⟨Lc_2, hQ_2, l_2, y_2, z_2⟩, st_2⟩ := Jvm.LawKit.callS X_1 hx (y := own_m13) hown (mvT hZ (own_w hw 80 rfl)) (mvT hZ (own_w hw 81 rfl)) (mvT hZ (own_w hw 78 rfl)) (mvT hZ (own_w hw 82 rfl)) (by decide) (backOf (W := 0) (rmcmp2 l Z av0 hw [] a0 b_1 kc k_1 ch0 ch1 h_1 n0 Z0__1 c2 V_b_1 g_b_1 ne_a0_b_1 hp0 hp1) hZ (own_w hw 82 rfl) (own_w hw 78 rfl) (by decide) (by decide)) (g := (mkF m 9 #[rv a0, iv 0, iv 2, rv b_1, oU, oU] [(.int 2), (.int 0), (.ref b_1), (.int 0), (.ref a0)])) rfl (by rw [hml]; rfl) (argsL := [(.ref a0), (.int 0), (.ref b_1), (.int 0), (.int 2)]) (rest := []) (lenOf pd_4 rfl) rfl (by show 2 * 0 + _ ≤ _; exact Nat.le_of_eq rfl) (hb hby d11_9) (fun _ _ => ⟨rfl, e_1, (by decide : 1 + 0 ≤ _), (by decide : 2 + 0 ≤ _)⟩)
  dsimp only [Pt.U, Pt.locs, Pt.cells, Pt.slots] at X_2 l_2 y_2 z_2 st_2 hQ_2
  subst l_2 y_2 z_2
  obtain ⟨rfl, N_2q, K_2, VN_2⟩ := hQ_2
  have N_2 := Fr.app N0 N_2q
  have c3 := c1.trans K_2 (allS (Or.inr sz_b_1) all0)
  have c4 := c2.keep K_2 (ninS ne_a0_b_1 nin0)
  have Z0__2 : n0 ≤ T_2.heap.size := Nat.le_trans Z0__1 K_2.1
  refine own_go (fun t k => st_2 t k) ?_
  refine own_go (B := T_2.setTop (mkF m 17 #[rv a0, iv 0, iv 2, rv b_1, iv 2, oU] [(.int 2), (.int 2)])) (fun t k => ?_) ?_
  · refine XS.istore X_2.here hx rfl (hb hby d11_12) rfl (l' := #[rv a0, iv 0, iv 2, rv b_1, iv 2, oU]) rfl ?_
    refine XS.iload X_2.here hx rfl (hb hby d11_14) rfl ?_
    refine XS.iloadN X_2.here hx rfl (hb hby d11_16) rfl ?_
    exact k
  refine own_go (B := T_2.setTop (mkF m 57 #[rv a0, iv 0, iv 2, rv b_1, iv 2, oU] [])) (fun t k => ?_) ?_
  · refine XS.icmpYes X_2.here hx rfl (pc0 := 17) (pc' := 57) rfl (hb hby d11_17) rfl (teq (by decide : (2 : Int32) = (2 : Int32))).1 (by decide) (by decide) ?_
    exact k
  refine own_go (B := T_2.setTop (mkF m 58 #[rv a0, iv 0, iv 2, rv b_1, iv 2, oU] [(.ref b_1)])) (fun t k => ?_) ?_
  · refine XS.aloadN X_2.here hx rfl (hb hby d11_57) rfl rfl ?_
    exact k
  obtain ⟨fs, hr, hrun, hended, hW, hsame⟩ := X_2.leave (v := some (.ref b_1)) (fun h => by rw [Bd.returns] at h; cases h)
  refine ⟨_, _, ?_, hrun, hended, _, _, rfl, ?_, ⟨_, rfl⟩, hW, hsame.mono (by decide) (by decide)⟩
  · show Steps p.tables e below (T_2.setTop (mkF m 58 #[rv a0, iv 0, iv 2, rv b_1, iv 2, oU] [(.ref b_1)])) _
    jvm_step X_2.here [X_2.here.top, hx, (hb hby d11_58), X_2.method', Bd.returns, Value.isRef, FieldType.isReference]
    first | (intro acts; rw [hr _ acts rfl rfl rfl]) | rw [hr _ _ rfl rfl rfl]
    exact Steps.refl _
  · show Qcpr2 Z a0 kc ch0 ch1 h0 n0 _ T_2.heap _
    exact ⟨b_1, k_1, rfl, N_2, c3, sz_b_1, VN_2⟩
theorem ef_cmp3 (m : MethodId) (a0 : Addr) (a2 : Addr) : entryFrame m #[(.ref a0), (.int 0), (.ref a2), (.int 0), (.int 3)] 7 = mkF m 0 #[rv a0, iv 0, rv a2, iv 0, iv 3, oU, oU] [] := by first | (simp [entryFrame, mkF, argsToLocals, Value.category]; done) | rfl
def Qcmp3 (Z : State) (a0 : Addr) (a2 : Addr) (kc : ClassId) (kb : ClassId) (ch0 : Int32) (ch1 : Int32) (ch2 : Int32) (h0 : Heap) (n0 : Nat) (v : Option Value) (h : Heap) (L : List Loc) : Prop := v = some (.int 3) ∧ Fr n0 L ∧ Keep h0 h [a2] ∧ Arv Z h a2 kb .byte (3 : Int32) [(.int (own_byte ch0)), (.int (own_byte ch1)), (.int (own_byte ch2))] (.int (0 : Int32))
theorem rmcmp3 (l : Launch) (Z : State) (av0 : Array Value) (hw : ∀ d ∈ tables_1, d.before av0 Z = true) (ws : List Jvm.Cond) (a0 : Addr) (a2 : Addr) (kc : ClassId) (kb : ClassId) (ch0 : Int32) (ch1 : Int32) (ch2 : Int32) (h0 : Heap) (n0 : Nat) (Z0 : n0 ≤ h0.size) (VC : Arv Z h0 a0 kc .char (3 : Int32) [(.int ch0), (.int ch1), (.int ch2)] (.int (0 : Int32))) (VB : Arv Z h0 a2 kb .byte (3 : Int32) [(.int (0 : Int32)), (.int (0 : Int32)), (.int (0 : Int32))] (.int (0 : Int32))) (g_a2 : n0 ≤ a2) (nea : a0 ≠ a2) (hp0 : ¬ ((255 : Int32) < ch0)) (hp1 : ¬ ((255 : Int32) < ch1)) (hp2 : ¬ ((255 : Int32) < ch2)) :
    MetFree l own_m13 (head1 (Jvm.Cond.code own_m13 jdk_52_method_21_code 7 (some .int) :: ws) ({ frames := 0, cells := 0, slots := 0, locals := 0 } : Room)) (fun a U => a = #[(.ref a0), (.int 0), (.ref a2), (.int 0), (.int 3)] ∧ Z.Warmed39 U.vm ∧ U.heap = h0) (fun _ _ _ _ _ => True) (fun _ U o U' => ∃ v L, o = .returned v ∧ Qcmp3 Z a0 a2 kc kb ch0 ch1 ch2 h0 n0 v U'.heap L ∧ FrameEnd U o U' L ({ frames := 0, cells := 0, slots := 0, locals := 0 } : Room).cells ({ frames := 0, cells := 0, slots := 0, locals := 0 } : Room).slots) := by
  refine MetFree.of_bodySF (plainFor_of_name pn_12) hisR ?_
  intro p e s m args below meth c s₁ Bd hml0 hP hK
  obtain ⟨rfl, hZ, hh⟩ := hP
  have hx := Bd.exec
  have hby := Bd.bytes
  have hml : c.maxLocals = 7 := hml0
  have hown : s.vm.findClass "java/lang/StringUTF16" = some m.cls := findClass_of_methodNamed Bd.named
  have X0 : Stand p l e ({ frames := 0, cells := 0, slots := 0, locals := 0 } : Room) s m #[(.ref a0), (.int 0), (.ref a2), (.int 0), (.int 3)] below meth c s₁ [] 0 0 := Stand.of_body Bd
  have e0 : s₁.heap = h0 := by rw [← hh, Bd.state]; rfl
  have N0 := Fr.nil n0
  have K0 : Keep h0 h0 [a2] := Keep.refl h0 [a2]
  refine own_go (B := s₁.setTop (mkF m 0 #[rv a0, iv 0, rv a2, iv 0, iv 3, oU, oU] [])) (fun t k => castTop (ef_cmp3 m a0 a2) k) ?_
  refine own_go (B := s₁.setTop (mkF m 7 #[rv a0, iv 0, rv a2, iv 0, iv 3, iv 0, oU] [(.int 3), (.int 0)])) (fun t k => ?_) ?_
  · refine XS.iconst X0.here hx rfl (hb hby d12_0) ?_
    refine XS.istore X0.here hx rfl (hb hby d12_1) rfl (l' := #[rv a0, iv 0, rv a2, iv 0, iv 3, iv 0, oU]) rfl ?_
    refine XS.iload X0.here hx rfl (hb hby d12_3) rfl ?_
    refine XS.iload X0.here hx rfl (hb hby d12_5) rfl ?_
    exact k
  refine own_go (B := s₁.setTop (mkF m 10 #[rv a0, iv 0, rv a2, iv 0, iv 3, iv 0, oU] [])) (fun t k => ?_) ?_
  · refine XS.icmpNo X0.here hx rfl (hb hby d12_7) rfl (tlt (by decide : (0 : Int32) < (3 : Int32))).2.1 ?_
    exact k
  refine own_go (B := s₁.setTop (mkF m 12 #[rv a0, iv 0, rv a2, iv 0, iv 3, iv 0, oU] [(.int 0), (.ref a0)])) (fun t k => ?_) ?_
  · refine XS.aloadN X0.here hx rfl (hb hby d12_10) rfl rfl ?_
    refine XS.iloadN X0.here hx rfl (hb hby d12_11) rfl ?_
    exact k
  obtain ⟨cl_1, Ar_1, q_1, S_1, M_1, H_1, G_1⟩ := id VC
  have hin_1 : ¬ ((0 : Int32) < 0 ∨ cl_1.slots.size ≤ ((0 : Int32)).toNatClampNeg) := inb_of S_1 ⟨by decide, by decide⟩
  have hat_1 : cl_1.slots[((0 : Int32)).toNatClampNeg]? = some (.int ch0) := H_1.at hin_1 rfl
  refine own_go (B := s₁.setTop (mkF m 13 #[rv a0, iv 0, rv a2, iv 0, iv 3, iv 0, oU] [(.int ch0)])) (fun t k => X0.caload hx (j := (0 : Int32)) (v := (.int ch0)) (by rw [(e0 : _ = _)]; exact Ar_1.1) (State.isArrayOf_alike hZ.alike Ar_1.2.1) Ar_1.2.2 hin_1 hat_1 (g := (mkF m 12 #[rv a0, iv 0, rv a2, iv 0, iv 3, iv 0, oU] [(.int 0), (.ref a0)])) rfl rfl (hb hby d12_12) t k) ?_
  refine own_go (B := s₁.setTop (mkF m 20 #[rv a0, iv 0, rv a2, iv 0, iv 3, iv 0, iv ch0] [(.int 255), (.int ch0)])) (fun t k => ?_) ?_
  · refine XS.istore X0.here hx rfl (hb hby d12_13) rfl (l' := #[rv a0, iv 0, rv a2, iv 0, iv 3, iv 0, iv ch0]) rfl ?_
    refine XS.iload X0.here hx rfl (hb hby d12_15) rfl ?_
    refine XS.sipush X0.here hx rfl (hb hby d12_17) ?_
    exact k
  refine own_go (B := s₁.setTop (mkF m 26 #[rv a0, iv 0, rv a2, iv 0, iv 3, iv 0, iv ch0] [])) (fun t k => ?_) ?_
  · refine XS.icmpYes X0.here hx rfl (pc0 := 20) (pc' := 26) rfl (hb hby d12_20) rfl (flt hp0).2.2.2 (by decide) (by decide) ?_
    exact k
  refine own_go (B := s₁.setTop (mkF m 31 #[rv a0, iv 0, rv a2, iv 0, iv 3, iv 0, iv ch0] [(.int (ch0.toInt8.toInt32)), (.int 0), (.ref a2)])) (fun t k => ?_) ?_
  · refine XS.aloadN X0.here hx rfl (hb hby d12_26) rfl rfl ?_
    refine XS.iloadN X0.here hx rfl (hb hby d12_27) rfl ?_
    refine XS.iload X0.here hx rfl (hb hby d12_28) rfl ?_
    refine XS.i2b X0.here hx rfl (hb hby d12_30) rfl ?_
    exact k
  obtain ⟨cl_2, Ar_2, q_2, S_2, M_2, H_2, G_2⟩ := id VB
  have hin_2 : ¬ ((0 : Int32) < 0 ∨ cl_2.slots.size ≤ ((0 : Int32)).toNatClampNeg) := inb_of S_2 ⟨by decide, by decide⟩
  obtain ⟨T_2, h_2, X_2, e_2, W_2, st_2⟩ := stB X0 hx hZ e0 Ar_2 (j := (0 : Int32)) hin_2 (g := (mkF m 31 #[rv a0, iv 0, rv a2, iv 0, iv 3, iv 0, iv ch0] [(.int (ch0.toInt8.toInt32)), (.int 0), (.ref a2)])) rfl rfl (hb hby d12_31)
  have c1 := K0.wr W_2 (Or.inl (List.mem_of_getElem? (i := 0) rfl))
  have c2 := VC.other W_2 nea
  have V_2 : Arv Z h_2 a2 kb .byte (3 : Int32) [(.int (nar .byte (ch0.toInt8.toInt32))), (.int 0), (.int 0)] (.int (0 : Int32)) := Arv.set Ar_2 q_2 S_2 M_2 H_2 G_2 (fits_nar_byte _) W_2 0 rfl (Nat.le_of_ble_eq_true rfl)
  have N_2 := Fr.snoc X_2 N0 g_a2
  have Z0__2 : n0 ≤ h_2.size := by rw [W_2.size]; exact Z0
  refine own_go (fun t k => st_2 t k) ?_
  refine own_go (B := T_2.setTop (mkF m 7 #[rv a0, iv 1, rv a2, iv 1, iv 3, iv 1, iv ch0] [(.int 3), (.int 1)])) (fun t k => ?_) ?_
  · refine XS.iinc X_2.here hx rfl (hb hby d12_32) rfl (l' := #[rv a0, iv 1, rv a2, iv 0, iv 3, iv 0, iv ch0]) rfl ?_
    refine XS.iinc X_2.here hx rfl (hb hby d12_35) rfl (l' := #[rv a0, iv 1, rv a2, iv 1, iv 3, iv 0, iv ch0]) rfl ?_
    refine XS.iinc X_2.here hx rfl (hb hby d12_38) rfl (l' := #[rv a0, iv 1, rv a2, iv 1, iv 3, iv 1, iv ch0]) rfl ?_
    refine XS.goto X_2.here hx rfl (pc0 := 41) (pc' := 3) rfl (hb hby d12_41) (by decide) (by decide) ?_
    refine XS.iload X_2.here hx rfl (hb hby d12_3) rfl ?_
    refine XS.iload X_2.here hx rfl (hb hby d12_5) rfl ?_
    exact k
  refine own_go (B := T_2.setTop (mkF m 10 #[rv a0, iv 1, rv a2, iv 1, iv 3, iv 1, iv ch0] [])) (fun t k => ?_) ?_
  · refine XS.icmpNo X_2.here hx rfl (hb hby d12_7) rfl (tlt (by decide : (1 : Int32) < (3 : Int32))).2.1 ?_
    exact k
  refine own_go (B := T_2.setTop (mkF m 12 #[rv a0, iv 1, rv a2, iv 1, iv 3, iv 1, iv ch0] [(.int 1), (.ref a0)])) (fun t k => ?_) ?_
  · refine XS.aloadN X_2.here hx rfl (hb hby d12_10) rfl rfl ?_
    refine XS.iloadN X_2.here hx rfl (hb hby d12_11) rfl ?_
    exact k
  obtain ⟨cl_3, Ar_3, q_3, S_3, M_3, H_3, G_3⟩ := id c2
  have hin_3 : ¬ ((1 : Int32) < 0 ∨ cl_3.slots.size ≤ ((1 : Int32)).toNatClampNeg) := inb_of S_3 ⟨by decide, by decide⟩
  have hat_3 : cl_3.slots[((1 : Int32)).toNatClampNeg]? = some (.int ch1) := H_3.at hin_3 rfl
  refine own_go (B := T_2.setTop (mkF m 13 #[rv a0, iv 1, rv a2, iv 1, iv 3, iv 1, iv ch0] [(.int ch1)])) (fun t k => X_2.caload hx (j := (1 : Int32)) (v := (.int ch1)) (by rw [(e_2 : _ = _)]; exact Ar_3.1) (State.isArrayOf_alike hZ.alike Ar_3.2.1) Ar_3.2.2 hin_3 hat_3 (g := (mkF m 12 #[rv a0, iv 1, rv a2, iv 1, iv 3, iv 1, iv ch0] [(.int 1), (.ref a0)])) rfl rfl (hb hby d12_12) t k) ?_
  refine own_go (B := T_2.setTop (mkF m 20 #[rv a0, iv 1, rv a2, iv 1, iv 3, iv 1, iv ch1] [(.int 255), (.int ch1)])) (fun t k => ?_) ?_
  · refine XS.istore X_2.here hx rfl (hb hby d12_13) rfl (l' := #[rv a0, iv 1, rv a2, iv 1, iv 3, iv 1, iv ch1]) rfl ?_
    refine XS.iload X_2.here hx rfl (hb hby d12_15) rfl ?_
    refine XS.sipush X_2.here hx rfl (hb hby d12_17) ?_
    exact k
  refine own_go (B := T_2.setTop (mkF m 26 #[rv a0, iv 1, rv a2, iv 1, iv 3, iv 1, iv ch1] [])) (fun t k => ?_) ?_
  · refine XS.icmpYes X_2.here hx rfl (pc0 := 20) (pc' := 26) rfl (hb hby d12_20) rfl (flt hp1).2.2.2 (by decide) (by decide) ?_
    exact k
  refine own_go (B := T_2.setTop (mkF m 31 #[rv a0, iv 1, rv a2, iv 1, iv 3, iv 1, iv ch1] [(.int (ch1.toInt8.toInt32)), (.int 1), (.ref a2)])) (fun t k => ?_) ?_
  · refine XS.aloadN X_2.here hx rfl (hb hby d12_26) rfl rfl ?_
    refine XS.iloadN X_2.here hx rfl (hb hby d12_27) rfl ?_
    refine XS.iload X_2.here hx rfl (hb hby d12_28) rfl ?_
    refine XS.i2b X_2.here hx rfl (hb hby d12_30) rfl ?_
    exact k
  obtain ⟨cl_4, Ar_4, q_4, S_4, M_4, H_4, G_4⟩ := id V_2
  have hin_4 : ¬ ((1 : Int32) < 0 ∨ cl_4.slots.size ≤ ((1 : Int32)).toNatClampNeg) := inb_of S_4 ⟨by decide, by decide⟩
  obtain ⟨T_4, h_4, X_4, e_4, W_4, st_4⟩ := stB X_2 hx hZ e_2 Ar_4 (j := (1 : Int32)) hin_4 (g := (mkF m 31 #[rv a0, iv 1, rv a2, iv 1, iv 3, iv 1, iv ch1] [(.int (ch1.toInt8.toInt32)), (.int 1), (.ref a2)])) rfl rfl (hb hby d12_31)
  have c3 := c1.wr W_4 (Or.inl (List.mem_of_getElem? (i := 0) rfl))
  have c4 := c2.other W_4 nea
  have V_4 : Arv Z h_4 a2 kb .byte (3 : Int32) [(.int (nar .byte (ch0.toInt8.toInt32))), (.int (nar .byte (ch1.toInt8.toInt32))), (.int 0)] (.int (0 : Int32)) := Arv.set Ar_4 q_4 S_4 M_4 H_4 G_4 (fits_nar_byte _) W_4 1 rfl (Nat.le_of_ble_eq_true rfl)
  have N_4 := Fr.snoc X_4 N_2 g_a2
  have Z0__4 : n0 ≤ h_4.size := by rw [W_4.size]; exact Z0__2
  refine own_go (fun t k => st_4 t k) ?_
  refine own_go (B := T_4.setTop (mkF m 7 #[rv a0, iv 2, rv a2, iv 2, iv 3, iv 2, iv ch1] [(.int 3), (.int 2)])) (fun t k => ?_) ?_
  · refine XS.iinc X_4.here hx rfl (hb hby d12_32) rfl (l' := #[rv a0, iv 2, rv a2, iv 1, iv 3, iv 1, iv ch1]) rfl ?_
    refine XS.iinc X_4.here hx rfl (hb hby d12_35) rfl (l' := #[rv a0, iv 2, rv a2, iv 2, iv 3, iv 1, iv ch1]) rfl ?_
    refine XS.iinc X_4.here hx rfl (hb hby d12_38) rfl (l' := #[rv a0, iv 2, rv a2, iv 2, iv 3, iv 2, iv ch1]) rfl ?_
    refine XS.goto X_4.here hx rfl (pc0 := 41) (pc' := 3) rfl (hb hby d12_41) (by decide) (by decide) ?_
    refine XS.iload X_4.here hx rfl (hb hby d12_3) rfl ?_
    refine XS.iload X_4.here hx rfl (hb hby d12_5) rfl ?_
    exact k
  refine own_go (B := T_4.setTop (mkF m 10 #[rv a0, iv 2, rv a2, iv 2, iv 3, iv 2, iv ch1] [])) (fun t k => ?_) ?_
  · refine XS.icmpNo X_4.here hx rfl (hb hby d12_7) rfl (tlt (by decide : (2 : Int32) < (3 : Int32))).2.1 ?_
    exact k
  refine own_go (B := T_4.setTop (mkF m 12 #[rv a0, iv 2, rv a2, iv 2, iv 3, iv 2, iv ch1] [(.int 2), (.ref a0)])) (fun t k => ?_) ?_
  · refine XS.aloadN X_4.here hx rfl (hb hby d12_10) rfl rfl ?_
    refine XS.iloadN X_4.here hx rfl (hb hby d12_11) rfl ?_
    exact k
  obtain ⟨cl_5, Ar_5, q_5, S_5, M_5, H_5, G_5⟩ := id c4
  have hin_5 : ¬ ((2 : Int32) < 0 ∨ cl_5.slots.size ≤ ((2 : Int32)).toNatClampNeg) := inb_of S_5 ⟨by decide, by decide⟩
  have hat_5 : cl_5.slots[((2 : Int32)).toNatClampNeg]? = some (.int ch2) := H_5.at hin_5 rfl
  refine own_go (B := T_4.setTop (mkF m 13 #[rv a0, iv 2, rv a2, iv 2, iv 3, iv 2, iv ch1] [(.int ch2)])) (fun t k => X_4.caload hx (j := (2 : Int32)) (v := (.int ch2)) (by rw [(e_4 : _ = _)]; exact Ar_5.1) (State.isArrayOf_alike hZ.alike Ar_5.2.1) Ar_5.2.2 hin_5 hat_5 (g := (mkF m 12 #[rv a0, iv 2, rv a2, iv 2, iv 3, iv 2, iv ch1] [(.int 2), (.ref a0)])) rfl rfl (hb hby d12_12) t k) ?_
  refine own_go (B := T_4.setTop (mkF m 20 #[rv a0, iv 2, rv a2, iv 2, iv 3, iv 2, iv ch2] [(.int 255), (.int ch2)])) (fun t k => ?_) ?_
  · refine XS.istore X_4.here hx rfl (hb hby d12_13) rfl (l' := #[rv a0, iv 2, rv a2, iv 2, iv 3, iv 2, iv ch2]) rfl ?_
    refine XS.iload X_4.here hx rfl (hb hby d12_15) rfl ?_
    refine XS.sipush X_4.here hx rfl (hb hby d12_17) ?_
    exact k
  refine own_go (B := T_4.setTop (mkF m 26 #[rv a0, iv 2, rv a2, iv 2, iv 3, iv 2, iv ch2] [])) (fun t k => ?_) ?_
  · refine XS.icmpYes X_4.here hx rfl (pc0 := 20) (pc' := 26) rfl (hb hby d12_20) rfl (flt hp2).2.2.2 (by decide) (by decide) ?_
    exact k
  refine own_go (B := T_4.setTop (mkF m 31 #[rv a0, iv 2, rv a2, iv 2, iv 3, iv 2, iv ch2] [(.int (ch2.toInt8.toInt32)), (.int 2), (.ref a2)])) (fun t k => ?_) ?_
  · refine XS.aloadN X_4.here hx rfl (hb hby d12_26) rfl rfl ?_
    refine XS.iloadN X_4.here hx rfl (hb hby d12_27) rfl ?_
    refine XS.iload X_4.here hx rfl (hb hby d12_28) rfl ?_
    refine XS.i2b X_4.here hx rfl (hb hby d12_30) rfl ?_
    exact k
  obtain ⟨cl_6, Ar_6, q_6, S_6, M_6, H_6, G_6⟩ := id V_4
  have hin_6 : ¬ ((2 : Int32) < 0 ∨ cl_6.slots.size ≤ ((2 : Int32)).toNatClampNeg) := inb_of S_6 ⟨by decide, by decide⟩
  obtain ⟨T_6, h_6, X_6, e_6, W_6, st_6⟩ := stB X_4 hx hZ e_4 Ar_6 (j := (2 : Int32)) hin_6 (g := (mkF m 31 #[rv a0, iv 2, rv a2, iv 2, iv 3, iv 2, iv ch2] [(.int (ch2.toInt8.toInt32)), (.int 2), (.ref a2)])) rfl rfl (hb hby d12_31)
  have c5 := c3.wr W_6 (Or.inl (List.mem_of_getElem? (i := 0) rfl))
  have c6 := c4.other W_6 nea
  have V_6 : Arv Z h_6 a2 kb .byte (3 : Int32) [(.int (nar .byte (ch0.toInt8.toInt32))), (.int (nar .byte (ch1.toInt8.toInt32))), (.int (nar .byte (ch2.toInt8.toInt32)))] (.int (0 : Int32)) := Arv.set Ar_6 q_6 S_6 M_6 H_6 G_6 (fits_nar_byte _) W_6 2 rfl (Nat.le_of_ble_eq_true rfl)
  have N_6 := Fr.snoc X_6 N_4 g_a2
  have Z0__6 : n0 ≤ h_6.size := by rw [W_6.size]; exact Z0__4
  refine own_go (fun t k => st_6 t k) ?_
  refine own_go (B := T_6.setTop (mkF m 7 #[rv a0, iv 3, rv a2, iv 3, iv 3, iv 3, iv ch2] [(.int 3), (.int 3)])) (fun t k => ?_) ?_
  · refine XS.iinc X_6.here hx rfl (hb hby d12_32) rfl (l' := #[rv a0, iv 3, rv a2, iv 2, iv 3, iv 2, iv ch2]) rfl ?_
    refine XS.iinc X_6.here hx rfl (hb hby d12_35) rfl (l' := #[rv a0, iv 3, rv a2, iv 3, iv 3, iv 2, iv ch2]) rfl ?_
    refine XS.iinc X_6.here hx rfl (hb hby d12_38) rfl (l' := #[rv a0, iv 3, rv a2, iv 3, iv 3, iv 3, iv ch2]) rfl ?_
    refine XS.goto X_6.here hx rfl (pc0 := 41) (pc' := 3) rfl (hb hby d12_41) (by decide) (by decide) ?_
    refine XS.iload X_6.here hx rfl (hb hby d12_3) rfl ?_
    refine XS.iload X_6.here hx rfl (hb hby d12_5) rfl ?_
    exact k
  refine own_go (B := T_6.setTop (mkF m 44 #[rv a0, iv 3, rv a2, iv 3, iv 3, iv 3, iv ch2] [])) (fun t k => ?_) ?_
  · refine XS.icmpYes X_6.here hx rfl (pc0 := 7) (pc' := 44) rfl (hb hby d12_7) rfl (flt (by decide : ¬ ((3 : Int32) < (3 : Int32)))).2.1 (by decide) (by decide) ?_
    exact k
  refine own_go (B := T_6.setTop (mkF m 46 #[rv a0, iv 3, rv a2, iv 3, iv 3, iv 3, iv ch2] [(.int 3)])) (fun t k => ?_) ?_
  · refine XS.iload X_6.here hx rfl (hb hby d12_44) rfl ?_
    exact k
  obtain ⟨fs, hr, hrun, hended, hW, hsame⟩ := X_6.leave (v := some (.int 3)) (fun h => by rw [Bd.returns] at h; cases h)
  refine ⟨_, _, ?_, hrun, hended, _, _, rfl, ?_, ⟨_, rfl⟩, hW, hsame.mono (by decide) (by decide)⟩
  · show Steps p.tables e below (T_6.setTop (mkF m 46 #[rv a0, iv 3, rv a2, iv 3, iv 3, iv 3, iv ch2] [(.int 3)])) _
    exact retI X_6 hx Bd.returns (hb hby d12_46) hr
  · show Qcmp3 Z a0 a2 kc kb ch0 ch1 ch2 h0 n0 _ T_6.heap _
    rw [e_6]
    exact ⟨rfl, N_6, c5, V_6⟩
theorem ef_cpr3 (m : MethodId) (a0 : Addr) : entryFrame m #[(.ref a0), (.int 0), (.int 3)] 6 = mkF m 0 #[rv a0, iv 0, iv 3, oU, oU, oU] [] := by first | (simp [entryFrame, mkF, argsToLocals, Value.category]; done) | rfl
def Qcpr3 (Z : State) (a0 : Addr) (kc : ClassId) (ch0 : Int32) (ch1 : Int32) (ch2 : Int32) (h0 : Heap) (n0 : Nat) (v : Option Value) (h : Heap) (L : List Loc) : Prop := ∃ (b : Addr) (kb : ClassId), v = some (.ref b) ∧ Fr n0 L ∧ Keep h0 h [] ∧ h0.size ≤ b ∧ Arv Z h b kb .byte (3 : Int32) [(.int (own_byte ch0)), (.int (own_byte ch1)), (.int (own_byte ch2))] (.int (0 : Int32))
theorem rmcpr3 (l : Launch) (Z : State) (av0 : Array Value) (hw : ∀ d ∈ tables_1, d.before av0 Z = true) (ws : List Jvm.Cond) (a0 : Addr) (kc : ClassId) (ch0 : Int32) (ch1 : Int32) (ch2 : Int32) (h0 : Heap) (n0 : Nat) (Z0 : n0 ≤ h0.size) (VC : Arv Z h0 a0 kc .char (3 : Int32) [(.int ch0), (.int ch1), (.int ch2)] (.int (0 : Int32))) (hp0 : ¬ ((255 : Int32) < ch0)) (hp1 : ¬ ((255 : Int32) < ch1)) (hp2 : ¬ ((255 : Int32) < ch2)) :
    MetFree l own_m12 (head1 (Jvm.Cond.code own_m12 jdk_52_method_16_code 6 (some (.array .byte)) :: ws) ({ frames := 1, cells := 1, slots := 3, locals := 18 } : Room)) (fun a U => a = #[(.ref a0), (.int 0), (.int 3)] ∧ Z.Warmed39 U.vm ∧ U.heap = h0) (fun _ _ _ _ _ => True) (fun _ U o U' => ∃ v L, o = .returned v ∧ Qcpr3 Z a0 kc ch0 ch1 ch2 h0 n0 v U'.heap L ∧ FrameEnd U o U' L ({ frames := 1, cells := 1, slots := 3, locals := 18 } : Room).cells ({ frames := 1, cells := 1, slots := 3, locals := 18 } : Room).slots) := by
  refine MetFree.of_bodySF (plainFor_of_name pn_11) hisR ?_
  intro p e s m args below meth c s₁ Bd hml0 hP hK
  obtain ⟨rfl, hZ, hh⟩ := hP
  have hx := Bd.exec
  have hby := Bd.bytes
  have hml : c.maxLocals = 6 := hml0
  have hown : s.vm.findClass "java/lang/StringUTF16" = some m.cls := findClass_of_methodNamed Bd.named
  have X0 : Stand p l e ({ frames := 1, cells := 1, slots := 3, locals := 18 } : Room) s m #[(.ref a0), (.int 0), (.int 3)] below meth c s₁ [] 0 0 := Stand.of_body Bd
  have e0 : s₁.heap = h0 := by rw [← hh, Bd.state]; rfl
  have N0 := Fr.nil n0
  have K0 : Keep h0 h0 [] := Keep.refl h0 []
  refine own_go (B := s₁.setTop (mkF m 0 #[rv a0, iv 0, iv 3, oU, oU, oU] [])) (fun t k => castTop (ef_cpr3 m a0) k) ?_
  refine own_go (B := s₁.setTop (mkF m 1 #[rv a0, iv 0, iv 3, oU, oU, oU] [(.int 3)])) (fun t k => ?_) ?_
  · refine XS.iloadN X0.here hx rfl (hb hby d11_0) rfl ?_
    exact k
  obtain ⟨T_1, h_1, k_1, X_1, e_1, E_1, A_1, st_1⟩ := newP X0 hx hZ (own_w hw 19 rfl) e0 (g := (mkF m 1 #[rv a0, iv 0, iv 3, oU, oU, oU] [(.int 3)])) rfl (hb hby d11_1) rfl (by decide) (cap := 3) (by decide) (by decide) (by decide) (by decide)
  obtain ⟨b_1, g_1⟩ : ∃ z, z = h0.size := ⟨_, rfl⟩
  rw [← g_1] at A_1 st_1
  have g_b_1 : n0 ≤ b_1 := Nat.le_trans Z0 (Nat.le_of_eq g_1.symm)
  have sz_b_1 : h0.size ≤ b_1 := Nat.le_trans K0.1 (Nat.le_of_eq g_1.symm)
  have ne_a0_b_1 : a0 ≠ b_1 := Nat.ne_of_lt (Nat.lt_of_lt_of_le (VC).lt (Nat.le_of_eq g_1.symm))
  have c1 := K0.ext E_1
  have c2 := VC.ext E_1
  have Z0__1 : n0 ≤ h_1.size := Nat.le_trans Z0 E_1.1
  have V_b_1 : Arv Z h_1 b_1 k_1 .byte (3 : Int32) [(.int (0 : Int32)), (.int (0 : Int32)), (.int (0 : Int32))] (.int (0 : Int32)) := (Arv.new A_1 (by decide)).pad (pad_rep [] (.int (0 : Int32)) 3)
  refine own_go (fun t k => st_1 t k) ?_
  refine own_go (B := T_1.setTop (mkF m 9 #[rv a0, iv 0, iv 3, rv b_1, oU, oU] [(.int 3), (.int 0), (.ref b_1), (.int 0), (.ref a0)])) (fun t k => ?_) ?_
  · refine XS.astoreN X_1.here hx rfl (hb hby d11_3) rfl rfl (l' := #[rv a0, iv 0, iv 3, rv b_1, oU, oU]) rfl ?_
    refine XS.aloadN X_1.here hx rfl (hb hby d11_4) rfl rfl ?_
    refine XS.iloadN X_1.here hx rfl (hb hby d11_5) rfl ?_
    refine XS.aloadN X_1.here hx rfl (hb hby d11_6) rfl rfl ?_
    refine XS.iconst X_1.here hx rfl (hb hby d11_7) ?_
    refine XS.iloadN X_1.here hx rfl (hb hby d11_8) rfl ?_
    exact k
  obtain ⟨_, _, ⟨T_2, L_2, k_2, n_2⟩, -, X_2, ⟨Lc_2, hQ_2, l_2, y_2, z_2⟩, st_2⟩ := Jvm.LawKit.callS X_1 hx (y := own_m13) hown (mvT hZ (own_w hw 80 rfl)) (mvT hZ (own_w hw 81 rfl)) (mvT hZ (own_w hw 78 rfl)) (mvT hZ (own_w hw 82 rfl)) (by decide) (backOf (W := 0) (rmcmp3 l Z av0 hw [] a0 b_1 kc k_1 ch0 ch1 ch2 h_1 n0 Z0__1 c2 V_b_1 g_b_1 ne_a0_b_1 hp0 hp1 hp2) hZ (own_w hw 82 rfl) (own_w hw 78 rfl) (by decide) (by decide)) (g := (mkF m 9 #[rv a0, iv 0, iv 3, rv b_1, oU, oU] [(.int 3), (.int 0), (.ref b_1), (.int 0), (.ref a0)])) rfl (by rw [hml]; rfl) (argsL := [(.ref a0), (.int 0), (.ref b_1), (.int 0), (.int 3)]) (rest := []) (lenOf pd_4 rfl) rfl (by show 2 * 0 + _ ≤ _; exact Nat.le_of_eq rfl) (hb hby d11_9) (fun _ _ => ⟨rfl, e_1, (by decide : 1 + 0 ≤ _), (by decide : 3 + 0 ≤ _)⟩)
  dsimp only [Pt.U, Pt.locs, Pt.cells, Pt.slots] at X_2 l_2 y_2 z_2 st_2 hQ_2
  subst l_2 y_2 z_2
  obtain ⟨rfl, N_2q, K_2, VN_2⟩ := hQ_2
  have N_2 := Fr.app N0 N_2q
  have c3 := c1.trans K_2 (allS (Or.inr sz_b_1) all0)
  have c4 := c2.keep K_2 (ninS ne_a0_b_1 nin0)
  have Z0__2 : n0 ≤ T_2.heap.size := Nat.le_trans Z0__1 K_2.1
  refine own_go (fun t k => st_2 t k) ?_
  refine own_go (B := T_2.setTop (mkF m 17 #[rv a0, iv 0, iv 3, rv b_1, iv 3, oU] [(.int 3), (.int 3)])) (fun t k => ?_) ?_
  · refine XS.istore X_2.here hx rfl (hb hby d11_12) rfl (l' := #[rv a0, iv 0, iv 3, rv b_1, iv 3, oU]) rfl ?_
    refine XS.iload X_2.here hx rfl (hb hby d11_14) rfl ?_
    refine XS.iloadN X_2.here hx rfl (hb hby d11_16) rfl ?_
    exact k
  refine own_go (B := T_2.setTop (mkF m 57 #[rv a0, iv 0, iv 3, rv b_1, iv 3, oU] [])) (fun t k => ?_) ?_
  · refine XS.icmpYes X_2.here hx rfl (pc0 := 17) (pc' := 57) rfl (hb hby d11_17) rfl (teq (by decide : (3 : Int32) = (3 : Int32))).1 (by decide) (by decide) ?_
    exact k
  refine own_go (B := T_2.setTop (mkF m 58 #[rv a0, iv 0, iv 3, rv b_1, iv 3, oU] [(.ref b_1)])) (fun t k => ?_) ?_
  · refine XS.aloadN X_2.here hx rfl (hb hby d11_57) rfl rfl ?_
    exact k
  obtain ⟨fs, hr, hrun, hended, hW, hsame⟩ := X_2.leave (v := some (.ref b_1)) (fun h => by rw [Bd.returns] at h; cases h)
  refine ⟨_, _, ?_, hrun, hended, _, _, rfl, ?_, ⟨_, rfl⟩, hW, hsame.mono (by decide) (by decide)⟩
  · show Steps p.tables e below (T_2.setTop (mkF m 58 #[rv a0, iv 0, iv 3, rv b_1, iv 3, oU] [(.ref b_1)])) _
    jvm_step X_2.here [X_2.here.top, hx, (hb hby d11_58), X_2.method', Bd.returns, Value.isRef, FieldType.isReference]
    first | (intro acts; rw [hr _ acts rfl rfl rfl]) | rw [hr _ _ rfl rfl rfl]
    exact Steps.refl _
  · show Qcpr3 Z a0 kc ch0 ch1 ch2 h0 n0 _ T_2.heap _
    exact ⟨b_1, k_1, rfl, N_2, c3, sz_b_1, VN_2⟩
theorem d13_0 : decode jdk_52_method_15_code 0 = .ok (.iload_n 1, 1) := by decide +kernel
theorem d13_1 : decode jdk_52_method_15_code 1 = .ok (.aload_n 0, 1) := by decide +kernel
theorem d13_2 : decode jdk_52_method_15_code 2 = .ok (.arraylength, 1) := by decide +kernel
theorem d13_3 : decode jdk_52_method_15_code 3 = .ok (.isub, 1) := by decide +kernel
theorem d13_4 : decode jdk_52_method_15_code 4 = .ok (.bipush 31, 2) := by decide +kernel
theorem d13_6 : decode jdk_52_method_15_code 6 = .ok (.iushr, 1) := by decide +kernel
theorem d13_7 : decode jdk_52_method_15_code 7 = .ok (.i2b, 1) := by decide +kernel
theorem d13_8 : decode jdk_52_method_15_code 8 = .ok (.ireturn, 1) := by decide +kernel
theorem pn_13 : plainName "java/lang/StringUTF16" = true := by first | (simp [plainName, overriddenIn]; done) | decide +kernel
theorem ef_cfa1 (m : MethodId) (a0 : Addr) : entryFrame m #[(.ref a0), (.int 1)] 2 = mkF m 0 #[rv a0, iv 1] [] := by first | (simp [entryFrame, mkF, argsToLocals, Value.category]; done) | rfl
def Qcfa1 (Z : State) (a0 : Addr) (kb : ClassId) (vs : List Value) (h0 : Heap) (n0 : Nat) (v : Option Value) (h : Heap) (L : List Loc) : Prop := v = some (.int 0) ∧ Fr n0 L ∧ h = h0
theorem rmcfa1 (l : Launch) (Z : State) (av0 : Array Value) (hw : ∀ d ∈ tables_1, d.before av0 Z = true) (ws : List Jvm.Cond) (a0 : Addr) (kb : ClassId) (vs : List Value) (h0 : Heap) (n0 : Nat) (Z0 : n0 ≤ h0.size) (V0 : Arv Z h0 a0 kb .byte (1 : Int32) vs (.int (0 : Int32))) :
    MetFree l own_m14 (head1 (Jvm.Cond.code own_m14 jdk_52_method_15_code 2 (some .byte) :: ws) ({ frames := 0, cells := 0, slots := 0, locals := 0 } : Room)) (fun a U => a = #[(.ref a0), (.int 1)] ∧ Z.Warmed39 U.vm ∧ U.heap = h0) (fun _ _ _ _ _ => True) (fun _ U o U' => ∃ v L, o = .returned v ∧ Qcfa1 Z a0 kb vs h0 n0 v U'.heap L ∧ FrameEnd U o U' L ({ frames := 0, cells := 0, slots := 0, locals := 0 } : Room).cells ({ frames := 0, cells := 0, slots := 0, locals := 0 } : Room).slots) := by
  refine MetFree.of_bodySF (plainFor_of_name pn_13) hisR ?_
  intro p e s m args below meth c s₁ Bd hml0 hP hK
  obtain ⟨rfl, hZ, hh⟩ := hP
  have hx := Bd.exec
  have hby := Bd.bytes
  have hml : c.maxLocals = 2 := hml0
  have hown : s.vm.findClass "java/lang/StringUTF16" = some m.cls := findClass_of_methodNamed Bd.named
  have X0 : Stand p l e ({ frames := 0, cells := 0, slots := 0, locals := 0 } : Room) s m #[(.ref a0), (.int 1)] below meth c s₁ [] 0 0 := Stand.of_body Bd
  have e0 : s₁.heap = h0 := by rw [← hh, Bd.state]; rfl
  have N0 := Fr.nil n0
  have K0 : Keep h0 h0 [] := Keep.refl h0 []
  refine own_go (B := s₁.setTop (mkF m 0 #[rv a0, iv 1] [])) (fun t k => castTop (ef_cfa1 m a0) k) ?_
  refine own_go (B := s₁.setTop (mkF m 2 #[rv a0, iv 1] [(.ref a0), (.int 1)])) (fun t k => ?_) ?_
  · refine XS.iloadN X0.here hx rfl (hb hby d13_0) rfl ?_
    refine XS.aloadN X0.here hx rfl (hb hby d13_1) rfl rfl ?_
    exact k
  obtain ⟨cl_1, Ar_1, -, S_1, M_1, -, -⟩ := id V0
  refine own_go (B := s₁.setTop (mkF m 3 #[rv a0, iv 1] [(.int 1), (.int 1)])) (fun t k => X0.arraylength hx (by rw [(e0 : _ = _)]; exact Ar_1.1) (State.isArrayOf_alike hZ.alike Ar_1.2.1) (g := (mkF m 2 #[rv a0, iv 1] [(.ref a0), (.int 1)])) rfl rfl (hb hby d13_2) t (by rw [len_of S_1 M_1]; exact k)) ?_
  refine own_go (B := s₁.setTop (mkF m 8 #[rv a0, iv 1] [(.int ((((0 : Int32).toUInt32 >>> ((31 : Int32) &&& 31).toUInt32).toInt32).toInt8.toInt32))])) (fun t k => ?_) ?_
  · refine XS.isub X0.here hx rfl (hb hby d13_3) rfl ?_
    refine XS.bipush X0.here hx rfl (hb hby d13_4) ?_
    refine XS.iushr X0.here hx rfl (hb hby d13_6) rfl ?_
    refine XS.i2b X0.here hx rfl (hb hby d13_7) rfl ?_
    exact k
  obtain ⟨fs, hr, hrun, hended, hW, hsame⟩ := X0.leave (v := some (.int (nar .byte ((((0 : Int32).toUInt32 >>> ((31 : Int32) &&& 31).toUInt32).toInt32).toInt8.toInt32)))) (fun h => by rw [Bd.returns] at h; cases h)
  refine ⟨_, _, ?_, hrun, hended, _, _, rfl, ?_, ⟨_, rfl⟩, hW, hsame.mono (by decide) (by decide)⟩
  · show Steps p.tables e below (s₁.setTop (mkF m 8 #[rv a0, iv 1] [(.int ((((0 : Int32).toUInt32 >>> ((31 : Int32) &&& 31).toUInt32).toInt32).toInt8.toInt32))])) _
    exact retN X0 hx (t := .byte) Bd.returns (by simp) (hb hby d13_8) hr
  · show Qcfa1 Z a0 kb vs h0 n0 _ s₁.heap _
    rw [e0]
    exact ⟨congrArg (fun z => some (Value.int z)) (by decide), N0, rfl⟩
theorem d3_0 : decode jdk_42_method_149_code 0 = .ok (.aload_n 0, 1) := by decide +kernel
theorem d3_1 : decode jdk_42_method_149_code 1 = .ok (.invokespecial 1, 3) := by decide +kernel
theorem d3_4 : decode jdk_42_method_149_code 4 = .ok (.iload_n 3, 1) := by decide +kernel
theorem d3_5 : decode jdk_42_method_149_code 5 = .ok (.ifCond .ne 22, 3) := by decide +kernel
theorem d3_27 : decode jdk_42_method_149_code 27 = .ok (.getstatic 38, 3) := by decide +kernel
theorem d3_30 : decode jdk_42_method_149_code 30 = .ok (.ifCond .eq 28, 3) := by decide +kernel
theorem d3_33 : decode jdk_42_method_149_code 33 = .ok (.aload_n 1, 1) := by decide +kernel
theorem d3_34 : decode jdk_42_method_149_code 34 = .ok (.iload_n 2, 1) := by decide +kernel
theorem d3_35 : decode jdk_42_method_149_code 35 = .ok (.iload_n 3, 1) := by decide +kernel
theorem d3_36 : decode jdk_42_method_149_code 36 = .ok (.invokestatic 177, 3) := by decide +kernel
theorem d3_39 : decode jdk_42_method_149_code 39 = .ok (.astore 5, 2) := by decide +kernel
theorem d3_41 : decode jdk_42_method_149_code 41 = .ok (.aload_n 0, 1) := by decide +kernel
theorem d3_42 : decode jdk_42_method_149_code 42 = .ok (.aload 5, 2) := by decide +kernel
theorem d3_44 : decode jdk_42_method_149_code 44 = .ok (.iload_n 3, 1) := by decide +kernel
theorem d3_45 : decode jdk_42_method_149_code 45 = .ok (.invokestatic 47, 3) := by decide +kernel
theorem d3_48 : decode jdk_42_method_149_code 48 = .ok (.putfield 15, 3) := by decide +kernel
theorem d3_51 : decode jdk_42_method_149_code 51 = .ok (.aload_n 0, 1) := by decide +kernel
theorem d3_52 : decode jdk_42_method_149_code 52 = .ok (.aload 5, 2) := by decide +kernel
theorem d3_54 : decode jdk_42_method_149_code 54 = .ok (.putfield 9, 3) := by decide +kernel
theorem d3_57 : decode jdk_42_method_149_code 57 = .ok (.return_, 1) := by decide +kernel
theorem pn_3 : plainName "java/lang/String" = true := by first | (simp [plainName, overriddenIn]; done) | decide +kernel
theorem ef_si4_1 (m : MethodId) (a0 : Addr) (a1 : Addr) : entryFrame m #[(.ref a0), (.ref a1), (.int 0), (.int 1), .null] 6 = mkF m 0 #[rv a0, rv a1, iv 0, iv 1, .val .null, oU] [] := by first | (simp [entryFrame, mkF, argsToLocals, Value.category]; done) | rfl
theorem pd_5 : parseMethodDescriptor "([CII)[B" = some ⟨[(.array .char), .int, .int], some (.array .byte)⟩ := by decide +kernel
theorem pd_6 : parseMethodDescriptor "([BI)B" = some ⟨[(.array .byte), .int], some .byte⟩ := by decide +kernel
def Qsi4_1 (Z : State) (a0 : Addr) (a1 : Addr) (u0 : Value) (u1 : Value) (kc : ClassId) (w : Int32) (ch0 : Int32) (h0 : Heap) (n0 : Nat) (v : Option Value) (h : Heap) (L : List Loc) : Prop := ∃ (b : Addr) (kb : ClassId), v = none ∧ Fr n0 L ∧ Keep h0 h [a0] ∧ Fld Z h a0 "java/lang/String" "coder" "B" (.int (0 : Int32)) ∧ Fld Z h a0 "java/lang/String" "value" "[B" (.ref b) ∧ h0.size ≤ b ∧ Arv Z h b kb .byte (1 : Int32) [(.int (own_byte ch0))] (.int (0 : Int32))
theorem rmsi4_1 (l : Launch) (Z : State) (av0 : Array Value) (hw : ∀ d ∈ tables_1, d.before av0 Z = true) (ws : List Jvm.Cond) (a0 : Addr) (a1 : Addr) (u0 : Value) (u1 : Value) (kc : ClassId) (w : Int32) (ch0 : Int32) (h0 : Heap) (n0 : Nat) (Z0 : n0 ≤ h0.size) (E_a0 : Exa Z h0 a0 "java/lang/String") (F_value_a0 : Fld Z h0 a0 "java/lang/String" "value" "[B" u0) (F_coder_a0 : Fld Z h0 a0 "java/lang/String" "coder" "B" u1) (g_a0 : n0 ≤ a0) (VC : Arv Z h0 a1 kc .char (1 : Int32) [(.int ch0)] (.int (0 : Int32))) (nea : a0 ≠ a1) (S_COMPACT_STRINGS : Sta Z h0 "java/lang/String" "COMPACT_STRINGS" "Z" (.int w)) (hw0 : ¬ (w = (0 : Int32))) (hp0 : ¬ ((255 : Int32) < ch0)) :
    MetFree l own_m4 (head1 (Jvm.Cond.code own_m4 jdk_42_method_149_code 6 none :: ws) ({ frames := 2, cells := 1, slots := 1, locals := 35 } : Room)) (fun a U => a = #[(.ref a0), (.ref a1), (.int 0), (.int 1), .null] ∧ Z.Warmed39 U.vm ∧ U.heap = h0) (fun _ _ _ _ _ => True) (fun _ U o U' => ∃ v L, o = .returned v ∧ Qsi4_1 Z a0 a1 u0 u1 kc w ch0 h0 n0 v U'.heap L ∧ FrameEnd U o U' L ({ frames := 2, cells := 1, slots := 1, locals := 35 } : Room).cells ({ frames := 2, cells := 1, slots := 1, locals := 35 } : Room).slots) := by
  refine MetFree.of_bodySF (plainFor_of_name pn_3) hisR ?_
  intro p e s m args below meth c s₁ Bd hml0 hP hK
  obtain ⟨rfl, hZ, hh⟩ := hP
  have hx := Bd.exec
  have hby := Bd.bytes
  have hml : c.maxLocals = 6 := hml0
  have hown : s.vm.findClass "java/lang/String" = some m.cls := findClass_of_methodNamed Bd.named
  have hnm := (name_of_methodNamed Bd.named Bd.method).1
  have X0 : Stand p l e ({ frames := 2, cells := 1, slots := 1, locals := 35 } : Room) s m #[(.ref a0), (.ref a1), (.int 0), (.int 1), .null] below meth c s₁ [] 0 0 := Stand.of_body Bd
  have e0 : s₁.heap = h0 := by rw [← hh, Bd.state]; rfl
  have N0 := Fr.nil n0
  have K0 : Keep h0 h0 [a0] := Keep.refl h0 [a0]
  refine own_go (B := s₁.setTop (mkF m 0 #[rv a0, rv a1, iv 0, iv 1, .val .null, oU] [])) (fun t k => castTop (ef_si4_1 m a0 a1) k) ?_
  refine own_go (B := s₁.setTop (mkF m 1 #[rv a0, rv a1, iv 0, iv 1, .val .null, oU] [(.ref a0)])) (fun t k => ?_) ?_
  · refine XS.aloadN X0.here hx rfl (hb hby d3_0) rfl rfl ?_
    exact k
  obtain ⟨T_1, X_1, e_1, st_1⟩ := initO X0 hx hZ hown (own_w hw 15 rfl) (own_w hw 16 rfl) (own_w hw 17 rfl) e0 (g := (mkF m 1 #[rv a0, rv a1, iv 0, iv 1, .val .null, oU] [(.ref a0)])) rfl (by rw [hml]; rfl) rfl (hb hby d3_1) (by decide) (W := 0) (by show 2 * 0 + _ ≤ _; exact Nat.le_of_eq rfl) (by decide)
  refine own_go (fun t k => st_1 t k) ?_
  refine own_go (B := T_1.setTop (mkF m 5 #[rv a0, rv a1, iv 0, iv 1, .val .null, oU] [(.int 1)])) (fun t k => ?_) ?_
  · refine XS.iloadN X_1.here hx rfl (hb hby d3_4) rfl ?_
    exact k
  refine own_go (B := T_1.setTop (mkF m 27 #[rv a0, rv a1, iv 0, iv 1, .val .null, oU] [])) (fun t k => ?_) ?_
  · refine XS.ifYes X_1.here hx rfl (pc0 := 5) (pc' := 27) rfl (hb hby d3_5) rfl ((if0 _ _).trans (feq (by decide : ¬ ((1 : Int32) = (0 : Int32)))).2) (by decide) (by decide) ?_
    exact k
  obtain ⟨T_2, X_2, e_2, st_2⟩ := getS2 X_1 hx hZ hown (host := "") (Or.inl (own_w hw 71 rfl)) Via.refl e_1 S_COMPACT_STRINGS (g := (mkF m 27 #[rv a0, rv a1, iv 0, iv 1, .val .null, oU] [])) rfl (hb hby d3_27)
  refine own_go (fun t k => st_2 t k) ?_
  refine own_go (B := T_2.setTop (mkF m 33 #[rv a0, rv a1, iv 0, iv 1, .val .null, oU] [])) (fun t k => ?_) ?_
  · refine XS.ifNo X_2.here hx rfl (hb hby d3_30) rfl ((if0 _ _).trans (feq hw0).1) ?_
    exact k
  refine own_go (B := T_2.setTop (mkF m 36 #[rv a0, rv a1, iv 0, iv 1, .val .null, oU] [(.int 1), (.int 0), (.ref a1)])) (fun t k => ?_) ?_
  · refine XS.aloadN X_2.here hx rfl (hb hby d3_33) rfl rfl ?_
    refine XS.iloadN X_2.here hx rfl (hb hby d3_34) rfl ?_
    refine XS.iloadN X_2.here hx rfl (hb hby d3_35) rfl ?_
    exact k
  have lt_3 := (E_a0).lt
  have kk_3 := K0
  obtain ⟨_, _, ⟨T_3, L_3, k_3, n_3⟩, -, X_3, ⟨Lc_3, hQ_3, l_3, y_3, z_3⟩, st_3⟩ := Jvm.LawKit.callS X_2 hx (y := own_m12) hown (mvT hZ (own_w hw 76 rfl)) (mvT hZ (own_w hw 77 rfl)) (mvT hZ (own_w hw 78 rfl)) (mvT hZ (own_w hw 79 rfl)) (by decide) (backOf (W := 0) (rmcpr1 l Z av0 hw [] a1 kc ch0 h0 n0 Z0 VC hp0) hZ (own_w hw 79 rfl) (own_w hw 78 rfl) (by decide) (by decide)) (g := (mkF m 36 #[rv a0, rv a1, iv 0, iv 1, .val .null, oU] [(.int 1), (.int 0), (.ref a1)])) rfl (by rw [hml]; rfl) (argsL := [(.ref a1), (.int 0), (.int 1)]) (rest := []) (lenOf pd_5 rfl) rfl (by show 2 * 0 + _ ≤ _; exact Nat.le_of_eq rfl) (hb hby d3_36) (fun _ _ => ⟨rfl, e_2, (by decide : 0 + 1 ≤ _), (by decide : 0 + 1 ≤ _)⟩)
  dsimp only [Pt.U, Pt.locs, Pt.cells, Pt.slots] at X_3 l_3 y_3 z_3 st_3 hQ_3
  subst l_3 y_3 z_3
  obtain ⟨b_3, kb_3, rfl, N_3q, K_3, szq_3, VN_3⟩ := hQ_3
  have N_3 := Fr.app N0 N_3q
  have c1 := K0.trans K_3 all0
  have c2 := E_a0.keep K_3
  have c3 := F_value_a0.keep K_3 nin0
  have c4 := F_coder_a0.keep K_3 nin0
  have c5 := own_stak S_COMPACT_STRINGS K_3
  have c6 := VC.keep K_3 nin0
  have Z0__3 : n0 ≤ T_3.heap.size := Nat.le_trans Z0 K_3.1
  have nq_3 : a0 ≠ b_3 := Nat.ne_of_lt (Nat.lt_of_lt_of_le lt_3 szq_3)
  have szh_3 : h0.size ≤ b_3 := Nat.le_trans kk_3.1 szq_3
  refine own_go (fun t k => st_3 t k) ?_
  refine own_go (B := T_3.setTop (mkF m 45 #[rv a0, rv a1, iv 0, iv 1, .val .null, rv b_3] [(.int 1), (.ref b_3), (.ref a0)])) (fun t k => ?_) ?_
  · refine XS.astore X_3.here hx rfl (hb hby d3_39) rfl rfl (l' := #[rv a0, rv a1, iv 0, iv 1, .val .null, rv b_3]) rfl ?_
    refine XS.aloadN X_3.here hx rfl (hb hby d3_41) rfl rfl ?_
    refine XS.aload X_3.here hx rfl (hb hby d3_42) rfl rfl ?_
    refine XS.iloadN X_3.here hx rfl (hb hby d3_44) rfl ?_
    exact k
  obtain ⟨_, _, ⟨T_4, L_4, k_4, n_4⟩, -, X_4, ⟨Lc_4, hQ_4, l_4, y_4, z_4⟩, st_4⟩ := Jvm.LawKit.callS X_3 hx (y := own_m14) hown (mvT hZ (own_w hw 83 rfl)) (mvT hZ (own_w hw 84 rfl)) (mvT hZ (own_w hw 78 rfl)) (mvT hZ (own_w hw 85 rfl)) (by decide) (backOf (W := 1) (rmcfa1 l Z av0 hw [] b_3 kb_3 [(.int (own_byte ch0))] T_3.heap n0 Z0__3 VN_3) hZ (own_w hw 85 rfl) (own_w hw 78 rfl) (by decide) (by decide)) (g := (mkF m 45 #[rv a0, rv a1, iv 0, iv 1, .val .null, rv b_3] [(.int 1), (.ref b_3), (.ref a0)])) rfl (by rw [hml]; rfl) (argsL := [(.ref b_3), (.int 1)]) (rest := [(.ref a0)]) (lenOf pd_6 rfl) rfl (by show 2 * 0 + _ ≤ _; exact Nat.le_of_eq rfl) (hb hby d3_45) (fun _ _ => ⟨rfl, rfl, (by decide : 1 + 0 ≤ _), (by decide : 1 + 0 ≤ _)⟩)
  dsimp only [Pt.U, Pt.locs, Pt.cells, Pt.slots] at X_4 l_4 y_4 z_4 st_4 hQ_4
  subst l_4 y_4 z_4
  obtain ⟨rfl, N_4q, e_4⟩ := hQ_4
  have N_4 := Fr.app N_3 N_4q
  refine own_go (fun t k => st_4 t k) ?_
  obtain ⟨T_5, h_5, X_5, e_5, W_5, st_5⟩ := putFN X_4 hx hZ hown (own_w hw 25 rfl) Via.refl e_4 c4 c2 (Or.inr ⟨(own_w hw 21 rfl), rfl, hnm⟩) (own_w hw 5 rfl) (ty := .byte) (v' := (.int 0)) (by decide) rfl (by decide) (g := (mkF m 48 #[rv a0, rv a1, iv 0, iv 1, .val .null, rv b_3] [(.int 0), (.ref a0)])) rfl rfl (hb hby d3_48)
  have c7 := c1.wr W_5 (Or.inl (List.mem_of_getElem? (i := 0) rfl))
  have c8 := c2.wr W_5
  have c9 := c3.other W_5 (Or.inr (slot_ne (Or.inr (own_w hw 20 rfl)) (Or.inr (own_w hw 21 rfl)) (by decide) (t := (.array .byte)) (t' := .byte) (by decide) (by decide)))
  have c10 := c4.same W_5
  have c11 := c5.wr W_5
  have c12 := c6.other W_5 (Ne.symm nea)
  have c13 := VN_3.other W_5 (Ne.symm nq_3)
  have N_5 := Fr.snoc X_5 N_4 g_a0
  have Z0__5 : n0 ≤ h_5.size := by rw [W_5.size]; exact Z0__3
  refine own_go (fun t k => st_5 t k) ?_
  refine own_go (B := T_5.setTop (mkF m 54 #[rv a0, rv a1, iv 0, iv 1, .val .null, rv b_3] [(.ref b_3), (.ref a0)])) (fun t k => ?_) ?_
  · refine XS.aloadN X_5.here hx rfl (hb hby d3_51) rfl rfl ?_
    refine XS.aload X_5.here hx rfl (hb hby d3_52) rfl rfl ?_
    exact k
  obtain ⟨T_6, h_6, X_6, e_6, W_6, st_6⟩ := putF X_5 hx hZ hown (host := "") (Or.inl (own_w hw 24 rfl)) Via.refl e_5 c9 c8 (Or.inr ⟨(own_w hw 20 rfl), rfl, hnm⟩) (own_w hw 5 rfl) (ty := (.array .byte)) (by decide) rfl rfl (g := (mkF m 54 #[rv a0, rv a1, iv 0, iv 1, .val .null, rv b_3] [(.ref b_3), (.ref a0)])) rfl rfl (hb hby d3_54)
  have c14 := c7.wr W_6 (Or.inl (List.mem_of_getElem? (i := 0) rfl))
  have c15 := c8.wr W_6
  have c16 := c9.same W_6
  have c17 := c10.other W_6 (Or.inr (slot_ne (Or.inr (own_w hw 21 rfl)) (Or.inr (own_w hw 20 rfl)) (by decide) (t := .byte) (t' := (.array .byte)) (by decide) (by decide)))
  have c18 := c11.wr W_6
  have c19 := c12.other W_6 (Ne.symm nea)
  have c20 := c13.other W_6 (Ne.symm nq_3)
  have N_6 := Fr.snoc X_6 N_5 g_a0
  have Z0__6 : n0 ≤ h_6.size := by rw [W_6.size]; exact Z0__5
  refine own_go (fun t k => st_6 t k) ?_
  obtain ⟨fs, hr, hrun, hended, hW, hsame⟩ := X_6.leave (v := none) (fun _ => rfl)
  refine ⟨_, _, ?_, hrun, hended, _, _, rfl, ?_, ⟨_, rfl⟩, hW, hsame.mono (by decide) (by decide)⟩
  · show Steps p.tables e below (T_6.setTop (mkF m 57 #[rv a0, rv a1, iv 0, iv 1, .val .null, rv b_3] [])) _
    exact X_6.returnOut hx Bd.returns (hb hby d3_57) hr
  · show Qsi4_1 Z a0 a1 u0 u1 kc w ch0 h0 n0 _ T_6.heap _
    rw [e_6]
    exact ⟨b_3, kb_3, rfl, N_6, c14, c17, c16, szh_3, c20⟩
theorem d2_0 : decode jdk_42_method_3_code 0 = .ok (.aload_n 0, 1) := by decide +kernel
theorem d2_1 : decode jdk_42_method_3_code 1 = .ok (.aload_n 1, 1) := by decide +kernel
theorem d2_2 : decode jdk_42_method_3_code 2 = .ok (.iconst 0, 1) := by decide +kernel
theorem d2_3 : decode jdk_42_method_3_code 3 = .ok (.aload_n 1, 1) := by decide +kernel
theorem d2_4 : decode jdk_42_method_3_code 4 = .ok (.arraylength, 1) := by decide +kernel
theorem d2_5 : decode jdk_42_method_3_code 5 = .ok (.aconst_null, 1) := by decide +kernel
theorem d2_6 : decode jdk_42_method_3_code 6 = .ok (.invokespecial 27, 3) := by decide +kernel
theorem d2_9 : decode jdk_42_method_3_code 9 = .ok (.return_, 1) := by decide +kernel
theorem pn_2 : plainName "java/lang/String" = true := by first | (simp [plainName, overriddenIn]; done) | decide +kernel
theorem ef_si1_1 (m : MethodId) (a0 : Addr) (a1 : Addr) : entryFrame m #[(.ref a0), (.ref a1)] 2 = mkF m 0 #[rv a0, rv a1] [] := by first | (simp [entryFrame, mkF, argsToLocals, Value.category]; done) | rfl
theorem pd_7 : parseMethodDescriptor "([CIILjava/lang/Void;)V" = some ⟨[(.array .char), .int, .int, (.object "java/lang/Void")], none⟩ := by decide +kernel
def Qsi1_1 (Z : State) (a0 : Addr) (a1 : Addr) (u0 : Value) (u1 : Value) (kc : ClassId) (w : Int32) (ch0 : Int32) (h0 : Heap) (n0 : Nat) (v : Option Value) (h : Heap) (L : List Loc) : Prop := ∃ (b : Addr) (kb : ClassId), v = none ∧ Fr n0 L ∧ Keep h0 h [a0] ∧ Fld Z h a0 "java/lang/String" "coder" "B" (.int (0 : Int32)) ∧ Fld Z h a0 "java/lang/String" "value" "[B" (.ref b) ∧ h0.size ≤ b ∧ Arv Z h b kb .byte (1 : Int32) [(.int (own_byte ch0))] (.int (0 : Int32))
theorem rmsi1_1 (l : Launch) (Z : State) (av0 : Array Value) (hw : ∀ d ∈ tables_1, d.before av0 Z = true) (ws : List Jvm.Cond) (a0 : Addr) (a1 : Addr) (u0 : Value) (u1 : Value) (kc : ClassId) (w : Int32) (ch0 : Int32) (h0 : Heap) (n0 : Nat) (Z0 : n0 ≤ h0.size) (E_a0 : Exa Z h0 a0 "java/lang/String") (F_value_a0 : Fld Z h0 a0 "java/lang/String" "value" "[B" u0) (F_coder_a0 : Fld Z h0 a0 "java/lang/String" "coder" "B" u1) (g_a0 : n0 ≤ a0) (VC : Arv Z h0 a1 kc .char (1 : Int32) [(.int ch0)] (.int (0 : Int32))) (nea : a0 ≠ a1) (S_COMPACT_STRINGS : Sta Z h0 "java/lang/String" "COMPACT_STRINGS" "Z" (.int w)) (hw0 : ¬ (w = (0 : Int32))) (hp0 : ¬ ((255 : Int32) < ch0)) :
    MetFree l own_m3 (head1 (Jvm.Cond.code own_m3 jdk_42_method_3_code 2 none :: ws) ({ frames := 3, cells := 1, slots := 1, locals := 52 } : Room)) (fun a U => a = #[(.ref a0), (.ref a1)] ∧ Z.Warmed39 U.vm ∧ U.heap = h0) (fun _ _ _ _ _ => True) (fun _ U o U' => ∃ v L, o = .returned v ∧ Qsi1_1 Z a0 a1 u0 u1 kc w ch0 h0 n0 v U'.heap L ∧ FrameEnd U o U' L ({ frames := 3, cells := 1, slots := 1, locals := 52 } : Room).cells ({ frames := 3, cells := 1, slots := 1, locals := 52 } : Room).slots) := by
  refine MetFree.of_bodySF (plainFor_of_name pn_2) hisR ?_
  intro p e s m args below meth c s₁ Bd hml0 hP hK
  obtain ⟨rfl, hZ, hh⟩ := hP
  have hx := Bd.exec
  have hby := Bd.bytes
  have hml : c.maxLocals = 2 := hml0
  have hown : s.vm.findClass "java/lang/String" = some m.cls := findClass_of_methodNamed Bd.named
  have hnm := (name_of_methodNamed Bd.named Bd.method).1
  have X0 : Stand p l e ({ frames := 3, cells := 1, slots := 1, locals := 52 } : Room) s m #[(.ref a0), (.ref a1)] below meth c s₁ [] 0 0 := Stand.of_body Bd
  have e0 : s₁.heap = h0 := by rw [← hh, Bd.state]; rfl
  have N0 := Fr.nil n0
  have K0 : Keep h0 h0 [a0] := Keep.refl h0 [a0]
  refine own_go (B := s₁.setTop (mkF m 0 #[rv a0, rv a1] [])) (fun t k => castTop (ef_si1_1 m a0 a1) k) ?_
  refine own_go (B := s₁.setTop (mkF m 4 #[rv a0, rv a1] [(.ref a1), (.int 0), (.ref a1), (.ref a0)])) (fun t k => ?_) ?_
  · refine XS.aloadN X0.here hx rfl (hb hby d2_0) rfl rfl ?_
    refine XS.aloadN X0.here hx rfl (hb hby d2_1) rfl rfl ?_
    refine XS.iconst X0.here hx rfl (hb hby d2_2) ?_
    refine XS.aloadN X0.here hx rfl (hb hby d2_3) rfl rfl ?_
    exact k
  obtain ⟨cl_1, Ar_1, -, S_1, M_1, -, -⟩ := id VC
  refine own_go (B := s₁.setTop (mkF m 5 #[rv a0, rv a1] [(.int 1), (.int 0), (.ref a1), (.ref a0)])) (fun t k => X0.arraylength hx (by rw [(e0 : _ = _)]; exact Ar_1.1) (State.isArrayOf_alike hZ.alike Ar_1.2.1) (g := (mkF m 4 #[rv a0, rv a1] [(.ref a1), (.int 0), (.ref a1), (.ref a0)])) rfl rfl (hb hby d2_4) t (by rw [len_of S_1 M_1]; exact k)) ?_
  refine own_go (B := s₁.setTop (mkF m 6 #[rv a0, rv a1] [.null, (.int 1), (.int 0), (.ref a1), (.ref a0)])) (fun t k => ?_) ?_
  · refine XS.aconstNull X0.here hx rfl (hb hby d2_5) ?_
    exact k
  obtain ⟨_, _, ⟨T_2, L_2, k_2, n_2⟩, -, X_2, ⟨Lc_2, hQ_2, l_2, y_2, z_2⟩, st_2⟩ := X0.specialBack hx (y := own_m4) rfl hown (mvT hZ (own_w hw 11 rfl)) (mvT hZ (own_w hw 12 rfl)) (mvT hZ (own_w hw 14 rfl)) (by decide) (backOf (W := 0) (rmsi4_1 l Z av0 hw [] a0 a1 u0 u1 kc w ch0 h0 n0 Z0 E_a0 F_value_a0 F_coder_a0 g_a0 VC nea S_COMPACT_STRINGS hw0 hp0) hZ (own_w hw 14 rfl) (own_w hw 6 rfl) (by decide) (by decide)) (g := (mkF m 6 #[rv a0, rv a1] [.null, (.int 1), (.int 0), (.ref a1), (.ref a0)])) rfl (by rw [hml]; rfl) (Steps.refl _) (a := a0) (argsL := [(.ref a1), (.int 0), (.int 1), .null]) (rest := []) (lenOf pd_7 rfl) rfl (by show 2 * 0 + _ ≤ _; exact Nat.le_of_eq rfl) (hb hby d2_6) (fun _ _ => ⟨rfl, e0, (by decide : 0 + 1 ≤ _), (by decide : 0 + 1 ≤ _)⟩)
  dsimp only [Pt.U, Pt.locs, Pt.cells, Pt.slots] at X_2 l_2 y_2 z_2 st_2 hQ_2
  subst l_2 y_2 z_2
  obtain ⟨bb_2, kb_2, rfl, N_2q, K_2, Fc_2, Fv_2, szq_2, VN_2⟩ := hQ_2
  have N_2 := Fr.app N0 N_2q
  have c1 := K0.trans K_2 (allS (Or.inl (List.mem_of_getElem? (i := 0) rfl)) all0)
  have c2 := E_a0.keep K_2
  have c3 := own_stake S_COMPACT_STRINGS K_2 E_a0
  have c4 := VC.keep K_2 (ninS (Ne.symm nea) nin0)
  have Z0__2 : n0 ≤ T_2.heap.size := Nat.le_trans Z0 K_2.1
  refine own_go (fun t k => st_2.trans k) ?_
  obtain ⟨fs, hr, hrun, hended, hW, hsame⟩ := X_2.leave (v := none) (fun _ => rfl)
  refine ⟨_, _, ?_, hrun, hended, _, _, rfl, ?_, ⟨_, rfl⟩, hW, hsame.mono (by decide) (by decide)⟩
  · show Steps p.tables e below (T_2.setTop (mkF m 9 #[rv a0, rv a1] [])) _
    exact X_2.returnOut hx Bd.returns (hb hby d2_9) hr
  · show Qsi1_1 Z a0 a1 u0 u1 kc w ch0 h0 n0 _ T_2.heap _
    exact ⟨bb_2, kb_2, rfl, N_2, c1, Fc_2, Fv_2, szq_2, VN_2⟩
theorem ef_cfa2 (m : MethodId) (a0 : Addr) : entryFrame m #[(.ref a0), (.int 2)] 2 = mkF m 0 #[rv a0, iv 2] [] := by first | (simp [entryFrame, mkF, argsToLocals, Value.category]; done) | rfl
def Qcfa2 (Z : State) (a0 : Addr) (kb : ClassId) (vs : List Value) (h0 : Heap) (n0 : Nat) (v : Option Value) (h : Heap) (L : List Loc) : Prop := v = some (.int 0) ∧ Fr n0 L ∧ h = h0
theorem rmcfa2 (l : Launch) (Z : State) (av0 : Array Value) (hw : ∀ d ∈ tables_1, d.before av0 Z = true) (ws : List Jvm.Cond) (a0 : Addr) (kb : ClassId) (vs : List Value) (h0 : Heap) (n0 : Nat) (Z0 : n0 ≤ h0.size) (V0 : Arv Z h0 a0 kb .byte (2 : Int32) vs (.int (0 : Int32))) :
    MetFree l own_m14 (head1 (Jvm.Cond.code own_m14 jdk_52_method_15_code 2 (some .byte) :: ws) ({ frames := 0, cells := 0, slots := 0, locals := 0 } : Room)) (fun a U => a = #[(.ref a0), (.int 2)] ∧ Z.Warmed39 U.vm ∧ U.heap = h0) (fun _ _ _ _ _ => True) (fun _ U o U' => ∃ v L, o = .returned v ∧ Qcfa2 Z a0 kb vs h0 n0 v U'.heap L ∧ FrameEnd U o U' L ({ frames := 0, cells := 0, slots := 0, locals := 0 } : Room).cells ({ frames := 0, cells := 0, slots := 0, locals := 0 } : Room).slots) := by
  refine MetFree.of_bodySF (plainFor_of_name pn_13) hisR ?_
  intro p e s m args below meth c s₁ Bd hml0 hP hK
  obtain ⟨rfl, hZ, hh⟩ := hP
  have hx := Bd.exec
  have hby := Bd.bytes
  have hml : c.maxLocals = 2 := hml0
  have hown : s.vm.findClass "java/lang/StringUTF16" = some m.cls := findClass_of_methodNamed Bd.named
  have X0 : Stand p l e ({ frames := 0, cells := 0, slots := 0, locals := 0 } : Room) s m #[(.ref a0), (.int 2)] below meth c s₁ [] 0 0 := Stand.of_body Bd
  have e0 : s₁.heap = h0 := by rw [← hh, Bd.state]; rfl
  have N0 := Fr.nil n0
  have K0 : Keep h0 h0 [] := Keep.refl h0 []
  refine own_go (B := s₁.setTop (mkF m 0 #[rv a0, iv 2] [])) (fun t k => castTop (ef_cfa2 m a0) k) ?_
  refine own_go (B := s₁.setTop (mkF m 2 #[rv a0, iv 2] [(.ref a0), (.int 2)])) (fun t k => ?_) ?_
  · refine XS.iloadN X0.here hx rfl (hb hby d13_0) rfl ?_
    refine XS.aloadN X0.here hx rfl (hb hby d13_1) rfl rfl ?_
    exact k
  obtain ⟨cl_1, Ar_1, -, S_1, M_1, -, -⟩ := id V0
  refine own_go (B := s₁.setTop (mkF m 3 #[rv a0, iv 2] [(.int 2), (.int 2)])) (fun t k => X0.arraylength hx (by rw [(e0 : _ = _)]; exact Ar_1.1) (State.isArrayOf_alike hZ.alike Ar_1.2.1) (g := (mkF m 2 #[rv a0, iv 2] [(.ref a0), (.int 2)])) rfl rfl (hb hby d13_2) t (by rw [len_of S_1 M_1]; exact k)) ?_
  refine own_go (B := s₁.setTop (mkF m 8 #[rv a0, iv 2] [(.int ((((0 : Int32).toUInt32 >>> ((31 : Int32) &&& 31).toUInt32).toInt32).toInt8.toInt32))])) (fun t k => ?_) ?_
  · refine XS.isub X0.here hx rfl (hb hby d13_3) rfl ?_
    refine XS.bipush X0.here hx rfl (hb hby d13_4) ?_
    refine XS.iushr X0.here hx rfl (hb hby d13_6) rfl ?_
    refine XS.i2b X0.here hx rfl (hb hby d13_7) rfl ?_
    exact k
  obtain ⟨fs, hr, hrun, hended, hW, hsame⟩ := X0.leave (v := some (.int (nar .byte ((((0 : Int32).toUInt32 >>> ((31 : Int32) &&& 31).toUInt32).toInt32).toInt8.toInt32)))) (fun h => by rw [Bd.returns] at h; cases h)
  refine ⟨_, _, ?_, hrun, hended, _, _, rfl, ?_, ⟨_, rfl⟩, hW, hsame.mono (by decide) (by decide)⟩
  · show Steps p.tables e below (s₁.setTop (mkF m 8 #[rv a0, iv 2] [(.int ((((0 : Int32).toUInt32 >>> ((31 : Int32) &&& 31).toUInt32).toInt32).toInt8.toInt32))])) _
    exact retN X0 hx (t := .byte) Bd.returns (by simp) (hb hby d13_8) hr
  · show Qcfa2 Z a0 kb vs h0 n0 _ s₁.heap _
    rw [e0]
    exact ⟨congrArg (fun z => some (Value.int z)) (by decide), N0, rfl⟩
theorem ef_si4_2 (m : MethodId) (a0 : Addr) (a1 : Addr) : entryFrame m #[(.ref a0), (.ref a1), (.int 0), (.int 2), .null] 6 = mkF m 0 #[rv a0, rv a1, iv 0, iv 2, .val .null, oU] [] := by first | (simp [entryFrame, mkF, argsToLocals, Value.category]; done) | rfl
def Qsi4_2 (Z : State) (a0 : Addr) (a1 : Addr) (u0 : Value) (u1 : Value) (kc : ClassId) (w : Int32) (ch0 : Int32) (ch1 : Int32) (h0 : Heap) (n0 : Nat) (v : Option Value) (h : Heap) (L : List Loc) : Prop := ∃ (b : Addr) (kb : ClassId), v = none ∧ Fr n0 L ∧ Keep h0 h [a0] ∧ Fld Z h a0 "java/lang/String" "coder" "B" (.int (0 : Int32)) ∧ Fld Z h a0 "java/lang/String" "value" "[B" (.ref b) ∧ h0.size ≤ b ∧ Arv Z h b kb .byte (2 : Int32) [(.int (own_byte ch0)), (.int (own_byte ch1))] (.int (0 : Int32))
theorem rmsi4_2 (l : Launch) (Z : State) (av0 : Array Value) (hw : ∀ d ∈ tables_1, d.before av0 Z = true) (ws : List Jvm.Cond) (a0 : Addr) (a1 : Addr) (u0 : Value) (u1 : Value) (kc : ClassId) (w : Int32) (ch0 : Int32) (ch1 : Int32) (h0 : Heap) (n0 : Nat) (Z0 : n0 ≤ h0.size) (E_a0 : Exa Z h0 a0 "java/lang/String") (F_value_a0 : Fld Z h0 a0 "java/lang/String" "value" "[B" u0) (F_coder_a0 : Fld Z h0 a0 "java/lang/String" "coder" "B" u1) (g_a0 : n0 ≤ a0) (VC : Arv Z h0 a1 kc .char (2 : Int32) [(.int ch0), (.int ch1)] (.int (0 : Int32))) (nea : a0 ≠ a1) (S_COMPACT_STRINGS : Sta Z h0 "java/lang/String" "COMPACT_STRINGS" "Z" (.int w)) (hw0 : ¬ (w = (0 : Int32))) (hp0 : ¬ ((255 : Int32) < ch0)) (hp1 : ¬ ((255 : Int32) < ch1)) :
    MetFree l own_m4 (head1 (Jvm.Cond.code own_m4 jdk_42_method_149_code 6 none :: ws) ({ frames := 2, cells := 1, slots := 2, locals := 35 } : Room)) (fun a U => a = #[(.ref a0), (.ref a1), (.int 0), (.int 2), .null] ∧ Z.Warmed39 U.vm ∧ U.heap = h0) (fun _ _ _ _ _ => True) (fun _ U o U' => ∃ v L, o = .returned v ∧ Qsi4_2 Z a0 a1 u0 u1 kc w ch0 ch1 h0 n0 v U'.heap L ∧ FrameEnd U o U' L ({ frames := 2, cells := 1, slots := 2, locals := 35 } : Room).cells ({ frames := 2, cells := 1, slots := 2, locals := 35 } : Room).slots) := by
  refine MetFree.of_bodySF (plainFor_of_name pn_3) hisR ?_
  intro p e s m args below meth c s₁ Bd hml0 hP hK
  obtain ⟨rfl, hZ, hh⟩ := hP
  have hx := Bd.exec
  have hby := Bd.bytes
  have hml : c.maxLocals = 6 := hml0
  have hown : s.vm.findClass "java/lang/String" = some m.cls := findClass_of_methodNamed Bd.named
  have hnm := (name_of_methodNamed Bd.named Bd.method).1
  have X0 : Stand p l e ({ frames := 2, cells := 1, slots := 2, locals := 35 } : Room) s m #[(.ref a0), (.ref a1), (.int 0), (.int 2), .null] below meth c s₁ [] 0 0 := Stand.of_body Bd
  have e0 : s₁.heap = h0 := by rw [← hh, Bd.state]; rfl
  have N0 := Fr.nil n0
  have K0 : Keep h0 h0 [a0] := Keep.refl h0 [a0]
  refine own_go (B := s₁.setTop (mkF m 0 #[rv a0, rv a1, iv 0, iv 2, .val .null, oU] [])) (fun t k => castTop (ef_si4_2 m a0 a1) k) ?_
  refine own_go (B := s₁.setTop (mkF m 1 #[rv a0, rv a1, iv 0, iv 2, .val .null, oU] [(.ref a0)])) (fun t k => ?_) ?_
  · refine XS.aloadN X0.here hx rfl (hb hby d3_0) rfl rfl ?_
    exact k
  obtain ⟨T_1, X_1, e_1, st_1⟩ := initO X0 hx hZ hown (own_w hw 15 rfl) (own_w hw 16 rfl) (own_w hw 17 rfl) e0 (g := (mkF m 1 #[rv a0, rv a1, iv 0, iv 2, .val .null, oU] [(.ref a0)])) rfl (by rw [hml]; rfl) rfl (hb hby d3_1) (by decide) (W := 0) (by show 2 * 0 + _ ≤ _; exact Nat.le_of_eq rfl) (by decide)
  refine own_go (fun t k => st_1 t k) ?_
  refine own_go (B := T_1.setTop (mkF m 5 #[rv a0, rv a1, iv 0, iv 2, .val .null, oU] [(.int 2)])) (fun t k => ?_) ?_
  · refine XS.iloadN X_1.here hx rfl (hb hby d3_4) rfl ?_
    exact k
  refine own_go (B := T_1.setTop (mkF m 27 #[rv a0, rv a1, iv 0, iv 2, .val .null, oU] [])) (fun t k => ?_) ?_
  · refine XS.ifYes X_1.here hx rfl (pc0 := 5) (pc' := 27) rfl (hb hby d3_5) rfl ((if0 _ _).trans (feq (by decide : ¬ ((2 : Int32) = (0 : Int32)))).2) (by decide) (by decide) ?_
    exact k
  obtain ⟨T_2, X_2, e_2, st_2⟩ := getS2 X_1 hx hZ hown (host := "") (Or.inl (own_w hw 71 rfl)) Via.refl e_1 S_COMPACT_STRINGS (g := (mkF m 27 #[rv a0, rv a1, iv 0, iv 2, .val .null, oU] [])) rfl (hb hby d3_27)
  refine own_go (fun t k => st_2 t k) ?_
  refine own_go (B := T_2.setTop (mkF m 33 #[rv a0, rv a1, iv 0, iv 2, .val .null, oU] [])) (fun t k => ?_) ?_
  · refine XS.ifNo X_2.here hx rfl (hb hby d3_30) rfl ((if0 _ _).trans (feq hw0).1) ?_
    exact k
  refine own_go (B := T_2.setTop (mkF m 36 #[rv a0, rv a1, iv 0, iv 2, .val .null, oU] [(.int 2), (.int 0), (.ref a1)])) (fun t k => ?_) ?_
  · refine XS.aloadN X_2.here hx rfl (hb hby d3_33) rfl rfl ?_
    refine XS.iloadN X_2.here hx rfl (hb hby d3_34) rfl ?_
    refine XS.iloadN X_2.here hx rfl (hb hby d3_35) rfl ?_
    exact k
  have lt_3 := (E_a0).lt
  have kk_3 := K0
  obtain ⟨_, _, ⟨T_3, L_3, k_3, n_3⟩, -, X_3, ⟨Lc_3, hQ_3, l_3, y_3, z_3⟩, st_3⟩ := Jvm.LawKit.callS X_2 hx (y := own_m12) hown (mvT hZ (own_w hw 76 rfl)) (mvT hZ (own_w hw 77 rfl)) (mvT hZ (own_w hw 78 rfl)) (mvT hZ (own_w hw 79 rfl)) (by decide) (backOf (W := 0) (rmcpr2 l Z av0 hw [] a1 kc ch0 ch1 h0 n0 Z0 VC hp0 hp1) hZ (own_w hw 79 rfl) (own_w hw 78 rfl) (by decide) (by decide)) (g := (mkF m 36 #[rv a0, rv a1, iv 0, iv 2, .val .null, oU] [(.int 2), (.int 0), (.ref a1)])) rfl (by rw [hml]; rfl) (argsL := [(.ref a1), (.int 0), (.int 2)]) (rest := []) (lenOf pd_5 rfl) rfl (by show 2 * 0 + _ ≤ _; exact Nat.le_of_eq rfl) (hb hby d3_36) (fun _ _ => ⟨rfl, e_2, (by decide : 0 + 1 ≤ _), (by decide : 0 + 2 ≤ _)⟩)
  dsimp only [Pt.U, Pt.locs, Pt.cells, Pt.slots] at X_3 l_3 y_3 z_3 st_3 hQ_3
  subst l_3 y_3 z_3
  obtain ⟨b_3, kb_3, rfl, N_3q, K_3, szq_3, VN_3⟩ := hQ_3
  have N_3 := Fr.app N0 N_3q
  have c1 := K0.trans K_3 all0
  have c2 := E_a0.keep K_3
  have c3 := F_value_a0.keep K_3 nin0
  have c4 := F_coder_a0.keep K_3 nin0
  have c5 := own_stak S_COMPACT_STRINGS K_3
  have c6 := VC.keep K_3 nin0
  have Z0__3 : n0 ≤ T_3.heap.size := Nat.le_trans Z0 K_3.1
  have nq_3 : a0 ≠ b_3 := Nat.ne_of_lt (Nat.lt_of_lt_of_le lt_3 szq_3)
  have szh_3 : h0.size ≤ b_3 := Nat.le_trans kk_3.1 szq_3
  refine own_go (fun t k => st_3 t k) ?_
  refine own_go (B := T_3.setTop (mkF m 45 #[rv a0, rv a1, iv 0, iv 2, .val .null, rv b_3] [(.int 2), (.ref b_3), (.ref a0)])) (fun t k => ?_) ?_
  · refine XS.astore X_3.here hx rfl (hb hby d3_39) rfl rfl (l' := #[rv a0, rv a1, iv 0, iv 2, .val .null, rv b_3]) rfl ?_
    refine XS.aloadN X_3.here hx rfl (hb hby d3_41) rfl rfl ?_
    refine XS.aload X_3.here hx rfl (hb hby d3_42) rfl rfl ?_
    refine XS.iloadN X_3.here hx rfl (hb hby d3_44) rfl ?_
    exact k
  obtain ⟨_, _, ⟨T_4, L_4, k_4, n_4⟩, -, X_4, ⟨Lc_4, hQ_4, l_4, y_4, z_4⟩, st_4⟩ := Jvm.LawKit.callS X_3 hx (y := own_m14) hown (mvT hZ (own_w hw 83 rfl)) (mvT hZ (own_w hw 84 rfl)) (mvT hZ (own_w hw 78 rfl)) (mvT hZ (own_w hw 85 rfl)) (by decide) (backOf (W := 1) (rmcfa2 l Z av0 hw [] b_3 kb_3 [(.int (own_byte ch0)), (.int (own_byte ch1))] T_3.heap n0 Z0__3 VN_3) hZ (own_w hw 85 rfl) (own_w hw 78 rfl) (by decide) (by decide)) (g := (mkF m 45 #[rv a0, rv a1, iv 0, iv 2, .val .null, rv b_3] [(.int 2), (.ref b_3), (.ref a0)])) rfl (by rw [hml]; rfl) (argsL := [(.ref b_3), (.int 2)]) (rest := [(.ref a0)]) (lenOf pd_6 rfl) rfl (by show 2 * 0 + _ ≤ _; exact Nat.le_of_eq rfl) (hb hby d3_45) (fun _ _ => ⟨rfl, rfl, (by decide : 1 + 0 ≤ _), (by decide : 2 + 0 ≤ _)⟩)
  dsimp only [Pt.U, Pt.locs, Pt.cells, Pt.slots] at X_4 l_4 y_4 z_4 st_4 hQ_4
  subst l_4 y_4 z_4
  obtain ⟨rfl, N_4q, e_4⟩ := hQ_4
  have N_4 := Fr.app N_3 N_4q
  refine own_go (fun t k => st_4 t k) ?_
  obtain ⟨T_5, h_5, X_5, e_5, W_5, st_5⟩ := putFN X_4 hx hZ hown (own_w hw 25 rfl) Via.refl e_4 c4 c2 (Or.inr ⟨(own_w hw 21 rfl), rfl, hnm⟩) (own_w hw 5 rfl) (ty := .byte) (v' := (.int 0)) (by decide) rfl (by decide) (g := (mkF m 48 #[rv a0, rv a1, iv 0, iv 2, .val .null, rv b_3] [(.int 0), (.ref a0)])) rfl rfl (hb hby d3_48)
  have c7 := c1.wr W_5 (Or.inl (List.mem_of_getElem? (i := 0) rfl))
  have c8 := c2.wr W_5
  have c9 := c3.other W_5 (Or.inr (slot_ne (Or.inr (own_w hw 20 rfl)) (Or.inr (own_w hw 21 rfl)) (by decide) (t := (.array .byte)) (t' := .byte) (by decide) (by decide)))
  have c10 := c4.same W_5
  have c11 := c5.wr W_5
  have c12 := c6.other W_5 (Ne.symm nea)
  have c13 := VN_3.other W_5 (Ne.symm nq_3)
  have N_5 := Fr.snoc X_5 N_4 g_a0
  have Z0__5 : n0 ≤ h_5.size := by rw [W_5.size]; exact Z0__3
  refine own_go (fun t k => st_5 t k) ?_
  refine own_go (B := T_5.setTop (mkF m 54 #[rv a0, rv a1, iv 0, iv 2, .val .null, rv b_3] [(.ref b_3), (.ref a0)])) (fun t k => ?_) ?_
  · refine XS.aloadN X_5.here hx rfl (hb hby d3_51) rfl rfl ?_
    refine XS.aload X_5.here hx rfl (hb hby d3_52) rfl rfl ?_
    exact k
  obtain ⟨T_6, h_6, X_6, e_6, W_6, st_6⟩ := putF X_5 hx hZ hown (host := "") (Or.inl (own_w hw 24 rfl)) Via.refl e_5 c9 c8 (Or.inr ⟨(own_w hw 20 rfl), rfl, hnm⟩) (own_w hw 5 rfl) (ty := (.array .byte)) (by decide) rfl rfl (g := (mkF m 54 #[rv a0, rv a1, iv 0, iv 2, .val .null, rv b_3] [(.ref b_3), (.ref a0)])) rfl rfl (hb hby d3_54)
  have c14 := c7.wr W_6 (Or.inl (List.mem_of_getElem? (i := 0) rfl))
  have c15 := c8.wr W_6
  have c16 := c9.same W_6
  have c17 := c10.other W_6 (Or.inr (slot_ne (Or.inr (own_w hw 21 rfl)) (Or.inr (own_w hw 20 rfl)) (by decide) (t := .byte) (t' := (.array .byte)) (by decide) (by decide)))
  have c18 := c11.wr W_6
  have c19 := c12.other W_6 (Ne.symm nea)
  have c20 := c13.other W_6 (Ne.symm nq_3)
  have N_6 := Fr.snoc X_6 N_5 g_a0
  have Z0__6 : n0 ≤ h_6.size := by rw [W_6.size]; exact Z0__5
  refine own_go (fun t k => st_6 t k) ?_
  obtain ⟨fs, hr, hrun, hended, hW, hsame⟩ := X_6.leave (v := none) (fun _ => rfl)
  refine ⟨_, _, ?_, hrun, hended, _, _, rfl, ?_, ⟨_, rfl⟩, hW, hsame.mono (by decide) (by decide)⟩
  · show Steps p.tables e below (T_6.setTop (mkF m 57 #[rv a0, rv a1, iv 0, iv 2, .val .null, rv b_3] [])) _
    exact X_6.returnOut hx Bd.returns (hb hby d3_57) hr
  · show Qsi4_2 Z a0 a1 u0 u1 kc w ch0 ch1 h0 n0 _ T_6.heap _
    rw [e_6]
    exact ⟨b_3, kb_3, rfl, N_6, c14, c17, c16, szh_3, c20⟩
theorem ef_si1_2 (m : MethodId) (a0 : Addr) (a1 : Addr) : entryFrame m #[(.ref a0), (.ref a1)] 2 = mkF m 0 #[rv a0, rv a1] [] := by first | (simp [entryFrame, mkF, argsToLocals, Value.category]; done) | rfl
def Qsi1_2 (Z : State) (a0 : Addr) (a1 : Addr) (u0 : Value) (u1 : Value) (kc : ClassId) (w : Int32) (ch0 : Int32) (ch1 : Int32) (h0 : Heap) (n0 : Nat) (v : Option Value) (h : Heap) (L : List Loc) : Prop := ∃ (b : Addr) (kb : ClassId), v = none ∧ Fr n0 L ∧ Keep h0 h [a0] ∧ Fld Z h a0 "java/lang/String" "coder" "B" (.int (0 : Int32)) ∧ Fld Z h a0 "java/lang/String" "value" "[B" (.ref b) ∧ h0.size ≤ b ∧ Arv Z h b kb .byte (2 : Int32) [(.int (own_byte ch0)), (.int (own_byte ch1))] (.int (0 : Int32))
theorem rmsi1_2 (l : Launch) (Z : State) (av0 : Array Value) (hw : ∀ d ∈ tables_1, d.before av0 Z = true) (ws : List Jvm.Cond) (a0 : Addr) (a1 : Addr) (u0 : Value) (u1 : Value) (kc : ClassId) (w : Int32) (ch0 : Int32) (ch1 : Int32) (h0 : Heap) (n0 : Nat) (Z0 : n0 ≤ h0.size) (E_a0 : Exa Z h0 a0 "java/lang/String") (F_value_a0 : Fld Z h0 a0 "java/lang/String" "value" "[B" u0) (F_coder_a0 : Fld Z h0 a0 "java/lang/String" "coder" "B" u1) (g_a0 : n0 ≤ a0) (VC : Arv Z h0 a1 kc .char (2 : Int32) [(.int ch0), (.int ch1)] (.int (0 : Int32))) (nea : a0 ≠ a1) (S_COMPACT_STRINGS : Sta Z h0 "java/lang/String" "COMPACT_STRINGS" "Z" (.int w)) (hw0 : ¬ (w = (0 : Int32))) (hp0 : ¬ ((255 : Int32) < ch0)) (hp1 : ¬ ((255 : Int32) < ch1)) :
    MetFree l own_m3 (head1 (Jvm.Cond.code own_m3 jdk_42_method_3_code 2 none :: ws) ({ frames := 3, cells := 1, slots := 2, locals := 52 } : Room)) (fun a U => a = #[(.ref a0), (.ref a1)] ∧ Z.Warmed39 U.vm ∧ U.heap = h0) (fun _ _ _ _ _ => True) (fun _ U o U' => ∃ v L, o = .returned v ∧ Qsi1_2 Z a0 a1 u0 u1 kc w ch0 ch1 h0 n0 v U'.heap L ∧ FrameEnd U o U' L ({ frames := 3, cells := 1, slots := 2, locals := 52 } : Room).cells ({ frames := 3, cells := 1, slots := 2, locals := 52 } : Room).slots) := by
  refine MetFree.of_bodySF (plainFor_of_name pn_2) hisR ?_
  intro p e s m args below meth c s₁ Bd hml0 hP hK
  obtain ⟨rfl, hZ, hh⟩ := hP
  have hx := Bd.exec
  have hby := Bd.bytes
  have hml : c.maxLocals = 2 := hml0
  have hown : s.vm.findClass "java/lang/String" = some m.cls := findClass_of_methodNamed Bd.named
  have hnm := (name_of_methodNamed Bd.named Bd.method).1
  have X0 : Stand p l e ({ frames := 3, cells := 1, slots := 2, locals := 52 } : Room) s m #[(.ref a0), (.ref a1)] below meth c s₁ [] 0 0 := Stand.of_body Bd
  have e0 : s₁.heap = h0 := by rw [← hh, Bd.state]; rfl
  have N0 := Fr.nil n0
  have K0 : Keep h0 h0 [a0] := Keep.refl h0 [a0]
  refine own_go (B := s₁.setTop (mkF m 0 #[rv a0, rv a1] [])) (fun t k => castTop (ef_si1_2 m a0 a1) k) ?_
  refine own_go (B := s₁.setTop (mkF m 4 #[rv a0, rv a1] [(.ref a1), (.int 0), (.ref a1), (.ref a0)])) (fun t k => ?_) ?_
  · refine XS.aloadN X0.here hx rfl (hb hby d2_0) rfl rfl ?_
    refine XS.aloadN X0.here hx rfl (hb hby d2_1) rfl rfl ?_
    refine XS.iconst X0.here hx rfl (hb hby d2_2) ?_
    refine XS.aloadN X0.here hx rfl (hb hby d2_3) rfl rfl ?_
    exact k
  obtain ⟨cl_1, Ar_1, -, S_1, M_1, -, -⟩ := id VC
  refine own_go (B := s₁.setTop (mkF m 5 #[rv a0, rv a1] [(.int 2), (.int 0), (.ref a1), (.ref a0)])) (fun t k => X0.arraylength hx (by rw [(e0 : _ = _)]; exact Ar_1.1) (State.isArrayOf_alike hZ.alike Ar_1.2.1) (g := (mkF m 4 #[rv a0, rv a1] [(.ref a1), (.int 0), (.ref a1), (.ref a0)])) rfl rfl (hb hby d2_4) t (by rw [len_of S_1 M_1]; exact k)) ?_
  refine own_go (B := s₁.setTop (mkF m 6 #[rv a0, rv a1] [.null, (.int 2), (.int 0), (.ref a1), (.ref a0)])) (fun t k => ?_) ?_
  · refine XS.aconstNull X0.here hx rfl (hb hby d2_5) ?_
    exact k
  obtain ⟨_, _, ⟨T_2, L_2, k_2, n_2⟩, -, X_2, ⟨Lc_2, hQ_2, l_2, y_2, z_2⟩, st_2⟩ := X0.specialBack hx (y := own_m4) rfl hown (mvT hZ (own_w hw 11 rfl)) (mvT hZ (own_w hw 12 rfl)) (mvT hZ (own_w hw 14 rfl)) (by decide) (backOf (W := 0) (rmsi4_2 l Z av0 hw [] a0 a1 u0 u1 kc w ch0 ch1 h0 n0 Z0 E_a0 F_value_a0 F_coder_a0 g_a0 VC nea S_COMPACT_STRINGS hw0 hp0 hp1) hZ (own_w hw 14 rfl) (own_w hw 6 rfl) (by decide) (by decide)) (g := (mkF m 6 #[rv a0, rv a1] [.null, (.int 2), (.int 0), (.ref a1), (.ref a0)])) rfl (by rw [hml]; rfl) (Steps.refl _) (a := a0) (argsL := [(.ref a1), (.int 0), (.int 2), .null]) (rest := []) (lenOf pd_7 rfl) rfl (by show 2 * 0 + _ ≤ _; exact Nat.le_of_eq rfl) (hb hby d2_6) (fun _ _ => ⟨rfl, e0, (by decide : 0 + 1 ≤ _), (by decide : 0 + 2 ≤ _)⟩)
  dsimp only [Pt.U, Pt.locs, Pt.cells, Pt.slots] at X_2 l_2 y_2 z_2 st_2 hQ_2
  subst l_2 y_2 z_2
  obtain ⟨bb_2, kb_2, rfl, N_2q, K_2, Fc_2, Fv_2, szq_2, VN_2⟩ := hQ_2
  have N_2 := Fr.app N0 N_2q
  have c1 := K0.trans K_2 (allS (Or.inl (List.mem_of_getElem? (i := 0) rfl)) all0)
  have c2 := E_a0.keep K_2
  have c3 := own_stake S_COMPACT_STRINGS K_2 E_a0
  have c4 := VC.keep K_2 (ninS (Ne.symm nea) nin0)
  have Z0__2 : n0 ≤ T_2.heap.size := Nat.le_trans Z0 K_2.1
  refine own_go (fun t k => st_2.trans k) ?_
  obtain ⟨fs, hr, hrun, hended, hW, hsame⟩ := X_2.leave (v := none) (fun _ => rfl)
  refine ⟨_, _, ?_, hrun, hended, _, _, rfl, ?_, ⟨_, rfl⟩, hW, hsame.mono (by decide) (by decide)⟩
  · show Steps p.tables e below (T_2.setTop (mkF m 9 #[rv a0, rv a1] [])) _
    exact X_2.returnOut hx Bd.returns (hb hby d2_9) hr
  · show Qsi1_2 Z a0 a1 u0 u1 kc w ch0 ch1 h0 n0 _ T_2.heap _
    exact ⟨bb_2, kb_2, rfl, N_2, c1, Fc_2, Fv_2, szq_2, VN_2⟩
theorem ef_cfa3 (m : MethodId) (a0 : Addr) : entryFrame m #[(.ref a0), (.int 3)] 2 = mkF m 0 #[rv a0, iv 3] [] := by first | (simp [entryFrame, mkF, argsToLocals, Value.category]; done) | rfl
def Qcfa3 (Z : State) (a0 : Addr) (kb : ClassId) (vs : List Value) (h0 : Heap) (n0 : Nat) (v : Option Value) (h : Heap) (L : List Loc) : Prop := v = some (.int 0) ∧ Fr n0 L ∧ h = h0
theorem rmcfa3 (l : Launch) (Z : State) (av0 : Array Value) (hw : ∀ d ∈ tables_1, d.before av0 Z = true) (ws : List Jvm.Cond) (a0 : Addr) (kb : ClassId) (vs : List Value) (h0 : Heap) (n0 : Nat) (Z0 : n0 ≤ h0.size) (V0 : Arv Z h0 a0 kb .byte (3 : Int32) vs (.int (0 : Int32))) :
    MetFree l own_m14 (head1 (Jvm.Cond.code own_m14 jdk_52_method_15_code 2 (some .byte) :: ws) ({ frames := 0, cells := 0, slots := 0, locals := 0 } : Room)) (fun a U => a = #[(.ref a0), (.int 3)] ∧ Z.Warmed39 U.vm ∧ U.heap = h0) (fun _ _ _ _ _ => True) (fun _ U o U' => ∃ v L, o = .returned v ∧ Qcfa3 Z a0 kb vs h0 n0 v U'.heap L ∧ FrameEnd U o U' L ({ frames := 0, cells := 0, slots := 0, locals := 0 } : Room).cells ({ frames := 0, cells := 0, slots := 0, locals := 0 } : Room).slots) := by
  refine MetFree.of_bodySF (plainFor_of_name pn_13) hisR ?_
  intro p e s m args below meth c s₁ Bd hml0 hP hK
  obtain ⟨rfl, hZ, hh⟩ := hP
  have hx := Bd.exec
  have hby := Bd.bytes
  have hml : c.maxLocals = 2 := hml0
  have hown : s.vm.findClass "java/lang/StringUTF16" = some m.cls := findClass_of_methodNamed Bd.named
  have X0 : Stand p l e ({ frames := 0, cells := 0, slots := 0, locals := 0 } : Room) s m #[(.ref a0), (.int 3)] below meth c s₁ [] 0 0 := Stand.of_body Bd
  have e0 : s₁.heap = h0 := by rw [← hh, Bd.state]; rfl
  have N0 := Fr.nil n0
  have K0 : Keep h0 h0 [] := Keep.refl h0 []
  refine own_go (B := s₁.setTop (mkF m 0 #[rv a0, iv 3] [])) (fun t k => castTop (ef_cfa3 m a0) k) ?_
  refine own_go (B := s₁.setTop (mkF m 2 #[rv a0, iv 3] [(.ref a0), (.int 3)])) (fun t k => ?_) ?_
  · refine XS.iloadN X0.here hx rfl (hb hby d13_0) rfl ?_
    refine XS.aloadN X0.here hx rfl (hb hby d13_1) rfl rfl ?_
    exact k
  obtain ⟨cl_1, Ar_1, -, S_1, M_1, -, -⟩ := id V0
  refine own_go (B := s₁.setTop (mkF m 3 #[rv a0, iv 3] [(.int 3), (.int 3)])) (fun t k => X0.arraylength hx (by rw [(e0 : _ = _)]; exact Ar_1.1) (State.isArrayOf_alike hZ.alike Ar_1.2.1) (g := (mkF m 2 #[rv a0, iv 3] [(.ref a0), (.int 3)])) rfl rfl (hb hby d13_2) t (by rw [len_of S_1 M_1]; exact k)) ?_
  refine own_go (B := s₁.setTop (mkF m 8 #[rv a0, iv 3] [(.int ((((0 : Int32).toUInt32 >>> ((31 : Int32) &&& 31).toUInt32).toInt32).toInt8.toInt32))])) (fun t k => ?_) ?_
  · refine XS.isub X0.here hx rfl (hb hby d13_3) rfl ?_
    refine XS.bipush X0.here hx rfl (hb hby d13_4) ?_
    refine XS.iushr X0.here hx rfl (hb hby d13_6) rfl ?_
    refine XS.i2b X0.here hx rfl (hb hby d13_7) rfl ?_
    exact k
  obtain ⟨fs, hr, hrun, hended, hW, hsame⟩ := X0.leave (v := some (.int (nar .byte ((((0 : Int32).toUInt32 >>> ((31 : Int32) &&& 31).toUInt32).toInt32).toInt8.toInt32)))) (fun h => by rw [Bd.returns] at h; cases h)
  refine ⟨_, _, ?_, hrun, hended, _, _, rfl, ?_, ⟨_, rfl⟩, hW, hsame.mono (by decide) (by decide)⟩
  · show Steps p.tables e below (s₁.setTop (mkF m 8 #[rv a0, iv 3] [(.int ((((0 : Int32).toUInt32 >>> ((31 : Int32) &&& 31).toUInt32).toInt32).toInt8.toInt32))])) _
    exact retN X0 hx (t := .byte) Bd.returns (by simp) (hb hby d13_8) hr
  · show Qcfa3 Z a0 kb vs h0 n0 _ s₁.heap _
    rw [e0]
    exact ⟨congrArg (fun z => some (Value.int z)) (by decide), N0, rfl⟩
theorem ef_si4_3 (m : MethodId) (a0 : Addr) (a1 : Addr) : entryFrame m #[(.ref a0), (.ref a1), (.int 0), (.int 3), .null] 6 = mkF m 0 #[rv a0, rv a1, iv 0, iv 3, .val .null, oU] [] := by first | (simp [entryFrame, mkF, argsToLocals, Value.category]; done) | rfl
def Qsi4_3 (Z : State) (a0 : Addr) (a1 : Addr) (u0 : Value) (u1 : Value) (kc : ClassId) (w : Int32) (ch0 : Int32) (ch1 : Int32) (ch2 : Int32) (h0 : Heap) (n0 : Nat) (v : Option Value) (h : Heap) (L : List Loc) : Prop := ∃ (b : Addr) (kb : ClassId), v = none ∧ Fr n0 L ∧ Keep h0 h [a0] ∧ Fld Z h a0 "java/lang/String" "coder" "B" (.int (0 : Int32)) ∧ Fld Z h a0 "java/lang/String" "value" "[B" (.ref b) ∧ h0.size ≤ b ∧ Arv Z h b kb .byte (3 : Int32) [(.int (own_byte ch0)), (.int (own_byte ch1)), (.int (own_byte ch2))] (.int (0 : Int32))
theorem rmsi4_3 (l : Launch) (Z : State) (av0 : Array Value) (hw : ∀ d ∈ tables_1, d.before av0 Z = true) (ws : List Jvm.Cond) (a0 : Addr) (a1 : Addr) (u0 : Value) (u1 : Value) (kc : ClassId) (w : Int32) (ch0 : Int32) (ch1 : Int32) (ch2 : Int32) (h0 : Heap) (n0 : Nat) (Z0 : n0 ≤ h0.size) (E_a0 : Exa Z h0 a0 "java/lang/String") (F_value_a0 : Fld Z h0 a0 "java/lang/String" "value" "[B" u0) (F_coder_a0 : Fld Z h0 a0 "java/lang/String" "coder" "B" u1) (g_a0 : n0 ≤ a0) (VC : Arv Z h0 a1 kc .char (3 : Int32) [(.int ch0), (.int ch1), (.int ch2)] (.int (0 : Int32))) (nea : a0 ≠ a1) (S_COMPACT_STRINGS : Sta Z h0 "java/lang/String" "COMPACT_STRINGS" "Z" (.int w)) (hw0 : ¬ (w = (0 : Int32))) (hp0 : ¬ ((255 : Int32) < ch0)) (hp1 : ¬ ((255 : Int32) < ch1)) (hp2 : ¬ ((255 : Int32) < ch2)) :
    MetFree l own_m4 (head1 (Jvm.Cond.code own_m4 jdk_42_method_149_code 6 none :: ws) ({ frames := 2, cells := 1, slots := 3, locals := 35 } : Room)) (fun a U => a = #[(.ref a0), (.ref a1), (.int 0), (.int 3), .null] ∧ Z.Warmed39 U.vm ∧ U.heap = h0) (fun _ _ _ _ _ => True) (fun _ U o U' => ∃ v L, o = .returned v ∧ Qsi4_3 Z a0 a1 u0 u1 kc w ch0 ch1 ch2 h0 n0 v U'.heap L ∧ FrameEnd U o U' L ({ frames := 2, cells := 1, slots := 3, locals := 35 } : Room).cells ({ frames := 2, cells := 1, slots := 3, locals := 35 } : Room).slots) := by
  refine MetFree.of_bodySF (plainFor_of_name pn_3) hisR ?_
  intro p e s m args below meth c s₁ Bd hml0 hP hK
  obtain ⟨rfl, hZ, hh⟩ := hP
  have hx := Bd.exec
  have hby := Bd.bytes
  have hml : c.maxLocals = 6 := hml0
  have hown : s.vm.findClass "java/lang/String" = some m.cls := findClass_of_methodNamed Bd.named
  have hnm := (name_of_methodNamed Bd.named Bd.method).1
  have X0 : Stand p l e ({ frames := 2, cells := 1, slots := 3, locals := 35 } : Room) s m #[(.ref a0), (.ref a1), (.int 0), (.int 3), .null] below meth c s₁ [] 0 0 := Stand.of_body Bd
  have e0 : s₁.heap = h0 := by rw [← hh, Bd.state]; rfl
  have N0 := Fr.nil n0
  have K0 : Keep h0 h0 [a0] := Keep.refl h0 [a0]
  refine own_go (B := s₁.setTop (mkF m 0 #[rv a0, rv a1, iv 0, iv 3, .val .null, oU] [])) (fun t k => castTop (ef_si4_3 m a0 a1) k) ?_
  refine own_go (B := s₁.setTop (mkF m 1 #[rv a0, rv a1, iv 0, iv 3, .val .null, oU] [(.ref a0)])) (fun t k => ?_) ?_
  · refine XS.aloadN X0.here hx rfl (hb hby d3_0) rfl rfl ?_
    exact k
  obtain ⟨T_1, X_1, e_1, st_1⟩ := initO X0 hx hZ hown (own_w hw 15 rfl) (own_w hw 16 rfl) (own_w hw 17 rfl) e0 (g := (mkF m 1 #[rv a0, rv a1, iv 0, iv 3, .val .null, oU] [(.ref a0)])) rfl (by rw [hml]; rfl) rfl (hb hby d3_1) (by decide) (W := 0) (by show 2 * 0 + _ ≤ _; exact Nat.le_of_eq rfl) (by decide)
  refine own_go (fun t k => st_1 t k) ?_
  refine own_go (B := T_1.setTop (mkF m 5 #[rv a0, rv a1, iv 0, iv 3, .val .null, oU] [(.int 3)])) (fun t k => ?_) ?_
  · refine XS.iloadN X_1.here hx rfl (hb hby d3_4) rfl ?_
    exact k
  refine own_go (B := T_1.setTop (mkF m 27 #[rv a0, rv a1, iv 0, iv 3, .val .null, oU] [])) (fun t k => ?_) ?_
  · refine XS.ifYes X_1.here hx rfl (pc0 := 5) (pc' := 27) rfl (hb hby d3_5) rfl ((if0 _ _).trans (feq (by decide : ¬ ((3 : Int32) = (0 : Int32)))).2) (by decide) (by decide) ?_
    exact k
  obtain ⟨T_2, X_2, e_2, st_2⟩ := getS2 X_1 hx hZ hown (host := "") (Or.inl (own_w hw 71 rfl)) Via.refl e_1 S_COMPACT_STRINGS (g := (mkF m 27 #[rv a0, rv a1, iv 0, iv 3, .val .null, oU] [])) rfl (hb hby d3_27)
  refine own_go (fun t k => st_2 t k) ?_
  refine own_go (B := T_2.setTop (mkF m 33 #[rv a0, rv a1, iv 0, iv 3, .val .null, oU] [])) (fun t k => ?_) ?_
  · refine XS.ifNo X_2.here hx rfl (hb hby d3_30) rfl ((if0 _ _).trans (feq hw0).1) ?_
    exact k
  refine own_go (B := T_2.setTop (mkF m 36 #[rv a0, rv a1, iv 0, iv 3, .val .null, oU] [(.int 3), (.int 0), (.ref a1)])) (fun t k => ?_) ?_
  · refine XS.aloadN X_2.here hx rfl (hb hby d3_33) rfl rfl ?_
    refine XS.iloadN X_2.here hx rfl (hb hby d3_34) rfl ?_
    refine XS.iloadN X_2.here hx rfl (hb hby d3_35) rfl ?_
    exact k
  have lt_3 := (E_a0).lt
  have kk_3 := K0
  obtain ⟨_, _, ⟨T_3, L_3, k_3, n_3⟩, -, X_3, ⟨Lc_3, hQ_3, l_3, y_3, z_3⟩, st_3⟩ := Jvm.LawKit.callS X_2 hx (y := own_m12) hown (mvT hZ (own_w hw 76 rfl)) (mvT hZ (own_w hw 77 rfl)) (mvT hZ (own_w hw 78 rfl)) (mvT hZ (own_w hw 79 rfl)) (by decide) (backOf (W := 0) (rmcpr3 l Z av0 hw [] a1 kc ch0 ch1 ch2 h0 n0 Z0 VC hp0 hp1 hp2) hZ (own_w hw 79 rfl) (own_w hw 78 rfl) (by decide) (by decide)) (g := (mkF m 36 #[rv a0, rv a1, iv 0, iv 3, .val .null, oU] [(.int 3), (.int 0), (.ref a1)])) rfl (by rw [hml]; rfl) (argsL := [(.ref a1), (.int 0), (.int 3)]) (rest := []) (lenOf pd_5 rfl) rfl (by show 2 * 0 + _ ≤ _; exact Nat.le_of_eq rfl) (hb hby d3_36) (fun _ _ => ⟨rfl, e_2, (by decide : 0 + 1 ≤ _), (by decide : 0 + 3 ≤ _)⟩)
  dsimp only [Pt.U, Pt.locs, Pt.cells, Pt.slots] at X_3 l_3 y_3 z_3 st_3 hQ_3
  subst l_3 y_3 z_3
  obtain ⟨b_3, kb_3, rfl, N_3q, K_3, szq_3, VN_3⟩ := hQ_3
  have N_3 := Fr.app N0 N_3q
  have c1 := K0.trans K_3 all0
  have c2 := E_a0.keep K_3
  have c3 := F_value_a0.keep K_3 nin0
  have c4 := F_coder_a0.keep K_3 nin0
  have c5 := own_stak S_COMPACT_STRINGS K_3
  have c6 := VC.keep K_3 nin0
  have Z0__3 : n0 ≤ T_3.heap.size := Nat.le_trans Z0 K_3.1
  have nq_3 : a0 ≠ b_3 := Nat.ne_of_lt (Nat.lt_of_lt_of_le lt_3 szq_3)
  have szh_3 : h0.size ≤ b_3 := Nat.le_trans kk_3.1 szq_3
  refine own_go (fun t k => st_3 t k) ?_
  refine own_go (B := T_3.setTop (mkF m 45 #[rv a0, rv a1, iv 0, iv 3, .val .null, rv b_3] [(.int 3), (.ref b_3), (.ref a0)])) (fun t k => ?_) ?_
  · refine XS.astore X_3.here hx rfl (hb hby d3_39) rfl rfl (l' := #[rv a0, rv a1, iv 0, iv 3, .val .null, rv b_3]) rfl ?_
    refine XS.aloadN X_3.here hx rfl (hb hby d3_41) rfl rfl ?_
    refine XS.aload X_3.here hx rfl (hb hby d3_42) rfl rfl ?_
    refine XS.iloadN X_3.here hx rfl (hb hby d3_44) rfl ?_
    exact k
  obtain ⟨_, _, ⟨T_4, L_4, k_4, n_4⟩, -, X_4, ⟨Lc_4, hQ_4, l_4, y_4, z_4⟩, st_4⟩ := Jvm.LawKit.callS X_3 hx (y := own_m14) hown (mvT hZ (own_w hw 83 rfl)) (mvT hZ (own_w hw 84 rfl)) (mvT hZ (own_w hw 78 rfl)) (mvT hZ (own_w hw 85 rfl)) (by decide) (backOf (W := 1) (rmcfa3 l Z av0 hw [] b_3 kb_3 [(.int (own_byte ch0)), (.int (own_byte ch1)), (.int (own_byte ch2))] T_3.heap n0 Z0__3 VN_3) hZ (own_w hw 85 rfl) (own_w hw 78 rfl) (by decide) (by decide)) (g := (mkF m 45 #[rv a0, rv a1, iv 0, iv 3, .val .null, rv b_3] [(.int 3), (.ref b_3), (.ref a0)])) rfl (by rw [hml]; rfl) (argsL := [(.ref b_3), (.int 3)]) (rest := [(.ref a0)]) (lenOf pd_6 rfl) rfl (by show 2 * 0 + _ ≤ _; exact Nat.le_of_eq rfl) (hb hby d3_45) (fun _ _ => ⟨rfl, rfl, (by decide : 1 + 0 ≤ _), (by decide : 3 + 0 ≤ _)⟩)
  dsimp only [Pt.U, Pt.locs, Pt.cells, Pt.slots] at X_4 l_4 y_4 z_4 st_4 hQ_4
  subst l_4 y_4 z_4
  obtain ⟨rfl, N_4q, e_4⟩ := hQ_4
  have N_4 := Fr.app N_3 N_4q
  refine own_go (fun t k => st_4 t k) ?_
  obtain ⟨T_5, h_5, X_5, e_5, W_5, st_5⟩ := putFN X_4 hx hZ hown (own_w hw 25 rfl) Via.refl e_4 c4 c2 (Or.inr ⟨(own_w hw 21 rfl), rfl, hnm⟩) (own_w hw 5 rfl) (ty := .byte) (v' := (.int 0)) (by decide) rfl (by decide) (g := (mkF m 48 #[rv a0, rv a1, iv 0, iv 3, .val .null, rv b_3] [(.int 0), (.ref a0)])) rfl rfl (hb hby d3_48)
  have c7 := c1.wr W_5 (Or.inl (List.mem_of_getElem? (i := 0) rfl))
  have c8 := c2.wr W_5
  have c9 := c3.other W_5 (Or.inr (slot_ne (Or.inr (own_w hw 20 rfl)) (Or.inr (own_w hw 21 rfl)) (by decide) (t := (.array .byte)) (t' := .byte) (by decide) (by decide)))
  have c10 := c4.same W_5
  have c11 := c5.wr W_5
  have c12 := c6.other W_5 (Ne.symm nea)
  have c13 := VN_3.other W_5 (Ne.symm nq_3)
  have N_5 := Fr.snoc X_5 N_4 g_a0
  have Z0__5 : n0 ≤ h_5.size := by rw [W_5.size]; exact Z0__3
  refine own_go (fun t k => st_5 t k) ?_
  refine own_go (B := T_5.setTop (mkF m 54 #[rv a0, rv a1, iv 0, iv 3, .val .null, rv b_3] [(.ref b_3), (.ref a0)])) (fun t k => ?_) ?_
  · refine XS.aloadN X_5.here hx rfl (hb hby d3_51) rfl rfl ?_
    refine XS.aload X_5.here hx rfl (hb hby d3_52) rfl rfl ?_
    exact k
  obtain ⟨T_6, h_6, X_6, e_6, W_6, st_6⟩ := putF X_5 hx hZ hown (host := "") (Or.inl (own_w hw 24 rfl)) Via.refl e_5 c9 c8 (Or.inr ⟨(own_w hw 20 rfl), rfl, hnm⟩) (own_w hw 5 rfl) (ty := (.array .byte)) (by decide) rfl rfl (g := (mkF m 54 #[rv a0, rv a1, iv 0, iv 3, .val .null, rv b_3] [(.ref b_3), (.ref a0)])) rfl rfl (hb hby d3_54)
  have c14 := c7.wr W_6 (Or.inl (List.mem_of_getElem? (i := 0) rfl))
  have c15 := c8.wr W_6
  have c16 := c9.same W_6
  have c17 := c10.other W_6 (Or.inr (slot_ne (Or.inr (own_w hw 21 rfl)) (Or.inr (own_w hw 20 rfl)) (by decide) (t := .byte) (t' := (.array .byte)) (by decide) (by decide)))
  have c18 := c11.wr W_6
  have c19 := c12.other W_6 (Ne.symm nea)
  have c20 := c13.other W_6 (Ne.symm nq_3)
  have N_6 := Fr.snoc X_6 N_5 g_a0
  have Z0__6 : n0 ≤ h_6.size := by rw [W_6.size]; exact Z0__5
  refine own_go (fun t k => st_6 t k) ?_
  obtain ⟨fs, hr, hrun, hended, hW, hsame⟩ := X_6.leave (v := none) (fun _ => rfl)
  refine ⟨_, _, ?_, hrun, hended, _, _, rfl, ?_, ⟨_, rfl⟩, hW, hsame.mono (by decide) (by decide)⟩
  · show Steps p.tables e below (T_6.setTop (mkF m 57 #[rv a0, rv a1, iv 0, iv 3, .val .null, rv b_3] [])) _
    exact X_6.returnOut hx Bd.returns (hb hby d3_57) hr
  · show Qsi4_3 Z a0 a1 u0 u1 kc w ch0 ch1 ch2 h0 n0 _ T_6.heap _
    rw [e_6]
    exact ⟨b_3, kb_3, rfl, N_6, c14, c17, c16, szh_3, c20⟩
theorem ef_si1_3 (m : MethodId) (a0 : Addr) (a1 : Addr) : entryFrame m #[(.ref a0), (.ref a1)] 2 = mkF m 0 #[rv a0, rv a1] [] := by first | (simp [entryFrame, mkF, argsToLocals, Value.category]; done) | rfl
def Qsi1_3 (Z : State) (a0 : Addr) (a1 : Addr) (u0 : Value) (u1 : Value) (kc : ClassId) (w : Int32) (ch0 : Int32) (ch1 : Int32) (ch2 : Int32) (h0 : Heap) (n0 : Nat) (v : Option Value) (h : Heap) (L : List Loc) : Prop := ∃ (b : Addr) (kb : ClassId), v = none ∧ Fr n0 L ∧ Keep h0 h [a0] ∧ Fld Z h a0 "java/lang/String" "coder" "B" (.int (0 : Int32)) ∧ Fld Z h a0 "java/lang/String" "value" "[B" (.ref b) ∧ h0.size ≤ b ∧ Arv Z h b kb .byte (3 : Int32) [(.int (own_byte ch0)), (.int (own_byte ch1)), (.int (own_byte ch2))] (.int (0 : Int32))
theorem rmsi1_3 (l : Launch) (Z : State) (av0 : Array Value) (hw : ∀ d ∈ tables_1, d.before av0 Z = true) (ws : List Jvm.Cond) (a0 : Addr) (a1 : Addr) (u0 : Value) (u1 : Value) (kc : ClassId) (w : Int32) (ch0 : Int32) (ch1 : Int32) (ch2 : Int32) (h0 : Heap) (n0 : Nat) (Z0 : n0 ≤ h0.size) (E_a0 : Exa Z h0 a0 "java/lang/String") (F_value_a0 : Fld Z h0 a0 "java/lang/String" "value" "[B" u0) (F_coder_a0 : Fld Z h0 a0 "java/lang/String" "coder" "B" u1) (g_a0 : n0 ≤ a0) (VC : Arv Z h0 a1 kc .char (3 : Int32) [(.int ch0), (.int ch1), (.int ch2)] (.int (0 : Int32))) (nea : a0 ≠ a1) (S_COMPACT_STRINGS : Sta Z h0 "java/lang/String" "COMPACT_STRINGS" "Z" (.int w)) (hw0 : ¬ (w = (0 : Int32))) (hp0 : ¬ ((255 : Int32) < ch0)) (hp1 : ¬ ((255 : Int32) < ch1)) (hp2 : ¬ ((255 : Int32) < ch2)) :
    MetFree l own_m3 (head1 (Jvm.Cond.code own_m3 jdk_42_method_3_code 2 none :: ws) ({ frames := 3, cells := 1, slots := 3, locals := 52 } : Room)) (fun a U => a = #[(.ref a0), (.ref a1)] ∧ Z.Warmed39 U.vm ∧ U.heap = h0) (fun _ _ _ _ _ => True) (fun _ U o U' => ∃ v L, o = .returned v ∧ Qsi1_3 Z a0 a1 u0 u1 kc w ch0 ch1 ch2 h0 n0 v U'.heap L ∧ FrameEnd U o U' L ({ frames := 3, cells := 1, slots := 3, locals := 52 } : Room).cells ({ frames := 3, cells := 1, slots := 3, locals := 52 } : Room).slots) := by
  refine MetFree.of_bodySF (plainFor_of_name pn_2) hisR ?_
  intro p e s m args below meth c s₁ Bd hml0 hP hK
  obtain ⟨rfl, hZ, hh⟩ := hP
  have hx := Bd.exec
  have hby := Bd.bytes
  have hml : c.maxLocals = 2 := hml0
  have hown : s.vm.findClass "java/lang/String" = some m.cls := findClass_of_methodNamed Bd.named
  have hnm := (name_of_methodNamed Bd.named Bd.method).1
  have X0 : Stand p l e ({ frames := 3, cells := 1, slots := 3, locals := 52 } : Room) s m #[(.ref a0), (.ref a1)] below meth c s₁ [] 0 0 := Stand.of_body Bd
  have e0 : s₁.heap = h0 := by rw [← hh, Bd.state]; rfl
  have N0 := Fr.nil n0
  have K0 : Keep h0 h0 [a0] := Keep.refl h0 [a0]
  refine own_go (B := s₁.setTop (mkF m 0 #[rv a0, rv a1] [])) (fun t k => castTop (ef_si1_3 m a0 a1) k) ?_
  refine own_go (B := s₁.setTop (mkF m 4 #[rv a0, rv a1] [(.ref a1), (.int 0), (.ref a1), (.ref a0)])) (fun t k => ?_) ?_
  · refine XS.aloadN X0.here hx rfl (hb hby d2_0) rfl rfl ?_
    refine XS.aloadN X0.here hx rfl (hb hby d2_1) rfl rfl ?_
    refine XS.iconst X0.here hx rfl (hb hby d2_2) ?_
    refine XS.aloadN X0.here hx rfl (hb hby d2_3) rfl rfl ?_
    exact k
  obtain ⟨cl_1, Ar_1, -, S_1, M_1, -, -⟩ := id VC
  refine own_go (B := s₁.setTop (mkF m 5 #[rv a0, rv a1] [(.int 3), (.int 0), (.ref a1), (.ref a0)])) (fun t k => X0.arraylength hx (by rw [(e0 : _ = _)]; exact Ar_1.1) (State.isArrayOf_alike hZ.alike Ar_1.2.1) (g := (mkF m 4 #[rv a0, rv a1] [(.ref a1), (.int 0), (.ref a1), (.ref a0)])) rfl rfl (hb hby d2_4) t (by rw [len_of S_1 M_1]; exact k)) ?_
  refine own_go (B := s₁.setTop (mkF m 6 #[rv a0, rv a1] [.null, (.int 3), (.int 0), (.ref a1), (.ref a0)])) (fun t k => ?_) ?_
  · refine XS.aconstNull X0.here hx rfl (hb hby d2_5) ?_
    exact k
  obtain ⟨_, _, ⟨T_2, L_2, k_2, n_2⟩, -, X_2, ⟨Lc_2, hQ_2, l_2, y_2, z_2⟩, st_2⟩ := X0.specialBack hx (y := own_m4) rfl hown (mvT hZ (own_w hw 11 rfl)) (mvT hZ (own_w hw 12 rfl)) (mvT hZ (own_w hw 14 rfl)) (by decide) (backOf (W := 0) (rmsi4_3 l Z av0 hw [] a0 a1 u0 u1 kc w ch0 ch1 ch2 h0 n0 Z0 E_a0 F_value_a0 F_coder_a0 g_a0 VC nea S_COMPACT_STRINGS hw0 hp0 hp1 hp2) hZ (own_w hw 14 rfl) (own_w hw 6 rfl) (by decide) (by decide)) (g := (mkF m 6 #[rv a0, rv a1] [.null, (.int 3), (.int 0), (.ref a1), (.ref a0)])) rfl (by rw [hml]; rfl) (Steps.refl _) (a := a0) (argsL := [(.ref a1), (.int 0), (.int 3), .null]) (rest := []) (lenOf pd_7 rfl) rfl (by show 2 * 0 + _ ≤ _; exact Nat.le_of_eq rfl) (hb hby d2_6) (fun _ _ => ⟨rfl, e0, (by decide : 0 + 1 ≤ _), (by decide : 0 + 3 ≤ _)⟩)
  dsimp only [Pt.U, Pt.locs, Pt.cells, Pt.slots] at X_2 l_2 y_2 z_2 st_2 hQ_2
  subst l_2 y_2 z_2
  obtain ⟨bb_2, kb_2, rfl, N_2q, K_2, Fc_2, Fv_2, szq_2, VN_2⟩ := hQ_2
  have N_2 := Fr.app N0 N_2q
  have c1 := K0.trans K_2 (allS (Or.inl (List.mem_of_getElem? (i := 0) rfl)) all0)
  have c2 := E_a0.keep K_2
  have c3 := own_stake S_COMPACT_STRINGS K_2 E_a0
  have c4 := VC.keep K_2 (ninS (Ne.symm nea) nin0)
  have Z0__2 : n0 ≤ T_2.heap.size := Nat.le_trans Z0 K_2.1
  refine own_go (fun t k => st_2.trans k) ?_
  obtain ⟨fs, hr, hrun, hended, hW, hsame⟩ := X_2.leave (v := none) (fun _ => rfl)
  refine ⟨_, _, ?_, hrun, hended, _, _, rfl, ?_, ⟨_, rfl⟩, hW, hsame.mono (by decide) (by decide)⟩
  · show Steps p.tables e below (T_2.setTop (mkF m 9 #[rv a0, rv a1] [])) _
    exact X_2.returnOut hx Bd.returns (hb hby d2_9) hr
  · show Qsi1_3 Z a0 a1 u0 u1 kc w ch0 ch1 ch2 h0 n0 _ T_2.heap _
    exact ⟨bb_2, kb_2, rfl, N_2, c1, Fc_2, Fv_2, szq_2, VN_2⟩
theorem d3_8 : decode jdk_42_method_149_code 8 = .ok (.aload_n 0, 1) := by decide +kernel
theorem d3_9 : decode jdk_42_method_149_code 9 = .ok (.ldc 7, 2) := by decide +kernel
theorem d3_11 : decode jdk_42_method_149_code 11 = .ok (.getfield 9, 3) := by decide +kernel
theorem d3_14 : decode jdk_42_method_149_code 14 = .ok (.putfield 9, 3) := by decide +kernel
theorem d3_17 : decode jdk_42_method_149_code 17 = .ok (.aload_n 0, 1) := by decide +kernel
theorem d3_18 : decode jdk_42_method_149_code 18 = .ok (.ldc 7, 2) := by decide +kernel
theorem d3_20 : decode jdk_42_method_149_code 20 = .ok (.getfield 15, 3) := by decide +kernel
theorem d3_23 : decode jdk_42_method_149_code 23 = .ok (.putfield 15, 3) := by decide +kernel
theorem d3_26 : decode jdk_42_method_149_code 26 = .ok (.return_, 1) := by decide +kernel
theorem ef_si4_0 (m : MethodId) (a0 : Addr) (a1 : Addr) : entryFrame m #[(.ref a0), (.ref a1), (.int 0), (.int 0), .null] 6 = mkF m 0 #[rv a0, rv a1, iv 0, iv 0, .val .null, oU] [] := by first | (simp [entryFrame, mkF, argsToLocals, Value.category]; done) | rfl
def Qsi4_0 (Z : State) (a0 : Addr) (a1 : Addr) (u1 : Value) (kc : ClassId) (h0 : Heap) (n0 : Nat) (v : Option Value) (h : Heap) (L : List Loc) : Prop := ∃ (b : Addr) (kb : ClassId), v = none ∧ Fr n0 L ∧ Keep h0 h [a0] ∧ Fld Z h a0 "java/lang/String" "coder" "B" (.int (0 : Int32)) ∧ Fld Z h a0 "java/lang/String" "value" "[B" (.ref b) ∧ b < h.size ∧ Arv Z h b kb .byte (0 : Int32) [] (.int (0 : Int32))
theorem rmsi4_0 (l : Launch) (Z : State) (av0 : Array Value) (hw : ∀ d ∈ tables_1, d.before av0 Z = true) (ws : List Jvm.Cond) (a0 : Addr) (a1 : Addr) (u1 : Value) (kc : ClassId) (h0 : Heap) (n0 : Nat) (Z0 : n0 ≤ h0.size) (E_a0 : Exa Z h0 a0 "java/lang/String") (F_value_a0 : Fld Z h0 a0 "java/lang/String" "value" "[B" .null) (F_coder_a0 : Fld Z h0 a0 "java/lang/String" "coder" "B" u1) (g_a0 : n0 ≤ a0) (VC : Arv Z h0 a1 kc .char (0 : Int32) [] (.int (0 : Int32))) (nea : a0 ≠ a1) (hEL : EW Z av0 own_EL) :
    MetFree l own_m4 (head1 (Jvm.Cond.code own_m4 jdk_42_method_149_code 6 none :: ws) ({ frames := 1, cells := 4, slots := 8, locals := 12 } : Room)) (fun a U => a = #[(.ref a0), (.ref a1), (.int 0), (.int 0), .null] ∧ Z.Warmed39 U.vm ∧ U.heap = h0 ∧ CHv Z own_EL U.vm h0) (fun _ _ _ _ _ => True) (fun _ U o U' => ∃ v L, o = .returned v ∧ Qsi4_0 Z a0 a1 u1 kc h0 n0 v U'.heap L ∧ CHr Z own_EL U.vm U.heap U'.vm U'.heap ∧ ReturnedEndW U o U' L ({ frames := 1, cells := 4, slots := 8, locals := 12 } : Room).cells ({ frames := 1, cells := 4, slots := 8, locals := 12 } : Room).slots) := by
  refine MetFree.of_bodySF (plainFor_of_name pn_3) hisR ?_
  intro p e s m args below meth c s₁ Bd hml0 hP hK
  obtain ⟨rfl, hZ, hh, H0⟩ := hP
  have hx := Bd.exec
  have hby := Bd.bytes
  have hml : c.maxLocals = 6 := hml0
  have hown : s.vm.findClass "java/lang/String" = some m.cls := findClass_of_methodNamed Bd.named
  have hnm := (name_of_methodNamed Bd.named Bd.method).1
  have X0 : Stand p l e ({ frames := 1, cells := 4, slots := 8, locals := 12 } : Room) s m #[(.ref a0), (.ref a1), (.int 0), (.int 0), .null] below meth c s₁ [] 0 0 := Stand.of_body Bd
  have e0 : s₁.heap = h0 := by rw [← hh, Bd.state]; rfl
  have N0 := Fr.nil n0
  have H1 : CHr Z own_EL s.vm h0 s.vm h0 := ⟨H0, Nat.le_refl _, fun _ q => Or.inl q⟩
  have SF0 : Safe Z own_EL s.vm h0 a0 := own_safe_null hZ.alike E_a0 F_value_a0
  have K0 : Keep h0 h0 [a0] := Keep.refl h0 [a0]
  refine own_go (B := s₁.setTop (mkF m 0 #[rv a0, rv a1, iv 0, iv 0, .val .null, oU] [])) (fun t k => castTop (ef_si4_0 m a0 a1) k) ?_
  refine own_go (B := s₁.setTop (mkF m 1 #[rv a0, rv a1, iv 0, iv 0, .val .null, oU] [(.ref a0)])) (fun t k => ?_) ?_
  · refine XS.aloadN X0.here hx rfl (hb hby d3_0) rfl rfl ?_
    exact k
  obtain ⟨T_1, X_1, e_1, st_1⟩ := initO X0 hx hZ hown (own_w hw 15 rfl) (own_w hw 16 rfl) (own_w hw 17 rfl) e0 (g := (mkF m 1 #[rv a0, rv a1, iv 0, iv 0, .val .null, oU] [(.ref a0)])) rfl (by rw [hml]; rfl) rfl (hb hby d3_1) (by decide) (W := 0) (by show 2 * 0 + _ ≤ _; exact Nat.le_of_eq rfl) (by decide)
  refine own_go (fun t k => st_1 t k) ?_
  refine own_go (B := T_1.setTop (mkF m 5 #[rv a0, rv a1, iv 0, iv 0, .val .null, oU] [(.int 0)])) (fun t k => ?_) ?_
  · refine XS.iloadN X_1.here hx rfl (hb hby d3_4) rfl ?_
    exact k
  refine own_go (B := T_1.setTop (mkF m 8 #[rv a0, rv a1, iv 0, iv 0, .val .null, oU] [])) (fun t k => ?_) ?_
  · refine XS.ifNo X_1.here hx rfl (hb hby d3_5) rfl ((if0 _ _).trans (teq (by decide : (0 : Int32) = (0 : Int32))).2) ?_
    exact k
  refine own_go (B := T_1.setTop (mkF m 9 #[rv a0, rv a1, iv 0, iv 0, .val .null, oU] [(.ref a0)])) (fun t k => ?_) ?_
  · refine XS.aloadN X_1.here hx rfl (hb hby d3_8) rfl rfl ?_
    exact k
  have wS_2 := own_wS hw
  obtain ⟨b_2, T_2, h_2, k1_2, d_2, kc_2, X_2, e_2, E_2, Si_2, ls_2, hZ_2, hown_2, A_2, Fc_2, Fv_2, V_2, -, -, CH_2, -, NE_2, st_2⟩ := ldcCH (s := s) (vm0 := s.vm) (show Stand p l e ({ frames := 1, cells := 4, slots := 8, locals := 12 } : Room) (s.setVm s.vm) m #[(.ref a0), (.ref a1), (.int 0), (.int 0), .null] below meth c T_1 _ _ _ from X_1) hx hZ hown (own_w hw 18 rfl) wS_2 e_1 ((State.WarmedH.refl s).since 0) (Nat.zero_le _) hEL (List.mem_of_getElem? (i := 0) rfl) H1.1 (vs := []) (z := (0 : Int32)) ⟨by decide, rfl⟩ (by decide) rfl (g := (mkF m 9 #[rv a0, rv a1, iv 0, iv 0, .val .null, oU] [(.ref a0)])) rfl (hb hby d3_9) (n := 0) (by decide) (by decide) (by decide) (by decide)
  have c1 := CHr.safe CH_2 (E_a0).lt SF0
  have c2 := H1.trans CH_2
  have ne_a0_b_2 : a0 ≠ b_2 := (NE_2 _ c1).1
  have ne_a0_d_2 : a0 ≠ d_2 := (NE_2 _ c1).2
  have c3 := K0.ext E_2
  have c4 := E_a0.ext E_2
  have c5 := F_value_a0.ext E_2
  have c6 := F_coder_a0.ext E_2
  have c7 := VC.ext E_2
  have Z0__2 : n0 ≤ h_2.size := Nat.le_trans Z0 E_2.1
  refine own_go (fun t k => st_2 t k) ?_
  obtain ⟨T_3, X_3, e_3, st_3⟩ := getF X_2 hx hZ_2 hown_2 (host := "") (Or.inl (own_w hw 24 rfl)) Via.refl e_2 Fv_2 (g := (mkF m 11 #[rv a0, rv a1, iv 0, iv 0, .val .null, oU] [(.ref b_2), (.ref a0)])) rfl rfl (hb hby d3_11)
  refine own_go (fun t k => st_3 t k) ?_
  obtain ⟨T_4, h_4, X_4, e_4, W_4, st_4⟩ := putF X_3 hx hZ_2 hown_2 (host := "") (Or.inl (own_w hw 24 rfl)) Via.refl e_3 c5 c4 (Or.inr ⟨(own_w hw 20 rfl), rfl, hnm⟩) (own_w hw 5 rfl) (ty := (.array .byte)) (by decide) rfl rfl (g := (mkF m 14 #[rv a0, rv a1, iv 0, iv 0, .val .null, oU] [(.ref d_2), (.ref a0)])) rfl rfl (hb hby d3_14)
  have c8 := Safe.wr W_4 c1 c2.1 c1
  have c9 := c2.trans (CHr.wr W_4 c1 c2.1)
  have c10 := Nat.le_trans ls_2 (Nat.le_of_eq W_4.size.symm)
  have c11 := c3.wr W_4 (Or.inl (List.mem_of_getElem? (i := 0) rfl))
  have c12 := c4.wr W_4
  have c13 := c5.same W_4
  have c14 := c6.other W_4 (Or.inr (slot_ne (Or.inr (own_w hw 21 rfl)) (Or.inr (own_w hw 20 rfl)) (by decide) (t := .byte) (t' := (.array .byte)) (by decide) (by decide)))
  have c15 := c7.other W_4 (Ne.symm nea)
  have c16 := A_2.wr W_4
  have c17 := Fc_2.other W_4 (Or.inl (Ne.symm ne_a0_b_2))
  have c18 := Fv_2.other W_4 (Or.inl (Ne.symm ne_a0_b_2))
  have c19 := V_2.other W_4 (Ne.symm ne_a0_d_2)
  have N_4 := Fr.snoc X_4 N0 g_a0
  have Z0__4 : n0 ≤ h_4.size := by rw [W_4.size]; exact Z0__2
  refine own_go (fun t k => st_4 t k) ?_
  refine own_go (B := T_4.setTop (mkF m 18 #[rv a0, rv a1, iv 0, iv 0, .val .null, oU] [(.ref a0)])) (fun t k => ?_) ?_
  · refine XS.aloadN X_4.here hx rfl (hb hby d3_17) rfl rfl ?_
    exact k
  have wS_5 := own_wS hw
  obtain ⟨b_5, T_5, h_5, k1_5, d_5, kc_5, X_5, e_5, E_5, Si_5, ls_5, hZ_5, hown_5, A_5, Fc_5, Fv_5, V_5, -, -, CH_5, -, NE_5, st_5⟩ := ldcCH (s := s) (vm0 := T_2.vm) X_4 hx hZ_2 hown_2 (own_w hw 18 rfl) wS_5 e_4 Si_2 c10 hEL (List.mem_of_getElem? (i := 0) rfl) c9.1 (vs := []) (z := (0 : Int32)) ⟨by decide, rfl⟩ (by decide) rfl (g := (mkF m 18 #[rv a0, rv a1, iv 0, iv 0, .val .null, oU] [(.ref a0)])) rfl (hb hby d3_18) (n := 0) (by decide) (by decide) (by decide) (by decide)
  have c20 := CHr.safe CH_5 (c12).lt c8
  have c21 := c9.trans CH_5
  have ne_a0_b_5 : a0 ≠ b_5 := (NE_5 _ c20).1
  have ne_a0_d_5 : a0 ≠ d_5 := (NE_5 _ c20).2
  have c22 := c11.ext E_5
  have c23 := c12.ext E_5
  have c24 := c13.ext E_5
  have c25 := c14.ext E_5
  have c26 := c15.ext E_5
  have c27 := c16.ext E_5
  have c28 := c17.ext E_5
  have c29 := c18.ext E_5
  have c30 := c19.ext E_5
  have Z0__5 : n0 ≤ h_5.size := Nat.le_trans Z0__4 E_5.1
  refine own_go (fun t k => st_5 t k) ?_
  obtain ⟨T_6, X_6, e_6, st_6⟩ := getF X_5 hx hZ_5 hown_5 (host := "") (Or.inl (own_w hw 25 rfl)) Via.refl e_5 Fc_5 (g := (mkF m 20 #[rv a0, rv a1, iv 0, iv 0, .val .null, oU] [(.ref b_5), (.ref a0)])) rfl rfl (hb hby d3_20)
  refine own_go (fun t k => st_6 t k) ?_
  obtain ⟨T_7, h_7, X_7, e_7, W_7, st_7⟩ := putFN X_6 hx hZ_5 hown_5 (own_w hw 25 rfl) Via.refl e_6 c25 c23 (Or.inr ⟨(own_w hw 21 rfl), rfl, hnm⟩) (own_w hw 5 rfl) (ty := .byte) (v' := (.int 0)) (by decide) rfl (by decide) (g := (mkF m 23 #[rv a0, rv a1, iv 0, iv 0, .val .null, oU] [(.int 0), (.ref a0)])) rfl rfl (hb hby d3_23)
  have c31 := Safe.wr W_7 c20 c21.1 c20
  have c32 := c21.trans (CHr.wr W_7 c20 c21.1)
  have c33 := Nat.le_trans ls_5 (Nat.le_of_eq W_7.size.symm)
  have c34 := c22.wr W_7 (Or.inl (List.mem_of_getElem? (i := 0) rfl))
  have c35 := c23.wr W_7
  have c36 := c24.other W_7 (Or.inr (slot_ne (Or.inr (own_w hw 20 rfl)) (Or.inr (own_w hw 21 rfl)) (by decide) (t := (.array .byte)) (t' := .byte) (by decide) (by decide)))
  have c37 := c25.same W_7
  have c38 := c26.other W_7 (Ne.symm nea)
  have c39 := c27.wr W_7
  have c40 := c28.other W_7 (Or.inl (Ne.symm ne_a0_b_2))
  have c41 := c29.other W_7 (Or.inl (Ne.symm ne_a0_b_2))
  have c42 := c30.other W_7 (Ne.symm ne_a0_d_2)
  have c43 := A_5.wr W_7
  have c44 := Fc_5.other W_7 (Or.inl (Ne.symm ne_a0_b_5))
  have c45 := Fv_5.other W_7 (Or.inl (Ne.symm ne_a0_b_5))
  have c46 := V_5.other W_7 (Ne.symm ne_a0_d_5)
  have N_7 := Fr.snoc X_7 N_4 g_a0
  have Z0__7 : n0 ≤ h_7.size := by rw [W_7.size]; exact Z0__5
  refine own_go (fun t k => st_7 t k) ?_
  obtain ⟨fs, hr, hrun, hended, hRW⟩ := X_7.leaveW Si_5 (by rw [e_7]; exact c33) (v := none) (fun _ => rfl)
  have hCH : CHr Z own_EL s.vm s.heap T_7.vm T_7.heap := by rw [hh, e_7]; exact (c32.trans (CHv.at X_7 hZ_5 hEL c32.1))
  refine ⟨_, _, ?_, hrun, hended, _, _, rfl, ?_, hCH, hRW.1, hRW.2.1, hRW.2.2.1, hRW.2.2.2.mono (by decide) (by decide)⟩
  · show Steps p.tables e below (T_7.setTop (mkF m 26 #[rv a0, rv a1, iv 0, iv 0, .val .null, oU] [])) _
    exact X_7.returnOut hx Bd.returns (hb hby d3_26) hr
  · show Qsi4_0 Z a0 a1 u1 kc h0 n0 _ T_7.heap _
    rw [e_7]
    exact ⟨d_2, kc_2, rfl, N_7, c34, c37, c36, c42.lt, c42⟩
theorem ef_si1_0 (m : MethodId) (a0 : Addr) (a1 : Addr) : entryFrame m #[(.ref a0), (.ref a1)] 2 = mkF m 0 #[rv a0, rv a1] [] := by first | (simp [entryFrame, mkF, argsToLocals, Value.category]; done) | rfl
def Qsi1_0 (Z : State) (a0 : Addr) (a1 : Addr) (u1 : Value) (kc : ClassId) (h0 : Heap) (n0 : Nat) (v : Option Value) (h : Heap) (L : List Loc) : Prop := ∃ (b : Addr) (kb : ClassId), v = none ∧ Fr n0 L ∧ Keep h0 h [a0] ∧ Fld Z h a0 "java/lang/String" "coder" "B" (.int (0 : Int32)) ∧ Fld Z h a0 "java/lang/String" "value" "[B" (.ref b) ∧ b < h.size ∧ Arv Z h b kb .byte (0 : Int32) [] (.int (0 : Int32))
theorem rmsi1_0 (l : Launch) (Z : State) (av0 : Array Value) (hw : ∀ d ∈ tables_1, d.before av0 Z = true) (ws : List Jvm.Cond) (a0 : Addr) (a1 : Addr) (u1 : Value) (kc : ClassId) (h0 : Heap) (n0 : Nat) (Z0 : n0 ≤ h0.size) (E_a0 : Exa Z h0 a0 "java/lang/String") (F_value_a0 : Fld Z h0 a0 "java/lang/String" "value" "[B" .null) (F_coder_a0 : Fld Z h0 a0 "java/lang/String" "coder" "B" u1) (g_a0 : n0 ≤ a0) (VC : Arv Z h0 a1 kc .char (0 : Int32) [] (.int (0 : Int32))) (nea : a0 ≠ a1) (hEL : EW Z av0 own_EL) :
    MetFree l own_m3 (head1 (Jvm.Cond.code own_m3 jdk_42_method_3_code 2 none :: ws) ({ frames := 2, cells := 4, slots := 8, locals := 29 } : Room)) (fun a U => a = #[(.ref a0), (.ref a1)] ∧ Z.Warmed39 U.vm ∧ U.heap = h0 ∧ CHv Z own_EL U.vm h0) (fun _ _ _ _ _ => True) (fun _ U o U' => ∃ v L, o = .returned v ∧ Qsi1_0 Z a0 a1 u1 kc h0 n0 v U'.heap L ∧ CHr Z own_EL U.vm U.heap U'.vm U'.heap ∧ ReturnedEndW U o U' L ({ frames := 2, cells := 4, slots := 8, locals := 29 } : Room).cells ({ frames := 2, cells := 4, slots := 8, locals := 29 } : Room).slots) := by
  refine MetFree.of_bodySF (plainFor_of_name pn_2) hisR ?_
  intro p e s m args below meth c s₁ Bd hml0 hP hK
  obtain ⟨rfl, hZ, hh, H0⟩ := hP
  have hx := Bd.exec
  have hby := Bd.bytes
  have hml : c.maxLocals = 2 := hml0
  have hown : s.vm.findClass "java/lang/String" = some m.cls := findClass_of_methodNamed Bd.named
  have hnm := (name_of_methodNamed Bd.named Bd.method).1
  have X0 : Stand p l e ({ frames := 2, cells := 4, slots := 8, locals := 29 } : Room) s m #[(.ref a0), (.ref a1)] below meth c s₁ [] 0 0 := Stand.of_body Bd
  have e0 : s₁.heap = h0 := by rw [← hh, Bd.state]; rfl
  have N0 := Fr.nil n0
  have H1 : CHr Z own_EL s.vm h0 s.vm h0 := ⟨H0, Nat.le_refl _, fun _ q => Or.inl q⟩
  have SF0 : Safe Z own_EL s.vm h0 a0 := own_safe_null hZ.alike E_a0 F_value_a0
  have K0 : Keep h0 h0 [a0] := Keep.refl h0 [a0]
  refine own_go (B := s₁.setTop (mkF m 0 #[rv a0, rv a1] [])) (fun t k => castTop (ef_si1_0 m a0 a1) k) ?_
  refine own_go (B := s₁.setTop (mkF m 4 #[rv a0, rv a1] [(.ref a1), (.int 0), (.ref a1), (.ref a0)])) (fun t k => ?_) ?_
  · refine XS.aloadN X0.here hx rfl (hb hby d2_0) rfl rfl ?_
    refine XS.aloadN X0.here hx rfl (hb hby d2_1) rfl rfl ?_
    refine XS.iconst X0.here hx rfl (hb hby d2_2) ?_
    refine XS.aloadN X0.here hx rfl (hb hby d2_3) rfl rfl ?_
    exact k
  obtain ⟨cl_1, Ar_1, -, S_1, M_1, -, -⟩ := id VC
  refine own_go (B := s₁.setTop (mkF m 5 #[rv a0, rv a1] [(.int 0), (.int 0), (.ref a1), (.ref a0)])) (fun t k => X0.arraylength hx (by rw [(e0 : _ = _)]; exact Ar_1.1) (State.isArrayOf_alike hZ.alike Ar_1.2.1) (g := (mkF m 4 #[rv a0, rv a1] [(.ref a1), (.int 0), (.ref a1), (.ref a0)])) rfl rfl (hb hby d2_4) t (by rw [len_of S_1 M_1]; exact k)) ?_
  refine own_go (B := s₁.setTop (mkF m 6 #[rv a0, rv a1] [.null, (.int 0), (.int 0), (.ref a1), (.ref a0)])) (fun t k => ?_) ?_
  · refine XS.aconstNull X0.here hx rfl (hb hby d2_5) ?_
    exact k
  obtain ⟨_, _, ⟨T_2, L_2, k_2, n_2⟩, -, Xb_2, Sb_2, gs_2, ⟨Lc_2, hQ_2, l_2, y_2, z_2, CH_2⟩, st_2⟩ := (show Stand p l e ({ frames := 2, cells := 4, slots := 8, locals := 29 } : Room) (s.setVm s.vm) m #[(.ref a0), (.ref a1)] below meth c s₁ _ _ _ from X0).specialBackS hx (y := own_m4) rfl hown (mvT hZ (own_w hw 11 rfl)) (mvT hZ (own_w hw 12 rfl)) (mvT hZ (own_w hw 14 rfl)) (by decide) (backOfSH (s := s) (vm0 := s.vm) (W := 0) (rmsi4_0 l Z av0 hw [] a0 a1 u1 kc h0 n0 Z0 E_a0 F_value_a0 F_coder_a0 g_a0 VC nea hEL) hZ (own_w hw 14 rfl) (own_w hw 6 rfl) (by decide) (by decide) hEL H1.1) (g := (mkF m 6 #[rv a0, rv a1] [.null, (.int 0), (.int 0), (.ref a1), (.ref a0)])) rfl (by rw [hml]; rfl) (Steps.refl _) (a := a0) (argsL := [(.ref a1), (.int 0), (.int 0), .null]) (rest := []) (lenOf pd_7 rfl) rfl (by show 2 * 0 + _ ≤ _; exact Nat.le_of_eq rfl) (hb hby d2_6) (fun _ _ => ⟨rfl, e0, (by decide : 0 + 4 ≤ _), (by decide : 0 + 8 ≤ _)⟩)
  dsimp only [Pt.U, Pt.locs, Pt.cells, Pt.slots] at Xb_2 Sb_2 gs_2 l_2 y_2 z_2 st_2 hQ_2 CH_2
  subst l_2 y_2 z_2
  obtain ⟨bb_2, kb_2, rfl, N_2q, K_2, Fc_2, Fv_2, szq_2, VN_2⟩ := hQ_2
  have N_2 := Fr.app N0 N_2q
  obtain ⟨X_2, Si_2, hZ_2, hown_2⟩ := rebS (s := s) (vm0 := s.vm) ((State.WarmedH.refl s).since 0) (Nat.zero_le 0) Xb_2 Sb_2 (Nat.zero_le _) hZ hown
  have c1 := CHr.safe CH_2 (E_a0).lt SF0
  have c2 := H1.trans CH_2
  have c3 := K0.trans K_2 (allS (Or.inl (List.mem_of_getElem? (i := 0) rfl)) all0)
  have c4 := E_a0.keep K_2
  have c5 := VC.keep K_2 (ninS (Ne.symm nea) nin0)
  have Z0__2 : n0 ≤ T_2.heap.size := Nat.le_trans Z0 K_2.1
  refine own_go (fun t k => st_2.trans k) ?_
  obtain ⟨fs, hr, hrun, hended, hRW⟩ := X_2.leaveW Si_2 (Nat.le_refl _) (v := none) (fun _ => rfl)
  have hCH : CHr Z own_EL s.vm s.heap T_2.vm T_2.heap := by rw [hh]; exact (c2.trans (CHv.at X_2 hZ_2 hEL c2.1))
  refine ⟨_, _, ?_, hrun, hended, _, _, rfl, ?_, hCH, hRW.1, hRW.2.1, hRW.2.2.1, hRW.2.2.2.mono (by decide) (by decide)⟩
  · show Steps p.tables e below (T_2.setTop (mkF m 9 #[rv a0, rv a1] [])) _
    exact X_2.returnOut hx Bd.returns (hb hby d2_9) hr
  · show Qsi1_0 Z a0 a1 u1 kc h0 n0 _ T_2.heap _
    exact ⟨bb_2, kb_2, rfl, N_2, c3, Fc_2, Fv_2, szq_2, VN_2⟩
theorem own_and3 (x : Int32) : x &&& 3 = 0 ∨ x &&& 3 = 1 ∨ x &&& 3 = 2 ∨ x &&& 3 = 3 := by
  have h := Jvm.Kit.i32_mask x 3 (k := 2) (by decide) (by decide)
  have e : ∀ k : Int32, (x &&& 3).toInt = k.toInt → x &&& 3 = k := fun k q => Int32.toInt_inj.mp q
  have : (x &&& 3).toInt = 0 ∨ (x &&& 3).toInt = 1 ∨ (x &&& 3).toInt = 2 ∨ (x &&& 3).toInt = 3 := by omega
  rcases this with q | q | q | q
  · exact Or.inl (e 0 q)
  · exact Or.inr (Or.inl (e 1 q))
  · exact Or.inr (Or.inr (Or.inl (e 2 q)))
  · exact Or.inr (Or.inr (Or.inr (e 3 q)))
theorem own_ch (x : Int32) (h0 : 0 ≤ x.toInt) (h1 : x.toInt < 256) : 0 ≤ (x.toUInt32.toUInt16.toUInt32.toInt32).toInt ∧ (x.toUInt32.toUInt16.toUInt32.toInt32).toInt < 256 := by
  have := c_i2c x
  omega
theorem own_dr (p : Int32) : 0 ≤ (own_draw p).toInt ∧ (own_draw p).toInt < 256 := by
  unfold own_draw
  split
  · generalize ((p.toUInt32 >>> ((1 : Int32) &&& 31).toUInt32).toInt32) = y
    have h := Jvm.Kit.i32_mask y 255 (k := 8) (by decide) (by decide)
    have h2 := own_ch (y &&& (255 : Int32)) (by omega) (by omega)
    exact own_ch _ h2.1 h2.2
  · generalize ((p.toUInt32 >>> ((1 : Int32) &&& 31).toUInt32).toInt32) = y
    have h := Jvm.Kit.i32_mask y 7 (k := 3) (by decide) (by decide)
    have h3 : ((48 : Int32) + (y &&& (7 : Int32))).toInt = 48 + (y &&& (7 : Int32)).toInt := by
      have : (48 : Int32).toInt = 48 := rfl
      rw [Jvm.Kit.i32_add (by omega) (by omega), this]
    have h2 := own_ch ((48 : Int32) + (y &&& (7 : Int32))) (by omega) (by omega)
    exact own_ch _ h2.1 h2.2
theorem own_tab : ∀ n : Fin 256, (own_byte (nar .char (Int32.ofInt (n.val : Int))) = 49 → Int32.ofInt (n.val : Int) = 49) ∧ (own_byte (nar .char (Int32.ofInt (n.val : Int))) = 50 → Int32.ofInt (n.val : Int) = 50) ∧ (own_byte (nar .char (Int32.ofInt (n.val : Int))) = 51 → Int32.ofInt (n.val : Int) = 51) ∧ ¬ ((255 : Int32) < nar .char (Int32.ofInt (n.val : Int))) := by decide +kernel
theorem own_at (x : Int32) (h : 0 ≤ x.toInt ∧ x.toInt < 256) : (own_byte (nar .char x) = 49 → x = 49) ∧ (own_byte (nar .char x) = 50 → x = 50) ∧ (own_byte (nar .char x) = 51 → x = 51) ∧ ¬ ((255 : Int32) < nar .char x) := by
  have q := own_tab ⟨x.toInt.toNat, by omega⟩
  have e : Int32.ofInt ((x.toInt.toNat : Nat) : Int) = x := by rw [Int.toNat_of_nonneg h.1]; exact Int32.ofInt_toInt x
  dsimp only at q
  rw [e] at q
  exact q
theorem own_ee (c e : Int32) : (c = e → own_e2 c e = 1) ∧ (¬ c = e → own_e2 c e = 0) := by
  refine ⟨fun h => ?_, fun h => ?_⟩
  · simp [own_e2, own_e, h]
  · simp [own_e2, own_e, h]
theorem own_k0 (s0 s1 s2 : Addr) (x : Int32) (h : x = 49) : own_pick s0 s1 s2 (own_e2 49 (own_byte (nar .char x))) (own_e2 50 (own_byte (nar .char x))) (own_e2 51 (own_byte (nar .char x))) = .ref s0 := by
  subst h
  have e : own_byte (nar .char (49 : Int32)) = 49 := by decide +kernel
  rw [e, (own_ee 49 49).1 rfl]
  simp [own_pick]
theorem own_k1 (s0 s1 s2 : Addr) (x : Int32) (h : x = 50) : own_pick s0 s1 s2 (own_e2 49 (own_byte (nar .char x))) (own_e2 50 (own_byte (nar .char x))) (own_e2 51 (own_byte (nar .char x))) = .ref s1 := by
  subst h
  have e : own_byte (nar .char (50 : Int32)) = 50 := by decide +kernel
  rw [e, (own_ee 49 50).2 (by decide), (own_ee 50 50).1 rfl]
  simp [own_pick]
theorem own_k2 (s0 s1 s2 : Addr) (x : Int32) (h : x = 51) : own_pick s0 s1 s2 (own_e2 49 (own_byte (nar .char x))) (own_e2 50 (own_byte (nar .char x))) (own_e2 51 (own_byte (nar .char x))) = .ref s2 := by
  subst h
  have e : own_byte (nar .char (51 : Int32)) = 51 := by decide +kernel
  rw [e, (own_ee 49 51).2 (by decide), (own_ee 50 51).2 (by decide), (own_ee 51 51).1 rfl]
  simp [own_pick]
theorem own_k3 (s0 s1 s2 : Addr) (x : Int32) (hr : 0 ≤ x.toInt ∧ x.toInt < 256) (h0 : ¬ x = 49) (h1 : ¬ x = 50) (h2 : ¬ x = 51) : own_pick s0 s1 s2 (own_e2 49 (own_byte (nar .char x))) (own_e2 50 (own_byte (nar .char x))) (own_e2 51 (own_byte (nar .char x))) = .null := by
  obtain ⟨q0, q1, q2, -⟩ := own_at x hr
  rw [(own_ee 49 _).2 fun q => h0 (q0 q.symm), (own_ee 50 _).2 fun q => h1 (q1 q.symm), (own_ee 51 _).2 fun q => h2 (q2 q.symm)]
  simp [own_pick]
theorem own_k4 (s0 s1 s2 : Addr) : own_pick s0 s1 s2 0 0 0 = .null := by simp [own_pick]
theorem pn_0 : plainName "com/example/stackwright/stackwright/CapacityAlternativeNumberedPinLaw" = true := by first | (simp [plainName, overriddenIn]; done) | decide +kernel
theorem ef_0 (m : MethodId) (p0 : Int32) (p1 : Int32) (p2 : Int32) (p3 : Int32) : entryFrame m #[(.int p0), (.int p1), (.int p2), (.int p3)] maxLocals = mkF m 0 #[iv p0, iv p1, iv p2, iv p3, oU, oU, oU, oU, oU, oU, oU] [] := by first | (simp [entryFrame, mkF, argsToLocals, Value.category, maxLocals]; done) | rfl
theorem pd_8 : parseMethodDescriptor "(I)C" = some ⟨[.int], some .char⟩ := by decide +kernel
theorem pd_9 : parseMethodDescriptor "([C)V" = some ⟨[(.array .char)], none⟩ := by decide +kernel
theorem pd_10 : parseMethodDescriptor "(Ljava/lang/String;)Lcom/example/stackwright/stackwright/CapacityAlternative;" = some ⟨[(.object "java/lang/String")], some (.object "com/example/stackwright/stackwright/CapacityAlternative")⟩ := by decide +kernel
def Q0 (Z : State) (p0 : Int32) (p1 : Int32) (p2 : Int32) (p3 : Int32) (va : Addr) (kk : ClassId) (s0 : Addr) (s1 : Addr) (s2 : Addr) (t0 : Addr) (t1 : Addr) (t2 : Addr) (v0 : Addr) (v1 : Addr) (v2 : Addr) (y0 : ClassId) (y1 : ClassId) (y2 : ClassId) (w : Int32) (cK : ClassId) (ff : Addr) (h0 : Heap) (n0 : Nat) (v : Option Value) (h : Heap) (L : List Loc) : Prop := v = some (.int 1) ∧ Fr n0 L ∧ True
theorem rm0 (l : Launch) (Z : State) (av0 : Array Value) (hw : ∀ d ∈ tables_1, d.before av0 Z = true) (ws : List Jvm.Cond) (p0 : Int32) (p1 : Int32) (p2 : Int32) (p3 : Int32) (va : Addr) (kk : ClassId) (s0 : Addr) (s1 : Addr) (s2 : Addr) (t0 : Addr) (t1 : Addr) (t2 : Addr) (v0 : Addr) (v1 : Addr) (v2 : Addr) (y0 : ClassId) (y1 : ClassId) (y2 : ClassId) (w : Int32) (cK : ClassId) (ff : Addr) (h0 : Heap) (n0 : Nat) (Z0 : n0 ≤ h0.size) (SV : Sta Z h0 "com/example/stackwright/stackwright/CapacityAlternative" "$VALUES" "[Lcom/example/stackwright/stackwright/CapacityAlternative;" (.ref va)) (VV : Arv Z h0 va kk (.object "com/example/stackwright/stackwright/CapacityAlternative") (3 : Int32) [(.ref s0), (.ref s1), (.ref s2)] .null) (EV : Exa Z h0 va "[Lcom/example/stackwright/stackwright/CapacityAlternative;") (E0 : Exa Z h0 s0 "com/example/stackwright/stackwright/CapacityAlternative") (E1 : Exa Z h0 s1 "com/example/stackwright/stackwright/CapacityAlternative") (E2 : Exa Z h0 s2 "com/example/stackwright/stackwright/CapacityAlternative") (NN0 : Fld Z h0 s0 "com/example/stackwright/stackwright/CapacityAlternative" "number" "Ljava/lang/String;" (.ref t0)) (NN1 : Fld Z h0 s1 "com/example/stackwright/stackwright/CapacityAlternative" "number" "Ljava/lang/String;" (.ref t1)) (NN2 : Fld Z h0 s2 "com/example/stackwright/stackwright/CapacityAlternative" "number" "Ljava/lang/String;" (.ref t2)) (D0 : Exa Z h0 t0 "java/lang/String") (D1 : Exa Z h0 t1 "java/lang/String") (D2 : Exa Z h0 t2 "java/lang/String") (C0 : Fld Z h0 t0 "java/lang/String" "coder" "B" (.int (0 : Int32))) (C1 : Fld Z h0 t1 "java/lang/String" "coder" "B" (.int (0 : Int32))) (C2 : Fld Z h0 t2 "java/lang/String" "coder" "B" (.int (0 : Int32))) (W0 : Fld Z h0 t0 "java/lang/String" "value" "[B" (.ref v0)) (W1 : Fld Z h0 t1 "java/lang/String" "value" "[B" (.ref v1)) (W2 : Fld Z h0 t2 "java/lang/String" "value" "[B" (.ref v2)) (A0 : Arv Z h0 v0 y0 .byte (1 : Int32) [(.int (49 : Int32))] (.int 0)) (A1 : Arv Z h0 v1 y1 .byte (1 : Int32) [(.int (50 : Int32))] (.int 0)) (A2 : Arv Z h0 v2 y2 .byte (1 : Int32) [(.int (51 : Int32))] (.int 0)) (S0 : Sta Z h0 "com/example/stackwright/stackwright/CapacityAlternative" "ALL_EXPORT" "Lcom/example/stackwright/stackwright/CapacityAlternative;" (.ref s0)) (S1 : Sta Z h0 "com/example/stackwright/stackwright/CapacityAlternative" "SUMMER_WINDOW" "Lcom/example/stackwright/stackwright/CapacityAlternative;" (.ref s1)) (S2 : Sta Z h0 "com/example/stackwright/stackwright/CapacityAlternative" "SYSTEM_PEAK" "Lcom/example/stackwright/stackwright/CapacityAlternative;" (.ref s2)) (SC : Sta Z h0 "java/lang/String" "COMPACT_STRINGS" "Z" (.int w)) (hw0 : ¬ (w = (0 : Int32))) (LS : own_LS Z ff) (LM : Jvm.LamKit.Made Z own_CA own_sg cK) (LF : Jvm.LamKit.FnAt h0 ff cK) (hEL : EW Z av0 own_EL) (HH : CHv Z own_EL Z.vm Z.heap) (hh0 : Z.heap = h0) (hn0 : n0 = h0.size) :
    MetFree l x (head1 (Jvm.Cond.code x code maxLocals ret :: ws) room_1) (fun a U => a = #[(.int p0), (.int p1), (.int p2), (.int p3)] ∧ U = Z) (fun _ _ _ _ _ => True) (fun _ U o U' => ∃ v L, o = .returned v ∧ Q0 Z p0 p1 p2 p3 va kk s0 s1 s2 t0 t1 t2 v0 v1 v2 y0 y1 y2 w cK ff h0 n0 v U'.heap L ∧ ReturnedEndW U o U' L room_1.cells room_1.slots) := by
  refine MetFree.of_bodySF (plainFor_of_name pn_0) hisR ?_
  intro p e s m args below meth c s₁ Bd hml0 hP hK
  obtain ⟨rfl, hUZ⟩ := hP
  have hZ : Z.Warmed39 s.vm := by rw [hUZ]; exact State.Warmed39.refl Z
  have hh : s.heap = h0 := by rw [hUZ]; exact hh0
  have hns : n0 = s.heap.size := by rw [hn0, hh]
  have hkeep : ∀ (b : Addr) (cl : Cell), Z.heap[b]? = some cl → s.heap[b]? = some cl := by rw [hUZ]; exact fun _ _ q => q
  have I0 : IB Z s.vm [] := by rw [hUZ]; exact IB.start
  have hx := Bd.exec
  have hby := Bd.bytes
  have hml : c.maxLocals = 11 := hml0
  have hown : s.vm.findClass "com/example/stackwright/stackwright/CapacityAlternativeNumberedPinLaw" = some m.cls := findClass_of_methodNamed Bd.named
  have X0 : Stand p l e room_1 s m #[(.int p0), (.int p1), (.int p2), (.int p3)] below meth c s₁ [] 0 0 := Stand.of_body Bd
  have e0 : s₁.heap = h0 := by rw [← hh, Bd.state]; rfl
  have H0 : CHv Z own_EL s.vm h0 := by rw [hUZ, ← hh0]; exact HH
  have N0 := Fr.nil n0
  have H1 : CHr Z own_EL s.vm h0 s.vm h0 := ⟨H0, Nat.le_refl _, fun _ q => Or.inl q⟩
  have K0 : Keep h0 h0 [] := Keep.refl h0 []
  refine own_go (B := s₁.setTop (mkF m 0 #[iv p0, iv p1, iv p2, iv p3, oU, oU, oU, oU, oU, oU, oU] [])) (fun t k => castTop (ef_0 m p0 p1 p2 p3) k) ?_
  refine own_go (B := s₁.setTop (mkF m 6 #[iv p0, iv p1, iv p2, iv p3, iv (p0 &&& (3 : Int32)), oU, oU, oU, oU, oU, oU] [(.int p1)])) (fun t k => ?_) ?_
  · refine XS.iloadN X0.here hx rfl (hb hby at_0) rfl ?_
    refine XS.iconst X0.here hx rfl (hb hby at_1) ?_
    refine XS.iand X0.here hx rfl (hb hby at_2) rfl ?_
    refine XS.istore X0.here hx rfl (hb hby at_3) rfl (l' := #[iv p0, iv p1, iv p2, iv p3, iv (p0 &&& (3 : Int32)), oU, oU, oU, oU, oU, oU]) rfl ?_
    refine XS.iloadN X0.here hx rfl (hb hby at_5) rfl ?_
    exact k
  obtain ⟨_, _, ⟨T_1, L_1, k_1, n_1⟩, -, X_1, ⟨Lc_1, hQ_1, l_1, y_1, z_1⟩, st_1⟩ := Jvm.LawKit.callS X0 hx (y := own_m2) hown (mvT hZ (own_w hw 0 rfl)) (mvT hZ (own_w hw 1 rfl)) (mvT hZ (own_w hw 2 rfl)) (mvT hZ (own_w hw 3 rfl)) (by decide) (backOf (W := 0) (rm1 l Z av0 hw [] p1  h0 n0 Z0 ) hZ (own_w hw 3 rfl) (own_w hw 2 rfl) (by decide) (by decide)) (g := (mkF m 6 #[iv p0, iv p1, iv p2, iv p3, iv (p0 &&& (3 : Int32)), oU, oU, oU, oU, oU, oU] [(.int p1)])) rfl (by rw [hml]; rfl) (argsL := [(.int p1)]) (rest := []) (lenOf pd_8 rfl) rfl (by show 2 * 0 + _ ≤ _; exact Nat.le_of_eq rfl) (hb hby at_6) (fun _ _ => ⟨rfl, e0, (by decide : 0 + 0 ≤ _), (by decide : 0 + 0 ≤ _)⟩)
  dsimp only [Pt.U, Pt.locs, Pt.cells, Pt.slots] at X_1 l_1 y_1 z_1 st_1 hQ_1
  subst l_1 y_1 z_1
  obtain ⟨rfl, N_1q, e_1⟩ := hQ_1
  have N_1 := Fr.app N0 N_1q
  refine own_go (fun t k => st_1 t k) ?_
  refine own_go (B := T_1.setTop (mkF m 12 #[iv p0, iv p1, iv p2, iv p3, iv (p0 &&& (3 : Int32)), iv (own_draw p1), oU, oU, oU, oU, oU] [(.int p2)])) (fun t k => ?_) ?_
  · refine XS.istore X_1.here hx rfl (hb hby at_9) rfl (l' := #[iv p0, iv p1, iv p2, iv p3, iv (p0 &&& (3 : Int32)), iv (own_draw p1), oU, oU, oU, oU, oU]) rfl ?_
    refine XS.iloadN X_1.here hx rfl (hb hby at_11) rfl ?_
    exact k
  obtain ⟨_, _, ⟨T_2, L_2, k_2, n_2⟩, -, X_2, ⟨Lc_2, hQ_2, l_2, y_2, z_2⟩, st_2⟩ := Jvm.LawKit.callS X_1 hx (y := own_m2) hown (mvT hZ (own_w hw 0 rfl)) (mvT hZ (own_w hw 1 rfl)) (mvT hZ (own_w hw 2 rfl)) (mvT hZ (own_w hw 3 rfl)) (by decide) (backOf (W := 0) (rm1 l Z av0 hw [] p2  h0 n0 Z0 ) hZ (own_w hw 3 rfl) (own_w hw 2 rfl) (by decide) (by decide)) (g := (mkF m 12 #[iv p0, iv p1, iv p2, iv p3, iv (p0 &&& (3 : Int32)), iv (own_draw p1), oU, oU, oU, oU, oU] [(.int p2)])) rfl (by rw [hml]; rfl) (argsL := [(.int p2)]) (rest := []) (lenOf pd_8 rfl) rfl (by show 2 * 0 + _ ≤ _; exact Nat.le_of_eq rfl) (hb hby at_12) (fun _ _ => ⟨rfl, e_1, (by decide : 0 + 0 ≤ _), (by decide : 0 + 0 ≤ _)⟩)
  dsimp only [Pt.U, Pt.locs, Pt.cells, Pt.slots] at X_2 l_2 y_2 z_2 st_2 hQ_2
  subst l_2 y_2 z_2
  obtain ⟨rfl, N_2q, e_2⟩ := hQ_2
  have N_2 := Fr.app N_1 N_2q
  refine own_go (fun t k => st_2 t k) ?_
  refine own_go (B := T_2.setTop (mkF m 18 #[iv p0, iv p1, iv p2, iv p3, iv (p0 &&& (3 : Int32)), iv (own_draw p1), iv (own_draw p2), oU, oU, oU, oU] [(.int p3)])) (fun t k => ?_) ?_
  · refine XS.istore X_2.here hx rfl (hb hby at_15) rfl (l' := #[iv p0, iv p1, iv p2, iv p3, iv (p0 &&& (3 : Int32)), iv (own_draw p1), iv (own_draw p2), oU, oU, oU, oU]) rfl ?_
    refine XS.iloadN X_2.here hx rfl (hb hby at_17) rfl ?_
    exact k
  obtain ⟨_, _, ⟨T_3, L_3, k_3, n_3⟩, -, X_3, ⟨Lc_3, hQ_3, l_3, y_3, z_3⟩, st_3⟩ := Jvm.LawKit.callS X_2 hx (y := own_m2) hown (mvT hZ (own_w hw 0 rfl)) (mvT hZ (own_w hw 1 rfl)) (mvT hZ (own_w hw 2 rfl)) (mvT hZ (own_w hw 3 rfl)) (by decide) (backOf (W := 0) (rm1 l Z av0 hw [] p3  h0 n0 Z0 ) hZ (own_w hw 3 rfl) (own_w hw 2 rfl) (by decide) (by decide)) (g := (mkF m 18 #[iv p0, iv p1, iv p2, iv p3, iv (p0 &&& (3 : Int32)), iv (own_draw p1), iv (own_draw p2), oU, oU, oU, oU] [(.int p3)])) rfl (by rw [hml]; rfl) (argsL := [(.int p3)]) (rest := []) (lenOf pd_8 rfl) rfl (by show 2 * 0 + _ ≤ _; exact Nat.le_of_eq rfl) (hb hby at_18) (fun _ _ => ⟨rfl, e_2, (by decide : 0 + 0 ≤ _), (by decide : 0 + 0 ≤ _)⟩)
  dsimp only [Pt.U, Pt.locs, Pt.cells, Pt.slots] at X_3 l_3 y_3 z_3 st_3 hQ_3
  subst l_3 y_3 z_3
  obtain ⟨rfl, N_3q, e_3⟩ := hQ_3
  have N_3 := Fr.app N_2 N_3q
  refine own_go (fun t k => st_3 t k) ?_
  refine own_go (B := T_3.setTop (mkF m 25 #[iv p0, iv p1, iv p2, iv p3, iv (p0 &&& (3 : Int32)), iv (own_draw p1), iv (own_draw p2), iv (own_draw p3), oU, oU, oU] [(.int (p0 &&& (3 : Int32)))])) (fun t k => ?_) ?_
  · refine XS.istore X_3.here hx rfl (hb hby at_21) rfl (l' := #[iv p0, iv p1, iv p2, iv p3, iv (p0 &&& (3 : Int32)), iv (own_draw p1), iv (own_draw p2), iv (own_draw p3), oU, oU, oU]) rfl ?_
    refine XS.iload X_3.here hx rfl (hb hby at_23) rfl ?_
    exact k
  obtain ⟨x0, hx0⟩ : ∃ c : Int32, c = (own_draw p1) := ⟨_, rfl⟩
  rw [← hx0]
  have hxr0 : 0 ≤ x0.toInt ∧ x0.toInt < 256 := by rw [hx0]; exact own_dr p1
  have hxq0 := (own_at x0 hxr0).2.2.2
  obtain ⟨x1, hx1⟩ : ∃ c : Int32, c = (own_draw p2) := ⟨_, rfl⟩
  rw [← hx1]
  have hxr1 : 0 ≤ x1.toInt ∧ x1.toInt < 256 := by rw [hx1]; exact own_dr p2
  have hxq1 := (own_at x1 hxr1).2.2.2
  obtain ⟨x2, hx2⟩ : ∃ c : Int32, c = (own_draw p3) := ⟨_, rfl⟩
  rw [← hx2]
  have hxr2 : 0 ≤ x2.toInt ∧ x2.toInt < 256 := by rw [hx2]; exact own_dr p3
  have hxq2 := (own_at x2 hxr2).2.2.2
  rcases own_and3 p0 with g3 | g3 | g3 | g3 <;> rw [g3]
  · show ∃ s₂ o, Steps p.tables e below (T_3.setTop (mkF m 25 #[iv p0, iv p1, iv p2, iv p3, iv 0, iv x0, iv x1, iv x2, oU, oU, oU] [(.int 0)])) s₂ ∧ _
    refine own_go (B := T_3.setTop (mkF m 28 #[iv p0, iv p1, iv p2, iv p3, iv 0, iv x0, iv x1, iv x2, oU, oU, oU] [])) (fun t k => ?_) ?_
    · refine XS.ifNo X_3.here hx rfl (hb hby at_25) rfl ((if0 _ _).trans (teq (by decide : (0 : Int32) = (0 : Int32))).2) ?_
      exact k
    obtain ⟨T_4, h_4, X_4, e_4, E_4, A_4, D_4, -, st_4⟩ := newO X_3 hx hZ hown (own_w hw 4 rfl) (own_w hw 5 rfl) (own_w hw 6 rfl) e_3 (g := (mkF m 28 #[iv p0, iv p1, iv p2, iv p3, iv 0, iv x0, iv x1, iv x2, oU, oU, oU] [])) rfl (hb hby at_28) (by decide) (by decide)
    obtain ⟨b_4, g_4⟩ : ∃ z, z = h0.size := ⟨_, rfl⟩
    rw [← g_4] at A_4 D_4 st_4
    have g_b_4 : n0 ≤ b_4 := Nat.le_trans Z0 (Nat.le_of_eq g_4.symm)
    have sz_b_4 : h0.size ≤ b_4 := Nat.le_trans K0.1 (Nat.le_of_eq g_4.symm)
    have sf_b_4 : Safe Z own_EL s.vm h0 b_4 := Safe.new (Nat.le_of_eq g_4.symm)
    have c1 := Safe.ext E_4 H1.1 sf_b_4
    have c2 := H1.trans (CHr.ext E_4 H1.1)
    have c3 := K0.ext E_4
    have Z0__4 : n0 ≤ h_4.size := Nat.le_trans Z0 E_4.1
    have F_value_b_4 : Fld Z h_4 b_4 "java/lang/String" "value" "[B" .null := D_4 (Or.inr (own_w hw 20 rfl)) (ty := (.array .byte)) (by decide)
    have F_coder_b_4 : Fld Z h_4 b_4 "java/lang/String" "coder" "B" (.int 0) := D_4 (Or.inr (own_w hw 21 rfl)) (ty := .byte) (by decide)
    refine own_go (fun t k => st_4 t k) ?_
    refine own_go (B := T_4.setTop (mkF m 33 #[iv p0, iv p1, iv p2, iv p3, iv 0, iv x0, iv x1, iv x2, oU, oU, oU] [(.int 0), (.ref b_4), (.ref b_4)])) (fun t k => ?_) ?_
    · refine XS.dup X_4.here hx rfl (hb hby at_31) rfl rfl ?_
      refine XS.iconst X_4.here hx rfl (hb hby at_32) ?_
      exact k
    obtain ⟨T_5, h_5, k_5, X_5, e_5, E_5, A_5, st_5⟩ := newP X_4 hx hZ (own_w hw 7 rfl) e_4 (g := (mkF m 33 #[iv p0, iv p1, iv p2, iv p3, iv 0, iv x0, iv x1, iv x2, oU, oU, oU] [(.int 0), (.ref b_4), (.ref b_4)])) rfl (hb hby at_33) rfl (by decide) (cap := 0) (by decide) (by decide) (by decide) (by decide)
    obtain ⟨b_5, g_5⟩ : ∃ z, z = h_4.size := ⟨_, rfl⟩
    rw [← g_5] at A_5 st_5
    have g_b_5 : n0 ≤ b_5 := Nat.le_trans Z0__4 (Nat.le_of_eq g_5.symm)
    have sz_b_5 : h0.size ≤ b_5 := Nat.le_trans c3.1 (Nat.le_of_eq g_5.symm)
    have sf_b_5 : Safe Z own_EL s.vm h_4 b_5 := Safe.new (Nat.le_of_eq g_5.symm)
    have ne_b_4_b_5 : b_4 ≠ b_5 := Nat.ne_of_lt (Nat.lt_of_lt_of_le (F_value_b_4).lt (Nat.le_of_eq g_5.symm))
    have c4 := Safe.ext E_5 c2.1 c1
    have c5 := Safe.ext E_5 c2.1 sf_b_5
    have c6 := c2.trans (CHr.ext E_5 c2.1)
    have c7 := c3.ext E_5
    have c8 := F_value_b_4.ext E_5
    have c9 := F_coder_b_4.ext E_5
    have c10 := A_4.ext E_5
    have Z0__5 : n0 ≤ h_5.size := Nat.le_trans Z0__4 E_5.1
    have V_b_5 : Arv Z h_5 b_5 k_5 .char (0 : Int32) [] (.int (0 : Int32)) := Arv.new A_5 (by decide)
    refine own_go (fun t k => st_5 t k) ?_
    obtain ⟨_, _, ⟨T_6, L_6, k_6, n_6⟩, -, Xb_6, Sb_6, gs_6, ⟨Lc_6, hQ_6, l_6, y_6, z_6, CH_6⟩, st_6⟩ := (show Stand p l e room_1 (s.setVm s.vm) m #[(.int p0), (.int p1), (.int p2), (.int p3)] below meth c T_5 _ _ _ from X_5).specialBackS hx (y := own_m3) rfl hown (mvT hZ (own_w hw 8 rfl)) (mvT hZ (own_w hw 9 rfl)) (mvT hZ (own_w hw 10 rfl)) (by decide) (backOfSH (s := s) (vm0 := s.vm) (W := 1) (rmsi1_0 l Z av0 hw [] b_4 b_5 (.int (0 : Int32)) k_5 h_5 n0 Z0__5 c10 c8 c9 g_b_4 V_b_5 ne_b_4_b_5 hEL) hZ (own_w hw 10 rfl) (own_w hw 6 rfl) (by decide) (by decide) hEL c6.1) (g := (mkF m 35 #[iv p0, iv p1, iv p2, iv p3, iv 0, iv x0, iv x1, iv x2, oU, oU, oU] [(.ref b_5), (.ref b_4), (.ref b_4)])) rfl (by rw [hml]; rfl) (Steps.refl _) (a := b_4) (argsL := [(.ref b_5)]) (rest := [(.ref b_4)]) (lenOf pd_9 rfl) rfl (by show 2 * 0 + _ ≤ _; exact Nat.le_of_eq rfl) (hb hby at_35) (fun _ _ => ⟨rfl, e_5, (by decide : 2 + 4 ≤ _), (by decide : 4 + 8 ≤ _)⟩)
    dsimp only [Pt.U, Pt.locs, Pt.cells, Pt.slots] at Xb_6 Sb_6 gs_6 l_6 y_6 z_6 st_6 hQ_6 CH_6
    subst l_6 y_6 z_6
    obtain ⟨bb_6, kb_6, rfl, N_6q, K_6, Fc_6, Fv_6, szq_6, VN_6⟩ := hQ_6
    have N_6 := Fr.app N_3 N_6q
    obtain ⟨X_6, Si_6, hZ_6, hown_6⟩ := rebS (s := s) (vm0 := s.vm) ((State.WarmedH.refl s).since 0) (Nat.zero_le 0) Xb_6 Sb_6 (Nat.zero_le _) hZ hown
    have c11 := CHr.safe CH_6 (c8).lt c4
    have c12 := CHr.safe CH_6 (V_b_5).lt c5
    have c13 := c6.trans CH_6
    have c14 := c7.trans K_6 (allS (Or.inr sz_b_4) all0)
    have c15 := c10.keep K_6
    have c16 := V_b_5.keep K_6 (ninS (Ne.symm ne_b_4_b_5) nin0)
    have Z0__6 : n0 ≤ T_6.heap.size := Nat.le_trans Z0__5 K_6.1
    refine own_go (fun t k => st_6.trans k) ?_
    refine own_go (B := T_6.setTop (mkF m 133 #[iv p0, iv p1, iv p2, iv p3, iv 0, iv x0, iv x1, iv x2, rv b_4, .val .null, oU] [(.int 1), (.int 0)])) (fun t k => ?_) ?_
    · refine XS.astore X_6.here hx rfl (hb hby at_38) rfl rfl (l' := #[iv p0, iv p1, iv p2, iv p3, iv 0, iv x0, iv x1, iv x2, rv b_4, oU, oU]) rfl ?_
      refine XS.goto X_6.here hx rfl (pc0 := 40) (pc' := 127) rfl (hb hby at_40) (by decide) (by decide) ?_
      refine XS.aconstNull X_6.here hx rfl (hb hby at_127) ?_
      refine XS.astore X_6.here hx rfl (hb hby at_128) rfl rfl (l' := #[iv p0, iv p1, iv p2, iv p3, iv 0, iv x0, iv x1, iv x2, rv b_4, .val .null, oU]) rfl ?_
      refine XS.iload X_6.here hx rfl (hb hby at_130) rfl ?_
      refine XS.iconst X_6.here hx rfl (hb hby at_132) ?_
      exact k
    refine own_go (B := T_6.setTop (mkF m 178 #[iv p0, iv p1, iv p2, iv p3, iv 0, iv x0, iv x1, iv x2, rv b_4, .val .null, oU] [])) (fun t k => ?_) ?_
    · refine XS.icmpYes X_6.here hx rfl (pc0 := 133) (pc' := 178) rfl (hb hby at_133) rfl (feq (by decide : ¬ ((0 : Int32) = (1 : Int32)))).2 (by decide) (by decide) ?_
      exact k
    refine own_go (B := T_6.setTop (mkF m 180 #[iv p0, iv p1, iv p2, iv p3, iv 0, iv x0, iv x1, iv x2, rv b_4, .val .null, oU] [(.ref b_4)])) (fun t k => ?_) ?_
    · refine XS.aload X_6.here hx rfl (hb hby at_178) rfl rfl ?_
      exact k
    obtain ⟨_, _, ⟨T_7, L_7, k_7, n_7⟩, -, X_7, ⟨Lc_7, hQ_7, l_7, y_7, z_7⟩, st_7⟩ := Jvm.LawKit.callS X_6 hx (y := own_m6) hown_6 (mvT hZ_6 (own_w hw 26 rfl)) (mvT hZ_6 (own_w hw 27 rfl)) (mvT hZ_6 (own_w hw 28 rfl)) (mvT hZ_6 (own_w hw 29 rfl)) (by decide) (backOf (W := 0) (rmnbd l Z av0 hw [] b_4 va kk s0 s1 s2 t0 t1 t2 cK ff (0 : Int32) (0 : Int32) (0 : Int32) T_6.heap n0 Z0__6 (own_stak SV c14) (VV.keep c14 nin0) (EV.keep c14) (E0.keep c14) (E1.keep c14) (E2.keep c14) (NN0.keep c14 nin0) (NN1.keep c14 nin0) (NN2.keep c14 nin0) (D0.keep c14) (D1.keep c14) (D2.keep c14) LS LM (own_fnk LF c14) (fun h' K' z' => rmEN l Z av0 hw [] t0 b_4 v0 bb_6 y0 kb_6 w (49 : Int32) (0 : Int32) [] h' n0 z' ((D0.keep c14).keep K') ((C0.keep c14 nin0).keep K' nin0) ((W0.keep c14 nin0).keep K' nin0) ((c15).keep K') ((Fc_6).keep K' nin0) ((Fv_6).keep K' nin0) ((A0.keep c14 nin0).keep K' nin0) ((VN_6).keep K' nin0) (own_stak (own_stak SC c14) K') hw0 (Nat.ne_of_lt (Nat.lt_of_lt_of_le D0.lt sz_b_4)) (by decide)) (fun h' K' z' => rmEN l Z av0 hw [] t1 b_4 v1 bb_6 y1 kb_6 w (50 : Int32) (0 : Int32) [] h' n0 z' ((D1.keep c14).keep K') ((C1.keep c14 nin0).keep K' nin0) ((W1.keep c14 nin0).keep K' nin0) ((c15).keep K') ((Fc_6).keep K' nin0) ((Fv_6).keep K' nin0) ((A1.keep c14 nin0).keep K' nin0) ((VN_6).keep K' nin0) (own_stak (own_stak SC c14) K') hw0 (Nat.ne_of_lt (Nat.lt_of_lt_of_le D1.lt sz_b_4)) (by decide)) (fun h' K' z' => rmEN l Z av0 hw [] t2 b_4 v2 bb_6 y2 kb_6 w (51 : Int32) (0 : Int32) [] h' n0 z' ((D2.keep c14).keep K') ((C2.keep c14 nin0).keep K' nin0) ((W2.keep c14 nin0).keep K' nin0) ((c15).keep K') ((Fc_6).keep K' nin0) ((Fv_6).keep K' nin0) ((A2.keep c14 nin0).keep K' nin0) ((VN_6).keep K' nin0) (own_stak (own_stak SC c14) K') hw0 (Nat.ne_of_lt (Nat.lt_of_lt_of_le D2.lt sz_b_4)) (by decide))) hZ_6 (own_w hw 29 rfl) (own_w hw 28 rfl) (by decide) (by decide)) (g := (mkF m 180 #[iv p0, iv p1, iv p2, iv p3, iv 0, iv x0, iv x1, iv x2, rv b_4, .val .null, oU] [(.ref b_4)])) rfl (by rw [hml]; rfl) (argsL := [(.ref b_4)]) (rest := []) (lenOf pd_10 rfl) rfl (by show 2 * 0 + _ ≤ _; exact Nat.le_of_eq rfl) (hb hby at_180) (fun _ _ => ⟨rfl, rfl, (by decide : 6 + 1 ≤ _), (by decide : 12 + 3 ≤ _)⟩)
    dsimp only [Pt.U, Pt.locs, Pt.cells, Pt.slots] at X_7 l_7 y_7 z_7 st_7 hQ_7
    subst l_7 y_7 z_7
    obtain ⟨hv_7, N_7q, K_7⟩ := hQ_7
    have N_7 := Fr.app N_6 N_7q
    have c17 := Safe.keep K_7 all0 c13.1 c11
    have c18 := Safe.keep K_7 all0 c13.1 c12
    have c19 := c13.trans (CHr.keep K_7 all0 c13.1)
    have c20 := Nat.le_trans (Nat.le_refl _) K_7.1
    have c21 := c14.trans K_7 all0
    have c22 := c15.keep K_7
    have c23 := c16.keep K_7 nin0
    have c24 := Fc_6.keep K_7 nin0
    have c25 := Fv_6.keep K_7 nin0
    have c26 := VN_6.keep K_7 nin0
    have Z0__7 : n0 ≤ T_7.heap.size := Nat.le_trans Z0__6 K_7.1
    rw [own_k4 s0 s1 s2] at hv_7
    subst hv_7
    refine own_go (fun t k => st_7 t k) ?_
    refine own_go (B := T_7.setTop (mkF m 189 #[iv p0, iv p1, iv p2, iv p3, iv 0, iv x0, iv x1, iv x2, rv b_4, .val .null, .val .null] [.null, .null])) (fun t k => ?_) ?_
    · refine XS.astore X_7.here hx rfl (hb hby at_183) rfl rfl (l' := #[iv p0, iv p1, iv p2, iv p3, iv 0, iv x0, iv x1, iv x2, rv b_4, .val .null, .val .null]) rfl ?_
      refine XS.aload X_7.here hx rfl (hb hby at_185) rfl rfl ?_
      refine XS.aload X_7.here hx rfl (hb hby at_187) rfl rfl ?_
      exact k
    refine own_go (B := T_7.setTop (mkF m 192 #[iv p0, iv p1, iv p2, iv p3, iv 0, iv x0, iv x1, iv x2, rv b_4, .val .null, .val .null] [])) (fun t k => ?_) ?_
    · refine Jvm.RoadKit.acmp (g := (mkF m 189 #[iv p0, iv p1, iv p2, iv p3, iv 0, iv x0, iv x1, iv x2, rv b_4, .val .null, .val .null] [.null, .null])) X_7 hx rfl rfl rfl (pc0 := 189) (pc' := 192) (same := true) rfl (hb hby at_189) rfl (decide_eq_true rfl) (by decide) (by decide) ?_
      exact k
    refine own_go (B := T_7.setTop (mkF m 197 #[iv p0, iv p1, iv p2, iv p3, iv 0, iv x0, iv x1, iv x2, rv b_4, .val .null, .val .null] [(.int 1)])) (fun t k => ?_) ?_
    · refine XS.iconst X_7.here hx rfl (hb hby at_192) ?_
      refine XS.goto X_7.here hx rfl (pc0 := 193) (pc' := 197) rfl (hb hby at_193) (by decide) (by decide) ?_
      exact k
    obtain ⟨fs, hr, hrun, hended, hRW⟩ := X_7.leaveW Si_6 c20 (v := some (.int 1)) (fun h => by rw [Bd.returns] at h; cases h)
    refine ⟨_, _, ?_, hrun, hended, _, _, rfl, ?_, hRW.1, hRW.2.1, hRW.2.2.1, hRW.2.2.2.mono (by decide) (by decide)⟩
    · show Steps p.tables e below (T_7.setTop (mkF m 197 #[iv p0, iv p1, iv p2, iv p3, iv 0, iv x0, iv x1, iv x2, rv b_4, .val .null, .val .null] [(.int 1)])) _
      exact retN X_7 hx (t := .boolean) Bd.returns (by simp) (hb hby at_197) hr
    · show Q0 Z p0 p1 p2 p3 va kk s0 s1 s2 t0 t1 t2 v0 v1 v2 y0 y1 y2 w cK ff h0 n0 _ T_7.heap _
      exact ⟨rfl, N_7, trivial⟩
  · show ∃ s₂ o, Steps p.tables e below (T_3.setTop (mkF m 25 #[iv p0, iv p1, iv p2, iv p3, iv 1, iv x0, iv x1, iv x2, oU, oU, oU] [(.int 1)])) s₂ ∧ _
    refine own_go (B := T_3.setTop (mkF m 43 #[iv p0, iv p1, iv p2, iv p3, iv 1, iv x0, iv x1, iv x2, oU, oU, oU] [])) (fun t k => ?_) ?_
    · refine XS.ifYes X_3.here hx rfl (pc0 := 25) (pc' := 43) rfl (hb hby at_25) rfl ((if0 _ _).trans (feq (by decide : ¬ ((1 : Int32) = (0 : Int32)))).2) (by decide) (by decide) ?_
      exact k
    refine own_go (B := T_3.setTop (mkF m 46 #[iv p0, iv p1, iv p2, iv p3, iv 1, iv x0, iv x1, iv x2, oU, oU, oU] [(.int 1), (.int 1)])) (fun t k => ?_) ?_
    · refine XS.iload X_3.here hx rfl (hb hby at_43) rfl ?_
      refine XS.iconst X_3.here hx rfl (hb hby at_45) ?_
      exact k
    refine own_go (B := T_3.setTop (mkF m 49 #[iv p0, iv p1, iv p2, iv p3, iv 1, iv x0, iv x1, iv x2, oU, oU, oU] [])) (fun t k => ?_) ?_
    · refine XS.icmpNo X_3.here hx rfl (hb hby at_46) rfl (teq (by decide : (1 : Int32) = (1 : Int32))).2 ?_
      exact k
    obtain ⟨T_8, h_8, X_8, e_8, E_8, A_8, D_8, -, st_8⟩ := newO X_3 hx hZ hown (own_w hw 4 rfl) (own_w hw 5 rfl) (own_w hw 6 rfl) e_3 (g := (mkF m 49 #[iv p0, iv p1, iv p2, iv p3, iv 1, iv x0, iv x1, iv x2, oU, oU, oU] [])) rfl (hb hby at_49) (by decide) (by decide)
    obtain ⟨b_8, g_8⟩ : ∃ z, z = h0.size := ⟨_, rfl⟩
    rw [← g_8] at A_8 D_8 st_8
    have g_b_8 : n0 ≤ b_8 := Nat.le_trans Z0 (Nat.le_of_eq g_8.symm)
    have sz_b_8 : h0.size ≤ b_8 := Nat.le_trans K0.1 (Nat.le_of_eq g_8.symm)
    have c27 := K0.ext E_8
    have Z0__8 : n0 ≤ h_8.size := Nat.le_trans Z0 E_8.1
    have F_value_b_8 : Fld Z h_8 b_8 "java/lang/String" "value" "[B" .null := D_8 (Or.inr (own_w hw 20 rfl)) (ty := (.array .byte)) (by decide)
    have F_coder_b_8 : Fld Z h_8 b_8 "java/lang/String" "coder" "B" (.int 0) := D_8 (Or.inr (own_w hw 21 rfl)) (ty := .byte) (by decide)
    refine own_go (fun t k => st_8 t k) ?_
    refine own_go (B := T_8.setTop (mkF m 54 #[iv p0, iv p1, iv p2, iv p3, iv 1, iv x0, iv x1, iv x2, oU, oU, oU] [(.int 1), (.ref b_8), (.ref b_8)])) (fun t k => ?_) ?_
    · refine XS.dup X_8.here hx rfl (hb hby at_52) rfl rfl ?_
      refine XS.iconst X_8.here hx rfl (hb hby at_53) ?_
      exact k
    obtain ⟨T_9, h_9, k_9, X_9, e_9, E_9, A_9, st_9⟩ := newP X_8 hx hZ (own_w hw 7 rfl) e_8 (g := (mkF m 54 #[iv p0, iv p1, iv p2, iv p3, iv 1, iv x0, iv x1, iv x2, oU, oU, oU] [(.int 1), (.ref b_8), (.ref b_8)])) rfl (hb hby at_54) rfl (by decide) (cap := 1) (by decide) (by decide) (by decide) (by decide)
    obtain ⟨b_9, g_9⟩ : ∃ z, z = h_8.size := ⟨_, rfl⟩
    rw [← g_9] at A_9 st_9
    have g_b_9 : n0 ≤ b_9 := Nat.le_trans Z0__8 (Nat.le_of_eq g_9.symm)
    have sz_b_9 : h0.size ≤ b_9 := Nat.le_trans c27.1 (Nat.le_of_eq g_9.symm)
    have ne_b_8_b_9 : b_8 ≠ b_9 := Nat.ne_of_lt (Nat.lt_of_lt_of_le (F_value_b_8).lt (Nat.le_of_eq g_9.symm))
    have c28 := c27.ext E_9
    have c29 := F_value_b_8.ext E_9
    have c30 := F_coder_b_8.ext E_9
    have c31 := A_8.ext E_9
    have Z0__9 : n0 ≤ h_9.size := Nat.le_trans Z0__8 E_9.1
    have V_b_9 : Arv Z h_9 b_9 k_9 .char (1 : Int32) [(.int (0 : Int32))] (.int (0 : Int32)) := (Arv.new A_9 (by decide)).pad (pad_rep [] (.int (0 : Int32)) 1)
    refine own_go (fun t k => st_9 t k) ?_
    refine own_go (B := T_9.setTop (mkF m 60 #[iv p0, iv p1, iv p2, iv p3, iv 1, iv x0, iv x1, iv x2, oU, oU, oU] [(.int x0), (.int 0), (.ref b_9), (.ref b_9), (.ref b_8), (.ref b_8)])) (fun t k => ?_) ?_
    · refine XS.dup X_9.here hx rfl (hb hby at_56) rfl rfl ?_
      refine XS.iconst X_9.here hx rfl (hb hby at_57) ?_
      refine XS.iload X_9.here hx rfl (hb hby at_58) rfl ?_
      exact k
    obtain ⟨cl_10, Ar_10, q_10, S_10, M_10, H_10, G_10⟩ := id V_b_9
    have hin_10 : ¬ ((0 : Int32) < 0 ∨ cl_10.slots.size ≤ ((0 : Int32)).toNatClampNeg) := inb_of S_10 ⟨by decide, by decide⟩
    obtain ⟨T_10, h_10, X_10, e_10, W_10, st_10⟩ := stC X_9 hx hZ e_9 Ar_10 (j := (0 : Int32)) hin_10 (g := (mkF m 60 #[iv p0, iv p1, iv p2, iv p3, iv 1, iv x0, iv x1, iv x2, oU, oU, oU] [(.int x0), (.int 0), (.ref b_9), (.ref b_9), (.ref b_8), (.ref b_8)])) rfl rfl (hb hby at_60)
    have c32 := c28.wr W_10 (Or.inr sz_b_9)
    have c33 := c29.other W_10 (Or.inl ne_b_8_b_9)
    have c34 := c30.other W_10 (Or.inl ne_b_8_b_9)
    have c35 := c31.wr W_10
    have V_10 : Arv Z h_10 b_9 k_9 .char (1 : Int32) [(.int (nar .char x0))] (.int (0 : Int32)) := Arv.set Ar_10 q_10 S_10 M_10 H_10 G_10 (fits_nar_char _) W_10 0 rfl (Nat.le_of_ble_eq_true rfl)
    have N_10 := Fr.snoc X_10 N_3 g_b_9
    have Z0__10 : n0 ≤ h_10.size := by rw [W_10.size]; exact Z0__9
    refine own_go (fun t k => st_10 t k) ?_
    obtain ⟨_, _, ⟨T_11, L_11, k_11, n_11⟩, -, X_11, ⟨Lc_11, hQ_11, l_11, y_11, z_11⟩, st_11⟩ := X_10.specialBack hx (y := own_m3) rfl hown (mvT hZ (own_w hw 8 rfl)) (mvT hZ (own_w hw 9 rfl)) (mvT hZ (own_w hw 10 rfl)) (by decide) (backOf (W := 1) (rmsi1_1 l Z av0 hw [] b_8 b_9 .null (.int (0 : Int32)) k_9 w (nar .char x0) h_10 n0 Z0__10 c35 c33 c34 g_b_8 V_10 ne_b_8_b_9 (own_stak SC c32) hw0 hxq0) hZ (own_w hw 10 rfl) (own_w hw 6 rfl) (by decide) (by decide)) (g := (mkF m 61 #[iv p0, iv p1, iv p2, iv p3, iv 1, iv x0, iv x1, iv x2, oU, oU, oU] [(.ref b_9), (.ref b_8), (.ref b_8)])) rfl (by rw [hml]; rfl) (Steps.refl _) (a := b_8) (argsL := [(.ref b_9)]) (rest := [(.ref b_8)]) (lenOf pd_9 rfl) rfl (by show 2 * 0 + _ ≤ _; exact Nat.le_of_eq rfl) (hb hby at_61) (fun _ _ => ⟨rfl, e_10, (by decide : 2 + 1 ≤ _), (by decide : 5 + 1 ≤ _)⟩)
    dsimp only [Pt.U, Pt.locs, Pt.cells, Pt.slots] at X_11 l_11 y_11 z_11 st_11 hQ_11
    subst l_11 y_11 z_11
    obtain ⟨bb_11, kb_11, rfl, N_11q, K_11, Fc_11, Fv_11, szq_11, VN_11⟩ := hQ_11
    have N_11 := Fr.app N_10 N_11q
    have c36 := c32.trans K_11 (allS (Or.inr sz_b_8) all0)
    have c37 := c35.keep K_11
    have c38 := V_10.keep K_11 (ninS (Ne.symm ne_b_8_b_9) nin0)
    have Z0__11 : n0 ≤ T_11.heap.size := Nat.le_trans Z0__10 K_11.1
    refine own_go (fun t k => st_11.trans k) ?_
    refine own_go (B := T_11.setTop (mkF m 133 #[iv p0, iv p1, iv p2, iv p3, iv 1, iv x0, iv x1, iv x2, rv b_8, .val .null, oU] [(.int 1), (.int 1)])) (fun t k => ?_) ?_
    · refine XS.astore X_11.here hx rfl (hb hby at_64) rfl rfl (l' := #[iv p0, iv p1, iv p2, iv p3, iv 1, iv x0, iv x1, iv x2, rv b_8, oU, oU]) rfl ?_
      refine XS.goto X_11.here hx rfl (pc0 := 66) (pc' := 127) rfl (hb hby at_66) (by decide) (by decide) ?_
      refine XS.aconstNull X_11.here hx rfl (hb hby at_127) ?_
      refine XS.astore X_11.here hx rfl (hb hby at_128) rfl rfl (l' := #[iv p0, iv p1, iv p2, iv p3, iv 1, iv x0, iv x1, iv x2, rv b_8, .val .null, oU]) rfl ?_
      refine XS.iload X_11.here hx rfl (hb hby at_130) rfl ?_
      refine XS.iconst X_11.here hx rfl (hb hby at_132) ?_
      exact k
    refine own_go (B := T_11.setTop (mkF m 136 #[iv p0, iv p1, iv p2, iv p3, iv 1, iv x0, iv x1, iv x2, rv b_8, .val .null, oU] [])) (fun t k => ?_) ?_
    · refine XS.icmpNo X_11.here hx rfl (hb hby at_133) rfl (teq (by decide : (1 : Int32) = (1 : Int32))).2 ?_
      exact k
    refine own_go (B := T_11.setTop (mkF m 140 #[iv p0, iv p1, iv p2, iv p3, iv 1, iv x0, iv x1, iv x2, rv b_8, .val .null, oU] [(.int 49), (.int x0)])) (fun t k => ?_) ?_
    · refine XS.iload X_11.here hx rfl (hb hby at_136) rfl ?_
      refine XS.bipush X_11.here hx rfl (hb hby at_138) ?_
      exact k
    by_cases hc140 : x0 = (49 : Int32)
    · refine own_go (B := T_11.setTop (mkF m 143 #[iv p0, iv p1, iv p2, iv p3, iv 1, iv x0, iv x1, iv x2, rv b_8, .val .null, oU] [])) (fun t k => ?_) ?_
      · refine XS.icmpNo X_11.here hx rfl (hb hby at_140) rfl (teq hc140).2 ?_
        exact k
      have sg0_c36 := own_stak S0 c36
      obtain ⟨T_12, X_12, e_12, st_12⟩ := getS2 X_11 hx hZ hown (host := "") (Or.inl (own_w hw 88 rfl)) Via.refl rfl sg0_c36 (g := (mkF m 143 #[iv p0, iv p1, iv p2, iv p3, iv 1, iv x0, iv x1, iv x2, rv b_8, .val .null, oU] [])) rfl (hb hby at_143)
      refine own_go (fun t k => st_12 t k) ?_
      refine own_go (B := T_12.setTop (mkF m 180 #[iv p0, iv p1, iv p2, iv p3, iv 1, iv x0, iv x1, iv x2, rv b_8, rv s0, oU] [(.ref b_8)])) (fun t k => ?_) ?_
      · refine XS.astore X_12.here hx rfl (hb hby at_146) rfl rfl (l' := #[iv p0, iv p1, iv p2, iv p3, iv 1, iv x0, iv x1, iv x2, rv b_8, rv s0, oU]) rfl ?_
        refine XS.goto X_12.here hx rfl (pc0 := 148) (pc' := 178) rfl (hb hby at_148) (by decide) (by decide) ?_
        refine XS.aload X_12.here hx rfl (hb hby at_178) rfl rfl ?_
        exact k
      obtain ⟨_, _, ⟨T_13, L_13, k_13, n_13⟩, -, X_13, ⟨Lc_13, hQ_13, l_13, y_13, z_13⟩, st_13⟩ := Jvm.LawKit.callS X_12 hx (y := own_m6) hown (mvT hZ (own_w hw 26 rfl)) (mvT hZ (own_w hw 27 rfl)) (mvT hZ (own_w hw 28 rfl)) (mvT hZ (own_w hw 29 rfl)) (by decide) (backOf (W := 0) (rmnbd l Z av0 hw [] b_8 va kk s0 s1 s2 t0 t1 t2 cK ff (own_e2 (49 : Int32) (own_byte (nar .char x0))) (own_e2 (50 : Int32) (own_byte (nar .char x0))) (own_e2 (51 : Int32) (own_byte (nar .char x0))) T_11.heap n0 Z0__11 (own_stak SV c36) (VV.keep c36 nin0) (EV.keep c36) (E0.keep c36) (E1.keep c36) (E2.keep c36) (NN0.keep c36 nin0) (NN1.keep c36 nin0) (NN2.keep c36 nin0) (D0.keep c36) (D1.keep c36) (D2.keep c36) LS LM (own_fnk LF c36) (fun h' K' z' => rmE1 l Z av0 hw [] t0 b_8 v0 bb_11 y0 kb_11 w (49 : Int32) (own_byte (nar .char x0)) h' n0 z' ((D0.keep c36).keep K') ((C0.keep c36 nin0).keep K' nin0) ((W0.keep c36 nin0).keep K' nin0) ((c37).keep K') ((Fc_11).keep K' nin0) ((Fv_11).keep K' nin0) ((A0.keep c36 nin0).keep K' nin0) ((VN_11).keep K' nin0) (own_stak (own_stak SC c36) K') hw0 (Nat.ne_of_lt (Nat.lt_of_lt_of_le D0.lt sz_b_8))) (fun h' K' z' => rmE1 l Z av0 hw [] t1 b_8 v1 bb_11 y1 kb_11 w (50 : Int32) (own_byte (nar .char x0)) h' n0 z' ((D1.keep c36).keep K') ((C1.keep c36 nin0).keep K' nin0) ((W1.keep c36 nin0).keep K' nin0) ((c37).keep K') ((Fc_11).keep K' nin0) ((Fv_11).keep K' nin0) ((A1.keep c36 nin0).keep K' nin0) ((VN_11).keep K' nin0) (own_stak (own_stak SC c36) K') hw0 (Nat.ne_of_lt (Nat.lt_of_lt_of_le D1.lt sz_b_8))) (fun h' K' z' => rmE1 l Z av0 hw [] t2 b_8 v2 bb_11 y2 kb_11 w (51 : Int32) (own_byte (nar .char x0)) h' n0 z' ((D2.keep c36).keep K') ((C2.keep c36 nin0).keep K' nin0) ((W2.keep c36 nin0).keep K' nin0) ((c37).keep K') ((Fc_11).keep K' nin0) ((Fv_11).keep K' nin0) ((A2.keep c36 nin0).keep K' nin0) ((VN_11).keep K' nin0) (own_stak (own_stak SC c36) K') hw0 (Nat.ne_of_lt (Nat.lt_of_lt_of_le D2.lt sz_b_8)))) hZ (own_w hw 29 rfl) (own_w hw 28 rfl) (by decide) (by decide)) (g := (mkF m 180 #[iv p0, iv p1, iv p2, iv p3, iv 1, iv x0, iv x1, iv x2, rv b_8, rv s0, oU] [(.ref b_8)])) rfl (by rw [hml]; rfl) (argsL := [(.ref b_8)]) (rest := []) (lenOf pd_10 rfl) rfl (by show 2 * 0 + _ ≤ _; exact Nat.le_of_eq rfl) (hb hby at_180) (fun _ _ => ⟨rfl, e_12, (by decide : 3 + 1 ≤ _), (by decide : 6 + 3 ≤ _)⟩)
      dsimp only [Pt.U, Pt.locs, Pt.cells, Pt.slots] at X_13 l_13 y_13 z_13 st_13 hQ_13
      subst l_13 y_13 z_13
      obtain ⟨hv_13, N_13q, K_13⟩ := hQ_13
      have N_13 := Fr.app N_11 N_13q
      have c39 := c36.trans K_13 all0
      have c40 := c37.keep K_13
      have c41 := c38.keep K_13 nin0
      have c42 := Fc_11.keep K_13 nin0
      have c43 := Fv_11.keep K_13 nin0
      have c44 := VN_11.keep K_13 nin0
      have c45 := own_stak sg0_c36 K_13
      have Z0__13 : n0 ≤ T_13.heap.size := Nat.le_trans Z0__11 K_13.1
      rw [own_k0 s0 s1 s2 x0 hc140] at hv_13
      subst hv_13
      refine own_go (fun t k => st_13 t k) ?_
      refine own_go (B := T_13.setTop (mkF m 189 #[iv p0, iv p1, iv p2, iv p3, iv 1, iv x0, iv x1, iv x2, rv b_8, rv s0, rv s0] [(.ref s0), (.ref s0)])) (fun t k => ?_) ?_
      · refine XS.astore X_13.here hx rfl (hb hby at_183) rfl rfl (l' := #[iv p0, iv p1, iv p2, iv p3, iv 1, iv x0, iv x1, iv x2, rv b_8, rv s0, rv s0]) rfl ?_
        refine XS.aload X_13.here hx rfl (hb hby at_185) rfl rfl ?_
        refine XS.aload X_13.here hx rfl (hb hby at_187) rfl rfl ?_
        exact k
      refine own_go (B := T_13.setTop (mkF m 192 #[iv p0, iv p1, iv p2, iv p3, iv 1, iv x0, iv x1, iv x2, rv b_8, rv s0, rv s0] [])) (fun t k => ?_) ?_
      · refine Jvm.RoadKit.acmp (g := (mkF m 189 #[iv p0, iv p1, iv p2, iv p3, iv 1, iv x0, iv x1, iv x2, rv b_8, rv s0, rv s0] [(.ref s0), (.ref s0)])) X_13 hx rfl rfl rfl (pc0 := 189) (pc' := 192) (same := true) rfl (hb hby at_189) rfl (decide_eq_true rfl) (by decide) (by decide) ?_
        exact k
      refine own_go (B := T_13.setTop (mkF m 197 #[iv p0, iv p1, iv p2, iv p3, iv 1, iv x0, iv x1, iv x2, rv b_8, rv s0, rv s0] [(.int 1)])) (fun t k => ?_) ?_
      · refine XS.iconst X_13.here hx rfl (hb hby at_192) ?_
        refine XS.goto X_13.here hx rfl (pc0 := 193) (pc' := 197) rfl (hb hby at_193) (by decide) (by decide) ?_
        exact k
      obtain ⟨fs, hr, hrun, hended, hRW⟩ := (show Stand p l e room_1 (s.setVm s.vm) m _ below meth c _ _ _ _ from X_13).leaveW ((State.WarmedH.refl s).since 0) (Nat.zero_le _) (v := some (.int 1)) (fun h => by rw [Bd.returns] at h; cases h)
      refine ⟨_, _, ?_, hrun, hended, _, _, rfl, ?_, hRW.1, hRW.2.1, hRW.2.2.1, hRW.2.2.2.mono (by decide) (by decide)⟩
      · show Steps p.tables e below (T_13.setTop (mkF m 197 #[iv p0, iv p1, iv p2, iv p3, iv 1, iv x0, iv x1, iv x2, rv b_8, rv s0, rv s0] [(.int 1)])) _
        exact retN X_13 hx (t := .boolean) Bd.returns (by simp) (hb hby at_197) hr
      · show Q0 Z p0 p1 p2 p3 va kk s0 s1 s2 t0 t1 t2 v0 v1 v2 y0 y1 y2 w cK ff h0 n0 _ T_13.heap _
        exact ⟨rfl, N_13, trivial⟩
    · refine own_go (B := T_11.setTop (mkF m 151 #[iv p0, iv p1, iv p2, iv p3, iv 1, iv x0, iv x1, iv x2, rv b_8, .val .null, oU] [])) (fun t k => ?_) ?_
      · refine XS.icmpYes X_11.here hx rfl (pc0 := 140) (pc' := 151) rfl (hb hby at_140) rfl (feq hc140).2 (by decide) (by decide) ?_
        exact k
      refine own_go (B := T_11.setTop (mkF m 155 #[iv p0, iv p1, iv p2, iv p3, iv 1, iv x0, iv x1, iv x2, rv b_8, .val .null, oU] [(.int 50), (.int x0)])) (fun t k => ?_) ?_
      · refine XS.iload X_11.here hx rfl (hb hby at_151) rfl ?_
        refine XS.bipush X_11.here hx rfl (hb hby at_153) ?_
        exact k
      by_cases hc155 : x0 = (50 : Int32)
      · refine own_go (B := T_11.setTop (mkF m 158 #[iv p0, iv p1, iv p2, iv p3, iv 1, iv x0, iv x1, iv x2, rv b_8, .val .null, oU] [])) (fun t k => ?_) ?_
        · refine XS.icmpNo X_11.here hx rfl (hb hby at_155) rfl (teq hc155).2 ?_
          exact k
        have sg1_c36 := own_stak S1 c36
        obtain ⟨T_14, X_14, e_14, st_14⟩ := getS2 X_11 hx hZ hown (host := "") (Or.inl (own_w hw 89 rfl)) Via.refl rfl sg1_c36 (g := (mkF m 158 #[iv p0, iv p1, iv p2, iv p3, iv 1, iv x0, iv x1, iv x2, rv b_8, .val .null, oU] [])) rfl (hb hby at_158)
        refine own_go (fun t k => st_14 t k) ?_
        refine own_go (B := T_14.setTop (mkF m 180 #[iv p0, iv p1, iv p2, iv p3, iv 1, iv x0, iv x1, iv x2, rv b_8, rv s1, oU] [(.ref b_8)])) (fun t k => ?_) ?_
        · refine XS.astore X_14.here hx rfl (hb hby at_161) rfl rfl (l' := #[iv p0, iv p1, iv p2, iv p3, iv 1, iv x0, iv x1, iv x2, rv b_8, rv s1, oU]) rfl ?_
          refine XS.goto X_14.here hx rfl (pc0 := 163) (pc' := 178) rfl (hb hby at_163) (by decide) (by decide) ?_
          refine XS.aload X_14.here hx rfl (hb hby at_178) rfl rfl ?_
          exact k
        obtain ⟨_, _, ⟨T_15, L_15, k_15, n_15⟩, -, X_15, ⟨Lc_15, hQ_15, l_15, y_15, z_15⟩, st_15⟩ := Jvm.LawKit.callS X_14 hx (y := own_m6) hown (mvT hZ (own_w hw 26 rfl)) (mvT hZ (own_w hw 27 rfl)) (mvT hZ (own_w hw 28 rfl)) (mvT hZ (own_w hw 29 rfl)) (by decide) (backOf (W := 0) (rmnbd l Z av0 hw [] b_8 va kk s0 s1 s2 t0 t1 t2 cK ff (own_e2 (49 : Int32) (own_byte (nar .char x0))) (own_e2 (50 : Int32) (own_byte (nar .char x0))) (own_e2 (51 : Int32) (own_byte (nar .char x0))) T_11.heap n0 Z0__11 (own_stak SV c36) (VV.keep c36 nin0) (EV.keep c36) (E0.keep c36) (E1.keep c36) (E2.keep c36) (NN0.keep c36 nin0) (NN1.keep c36 nin0) (NN2.keep c36 nin0) (D0.keep c36) (D1.keep c36) (D2.keep c36) LS LM (own_fnk LF c36) (fun h' K' z' => rmE1 l Z av0 hw [] t0 b_8 v0 bb_11 y0 kb_11 w (49 : Int32) (own_byte (nar .char x0)) h' n0 z' ((D0.keep c36).keep K') ((C0.keep c36 nin0).keep K' nin0) ((W0.keep c36 nin0).keep K' nin0) ((c37).keep K') ((Fc_11).keep K' nin0) ((Fv_11).keep K' nin0) ((A0.keep c36 nin0).keep K' nin0) ((VN_11).keep K' nin0) (own_stak (own_stak SC c36) K') hw0 (Nat.ne_of_lt (Nat.lt_of_lt_of_le D0.lt sz_b_8))) (fun h' K' z' => rmE1 l Z av0 hw [] t1 b_8 v1 bb_11 y1 kb_11 w (50 : Int32) (own_byte (nar .char x0)) h' n0 z' ((D1.keep c36).keep K') ((C1.keep c36 nin0).keep K' nin0) ((W1.keep c36 nin0).keep K' nin0) ((c37).keep K') ((Fc_11).keep K' nin0) ((Fv_11).keep K' nin0) ((A1.keep c36 nin0).keep K' nin0) ((VN_11).keep K' nin0) (own_stak (own_stak SC c36) K') hw0 (Nat.ne_of_lt (Nat.lt_of_lt_of_le D1.lt sz_b_8))) (fun h' K' z' => rmE1 l Z av0 hw [] t2 b_8 v2 bb_11 y2 kb_11 w (51 : Int32) (own_byte (nar .char x0)) h' n0 z' ((D2.keep c36).keep K') ((C2.keep c36 nin0).keep K' nin0) ((W2.keep c36 nin0).keep K' nin0) ((c37).keep K') ((Fc_11).keep K' nin0) ((Fv_11).keep K' nin0) ((A2.keep c36 nin0).keep K' nin0) ((VN_11).keep K' nin0) (own_stak (own_stak SC c36) K') hw0 (Nat.ne_of_lt (Nat.lt_of_lt_of_le D2.lt sz_b_8)))) hZ (own_w hw 29 rfl) (own_w hw 28 rfl) (by decide) (by decide)) (g := (mkF m 180 #[iv p0, iv p1, iv p2, iv p3, iv 1, iv x0, iv x1, iv x2, rv b_8, rv s1, oU] [(.ref b_8)])) rfl (by rw [hml]; rfl) (argsL := [(.ref b_8)]) (rest := []) (lenOf pd_10 rfl) rfl (by show 2 * 0 + _ ≤ _; exact Nat.le_of_eq rfl) (hb hby at_180) (fun _ _ => ⟨rfl, e_14, (by decide : 3 + 1 ≤ _), (by decide : 6 + 3 ≤ _)⟩)
        dsimp only [Pt.U, Pt.locs, Pt.cells, Pt.slots] at X_15 l_15 y_15 z_15 st_15 hQ_15
        subst l_15 y_15 z_15
        obtain ⟨hv_15, N_15q, K_15⟩ := hQ_15
        have N_15 := Fr.app N_11 N_15q
        have c46 := c36.trans K_15 all0
        have c47 := c37.keep K_15
        have c48 := c38.keep K_15 nin0
        have c49 := Fc_11.keep K_15 nin0
        have c50 := Fv_11.keep K_15 nin0
        have c51 := VN_11.keep K_15 nin0
        have c52 := own_stak sg1_c36 K_15
        have Z0__15 : n0 ≤ T_15.heap.size := Nat.le_trans Z0__11 K_15.1
        rw [own_k1 s0 s1 s2 x0 hc155] at hv_15
        subst hv_15
        refine own_go (fun t k => st_15 t k) ?_
        refine own_go (B := T_15.setTop (mkF m 189 #[iv p0, iv p1, iv p2, iv p3, iv 1, iv x0, iv x1, iv x2, rv b_8, rv s1, rv s1] [(.ref s1), (.ref s1)])) (fun t k => ?_) ?_
        · refine XS.astore X_15.here hx rfl (hb hby at_183) rfl rfl (l' := #[iv p0, iv p1, iv p2, iv p3, iv 1, iv x0, iv x1, iv x2, rv b_8, rv s1, rv s1]) rfl ?_
          refine XS.aload X_15.here hx rfl (hb hby at_185) rfl rfl ?_
          refine XS.aload X_15.here hx rfl (hb hby at_187) rfl rfl ?_
          exact k
        refine own_go (B := T_15.setTop (mkF m 192 #[iv p0, iv p1, iv p2, iv p3, iv 1, iv x0, iv x1, iv x2, rv b_8, rv s1, rv s1] [])) (fun t k => ?_) ?_
        · refine Jvm.RoadKit.acmp (g := (mkF m 189 #[iv p0, iv p1, iv p2, iv p3, iv 1, iv x0, iv x1, iv x2, rv b_8, rv s1, rv s1] [(.ref s1), (.ref s1)])) X_15 hx rfl rfl rfl (pc0 := 189) (pc' := 192) (same := true) rfl (hb hby at_189) rfl (decide_eq_true rfl) (by decide) (by decide) ?_
          exact k
        refine own_go (B := T_15.setTop (mkF m 197 #[iv p0, iv p1, iv p2, iv p3, iv 1, iv x0, iv x1, iv x2, rv b_8, rv s1, rv s1] [(.int 1)])) (fun t k => ?_) ?_
        · refine XS.iconst X_15.here hx rfl (hb hby at_192) ?_
          refine XS.goto X_15.here hx rfl (pc0 := 193) (pc' := 197) rfl (hb hby at_193) (by decide) (by decide) ?_
          exact k
        obtain ⟨fs, hr, hrun, hended, hRW⟩ := (show Stand p l e room_1 (s.setVm s.vm) m _ below meth c _ _ _ _ from X_15).leaveW ((State.WarmedH.refl s).since 0) (Nat.zero_le _) (v := some (.int 1)) (fun h => by rw [Bd.returns] at h; cases h)
        refine ⟨_, _, ?_, hrun, hended, _, _, rfl, ?_, hRW.1, hRW.2.1, hRW.2.2.1, hRW.2.2.2.mono (by decide) (by decide)⟩
        · show Steps p.tables e below (T_15.setTop (mkF m 197 #[iv p0, iv p1, iv p2, iv p3, iv 1, iv x0, iv x1, iv x2, rv b_8, rv s1, rv s1] [(.int 1)])) _
          exact retN X_15 hx (t := .boolean) Bd.returns (by simp) (hb hby at_197) hr
        · show Q0 Z p0 p1 p2 p3 va kk s0 s1 s2 t0 t1 t2 v0 v1 v2 y0 y1 y2 w cK ff h0 n0 _ T_15.heap _
          exact ⟨rfl, N_15, trivial⟩
      · refine own_go (B := T_11.setTop (mkF m 166 #[iv p0, iv p1, iv p2, iv p3, iv 1, iv x0, iv x1, iv x2, rv b_8, .val .null, oU] [])) (fun t k => ?_) ?_
        · refine XS.icmpYes X_11.here hx rfl (pc0 := 155) (pc' := 166) rfl (hb hby at_155) rfl (feq hc155).2 (by decide) (by decide) ?_
          exact k
        refine own_go (B := T_11.setTop (mkF m 170 #[iv p0, iv p1, iv p2, iv p3, iv 1, iv x0, iv x1, iv x2, rv b_8, .val .null, oU] [(.int 51), (.int x0)])) (fun t k => ?_) ?_
        · refine XS.iload X_11.here hx rfl (hb hby at_166) rfl ?_
          refine XS.bipush X_11.here hx rfl (hb hby at_168) ?_
          exact k
        by_cases hc170 : x0 = (51 : Int32)
        · refine own_go (B := T_11.setTop (mkF m 173 #[iv p0, iv p1, iv p2, iv p3, iv 1, iv x0, iv x1, iv x2, rv b_8, .val .null, oU] [])) (fun t k => ?_) ?_
          · refine XS.icmpNo X_11.here hx rfl (hb hby at_170) rfl (teq hc170).2 ?_
            exact k
          have sg2_c36 := own_stak S2 c36
          obtain ⟨T_16, X_16, e_16, st_16⟩ := getS2 X_11 hx hZ hown (host := "") (Or.inl (own_w hw 86 rfl)) Via.refl rfl sg2_c36 (g := (mkF m 173 #[iv p0, iv p1, iv p2, iv p3, iv 1, iv x0, iv x1, iv x2, rv b_8, .val .null, oU] [])) rfl (hb hby at_173)
          refine own_go (fun t k => st_16 t k) ?_
          refine own_go (B := T_16.setTop (mkF m 180 #[iv p0, iv p1, iv p2, iv p3, iv 1, iv x0, iv x1, iv x2, rv b_8, rv s2, oU] [(.ref b_8)])) (fun t k => ?_) ?_
          · refine XS.astore X_16.here hx rfl (hb hby at_176) rfl rfl (l' := #[iv p0, iv p1, iv p2, iv p3, iv 1, iv x0, iv x1, iv x2, rv b_8, rv s2, oU]) rfl ?_
            refine XS.aload X_16.here hx rfl (hb hby at_178) rfl rfl ?_
            exact k
          obtain ⟨_, _, ⟨T_17, L_17, k_17, n_17⟩, -, X_17, ⟨Lc_17, hQ_17, l_17, y_17, z_17⟩, st_17⟩ := Jvm.LawKit.callS X_16 hx (y := own_m6) hown (mvT hZ (own_w hw 26 rfl)) (mvT hZ (own_w hw 27 rfl)) (mvT hZ (own_w hw 28 rfl)) (mvT hZ (own_w hw 29 rfl)) (by decide) (backOf (W := 0) (rmnbd l Z av0 hw [] b_8 va kk s0 s1 s2 t0 t1 t2 cK ff (own_e2 (49 : Int32) (own_byte (nar .char x0))) (own_e2 (50 : Int32) (own_byte (nar .char x0))) (own_e2 (51 : Int32) (own_byte (nar .char x0))) T_11.heap n0 Z0__11 (own_stak SV c36) (VV.keep c36 nin0) (EV.keep c36) (E0.keep c36) (E1.keep c36) (E2.keep c36) (NN0.keep c36 nin0) (NN1.keep c36 nin0) (NN2.keep c36 nin0) (D0.keep c36) (D1.keep c36) (D2.keep c36) LS LM (own_fnk LF c36) (fun h' K' z' => rmE1 l Z av0 hw [] t0 b_8 v0 bb_11 y0 kb_11 w (49 : Int32) (own_byte (nar .char x0)) h' n0 z' ((D0.keep c36).keep K') ((C0.keep c36 nin0).keep K' nin0) ((W0.keep c36 nin0).keep K' nin0) ((c37).keep K') ((Fc_11).keep K' nin0) ((Fv_11).keep K' nin0) ((A0.keep c36 nin0).keep K' nin0) ((VN_11).keep K' nin0) (own_stak (own_stak SC c36) K') hw0 (Nat.ne_of_lt (Nat.lt_of_lt_of_le D0.lt sz_b_8))) (fun h' K' z' => rmE1 l Z av0 hw [] t1 b_8 v1 bb_11 y1 kb_11 w (50 : Int32) (own_byte (nar .char x0)) h' n0 z' ((D1.keep c36).keep K') ((C1.keep c36 nin0).keep K' nin0) ((W1.keep c36 nin0).keep K' nin0) ((c37).keep K') ((Fc_11).keep K' nin0) ((Fv_11).keep K' nin0) ((A1.keep c36 nin0).keep K' nin0) ((VN_11).keep K' nin0) (own_stak (own_stak SC c36) K') hw0 (Nat.ne_of_lt (Nat.lt_of_lt_of_le D1.lt sz_b_8))) (fun h' K' z' => rmE1 l Z av0 hw [] t2 b_8 v2 bb_11 y2 kb_11 w (51 : Int32) (own_byte (nar .char x0)) h' n0 z' ((D2.keep c36).keep K') ((C2.keep c36 nin0).keep K' nin0) ((W2.keep c36 nin0).keep K' nin0) ((c37).keep K') ((Fc_11).keep K' nin0) ((Fv_11).keep K' nin0) ((A2.keep c36 nin0).keep K' nin0) ((VN_11).keep K' nin0) (own_stak (own_stak SC c36) K') hw0 (Nat.ne_of_lt (Nat.lt_of_lt_of_le D2.lt sz_b_8)))) hZ (own_w hw 29 rfl) (own_w hw 28 rfl) (by decide) (by decide)) (g := (mkF m 180 #[iv p0, iv p1, iv p2, iv p3, iv 1, iv x0, iv x1, iv x2, rv b_8, rv s2, oU] [(.ref b_8)])) rfl (by rw [hml]; rfl) (argsL := [(.ref b_8)]) (rest := []) (lenOf pd_10 rfl) rfl (by show 2 * 0 + _ ≤ _; exact Nat.le_of_eq rfl) (hb hby at_180) (fun _ _ => ⟨rfl, e_16, (by decide : 3 + 1 ≤ _), (by decide : 6 + 3 ≤ _)⟩)
          dsimp only [Pt.U, Pt.locs, Pt.cells, Pt.slots] at X_17 l_17 y_17 z_17 st_17 hQ_17
          subst l_17 y_17 z_17
          obtain ⟨hv_17, N_17q, K_17⟩ := hQ_17
          have N_17 := Fr.app N_11 N_17q
          have c53 := c36.trans K_17 all0
          have c54 := c37.keep K_17
          have c55 := c38.keep K_17 nin0
          have c56 := Fc_11.keep K_17 nin0
          have c57 := Fv_11.keep K_17 nin0
          have c58 := VN_11.keep K_17 nin0
          have c59 := own_stak sg2_c36 K_17
          have Z0__17 : n0 ≤ T_17.heap.size := Nat.le_trans Z0__11 K_17.1
          rw [own_k2 s0 s1 s2 x0 hc170] at hv_17
          subst hv_17
          refine own_go (fun t k => st_17 t k) ?_
          refine own_go (B := T_17.setTop (mkF m 189 #[iv p0, iv p1, iv p2, iv p3, iv 1, iv x0, iv x1, iv x2, rv b_8, rv s2, rv s2] [(.ref s2), (.ref s2)])) (fun t k => ?_) ?_
          · refine XS.astore X_17.here hx rfl (hb hby at_183) rfl rfl (l' := #[iv p0, iv p1, iv p2, iv p3, iv 1, iv x0, iv x1, iv x2, rv b_8, rv s2, rv s2]) rfl ?_
            refine XS.aload X_17.here hx rfl (hb hby at_185) rfl rfl ?_
            refine XS.aload X_17.here hx rfl (hb hby at_187) rfl rfl ?_
            exact k
          refine own_go (B := T_17.setTop (mkF m 192 #[iv p0, iv p1, iv p2, iv p3, iv 1, iv x0, iv x1, iv x2, rv b_8, rv s2, rv s2] [])) (fun t k => ?_) ?_
          · refine Jvm.RoadKit.acmp (g := (mkF m 189 #[iv p0, iv p1, iv p2, iv p3, iv 1, iv x0, iv x1, iv x2, rv b_8, rv s2, rv s2] [(.ref s2), (.ref s2)])) X_17 hx rfl rfl rfl (pc0 := 189) (pc' := 192) (same := true) rfl (hb hby at_189) rfl (decide_eq_true rfl) (by decide) (by decide) ?_
            exact k
          refine own_go (B := T_17.setTop (mkF m 197 #[iv p0, iv p1, iv p2, iv p3, iv 1, iv x0, iv x1, iv x2, rv b_8, rv s2, rv s2] [(.int 1)])) (fun t k => ?_) ?_
          · refine XS.iconst X_17.here hx rfl (hb hby at_192) ?_
            refine XS.goto X_17.here hx rfl (pc0 := 193) (pc' := 197) rfl (hb hby at_193) (by decide) (by decide) ?_
            exact k
          obtain ⟨fs, hr, hrun, hended, hRW⟩ := (show Stand p l e room_1 (s.setVm s.vm) m _ below meth c _ _ _ _ from X_17).leaveW ((State.WarmedH.refl s).since 0) (Nat.zero_le _) (v := some (.int 1)) (fun h => by rw [Bd.returns] at h; cases h)
          refine ⟨_, _, ?_, hrun, hended, _, _, rfl, ?_, hRW.1, hRW.2.1, hRW.2.2.1, hRW.2.2.2.mono (by decide) (by decide)⟩
          · show Steps p.tables e below (T_17.setTop (mkF m 197 #[iv p0, iv p1, iv p2, iv p3, iv 1, iv x0, iv x1, iv x2, rv b_8, rv s2, rv s2] [(.int 1)])) _
            exact retN X_17 hx (t := .boolean) Bd.returns (by simp) (hb hby at_197) hr
          · show Q0 Z p0 p1 p2 p3 va kk s0 s1 s2 t0 t1 t2 v0 v1 v2 y0 y1 y2 w cK ff h0 n0 _ T_17.heap _
            exact ⟨rfl, N_17, trivial⟩
        · refine own_go (B := T_11.setTop (mkF m 178 #[iv p0, iv p1, iv p2, iv p3, iv 1, iv x0, iv x1, iv x2, rv b_8, .val .null, oU] [])) (fun t k => ?_) ?_
          · refine XS.icmpYes X_11.here hx rfl (pc0 := 170) (pc' := 178) rfl (hb hby at_170) rfl (feq hc170).2 (by decide) (by decide) ?_
            exact k
          refine own_go (B := T_11.setTop (mkF m 180 #[iv p0, iv p1, iv p2, iv p3, iv 1, iv x0, iv x1, iv x2, rv b_8, .val .null, oU] [(.ref b_8)])) (fun t k => ?_) ?_
          · refine XS.aload X_11.here hx rfl (hb hby at_178) rfl rfl ?_
            exact k
          obtain ⟨_, _, ⟨T_18, L_18, k_18, n_18⟩, -, X_18, ⟨Lc_18, hQ_18, l_18, y_18, z_18⟩, st_18⟩ := Jvm.LawKit.callS X_11 hx (y := own_m6) hown (mvT hZ (own_w hw 26 rfl)) (mvT hZ (own_w hw 27 rfl)) (mvT hZ (own_w hw 28 rfl)) (mvT hZ (own_w hw 29 rfl)) (by decide) (backOf (W := 0) (rmnbd l Z av0 hw [] b_8 va kk s0 s1 s2 t0 t1 t2 cK ff (own_e2 (49 : Int32) (own_byte (nar .char x0))) (own_e2 (50 : Int32) (own_byte (nar .char x0))) (own_e2 (51 : Int32) (own_byte (nar .char x0))) T_11.heap n0 Z0__11 (own_stak SV c36) (VV.keep c36 nin0) (EV.keep c36) (E0.keep c36) (E1.keep c36) (E2.keep c36) (NN0.keep c36 nin0) (NN1.keep c36 nin0) (NN2.keep c36 nin0) (D0.keep c36) (D1.keep c36) (D2.keep c36) LS LM (own_fnk LF c36) (fun h' K' z' => rmE1 l Z av0 hw [] t0 b_8 v0 bb_11 y0 kb_11 w (49 : Int32) (own_byte (nar .char x0)) h' n0 z' ((D0.keep c36).keep K') ((C0.keep c36 nin0).keep K' nin0) ((W0.keep c36 nin0).keep K' nin0) ((c37).keep K') ((Fc_11).keep K' nin0) ((Fv_11).keep K' nin0) ((A0.keep c36 nin0).keep K' nin0) ((VN_11).keep K' nin0) (own_stak (own_stak SC c36) K') hw0 (Nat.ne_of_lt (Nat.lt_of_lt_of_le D0.lt sz_b_8))) (fun h' K' z' => rmE1 l Z av0 hw [] t1 b_8 v1 bb_11 y1 kb_11 w (50 : Int32) (own_byte (nar .char x0)) h' n0 z' ((D1.keep c36).keep K') ((C1.keep c36 nin0).keep K' nin0) ((W1.keep c36 nin0).keep K' nin0) ((c37).keep K') ((Fc_11).keep K' nin0) ((Fv_11).keep K' nin0) ((A1.keep c36 nin0).keep K' nin0) ((VN_11).keep K' nin0) (own_stak (own_stak SC c36) K') hw0 (Nat.ne_of_lt (Nat.lt_of_lt_of_le D1.lt sz_b_8))) (fun h' K' z' => rmE1 l Z av0 hw [] t2 b_8 v2 bb_11 y2 kb_11 w (51 : Int32) (own_byte (nar .char x0)) h' n0 z' ((D2.keep c36).keep K') ((C2.keep c36 nin0).keep K' nin0) ((W2.keep c36 nin0).keep K' nin0) ((c37).keep K') ((Fc_11).keep K' nin0) ((Fv_11).keep K' nin0) ((A2.keep c36 nin0).keep K' nin0) ((VN_11).keep K' nin0) (own_stak (own_stak SC c36) K') hw0 (Nat.ne_of_lt (Nat.lt_of_lt_of_le D2.lt sz_b_8)))) hZ (own_w hw 29 rfl) (own_w hw 28 rfl) (by decide) (by decide)) (g := (mkF m 180 #[iv p0, iv p1, iv p2, iv p3, iv 1, iv x0, iv x1, iv x2, rv b_8, .val .null, oU] [(.ref b_8)])) rfl (by rw [hml]; rfl) (argsL := [(.ref b_8)]) (rest := []) (lenOf pd_10 rfl) rfl (by show 2 * 0 + _ ≤ _; exact Nat.le_of_eq rfl) (hb hby at_180) (fun _ _ => ⟨rfl, rfl, (by decide : 3 + 1 ≤ _), (by decide : 6 + 3 ≤ _)⟩)
          dsimp only [Pt.U, Pt.locs, Pt.cells, Pt.slots] at X_18 l_18 y_18 z_18 st_18 hQ_18
          subst l_18 y_18 z_18
          obtain ⟨hv_18, N_18q, K_18⟩ := hQ_18
          have N_18 := Fr.app N_11 N_18q
          have c60 := c36.trans K_18 all0
          have c61 := c37.keep K_18
          have c62 := c38.keep K_18 nin0
          have c63 := Fc_11.keep K_18 nin0
          have c64 := Fv_11.keep K_18 nin0
          have c65 := VN_11.keep K_18 nin0
          have Z0__18 : n0 ≤ T_18.heap.size := Nat.le_trans Z0__11 K_18.1
          rw [own_k3 s0 s1 s2 x0 hxr0 hc140 hc155 hc170] at hv_18
          subst hv_18
          refine own_go (fun t k => st_18 t k) ?_
          refine own_go (B := T_18.setTop (mkF m 189 #[iv p0, iv p1, iv p2, iv p3, iv 1, iv x0, iv x1, iv x2, rv b_8, .val .null, .val .null] [.null, .null])) (fun t k => ?_) ?_
          · refine XS.astore X_18.here hx rfl (hb hby at_183) rfl rfl (l' := #[iv p0, iv p1, iv p2, iv p3, iv 1, iv x0, iv x1, iv x2, rv b_8, .val .null, .val .null]) rfl ?_
            refine XS.aload X_18.here hx rfl (hb hby at_185) rfl rfl ?_
            refine XS.aload X_18.here hx rfl (hb hby at_187) rfl rfl ?_
            exact k
          refine own_go (B := T_18.setTop (mkF m 192 #[iv p0, iv p1, iv p2, iv p3, iv 1, iv x0, iv x1, iv x2, rv b_8, .val .null, .val .null] [])) (fun t k => ?_) ?_
          · refine Jvm.RoadKit.acmp (g := (mkF m 189 #[iv p0, iv p1, iv p2, iv p3, iv 1, iv x0, iv x1, iv x2, rv b_8, .val .null, .val .null] [.null, .null])) X_18 hx rfl rfl rfl (pc0 := 189) (pc' := 192) (same := true) rfl (hb hby at_189) rfl (decide_eq_true rfl) (by decide) (by decide) ?_
            exact k
          refine own_go (B := T_18.setTop (mkF m 197 #[iv p0, iv p1, iv p2, iv p3, iv 1, iv x0, iv x1, iv x2, rv b_8, .val .null, .val .null] [(.int 1)])) (fun t k => ?_) ?_
          · refine XS.iconst X_18.here hx rfl (hb hby at_192) ?_
            refine XS.goto X_18.here hx rfl (pc0 := 193) (pc' := 197) rfl (hb hby at_193) (by decide) (by decide) ?_
            exact k
          obtain ⟨fs, hr, hrun, hended, hRW⟩ := (show Stand p l e room_1 (s.setVm s.vm) m _ below meth c _ _ _ _ from X_18).leaveW ((State.WarmedH.refl s).since 0) (Nat.zero_le _) (v := some (.int 1)) (fun h => by rw [Bd.returns] at h; cases h)
          refine ⟨_, _, ?_, hrun, hended, _, _, rfl, ?_, hRW.1, hRW.2.1, hRW.2.2.1, hRW.2.2.2.mono (by decide) (by decide)⟩
          · show Steps p.tables e below (T_18.setTop (mkF m 197 #[iv p0, iv p1, iv p2, iv p3, iv 1, iv x0, iv x1, iv x2, rv b_8, .val .null, .val .null] [(.int 1)])) _
            exact retN X_18 hx (t := .boolean) Bd.returns (by simp) (hb hby at_197) hr
          · show Q0 Z p0 p1 p2 p3 va kk s0 s1 s2 t0 t1 t2 v0 v1 v2 y0 y1 y2 w cK ff h0 n0 _ T_18.heap _
            exact ⟨rfl, N_18, trivial⟩
  · show ∃ s₂ o, Steps p.tables e below (T_3.setTop (mkF m 25 #[iv p0, iv p1, iv p2, iv p3, iv 2, iv x0, iv x1, iv x2, oU, oU, oU] [(.int 2)])) s₂ ∧ _
    refine own_go (B := T_3.setTop (mkF m 43 #[iv p0, iv p1, iv p2, iv p3, iv 2, iv x0, iv x1, iv x2, oU, oU, oU] [])) (fun t k => ?_) ?_
    · refine XS.ifYes X_3.here hx rfl (pc0 := 25) (pc' := 43) rfl (hb hby at_25) rfl ((if0 _ _).trans (feq (by decide : ¬ ((2 : Int32) = (0 : Int32)))).2) (by decide) (by decide) ?_
      exact k
    refine own_go (B := T_3.setTop (mkF m 46 #[iv p0, iv p1, iv p2, iv p3, iv 2, iv x0, iv x1, iv x2, oU, oU, oU] [(.int 1), (.int 2)])) (fun t k => ?_) ?_
    · refine XS.iload X_3.here hx rfl (hb hby at_43) rfl ?_
      refine XS.iconst X_3.here hx rfl (hb hby at_45) ?_
      exact k
    refine own_go (B := T_3.setTop (mkF m 69 #[iv p0, iv p1, iv p2, iv p3, iv 2, iv x0, iv x1, iv x2, oU, oU, oU] [])) (fun t k => ?_) ?_
    · refine XS.icmpYes X_3.here hx rfl (pc0 := 46) (pc' := 69) rfl (hb hby at_46) rfl (feq (by decide : ¬ ((2 : Int32) = (1 : Int32)))).2 (by decide) (by decide) ?_
      exact k
    refine own_go (B := T_3.setTop (mkF m 72 #[iv p0, iv p1, iv p2, iv p3, iv 2, iv x0, iv x1, iv x2, oU, oU, oU] [(.int 2), (.int 2)])) (fun t k => ?_) ?_
    · refine XS.iload X_3.here hx rfl (hb hby at_69) rfl ?_
      refine XS.iconst X_3.here hx rfl (hb hby at_71) ?_
      exact k
    refine own_go (B := T_3.setTop (mkF m 75 #[iv p0, iv p1, iv p2, iv p3, iv 2, iv x0, iv x1, iv x2, oU, oU, oU] [])) (fun t k => ?_) ?_
    · refine XS.icmpNo X_3.here hx rfl (hb hby at_72) rfl (teq (by decide : (2 : Int32) = (2 : Int32))).2 ?_
      exact k
    obtain ⟨T_19, h_19, X_19, e_19, E_19, A_19, D_19, -, st_19⟩ := newO X_3 hx hZ hown (own_w hw 4 rfl) (own_w hw 5 rfl) (own_w hw 6 rfl) e_3 (g := (mkF m 75 #[iv p0, iv p1, iv p2, iv p3, iv 2, iv x0, iv x1, iv x2, oU, oU, oU] [])) rfl (hb hby at_75) (by decide) (by decide)
    obtain ⟨b_19, g_19⟩ : ∃ z, z = h0.size := ⟨_, rfl⟩
    rw [← g_19] at A_19 D_19 st_19
    have g_b_19 : n0 ≤ b_19 := Nat.le_trans Z0 (Nat.le_of_eq g_19.symm)
    have sz_b_19 : h0.size ≤ b_19 := Nat.le_trans K0.1 (Nat.le_of_eq g_19.symm)
    have c66 := K0.ext E_19
    have Z0__19 : n0 ≤ h_19.size := Nat.le_trans Z0 E_19.1
    have F_value_b_19 : Fld Z h_19 b_19 "java/lang/String" "value" "[B" .null := D_19 (Or.inr (own_w hw 20 rfl)) (ty := (.array .byte)) (by decide)
    have F_coder_b_19 : Fld Z h_19 b_19 "java/lang/String" "coder" "B" (.int 0) := D_19 (Or.inr (own_w hw 21 rfl)) (ty := .byte) (by decide)
    refine own_go (fun t k => st_19 t k) ?_
    refine own_go (B := T_19.setTop (mkF m 80 #[iv p0, iv p1, iv p2, iv p3, iv 2, iv x0, iv x1, iv x2, oU, oU, oU] [(.int 2), (.ref b_19), (.ref b_19)])) (fun t k => ?_) ?_
    · refine XS.dup X_19.here hx rfl (hb hby at_78) rfl rfl ?_
      refine XS.iconst X_19.here hx rfl (hb hby at_79) ?_
      exact k
    obtain ⟨T_20, h_20, k_20, X_20, e_20, E_20, A_20, st_20⟩ := newP X_19 hx hZ (own_w hw 7 rfl) e_19 (g := (mkF m 80 #[iv p0, iv p1, iv p2, iv p3, iv 2, iv x0, iv x1, iv x2, oU, oU, oU] [(.int 2), (.ref b_19), (.ref b_19)])) rfl (hb hby at_80) rfl (by decide) (cap := 2) (by decide) (by decide) (by decide) (by decide)
    obtain ⟨b_20, g_20⟩ : ∃ z, z = h_19.size := ⟨_, rfl⟩
    rw [← g_20] at A_20 st_20
    have g_b_20 : n0 ≤ b_20 := Nat.le_trans Z0__19 (Nat.le_of_eq g_20.symm)
    have sz_b_20 : h0.size ≤ b_20 := Nat.le_trans c66.1 (Nat.le_of_eq g_20.symm)
    have ne_b_19_b_20 : b_19 ≠ b_20 := Nat.ne_of_lt (Nat.lt_of_lt_of_le (F_value_b_19).lt (Nat.le_of_eq g_20.symm))
    have c67 := c66.ext E_20
    have c68 := F_value_b_19.ext E_20
    have c69 := F_coder_b_19.ext E_20
    have c70 := A_19.ext E_20
    have Z0__20 : n0 ≤ h_20.size := Nat.le_trans Z0__19 E_20.1
    have V_b_20 : Arv Z h_20 b_20 k_20 .char (2 : Int32) [(.int (0 : Int32)), (.int (0 : Int32))] (.int (0 : Int32)) := (Arv.new A_20 (by decide)).pad (pad_rep [] (.int (0 : Int32)) 2)
    refine own_go (fun t k => st_20 t k) ?_
    refine own_go (B := T_20.setTop (mkF m 86 #[iv p0, iv p1, iv p2, iv p3, iv 2, iv x0, iv x1, iv x2, oU, oU, oU] [(.int x0), (.int 0), (.ref b_20), (.ref b_20), (.ref b_19), (.ref b_19)])) (fun t k => ?_) ?_
    · refine XS.dup X_20.here hx rfl (hb hby at_82) rfl rfl ?_
      refine XS.iconst X_20.here hx rfl (hb hby at_83) ?_
      refine XS.iload X_20.here hx rfl (hb hby at_84) rfl ?_
      exact k
    obtain ⟨cl_21, Ar_21, q_21, S_21, M_21, H_21, G_21⟩ := id V_b_20
    have hin_21 : ¬ ((0 : Int32) < 0 ∨ cl_21.slots.size ≤ ((0 : Int32)).toNatClampNeg) := inb_of S_21 ⟨by decide, by decide⟩
    obtain ⟨T_21, h_21, X_21, e_21, W_21, st_21⟩ := stC X_20 hx hZ e_20 Ar_21 (j := (0 : Int32)) hin_21 (g := (mkF m 86 #[iv p0, iv p1, iv p2, iv p3, iv 2, iv x0, iv x1, iv x2, oU, oU, oU] [(.int x0), (.int 0), (.ref b_20), (.ref b_20), (.ref b_19), (.ref b_19)])) rfl rfl (hb hby at_86)
    have c71 := c67.wr W_21 (Or.inr sz_b_20)
    have c72 := c68.other W_21 (Or.inl ne_b_19_b_20)
    have c73 := c69.other W_21 (Or.inl ne_b_19_b_20)
    have c74 := c70.wr W_21
    have V_21 : Arv Z h_21 b_20 k_20 .char (2 : Int32) [(.int (nar .char x0)), (.int 0)] (.int (0 : Int32)) := Arv.set Ar_21 q_21 S_21 M_21 H_21 G_21 (fits_nar_char _) W_21 0 rfl (Nat.le_of_ble_eq_true rfl)
    have N_21 := Fr.snoc X_21 N_3 g_b_20
    have Z0__21 : n0 ≤ h_21.size := by rw [W_21.size]; exact Z0__20
    refine own_go (fun t k => st_21 t k) ?_
    refine own_go (B := T_21.setTop (mkF m 91 #[iv p0, iv p1, iv p2, iv p3, iv 2, iv x0, iv x1, iv x2, oU, oU, oU] [(.int x1), (.int 1), (.ref b_20), (.ref b_20), (.ref b_19), (.ref b_19)])) (fun t k => ?_) ?_
    · refine XS.dup X_21.here hx rfl (hb hby at_87) rfl rfl ?_
      refine XS.iconst X_21.here hx rfl (hb hby at_88) ?_
      refine XS.iload X_21.here hx rfl (hb hby at_89) rfl ?_
      exact k
    obtain ⟨cl_22, Ar_22, q_22, S_22, M_22, H_22, G_22⟩ := id V_21
    have hin_22 : ¬ ((1 : Int32) < 0 ∨ cl_22.slots.size ≤ ((1 : Int32)).toNatClampNeg) := inb_of S_22 ⟨by decide, by decide⟩
    obtain ⟨T_22, h_22, X_22, e_22, W_22, st_22⟩ := stC X_21 hx hZ e_21 Ar_22 (j := (1 : Int32)) hin_22 (g := (mkF m 91 #[iv p0, iv p1, iv p2, iv p3, iv 2, iv x0, iv x1, iv x2, oU, oU, oU] [(.int x1), (.int 1), (.ref b_20), (.ref b_20), (.ref b_19), (.ref b_19)])) rfl rfl (hb hby at_91)
    have c75 := c71.wr W_22 (Or.inr sz_b_20)
    have c76 := c72.other W_22 (Or.inl ne_b_19_b_20)
    have c77 := c73.other W_22 (Or.inl ne_b_19_b_20)
    have c78 := c74.wr W_22
    have V_22 : Arv Z h_22 b_20 k_20 .char (2 : Int32) [(.int (nar .char x0)), (.int (nar .char x1))] (.int (0 : Int32)) := Arv.set Ar_22 q_22 S_22 M_22 H_22 G_22 (fits_nar_char _) W_22 1 rfl (Nat.le_of_ble_eq_true rfl)
    have N_22 := Fr.snoc X_22 N_21 g_b_20
    have Z0__22 : n0 ≤ h_22.size := by rw [W_22.size]; exact Z0__21
    refine own_go (fun t k => st_22 t k) ?_
    obtain ⟨_, _, ⟨T_23, L_23, k_23, n_23⟩, -, X_23, ⟨Lc_23, hQ_23, l_23, y_23, z_23⟩, st_23⟩ := X_22.specialBack hx (y := own_m3) rfl hown (mvT hZ (own_w hw 8 rfl)) (mvT hZ (own_w hw 9 rfl)) (mvT hZ (own_w hw 10 rfl)) (by decide) (backOf (W := 1) (rmsi1_2 l Z av0 hw [] b_19 b_20 .null (.int (0 : Int32)) k_20 w (nar .char x0) (nar .char x1) h_22 n0 Z0__22 c78 c76 c77 g_b_19 V_22 ne_b_19_b_20 (own_stak SC c75) hw0 hxq0 hxq1) hZ (own_w hw 10 rfl) (own_w hw 6 rfl) (by decide) (by decide)) (g := (mkF m 92 #[iv p0, iv p1, iv p2, iv p3, iv 2, iv x0, iv x1, iv x2, oU, oU, oU] [(.ref b_20), (.ref b_19), (.ref b_19)])) rfl (by rw [hml]; rfl) (Steps.refl _) (a := b_19) (argsL := [(.ref b_20)]) (rest := [(.ref b_19)]) (lenOf pd_9 rfl) rfl (by show 2 * 0 + _ ≤ _; exact Nat.le_of_eq rfl) (hb hby at_92) (fun _ _ => ⟨rfl, e_22, (by decide : 2 + 1 ≤ _), (by decide : 6 + 2 ≤ _)⟩)
    dsimp only [Pt.U, Pt.locs, Pt.cells, Pt.slots] at X_23 l_23 y_23 z_23 st_23 hQ_23
    subst l_23 y_23 z_23
    obtain ⟨bb_23, kb_23, rfl, N_23q, K_23, Fc_23, Fv_23, szq_23, VN_23⟩ := hQ_23
    have N_23 := Fr.app N_22 N_23q
    have c79 := c75.trans K_23 (allS (Or.inr sz_b_19) all0)
    have c80 := c78.keep K_23
    have c81 := V_22.keep K_23 (ninS (Ne.symm ne_b_19_b_20) nin0)
    have Z0__23 : n0 ≤ T_23.heap.size := Nat.le_trans Z0__22 K_23.1
    refine own_go (fun t k => st_23.trans k) ?_
    refine own_go (B := T_23.setTop (mkF m 133 #[iv p0, iv p1, iv p2, iv p3, iv 2, iv x0, iv x1, iv x2, rv b_19, .val .null, oU] [(.int 1), (.int 2)])) (fun t k => ?_) ?_
    · refine XS.astore X_23.here hx rfl (hb hby at_95) rfl rfl (l' := #[iv p0, iv p1, iv p2, iv p3, iv 2, iv x0, iv x1, iv x2, rv b_19, oU, oU]) rfl ?_
      refine XS.goto X_23.here hx rfl (pc0 := 97) (pc' := 127) rfl (hb hby at_97) (by decide) (by decide) ?_
      refine XS.aconstNull X_23.here hx rfl (hb hby at_127) ?_
      refine XS.astore X_23.here hx rfl (hb hby at_128) rfl rfl (l' := #[iv p0, iv p1, iv p2, iv p3, iv 2, iv x0, iv x1, iv x2, rv b_19, .val .null, oU]) rfl ?_
      refine XS.iload X_23.here hx rfl (hb hby at_130) rfl ?_
      refine XS.iconst X_23.here hx rfl (hb hby at_132) ?_
      exact k
    refine own_go (B := T_23.setTop (mkF m 178 #[iv p0, iv p1, iv p2, iv p3, iv 2, iv x0, iv x1, iv x2, rv b_19, .val .null, oU] [])) (fun t k => ?_) ?_
    · refine XS.icmpYes X_23.here hx rfl (pc0 := 133) (pc' := 178) rfl (hb hby at_133) rfl (feq (by decide : ¬ ((2 : Int32) = (1 : Int32)))).2 (by decide) (by decide) ?_
      exact k
    refine own_go (B := T_23.setTop (mkF m 180 #[iv p0, iv p1, iv p2, iv p3, iv 2, iv x0, iv x1, iv x2, rv b_19, .val .null, oU] [(.ref b_19)])) (fun t k => ?_) ?_
    · refine XS.aload X_23.here hx rfl (hb hby at_178) rfl rfl ?_
      exact k
    obtain ⟨_, _, ⟨T_24, L_24, k_24, n_24⟩, -, X_24, ⟨Lc_24, hQ_24, l_24, y_24, z_24⟩, st_24⟩ := Jvm.LawKit.callS X_23 hx (y := own_m6) hown (mvT hZ (own_w hw 26 rfl)) (mvT hZ (own_w hw 27 rfl)) (mvT hZ (own_w hw 28 rfl)) (mvT hZ (own_w hw 29 rfl)) (by decide) (backOf (W := 0) (rmnbd l Z av0 hw [] b_19 va kk s0 s1 s2 t0 t1 t2 cK ff (0 : Int32) (0 : Int32) (0 : Int32) T_23.heap n0 Z0__23 (own_stak SV c79) (VV.keep c79 nin0) (EV.keep c79) (E0.keep c79) (E1.keep c79) (E2.keep c79) (NN0.keep c79 nin0) (NN1.keep c79 nin0) (NN2.keep c79 nin0) (D0.keep c79) (D1.keep c79) (D2.keep c79) LS LM (own_fnk LF c79) (fun h' K' z' => rmEN l Z av0 hw [] t0 b_19 v0 bb_23 y0 kb_23 w (49 : Int32) (2 : Int32) [(.int (own_byte (nar .char x0))), (.int (own_byte (nar .char x1)))] h' n0 z' ((D0.keep c79).keep K') ((C0.keep c79 nin0).keep K' nin0) ((W0.keep c79 nin0).keep K' nin0) ((c80).keep K') ((Fc_23).keep K' nin0) ((Fv_23).keep K' nin0) ((A0.keep c79 nin0).keep K' nin0) ((VN_23).keep K' nin0) (own_stak (own_stak SC c79) K') hw0 (Nat.ne_of_lt (Nat.lt_of_lt_of_le D0.lt sz_b_19)) (by decide)) (fun h' K' z' => rmEN l Z av0 hw [] t1 b_19 v1 bb_23 y1 kb_23 w (50 : Int32) (2 : Int32) [(.int (own_byte (nar .char x0))), (.int (own_byte (nar .char x1)))] h' n0 z' ((D1.keep c79).keep K') ((C1.keep c79 nin0).keep K' nin0) ((W1.keep c79 nin0).keep K' nin0) ((c80).keep K') ((Fc_23).keep K' nin0) ((Fv_23).keep K' nin0) ((A1.keep c79 nin0).keep K' nin0) ((VN_23).keep K' nin0) (own_stak (own_stak SC c79) K') hw0 (Nat.ne_of_lt (Nat.lt_of_lt_of_le D1.lt sz_b_19)) (by decide)) (fun h' K' z' => rmEN l Z av0 hw [] t2 b_19 v2 bb_23 y2 kb_23 w (51 : Int32) (2 : Int32) [(.int (own_byte (nar .char x0))), (.int (own_byte (nar .char x1)))] h' n0 z' ((D2.keep c79).keep K') ((C2.keep c79 nin0).keep K' nin0) ((W2.keep c79 nin0).keep K' nin0) ((c80).keep K') ((Fc_23).keep K' nin0) ((Fv_23).keep K' nin0) ((A2.keep c79 nin0).keep K' nin0) ((VN_23).keep K' nin0) (own_stak (own_stak SC c79) K') hw0 (Nat.ne_of_lt (Nat.lt_of_lt_of_le D2.lt sz_b_19)) (by decide))) hZ (own_w hw 29 rfl) (own_w hw 28 rfl) (by decide) (by decide)) (g := (mkF m 180 #[iv p0, iv p1, iv p2, iv p3, iv 2, iv x0, iv x1, iv x2, rv b_19, .val .null, oU] [(.ref b_19)])) rfl (by rw [hml]; rfl) (argsL := [(.ref b_19)]) (rest := []) (lenOf pd_10 rfl) rfl (by show 2 * 0 + _ ≤ _; exact Nat.le_of_eq rfl) (hb hby at_180) (fun _ _ => ⟨rfl, rfl, (by decide : 3 + 1 ≤ _), (by decide : 8 + 3 ≤ _)⟩)
    dsimp only [Pt.U, Pt.locs, Pt.cells, Pt.slots] at X_24 l_24 y_24 z_24 st_24 hQ_24
    subst l_24 y_24 z_24
    obtain ⟨hv_24, N_24q, K_24⟩ := hQ_24
    have N_24 := Fr.app N_23 N_24q
    have c82 := c79.trans K_24 all0
    have c83 := c80.keep K_24
    have c84 := c81.keep K_24 nin0
    have c85 := Fc_23.keep K_24 nin0
    have c86 := Fv_23.keep K_24 nin0
    have c87 := VN_23.keep K_24 nin0
    have Z0__24 : n0 ≤ T_24.heap.size := Nat.le_trans Z0__23 K_24.1
    rw [own_k4 s0 s1 s2] at hv_24
    subst hv_24
    refine own_go (fun t k => st_24 t k) ?_
    refine own_go (B := T_24.setTop (mkF m 189 #[iv p0, iv p1, iv p2, iv p3, iv 2, iv x0, iv x1, iv x2, rv b_19, .val .null, .val .null] [.null, .null])) (fun t k => ?_) ?_
    · refine XS.astore X_24.here hx rfl (hb hby at_183) rfl rfl (l' := #[iv p0, iv p1, iv p2, iv p3, iv 2, iv x0, iv x1, iv x2, rv b_19, .val .null, .val .null]) rfl ?_
      refine XS.aload X_24.here hx rfl (hb hby at_185) rfl rfl ?_
      refine XS.aload X_24.here hx rfl (hb hby at_187) rfl rfl ?_
      exact k
    refine own_go (B := T_24.setTop (mkF m 192 #[iv p0, iv p1, iv p2, iv p3, iv 2, iv x0, iv x1, iv x2, rv b_19, .val .null, .val .null] [])) (fun t k => ?_) ?_
    · refine Jvm.RoadKit.acmp (g := (mkF m 189 #[iv p0, iv p1, iv p2, iv p3, iv 2, iv x0, iv x1, iv x2, rv b_19, .val .null, .val .null] [.null, .null])) X_24 hx rfl rfl rfl (pc0 := 189) (pc' := 192) (same := true) rfl (hb hby at_189) rfl (decide_eq_true rfl) (by decide) (by decide) ?_
      exact k
    refine own_go (B := T_24.setTop (mkF m 197 #[iv p0, iv p1, iv p2, iv p3, iv 2, iv x0, iv x1, iv x2, rv b_19, .val .null, .val .null] [(.int 1)])) (fun t k => ?_) ?_
    · refine XS.iconst X_24.here hx rfl (hb hby at_192) ?_
      refine XS.goto X_24.here hx rfl (pc0 := 193) (pc' := 197) rfl (hb hby at_193) (by decide) (by decide) ?_
      exact k
    obtain ⟨fs, hr, hrun, hended, hRW⟩ := (show Stand p l e room_1 (s.setVm s.vm) m _ below meth c _ _ _ _ from X_24).leaveW ((State.WarmedH.refl s).since 0) (Nat.zero_le _) (v := some (.int 1)) (fun h => by rw [Bd.returns] at h; cases h)
    refine ⟨_, _, ?_, hrun, hended, _, _, rfl, ?_, hRW.1, hRW.2.1, hRW.2.2.1, hRW.2.2.2.mono (by decide) (by decide)⟩
    · show Steps p.tables e below (T_24.setTop (mkF m 197 #[iv p0, iv p1, iv p2, iv p3, iv 2, iv x0, iv x1, iv x2, rv b_19, .val .null, .val .null] [(.int 1)])) _
      exact retN X_24 hx (t := .boolean) Bd.returns (by simp) (hb hby at_197) hr
    · show Q0 Z p0 p1 p2 p3 va kk s0 s1 s2 t0 t1 t2 v0 v1 v2 y0 y1 y2 w cK ff h0 n0 _ T_24.heap _
      exact ⟨rfl, N_24, trivial⟩
  · show ∃ s₂ o, Steps p.tables e below (T_3.setTop (mkF m 25 #[iv p0, iv p1, iv p2, iv p3, iv 3, iv x0, iv x1, iv x2, oU, oU, oU] [(.int 3)])) s₂ ∧ _
    refine own_go (B := T_3.setTop (mkF m 43 #[iv p0, iv p1, iv p2, iv p3, iv 3, iv x0, iv x1, iv x2, oU, oU, oU] [])) (fun t k => ?_) ?_
    · refine XS.ifYes X_3.here hx rfl (pc0 := 25) (pc' := 43) rfl (hb hby at_25) rfl ((if0 _ _).trans (feq (by decide : ¬ ((3 : Int32) = (0 : Int32)))).2) (by decide) (by decide) ?_
      exact k
    refine own_go (B := T_3.setTop (mkF m 46 #[iv p0, iv p1, iv p2, iv p3, iv 3, iv x0, iv x1, iv x2, oU, oU, oU] [(.int 1), (.int 3)])) (fun t k => ?_) ?_
    · refine XS.iload X_3.here hx rfl (hb hby at_43) rfl ?_
      refine XS.iconst X_3.here hx rfl (hb hby at_45) ?_
      exact k
    refine own_go (B := T_3.setTop (mkF m 69 #[iv p0, iv p1, iv p2, iv p3, iv 3, iv x0, iv x1, iv x2, oU, oU, oU] [])) (fun t k => ?_) ?_
    · refine XS.icmpYes X_3.here hx rfl (pc0 := 46) (pc' := 69) rfl (hb hby at_46) rfl (feq (by decide : ¬ ((3 : Int32) = (1 : Int32)))).2 (by decide) (by decide) ?_
      exact k
    refine own_go (B := T_3.setTop (mkF m 72 #[iv p0, iv p1, iv p2, iv p3, iv 3, iv x0, iv x1, iv x2, oU, oU, oU] [(.int 2), (.int 3)])) (fun t k => ?_) ?_
    · refine XS.iload X_3.here hx rfl (hb hby at_69) rfl ?_
      refine XS.iconst X_3.here hx rfl (hb hby at_71) ?_
      exact k
    refine own_go (B := T_3.setTop (mkF m 100 #[iv p0, iv p1, iv p2, iv p3, iv 3, iv x0, iv x1, iv x2, oU, oU, oU] [])) (fun t k => ?_) ?_
    · refine XS.icmpYes X_3.here hx rfl (pc0 := 72) (pc' := 100) rfl (hb hby at_72) rfl (feq (by decide : ¬ ((3 : Int32) = (2 : Int32)))).2 (by decide) (by decide) ?_
      exact k
    obtain ⟨T_25, h_25, X_25, e_25, E_25, A_25, D_25, -, st_25⟩ := newO X_3 hx hZ hown (own_w hw 4 rfl) (own_w hw 5 rfl) (own_w hw 6 rfl) e_3 (g := (mkF m 100 #[iv p0, iv p1, iv p2, iv p3, iv 3, iv x0, iv x1, iv x2, oU, oU, oU] [])) rfl (hb hby at_100) (by decide) (by decide)
    obtain ⟨b_25, g_25⟩ : ∃ z, z = h0.size := ⟨_, rfl⟩
    rw [← g_25] at A_25 D_25 st_25
    have g_b_25 : n0 ≤ b_25 := Nat.le_trans Z0 (Nat.le_of_eq g_25.symm)
    have sz_b_25 : h0.size ≤ b_25 := Nat.le_trans K0.1 (Nat.le_of_eq g_25.symm)
    have c88 := K0.ext E_25
    have Z0__25 : n0 ≤ h_25.size := Nat.le_trans Z0 E_25.1
    have F_value_b_25 : Fld Z h_25 b_25 "java/lang/String" "value" "[B" .null := D_25 (Or.inr (own_w hw 20 rfl)) (ty := (.array .byte)) (by decide)
    have F_coder_b_25 : Fld Z h_25 b_25 "java/lang/String" "coder" "B" (.int 0) := D_25 (Or.inr (own_w hw 21 rfl)) (ty := .byte) (by decide)
    refine own_go (fun t k => st_25 t k) ?_
    refine own_go (B := T_25.setTop (mkF m 105 #[iv p0, iv p1, iv p2, iv p3, iv 3, iv x0, iv x1, iv x2, oU, oU, oU] [(.int 3), (.ref b_25), (.ref b_25)])) (fun t k => ?_) ?_
    · refine XS.dup X_25.here hx rfl (hb hby at_103) rfl rfl ?_
      refine XS.iconst X_25.here hx rfl (hb hby at_104) ?_
      exact k
    obtain ⟨T_26, h_26, k_26, X_26, e_26, E_26, A_26, st_26⟩ := newP X_25 hx hZ (own_w hw 7 rfl) e_25 (g := (mkF m 105 #[iv p0, iv p1, iv p2, iv p3, iv 3, iv x0, iv x1, iv x2, oU, oU, oU] [(.int 3), (.ref b_25), (.ref b_25)])) rfl (hb hby at_105) rfl (by decide) (cap := 3) (by decide) (by decide) (by decide) (by decide)
    obtain ⟨b_26, g_26⟩ : ∃ z, z = h_25.size := ⟨_, rfl⟩
    rw [← g_26] at A_26 st_26
    have g_b_26 : n0 ≤ b_26 := Nat.le_trans Z0__25 (Nat.le_of_eq g_26.symm)
    have sz_b_26 : h0.size ≤ b_26 := Nat.le_trans c88.1 (Nat.le_of_eq g_26.symm)
    have ne_b_25_b_26 : b_25 ≠ b_26 := Nat.ne_of_lt (Nat.lt_of_lt_of_le (F_value_b_25).lt (Nat.le_of_eq g_26.symm))
    have c89 := c88.ext E_26
    have c90 := F_value_b_25.ext E_26
    have c91 := F_coder_b_25.ext E_26
    have c92 := A_25.ext E_26
    have Z0__26 : n0 ≤ h_26.size := Nat.le_trans Z0__25 E_26.1
    have V_b_26 : Arv Z h_26 b_26 k_26 .char (3 : Int32) [(.int (0 : Int32)), (.int (0 : Int32)), (.int (0 : Int32))] (.int (0 : Int32)) := (Arv.new A_26 (by decide)).pad (pad_rep [] (.int (0 : Int32)) 3)
    refine own_go (fun t k => st_26 t k) ?_
    refine own_go (B := T_26.setTop (mkF m 111 #[iv p0, iv p1, iv p2, iv p3, iv 3, iv x0, iv x1, iv x2, oU, oU, oU] [(.int x0), (.int 0), (.ref b_26), (.ref b_26), (.ref b_25), (.ref b_25)])) (fun t k => ?_) ?_
    · refine XS.dup X_26.here hx rfl (hb hby at_107) rfl rfl ?_
      refine XS.iconst X_26.here hx rfl (hb hby at_108) ?_
      refine XS.iload X_26.here hx rfl (hb hby at_109) rfl ?_
      exact k
    obtain ⟨cl_27, Ar_27, q_27, S_27, M_27, H_27, G_27⟩ := id V_b_26
    have hin_27 : ¬ ((0 : Int32) < 0 ∨ cl_27.slots.size ≤ ((0 : Int32)).toNatClampNeg) := inb_of S_27 ⟨by decide, by decide⟩
    obtain ⟨T_27, h_27, X_27, e_27, W_27, st_27⟩ := stC X_26 hx hZ e_26 Ar_27 (j := (0 : Int32)) hin_27 (g := (mkF m 111 #[iv p0, iv p1, iv p2, iv p3, iv 3, iv x0, iv x1, iv x2, oU, oU, oU] [(.int x0), (.int 0), (.ref b_26), (.ref b_26), (.ref b_25), (.ref b_25)])) rfl rfl (hb hby at_111)
    have c93 := c89.wr W_27 (Or.inr sz_b_26)
    have c94 := c90.other W_27 (Or.inl ne_b_25_b_26)
    have c95 := c91.other W_27 (Or.inl ne_b_25_b_26)
    have c96 := c92.wr W_27
    have V_27 : Arv Z h_27 b_26 k_26 .char (3 : Int32) [(.int (nar .char x0)), (.int 0), (.int 0)] (.int (0 : Int32)) := Arv.set Ar_27 q_27 S_27 M_27 H_27 G_27 (fits_nar_char _) W_27 0 rfl (Nat.le_of_ble_eq_true rfl)
    have N_27 := Fr.snoc X_27 N_3 g_b_26
    have Z0__27 : n0 ≤ h_27.size := by rw [W_27.size]; exact Z0__26
    refine own_go (fun t k => st_27 t k) ?_
    refine own_go (B := T_27.setTop (mkF m 116 #[iv p0, iv p1, iv p2, iv p3, iv 3, iv x0, iv x1, iv x2, oU, oU, oU] [(.int x1), (.int 1), (.ref b_26), (.ref b_26), (.ref b_25), (.ref b_25)])) (fun t k => ?_) ?_
    · refine XS.dup X_27.here hx rfl (hb hby at_112) rfl rfl ?_
      refine XS.iconst X_27.here hx rfl (hb hby at_113) ?_
      refine XS.iload X_27.here hx rfl (hb hby at_114) rfl ?_
      exact k
    obtain ⟨cl_28, Ar_28, q_28, S_28, M_28, H_28, G_28⟩ := id V_27
    have hin_28 : ¬ ((1 : Int32) < 0 ∨ cl_28.slots.size ≤ ((1 : Int32)).toNatClampNeg) := inb_of S_28 ⟨by decide, by decide⟩
    obtain ⟨T_28, h_28, X_28, e_28, W_28, st_28⟩ := stC X_27 hx hZ e_27 Ar_28 (j := (1 : Int32)) hin_28 (g := (mkF m 116 #[iv p0, iv p1, iv p2, iv p3, iv 3, iv x0, iv x1, iv x2, oU, oU, oU] [(.int x1), (.int 1), (.ref b_26), (.ref b_26), (.ref b_25), (.ref b_25)])) rfl rfl (hb hby at_116)
    have c97 := c93.wr W_28 (Or.inr sz_b_26)
    have c98 := c94.other W_28 (Or.inl ne_b_25_b_26)
    have c99 := c95.other W_28 (Or.inl ne_b_25_b_26)
    have c100 := c96.wr W_28
    have V_28 : Arv Z h_28 b_26 k_26 .char (3 : Int32) [(.int (nar .char x0)), (.int (nar .char x1)), (.int 0)] (.int (0 : Int32)) := Arv.set Ar_28 q_28 S_28 M_28 H_28 G_28 (fits_nar_char _) W_28 1 rfl (Nat.le_of_ble_eq_true rfl)
    have N_28 := Fr.snoc X_28 N_27 g_b_26
    have Z0__28 : n0 ≤ h_28.size := by rw [W_28.size]; exact Z0__27
    refine own_go (fun t k => st_28 t k) ?_
    refine own_go (B := T_28.setTop (mkF m 121 #[iv p0, iv p1, iv p2, iv p3, iv 3, iv x0, iv x1, iv x2, oU, oU, oU] [(.int x2), (.int 2), (.ref b_26), (.ref b_26), (.ref b_25), (.ref b_25)])) (fun t k => ?_) ?_
    · refine XS.dup X_28.here hx rfl (hb hby at_117) rfl rfl ?_
      refine XS.iconst X_28.here hx rfl (hb hby at_118) ?_
      refine XS.iload X_28.here hx rfl (hb hby at_119) rfl ?_
      exact k
    obtain ⟨cl_29, Ar_29, q_29, S_29, M_29, H_29, G_29⟩ := id V_28
    have hin_29 : ¬ ((2 : Int32) < 0 ∨ cl_29.slots.size ≤ ((2 : Int32)).toNatClampNeg) := inb_of S_29 ⟨by decide, by decide⟩
    obtain ⟨T_29, h_29, X_29, e_29, W_29, st_29⟩ := stC X_28 hx hZ e_28 Ar_29 (j := (2 : Int32)) hin_29 (g := (mkF m 121 #[iv p0, iv p1, iv p2, iv p3, iv 3, iv x0, iv x1, iv x2, oU, oU, oU] [(.int x2), (.int 2), (.ref b_26), (.ref b_26), (.ref b_25), (.ref b_25)])) rfl rfl (hb hby at_121)
    have c101 := c97.wr W_29 (Or.inr sz_b_26)
    have c102 := c98.other W_29 (Or.inl ne_b_25_b_26)
    have c103 := c99.other W_29 (Or.inl ne_b_25_b_26)
    have c104 := c100.wr W_29
    have V_29 : Arv Z h_29 b_26 k_26 .char (3 : Int32) [(.int (nar .char x0)), (.int (nar .char x1)), (.int (nar .char x2))] (.int (0 : Int32)) := Arv.set Ar_29 q_29 S_29 M_29 H_29 G_29 (fits_nar_char _) W_29 2 rfl (Nat.le_of_ble_eq_true rfl)
    have N_29 := Fr.snoc X_29 N_28 g_b_26
    have Z0__29 : n0 ≤ h_29.size := by rw [W_29.size]; exact Z0__28
    refine own_go (fun t k => st_29 t k) ?_
    obtain ⟨_, _, ⟨T_30, L_30, k_30, n_30⟩, -, X_30, ⟨Lc_30, hQ_30, l_30, y_30, z_30⟩, st_30⟩ := X_29.specialBack hx (y := own_m3) rfl hown (mvT hZ (own_w hw 8 rfl)) (mvT hZ (own_w hw 9 rfl)) (mvT hZ (own_w hw 10 rfl)) (by decide) (backOf (W := 1) (rmsi1_3 l Z av0 hw [] b_25 b_26 .null (.int (0 : Int32)) k_26 w (nar .char x0) (nar .char x1) (nar .char x2) h_29 n0 Z0__29 c104 c102 c103 g_b_25 V_29 ne_b_25_b_26 (own_stak SC c101) hw0 hxq0 hxq1 hxq2) hZ (own_w hw 10 rfl) (own_w hw 6 rfl) (by decide) (by decide)) (g := (mkF m 122 #[iv p0, iv p1, iv p2, iv p3, iv 3, iv x0, iv x1, iv x2, oU, oU, oU] [(.ref b_26), (.ref b_25), (.ref b_25)])) rfl (by rw [hml]; rfl) (Steps.refl _) (a := b_25) (argsL := [(.ref b_26)]) (rest := [(.ref b_25)]) (lenOf pd_9 rfl) rfl (by show 2 * 0 + _ ≤ _; exact Nat.le_of_eq rfl) (hb hby at_122) (fun _ _ => ⟨rfl, e_29, (by decide : 2 + 1 ≤ _), (by decide : 7 + 3 ≤ _)⟩)
    dsimp only [Pt.U, Pt.locs, Pt.cells, Pt.slots] at X_30 l_30 y_30 z_30 st_30 hQ_30
    subst l_30 y_30 z_30
    obtain ⟨bb_30, kb_30, rfl, N_30q, K_30, Fc_30, Fv_30, szq_30, VN_30⟩ := hQ_30
    have N_30 := Fr.app N_29 N_30q
    have c105 := c101.trans K_30 (allS (Or.inr sz_b_25) all0)
    have c106 := c104.keep K_30
    have c107 := V_29.keep K_30 (ninS (Ne.symm ne_b_25_b_26) nin0)
    have Z0__30 : n0 ≤ T_30.heap.size := Nat.le_trans Z0__29 K_30.1
    refine own_go (fun t k => st_30.trans k) ?_
    refine own_go (B := T_30.setTop (mkF m 133 #[iv p0, iv p1, iv p2, iv p3, iv 3, iv x0, iv x1, iv x2, rv b_25, .val .null, oU] [(.int 1), (.int 3)])) (fun t k => ?_) ?_
    · refine XS.astore X_30.here hx rfl (hb hby at_125) rfl rfl (l' := #[iv p0, iv p1, iv p2, iv p3, iv 3, iv x0, iv x1, iv x2, rv b_25, oU, oU]) rfl ?_
      refine XS.aconstNull X_30.here hx rfl (hb hby at_127) ?_
      refine XS.astore X_30.here hx rfl (hb hby at_128) rfl rfl (l' := #[iv p0, iv p1, iv p2, iv p3, iv 3, iv x0, iv x1, iv x2, rv b_25, .val .null, oU]) rfl ?_
      refine XS.iload X_30.here hx rfl (hb hby at_130) rfl ?_
      refine XS.iconst X_30.here hx rfl (hb hby at_132) ?_
      exact k
    refine own_go (B := T_30.setTop (mkF m 178 #[iv p0, iv p1, iv p2, iv p3, iv 3, iv x0, iv x1, iv x2, rv b_25, .val .null, oU] [])) (fun t k => ?_) ?_
    · refine XS.icmpYes X_30.here hx rfl (pc0 := 133) (pc' := 178) rfl (hb hby at_133) rfl (feq (by decide : ¬ ((3 : Int32) = (1 : Int32)))).2 (by decide) (by decide) ?_
      exact k
    refine own_go (B := T_30.setTop (mkF m 180 #[iv p0, iv p1, iv p2, iv p3, iv 3, iv x0, iv x1, iv x2, rv b_25, .val .null, oU] [(.ref b_25)])) (fun t k => ?_) ?_
    · refine XS.aload X_30.here hx rfl (hb hby at_178) rfl rfl ?_
      exact k
    obtain ⟨_, _, ⟨T_31, L_31, k_31, n_31⟩, -, X_31, ⟨Lc_31, hQ_31, l_31, y_31, z_31⟩, st_31⟩ := Jvm.LawKit.callS X_30 hx (y := own_m6) hown (mvT hZ (own_w hw 26 rfl)) (mvT hZ (own_w hw 27 rfl)) (mvT hZ (own_w hw 28 rfl)) (mvT hZ (own_w hw 29 rfl)) (by decide) (backOf (W := 0) (rmnbd l Z av0 hw [] b_25 va kk s0 s1 s2 t0 t1 t2 cK ff (0 : Int32) (0 : Int32) (0 : Int32) T_30.heap n0 Z0__30 (own_stak SV c105) (VV.keep c105 nin0) (EV.keep c105) (E0.keep c105) (E1.keep c105) (E2.keep c105) (NN0.keep c105 nin0) (NN1.keep c105 nin0) (NN2.keep c105 nin0) (D0.keep c105) (D1.keep c105) (D2.keep c105) LS LM (own_fnk LF c105) (fun h' K' z' => rmEN l Z av0 hw [] t0 b_25 v0 bb_30 y0 kb_30 w (49 : Int32) (3 : Int32) [(.int (own_byte (nar .char x0))), (.int (own_byte (nar .char x1))), (.int (own_byte (nar .char x2)))] h' n0 z' ((D0.keep c105).keep K') ((C0.keep c105 nin0).keep K' nin0) ((W0.keep c105 nin0).keep K' nin0) ((c106).keep K') ((Fc_30).keep K' nin0) ((Fv_30).keep K' nin0) ((A0.keep c105 nin0).keep K' nin0) ((VN_30).keep K' nin0) (own_stak (own_stak SC c105) K') hw0 (Nat.ne_of_lt (Nat.lt_of_lt_of_le D0.lt sz_b_25)) (by decide)) (fun h' K' z' => rmEN l Z av0 hw [] t1 b_25 v1 bb_30 y1 kb_30 w (50 : Int32) (3 : Int32) [(.int (own_byte (nar .char x0))), (.int (own_byte (nar .char x1))), (.int (own_byte (nar .char x2)))] h' n0 z' ((D1.keep c105).keep K') ((C1.keep c105 nin0).keep K' nin0) ((W1.keep c105 nin0).keep K' nin0) ((c106).keep K') ((Fc_30).keep K' nin0) ((Fv_30).keep K' nin0) ((A1.keep c105 nin0).keep K' nin0) ((VN_30).keep K' nin0) (own_stak (own_stak SC c105) K') hw0 (Nat.ne_of_lt (Nat.lt_of_lt_of_le D1.lt sz_b_25)) (by decide)) (fun h' K' z' => rmEN l Z av0 hw [] t2 b_25 v2 bb_30 y2 kb_30 w (51 : Int32) (3 : Int32) [(.int (own_byte (nar .char x0))), (.int (own_byte (nar .char x1))), (.int (own_byte (nar .char x2)))] h' n0 z' ((D2.keep c105).keep K') ((C2.keep c105 nin0).keep K' nin0) ((W2.keep c105 nin0).keep K' nin0) ((c106).keep K') ((Fc_30).keep K' nin0) ((Fv_30).keep K' nin0) ((A2.keep c105 nin0).keep K' nin0) ((VN_30).keep K' nin0) (own_stak (own_stak SC c105) K') hw0 (Nat.ne_of_lt (Nat.lt_of_lt_of_le D2.lt sz_b_25)) (by decide))) hZ (own_w hw 29 rfl) (own_w hw 28 rfl) (by decide) (by decide)) (g := (mkF m 180 #[iv p0, iv p1, iv p2, iv p3, iv 3, iv x0, iv x1, iv x2, rv b_25, .val .null, oU] [(.ref b_25)])) rfl (by rw [hml]; rfl) (argsL := [(.ref b_25)]) (rest := []) (lenOf pd_10 rfl) rfl (by show 2 * 0 + _ ≤ _; exact Nat.le_of_eq rfl) (hb hby at_180) (fun _ _ => ⟨rfl, rfl, (by decide : 3 + 1 ≤ _), (by decide : 10 + 3 ≤ _)⟩)
    dsimp only [Pt.U, Pt.locs, Pt.cells, Pt.slots] at X_31 l_31 y_31 z_31 st_31 hQ_31
    subst l_31 y_31 z_31
    obtain ⟨hv_31, N_31q, K_31⟩ := hQ_31
    have N_31 := Fr.app N_30 N_31q
    have c108 := c105.trans K_31 all0
    have c109 := c106.keep K_31
    have c110 := c107.keep K_31 nin0
    have c111 := Fc_30.keep K_31 nin0
    have c112 := Fv_30.keep K_31 nin0
    have c113 := VN_30.keep K_31 nin0
    have Z0__31 : n0 ≤ T_31.heap.size := Nat.le_trans Z0__30 K_31.1
    rw [own_k4 s0 s1 s2] at hv_31
    subst hv_31
    refine own_go (fun t k => st_31 t k) ?_
    refine own_go (B := T_31.setTop (mkF m 189 #[iv p0, iv p1, iv p2, iv p3, iv 3, iv x0, iv x1, iv x2, rv b_25, .val .null, .val .null] [.null, .null])) (fun t k => ?_) ?_
    · refine XS.astore X_31.here hx rfl (hb hby at_183) rfl rfl (l' := #[iv p0, iv p1, iv p2, iv p3, iv 3, iv x0, iv x1, iv x2, rv b_25, .val .null, .val .null]) rfl ?_
      refine XS.aload X_31.here hx rfl (hb hby at_185) rfl rfl ?_
      refine XS.aload X_31.here hx rfl (hb hby at_187) rfl rfl ?_
      exact k
    refine own_go (B := T_31.setTop (mkF m 192 #[iv p0, iv p1, iv p2, iv p3, iv 3, iv x0, iv x1, iv x2, rv b_25, .val .null, .val .null] [])) (fun t k => ?_) ?_
    · refine Jvm.RoadKit.acmp (g := (mkF m 189 #[iv p0, iv p1, iv p2, iv p3, iv 3, iv x0, iv x1, iv x2, rv b_25, .val .null, .val .null] [.null, .null])) X_31 hx rfl rfl rfl (pc0 := 189) (pc' := 192) (same := true) rfl (hb hby at_189) rfl (decide_eq_true rfl) (by decide) (by decide) ?_
      exact k
    refine own_go (B := T_31.setTop (mkF m 197 #[iv p0, iv p1, iv p2, iv p3, iv 3, iv x0, iv x1, iv x2, rv b_25, .val .null, .val .null] [(.int 1)])) (fun t k => ?_) ?_
    · refine XS.iconst X_31.here hx rfl (hb hby at_192) ?_
      refine XS.goto X_31.here hx rfl (pc0 := 193) (pc' := 197) rfl (hb hby at_193) (by decide) (by decide) ?_
      exact k
    obtain ⟨fs, hr, hrun, hended, hRW⟩ := (show Stand p l e room_1 (s.setVm s.vm) m _ below meth c _ _ _ _ from X_31).leaveW ((State.WarmedH.refl s).since 0) (Nat.zero_le _) (v := some (.int 1)) (fun h => by rw [Bd.returns] at h; cases h)
    refine ⟨_, _, ?_, hrun, hended, _, _, rfl, ?_, hRW.1, hRW.2.1, hRW.2.2.1, hRW.2.2.2.mono (by decide) (by decide)⟩
    · show Steps p.tables e below (T_31.setTop (mkF m 197 #[iv p0, iv p1, iv p2, iv p3, iv 3, iv x0, iv x1, iv x2, rv b_25, .val .null, .val .null] [(.int 1)])) _
      exact retN X_31 hx (t := .boolean) Bd.returns (by simp) (hb hby at_197) hr
    · show Q0 Z p0 p1 p2 p3 va kk s0 s1 s2 t0 t1 t2 v0 v1 v2 y0 y1 y2 w cK ff h0 n0 _ T_31.heap _
      exact ⟨rfl, N_31, trivial⟩
theorem own_len {args : Array Value} {s : State} {t : Term} {a : Addr} {c : Cell} {ty : FieldType} {z : Int32} (ev : t.eval args s none [] s = some (.ref a)) (A : Arr s s.heap a c ty) (h : (Term.length t).eval args s none [] s = some (.int z)) : c.slots.size < 2 ^ 31 ∧ c.slots.size.toInt32 = z := by
  have q := Arr.fin (Vm.Alike.refl _) A
  by_cases hs : c.slots.size < 2147483648
  · rw [len_f ev q hs] at h
    exact ⟨hs, Value.int.inj (Option.some.inj h)⟩
  · simp [Term.eval, ev, q, hs] at h
set_option maxRecDepth 65536 in
set_option maxHeartbeats 40000000 in
theorem comes_1 {Post : Tables → Env → Array Value → State → Outcome → State → Prop} (hpost : ∀ tb e args s v u, (limb_1_1.after args s (.returned v) u = true ∧ limb_1_2.after args s (.returned v) u = true ∧ True) → ReturnedEndW s (.returned v) u (Jvm.fieldLocs frame_1_writes args s ++ Jvm.arrayLocs frame_1_arrays args s ++ Jvm.staticLocs frame_1_statics s) 24 1152 → Post tb e args s (.returned v) u) :
    ArmFor flags0 classFile x code maxLocals ret World_1 tables_1 room_1 Calls_1 rest_1 Pre_1 Post := by
  intro l hfl _ _ p e ha hc hk s m args below hf hA hF happ hP
  obtain ⟨hcalls, hrest, hpre⟩ := hP
  obtain ⟨-, -, -, hnamed, -, -, -, hat⟩ := (Spec.applies_iff hf).mp happ
  obtain ⟨hg, hn⟩ := and_e (Cond.before_iff.mp (show (Jvm.Cond.and given_1 narrow_1).before args s = true from hpre))
  obtain ⟨g1, g2⟩ := and_e hg
  obtain ⟨g3, g4⟩ := and_e g2
  obtain ⟨g5, g6⟩ := and_e g4
  obtain ⟨g7, g8⟩ := and_e g6
  obtain ⟨w0, w1, w2, w3, rfl⟩ : ∃ w0 w1 w2 w3 : Value, args = #[w0, w1, w2, w3] := by
    have hs : args.size = 4 := by simpa [Cond.value, given_1] using g1
    obtain ⟨L⟩ := args
    match L, hs with
    | [w0, w1, w2, w3], _ => exact ⟨w0, w1, w2, w3, rfl⟩
  have hw := fun d (hd : d ∈ tables_1) => atoms_spec (ws := Jvm.Cond.code x code maxLocals ret :: tables_1) hat d (List.mem_cons_of_mem _ hd)
  have hfit : Fit s := fun {y c} hc i hi => by
    obtain ⟨ha, rfl⟩ := Array.getElem?_eq_some_iff.mp hc
    have q := List.all_eq_true.mp ((Array.all_eq_true_iff_forall_mem.mp hF) _ (Array.getElem_mem ha)) i (List.mem_range.mpr hi)
    simpa [Array.getElem?_eq_getElem hi] using q
  obtain ⟨hsets, hown0⟩ := atoms_of _ (rest_1_c_eq ▸ (show rest_1_c.before _ s = true from hrest))
  have hr0 := Cond.before_iff.mp hown0
  obtain ⟨i0, ei0⟩ := is_v g3
  obtain rfl : w0 = (.int i0) := Option.some.inj ei0
  obtain ⟨i1, ei1⟩ := is_v g5
  obtain rfl : w1 = (.int i1) := Option.some.inj ei1
  obtain ⟨i2, ei2⟩ := is_v g7
  obtain rfl : w2 = (.int i2) := Option.some.inj ei2
  obtain ⟨i3, ei3⟩ := is_v g8
  obtain rfl : w3 = (.int i3) := Option.some.inj ei3
  obtain ⟨nw0, hn⟩ := and_e hn
  obtain ⟨nw1, hn⟩ := and_e hn
  obtain ⟨nw2, hn⟩ := and_e hn
  obtain ⟨nw3, hn⟩ := and_e hn
  obtain ⟨nw4, hn⟩ := and_e hn
  obtain ⟨nw5, hn⟩ := and_e hn
  obtain ⟨nw6, hn⟩ := and_e hn
  obtain ⟨nw7, hn⟩ := and_e hn
  obtain ⟨nw8, hn⟩ := and_e hn
  obtain ⟨nw9, hn⟩ := and_e hn
  obtain ⟨nw10, hn⟩ := and_e hn
  obtain ⟨nw11, hn⟩ := and_e hn
  obtain ⟨nw12, hn⟩ := and_e hn
  obtain ⟨nw13, hn⟩ := and_e hn
  obtain ⟨nw14, hn⟩ := and_e hn
  obtain ⟨nw15, hn⟩ := and_e hn
  obtain ⟨nw16, hn⟩ := and_e hn
  obtain ⟨nw17, hn⟩ := and_e hn
  obtain ⟨nw18, hn⟩ := and_e hn
  obtain ⟨nw19, hn⟩ := and_e hn
  obtain ⟨nw20, hn⟩ := and_e hn
  obtain ⟨nw21, hn⟩ := and_e hn
  obtain ⟨nw22, hn⟩ := and_e hn
  have nw23 := hn
  obtain ⟨va, evV⟩ := exa_v nw1
  have SV := Sta.start evV (Or.inl (own_w hw 45 rfl))
  have EV := Exa.start evV nw1
  obtain ⟨s0, ev0⟩ := exa_v nw3
  have S0 := Sta.start ev0 (Or.inr ⟨(own_w hw 28 rfl), (own_w hw 42 rfl)⟩)
  have E0 := Exa.start ev0 nw3
  obtain ⟨s1, ev1⟩ := exa_v nw5
  have S1 := Sta.start ev1 (Or.inr ⟨(own_w hw 28 rfl), (own_w hw 43 rfl)⟩)
  have E1 := Exa.start ev1 nw5
  obtain ⟨s2, ev2⟩ := exa_v nw7
  have S2 := Sta.start ev2 (Or.inr ⟨(own_w hw 28 rfl), (own_w hw 44 rfl)⟩)
  have E2 := Exa.start ev2 nw7
  obtain ⟨cV, AV⟩ := Arr.start evV nw0
  obtain ⟨t0, et0⟩ := exa_v nw9
  have D0 := Exa.start et0 nw9
  have NN0 := Fld.start ((fld_at ev0).symm.trans et0)
  obtain ⟨t1, et1⟩ := exa_v nw13
  have D1 := Exa.start et1 nw13
  have NN1 := Fld.start ((fld_at ev1).symm.trans et1)
  obtain ⟨t2, et2⟩ := exa_v nw17
  have D2 := Exa.start et2 nw17
  have NN2 := Fld.start ((fld_at ev2).symm.trans et2)
  have C0 := Fld.start ((fld_at et0).symm.trans (own_eqv nw10 (Term.int_eval (0))))
  obtain ⟨v0, eb0⟩ := arr_v nw11
  obtain ⟨c0, A0⟩ := Arr.start eb0 nw11
  have W0 := Fld.start ((fld_at et0).symm.trans eb0)
  have C1 := Fld.start ((fld_at et1).symm.trans (own_eqv nw14 (Term.int_eval (0))))
  obtain ⟨v1, eb1⟩ := arr_v nw15
  obtain ⟨c1, A1⟩ := Arr.start eb1 nw15
  have W1 := Fld.start ((fld_at et1).symm.trans eb1)
  have C2 := Fld.start ((fld_at et2).symm.trans (own_eqv nw18 (Term.int_eval (0))))
  obtain ⟨v2, eb2⟩ := arr_v nw19
  obtain ⟨c2, A2⟩ := Arr.start eb2 nw19
  have W2 := Fld.start ((fld_at et2).symm.trans eb2)
  have eL := own_len evV AV (own_eqv nw2 (Term.int_eval (3)))
  have el0 := (elem_in (own_eqv nw4 ev0) evV (Term.int_eval (0)) AV.1).2
  have el1 := (elem_in (own_eqv nw6 ev1) evV (Term.int_eval (1)) AV.1).2
  have el2 := (elem_in (own_eqv nw8 ev2) evV (Term.int_eval (2)) AV.1).2
  have l0 := own_len eb0 A0 (own_eqv nw12 (Term.int_eval (1)))
  have l1 := own_len eb1 A1 (own_eqv nw16 (Term.int_eval (1)))
  have l2 := own_len eb2 A2 (own_eqv nw20 (Term.int_eval (1)))
  have x0 := (elem_in (own_eqv nw21 (Term.int_eval (49))) eb0 (Term.int_eval (0)) A0.1).2
  have x1 := (elem_in (own_eqv nw22 (Term.int_eval (50))) eb1 (Term.int_eval (0)) A1.1).2
  have x2 := (elem_in (own_eqv nw23 (Term.int_eval (51))) eb2 (Term.int_eval (0)) A2.1).2
  have VV : Arv s s.heap va cV.cls (.object "com/example/stackwright/stackwright/CapacityAlternative") (3 : Int32) [(.ref s0), (.ref s1), (.ref s2)] .null := Arv.start hfit AV eL.1 eL.2 (by decide) rfl ⟨el0, el1, el2, trivial⟩
  have B0 : Arv s s.heap v0 c0.cls .byte (1 : Int32) [(.int (49 : Int32))] (.int 0) := Arv.start hfit A0 l0.1 l0.2 (by decide) rfl ⟨x0, trivial⟩
  have B1 : Arv s s.heap v1 c1.cls .byte (1 : Int32) [(.int (50 : Int32))] (.int 0) := Arv.start hfit A1 l1.1 l1.2 (by decide) rfl ⟨x1, trivial⟩
  have B2 : Arv s s.heap v2 c2.cls .byte (1 : Int32) [(.int (51 : Int32))] (.int 0) := Arv.start hfit A2 l2.1 l2.2 (by decide) rfl ⟨x2, trivial⟩
  obtain ⟨w, ew⟩ := is_v (Cond.before_iff.mp (hsets _ (List.mem_of_getElem? (i := 1) rfl)))
  have SC := Sta.start ew (Or.inl (hsets _ (List.mem_of_getElem? (i := 0) rfl)))
  have hcw := hsets _ (List.mem_of_getElem? (i := 2) rfl)
  have hw0 : ¬ (w = (0 : Int32)) := fun q => by
    have q1 := not_v (Cond.before_iff.mp hcw)
    rw [eq_i ew (Term.int_eval (0)) (by rw [q])] at q1
    cases q1
  have hEL : EW s #[.int i0, .int i1, .int i2, .int i3] own_EL := (EW.cons (own_w hw 18 rfl) (by decide) EW.nil)
  have hheld : ∀ q ∈ own_EL, Jvm.Lit.constHeld s q.1 q.2 := by
    intro q hq
    simp only [own_EL, List.mem_cons, List.not_mem_nil, or_false] at hq
    subst hq
    exact hcalls.1 ("java/lang/String", 7) (by simp [consts_1])
  have HH : CHv s own_EL s.vm s.heap := CHv.start hEL hheld hcw (own_w hw 19 rfl) (own_w hw 5 rfl)
  obtain ⟨ff, cK, LS, LM, LF⟩ := own_lam (own_w hw 48 rfl)
  obtain ⟨n, o, h1, h2, h3, _, L, rfl, ⟨rfl, N, -⟩, hq⟩ := rm0 l s _ hw tables_1 i0 i1 i2 i3 va cV.cls s0 s1 s2 t0 t1 t2 v0 v1 v2 c0.cls c1.cls c2.cls w cK ff s.heap s.heap.size (Nat.le_refl _) SV VV EV E0 E1 E2 NN0 NN1 NN2 D0 D1 D2 C0 C1 C2 W0 W1 W2 B0 B1 B2 S0 S1 S2 SC hw0 LS LM LF hEL HH rfl rfl p e ha hc hk s m _ below hf ((Spec.applies_iff_loose hf).mp happ).1 ⟨rfl, rfl⟩ trivial
  refine ⟨n, _, h1, h2, h3, hpost _ _ _ _ _ _ ⟨Cond.after_iff.mpr rfl, Cond.after_iff.mpr (eq_i res_at (Term.int_eval (1)) rfl), trivial⟩ ⟨hq.1, hq.2.1, hq.2.2.1, (hq.2.2.2.sift fun y hy => Or.inr (N y hy)).mono (by decide) (by decide)⟩⟩
theorem main_1_1 : Claimed_1_1 := comes_1 fun _ _ _ _ _ _ h hF => ⟨h.1, hF⟩
theorem main_1_2 : Claimed_1_2 := comes_1 fun _ _ _ _ _ _ h hF => ⟨h.2.1, hF⟩
end Jvm.Pilot.@@N@@
namespace Jvm.Pilot.@@N@@
open Jvm Jvm.ClassFile Sem Op Lib Jvm.Free Jvm.Stand Jvm.Pilot.@@N@@.Jvm.D
/-! MADE BY PROGRAM (witnessworld.py) out of the Statement's table words and the real class files: 25 classes; the members and pool entries that the words name. The judged class is class 1, her method 2. -/
namespace start1
open Jvm.ClassFile
def u (s : String) : CpInfo := .utf8 (stringToUtf16 s)
/-- a pool by its gaps: so many unusable entries, then the entry; so many at the end -/
def gap : Nat → List CpInfo → List CpInfo
  | 0, r => r
  | n + 1, r => .unusable :: gap n r
def poolList (es : List (Nat × CpInfo)) (last : Nat) : List CpInfo := es.foldr (fun e r => gap e.1 (e.2 :: r)) (gap last [])
def pool (es : List (Nat × CpInfo)) (last : Nat) : Array CpInfo := ⟨poolList es last⟩
def fileOf (pool : Array CpInfo) (this : Nat) (attrs : Array Attribute := #[]) (ms : Array MethodInfo := #[]) (fl : Nat := 33) (sup : Nat := 0) (ifs : Array Nat := #[]) (fds : Array FieldInfo := #[]) : ClassFile where
  minorVersion := 0
  majorVersion := 65
  constantPool := pool
  accessFlags := fl
  thisClass := this
  superClass := sup
  interfaces := ifs
  fields := fds
  methods := ms
  attributes := attrs
def plain (name : String) (sup : Option ClassId) : Class where
  name := name
  kind := .ordinary
  loader := none
  accessFlags := 33
  super := sup
  interfaces := #[]
  cf := none
  fields := #[]
  methods := #[]
  instanceTypes := #[]
  staticTypes := #[]
  resolved := #[]
  callSites := []
  init := .initialized
  statics := none
  mirror := none

def pool0 : Array CpInfo := pool [(5, u "<init>"), (0, u "()V"), (1, .class_ 10), (1, u "java/lang/Object"), (85, u "clone"), (0, u "()Ljava/lang/Object;")] 26

def k0c0 : Code := { maxStack := 0, maxLocals := 1, code := object_method_1_code, exceptionTable := #[], attributes := #[] }
def k0m0 : Method := { name := "<init>", desc := "()V", sig := { parameters := [], returnType := none }, accessFlags := 1, code := some k0c0 }
def k0m1 : Method := { name := "clone", desc := "()Ljava/lang/Object;", sig := { parameters := [], returnType := some (.object "java/lang/Object") }, accessFlags := 260, code := none }
/-- java/lang/Object -/
def k0 : Class := { plain "java/lang/Object" none with
  accessFlags := 33
  interfaces := #[]
  cf := some (fileOf pool0 8 #[] #[{ accessFlags := 1, nameIndex := 5, descriptorIndex := 6, attributes := #[] }, { accessFlags := 260, nameIndex := 96, descriptorIndex := 97, attributes := #[] }] 33 0 #[] #[])
  fields := #[]
  methods := #[k0m0, k0m1]
  instanceTypes := #[]
  staticTypes := #[]
  resolved := Array.replicate 124 none
  statics := none }

def pool1 : Array CpInfo := pool [(2, .class_ 4), (1, u "java/lang/Object"), (0, u "<init>"), (0, u "()V"), (0, .methodref 8 9), (0, .class_ 10), (0, .nameAndType 11 12), (0, u "com/example/stackwright/stackwright/CapacityAlternativeNumberedPinLaw"), (0, u "draw"), (0, u "(I)C"), (0, .class_ 14), (0, u "java/lang/String"), (0, .methodref 13 16), (0, .nameAndType 5 17), (0, u "([C)V"), (0, .fieldref 19 20), (0, .class_ 21), (0, .nameAndType 22 23), (0, u "com/example/stackwright/stackwright/CapacityAlternative"), (0, u "ALL_EXPORT"), (0, u "Lcom/example/stackwright/stackwright/CapacityAlternative;"), (0, .fieldref 19 25), (0, .nameAndType 26 23), (0, u "SUMMER_WINDOW"), (0, .fieldref 19 28), (0, .nameAndType 29 23), (0, u "SYSTEM_PEAK"), (0, .methodref 19 31), (0, .nameAndType 32 33), (0, u "numbered"), (0, u "(Ljava/lang/String;)Lcom/example/stackwright/stackwright/CapacityAlternative;"), (3, u "law"), (0, u "(IIII)Z")] 2

def k1m0 : Method := { name := "<init>", desc := "()V", sig := { parameters := [], returnType := none }, accessFlags := 2, code := none }
def k1c1 : Code := { maxStack := 3, maxLocals := 1, code := method_2_code, exceptionTable := #[], attributes := #[] }
def k1m1 : Method := { name := "draw", desc := "(I)C", sig := { parameters := [.int], returnType := some .char }, accessFlags := 10, code := some k1c1 }
def k1c2 : Code := { maxStack := 6, maxLocals := 11, code := code, exceptionTable := #[], attributes := #[] }
def k1m2 : Method := { name := "law", desc := "(IIII)Z", sig := { parameters := [.int, .int, .int, .int], returnType := some .boolean }, accessFlags := 9, code := some k1c2 }
/-- com/example/stackwright/stackwright/CapacityAlternativeNumberedPinLaw -/
def k1 : Class := { plain "com/example/stackwright/stackwright/CapacityAlternativeNumberedPinLaw" (some 0) with
  accessFlags := 49
  interfaces := #[]
  cf := some (fileOf pool1 8 #[] #[{ accessFlags := 2, nameIndex := 5, descriptorIndex := 6, attributes := #[] }, { accessFlags := 10, nameIndex := 11, descriptorIndex := 12, attributes := #[] }, { accessFlags := 9, nameIndex := 37, descriptorIndex := 38, attributes := #[] }] 49 2 #[] #[])
  fields := #[]
  methods := #[k1m0, k1m1, k1m2]
  instanceTypes := #[]
  staticTypes := #[]
  resolved := Array.replicate 41 none
  statics := none }

def pool2 : Array CpInfo := pool [(1, .class_ 2), (0, u "java/io/Serializable"), (0, .class_ 4), (0, u "java/lang/Object")] 2

/-- java/io/Serializable -/
def k2 : Class := { plain "java/io/Serializable" (some 0) with
  accessFlags := 1537
  interfaces := #[]
  cf := some (fileOf pool2 1 #[] #[] 1537 3 #[] #[])
  fields := #[]
  methods := #[]
  instanceTypes := #[]
  staticTypes := #[]
  resolved := Array.replicate 7 none
  statics := none }

def pool3 : Array CpInfo := pool [(1, .class_ 2), (0, u "java/lang/Comparable"), (0, .class_ 4), (0, u "java/lang/Object")] 7

/-- java/lang/Comparable -/
def k3 : Class := { plain "java/lang/Comparable" (some 0) with
  accessFlags := 1537
  interfaces := #[]
  cf := some (fileOf pool3 1 #[] #[] 1537 3 #[] #[])
  fields := #[]
  methods := #[]
  instanceTypes := #[]
  staticTypes := #[]
  resolved := Array.replicate 12 none
  statics := none }

def pool4 : Array CpInfo := pool [(2, .class_ 4), (1, u "java/lang/CharSequence"), (42, .class_ 48), (0, u "java/lang/CharSequence$1CodePointIterator"), (10, .class_ 60), (0, u "java/lang/CharSequence$1CharIterator"), (5, .class_ 67), (0, u "java/lang/Object")] 63

/-- java/lang/CharSequence -/
def k4 : Class := { plain "java/lang/CharSequence" (some 0) with
  accessFlags := 1537
  interfaces := #[]
  cf := some (fileOf pool4 2 #[.nestMembers #[47, 59]] #[] 1537 66 #[] #[])
  fields := #[]
  methods := #[]
  instanceTypes := #[]
  staticTypes := #[]
  resolved := Array.replicate 131 none
  statics := none }

def pool5 : Array CpInfo := pool [(1, .class_ 2), (0, u "java/lang/constant/Constable"), (0, .class_ 4), (0, u "java/lang/Object")] 6

/-- java/lang/constant/Constable -/
def k5 : Class := { plain "java/lang/constant/Constable" (some 0) with
  accessFlags := 1537
  interfaces := #[]
  cf := some (fileOf pool5 1 #[] #[] 1537 3 #[] #[])
  fields := #[]
  methods := #[]
  instanceTypes := #[]
  staticTypes := #[]
  resolved := Array.replicate 11 none
  statics := none }

def pool6 : Array CpInfo := pool [(1, .class_ 2), (0, u "java/lang/constant/ConstantDesc"), (0, .class_ 4), (0, u "java/lang/Object")] 32

/-- java/lang/constant/ConstantDesc -/
def k6 : Class := { plain "java/lang/constant/ConstantDesc" (some 0) with
  accessFlags := 1537
  interfaces := #[]
  cf := some (fileOf pool6 1 #[] #[] 1537 3 #[] #[])
  fields := #[]
  methods := #[]
  instanceTypes := #[]
  staticTypes := #[]
  resolved := Array.replicate 37 none
  statics := none }

def pool7 : Array CpInfo := pool [(1, .methodref 2 3), (0, .class_ 4), (0, .nameAndType 5 6), (0, u "java/lang/Object"), (0, u "<init>"), (0, u "()V"), (0, .string 8), (0, u ""), (0, .fieldref 10 11), (0, .class_ 12), (0, .nameAndType 13 14), (0, u "java/lang/String"), (0, u "value"), (0, u "[B"), (0, .fieldref 10 16), (0, .nameAndType 17 18), (0, u "coder"), (0, u "B"), (2, u "hash"), (0, u "I"), (2, u "hashIsZero"), (0, u "Z"), (0, .methodref 10 28), (0, .nameAndType 5 29), (0, u "([CIILjava/lang/Void;)V"), (8, .fieldref 10 39), (0, .nameAndType 40 26), (0, u "COMPACT_STRINGS"), (1, .class_ 44), (1, u "java/lang/StringUTF16"), (0, u "compress"), (1, .methodref 42 48), (0, .nameAndType 49 50), (0, u "coderFromArrayLen"), (0, u "([BI)B"), (56, .class_ 109), (1, u "java/lang/StringLatin1"), (67, .methodref 42 178), (0, .nameAndType 45 179), (0, u "([CII)[B"), (361, .methodref 107 542), (0, .nameAndType 543 544), (0, u "equals"), (0, u "([B[B)Z"), (28, u "(Ljava/lang/Object;)Z"), (1, .class_ 576), (0, u "java/lang/CharSequence"), (22, u "CASE_INSENSITIVE_ORDER"), (0, u "Ljava/util/Comparator;"), (409, u "([C)V"), (90, u "serialPersistentFields"), (0, u "[Ljava/io/ObjectStreamField;"), (0, .class_ 1104), (0, u "java/lang/String$CaseInsensitiveComparator"), (1, .class_ 1107), (0, u "java/io/Serializable"), (0, .class_ 1109), (0, u "java/lang/Comparable"), (0, .class_ 1111), (0, u "java/lang/constant/Constable"), (0, .class_ 1113), (0, u "java/lang/constant/ConstantDesc"), (2, u "serialVersionUID"), (0, u "J"), (3, u "REPL"), (0, u "C"), (2, u "LATIN1"), (1, u "UTF16")] 323

def k7m0 : Method := { name := "<init>", desc := "()V", sig := { parameters := [], returnType := none }, accessFlags := 1, code := none }
def k7c1 : Code := { maxStack := 5, maxLocals := 2, code := jdk_42_method_3_code, exceptionTable := #[], attributes := #[] }
def k7m1 : Method := { name := "<init>", desc := "([C)V", sig := { parameters := [(.array .char)], returnType := none }, accessFlags := 1, code := some k7c1 }
def k7c2 : Code := { maxStack := 2, maxLocals := 3, code := jdk_42_method_66_code, exceptionTable := #[], attributes := #[] }
def k7m2 : Method := { name := "equals", desc := "(Ljava/lang/Object;)Z", sig := { parameters := [(.object "java/lang/Object")], returnType := some .boolean }, accessFlags := 1, code := some k7c2 }
def k7c3 : Code := { maxStack := 4, maxLocals := 6, code := jdk_42_method_149_code, exceptionTable := #[], attributes := #[] }
def k7m3 : Method := { name := "<init>", desc := "([CIILjava/lang/Void;)V", sig := { parameters := [(.array .char), .int, .int, (.object "java/lang/Void")], returnType := none }, accessFlags := 2, code := some k7c3 }
/-- java/lang/String -/
def k7 : Class := { plain "java/lang/String" (some 0) with
  accessFlags := 49
  interfaces := #[2, 3, 4, 5, 6]
  cf := some (fileOf pool7 10 #[.nestMembers #[1103]] #[{ accessFlags := 1, nameIndex := 5, descriptorIndex := 6, attributes := #[] }, { accessFlags := 1, nameIndex := 5, descriptorIndex := 1010, attributes := #[] }, { accessFlags := 1, nameIndex := 543, descriptorIndex := 573, attributes := #[] }, { accessFlags := 2, nameIndex := 5, descriptorIndex := 29, attributes := #[] }] 49 2 #[1106, 1108, 575, 1110, 1112] #[{ accessFlags := 18, nameIndex := 13, descriptorIndex := 14, attributes := #[] }, { accessFlags := 18, nameIndex := 17, descriptorIndex := 18, attributes := #[] }, { accessFlags := 2, nameIndex := 21, descriptorIndex := 22, attributes := #[] }, { accessFlags := 2, nameIndex := 25, descriptorIndex := 26, attributes := #[] }, { accessFlags := 26, nameIndex := 1116, descriptorIndex := 1117, attributes := #[] }, { accessFlags := 24, nameIndex := 40, descriptorIndex := 26, attributes := #[] }, { accessFlags := 26, nameIndex := 1101, descriptorIndex := 1102, attributes := #[] }, { accessFlags := 26, nameIndex := 1121, descriptorIndex := 1122, attributes := #[] }, { accessFlags := 25, nameIndex := 599, descriptorIndex := 600, attributes := #[] }, { accessFlags := 24, nameIndex := 1125, descriptorIndex := 18, attributes := #[] }, { accessFlags := 24, nameIndex := 1127, descriptorIndex := 18, attributes := #[] }])
  fields := #[{ name := "value", type := (.array .byte), accessFlags := 18, slot := 0, constantValue := 0 }, { name := "coder", type := .byte, accessFlags := 18, slot := 1, constantValue := 0 }, { name := "hash", type := .int, accessFlags := 2, slot := 2, constantValue := 0 }, { name := "hashIsZero", type := .boolean, accessFlags := 2, slot := 3, constantValue := 0 }, { name := "serialVersionUID", type := .long, accessFlags := 26, slot := 0, constantValue := 0 }, { name := "COMPACT_STRINGS", type := .boolean, accessFlags := 24, slot := 1, constantValue := 0 }, { name := "serialPersistentFields", type := (.array (.object "java/io/ObjectStreamField")), accessFlags := 26, slot := 2, constantValue := 0 }, { name := "REPL", type := .char, accessFlags := 26, slot := 3, constantValue := 0 }, { name := "CASE_INSENSITIVE_ORDER", type := (.object "java/util/Comparator"), accessFlags := 25, slot := 4, constantValue := 0 }, { name := "LATIN1", type := .byte, accessFlags := 24, slot := 5, constantValue := 0 }, { name := "UTF16", type := .byte, accessFlags := 24, slot := 6, constantValue := 0 }]
  methods := #[k7m0, k7m1, k7m2, k7m3]
  instanceTypes := #[(.array .byte), .byte, .int, .boolean]
  staticTypes := #[.long, .boolean, (.array (.object "java/io/ObjectStreamField")), .char, (.object "java/util/Comparator"), .byte, .byte]
  resolved := Array.replicate 1451 none
  statics := some 0 }

def pool8 : Array CpInfo := pool [(2, .class_ 4), (1, u "java/lang/Enum"), (0, u "name"), (0, u "Ljava/lang/String;"), (2, u "ordinal"), (0, u "I"), (1, .class_ 14), (1, u "java/lang/Object"), (4, u "hash"), (86, .class_ 108), (1, u "java/lang/Enum$EnumDesc"), (2, .class_ 112), (0, u "java/lang/constant/Constable"), (0, .class_ 114), (0, u "java/lang/Comparable"), (0, .class_ 116), (0, u "java/io/Serializable")] 87

/-- java/lang/Enum -/
def k8 : Class := { plain "java/lang/Enum" (some 0) with
  accessFlags := 1057
  interfaces := #[5, 3, 2]
  cf := some (fileOf pool8 2 #[.nestMembers #[106]] #[] 1057 12 #[111, 113, 115] #[{ accessFlags := 18, nameIndex := 5, descriptorIndex := 6, attributes := #[] }, { accessFlags := 18, nameIndex := 9, descriptorIndex := 10, attributes := #[] }, { accessFlags := 2, nameIndex := 19, descriptorIndex := 10, attributes := #[] }])
  fields := #[{ name := "name", type := (.object "java/lang/String"), accessFlags := 18, slot := 0, constantValue := 0 }, { name := "ordinal", type := .int, accessFlags := 18, slot := 1, constantValue := 0 }, { name := "hash", type := .int, accessFlags := 2, slot := 2, constantValue := 0 }]
  methods := #[]
  instanceTypes := #[(.object "java/lang/String"), .int, .int]
  staticTypes := #[]
  resolved := Array.replicate 204 none
  statics := none }

def pool9 : Array CpInfo := pool [(1, .class_ 2), (0, u "com/example/stackwright/stackwright/CapacityAlternative"), (2, u "ALL_EXPORT"), (0, u "Lcom/example/stackwright/stackwright/CapacityAlternative;"), (2, u "SUMMER_WINDOW"), (2, u "SYSTEM_PEAK"), (0, .fieldref 1 14), (0, .nameAndType 15 16), (0, u "$VALUES"), (0, u "[Lcom/example/stackwright/stackwright/CapacityAlternative;"), (0, .methodref 18 19), (0, .class_ 16), (0, .nameAndType 20 21), (0, u "clone"), (0, u "()Ljava/lang/Object;"), (1, .class_ 25), (1, u "java/lang/Enum"), (6, .fieldref 1 33), (0, .nameAndType 34 35), (0, u "number"), (0, u "Ljava/lang/String;"), (0, .methodref 1 37), (0, .nameAndType 38 39), (0, u "values"), (0, u "()[Lcom/example/stackwright/stackwright/CapacityAlternative;"), (0, .invokeDynamic 0 41), (0, .nameAndType 42 43), (0, u "apply"), (0, u "()Ljava/util/function/Function;"), (0, .methodref 45 46), (0, .class_ 47), (0, .nameAndType 48 49), (0, u "com/example/stackwright/stackwright/CsvNames"), (0, u "named"), (0, u "([Ljava/lang/Object;Ljava/util/function/Function;Ljava/lang/String;)Ljava/lang/Object;"), (17, u "(Ljava/lang/String;)Lcom/example/stackwright/stackwright/CapacityAlternative;"), (3, u "()Ljava/lang/String;"), (0, u "numbered"), (6, .methodType 80), (0, u "(Ljava/lang/Object;)Ljava/lang/Object;"), (0, .methodHandle 5 82), (0, .methodref 1 83), (0, .nameAndType 34 71), (0, .methodType 85), (0, u "(Lcom/example/stackwright/stackwright/CapacityAlternative;)Ljava/lang/String;"), (0, .methodHandle 6 87), (0, .methodref 88 89), (0, .class_ 90), (0, .nameAndType 91 92), (0, u "java/lang/invoke/LambdaMetafactory"), (0, u "metafactory"), (0, u "(Ljava/lang/invoke/MethodHandles$Lookup;Ljava/lang/String;Ljava/lang/invoke/MethodType;Ljava/lang/invoke/MethodType;Ljava/lang/invoke/MethodHandle;Ljava/lang/invoke/MethodType;)Ljava/lang/invoke/CallSite;")] 6

def k9c0 : Code := { maxStack := 1, maxLocals := 0, code := prog_3_method_1_code, exceptionTable := #[], attributes := #[] }
def k9m0 : Method := { name := "values", desc := "()[Lcom/example/stackwright/stackwright/CapacityAlternative;", sig := { parameters := [], returnType := some (.array (.object "com/example/stackwright/stackwright/CapacityAlternative")) }, accessFlags := 9, code := some k9c0 }
def k9c1 : Code := { maxStack := 1, maxLocals := 1, code := prog_3_method_4_code, exceptionTable := #[], attributes := #[] }
def k9m1 : Method := { name := "number", desc := "()Ljava/lang/String;", sig := { parameters := [], returnType := some (.object "java/lang/String") }, accessFlags := 0, code := some k9c1 }
def k9c2 : Code := { maxStack := 3, maxLocals := 1, code := prog_3_method_5_code, exceptionTable := #[], attributes := #[] }
def k9m2 : Method := { name := "numbered", desc := "(Ljava/lang/String;)Lcom/example/stackwright/stackwright/CapacityAlternative;", sig := { parameters := [(.object "java/lang/String")], returnType := some (.object "com/example/stackwright/stackwright/CapacityAlternative") }, accessFlags := 8, code := some k9c2 }
/-- com/example/stackwright/stackwright/CapacityAlternative -/
def k9 : Class := { plain "com/example/stackwright/stackwright/CapacityAlternative" (some 8) with
  accessFlags := 16432
  interfaces := #[]
  cf := some (fileOf pool9 1 #[.bootstrapMethods #[⟨86, #[79, 81, 84]⟩]] #[{ accessFlags := 9, nameIndex := 38, descriptorIndex := 39, attributes := #[] }, { accessFlags := 0, nameIndex := 34, descriptorIndex := 71, attributes := #[] }, { accessFlags := 8, nameIndex := 72, descriptorIndex := 67, attributes := #[] }] 16432 23 #[] #[{ accessFlags := 16409, nameIndex := 5, descriptorIndex := 6, attributes := #[] }, { accessFlags := 16409, nameIndex := 9, descriptorIndex := 6, attributes := #[] }, { accessFlags := 16409, nameIndex := 12, descriptorIndex := 6, attributes := #[] }, { accessFlags := 18, nameIndex := 34, descriptorIndex := 35, attributes := #[] }, { accessFlags := 4122, nameIndex := 15, descriptorIndex := 16, attributes := #[] }])
  fields := #[{ name := "ALL_EXPORT", type := (.object "com/example/stackwright/stackwright/CapacityAlternative"), accessFlags := 16409, slot := 0, constantValue := 0 }, { name := "SUMMER_WINDOW", type := (.object "com/example/stackwright/stackwright/CapacityAlternative"), accessFlags := 16409, slot := 1, constantValue := 0 }, { name := "SYSTEM_PEAK", type := (.object "com/example/stackwright/stackwright/CapacityAlternative"), accessFlags := 16409, slot := 2, constantValue := 0 }, { name := "number", type := (.object "java/lang/String"), accessFlags := 18, slot := 3, constantValue := 0 }, { name := "$VALUES", type := (.array (.object "com/example/stackwright/stackwright/CapacityAlternative")), accessFlags := 4122, slot := 3, constantValue := 0 }]
  methods := #[k9m0, k9m1, k9m2]
  instanceTypes := #[(.object "java/lang/String"), .int, .int, (.object "java/lang/String")]
  staticTypes := #[(.object "com/example/stackwright/stackwright/CapacityAlternative"), (.object "com/example/stackwright/stackwright/CapacityAlternative"), (.object "com/example/stackwright/stackwright/CapacityAlternative"), (.array (.object "com/example/stackwright/stackwright/CapacityAlternative"))]
  resolved := Array.replicate 99 none
  callSites := [(2, 3, .constant 3)]
  statics := some 1 }

def pool10 : Array CpInfo := pool [(1, .class_ 2), (0, u "java/lang/Cloneable"), (0, .class_ 4), (0, u "java/lang/Object")] 2

/-- java/lang/Cloneable -/
def k10 : Class := { plain "java/lang/Cloneable" (some 0) with
  accessFlags := 1537
  interfaces := #[]
  cf := some (fileOf pool10 1 #[] #[] 1537 3 #[] #[])
  fields := #[]
  methods := #[]
  instanceTypes := #[]
  staticTypes := #[]
  resolved := Array.replicate 7 none
  statics := none }

def pool11 : Array CpInfo := pool [(6, u "(Ljava/lang/Object;)Ljava/lang/Object;"), (2, u "apply"), (6, .class_ 18), (1, u "java/util/function/Function"), (0, .class_ 20), (0, u "java/lang/Object")] 56

def k11m0 : Method := { name := "apply", desc := "(Ljava/lang/Object;)Ljava/lang/Object;", sig := { parameters := [(.object "java/lang/Object")], returnType := some (.object "java/lang/Object") }, accessFlags := 1025, code := none }
/-- java/util/function/Function -/
def k11 : Class := { plain "java/util/function/Function" (some 0) with
  accessFlags := 1537
  interfaces := #[]
  cf := some (fileOf pool11 16 #[] #[{ accessFlags := 1025, nameIndex := 9, descriptorIndex := 6, attributes := #[] }] 1537 19 #[] #[])
  fields := #[]
  methods := #[k11m0]
  instanceTypes := #[]
  staticTypes := #[]
  resolved := Array.replicate 77 none
  statics := none }

def pool12 : Array CpInfo := pool [(2, .class_ 4), (1, u "java/lang/Object"), (0, u "<init>"), (0, u "()V"), (1, .class_ 10), (1, u "com/example/stackwright/stackwright/CsvNames"), (0, u "named"), (0, u "([Ljava/lang/Object;Ljava/util/function/Function;Ljava/lang/String;)Ljava/lang/Object;"), (24, .class_ 38), (0, u "java/lang/String"), (9, .interfaceMethodref 49 50), (0, .class_ 51), (0, .nameAndType 52 53), (0, u "java/util/function/Function"), (0, u "apply"), (0, u "(Ljava/lang/Object;)Ljava/lang/Object;"), (0, .methodref 37 55), (0, .nameAndType 56 57), (0, u "equals"), (0, u "(Ljava/lang/Object;)Z")] 27

def k12m0 : Method := { name := "<init>", desc := "()V", sig := { parameters := [], returnType := none }, accessFlags := 2, code := none }
def k12c1 : Code := { maxStack := 2, maxLocals := 7, code := prog_20_method_3_code, exceptionTable := #[], attributes := #[] }
def k12m1 : Method := { name := "named", desc := "([Ljava/lang/Object;Ljava/util/function/Function;Ljava/lang/String;)Ljava/lang/Object;", sig := { parameters := [(.array (.object "java/lang/Object")), (.object "java/util/function/Function"), (.object "java/lang/String")], returnType := some (.object "java/lang/Object") }, accessFlags := 8, code := some k12c1 }
/-- com/example/stackwright/stackwright/CsvNames -/
def k12 : Class := { plain "com/example/stackwright/stackwright/CsvNames" (some 0) with
  accessFlags := 32
  interfaces := #[]
  cf := some (fileOf pool12 8 #[] #[{ accessFlags := 2, nameIndex := 5, descriptorIndex := 6, attributes := #[] }, { accessFlags := 8, nameIndex := 11, descriptorIndex := 12, attributes := #[] }] 32 2 #[] #[])
  fields := #[]
  methods := #[k12m0, k12m1]
  instanceTypes := #[]
  staticTypes := #[]
  resolved := Array.replicate 85 none
  statics := none }

def pool13 : Array CpInfo := pool [(4, .class_ 6), (1, u "java/lang/Object"), (0, u "<init>"), (0, u "()V"), (5, .class_ 16), (1, u "java/lang/StringLatin1"), (104, u "$assertionsDisabled"), (0, u "Z"), (98, .class_ 223), (1, u "java/lang/StringLatin1$LinesSpliterator"), (57, u "equals"), (0, u "([B[B)Z"), (107, .class_ 391), (0, u "java/lang/StringLatin1$CharsSpliterator")] 3

def k13m0 : Method := { name := "<init>", desc := "()V", sig := { parameters := [], returnType := none }, accessFlags := 0, code := none }
def k13c1 : Code := { maxStack := 3, maxLocals := 3, code := jdk_43_method_13_code, exceptionTable := #[], attributes := #[] }
def k13m1 : Method := { name := "equals", desc := "([B[B)Z", sig := { parameters := [(.array .byte), (.array .byte)], returnType := some .boolean }, accessFlags := 9, code := some k13c1 }
/-- java/lang/StringLatin1 -/
def k13 : Class := { plain "java/lang/StringLatin1" (some 0) with
  accessFlags := 48
  interfaces := #[]
  cf := some (fileOf pool13 14 #[.nestMembers #[390, 221]] #[{ accessFlags := 0, nameIndex := 7, descriptorIndex := 8, attributes := #[] }, { accessFlags := 9, nameIndex := 281, descriptorIndex := 282, attributes := #[] }] 48 4 #[] #[{ accessFlags := 4120, nameIndex := 121, descriptorIndex := 122, attributes := #[] }])
  fields := #[{ name := "$assertionsDisabled", type := .boolean, accessFlags := 4120, slot := 0, constantValue := 0 }]
  methods := #[k13m0, k13m1]
  instanceTypes := #[]
  staticTypes := #[.boolean]
  resolved := Array.replicate 395 none
  statics := none }

def pool14 : Array CpInfo := pool [(6, .class_ 8), (1, u "java/lang/Object"), (0, u "<init>"), (0, u "()V"), (1, .class_ 14), (1, u "java/lang/StringUTF16"), (31, u "$assertionsDisabled"), (0, u "Z"), (13, u "HI_BYTE_SHIFT"), (0, u "I"), (2, u "LO_BYTE_SHIFT"), (49, .methodref 12 116), (0, .nameAndType 117 118), (0, u "compress"), (0, u "([CI[BII)I"), (3, u "([CII)[B"), (138, u "coderFromArrayLen"), (0, u "([BI)B"), (106, .class_ 371), (1, u "java/lang/StringUTF16$LinesSpliterator"), (58, u "MAX_LENGTH"), (196, .class_ 628), (0, u "java/lang/StringUTF16$CodePointsSpliterator"), (0, .class_ 630), (0, u "java/lang/StringUTF16$CharsSpliterator")] 4

def k14m0 : Method := { name := "<init>", desc := "()V", sig := { parameters := [], returnType := none }, accessFlags := 0, code := none }
def k14c1 : Code := { maxStack := 2, maxLocals := 2, code := jdk_52_method_15_code, exceptionTable := #[], attributes := #[] }
def k14m1 : Method := { name := "coderFromArrayLen", desc := "([BI)B", sig := { parameters := [(.array .byte), .int], returnType := some .byte }, accessFlags := 8, code := some k14c1 }
def k14c2 : Code := { maxStack := 5, maxLocals := 6, code := jdk_52_method_16_code, exceptionTable := #[], attributes := #[] }
def k14m2 : Method := { name := "compress", desc := "([CII)[B", sig := { parameters := [(.array .char), .int, .int], returnType := some (.array .byte) }, accessFlags := 9, code := some k14c2 }
def k14c3 : Code := { maxStack := 3, maxLocals := 7, code := jdk_52_method_21_code, exceptionTable := #[], attributes := #[] }
def k14m3 : Method := { name := "compress", desc := "([CI[BII)I", sig := { parameters := [(.array .char), .int, (.array .byte), .int, .int], returnType := some .int }, accessFlags := 9, code := some k14c3 }
/-- java/lang/StringUTF16 -/
def k14 : Class := { plain "java/lang/StringUTF16" (some 0) with
  accessFlags := 48
  interfaces := #[]
  cf := some (fileOf pool14 12 #[.nestMembers #[627, 629, 369]] #[{ accessFlags := 0, nameIndex := 9, descriptorIndex := 10, attributes := #[] }, { accessFlags := 8, nameIndex := 261, descriptorIndex := 262, attributes := #[] }, { accessFlags := 9, nameIndex := 117, descriptorIndex := 122, attributes := #[] }, { accessFlags := 9, nameIndex := 117, descriptorIndex := 118, attributes := #[] }] 48 6 #[] #[{ accessFlags := 26, nameIndex := 61, descriptorIndex := 62, attributes := #[] }, { accessFlags := 26, nameIndex := 65, descriptorIndex := 62, attributes := #[] }, { accessFlags := 24, nameIndex := 430, descriptorIndex := 62, attributes := #[] }, { accessFlags := 4120, nameIndex := 46, descriptorIndex := 47, attributes := #[] }])
  fields := #[{ name := "HI_BYTE_SHIFT", type := .int, accessFlags := 26, slot := 0, constantValue := 0 }, { name := "LO_BYTE_SHIFT", type := .int, accessFlags := 26, slot := 1, constantValue := 0 }, { name := "MAX_LENGTH", type := .int, accessFlags := 24, slot := 2, constantValue := 0 }, { name := "$assertionsDisabled", type := .boolean, accessFlags := 4120, slot := 3, constantValue := 0 }]
  methods := #[k14m0, k14m1, k14m2, k14m3]
  instanceTypes := #[]
  staticTypes := #[.int, .int, .int, .boolean]
  resolved := Array.replicate 635 none
  statics := none }

def pool15 : Array CpInfo := pool [(2, .class_ 4), (1, u "java/lang/Object"), (0, u "<init>"), (0, u "()V"), (17, .class_ 26), (1, u "jdk/internal/util/Preconditions"), (28, .class_ 56), (0, u "jdk/internal/util/Preconditions$4"), (57, .class_ 115), (0, u "jdk/internal/util/Preconditions$1"), (7, u "SIOOBE_FORMATTER"), (0, u "Ljava/util/function/BiFunction;"), (0, .class_ 126), (0, u "jdk/internal/util/Preconditions$2"), (3, u "AIOOBE_FORMATTER"), (0, .class_ 132), (0, u "jdk/internal/util/Preconditions$3"), (3, u "IOOBE_FORMATTER")] 57

def k15m0 : Method := { name := "<init>", desc := "()V", sig := { parameters := [], returnType := none }, accessFlags := 1, code := none }
/-- jdk/internal/util/Preconditions -/
def k15 : Class := { plain "jdk/internal/util/Preconditions" (some 0) with
  accessFlags := 33
  interfaces := #[]
  cf := some (fileOf pool15 24 #[.nestMembers #[55, 131, 125, 114]] #[{ accessFlags := 1, nameIndex := 5, descriptorIndex := 6, attributes := #[] }] 33 2 #[] #[{ accessFlags := 25, nameIndex := 123, descriptorIndex := 124, attributes := #[] }, { accessFlags := 25, nameIndex := 130, descriptorIndex := 124, attributes := #[] }, { accessFlags := 25, nameIndex := 136, descriptorIndex := 124, attributes := #[] }])
  fields := #[{ name := "SIOOBE_FORMATTER", type := (.object "java/util/function/BiFunction"), accessFlags := 25, slot := 0, constantValue := 0 }, { name := "AIOOBE_FORMATTER", type := (.object "java/util/function/BiFunction"), accessFlags := 25, slot := 1, constantValue := 0 }, { name := "IOOBE_FORMATTER", type := (.object "java/util/function/BiFunction"), accessFlags := 25, slot := 2, constantValue := 0 }]
  methods := #[k15m0]
  instanceTypes := #[]
  staticTypes := #[(.object "java/util/function/BiFunction"), (.object "java/util/function/BiFunction"), (.object "java/util/function/BiFunction")]
  resolved := Array.replicate 194 none
  statics := some 2 }

def pool16 : Array CpInfo := pool [(9, u "<init>"), (6, .class_ 18), (1, u "java/lang/Object"), (0, u "()V"), (1, .class_ 23), (1, u "jdk/internal/util/ArraysSupport"), (0, u "LOG2_ARRAY_LONG_INDEX_SCALE"), (0, u "I"), (2, u "U"), (0, u "Ljdk/internal/misc/Unsafe;"), (8, u "BIG_ENDIAN"), (0, u "Z"), (8, u "LOG2_BYTE_BIT_SIZE"), (4, u "LOG2_ARRAY_INT_INDEX_SCALE"), (54, u "JLA"), (0, u "Ljdk/internal/access/JavaLangAccess;"), (11, u "LOG2_ARRAY_BOOLEAN_INDEX_SCALE"), (9, u "LOG2_ARRAY_BYTE_INDEX_SCALE"), (5, u "LOG2_ARRAY_CHAR_INDEX_SCALE"), (5, u "LOG2_ARRAY_SHORT_INDEX_SCALE"), (18, u "LOG2_ARRAY_FLOAT_INDEX_SCALE"), (24, u "LOG2_ARRAY_DOUBLE_INDEX_SCALE"), (89, u "T_BOOLEAN"), (2, u "T_CHAR"), (1, u "T_FLOAT"), (1, u "T_DOUBLE"), (1, u "T_BYTE"), (1, u "T_SHORT"), (1, u "T_INT"), (1, u "T_LONG"), (1, u "SOFT_MAX_ARRAY_LENGTH")] 83

def k16m0 : Method := { name := "<init>", desc := "()V", sig := { parameters := [], returnType := none }, accessFlags := 2, code := none }
/-- jdk/internal/util/ArraysSupport -/
def k16 : Class := { plain "jdk/internal/util/ArraysSupport" (some 0) with
  accessFlags := 33
  interfaces := #[]
  cf := some (fileOf pool16 21 #[] #[{ accessFlags := 2, nameIndex := 9, descriptorIndex := 19, attributes := #[] }] 33 16 #[] #[{ accessFlags := 24, nameIndex := 28, descriptorIndex := 29, attributes := #[] }, { accessFlags := 26, nameIndex := 38, descriptorIndex := 39, attributes := #[] }, { accessFlags := 25, nameIndex := 121, descriptorIndex := 25, attributes := #[] }, { accessFlags := 25, nameIndex := 131, descriptorIndex := 25, attributes := #[] }, { accessFlags := 25, nameIndex := 137, descriptorIndex := 25, attributes := #[] }, { accessFlags := 25, nameIndex := 143, descriptorIndex := 25, attributes := #[] }, { accessFlags := 25, nameIndex := 53, descriptorIndex := 25, attributes := #[] }, { accessFlags := 25, nameIndex := 24, descriptorIndex := 25, attributes := #[] }, { accessFlags := 25, nameIndex := 162, descriptorIndex := 25, attributes := #[] }, { accessFlags := 25, nameIndex := 187, descriptorIndex := 25, attributes := #[] }, { accessFlags := 26, nameIndex := 48, descriptorIndex := 25, attributes := #[] }, { accessFlags := 25, nameIndex := 277, descriptorIndex := 25, attributes := #[] }, { accessFlags := 25, nameIndex := 280, descriptorIndex := 25, attributes := #[] }, { accessFlags := 25, nameIndex := 282, descriptorIndex := 25, attributes := #[] }, { accessFlags := 25, nameIndex := 284, descriptorIndex := 25, attributes := #[] }, { accessFlags := 25, nameIndex := 286, descriptorIndex := 25, attributes := #[] }, { accessFlags := 25, nameIndex := 288, descriptorIndex := 25, attributes := #[] }, { accessFlags := 25, nameIndex := 290, descriptorIndex := 25, attributes := #[] }, { accessFlags := 25, nameIndex := 292, descriptorIndex := 25, attributes := #[] }, { accessFlags := 26, nameIndex := 108, descriptorIndex := 109, attributes := #[] }, { accessFlags := 25, nameIndex := 294, descriptorIndex := 25, attributes := #[] }])
  fields := #[{ name := "U", type := (.object "jdk/internal/misc/Unsafe"), accessFlags := 24, slot := 0, constantValue := 0 }, { name := "BIG_ENDIAN", type := .boolean, accessFlags := 26, slot := 1, constantValue := 0 }, { name := "LOG2_ARRAY_BOOLEAN_INDEX_SCALE", type := .int, accessFlags := 25, slot := 2, constantValue := 0 }, { name := "LOG2_ARRAY_BYTE_INDEX_SCALE", type := .int, accessFlags := 25, slot := 3, constantValue := 0 }, { name := "LOG2_ARRAY_CHAR_INDEX_SCALE", type := .int, accessFlags := 25, slot := 4, constantValue := 0 }, { name := "LOG2_ARRAY_SHORT_INDEX_SCALE", type := .int, accessFlags := 25, slot := 5, constantValue := 0 }, { name := "LOG2_ARRAY_INT_INDEX_SCALE", type := .int, accessFlags := 25, slot := 6, constantValue := 0 }, { name := "LOG2_ARRAY_LONG_INDEX_SCALE", type := .int, accessFlags := 25, slot := 7, constantValue := 0 }, { name := "LOG2_ARRAY_FLOAT_INDEX_SCALE", type := .int, accessFlags := 25, slot := 8, constantValue := 0 }, { name := "LOG2_ARRAY_DOUBLE_INDEX_SCALE", type := .int, accessFlags := 25, slot := 9, constantValue := 0 }, { name := "LOG2_BYTE_BIT_SIZE", type := .int, accessFlags := 26, slot := 10, constantValue := 0 }, { name := "T_BOOLEAN", type := .int, accessFlags := 25, slot := 11, constantValue := 0 }, { name := "T_CHAR", type := .int, accessFlags := 25, slot := 12, constantValue := 0 }, { name := "T_FLOAT", type := .int, accessFlags := 25, slot := 13, constantValue := 0 }, { name := "T_DOUBLE", type := .int, accessFlags := 25, slot := 14, constantValue := 0 }, { name := "T_BYTE", type := .int, accessFlags := 25, slot := 15, constantValue := 0 }, { name := "T_SHORT", type := .int, accessFlags := 25, slot := 16, constantValue := 0 }, { name := "T_INT", type := .int, accessFlags := 25, slot := 17, constantValue := 0 }, { name := "T_LONG", type := .int, accessFlags := 25, slot := 18, constantValue := 0 }, { name := "JLA", type := (.object "jdk/internal/access/JavaLangAccess"), accessFlags := 26, slot := 19, constantValue := 0 }, { name := "SOFT_MAX_ARRAY_LENGTH", type := .int, accessFlags := 25, slot := 20, constantValue := 0 }]
  methods := #[k16m0]
  instanceTypes := #[]
  staticTypes := #[(.object "jdk/internal/misc/Unsafe"), .boolean, .int, .int, .int, .int, .int, .int, .int, .int, .int, .int, .int, .int, .int, .int, .int, .int, .int, (.object "jdk/internal/access/JavaLangAccess"), .int]
  resolved := Array.replicate 378 none
  statics := none }

/-- the primitive byte -/
def k17 : Class := { plain "byte" none with kind := .primitive 'B', accessFlags := 0x411 }
/-- [B -/
def k18 : Class := { plain "[B" (some 0) with kind := .array 17 .byte, interfaces := #[10, 2], accessFlags := 1041 }

/-- the primitive char -/
def k19 : Class := { plain "char" none with kind := .primitive 'C', accessFlags := 0x411 }
/-- [C -/
def k20 : Class := { plain "[C" (some 0) with kind := .array 19 .char, interfaces := #[10, 2], accessFlags := 1041 }

/-- the primitive int -/
def k21 : Class := { plain "int" none with kind := .primitive 'I', accessFlags := 0x411 }
/-- [I -/
def k22 : Class := { plain "[I" (some 0) with kind := .array 21 .int, interfaces := #[10, 2], accessFlags := 1041 }

/-- [Lcom/example/stackwright/stackwright/CapacityAlternative; -/
def k23 : Class := { plain "[Lcom/example/stackwright/stackwright/CapacityAlternative;" (some 0) with kind := .array 9 (.object "com/example/stackwright/stackwright/CapacityAlternative"), interfaces := #[10, 2], accessFlags := 1041 }

def classes0 : Array Class := #[k0, k1, k2, k3, k4, k5, k6, k7, k8, k9, k10, k11, k12, k13, k14, k15, k16, k17, k18, k19, k20, k21, k22, k23]
/-- the class that the rule has made for the site at 3 of com/example/stackwright/stackwright/CapacityAlternative.numbered -/
def k24 : Class := Jvm.LamKit.madeRec { classes := classes0 } "com/example/stackwright/stackwright/CapacityAlternative" (Jvm.Lambda.Shape.mk "java/util/function/Function" "apply" (Jvm.ClassFile.MethodDescriptor.mk ([(Jvm.ClassFile.FieldType.object "java/lang/Object")] : List Jvm.ClassFile.FieldType) (Option.some (Jvm.ClassFile.FieldType.object "java/lang/Object"))) ([] : List Jvm.ClassFile.FieldType) (5 : Nat) "com/example/stackwright/stackwright/CapacityAlternative" "number" (Jvm.ClassFile.MethodDescriptor.mk ([] : List Jvm.ClassFile.FieldType) (Option.some (Jvm.ClassFile.FieldType.object "java/lang/String"))) false (Jvm.ClassFile.MethodDescriptor.mk ([(Jvm.ClassFile.FieldType.object "com/example/stackwright/stackwright/CapacityAlternative")] : List Jvm.ClassFile.FieldType) (Option.some (Jvm.ClassFile.FieldType.object "java/lang/String")))) 24

def heap : Heap := #[{ cls := 7, slots := #[.long 0, .int 1, .null, .int 0, .null, .int 0, .int 0], vm := .statics 7 },
  { cls := 9, slots := #[.ref 5, .ref 6, .ref 7, .ref 4], vm := .statics 9 },
  { cls := 15, slots := #[.null, .null, .null], vm := .statics 15 },
  { cls := 24, slots := #[], vm := .none },
  { cls := 23, slots := #[.ref 5, .ref 6, .ref 7], vm := .none },
  { cls := 9, slots := #[.null, .int 0, .int 0, .ref 8], vm := .none },
  { cls := 9, slots := #[.null, .int 1, .int 0, .ref 9], vm := .none },
  { cls := 9, slots := #[.null, .int 2, .int 0, .ref 10], vm := .none },
  { cls := 7, slots := #[.ref 11, .int 0, .int 0, .int 0], vm := .none },
  { cls := 7, slots := #[.ref 12, .int 0, .int 0, .int 0], vm := .none },
  { cls := 7, slots := #[.ref 13, .int 0, .int 0, .int 0], vm := .none },
  { cls := 18, slots := #[.int 49], vm := .none },
  { cls := 18, slots := #[.int 50], vm := .none },
  { cls := 18, slots := #[.int 51], vm := .none }]
def classes : Array Class := #[k0, k1, k2, k3, k4, k5, k6, k7, k8, k9, k10, k11, k12, k13, k14, k15, k16, k17, k18, k19, k20, k21, k22, k23, k24]
def interned : List (Array UInt16 × Addr) := []
def slotsUsed : Nat := 44
def theMethod : MethodId := ⟨1, 2⟩
def args0 : Array Value := #[.int 1, .int 3, .int 4, .int 5]
def aboutOver (below : List Frame) : State where
  vm := { classes := classes, interned := interned.toArray }
  heap := heap
  slotsUsed := slotsUsed
  threads := #[{ frames := .invoking theMethod args0 :: below }]
def below0 : List Frame := [.native { method := ⟨0, 0⟩, args := #[] }]
def about1 : State := aboutOver below0
def p0 : Program := .bare "" "" ""
def e0 : Env := launch0.env 0 0 0
theorem w_frames : about1.frames = Frame.invoking theMethod args0 :: below0 := rfl
set_option maxRecDepth 65536 in
theorem w_args : argsFit about1.vm theMethod args0 = true := by decide +kernel
set_option maxRecDepth 65536 in
theorem w_heap : heapFits about1 = true := by decide +kernel
set_option maxRecDepth 65536 in
theorem w_runnable : about1.curStatus? = some .runnable := by decide +kernel
set_option maxRecDepth 65536 in
theorem w_alone : about1.alone = true := by decide +kernel
set_option maxRecDepth 65536 in
theorem w_named : about1.methodNamed? x = some theMethod := by decide +kernel
set_option maxRecDepth 65536 in
theorem w_hears : about1.hears theMethod below0 = true := by decide +kernel
set_option maxRecDepth 65536 in
theorem w_ripe : about1.ripe theMethod args0 below0 = true := by decide +kernel
theorem w_running : about1.status = .running := rfl
set_option maxRecDepth 65536 in
theorem w_room : about1.hasRoom e0.platform room_1 = true :=
  launch0.hasRoom_least _ room_1 (by decide +kernel) (by decide +kernel) (by decide +kernel) (by decide +kernel) (by decide +kernel) (by decide +kernel)
theorem allAtoms_all (ts : List Jvm.Cond) (a : Array Jvm.Value) (st : Jvm.State) : (allAtoms ts).before a st = ts.all (fun c => c.before a st) := by
  induction ts with
  | nil => rfl
  | cons c t ih =>
    show (Jvm.Cond.and c (allAtoms t)).before a st = _
    rw [Jvm.Cond.before_and, ih, List.all_cons]
def words1 : List Jvm.Cond := Jvm.Cond.code x code maxLocals ret :: tables_1
/-- a 'code' word, met by the world's own term for the bytes: nothing is compared byte by byte -/
theorem code_word {y : MethodName} {bytes : ByteArray} {mx : Nat} {rt : Option FieldType} {a : Array Value} {s : State} {m : MethodId} {meth : Method} {c : Code} (h1 : s.methodNamed? y = some m) (h2 : s.vm.method? m = some meth) (h3 : meth.code = some c) (h4 : c.code = bytes)
    (h5 : (c.maxLocals == mx && c.exceptionTable.isEmpty && decide (c.maxStack ≤ mostOperands) && decide (meth.sig.returnType = rt) && !meth.locks && decide (parseMethodDescriptor y.desc = some meth.sig)) = true) : (Jvm.Cond.code y bytes mx rt).before a s = true := by
  simp only [Bool.and_eq_true, beq_iff_eq, Bool.not_eq_true', decide_eq_true_eq] at h5
  obtain ⟨⟨⟨⟨⟨g1, g2⟩, g3⟩, g4⟩, g5⟩, g6⟩ := h5
  simp [Cond.before, Cond.holds, Cond.value, h1, h2, h3, h4, g1, g2, g3, g4, g5, g6]
def isCode : Jvm.Cond → Bool
  | .code _ _ _ _ => true
  | _ => false
theorem all_split {L : List Jvm.Cond} {P : Jvm.Cond → Bool} (h1 : L.all (fun c => isCode c || P c) = true) (h2 : ∀ c ∈ L.filter isCode, P c = true) : L.all P = true := by
  refine List.all_eq_true.mpr fun c hc => ?_
  have h := List.all_eq_true.mp h1 c hc
  rcases Bool.eq_false_or_eq_true (isCode c) with hi | hi
  · exact h2 c (List.mem_filter.mpr ⟨hc, hi⟩)
  · simpa [hi] using h
set_option maxRecDepth 65536 in
theorem w_c0 : (Jvm.Cond.code x code maxLocals ret).before args0 about1 = true := code_word (m := ⟨1, 2⟩) (meth := k1m2) (c := k1c2) (by decide +kernel) rfl rfl rfl (by decide +kernel)
set_option maxRecDepth 65536 in
theorem w_c1 : (Jvm.Cond.code ({ cls := "com/example/stackwright/stackwright/CapacityAlternativeNumberedPinLaw", name := "draw", desc := "(I)C" } : Jvm.MethodName) method_2_code (1 : Nat) (Option.some Jvm.ClassFile.FieldType.char)).before args0 about1 = true := code_word (m := ⟨1, 1⟩) (meth := k1m1) (c := k1c1) (by decide +kernel) rfl rfl rfl (by decide +kernel)
set_option maxRecDepth 65536 in
theorem w_c2 : (Jvm.Cond.code ({ cls := "java/lang/String", name := "<init>", desc := "([C)V" } : Jvm.MethodName) jdk_42_method_3_code (2 : Nat) (Option.none : Option Jvm.ClassFile.FieldType)).before args0 about1 = true := code_word (m := ⟨7, 1⟩) (meth := k7m1) (c := k7c1) (by decide +kernel) rfl rfl rfl (by decide +kernel)
set_option maxRecDepth 65536 in
theorem w_c3 : (Jvm.Cond.code ({ cls := "java/lang/String", name := "<init>", desc := "([CIILjava/lang/Void;)V" } : Jvm.MethodName) jdk_42_method_149_code (6 : Nat) (Option.none : Option Jvm.ClassFile.FieldType)).before args0 about1 = true := code_word (m := ⟨7, 3⟩) (meth := k7m3) (c := k7c3) (by decide +kernel) rfl rfl rfl (by decide +kernel)
set_option maxRecDepth 65536 in
theorem w_c4 : (Jvm.Cond.code ({ cls := "java/lang/Object", name := "<init>", desc := "()V" } : Jvm.MethodName) object_method_1_code (1 : Nat) (Option.none : Option Jvm.ClassFile.FieldType)).before args0 about1 = true := code_word (m := ⟨0, 0⟩) (meth := k0m0) (c := k0c0) (by decide +kernel) rfl rfl rfl (by decide +kernel)
set_option maxRecDepth 65536 in
theorem w_c5 : (Jvm.Cond.code ({ cls := "com/example/stackwright/stackwright/CapacityAlternative", name := "numbered", desc := "(Ljava/lang/String;)Lcom/example/stackwright/stackwright/CapacityAlternative;" } : Jvm.MethodName) prog_3_method_5_code (1 : Nat) (Option.some (Jvm.ClassFile.FieldType.object "com/example/stackwright/stackwright/CapacityAlternative"))).before args0 about1 = true := code_word (m := ⟨9, 2⟩) (meth := k9m2) (c := k9c2) (by decide +kernel) rfl rfl rfl (by decide +kernel)
set_option maxRecDepth 65536 in
theorem w_c6 : (Jvm.Cond.code ({ cls := "com/example/stackwright/stackwright/CapacityAlternative", name := "values", desc := "()[Lcom/example/stackwright/stackwright/CapacityAlternative;" } : Jvm.MethodName) prog_3_method_1_code (0 : Nat) (Option.some (Jvm.ClassFile.FieldType.array (Jvm.ClassFile.FieldType.object "com/example/stackwright/stackwright/CapacityAlternative")))).before args0 about1 = true := code_word (m := ⟨9, 0⟩) (meth := k9m0) (c := k9c0) (by decide +kernel) rfl rfl rfl (by decide +kernel)
set_option maxRecDepth 65536 in
theorem w_c7 : (Jvm.Cond.code ({ cls := "com/example/stackwright/stackwright/CsvNames", name := "named", desc := "([Ljava/lang/Object;Ljava/util/function/Function;Ljava/lang/String;)Ljava/lang/Object;" } : Jvm.MethodName) prog_20_method_3_code (7 : Nat) (Option.some (Jvm.ClassFile.FieldType.object "java/lang/Object"))).before args0 about1 = true := code_word (m := ⟨12, 1⟩) (meth := k12m1) (c := k12c1) (by decide +kernel) rfl rfl rfl (by decide +kernel)
set_option maxRecDepth 65536 in
theorem w_c8 : (Jvm.Cond.code ({ cls := "com/example/stackwright/stackwright/CapacityAlternative", name := "number", desc := "()Ljava/lang/String;" } : Jvm.MethodName) prog_3_method_4_code (1 : Nat) (Option.some (Jvm.ClassFile.FieldType.object "java/lang/String"))).before args0 about1 = true := code_word (m := ⟨9, 1⟩) (meth := k9m1) (c := k9c1) (by decide +kernel) rfl rfl rfl (by decide +kernel)
set_option maxRecDepth 65536 in
theorem w_c9 : (Jvm.Cond.code ({ cls := "java/lang/String", name := "equals", desc := "(Ljava/lang/Object;)Z" } : Jvm.MethodName) jdk_42_method_66_code (3 : Nat) (Option.some Jvm.ClassFile.FieldType.boolean)).before args0 about1 = true := code_word (m := ⟨7, 2⟩) (meth := k7m2) (c := k7c2) (by decide +kernel) rfl rfl rfl (by decide +kernel)
set_option maxRecDepth 65536 in
theorem w_c10 : (Jvm.Cond.code ({ cls := "java/lang/StringLatin1", name := "equals", desc := "([B[B)Z" } : Jvm.MethodName) jdk_43_method_13_code (3 : Nat) (Option.some Jvm.ClassFile.FieldType.boolean)).before args0 about1 = true := code_word (m := ⟨13, 1⟩) (meth := k13m1) (c := k13c1) (by decide +kernel) rfl rfl rfl (by decide +kernel)
set_option maxRecDepth 65536 in
theorem w_c11 : (Jvm.Cond.code ({ cls := "java/lang/StringUTF16", name := "compress", desc := "([CII)[B" } : Jvm.MethodName) jdk_52_method_16_code (6 : Nat) (Option.some (Jvm.ClassFile.FieldType.array Jvm.ClassFile.FieldType.byte))).before args0 about1 = true := code_word (m := ⟨14, 2⟩) (meth := k14m2) (c := k14c2) (by decide +kernel) rfl rfl rfl (by decide +kernel)
set_option maxRecDepth 65536 in
theorem w_c12 : (Jvm.Cond.code ({ cls := "java/lang/StringUTF16", name := "compress", desc := "([CI[BII)I" } : Jvm.MethodName) jdk_52_method_21_code (7 : Nat) (Option.some Jvm.ClassFile.FieldType.int)).before args0 about1 = true := code_word (m := ⟨14, 3⟩) (meth := k14m3) (c := k14c3) (by decide +kernel) rfl rfl rfl (by decide +kernel)
set_option maxRecDepth 65536 in
theorem w_c13 : (Jvm.Cond.code ({ cls := "java/lang/StringUTF16", name := "coderFromArrayLen", desc := "([BI)B" } : Jvm.MethodName) jdk_52_method_15_code (2 : Nat) (Option.some Jvm.ClassFile.FieldType.byte)).before args0 about1 = true := code_word (m := ⟨14, 1⟩) (meth := k14m1) (c := k14c1) (by decide +kernel) rfl rfl rfl (by decide +kernel)
def codes1 : List Jvm.Cond := [Jvm.Cond.code x code maxLocals ret, Jvm.Cond.code ({ cls := "com/example/stackwright/stackwright/CapacityAlternativeNumberedPinLaw", name := "draw", desc := "(I)C" } : Jvm.MethodName) method_2_code (1 : Nat) (Option.some Jvm.ClassFile.FieldType.char), Jvm.Cond.code ({ cls := "java/lang/String", name := "<init>", desc := "([C)V" } : Jvm.MethodName) jdk_42_method_3_code (2 : Nat) (Option.none : Option Jvm.ClassFile.FieldType), Jvm.Cond.code ({ cls := "java/lang/String", name := "<init>", desc := "([CIILjava/lang/Void;)V" } : Jvm.MethodName) jdk_42_method_149_code (6 : Nat) (Option.none : Option Jvm.ClassFile.FieldType), Jvm.Cond.code ({ cls := "java/lang/Object", name := "<init>", desc := "()V" } : Jvm.MethodName) object_method_1_code (1 : Nat) (Option.none : Option Jvm.ClassFile.FieldType), Jvm.Cond.code ({ cls := "com/example/stackwright/stackwright/CapacityAlternative", name := "numbered", desc := "(Ljava/lang/String;)Lcom/example/stackwright/stackwright/CapacityAlternative;" } : Jvm.MethodName) prog_3_method_5_code (1 : Nat) (Option.some (Jvm.ClassFile.FieldType.object "com/example/stackwright/stackwright/CapacityAlternative")), Jvm.Cond.code ({ cls := "com/example/stackwright/stackwright/CapacityAlternative", name := "values", desc := "()[Lcom/example/stackwright/stackwright/CapacityAlternative;" } : Jvm.MethodName) prog_3_method_1_code (0 : Nat) (Option.some (Jvm.ClassFile.FieldType.array (Jvm.ClassFile.FieldType.object "com/example/stackwright/stackwright/CapacityAlternative"))), Jvm.Cond.code ({ cls := "com/example/stackwright/stackwright/CsvNames", name := "named", desc := "([Ljava/lang/Object;Ljava/util/function/Function;Ljava/lang/String;)Ljava/lang/Object;" } : Jvm.MethodName) prog_20_method_3_code (7 : Nat) (Option.some (Jvm.ClassFile.FieldType.object "java/lang/Object")), Jvm.Cond.code ({ cls := "com/example/stackwright/stackwright/CapacityAlternative", name := "number", desc := "()Ljava/lang/String;" } : Jvm.MethodName) prog_3_method_4_code (1 : Nat) (Option.some (Jvm.ClassFile.FieldType.object "java/lang/String")), Jvm.Cond.code ({ cls := "java/lang/String", name := "equals", desc := "(Ljava/lang/Object;)Z" } : Jvm.MethodName) jdk_42_method_66_code (3 : Nat) (Option.some Jvm.ClassFile.FieldType.boolean), Jvm.Cond.code ({ cls := "java/lang/StringLatin1", name := "equals", desc := "([B[B)Z" } : Jvm.MethodName) jdk_43_method_13_code (3 : Nat) (Option.some Jvm.ClassFile.FieldType.boolean), Jvm.Cond.code ({ cls := "java/lang/StringUTF16", name := "compress", desc := "([CII)[B" } : Jvm.MethodName) jdk_52_method_16_code (6 : Nat) (Option.some (Jvm.ClassFile.FieldType.array Jvm.ClassFile.FieldType.byte)), Jvm.Cond.code ({ cls := "java/lang/StringUTF16", name := "compress", desc := "([CI[BII)I" } : Jvm.MethodName) jdk_52_method_21_code (7 : Nat) (Option.some Jvm.ClassFile.FieldType.int), Jvm.Cond.code ({ cls := "java/lang/StringUTF16", name := "coderFromArrayLen", desc := "([BI)B" } : Jvm.MethodName) jdk_52_method_15_code (2 : Nat) (Option.some Jvm.ClassFile.FieldType.byte)]
set_option maxRecDepth 65536 in
theorem codes_eq : words1.filter isCode = codes1 := rfl
theorem w_codes : ∀ c ∈ words1.filter isCode, c.before args0 about1 = true := by
  rw [codes_eq]
  intro c hc
  simp only [codes1, List.mem_cons, List.not_mem_nil, or_false] at hc
  rcases hc with rfl | rfl | rfl | rfl | rfl | rfl | rfl | rfl | rfl | rfl | rfl | rfl | rfl | rfl
  · exact w_c0
  · exact w_c1
  · exact w_c2
  · exact w_c3
  · exact w_c4
  · exact w_c5
  · exact w_c6
  · exact w_c7
  · exact w_c8
  · exact w_c9
  · exact w_c10
  · exact w_c11
  · exact w_c12
  · exact w_c13
set_option maxRecDepth 65536 in
theorem w_t1 : (words1.take 24).all (fun c => isCode c || c.before args0 about1) = true := by decide +kernel
set_option maxRecDepth 65536 in
theorem w_t2 : ((words1.drop 24).take 24).all (fun c => isCode c || c.before args0 about1) = true := by decide +kernel
set_option maxRecDepth 65536 in
theorem w_t3 : (((words1.drop 24).drop 24).take 24).all (fun c => isCode c || c.before args0 about1) = true := by decide +kernel
set_option maxRecDepth 65536 in
theorem w_t4 : (((words1.drop 24).drop 24).drop 24).all (fun c => isCode c || c.before args0 about1) = true := by decide +kernel
theorem w_tables : (allAtoms (Jvm.Cond.code x code maxLocals ret :: tables_1)).before args0 about1 = true := by
  rw [allAtoms_all]
  show words1.all (fun c => c.before args0 about1) = true
  refine all_split ?_ w_codes
  rw [← List.take_append_drop 24 words1, List.all_append, w_t1, ← List.take_append_drop 24 (words1.drop 24), List.all_append, w_t2, ← List.take_append_drop 24 ((words1.drop 24).drop 24), List.all_append, w_t3, w_t4]
  rfl
set_option maxRecDepth 65536 in
theorem w_rest : rest_1_c.before args0 about1 = true := by decide +kernel
set_option maxRecDepth 65536 in
theorem w_case : (Jvm.Cond.and given_1 narrow_1).before args0 about1 = true := by decide +kernel
set_option maxRecDepth 65536 in
theorem w_consts : constsHeld consts_1 about1 := Jvm.Lit.constsHeldB_iff.mp (by decide +kernel)
theorem w_applies : (headSpec (Jvm.Cond.code x code maxLocals ret :: tables_1) room_1).applies x e0.platform about1 = true :=
  (Spec.applies_iff w_frames).mpr ⟨w_running, w_runnable, w_alone, w_named, w_hears, w_ripe, w_room, w_tables⟩
theorem atStart : AtStart classFile x code maxLocals ret World_1 tables_1 room_1 Calls_1 rest_1 Pre_1 launch0 p0 e0 about1 theMethod args0 below0 :=
  ⟨lists_1, trivial, launch0.admits_env _ _ _, launch0.least_env, fairChoices_fair.cas, fairChoices_fair.clock, w_frames, w_args, w_heap, w_applies, ⟨w_consts, trivial⟩, w_rest, w_case⟩
end start1
theorem witness_1 : WitnessClaimed_1 := ⟨start1.p0, start1.e0, start1.about1, start1.theMethod, start1.args0, start1.below0, start1.atStart⟩
end Jvm.Pilot.@@N@@
