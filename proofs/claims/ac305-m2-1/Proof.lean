import JvmDerived
import JvmDerived.Pilot.@@N@@Statement
import JvmDerived.Pilot.@@N@@Code
set_option linter.unusedVariables false
set_option linter.unusedSimpArgs false
namespace Jvm.RoadKit
open Sem ClassFile Op Lib Jvm.Stand Jvm.Free Jvm.LawKit
section New
variable {p : Program} {l : Launch} {e : Env} {R : Room} {s : State} {m : MethodId} {args : Array Value} {below : List Frame} {meth : Method} {c : Code} {T : State} {locs : List Loc} {cells slots : Nat}
theorem retI (X : Stand p l e R s m args below meth c T locs cells slots) (hx : p.tables.exec = Jvm.exec) {pc : Nat} {Ls : Array Slot} {z : Int32} {rest : List Value} (hret : meth.sig.returnType = some .int) (hd : decode c.code pc = .ok (.ireturn, 1)) {fs : List Frame}
    (hl : ∀ (f : JFrame) (acts : List Action), f.method = m → f.locked = none → f.entered = [] → (doReturn e (T.setTop f) acts (some (.int z))).1 = T.setFrames fs) : Steps p.tables e below (T.setTop (mkF m pc Ls (.int z :: rest))) (T.setFrames fs) := by
  have hm' : T.vm.method? m = some meth := X.method'
  have hn : narrow .int (.int z) = .int z := rfl
  show Steps p.tables e below (T.setTop { method := m, pc := pc, locals := Ls, stack := _ :: rest, locked := none }) _
  jvm_step X.here [X.here.top, hx, hd, hm', hret, hn]
  first | (intro acts; rw [hl _ acts rfl rfl rfl]) | rw [hl _ _ rfl rfl rfl]
  exact Steps.refl _
end New
end Jvm.RoadKit
namespace Jvm.Pilot.@@N@@
open Jvm Jvm.ClassFile Sem Op Lib Jvm.Free Jvm.Stand Jvm.LawKit Jvm.RoadKit Bundle Jvm.Pilot.@@N@@.Jvm.D
theorem own_go {tb : Tables} {e : Env} {below : List Frame} {A B : State} {P : State → Outcome → Prop} (st : ∀ t, Steps tb e below B t → Steps tb e below A t) (h : ∃ s₂ o, Steps tb e below B s₂ ∧ P s₂ o) : ∃ s₂ o, Steps tb e below A s₂ ∧ P s₂ o := by
  obtain ⟨s₂, o, h1, h2⟩ := h
  exact ⟨s₂, o, st _ h1, h2⟩
theorem own_gj {tb : Tables} {e : Env} {below : List Frame} {A B : State} {P : State → Heap → List Loc → Prop} {F : State → State} (st : ∀ t, Steps tb e below B t → Steps tb e below A t) (h : ∃ T' h' L', P T' h' L' ∧ ∀ t, Steps tb e below (F T') t → Steps tb e below B t) : ∃ T' h' L', P T' h' L' ∧ ∀ t, Steps tb e below (F T') t → Steps tb e below A t := by
  obtain ⟨T', h', L', h1, h2⟩ := h
  exact ⟨T', h', L', h1, fun t k => st t (h2 t k)⟩
theorem own_stak {Z : State} {h h' : Heap} {C n d : String} {v : Value} (F : Sta Z h C n d v) (K : Keep h h' []) : Sta Z h' C n d v := by
  obtain ⟨cf, i, k, f, st, cell, h1, h2, h3, h4, h5, r⟩ := F
  exact ⟨cf, i, k, f, st, cell, h1, h2, h3, h4, K.2.1 _ _ h5 nin0, r⟩
theorem own_eqv {args : Array Value} {s : State} {a b : Term} {v : Value} (h : (Jvm.Cond.eq a b).value args s none s [] = some true) (hb : b.eval args s none [] s = some v) : a.eval args s none [] s = some v := by
  simp only [Cond.value, hb] at h
  cases ha : a.eval args s none [] s with
  | none => simp [ha] at h
  | some x => cases x <;> cases v <;> simp [ha] at h ⊢ <;> exact h
def own_S (Z : State) (h : Heap) (ad : Nat → Addr) : Prop := Sta Z h "partbook/Element" "TITLE_PROPER" "Lpartbook/Element;" (.ref (ad 0)) ∧ Sta Z h "partbook/Element" "PARALLEL_TITLE_PROPER" "Lpartbook/Element;" (.ref (ad 1)) ∧ Sta Z h "partbook/Element" "OTHER_TITLE_INFORMATION" "Lpartbook/Element;" (.ref (ad 2)) ∧ Sta Z h "partbook/Element" "PARALLEL_OTHER_TITLE_INFORMATION" "Lpartbook/Element;" (.ref (ad 3)) ∧ Sta Z h "partbook/Element" "STATEMENT_OF_RESPONSIBILITY_RELATING_TO_TITLE_PROPER" "Lpartbook/Element;" (.ref (ad 4)) ∧ Sta Z h "partbook/Element" "PARALLEL_STATEMENT_OF_RESPONSIBILITY_RELATING_TO_TITLE_PROPER" "Lpartbook/Element;" (.ref (ad 5)) ∧ Sta Z h "partbook/Element" "DESIGNATION_OF_EDITION" "Lpartbook/Element;" (.ref (ad 6)) ∧ Sta Z h "partbook/Element" "PARALLEL_DESIGNATION_OF_EDITION" "Lpartbook/Element;" (.ref (ad 7)) ∧ Sta Z h "partbook/Element" "STATEMENT_OF_RESPONSIBILITY_RELATING_TO_THE_EDITION" "Lpartbook/Element;" (.ref (ad 8)) ∧ Sta Z h "partbook/Element" "TITLE_PROPER_OF_SERIES" "Lpartbook/Element;" (.ref (ad 9)) ∧ Sta Z h "partbook/Element" "PARALLEL_TITLE_PROPER_OF_SERIES" "Lpartbook/Element;" (.ref (ad 10)) ∧ Sta Z h "partbook/Element" "NUMBERING_WITHIN_SERIES" "Lpartbook/Element;" (.ref (ad 11)) ∧ Sta Z h "partbook/Element" "CREATOR" "Lpartbook/Element;" (.ref (ad 12))
def own_val (ad : Nat → Addr) (j : Nat) : Value := if j = 1 then .ref (ad 0) else if j = 3 then .ref (ad 2) else if j = 5 then .ref (ad 4) else if j = 7 then .ref (ad 6) else if j = 10 then .ref (ad 9) else .null
def own_pick (i : Int32) : Nat := if i = (0 : Int32) then 0 else if i = (1 : Int32) then 1 else if i = (2 : Int32) then 2 else if i = (3 : Int32) then 3 else if i = (4 : Int32) then 4 else if i = (5 : Int32) then 5 else if i = (6 : Int32) then 6 else if i = (7 : Int32) then 7 else if i = (8 : Int32) then 8 else if i = (9 : Int32) then 9 else if i = (10 : Int32) then 10 else if i = (11 : Int32) then 11 else 12
def own_exp (i : Int32) : Nat := if i = (0 : Int32) then 0 else if i = (1 : Int32) then 0 else if i = (2 : Int32) then 2 else if i = (3 : Int32) then 2 else if i = (4 : Int32) then 4 else if i = (5 : Int32) then 4 else if i = (6 : Int32) then 6 else if i = (7 : Int32) then 6 else if i = (8 : Int32) then 8 else if i = (9 : Int32) then 9 else if i = (10 : Int32) then 9 else if i = (11 : Int32) then 11 else 12
def own_base (a : Addr) (u : Value) : Addr := match u with | .ref b => b | _ => a
theorem d1_0 : decode method_2_code 0 = .ok (.iload_n 0, 1) := by decide +kernel
theorem d1_1 : decode method_2_code 1 = .ok (.ifCond .ne 7, 3) := by decide +kernel
theorem d1_4 : decode method_2_code 4 = .ok (.getstatic 7, 3) := by decide +kernel
theorem d1_7 : decode method_2_code 7 = .ok (.areturn, 1) := by decide +kernel
theorem d1_8 : decode method_2_code 8 = .ok (.iload_n 0, 1) := by decide +kernel
theorem d1_9 : decode method_2_code 9 = .ok (.iconst 1, 1) := by decide +kernel
theorem d1_10 : decode method_2_code 10 = .ok (.if_icmp .ne 7, 3) := by decide +kernel
theorem d1_13 : decode method_2_code 13 = .ok (.getstatic 13, 3) := by decide +kernel
theorem d1_16 : decode method_2_code 16 = .ok (.areturn, 1) := by decide +kernel
theorem d1_17 : decode method_2_code 17 = .ok (.iload_n 0, 1) := by decide +kernel
theorem d1_18 : decode method_2_code 18 = .ok (.iconst 2, 1) := by decide +kernel
theorem d1_19 : decode method_2_code 19 = .ok (.if_icmp .ne 7, 3) := by decide +kernel
theorem d1_22 : decode method_2_code 22 = .ok (.getstatic 16, 3) := by decide +kernel
theorem d1_25 : decode method_2_code 25 = .ok (.areturn, 1) := by decide +kernel
theorem d1_26 : decode method_2_code 26 = .ok (.iload_n 0, 1) := by decide +kernel
theorem d1_27 : decode method_2_code 27 = .ok (.iconst 3, 1) := by decide +kernel
theorem d1_28 : decode method_2_code 28 = .ok (.if_icmp .ne 7, 3) := by decide +kernel
theorem d1_31 : decode method_2_code 31 = .ok (.getstatic 19, 3) := by decide +kernel
theorem d1_34 : decode method_2_code 34 = .ok (.areturn, 1) := by decide +kernel
theorem d1_35 : decode method_2_code 35 = .ok (.iload_n 0, 1) := by decide +kernel
theorem d1_36 : decode method_2_code 36 = .ok (.iconst 4, 1) := by decide +kernel
theorem d1_37 : decode method_2_code 37 = .ok (.if_icmp .ne 7, 3) := by decide +kernel
theorem d1_40 : decode method_2_code 40 = .ok (.getstatic 22, 3) := by decide +kernel
theorem d1_43 : decode method_2_code 43 = .ok (.areturn, 1) := by decide +kernel
theorem d1_44 : decode method_2_code 44 = .ok (.iload_n 0, 1) := by decide +kernel
theorem d1_45 : decode method_2_code 45 = .ok (.iconst 5, 1) := by decide +kernel
theorem d1_46 : decode method_2_code 46 = .ok (.if_icmp .ne 7, 3) := by decide +kernel
theorem d1_49 : decode method_2_code 49 = .ok (.getstatic 25, 3) := by decide +kernel
theorem d1_52 : decode method_2_code 52 = .ok (.areturn, 1) := by decide +kernel
theorem d1_53 : decode method_2_code 53 = .ok (.iload_n 0, 1) := by decide +kernel
theorem d1_54 : decode method_2_code 54 = .ok (.bipush 6, 2) := by decide +kernel
theorem d1_56 : decode method_2_code 56 = .ok (.if_icmp .ne 7, 3) := by decide +kernel
theorem d1_59 : decode method_2_code 59 = .ok (.getstatic 28, 3) := by decide +kernel
theorem d1_62 : decode method_2_code 62 = .ok (.areturn, 1) := by decide +kernel
theorem d1_63 : decode method_2_code 63 = .ok (.iload_n 0, 1) := by decide +kernel
theorem d1_64 : decode method_2_code 64 = .ok (.bipush 7, 2) := by decide +kernel
theorem d1_66 : decode method_2_code 66 = .ok (.if_icmp .ne 7, 3) := by decide +kernel
theorem d1_69 : decode method_2_code 69 = .ok (.getstatic 31, 3) := by decide +kernel
theorem d1_72 : decode method_2_code 72 = .ok (.areturn, 1) := by decide +kernel
theorem d1_73 : decode method_2_code 73 = .ok (.iload_n 0, 1) := by decide +kernel
theorem d1_74 : decode method_2_code 74 = .ok (.bipush 8, 2) := by decide +kernel
theorem d1_76 : decode method_2_code 76 = .ok (.if_icmp .ne 7, 3) := by decide +kernel
theorem d1_79 : decode method_2_code 79 = .ok (.getstatic 34, 3) := by decide +kernel
theorem d1_82 : decode method_2_code 82 = .ok (.areturn, 1) := by decide +kernel
theorem d1_83 : decode method_2_code 83 = .ok (.iload_n 0, 1) := by decide +kernel
theorem d1_84 : decode method_2_code 84 = .ok (.bipush 9, 2) := by decide +kernel
theorem d1_86 : decode method_2_code 86 = .ok (.if_icmp .ne 7, 3) := by decide +kernel
theorem d1_89 : decode method_2_code 89 = .ok (.getstatic 37, 3) := by decide +kernel
theorem d1_92 : decode method_2_code 92 = .ok (.areturn, 1) := by decide +kernel
theorem d1_93 : decode method_2_code 93 = .ok (.iload_n 0, 1) := by decide +kernel
theorem d1_94 : decode method_2_code 94 = .ok (.bipush 10, 2) := by decide +kernel
theorem d1_96 : decode method_2_code 96 = .ok (.if_icmp .ne 7, 3) := by decide +kernel
theorem d1_99 : decode method_2_code 99 = .ok (.getstatic 40, 3) := by decide +kernel
theorem d1_102 : decode method_2_code 102 = .ok (.areturn, 1) := by decide +kernel
theorem d1_103 : decode method_2_code 103 = .ok (.iload_n 0, 1) := by decide +kernel
theorem d1_104 : decode method_2_code 104 = .ok (.bipush 11, 2) := by decide +kernel
theorem d1_106 : decode method_2_code 106 = .ok (.if_icmp .ne 7, 3) := by decide +kernel
theorem d1_109 : decode method_2_code 109 = .ok (.getstatic 43, 3) := by decide +kernel
theorem d1_112 : decode method_2_code 112 = .ok (.areturn, 1) := by decide +kernel
theorem d1_113 : decode method_2_code 113 = .ok (.getstatic 46, 3) := by decide +kernel
theorem d1_116 : decode method_2_code 116 = .ok (.areturn, 1) := by decide +kernel
theorem pn_1 : plainName "partbook/ElementBasePinLaw" = true := by first | (simp [plainName, overriddenIn]; done) | decide +kernel
theorem ef_1 (m : MethodId) (p0 : Int32) : entryFrame m #[(.int p0)] 1 = mkF m 0 #[.val (.int p0)] [] := by first | (simp [entryFrame, mkF, argsToLocals, Value.category]; done) | rfl
def Q1 (Z : State) (p0 : Int32) (ad : Nat → Addr) (h0 : Heap) (n0 : Nat) (v : Option Value) (h : Heap) (L : List Loc) : Prop := v = some (.ref (ad (own_pick p0))) ∧ Fr n0 L ∧ h = h0
set_option maxRecDepth 65536 in
set_option maxHeartbeats 40000000 in
theorem rm1 (l : Launch) (Z : State) (av0 : Array Value) (hw : ∀ d ∈ tables_1, d.before av0 Z = true) (ws : List Jvm.Cond) (p0 : Int32) (ad : Nat → Addr) (h0 : Heap) (n0 : Nat) (Z0 : n0 ≤ h0.size) (hS : own_S Z h0 ad) :
    MetFree l (⟨"partbook/ElementBasePinLaw", "pick", "(I)Lpartbook/Element;"⟩ : MethodName) (head1 (Jvm.Cond.code (⟨"partbook/ElementBasePinLaw", "pick", "(I)Lpartbook/Element;"⟩ : MethodName) method_2_code 1 (some (.object "partbook/Element")) :: ws) ({ frames := 0, cells := 0, slots := 0, locals := 0 } : Room)) (fun a U => a = #[(.int p0)] ∧ Z.Warmed39 U.vm ∧ U.heap = h0) (fun _ _ _ _ _ => True) (fun _ U o U' => ∃ v L, o = .returned v ∧ Q1 Z p0 ad h0 n0 v U'.heap L ∧ FrameEnd U o U' L ({ frames := 0, cells := 0, slots := 0, locals := 0 } : Room).cells ({ frames := 0, cells := 0, slots := 0, locals := 0 } : Room).slots) := by
  refine MetFree.of_bodySF (plainFor_of_name pn_1) hisR ?_
  intro p e s m args below meth c s₁ Bd hml0 hP hK
  obtain ⟨rfl, hZ, hh⟩ := hP
  have hx := Bd.exec
  have hby := Bd.bytes
  have hml : c.maxLocals = 1 := hml0
  have hown : s.vm.findClass "partbook/ElementBasePinLaw" = some m.cls := findClass_of_methodNamed Bd.named
  have hnm := (name_of_methodNamed Bd.named Bd.method).1
  have X0 : Stand p l e ({ frames := 0, cells := 0, slots := 0, locals := 0 } : Room) s m #[(.int p0)] below meth c s₁ [] 0 0 := Stand.of_body Bd
  have e0 : s₁.heap = h0 := by rw [← hh, Bd.state]; rfl
  have N0 := Fr.nil n0
  have K0 : Keep h0 h0 [] := Keep.refl h0 []
  refine own_go (B := s₁.setTop (mkF m 0 #[.val (.int p0)] [])) (fun t k => castTop (ef_1 m p0) k) ?_
  refine own_go (B := s₁.setTop (mkF m 1 #[.val (.int p0)] [(.int p0)])) (fun t k => ?_) ?_
  · show Steps p.tables e below (s₁.setTop (mkF m 0 #[.val (.int p0)] [])) _
    refine XS.iloadN X0.here hx rfl (hb hby d1_0) rfl ?_
    exact k
  by_cases hc1 : p0 = (0 : Int32)
  · refine own_go (B := s₁.setTop (mkF m 4 #[.val (.int p0)] [])) (fun t k => ?_) ?_
    · show Steps p.tables e below (s₁.setTop (mkF m 1 #[.val (.int p0)] [(.int p0)])) _
      refine XS.ifNo X0.here hx rfl (hb hby d1_1) rfl ((if0 _ _).trans (teq hc1).2) ?_
      exact k
    obtain ⟨T_1, X_1, e_1, st_1⟩ := getS2 X0 hx hZ hown (host := "") (Or.inl (hw _ (List.mem_of_getElem? (i := 5) rfl))) Via.refl e0 (hS.1) (g := (mkF m 4 #[.val (.int p0)] [])) rfl (hb hby d1_4)
    refine own_go (B := T_1.setTop (mkF m 7 #[.val (.int p0)] [(.ref (ad 0))])) (fun t k => st_1 t k) ?_
    obtain ⟨fs, hr, hrun, hended, hW, hsame⟩ := X_1.leave (v := some (.ref (ad 0))) (fun h => by rw [Bd.returns] at h; cases h)
    refine ⟨_, _, ?_, hrun, hended, _, _, rfl, ?_, ⟨_, rfl⟩, hW, hsame.mono (by decide) (by decide)⟩
    · show Steps p.tables e below (T_1.setTop (mkF m 7 #[.val (.int p0)] [(.ref (ad 0))])) _
      jvm_step X_1.here [X_1.here.top, hx, (hb hby d1_7), X_1.method', Bd.returns, Value.isRef, FieldType.isReference]
      first | (intro acts; rw [hr _ acts rfl rfl rfl]) | rw [hr _ _ rfl rfl rfl]
      exact Steps.refl _
    · show Q1 Z p0 ad h0 n0 _ T_1.heap _
      rw [e_1]
      exact ⟨by simp only [own_pick, if_pos hc1], N0, rfl⟩
  · refine own_go (B := s₁.setTop (mkF m 8 #[.val (.int p0)] [])) (fun t k => ?_) ?_
    · show Steps p.tables e below (s₁.setTop (mkF m 1 #[.val (.int p0)] [(.int p0)])) _
      refine XS.ifYes X0.here hx rfl (pc0 := 1) (pc' := 8) rfl (hb hby d1_1) rfl ((if0 _ _).trans (feq hc1).2) (by decide) (by decide) ?_
      exact k
    refine own_go (B := s₁.setTop (mkF m 10 #[.val (.int p0)] [(.int (1 : Int32)), (.int p0)])) (fun t k => ?_) ?_
    · show Steps p.tables e below (s₁.setTop (mkF m 8 #[.val (.int p0)] [])) _
      refine XS.iloadN X0.here hx rfl (hb hby d1_8) rfl ?_
      show Steps p.tables e below (s₁.setTop (mkF m 9 #[.val (.int p0)] [(.int p0)])) _
      refine XS.iconst X0.here hx rfl (hb hby d1_9) ?_
      exact k
    by_cases hc10 : p0 = (1 : Int32)
    · refine own_go (B := s₁.setTop (mkF m 13 #[.val (.int p0)] [])) (fun t k => ?_) ?_
      · show Steps p.tables e below (s₁.setTop (mkF m 10 #[.val (.int p0)] [(.int (1 : Int32)), (.int p0)])) _
        refine XS.icmpNo X0.here hx rfl (hb hby d1_10) rfl (teq hc10).2 ?_
        exact k
      obtain ⟨T_2, X_2, e_2, st_2⟩ := getS2 X0 hx hZ hown (host := "") (Or.inl (hw _ (List.mem_of_getElem? (i := 34) rfl))) Via.refl e0 (hS.2.1) (g := (mkF m 13 #[.val (.int p0)] [])) rfl (hb hby d1_13)
      refine own_go (B := T_2.setTop (mkF m 16 #[.val (.int p0)] [(.ref (ad 1))])) (fun t k => st_2 t k) ?_
      obtain ⟨fs, hr, hrun, hended, hW, hsame⟩ := X_2.leave (v := some (.ref (ad 1))) (fun h => by rw [Bd.returns] at h; cases h)
      refine ⟨_, _, ?_, hrun, hended, _, _, rfl, ?_, ⟨_, rfl⟩, hW, hsame.mono (by decide) (by decide)⟩
      · show Steps p.tables e below (T_2.setTop (mkF m 16 #[.val (.int p0)] [(.ref (ad 1))])) _
        jvm_step X_2.here [X_2.here.top, hx, (hb hby d1_16), X_2.method', Bd.returns, Value.isRef, FieldType.isReference]
        first | (intro acts; rw [hr _ acts rfl rfl rfl]) | rw [hr _ _ rfl rfl rfl]
        exact Steps.refl _
      · show Q1 Z p0 ad h0 n0 _ T_2.heap _
        rw [e_2]
        exact ⟨by simp only [own_pick, if_neg hc1, if_pos hc10], N0, rfl⟩
    · refine own_go (B := s₁.setTop (mkF m 17 #[.val (.int p0)] [])) (fun t k => ?_) ?_
      · show Steps p.tables e below (s₁.setTop (mkF m 10 #[.val (.int p0)] [(.int (1 : Int32)), (.int p0)])) _
        refine XS.icmpYes X0.here hx rfl (pc0 := 10) (pc' := 17) rfl (hb hby d1_10) rfl (feq hc10).2 (by decide) (by decide) ?_
        exact k
      refine own_go (B := s₁.setTop (mkF m 19 #[.val (.int p0)] [(.int (2 : Int32)), (.int p0)])) (fun t k => ?_) ?_
      · show Steps p.tables e below (s₁.setTop (mkF m 17 #[.val (.int p0)] [])) _
        refine XS.iloadN X0.here hx rfl (hb hby d1_17) rfl ?_
        show Steps p.tables e below (s₁.setTop (mkF m 18 #[.val (.int p0)] [(.int p0)])) _
        refine XS.iconst X0.here hx rfl (hb hby d1_18) ?_
        exact k
      by_cases hc19 : p0 = (2 : Int32)
      · refine own_go (B := s₁.setTop (mkF m 22 #[.val (.int p0)] [])) (fun t k => ?_) ?_
        · show Steps p.tables e below (s₁.setTop (mkF m 19 #[.val (.int p0)] [(.int (2 : Int32)), (.int p0)])) _
          refine XS.icmpNo X0.here hx rfl (hb hby d1_19) rfl (teq hc19).2 ?_
          exact k
        obtain ⟨T_3, X_3, e_3, st_3⟩ := getS2 X0 hx hZ hown (host := "") (Or.inl (hw _ (List.mem_of_getElem? (i := 20) rfl))) Via.refl e0 (hS.2.2.1) (g := (mkF m 22 #[.val (.int p0)] [])) rfl (hb hby d1_22)
        refine own_go (B := T_3.setTop (mkF m 25 #[.val (.int p0)] [(.ref (ad 2))])) (fun t k => st_3 t k) ?_
        obtain ⟨fs, hr, hrun, hended, hW, hsame⟩ := X_3.leave (v := some (.ref (ad 2))) (fun h => by rw [Bd.returns] at h; cases h)
        refine ⟨_, _, ?_, hrun, hended, _, _, rfl, ?_, ⟨_, rfl⟩, hW, hsame.mono (by decide) (by decide)⟩
        · show Steps p.tables e below (T_3.setTop (mkF m 25 #[.val (.int p0)] [(.ref (ad 2))])) _
          jvm_step X_3.here [X_3.here.top, hx, (hb hby d1_25), X_3.method', Bd.returns, Value.isRef, FieldType.isReference]
          first | (intro acts; rw [hr _ acts rfl rfl rfl]) | rw [hr _ _ rfl rfl rfl]
          exact Steps.refl _
        · show Q1 Z p0 ad h0 n0 _ T_3.heap _
          rw [e_3]
          exact ⟨by simp only [own_pick, if_neg hc1, if_neg hc10, if_pos hc19], N0, rfl⟩
      · refine own_go (B := s₁.setTop (mkF m 26 #[.val (.int p0)] [])) (fun t k => ?_) ?_
        · show Steps p.tables e below (s₁.setTop (mkF m 19 #[.val (.int p0)] [(.int (2 : Int32)), (.int p0)])) _
          refine XS.icmpYes X0.here hx rfl (pc0 := 19) (pc' := 26) rfl (hb hby d1_19) rfl (feq hc19).2 (by decide) (by decide) ?_
          exact k
        refine own_go (B := s₁.setTop (mkF m 28 #[.val (.int p0)] [(.int (3 : Int32)), (.int p0)])) (fun t k => ?_) ?_
        · show Steps p.tables e below (s₁.setTop (mkF m 26 #[.val (.int p0)] [])) _
          refine XS.iloadN X0.here hx rfl (hb hby d1_26) rfl ?_
          show Steps p.tables e below (s₁.setTop (mkF m 27 #[.val (.int p0)] [(.int p0)])) _
          refine XS.iconst X0.here hx rfl (hb hby d1_27) ?_
          exact k
        by_cases hc28 : p0 = (3 : Int32)
        · refine own_go (B := s₁.setTop (mkF m 31 #[.val (.int p0)] [])) (fun t k => ?_) ?_
          · show Steps p.tables e below (s₁.setTop (mkF m 28 #[.val (.int p0)] [(.int (3 : Int32)), (.int p0)])) _
            refine XS.icmpNo X0.here hx rfl (hb hby d1_28) rfl (teq hc28).2 ?_
            exact k
          obtain ⟨T_4, X_4, e_4, st_4⟩ := getS2 X0 hx hZ hown (host := "") (Or.inl (hw _ (List.mem_of_getElem? (i := 18) rfl))) Via.refl e0 (hS.2.2.2.1) (g := (mkF m 31 #[.val (.int p0)] [])) rfl (hb hby d1_31)
          refine own_go (B := T_4.setTop (mkF m 34 #[.val (.int p0)] [(.ref (ad 3))])) (fun t k => st_4 t k) ?_
          obtain ⟨fs, hr, hrun, hended, hW, hsame⟩ := X_4.leave (v := some (.ref (ad 3))) (fun h => by rw [Bd.returns] at h; cases h)
          refine ⟨_, _, ?_, hrun, hended, _, _, rfl, ?_, ⟨_, rfl⟩, hW, hsame.mono (by decide) (by decide)⟩
          · show Steps p.tables e below (T_4.setTop (mkF m 34 #[.val (.int p0)] [(.ref (ad 3))])) _
            jvm_step X_4.here [X_4.here.top, hx, (hb hby d1_34), X_4.method', Bd.returns, Value.isRef, FieldType.isReference]
            first | (intro acts; rw [hr _ acts rfl rfl rfl]) | rw [hr _ _ rfl rfl rfl]
            exact Steps.refl _
          · show Q1 Z p0 ad h0 n0 _ T_4.heap _
            rw [e_4]
            exact ⟨by simp only [own_pick, if_neg hc1, if_neg hc10, if_neg hc19, if_pos hc28], N0, rfl⟩
        · refine own_go (B := s₁.setTop (mkF m 35 #[.val (.int p0)] [])) (fun t k => ?_) ?_
          · show Steps p.tables e below (s₁.setTop (mkF m 28 #[.val (.int p0)] [(.int (3 : Int32)), (.int p0)])) _
            refine XS.icmpYes X0.here hx rfl (pc0 := 28) (pc' := 35) rfl (hb hby d1_28) rfl (feq hc28).2 (by decide) (by decide) ?_
            exact k
          refine own_go (B := s₁.setTop (mkF m 37 #[.val (.int p0)] [(.int (4 : Int32)), (.int p0)])) (fun t k => ?_) ?_
          · show Steps p.tables e below (s₁.setTop (mkF m 35 #[.val (.int p0)] [])) _
            refine XS.iloadN X0.here hx rfl (hb hby d1_35) rfl ?_
            show Steps p.tables e below (s₁.setTop (mkF m 36 #[.val (.int p0)] [(.int p0)])) _
            refine XS.iconst X0.here hx rfl (hb hby d1_36) ?_
            exact k
          by_cases hc37 : p0 = (4 : Int32)
          · refine own_go (B := s₁.setTop (mkF m 40 #[.val (.int p0)] [])) (fun t k => ?_) ?_
            · show Steps p.tables e below (s₁.setTop (mkF m 37 #[.val (.int p0)] [(.int (4 : Int32)), (.int p0)])) _
              refine XS.icmpNo X0.here hx rfl (hb hby d1_37) rfl (teq hc37).2 ?_
              exact k
            obtain ⟨T_5, X_5, e_5, st_5⟩ := getS2 X0 hx hZ hown (host := "") (Or.inl (hw _ (List.mem_of_getElem? (i := 26) rfl))) Via.refl e0 (hS.2.2.2.2.1) (g := (mkF m 40 #[.val (.int p0)] [])) rfl (hb hby d1_40)
            refine own_go (B := T_5.setTop (mkF m 43 #[.val (.int p0)] [(.ref (ad 4))])) (fun t k => st_5 t k) ?_
            obtain ⟨fs, hr, hrun, hended, hW, hsame⟩ := X_5.leave (v := some (.ref (ad 4))) (fun h => by rw [Bd.returns] at h; cases h)
            refine ⟨_, _, ?_, hrun, hended, _, _, rfl, ?_, ⟨_, rfl⟩, hW, hsame.mono (by decide) (by decide)⟩
            · show Steps p.tables e below (T_5.setTop (mkF m 43 #[.val (.int p0)] [(.ref (ad 4))])) _
              jvm_step X_5.here [X_5.here.top, hx, (hb hby d1_43), X_5.method', Bd.returns, Value.isRef, FieldType.isReference]
              first | (intro acts; rw [hr _ acts rfl rfl rfl]) | rw [hr _ _ rfl rfl rfl]
              exact Steps.refl _
            · show Q1 Z p0 ad h0 n0 _ T_5.heap _
              rw [e_5]
              exact ⟨by simp only [own_pick, if_neg hc1, if_neg hc10, if_neg hc19, if_neg hc28, if_pos hc37], N0, rfl⟩
          · refine own_go (B := s₁.setTop (mkF m 44 #[.val (.int p0)] [])) (fun t k => ?_) ?_
            · show Steps p.tables e below (s₁.setTop (mkF m 37 #[.val (.int p0)] [(.int (4 : Int32)), (.int p0)])) _
              refine XS.icmpYes X0.here hx rfl (pc0 := 37) (pc' := 44) rfl (hb hby d1_37) rfl (feq hc37).2 (by decide) (by decide) ?_
              exact k
            refine own_go (B := s₁.setTop (mkF m 46 #[.val (.int p0)] [(.int (5 : Int32)), (.int p0)])) (fun t k => ?_) ?_
            · show Steps p.tables e below (s₁.setTop (mkF m 44 #[.val (.int p0)] [])) _
              refine XS.iloadN X0.here hx rfl (hb hby d1_44) rfl ?_
              show Steps p.tables e below (s₁.setTop (mkF m 45 #[.val (.int p0)] [(.int p0)])) _
              refine XS.iconst X0.here hx rfl (hb hby d1_45) ?_
              exact k
            by_cases hc46 : p0 = (5 : Int32)
            · refine own_go (B := s₁.setTop (mkF m 49 #[.val (.int p0)] [])) (fun t k => ?_) ?_
              · show Steps p.tables e below (s₁.setTop (mkF m 46 #[.val (.int p0)] [(.int (5 : Int32)), (.int p0)])) _
                refine XS.icmpNo X0.here hx rfl (hb hby d1_46) rfl (teq hc46).2 ?_
                exact k
              obtain ⟨T_6, X_6, e_6, st_6⟩ := getS2 X0 hx hZ hown (host := "") (Or.inl (hw _ (List.mem_of_getElem? (i := 24) rfl))) Via.refl e0 (hS.2.2.2.2.2.1) (g := (mkF m 49 #[.val (.int p0)] [])) rfl (hb hby d1_49)
              refine own_go (B := T_6.setTop (mkF m 52 #[.val (.int p0)] [(.ref (ad 5))])) (fun t k => st_6 t k) ?_
              obtain ⟨fs, hr, hrun, hended, hW, hsame⟩ := X_6.leave (v := some (.ref (ad 5))) (fun h => by rw [Bd.returns] at h; cases h)
              refine ⟨_, _, ?_, hrun, hended, _, _, rfl, ?_, ⟨_, rfl⟩, hW, hsame.mono (by decide) (by decide)⟩
              · show Steps p.tables e below (T_6.setTop (mkF m 52 #[.val (.int p0)] [(.ref (ad 5))])) _
                jvm_step X_6.here [X_6.here.top, hx, (hb hby d1_52), X_6.method', Bd.returns, Value.isRef, FieldType.isReference]
                first | (intro acts; rw [hr _ acts rfl rfl rfl]) | rw [hr _ _ rfl rfl rfl]
                exact Steps.refl _
              · show Q1 Z p0 ad h0 n0 _ T_6.heap _
                rw [e_6]
                exact ⟨by simp only [own_pick, if_neg hc1, if_neg hc10, if_neg hc19, if_neg hc28, if_neg hc37, if_pos hc46], N0, rfl⟩
            · refine own_go (B := s₁.setTop (mkF m 53 #[.val (.int p0)] [])) (fun t k => ?_) ?_
              · show Steps p.tables e below (s₁.setTop (mkF m 46 #[.val (.int p0)] [(.int (5 : Int32)), (.int p0)])) _
                refine XS.icmpYes X0.here hx rfl (pc0 := 46) (pc' := 53) rfl (hb hby d1_46) rfl (feq hc46).2 (by decide) (by decide) ?_
                exact k
              refine own_go (B := s₁.setTop (mkF m 56 #[.val (.int p0)] [(.int (6 : Int32)), (.int p0)])) (fun t k => ?_) ?_
              · show Steps p.tables e below (s₁.setTop (mkF m 53 #[.val (.int p0)] [])) _
                refine XS.iloadN X0.here hx rfl (hb hby d1_53) rfl ?_
                show Steps p.tables e below (s₁.setTop (mkF m 54 #[.val (.int p0)] [(.int p0)])) _
                refine XS.bipush X0.here hx rfl (hb hby d1_54) ?_
                exact k
              by_cases hc56 : p0 = (6 : Int32)
              · refine own_go (B := s₁.setTop (mkF m 59 #[.val (.int p0)] [])) (fun t k => ?_) ?_
                · show Steps p.tables e below (s₁.setTop (mkF m 56 #[.val (.int p0)] [(.int (6 : Int32)), (.int p0)])) _
                  refine XS.icmpNo X0.here hx rfl (hb hby d1_56) rfl (teq hc56).2 ?_
                  exact k
                obtain ⟨T_7, X_7, e_7, st_7⟩ := getS2 X0 hx hZ hown (host := "") (Or.inl (hw _ (List.mem_of_getElem? (i := 22) rfl))) Via.refl e0 (hS.2.2.2.2.2.2.1) (g := (mkF m 59 #[.val (.int p0)] [])) rfl (hb hby d1_59)
                refine own_go (B := T_7.setTop (mkF m 62 #[.val (.int p0)] [(.ref (ad 6))])) (fun t k => st_7 t k) ?_
                obtain ⟨fs, hr, hrun, hended, hW, hsame⟩ := X_7.leave (v := some (.ref (ad 6))) (fun h => by rw [Bd.returns] at h; cases h)
                refine ⟨_, _, ?_, hrun, hended, _, _, rfl, ?_, ⟨_, rfl⟩, hW, hsame.mono (by decide) (by decide)⟩
                · show Steps p.tables e below (T_7.setTop (mkF m 62 #[.val (.int p0)] [(.ref (ad 6))])) _
                  jvm_step X_7.here [X_7.here.top, hx, (hb hby d1_62), X_7.method', Bd.returns, Value.isRef, FieldType.isReference]
                  first | (intro acts; rw [hr _ acts rfl rfl rfl]) | rw [hr _ _ rfl rfl rfl]
                  exact Steps.refl _
                · show Q1 Z p0 ad h0 n0 _ T_7.heap _
                  rw [e_7]
                  exact ⟨by simp only [own_pick, if_neg hc1, if_neg hc10, if_neg hc19, if_neg hc28, if_neg hc37, if_neg hc46, if_pos hc56], N0, rfl⟩
              · refine own_go (B := s₁.setTop (mkF m 63 #[.val (.int p0)] [])) (fun t k => ?_) ?_
                · show Steps p.tables e below (s₁.setTop (mkF m 56 #[.val (.int p0)] [(.int (6 : Int32)), (.int p0)])) _
                  refine XS.icmpYes X0.here hx rfl (pc0 := 56) (pc' := 63) rfl (hb hby d1_56) rfl (feq hc56).2 (by decide) (by decide) ?_
                  exact k
                refine own_go (B := s₁.setTop (mkF m 66 #[.val (.int p0)] [(.int (7 : Int32)), (.int p0)])) (fun t k => ?_) ?_
                · show Steps p.tables e below (s₁.setTop (mkF m 63 #[.val (.int p0)] [])) _
                  refine XS.iloadN X0.here hx rfl (hb hby d1_63) rfl ?_
                  show Steps p.tables e below (s₁.setTop (mkF m 64 #[.val (.int p0)] [(.int p0)])) _
                  refine XS.bipush X0.here hx rfl (hb hby d1_64) ?_
                  exact k
                by_cases hc66 : p0 = (7 : Int32)
                · refine own_go (B := s₁.setTop (mkF m 69 #[.val (.int p0)] [])) (fun t k => ?_) ?_
                  · show Steps p.tables e below (s₁.setTop (mkF m 66 #[.val (.int p0)] [(.int (7 : Int32)), (.int p0)])) _
                    refine XS.icmpNo X0.here hx rfl (hb hby d1_66) rfl (teq hc66).2 ?_
                    exact k
                  obtain ⟨T_8, X_8, e_8, st_8⟩ := getS2 X0 hx hZ hown (host := "") (Or.inl (hw _ (List.mem_of_getElem? (i := 28) rfl))) Via.refl e0 (hS.2.2.2.2.2.2.2.1) (g := (mkF m 69 #[.val (.int p0)] [])) rfl (hb hby d1_69)
                  refine own_go (B := T_8.setTop (mkF m 72 #[.val (.int p0)] [(.ref (ad 7))])) (fun t k => st_8 t k) ?_
                  obtain ⟨fs, hr, hrun, hended, hW, hsame⟩ := X_8.leave (v := some (.ref (ad 7))) (fun h => by rw [Bd.returns] at h; cases h)
                  refine ⟨_, _, ?_, hrun, hended, _, _, rfl, ?_, ⟨_, rfl⟩, hW, hsame.mono (by decide) (by decide)⟩
                  · show Steps p.tables e below (T_8.setTop (mkF m 72 #[.val (.int p0)] [(.ref (ad 7))])) _
                    jvm_step X_8.here [X_8.here.top, hx, (hb hby d1_72), X_8.method', Bd.returns, Value.isRef, FieldType.isReference]
                    first | (intro acts; rw [hr _ acts rfl rfl rfl]) | rw [hr _ _ rfl rfl rfl]
                    exact Steps.refl _
                  · show Q1 Z p0 ad h0 n0 _ T_8.heap _
                    rw [e_8]
                    exact ⟨by simp only [own_pick, if_neg hc1, if_neg hc10, if_neg hc19, if_neg hc28, if_neg hc37, if_neg hc46, if_neg hc56, if_pos hc66], N0, rfl⟩
                · refine own_go (B := s₁.setTop (mkF m 73 #[.val (.int p0)] [])) (fun t k => ?_) ?_
                  · show Steps p.tables e below (s₁.setTop (mkF m 66 #[.val (.int p0)] [(.int (7 : Int32)), (.int p0)])) _
                    refine XS.icmpYes X0.here hx rfl (pc0 := 66) (pc' := 73) rfl (hb hby d1_66) rfl (feq hc66).2 (by decide) (by decide) ?_
                    exact k
                  refine own_go (B := s₁.setTop (mkF m 76 #[.val (.int p0)] [(.int (8 : Int32)), (.int p0)])) (fun t k => ?_) ?_
                  · show Steps p.tables e below (s₁.setTop (mkF m 73 #[.val (.int p0)] [])) _
                    refine XS.iloadN X0.here hx rfl (hb hby d1_73) rfl ?_
                    show Steps p.tables e below (s₁.setTop (mkF m 74 #[.val (.int p0)] [(.int p0)])) _
                    refine XS.bipush X0.here hx rfl (hb hby d1_74) ?_
                    exact k
                  by_cases hc76 : p0 = (8 : Int32)
                  · refine own_go (B := s₁.setTop (mkF m 79 #[.val (.int p0)] [])) (fun t k => ?_) ?_
                    · show Steps p.tables e below (s₁.setTop (mkF m 76 #[.val (.int p0)] [(.int (8 : Int32)), (.int p0)])) _
                      refine XS.icmpNo X0.here hx rfl (hb hby d1_76) rfl (teq hc76).2 ?_
                      exact k
                    obtain ⟨T_9, X_9, e_9, st_9⟩ := getS2 X0 hx hZ hown (host := "") (Or.inl (hw _ (List.mem_of_getElem? (i := 36) rfl))) Via.refl e0 (hS.2.2.2.2.2.2.2.2.1) (g := (mkF m 79 #[.val (.int p0)] [])) rfl (hb hby d1_79)
                    refine own_go (B := T_9.setTop (mkF m 82 #[.val (.int p0)] [(.ref (ad 8))])) (fun t k => st_9 t k) ?_
                    obtain ⟨fs, hr, hrun, hended, hW, hsame⟩ := X_9.leave (v := some (.ref (ad 8))) (fun h => by rw [Bd.returns] at h; cases h)
                    refine ⟨_, _, ?_, hrun, hended, _, _, rfl, ?_, ⟨_, rfl⟩, hW, hsame.mono (by decide) (by decide)⟩
                    · show Steps p.tables e below (T_9.setTop (mkF m 82 #[.val (.int p0)] [(.ref (ad 8))])) _
                      jvm_step X_9.here [X_9.here.top, hx, (hb hby d1_82), X_9.method', Bd.returns, Value.isRef, FieldType.isReference]
                      first | (intro acts; rw [hr _ acts rfl rfl rfl]) | rw [hr _ _ rfl rfl rfl]
                      exact Steps.refl _
                    · show Q1 Z p0 ad h0 n0 _ T_9.heap _
                      rw [e_9]
                      exact ⟨by simp only [own_pick, if_neg hc1, if_neg hc10, if_neg hc19, if_neg hc28, if_neg hc37, if_neg hc46, if_neg hc56, if_neg hc66, if_pos hc76], N0, rfl⟩
                  · refine own_go (B := s₁.setTop (mkF m 83 #[.val (.int p0)] [])) (fun t k => ?_) ?_
                    · show Steps p.tables e below (s₁.setTop (mkF m 76 #[.val (.int p0)] [(.int (8 : Int32)), (.int p0)])) _
                      refine XS.icmpYes X0.here hx rfl (pc0 := 76) (pc' := 83) rfl (hb hby d1_76) rfl (feq hc76).2 (by decide) (by decide) ?_
                      exact k
                    refine own_go (B := s₁.setTop (mkF m 86 #[.val (.int p0)] [(.int (9 : Int32)), (.int p0)])) (fun t k => ?_) ?_
                    · show Steps p.tables e below (s₁.setTop (mkF m 83 #[.val (.int p0)] [])) _
                      refine XS.iloadN X0.here hx rfl (hb hby d1_83) rfl ?_
                      show Steps p.tables e below (s₁.setTop (mkF m 84 #[.val (.int p0)] [(.int p0)])) _
                      refine XS.bipush X0.here hx rfl (hb hby d1_84) ?_
                      exact k
                    by_cases hc86 : p0 = (9 : Int32)
                    · refine own_go (B := s₁.setTop (mkF m 89 #[.val (.int p0)] [])) (fun t k => ?_) ?_
                      · show Steps p.tables e below (s₁.setTop (mkF m 86 #[.val (.int p0)] [(.int (9 : Int32)), (.int p0)])) _
                        refine XS.icmpNo X0.here hx rfl (hb hby d1_86) rfl (teq hc86).2 ?_
                        exact k
                      obtain ⟨T_10, X_10, e_10, st_10⟩ := getS2 X0 hx hZ hown (host := "") (Or.inl (hw _ (List.mem_of_getElem? (i := 30) rfl))) Via.refl e0 (hS.2.2.2.2.2.2.2.2.2.1) (g := (mkF m 89 #[.val (.int p0)] [])) rfl (hb hby d1_89)
                      refine own_go (B := T_10.setTop (mkF m 92 #[.val (.int p0)] [(.ref (ad 9))])) (fun t k => st_10 t k) ?_
                      obtain ⟨fs, hr, hrun, hended, hW, hsame⟩ := X_10.leave (v := some (.ref (ad 9))) (fun h => by rw [Bd.returns] at h; cases h)
                      refine ⟨_, _, ?_, hrun, hended, _, _, rfl, ?_, ⟨_, rfl⟩, hW, hsame.mono (by decide) (by decide)⟩
                      · show Steps p.tables e below (T_10.setTop (mkF m 92 #[.val (.int p0)] [(.ref (ad 9))])) _
                        jvm_step X_10.here [X_10.here.top, hx, (hb hby d1_92), X_10.method', Bd.returns, Value.isRef, FieldType.isReference]
                        first | (intro acts; rw [hr _ acts rfl rfl rfl]) | rw [hr _ _ rfl rfl rfl]
                        exact Steps.refl _
                      · show Q1 Z p0 ad h0 n0 _ T_10.heap _
                        rw [e_10]
                        exact ⟨by simp only [own_pick, if_neg hc1, if_neg hc10, if_neg hc19, if_neg hc28, if_neg hc37, if_neg hc46, if_neg hc56, if_neg hc66, if_neg hc76, if_pos hc86], N0, rfl⟩
                    · refine own_go (B := s₁.setTop (mkF m 93 #[.val (.int p0)] [])) (fun t k => ?_) ?_
                      · show Steps p.tables e below (s₁.setTop (mkF m 86 #[.val (.int p0)] [(.int (9 : Int32)), (.int p0)])) _
                        refine XS.icmpYes X0.here hx rfl (pc0 := 86) (pc' := 93) rfl (hb hby d1_86) rfl (feq hc86).2 (by decide) (by decide) ?_
                        exact k
                      refine own_go (B := s₁.setTop (mkF m 96 #[.val (.int p0)] [(.int (10 : Int32)), (.int p0)])) (fun t k => ?_) ?_
                      · show Steps p.tables e below (s₁.setTop (mkF m 93 #[.val (.int p0)] [])) _
                        refine XS.iloadN X0.here hx rfl (hb hby d1_93) rfl ?_
                        show Steps p.tables e below (s₁.setTop (mkF m 94 #[.val (.int p0)] [(.int p0)])) _
                        refine XS.bipush X0.here hx rfl (hb hby d1_94) ?_
                        exact k
                      by_cases hc96 : p0 = (10 : Int32)
                      · refine own_go (B := s₁.setTop (mkF m 99 #[.val (.int p0)] [])) (fun t k => ?_) ?_
                        · show Steps p.tables e below (s₁.setTop (mkF m 96 #[.val (.int p0)] [(.int (10 : Int32)), (.int p0)])) _
                          refine XS.icmpNo X0.here hx rfl (hb hby d1_96) rfl (teq hc96).2 ?_
                          exact k
                        obtain ⟨T_11, X_11, e_11, st_11⟩ := getS2 X0 hx hZ hown (host := "") (Or.inl (hw _ (List.mem_of_getElem? (i := 38) rfl))) Via.refl e0 (hS.2.2.2.2.2.2.2.2.2.2.1) (g := (mkF m 99 #[.val (.int p0)] [])) rfl (hb hby d1_99)
                        refine own_go (B := T_11.setTop (mkF m 102 #[.val (.int p0)] [(.ref (ad 10))])) (fun t k => st_11 t k) ?_
                        obtain ⟨fs, hr, hrun, hended, hW, hsame⟩ := X_11.leave (v := some (.ref (ad 10))) (fun h => by rw [Bd.returns] at h; cases h)
                        refine ⟨_, _, ?_, hrun, hended, _, _, rfl, ?_, ⟨_, rfl⟩, hW, hsame.mono (by decide) (by decide)⟩
                        · show Steps p.tables e below (T_11.setTop (mkF m 102 #[.val (.int p0)] [(.ref (ad 10))])) _
                          jvm_step X_11.here [X_11.here.top, hx, (hb hby d1_102), X_11.method', Bd.returns, Value.isRef, FieldType.isReference]
                          first | (intro acts; rw [hr _ acts rfl rfl rfl]) | rw [hr _ _ rfl rfl rfl]
                          exact Steps.refl _
                        · show Q1 Z p0 ad h0 n0 _ T_11.heap _
                          rw [e_11]
                          exact ⟨by simp only [own_pick, if_neg hc1, if_neg hc10, if_neg hc19, if_neg hc28, if_neg hc37, if_neg hc46, if_neg hc56, if_neg hc66, if_neg hc76, if_neg hc86, if_pos hc96], N0, rfl⟩
                      · refine own_go (B := s₁.setTop (mkF m 103 #[.val (.int p0)] [])) (fun t k => ?_) ?_
                        · show Steps p.tables e below (s₁.setTop (mkF m 96 #[.val (.int p0)] [(.int (10 : Int32)), (.int p0)])) _
                          refine XS.icmpYes X0.here hx rfl (pc0 := 96) (pc' := 103) rfl (hb hby d1_96) rfl (feq hc96).2 (by decide) (by decide) ?_
                          exact k
                        refine own_go (B := s₁.setTop (mkF m 106 #[.val (.int p0)] [(.int (11 : Int32)), (.int p0)])) (fun t k => ?_) ?_
                        · show Steps p.tables e below (s₁.setTop (mkF m 103 #[.val (.int p0)] [])) _
                          refine XS.iloadN X0.here hx rfl (hb hby d1_103) rfl ?_
                          show Steps p.tables e below (s₁.setTop (mkF m 104 #[.val (.int p0)] [(.int p0)])) _
                          refine XS.bipush X0.here hx rfl (hb hby d1_104) ?_
                          exact k
                        by_cases hc106 : p0 = (11 : Int32)
                        · refine own_go (B := s₁.setTop (mkF m 109 #[.val (.int p0)] [])) (fun t k => ?_) ?_
                          · show Steps p.tables e below (s₁.setTop (mkF m 106 #[.val (.int p0)] [(.int (11 : Int32)), (.int p0)])) _
                            refine XS.icmpNo X0.here hx rfl (hb hby d1_106) rfl (teq hc106).2 ?_
                            exact k
                          obtain ⟨T_12, X_12, e_12, st_12⟩ := getS2 X0 hx hZ hown (host := "") (Or.inl (hw _ (List.mem_of_getElem? (i := 32) rfl))) Via.refl e0 (hS.2.2.2.2.2.2.2.2.2.2.2.1) (g := (mkF m 109 #[.val (.int p0)] [])) rfl (hb hby d1_109)
                          refine own_go (B := T_12.setTop (mkF m 112 #[.val (.int p0)] [(.ref (ad 11))])) (fun t k => st_12 t k) ?_
                          obtain ⟨fs, hr, hrun, hended, hW, hsame⟩ := X_12.leave (v := some (.ref (ad 11))) (fun h => by rw [Bd.returns] at h; cases h)
                          refine ⟨_, _, ?_, hrun, hended, _, _, rfl, ?_, ⟨_, rfl⟩, hW, hsame.mono (by decide) (by decide)⟩
                          · show Steps p.tables e below (T_12.setTop (mkF m 112 #[.val (.int p0)] [(.ref (ad 11))])) _
                            jvm_step X_12.here [X_12.here.top, hx, (hb hby d1_112), X_12.method', Bd.returns, Value.isRef, FieldType.isReference]
                            first | (intro acts; rw [hr _ acts rfl rfl rfl]) | rw [hr _ _ rfl rfl rfl]
                            exact Steps.refl _
                          · show Q1 Z p0 ad h0 n0 _ T_12.heap _
                            rw [e_12]
                            exact ⟨by simp only [own_pick, if_neg hc1, if_neg hc10, if_neg hc19, if_neg hc28, if_neg hc37, if_neg hc46, if_neg hc56, if_neg hc66, if_neg hc76, if_neg hc86, if_neg hc96, if_pos hc106], N0, rfl⟩
                        · refine own_go (B := s₁.setTop (mkF m 113 #[.val (.int p0)] [])) (fun t k => ?_) ?_
                          · show Steps p.tables e below (s₁.setTop (mkF m 106 #[.val (.int p0)] [(.int (11 : Int32)), (.int p0)])) _
                            refine XS.icmpYes X0.here hx rfl (pc0 := 106) (pc' := 113) rfl (hb hby d1_106) rfl (feq hc106).2 (by decide) (by decide) ?_
                            exact k
                          obtain ⟨T_13, X_13, e_13, st_13⟩ := getS2 X0 hx hZ hown (host := "") (Or.inl (hw _ (List.mem_of_getElem? (i := 40) rfl))) Via.refl e0 (hS.2.2.2.2.2.2.2.2.2.2.2.2) (g := (mkF m 113 #[.val (.int p0)] [])) rfl (hb hby d1_113)
                          refine own_go (B := T_13.setTop (mkF m 116 #[.val (.int p0)] [(.ref (ad 12))])) (fun t k => st_13 t k) ?_
                          obtain ⟨fs, hr, hrun, hended, hW, hsame⟩ := X_13.leave (v := some (.ref (ad 12))) (fun h => by rw [Bd.returns] at h; cases h)
                          refine ⟨_, _, ?_, hrun, hended, _, _, rfl, ?_, ⟨_, rfl⟩, hW, hsame.mono (by decide) (by decide)⟩
                          · show Steps p.tables e below (T_13.setTop (mkF m 116 #[.val (.int p0)] [(.ref (ad 12))])) _
                            jvm_step X_13.here [X_13.here.top, hx, (hb hby d1_116), X_13.method', Bd.returns, Value.isRef, FieldType.isReference]
                            first | (intro acts; rw [hr _ acts rfl rfl rfl]) | rw [hr _ _ rfl rfl rfl]
                            exact Steps.refl _
                          · show Q1 Z p0 ad h0 n0 _ T_13.heap _
                            rw [e_13]
                            exact ⟨by simp only [own_pick, if_neg hc1, if_neg hc10, if_neg hc19, if_neg hc28, if_neg hc37, if_neg hc46, if_neg hc56, if_neg hc66, if_neg hc76, if_neg hc86, if_neg hc96, if_neg hc106], N0, rfl⟩
theorem d2_0 : decode method_3_code 0 = .ok (.iload_n 0, 1) := by decide +kernel
theorem d2_1 : decode method_3_code 1 = .ok (.ifCond .eq 8, 3) := by decide +kernel
theorem d2_4 : decode method_3_code 4 = .ok (.iload_n 0, 1) := by decide +kernel
theorem d2_5 : decode method_3_code 5 = .ok (.iconst 1, 1) := by decide +kernel
theorem d2_6 : decode method_3_code 6 = .ok (.if_icmp .ne 7, 3) := by decide +kernel
theorem d2_9 : decode method_3_code 9 = .ok (.getstatic 7, 3) := by decide +kernel
theorem d2_12 : decode method_3_code 12 = .ok (.areturn, 1) := by decide +kernel
theorem d2_13 : decode method_3_code 13 = .ok (.iload_n 0, 1) := by decide +kernel
theorem d2_14 : decode method_3_code 14 = .ok (.iconst 2, 1) := by decide +kernel
theorem d2_15 : decode method_3_code 15 = .ok (.if_icmp .eq 8, 3) := by decide +kernel
theorem d2_18 : decode method_3_code 18 = .ok (.iload_n 0, 1) := by decide +kernel
theorem d2_19 : decode method_3_code 19 = .ok (.iconst 3, 1) := by decide +kernel
theorem d2_20 : decode method_3_code 20 = .ok (.if_icmp .ne 7, 3) := by decide +kernel
theorem d2_23 : decode method_3_code 23 = .ok (.getstatic 16, 3) := by decide +kernel
theorem d2_26 : decode method_3_code 26 = .ok (.areturn, 1) := by decide +kernel
theorem d2_27 : decode method_3_code 27 = .ok (.iload_n 0, 1) := by decide +kernel
theorem d2_28 : decode method_3_code 28 = .ok (.iconst 4, 1) := by decide +kernel
theorem d2_29 : decode method_3_code 29 = .ok (.if_icmp .eq 8, 3) := by decide +kernel
theorem d2_32 : decode method_3_code 32 = .ok (.iload_n 0, 1) := by decide +kernel
theorem d2_33 : decode method_3_code 33 = .ok (.iconst 5, 1) := by decide +kernel
theorem d2_34 : decode method_3_code 34 = .ok (.if_icmp .ne 7, 3) := by decide +kernel
theorem d2_37 : decode method_3_code 37 = .ok (.getstatic 22, 3) := by decide +kernel
theorem d2_40 : decode method_3_code 40 = .ok (.areturn, 1) := by decide +kernel
theorem d2_41 : decode method_3_code 41 = .ok (.iload_n 0, 1) := by decide +kernel
theorem d2_42 : decode method_3_code 42 = .ok (.bipush 6, 2) := by decide +kernel
theorem d2_44 : decode method_3_code 44 = .ok (.if_icmp .eq 9, 3) := by decide +kernel
theorem d2_47 : decode method_3_code 47 = .ok (.iload_n 0, 1) := by decide +kernel
theorem d2_48 : decode method_3_code 48 = .ok (.bipush 7, 2) := by decide +kernel
theorem d2_50 : decode method_3_code 50 = .ok (.if_icmp .ne 7, 3) := by decide +kernel
theorem d2_53 : decode method_3_code 53 = .ok (.getstatic 28, 3) := by decide +kernel
theorem d2_56 : decode method_3_code 56 = .ok (.areturn, 1) := by decide +kernel
theorem d2_57 : decode method_3_code 57 = .ok (.iload_n 0, 1) := by decide +kernel
theorem d2_58 : decode method_3_code 58 = .ok (.bipush 8, 2) := by decide +kernel
theorem d2_60 : decode method_3_code 60 = .ok (.if_icmp .ne 7, 3) := by decide +kernel
theorem d2_63 : decode method_3_code 63 = .ok (.getstatic 34, 3) := by decide +kernel
theorem d2_66 : decode method_3_code 66 = .ok (.areturn, 1) := by decide +kernel
theorem d2_67 : decode method_3_code 67 = .ok (.iload_n 0, 1) := by decide +kernel
theorem d2_68 : decode method_3_code 68 = .ok (.bipush 9, 2) := by decide +kernel
theorem d2_70 : decode method_3_code 70 = .ok (.if_icmp .eq 9, 3) := by decide +kernel
theorem d2_73 : decode method_3_code 73 = .ok (.iload_n 0, 1) := by decide +kernel
theorem d2_74 : decode method_3_code 74 = .ok (.bipush 10, 2) := by decide +kernel
theorem d2_76 : decode method_3_code 76 = .ok (.if_icmp .ne 7, 3) := by decide +kernel
theorem d2_79 : decode method_3_code 79 = .ok (.getstatic 37, 3) := by decide +kernel
theorem d2_82 : decode method_3_code 82 = .ok (.areturn, 1) := by decide +kernel
theorem d2_83 : decode method_3_code 83 = .ok (.iload_n 0, 1) := by decide +kernel
theorem d2_84 : decode method_3_code 84 = .ok (.bipush 11, 2) := by decide +kernel
theorem d2_86 : decode method_3_code 86 = .ok (.if_icmp .ne 7, 3) := by decide +kernel
theorem d2_89 : decode method_3_code 89 = .ok (.getstatic 43, 3) := by decide +kernel
theorem d2_92 : decode method_3_code 92 = .ok (.areturn, 1) := by decide +kernel
theorem d2_93 : decode method_3_code 93 = .ok (.getstatic 46, 3) := by decide +kernel
theorem d2_96 : decode method_3_code 96 = .ok (.areturn, 1) := by decide +kernel
theorem pn_2 : plainName "partbook/ElementBasePinLaw" = true := by first | (simp [plainName, overriddenIn]; done) | decide +kernel
theorem ef_2 (m : MethodId) (p0 : Int32) : entryFrame m #[(.int p0)] 1 = mkF m 0 #[.val (.int p0)] [] := by first | (simp [entryFrame, mkF, argsToLocals, Value.category]; done) | rfl
def Q2 (Z : State) (p0 : Int32) (ad : Nat → Addr) (h0 : Heap) (n0 : Nat) (v : Option Value) (h : Heap) (L : List Loc) : Prop := v = some (.ref (ad (own_exp p0))) ∧ Fr n0 L ∧ h = h0
set_option maxRecDepth 65536 in
set_option maxHeartbeats 40000000 in
theorem rm2 (l : Launch) (Z : State) (av0 : Array Value) (hw : ∀ d ∈ tables_1, d.before av0 Z = true) (ws : List Jvm.Cond) (p0 : Int32) (ad : Nat → Addr) (h0 : Heap) (n0 : Nat) (Z0 : n0 ≤ h0.size) (hS : own_S Z h0 ad) :
    MetFree l (⟨"partbook/ElementBasePinLaw", "expectedBase", "(I)Lpartbook/Element;"⟩ : MethodName) (head1 (Jvm.Cond.code (⟨"partbook/ElementBasePinLaw", "expectedBase", "(I)Lpartbook/Element;"⟩ : MethodName) method_3_code 1 (some (.object "partbook/Element")) :: ws) ({ frames := 0, cells := 0, slots := 0, locals := 0 } : Room)) (fun a U => a = #[(.int p0)] ∧ Z.Warmed39 U.vm ∧ U.heap = h0) (fun _ _ _ _ _ => True) (fun _ U o U' => ∃ v L, o = .returned v ∧ Q2 Z p0 ad h0 n0 v U'.heap L ∧ FrameEnd U o U' L ({ frames := 0, cells := 0, slots := 0, locals := 0 } : Room).cells ({ frames := 0, cells := 0, slots := 0, locals := 0 } : Room).slots) := by
  refine MetFree.of_bodySF (plainFor_of_name pn_2) hisR ?_
  intro p e s m args below meth c s₁ Bd hml0 hP hK
  obtain ⟨rfl, hZ, hh⟩ := hP
  have hx := Bd.exec
  have hby := Bd.bytes
  have hml : c.maxLocals = 1 := hml0
  have hown : s.vm.findClass "partbook/ElementBasePinLaw" = some m.cls := findClass_of_methodNamed Bd.named
  have hnm := (name_of_methodNamed Bd.named Bd.method).1
  have X0 : Stand p l e ({ frames := 0, cells := 0, slots := 0, locals := 0 } : Room) s m #[(.int p0)] below meth c s₁ [] 0 0 := Stand.of_body Bd
  have e0 : s₁.heap = h0 := by rw [← hh, Bd.state]; rfl
  have N0 := Fr.nil n0
  have K0 : Keep h0 h0 [] := Keep.refl h0 []
  refine own_go (B := s₁.setTop (mkF m 0 #[.val (.int p0)] [])) (fun t k => castTop (ef_2 m p0) k) ?_
  refine own_go (B := s₁.setTop (mkF m 1 #[.val (.int p0)] [(.int p0)])) (fun t k => ?_) ?_
  · show Steps p.tables e below (s₁.setTop (mkF m 0 #[.val (.int p0)] [])) _
    refine XS.iloadN X0.here hx rfl (hb hby d2_0) rfl ?_
    exact k
  by_cases hc1 : p0 = (0 : Int32)
  · refine own_go (B := s₁.setTop (mkF m 9 #[.val (.int p0)] [])) (fun t k => ?_) ?_
    · show Steps p.tables e below (s₁.setTop (mkF m 1 #[.val (.int p0)] [(.int p0)])) _
      refine XS.ifYes X0.here hx rfl (pc0 := 1) (pc' := 9) rfl (hb hby d2_1) rfl ((if0 _ _).trans (teq hc1).1) (by decide) (by decide) ?_
      exact k
    obtain ⟨T_1, X_1, e_1, st_1⟩ := getS2 X0 hx hZ hown (host := "") (Or.inl (hw _ (List.mem_of_getElem? (i := 5) rfl))) Via.refl e0 (hS.1) (g := (mkF m 9 #[.val (.int p0)] [])) rfl (hb hby d2_9)
    refine own_go (B := T_1.setTop (mkF m 12 #[.val (.int p0)] [(.ref (ad 0))])) (fun t k => st_1 t k) ?_
    obtain ⟨fs, hr, hrun, hended, hW, hsame⟩ := X_1.leave (v := some (.ref (ad 0))) (fun h => by rw [Bd.returns] at h; cases h)
    refine ⟨_, _, ?_, hrun, hended, _, _, rfl, ?_, ⟨_, rfl⟩, hW, hsame.mono (by decide) (by decide)⟩
    · show Steps p.tables e below (T_1.setTop (mkF m 12 #[.val (.int p0)] [(.ref (ad 0))])) _
      jvm_step X_1.here [X_1.here.top, hx, (hb hby d2_12), X_1.method', Bd.returns, Value.isRef, FieldType.isReference]
      first | (intro acts; rw [hr _ acts rfl rfl rfl]) | rw [hr _ _ rfl rfl rfl]
      exact Steps.refl _
    · show Q2 Z p0 ad h0 n0 _ T_1.heap _
      rw [e_1]
      exact ⟨by simp only [own_exp, if_pos hc1], N0, rfl⟩
  · refine own_go (B := s₁.setTop (mkF m 4 #[.val (.int p0)] [])) (fun t k => ?_) ?_
    · show Steps p.tables e below (s₁.setTop (mkF m 1 #[.val (.int p0)] [(.int p0)])) _
      refine XS.ifNo X0.here hx rfl (hb hby d2_1) rfl ((if0 _ _).trans (feq hc1).1) ?_
      exact k
    refine own_go (B := s₁.setTop (mkF m 6 #[.val (.int p0)] [(.int (1 : Int32)), (.int p0)])) (fun t k => ?_) ?_
    · show Steps p.tables e below (s₁.setTop (mkF m 4 #[.val (.int p0)] [])) _
      refine XS.iloadN X0.here hx rfl (hb hby d2_4) rfl ?_
      show Steps p.tables e below (s₁.setTop (mkF m 5 #[.val (.int p0)] [(.int p0)])) _
      refine XS.iconst X0.here hx rfl (hb hby d2_5) ?_
      exact k
    by_cases hc6 : p0 = (1 : Int32)
    · refine own_go (B := s₁.setTop (mkF m 9 #[.val (.int p0)] [])) (fun t k => ?_) ?_
      · show Steps p.tables e below (s₁.setTop (mkF m 6 #[.val (.int p0)] [(.int (1 : Int32)), (.int p0)])) _
        refine XS.icmpNo X0.here hx rfl (hb hby d2_6) rfl (teq hc6).2 ?_
        exact k
      obtain ⟨T_2, X_2, e_2, st_2⟩ := getS2 X0 hx hZ hown (host := "") (Or.inl (hw _ (List.mem_of_getElem? (i := 5) rfl))) Via.refl e0 (hS.1) (g := (mkF m 9 #[.val (.int p0)] [])) rfl (hb hby d2_9)
      refine own_go (B := T_2.setTop (mkF m 12 #[.val (.int p0)] [(.ref (ad 0))])) (fun t k => st_2 t k) ?_
      obtain ⟨fs, hr, hrun, hended, hW, hsame⟩ := X_2.leave (v := some (.ref (ad 0))) (fun h => by rw [Bd.returns] at h; cases h)
      refine ⟨_, _, ?_, hrun, hended, _, _, rfl, ?_, ⟨_, rfl⟩, hW, hsame.mono (by decide) (by decide)⟩
      · show Steps p.tables e below (T_2.setTop (mkF m 12 #[.val (.int p0)] [(.ref (ad 0))])) _
        jvm_step X_2.here [X_2.here.top, hx, (hb hby d2_12), X_2.method', Bd.returns, Value.isRef, FieldType.isReference]
        first | (intro acts; rw [hr _ acts rfl rfl rfl]) | rw [hr _ _ rfl rfl rfl]
        exact Steps.refl _
      · show Q2 Z p0 ad h0 n0 _ T_2.heap _
        rw [e_2]
        exact ⟨by simp only [own_exp, if_neg hc1, if_pos hc6], N0, rfl⟩
    · refine own_go (B := s₁.setTop (mkF m 13 #[.val (.int p0)] [])) (fun t k => ?_) ?_
      · show Steps p.tables e below (s₁.setTop (mkF m 6 #[.val (.int p0)] [(.int (1 : Int32)), (.int p0)])) _
        refine XS.icmpYes X0.here hx rfl (pc0 := 6) (pc' := 13) rfl (hb hby d2_6) rfl (feq hc6).2 (by decide) (by decide) ?_
        exact k
      refine own_go (B := s₁.setTop (mkF m 15 #[.val (.int p0)] [(.int (2 : Int32)), (.int p0)])) (fun t k => ?_) ?_
      · show Steps p.tables e below (s₁.setTop (mkF m 13 #[.val (.int p0)] [])) _
        refine XS.iloadN X0.here hx rfl (hb hby d2_13) rfl ?_
        show Steps p.tables e below (s₁.setTop (mkF m 14 #[.val (.int p0)] [(.int p0)])) _
        refine XS.iconst X0.here hx rfl (hb hby d2_14) ?_
        exact k
      by_cases hc15 : p0 = (2 : Int32)
      · refine own_go (B := s₁.setTop (mkF m 23 #[.val (.int p0)] [])) (fun t k => ?_) ?_
        · show Steps p.tables e below (s₁.setTop (mkF m 15 #[.val (.int p0)] [(.int (2 : Int32)), (.int p0)])) _
          refine XS.icmpYes X0.here hx rfl (pc0 := 15) (pc' := 23) rfl (hb hby d2_15) rfl (teq hc15).1 (by decide) (by decide) ?_
          exact k
        obtain ⟨T_3, X_3, e_3, st_3⟩ := getS2 X0 hx hZ hown (host := "") (Or.inl (hw _ (List.mem_of_getElem? (i := 20) rfl))) Via.refl e0 (hS.2.2.1) (g := (mkF m 23 #[.val (.int p0)] [])) rfl (hb hby d2_23)
        refine own_go (B := T_3.setTop (mkF m 26 #[.val (.int p0)] [(.ref (ad 2))])) (fun t k => st_3 t k) ?_
        obtain ⟨fs, hr, hrun, hended, hW, hsame⟩ := X_3.leave (v := some (.ref (ad 2))) (fun h => by rw [Bd.returns] at h; cases h)
        refine ⟨_, _, ?_, hrun, hended, _, _, rfl, ?_, ⟨_, rfl⟩, hW, hsame.mono (by decide) (by decide)⟩
        · show Steps p.tables e below (T_3.setTop (mkF m 26 #[.val (.int p0)] [(.ref (ad 2))])) _
          jvm_step X_3.here [X_3.here.top, hx, (hb hby d2_26), X_3.method', Bd.returns, Value.isRef, FieldType.isReference]
          first | (intro acts; rw [hr _ acts rfl rfl rfl]) | rw [hr _ _ rfl rfl rfl]
          exact Steps.refl _
        · show Q2 Z p0 ad h0 n0 _ T_3.heap _
          rw [e_3]
          exact ⟨by simp only [own_exp, if_neg hc1, if_neg hc6, if_pos hc15], N0, rfl⟩
      · refine own_go (B := s₁.setTop (mkF m 18 #[.val (.int p0)] [])) (fun t k => ?_) ?_
        · show Steps p.tables e below (s₁.setTop (mkF m 15 #[.val (.int p0)] [(.int (2 : Int32)), (.int p0)])) _
          refine XS.icmpNo X0.here hx rfl (hb hby d2_15) rfl (feq hc15).1 ?_
          exact k
        refine own_go (B := s₁.setTop (mkF m 20 #[.val (.int p0)] [(.int (3 : Int32)), (.int p0)])) (fun t k => ?_) ?_
        · show Steps p.tables e below (s₁.setTop (mkF m 18 #[.val (.int p0)] [])) _
          refine XS.iloadN X0.here hx rfl (hb hby d2_18) rfl ?_
          show Steps p.tables e below (s₁.setTop (mkF m 19 #[.val (.int p0)] [(.int p0)])) _
          refine XS.iconst X0.here hx rfl (hb hby d2_19) ?_
          exact k
        by_cases hc20 : p0 = (3 : Int32)
        · refine own_go (B := s₁.setTop (mkF m 23 #[.val (.int p0)] [])) (fun t k => ?_) ?_
          · show Steps p.tables e below (s₁.setTop (mkF m 20 #[.val (.int p0)] [(.int (3 : Int32)), (.int p0)])) _
            refine XS.icmpNo X0.here hx rfl (hb hby d2_20) rfl (teq hc20).2 ?_
            exact k
          obtain ⟨T_4, X_4, e_4, st_4⟩ := getS2 X0 hx hZ hown (host := "") (Or.inl (hw _ (List.mem_of_getElem? (i := 20) rfl))) Via.refl e0 (hS.2.2.1) (g := (mkF m 23 #[.val (.int p0)] [])) rfl (hb hby d2_23)
          refine own_go (B := T_4.setTop (mkF m 26 #[.val (.int p0)] [(.ref (ad 2))])) (fun t k => st_4 t k) ?_
          obtain ⟨fs, hr, hrun, hended, hW, hsame⟩ := X_4.leave (v := some (.ref (ad 2))) (fun h => by rw [Bd.returns] at h; cases h)
          refine ⟨_, _, ?_, hrun, hended, _, _, rfl, ?_, ⟨_, rfl⟩, hW, hsame.mono (by decide) (by decide)⟩
          · show Steps p.tables e below (T_4.setTop (mkF m 26 #[.val (.int p0)] [(.ref (ad 2))])) _
            jvm_step X_4.here [X_4.here.top, hx, (hb hby d2_26), X_4.method', Bd.returns, Value.isRef, FieldType.isReference]
            first | (intro acts; rw [hr _ acts rfl rfl rfl]) | rw [hr _ _ rfl rfl rfl]
            exact Steps.refl _
          · show Q2 Z p0 ad h0 n0 _ T_4.heap _
            rw [e_4]
            exact ⟨by simp only [own_exp, if_neg hc1, if_neg hc6, if_neg hc15, if_pos hc20], N0, rfl⟩
        · refine own_go (B := s₁.setTop (mkF m 27 #[.val (.int p0)] [])) (fun t k => ?_) ?_
          · show Steps p.tables e below (s₁.setTop (mkF m 20 #[.val (.int p0)] [(.int (3 : Int32)), (.int p0)])) _
            refine XS.icmpYes X0.here hx rfl (pc0 := 20) (pc' := 27) rfl (hb hby d2_20) rfl (feq hc20).2 (by decide) (by decide) ?_
            exact k
          refine own_go (B := s₁.setTop (mkF m 29 #[.val (.int p0)] [(.int (4 : Int32)), (.int p0)])) (fun t k => ?_) ?_
          · show Steps p.tables e below (s₁.setTop (mkF m 27 #[.val (.int p0)] [])) _
            refine XS.iloadN X0.here hx rfl (hb hby d2_27) rfl ?_
            show Steps p.tables e below (s₁.setTop (mkF m 28 #[.val (.int p0)] [(.int p0)])) _
            refine XS.iconst X0.here hx rfl (hb hby d2_28) ?_
            exact k
          by_cases hc29 : p0 = (4 : Int32)
          · refine own_go (B := s₁.setTop (mkF m 37 #[.val (.int p0)] [])) (fun t k => ?_) ?_
            · show Steps p.tables e below (s₁.setTop (mkF m 29 #[.val (.int p0)] [(.int (4 : Int32)), (.int p0)])) _
              refine XS.icmpYes X0.here hx rfl (pc0 := 29) (pc' := 37) rfl (hb hby d2_29) rfl (teq hc29).1 (by decide) (by decide) ?_
              exact k
            obtain ⟨T_5, X_5, e_5, st_5⟩ := getS2 X0 hx hZ hown (host := "") (Or.inl (hw _ (List.mem_of_getElem? (i := 26) rfl))) Via.refl e0 (hS.2.2.2.2.1) (g := (mkF m 37 #[.val (.int p0)] [])) rfl (hb hby d2_37)
            refine own_go (B := T_5.setTop (mkF m 40 #[.val (.int p0)] [(.ref (ad 4))])) (fun t k => st_5 t k) ?_
            obtain ⟨fs, hr, hrun, hended, hW, hsame⟩ := X_5.leave (v := some (.ref (ad 4))) (fun h => by rw [Bd.returns] at h; cases h)
            refine ⟨_, _, ?_, hrun, hended, _, _, rfl, ?_, ⟨_, rfl⟩, hW, hsame.mono (by decide) (by decide)⟩
            · show Steps p.tables e below (T_5.setTop (mkF m 40 #[.val (.int p0)] [(.ref (ad 4))])) _
              jvm_step X_5.here [X_5.here.top, hx, (hb hby d2_40), X_5.method', Bd.returns, Value.isRef, FieldType.isReference]
              first | (intro acts; rw [hr _ acts rfl rfl rfl]) | rw [hr _ _ rfl rfl rfl]
              exact Steps.refl _
            · show Q2 Z p0 ad h0 n0 _ T_5.heap _
              rw [e_5]
              exact ⟨by simp only [own_exp, if_neg hc1, if_neg hc6, if_neg hc15, if_neg hc20, if_pos hc29], N0, rfl⟩
          · refine own_go (B := s₁.setTop (mkF m 32 #[.val (.int p0)] [])) (fun t k => ?_) ?_
            · show Steps p.tables e below (s₁.setTop (mkF m 29 #[.val (.int p0)] [(.int (4 : Int32)), (.int p0)])) _
              refine XS.icmpNo X0.here hx rfl (hb hby d2_29) rfl (feq hc29).1 ?_
              exact k
            refine own_go (B := s₁.setTop (mkF m 34 #[.val (.int p0)] [(.int (5 : Int32)), (.int p0)])) (fun t k => ?_) ?_
            · show Steps p.tables e below (s₁.setTop (mkF m 32 #[.val (.int p0)] [])) _
              refine XS.iloadN X0.here hx rfl (hb hby d2_32) rfl ?_
              show Steps p.tables e below (s₁.setTop (mkF m 33 #[.val (.int p0)] [(.int p0)])) _
              refine XS.iconst X0.here hx rfl (hb hby d2_33) ?_
              exact k
            by_cases hc34 : p0 = (5 : Int32)
            · refine own_go (B := s₁.setTop (mkF m 37 #[.val (.int p0)] [])) (fun t k => ?_) ?_
              · show Steps p.tables e below (s₁.setTop (mkF m 34 #[.val (.int p0)] [(.int (5 : Int32)), (.int p0)])) _
                refine XS.icmpNo X0.here hx rfl (hb hby d2_34) rfl (teq hc34).2 ?_
                exact k
              obtain ⟨T_6, X_6, e_6, st_6⟩ := getS2 X0 hx hZ hown (host := "") (Or.inl (hw _ (List.mem_of_getElem? (i := 26) rfl))) Via.refl e0 (hS.2.2.2.2.1) (g := (mkF m 37 #[.val (.int p0)] [])) rfl (hb hby d2_37)
              refine own_go (B := T_6.setTop (mkF m 40 #[.val (.int p0)] [(.ref (ad 4))])) (fun t k => st_6 t k) ?_
              obtain ⟨fs, hr, hrun, hended, hW, hsame⟩ := X_6.leave (v := some (.ref (ad 4))) (fun h => by rw [Bd.returns] at h; cases h)
              refine ⟨_, _, ?_, hrun, hended, _, _, rfl, ?_, ⟨_, rfl⟩, hW, hsame.mono (by decide) (by decide)⟩
              · show Steps p.tables e below (T_6.setTop (mkF m 40 #[.val (.int p0)] [(.ref (ad 4))])) _
                jvm_step X_6.here [X_6.here.top, hx, (hb hby d2_40), X_6.method', Bd.returns, Value.isRef, FieldType.isReference]
                first | (intro acts; rw [hr _ acts rfl rfl rfl]) | rw [hr _ _ rfl rfl rfl]
                exact Steps.refl _
              · show Q2 Z p0 ad h0 n0 _ T_6.heap _
                rw [e_6]
                exact ⟨by simp only [own_exp, if_neg hc1, if_neg hc6, if_neg hc15, if_neg hc20, if_neg hc29, if_pos hc34], N0, rfl⟩
            · refine own_go (B := s₁.setTop (mkF m 41 #[.val (.int p0)] [])) (fun t k => ?_) ?_
              · show Steps p.tables e below (s₁.setTop (mkF m 34 #[.val (.int p0)] [(.int (5 : Int32)), (.int p0)])) _
                refine XS.icmpYes X0.here hx rfl (pc0 := 34) (pc' := 41) rfl (hb hby d2_34) rfl (feq hc34).2 (by decide) (by decide) ?_
                exact k
              refine own_go (B := s₁.setTop (mkF m 44 #[.val (.int p0)] [(.int (6 : Int32)), (.int p0)])) (fun t k => ?_) ?_
              · show Steps p.tables e below (s₁.setTop (mkF m 41 #[.val (.int p0)] [])) _
                refine XS.iloadN X0.here hx rfl (hb hby d2_41) rfl ?_
                show Steps p.tables e below (s₁.setTop (mkF m 42 #[.val (.int p0)] [(.int p0)])) _
                refine XS.bipush X0.here hx rfl (hb hby d2_42) ?_
                exact k
              by_cases hc44 : p0 = (6 : Int32)
              · refine own_go (B := s₁.setTop (mkF m 53 #[.val (.int p0)] [])) (fun t k => ?_) ?_
                · show Steps p.tables e below (s₁.setTop (mkF m 44 #[.val (.int p0)] [(.int (6 : Int32)), (.int p0)])) _
                  refine XS.icmpYes X0.here hx rfl (pc0 := 44) (pc' := 53) rfl (hb hby d2_44) rfl (teq hc44).1 (by decide) (by decide) ?_
                  exact k
                obtain ⟨T_7, X_7, e_7, st_7⟩ := getS2 X0 hx hZ hown (host := "") (Or.inl (hw _ (List.mem_of_getElem? (i := 22) rfl))) Via.refl e0 (hS.2.2.2.2.2.2.1) (g := (mkF m 53 #[.val (.int p0)] [])) rfl (hb hby d2_53)
                refine own_go (B := T_7.setTop (mkF m 56 #[.val (.int p0)] [(.ref (ad 6))])) (fun t k => st_7 t k) ?_
                obtain ⟨fs, hr, hrun, hended, hW, hsame⟩ := X_7.leave (v := some (.ref (ad 6))) (fun h => by rw [Bd.returns] at h; cases h)
                refine ⟨_, _, ?_, hrun, hended, _, _, rfl, ?_, ⟨_, rfl⟩, hW, hsame.mono (by decide) (by decide)⟩
                · show Steps p.tables e below (T_7.setTop (mkF m 56 #[.val (.int p0)] [(.ref (ad 6))])) _
                  jvm_step X_7.here [X_7.here.top, hx, (hb hby d2_56), X_7.method', Bd.returns, Value.isRef, FieldType.isReference]
                  first | (intro acts; rw [hr _ acts rfl rfl rfl]) | rw [hr _ _ rfl rfl rfl]
                  exact Steps.refl _
                · show Q2 Z p0 ad h0 n0 _ T_7.heap _
                  rw [e_7]
                  exact ⟨by simp only [own_exp, if_neg hc1, if_neg hc6, if_neg hc15, if_neg hc20, if_neg hc29, if_neg hc34, if_pos hc44], N0, rfl⟩
              · refine own_go (B := s₁.setTop (mkF m 47 #[.val (.int p0)] [])) (fun t k => ?_) ?_
                · show Steps p.tables e below (s₁.setTop (mkF m 44 #[.val (.int p0)] [(.int (6 : Int32)), (.int p0)])) _
                  refine XS.icmpNo X0.here hx rfl (hb hby d2_44) rfl (feq hc44).1 ?_
                  exact k
                refine own_go (B := s₁.setTop (mkF m 50 #[.val (.int p0)] [(.int (7 : Int32)), (.int p0)])) (fun t k => ?_) ?_
                · show Steps p.tables e below (s₁.setTop (mkF m 47 #[.val (.int p0)] [])) _
                  refine XS.iloadN X0.here hx rfl (hb hby d2_47) rfl ?_
                  show Steps p.tables e below (s₁.setTop (mkF m 48 #[.val (.int p0)] [(.int p0)])) _
                  refine XS.bipush X0.here hx rfl (hb hby d2_48) ?_
                  exact k
                by_cases hc50 : p0 = (7 : Int32)
                · refine own_go (B := s₁.setTop (mkF m 53 #[.val (.int p0)] [])) (fun t k => ?_) ?_
                  · show Steps p.tables e below (s₁.setTop (mkF m 50 #[.val (.int p0)] [(.int (7 : Int32)), (.int p0)])) _
                    refine XS.icmpNo X0.here hx rfl (hb hby d2_50) rfl (teq hc50).2 ?_
                    exact k
                  obtain ⟨T_8, X_8, e_8, st_8⟩ := getS2 X0 hx hZ hown (host := "") (Or.inl (hw _ (List.mem_of_getElem? (i := 22) rfl))) Via.refl e0 (hS.2.2.2.2.2.2.1) (g := (mkF m 53 #[.val (.int p0)] [])) rfl (hb hby d2_53)
                  refine own_go (B := T_8.setTop (mkF m 56 #[.val (.int p0)] [(.ref (ad 6))])) (fun t k => st_8 t k) ?_
                  obtain ⟨fs, hr, hrun, hended, hW, hsame⟩ := X_8.leave (v := some (.ref (ad 6))) (fun h => by rw [Bd.returns] at h; cases h)
                  refine ⟨_, _, ?_, hrun, hended, _, _, rfl, ?_, ⟨_, rfl⟩, hW, hsame.mono (by decide) (by decide)⟩
                  · show Steps p.tables e below (T_8.setTop (mkF m 56 #[.val (.int p0)] [(.ref (ad 6))])) _
                    jvm_step X_8.here [X_8.here.top, hx, (hb hby d2_56), X_8.method', Bd.returns, Value.isRef, FieldType.isReference]
                    first | (intro acts; rw [hr _ acts rfl rfl rfl]) | rw [hr _ _ rfl rfl rfl]
                    exact Steps.refl _
                  · show Q2 Z p0 ad h0 n0 _ T_8.heap _
                    rw [e_8]
                    exact ⟨by simp only [own_exp, if_neg hc1, if_neg hc6, if_neg hc15, if_neg hc20, if_neg hc29, if_neg hc34, if_neg hc44, if_pos hc50], N0, rfl⟩
                · refine own_go (B := s₁.setTop (mkF m 57 #[.val (.int p0)] [])) (fun t k => ?_) ?_
                  · show Steps p.tables e below (s₁.setTop (mkF m 50 #[.val (.int p0)] [(.int (7 : Int32)), (.int p0)])) _
                    refine XS.icmpYes X0.here hx rfl (pc0 := 50) (pc' := 57) rfl (hb hby d2_50) rfl (feq hc50).2 (by decide) (by decide) ?_
                    exact k
                  refine own_go (B := s₁.setTop (mkF m 60 #[.val (.int p0)] [(.int (8 : Int32)), (.int p0)])) (fun t k => ?_) ?_
                  · show Steps p.tables e below (s₁.setTop (mkF m 57 #[.val (.int p0)] [])) _
                    refine XS.iloadN X0.here hx rfl (hb hby d2_57) rfl ?_
                    show Steps p.tables e below (s₁.setTop (mkF m 58 #[.val (.int p0)] [(.int p0)])) _
                    refine XS.bipush X0.here hx rfl (hb hby d2_58) ?_
                    exact k
                  by_cases hc60 : p0 = (8 : Int32)
                  · refine own_go (B := s₁.setTop (mkF m 63 #[.val (.int p0)] [])) (fun t k => ?_) ?_
                    · show Steps p.tables e below (s₁.setTop (mkF m 60 #[.val (.int p0)] [(.int (8 : Int32)), (.int p0)])) _
                      refine XS.icmpNo X0.here hx rfl (hb hby d2_60) rfl (teq hc60).2 ?_
                      exact k
                    obtain ⟨T_9, X_9, e_9, st_9⟩ := getS2 X0 hx hZ hown (host := "") (Or.inl (hw _ (List.mem_of_getElem? (i := 36) rfl))) Via.refl e0 (hS.2.2.2.2.2.2.2.2.1) (g := (mkF m 63 #[.val (.int p0)] [])) rfl (hb hby d2_63)
                    refine own_go (B := T_9.setTop (mkF m 66 #[.val (.int p0)] [(.ref (ad 8))])) (fun t k => st_9 t k) ?_
                    obtain ⟨fs, hr, hrun, hended, hW, hsame⟩ := X_9.leave (v := some (.ref (ad 8))) (fun h => by rw [Bd.returns] at h; cases h)
                    refine ⟨_, _, ?_, hrun, hended, _, _, rfl, ?_, ⟨_, rfl⟩, hW, hsame.mono (by decide) (by decide)⟩
                    · show Steps p.tables e below (T_9.setTop (mkF m 66 #[.val (.int p0)] [(.ref (ad 8))])) _
                      jvm_step X_9.here [X_9.here.top, hx, (hb hby d2_66), X_9.method', Bd.returns, Value.isRef, FieldType.isReference]
                      first | (intro acts; rw [hr _ acts rfl rfl rfl]) | rw [hr _ _ rfl rfl rfl]
                      exact Steps.refl _
                    · show Q2 Z p0 ad h0 n0 _ T_9.heap _
                      rw [e_9]
                      exact ⟨by simp only [own_exp, if_neg hc1, if_neg hc6, if_neg hc15, if_neg hc20, if_neg hc29, if_neg hc34, if_neg hc44, if_neg hc50, if_pos hc60], N0, rfl⟩
                  · refine own_go (B := s₁.setTop (mkF m 67 #[.val (.int p0)] [])) (fun t k => ?_) ?_
                    · show Steps p.tables e below (s₁.setTop (mkF m 60 #[.val (.int p0)] [(.int (8 : Int32)), (.int p0)])) _
                      refine XS.icmpYes X0.here hx rfl (pc0 := 60) (pc' := 67) rfl (hb hby d2_60) rfl (feq hc60).2 (by decide) (by decide) ?_
                      exact k
                    refine own_go (B := s₁.setTop (mkF m 70 #[.val (.int p0)] [(.int (9 : Int32)), (.int p0)])) (fun t k => ?_) ?_
                    · show Steps p.tables e below (s₁.setTop (mkF m 67 #[.val (.int p0)] [])) _
                      refine XS.iloadN X0.here hx rfl (hb hby d2_67) rfl ?_
                      show Steps p.tables e below (s₁.setTop (mkF m 68 #[.val (.int p0)] [(.int p0)])) _
                      refine XS.bipush X0.here hx rfl (hb hby d2_68) ?_
                      exact k
                    by_cases hc70 : p0 = (9 : Int32)
                    · refine own_go (B := s₁.setTop (mkF m 79 #[.val (.int p0)] [])) (fun t k => ?_) ?_
                      · show Steps p.tables e below (s₁.setTop (mkF m 70 #[.val (.int p0)] [(.int (9 : Int32)), (.int p0)])) _
                        refine XS.icmpYes X0.here hx rfl (pc0 := 70) (pc' := 79) rfl (hb hby d2_70) rfl (teq hc70).1 (by decide) (by decide) ?_
                        exact k
                      obtain ⟨T_10, X_10, e_10, st_10⟩ := getS2 X0 hx hZ hown (host := "") (Or.inl (hw _ (List.mem_of_getElem? (i := 30) rfl))) Via.refl e0 (hS.2.2.2.2.2.2.2.2.2.1) (g := (mkF m 79 #[.val (.int p0)] [])) rfl (hb hby d2_79)
                      refine own_go (B := T_10.setTop (mkF m 82 #[.val (.int p0)] [(.ref (ad 9))])) (fun t k => st_10 t k) ?_
                      obtain ⟨fs, hr, hrun, hended, hW, hsame⟩ := X_10.leave (v := some (.ref (ad 9))) (fun h => by rw [Bd.returns] at h; cases h)
                      refine ⟨_, _, ?_, hrun, hended, _, _, rfl, ?_, ⟨_, rfl⟩, hW, hsame.mono (by decide) (by decide)⟩
                      · show Steps p.tables e below (T_10.setTop (mkF m 82 #[.val (.int p0)] [(.ref (ad 9))])) _
                        jvm_step X_10.here [X_10.here.top, hx, (hb hby d2_82), X_10.method', Bd.returns, Value.isRef, FieldType.isReference]
                        first | (intro acts; rw [hr _ acts rfl rfl rfl]) | rw [hr _ _ rfl rfl rfl]
                        exact Steps.refl _
                      · show Q2 Z p0 ad h0 n0 _ T_10.heap _
                        rw [e_10]
                        exact ⟨by simp only [own_exp, if_neg hc1, if_neg hc6, if_neg hc15, if_neg hc20, if_neg hc29, if_neg hc34, if_neg hc44, if_neg hc50, if_neg hc60, if_pos hc70], N0, rfl⟩
                    · refine own_go (B := s₁.setTop (mkF m 73 #[.val (.int p0)] [])) (fun t k => ?_) ?_
                      · show Steps p.tables e below (s₁.setTop (mkF m 70 #[.val (.int p0)] [(.int (9 : Int32)), (.int p0)])) _
                        refine XS.icmpNo X0.here hx rfl (hb hby d2_70) rfl (feq hc70).1 ?_
                        exact k
                      refine own_go (B := s₁.setTop (mkF m 76 #[.val (.int p0)] [(.int (10 : Int32)), (.int p0)])) (fun t k => ?_) ?_
                      · show Steps p.tables e below (s₁.setTop (mkF m 73 #[.val (.int p0)] [])) _
                        refine XS.iloadN X0.here hx rfl (hb hby d2_73) rfl ?_
                        show Steps p.tables e below (s₁.setTop (mkF m 74 #[.val (.int p0)] [(.int p0)])) _
                        refine XS.bipush X0.here hx rfl (hb hby d2_74) ?_
                        exact k
                      by_cases hc76 : p0 = (10 : Int32)
                      · refine own_go (B := s₁.setTop (mkF m 79 #[.val (.int p0)] [])) (fun t k => ?_) ?_
                        · show Steps p.tables e below (s₁.setTop (mkF m 76 #[.val (.int p0)] [(.int (10 : Int32)), (.int p0)])) _
                          refine XS.icmpNo X0.here hx rfl (hb hby d2_76) rfl (teq hc76).2 ?_
                          exact k
                        obtain ⟨T_11, X_11, e_11, st_11⟩ := getS2 X0 hx hZ hown (host := "") (Or.inl (hw _ (List.mem_of_getElem? (i := 30) rfl))) Via.refl e0 (hS.2.2.2.2.2.2.2.2.2.1) (g := (mkF m 79 #[.val (.int p0)] [])) rfl (hb hby d2_79)
                        refine own_go (B := T_11.setTop (mkF m 82 #[.val (.int p0)] [(.ref (ad 9))])) (fun t k => st_11 t k) ?_
                        obtain ⟨fs, hr, hrun, hended, hW, hsame⟩ := X_11.leave (v := some (.ref (ad 9))) (fun h => by rw [Bd.returns] at h; cases h)
                        refine ⟨_, _, ?_, hrun, hended, _, _, rfl, ?_, ⟨_, rfl⟩, hW, hsame.mono (by decide) (by decide)⟩
                        · show Steps p.tables e below (T_11.setTop (mkF m 82 #[.val (.int p0)] [(.ref (ad 9))])) _
                          jvm_step X_11.here [X_11.here.top, hx, (hb hby d2_82), X_11.method', Bd.returns, Value.isRef, FieldType.isReference]
                          first | (intro acts; rw [hr _ acts rfl rfl rfl]) | rw [hr _ _ rfl rfl rfl]
                          exact Steps.refl _
                        · show Q2 Z p0 ad h0 n0 _ T_11.heap _
                          rw [e_11]
                          exact ⟨by simp only [own_exp, if_neg hc1, if_neg hc6, if_neg hc15, if_neg hc20, if_neg hc29, if_neg hc34, if_neg hc44, if_neg hc50, if_neg hc60, if_neg hc70, if_pos hc76], N0, rfl⟩
                      · refine own_go (B := s₁.setTop (mkF m 83 #[.val (.int p0)] [])) (fun t k => ?_) ?_
                        · show Steps p.tables e below (s₁.setTop (mkF m 76 #[.val (.int p0)] [(.int (10 : Int32)), (.int p0)])) _
                          refine XS.icmpYes X0.here hx rfl (pc0 := 76) (pc' := 83) rfl (hb hby d2_76) rfl (feq hc76).2 (by decide) (by decide) ?_
                          exact k
                        refine own_go (B := s₁.setTop (mkF m 86 #[.val (.int p0)] [(.int (11 : Int32)), (.int p0)])) (fun t k => ?_) ?_
                        · show Steps p.tables e below (s₁.setTop (mkF m 83 #[.val (.int p0)] [])) _
                          refine XS.iloadN X0.here hx rfl (hb hby d2_83) rfl ?_
                          show Steps p.tables e below (s₁.setTop (mkF m 84 #[.val (.int p0)] [(.int p0)])) _
                          refine XS.bipush X0.here hx rfl (hb hby d2_84) ?_
                          exact k
                        by_cases hc86 : p0 = (11 : Int32)
                        · refine own_go (B := s₁.setTop (mkF m 89 #[.val (.int p0)] [])) (fun t k => ?_) ?_
                          · show Steps p.tables e below (s₁.setTop (mkF m 86 #[.val (.int p0)] [(.int (11 : Int32)), (.int p0)])) _
                            refine XS.icmpNo X0.here hx rfl (hb hby d2_86) rfl (teq hc86).2 ?_
                            exact k
                          obtain ⟨T_12, X_12, e_12, st_12⟩ := getS2 X0 hx hZ hown (host := "") (Or.inl (hw _ (List.mem_of_getElem? (i := 32) rfl))) Via.refl e0 (hS.2.2.2.2.2.2.2.2.2.2.2.1) (g := (mkF m 89 #[.val (.int p0)] [])) rfl (hb hby d2_89)
                          refine own_go (B := T_12.setTop (mkF m 92 #[.val (.int p0)] [(.ref (ad 11))])) (fun t k => st_12 t k) ?_
                          obtain ⟨fs, hr, hrun, hended, hW, hsame⟩ := X_12.leave (v := some (.ref (ad 11))) (fun h => by rw [Bd.returns] at h; cases h)
                          refine ⟨_, _, ?_, hrun, hended, _, _, rfl, ?_, ⟨_, rfl⟩, hW, hsame.mono (by decide) (by decide)⟩
                          · show Steps p.tables e below (T_12.setTop (mkF m 92 #[.val (.int p0)] [(.ref (ad 11))])) _
                            jvm_step X_12.here [X_12.here.top, hx, (hb hby d2_92), X_12.method', Bd.returns, Value.isRef, FieldType.isReference]
                            first | (intro acts; rw [hr _ acts rfl rfl rfl]) | rw [hr _ _ rfl rfl rfl]
                            exact Steps.refl _
                          · show Q2 Z p0 ad h0 n0 _ T_12.heap _
                            rw [e_12]
                            exact ⟨by simp only [own_exp, if_neg hc1, if_neg hc6, if_neg hc15, if_neg hc20, if_neg hc29, if_neg hc34, if_neg hc44, if_neg hc50, if_neg hc60, if_neg hc70, if_neg hc76, if_pos hc86], N0, rfl⟩
                        · refine own_go (B := s₁.setTop (mkF m 93 #[.val (.int p0)] [])) (fun t k => ?_) ?_
                          · show Steps p.tables e below (s₁.setTop (mkF m 86 #[.val (.int p0)] [(.int (11 : Int32)), (.int p0)])) _
                            refine XS.icmpYes X0.here hx rfl (pc0 := 86) (pc' := 93) rfl (hb hby d2_86) rfl (feq hc86).2 (by decide) (by decide) ?_
                            exact k
                          obtain ⟨T_13, X_13, e_13, st_13⟩ := getS2 X0 hx hZ hown (host := "") (Or.inl (hw _ (List.mem_of_getElem? (i := 40) rfl))) Via.refl e0 (hS.2.2.2.2.2.2.2.2.2.2.2.2) (g := (mkF m 93 #[.val (.int p0)] [])) rfl (hb hby d2_93)
                          refine own_go (B := T_13.setTop (mkF m 96 #[.val (.int p0)] [(.ref (ad 12))])) (fun t k => st_13 t k) ?_
                          obtain ⟨fs, hr, hrun, hended, hW, hsame⟩ := X_13.leave (v := some (.ref (ad 12))) (fun h => by rw [Bd.returns] at h; cases h)
                          refine ⟨_, _, ?_, hrun, hended, _, _, rfl, ?_, ⟨_, rfl⟩, hW, hsame.mono (by decide) (by decide)⟩
                          · show Steps p.tables e below (T_13.setTop (mkF m 96 #[.val (.int p0)] [(.ref (ad 12))])) _
                            jvm_step X_13.here [X_13.here.top, hx, (hb hby d2_96), X_13.method', Bd.returns, Value.isRef, FieldType.isReference]
                            first | (intro acts; rw [hr _ acts rfl rfl rfl]) | rw [hr _ _ rfl rfl rfl]
                            exact Steps.refl _
                          · show Q2 Z p0 ad h0 n0 _ T_13.heap _
                            rw [e_13]
                            exact ⟨by simp only [own_exp, if_neg hc1, if_neg hc6, if_neg hc15, if_neg hc20, if_neg hc29, if_neg hc34, if_neg hc44, if_neg hc50, if_neg hc60, if_neg hc70, if_neg hc76, if_neg hc86], N0, rfl⟩
theorem d3_0 : decode prog_15_method_11_code 0 = .ok (.aload_n 0, 1) := by decide +kernel
theorem d3_1 : decode prog_15_method_11_code 1 = .ok (.getfield 76, 3) := by decide +kernel
theorem d3_4 : decode prog_15_method_11_code 4 = .ok (.ifnonnull 7, 3) := by decide +kernel
theorem d3_7 : decode prog_15_method_11_code 7 = .ok (.aload_n 0, 1) := by decide +kernel
theorem d3_8 : decode prog_15_method_11_code 8 = .ok (.goto 7, 3) := by decide +kernel
theorem d3_15 : decode prog_15_method_11_code 15 = .ok (.areturn, 1) := by decide +kernel
theorem pn_3 : plainName "partbook/Element" = true := by first | (simp [plainName, overriddenIn]; done) | decide +kernel
theorem ef_3n (m : MethodId) (a0 : Addr) : entryFrame m #[(.ref a0)] 1 = mkF m 0 #[.val (.ref a0)] [] := by first | (simp [entryFrame, mkF, argsToLocals, Value.category]; done) | rfl
def Q3n (Z : State) (a0 : Addr) (h0 : Heap) (n0 : Nat) (v : Option Value) (h : Heap) (L : List Loc) : Prop := v = some (.ref a0) ∧ Fr n0 L ∧ h = h0
set_option maxRecDepth 65536 in
set_option maxHeartbeats 40000000 in
theorem rm3n (l : Launch) (Z : State) (av0 : Array Value) (hw : ∀ d ∈ tables_1, d.before av0 Z = true) (ws : List Jvm.Cond) (a0 : Addr) (h0 : Heap) (n0 : Nat) (Z0 : n0 ≤ h0.size) (F_translates_a0 : Fld Z h0 a0 "partbook/Element" "translates" "Lpartbook/Element;" .null) :
    MetFree l (⟨"partbook/Element", "base", "()Lpartbook/Element;"⟩ : MethodName) (head1 (Jvm.Cond.code (⟨"partbook/Element", "base", "()Lpartbook/Element;"⟩ : MethodName) prog_15_method_11_code 1 (some (.object "partbook/Element")) :: ws) ({ frames := 0, cells := 0, slots := 0, locals := 0 } : Room)) (fun a U => a = #[(.ref a0)] ∧ Z.Warmed39 U.vm ∧ U.heap = h0) (fun _ _ _ _ _ => True) (fun _ U o U' => ∃ v L, o = .returned v ∧ Q3n Z a0 h0 n0 v U'.heap L ∧ FrameEnd U o U' L ({ frames := 0, cells := 0, slots := 0, locals := 0 } : Room).cells ({ frames := 0, cells := 0, slots := 0, locals := 0 } : Room).slots) := by
  refine MetFree.of_bodySF (plainFor_of_name pn_3) hisR ?_
  intro p e s m args below meth c s₁ Bd hml0 hP hK
  obtain ⟨rfl, hZ, hh⟩ := hP
  have hx := Bd.exec
  have hby := Bd.bytes
  have hml : c.maxLocals = 1 := hml0
  have hown : s.vm.findClass "partbook/Element" = some m.cls := findClass_of_methodNamed Bd.named
  have hnm := (name_of_methodNamed Bd.named Bd.method).1
  have X0 : Stand p l e ({ frames := 0, cells := 0, slots := 0, locals := 0 } : Room) s m #[(.ref a0)] below meth c s₁ [] 0 0 := Stand.of_body Bd
  have e0 : s₁.heap = h0 := by rw [← hh, Bd.state]; rfl
  have N0 := Fr.nil n0
  have K0 : Keep h0 h0 [] := Keep.refl h0 []
  refine own_go (B := s₁.setTop (mkF m 0 #[.val (.ref a0)] [])) (fun t k => castTop (ef_3n m a0) k) ?_
  refine own_go (B := s₁.setTop (mkF m 1 #[.val (.ref a0)] [(.ref a0)])) (fun t k => ?_) ?_
  · show Steps p.tables e below (s₁.setTop (mkF m 0 #[.val (.ref a0)] [])) _
    refine XS.aloadN X0.here hx rfl (hb hby d3_0) rfl rfl ?_
    exact k
  obtain ⟨T_1, X_1, e_1, st_1⟩ := getF X0 hx hZ hown (host := "") (Or.inl (hw _ (List.mem_of_getElem? (i := 16) rfl))) Via.refl e0 F_translates_a0 (g := (mkF m 1 #[.val (.ref a0)] [(.ref a0)])) rfl rfl (hb hby d3_1)
  refine own_go (B := T_1.setTop (mkF m 4 #[.val (.ref a0)] [.null])) (fun t k => st_1 t k) ?_
  refine own_go (B := T_1.setTop (mkF m 7 #[.val (.ref a0)] [])) (fun t k => ?_) ?_
  · show Steps p.tables e below (T_1.setTop (mkF m 4 #[.val (.ref a0)] [.null])) _
    refine XS.ifnonnullNo X_1.here hx rfl (hb hby d3_4) rfl ?_
    exact k
  refine own_go (B := T_1.setTop (mkF m 15 #[.val (.ref a0)] [(.ref a0)])) (fun t k => ?_) ?_
  · show Steps p.tables e below (T_1.setTop (mkF m 7 #[.val (.ref a0)] [])) _
    refine XS.aloadN X_1.here hx rfl (hb hby d3_7) rfl rfl ?_
    show Steps p.tables e below (T_1.setTop (mkF m 8 #[.val (.ref a0)] [(.ref a0)])) _
    refine XS.goto X_1.here hx rfl (pc0 := 8) (pc' := 15) rfl (hb hby d3_8) (by decide) (by decide) ?_
    exact k
  obtain ⟨fs, hr, hrun, hended, hW, hsame⟩ := X_1.leave (v := some (.ref a0)) (fun h => by rw [Bd.returns] at h; cases h)
  refine ⟨_, _, ?_, hrun, hended, _, _, rfl, ?_, ⟨_, rfl⟩, hW, hsame.mono (by decide) (by decide)⟩
  · show Steps p.tables e below (T_1.setTop (mkF m 15 #[.val (.ref a0)] [(.ref a0)])) _
    jvm_step X_1.here [X_1.here.top, hx, (hb hby d3_15), X_1.method', Bd.returns, Value.isRef, FieldType.isReference]
    first | (intro acts; rw [hr _ acts rfl rfl rfl]) | rw [hr _ _ rfl rfl rfl]
    exact Steps.refl _
  · show Q3n Z a0 h0 n0 _ T_1.heap _
    rw [e_1]
    exact ⟨rfl, N0, rfl⟩
theorem d3_11 : decode prog_15_method_11_code 11 = .ok (.aload_n 0, 1) := by decide +kernel
theorem d3_12 : decode prog_15_method_11_code 12 = .ok (.getfield 76, 3) := by decide +kernel
theorem ef_3r (m : MethodId) (a0 : Addr) : entryFrame m #[(.ref a0)] 1 = mkF m 0 #[.val (.ref a0)] [] := by first | (simp [entryFrame, mkF, argsToLocals, Value.category]; done) | rfl
def Q3r (Z : State) (a0 : Addr) (w : Addr) (h0 : Heap) (n0 : Nat) (v : Option Value) (h : Heap) (L : List Loc) : Prop := v = some (.ref w) ∧ Fr n0 L ∧ h = h0
set_option maxRecDepth 65536 in
set_option maxHeartbeats 40000000 in
theorem rm3r (l : Launch) (Z : State) (av0 : Array Value) (hw : ∀ d ∈ tables_1, d.before av0 Z = true) (ws : List Jvm.Cond) (a0 : Addr) (w : Addr) (h0 : Heap) (n0 : Nat) (Z0 : n0 ≤ h0.size) (F_translates_a0 : Fld Z h0 a0 "partbook/Element" "translates" "Lpartbook/Element;" (.ref w)) :
    MetFree l (⟨"partbook/Element", "base", "()Lpartbook/Element;"⟩ : MethodName) (head1 (Jvm.Cond.code (⟨"partbook/Element", "base", "()Lpartbook/Element;"⟩ : MethodName) prog_15_method_11_code 1 (some (.object "partbook/Element")) :: ws) ({ frames := 0, cells := 0, slots := 0, locals := 0 } : Room)) (fun a U => a = #[(.ref a0)] ∧ Z.Warmed39 U.vm ∧ U.heap = h0) (fun _ _ _ _ _ => True) (fun _ U o U' => ∃ v L, o = .returned v ∧ Q3r Z a0 w h0 n0 v U'.heap L ∧ FrameEnd U o U' L ({ frames := 0, cells := 0, slots := 0, locals := 0 } : Room).cells ({ frames := 0, cells := 0, slots := 0, locals := 0 } : Room).slots) := by
  refine MetFree.of_bodySF (plainFor_of_name pn_3) hisR ?_
  intro p e s m args below meth c s₁ Bd hml0 hP hK
  obtain ⟨rfl, hZ, hh⟩ := hP
  have hx := Bd.exec
  have hby := Bd.bytes
  have hml : c.maxLocals = 1 := hml0
  have hown : s.vm.findClass "partbook/Element" = some m.cls := findClass_of_methodNamed Bd.named
  have hnm := (name_of_methodNamed Bd.named Bd.method).1
  have X0 : Stand p l e ({ frames := 0, cells := 0, slots := 0, locals := 0 } : Room) s m #[(.ref a0)] below meth c s₁ [] 0 0 := Stand.of_body Bd
  have e0 : s₁.heap = h0 := by rw [← hh, Bd.state]; rfl
  have N0 := Fr.nil n0
  have K0 : Keep h0 h0 [] := Keep.refl h0 []
  refine own_go (B := s₁.setTop (mkF m 0 #[.val (.ref a0)] [])) (fun t k => castTop (ef_3r m a0) k) ?_
  refine own_go (B := s₁.setTop (mkF m 1 #[.val (.ref a0)] [(.ref a0)])) (fun t k => ?_) ?_
  · show Steps p.tables e below (s₁.setTop (mkF m 0 #[.val (.ref a0)] [])) _
    refine XS.aloadN X0.here hx rfl (hb hby d3_0) rfl rfl ?_
    exact k
  obtain ⟨T_1, X_1, e_1, st_1⟩ := getF X0 hx hZ hown (host := "") (Or.inl (hw _ (List.mem_of_getElem? (i := 16) rfl))) Via.refl e0 F_translates_a0 (g := (mkF m 1 #[.val (.ref a0)] [(.ref a0)])) rfl rfl (hb hby d3_1)
  refine own_go (B := T_1.setTop (mkF m 4 #[.val (.ref a0)] [(.ref w)])) (fun t k => st_1 t k) ?_
  refine own_go (B := T_1.setTop (mkF m 11 #[.val (.ref a0)] [])) (fun t k => ?_) ?_
  · show Steps p.tables e below (T_1.setTop (mkF m 4 #[.val (.ref a0)] [(.ref w)])) _
    refine XS.ifnonnullYes X_1.here hx rfl (pc0 := 4) (pc' := 11) rfl (hb hby d3_4) rfl (by decide) (by decide) ?_
    exact k
  refine own_go (B := T_1.setTop (mkF m 12 #[.val (.ref a0)] [(.ref a0)])) (fun t k => ?_) ?_
  · show Steps p.tables e below (T_1.setTop (mkF m 11 #[.val (.ref a0)] [])) _
    refine XS.aloadN X_1.here hx rfl (hb hby d3_11) rfl rfl ?_
    exact k
  obtain ⟨T_2, X_2, e_2, st_2⟩ := getF X_1 hx hZ hown (host := "") (Or.inl (hw _ (List.mem_of_getElem? (i := 16) rfl))) Via.refl e_1 F_translates_a0 (g := (mkF m 12 #[.val (.ref a0)] [(.ref a0)])) rfl rfl (hb hby d3_12)
  refine own_go (B := T_2.setTop (mkF m 15 #[.val (.ref a0)] [(.ref w)])) (fun t k => st_2 t k) ?_
  obtain ⟨fs, hr, hrun, hended, hW, hsame⟩ := X_2.leave (v := some (.ref w)) (fun h => by rw [Bd.returns] at h; cases h)
  refine ⟨_, _, ?_, hrun, hended, _, _, rfl, ?_, ⟨_, rfl⟩, hW, hsame.mono (by decide) (by decide)⟩
  · show Steps p.tables e below (T_2.setTop (mkF m 15 #[.val (.ref a0)] [(.ref w)])) _
    jvm_step X_2.here [X_2.here.top, hx, (hb hby d3_15), X_2.method', Bd.returns, Value.isRef, FieldType.isReference]
    first | (intro acts; rw [hr _ acts rfl rfl rfl]) | rw [hr _ _ rfl rfl rfl]
    exact Steps.refl _
  · show Q3r Z a0 w h0 n0 _ T_2.heap _
    rw [e_2]
    exact ⟨rfl, N0, rfl⟩
def Q3 (Z : State) (a0 : Addr) (u : Value) (h0 : Heap) (n0 : Nat) (v : Option Value) (h : Heap) (L : List Loc) : Prop := v = some (.ref (own_base a0 u)) ∧ Fr n0 L ∧ h = h0
theorem rm3 (l : Launch) (Z : State) (a0 : Array Value) (hw : ∀ d ∈ tables_1, d.before a0 Z = true) (ws : List Jvm.Cond) (b0 : Addr) (u : Value) (h0 : Heap) (n0 : Nat) (Z0 : n0 ≤ h0.size) (hu : u.isRef = true) (F : Fld Z h0 b0 "partbook/Element" "translates" "Lpartbook/Element;" u) :
    MetFree l (⟨"partbook/Element", "base", "()Lpartbook/Element;"⟩ : MethodName) (head1 (Jvm.Cond.code (⟨"partbook/Element", "base", "()Lpartbook/Element;"⟩ : MethodName) prog_15_method_11_code 1 (some (.object "partbook/Element")) :: ws) ({ frames := 0, cells := 0, slots := 0, locals := 0 } : Room)) (fun a U => a = #[(.ref b0)] ∧ Z.Warmed39 U.vm ∧ U.heap = h0) (fun _ _ _ _ _ => True) (fun _ U o U' => ∃ v L, o = .returned v ∧ Q3 Z b0 u h0 n0 v U'.heap L ∧ FrameEnd U o U' L ({ frames := 0, cells := 0, slots := 0, locals := 0 } : Room).cells ({ frames := 0, cells := 0, slots := 0, locals := 0 } : Room).slots) := by
  rcases ref_cases hu with rfl | ⟨w, rfl⟩
  · exact rm3n l Z a0 hw ws b0 h0 n0 Z0 F
  · exact rm3r l Z a0 hw ws b0 w h0 n0 Z0 F
theorem own_valR (ad : Nat → Addr) (j : Nat) : (own_val ad j).isRef = true := by
  unfold own_val; repeat' split
  all_goals rfl
theorem own_pickL (i : Int32) : own_pick i < 13 := by
  by_cases h0 : i = (0 : Int32)
  · simp only [own_pick, if_pos h0]; decide
  by_cases h1 : i = (1 : Int32)
  · simp only [own_pick, if_neg h0, if_pos h1]; decide
  by_cases h2 : i = (2 : Int32)
  · simp only [own_pick, if_neg h0, if_neg h1, if_pos h2]; decide
  by_cases h3 : i = (3 : Int32)
  · simp only [own_pick, if_neg h0, if_neg h1, if_neg h2, if_pos h3]; decide
  by_cases h4 : i = (4 : Int32)
  · simp only [own_pick, if_neg h0, if_neg h1, if_neg h2, if_neg h3, if_pos h4]; decide
  by_cases h5 : i = (5 : Int32)
  · simp only [own_pick, if_neg h0, if_neg h1, if_neg h2, if_neg h3, if_neg h4, if_pos h5]; decide
  by_cases h6 : i = (6 : Int32)
  · simp only [own_pick, if_neg h0, if_neg h1, if_neg h2, if_neg h3, if_neg h4, if_neg h5, if_pos h6]; decide
  by_cases h7 : i = (7 : Int32)
  · simp only [own_pick, if_neg h0, if_neg h1, if_neg h2, if_neg h3, if_neg h4, if_neg h5, if_neg h6, if_pos h7]; decide
  by_cases h8 : i = (8 : Int32)
  · simp only [own_pick, if_neg h0, if_neg h1, if_neg h2, if_neg h3, if_neg h4, if_neg h5, if_neg h6, if_neg h7, if_pos h8]; decide
  by_cases h9 : i = (9 : Int32)
  · simp only [own_pick, if_neg h0, if_neg h1, if_neg h2, if_neg h3, if_neg h4, if_neg h5, if_neg h6, if_neg h7, if_neg h8, if_pos h9]; decide
  by_cases h10 : i = (10 : Int32)
  · simp only [own_pick, if_neg h0, if_neg h1, if_neg h2, if_neg h3, if_neg h4, if_neg h5, if_neg h6, if_neg h7, if_neg h8, if_neg h9, if_pos h10]; decide
  by_cases h11 : i = (11 : Int32)
  · simp only [own_pick, if_neg h0, if_neg h1, if_neg h2, if_neg h3, if_neg h4, if_neg h5, if_neg h6, if_neg h7, if_neg h8, if_neg h9, if_neg h10, if_pos h11]; decide
  simp only [own_pick, if_neg h0, if_neg h1, if_neg h2, if_neg h3, if_neg h4, if_neg h5, if_neg h6, if_neg h7, if_neg h8, if_neg h9, if_neg h10, if_neg h11]; decide
theorem own_expL (i : Int32) : own_exp i < 13 := by
  by_cases h0 : i = (0 : Int32)
  · simp only [own_exp, if_pos h0]; decide
  by_cases h1 : i = (1 : Int32)
  · simp only [own_exp, if_neg h0, if_pos h1]; decide
  by_cases h2 : i = (2 : Int32)
  · simp only [own_exp, if_neg h0, if_neg h1, if_pos h2]; decide
  by_cases h3 : i = (3 : Int32)
  · simp only [own_exp, if_neg h0, if_neg h1, if_neg h2, if_pos h3]; decide
  by_cases h4 : i = (4 : Int32)
  · simp only [own_exp, if_neg h0, if_neg h1, if_neg h2, if_neg h3, if_pos h4]; decide
  by_cases h5 : i = (5 : Int32)
  · simp only [own_exp, if_neg h0, if_neg h1, if_neg h2, if_neg h3, if_neg h4, if_pos h5]; decide
  by_cases h6 : i = (6 : Int32)
  · simp only [own_exp, if_neg h0, if_neg h1, if_neg h2, if_neg h3, if_neg h4, if_neg h5, if_pos h6]; decide
  by_cases h7 : i = (7 : Int32)
  · simp only [own_exp, if_neg h0, if_neg h1, if_neg h2, if_neg h3, if_neg h4, if_neg h5, if_neg h6, if_pos h7]; decide
  by_cases h8 : i = (8 : Int32)
  · simp only [own_exp, if_neg h0, if_neg h1, if_neg h2, if_neg h3, if_neg h4, if_neg h5, if_neg h6, if_neg h7, if_pos h8]; decide
  by_cases h9 : i = (9 : Int32)
  · simp only [own_exp, if_neg h0, if_neg h1, if_neg h2, if_neg h3, if_neg h4, if_neg h5, if_neg h6, if_neg h7, if_neg h8, if_pos h9]; decide
  by_cases h10 : i = (10 : Int32)
  · simp only [own_exp, if_neg h0, if_neg h1, if_neg h2, if_neg h3, if_neg h4, if_neg h5, if_neg h6, if_neg h7, if_neg h8, if_neg h9, if_pos h10]; decide
  by_cases h11 : i = (11 : Int32)
  · simp only [own_exp, if_neg h0, if_neg h1, if_neg h2, if_neg h3, if_neg h4, if_neg h5, if_neg h6, if_neg h7, if_neg h8, if_neg h9, if_neg h10, if_pos h11]; decide
  simp only [own_exp, if_neg h0, if_neg h1, if_neg h2, if_neg h3, if_neg h4, if_neg h5, if_neg h6, if_neg h7, if_neg h8, if_neg h9, if_neg h10, if_neg h11]; decide
theorem own_law1 (ad : Nat → Addr) (i : Int32) : own_base (ad (own_pick i)) (own_val ad (own_pick i)) = ad (own_exp i) := by
  by_cases h0 : i = (0 : Int32)
  · simp only [own_pick, own_exp, if_pos h0]; rfl
  by_cases h1 : i = (1 : Int32)
  · simp only [own_pick, own_exp, if_neg h0, if_pos h1]; rfl
  by_cases h2 : i = (2 : Int32)
  · simp only [own_pick, own_exp, if_neg h0, if_neg h1, if_pos h2]; rfl
  by_cases h3 : i = (3 : Int32)
  · simp only [own_pick, own_exp, if_neg h0, if_neg h1, if_neg h2, if_pos h3]; rfl
  by_cases h4 : i = (4 : Int32)
  · simp only [own_pick, own_exp, if_neg h0, if_neg h1, if_neg h2, if_neg h3, if_pos h4]; rfl
  by_cases h5 : i = (5 : Int32)
  · simp only [own_pick, own_exp, if_neg h0, if_neg h1, if_neg h2, if_neg h3, if_neg h4, if_pos h5]; rfl
  by_cases h6 : i = (6 : Int32)
  · simp only [own_pick, own_exp, if_neg h0, if_neg h1, if_neg h2, if_neg h3, if_neg h4, if_neg h5, if_pos h6]; rfl
  by_cases h7 : i = (7 : Int32)
  · simp only [own_pick, own_exp, if_neg h0, if_neg h1, if_neg h2, if_neg h3, if_neg h4, if_neg h5, if_neg h6, if_pos h7]; rfl
  by_cases h8 : i = (8 : Int32)
  · simp only [own_pick, own_exp, if_neg h0, if_neg h1, if_neg h2, if_neg h3, if_neg h4, if_neg h5, if_neg h6, if_neg h7, if_pos h8]; rfl
  by_cases h9 : i = (9 : Int32)
  · simp only [own_pick, own_exp, if_neg h0, if_neg h1, if_neg h2, if_neg h3, if_neg h4, if_neg h5, if_neg h6, if_neg h7, if_neg h8, if_pos h9]; rfl
  by_cases h10 : i = (10 : Int32)
  · simp only [own_pick, own_exp, if_neg h0, if_neg h1, if_neg h2, if_neg h3, if_neg h4, if_neg h5, if_neg h6, if_neg h7, if_neg h8, if_neg h9, if_pos h10]; rfl
  by_cases h11 : i = (11 : Int32)
  · simp only [own_pick, own_exp, if_neg h0, if_neg h1, if_neg h2, if_neg h3, if_neg h4, if_neg h5, if_neg h6, if_neg h7, if_neg h8, if_neg h9, if_neg h10, if_pos h11]; rfl
  simp only [own_pick, own_exp, if_neg h0, if_neg h1, if_neg h2, if_neg h3, if_neg h4, if_neg h5, if_neg h6, if_neg h7, if_neg h8, if_neg h9, if_neg h10, if_neg h11]; rfl
theorem own_law2 (ad : Nat → Addr) (i : Int32) : own_base (ad (own_exp i)) (own_val ad (own_exp i)) = ad (own_exp i) := by
  by_cases h0 : i = (0 : Int32)
  · simp only [own_exp, if_pos h0]; rfl
  by_cases h1 : i = (1 : Int32)
  · simp only [own_exp, if_neg h0, if_pos h1]; rfl
  by_cases h2 : i = (2 : Int32)
  · simp only [own_exp, if_neg h0, if_neg h1, if_pos h2]; rfl
  by_cases h3 : i = (3 : Int32)
  · simp only [own_exp, if_neg h0, if_neg h1, if_neg h2, if_pos h3]; rfl
  by_cases h4 : i = (4 : Int32)
  · simp only [own_exp, if_neg h0, if_neg h1, if_neg h2, if_neg h3, if_pos h4]; rfl
  by_cases h5 : i = (5 : Int32)
  · simp only [own_exp, if_neg h0, if_neg h1, if_neg h2, if_neg h3, if_neg h4, if_pos h5]; rfl
  by_cases h6 : i = (6 : Int32)
  · simp only [own_exp, if_neg h0, if_neg h1, if_neg h2, if_neg h3, if_neg h4, if_neg h5, if_pos h6]; rfl
  by_cases h7 : i = (7 : Int32)
  · simp only [own_exp, if_neg h0, if_neg h1, if_neg h2, if_neg h3, if_neg h4, if_neg h5, if_neg h6, if_pos h7]; rfl
  by_cases h8 : i = (8 : Int32)
  · simp only [own_exp, if_neg h0, if_neg h1, if_neg h2, if_neg h3, if_neg h4, if_neg h5, if_neg h6, if_neg h7, if_pos h8]; rfl
  by_cases h9 : i = (9 : Int32)
  · simp only [own_exp, if_neg h0, if_neg h1, if_neg h2, if_neg h3, if_neg h4, if_neg h5, if_neg h6, if_neg h7, if_neg h8, if_pos h9]; rfl
  by_cases h10 : i = (10 : Int32)
  · simp only [own_exp, if_neg h0, if_neg h1, if_neg h2, if_neg h3, if_neg h4, if_neg h5, if_neg h6, if_neg h7, if_neg h8, if_neg h9, if_pos h10]; rfl
  by_cases h11 : i = (11 : Int32)
  · simp only [own_exp, if_neg h0, if_neg h1, if_neg h2, if_neg h3, if_neg h4, if_neg h5, if_neg h6, if_neg h7, if_neg h8, if_neg h9, if_neg h10, if_pos h11]; rfl
  simp only [own_exp, if_neg h0, if_neg h1, if_neg h2, if_neg h3, if_neg h4, if_neg h5, if_neg h6, if_neg h7, if_neg h8, if_neg h9, if_neg h10, if_neg h11]; rfl
theorem pn_0 : plainName "partbook/ElementBasePinLaw" = true := by first | (simp [plainName, overriddenIn]; done) | decide +kernel
theorem ef_0 (m : MethodId) (p0 : Int32) : entryFrame m #[(.int p0)] maxLocals = mkF m 0 #[.val (.int p0), .unset, .unset, .unset, .unset] [] := by first | (simp [entryFrame, mkF, argsToLocals, Value.category, maxLocals]; done) | rfl
theorem pd_0 : parseMethodDescriptor "(I)Lpartbook/Element;" = some ⟨[.int], some (.object "partbook/Element")⟩ := by decide +kernel
theorem pd_1 : parseMethodDescriptor "()Lpartbook/Element;" = some ⟨[], some (.object "partbook/Element")⟩ := by decide +kernel
def Q0 (Z : State) (p0 : Int32) (ad : Nat → Addr) (h0 : Heap) (n0 : Nat) (v : Option Value) (h : Heap) (L : List Loc) : Prop := v = some (.int 1) ∧ Fr n0 L ∧ True
set_option maxRecDepth 65536 in
set_option maxHeartbeats 40000000 in
theorem rm0 (l : Launch) (Z : State) (av0 : Array Value) (hw : ∀ d ∈ tables_1, d.before av0 Z = true) (ws : List Jvm.Cond) (p0 : Int32) (ad : Nat → Addr) (h0 : Heap) (n0 : Nat) (Z0 : n0 ≤ h0.size) (hS : own_S Z h0 ad) (hE : ∀ j, j < 13 → Exa Z h0 (ad j) "partbook/Element") (hF : ∀ j, j < 13 → Fld Z h0 (ad j) "partbook/Element" "translates" "Lpartbook/Element;" (own_val ad j)) :
    MetFree l x (head1 (Jvm.Cond.code x code maxLocals ret :: ws) room_1) (fun a U => a = #[(.int p0)] ∧ Z.Warmed39 U.vm ∧ U.heap = h0) (fun _ _ _ _ _ => True) (fun _ U o U' => ∃ v L, o = .returned v ∧ Q0 Z p0 ad h0 n0 v U'.heap L ∧ FrameEnd U o U' L room_1.cells room_1.slots) := by
  refine MetFree.of_bodySF (plainFor_of_name pn_0) hisR ?_
  intro p e s m args below meth c s₁ Bd hml0 hP hK
  obtain ⟨rfl, hZ, hh⟩ := hP
  have hx := Bd.exec
  have hby := Bd.bytes
  have hml : c.maxLocals = 5 := hml0
  have hown : s.vm.findClass "partbook/ElementBasePinLaw" = some m.cls := findClass_of_methodNamed Bd.named
  have hnm := (name_of_methodNamed Bd.named Bd.method).1
  have X0 : Stand p l e room_1 s m #[(.int p0)] below meth c s₁ [] 0 0 := Stand.of_body Bd
  have e0 : s₁.heap = h0 := by rw [← hh, Bd.state]; rfl
  have N0 := Fr.nil n0
  have K0 : Keep h0 h0 [] := Keep.refl h0 []
  refine own_go (B := s₁.setTop (mkF m 0 #[.val (.int p0), .unset, .unset, .unset, .unset] [])) (fun t k => castTop (ef_0 m p0) k) ?_
  refine own_go (B := s₁.setTop (mkF m 9 #[.val (.int p0), .val (.int ((p0 &&& (2147483647 : Int32)) - ((p0 &&& (2147483647 : Int32)) / (13 : Int32)) * (13 : Int32))), .unset, .unset, .unset] [(.int ((p0 &&& (2147483647 : Int32)) - ((p0 &&& (2147483647 : Int32)) / (13 : Int32)) * (13 : Int32)))])) (fun t k => ?_) ?_
  · show Steps p.tables e below (s₁.setTop (mkF m 0 #[.val (.int p0), .unset, .unset, .unset, .unset] [])) _
    refine XS.iloadN X0.here hx rfl (hb hby at_0) rfl ?_
    show Steps p.tables e below (s₁.setTop (mkF m 1 #[.val (.int p0), .unset, .unset, .unset, .unset] [(.int p0)])) _
    refine X0.ldcInt hx hown (mvT hZ (hw _ (List.mem_of_getElem? (i := 0) rfl))) (g := (mkF m 1 #[.val (.int p0), .unset, .unset, .unset, .unset] [(.int p0)])) rfl (hb hby at_1) _ ?_
    show Steps p.tables e below (s₁.setTop (mkF m 3 #[.val (.int p0), .unset, .unset, .unset, .unset] [(.int (2147483647 : Int32)), (.int p0)])) _
    refine XS.iand X0.here hx rfl (hb hby at_3) rfl ?_
    show Steps p.tables e below (s₁.setTop (mkF m 4 #[.val (.int p0), .unset, .unset, .unset, .unset] [(.int (p0 &&& (2147483647 : Int32)))])) _
    refine XS.bipush X0.here hx rfl (hb hby at_4) ?_
    show Steps p.tables e below (s₁.setTop (mkF m 6 #[.val (.int p0), .unset, .unset, .unset, .unset] [(.int (13 : Int32)), (.int (p0 &&& (2147483647 : Int32)))])) _
    refine XS.irem X0.here hx rfl (hb hby at_6) rfl (by decide) ?_
    show Steps p.tables e below (s₁.setTop (mkF m 7 #[.val (.int p0), .unset, .unset, .unset, .unset] [(.int ((p0 &&& (2147483647 : Int32)) - ((p0 &&& (2147483647 : Int32)) / (13 : Int32)) * (13 : Int32)))])) _
    refine XS.istoreN X0.here hx rfl (hb hby at_7) rfl (l' := #[.val (.int p0), .val (.int ((p0 &&& (2147483647 : Int32)) - ((p0 &&& (2147483647 : Int32)) / (13 : Int32)) * (13 : Int32))), .unset, .unset, .unset]) rfl ?_
    show Steps p.tables e below (s₁.setTop (mkF m 8 #[.val (.int p0), .val (.int ((p0 &&& (2147483647 : Int32)) - ((p0 &&& (2147483647 : Int32)) / (13 : Int32)) * (13 : Int32))), .unset, .unset, .unset] [])) _
    refine XS.iloadN X0.here hx rfl (hb hby at_8) rfl ?_
    exact k
  obtain ⟨_, _, ⟨T_1, L_1, k_1, n_1⟩, -, X_1, ⟨Lc_1, hQ_1, l_1, y_1, z_1⟩, st_1⟩ := Jvm.LawKit.callS X0 hx (y := (⟨"partbook/ElementBasePinLaw", "pick", "(I)Lpartbook/Element;"⟩ : MethodName)) hown (mvT hZ (hw _ (List.mem_of_getElem? (i := 1) rfl))) (mvT hZ (hw _ (List.mem_of_getElem? (i := 2) rfl))) (mvT hZ (hw _ (List.mem_of_getElem? (i := 3) rfl))) (mvT hZ (hw _ (List.mem_of_getElem? (i := 4) rfl))) (by decide) (backOf (W := 0) (rm1 l Z av0 hw [] ((p0 &&& (2147483647 : Int32)) - ((p0 &&& (2147483647 : Int32)) / (13 : Int32)) * (13 : Int32)) ad h0 n0 Z0 hS) hZ (hw _ (List.mem_of_getElem? (i := 4) rfl)) (hw _ (List.mem_of_getElem? (i := 3) rfl)) (by decide) (by decide)) (g := (mkF m 9 #[.val (.int p0), .val (.int ((p0 &&& (2147483647 : Int32)) - ((p0 &&& (2147483647 : Int32)) / (13 : Int32)) * (13 : Int32))), .unset, .unset, .unset] [(.int ((p0 &&& (2147483647 : Int32)) - ((p0 &&& (2147483647 : Int32)) / (13 : Int32)) * (13 : Int32)))])) rfl (by rw [hml]; rfl) (argsL := [(.int ((p0 &&& (2147483647 : Int32)) - ((p0 &&& (2147483647 : Int32)) / (13 : Int32)) * (13 : Int32)))]) (rest := []) (lenOf pd_0 rfl) rfl (by show 2 * 0 + _ ≤ _; exact Nat.le_of_eq rfl) (hb hby at_9) (fun _ _ => ⟨rfl, e0, (by decide : 0 + 0 ≤ _), (by decide : 0 + 0 ≤ _)⟩)
  dsimp only [Pt.U, Pt.locs, Pt.cells, Pt.slots] at X_1 l_1 y_1 z_1 st_1 hQ_1
  subst l_1 y_1 z_1
  obtain ⟨rfl, N_1q, e_1⟩ := hQ_1
  have N_1 := Fr.app N0 N_1q
  refine own_go (B := T_1.setTop (mkF m 12 #[.val (.int p0), .val (.int ((p0 &&& (2147483647 : Int32)) - ((p0 &&& (2147483647 : Int32)) / (13 : Int32)) * (13 : Int32))), .unset, .unset, .unset] [(.ref (ad (own_pick ((p0 &&& (2147483647 : Int32)) - ((p0 &&& (2147483647 : Int32)) / (13 : Int32)) * (13 : Int32)))))])) (fun t k => st_1 t k) ?_
  refine own_go (B := T_1.setTop (mkF m 14 #[.val (.int p0), .val (.int ((p0 &&& (2147483647 : Int32)) - ((p0 &&& (2147483647 : Int32)) / (13 : Int32)) * (13 : Int32))), .val (.ref (ad (own_pick ((p0 &&& (2147483647 : Int32)) - ((p0 &&& (2147483647 : Int32)) / (13 : Int32)) * (13 : Int32))))), .unset, .unset] [(.int ((p0 &&& (2147483647 : Int32)) - ((p0 &&& (2147483647 : Int32)) / (13 : Int32)) * (13 : Int32)))])) (fun t k => ?_) ?_
  · show Steps p.tables e below (T_1.setTop (mkF m 12 #[.val (.int p0), .val (.int ((p0 &&& (2147483647 : Int32)) - ((p0 &&& (2147483647 : Int32)) / (13 : Int32)) * (13 : Int32))), .unset, .unset, .unset] [(.ref (ad (own_pick ((p0 &&& (2147483647 : Int32)) - ((p0 &&& (2147483647 : Int32)) / (13 : Int32)) * (13 : Int32)))))])) _
    refine XS.astoreN X_1.here hx rfl (hb hby at_12) rfl rfl (l' := #[.val (.int p0), .val (.int ((p0 &&& (2147483647 : Int32)) - ((p0 &&& (2147483647 : Int32)) / (13 : Int32)) * (13 : Int32))), .val (.ref (ad (own_pick ((p0 &&& (2147483647 : Int32)) - ((p0 &&& (2147483647 : Int32)) / (13 : Int32)) * (13 : Int32))))), .unset, .unset]) rfl ?_
    show Steps p.tables e below (T_1.setTop (mkF m 13 #[.val (.int p0), .val (.int ((p0 &&& (2147483647 : Int32)) - ((p0 &&& (2147483647 : Int32)) / (13 : Int32)) * (13 : Int32))), .val (.ref (ad (own_pick ((p0 &&& (2147483647 : Int32)) - ((p0 &&& (2147483647 : Int32)) / (13 : Int32)) * (13 : Int32))))), .unset, .unset] [])) _
    refine XS.iloadN X_1.here hx rfl (hb hby at_13) rfl ?_
    exact k
  obtain ⟨_, _, ⟨T_2, L_2, k_2, n_2⟩, -, X_2, ⟨Lc_2, hQ_2, l_2, y_2, z_2⟩, st_2⟩ := Jvm.LawKit.callS X_1 hx (y := (⟨"partbook/ElementBasePinLaw", "expectedBase", "(I)Lpartbook/Element;"⟩ : MethodName)) hown (mvT hZ (hw _ (List.mem_of_getElem? (i := 8) rfl))) (mvT hZ (hw _ (List.mem_of_getElem? (i := 9) rfl))) (mvT hZ (hw _ (List.mem_of_getElem? (i := 3) rfl))) (mvT hZ (hw _ (List.mem_of_getElem? (i := 10) rfl))) (by decide) (backOf (W := 0) (rm2 l Z av0 hw [] ((p0 &&& (2147483647 : Int32)) - ((p0 &&& (2147483647 : Int32)) / (13 : Int32)) * (13 : Int32)) ad h0 n0 Z0 hS) hZ (hw _ (List.mem_of_getElem? (i := 10) rfl)) (hw _ (List.mem_of_getElem? (i := 3) rfl)) (by decide) (by decide)) (g := (mkF m 14 #[.val (.int p0), .val (.int ((p0 &&& (2147483647 : Int32)) - ((p0 &&& (2147483647 : Int32)) / (13 : Int32)) * (13 : Int32))), .val (.ref (ad (own_pick ((p0 &&& (2147483647 : Int32)) - ((p0 &&& (2147483647 : Int32)) / (13 : Int32)) * (13 : Int32))))), .unset, .unset] [(.int ((p0 &&& (2147483647 : Int32)) - ((p0 &&& (2147483647 : Int32)) / (13 : Int32)) * (13 : Int32)))])) rfl (by rw [hml]; rfl) (argsL := [(.int ((p0 &&& (2147483647 : Int32)) - ((p0 &&& (2147483647 : Int32)) / (13 : Int32)) * (13 : Int32)))]) (rest := []) (lenOf pd_0 rfl) rfl (by show 2 * 0 + _ ≤ _; exact Nat.le_of_eq rfl) (hb hby at_14) (fun _ _ => ⟨rfl, e_1, (by decide : 0 + 0 ≤ _), (by decide : 0 + 0 ≤ _)⟩)
  dsimp only [Pt.U, Pt.locs, Pt.cells, Pt.slots] at X_2 l_2 y_2 z_2 st_2 hQ_2
  subst l_2 y_2 z_2
  obtain ⟨rfl, N_2q, e_2⟩ := hQ_2
  have N_2 := Fr.app N_1 N_2q
  refine own_go (B := T_2.setTop (mkF m 17 #[.val (.int p0), .val (.int ((p0 &&& (2147483647 : Int32)) - ((p0 &&& (2147483647 : Int32)) / (13 : Int32)) * (13 : Int32))), .val (.ref (ad (own_pick ((p0 &&& (2147483647 : Int32)) - ((p0 &&& (2147483647 : Int32)) / (13 : Int32)) * (13 : Int32))))), .unset, .unset] [(.ref (ad (own_exp ((p0 &&& (2147483647 : Int32)) - ((p0 &&& (2147483647 : Int32)) / (13 : Int32)) * (13 : Int32)))))])) (fun t k => st_2 t k) ?_
  refine own_go (B := T_2.setTop (mkF m 19 #[.val (.int p0), .val (.int ((p0 &&& (2147483647 : Int32)) - ((p0 &&& (2147483647 : Int32)) / (13 : Int32)) * (13 : Int32))), .val (.ref (ad (own_pick ((p0 &&& (2147483647 : Int32)) - ((p0 &&& (2147483647 : Int32)) / (13 : Int32)) * (13 : Int32))))), .val (.ref (ad (own_exp ((p0 &&& (2147483647 : Int32)) - ((p0 &&& (2147483647 : Int32)) / (13 : Int32)) * (13 : Int32))))), .unset] [(.ref (ad (own_pick ((p0 &&& (2147483647 : Int32)) - ((p0 &&& (2147483647 : Int32)) / (13 : Int32)) * (13 : Int32)))))])) (fun t k => ?_) ?_
  · show Steps p.tables e below (T_2.setTop (mkF m 17 #[.val (.int p0), .val (.int ((p0 &&& (2147483647 : Int32)) - ((p0 &&& (2147483647 : Int32)) / (13 : Int32)) * (13 : Int32))), .val (.ref (ad (own_pick ((p0 &&& (2147483647 : Int32)) - ((p0 &&& (2147483647 : Int32)) / (13 : Int32)) * (13 : Int32))))), .unset, .unset] [(.ref (ad (own_exp ((p0 &&& (2147483647 : Int32)) - ((p0 &&& (2147483647 : Int32)) / (13 : Int32)) * (13 : Int32)))))])) _
    refine XS.astoreN X_2.here hx rfl (hb hby at_17) rfl rfl (l' := #[.val (.int p0), .val (.int ((p0 &&& (2147483647 : Int32)) - ((p0 &&& (2147483647 : Int32)) / (13 : Int32)) * (13 : Int32))), .val (.ref (ad (own_pick ((p0 &&& (2147483647 : Int32)) - ((p0 &&& (2147483647 : Int32)) / (13 : Int32)) * (13 : Int32))))), .val (.ref (ad (own_exp ((p0 &&& (2147483647 : Int32)) - ((p0 &&& (2147483647 : Int32)) / (13 : Int32)) * (13 : Int32))))), .unset]) rfl ?_
    show Steps p.tables e below (T_2.setTop (mkF m 18 #[.val (.int p0), .val (.int ((p0 &&& (2147483647 : Int32)) - ((p0 &&& (2147483647 : Int32)) / (13 : Int32)) * (13 : Int32))), .val (.ref (ad (own_pick ((p0 &&& (2147483647 : Int32)) - ((p0 &&& (2147483647 : Int32)) / (13 : Int32)) * (13 : Int32))))), .val (.ref (ad (own_exp ((p0 &&& (2147483647 : Int32)) - ((p0 &&& (2147483647 : Int32)) / (13 : Int32)) * (13 : Int32))))), .unset] [])) _
    refine XS.aloadN X_2.here hx rfl (hb hby at_18) rfl rfl ?_
    exact k
  obtain ⟨cq_3, kq_3, q_3a, q_3b, q_3c⟩ := isOf hZ e_2 (hE _ (own_pickL _))
  obtain ⟨_, _, ⟨T_3, L_3, k_3, n_3⟩, -, X_3, ⟨Lc_3, hQ_3, l_3, y_3, z_3⟩, st_3⟩ := X_2.virtualBack hx (y := (⟨"partbook/Element", "base", "()Lpartbook/Element;"⟩ : MethodName)) (z := (⟨"partbook/Element", "base", "()Lpartbook/Element;"⟩ : MethodName)) hown (mvT hZ (hw _ (List.mem_of_getElem? (i := 11) rfl))) (mvT hZ (hw _ (List.mem_of_getElem? (i := 12) rfl))) (notFace_of_selects (args := #[]) (mvT hZ (hw _ (List.mem_of_getElem? (i := 14) rfl)))) (mvT hZ (hw _ (List.mem_of_getElem? (i := 14) rfl))) (mvT hZ (hw _ (List.mem_of_getElem? (i := 13) rfl))) (by decide) (backOf (W := 0) (rm3 l Z av0 hw [] (ad (own_pick ((p0 &&& (2147483647 : Int32)) - ((p0 &&& (2147483647 : Int32)) / (13 : Int32)) * (13 : Int32)))) (own_val ad (own_pick ((p0 &&& (2147483647 : Int32)) - ((p0 &&& (2147483647 : Int32)) / (13 : Int32)) * (13 : Int32)))) h0 n0 Z0 (own_valR ad _) (hF _ (own_pickL _))) hZ (hw _ (List.mem_of_getElem? (i := 15) rfl)) (hw _ (List.mem_of_getElem? (i := 6) rfl)) (by decide) (by decide)) q_3a q_3c (g := (mkF m 19 #[.val (.int p0), .val (.int ((p0 &&& (2147483647 : Int32)) - ((p0 &&& (2147483647 : Int32)) / (13 : Int32)) * (13 : Int32))), .val (.ref (ad (own_pick ((p0 &&& (2147483647 : Int32)) - ((p0 &&& (2147483647 : Int32)) / (13 : Int32)) * (13 : Int32))))), .val (.ref (ad (own_exp ((p0 &&& (2147483647 : Int32)) - ((p0 &&& (2147483647 : Int32)) / (13 : Int32)) * (13 : Int32))))), .unset] [(.ref (ad (own_pick ((p0 &&& (2147483647 : Int32)) - ((p0 &&& (2147483647 : Int32)) / (13 : Int32)) * (13 : Int32)))))])) rfl (by rw [hml]; rfl) (Steps.refl _) (argsL := []) (rest := []) (lenOf pd_1 rfl) rfl (by show 2 * 0 + _ ≤ _; exact Nat.le_of_eq rfl) (hb hby at_19) (fun _ _ => ⟨rfl, e_2, (by decide : 0 + 0 ≤ _), (by decide : 0 + 0 ≤ _)⟩)
  dsimp only [Pt.U, Pt.locs, Pt.cells, Pt.slots] at X_3 l_3 y_3 z_3 st_3 hQ_3
  subst l_3 y_3 z_3
  obtain ⟨hv_3, N_3q, e_3⟩ := hQ_3
  have N_3 := Fr.app N_2 N_3q
  rw [own_law1] at hv_3
  subst hv_3
  refine own_go (B := T_3.setTop (mkF m 22 #[.val (.int p0), .val (.int ((p0 &&& (2147483647 : Int32)) - ((p0 &&& (2147483647 : Int32)) / (13 : Int32)) * (13 : Int32))), .val (.ref (ad (own_pick ((p0 &&& (2147483647 : Int32)) - ((p0 &&& (2147483647 : Int32)) / (13 : Int32)) * (13 : Int32))))), .val (.ref (ad (own_exp ((p0 &&& (2147483647 : Int32)) - ((p0 &&& (2147483647 : Int32)) / (13 : Int32)) * (13 : Int32))))), .unset] [(.ref (ad (own_exp ((p0 &&& (2147483647 : Int32)) - ((p0 &&& (2147483647 : Int32)) / (13 : Int32)) * (13 : Int32)))))])) (fun t k => st_3.trans k) ?_
  refine own_go (B := T_3.setTop (mkF m 27 #[.val (.int p0), .val (.int ((p0 &&& (2147483647 : Int32)) - ((p0 &&& (2147483647 : Int32)) / (13 : Int32)) * (13 : Int32))), .val (.ref (ad (own_pick ((p0 &&& (2147483647 : Int32)) - ((p0 &&& (2147483647 : Int32)) / (13 : Int32)) * (13 : Int32))))), .val (.ref (ad (own_exp ((p0 &&& (2147483647 : Int32)) - ((p0 &&& (2147483647 : Int32)) / (13 : Int32)) * (13 : Int32))))), .val (.ref (ad (own_exp ((p0 &&& (2147483647 : Int32)) - ((p0 &&& (2147483647 : Int32)) / (13 : Int32)) * (13 : Int32)))))] [(.ref (ad (own_exp ((p0 &&& (2147483647 : Int32)) - ((p0 &&& (2147483647 : Int32)) / (13 : Int32)) * (13 : Int32))))), (.ref (ad (own_exp ((p0 &&& (2147483647 : Int32)) - ((p0 &&& (2147483647 : Int32)) / (13 : Int32)) * (13 : Int32)))))])) (fun t k => ?_) ?_
  · show Steps p.tables e below (T_3.setTop (mkF m 22 #[.val (.int p0), .val (.int ((p0 &&& (2147483647 : Int32)) - ((p0 &&& (2147483647 : Int32)) / (13 : Int32)) * (13 : Int32))), .val (.ref (ad (own_pick ((p0 &&& (2147483647 : Int32)) - ((p0 &&& (2147483647 : Int32)) / (13 : Int32)) * (13 : Int32))))), .val (.ref (ad (own_exp ((p0 &&& (2147483647 : Int32)) - ((p0 &&& (2147483647 : Int32)) / (13 : Int32)) * (13 : Int32))))), .unset] [(.ref (ad (own_exp ((p0 &&& (2147483647 : Int32)) - ((p0 &&& (2147483647 : Int32)) / (13 : Int32)) * (13 : Int32)))))])) _
    refine XS.astore X_3.here hx rfl (hb hby at_22) rfl rfl (l' := #[.val (.int p0), .val (.int ((p0 &&& (2147483647 : Int32)) - ((p0 &&& (2147483647 : Int32)) / (13 : Int32)) * (13 : Int32))), .val (.ref (ad (own_pick ((p0 &&& (2147483647 : Int32)) - ((p0 &&& (2147483647 : Int32)) / (13 : Int32)) * (13 : Int32))))), .val (.ref (ad (own_exp ((p0 &&& (2147483647 : Int32)) - ((p0 &&& (2147483647 : Int32)) / (13 : Int32)) * (13 : Int32))))), .val (.ref (ad (own_exp ((p0 &&& (2147483647 : Int32)) - ((p0 &&& (2147483647 : Int32)) / (13 : Int32)) * (13 : Int32)))))]) rfl ?_
    show Steps p.tables e below (T_3.setTop (mkF m 24 #[.val (.int p0), .val (.int ((p0 &&& (2147483647 : Int32)) - ((p0 &&& (2147483647 : Int32)) / (13 : Int32)) * (13 : Int32))), .val (.ref (ad (own_pick ((p0 &&& (2147483647 : Int32)) - ((p0 &&& (2147483647 : Int32)) / (13 : Int32)) * (13 : Int32))))), .val (.ref (ad (own_exp ((p0 &&& (2147483647 : Int32)) - ((p0 &&& (2147483647 : Int32)) / (13 : Int32)) * (13 : Int32))))), .val (.ref (ad (own_exp ((p0 &&& (2147483647 : Int32)) - ((p0 &&& (2147483647 : Int32)) / (13 : Int32)) * (13 : Int32)))))] [])) _
    refine XS.aload X_3.here hx rfl (hb hby at_24) rfl rfl ?_
    show Steps p.tables e below (T_3.setTop (mkF m 26 #[.val (.int p0), .val (.int ((p0 &&& (2147483647 : Int32)) - ((p0 &&& (2147483647 : Int32)) / (13 : Int32)) * (13 : Int32))), .val (.ref (ad (own_pick ((p0 &&& (2147483647 : Int32)) - ((p0 &&& (2147483647 : Int32)) / (13 : Int32)) * (13 : Int32))))), .val (.ref (ad (own_exp ((p0 &&& (2147483647 : Int32)) - ((p0 &&& (2147483647 : Int32)) / (13 : Int32)) * (13 : Int32))))), .val (.ref (ad (own_exp ((p0 &&& (2147483647 : Int32)) - ((p0 &&& (2147483647 : Int32)) / (13 : Int32)) * (13 : Int32)))))] [(.ref (ad (own_exp ((p0 &&& (2147483647 : Int32)) - ((p0 &&& (2147483647 : Int32)) / (13 : Int32)) * (13 : Int32)))))])) _
    refine XS.aloadN X_3.here hx rfl (hb hby at_26) rfl rfl ?_
    exact k
  refine own_go (B := T_3.setTop (mkF m 30 #[.val (.int p0), .val (.int ((p0 &&& (2147483647 : Int32)) - ((p0 &&& (2147483647 : Int32)) / (13 : Int32)) * (13 : Int32))), .val (.ref (ad (own_pick ((p0 &&& (2147483647 : Int32)) - ((p0 &&& (2147483647 : Int32)) / (13 : Int32)) * (13 : Int32))))), .val (.ref (ad (own_exp ((p0 &&& (2147483647 : Int32)) - ((p0 &&& (2147483647 : Int32)) / (13 : Int32)) * (13 : Int32))))), .val (.ref (ad (own_exp ((p0 &&& (2147483647 : Int32)) - ((p0 &&& (2147483647 : Int32)) / (13 : Int32)) * (13 : Int32)))))] [])) (fun t k => ?_) ?_
  · show Steps p.tables e below (T_3.setTop (mkF m 27 #[.val (.int p0), .val (.int ((p0 &&& (2147483647 : Int32)) - ((p0 &&& (2147483647 : Int32)) / (13 : Int32)) * (13 : Int32))), .val (.ref (ad (own_pick ((p0 &&& (2147483647 : Int32)) - ((p0 &&& (2147483647 : Int32)) / (13 : Int32)) * (13 : Int32))))), .val (.ref (ad (own_exp ((p0 &&& (2147483647 : Int32)) - ((p0 &&& (2147483647 : Int32)) / (13 : Int32)) * (13 : Int32))))), .val (.ref (ad (own_exp ((p0 &&& (2147483647 : Int32)) - ((p0 &&& (2147483647 : Int32)) / (13 : Int32)) * (13 : Int32)))))] [(.ref (ad (own_exp ((p0 &&& (2147483647 : Int32)) - ((p0 &&& (2147483647 : Int32)) / (13 : Int32)) * (13 : Int32))))), (.ref (ad (own_exp ((p0 &&& (2147483647 : Int32)) - ((p0 &&& (2147483647 : Int32)) / (13 : Int32)) * (13 : Int32)))))])) _
    refine Jvm.RoadKit.acmp (g := (mkF m 27 #[.val (.int p0), .val (.int ((p0 &&& (2147483647 : Int32)) - ((p0 &&& (2147483647 : Int32)) / (13 : Int32)) * (13 : Int32))), .val (.ref (ad (own_pick ((p0 &&& (2147483647 : Int32)) - ((p0 &&& (2147483647 : Int32)) / (13 : Int32)) * (13 : Int32))))), .val (.ref (ad (own_exp ((p0 &&& (2147483647 : Int32)) - ((p0 &&& (2147483647 : Int32)) / (13 : Int32)) * (13 : Int32))))), .val (.ref (ad (own_exp ((p0 &&& (2147483647 : Int32)) - ((p0 &&& (2147483647 : Int32)) / (13 : Int32)) * (13 : Int32)))))] [(.ref (ad (own_exp ((p0 &&& (2147483647 : Int32)) - ((p0 &&& (2147483647 : Int32)) / (13 : Int32)) * (13 : Int32))))), (.ref (ad (own_exp ((p0 &&& (2147483647 : Int32)) - ((p0 &&& (2147483647 : Int32)) / (13 : Int32)) * (13 : Int32)))))])) X_3 hx rfl rfl rfl (pc0 := 27) (pc' := 30) (same := true) rfl (hb hby at_27) rfl (decide_eq_true rfl) (by decide) (by decide) ?_
    exact k
  refine own_go (B := T_3.setTop (mkF m 32 #[.val (.int p0), .val (.int ((p0 &&& (2147483647 : Int32)) - ((p0 &&& (2147483647 : Int32)) / (13 : Int32)) * (13 : Int32))), .val (.ref (ad (own_pick ((p0 &&& (2147483647 : Int32)) - ((p0 &&& (2147483647 : Int32)) / (13 : Int32)) * (13 : Int32))))), .val (.ref (ad (own_exp ((p0 &&& (2147483647 : Int32)) - ((p0 &&& (2147483647 : Int32)) / (13 : Int32)) * (13 : Int32))))), .val (.ref (ad (own_exp ((p0 &&& (2147483647 : Int32)) - ((p0 &&& (2147483647 : Int32)) / (13 : Int32)) * (13 : Int32)))))] [(.ref (ad (own_exp ((p0 &&& (2147483647 : Int32)) - ((p0 &&& (2147483647 : Int32)) / (13 : Int32)) * (13 : Int32)))))])) (fun t k => ?_) ?_
  · show Steps p.tables e below (T_3.setTop (mkF m 30 #[.val (.int p0), .val (.int ((p0 &&& (2147483647 : Int32)) - ((p0 &&& (2147483647 : Int32)) / (13 : Int32)) * (13 : Int32))), .val (.ref (ad (own_pick ((p0 &&& (2147483647 : Int32)) - ((p0 &&& (2147483647 : Int32)) / (13 : Int32)) * (13 : Int32))))), .val (.ref (ad (own_exp ((p0 &&& (2147483647 : Int32)) - ((p0 &&& (2147483647 : Int32)) / (13 : Int32)) * (13 : Int32))))), .val (.ref (ad (own_exp ((p0 &&& (2147483647 : Int32)) - ((p0 &&& (2147483647 : Int32)) / (13 : Int32)) * (13 : Int32)))))] [])) _
    refine XS.aload X_3.here hx rfl (hb hby at_30) rfl rfl ?_
    exact k
  obtain ⟨cq_4, kq_4, q_4a, q_4b, q_4c⟩ := isOf hZ e_3 (hE _ (own_expL _))
  obtain ⟨_, _, ⟨T_4, L_4, k_4, n_4⟩, -, X_4, ⟨Lc_4, hQ_4, l_4, y_4, z_4⟩, st_4⟩ := X_3.virtualBack hx (y := (⟨"partbook/Element", "base", "()Lpartbook/Element;"⟩ : MethodName)) (z := (⟨"partbook/Element", "base", "()Lpartbook/Element;"⟩ : MethodName)) hown (mvT hZ (hw _ (List.mem_of_getElem? (i := 11) rfl))) (mvT hZ (hw _ (List.mem_of_getElem? (i := 12) rfl))) (notFace_of_selects (args := #[]) (mvT hZ (hw _ (List.mem_of_getElem? (i := 14) rfl)))) (mvT hZ (hw _ (List.mem_of_getElem? (i := 14) rfl))) (mvT hZ (hw _ (List.mem_of_getElem? (i := 13) rfl))) (by decide) (backOf (W := 0) (rm3 l Z av0 hw [] (ad (own_exp ((p0 &&& (2147483647 : Int32)) - ((p0 &&& (2147483647 : Int32)) / (13 : Int32)) * (13 : Int32)))) (own_val ad (own_exp ((p0 &&& (2147483647 : Int32)) - ((p0 &&& (2147483647 : Int32)) / (13 : Int32)) * (13 : Int32)))) h0 n0 Z0 (own_valR ad _) (hF _ (own_expL _))) hZ (hw _ (List.mem_of_getElem? (i := 15) rfl)) (hw _ (List.mem_of_getElem? (i := 6) rfl)) (by decide) (by decide)) q_4a q_4c (g := (mkF m 32 #[.val (.int p0), .val (.int ((p0 &&& (2147483647 : Int32)) - ((p0 &&& (2147483647 : Int32)) / (13 : Int32)) * (13 : Int32))), .val (.ref (ad (own_pick ((p0 &&& (2147483647 : Int32)) - ((p0 &&& (2147483647 : Int32)) / (13 : Int32)) * (13 : Int32))))), .val (.ref (ad (own_exp ((p0 &&& (2147483647 : Int32)) - ((p0 &&& (2147483647 : Int32)) / (13 : Int32)) * (13 : Int32))))), .val (.ref (ad (own_exp ((p0 &&& (2147483647 : Int32)) - ((p0 &&& (2147483647 : Int32)) / (13 : Int32)) * (13 : Int32)))))] [(.ref (ad (own_exp ((p0 &&& (2147483647 : Int32)) - ((p0 &&& (2147483647 : Int32)) / (13 : Int32)) * (13 : Int32)))))])) rfl (by rw [hml]; rfl) (Steps.refl _) (argsL := []) (rest := []) (lenOf pd_1 rfl) rfl (by show 2 * 0 + _ ≤ _; exact Nat.le_of_eq rfl) (hb hby at_32) (fun _ _ => ⟨rfl, e_3, (by decide : 0 + 0 ≤ _), (by decide : 0 + 0 ≤ _)⟩)
  dsimp only [Pt.U, Pt.locs, Pt.cells, Pt.slots] at X_4 l_4 y_4 z_4 st_4 hQ_4
  subst l_4 y_4 z_4
  obtain ⟨hv_4, N_4q, e_4⟩ := hQ_4
  have N_4 := Fr.app N_3 N_4q
  rw [own_law2] at hv_4
  subst hv_4
  refine own_go (B := T_4.setTop (mkF m 35 #[.val (.int p0), .val (.int ((p0 &&& (2147483647 : Int32)) - ((p0 &&& (2147483647 : Int32)) / (13 : Int32)) * (13 : Int32))), .val (.ref (ad (own_pick ((p0 &&& (2147483647 : Int32)) - ((p0 &&& (2147483647 : Int32)) / (13 : Int32)) * (13 : Int32))))), .val (.ref (ad (own_exp ((p0 &&& (2147483647 : Int32)) - ((p0 &&& (2147483647 : Int32)) / (13 : Int32)) * (13 : Int32))))), .val (.ref (ad (own_exp ((p0 &&& (2147483647 : Int32)) - ((p0 &&& (2147483647 : Int32)) / (13 : Int32)) * (13 : Int32)))))] [(.ref (ad (own_exp ((p0 &&& (2147483647 : Int32)) - ((p0 &&& (2147483647 : Int32)) / (13 : Int32)) * (13 : Int32)))))])) (fun t k => st_4.trans k) ?_
  refine own_go (B := T_4.setTop (mkF m 37 #[.val (.int p0), .val (.int ((p0 &&& (2147483647 : Int32)) - ((p0 &&& (2147483647 : Int32)) / (13 : Int32)) * (13 : Int32))), .val (.ref (ad (own_pick ((p0 &&& (2147483647 : Int32)) - ((p0 &&& (2147483647 : Int32)) / (13 : Int32)) * (13 : Int32))))), .val (.ref (ad (own_exp ((p0 &&& (2147483647 : Int32)) - ((p0 &&& (2147483647 : Int32)) / (13 : Int32)) * (13 : Int32))))), .val (.ref (ad (own_exp ((p0 &&& (2147483647 : Int32)) - ((p0 &&& (2147483647 : Int32)) / (13 : Int32)) * (13 : Int32)))))] [(.ref (ad (own_exp ((p0 &&& (2147483647 : Int32)) - ((p0 &&& (2147483647 : Int32)) / (13 : Int32)) * (13 : Int32))))), (.ref (ad (own_exp ((p0 &&& (2147483647 : Int32)) - ((p0 &&& (2147483647 : Int32)) / (13 : Int32)) * (13 : Int32)))))])) (fun t k => ?_) ?_
  · show Steps p.tables e below (T_4.setTop (mkF m 35 #[.val (.int p0), .val (.int ((p0 &&& (2147483647 : Int32)) - ((p0 &&& (2147483647 : Int32)) / (13 : Int32)) * (13 : Int32))), .val (.ref (ad (own_pick ((p0 &&& (2147483647 : Int32)) - ((p0 &&& (2147483647 : Int32)) / (13 : Int32)) * (13 : Int32))))), .val (.ref (ad (own_exp ((p0 &&& (2147483647 : Int32)) - ((p0 &&& (2147483647 : Int32)) / (13 : Int32)) * (13 : Int32))))), .val (.ref (ad (own_exp ((p0 &&& (2147483647 : Int32)) - ((p0 &&& (2147483647 : Int32)) / (13 : Int32)) * (13 : Int32)))))] [(.ref (ad (own_exp ((p0 &&& (2147483647 : Int32)) - ((p0 &&& (2147483647 : Int32)) / (13 : Int32)) * (13 : Int32)))))])) _
    refine XS.aload X_4.here hx rfl (hb hby at_35) rfl rfl ?_
    exact k
  refine own_go (B := T_4.setTop (mkF m 40 #[.val (.int p0), .val (.int ((p0 &&& (2147483647 : Int32)) - ((p0 &&& (2147483647 : Int32)) / (13 : Int32)) * (13 : Int32))), .val (.ref (ad (own_pick ((p0 &&& (2147483647 : Int32)) - ((p0 &&& (2147483647 : Int32)) / (13 : Int32)) * (13 : Int32))))), .val (.ref (ad (own_exp ((p0 &&& (2147483647 : Int32)) - ((p0 &&& (2147483647 : Int32)) / (13 : Int32)) * (13 : Int32))))), .val (.ref (ad (own_exp ((p0 &&& (2147483647 : Int32)) - ((p0 &&& (2147483647 : Int32)) / (13 : Int32)) * (13 : Int32)))))] [])) (fun t k => ?_) ?_
  · show Steps p.tables e below (T_4.setTop (mkF m 37 #[.val (.int p0), .val (.int ((p0 &&& (2147483647 : Int32)) - ((p0 &&& (2147483647 : Int32)) / (13 : Int32)) * (13 : Int32))), .val (.ref (ad (own_pick ((p0 &&& (2147483647 : Int32)) - ((p0 &&& (2147483647 : Int32)) / (13 : Int32)) * (13 : Int32))))), .val (.ref (ad (own_exp ((p0 &&& (2147483647 : Int32)) - ((p0 &&& (2147483647 : Int32)) / (13 : Int32)) * (13 : Int32))))), .val (.ref (ad (own_exp ((p0 &&& (2147483647 : Int32)) - ((p0 &&& (2147483647 : Int32)) / (13 : Int32)) * (13 : Int32)))))] [(.ref (ad (own_exp ((p0 &&& (2147483647 : Int32)) - ((p0 &&& (2147483647 : Int32)) / (13 : Int32)) * (13 : Int32))))), (.ref (ad (own_exp ((p0 &&& (2147483647 : Int32)) - ((p0 &&& (2147483647 : Int32)) / (13 : Int32)) * (13 : Int32)))))])) _
    refine Jvm.RoadKit.acmp (g := (mkF m 37 #[.val (.int p0), .val (.int ((p0 &&& (2147483647 : Int32)) - ((p0 &&& (2147483647 : Int32)) / (13 : Int32)) * (13 : Int32))), .val (.ref (ad (own_pick ((p0 &&& (2147483647 : Int32)) - ((p0 &&& (2147483647 : Int32)) / (13 : Int32)) * (13 : Int32))))), .val (.ref (ad (own_exp ((p0 &&& (2147483647 : Int32)) - ((p0 &&& (2147483647 : Int32)) / (13 : Int32)) * (13 : Int32))))), .val (.ref (ad (own_exp ((p0 &&& (2147483647 : Int32)) - ((p0 &&& (2147483647 : Int32)) / (13 : Int32)) * (13 : Int32)))))] [(.ref (ad (own_exp ((p0 &&& (2147483647 : Int32)) - ((p0 &&& (2147483647 : Int32)) / (13 : Int32)) * (13 : Int32))))), (.ref (ad (own_exp ((p0 &&& (2147483647 : Int32)) - ((p0 &&& (2147483647 : Int32)) / (13 : Int32)) * (13 : Int32)))))])) X_4 hx rfl rfl rfl (pc0 := 37) (pc' := 40) (same := true) rfl (hb hby at_37) rfl (decide_eq_true rfl) (by decide) (by decide) ?_
    exact k
  refine own_go (B := T_4.setTop (mkF m 45 #[.val (.int p0), .val (.int ((p0 &&& (2147483647 : Int32)) - ((p0 &&& (2147483647 : Int32)) / (13 : Int32)) * (13 : Int32))), .val (.ref (ad (own_pick ((p0 &&& (2147483647 : Int32)) - ((p0 &&& (2147483647 : Int32)) / (13 : Int32)) * (13 : Int32))))), .val (.ref (ad (own_exp ((p0 &&& (2147483647 : Int32)) - ((p0 &&& (2147483647 : Int32)) / (13 : Int32)) * (13 : Int32))))), .val (.ref (ad (own_exp ((p0 &&& (2147483647 : Int32)) - ((p0 &&& (2147483647 : Int32)) / (13 : Int32)) * (13 : Int32)))))] [(.int (1 : Int32))])) (fun t k => ?_) ?_
  · show Steps p.tables e below (T_4.setTop (mkF m 40 #[.val (.int p0), .val (.int ((p0 &&& (2147483647 : Int32)) - ((p0 &&& (2147483647 : Int32)) / (13 : Int32)) * (13 : Int32))), .val (.ref (ad (own_pick ((p0 &&& (2147483647 : Int32)) - ((p0 &&& (2147483647 : Int32)) / (13 : Int32)) * (13 : Int32))))), .val (.ref (ad (own_exp ((p0 &&& (2147483647 : Int32)) - ((p0 &&& (2147483647 : Int32)) / (13 : Int32)) * (13 : Int32))))), .val (.ref (ad (own_exp ((p0 &&& (2147483647 : Int32)) - ((p0 &&& (2147483647 : Int32)) / (13 : Int32)) * (13 : Int32)))))] [])) _
    refine XS.iconst X_4.here hx rfl (hb hby at_40) ?_
    show Steps p.tables e below (T_4.setTop (mkF m 41 #[.val (.int p0), .val (.int ((p0 &&& (2147483647 : Int32)) - ((p0 &&& (2147483647 : Int32)) / (13 : Int32)) * (13 : Int32))), .val (.ref (ad (own_pick ((p0 &&& (2147483647 : Int32)) - ((p0 &&& (2147483647 : Int32)) / (13 : Int32)) * (13 : Int32))))), .val (.ref (ad (own_exp ((p0 &&& (2147483647 : Int32)) - ((p0 &&& (2147483647 : Int32)) / (13 : Int32)) * (13 : Int32))))), .val (.ref (ad (own_exp ((p0 &&& (2147483647 : Int32)) - ((p0 &&& (2147483647 : Int32)) / (13 : Int32)) * (13 : Int32)))))] [(.int (1 : Int32))])) _
    refine XS.goto X_4.here hx rfl (pc0 := 41) (pc' := 45) rfl (hb hby at_41) (by decide) (by decide) ?_
    exact k
  obtain ⟨fs, hr, hrun, hended, hW, hsame⟩ := X_4.leave (v := some (.int (1 : Int32))) (fun h => by rw [Bd.returns] at h; cases h)
  refine ⟨_, _, ?_, hrun, hended, _, _, rfl, ?_, ⟨_, rfl⟩, hW, hsame.mono (by decide) (by decide)⟩
  · show Steps p.tables e below (T_4.setTop (mkF m 45 #[.val (.int p0), .val (.int ((p0 &&& (2147483647 : Int32)) - ((p0 &&& (2147483647 : Int32)) / (13 : Int32)) * (13 : Int32))), .val (.ref (ad (own_pick ((p0 &&& (2147483647 : Int32)) - ((p0 &&& (2147483647 : Int32)) / (13 : Int32)) * (13 : Int32))))), .val (.ref (ad (own_exp ((p0 &&& (2147483647 : Int32)) - ((p0 &&& (2147483647 : Int32)) / (13 : Int32)) * (13 : Int32))))), .val (.ref (ad (own_exp ((p0 &&& (2147483647 : Int32)) - ((p0 &&& (2147483647 : Int32)) / (13 : Int32)) * (13 : Int32)))))] [(.int (1 : Int32))])) _
    exact retN X_4 hx (t := .boolean) Bd.returns (by simp) (hb hby at_45) hr
  · show Q0 Z p0 ad h0 n0 _ T_4.heap _
    rw [e_4]
    exact ⟨rfl, N_4, trivial⟩
def own_ad (s0 s1 s2 s3 s4 s5 s6 s7 s8 s9 s10 s11 s12 : Addr) : Nat → Addr
  | 0 => s0
  | 1 => s1
  | 2 => s2
  | 3 => s3
  | 4 => s4
  | 5 => s5
  | 6 => s6
  | 7 => s7
  | 8 => s8
  | 9 => s9
  | 10 => s10
  | 11 => s11
  | _ => s12
set_option maxRecDepth 65536 in
set_option maxHeartbeats 40000000 in
theorem comes_1 {Post : Tables → Env → Array Value → State → Outcome → State → Prop} (hpost : ∀ tb e args s v u, (limb_1_1.after args s (.returned v) u = true ∧ limb_1_2.after args s (.returned v) u = true ∧ True) → FrameEnd s (.returned v) u (Jvm.fieldLocs frame_1_writes args s ++ Jvm.arrayLocs frame_1_arrays args s ++ Jvm.staticLocs frame_1_statics s) 0 0 → Post tb e args s (.returned v) u) :
    ArmFor flags0 classFile x code maxLocals ret World_1 tables_1 room_1 Calls_1 rest_1 Pre_1 Post := by
  intro l hfl _ _ p e ha hc hk s m args below hf hA hF happ hP
  obtain ⟨hcalls, hrest, hpre⟩ := hP
  obtain ⟨-, -, -, hnamed, -, -, -, hat⟩ := (Spec.applies_iff hf).mp happ
  obtain ⟨hg, hn⟩ := and_e (Cond.before_iff.mp (show (Jvm.Cond.and given_1 narrow_1).before args s = true from hpre))
  obtain ⟨g1, g2⟩ := and_e hg
  obtain ⟨w0, rfl⟩ : ∃ w0 : Value, args = #[w0] := by
    have hs : args.size = 1 := by simpa [Cond.value, given_1] using g1
    obtain ⟨L⟩ := args
    match L, hs with
    | [w0], _ => exact ⟨w0, rfl⟩
  have hw := fun d (hd : d ∈ tables_1) => atoms_spec (ws := Jvm.Cond.code x code maxLocals ret :: tables_1) hat d (List.mem_cons_of_mem _ hd)
  have hfit : Fit s := fun {y c} hc i hi => by
    obtain ⟨ha, rfl⟩ := Array.getElem?_eq_some_iff.mp hc
    have q := List.all_eq_true.mp ((Array.all_eq_true_iff_forall_mem.mp hF) _ (Array.getElem_mem ha)) i (List.mem_range.mpr hi)
    simpa [Array.getElem?_eq_getElem hi] using q
  obtain ⟨i0, ei0⟩ := is_v g2
  obtain rfl : w0 = (.int i0) := Option.some.inj ei0
  obtain ⟨nw0, hn⟩ := and_e hn
  obtain ⟨nw1, hn⟩ := and_e hn
  obtain ⟨nw2, hn⟩ := and_e hn
  obtain ⟨nw3, hn⟩ := and_e hn
  obtain ⟨nw4, hn⟩ := and_e hn
  obtain ⟨nw5, hn⟩ := and_e hn
  obtain ⟨nw6, hn⟩ := and_e hn
  obtain ⟨nw7, hn⟩ := and_e hn
  obtain ⟨nw8, hn⟩ := and_e hn
  obtain ⟨nw9, hn⟩ := and_e hn
  obtain ⟨nw10, hn⟩ := and_e hn
  obtain ⟨nw11, hn⟩ := and_e hn
  obtain ⟨nw12, hn⟩ := and_e hn
  obtain ⟨nw13, hn⟩ := and_e hn
  obtain ⟨nw14, hn⟩ := and_e hn
  obtain ⟨nw15, hn⟩ := and_e hn
  obtain ⟨nw16, hn⟩ := and_e hn
  obtain ⟨nw17, hn⟩ := and_e hn
  obtain ⟨nw18, hn⟩ := and_e hn
  obtain ⟨nw19, hn⟩ := and_e hn
  obtain ⟨nw20, hn⟩ := and_e hn
  obtain ⟨nw21, hn⟩ := and_e hn
  obtain ⟨nw22, hn⟩ := and_e hn
  obtain ⟨nw23, hn⟩ := and_e hn
  obtain ⟨nw24, hn⟩ := and_e hn
  have nw25 := hn
  obtain ⟨s0, ev0⟩ := exa_v nw0
  have S0 := Sta.start ev0 (Or.inr ⟨(hw _ (List.mem_of_getElem? (i := 6) rfl)), (hw _ (List.mem_of_getElem? (i := 7) rfl))⟩)
  have E0 := Exa.start ev0 nw0
  obtain ⟨s3, ev3⟩ := exa_v nw2
  have S3 := Sta.start ev3 (Or.inr ⟨(hw _ (List.mem_of_getElem? (i := 6) rfl)), (hw _ (List.mem_of_getElem? (i := 19) rfl))⟩)
  have E3 := Exa.start ev3 nw2
  obtain ⟨s2, ev2⟩ := exa_v nw3
  have S2 := Sta.start ev2 (Or.inr ⟨(hw _ (List.mem_of_getElem? (i := 6) rfl)), (hw _ (List.mem_of_getElem? (i := 21) rfl))⟩)
  have E2 := Exa.start ev2 nw3
  obtain ⟨s6, ev6⟩ := exa_v nw6
  have S6 := Sta.start ev6 (Or.inr ⟨(hw _ (List.mem_of_getElem? (i := 6) rfl)), (hw _ (List.mem_of_getElem? (i := 23) rfl))⟩)
  have E6 := Exa.start ev6 nw6
  obtain ⟨s5, ev5⟩ := exa_v nw8
  have S5 := Sta.start ev5 (Or.inr ⟨(hw _ (List.mem_of_getElem? (i := 6) rfl)), (hw _ (List.mem_of_getElem? (i := 25) rfl))⟩)
  have E5 := Exa.start ev5 nw8
  obtain ⟨s4, ev4⟩ := exa_v nw9
  have S4 := Sta.start ev4 (Or.inr ⟨(hw _ (List.mem_of_getElem? (i := 6) rfl)), (hw _ (List.mem_of_getElem? (i := 27) rfl))⟩)
  have E4 := Exa.start ev4 nw9
  obtain ⟨s7, ev7⟩ := exa_v nw12
  have S7 := Sta.start ev7 (Or.inr ⟨(hw _ (List.mem_of_getElem? (i := 6) rfl)), (hw _ (List.mem_of_getElem? (i := 29) rfl))⟩)
  have E7 := Exa.start ev7 nw12
  obtain ⟨s9, ev9⟩ := exa_v nw14
  have S9 := Sta.start ev9 (Or.inr ⟨(hw _ (List.mem_of_getElem? (i := 6) rfl)), (hw _ (List.mem_of_getElem? (i := 31) rfl))⟩)
  have E9 := Exa.start ev9 nw14
  obtain ⟨s11, ev11⟩ := exa_v nw16
  have S11 := Sta.start ev11 (Or.inr ⟨(hw _ (List.mem_of_getElem? (i := 6) rfl)), (hw _ (List.mem_of_getElem? (i := 33) rfl))⟩)
  have E11 := Exa.start ev11 nw16
  obtain ⟨s1, ev1⟩ := exa_v nw18
  have S1 := Sta.start ev1 (Or.inr ⟨(hw _ (List.mem_of_getElem? (i := 6) rfl)), (hw _ (List.mem_of_getElem? (i := 35) rfl))⟩)
  have E1 := Exa.start ev1 nw18
  obtain ⟨s8, ev8⟩ := exa_v nw20
  have S8 := Sta.start ev8 (Or.inr ⟨(hw _ (List.mem_of_getElem? (i := 6) rfl)), (hw _ (List.mem_of_getElem? (i := 37) rfl))⟩)
  have E8 := Exa.start ev8 nw20
  obtain ⟨s10, ev10⟩ := exa_v nw22
  have S10 := Sta.start ev10 (Or.inr ⟨(hw _ (List.mem_of_getElem? (i := 6) rfl)), (hw _ (List.mem_of_getElem? (i := 39) rfl))⟩)
  have E10 := Exa.start ev10 nw22
  obtain ⟨s12, ev12⟩ := exa_v nw24
  have S12 := Sta.start ev12 (Or.inr ⟨(hw _ (List.mem_of_getElem? (i := 6) rfl)), (hw _ (List.mem_of_getElem? (i := 41) rfl))⟩)
  have E12 := Exa.start ev12 nw24
  have F0 := Fld.start ((fld_at ev0).symm.trans (null_v nw1))
  have F3 := Fld.start ((fld_at ev3).symm.trans (own_eqv nw4 ev2))
  have F2 := Fld.start ((fld_at ev2).symm.trans (null_v nw5))
  have F6 := Fld.start ((fld_at ev6).symm.trans (null_v nw7))
  have F5 := Fld.start ((fld_at ev5).symm.trans (own_eqv nw10 ev4))
  have F4 := Fld.start ((fld_at ev4).symm.trans (null_v nw11))
  have F7 := Fld.start ((fld_at ev7).symm.trans (own_eqv nw13 ev6))
  have F9 := Fld.start ((fld_at ev9).symm.trans (null_v nw15))
  have F11 := Fld.start ((fld_at ev11).symm.trans (null_v nw17))
  have F1 := Fld.start ((fld_at ev1).symm.trans (own_eqv nw19 ev0))
  have F8 := Fld.start ((fld_at ev8).symm.trans (null_v nw21))
  have F10 := Fld.start ((fld_at ev10).symm.trans (own_eqv nw23 ev9))
  have F12 := Fld.start ((fld_at ev12).symm.trans (null_v nw25))
  have hE : ∀ j, j < 13 → Exa s s.heap (own_ad s0 s1 s2 s3 s4 s5 s6 s7 s8 s9 s10 s11 s12 j) "partbook/Element" := by
    intro j hj
    match j, hj with
    | 0, _ => exact E0
    | 1, _ => exact E1
    | 2, _ => exact E2
    | 3, _ => exact E3
    | 4, _ => exact E4
    | 5, _ => exact E5
    | 6, _ => exact E6
    | 7, _ => exact E7
    | 8, _ => exact E8
    | 9, _ => exact E9
    | 10, _ => exact E10
    | 11, _ => exact E11
    | 12, _ => exact E12
  have hF : ∀ j, j < 13 → Fld s s.heap (own_ad s0 s1 s2 s3 s4 s5 s6 s7 s8 s9 s10 s11 s12 j) "partbook/Element" "translates" "Lpartbook/Element;" (own_val (own_ad s0 s1 s2 s3 s4 s5 s6 s7 s8 s9 s10 s11 s12) j) := by
    intro j hj
    match j, hj with
    | 0, _ => exact F0
    | 1, _ => exact F1
    | 2, _ => exact F2
    | 3, _ => exact F3
    | 4, _ => exact F4
    | 5, _ => exact F5
    | 6, _ => exact F6
    | 7, _ => exact F7
    | 8, _ => exact F8
    | 9, _ => exact F9
    | 10, _ => exact F10
    | 11, _ => exact F11
    | 12, _ => exact F12
  obtain ⟨n, o, h1, h2, h3, _, L, rfl, ⟨rfl, N, -⟩, hq⟩ := rm0 l s _ hw tables_1 i0 (own_ad s0 s1 s2 s3 s4 s5 s6 s7 s8 s9 s10 s11 s12) s.heap s.heap.size (Nat.le_refl _) ⟨S0, S1, S2, S3, S4, S5, S6, S7, S8, S9, S10, S11, S12⟩ hE hF p e ha hc hk s m _ below hf ((Spec.applies_iff_loose hf).mp happ).1 ⟨rfl, State.Warmed39.refl s, rfl⟩ trivial
  refine ⟨n, _, h1, h2, h3, hpost _ _ _ _ _ _ ⟨Cond.after_iff.mpr rfl, Cond.after_iff.mpr (eq_i res_at (Term.int_eval (1)) rfl), trivial⟩ ⟨hq.1, hq.2.1, (hq.2.2.sift fun y hy => Or.inr (N y hy)).mono (by decide) (by decide)⟩⟩
theorem main_1_1 : Claimed_1_1 := comes_1 fun _ _ _ _ _ _ h hF => ⟨h.1, hF⟩
theorem main_1_2 : Claimed_1_2 := comes_1 fun _ _ _ _ _ _ h hF => ⟨h.2.1, hF⟩
end Jvm.Pilot.@@N@@
namespace Jvm.Pilot.@@N@@
open Jvm Jvm.ClassFile Sem Op Lib Jvm.Free Jvm.Stand Jvm.Pilot.@@N@@.Jvm.D
/-! MADE BY PROGRAM (witnessworld.py) out of the Statement's table words and the real class files: 12 classes; the members and pool entries that the words name. The judged class is class 1, her method 3. -/
namespace start1
open Jvm.ClassFile
def u (s : String) : CpInfo := .utf8 (stringToUtf16 s)
/-- a pool by its gaps: so many unusable entries, then the entry; so many at the end -/
def gap : Nat → List CpInfo → List CpInfo
  | 0, r => r
  | n + 1, r => .unusable :: gap n r
def poolList (es : List (Nat × CpInfo)) (last : Nat) : List CpInfo := es.foldr (fun e r => gap e.1 (e.2 :: r)) (gap last [])
def pool (es : List (Nat × CpInfo)) (last : Nat) : Array CpInfo := ⟨poolList es last⟩
def fileOf (pool : Array CpInfo) (this : Nat) (attrs : Array Attribute := #[]) (ms : Array MethodInfo := #[]) (fl : Nat := 33) (sup : Nat := 0) (ifs : Array Nat := #[]) (fds : Array FieldInfo := #[]) : ClassFile where
  minorVersion := 0
  majorVersion := 65
  constantPool := pool
  accessFlags := fl
  thisClass := this
  superClass := sup
  interfaces := ifs
  fields := fds
  methods := ms
  attributes := attrs
def plain (name : String) (sup : Option ClassId) : Class where
  name := name
  kind := .ordinary
  loader := none
  accessFlags := 33
  super := sup
  interfaces := #[]
  cf := none
  fields := #[]
  methods := #[]
  instanceTypes := #[]
  staticTypes := #[]
  resolved := #[]
  callSites := []
  init := .initialized
  statics := none
  mirror := none

def pool0 : Array CpInfo := pool [(5, u "<init>"), (0, u "()V"), (1, .class_ 10), (1, u "java/lang/Object")] 113

def k0m0 : Method := { name := "<init>", desc := "()V", sig := { parameters := [], returnType := none }, accessFlags := 1, code := none }
/-- java/lang/Object -/
def k0 : Class := { plain "java/lang/Object" none with
  accessFlags := 33
  interfaces := #[]
  cf := some (fileOf pool0 8 #[] #[{ accessFlags := 1, nameIndex := 5, descriptorIndex := 6, attributes := #[] }] 33 0 #[] #[])
  fields := #[]
  methods := #[k0m0]
  instanceTypes := #[]
  staticTypes := #[]
  resolved := Array.replicate 124 none
  statics := none }

def pool1 : Array CpInfo := pool [(2, .class_ 4), (1, u "java/lang/Object"), (0, u "<init>"), (0, u "()V"), (0, .fieldref 8 9), (0, .class_ 10), (0, .nameAndType 11 12), (0, u "partbook/Element"), (0, u "TITLE_PROPER"), (0, u "Lpartbook/Element;"), (0, .fieldref 8 14), (0, .nameAndType 15 12), (0, u "PARALLEL_TITLE_PROPER"), (0, .fieldref 8 17), (0, .nameAndType 18 12), (0, u "OTHER_TITLE_INFORMATION"), (0, .fieldref 8 20), (0, .nameAndType 21 12), (0, u "PARALLEL_OTHER_TITLE_INFORMATION"), (0, .fieldref 8 23), (0, .nameAndType 24 12), (0, u "STATEMENT_OF_RESPONSIBILITY_RELATING_TO_TITLE_PROPER"), (0, .fieldref 8 26), (0, .nameAndType 27 12), (0, u "PARALLEL_STATEMENT_OF_RESPONSIBILITY_RELATING_TO_TITLE_PROPER"), (0, .fieldref 8 29), (0, .nameAndType 30 12), (0, u "DESIGNATION_OF_EDITION"), (0, .fieldref 8 32), (0, .nameAndType 33 12), (0, u "PARALLEL_DESIGNATION_OF_EDITION"), (0, .fieldref 8 35), (0, .nameAndType 36 12), (0, u "STATEMENT_OF_RESPONSIBILITY_RELATING_TO_THE_EDITION"), (0, .fieldref 8 38), (0, .nameAndType 39 12), (0, u "TITLE_PROPER_OF_SERIES"), (0, .fieldref 8 41), (0, .nameAndType 42 12), (0, u "PARALLEL_TITLE_PROPER_OF_SERIES"), (0, .fieldref 8 44), (0, .nameAndType 45 12), (0, u "NUMBERING_WITHIN_SERIES"), (0, .fieldref 8 47), (0, .nameAndType 48 12), (0, u "CREATOR"), (0, .integer 2147483647), (0, .methodref 51 52), (0, .class_ 53), (0, .nameAndType 54 55), (0, u "partbook/ElementBasePinLaw"), (0, u "pick"), (0, u "(I)Lpartbook/Element;"), (0, .methodref 51 57), (0, .nameAndType 58 55), (0, u "expectedBase"), (0, .methodref 8 60), (0, .nameAndType 61 62), (0, u "base"), (0, u "()Lpartbook/Element;"), (3, u "law"), (0, u "(I)Z")] 2

def k1m0 : Method := { name := "<init>", desc := "()V", sig := { parameters := [], returnType := none }, accessFlags := 2, code := none }
def k1c1 : Code := { maxStack := 2, maxLocals := 1, code := method_2_code, exceptionTable := #[], attributes := #[] }
def k1m1 : Method := { name := "pick", desc := "(I)Lpartbook/Element;", sig := { parameters := [.int], returnType := some (.object "partbook/Element") }, accessFlags := 10, code := some k1c1 }
def k1c2 : Code := { maxStack := 2, maxLocals := 1, code := method_3_code, exceptionTable := #[], attributes := #[] }
def k1m2 : Method := { name := "expectedBase", desc := "(I)Lpartbook/Element;", sig := { parameters := [.int], returnType := some (.object "partbook/Element") }, accessFlags := 10, code := some k1c2 }
def k1c3 : Code := { maxStack := 2, maxLocals := 5, code := code, exceptionTable := #[], attributes := #[] }
def k1m3 : Method := { name := "law", desc := "(I)Z", sig := { parameters := [.int], returnType := some .boolean }, accessFlags := 9, code := some k1c3 }
/-- partbook/ElementBasePinLaw -/
def k1 : Class := { plain "partbook/ElementBasePinLaw" (some 0) with
  accessFlags := 49
  interfaces := #[]
  cf := some (fileOf pool1 51 #[] #[{ accessFlags := 2, nameIndex := 5, descriptorIndex := 6, attributes := #[] }, { accessFlags := 10, nameIndex := 54, descriptorIndex := 55, attributes := #[] }, { accessFlags := 10, nameIndex := 58, descriptorIndex := 55, attributes := #[] }, { accessFlags := 9, nameIndex := 66, descriptorIndex := 67, attributes := #[] }] 49 2 #[] #[])
  fields := #[]
  methods := #[k1m0, k1m1, k1m2, k1m3]
  instanceTypes := #[]
  staticTypes := #[]
  resolved := Array.replicate 70 none
  statics := none }

def pool2 : Array CpInfo := pool [(1, .class_ 2), (0, u "java/lang/constant/Constable"), (0, .class_ 4), (0, u "java/lang/Object")] 6

/-- java/lang/constant/Constable -/
def k2 : Class := { plain "java/lang/constant/Constable" (some 0) with
  accessFlags := 1537
  interfaces := #[]
  cf := some (fileOf pool2 1 #[] #[] 1537 3 #[] #[])
  fields := #[]
  methods := #[]
  instanceTypes := #[]
  staticTypes := #[]
  resolved := Array.replicate 11 none
  statics := none }

def pool3 : Array CpInfo := pool [(1, .class_ 2), (0, u "java/lang/Comparable"), (0, .class_ 4), (0, u "java/lang/Object")] 7

/-- java/lang/Comparable -/
def k3 : Class := { plain "java/lang/Comparable" (some 0) with
  accessFlags := 1537
  interfaces := #[]
  cf := some (fileOf pool3 1 #[] #[] 1537 3 #[] #[])
  fields := #[]
  methods := #[]
  instanceTypes := #[]
  staticTypes := #[]
  resolved := Array.replicate 12 none
  statics := none }

def pool4 : Array CpInfo := pool [(1, .class_ 2), (0, u "java/io/Serializable"), (0, .class_ 4), (0, u "java/lang/Object")] 2

/-- java/io/Serializable -/
def k4 : Class := { plain "java/io/Serializable" (some 0) with
  accessFlags := 1537
  interfaces := #[]
  cf := some (fileOf pool4 1 #[] #[] 1537 3 #[] #[])
  fields := #[]
  methods := #[]
  instanceTypes := #[]
  staticTypes := #[]
  resolved := Array.replicate 7 none
  statics := none }

def pool5 : Array CpInfo := pool [(2, .class_ 4), (1, u "java/lang/Enum"), (0, u "name"), (0, u "Ljava/lang/String;"), (2, u "ordinal"), (0, u "I"), (1, .class_ 14), (1, u "java/lang/Object"), (4, u "hash"), (86, .class_ 108), (1, u "java/lang/Enum$EnumDesc"), (2, .class_ 112), (0, u "java/lang/constant/Constable"), (0, .class_ 114), (0, u "java/lang/Comparable"), (0, .class_ 116), (0, u "java/io/Serializable")] 87

/-- java/lang/Enum -/
def k5 : Class := { plain "java/lang/Enum" (some 0) with
  accessFlags := 1057
  interfaces := #[2, 3, 4]
  cf := some (fileOf pool5 2 #[.nestMembers #[106]] #[] 1057 12 #[111, 113, 115] #[{ accessFlags := 18, nameIndex := 5, descriptorIndex := 6, attributes := #[] }, { accessFlags := 18, nameIndex := 9, descriptorIndex := 10, attributes := #[] }, { accessFlags := 2, nameIndex := 19, descriptorIndex := 10, attributes := #[] }])
  fields := #[{ name := "name", type := (.object "java/lang/String"), accessFlags := 18, slot := 0, constantValue := 0 }, { name := "ordinal", type := .int, accessFlags := 18, slot := 1, constantValue := 0 }, { name := "hash", type := .int, accessFlags := 2, slot := 2, constantValue := 0 }]
  methods := #[]
  instanceTypes := #[(.object "java/lang/String"), .int, .int]
  staticTypes := #[]
  resolved := Array.replicate 204 none
  statics := none }

def pool6 : Array CpInfo := pool [(1, .class_ 2), (0, u "partbook/Element"), (2, u "TITLE_PROPER"), (0, u "Lpartbook/Element;"), (2, u "PARALLEL_TITLE_PROPER"), (2, u "OTHER_TITLE_INFORMATION"), (2, u "PARALLEL_OTHER_TITLE_INFORMATION"), (2, u "STATEMENT_OF_RESPONSIBILITY_RELATING_TO_TITLE_PROPER"), (2, u "PARALLEL_STATEMENT_OF_RESPONSIBILITY_RELATING_TO_TITLE_PROPER"), (2, u "DESIGNATION_OF_EDITION"), (2, u "PARALLEL_DESIGNATION_OF_EDITION"), (2, u "STATEMENT_OF_RESPONSIBILITY_RELATING_TO_THE_EDITION"), (2, u "TITLE_PROPER_OF_SERIES"), (2, u "PARALLEL_TITLE_PROPER_OF_SERIES"), (2, u "NUMBERING_WITHIN_SERIES"), (2, u "CREATOR"), (2, u "$VALUES"), (0, u "[Lpartbook/Element;"), (6, .class_ 55), (1, u "java/lang/Enum"), (11, u "rdaName"), (0, u "Ljava/lang/String;"), (2, u "instruction"), (2, u "once"), (0, u "Z"), (0, .fieldref 1 77), (0, .nameAndType 78 6), (0, u "translates"), (92, u "()Lpartbook/Element;"), (0, u "base")] 7

def k6c0 : Code := { maxStack := 1, maxLocals := 1, code := prog_15_method_11_code, exceptionTable := #[], attributes := #[] }
def k6m0 : Method := { name := "base", desc := "()Lpartbook/Element;", sig := { parameters := [], returnType := some (.object "partbook/Element") }, accessFlags := 0, code := some k6c0 }
/-- partbook/Element -/
def k6 : Class := { plain "partbook/Element" (some 5) with
  accessFlags := 16432
  interfaces := #[]
  cf := some (fileOf pool6 1 #[] #[{ accessFlags := 0, nameIndex := 172, descriptorIndex := 171, attributes := #[] }] 16432 53 #[] #[{ accessFlags := 16409, nameIndex := 5, descriptorIndex := 6, attributes := #[] }, { accessFlags := 16409, nameIndex := 9, descriptorIndex := 6, attributes := #[] }, { accessFlags := 16409, nameIndex := 12, descriptorIndex := 6, attributes := #[] }, { accessFlags := 16409, nameIndex := 15, descriptorIndex := 6, attributes := #[] }, { accessFlags := 16409, nameIndex := 18, descriptorIndex := 6, attributes := #[] }, { accessFlags := 16409, nameIndex := 21, descriptorIndex := 6, attributes := #[] }, { accessFlags := 16409, nameIndex := 24, descriptorIndex := 6, attributes := #[] }, { accessFlags := 16409, nameIndex := 27, descriptorIndex := 6, attributes := #[] }, { accessFlags := 16409, nameIndex := 30, descriptorIndex := 6, attributes := #[] }, { accessFlags := 16409, nameIndex := 33, descriptorIndex := 6, attributes := #[] }, { accessFlags := 16409, nameIndex := 36, descriptorIndex := 6, attributes := #[] }, { accessFlags := 16409, nameIndex := 39, descriptorIndex := 6, attributes := #[] }, { accessFlags := 16409, nameIndex := 42, descriptorIndex := 6, attributes := #[] }, { accessFlags := 18, nameIndex := 67, descriptorIndex := 68, attributes := #[] }, { accessFlags := 18, nameIndex := 71, descriptorIndex := 68, attributes := #[] }, { accessFlags := 18, nameIndex := 74, descriptorIndex := 75, attributes := #[] }, { accessFlags := 18, nameIndex := 78, descriptorIndex := 6, attributes := #[] }, { accessFlags := 4122, nameIndex := 45, descriptorIndex := 46, attributes := #[] }])
  fields := #[{ name := "TITLE_PROPER", type := (.object "partbook/Element"), accessFlags := 16409, slot := 0, constantValue := 0 }, { name := "PARALLEL_TITLE_PROPER", type := (.object "partbook/Element"), accessFlags := 16409, slot := 1, constantValue := 0 }, { name := "OTHER_TITLE_INFORMATION", type := (.object "partbook/Element"), accessFlags := 16409, slot := 2, constantValue := 0 }, { name := "PARALLEL_OTHER_TITLE_INFORMATION", type := (.object "partbook/Element"), accessFlags := 16409, slot := 3, constantValue := 0 }, { name := "STATEMENT_OF_RESPONSIBILITY_RELATING_TO_TITLE_PROPER", type := (.object "partbook/Element"), accessFlags := 16409, slot := 4, constantValue := 0 }, { name := "PARALLEL_STATEMENT_OF_RESPONSIBILITY_RELATING_TO_TITLE_PROPER", type := (.object "partbook/Element"), accessFlags := 16409, slot := 5, constantValue := 0 }, { name := "DESIGNATION_OF_EDITION", type := (.object "partbook/Element"), accessFlags := 16409, slot := 6, constantValue := 0 }, { name := "PARALLEL_DESIGNATION_OF_EDITION", type := (.object "partbook/Element"), accessFlags := 16409, slot := 7, constantValue := 0 }, { name := "STATEMENT_OF_RESPONSIBILITY_RELATING_TO_THE_EDITION", type := (.object "partbook/Element"), accessFlags := 16409, slot := 8, constantValue := 0 }, { name := "TITLE_PROPER_OF_SERIES", type := (.object "partbook/Element"), accessFlags := 16409, slot := 9, constantValue := 0 }, { name := "PARALLEL_TITLE_PROPER_OF_SERIES", type := (.object "partbook/Element"), accessFlags := 16409, slot := 10, constantValue := 0 }, { name := "NUMBERING_WITHIN_SERIES", type := (.object "partbook/Element"), accessFlags := 16409, slot := 11, constantValue := 0 }, { name := "CREATOR", type := (.object "partbook/Element"), accessFlags := 16409, slot := 12, constantValue := 0 }, { name := "rdaName", type := (.object "java/lang/String"), accessFlags := 18, slot := 3, constantValue := 0 }, { name := "instruction", type := (.object "java/lang/String"), accessFlags := 18, slot := 4, constantValue := 0 }, { name := "once", type := .boolean, accessFlags := 18, slot := 5, constantValue := 0 }, { name := "translates", type := (.object "partbook/Element"), accessFlags := 18, slot := 6, constantValue := 0 }, { name := "$VALUES", type := (.array (.object "partbook/Element")), accessFlags := 4122, slot := 13, constantValue := 0 }]
  methods := #[k6m0]
  instanceTypes := #[(.object "java/lang/String"), .int, .int, (.object "java/lang/String"), (.object "java/lang/String"), .boolean, (.object "partbook/Element")]
  staticTypes := #[(.object "partbook/Element"), (.object "partbook/Element"), (.object "partbook/Element"), (.object "partbook/Element"), (.object "partbook/Element"), (.object "partbook/Element"), (.object "partbook/Element"), (.object "partbook/Element"), (.object "partbook/Element"), (.object "partbook/Element"), (.object "partbook/Element"), (.object "partbook/Element"), (.object "partbook/Element"), (.array (.object "partbook/Element"))]
  resolved := Array.replicate 180 none
  statics := some 0 }

def pool7 : Array CpInfo := pool [(1, u "java/lang/Cloneable"), (0, .class_ 1), (0, u "java/lang/Object"), (0, .class_ 3)] 3

/-- java/lang/Cloneable -/
def k7 : Class := { plain "java/lang/Cloneable" (some 0) with
  accessFlags := 1537
  interfaces := #[]
  cf := some (fileOf pool7 2 #[] #[] 1537 4 #[] #[])
  fields := #[]
  methods := #[]
  instanceTypes := #[]
  staticTypes := #[]
  resolved := Array.replicate 8 none
  statics := none }

/-- the primitive byte -/
def k8 : Class := { plain "byte" none with kind := .primitive 'B', accessFlags := 0x411 }
/-- [B -/
def k9 : Class := { plain "[B" (some 0) with kind := .array 8 .byte, interfaces := #[7, 4], accessFlags := 1041 }

/-- the primitive int -/
def k10 : Class := { plain "int" none with kind := .primitive 'I', accessFlags := 0x411 }
/-- [I -/
def k11 : Class := { plain "[I" (some 0) with kind := .array 10 .int, interfaces := #[7, 4], accessFlags := 1041 }

def heap : Heap := #[{ cls := 6, slots := #[.ref 1, .ref 2, .ref 3, .ref 4, .ref 5, .ref 6, .ref 7, .ref 8, .ref 9, .ref 10, .ref 11, .ref 12, .ref 13, .null], vm := .statics 6 },
  { cls := 6, slots := #[.null, .int 0, .int 0, .null, .null, .int 0, .null], vm := .none },
  { cls := 6, slots := #[.null, .int 1, .int 0, .null, .null, .int 0, .ref 1], vm := .none },
  { cls := 6, slots := #[.null, .int 2, .int 0, .null, .null, .int 0, .null], vm := .none },
  { cls := 6, slots := #[.null, .int 3, .int 0, .null, .null, .int 0, .ref 3], vm := .none },
  { cls := 6, slots := #[.null, .int 4, .int 0, .null, .null, .int 0, .null], vm := .none },
  { cls := 6, slots := #[.null, .int 5, .int 0, .null, .null, .int 0, .ref 5], vm := .none },
  { cls := 6, slots := #[.null, .int 6, .int 0, .null, .null, .int 0, .null], vm := .none },
  { cls := 6, slots := #[.null, .int 7, .int 0, .null, .null, .int 0, .ref 7], vm := .none },
  { cls := 6, slots := #[.null, .int 8, .int 0, .null, .null, .int 0, .null], vm := .none },
  { cls := 6, slots := #[.null, .int 9, .int 0, .null, .null, .int 0, .null], vm := .none },
  { cls := 6, slots := #[.null, .int 10, .int 0, .null, .null, .int 0, .ref 10], vm := .none },
  { cls := 6, slots := #[.null, .int 11, .int 0, .null, .null, .int 0, .null], vm := .none },
  { cls := 6, slots := #[.null, .int 12, .int 0, .null, .null, .int 0, .null], vm := .none }]
def classes : Array Class := #[k0, k1, k2, k3, k4, k5, k6, k7, k8, k9, k10, k11]
def interned : List (Array UInt16 × Addr) := []
def slotsUsed : Nat := 105
def theMethod : MethodId := ⟨1, 3⟩
def args0 : Array Value := #[.int 5]
def aboutOver (below : List Frame) : State where
  vm := { classes := classes, interned := interned.toArray }
  heap := heap
  slotsUsed := slotsUsed
  threads := #[{ frames := .invoking theMethod args0 :: below }]
def below0 : List Frame := [.native { method := ⟨0, 0⟩, args := #[] }]
def about1 : State := aboutOver below0
def p0 : Program := .bare "" "" ""
def e0 : Env := launch0.env 0 0 0
theorem w_frames : about1.frames = Frame.invoking theMethod args0 :: below0 := rfl
set_option maxRecDepth 65536 in
theorem w_args : argsFit about1.vm theMethod args0 = true := by decide +kernel
set_option maxRecDepth 65536 in
theorem w_heap : heapFits about1 = true := by decide +kernel
set_option maxRecDepth 65536 in
theorem w_runnable : about1.curStatus? = some .runnable := by decide +kernel
set_option maxRecDepth 65536 in
theorem w_alone : about1.alone = true := by decide +kernel
set_option maxRecDepth 65536 in
theorem w_named : about1.methodNamed? x = some theMethod := by decide +kernel
set_option maxRecDepth 65536 in
theorem w_hears : about1.hears theMethod below0 = true := by decide +kernel
set_option maxRecDepth 65536 in
theorem w_ripe : about1.ripe theMethod args0 below0 = true := by decide +kernel
theorem w_running : about1.status = .running := rfl
set_option maxRecDepth 65536 in
theorem w_room : about1.hasRoom e0.platform room_1 = true :=
  launch0.hasRoom_least _ room_1 (by decide +kernel) (by decide +kernel) (by decide +kernel) (by decide +kernel) (by decide +kernel) (by decide +kernel)
theorem allAtoms_all (ts : List Jvm.Cond) (a : Array Jvm.Value) (st : Jvm.State) : (allAtoms ts).before a st = ts.all (fun c => c.before a st) := by
  induction ts with
  | nil => rfl
  | cons c t ih =>
    show (Jvm.Cond.and c (allAtoms t)).before a st = _
    rw [Jvm.Cond.before_and, ih, List.all_cons]
def words1 : List Jvm.Cond := Jvm.Cond.code x code maxLocals ret :: tables_1
/-- a 'code' word, met by the world's own term for the bytes: nothing is compared byte by byte -/
theorem code_word {y : MethodName} {bytes : ByteArray} {mx : Nat} {rt : Option FieldType} {a : Array Value} {s : State} {m : MethodId} {meth : Method} {c : Code} (h1 : s.methodNamed? y = some m) (h2 : s.vm.method? m = some meth) (h3 : meth.code = some c) (h4 : c.code = bytes)
    (h5 : (c.maxLocals == mx && c.exceptionTable.isEmpty && decide (c.maxStack ≤ mostOperands) && decide (meth.sig.returnType = rt) && !meth.locks && decide (parseMethodDescriptor y.desc = some meth.sig)) = true) : (Jvm.Cond.code y bytes mx rt).before a s = true := by
  simp only [Bool.and_eq_true, beq_iff_eq, Bool.not_eq_true', decide_eq_true_eq] at h5
  obtain ⟨⟨⟨⟨⟨g1, g2⟩, g3⟩, g4⟩, g5⟩, g6⟩ := h5
  simp [Cond.before, Cond.holds, Cond.value, h1, h2, h3, h4, g1, g2, g3, g4, g5, g6]
def isCode : Jvm.Cond → Bool
  | .code _ _ _ _ => true
  | _ => false
theorem all_split {L : List Jvm.Cond} {P : Jvm.Cond → Bool} (h1 : L.all (fun c => isCode c || P c) = true) (h2 : ∀ c ∈ L.filter isCode, P c = true) : L.all P = true := by
  refine List.all_eq_true.mpr fun c hc => ?_
  have h := List.all_eq_true.mp h1 c hc
  rcases Bool.eq_false_or_eq_true (isCode c) with hi | hi
  · exact h2 c (List.mem_filter.mpr ⟨hc, hi⟩)
  · simpa [hi] using h
set_option maxRecDepth 65536 in
theorem w_c0 : (Jvm.Cond.code x code maxLocals ret).before args0 about1 = true := code_word (m := ⟨1, 3⟩) (meth := k1m3) (c := k1c3) (by decide +kernel) rfl rfl rfl (by decide +kernel)
set_option maxRecDepth 65536 in
theorem w_c1 : (Jvm.Cond.code ({ cls := "partbook/ElementBasePinLaw", name := "pick", desc := "(I)Lpartbook/Element;" } : Jvm.MethodName) method_2_code (1 : Nat) (Option.some (Jvm.ClassFile.FieldType.object "partbook/Element"))).before args0 about1 = true := code_word (m := ⟨1, 1⟩) (meth := k1m1) (c := k1c1) (by decide +kernel) rfl rfl rfl (by decide +kernel)
set_option maxRecDepth 65536 in
theorem w_c2 : (Jvm.Cond.code ({ cls := "partbook/ElementBasePinLaw", name := "expectedBase", desc := "(I)Lpartbook/Element;" } : Jvm.MethodName) method_3_code (1 : Nat) (Option.some (Jvm.ClassFile.FieldType.object "partbook/Element"))).before args0 about1 = true := code_word (m := ⟨1, 2⟩) (meth := k1m2) (c := k1c2) (by decide +kernel) rfl rfl rfl (by decide +kernel)
set_option maxRecDepth 65536 in
theorem w_c3 : (Jvm.Cond.code ({ cls := "partbook/Element", name := "base", desc := "()Lpartbook/Element;" } : Jvm.MethodName) prog_15_method_11_code (1 : Nat) (Option.some (Jvm.ClassFile.FieldType.object "partbook/Element"))).before args0 about1 = true := code_word (m := ⟨6, 0⟩) (meth := k6m0) (c := k6c0) (by decide +kernel) rfl rfl rfl (by decide +kernel)
def codes1 : List Jvm.Cond := [Jvm.Cond.code x code maxLocals ret, Jvm.Cond.code ({ cls := "partbook/ElementBasePinLaw", name := "pick", desc := "(I)Lpartbook/Element;" } : Jvm.MethodName) method_2_code (1 : Nat) (Option.some (Jvm.ClassFile.FieldType.object "partbook/Element")), Jvm.Cond.code ({ cls := "partbook/ElementBasePinLaw", name := "expectedBase", desc := "(I)Lpartbook/Element;" } : Jvm.MethodName) method_3_code (1 : Nat) (Option.some (Jvm.ClassFile.FieldType.object "partbook/Element")), Jvm.Cond.code ({ cls := "partbook/Element", name := "base", desc := "()Lpartbook/Element;" } : Jvm.MethodName) prog_15_method_11_code (1 : Nat) (Option.some (Jvm.ClassFile.FieldType.object "partbook/Element"))]
set_option maxRecDepth 65536 in
theorem codes_eq : words1.filter isCode = codes1 := rfl
theorem w_codes : ∀ c ∈ words1.filter isCode, c.before args0 about1 = true := by
  rw [codes_eq]
  intro c hc
  simp only [codes1, List.mem_cons, List.not_mem_nil, or_false] at hc
  rcases hc with rfl | rfl | rfl | rfl
  · exact w_c0
  · exact w_c1
  · exact w_c2
  · exact w_c3
set_option maxRecDepth 65536 in
theorem w_t1 : (words1.take 24).all (fun c => isCode c || c.before args0 about1) = true := by decide +kernel
set_option maxRecDepth 65536 in
theorem w_t2 : (words1.drop 24).all (fun c => isCode c || c.before args0 about1) = true := by decide +kernel
theorem w_tables : (allAtoms (Jvm.Cond.code x code maxLocals ret :: tables_1)).before args0 about1 = true := by
  rw [allAtoms_all]
  show words1.all (fun c => c.before args0 about1) = true
  refine all_split ?_ w_codes
  rw [← List.take_append_drop 24 words1, List.all_append, w_t1, w_t2]
  rfl
set_option maxRecDepth 65536 in
theorem w_case : (Jvm.Cond.and given_1 narrow_1).before args0 about1 = true := by decide +kernel
theorem w_applies : (headSpec (Jvm.Cond.code x code maxLocals ret :: tables_1) room_1).applies x e0.platform about1 = true :=
  (Spec.applies_iff w_frames).mpr ⟨w_running, w_runnable, w_alone, w_named, w_hears, w_ripe, w_room, w_tables⟩
theorem atStart : AtStart classFile x code maxLocals ret World_1 tables_1 room_1 Calls_1 rest_1 Pre_1 launch0 p0 e0 about1 theMethod args0 below0 :=
  ⟨lists_1, trivial, launch0.admits_env _ _ _, launch0.least_env, fairChoices_fair.cas, fairChoices_fair.clock, w_frames, w_args, w_heap, w_applies, trivial, trivial, w_case⟩
end start1
theorem witness_1 : WitnessClaimed_1 := ⟨start1.p0, start1.e0, start1.about1, start1.theMethod, start1.args0, start1.below0, start1.atStart⟩
end Jvm.Pilot.@@N@@
