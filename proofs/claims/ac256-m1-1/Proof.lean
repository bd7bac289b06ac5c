import JvmDerived
import JvmDerived.Pilot.@@N@@Statement
import JvmDerived.Pilot.@@N@@Code
set_option linter.unusedVariables false
set_option linter.unusedSimpArgs false
@@BLOCK:NumsL.lean.txt@@
namespace Jvm.RoadKit
open Sem ClassFile Op Lib Jvm.Stand Jvm.Free Jvm.LawKit
section New
variable {p : Program} {l : Launch} {e : Env} {R : Room} {s : State} {m : MethodId} {args : Array Value} {below : List Frame} {meth : Method} {c : Code} {T : State} {locs : List Loc} {cells slots : Nat}
theorem retI (X : Stand p l e R s m args below meth c T locs cells slots) (hx : p.tables.exec = Jvm.exec) {pc : Nat} {Ls : Array Slot} {z : Int32} {rest : List Value} (hret : meth.sig.returnType = some .int) (hd : decode c.code pc = .ok (.ireturn, 1)) {fs : List Frame}
    (hl : ∀ (f : JFrame) (acts : List Action), f.method = m → f.locked = none → f.entered = [] → (doReturn e (T.setTop f) acts (some (.int z))).1 = T.setFrames fs) : Steps p.tables e below (T.setTop (mkF m pc Ls (.int z :: rest))) (T.setFrames fs) := by
  have hm' : T.vm.method? m = some meth := X.method'
  have hn : narrow .int (.int z) = .int z := rfl
  show Steps p.tables e below (T.setTop { method := m, pc := pc, locals := Ls, stack := _ :: rest, locked := none }) _
  jvm_step X.here [X.here.top, hx, hd, hm', hret, hn]
  first | (intro acts; rw [hl _ acts rfl rfl rfl]) | rw [hl _ _ rfl rfl rfl]
  exact Steps.refl _
end New
end Jvm.RoadKit
namespace Jvm.Pilot.@@N@@
open Jvm Jvm.ClassFile Sem Op Lib Jvm.Free Jvm.Stand Jvm.LawKit Jvm.RoadKit Bundle Jvm.Pilot.@@N@@.Jvm.D
theorem own_go {tb : Tables} {e : Env} {below : List Frame} {A B : State} {P : State → Outcome → Prop} (st : ∀ t, Steps tb e below B t → Steps tb e below A t) (h : ∃ s₂ o, Steps tb e below B s₂ ∧ P s₂ o) : ∃ s₂ o, Steps tb e below A s₂ ∧ P s₂ o := by
  obtain ⟨s₂, o, h1, h2⟩ := h
  exact ⟨s₂, o, st _ h1, h2⟩
theorem own_gj {tb : Tables} {e : Env} {below : List Frame} {A B : State} {P : State → Heap → List Loc → Prop} {F : State → State} (st : ∀ t, Steps tb e below B t → Steps tb e below A t) (h : ∃ T' h' L', P T' h' L' ∧ ∀ t, Steps tb e below (F T') t → Steps tb e below B t) : ∃ T' h' L', P T' h' L' ∧ ∀ t, Steps tb e below (F T') t → Steps tb e below A t := by
  obtain ⟨T', h', L', h1, h2⟩ := h
  exact ⟨T', h', L', h1, fun t k => st t (h2 t k)⟩
theorem own_stak {Z : State} {h h' : Heap} {C n d : String} {v : Value} (F : Sta Z h C n d v) (K : Keep h h' []) : Sta Z h' C n d v := by
  obtain ⟨cf, i, k, f, st, cell, h1, h2, h3, h4, h5, r⟩ := F
  exact ⟨cf, i, k, f, st, cell, h1, h2, h3, h4, K.2.1 _ _ h5 nin0, r⟩
theorem own_eqv {args : Array Value} {s : State} {a b : Term} {v : Value} (h : (Jvm.Cond.eq a b).value args s none s [] = some true) (hb : b.eval args s none [] s = some v) : a.eval args s none [] s = some v := by
  simp only [Cond.value, hb] at h
  cases ha : a.eval args s none [] s with
  | none => simp [ha] at h
  | some x => cases x <;> cases v <;> simp [ha] at h ⊢ <;> exact h
theorem d2_0 : decode prog_9_method_1_code 0 = .ok (.getstatic 16, 3) := by decide +kernel
theorem d2_3 : decode prog_9_method_1_code 3 = .ok (.invokevirtual 20, 3) := by decide +kernel
theorem d2_6 : decode prog_9_method_1_code 6 = .ok (.checkcast 21, 3) := by decide +kernel
theorem d2_9 : decode prog_9_method_1_code 9 = .ok (.areturn, 1) := by decide +kernel
theorem pn_2 : plainName "com/example/pactum/pactum/cli/ExitCode" = true := by first | (simp [plainName, overriddenIn]; done) | decide +kernel
theorem ef_2 (m : MethodId)  : entryFrame m #[] 0 = mkF m 0 #[] [] := by first | (simp [entryFrame, mkF, argsToLocals, Value.category]; done) | rfl
def Q2 (Z : State) (ad : Nat → Addr) (va : Addr) (kk : ClassId) (h0 : Heap) (n0 : Nat) (v : Option Value) (h : Heap) (L : List Loc) : Prop := ∃ b : Addr, v = some (.ref b) ∧ Fr n0 L ∧ Keep h0 h [] ∧ h0.size ≤ b ∧ Arv Z h b kk (.object "com/example/pactum/pactum/cli/ExitCode") (4 : Int32) [(.ref (ad 0)), (.ref (ad 1)), (.ref (ad 2)), (.ref (ad 3))] .null
set_option maxRecDepth 65536 in
set_option maxHeartbeats 40000000 in
theorem rm2 (l : Launch) (Z : State) (av0 : Array Value) (hw : ∀ d ∈ tables_1, d.before av0 Z = true) (ws : List Jvm.Cond) (ad : Nat → Addr) (va : Addr) (kk : ClassId) (h0 : Heap) (n0 : Nat) (Z0 : n0 ≤ h0.size) (SV : Sta Z h0 "com/example/pactum/pactum/cli/ExitCode" "$VALUES" "[Lcom/example/pactum/pactum/cli/ExitCode;" (.ref va)) (VV : Arv Z h0 va kk (.object "com/example/pactum/pactum/cli/ExitCode") (4 : Int32) [(.ref (ad 0)), (.ref (ad 1)), (.ref (ad 2)), (.ref (ad 3))] .null) (EV : Exa Z h0 va "[Lcom/example/pactum/pactum/cli/ExitCode;") :
    MetFree l (⟨"com/example/pactum/pactum/cli/ExitCode", "values", "()[Lcom/example/pactum/pactum/cli/ExitCode;"⟩ : MethodName) (head1 (Jvm.Cond.code (⟨"com/example/pactum/pactum/cli/ExitCode", "values", "()[Lcom/example/pactum/pactum/cli/ExitCode;"⟩ : MethodName) prog_9_method_1_code 0 (some (.array (.object "com/example/pactum/pactum/cli/ExitCode"))) :: ws) ({ frames := 1, cells := 1, slots := 4, locals := 14 } : Room)) (fun a U => a = #[] ∧ Z.Warmed39 U.vm ∧ U.heap = h0) (fun _ _ _ _ _ => True) (fun _ U o U' => ∃ v L, o = .returned v ∧ Q2 Z ad va kk h0 n0 v U'.heap L ∧ FrameEnd U o U' L ({ frames := 1, cells := 1, slots := 4, locals := 14 } : Room).cells ({ frames := 1, cells := 1, slots := 4, locals := 14 } : Room).slots) := by
  refine MetFree.of_bodySF (plainFor_of_name pn_2) hisR ?_
  intro p e s m args below meth c s₁ Bd hml0 hP hK
  obtain ⟨rfl, hZ, hh⟩ := hP
  have hx := Bd.exec
  have hby := Bd.bytes
  have hml : c.maxLocals = 0 := hml0
  have hown : s.vm.findClass "com/example/pactum/pactum/cli/ExitCode" = some m.cls := findClass_of_methodNamed Bd.named
  have hnm := (name_of_methodNamed Bd.named Bd.method).1
  have X0 : Stand p l e ({ frames := 1, cells := 1, slots := 4, locals := 14 } : Room) s m #[] below meth c s₁ [] 0 0 := Stand.of_body Bd
  have e0 : s₁.heap = h0 := by rw [← hh, Bd.state]; rfl
  have N0 := Fr.nil n0
  have K0 : Keep h0 h0 [] := Keep.refl h0 []
  refine own_go (B := s₁.setTop (mkF m 0 #[] [])) (fun t k => castTop (ef_2 m ) k) ?_
  obtain ⟨T_1, X_1, e_1, st_1⟩ := getS2 X0 hx hZ hown (host := "") (Or.inl (hw _ (List.mem_of_getElem? (i := 9) rfl))) Via.refl e0 SV (g := (mkF m 0 #[] [])) rfl (hb hby d2_0)
  refine own_go (B := T_1.setTop (mkF m 3 #[] [(.ref va)])) (fun t k => st_1 t k) ?_
  obtain ⟨T_2, h_2, X_2, e_2, E_2, V_2, A_2, st_2⟩ := cloneH X_1 hx hZ hown (hw _ (List.mem_of_getElem? (i := 11) rfl)) (hw _ (List.mem_of_getElem? (i := 12) rfl)) (hw _ (List.mem_of_getElem? (i := 16) rfl)) (hw _ (List.mem_of_getElem? (i := 14) rfl)) (hw _ (List.mem_of_getElem? (i := 15) rfl)) (hw _ (List.mem_of_getElem? (i := 17) rfl)) e_1 VV.arh EV (g := (mkF m 3 #[] [(.ref va)])) rfl (by rw [hml]; rfl) rfl (hb hby d2_3) (by decide) (W := 0) (cap := 4) (by show 2 * 0 + _ ≤ _; exact Nat.le_of_eq rfl) (by decide) (by decide) (by decide) (by decide)
  obtain ⟨b_2, g_2⟩ : ∃ z, z = h0.size := ⟨_, rfl⟩
  rw [← g_2] at V_2 A_2 st_2
  have g_b_2 : n0 ≤ b_2 := Nat.le_trans Z0 (Nat.le_of_eq g_2.symm)
  have sz_b_2 : h0.size ≤ b_2 := Nat.le_trans K0.1 (Nat.le_of_eq g_2.symm)
  have ne_va_b_2 : va ≠ b_2 := Nat.ne_of_lt (Nat.lt_of_lt_of_le (VV).lt (Nat.le_of_eq g_2.symm))
  have c1 : Keep h0 h_2 [] := K0.ext E_2
  have c2 := SV.ext E_2
  have c3 := VV.ext E_2
  have c4 : Exa Z h_2 va "[Lcom/example/pactum/pactum/cli/ExitCode;" := EV.ext E_2
  have Z0__2 : n0 ≤ h_2.size := Nat.le_trans Z0 E_2.1
  have V_b_2 : Arv Z h_2 b_2 kk (.object "com/example/pactum/pactum/cli/ExitCode") (4 : Int32) [(.ref (ad 0)), (.ref (ad 1)), (.ref (ad 2)), (.ref (ad 3))] .null := V_2
  refine own_go (B := T_2.setTop (mkF m 6 #[] [(.ref b_2)])) (fun t k => st_2 t k) ?_
  obtain ⟨T_3, X_3, e_3, st_3⟩ := castY X_2 hx hZ hown (hw _ (List.mem_of_getElem? (i := 22) rfl)) e_2 (Ins.self A_2) (g := (mkF m 6 #[] [(.ref b_2)])) rfl rfl (hb hby d2_6)
  refine own_go (B := T_3.setTop (mkF m 9 #[] [(.ref b_2)])) (fun t k => st_3 t k) ?_
  obtain ⟨fs, hr, hrun, hended, hW, hsame⟩ := X_3.leave (v := some (.ref b_2)) (fun h => by rw [Bd.returns] at h; cases h)
  refine ⟨_, _, ?_, hrun, hended, _, _, rfl, ?_, ⟨_, rfl⟩, hW, hsame.mono (by decide) (by decide)⟩
  · show Steps p.tables e below (T_3.setTop (mkF m 9 #[] [(.ref b_2)])) _
    jvm_step X_3.here [X_3.here.top, hx, (hb hby d2_9), X_3.method', Bd.returns, Value.isRef, FieldType.isReference]
    first | (intro acts; rw [hr _ acts rfl rfl rfl]) | rw [hr _ _ rfl rfl rfl]
    exact Steps.refl _
  · show Q2 Z ad va kk h0 n0 _ T_3.heap _
    rw [e_3]
    exact ⟨b_2, rfl, N0, c1, sz_b_2, V_b_2⟩
def own_of (p : Int32) : Nat := if (0 : Int32) = p then 0 else if (1 : Int32) = p then 1 else if (2 : Int32) = p then 2 else 3
theorem d1_0 : decode prog_9_method_6_code 0 = .ok (.invokestatic 43, 3) := by decide +kernel
theorem d1_3 : decode prog_9_method_6_code 3 = .ok (.astore_n 1, 1) := by decide +kernel
theorem d1_4 : decode prog_9_method_6_code 4 = .ok (.aload_n 1, 1) := by decide +kernel
theorem d1_5 : decode prog_9_method_6_code 5 = .ok (.arraylength, 1) := by decide +kernel
theorem d1_6 : decode prog_9_method_6_code 6 = .ok (.istore_n 2, 1) := by decide +kernel
theorem d1_7 : decode prog_9_method_6_code 7 = .ok (.iconst 0, 1) := by decide +kernel
theorem d1_8 : decode prog_9_method_6_code 8 = .ok (.istore_n 3, 1) := by decide +kernel
theorem d1_9 : decode prog_9_method_6_code 9 = .ok (.iload_n 3, 1) := by decide +kernel
theorem d1_10 : decode prog_9_method_6_code 10 = .ok (.iload_n 2, 1) := by decide +kernel
theorem d1_11 : decode prog_9_method_6_code 11 = .ok (.if_icmp .ge 26, 3) := by decide +kernel
theorem d1_14 : decode prog_9_method_6_code 14 = .ok (.aload_n 1, 1) := by decide +kernel
theorem d1_15 : decode prog_9_method_6_code 15 = .ok (.iload_n 3, 1) := by decide +kernel
theorem d1_16 : decode prog_9_method_6_code 16 = .ok (.aaload, 1) := by decide +kernel
theorem d1_17 : decode prog_9_method_6_code 17 = .ok (.astore 4, 2) := by decide +kernel
theorem d1_19 : decode prog_9_method_6_code 19 = .ok (.aload 4, 2) := by decide +kernel
theorem d1_21 : decode prog_9_method_6_code 21 = .ok (.getfield 35, 3) := by decide +kernel
theorem d1_24 : decode prog_9_method_6_code 24 = .ok (.iload_n 0, 1) := by decide +kernel
theorem d1_25 : decode prog_9_method_6_code 25 = .ok (.if_icmp .ne 6, 3) := by decide +kernel
theorem d1_28 : decode prog_9_method_6_code 28 = .ok (.aload 4, 2) := by decide +kernel
theorem d1_30 : decode prog_9_method_6_code 30 = .ok (.areturn, 1) := by decide +kernel
theorem d1_31 : decode prog_9_method_6_code 31 = .ok (.iinc 3 1, 3) := by decide +kernel
theorem d1_34 : decode prog_9_method_6_code 34 = .ok (.goto (-25), 3) := by decide +kernel
theorem pn_1 : plainName "com/example/pactum/pactum/cli/ExitCode" = true := by first | (simp [plainName, overriddenIn]; done) | decide +kernel
theorem ef_1 (m : MethodId) (p0 : Int32) : entryFrame m #[(.int p0)] 5 = mkF m 0 #[.val (.int p0), .unset, .unset, .unset, .unset] [] := by first | (simp [entryFrame, mkF, argsToLocals, Value.category]; done) | rfl
theorem pd_0 : parseMethodDescriptor "()[Lcom/example/pactum/pactum/cli/ExitCode;" = some ⟨[], some (.array (.object "com/example/pactum/pactum/cli/ExitCode"))⟩ := by decide +kernel
def Q1 (Z : State) (p0 : Int32) (ad : Nat → Addr) (va : Addr) (kk : ClassId) (h0 : Heap) (n0 : Nat) (v : Option Value) (h : Heap) (L : List Loc) : Prop := v = some (.ref (ad (own_of p0))) ∧ Fr n0 L ∧ Keep h0 h []
set_option maxRecDepth 65536 in
set_option maxHeartbeats 40000000 in
theorem rm1 (l : Launch) (Z : State) (av0 : Array Value) (hw : ∀ d ∈ tables_1, d.before av0 Z = true) (ws : List Jvm.Cond) (p0 : Int32) (ad : Nat → Addr) (va : Addr) (kk : ClassId) (h0 : Heap) (n0 : Nat) (Z0 : n0 ≤ h0.size) (SV : Sta Z h0 "com/example/pactum/pactum/cli/ExitCode" "$VALUES" "[Lcom/example/pactum/pactum/cli/ExitCode;" (.ref va)) (VV : Arv Z h0 va kk (.object "com/example/pactum/pactum/cli/ExitCode") (4 : Int32) [(.ref (ad 0)), (.ref (ad 1)), (.ref (ad 2)), (.ref (ad 3))] .null) (EV : Exa Z h0 va "[Lcom/example/pactum/pactum/cli/ExitCode;") (hF : ∀ j, j < 4 → Fld Z h0 (ad j) "com/example/pactum/pactum/cli/ExitCode" "status" "I" (.int (Int32.ofNat j))) (hp : p0 = (0 : Int32) ∨ p0 = (1 : Int32) ∨ p0 = (2 : Int32) ∨ p0 = (3 : Int32)) :
    MetFree l (⟨"com/example/pactum/pactum/cli/ExitCode", "of", "(I)Lcom/example/pactum/pactum/cli/ExitCode;"⟩ : MethodName) (head1 (Jvm.Cond.code (⟨"com/example/pactum/pactum/cli/ExitCode", "of", "(I)Lcom/example/pactum/pactum/cli/ExitCode;"⟩ : MethodName) prog_9_method_6_code 5 (some (.object "com/example/pactum/pactum/cli/ExitCode")) :: ws) ({ frames := 2, cells := 1, slots := 4, locals := 25 } : Room)) (fun a U => a = #[(.int p0)] ∧ Z.Warmed39 U.vm ∧ U.heap = h0) (fun _ _ _ _ _ => True) (fun _ U o U' => ∃ v L, o = .returned v ∧ Q1 Z p0 ad va kk h0 n0 v U'.heap L ∧ FrameEnd U o U' L ({ frames := 2, cells := 1, slots := 4, locals := 25 } : Room).cells ({ frames := 2, cells := 1, slots := 4, locals := 25 } : Room).slots) := by
  refine MetFree.of_bodySF (plainFor_of_name pn_1) hisR ?_
  intro p e s m args below meth c s₁ Bd hml0 hP hK
  obtain ⟨rfl, hZ, hh⟩ := hP
  have hx := Bd.exec
  have hby := Bd.bytes
  have hml : c.maxLocals = 5 := hml0
  have hown : s.vm.findClass "com/example/pactum/pactum/cli/ExitCode" = some m.cls := findClass_of_methodNamed Bd.named
  have hnm := (name_of_methodNamed Bd.named Bd.method).1
  have X0 : Stand p l e ({ frames := 2, cells := 1, slots := 4, locals := 25 } : Room) s m #[(.int p0)] below meth c s₁ [] 0 0 := Stand.of_body Bd
  have e0 : s₁.heap = h0 := by rw [← hh, Bd.state]; rfl
  have N0 := Fr.nil n0
  have K0 : Keep h0 h0 [] := Keep.refl h0 []
  refine own_go (B := s₁.setTop (mkF m 0 #[.val (.int p0), .unset, .unset, .unset, .unset] [])) (fun t k => castTop (ef_1 m p0) k) ?_
  obtain ⟨_, _, ⟨T_1, L_1, k_1, n_1⟩, -, X_1, ⟨Lc_1, hQ_1, l_1, y_1, z_1⟩, st_1⟩ := Jvm.LawKit.callS X0 hx (y := (⟨"com/example/pactum/pactum/cli/ExitCode", "values", "()[Lcom/example/pactum/pactum/cli/ExitCode;"⟩ : MethodName)) hown (mvT hZ (hw _ (List.mem_of_getElem? (i := 6) rfl))) (mvT hZ (hw _ (List.mem_of_getElem? (i := 7) rfl))) (mvT hZ (hw _ (List.mem_of_getElem? (i := 1) rfl))) (mvT hZ (hw _ (List.mem_of_getElem? (i := 8) rfl))) (by decide) (backOf (W := 0) (rm2 l Z av0 hw []  ad va kk h0 n0 Z0 SV VV EV) hZ (hw _ (List.mem_of_getElem? (i := 8) rfl)) (hw _ (List.mem_of_getElem? (i := 1) rfl)) (by decide) (by decide)) (g := (mkF m 0 #[.val (.int p0), .unset, .unset, .unset, .unset] [])) rfl (by rw [hml]; rfl) (argsL := []) (rest := []) (lenOf pd_0 rfl) rfl (by show 2 * 0 + _ ≤ _; exact Nat.le_of_eq rfl) (hb hby d1_0) (fun _ _ => ⟨rfl, e0, (by decide : 0 + 1 ≤ _), (by decide : 0 + 4 ≤ _)⟩)
  dsimp only [Pt.U, Pt.locs, Pt.cells, Pt.slots] at X_1 l_1 y_1 z_1 st_1 hQ_1
  subst l_1 y_1 z_1
  obtain ⟨b_1, rfl, N_1q, K_1, szq_1, V_1⟩ := hQ_1
  have N_1 := Fr.app N0 N_1q
  have c1 : Keep h0 T_1.heap [] := K0.trans K_1 all0
  have c2 : Fld Z T_1.heap (ad 0) "com/example/pactum/pactum/cli/ExitCode" "status" "I" (.int (0 : Int32)) := ((hF 0 (by decide))).keep K_1 nin0
  have c3 : Fld Z T_1.heap (ad 1) "com/example/pactum/pactum/cli/ExitCode" "status" "I" (.int (1 : Int32)) := ((hF 1 (by decide))).keep K_1 nin0
  have c4 : Fld Z T_1.heap (ad 2) "com/example/pactum/pactum/cli/ExitCode" "status" "I" (.int (2 : Int32)) := ((hF 2 (by decide))).keep K_1 nin0
  have c5 : Fld Z T_1.heap (ad 3) "com/example/pactum/pactum/cli/ExitCode" "status" "I" (.int (3 : Int32)) := ((hF 3 (by decide))).keep K_1 nin0
  have c6 := VV.keep K_1 nin0
  have c7 := own_stak SV K_1
  have c8 : Exa Z T_1.heap va "[Lcom/example/pactum/pactum/cli/ExitCode;" := EV.keep K_1
  have Z0__1 : n0 ≤ T_1.heap.size := Nat.le_trans Z0 K_1.1
  refine own_go (B := T_1.setTop (mkF m 3 #[.val (.int p0), .unset, .unset, .unset, .unset] [(.ref b_1)])) (fun t k => st_1 t k) ?_
  refine own_go (B := T_1.setTop (mkF m 5 #[.val (.int p0), .val (.ref b_1), .unset, .unset, .unset] [(.ref b_1)])) (fun t k => ?_) ?_
  · show Steps p.tables e below (T_1.setTop (mkF m 3 #[.val (.int p0), .unset, .unset, .unset, .unset] [(.ref b_1)])) _
    refine XS.astoreN X_1.here hx rfl (hb hby d1_3) rfl rfl (l' := #[.val (.int p0), .val (.ref b_1), .unset, .unset, .unset]) rfl ?_
    show Steps p.tables e below (T_1.setTop (mkF m 4 #[.val (.int p0), .val (.ref b_1), .unset, .unset, .unset] [])) _
    refine XS.aloadN X_1.here hx rfl (hb hby d1_4) rfl rfl ?_
    exact k
  obtain ⟨cl_2, Ar_2, -, S_2, M_2, -, -⟩ := id V_1
  refine own_go (B := T_1.setTop (mkF m 6 #[.val (.int p0), .val (.ref b_1), .unset, .unset, .unset] [(.int (4 : Int32))])) (fun t k => X_1.arraylength hx Ar_2.1 (State.isArrayOf_alike hZ.alike Ar_2.2.1) (g := (mkF m 5 #[.val (.int p0), .val (.ref b_1), .unset, .unset, .unset] [(.ref b_1)])) rfl rfl (hb hby d1_5) t (by rw [len_of S_2 M_2]; exact k)) ?_
  refine own_go (B := T_1.setTop (mkF m 11 #[.val (.int p0), .val (.ref b_1), .val (.int (4 : Int32)), .val (.int (0 : Int32)), .unset] [(.int (4 : Int32)), (.int (0 : Int32))])) (fun t k => ?_) ?_
  · show Steps p.tables e below (T_1.setTop (mkF m 6 #[.val (.int p0), .val (.ref b_1), .unset, .unset, .unset] [(.int (4 : Int32))])) _
    refine XS.istoreN X_1.here hx rfl (hb hby d1_6) rfl (l' := #[.val (.int p0), .val (.ref b_1), .val (.int (4 : Int32)), .unset, .unset]) rfl ?_
    show Steps p.tables e below (T_1.setTop (mkF m 7 #[.val (.int p0), .val (.ref b_1), .val (.int (4 : Int32)), .unset, .unset] [])) _
    refine XS.iconst X_1.here hx rfl (hb hby d1_7) ?_
    show Steps p.tables e below (T_1.setTop (mkF m 8 #[.val (.int p0), .val (.ref b_1), .val (.int (4 : Int32)), .unset, .unset] [(.int (0 : Int32))])) _
    refine XS.istoreN X_1.here hx rfl (hb hby d1_8) rfl (l' := #[.val (.int p0), .val (.ref b_1), .val (.int (4 : Int32)), .val (.int (0 : Int32)), .unset]) rfl ?_
    show Steps p.tables e below (T_1.setTop (mkF m 9 #[.val (.int p0), .val (.ref b_1), .val (.int (4 : Int32)), .val (.int (0 : Int32)), .unset] [])) _
    refine XS.iloadN X_1.here hx rfl (hb hby d1_9) rfl ?_
    show Steps p.tables e below (T_1.setTop (mkF m 10 #[.val (.int p0), .val (.ref b_1), .val (.int (4 : Int32)), .val (.int (0 : Int32)), .unset] [(.int (0 : Int32))])) _
    refine XS.iloadN X_1.here hx rfl (hb hby d1_10) rfl ?_
    exact k
  refine own_go (B := T_1.setTop (mkF m 14 #[.val (.int p0), .val (.ref b_1), .val (.int (4 : Int32)), .val (.int (0 : Int32)), .unset] [])) (fun t k => ?_) ?_
  · show Steps p.tables e below (T_1.setTop (mkF m 11 #[.val (.int p0), .val (.ref b_1), .val (.int (4 : Int32)), .val (.int (0 : Int32)), .unset] [(.int (4 : Int32)), (.int (0 : Int32))])) _
    refine XS.icmpNo X_1.here hx rfl (hb hby d1_11) rfl (tlt (by decide : (0 : Int32) < (4 : Int32))).2.1 ?_
    exact k
  refine own_go (B := T_1.setTop (mkF m 16 #[.val (.int p0), .val (.ref b_1), .val (.int (4 : Int32)), .val (.int (0 : Int32)), .unset] [(.int (0 : Int32)), (.ref b_1)])) (fun t k => ?_) ?_
  · show Steps p.tables e below (T_1.setTop (mkF m 14 #[.val (.int p0), .val (.ref b_1), .val (.int (4 : Int32)), .val (.int (0 : Int32)), .unset] [])) _
    refine XS.aloadN X_1.here hx rfl (hb hby d1_14) rfl rfl ?_
    show Steps p.tables e below (T_1.setTop (mkF m 15 #[.val (.int p0), .val (.ref b_1), .val (.int (4 : Int32)), .val (.int (0 : Int32)), .unset] [(.ref b_1)])) _
    refine XS.iloadN X_1.here hx rfl (hb hby d1_15) rfl ?_
    exact k
  obtain ⟨cl_3, Ar_3, q_3, S_3, M_3, H_3, G_3⟩ := id V_1
  have hin_3 : ¬ ((0 : Int32) < 0 ∨ cl_3.slots.size ≤ ((0 : Int32)).toNatClampNeg) := inb_of S_3 ⟨by decide, by decide⟩
  have hat_3 : cl_3.slots[((0 : Int32)).toNatClampNeg]? = some (.ref (ad 0)) := H_3.at hin_3 rfl
  refine own_go (B := T_1.setTop (mkF m 17 #[.val (.int p0), .val (.ref b_1), .val (.int (4 : Int32)), .val (.int (0 : Int32)), .unset] [(.ref (ad 0))])) (fun t k => X_1.aaload hx (j := (0 : Int32)) (v := (.ref (ad 0))) Ar_3.1 (State.isArrayOf_alike hZ.alike Ar_3.2.1) rfl Ar_3.2.2 hin_3 hat_3 (g := (mkF m 16 #[.val (.int p0), .val (.ref b_1), .val (.int (4 : Int32)), .val (.int (0 : Int32)), .unset] [(.int (0 : Int32)), (.ref b_1)])) rfl rfl (hb hby d1_16) t k) ?_
  refine own_go (B := T_1.setTop (mkF m 21 #[.val (.int p0), .val (.ref b_1), .val (.int (4 : Int32)), .val (.int (0 : Int32)), .val (.ref (ad 0))] [(.ref (ad 0))])) (fun t k => ?_) ?_
  · show Steps p.tables e below (T_1.setTop (mkF m 17 #[.val (.int p0), .val (.ref b_1), .val (.int (4 : Int32)), .val (.int (0 : Int32)), .unset] [(.ref (ad 0))])) _
    refine XS.astore X_1.here hx rfl (hb hby d1_17) rfl rfl (l' := #[.val (.int p0), .val (.ref b_1), .val (.int (4 : Int32)), .val (.int (0 : Int32)), .val (.ref (ad 0))]) rfl ?_
    show Steps p.tables e below (T_1.setTop (mkF m 19 #[.val (.int p0), .val (.ref b_1), .val (.int (4 : Int32)), .val (.int (0 : Int32)), .val (.ref (ad 0))] [])) _
    refine XS.aload X_1.here hx rfl (hb hby d1_19) rfl rfl ?_
    exact k
  obtain ⟨T_4, X_4, e_4, st_4⟩ := getF X_1 hx hZ hown (host := "") (Or.inl (hw _ (List.mem_of_getElem? (i := 24) rfl))) Via.refl rfl c2 (g := (mkF m 21 #[.val (.int p0), .val (.ref b_1), .val (.int (4 : Int32)), .val (.int (0 : Int32)), .val (.ref (ad 0))] [(.ref (ad 0))])) rfl rfl (hb hby d1_21)
  refine own_go (B := T_4.setTop (mkF m 24 #[.val (.int p0), .val (.ref b_1), .val (.int (4 : Int32)), .val (.int (0 : Int32)), .val (.ref (ad 0))] [(.int (0 : Int32))])) (fun t k => st_4 t k) ?_
  refine own_go (B := T_4.setTop (mkF m 25 #[.val (.int p0), .val (.ref b_1), .val (.int (4 : Int32)), .val (.int (0 : Int32)), .val (.ref (ad 0))] [(.int p0), (.int (0 : Int32))])) (fun t k => ?_) ?_
  · show Steps p.tables e below (T_4.setTop (mkF m 24 #[.val (.int p0), .val (.ref b_1), .val (.int (4 : Int32)), .val (.int (0 : Int32)), .val (.ref (ad 0))] [(.int (0 : Int32))])) _
    refine XS.iloadN X_4.here hx rfl (hb hby d1_24) rfl ?_
    exact k
  by_cases hc25 : (0 : Int32) = p0
  · refine own_go (B := T_4.setTop (mkF m 28 #[.val (.int p0), .val (.ref b_1), .val (.int (4 : Int32)), .val (.int (0 : Int32)), .val (.ref (ad 0))] [])) (fun t k => ?_) ?_
    · show Steps p.tables e below (T_4.setTop (mkF m 25 #[.val (.int p0), .val (.ref b_1), .val (.int (4 : Int32)), .val (.int (0 : Int32)), .val (.ref (ad 0))] [(.int p0), (.int (0 : Int32))])) _
      refine XS.icmpNo X_4.here hx rfl (hb hby d1_25) rfl (teq hc25).2 ?_
      exact k
    refine own_go (B := T_4.setTop (mkF m 30 #[.val (.int p0), .val (.ref b_1), .val (.int (4 : Int32)), .val (.int (0 : Int32)), .val (.ref (ad 0))] [(.ref (ad 0))])) (fun t k => ?_) ?_
    · show Steps p.tables e below (T_4.setTop (mkF m 28 #[.val (.int p0), .val (.ref b_1), .val (.int (4 : Int32)), .val (.int (0 : Int32)), .val (.ref (ad 0))] [])) _
      refine XS.aload X_4.here hx rfl (hb hby d1_28) rfl rfl ?_
      exact k
    obtain ⟨fs, hr, hrun, hended, hW, hsame⟩ := X_4.leave (v := some (.ref (ad 0))) (fun h => by rw [Bd.returns] at h; cases h)
    refine ⟨_, _, ?_, hrun, hended, _, _, rfl, ?_, ⟨_, rfl⟩, hW, hsame.mono (by decide) (by decide)⟩
    · show Steps p.tables e below (T_4.setTop (mkF m 30 #[.val (.int p0), .val (.ref b_1), .val (.int (4 : Int32)), .val (.int (0 : Int32)), .val (.ref (ad 0))] [(.ref (ad 0))])) _
      jvm_step X_4.here [X_4.here.top, hx, (hb hby d1_30), X_4.method', Bd.returns, Value.isRef, FieldType.isReference]
      first | (intro acts; rw [hr _ acts rfl rfl rfl]) | rw [hr _ _ rfl rfl rfl]
      exact Steps.refl _
    · show Q1 Z p0 ad va kk h0 n0 _ T_4.heap _
      rw [e_4]
      exact ⟨by simp only [own_of, if_pos hF, if_pos hp, if_pos hc25], N_1, c1⟩
  · refine own_go (B := T_4.setTop (mkF m 31 #[.val (.int p0), .val (.ref b_1), .val (.int (4 : Int32)), .val (.int (0 : Int32)), .val (.ref (ad 0))] [])) (fun t k => ?_) ?_
    · show Steps p.tables e below (T_4.setTop (mkF m 25 #[.val (.int p0), .val (.ref b_1), .val (.int (4 : Int32)), .val (.int (0 : Int32)), .val (.ref (ad 0))] [(.int p0), (.int (0 : Int32))])) _
      refine XS.icmpYes X_4.here hx rfl (pc0 := 25) (pc' := 31) rfl (hb hby d1_25) rfl (feq hc25).2 (by decide) (by decide) ?_
      exact k
    refine own_go (B := T_4.setTop (mkF m 11 #[.val (.int p0), .val (.ref b_1), .val (.int (4 : Int32)), .val (.int (1 : Int32)), .val (.ref (ad 0))] [(.int (4 : Int32)), (.int (1 : Int32))])) (fun t k => ?_) ?_
    · show Steps p.tables e below (T_4.setTop (mkF m 31 #[.val (.int p0), .val (.ref b_1), .val (.int (4 : Int32)), .val (.int (0 : Int32)), .val (.ref (ad 0))] [])) _
      refine XS.iinc X_4.here hx rfl (hb hby d1_31) rfl (l' := #[.val (.int p0), .val (.ref b_1), .val (.int (4 : Int32)), .val (.int (1 : Int32)), .val (.ref (ad 0))]) rfl ?_
      show Steps p.tables e below (T_4.setTop (mkF m 34 #[.val (.int p0), .val (.ref b_1), .val (.int (4 : Int32)), .val (.int (1 : Int32)), .val (.ref (ad 0))] [])) _
      refine XS.goto X_4.here hx rfl (pc0 := 34) (pc' := 9) rfl (hb hby d1_34) (by decide) (by decide) ?_
      show Steps p.tables e below (T_4.setTop (mkF m 9 #[.val (.int p0), .val (.ref b_1), .val (.int (4 : Int32)), .val (.int (1 : Int32)), .val (.ref (ad 0))] [])) _
      refine XS.iloadN X_4.here hx rfl (hb hby d1_9) rfl ?_
      show Steps p.tables e below (T_4.setTop (mkF m 10 #[.val (.int p0), .val (.ref b_1), .val (.int (4 : Int32)), .val (.int (1 : Int32)), .val (.ref (ad 0))] [(.int (1 : Int32))])) _
      refine XS.iloadN X_4.here hx rfl (hb hby d1_10) rfl ?_
      exact k
    refine own_go (B := T_4.setTop (mkF m 14 #[.val (.int p0), .val (.ref b_1), .val (.int (4 : Int32)), .val (.int (1 : Int32)), .val (.ref (ad 0))] [])) (fun t k => ?_) ?_
    · show Steps p.tables e below (T_4.setTop (mkF m 11 #[.val (.int p0), .val (.ref b_1), .val (.int (4 : Int32)), .val (.int (1 : Int32)), .val (.ref (ad 0))] [(.int (4 : Int32)), (.int (1 : Int32))])) _
      refine XS.icmpNo X_4.here hx rfl (hb hby d1_11) rfl (tlt (by decide : (1 : Int32) < (4 : Int32))).2.1 ?_
      exact k
    refine own_go (B := T_4.setTop (mkF m 16 #[.val (.int p0), .val (.ref b_1), .val (.int (4 : Int32)), .val (.int (1 : Int32)), .val (.ref (ad 0))] [(.int (1 : Int32)), (.ref b_1)])) (fun t k => ?_) ?_
    · show Steps p.tables e below (T_4.setTop (mkF m 14 #[.val (.int p0), .val (.ref b_1), .val (.int (4 : Int32)), .val (.int (1 : Int32)), .val (.ref (ad 0))] [])) _
      refine XS.aloadN X_4.here hx rfl (hb hby d1_14) rfl rfl ?_
      show Steps p.tables e below (T_4.setTop (mkF m 15 #[.val (.int p0), .val (.ref b_1), .val (.int (4 : Int32)), .val (.int (1 : Int32)), .val (.ref (ad 0))] [(.ref b_1)])) _
      refine XS.iloadN X_4.here hx rfl (hb hby d1_15) rfl ?_
      exact k
    obtain ⟨cl_5, Ar_5, q_5, S_5, M_5, H_5, G_5⟩ := id V_1
    have hin_5 : ¬ ((1 : Int32) < 0 ∨ cl_5.slots.size ≤ ((1 : Int32)).toNatClampNeg) := inb_of S_5 ⟨by decide, by decide⟩
    have hat_5 : cl_5.slots[((1 : Int32)).toNatClampNeg]? = some (.ref (ad 1)) := H_5.at hin_5 rfl
    refine own_go (B := T_4.setTop (mkF m 17 #[.val (.int p0), .val (.ref b_1), .val (.int (4 : Int32)), .val (.int (1 : Int32)), .val (.ref (ad 0))] [(.ref (ad 1))])) (fun t k => X_4.aaload hx (j := (1 : Int32)) (v := (.ref (ad 1))) (by rw [(e_4 : _ = _)]; exact Ar_5.1) (State.isArrayOf_alike hZ.alike Ar_5.2.1) rfl Ar_5.2.2 hin_5 hat_5 (g := (mkF m 16 #[.val (.int p0), .val (.ref b_1), .val (.int (4 : Int32)), .val (.int (1 : Int32)), .val (.ref (ad 0))] [(.int (1 : Int32)), (.ref b_1)])) rfl rfl (hb hby d1_16) t k) ?_
    refine own_go (B := T_4.setTop (mkF m 21 #[.val (.int p0), .val (.ref b_1), .val (.int (4 : Int32)), .val (.int (1 : Int32)), .val (.ref (ad 1))] [(.ref (ad 1))])) (fun t k => ?_) ?_
    · show Steps p.tables e below (T_4.setTop (mkF m 17 #[.val (.int p0), .val (.ref b_1), .val (.int (4 : Int32)), .val (.int (1 : Int32)), .val (.ref (ad 0))] [(.ref (ad 1))])) _
      refine XS.astore X_4.here hx rfl (hb hby d1_17) rfl rfl (l' := #[.val (.int p0), .val (.ref b_1), .val (.int (4 : Int32)), .val (.int (1 : Int32)), .val (.ref (ad 1))]) rfl ?_
      show Steps p.tables e below (T_4.setTop (mkF m 19 #[.val (.int p0), .val (.ref b_1), .val (.int (4 : Int32)), .val (.int (1 : Int32)), .val (.ref (ad 1))] [])) _
      refine XS.aload X_4.here hx rfl (hb hby d1_19) rfl rfl ?_
      exact k
    obtain ⟨T_6, X_6, e_6, st_6⟩ := getF X_4 hx hZ hown (host := "") (Or.inl (hw _ (List.mem_of_getElem? (i := 24) rfl))) Via.refl e_4 c3 (g := (mkF m 21 #[.val (.int p0), .val (.ref b_1), .val (.int (4 : Int32)), .val (.int (1 : Int32)), .val (.ref (ad 1))] [(.ref (ad 1))])) rfl rfl (hb hby d1_21)
    refine own_go (B := T_6.setTop (mkF m 24 #[.val (.int p0), .val (.ref b_1), .val (.int (4 : Int32)), .val (.int (1 : Int32)), .val (.ref (ad 1))] [(.int (1 : Int32))])) (fun t k => st_6 t k) ?_
    refine own_go (B := T_6.setTop (mkF m 25 #[.val (.int p0), .val (.ref b_1), .val (.int (4 : Int32)), .val (.int (1 : Int32)), .val (.ref (ad 1))] [(.int p0), (.int (1 : Int32))])) (fun t k => ?_) ?_
    · show Steps p.tables e below (T_6.setTop (mkF m 24 #[.val (.int p0), .val (.ref b_1), .val (.int (4 : Int32)), .val (.int (1 : Int32)), .val (.ref (ad 1))] [(.int (1 : Int32))])) _
      refine XS.iloadN X_6.here hx rfl (hb hby d1_24) rfl ?_
      exact k
    by_cases hc25_1 : (1 : Int32) = p0
    · refine own_go (B := T_6.setTop (mkF m 28 #[.val (.int p0), .val (.ref b_1), .val (.int (4 : Int32)), .val (.int (1 : Int32)), .val (.ref (ad 1))] [])) (fun t k => ?_) ?_
      · show Steps p.tables e below (T_6.setTop (mkF m 25 #[.val (.int p0), .val (.ref b_1), .val (.int (4 : Int32)), .val (.int (1 : Int32)), .val (.ref (ad 1))] [(.int p0), (.int (1 : Int32))])) _
        refine XS.icmpNo X_6.here hx rfl (hb hby d1_25) rfl (teq hc25_1).2 ?_
        exact k
      refine own_go (B := T_6.setTop (mkF m 30 #[.val (.int p0), .val (.ref b_1), .val (.int (4 : Int32)), .val (.int (1 : Int32)), .val (.ref (ad 1))] [(.ref (ad 1))])) (fun t k => ?_) ?_
      · show Steps p.tables e below (T_6.setTop (mkF m 28 #[.val (.int p0), .val (.ref b_1), .val (.int (4 : Int32)), .val (.int (1 : Int32)), .val (.ref (ad 1))] [])) _
        refine XS.aload X_6.here hx rfl (hb hby d1_28) rfl rfl ?_
        exact k
      obtain ⟨fs, hr, hrun, hended, hW, hsame⟩ := X_6.leave (v := some (.ref (ad 1))) (fun h => by rw [Bd.returns] at h; cases h)
      refine ⟨_, _, ?_, hrun, hended, _, _, rfl, ?_, ⟨_, rfl⟩, hW, hsame.mono (by decide) (by decide)⟩
      · show Steps p.tables e below (T_6.setTop (mkF m 30 #[.val (.int p0), .val (.ref b_1), .val (.int (4 : Int32)), .val (.int (1 : Int32)), .val (.ref (ad 1))] [(.ref (ad 1))])) _
        jvm_step X_6.here [X_6.here.top, hx, (hb hby d1_30), X_6.method', Bd.returns, Value.isRef, FieldType.isReference]
        first | (intro acts; rw [hr _ acts rfl rfl rfl]) | rw [hr _ _ rfl rfl rfl]
        exact Steps.refl _
      · show Q1 Z p0 ad va kk h0 n0 _ T_6.heap _
        rw [e_6]
        exact ⟨by simp only [own_of, if_pos hF, if_pos hp, if_neg hc25, if_pos hc25_1], N_1, c1⟩
    · refine own_go (B := T_6.setTop (mkF m 31 #[.val (.int p0), .val (.ref b_1), .val (.int (4 : Int32)), .val (.int (1 : Int32)), .val (.ref (ad 1))] [])) (fun t k => ?_) ?_
      · show Steps p.tables e below (T_6.setTop (mkF m 25 #[.val (.int p0), .val (.ref b_1), .val (.int (4 : Int32)), .val (.int (1 : Int32)), .val (.ref (ad 1))] [(.int p0), (.int (1 : Int32))])) _
        refine XS.icmpYes X_6.here hx rfl (pc0 := 25) (pc' := 31) rfl (hb hby d1_25) rfl (feq hc25_1).2 (by decide) (by decide) ?_
        exact k
      refine own_go (B := T_6.setTop (mkF m 11 #[.val (.int p0), .val (.ref b_1), .val (.int (4 : Int32)), .val (.int (2 : Int32)), .val (.ref (ad 1))] [(.int (4 : Int32)), (.int (2 : Int32))])) (fun t k => ?_) ?_
      · show Steps p.tables e below (T_6.setTop (mkF m 31 #[.val (.int p0), .val (.ref b_1), .val (.int (4 : Int32)), .val (.int (1 : Int32)), .val (.ref (ad 1))] [])) _
        refine XS.iinc X_6.here hx rfl (hb hby d1_31) rfl (l' := #[.val (.int p0), .val (.ref b_1), .val (.int (4 : Int32)), .val (.int (2 : Int32)), .val (.ref (ad 1))]) rfl ?_
        show Steps p.tables e below (T_6.setTop (mkF m 34 #[.val (.int p0), .val (.ref b_1), .val (.int (4 : Int32)), .val (.int (2 : Int32)), .val (.ref (ad 1))] [])) _
        refine XS.goto X_6.here hx rfl (pc0 := 34) (pc' := 9) rfl (hb hby d1_34) (by decide) (by decide) ?_
        show Steps p.tables e below (T_6.setTop (mkF m 9 #[.val (.int p0), .val (.ref b_1), .val (.int (4 : Int32)), .val (.int (2 : Int32)), .val (.ref (ad 1))] [])) _
        refine XS.iloadN X_6.here hx rfl (hb hby d1_9) rfl ?_
        show Steps p.tables e below (T_6.setTop (mkF m 10 #[.val (.int p0), .val (.ref b_1), .val (.int (4 : Int32)), .val (.int (2 : Int32)), .val (.ref (ad 1))] [(.int (2 : Int32))])) _
        refine XS.iloadN X_6.here hx rfl (hb hby d1_10) rfl ?_
        exact k
      refine own_go (B := T_6.setTop (mkF m 14 #[.val (.int p0), .val (.ref b_1), .val (.int (4 : Int32)), .val (.int (2 : Int32)), .val (.ref (ad 1))] [])) (fun t k => ?_) ?_
      · show Steps p.tables e below (T_6.setTop (mkF m 11 #[.val (.int p0), .val (.ref b_1), .val (.int (4 : Int32)), .val (.int (2 : Int32)), .val (.ref (ad 1))] [(.int (4 : Int32)), (.int (2 : Int32))])) _
        refine XS.icmpNo X_6.here hx rfl (hb hby d1_11) rfl (tlt (by decide : (2 : Int32) < (4 : Int32))).2.1 ?_
        exact k
      refine own_go (B := T_6.setTop (mkF m 16 #[.val (.int p0), .val (.ref b_1), .val (.int (4 : Int32)), .val (.int (2 : Int32)), .val (.ref (ad 1))] [(.int (2 : Int32)), (.ref b_1)])) (fun t k => ?_) ?_
      · show Steps p.tables e below (T_6.setTop (mkF m 14 #[.val (.int p0), .val (.ref b_1), .val (.int (4 : Int32)), .val (.int (2 : Int32)), .val (.ref (ad 1))] [])) _
        refine XS.aloadN X_6.here hx rfl (hb hby d1_14) rfl rfl ?_
        show Steps p.tables e below (T_6.setTop (mkF m 15 #[.val (.int p0), .val (.ref b_1), .val (.int (4 : Int32)), .val (.int (2 : Int32)), .val (.ref (ad 1))] [(.ref b_1)])) _
        refine XS.iloadN X_6.here hx rfl (hb hby d1_15) rfl ?_
        exact k
      obtain ⟨cl_7, Ar_7, q_7, S_7, M_7, H_7, G_7⟩ := id V_1
      have hin_7 : ¬ ((2 : Int32) < 0 ∨ cl_7.slots.size ≤ ((2 : Int32)).toNatClampNeg) := inb_of S_7 ⟨by decide, by decide⟩
      have hat_7 : cl_7.slots[((2 : Int32)).toNatClampNeg]? = some (.ref (ad 2)) := H_7.at hin_7 rfl
      refine own_go (B := T_6.setTop (mkF m 17 #[.val (.int p0), .val (.ref b_1), .val (.int (4 : Int32)), .val (.int (2 : Int32)), .val (.ref (ad 1))] [(.ref (ad 2))])) (fun t k => X_6.aaload hx (j := (2 : Int32)) (v := (.ref (ad 2))) (by rw [(e_6 : _ = _)]; exact Ar_7.1) (State.isArrayOf_alike hZ.alike Ar_7.2.1) rfl Ar_7.2.2 hin_7 hat_7 (g := (mkF m 16 #[.val (.int p0), .val (.ref b_1), .val (.int (4 : Int32)), .val (.int (2 : Int32)), .val (.ref (ad 1))] [(.int (2 : Int32)), (.ref b_1)])) rfl rfl (hb hby d1_16) t k) ?_
      refine own_go (B := T_6.setTop (mkF m 21 #[.val (.int p0), .val (.ref b_1), .val (.int (4 : Int32)), .val (.int (2 : Int32)), .val (.ref (ad 2))] [(.ref (ad 2))])) (fun t k => ?_) ?_
      · show Steps p.tables e below (T_6.setTop (mkF m 17 #[.val (.int p0), .val (.ref b_1), .val (.int (4 : Int32)), .val (.int (2 : Int32)), .val (.ref (ad 1))] [(.ref (ad 2))])) _
        refine XS.astore X_6.here hx rfl (hb hby d1_17) rfl rfl (l' := #[.val (.int p0), .val (.ref b_1), .val (.int (4 : Int32)), .val (.int (2 : Int32)), .val (.ref (ad 2))]) rfl ?_
        show Steps p.tables e below (T_6.setTop (mkF m 19 #[.val (.int p0), .val (.ref b_1), .val (.int (4 : Int32)), .val (.int (2 : Int32)), .val (.ref (ad 2))] [])) _
        refine XS.aload X_6.here hx rfl (hb hby d1_19) rfl rfl ?_
        exact k
      obtain ⟨T_8, X_8, e_8, st_8⟩ := getF X_6 hx hZ hown (host := "") (Or.inl (hw _ (List.mem_of_getElem? (i := 24) rfl))) Via.refl e_6 c4 (g := (mkF m 21 #[.val (.int p0), .val (.ref b_1), .val (.int (4 : Int32)), .val (.int (2 : Int32)), .val (.ref (ad 2))] [(.ref (ad 2))])) rfl rfl (hb hby d1_21)
      refine own_go (B := T_8.setTop (mkF m 24 #[.val (.int p0), .val (.ref b_1), .val (.int (4 : Int32)), .val (.int (2 : Int32)), .val (.ref (ad 2))] [(.int (2 : Int32))])) (fun t k => st_8 t k) ?_
      refine own_go (B := T_8.setTop (mkF m 25 #[.val (.int p0), .val (.ref b_1), .val (.int (4 : Int32)), .val (.int (2 : Int32)), .val (.ref (ad 2))] [(.int p0), (.int (2 : Int32))])) (fun t k => ?_) ?_
      · show Steps p.tables e below (T_8.setTop (mkF m 24 #[.val (.int p0), .val (.ref b_1), .val (.int (4 : Int32)), .val (.int (2 : Int32)), .val (.ref (ad 2))] [(.int (2 : Int32))])) _
        refine XS.iloadN X_8.here hx rfl (hb hby d1_24) rfl ?_
        exact k
      by_cases hc25_2 : (2 : Int32) = p0
      · refine own_go (B := T_8.setTop (mkF m 28 #[.val (.int p0), .val (.ref b_1), .val (.int (4 : Int32)), .val (.int (2 : Int32)), .val (.ref (ad 2))] [])) (fun t k => ?_) ?_
        · show Steps p.tables e below (T_8.setTop (mkF m 25 #[.val (.int p0), .val (.ref b_1), .val (.int (4 : Int32)), .val (.int (2 : Int32)), .val (.ref (ad 2))] [(.int p0), (.int (2 : Int32))])) _
          refine XS.icmpNo X_8.here hx rfl (hb hby d1_25) rfl (teq hc25_2).2 ?_
          exact k
        refine own_go (B := T_8.setTop (mkF m 30 #[.val (.int p0), .val (.ref b_1), .val (.int (4 : Int32)), .val (.int (2 : Int32)), .val (.ref (ad 2))] [(.ref (ad 2))])) (fun t k => ?_) ?_
        · show Steps p.tables e below (T_8.setTop (mkF m 28 #[.val (.int p0), .val (.ref b_1), .val (.int (4 : Int32)), .val (.int (2 : Int32)), .val (.ref (ad 2))] [])) _
          refine XS.aload X_8.here hx rfl (hb hby d1_28) rfl rfl ?_
          exact k
        obtain ⟨fs, hr, hrun, hended, hW, hsame⟩ := X_8.leave (v := some (.ref (ad 2))) (fun h => by rw [Bd.returns] at h; cases h)
        refine ⟨_, _, ?_, hrun, hended, _, _, rfl, ?_, ⟨_, rfl⟩, hW, hsame.mono (by decide) (by decide)⟩
        · show Steps p.tables e below (T_8.setTop (mkF m 30 #[.val (.int p0), .val (.ref b_1), .val (.int (4 : Int32)), .val (.int (2 : Int32)), .val (.ref (ad 2))] [(.ref (ad 2))])) _
          jvm_step X_8.here [X_8.here.top, hx, (hb hby d1_30), X_8.method', Bd.returns, Value.isRef, FieldType.isReference]
          first | (intro acts; rw [hr _ acts rfl rfl rfl]) | rw [hr _ _ rfl rfl rfl]
          exact Steps.refl _
        · show Q1 Z p0 ad va kk h0 n0 _ T_8.heap _
          rw [e_8]
          exact ⟨by simp only [own_of, if_pos hF, if_pos hp, if_neg hc25, if_neg hc25_1, if_pos hc25_2], N_1, c1⟩
      · refine own_go (B := T_8.setTop (mkF m 31 #[.val (.int p0), .val (.ref b_1), .val (.int (4 : Int32)), .val (.int (2 : Int32)), .val (.ref (ad 2))] [])) (fun t k => ?_) ?_
        · show Steps p.tables e below (T_8.setTop (mkF m 25 #[.val (.int p0), .val (.ref b_1), .val (.int (4 : Int32)), .val (.int (2 : Int32)), .val (.ref (ad 2))] [(.int p0), (.int (2 : Int32))])) _
          refine XS.icmpYes X_8.here hx rfl (pc0 := 25) (pc' := 31) rfl (hb hby d1_25) rfl (feq hc25_2).2 (by decide) (by decide) ?_
          exact k
        refine own_go (B := T_8.setTop (mkF m 11 #[.val (.int p0), .val (.ref b_1), .val (.int (4 : Int32)), .val (.int (3 : Int32)), .val (.ref (ad 2))] [(.int (4 : Int32)), (.int (3 : Int32))])) (fun t k => ?_) ?_
        · show Steps p.tables e below (T_8.setTop (mkF m 31 #[.val (.int p0), .val (.ref b_1), .val (.int (4 : Int32)), .val (.int (2 : Int32)), .val (.ref (ad 2))] [])) _
          refine XS.iinc X_8.here hx rfl (hb hby d1_31) rfl (l' := #[.val (.int p0), .val (.ref b_1), .val (.int (4 : Int32)), .val (.int (3 : Int32)), .val (.ref (ad 2))]) rfl ?_
          show Steps p.tables e below (T_8.setTop (mkF m 34 #[.val (.int p0), .val (.ref b_1), .val (.int (4 : Int32)), .val (.int (3 : Int32)), .val (.ref (ad 2))] [])) _
          refine XS.goto X_8.here hx rfl (pc0 := 34) (pc' := 9) rfl (hb hby d1_34) (by decide) (by decide) ?_
          show Steps p.tables e below (T_8.setTop (mkF m 9 #[.val (.int p0), .val (.ref b_1), .val (.int (4 : Int32)), .val (.int (3 : Int32)), .val (.ref (ad 2))] [])) _
          refine XS.iloadN X_8.here hx rfl (hb hby d1_9) rfl ?_
          show Steps p.tables e below (T_8.setTop (mkF m 10 #[.val (.int p0), .val (.ref b_1), .val (.int (4 : Int32)), .val (.int (3 : Int32)), .val (.ref (ad 2))] [(.int (3 : Int32))])) _
          refine XS.iloadN X_8.here hx rfl (hb hby d1_10) rfl ?_
          exact k
        refine own_go (B := T_8.setTop (mkF m 14 #[.val (.int p0), .val (.ref b_1), .val (.int (4 : Int32)), .val (.int (3 : Int32)), .val (.ref (ad 2))] [])) (fun t k => ?_) ?_
        · show Steps p.tables e below (T_8.setTop (mkF m 11 #[.val (.int p0), .val (.ref b_1), .val (.int (4 : Int32)), .val (.int (3 : Int32)), .val (.ref (ad 2))] [(.int (4 : Int32)), (.int (3 : Int32))])) _
          refine XS.icmpNo X_8.here hx rfl (hb hby d1_11) rfl (tlt (by decide : (3 : Int32) < (4 : Int32))).2.1 ?_
          exact k
        refine own_go (B := T_8.setTop (mkF m 16 #[.val (.int p0), .val (.ref b_1), .val (.int (4 : Int32)), .val (.int (3 : Int32)), .val (.ref (ad 2))] [(.int (3 : Int32)), (.ref b_1)])) (fun t k => ?_) ?_
        · show Steps p.tables e below (T_8.setTop (mkF m 14 #[.val (.int p0), .val (.ref b_1), .val (.int (4 : Int32)), .val (.int (3 : Int32)), .val (.ref (ad 2))] [])) _
          refine XS.aloadN X_8.here hx rfl (hb hby d1_14) rfl rfl ?_
          show Steps p.tables e below (T_8.setTop (mkF m 15 #[.val (.int p0), .val (.ref b_1), .val (.int (4 : Int32)), .val (.int (3 : Int32)), .val (.ref (ad 2))] [(.ref b_1)])) _
          refine XS.iloadN X_8.here hx rfl (hb hby d1_15) rfl ?_
          exact k
        obtain ⟨cl_9, Ar_9, q_9, S_9, M_9, H_9, G_9⟩ := id V_1
        have hin_9 : ¬ ((3 : Int32) < 0 ∨ cl_9.slots.size ≤ ((3 : Int32)).toNatClampNeg) := inb_of S_9 ⟨by decide, by decide⟩
        have hat_9 : cl_9.slots[((3 : Int32)).toNatClampNeg]? = some (.ref (ad 3)) := H_9.at hin_9 rfl
        refine own_go (B := T_8.setTop (mkF m 17 #[.val (.int p0), .val (.ref b_1), .val (.int (4 : Int32)), .val (.int (3 : Int32)), .val (.ref (ad 2))] [(.ref (ad 3))])) (fun t k => X_8.aaload hx (j := (3 : Int32)) (v := (.ref (ad 3))) (by rw [(e_8 : _ = _)]; exact Ar_9.1) (State.isArrayOf_alike hZ.alike Ar_9.2.1) rfl Ar_9.2.2 hin_9 hat_9 (g := (mkF m 16 #[.val (.int p0), .val (.ref b_1), .val (.int (4 : Int32)), .val (.int (3 : Int32)), .val (.ref (ad 2))] [(.int (3 : Int32)), (.ref b_1)])) rfl rfl (hb hby d1_16) t k) ?_
        refine own_go (B := T_8.setTop (mkF m 21 #[.val (.int p0), .val (.ref b_1), .val (.int (4 : Int32)), .val (.int (3 : Int32)), .val (.ref (ad 3))] [(.ref (ad 3))])) (fun t k => ?_) ?_
        · show Steps p.tables e below (T_8.setTop (mkF m 17 #[.val (.int p0), .val (.ref b_1), .val (.int (4 : Int32)), .val (.int (3 : Int32)), .val (.ref (ad 2))] [(.ref (ad 3))])) _
          refine XS.astore X_8.here hx rfl (hb hby d1_17) rfl rfl (l' := #[.val (.int p0), .val (.ref b_1), .val (.int (4 : Int32)), .val (.int (3 : Int32)), .val (.ref (ad 3))]) rfl ?_
          show Steps p.tables e below (T_8.setTop (mkF m 19 #[.val (.int p0), .val (.ref b_1), .val (.int (4 : Int32)), .val (.int (3 : Int32)), .val (.ref (ad 3))] [])) _
          refine XS.aload X_8.here hx rfl (hb hby d1_19) rfl rfl ?_
          exact k
        obtain ⟨T_10, X_10, e_10, st_10⟩ := getF X_8 hx hZ hown (host := "") (Or.inl (hw _ (List.mem_of_getElem? (i := 24) rfl))) Via.refl e_8 c5 (g := (mkF m 21 #[.val (.int p0), .val (.ref b_1), .val (.int (4 : Int32)), .val (.int (3 : Int32)), .val (.ref (ad 3))] [(.ref (ad 3))])) rfl rfl (hb hby d1_21)
        refine own_go (B := T_10.setTop (mkF m 24 #[.val (.int p0), .val (.ref b_1), .val (.int (4 : Int32)), .val (.int (3 : Int32)), .val (.ref (ad 3))] [(.int (3 : Int32))])) (fun t k => st_10 t k) ?_
        refine own_go (B := T_10.setTop (mkF m 25 #[.val (.int p0), .val (.ref b_1), .val (.int (4 : Int32)), .val (.int (3 : Int32)), .val (.ref (ad 3))] [(.int p0), (.int (3 : Int32))])) (fun t k => ?_) ?_
        · show Steps p.tables e below (T_10.setTop (mkF m 24 #[.val (.int p0), .val (.ref b_1), .val (.int (4 : Int32)), .val (.int (3 : Int32)), .val (.ref (ad 3))] [(.int (3 : Int32))])) _
          refine XS.iloadN X_10.here hx rfl (hb hby d1_24) rfl ?_
          exact k
        by_cases hc25_3 : (3 : Int32) = p0
        · refine own_go (B := T_10.setTop (mkF m 28 #[.val (.int p0), .val (.ref b_1), .val (.int (4 : Int32)), .val (.int (3 : Int32)), .val (.ref (ad 3))] [])) (fun t k => ?_) ?_
          · show Steps p.tables e below (T_10.setTop (mkF m 25 #[.val (.int p0), .val (.ref b_1), .val (.int (4 : Int32)), .val (.int (3 : Int32)), .val (.ref (ad 3))] [(.int p0), (.int (3 : Int32))])) _
            refine XS.icmpNo X_10.here hx rfl (hb hby d1_25) rfl (teq hc25_3).2 ?_
            exact k
          refine own_go (B := T_10.setTop (mkF m 30 #[.val (.int p0), .val (.ref b_1), .val (.int (4 : Int32)), .val (.int (3 : Int32)), .val (.ref (ad 3))] [(.ref (ad 3))])) (fun t k => ?_) ?_
          · show Steps p.tables e below (T_10.setTop (mkF m 28 #[.val (.int p0), .val (.ref b_1), .val (.int (4 : Int32)), .val (.int (3 : Int32)), .val (.ref (ad 3))] [])) _
            refine XS.aload X_10.here hx rfl (hb hby d1_28) rfl rfl ?_
            exact k
          obtain ⟨fs, hr, hrun, hended, hW, hsame⟩ := X_10.leave (v := some (.ref (ad 3))) (fun h => by rw [Bd.returns] at h; cases h)
          refine ⟨_, _, ?_, hrun, hended, _, _, rfl, ?_, ⟨_, rfl⟩, hW, hsame.mono (by decide) (by decide)⟩
          · show Steps p.tables e below (T_10.setTop (mkF m 30 #[.val (.int p0), .val (.ref b_1), .val (.int (4 : Int32)), .val (.int (3 : Int32)), .val (.ref (ad 3))] [(.ref (ad 3))])) _
            jvm_step X_10.here [X_10.here.top, hx, (hb hby d1_30), X_10.method', Bd.returns, Value.isRef, FieldType.isReference]
            first | (intro acts; rw [hr _ acts rfl rfl rfl]) | rw [hr _ _ rfl rfl rfl]
            exact Steps.refl _
          · show Q1 Z p0 ad va kk h0 n0 _ T_10.heap _
            rw [e_10]
            exact ⟨by simp only [own_of, if_pos hF, if_pos hp, if_neg hc25, if_neg hc25_1, if_neg hc25_2, if_pos hc25_3], N_1, c1⟩
        · refine own_go (B := T_10.setTop (mkF m 31 #[.val (.int p0), .val (.ref b_1), .val (.int (4 : Int32)), .val (.int (3 : Int32)), .val (.ref (ad 3))] [])) (fun t k => ?_) ?_
          · show Steps p.tables e below (T_10.setTop (mkF m 25 #[.val (.int p0), .val (.ref b_1), .val (.int (4 : Int32)), .val (.int (3 : Int32)), .val (.ref (ad 3))] [(.int p0), (.int (3 : Int32))])) _
            refine XS.icmpYes X_10.here hx rfl (pc0 := 25) (pc' := 31) rfl (hb hby d1_25) rfl (feq hc25_3).2 (by decide) (by decide) ?_
            exact k
          refine own_go (B := T_10.setTop (mkF m 11 #[.val (.int p0), .val (.ref b_1), .val (.int (4 : Int32)), .val (.int (4 : Int32)), .val (.ref (ad 3))] [(.int (4 : Int32)), (.int (4 : Int32))])) (fun t k => ?_) ?_
          · show Steps p.tables e below (T_10.setTop (mkF m 31 #[.val (.int p0), .val (.ref b_1), .val (.int (4 : Int32)), .val (.int (3 : Int32)), .val (.ref (ad 3))] [])) _
            refine XS.iinc X_10.here hx rfl (hb hby d1_31) rfl (l' := #[.val (.int p0), .val (.ref b_1), .val (.int (4 : Int32)), .val (.int (4 : Int32)), .val (.ref (ad 3))]) rfl ?_
            show Steps p.tables e below (T_10.setTop (mkF m 34 #[.val (.int p0), .val (.ref b_1), .val (.int (4 : Int32)), .val (.int (4 : Int32)), .val (.ref (ad 3))] [])) _
            refine XS.goto X_10.here hx rfl (pc0 := 34) (pc' := 9) rfl (hb hby d1_34) (by decide) (by decide) ?_
            show Steps p.tables e below (T_10.setTop (mkF m 9 #[.val (.int p0), .val (.ref b_1), .val (.int (4 : Int32)), .val (.int (4 : Int32)), .val (.ref (ad 3))] [])) _
            refine XS.iloadN X_10.here hx rfl (hb hby d1_9) rfl ?_
            show Steps p.tables e below (T_10.setTop (mkF m 10 #[.val (.int p0), .val (.ref b_1), .val (.int (4 : Int32)), .val (.int (4 : Int32)), .val (.ref (ad 3))] [(.int (4 : Int32))])) _
            refine XS.iloadN X_10.here hx rfl (hb hby d1_10) rfl ?_
            exact k
          refine own_go (B := T_10.setTop (mkF m 37 #[.val (.int p0), .val (.ref b_1), .val (.int (4 : Int32)), .val (.int (4 : Int32)), .val (.ref (ad 3))] [])) (fun t k => ?_) ?_
          · show Steps p.tables e below (T_10.setTop (mkF m 11 #[.val (.int p0), .val (.ref b_1), .val (.int (4 : Int32)), .val (.int (4 : Int32)), .val (.ref (ad 3))] [(.int (4 : Int32)), (.int (4 : Int32))])) _
            refine XS.icmpYes X_10.here hx rfl (pc0 := 11) (pc' := 37) rfl (hb hby d1_11) rfl (flt (by decide : ¬ ((4 : Int32) < (4 : Int32)))).2.1 (by decide) (by decide) ?_
            exact k
          exact absurd hp (by rintro (q | q | q | q) <;> subst q <;> first | exact hF rfl | exact hp rfl | exact hc25 rfl | exact hc25_1 rfl | exact hc25_2 rfl | exact hc25_3 rfl)
theorem d3_0 : decode prog_9_method_4_code 0 = .ok (.aload_n 0, 1) := by decide +kernel
theorem d3_1 : decode prog_9_method_4_code 1 = .ok (.getfield 35, 3) := by decide +kernel
theorem d3_4 : decode prog_9_method_4_code 4 = .ok (.ireturn, 1) := by decide +kernel
theorem pn_3 : plainName "com/example/pactum/pactum/cli/ExitCode" = true := by first | (simp [plainName, overriddenIn]; done) | decide +kernel
theorem ef_3 (m : MethodId) (a0 : Addr) : entryFrame m #[(.ref a0)] 1 = mkF m 0 #[.val (.ref a0)] [] := by first | (simp [entryFrame, mkF, argsToLocals, Value.category]; done) | rfl
def Q3 (Z : State) (a0 : Addr) (w : Int32) (h0 : Heap) (n0 : Nat) (v : Option Value) (h : Heap) (L : List Loc) : Prop := v = some (.int w) ∧ Fr n0 L ∧ h = h0
set_option maxRecDepth 65536 in
set_option maxHeartbeats 40000000 in
theorem rm3 (l : Launch) (Z : State) (av0 : Array Value) (hw : ∀ d ∈ tables_1, d.before av0 Z = true) (ws : List Jvm.Cond) (a0 : Addr) (w : Int32) (h0 : Heap) (n0 : Nat) (Z0 : n0 ≤ h0.size) (F_status_a0 : Fld Z h0 a0 "com/example/pactum/pactum/cli/ExitCode" "status" "I" (.int w)) :
    MetFree l (⟨"com/example/pactum/pactum/cli/ExitCode", "status", "()I"⟩ : MethodName) (head1 (Jvm.Cond.code (⟨"com/example/pactum/pactum/cli/ExitCode", "status", "()I"⟩ : MethodName) prog_9_method_4_code 1 (some .int) :: ws) ({ frames := 0, cells := 0, slots := 0, locals := 0 } : Room)) (fun a U => a = #[(.ref a0)] ∧ Z.Warmed39 U.vm ∧ U.heap = h0) (fun _ _ _ _ _ => True) (fun _ U o U' => ∃ v L, o = .returned v ∧ Q3 Z a0 w h0 n0 v U'.heap L ∧ FrameEnd U o U' L ({ frames := 0, cells := 0, slots := 0, locals := 0 } : Room).cells ({ frames := 0, cells := 0, slots := 0, locals := 0 } : Room).slots) := by
  refine MetFree.of_bodySF (plainFor_of_name pn_3) hisR ?_
  intro p e s m args below meth c s₁ Bd hml0 hP hK
  obtain ⟨rfl, hZ, hh⟩ := hP
  have hx := Bd.exec
  have hby := Bd.bytes
  have hml : c.maxLocals = 1 := hml0
  have hown : s.vm.findClass "com/example/pactum/pactum/cli/ExitCode" = some m.cls := findClass_of_methodNamed Bd.named
  have hnm := (name_of_methodNamed Bd.named Bd.method).1
  have X0 : Stand p l e ({ frames := 0, cells := 0, slots := 0, locals := 0 } : Room) s m #[(.ref a0)] below meth c s₁ [] 0 0 := Stand.of_body Bd
  have e0 : s₁.heap = h0 := by rw [← hh, Bd.state]; rfl
  have N0 := Fr.nil n0
  have K0 : Keep h0 h0 [] := Keep.refl h0 []
  refine own_go (B := s₁.setTop (mkF m 0 #[.val (.ref a0)] [])) (fun t k => castTop (ef_3 m a0) k) ?_
  refine own_go (B := s₁.setTop (mkF m 1 #[.val (.ref a0)] [(.ref a0)])) (fun t k => ?_) ?_
  · show Steps p.tables e below (s₁.setTop (mkF m 0 #[.val (.ref a0)] [])) _
    refine XS.aloadN X0.here hx rfl (hb hby d3_0) rfl rfl ?_
    exact k
  obtain ⟨T_1, X_1, e_1, st_1⟩ := getF X0 hx hZ hown (host := "") (Or.inl (hw _ (List.mem_of_getElem? (i := 24) rfl))) Via.refl e0 F_status_a0 (g := (mkF m 1 #[.val (.ref a0)] [(.ref a0)])) rfl rfl (hb hby d3_1)
  refine own_go (B := T_1.setTop (mkF m 4 #[.val (.ref a0)] [(.int w)])) (fun t k => st_1 t k) ?_
  obtain ⟨fs, hr, hrun, hended, hW, hsame⟩ := X_1.leave (v := some (.int w)) (fun h => by rw [Bd.returns] at h; cases h)
  refine ⟨_, _, ?_, hrun, hended, _, _, rfl, ?_, ⟨_, rfl⟩, hW, hsame.mono (by decide) (by decide)⟩
  · show Steps p.tables e below (T_1.setTop (mkF m 4 #[.val (.ref a0)] [(.int w)])) _
    exact retI X_1 hx Bd.returns (hb hby d3_4) hr
  · show Q3 Z a0 w h0 n0 _ T_1.heap _
    rw [e_1]
    exact ⟨rfl, N0, rfl⟩
theorem own_and3 (x : Int32) : x &&& 3 = 0 ∨ x &&& 3 = 1 ∨ x &&& 3 = 2 ∨ x &&& 3 = 3 := by
  have h := Jvm.Kit.i32_mask x 3 (k := 2) (by decide) (by decide)
  have e : ∀ k : Int32, (x &&& 3).toInt = k.toInt → x &&& 3 = k := fun k q => Int32.toInt_inj.mp q
  have h0 : 0 ≤ (x &&& 3).toInt ∧ (x &&& 3).toInt < 4 := by omega
  have : (x &&& 3).toInt = 0 ∨ (x &&& 3).toInt = 1 ∨ (x &&& 3).toInt = 2 ∨ (x &&& 3).toInt = 3 := by omega
  rcases this with q | q | q | q
  · exact Or.inl (e 0 q)
  · exact Or.inr (Or.inl (e 1 q))
  · exact Or.inr (Or.inr (Or.inl (e 2 q)))
  · exact Or.inr (Or.inr (Or.inr (e 3 q)))
theorem pn_0 : plainName "com/example/pactum/pactum/cli/ExitCodeOfPinLaw" = true := by first | (simp [plainName, overriddenIn]; done) | decide +kernel
theorem ef_0 (m : MethodId) (p0 : Int32) : entryFrame m #[(.int p0)] maxLocals = mkF m 0 #[.val (.int p0), .unset, .unset, .unset] [] := by first | (simp [entryFrame, mkF, argsToLocals, Value.category, maxLocals]; done) | rfl
theorem pd_1 : parseMethodDescriptor "(I)Lcom/example/pactum/pactum/cli/ExitCode;" = some ⟨[.int], some (.object "com/example/pactum/pactum/cli/ExitCode")⟩ := by decide +kernel
theorem pd_2 : parseMethodDescriptor "()I" = some ⟨[], some .int⟩ := by decide +kernel
def Q0 (Z : State) (p0 : Int32) (ad : Nat → Addr) (va : Addr) (kk : ClassId) (h0 : Heap) (n0 : Nat) (v : Option Value) (h : Heap) (L : List Loc) : Prop := v = some (.int 1) ∧ Fr n0 L ∧ True
set_option maxRecDepth 65536 in
set_option maxHeartbeats 40000000 in
theorem rm0 (l : Launch) (Z : State) (av0 : Array Value) (hw : ∀ d ∈ tables_1, d.before av0 Z = true) (ws : List Jvm.Cond) (p0 : Int32) (ad : Nat → Addr) (va : Addr) (kk : ClassId) (h0 : Heap) (n0 : Nat) (Z0 : n0 ≤ h0.size) (SV : Sta Z h0 "com/example/pactum/pactum/cli/ExitCode" "$VALUES" "[Lcom/example/pactum/pactum/cli/ExitCode;" (.ref va)) (VV : Arv Z h0 va kk (.object "com/example/pactum/pactum/cli/ExitCode") (4 : Int32) [(.ref (ad 0)), (.ref (ad 1)), (.ref (ad 2)), (.ref (ad 3))] .null) (EV : Exa Z h0 va "[Lcom/example/pactum/pactum/cli/ExitCode;") (hF : ∀ j, j < 4 → Fld Z h0 (ad j) "com/example/pactum/pactum/cli/ExitCode" "status" "I" (.int (Int32.ofNat j))) (hE : ∀ j, j < 4 → Exa Z h0 (ad j) "com/example/pactum/pactum/cli/ExitCode") (S0 : Sta Z h0 "com/example/pactum/pactum/cli/ExitCode" "DONE" "Lcom/example/pactum/pactum/cli/ExitCode;" (.ref (ad 0))) (S1 : Sta Z h0 "com/example/pactum/pactum/cli/ExitCode" "NOT_DONE" "Lcom/example/pactum/pactum/cli/ExitCode;" (.ref (ad 1))) (S2 : Sta Z h0 "com/example/pactum/pactum/cli/ExitCode" "USAGE" "Lcom/example/pactum/pactum/cli/ExitCode;" (.ref (ad 2))) (S3 : Sta Z h0 "com/example/pactum/pactum/cli/ExitCode" "PEER_NOT_RUNNING" "Lcom/example/pactum/pactum/cli/ExitCode;" (.ref (ad 3))) :
    MetFree l x (head1 (Jvm.Cond.code x code maxLocals ret :: ws) room_1) (fun a U => a = #[(.int p0)] ∧ Z.Warmed39 U.vm ∧ U.heap = h0) (fun _ _ _ _ _ => True) (fun _ U o U' => ∃ v L, o = .returned v ∧ Q0 Z p0 ad va kk h0 n0 v U'.heap L ∧ FrameEnd U o U' L room_1.cells room_1.slots) := by
  refine MetFree.of_bodySF (plainFor_of_name pn_0) hisR ?_
  intro p e s m args below meth c s₁ Bd hml0 hP hK
  obtain ⟨rfl, hZ, hh⟩ := hP
  have hx := Bd.exec
  have hby := Bd.bytes
  have hml : c.maxLocals = 4 := hml0
  have hown : s.vm.findClass "com/example/pactum/pactum/cli/ExitCodeOfPinLaw" = some m.cls := findClass_of_methodNamed Bd.named
  have hnm := (name_of_methodNamed Bd.named Bd.method).1
  have X0 : Stand p l e room_1 s m #[(.int p0)] below meth c s₁ [] 0 0 := Stand.of_body Bd
  have e0 : s₁.heap = h0 := by rw [← hh, Bd.state]; rfl
  have N0 := Fr.nil n0
  have K0 : Keep h0 h0 [] := Keep.refl h0 []
  refine own_go (B := s₁.setTop (mkF m 0 #[.val (.int p0), .unset, .unset, .unset] [])) (fun t k => castTop (ef_0 m p0) k) ?_
  refine own_go (B := s₁.setTop (mkF m 5 #[.val (.int p0), .val (.int (p0 &&& (3 : Int32))), .unset, .unset] [(.int (p0 &&& (3 : Int32)))])) (fun t k => ?_) ?_
  · show Steps p.tables e below (s₁.setTop (mkF m 0 #[.val (.int p0), .unset, .unset, .unset] [])) _
    refine XS.iloadN X0.here hx rfl (hb hby at_0) rfl ?_
    show Steps p.tables e below (s₁.setTop (mkF m 1 #[.val (.int p0), .unset, .unset, .unset] [(.int p0)])) _
    refine XS.iconst X0.here hx rfl (hb hby at_1) ?_
    show Steps p.tables e below (s₁.setTop (mkF m 2 #[.val (.int p0), .unset, .unset, .unset] [(.int (3 : Int32)), (.int p0)])) _
    refine XS.iand X0.here hx rfl (hb hby at_2) rfl ?_
    show Steps p.tables e below (s₁.setTop (mkF m 3 #[.val (.int p0), .unset, .unset, .unset] [(.int (p0 &&& (3 : Int32)))])) _
    refine XS.istoreN X0.here hx rfl (hb hby at_3) rfl (l' := #[.val (.int p0), .val (.int (p0 &&& (3 : Int32))), .unset, .unset]) rfl ?_
    show Steps p.tables e below (s₁.setTop (mkF m 4 #[.val (.int p0), .val (.int (p0 &&& (3 : Int32))), .unset, .unset] [])) _
    refine XS.iloadN X0.here hx rfl (hb hby at_4) rfl ?_
    exact k
  rcases own_and3 p0 with h3 | h3 | h3 | h3 <;> rw [h3]
  · show ∃ s₂ o, Steps p.tables e below (s₁.setTop (mkF m 5 #[.val (.int p0), .val (.int (0 : Int32)), .unset, .unset] [(.int (0 : Int32))])) s₂ ∧ _
    refine own_go (B := s₁.setTop (mkF m 8 #[.val (.int p0), .val (.int (0 : Int32)), .unset, .unset] [])) (fun t k => ?_) ?_
    · show Steps p.tables e below (s₁.setTop (mkF m 5 #[.val (.int p0), .val (.int (0 : Int32)), .unset, .unset] [(.int (0 : Int32))])) _
      refine XS.ifNo X0.here hx rfl (hb hby at_5) rfl ((if0 _ _).trans (teq (by decide : (0 : Int32) = (0 : Int32))).2) ?_
      exact k
    obtain ⟨T_1, X_1, e_1, st_1⟩ := getS2 X0 hx hZ hown (host := "") (Or.inl (hw _ (List.mem_of_getElem? (i := 0) rfl))) Via.refl e0 S0 (g := (mkF m 8 #[.val (.int p0), .val (.int (0 : Int32)), .unset, .unset] [])) rfl (hb hby at_8)
    refine own_go (B := T_1.setTop (mkF m 11 #[.val (.int p0), .val (.int (0 : Int32)), .unset, .unset] [(.ref (ad 0))])) (fun t k => st_1 t k) ?_
    refine own_go (B := T_1.setTop (mkF m 44 #[.val (.int p0), .val (.int (0 : Int32)), .val (.ref (ad 0)), .unset] [(.int (0 : Int32))])) (fun t k => ?_) ?_
    · show Steps p.tables e below (T_1.setTop (mkF m 11 #[.val (.int p0), .val (.int (0 : Int32)), .unset, .unset] [(.ref (ad 0))])) _
      refine XS.astoreN X_1.here hx rfl (hb hby at_11) rfl rfl (l' := #[.val (.int p0), .val (.int (0 : Int32)), .val (.ref (ad 0)), .unset]) rfl ?_
      show Steps p.tables e below (T_1.setTop (mkF m 12 #[.val (.int p0), .val (.int (0 : Int32)), .val (.ref (ad 0)), .unset] [])) _
      refine XS.goto X_1.here hx rfl (pc0 := 12) (pc' := 43) rfl (hb hby at_12) (by decide) (by decide) ?_
      show Steps p.tables e below (T_1.setTop (mkF m 43 #[.val (.int p0), .val (.int (0 : Int32)), .val (.ref (ad 0)), .unset] [])) _
      refine XS.iloadN X_1.here hx rfl (hb hby at_43) rfl ?_
      exact k
    obtain ⟨_, _, ⟨T_2, L_2, k_2, n_2⟩, -, X_2, ⟨Lc_2, hQ_2, l_2, y_2, z_2⟩, st_2⟩ := Jvm.LawKit.callS X_1 hx (y := (⟨"com/example/pactum/pactum/cli/ExitCode", "of", "(I)Lcom/example/pactum/pactum/cli/ExitCode;"⟩ : MethodName)) hown (mvT hZ (hw _ (List.mem_of_getElem? (i := 3) rfl))) (mvT hZ (hw _ (List.mem_of_getElem? (i := 4) rfl))) (mvT hZ (hw _ (List.mem_of_getElem? (i := 1) rfl))) (mvT hZ (hw _ (List.mem_of_getElem? (i := 5) rfl))) (by decide) (backOf (W := 0) (rm1 l Z av0 hw [] (0 : Int32) ad va kk h0 n0 Z0 SV VV EV hF (by decide)) hZ (hw _ (List.mem_of_getElem? (i := 5) rfl)) (hw _ (List.mem_of_getElem? (i := 1) rfl)) (by decide) (by decide)) (g := (mkF m 44 #[.val (.int p0), .val (.int (0 : Int32)), .val (.ref (ad 0)), .unset] [(.int (0 : Int32))])) rfl (by rw [hml]; rfl) (argsL := [(.int (0 : Int32))]) (rest := []) (lenOf pd_1 rfl) rfl (by show 2 * 0 + _ ≤ _; exact Nat.le_of_eq rfl) (hb hby at_44) (fun _ _ => ⟨rfl, e_1, (by decide : 0 + 1 ≤ _), (by decide : 0 + 4 ≤ _)⟩)
    dsimp only [Pt.U, Pt.locs, Pt.cells, Pt.slots] at X_2 l_2 y_2 z_2 st_2 hQ_2
    subst l_2 y_2 z_2
    obtain ⟨hv_2, N_2q, K_2⟩ := hQ_2
    have N_2 := Fr.app N0 N_2q
    have c1 : Keep h0 T_2.heap [] := K0.trans K_2 all0
    have c2 : Fld Z T_2.heap (ad 0) "com/example/pactum/pactum/cli/ExitCode" "status" "I" (.int (0 : Int32)) := ((hF 0 (by decide))).keep K_2 nin0
    have c3 : Fld Z T_2.heap (ad 1) "com/example/pactum/pactum/cli/ExitCode" "status" "I" (.int (1 : Int32)) := ((hF 1 (by decide))).keep K_2 nin0
    have c4 : Fld Z T_2.heap (ad 2) "com/example/pactum/pactum/cli/ExitCode" "status" "I" (.int (2 : Int32)) := ((hF 2 (by decide))).keep K_2 nin0
    have c5 : Fld Z T_2.heap (ad 3) "com/example/pactum/pactum/cli/ExitCode" "status" "I" (.int (3 : Int32)) := ((hF 3 (by decide))).keep K_2 nin0
    have c6 := VV.keep K_2 nin0
    have c7 := own_stak SV K_2
    have c8 : Exa Z T_2.heap va "[Lcom/example/pactum/pactum/cli/ExitCode;" := EV.keep K_2
    have c9 : Exa Z T_2.heap (ad 0) "com/example/pactum/pactum/cli/ExitCode" := ((hE 0 (by decide))).keep K_2
    have c10 := own_stak S0 K_2
    have c11 : Exa Z T_2.heap (ad 1) "com/example/pactum/pactum/cli/ExitCode" := ((hE 1 (by decide))).keep K_2
    have c12 := own_stak S1 K_2
    have c13 : Exa Z T_2.heap (ad 2) "com/example/pactum/pactum/cli/ExitCode" := ((hE 2 (by decide))).keep K_2
    have c14 := own_stak S2 K_2
    have c15 : Exa Z T_2.heap (ad 3) "com/example/pactum/pactum/cli/ExitCode" := ((hE 3 (by decide))).keep K_2
    have c16 := own_stak S3 K_2
    have Z0__2 : n0 ≤ T_2.heap.size := Nat.le_trans Z0 K_2.1
    rw [show own_of (0 : Int32) = 0 from by decide] at hv_2
    subst hv_2
    refine own_go (B := T_2.setTop (mkF m 47 #[.val (.int p0), .val (.int (0 : Int32)), .val (.ref (ad 0)), .unset] [(.ref (ad 0))])) (fun t k => st_2 t k) ?_
    refine own_go (B := T_2.setTop (mkF m 50 #[.val (.int p0), .val (.int (0 : Int32)), .val (.ref (ad 0)), .val (.ref (ad 0))] [(.ref (ad 0)), (.ref (ad 0))])) (fun t k => ?_) ?_
    · show Steps p.tables e below (T_2.setTop (mkF m 47 #[.val (.int p0), .val (.int (0 : Int32)), .val (.ref (ad 0)), .unset] [(.ref (ad 0))])) _
      refine XS.astoreN X_2.here hx rfl (hb hby at_47) rfl rfl (l' := #[.val (.int p0), .val (.int (0 : Int32)), .val (.ref (ad 0)), .val (.ref (ad 0))]) rfl ?_
      show Steps p.tables e below (T_2.setTop (mkF m 48 #[.val (.int p0), .val (.int (0 : Int32)), .val (.ref (ad 0)), .val (.ref (ad 0))] [])) _
      refine XS.aloadN X_2.here hx rfl (hb hby at_48) rfl rfl ?_
      show Steps p.tables e below (T_2.setTop (mkF m 49 #[.val (.int p0), .val (.int (0 : Int32)), .val (.ref (ad 0)), .val (.ref (ad 0))] [(.ref (ad 0))])) _
      refine XS.aloadN X_2.here hx rfl (hb hby at_49) rfl rfl ?_
      exact k
    refine own_go (B := T_2.setTop (mkF m 53 #[.val (.int p0), .val (.int (0 : Int32)), .val (.ref (ad 0)), .val (.ref (ad 0))] [])) (fun t k => ?_) ?_
    · show Steps p.tables e below (T_2.setTop (mkF m 50 #[.val (.int p0), .val (.int (0 : Int32)), .val (.ref (ad 0)), .val (.ref (ad 0))] [(.ref (ad 0)), (.ref (ad 0))])) _
      refine Jvm.RoadKit.acmp (g := (mkF m 50 #[.val (.int p0), .val (.int (0 : Int32)), .val (.ref (ad 0)), .val (.ref (ad 0))] [(.ref (ad 0)), (.ref (ad 0))])) X_2 hx rfl rfl rfl (pc0 := 50) (pc' := 53) (same := true) rfl (hb hby at_50) rfl (decide_eq_true rfl) (by decide) (by decide) ?_
      exact k
    refine own_go (B := T_2.setTop (mkF m 54 #[.val (.int p0), .val (.int (0 : Int32)), .val (.ref (ad 0)), .val (.ref (ad 0))] [(.ref (ad 0))])) (fun t k => ?_) ?_
    · show Steps p.tables e below (T_2.setTop (mkF m 53 #[.val (.int p0), .val (.int (0 : Int32)), .val (.ref (ad 0)), .val (.ref (ad 0))] [])) _
      refine XS.aloadN X_2.here hx rfl (hb hby at_53) rfl rfl ?_
      exact k
    obtain ⟨cq_3, kq_3, q_3a, q_3b, q_3c⟩ := isOf hZ rfl c9
    obtain ⟨_, _, ⟨T_3, L_3, k_3, n_3⟩, -, X_3, ⟨Lc_3, hQ_3, l_3, y_3, z_3⟩, st_3⟩ := X_2.virtualBack hx (y := (⟨"com/example/pactum/pactum/cli/ExitCode", "status", "()I"⟩ : MethodName)) (z := (⟨"com/example/pactum/pactum/cli/ExitCode", "status", "()I"⟩ : MethodName)) hown (mvT hZ (hw _ (List.mem_of_getElem? (i := 26) rfl))) (mvT hZ (hw _ (List.mem_of_getElem? (i := 27) rfl))) (notFace_of_selects (args := #[]) (mvT hZ (hw _ (List.mem_of_getElem? (i := 29) rfl)))) (mvT hZ (hw _ (List.mem_of_getElem? (i := 29) rfl))) (mvT hZ (hw _ (List.mem_of_getElem? (i := 28) rfl))) (by decide) (backOf (W := 0) (rm3 l Z av0 hw [] (ad 0) (0 : Int32) T_2.heap n0 Z0__2 c2) hZ (hw _ (List.mem_of_getElem? (i := 30) rfl)) (hw _ (List.mem_of_getElem? (i := 1) rfl)) (by decide) (by decide)) q_3a q_3c (g := (mkF m 54 #[.val (.int p0), .val (.int (0 : Int32)), .val (.ref (ad 0)), .val (.ref (ad 0))] [(.ref (ad 0))])) rfl (by rw [hml]; rfl) (Steps.refl _) (argsL := []) (rest := []) (lenOf pd_2 rfl) rfl (by show 2 * 0 + _ ≤ _; exact Nat.le_of_eq rfl) (hb hby at_54) (fun _ _ => ⟨rfl, rfl, (by decide : 1 + 0 ≤ _), (by decide : 4 + 0 ≤ _)⟩)
    dsimp only [Pt.U, Pt.locs, Pt.cells, Pt.slots] at X_3 l_3 y_3 z_3 st_3 hQ_3
    subst l_3 y_3 z_3
    obtain ⟨rfl, N_3q, e_3⟩ := hQ_3
    have N_3 := Fr.app N_2 N_3q
    refine own_go (B := T_3.setTop (mkF m 57 #[.val (.int p0), .val (.int (0 : Int32)), .val (.ref (ad 0)), .val (.ref (ad 0))] [(.int (0 : Int32))])) (fun t k => st_3.trans k) ?_
    refine own_go (B := T_3.setTop (mkF m 58 #[.val (.int p0), .val (.int (0 : Int32)), .val (.ref (ad 0)), .val (.ref (ad 0))] [(.int (0 : Int32)), (.int (0 : Int32))])) (fun t k => ?_) ?_
    · show Steps p.tables e below (T_3.setTop (mkF m 57 #[.val (.int p0), .val (.int (0 : Int32)), .val (.ref (ad 0)), .val (.ref (ad 0))] [(.int (0 : Int32))])) _
      refine XS.iloadN X_3.here hx rfl (hb hby at_57) rfl ?_
      exact k
    refine own_go (B := T_3.setTop (mkF m 61 #[.val (.int p0), .val (.int (0 : Int32)), .val (.ref (ad 0)), .val (.ref (ad 0))] [])) (fun t k => ?_) ?_
    · show Steps p.tables e below (T_3.setTop (mkF m 58 #[.val (.int p0), .val (.int (0 : Int32)), .val (.ref (ad 0)), .val (.ref (ad 0))] [(.int (0 : Int32)), (.int (0 : Int32))])) _
      refine XS.icmpNo X_3.here hx rfl (hb hby at_58) rfl (teq (by decide : (0 : Int32) = (0 : Int32))).2 ?_
      exact k
    refine own_go (B := T_3.setTop (mkF m 66 #[.val (.int p0), .val (.int (0 : Int32)), .val (.ref (ad 0)), .val (.ref (ad 0))] [(.int (1 : Int32))])) (fun t k => ?_) ?_
    · show Steps p.tables e below (T_3.setTop (mkF m 61 #[.val (.int p0), .val (.int (0 : Int32)), .val (.ref (ad 0)), .val (.ref (ad 0))] [])) _
      refine XS.iconst X_3.here hx rfl (hb hby at_61) ?_
      show Steps p.tables e below (T_3.setTop (mkF m 62 #[.val (.int p0), .val (.int (0 : Int32)), .val (.ref (ad 0)), .val (.ref (ad 0))] [(.int (1 : Int32))])) _
      refine XS.goto X_3.here hx rfl (pc0 := 62) (pc' := 66) rfl (hb hby at_62) (by decide) (by decide) ?_
      exact k
    obtain ⟨fs, hr, hrun, hended, hW, hsame⟩ := X_3.leave (v := some (.int (1 : Int32))) (fun h => by rw [Bd.returns] at h; cases h)
    refine ⟨_, _, ?_, hrun, hended, _, _, rfl, ?_, ⟨_, rfl⟩, hW, hsame.mono (by decide) (by decide)⟩
    · show Steps p.tables e below (T_3.setTop (mkF m 66 #[.val (.int p0), .val (.int (0 : Int32)), .val (.ref (ad 0)), .val (.ref (ad 0))] [(.int (1 : Int32))])) _
      exact retN X_3 hx (t := .boolean) Bd.returns (by simp) (hb hby at_66) hr
    · show Q0 Z p0 ad va kk h0 n0 _ T_3.heap _
      rw [e_3]
      exact ⟨rfl, N_3, trivial⟩
  · show ∃ s₂ o, Steps p.tables e below (s₁.setTop (mkF m 5 #[.val (.int p0), .val (.int (1 : Int32)), .unset, .unset] [(.int (1 : Int32))])) s₂ ∧ _
    refine own_go (B := s₁.setTop (mkF m 15 #[.val (.int p0), .val (.int (1 : Int32)), .unset, .unset] [])) (fun t k => ?_) ?_
    · show Steps p.tables e below (s₁.setTop (mkF m 5 #[.val (.int p0), .val (.int (1 : Int32)), .unset, .unset] [(.int (1 : Int32))])) _
      refine XS.ifYes X0.here hx rfl (pc0 := 5) (pc' := 15) rfl (hb hby at_5) rfl ((if0 _ _).trans (feq (by decide : ¬ ((1 : Int32) = (0 : Int32)))).2) (by decide) (by decide) ?_
      exact k
    refine own_go (B := s₁.setTop (mkF m 17 #[.val (.int p0), .val (.int (1 : Int32)), .unset, .unset] [(.int (1 : Int32)), (.int (1 : Int32))])) (fun t k => ?_) ?_
    · show Steps p.tables e below (s₁.setTop (mkF m 15 #[.val (.int p0), .val (.int (1 : Int32)), .unset, .unset] [])) _
      refine XS.iloadN X0.here hx rfl (hb hby at_15) rfl ?_
      show Steps p.tables e below (s₁.setTop (mkF m 16 #[.val (.int p0), .val (.int (1 : Int32)), .unset, .unset] [(.int (1 : Int32))])) _
      refine XS.iconst X0.here hx rfl (hb hby at_16) ?_
      exact k
    refine own_go (B := s₁.setTop (mkF m 20 #[.val (.int p0), .val (.int (1 : Int32)), .unset, .unset] [])) (fun t k => ?_) ?_
    · show Steps p.tables e below (s₁.setTop (mkF m 17 #[.val (.int p0), .val (.int (1 : Int32)), .unset, .unset] [(.int (1 : Int32)), (.int (1 : Int32))])) _
      refine XS.icmpNo X0.here hx rfl (hb hby at_17) rfl (teq (by decide : (1 : Int32) = (1 : Int32))).2 ?_
      exact k
    obtain ⟨T_4, X_4, e_4, st_4⟩ := getS2 X0 hx hZ hown (host := "") (Or.inl (hw _ (List.mem_of_getElem? (i := 33) rfl))) Via.refl e0 S1 (g := (mkF m 20 #[.val (.int p0), .val (.int (1 : Int32)), .unset, .unset] [])) rfl (hb hby at_20)
    refine own_go (B := T_4.setTop (mkF m 23 #[.val (.int p0), .val (.int (1 : Int32)), .unset, .unset] [(.ref (ad 1))])) (fun t k => st_4 t k) ?_
    refine own_go (B := T_4.setTop (mkF m 44 #[.val (.int p0), .val (.int (1 : Int32)), .val (.ref (ad 1)), .unset] [(.int (1 : Int32))])) (fun t k => ?_) ?_
    · show Steps p.tables e below (T_4.setTop (mkF m 23 #[.val (.int p0), .val (.int (1 : Int32)), .unset, .unset] [(.ref (ad 1))])) _
      refine XS.astoreN X_4.here hx rfl (hb hby at_23) rfl rfl (l' := #[.val (.int p0), .val (.int (1 : Int32)), .val (.ref (ad 1)), .unset]) rfl ?_
      show Steps p.tables e below (T_4.setTop (mkF m 24 #[.val (.int p0), .val (.int (1 : Int32)), .val (.ref (ad 1)), .unset] [])) _
      refine XS.goto X_4.here hx rfl (pc0 := 24) (pc' := 43) rfl (hb hby at_24) (by decide) (by decide) ?_
      show Steps p.tables e below (T_4.setTop (mkF m 43 #[.val (.int p0), .val (.int (1 : Int32)), .val (.ref (ad 1)), .unset] [])) _
      refine XS.iloadN X_4.here hx rfl (hb hby at_43) rfl ?_
      exact k
    obtain ⟨_, _, ⟨T_5, L_5, k_5, n_5⟩, -, X_5, ⟨Lc_5, hQ_5, l_5, y_5, z_5⟩, st_5⟩ := Jvm.LawKit.callS X_4 hx (y := (⟨"com/example/pactum/pactum/cli/ExitCode", "of", "(I)Lcom/example/pactum/pactum/cli/ExitCode;"⟩ : MethodName)) hown (mvT hZ (hw _ (List.mem_of_getElem? (i := 3) rfl))) (mvT hZ (hw _ (List.mem_of_getElem? (i := 4) rfl))) (mvT hZ (hw _ (List.mem_of_getElem? (i := 1) rfl))) (mvT hZ (hw _ (List.mem_of_getElem? (i := 5) rfl))) (by decide) (backOf (W := 0) (rm1 l Z av0 hw [] (1 : Int32) ad va kk h0 n0 Z0 SV VV EV hF (by decide)) hZ (hw _ (List.mem_of_getElem? (i := 5) rfl)) (hw _ (List.mem_of_getElem? (i := 1) rfl)) (by decide) (by decide)) (g := (mkF m 44 #[.val (.int p0), .val (.int (1 : Int32)), .val (.ref (ad 1)), .unset] [(.int (1 : Int32))])) rfl (by rw [hml]; rfl) (argsL := [(.int (1 : Int32))]) (rest := []) (lenOf pd_1 rfl) rfl (by show 2 * 0 + _ ≤ _; exact Nat.le_of_eq rfl) (hb hby at_44) (fun _ _ => ⟨rfl, e_4, (by decide : 0 + 1 ≤ _), (by decide : 0 + 4 ≤ _)⟩)
    dsimp only [Pt.U, Pt.locs, Pt.cells, Pt.slots] at X_5 l_5 y_5 z_5 st_5 hQ_5
    subst l_5 y_5 z_5
    obtain ⟨hv_5, N_5q, K_5⟩ := hQ_5
    have N_5 := Fr.app N0 N_5q
    have c17 : Keep h0 T_5.heap [] := K0.trans K_5 all0
    have c18 : Fld Z T_5.heap (ad 0) "com/example/pactum/pactum/cli/ExitCode" "status" "I" (.int (0 : Int32)) := ((hF 0 (by decide))).keep K_5 nin0
    have c19 : Fld Z T_5.heap (ad 1) "com/example/pactum/pactum/cli/ExitCode" "status" "I" (.int (1 : Int32)) := ((hF 1 (by decide))).keep K_5 nin0
    have c20 : Fld Z T_5.heap (ad 2) "com/example/pactum/pactum/cli/ExitCode" "status" "I" (.int (2 : Int32)) := ((hF 2 (by decide))).keep K_5 nin0
    have c21 : Fld Z T_5.heap (ad 3) "com/example/pactum/pactum/cli/ExitCode" "status" "I" (.int (3 : Int32)) := ((hF 3 (by decide))).keep K_5 nin0
    have c22 := VV.keep K_5 nin0
    have c23 := own_stak SV K_5
    have c24 : Exa Z T_5.heap va "[Lcom/example/pactum/pactum/cli/ExitCode;" := EV.keep K_5
    have c25 : Exa Z T_5.heap (ad 0) "com/example/pactum/pactum/cli/ExitCode" := ((hE 0 (by decide))).keep K_5
    have c26 := own_stak S0 K_5
    have c27 : Exa Z T_5.heap (ad 1) "com/example/pactum/pactum/cli/ExitCode" := ((hE 1 (by decide))).keep K_5
    have c28 := own_stak S1 K_5
    have c29 : Exa Z T_5.heap (ad 2) "com/example/pactum/pactum/cli/ExitCode" := ((hE 2 (by decide))).keep K_5
    have c30 := own_stak S2 K_5
    have c31 : Exa Z T_5.heap (ad 3) "com/example/pactum/pactum/cli/ExitCode" := ((hE 3 (by decide))).keep K_5
    have c32 := own_stak S3 K_5
    have Z0__5 : n0 ≤ T_5.heap.size := Nat.le_trans Z0 K_5.1
    rw [show own_of (1 : Int32) = 1 from by decide] at hv_5
    subst hv_5
    refine own_go (B := T_5.setTop (mkF m 47 #[.val (.int p0), .val (.int (1 : Int32)), .val (.ref (ad 1)), .unset] [(.ref (ad 1))])) (fun t k => st_5 t k) ?_
    refine own_go (B := T_5.setTop (mkF m 50 #[.val (.int p0), .val (.int (1 : Int32)), .val (.ref (ad 1)), .val (.ref (ad 1))] [(.ref (ad 1)), (.ref (ad 1))])) (fun t k => ?_) ?_
    · show Steps p.tables e below (T_5.setTop (mkF m 47 #[.val (.int p0), .val (.int (1 : Int32)), .val (.ref (ad 1)), .unset] [(.ref (ad 1))])) _
      refine XS.astoreN X_5.here hx rfl (hb hby at_47) rfl rfl (l' := #[.val (.int p0), .val (.int (1 : Int32)), .val (.ref (ad 1)), .val (.ref (ad 1))]) rfl ?_
      show Steps p.tables e below (T_5.setTop (mkF m 48 #[.val (.int p0), .val (.int (1 : Int32)), .val (.ref (ad 1)), .val (.ref (ad 1))] [])) _
      refine XS.aloadN X_5.here hx rfl (hb hby at_48) rfl rfl ?_
      show Steps p.tables e below (T_5.setTop (mkF m 49 #[.val (.int p0), .val (.int (1 : Int32)), .val (.ref (ad 1)), .val (.ref (ad 1))] [(.ref (ad 1))])) _
      refine XS.aloadN X_5.here hx rfl (hb hby at_49) rfl rfl ?_
      exact k
    refine own_go (B := T_5.setTop (mkF m 53 #[.val (.int p0), .val (.int (1 : Int32)), .val (.ref (ad 1)), .val (.ref (ad 1))] [])) (fun t k => ?_) ?_
    · show Steps p.tables e below (T_5.setTop (mkF m 50 #[.val (.int p0), .val (.int (1 : Int32)), .val (.ref (ad 1)), .val (.ref (ad 1))] [(.ref (ad 1)), (.ref (ad 1))])) _
      refine Jvm.RoadKit.acmp (g := (mkF m 50 #[.val (.int p0), .val (.int (1 : Int32)), .val (.ref (ad 1)), .val (.ref (ad 1))] [(.ref (ad 1)), (.ref (ad 1))])) X_5 hx rfl rfl rfl (pc0 := 50) (pc' := 53) (same := true) rfl (hb hby at_50) rfl (decide_eq_true rfl) (by decide) (by decide) ?_
      exact k
    refine own_go (B := T_5.setTop (mkF m 54 #[.val (.int p0), .val (.int (1 : Int32)), .val (.ref (ad 1)), .val (.ref (ad 1))] [(.ref (ad 1))])) (fun t k => ?_) ?_
    · show Steps p.tables e below (T_5.setTop (mkF m 53 #[.val (.int p0), .val (.int (1 : Int32)), .val (.ref (ad 1)), .val (.ref (ad 1))] [])) _
      refine XS.aloadN X_5.here hx rfl (hb hby at_53) rfl rfl ?_
      exact k
    obtain ⟨cq_6, kq_6, q_6a, q_6b, q_6c⟩ := isOf hZ rfl c27
    obtain ⟨_, _, ⟨T_6, L_6, k_6, n_6⟩, -, X_6, ⟨Lc_6, hQ_6, l_6, y_6, z_6⟩, st_6⟩ := X_5.virtualBack hx (y := (⟨"com/example/pactum/pactum/cli/ExitCode", "status", "()I"⟩ : MethodName)) (z := (⟨"com/example/pactum/pactum/cli/ExitCode", "status", "()I"⟩ : MethodName)) hown (mvT hZ (hw _ (List.mem_of_getElem? (i := 26) rfl))) (mvT hZ (hw _ (List.mem_of_getElem? (i := 27) rfl))) (notFace_of_selects (args := #[]) (mvT hZ (hw _ (List.mem_of_getElem? (i := 29) rfl)))) (mvT hZ (hw _ (List.mem_of_getElem? (i := 29) rfl))) (mvT hZ (hw _ (List.mem_of_getElem? (i := 28) rfl))) (by decide) (backOf (W := 0) (rm3 l Z av0 hw [] (ad 1) (1 : Int32) T_5.heap n0 Z0__5 c19) hZ (hw _ (List.mem_of_getElem? (i := 30) rfl)) (hw _ (List.mem_of_getElem? (i := 1) rfl)) (by decide) (by decide)) q_6a q_6c (g := (mkF m 54 #[.val (.int p0), .val (.int (1 : Int32)), .val (.ref (ad 1)), .val (.ref (ad 1))] [(.ref (ad 1))])) rfl (by rw [hml]; rfl) (Steps.refl _) (argsL := []) (rest := []) (lenOf pd_2 rfl) rfl (by show 2 * 0 + _ ≤ _; exact Nat.le_of_eq rfl) (hb hby at_54) (fun _ _ => ⟨rfl, rfl, (by decide : 1 + 0 ≤ _), (by decide : 4 + 0 ≤ _)⟩)
    dsimp only [Pt.U, Pt.locs, Pt.cells, Pt.slots] at X_6 l_6 y_6 z_6 st_6 hQ_6
    subst l_6 y_6 z_6
    obtain ⟨rfl, N_6q, e_6⟩ := hQ_6
    have N_6 := Fr.app N_5 N_6q
    refine own_go (B := T_6.setTop (mkF m 57 #[.val (.int p0), .val (.int (1 : Int32)), .val (.ref (ad 1)), .val (.ref (ad 1))] [(.int (1 : Int32))])) (fun t k => st_6.trans k) ?_
    refine own_go (B := T_6.setTop (mkF m 58 #[.val (.int p0), .val (.int (1 : Int32)), .val (.ref (ad 1)), .val (.ref (ad 1))] [(.int (1 : Int32)), (.int (1 : Int32))])) (fun t k => ?_) ?_
    · show Steps p.tables e below (T_6.setTop (mkF m 57 #[.val (.int p0), .val (.int (1 : Int32)), .val (.ref (ad 1)), .val (.ref (ad 1))] [(.int (1 : Int32))])) _
      refine XS.iloadN X_6.here hx rfl (hb hby at_57) rfl ?_
      exact k
    refine own_go (B := T_6.setTop (mkF m 61 #[.val (.int p0), .val (.int (1 : Int32)), .val (.ref (ad 1)), .val (.ref (ad 1))] [])) (fun t k => ?_) ?_
    · show Steps p.tables e below (T_6.setTop (mkF m 58 #[.val (.int p0), .val (.int (1 : Int32)), .val (.ref (ad 1)), .val (.ref (ad 1))] [(.int (1 : Int32)), (.int (1 : Int32))])) _
      refine XS.icmpNo X_6.here hx rfl (hb hby at_58) rfl (teq (by decide : (1 : Int32) = (1 : Int32))).2 ?_
      exact k
    refine own_go (B := T_6.setTop (mkF m 66 #[.val (.int p0), .val (.int (1 : Int32)), .val (.ref (ad 1)), .val (.ref (ad 1))] [(.int (1 : Int32))])) (fun t k => ?_) ?_
    · show Steps p.tables e below (T_6.setTop (mkF m 61 #[.val (.int p0), .val (.int (1 : Int32)), .val (.ref (ad 1)), .val (.ref (ad 1))] [])) _
      refine XS.iconst X_6.here hx rfl (hb hby at_61) ?_
      show Steps p.tables e below (T_6.setTop (mkF m 62 #[.val (.int p0), .val (.int (1 : Int32)), .val (.ref (ad 1)), .val (.ref (ad 1))] [(.int (1 : Int32))])) _
      refine XS.goto X_6.here hx rfl (pc0 := 62) (pc' := 66) rfl (hb hby at_62) (by decide) (by decide) ?_
      exact k
    obtain ⟨fs, hr, hrun, hended, hW, hsame⟩ := X_6.leave (v := some (.int (1 : Int32))) (fun h => by rw [Bd.returns] at h; cases h)
    refine ⟨_, _, ?_, hrun, hended, _, _, rfl, ?_, ⟨_, rfl⟩, hW, hsame.mono (by decide) (by decide)⟩
    · show Steps p.tables e below (T_6.setTop (mkF m 66 #[.val (.int p0), .val (.int (1 : Int32)), .val (.ref (ad 1)), .val (.ref (ad 1))] [(.int (1 : Int32))])) _
      exact retN X_6 hx (t := .boolean) Bd.returns (by simp) (hb hby at_66) hr
    · show Q0 Z p0 ad va kk h0 n0 _ T_6.heap _
      rw [e_6]
      exact ⟨rfl, N_6, trivial⟩
  · show ∃ s₂ o, Steps p.tables e below (s₁.setTop (mkF m 5 #[.val (.int p0), .val (.int (2 : Int32)), .unset, .unset] [(.int (2 : Int32))])) s₂ ∧ _
    refine own_go (B := s₁.setTop (mkF m 15 #[.val (.int p0), .val (.int (2 : Int32)), .unset, .unset] [])) (fun t k => ?_) ?_
    · show Steps p.tables e below (s₁.setTop (mkF m 5 #[.val (.int p0), .val (.int (2 : Int32)), .unset, .unset] [(.int (2 : Int32))])) _
      refine XS.ifYes X0.here hx rfl (pc0 := 5) (pc' := 15) rfl (hb hby at_5) rfl ((if0 _ _).trans (feq (by decide : ¬ ((2 : Int32) = (0 : Int32)))).2) (by decide) (by decide) ?_
      exact k
    refine own_go (B := s₁.setTop (mkF m 17 #[.val (.int p0), .val (.int (2 : Int32)), .unset, .unset] [(.int (1 : Int32)), (.int (2 : Int32))])) (fun t k => ?_) ?_
    · show Steps p.tables e below (s₁.setTop (mkF m 15 #[.val (.int p0), .val (.int (2 : Int32)), .unset, .unset] [])) _
      refine XS.iloadN X0.here hx rfl (hb hby at_15) rfl ?_
      show Steps p.tables e below (s₁.setTop (mkF m 16 #[.val (.int p0), .val (.int (2 : Int32)), .unset, .unset] [(.int (2 : Int32))])) _
      refine XS.iconst X0.here hx rfl (hb hby at_16) ?_
      exact k
    refine own_go (B := s₁.setTop (mkF m 27 #[.val (.int p0), .val (.int (2 : Int32)), .unset, .unset] [])) (fun t k => ?_) ?_
    · show Steps p.tables e below (s₁.setTop (mkF m 17 #[.val (.int p0), .val (.int (2 : Int32)), .unset, .unset] [(.int (1 : Int32)), (.int (2 : Int32))])) _
      refine XS.icmpYes X0.here hx rfl (pc0 := 17) (pc' := 27) rfl (hb hby at_17) rfl (feq (by decide : ¬ ((2 : Int32) = (1 : Int32)))).2 (by decide) (by decide) ?_
      exact k
    refine own_go (B := s₁.setTop (mkF m 29 #[.val (.int p0), .val (.int (2 : Int32)), .unset, .unset] [(.int (2 : Int32)), (.int (2 : Int32))])) (fun t k => ?_) ?_
    · show Steps p.tables e below (s₁.setTop (mkF m 27 #[.val (.int p0), .val (.int (2 : Int32)), .unset, .unset] [])) _
      refine XS.iloadN X0.here hx rfl (hb hby at_27) rfl ?_
      show Steps p.tables e below (s₁.setTop (mkF m 28 #[.val (.int p0), .val (.int (2 : Int32)), .unset, .unset] [(.int (2 : Int32))])) _
      refine XS.iconst X0.here hx rfl (hb hby at_28) ?_
      exact k
    refine own_go (B := s₁.setTop (mkF m 32 #[.val (.int p0), .val (.int (2 : Int32)), .unset, .unset] [])) (fun t k => ?_) ?_
    · show Steps p.tables e below (s₁.setTop (mkF m 29 #[.val (.int p0), .val (.int (2 : Int32)), .unset, .unset] [(.int (2 : Int32)), (.int (2 : Int32))])) _
      refine XS.icmpNo X0.here hx rfl (hb hby at_29) rfl (teq (by decide : (2 : Int32) = (2 : Int32))).2 ?_
      exact k
    obtain ⟨T_7, X_7, e_7, st_7⟩ := getS2 X0 hx hZ hown (host := "") (Or.inl (hw _ (List.mem_of_getElem? (i := 32) rfl))) Via.refl e0 S2 (g := (mkF m 32 #[.val (.int p0), .val (.int (2 : Int32)), .unset, .unset] [])) rfl (hb hby at_32)
    refine own_go (B := T_7.setTop (mkF m 35 #[.val (.int p0), .val (.int (2 : Int32)), .unset, .unset] [(.ref (ad 2))])) (fun t k => st_7 t k) ?_
    refine own_go (B := T_7.setTop (mkF m 44 #[.val (.int p0), .val (.int (2 : Int32)), .val (.ref (ad 2)), .unset] [(.int (2 : Int32))])) (fun t k => ?_) ?_
    · show Steps p.tables e below (T_7.setTop (mkF m 35 #[.val (.int p0), .val (.int (2 : Int32)), .unset, .unset] [(.ref (ad 2))])) _
      refine XS.astoreN X_7.here hx rfl (hb hby at_35) rfl rfl (l' := #[.val (.int p0), .val (.int (2 : Int32)), .val (.ref (ad 2)), .unset]) rfl ?_
      show Steps p.tables e below (T_7.setTop (mkF m 36 #[.val (.int p0), .val (.int (2 : Int32)), .val (.ref (ad 2)), .unset] [])) _
      refine XS.goto X_7.here hx rfl (pc0 := 36) (pc' := 43) rfl (hb hby at_36) (by decide) (by decide) ?_
      show Steps p.tables e below (T_7.setTop (mkF m 43 #[.val (.int p0), .val (.int (2 : Int32)), .val (.ref (ad 2)), .unset] [])) _
      refine XS.iloadN X_7.here hx rfl (hb hby at_43) rfl ?_
      exact k
    obtain ⟨_, _, ⟨T_8, L_8, k_8, n_8⟩, -, X_8, ⟨Lc_8, hQ_8, l_8, y_8, z_8⟩, st_8⟩ := Jvm.LawKit.callS X_7 hx (y := (⟨"com/example/pactum/pactum/cli/ExitCode", "of", "(I)Lcom/example/pactum/pactum/cli/ExitCode;"⟩ : MethodName)) hown (mvT hZ (hw _ (List.mem_of_getElem? (i := 3) rfl))) (mvT hZ (hw _ (List.mem_of_getElem? (i := 4) rfl))) (mvT hZ (hw _ (List.mem_of_getElem? (i := 1) rfl))) (mvT hZ (hw _ (List.mem_of_getElem? (i := 5) rfl))) (by decide) (backOf (W := 0) (rm1 l Z av0 hw [] (2 : Int32) ad va kk h0 n0 Z0 SV VV EV hF (by decide)) hZ (hw _ (List.mem_of_getElem? (i := 5) rfl)) (hw _ (List.mem_of_getElem? (i := 1) rfl)) (by decide) (by decide)) (g := (mkF m 44 #[.val (.int p0), .val (.int (2 : Int32)), .val (.ref (ad 2)), .unset] [(.int (2 : Int32))])) rfl (by rw [hml]; rfl) (argsL := [(.int (2 : Int32))]) (rest := []) (lenOf pd_1 rfl) rfl (by show 2 * 0 + _ ≤ _; exact Nat.le_of_eq rfl) (hb hby at_44) (fun _ _ => ⟨rfl, e_7, (by decide : 0 + 1 ≤ _), (by decide : 0 + 4 ≤ _)⟩)
    dsimp only [Pt.U, Pt.locs, Pt.cells, Pt.slots] at X_8 l_8 y_8 z_8 st_8 hQ_8
    subst l_8 y_8 z_8
    obtain ⟨hv_8, N_8q, K_8⟩ := hQ_8
    have N_8 := Fr.app N0 N_8q
    have c33 : Keep h0 T_8.heap [] := K0.trans K_8 all0
    have c34 : Fld Z T_8.heap (ad 0) "com/example/pactum/pactum/cli/ExitCode" "status" "I" (.int (0 : Int32)) := ((hF 0 (by decide))).keep K_8 nin0
    have c35 : Fld Z T_8.heap (ad 1) "com/example/pactum/pactum/cli/ExitCode" "status" "I" (.int (1 : Int32)) := ((hF 1 (by decide))).keep K_8 nin0
    have c36 : Fld Z T_8.heap (ad 2) "com/example/pactum/pactum/cli/ExitCode" "status" "I" (.int (2 : Int32)) := ((hF 2 (by decide))).keep K_8 nin0
    have c37 : Fld Z T_8.heap (ad 3) "com/example/pactum/pactum/cli/ExitCode" "status" "I" (.int (3 : Int32)) := ((hF 3 (by decide))).keep K_8 nin0
    have c38 := VV.keep K_8 nin0
    have c39 := own_stak SV K_8
    have c40 : Exa Z T_8.heap va "[Lcom/example/pactum/pactum/cli/ExitCode;" := EV.keep K_8
    have c41 : Exa Z T_8.heap (ad 0) "com/example/pactum/pactum/cli/ExitCode" := ((hE 0 (by decide))).keep K_8
    have c42 := own_stak S0 K_8
    have c43 : Exa Z T_8.heap (ad 1) "com/example/pactum/pactum/cli/ExitCode" := ((hE 1 (by decide))).keep K_8
    have c44 := own_stak S1 K_8
    have c45 : Exa Z T_8.heap (ad 2) "com/example/pactum/pactum/cli/ExitCode" := ((hE 2 (by decide))).keep K_8
    have c46 := own_stak S2 K_8
    have c47 : Exa Z T_8.heap (ad 3) "com/example/pactum/pactum/cli/ExitCode" := ((hE 3 (by decide))).keep K_8
    have c48 := own_stak S3 K_8
    have Z0__8 : n0 ≤ T_8.heap.size := Nat.le_trans Z0 K_8.1
    rw [show own_of (2 : Int32) = 2 from by decide] at hv_8
    subst hv_8
    refine own_go (B := T_8.setTop (mkF m 47 #[.val (.int p0), .val (.int (2 : Int32)), .val (.ref (ad 2)), .unset] [(.ref (ad 2))])) (fun t k => st_8 t k) ?_
    refine own_go (B := T_8.setTop (mkF m 50 #[.val (.int p0), .val (.int (2 : Int32)), .val (.ref (ad 2)), .val (.ref (ad 2))] [(.ref (ad 2)), (.ref (ad 2))])) (fun t k => ?_) ?_
    · show Steps p.tables e below (T_8.setTop (mkF m 47 #[.val (.int p0), .val (.int (2 : Int32)), .val (.ref (ad 2)), .unset] [(.ref (ad 2))])) _
      refine XS.astoreN X_8.here hx rfl (hb hby at_47) rfl rfl (l' := #[.val (.int p0), .val (.int (2 : Int32)), .val (.ref (ad 2)), .val (.ref (ad 2))]) rfl ?_
      show Steps p.tables e below (T_8.setTop (mkF m 48 #[.val (.int p0), .val (.int (2 : Int32)), .val (.ref (ad 2)), .val (.ref (ad 2))] [])) _
      refine XS.aloadN X_8.here hx rfl (hb hby at_48) rfl rfl ?_
      show Steps p.tables e below (T_8.setTop (mkF m 49 #[.val (.int p0), .val (.int (2 : Int32)), .val (.ref (ad 2)), .val (.ref (ad 2))] [(.ref (ad 2))])) _
      refine XS.aloadN X_8.here hx rfl (hb hby at_49) rfl rfl ?_
      exact k
    refine own_go (B := T_8.setTop (mkF m 53 #[.val (.int p0), .val (.int (2 : Int32)), .val (.ref (ad 2)), .val (.ref (ad 2))] [])) (fun t k => ?_) ?_
    · show Steps p.tables e below (T_8.setTop (mkF m 50 #[.val (.int p0), .val (.int (2 : Int32)), .val (.ref (ad 2)), .val (.ref (ad 2))] [(.ref (ad 2)), (.ref (ad 2))])) _
      refine Jvm.RoadKit.acmp (g := (mkF m 50 #[.val (.int p0), .val (.int (2 : Int32)), .val (.ref (ad 2)), .val (.ref (ad 2))] [(.ref (ad 2)), (.ref (ad 2))])) X_8 hx rfl rfl rfl (pc0 := 50) (pc' := 53) (same := true) rfl (hb hby at_50) rfl (decide_eq_true rfl) (by decide) (by decide) ?_
      exact k
    refine own_go (B := T_8.setTop (mkF m 54 #[.val (.int p0), .val (.int (2 : Int32)), .val (.ref (ad 2)), .val (.ref (ad 2))] [(.ref (ad 2))])) (fun t k => ?_) ?_
    · show Steps p.tables e below (T_8.setTop (mkF m 53 #[.val (.int p0), .val (.int (2 : Int32)), .val (.ref (ad 2)), .val (.ref (ad 2))] [])) _
      refine XS.aloadN X_8.here hx rfl (hb hby at_53) rfl rfl ?_
      exact k
    obtain ⟨cq_9, kq_9, q_9a, q_9b, q_9c⟩ := isOf hZ rfl c45
    obtain ⟨_, _, ⟨T_9, L_9, k_9, n_9⟩, -, X_9, ⟨Lc_9, hQ_9, l_9, y_9, z_9⟩, st_9⟩ := X_8.virtualBack hx (y := (⟨"com/example/pactum/pactum/cli/ExitCode", "status", "()I"⟩ : MethodName)) (z := (⟨"com/example/pactum/pactum/cli/ExitCode", "status", "()I"⟩ : MethodName)) hown (mvT hZ (hw _ (List.mem_of_getElem? (i := 26) rfl))) (mvT hZ (hw _ (List.mem_of_getElem? (i := 27) rfl))) (notFace_of_selects (args := #[]) (mvT hZ (hw _ (List.mem_of_getElem? (i := 29) rfl)))) (mvT hZ (hw _ (List.mem_of_getElem? (i := 29) rfl))) (mvT hZ (hw _ (List.mem_of_getElem? (i := 28) rfl))) (by decide) (backOf (W := 0) (rm3 l Z av0 hw [] (ad 2) (2 : Int32) T_8.heap n0 Z0__8 c36) hZ (hw _ (List.mem_of_getElem? (i := 30) rfl)) (hw _ (List.mem_of_getElem? (i := 1) rfl)) (by decide) (by decide)) q_9a q_9c (g := (mkF m 54 #[.val (.int p0), .val (.int (2 : Int32)), .val (.ref (ad 2)), .val (.ref (ad 2))] [(.ref (ad 2))])) rfl (by rw [hml]; rfl) (Steps.refl _) (argsL := []) (rest := []) (lenOf pd_2 rfl) rfl (by show 2 * 0 + _ ≤ _; exact Nat.le_of_eq rfl) (hb hby at_54) (fun _ _ => ⟨rfl, rfl, (by decide : 1 + 0 ≤ _), (by decide : 4 + 0 ≤ _)⟩)
    dsimp only [Pt.U, Pt.locs, Pt.cells, Pt.slots] at X_9 l_9 y_9 z_9 st_9 hQ_9
    subst l_9 y_9 z_9
    obtain ⟨rfl, N_9q, e_9⟩ := hQ_9
    have N_9 := Fr.app N_8 N_9q
    refine own_go (B := T_9.setTop (mkF m 57 #[.val (.int p0), .val (.int (2 : Int32)), .val (.ref (ad 2)), .val (.ref (ad 2))] [(.int (2 : Int32))])) (fun t k => st_9.trans k) ?_
    refine own_go (B := T_9.setTop (mkF m 58 #[.val (.int p0), .val (.int (2 : Int32)), .val (.ref (ad 2)), .val (.ref (ad 2))] [(.int (2 : Int32)), (.int (2 : Int32))])) (fun t k => ?_) ?_
    · show Steps p.tables e below (T_9.setTop (mkF m 57 #[.val (.int p0), .val (.int (2 : Int32)), .val (.ref (ad 2)), .val (.ref (ad 2))] [(.int (2 : Int32))])) _
      refine XS.iloadN X_9.here hx rfl (hb hby at_57) rfl ?_
      exact k
    refine own_go (B := T_9.setTop (mkF m 61 #[.val (.int p0), .val (.int (2 : Int32)), .val (.ref (ad 2)), .val (.ref (ad 2))] [])) (fun t k => ?_) ?_
    · show Steps p.tables e below (T_9.setTop (mkF m 58 #[.val (.int p0), .val (.int (2 : Int32)), .val (.ref (ad 2)), .val (.ref (ad 2))] [(.int (2 : Int32)), (.int (2 : Int32))])) _
      refine XS.icmpNo X_9.here hx rfl (hb hby at_58) rfl (teq (by decide : (2 : Int32) = (2 : Int32))).2 ?_
      exact k
    refine own_go (B := T_9.setTop (mkF m 66 #[.val (.int p0), .val (.int (2 : Int32)), .val (.ref (ad 2)), .val (.ref (ad 2))] [(.int (1 : Int32))])) (fun t k => ?_) ?_
    · show Steps p.tables e below (T_9.setTop (mkF m 61 #[.val (.int p0), .val (.int (2 : Int32)), .val (.ref (ad 2)), .val (.ref (ad 2))] [])) _
      refine XS.iconst X_9.here hx rfl (hb hby at_61) ?_
      show Steps p.tables e below (T_9.setTop (mkF m 62 #[.val (.int p0), .val (.int (2 : Int32)), .val (.ref (ad 2)), .val (.ref (ad 2))] [(.int (1 : Int32))])) _
      refine XS.goto X_9.here hx rfl (pc0 := 62) (pc' := 66) rfl (hb hby at_62) (by decide) (by decide) ?_
      exact k
    obtain ⟨fs, hr, hrun, hended, hW, hsame⟩ := X_9.leave (v := some (.int (1 : Int32))) (fun h => by rw [Bd.returns] at h; cases h)
    refine ⟨_, _, ?_, hrun, hended, _, _, rfl, ?_, ⟨_, rfl⟩, hW, hsame.mono (by decide) (by decide)⟩
    · show Steps p.tables e below (T_9.setTop (mkF m 66 #[.val (.int p0), .val (.int (2 : Int32)), .val (.ref (ad 2)), .val (.ref (ad 2))] [(.int (1 : Int32))])) _
      exact retN X_9 hx (t := .boolean) Bd.returns (by simp) (hb hby at_66) hr
    · show Q0 Z p0 ad va kk h0 n0 _ T_9.heap _
      rw [e_9]
      exact ⟨rfl, N_9, trivial⟩
  · show ∃ s₂ o, Steps p.tables e below (s₁.setTop (mkF m 5 #[.val (.int p0), .val (.int (3 : Int32)), .unset, .unset] [(.int (3 : Int32))])) s₂ ∧ _
    refine own_go (B := s₁.setTop (mkF m 15 #[.val (.int p0), .val (.int (3 : Int32)), .unset, .unset] [])) (fun t k => ?_) ?_
    · show Steps p.tables e below (s₁.setTop (mkF m 5 #[.val (.int p0), .val (.int (3 : Int32)), .unset, .unset] [(.int (3 : Int32))])) _
      refine XS.ifYes X0.here hx rfl (pc0 := 5) (pc' := 15) rfl (hb hby at_5) rfl ((if0 _ _).trans (feq (by decide : ¬ ((3 : Int32) = (0 : Int32)))).2) (by decide) (by decide) ?_
      exact k
    refine own_go (B := s₁.setTop (mkF m 17 #[.val (.int p0), .val (.int (3 : Int32)), .unset, .unset] [(.int (1 : Int32)), (.int (3 : Int32))])) (fun t k => ?_) ?_
    · show Steps p.tables e below (s₁.setTop (mkF m 15 #[.val (.int p0), .val (.int (3 : Int32)), .unset, .unset] [])) _
      refine XS.iloadN X0.here hx rfl (hb hby at_15) rfl ?_
      show Steps p.tables e below (s₁.setTop (mkF m 16 #[.val (.int p0), .val (.int (3 : Int32)), .unset, .unset] [(.int (3 : Int32))])) _
      refine XS.iconst X0.here hx rfl (hb hby at_16) ?_
      exact k
    refine own_go (B := s₁.setTop (mkF m 27 #[.val (.int p0), .val (.int (3 : Int32)), .unset, .unset] [])) (fun t k => ?_) ?_
    · show Steps p.tables e below (s₁.setTop (mkF m 17 #[.val (.int p0), .val (.int (3 : Int32)), .unset, .unset] [(.int (1 : Int32)), (.int (3 : Int32))])) _
      refine XS.icmpYes X0.here hx rfl (pc0 := 17) (pc' := 27) rfl (hb hby at_17) rfl (feq (by decide : ¬ ((3 : Int32) = (1 : Int32)))).2 (by decide) (by decide) ?_
      exact k
    refine own_go (B := s₁.setTop (mkF m 29 #[.val (.int p0), .val (.int (3 : Int32)), .unset, .unset] [(.int (2 : Int32)), (.int (3 : Int32))])) (fun t k => ?_) ?_
    · show Steps p.tables e below (s₁.setTop (mkF m 27 #[.val (.int p0), .val (.int (3 : Int32)), .unset, .unset] [])) _
      refine XS.iloadN X0.here hx rfl (hb hby at_27) rfl ?_
      show Steps p.tables e below (s₁.setTop (mkF m 28 #[.val (.int p0), .val (.int (3 : Int32)), .unset, .unset] [(.int (3 : Int32))])) _
      refine XS.iconst X0.here hx rfl (hb hby at_28) ?_
      exact k
    refine own_go (B := s₁.setTop (mkF m 39 #[.val (.int p0), .val (.int (3 : Int32)), .unset, .unset] [])) (fun t k => ?_) ?_
    · show Steps p.tables e below (s₁.setTop (mkF m 29 #[.val (.int p0), .val (.int (3 : Int32)), .unset, .unset] [(.int (2 : Int32)), (.int (3 : Int32))])) _
      refine XS.icmpYes X0.here hx rfl (pc0 := 29) (pc' := 39) rfl (hb hby at_29) rfl (feq (by decide : ¬ ((3 : Int32) = (2 : Int32)))).2 (by decide) (by decide) ?_
      exact k
    obtain ⟨T_10, X_10, e_10, st_10⟩ := getS2 X0 hx hZ hown (host := "") (Or.inl (hw _ (List.mem_of_getElem? (i := 31) rfl))) Via.refl e0 S3 (g := (mkF m 39 #[.val (.int p0), .val (.int (3 : Int32)), .unset, .unset] [])) rfl (hb hby at_39)
    refine own_go (B := T_10.setTop (mkF m 42 #[.val (.int p0), .val (.int (3 : Int32)), .unset, .unset] [(.ref (ad 3))])) (fun t k => st_10 t k) ?_
    refine own_go (B := T_10.setTop (mkF m 44 #[.val (.int p0), .val (.int (3 : Int32)), .val (.ref (ad 3)), .unset] [(.int (3 : Int32))])) (fun t k => ?_) ?_
    · show Steps p.tables e below (T_10.setTop (mkF m 42 #[.val (.int p0), .val (.int (3 : Int32)), .unset, .unset] [(.ref (ad 3))])) _
      refine XS.astoreN X_10.here hx rfl (hb hby at_42) rfl rfl (l' := #[.val (.int p0), .val (.int (3 : Int32)), .val (.ref (ad 3)), .unset]) rfl ?_
      show Steps p.tables e below (T_10.setTop (mkF m 43 #[.val (.int p0), .val (.int (3 : Int32)), .val (.ref (ad 3)), .unset] [])) _
      refine XS.iloadN X_10.here hx rfl (hb hby at_43) rfl ?_
      exact k
    obtain ⟨_, _, ⟨T_11, L_11, k_11, n_11⟩, -, X_11, ⟨Lc_11, hQ_11, l_11, y_11, z_11⟩, st_11⟩ := Jvm.LawKit.callS X_10 hx (y := (⟨"com/example/pactum/pactum/cli/ExitCode", "of", "(I)Lcom/example/pactum/pactum/cli/ExitCode;"⟩ : MethodName)) hown (mvT hZ (hw _ (List.mem_of_getElem? (i := 3) rfl))) (mvT hZ (hw _ (List.mem_of_getElem? (i := 4) rfl))) (mvT hZ (hw _ (List.mem_of_getElem? (i := 1) rfl))) (mvT hZ (hw _ (List.mem_of_getElem? (i := 5) rfl))) (by decide) (backOf (W := 0) (rm1 l Z av0 hw [] (3 : Int32) ad va kk h0 n0 Z0 SV VV EV hF (by decide)) hZ (hw _ (List.mem_of_getElem? (i := 5) rfl)) (hw _ (List.mem_of_getElem? (i := 1) rfl)) (by decide) (by decide)) (g := (mkF m 44 #[.val (.int p0), .val (.int (3 : Int32)), .val (.ref (ad 3)), .unset] [(.int (3 : Int32))])) rfl (by rw [hml]; rfl) (argsL := [(.int (3 : Int32))]) (rest := []) (lenOf pd_1 rfl) rfl (by show 2 * 0 + _ ≤ _; exact Nat.le_of_eq rfl) (hb hby at_44) (fun _ _ => ⟨rfl, e_10, (by decide : 0 + 1 ≤ _), (by decide : 0 + 4 ≤ _)⟩)
    dsimp only [Pt.U, Pt.locs, Pt.cells, Pt.slots] at X_11 l_11 y_11 z_11 st_11 hQ_11
    subst l_11 y_11 z_11
    obtain ⟨hv_11, N_11q, K_11⟩ := hQ_11
    have N_11 := Fr.app N0 N_11q
    have c49 : Keep h0 T_11.heap [] := K0.trans K_11 all0
    have c50 : Fld Z T_11.heap (ad 0) "com/example/pactum/pactum/cli/ExitCode" "status" "I" (.int (0 : Int32)) := ((hF 0 (by decide))).keep K_11 nin0
    have c51 : Fld Z T_11.heap (ad 1) "com/example/pactum/pactum/cli/ExitCode" "status" "I" (.int (1 : Int32)) := ((hF 1 (by decide))).keep K_11 nin0
    have c52 : Fld Z T_11.heap (ad 2) "com/example/pactum/pactum/cli/ExitCode" "status" "I" (.int (2 : Int32)) := ((hF 2 (by decide))).keep K_11 nin0
    have c53 : Fld Z T_11.heap (ad 3) "com/example/pactum/pactum/cli/ExitCode" "status" "I" (.int (3 : Int32)) := ((hF 3 (by decide))).keep K_11 nin0
    have c54 := VV.keep K_11 nin0
    have c55 := own_stak SV K_11
    have c56 : Exa Z T_11.heap va "[Lcom/example/pactum/pactum/cli/ExitCode;" := EV.keep K_11
    have c57 : Exa Z T_11.heap (ad 0) "com/example/pactum/pactum/cli/ExitCode" := ((hE 0 (by decide))).keep K_11
    have c58 := own_stak S0 K_11
    have c59 : Exa Z T_11.heap (ad 1) "com/example/pactum/pactum/cli/ExitCode" := ((hE 1 (by decide))).keep K_11
    have c60 := own_stak S1 K_11
    have c61 : Exa Z T_11.heap (ad 2) "com/example/pactum/pactum/cli/ExitCode" := ((hE 2 (by decide))).keep K_11
    have c62 := own_stak S2 K_11
    have c63 : Exa Z T_11.heap (ad 3) "com/example/pactum/pactum/cli/ExitCode" := ((hE 3 (by decide))).keep K_11
    have c64 := own_stak S3 K_11
    have Z0__11 : n0 ≤ T_11.heap.size := Nat.le_trans Z0 K_11.1
    rw [show own_of (3 : Int32) = 3 from by decide] at hv_11
    subst hv_11
    refine own_go (B := T_11.setTop (mkF m 47 #[.val (.int p0), .val (.int (3 : Int32)), .val (.ref (ad 3)), .unset] [(.ref (ad 3))])) (fun t k => st_11 t k) ?_
    refine own_go (B := T_11.setTop (mkF m 50 #[.val (.int p0), .val (.int (3 : Int32)), .val (.ref (ad 3)), .val (.ref (ad 3))] [(.ref (ad 3)), (.ref (ad 3))])) (fun t k => ?_) ?_
    · show Steps p.tables e below (T_11.setTop (mkF m 47 #[.val (.int p0), .val (.int (3 : Int32)), .val (.ref (ad 3)), .unset] [(.ref (ad 3))])) _
      refine XS.astoreN X_11.here hx rfl (hb hby at_47) rfl rfl (l' := #[.val (.int p0), .val (.int (3 : Int32)), .val (.ref (ad 3)), .val (.ref (ad 3))]) rfl ?_
      show Steps p.tables e below (T_11.setTop (mkF m 48 #[.val (.int p0), .val (.int (3 : Int32)), .val (.ref (ad 3)), .val (.ref (ad 3))] [])) _
      refine XS.aloadN X_11.here hx rfl (hb hby at_48) rfl rfl ?_
      show Steps p.tables e below (T_11.setTop (mkF m 49 #[.val (.int p0), .val (.int (3 : Int32)), .val (.ref (ad 3)), .val (.ref (ad 3))] [(.ref (ad 3))])) _
      refine XS.aloadN X_11.here hx rfl (hb hby at_49) rfl rfl ?_
      exact k
    refine own_go (B := T_11.setTop (mkF m 53 #[.val (.int p0), .val (.int (3 : Int32)), .val (.ref (ad 3)), .val (.ref (ad 3))] [])) (fun t k => ?_) ?_
    · show Steps p.tables e below (T_11.setTop (mkF m 50 #[.val (.int p0), .val (.int (3 : Int32)), .val (.ref (ad 3)), .val (.ref (ad 3))] [(.ref (ad 3)), (.ref (ad 3))])) _
      refine Jvm.RoadKit.acmp (g := (mkF m 50 #[.val (.int p0), .val (.int (3 : Int32)), .val (.ref (ad 3)), .val (.ref (ad 3))] [(.ref (ad 3)), (.ref (ad 3))])) X_11 hx rfl rfl rfl (pc0 := 50) (pc' := 53) (same := true) rfl (hb hby at_50) rfl (decide_eq_true rfl) (by decide) (by decide) ?_
      exact k
    refine own_go (B := T_11.setTop (mkF m 54 #[.val (.int p0), .val (.int (3 : Int32)), .val (.ref (ad 3)), .val (.ref (ad 3))] [(.ref (ad 3))])) (fun t k => ?_) ?_
    · show Steps p.tables e below (T_11.setTop (mkF m 53 #[.val (.int p0), .val (.int (3 : Int32)), .val (.ref (ad 3)), .val (.ref (ad 3))] [])) _
      refine XS.aloadN X_11.here hx rfl (hb hby at_53) rfl rfl ?_
      exact k
    obtain ⟨cq_12, kq_12, q_12a, q_12b, q_12c⟩ := isOf hZ rfl c63
    obtain ⟨_, _, ⟨T_12, L_12, k_12, n_12⟩, -, X_12, ⟨Lc_12, hQ_12, l_12, y_12, z_12⟩, st_12⟩ := X_11.virtualBack hx (y := (⟨"com/example/pactum/pactum/cli/ExitCode", "status", "()I"⟩ : MethodName)) (z := (⟨"com/example/pactum/pactum/cli/ExitCode", "status", "()I"⟩ : MethodName)) hown (mvT hZ (hw _ (List.mem_of_getElem? (i := 26) rfl))) (mvT hZ (hw _ (List.mem_of_getElem? (i := 27) rfl))) (notFace_of_selects (args := #[]) (mvT hZ (hw _ (List.mem_of_getElem? (i := 29) rfl)))) (mvT hZ (hw _ (List.mem_of_getElem? (i := 29) rfl))) (mvT hZ (hw _ (List.mem_of_getElem? (i := 28) rfl))) (by decide) (backOf (W := 0) (rm3 l Z av0 hw [] (ad 3) (3 : Int32) T_11.heap n0 Z0__11 c53) hZ (hw _ (List.mem_of_getElem? (i := 30) rfl)) (hw _ (List.mem_of_getElem? (i := 1) rfl)) (by decide) (by decide)) q_12a q_12c (g := (mkF m 54 #[.val (.int p0), .val (.int (3 : Int32)), .val (.ref (ad 3)), .val (.ref (ad 3))] [(.ref (ad 3))])) rfl (by rw [hml]; rfl) (Steps.refl _) (argsL := []) (rest := []) (lenOf pd_2 rfl) rfl (by show 2 * 0 + _ ≤ _; exact Nat.le_of_eq rfl) (hb hby at_54) (fun _ _ => ⟨rfl, rfl, (by decide : 1 + 0 ≤ _), (by decide : 4 + 0 ≤ _)⟩)
    dsimp only [Pt.U, Pt.locs, Pt.cells, Pt.slots] at X_12 l_12 y_12 z_12 st_12 hQ_12
    subst l_12 y_12 z_12
    obtain ⟨rfl, N_12q, e_12⟩ := hQ_12
    have N_12 := Fr.app N_11 N_12q
    refine own_go (B := T_12.setTop (mkF m 57 #[.val (.int p0), .val (.int (3 : Int32)), .val (.ref (ad 3)), .val (.ref (ad 3))] [(.int (3 : Int32))])) (fun t k => st_12.trans k) ?_
    refine own_go (B := T_12.setTop (mkF m 58 #[.val (.int p0), .val (.int (3 : Int32)), .val (.ref (ad 3)), .val (.ref (ad 3))] [(.int (3 : Int32)), (.int (3 : Int32))])) (fun t k => ?_) ?_
    · show Steps p.tables e below (T_12.setTop (mkF m 57 #[.val (.int p0), .val (.int (3 : Int32)), .val (.ref (ad 3)), .val (.ref (ad 3))] [(.int (3 : Int32))])) _
      refine XS.iloadN X_12.here hx rfl (hb hby at_57) rfl ?_
      exact k
    refine own_go (B := T_12.setTop (mkF m 61 #[.val (.int p0), .val (.int (3 : Int32)), .val (.ref (ad 3)), .val (.ref (ad 3))] [])) (fun t k => ?_) ?_
    · show Steps p.tables e below (T_12.setTop (mkF m 58 #[.val (.int p0), .val (.int (3 : Int32)), .val (.ref (ad 3)), .val (.ref (ad 3))] [(.int (3 : Int32)), (.int (3 : Int32))])) _
      refine XS.icmpNo X_12.here hx rfl (hb hby at_58) rfl (teq (by decide : (3 : Int32) = (3 : Int32))).2 ?_
      exact k
    refine own_go (B := T_12.setTop (mkF m 66 #[.val (.int p0), .val (.int (3 : Int32)), .val (.ref (ad 3)), .val (.ref (ad 3))] [(.int (1 : Int32))])) (fun t k => ?_) ?_
    · show Steps p.tables e below (T_12.setTop (mkF m 61 #[.val (.int p0), .val (.int (3 : Int32)), .val (.ref (ad 3)), .val (.ref (ad 3))] [])) _
      refine XS.iconst X_12.here hx rfl (hb hby at_61) ?_
      show Steps p.tables e below (T_12.setTop (mkF m 62 #[.val (.int p0), .val (.int (3 : Int32)), .val (.ref (ad 3)), .val (.ref (ad 3))] [(.int (1 : Int32))])) _
      refine XS.goto X_12.here hx rfl (pc0 := 62) (pc' := 66) rfl (hb hby at_62) (by decide) (by decide) ?_
      exact k
    obtain ⟨fs, hr, hrun, hended, hW, hsame⟩ := X_12.leave (v := some (.int (1 : Int32))) (fun h => by rw [Bd.returns] at h; cases h)
    refine ⟨_, _, ?_, hrun, hended, _, _, rfl, ?_, ⟨_, rfl⟩, hW, hsame.mono (by decide) (by decide)⟩
    · show Steps p.tables e below (T_12.setTop (mkF m 66 #[.val (.int p0), .val (.int (3 : Int32)), .val (.ref (ad 3)), .val (.ref (ad 3))] [(.int (1 : Int32))])) _
      exact retN X_12 hx (t := .boolean) Bd.returns (by simp) (hb hby at_66) hr
    · show Q0 Z p0 ad va kk h0 n0 _ T_12.heap _
      rw [e_12]
      exact ⟨rfl, N_12, trivial⟩
def own_ad (s0 s1 s2 s3 : Addr) : Nat → Addr
  | 0 => s0
  | 1 => s1
  | 2 => s2
  | _ => s3
theorem own_len {args : Array Value} {s : State} {t : Term} {a : Addr} {c : Cell} {ty : FieldType} {z : Int32} (ev : t.eval args s none [] s = some (.ref a)) (A : Arr s s.heap a c ty) (h : (Term.length t).eval args s none [] s = some (.int z)) : c.slots.size < 2 ^ 31 ∧ c.slots.size.toInt32 = z := by
  have q := Arr.fin (Vm.Alike.refl _) A
  by_cases hs : c.slots.size < 2147483648
  · rw [len_f ev q hs] at h
    exact ⟨hs, Value.int.inj (Option.some.inj h)⟩
  · simp [Term.eval, ev, q, hs] at h
set_option maxRecDepth 65536 in
set_option maxHeartbeats 40000000 in
theorem comes_1 {Post : Tables → Env → Array Value → State → Outcome → State → Prop} (hpost : ∀ tb e args s v u, (limb_1_1.after args s (.returned v) u = true ∧ limb_1_2.after args s (.returned v) u = true ∧ True) → FrameEnd s (.returned v) u (Jvm.fieldLocs frame_1_writes args s ++ Jvm.arrayLocs frame_1_arrays args s ++ Jvm.staticLocs frame_1_statics s) 16 128 → Post tb e args s (.returned v) u) :
    ArmFor flags0 classFile x code maxLocals ret World_1 tables_1 room_1 Calls_1 rest_1 Pre_1 Post := by
  intro l hfl _ _ p e ha hc hk s m args below hf hA hF happ hP
  obtain ⟨hcalls, hrest, hpre⟩ := hP
  obtain ⟨-, -, -, hnamed, -, -, -, hat⟩ := (Spec.applies_iff hf).mp happ
  obtain ⟨hg, hn⟩ := and_e (Cond.before_iff.mp (show (Jvm.Cond.and given_1 narrow_1).before args s = true from hpre))
  obtain ⟨g1, g2⟩ := and_e hg
  obtain ⟨w0, rfl⟩ : ∃ w0 : Value, args = #[w0] := by
    have hs : args.size = 1 := by simpa [Cond.value, given_1] using g1
    obtain ⟨L⟩ := args
    match L, hs with
    | [w0], _ => exact ⟨w0, rfl⟩
  have hw := fun d (hd : d ∈ tables_1) => atoms_spec (ws := Jvm.Cond.code x code maxLocals ret :: tables_1) hat d (List.mem_cons_of_mem _ hd)
  have hfit : Fit s := fun {y c} hc i hi => by
    obtain ⟨ha, rfl⟩ := Array.getElem?_eq_some_iff.mp hc
    have q := List.all_eq_true.mp ((Array.all_eq_true_iff_forall_mem.mp hF) _ (Array.getElem_mem ha)) i (List.mem_range.mpr hi)
    simpa [Array.getElem?_eq_getElem hi] using q
  obtain ⟨i0, ei0⟩ := is_v g2
  obtain rfl : w0 = (.int i0) := Option.some.inj ei0
  obtain ⟨nw0, hn⟩ := and_e hn
  obtain ⟨nw1, hn⟩ := and_e hn
  obtain ⟨nw2, hn⟩ := and_e hn
  obtain ⟨nw3, hn⟩ := and_e hn
  obtain ⟨nw4, hn⟩ := and_e hn
  obtain ⟨nw5, hn⟩ := and_e hn
  obtain ⟨nw6, hn⟩ := and_e hn
  obtain ⟨nw7, hn⟩ := and_e hn
  obtain ⟨nw8, hn⟩ := and_e hn
  obtain ⟨nw9, hn⟩ := and_e hn
  obtain ⟨nw10, hn⟩ := and_e hn
  obtain ⟨nw11, hn⟩ := and_e hn
  obtain ⟨nw12, hn⟩ := and_e hn
  obtain ⟨nw13, hn⟩ := and_e hn
  have nw14 := hn
  obtain ⟨s0, ev0⟩ := exa_v nw0
  have S0 := Sta.start ev0 (Or.inr ⟨(hw _ (List.mem_of_getElem? (i := 1) rfl)), (hw _ (List.mem_of_getElem? (i := 2) rfl))⟩)
  have E0 := Exa.start ev0 nw0
  obtain ⟨va, evV⟩ := exa_v nw2
  have SV := Sta.start evV (Or.inl (hw _ (List.mem_of_getElem? (i := 21) rfl)))
  have EV := Exa.start evV nw2
  obtain ⟨s1, ev1⟩ := exa_v nw5
  have S1 := Sta.start ev1 (Or.inr ⟨(hw _ (List.mem_of_getElem? (i := 1) rfl)), (hw _ (List.mem_of_getElem? (i := 18) rfl))⟩)
  have E1 := Exa.start ev1 nw5
  obtain ⟨s2, ev2⟩ := exa_v nw7
  have S2 := Sta.start ev2 (Or.inr ⟨(hw _ (List.mem_of_getElem? (i := 1) rfl)), (hw _ (List.mem_of_getElem? (i := 19) rfl))⟩)
  have E2 := Exa.start ev2 nw7
  obtain ⟨s3, ev3⟩ := exa_v nw9
  have S3 := Sta.start ev3 (Or.inr ⟨(hw _ (List.mem_of_getElem? (i := 1) rfl)), (hw _ (List.mem_of_getElem? (i := 20) rfl))⟩)
  have E3 := Exa.start ev3 nw9
  have F0 := Fld.start ((fld_at ev0).symm.trans (own_eqv nw11 (Term.int_eval (0))))
  have F1 := Fld.start ((fld_at ev1).symm.trans (own_eqv nw12 (Term.int_eval (1))))
  have F2 := Fld.start ((fld_at ev2).symm.trans (own_eqv nw13 (Term.int_eval (2))))
  have F3 := Fld.start ((fld_at ev3).symm.trans (own_eqv nw14 (Term.int_eval (3))))
  obtain ⟨cV, AV⟩ := Arr.start evV nw1
  have lV := own_eqv nw3 (Term.int_eval (4))
  have el0 := own_eqv nw4 ev0
  have el1 := own_eqv nw6 ev1
  have el2 := own_eqv nw8 ev2
  have el3 := own_eqv nw10 ev3
  have eL : cV.slots.size < 2 ^ 31 ∧ cV.slots.size.toInt32 = 4 := own_len evV AV lV
  have x0 := (elem_in el0 evV (Term.int_eval (0)) AV.1).2
  have x1 := (elem_in el1 evV (Term.int_eval (1)) AV.1).2
  have x2 := (elem_in el2 evV (Term.int_eval (2)) AV.1).2
  have x3 := (elem_in el3 evV (Term.int_eval (3)) AV.1).2
  have VV : Arv s s.heap va cV.cls (.object "com/example/pactum/pactum/cli/ExitCode") (4 : Int32) [(.ref s0), (.ref s1), (.ref s2), (.ref s3)] .null := Arv.start hfit AV eL.1 eL.2 (by decide) rfl ⟨x0, x1, x2, x3, trivial⟩
  have hE : ∀ j, j < 4 → Exa s s.heap ((own_ad s0 s1 s2 s3) j) "com/example/pactum/pactum/cli/ExitCode" := by
    intro j hj
    match j, hj with
    | 0, _ => exact E0
    | 1, _ => exact E1
    | 2, _ => exact E2
    | 3, _ => exact E3
  have hF : ∀ j, j < 4 → Fld s s.heap ((own_ad s0 s1 s2 s3) j) "com/example/pactum/pactum/cli/ExitCode" "status" "I" (.int (Int32.ofNat j)) := by
    intro j hj
    match j, hj with
    | 0, _ => exact F0
    | 1, _ => exact F1
    | 2, _ => exact F2
    | 3, _ => exact F3
  obtain ⟨n, o, h1, h2, h3, _, L, rfl, ⟨rfl, N, -⟩, hq⟩ := rm0 l s _ hw tables_1 i0 (own_ad s0 s1 s2 s3) va cV.cls s.heap s.heap.size (Nat.le_refl _) SV VV EV hF hE S0 S1 S2 S3 p e ha hc hk s m _ below hf ((Spec.applies_iff_loose hf).mp happ).1 ⟨rfl, State.Warmed39.refl s, rfl⟩ trivial
  refine ⟨n, _, h1, h2, h3, hpost _ _ _ _ _ _ ⟨Cond.after_iff.mpr rfl, Cond.after_iff.mpr (eq_i res_at (Term.int_eval (1)) rfl), trivial⟩ ⟨hq.1, hq.2.1, (hq.2.2.sift fun y hy => Or.inr (N y hy)).mono (by decide) (by decide)⟩⟩
theorem main_1_1 : Claimed_1_1 := comes_1 fun _ _ _ _ _ _ h hF => ⟨h.1, hF⟩
theorem main_1_2 : Claimed_1_2 := comes_1 fun _ _ _ _ _ _ h hF => ⟨h.2.1, hF⟩
end Jvm.Pilot.@@N@@
namespace Jvm.Pilot.@@N@@
open Jvm Jvm.ClassFile Sem Op Lib Jvm.Free Jvm.Stand Jvm.Pilot.@@N@@.Jvm.D
/-! MADE BY PROGRAM (witnessworld.py) out of the Statement's table words and the real class files: 13 classes; the members and pool entries that the words name. The judged class is class 1, her method 1. -/
namespace start1
open Jvm.ClassFile
def u (s : String) : CpInfo := .utf8 (stringToUtf16 s)
/-- a pool by its gaps: so many unusable entries, then the entry; so many at the end -/
def gap : Nat → List CpInfo → List CpInfo
  | 0, r => r
  | n + 1, r => .unusable :: gap n r
def poolList (es : List (Nat × CpInfo)) (last : Nat) : List CpInfo := es.foldr (fun e r => gap e.1 (e.2 :: r)) (gap last [])
def pool (es : List (Nat × CpInfo)) (last : Nat) : Array CpInfo := ⟨poolList es last⟩
def fileOf (pool : Array CpInfo) (this : Nat) (attrs : Array Attribute := #[]) (ms : Array MethodInfo := #[]) (fl : Nat := 33) (sup : Nat := 0) (ifs : Array Nat := #[]) (fds : Array FieldInfo := #[]) : ClassFile where
  minorVersion := 0
  majorVersion := 65
  constantPool := pool
  accessFlags := fl
  thisClass := this
  superClass := sup
  interfaces := ifs
  fields := fds
  methods := ms
  attributes := attrs
def plain (name : String) (sup : Option ClassId) : Class where
  name := name
  kind := .ordinary
  loader := none
  accessFlags := 33
  super := sup
  interfaces := #[]
  cf := none
  fields := #[]
  methods := #[]
  instanceTypes := #[]
  staticTypes := #[]
  resolved := #[]
  callSites := []
  init := .initialized
  statics := none
  mirror := none

def pool0 : Array CpInfo := pool [(5, u "<init>"), (0, u "()V"), (1, .class_ 10), (1, u "java/lang/Object"), (85, u "clone"), (0, u "()Ljava/lang/Object;")] 26

def k0m0 : Method := { name := "<init>", desc := "()V", sig := { parameters := [], returnType := none }, accessFlags := 1, code := none }
def k0m1 : Method := { name := "clone", desc := "()Ljava/lang/Object;", sig := { parameters := [], returnType := some (.object "java/lang/Object") }, accessFlags := 260, code := none }
/-- java/lang/Object -/
def k0 : Class := { plain "java/lang/Object" none with
  accessFlags := 33
  interfaces := #[]
  cf := some (fileOf pool0 8 #[] #[{ accessFlags := 1, nameIndex := 5, descriptorIndex := 6, attributes := #[] }, { accessFlags := 260, nameIndex := 96, descriptorIndex := 97, attributes := #[] }] 33 0 #[] #[])
  fields := #[]
  methods := #[k0m0, k0m1]
  instanceTypes := #[]
  staticTypes := #[]
  resolved := Array.replicate 124 none
  statics := none }

def pool1 : Array CpInfo := pool [(2, .class_ 4), (1, u "java/lang/Object"), (0, u "<init>"), (0, u "()V"), (0, .fieldref 8 9), (0, .class_ 10), (0, .nameAndType 11 12), (0, u "com/example/pactum/pactum/cli/ExitCode"), (0, u "DONE"), (0, u "Lcom/example/pactum/pactum/cli/ExitCode;"), (0, .fieldref 8 14), (0, .nameAndType 15 12), (0, u "NOT_DONE"), (0, .fieldref 8 17), (0, .nameAndType 18 12), (0, u "USAGE"), (0, .fieldref 8 20), (0, .nameAndType 21 12), (0, u "PEER_NOT_RUNNING"), (0, .methodref 8 23), (0, .nameAndType 24 25), (0, u "of"), (0, u "(I)Lcom/example/pactum/pactum/cli/ExitCode;"), (0, .methodref 8 27), (0, .nameAndType 28 29), (0, u "status"), (0, u "()I"), (0, .class_ 31), (0, u "com/example/pactum/pactum/cli/ExitCodeOfPinLaw"), (2, u "law"), (0, u "(I)Z")] 3

def k1m0 : Method := { name := "<init>", desc := "()V", sig := { parameters := [], returnType := none }, accessFlags := 2, code := none }
def k1c1 : Code := { maxStack := 2, maxLocals := 4, code := code, exceptionTable := #[], attributes := #[] }
def k1m1 : Method := { name := "law", desc := "(I)Z", sig := { parameters := [.int], returnType := some .boolean }, accessFlags := 9, code := some k1c1 }
/-- com/example/pactum/pactum/cli/ExitCodeOfPinLaw -/
def k1 : Class := { plain "com/example/pactum/pactum/cli/ExitCodeOfPinLaw" (some 0) with
  accessFlags := 49
  interfaces := #[]
  cf := some (fileOf pool1 30 #[] #[{ accessFlags := 2, nameIndex := 5, descriptorIndex := 6, attributes := #[] }, { accessFlags := 9, nameIndex := 34, descriptorIndex := 35, attributes := #[] }] 49 2 #[] #[])
  fields := #[]
  methods := #[k1m0, k1m1]
  instanceTypes := #[]
  staticTypes := #[]
  resolved := Array.replicate 39 none
  statics := none }

def pool2 : Array CpInfo := pool [(1, .class_ 2), (0, u "java/lang/constant/Constable"), (0, .class_ 4), (0, u "java/lang/Object")] 6

/-- java/lang/constant/Constable -/
def k2 : Class := { plain "java/lang/constant/Constable" (some 0) with
  accessFlags := 1537
  interfaces := #[]
  cf := some (fileOf pool2 1 #[] #[] 1537 3 #[] #[])
  fields := #[]
  methods := #[]
  instanceTypes := #[]
  staticTypes := #[]
  resolved := Array.replicate 11 none
  statics := none }

def pool3 : Array CpInfo := pool [(1, .class_ 2), (0, u "java/lang/Comparable"), (0, .class_ 4), (0, u "java/lang/Object")] 7

/-- java/lang/Comparable -/
def k3 : Class := { plain "java/lang/Comparable" (some 0) with
  accessFlags := 1537
  interfaces := #[]
  cf := some (fileOf pool3 1 #[] #[] 1537 3 #[] #[])
  fields := #[]
  methods := #[]
  instanceTypes := #[]
  staticTypes := #[]
  resolved := Array.replicate 12 none
  statics := none }

def pool4 : Array CpInfo := pool [(1, .class_ 2), (0, u "java/io/Serializable"), (0, .class_ 4), (0, u "java/lang/Object")] 2

/-- java/io/Serializable -/
def k4 : Class := { plain "java/io/Serializable" (some 0) with
  accessFlags := 1537
  interfaces := #[]
  cf := some (fileOf pool4 1 #[] #[] 1537 3 #[] #[])
  fields := #[]
  methods := #[]
  instanceTypes := #[]
  staticTypes := #[]
  resolved := Array.replicate 7 none
  statics := none }

def pool5 : Array CpInfo := pool [(2, .class_ 4), (1, u "java/lang/Enum"), (0, u "name"), (0, u "Ljava/lang/String;"), (2, u "ordinal"), (0, u "I"), (1, .class_ 14), (1, u "java/lang/Object"), (4, u "hash"), (86, .class_ 108), (1, u "java/lang/Enum$EnumDesc"), (2, .class_ 112), (0, u "java/lang/constant/Constable"), (0, .class_ 114), (0, u "java/lang/Comparable"), (0, .class_ 116), (0, u "java/io/Serializable")] 87

/-- java/lang/Enum -/
def k5 : Class := { plain "java/lang/Enum" (some 0) with
  accessFlags := 1057
  interfaces := #[2, 3, 4]
  cf := some (fileOf pool5 2 #[.nestMembers #[106]] #[] 1057 12 #[111, 113, 115] #[{ accessFlags := 18, nameIndex := 5, descriptorIndex := 6, attributes := #[] }, { accessFlags := 18, nameIndex := 9, descriptorIndex := 10, attributes := #[] }, { accessFlags := 2, nameIndex := 19, descriptorIndex := 10, attributes := #[] }])
  fields := #[{ name := "name", type := (.object "java/lang/String"), accessFlags := 18, slot := 0, constantValue := 0 }, { name := "ordinal", type := .int, accessFlags := 18, slot := 1, constantValue := 0 }, { name := "hash", type := .int, accessFlags := 2, slot := 2, constantValue := 0 }]
  methods := #[]
  instanceTypes := #[(.object "java/lang/String"), .int, .int]
  staticTypes := #[]
  resolved := Array.replicate 204 none
  statics := none }

def pool6 : Array CpInfo := pool [(1, .class_ 2), (0, u "com/example/pactum/pactum/cli/ExitCode"), (2, u "DONE"), (0, u "Lcom/example/pactum/pactum/cli/ExitCode;"), (2, u "NOT_DONE"), (2, u "USAGE"), (2, u "PEER_NOT_RUNNING"), (0, .fieldref 1 17), (0, .nameAndType 18 19), (0, u "$VALUES"), (0, u "[Lcom/example/pactum/pactum/cli/ExitCode;"), (0, .methodref 21 22), (0, .class_ 19), (0, .nameAndType 23 24), (0, u "clone"), (0, u "()Ljava/lang/Object;"), (1, .class_ 28), (1, u "java/lang/Enum"), (6, .fieldref 1 36), (0, .nameAndType 37 38), (0, u "status"), (0, u "I"), (2, u "meaning"), (0, u "Ljava/lang/String;"), (0, .methodref 1 44), (0, .nameAndType 45 46), (0, u "values"), (0, u "()[Lcom/example/pactum/pactum/cli/ExitCode;"), (33, u "()I"), (1, u "of"), (0, u "(I)Lcom/example/pactum/pactum/cli/ExitCode;")] 21

def k6c0 : Code := { maxStack := 1, maxLocals := 0, code := prog_9_method_1_code, exceptionTable := #[], attributes := #[] }
def k6m0 : Method := { name := "values", desc := "()[Lcom/example/pactum/pactum/cli/ExitCode;", sig := { parameters := [], returnType := some (.array (.object "com/example/pactum/pactum/cli/ExitCode")) }, accessFlags := 9, code := some k6c0 }
def k6c1 : Code := { maxStack := 1, maxLocals := 1, code := prog_9_method_4_code, exceptionTable := #[], attributes := #[] }
def k6m1 : Method := { name := "status", desc := "()I", sig := { parameters := [], returnType := some .int }, accessFlags := 0, code := some k6c1 }
def k6c2 : Code := { maxStack := 3, maxLocals := 5, code := prog_9_method_6_code, exceptionTable := #[], attributes := #[] }
def k6m2 : Method := { name := "of", desc := "(I)Lcom/example/pactum/pactum/cli/ExitCode;", sig := { parameters := [.int], returnType := some (.object "com/example/pactum/pactum/cli/ExitCode") }, accessFlags := 8, code := some k6c2 }
/-- com/example/pactum/pactum/cli/ExitCode -/
def k6 : Class := { plain "com/example/pactum/pactum/cli/ExitCode" (some 5) with
  accessFlags := 16432
  interfaces := #[]
  cf := some (fileOf pool6 1 #[] #[{ accessFlags := 9, nameIndex := 45, descriptorIndex := 46, attributes := #[] }, { accessFlags := 0, nameIndex := 37, descriptorIndex := 80, attributes := #[] }, { accessFlags := 8, nameIndex := 82, descriptorIndex := 83, attributes := #[] }] 16432 26 #[] #[{ accessFlags := 16409, nameIndex := 5, descriptorIndex := 6, attributes := #[] }, { accessFlags := 16409, nameIndex := 9, descriptorIndex := 6, attributes := #[] }, { accessFlags := 16409, nameIndex := 12, descriptorIndex := 6, attributes := #[] }, { accessFlags := 16409, nameIndex := 15, descriptorIndex := 6, attributes := #[] }, { accessFlags := 18, nameIndex := 37, descriptorIndex := 38, attributes := #[] }, { accessFlags := 18, nameIndex := 41, descriptorIndex := 42, attributes := #[] }, { accessFlags := 4122, nameIndex := 18, descriptorIndex := 19, attributes := #[] }])
  fields := #[{ name := "DONE", type := (.object "com/example/pactum/pactum/cli/ExitCode"), accessFlags := 16409, slot := 0, constantValue := 0 }, { name := "NOT_DONE", type := (.object "com/example/pactum/pactum/cli/ExitCode"), accessFlags := 16409, slot := 1, constantValue := 0 }, { name := "USAGE", type := (.object "com/example/pactum/pactum/cli/ExitCode"), accessFlags := 16409, slot := 2, constantValue := 0 }, { name := "PEER_NOT_RUNNING", type := (.object "com/example/pactum/pactum/cli/ExitCode"), accessFlags := 16409, slot := 3, constantValue := 0 }, { name := "status", type := .int, accessFlags := 18, slot := 3, constantValue := 0 }, { name := "meaning", type := (.object "java/lang/String"), accessFlags := 18, slot := 4, constantValue := 0 }, { name := "$VALUES", type := (.array (.object "com/example/pactum/pactum/cli/ExitCode")), accessFlags := 4122, slot := 4, constantValue := 0 }]
  methods := #[k6m0, k6m1, k6m2]
  instanceTypes := #[(.object "java/lang/String"), .int, .int, .int, (.object "java/lang/String")]
  staticTypes := #[(.object "com/example/pactum/pactum/cli/ExitCode"), (.object "com/example/pactum/pactum/cli/ExitCode"), (.object "com/example/pactum/pactum/cli/ExitCode"), (.object "com/example/pactum/pactum/cli/ExitCode"), (.array (.object "com/example/pactum/pactum/cli/ExitCode"))]
  resolved := Array.replicate 105 none
  statics := some 0 }

def pool7 : Array CpInfo := pool [(1, .class_ 2), (0, u "java/lang/Cloneable"), (0, .class_ 4), (0, u "java/lang/Object")] 2

/-- java/lang/Cloneable -/
def k7 : Class := { plain "java/lang/Cloneable" (some 0) with
  accessFlags := 1537
  interfaces := #[]
  cf := some (fileOf pool7 1 #[] #[] 1537 3 #[] #[])
  fields := #[]
  methods := #[]
  instanceTypes := #[]
  staticTypes := #[]
  resolved := Array.replicate 7 none
  statics := none }

/-- the primitive byte -/
def k8 : Class := { plain "byte" none with kind := .primitive 'B', accessFlags := 0x411 }
/-- [B -/
def k9 : Class := { plain "[B" (some 0) with kind := .array 8 .byte, interfaces := #[7, 4], accessFlags := 1041 }

/-- the primitive int -/
def k10 : Class := { plain "int" none with kind := .primitive 'I', accessFlags := 0x411 }
/-- [I -/
def k11 : Class := { plain "[I" (some 0) with kind := .array 10 .int, interfaces := #[7, 4], accessFlags := 1041 }

/-- [Lcom/example/pactum/pactum/cli/ExitCode; -/
def k12 : Class := { plain "[Lcom/example/pactum/pactum/cli/ExitCode;" (some 0) with kind := .array 6 (.object "com/example/pactum/pactum/cli/ExitCode"), interfaces := #[7, 4], accessFlags := 1041 }

def heap : Heap := #[{ cls := 6, slots := #[.ref 2, .ref 3, .ref 4, .ref 5, .ref 1], vm := .statics 6 },
  { cls := 12, slots := #[.ref 2, .ref 3, .ref 4, .ref 5], vm := .none },
  { cls := 6, slots := #[.null, .int 0, .int 0, .int 0, .null], vm := .none },
  { cls := 6, slots := #[.null, .int 1, .int 0, .int 1, .null], vm := .none },
  { cls := 6, slots := #[.null, .int 2, .int 0, .int 2, .null], vm := .none },
  { cls := 6, slots := #[.null, .int 3, .int 0, .int 3, .null], vm := .none }]
def classes : Array Class := #[k0, k1, k2, k3, k4, k5, k6, k7, k8, k9, k10, k11, k12]
def interned : List (Array UInt16 × Addr) := []
def slotsUsed : Nat := 29
def theMethod : MethodId := ⟨1, 1⟩
def args0 : Array Value := #[.int 2]
def aboutOver (below : List Frame) : State where
  vm := { classes := classes, interned := interned.toArray }
  heap := heap
  slotsUsed := slotsUsed
  threads := #[{ frames := .invoking theMethod args0 :: below }]
def below0 : List Frame := [.native { method := ⟨0, 0⟩, args := #[] }]
def about1 : State := aboutOver below0
def p0 : Program := .bare "" "" ""
def e0 : Env := launch0.env 0 0 0
theorem w_frames : about1.frames = Frame.invoking theMethod args0 :: below0 := rfl
set_option maxRecDepth 65536 in
theorem w_args : argsFit about1.vm theMethod args0 = true := by decide +kernel
set_option maxRecDepth 65536 in
theorem w_heap : heapFits about1 = true := by decide +kernel
set_option maxRecDepth 65536 in
theorem w_runnable : about1.curStatus? = some .runnable := by decide +kernel
set_option maxRecDepth 65536 in
theorem w_alone : about1.alone = true := by decide +kernel
set_option maxRecDepth 65536 in
theorem w_named : about1.methodNamed? x = some theMethod := by decide +kernel
set_option maxRecDepth 65536 in
theorem w_hears : about1.hears theMethod below0 = true := by decide +kernel
set_option maxRecDepth 65536 in
theorem w_ripe : about1.ripe theMethod args0 below0 = true := by decide +kernel
theorem w_running : about1.status = .running := rfl
set_option maxRecDepth 65536 in
theorem w_room : about1.hasRoom e0.platform room_1 = true :=
  launch0.hasRoom_least _ room_1 (by decide +kernel) (by decide +kernel) (by decide +kernel) (by decide +kernel) (by decide +kernel) (by decide +kernel)
theorem allAtoms_all (ts : List Jvm.Cond) (a : Array Jvm.Value) (st : Jvm.State) : (allAtoms ts).before a st = ts.all (fun c => c.before a st) := by
  induction ts with
  | nil => rfl
  | cons c t ih =>
    show (Jvm.Cond.and c (allAtoms t)).before a st = _
    rw [Jvm.Cond.before_and, ih, List.all_cons]
def words1 : List Jvm.Cond := Jvm.Cond.code x code maxLocals ret :: tables_1
/-- a 'code' word, met by the world's own term for the bytes: nothing is compared byte by byte -/
theorem code_word {y : MethodName} {bytes : ByteArray} {mx : Nat} {rt : Option FieldType} {a : Array Value} {s : State} {m : MethodId} {meth : Method} {c : Code} (h1 : s.methodNamed? y = some m) (h2 : s.vm.method? m = some meth) (h3 : meth.code = some c) (h4 : c.code = bytes)
    (h5 : (c.maxLocals == mx && c.exceptionTable.isEmpty && decide (c.maxStack ≤ mostOperands) && decide (meth.sig.returnType = rt) && !meth.locks && decide (parseMethodDescriptor y.desc = some meth.sig)) = true) : (Jvm.Cond.code y bytes mx rt).before a s = true := by
  simp only [Bool.and_eq_true, beq_iff_eq, Bool.not_eq_true', decide_eq_true_eq] at h5
  obtain ⟨⟨⟨⟨⟨g1, g2⟩, g3⟩, g4⟩, g5⟩, g6⟩ := h5
  simp [Cond.before, Cond.holds, Cond.value, h1, h2, h3, h4, g1, g2, g3, g4, g5, g6]
def isCode : Jvm.Cond → Bool
  | .code _ _ _ _ => true
  | _ => false
theorem all_split {L : List Jvm.Cond} {P : Jvm.Cond → Bool} (h1 : L.all (fun c => isCode c || P c) = true) (h2 : ∀ c ∈ L.filter isCode, P c = true) : L.all P = true := by
  refine List.all_eq_true.mpr fun c hc => ?_
  have h := List.all_eq_true.mp h1 c hc
  rcases Bool.eq_false_or_eq_true (isCode c) with hi | hi
  · exact h2 c (List.mem_filter.mpr ⟨hc, hi⟩)
  · simpa [hi] using h
set_option maxRecDepth 65536 in
theorem w_c0 : (Jvm.Cond.code x code maxLocals ret).before args0 about1 = true := code_word (m := ⟨1, 1⟩) (meth := k1m1) (c := k1c1) (by decide +kernel) rfl rfl rfl (by decide +kernel)
set_option maxRecDepth 65536 in
theorem w_c1 : (Jvm.Cond.code ({ cls := "com/example/pactum/pactum/cli/ExitCode", name := "of", desc := "(I)Lcom/example/pactum/pactum/cli/ExitCode;" } : Jvm.MethodName) prog_9_method_6_code (5 : Nat) (Option.some (Jvm.ClassFile.FieldType.object "com/example/pactum/pactum/cli/ExitCode"))).before args0 about1 = true := code_word (m := ⟨6, 2⟩) (meth := k6m2) (c := k6c2) (by decide +kernel) rfl rfl rfl (by decide +kernel)
set_option maxRecDepth 65536 in
theorem w_c2 : (Jvm.Cond.code ({ cls := "com/example/pactum/pactum/cli/ExitCode", name := "values", desc := "()[Lcom/example/pactum/pactum/cli/ExitCode;" } : Jvm.MethodName) prog_9_method_1_code (0 : Nat) (Option.some (Jvm.ClassFile.FieldType.array (Jvm.ClassFile.FieldType.object "com/example/pactum/pactum/cli/ExitCode")))).before args0 about1 = true := code_word (m := ⟨6, 0⟩) (meth := k6m0) (c := k6c0) (by decide +kernel) rfl rfl rfl (by decide +kernel)
set_option maxRecDepth 65536 in
theorem w_c3 : (Jvm.Cond.code ({ cls := "com/example/pactum/pactum/cli/ExitCode", name := "status", desc := "()I" } : Jvm.MethodName) prog_9_method_4_code (1 : Nat) (Option.some Jvm.ClassFile.FieldType.int)).before args0 about1 = true := code_word (m := ⟨6, 1⟩) (meth := k6m1) (c := k6c1) (by decide +kernel) rfl rfl rfl (by decide +kernel)
def codes1 : List Jvm.Cond := [Jvm.Cond.code x code maxLocals ret, Jvm.Cond.code ({ cls := "com/example/pactum/pactum/cli/ExitCode", name := "of", desc := "(I)Lcom/example/pactum/pactum/cli/ExitCode;" } : Jvm.MethodName) prog_9_method_6_code (5 : Nat) (Option.some (Jvm.ClassFile.FieldType.object "com/example/pactum/pactum/cli/ExitCode")), Jvm.Cond.code ({ cls := "com/example/pactum/pactum/cli/ExitCode", name := "values", desc := "()[Lcom/example/pactum/pactum/cli/ExitCode;" } : Jvm.MethodName) prog_9_method_1_code (0 : Nat) (Option.some (Jvm.ClassFile.FieldType.array (Jvm.ClassFile.FieldType.object "com/example/pactum/pactum/cli/ExitCode"))), Jvm.Cond.code ({ cls := "com/example/pactum/pactum/cli/ExitCode", name := "status", desc := "()I" } : Jvm.MethodName) prog_9_method_4_code (1 : Nat) (Option.some Jvm.ClassFile.FieldType.int)]
set_option maxRecDepth 65536 in
theorem codes_eq : words1.filter isCode = codes1 := rfl
theorem w_codes : ∀ c ∈ words1.filter isCode, c.before args0 about1 = true := by
  rw [codes_eq]
  intro c hc
  simp only [codes1, List.mem_cons, List.not_mem_nil, or_false] at hc
  rcases hc with rfl | rfl | rfl | rfl
  · exact w_c0
  · exact w_c1
  · exact w_c2
  · exact w_c3
set_option maxRecDepth 65536 in
theorem w_t1 : (words1.take 24).all (fun c => isCode c || c.before args0 about1) = true := by decide +kernel
set_option maxRecDepth 65536 in
theorem w_t2 : (words1.drop 24).all (fun c => isCode c || c.before args0 about1) = true := by decide +kernel
theorem w_tables : (allAtoms (Jvm.Cond.code x code maxLocals ret :: tables_1)).before args0 about1 = true := by
  rw [allAtoms_all]
  show words1.all (fun c => c.before args0 about1) = true
  refine all_split ?_ w_codes
  rw [← List.take_append_drop 24 words1, List.all_append, w_t1, w_t2]
  rfl
set_option maxRecDepth 65536 in
theorem w_case : (Jvm.Cond.and given_1 narrow_1).before args0 about1 = true := by decide +kernel
theorem w_applies : (headSpec (Jvm.Cond.code x code maxLocals ret :: tables_1) room_1).applies x e0.platform about1 = true :=
  (Spec.applies_iff w_frames).mpr ⟨w_running, w_runnable, w_alone, w_named, w_hears, w_ripe, w_room, w_tables⟩
theorem atStart : AtStart classFile x code maxLocals ret World_1 tables_1 room_1 Calls_1 rest_1 Pre_1 launch0 p0 e0 about1 theMethod args0 below0 :=
  ⟨lists_1, trivial, launch0.admits_env _ _ _, launch0.least_env, fairChoices_fair.cas, fairChoices_fair.clock, w_frames, w_args, w_heap, w_applies, trivial, trivial, w_case⟩
end start1
theorem witness_1 : WitnessClaimed_1 := ⟨start1.p0, start1.e0, start1.about1, start1.theMethod, start1.args0, start1.below0, start1.atStart⟩
end Jvm.Pilot.@@N@@
