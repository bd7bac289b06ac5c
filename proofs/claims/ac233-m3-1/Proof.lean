import JvmDerived
import JvmDerived.Pilot.@@N@@Statement
import JvmDerived.Pilot.@@N@@Code
set_option linter.unusedVariables false
set_option linter.unusedSimpArgs false
@@BLOCK:NumsL.lean.txt@@
namespace Jvm.RoadKit
open Sem ClassFile Op Lib Jvm.Stand Jvm.Free Jvm.LawKit
section New
variable {p : Program} {l : Launch} {e : Env} {R : Room} {s : State} {m : MethodId} {args : Array Value} {below : List Frame} {meth : Method} {c : Code} {T : State} {locs : List Loc} {cells slots : Nat}
theorem retI (X : Stand p l e R s m args below meth c T locs cells slots) (hx : p.tables.exec = Jvm.exec) {pc : Nat} {Ls : Array Slot} {z : Int32} {rest : List Value} (hret : meth.sig.returnType = some .int) (hd : decode c.code pc = .ok (.ireturn, 1)) {fs : List Frame}
    (hl : ∀ (f : JFrame) (acts : List Action), f.method = m → f.locked = none → f.entered = [] → (doReturn e (T.setTop f) acts (some (.int z))).1 = T.setFrames fs) : Steps p.tables e below (T.setTop (mkF m pc Ls (.int z :: rest))) (T.setFrames fs) := by
  have hm' : T.vm.method? m = some meth := X.method'
  have hn : narrow .int (.int z) = .int z := rfl
  show Steps p.tables e below (T.setTop { method := m, pc := pc, locals := Ls, stack := _ :: rest, locked := none }) _
  jvm_step X.here [X.here.top, hx, hd, hm', hret, hn]
  first | (intro acts; rw [hl _ acts rfl rfl rfl]) | rw [hl _ _ rfl rfl rfl]
  exact Steps.refl _
end New
end Jvm.RoadKit
namespace Jvm.Pilot.@@N@@
open Jvm Jvm.ClassFile Sem Op Lib Jvm.Free Jvm.Stand Jvm.LawKit Jvm.RoadKit Bundle Jvm.Pilot.@@N@@.Jvm.D
theorem own_go {tb : Tables} {e : Env} {below : List Frame} {A B : State} {P : State → Outcome → Prop} (st : ∀ t, Steps tb e below B t → Steps tb e below A t) (h : ∃ s₂ o, Steps tb e below B s₂ ∧ P s₂ o) : ∃ s₂ o, Steps tb e below A s₂ ∧ P s₂ o := by
  obtain ⟨s₂, o, h1, h2⟩ := h
  exact ⟨s₂, o, st _ h1, h2⟩
theorem own_gj {tb : Tables} {e : Env} {below : List Frame} {A B : State} {P : State → Heap → List Loc → Prop} {F : State → State} (st : ∀ t, Steps tb e below B t → Steps tb e below A t) (h : ∃ T' h' L', P T' h' L' ∧ ∀ t, Steps tb e below (F T') t → Steps tb e below B t) : ∃ T' h' L', P T' h' L' ∧ ∀ t, Steps tb e below (F T') t → Steps tb e below A t := by
  obtain ⟨T', h', L', h1, h2⟩ := h
  exact ⟨T', h', L', h1, fun t k => st t (h2 t k)⟩
theorem own_stak {Z : State} {h h' : Heap} {C n d : String} {v : Value} (F : Sta Z h C n d v) (K : Keep h h' []) : Sta Z h' C n d v := by
  obtain ⟨cf, i, k, f, st, cell, h1, h2, h3, h4, h5, r⟩ := F
  exact ⟨cf, i, k, f, st, cell, h1, h2, h3, h4, K.2.1 _ _ h5 nin0, r⟩
theorem own_eqv {args : Array Value} {s : State} {a b : Term} {v : Value} (h : (Jvm.Cond.eq a b).value args s none s [] = some true) (hb : b.eval args s none [] s = some v) : a.eval args s none [] s = some v := by
  simp only [Cond.value, hb] at h
  cases ha : a.eval args s none [] s with
  | none => simp [ha] at h
  | some x => cases x <;> cases v <;> simp [ha] at h ⊢ <;> exact h
theorem d3_0 : decode jdk_43_method_13_code 0 = .ok (.aload_n 0, 1) := by decide +kernel
theorem d3_1 : decode jdk_43_method_13_code 1 = .ok (.arraylength, 1) := by decide +kernel
theorem d3_2 : decode jdk_43_method_13_code 2 = .ok (.aload_n 1, 1) := by decide +kernel
theorem d3_3 : decode jdk_43_method_13_code 3 = .ok (.arraylength, 1) := by decide +kernel
theorem d3_4 : decode jdk_43_method_13_code 4 = .ok (.if_icmp .ne 30, 3) := by decide +kernel
theorem d3_7 : decode jdk_43_method_13_code 7 = .ok (.iconst 0, 1) := by decide +kernel
theorem d3_8 : decode jdk_43_method_13_code 8 = .ok (.istore_n 2, 1) := by decide +kernel
theorem d3_9 : decode jdk_43_method_13_code 9 = .ok (.iload_n 2, 1) := by decide +kernel
theorem d3_10 : decode jdk_43_method_13_code 10 = .ok (.aload_n 0, 1) := by decide +kernel
theorem d3_11 : decode jdk_43_method_13_code 11 = .ok (.arraylength, 1) := by decide +kernel
theorem d3_12 : decode jdk_43_method_13_code 12 = .ok (.if_icmp .ge 20, 3) := by decide +kernel
theorem d3_15 : decode jdk_43_method_13_code 15 = .ok (.aload_n 0, 1) := by decide +kernel
theorem d3_16 : decode jdk_43_method_13_code 16 = .ok (.iload_n 2, 1) := by decide +kernel
theorem d3_17 : decode jdk_43_method_13_code 17 = .ok (.baload, 1) := by decide +kernel
theorem d3_18 : decode jdk_43_method_13_code 18 = .ok (.aload_n 1, 1) := by decide +kernel
theorem d3_19 : decode jdk_43_method_13_code 19 = .ok (.iload_n 2, 1) := by decide +kernel
theorem d3_20 : decode jdk_43_method_13_code 20 = .ok (.baload, 1) := by decide +kernel
theorem d3_21 : decode jdk_43_method_13_code 21 = .ok (.if_icmp .eq 5, 3) := by decide +kernel
theorem d3_26 : decode jdk_43_method_13_code 26 = .ok (.iinc 2 1, 3) := by decide +kernel
theorem d3_29 : decode jdk_43_method_13_code 29 = .ok (.goto (-20), 3) := by decide +kernel
theorem d3_32 : decode jdk_43_method_13_code 32 = .ok (.iconst 1, 1) := by decide +kernel
theorem d3_33 : decode jdk_43_method_13_code 33 = .ok (.ireturn, 1) := by decide +kernel
theorem pn_3 : plainName "java/lang/StringLatin1" = true := by first | (simp [plainName, overriddenIn]; done) | decide +kernel
theorem ef_LIntInt (m : MethodId) (a0 : Addr) (a1 : Addr) : entryFrame m #[(.ref a0), (.ref a1)] 3 = mkF m 0 #[.val (.ref a0), .val (.ref a1), .unset] [] := by first | (simp [entryFrame, mkF, argsToLocals, Value.category]; done) | rfl
def QLIntInt (Z : State) (a0 : Addr) (a1 : Addr) (k0 : ClassId) (k1 : ClassId) (h0 : Heap) (n0 : Nat) (v : Option Value) (h : Heap) (L : List Loc) : Prop := v = some (.int (1 : Int32)) ∧ Fr n0 L ∧ h = h0
set_option maxRecDepth 65536 in
set_option maxHeartbeats 40000000 in
theorem rmLIntInt (l : Launch) (Z : State) (av0 : Array Value) (hw : ∀ d ∈ tables_1, d.before av0 Z = true) (ws : List Jvm.Cond) (a0 : Addr) (a1 : Addr) (k0 : ClassId) (k1 : ClassId) (h0 : Heap) (n0 : Nat) (Z0 : n0 ≤ h0.size) (V0 : Arv Z h0 a0 k0 .byte (3 : Int32) [(.int (73 : Int32)), (.int (110 : Int32)), (.int (116 : Int32))] (.int 0)) (V1 : Arv Z h0 a1 k1 .byte (3 : Int32) [(.int (73 : Int32)), (.int (110 : Int32)), (.int (116 : Int32))] (.int 0)) :
    MetFree l (⟨"java/lang/StringLatin1", "equals", "([B[B)Z"⟩ : MethodName) (head1 (Jvm.Cond.code (⟨"java/lang/StringLatin1", "equals", "([B[B)Z"⟩ : MethodName) jdk_43_method_13_code 3 (some .boolean) :: ws) ({ frames := 0, cells := 0, slots := 0, locals := 0 } : Room)) (fun a U => a = #[(.ref a0), (.ref a1)] ∧ Z.Warmed39 U.vm ∧ U.heap = h0) (fun _ _ _ _ _ => True) (fun _ U o U' => ∃ v L, o = .returned v ∧ QLIntInt Z a0 a1 k0 k1 h0 n0 v U'.heap L ∧ FrameEnd U o U' L ({ frames := 0, cells := 0, slots := 0, locals := 0 } : Room).cells ({ frames := 0, cells := 0, slots := 0, locals := 0 } : Room).slots) := by
  refine MetFree.of_bodySF (plainFor_of_name pn_3) hisR ?_
  intro p e s m args below meth c s₁ Bd hml0 hP hK
  obtain ⟨rfl, hZ, hh⟩ := hP
  have hx := Bd.exec
  have hby := Bd.bytes
  have hml : c.maxLocals = 3 := hml0
  have hown : s.vm.findClass "java/lang/StringLatin1" = some m.cls := findClass_of_methodNamed Bd.named
  have hnm := (name_of_methodNamed Bd.named Bd.method).1
  have X0 : Stand p l e ({ frames := 0, cells := 0, slots := 0, locals := 0 } : Room) s m #[(.ref a0), (.ref a1)] below meth c s₁ [] 0 0 := Stand.of_body Bd
  have e0 : s₁.heap = h0 := by rw [← hh, Bd.state]; rfl
  have N0 := Fr.nil n0
  have K0 : Keep h0 h0 [] := Keep.refl h0 []
  refine own_go (B := s₁.setTop (mkF m 0 #[.val (.ref a0), .val (.ref a1), .unset] [])) (fun t k => castTop (ef_LIntInt m a0 a1) k) ?_
  refine own_go (B := s₁.setTop (mkF m 1 #[.val (.ref a0), .val (.ref a1), .unset] [(.ref a0)])) (fun t k => ?_) ?_
  · show Steps p.tables e below (s₁.setTop (mkF m 0 #[.val (.ref a0), .val (.ref a1), .unset] [])) _
    refine XS.aloadN X0.here hx rfl (hb hby d3_0) rfl rfl ?_
    exact k
  obtain ⟨cl_1, Ar_1, -, S_1, M_1, -, -⟩ := id V0
  refine own_go (B := s₁.setTop (mkF m 2 #[.val (.ref a0), .val (.ref a1), .unset] [(.int (3 : Int32))])) (fun t k => X0.arraylength hx (by rw [(e0 : _ = _)]; exact Ar_1.1) (State.isArrayOf_alike hZ.alike Ar_1.2.1) (g := (mkF m 1 #[.val (.ref a0), .val (.ref a1), .unset] [(.ref a0)])) rfl rfl (hb hby d3_1) t (by rw [len_of S_1 M_1]; exact k)) ?_
  refine own_go (B := s₁.setTop (mkF m 3 #[.val (.ref a0), .val (.ref a1), .unset] [(.ref a1), (.int (3 : Int32))])) (fun t k => ?_) ?_
  · show Steps p.tables e below (s₁.setTop (mkF m 2 #[.val (.ref a0), .val (.ref a1), .unset] [(.int (3 : Int32))])) _
    refine XS.aloadN X0.here hx rfl (hb hby d3_2) rfl rfl ?_
    exact k
  obtain ⟨cl_2, Ar_2, -, S_2, M_2, -, -⟩ := id V1
  refine own_go (B := s₁.setTop (mkF m 4 #[.val (.ref a0), .val (.ref a1), .unset] [(.int (3 : Int32)), (.int (3 : Int32))])) (fun t k => X0.arraylength hx (by rw [(e0 : _ = _)]; exact Ar_2.1) (State.isArrayOf_alike hZ.alike Ar_2.2.1) (g := (mkF m 3 #[.val (.ref a0), .val (.ref a1), .unset] [(.ref a1), (.int (3 : Int32))])) rfl rfl (hb hby d3_3) t (by rw [len_of S_2 M_2]; exact k)) ?_
  refine own_go (B := s₁.setTop (mkF m 7 #[.val (.ref a0), .val (.ref a1), .unset] [])) (fun t k => ?_) ?_
  · show Steps p.tables e below (s₁.setTop (mkF m 4 #[.val (.ref a0), .val (.ref a1), .unset] [(.int (3 : Int32)), (.int (3 : Int32))])) _
    refine XS.icmpNo X0.here hx rfl (hb hby d3_4) rfl (teq (by decide : (3 : Int32) = (3 : Int32))).2 ?_
    exact k
  refine own_go (B := s₁.setTop (mkF m 11 #[.val (.ref a0), .val (.ref a1), .val (.int (0 : Int32))] [(.ref a0), (.int (0 : Int32))])) (fun t k => ?_) ?_
  · show Steps p.tables e below (s₁.setTop (mkF m 7 #[.val (.ref a0), .val (.ref a1), .unset] [])) _
    refine XS.iconst X0.here hx rfl (hb hby d3_7) ?_
    show Steps p.tables e below (s₁.setTop (mkF m 8 #[.val (.ref a0), .val (.ref a1), .unset] [(.int (0 : Int32))])) _
    refine XS.istoreN X0.here hx rfl (hb hby d3_8) rfl (l' := #[.val (.ref a0), .val (.ref a1), .val (.int (0 : Int32))]) rfl ?_
    show Steps p.tables e below (s₁.setTop (mkF m 9 #[.val (.ref a0), .val (.ref a1), .val (.int (0 : Int32))] [])) _
    refine XS.iloadN X0.here hx rfl (hb hby d3_9) rfl ?_
    show Steps p.tables e below (s₁.setTop (mkF m 10 #[.val (.ref a0), .val (.ref a1), .val (.int (0 : Int32))] [(.int (0 : Int32))])) _
    refine XS.aloadN X0.here hx rfl (hb hby d3_10) rfl rfl ?_
    exact k
  obtain ⟨cl_3, Ar_3, -, S_3, M_3, -, -⟩ := id V0
  refine own_go (B := s₁.setTop (mkF m 12 #[.val (.ref a0), .val (.ref a1), .val (.int (0 : Int32))] [(.int (3 : Int32)), (.int (0 : Int32))])) (fun t k => X0.arraylength hx (by rw [(e0 : _ = _)]; exact Ar_3.1) (State.isArrayOf_alike hZ.alike Ar_3.2.1) (g := (mkF m 11 #[.val (.ref a0), .val (.ref a1), .val (.int (0 : Int32))] [(.ref a0), (.int (0 : Int32))])) rfl rfl (hb hby d3_11) t (by rw [len_of S_3 M_3]; exact k)) ?_
  refine own_go (B := s₁.setTop (mkF m 15 #[.val (.ref a0), .val (.ref a1), .val (.int (0 : Int32))] [])) (fun t k => ?_) ?_
  · show Steps p.tables e below (s₁.setTop (mkF m 12 #[.val (.ref a0), .val (.ref a1), .val (.int (0 : Int32))] [(.int (3 : Int32)), (.int (0 : Int32))])) _
    refine XS.icmpNo X0.here hx rfl (hb hby d3_12) rfl (tlt (by decide : (0 : Int32) < (3 : Int32))).2.1 ?_
    exact k
  refine own_go (B := s₁.setTop (mkF m 17 #[.val (.ref a0), .val (.ref a1), .val (.int (0 : Int32))] [(.int (0 : Int32)), (.ref a0)])) (fun t k => ?_) ?_
  · show Steps p.tables e below (s₁.setTop (mkF m 15 #[.val (.ref a0), .val (.ref a1), .val (.int (0 : Int32))] [])) _
    refine XS.aloadN X0.here hx rfl (hb hby d3_15) rfl rfl ?_
    show Steps p.tables e below (s₁.setTop (mkF m 16 #[.val (.ref a0), .val (.ref a1), .val (.int (0 : Int32))] [(.ref a0)])) _
    refine XS.iloadN X0.here hx rfl (hb hby d3_16) rfl ?_
    exact k
  obtain ⟨cl_4, Ar_4, q_4, S_4, M_4, H_4, G_4⟩ := id V0
  have hin_4 : ¬ ((0 : Int32) < 0 ∨ cl_4.slots.size ≤ ((0 : Int32)).toNatClampNeg) := inb_of S_4 ⟨by decide, by decide⟩
  have hat_4 : cl_4.slots[((0 : Int32)).toNatClampNeg]? = some (.int (73 : Int32)) := H_4.at hin_4 rfl
  refine own_go (B := s₁.setTop (mkF m 18 #[.val (.ref a0), .val (.ref a1), .val (.int (0 : Int32))] [(.int (73 : Int32))])) (fun t k => X0.baloadBytes hx (j := (0 : Int32)) (v := (.int (73 : Int32))) (by rw [(e0 : _ = _)]; exact Ar_4.1) (State.isArrayOf_alike hZ.alike Ar_4.2.1) Ar_4.2.2 hin_4 hat_4 (g := (mkF m 17 #[.val (.ref a0), .val (.ref a1), .val (.int (0 : Int32))] [(.int (0 : Int32)), (.ref a0)])) rfl rfl (hb hby d3_17) t k) ?_
  refine own_go (B := s₁.setTop (mkF m 20 #[.val (.ref a0), .val (.ref a1), .val (.int (0 : Int32))] [(.int (0 : Int32)), (.ref a1), (.int (73 : Int32))])) (fun t k => ?_) ?_
  · show Steps p.tables e below (s₁.setTop (mkF m 18 #[.val (.ref a0), .val (.ref a1), .val (.int (0 : Int32))] [(.int (73 : Int32))])) _
    refine XS.aloadN X0.here hx rfl (hb hby d3_18) rfl rfl ?_
    show Steps p.tables e below (s₁.setTop (mkF m 19 #[.val (.ref a0), .val (.ref a1), .val (.int (0 : Int32))] [(.ref a1), (.int (73 : Int32))])) _
    refine XS.iloadN X0.here hx rfl (hb hby d3_19) rfl ?_
    exact k
  obtain ⟨cl_5, Ar_5, q_5, S_5, M_5, H_5, G_5⟩ := id V1
  have hin_5 : ¬ ((0 : Int32) < 0 ∨ cl_5.slots.size ≤ ((0 : Int32)).toNatClampNeg) := inb_of S_5 ⟨by decide, by decide⟩
  have hat_5 : cl_5.slots[((0 : Int32)).toNatClampNeg]? = some (.int (73 : Int32)) := H_5.at hin_5 rfl
  refine own_go (B := s₁.setTop (mkF m 21 #[.val (.ref a0), .val (.ref a1), .val (.int (0 : Int32))] [(.int (73 : Int32)), (.int (73 : Int32))])) (fun t k => X0.baloadBytes hx (j := (0 : Int32)) (v := (.int (73 : Int32))) (by rw [(e0 : _ = _)]; exact Ar_5.1) (State.isArrayOf_alike hZ.alike Ar_5.2.1) Ar_5.2.2 hin_5 hat_5 (g := (mkF m 20 #[.val (.ref a0), .val (.ref a1), .val (.int (0 : Int32))] [(.int (0 : Int32)), (.ref a1), (.int (73 : Int32))])) rfl rfl (hb hby d3_20) t k) ?_
  refine own_go (B := s₁.setTop (mkF m 26 #[.val (.ref a0), .val (.ref a1), .val (.int (0 : Int32))] [])) (fun t k => ?_) ?_
  · show Steps p.tables e below (s₁.setTop (mkF m 21 #[.val (.ref a0), .val (.ref a1), .val (.int (0 : Int32))] [(.int (73 : Int32)), (.int (73 : Int32))])) _
    refine XS.icmpYes X0.here hx rfl (pc0 := 21) (pc' := 26) rfl (hb hby d3_21) rfl (teq (by decide : (73 : Int32) = (73 : Int32))).1 (by decide) (by decide) ?_
    exact k
  refine own_go (B := s₁.setTop (mkF m 11 #[.val (.ref a0), .val (.ref a1), .val (.int (1 : Int32))] [(.ref a0), (.int (1 : Int32))])) (fun t k => ?_) ?_
  · show Steps p.tables e below (s₁.setTop (mkF m 26 #[.val (.ref a0), .val (.ref a1), .val (.int (0 : Int32))] [])) _
    refine XS.iinc X0.here hx rfl (hb hby d3_26) rfl (l' := #[.val (.ref a0), .val (.ref a1), .val (.int (1 : Int32))]) rfl ?_
    show Steps p.tables e below (s₁.setTop (mkF m 29 #[.val (.ref a0), .val (.ref a1), .val (.int (1 : Int32))] [])) _
    refine XS.goto X0.here hx rfl (pc0 := 29) (pc' := 9) rfl (hb hby d3_29) (by decide) (by decide) ?_
    show Steps p.tables e below (s₁.setTop (mkF m 9 #[.val (.ref a0), .val (.ref a1), .val (.int (1 : Int32))] [])) _
    refine XS.iloadN X0.here hx rfl (hb hby d3_9) rfl ?_
    show Steps p.tables e below (s₁.setTop (mkF m 10 #[.val (.ref a0), .val (.ref a1), .val (.int (1 : Int32))] [(.int (1 : Int32))])) _
    refine XS.aloadN X0.here hx rfl (hb hby d3_10) rfl rfl ?_
    exact k
  obtain ⟨cl_6, Ar_6, -, S_6, M_6, -, -⟩ := id V0
  refine own_go (B := s₁.setTop (mkF m 12 #[.val (.ref a0), .val (.ref a1), .val (.int (1 : Int32))] [(.int (3 : Int32)), (.int (1 : Int32))])) (fun t k => X0.arraylength hx (by rw [(e0 : _ = _)]; exact Ar_6.1) (State.isArrayOf_alike hZ.alike Ar_6.2.1) (g := (mkF m 11 #[.val (.ref a0), .val (.ref a1), .val (.int (1 : Int32))] [(.ref a0), (.int (1 : Int32))])) rfl rfl (hb hby d3_11) t (by rw [len_of S_6 M_6]; exact k)) ?_
  refine own_go (B := s₁.setTop (mkF m 15 #[.val (.ref a0), .val (.ref a1), .val (.int (1 : Int32))] [])) (fun t k => ?_) ?_
  · show Steps p.tables e below (s₁.setTop (mkF m 12 #[.val (.ref a0), .val (.ref a1), .val (.int (1 : Int32))] [(.int (3 : Int32)), (.int (1 : Int32))])) _
    refine XS.icmpNo X0.here hx rfl (hb hby d3_12) rfl (tlt (by decide : (1 : Int32) < (3 : Int32))).2.1 ?_
    exact k
  refine own_go (B := s₁.setTop (mkF m 17 #[.val (.ref a0), .val (.ref a1), .val (.int (1 : Int32))] [(.int (1 : Int32)), (.ref a0)])) (fun t k => ?_) ?_
  · show Steps p.tables e below (s₁.setTop (mkF m 15 #[.val (.ref a0), .val (.ref a1), .val (.int (1 : Int32))] [])) _
    refine XS.aloadN X0.here hx rfl (hb hby d3_15) rfl rfl ?_
    show Steps p.tables e below (s₁.setTop (mkF m 16 #[.val (.ref a0), .val (.ref a1), .val (.int (1 : Int32))] [(.ref a0)])) _
    refine XS.iloadN X0.here hx rfl (hb hby d3_16) rfl ?_
    exact k
  obtain ⟨cl_7, Ar_7, q_7, S_7, M_7, H_7, G_7⟩ := id V0
  have hin_7 : ¬ ((1 : Int32) < 0 ∨ cl_7.slots.size ≤ ((1 : Int32)).toNatClampNeg) := inb_of S_7 ⟨by decide, by decide⟩
  have hat_7 : cl_7.slots[((1 : Int32)).toNatClampNeg]? = some (.int (110 : Int32)) := H_7.at hin_7 rfl
  refine own_go (B := s₁.setTop (mkF m 18 #[.val (.ref a0), .val (.ref a1), .val (.int (1 : Int32))] [(.int (110 : Int32))])) (fun t k => X0.baloadBytes hx (j := (1 : Int32)) (v := (.int (110 : Int32))) (by rw [(e0 : _ = _)]; exact Ar_7.1) (State.isArrayOf_alike hZ.alike Ar_7.2.1) Ar_7.2.2 hin_7 hat_7 (g := (mkF m 17 #[.val (.ref a0), .val (.ref a1), .val (.int (1 : Int32))] [(.int (1 : Int32)), (.ref a0)])) rfl rfl (hb hby d3_17) t k) ?_
  refine own_go (B := s₁.setTop (mkF m 20 #[.val (.ref a0), .val (.ref a1), .val (.int (1 : Int32))] [(.int (1 : Int32)), (.ref a1), (.int (110 : Int32))])) (fun t k => ?_) ?_
  · show Steps p.tables e below (s₁.setTop (mkF m 18 #[.val (.ref a0), .val (.ref a1), .val (.int (1 : Int32))] [(.int (110 : Int32))])) _
    refine XS.aloadN X0.here hx rfl (hb hby d3_18) rfl rfl ?_
    show Steps p.tables e below (s₁.setTop (mkF m 19 #[.val (.ref a0), .val (.ref a1), .val (.int (1 : Int32))] [(.ref a1), (.int (110 : Int32))])) _
    refine XS.iloadN X0.here hx rfl (hb hby d3_19) rfl ?_
    exact k
  obtain ⟨cl_8, Ar_8, q_8, S_8, M_8, H_8, G_8⟩ := id V1
  have hin_8 : ¬ ((1 : Int32) < 0 ∨ cl_8.slots.size ≤ ((1 : Int32)).toNatClampNeg) := inb_of S_8 ⟨by decide, by decide⟩
  have hat_8 : cl_8.slots[((1 : Int32)).toNatClampNeg]? = some (.int (110 : Int32)) := H_8.at hin_8 rfl
  refine own_go (B := s₁.setTop (mkF m 21 #[.val (.ref a0), .val (.ref a1), .val (.int (1 : Int32))] [(.int (110 : Int32)), (.int (110 : Int32))])) (fun t k => X0.baloadBytes hx (j := (1 : Int32)) (v := (.int (110 : Int32))) (by rw [(e0 : _ = _)]; exact Ar_8.1) (State.isArrayOf_alike hZ.alike Ar_8.2.1) Ar_8.2.2 hin_8 hat_8 (g := (mkF m 20 #[.val (.ref a0), .val (.ref a1), .val (.int (1 : Int32))] [(.int (1 : Int32)), (.ref a1), (.int (110 : Int32))])) rfl rfl (hb hby d3_20) t k) ?_
  refine own_go (B := s₁.setTop (mkF m 26 #[.val (.ref a0), .val (.ref a1), .val (.int (1 : Int32))] [])) (fun t k => ?_) ?_
  · show Steps p.tables e below (s₁.setTop (mkF m 21 #[.val (.ref a0), .val (.ref a1), .val (.int (1 : Int32))] [(.int (110 : Int32)), (.int (110 : Int32))])) _
    refine XS.icmpYes X0.here hx rfl (pc0 := 21) (pc' := 26) rfl (hb hby d3_21) rfl (teq (by decide : (110 : Int32) = (110 : Int32))).1 (by decide) (by decide) ?_
    exact k
  refine own_go (B := s₁.setTop (mkF m 11 #[.val (.ref a0), .val (.ref a1), .val (.int (2 : Int32))] [(.ref a0), (.int (2 : Int32))])) (fun t k => ?_) ?_
  · show Steps p.tables e below (s₁.setTop (mkF m 26 #[.val (.ref a0), .val (.ref a1), .val (.int (1 : Int32))] [])) _
    refine XS.iinc X0.here hx rfl (hb hby d3_26) rfl (l' := #[.val (.ref a0), .val (.ref a1), .val (.int (2 : Int32))]) rfl ?_
    show Steps p.tables e below (s₁.setTop (mkF m 29 #[.val (.ref a0), .val (.ref a1), .val (.int (2 : Int32))] [])) _
    refine XS.goto X0.here hx rfl (pc0 := 29) (pc' := 9) rfl (hb hby d3_29) (by decide) (by decide) ?_
    show Steps p.tables e below (s₁.setTop (mkF m 9 #[.val (.ref a0), .val (.ref a1), .val (.int (2 : Int32))] [])) _
    refine XS.iloadN X0.here hx rfl (hb hby d3_9) rfl ?_
    show Steps p.tables e below (s₁.setTop (mkF m 10 #[.val (.ref a0), .val (.ref a1), .val (.int (2 : Int32))] [(.int (2 : Int32))])) _
    refine XS.aloadN X0.here hx rfl (hb hby d3_10) rfl rfl ?_
    exact k
  obtain ⟨cl_9, Ar_9, -, S_9, M_9, -, -⟩ := id V0
  refine own_go (B := s₁.setTop (mkF m 12 #[.val (.ref a0), .val (.ref a1), .val (.int (2 : Int32))] [(.int (3 : Int32)), (.int (2 : Int32))])) (fun t k => X0.arraylength hx (by rw [(e0 : _ = _)]; exact Ar_9.1) (State.isArrayOf_alike hZ.alike Ar_9.2.1) (g := (mkF m 11 #[.val (.ref a0), .val (.ref a1), .val (.int (2 : Int32))] [(.ref a0), (.int (2 : Int32))])) rfl rfl (hb hby d3_11) t (by rw [len_of S_9 M_9]; exact k)) ?_
  refine own_go (B := s₁.setTop (mkF m 15 #[.val (.ref a0), .val (.ref a1), .val (.int (2 : Int32))] [])) (fun t k => ?_) ?_
  · show Steps p.tables e below (s₁.setTop (mkF m 12 #[.val (.ref a0), .val (.ref a1), .val (.int (2 : Int32))] [(.int (3 : Int32)), (.int (2 : Int32))])) _
    refine XS.icmpNo X0.here hx rfl (hb hby d3_12) rfl (tlt (by decide : (2 : Int32) < (3 : Int32))).2.1 ?_
    exact k
  refine own_go (B := s₁.setTop (mkF m 17 #[.val (.ref a0), .val (.ref a1), .val (.int (2 : Int32))] [(.int (2 : Int32)), (.ref a0)])) (fun t k => ?_) ?_
  · show Steps p.tables e below (s₁.setTop (mkF m 15 #[.val (.ref a0), .val (.ref a1), .val (.int (2 : Int32))] [])) _
    refine XS.aloadN X0.here hx rfl (hb hby d3_15) rfl rfl ?_
    show Steps p.tables e below (s₁.setTop (mkF m 16 #[.val (.ref a0), .val (.ref a1), .val (.int (2 : Int32))] [(.ref a0)])) _
    refine XS.iloadN X0.here hx rfl (hb hby d3_16) rfl ?_
    exact k
  obtain ⟨cl_10, Ar_10, q_10, S_10, M_10, H_10, G_10⟩ := id V0
  have hin_10 : ¬ ((2 : Int32) < 0 ∨ cl_10.slots.size ≤ ((2 : Int32)).toNatClampNeg) := inb_of S_10 ⟨by decide, by decide⟩
  have hat_10 : cl_10.slots[((2 : Int32)).toNatClampNeg]? = some (.int (116 : Int32)) := H_10.at hin_10 rfl
  refine own_go (B := s₁.setTop (mkF m 18 #[.val (.ref a0), .val (.ref a1), .val (.int (2 : Int32))] [(.int (116 : Int32))])) (fun t k => X0.baloadBytes hx (j := (2 : Int32)) (v := (.int (116 : Int32))) (by rw [(e0 : _ = _)]; exact Ar_10.1) (State.isArrayOf_alike hZ.alike Ar_10.2.1) Ar_10.2.2 hin_10 hat_10 (g := (mkF m 17 #[.val (.ref a0), .val (.ref a1), .val (.int (2 : Int32))] [(.int (2 : Int32)), (.ref a0)])) rfl rfl (hb hby d3_17) t k) ?_
  refine own_go (B := s₁.setTop (mkF m 20 #[.val (.ref a0), .val (.ref a1), .val (.int (2 : Int32))] [(.int (2 : Int32)), (.ref a1), (.int (116 : Int32))])) (fun t k => ?_) ?_
  · show Steps p.tables e below (s₁.setTop (mkF m 18 #[.val (.ref a0), .val (.ref a1), .val (.int (2 : Int32))] [(.int (116 : Int32))])) _
    refine XS.aloadN X0.here hx rfl (hb hby d3_18) rfl rfl ?_
    show Steps p.tables e below (s₁.setTop (mkF m 19 #[.val (.ref a0), .val (.ref a1), .val (.int (2 : Int32))] [(.ref a1), (.int (116 : Int32))])) _
    refine XS.iloadN X0.here hx rfl (hb hby d3_19) rfl ?_
    exact k
  obtain ⟨cl_11, Ar_11, q_11, S_11, M_11, H_11, G_11⟩ := id V1
  have hin_11 : ¬ ((2 : Int32) < 0 ∨ cl_11.slots.size ≤ ((2 : Int32)).toNatClampNeg) := inb_of S_11 ⟨by decide, by decide⟩
  have hat_11 : cl_11.slots[((2 : Int32)).toNatClampNeg]? = some (.int (116 : Int32)) := H_11.at hin_11 rfl
  refine own_go (B := s₁.setTop (mkF m 21 #[.val (.ref a0), .val (.ref a1), .val (.int (2 : Int32))] [(.int (116 : Int32)), (.int (116 : Int32))])) (fun t k => X0.baloadBytes hx (j := (2 : Int32)) (v := (.int (116 : Int32))) (by rw [(e0 : _ = _)]; exact Ar_11.1) (State.isArrayOf_alike hZ.alike Ar_11.2.1) Ar_11.2.2 hin_11 hat_11 (g := (mkF m 20 #[.val (.ref a0), .val (.ref a1), .val (.int (2 : Int32))] [(.int (2 : Int32)), (.ref a1), (.int (116 : Int32))])) rfl rfl (hb hby d3_20) t k) ?_
  refine own_go (B := s₁.setTop (mkF m 26 #[.val (.ref a0), .val (.ref a1), .val (.int (2 : Int32))] [])) (fun t k => ?_) ?_
  · show Steps p.tables e below (s₁.setTop (mkF m 21 #[.val (.ref a0), .val (.ref a1), .val (.int (2 : Int32))] [(.int (116 : Int32)), (.int (116 : Int32))])) _
    refine XS.icmpYes X0.here hx rfl (pc0 := 21) (pc' := 26) rfl (hb hby d3_21) rfl (teq (by decide : (116 : Int32) = (116 : Int32))).1 (by decide) (by decide) ?_
    exact k
  refine own_go (B := s₁.setTop (mkF m 11 #[.val (.ref a0), .val (.ref a1), .val (.int (3 : Int32))] [(.ref a0), (.int (3 : Int32))])) (fun t k => ?_) ?_
  · show Steps p.tables e below (s₁.setTop (mkF m 26 #[.val (.ref a0), .val (.ref a1), .val (.int (2 : Int32))] [])) _
    refine XS.iinc X0.here hx rfl (hb hby d3_26) rfl (l' := #[.val (.ref a0), .val (.ref a1), .val (.int (3 : Int32))]) rfl ?_
    show Steps p.tables e below (s₁.setTop (mkF m 29 #[.val (.ref a0), .val (.ref a1), .val (.int (3 : Int32))] [])) _
    refine XS.goto X0.here hx rfl (pc0 := 29) (pc' := 9) rfl (hb hby d3_29) (by decide) (by decide) ?_
    show Steps p.tables e below (s₁.setTop (mkF m 9 #[.val (.ref a0), .val (.ref a1), .val (.int (3 : Int32))] [])) _
    refine XS.iloadN X0.here hx rfl (hb hby d3_9) rfl ?_
    show Steps p.tables e below (s₁.setTop (mkF m 10 #[.val (.ref a0), .val (.ref a1), .val (.int (3 : Int32))] [(.int (3 : Int32))])) _
    refine XS.aloadN X0.here hx rfl (hb hby d3_10) rfl rfl ?_
    exact k
  obtain ⟨cl_12, Ar_12, -, S_12, M_12, -, -⟩ := id V0
  refine own_go (B := s₁.setTop (mkF m 12 #[.val (.ref a0), .val (.ref a1), .val (.int (3 : Int32))] [(.int (3 : Int32)), (.int (3 : Int32))])) (fun t k => X0.arraylength hx (by rw [(e0 : _ = _)]; exact Ar_12.1) (State.isArrayOf_alike hZ.alike Ar_12.2.1) (g := (mkF m 11 #[.val (.ref a0), .val (.ref a1), .val (.int (3 : Int32))] [(.ref a0), (.int (3 : Int32))])) rfl rfl (hb hby d3_11) t (by rw [len_of S_12 M_12]; exact k)) ?_
  refine own_go (B := s₁.setTop (mkF m 32 #[.val (.ref a0), .val (.ref a1), .val (.int (3 : Int32))] [])) (fun t k => ?_) ?_
  · show Steps p.tables e below (s₁.setTop (mkF m 12 #[.val (.ref a0), .val (.ref a1), .val (.int (3 : Int32))] [(.int (3 : Int32)), (.int (3 : Int32))])) _
    refine XS.icmpYes X0.here hx rfl (pc0 := 12) (pc' := 32) rfl (hb hby d3_12) rfl (flt (by decide : ¬ ((3 : Int32) < (3 : Int32)))).2.1 (by decide) (by decide) ?_
    exact k
  refine own_go (B := s₁.setTop (mkF m 33 #[.val (.ref a0), .val (.ref a1), .val (.int (3 : Int32))] [(.int (1 : Int32))])) (fun t k => ?_) ?_
  · show Steps p.tables e below (s₁.setTop (mkF m 32 #[.val (.ref a0), .val (.ref a1), .val (.int (3 : Int32))] [])) _
    refine XS.iconst X0.here hx rfl (hb hby d3_32) ?_
    exact k
  obtain ⟨fs, hr, hrun, hended, hW, hsame⟩ := X0.leave (v := some (.int (1 : Int32))) (fun h => by rw [Bd.returns] at h; cases h)
  refine ⟨_, _, ?_, hrun, hended, _, _, rfl, ?_, ⟨_, rfl⟩, hW, hsame.mono (by decide) (by decide)⟩
  · show Steps p.tables e below (s₁.setTop (mkF m 33 #[.val (.ref a0), .val (.ref a1), .val (.int (3 : Int32))] [(.int (1 : Int32))])) _
    exact retN X0 hx (t := .boolean) Bd.returns (by simp) (hb hby d3_33) hr
  · show QLIntInt Z a0 a1 k0 k1 h0 n0 _ s₁.heap _
    rw [e0]
    exact ⟨rfl, N0, rfl⟩
theorem d2_0 : decode jdk_42_method_66_code 0 = .ok (.aload_n 0, 1) := by decide +kernel
theorem d2_1 : decode jdk_42_method_66_code 1 = .ok (.aload_n 1, 1) := by decide +kernel
theorem d2_2 : decode jdk_42_method_66_code 2 = .ok (.if_acmp .ne 5, 3) := by decide +kernel
theorem d2_5 : decode jdk_42_method_66_code 5 = .ok (.iconst 1, 1) := by decide +kernel
theorem d2_6 : decode jdk_42_method_66_code 6 = .ok (.ireturn, 1) := by decide +kernel
theorem d2_7 : decode jdk_42_method_66_code 7 = .ok (.aload_n 1, 1) := by decide +kernel
theorem d2_8 : decode jdk_42_method_66_code 8 = .ok (.instanceof 10, 3) := by decide +kernel
theorem d2_11 : decode jdk_42_method_66_code 11 = .ok (.ifCond .eq 43, 3) := by decide +kernel
theorem d2_14 : decode jdk_42_method_66_code 14 = .ok (.aload_n 1, 1) := by decide +kernel
theorem d2_15 : decode jdk_42_method_66_code 15 = .ok (.checkcast 10, 3) := by decide +kernel
theorem d2_18 : decode jdk_42_method_66_code 18 = .ok (.astore_n 2, 1) := by decide +kernel
theorem d2_19 : decode jdk_42_method_66_code 19 = .ok (.getstatic 38, 3) := by decide +kernel
theorem d2_22 : decode jdk_42_method_66_code 22 = .ok (.ifCond .eq 14, 3) := by decide +kernel
theorem d2_25 : decode jdk_42_method_66_code 25 = .ok (.aload_n 0, 1) := by decide +kernel
theorem d2_26 : decode jdk_42_method_66_code 26 = .ok (.getfield 15, 3) := by decide +kernel
theorem d2_29 : decode jdk_42_method_66_code 29 = .ok (.aload_n 2, 1) := by decide +kernel
theorem d2_30 : decode jdk_42_method_66_code 30 = .ok (.getfield 15, 3) := by decide +kernel
theorem d2_33 : decode jdk_42_method_66_code 33 = .ok (.if_icmp .ne 21, 3) := by decide +kernel
theorem d2_36 : decode jdk_42_method_66_code 36 = .ok (.aload_n 0, 1) := by decide +kernel
theorem d2_37 : decode jdk_42_method_66_code 37 = .ok (.getfield 9, 3) := by decide +kernel
theorem d2_40 : decode jdk_42_method_66_code 40 = .ok (.aload_n 2, 1) := by decide +kernel
theorem d2_41 : decode jdk_42_method_66_code 41 = .ok (.getfield 9, 3) := by decide +kernel
theorem d2_44 : decode jdk_42_method_66_code 44 = .ok (.invokestatic 541, 3) := by decide +kernel
theorem d2_47 : decode jdk_42_method_66_code 47 = .ok (.ifCond .eq 7, 3) := by decide +kernel
theorem d2_50 : decode jdk_42_method_66_code 50 = .ok (.iconst 1, 1) := by decide +kernel
theorem d2_51 : decode jdk_42_method_66_code 51 = .ok (.goto 4, 3) := by decide +kernel
theorem d2_55 : decode jdk_42_method_66_code 55 = .ok (.ireturn, 1) := by decide +kernel
theorem pn_2 : plainName "java/lang/String" = true := by first | (simp [plainName, overriddenIn]; done) | decide +kernel
theorem ef_EIntInt (m : MethodId) (a0 : Addr) (a1 : Addr) : entryFrame m #[(.ref a0), (.ref a1)] 3 = mkF m 0 #[.val (.ref a0), .val (.ref a1), .unset] [] := by first | (simp [entryFrame, mkF, argsToLocals, Value.category]; done) | rfl
theorem pd_0 : parseMethodDescriptor "([B[B)Z" = some ⟨[(.array .byte), (.array .byte)], some .boolean⟩ := by decide +kernel
def QEIntInt (Z : State) (a0 : Addr) (a1 : Addr) (b0 : Addr) (b1 : Addr) (k0 : ClassId) (k1 : ClassId) (w : Int32) (h0 : Heap) (n0 : Nat) (v : Option Value) (h : Heap) (L : List Loc) : Prop := v = some (.int (1 : Int32)) ∧ Fr n0 L ∧ h = h0
set_option maxRecDepth 65536 in
set_option maxHeartbeats 40000000 in
theorem rmEIntInt (l : Launch) (Z : State) (av0 : Array Value) (hw : ∀ d ∈ tables_1, d.before av0 Z = true) (ws : List Jvm.Cond) (a0 : Addr) (a1 : Addr) (b0 : Addr) (b1 : Addr) (k0 : ClassId) (k1 : ClassId) (w : Int32) (h0 : Heap) (n0 : Nat) (Z0 : n0 ≤ h0.size) (E_a0 : Exa Z h0 a0 "java/lang/String") (F_coder_a0 : Fld Z h0 a0 "java/lang/String" "coder" "B" (.int (0 : Int32))) (F_value_a0 : Fld Z h0 a0 "java/lang/String" "value" "[B" (.ref b0)) (E_a1 : Exa Z h0 a1 "java/lang/String") (F_coder_a1 : Fld Z h0 a1 "java/lang/String" "coder" "B" (.int (0 : Int32))) (F_value_a1 : Fld Z h0 a1 "java/lang/String" "value" "[B" (.ref b1)) (V0 : Arv Z h0 b0 k0 .byte (3 : Int32) [(.int (73 : Int32)), (.int (110 : Int32)), (.int (116 : Int32))] (.int 0)) (V1 : Arv Z h0 b1 k1 .byte (3 : Int32) [(.int (73 : Int32)), (.int (110 : Int32)), (.int (116 : Int32))] (.int 0)) (S_COMPACT_STRINGS : Sta Z h0 "java/lang/String" "COMPACT_STRINGS" "Z" (.int w)) (hw0 : ¬ (w = (0 : Int32))) :
    MetFree l (⟨"java/lang/String", "equals", "(Ljava/lang/Object;)Z"⟩ : MethodName) (head1 (Jvm.Cond.code (⟨"java/lang/String", "equals", "(Ljava/lang/Object;)Z"⟩ : MethodName) jdk_42_method_66_code 3 (some .boolean) :: ws) ({ frames := 1, cells := 0, slots := 0, locals := 14 } : Room)) (fun a U => a = #[(.ref a0), (.ref a1)] ∧ Z.Warmed39 U.vm ∧ U.heap = h0) (fun _ _ _ _ _ => True) (fun _ U o U' => ∃ v L, o = .returned v ∧ QEIntInt Z a0 a1 b0 b1 k0 k1 w h0 n0 v U'.heap L ∧ FrameEnd U o U' L ({ frames := 1, cells := 0, slots := 0, locals := 14 } : Room).cells ({ frames := 1, cells := 0, slots := 0, locals := 14 } : Room).slots) := by
  refine MetFree.of_bodySF (plainFor_of_name pn_2) hisR ?_
  intro p e s m args below meth c s₁ Bd hml0 hP hK
  obtain ⟨rfl, hZ, hh⟩ := hP
  have hx := Bd.exec
  have hby := Bd.bytes
  have hml : c.maxLocals = 3 := hml0
  have hown : s.vm.findClass "java/lang/String" = some m.cls := findClass_of_methodNamed Bd.named
  have hnm := (name_of_methodNamed Bd.named Bd.method).1
  have X0 : Stand p l e ({ frames := 1, cells := 0, slots := 0, locals := 14 } : Room) s m #[(.ref a0), (.ref a1)] below meth c s₁ [] 0 0 := Stand.of_body Bd
  have e0 : s₁.heap = h0 := by rw [← hh, Bd.state]; rfl
  have N0 := Fr.nil n0
  have K0 : Keep h0 h0 [] := Keep.refl h0 []
  refine own_go (B := s₁.setTop (mkF m 0 #[.val (.ref a0), .val (.ref a1), .unset] [])) (fun t k => castTop (ef_EIntInt m a0 a1) k) ?_
  refine own_go (B := s₁.setTop (mkF m 2 #[.val (.ref a0), .val (.ref a1), .unset] [(.ref a1), (.ref a0)])) (fun t k => ?_) ?_
  · show Steps p.tables e below (s₁.setTop (mkF m 0 #[.val (.ref a0), .val (.ref a1), .unset] [])) _
    refine XS.aloadN X0.here hx rfl (hb hby d2_0) rfl rfl ?_
    show Steps p.tables e below (s₁.setTop (mkF m 1 #[.val (.ref a0), .val (.ref a1), .unset] [(.ref a0)])) _
    refine XS.aloadN X0.here hx rfl (hb hby d2_1) rfl rfl ?_
    exact k
  by_cases hc2 : a0 = a1
  · refine own_go (B := s₁.setTop (mkF m 5 #[.val (.ref a0), .val (.ref a1), .unset] [])) (fun t k => ?_) ?_
    · show Steps p.tables e below (s₁.setTop (mkF m 2 #[.val (.ref a0), .val (.ref a1), .unset] [(.ref a1), (.ref a0)])) _
      refine Jvm.RoadKit.acmp (g := (mkF m 2 #[.val (.ref a0), .val (.ref a1), .unset] [(.ref a1), (.ref a0)])) X0 hx rfl rfl rfl (pc0 := 2) (pc' := 5) (same := true) rfl (hb hby d2_2) rfl (decide_eq_true (congrArg Value.ref hc2)) (by decide) (by decide) ?_
      exact k
    refine own_go (B := s₁.setTop (mkF m 6 #[.val (.ref a0), .val (.ref a1), .unset] [(.int (1 : Int32))])) (fun t k => ?_) ?_
    · show Steps p.tables e below (s₁.setTop (mkF m 5 #[.val (.ref a0), .val (.ref a1), .unset] [])) _
      refine XS.iconst X0.here hx rfl (hb hby d2_5) ?_
      exact k
    obtain ⟨fs, hr, hrun, hended, hW, hsame⟩ := X0.leave (v := some (.int (1 : Int32))) (fun h => by rw [Bd.returns] at h; cases h)
    refine ⟨_, _, ?_, hrun, hended, _, _, rfl, ?_, ⟨_, rfl⟩, hW, hsame.mono (by decide) (by decide)⟩
    · show Steps p.tables e below (s₁.setTop (mkF m 6 #[.val (.ref a0), .val (.ref a1), .unset] [(.int (1 : Int32))])) _
      exact retN X0 hx (t := .boolean) Bd.returns (by simp) (hb hby d2_6) hr
    · show QEIntInt Z a0 a1 b0 b1 k0 k1 w h0 n0 _ s₁.heap _
      rw [e0]
      exact ⟨rfl, N0, rfl⟩
  · refine own_go (B := s₁.setTop (mkF m 7 #[.val (.ref a0), .val (.ref a1), .unset] [])) (fun t k => ?_) ?_
    · show Steps p.tables e below (s₁.setTop (mkF m 2 #[.val (.ref a0), .val (.ref a1), .unset] [(.ref a1), (.ref a0)])) _
      refine Jvm.RoadKit.acmp (g := (mkF m 2 #[.val (.ref a0), .val (.ref a1), .unset] [(.ref a1), (.ref a0)])) X0 hx rfl rfl rfl (pc0 := 2) (pc' := 7) (same := false) rfl (hb hby d2_2) rfl (decide_eq_false fun q => hc2 (Value.ref.inj q)) (by decide) (by decide) ?_
      exact k
    refine own_go (B := s₁.setTop (mkF m 8 #[.val (.ref a0), .val (.ref a1), .unset] [(.ref a1)])) (fun t k => ?_) ?_
    · show Steps p.tables e below (s₁.setTop (mkF m 7 #[.val (.ref a0), .val (.ref a1), .unset] [])) _
      refine XS.aloadN X0.here hx rfl (hb hby d2_7) rfl rfl ?_
      exact k
    obtain ⟨T_1, X_1, e_1, st_1⟩ := instY X0 hx hZ hown (hw _ (List.mem_of_getElem? (i := 23) rfl)) e0 (Ins.self E_a1) (g := (mkF m 8 #[.val (.ref a0), .val (.ref a1), .unset] [(.ref a1)])) rfl rfl (hb hby d2_8)
    refine own_go (B := T_1.setTop (mkF m 11 #[.val (.ref a0), .val (.ref a1), .unset] [(.int (1 : Int32))])) (fun t k => st_1 t k) ?_
    refine own_go (B := T_1.setTop (mkF m 14 #[.val (.ref a0), .val (.ref a1), .unset] [])) (fun t k => ?_) ?_
    · show Steps p.tables e below (T_1.setTop (mkF m 11 #[.val (.ref a0), .val (.ref a1), .unset] [(.int (1 : Int32))])) _
      refine XS.ifNo X_1.here hx rfl (hb hby d2_11) rfl ((if0 _ _).trans (feq (by decide : ¬ ((1 : Int32) = (0 : Int32)))).1) ?_
      exact k
    refine own_go (B := T_1.setTop (mkF m 15 #[.val (.ref a0), .val (.ref a1), .unset] [(.ref a1)])) (fun t k => ?_) ?_
    · show Steps p.tables e below (T_1.setTop (mkF m 14 #[.val (.ref a0), .val (.ref a1), .unset] [])) _
      refine XS.aloadN X_1.here hx rfl (hb hby d2_14) rfl rfl ?_
      exact k
    obtain ⟨T_2, X_2, e_2, st_2⟩ := castY X_1 hx hZ hown (hw _ (List.mem_of_getElem? (i := 23) rfl)) e_1 (Ins.self E_a1) (g := (mkF m 15 #[.val (.ref a0), .val (.ref a1), .unset] [(.ref a1)])) rfl rfl (hb hby d2_15)
    refine own_go (B := T_2.setTop (mkF m 18 #[.val (.ref a0), .val (.ref a1), .unset] [(.ref a1)])) (fun t k => st_2 t k) ?_
    refine own_go (B := T_2.setTop (mkF m 19 #[.val (.ref a0), .val (.ref a1), .val (.ref a1)] [])) (fun t k => ?_) ?_
    · show Steps p.tables e below (T_2.setTop (mkF m 18 #[.val (.ref a0), .val (.ref a1), .unset] [(.ref a1)])) _
      refine XS.astoreN X_2.here hx rfl (hb hby d2_18) rfl rfl (l' := #[.val (.ref a0), .val (.ref a1), .val (.ref a1)]) rfl ?_
      exact k
    obtain ⟨T_3, X_3, e_3, st_3⟩ := getS2 X_2 hx hZ hown (host := "") (Or.inl (hw _ (List.mem_of_getElem? (i := 25) rfl))) Via.refl e_2 S_COMPACT_STRINGS (g := (mkF m 19 #[.val (.ref a0), .val (.ref a1), .val (.ref a1)] [])) rfl (hb hby d2_19)
    refine own_go (B := T_3.setTop (mkF m 22 #[.val (.ref a0), .val (.ref a1), .val (.ref a1)] [(.int w)])) (fun t k => st_3 t k) ?_
    refine own_go (B := T_3.setTop (mkF m 25 #[.val (.ref a0), .val (.ref a1), .val (.ref a1)] [])) (fun t k => ?_) ?_
    · show Steps p.tables e below (T_3.setTop (mkF m 22 #[.val (.ref a0), .val (.ref a1), .val (.ref a1)] [(.int w)])) _
      refine XS.ifNo X_3.here hx rfl (hb hby d2_22) rfl ((if0 _ _).trans (feq hw0).1) ?_
      exact k
    refine own_go (B := T_3.setTop (mkF m 26 #[.val (.ref a0), .val (.ref a1), .val (.ref a1)] [(.ref a0)])) (fun t k => ?_) ?_
    · show Steps p.tables e below (T_3.setTop (mkF m 25 #[.val (.ref a0), .val (.ref a1), .val (.ref a1)] [])) _
      refine XS.aloadN X_3.here hx rfl (hb hby d2_25) rfl rfl ?_
      exact k
    obtain ⟨T_4, X_4, e_4, st_4⟩ := getF X_3 hx hZ hown (host := "") (Or.inl (hw _ (List.mem_of_getElem? (i := 26) rfl))) Via.refl e_3 F_coder_a0 (g := (mkF m 26 #[.val (.ref a0), .val (.ref a1), .val (.ref a1)] [(.ref a0)])) rfl rfl (hb hby d2_26)
    refine own_go (B := T_4.setTop (mkF m 29 #[.val (.ref a0), .val (.ref a1), .val (.ref a1)] [(.int (0 : Int32))])) (fun t k => st_4 t k) ?_
    refine own_go (B := T_4.setTop (mkF m 30 #[.val (.ref a0), .val (.ref a1), .val (.ref a1)] [(.ref a1), (.int (0 : Int32))])) (fun t k => ?_) ?_
    · show Steps p.tables e below (T_4.setTop (mkF m 29 #[.val (.ref a0), .val (.ref a1), .val (.ref a1)] [(.int (0 : Int32))])) _
      refine XS.aloadN X_4.here hx rfl (hb hby d2_29) rfl rfl ?_
      exact k
    obtain ⟨T_5, X_5, e_5, st_5⟩ := getF X_4 hx hZ hown (host := "") (Or.inl (hw _ (List.mem_of_getElem? (i := 26) rfl))) Via.refl e_4 F_coder_a1 (g := (mkF m 30 #[.val (.ref a0), .val (.ref a1), .val (.ref a1)] [(.ref a1), (.int (0 : Int32))])) rfl rfl (hb hby d2_30)
    refine own_go (B := T_5.setTop (mkF m 33 #[.val (.ref a0), .val (.ref a1), .val (.ref a1)] [(.int (0 : Int32)), (.int (0 : Int32))])) (fun t k => st_5 t k) ?_
    refine own_go (B := T_5.setTop (mkF m 36 #[.val (.ref a0), .val (.ref a1), .val (.ref a1)] [])) (fun t k => ?_) ?_
    · show Steps p.tables e below (T_5.setTop (mkF m 33 #[.val (.ref a0), .val (.ref a1), .val (.ref a1)] [(.int (0 : Int32)), (.int (0 : Int32))])) _
      refine XS.icmpNo X_5.here hx rfl (hb hby d2_33) rfl (teq (by decide : (0 : Int32) = (0 : Int32))).2 ?_
      exact k
    refine own_go (B := T_5.setTop (mkF m 37 #[.val (.ref a0), .val (.ref a1), .val (.ref a1)] [(.ref a0)])) (fun t k => ?_) ?_
    · show Steps p.tables e below (T_5.setTop (mkF m 36 #[.val (.ref a0), .val (.ref a1), .val (.ref a1)] [])) _
      refine XS.aloadN X_5.here hx rfl (hb hby d2_36) rfl rfl ?_
      exact k
    obtain ⟨T_6, X_6, e_6, st_6⟩ := getF X_5 hx hZ hown (host := "") (Or.inl (hw _ (List.mem_of_getElem? (i := 27) rfl))) Via.refl e_5 F_value_a0 (g := (mkF m 37 #[.val (.ref a0), .val (.ref a1), .val (.ref a1)] [(.ref a0)])) rfl rfl (hb hby d2_37)
    refine own_go (B := T_6.setTop (mkF m 40 #[.val (.ref a0), .val (.ref a1), .val (.ref a1)] [(.ref b0)])) (fun t k => st_6 t k) ?_
    refine own_go (B := T_6.setTop (mkF m 41 #[.val (.ref a0), .val (.ref a1), .val (.ref a1)] [(.ref a1), (.ref b0)])) (fun t k => ?_) ?_
    · show Steps p.tables e below (T_6.setTop (mkF m 40 #[.val (.ref a0), .val (.ref a1), .val (.ref a1)] [(.ref b0)])) _
      refine XS.aloadN X_6.here hx rfl (hb hby d2_40) rfl rfl ?_
      exact k
    obtain ⟨T_7, X_7, e_7, st_7⟩ := getF X_6 hx hZ hown (host := "") (Or.inl (hw _ (List.mem_of_getElem? (i := 27) rfl))) Via.refl e_6 F_value_a1 (g := (mkF m 41 #[.val (.ref a0), .val (.ref a1), .val (.ref a1)] [(.ref a1), (.ref b0)])) rfl rfl (hb hby d2_41)
    refine own_go (B := T_7.setTop (mkF m 44 #[.val (.ref a0), .val (.ref a1), .val (.ref a1)] [(.ref b1), (.ref b0)])) (fun t k => st_7 t k) ?_
    obtain ⟨_, _, ⟨T_8, L_8, k_8, n_8⟩, -, X_8, ⟨Lc_8, hQ_8, l_8, y_8, z_8⟩, st_8⟩ := Jvm.LawKit.callS X_7 hx (y := (⟨"java/lang/StringLatin1", "equals", "([B[B)Z"⟩ : MethodName)) hown (mvT hZ (hw _ (List.mem_of_getElem? (i := 28) rfl))) (mvT hZ (hw _ (List.mem_of_getElem? (i := 29) rfl))) (mvT hZ (hw _ (List.mem_of_getElem? (i := 30) rfl))) (mvT hZ (hw _ (List.mem_of_getElem? (i := 31) rfl))) (by decide) (backOf (W := 0) (rmLIntInt l Z av0 hw [] b0 b1 k0 k1 h0 n0 Z0 V0 V1) hZ (hw _ (List.mem_of_getElem? (i := 31) rfl)) (hw _ (List.mem_of_getElem? (i := 30) rfl)) (by decide) (by decide)) (g := (mkF m 44 #[.val (.ref a0), .val (.ref a1), .val (.ref a1)] [(.ref b1), (.ref b0)])) rfl (by rw [hml]; rfl) (argsL := [(.ref b0), (.ref b1)]) (rest := []) (lenOf pd_0 rfl) rfl (by show 2 * 0 + _ ≤ _; exact Nat.le_of_eq rfl) (hb hby d2_44) (fun _ _ => ⟨rfl, e_7, (by decide : 0 + 0 ≤ _), (by decide : 0 + 0 ≤ _)⟩)
    dsimp only [Pt.U, Pt.locs, Pt.cells, Pt.slots] at X_8 l_8 y_8 z_8 st_8 hQ_8
    subst l_8 y_8 z_8
    obtain ⟨rfl, N_8q, e_8⟩ := hQ_8
    have N_8 := Fr.app N0 N_8q
    refine own_go (B := T_8.setTop (mkF m 47 #[.val (.ref a0), .val (.ref a1), .val (.ref a1)] [(.int (1 : Int32))])) (fun t k => st_8 t k) ?_
    refine own_go (B := T_8.setTop (mkF m 50 #[.val (.ref a0), .val (.ref a1), .val (.ref a1)] [])) (fun t k => ?_) ?_
    · show Steps p.tables e below (T_8.setTop (mkF m 47 #[.val (.ref a0), .val (.ref a1), .val (.ref a1)] [(.int (1 : Int32))])) _
      refine XS.ifNo X_8.here hx rfl (hb hby d2_47) rfl ((if0 _ _).trans (feq (by decide : ¬ ((1 : Int32) = (0 : Int32)))).1) ?_
      exact k
    refine own_go (B := T_8.setTop (mkF m 55 #[.val (.ref a0), .val (.ref a1), .val (.ref a1)] [(.int (1 : Int32))])) (fun t k => ?_) ?_
    · show Steps p.tables e below (T_8.setTop (mkF m 50 #[.val (.ref a0), .val (.ref a1), .val (.ref a1)] [])) _
      refine XS.iconst X_8.here hx rfl (hb hby d2_50) ?_
      show Steps p.tables e below (T_8.setTop (mkF m 51 #[.val (.ref a0), .val (.ref a1), .val (.ref a1)] [(.int (1 : Int32))])) _
      refine XS.goto X_8.here hx rfl (pc0 := 51) (pc' := 55) rfl (hb hby d2_51) (by decide) (by decide) ?_
      exact k
    obtain ⟨fs, hr, hrun, hended, hW, hsame⟩ := X_8.leave (v := some (.int (1 : Int32))) (fun h => by rw [Bd.returns] at h; cases h)
    refine ⟨_, _, ?_, hrun, hended, _, _, rfl, ?_, ⟨_, rfl⟩, hW, hsame.mono (by decide) (by decide)⟩
    · show Steps p.tables e below (T_8.setTop (mkF m 55 #[.val (.ref a0), .val (.ref a1), .val (.ref a1)] [(.int (1 : Int32))])) _
      exact retN X_8 hx (t := .boolean) Bd.returns (by simp) (hb hby d2_55) hr
    · show QEIntInt Z a0 a1 b0 b1 k0 k1 w h0 n0 _ T_8.heap _
      rw [e_8]
      exact ⟨rfl, N_8, rfl⟩
theorem d3_34 : decode jdk_43_method_13_code 34 = .ok (.iconst 0, 1) := by decide +kernel
theorem d3_35 : decode jdk_43_method_13_code 35 = .ok (.ireturn, 1) := by decide +kernel
theorem ef_LBoolInt (m : MethodId) (a0 : Addr) (a1 : Addr) : entryFrame m #[(.ref a0), (.ref a1)] 3 = mkF m 0 #[.val (.ref a0), .val (.ref a1), .unset] [] := by first | (simp [entryFrame, mkF, argsToLocals, Value.category]; done) | rfl
def QLBoolInt (Z : State) (a0 : Addr) (a1 : Addr) (k0 : ClassId) (k1 : ClassId) (h0 : Heap) (n0 : Nat) (v : Option Value) (h : Heap) (L : List Loc) : Prop := v = some (.int (0 : Int32)) ∧ Fr n0 L ∧ h = h0
set_option maxRecDepth 65536 in
set_option maxHeartbeats 40000000 in
theorem rmLBoolInt (l : Launch) (Z : State) (av0 : Array Value) (hw : ∀ d ∈ tables_1, d.before av0 Z = true) (ws : List Jvm.Cond) (a0 : Addr) (a1 : Addr) (k0 : ClassId) (k1 : ClassId) (h0 : Heap) (n0 : Nat) (Z0 : n0 ≤ h0.size) (V0 : Arv Z h0 a0 k0 .byte (4 : Int32) [(.int (66 : Int32)), (.int (111 : Int32)), (.int (111 : Int32)), (.int (108 : Int32))] (.int 0)) (V1 : Arv Z h0 a1 k1 .byte (3 : Int32) [(.int (73 : Int32)), (.int (110 : Int32)), (.int (116 : Int32))] (.int 0)) :
    MetFree l (⟨"java/lang/StringLatin1", "equals", "([B[B)Z"⟩ : MethodName) (head1 (Jvm.Cond.code (⟨"java/lang/StringLatin1", "equals", "([B[B)Z"⟩ : MethodName) jdk_43_method_13_code 3 (some .boolean) :: ws) ({ frames := 0, cells := 0, slots := 0, locals := 0 } : Room)) (fun a U => a = #[(.ref a0), (.ref a1)] ∧ Z.Warmed39 U.vm ∧ U.heap = h0) (fun _ _ _ _ _ => True) (fun _ U o U' => ∃ v L, o = .returned v ∧ QLBoolInt Z a0 a1 k0 k1 h0 n0 v U'.heap L ∧ FrameEnd U o U' L ({ frames := 0, cells := 0, slots := 0, locals := 0 } : Room).cells ({ frames := 0, cells := 0, slots := 0, locals := 0 } : Room).slots) := by
  refine MetFree.of_bodySF (plainFor_of_name pn_3) hisR ?_
  intro p e s m args below meth c s₁ Bd hml0 hP hK
  obtain ⟨rfl, hZ, hh⟩ := hP
  have hx := Bd.exec
  have hby := Bd.bytes
  have hml : c.maxLocals = 3 := hml0
  have hown : s.vm.findClass "java/lang/StringLatin1" = some m.cls := findClass_of_methodNamed Bd.named
  have hnm := (name_of_methodNamed Bd.named Bd.method).1
  have X0 : Stand p l e ({ frames := 0, cells := 0, slots := 0, locals := 0 } : Room) s m #[(.ref a0), (.ref a1)] below meth c s₁ [] 0 0 := Stand.of_body Bd
  have e0 : s₁.heap = h0 := by rw [← hh, Bd.state]; rfl
  have N0 := Fr.nil n0
  have K0 : Keep h0 h0 [] := Keep.refl h0 []
  refine own_go (B := s₁.setTop (mkF m 0 #[.val (.ref a0), .val (.ref a1), .unset] [])) (fun t k => castTop (ef_LBoolInt m a0 a1) k) ?_
  refine own_go (B := s₁.setTop (mkF m 1 #[.val (.ref a0), .val (.ref a1), .unset] [(.ref a0)])) (fun t k => ?_) ?_
  · show Steps p.tables e below (s₁.setTop (mkF m 0 #[.val (.ref a0), .val (.ref a1), .unset] [])) _
    refine XS.aloadN X0.here hx rfl (hb hby d3_0) rfl rfl ?_
    exact k
  obtain ⟨cl_1, Ar_1, -, S_1, M_1, -, -⟩ := id V0
  refine own_go (B := s₁.setTop (mkF m 2 #[.val (.ref a0), .val (.ref a1), .unset] [(.int (4 : Int32))])) (fun t k => X0.arraylength hx (by rw [(e0 : _ = _)]; exact Ar_1.1) (State.isArrayOf_alike hZ.alike Ar_1.2.1) (g := (mkF m 1 #[.val (.ref a0), .val (.ref a1), .unset] [(.ref a0)])) rfl rfl (hb hby d3_1) t (by rw [len_of S_1 M_1]; exact k)) ?_
  refine own_go (B := s₁.setTop (mkF m 3 #[.val (.ref a0), .val (.ref a1), .unset] [(.ref a1), (.int (4 : Int32))])) (fun t k => ?_) ?_
  · show Steps p.tables e below (s₁.setTop (mkF m 2 #[.val (.ref a0), .val (.ref a1), .unset] [(.int (4 : Int32))])) _
    refine XS.aloadN X0.here hx rfl (hb hby d3_2) rfl rfl ?_
    exact k
  obtain ⟨cl_2, Ar_2, -, S_2, M_2, -, -⟩ := id V1
  refine own_go (B := s₁.setTop (mkF m 4 #[.val (.ref a0), .val (.ref a1), .unset] [(.int (3 : Int32)), (.int (4 : Int32))])) (fun t k => X0.arraylength hx (by rw [(e0 : _ = _)]; exact Ar_2.1) (State.isArrayOf_alike hZ.alike Ar_2.2.1) (g := (mkF m 3 #[.val (.ref a0), .val (.ref a1), .unset] [(.ref a1), (.int (4 : Int32))])) rfl rfl (hb hby d3_3) t (by rw [len_of S_2 M_2]; exact k)) ?_
  refine own_go (B := s₁.setTop (mkF m 34 #[.val (.ref a0), .val (.ref a1), .unset] [])) (fun t k => ?_) ?_
  · show Steps p.tables e below (s₁.setTop (mkF m 4 #[.val (.ref a0), .val (.ref a1), .unset] [(.int (3 : Int32)), (.int (4 : Int32))])) _
    refine XS.icmpYes X0.here hx rfl (pc0 := 4) (pc' := 34) rfl (hb hby d3_4) rfl (feq (by decide : ¬ ((4 : Int32) = (3 : Int32)))).2 (by decide) (by decide) ?_
    exact k
  refine own_go (B := s₁.setTop (mkF m 35 #[.val (.ref a0), .val (.ref a1), .unset] [(.int (0 : Int32))])) (fun t k => ?_) ?_
  · show Steps p.tables e below (s₁.setTop (mkF m 34 #[.val (.ref a0), .val (.ref a1), .unset] [])) _
    refine XS.iconst X0.here hx rfl (hb hby d3_34) ?_
    exact k
  obtain ⟨fs, hr, hrun, hended, hW, hsame⟩ := X0.leave (v := some (.int (0 : Int32))) (fun h => by rw [Bd.returns] at h; cases h)
  refine ⟨_, _, ?_, hrun, hended, _, _, rfl, ?_, ⟨_, rfl⟩, hW, hsame.mono (by decide) (by decide)⟩
  · show Steps p.tables e below (s₁.setTop (mkF m 35 #[.val (.ref a0), .val (.ref a1), .unset] [(.int (0 : Int32))])) _
    exact retN X0 hx (t := .boolean) Bd.returns (by simp) (hb hby d3_35) hr
  · show QLBoolInt Z a0 a1 k0 k1 h0 n0 _ s₁.heap _
    rw [e0]
    exact ⟨rfl, N0, rfl⟩
theorem d2_54 : decode jdk_42_method_66_code 54 = .ok (.iconst 0, 1) := by decide +kernel
theorem ef_EBoolInt (m : MethodId) (a0 : Addr) (a1 : Addr) : entryFrame m #[(.ref a0), (.ref a1)] 3 = mkF m 0 #[.val (.ref a0), .val (.ref a1), .unset] [] := by first | (simp [entryFrame, mkF, argsToLocals, Value.category]; done) | rfl
def QEBoolInt (Z : State) (a0 : Addr) (a1 : Addr) (b0 : Addr) (b1 : Addr) (k0 : ClassId) (k1 : ClassId) (w : Int32) (h0 : Heap) (n0 : Nat) (v : Option Value) (h : Heap) (L : List Loc) : Prop := v = some (.int (0 : Int32)) ∧ Fr n0 L ∧ h = h0
set_option maxRecDepth 65536 in
set_option maxHeartbeats 40000000 in
theorem rmEBoolInt (l : Launch) (Z : State) (av0 : Array Value) (hw : ∀ d ∈ tables_1, d.before av0 Z = true) (ws : List Jvm.Cond) (a0 : Addr) (a1 : Addr) (b0 : Addr) (b1 : Addr) (k0 : ClassId) (k1 : ClassId) (w : Int32) (h0 : Heap) (n0 : Nat) (Z0 : n0 ≤ h0.size) (E_a0 : Exa Z h0 a0 "java/lang/String") (F_coder_a0 : Fld Z h0 a0 "java/lang/String" "coder" "B" (.int (0 : Int32))) (F_value_a0 : Fld Z h0 a0 "java/lang/String" "value" "[B" (.ref b0)) (E_a1 : Exa Z h0 a1 "java/lang/String") (F_coder_a1 : Fld Z h0 a1 "java/lang/String" "coder" "B" (.int (0 : Int32))) (F_value_a1 : Fld Z h0 a1 "java/lang/String" "value" "[B" (.ref b1)) (V0 : Arv Z h0 b0 k0 .byte (4 : Int32) [(.int (66 : Int32)), (.int (111 : Int32)), (.int (111 : Int32)), (.int (108 : Int32))] (.int 0)) (V1 : Arv Z h0 b1 k1 .byte (3 : Int32) [(.int (73 : Int32)), (.int (110 : Int32)), (.int (116 : Int32))] (.int 0)) (S_COMPACT_STRINGS : Sta Z h0 "java/lang/String" "COMPACT_STRINGS" "Z" (.int w)) (hw0 : ¬ (w = (0 : Int32))) (hne : ¬ (a0 = a1)) :
    MetFree l (⟨"java/lang/String", "equals", "(Ljava/lang/Object;)Z"⟩ : MethodName) (head1 (Jvm.Cond.code (⟨"java/lang/String", "equals", "(Ljava/lang/Object;)Z"⟩ : MethodName) jdk_42_method_66_code 3 (some .boolean) :: ws) ({ frames := 1, cells := 0, slots := 0, locals := 14 } : Room)) (fun a U => a = #[(.ref a0), (.ref a1)] ∧ Z.Warmed39 U.vm ∧ U.heap = h0) (fun _ _ _ _ _ => True) (fun _ U o U' => ∃ v L, o = .returned v ∧ QEBoolInt Z a0 a1 b0 b1 k0 k1 w h0 n0 v U'.heap L ∧ FrameEnd U o U' L ({ frames := 1, cells := 0, slots := 0, locals := 14 } : Room).cells ({ frames := 1, cells := 0, slots := 0, locals := 14 } : Room).slots) := by
  refine MetFree.of_bodySF (plainFor_of_name pn_2) hisR ?_
  intro p e s m args below meth c s₁ Bd hml0 hP hK
  obtain ⟨rfl, hZ, hh⟩ := hP
  have hx := Bd.exec
  have hby := Bd.bytes
  have hml : c.maxLocals = 3 := hml0
  have hown : s.vm.findClass "java/lang/String" = some m.cls := findClass_of_methodNamed Bd.named
  have hnm := (name_of_methodNamed Bd.named Bd.method).1
  have X0 : Stand p l e ({ frames := 1, cells := 0, slots := 0, locals := 14 } : Room) s m #[(.ref a0), (.ref a1)] below meth c s₁ [] 0 0 := Stand.of_body Bd
  have e0 : s₁.heap = h0 := by rw [← hh, Bd.state]; rfl
  have N0 := Fr.nil n0
  have K0 : Keep h0 h0 [] := Keep.refl h0 []
  refine own_go (B := s₁.setTop (mkF m 0 #[.val (.ref a0), .val (.ref a1), .unset] [])) (fun t k => castTop (ef_EBoolInt m a0 a1) k) ?_
  refine own_go (B := s₁.setTop (mkF m 2 #[.val (.ref a0), .val (.ref a1), .unset] [(.ref a1), (.ref a0)])) (fun t k => ?_) ?_
  · show Steps p.tables e below (s₁.setTop (mkF m 0 #[.val (.ref a0), .val (.ref a1), .unset] [])) _
    refine XS.aloadN X0.here hx rfl (hb hby d2_0) rfl rfl ?_
    show Steps p.tables e below (s₁.setTop (mkF m 1 #[.val (.ref a0), .val (.ref a1), .unset] [(.ref a0)])) _
    refine XS.aloadN X0.here hx rfl (hb hby d2_1) rfl rfl ?_
    exact k
  refine own_go (B := s₁.setTop (mkF m 7 #[.val (.ref a0), .val (.ref a1), .unset] [])) (fun t k => ?_) ?_
  · show Steps p.tables e below (s₁.setTop (mkF m 2 #[.val (.ref a0), .val (.ref a1), .unset] [(.ref a1), (.ref a0)])) _
    refine Jvm.RoadKit.acmp (g := (mkF m 2 #[.val (.ref a0), .val (.ref a1), .unset] [(.ref a1), (.ref a0)])) X0 hx rfl rfl rfl (pc0 := 2) (pc' := 7) (same := false) rfl (hb hby d2_2) rfl (decide_eq_false fun q => hne (Value.ref.inj q)) (by decide) (by decide) ?_
    exact k
  refine own_go (B := s₁.setTop (mkF m 8 #[.val (.ref a0), .val (.ref a1), .unset] [(.ref a1)])) (fun t k => ?_) ?_
  · show Steps p.tables e below (s₁.setTop (mkF m 7 #[.val (.ref a0), .val (.ref a1), .unset] [])) _
    refine XS.aloadN X0.here hx rfl (hb hby d2_7) rfl rfl ?_
    exact k
  obtain ⟨T_1, X_1, e_1, st_1⟩ := instY X0 hx hZ hown (hw _ (List.mem_of_getElem? (i := 23) rfl)) e0 (Ins.self E_a1) (g := (mkF m 8 #[.val (.ref a0), .val (.ref a1), .unset] [(.ref a1)])) rfl rfl (hb hby d2_8)
  refine own_go (B := T_1.setTop (mkF m 11 #[.val (.ref a0), .val (.ref a1), .unset] [(.int (1 : Int32))])) (fun t k => st_1 t k) ?_
  refine own_go (B := T_1.setTop (mkF m 14 #[.val (.ref a0), .val (.ref a1), .unset] [])) (fun t k => ?_) ?_
  · show Steps p.tables e below (T_1.setTop (mkF m 11 #[.val (.ref a0), .val (.ref a1), .unset] [(.int (1 : Int32))])) _
    refine XS.ifNo X_1.here hx rfl (hb hby d2_11) rfl ((if0 _ _).trans (feq (by decide : ¬ ((1 : Int32) = (0 : Int32)))).1) ?_
    exact k
  refine own_go (B := T_1.setTop (mkF m 15 #[.val (.ref a0), .val (.ref a1), .unset] [(.ref a1)])) (fun t k => ?_) ?_
  · show Steps p.tables e below (T_1.setTop (mkF m 14 #[.val (.ref a0), .val (.ref a1), .unset] [])) _
    refine XS.aloadN X_1.here hx rfl (hb hby d2_14) rfl rfl ?_
    exact k
  obtain ⟨T_2, X_2, e_2, st_2⟩ := castY X_1 hx hZ hown (hw _ (List.mem_of_getElem? (i := 23) rfl)) e_1 (Ins.self E_a1) (g := (mkF m 15 #[.val (.ref a0), .val (.ref a1), .unset] [(.ref a1)])) rfl rfl (hb hby d2_15)
  refine own_go (B := T_2.setTop (mkF m 18 #[.val (.ref a0), .val (.ref a1), .unset] [(.ref a1)])) (fun t k => st_2 t k) ?_
  refine own_go (B := T_2.setTop (mkF m 19 #[.val (.ref a0), .val (.ref a1), .val (.ref a1)] [])) (fun t k => ?_) ?_
  · show Steps p.tables e below (T_2.setTop (mkF m 18 #[.val (.ref a0), .val (.ref a1), .unset] [(.ref a1)])) _
    refine XS.astoreN X_2.here hx rfl (hb hby d2_18) rfl rfl (l' := #[.val (.ref a0), .val (.ref a1), .val (.ref a1)]) rfl ?_
    exact k
  obtain ⟨T_3, X_3, e_3, st_3⟩ := getS2 X_2 hx hZ hown (host := "") (Or.inl (hw _ (List.mem_of_getElem? (i := 25) rfl))) Via.refl e_2 S_COMPACT_STRINGS (g := (mkF m 19 #[.val (.ref a0), .val (.ref a1), .val (.ref a1)] [])) rfl (hb hby d2_19)
  refine own_go (B := T_3.setTop (mkF m 22 #[.val (.ref a0), .val (.ref a1), .val (.ref a1)] [(.int w)])) (fun t k => st_3 t k) ?_
  refine own_go (B := T_3.setTop (mkF m 25 #[.val (.ref a0), .val (.ref a1), .val (.ref a1)] [])) (fun t k => ?_) ?_
  · show Steps p.tables e below (T_3.setTop (mkF m 22 #[.val (.ref a0), .val (.ref a1), .val (.ref a1)] [(.int w)])) _
    refine XS.ifNo X_3.here hx rfl (hb hby d2_22) rfl ((if0 _ _).trans (feq hw0).1) ?_
    exact k
  refine own_go (B := T_3.setTop (mkF m 26 #[.val (.ref a0), .val (.ref a1), .val (.ref a1)] [(.ref a0)])) (fun t k => ?_) ?_
  · show Steps p.tables e below (T_3.setTop (mkF m 25 #[.val (.ref a0), .val (.ref a1), .val (.ref a1)] [])) _
    refine XS.aloadN X_3.here hx rfl (hb hby d2_25) rfl rfl ?_
    exact k
  obtain ⟨T_4, X_4, e_4, st_4⟩ := getF X_3 hx hZ hown (host := "") (Or.inl (hw _ (List.mem_of_getElem? (i := 26) rfl))) Via.refl e_3 F_coder_a0 (g := (mkF m 26 #[.val (.ref a0), .val (.ref a1), .val (.ref a1)] [(.ref a0)])) rfl rfl (hb hby d2_26)
  refine own_go (B := T_4.setTop (mkF m 29 #[.val (.ref a0), .val (.ref a1), .val (.ref a1)] [(.int (0 : Int32))])) (fun t k => st_4 t k) ?_
  refine own_go (B := T_4.setTop (mkF m 30 #[.val (.ref a0), .val (.ref a1), .val (.ref a1)] [(.ref a1), (.int (0 : Int32))])) (fun t k => ?_) ?_
  · show Steps p.tables e below (T_4.setTop (mkF m 29 #[.val (.ref a0), .val (.ref a1), .val (.ref a1)] [(.int (0 : Int32))])) _
    refine XS.aloadN X_4.here hx rfl (hb hby d2_29) rfl rfl ?_
    exact k
  obtain ⟨T_5, X_5, e_5, st_5⟩ := getF X_4 hx hZ hown (host := "") (Or.inl (hw _ (List.mem_of_getElem? (i := 26) rfl))) Via.refl e_4 F_coder_a1 (g := (mkF m 30 #[.val (.ref a0), .val (.ref a1), .val (.ref a1)] [(.ref a1), (.int (0 : Int32))])) rfl rfl (hb hby d2_30)
  refine own_go (B := T_5.setTop (mkF m 33 #[.val (.ref a0), .val (.ref a1), .val (.ref a1)] [(.int (0 : Int32)), (.int (0 : Int32))])) (fun t k => st_5 t k) ?_
  refine own_go (B := T_5.setTop (mkF m 36 #[.val (.ref a0), .val (.ref a1), .val (.ref a1)] [])) (fun t k => ?_) ?_
  · show Steps p.tables e below (T_5.setTop (mkF m 33 #[.val (.ref a0), .val (.ref a1), .val (.ref a1)] [(.int (0 : Int32)), (.int (0 : Int32))])) _
    refine XS.icmpNo X_5.here hx rfl (hb hby d2_33) rfl (teq (by decide : (0 : Int32) = (0 : Int32))).2 ?_
    exact k
  refine own_go (B := T_5.setTop (mkF m 37 #[.val (.ref a0), .val (.ref a1), .val (.ref a1)] [(.ref a0)])) (fun t k => ?_) ?_
  · show Steps p.tables e below (T_5.setTop (mkF m 36 #[.val (.ref a0), .val (.ref a1), .val (.ref a1)] [])) _
    refine XS.aloadN X_5.here hx rfl (hb hby d2_36) rfl rfl ?_
    exact k
  obtain ⟨T_6, X_6, e_6, st_6⟩ := getF X_5 hx hZ hown (host := "") (Or.inl (hw _ (List.mem_of_getElem? (i := 27) rfl))) Via.refl e_5 F_value_a0 (g := (mkF m 37 #[.val (.ref a0), .val (.ref a1), .val (.ref a1)] [(.ref a0)])) rfl rfl (hb hby d2_37)
  refine own_go (B := T_6.setTop (mkF m 40 #[.val (.ref a0), .val (.ref a1), .val (.ref a1)] [(.ref b0)])) (fun t k => st_6 t k) ?_
  refine own_go (B := T_6.setTop (mkF m 41 #[.val (.ref a0), .val (.ref a1), .val (.ref a1)] [(.ref a1), (.ref b0)])) (fun t k => ?_) ?_
  · show Steps p.tables e below (T_6.setTop (mkF m 40 #[.val (.ref a0), .val (.ref a1), .val (.ref a1)] [(.ref b0)])) _
    refine XS.aloadN X_6.here hx rfl (hb hby d2_40) rfl rfl ?_
    exact k
  obtain ⟨T_7, X_7, e_7, st_7⟩ := getF X_6 hx hZ hown (host := "") (Or.inl (hw _ (List.mem_of_getElem? (i := 27) rfl))) Via.refl e_6 F_value_a1 (g := (mkF m 41 #[.val (.ref a0), .val (.ref a1), .val (.ref a1)] [(.ref a1), (.ref b0)])) rfl rfl (hb hby d2_41)
  refine own_go (B := T_7.setTop (mkF m 44 #[.val (.ref a0), .val (.ref a1), .val (.ref a1)] [(.ref b1), (.ref b0)])) (fun t k => st_7 t k) ?_
  obtain ⟨_, _, ⟨T_8, L_8, k_8, n_8⟩, -, X_8, ⟨Lc_8, hQ_8, l_8, y_8, z_8⟩, st_8⟩ := Jvm.LawKit.callS X_7 hx (y := (⟨"java/lang/StringLatin1", "equals", "([B[B)Z"⟩ : MethodName)) hown (mvT hZ (hw _ (List.mem_of_getElem? (i := 28) rfl))) (mvT hZ (hw _ (List.mem_of_getElem? (i := 29) rfl))) (mvT hZ (hw _ (List.mem_of_getElem? (i := 30) rfl))) (mvT hZ (hw _ (List.mem_of_getElem? (i := 31) rfl))) (by decide) (backOf (W := 0) (rmLBoolInt l Z av0 hw [] b0 b1 k0 k1 h0 n0 Z0 V0 V1) hZ (hw _ (List.mem_of_getElem? (i := 31) rfl)) (hw _ (List.mem_of_getElem? (i := 30) rfl)) (by decide) (by decide)) (g := (mkF m 44 #[.val (.ref a0), .val (.ref a1), .val (.ref a1)] [(.ref b1), (.ref b0)])) rfl (by rw [hml]; rfl) (argsL := [(.ref b0), (.ref b1)]) (rest := []) (lenOf pd_0 rfl) rfl (by show 2 * 0 + _ ≤ _; exact Nat.le_of_eq rfl) (hb hby d2_44) (fun _ _ => ⟨rfl, e_7, (by decide : 0 + 0 ≤ _), (by decide : 0 + 0 ≤ _)⟩)
  dsimp only [Pt.U, Pt.locs, Pt.cells, Pt.slots] at X_8 l_8 y_8 z_8 st_8 hQ_8
  subst l_8 y_8 z_8
  obtain ⟨rfl, N_8q, e_8⟩ := hQ_8
  have N_8 := Fr.app N0 N_8q
  refine own_go (B := T_8.setTop (mkF m 47 #[.val (.ref a0), .val (.ref a1), .val (.ref a1)] [(.int (0 : Int32))])) (fun t k => st_8 t k) ?_
  refine own_go (B := T_8.setTop (mkF m 54 #[.val (.ref a0), .val (.ref a1), .val (.ref a1)] [])) (fun t k => ?_) ?_
  · show Steps p.tables e below (T_8.setTop (mkF m 47 #[.val (.ref a0), .val (.ref a1), .val (.ref a1)] [(.int (0 : Int32))])) _
    refine XS.ifYes X_8.here hx rfl (pc0 := 47) (pc' := 54) rfl (hb hby d2_47) rfl ((if0 _ _).trans (teq (by decide : (0 : Int32) = (0 : Int32))).1) (by decide) (by decide) ?_
    exact k
  refine own_go (B := T_8.setTop (mkF m 55 #[.val (.ref a0), .val (.ref a1), .val (.ref a1)] [(.int (0 : Int32))])) (fun t k => ?_) ?_
  · show Steps p.tables e below (T_8.setTop (mkF m 54 #[.val (.ref a0), .val (.ref a1), .val (.ref a1)] [])) _
    refine XS.iconst X_8.here hx rfl (hb hby d2_54) ?_
    exact k
  obtain ⟨fs, hr, hrun, hended, hW, hsame⟩ := X_8.leave (v := some (.int (0 : Int32))) (fun h => by rw [Bd.returns] at h; cases h)
  refine ⟨_, _, ?_, hrun, hended, _, _, rfl, ?_, ⟨_, rfl⟩, hW, hsame.mono (by decide) (by decide)⟩
  · show Steps p.tables e below (T_8.setTop (mkF m 55 #[.val (.ref a0), .val (.ref a1), .val (.ref a1)] [(.int (0 : Int32))])) _
    exact retN X_8 hx (t := .boolean) Bd.returns (by simp) (hb hby d2_55) hr
  · show QEBoolInt Z a0 a1 b0 b1 k0 k1 w h0 n0 _ T_8.heap _
    rw [e_8]
    exact ⟨rfl, N_8, rfl⟩
theorem ef_LRealInt (m : MethodId) (a0 : Addr) (a1 : Addr) : entryFrame m #[(.ref a0), (.ref a1)] 3 = mkF m 0 #[.val (.ref a0), .val (.ref a1), .unset] [] := by first | (simp [entryFrame, mkF, argsToLocals, Value.category]; done) | rfl
def QLRealInt (Z : State) (a0 : Addr) (a1 : Addr) (k0 : ClassId) (k1 : ClassId) (h0 : Heap) (n0 : Nat) (v : Option Value) (h : Heap) (L : List Loc) : Prop := v = some (.int (0 : Int32)) ∧ Fr n0 L ∧ h = h0
set_option maxRecDepth 65536 in
set_option maxHeartbeats 40000000 in
theorem rmLRealInt (l : Launch) (Z : State) (av0 : Array Value) (hw : ∀ d ∈ tables_1, d.before av0 Z = true) (ws : List Jvm.Cond) (a0 : Addr) (a1 : Addr) (k0 : ClassId) (k1 : ClassId) (h0 : Heap) (n0 : Nat) (Z0 : n0 ≤ h0.size) (V0 : Arv Z h0 a0 k0 .byte (4 : Int32) [(.int (82 : Int32)), (.int (101 : Int32)), (.int (97 : Int32)), (.int (108 : Int32))] (.int 0)) (V1 : Arv Z h0 a1 k1 .byte (3 : Int32) [(.int (73 : Int32)), (.int (110 : Int32)), (.int (116 : Int32))] (.int 0)) :
    MetFree l (⟨"java/lang/StringLatin1", "equals", "([B[B)Z"⟩ : MethodName) (head1 (Jvm.Cond.code (⟨"java/lang/StringLatin1", "equals", "([B[B)Z"⟩ : MethodName) jdk_43_method_13_code 3 (some .boolean) :: ws) ({ frames := 0, cells := 0, slots := 0, locals := 0 } : Room)) (fun a U => a = #[(.ref a0), (.ref a1)] ∧ Z.Warmed39 U.vm ∧ U.heap = h0) (fun _ _ _ _ _ => True) (fun _ U o U' => ∃ v L, o = .returned v ∧ QLRealInt Z a0 a1 k0 k1 h0 n0 v U'.heap L ∧ FrameEnd U o U' L ({ frames := 0, cells := 0, slots := 0, locals := 0 } : Room).cells ({ frames := 0, cells := 0, slots := 0, locals := 0 } : Room).slots) := by
  refine MetFree.of_bodySF (plainFor_of_name pn_3) hisR ?_
  intro p e s m args below meth c s₁ Bd hml0 hP hK
  obtain ⟨rfl, hZ, hh⟩ := hP
  have hx := Bd.exec
  have hby := Bd.bytes
  have hml : c.maxLocals = 3 := hml0
  have hown : s.vm.findClass "java/lang/StringLatin1" = some m.cls := findClass_of_methodNamed Bd.named
  have hnm := (name_of_methodNamed Bd.named Bd.method).1
  have X0 : Stand p l e ({ frames := 0, cells := 0, slots := 0, locals := 0 } : Room) s m #[(.ref a0), (.ref a1)] below meth c s₁ [] 0 0 := Stand.of_body Bd
  have e0 : s₁.heap = h0 := by rw [← hh, Bd.state]; rfl
  have N0 := Fr.nil n0
  have K0 : Keep h0 h0 [] := Keep.refl h0 []
  refine own_go (B := s₁.setTop (mkF m 0 #[.val (.ref a0), .val (.ref a1), .unset] [])) (fun t k => castTop (ef_LRealInt m a0 a1) k) ?_
  refine own_go (B := s₁.setTop (mkF m 1 #[.val (.ref a0), .val (.ref a1), .unset] [(.ref a0)])) (fun t k => ?_) ?_
  · show Steps p.tables e below (s₁.setTop (mkF m 0 #[.val (.ref a0), .val (.ref a1), .unset] [])) _
    refine XS.aloadN X0.here hx rfl (hb hby d3_0) rfl rfl ?_
    exact k
  obtain ⟨cl_1, Ar_1, -, S_1, M_1, -, -⟩ := id V0
  refine own_go (B := s₁.setTop (mkF m 2 #[.val (.ref a0), .val (.ref a1), .unset] [(.int (4 : Int32))])) (fun t k => X0.arraylength hx (by rw [(e0 : _ = _)]; exact Ar_1.1) (State.isArrayOf_alike hZ.alike Ar_1.2.1) (g := (mkF m 1 #[.val (.ref a0), .val (.ref a1), .unset] [(.ref a0)])) rfl rfl (hb hby d3_1) t (by rw [len_of S_1 M_1]; exact k)) ?_
  refine own_go (B := s₁.setTop (mkF m 3 #[.val (.ref a0), .val (.ref a1), .unset] [(.ref a1), (.int (4 : Int32))])) (fun t k => ?_) ?_
  · show Steps p.tables e below (s₁.setTop (mkF m 2 #[.val (.ref a0), .val (.ref a1), .unset] [(.int (4 : Int32))])) _
    refine XS.aloadN X0.here hx rfl (hb hby d3_2) rfl rfl ?_
    exact k
  obtain ⟨cl_2, Ar_2, -, S_2, M_2, -, -⟩ := id V1
  refine own_go (B := s₁.setTop (mkF m 4 #[.val (.ref a0), .val (.ref a1), .unset] [(.int (3 : Int32)), (.int (4 : Int32))])) (fun t k => X0.arraylength hx (by rw [(e0 : _ = _)]; exact Ar_2.1) (State.isArrayOf_alike hZ.alike Ar_2.2.1) (g := (mkF m 3 #[.val (.ref a0), .val (.ref a1), .unset] [(.ref a1), (.int (4 : Int32))])) rfl rfl (hb hby d3_3) t (by rw [len_of S_2 M_2]; exact k)) ?_
  refine own_go (B := s₁.setTop (mkF m 34 #[.val (.ref a0), .val (.ref a1), .unset] [])) (fun t k => ?_) ?_
  · show Steps p.tables e below (s₁.setTop (mkF m 4 #[.val (.ref a0), .val (.ref a1), .unset] [(.int (3 : Int32)), (.int (4 : Int32))])) _
    refine XS.icmpYes X0.here hx rfl (pc0 := 4) (pc' := 34) rfl (hb hby d3_4) rfl (feq (by decide : ¬ ((4 : Int32) = (3 : Int32)))).2 (by decide) (by decide) ?_
    exact k
  refine own_go (B := s₁.setTop (mkF m 35 #[.val (.ref a0), .val (.ref a1), .unset] [(.int (0 : Int32))])) (fun t k => ?_) ?_
  · show Steps p.tables e below (s₁.setTop (mkF m 34 #[.val (.ref a0), .val (.ref a1), .unset] [])) _
    refine XS.iconst X0.here hx rfl (hb hby d3_34) ?_
    exact k
  obtain ⟨fs, hr, hrun, hended, hW, hsame⟩ := X0.leave (v := some (.int (0 : Int32))) (fun h => by rw [Bd.returns] at h; cases h)
  refine ⟨_, _, ?_, hrun, hended, _, _, rfl, ?_, ⟨_, rfl⟩, hW, hsame.mono (by decide) (by decide)⟩
  · show Steps p.tables e below (s₁.setTop (mkF m 35 #[.val (.ref a0), .val (.ref a1), .unset] [(.int (0 : Int32))])) _
    exact retN X0 hx (t := .boolean) Bd.returns (by simp) (hb hby d3_35) hr
  · show QLRealInt Z a0 a1 k0 k1 h0 n0 _ s₁.heap _
    rw [e0]
    exact ⟨rfl, N0, rfl⟩
theorem ef_ERealInt (m : MethodId) (a0 : Addr) (a1 : Addr) : entryFrame m #[(.ref a0), (.ref a1)] 3 = mkF m 0 #[.val (.ref a0), .val (.ref a1), .unset] [] := by first | (simp [entryFrame, mkF, argsToLocals, Value.category]; done) | rfl
def QERealInt (Z : State) (a0 : Addr) (a1 : Addr) (b0 : Addr) (b1 : Addr) (k0 : ClassId) (k1 : ClassId) (w : Int32) (h0 : Heap) (n0 : Nat) (v : Option Value) (h : Heap) (L : List Loc) : Prop := v = some (.int (0 : Int32)) ∧ Fr n0 L ∧ h = h0
set_option maxRecDepth 65536 in
set_option maxHeartbeats 40000000 in
theorem rmERealInt (l : Launch) (Z : State) (av0 : Array Value) (hw : ∀ d ∈ tables_1, d.before av0 Z = true) (ws : List Jvm.Cond) (a0 : Addr) (a1 : Addr) (b0 : Addr) (b1 : Addr) (k0 : ClassId) (k1 : ClassId) (w : Int32) (h0 : Heap) (n0 : Nat) (Z0 : n0 ≤ h0.size) (E_a0 : Exa Z h0 a0 "java/lang/String") (F_coder_a0 : Fld Z h0 a0 "java/lang/String" "coder" "B" (.int (0 : Int32))) (F_value_a0 : Fld Z h0 a0 "java/lang/String" "value" "[B" (.ref b0)) (E_a1 : Exa Z h0 a1 "java/lang/String") (F_coder_a1 : Fld Z h0 a1 "java/lang/String" "coder" "B" (.int (0 : Int32))) (F_value_a1 : Fld Z h0 a1 "java/lang/String" "value" "[B" (.ref b1)) (V0 : Arv Z h0 b0 k0 .byte (4 : Int32) [(.int (82 : Int32)), (.int (101 : Int32)), (.int (97 : Int32)), (.int (108 : Int32))] (.int 0)) (V1 : Arv Z h0 b1 k1 .byte (3 : Int32) [(.int (73 : Int32)), (.int (110 : Int32)), (.int (116 : Int32))] (.int 0)) (S_COMPACT_STRINGS : Sta Z h0 "java/lang/String" "COMPACT_STRINGS" "Z" (.int w)) (hw0 : ¬ (w = (0 : Int32))) (hne : ¬ (a0 = a1)) :
    MetFree l (⟨"java/lang/String", "equals", "(Ljava/lang/Object;)Z"⟩ : MethodName) (head1 (Jvm.Cond.code (⟨"java/lang/String", "equals", "(Ljava/lang/Object;)Z"⟩ : MethodName) jdk_42_method_66_code 3 (some .boolean) :: ws) ({ frames := 1, cells := 0, slots := 0, locals := 14 } : Room)) (fun a U => a = #[(.ref a0), (.ref a1)] ∧ Z.Warmed39 U.vm ∧ U.heap = h0) (fun _ _ _ _ _ => True) (fun _ U o U' => ∃ v L, o = .returned v ∧ QERealInt Z a0 a1 b0 b1 k0 k1 w h0 n0 v U'.heap L ∧ FrameEnd U o U' L ({ frames := 1, cells := 0, slots := 0, locals := 14 } : Room).cells ({ frames := 1, cells := 0, slots := 0, locals := 14 } : Room).slots) := by
  refine MetFree.of_bodySF (plainFor_of_name pn_2) hisR ?_
  intro p e s m args below meth c s₁ Bd hml0 hP hK
  obtain ⟨rfl, hZ, hh⟩ := hP
  have hx := Bd.exec
  have hby := Bd.bytes
  have hml : c.maxLocals = 3 := hml0
  have hown : s.vm.findClass "java/lang/String" = some m.cls := findClass_of_methodNamed Bd.named
  have hnm := (name_of_methodNamed Bd.named Bd.method).1
  have X0 : Stand p l e ({ frames := 1, cells := 0, slots := 0, locals := 14 } : Room) s m #[(.ref a0), (.ref a1)] below meth c s₁ [] 0 0 := Stand.of_body Bd
  have e0 : s₁.heap = h0 := by rw [← hh, Bd.state]; rfl
  have N0 := Fr.nil n0
  have K0 : Keep h0 h0 [] := Keep.refl h0 []
  refine own_go (B := s₁.setTop (mkF m 0 #[.val (.ref a0), .val (.ref a1), .unset] [])) (fun t k => castTop (ef_ERealInt m a0 a1) k) ?_
  refine own_go (B := s₁.setTop (mkF m 2 #[.val (.ref a0), .val (.ref a1), .unset] [(.ref a1), (.ref a0)])) (fun t k => ?_) ?_
  · show Steps p.tables e below (s₁.setTop (mkF m 0 #[.val (.ref a0), .val (.ref a1), .unset] [])) _
    refine XS.aloadN X0.here hx rfl (hb hby d2_0) rfl rfl ?_
    show Steps p.tables e below (s₁.setTop (mkF m 1 #[.val (.ref a0), .val (.ref a1), .unset] [(.ref a0)])) _
    refine XS.aloadN X0.here hx rfl (hb hby d2_1) rfl rfl ?_
    exact k
  refine own_go (B := s₁.setTop (mkF m 7 #[.val (.ref a0), .val (.ref a1), .unset] [])) (fun t k => ?_) ?_
  · show Steps p.tables e below (s₁.setTop (mkF m 2 #[.val (.ref a0), .val (.ref a1), .unset] [(.ref a1), (.ref a0)])) _
    refine Jvm.RoadKit.acmp (g := (mkF m 2 #[.val (.ref a0), .val (.ref a1), .unset] [(.ref a1), (.ref a0)])) X0 hx rfl rfl rfl (pc0 := 2) (pc' := 7) (same := false) rfl (hb hby d2_2) rfl (decide_eq_false fun q => hne (Value.ref.inj q)) (by decide) (by decide) ?_
    exact k
  refine own_go (B := s₁.setTop (mkF m 8 #[.val (.ref a0), .val (.ref a1), .unset] [(.ref a1)])) (fun t k => ?_) ?_
  · show Steps p.tables e below (s₁.setTop (mkF m 7 #[.val (.ref a0), .val (.ref a1), .unset] [])) _
    refine XS.aloadN X0.here hx rfl (hb hby d2_7) rfl rfl ?_
    exact k
  obtain ⟨T_1, X_1, e_1, st_1⟩ := instY X0 hx hZ hown (hw _ (List.mem_of_getElem? (i := 23) rfl)) e0 (Ins.self E_a1) (g := (mkF m 8 #[.val (.ref a0), .val (.ref a1), .unset] [(.ref a1)])) rfl rfl (hb hby d2_8)
  refine own_go (B := T_1.setTop (mkF m 11 #[.val (.ref a0), .val (.ref a1), .unset] [(.int (1 : Int32))])) (fun t k => st_1 t k) ?_
  refine own_go (B := T_1.setTop (mkF m 14 #[.val (.ref a0), .val (.ref a1), .unset] [])) (fun t k => ?_) ?_
  · show Steps p.tables e below (T_1.setTop (mkF m 11 #[.val (.ref a0), .val (.ref a1), .unset] [(.int (1 : Int32))])) _
    refine XS.ifNo X_1.here hx rfl (hb hby d2_11) rfl ((if0 _ _).trans (feq (by decide : ¬ ((1 : Int32) = (0 : Int32)))).1) ?_
    exact k
  refine own_go (B := T_1.setTop (mkF m 15 #[.val (.ref a0), .val (.ref a1), .unset] [(.ref a1)])) (fun t k => ?_) ?_
  · show Steps p.tables e below (T_1.setTop (mkF m 14 #[.val (.ref a0), .val (.ref a1), .unset] [])) _
    refine XS.aloadN X_1.here hx rfl (hb hby d2_14) rfl rfl ?_
    exact k
  obtain ⟨T_2, X_2, e_2, st_2⟩ := castY X_1 hx hZ hown (hw _ (List.mem_of_getElem? (i := 23) rfl)) e_1 (Ins.self E_a1) (g := (mkF m 15 #[.val (.ref a0), .val (.ref a1), .unset] [(.ref a1)])) rfl rfl (hb hby d2_15)
  refine own_go (B := T_2.setTop (mkF m 18 #[.val (.ref a0), .val (.ref a1), .unset] [(.ref a1)])) (fun t k => st_2 t k) ?_
  refine own_go (B := T_2.setTop (mkF m 19 #[.val (.ref a0), .val (.ref a1), .val (.ref a1)] [])) (fun t k => ?_) ?_
  · show Steps p.tables e below (T_2.setTop (mkF m 18 #[.val (.ref a0), .val (.ref a1), .unset] [(.ref a1)])) _
    refine XS.astoreN X_2.here hx rfl (hb hby d2_18) rfl rfl (l' := #[.val (.ref a0), .val (.ref a1), .val (.ref a1)]) rfl ?_
    exact k
  obtain ⟨T_3, X_3, e_3, st_3⟩ := getS2 X_2 hx hZ hown (host := "") (Or.inl (hw _ (List.mem_of_getElem? (i := 25) rfl))) Via.refl e_2 S_COMPACT_STRINGS (g := (mkF m 19 #[.val (.ref a0), .val (.ref a1), .val (.ref a1)] [])) rfl (hb hby d2_19)
  refine own_go (B := T_3.setTop (mkF m 22 #[.val (.ref a0), .val (.ref a1), .val (.ref a1)] [(.int w)])) (fun t k => st_3 t k) ?_
  refine own_go (B := T_3.setTop (mkF m 25 #[.val (.ref a0), .val (.ref a1), .val (.ref a1)] [])) (fun t k => ?_) ?_
  · show Steps p.tables e below (T_3.setTop (mkF m 22 #[.val (.ref a0), .val (.ref a1), .val (.ref a1)] [(.int w)])) _
    refine XS.ifNo X_3.here hx rfl (hb hby d2_22) rfl ((if0 _ _).trans (feq hw0).1) ?_
    exact k
  refine own_go (B := T_3.setTop (mkF m 26 #[.val (.ref a0), .val (.ref a1), .val (.ref a1)] [(.ref a0)])) (fun t k => ?_) ?_
  · show Steps p.tables e below (T_3.setTop (mkF m 25 #[.val (.ref a0), .val (.ref a1), .val (.ref a1)] [])) _
    refine XS.aloadN X_3.here hx rfl (hb hby d2_25) rfl rfl ?_
    exact k
  obtain ⟨T_4, X_4, e_4, st_4⟩ := getF X_3 hx hZ hown (host := "") (Or.inl (hw _ (List.mem_of_getElem? (i := 26) rfl))) Via.refl e_3 F_coder_a0 (g := (mkF m 26 #[.val (.ref a0), .val (.ref a1), .val (.ref a1)] [(.ref a0)])) rfl rfl (hb hby d2_26)
  refine own_go (B := T_4.setTop (mkF m 29 #[.val (.ref a0), .val (.ref a1), .val (.ref a1)] [(.int (0 : Int32))])) (fun t k => st_4 t k) ?_
  refine own_go (B := T_4.setTop (mkF m 30 #[.val (.ref a0), .val (.ref a1), .val (.ref a1)] [(.ref a1), (.int (0 : Int32))])) (fun t k => ?_) ?_
  · show Steps p.tables e below (T_4.setTop (mkF m 29 #[.val (.ref a0), .val (.ref a1), .val (.ref a1)] [(.int (0 : Int32))])) _
    refine XS.aloadN X_4.here hx rfl (hb hby d2_29) rfl rfl ?_
    exact k
  obtain ⟨T_5, X_5, e_5, st_5⟩ := getF X_4 hx hZ hown (host := "") (Or.inl (hw _ (List.mem_of_getElem? (i := 26) rfl))) Via.refl e_4 F_coder_a1 (g := (mkF m 30 #[.val (.ref a0), .val (.ref a1), .val (.ref a1)] [(.ref a1), (.int (0 : Int32))])) rfl rfl (hb hby d2_30)
  refine own_go (B := T_5.setTop (mkF m 33 #[.val (.ref a0), .val (.ref a1), .val (.ref a1)] [(.int (0 : Int32)), (.int (0 : Int32))])) (fun t k => st_5 t k) ?_
  refine own_go (B := T_5.setTop (mkF m 36 #[.val (.ref a0), .val (.ref a1), .val (.ref a1)] [])) (fun t k => ?_) ?_
  · show Steps p.tables e below (T_5.setTop (mkF m 33 #[.val (.ref a0), .val (.ref a1), .val (.ref a1)] [(.int (0 : Int32)), (.int (0 : Int32))])) _
    refine XS.icmpNo X_5.here hx rfl (hb hby d2_33) rfl (teq (by decide : (0 : Int32) = (0 : Int32))).2 ?_
    exact k
  refine own_go (B := T_5.setTop (mkF m 37 #[.val (.ref a0), .val (.ref a1), .val (.ref a1)] [(.ref a0)])) (fun t k => ?_) ?_
  · show Steps p.tables e below (T_5.setTop (mkF m 36 #[.val (.ref a0), .val (.ref a1), .val (.ref a1)] [])) _
    refine XS.aloadN X_5.here hx rfl (hb hby d2_36) rfl rfl ?_
    exact k
  obtain ⟨T_6, X_6, e_6, st_6⟩ := getF X_5 hx hZ hown (host := "") (Or.inl (hw _ (List.mem_of_getElem? (i := 27) rfl))) Via.refl e_5 F_value_a0 (g := (mkF m 37 #[.val (.ref a0), .val (.ref a1), .val (.ref a1)] [(.ref a0)])) rfl rfl (hb hby d2_37)
  refine own_go (B := T_6.setTop (mkF m 40 #[.val (.ref a0), .val (.ref a1), .val (.ref a1)] [(.ref b0)])) (fun t k => st_6 t k) ?_
  refine own_go (B := T_6.setTop (mkF m 41 #[.val (.ref a0), .val (.ref a1), .val (.ref a1)] [(.ref a1), (.ref b0)])) (fun t k => ?_) ?_
  · show Steps p.tables e below (T_6.setTop (mkF m 40 #[.val (.ref a0), .val (.ref a1), .val (.ref a1)] [(.ref b0)])) _
    refine XS.aloadN X_6.here hx rfl (hb hby d2_40) rfl rfl ?_
    exact k
  obtain ⟨T_7, X_7, e_7, st_7⟩ := getF X_6 hx hZ hown (host := "") (Or.inl (hw _ (List.mem_of_getElem? (i := 27) rfl))) Via.refl e_6 F_value_a1 (g := (mkF m 41 #[.val (.ref a0), .val (.ref a1), .val (.ref a1)] [(.ref a1), (.ref b0)])) rfl rfl (hb hby d2_41)
  refine own_go (B := T_7.setTop (mkF m 44 #[.val (.ref a0), .val (.ref a1), .val (.ref a1)] [(.ref b1), (.ref b0)])) (fun t k => st_7 t k) ?_
  obtain ⟨_, _, ⟨T_8, L_8, k_8, n_8⟩, -, X_8, ⟨Lc_8, hQ_8, l_8, y_8, z_8⟩, st_8⟩ := Jvm.LawKit.callS X_7 hx (y := (⟨"java/lang/StringLatin1", "equals", "([B[B)Z"⟩ : MethodName)) hown (mvT hZ (hw _ (List.mem_of_getElem? (i := 28) rfl))) (mvT hZ (hw _ (List.mem_of_getElem? (i := 29) rfl))) (mvT hZ (hw _ (List.mem_of_getElem? (i := 30) rfl))) (mvT hZ (hw _ (List.mem_of_getElem? (i := 31) rfl))) (by decide) (backOf (W := 0) (rmLRealInt l Z av0 hw [] b0 b1 k0 k1 h0 n0 Z0 V0 V1) hZ (hw _ (List.mem_of_getElem? (i := 31) rfl)) (hw _ (List.mem_of_getElem? (i := 30) rfl)) (by decide) (by decide)) (g := (mkF m 44 #[.val (.ref a0), .val (.ref a1), .val (.ref a1)] [(.ref b1), (.ref b0)])) rfl (by rw [hml]; rfl) (argsL := [(.ref b0), (.ref b1)]) (rest := []) (lenOf pd_0 rfl) rfl (by show 2 * 0 + _ ≤ _; exact Nat.le_of_eq rfl) (hb hby d2_44) (fun _ _ => ⟨rfl, e_7, (by decide : 0 + 0 ≤ _), (by decide : 0 + 0 ≤ _)⟩)
  dsimp only [Pt.U, Pt.locs, Pt.cells, Pt.slots] at X_8 l_8 y_8 z_8 st_8 hQ_8
  subst l_8 y_8 z_8
  obtain ⟨rfl, N_8q, e_8⟩ := hQ_8
  have N_8 := Fr.app N0 N_8q
  refine own_go (B := T_8.setTop (mkF m 47 #[.val (.ref a0), .val (.ref a1), .val (.ref a1)] [(.int (0 : Int32))])) (fun t k => st_8 t k) ?_
  refine own_go (B := T_8.setTop (mkF m 54 #[.val (.ref a0), .val (.ref a1), .val (.ref a1)] [])) (fun t k => ?_) ?_
  · show Steps p.tables e below (T_8.setTop (mkF m 47 #[.val (.ref a0), .val (.ref a1), .val (.ref a1)] [(.int (0 : Int32))])) _
    refine XS.ifYes X_8.here hx rfl (pc0 := 47) (pc' := 54) rfl (hb hby d2_47) rfl ((if0 _ _).trans (teq (by decide : (0 : Int32) = (0 : Int32))).1) (by decide) (by decide) ?_
    exact k
  refine own_go (B := T_8.setTop (mkF m 55 #[.val (.ref a0), .val (.ref a1), .val (.ref a1)] [(.int (0 : Int32))])) (fun t k => ?_) ?_
  · show Steps p.tables e below (T_8.setTop (mkF m 54 #[.val (.ref a0), .val (.ref a1), .val (.ref a1)] [])) _
    refine XS.iconst X_8.here hx rfl (hb hby d2_54) ?_
    exact k
  obtain ⟨fs, hr, hrun, hended, hW, hsame⟩ := X_8.leave (v := some (.int (0 : Int32))) (fun h => by rw [Bd.returns] at h; cases h)
  refine ⟨_, _, ?_, hrun, hended, _, _, rfl, ?_, ⟨_, rfl⟩, hW, hsame.mono (by decide) (by decide)⟩
  · show Steps p.tables e below (T_8.setTop (mkF m 55 #[.val (.ref a0), .val (.ref a1), .val (.ref a1)] [(.int (0 : Int32))])) _
    exact retN X_8 hx (t := .boolean) Bd.returns (by simp) (hb hby d2_55) hr
  · show QERealInt Z a0 a1 b0 b1 k0 k1 w h0 n0 _ T_8.heap _
    rw [e_8]
    exact ⟨rfl, N_8, rfl⟩
theorem ef_LStringInt (m : MethodId) (a0 : Addr) (a1 : Addr) : entryFrame m #[(.ref a0), (.ref a1)] 3 = mkF m 0 #[.val (.ref a0), .val (.ref a1), .unset] [] := by first | (simp [entryFrame, mkF, argsToLocals, Value.category]; done) | rfl
def QLStringInt (Z : State) (a0 : Addr) (a1 : Addr) (k0 : ClassId) (k1 : ClassId) (h0 : Heap) (n0 : Nat) (v : Option Value) (h : Heap) (L : List Loc) : Prop := v = some (.int (0 : Int32)) ∧ Fr n0 L ∧ h = h0
set_option maxRecDepth 65536 in
set_option maxHeartbeats 40000000 in
theorem rmLStringInt (l : Launch) (Z : State) (av0 : Array Value) (hw : ∀ d ∈ tables_1, d.before av0 Z = true) (ws : List Jvm.Cond) (a0 : Addr) (a1 : Addr) (k0 : ClassId) (k1 : ClassId) (h0 : Heap) (n0 : Nat) (Z0 : n0 ≤ h0.size) (V0 : Arv Z h0 a0 k0 .byte (6 : Int32) [(.int (83 : Int32)), (.int (116 : Int32)), (.int (114 : Int32)), (.int (105 : Int32)), (.int (110 : Int32)), (.int (103 : Int32))] (.int 0)) (V1 : Arv Z h0 a1 k1 .byte (3 : Int32) [(.int (73 : Int32)), (.int (110 : Int32)), (.int (116 : Int32))] (.int 0)) :
    MetFree l (⟨"java/lang/StringLatin1", "equals", "([B[B)Z"⟩ : MethodName) (head1 (Jvm.Cond.code (⟨"java/lang/StringLatin1", "equals", "([B[B)Z"⟩ : MethodName) jdk_43_method_13_code 3 (some .boolean) :: ws) ({ frames := 0, cells := 0, slots := 0, locals := 0 } : Room)) (fun a U => a = #[(.ref a0), (.ref a1)] ∧ Z.Warmed39 U.vm ∧ U.heap = h0) (fun _ _ _ _ _ => True) (fun _ U o U' => ∃ v L, o = .returned v ∧ QLStringInt Z a0 a1 k0 k1 h0 n0 v U'.heap L ∧ FrameEnd U o U' L ({ frames := 0, cells := 0, slots := 0, locals := 0 } : Room).cells ({ frames := 0, cells := 0, slots := 0, locals := 0 } : Room).slots) := by
  refine MetFree.of_bodySF (plainFor_of_name pn_3) hisR ?_
  intro p e s m args below meth c s₁ Bd hml0 hP hK
  obtain ⟨rfl, hZ, hh⟩ := hP
  have hx := Bd.exec
  have hby := Bd.bytes
  have hml : c.maxLocals = 3 := hml0
  have hown : s.vm.findClass "java/lang/StringLatin1" = some m.cls := findClass_of_methodNamed Bd.named
  have hnm := (name_of_methodNamed Bd.named Bd.method).1
  have X0 : Stand p l e ({ frames := 0, cells := 0, slots := 0, locals := 0 } : Room) s m #[(.ref a0), (.ref a1)] below meth c s₁ [] 0 0 := Stand.of_body Bd
  have e0 : s₁.heap = h0 := by rw [← hh, Bd.state]; rfl
  have N0 := Fr.nil n0
  have K0 : Keep h0 h0 [] := Keep.refl h0 []
  refine own_go (B := s₁.setTop (mkF m 0 #[.val (.ref a0), .val (.ref a1), .unset] [])) (fun t k => castTop (ef_LStringInt m a0 a1) k) ?_
  refine own_go (B := s₁.setTop (mkF m 1 #[.val (.ref a0), .val (.ref a1), .unset] [(.ref a0)])) (fun t k => ?_) ?_
  · show Steps p.tables e below (s₁.setTop (mkF m 0 #[.val (.ref a0), .val (.ref a1), .unset] [])) _
    refine XS.aloadN X0.here hx rfl (hb hby d3_0) rfl rfl ?_
    exact k
  obtain ⟨cl_1, Ar_1, -, S_1, M_1, -, -⟩ := id V0
  refine own_go (B := s₁.setTop (mkF m 2 #[.val (.ref a0), .val (.ref a1), .unset] [(.int (6 : Int32))])) (fun t k => X0.arraylength hx (by rw [(e0 : _ = _)]; exact Ar_1.1) (State.isArrayOf_alike hZ.alike Ar_1.2.1) (g := (mkF m 1 #[.val (.ref a0), .val (.ref a1), .unset] [(.ref a0)])) rfl rfl (hb hby d3_1) t (by rw [len_of S_1 M_1]; exact k)) ?_
  refine own_go (B := s₁.setTop (mkF m 3 #[.val (.ref a0), .val (.ref a1), .unset] [(.ref a1), (.int (6 : Int32))])) (fun t k => ?_) ?_
  · show Steps p.tables e below (s₁.setTop (mkF m 2 #[.val (.ref a0), .val (.ref a1), .unset] [(.int (6 : Int32))])) _
    refine XS.aloadN X0.here hx rfl (hb hby d3_2) rfl rfl ?_
    exact k
  obtain ⟨cl_2, Ar_2, -, S_2, M_2, -, -⟩ := id V1
  refine own_go (B := s₁.setTop (mkF m 4 #[.val (.ref a0), .val (.ref a1), .unset] [(.int (3 : Int32)), (.int (6 : Int32))])) (fun t k => X0.arraylength hx (by rw [(e0 : _ = _)]; exact Ar_2.1) (State.isArrayOf_alike hZ.alike Ar_2.2.1) (g := (mkF m 3 #[.val (.ref a0), .val (.ref a1), .unset] [(.ref a1), (.int (6 : Int32))])) rfl rfl (hb hby d3_3) t (by rw [len_of S_2 M_2]; exact k)) ?_
  refine own_go (B := s₁.setTop (mkF m 34 #[.val (.ref a0), .val (.ref a1), .unset] [])) (fun t k => ?_) ?_
  · show Steps p.tables e below (s₁.setTop (mkF m 4 #[.val (.ref a0), .val (.ref a1), .unset] [(.int (3 : Int32)), (.int (6 : Int32))])) _
    refine XS.icmpYes X0.here hx rfl (pc0 := 4) (pc' := 34) rfl (hb hby d3_4) rfl (feq (by decide : ¬ ((6 : Int32) = (3 : Int32)))).2 (by decide) (by decide) ?_
    exact k
  refine own_go (B := s₁.setTop (mkF m 35 #[.val (.ref a0), .val (.ref a1), .unset] [(.int (0 : Int32))])) (fun t k => ?_) ?_
  · show Steps p.tables e below (s₁.setTop (mkF m 34 #[.val (.ref a0), .val (.ref a1), .unset] [])) _
    refine XS.iconst X0.here hx rfl (hb hby d3_34) ?_
    exact k
  obtain ⟨fs, hr, hrun, hended, hW, hsame⟩ := X0.leave (v := some (.int (0 : Int32))) (fun h => by rw [Bd.returns] at h; cases h)
  refine ⟨_, _, ?_, hrun, hended, _, _, rfl, ?_, ⟨_, rfl⟩, hW, hsame.mono (by decide) (by decide)⟩
  · show Steps p.tables e below (s₁.setTop (mkF m 35 #[.val (.ref a0), .val (.ref a1), .unset] [(.int (0 : Int32))])) _
    exact retN X0 hx (t := .boolean) Bd.returns (by simp) (hb hby d3_35) hr
  · show QLStringInt Z a0 a1 k0 k1 h0 n0 _ s₁.heap _
    rw [e0]
    exact ⟨rfl, N0, rfl⟩
theorem ef_EStringInt (m : MethodId) (a0 : Addr) (a1 : Addr) : entryFrame m #[(.ref a0), (.ref a1)] 3 = mkF m 0 #[.val (.ref a0), .val (.ref a1), .unset] [] := by first | (simp [entryFrame, mkF, argsToLocals, Value.category]; done) | rfl
def QEStringInt (Z : State) (a0 : Addr) (a1 : Addr) (b0 : Addr) (b1 : Addr) (k0 : ClassId) (k1 : ClassId) (w : Int32) (h0 : Heap) (n0 : Nat) (v : Option Value) (h : Heap) (L : List Loc) : Prop := v = some (.int (0 : Int32)) ∧ Fr n0 L ∧ h = h0
set_option maxRecDepth 65536 in
set_option maxHeartbeats 40000000 in
theorem rmEStringInt (l : Launch) (Z : State) (av0 : Array Value) (hw : ∀ d ∈ tables_1, d.before av0 Z = true) (ws : List Jvm.Cond) (a0 : Addr) (a1 : Addr) (b0 : Addr) (b1 : Addr) (k0 : ClassId) (k1 : ClassId) (w : Int32) (h0 : Heap) (n0 : Nat) (Z0 : n0 ≤ h0.size) (E_a0 : Exa Z h0 a0 "java/lang/String") (F_coder_a0 : Fld Z h0 a0 "java/lang/String" "coder" "B" (.int (0 : Int32))) (F_value_a0 : Fld Z h0 a0 "java/lang/String" "value" "[B" (.ref b0)) (E_a1 : Exa Z h0 a1 "java/lang/String") (F_coder_a1 : Fld Z h0 a1 "java/lang/String" "coder" "B" (.int (0 : Int32))) (F_value_a1 : Fld Z h0 a1 "java/lang/String" "value" "[B" (.ref b1)) (V0 : Arv Z h0 b0 k0 .byte (6 : Int32) [(.int (83 : Int32)), (.int (116 : Int32)), (.int (114 : Int32)), (.int (105 : Int32)), (.int (110 : Int32)), (.int (103 : Int32))] (.int 0)) (V1 : Arv Z h0 b1 k1 .byte (3 : Int32) [(.int (73 : Int32)), (.int (110 : Int32)), (.int (116 : Int32))] (.int 0)) (S_COMPACT_STRINGS : Sta Z h0 "java/lang/String" "COMPACT_STRINGS" "Z" (.int w)) (hw0 : ¬ (w = (0 : Int32))) (hne : ¬ (a0 = a1)) :
    MetFree l (⟨"java/lang/String", "equals", "(Ljava/lang/Object;)Z"⟩ : MethodName) (head1 (Jvm.Cond.code (⟨"java/lang/String", "equals", "(Ljava/lang/Object;)Z"⟩ : MethodName) jdk_42_method_66_code 3 (some .boolean) :: ws) ({ frames := 1, cells := 0, slots := 0, locals := 14 } : Room)) (fun a U => a = #[(.ref a0), (.ref a1)] ∧ Z.Warmed39 U.vm ∧ U.heap = h0) (fun _ _ _ _ _ => True) (fun _ U o U' => ∃ v L, o = .returned v ∧ QEStringInt Z a0 a1 b0 b1 k0 k1 w h0 n0 v U'.heap L ∧ FrameEnd U o U' L ({ frames := 1, cells := 0, slots := 0, locals := 14 } : Room).cells ({ frames := 1, cells := 0, slots := 0, locals := 14 } : Room).slots) := by
  refine MetFree.of_bodySF (plainFor_of_name pn_2) hisR ?_
  intro p e s m args below meth c s₁ Bd hml0 hP hK
  obtain ⟨rfl, hZ, hh⟩ := hP
  have hx := Bd.exec
  have hby := Bd.bytes
  have hml : c.maxLocals = 3 := hml0
  have hown : s.vm.findClass "java/lang/String" = some m.cls := findClass_of_methodNamed Bd.named
  have hnm := (name_of_methodNamed Bd.named Bd.method).1
  have X0 : Stand p l e ({ frames := 1, cells := 0, slots := 0, locals := 14 } : Room) s m #[(.ref a0), (.ref a1)] below meth c s₁ [] 0 0 := Stand.of_body Bd
  have e0 : s₁.heap = h0 := by rw [← hh, Bd.state]; rfl
  have N0 := Fr.nil n0
  have K0 : Keep h0 h0 [] := Keep.refl h0 []
  refine own_go (B := s₁.setTop (mkF m 0 #[.val (.ref a0), .val (.ref a1), .unset] [])) (fun t k => castTop (ef_EStringInt m a0 a1) k) ?_
  refine own_go (B := s₁.setTop (mkF m 2 #[.val (.ref a0), .val (.ref a1), .unset] [(.ref a1), (.ref a0)])) (fun t k => ?_) ?_
  · show Steps p.tables e below (s₁.setTop (mkF m 0 #[.val (.ref a0), .val (.ref a1), .unset] [])) _
    refine XS.aloadN X0.here hx rfl (hb hby d2_0) rfl rfl ?_
    show Steps p.tables e below (s₁.setTop (mkF m 1 #[.val (.ref a0), .val (.ref a1), .unset] [(.ref a0)])) _
    refine XS.aloadN X0.here hx rfl (hb hby d2_1) rfl rfl ?_
    exact k
  refine own_go (B := s₁.setTop (mkF m 7 #[.val (.ref a0), .val (.ref a1), .unset] [])) (fun t k => ?_) ?_
  · show Steps p.tables e below (s₁.setTop (mkF m 2 #[.val (.ref a0), .val (.ref a1), .unset] [(.ref a1), (.ref a0)])) _
    refine Jvm.RoadKit.acmp (g := (mkF m 2 #[.val (.ref a0), .val (.ref a1), .unset] [(.ref a1), (.ref a0)])) X0 hx rfl rfl rfl (pc0 := 2) (pc' := 7) (same := false) rfl (hb hby d2_2) rfl (decide_eq_false fun q => hne (Value.ref.inj q)) (by decide) (by decide) ?_
    exact k
  refine own_go (B := s₁.setTop (mkF m 8 #[.val (.ref a0), .val (.ref a1), .unset] [(.ref a1)])) (fun t k => ?_) ?_
  · show Steps p.tables e below (s₁.setTop (mkF m 7 #[.val (.ref a0), .val (.ref a1), .unset] [])) _
    refine XS.aloadN X0.here hx rfl (hb hby d2_7) rfl rfl ?_
    exact k
  obtain ⟨T_1, X_1, e_1, st_1⟩ := instY X0 hx hZ hown (hw _ (List.mem_of_getElem? (i := 23) rfl)) e0 (Ins.self E_a1) (g := (mkF m 8 #[.val (.ref a0), .val (.ref a1), .unset] [(.ref a1)])) rfl rfl (hb hby d2_8)
  refine own_go (B := T_1.setTop (mkF m 11 #[.val (.ref a0), .val (.ref a1), .unset] [(.int (1 : Int32))])) (fun t k => st_1 t k) ?_
  refine own_go (B := T_1.setTop (mkF m 14 #[.val (.ref a0), .val (.ref a1), .unset] [])) (fun t k => ?_) ?_
  · show Steps p.tables e below (T_1.setTop (mkF m 11 #[.val (.ref a0), .val (.ref a1), .unset] [(.int (1 : Int32))])) _
    refine XS.ifNo X_1.here hx rfl (hb hby d2_11) rfl ((if0 _ _).trans (feq (by decide : ¬ ((1 : Int32) = (0 : Int32)))).1) ?_
    exact k
  refine own_go (B := T_1.setTop (mkF m 15 #[.val (.ref a0), .val (.ref a1), .unset] [(.ref a1)])) (fun t k => ?_) ?_
  · show Steps p.tables e below (T_1.setTop (mkF m 14 #[.val (.ref a0), .val (.ref a1), .unset] [])) _
    refine XS.aloadN X_1.here hx rfl (hb hby d2_14) rfl rfl ?_
    exact k
  obtain ⟨T_2, X_2, e_2, st_2⟩ := castY X_1 hx hZ hown (hw _ (List.mem_of_getElem? (i := 23) rfl)) e_1 (Ins.self E_a1) (g := (mkF m 15 #[.val (.ref a0), .val (.ref a1), .unset] [(.ref a1)])) rfl rfl (hb hby d2_15)
  refine own_go (B := T_2.setTop (mkF m 18 #[.val (.ref a0), .val (.ref a1), .unset] [(.ref a1)])) (fun t k => st_2 t k) ?_
  refine own_go (B := T_2.setTop (mkF m 19 #[.val (.ref a0), .val (.ref a1), .val (.ref a1)] [])) (fun t k => ?_) ?_
  · show Steps p.tables e below (T_2.setTop (mkF m 18 #[.val (.ref a0), .val (.ref a1), .unset] [(.ref a1)])) _
    refine XS.astoreN X_2.here hx rfl (hb hby d2_18) rfl rfl (l' := #[.val (.ref a0), .val (.ref a1), .val (.ref a1)]) rfl ?_
    exact k
  obtain ⟨T_3, X_3, e_3, st_3⟩ := getS2 X_2 hx hZ hown (host := "") (Or.inl (hw _ (List.mem_of_getElem? (i := 25) rfl))) Via.refl e_2 S_COMPACT_STRINGS (g := (mkF m 19 #[.val (.ref a0), .val (.ref a1), .val (.ref a1)] [])) rfl (hb hby d2_19)
  refine own_go (B := T_3.setTop (mkF m 22 #[.val (.ref a0), .val (.ref a1), .val (.ref a1)] [(.int w)])) (fun t k => st_3 t k) ?_
  refine own_go (B := T_3.setTop (mkF m 25 #[.val (.ref a0), .val (.ref a1), .val (.ref a1)] [])) (fun t k => ?_) ?_
  · show Steps p.tables e below (T_3.setTop (mkF m 22 #[.val (.ref a0), .val (.ref a1), .val (.ref a1)] [(.int w)])) _
    refine XS.ifNo X_3.here hx rfl (hb hby d2_22) rfl ((if0 _ _).trans (feq hw0).1) ?_
    exact k
  refine own_go (B := T_3.setTop (mkF m 26 #[.val (.ref a0), .val (.ref a1), .val (.ref a1)] [(.ref a0)])) (fun t k => ?_) ?_
  · show Steps p.tables e below (T_3.setTop (mkF m 25 #[.val (.ref a0), .val (.ref a1), .val (.ref a1)] [])) _
    refine XS.aloadN X_3.here hx rfl (hb hby d2_25) rfl rfl ?_
    exact k
  obtain ⟨T_4, X_4, e_4, st_4⟩ := getF X_3 hx hZ hown (host := "") (Or.inl (hw _ (List.mem_of_getElem? (i := 26) rfl))) Via.refl e_3 F_coder_a0 (g := (mkF m 26 #[.val (.ref a0), .val (.ref a1), .val (.ref a1)] [(.ref a0)])) rfl rfl (hb hby d2_26)
  refine own_go (B := T_4.setTop (mkF m 29 #[.val (.ref a0), .val (.ref a1), .val (.ref a1)] [(.int (0 : Int32))])) (fun t k => st_4 t k) ?_
  refine own_go (B := T_4.setTop (mkF m 30 #[.val (.ref a0), .val (.ref a1), .val (.ref a1)] [(.ref a1), (.int (0 : Int32))])) (fun t k => ?_) ?_
  · show Steps p.tables e below (T_4.setTop (mkF m 29 #[.val (.ref a0), .val (.ref a1), .val (.ref a1)] [(.int (0 : Int32))])) _
    refine XS.aloadN X_4.here hx rfl (hb hby d2_29) rfl rfl ?_
    exact k
  obtain ⟨T_5, X_5, e_5, st_5⟩ := getF X_4 hx hZ hown (host := "") (Or.inl (hw _ (List.mem_of_getElem? (i := 26) rfl))) Via.refl e_4 F_coder_a1 (g := (mkF m 30 #[.val (.ref a0), .val (.ref a1), .val (.ref a1)] [(.ref a1), (.int (0 : Int32))])) rfl rfl (hb hby d2_30)
  refine own_go (B := T_5.setTop (mkF m 33 #[.val (.ref a0), .val (.ref a1), .val (.ref a1)] [(.int (0 : Int32)), (.int (0 : Int32))])) (fun t k => st_5 t k) ?_
  refine own_go (B := T_5.setTop (mkF m 36 #[.val (.ref a0), .val (.ref a1), .val (.ref a1)] [])) (fun t k => ?_) ?_
  · show Steps p.tables e below (T_5.setTop (mkF m 33 #[.val (.ref a0), .val (.ref a1), .val (.ref a1)] [(.int (0 : Int32)), (.int (0 : Int32))])) _
    refine XS.icmpNo X_5.here hx rfl (hb hby d2_33) rfl (teq (by decide : (0 : Int32) = (0 : Int32))).2 ?_
    exact k
  refine own_go (B := T_5.setTop (mkF m 37 #[.val (.ref a0), .val (.ref a1), .val (.ref a1)] [(.ref a0)])) (fun t k => ?_) ?_
  · show Steps p.tables e below (T_5.setTop (mkF m 36 #[.val (.ref a0), .val (.ref a1), .val (.ref a1)] [])) _
    refine XS.aloadN X_5.here hx rfl (hb hby d2_36) rfl rfl ?_
    exact k
  obtain ⟨T_6, X_6, e_6, st_6⟩ := getF X_5 hx hZ hown (host := "") (Or.inl (hw _ (List.mem_of_getElem? (i := 27) rfl))) Via.refl e_5 F_value_a0 (g := (mkF m 37 #[.val (.ref a0), .val (.ref a1), .val (.ref a1)] [(.ref a0)])) rfl rfl (hb hby d2_37)
  refine own_go (B := T_6.setTop (mkF m 40 #[.val (.ref a0), .val (.ref a1), .val (.ref a1)] [(.ref b0)])) (fun t k => st_6 t k) ?_
  refine own_go (B := T_6.setTop (mkF m 41 #[.val (.ref a0), .val (.ref a1), .val (.ref a1)] [(.ref a1), (.ref b0)])) (fun t k => ?_) ?_
  · show Steps p.tables e below (T_6.setTop (mkF m 40 #[.val (.ref a0), .val (.ref a1), .val (.ref a1)] [(.ref b0)])) _
    refine XS.aloadN X_6.here hx rfl (hb hby d2_40) rfl rfl ?_
    exact k
  obtain ⟨T_7, X_7, e_7, st_7⟩ := getF X_6 hx hZ hown (host := "") (Or.inl (hw _ (List.mem_of_getElem? (i := 27) rfl))) Via.refl e_6 F_value_a1 (g := (mkF m 41 #[.val (.ref a0), .val (.ref a1), .val (.ref a1)] [(.ref a1), (.ref b0)])) rfl rfl (hb hby d2_41)
  refine own_go (B := T_7.setTop (mkF m 44 #[.val (.ref a0), .val (.ref a1), .val (.ref a1)] [(.ref b1), (.ref b0)])) (fun t k => st_7 t k) ?_
  obtain ⟨_, _, ⟨T_8, L_8, k_8, n_8⟩, -, X_8, ⟨Lc_8, hQ_8, l_8, y_8, z_8⟩, st_8⟩ := Jvm.LawKit.callS X_7 hx (y := (⟨"java/lang/StringLatin1", "equals", "([B[B)Z"⟩ : MethodName)) hown (mvT hZ (hw _ (List.mem_of_getElem? (i := 28) rfl))) (mvT hZ (hw _ (List.mem_of_getElem? (i := 29) rfl))) (mvT hZ (hw _ (List.mem_of_getElem? (i := 30) rfl))) (mvT hZ (hw _ (List.mem_of_getElem? (i := 31) rfl))) (by decide) (backOf (W := 0) (rmLStringInt l Z av0 hw [] b0 b1 k0 k1 h0 n0 Z0 V0 V1) hZ (hw _ (List.mem_of_getElem? (i := 31) rfl)) (hw _ (List.mem_of_getElem? (i := 30) rfl)) (by decide) (by decide)) (g := (mkF m 44 #[.val (.ref a0), .val (.ref a1), .val (.ref a1)] [(.ref b1), (.ref b0)])) rfl (by rw [hml]; rfl) (argsL := [(.ref b0), (.ref b1)]) (rest := []) (lenOf pd_0 rfl) rfl (by show 2 * 0 + _ ≤ _; exact Nat.le_of_eq rfl) (hb hby d2_44) (fun _ _ => ⟨rfl, e_7, (by decide : 0 + 0 ≤ _), (by decide : 0 + 0 ≤ _)⟩)
  dsimp only [Pt.U, Pt.locs, Pt.cells, Pt.slots] at X_8 l_8 y_8 z_8 st_8 hQ_8
  subst l_8 y_8 z_8
  obtain ⟨rfl, N_8q, e_8⟩ := hQ_8
  have N_8 := Fr.app N0 N_8q
  refine own_go (B := T_8.setTop (mkF m 47 #[.val (.ref a0), .val (.ref a1), .val (.ref a1)] [(.int (0 : Int32))])) (fun t k => st_8 t k) ?_
  refine own_go (B := T_8.setTop (mkF m 54 #[.val (.ref a0), .val (.ref a1), .val (.ref a1)] [])) (fun t k => ?_) ?_
  · show Steps p.tables e below (T_8.setTop (mkF m 47 #[.val (.ref a0), .val (.ref a1), .val (.ref a1)] [(.int (0 : Int32))])) _
    refine XS.ifYes X_8.here hx rfl (pc0 := 47) (pc' := 54) rfl (hb hby d2_47) rfl ((if0 _ _).trans (teq (by decide : (0 : Int32) = (0 : Int32))).1) (by decide) (by decide) ?_
    exact k
  refine own_go (B := T_8.setTop (mkF m 55 #[.val (.ref a0), .val (.ref a1), .val (.ref a1)] [(.int (0 : Int32))])) (fun t k => ?_) ?_
  · show Steps p.tables e below (T_8.setTop (mkF m 54 #[.val (.ref a0), .val (.ref a1), .val (.ref a1)] [])) _
    refine XS.iconst X_8.here hx rfl (hb hby d2_54) ?_
    exact k
  obtain ⟨fs, hr, hrun, hended, hW, hsame⟩ := X_8.leave (v := some (.int (0 : Int32))) (fun h => by rw [Bd.returns] at h; cases h)
  refine ⟨_, _, ?_, hrun, hended, _, _, rfl, ?_, ⟨_, rfl⟩, hW, hsame.mono (by decide) (by decide)⟩
  · show Steps p.tables e below (T_8.setTop (mkF m 55 #[.val (.ref a0), .val (.ref a1), .val (.ref a1)] [(.int (0 : Int32))])) _
    exact retN X_8 hx (t := .boolean) Bd.returns (by simp) (hb hby d2_55) hr
  · show QEStringInt Z a0 a1 b0 b1 k0 k1 w h0 n0 _ T_8.heap _
    rw [e_8]
    exact ⟨rfl, N_8, rfl⟩
theorem d3_24 : decode jdk_43_method_13_code 24 = .ok (.iconst 0, 1) := by decide +kernel
theorem d3_25 : decode jdk_43_method_13_code 25 = .ok (.ireturn, 1) := by decide +kernel
theorem ef_LBoolReal (m : MethodId) (a0 : Addr) (a1 : Addr) : entryFrame m #[(.ref a0), (.ref a1)] 3 = mkF m 0 #[.val (.ref a0), .val (.ref a1), .unset] [] := by first | (simp [entryFrame, mkF, argsToLocals, Value.category]; done) | rfl
def QLBoolReal (Z : State) (a0 : Addr) (a1 : Addr) (k0 : ClassId) (k1 : ClassId) (h0 : Heap) (n0 : Nat) (v : Option Value) (h : Heap) (L : List Loc) : Prop := v = some (.int (0 : Int32)) ∧ Fr n0 L ∧ h = h0
set_option maxRecDepth 65536 in
set_option maxHeartbeats 40000000 in
theorem rmLBoolReal (l : Launch) (Z : State) (av0 : Array Value) (hw : ∀ d ∈ tables_1, d.before av0 Z = true) (ws : List Jvm.Cond) (a0 : Addr) (a1 : Addr) (k0 : ClassId) (k1 : ClassId) (h0 : Heap) (n0 : Nat) (Z0 : n0 ≤ h0.size) (V0 : Arv Z h0 a0 k0 .byte (4 : Int32) [(.int (66 : Int32)), (.int (111 : Int32)), (.int (111 : Int32)), (.int (108 : Int32))] (.int 0)) (V1 : Arv Z h0 a1 k1 .byte (4 : Int32) [(.int (82 : Int32)), (.int (101 : Int32)), (.int (97 : Int32)), (.int (108 : Int32))] (.int 0)) :
    MetFree l (⟨"java/lang/StringLatin1", "equals", "([B[B)Z"⟩ : MethodName) (head1 (Jvm.Cond.code (⟨"java/lang/StringLatin1", "equals", "([B[B)Z"⟩ : MethodName) jdk_43_method_13_code 3 (some .boolean) :: ws) ({ frames := 0, cells := 0, slots := 0, locals := 0 } : Room)) (fun a U => a = #[(.ref a0), (.ref a1)] ∧ Z.Warmed39 U.vm ∧ U.heap = h0) (fun _ _ _ _ _ => True) (fun _ U o U' => ∃ v L, o = .returned v ∧ QLBoolReal Z a0 a1 k0 k1 h0 n0 v U'.heap L ∧ FrameEnd U o U' L ({ frames := 0, cells := 0, slots := 0, locals := 0 } : Room).cells ({ frames := 0, cells := 0, slots := 0, locals := 0 } : Room).slots) := by
  refine MetFree.of_bodySF (plainFor_of_name pn_3) hisR ?_
  intro p e s m args below meth c s₁ Bd hml0 hP hK
  obtain ⟨rfl, hZ, hh⟩ := hP
  have hx := Bd.exec
  have hby := Bd.bytes
  have hml : c.maxLocals = 3 := hml0
  have hown : s.vm.findClass "java/lang/StringLatin1" = some m.cls := findClass_of_methodNamed Bd.named
  have hnm := (name_of_methodNamed Bd.named Bd.method).1
  have X0 : Stand p l e ({ frames := 0, cells := 0, slots := 0, locals := 0 } : Room) s m #[(.ref a0), (.ref a1)] below meth c s₁ [] 0 0 := Stand.of_body Bd
  have e0 : s₁.heap = h0 := by rw [← hh, Bd.state]; rfl
  have N0 := Fr.nil n0
  have K0 : Keep h0 h0 [] := Keep.refl h0 []
  refine own_go (B := s₁.setTop (mkF m 0 #[.val (.ref a0), .val (.ref a1), .unset] [])) (fun t k => castTop (ef_LBoolReal m a0 a1) k) ?_
  refine own_go (B := s₁.setTop (mkF m 1 #[.val (.ref a0), .val (.ref a1), .unset] [(.ref a0)])) (fun t k => ?_) ?_
  · show Steps p.tables e below (s₁.setTop (mkF m 0 #[.val (.ref a0), .val (.ref a1), .unset] [])) _
    refine XS.aloadN X0.here hx rfl (hb hby d3_0) rfl rfl ?_
    exact k
  obtain ⟨cl_1, Ar_1, -, S_1, M_1, -, -⟩ := id V0
  refine own_go (B := s₁.setTop (mkF m 2 #[.val (.ref a0), .val (.ref a1), .unset] [(.int (4 : Int32))])) (fun t k => X0.arraylength hx (by rw [(e0 : _ = _)]; exact Ar_1.1) (State.isArrayOf_alike hZ.alike Ar_1.2.1) (g := (mkF m 1 #[.val (.ref a0), .val (.ref a1), .unset] [(.ref a0)])) rfl rfl (hb hby d3_1) t (by rw [len_of S_1 M_1]; exact k)) ?_
  refine own_go (B := s₁.setTop (mkF m 3 #[.val (.ref a0), .val (.ref a1), .unset] [(.ref a1), (.int (4 : Int32))])) (fun t k => ?_) ?_
  · show Steps p.tables e below (s₁.setTop (mkF m 2 #[.val (.ref a0), .val (.ref a1), .unset] [(.int (4 : Int32))])) _
    refine XS.aloadN X0.here hx rfl (hb hby d3_2) rfl rfl ?_
    exact k
  obtain ⟨cl_2, Ar_2, -, S_2, M_2, -, -⟩ := id V1
  refine own_go (B := s₁.setTop (mkF m 4 #[.val (.ref a0), .val (.ref a1), .unset] [(.int (4 : Int32)), (.int (4 : Int32))])) (fun t k => X0.arraylength hx (by rw [(e0 : _ = _)]; exact Ar_2.1) (State.isArrayOf_alike hZ.alike Ar_2.2.1) (g := (mkF m 3 #[.val (.ref a0), .val (.ref a1), .unset] [(.ref a1), (.int (4 : Int32))])) rfl rfl (hb hby d3_3) t (by rw [len_of S_2 M_2]; exact k)) ?_
  refine own_go (B := s₁.setTop (mkF m 7 #[.val (.ref a0), .val (.ref a1), .unset] [])) (fun t k => ?_) ?_
  · show Steps p.tables e below (s₁.setTop (mkF m 4 #[.val (.ref a0), .val (.ref a1), .unset] [(.int (4 : Int32)), (.int (4 : Int32))])) _
    refine XS.icmpNo X0.here hx rfl (hb hby d3_4) rfl (teq (by decide : (4 : Int32) = (4 : Int32))).2 ?_
    exact k
  refine own_go (B := s₁.setTop (mkF m 11 #[.val (.ref a0), .val (.ref a1), .val (.int (0 : Int32))] [(.ref a0), (.int (0 : Int32))])) (fun t k => ?_) ?_
  · show Steps p.tables e below (s₁.setTop (mkF m 7 #[.val (.ref a0), .val (.ref a1), .unset] [])) _
    refine XS.iconst X0.here hx rfl (hb hby d3_7) ?_
    show Steps p.tables e below (s₁.setTop (mkF m 8 #[.val (.ref a0), .val (.ref a1), .unset] [(.int (0 : Int32))])) _
    refine XS.istoreN X0.here hx rfl (hb hby d3_8) rfl (l' := #[.val (.ref a0), .val (.ref a1), .val (.int (0 : Int32))]) rfl ?_
    show Steps p.tables e below (s₁.setTop (mkF m 9 #[.val (.ref a0), .val (.ref a1), .val (.int (0 : Int32))] [])) _
    refine XS.iloadN X0.here hx rfl (hb hby d3_9) rfl ?_
    show Steps p.tables e below (s₁.setTop (mkF m 10 #[.val (.ref a0), .val (.ref a1), .val (.int (0 : Int32))] [(.int (0 : Int32))])) _
    refine XS.aloadN X0.here hx rfl (hb hby d3_10) rfl rfl ?_
    exact k
  obtain ⟨cl_3, Ar_3, -, S_3, M_3, -, -⟩ := id V0
  refine own_go (B := s₁.setTop (mkF m 12 #[.val (.ref a0), .val (.ref a1), .val (.int (0 : Int32))] [(.int (4 : Int32)), (.int (0 : Int32))])) (fun t k => X0.arraylength hx (by rw [(e0 : _ = _)]; exact Ar_3.1) (State.isArrayOf_alike hZ.alike Ar_3.2.1) (g := (mkF m 11 #[.val (.ref a0), .val (.ref a1), .val (.int (0 : Int32))] [(.ref a0), (.int (0 : Int32))])) rfl rfl (hb hby d3_11) t (by rw [len_of S_3 M_3]; exact k)) ?_
  refine own_go (B := s₁.setTop (mkF m 15 #[.val (.ref a0), .val (.ref a1), .val (.int (0 : Int32))] [])) (fun t k => ?_) ?_
  · show Steps p.tables e below (s₁.setTop (mkF m 12 #[.val (.ref a0), .val (.ref a1), .val (.int (0 : Int32))] [(.int (4 : Int32)), (.int (0 : Int32))])) _
    refine XS.icmpNo X0.here hx rfl (hb hby d3_12) rfl (tlt (by decide : (0 : Int32) < (4 : Int32))).2.1 ?_
    exact k
  refine own_go (B := s₁.setTop (mkF m 17 #[.val (.ref a0), .val (.ref a1), .val (.int (0 : Int32))] [(.int (0 : Int32)), (.ref a0)])) (fun t k => ?_) ?_
  · show Steps p.tables e below (s₁.setTop (mkF m 15 #[.val (.ref a0), .val (.ref a1), .val (.int (0 : Int32))] [])) _
    refine XS.aloadN X0.here hx rfl (hb hby d3_15) rfl rfl ?_
    show Steps p.tables e below (s₁.setTop (mkF m 16 #[.val (.ref a0), .val (.ref a1), .val (.int (0 : Int32))] [(.ref a0)])) _
    refine XS.iloadN X0.here hx rfl (hb hby d3_16) rfl ?_
    exact k
  obtain ⟨cl_4, Ar_4, q_4, S_4, M_4, H_4, G_4⟩ := id V0
  have hin_4 : ¬ ((0 : Int32) < 0 ∨ cl_4.slots.size ≤ ((0 : Int32)).toNatClampNeg) := inb_of S_4 ⟨by decide, by decide⟩
  have hat_4 : cl_4.slots[((0 : Int32)).toNatClampNeg]? = some (.int (66 : Int32)) := H_4.at hin_4 rfl
  refine own_go (B := s₁.setTop (mkF m 18 #[.val (.ref a0), .val (.ref a1), .val (.int (0 : Int32))] [(.int (66 : Int32))])) (fun t k => X0.baloadBytes hx (j := (0 : Int32)) (v := (.int (66 : Int32))) (by rw [(e0 : _ = _)]; exact Ar_4.1) (State.isArrayOf_alike hZ.alike Ar_4.2.1) Ar_4.2.2 hin_4 hat_4 (g := (mkF m 17 #[.val (.ref a0), .val (.ref a1), .val (.int (0 : Int32))] [(.int (0 : Int32)), (.ref a0)])) rfl rfl (hb hby d3_17) t k) ?_
  refine own_go (B := s₁.setTop (mkF m 20 #[.val (.ref a0), .val (.ref a1), .val (.int (0 : Int32))] [(.int (0 : Int32)), (.ref a1), (.int (66 : Int32))])) (fun t k => ?_) ?_
  · show Steps p.tables e below (s₁.setTop (mkF m 18 #[.val (.ref a0), .val (.ref a1), .val (.int (0 : Int32))] [(.int (66 : Int32))])) _
    refine XS.aloadN X0.here hx rfl (hb hby d3_18) rfl rfl ?_
    show Steps p.tables e below (s₁.setTop (mkF m 19 #[.val (.ref a0), .val (.ref a1), .val (.int (0 : Int32))] [(.ref a1), (.int (66 : Int32))])) _
    refine XS.iloadN X0.here hx rfl (hb hby d3_19) rfl ?_
    exact k
  obtain ⟨cl_5, Ar_5, q_5, S_5, M_5, H_5, G_5⟩ := id V1
  have hin_5 : ¬ ((0 : Int32) < 0 ∨ cl_5.slots.size ≤ ((0 : Int32)).toNatClampNeg) := inb_of S_5 ⟨by decide, by decide⟩
  have hat_5 : cl_5.slots[((0 : Int32)).toNatClampNeg]? = some (.int (82 : Int32)) := H_5.at hin_5 rfl
  refine own_go (B := s₁.setTop (mkF m 21 #[.val (.ref a0), .val (.ref a1), .val (.int (0 : Int32))] [(.int (82 : Int32)), (.int (66 : Int32))])) (fun t k => X0.baloadBytes hx (j := (0 : Int32)) (v := (.int (82 : Int32))) (by rw [(e0 : _ = _)]; exact Ar_5.1) (State.isArrayOf_alike hZ.alike Ar_5.2.1) Ar_5.2.2 hin_5 hat_5 (g := (mkF m 20 #[.val (.ref a0), .val (.ref a1), .val (.int (0 : Int32))] [(.int (0 : Int32)), (.ref a1), (.int (66 : Int32))])) rfl rfl (hb hby d3_20) t k) ?_
  refine own_go (B := s₁.setTop (mkF m 24 #[.val (.ref a0), .val (.ref a1), .val (.int (0 : Int32))] [])) (fun t k => ?_) ?_
  · show Steps p.tables e below (s₁.setTop (mkF m 21 #[.val (.ref a0), .val (.ref a1), .val (.int (0 : Int32))] [(.int (82 : Int32)), (.int (66 : Int32))])) _
    refine XS.icmpNo X0.here hx rfl (hb hby d3_21) rfl (feq (by decide : ¬ ((66 : Int32) = (82 : Int32)))).1 ?_
    exact k
  refine own_go (B := s₁.setTop (mkF m 25 #[.val (.ref a0), .val (.ref a1), .val (.int (0 : Int32))] [(.int (0 : Int32))])) (fun t k => ?_) ?_
  · show Steps p.tables e below (s₁.setTop (mkF m 24 #[.val (.ref a0), .val (.ref a1), .val (.int (0 : Int32))] [])) _
    refine XS.iconst X0.here hx rfl (hb hby d3_24) ?_
    exact k
  obtain ⟨fs, hr, hrun, hended, hW, hsame⟩ := X0.leave (v := some (.int (0 : Int32))) (fun h => by rw [Bd.returns] at h; cases h)
  refine ⟨_, _, ?_, hrun, hended, _, _, rfl, ?_, ⟨_, rfl⟩, hW, hsame.mono (by decide) (by decide)⟩
  · show Steps p.tables e below (s₁.setTop (mkF m 25 #[.val (.ref a0), .val (.ref a1), .val (.int (0 : Int32))] [(.int (0 : Int32))])) _
    exact retN X0 hx (t := .boolean) Bd.returns (by simp) (hb hby d3_25) hr
  · show QLBoolReal Z a0 a1 k0 k1 h0 n0 _ s₁.heap _
    rw [e0]
    exact ⟨rfl, N0, rfl⟩
theorem ef_EBoolReal (m : MethodId) (a0 : Addr) (a1 : Addr) : entryFrame m #[(.ref a0), (.ref a1)] 3 = mkF m 0 #[.val (.ref a0), .val (.ref a1), .unset] [] := by first | (simp [entryFrame, mkF, argsToLocals, Value.category]; done) | rfl
def QEBoolReal (Z : State) (a0 : Addr) (a1 : Addr) (b0 : Addr) (b1 : Addr) (k0 : ClassId) (k1 : ClassId) (w : Int32) (h0 : Heap) (n0 : Nat) (v : Option Value) (h : Heap) (L : List Loc) : Prop := v = some (.int (0 : Int32)) ∧ Fr n0 L ∧ h = h0
set_option maxRecDepth 65536 in
set_option maxHeartbeats 40000000 in
theorem rmEBoolReal (l : Launch) (Z : State) (av0 : Array Value) (hw : ∀ d ∈ tables_1, d.before av0 Z = true) (ws : List Jvm.Cond) (a0 : Addr) (a1 : Addr) (b0 : Addr) (b1 : Addr) (k0 : ClassId) (k1 : ClassId) (w : Int32) (h0 : Heap) (n0 : Nat) (Z0 : n0 ≤ h0.size) (E_a0 : Exa Z h0 a0 "java/lang/String") (F_coder_a0 : Fld Z h0 a0 "java/lang/String" "coder" "B" (.int (0 : Int32))) (F_value_a0 : Fld Z h0 a0 "java/lang/String" "value" "[B" (.ref b0)) (E_a1 : Exa Z h0 a1 "java/lang/String") (F_coder_a1 : Fld Z h0 a1 "java/lang/String" "coder" "B" (.int (0 : Int32))) (F_value_a1 : Fld Z h0 a1 "java/lang/String" "value" "[B" (.ref b1)) (V0 : Arv Z h0 b0 k0 .byte (4 : Int32) [(.int (66 : Int32)), (.int (111 : Int32)), (.int (111 : Int32)), (.int (108 : Int32))] (.int 0)) (V1 : Arv Z h0 b1 k1 .byte (4 : Int32) [(.int (82 : Int32)), (.int (101 : Int32)), (.int (97 : Int32)), (.int (108 : Int32))] (.int 0)) (S_COMPACT_STRINGS : Sta Z h0 "java/lang/String" "COMPACT_STRINGS" "Z" (.int w)) (hw0 : ¬ (w = (0 : Int32))) (hne : ¬ (a0 = a1)) :
    MetFree l (⟨"java/lang/String", "equals", "(Ljava/lang/Object;)Z"⟩ : MethodName) (head1 (Jvm.Cond.code (⟨"java/lang/String", "equals", "(Ljava/lang/Object;)Z"⟩ : MethodName) jdk_42_method_66_code 3 (some .boolean) :: ws) ({ frames := 1, cells := 0, slots := 0, locals := 14 } : Room)) (fun a U => a = #[(.ref a0), (.ref a1)] ∧ Z.Warmed39 U.vm ∧ U.heap = h0) (fun _ _ _ _ _ => True) (fun _ U o U' => ∃ v L, o = .returned v ∧ QEBoolReal Z a0 a1 b0 b1 k0 k1 w h0 n0 v U'.heap L ∧ FrameEnd U o U' L ({ frames := 1, cells := 0, slots := 0, locals := 14 } : Room).cells ({ frames := 1, cells := 0, slots := 0, locals := 14 } : Room).slots) := by
  refine MetFree.of_bodySF (plainFor_of_name pn_2) hisR ?_
  intro p e s m args below meth c s₁ Bd hml0 hP hK
  obtain ⟨rfl, hZ, hh⟩ := hP
  have hx := Bd.exec
  have hby := Bd.bytes
  have hml : c.maxLocals = 3 := hml0
  have hown : s.vm.findClass "java/lang/String" = some m.cls := findClass_of_methodNamed Bd.named
  have hnm := (name_of_methodNamed Bd.named Bd.method).1
  have X0 : Stand p l e ({ frames := 1, cells := 0, slots := 0, locals := 14 } : Room) s m #[(.ref a0), (.ref a1)] below meth c s₁ [] 0 0 := Stand.of_body Bd
  have e0 : s₁.heap = h0 := by rw [← hh, Bd.state]; rfl
  have N0 := Fr.nil n0
  have K0 : Keep h0 h0 [] := Keep.refl h0 []
  refine own_go (B := s₁.setTop (mkF m 0 #[.val (.ref a0), .val (.ref a1), .unset] [])) (fun t k => castTop (ef_EBoolReal m a0 a1) k) ?_
  refine own_go (B := s₁.setTop (mkF m 2 #[.val (.ref a0), .val (.ref a1), .unset] [(.ref a1), (.ref a0)])) (fun t k => ?_) ?_
  · show Steps p.tables e below (s₁.setTop (mkF m 0 #[.val (.ref a0), .val (.ref a1), .unset] [])) _
    refine XS.aloadN X0.here hx rfl (hb hby d2_0) rfl rfl ?_
    show Steps p.tables e below (s₁.setTop (mkF m 1 #[.val (.ref a0), .val (.ref a1), .unset] [(.ref a0)])) _
    refine XS.aloadN X0.here hx rfl (hb hby d2_1) rfl rfl ?_
    exact k
  refine own_go (B := s₁.setTop (mkF m 7 #[.val (.ref a0), .val (.ref a1), .unset] [])) (fun t k => ?_) ?_
  · show Steps p.tables e below (s₁.setTop (mkF m 2 #[.val (.ref a0), .val (.ref a1), .unset] [(.ref a1), (.ref a0)])) _
    refine Jvm.RoadKit.acmp (g := (mkF m 2 #[.val (.ref a0), .val (.ref a1), .unset] [(.ref a1), (.ref a0)])) X0 hx rfl rfl rfl (pc0 := 2) (pc' := 7) (same := false) rfl (hb hby d2_2) rfl (decide_eq_false fun q => hne (Value.ref.inj q)) (by decide) (by decide) ?_
    exact k
  refine own_go (B := s₁.setTop (mkF m 8 #[.val (.ref a0), .val (.ref a1), .unset] [(.ref a1)])) (fun t k => ?_) ?_
  · show Steps p.tables e below (s₁.setTop (mkF m 7 #[.val (.ref a0), .val (.ref a1), .unset] [])) _
    refine XS.aloadN X0.here hx rfl (hb hby d2_7) rfl rfl ?_
    exact k
  obtain ⟨T_1, X_1, e_1, st_1⟩ := instY X0 hx hZ hown (hw _ (List.mem_of_getElem? (i := 23) rfl)) e0 (Ins.self E_a1) (g := (mkF m 8 #[.val (.ref a0), .val (.ref a1), .unset] [(.ref a1)])) rfl rfl (hb hby d2_8)
  refine own_go (B := T_1.setTop (mkF m 11 #[.val (.ref a0), .val (.ref a1), .unset] [(.int (1 : Int32))])) (fun t k => st_1 t k) ?_
  refine own_go (B := T_1.setTop (mkF m 14 #[.val (.ref a0), .val (.ref a1), .unset] [])) (fun t k => ?_) ?_
  · show Steps p.tables e below (T_1.setTop (mkF m 11 #[.val (.ref a0), .val (.ref a1), .unset] [(.int (1 : Int32))])) _
    refine XS.ifNo X_1.here hx rfl (hb hby d2_11) rfl ((if0 _ _).trans (feq (by decide : ¬ ((1 : Int32) = (0 : Int32)))).1) ?_
    exact k
  refine own_go (B := T_1.setTop (mkF m 15 #[.val (.ref a0), .val (.ref a1), .unset] [(.ref a1)])) (fun t k => ?_) ?_
  · show Steps p.tables e below (T_1.setTop (mkF m 14 #[.val (.ref a0), .val (.ref a1), .unset] [])) _
    refine XS.aloadN X_1.here hx rfl (hb hby d2_14) rfl rfl ?_
    exact k
  obtain ⟨T_2, X_2, e_2, st_2⟩ := castY X_1 hx hZ hown (hw _ (List.mem_of_getElem? (i := 23) rfl)) e_1 (Ins.self E_a1) (g := (mkF m 15 #[.val (.ref a0), .val (.ref a1), .unset] [(.ref a1)])) rfl rfl (hb hby d2_15)
  refine own_go (B := T_2.setTop (mkF m 18 #[.val (.ref a0), .val (.ref a1), .unset] [(.ref a1)])) (fun t k => st_2 t k) ?_
  refine own_go (B := T_2.setTop (mkF m 19 #[.val (.ref a0), .val (.ref a1), .val (.ref a1)] [])) (fun t k => ?_) ?_
  · show Steps p.tables e below (T_2.setTop (mkF m 18 #[.val (.ref a0), .val (.ref a1), .unset] [(.ref a1)])) _
    refine XS.astoreN X_2.here hx rfl (hb hby d2_18) rfl rfl (l' := #[.val (.ref a0), .val (.ref a1), .val (.ref a1)]) rfl ?_
    exact k
  obtain ⟨T_3, X_3, e_3, st_3⟩ := getS2 X_2 hx hZ hown (host := "") (Or.inl (hw _ (List.mem_of_getElem? (i := 25) rfl))) Via.refl e_2 S_COMPACT_STRINGS (g := (mkF m 19 #[.val (.ref a0), .val (.ref a1), .val (.ref a1)] [])) rfl (hb hby d2_19)
  refine own_go (B := T_3.setTop (mkF m 22 #[.val (.ref a0), .val (.ref a1), .val (.ref a1)] [(.int w)])) (fun t k => st_3 t k) ?_
  refine own_go (B := T_3.setTop (mkF m 25 #[.val (.ref a0), .val (.ref a1), .val (.ref a1)] [])) (fun t k => ?_) ?_
  · show Steps p.tables e below (T_3.setTop (mkF m 22 #[.val (.ref a0), .val (.ref a1), .val (.ref a1)] [(.int w)])) _
    refine XS.ifNo X_3.here hx rfl (hb hby d2_22) rfl ((if0 _ _).trans (feq hw0).1) ?_
    exact k
  refine own_go (B := T_3.setTop (mkF m 26 #[.val (.ref a0), .val (.ref a1), .val (.ref a1)] [(.ref a0)])) (fun t k => ?_) ?_
  · show Steps p.tables e below (T_3.setTop (mkF m 25 #[.val (.ref a0), .val (.ref a1), .val (.ref a1)] [])) _
    refine XS.aloadN X_3.here hx rfl (hb hby d2_25) rfl rfl ?_
    exact k
  obtain ⟨T_4, X_4, e_4, st_4⟩ := getF X_3 hx hZ hown (host := "") (Or.inl (hw _ (List.mem_of_getElem? (i := 26) rfl))) Via.refl e_3 F_coder_a0 (g := (mkF m 26 #[.val (.ref a0), .val (.ref a1), .val (.ref a1)] [(.ref a0)])) rfl rfl (hb hby d2_26)
  refine own_go (B := T_4.setTop (mkF m 29 #[.val (.ref a0), .val (.ref a1), .val (.ref a1)] [(.int (0 : Int32))])) (fun t k => st_4 t k) ?_
  refine own_go (B := T_4.setTop (mkF m 30 #[.val (.ref a0), .val (.ref a1), .val (.ref a1)] [(.ref a1), (.int (0 : Int32))])) (fun t k => ?_) ?_
  · show Steps p.tables e below (T_4.setTop (mkF m 29 #[.val (.ref a0), .val (.ref a1), .val (.ref a1)] [(.int (0 : Int32))])) _
    refine XS.aloadN X_4.here hx rfl (hb hby d2_29) rfl rfl ?_
    exact k
  obtain ⟨T_5, X_5, e_5, st_5⟩ := getF X_4 hx hZ hown (host := "") (Or.inl (hw _ (List.mem_of_getElem? (i := 26) rfl))) Via.refl e_4 F_coder_a1 (g := (mkF m 30 #[.val (.ref a0), .val (.ref a1), .val (.ref a1)] [(.ref a1), (.int (0 : Int32))])) rfl rfl (hb hby d2_30)
  refine own_go (B := T_5.setTop (mkF m 33 #[.val (.ref a0), .val (.ref a1), .val (.ref a1)] [(.int (0 : Int32)), (.int (0 : Int32))])) (fun t k => st_5 t k) ?_
  refine own_go (B := T_5.setTop (mkF m 36 #[.val (.ref a0), .val (.ref a1), .val (.ref a1)] [])) (fun t k => ?_) ?_
  · show Steps p.tables e below (T_5.setTop (mkF m 33 #[.val (.ref a0), .val (.ref a1), .val (.ref a1)] [(.int (0 : Int32)), (.int (0 : Int32))])) _
    refine XS.icmpNo X_5.here hx rfl (hb hby d2_33) rfl (teq (by decide : (0 : Int32) = (0 : Int32))).2 ?_
    exact k
  refine own_go (B := T_5.setTop (mkF m 37 #[.val (.ref a0), .val (.ref a1), .val (.ref a1)] [(.ref a0)])) (fun t k => ?_) ?_
  · show Steps p.tables e below (T_5.setTop (mkF m 36 #[.val (.ref a0), .val (.ref a1), .val (.ref a1)] [])) _
    refine XS.aloadN X_5.here hx rfl (hb hby d2_36) rfl rfl ?_
    exact k
  obtain ⟨T_6, X_6, e_6, st_6⟩ := getF X_5 hx hZ hown (host := "") (Or.inl (hw _ (List.mem_of_getElem? (i := 27) rfl))) Via.refl e_5 F_value_a0 (g := (mkF m 37 #[.val (.ref a0), .val (.ref a1), .val (.ref a1)] [(.ref a0)])) rfl rfl (hb hby d2_37)
  refine own_go (B := T_6.setTop (mkF m 40 #[.val (.ref a0), .val (.ref a1), .val (.ref a1)] [(.ref b0)])) (fun t k => st_6 t k) ?_
  refine own_go (B := T_6.setTop (mkF m 41 #[.val (.ref a0), .val (.ref a1), .val (.ref a1)] [(.ref a1), (.ref b0)])) (fun t k => ?_) ?_
  · show Steps p.tables e below (T_6.setTop (mkF m 40 #[.val (.ref a0), .val (.ref a1), .val (.ref a1)] [(.ref b0)])) _
    refine XS.aloadN X_6.here hx rfl (hb hby d2_40) rfl rfl ?_
    exact k
  obtain ⟨T_7, X_7, e_7, st_7⟩ := getF X_6 hx hZ hown (host := "") (Or.inl (hw _ (List.mem_of_getElem? (i := 27) rfl))) Via.refl e_6 F_value_a1 (g := (mkF m 41 #[.val (.ref a0), .val (.ref a1), .val (.ref a1)] [(.ref a1), (.ref b0)])) rfl rfl (hb hby d2_41)
  refine own_go (B := T_7.setTop (mkF m 44 #[.val (.ref a0), .val (.ref a1), .val (.ref a1)] [(.ref b1), (.ref b0)])) (fun t k => st_7 t k) ?_
  obtain ⟨_, _, ⟨T_8, L_8, k_8, n_8⟩, -, X_8, ⟨Lc_8, hQ_8, l_8, y_8, z_8⟩, st_8⟩ := Jvm.LawKit.callS X_7 hx (y := (⟨"java/lang/StringLatin1", "equals", "([B[B)Z"⟩ : MethodName)) hown (mvT hZ (hw _ (List.mem_of_getElem? (i := 28) rfl))) (mvT hZ (hw _ (List.mem_of_getElem? (i := 29) rfl))) (mvT hZ (hw _ (List.mem_of_getElem? (i := 30) rfl))) (mvT hZ (hw _ (List.mem_of_getElem? (i := 31) rfl))) (by decide) (backOf (W := 0) (rmLBoolReal l Z av0 hw [] b0 b1 k0 k1 h0 n0 Z0 V0 V1) hZ (hw _ (List.mem_of_getElem? (i := 31) rfl)) (hw _ (List.mem_of_getElem? (i := 30) rfl)) (by decide) (by decide)) (g := (mkF m 44 #[.val (.ref a0), .val (.ref a1), .val (.ref a1)] [(.ref b1), (.ref b0)])) rfl (by rw [hml]; rfl) (argsL := [(.ref b0), (.ref b1)]) (rest := []) (lenOf pd_0 rfl) rfl (by show 2 * 0 + _ ≤ _; exact Nat.le_of_eq rfl) (hb hby d2_44) (fun _ _ => ⟨rfl, e_7, (by decide : 0 + 0 ≤ _), (by decide : 0 + 0 ≤ _)⟩)
  dsimp only [Pt.U, Pt.locs, Pt.cells, Pt.slots] at X_8 l_8 y_8 z_8 st_8 hQ_8
  subst l_8 y_8 z_8
  obtain ⟨rfl, N_8q, e_8⟩ := hQ_8
  have N_8 := Fr.app N0 N_8q
  refine own_go (B := T_8.setTop (mkF m 47 #[.val (.ref a0), .val (.ref a1), .val (.ref a1)] [(.int (0 : Int32))])) (fun t k => st_8 t k) ?_
  refine own_go (B := T_8.setTop (mkF m 54 #[.val (.ref a0), .val (.ref a1), .val (.ref a1)] [])) (fun t k => ?_) ?_
  · show Steps p.tables e below (T_8.setTop (mkF m 47 #[.val (.ref a0), .val (.ref a1), .val (.ref a1)] [(.int (0 : Int32))])) _
    refine XS.ifYes X_8.here hx rfl (pc0 := 47) (pc' := 54) rfl (hb hby d2_47) rfl ((if0 _ _).trans (teq (by decide : (0 : Int32) = (0 : Int32))).1) (by decide) (by decide) ?_
    exact k
  refine own_go (B := T_8.setTop (mkF m 55 #[.val (.ref a0), .val (.ref a1), .val (.ref a1)] [(.int (0 : Int32))])) (fun t k => ?_) ?_
  · show Steps p.tables e below (T_8.setTop (mkF m 54 #[.val (.ref a0), .val (.ref a1), .val (.ref a1)] [])) _
    refine XS.iconst X_8.here hx rfl (hb hby d2_54) ?_
    exact k
  obtain ⟨fs, hr, hrun, hended, hW, hsame⟩ := X_8.leave (v := some (.int (0 : Int32))) (fun h => by rw [Bd.returns] at h; cases h)
  refine ⟨_, _, ?_, hrun, hended, _, _, rfl, ?_, ⟨_, rfl⟩, hW, hsame.mono (by decide) (by decide)⟩
  · show Steps p.tables e below (T_8.setTop (mkF m 55 #[.val (.ref a0), .val (.ref a1), .val (.ref a1)] [(.int (0 : Int32))])) _
    exact retN X_8 hx (t := .boolean) Bd.returns (by simp) (hb hby d2_55) hr
  · show QEBoolReal Z a0 a1 b0 b1 k0 k1 w h0 n0 _ T_8.heap _
    rw [e_8]
    exact ⟨rfl, N_8, rfl⟩
theorem ef_LRealReal (m : MethodId) (a0 : Addr) (a1 : Addr) : entryFrame m #[(.ref a0), (.ref a1)] 3 = mkF m 0 #[.val (.ref a0), .val (.ref a1), .unset] [] := by first | (simp [entryFrame, mkF, argsToLocals, Value.category]; done) | rfl
def QLRealReal (Z : State) (a0 : Addr) (a1 : Addr) (k0 : ClassId) (k1 : ClassId) (h0 : Heap) (n0 : Nat) (v : Option Value) (h : Heap) (L : List Loc) : Prop := v = some (.int (1 : Int32)) ∧ Fr n0 L ∧ h = h0
set_option maxRecDepth 65536 in
set_option maxHeartbeats 40000000 in
theorem rmLRealReal (l : Launch) (Z : State) (av0 : Array Value) (hw : ∀ d ∈ tables_1, d.before av0 Z = true) (ws : List Jvm.Cond) (a0 : Addr) (a1 : Addr) (k0 : ClassId) (k1 : ClassId) (h0 : Heap) (n0 : Nat) (Z0 : n0 ≤ h0.size) (V0 : Arv Z h0 a0 k0 .byte (4 : Int32) [(.int (82 : Int32)), (.int (101 : Int32)), (.int (97 : Int32)), (.int (108 : Int32))] (.int 0)) (V1 : Arv Z h0 a1 k1 .byte (4 : Int32) [(.int (82 : Int32)), (.int (101 : Int32)), (.int (97 : Int32)), (.int (108 : Int32))] (.int 0)) :
    MetFree l (⟨"java/lang/StringLatin1", "equals", "([B[B)Z"⟩ : MethodName) (head1 (Jvm.Cond.code (⟨"java/lang/StringLatin1", "equals", "([B[B)Z"⟩ : MethodName) jdk_43_method_13_code 3 (some .boolean) :: ws) ({ frames := 0, cells := 0, slots := 0, locals := 0 } : Room)) (fun a U => a = #[(.ref a0), (.ref a1)] ∧ Z.Warmed39 U.vm ∧ U.heap = h0) (fun _ _ _ _ _ => True) (fun _ U o U' => ∃ v L, o = .returned v ∧ QLRealReal Z a0 a1 k0 k1 h0 n0 v U'.heap L ∧ FrameEnd U o U' L ({ frames := 0, cells := 0, slots := 0, locals := 0 } : Room).cells ({ frames := 0, cells := 0, slots := 0, locals := 0 } : Room).slots) := by
  refine MetFree.of_bodySF (plainFor_of_name pn_3) hisR ?_
  intro p e s m args below meth c s₁ Bd hml0 hP hK
  obtain ⟨rfl, hZ, hh⟩ := hP
  have hx := Bd.exec
  have hby := Bd.bytes
  have hml : c.maxLocals = 3 := hml0
  have hown : s.vm.findClass "java/lang/StringLatin1" = some m.cls := findClass_of_methodNamed Bd.named
  have hnm := (name_of_methodNamed Bd.named Bd.method).1
  have X0 : Stand p l e ({ frames := 0, cells := 0, slots := 0, locals := 0 } : Room) s m #[(.ref a0), (.ref a1)] below meth c s₁ [] 0 0 := Stand.of_body Bd
  have e0 : s₁.heap = h0 := by rw [← hh, Bd.state]; rfl
  have N0 := Fr.nil n0
  have K0 : Keep h0 h0 [] := Keep.refl h0 []
  refine own_go (B := s₁.setTop (mkF m 0 #[.val (.ref a0), .val (.ref a1), .unset] [])) (fun t k => castTop (ef_LRealReal m a0 a1) k) ?_
  refine own_go (B := s₁.setTop (mkF m 1 #[.val (.ref a0), .val (.ref a1), .unset] [(.ref a0)])) (fun t k => ?_) ?_
  · show Steps p.tables e below (s₁.setTop (mkF m 0 #[.val (.ref a0), .val (.ref a1), .unset] [])) _
    refine XS.aloadN X0.here hx rfl (hb hby d3_0) rfl rfl ?_
    exact k
  obtain ⟨cl_1, Ar_1, -, S_1, M_1, -, -⟩ := id V0
  refine own_go (B := s₁.setTop (mkF m 2 #[.val (.ref a0), .val (.ref a1), .unset] [(.int (4 : Int32))])) (fun t k => X0.arraylength hx (by rw [(e0 : _ = _)]; exact Ar_1.1) (State.isArrayOf_alike hZ.alike Ar_1.2.1) (g := (mkF m 1 #[.val (.ref a0), .val (.ref a1), .unset] [(.ref a0)])) rfl rfl (hb hby d3_1) t (by rw [len_of S_1 M_1]; exact k)) ?_
  refine own_go (B := s₁.setTop (mkF m 3 #[.val (.ref a0), .val (.ref a1), .unset] [(.ref a1), (.int (4 : Int32))])) (fun t k => ?_) ?_
  · show Steps p.tables e below (s₁.setTop (mkF m 2 #[.val (.ref a0), .val (.ref a1), .unset] [(.int (4 : Int32))])) _
    refine XS.aloadN X0.here hx rfl (hb hby d3_2) rfl rfl ?_
    exact k
  obtain ⟨cl_2, Ar_2, -, S_2, M_2, -, -⟩ := id V1
  refine own_go (B := s₁.setTop (mkF m 4 #[.val (.ref a0), .val (.ref a1), .unset] [(.int (4 : Int32)), (.int (4 : Int32))])) (fun t k => X0.arraylength hx (by rw [(e0 : _ = _)]; exact Ar_2.1) (State.isArrayOf_alike hZ.alike Ar_2.2.1) (g := (mkF m 3 #[.val (.ref a0), .val (.ref a1), .unset] [(.ref a1), (.int (4 : Int32))])) rfl rfl (hb hby d3_3) t (by rw [len_of S_2 M_2]; exact k)) ?_
  refine own_go (B := s₁.setTop (mkF m 7 #[.val (.ref a0), .val (.ref a1), .unset] [])) (fun t k => ?_) ?_
  · show Steps p.tables e below (s₁.setTop (mkF m 4 #[.val (.ref a0), .val (.ref a1), .unset] [(.int (4 : Int32)), (.int (4 : Int32))])) _
    refine XS.icmpNo X0.here hx rfl (hb hby d3_4) rfl (teq (by decide : (4 : Int32) = (4 : Int32))).2 ?_
    exact k
  refine own_go (B := s₁.setTop (mkF m 11 #[.val (.ref a0), .val (.ref a1), .val (.int (0 : Int32))] [(.ref a0), (.int (0 : Int32))])) (fun t k => ?_) ?_
  · show Steps p.tables e below (s₁.setTop (mkF m 7 #[.val (.ref a0), .val (.ref a1), .unset] [])) _
    refine XS.iconst X0.here hx rfl (hb hby d3_7) ?_
    show Steps p.tables e below (s₁.setTop (mkF m 8 #[.val (.ref a0), .val (.ref a1), .unset] [(.int (0 : Int32))])) _
    refine XS.istoreN X0.here hx rfl (hb hby d3_8) rfl (l' := #[.val (.ref a0), .val (.ref a1), .val (.int (0 : Int32))]) rfl ?_
    show Steps p.tables e below (s₁.setTop (mkF m 9 #[.val (.ref a0), .val (.ref a1), .val (.int (0 : Int32))] [])) _
    refine XS.iloadN X0.here hx rfl (hb hby d3_9) rfl ?_
    show Steps p.tables e below (s₁.setTop (mkF m 10 #[.val (.ref a0), .val (.ref a1), .val (.int (0 : Int32))] [(.int (0 : Int32))])) _
    refine XS.aloadN X0.here hx rfl (hb hby d3_10) rfl rfl ?_
    exact k
  obtain ⟨cl_3, Ar_3, -, S_3, M_3, -, -⟩ := id V0
  refine own_go (B := s₁.setTop (mkF m 12 #[.val (.ref a0), .val (.ref a1), .val (.int (0 : Int32))] [(.int (4 : Int32)), (.int (0 : Int32))])) (fun t k => X0.arraylength hx (by rw [(e0 : _ = _)]; exact Ar_3.1) (State.isArrayOf_alike hZ.alike Ar_3.2.1) (g := (mkF m 11 #[.val (.ref a0), .val (.ref a1), .val (.int (0 : Int32))] [(.ref a0), (.int (0 : Int32))])) rfl rfl (hb hby d3_11) t (by rw [len_of S_3 M_3]; exact k)) ?_
  refine own_go (B := s₁.setTop (mkF m 15 #[.val (.ref a0), .val (.ref a1), .val (.int (0 : Int32))] [])) (fun t k => ?_) ?_
  · show Steps p.tables e below (s₁.setTop (mkF m 12 #[.val (.ref a0), .val (.ref a1), .val (.int (0 : Int32))] [(.int (4 : Int32)), (.int (0 : Int32))])) _
    refine XS.icmpNo X0.here hx rfl (hb hby d3_12) rfl (tlt (by decide : (0 : Int32) < (4 : Int32))).2.1 ?_
    exact k
  refine own_go (B := s₁.setTop (mkF m 17 #[.val (.ref a0), .val (.ref a1), .val (.int (0 : Int32))] [(.int (0 : Int32)), (.ref a0)])) (fun t k => ?_) ?_
  · show Steps p.tables e below (s₁.setTop (mkF m 15 #[.val (.ref a0), .val (.ref a1), .val (.int (0 : Int32))] [])) _
    refine XS.aloadN X0.here hx rfl (hb hby d3_15) rfl rfl ?_
    show Steps p.tables e below (s₁.setTop (mkF m 16 #[.val (.ref a0), .val (.ref a1), .val (.int (0 : Int32))] [(.ref a0)])) _
    refine XS.iloadN X0.here hx rfl (hb hby d3_16) rfl ?_
    exact k
  obtain ⟨cl_4, Ar_4, q_4, S_4, M_4, H_4, G_4⟩ := id V0
  have hin_4 : ¬ ((0 : Int32) < 0 ∨ cl_4.slots.size ≤ ((0 : Int32)).toNatClampNeg) := inb_of S_4 ⟨by decide, by decide⟩
  have hat_4 : cl_4.slots[((0 : Int32)).toNatClampNeg]? = some (.int (82 : Int32)) := H_4.at hin_4 rfl
  refine own_go (B := s₁.setTop (mkF m 18 #[.val (.ref a0), .val (.ref a1), .val (.int (0 : Int32))] [(.int (82 : Int32))])) (fun t k => X0.baloadBytes hx (j := (0 : Int32)) (v := (.int (82 : Int32))) (by rw [(e0 : _ = _)]; exact Ar_4.1) (State.isArrayOf_alike hZ.alike Ar_4.2.1) Ar_4.2.2 hin_4 hat_4 (g := (mkF m 17 #[.val (.ref a0), .val (.ref a1), .val (.int (0 : Int32))] [(.int (0 : Int32)), (.ref a0)])) rfl rfl (hb hby d3_17) t k) ?_
  refine own_go (B := s₁.setTop (mkF m 20 #[.val (.ref a0), .val (.ref a1), .val (.int (0 : Int32))] [(.int (0 : Int32)), (.ref a1), (.int (82 : Int32))])) (fun t k => ?_) ?_
  · show Steps p.tables e below (s₁.setTop (mkF m 18 #[.val (.ref a0), .val (.ref a1), .val (.int (0 : Int32))] [(.int (82 : Int32))])) _
    refine XS.aloadN X0.here hx rfl (hb hby d3_18) rfl rfl ?_
    show Steps p.tables e below (s₁.setTop (mkF m 19 #[.val (.ref a0), .val (.ref a1), .val (.int (0 : Int32))] [(.ref a1), (.int (82 : Int32))])) _
    refine XS.iloadN X0.here hx rfl (hb hby d3_19) rfl ?_
    exact k
  obtain ⟨cl_5, Ar_5, q_5, S_5, M_5, H_5, G_5⟩ := id V1
  have hin_5 : ¬ ((0 : Int32) < 0 ∨ cl_5.slots.size ≤ ((0 : Int32)).toNatClampNeg) := inb_of S_5 ⟨by decide, by decide⟩
  have hat_5 : cl_5.slots[((0 : Int32)).toNatClampNeg]? = some (.int (82 : Int32)) := H_5.at hin_5 rfl
  refine own_go (B := s₁.setTop (mkF m 21 #[.val (.ref a0), .val (.ref a1), .val (.int (0 : Int32))] [(.int (82 : Int32)), (.int (82 : Int32))])) (fun t k => X0.baloadBytes hx (j := (0 : Int32)) (v := (.int (82 : Int32))) (by rw [(e0 : _ = _)]; exact Ar_5.1) (State.isArrayOf_alike hZ.alike Ar_5.2.1) Ar_5.2.2 hin_5 hat_5 (g := (mkF m 20 #[.val (.ref a0), .val (.ref a1), .val (.int (0 : Int32))] [(.int (0 : Int32)), (.ref a1), (.int (82 : Int32))])) rfl rfl (hb hby d3_20) t k) ?_
  refine own_go (B := s₁.setTop (mkF m 26 #[.val (.ref a0), .val (.ref a1), .val (.int (0 : Int32))] [])) (fun t k => ?_) ?_
  · show Steps p.tables e below (s₁.setTop (mkF m 21 #[.val (.ref a0), .val (.ref a1), .val (.int (0 : Int32))] [(.int (82 : Int32)), (.int (82 : Int32))])) _
    refine XS.icmpYes X0.here hx rfl (pc0 := 21) (pc' := 26) rfl (hb hby d3_21) rfl (teq (by decide : (82 : Int32) = (82 : Int32))).1 (by decide) (by decide) ?_
    exact k
  refine own_go (B := s₁.setTop (mkF m 11 #[.val (.ref a0), .val (.ref a1), .val (.int (1 : Int32))] [(.ref a0), (.int (1 : Int32))])) (fun t k => ?_) ?_
  · show Steps p.tables e below (s₁.setTop (mkF m 26 #[.val (.ref a0), .val (.ref a1), .val (.int (0 : Int32))] [])) _
    refine XS.iinc X0.here hx rfl (hb hby d3_26) rfl (l' := #[.val (.ref a0), .val (.ref a1), .val (.int (1 : Int32))]) rfl ?_
    show Steps p.tables e below (s₁.setTop (mkF m 29 #[.val (.ref a0), .val (.ref a1), .val (.int (1 : Int32))] [])) _
    refine XS.goto X0.here hx rfl (pc0 := 29) (pc' := 9) rfl (hb hby d3_29) (by decide) (by decide) ?_
    show Steps p.tables e below (s₁.setTop (mkF m 9 #[.val (.ref a0), .val (.ref a1), .val (.int (1 : Int32))] [])) _
    refine XS.iloadN X0.here hx rfl (hb hby d3_9) rfl ?_
    show Steps p.tables e below (s₁.setTop (mkF m 10 #[.val (.ref a0), .val (.ref a1), .val (.int (1 : Int32))] [(.int (1 : Int32))])) _
    refine XS.aloadN X0.here hx rfl (hb hby d3_10) rfl rfl ?_
    exact k
  obtain ⟨cl_6, Ar_6, -, S_6, M_6, -, -⟩ := id V0
  refine own_go (B := s₁.setTop (mkF m 12 #[.val (.ref a0), .val (.ref a1), .val (.int (1 : Int32))] [(.int (4 : Int32)), (.int (1 : Int32))])) (fun t k => X0.arraylength hx (by rw [(e0 : _ = _)]; exact Ar_6.1) (State.isArrayOf_alike hZ.alike Ar_6.2.1) (g := (mkF m 11 #[.val (.ref a0), .val (.ref a1), .val (.int (1 : Int32))] [(.ref a0), (.int (1 : Int32))])) rfl rfl (hb hby d3_11) t (by rw [len_of S_6 M_6]; exact k)) ?_
  refine own_go (B := s₁.setTop (mkF m 15 #[.val (.ref a0), .val (.ref a1), .val (.int (1 : Int32))] [])) (fun t k => ?_) ?_
  · show Steps p.tables e below (s₁.setTop (mkF m 12 #[.val (.ref a0), .val (.ref a1), .val (.int (1 : Int32))] [(.int (4 : Int32)), (.int (1 : Int32))])) _
    refine XS.icmpNo X0.here hx rfl (hb hby d3_12) rfl (tlt (by decide : (1 : Int32) < (4 : Int32))).2.1 ?_
    exact k
  refine own_go (B := s₁.setTop (mkF m 17 #[.val (.ref a0), .val (.ref a1), .val (.int (1 : Int32))] [(.int (1 : Int32)), (.ref a0)])) (fun t k => ?_) ?_
  · show Steps p.tables e below (s₁.setTop (mkF m 15 #[.val (.ref a0), .val (.ref a1), .val (.int (1 : Int32))] [])) _
    refine XS.aloadN X0.here hx rfl (hb hby d3_15) rfl rfl ?_
    show Steps p.tables e below (s₁.setTop (mkF m 16 #[.val (.ref a0), .val (.ref a1), .val (.int (1 : Int32))] [(.ref a0)])) _
    refine XS.iloadN X0.here hx rfl (hb hby d3_16) rfl ?_
    exact k
  obtain ⟨cl_7, Ar_7, q_7, S_7, M_7, H_7, G_7⟩ := id V0
  have hin_7 : ¬ ((1 : Int32) < 0 ∨ cl_7.slots.size ≤ ((1 : Int32)).toNatClampNeg) := inb_of S_7 ⟨by decide, by decide⟩
  have hat_7 : cl_7.slots[((1 : Int32)).toNatClampNeg]? = some (.int (101 : Int32)) := H_7.at hin_7 rfl
  refine own_go (B := s₁.setTop (mkF m 18 #[.val (.ref a0), .val (.ref a1), .val (.int (1 : Int32))] [(.int (101 : Int32))])) (fun t k => X0.baloadBytes hx (j := (1 : Int32)) (v := (.int (101 : Int32))) (by rw [(e0 : _ = _)]; exact Ar_7.1) (State.isArrayOf_alike hZ.alike Ar_7.2.1) Ar_7.2.2 hin_7 hat_7 (g := (mkF m 17 #[.val (.ref a0), .val (.ref a1), .val (.int (1 : Int32))] [(.int (1 : Int32)), (.ref a0)])) rfl rfl (hb hby d3_17) t k) ?_
  refine own_go (B := s₁.setTop (mkF m 20 #[.val (.ref a0), .val (.ref a1), .val (.int (1 : Int32))] [(.int (1 : Int32)), (.ref a1), (.int (101 : Int32))])) (fun t k => ?_) ?_
  · show Steps p.tables e below (s₁.setTop (mkF m 18 #[.val (.ref a0), .val (.ref a1), .val (.int (1 : Int32))] [(.int (101 : Int32))])) _
    refine XS.aloadN X0.here hx rfl (hb hby d3_18) rfl rfl ?_
    show Steps p.tables e below (s₁.setTop (mkF m 19 #[.val (.ref a0), .val (.ref a1), .val (.int (1 : Int32))] [(.ref a1), (.int (101 : Int32))])) _
    refine XS.iloadN X0.here hx rfl (hb hby d3_19) rfl ?_
    exact k
  obtain ⟨cl_8, Ar_8, q_8, S_8, M_8, H_8, G_8⟩ := id V1
  have hin_8 : ¬ ((1 : Int32) < 0 ∨ cl_8.slots.size ≤ ((1 : Int32)).toNatClampNeg) := inb_of S_8 ⟨by decide, by decide⟩
  have hat_8 : cl_8.slots[((1 : Int32)).toNatClampNeg]? = some (.int (101 : Int32)) := H_8.at hin_8 rfl
  refine own_go (B := s₁.setTop (mkF m 21 #[.val (.ref a0), .val (.ref a1), .val (.int (1 : Int32))] [(.int (101 : Int32)), (.int (101 : Int32))])) (fun t k => X0.baloadBytes hx (j := (1 : Int32)) (v := (.int (101 : Int32))) (by rw [(e0 : _ = _)]; exact Ar_8.1) (State.isArrayOf_alike hZ.alike Ar_8.2.1) Ar_8.2.2 hin_8 hat_8 (g := (mkF m 20 #[.val (.ref a0), .val (.ref a1), .val (.int (1 : Int32))] [(.int (1 : Int32)), (.ref a1), (.int (101 : Int32))])) rfl rfl (hb hby d3_20) t k) ?_
  refine own_go (B := s₁.setTop (mkF m 26 #[.val (.ref a0), .val (.ref a1), .val (.int (1 : Int32))] [])) (fun t k => ?_) ?_
  · show Steps p.tables e below (s₁.setTop (mkF m 21 #[.val (.ref a0), .val (.ref a1), .val (.int (1 : Int32))] [(.int (101 : Int32)), (.int (101 : Int32))])) _
    refine XS.icmpYes X0.here hx rfl (pc0 := 21) (pc' := 26) rfl (hb hby d3_21) rfl (teq (by decide : (101 : Int32) = (101 : Int32))).1 (by decide) (by decide) ?_
    exact k
  refine own_go (B := s₁.setTop (mkF m 11 #[.val (.ref a0), .val (.ref a1), .val (.int (2 : Int32))] [(.ref a0), (.int (2 : Int32))])) (fun t k => ?_) ?_
  · show Steps p.tables e below (s₁.setTop (mkF m 26 #[.val (.ref a0), .val (.ref a1), .val (.int (1 : Int32))] [])) _
    refine XS.iinc X0.here hx rfl (hb hby d3_26) rfl (l' := #[.val (.ref a0), .val (.ref a1), .val (.int (2 : Int32))]) rfl ?_
    show Steps p.tables e below (s₁.setTop (mkF m 29 #[.val (.ref a0), .val (.ref a1), .val (.int (2 : Int32))] [])) _
    refine XS.goto X0.here hx rfl (pc0 := 29) (pc' := 9) rfl (hb hby d3_29) (by decide) (by decide) ?_
    show Steps p.tables e below (s₁.setTop (mkF m 9 #[.val (.ref a0), .val (.ref a1), .val (.int (2 : Int32))] [])) _
    refine XS.iloadN X0.here hx rfl (hb hby d3_9) rfl ?_
    show Steps p.tables e below (s₁.setTop (mkF m 10 #[.val (.ref a0), .val (.ref a1), .val (.int (2 : Int32))] [(.int (2 : Int32))])) _
    refine XS.aloadN X0.here hx rfl (hb hby d3_10) rfl rfl ?_
    exact k
  obtain ⟨cl_9, Ar_9, -, S_9, M_9, -, -⟩ := id V0
  refine own_go (B := s₁.setTop (mkF m 12 #[.val (.ref a0), .val (.ref a1), .val (.int (2 : Int32))] [(.int (4 : Int32)), (.int (2 : Int32))])) (fun t k => X0.arraylength hx (by rw [(e0 : _ = _)]; exact Ar_9.1) (State.isArrayOf_alike hZ.alike Ar_9.2.1) (g := (mkF m 11 #[.val (.ref a0), .val (.ref a1), .val (.int (2 : Int32))] [(.ref a0), (.int (2 : Int32))])) rfl rfl (hb hby d3_11) t (by rw [len_of S_9 M_9]; exact k)) ?_
  refine own_go (B := s₁.setTop (mkF m 15 #[.val (.ref a0), .val (.ref a1), .val (.int (2 : Int32))] [])) (fun t k => ?_) ?_
  · show Steps p.tables e below (s₁.setTop (mkF m 12 #[.val (.ref a0), .val (.ref a1), .val (.int (2 : Int32))] [(.int (4 : Int32)), (.int (2 : Int32))])) _
    refine XS.icmpNo X0.here hx rfl (hb hby d3_12) rfl (tlt (by decide : (2 : Int32) < (4 : Int32))).2.1 ?_
    exact k
  refine own_go (B := s₁.setTop (mkF m 17 #[.val (.ref a0), .val (.ref a1), .val (.int (2 : Int32))] [(.int (2 : Int32)), (.ref a0)])) (fun t k => ?_) ?_
  · show Steps p.tables e below (s₁.setTop (mkF m 15 #[.val (.ref a0), .val (.ref a1), .val (.int (2 : Int32))] [])) _
    refine XS.aloadN X0.here hx rfl (hb hby d3_15) rfl rfl ?_
    show Steps p.tables e below (s₁.setTop (mkF m 16 #[.val (.ref a0), .val (.ref a1), .val (.int (2 : Int32))] [(.ref a0)])) _
    refine XS.iloadN X0.here hx rfl (hb hby d3_16) rfl ?_
    exact k
  obtain ⟨cl_10, Ar_10, q_10, S_10, M_10, H_10, G_10⟩ := id V0
  have hin_10 : ¬ ((2 : Int32) < 0 ∨ cl_10.slots.size ≤ ((2 : Int32)).toNatClampNeg) := inb_of S_10 ⟨by decide, by decide⟩
  have hat_10 : cl_10.slots[((2 : Int32)).toNatClampNeg]? = some (.int (97 : Int32)) := H_10.at hin_10 rfl
  refine own_go (B := s₁.setTop (mkF m 18 #[.val (.ref a0), .val (.ref a1), .val (.int (2 : Int32))] [(.int (97 : Int32))])) (fun t k => X0.baloadBytes hx (j := (2 : Int32)) (v := (.int (97 : Int32))) (by rw [(e0 : _ = _)]; exact Ar_10.1) (State.isArrayOf_alike hZ.alike Ar_10.2.1) Ar_10.2.2 hin_10 hat_10 (g := (mkF m 17 #[.val (.ref a0), .val (.ref a1), .val (.int (2 : Int32))] [(.int (2 : Int32)), (.ref a0)])) rfl rfl (hb hby d3_17) t k) ?_
  refine own_go (B := s₁.setTop (mkF m 20 #[.val (.ref a0), .val (.ref a1), .val (.int (2 : Int32))] [(.int (2 : Int32)), (.ref a1), (.int (97 : Int32))])) (fun t k => ?_) ?_
  · show Steps p.tables e below (s₁.setTop (mkF m 18 #[.val (.ref a0), .val (.ref a1), .val (.int (2 : Int32))] [(.int (97 : Int32))])) _
    refine XS.aloadN X0.here hx rfl (hb hby d3_18) rfl rfl ?_
    show Steps p.tables e below (s₁.setTop (mkF m 19 #[.val (.ref a0), .val (.ref a1), .val (.int (2 : Int32))] [(.ref a1), (.int (97 : Int32))])) _
    refine XS.iloadN X0.here hx rfl (hb hby d3_19) rfl ?_
    exact k
  obtain ⟨cl_11, Ar_11, q_11, S_11, M_11, H_11, G_11⟩ := id V1
  have hin_11 : ¬ ((2 : Int32) < 0 ∨ cl_11.slots.size ≤ ((2 : Int32)).toNatClampNeg) := inb_of S_11 ⟨by decide, by decide⟩
  have hat_11 : cl_11.slots[((2 : Int32)).toNatClampNeg]? = some (.int (97 : Int32)) := H_11.at hin_11 rfl
  refine own_go (B := s₁.setTop (mkF m 21 #[.val (.ref a0), .val (.ref a1), .val (.int (2 : Int32))] [(.int (97 : Int32)), (.int (97 : Int32))])) (fun t k => X0.baloadBytes hx (j := (2 : Int32)) (v := (.int (97 : Int32))) (by rw [(e0 : _ = _)]; exact Ar_11.1) (State.isArrayOf_alike hZ.alike Ar_11.2.1) Ar_11.2.2 hin_11 hat_11 (g := (mkF m 20 #[.val (.ref a0), .val (.ref a1), .val (.int (2 : Int32))] [(.int (2 : Int32)), (.ref a1), (.int (97 : Int32))])) rfl rfl (hb hby d3_20) t k) ?_
  refine own_go (B := s₁.setTop (mkF m 26 #[.val (.ref a0), .val (.ref a1), .val (.int (2 : Int32))] [])) (fun t k => ?_) ?_
  · show Steps p.tables e below (s₁.setTop (mkF m 21 #[.val (.ref a0), .val (.ref a1), .val (.int (2 : Int32))] [(.int (97 : Int32)), (.int (97 : Int32))])) _
    refine XS.icmpYes X0.here hx rfl (pc0 := 21) (pc' := 26) rfl (hb hby d3_21) rfl (teq (by decide : (97 : Int32) = (97 : Int32))).1 (by decide) (by decide) ?_
    exact k
  refine own_go (B := s₁.setTop (mkF m 11 #[.val (.ref a0), .val (.ref a1), .val (.int (3 : Int32))] [(.ref a0), (.int (3 : Int32))])) (fun t k => ?_) ?_
  · show Steps p.tables e below (s₁.setTop (mkF m 26 #[.val (.ref a0), .val (.ref a1), .val (.int (2 : Int32))] [])) _
    refine XS.iinc X0.here hx rfl (hb hby d3_26) rfl (l' := #[.val (.ref a0), .val (.ref a1), .val (.int (3 : Int32))]) rfl ?_
    show Steps p.tables e below (s₁.setTop (mkF m 29 #[.val (.ref a0), .val (.ref a1), .val (.int (3 : Int32))] [])) _
    refine XS.goto X0.here hx rfl (pc0 := 29) (pc' := 9) rfl (hb hby d3_29) (by decide) (by decide) ?_
    show Steps p.tables e below (s₁.setTop (mkF m 9 #[.val (.ref a0), .val (.ref a1), .val (.int (3 : Int32))] [])) _
    refine XS.iloadN X0.here hx rfl (hb hby d3_9) rfl ?_
    show Steps p.tables e below (s₁.setTop (mkF m 10 #[.val (.ref a0), .val (.ref a1), .val (.int (3 : Int32))] [(.int (3 : Int32))])) _
    refine XS.aloadN X0.here hx rfl (hb hby d3_10) rfl rfl ?_
    exact k
  obtain ⟨cl_12, Ar_12, -, S_12, M_12, -, -⟩ := id V0
  refine own_go (B := s₁.setTop (mkF m 12 #[.val (.ref a0), .val (.ref a1), .val (.int (3 : Int32))] [(.int (4 : Int32)), (.int (3 : Int32))])) (fun t k => X0.arraylength hx (by rw [(e0 : _ = _)]; exact Ar_12.1) (State.isArrayOf_alike hZ.alike Ar_12.2.1) (g := (mkF m 11 #[.val (.ref a0), .val (.ref a1), .val (.int (3 : Int32))] [(.ref a0), (.int (3 : Int32))])) rfl rfl (hb hby d3_11) t (by rw [len_of S_12 M_12]; exact k)) ?_
  refine own_go (B := s₁.setTop (mkF m 15 #[.val (.ref a0), .val (.ref a1), .val (.int (3 : Int32))] [])) (fun t k => ?_) ?_
  · show Steps p.tables e below (s₁.setTop (mkF m 12 #[.val (.ref a0), .val (.ref a1), .val (.int (3 : Int32))] [(.int (4 : Int32)), (.int (3 : Int32))])) _
    refine XS.icmpNo X0.here hx rfl (hb hby d3_12) rfl (tlt (by decide : (3 : Int32) < (4 : Int32))).2.1 ?_
    exact k
  refine own_go (B := s₁.setTop (mkF m 17 #[.val (.ref a0), .val (.ref a1), .val (.int (3 : Int32))] [(.int (3 : Int32)), (.ref a0)])) (fun t k => ?_) ?_
  · show Steps p.tables e below (s₁.setTop (mkF m 15 #[.val (.ref a0), .val (.ref a1), .val (.int (3 : Int32))] [])) _
    refine XS.aloadN X0.here hx rfl (hb hby d3_15) rfl rfl ?_
    show Steps p.tables e below (s₁.setTop (mkF m 16 #[.val (.ref a0), .val (.ref a1), .val (.int (3 : Int32))] [(.ref a0)])) _
    refine XS.iloadN X0.here hx rfl (hb hby d3_16) rfl ?_
    exact k
  obtain ⟨cl_13, Ar_13, q_13, S_13, M_13, H_13, G_13⟩ := id V0
  have hin_13 : ¬ ((3 : Int32) < 0 ∨ cl_13.slots.size ≤ ((3 : Int32)).toNatClampNeg) := inb_of S_13 ⟨by decide, by decide⟩
  have hat_13 : cl_13.slots[((3 : Int32)).toNatClampNeg]? = some (.int (108 : Int32)) := H_13.at hin_13 rfl
  refine own_go (B := s₁.setTop (mkF m 18 #[.val (.ref a0), .val (.ref a1), .val (.int (3 : Int32))] [(.int (108 : Int32))])) (fun t k => X0.baloadBytes hx (j := (3 : Int32)) (v := (.int (108 : Int32))) (by rw [(e0 : _ = _)]; exact Ar_13.1) (State.isArrayOf_alike hZ.alike Ar_13.2.1) Ar_13.2.2 hin_13 hat_13 (g := (mkF m 17 #[.val (.ref a0), .val (.ref a1), .val (.int (3 : Int32))] [(.int (3 : Int32)), (.ref a0)])) rfl rfl (hb hby d3_17) t k) ?_
  refine own_go (B := s₁.setTop (mkF m 20 #[.val (.ref a0), .val (.ref a1), .val (.int (3 : Int32))] [(.int (3 : Int32)), (.ref a1), (.int (108 : Int32))])) (fun t k => ?_) ?_
  · show Steps p.tables e below (s₁.setTop (mkF m 18 #[.val (.ref a0), .val (.ref a1), .val (.int (3 : Int32))] [(.int (108 : Int32))])) _
    refine XS.aloadN X0.here hx rfl (hb hby d3_18) rfl rfl ?_
    show Steps p.tables e below (s₁.setTop (mkF m 19 #[.val (.ref a0), .val (.ref a1), .val (.int (3 : Int32))] [(.ref a1), (.int (108 : Int32))])) _
    refine XS.iloadN X0.here hx rfl (hb hby d3_19) rfl ?_
    exact k
  obtain ⟨cl_14, Ar_14, q_14, S_14, M_14, H_14, G_14⟩ := id V1
  have hin_14 : ¬ ((3 : Int32) < 0 ∨ cl_14.slots.size ≤ ((3 : Int32)).toNatClampNeg) := inb_of S_14 ⟨by decide, by decide⟩
  have hat_14 : cl_14.slots[((3 : Int32)).toNatClampNeg]? = some (.int (108 : Int32)) := H_14.at hin_14 rfl
  refine own_go (B := s₁.setTop (mkF m 21 #[.val (.ref a0), .val (.ref a1), .val (.int (3 : Int32))] [(.int (108 : Int32)), (.int (108 : Int32))])) (fun t k => X0.baloadBytes hx (j := (3 : Int32)) (v := (.int (108 : Int32))) (by rw [(e0 : _ = _)]; exact Ar_14.1) (State.isArrayOf_alike hZ.alike Ar_14.2.1) Ar_14.2.2 hin_14 hat_14 (g := (mkF m 20 #[.val (.ref a0), .val (.ref a1), .val (.int (3 : Int32))] [(.int (3 : Int32)), (.ref a1), (.int (108 : Int32))])) rfl rfl (hb hby d3_20) t k) ?_
  refine own_go (B := s₁.setTop (mkF m 26 #[.val (.ref a0), .val (.ref a1), .val (.int (3 : Int32))] [])) (fun t k => ?_) ?_
  · show Steps p.tables e below (s₁.setTop (mkF m 21 #[.val (.ref a0), .val (.ref a1), .val (.int (3 : Int32))] [(.int (108 : Int32)), (.int (108 : Int32))])) _
    refine XS.icmpYes X0.here hx rfl (pc0 := 21) (pc' := 26) rfl (hb hby d3_21) rfl (teq (by decide : (108 : Int32) = (108 : Int32))).1 (by decide) (by decide) ?_
    exact k
  refine own_go (B := s₁.setTop (mkF m 11 #[.val (.ref a0), .val (.ref a1), .val (.int (4 : Int32))] [(.ref a0), (.int (4 : Int32))])) (fun t k => ?_) ?_
  · show Steps p.tables e below (s₁.setTop (mkF m 26 #[.val (.ref a0), .val (.ref a1), .val (.int (3 : Int32))] [])) _
    refine XS.iinc X0.here hx rfl (hb hby d3_26) rfl (l' := #[.val (.ref a0), .val (.ref a1), .val (.int (4 : Int32))]) rfl ?_
    show Steps p.tables e below (s₁.setTop (mkF m 29 #[.val (.ref a0), .val (.ref a1), .val (.int (4 : Int32))] [])) _
    refine XS.goto X0.here hx rfl (pc0 := 29) (pc' := 9) rfl (hb hby d3_29) (by decide) (by decide) ?_
    show Steps p.tables e below (s₁.setTop (mkF m 9 #[.val (.ref a0), .val (.ref a1), .val (.int (4 : Int32))] [])) _
    refine XS.iloadN X0.here hx rfl (hb hby d3_9) rfl ?_
    show Steps p.tables e below (s₁.setTop (mkF m 10 #[.val (.ref a0), .val (.ref a1), .val (.int (4 : Int32))] [(.int (4 : Int32))])) _
    refine XS.aloadN X0.here hx rfl (hb hby d3_10) rfl rfl ?_
    exact k
  obtain ⟨cl_15, Ar_15, -, S_15, M_15, -, -⟩ := id V0
  refine own_go (B := s₁.setTop (mkF m 12 #[.val (.ref a0), .val (.ref a1), .val (.int (4 : Int32))] [(.int (4 : Int32)), (.int (4 : Int32))])) (fun t k => X0.arraylength hx (by rw [(e0 : _ = _)]; exact Ar_15.1) (State.isArrayOf_alike hZ.alike Ar_15.2.1) (g := (mkF m 11 #[.val (.ref a0), .val (.ref a1), .val (.int (4 : Int32))] [(.ref a0), (.int (4 : Int32))])) rfl rfl (hb hby d3_11) t (by rw [len_of S_15 M_15]; exact k)) ?_
  refine own_go (B := s₁.setTop (mkF m 32 #[.val (.ref a0), .val (.ref a1), .val (.int (4 : Int32))] [])) (fun t k => ?_) ?_
  · show Steps p.tables e below (s₁.setTop (mkF m 12 #[.val (.ref a0), .val (.ref a1), .val (.int (4 : Int32))] [(.int (4 : Int32)), (.int (4 : Int32))])) _
    refine XS.icmpYes X0.here hx rfl (pc0 := 12) (pc' := 32) rfl (hb hby d3_12) rfl (flt (by decide : ¬ ((4 : Int32) < (4 : Int32)))).2.1 (by decide) (by decide) ?_
    exact k
  refine own_go (B := s₁.setTop (mkF m 33 #[.val (.ref a0), .val (.ref a1), .val (.int (4 : Int32))] [(.int (1 : Int32))])) (fun t k => ?_) ?_
  · show Steps p.tables e below (s₁.setTop (mkF m 32 #[.val (.ref a0), .val (.ref a1), .val (.int (4 : Int32))] [])) _
    refine XS.iconst X0.here hx rfl (hb hby d3_32) ?_
    exact k
  obtain ⟨fs, hr, hrun, hended, hW, hsame⟩ := X0.leave (v := some (.int (1 : Int32))) (fun h => by rw [Bd.returns] at h; cases h)
  refine ⟨_, _, ?_, hrun, hended, _, _, rfl, ?_, ⟨_, rfl⟩, hW, hsame.mono (by decide) (by decide)⟩
  · show Steps p.tables e below (s₁.setTop (mkF m 33 #[.val (.ref a0), .val (.ref a1), .val (.int (4 : Int32))] [(.int (1 : Int32))])) _
    exact retN X0 hx (t := .boolean) Bd.returns (by simp) (hb hby d3_33) hr
  · show QLRealReal Z a0 a1 k0 k1 h0 n0 _ s₁.heap _
    rw [e0]
    exact ⟨rfl, N0, rfl⟩
theorem ef_ERealReal (m : MethodId) (a0 : Addr) (a1 : Addr) : entryFrame m #[(.ref a0), (.ref a1)] 3 = mkF m 0 #[.val (.ref a0), .val (.ref a1), .unset] [] := by first | (simp [entryFrame, mkF, argsToLocals, Value.category]; done) | rfl
def QERealReal (Z : State) (a0 : Addr) (a1 : Addr) (b0 : Addr) (b1 : Addr) (k0 : ClassId) (k1 : ClassId) (w : Int32) (h0 : Heap) (n0 : Nat) (v : Option Value) (h : Heap) (L : List Loc) : Prop := v = some (.int (1 : Int32)) ∧ Fr n0 L ∧ h = h0
set_option maxRecDepth 65536 in
set_option maxHeartbeats 40000000 in
theorem rmERealReal (l : Launch) (Z : State) (av0 : Array Value) (hw : ∀ d ∈ tables_1, d.before av0 Z = true) (ws : List Jvm.Cond) (a0 : Addr) (a1 : Addr) (b0 : Addr) (b1 : Addr) (k0 : ClassId) (k1 : ClassId) (w : Int32) (h0 : Heap) (n0 : Nat) (Z0 : n0 ≤ h0.size) (E_a0 : Exa Z h0 a0 "java/lang/String") (F_coder_a0 : Fld Z h0 a0 "java/lang/String" "coder" "B" (.int (0 : Int32))) (F_value_a0 : Fld Z h0 a0 "java/lang/String" "value" "[B" (.ref b0)) (E_a1 : Exa Z h0 a1 "java/lang/String") (F_coder_a1 : Fld Z h0 a1 "java/lang/String" "coder" "B" (.int (0 : Int32))) (F_value_a1 : Fld Z h0 a1 "java/lang/String" "value" "[B" (.ref b1)) (V0 : Arv Z h0 b0 k0 .byte (4 : Int32) [(.int (82 : Int32)), (.int (101 : Int32)), (.int (97 : Int32)), (.int (108 : Int32))] (.int 0)) (V1 : Arv Z h0 b1 k1 .byte (4 : Int32) [(.int (82 : Int32)), (.int (101 : Int32)), (.int (97 : Int32)), (.int (108 : Int32))] (.int 0)) (S_COMPACT_STRINGS : Sta Z h0 "java/lang/String" "COMPACT_STRINGS" "Z" (.int w)) (hw0 : ¬ (w = (0 : Int32))) :
    MetFree l (⟨"java/lang/String", "equals", "(Ljava/lang/Object;)Z"⟩ : MethodName) (head1 (Jvm.Cond.code (⟨"java/lang/String", "equals", "(Ljava/lang/Object;)Z"⟩ : MethodName) jdk_42_method_66_code 3 (some .boolean) :: ws) ({ frames := 1, cells := 0, slots := 0, locals := 14 } : Room)) (fun a U => a = #[(.ref a0), (.ref a1)] ∧ Z.Warmed39 U.vm ∧ U.heap = h0) (fun _ _ _ _ _ => True) (fun _ U o U' => ∃ v L, o = .returned v ∧ QERealReal Z a0 a1 b0 b1 k0 k1 w h0 n0 v U'.heap L ∧ FrameEnd U o U' L ({ frames := 1, cells := 0, slots := 0, locals := 14 } : Room).cells ({ frames := 1, cells := 0, slots := 0, locals := 14 } : Room).slots) := by
  refine MetFree.of_bodySF (plainFor_of_name pn_2) hisR ?_
  intro p e s m args below meth c s₁ Bd hml0 hP hK
  obtain ⟨rfl, hZ, hh⟩ := hP
  have hx := Bd.exec
  have hby := Bd.bytes
  have hml : c.maxLocals = 3 := hml0
  have hown : s.vm.findClass "java/lang/String" = some m.cls := findClass_of_methodNamed Bd.named
  have hnm := (name_of_methodNamed Bd.named Bd.method).1
  have X0 : Stand p l e ({ frames := 1, cells := 0, slots := 0, locals := 14 } : Room) s m #[(.ref a0), (.ref a1)] below meth c s₁ [] 0 0 := Stand.of_body Bd
  have e0 : s₁.heap = h0 := by rw [← hh, Bd.state]; rfl
  have N0 := Fr.nil n0
  have K0 : Keep h0 h0 [] := Keep.refl h0 []
  refine own_go (B := s₁.setTop (mkF m 0 #[.val (.ref a0), .val (.ref a1), .unset] [])) (fun t k => castTop (ef_ERealReal m a0 a1) k) ?_
  refine own_go (B := s₁.setTop (mkF m 2 #[.val (.ref a0), .val (.ref a1), .unset] [(.ref a1), (.ref a0)])) (fun t k => ?_) ?_
  · show Steps p.tables e below (s₁.setTop (mkF m 0 #[.val (.ref a0), .val (.ref a1), .unset] [])) _
    refine XS.aloadN X0.here hx rfl (hb hby d2_0) rfl rfl ?_
    show Steps p.tables e below (s₁.setTop (mkF m 1 #[.val (.ref a0), .val (.ref a1), .unset] [(.ref a0)])) _
    refine XS.aloadN X0.here hx rfl (hb hby d2_1) rfl rfl ?_
    exact k
  by_cases hc2 : a0 = a1
  · refine own_go (B := s₁.setTop (mkF m 5 #[.val (.ref a0), .val (.ref a1), .unset] [])) (fun t k => ?_) ?_
    · show Steps p.tables e below (s₁.setTop (mkF m 2 #[.val (.ref a0), .val (.ref a1), .unset] [(.ref a1), (.ref a0)])) _
      refine Jvm.RoadKit.acmp (g := (mkF m 2 #[.val (.ref a0), .val (.ref a1), .unset] [(.ref a1), (.ref a0)])) X0 hx rfl rfl rfl (pc0 := 2) (pc' := 5) (same := true) rfl (hb hby d2_2) rfl (decide_eq_true (congrArg Value.ref hc2)) (by decide) (by decide) ?_
      exact k
    refine own_go (B := s₁.setTop (mkF m 6 #[.val (.ref a0), .val (.ref a1), .unset] [(.int (1 : Int32))])) (fun t k => ?_) ?_
    · show Steps p.tables e below (s₁.setTop (mkF m 5 #[.val (.ref a0), .val (.ref a1), .unset] [])) _
      refine XS.iconst X0.here hx rfl (hb hby d2_5) ?_
      exact k
    obtain ⟨fs, hr, hrun, hended, hW, hsame⟩ := X0.leave (v := some (.int (1 : Int32))) (fun h => by rw [Bd.returns] at h; cases h)
    refine ⟨_, _, ?_, hrun, hended, _, _, rfl, ?_, ⟨_, rfl⟩, hW, hsame.mono (by decide) (by decide)⟩
    · show Steps p.tables e below (s₁.setTop (mkF m 6 #[.val (.ref a0), .val (.ref a1), .unset] [(.int (1 : Int32))])) _
      exact retN X0 hx (t := .boolean) Bd.returns (by simp) (hb hby d2_6) hr
    · show QERealReal Z a0 a1 b0 b1 k0 k1 w h0 n0 _ s₁.heap _
      rw [e0]
      exact ⟨rfl, N0, rfl⟩
  · refine own_go (B := s₁.setTop (mkF m 7 #[.val (.ref a0), .val (.ref a1), .unset] [])) (fun t k => ?_) ?_
    · show Steps p.tables e below (s₁.setTop (mkF m 2 #[.val (.ref a0), .val (.ref a1), .unset] [(.ref a1), (.ref a0)])) _
      refine Jvm.RoadKit.acmp (g := (mkF m 2 #[.val (.ref a0), .val (.ref a1), .unset] [(.ref a1), (.ref a0)])) X0 hx rfl rfl rfl (pc0 := 2) (pc' := 7) (same := false) rfl (hb hby d2_2) rfl (decide_eq_false fun q => hc2 (Value.ref.inj q)) (by decide) (by decide) ?_
      exact k
    refine own_go (B := s₁.setTop (mkF m 8 #[.val (.ref a0), .val (.ref a1), .unset] [(.ref a1)])) (fun t k => ?_) ?_
    · show Steps p.tables e below (s₁.setTop (mkF m 7 #[.val (.ref a0), .val (.ref a1), .unset] [])) _
      refine XS.aloadN X0.here hx rfl (hb hby d2_7) rfl rfl ?_
      exact k
    obtain ⟨T_1, X_1, e_1, st_1⟩ := instY X0 hx hZ hown (hw _ (List.mem_of_getElem? (i := 23) rfl)) e0 (Ins.self E_a1) (g := (mkF m 8 #[.val (.ref a0), .val (.ref a1), .unset] [(.ref a1)])) rfl rfl (hb hby d2_8)
    refine own_go (B := T_1.setTop (mkF m 11 #[.val (.ref a0), .val (.ref a1), .unset] [(.int (1 : Int32))])) (fun t k => st_1 t k) ?_
    refine own_go (B := T_1.setTop (mkF m 14 #[.val (.ref a0), .val (.ref a1), .unset] [])) (fun t k => ?_) ?_
    · show Steps p.tables e below (T_1.setTop (mkF m 11 #[.val (.ref a0), .val (.ref a1), .unset] [(.int (1 : Int32))])) _
      refine XS.ifNo X_1.here hx rfl (hb hby d2_11) rfl ((if0 _ _).trans (feq (by decide : ¬ ((1 : Int32) = (0 : Int32)))).1) ?_
      exact k
    refine own_go (B := T_1.setTop (mkF m 15 #[.val (.ref a0), .val (.ref a1), .unset] [(.ref a1)])) (fun t k => ?_) ?_
    · show Steps p.tables e below (T_1.setTop (mkF m 14 #[.val (.ref a0), .val (.ref a1), .unset] [])) _
      refine XS.aloadN X_1.here hx rfl (hb hby d2_14) rfl rfl ?_
      exact k
    obtain ⟨T_2, X_2, e_2, st_2⟩ := castY X_1 hx hZ hown (hw _ (List.mem_of_getElem? (i := 23) rfl)) e_1 (Ins.self E_a1) (g := (mkF m 15 #[.val (.ref a0), .val (.ref a1), .unset] [(.ref a1)])) rfl rfl (hb hby d2_15)
    refine own_go (B := T_2.setTop (mkF m 18 #[.val (.ref a0), .val (.ref a1), .unset] [(.ref a1)])) (fun t k => st_2 t k) ?_
    refine own_go (B := T_2.setTop (mkF m 19 #[.val (.ref a0), .val (.ref a1), .val (.ref a1)] [])) (fun t k => ?_) ?_
    · show Steps p.tables e below (T_2.setTop (mkF m 18 #[.val (.ref a0), .val (.ref a1), .unset] [(.ref a1)])) _
      refine XS.astoreN X_2.here hx rfl (hb hby d2_18) rfl rfl (l' := #[.val (.ref a0), .val (.ref a1), .val (.ref a1)]) rfl ?_
      exact k
    obtain ⟨T_3, X_3, e_3, st_3⟩ := getS2 X_2 hx hZ hown (host := "") (Or.inl (hw _ (List.mem_of_getElem? (i := 25) rfl))) Via.refl e_2 S_COMPACT_STRINGS (g := (mkF m 19 #[.val (.ref a0), .val (.ref a1), .val (.ref a1)] [])) rfl (hb hby d2_19)
    refine own_go (B := T_3.setTop (mkF m 22 #[.val (.ref a0), .val (.ref a1), .val (.ref a1)] [(.int w)])) (fun t k => st_3 t k) ?_
    refine own_go (B := T_3.setTop (mkF m 25 #[.val (.ref a0), .val (.ref a1), .val (.ref a1)] [])) (fun t k => ?_) ?_
    · show Steps p.tables e below (T_3.setTop (mkF m 22 #[.val (.ref a0), .val (.ref a1), .val (.ref a1)] [(.int w)])) _
      refine XS.ifNo X_3.here hx rfl (hb hby d2_22) rfl ((if0 _ _).trans (feq hw0).1) ?_
      exact k
    refine own_go (B := T_3.setTop (mkF m 26 #[.val (.ref a0), .val (.ref a1), .val (.ref a1)] [(.ref a0)])) (fun t k => ?_) ?_
    · show Steps p.tables e below (T_3.setTop (mkF m 25 #[.val (.ref a0), .val (.ref a1), .val (.ref a1)] [])) _
      refine XS.aloadN X_3.here hx rfl (hb hby d2_25) rfl rfl ?_
      exact k
    obtain ⟨T_4, X_4, e_4, st_4⟩ := getF X_3 hx hZ hown (host := "") (Or.inl (hw _ (List.mem_of_getElem? (i := 26) rfl))) Via.refl e_3 F_coder_a0 (g := (mkF m 26 #[.val (.ref a0), .val (.ref a1), .val (.ref a1)] [(.ref a0)])) rfl rfl (hb hby d2_26)
    refine own_go (B := T_4.setTop (mkF m 29 #[.val (.ref a0), .val (.ref a1), .val (.ref a1)] [(.int (0 : Int32))])) (fun t k => st_4 t k) ?_
    refine own_go (B := T_4.setTop (mkF m 30 #[.val (.ref a0), .val (.ref a1), .val (.ref a1)] [(.ref a1), (.int (0 : Int32))])) (fun t k => ?_) ?_
    · show Steps p.tables e below (T_4.setTop (mkF m 29 #[.val (.ref a0), .val (.ref a1), .val (.ref a1)] [(.int (0 : Int32))])) _
      refine XS.aloadN X_4.here hx rfl (hb hby d2_29) rfl rfl ?_
      exact k
    obtain ⟨T_5, X_5, e_5, st_5⟩ := getF X_4 hx hZ hown (host := "") (Or.inl (hw _ (List.mem_of_getElem? (i := 26) rfl))) Via.refl e_4 F_coder_a1 (g := (mkF m 30 #[.val (.ref a0), .val (.ref a1), .val (.ref a1)] [(.ref a1), (.int (0 : Int32))])) rfl rfl (hb hby d2_30)
    refine own_go (B := T_5.setTop (mkF m 33 #[.val (.ref a0), .val (.ref a1), .val (.ref a1)] [(.int (0 : Int32)), (.int (0 : Int32))])) (fun t k => st_5 t k) ?_
    refine own_go (B := T_5.setTop (mkF m 36 #[.val (.ref a0), .val (.ref a1), .val (.ref a1)] [])) (fun t k => ?_) ?_
    · show Steps p.tables e below (T_5.setTop (mkF m 33 #[.val (.ref a0), .val (.ref a1), .val (.ref a1)] [(.int (0 : Int32)), (.int (0 : Int32))])) _
      refine XS.icmpNo X_5.here hx rfl (hb hby d2_33) rfl (teq (by decide : (0 : Int32) = (0 : Int32))).2 ?_
      exact k
    refine own_go (B := T_5.setTop (mkF m 37 #[.val (.ref a0), .val (.ref a1), .val (.ref a1)] [(.ref a0)])) (fun t k => ?_) ?_
    · show Steps p.tables e below (T_5.setTop (mkF m 36 #[.val (.ref a0), .val (.ref a1), .val (.ref a1)] [])) _
      refine XS.aloadN X_5.here hx rfl (hb hby d2_36) rfl rfl ?_
      exact k
    obtain ⟨T_6, X_6, e_6, st_6⟩ := getF X_5 hx hZ hown (host := "") (Or.inl (hw _ (List.mem_of_getElem? (i := 27) rfl))) Via.refl e_5 F_value_a0 (g := (mkF m 37 #[.val (.ref a0), .val (.ref a1), .val (.ref a1)] [(.ref a0)])) rfl rfl (hb hby d2_37)
    refine own_go (B := T_6.setTop (mkF m 40 #[.val (.ref a0), .val (.ref a1), .val (.ref a1)] [(.ref b0)])) (fun t k => st_6 t k) ?_
    refine own_go (B := T_6.setTop (mkF m 41 #[.val (.ref a0), .val (.ref a1), .val (.ref a1)] [(.ref a1), (.ref b0)])) (fun t k => ?_) ?_
    · show Steps p.tables e below (T_6.setTop (mkF m 40 #[.val (.ref a0), .val (.ref a1), .val (.ref a1)] [(.ref b0)])) _
      refine XS.aloadN X_6.here hx rfl (hb hby d2_40) rfl rfl ?_
      exact k
    obtain ⟨T_7, X_7, e_7, st_7⟩ := getF X_6 hx hZ hown (host := "") (Or.inl (hw _ (List.mem_of_getElem? (i := 27) rfl))) Via.refl e_6 F_value_a1 (g := (mkF m 41 #[.val (.ref a0), .val (.ref a1), .val (.ref a1)] [(.ref a1), (.ref b0)])) rfl rfl (hb hby d2_41)
    refine own_go (B := T_7.setTop (mkF m 44 #[.val (.ref a0), .val (.ref a1), .val (.ref a1)] [(.ref b1), (.ref b0)])) (fun t k => st_7 t k) ?_
    obtain ⟨_, _, ⟨T_8, L_8, k_8, n_8⟩, -, X_8, ⟨Lc_8, hQ_8, l_8, y_8, z_8⟩, st_8⟩ := Jvm.LawKit.callS X_7 hx (y := (⟨"java/lang/StringLatin1", "equals", "([B[B)Z"⟩ : MethodName)) hown (mvT hZ (hw _ (List.mem_of_getElem? (i := 28) rfl))) (mvT hZ (hw _ (List.mem_of_getElem? (i := 29) rfl))) (mvT hZ (hw _ (List.mem_of_getElem? (i := 30) rfl))) (mvT hZ (hw _ (List.mem_of_getElem? (i := 31) rfl))) (by decide) (backOf (W := 0) (rmLRealReal l Z av0 hw [] b0 b1 k0 k1 h0 n0 Z0 V0 V1) hZ (hw _ (List.mem_of_getElem? (i := 31) rfl)) (hw _ (List.mem_of_getElem? (i := 30) rfl)) (by decide) (by decide)) (g := (mkF m 44 #[.val (.ref a0), .val (.ref a1), .val (.ref a1)] [(.ref b1), (.ref b0)])) rfl (by rw [hml]; rfl) (argsL := [(.ref b0), (.ref b1)]) (rest := []) (lenOf pd_0 rfl) rfl (by show 2 * 0 + _ ≤ _; exact Nat.le_of_eq rfl) (hb hby d2_44) (fun _ _ => ⟨rfl, e_7, (by decide : 0 + 0 ≤ _), (by decide : 0 + 0 ≤ _)⟩)
    dsimp only [Pt.U, Pt.locs, Pt.cells, Pt.slots] at X_8 l_8 y_8 z_8 st_8 hQ_8
    subst l_8 y_8 z_8
    obtain ⟨rfl, N_8q, e_8⟩ := hQ_8
    have N_8 := Fr.app N0 N_8q
    refine own_go (B := T_8.setTop (mkF m 47 #[.val (.ref a0), .val (.ref a1), .val (.ref a1)] [(.int (1 : Int32))])) (fun t k => st_8 t k) ?_
    refine own_go (B := T_8.setTop (mkF m 50 #[.val (.ref a0), .val (.ref a1), .val (.ref a1)] [])) (fun t k => ?_) ?_
    · show Steps p.tables e below (T_8.setTop (mkF m 47 #[.val (.ref a0), .val (.ref a1), .val (.ref a1)] [(.int (1 : Int32))])) _
      refine XS.ifNo X_8.here hx rfl (hb hby d2_47) rfl ((if0 _ _).trans (feq (by decide : ¬ ((1 : Int32) = (0 : Int32)))).1) ?_
      exact k
    refine own_go (B := T_8.setTop (mkF m 55 #[.val (.ref a0), .val (.ref a1), .val (.ref a1)] [(.int (1 : Int32))])) (fun t k => ?_) ?_
    · show Steps p.tables e below (T_8.setTop (mkF m 50 #[.val (.ref a0), .val (.ref a1), .val (.ref a1)] [])) _
      refine XS.iconst X_8.here hx rfl (hb hby d2_50) ?_
      show Steps p.tables e below (T_8.setTop (mkF m 51 #[.val (.ref a0), .val (.ref a1), .val (.ref a1)] [(.int (1 : Int32))])) _
      refine XS.goto X_8.here hx rfl (pc0 := 51) (pc' := 55) rfl (hb hby d2_51) (by decide) (by decide) ?_
      exact k
    obtain ⟨fs, hr, hrun, hended, hW, hsame⟩ := X_8.leave (v := some (.int (1 : Int32))) (fun h => by rw [Bd.returns] at h; cases h)
    refine ⟨_, _, ?_, hrun, hended, _, _, rfl, ?_, ⟨_, rfl⟩, hW, hsame.mono (by decide) (by decide)⟩
    · show Steps p.tables e below (T_8.setTop (mkF m 55 #[.val (.ref a0), .val (.ref a1), .val (.ref a1)] [(.int (1 : Int32))])) _
      exact retN X_8 hx (t := .boolean) Bd.returns (by simp) (hb hby d2_55) hr
    · show QERealReal Z a0 a1 b0 b1 k0 k1 w h0 n0 _ T_8.heap _
      rw [e_8]
      exact ⟨rfl, N_8, rfl⟩
theorem ef_LStringReal (m : MethodId) (a0 : Addr) (a1 : Addr) : entryFrame m #[(.ref a0), (.ref a1)] 3 = mkF m 0 #[.val (.ref a0), .val (.ref a1), .unset] [] := by first | (simp [entryFrame, mkF, argsToLocals, Value.category]; done) | rfl
def QLStringReal (Z : State) (a0 : Addr) (a1 : Addr) (k0 : ClassId) (k1 : ClassId) (h0 : Heap) (n0 : Nat) (v : Option Value) (h : Heap) (L : List Loc) : Prop := v = some (.int (0 : Int32)) ∧ Fr n0 L ∧ h = h0
set_option maxRecDepth 65536 in
set_option maxHeartbeats 40000000 in
theorem rmLStringReal (l : Launch) (Z : State) (av0 : Array Value) (hw : ∀ d ∈ tables_1, d.before av0 Z = true) (ws : List Jvm.Cond) (a0 : Addr) (a1 : Addr) (k0 : ClassId) (k1 : ClassId) (h0 : Heap) (n0 : Nat) (Z0 : n0 ≤ h0.size) (V0 : Arv Z h0 a0 k0 .byte (6 : Int32) [(.int (83 : Int32)), (.int (116 : Int32)), (.int (114 : Int32)), (.int (105 : Int32)), (.int (110 : Int32)), (.int (103 : Int32))] (.int 0)) (V1 : Arv Z h0 a1 k1 .byte (4 : Int32) [(.int (82 : Int32)), (.int (101 : Int32)), (.int (97 : Int32)), (.int (108 : Int32))] (.int 0)) :
    MetFree l (⟨"java/lang/StringLatin1", "equals", "([B[B)Z"⟩ : MethodName) (head1 (Jvm.Cond.code (⟨"java/lang/StringLatin1", "equals", "([B[B)Z"⟩ : MethodName) jdk_43_method_13_code 3 (some .boolean) :: ws) ({ frames := 0, cells := 0, slots := 0, locals := 0 } : Room)) (fun a U => a = #[(.ref a0), (.ref a1)] ∧ Z.Warmed39 U.vm ∧ U.heap = h0) (fun _ _ _ _ _ => True) (fun _ U o U' => ∃ v L, o = .returned v ∧ QLStringReal Z a0 a1 k0 k1 h0 n0 v U'.heap L ∧ FrameEnd U o U' L ({ frames := 0, cells := 0, slots := 0, locals := 0 } : Room).cells ({ frames := 0, cells := 0, slots := 0, locals := 0 } : Room).slots) := by
  refine MetFree.of_bodySF (plainFor_of_name pn_3) hisR ?_
  intro p e s m args below meth c s₁ Bd hml0 hP hK
  obtain ⟨rfl, hZ, hh⟩ := hP
  have hx := Bd.exec
  have hby := Bd.bytes
  have hml : c.maxLocals = 3 := hml0
  have hown : s.vm.findClass "java/lang/StringLatin1" = some m.cls := findClass_of_methodNamed Bd.named
  have hnm := (name_of_methodNamed Bd.named Bd.method).1
  have X0 : Stand p l e ({ frames := 0, cells := 0, slots := 0, locals := 0 } : Room) s m #[(.ref a0), (.ref a1)] below meth c s₁ [] 0 0 := Stand.of_body Bd
  have e0 : s₁.heap = h0 := by rw [← hh, Bd.state]; rfl
  have N0 := Fr.nil n0
  have K0 : Keep h0 h0 [] := Keep.refl h0 []
  refine own_go (B := s₁.setTop (mkF m 0 #[.val (.ref a0), .val (.ref a1), .unset] [])) (fun t k => castTop (ef_LStringReal m a0 a1) k) ?_
  refine own_go (B := s₁.setTop (mkF m 1 #[.val (.ref a0), .val (.ref a1), .unset] [(.ref a0)])) (fun t k => ?_) ?_
  · show Steps p.tables e below (s₁.setTop (mkF m 0 #[.val (.ref a0), .val (.ref a1), .unset] [])) _
    refine XS.aloadN X0.here hx rfl (hb hby d3_0) rfl rfl ?_
    exact k
  obtain ⟨cl_1, Ar_1, -, S_1, M_1, -, -⟩ := id V0
  refine own_go (B := s₁.setTop (mkF m 2 #[.val (.ref a0), .val (.ref a1), .unset] [(.int (6 : Int32))])) (fun t k => X0.arraylength hx (by rw [(e0 : _ = _)]; exact Ar_1.1) (State.isArrayOf_alike hZ.alike Ar_1.2.1) (g := (mkF m 1 #[.val (.ref a0), .val (.ref a1), .unset] [(.ref a0)])) rfl rfl (hb hby d3_1) t (by rw [len_of S_1 M_1]; exact k)) ?_
  refine own_go (B := s₁.setTop (mkF m 3 #[.val (.ref a0), .val (.ref a1), .unset] [(.ref a1), (.int (6 : Int32))])) (fun t k => ?_) ?_
  · show Steps p.tables e below (s₁.setTop (mkF m 2 #[.val (.ref a0), .val (.ref a1), .unset] [(.int (6 : Int32))])) _
    refine XS.aloadN X0.here hx rfl (hb hby d3_2) rfl rfl ?_
    exact k
  obtain ⟨cl_2, Ar_2, -, S_2, M_2, -, -⟩ := id V1
  refine own_go (B := s₁.setTop (mkF m 4 #[.val (.ref a0), .val (.ref a1), .unset] [(.int (4 : Int32)), (.int (6 : Int32))])) (fun t k => X0.arraylength hx (by rw [(e0 : _ = _)]; exact Ar_2.1) (State.isArrayOf_alike hZ.alike Ar_2.2.1) (g := (mkF m 3 #[.val (.ref a0), .val (.ref a1), .unset] [(.ref a1), (.int (6 : Int32))])) rfl rfl (hb hby d3_3) t (by rw [len_of S_2 M_2]; exact k)) ?_
  refine own_go (B := s₁.setTop (mkF m 34 #[.val (.ref a0), .val (.ref a1), .unset] [])) (fun t k => ?_) ?_
  · show Steps p.tables e below (s₁.setTop (mkF m 4 #[.val (.ref a0), .val (.ref a1), .unset] [(.int (4 : Int32)), (.int (6 : Int32))])) _
    refine XS.icmpYes X0.here hx rfl (pc0 := 4) (pc' := 34) rfl (hb hby d3_4) rfl (feq (by decide : ¬ ((6 : Int32) = (4 : Int32)))).2 (by decide) (by decide) ?_
    exact k
  refine own_go (B := s₁.setTop (mkF m 35 #[.val (.ref a0), .val (.ref a1), .unset] [(.int (0 : Int32))])) (fun t k => ?_) ?_
  · show Steps p.tables e below (s₁.setTop (mkF m 34 #[.val (.ref a0), .val (.ref a1), .unset] [])) _
    refine XS.iconst X0.here hx rfl (hb hby d3_34) ?_
    exact k
  obtain ⟨fs, hr, hrun, hended, hW, hsame⟩ := X0.leave (v := some (.int (0 : Int32))) (fun h => by rw [Bd.returns] at h; cases h)
  refine ⟨_, _, ?_, hrun, hended, _, _, rfl, ?_, ⟨_, rfl⟩, hW, hsame.mono (by decide) (by decide)⟩
  · show Steps p.tables e below (s₁.setTop (mkF m 35 #[.val (.ref a0), .val (.ref a1), .unset] [(.int (0 : Int32))])) _
    exact retN X0 hx (t := .boolean) Bd.returns (by simp) (hb hby d3_35) hr
  · show QLStringReal Z a0 a1 k0 k1 h0 n0 _ s₁.heap _
    rw [e0]
    exact ⟨rfl, N0, rfl⟩
theorem ef_EStringReal (m : MethodId) (a0 : Addr) (a1 : Addr) : entryFrame m #[(.ref a0), (.ref a1)] 3 = mkF m 0 #[.val (.ref a0), .val (.ref a1), .unset] [] := by first | (simp [entryFrame, mkF, argsToLocals, Value.category]; done) | rfl
def QEStringReal (Z : State) (a0 : Addr) (a1 : Addr) (b0 : Addr) (b1 : Addr) (k0 : ClassId) (k1 : ClassId) (w : Int32) (h0 : Heap) (n0 : Nat) (v : Option Value) (h : Heap) (L : List Loc) : Prop := v = some (.int (0 : Int32)) ∧ Fr n0 L ∧ h = h0
set_option maxRecDepth 65536 in
set_option maxHeartbeats 40000000 in
theorem rmEStringReal (l : Launch) (Z : State) (av0 : Array Value) (hw : ∀ d ∈ tables_1, d.before av0 Z = true) (ws : List Jvm.Cond) (a0 : Addr) (a1 : Addr) (b0 : Addr) (b1 : Addr) (k0 : ClassId) (k1 : ClassId) (w : Int32) (h0 : Heap) (n0 : Nat) (Z0 : n0 ≤ h0.size) (E_a0 : Exa Z h0 a0 "java/lang/String") (F_coder_a0 : Fld Z h0 a0 "java/lang/String" "coder" "B" (.int (0 : Int32))) (F_value_a0 : Fld Z h0 a0 "java/lang/String" "value" "[B" (.ref b0)) (E_a1 : Exa Z h0 a1 "java/lang/String") (F_coder_a1 : Fld Z h0 a1 "java/lang/String" "coder" "B" (.int (0 : Int32))) (F_value_a1 : Fld Z h0 a1 "java/lang/String" "value" "[B" (.ref b1)) (V0 : Arv Z h0 b0 k0 .byte (6 : Int32) [(.int (83 : Int32)), (.int (116 : Int32)), (.int (114 : Int32)), (.int (105 : Int32)), (.int (110 : Int32)), (.int (103 : Int32))] (.int 0)) (V1 : Arv Z h0 b1 k1 .byte (4 : Int32) [(.int (82 : Int32)), (.int (101 : Int32)), (.int (97 : Int32)), (.int (108 : Int32))] (.int 0)) (S_COMPACT_STRINGS : Sta Z h0 "java/lang/String" "COMPACT_STRINGS" "Z" (.int w)) (hw0 : ¬ (w = (0 : Int32))) (hne : ¬ (a0 = a1)) :
    MetFree l (⟨"java/lang/String", "equals", "(Ljava/lang/Object;)Z"⟩ : MethodName) (head1 (Jvm.Cond.code (⟨"java/lang/String", "equals", "(Ljava/lang/Object;)Z"⟩ : MethodName) jdk_42_method_66_code 3 (some .boolean) :: ws) ({ frames := 1, cells := 0, slots := 0, locals := 14 } : Room)) (fun a U => a = #[(.ref a0), (.ref a1)] ∧ Z.Warmed39 U.vm ∧ U.heap = h0) (fun _ _ _ _ _ => True) (fun _ U o U' => ∃ v L, o = .returned v ∧ QEStringReal Z a0 a1 b0 b1 k0 k1 w h0 n0 v U'.heap L ∧ FrameEnd U o U' L ({ frames := 1, cells := 0, slots := 0, locals := 14 } : Room).cells ({ frames := 1, cells := 0, slots := 0, locals := 14 } : Room).slots) := by
  refine MetFree.of_bodySF (plainFor_of_name pn_2) hisR ?_
  intro p e s m args below meth c s₁ Bd hml0 hP hK
  obtain ⟨rfl, hZ, hh⟩ := hP
  have hx := Bd.exec
  have hby := Bd.bytes
  have hml : c.maxLocals = 3 := hml0
  have hown : s.vm.findClass "java/lang/String" = some m.cls := findClass_of_methodNamed Bd.named
  have hnm := (name_of_methodNamed Bd.named Bd.method).1
  have X0 : Stand p l e ({ frames := 1, cells := 0, slots := 0, locals := 14 } : Room) s m #[(.ref a0), (.ref a1)] below meth c s₁ [] 0 0 := Stand.of_body Bd
  have e0 : s₁.heap = h0 := by rw [← hh, Bd.state]; rfl
  have N0 := Fr.nil n0
  have K0 : Keep h0 h0 [] := Keep.refl h0 []
  refine own_go (B := s₁.setTop (mkF m 0 #[.val (.ref a0), .val (.ref a1), .unset] [])) (fun t k => castTop (ef_EStringReal m a0 a1) k) ?_
  refine own_go (B := s₁.setTop (mkF m 2 #[.val (.ref a0), .val (.ref a1), .unset] [(.ref a1), (.ref a0)])) (fun t k => ?_) ?_
  · show Steps p.tables e below (s₁.setTop (mkF m 0 #[.val (.ref a0), .val (.ref a1), .unset] [])) _
    refine XS.aloadN X0.here hx rfl (hb hby d2_0) rfl rfl ?_
    show Steps p.tables e below (s₁.setTop (mkF m 1 #[.val (.ref a0), .val (.ref a1), .unset] [(.ref a0)])) _
    refine XS.aloadN X0.here hx rfl (hb hby d2_1) rfl rfl ?_
    exact k
  refine own_go (B := s₁.setTop (mkF m 7 #[.val (.ref a0), .val (.ref a1), .unset] [])) (fun t k => ?_) ?_
  · show Steps p.tables e below (s₁.setTop (mkF m 2 #[.val (.ref a0), .val (.ref a1), .unset] [(.ref a1), (.ref a0)])) _
    refine Jvm.RoadKit.acmp (g := (mkF m 2 #[.val (.ref a0), .val (.ref a1), .unset] [(.ref a1), (.ref a0)])) X0 hx rfl rfl rfl (pc0 := 2) (pc' := 7) (same := false) rfl (hb hby d2_2) rfl (decide_eq_false fun q => hne (Value.ref.inj q)) (by decide) (by decide) ?_
    exact k
  refine own_go (B := s₁.setTop (mkF m 8 #[.val (.ref a0), .val (.ref a1), .unset] [(.ref a1)])) (fun t k => ?_) ?_
  · show Steps p.tables e below (s₁.setTop (mkF m 7 #[.val (.ref a0), .val (.ref a1), .unset] [])) _
    refine XS.aloadN X0.here hx rfl (hb hby d2_7) rfl rfl ?_
    exact k
  obtain ⟨T_1, X_1, e_1, st_1⟩ := instY X0 hx hZ hown (hw _ (List.mem_of_getElem? (i := 23) rfl)) e0 (Ins.self E_a1) (g := (mkF m 8 #[.val (.ref a0), .val (.ref a1), .unset] [(.ref a1)])) rfl rfl (hb hby d2_8)
  refine own_go (B := T_1.setTop (mkF m 11 #[.val (.ref a0), .val (.ref a1), .unset] [(.int (1 : Int32))])) (fun t k => st_1 t k) ?_
  refine own_go (B := T_1.setTop (mkF m 14 #[.val (.ref a0), .val (.ref a1), .unset] [])) (fun t k => ?_) ?_
  · show Steps p.tables e below (T_1.setTop (mkF m 11 #[.val (.ref a0), .val (.ref a1), .unset] [(.int (1 : Int32))])) _
    refine XS.ifNo X_1.here hx rfl (hb hby d2_11) rfl ((if0 _ _).trans (feq (by decide : ¬ ((1 : Int32) = (0 : Int32)))).1) ?_
    exact k
  refine own_go (B := T_1.setTop (mkF m 15 #[.val (.ref a0), .val (.ref a1), .unset] [(.ref a1)])) (fun t k => ?_) ?_
  · show Steps p.tables e below (T_1.setTop (mkF m 14 #[.val (.ref a0), .val (.ref a1), .unset] [])) _
    refine XS.aloadN X_1.here hx rfl (hb hby d2_14) rfl rfl ?_
    exact k
  obtain ⟨T_2, X_2, e_2, st_2⟩ := castY X_1 hx hZ hown (hw _ (List.mem_of_getElem? (i := 23) rfl)) e_1 (Ins.self E_a1) (g := (mkF m 15 #[.val (.ref a0), .val (.ref a1), .unset] [(.ref a1)])) rfl rfl (hb hby d2_15)
  refine own_go (B := T_2.setTop (mkF m 18 #[.val (.ref a0), .val (.ref a1), .unset] [(.ref a1)])) (fun t k => st_2 t k) ?_
  refine own_go (B := T_2.setTop (mkF m 19 #[.val (.ref a0), .val (.ref a1), .val (.ref a1)] [])) (fun t k => ?_) ?_
  · show Steps p.tables e below (T_2.setTop (mkF m 18 #[.val (.ref a0), .val (.ref a1), .unset] [(.ref a1)])) _
    refine XS.astoreN X_2.here hx rfl (hb hby d2_18) rfl rfl (l' := #[.val (.ref a0), .val (.ref a1), .val (.ref a1)]) rfl ?_
    exact k
  obtain ⟨T_3, X_3, e_3, st_3⟩ := getS2 X_2 hx hZ hown (host := "") (Or.inl (hw _ (List.mem_of_getElem? (i := 25) rfl))) Via.refl e_2 S_COMPACT_STRINGS (g := (mkF m 19 #[.val (.ref a0), .val (.ref a1), .val (.ref a1)] [])) rfl (hb hby d2_19)
  refine own_go (B := T_3.setTop (mkF m 22 #[.val (.ref a0), .val (.ref a1), .val (.ref a1)] [(.int w)])) (fun t k => st_3 t k) ?_
  refine own_go (B := T_3.setTop (mkF m 25 #[.val (.ref a0), .val (.ref a1), .val (.ref a1)] [])) (fun t k => ?_) ?_
  · show Steps p.tables e below (T_3.setTop (mkF m 22 #[.val (.ref a0), .val (.ref a1), .val (.ref a1)] [(.int w)])) _
    refine XS.ifNo X_3.here hx rfl (hb hby d2_22) rfl ((if0 _ _).trans (feq hw0).1) ?_
    exact k
  refine own_go (B := T_3.setTop (mkF m 26 #[.val (.ref a0), .val (.ref a1), .val (.ref a1)] [(.ref a0)])) (fun t k => ?_) ?_
  · show Steps p.tables e below (T_3.setTop (mkF m 25 #[.val (.ref a0), .val (.ref a1), .val (.ref a1)] [])) _
    refine XS.aloadN X_3.here hx rfl (hb hby d2_25) rfl rfl ?_
    exact k
  obtain ⟨T_4, X_4, e_4, st_4⟩ := getF X_3 hx hZ hown (host := "") (Or.inl (hw _ (List.mem_of_getElem? (i := 26) rfl))) Via.refl e_3 F_coder_a0 (g := (mkF m 26 #[.val (.ref a0), .val (.ref a1), .val (.ref a1)] [(.ref a0)])) rfl rfl (hb hby d2_26)
  refine own_go (B := T_4.setTop (mkF m 29 #[.val (.ref a0), .val (.ref a1), .val (.ref a1)] [(.int (0 : Int32))])) (fun t k => st_4 t k) ?_
  refine own_go (B := T_4.setTop (mkF m 30 #[.val (.ref a0), .val (.ref a1), .val (.ref a1)] [(.ref a1), (.int (0 : Int32))])) (fun t k => ?_) ?_
  · show Steps p.tables e below (T_4.setTop (mkF m 29 #[.val (.ref a0), .val (.ref a1), .val (.ref a1)] [(.int (0 : Int32))])) _
    refine XS.aloadN X_4.here hx rfl (hb hby d2_29) rfl rfl ?_
    exact k
  obtain ⟨T_5, X_5, e_5, st_5⟩ := getF X_4 hx hZ hown (host := "") (Or.inl (hw _ (List.mem_of_getElem? (i := 26) rfl))) Via.refl e_4 F_coder_a1 (g := (mkF m 30 #[.val (.ref a0), .val (.ref a1), .val (.ref a1)] [(.ref a1), (.int (0 : Int32))])) rfl rfl (hb hby d2_30)
  refine own_go (B := T_5.setTop (mkF m 33 #[.val (.ref a0), .val (.ref a1), .val (.ref a1)] [(.int (0 : Int32)), (.int (0 : Int32))])) (fun t k => st_5 t k) ?_
  refine own_go (B := T_5.setTop (mkF m 36 #[.val (.ref a0), .val (.ref a1), .val (.ref a1)] [])) (fun t k => ?_) ?_
  · show Steps p.tables e below (T_5.setTop (mkF m 33 #[.val (.ref a0), .val (.ref a1), .val (.ref a1)] [(.int (0 : Int32)), (.int (0 : Int32))])) _
    refine XS.icmpNo X_5.here hx rfl (hb hby d2_33) rfl (teq (by decide : (0 : Int32) = (0 : Int32))).2 ?_
    exact k
  refine own_go (B := T_5.setTop (mkF m 37 #[.val (.ref a0), .val (.ref a1), .val (.ref a1)] [(.ref a0)])) (fun t k => ?_) ?_
  · show Steps p.tables e below (T_5.setTop (mkF m 36 #[.val (.ref a0), .val (.ref a1), .val (.ref a1)] [])) _
    refine XS.aloadN X_5.here hx rfl (hb hby d2_36) rfl rfl ?_
    exact k
  obtain ⟨T_6, X_6, e_6, st_6⟩ := getF X_5 hx hZ hown (host := "") (Or.inl (hw _ (List.mem_of_getElem? (i := 27) rfl))) Via.refl e_5 F_value_a0 (g := (mkF m 37 #[.val (.ref a0), .val (.ref a1), .val (.ref a1)] [(.ref a0)])) rfl rfl (hb hby d2_37)
  refine own_go (B := T_6.setTop (mkF m 40 #[.val (.ref a0), .val (.ref a1), .val (.ref a1)] [(.ref b0)])) (fun t k => st_6 t k) ?_
  refine own_go (B := T_6.setTop (mkF m 41 #[.val (.ref a0), .val (.ref a1), .val (.ref a1)] [(.ref a1), (.ref b0)])) (fun t k => ?_) ?_
  · show Steps p.tables e below (T_6.setTop (mkF m 40 #[.val (.ref a0), .val (.ref a1), .val (.ref a1)] [(.ref b0)])) _
    refine XS.aloadN X_6.here hx rfl (hb hby d2_40) rfl rfl ?_
    exact k
  obtain ⟨T_7, X_7, e_7, st_7⟩ := getF X_6 hx hZ hown (host := "") (Or.inl (hw _ (List.mem_of_getElem? (i := 27) rfl))) Via.refl e_6 F_value_a1 (g := (mkF m 41 #[.val (.ref a0), .val (.ref a1), .val (.ref a1)] [(.ref a1), (.ref b0)])) rfl rfl (hb hby d2_41)
  refine own_go (B := T_7.setTop (mkF m 44 #[.val (.ref a0), .val (.ref a1), .val (.ref a1)] [(.ref b1), (.ref b0)])) (fun t k => st_7 t k) ?_
  obtain ⟨_, _, ⟨T_8, L_8, k_8, n_8⟩, -, X_8, ⟨Lc_8, hQ_8, l_8, y_8, z_8⟩, st_8⟩ := Jvm.LawKit.callS X_7 hx (y := (⟨"java/lang/StringLatin1", "equals", "([B[B)Z"⟩ : MethodName)) hown (mvT hZ (hw _ (List.mem_of_getElem? (i := 28) rfl))) (mvT hZ (hw _ (List.mem_of_getElem? (i := 29) rfl))) (mvT hZ (hw _ (List.mem_of_getElem? (i := 30) rfl))) (mvT hZ (hw _ (List.mem_of_getElem? (i := 31) rfl))) (by decide) (backOf (W := 0) (rmLStringReal l Z av0 hw [] b0 b1 k0 k1 h0 n0 Z0 V0 V1) hZ (hw _ (List.mem_of_getElem? (i := 31) rfl)) (hw _ (List.mem_of_getElem? (i := 30) rfl)) (by decide) (by decide)) (g := (mkF m 44 #[.val (.ref a0), .val (.ref a1), .val (.ref a1)] [(.ref b1), (.ref b0)])) rfl (by rw [hml]; rfl) (argsL := [(.ref b0), (.ref b1)]) (rest := []) (lenOf pd_0 rfl) rfl (by show 2 * 0 + _ ≤ _; exact Nat.le_of_eq rfl) (hb hby d2_44) (fun _ _ => ⟨rfl, e_7, (by decide : 0 + 0 ≤ _), (by decide : 0 + 0 ≤ _)⟩)
  dsimp only [Pt.U, Pt.locs, Pt.cells, Pt.slots] at X_8 l_8 y_8 z_8 st_8 hQ_8
  subst l_8 y_8 z_8
  obtain ⟨rfl, N_8q, e_8⟩ := hQ_8
  have N_8 := Fr.app N0 N_8q
  refine own_go (B := T_8.setTop (mkF m 47 #[.val (.ref a0), .val (.ref a1), .val (.ref a1)] [(.int (0 : Int32))])) (fun t k => st_8 t k) ?_
  refine own_go (B := T_8.setTop (mkF m 54 #[.val (.ref a0), .val (.ref a1), .val (.ref a1)] [])) (fun t k => ?_) ?_
  · show Steps p.tables e below (T_8.setTop (mkF m 47 #[.val (.ref a0), .val (.ref a1), .val (.ref a1)] [(.int (0 : Int32))])) _
    refine XS.ifYes X_8.here hx rfl (pc0 := 47) (pc' := 54) rfl (hb hby d2_47) rfl ((if0 _ _).trans (teq (by decide : (0 : Int32) = (0 : Int32))).1) (by decide) (by decide) ?_
    exact k
  refine own_go (B := T_8.setTop (mkF m 55 #[.val (.ref a0), .val (.ref a1), .val (.ref a1)] [(.int (0 : Int32))])) (fun t k => ?_) ?_
  · show Steps p.tables e below (T_8.setTop (mkF m 54 #[.val (.ref a0), .val (.ref a1), .val (.ref a1)] [])) _
    refine XS.iconst X_8.here hx rfl (hb hby d2_54) ?_
    exact k
  obtain ⟨fs, hr, hrun, hended, hW, hsame⟩ := X_8.leave (v := some (.int (0 : Int32))) (fun h => by rw [Bd.returns] at h; cases h)
  refine ⟨_, _, ?_, hrun, hended, _, _, rfl, ?_, ⟨_, rfl⟩, hW, hsame.mono (by decide) (by decide)⟩
  · show Steps p.tables e below (T_8.setTop (mkF m 55 #[.val (.ref a0), .val (.ref a1), .val (.ref a1)] [(.int (0 : Int32))])) _
    exact retN X_8 hx (t := .boolean) Bd.returns (by simp) (hb hby d2_55) hr
  · show QEStringReal Z a0 a1 b0 b1 k0 k1 w h0 n0 _ T_8.heap _
    rw [e_8]
    exact ⟨rfl, N_8, rfl⟩
theorem d1_0 : decode prog_74_method_6_code 0 = .ok (.aload_n 0, 1) := by decide +kernel
theorem d1_1 : decode prog_74_method_6_code 1 = .ok (.getfield 35, 3) := by decide +kernel
theorem d1_4 : decode prog_74_method_6_code 4 = .ok (.areturn, 1) := by decide +kernel
theorem pn_1 : plainName "com/example/symvane/symvane/term/Sort" = true := by first | (simp [plainName, overriddenIn]; done) | decide +kernel
theorem ef_1 (m : MethodId) (a0 : Addr) : entryFrame m #[(.ref a0)] 1 = mkF m 0 #[.val (.ref a0)] [] := by first | (simp [entryFrame, mkF, argsToLocals, Value.category]; done) | rfl
def Q1 (Z : State) (a0 : Addr) (w : Addr) (h0 : Heap) (n0 : Nat) (v : Option Value) (h : Heap) (L : List Loc) : Prop := v = some (.ref w) ∧ Fr n0 L ∧ h = h0
set_option maxRecDepth 65536 in
set_option maxHeartbeats 40000000 in
theorem rm1 (l : Launch) (Z : State) (av0 : Array Value) (hw : ∀ d ∈ tables_1, d.before av0 Z = true) (ws : List Jvm.Cond) (a0 : Addr) (w : Addr) (h0 : Heap) (n0 : Nat) (Z0 : n0 ≤ h0.size) (F_smtName_a0 : Fld Z h0 a0 "com/example/symvane/symvane/term/Sort" "smtName" "Ljava/lang/String;" (.ref w)) :
    MetFree l (⟨"com/example/symvane/symvane/term/Sort", "toString", "()Ljava/lang/String;"⟩ : MethodName) (head1 (Jvm.Cond.code (⟨"com/example/symvane/symvane/term/Sort", "toString", "()Ljava/lang/String;"⟩ : MethodName) prog_74_method_6_code 1 (some (.object "java/lang/String")) :: ws) ({ frames := 0, cells := 0, slots := 0, locals := 0 } : Room)) (fun a U => a = #[(.ref a0)] ∧ Z.Warmed39 U.vm ∧ U.heap = h0) (fun _ _ _ _ _ => True) (fun _ U o U' => ∃ v L, o = .returned v ∧ Q1 Z a0 w h0 n0 v U'.heap L ∧ FrameEnd U o U' L ({ frames := 0, cells := 0, slots := 0, locals := 0 } : Room).cells ({ frames := 0, cells := 0, slots := 0, locals := 0 } : Room).slots) := by
  refine MetFree.of_bodySF (plainFor_of_name pn_1) hisR ?_
  intro p e s m args below meth c s₁ Bd hml0 hP hK
  obtain ⟨rfl, hZ, hh⟩ := hP
  have hx := Bd.exec
  have hby := Bd.bytes
  have hml : c.maxLocals = 1 := hml0
  have hown : s.vm.findClass "com/example/symvane/symvane/term/Sort" = some m.cls := findClass_of_methodNamed Bd.named
  have hnm := (name_of_methodNamed Bd.named Bd.method).1
  have X0 : Stand p l e ({ frames := 0, cells := 0, slots := 0, locals := 0 } : Room) s m #[(.ref a0)] below meth c s₁ [] 0 0 := Stand.of_body Bd
  have e0 : s₁.heap = h0 := by rw [← hh, Bd.state]; rfl
  have N0 := Fr.nil n0
  have K0 : Keep h0 h0 [] := Keep.refl h0 []
  refine own_go (B := s₁.setTop (mkF m 0 #[.val (.ref a0)] [])) (fun t k => castTop (ef_1 m a0) k) ?_
  refine own_go (B := s₁.setTop (mkF m 1 #[.val (.ref a0)] [(.ref a0)])) (fun t k => ?_) ?_
  · show Steps p.tables e below (s₁.setTop (mkF m 0 #[.val (.ref a0)] [])) _
    refine XS.aloadN X0.here hx rfl (hb hby d1_0) rfl rfl ?_
    exact k
  obtain ⟨T_1, X_1, e_1, st_1⟩ := getF X0 hx hZ hown (host := "") (Or.inl (hw _ (List.mem_of_getElem? (i := 8) rfl))) Via.refl e0 F_smtName_a0 (g := (mkF m 1 #[.val (.ref a0)] [(.ref a0)])) rfl rfl (hb hby d1_1)
  refine own_go (B := T_1.setTop (mkF m 4 #[.val (.ref a0)] [(.ref w)])) (fun t k => st_1 t k) ?_
  obtain ⟨fs, hr, hrun, hended, hW, hsame⟩ := X_1.leave (v := some (.ref w)) (fun h => by rw [Bd.returns] at h; cases h)
  refine ⟨_, _, ?_, hrun, hended, _, _, rfl, ?_, ⟨_, rfl⟩, hW, hsame.mono (by decide) (by decide)⟩
  · show Steps p.tables e below (T_1.setTop (mkF m 4 #[.val (.ref a0)] [(.ref w)])) _
    jvm_step X_1.here [X_1.here.top, hx, (hb hby d1_4), X_1.method', Bd.returns, Value.isRef, FieldType.isReference]
    first | (intro acts; rw [hr _ acts rfl rfl rfl]) | rw [hr _ _ rfl rfl rfl]
    exact Steps.refl _
  · show Q1 Z a0 w h0 n0 _ T_1.heap _
    rw [e_1]
    exact ⟨rfl, N0, rfl⟩
def own_num (a s0 s2 : Addr) : Int32 := if a = s0 then (1 : Int32) else if a = s2 then (1 : Int32) else (0 : Int32)
theorem d4_0 : decode prog_74_method_5_code 0 = .ok (.aload_n 0, 1) := by decide +kernel
theorem d4_1 : decode prog_74_method_5_code 1 = .ok (.getstatic 3, 3) := by decide +kernel
theorem d4_4 : decode prog_74_method_5_code 4 = .ok (.if_acmp .eq 10, 3) := by decide +kernel
theorem d4_7 : decode prog_74_method_5_code 7 = .ok (.aload_n 0, 1) := by decide +kernel
theorem d4_8 : decode prog_74_method_5_code 8 = .ok (.getstatic 10, 3) := by decide +kernel
theorem d4_11 : decode prog_74_method_5_code 11 = .ok (.if_acmp .ne 7, 3) := by decide +kernel
theorem d4_14 : decode prog_74_method_5_code 14 = .ok (.iconst 1, 1) := by decide +kernel
theorem d4_15 : decode prog_74_method_5_code 15 = .ok (.goto 4, 3) := by decide +kernel
theorem d4_18 : decode prog_74_method_5_code 18 = .ok (.iconst 0, 1) := by decide +kernel
theorem d4_19 : decode prog_74_method_5_code 19 = .ok (.ireturn, 1) := by decide +kernel
theorem pn_4 : plainName "com/example/symvane/symvane/term/Sort" = true := by first | (simp [plainName, overriddenIn]; done) | decide +kernel
theorem ef_4 (m : MethodId) (a0 : Addr) : entryFrame m #[(.ref a0)] 1 = mkF m 0 #[.val (.ref a0)] [] := by first | (simp [entryFrame, mkF, argsToLocals, Value.category]; done) | rfl
def Q4 (Z : State) (a0 : Addr) (s0 : Addr) (s2 : Addr) (h0 : Heap) (n0 : Nat) (v : Option Value) (h : Heap) (L : List Loc) : Prop := v = some (.int (own_num a0 s0 s2)) ∧ Fr n0 L ∧ h = h0
set_option maxRecDepth 65536 in
set_option maxHeartbeats 40000000 in
theorem rm4 (l : Launch) (Z : State) (av0 : Array Value) (hw : ∀ d ∈ tables_1, d.before av0 Z = true) (ws : List Jvm.Cond) (a0 : Addr) (s0 : Addr) (s2 : Addr) (h0 : Heap) (n0 : Nat) (Z0 : n0 ≤ h0.size) (S_INT : Sta Z h0 "com/example/symvane/symvane/term/Sort" "INT" "Lcom/example/symvane/symvane/term/Sort;" (.ref s0)) (S_REAL : Sta Z h0 "com/example/symvane/symvane/term/Sort" "REAL" "Lcom/example/symvane/symvane/term/Sort;" (.ref s2)) :
    MetFree l (⟨"com/example/symvane/symvane/term/Sort", "isNumeric", "()Z"⟩ : MethodName) (head1 (Jvm.Cond.code (⟨"com/example/symvane/symvane/term/Sort", "isNumeric", "()Z"⟩ : MethodName) prog_74_method_5_code 1 (some .boolean) :: ws) ({ frames := 0, cells := 0, slots := 0, locals := 0 } : Room)) (fun a U => a = #[(.ref a0)] ∧ Z.Warmed39 U.vm ∧ U.heap = h0) (fun _ _ _ _ _ => True) (fun _ U o U' => ∃ v L, o = .returned v ∧ Q4 Z a0 s0 s2 h0 n0 v U'.heap L ∧ FrameEnd U o U' L ({ frames := 0, cells := 0, slots := 0, locals := 0 } : Room).cells ({ frames := 0, cells := 0, slots := 0, locals := 0 } : Room).slots) := by
  refine MetFree.of_bodySF (plainFor_of_name pn_4) hisR ?_
  intro p e s m args below meth c s₁ Bd hml0 hP hK
  obtain ⟨rfl, hZ, hh⟩ := hP
  have hx := Bd.exec
  have hby := Bd.bytes
  have hml : c.maxLocals = 1 := hml0
  have hown : s.vm.findClass "com/example/symvane/symvane/term/Sort" = some m.cls := findClass_of_methodNamed Bd.named
  have hnm := (name_of_methodNamed Bd.named Bd.method).1
  have X0 : Stand p l e ({ frames := 0, cells := 0, slots := 0, locals := 0 } : Room) s m #[(.ref a0)] below meth c s₁ [] 0 0 := Stand.of_body Bd
  have e0 : s₁.heap = h0 := by rw [← hh, Bd.state]; rfl
  have N0 := Fr.nil n0
  have K0 : Keep h0 h0 [] := Keep.refl h0 []
  refine own_go (B := s₁.setTop (mkF m 0 #[.val (.ref a0)] [])) (fun t k => castTop (ef_4 m a0) k) ?_
  refine own_go (B := s₁.setTop (mkF m 1 #[.val (.ref a0)] [(.ref a0)])) (fun t k => ?_) ?_
  · show Steps p.tables e below (s₁.setTop (mkF m 0 #[.val (.ref a0)] [])) _
    refine XS.aloadN X0.here hx rfl (hb hby d4_0) rfl rfl ?_
    exact k
  obtain ⟨T_1, X_1, e_1, st_1⟩ := getS2 X0 hx hZ hown (host := "") (Or.inl (hw _ (List.mem_of_getElem? (i := 37) rfl))) Via.refl e0 S_INT (g := (mkF m 1 #[.val (.ref a0)] [(.ref a0)])) rfl (hb hby d4_1)
  refine own_go (B := T_1.setTop (mkF m 4 #[.val (.ref a0)] [(.ref s0), (.ref a0)])) (fun t k => st_1 t k) ?_
  by_cases hc4 : a0 = s0
  · refine own_go (B := T_1.setTop (mkF m 14 #[.val (.ref a0)] [])) (fun t k => ?_) ?_
    · show Steps p.tables e below (T_1.setTop (mkF m 4 #[.val (.ref a0)] [(.ref s0), (.ref a0)])) _
      refine Jvm.RoadKit.acmp (g := (mkF m 4 #[.val (.ref a0)] [(.ref s0), (.ref a0)])) X_1 hx rfl rfl rfl (pc0 := 4) (pc' := 14) (same := true) rfl (hb hby d4_4) rfl (decide_eq_true (congrArg Value.ref hc4)) (by decide) (by decide) ?_
      exact k
    refine own_go (B := T_1.setTop (mkF m 19 #[.val (.ref a0)] [(.int (1 : Int32))])) (fun t k => ?_) ?_
    · show Steps p.tables e below (T_1.setTop (mkF m 14 #[.val (.ref a0)] [])) _
      refine XS.iconst X_1.here hx rfl (hb hby d4_14) ?_
      show Steps p.tables e below (T_1.setTop (mkF m 15 #[.val (.ref a0)] [(.int (1 : Int32))])) _
      refine XS.goto X_1.here hx rfl (pc0 := 15) (pc' := 19) rfl (hb hby d4_15) (by decide) (by decide) ?_
      exact k
    obtain ⟨fs, hr, hrun, hended, hW, hsame⟩ := X_1.leave (v := some (.int (1 : Int32))) (fun h => by rw [Bd.returns] at h; cases h)
    refine ⟨_, _, ?_, hrun, hended, _, _, rfl, ?_, ⟨_, rfl⟩, hW, hsame.mono (by decide) (by decide)⟩
    · show Steps p.tables e below (T_1.setTop (mkF m 19 #[.val (.ref a0)] [(.int (1 : Int32))])) _
      exact retN X_1 hx (t := .boolean) Bd.returns (by simp) (hb hby d4_19) hr
    · show Q4 Z a0 s0 s2 h0 n0 _ T_1.heap _
      rw [e_1]
      exact ⟨by simp only [own_num, if_pos hc4], N0, rfl⟩
  · refine own_go (B := T_1.setTop (mkF m 7 #[.val (.ref a0)] [])) (fun t k => ?_) ?_
    · show Steps p.tables e below (T_1.setTop (mkF m 4 #[.val (.ref a0)] [(.ref s0), (.ref a0)])) _
      refine Jvm.RoadKit.acmp (g := (mkF m 4 #[.val (.ref a0)] [(.ref s0), (.ref a0)])) X_1 hx rfl rfl rfl (pc0 := 4) (pc' := 7) (same := false) rfl (hb hby d4_4) rfl (decide_eq_false fun q => hc4 (Value.ref.inj q)) (by decide) (by decide) ?_
      exact k
    refine own_go (B := T_1.setTop (mkF m 8 #[.val (.ref a0)] [(.ref a0)])) (fun t k => ?_) ?_
    · show Steps p.tables e below (T_1.setTop (mkF m 7 #[.val (.ref a0)] [])) _
      refine XS.aloadN X_1.here hx rfl (hb hby d4_7) rfl rfl ?_
      exact k
    obtain ⟨T_2, X_2, e_2, st_2⟩ := getS2 X_1 hx hZ hown (host := "") (Or.inl (hw _ (List.mem_of_getElem? (i := 41) rfl))) Via.refl e_1 S_REAL (g := (mkF m 8 #[.val (.ref a0)] [(.ref a0)])) rfl (hb hby d4_8)
    refine own_go (B := T_2.setTop (mkF m 11 #[.val (.ref a0)] [(.ref s2), (.ref a0)])) (fun t k => st_2 t k) ?_
    by_cases hc11 : a0 = s2
    · refine own_go (B := T_2.setTop (mkF m 14 #[.val (.ref a0)] [])) (fun t k => ?_) ?_
      · show Steps p.tables e below (T_2.setTop (mkF m 11 #[.val (.ref a0)] [(.ref s2), (.ref a0)])) _
        refine Jvm.RoadKit.acmp (g := (mkF m 11 #[.val (.ref a0)] [(.ref s2), (.ref a0)])) X_2 hx rfl rfl rfl (pc0 := 11) (pc' := 14) (same := true) rfl (hb hby d4_11) rfl (decide_eq_true (congrArg Value.ref hc11)) (by decide) (by decide) ?_
        exact k
      refine own_go (B := T_2.setTop (mkF m 19 #[.val (.ref a0)] [(.int (1 : Int32))])) (fun t k => ?_) ?_
      · show Steps p.tables e below (T_2.setTop (mkF m 14 #[.val (.ref a0)] [])) _
        refine XS.iconst X_2.here hx rfl (hb hby d4_14) ?_
        show Steps p.tables e below (T_2.setTop (mkF m 15 #[.val (.ref a0)] [(.int (1 : Int32))])) _
        refine XS.goto X_2.here hx rfl (pc0 := 15) (pc' := 19) rfl (hb hby d4_15) (by decide) (by decide) ?_
        exact k
      obtain ⟨fs, hr, hrun, hended, hW, hsame⟩ := X_2.leave (v := some (.int (1 : Int32))) (fun h => by rw [Bd.returns] at h; cases h)
      refine ⟨_, _, ?_, hrun, hended, _, _, rfl, ?_, ⟨_, rfl⟩, hW, hsame.mono (by decide) (by decide)⟩
      · show Steps p.tables e below (T_2.setTop (mkF m 19 #[.val (.ref a0)] [(.int (1 : Int32))])) _
        exact retN X_2 hx (t := .boolean) Bd.returns (by simp) (hb hby d4_19) hr
      · show Q4 Z a0 s0 s2 h0 n0 _ T_2.heap _
        rw [e_2]
        exact ⟨by simp only [own_num, if_neg hc4, if_pos hc11], N0, rfl⟩
    · refine own_go (B := T_2.setTop (mkF m 18 #[.val (.ref a0)] [])) (fun t k => ?_) ?_
      · show Steps p.tables e below (T_2.setTop (mkF m 11 #[.val (.ref a0)] [(.ref s2), (.ref a0)])) _
        refine Jvm.RoadKit.acmp (g := (mkF m 11 #[.val (.ref a0)] [(.ref s2), (.ref a0)])) X_2 hx rfl rfl rfl (pc0 := 11) (pc' := 18) (same := false) rfl (hb hby d4_11) rfl (decide_eq_false fun q => hc11 (Value.ref.inj q)) (by decide) (by decide) ?_
        exact k
      refine own_go (B := T_2.setTop (mkF m 19 #[.val (.ref a0)] [(.int (0 : Int32))])) (fun t k => ?_) ?_
      · show Steps p.tables e below (T_2.setTop (mkF m 18 #[.val (.ref a0)] [])) _
        refine XS.iconst X_2.here hx rfl (hb hby d4_18) ?_
        exact k
      obtain ⟨fs, hr, hrun, hended, hW, hsame⟩ := X_2.leave (v := some (.int (0 : Int32))) (fun h => by rw [Bd.returns] at h; cases h)
      refine ⟨_, _, ?_, hrun, hended, _, _, rfl, ?_, ⟨_, rfl⟩, hW, hsame.mono (by decide) (by decide)⟩
      · show Steps p.tables e below (T_2.setTop (mkF m 19 #[.val (.ref a0)] [(.int (0 : Int32))])) _
        exact retN X_2 hx (t := .boolean) Bd.returns (by simp) (hb hby d4_19) hr
      · show Q4 Z a0 s0 s2 h0 n0 _ T_2.heap _
        rw [e_2]
        exact ⟨by simp only [own_num, if_neg hc4, if_neg hc11], N0, rfl⟩
theorem own_and3 (x : Int32) : x &&& 3 = 0 ∨ x &&& 3 = 1 ∨ x &&& 3 = 2 ∨ x &&& 3 = 3 := by
  have h := Jvm.Kit.i32_mask x 3 (k := 2) (by decide) (by decide)
  have e : ∀ k : Int32, (x &&& 3).toInt = k.toInt → x &&& 3 = k := fun k q => Int32.toInt_inj.mp q
  have : (x &&& 3).toInt = 0 ∨ (x &&& 3).toInt = 1 ∨ (x &&& 3).toInt = 2 ∨ (x &&& 3).toInt = 3 := by omega
  rcases this with q | q | q | q
  · exact Or.inl (e 0 q)
  · exact Or.inr (Or.inl (e 1 q))
  · exact Or.inr (Or.inr (Or.inl (e 2 q)))
  · exact Or.inr (Or.inr (Or.inr (e 3 q)))
theorem own_sne {Z : State} {h : Heap} {a a' b b' : Addr} {k k' : ClassId} {z z' : Int32} {vs vs' : List Value} {d : Value} (F : Fld Z h a "java/lang/String" "value" "[B" (.ref b)) (F' : Fld Z h a' "java/lang/String" "value" "[B" (.ref b')) (A : Arv Z h b k .byte z vs d) (A' : Arv Z h b' k' .byte z' vs' d) (hn : z.toNatClampNeg ≠ z'.toNatClampNeg ∨ (0 < z.toNatClampNeg ∧ vs.getD 0 d ≠ vs'.getD 0 d)) : ¬ (a = a') := fun e => by
  subst e
  obtain ⟨c1, _, _, _, f1, h1, h2, -, -, -, -, h7⟩ := F
  obtain ⟨c2, _, _, _, f2, g1, g2, -, -, -, -, g7⟩ := F'
  cases h1.symm.trans g1; cases h2.symm.trans g2
  obtain rfl : b = b' := by have := h7.symm.trans g7; cases this; rfl
  obtain ⟨c, A1, -, S, -, H, -⟩ := A
  obtain ⟨c', A1', -, S', -, H', -⟩ := A'
  cases A1.1.symm.trans A1'.1
  rcases hn with hn | ⟨hp, hn⟩
  · exact hn (S.symm.trans S')
  · have q1 := H 0 (by omega)
    have q2 := H' 0 (by omega)
    exact hn (Option.some.inj (q1.symm.trans q2))
theorem pn_0 : plainName "com/example/symvane/symvane/term/SortIsNumericPinLaw" = true := by first | (simp [plainName, overriddenIn]; done) | decide +kernel
theorem ef_0 (m : MethodId) (p0 : Int32) : entryFrame m #[(.int p0)] maxLocals = mkF m 0 #[.val (.int p0), .unset, .unset, .unset, .unset, .unset] [] := by first | (simp [entryFrame, mkF, argsToLocals, Value.category, maxLocals]; done) | rfl
theorem pd_1 : parseMethodDescriptor "()Ljava/lang/String;" = some ⟨[], some (.object "java/lang/String")⟩ := by decide +kernel
theorem pd_2 : parseMethodDescriptor "(Ljava/lang/Object;)Z" = some ⟨[(.object "java/lang/Object")], some .boolean⟩ := by decide +kernel
theorem pd_3 : parseMethodDescriptor "()Z" = some ⟨[], some .boolean⟩ := by decide +kernel
def Q0 (Z : State) (p0 : Int32) (s0 : Addr) (s1 : Addr) (s2 : Addr) (s3 : Addr) (t0 : Addr) (t1 : Addr) (t2 : Addr) (t3 : Addr) (v0 : Addr) (v1 : Addr) (v2 : Addr) (v3 : Addr) (y0 : ClassId) (y1 : ClassId) (y2 : ClassId) (y3 : ClassId) (w : Int32) (h0 : Heap) (n0 : Nat) (v : Option Value) (h : Heap) (L : List Loc) : Prop := v = some (.int 1) ∧ Fr n0 L ∧ True
set_option maxRecDepth 65536 in
set_option maxHeartbeats 40000000 in
theorem rm0 (l : Launch) (Z : State) (av0 : Array Value) (hw : ∀ d ∈ tables_1, d.before av0 Z = true) (ws : List Jvm.Cond) (p0 : Int32) (s0 : Addr) (s1 : Addr) (s2 : Addr) (s3 : Addr) (t0 : Addr) (t1 : Addr) (t2 : Addr) (t3 : Addr) (v0 : Addr) (v1 : Addr) (v2 : Addr) (v3 : Addr) (y0 : ClassId) (y1 : ClassId) (y2 : ClassId) (y3 : ClassId) (w : Int32) (h0 : Heap) (n0 : Nat) (Z0 : n0 ≤ h0.size) (S_INT : Sta Z h0 "com/example/symvane/symvane/term/Sort" "INT" "Lcom/example/symvane/symvane/term/Sort;" (.ref s0)) (E_s0 : Exa Z h0 s0 "com/example/symvane/symvane/term/Sort") (F_smtName_s0 : Fld Z h0 s0 "com/example/symvane/symvane/term/Sort" "smtName" "Ljava/lang/String;" (.ref t0)) (E_t0 : Exa Z h0 t0 "java/lang/String") (F_coder_t0 : Fld Z h0 t0 "java/lang/String" "coder" "B" (.int (0 : Int32))) (F_value_t0 : Fld Z h0 t0 "java/lang/String" "value" "[B" (.ref v0)) (V0 : Arv Z h0 v0 y0 .byte (3 : Int32) [(.int (73 : Int32)), (.int (110 : Int32)), (.int (116 : Int32))] (.int 0)) (S_BOOL : Sta Z h0 "com/example/symvane/symvane/term/Sort" "BOOL" "Lcom/example/symvane/symvane/term/Sort;" (.ref s1)) (E_s1 : Exa Z h0 s1 "com/example/symvane/symvane/term/Sort") (F_smtName_s1 : Fld Z h0 s1 "com/example/symvane/symvane/term/Sort" "smtName" "Ljava/lang/String;" (.ref t1)) (E_t1 : Exa Z h0 t1 "java/lang/String") (F_coder_t1 : Fld Z h0 t1 "java/lang/String" "coder" "B" (.int (0 : Int32))) (F_value_t1 : Fld Z h0 t1 "java/lang/String" "value" "[B" (.ref v1)) (V1 : Arv Z h0 v1 y1 .byte (4 : Int32) [(.int (66 : Int32)), (.int (111 : Int32)), (.int (111 : Int32)), (.int (108 : Int32))] (.int 0)) (S_REAL : Sta Z h0 "com/example/symvane/symvane/term/Sort" "REAL" "Lcom/example/symvane/symvane/term/Sort;" (.ref s2)) (E_s2 : Exa Z h0 s2 "com/example/symvane/symvane/term/Sort") (F_smtName_s2 : Fld Z h0 s2 "com/example/symvane/symvane/term/Sort" "smtName" "Ljava/lang/String;" (.ref t2)) (E_t2 : Exa Z h0 t2 "java/lang/String") (F_coder_t2 : Fld Z h0 t2 "java/lang/String" "coder" "B" (.int (0 : Int32))) (F_value_t2 : Fld Z h0 t2 "java/lang/String" "value" "[B" (.ref v2)) (V2 : Arv Z h0 v2 y2 .byte (4 : Int32) [(.int (82 : Int32)), (.int (101 : Int32)), (.int (97 : Int32)), (.int (108 : Int32))] (.int 0)) (S_STRING : Sta Z h0 "com/example/symvane/symvane/term/Sort" "STRING" "Lcom/example/symvane/symvane/term/Sort;" (.ref s3)) (E_s3 : Exa Z h0 s3 "com/example/symvane/symvane/term/Sort") (F_smtName_s3 : Fld Z h0 s3 "com/example/symvane/symvane/term/Sort" "smtName" "Ljava/lang/String;" (.ref t3)) (E_t3 : Exa Z h0 t3 "java/lang/String") (F_coder_t3 : Fld Z h0 t3 "java/lang/String" "coder" "B" (.int (0 : Int32))) (F_value_t3 : Fld Z h0 t3 "java/lang/String" "value" "[B" (.ref v3)) (V3 : Arv Z h0 v3 y3 .byte (6 : Int32) [(.int (83 : Int32)), (.int (116 : Int32)), (.int (114 : Int32)), (.int (105 : Int32)), (.int (110 : Int32)), (.int (103 : Int32))] (.int 0)) (S_COMPACT_STRINGS : Sta Z h0 "java/lang/String" "COMPACT_STRINGS" "Z" (.int w)) (hw0 : ¬ (w = (0 : Int32))) (n20 : ¬ s2 = s0) (n10 : ¬ s1 = s0) (n12 : ¬ s1 = s2) (n30 : ¬ s3 = s0) (n32 : ¬ s3 = s2) (held : ∀ i : Nat, i = 26 ∨ i = 34 → Jvm.Lit.constHeld Z "com/example/symvane/symvane/term/SortIsNumericPinLaw" i) (hcw : Jvm.Lit.compactW.before av0 Z = true) (hh0 : Z.heap = h0) (hn0 : n0 = h0.size) :
    MetFree l x (head1 (Jvm.Cond.code x code maxLocals ret :: ws) room_1) (fun a U => a = #[(.int p0)] ∧ U = Z) (fun _ _ _ _ _ => True) (fun _ U o U' => ∃ v L, o = .returned v ∧ Q0 Z p0 s0 s1 s2 s3 t0 t1 t2 t3 v0 v1 v2 v3 y0 y1 y2 y3 w h0 n0 v U'.heap L ∧ ReturnedEndW U o U' L room_1.cells room_1.slots) := by
  refine MetFree.of_bodySF (plainFor_of_name pn_0) hisR ?_
  intro p e s m args below meth c s₁ Bd hml0 hP hK
  obtain ⟨rfl, hUZ⟩ := hP
  have hZ : Z.Warmed39 s.vm := by rw [hUZ]; exact State.Warmed39.refl Z
  have hh : s.heap = h0 := by rw [hUZ]; exact hh0
  have hns : n0 = s.heap.size := by rw [hn0, hh]
  have hkeep : ∀ (b : Addr) (cl : Cell), Z.heap[b]? = some cl → s.heap[b]? = some cl := by rw [hUZ]; exact fun _ _ q => q
  have I0 : IB Z s.vm [] := by rw [hUZ]; exact IB.start
  have hx := Bd.exec
  have hby := Bd.bytes
  have hml : c.maxLocals = 6 := hml0
  have hown : s.vm.findClass "com/example/symvane/symvane/term/SortIsNumericPinLaw" = some m.cls := findClass_of_methodNamed Bd.named
  have hnm := (name_of_methodNamed Bd.named Bd.method).1
  have X0 : Stand p l e room_1 s m #[(.int p0)] below meth c s₁ [] 0 0 := Stand.of_body Bd
  have e0 : s₁.heap = h0 := by rw [← hh, Bd.state]; rfl
  have N0 := Fr.nil n0
  have K0 : Keep h0 h0 [] := Keep.refl h0 []
  refine own_go (B := s₁.setTop (mkF m 0 #[.val (.int p0), .unset, .unset, .unset, .unset, .unset] [])) (fun t k => castTop (ef_0 m p0) k) ?_
  refine own_go (B := s₁.setTop (mkF m 5 #[.val (.int p0), .val (.int (p0 &&& (3 : Int32))), .unset, .unset, .unset, .unset] [(.int (p0 &&& (3 : Int32)))])) (fun t k => ?_) ?_
  · show Steps p.tables e below (s₁.setTop (mkF m 0 #[.val (.int p0), .unset, .unset, .unset, .unset, .unset] [])) _
    refine XS.iloadN X0.here hx rfl (hb hby at_0) rfl ?_
    show Steps p.tables e below (s₁.setTop (mkF m 1 #[.val (.int p0), .unset, .unset, .unset, .unset, .unset] [(.int p0)])) _
    refine XS.iconst X0.here hx rfl (hb hby at_1) ?_
    show Steps p.tables e below (s₁.setTop (mkF m 2 #[.val (.int p0), .unset, .unset, .unset, .unset, .unset] [(.int (3 : Int32)), (.int p0)])) _
    refine XS.iand X0.here hx rfl (hb hby at_2) rfl ?_
    show Steps p.tables e below (s₁.setTop (mkF m 3 #[.val (.int p0), .unset, .unset, .unset, .unset, .unset] [(.int (p0 &&& (3 : Int32)))])) _
    refine XS.istoreN X0.here hx rfl (hb hby at_3) rfl (l' := #[.val (.int p0), .val (.int (p0 &&& (3 : Int32))), .unset, .unset, .unset, .unset]) rfl ?_
    show Steps p.tables e below (s₁.setTop (mkF m 4 #[.val (.int p0), .val (.int (p0 &&& (3 : Int32))), .unset, .unset, .unset, .unset] [])) _
    refine XS.iloadN X0.here hx rfl (hb hby at_4) rfl ?_
    exact k
  rcases own_and3 p0 with h3 | h3 | h3 | h3 <;> rw [h3]
  · show ∃ s₂ o, Steps p.tables e below (s₁.setTop (mkF m 5 #[.val (.int p0), .val (.int (0 : Int32)), .unset, .unset, .unset, .unset] [(.int (0 : Int32))])) s₂ ∧ _
    refine own_go (B := s₁.setTop (mkF m 8 #[.val (.int p0), .val (.int (0 : Int32)), .unset, .unset, .unset, .unset] [])) (fun t k => ?_) ?_
    · show Steps p.tables e below (s₁.setTop (mkF m 5 #[.val (.int p0), .val (.int (0 : Int32)), .unset, .unset, .unset, .unset] [(.int (0 : Int32))])) _
      refine XS.ifNo X0.here hx rfl (hb hby at_5) rfl ((if0 _ _).trans (teq (by decide : (0 : Int32) = (0 : Int32))).2) ?_
      exact k
    obtain ⟨T_1, X_1, e_1, st_1⟩ := getS2 X0 hx hZ hown (host := "") (Or.inl (hw _ (List.mem_of_getElem? (i := 0) rfl))) Via.refl e0 S_INT (g := (mkF m 8 #[.val (.int p0), .val (.int (0 : Int32)), .unset, .unset, .unset, .unset] [])) rfl (hb hby at_8)
    refine own_go (B := T_1.setTop (mkF m 11 #[.val (.int p0), .val (.int (0 : Int32)), .unset, .unset, .unset, .unset] [(.ref s0)])) (fun t k => st_1 t k) ?_
    refine own_go (B := T_1.setTop (mkF m 52 #[.val (.int p0), .val (.int (0 : Int32)), .val (.ref s0), .val (.int (1 : Int32)), .unset, .unset] [(.ref s0)])) (fun t k => ?_) ?_
    · show Steps p.tables e below (T_1.setTop (mkF m 11 #[.val (.int p0), .val (.int (0 : Int32)), .unset, .unset, .unset, .unset] [(.ref s0)])) _
      refine XS.astoreN X_1.here hx rfl (hb hby at_11) rfl rfl (l' := #[.val (.int p0), .val (.int (0 : Int32)), .val (.ref s0), .unset, .unset, .unset]) rfl ?_
      show Steps p.tables e below (T_1.setTop (mkF m 12 #[.val (.int p0), .val (.int (0 : Int32)), .val (.ref s0), .unset, .unset, .unset] [])) _
      refine XS.iconst X_1.here hx rfl (hb hby at_12) ?_
      show Steps p.tables e below (T_1.setTop (mkF m 13 #[.val (.int p0), .val (.int (0 : Int32)), .val (.ref s0), .unset, .unset, .unset] [(.int (1 : Int32))])) _
      refine XS.istoreN X_1.here hx rfl (hb hby at_13) rfl (l' := #[.val (.int p0), .val (.int (0 : Int32)), .val (.ref s0), .val (.int (1 : Int32)), .unset, .unset]) rfl ?_
      show Steps p.tables e below (T_1.setTop (mkF m 14 #[.val (.int p0), .val (.int (0 : Int32)), .val (.ref s0), .val (.int (1 : Int32)), .unset, .unset] [])) _
      refine XS.goto X_1.here hx rfl (pc0 := 14) (pc' := 51) rfl (hb hby at_14) (by decide) (by decide) ?_
      show Steps p.tables e below (T_1.setTop (mkF m 51 #[.val (.int p0), .val (.int (0 : Int32)), .val (.ref s0), .val (.int (1 : Int32)), .unset, .unset] [])) _
      refine XS.aloadN X_1.here hx rfl (hb hby at_51) rfl rfl ?_
      exact k
    obtain ⟨cq_2, kq_2, q_2a, q_2b, q_2c⟩ := isOf hZ e_1 E_s0
    obtain ⟨_, _, ⟨T_2, L_2, k_2, n_2⟩, -, X_2, ⟨Lc_2, hQ_2, l_2, y_2, z_2⟩, st_2⟩ := X_1.virtualBack hx (y := (⟨"com/example/symvane/symvane/term/Sort", "toString", "()Ljava/lang/String;"⟩ : MethodName)) (z := (⟨"com/example/symvane/symvane/term/Sort", "toString", "()Ljava/lang/String;"⟩ : MethodName)) hown (mvT hZ (hw _ (List.mem_of_getElem? (i := 3) rfl))) (mvT hZ (hw _ (List.mem_of_getElem? (i := 4) rfl))) (notFace_of_selects (args := #[]) (mvT hZ (hw _ (List.mem_of_getElem? (i := 6) rfl)))) (mvT hZ (hw _ (List.mem_of_getElem? (i := 6) rfl))) (mvT hZ (hw _ (List.mem_of_getElem? (i := 5) rfl))) (by decide) (backOf (W := 0) (rm1 l Z av0 hw [] s0 t0 h0 n0 Z0 F_smtName_s0) hZ (hw _ (List.mem_of_getElem? (i := 7) rfl)) (hw _ (List.mem_of_getElem? (i := 1) rfl)) (by decide) (by decide)) q_2a q_2c (g := (mkF m 52 #[.val (.int p0), .val (.int (0 : Int32)), .val (.ref s0), .val (.int (1 : Int32)), .unset, .unset] [(.ref s0)])) rfl (by rw [hml]; rfl) (Steps.refl _) (argsL := []) (rest := []) (lenOf pd_1 rfl) rfl (by show 2 * 0 + _ ≤ _; exact Nat.le_of_eq rfl) (hb hby at_52) (fun _ _ => ⟨rfl, e_1, (by decide : 0 + 0 ≤ _), (by decide : 0 + 0 ≤ _)⟩)
    dsimp only [Pt.U, Pt.locs, Pt.cells, Pt.slots] at X_2 l_2 y_2 z_2 st_2 hQ_2
    subst l_2 y_2 z_2
    obtain ⟨rfl, N_2q, e_2⟩ := hQ_2
    have N_2 := Fr.app N0 N_2q
    refine own_go (B := T_2.setTop (mkF m 55 #[.val (.int p0), .val (.int (0 : Int32)), .val (.ref s0), .val (.int (1 : Int32)), .unset, .unset] [(.ref t0)])) (fun t k => st_2.trans k) ?_
    refine own_go (B := T_2.setTop (mkF m 59 #[.val (.int p0), .val (.int (0 : Int32)), .val (.ref s0), .val (.int (1 : Int32)), .val (.ref t0), .unset] [(.ref t0)])) (fun t k => ?_) ?_
    · show Steps p.tables e below (T_2.setTop (mkF m 55 #[.val (.int p0), .val (.int (0 : Int32)), .val (.ref s0), .val (.int (1 : Int32)), .unset, .unset] [(.ref t0)])) _
      refine XS.astore X_2.here hx rfl (hb hby at_55) rfl rfl (l' := #[.val (.int p0), .val (.int (0 : Int32)), .val (.ref s0), .val (.int (1 : Int32)), .val (.ref t0), .unset]) rfl ?_
      show Steps p.tables e below (T_2.setTop (mkF m 57 #[.val (.int p0), .val (.int (0 : Int32)), .val (.ref s0), .val (.int (1 : Int32)), .val (.ref t0), .unset] [])) _
      refine XS.aload X_2.here hx rfl (hb hby at_57) rfl rfl ?_
      exact k
    have wS_3 : ∀ a ∈ Bundle.stringAtoms, a.before av0 Z = true := by
      intro a ha
      simp only [Bundle.stringAtoms, List.mem_cons, List.not_mem_nil, or_false] at ha
      rcases ha with rfl | rfl | rfl | rfl | rfl | rfl | rfl
      · exact (hw _ (List.mem_of_getElem? (i := 11) rfl))
      · exact (hw _ (List.mem_of_getElem? (i := 12) rfl))
      · exact (hw _ (List.mem_of_getElem? (i := 13) rfl))
      · exact (hw _ (List.mem_of_getElem? (i := 14) rfl))
      · exact (hw _ (List.mem_of_getElem? (i := 15) rfl))
      · exact (hw _ (List.mem_of_getElem? (i := 16) rfl))
      · exact (hw _ (List.mem_of_getElem? (i := 17) rfl))
    obtain ⟨b_3, T_3, h_3, k1_3, d_3, kc_3, X_3, e_3, E_3, Si_3, ls_3, hZ_3, hown_3, A_3, Fc_3, Fv_3, V_3, -, -, I_3, st_3⟩ := ldcSV (s := s) (vm0 := s.vm) (show Stand p l e room_1 (s.setVm s.vm) m #[(.int p0)] below meth c T_2 _ _ _ from X_2) hx hZ hown (hw _ (List.mem_of_getElem? (i := 10) rfl)) wS_3 e_2 ((State.WarmedH.refl s).since 0) (Nat.zero_le _) (hns ▸ N_2) hkeep I0 (by decide) (held 26 (Or.inl rfl)) hcw (vs := [(.int (73 : Int32)), (.int (110 : Int32)), (.int (116 : Int32))]) (z := (3 : Int32)) ⟨by decide, rfl⟩ (by decide) rfl (g := (mkF m 59 #[.val (.int p0), .val (.int (0 : Int32)), .val (.ref s0), .val (.int (1 : Int32)), .val (.ref t0), .unset] [(.ref t0)])) rfl (hb hby at_59) (n := 12) (by decide) (by decide) (by decide) (by decide)
    have c1 : Keep h0 h_3 [] := K0.ext E_3
    have c2 := S_INT.ext E_3
    have c3 : Exa Z h_3 s0 "com/example/symvane/symvane/term/Sort" := E_s0.ext E_3
    have c4 : Fld Z h_3 s0 "com/example/symvane/symvane/term/Sort" "smtName" "Ljava/lang/String;" (.ref t0) := F_smtName_s0.ext E_3
    have c5 : Exa Z h_3 t0 "java/lang/String" := E_t0.ext E_3
    have c6 : Fld Z h_3 t0 "java/lang/String" "coder" "B" (.int (0 : Int32)) := F_coder_t0.ext E_3
    have c7 : Fld Z h_3 t0 "java/lang/String" "value" "[B" (.ref v0) := F_value_t0.ext E_3
    have c8 := S_BOOL.ext E_3
    have c9 : Exa Z h_3 s1 "com/example/symvane/symvane/term/Sort" := E_s1.ext E_3
    have c10 : Fld Z h_3 s1 "com/example/symvane/symvane/term/Sort" "smtName" "Ljava/lang/String;" (.ref t1) := F_smtName_s1.ext E_3
    have c11 : Exa Z h_3 t1 "java/lang/String" := E_t1.ext E_3
    have c12 : Fld Z h_3 t1 "java/lang/String" "coder" "B" (.int (0 : Int32)) := F_coder_t1.ext E_3
    have c13 : Fld Z h_3 t1 "java/lang/String" "value" "[B" (.ref v1) := F_value_t1.ext E_3
    have c14 := S_REAL.ext E_3
    have c15 : Exa Z h_3 s2 "com/example/symvane/symvane/term/Sort" := E_s2.ext E_3
    have c16 : Fld Z h_3 s2 "com/example/symvane/symvane/term/Sort" "smtName" "Ljava/lang/String;" (.ref t2) := F_smtName_s2.ext E_3
    have c17 : Exa Z h_3 t2 "java/lang/String" := E_t2.ext E_3
    have c18 : Fld Z h_3 t2 "java/lang/String" "coder" "B" (.int (0 : Int32)) := F_coder_t2.ext E_3
    have c19 : Fld Z h_3 t2 "java/lang/String" "value" "[B" (.ref v2) := F_value_t2.ext E_3
    have c20 := S_STRING.ext E_3
    have c21 : Exa Z h_3 s3 "com/example/symvane/symvane/term/Sort" := E_s3.ext E_3
    have c22 : Fld Z h_3 s3 "com/example/symvane/symvane/term/Sort" "smtName" "Ljava/lang/String;" (.ref t3) := F_smtName_s3.ext E_3
    have c23 : Exa Z h_3 t3 "java/lang/String" := E_t3.ext E_3
    have c24 : Fld Z h_3 t3 "java/lang/String" "coder" "B" (.int (0 : Int32)) := F_coder_t3.ext E_3
    have c25 : Fld Z h_3 t3 "java/lang/String" "value" "[B" (.ref v3) := F_value_t3.ext E_3
    have c26 := S_COMPACT_STRINGS.ext E_3
    have c27 := V0.ext E_3
    have c28 := V1.ext E_3
    have c29 := V2.ext E_3
    have c30 := V3.ext E_3
    have Z0__3 : n0 ≤ h_3.size := Nat.le_trans Z0 E_3.1
    refine own_go (B := T_3.setTop (mkF m 61 #[.val (.int p0), .val (.int (0 : Int32)), .val (.ref s0), .val (.int (1 : Int32)), .val (.ref t0), .unset] [(.ref b_3), (.ref t0)])) (fun t k => st_3 t k) ?_
    obtain ⟨cq_4, kq_4, q_4a, q_4b, q_4c⟩ := isOf hZ_3 e_3 c5
    obtain ⟨_, _, ⟨T_4, L_4, k_4, n_4⟩, -, X_4, ⟨Lc_4, hQ_4, l_4, y_4, z_4⟩, st_4⟩ := X_3.virtualBack hx (y := (⟨"java/lang/String", "equals", "(Ljava/lang/Object;)Z"⟩ : MethodName)) (z := (⟨"java/lang/String", "equals", "(Ljava/lang/Object;)Z"⟩ : MethodName)) hown_3 (mvT hZ_3 (hw _ (List.mem_of_getElem? (i := 18) rfl))) (mvT hZ_3 (hw _ (List.mem_of_getElem? (i := 19) rfl))) (notFace_of_selects (args := #[]) (mvT hZ_3 (hw _ (List.mem_of_getElem? (i := 21) rfl)))) (mvT hZ_3 (hw _ (List.mem_of_getElem? (i := 21) rfl))) (mvT hZ_3 (hw _ (List.mem_of_getElem? (i := 20) rfl))) (by decide) (backOf (W := 0) (rmEIntInt l Z av0 hw [] t0 b_3 v0 d_3 y0 kc_3 w h_3 n0 Z0__3 c5 c6 c7 A_3 Fc_3 Fv_3 c27 V_3 c26 hw0) hZ_3 (hw _ (List.mem_of_getElem? (i := 22) rfl)) (hw _ (List.mem_of_getElem? (i := 11) rfl)) (by decide) (by decide)) q_4a q_4c (g := (mkF m 61 #[.val (.int p0), .val (.int (0 : Int32)), .val (.ref s0), .val (.int (1 : Int32)), .val (.ref t0), .unset] [(.ref b_3), (.ref t0)])) rfl (by rw [hml]; rfl) (Steps.refl _) (argsL := [(.ref b_3)]) (rest := []) (lenOf pd_2 rfl) rfl (by show 2 * 0 + _ ≤ _; exact Nat.le_of_eq rfl) (hb hby at_61) (fun _ _ => ⟨rfl, e_3, (by decide : 2 + 0 ≤ _), (by decide : 16 + 0 ≤ _)⟩)
    dsimp only [Pt.U, Pt.locs, Pt.cells, Pt.slots] at X_4 l_4 y_4 z_4 st_4 hQ_4
    subst l_4 y_4 z_4
    obtain ⟨rfl, N_4q, e_4⟩ := hQ_4
    have N_4 := Fr.app N_2 N_4q
    refine own_go (B := T_4.setTop (mkF m 64 #[.val (.int p0), .val (.int (0 : Int32)), .val (.ref s0), .val (.int (1 : Int32)), .val (.ref t0), .unset] [(.int (1 : Int32))])) (fun t k => st_4.trans k) ?_
    refine own_go (B := T_4.setTop (mkF m 77 #[.val (.int p0), .val (.int (0 : Int32)), .val (.ref s0), .val (.int (1 : Int32)), .val (.ref t0), .unset] [])) (fun t k => ?_) ?_
    · show Steps p.tables e below (T_4.setTop (mkF m 64 #[.val (.int p0), .val (.int (0 : Int32)), .val (.ref s0), .val (.int (1 : Int32)), .val (.ref t0), .unset] [(.int (1 : Int32))])) _
      refine XS.ifYes X_4.here hx rfl (pc0 := 64) (pc' := 77) rfl (hb hby at_64) rfl ((if0 _ _).trans (feq (by decide : ¬ ((1 : Int32) = (0 : Int32)))).2) (by decide) (by decide) ?_
      exact k
    refine own_go (B := T_4.setTop (mkF m 85 #[.val (.int p0), .val (.int (0 : Int32)), .val (.ref s0), .val (.int (1 : Int32)), .val (.ref t0), .val (.int (1 : Int32))] [(.ref s0)])) (fun t k => ?_) ?_
    · show Steps p.tables e below (T_4.setTop (mkF m 77 #[.val (.int p0), .val (.int (0 : Int32)), .val (.ref s0), .val (.int (1 : Int32)), .val (.ref t0), .unset] [])) _
      refine XS.iconst X_4.here hx rfl (hb hby at_77) ?_
      show Steps p.tables e below (T_4.setTop (mkF m 78 #[.val (.int p0), .val (.int (0 : Int32)), .val (.ref s0), .val (.int (1 : Int32)), .val (.ref t0), .unset] [(.int (1 : Int32))])) _
      refine XS.goto X_4.here hx rfl (pc0 := 78) (pc' := 82) rfl (hb hby at_78) (by decide) (by decide) ?_
      show Steps p.tables e below (T_4.setTop (mkF m 82 #[.val (.int p0), .val (.int (0 : Int32)), .val (.ref s0), .val (.int (1 : Int32)), .val (.ref t0), .unset] [(.int (1 : Int32))])) _
      refine XS.istore X_4.here hx rfl (hb hby at_82) rfl (l' := #[.val (.int p0), .val (.int (0 : Int32)), .val (.ref s0), .val (.int (1 : Int32)), .val (.ref t0), .val (.int (1 : Int32))]) rfl ?_
      show Steps p.tables e below (T_4.setTop (mkF m 84 #[.val (.int p0), .val (.int (0 : Int32)), .val (.ref s0), .val (.int (1 : Int32)), .val (.ref t0), .val (.int (1 : Int32))] [])) _
      refine XS.aloadN X_4.here hx rfl (hb hby at_84) rfl rfl ?_
      exact k
    obtain ⟨cq_5, kq_5, q_5a, q_5b, q_5c⟩ := isOf hZ_3 e_4 c3
    obtain ⟨_, _, ⟨T_5, L_5, k_5, n_5⟩, -, X_5, ⟨Lc_5, hQ_5, l_5, y_5, z_5⟩, st_5⟩ := X_4.virtualBack hx (y := (⟨"com/example/symvane/symvane/term/Sort", "isNumeric", "()Z"⟩ : MethodName)) (z := (⟨"com/example/symvane/symvane/term/Sort", "isNumeric", "()Z"⟩ : MethodName)) hown_3 (mvT hZ_3 (hw _ (List.mem_of_getElem? (i := 32) rfl))) (mvT hZ_3 (hw _ (List.mem_of_getElem? (i := 33) rfl))) (notFace_of_selects (args := #[]) (mvT hZ_3 (hw _ (List.mem_of_getElem? (i := 35) rfl)))) (mvT hZ_3 (hw _ (List.mem_of_getElem? (i := 35) rfl))) (mvT hZ_3 (hw _ (List.mem_of_getElem? (i := 34) rfl))) (by decide) (backOf (W := 0) (rm4 l Z av0 hw [] s0 s0 s2 h_3 n0 Z0__3 c2 c14) hZ_3 (hw _ (List.mem_of_getElem? (i := 36) rfl)) (hw _ (List.mem_of_getElem? (i := 1) rfl)) (by decide) (by decide)) q_5a q_5c (g := (mkF m 85 #[.val (.int p0), .val (.int (0 : Int32)), .val (.ref s0), .val (.int (1 : Int32)), .val (.ref t0), .val (.int (1 : Int32))] [(.ref s0)])) rfl (by rw [hml]; rfl) (Steps.refl _) (argsL := []) (rest := []) (lenOf pd_3 rfl) rfl (by show 2 * 0 + _ ≤ _; exact Nat.le_of_eq rfl) (hb hby at_85) (fun _ _ => ⟨rfl, e_4, (by decide : 2 + 0 ≤ _), (by decide : 16 + 0 ≤ _)⟩)
    dsimp only [Pt.U, Pt.locs, Pt.cells, Pt.slots] at X_5 l_5 y_5 z_5 st_5 hQ_5
    subst l_5 y_5 z_5
    obtain ⟨hv_5, N_5q, e_5⟩ := hQ_5
    have N_5 := Fr.app N_4 N_5q
    rw [show own_num s0 s0 s2 = (1 : Int32) from if_pos rfl] at hv_5
    subst hv_5
    refine own_go (B := T_5.setTop (mkF m 88 #[.val (.int p0), .val (.int (0 : Int32)), .val (.ref s0), .val (.int (1 : Int32)), .val (.ref t0), .val (.int (1 : Int32))] [(.int (1 : Int32))])) (fun t k => st_5.trans k) ?_
    refine own_go (B := T_5.setTop (mkF m 89 #[.val (.int p0), .val (.int (0 : Int32)), .val (.ref s0), .val (.int (1 : Int32)), .val (.ref t0), .val (.int (1 : Int32))] [(.int (1 : Int32)), (.int (1 : Int32))])) (fun t k => ?_) ?_
    · show Steps p.tables e below (T_5.setTop (mkF m 88 #[.val (.int p0), .val (.int (0 : Int32)), .val (.ref s0), .val (.int (1 : Int32)), .val (.ref t0), .val (.int (1 : Int32))] [(.int (1 : Int32))])) _
      refine XS.iloadN X_5.here hx rfl (hb hby at_88) rfl ?_
      exact k
    refine own_go (B := T_5.setTop (mkF m 92 #[.val (.int p0), .val (.int (0 : Int32)), .val (.ref s0), .val (.int (1 : Int32)), .val (.ref t0), .val (.int (1 : Int32))] [])) (fun t k => ?_) ?_
    · show Steps p.tables e below (T_5.setTop (mkF m 89 #[.val (.int p0), .val (.int (0 : Int32)), .val (.ref s0), .val (.int (1 : Int32)), .val (.ref t0), .val (.int (1 : Int32))] [(.int (1 : Int32)), (.int (1 : Int32))])) _
      refine XS.icmpNo X_5.here hx rfl (hb hby at_89) rfl (teq (by decide : (1 : Int32) = (1 : Int32))).2 ?_
      exact k
    refine own_go (B := T_5.setTop (mkF m 95 #[.val (.int p0), .val (.int (0 : Int32)), .val (.ref s0), .val (.int (1 : Int32)), .val (.ref t0), .val (.int (1 : Int32))] [(.int (1 : Int32)), (.int (1 : Int32))])) (fun t k => ?_) ?_
    · show Steps p.tables e below (T_5.setTop (mkF m 92 #[.val (.int p0), .val (.int (0 : Int32)), .val (.ref s0), .val (.int (1 : Int32)), .val (.ref t0), .val (.int (1 : Int32))] [])) _
      refine XS.iloadN X_5.here hx rfl (hb hby at_92) rfl ?_
      show Steps p.tables e below (T_5.setTop (mkF m 93 #[.val (.int p0), .val (.int (0 : Int32)), .val (.ref s0), .val (.int (1 : Int32)), .val (.ref t0), .val (.int (1 : Int32))] [(.int (1 : Int32))])) _
      refine XS.iload X_5.here hx rfl (hb hby at_93) rfl ?_
      exact k
    refine own_go (B := T_5.setTop (mkF m 98 #[.val (.int p0), .val (.int (0 : Int32)), .val (.ref s0), .val (.int (1 : Int32)), .val (.ref t0), .val (.int (1 : Int32))] [])) (fun t k => ?_) ?_
    · show Steps p.tables e below (T_5.setTop (mkF m 95 #[.val (.int p0), .val (.int (0 : Int32)), .val (.ref s0), .val (.int (1 : Int32)), .val (.ref t0), .val (.int (1 : Int32))] [(.int (1 : Int32)), (.int (1 : Int32))])) _
      refine XS.icmpNo X_5.here hx rfl (hb hby at_95) rfl (teq (by decide : (1 : Int32) = (1 : Int32))).2 ?_
      exact k
    refine own_go (B := T_5.setTop (mkF m 103 #[.val (.int p0), .val (.int (0 : Int32)), .val (.ref s0), .val (.int (1 : Int32)), .val (.ref t0), .val (.int (1 : Int32))] [(.int (1 : Int32))])) (fun t k => ?_) ?_
    · show Steps p.tables e below (T_5.setTop (mkF m 98 #[.val (.int p0), .val (.int (0 : Int32)), .val (.ref s0), .val (.int (1 : Int32)), .val (.ref t0), .val (.int (1 : Int32))] [])) _
      refine XS.iconst X_5.here hx rfl (hb hby at_98) ?_
      show Steps p.tables e below (T_5.setTop (mkF m 99 #[.val (.int p0), .val (.int (0 : Int32)), .val (.ref s0), .val (.int (1 : Int32)), .val (.ref t0), .val (.int (1 : Int32))] [(.int (1 : Int32))])) _
      refine XS.goto X_5.here hx rfl (pc0 := 99) (pc' := 103) rfl (hb hby at_99) (by decide) (by decide) ?_
      exact k
    obtain ⟨fs, hr, hrun, hended, hRW⟩ := X_5.leaveW Si_3 (by rw [e_5]; exact ls_3) (v := some (.int (1 : Int32))) (fun h => by rw [Bd.returns] at h; cases h)
    refine ⟨_, _, ?_, hrun, hended, _, _, rfl, ?_, hRW.1, hRW.2.1, hRW.2.2.1, hRW.2.2.2.mono (by decide) (by decide)⟩
    · show Steps p.tables e below (T_5.setTop (mkF m 103 #[.val (.int p0), .val (.int (0 : Int32)), .val (.ref s0), .val (.int (1 : Int32)), .val (.ref t0), .val (.int (1 : Int32))] [(.int (1 : Int32))])) _
      exact retN X_5 hx (t := .boolean) Bd.returns (by simp) (hb hby at_103) hr
    · show Q0 Z p0 s0 s1 s2 s3 t0 t1 t2 t3 v0 v1 v2 v3 y0 y1 y2 y3 w h0 n0 _ T_5.heap _
      rw [e_5]
      exact ⟨rfl, N_5, trivial⟩
  · show ∃ s₂ o, Steps p.tables e below (s₁.setTop (mkF m 5 #[.val (.int p0), .val (.int (1 : Int32)), .unset, .unset, .unset, .unset] [(.int (1 : Int32))])) s₂ ∧ _
    refine own_go (B := s₁.setTop (mkF m 17 #[.val (.int p0), .val (.int (1 : Int32)), .unset, .unset, .unset, .unset] [])) (fun t k => ?_) ?_
    · show Steps p.tables e below (s₁.setTop (mkF m 5 #[.val (.int p0), .val (.int (1 : Int32)), .unset, .unset, .unset, .unset] [(.int (1 : Int32))])) _
      refine XS.ifYes X0.here hx rfl (pc0 := 5) (pc' := 17) rfl (hb hby at_5) rfl ((if0 _ _).trans (feq (by decide : ¬ ((1 : Int32) = (0 : Int32)))).2) (by decide) (by decide) ?_
      exact k
    refine own_go (B := s₁.setTop (mkF m 19 #[.val (.int p0), .val (.int (1 : Int32)), .unset, .unset, .unset, .unset] [(.int (1 : Int32)), (.int (1 : Int32))])) (fun t k => ?_) ?_
    · show Steps p.tables e below (s₁.setTop (mkF m 17 #[.val (.int p0), .val (.int (1 : Int32)), .unset, .unset, .unset, .unset] [])) _
      refine XS.iloadN X0.here hx rfl (hb hby at_17) rfl ?_
      show Steps p.tables e below (s₁.setTop (mkF m 18 #[.val (.int p0), .val (.int (1 : Int32)), .unset, .unset, .unset, .unset] [(.int (1 : Int32))])) _
      refine XS.iconst X0.here hx rfl (hb hby at_18) ?_
      exact k
    refine own_go (B := s₁.setTop (mkF m 22 #[.val (.int p0), .val (.int (1 : Int32)), .unset, .unset, .unset, .unset] [])) (fun t k => ?_) ?_
    · show Steps p.tables e below (s₁.setTop (mkF m 19 #[.val (.int p0), .val (.int (1 : Int32)), .unset, .unset, .unset, .unset] [(.int (1 : Int32)), (.int (1 : Int32))])) _
      refine XS.icmpNo X0.here hx rfl (hb hby at_19) rfl (teq (by decide : (1 : Int32) = (1 : Int32))).2 ?_
      exact k
    obtain ⟨T_6, X_6, e_6, st_6⟩ := getS2 X0 hx hZ hown (host := "") (Or.inl (hw _ (List.mem_of_getElem? (i := 44) rfl))) Via.refl e0 S_BOOL (g := (mkF m 22 #[.val (.int p0), .val (.int (1 : Int32)), .unset, .unset, .unset, .unset] [])) rfl (hb hby at_22)
    refine own_go (B := T_6.setTop (mkF m 25 #[.val (.int p0), .val (.int (1 : Int32)), .unset, .unset, .unset, .unset] [(.ref s1)])) (fun t k => st_6 t k) ?_
    refine own_go (B := T_6.setTop (mkF m 52 #[.val (.int p0), .val (.int (1 : Int32)), .val (.ref s1), .val (.int (0 : Int32)), .unset, .unset] [(.ref s1)])) (fun t k => ?_) ?_
    · show Steps p.tables e below (T_6.setTop (mkF m 25 #[.val (.int p0), .val (.int (1 : Int32)), .unset, .unset, .unset, .unset] [(.ref s1)])) _
      refine XS.astoreN X_6.here hx rfl (hb hby at_25) rfl rfl (l' := #[.val (.int p0), .val (.int (1 : Int32)), .val (.ref s1), .unset, .unset, .unset]) rfl ?_
      show Steps p.tables e below (T_6.setTop (mkF m 26 #[.val (.int p0), .val (.int (1 : Int32)), .val (.ref s1), .unset, .unset, .unset] [])) _
      refine XS.iconst X_6.here hx rfl (hb hby at_26) ?_
      show Steps p.tables e below (T_6.setTop (mkF m 27 #[.val (.int p0), .val (.int (1 : Int32)), .val (.ref s1), .unset, .unset, .unset] [(.int (0 : Int32))])) _
      refine XS.istoreN X_6.here hx rfl (hb hby at_27) rfl (l' := #[.val (.int p0), .val (.int (1 : Int32)), .val (.ref s1), .val (.int (0 : Int32)), .unset, .unset]) rfl ?_
      show Steps p.tables e below (T_6.setTop (mkF m 28 #[.val (.int p0), .val (.int (1 : Int32)), .val (.ref s1), .val (.int (0 : Int32)), .unset, .unset] [])) _
      refine XS.goto X_6.here hx rfl (pc0 := 28) (pc' := 51) rfl (hb hby at_28) (by decide) (by decide) ?_
      show Steps p.tables e below (T_6.setTop (mkF m 51 #[.val (.int p0), .val (.int (1 : Int32)), .val (.ref s1), .val (.int (0 : Int32)), .unset, .unset] [])) _
      refine XS.aloadN X_6.here hx rfl (hb hby at_51) rfl rfl ?_
      exact k
    obtain ⟨cq_7, kq_7, q_7a, q_7b, q_7c⟩ := isOf hZ e_6 E_s1
    obtain ⟨_, _, ⟨T_7, L_7, k_7, n_7⟩, -, X_7, ⟨Lc_7, hQ_7, l_7, y_7, z_7⟩, st_7⟩ := X_6.virtualBack hx (y := (⟨"com/example/symvane/symvane/term/Sort", "toString", "()Ljava/lang/String;"⟩ : MethodName)) (z := (⟨"com/example/symvane/symvane/term/Sort", "toString", "()Ljava/lang/String;"⟩ : MethodName)) hown (mvT hZ (hw _ (List.mem_of_getElem? (i := 3) rfl))) (mvT hZ (hw _ (List.mem_of_getElem? (i := 4) rfl))) (notFace_of_selects (args := #[]) (mvT hZ (hw _ (List.mem_of_getElem? (i := 6) rfl)))) (mvT hZ (hw _ (List.mem_of_getElem? (i := 6) rfl))) (mvT hZ (hw _ (List.mem_of_getElem? (i := 5) rfl))) (by decide) (backOf (W := 0) (rm1 l Z av0 hw [] s1 t1 h0 n0 Z0 F_smtName_s1) hZ (hw _ (List.mem_of_getElem? (i := 7) rfl)) (hw _ (List.mem_of_getElem? (i := 1) rfl)) (by decide) (by decide)) q_7a q_7c (g := (mkF m 52 #[.val (.int p0), .val (.int (1 : Int32)), .val (.ref s1), .val (.int (0 : Int32)), .unset, .unset] [(.ref s1)])) rfl (by rw [hml]; rfl) (Steps.refl _) (argsL := []) (rest := []) (lenOf pd_1 rfl) rfl (by show 2 * 0 + _ ≤ _; exact Nat.le_of_eq rfl) (hb hby at_52) (fun _ _ => ⟨rfl, e_6, (by decide : 0 + 0 ≤ _), (by decide : 0 + 0 ≤ _)⟩)
    dsimp only [Pt.U, Pt.locs, Pt.cells, Pt.slots] at X_7 l_7 y_7 z_7 st_7 hQ_7
    subst l_7 y_7 z_7
    obtain ⟨rfl, N_7q, e_7⟩ := hQ_7
    have N_7 := Fr.app N0 N_7q
    refine own_go (B := T_7.setTop (mkF m 55 #[.val (.int p0), .val (.int (1 : Int32)), .val (.ref s1), .val (.int (0 : Int32)), .unset, .unset] [(.ref t1)])) (fun t k => st_7.trans k) ?_
    refine own_go (B := T_7.setTop (mkF m 59 #[.val (.int p0), .val (.int (1 : Int32)), .val (.ref s1), .val (.int (0 : Int32)), .val (.ref t1), .unset] [(.ref t1)])) (fun t k => ?_) ?_
    · show Steps p.tables e below (T_7.setTop (mkF m 55 #[.val (.int p0), .val (.int (1 : Int32)), .val (.ref s1), .val (.int (0 : Int32)), .unset, .unset] [(.ref t1)])) _
      refine XS.astore X_7.here hx rfl (hb hby at_55) rfl rfl (l' := #[.val (.int p0), .val (.int (1 : Int32)), .val (.ref s1), .val (.int (0 : Int32)), .val (.ref t1), .unset]) rfl ?_
      show Steps p.tables e below (T_7.setTop (mkF m 57 #[.val (.int p0), .val (.int (1 : Int32)), .val (.ref s1), .val (.int (0 : Int32)), .val (.ref t1), .unset] [])) _
      refine XS.aload X_7.here hx rfl (hb hby at_57) rfl rfl ?_
      exact k
    have wS_8 : ∀ a ∈ Bundle.stringAtoms, a.before av0 Z = true := by
      intro a ha
      simp only [Bundle.stringAtoms, List.mem_cons, List.not_mem_nil, or_false] at ha
      rcases ha with rfl | rfl | rfl | rfl | rfl | rfl | rfl
      · exact (hw _ (List.mem_of_getElem? (i := 11) rfl))
      · exact (hw _ (List.mem_of_getElem? (i := 12) rfl))
      · exact (hw _ (List.mem_of_getElem? (i := 13) rfl))
      · exact (hw _ (List.mem_of_getElem? (i := 14) rfl))
      · exact (hw _ (List.mem_of_getElem? (i := 15) rfl))
      · exact (hw _ (List.mem_of_getElem? (i := 16) rfl))
      · exact (hw _ (List.mem_of_getElem? (i := 17) rfl))
    obtain ⟨b_8, T_8, h_8, k1_8, d_8, kc_8, X_8, e_8, E_8, Si_8, ls_8, hZ_8, hown_8, A_8, Fc_8, Fv_8, V_8, -, -, I_8, st_8⟩ := ldcSV (s := s) (vm0 := s.vm) (show Stand p l e room_1 (s.setVm s.vm) m #[(.int p0)] below meth c T_7 _ _ _ from X_7) hx hZ hown (hw _ (List.mem_of_getElem? (i := 10) rfl)) wS_8 e_7 ((State.WarmedH.refl s).since 0) (Nat.zero_le _) (hns ▸ N_7) hkeep I0 (by decide) (held 26 (Or.inl rfl)) hcw (vs := [(.int (73 : Int32)), (.int (110 : Int32)), (.int (116 : Int32))]) (z := (3 : Int32)) ⟨by decide, rfl⟩ (by decide) rfl (g := (mkF m 59 #[.val (.int p0), .val (.int (1 : Int32)), .val (.ref s1), .val (.int (0 : Int32)), .val (.ref t1), .unset] [(.ref t1)])) rfl (hb hby at_59) (n := 12) (by decide) (by decide) (by decide) (by decide)
    have c31 : Keep h0 h_8 [] := K0.ext E_8
    have c32 := S_INT.ext E_8
    have c33 : Exa Z h_8 s0 "com/example/symvane/symvane/term/Sort" := E_s0.ext E_8
    have c34 : Fld Z h_8 s0 "com/example/symvane/symvane/term/Sort" "smtName" "Ljava/lang/String;" (.ref t0) := F_smtName_s0.ext E_8
    have c35 : Exa Z h_8 t0 "java/lang/String" := E_t0.ext E_8
    have c36 : Fld Z h_8 t0 "java/lang/String" "coder" "B" (.int (0 : Int32)) := F_coder_t0.ext E_8
    have c37 : Fld Z h_8 t0 "java/lang/String" "value" "[B" (.ref v0) := F_value_t0.ext E_8
    have c38 := S_BOOL.ext E_8
    have c39 : Exa Z h_8 s1 "com/example/symvane/symvane/term/Sort" := E_s1.ext E_8
    have c40 : Fld Z h_8 s1 "com/example/symvane/symvane/term/Sort" "smtName" "Ljava/lang/String;" (.ref t1) := F_smtName_s1.ext E_8
    have c41 : Exa Z h_8 t1 "java/lang/String" := E_t1.ext E_8
    have c42 : Fld Z h_8 t1 "java/lang/String" "coder" "B" (.int (0 : Int32)) := F_coder_t1.ext E_8
    have c43 : Fld Z h_8 t1 "java/lang/String" "value" "[B" (.ref v1) := F_value_t1.ext E_8
    have c44 := S_REAL.ext E_8
    have c45 : Exa Z h_8 s2 "com/example/symvane/symvane/term/Sort" := E_s2.ext E_8
    have c46 : Fld Z h_8 s2 "com/example/symvane/symvane/term/Sort" "smtName" "Ljava/lang/String;" (.ref t2) := F_smtName_s2.ext E_8
    have c47 : Exa Z h_8 t2 "java/lang/String" := E_t2.ext E_8
    have c48 : Fld Z h_8 t2 "java/lang/String" "coder" "B" (.int (0 : Int32)) := F_coder_t2.ext E_8
    have c49 : Fld Z h_8 t2 "java/lang/String" "value" "[B" (.ref v2) := F_value_t2.ext E_8
    have c50 := S_STRING.ext E_8
    have c51 : Exa Z h_8 s3 "com/example/symvane/symvane/term/Sort" := E_s3.ext E_8
    have c52 : Fld Z h_8 s3 "com/example/symvane/symvane/term/Sort" "smtName" "Ljava/lang/String;" (.ref t3) := F_smtName_s3.ext E_8
    have c53 : Exa Z h_8 t3 "java/lang/String" := E_t3.ext E_8
    have c54 : Fld Z h_8 t3 "java/lang/String" "coder" "B" (.int (0 : Int32)) := F_coder_t3.ext E_8
    have c55 : Fld Z h_8 t3 "java/lang/String" "value" "[B" (.ref v3) := F_value_t3.ext E_8
    have c56 := S_COMPACT_STRINGS.ext E_8
    have c57 := V0.ext E_8
    have c58 := V1.ext E_8
    have c59 := V2.ext E_8
    have c60 := V3.ext E_8
    have Z0__8 : n0 ≤ h_8.size := Nat.le_trans Z0 E_8.1
    refine own_go (B := T_8.setTop (mkF m 61 #[.val (.int p0), .val (.int (1 : Int32)), .val (.ref s1), .val (.int (0 : Int32)), .val (.ref t1), .unset] [(.ref b_8), (.ref t1)])) (fun t k => st_8 t k) ?_
    obtain ⟨cq_9, kq_9, q_9a, q_9b, q_9c⟩ := isOf hZ_8 e_8 c41
    obtain ⟨_, _, ⟨T_9, L_9, k_9, n_9⟩, -, X_9, ⟨Lc_9, hQ_9, l_9, y_9, z_9⟩, st_9⟩ := X_8.virtualBack hx (y := (⟨"java/lang/String", "equals", "(Ljava/lang/Object;)Z"⟩ : MethodName)) (z := (⟨"java/lang/String", "equals", "(Ljava/lang/Object;)Z"⟩ : MethodName)) hown_8 (mvT hZ_8 (hw _ (List.mem_of_getElem? (i := 18) rfl))) (mvT hZ_8 (hw _ (List.mem_of_getElem? (i := 19) rfl))) (notFace_of_selects (args := #[]) (mvT hZ_8 (hw _ (List.mem_of_getElem? (i := 21) rfl)))) (mvT hZ_8 (hw _ (List.mem_of_getElem? (i := 21) rfl))) (mvT hZ_8 (hw _ (List.mem_of_getElem? (i := 20) rfl))) (by decide) (backOf (W := 0) (rmEBoolInt l Z av0 hw [] t1 b_8 v1 d_8 y1 kc_8 w h_8 n0 Z0__8 c41 c42 c43 A_8 Fc_8 Fv_8 c58 V_8 c56 hw0 (own_sne c43 Fv_8 c58 V_8 (by decide))) hZ_8 (hw _ (List.mem_of_getElem? (i := 22) rfl)) (hw _ (List.mem_of_getElem? (i := 11) rfl)) (by decide) (by decide)) q_9a q_9c (g := (mkF m 61 #[.val (.int p0), .val (.int (1 : Int32)), .val (.ref s1), .val (.int (0 : Int32)), .val (.ref t1), .unset] [(.ref b_8), (.ref t1)])) rfl (by rw [hml]; rfl) (Steps.refl _) (argsL := [(.ref b_8)]) (rest := []) (lenOf pd_2 rfl) rfl (by show 2 * 0 + _ ≤ _; exact Nat.le_of_eq rfl) (hb hby at_61) (fun _ _ => ⟨rfl, e_8, (by decide : 2 + 0 ≤ _), (by decide : 16 + 0 ≤ _)⟩)
    dsimp only [Pt.U, Pt.locs, Pt.cells, Pt.slots] at X_9 l_9 y_9 z_9 st_9 hQ_9
    subst l_9 y_9 z_9
    obtain ⟨rfl, N_9q, e_9⟩ := hQ_9
    have N_9 := Fr.app N_7 N_9q
    refine own_go (B := T_9.setTop (mkF m 64 #[.val (.int p0), .val (.int (1 : Int32)), .val (.ref s1), .val (.int (0 : Int32)), .val (.ref t1), .unset] [(.int (0 : Int32))])) (fun t k => st_9.trans k) ?_
    refine own_go (B := T_9.setTop (mkF m 67 #[.val (.int p0), .val (.int (1 : Int32)), .val (.ref s1), .val (.int (0 : Int32)), .val (.ref t1), .unset] [])) (fun t k => ?_) ?_
    · show Steps p.tables e below (T_9.setTop (mkF m 64 #[.val (.int p0), .val (.int (1 : Int32)), .val (.ref s1), .val (.int (0 : Int32)), .val (.ref t1), .unset] [(.int (0 : Int32))])) _
      refine XS.ifNo X_9.here hx rfl (hb hby at_64) rfl ((if0 _ _).trans (teq (by decide : (0 : Int32) = (0 : Int32))).2) ?_
      exact k
    refine own_go (B := T_9.setTop (mkF m 69 #[.val (.int p0), .val (.int (1 : Int32)), .val (.ref s1), .val (.int (0 : Int32)), .val (.ref t1), .unset] [(.ref t1)])) (fun t k => ?_) ?_
    · show Steps p.tables e below (T_9.setTop (mkF m 67 #[.val (.int p0), .val (.int (1 : Int32)), .val (.ref s1), .val (.int (0 : Int32)), .val (.ref t1), .unset] [])) _
      refine XS.aload X_9.here hx rfl (hb hby at_67) rfl rfl ?_
      exact k
    have wS_10 : ∀ a ∈ Bundle.stringAtoms, a.before av0 Z = true := by
      intro a ha
      simp only [Bundle.stringAtoms, List.mem_cons, List.not_mem_nil, or_false] at ha
      rcases ha with rfl | rfl | rfl | rfl | rfl | rfl | rfl
      · exact (hw _ (List.mem_of_getElem? (i := 11) rfl))
      · exact (hw _ (List.mem_of_getElem? (i := 12) rfl))
      · exact (hw _ (List.mem_of_getElem? (i := 13) rfl))
      · exact (hw _ (List.mem_of_getElem? (i := 14) rfl))
      · exact (hw _ (List.mem_of_getElem? (i := 15) rfl))
      · exact (hw _ (List.mem_of_getElem? (i := 16) rfl))
      · exact (hw _ (List.mem_of_getElem? (i := 17) rfl))
    obtain ⟨b_10, T_10, h_10, k1_10, d_10, kc_10, X_10, e_10, E_10, Si_10, ls_10, hZ_10, hown_10, A_10, Fc_10, Fv_10, V_10, -, -, I_10, st_10⟩ := ldcSV (s := s) (vm0 := T_8.vm) X_9 hx hZ_8 hown_8 (hw _ (List.mem_of_getElem? (i := 40) rfl)) wS_10 e_9 Si_8 ls_8 (hns ▸ N_9) hkeep I_8 (by decide) (held 34 (Or.inr rfl)) hcw (vs := [(.int (82 : Int32)), (.int (101 : Int32)), (.int (97 : Int32)), (.int (108 : Int32))]) (z := (4 : Int32)) ⟨by decide, rfl⟩ (by decide) rfl (g := (mkF m 69 #[.val (.int p0), .val (.int (1 : Int32)), .val (.ref s1), .val (.int (0 : Int32)), .val (.ref t1), .unset] [(.ref t1)])) rfl (hb hby at_69) (n := 16) (by decide) (by decide) (by decide) (by decide)
    have c61 : Keep h0 h_10 [] := c31.ext E_10
    have c62 := c32.ext E_10
    have c63 : Exa Z h_10 s0 "com/example/symvane/symvane/term/Sort" := c33.ext E_10
    have c64 : Fld Z h_10 s0 "com/example/symvane/symvane/term/Sort" "smtName" "Ljava/lang/String;" (.ref t0) := c34.ext E_10
    have c65 : Exa Z h_10 t0 "java/lang/String" := c35.ext E_10
    have c66 : Fld Z h_10 t0 "java/lang/String" "coder" "B" (.int (0 : Int32)) := c36.ext E_10
    have c67 : Fld Z h_10 t0 "java/lang/String" "value" "[B" (.ref v0) := c37.ext E_10
    have c68 := c38.ext E_10
    have c69 : Exa Z h_10 s1 "com/example/symvane/symvane/term/Sort" := c39.ext E_10
    have c70 : Fld Z h_10 s1 "com/example/symvane/symvane/term/Sort" "smtName" "Ljava/lang/String;" (.ref t1) := c40.ext E_10
    have c71 : Exa Z h_10 t1 "java/lang/String" := c41.ext E_10
    have c72 : Fld Z h_10 t1 "java/lang/String" "coder" "B" (.int (0 : Int32)) := c42.ext E_10
    have c73 : Fld Z h_10 t1 "java/lang/String" "value" "[B" (.ref v1) := c43.ext E_10
    have c74 := c44.ext E_10
    have c75 : Exa Z h_10 s2 "com/example/symvane/symvane/term/Sort" := c45.ext E_10
    have c76 : Fld Z h_10 s2 "com/example/symvane/symvane/term/Sort" "smtName" "Ljava/lang/String;" (.ref t2) := c46.ext E_10
    have c77 : Exa Z h_10 t2 "java/lang/String" := c47.ext E_10
    have c78 : Fld Z h_10 t2 "java/lang/String" "coder" "B" (.int (0 : Int32)) := c48.ext E_10
    have c79 : Fld Z h_10 t2 "java/lang/String" "value" "[B" (.ref v2) := c49.ext E_10
    have c80 := c50.ext E_10
    have c81 : Exa Z h_10 s3 "com/example/symvane/symvane/term/Sort" := c51.ext E_10
    have c82 : Fld Z h_10 s3 "com/example/symvane/symvane/term/Sort" "smtName" "Ljava/lang/String;" (.ref t3) := c52.ext E_10
    have c83 : Exa Z h_10 t3 "java/lang/String" := c53.ext E_10
    have c84 : Fld Z h_10 t3 "java/lang/String" "coder" "B" (.int (0 : Int32)) := c54.ext E_10
    have c85 : Fld Z h_10 t3 "java/lang/String" "value" "[B" (.ref v3) := c55.ext E_10
    have c86 := c56.ext E_10
    have c87 := c57.ext E_10
    have c88 := c58.ext E_10
    have c89 := c59.ext E_10
    have c90 := c60.ext E_10
    have c91 : Exa Z h_10 b_8 "java/lang/String" := A_8.ext E_10
    have c92 : Fld Z h_10 b_8 "java/lang/String" "coder" "B" (.int (0 : Int32)) := Fc_8.ext E_10
    have c93 : Fld Z h_10 b_8 "java/lang/String" "value" "[B" (.ref d_8) := Fv_8.ext E_10
    have c94 := V_8.ext E_10
    have Z0__10 : n0 ≤ h_10.size := Nat.le_trans Z0__8 E_10.1
    refine own_go (B := T_10.setTop (mkF m 71 #[.val (.int p0), .val (.int (1 : Int32)), .val (.ref s1), .val (.int (0 : Int32)), .val (.ref t1), .unset] [(.ref b_10), (.ref t1)])) (fun t k => st_10 t k) ?_
    obtain ⟨cq_11, kq_11, q_11a, q_11b, q_11c⟩ := isOf hZ_10 e_10 c71
    obtain ⟨_, _, ⟨T_11, L_11, k_11, n_11⟩, -, X_11, ⟨Lc_11, hQ_11, l_11, y_11, z_11⟩, st_11⟩ := X_10.virtualBack hx (y := (⟨"java/lang/String", "equals", "(Ljava/lang/Object;)Z"⟩ : MethodName)) (z := (⟨"java/lang/String", "equals", "(Ljava/lang/Object;)Z"⟩ : MethodName)) hown_10 (mvT hZ_10 (hw _ (List.mem_of_getElem? (i := 18) rfl))) (mvT hZ_10 (hw _ (List.mem_of_getElem? (i := 19) rfl))) (notFace_of_selects (args := #[]) (mvT hZ_10 (hw _ (List.mem_of_getElem? (i := 21) rfl)))) (mvT hZ_10 (hw _ (List.mem_of_getElem? (i := 21) rfl))) (mvT hZ_10 (hw _ (List.mem_of_getElem? (i := 20) rfl))) (by decide) (backOf (W := 0) (rmEBoolReal l Z av0 hw [] t1 b_10 v1 d_10 y1 kc_10 w h_10 n0 Z0__10 c71 c72 c73 A_10 Fc_10 Fv_10 c88 V_10 c86 hw0 (own_sne c73 Fv_10 c88 V_10 (by decide))) hZ_10 (hw _ (List.mem_of_getElem? (i := 22) rfl)) (hw _ (List.mem_of_getElem? (i := 11) rfl)) (by decide) (by decide)) q_11a q_11c (g := (mkF m 71 #[.val (.int p0), .val (.int (1 : Int32)), .val (.ref s1), .val (.int (0 : Int32)), .val (.ref t1), .unset] [(.ref b_10), (.ref t1)])) rfl (by rw [hml]; rfl) (Steps.refl _) (argsL := [(.ref b_10)]) (rest := []) (lenOf pd_2 rfl) rfl (by show 2 * 0 + _ ≤ _; exact Nat.le_of_eq rfl) (hb hby at_71) (fun _ _ => ⟨rfl, e_10, (by decide : 4 + 0 ≤ _), (by decide : 36 + 0 ≤ _)⟩)
    dsimp only [Pt.U, Pt.locs, Pt.cells, Pt.slots] at X_11 l_11 y_11 z_11 st_11 hQ_11
    subst l_11 y_11 z_11
    obtain ⟨rfl, N_11q, e_11⟩ := hQ_11
    have N_11 := Fr.app N_9 N_11q
    refine own_go (B := T_11.setTop (mkF m 74 #[.val (.int p0), .val (.int (1 : Int32)), .val (.ref s1), .val (.int (0 : Int32)), .val (.ref t1), .unset] [(.int (0 : Int32))])) (fun t k => st_11.trans k) ?_
    refine own_go (B := T_11.setTop (mkF m 81 #[.val (.int p0), .val (.int (1 : Int32)), .val (.ref s1), .val (.int (0 : Int32)), .val (.ref t1), .unset] [])) (fun t k => ?_) ?_
    · show Steps p.tables e below (T_11.setTop (mkF m 74 #[.val (.int p0), .val (.int (1 : Int32)), .val (.ref s1), .val (.int (0 : Int32)), .val (.ref t1), .unset] [(.int (0 : Int32))])) _
      refine XS.ifYes X_11.here hx rfl (pc0 := 74) (pc' := 81) rfl (hb hby at_74) rfl ((if0 _ _).trans (teq (by decide : (0 : Int32) = (0 : Int32))).1) (by decide) (by decide) ?_
      exact k
    refine own_go (B := T_11.setTop (mkF m 85 #[.val (.int p0), .val (.int (1 : Int32)), .val (.ref s1), .val (.int (0 : Int32)), .val (.ref t1), .val (.int (0 : Int32))] [(.ref s1)])) (fun t k => ?_) ?_
    · show Steps p.tables e below (T_11.setTop (mkF m 81 #[.val (.int p0), .val (.int (1 : Int32)), .val (.ref s1), .val (.int (0 : Int32)), .val (.ref t1), .unset] [])) _
      refine XS.iconst X_11.here hx rfl (hb hby at_81) ?_
      show Steps p.tables e below (T_11.setTop (mkF m 82 #[.val (.int p0), .val (.int (1 : Int32)), .val (.ref s1), .val (.int (0 : Int32)), .val (.ref t1), .unset] [(.int (0 : Int32))])) _
      refine XS.istore X_11.here hx rfl (hb hby at_82) rfl (l' := #[.val (.int p0), .val (.int (1 : Int32)), .val (.ref s1), .val (.int (0 : Int32)), .val (.ref t1), .val (.int (0 : Int32))]) rfl ?_
      show Steps p.tables e below (T_11.setTop (mkF m 84 #[.val (.int p0), .val (.int (1 : Int32)), .val (.ref s1), .val (.int (0 : Int32)), .val (.ref t1), .val (.int (0 : Int32))] [])) _
      refine XS.aloadN X_11.here hx rfl (hb hby at_84) rfl rfl ?_
      exact k
    obtain ⟨cq_12, kq_12, q_12a, q_12b, q_12c⟩ := isOf hZ_10 e_11 c69
    obtain ⟨_, _, ⟨T_12, L_12, k_12, n_12⟩, -, X_12, ⟨Lc_12, hQ_12, l_12, y_12, z_12⟩, st_12⟩ := X_11.virtualBack hx (y := (⟨"com/example/symvane/symvane/term/Sort", "isNumeric", "()Z"⟩ : MethodName)) (z := (⟨"com/example/symvane/symvane/term/Sort", "isNumeric", "()Z"⟩ : MethodName)) hown_10 (mvT hZ_10 (hw _ (List.mem_of_getElem? (i := 32) rfl))) (mvT hZ_10 (hw _ (List.mem_of_getElem? (i := 33) rfl))) (notFace_of_selects (args := #[]) (mvT hZ_10 (hw _ (List.mem_of_getElem? (i := 35) rfl)))) (mvT hZ_10 (hw _ (List.mem_of_getElem? (i := 35) rfl))) (mvT hZ_10 (hw _ (List.mem_of_getElem? (i := 34) rfl))) (by decide) (backOf (W := 0) (rm4 l Z av0 hw [] s1 s0 s2 h_10 n0 Z0__10 c62 c74) hZ_10 (hw _ (List.mem_of_getElem? (i := 36) rfl)) (hw _ (List.mem_of_getElem? (i := 1) rfl)) (by decide) (by decide)) q_12a q_12c (g := (mkF m 85 #[.val (.int p0), .val (.int (1 : Int32)), .val (.ref s1), .val (.int (0 : Int32)), .val (.ref t1), .val (.int (0 : Int32))] [(.ref s1)])) rfl (by rw [hml]; rfl) (Steps.refl _) (argsL := []) (rest := []) (lenOf pd_3 rfl) rfl (by show 2 * 0 + _ ≤ _; exact Nat.le_of_eq rfl) (hb hby at_85) (fun _ _ => ⟨rfl, e_11, (by decide : 4 + 0 ≤ _), (by decide : 36 + 0 ≤ _)⟩)
    dsimp only [Pt.U, Pt.locs, Pt.cells, Pt.slots] at X_12 l_12 y_12 z_12 st_12 hQ_12
    subst l_12 y_12 z_12
    obtain ⟨hv_12, N_12q, e_12⟩ := hQ_12
    have N_12 := Fr.app N_11 N_12q
    rw [show own_num s1 s0 s2 = (0 : Int32) from (by unfold own_num; rw [if_neg (n10), if_neg (n12)])] at hv_12
    subst hv_12
    refine own_go (B := T_12.setTop (mkF m 88 #[.val (.int p0), .val (.int (1 : Int32)), .val (.ref s1), .val (.int (0 : Int32)), .val (.ref t1), .val (.int (0 : Int32))] [(.int (0 : Int32))])) (fun t k => st_12.trans k) ?_
    refine own_go (B := T_12.setTop (mkF m 89 #[.val (.int p0), .val (.int (1 : Int32)), .val (.ref s1), .val (.int (0 : Int32)), .val (.ref t1), .val (.int (0 : Int32))] [(.int (0 : Int32)), (.int (0 : Int32))])) (fun t k => ?_) ?_
    · show Steps p.tables e below (T_12.setTop (mkF m 88 #[.val (.int p0), .val (.int (1 : Int32)), .val (.ref s1), .val (.int (0 : Int32)), .val (.ref t1), .val (.int (0 : Int32))] [(.int (0 : Int32))])) _
      refine XS.iloadN X_12.here hx rfl (hb hby at_88) rfl ?_
      exact k
    refine own_go (B := T_12.setTop (mkF m 92 #[.val (.int p0), .val (.int (1 : Int32)), .val (.ref s1), .val (.int (0 : Int32)), .val (.ref t1), .val (.int (0 : Int32))] [])) (fun t k => ?_) ?_
    · show Steps p.tables e below (T_12.setTop (mkF m 89 #[.val (.int p0), .val (.int (1 : Int32)), .val (.ref s1), .val (.int (0 : Int32)), .val (.ref t1), .val (.int (0 : Int32))] [(.int (0 : Int32)), (.int (0 : Int32))])) _
      refine XS.icmpNo X_12.here hx rfl (hb hby at_89) rfl (teq (by decide : (0 : Int32) = (0 : Int32))).2 ?_
      exact k
    refine own_go (B := T_12.setTop (mkF m 95 #[.val (.int p0), .val (.int (1 : Int32)), .val (.ref s1), .val (.int (0 : Int32)), .val (.ref t1), .val (.int (0 : Int32))] [(.int (0 : Int32)), (.int (0 : Int32))])) (fun t k => ?_) ?_
    · show Steps p.tables e below (T_12.setTop (mkF m 92 #[.val (.int p0), .val (.int (1 : Int32)), .val (.ref s1), .val (.int (0 : Int32)), .val (.ref t1), .val (.int (0 : Int32))] [])) _
      refine XS.iloadN X_12.here hx rfl (hb hby at_92) rfl ?_
      show Steps p.tables e below (T_12.setTop (mkF m 93 #[.val (.int p0), .val (.int (1 : Int32)), .val (.ref s1), .val (.int (0 : Int32)), .val (.ref t1), .val (.int (0 : Int32))] [(.int (0 : Int32))])) _
      refine XS.iload X_12.here hx rfl (hb hby at_93) rfl ?_
      exact k
    refine own_go (B := T_12.setTop (mkF m 98 #[.val (.int p0), .val (.int (1 : Int32)), .val (.ref s1), .val (.int (0 : Int32)), .val (.ref t1), .val (.int (0 : Int32))] [])) (fun t k => ?_) ?_
    · show Steps p.tables e below (T_12.setTop (mkF m 95 #[.val (.int p0), .val (.int (1 : Int32)), .val (.ref s1), .val (.int (0 : Int32)), .val (.ref t1), .val (.int (0 : Int32))] [(.int (0 : Int32)), (.int (0 : Int32))])) _
      refine XS.icmpNo X_12.here hx rfl (hb hby at_95) rfl (teq (by decide : (0 : Int32) = (0 : Int32))).2 ?_
      exact k
    refine own_go (B := T_12.setTop (mkF m 103 #[.val (.int p0), .val (.int (1 : Int32)), .val (.ref s1), .val (.int (0 : Int32)), .val (.ref t1), .val (.int (0 : Int32))] [(.int (1 : Int32))])) (fun t k => ?_) ?_
    · show Steps p.tables e below (T_12.setTop (mkF m 98 #[.val (.int p0), .val (.int (1 : Int32)), .val (.ref s1), .val (.int (0 : Int32)), .val (.ref t1), .val (.int (0 : Int32))] [])) _
      refine XS.iconst X_12.here hx rfl (hb hby at_98) ?_
      show Steps p.tables e below (T_12.setTop (mkF m 99 #[.val (.int p0), .val (.int (1 : Int32)), .val (.ref s1), .val (.int (0 : Int32)), .val (.ref t1), .val (.int (0 : Int32))] [(.int (1 : Int32))])) _
      refine XS.goto X_12.here hx rfl (pc0 := 99) (pc' := 103) rfl (hb hby at_99) (by decide) (by decide) ?_
      exact k
    obtain ⟨fs, hr, hrun, hended, hRW⟩ := X_12.leaveW Si_10 (by rw [e_12]; exact ls_10) (v := some (.int (1 : Int32))) (fun h => by rw [Bd.returns] at h; cases h)
    refine ⟨_, _, ?_, hrun, hended, _, _, rfl, ?_, hRW.1, hRW.2.1, hRW.2.2.1, hRW.2.2.2.mono (by decide) (by decide)⟩
    · show Steps p.tables e below (T_12.setTop (mkF m 103 #[.val (.int p0), .val (.int (1 : Int32)), .val (.ref s1), .val (.int (0 : Int32)), .val (.ref t1), .val (.int (0 : Int32))] [(.int (1 : Int32))])) _
      exact retN X_12 hx (t := .boolean) Bd.returns (by simp) (hb hby at_103) hr
    · show Q0 Z p0 s0 s1 s2 s3 t0 t1 t2 t3 v0 v1 v2 v3 y0 y1 y2 y3 w h0 n0 _ T_12.heap _
      rw [e_12]
      exact ⟨rfl, N_12, trivial⟩
  · show ∃ s₂ o, Steps p.tables e below (s₁.setTop (mkF m 5 #[.val (.int p0), .val (.int (2 : Int32)), .unset, .unset, .unset, .unset] [(.int (2 : Int32))])) s₂ ∧ _
    refine own_go (B := s₁.setTop (mkF m 17 #[.val (.int p0), .val (.int (2 : Int32)), .unset, .unset, .unset, .unset] [])) (fun t k => ?_) ?_
    · show Steps p.tables e below (s₁.setTop (mkF m 5 #[.val (.int p0), .val (.int (2 : Int32)), .unset, .unset, .unset, .unset] [(.int (2 : Int32))])) _
      refine XS.ifYes X0.here hx rfl (pc0 := 5) (pc' := 17) rfl (hb hby at_5) rfl ((if0 _ _).trans (feq (by decide : ¬ ((2 : Int32) = (0 : Int32)))).2) (by decide) (by decide) ?_
      exact k
    refine own_go (B := s₁.setTop (mkF m 19 #[.val (.int p0), .val (.int (2 : Int32)), .unset, .unset, .unset, .unset] [(.int (1 : Int32)), (.int (2 : Int32))])) (fun t k => ?_) ?_
    · show Steps p.tables e below (s₁.setTop (mkF m 17 #[.val (.int p0), .val (.int (2 : Int32)), .unset, .unset, .unset, .unset] [])) _
      refine XS.iloadN X0.here hx rfl (hb hby at_17) rfl ?_
      show Steps p.tables e below (s₁.setTop (mkF m 18 #[.val (.int p0), .val (.int (2 : Int32)), .unset, .unset, .unset, .unset] [(.int (2 : Int32))])) _
      refine XS.iconst X0.here hx rfl (hb hby at_18) ?_
      exact k
    refine own_go (B := s₁.setTop (mkF m 31 #[.val (.int p0), .val (.int (2 : Int32)), .unset, .unset, .unset, .unset] [])) (fun t k => ?_) ?_
    · show Steps p.tables e below (s₁.setTop (mkF m 19 #[.val (.int p0), .val (.int (2 : Int32)), .unset, .unset, .unset, .unset] [(.int (1 : Int32)), (.int (2 : Int32))])) _
      refine XS.icmpYes X0.here hx rfl (pc0 := 19) (pc' := 31) rfl (hb hby at_19) rfl (feq (by decide : ¬ ((2 : Int32) = (1 : Int32)))).2 (by decide) (by decide) ?_
      exact k
    refine own_go (B := s₁.setTop (mkF m 33 #[.val (.int p0), .val (.int (2 : Int32)), .unset, .unset, .unset, .unset] [(.int (2 : Int32)), (.int (2 : Int32))])) (fun t k => ?_) ?_
    · show Steps p.tables e below (s₁.setTop (mkF m 31 #[.val (.int p0), .val (.int (2 : Int32)), .unset, .unset, .unset, .unset] [])) _
      refine XS.iloadN X0.here hx rfl (hb hby at_31) rfl ?_
      show Steps p.tables e below (s₁.setTop (mkF m 32 #[.val (.int p0), .val (.int (2 : Int32)), .unset, .unset, .unset, .unset] [(.int (2 : Int32))])) _
      refine XS.iconst X0.here hx rfl (hb hby at_32) ?_
      exact k
    refine own_go (B := s₁.setTop (mkF m 36 #[.val (.int p0), .val (.int (2 : Int32)), .unset, .unset, .unset, .unset] [])) (fun t k => ?_) ?_
    · show Steps p.tables e below (s₁.setTop (mkF m 33 #[.val (.int p0), .val (.int (2 : Int32)), .unset, .unset, .unset, .unset] [(.int (2 : Int32)), (.int (2 : Int32))])) _
      refine XS.icmpNo X0.here hx rfl (hb hby at_33) rfl (teq (by decide : (2 : Int32) = (2 : Int32))).2 ?_
      exact k
    obtain ⟨T_13, X_13, e_13, st_13⟩ := getS2 X0 hx hZ hown (host := "") (Or.inl (hw _ (List.mem_of_getElem? (i := 43) rfl))) Via.refl e0 S_REAL (g := (mkF m 36 #[.val (.int p0), .val (.int (2 : Int32)), .unset, .unset, .unset, .unset] [])) rfl (hb hby at_36)
    refine own_go (B := T_13.setTop (mkF m 39 #[.val (.int p0), .val (.int (2 : Int32)), .unset, .unset, .unset, .unset] [(.ref s2)])) (fun t k => st_13 t k) ?_
    refine own_go (B := T_13.setTop (mkF m 52 #[.val (.int p0), .val (.int (2 : Int32)), .val (.ref s2), .val (.int (1 : Int32)), .unset, .unset] [(.ref s2)])) (fun t k => ?_) ?_
    · show Steps p.tables e below (T_13.setTop (mkF m 39 #[.val (.int p0), .val (.int (2 : Int32)), .unset, .unset, .unset, .unset] [(.ref s2)])) _
      refine XS.astoreN X_13.here hx rfl (hb hby at_39) rfl rfl (l' := #[.val (.int p0), .val (.int (2 : Int32)), .val (.ref s2), .unset, .unset, .unset]) rfl ?_
      show Steps p.tables e below (T_13.setTop (mkF m 40 #[.val (.int p0), .val (.int (2 : Int32)), .val (.ref s2), .unset, .unset, .unset] [])) _
      refine XS.iconst X_13.here hx rfl (hb hby at_40) ?_
      show Steps p.tables e below (T_13.setTop (mkF m 41 #[.val (.int p0), .val (.int (2 : Int32)), .val (.ref s2), .unset, .unset, .unset] [(.int (1 : Int32))])) _
      refine XS.istoreN X_13.here hx rfl (hb hby at_41) rfl (l' := #[.val (.int p0), .val (.int (2 : Int32)), .val (.ref s2), .val (.int (1 : Int32)), .unset, .unset]) rfl ?_
      show Steps p.tables e below (T_13.setTop (mkF m 42 #[.val (.int p0), .val (.int (2 : Int32)), .val (.ref s2), .val (.int (1 : Int32)), .unset, .unset] [])) _
      refine XS.goto X_13.here hx rfl (pc0 := 42) (pc' := 51) rfl (hb hby at_42) (by decide) (by decide) ?_
      show Steps p.tables e below (T_13.setTop (mkF m 51 #[.val (.int p0), .val (.int (2 : Int32)), .val (.ref s2), .val (.int (1 : Int32)), .unset, .unset] [])) _
      refine XS.aloadN X_13.here hx rfl (hb hby at_51) rfl rfl ?_
      exact k
    obtain ⟨cq_14, kq_14, q_14a, q_14b, q_14c⟩ := isOf hZ e_13 E_s2
    obtain ⟨_, _, ⟨T_14, L_14, k_14, n_14⟩, -, X_14, ⟨Lc_14, hQ_14, l_14, y_14, z_14⟩, st_14⟩ := X_13.virtualBack hx (y := (⟨"com/example/symvane/symvane/term/Sort", "toString", "()Ljava/lang/String;"⟩ : MethodName)) (z := (⟨"com/example/symvane/symvane/term/Sort", "toString", "()Ljava/lang/String;"⟩ : MethodName)) hown (mvT hZ (hw _ (List.mem_of_getElem? (i := 3) rfl))) (mvT hZ (hw _ (List.mem_of_getElem? (i := 4) rfl))) (notFace_of_selects (args := #[]) (mvT hZ (hw _ (List.mem_of_getElem? (i := 6) rfl)))) (mvT hZ (hw _ (List.mem_of_getElem? (i := 6) rfl))) (mvT hZ (hw _ (List.mem_of_getElem? (i := 5) rfl))) (by decide) (backOf (W := 0) (rm1 l Z av0 hw [] s2 t2 h0 n0 Z0 F_smtName_s2) hZ (hw _ (List.mem_of_getElem? (i := 7) rfl)) (hw _ (List.mem_of_getElem? (i := 1) rfl)) (by decide) (by decide)) q_14a q_14c (g := (mkF m 52 #[.val (.int p0), .val (.int (2 : Int32)), .val (.ref s2), .val (.int (1 : Int32)), .unset, .unset] [(.ref s2)])) rfl (by rw [hml]; rfl) (Steps.refl _) (argsL := []) (rest := []) (lenOf pd_1 rfl) rfl (by show 2 * 0 + _ ≤ _; exact Nat.le_of_eq rfl) (hb hby at_52) (fun _ _ => ⟨rfl, e_13, (by decide : 0 + 0 ≤ _), (by decide : 0 + 0 ≤ _)⟩)
    dsimp only [Pt.U, Pt.locs, Pt.cells, Pt.slots] at X_14 l_14 y_14 z_14 st_14 hQ_14
    subst l_14 y_14 z_14
    obtain ⟨rfl, N_14q, e_14⟩ := hQ_14
    have N_14 := Fr.app N0 N_14q
    refine own_go (B := T_14.setTop (mkF m 55 #[.val (.int p0), .val (.int (2 : Int32)), .val (.ref s2), .val (.int (1 : Int32)), .unset, .unset] [(.ref t2)])) (fun t k => st_14.trans k) ?_
    refine own_go (B := T_14.setTop (mkF m 59 #[.val (.int p0), .val (.int (2 : Int32)), .val (.ref s2), .val (.int (1 : Int32)), .val (.ref t2), .unset] [(.ref t2)])) (fun t k => ?_) ?_
    · show Steps p.tables e below (T_14.setTop (mkF m 55 #[.val (.int p0), .val (.int (2 : Int32)), .val (.ref s2), .val (.int (1 : Int32)), .unset, .unset] [(.ref t2)])) _
      refine XS.astore X_14.here hx rfl (hb hby at_55) rfl rfl (l' := #[.val (.int p0), .val (.int (2 : Int32)), .val (.ref s2), .val (.int (1 : Int32)), .val (.ref t2), .unset]) rfl ?_
      show Steps p.tables e below (T_14.setTop (mkF m 57 #[.val (.int p0), .val (.int (2 : Int32)), .val (.ref s2), .val (.int (1 : Int32)), .val (.ref t2), .unset] [])) _
      refine XS.aload X_14.here hx rfl (hb hby at_57) rfl rfl ?_
      exact k
    have wS_15 : ∀ a ∈ Bundle.stringAtoms, a.before av0 Z = true := by
      intro a ha
      simp only [Bundle.stringAtoms, List.mem_cons, List.not_mem_nil, or_false] at ha
      rcases ha with rfl | rfl | rfl | rfl | rfl | rfl | rfl
      · exact (hw _ (List.mem_of_getElem? (i := 11) rfl))
      · exact (hw _ (List.mem_of_getElem? (i := 12) rfl))
      · exact (hw _ (List.mem_of_getElem? (i := 13) rfl))
      · exact (hw _ (List.mem_of_getElem? (i := 14) rfl))
      · exact (hw _ (List.mem_of_getElem? (i := 15) rfl))
      · exact (hw _ (List.mem_of_getElem? (i := 16) rfl))
      · exact (hw _ (List.mem_of_getElem? (i := 17) rfl))
    obtain ⟨b_15, T_15, h_15, k1_15, d_15, kc_15, X_15, e_15, E_15, Si_15, ls_15, hZ_15, hown_15, A_15, Fc_15, Fv_15, V_15, -, -, I_15, st_15⟩ := ldcSV (s := s) (vm0 := s.vm) (show Stand p l e room_1 (s.setVm s.vm) m #[(.int p0)] below meth c T_14 _ _ _ from X_14) hx hZ hown (hw _ (List.mem_of_getElem? (i := 10) rfl)) wS_15 e_14 ((State.WarmedH.refl s).since 0) (Nat.zero_le _) (hns ▸ N_14) hkeep I0 (by decide) (held 26 (Or.inl rfl)) hcw (vs := [(.int (73 : Int32)), (.int (110 : Int32)), (.int (116 : Int32))]) (z := (3 : Int32)) ⟨by decide, rfl⟩ (by decide) rfl (g := (mkF m 59 #[.val (.int p0), .val (.int (2 : Int32)), .val (.ref s2), .val (.int (1 : Int32)), .val (.ref t2), .unset] [(.ref t2)])) rfl (hb hby at_59) (n := 12) (by decide) (by decide) (by decide) (by decide)
    have c95 : Keep h0 h_15 [] := K0.ext E_15
    have c96 := S_INT.ext E_15
    have c97 : Exa Z h_15 s0 "com/example/symvane/symvane/term/Sort" := E_s0.ext E_15
    have c98 : Fld Z h_15 s0 "com/example/symvane/symvane/term/Sort" "smtName" "Ljava/lang/String;" (.ref t0) := F_smtName_s0.ext E_15
    have c99 : Exa Z h_15 t0 "java/lang/String" := E_t0.ext E_15
    have c100 : Fld Z h_15 t0 "java/lang/String" "coder" "B" (.int (0 : Int32)) := F_coder_t0.ext E_15
    have c101 : Fld Z h_15 t0 "java/lang/String" "value" "[B" (.ref v0) := F_value_t0.ext E_15
    have c102 := S_BOOL.ext E_15
    have c103 : Exa Z h_15 s1 "com/example/symvane/symvane/term/Sort" := E_s1.ext E_15
    have c104 : Fld Z h_15 s1 "com/example/symvane/symvane/term/Sort" "smtName" "Ljava/lang/String;" (.ref t1) := F_smtName_s1.ext E_15
    have c105 : Exa Z h_15 t1 "java/lang/String" := E_t1.ext E_15
    have c106 : Fld Z h_15 t1 "java/lang/String" "coder" "B" (.int (0 : Int32)) := F_coder_t1.ext E_15
    have c107 : Fld Z h_15 t1 "java/lang/String" "value" "[B" (.ref v1) := F_value_t1.ext E_15
    have c108 := S_REAL.ext E_15
    have c109 : Exa Z h_15 s2 "com/example/symvane/symvane/term/Sort" := E_s2.ext E_15
    have c110 : Fld Z h_15 s2 "com/example/symvane/symvane/term/Sort" "smtName" "Ljava/lang/String;" (.ref t2) := F_smtName_s2.ext E_15
    have c111 : Exa Z h_15 t2 "java/lang/String" := E_t2.ext E_15
    have c112 : Fld Z h_15 t2 "java/lang/String" "coder" "B" (.int (0 : Int32)) := F_coder_t2.ext E_15
    have c113 : Fld Z h_15 t2 "java/lang/String" "value" "[B" (.ref v2) := F_value_t2.ext E_15
    have c114 := S_STRING.ext E_15
    have c115 : Exa Z h_15 s3 "com/example/symvane/symvane/term/Sort" := E_s3.ext E_15
    have c116 : Fld Z h_15 s3 "com/example/symvane/symvane/term/Sort" "smtName" "Ljava/lang/String;" (.ref t3) := F_smtName_s3.ext E_15
    have c117 : Exa Z h_15 t3 "java/lang/String" := E_t3.ext E_15
    have c118 : Fld Z h_15 t3 "java/lang/String" "coder" "B" (.int (0 : Int32)) := F_coder_t3.ext E_15
    have c119 : Fld Z h_15 t3 "java/lang/String" "value" "[B" (.ref v3) := F_value_t3.ext E_15
    have c120 := S_COMPACT_STRINGS.ext E_15
    have c121 := V0.ext E_15
    have c122 := V1.ext E_15
    have c123 := V2.ext E_15
    have c124 := V3.ext E_15
    have Z0__15 : n0 ≤ h_15.size := Nat.le_trans Z0 E_15.1
    refine own_go (B := T_15.setTop (mkF m 61 #[.val (.int p0), .val (.int (2 : Int32)), .val (.ref s2), .val (.int (1 : Int32)), .val (.ref t2), .unset] [(.ref b_15), (.ref t2)])) (fun t k => st_15 t k) ?_
    obtain ⟨cq_16, kq_16, q_16a, q_16b, q_16c⟩ := isOf hZ_15 e_15 c111
    obtain ⟨_, _, ⟨T_16, L_16, k_16, n_16⟩, -, X_16, ⟨Lc_16, hQ_16, l_16, y_16, z_16⟩, st_16⟩ := X_15.virtualBack hx (y := (⟨"java/lang/String", "equals", "(Ljava/lang/Object;)Z"⟩ : MethodName)) (z := (⟨"java/lang/String", "equals", "(Ljava/lang/Object;)Z"⟩ : MethodName)) hown_15 (mvT hZ_15 (hw _ (List.mem_of_getElem? (i := 18) rfl))) (mvT hZ_15 (hw _ (List.mem_of_getElem? (i := 19) rfl))) (notFace_of_selects (args := #[]) (mvT hZ_15 (hw _ (List.mem_of_getElem? (i := 21) rfl)))) (mvT hZ_15 (hw _ (List.mem_of_getElem? (i := 21) rfl))) (mvT hZ_15 (hw _ (List.mem_of_getElem? (i := 20) rfl))) (by decide) (backOf (W := 0) (rmERealInt l Z av0 hw [] t2 b_15 v2 d_15 y2 kc_15 w h_15 n0 Z0__15 c111 c112 c113 A_15 Fc_15 Fv_15 c123 V_15 c120 hw0 (own_sne c113 Fv_15 c123 V_15 (by decide))) hZ_15 (hw _ (List.mem_of_getElem? (i := 22) rfl)) (hw _ (List.mem_of_getElem? (i := 11) rfl)) (by decide) (by decide)) q_16a q_16c (g := (mkF m 61 #[.val (.int p0), .val (.int (2 : Int32)), .val (.ref s2), .val (.int (1 : Int32)), .val (.ref t2), .unset] [(.ref b_15), (.ref t2)])) rfl (by rw [hml]; rfl) (Steps.refl _) (argsL := [(.ref b_15)]) (rest := []) (lenOf pd_2 rfl) rfl (by show 2 * 0 + _ ≤ _; exact Nat.le_of_eq rfl) (hb hby at_61) (fun _ _ => ⟨rfl, e_15, (by decide : 2 + 0 ≤ _), (by decide : 16 + 0 ≤ _)⟩)
    dsimp only [Pt.U, Pt.locs, Pt.cells, Pt.slots] at X_16 l_16 y_16 z_16 st_16 hQ_16
    subst l_16 y_16 z_16
    obtain ⟨rfl, N_16q, e_16⟩ := hQ_16
    have N_16 := Fr.app N_14 N_16q
    refine own_go (B := T_16.setTop (mkF m 64 #[.val (.int p0), .val (.int (2 : Int32)), .val (.ref s2), .val (.int (1 : Int32)), .val (.ref t2), .unset] [(.int (0 : Int32))])) (fun t k => st_16.trans k) ?_
    refine own_go (B := T_16.setTop (mkF m 67 #[.val (.int p0), .val (.int (2 : Int32)), .val (.ref s2), .val (.int (1 : Int32)), .val (.ref t2), .unset] [])) (fun t k => ?_) ?_
    · show Steps p.tables e below (T_16.setTop (mkF m 64 #[.val (.int p0), .val (.int (2 : Int32)), .val (.ref s2), .val (.int (1 : Int32)), .val (.ref t2), .unset] [(.int (0 : Int32))])) _
      refine XS.ifNo X_16.here hx rfl (hb hby at_64) rfl ((if0 _ _).trans (teq (by decide : (0 : Int32) = (0 : Int32))).2) ?_
      exact k
    refine own_go (B := T_16.setTop (mkF m 69 #[.val (.int p0), .val (.int (2 : Int32)), .val (.ref s2), .val (.int (1 : Int32)), .val (.ref t2), .unset] [(.ref t2)])) (fun t k => ?_) ?_
    · show Steps p.tables e below (T_16.setTop (mkF m 67 #[.val (.int p0), .val (.int (2 : Int32)), .val (.ref s2), .val (.int (1 : Int32)), .val (.ref t2), .unset] [])) _
      refine XS.aload X_16.here hx rfl (hb hby at_67) rfl rfl ?_
      exact k
    have wS_17 : ∀ a ∈ Bundle.stringAtoms, a.before av0 Z = true := by
      intro a ha
      simp only [Bundle.stringAtoms, List.mem_cons, List.not_mem_nil, or_false] at ha
      rcases ha with rfl | rfl | rfl | rfl | rfl | rfl | rfl
      · exact (hw _ (List.mem_of_getElem? (i := 11) rfl))
      · exact (hw _ (List.mem_of_getElem? (i := 12) rfl))
      · exact (hw _ (List.mem_of_getElem? (i := 13) rfl))
      · exact (hw _ (List.mem_of_getElem? (i := 14) rfl))
      · exact (hw _ (List.mem_of_getElem? (i := 15) rfl))
      · exact (hw _ (List.mem_of_getElem? (i := 16) rfl))
      · exact (hw _ (List.mem_of_getElem? (i := 17) rfl))
    obtain ⟨b_17, T_17, h_17, k1_17, d_17, kc_17, X_17, e_17, E_17, Si_17, ls_17, hZ_17, hown_17, A_17, Fc_17, Fv_17, V_17, -, -, I_17, st_17⟩ := ldcSV (s := s) (vm0 := T_15.vm) X_16 hx hZ_15 hown_15 (hw _ (List.mem_of_getElem? (i := 40) rfl)) wS_17 e_16 Si_15 ls_15 (hns ▸ N_16) hkeep I_15 (by decide) (held 34 (Or.inr rfl)) hcw (vs := [(.int (82 : Int32)), (.int (101 : Int32)), (.int (97 : Int32)), (.int (108 : Int32))]) (z := (4 : Int32)) ⟨by decide, rfl⟩ (by decide) rfl (g := (mkF m 69 #[.val (.int p0), .val (.int (2 : Int32)), .val (.ref s2), .val (.int (1 : Int32)), .val (.ref t2), .unset] [(.ref t2)])) rfl (hb hby at_69) (n := 16) (by decide) (by decide) (by decide) (by decide)
    have c125 : Keep h0 h_17 [] := c95.ext E_17
    have c126 := c96.ext E_17
    have c127 : Exa Z h_17 s0 "com/example/symvane/symvane/term/Sort" := c97.ext E_17
    have c128 : Fld Z h_17 s0 "com/example/symvane/symvane/term/Sort" "smtName" "Ljava/lang/String;" (.ref t0) := c98.ext E_17
    have c129 : Exa Z h_17 t0 "java/lang/String" := c99.ext E_17
    have c130 : Fld Z h_17 t0 "java/lang/String" "coder" "B" (.int (0 : Int32)) := c100.ext E_17
    have c131 : Fld Z h_17 t0 "java/lang/String" "value" "[B" (.ref v0) := c101.ext E_17
    have c132 := c102.ext E_17
    have c133 : Exa Z h_17 s1 "com/example/symvane/symvane/term/Sort" := c103.ext E_17
    have c134 : Fld Z h_17 s1 "com/example/symvane/symvane/term/Sort" "smtName" "Ljava/lang/String;" (.ref t1) := c104.ext E_17
    have c135 : Exa Z h_17 t1 "java/lang/String" := c105.ext E_17
    have c136 : Fld Z h_17 t1 "java/lang/String" "coder" "B" (.int (0 : Int32)) := c106.ext E_17
    have c137 : Fld Z h_17 t1 "java/lang/String" "value" "[B" (.ref v1) := c107.ext E_17
    have c138 := c108.ext E_17
    have c139 : Exa Z h_17 s2 "com/example/symvane/symvane/term/Sort" := c109.ext E_17
    have c140 : Fld Z h_17 s2 "com/example/symvane/symvane/term/Sort" "smtName" "Ljava/lang/String;" (.ref t2) := c110.ext E_17
    have c141 : Exa Z h_17 t2 "java/lang/String" := c111.ext E_17
    have c142 : Fld Z h_17 t2 "java/lang/String" "coder" "B" (.int (0 : Int32)) := c112.ext E_17
    have c143 : Fld Z h_17 t2 "java/lang/String" "value" "[B" (.ref v2) := c113.ext E_17
    have c144 := c114.ext E_17
    have c145 : Exa Z h_17 s3 "com/example/symvane/symvane/term/Sort" := c115.ext E_17
    have c146 : Fld Z h_17 s3 "com/example/symvane/symvane/term/Sort" "smtName" "Ljava/lang/String;" (.ref t3) := c116.ext E_17
    have c147 : Exa Z h_17 t3 "java/lang/String" := c117.ext E_17
    have c148 : Fld Z h_17 t3 "java/lang/String" "coder" "B" (.int (0 : Int32)) := c118.ext E_17
    have c149 : Fld Z h_17 t3 "java/lang/String" "value" "[B" (.ref v3) := c119.ext E_17
    have c150 := c120.ext E_17
    have c151 := c121.ext E_17
    have c152 := c122.ext E_17
    have c153 := c123.ext E_17
    have c154 := c124.ext E_17
    have c155 : Exa Z h_17 b_15 "java/lang/String" := A_15.ext E_17
    have c156 : Fld Z h_17 b_15 "java/lang/String" "coder" "B" (.int (0 : Int32)) := Fc_15.ext E_17
    have c157 : Fld Z h_17 b_15 "java/lang/String" "value" "[B" (.ref d_15) := Fv_15.ext E_17
    have c158 := V_15.ext E_17
    have Z0__17 : n0 ≤ h_17.size := Nat.le_trans Z0__15 E_17.1
    refine own_go (B := T_17.setTop (mkF m 71 #[.val (.int p0), .val (.int (2 : Int32)), .val (.ref s2), .val (.int (1 : Int32)), .val (.ref t2), .unset] [(.ref b_17), (.ref t2)])) (fun t k => st_17 t k) ?_
    obtain ⟨cq_18, kq_18, q_18a, q_18b, q_18c⟩ := isOf hZ_17 e_17 c141
    obtain ⟨_, _, ⟨T_18, L_18, k_18, n_18⟩, -, X_18, ⟨Lc_18, hQ_18, l_18, y_18, z_18⟩, st_18⟩ := X_17.virtualBack hx (y := (⟨"java/lang/String", "equals", "(Ljava/lang/Object;)Z"⟩ : MethodName)) (z := (⟨"java/lang/String", "equals", "(Ljava/lang/Object;)Z"⟩ : MethodName)) hown_17 (mvT hZ_17 (hw _ (List.mem_of_getElem? (i := 18) rfl))) (mvT hZ_17 (hw _ (List.mem_of_getElem? (i := 19) rfl))) (notFace_of_selects (args := #[]) (mvT hZ_17 (hw _ (List.mem_of_getElem? (i := 21) rfl)))) (mvT hZ_17 (hw _ (List.mem_of_getElem? (i := 21) rfl))) (mvT hZ_17 (hw _ (List.mem_of_getElem? (i := 20) rfl))) (by decide) (backOf (W := 0) (rmERealReal l Z av0 hw [] t2 b_17 v2 d_17 y2 kc_17 w h_17 n0 Z0__17 c141 c142 c143 A_17 Fc_17 Fv_17 c153 V_17 c150 hw0) hZ_17 (hw _ (List.mem_of_getElem? (i := 22) rfl)) (hw _ (List.mem_of_getElem? (i := 11) rfl)) (by decide) (by decide)) q_18a q_18c (g := (mkF m 71 #[.val (.int p0), .val (.int (2 : Int32)), .val (.ref s2), .val (.int (1 : Int32)), .val (.ref t2), .unset] [(.ref b_17), (.ref t2)])) rfl (by rw [hml]; rfl) (Steps.refl _) (argsL := [(.ref b_17)]) (rest := []) (lenOf pd_2 rfl) rfl (by show 2 * 0 + _ ≤ _; exact Nat.le_of_eq rfl) (hb hby at_71) (fun _ _ => ⟨rfl, e_17, (by decide : 4 + 0 ≤ _), (by decide : 36 + 0 ≤ _)⟩)
    dsimp only [Pt.U, Pt.locs, Pt.cells, Pt.slots] at X_18 l_18 y_18 z_18 st_18 hQ_18
    subst l_18 y_18 z_18
    obtain ⟨rfl, N_18q, e_18⟩ := hQ_18
    have N_18 := Fr.app N_16 N_18q
    refine own_go (B := T_18.setTop (mkF m 74 #[.val (.int p0), .val (.int (2 : Int32)), .val (.ref s2), .val (.int (1 : Int32)), .val (.ref t2), .unset] [(.int (1 : Int32))])) (fun t k => st_18.trans k) ?_
    refine own_go (B := T_18.setTop (mkF m 77 #[.val (.int p0), .val (.int (2 : Int32)), .val (.ref s2), .val (.int (1 : Int32)), .val (.ref t2), .unset] [])) (fun t k => ?_) ?_
    · show Steps p.tables e below (T_18.setTop (mkF m 74 #[.val (.int p0), .val (.int (2 : Int32)), .val (.ref s2), .val (.int (1 : Int32)), .val (.ref t2), .unset] [(.int (1 : Int32))])) _
      refine XS.ifNo X_18.here hx rfl (hb hby at_74) rfl ((if0 _ _).trans (feq (by decide : ¬ ((1 : Int32) = (0 : Int32)))).1) ?_
      exact k
    refine own_go (B := T_18.setTop (mkF m 85 #[.val (.int p0), .val (.int (2 : Int32)), .val (.ref s2), .val (.int (1 : Int32)), .val (.ref t2), .val (.int (1 : Int32))] [(.ref s2)])) (fun t k => ?_) ?_
    · show Steps p.tables e below (T_18.setTop (mkF m 77 #[.val (.int p0), .val (.int (2 : Int32)), .val (.ref s2), .val (.int (1 : Int32)), .val (.ref t2), .unset] [])) _
      refine XS.iconst X_18.here hx rfl (hb hby at_77) ?_
      show Steps p.tables e below (T_18.setTop (mkF m 78 #[.val (.int p0), .val (.int (2 : Int32)), .val (.ref s2), .val (.int (1 : Int32)), .val (.ref t2), .unset] [(.int (1 : Int32))])) _
      refine XS.goto X_18.here hx rfl (pc0 := 78) (pc' := 82) rfl (hb hby at_78) (by decide) (by decide) ?_
      show Steps p.tables e below (T_18.setTop (mkF m 82 #[.val (.int p0), .val (.int (2 : Int32)), .val (.ref s2), .val (.int (1 : Int32)), .val (.ref t2), .unset] [(.int (1 : Int32))])) _
      refine XS.istore X_18.here hx rfl (hb hby at_82) rfl (l' := #[.val (.int p0), .val (.int (2 : Int32)), .val (.ref s2), .val (.int (1 : Int32)), .val (.ref t2), .val (.int (1 : Int32))]) rfl ?_
      show Steps p.tables e below (T_18.setTop (mkF m 84 #[.val (.int p0), .val (.int (2 : Int32)), .val (.ref s2), .val (.int (1 : Int32)), .val (.ref t2), .val (.int (1 : Int32))] [])) _
      refine XS.aloadN X_18.here hx rfl (hb hby at_84) rfl rfl ?_
      exact k
    obtain ⟨cq_19, kq_19, q_19a, q_19b, q_19c⟩ := isOf hZ_17 e_18 c139
    obtain ⟨_, _, ⟨T_19, L_19, k_19, n_19⟩, -, X_19, ⟨Lc_19, hQ_19, l_19, y_19, z_19⟩, st_19⟩ := X_18.virtualBack hx (y := (⟨"com/example/symvane/symvane/term/Sort", "isNumeric", "()Z"⟩ : MethodName)) (z := (⟨"com/example/symvane/symvane/term/Sort", "isNumeric", "()Z"⟩ : MethodName)) hown_17 (mvT hZ_17 (hw _ (List.mem_of_getElem? (i := 32) rfl))) (mvT hZ_17 (hw _ (List.mem_of_getElem? (i := 33) rfl))) (notFace_of_selects (args := #[]) (mvT hZ_17 (hw _ (List.mem_of_getElem? (i := 35) rfl)))) (mvT hZ_17 (hw _ (List.mem_of_getElem? (i := 35) rfl))) (mvT hZ_17 (hw _ (List.mem_of_getElem? (i := 34) rfl))) (by decide) (backOf (W := 0) (rm4 l Z av0 hw [] s2 s0 s2 h_17 n0 Z0__17 c126 c138) hZ_17 (hw _ (List.mem_of_getElem? (i := 36) rfl)) (hw _ (List.mem_of_getElem? (i := 1) rfl)) (by decide) (by decide)) q_19a q_19c (g := (mkF m 85 #[.val (.int p0), .val (.int (2 : Int32)), .val (.ref s2), .val (.int (1 : Int32)), .val (.ref t2), .val (.int (1 : Int32))] [(.ref s2)])) rfl (by rw [hml]; rfl) (Steps.refl _) (argsL := []) (rest := []) (lenOf pd_3 rfl) rfl (by show 2 * 0 + _ ≤ _; exact Nat.le_of_eq rfl) (hb hby at_85) (fun _ _ => ⟨rfl, e_18, (by decide : 4 + 0 ≤ _), (by decide : 36 + 0 ≤ _)⟩)
    dsimp only [Pt.U, Pt.locs, Pt.cells, Pt.slots] at X_19 l_19 y_19 z_19 st_19 hQ_19
    subst l_19 y_19 z_19
    obtain ⟨hv_19, N_19q, e_19⟩ := hQ_19
    have N_19 := Fr.app N_18 N_19q
    rw [show own_num s2 s0 s2 = (1 : Int32) from (by unfold own_num; rw [if_neg (n20), if_pos rfl])] at hv_19
    subst hv_19
    refine own_go (B := T_19.setTop (mkF m 88 #[.val (.int p0), .val (.int (2 : Int32)), .val (.ref s2), .val (.int (1 : Int32)), .val (.ref t2), .val (.int (1 : Int32))] [(.int (1 : Int32))])) (fun t k => st_19.trans k) ?_
    refine own_go (B := T_19.setTop (mkF m 89 #[.val (.int p0), .val (.int (2 : Int32)), .val (.ref s2), .val (.int (1 : Int32)), .val (.ref t2), .val (.int (1 : Int32))] [(.int (1 : Int32)), (.int (1 : Int32))])) (fun t k => ?_) ?_
    · show Steps p.tables e below (T_19.setTop (mkF m 88 #[.val (.int p0), .val (.int (2 : Int32)), .val (.ref s2), .val (.int (1 : Int32)), .val (.ref t2), .val (.int (1 : Int32))] [(.int (1 : Int32))])) _
      refine XS.iloadN X_19.here hx rfl (hb hby at_88) rfl ?_
      exact k
    refine own_go (B := T_19.setTop (mkF m 92 #[.val (.int p0), .val (.int (2 : Int32)), .val (.ref s2), .val (.int (1 : Int32)), .val (.ref t2), .val (.int (1 : Int32))] [])) (fun t k => ?_) ?_
    · show Steps p.tables e below (T_19.setTop (mkF m 89 #[.val (.int p0), .val (.int (2 : Int32)), .val (.ref s2), .val (.int (1 : Int32)), .val (.ref t2), .val (.int (1 : Int32))] [(.int (1 : Int32)), (.int (1 : Int32))])) _
      refine XS.icmpNo X_19.here hx rfl (hb hby at_89) rfl (teq (by decide : (1 : Int32) = (1 : Int32))).2 ?_
      exact k
    refine own_go (B := T_19.setTop (mkF m 95 #[.val (.int p0), .val (.int (2 : Int32)), .val (.ref s2), .val (.int (1 : Int32)), .val (.ref t2), .val (.int (1 : Int32))] [(.int (1 : Int32)), (.int (1 : Int32))])) (fun t k => ?_) ?_
    · show Steps p.tables e below (T_19.setTop (mkF m 92 #[.val (.int p0), .val (.int (2 : Int32)), .val (.ref s2), .val (.int (1 : Int32)), .val (.ref t2), .val (.int (1 : Int32))] [])) _
      refine XS.iloadN X_19.here hx rfl (hb hby at_92) rfl ?_
      show Steps p.tables e below (T_19.setTop (mkF m 93 #[.val (.int p0), .val (.int (2 : Int32)), .val (.ref s2), .val (.int (1 : Int32)), .val (.ref t2), .val (.int (1 : Int32))] [(.int (1 : Int32))])) _
      refine XS.iload X_19.here hx rfl (hb hby at_93) rfl ?_
      exact k
    refine own_go (B := T_19.setTop (mkF m 98 #[.val (.int p0), .val (.int (2 : Int32)), .val (.ref s2), .val (.int (1 : Int32)), .val (.ref t2), .val (.int (1 : Int32))] [])) (fun t k => ?_) ?_
    · show Steps p.tables e below (T_19.setTop (mkF m 95 #[.val (.int p0), .val (.int (2 : Int32)), .val (.ref s2), .val (.int (1 : Int32)), .val (.ref t2), .val (.int (1 : Int32))] [(.int (1 : Int32)), (.int (1 : Int32))])) _
      refine XS.icmpNo X_19.here hx rfl (hb hby at_95) rfl (teq (by decide : (1 : Int32) = (1 : Int32))).2 ?_
      exact k
    refine own_go (B := T_19.setTop (mkF m 103 #[.val (.int p0), .val (.int (2 : Int32)), .val (.ref s2), .val (.int (1 : Int32)), .val (.ref t2), .val (.int (1 : Int32))] [(.int (1 : Int32))])) (fun t k => ?_) ?_
    · show Steps p.tables e below (T_19.setTop (mkF m 98 #[.val (.int p0), .val (.int (2 : Int32)), .val (.ref s2), .val (.int (1 : Int32)), .val (.ref t2), .val (.int (1 : Int32))] [])) _
      refine XS.iconst X_19.here hx rfl (hb hby at_98) ?_
      show Steps p.tables e below (T_19.setTop (mkF m 99 #[.val (.int p0), .val (.int (2 : Int32)), .val (.ref s2), .val (.int (1 : Int32)), .val (.ref t2), .val (.int (1 : Int32))] [(.int (1 : Int32))])) _
      refine XS.goto X_19.here hx rfl (pc0 := 99) (pc' := 103) rfl (hb hby at_99) (by decide) (by decide) ?_
      exact k
    obtain ⟨fs, hr, hrun, hended, hRW⟩ := X_19.leaveW Si_17 (by rw [e_19]; exact ls_17) (v := some (.int (1 : Int32))) (fun h => by rw [Bd.returns] at h; cases h)
    refine ⟨_, _, ?_, hrun, hended, _, _, rfl, ?_, hRW.1, hRW.2.1, hRW.2.2.1, hRW.2.2.2.mono (by decide) (by decide)⟩
    · show Steps p.tables e below (T_19.setTop (mkF m 103 #[.val (.int p0), .val (.int (2 : Int32)), .val (.ref s2), .val (.int (1 : Int32)), .val (.ref t2), .val (.int (1 : Int32))] [(.int (1 : Int32))])) _
      exact retN X_19 hx (t := .boolean) Bd.returns (by simp) (hb hby at_103) hr
    · show Q0 Z p0 s0 s1 s2 s3 t0 t1 t2 t3 v0 v1 v2 v3 y0 y1 y2 y3 w h0 n0 _ T_19.heap _
      rw [e_19]
      exact ⟨rfl, N_19, trivial⟩
  · show ∃ s₂ o, Steps p.tables e below (s₁.setTop (mkF m 5 #[.val (.int p0), .val (.int (3 : Int32)), .unset, .unset, .unset, .unset] [(.int (3 : Int32))])) s₂ ∧ _
    refine own_go (B := s₁.setTop (mkF m 17 #[.val (.int p0), .val (.int (3 : Int32)), .unset, .unset, .unset, .unset] [])) (fun t k => ?_) ?_
    · show Steps p.tables e below (s₁.setTop (mkF m 5 #[.val (.int p0), .val (.int (3 : Int32)), .unset, .unset, .unset, .unset] [(.int (3 : Int32))])) _
      refine XS.ifYes X0.here hx rfl (pc0 := 5) (pc' := 17) rfl (hb hby at_5) rfl ((if0 _ _).trans (feq (by decide : ¬ ((3 : Int32) = (0 : Int32)))).2) (by decide) (by decide) ?_
      exact k
    refine own_go (B := s₁.setTop (mkF m 19 #[.val (.int p0), .val (.int (3 : Int32)), .unset, .unset, .unset, .unset] [(.int (1 : Int32)), (.int (3 : Int32))])) (fun t k => ?_) ?_
    · show Steps p.tables e below (s₁.setTop (mkF m 17 #[.val (.int p0), .val (.int (3 : Int32)), .unset, .unset, .unset, .unset] [])) _
      refine XS.iloadN X0.here hx rfl (hb hby at_17) rfl ?_
      show Steps p.tables e below (s₁.setTop (mkF m 18 #[.val (.int p0), .val (.int (3 : Int32)), .unset, .unset, .unset, .unset] [(.int (3 : Int32))])) _
      refine XS.iconst X0.here hx rfl (hb hby at_18) ?_
      exact k
    refine own_go (B := s₁.setTop (mkF m 31 #[.val (.int p0), .val (.int (3 : Int32)), .unset, .unset, .unset, .unset] [])) (fun t k => ?_) ?_
    · show Steps p.tables e below (s₁.setTop (mkF m 19 #[.val (.int p0), .val (.int (3 : Int32)), .unset, .unset, .unset, .unset] [(.int (1 : Int32)), (.int (3 : Int32))])) _
      refine XS.icmpYes X0.here hx rfl (pc0 := 19) (pc' := 31) rfl (hb hby at_19) rfl (feq (by decide : ¬ ((3 : Int32) = (1 : Int32)))).2 (by decide) (by decide) ?_
      exact k
    refine own_go (B := s₁.setTop (mkF m 33 #[.val (.int p0), .val (.int (3 : Int32)), .unset, .unset, .unset, .unset] [(.int (2 : Int32)), (.int (3 : Int32))])) (fun t k => ?_) ?_
    · show Steps p.tables e below (s₁.setTop (mkF m 31 #[.val (.int p0), .val (.int (3 : Int32)), .unset, .unset, .unset, .unset] [])) _
      refine XS.iloadN X0.here hx rfl (hb hby at_31) rfl ?_
      show Steps p.tables e below (s₁.setTop (mkF m 32 #[.val (.int p0), .val (.int (3 : Int32)), .unset, .unset, .unset, .unset] [(.int (3 : Int32))])) _
      refine XS.iconst X0.here hx rfl (hb hby at_32) ?_
      exact k
    refine own_go (B := s₁.setTop (mkF m 45 #[.val (.int p0), .val (.int (3 : Int32)), .unset, .unset, .unset, .unset] [])) (fun t k => ?_) ?_
    · show Steps p.tables e below (s₁.setTop (mkF m 33 #[.val (.int p0), .val (.int (3 : Int32)), .unset, .unset, .unset, .unset] [(.int (2 : Int32)), (.int (3 : Int32))])) _
      refine XS.icmpYes X0.here hx rfl (pc0 := 33) (pc' := 45) rfl (hb hby at_33) rfl (feq (by decide : ¬ ((3 : Int32) = (2 : Int32)))).2 (by decide) (by decide) ?_
      exact k
    obtain ⟨T_20, X_20, e_20, st_20⟩ := getS2 X0 hx hZ hown (host := "") (Or.inl (hw _ (List.mem_of_getElem? (i := 38) rfl))) Via.refl e0 S_STRING (g := (mkF m 45 #[.val (.int p0), .val (.int (3 : Int32)), .unset, .unset, .unset, .unset] [])) rfl (hb hby at_45)
    refine own_go (B := T_20.setTop (mkF m 48 #[.val (.int p0), .val (.int (3 : Int32)), .unset, .unset, .unset, .unset] [(.ref s3)])) (fun t k => st_20 t k) ?_
    refine own_go (B := T_20.setTop (mkF m 52 #[.val (.int p0), .val (.int (3 : Int32)), .val (.ref s3), .val (.int (0 : Int32)), .unset, .unset] [(.ref s3)])) (fun t k => ?_) ?_
    · show Steps p.tables e below (T_20.setTop (mkF m 48 #[.val (.int p0), .val (.int (3 : Int32)), .unset, .unset, .unset, .unset] [(.ref s3)])) _
      refine XS.astoreN X_20.here hx rfl (hb hby at_48) rfl rfl (l' := #[.val (.int p0), .val (.int (3 : Int32)), .val (.ref s3), .unset, .unset, .unset]) rfl ?_
      show Steps p.tables e below (T_20.setTop (mkF m 49 #[.val (.int p0), .val (.int (3 : Int32)), .val (.ref s3), .unset, .unset, .unset] [])) _
      refine XS.iconst X_20.here hx rfl (hb hby at_49) ?_
      show Steps p.tables e below (T_20.setTop (mkF m 50 #[.val (.int p0), .val (.int (3 : Int32)), .val (.ref s3), .unset, .unset, .unset] [(.int (0 : Int32))])) _
      refine XS.istoreN X_20.here hx rfl (hb hby at_50) rfl (l' := #[.val (.int p0), .val (.int (3 : Int32)), .val (.ref s3), .val (.int (0 : Int32)), .unset, .unset]) rfl ?_
      show Steps p.tables e below (T_20.setTop (mkF m 51 #[.val (.int p0), .val (.int (3 : Int32)), .val (.ref s3), .val (.int (0 : Int32)), .unset, .unset] [])) _
      refine XS.aloadN X_20.here hx rfl (hb hby at_51) rfl rfl ?_
      exact k
    obtain ⟨cq_21, kq_21, q_21a, q_21b, q_21c⟩ := isOf hZ e_20 E_s3
    obtain ⟨_, _, ⟨T_21, L_21, k_21, n_21⟩, -, X_21, ⟨Lc_21, hQ_21, l_21, y_21, z_21⟩, st_21⟩ := X_20.virtualBack hx (y := (⟨"com/example/symvane/symvane/term/Sort", "toString", "()Ljava/lang/String;"⟩ : MethodName)) (z := (⟨"com/example/symvane/symvane/term/Sort", "toString", "()Ljava/lang/String;"⟩ : MethodName)) hown (mvT hZ (hw _ (List.mem_of_getElem? (i := 3) rfl))) (mvT hZ (hw _ (List.mem_of_getElem? (i := 4) rfl))) (notFace_of_selects (args := #[]) (mvT hZ (hw _ (List.mem_of_getElem? (i := 6) rfl)))) (mvT hZ (hw _ (List.mem_of_getElem? (i := 6) rfl))) (mvT hZ (hw _ (List.mem_of_getElem? (i := 5) rfl))) (by decide) (backOf (W := 0) (rm1 l Z av0 hw [] s3 t3 h0 n0 Z0 F_smtName_s3) hZ (hw _ (List.mem_of_getElem? (i := 7) rfl)) (hw _ (List.mem_of_getElem? (i := 1) rfl)) (by decide) (by decide)) q_21a q_21c (g := (mkF m 52 #[.val (.int p0), .val (.int (3 : Int32)), .val (.ref s3), .val (.int (0 : Int32)), .unset, .unset] [(.ref s3)])) rfl (by rw [hml]; rfl) (Steps.refl _) (argsL := []) (rest := []) (lenOf pd_1 rfl) rfl (by show 2 * 0 + _ ≤ _; exact Nat.le_of_eq rfl) (hb hby at_52) (fun _ _ => ⟨rfl, e_20, (by decide : 0 + 0 ≤ _), (by decide : 0 + 0 ≤ _)⟩)
    dsimp only [Pt.U, Pt.locs, Pt.cells, Pt.slots] at X_21 l_21 y_21 z_21 st_21 hQ_21
    subst l_21 y_21 z_21
    obtain ⟨rfl, N_21q, e_21⟩ := hQ_21
    have N_21 := Fr.app N0 N_21q
    refine own_go (B := T_21.setTop (mkF m 55 #[.val (.int p0), .val (.int (3 : Int32)), .val (.ref s3), .val (.int (0 : Int32)), .unset, .unset] [(.ref t3)])) (fun t k => st_21.trans k) ?_
    refine own_go (B := T_21.setTop (mkF m 59 #[.val (.int p0), .val (.int (3 : Int32)), .val (.ref s3), .val (.int (0 : Int32)), .val (.ref t3), .unset] [(.ref t3)])) (fun t k => ?_) ?_
    · show Steps p.tables e below (T_21.setTop (mkF m 55 #[.val (.int p0), .val (.int (3 : Int32)), .val (.ref s3), .val (.int (0 : Int32)), .unset, .unset] [(.ref t3)])) _
      refine XS.astore X_21.here hx rfl (hb hby at_55) rfl rfl (l' := #[.val (.int p0), .val (.int (3 : Int32)), .val (.ref s3), .val (.int (0 : Int32)), .val (.ref t3), .unset]) rfl ?_
      show Steps p.tables e below (T_21.setTop (mkF m 57 #[.val (.int p0), .val (.int (3 : Int32)), .val (.ref s3), .val (.int (0 : Int32)), .val (.ref t3), .unset] [])) _
      refine XS.aload X_21.here hx rfl (hb hby at_57) rfl rfl ?_
      exact k
    have wS_22 : ∀ a ∈ Bundle.stringAtoms, a.before av0 Z = true := by
      intro a ha
      simp only [Bundle.stringAtoms, List.mem_cons, List.not_mem_nil, or_false] at ha
      rcases ha with rfl | rfl | rfl | rfl | rfl | rfl | rfl
      · exact (hw _ (List.mem_of_getElem? (i := 11) rfl))
      · exact (hw _ (List.mem_of_getElem? (i := 12) rfl))
      · exact (hw _ (List.mem_of_getElem? (i := 13) rfl))
      · exact (hw _ (List.mem_of_getElem? (i := 14) rfl))
      · exact (hw _ (List.mem_of_getElem? (i := 15) rfl))
      · exact (hw _ (List.mem_of_getElem? (i := 16) rfl))
      · exact (hw _ (List.mem_of_getElem? (i := 17) rfl))
    obtain ⟨b_22, T_22, h_22, k1_22, d_22, kc_22, X_22, e_22, E_22, Si_22, ls_22, hZ_22, hown_22, A_22, Fc_22, Fv_22, V_22, -, -, I_22, st_22⟩ := ldcSV (s := s) (vm0 := s.vm) (show Stand p l e room_1 (s.setVm s.vm) m #[(.int p0)] below meth c T_21 _ _ _ from X_21) hx hZ hown (hw _ (List.mem_of_getElem? (i := 10) rfl)) wS_22 e_21 ((State.WarmedH.refl s).since 0) (Nat.zero_le _) (hns ▸ N_21) hkeep I0 (by decide) (held 26 (Or.inl rfl)) hcw (vs := [(.int (73 : Int32)), (.int (110 : Int32)), (.int (116 : Int32))]) (z := (3 : Int32)) ⟨by decide, rfl⟩ (by decide) rfl (g := (mkF m 59 #[.val (.int p0), .val (.int (3 : Int32)), .val (.ref s3), .val (.int (0 : Int32)), .val (.ref t3), .unset] [(.ref t3)])) rfl (hb hby at_59) (n := 12) (by decide) (by decide) (by decide) (by decide)
    have c159 : Keep h0 h_22 [] := K0.ext E_22
    have c160 := S_INT.ext E_22
    have c161 : Exa Z h_22 s0 "com/example/symvane/symvane/term/Sort" := E_s0.ext E_22
    have c162 : Fld Z h_22 s0 "com/example/symvane/symvane/term/Sort" "smtName" "Ljava/lang/String;" (.ref t0) := F_smtName_s0.ext E_22
    have c163 : Exa Z h_22 t0 "java/lang/String" := E_t0.ext E_22
    have c164 : Fld Z h_22 t0 "java/lang/String" "coder" "B" (.int (0 : Int32)) := F_coder_t0.ext E_22
    have c165 : Fld Z h_22 t0 "java/lang/String" "value" "[B" (.ref v0) := F_value_t0.ext E_22
    have c166 := S_BOOL.ext E_22
    have c167 : Exa Z h_22 s1 "com/example/symvane/symvane/term/Sort" := E_s1.ext E_22
    have c168 : Fld Z h_22 s1 "com/example/symvane/symvane/term/Sort" "smtName" "Ljava/lang/String;" (.ref t1) := F_smtName_s1.ext E_22
    have c169 : Exa Z h_22 t1 "java/lang/String" := E_t1.ext E_22
    have c170 : Fld Z h_22 t1 "java/lang/String" "coder" "B" (.int (0 : Int32)) := F_coder_t1.ext E_22
    have c171 : Fld Z h_22 t1 "java/lang/String" "value" "[B" (.ref v1) := F_value_t1.ext E_22
    have c172 := S_REAL.ext E_22
    have c173 : Exa Z h_22 s2 "com/example/symvane/symvane/term/Sort" := E_s2.ext E_22
    have c174 : Fld Z h_22 s2 "com/example/symvane/symvane/term/Sort" "smtName" "Ljava/lang/String;" (.ref t2) := F_smtName_s2.ext E_22
    have c175 : Exa Z h_22 t2 "java/lang/String" := E_t2.ext E_22
    have c176 : Fld Z h_22 t2 "java/lang/String" "coder" "B" (.int (0 : Int32)) := F_coder_t2.ext E_22
    have c177 : Fld Z h_22 t2 "java/lang/String" "value" "[B" (.ref v2) := F_value_t2.ext E_22
    have c178 := S_STRING.ext E_22
    have c179 : Exa Z h_22 s3 "com/example/symvane/symvane/term/Sort" := E_s3.ext E_22
    have c180 : Fld Z h_22 s3 "com/example/symvane/symvane/term/Sort" "smtName" "Ljava/lang/String;" (.ref t3) := F_smtName_s3.ext E_22
    have c181 : Exa Z h_22 t3 "java/lang/String" := E_t3.ext E_22
    have c182 : Fld Z h_22 t3 "java/lang/String" "coder" "B" (.int (0 : Int32)) := F_coder_t3.ext E_22
    have c183 : Fld Z h_22 t3 "java/lang/String" "value" "[B" (.ref v3) := F_value_t3.ext E_22
    have c184 := S_COMPACT_STRINGS.ext E_22
    have c185 := V0.ext E_22
    have c186 := V1.ext E_22
    have c187 := V2.ext E_22
    have c188 := V3.ext E_22
    have Z0__22 : n0 ≤ h_22.size := Nat.le_trans Z0 E_22.1
    refine own_go (B := T_22.setTop (mkF m 61 #[.val (.int p0), .val (.int (3 : Int32)), .val (.ref s3), .val (.int (0 : Int32)), .val (.ref t3), .unset] [(.ref b_22), (.ref t3)])) (fun t k => st_22 t k) ?_
    obtain ⟨cq_23, kq_23, q_23a, q_23b, q_23c⟩ := isOf hZ_22 e_22 c181
    obtain ⟨_, _, ⟨T_23, L_23, k_23, n_23⟩, -, X_23, ⟨Lc_23, hQ_23, l_23, y_23, z_23⟩, st_23⟩ := X_22.virtualBack hx (y := (⟨"java/lang/String", "equals", "(Ljava/lang/Object;)Z"⟩ : MethodName)) (z := (⟨"java/lang/String", "equals", "(Ljava/lang/Object;)Z"⟩ : MethodName)) hown_22 (mvT hZ_22 (hw _ (List.mem_of_getElem? (i := 18) rfl))) (mvT hZ_22 (hw _ (List.mem_of_getElem? (i := 19) rfl))) (notFace_of_selects (args := #[]) (mvT hZ_22 (hw _ (List.mem_of_getElem? (i := 21) rfl)))) (mvT hZ_22 (hw _ (List.mem_of_getElem? (i := 21) rfl))) (mvT hZ_22 (hw _ (List.mem_of_getElem? (i := 20) rfl))) (by decide) (backOf (W := 0) (rmEStringInt l Z av0 hw [] t3 b_22 v3 d_22 y3 kc_22 w h_22 n0 Z0__22 c181 c182 c183 A_22 Fc_22 Fv_22 c188 V_22 c184 hw0 (own_sne c183 Fv_22 c188 V_22 (by decide))) hZ_22 (hw _ (List.mem_of_getElem? (i := 22) rfl)) (hw _ (List.mem_of_getElem? (i := 11) rfl)) (by decide) (by decide)) q_23a q_23c (g := (mkF m 61 #[.val (.int p0), .val (.int (3 : Int32)), .val (.ref s3), .val (.int (0 : Int32)), .val (.ref t3), .unset] [(.ref b_22), (.ref t3)])) rfl (by rw [hml]; rfl) (Steps.refl _) (argsL := [(.ref b_22)]) (rest := []) (lenOf pd_2 rfl) rfl (by show 2 * 0 + _ ≤ _; exact Nat.le_of_eq rfl) (hb hby at_61) (fun _ _ => ⟨rfl, e_22, (by decide : 2 + 0 ≤ _), (by decide : 16 + 0 ≤ _)⟩)
    dsimp only [Pt.U, Pt.locs, Pt.cells, Pt.slots] at X_23 l_23 y_23 z_23 st_23 hQ_23
    subst l_23 y_23 z_23
    obtain ⟨rfl, N_23q, e_23⟩ := hQ_23
    have N_23 := Fr.app N_21 N_23q
    refine own_go (B := T_23.setTop (mkF m 64 #[.val (.int p0), .val (.int (3 : Int32)), .val (.ref s3), .val (.int (0 : Int32)), .val (.ref t3), .unset] [(.int (0 : Int32))])) (fun t k => st_23.trans k) ?_
    refine own_go (B := T_23.setTop (mkF m 67 #[.val (.int p0), .val (.int (3 : Int32)), .val (.ref s3), .val (.int (0 : Int32)), .val (.ref t3), .unset] [])) (fun t k => ?_) ?_
    · show Steps p.tables e below (T_23.setTop (mkF m 64 #[.val (.int p0), .val (.int (3 : Int32)), .val (.ref s3), .val (.int (0 : Int32)), .val (.ref t3), .unset] [(.int (0 : Int32))])) _
      refine XS.ifNo X_23.here hx rfl (hb hby at_64) rfl ((if0 _ _).trans (teq (by decide : (0 : Int32) = (0 : Int32))).2) ?_
      exact k
    refine own_go (B := T_23.setTop (mkF m 69 #[.val (.int p0), .val (.int (3 : Int32)), .val (.ref s3), .val (.int (0 : Int32)), .val (.ref t3), .unset] [(.ref t3)])) (fun t k => ?_) ?_
    · show Steps p.tables e below (T_23.setTop (mkF m 67 #[.val (.int p0), .val (.int (3 : Int32)), .val (.ref s3), .val (.int (0 : Int32)), .val (.ref t3), .unset] [])) _
      refine XS.aload X_23.here hx rfl (hb hby at_67) rfl rfl ?_
      exact k
    have wS_24 : ∀ a ∈ Bundle.stringAtoms, a.before av0 Z = true := by
      intro a ha
      simp only [Bundle.stringAtoms, List.mem_cons, List.not_mem_nil, or_false] at ha
      rcases ha with rfl | rfl | rfl | rfl | rfl | rfl | rfl
      · exact (hw _ (List.mem_of_getElem? (i := 11) rfl))
      · exact (hw _ (List.mem_of_getElem? (i := 12) rfl))
      · exact (hw _ (List.mem_of_getElem? (i := 13) rfl))
      · exact (hw _ (List.mem_of_getElem? (i := 14) rfl))
      · exact (hw _ (List.mem_of_getElem? (i := 15) rfl))
      · exact (hw _ (List.mem_of_getElem? (i := 16) rfl))
      · exact (hw _ (List.mem_of_getElem? (i := 17) rfl))
    obtain ⟨b_24, T_24, h_24, k1_24, d_24, kc_24, X_24, e_24, E_24, Si_24, ls_24, hZ_24, hown_24, A_24, Fc_24, Fv_24, V_24, -, -, I_24, st_24⟩ := ldcSV (s := s) (vm0 := T_22.vm) X_23 hx hZ_22 hown_22 (hw _ (List.mem_of_getElem? (i := 40) rfl)) wS_24 e_23 Si_22 ls_22 (hns ▸ N_23) hkeep I_22 (by decide) (held 34 (Or.inr rfl)) hcw (vs := [(.int (82 : Int32)), (.int (101 : Int32)), (.int (97 : Int32)), (.int (108 : Int32))]) (z := (4 : Int32)) ⟨by decide, rfl⟩ (by decide) rfl (g := (mkF m 69 #[.val (.int p0), .val (.int (3 : Int32)), .val (.ref s3), .val (.int (0 : Int32)), .val (.ref t3), .unset] [(.ref t3)])) rfl (hb hby at_69) (n := 16) (by decide) (by decide) (by decide) (by decide)
    have c189 : Keep h0 h_24 [] := c159.ext E_24
    have c190 := c160.ext E_24
    have c191 : Exa Z h_24 s0 "com/example/symvane/symvane/term/Sort" := c161.ext E_24
    have c192 : Fld Z h_24 s0 "com/example/symvane/symvane/term/Sort" "smtName" "Ljava/lang/String;" (.ref t0) := c162.ext E_24
    have c193 : Exa Z h_24 t0 "java/lang/String" := c163.ext E_24
    have c194 : Fld Z h_24 t0 "java/lang/String" "coder" "B" (.int (0 : Int32)) := c164.ext E_24
    have c195 : Fld Z h_24 t0 "java/lang/String" "value" "[B" (.ref v0) := c165.ext E_24
    have c196 := c166.ext E_24
    have c197 : Exa Z h_24 s1 "com/example/symvane/symvane/term/Sort" := c167.ext E_24
    have c198 : Fld Z h_24 s1 "com/example/symvane/symvane/term/Sort" "smtName" "Ljava/lang/String;" (.ref t1) := c168.ext E_24
    have c199 : Exa Z h_24 t1 "java/lang/String" := c169.ext E_24
    have c200 : Fld Z h_24 t1 "java/lang/String" "coder" "B" (.int (0 : Int32)) := c170.ext E_24
    have c201 : Fld Z h_24 t1 "java/lang/String" "value" "[B" (.ref v1) := c171.ext E_24
    have c202 := c172.ext E_24
    have c203 : Exa Z h_24 s2 "com/example/symvane/symvane/term/Sort" := c173.ext E_24
    have c204 : Fld Z h_24 s2 "com/example/symvane/symvane/term/Sort" "smtName" "Ljava/lang/String;" (.ref t2) := c174.ext E_24
    have c205 : Exa Z h_24 t2 "java/lang/String" := c175.ext E_24
    have c206 : Fld Z h_24 t2 "java/lang/String" "coder" "B" (.int (0 : Int32)) := c176.ext E_24
    have c207 : Fld Z h_24 t2 "java/lang/String" "value" "[B" (.ref v2) := c177.ext E_24
    have c208 := c178.ext E_24
    have c209 : Exa Z h_24 s3 "com/example/symvane/symvane/term/Sort" := c179.ext E_24
    have c210 : Fld Z h_24 s3 "com/example/symvane/symvane/term/Sort" "smtName" "Ljava/lang/String;" (.ref t3) := c180.ext E_24
    have c211 : Exa Z h_24 t3 "java/lang/String" := c181.ext E_24
    have c212 : Fld Z h_24 t3 "java/lang/String" "coder" "B" (.int (0 : Int32)) := c182.ext E_24
    have c213 : Fld Z h_24 t3 "java/lang/String" "value" "[B" (.ref v3) := c183.ext E_24
    have c214 := c184.ext E_24
    have c215 := c185.ext E_24
    have c216 := c186.ext E_24
    have c217 := c187.ext E_24
    have c218 := c188.ext E_24
    have c219 : Exa Z h_24 b_22 "java/lang/String" := A_22.ext E_24
    have c220 : Fld Z h_24 b_22 "java/lang/String" "coder" "B" (.int (0 : Int32)) := Fc_22.ext E_24
    have c221 : Fld Z h_24 b_22 "java/lang/String" "value" "[B" (.ref d_22) := Fv_22.ext E_24
    have c222 := V_22.ext E_24
    have Z0__24 : n0 ≤ h_24.size := Nat.le_trans Z0__22 E_24.1
    refine own_go (B := T_24.setTop (mkF m 71 #[.val (.int p0), .val (.int (3 : Int32)), .val (.ref s3), .val (.int (0 : Int32)), .val (.ref t3), .unset] [(.ref b_24), (.ref t3)])) (fun t k => st_24 t k) ?_
    obtain ⟨cq_25, kq_25, q_25a, q_25b, q_25c⟩ := isOf hZ_24 e_24 c211
    obtain ⟨_, _, ⟨T_25, L_25, k_25, n_25⟩, -, X_25, ⟨Lc_25, hQ_25, l_25, y_25, z_25⟩, st_25⟩ := X_24.virtualBack hx (y := (⟨"java/lang/String", "equals", "(Ljava/lang/Object;)Z"⟩ : MethodName)) (z := (⟨"java/lang/String", "equals", "(Ljava/lang/Object;)Z"⟩ : MethodName)) hown_24 (mvT hZ_24 (hw _ (List.mem_of_getElem? (i := 18) rfl))) (mvT hZ_24 (hw _ (List.mem_of_getElem? (i := 19) rfl))) (notFace_of_selects (args := #[]) (mvT hZ_24 (hw _ (List.mem_of_getElem? (i := 21) rfl)))) (mvT hZ_24 (hw _ (List.mem_of_getElem? (i := 21) rfl))) (mvT hZ_24 (hw _ (List.mem_of_getElem? (i := 20) rfl))) (by decide) (backOf (W := 0) (rmEStringReal l Z av0 hw [] t3 b_24 v3 d_24 y3 kc_24 w h_24 n0 Z0__24 c211 c212 c213 A_24 Fc_24 Fv_24 c218 V_24 c214 hw0 (own_sne c213 Fv_24 c218 V_24 (by decide))) hZ_24 (hw _ (List.mem_of_getElem? (i := 22) rfl)) (hw _ (List.mem_of_getElem? (i := 11) rfl)) (by decide) (by decide)) q_25a q_25c (g := (mkF m 71 #[.val (.int p0), .val (.int (3 : Int32)), .val (.ref s3), .val (.int (0 : Int32)), .val (.ref t3), .unset] [(.ref b_24), (.ref t3)])) rfl (by rw [hml]; rfl) (Steps.refl _) (argsL := [(.ref b_24)]) (rest := []) (lenOf pd_2 rfl) rfl (by show 2 * 0 + _ ≤ _; exact Nat.le_of_eq rfl) (hb hby at_71) (fun _ _ => ⟨rfl, e_24, (by decide : 4 + 0 ≤ _), (by decide : 36 + 0 ≤ _)⟩)
    dsimp only [Pt.U, Pt.locs, Pt.cells, Pt.slots] at X_25 l_25 y_25 z_25 st_25 hQ_25
    subst l_25 y_25 z_25
    obtain ⟨rfl, N_25q, e_25⟩ := hQ_25
    have N_25 := Fr.app N_23 N_25q
    refine own_go (B := T_25.setTop (mkF m 74 #[.val (.int p0), .val (.int (3 : Int32)), .val (.ref s3), .val (.int (0 : Int32)), .val (.ref t3), .unset] [(.int (0 : Int32))])) (fun t k => st_25.trans k) ?_
    refine own_go (B := T_25.setTop (mkF m 81 #[.val (.int p0), .val (.int (3 : Int32)), .val (.ref s3), .val (.int (0 : Int32)), .val (.ref t3), .unset] [])) (fun t k => ?_) ?_
    · show Steps p.tables e below (T_25.setTop (mkF m 74 #[.val (.int p0), .val (.int (3 : Int32)), .val (.ref s3), .val (.int (0 : Int32)), .val (.ref t3), .unset] [(.int (0 : Int32))])) _
      refine XS.ifYes X_25.here hx rfl (pc0 := 74) (pc' := 81) rfl (hb hby at_74) rfl ((if0 _ _).trans (teq (by decide : (0 : Int32) = (0 : Int32))).1) (by decide) (by decide) ?_
      exact k
    refine own_go (B := T_25.setTop (mkF m 85 #[.val (.int p0), .val (.int (3 : Int32)), .val (.ref s3), .val (.int (0 : Int32)), .val (.ref t3), .val (.int (0 : Int32))] [(.ref s3)])) (fun t k => ?_) ?_
    · show Steps p.tables e below (T_25.setTop (mkF m 81 #[.val (.int p0), .val (.int (3 : Int32)), .val (.ref s3), .val (.int (0 : Int32)), .val (.ref t3), .unset] [])) _
      refine XS.iconst X_25.here hx rfl (hb hby at_81) ?_
      show Steps p.tables e below (T_25.setTop (mkF m 82 #[.val (.int p0), .val (.int (3 : Int32)), .val (.ref s3), .val (.int (0 : Int32)), .val (.ref t3), .unset] [(.int (0 : Int32))])) _
      refine XS.istore X_25.here hx rfl (hb hby at_82) rfl (l' := #[.val (.int p0), .val (.int (3 : Int32)), .val (.ref s3), .val (.int (0 : Int32)), .val (.ref t3), .val (.int (0 : Int32))]) rfl ?_
      show Steps p.tables e below (T_25.setTop (mkF m 84 #[.val (.int p0), .val (.int (3 : Int32)), .val (.ref s3), .val (.int (0 : Int32)), .val (.ref t3), .val (.int (0 : Int32))] [])) _
      refine XS.aloadN X_25.here hx rfl (hb hby at_84) rfl rfl ?_
      exact k
    obtain ⟨cq_26, kq_26, q_26a, q_26b, q_26c⟩ := isOf hZ_24 e_25 c209
    obtain ⟨_, _, ⟨T_26, L_26, k_26, n_26⟩, -, X_26, ⟨Lc_26, hQ_26, l_26, y_26, z_26⟩, st_26⟩ := X_25.virtualBack hx (y := (⟨"com/example/symvane/symvane/term/Sort", "isNumeric", "()Z"⟩ : MethodName)) (z := (⟨"com/example/symvane/symvane/term/Sort", "isNumeric", "()Z"⟩ : MethodName)) hown_24 (mvT hZ_24 (hw _ (List.mem_of_getElem? (i := 32) rfl))) (mvT hZ_24 (hw _ (List.mem_of_getElem? (i := 33) rfl))) (notFace_of_selects (args := #[]) (mvT hZ_24 (hw _ (List.mem_of_getElem? (i := 35) rfl)))) (mvT hZ_24 (hw _ (List.mem_of_getElem? (i := 35) rfl))) (mvT hZ_24 (hw _ (List.mem_of_getElem? (i := 34) rfl))) (by decide) (backOf (W := 0) (rm4 l Z av0 hw [] s3 s0 s2 h_24 n0 Z0__24 c190 c202) hZ_24 (hw _ (List.mem_of_getElem? (i := 36) rfl)) (hw _ (List.mem_of_getElem? (i := 1) rfl)) (by decide) (by decide)) q_26a q_26c (g := (mkF m 85 #[.val (.int p0), .val (.int (3 : Int32)), .val (.ref s3), .val (.int (0 : Int32)), .val (.ref t3), .val (.int (0 : Int32))] [(.ref s3)])) rfl (by rw [hml]; rfl) (Steps.refl _) (argsL := []) (rest := []) (lenOf pd_3 rfl) rfl (by show 2 * 0 + _ ≤ _; exact Nat.le_of_eq rfl) (hb hby at_85) (fun _ _ => ⟨rfl, e_25, (by decide : 4 + 0 ≤ _), (by decide : 36 + 0 ≤ _)⟩)
    dsimp only [Pt.U, Pt.locs, Pt.cells, Pt.slots] at X_26 l_26 y_26 z_26 st_26 hQ_26
    subst l_26 y_26 z_26
    obtain ⟨hv_26, N_26q, e_26⟩ := hQ_26
    have N_26 := Fr.app N_25 N_26q
    rw [show own_num s3 s0 s2 = (0 : Int32) from (by unfold own_num; rw [if_neg (n30), if_neg (n32)])] at hv_26
    subst hv_26
    refine own_go (B := T_26.setTop (mkF m 88 #[.val (.int p0), .val (.int (3 : Int32)), .val (.ref s3), .val (.int (0 : Int32)), .val (.ref t3), .val (.int (0 : Int32))] [(.int (0 : Int32))])) (fun t k => st_26.trans k) ?_
    refine own_go (B := T_26.setTop (mkF m 89 #[.val (.int p0), .val (.int (3 : Int32)), .val (.ref s3), .val (.int (0 : Int32)), .val (.ref t3), .val (.int (0 : Int32))] [(.int (0 : Int32)), (.int (0 : Int32))])) (fun t k => ?_) ?_
    · show Steps p.tables e below (T_26.setTop (mkF m 88 #[.val (.int p0), .val (.int (3 : Int32)), .val (.ref s3), .val (.int (0 : Int32)), .val (.ref t3), .val (.int (0 : Int32))] [(.int (0 : Int32))])) _
      refine XS.iloadN X_26.here hx rfl (hb hby at_88) rfl ?_
      exact k
    refine own_go (B := T_26.setTop (mkF m 92 #[.val (.int p0), .val (.int (3 : Int32)), .val (.ref s3), .val (.int (0 : Int32)), .val (.ref t3), .val (.int (0 : Int32))] [])) (fun t k => ?_) ?_
    · show Steps p.tables e below (T_26.setTop (mkF m 89 #[.val (.int p0), .val (.int (3 : Int32)), .val (.ref s3), .val (.int (0 : Int32)), .val (.ref t3), .val (.int (0 : Int32))] [(.int (0 : Int32)), (.int (0 : Int32))])) _
      refine XS.icmpNo X_26.here hx rfl (hb hby at_89) rfl (teq (by decide : (0 : Int32) = (0 : Int32))).2 ?_
      exact k
    refine own_go (B := T_26.setTop (mkF m 95 #[.val (.int p0), .val (.int (3 : Int32)), .val (.ref s3), .val (.int (0 : Int32)), .val (.ref t3), .val (.int (0 : Int32))] [(.int (0 : Int32)), (.int (0 : Int32))])) (fun t k => ?_) ?_
    · show Steps p.tables e below (T_26.setTop (mkF m 92 #[.val (.int p0), .val (.int (3 : Int32)), .val (.ref s3), .val (.int (0 : Int32)), .val (.ref t3), .val (.int (0 : Int32))] [])) _
      refine XS.iloadN X_26.here hx rfl (hb hby at_92) rfl ?_
      show Steps p.tables e below (T_26.setTop (mkF m 93 #[.val (.int p0), .val (.int (3 : Int32)), .val (.ref s3), .val (.int (0 : Int32)), .val (.ref t3), .val (.int (0 : Int32))] [(.int (0 : Int32))])) _
      refine XS.iload X_26.here hx rfl (hb hby at_93) rfl ?_
      exact k
    refine own_go (B := T_26.setTop (mkF m 98 #[.val (.int p0), .val (.int (3 : Int32)), .val (.ref s3), .val (.int (0 : Int32)), .val (.ref t3), .val (.int (0 : Int32))] [])) (fun t k => ?_) ?_
    · show Steps p.tables e below (T_26.setTop (mkF m 95 #[.val (.int p0), .val (.int (3 : Int32)), .val (.ref s3), .val (.int (0 : Int32)), .val (.ref t3), .val (.int (0 : Int32))] [(.int (0 : Int32)), (.int (0 : Int32))])) _
      refine XS.icmpNo X_26.here hx rfl (hb hby at_95) rfl (teq (by decide : (0 : Int32) = (0 : Int32))).2 ?_
      exact k
    refine own_go (B := T_26.setTop (mkF m 103 #[.val (.int p0), .val (.int (3 : Int32)), .val (.ref s3), .val (.int (0 : Int32)), .val (.ref t3), .val (.int (0 : Int32))] [(.int (1 : Int32))])) (fun t k => ?_) ?_
    · show Steps p.tables e below (T_26.setTop (mkF m 98 #[.val (.int p0), .val (.int (3 : Int32)), .val (.ref s3), .val (.int (0 : Int32)), .val (.ref t3), .val (.int (0 : Int32))] [])) _
      refine XS.iconst X_26.here hx rfl (hb hby at_98) ?_
      show Steps p.tables e below (T_26.setTop (mkF m 99 #[.val (.int p0), .val (.int (3 : Int32)), .val (.ref s3), .val (.int (0 : Int32)), .val (.ref t3), .val (.int (0 : Int32))] [(.int (1 : Int32))])) _
      refine XS.goto X_26.here hx rfl (pc0 := 99) (pc' := 103) rfl (hb hby at_99) (by decide) (by decide) ?_
      exact k
    obtain ⟨fs, hr, hrun, hended, hRW⟩ := X_26.leaveW Si_24 (by rw [e_26]; exact ls_24) (v := some (.int (1 : Int32))) (fun h => by rw [Bd.returns] at h; cases h)
    refine ⟨_, _, ?_, hrun, hended, _, _, rfl, ?_, hRW.1, hRW.2.1, hRW.2.2.1, hRW.2.2.2.mono (by decide) (by decide)⟩
    · show Steps p.tables e below (T_26.setTop (mkF m 103 #[.val (.int p0), .val (.int (3 : Int32)), .val (.ref s3), .val (.int (0 : Int32)), .val (.ref t3), .val (.int (0 : Int32))] [(.int (1 : Int32))])) _
      exact retN X_26 hx (t := .boolean) Bd.returns (by simp) (hb hby at_103) hr
    · show Q0 Z p0 s0 s1 s2 s3 t0 t1 t2 t3 v0 v1 v2 v3 y0 y1 y2 y3 w h0 n0 _ T_26.heap _
      rw [e_26]
      exact ⟨rfl, N_26, trivial⟩
theorem own_len {args : Array Value} {s : State} {t : Term} {a : Addr} {c : Cell} {ty : FieldType} {z : Int32} (ev : t.eval args s none [] s = some (.ref a)) (A : Arr s s.heap a c ty) (h : (Term.length t).eval args s none [] s = some (.int z)) : c.slots.size < 2 ^ 31 ∧ c.slots.size.toInt32 = z := by
  have q := Arr.fin (Vm.Alike.refl _) A
  by_cases hs : c.slots.size < 2147483648
  · rw [len_f ev q hs] at h
    exact ⟨hs, Value.int.inj (Option.some.inj h)⟩
  · simp [Term.eval, ev, q, hs] at h
set_option maxRecDepth 65536 in
set_option maxHeartbeats 40000000 in
theorem comes_1 {Post : Tables → Env → Array Value → State → Outcome → State → Prop} (hpost : ∀ tb e args s v u, (limb_1_1.after args s (.returned v) u = true ∧ limb_1_2.after args s (.returned v) u = true ∧ True) → ReturnedEndW s (.returned v) u (Jvm.fieldLocs frame_1_writes args s ++ Jvm.arrayLocs frame_1_arrays args s ++ Jvm.staticLocs frame_1_statics s) 8 2112 → Post tb e args s (.returned v) u) :
    ArmFor flags0 classFile x code maxLocals ret World_1 tables_1 room_1 Calls_1 rest_1 Pre_1 Post := by
  intro l hfl _ _ p e ha hc hk s m args below hf hA hF happ hP
  obtain ⟨hcalls, hrest, hpre⟩ := hP
  obtain ⟨-, -, -, hnamed, -, -, -, hat⟩ := (Spec.applies_iff hf).mp happ
  obtain ⟨hg, hn⟩ := and_e (Cond.before_iff.mp (show (Jvm.Cond.and given_1 narrow_1).before args s = true from hpre))
  obtain ⟨g1, g2⟩ := and_e hg
  obtain ⟨w0, rfl⟩ : ∃ w0 : Value, args = #[w0] := by
    have hs : args.size = 1 := by simpa [Cond.value, given_1] using g1
    obtain ⟨L⟩ := args
    match L, hs with
    | [w0], _ => exact ⟨w0, rfl⟩
  have hw := fun d (hd : d ∈ tables_1) => atoms_spec (ws := Jvm.Cond.code x code maxLocals ret :: tables_1) hat d (List.mem_cons_of_mem _ hd)
  have hfit : Fit s := fun {y c} hc i hi => by
    obtain ⟨ha, rfl⟩ := Array.getElem?_eq_some_iff.mp hc
    have q := List.all_eq_true.mp ((Array.all_eq_true_iff_forall_mem.mp hF) _ (Array.getElem_mem ha)) i (List.mem_range.mpr hi)
    simpa [Array.getElem?_eq_getElem hi] using q
  obtain ⟨hsets, hown0⟩ := atoms_of _ (rest_1_c_eq ▸ (show rest_1_c.before _ s = true from hrest))
  have hr0 := Cond.before_iff.mp hown0
  obtain ⟨i0, ei0⟩ := is_v g2
  obtain rfl : w0 = (.int i0) := Option.some.inj ei0
  obtain ⟨nw0, hn⟩ := and_e hn
  obtain ⟨nw1, hn⟩ := and_e hn
  obtain ⟨nw2, hn⟩ := and_e hn
  obtain ⟨nw3, hn⟩ := and_e hn
  obtain ⟨nw4, hn⟩ := and_e hn
  obtain ⟨nw5, hn⟩ := and_e hn
  obtain ⟨nw6, hn⟩ := and_e hn
  obtain ⟨nw7, hn⟩ := and_e hn
  obtain ⟨nw8, hn⟩ := and_e hn
  obtain ⟨nw9, hn⟩ := and_e hn
  obtain ⟨nw10, hn⟩ := and_e hn
  obtain ⟨nw11, hn⟩ := and_e hn
  obtain ⟨nw12, hn⟩ := and_e hn
  obtain ⟨nw13, hn⟩ := and_e hn
  obtain ⟨nw14, hn⟩ := and_e hn
  obtain ⟨nw15, hn⟩ := and_e hn
  obtain ⟨nw16, hn⟩ := and_e hn
  obtain ⟨nw17, hn⟩ := and_e hn
  obtain ⟨nw18, hn⟩ := and_e hn
  obtain ⟨nw19, hn⟩ := and_e hn
  obtain ⟨nw20, hn⟩ := and_e hn
  obtain ⟨nw21, hn⟩ := and_e hn
  obtain ⟨nw22, hn⟩ := and_e hn
  obtain ⟨nw23, hn⟩ := and_e hn
  obtain ⟨nw24, hn⟩ := and_e hn
  obtain ⟨nw25, hn⟩ := and_e hn
  obtain ⟨nw26, hn⟩ := and_e hn
  obtain ⟨nw27, hn⟩ := and_e hn
  obtain ⟨nw28, hn⟩ := and_e hn
  obtain ⟨nw29, hn⟩ := and_e hn
  obtain ⟨nw30, hn⟩ := and_e hn
  obtain ⟨nw31, hn⟩ := and_e hn
  obtain ⟨nw32, hn⟩ := and_e hn
  obtain ⟨nw33, hn⟩ := and_e hn
  obtain ⟨nw34, hn⟩ := and_e hn
  obtain ⟨nw35, hn⟩ := and_e hn
  obtain ⟨nw36, hn⟩ := and_e hn
  obtain ⟨nw37, hn⟩ := and_e hn
  obtain ⟨nw38, hn⟩ := and_e hn
  obtain ⟨nw39, hn⟩ := and_e hn
  have nw40 := hn
  obtain ⟨s0, ev0⟩ := exa_v nw0
  have S0 := Sta.start ev0 (Or.inr ⟨(hw _ (List.mem_of_getElem? (i := 1) rfl)), (hw _ (List.mem_of_getElem? (i := 2) rfl))⟩)
  have E0 := Exa.start ev0 nw0
  obtain ⟨s3, ev3⟩ := exa_v nw8
  have S3 := Sta.start ev3 (Or.inr ⟨(hw _ (List.mem_of_getElem? (i := 1) rfl)), (hw _ (List.mem_of_getElem? (i := 39) rfl))⟩)
  have E3 := Exa.start ev3 nw8
  obtain ⟨s2, ev2⟩ := exa_v nw15
  have S2 := Sta.start ev2 (Or.inr ⟨(hw _ (List.mem_of_getElem? (i := 1) rfl)), (hw _ (List.mem_of_getElem? (i := 42) rfl))⟩)
  have E2 := Exa.start ev2 nw15
  obtain ⟨s1, ev1⟩ := exa_v nw25
  have S1 := Sta.start ev1 (Or.inr ⟨(hw _ (List.mem_of_getElem? (i := 1) rfl)), (hw _ (List.mem_of_getElem? (i := 45) rfl))⟩)
  have E1 := Exa.start ev1 nw25
  obtain ⟨t0, et0⟩ := exa_v nw1
  have D0 := Exa.start et0 nw1
  have N0 := Fld.start ((fld_at ev0).symm.trans et0)
  obtain ⟨t3, et3⟩ := exa_v nw9
  have D3 := Exa.start et3 nw9
  have N3 := Fld.start ((fld_at ev3).symm.trans et3)
  obtain ⟨t2, et2⟩ := exa_v nw17
  have D2 := Exa.start et2 nw17
  have N2 := Fld.start ((fld_at ev2).symm.trans et2)
  obtain ⟨t1, et1⟩ := exa_v nw26
  have D1 := Exa.start et1 nw26
  have N1 := Fld.start ((fld_at ev1).symm.trans et1)
  have C0 := Fld.start ((fld_at et0).symm.trans (own_eqv nw2 (Term.int_eval (0))))
  obtain ⟨v0, eb0⟩ := arr_v nw3
  obtain ⟨c0, A0⟩ := Arr.start eb0 nw3
  have W0 := Fld.start ((fld_at et0).symm.trans eb0)
  have C3 := Fld.start ((fld_at et3).symm.trans (own_eqv nw10 (Term.int_eval (0))))
  obtain ⟨v3, eb3⟩ := arr_v nw11
  obtain ⟨c3, A3⟩ := Arr.start eb3 nw11
  have W3 := Fld.start ((fld_at et3).symm.trans eb3)
  have C2 := Fld.start ((fld_at et2).symm.trans (own_eqv nw18 (Term.int_eval (0))))
  obtain ⟨v2, eb2⟩ := arr_v nw19
  obtain ⟨c2, A2⟩ := Arr.start eb2 nw19
  have W2 := Fld.start ((fld_at et2).symm.trans eb2)
  have C1 := Fld.start ((fld_at et1).symm.trans (own_eqv nw27 (Term.int_eval (0))))
  obtain ⟨v1, eb1⟩ := arr_v nw28
  obtain ⟨c1, A1⟩ := Arr.start eb1 nw28
  have W1 := Fld.start ((fld_at et1).symm.trans eb1)
  have l0 := own_len eb0 A0 (own_eqv nw4 (Term.int_eval (3)))
  have x0_0 := (elem_in (own_eqv nw5 (Term.int_eval (73))) eb0 (Term.int_eval (0)) A0.1).2
  have x0_1 := (elem_in (own_eqv nw6 (Term.int_eval (110))) eb0 (Term.int_eval (1)) A0.1).2
  have x0_2 := (elem_in (own_eqv nw7 (Term.int_eval (116))) eb0 (Term.int_eval (2)) A0.1).2
  have l3 := own_len eb3 A3 (own_eqv nw12 (Term.int_eval (6)))
  have O3 := Fld.start ((fld_at ev3).symm.trans (own_eqv nw13 (Term.int_eval (3))))
  have O0 := Fld.start ((fld_at ev0).symm.trans (own_eqv nw14 (Term.int_eval (0))))
  have O2 := Fld.start ((fld_at ev2).symm.trans (own_eqv nw16 (Term.int_eval (2))))
  have l2 := own_len eb2 A2 (own_eqv nw20 (Term.int_eval (4)))
  have x2_0 := (elem_in (own_eqv nw21 (Term.int_eval (82))) eb2 (Term.int_eval (0)) A2.1).2
  have x2_1 := (elem_in (own_eqv nw22 (Term.int_eval (101))) eb2 (Term.int_eval (1)) A2.1).2
  have x2_2 := (elem_in (own_eqv nw23 (Term.int_eval (97))) eb2 (Term.int_eval (2)) A2.1).2
  have x2_3 := (elem_in (own_eqv nw24 (Term.int_eval (108))) eb2 (Term.int_eval (3)) A2.1).2
  have l1 := own_len eb1 A1 (own_eqv nw29 (Term.int_eval (4)))
  have x1_0 := (elem_in (own_eqv nw30 (Term.int_eval (66))) eb1 (Term.int_eval (0)) A1.1).2
  have O1 := Fld.start ((fld_at ev1).symm.trans (own_eqv nw31 (Term.int_eval (1))))
  have x1_1 := (elem_in (own_eqv nw32 (Term.int_eval (111))) eb1 (Term.int_eval (1)) A1.1).2
  have x1_2 := (elem_in (own_eqv nw33 (Term.int_eval (111))) eb1 (Term.int_eval (2)) A1.1).2
  have x1_3 := (elem_in (own_eqv nw34 (Term.int_eval (108))) eb1 (Term.int_eval (3)) A1.1).2
  have x3_0 := (elem_in (own_eqv nw35 (Term.int_eval (83))) eb3 (Term.int_eval (0)) A3.1).2
  have x3_1 := (elem_in (own_eqv nw36 (Term.int_eval (116))) eb3 (Term.int_eval (1)) A3.1).2
  have x3_2 := (elem_in (own_eqv nw37 (Term.int_eval (114))) eb3 (Term.int_eval (2)) A3.1).2
  have x3_3 := (elem_in (own_eqv nw38 (Term.int_eval (105))) eb3 (Term.int_eval (3)) A3.1).2
  have x3_4 := (elem_in (own_eqv nw39 (Term.int_eval (110))) eb3 (Term.int_eval (4)) A3.1).2
  have x3_5 := (elem_in (own_eqv nw40 (Term.int_eval (103))) eb3 (Term.int_eval (5)) A3.1).2
  have V0 : Arv s s.heap v0 c0.cls .byte (3 : Int32) [(.int (73 : Int32)), (.int (110 : Int32)), (.int (116 : Int32))] (.int 0) := Arv.start hfit A0 l0.1 l0.2 (by decide) rfl ⟨x0_0, x0_1, x0_2, trivial⟩
  have V1 : Arv s s.heap v1 c1.cls .byte (4 : Int32) [(.int (66 : Int32)), (.int (111 : Int32)), (.int (111 : Int32)), (.int (108 : Int32))] (.int 0) := Arv.start hfit A1 l1.1 l1.2 (by decide) rfl ⟨x1_0, x1_1, x1_2, x1_3, trivial⟩
  have V2 : Arv s s.heap v2 c2.cls .byte (4 : Int32) [(.int (82 : Int32)), (.int (101 : Int32)), (.int (97 : Int32)), (.int (108 : Int32))] (.int 0) := Arv.start hfit A2 l2.1 l2.2 (by decide) rfl ⟨x2_0, x2_1, x2_2, x2_3, trivial⟩
  have V3 : Arv s s.heap v3 c3.cls .byte (6 : Int32) [(.int (83 : Int32)), (.int (116 : Int32)), (.int (114 : Int32)), (.int (105 : Int32)), (.int (110 : Int32)), (.int (103 : Int32))] (.int 0) := Arv.start hfit A3 l3.1 l3.2 (by decide) rfl ⟨x3_0, x3_1, x3_2, x3_3, x3_4, x3_5, trivial⟩
  obtain ⟨w, ew⟩ := is_v (Cond.before_iff.mp (hsets _ (List.mem_of_getElem? (i := 1) rfl)))
  have SC := Sta.start ew (Or.inl (hsets _ (List.mem_of_getElem? (i := 0) rfl)))
  have hcw := hsets _ (List.mem_of_getElem? (i := 2) rfl)
  have hw0 : ¬ (w = (0 : Int32)) := fun q => by
    have q1 := not_v (Cond.before_iff.mp hcw)
    rw [eq_i ew (Term.int_eval (0)) (by rw [q])] at q1
    cases q1
  have n20 : ¬ s2 = s0 := Fld.ne O2 O0 (by decide)
  have n10 : ¬ s1 = s0 := Fld.ne O1 O0 (by decide)
  have n12 : ¬ s1 = s2 := Fld.ne O1 O2 (by decide)
  have n30 : ¬ s3 = s0 := Fld.ne O3 O0 (by decide)
  have n32 : ¬ s3 = s2 := Fld.ne O3 O2 (by decide)
  have held : ∀ i : Nat, i = 26 ∨ i = 34 → Jvm.Lit.constHeld s "com/example/symvane/symvane/term/SortIsNumericPinLaw" i := by
    intro i hi
    rcases hi with rfl | rfl
    · exact hcalls.1 ("com/example/symvane/symvane/term/SortIsNumericPinLaw", 26) (by simp [consts_1])
    · exact hcalls.1 ("com/example/symvane/symvane/term/SortIsNumericPinLaw", 34) (by simp [consts_1])
  obtain ⟨n, o, h1, h2, h3, _, L, rfl, ⟨rfl, N, -⟩, hq⟩ := rm0 l s _ hw tables_1 i0 s0 s1 s2 s3 t0 t1 t2 t3 v0 v1 v2 v3 c0.cls c1.cls c2.cls c3.cls w s.heap s.heap.size (Nat.le_refl _) S0 E0 N0 D0 C0 W0 V0 S1 E1 N1 D1 C1 W1 V1 S2 E2 N2 D2 C2 W2 V2 S3 E3 N3 D3 C3 W3 V3 SC hw0 n20 n10 n12 n30 n32 held hcw rfl rfl p e ha hc hk s m _ below hf ((Spec.applies_iff_loose hf).mp happ).1 ⟨rfl, rfl⟩ trivial
  refine ⟨n, _, h1, h2, h3, hpost _ _ _ _ _ _ ⟨Cond.after_iff.mpr rfl, Cond.after_iff.mpr (eq_i res_at (Term.int_eval (1)) rfl), trivial⟩ ⟨hq.1, hq.2.1, hq.2.2.1, (hq.2.2.2.sift fun y hy => Or.inr (N y hy)).mono (by decide) (by decide)⟩⟩
theorem main_1_1 : Claimed_1_1 := comes_1 fun _ _ _ _ _ _ h hF => ⟨h.1, hF⟩
theorem main_1_2 : Claimed_1_2 := comes_1 fun _ _ _ _ _ _ h hF => ⟨h.2.1, hF⟩
end Jvm.Pilot.@@N@@
namespace Jvm.Pilot.@@N@@
open Jvm Jvm.ClassFile Sem Op Lib Jvm.Free Jvm.Stand Jvm.Pilot.@@N@@.Jvm.D
/-! MADE BY PROGRAM (witnessworld.py) out of the Statement's table words and the real class files: 18 classes; the members and pool entries that the words name. The judged class is class 1, her method 1. -/
namespace start1
open Jvm.ClassFile
def u (s : String) : CpInfo := .utf8 (stringToUtf16 s)
/-- a pool by its gaps: so many unusable entries, then the entry; so many at the end -/
def gap : Nat → List CpInfo → List CpInfo
  | 0, r => r
  | n + 1, r => .unusable :: gap n r
def poolList (es : List (Nat × CpInfo)) (last : Nat) : List CpInfo := es.foldr (fun e r => gap e.1 (e.2 :: r)) (gap last [])
def pool (es : List (Nat × CpInfo)) (last : Nat) : Array CpInfo := ⟨poolList es last⟩
def fileOf (pool : Array CpInfo) (this : Nat) (attrs : Array Attribute := #[]) (ms : Array MethodInfo := #[]) (fl : Nat := 33) (sup : Nat := 0) (ifs : Array Nat := #[]) (fds : Array FieldInfo := #[]) : ClassFile where
  minorVersion := 0
  majorVersion := 65
  constantPool := pool
  accessFlags := fl
  thisClass := this
  superClass := sup
  interfaces := ifs
  fields := fds
  methods := ms
  attributes := attrs
def plain (name : String) (sup : Option ClassId) : Class where
  name := name
  kind := .ordinary
  loader := none
  accessFlags := 33
  super := sup
  interfaces := #[]
  cf := none
  fields := #[]
  methods := #[]
  instanceTypes := #[]
  staticTypes := #[]
  resolved := #[]
  callSites := []
  init := .initialized
  statics := none
  mirror := none

def pool0 : Array CpInfo := pool [(5, u "<init>"), (0, u "()V"), (1, .class_ 10), (1, u "java/lang/Object")] 113

def k0m0 : Method := { name := "<init>", desc := "()V", sig := { parameters := [], returnType := none }, accessFlags := 1, code := none }
/-- java/lang/Object -/
def k0 : Class := { plain "java/lang/Object" none with
  accessFlags := 33
  interfaces := #[]
  cf := some (fileOf pool0 8 #[] #[{ accessFlags := 1, nameIndex := 5, descriptorIndex := 6, attributes := #[] }] 33 0 #[] #[])
  fields := #[]
  methods := #[k0m0]
  instanceTypes := #[]
  staticTypes := #[]
  resolved := Array.replicate 124 none
  statics := none }

def pool1 : Array CpInfo := pool [(2, .class_ 4), (1, u "java/lang/Object"), (0, u "<init>"), (0, u "()V"), (0, .fieldref 8 9), (0, .class_ 10), (0, .nameAndType 11 12), (0, u "com/example/symvane/symvane/term/Sort"), (0, u "INT"), (0, u "Lcom/example/symvane/symvane/term/Sort;"), (0, .fieldref 8 14), (0, .nameAndType 15 12), (0, u "BOOL"), (0, .fieldref 8 17), (0, .nameAndType 18 12), (0, u "REAL"), (0, .fieldref 8 20), (0, .nameAndType 21 12), (0, u "STRING"), (0, .methodref 8 23), (0, .nameAndType 24 25), (0, u "toString"), (0, u "()Ljava/lang/String;"), (0, .string 27), (0, u "Int"), (0, .methodref 29 30), (0, .class_ 31), (0, .nameAndType 32 33), (0, u "java/lang/String"), (0, u "equals"), (0, u "(Ljava/lang/Object;)Z"), (0, .string 35), (0, u "Real"), (0, .methodref 8 37), (0, .nameAndType 38 39), (0, u "isNumeric"), (0, u "()Z"), (0, .class_ 41), (0, u "com/example/symvane/symvane/term/SortIsNumericPinLaw"), (2, u "law"), (0, u "(I)Z")] 3

def k1m0 : Method := { name := "<init>", desc := "()V", sig := { parameters := [], returnType := none }, accessFlags := 2, code := none }
def k1c1 : Code := { maxStack := 2, maxLocals := 6, code := code, exceptionTable := #[], attributes := #[] }
def k1m1 : Method := { name := "law", desc := "(I)Z", sig := { parameters := [.int], returnType := some .boolean }, accessFlags := 9, code := some k1c1 }
/-- com/example/symvane/symvane/term/SortIsNumericPinLaw -/
def k1 : Class := { plain "com/example/symvane/symvane/term/SortIsNumericPinLaw" (some 0) with
  accessFlags := 49
  interfaces := #[]
  cf := some (fileOf pool1 40 #[] #[{ accessFlags := 2, nameIndex := 5, descriptorIndex := 6, attributes := #[] }, { accessFlags := 9, nameIndex := 44, descriptorIndex := 45, attributes := #[] }] 49 2 #[] #[])
  fields := #[]
  methods := #[k1m0, k1m1]
  instanceTypes := #[]
  staticTypes := #[]
  resolved := Array.replicate 49 none
  statics := none }

def pool2 : Array CpInfo := pool [(1, .class_ 2), (0, u "java/lang/constant/Constable"), (0, .class_ 4), (0, u "java/lang/Object")] 6

/-- java/lang/constant/Constable -/
def k2 : Class := { plain "java/lang/constant/Constable" (some 0) with
  accessFlags := 1537
  interfaces := #[]
  cf := some (fileOf pool2 1 #[] #[] 1537 3 #[] #[])
  fields := #[]
  methods := #[]
  instanceTypes := #[]
  staticTypes := #[]
  resolved := Array.replicate 11 none
  statics := none }

def pool3 : Array CpInfo := pool [(1, .class_ 2), (0, u "java/lang/Comparable"), (0, .class_ 4), (0, u "java/lang/Object")] 7

/-- java/lang/Comparable -/
def k3 : Class := { plain "java/lang/Comparable" (some 0) with
  accessFlags := 1537
  interfaces := #[]
  cf := some (fileOf pool3 1 #[] #[] 1537 3 #[] #[])
  fields := #[]
  methods := #[]
  instanceTypes := #[]
  staticTypes := #[]
  resolved := Array.replicate 12 none
  statics := none }

def pool4 : Array CpInfo := pool [(1, .class_ 2), (0, u "java/io/Serializable"), (0, .class_ 4), (0, u "java/lang/Object")] 2

/-- java/io/Serializable -/
def k4 : Class := { plain "java/io/Serializable" (some 0) with
  accessFlags := 1537
  interfaces := #[]
  cf := some (fileOf pool4 1 #[] #[] 1537 3 #[] #[])
  fields := #[]
  methods := #[]
  instanceTypes := #[]
  staticTypes := #[]
  resolved := Array.replicate 7 none
  statics := none }

def pool5 : Array CpInfo := pool [(2, .class_ 4), (1, u "java/lang/Enum"), (0, u "name"), (0, u "Ljava/lang/String;"), (2, u "ordinal"), (0, u "I"), (1, .class_ 14), (1, u "java/lang/Object"), (4, u "hash"), (86, .class_ 108), (1, u "java/lang/Enum$EnumDesc"), (2, .class_ 112), (0, u "java/lang/constant/Constable"), (0, .class_ 114), (0, u "java/lang/Comparable"), (0, .class_ 116), (0, u "java/io/Serializable")] 87

/-- java/lang/Enum -/
def k5 : Class := { plain "java/lang/Enum" (some 0) with
  accessFlags := 1057
  interfaces := #[2, 3, 4]
  cf := some (fileOf pool5 2 #[.nestMembers #[106]] #[] 1057 12 #[111, 113, 115] #[{ accessFlags := 18, nameIndex := 5, descriptorIndex := 6, attributes := #[] }, { accessFlags := 18, nameIndex := 9, descriptorIndex := 10, attributes := #[] }, { accessFlags := 2, nameIndex := 19, descriptorIndex := 10, attributes := #[] }])
  fields := #[{ name := "name", type := (.object "java/lang/String"), accessFlags := 18, slot := 0, constantValue := 0 }, { name := "ordinal", type := .int, accessFlags := 18, slot := 1, constantValue := 0 }, { name := "hash", type := .int, accessFlags := 2, slot := 2, constantValue := 0 }]
  methods := #[]
  instanceTypes := #[(.object "java/lang/String"), .int, .int]
  staticTypes := #[]
  resolved := Array.replicate 204 none
  statics := none }

def pool6 : Array CpInfo := pool [(1, .class_ 2), (0, u "com/example/symvane/symvane/term/Sort"), (0, .fieldref 1 4), (0, .nameAndType 5 6), (0, u "INT"), (0, u "Lcom/example/symvane/symvane/term/Sort;"), (2, u "BOOL"), (0, .fieldref 1 11), (0, .nameAndType 12 6), (0, u "REAL"), (2, u "STRING"), (2, u "$VALUES"), (0, u "[Lcom/example/symvane/symvane/term/Sort;"), (6, .class_ 28), (1, u "java/lang/Enum"), (6, .fieldref 1 36), (0, .nameAndType 37 38), (0, u "smtName"), (0, u "Ljava/lang/String;"), (36, u "isNumeric"), (0, u "()Z"), (0, u "toString"), (0, u "()Ljava/lang/String;")] 5

def k6c0 : Code := { maxStack := 2, maxLocals := 1, code := prog_74_method_5_code, exceptionTable := #[], attributes := #[] }
def k6m0 : Method := { name := "isNumeric", desc := "()Z", sig := { parameters := [], returnType := some .boolean }, accessFlags := 1, code := some k6c0 }
def k6c1 : Code := { maxStack := 1, maxLocals := 1, code := prog_74_method_6_code, exceptionTable := #[], attributes := #[] }
def k6m1 : Method := { name := "toString", desc := "()Ljava/lang/String;", sig := { parameters := [], returnType := some (.object "java/lang/String") }, accessFlags := 1, code := some k6c1 }
/-- com/example/symvane/symvane/term/Sort -/
def k6 : Class := { plain "com/example/symvane/symvane/term/Sort" (some 5) with
  accessFlags := 16433
  interfaces := #[]
  cf := some (fileOf pool6 1 #[] #[{ accessFlags := 1, nameIndex := 75, descriptorIndex := 76, attributes := #[] }, { accessFlags := 1, nameIndex := 77, descriptorIndex := 78, attributes := #[] }] 16433 26 #[] #[{ accessFlags := 16409, nameIndex := 5, descriptorIndex := 6, attributes := #[] }, { accessFlags := 16409, nameIndex := 9, descriptorIndex := 6, attributes := #[] }, { accessFlags := 16409, nameIndex := 12, descriptorIndex := 6, attributes := #[] }, { accessFlags := 16409, nameIndex := 15, descriptorIndex := 6, attributes := #[] }, { accessFlags := 18, nameIndex := 37, descriptorIndex := 38, attributes := #[] }, { accessFlags := 4122, nameIndex := 18, descriptorIndex := 19, attributes := #[] }])
  fields := #[{ name := "INT", type := (.object "com/example/symvane/symvane/term/Sort"), accessFlags := 16409, slot := 0, constantValue := 0 }, { name := "BOOL", type := (.object "com/example/symvane/symvane/term/Sort"), accessFlags := 16409, slot := 1, constantValue := 0 }, { name := "REAL", type := (.object "com/example/symvane/symvane/term/Sort"), accessFlags := 16409, slot := 2, constantValue := 0 }, { name := "STRING", type := (.object "com/example/symvane/symvane/term/Sort"), accessFlags := 16409, slot := 3, constantValue := 0 }, { name := "smtName", type := (.object "java/lang/String"), accessFlags := 18, slot := 3, constantValue := 0 }, { name := "$VALUES", type := (.array (.object "com/example/symvane/symvane/term/Sort")), accessFlags := 4122, slot := 4, constantValue := 0 }]
  methods := #[k6m0, k6m1]
  instanceTypes := #[(.object "java/lang/String"), .int, .int, (.object "java/lang/String")]
  staticTypes := #[(.object "com/example/symvane/symvane/term/Sort"), (.object "com/example/symvane/symvane/term/Sort"), (.object "com/example/symvane/symvane/term/Sort"), (.object "com/example/symvane/symvane/term/Sort"), (.array (.object "com/example/symvane/symvane/term/Sort"))]
  resolved := Array.replicate 84 none
  statics := some 0 }

def pool7 : Array CpInfo := pool [(2, .class_ 4), (1, u "java/lang/CharSequence"), (42, .class_ 48), (0, u "java/lang/CharSequence$1CodePointIterator"), (10, .class_ 60), (0, u "java/lang/CharSequence$1CharIterator"), (5, .class_ 67), (0, u "java/lang/Object")] 63

/-- java/lang/CharSequence -/
def k7 : Class := { plain "java/lang/CharSequence" (some 0) with
  accessFlags := 1537
  interfaces := #[]
  cf := some (fileOf pool7 2 #[.nestMembers #[47, 59]] #[] 1537 66 #[] #[])
  fields := #[]
  methods := #[]
  instanceTypes := #[]
  staticTypes := #[]
  resolved := Array.replicate 131 none
  statics := none }

def pool8 : Array CpInfo := pool [(1, .class_ 2), (0, u "java/lang/constant/ConstantDesc"), (0, .class_ 4), (0, u "java/lang/Object")] 32

/-- java/lang/constant/ConstantDesc -/
def k8 : Class := { plain "java/lang/constant/ConstantDesc" (some 0) with
  accessFlags := 1537
  interfaces := #[]
  cf := some (fileOf pool8 1 #[] #[] 1537 3 #[] #[])
  fields := #[]
  methods := #[]
  instanceTypes := #[]
  staticTypes := #[]
  resolved := Array.replicate 37 none
  statics := none }

def pool9 : Array CpInfo := pool [(2, .class_ 4), (1, u "java/lang/Object"), (0, u "<init>"), (0, u "()V"), (2, .fieldref 10 11), (0, .class_ 12), (0, .nameAndType 13 14), (0, u "java/lang/String"), (0, u "value"), (0, u "[B"), (0, .fieldref 10 16), (0, .nameAndType 17 18), (0, u "coder"), (0, u "B"), (2, u "hash"), (0, u "I"), (2, u "hashIsZero"), (0, u "Z"), (11, .fieldref 10 39), (0, .nameAndType 40 26), (0, u "COMPACT_STRINGS"), (66, .class_ 109), (1, u "java/lang/StringLatin1"), (431, .methodref 107 542), (0, .nameAndType 543 544), (0, u "equals"), (0, u "([B[B)Z"), (28, u "(Ljava/lang/Object;)Z"), (1, .class_ 576), (0, u "java/lang/CharSequence"), (22, u "CASE_INSENSITIVE_ORDER"), (0, u "Ljava/util/Comparator;"), (500, u "serialPersistentFields"), (0, u "[Ljava/io/ObjectStreamField;"), (0, .class_ 1104), (0, u "java/lang/String$CaseInsensitiveComparator"), (1, .class_ 1107), (0, u "java/io/Serializable"), (0, .class_ 1109), (0, u "java/lang/Comparable"), (0, .class_ 1111), (0, u "java/lang/constant/Constable"), (0, .class_ 1113), (0, u "java/lang/constant/ConstantDesc"), (2, u "serialVersionUID"), (0, u "J"), (3, u "REPL"), (0, u "C"), (2, u "LATIN1"), (1, u "UTF16")] 323

def k9m0 : Method := { name := "<init>", desc := "()V", sig := { parameters := [], returnType := none }, accessFlags := 1, code := none }
def k9c1 : Code := { maxStack := 2, maxLocals := 3, code := jdk_42_method_66_code, exceptionTable := #[], attributes := #[] }
def k9m1 : Method := { name := "equals", desc := "(Ljava/lang/Object;)Z", sig := { parameters := [(.object "java/lang/Object")], returnType := some .boolean }, accessFlags := 1, code := some k9c1 }
/-- java/lang/String -/
def k9 : Class := { plain "java/lang/String" (some 0) with
  accessFlags := 49
  interfaces := #[4, 3, 7, 2, 8]
  cf := some (fileOf pool9 10 #[.nestMembers #[1103]] #[{ accessFlags := 1, nameIndex := 5, descriptorIndex := 6, attributes := #[] }, { accessFlags := 1, nameIndex := 543, descriptorIndex := 573, attributes := #[] }] 49 2 #[1106, 1108, 575, 1110, 1112] #[{ accessFlags := 18, nameIndex := 13, descriptorIndex := 14, attributes := #[] }, { accessFlags := 18, nameIndex := 17, descriptorIndex := 18, attributes := #[] }, { accessFlags := 2, nameIndex := 21, descriptorIndex := 22, attributes := #[] }, { accessFlags := 2, nameIndex := 25, descriptorIndex := 26, attributes := #[] }, { accessFlags := 26, nameIndex := 1116, descriptorIndex := 1117, attributes := #[] }, { accessFlags := 24, nameIndex := 40, descriptorIndex := 26, attributes := #[] }, { accessFlags := 26, nameIndex := 1101, descriptorIndex := 1102, attributes := #[] }, { accessFlags := 26, nameIndex := 1121, descriptorIndex := 1122, attributes := #[] }, { accessFlags := 25, nameIndex := 599, descriptorIndex := 600, attributes := #[] }, { accessFlags := 24, nameIndex := 1125, descriptorIndex := 18, attributes := #[] }, { accessFlags := 24, nameIndex := 1127, descriptorIndex := 18, attributes := #[] }])
  fields := #[{ name := "value", type := (.array .byte), accessFlags := 18, slot := 0, constantValue := 0 }, { name := "coder", type := .byte, accessFlags := 18, slot := 1, constantValue := 0 }, { name := "hash", type := .int, accessFlags := 2, slot := 2, constantValue := 0 }, { name := "hashIsZero", type := .boolean, accessFlags := 2, slot := 3, constantValue := 0 }, { name := "serialVersionUID", type := .long, accessFlags := 26, slot := 0, constantValue := 0 }, { name := "COMPACT_STRINGS", type := .boolean, accessFlags := 24, slot := 1, constantValue := 0 }, { name := "serialPersistentFields", type := (.array (.object "java/io/ObjectStreamField")), accessFlags := 26, slot := 2, constantValue := 0 }, { name := "REPL", type := .char, accessFlags := 26, slot := 3, constantValue := 0 }, { name := "CASE_INSENSITIVE_ORDER", type := (.object "java/util/Comparator"), accessFlags := 25, slot := 4, constantValue := 0 }, { name := "LATIN1", type := .byte, accessFlags := 24, slot := 5, constantValue := 0 }, { name := "UTF16", type := .byte, accessFlags := 24, slot := 6, constantValue := 0 }]
  methods := #[k9m0, k9m1]
  instanceTypes := #[(.array .byte), .byte, .int, .boolean]
  staticTypes := #[.long, .boolean, (.array (.object "java/io/ObjectStreamField")), .char, (.object "java/util/Comparator"), .byte, .byte]
  resolved := Array.replicate 1451 none
  statics := some 1 }

def pool10 : Array CpInfo := pool [(4, .class_ 6), (1, u "java/lang/Object"), (0, u "<init>"), (0, u "()V"), (5, .class_ 16), (1, u "java/lang/StringLatin1"), (104, u "$assertionsDisabled"), (0, u "Z"), (98, .class_ 223), (1, u "java/lang/StringLatin1$LinesSpliterator"), (57, u "equals"), (0, u "([B[B)Z"), (107, .class_ 391), (0, u "java/lang/StringLatin1$CharsSpliterator")] 3

def k10m0 : Method := { name := "<init>", desc := "()V", sig := { parameters := [], returnType := none }, accessFlags := 0, code := none }
def k10c1 : Code := { maxStack := 3, maxLocals := 3, code := jdk_43_method_13_code, exceptionTable := #[], attributes := #[] }
def k10m1 : Method := { name := "equals", desc := "([B[B)Z", sig := { parameters := [(.array .byte), (.array .byte)], returnType := some .boolean }, accessFlags := 9, code := some k10c1 }
/-- java/lang/StringLatin1 -/
def k10 : Class := { plain "java/lang/StringLatin1" (some 0) with
  accessFlags := 48
  interfaces := #[]
  cf := some (fileOf pool10 14 #[.nestMembers #[390, 221]] #[{ accessFlags := 0, nameIndex := 7, descriptorIndex := 8, attributes := #[] }, { accessFlags := 9, nameIndex := 281, descriptorIndex := 282, attributes := #[] }] 48 4 #[] #[{ accessFlags := 4120, nameIndex := 121, descriptorIndex := 122, attributes := #[] }])
  fields := #[{ name := "$assertionsDisabled", type := .boolean, accessFlags := 4120, slot := 0, constantValue := 0 }]
  methods := #[k10m0, k10m1]
  instanceTypes := #[]
  staticTypes := #[.boolean]
  resolved := Array.replicate 395 none
  statics := none }

def pool11 : Array CpInfo := pool [(2, .class_ 4), (1, u "java/lang/Object"), (0, u "<init>"), (0, u "()V"), (17, .class_ 26), (1, u "jdk/internal/util/Preconditions"), (28, .class_ 56), (0, u "jdk/internal/util/Preconditions$4"), (57, .class_ 115), (0, u "jdk/internal/util/Preconditions$1"), (7, u "SIOOBE_FORMATTER"), (0, u "Ljava/util/function/BiFunction;"), (0, .class_ 126), (0, u "jdk/internal/util/Preconditions$2"), (3, u "AIOOBE_FORMATTER"), (0, .class_ 132), (0, u "jdk/internal/util/Preconditions$3"), (3, u "IOOBE_FORMATTER")] 57

def k11m0 : Method := { name := "<init>", desc := "()V", sig := { parameters := [], returnType := none }, accessFlags := 1, code := none }
/-- jdk/internal/util/Preconditions -/
def k11 : Class := { plain "jdk/internal/util/Preconditions" (some 0) with
  accessFlags := 33
  interfaces := #[]
  cf := some (fileOf pool11 24 #[.nestMembers #[55, 131, 125, 114]] #[{ accessFlags := 1, nameIndex := 5, descriptorIndex := 6, attributes := #[] }] 33 2 #[] #[{ accessFlags := 25, nameIndex := 123, descriptorIndex := 124, attributes := #[] }, { accessFlags := 25, nameIndex := 130, descriptorIndex := 124, attributes := #[] }, { accessFlags := 25, nameIndex := 136, descriptorIndex := 124, attributes := #[] }])
  fields := #[{ name := "SIOOBE_FORMATTER", type := (.object "java/util/function/BiFunction"), accessFlags := 25, slot := 0, constantValue := 0 }, { name := "AIOOBE_FORMATTER", type := (.object "java/util/function/BiFunction"), accessFlags := 25, slot := 1, constantValue := 0 }, { name := "IOOBE_FORMATTER", type := (.object "java/util/function/BiFunction"), accessFlags := 25, slot := 2, constantValue := 0 }]
  methods := #[k11m0]
  instanceTypes := #[]
  staticTypes := #[(.object "java/util/function/BiFunction"), (.object "java/util/function/BiFunction"), (.object "java/util/function/BiFunction")]
  resolved := Array.replicate 194 none
  statics := some 2 }

def pool12 : Array CpInfo := pool [(9, u "<init>"), (6, .class_ 18), (1, u "java/lang/Object"), (0, u "()V"), (1, .class_ 23), (1, u "jdk/internal/util/ArraysSupport"), (0, u "LOG2_ARRAY_LONG_INDEX_SCALE"), (0, u "I"), (2, u "U"), (0, u "Ljdk/internal/misc/Unsafe;"), (8, u "BIG_ENDIAN"), (0, u "Z"), (8, u "LOG2_BYTE_BIT_SIZE"), (4, u "LOG2_ARRAY_INT_INDEX_SCALE"), (54, u "JLA"), (0, u "Ljdk/internal/access/JavaLangAccess;"), (11, u "LOG2_ARRAY_BOOLEAN_INDEX_SCALE"), (9, u "LOG2_ARRAY_BYTE_INDEX_SCALE"), (5, u "LOG2_ARRAY_CHAR_INDEX_SCALE"), (5, u "LOG2_ARRAY_SHORT_INDEX_SCALE"), (18, u "LOG2_ARRAY_FLOAT_INDEX_SCALE"), (24, u "LOG2_ARRAY_DOUBLE_INDEX_SCALE"), (89, u "T_BOOLEAN"), (2, u "T_CHAR"), (1, u "T_FLOAT"), (1, u "T_DOUBLE"), (1, u "T_BYTE"), (1, u "T_SHORT"), (1, u "T_INT"), (1, u "T_LONG"), (1, u "SOFT_MAX_ARRAY_LENGTH")] 83

def k12m0 : Method := { name := "<init>", desc := "()V", sig := { parameters := [], returnType := none }, accessFlags := 2, code := none }
/-- jdk/internal/util/ArraysSupport -/
def k12 : Class := { plain "jdk/internal/util/ArraysSupport" (some 0) with
  accessFlags := 33
  interfaces := #[]
  cf := some (fileOf pool12 21 #[] #[{ accessFlags := 2, nameIndex := 9, descriptorIndex := 19, attributes := #[] }] 33 16 #[] #[{ accessFlags := 24, nameIndex := 28, descriptorIndex := 29, attributes := #[] }, { accessFlags := 26, nameIndex := 38, descriptorIndex := 39, attributes := #[] }, { accessFlags := 25, nameIndex := 121, descriptorIndex := 25, attributes := #[] }, { accessFlags := 25, nameIndex := 131, descriptorIndex := 25, attributes := #[] }, { accessFlags := 25, nameIndex := 137, descriptorIndex := 25, attributes := #[] }, { accessFlags := 25, nameIndex := 143, descriptorIndex := 25, attributes := #[] }, { accessFlags := 25, nameIndex := 53, descriptorIndex := 25, attributes := #[] }, { accessFlags := 25, nameIndex := 24, descriptorIndex := 25, attributes := #[] }, { accessFlags := 25, nameIndex := 162, descriptorIndex := 25, attributes := #[] }, { accessFlags := 25, nameIndex := 187, descriptorIndex := 25, attributes := #[] }, { accessFlags := 26, nameIndex := 48, descriptorIndex := 25, attributes := #[] }, { accessFlags := 25, nameIndex := 277, descriptorIndex := 25, attributes := #[] }, { accessFlags := 25, nameIndex := 280, descriptorIndex := 25, attributes := #[] }, { accessFlags := 25, nameIndex := 282, descriptorIndex := 25, attributes := #[] }, { accessFlags := 25, nameIndex := 284, descriptorIndex := 25, attributes := #[] }, { accessFlags := 25, nameIndex := 286, descriptorIndex := 25, attributes := #[] }, { accessFlags := 25, nameIndex := 288, descriptorIndex := 25, attributes := #[] }, { accessFlags := 25, nameIndex := 290, descriptorIndex := 25, attributes := #[] }, { accessFlags := 25, nameIndex := 292, descriptorIndex := 25, attributes := #[] }, { accessFlags := 26, nameIndex := 108, descriptorIndex := 109, attributes := #[] }, { accessFlags := 25, nameIndex := 294, descriptorIndex := 25, attributes := #[] }])
  fields := #[{ name := "U", type := (.object "jdk/internal/misc/Unsafe"), accessFlags := 24, slot := 0, constantValue := 0 }, { name := "BIG_ENDIAN", type := .boolean, accessFlags := 26, slot := 1, constantValue := 0 }, { name := "LOG2_ARRAY_BOOLEAN_INDEX_SCALE", type := .int, accessFlags := 25, slot := 2, constantValue := 0 }, { name := "LOG2_ARRAY_BYTE_INDEX_SCALE", type := .int, accessFlags := 25, slot := 3, constantValue := 0 }, { name := "LOG2_ARRAY_CHAR_INDEX_SCALE", type := .int, accessFlags := 25, slot := 4, constantValue := 0 }, { name := "LOG2_ARRAY_SHORT_INDEX_SCALE", type := .int, accessFlags := 25, slot := 5, constantValue := 0 }, { name := "LOG2_ARRAY_INT_INDEX_SCALE", type := .int, accessFlags := 25, slot := 6, constantValue := 0 }, { name := "LOG2_ARRAY_LONG_INDEX_SCALE", type := .int, accessFlags := 25, slot := 7, constantValue := 0 }, { name := "LOG2_ARRAY_FLOAT_INDEX_SCALE", type := .int, accessFlags := 25, slot := 8, constantValue := 0 }, { name := "LOG2_ARRAY_DOUBLE_INDEX_SCALE", type := .int, accessFlags := 25, slot := 9, constantValue := 0 }, { name := "LOG2_BYTE_BIT_SIZE", type := .int, accessFlags := 26, slot := 10, constantValue := 0 }, { name := "T_BOOLEAN", type := .int, accessFlags := 25, slot := 11, constantValue := 0 }, { name := "T_CHAR", type := .int, accessFlags := 25, slot := 12, constantValue := 0 }, { name := "T_FLOAT", type := .int, accessFlags := 25, slot := 13, constantValue := 0 }, { name := "T_DOUBLE", type := .int, accessFlags := 25, slot := 14, constantValue := 0 }, { name := "T_BYTE", type := .int, accessFlags := 25, slot := 15, constantValue := 0 }, { name := "T_SHORT", type := .int, accessFlags := 25, slot := 16, constantValue := 0 }, { name := "T_INT", type := .int, accessFlags := 25, slot := 17, constantValue := 0 }, { name := "T_LONG", type := .int, accessFlags := 25, slot := 18, constantValue := 0 }, { name := "JLA", type := (.object "jdk/internal/access/JavaLangAccess"), accessFlags := 26, slot := 19, constantValue := 0 }, { name := "SOFT_MAX_ARRAY_LENGTH", type := .int, accessFlags := 25, slot := 20, constantValue := 0 }]
  methods := #[k12m0]
  instanceTypes := #[]
  staticTypes := #[(.object "jdk/internal/misc/Unsafe"), .boolean, .int, .int, .int, .int, .int, .int, .int, .int, .int, .int, .int, .int, .int, .int, .int, .int, .int, (.object "jdk/internal/access/JavaLangAccess"), .int]
  resolved := Array.replicate 378 none
  statics := none }

def pool13 : Array CpInfo := pool [(1, u "java/lang/Cloneable"), (0, .class_ 1), (0, u "java/lang/Object"), (0, .class_ 3)] 3

/-- java/lang/Cloneable -/
def k13 : Class := { plain "java/lang/Cloneable" (some 0) with
  accessFlags := 1537
  interfaces := #[]
  cf := some (fileOf pool13 2 #[] #[] 1537 4 #[] #[])
  fields := #[]
  methods := #[]
  instanceTypes := #[]
  staticTypes := #[]
  resolved := Array.replicate 8 none
  statics := none }

/-- the primitive byte -/
def k14 : Class := { plain "byte" none with kind := .primitive 'B', accessFlags := 0x411 }
/-- [B -/
def k15 : Class := { plain "[B" (some 0) with kind := .array 14 .byte, interfaces := #[13, 4], accessFlags := 1041 }

/-- the primitive int -/
def k16 : Class := { plain "int" none with kind := .primitive 'I', accessFlags := 0x411 }
/-- [I -/
def k17 : Class := { plain "[I" (some 0) with kind := .array 16 .int, interfaces := #[13, 4], accessFlags := 1041 }

def heap : Heap := #[{ cls := 6, slots := #[.ref 3, .ref 4, .ref 5, .ref 6, .null], vm := .statics 6 },
  { cls := 9, slots := #[.long 0, .int 1, .null, .int 0, .null, .int 0, .int 0], vm := .statics 9 },
  { cls := 11, slots := #[.null, .null, .null], vm := .statics 11 },
  { cls := 6, slots := #[.null, .int 0, .int 0, .ref 7], vm := .none },
  { cls := 6, slots := #[.null, .int 1, .int 0, .ref 8], vm := .none },
  { cls := 6, slots := #[.null, .int 2, .int 0, .ref 9], vm := .none },
  { cls := 6, slots := #[.null, .int 3, .int 0, .ref 10], vm := .none },
  { cls := 9, slots := #[.ref 11, .int 0, .int 0, .int 0], vm := .none },
  { cls := 9, slots := #[.ref 12, .int 0, .int 0, .int 0], vm := .none },
  { cls := 9, slots := #[.ref 13, .int 0, .int 0, .int 0], vm := .none },
  { cls := 9, slots := #[.ref 14, .int 0, .int 0, .int 0], vm := .none },
  { cls := 15, slots := #[.int 73, .int 110, .int 116], vm := .none },
  { cls := 15, slots := #[.int 66, .int 111, .int 111, .int 108], vm := .none },
  { cls := 15, slots := #[.int 82, .int 101, .int 97, .int 108], vm := .none },
  { cls := 15, slots := #[.int 83, .int 116, .int 114, .int 105, .int 110, .int 103], vm := .none }]
def classes : Array Class := #[k0, k1, k2, k3, k4, k5, k6, k7, k8, k9, k10, k11, k12, k13, k14, k15, k16, k17]
def interned : List (Array UInt16 × Addr) := []
def slotsUsed : Nat := 64
def theMethod : MethodId := ⟨1, 1⟩
def args0 : Array Value := #[.int 1]
def aboutOver (below : List Frame) : State where
  vm := { classes := classes, interned := interned.toArray }
  heap := heap
  slotsUsed := slotsUsed
  threads := #[{ frames := .invoking theMethod args0 :: below }]
def below0 : List Frame := [.native { method := ⟨0, 0⟩, args := #[] }]
def about1 : State := aboutOver below0
def p0 : Program := .bare "" "" ""
def e0 : Env := launch0.env 0 0 0
theorem w_frames : about1.frames = Frame.invoking theMethod args0 :: below0 := rfl
set_option maxRecDepth 65536 in
theorem w_args : argsFit about1.vm theMethod args0 = true := by decide +kernel
set_option maxRecDepth 65536 in
theorem w_heap : heapFits about1 = true := by decide +kernel
set_option maxRecDepth 65536 in
theorem w_runnable : about1.curStatus? = some .runnable := by decide +kernel
set_option maxRecDepth 65536 in
theorem w_alone : about1.alone = true := by decide +kernel
set_option maxRecDepth 65536 in
theorem w_named : about1.methodNamed? x = some theMethod := by decide +kernel
set_option maxRecDepth 65536 in
theorem w_hears : about1.hears theMethod below0 = true := by decide +kernel
set_option maxRecDepth 65536 in
theorem w_ripe : about1.ripe theMethod args0 below0 = true := by decide +kernel
theorem w_running : about1.status = .running := rfl
set_option maxRecDepth 65536 in
theorem w_room : about1.hasRoom e0.platform room_1 = true :=
  launch0.hasRoom_least _ room_1 (by decide +kernel) (by decide +kernel) (by decide +kernel) (by decide +kernel) (by decide +kernel) (by decide +kernel)
theorem allAtoms_all (ts : List Jvm.Cond) (a : Array Jvm.Value) (st : Jvm.State) : (allAtoms ts).before a st = ts.all (fun c => c.before a st) := by
  induction ts with
  | nil => rfl
  | cons c t ih =>
    show (Jvm.Cond.and c (allAtoms t)).before a st = _
    rw [Jvm.Cond.before_and, ih, List.all_cons]
def words1 : List Jvm.Cond := Jvm.Cond.code x code maxLocals ret :: tables_1
/-- a 'code' word, met by the world's own term for the bytes: nothing is compared byte by byte -/
theorem code_word {y : MethodName} {bytes : ByteArray} {mx : Nat} {rt : Option FieldType} {a : Array Value} {s : State} {m : MethodId} {meth : Method} {c : Code} (h1 : s.methodNamed? y = some m) (h2 : s.vm.method? m = some meth) (h3 : meth.code = some c) (h4 : c.code = bytes)
    (h5 : (c.maxLocals == mx && c.exceptionTable.isEmpty && decide (c.maxStack ≤ mostOperands) && decide (meth.sig.returnType = rt) && !meth.locks && decide (parseMethodDescriptor y.desc = some meth.sig)) = true) : (Jvm.Cond.code y bytes mx rt).before a s = true := by
  simp only [Bool.and_eq_true, beq_iff_eq, Bool.not_eq_true', decide_eq_true_eq] at h5
  obtain ⟨⟨⟨⟨⟨g1, g2⟩, g3⟩, g4⟩, g5⟩, g6⟩ := h5
  simp [Cond.before, Cond.holds, Cond.value, h1, h2, h3, h4, g1, g2, g3, g4, g5, g6]
def isCode : Jvm.Cond → Bool
  | .code _ _ _ _ => true
  | _ => false
theorem all_split {L : List Jvm.Cond} {P : Jvm.Cond → Bool} (h1 : L.all (fun c => isCode c || P c) = true) (h2 : ∀ c ∈ L.filter isCode, P c = true) : L.all P = true := by
  refine List.all_eq_true.mpr fun c hc => ?_
  have h := List.all_eq_true.mp h1 c hc
  rcases Bool.eq_false_or_eq_true (isCode c) with hi | hi
  · exact h2 c (List.mem_filter.mpr ⟨hc, hi⟩)
  · simpa [hi] using h
set_option maxRecDepth 65536 in
theorem w_c0 : (Jvm.Cond.code x code maxLocals ret).before args0 about1 = true := code_word (m := ⟨1, 1⟩) (meth := k1m1) (c := k1c1) (by decide +kernel) rfl rfl rfl (by decide +kernel)
set_option maxRecDepth 65536 in
theorem w_c1 : (Jvm.Cond.code ({ cls := "com/example/symvane/symvane/term/Sort", name := "toString", desc := "()Ljava/lang/String;" } : Jvm.MethodName) prog_74_method_6_code (1 : Nat) (Option.some (Jvm.ClassFile.FieldType.object "java/lang/String"))).before args0 about1 = true := code_word (m := ⟨6, 1⟩) (meth := k6m1) (c := k6c1) (by decide +kernel) rfl rfl rfl (by decide +kernel)
set_option maxRecDepth 65536 in
theorem w_c2 : (Jvm.Cond.code ({ cls := "java/lang/String", name := "equals", desc := "(Ljava/lang/Object;)Z" } : Jvm.MethodName) jdk_42_method_66_code (3 : Nat) (Option.some Jvm.ClassFile.FieldType.boolean)).before args0 about1 = true := code_word (m := ⟨9, 1⟩) (meth := k9m1) (c := k9c1) (by decide +kernel) rfl rfl rfl (by decide +kernel)
set_option maxRecDepth 65536 in
theorem w_c3 : (Jvm.Cond.code ({ cls := "java/lang/StringLatin1", name := "equals", desc := "([B[B)Z" } : Jvm.MethodName) jdk_43_method_13_code (3 : Nat) (Option.some Jvm.ClassFile.FieldType.boolean)).before args0 about1 = true := code_word (m := ⟨10, 1⟩) (meth := k10m1) (c := k10c1) (by decide +kernel) rfl rfl rfl (by decide +kernel)
set_option maxRecDepth 65536 in
theorem w_c4 : (Jvm.Cond.code ({ cls := "com/example/symvane/symvane/term/Sort", name := "isNumeric", desc := "()Z" } : Jvm.MethodName) prog_74_method_5_code (1 : Nat) (Option.some Jvm.ClassFile.FieldType.boolean)).before args0 about1 = true := code_word (m := ⟨6, 0⟩) (meth := k6m0) (c := k6c0) (by decide +kernel) rfl rfl rfl (by decide +kernel)
def codes1 : List Jvm.Cond := [Jvm.Cond.code x code maxLocals ret, Jvm.Cond.code ({ cls := "com/example/symvane/symvane/term/Sort", name := "toString", desc := "()Ljava/lang/String;" } : Jvm.MethodName) prog_74_method_6_code (1 : Nat) (Option.some (Jvm.ClassFile.FieldType.object "java/lang/String")), Jvm.Cond.code ({ cls := "java/lang/String", name := "equals", desc := "(Ljava/lang/Object;)Z" } : Jvm.MethodName) jdk_42_method_66_code (3 : Nat) (Option.some Jvm.ClassFile.FieldType.boolean), Jvm.Cond.code ({ cls := "java/lang/StringLatin1", name := "equals", desc := "([B[B)Z" } : Jvm.MethodName) jdk_43_method_13_code (3 : Nat) (Option.some Jvm.ClassFile.FieldType.boolean), Jvm.Cond.code ({ cls := "com/example/symvane/symvane/term/Sort", name := "isNumeric", desc := "()Z" } : Jvm.MethodName) prog_74_method_5_code (1 : Nat) (Option.some Jvm.ClassFile.FieldType.boolean)]
set_option maxRecDepth 65536 in
theorem codes_eq : words1.filter isCode = codes1 := rfl
theorem w_codes : ∀ c ∈ words1.filter isCode, c.before args0 about1 = true := by
  rw [codes_eq]
  intro c hc
  simp only [codes1, List.mem_cons, List.not_mem_nil, or_false] at hc
  rcases hc with rfl | rfl | rfl | rfl | rfl
  · exact w_c0
  · exact w_c1
  · exact w_c2
  · exact w_c3
  · exact w_c4
set_option maxRecDepth 65536 in
theorem w_t1 : (words1.take 24).all (fun c => isCode c || c.before args0 about1) = true := by decide +kernel
set_option maxRecDepth 65536 in
theorem w_t2 : (words1.drop 24).all (fun c => isCode c || c.before args0 about1) = true := by decide +kernel
theorem w_tables : (allAtoms (Jvm.Cond.code x code maxLocals ret :: tables_1)).before args0 about1 = true := by
  rw [allAtoms_all]
  show words1.all (fun c => c.before args0 about1) = true
  refine all_split ?_ w_codes
  rw [← List.take_append_drop 24 words1, List.all_append, w_t1, w_t2]
  rfl
set_option maxRecDepth 65536 in
theorem w_rest : rest_1_c.before args0 about1 = true := by decide +kernel
set_option maxRecDepth 65536 in
theorem w_case : (Jvm.Cond.and given_1 narrow_1).before args0 about1 = true := by decide +kernel
set_option maxRecDepth 65536 in
theorem w_consts : constsHeld consts_1 about1 := Jvm.Lit.constsHeldB_iff.mp (by decide +kernel)
theorem w_applies : (headSpec (Jvm.Cond.code x code maxLocals ret :: tables_1) room_1).applies x e0.platform about1 = true :=
  (Spec.applies_iff w_frames).mpr ⟨w_running, w_runnable, w_alone, w_named, w_hears, w_ripe, w_room, w_tables⟩
theorem atStart : AtStart classFile x code maxLocals ret World_1 tables_1 room_1 Calls_1 rest_1 Pre_1 launch0 p0 e0 about1 theMethod args0 below0 :=
  ⟨lists_1, trivial, launch0.admits_env _ _ _, launch0.least_env, fairChoices_fair.cas, fairChoices_fair.clock, w_frames, w_args, w_heap, w_applies, ⟨w_consts, trivial⟩, w_rest, w_case⟩
end start1
theorem witness_1 : WitnessClaimed_1 := ⟨start1.p0, start1.e0, start1.about1, start1.theMethod, start1.args0, start1.below0, start1.atStart⟩
end Jvm.Pilot.@@N@@
